import JvmDerived
import JvmDerived.Pilot.@@N@@Statement
import JvmDerived.Pilot.@@N@@Code
set_option linter.unusedVariables false
set_option linter.unusedSimpArgs false
@@BLOCK:NumsL.lean.txt@@
namespace Jvm.Pilot.@@N@@
open Jvm Jvm.ClassFile Sem Op Lib Jvm.Free Jvm.Stand Jvm.LawKit Jvm.RoadKit Bundle Jvm.Pilot.@@N@@.Jvm.D
section OwnLayer
/-- the surroundings of a walk: what stays the same from step to step -/
def Cx (p : Program) (s : State) (m : MethodId) (meth : Method) (c : Code) (Z : State) (own : String) (bs : ByteArray) (mx : Nat) (rt : Option FieldType) (nm : String) : Prop :=
  p.tables.exec = Jvm.exec ∧ c.code = bs ∧ c.maxLocals = mx ∧ Z.Warmed39 s.vm ∧ s.vm.findClass own = some m.cls ∧ meth.sig.returnType = rt ∧ meth.locks = false ∧ meth.name = nm
/-- wherever the walk stands with heap h and top frame g, it comes to its end, and Q holds there -/
def Go (p : Program) (l : Launch) (e : Env) (R : Room) (s : State) (m : MethodId) (args : Array Value) (below : List Frame) (meth : Method) (c : Code) (n0 : Nat) (Q : Option Value → Heap → Prop) (K N : Nat) (h : Heap) (ce sl : Nat) (g : JFrame) : Prop :=
  ∀ (T : State) (locs : List Loc), Stand p l e R s m args below meth c T locs ce sl → T.heap = h → Fr n0 locs →
    ∃ s₂ o, Steps p.tables e below (T.setTop g) s₂ ∧ s₂.status = .running ∧ Ended s₂ below o ∧ ∃ v L, o = .returned v ∧ (Q v s₂.heap ∧ Fr n0 L) ∧ FrameEnd s o s₂ L K N
/-- a method's contract, for given arguments and a given heap -/
def Sat (l : Launch) (Z : State) (y : MethodName) (bs : ByteArray) (mx : Nat) (rt : Option FieldType) (rm : Room) (as : List Value) (h0 : Heap) (n0 : Nat) (Q : Option Value → Heap → Prop) : Prop :=
  ∀ ws : List Jvm.Cond, MetFree l y (head1 (Jvm.Cond.code y bs mx rt :: ws) rm) (fun a U => a = as.toArray ∧ Z.Warmed39 U.vm ∧ U.heap = h0) (fun _ _ _ _ _ => True) (fun _ U o U' => ∃ v L, o = .returned v ∧ (Q v U'.heap ∧ Fr n0 L) ∧ FrameEnd U o U' L rm.cells rm.slots)
def RV (P : Value → Heap → Prop) : Option Value → Heap → Prop := fun v h => ∃ r, v = some r ∧ P r h
def RN (P : Heap → Prop) : Option Value → Heap → Prop := fun v h => v = none ∧ P h
def wt (st : List Value) : Nat := (st.map fun v => v.category).sum
def bi (P : Prop) [Decidable P] : Int32 := if P then 1 else 0
theorem bi_t {P : Prop} [Decidable P] (h : P) : bi P = 1 := if_pos h
theorem bi_f {P : Prop} [Decidable P] (h : ¬ P) : bi P = 0 := if_neg h
theorem bi1 {P : Prop} [Decidable P] (h : P) : (1 : Int32) = bi P := (if_pos h).symm
theorem bi0 {P : Prop} [Decidable P] (h : ¬ P) : (0 : Int32) = bi P := (if_neg h).symm
theorem bi_congr {P P' : Prop} [Decidable P] [Decidable P'] (h : P ↔ P') : bi P = bi P' := by
  by_cases q : P
  · rw [bi_t q, bi_t (h.mp q)]
  · rw [bi_f q, bi_f fun z => q (h.mpr z)]
theorem bi_nar (P : Prop) [Decidable P] : nar .boolean (bi P) = bi P := by
  by_cases q : P
  · rw [bi_t q]; rfl
  · rw [bi_f q]; rfl
theorem bi_inj {P P' : Prop} [Decidable P] [Decidable P'] (h : bi P = bi P') : P ↔ P' := by
  by_cases q : P <;> by_cases q' : P' <;> simp_all [bi]
theorem bi_narrow (P : Prop) [Decidable P] : narrow .boolean (.int (bi P)) = .int (bi P) := by
  by_cases q : P
  · rw [bi_t q]; rfl
  · rw [bi_f q]; rfl
theorem bi_fits (P : Prop) [Decidable P] : fits .boolean (.int (bi P)) = true := by
  by_cases q : P
  · rw [bi_t q]; rfl
  · rw [bi_f q]; rfl
theorem bi_toInt (P : Prop) [Decidable P] : (bi P).toInt = if P then 1 else 0 := by
  by_cases q : P
  · rw [bi_t q, if_pos q]; rfl
  · rw [bi_f q, if_neg q]; rfl
theorem own_add_t {P : Prop} [Decidable P] (n : Int32) (h : P) : n + 1 = n + bi P := by rw [bi_t h]
theorem own_add_f {P : Prop} [Decidable P] (n : Int32) (h : ¬ P) : n = n + bi P := by rw [bi_f h, Int32.add_zero]
theorem own_narrow_arr {v : Value} {t : FieldType} (h : v.isRef = true) : narrow (.array t) v = v := by
  cases v <;> first | rfl | simp [Value.isRef] at h
theorem own_fits_arr {v : Value} {t : FieldType} (h : v.isRef = true) : fits (.array t) v = true := by
  cases v <;> first | rfl | simp [Value.isRef] at h
theorem own_bb (x : Int32) : x.toInt8.toInt32.toInt8.toInt32 = x.toInt8.toInt32 := by simp
theorem own_ne_new {h : Heap} {a b : Addr} (q : b < h.size) (g : h.size = a) : b ≠ a := Nat.ne_of_lt (g ▸ q)
theorem own_ge {h : Heap} {a : Addr} {n : Nat} (q : n ≤ h.size) (g : h.size = a) : n ≤ a := g ▸ q
theorem int_eq {x y : Int32} (h : x.toInt = y.toInt) : x = y := Int32.toInt_inj.mp h
theorem long_eq {x y : Int64} (h : x.toInt = y.toInt) : x = y := Int64.toInt_inj.mp h
section Walk
variable {p : Program} {l : Launch} {e : Env} {R : Room} {s : State} {m : MethodId} {args : Array Value} {below : List Frame} {meth : Method} {c : Code} {Z : State} {a0 : Array Value} {own : String} {bs : ByteArray} {mx : Nat} {rt : Option FieldType} {nm : String} {n0 : Nat} {Q : Option Value → Heap → Prop} {K N : Nat} {h : Heap} {ce sl : Nat} {pc pc' : Nat} {Ls Ls' : Array Slot} {st : List Value} {g g' : JFrame}
theorem Go.step (H : ∀ (T : State), At T m c below → ∀ target, Steps p.tables e below (T.setTop g') target → Steps p.tables e below (T.setTop g) target) (hr : Go p l e R s m args below meth c n0 Q K N h ce sl g') : Go p l e R s m args below meth c n0 Q K N h ce sl g := fun T locs X eT Nn => by
  obtain ⟨s₂, o, h1, r⟩ := hr T locs X eT Nn
  exact ⟨s₂, o, H T X.here _ h1, r⟩
theorem Go.stepX (H : ∀ (T : State) (locs : List Loc), Stand p l e R s m args below meth c T locs ce sl → T.heap = h → ∀ target, Steps p.tables e below (T.setTop g') target → Steps p.tables e below (T.setTop g) target) (hr : Go p l e R s m args below meth c n0 Q K N h ce sl g') : Go p l e R s m args below meth c n0 Q K N h ce sl g := fun T locs X eT Nn => by
  obtain ⟨s₂, o, h1, r⟩ := hr T locs X eT Nn
  exact ⟨s₂, o, H T locs X eT _ h1, r⟩
theorem Go.more {ce' sl' : Nat} (hc : ce ≤ ce') (hs : sl ≤ sl') (hr : Go p l e R s m args below meth c n0 Q K N h ce' sl' g) : Go p l e R s m args below meth c n0 Q K N h ce sl g := fun T locs X eT Nn => hr T locs (X.more hc hs) eT Nn
theorem go_iloadN (C : Cx p s m meth c Z own bs mx rt nm) {k : Fin 4} {v : Int32} (hd : decode bs pc = .ok (.iload_n k, 1)) (hp : pc + 1 = pc') (hl : Ls[k.val]? = some (.val (.int v))) (hr : Go p l e R s m args below meth c n0 Q K N h ce sl (mkF m pc' Ls (.int v :: st))) : Go p l e R s m args below meth c n0 Q K N h ce sl (mkF m pc Ls st) := by
  subst hp
  exact Go.step (fun T A _ q => XS.iloadN A C.1 rfl (hb C.2.1 hd) hl q) hr
theorem go_iload (C : Cx p s m meth c Z own bs mx rt nm) {k : Nat} {v : Int32} (hd : decode bs pc = .ok (.iload k, 2)) (hp : pc + 2 = pc') (hl : Ls[k]? = some (.val (.int v))) (hr : Go p l e R s m args below meth c n0 Q K N h ce sl (mkF m pc' Ls (.int v :: st))) : Go p l e R s m args below meth c n0 Q K N h ce sl (mkF m pc Ls st) := by
  subst hp
  exact Go.step (fun T A _ q => XS.iload A C.1 rfl (hb C.2.1 hd) hl q) hr
theorem go_lloadN (C : Cx p s m meth c Z own bs mx rt nm) {k : Fin 4} {v : Int64} (hd : decode bs pc = .ok (.lload_n k, 1)) (hp : pc + 1 = pc') (hl : Ls[k.val]? = some (.val (.long v))) (hr : Go p l e R s m args below meth c n0 Q K N h ce sl (mkF m pc' Ls (.long v :: st))) : Go p l e R s m args below meth c n0 Q K N h ce sl (mkF m pc Ls st) := by
  subst hp
  exact Go.step (fun T A _ q => XT.lloadN A C.1 rfl (hb C.2.1 hd) hl q) hr
theorem go_lload (C : Cx p s m meth c Z own bs mx rt nm) {k : Nat} {v : Int64} (hd : decode bs pc = .ok (.lload k, 2)) (hp : pc + 2 = pc') (hl : Ls[k]? = some (.val (.long v))) (hr : Go p l e R s m args below meth c n0 Q K N h ce sl (mkF m pc' Ls (.long v :: st))) : Go p l e R s m args below meth c n0 Q K N h ce sl (mkF m pc Ls st) := by
  subst hp
  exact Go.step (fun T A _ q => XT.lload A C.1 rfl (hb C.2.1 hd) hl q) hr
theorem go_aloadN (C : Cx p s m meth c Z own bs mx rt nm) {k : Fin 4} {v : Value} (hd : decode bs pc = .ok (.aload_n k, 1)) (hp : pc + 1 = pc') (hl : Ls[k.val]? = some (.val v)) (hv : v.isRef = true) (hr : Go p l e R s m args below meth c n0 Q K N h ce sl (mkF m pc' Ls (v :: st))) : Go p l e R s m args below meth c n0 Q K N h ce sl (mkF m pc Ls st) := by
  subst hp
  exact Go.step (fun T A _ q => XS.aloadN A C.1 rfl (hb C.2.1 hd) hl hv q) hr
theorem go_aload (C : Cx p s m meth c Z own bs mx rt nm) {k : Nat} {v : Value} (hd : decode bs pc = .ok (.aload k, 2)) (hp : pc + 2 = pc') (hl : Ls[k]? = some (.val v)) (hv : v.isRef = true) (hr : Go p l e R s m args below meth c n0 Q K N h ce sl (mkF m pc' Ls (v :: st))) : Go p l e R s m args below meth c n0 Q K N h ce sl (mkF m pc Ls st) := by
  subst hp
  exact Go.step (fun T A _ q => XS.aload A C.1 rfl (hb C.2.1 hd) hl hv q) hr
theorem go_istoreN (C : Cx p s m meth c Z own bs mx rt nm) {k : Fin 4} {v : Int32} (hd : decode bs pc = .ok (.istore_n k, 1)) (hp : pc + 1 = pc') (hl : storeLocals Ls k.val (.int v) = some Ls') (hr : Go p l e R s m args below meth c n0 Q K N h ce sl (mkF m pc' Ls' st)) : Go p l e R s m args below meth c n0 Q K N h ce sl (mkF m pc Ls (.int v :: st)) := by
  subst hp
  exact Go.step (fun T A _ q => XS.istoreN A C.1 rfl (hb C.2.1 hd) rfl hl q) hr
theorem go_istore (C : Cx p s m meth c Z own bs mx rt nm) {k : Nat} {v : Int32} (hd : decode bs pc = .ok (.istore k, 2)) (hp : pc + 2 = pc') (hl : storeLocals Ls k (.int v) = some Ls') (hr : Go p l e R s m args below meth c n0 Q K N h ce sl (mkF m pc' Ls' st)) : Go p l e R s m args below meth c n0 Q K N h ce sl (mkF m pc Ls (.int v :: st)) := by
  subst hp
  exact Go.step (fun T A _ q => XS.istore A C.1 rfl (hb C.2.1 hd) rfl hl q) hr
theorem go_lstoreN (C : Cx p s m meth c Z own bs mx rt nm) {k : Fin 4} {v : Int64} (hd : decode bs pc = .ok (.lstore_n k, 1)) (hp : pc + 1 = pc') (hl : storeLocals Ls k.val (.long v) = some Ls') (hr : Go p l e R s m args below meth c n0 Q K N h ce sl (mkF m pc' Ls' st)) : Go p l e R s m args below meth c n0 Q K N h ce sl (mkF m pc Ls (.long v :: st)) := by
  subst hp
  exact Go.step (fun T A _ q => XT.lstoreN A C.1 rfl (hb C.2.1 hd) rfl hl q) hr
theorem go_lstore (C : Cx p s m meth c Z own bs mx rt nm) {k : Nat} {v : Int64} (hd : decode bs pc = .ok (.lstore k, 2)) (hp : pc + 2 = pc') (hl : storeLocals Ls k (.long v) = some Ls') (hr : Go p l e R s m args below meth c n0 Q K N h ce sl (mkF m pc' Ls' st)) : Go p l e R s m args below meth c n0 Q K N h ce sl (mkF m pc Ls (.long v :: st)) := by
  subst hp
  exact Go.step (fun T A _ q => XT.lstore A C.1 rfl (hb C.2.1 hd) rfl hl q) hr
theorem go_astoreN (C : Cx p s m meth c Z own bs mx rt nm) {k : Fin 4} {v : Value} (hd : decode bs pc = .ok (.astore_n k, 1)) (hp : pc + 1 = pc') (hv : v.isRef = true) (hl : storeLocals Ls k.val v = some Ls') (hr : Go p l e R s m args below meth c n0 Q K N h ce sl (mkF m pc' Ls' st)) : Go p l e R s m args below meth c n0 Q K N h ce sl (mkF m pc Ls (v :: st)) := by
  subst hp
  exact Go.step (fun T A _ q => XS.astoreN A C.1 rfl (hb C.2.1 hd) rfl hv hl q) hr
theorem go_astore (C : Cx p s m meth c Z own bs mx rt nm) {k : Nat} {v : Value} (hd : decode bs pc = .ok (.astore k, 2)) (hp : pc + 2 = pc') (hv : v.isRef = true) (hl : storeLocals Ls k v = some Ls') (hr : Go p l e R s m args below meth c n0 Q K N h ce sl (mkF m pc' Ls' st)) : Go p l e R s m args below meth c n0 Q K N h ce sl (mkF m pc Ls (v :: st)) := by
  subst hp
  exact Go.step (fun T A _ q => XS.astore A C.1 rfl (hb C.2.1 hd) rfl hv hl q) hr
theorem go_istoreS (C : Cx p s m meth c Z own bs mx rt nm) {k : Nat} {v : Int32} {o : Slot} (hd : decode bs pc = .ok (.istore k, 2)) (hp : pc + 2 = pc') (hold : Ls[k]? = some o) (ho : One o) (hL : Ls.setIfInBounds k (.val (.int v)) = Ls') (hr : Go p l e R s m args below meth c n0 Q K N h ce sl (mkF m pc' Ls' st)) : Go p l e R s m args below meth c n0 Q K N h ce sl (mkF m pc Ls (.int v :: st)) := by
  subst hp hL
  exact Go.step (fun T A _ q => XS.istoreS A C.1 rfl (hb C.2.1 hd) rfl hold ho q) hr
theorem go_istoreNS (C : Cx p s m meth c Z own bs mx rt nm) {k : Fin 4} {v : Int32} {o : Slot} (hd : decode bs pc = .ok (.istore_n k, 1)) (hp : pc + 1 = pc') (hold : Ls[k.val]? = some o) (ho : One o) (hL : Ls.setIfInBounds k.val (.val (.int v)) = Ls') (hr : Go p l e R s m args below meth c n0 Q K N h ce sl (mkF m pc' Ls' st)) : Go p l e R s m args below meth c n0 Q K N h ce sl (mkF m pc Ls (.int v :: st)) := by
  subst hp hL
  exact Go.step (fun T A _ q => XS.istoreNS A C.1 rfl (hb C.2.1 hd) rfl hold ho q) hr
theorem go_iconst (C : Cx p s m meth c Z own bs mx rt nm) {i : Int} (v : Int32) (hd : decode bs pc = .ok (.iconst i, 1)) (hp : pc + 1 = pc') (hv : Int32.ofInt i = v) (hr : Go p l e R s m args below meth c n0 Q K N h ce sl (mkF m pc' Ls (.int v :: st))) : Go p l e R s m args below meth c n0 Q K N h ce sl (mkF m pc Ls st) := by
  subst hp
  exact Go.step (fun T A _ q => XT.iconstV A C.1 rfl v (hb C.2.1 hd) hv q) hr
theorem go_bipush (C : Cx p s m meth c Z own bs mx rt nm) {i : Int} (v : Int32) (hd : decode bs pc = .ok (.bipush i, 2)) (hp : pc + 2 = pc') (hv : (Int8.ofInt i).toInt32 = v) (hr : Go p l e R s m args below meth c n0 Q K N h ce sl (mkF m pc' Ls (.int v :: st))) : Go p l e R s m args below meth c n0 Q K N h ce sl (mkF m pc Ls st) := by
  subst hp
  exact Go.step (fun T A _ q => XT.bipushV A C.1 rfl v (hb C.2.1 hd) hv q) hr
theorem go_sipush (C : Cx p s m meth c Z own bs mx rt nm) {i : Int} (v : Int32) (hd : decode bs pc = .ok (.sipush i, 3)) (hp : pc + 3 = pc') (hv : (Int16.ofInt i).toInt32 = v) (hr : Go p l e R s m args below meth c n0 Q K N h ce sl (mkF m pc' Ls (.int v :: st))) : Go p l e R s m args below meth c n0 Q K N h ce sl (mkF m pc Ls st) := by
  subst hp
  exact Go.step (fun T A _ q => XT.sipushV A C.1 rfl v (hb C.2.1 hd) hv q) hr
theorem go_lconst (C : Cx p s m meth c Z own bs mx rt nm) {k : Fin 2} (v : Int64) (hd : decode bs pc = .ok (.lconst k, 1)) (hp : pc + 1 = pc') (hv : Int64.ofNat k = v) (hr : Go p l e R s m args below meth c n0 Q K N h ce sl (mkF m pc' Ls (.long v :: st))) : Go p l e R s m args below meth c n0 Q K N h ce sl (mkF m pc Ls st) := by
  subst hp
  exact Go.step (fun T A _ q => XT.lconstV A C.1 rfl v (hb C.2.1 hd) hv q) hr
theorem go_aconst_null (C : Cx p s m meth c Z own bs mx rt nm)  (hd : decode bs pc = .ok (.aconst_null, 1)) (hp : pc + 1 = pc') (hr : Go p l e R s m args below meth c n0 Q K N h ce sl (mkF m pc' Ls (.null :: st))) : Go p l e R s m args below meth c n0 Q K N h ce sl (mkF m pc Ls st) := by
  subst hp
  exact Go.step (fun T A _ q => XS.aconstNull A C.1 rfl (hb C.2.1 hd)  q) hr
theorem go_iinc (C : Cx p s m meth c Z own bs mx rt nm) {k : Nat} {i : Int} {x : Int32} (v : Int32) (hd : decode bs pc = .ok (.iinc k i, 3)) (hp : pc + 3 = pc') (hv : Int32.ofInt i = v) (hl : Ls[k]? = some (.val (.int x))) (hl' : storeLocals Ls k (.int (x + v)) = some Ls') (hr : Go p l e R s m args below meth c n0 Q K N h ce sl (mkF m pc' Ls' st)) : Go p l e R s m args below meth c n0 Q K N h ce sl (mkF m pc Ls st) := by
  subst hp
  exact Go.step (fun T A _ q => XT.iincV A C.1 rfl v (hb C.2.1 hd) hv hl hl' q) hr
theorem go_iadd (C : Cx p s m meth c Z own bs mx rt nm) {x y : Int32} (hd : decode bs pc = .ok (.iadd, 1)) (hp : pc + 1 = pc') (hr : Go p l e R s m args below meth c n0 Q K N h ce sl (mkF m pc' Ls (.int (x + y) :: st))) : Go p l e R s m args below meth c n0 Q K N h ce sl (mkF m pc Ls (.int y :: .int x :: st)) := by
  subst hp
  exact Go.step (fun T A _ q => XS.iadd A C.1 rfl (hb C.2.1 hd) rfl q) hr
theorem go_isub (C : Cx p s m meth c Z own bs mx rt nm) {x y : Int32} (hd : decode bs pc = .ok (.isub, 1)) (hp : pc + 1 = pc') (hr : Go p l e R s m args below meth c n0 Q K N h ce sl (mkF m pc' Ls (.int (x - y) :: st))) : Go p l e R s m args below meth c n0 Q K N h ce sl (mkF m pc Ls (.int y :: .int x :: st)) := by
  subst hp
  exact Go.step (fun T A _ q => XS.isub A C.1 rfl (hb C.2.1 hd) rfl q) hr
theorem go_iand (C : Cx p s m meth c Z own bs mx rt nm) {x y : Int32} (hd : decode bs pc = .ok (.iand, 1)) (hp : pc + 1 = pc') (hr : Go p l e R s m args below meth c n0 Q K N h ce sl (mkF m pc' Ls (.int (x &&& y) :: st))) : Go p l e R s m args below meth c n0 Q K N h ce sl (mkF m pc Ls (.int y :: .int x :: st)) := by
  subst hp
  exact Go.step (fun T A _ q => XS.iand A C.1 rfl (hb C.2.1 hd) rfl q) hr
theorem go_imul (C : Cx p s m meth c Z own bs mx rt nm) {x y : Int32} (hd : decode bs pc = .ok (.imul, 1)) (hp : pc + 1 = pc') (hr : Go p l e R s m args below meth c n0 Q K N h ce sl (mkF m pc' Ls (.int (x * y) :: st))) : Go p l e R s m args below meth c n0 Q K N h ce sl (mkF m pc Ls (.int y :: .int x :: st)) := by
  subst hp
  exact Go.step (fun T A _ q => XS.imul A C.1 rfl (hb C.2.1 hd) rfl q) hr
theorem go_ior (C : Cx p s m meth c Z own bs mx rt nm) {x y : Int32} (hd : decode bs pc = .ok (.ior, 1)) (hp : pc + 1 = pc') (hr : Go p l e R s m args below meth c n0 Q K N h ce sl (mkF m pc' Ls (.int (x ||| y) :: st))) : Go p l e R s m args below meth c n0 Q K N h ce sl (mkF m pc Ls (.int y :: .int x :: st)) := by
  subst hp
  exact Go.step (fun T A _ q => XT.ior A C.1 rfl (hb C.2.1 hd) rfl q) hr
theorem go_ixor (C : Cx p s m meth c Z own bs mx rt nm) {x y : Int32} (hd : decode bs pc = .ok (.ixor, 1)) (hp : pc + 1 = pc') (hr : Go p l e R s m args below meth c n0 Q K N h ce sl (mkF m pc' Ls (.int (x ^^^ y) :: st))) : Go p l e R s m args below meth c n0 Q K N h ce sl (mkF m pc Ls (.int y :: .int x :: st)) := by
  subst hp
  exact Go.step (fun T A _ q => XT.ixor A C.1 rfl (hb C.2.1 hd) rfl q) hr
theorem go_ishl (C : Cx p s m meth c Z own bs mx rt nm) {x y : Int32} (hd : decode bs pc = .ok (.ishl, 1)) (hp : pc + 1 = pc') (hr : Go p l e R s m args below meth c n0 Q K N h ce sl (mkF m pc' Ls (.int (x <<< (y &&& 31)) :: st))) : Go p l e R s m args below meth c n0 Q K N h ce sl (mkF m pc Ls (.int y :: .int x :: st)) := by
  subst hp
  exact Go.step (fun T A _ q => XT.ishl A C.1 rfl (hb C.2.1 hd) rfl q) hr
theorem go_ishr (C : Cx p s m meth c Z own bs mx rt nm) {x y : Int32} (hd : decode bs pc = .ok (.ishr, 1)) (hp : pc + 1 = pc') (hr : Go p l e R s m args below meth c n0 Q K N h ce sl (mkF m pc' Ls (.int (x >>> (y &&& 31)) :: st))) : Go p l e R s m args below meth c n0 Q K N h ce sl (mkF m pc Ls (.int y :: .int x :: st)) := by
  subst hp
  exact Go.step (fun T A _ q => XT.ishr A C.1 rfl (hb C.2.1 hd) rfl q) hr
theorem go_iushr (C : Cx p s m meth c Z own bs mx rt nm) {x y : Int32} (hd : decode bs pc = .ok (.iushr, 1)) (hp : pc + 1 = pc') (hr : Go p l e R s m args below meth c n0 Q K N h ce sl (mkF m pc' Ls (.int (XT.ushr x y) :: st))) : Go p l e R s m args below meth c n0 Q K N h ce sl (mkF m pc Ls (.int y :: .int x :: st)) := by
  subst hp
  exact Go.step (fun T A _ q => XT.iushr A C.1 rfl (hb C.2.1 hd) rfl q) hr
theorem go_ladd (C : Cx p s m meth c Z own bs mx rt nm) {x y : Int64} (hd : decode bs pc = .ok (.ladd, 1)) (hp : pc + 1 = pc') (hr : Go p l e R s m args below meth c n0 Q K N h ce sl (mkF m pc' Ls (.long (x + y) :: st))) : Go p l e R s m args below meth c n0 Q K N h ce sl (mkF m pc Ls (.long y :: .long x :: st)) := by
  subst hp
  exact Go.step (fun T A _ q => XT.ladd A C.1 rfl (hb C.2.1 hd) rfl q) hr
theorem go_lsub (C : Cx p s m meth c Z own bs mx rt nm) {x y : Int64} (hd : decode bs pc = .ok (.lsub, 1)) (hp : pc + 1 = pc') (hr : Go p l e R s m args below meth c n0 Q K N h ce sl (mkF m pc' Ls (.long (x - y) :: st))) : Go p l e R s m args below meth c n0 Q K N h ce sl (mkF m pc Ls (.long y :: .long x :: st)) := by
  subst hp
  exact Go.step (fun T A _ q => XT.lsub A C.1 rfl (hb C.2.1 hd) rfl q) hr
theorem go_land (C : Cx p s m meth c Z own bs mx rt nm) {x y : Int64} (hd : decode bs pc = .ok (.land, 1)) (hp : pc + 1 = pc') (hr : Go p l e R s m args below meth c n0 Q K N h ce sl (mkF m pc' Ls (.long (x &&& y) :: st))) : Go p l e R s m args below meth c n0 Q K N h ce sl (mkF m pc Ls (.long y :: .long x :: st)) := by
  subst hp
  exact Go.step (fun T A _ q => XT.land A C.1 rfl (hb C.2.1 hd) rfl q) hr
theorem go_lmul (C : Cx p s m meth c Z own bs mx rt nm) {x y : Int64} (hd : decode bs pc = .ok (.lmul, 1)) (hp : pc + 1 = pc') (hr : Go p l e R s m args below meth c n0 Q K N h ce sl (mkF m pc' Ls (.long (x * y) :: st))) : Go p l e R s m args below meth c n0 Q K N h ce sl (mkF m pc Ls (.long y :: .long x :: st)) := by
  subst hp
  exact Go.step (fun T A _ q => XT.lmul A C.1 rfl (hb C.2.1 hd) rfl q) hr
theorem go_lor (C : Cx p s m meth c Z own bs mx rt nm) {x y : Int64} (hd : decode bs pc = .ok (.lor, 1)) (hp : pc + 1 = pc') (hr : Go p l e R s m args below meth c n0 Q K N h ce sl (mkF m pc' Ls (.long (x ||| y) :: st))) : Go p l e R s m args below meth c n0 Q K N h ce sl (mkF m pc Ls (.long y :: .long x :: st)) := by
  subst hp
  exact Go.step (fun T A _ q => XT.lor A C.1 rfl (hb C.2.1 hd) rfl q) hr
theorem go_lxor (C : Cx p s m meth c Z own bs mx rt nm) {x y : Int64} (hd : decode bs pc = .ok (.lxor, 1)) (hp : pc + 1 = pc') (hr : Go p l e R s m args below meth c n0 Q K N h ce sl (mkF m pc' Ls (.long (x ^^^ y) :: st))) : Go p l e R s m args below meth c n0 Q K N h ce sl (mkF m pc Ls (.long y :: .long x :: st)) := by
  subst hp
  exact Go.step (fun T A _ q => XT.lxor A C.1 rfl (hb C.2.1 hd) rfl q) hr
theorem go_idiv (C : Cx p s m meth c Z own bs mx rt nm) {x y : Int32} (hd : decode bs pc = .ok (.idiv, 1)) (hp : pc + 1 = pc') (hy : y ≠ 0) (hr : Go p l e R s m args below meth c n0 Q K N h ce sl (mkF m pc' Ls (.int (x / y) :: st))) : Go p l e R s m args below meth c n0 Q K N h ce sl (mkF m pc Ls (.int y :: .int x :: st)) := by
  subst hp
  exact Go.step (fun T A _ q => XS.idiv A C.1 rfl (hb C.2.1 hd) rfl hy q) hr
theorem go_irem (C : Cx p s m meth c Z own bs mx rt nm) {x y : Int32} (hd : decode bs pc = .ok (.irem, 1)) (hp : pc + 1 = pc') (hy : y ≠ 0) (hr : Go p l e R s m args below meth c n0 Q K N h ce sl (mkF m pc' Ls (.int (x % y) :: st))) : Go p l e R s m args below meth c n0 Q K N h ce sl (mkF m pc Ls (.int y :: .int x :: st)) := by
  subst hp
  exact Go.stepX (fun T locs X _ _ q => iremM X C.1 rfl (hb C.2.1 hd) rfl hy q) hr
theorem go_i2l (C : Cx p s m meth c Z own bs mx rt nm) {x : Int32} (hd : decode bs pc = .ok (.i2l, 1)) (hp : pc + 1 = pc') (hr : Go p l e R s m args below meth c n0 Q K N h ce sl (mkF m pc' Ls (.long x.toInt64 :: st))) : Go p l e R s m args below meth c n0 Q K N h ce sl (mkF m pc Ls (.int x :: st)) := by
  subst hp
  exact Go.step (fun T A _ q => XT.i2l A C.1 rfl (hb C.2.1 hd) rfl q) hr
theorem go_l2i (C : Cx p s m meth c Z own bs mx rt nm) {x : Int64} (hd : decode bs pc = .ok (.l2i, 1)) (hp : pc + 1 = pc') (hr : Go p l e R s m args below meth c n0 Q K N h ce sl (mkF m pc' Ls (.int x.toInt32 :: st))) : Go p l e R s m args below meth c n0 Q K N h ce sl (mkF m pc Ls (.long x :: st)) := by
  subst hp
  exact Go.step (fun T A _ q => XT.l2i A C.1 rfl (hb C.2.1 hd) rfl q) hr
theorem go_i2b (C : Cx p s m meth c Z own bs mx rt nm) {x : Int32} (hd : decode bs pc = .ok (.i2b, 1)) (hp : pc + 1 = pc') (hr : Go p l e R s m args below meth c n0 Q K N h ce sl (mkF m pc' Ls (.int x.toInt8.toInt32 :: st))) : Go p l e R s m args below meth c n0 Q K N h ce sl (mkF m pc Ls (.int x :: st)) := by
  subst hp
  exact Go.step (fun T A _ q => XT.i2b A C.1 rfl (hb C.2.1 hd) rfl q) hr
theorem go_i2c (C : Cx p s m meth c Z own bs mx rt nm) {x : Int32} (hd : decode bs pc = .ok (.i2c, 1)) (hp : pc + 1 = pc') (hr : Go p l e R s m args below meth c n0 Q K N h ce sl (mkF m pc' Ls (.int x.toUInt32.toUInt16.toUInt32.toInt32 :: st))) : Go p l e R s m args below meth c n0 Q K N h ce sl (mkF m pc Ls (.int x :: st)) := by
  subst hp
  exact Go.step (fun T A _ q => XT.i2c A C.1 rfl (hb C.2.1 hd) rfl q) hr
theorem go_ineg (C : Cx p s m meth c Z own bs mx rt nm) {x : Int32} (hd : decode bs pc = .ok (.ineg, 1)) (hp : pc + 1 = pc') (hr : Go p l e R s m args below meth c n0 Q K N h ce sl (mkF m pc' Ls (.int (-x) :: st))) : Go p l e R s m args below meth c n0 Q K N h ce sl (mkF m pc Ls (.int x :: st)) := by
  subst hp
  exact Go.step (fun T A _ q => XS.ineg A C.1 rfl (hb C.2.1 hd) rfl q) hr
theorem go_dup (C : Cx p s m meth c Z own bs mx rt nm) {v : Value} (hd : decode bs pc = .ok (.dup, 1)) (hp : pc + 1 = pc') (hc : v.category = 1) (hr : Go p l e R s m args below meth c n0 Q K N h ce sl (mkF m pc' Ls (v :: v :: st))) : Go p l e R s m args below meth c n0 Q K N h ce sl (mkF m pc Ls (v :: st)) := by
  subst hp
  exact Go.step (fun T A _ q => XS.dup A C.1 rfl (hb C.2.1 hd) rfl hc q) hr
theorem go_pop (C : Cx p s m meth c Z own bs mx rt nm) {v : Value} (hd : decode bs pc = .ok (.pop, 1)) (hp : pc + 1 = pc') (hc : v.category = 1) (hr : Go p l e R s m args below meth c n0 Q K N h ce sl (mkF m pc' Ls st)) : Go p l e R s m args below meth c n0 Q K N h ce sl (mkF m pc Ls (v :: st)) := by
  subst hp
  exact Go.step (fun T A _ q => XT.pop A C.1 rfl (hb C.2.1 hd) rfl hc q) hr
theorem go_dup2 (C : Cx p s m meth c Z own bs mx rt nm) {v w : Value} (hd : decode bs pc = .ok (.dup2, 1)) (hp : pc + 1 = pc') (hc : v.category = 1) (hc' : w.category = 1) (hr : Go p l e R s m args below meth c n0 Q K N h ce sl (mkF m pc' Ls (v :: w :: v :: w :: st))) : Go p l e R s m args below meth c n0 Q K N h ce sl (mkF m pc Ls (v :: w :: st)) := by
  subst hp
  exact Go.step (fun T A _ q => XT.dup2 A C.1 rfl (hb C.2.1 hd) rfl hc hc' q) hr
theorem go_dup_x1 (C : Cx p s m meth c Z own bs mx rt nm) {v w : Value} (hd : decode bs pc = .ok (.dup_x1, 1)) (hp : pc + 1 = pc') (hc : v.category = 1) (hc' : w.category = 1) (hr : Go p l e R s m args below meth c n0 Q K N h ce sl (mkF m pc' Ls (v :: w :: v :: st))) : Go p l e R s m args below meth c n0 Q K N h ce sl (mkF m pc Ls (v :: w :: st)) := by
  subst hp
  exact Go.step (fun T A _ q => XT.dupX1 A C.1 rfl (hb C.2.1 hd) rfl hc hc' q) hr
theorem go_lushr (C : Cx p s m meth c Z own bs mx rt nm) {x : Int64} {y : Int32} (hd : decode bs pc = .ok (.lushr, 1)) (hp : pc + 1 = pc') (hr : Go p l e R s m args below meth c n0 Q K N h ce sl (mkF m pc' Ls (.long (XT.ushrL x y) :: st))) : Go p l e R s m args below meth c n0 Q K N h ce sl (mkF m pc Ls (.int y :: .long x :: st)) := by
  subst hp
  exact Go.step (fun T A _ q => XT.lushr A C.1 rfl (hb C.2.1 hd) rfl q) hr
theorem go_lshl (C : Cx p s m meth c Z own bs mx rt nm) {x : Int64} {y : Int32} (hd : decode bs pc = .ok (.lshl, 1)) (hp : pc + 1 = pc') (hr : Go p l e R s m args below meth c n0 Q K N h ce sl (mkF m pc' Ls (.long (x <<< (y.toInt64 &&& 63)) :: st))) : Go p l e R s m args below meth c n0 Q K N h ce sl (mkF m pc Ls (.int y :: .long x :: st)) := by
  subst hp
  exact Go.step (fun T A _ q => XT.lshl A C.1 rfl (hb C.2.1 hd) rfl q) hr
theorem go_ldiv (C : Cx p s m meth c Z own bs mx rt nm) {x y : Int64} (hd : decode bs pc = .ok (.ldiv, 1)) (hp : pc + 1 = pc') (hy : y ≠ 0) (hr : Go p l e R s m args below meth c n0 Q K N h ce sl (mkF m pc' Ls (.long (x / y) :: st))) : Go p l e R s m args below meth c n0 Q K N h ce sl (mkF m pc Ls (.long y :: .long x :: st)) := by
  subst hp
  exact Go.step (fun T A _ q => XT.ldiv A C.1 rfl (hb C.2.1 hd) rfl hy q) hr
theorem go_lrem (C : Cx p s m meth c Z own bs mx rt nm) {x y : Int64} (hd : decode bs pc = .ok (.lrem, 1)) (hp : pc + 1 = pc') (hy : y ≠ 0) (hr : Go p l e R s m args below meth c n0 Q K N h ce sl (mkF m pc' Ls (.long (x - (x / y) * y) :: st))) : Go p l e R s m args below meth c n0 Q K N h ce sl (mkF m pc Ls (.long y :: .long x :: st)) := by
  subst hp
  exact Go.step (fun T A _ q => XT.lrem A C.1 rfl (hb C.2.1 hd) rfl hy q) hr
theorem go_goto (C : Cx p s m meth c Z own bs mx rt nm) {o : Int} (hd : decode bs pc = .ok (.goto o, 3)) (ho : 0 ≤ (pc : Int) + o) (hp : ((pc : Int) + o).toNat = pc') (hr : Go p l e R s m args below meth c n0 Q K N h ce sl (mkF m pc' Ls st)) : Go p l e R s m args below meth c n0 Q K N h ce sl (mkF m pc Ls st) :=
  Go.step (fun T A _ q => XS.goto A C.1 rfl rfl (hb C.2.1 hd) ho hp q) hr
/-- what a comparison says, of integers -/
def cmpP (cd : ClassFile.Cond) (x y : Int) : Prop := match cd with | .eq => x = y | .ne => ¬ x = y | .lt => x < y | .ge => ¬ x < y | .gt => y < x | .le => ¬ y < x
def cmpN (cd : ClassFile.Cond) (x y : Int) : Prop := match cd with | .eq => ¬ x = y | .ne => x = y | .lt => ¬ x < y | .ge => x < y | .gt => ¬ y < x | .le => y < x
theorem cmpN_of {cd : ClassFile.Cond} {x y : Int} (h : ¬ cmpP cd x y) : cmpN cd x y := by
  cases cd <;> simp only [cmpP] at h <;> simp only [cmpN] <;> omega
theorem cmp_t {cd : ClassFile.Cond} {x y : Int32} (h : cmpP cd x.toInt y.toInt) : if_icmp.holds cd x y = true := by
  cases cd <;> simp only [cmpP] at h
  · exact XT.ii_eq_t (int_eq h)
  · exact XT.ii_ne_t fun q => h (by rw [q])
  · exact XT.ii_lt_t (Int32.lt_iff_toInt_lt.mpr h)
  · exact XT.ii_ge_t fun q => h (Int32.lt_iff_toInt_lt.mp q)
  · exact XT.ii_gt_t (Int32.lt_iff_toInt_lt.mpr h)
  · exact XT.ii_le_t fun q => h (Int32.lt_iff_toInt_lt.mp q)
theorem cmp_f {cd : ClassFile.Cond} {x y : Int32} (h : ¬ cmpP cd x.toInt y.toInt) : if_icmp.holds cd x y = false := by
  cases cd <;> simp only [cmpP] at h
  · exact XT.ii_eq_f fun q => h (by rw [q])
  · exact XT.ii_ne_f (int_eq (Classical.not_not.mp h))
  · exact XT.ii_lt_f fun q => h (Int32.lt_iff_toInt_lt.mp q)
  · exact XT.ii_ge_f (Int32.lt_iff_toInt_lt.mpr (Classical.not_not.mp h))
  · exact XT.ii_gt_f fun q => h (Int32.lt_iff_toInt_lt.mp q)
  · exact XT.ii_le_f (Int32.lt_iff_toInt_lt.mpr (Classical.not_not.mp h))
theorem cmpL_t {cd : ClassFile.Cond} {x y : Int64} (h : cmpP cd x.toInt y.toInt) : ifCond.holds cd (XT.cmpL x y) = true := by
  cases cd <;> simp only [cmpP] at h
  · exact XT.ll_eq_t (long_eq h)
  · exact XT.ll_ne_t fun q => h (by rw [q])
  · exact XT.ll_lt_t (Int64.lt_iff_toInt_lt.mpr h)
  · exact XT.ll_ge_t fun q => h (Int64.lt_iff_toInt_lt.mp q)
  · exact XT.ll_gt_t (Int64.lt_iff_toInt_lt.mpr h)
  · exact XT.ll_le_t fun q => h (Int64.lt_iff_toInt_lt.mp q)
theorem cmpL_f {cd : ClassFile.Cond} {x y : Int64} (h : ¬ cmpP cd x.toInt y.toInt) : ifCond.holds cd (XT.cmpL x y) = false := by
  cases cd <;> simp only [cmpP] at h
  · exact XT.ll_eq_f fun q => h (by rw [q])
  · exact XT.ll_ne_f (long_eq (Classical.not_not.mp h))
  · exact XT.ll_lt_f fun q => h (Int64.lt_iff_toInt_lt.mp q)
  · exact XT.ll_ge_f (Int64.lt_iff_toInt_lt.mpr (Classical.not_not.mp h))
  · exact XT.ll_gt_f fun q => h (Int64.lt_iff_toInt_lt.mp q)
  · exact XT.ll_le_f (Int64.lt_iff_toInt_lt.mpr (Classical.not_not.mp h))
theorem go_icmp (C : Cx p s m meth c Z own bs mx rt nm) {cd : ClassFile.Cond} {x y : Int32} {o : Int} {pcN : Nat} (kx ky : Int) (hx : x.toInt = kx) (hy : y.toInt = ky) (hd : decode bs pc = .ok (.if_icmp cd o, 3)) (ho : 0 ≤ (pc : Int) + o) (hp : ((pc : Int) + o).toNat = pc') (hpn : pc + 3 = pcN) (h1 : cmpP cd kx ky → Go p l e R s m args below meth c n0 Q K N h ce sl (mkF m pc' Ls st)) (h2 : cmpN cd kx ky → Go p l e R s m args below meth c n0 Q K N h ce sl (mkF m pcN Ls st)) : Go p l e R s m args below meth c n0 Q K N h ce sl (mkF m pc Ls (.int y :: .int x :: st)) := by
  subst hpn hx hy
  by_cases q : cmpP cd x.toInt y.toInt
  · exact Go.step (fun T A _ k => XS.icmpYes A C.1 rfl rfl (hb C.2.1 hd) rfl (cmp_t q) ho hp k) (h1 q)
  · exact Go.step (fun T A _ k => XS.icmpNo A C.1 rfl (hb C.2.1 hd) rfl (cmp_f q) k) (h2 (cmpN_of q))
theorem go_if0 (C : Cx p s m meth c Z own bs mx rt nm) {cd : ClassFile.Cond} {x : Int32} {o : Int} {pcN : Nat} (kx : Int) (hx : x.toInt = kx) (hd : decode bs pc = .ok (.ifCond cd o, 3)) (ho : 0 ≤ (pc : Int) + o) (hp : ((pc : Int) + o).toNat = pc') (hpn : pc + 3 = pcN) (h1 : cmpP cd kx 0 → Go p l e R s m args below meth c n0 Q K N h ce sl (mkF m pc' Ls st)) (h2 : cmpN cd kx 0 → Go p l e R s m args below meth c n0 Q K N h ce sl (mkF m pcN Ls st)) : Go p l e R s m args below meth c n0 Q K N h ce sl (mkF m pc Ls (.int x :: st)) := by
  subst hpn hx
  by_cases q : cmpP cd x.toInt 0
  · exact Go.step (fun T A _ k => XS.ifYes A C.1 rfl rfl (hb C.2.1 hd) rfl ((if0 cd x).trans (cmp_t q)) ho hp k) (h1 q)
  · exact Go.step (fun T A _ k => XS.ifNo A C.1 rfl (hb C.2.1 hd) rfl ((if0 cd x).trans (cmp_f q)) k) (h2 (cmpN_of q))
theorem go_lcmp (C : Cx p s m meth c Z own bs mx rt nm) {cd : ClassFile.Cond} {x y : Int64} {o : Int} {pc1 pcN : Nat} (kx ky : Int) (hx : x.toInt = kx) (hy : y.toInt = ky) (hd0 : decode bs pc = .ok (.lcmp, 1)) (hp1 : pc + 1 = pc1) (hd : decode bs pc1 = .ok (.ifCond cd o, 3)) (ho : 0 ≤ (pc1 : Int) + o) (hp : ((pc1 : Int) + o).toNat = pc') (hpn : pc1 + 3 = pcN) (h1 : cmpP cd kx ky → Go p l e R s m args below meth c n0 Q K N h ce sl (mkF m pc' Ls st)) (h2 : cmpN cd kx ky → Go p l e R s m args below meth c n0 Q K N h ce sl (mkF m pcN Ls st)) : Go p l e R s m args below meth c n0 Q K N h ce sl (mkF m pc Ls (.long y :: .long x :: st)) := by
  subst hpn hp1 hx hy
  refine Go.step (g' := mkF m (pc + 1) Ls (.int (XT.cmpL x y) :: st)) (fun T A _ k => XT.lcmp A C.1 rfl (hb C.2.1 hd0) rfl k) ?_
  by_cases q : cmpP cd x.toInt y.toInt
  · exact Go.step (fun T A _ k => XS.ifYes A C.1 rfl rfl (hb C.2.1 hd) rfl (cmpL_t q) ho hp k) (h1 q)
  · exact Go.step (fun T A _ k => XS.ifNo A C.1 rfl (hb C.2.1 hd) rfl (cmpL_f q) k) (h2 (cmpN_of q))
theorem go_ifne_b (C : Cx p s m meth c Z own bs mx rt nm) {B : Prop} [Decidable B] {o : Int} {pcN : Nat} (hd : decode bs pc = .ok (.ifCond .ne o, 3)) (ho : 0 ≤ (pc : Int) + o) (hp : ((pc : Int) + o).toNat = pc') (hpn : pc + 3 = pcN) (h1 : B → Go p l e R s m args below meth c n0 Q K N h ce sl (mkF m pc' Ls st)) (h2 : ¬ B → Go p l e R s m args below meth c n0 Q K N h ce sl (mkF m pcN Ls st)) : Go p l e R s m args below meth c n0 Q K N h ce sl (mkF m pc Ls (.int (bi B) :: st)) := by
  refine go_if0 C _ rfl hd ho hp hpn (fun q => h1 ?_) (fun q => h2 ?_)
  · exact Classical.byContradiction fun z => q (by rw [bi_f z]; rfl)
  · exact fun z => by
      have q' : (bi B).toInt = 0 := q
      rw [bi_t z] at q'
      exact absurd q' (by decide)
theorem go_ifeq_b (C : Cx p s m meth c Z own bs mx rt nm) {B : Prop} [Decidable B] {o : Int} {pcN : Nat} (hd : decode bs pc = .ok (.ifCond .eq o, 3)) (ho : 0 ≤ (pc : Int) + o) (hp : ((pc : Int) + o).toNat = pc') (hpn : pc + 3 = pcN) (h1 : ¬ B → Go p l e R s m args below meth c n0 Q K N h ce sl (mkF m pc' Ls st)) (h2 : B → Go p l e R s m args below meth c n0 Q K N h ce sl (mkF m pcN Ls st)) : Go p l e R s m args below meth c n0 Q K N h ce sl (mkF m pc Ls (.int (bi B) :: st)) := by
  refine go_if0 C _ rfl hd ho hp hpn (fun q => h1 ?_) (fun q => h2 ?_)
  · exact fun z => by
      have q' : (bi B).toInt = 0 := q
      rw [bi_t z] at q'
      exact absurd q' (by decide)
  · exact Classical.byContradiction fun z => q (by rw [bi_f z]; rfl)
theorem go_ifnull_r (C : Cx p s m meth c Z own bs mx rt nm) {a : Addr} {o : Int} (hd : decode bs pc = .ok (.ifnull o, 3)) (hp : pc + 3 = pc') (hr : Go p l e R s m args below meth c n0 Q K N h ce sl (mkF m pc' Ls st)) : Go p l e R s m args below meth c n0 Q K N h ce sl (mkF m pc Ls (.ref a :: st)) := by
  subst hp
  exact Go.step (fun T A _ k => XS.ifnullNo A C.1 rfl (hb C.2.1 hd) rfl k) hr
theorem go_ifnull_n (C : Cx p s m meth c Z own bs mx rt nm) {o : Int} (hd : decode bs pc = .ok (.ifnull o, 3)) (ho : 0 ≤ (pc : Int) + o) (hp : ((pc : Int) + o).toNat = pc') (hr : Go p l e R s m args below meth c n0 Q K N h ce sl (mkF m pc' Ls st)) : Go p l e R s m args below meth c n0 Q K N h ce sl (mkF m pc Ls (.null :: st)) :=
  Go.step (fun T A _ k => XS.ifnullYes A C.1 rfl rfl (hb C.2.1 hd) rfl ho hp k) hr
theorem go_ldc (C : Cx p s m meth c Z own bs mx rt nm) {i : Nat} {v : Int32} (w : (Jvm.Cond.constant own i v).before a0 Z = true) (hd : decode bs pc = .ok (.ldc i, 2)) (hp : pc + 2 = pc') (hr : Go p l e R s m args below meth c n0 Q K N h ce sl (mkF m pc' Ls (.int v :: st))) : Go p l e R s m args below meth c n0 Q K N h ce sl (mkF m pc Ls st) := by
  subst hp
  exact Go.stepX (fun T locs X _ _ q => X.ldcI C.1 C.2.2.2.2.1 (mv C.2.2.2.1 w) rfl (hb C.2.1 hd) q) hr
theorem go_ldc2 (C : Cx p s m meth c Z own bs mx rt nm) {i : Nat} {v : Int64} (w : (Jvm.Cond.constantLong own i v).before a0 Z = true) (hd : decode bs pc = .ok (.ldc2_w i, 3)) (hp : pc + 3 = pc') (hr : Go p l e R s m args below meth c n0 Q K N h ce sl (mkF m pc' Ls (.long v :: st))) : Go p l e R s m args below meth c n0 Q K N h ce sl (mkF m pc Ls st) := by
  subst hp
  exact Go.stepX (fun T locs X _ _ q => X.ldc2J C.1 C.2.2.2.2.1 (mv C.2.2.2.1 w) rfl (hb C.2.1 hd) q) hr
theorem go_getfield (C : Cx p s m meth c Z own bs mx rt nm) {O n d : String} {i : Nat} {a : Addr} {v : Value} (w : (Jvm.Cond.fieldLink own i O n d).before a0 Z = true) (F0 : Fld Z h a O n d v) (hd : decode bs pc = .ok (.getfield i, 3)) (hp : pc + 3 = pc') (hr : Go p l e R s m args below meth c n0 Q K N h ce sl (mkF m pc' Ls (v :: st))) : Go p l e R s m args below meth c n0 Q K N h ce sl (mkF m pc Ls (.ref a :: st)) := by
  subst hp
  intro T locs X eT Nn
  obtain ⟨T', X', e', stp⟩ := getF X C.1 C.2.2.2.1 C.2.2.2.2.1 (host := "") (Or.inl w) Via.refl eT F0 (g := mkF m pc Ls (.ref a :: st)) rfl rfl (hb C.2.1 hd)
  obtain ⟨s₂, o, h1, r⟩ := hr T' locs X' e' Nn
  exact ⟨s₂, o, stp _ h1, r⟩
theorem go_putfield (C : Cx p s m meth c Z own bs mx rt nm) {O n d C0 : String} {i kk : Nat} {ty : FieldType} {a : Addr} {v old : Value} (w : (Jvm.Cond.fieldLink own i O n d).before a0 Z = true) (F0 : Fld Z h a O n d old) (E : Exa Z h a C0) (L : (Jvm.Cond.lays C0 O n d).before a0 Z = true ∨ ((Jvm.Cond.laysFinal C0 O n d).before a0 Z = true ∧ own = O ∧ nm = "<init>")) (wi : (Jvm.Cond.instantiable C0 kk).before a0 Z = true) (hty : parseFieldDescriptor d = some ty) (hn : narrow ty v = v) (hf : fits ty v = true) (ha : n0 ≤ a) (hd : decode bs pc = .ok (.putfield i, 3)) (hp : pc + 3 = pc') (hr : ∀ h', Wr h h' a (Jvm.RoadKit.slotOf Z O n d) v → Go p l e R s m args below meth c n0 Q K N h' ce sl (mkF m pc' Ls st)) : Go p l e R s m args below meth c n0 Q K N h ce sl (mkF m pc Ls (v :: .ref a :: st)) := by
  subst hp
  intro T locs X eT Nn
  obtain ⟨T', h', X', e', W', stp⟩ := putF X C.1 C.2.2.2.1 C.2.2.2.2.1 (host := "") (Or.inl w) Via.refl eT F0 E (L.imp id fun q => ⟨q.1, q.2.1, C.2.2.2.2.2.2.2.trans q.2.2⟩) wi hty hn hf (g := mkF m pc Ls (v :: .ref a :: st)) rfl rfl (hb C.2.1 hd)
  obtain ⟨s₂, o, h1, r⟩ := hr h' W' T' _ X' e' (Fr.snoc X' Nn ha)
  exact ⟨s₂, o, stp _ h1, r⟩
theorem go_new (C : Cx p s m meth c Z own bs mx rt nm) {C0 : String} {i k ce' sl' : Nat} (w : (Jvm.Cond.classLink own i C0).before a0 Z = true) (wi : (Jvm.Cond.instantiable C0 k).before a0 Z = true) (wz : (Jvm.Cond.initialized C0).before a0 Z = true) (hd : decode bs pc = .ok (.new i, 3)) (hp : pc + 3 = pc') (hce : ce + 1 = ce') (hsl : sl + k = sl') (hc : ce' ≤ R.cells) (hl : sl' ≤ R.slots)
    (hr : ∀ (h' : Heap) (a : Addr), h.size = a → Ext h h' → Exa Z h' a C0 → (∀ {O nm d : String} {ty : FieldType}, Laid Z a0 C0 O nm d → parseFieldDescriptor d = some ty → Fld Z h' a O nm d (defaultValue ty)) → Go p l e R s m args below meth c n0 Q K N h' ce' sl' (mkF m pc' Ls (.ref a :: st))) : Go p l e R s m args below meth c n0 Q K N h ce sl (mkF m pc Ls st) := by
  subst hp hce hsl
  intro T locs X eT Nn
  obtain ⟨T', h', X', e', E', A', D', -, stp⟩ := newO X C.1 C.2.2.2.1 C.2.2.2.2.1 w wi wz eT (g := mkF m pc Ls st) rfl (hb C.2.1 hd) hc hl
  obtain ⟨s₂, o, h1, r⟩ := hr h' _ rfl E' A' D' T' _ X' e' Nn
  exact ⟨s₂, o, stp _ h1, r⟩
/-- an array of type ty that holds just vs -/
def Av (Z : State) (h : Heap) (a : Addr) (ty : FieldType) (vs : List Value) : Prop := ∃ cl : Cell, Arr Z h a cl ty ∧ cl.slots.toList = vs ∧ vs.length < 2147483648
theorem Av.lt {ty : FieldType} {vs : List Value} {a : Addr} (A : Av Z h a ty vs) : a < h.size := by obtain ⟨c, A, -⟩ := A; exact A.lt
theorem Av.ext {ty : FieldType} {vs : List Value} {a : Addr} {h' : Heap} (A : Av Z h a ty vs) (E : Ext h h') : Av Z h' a ty vs := by obtain ⟨c, A, r⟩ := A; exact ⟨c, A.ext E, r⟩
theorem Av.other {ty : FieldType} {vs : List Value} {a b : Addr} {h' : Heap} {k : Nat} {v : Value} (A : Av Z h b ty vs) (W : Wr h h' a k v) (q : b ≠ a) : Av Z h' b ty vs := by obtain ⟨c, A, r⟩ := A; exact ⟨c, A.other W q, r⟩
theorem Av.keep {ty : FieldType} {vs : List Value} {a : Addr} {h' : Heap} {ws : List Addr} (A : Av Z h a ty vs) (K0 : Keep h h' ws) (q : a ∉ ws) : Av Z h' a ty vs := by obtain ⟨c, A, r⟩ := A; exact ⟨c, ⟨K0.2.1 a c A.1 q, A.2⟩, r⟩
theorem own_ne_arr {C0 : String} {ty : FieldType} {vs : List Value} {a b : Addr} {k : Nat} (F0 : Exa Z h a C0) (wi : (Jvm.Cond.instantiable C0 k).before a0 Z = true) (G : Av Z h b ty vs) : a ≠ b := by obtain ⟨c, G, -⟩ := G; exact ne_arr F0 wi G
theorem clamp_of {j : Int32} {k : Nat} (hj : j.toInt = k) : j.toNatClampNeg = k := by
  show j.toInt.toNat = k
  rw [hj]; rfl
theorem nonneg_of {j : Int32} {k : Nat} (hj : j.toInt = k) : ¬ j < 0 := fun q => by
  have := Int32.lt_iff_toInt_lt.mp q
  rw [hj] at this
  exact absurd this (by show ¬ (k : Int) < 0; omega)
theorem Av.at {ty : FieldType} {vs : List Value} {a : Addr} (A : Av Z h a ty vs) {j : Int32} {k : Nat} (hj : j.toInt = k) (hk : k < vs.length) : ∃ cl : Cell, Arr Z h a cl ty ∧ cl.slots.toList = vs ∧ ¬ (j < 0 ∨ cl.slots.size ≤ j.toNatClampNeg) ∧ cl.slots[j.toNatClampNeg]? = vs[k]? := by
  obtain ⟨cl, A, e1, e2⟩ := A
  refine ⟨cl, A, e1, ?_, ?_⟩
  · rw [clamp_of hj]
    intro q
    rcases q with q | q
    · exact nonneg_of hj q
    · rw [← e1] at hk; simp at hk; omega
  · rw [clamp_of hj, ← e1]; simp
theorem Av.set {ty : FieldType} {vs : List Value} {a : Addr} {h' : Heap} {k : Nat} {v : Value} (A : Av Z h a ty vs) (W : Wr h h' a k v) : Av Z h' a ty (vs.set k v) := by
  obtain ⟨cl, A, e1, e2⟩ := A
  exact ⟨_, A.same W, by rw [← e1]; simp [Cell.setSlot], by simpa using e2⟩
/-- n ints, whichever -/
def Ints (vs : List Value) (n : Nat) : Prop := vs.length = n ∧ ∀ k, k < n → ∃ x : Int32, vs[k]? = some (.int x)
theorem Ints.rep (n : Nat) (x : Int32) : Ints (List.replicate n (.int x)) n := ⟨by simp, fun k hk => ⟨x, by simp [hk]⟩⟩
theorem Ints.set {vs : List Value} {n k : Nat} (x : Int32) (I : Ints vs n) : Ints (vs.set k (.int x)) n := ⟨by simpa using I.1, fun j hj => by
  by_cases q : k = j
  · subst q
    exact ⟨x, by rw [List.getElem?_set_self (by rw [I.1]; exact hj)]⟩
  · obtain ⟨y, hy⟩ := I.2 j hj
    exact ⟨y, by rw [List.getElem?_set_ne q]; exact hy⟩⟩
theorem go_arraylength (C : Cx p s m meth c Z own bs mx rt nm) {ty : FieldType} {vs : List Value} {a : Addr} (A : Av Z h a ty vs) (n : Int32) (hn : n.toInt = vs.length) (hd : decode bs pc = .ok (.arraylength, 1)) (hp : pc + 1 = pc') (hr : Go p l e R s m args below meth c n0 Q K N h ce sl (mkF m pc' Ls (.int n :: st))) : Go p l e R s m args below meth c n0 Q K N h ce sl (mkF m pc Ls (.ref a :: st)) := by
  subst hp
  obtain ⟨cl, A, e1, e2⟩ := A
  have q : cl.slots.size.toInt32 = n := by
    have hl : cl.slots.size = vs.length := by rw [← e1]; simp
    rw [hl]
    refine int_eq ?_
    rw [hn]
    exact Int32.toInt_ofNat_of_lt (by omega)
  exact Go.stepX (fun T locs X eT _ k => X.arraylength C.1 (cell := cl) (by rw [eT]; exact A.1) (State.isArrayOf_alike C.2.2.2.1.alike A.2.1) (g := mkF m pc Ls (.ref a :: st)) rfl rfl (hb C.2.1 hd) _ (by rw [q]; exact k)) hr
theorem go_iaload (C : Cx p s m meth c Z own bs mx rt nm) {vs : List Value} {a : Addr} {j : Int32} (A : Av Z h a .int vs) (k : Nat) (v : Value) (hj : j.toInt = k) (hv : vs[k]? = some v) (hd : decode bs pc = .ok (.iaload, 1)) (hp : pc + 1 = pc') (hr : Go p l e R s m args below meth c n0 Q K N h ce sl (mkF m pc' Ls (v :: st))) : Go p l e R s m args below meth c n0 Q K N h ce sl (mkF m pc Ls (.int j :: .ref a :: st)) := by
  subst hp
  obtain ⟨cl, A, e1, e2, e3⟩ := A.at hj (List.getElem?_eq_some_iff.mp hv).1
  exact Go.stepX (fun T locs X eT _ q => X.iaload C.1 (j := j) (v := v) (by rw [eT]; exact A.1) (State.isArrayOf_alike C.2.2.2.1.alike A.2.1) A.2.2 e2 (e3.trans hv) (g := mkF m pc Ls (.int j :: .ref a :: st)) rfl rfl (hb C.2.1 hd) _ q) hr
theorem go_laload (C : Cx p s m meth c Z own bs mx rt nm) {vs : List Value} {a : Addr} {j : Int32} (A : Av Z h a .long vs) (k : Nat) (v : Value) (hj : j.toInt = k) (hv : vs[k]? = some v) (hd : decode bs pc = .ok (.laload, 1)) (hp : pc + 1 = pc') (hr : Go p l e R s m args below meth c n0 Q K N h ce sl (mkF m pc' Ls (v :: st))) : Go p l e R s m args below meth c n0 Q K N h ce sl (mkF m pc Ls (.int j :: .ref a :: st)) := by
  subst hp
  obtain ⟨cl, A, e1, e2, e3⟩ := A.at hj (List.getElem?_eq_some_iff.mp hv).1
  exact Go.stepX (fun T locs X eT _ q => X.laload C.1 (j := j) (v := v) (by rw [eT]; exact A.1) (State.isArrayOf_alike C.2.2.2.1.alike A.2.1) A.2.2 e2 (e3.trans hv) (g := mkF m pc Ls (.int j :: .ref a :: st)) rfl rfl (hb C.2.1 hd) _ q) hr
theorem go_baload (C : Cx p s m meth c Z own bs mx rt nm) {vs : List Value} {a : Addr} {j : Int32} (A : Av Z h a .byte vs) (k : Nat) (v : Value) (hj : j.toInt = k) (hv : vs[k]? = some v) (hd : decode bs pc = .ok (.baload, 1)) (hp : pc + 1 = pc') (hr : Go p l e R s m args below meth c n0 Q K N h ce sl (mkF m pc' Ls (v :: st))) : Go p l e R s m args below meth c n0 Q K N h ce sl (mkF m pc Ls (.int j :: .ref a :: st)) := by
  subst hp
  obtain ⟨cl, A, e1, e2, e3⟩ := A.at hj (List.getElem?_eq_some_iff.mp hv).1
  exact Go.stepX (fun T locs X eT _ q => X.baloadBytes C.1 (j := j) (v := v) (by rw [eT]; exact A.1) (State.isArrayOf_alike C.2.2.2.1.alike A.2.1) A.2.2 e2 (e3.trans hv) (g := mkF m pc Ls (.int j :: .ref a :: st)) rfl rfl (hb C.2.1 hd) _ q) hr
theorem go_iastore (C : Cx p s m meth c Z own bs mx rt nm) {vs : List Value} {a : Addr} {j : Int32} {x : Int32} (A : Av Z h a .int vs) (k : Nat) (hj : j.toInt = k) (hk : k < vs.length) (ha : n0 ≤ a) (hd : decode bs pc = .ok (.iastore, 1)) (hp : pc + 1 = pc') (hr : ∀ h', Wr h h' a k (.int x) → Av Z h' a .int (vs.set k (.int x)) → Go p l e R s m args below meth c n0 Q K N h' ce sl (mkF m pc' Ls st)) : Go p l e R s m args below meth c n0 Q K N h ce sl (mkF m pc Ls (.int x :: .int j :: .ref a :: st)) := by
  subst hp
  obtain ⟨cl, A1, e1, e2, e3⟩ := A.at hj hk
  intro T locs X eT Nn
  obtain ⟨T', h', X', e', W', stp⟩ := stI X C.1 C.2.2.2.1 eT A1 e2 (g := mkF m pc Ls (.int x :: .int j :: .ref a :: st)) rfl rfl (hb C.2.1 hd)
  have W2 : Wr h h' a k (.int x) := by rw [clamp_of hj] at W'; exact W'
  obtain ⟨s₂, o, h1, r⟩ := hr h' W2 (A.set W2) T' _ X' e' (Fr.snoc X' Nn ha)
  exact ⟨s₂, o, stp _ h1, r⟩
theorem go_lastore (C : Cx p s m meth c Z own bs mx rt nm) {vs : List Value} {a : Addr} {j : Int32} {x : Int64} (A : Av Z h a .long vs) (k : Nat) (hj : j.toInt = k) (hk : k < vs.length) (ha : n0 ≤ a) (hd : decode bs pc = .ok (.lastore, 1)) (hp : pc + 1 = pc') (hr : ∀ h', Wr h h' a k (.long x) → Av Z h' a .long (vs.set k (.long x)) → Go p l e R s m args below meth c n0 Q K N h' ce sl (mkF m pc' Ls st)) : Go p l e R s m args below meth c n0 Q K N h ce sl (mkF m pc Ls (.long x :: .int j :: .ref a :: st)) := by
  subst hp
  obtain ⟨cl, A1, e1, e2, e3⟩ := A.at hj hk
  intro T locs X eT Nn
  obtain ⟨T', h', X', e', W', stp⟩ := stJ X C.1 C.2.2.2.1 eT A1 e2 (g := mkF m pc Ls (.long x :: .int j :: .ref a :: st)) rfl rfl (hb C.2.1 hd)
  have W2 : Wr h h' a k (.long x) := by rw [clamp_of hj] at W'; exact W'
  obtain ⟨s₂, o, h1, r⟩ := hr h' W2 (A.set W2) T' _ X' e' (Fr.snoc X' Nn ha)
  exact ⟨s₂, o, stp _ h1, r⟩
theorem go_bastore (C : Cx p s m meth c Z own bs mx rt nm) {vs : List Value} {a : Addr} {j : Int32} {x : Int32} (A : Av Z h a .byte vs) (k : Nat) (hj : j.toInt = k) (hk : k < vs.length) (x' : Int32) (hx : x.toInt8.toInt32 = x') (ha : n0 ≤ a) (hd : decode bs pc = .ok (.bastore, 1)) (hp : pc + 1 = pc') (hr : ∀ h', Wr h h' a k (.int x') → Av Z h' a .byte (vs.set k (.int x')) → Go p l e R s m args below meth c n0 Q K N h' ce sl (mkF m pc' Ls st)) : Go p l e R s m args below meth c n0 Q K N h ce sl (mkF m pc Ls (.int x :: .int j :: .ref a :: st)) := by
  subst hp hx
  obtain ⟨cl, A1, e1, e2, e3⟩ := A.at hj hk
  intro T locs X eT Nn
  obtain ⟨T', h', X', e', W', stp⟩ := stB X C.1 C.2.2.2.1 eT A1 e2 (g := mkF m pc Ls (.int x :: .int j :: .ref a :: st)) rfl rfl (hb C.2.1 hd)
  have W2 : Wr h h' a k (.int x.toInt8.toInt32) := by rw [clamp_of hj] at W'; exact W'
  obtain ⟨s₂, o, h1, r⟩ := hr h' W2 (A.set W2) T' _ X' e' (Fr.snoc X' Nn ha)
  exact ⟨s₂, o, stp _ h1, r⟩
theorem go_newarray (C : Cx p s m meth c Z own bs mx rt nm) {aty : ArrayType} {ty : FieldType} {n : Int32} {ce' sl' : Nat} (w : (Jvm.Cond.arrayClass ty).before a0 Z = true) (hty : newarray.typeOf aty = ty) (k cap : Nat) (hn : n.toInt = k) (hcap : k ≤ cap) (hc8 : cap * 8 ≤ 536870912) (hce : ce + 1 = ce') (hsl : sl + cap = sl') (hc : ce' ≤ R.cells) (hl : sl' ≤ R.slots) (hd : decode bs pc = .ok (.newarray aty, 2)) (hp : pc + 2 = pc')
    (hr : ∀ (h' : Heap) (a : Addr), h.size = a → Ext h h' → Av Z h' a ty (List.replicate k (defaultValue ty)) → Go p l e R s m args below meth c n0 Q K N h' ce' sl' (mkF m pc' Ls (.ref a :: st))) : Go p l e R s m args below meth c n0 Q K N h ce sl (mkF m pc Ls (.int n :: st)) := by
  subst hp hty hce hsl
  intro T locs X eT Nn
  obtain ⟨T', h', cA, X', e', E', A', stp⟩ := newP X C.1 C.2.2.2.1 w eT (g := mkF m pc Ls (.int n :: st)) rfl (hb C.2.1 hd) rfl (nonneg_of hn) (cap := cap) (by rw [clamp_of hn]; exact hcap) hc8 hc hl
  have hb31 : k < 2147483648 := by have := n.toInt_lt; omega
  obtain ⟨s₂, o, h1, r⟩ := hr h' _ rfl E' ⟨_, A', by simp [newA, clamp_of hn], by simpa using hb31⟩ T' _ X' e' Nn
  exact ⟨s₂, o, stp _ h1, r⟩
theorem go_newarrayE (C : Cx p s m meth c Z own bs mx rt nm) {aty : ArrayType} {ty : FieldType} {n : Int32} {ce' sl' : Nat} {ad : String} (w : (Jvm.Cond.arrayClass ty).before a0 Z = true) (hty : newarray.typeOf aty = ty) (had : "[" ++ ty.toString = ad) (k cap : Nat) (hn : n.toInt = k) (hcap : k ≤ cap) (hc8 : cap * 8 ≤ 536870912) (hce : ce + 1 = ce') (hsl : sl + cap = sl') (hc : ce' ≤ R.cells) (hl : sl' ≤ R.slots) (hd : decode bs pc = .ok (.newarray aty, 2)) (hp : pc + 2 = pc')
    (hr : ∀ (h' : Heap) (a : Addr), h.size = a → Ext h h' → Exa Z h' a ad → Av Z h' a ty (List.replicate k (defaultValue ty)) → Go p l e R s m args below meth c n0 Q K N h' ce' sl' (mkF m pc' Ls (.ref a :: st))) : Go p l e R s m args below meth c n0 Q K N h ce sl (mkF m pc Ls (.int n :: st)) := by
  subst hp hty hce hsl
  intro T locs X eT Nn
  obtain ⟨T', h', cA, X', e', E', A', Q', stp⟩ := newPE X C.1 C.2.2.2.1 w eT (g := mkF m pc Ls (.int n :: st)) rfl (hb C.2.1 hd) rfl (nonneg_of hn) (cap := cap) (by rw [clamp_of hn]; exact hcap) hc8 hc hl had
  have hb31 : k < 2147483648 := by have := n.toInt_lt; omega
  obtain ⟨s₂, o, h1, r⟩ := hr h' _ rfl E' Q' ⟨_, A', by simp [newA, clamp_of hn], by simpa using hb31⟩ T' _ X' e' Nn
  exact ⟨s₂, o, stp _ h1, r⟩
theorem go_clone (C : Cx p s m meth c Z own bs mx rt nm) {i : Nat} {ad : String} {ty : FieldType} {vs : List Value} {a : Addr} {W cap ce' sl' : Nat} (w1 : (Jvm.Cond.methodLink own i ⟨ad, "clone", "()Ljava/lang/Object;"⟩).before a0 Z = true) (w2 : (Jvm.Cond.sameMethod ad "java/lang/Object" "clone" "()Ljava/lang/Object;").before a0 Z = true) (w3 : (Jvm.Cond.native ⟨"java/lang/Object", "clone", "()Ljava/lang/Object;"⟩).before a0 Z = true) (w4 : (Jvm.Cond.instanceMethod ⟨"java/lang/Object", "clone", "()Ljava/lang/Object;"⟩).before a0 Z = true) (w5 : (Jvm.Cond.selects ad ⟨ad, "clone", "()Ljava/lang/Object;"⟩ ⟨"java/lang/Object", "clone", "()Ljava/lang/Object;"⟩).before a0 Z = true) (w6 : (Jvm.Cond.castable ad "java/lang/Cloneable").before a0 Z = true) (A : Av Z h a ty vs) (E : Exa Z h a ad) (hfit : ∀ v ∈ vs, fits ty v = true) (hls : Ls.size = mx) (hf : 1 ≤ R.frames) (hW : wt st = W) (hlo : W + 14 ≤ R.locals) (hcap : vs.length ≤ cap) (hce : ce + 1 = ce') (hsl : sl + cap = sl') (hc : ce' ≤ R.cells) (hl : sl' ≤ R.slots) (hd : decode bs pc = .ok (.invokevirtual i, 3)) (hp : pc + 3 = pc')
    (hr : ∀ (h' : Heap) (b : Addr), h.size = b → Ext h h' → Exa Z h' b ad → Av Z h' b ty vs → Go p l e R s m args below meth c n0 Q K N h' ce' sl' (mkF m pc' Ls (.ref b :: st))) : Go p l e R s m args below meth c n0 Q K N h ce sl (mkF m pc Ls (.ref a :: st)) := by
  subst hp hce hsl
  intro T locs X eT Nn
  obtain ⟨cl, A1, e1, e2⟩ := A
  have hsz : cl.slots.size = vs.length := by rw [← e1]; simp
  have FC : FitC Z cl := fitC_of A1 fun i hi v hv => hfit v (by rw [← e1]; exact Array.mem_toList_iff.mpr (Array.mem_of_getElem? hv))
  obtain ⟨T', h', X', e', E', A', Q', stp⟩ := cloneA X C.1 C.2.2.2.1 C.2.2.2.2.1 w1 w2 w3 w4 w5 w6 eT A1 E FC (g := mkF m pc Ls (.ref a :: st)) rfl (hls.trans C.2.2.1.symm) rfl (hb C.2.1 hd) hf (W := W) (cap := cap) (by show 2 * 0 + wt st ≤ W; omega) hlo (by rw [hsz]; exact hcap) hc hl
  obtain ⟨s₂, o, h1, r⟩ := hr h' _ rfl E' Q' ⟨_, A', e1, e2⟩ T' _ X' e' Nn
  exact ⟨s₂, o, stp _ h1, r⟩
theorem go_checkcast (C : Cx p s m meth c Z own bs mx rt nm) {i : Nat} {K0 : String} {a : Addr} (w : (Jvm.Cond.classLink own i K0).before a0 Z = true) (E : Exa Z h a K0) (hd : decode bs pc = .ok (.checkcast i, 3)) (hp : pc + 3 = pc') (hr : Go p l e R s m args below meth c n0 Q K N h ce sl (mkF m pc' Ls (.ref a :: st))) : Go p l e R s m args below meth c n0 Q K N h ce sl (mkF m pc Ls (.ref a :: st)) := by
  subst hp
  intro T locs X eT Nn
  obtain ⟨T', X', e', stp⟩ := castY X C.1 C.2.2.2.1 C.2.2.2.2.1 w eT (Ins.self E) (g := mkF m pc Ls (.ref a :: st)) rfl rfl (hb C.2.1 hd)
  obtain ⟨s₂, o, h1, r⟩ := hr T' locs X' e' Nn
  exact ⟨s₂, o, stp _ h1, r⟩
theorem go_objinit (C : Cx p s m meth c Z own bs mx rt nm) {i : Nat} {a : Addr} {W : Nat} (w1 : (Jvm.Cond.methodLink own i Lib.objectInit).before a0 Z = true) (w2 : (Jvm.Cond.instanceMethod Lib.objectInit).before a0 Z = true) (w3 : (Jvm.Cond.code Lib.objectInit ⟨#[0xb1]⟩ 1 none).before a0 Z = true) (hls : Ls.size = mx) (hf : 1 ≤ R.frames) (hW : wt st = W) (hl : W + 12 ≤ R.locals) (hd : decode bs pc = .ok (.invokespecial i, 3)) (hp : pc + 3 = pc') (hr : Go p l e R s m args below meth c n0 Q K N h ce sl (mkF m pc' Ls st)) : Go p l e R s m args below meth c n0 Q K N h ce sl (mkF m pc Ls (.ref a :: st)) := by
  subst hp
  intro T locs X eT Nn
  obtain ⟨T', X', e', stp⟩ := initO X C.1 C.2.2.2.1 C.2.2.2.2.1 w1 w2 w3 eT (g := mkF m pc Ls (.ref a :: st)) rfl (hls.trans C.2.2.1.symm) rfl (hb C.2.1 hd) hf (W := W) (by show 2 * 0 + wt st ≤ W; omega) hl
  obtain ⟨s₂, o, h1, r⟩ := hr T' locs X' e' Nn
  exact ⟨s₂, o, stp _ h1, r⟩
theorem back_of_sat {y : MethodName} {cb : ByteArray} {cm : Nat} {cr : Option FieldType} {rm : Room} {as : List Value} {Qc : Option Value → Heap → Prop} {W len : Nat} (S : Sat l Z y cb cm cr rm as h n0 Qc) (hZ : Z.Warmed39 s.vm) (w3 : (Jvm.Cond.initialized y.cls).before a0 Z = true) (w4 : (Jvm.Cond.code y cb cm cr).before a0 Z = true) (hfr : rm.frames + 1 ≤ R.frames) (hlo : W + (cm + 11) + rm.locals ≤ R.locals) :
    Back l R p e below s args y len W (fun A a => a = as.toArray ∧ A.U.heap = h ∧ A.cells + rm.cells ≤ R.cells ∧ A.slots + rm.slots ≤ R.slots) (fun A _ v B => ∃ L, (Qc v B.U.heap ∧ Fr n0 L) ∧ B.locs = A.locs ++ L ∧ B.cells = A.cells + rm.cells ∧ B.slots = A.slots + rm.slots) :=
  backOf (Q := fun v h L => Qc v h ∧ Fr n0 L) (W := W) (S []) hZ w4 w3 hfr hlo
theorem go_static (C : Cx p s m meth c Z own bs mx rt nm) {y : MethodName} {i : Nat} {cb : ByteArray} {cm : Nat} {cr : Option FieldType} {rm : Room} {as rest : List Value} {W : Nat} {ps : List FieldType} {pr : Option FieldType} {ce' sl' : Nat} {Qc : Option Value → Heap → Prop} (S : Sat l Z y cb cm cr rm as h n0 Qc) (w1 : (Jvm.Cond.methodLink own i y).before a0 Z = true) (w2 : (Jvm.Cond.static y).before a0 Z = true) (w3 : (Jvm.Cond.initialized y.cls).before a0 Z = true) (w4 : (Jvm.Cond.code y cb cm cr).before a0 Z = true) (hy : y.cls ≠ "java/lang/invoke/MethodHandle" ∧ y.cls ≠ "java/lang/invoke/VarHandle") (hpd : parseMethodDescriptor y.desc = some ⟨ps, pr⟩) (hlen : as.length = ps.length) (hls : Ls.size = mx) (hW : wt rest = W) (hfr : rm.frames + 1 ≤ R.frames) (hlo : W + (cm + 11) + rm.locals ≤ R.locals) (hce : ce + rm.cells = ce') (hsl : sl + rm.slots = sl') (hcc : ce' ≤ R.cells) (hss : sl' ≤ R.slots) (hd : decode bs pc = .ok (.invokestatic i, 3)) (hp : pc + 3 = pc') (hst : st = as.reverse ++ rest) (hr : ∀ v h', Qc v h' → Go p l e R s m args below meth c n0 Q K N h' ce' sl' (mkF m pc' Ls (v.toList ++ rest))) : Go p l e R s m args below meth c n0 Q K N h ce sl (mkF m pc Ls st) := by
  subst hp hce hsl
  intro T locs X eT Nn
  have hZ := C.2.2.2.1
  obtain ⟨v, _, ⟨T', L', k', n'⟩, -, X', ⟨Lc, hQ, l', y', z'⟩, stp⟩ := Jvm.LawKit.callS X C.1 (y := y) C.2.2.2.2.1 (mvT hZ w1) (mvT hZ w2) (mvT hZ w3) (mvT hZ w4) hy (back_of_sat S hZ w3 w4 hfr hlo) (g := mkF m pc Ls st) rfl (hls.trans C.2.2.1.symm) (argsL := as) (rest := rest) (lenOf hpd hlen) hst (by show 2 * 0 + wt rest ≤ W; omega) (hb C.2.1 hd) (fun _ _ => ⟨rfl, eT, hcc, hss⟩)
  dsimp only [Pt.U, Pt.locs, Pt.cells, Pt.slots] at X' l' y' z' stp hQ
  subst l' y' z'
  obtain ⟨s₂, o, h1, r⟩ := hr v T'.heap hQ.1 T' _ X' rfl (Fr.app Nn hQ.2)
  exact ⟨s₂, o, stp _ h1, r⟩
theorem go_special (C : Cx p s m meth c Z own bs mx rt nm) {y : MethodName} {i : Nat} {cb : ByteArray} {cm : Nat} {rm : Room} {as rest : List Value} {W : Nat} {ps : List FieldType} {pr : Option FieldType} {ce' sl' : Nat} {a : Addr} {Qc : Option Value → Heap → Prop} (S : Sat l Z y cb cm none rm (.ref a :: as) h n0 Qc) (hyn : y.name = "<init>") (w1 : (Jvm.Cond.methodLink own i y).before a0 Z = true) (w2 : (Jvm.Cond.instanceMethod y).before a0 Z = true) (w3 : (Jvm.Cond.initialized y.cls).before a0 Z = true) (w4 : (Jvm.Cond.code y cb cm none).before a0 Z = true) (hy : y.cls ≠ "java/lang/invoke/MethodHandle" ∧ y.cls ≠ "java/lang/invoke/VarHandle") (hpd : parseMethodDescriptor y.desc = some ⟨ps, pr⟩) (hlen : as.length = ps.length) (hls : Ls.size = mx) (hW : wt rest = W) (hfr : rm.frames + 1 ≤ R.frames) (hlo : W + (cm + 11) + rm.locals ≤ R.locals) (hce : ce + rm.cells = ce') (hsl : sl + rm.slots = sl') (hcc : ce' ≤ R.cells) (hss : sl' ≤ R.slots) (hd : decode bs pc = .ok (.invokespecial i, 3)) (hp : pc + 3 = pc') (hst : st = as.reverse ++ .ref a :: rest) (hr : ∀ v h', Qc v h' → Go p l e R s m args below meth c n0 Q K N h' ce' sl' (mkF m pc' Ls (v.toList ++ rest))) : Go p l e R s m args below meth c n0 Q K N h ce sl (mkF m pc Ls st) := by
  subst hp hce hsl
  intro T locs X eT Nn
  have hZ := C.2.2.2.1
  obtain ⟨v, _, ⟨T', L', k', n'⟩, -, X', ⟨Lc, hQ, l', y', z'⟩, stp⟩ := X.specialBack C.1 (y := y) hyn C.2.2.2.2.1 (mvT hZ w1) (mvT hZ w2) (mvT hZ w4) hy (back_of_sat S hZ w3 w4 hfr hlo) (g := mkF m pc Ls st) rfl (hls.trans C.2.2.1.symm) (Steps.refl _) (a := a) (argsL := as) (rest := rest) (lenOf hpd hlen) hst (by show 2 * 0 + wt rest ≤ W; omega) (hb C.2.1 hd) (fun _ _ => ⟨rfl, eT, hcc, hss⟩)
  dsimp only [Pt.U, Pt.locs, Pt.cells, Pt.slots] at X' l' y' z' stp hQ
  subst l' y' z'
  obtain ⟨s₂, o, h1, r⟩ := hr v T'.heap hQ.1 T' _ X' rfl (Fr.app Nn hQ.2)
  exact ⟨s₂, o, stp.trans h1, r⟩
theorem go_virtual (C : Cx p s m meth c Z own bs mx rt nm) {y : MethodName} {i : Nat} {cb : ByteArray} {cm : Nat} {cr : Option FieldType} {rm : Room} {as rest : List Value} {W : Nat} {ps : List FieldType} {pr : Option FieldType} {ce' sl' : Nat} {a : Addr} {C0 : String} {Qc : Option Value → Heap → Prop} (S : Sat l Z y cb cm cr rm (.ref a :: as) h n0 Qc) (E : Exa Z h a C0) (w1 : (Jvm.Cond.methodLink own i y).before a0 Z = true) (w5 : (Jvm.Cond.declares y).before a0 Z = true) (w6 : (Jvm.Cond.selects C0 y y).before a0 Z = true) (w2 : (Jvm.Cond.instanceMethod y).before a0 Z = true) (w3 : (Jvm.Cond.initialized y.cls).before a0 Z = true) (w4 : (Jvm.Cond.code y cb cm cr).before a0 Z = true) (hy : y.cls ≠ "java/lang/invoke/MethodHandle" ∧ y.cls ≠ "java/lang/invoke/VarHandle") (hpd : parseMethodDescriptor y.desc = some ⟨ps, pr⟩) (hlen : as.length = ps.length) (hls : Ls.size = mx) (hW : wt rest = W) (hfr : rm.frames + 1 ≤ R.frames) (hlo : W + (cm + 11) + rm.locals ≤ R.locals) (hce : ce + rm.cells = ce') (hsl : sl + rm.slots = sl') (hcc : ce' ≤ R.cells) (hss : sl' ≤ R.slots) (hd : decode bs pc = .ok (.invokevirtual i, 3)) (hp : pc + 3 = pc') (hst : st = as.reverse ++ .ref a :: rest) (hr : ∀ v h', Qc v h' → Go p l e R s m args below meth c n0 Q K N h' ce' sl' (mkF m pc' Ls (v.toList ++ rest))) : Go p l e R s m args below meth c n0 Q K N h ce sl (mkF m pc Ls st) := by
  subst hp hce hsl
  intro T locs X eT Nn
  have hZ := C.2.2.2.1
  obtain ⟨cq, kq, qa, qb, qc⟩ := isOf hZ eT E
  obtain ⟨v, _, ⟨T', L', k', n'⟩, -, X', ⟨Lc, hQ, l', y', z'⟩, stp⟩ := X.virtualBack C.1 (y := y) (z := y) C.2.2.2.2.1 (mvT hZ w1) (mvT hZ w5) (notFace_of_selects (args := #[]) (mvT hZ w6)) (mvT hZ w6) (mvT hZ w2) hy (back_of_sat S hZ w3 w4 hfr hlo) qa qc (g := mkF m pc Ls st) rfl (hls.trans C.2.2.1.symm) (Steps.refl _) (argsL := as) (rest := rest) (lenOf hpd hlen) hst (by show 2 * 0 + wt rest ≤ W; omega) (hb C.2.1 hd) (fun _ _ => ⟨rfl, eT, hcc, hss⟩)
  dsimp only [Pt.U, Pt.locs, Pt.cells, Pt.slots] at X' l' y' z' stp hQ
  subst l' y' z'
  obtain ⟨s₂, o, h1, r⟩ := hr v T'.heap hQ.1 T' _ X' rfl (Fr.app Nn hQ.2)
  exact ⟨s₂, o, stp.trans h1, r⟩
theorem go_private (C : Cx p s m meth c Z own bs mx rt nm) {y : MethodName} {i : Nat} {cb : ByteArray} {cm : Nat} {cr : Option FieldType} {rm : Room} {as rest : List Value} {W : Nat} {ps : List FieldType} {pr : Option FieldType} {ce' sl' : Nat} {a : Addr} {C0 : String} {Qc : Option Value → Heap → Prop} (S : Sat l Z y cb cm cr rm (.ref a :: as) h n0 Qc) (E : Exa Z h a C0) (w1 : (Jvm.Cond.methodLink own i y).before a0 Z = true) (w5 : (Jvm.Cond.privateMethod y).before a0 Z = true) (w6 : (Jvm.Cond.selects y.cls y y).before a0 Z = true) (w2 : (Jvm.Cond.instanceMethod y).before a0 Z = true) (w3 : (Jvm.Cond.initialized y.cls).before a0 Z = true) (w4 : (Jvm.Cond.code y cb cm cr).before a0 Z = true) (hy : y.cls ≠ "java/lang/invoke/MethodHandle" ∧ y.cls ≠ "java/lang/invoke/VarHandle") (hpd : parseMethodDescriptor y.desc = some ⟨ps, pr⟩) (hlen : as.length = ps.length) (hls : Ls.size = mx) (hW : wt rest = W) (hfr : rm.frames + 1 ≤ R.frames) (hlo : W + (cm + 11) + rm.locals ≤ R.locals) (hce : ce + rm.cells = ce') (hsl : sl + rm.slots = sl') (hcc : ce' ≤ R.cells) (hss : sl' ≤ R.slots) (hd : decode bs pc = .ok (.invokevirtual i, 3)) (hp : pc + 3 = pc') (hst : st = as.reverse ++ .ref a :: rest) (hr : ∀ v h', Qc v h' → Go p l e R s m args below meth c n0 Q K N h' ce' sl' (mkF m pc' Ls (v.toList ++ rest))) : Go p l e R s m args below meth c n0 Q K N h ce sl (mkF m pc Ls st) := by
  subst hp hce hsl
  intro T locs X eT Nn
  have hZ := C.2.2.2.1
  obtain ⟨cell, hc1, hc2⟩ := E.cell
  obtain ⟨v, _, ⟨T', L', k', n'⟩, -, X', ⟨Lc, hQ, l', y', z'⟩, stp⟩ := X.privateBack C.1 (y := y) C.2.2.2.2.1 (mvT hZ w1) (mvT hZ w2) (mvT hZ w6) (Cond.privateMethod_at (args := #[]) (mvP hZ w5)) (mvT hZ w4) hy (back_of_sat S hZ w3 w4 hfr hlo) (g := mkF m pc Ls st) rfl (hls.trans C.2.2.1.symm) (Steps.refl _) (a := a) (by rw [eT]; exact hc1) hc2 (argsL := as) (rest := rest) (lenOf hpd hlen) hst (by show 2 * 0 + wt rest ≤ W; omega) (hb C.2.1 hd) (fun _ _ => ⟨rfl, eT, hcc, hss⟩)
  dsimp only [Pt.U, Pt.locs, Pt.cells, Pt.slots] at X' l' y' z' stp hQ
  subst l' y' z'
  obtain ⟨s₂, o, h1, r⟩ := hr v T'.heap hQ.1 T' _ X' rfl (Fr.app Nn hQ.2)
  exact ⟨s₂, o, stp.trans h1, r⟩
theorem own_selects_private {y : MethodName} {k : Nat} (wi : (Jvm.Cond.instantiable y.cls k).before a0 Z = true) (wp : (Jvm.Cond.privateMethod y).before a0 Z = true) (wm : (Jvm.Cond.instanceMethod y).before a0 Z = true) (hy : y.cls ≠ "java/lang/invoke/MethodHandle" ∧ y.cls ≠ "java/lang/invoke/VarHandle") : (Jvm.Cond.selects y.cls y y).before a0 Z = true := by
  obtain ⟨mk, methM, hnamed, hmethM, hstM, habM⟩ := Cond.instanceMethod_spec wm
  obtain ⟨c1, k1, q1, q2, q3, q4, -⟩ := Cond.instantiable_spec wi
  have hc := findClass_of_methodNamed hnamed
  cases q1.symm.trans hc
  have hf := State.methodFound?_of_named hnamed hy
  have hs : selectMethod {} Z.vm mk.cls mk = .method mk := selectMethod_private hmethM (Cond.privateMethod_at wp mk methM hnamed hmethM)
  have hi : k1.isInterface = false := by
    cases h : k1.isInterface
    · rfl
    · rw [h] at q4; simp at q4
  simp [Cond.before, Cond.holds, Cond.value, hc, hf, hnamed, hs, q2, hi]
theorem go_specialW (C : Cx p s m meth c Z own bs mx rt nm) {y : MethodName} {i : Nat} {cb : ByteArray} {cm : Nat} {rm : Room} {as rest : List Value} {W : Nat} {ps : List FieldType} {pr : Option FieldType} {ce' sl' : Nat} {a : Addr} {Qc : Option Value → Heap → Prop} (S : Sat l Z y cb cm none rm (.ref a :: as) h n0 Qc) (hyn : y.name = "<init>") (w1 : (Jvm.Cond.methodRef own i y).before a0 Z = true) (w2 : (Jvm.Cond.instanceMethod y).before a0 Z = true) (w3 : (Jvm.Cond.initialized y.cls).before a0 Z = true) (w4 : (Jvm.Cond.code y cb cm none).before a0 Z = true) (hy : y.cls ≠ "java/lang/invoke/MethodHandle" ∧ y.cls ≠ "java/lang/invoke/VarHandle") (hpd : parseMethodDescriptor y.desc = some ⟨ps, pr⟩) (hlen : as.length = ps.length) (hls : Ls.size = mx) (hW : wt rest = W) (hfr : rm.frames + 1 ≤ R.frames) (hlo : W + (cm + 11) + rm.locals ≤ R.locals) (hce : ce + rm.cells = ce') (hsl : sl + rm.slots = sl') (hcc : ce' ≤ R.cells) (hss : sl' ≤ R.slots) (hd : decode bs pc = .ok (.invokespecial i, 3)) (hp : pc + 3 = pc') (hst : st = as.reverse ++ .ref a :: rest) (hr : ∀ v h', Qc v h' → Go p l e R s m args below meth c n0 Q K N h' ce' sl' (mkF m pc' Ls (v.toList ++ rest))) : Go p l e R s m args below meth c n0 Q K N h ce sl (mkF m pc Ls st) := by
  subst hp hce hsl
  intro T locs X eT Nn
  have hZ := C.2.2.2.1
  have hT : Z.Warmed39 T.vm := wtrans hZ X.warmed
  obtain ⟨mZ, _, hnZ, -⟩ := Cond.instanceMethod_spec w2
  have w1T : (Jvm.Cond.methodRef own i y).before a0 T = true := (Cond.methodRef_warmed39 hT hnZ hy w1 :)
  obtain ⟨mO, methO, hnO, hmO, hstO, habO⟩ := Cond.instanceMethod_spec (mv (args := a0) hT w2)
  obtain ⟨methO', cO, hmO', hcO, hbO, hlO, -, hlockO, -, hsigO⟩ := Cond.code_spec hnO (mv (args := a0) hT w4)
  cases hmO.symm.trans hmO'
  obtain ⟨kO, hkO, hnameO⟩ := className_of_methodNamed hnO
  obtain ⟨hnameMO, hdescO⟩ := name_of_methodNamed hnO hmO
  have hownT : T.vm.findClass own = some m.cls := by rw [X.warmed.alike.findClass]; exact C.2.2.2.2.1
  obtain ⟨m', c', hf', hready, hfc, hnr⟩ := Cond.methodRef_named e hownT w1T
  have e1 : m' = mO := Option.some.inj (hf'.symm.trans (State.methodFound?_of_named hnO hy))
  subst e1
  have e2 : c' = m'.cls := Option.some.inj (hfc.symm.trans (findClass_of_methodNamed hnO))
  subst e2
  have hfound : lookupSpecial T.vm m'.cls "<init>" methO.desc = .method m' := by rw [hdescO, ← hyn]; exact lookupSpecial_of_named hnO hmO hstO
  have hstep : ∀ target, (∀ acts, Steps p.tables e below (doInvoke e (T.setTop { mkF m pc Ls st with stack := rest }) acts m' (.ref a :: as).toArray).1 target) → Steps p.tables e below (T.setTop (mkF m pc Ls st)) target := fun target hrest => by
    jvm_step X.here [C.1, (hb C.2.1 hd), invokespecial.wp_init (e := e) (s := T) (k := kO) (meth := methO) (m := m') (a := a) (args := as) (rest := rest) (f := mkF m pc Ls st) X.here.top hnr hready hkO hmO (by rw [hnameMO]; exact hyn) hstO habO hfound (lenOf hpd hlen _ hsigO) hst]
    exact hrest
  have B := back_of_sat (p := p) (e := e) (below := below) (args := args) (R := R) (len := 3) S hZ w3 w4 hfr hlo
  obtain ⟨v, ⟨T', L', k', n'⟩, X', ⟨Lc, hQ, l', y', z'⟩, stp⟩ := B m meth c ⟨T, locs, ce, sl⟩ { mkF m pc Ls st with stack := rest } (.invokespecial i) m' (.ref a :: as).toArray X rfl (hls.trans C.2.2.1.symm) (hb C.2.1 hd) (by show 2 * 0 + wt rest ≤ W; omega) hnO ⟨rfl, eT, hcc, hss⟩
  dsimp only [Pt.U, Pt.locs, Pt.cells, Pt.slots] at X' l' y' z' stp hQ
  subst l' y' z'
  obtain ⟨s₂, o, h1, r⟩ := hr v T'.heap hQ.1 T' _ X' rfl (Fr.app Nn hQ.2)
  exact ⟨s₂, o, (hstep _ (fun acts => by rw [doInvoke_state]; exact Steps.refl _)).trans (stp.trans h1), r⟩
theorem go_staticP (C : Cx p s m meth c Z own bs mx rt nm) {y : MethodName} {i : Nat} {cb : ByteArray} {cm : Nat} {cr : Option FieldType} {rm : Room} {as rest : List Value} {W : Nat} {ps : List FieldType} {pr : Option FieldType}  (v : Value) (S : Sat l Z y cb cm cr rm as h n0 (RV fun r h' => r = v ∧ h' = h)) (w1 : (Jvm.Cond.methodLink own i y).before a0 Z = true) (w2 : (Jvm.Cond.static y).before a0 Z = true) (w3 : (Jvm.Cond.initialized y.cls).before a0 Z = true) (w4 : (Jvm.Cond.code y cb cm cr).before a0 Z = true) (hy : y.cls ≠ "java/lang/invoke/MethodHandle" ∧ y.cls ≠ "java/lang/invoke/VarHandle") (hpd : parseMethodDescriptor y.desc = some ⟨ps, pr⟩) (hlen : as.length = ps.length) (hls : Ls.size = mx) (hW : wt rest = W) (hfr : rm.frames + 1 ≤ R.frames) (hlo : W + (cm + 11) + rm.locals ≤ R.locals) (hce : rm.cells = 0) (hsl : rm.slots = 0) (hcc : ce ≤ R.cells) (hss : sl ≤ R.slots) (hd : decode bs pc = .ok (.invokestatic i, 3)) (hp : pc + 3 = pc') (hst : st = as.reverse ++ rest) (hr : Go p l e R s m args below meth c n0 Q K N h ce sl (mkF m pc' Ls (v :: rest))) : Go p l e R s m args below meth c n0 Q K N h ce sl (mkF m pc Ls st) :=
  go_static C S w1 w2 w3 w4 hy hpd hlen hls hW hfr hlo (by rw [hce]; rfl) (by rw [hsl]; rfl) hcc hss hd hp hst (fun w h' hq => by obtain ⟨r, rfl, q1, q2⟩ := hq; rw [q1, q2]; exact hr)
theorem go_staticV (C : Cx p s m meth c Z own bs mx rt nm) {y : MethodName} {i : Nat} {cb : ByteArray} {cm : Nat} {cr : Option FieldType} {rm : Room} {as rest : List Value} {W : Nat} {ps : List FieldType} {pr : Option FieldType} {ce' sl' : Nat}  {P : Value → Heap → Prop} (S : Sat l Z y cb cm cr rm as h n0 (RV P)) (w1 : (Jvm.Cond.methodLink own i y).before a0 Z = true) (w2 : (Jvm.Cond.static y).before a0 Z = true) (w3 : (Jvm.Cond.initialized y.cls).before a0 Z = true) (w4 : (Jvm.Cond.code y cb cm cr).before a0 Z = true) (hy : y.cls ≠ "java/lang/invoke/MethodHandle" ∧ y.cls ≠ "java/lang/invoke/VarHandle") (hpd : parseMethodDescriptor y.desc = some ⟨ps, pr⟩) (hlen : as.length = ps.length) (hls : Ls.size = mx) (hW : wt rest = W) (hfr : rm.frames + 1 ≤ R.frames) (hlo : W + (cm + 11) + rm.locals ≤ R.locals) (hce : ce + rm.cells = ce') (hsl : sl + rm.slots = sl') (hcc : ce' ≤ R.cells) (hss : sl' ≤ R.slots) (hd : decode bs pc = .ok (.invokestatic i, 3)) (hp : pc + 3 = pc') (hst : st = as.reverse ++ rest) (hr : ∀ r h', P r h' → Go p l e R s m args below meth c n0 Q K N h' ce' sl' (mkF m pc' Ls (r :: rest))) : Go p l e R s m args below meth c n0 Q K N h ce sl (mkF m pc Ls st) :=
  go_static C S w1 w2 w3 w4 hy hpd hlen hls hW hfr hlo hce hsl hcc hss hd hp hst (fun v h' hq => by obtain ⟨r, rfl, q⟩ := hq; exact hr r h' q)
theorem go_staticN (C : Cx p s m meth c Z own bs mx rt nm) {y : MethodName} {i : Nat} {cb : ByteArray} {cm : Nat} {cr : Option FieldType} {rm : Room} {as rest : List Value} {W : Nat} {ps : List FieldType} {pr : Option FieldType} {ce' sl' : Nat}  {P : Heap → Prop} (S : Sat l Z y cb cm cr rm as h n0 (RN P)) (w1 : (Jvm.Cond.methodLink own i y).before a0 Z = true) (w2 : (Jvm.Cond.static y).before a0 Z = true) (w3 : (Jvm.Cond.initialized y.cls).before a0 Z = true) (w4 : (Jvm.Cond.code y cb cm cr).before a0 Z = true) (hy : y.cls ≠ "java/lang/invoke/MethodHandle" ∧ y.cls ≠ "java/lang/invoke/VarHandle") (hpd : parseMethodDescriptor y.desc = some ⟨ps, pr⟩) (hlen : as.length = ps.length) (hls : Ls.size = mx) (hW : wt rest = W) (hfr : rm.frames + 1 ≤ R.frames) (hlo : W + (cm + 11) + rm.locals ≤ R.locals) (hce : ce + rm.cells = ce') (hsl : sl + rm.slots = sl') (hcc : ce' ≤ R.cells) (hss : sl' ≤ R.slots) (hd : decode bs pc = .ok (.invokestatic i, 3)) (hp : pc + 3 = pc') (hst : st = as.reverse ++ rest) (hr : ∀ h', P h' → Go p l e R s m args below meth c n0 Q K N h' ce' sl' (mkF m pc' Ls rest)) : Go p l e R s m args below meth c n0 Q K N h ce sl (mkF m pc Ls st) :=
  go_static C S w1 w2 w3 w4 hy hpd hlen hls hW hfr hlo hce hsl hcc hss hd hp hst (fun v h' hq => by obtain ⟨rfl, q⟩ := hq; exact hr h' q)
theorem go_virtualP (C : Cx p s m meth c Z own bs mx rt nm) {y : MethodName} {i : Nat} {cb : ByteArray} {cm : Nat} {cr : Option FieldType} {rm : Room} {as rest : List Value} {W : Nat} {ps : List FieldType} {pr : Option FieldType} {a : Addr} {C0 : String} (v : Value) (S : Sat l Z y cb cm cr rm (.ref a :: as) h n0 (RV fun r h' => r = v ∧ h' = h)) (E : Exa Z h a C0) (w1 : (Jvm.Cond.methodLink own i y).before a0 Z = true) (w5 : (Jvm.Cond.declares y).before a0 Z = true) (w6 : (Jvm.Cond.selects C0 y y).before a0 Z = true) (w2 : (Jvm.Cond.instanceMethod y).before a0 Z = true) (w3 : (Jvm.Cond.initialized y.cls).before a0 Z = true) (w4 : (Jvm.Cond.code y cb cm cr).before a0 Z = true) (hy : y.cls ≠ "java/lang/invoke/MethodHandle" ∧ y.cls ≠ "java/lang/invoke/VarHandle") (hpd : parseMethodDescriptor y.desc = some ⟨ps, pr⟩) (hlen : as.length = ps.length) (hls : Ls.size = mx) (hW : wt rest = W) (hfr : rm.frames + 1 ≤ R.frames) (hlo : W + (cm + 11) + rm.locals ≤ R.locals) (hce : rm.cells = 0) (hsl : rm.slots = 0) (hcc : ce ≤ R.cells) (hss : sl ≤ R.slots) (hd : decode bs pc = .ok (.invokevirtual i, 3)) (hp : pc + 3 = pc') (hst : st = as.reverse ++ .ref a :: rest) (hr : Go p l e R s m args below meth c n0 Q K N h ce sl (mkF m pc' Ls (v :: rest))) : Go p l e R s m args below meth c n0 Q K N h ce sl (mkF m pc Ls st) :=
  go_virtual C S E w1 w5 w6 w2 w3 w4 hy hpd hlen hls hW hfr hlo (by rw [hce]; rfl) (by rw [hsl]; rfl) hcc hss hd hp hst (fun w h' hq => by obtain ⟨r, rfl, q1, q2⟩ := hq; rw [q1, q2]; exact hr)
theorem go_virtualV (C : Cx p s m meth c Z own bs mx rt nm) {y : MethodName} {i : Nat} {cb : ByteArray} {cm : Nat} {cr : Option FieldType} {rm : Room} {as rest : List Value} {W : Nat} {ps : List FieldType} {pr : Option FieldType} {ce' sl' : Nat} {a : Addr} {C0 : String} {P : Value → Heap → Prop} (S : Sat l Z y cb cm cr rm (.ref a :: as) h n0 (RV P)) (E : Exa Z h a C0) (w1 : (Jvm.Cond.methodLink own i y).before a0 Z = true) (w5 : (Jvm.Cond.declares y).before a0 Z = true) (w6 : (Jvm.Cond.selects C0 y y).before a0 Z = true) (w2 : (Jvm.Cond.instanceMethod y).before a0 Z = true) (w3 : (Jvm.Cond.initialized y.cls).before a0 Z = true) (w4 : (Jvm.Cond.code y cb cm cr).before a0 Z = true) (hy : y.cls ≠ "java/lang/invoke/MethodHandle" ∧ y.cls ≠ "java/lang/invoke/VarHandle") (hpd : parseMethodDescriptor y.desc = some ⟨ps, pr⟩) (hlen : as.length = ps.length) (hls : Ls.size = mx) (hW : wt rest = W) (hfr : rm.frames + 1 ≤ R.frames) (hlo : W + (cm + 11) + rm.locals ≤ R.locals) (hce : ce + rm.cells = ce') (hsl : sl + rm.slots = sl') (hcc : ce' ≤ R.cells) (hss : sl' ≤ R.slots) (hd : decode bs pc = .ok (.invokevirtual i, 3)) (hp : pc + 3 = pc') (hst : st = as.reverse ++ .ref a :: rest) (hr : ∀ r h', P r h' → Go p l e R s m args below meth c n0 Q K N h' ce' sl' (mkF m pc' Ls (r :: rest))) : Go p l e R s m args below meth c n0 Q K N h ce sl (mkF m pc Ls st) :=
  go_virtual C S E w1 w5 w6 w2 w3 w4 hy hpd hlen hls hW hfr hlo hce hsl hcc hss hd hp hst (fun v h' hq => by obtain ⟨r, rfl, q⟩ := hq; exact hr r h' q)
theorem go_virtualN (C : Cx p s m meth c Z own bs mx rt nm) {y : MethodName} {i : Nat} {cb : ByteArray} {cm : Nat} {cr : Option FieldType} {rm : Room} {as rest : List Value} {W : Nat} {ps : List FieldType} {pr : Option FieldType} {ce' sl' : Nat} {a : Addr} {C0 : String} {P : Heap → Prop} (S : Sat l Z y cb cm cr rm (.ref a :: as) h n0 (RN P)) (E : Exa Z h a C0) (w1 : (Jvm.Cond.methodLink own i y).before a0 Z = true) (w5 : (Jvm.Cond.declares y).before a0 Z = true) (w6 : (Jvm.Cond.selects C0 y y).before a0 Z = true) (w2 : (Jvm.Cond.instanceMethod y).before a0 Z = true) (w3 : (Jvm.Cond.initialized y.cls).before a0 Z = true) (w4 : (Jvm.Cond.code y cb cm cr).before a0 Z = true) (hy : y.cls ≠ "java/lang/invoke/MethodHandle" ∧ y.cls ≠ "java/lang/invoke/VarHandle") (hpd : parseMethodDescriptor y.desc = some ⟨ps, pr⟩) (hlen : as.length = ps.length) (hls : Ls.size = mx) (hW : wt rest = W) (hfr : rm.frames + 1 ≤ R.frames) (hlo : W + (cm + 11) + rm.locals ≤ R.locals) (hce : ce + rm.cells = ce') (hsl : sl + rm.slots = sl') (hcc : ce' ≤ R.cells) (hss : sl' ≤ R.slots) (hd : decode bs pc = .ok (.invokevirtual i, 3)) (hp : pc + 3 = pc') (hst : st = as.reverse ++ .ref a :: rest) (hr : ∀ h', P h' → Go p l e R s m args below meth c n0 Q K N h' ce' sl' (mkF m pc' Ls rest)) : Go p l e R s m args below meth c n0 Q K N h ce sl (mkF m pc Ls st) :=
  go_virtual C S E w1 w5 w6 w2 w3 w4 hy hpd hlen hls hW hfr hlo hce hsl hcc hss hd hp hst (fun v h' hq => by obtain ⟨rfl, q⟩ := hq; exact hr h' q)
theorem go_privateP (C : Cx p s m meth c Z own bs mx rt nm) {y : MethodName} {i : Nat} {cb : ByteArray} {cm : Nat} {cr : Option FieldType} {rm : Room} {as rest : List Value} {W : Nat} {ps : List FieldType} {pr : Option FieldType} {a : Addr} {C0 : String} (v : Value) (S : Sat l Z y cb cm cr rm (.ref a :: as) h n0 (RV fun r h' => r = v ∧ h' = h)) (E : Exa Z h a C0) (w1 : (Jvm.Cond.methodLink own i y).before a0 Z = true) (w5 : (Jvm.Cond.privateMethod y).before a0 Z = true) (w6 : (Jvm.Cond.selects y.cls y y).before a0 Z = true) (w2 : (Jvm.Cond.instanceMethod y).before a0 Z = true) (w3 : (Jvm.Cond.initialized y.cls).before a0 Z = true) (w4 : (Jvm.Cond.code y cb cm cr).before a0 Z = true) (hy : y.cls ≠ "java/lang/invoke/MethodHandle" ∧ y.cls ≠ "java/lang/invoke/VarHandle") (hpd : parseMethodDescriptor y.desc = some ⟨ps, pr⟩) (hlen : as.length = ps.length) (hls : Ls.size = mx) (hW : wt rest = W) (hfr : rm.frames + 1 ≤ R.frames) (hlo : W + (cm + 11) + rm.locals ≤ R.locals) (hce : rm.cells = 0) (hsl : rm.slots = 0) (hcc : ce ≤ R.cells) (hss : sl ≤ R.slots) (hd : decode bs pc = .ok (.invokevirtual i, 3)) (hp : pc + 3 = pc') (hst : st = as.reverse ++ .ref a :: rest) (hr : Go p l e R s m args below meth c n0 Q K N h ce sl (mkF m pc' Ls (v :: rest))) : Go p l e R s m args below meth c n0 Q K N h ce sl (mkF m pc Ls st) :=
  go_private C S E w1 w5 w6 w2 w3 w4 hy hpd hlen hls hW hfr hlo (by rw [hce]; rfl) (by rw [hsl]; rfl) hcc hss hd hp hst (fun w h' hq => by obtain ⟨r, rfl, q1, q2⟩ := hq; rw [q1, q2]; exact hr)
theorem go_privateV (C : Cx p s m meth c Z own bs mx rt nm) {y : MethodName} {i : Nat} {cb : ByteArray} {cm : Nat} {cr : Option FieldType} {rm : Room} {as rest : List Value} {W : Nat} {ps : List FieldType} {pr : Option FieldType} {ce' sl' : Nat} {a : Addr} {C0 : String} {P : Value → Heap → Prop} (S : Sat l Z y cb cm cr rm (.ref a :: as) h n0 (RV P)) (E : Exa Z h a C0) (w1 : (Jvm.Cond.methodLink own i y).before a0 Z = true) (w5 : (Jvm.Cond.privateMethod y).before a0 Z = true) (w6 : (Jvm.Cond.selects y.cls y y).before a0 Z = true) (w2 : (Jvm.Cond.instanceMethod y).before a0 Z = true) (w3 : (Jvm.Cond.initialized y.cls).before a0 Z = true) (w4 : (Jvm.Cond.code y cb cm cr).before a0 Z = true) (hy : y.cls ≠ "java/lang/invoke/MethodHandle" ∧ y.cls ≠ "java/lang/invoke/VarHandle") (hpd : parseMethodDescriptor y.desc = some ⟨ps, pr⟩) (hlen : as.length = ps.length) (hls : Ls.size = mx) (hW : wt rest = W) (hfr : rm.frames + 1 ≤ R.frames) (hlo : W + (cm + 11) + rm.locals ≤ R.locals) (hce : ce + rm.cells = ce') (hsl : sl + rm.slots = sl') (hcc : ce' ≤ R.cells) (hss : sl' ≤ R.slots) (hd : decode bs pc = .ok (.invokevirtual i, 3)) (hp : pc + 3 = pc') (hst : st = as.reverse ++ .ref a :: rest) (hr : ∀ r h', P r h' → Go p l e R s m args below meth c n0 Q K N h' ce' sl' (mkF m pc' Ls (r :: rest))) : Go p l e R s m args below meth c n0 Q K N h ce sl (mkF m pc Ls st) :=
  go_private C S E w1 w5 w6 w2 w3 w4 hy hpd hlen hls hW hfr hlo hce hsl hcc hss hd hp hst (fun v h' hq => by obtain ⟨r, rfl, q⟩ := hq; exact hr r h' q)
theorem go_privateN (C : Cx p s m meth c Z own bs mx rt nm) {y : MethodName} {i : Nat} {cb : ByteArray} {cm : Nat} {cr : Option FieldType} {rm : Room} {as rest : List Value} {W : Nat} {ps : List FieldType} {pr : Option FieldType} {ce' sl' : Nat} {a : Addr} {C0 : String} {P : Heap → Prop} (S : Sat l Z y cb cm cr rm (.ref a :: as) h n0 (RN P)) (E : Exa Z h a C0) (w1 : (Jvm.Cond.methodLink own i y).before a0 Z = true) (w5 : (Jvm.Cond.privateMethod y).before a0 Z = true) (w6 : (Jvm.Cond.selects y.cls y y).before a0 Z = true) (w2 : (Jvm.Cond.instanceMethod y).before a0 Z = true) (w3 : (Jvm.Cond.initialized y.cls).before a0 Z = true) (w4 : (Jvm.Cond.code y cb cm cr).before a0 Z = true) (hy : y.cls ≠ "java/lang/invoke/MethodHandle" ∧ y.cls ≠ "java/lang/invoke/VarHandle") (hpd : parseMethodDescriptor y.desc = some ⟨ps, pr⟩) (hlen : as.length = ps.length) (hls : Ls.size = mx) (hW : wt rest = W) (hfr : rm.frames + 1 ≤ R.frames) (hlo : W + (cm + 11) + rm.locals ≤ R.locals) (hce : ce + rm.cells = ce') (hsl : sl + rm.slots = sl') (hcc : ce' ≤ R.cells) (hss : sl' ≤ R.slots) (hd : decode bs pc = .ok (.invokevirtual i, 3)) (hp : pc + 3 = pc') (hst : st = as.reverse ++ .ref a :: rest) (hr : ∀ h', P h' → Go p l e R s m args below meth c n0 Q K N h' ce' sl' (mkF m pc' Ls rest)) : Go p l e R s m args below meth c n0 Q K N h ce sl (mkF m pc Ls st) :=
  go_private C S E w1 w5 w6 w2 w3 w4 hy hpd hlen hls hW hfr hlo hce hsl hcc hss hd hp hst (fun v h' hq => by obtain ⟨rfl, q⟩ := hq; exact hr h' q)
theorem go_specialV (C : Cx p s m meth c Z own bs mx rt nm) {y : MethodName} {i : Nat} {cb : ByteArray} {cm : Nat} {rm : Room} {as rest : List Value} {W : Nat} {ps : List FieldType} {pr : Option FieldType} {ce' sl' : Nat} {a : Addr} {P : Value → Heap → Prop} (S : Sat l Z y cb cm none rm (.ref a :: as) h n0 (RV P)) (hyn : y.name = "<init>") (w1 : (Jvm.Cond.methodLink own i y).before a0 Z = true) (w2 : (Jvm.Cond.instanceMethod y).before a0 Z = true) (w3 : (Jvm.Cond.initialized y.cls).before a0 Z = true) (w4 : (Jvm.Cond.code y cb cm none).before a0 Z = true) (hy : y.cls ≠ "java/lang/invoke/MethodHandle" ∧ y.cls ≠ "java/lang/invoke/VarHandle") (hpd : parseMethodDescriptor y.desc = some ⟨ps, pr⟩) (hlen : as.length = ps.length) (hls : Ls.size = mx) (hW : wt rest = W) (hfr : rm.frames + 1 ≤ R.frames) (hlo : W + (cm + 11) + rm.locals ≤ R.locals) (hce : ce + rm.cells = ce') (hsl : sl + rm.slots = sl') (hcc : ce' ≤ R.cells) (hss : sl' ≤ R.slots) (hd : decode bs pc = .ok (.invokespecial i, 3)) (hp : pc + 3 = pc') (hst : st = as.reverse ++ .ref a :: rest) (hr : ∀ r h', P r h' → Go p l e R s m args below meth c n0 Q K N h' ce' sl' (mkF m pc' Ls (r :: rest))) : Go p l e R s m args below meth c n0 Q K N h ce sl (mkF m pc Ls st) :=
  go_special C S hyn w1 w2 w3 w4 hy hpd hlen hls hW hfr hlo hce hsl hcc hss hd hp hst (fun v h' hq => by obtain ⟨r, rfl, q⟩ := hq; exact hr r h' q)
theorem go_specialN (C : Cx p s m meth c Z own bs mx rt nm) {y : MethodName} {i : Nat} {cb : ByteArray} {cm : Nat} {rm : Room} {as rest : List Value} {W : Nat} {ps : List FieldType} {pr : Option FieldType} {ce' sl' : Nat} {a : Addr} {P : Heap → Prop} (S : Sat l Z y cb cm none rm (.ref a :: as) h n0 (RN P)) (hyn : y.name = "<init>") (w1 : (Jvm.Cond.methodLink own i y).before a0 Z = true) (w2 : (Jvm.Cond.instanceMethod y).before a0 Z = true) (w3 : (Jvm.Cond.initialized y.cls).before a0 Z = true) (w4 : (Jvm.Cond.code y cb cm none).before a0 Z = true) (hy : y.cls ≠ "java/lang/invoke/MethodHandle" ∧ y.cls ≠ "java/lang/invoke/VarHandle") (hpd : parseMethodDescriptor y.desc = some ⟨ps, pr⟩) (hlen : as.length = ps.length) (hls : Ls.size = mx) (hW : wt rest = W) (hfr : rm.frames + 1 ≤ R.frames) (hlo : W + (cm + 11) + rm.locals ≤ R.locals) (hce : ce + rm.cells = ce') (hsl : sl + rm.slots = sl') (hcc : ce' ≤ R.cells) (hss : sl' ≤ R.slots) (hd : decode bs pc = .ok (.invokespecial i, 3)) (hp : pc + 3 = pc') (hst : st = as.reverse ++ .ref a :: rest) (hr : ∀ h', P h' → Go p l e R s m args below meth c n0 Q K N h' ce' sl' (mkF m pc' Ls rest)) : Go p l e R s m args below meth c n0 Q K N h ce sl (mkF m pc Ls st) :=
  go_special C S hyn w1 w2 w3 w4 hy hpd hlen hls hW hfr hlo hce hsl hcc hss hd hp hst (fun v h' hq => by obtain ⟨rfl, q⟩ := hq; exact hr h' q)
theorem go_specialWV (C : Cx p s m meth c Z own bs mx rt nm) {y : MethodName} {i : Nat} {cb : ByteArray} {cm : Nat} {rm : Room} {as rest : List Value} {W : Nat} {ps : List FieldType} {pr : Option FieldType} {ce' sl' : Nat} {a : Addr} {P : Value → Heap → Prop} (S : Sat l Z y cb cm none rm (.ref a :: as) h n0 (RV P)) (hyn : y.name = "<init>") (w1 : (Jvm.Cond.methodRef own i y).before a0 Z = true) (w2 : (Jvm.Cond.instanceMethod y).before a0 Z = true) (w3 : (Jvm.Cond.initialized y.cls).before a0 Z = true) (w4 : (Jvm.Cond.code y cb cm none).before a0 Z = true) (hy : y.cls ≠ "java/lang/invoke/MethodHandle" ∧ y.cls ≠ "java/lang/invoke/VarHandle") (hpd : parseMethodDescriptor y.desc = some ⟨ps, pr⟩) (hlen : as.length = ps.length) (hls : Ls.size = mx) (hW : wt rest = W) (hfr : rm.frames + 1 ≤ R.frames) (hlo : W + (cm + 11) + rm.locals ≤ R.locals) (hce : ce + rm.cells = ce') (hsl : sl + rm.slots = sl') (hcc : ce' ≤ R.cells) (hss : sl' ≤ R.slots) (hd : decode bs pc = .ok (.invokespecial i, 3)) (hp : pc + 3 = pc') (hst : st = as.reverse ++ .ref a :: rest) (hr : ∀ r h', P r h' → Go p l e R s m args below meth c n0 Q K N h' ce' sl' (mkF m pc' Ls (r :: rest))) : Go p l e R s m args below meth c n0 Q K N h ce sl (mkF m pc Ls st) :=
  go_specialW C S hyn w1 w2 w3 w4 hy hpd hlen hls hW hfr hlo hce hsl hcc hss hd hp hst (fun v h' hq => by obtain ⟨r, rfl, q⟩ := hq; exact hr r h' q)
theorem go_specialWN (C : Cx p s m meth c Z own bs mx rt nm) {y : MethodName} {i : Nat} {cb : ByteArray} {cm : Nat} {rm : Room} {as rest : List Value} {W : Nat} {ps : List FieldType} {pr : Option FieldType} {ce' sl' : Nat} {a : Addr} {P : Heap → Prop} (S : Sat l Z y cb cm none rm (.ref a :: as) h n0 (RN P)) (hyn : y.name = "<init>") (w1 : (Jvm.Cond.methodRef own i y).before a0 Z = true) (w2 : (Jvm.Cond.instanceMethod y).before a0 Z = true) (w3 : (Jvm.Cond.initialized y.cls).before a0 Z = true) (w4 : (Jvm.Cond.code y cb cm none).before a0 Z = true) (hy : y.cls ≠ "java/lang/invoke/MethodHandle" ∧ y.cls ≠ "java/lang/invoke/VarHandle") (hpd : parseMethodDescriptor y.desc = some ⟨ps, pr⟩) (hlen : as.length = ps.length) (hls : Ls.size = mx) (hW : wt rest = W) (hfr : rm.frames + 1 ≤ R.frames) (hlo : W + (cm + 11) + rm.locals ≤ R.locals) (hce : ce + rm.cells = ce') (hsl : sl + rm.slots = sl') (hcc : ce' ≤ R.cells) (hss : sl' ≤ R.slots) (hd : decode bs pc = .ok (.invokespecial i, 3)) (hp : pc + 3 = pc') (hst : st = as.reverse ++ .ref a :: rest) (hr : ∀ h', P h' → Go p l e R s m args below meth c n0 Q K N h' ce' sl' (mkF m pc' Ls rest)) : Go p l e R s m args below meth c n0 Q K N h ce sl (mkF m pc Ls st) :=
  go_specialW C S hyn w1 w2 w3 w4 hy hpd hlen hls hW hfr hlo hce hsl hcc hss hd hp hst (fun v h' hq => by obtain ⟨rfl, q⟩ := hq; exact hr h' q)
theorem go_ireturnI (C : Cx p s m meth c Z own bs mx rt nm) {z : Int32} (hrt : rt = some .int) (hd : decode bs pc = .ok (.ireturn, 1)) (hk : ce ≤ K) (hn : sl ≤ N) (hq : Q (some (.int z)) h) : Go p l e R s m args below meth c n0 Q K N h ce sl (mkF m pc Ls [.int z]) := by
  subst hrt
  intro T locs X eT Nn
  obtain ⟨fs, hr, hrun, hended, hW, hsame⟩ := X.leave (v := some (.int z)) (fun q => by first | rfl | (rw [C.2.2.2.2.2.1] at q; cases q)) C.2.2.2.2.2.2.1
  refine ⟨_, _, X.ireturnOut C.1 C.2.2.2.2.2.1 rfl (Or.inl rfl) (hb C.2.1 hd) hr, hrun, hended, _, _, rfl, ⟨?_, Nn⟩, ⟨_, rfl⟩, hW, hsame.mono hk hn⟩
  show Q (some (.int z)) T.heap
  rw [eT]; exact hq
theorem go_lreturn (C : Cx p s m meth c Z own bs mx rt nm) {z : Int64} (hrt : rt = some .long) (hd : decode bs pc = .ok (.lreturn, 1)) (hk : ce ≤ K) (hn : sl ≤ N) (hq : Q (some (.long z)) h) : Go p l e R s m args below meth c n0 Q K N h ce sl (mkF m pc Ls [.long z]) := by
  subst hrt
  intro T locs X eT Nn
  obtain ⟨fs, hr, hrun, hended, hW, hsame⟩ := X.leave (v := some (.long z)) (fun q => by first | rfl | (rw [C.2.2.2.2.2.1] at q; cases q)) C.2.2.2.2.2.2.1
  refine ⟨_, _, Jvm.Stand.lreturnOut X C.1 C.2.2.2.2.2.1 (hb C.2.1 hd) hr, hrun, hended, _, _, rfl, ⟨?_, Nn⟩, ⟨_, rfl⟩, hW, hsame.mono hk hn⟩
  show Q (some (.long z)) T.heap
  rw [eT]; exact hq
theorem go_areturn (C : Cx p s m meth c Z own bs mx rt nm) {w : Value} {t : FieldType} (hrt : rt = some t) (hd : decode bs pc = .ok (.areturn, 1)) (hk : ce ≤ K) (hn : sl ≤ N) (hw : w.isRef = true) (ht : t.isReference = true) (hq : Q (some w) h) : Go p l e R s m args below meth c n0 Q K N h ce sl (mkF m pc Ls [w]) := by
  subst hrt
  intro T locs X eT Nn
  obtain ⟨fs, hr, hrun, hended, hW, hsame⟩ := X.leave (v := some w) (fun q => by first | rfl | (rw [C.2.2.2.2.2.1] at q; cases q)) C.2.2.2.2.2.2.1
  refine ⟨_, _, X.areturnOut C.1 hw C.2.2.2.2.2.1 ht (hb C.2.1 hd) hr, hrun, hended, _, _, rfl, ⟨?_, Nn⟩, ⟨_, rfl⟩, hW, hsame.mono hk hn⟩
  show Q (some w) T.heap
  rw [eT]; exact hq
theorem go_return (C : Cx p s m meth c Z own bs mx rt nm)  (hrt : rt = none) (hd : decode bs pc = .ok (.return_, 1)) (hk : ce ≤ K) (hn : sl ≤ N) (hq : Q (none) h) : Go p l e R s m args below meth c n0 Q K N h ce sl (mkF m pc Ls []) := by
  subst hrt
  intro T locs X eT Nn
  obtain ⟨fs, hr, hrun, hended, hW, hsame⟩ := X.leave (v := none) (fun q => by first | rfl | (rw [C.2.2.2.2.2.1] at q; cases q)) C.2.2.2.2.2.2.1
  refine ⟨_, _, X.returnOut C.1 C.2.2.2.2.2.1 (hb C.2.1 hd) hr, hrun, hended, _, _, rfl, ⟨?_, Nn⟩, ⟨_, rfl⟩, hW, hsame.mono hk hn⟩
  show Q (none) T.heap
  rw [eT]; exact hq
theorem go_ireturnN (C : Cx p s m meth c Z own bs mx rt nm) {z z' : Int32} {t : FieldType} (hrt : rt = some t) (ht : t = .boolean ∨ t = .byte ∨ t = .char ∨ t = .short) (hz : nar t z = z') (hd : decode bs pc = .ok (.ireturn, 1)) (hk : ce ≤ K) (hn : sl ≤ N) (hq : Q (some (.int z')) h) : Go p l e R s m args below meth c n0 Q K N h ce sl (mkF m pc Ls [.int z]) := by
  subst hrt hz
  intro T locs X eT Nn
  obtain ⟨fs, hr, hrun, hended, hW, hsame⟩ := X.leave (v := some (.int (nar t z))) (fun q => by rw [C.2.2.2.2.2.1] at q; cases q) C.2.2.2.2.2.2.1
  refine ⟨_, _, retN X C.1 (t := t) C.2.2.2.2.2.1 ht (hb C.2.1 hd) hr, hrun, hended, _, _, rfl, ⟨?_, Nn⟩, ⟨_, rfl⟩, hW, hsame.mono hk hn⟩
  show Q (some (.int (nar t z))) T.heap
  rw [eT]; exact hq
theorem sat_of {y : MethodName} {cb : ByteArray} {cm : Nat} {cr : Option FieldType} {rm : Room} {as : List Value} {h0 : Heap} (ho : y.cls = own) (hnm : y.name = nm) (hpn : plainFor y = true) (Ls : Array Slot) (hef : ∀ m, entryFrame m as.toArray cm = mkF m 0 Ls [])
    (body : ∀ (p : Program) (e : Env) (s : State) (m : MethodId) (below : List Frame) (meth : Method) (c : Code), Cx p s m meth c Z own cb cm cr nm → Go p l e rm s m as.toArray below meth c n0 Q rm.cells rm.slots h0 0 0 (mkF m 0 Ls [])) : Sat l Z y cb cm cr rm as h0 n0 Q := by
  intro ws
  subst ho hnm
  refine MetFree.of_bodySF hpn hisR ?_
  intro p e s m args below meth c s₁ Bd hml0 hP hK
  obtain ⟨rfl, hZ, hh⟩ := hP
  have X0 : Stand p l e rm s m as.toArray below meth c s₁ [] 0 0 := Stand.of_body Bd
  obtain ⟨s₂, o, h1, h2, h3, v, L, h4, h5, h6⟩ := body p e s m below meth c ⟨Bd.exec, Bd.bytes, hml0, hZ, findClass_of_methodNamed Bd.named, Bd.returns, Bd.notSynchronized, (name_of_methodNamed Bd.named Bd.method).1⟩ s₁ [] X0 (by rw [← hh, Bd.state]; rfl) (Fr.nil n0)
  exact ⟨s₂, o, castTop (hef m) h1, h2, h3, v, L, h4, h5, h6⟩
theorem Sat.weaken {y : MethodName} {cb : ByteArray} {cm : Nat} {cr : Option FieldType} {rm : Room} {as : List Value} {h0 : Heap} {Q' : Option Value → Heap → Prop} (S : Sat l Z y cb cm cr rm as h0 n0 Q) (H : ∀ v h, Q v h → Q' v h) : Sat l Z y cb cm cr rm as h0 n0 Q' := by
  intro ws p e ha hc hk s m args below hf happ hP hK
  obtain ⟨n, o, h1, h2, h3, v, L, h4, h5, h6⟩ := S ws p e ha hc hk s m args below hf happ hP hK
  exact ⟨n, o, h1, h2, h3, v, L, h4, ⟨H _ _ h5.1, h5.2⟩, h6⟩
end Walk
end OwnLayer
theorem wd {Z : State} {a0 : Array Value} (hw : ∀ d ∈ tables_1, d.before a0 Z = true) (k : Nat) {d : Jvm.Cond} (h : tables_1[k]? = some d) : d.before a0 Z = true := hw d (List.mem_of_getElem? h)
theorem d1_0 : decode jdk_29_method_66_code 0 = .ok (.lload_n 0, 1) := by decide +kernel
theorem d1_1 : decode jdk_29_method_66_code 1 = .ok (.lload_n 2, 1) := by decide +kernel
theorem d1_2 : decode jdk_29_method_66_code 2 = .ok (.lcmp, 1) := by decide +kernel
theorem d1_3 : decode jdk_29_method_66_code 3 = .ok (.ifCond .lt 7, 3) := by decide +kernel
theorem d1_6 : decode jdk_29_method_66_code 6 = .ok (.lload_n 0, 1) := by decide +kernel
theorem d1_7 : decode jdk_29_method_66_code 7 = .ok (.goto 4, 3) := by decide +kernel
theorem d1_10 : decode jdk_29_method_66_code 10 = .ok (.lload_n 2, 1) := by decide +kernel
theorem d1_11 : decode jdk_29_method_66_code 11 = .ok (.lreturn, 1) := by decide +kernel
theorem d2_0 : decode jdk_29_method_70_code 0 = .ok (.lload_n 0, 1) := by decide +kernel
theorem d2_1 : decode jdk_29_method_70_code 1 = .ok (.lload_n 2, 1) := by decide +kernel
theorem d2_2 : decode jdk_29_method_70_code 2 = .ok (.lcmp, 1) := by decide +kernel
theorem d2_3 : decode jdk_29_method_70_code 3 = .ok (.ifCond .gt 7, 3) := by decide +kernel
theorem d2_6 : decode jdk_29_method_70_code 6 = .ok (.lload_n 0, 1) := by decide +kernel
theorem d2_7 : decode jdk_29_method_70_code 7 = .ok (.goto 4, 3) := by decide +kernel
theorem d2_10 : decode jdk_29_method_70_code 10 = .ok (.lload_n 2, 1) := by decide +kernel
theorem d2_11 : decode jdk_29_method_70_code 11 = .ok (.lreturn, 1) := by decide +kernel
theorem d3_0 : decode prog_33_method_1_code 0 = .ok (.aload_n 0, 1) := by decide +kernel
theorem d3_1 : decode prog_33_method_1_code 1 = .ok (.invokespecial 1, 3) := by decide +kernel
theorem d3_4 : decode prog_33_method_1_code 4 = .ok (.aload_n 0, 1) := by decide +kernel
theorem d3_5 : decode prog_33_method_1_code 5 = .ok (.iload_n 1, 1) := by decide +kernel
theorem d3_6 : decode prog_33_method_1_code 6 = .ok (.newarray .long, 2) := by decide +kernel
theorem d3_8 : decode prog_33_method_1_code 8 = .ok (.putfield 7, 3) := by decide +kernel
theorem d3_11 : decode prog_33_method_1_code 11 = .ok (.return_, 1) := by decide +kernel
theorem d4_0 : decode prog_22_method_1_code 0 = .ok (.aload_n 0, 1) := by decide +kernel
theorem d4_1 : decode prog_22_method_1_code 1 = .ok (.invokespecial 1, 3) := by decide +kernel
theorem d4_4 : decode prog_22_method_1_code 4 = .ok (.return_, 1) := by decide +kernel
theorem d6_0 : decode prog_33_method_5_code 0 = .ok (.aload_n 0, 1) := by decide +kernel
theorem d6_1 : decode prog_33_method_5_code 1 = .ok (.getfield 21, 3) := by decide +kernel
theorem d6_4 : decode prog_33_method_5_code 4 = .ok (.ifCond .le 41, 3) := by decide +kernel
theorem d6_7 : decode prog_33_method_5_code 7 = .ok (.lload_n 1, 1) := by decide +kernel
theorem d6_8 : decode prog_33_method_5_code 8 = .ok (.aload_n 0, 1) := by decide +kernel
theorem d6_9 : decode prog_33_method_5_code 9 = .ok (.getfield 7, 3) := by decide +kernel
theorem d6_12 : decode prog_33_method_5_code 12 = .ok (.aload_n 0, 1) := by decide +kernel
theorem d6_13 : decode prog_33_method_5_code 13 = .ok (.getfield 17, 3) := by decide +kernel
theorem d6_16 : decode prog_33_method_5_code 16 = .ok (.laload, 1) := by decide +kernel
theorem d6_17 : decode prog_33_method_5_code 17 = .ok (.lsub, 1) := by decide +kernel
theorem d6_18 : decode prog_33_method_5_code 18 = .ok (.lload_n 3, 1) := by decide +kernel
theorem d6_19 : decode prog_33_method_5_code 19 = .ok (.lcmp, 1) := by decide +kernel
theorem d6_20 : decode prog_33_method_5_code 20 = .ok (.ifCond .lt 25, 3) := by decide +kernel
theorem d6_23 : decode prog_33_method_5_code 23 = .ok (.aload_n 0, 1) := by decide +kernel
theorem d6_24 : decode prog_33_method_5_code 24 = .ok (.aload_n 0, 1) := by decide +kernel
theorem d6_25 : decode prog_33_method_5_code 25 = .ok (.iconst 1, 1) := by decide +kernel
theorem d6_26 : decode prog_33_method_5_code 26 = .ok (.invokevirtual 24, 3) := by decide +kernel
theorem d6_29 : decode prog_33_method_5_code 29 = .ok (.putfield 17, 3) := by decide +kernel
theorem d6_32 : decode prog_33_method_5_code 32 = .ok (.aload_n 0, 1) := by decide +kernel
theorem d6_33 : decode prog_33_method_5_code 33 = .ok (.dup, 1) := by decide +kernel
theorem d6_34 : decode prog_33_method_5_code 34 = .ok (.getfield 21, 3) := by decide +kernel
theorem d6_37 : decode prog_33_method_5_code 37 = .ok (.iconst 1, 1) := by decide +kernel
theorem d6_38 : decode prog_33_method_5_code 38 = .ok (.isub, 1) := by decide +kernel
theorem d6_39 : decode prog_33_method_5_code 39 = .ok (.putfield 21, 3) := by decide +kernel
theorem d6_42 : decode prog_33_method_5_code 42 = .ok (.goto (-42), 3) := by decide +kernel
theorem d6_45 : decode prog_33_method_5_code 45 = .ok (.return_, 1) := by decide +kernel
theorem d7_0 : decode prog_33_method_6_code 0 = .ok (.aload_n 0, 1) := by decide +kernel
theorem d7_1 : decode prog_33_method_6_code 1 = .ok (.getfield 21, 3) := by decide +kernel
theorem d7_4 : decode prog_33_method_6_code 4 = .ok (.aload_n 0, 1) := by decide +kernel
theorem d7_5 : decode prog_33_method_6_code 5 = .ok (.getfield 7, 3) := by decide +kernel
theorem d7_8 : decode prog_33_method_6_code 8 = .ok (.arraylength, 1) := by decide +kernel
theorem d7_9 : decode prog_33_method_6_code 9 = .ok (.if_icmp .ne 67, 3) := by decide +kernel
theorem d7_12 : decode prog_33_method_6_code 12 = .ok (.lload_n 3, 1) := by decide +kernel
theorem d7_13 : decode prog_33_method_6_code 13 = .ok (.ldc2_w 28, 3) := by decide +kernel
theorem d7_16 : decode prog_33_method_6_code 16 = .ok (.aload_n 0, 1) := by decide +kernel
theorem d7_17 : decode prog_33_method_6_code 17 = .ok (.getfield 7, 3) := by decide +kernel
theorem d7_20 : decode prog_33_method_6_code 20 = .ok (.arraylength, 1) := by decide +kernel
theorem d7_21 : decode prog_33_method_6_code 21 = .ok (.i2l, 1) := by decide +kernel
theorem d7_22 : decode prog_33_method_6_code 22 = .ok (.lmul, 1) := by decide +kernel
theorem d7_23 : decode prog_33_method_6_code 23 = .ok (.invokestatic 30, 3) := by decide +kernel
theorem d7_26 : decode prog_33_method_6_code 26 = .ok (.l2i, 1) := by decide +kernel
theorem d7_27 : decode prog_33_method_6_code 27 = .ok (.newarray .long, 2) := by decide +kernel
theorem d7_29 : decode prog_33_method_6_code 29 = .ok (.astore 5, 2) := by decide +kernel
theorem d7_31 : decode prog_33_method_6_code 31 = .ok (.iconst 0, 1) := by decide +kernel
theorem d7_32 : decode prog_33_method_6_code 32 = .ok (.istore 6, 2) := by decide +kernel
theorem d7_34 : decode prog_33_method_6_code 34 = .ok (.iload 6, 2) := by decide +kernel
theorem d7_36 : decode prog_33_method_6_code 36 = .ok (.aload_n 0, 1) := by decide +kernel
theorem d7_37 : decode prog_33_method_6_code 37 = .ok (.getfield 21, 3) := by decide +kernel
theorem d7_40 : decode prog_33_method_6_code 40 = .ok (.if_icmp .ge 25, 3) := by decide +kernel
theorem d7_43 : decode prog_33_method_6_code 43 = .ok (.aload 5, 2) := by decide +kernel
theorem d7_45 : decode prog_33_method_6_code 45 = .ok (.iload 6, 2) := by decide +kernel
theorem d7_47 : decode prog_33_method_6_code 47 = .ok (.aload_n 0, 1) := by decide +kernel
theorem d7_48 : decode prog_33_method_6_code 48 = .ok (.getfield 7, 3) := by decide +kernel
theorem d7_51 : decode prog_33_method_6_code 51 = .ok (.aload_n 0, 1) := by decide +kernel
theorem d7_52 : decode prog_33_method_6_code 52 = .ok (.iload 6, 2) := by decide +kernel
theorem d7_54 : decode prog_33_method_6_code 54 = .ok (.invokevirtual 24, 3) := by decide +kernel
theorem d7_57 : decode prog_33_method_6_code 57 = .ok (.laload, 1) := by decide +kernel
theorem d7_58 : decode prog_33_method_6_code 58 = .ok (.lastore, 1) := by decide +kernel
theorem d7_59 : decode prog_33_method_6_code 59 = .ok (.iinc 6 1, 3) := by decide +kernel
theorem d7_62 : decode prog_33_method_6_code 62 = .ok (.goto (-28), 3) := by decide +kernel
theorem d7_65 : decode prog_33_method_6_code 65 = .ok (.aload_n 0, 1) := by decide +kernel
theorem d7_66 : decode prog_33_method_6_code 66 = .ok (.aload 5, 2) := by decide +kernel
theorem d7_68 : decode prog_33_method_6_code 68 = .ok (.putfield 7, 3) := by decide +kernel
theorem d7_71 : decode prog_33_method_6_code 71 = .ok (.aload_n 0, 1) := by decide +kernel
theorem d7_72 : decode prog_33_method_6_code 72 = .ok (.iconst 0, 1) := by decide +kernel
theorem d7_73 : decode prog_33_method_6_code 73 = .ok (.putfield 17, 3) := by decide +kernel
theorem d7_76 : decode prog_33_method_6_code 76 = .ok (.aload_n 0, 1) := by decide +kernel
theorem d7_77 : decode prog_33_method_6_code 77 = .ok (.getfield 7, 3) := by decide +kernel
theorem d7_80 : decode prog_33_method_6_code 80 = .ok (.aload_n 0, 1) := by decide +kernel
theorem d7_81 : decode prog_33_method_6_code 81 = .ok (.aload_n 0, 1) := by decide +kernel
theorem d7_82 : decode prog_33_method_6_code 82 = .ok (.getfield 21, 3) := by decide +kernel
theorem d7_85 : decode prog_33_method_6_code 85 = .ok (.invokevirtual 24, 3) := by decide +kernel
theorem d7_88 : decode prog_33_method_6_code 88 = .ok (.lload_n 1, 1) := by decide +kernel
theorem d7_89 : decode prog_33_method_6_code 89 = .ok (.lastore, 1) := by decide +kernel
theorem d7_90 : decode prog_33_method_6_code 90 = .ok (.aload_n 0, 1) := by decide +kernel
theorem d7_91 : decode prog_33_method_6_code 91 = .ok (.dup, 1) := by decide +kernel
theorem d7_92 : decode prog_33_method_6_code 92 = .ok (.getfield 21, 3) := by decide +kernel
theorem d7_95 : decode prog_33_method_6_code 95 = .ok (.iconst 1, 1) := by decide +kernel
theorem d7_96 : decode prog_33_method_6_code 96 = .ok (.iadd, 1) := by decide +kernel
theorem d7_97 : decode prog_33_method_6_code 97 = .ok (.putfield 21, 3) := by decide +kernel
theorem d7_100 : decode prog_33_method_6_code 100 = .ok (.return_, 1) := by decide +kernel
theorem d8_0 : decode prog_33_method_7_code 0 = .ok (.aload_n 0, 1) := by decide +kernel
theorem d8_1 : decode prog_33_method_7_code 1 = .ok (.getfield 7, 3) := by decide +kernel
theorem d8_4 : decode prog_33_method_7_code 4 = .ok (.arraylength, 1) := by decide +kernel
theorem d8_5 : decode prog_33_method_7_code 5 = .ok (.aload_n 0, 1) := by decide +kernel
theorem d8_6 : decode prog_33_method_7_code 6 = .ok (.getfield 17, 3) := by decide +kernel
theorem d8_9 : decode prog_33_method_7_code 9 = .ok (.isub, 1) := by decide +kernel
theorem d8_10 : decode prog_33_method_7_code 10 = .ok (.istore_n 2, 1) := by decide +kernel
theorem d8_11 : decode prog_33_method_7_code 11 = .ok (.iload_n 1, 1) := by decide +kernel
theorem d8_12 : decode prog_33_method_7_code 12 = .ok (.iload_n 2, 1) := by decide +kernel
theorem d8_13 : decode prog_33_method_7_code 13 = .ok (.if_icmp .ge 12, 3) := by decide +kernel
theorem d8_16 : decode prog_33_method_7_code 16 = .ok (.aload_n 0, 1) := by decide +kernel
theorem d8_17 : decode prog_33_method_7_code 17 = .ok (.getfield 17, 3) := by decide +kernel
theorem d8_20 : decode prog_33_method_7_code 20 = .ok (.iload_n 1, 1) := by decide +kernel
theorem d8_21 : decode prog_33_method_7_code 21 = .ok (.iadd, 1) := by decide +kernel
theorem d8_22 : decode prog_33_method_7_code 22 = .ok (.goto 6, 3) := by decide +kernel
theorem d8_25 : decode prog_33_method_7_code 25 = .ok (.iload_n 1, 1) := by decide +kernel
theorem d8_26 : decode prog_33_method_7_code 26 = .ok (.iload_n 2, 1) := by decide +kernel
theorem d8_27 : decode prog_33_method_7_code 27 = .ok (.isub, 1) := by decide +kernel
theorem d8_28 : decode prog_33_method_7_code 28 = .ok (.ireturn, 1) := by decide +kernel
theorem d9_0 : decode prog_33_method_3_code 0 = .ok (.aload_n 0, 1) := by decide +kernel
theorem d9_1 : decode prog_33_method_3_code 1 = .ok (.getfield 7, 3) := by decide +kernel
theorem d9_4 : decode prog_33_method_3_code 4 = .ok (.aload_n 0, 1) := by decide +kernel
theorem d9_5 : decode prog_33_method_3_code 5 = .ok (.getfield 17, 3) := by decide +kernel
theorem d9_8 : decode prog_33_method_3_code 8 = .ok (.laload, 1) := by decide +kernel
theorem d9_9 : decode prog_33_method_3_code 9 = .ok (.lreturn, 1) := by decide +kernel
theorem d10_0 : decode prog_33_method_4_code 0 = .ok (.aload_n 0, 1) := by decide +kernel
theorem d10_1 : decode prog_33_method_4_code 1 = .ok (.getfield 7, 3) := by decide +kernel
theorem d10_4 : decode prog_33_method_4_code 4 = .ok (.aload_n 0, 1) := by decide +kernel
theorem d10_5 : decode prog_33_method_4_code 5 = .ok (.aload_n 0, 1) := by decide +kernel
theorem d10_6 : decode prog_33_method_4_code 6 = .ok (.getfield 21, 3) := by decide +kernel
theorem d10_9 : decode prog_33_method_4_code 9 = .ok (.iconst 1, 1) := by decide +kernel
theorem d10_10 : decode prog_33_method_4_code 10 = .ok (.isub, 1) := by decide +kernel
theorem d10_11 : decode prog_33_method_4_code 11 = .ok (.invokevirtual 24, 3) := by decide +kernel
theorem d10_14 : decode prog_33_method_4_code 14 = .ok (.laload, 1) := by decide +kernel
theorem d10_15 : decode prog_33_method_4_code 15 = .ok (.lreturn, 1) := by decide +kernel
theorem d11_0 : decode method_3_code 0 = .ok (.iload_n 0, 1) := by decide +kernel
theorem d11_1 : decode method_3_code 1 = .ok (.ifCond .ne 5, 3) := by decide +kernel
theorem d11_4 : decode method_3_code 4 = .ok (.lload_n 1, 1) := by decide +kernel
theorem d11_5 : decode method_3_code 5 = .ok (.lreturn, 1) := by decide +kernel
theorem d11_6 : decode method_3_code 6 = .ok (.iload_n 0, 1) := by decide +kernel
theorem d11_7 : decode method_3_code 7 = .ok (.iconst 1, 1) := by decide +kernel
theorem d11_8 : decode method_3_code 8 = .ok (.if_icmp .ne 5, 3) := by decide +kernel
theorem d11_11 : decode method_3_code 11 = .ok (.lload_n 3, 1) := by decide +kernel
theorem d11_12 : decode method_3_code 12 = .ok (.lreturn, 1) := by decide +kernel
theorem d11_13 : decode method_3_code 13 = .ok (.iload_n 0, 1) := by decide +kernel
theorem d11_14 : decode method_3_code 14 = .ok (.iconst 2, 1) := by decide +kernel
theorem d11_15 : decode method_3_code 15 = .ok (.if_icmp .ne 6, 3) := by decide +kernel
theorem d11_18 : decode method_3_code 18 = .ok (.lload 5, 2) := by decide +kernel
theorem d11_20 : decode method_3_code 20 = .ok (.lreturn, 1) := by decide +kernel
theorem d11_21 : decode method_3_code 21 = .ok (.lload 7, 2) := by decide +kernel
theorem d11_23 : decode method_3_code 23 = .ok (.lreturn, 1) := by decide +kernel
theorem pn_0 : plainName "com/example/throttld/throttld/LogDropAgedOutPinLaw" = true := by first | (simp [plainName, overriddenIn]; done) | decide +kernel
theorem pd_0 : parseMethodDescriptor "(JJI)Z" = some ⟨[.long, .long, .int], some .boolean⟩ := by decide +kernel
theorem pd_1 : parseMethodDescriptor "(JJ)J" = some ⟨[.long, .long], some .long⟩ := by decide +kernel
theorem pn_1 : plainName "com/example/throttld/throttld/SlidingLog$Log" = true := by first | (simp [plainName, overriddenIn]; done) | decide +kernel
theorem pd_2 : parseMethodDescriptor "(I)V" = some ⟨[.int], none⟩ := by decide +kernel
theorem pn_2 : plainName "com/example/throttld/throttld/MemoryStore$Entry" = true := by first | (simp [plainName, overriddenIn]; done) | decide +kernel
theorem pd_3 : parseMethodDescriptor "()V" = some ⟨[], none⟩ := by decide +kernel
theorem pd_4 : parseMethodDescriptor "(JJ)V" = some ⟨[.long, .long], none⟩ := by decide +kernel
theorem pd_5 : parseMethodDescriptor "(I)I" = some ⟨[.int], some .int⟩ := by decide +kernel
theorem pd_6 : parseMethodDescriptor "()J" = some ⟨[], some .long⟩ := by decide +kernel
theorem pd_7 : parseMethodDescriptor "(IJJJJ)J" = some ⟨[.int, .long, .long, .long, .long], some .long⟩ := by decide +kernel
def o_slot (nl hd i : Int32) : Int32 := if i.toInt < (nl - hd).toInt then hd + i else i - (nl - hd)
def o_minL (x y : Int64) : Int64 := if y.toInt < x.toInt then y else x
def o_maxL (x y : Int64) : Int64 := if x.toInt < y.toInt then y else x
set_option maxRecDepth 65536 in
set_option maxHeartbeats 40000000 in
theorem sat_en (l : Launch) (Z : State) (a0 : Array Value) (hw : ∀ d ∈ tables_1, d.before a0 Z = true) (a : Addr) (h0 : Heap) (n0 : Nat)  :
    Sat l Z (⟨"com/example/throttld/throttld/MemoryStore$Entry", "<init>", "()V"⟩ : MethodName) prog_22_method_1_code 1 none ({ frames := 1, cells := 0, slots := 0, locals := 12 } : Room) [.ref a] h0 n0 (RN fun h => h = h0) := by
  refine sat_of (own := "com/example/throttld/throttld/MemoryStore$Entry") (nm := "<init>") rfl rfl (plainFor_of_name pn_2) #[.val (.ref a)] (fun m => by first | (simp [entryFrame, mkF, argsToLocals, Value.category, maxLocals]; done) | rfl) ?_
  intro p e s m below meth c C
  refine go_aloadN C d4_0 (pc' := 1) rfl rfl rfl ?_
  refine go_objinit C (W := 0) (wd hw 21 rfl) (wd hw 22 rfl) (wd hw 23 rfl) rfl (by decide) rfl (by decide) d4_1 (pc' := 4) rfl ?_
  refine go_return C rfl d4_4 (by decide) (by decide) ?_
  exact ⟨rfl, rfl⟩
set_option maxRecDepth 65536 in
set_option maxHeartbeats 40000000 in
theorem sat_minL (l : Launch) (Z : State) (a0 : Array Value) (hw : ∀ d ∈ tables_1, d.before a0 Z = true) (u v q : Int64) (h0 : Heap) (n0 : Nat) (hq : o_minL u v = q) :
    Sat l Z (⟨"java/lang/Math", "min", "(JJ)J"⟩ : MethodName) jdk_29_method_70_code 4 (some .long) ({ frames := 0, cells := 0, slots := 0, locals := 0 } : Room) [.long u, .long v] h0 n0 (RV fun r h => r = .long q ∧ h = h0) := by
  refine sat_of (own := "java/lang/Math") (nm := "min") rfl rfl (by decide +kernel) #[.val (.long u), .second, .val (.long v), .second] (fun m => by first | (simp [entryFrame, mkF, argsToLocals, Value.category, maxLocals]; done) | rfl) ?_
  intro p e s m below meth c C
  refine go_lloadN C d2_0 (pc' := 1) rfl rfl ?_
  refine go_lloadN C d2_1 (pc' := 2) rfl rfl ?_
  refine go_lcmp C u.toInt v.toInt rfl rfl d2_2 (pc1 := 3) rfl d2_3 (by decide) (pc' := 10) (by decide) (pcN := 6) rfl (fun (c_1 : v.toInt < u.toInt) => ?_) (fun (c_1 : ¬ v.toInt < u.toInt) => ?_)
  · skip
    refine go_lloadN C d2_10 (pc' := 11) rfl rfl ?_
    refine go_lreturn C rfl d2_11 (by decide) (by decide) ?_
    exact ⟨_, rfl, congrArg Value.long (by rw [← hq]; unfold o_minL; first | rw [if_pos (by omega)] | rw [if_neg (by omega)]), rfl⟩
  · skip
    refine go_lloadN C d2_6 (pc' := 7) rfl rfl ?_
    refine go_goto C d2_7 (by decide) (pc' := 11) (by decide) ?_
    refine go_lreturn C rfl d2_11 (by decide) (by decide) ?_
    exact ⟨_, rfl, congrArg Value.long (by rw [← hq]; unfold o_minL; first | rw [if_pos (by omega)] | rw [if_neg (by omega)]), rfl⟩
set_option maxRecDepth 65536 in
set_option maxHeartbeats 40000000 in
theorem sat_maxL (l : Launch) (Z : State) (a0 : Array Value) (hw : ∀ d ∈ tables_1, d.before a0 Z = true) (u v q : Int64) (h0 : Heap) (n0 : Nat) (hq : o_maxL u v = q) :
    Sat l Z (⟨"java/lang/Math", "max", "(JJ)J"⟩ : MethodName) jdk_29_method_66_code 4 (some .long) ({ frames := 0, cells := 0, slots := 0, locals := 0 } : Room) [.long u, .long v] h0 n0 (RV fun r h => r = .long q ∧ h = h0) := by
  refine sat_of (own := "java/lang/Math") (nm := "max") rfl rfl (by decide +kernel) #[.val (.long u), .second, .val (.long v), .second] (fun m => by first | (simp [entryFrame, mkF, argsToLocals, Value.category, maxLocals]; done) | rfl) ?_
  intro p e s m below meth c C
  refine go_lloadN C d1_0 (pc' := 1) rfl rfl ?_
  refine go_lloadN C d1_1 (pc' := 2) rfl rfl ?_
  refine go_lcmp C u.toInt v.toInt rfl rfl d1_2 (pc1 := 3) rfl d1_3 (by decide) (pc' := 10) (by decide) (pcN := 6) rfl (fun (c_1 : u.toInt < v.toInt) => ?_) (fun (c_1 : ¬ u.toInt < v.toInt) => ?_)
  · skip
    refine go_lloadN C d1_10 (pc' := 11) rfl rfl ?_
    refine go_lreturn C rfl d1_11 (by decide) (by decide) ?_
    exact ⟨_, rfl, congrArg Value.long (by rw [← hq]; unfold o_maxL; first | rw [if_pos (by omega)] | rw [if_neg (by omega)]), rfl⟩
  · skip
    refine go_lloadN C d1_6 (pc' := 7) rfl rfl ?_
    refine go_goto C d1_7 (by decide) (pc' := 11) (by decide) ?_
    refine go_lreturn C rfl d1_11 (by decide) (by decide) ?_
    exact ⟨_, rfl, congrArg Value.long (by rw [← hq]; unfold o_maxL; first | rw [if_pos (by omega)] | rw [if_neg (by omega)]), rfl⟩
set_option maxRecDepth 65536 in
set_option maxHeartbeats 40000000 in
theorem sat_slot (l : Launch) (Z : State) (a0 : Array Value) (hw : ∀ d ∈ tables_1, d.before a0 Z = true) (a r : Addr) (nl hd i q : Int32) (vs : List Value) (h0 : Heap) (n0 : Nat) (F1 : Fld Z h0 a "com/example/throttld/throttld/SlidingLog$Log" "ring" "[J" (.ref r)) (F2 : Fld Z h0 a "com/example/throttld/throttld/SlidingLog$Log" "head" "I" (.int hd)) (A1 : Av Z h0 r .long vs) (hnl : nl.toInt = (vs.length : Int)) (hq : o_slot nl hd i = q) :
    Sat l Z (⟨"com/example/throttld/throttld/SlidingLog$Log", "slot", "(I)I"⟩ : MethodName) prog_33_method_7_code 3 (some .int) ({ frames := 0, cells := 0, slots := 0, locals := 0 } : Room) [.ref a, .int i] h0 n0 (RV fun v h => v = .int q ∧ h = h0) := by
  refine sat_of (own := "com/example/throttld/throttld/SlidingLog$Log") (nm := "slot") rfl rfl (plainFor_of_name pn_1) #[.val (.ref a), .val (.int i), .unset] (fun m => by first | (simp [entryFrame, mkF, argsToLocals, Value.category, maxLocals]; done) | rfl) ?_
  intro p e s m below meth c C
  refine go_aloadN C d8_0 (pc' := 1) rfl rfl rfl ?_
  refine go_getfield C (wd hw 25 rfl) F1 d8_1 (pc' := 4) rfl ?_
  refine go_arraylength C A1 nl hnl d8_4 (pc' := 5) rfl ?_
  refine go_aloadN C d8_5 (pc' := 6) rfl rfl rfl ?_
  refine go_getfield C (wd hw 44 rfl) F2 d8_6 (pc' := 9) rfl ?_
  refine go_isub C d8_9 (pc' := 10) rfl ?_
  refine go_istoreN C (Ls' := #[.val (.ref a), .val (.int i), .val (.int (nl - hd))]) d8_10 (pc' := 11) rfl rfl ?_
  refine go_iloadN C d8_11 (pc' := 12) rfl rfl ?_
  refine go_iloadN C d8_12 (pc' := 13) rfl rfl ?_
  refine go_icmp C i.toInt ((nl - hd).toInt) rfl rfl d8_13 (by decide) (pc' := 25) (by decide) (pcN := 16) rfl (fun (c_1 : ¬ i.toInt < ((nl - hd).toInt)) => ?_) (fun (c_1 : i.toInt < ((nl - hd).toInt)) => ?_)
  · skip
    refine go_iloadN C d8_25 (pc' := 26) rfl rfl ?_
    refine go_iloadN C d8_26 (pc' := 27) rfl rfl ?_
    refine go_isub C d8_27 (pc' := 28) rfl ?_
    refine go_ireturnI C rfl d8_28 (by decide) (by decide) ?_
    exact ⟨_, rfl, congrArg Value.int (by rw [← hq]; unfold o_slot; first | rw [if_pos (by omega)] | rw [if_neg (by omega)]), rfl⟩
  · skip
    refine go_aloadN C d8_16 (pc' := 17) rfl rfl rfl ?_
    refine go_getfield C (wd hw 44 rfl) F2 d8_17 (pc' := 20) rfl ?_
    refine go_iloadN C d8_20 (pc' := 21) rfl rfl ?_
    refine go_iadd C d8_21 (pc' := 22) rfl ?_
    refine go_goto C d8_22 (by decide) (pc' := 28) (by decide) ?_
    refine go_ireturnI C rfl d8_28 (by decide) (by decide) ?_
    exact ⟨_, rfl, congrArg Value.int (by rw [← hq]; unfold o_slot; first | rw [if_pos (by omega)] | rw [if_neg (by omega)]), rfl⟩
theorem own_k5 (x : Int32) : (x &&& (7 : Int32)) % (5 : Int32) = 0 ∨ (x &&& (7 : Int32)) % (5 : Int32) = 1 ∨ (x &&& (7 : Int32)) % (5 : Int32) = 2 ∨ (x &&& (7 : Int32)) % (5 : Int32) = 3 ∨ (x &&& (7 : Int32)) % (5 : Int32) = 4 := by
  have h : (x &&& (7 : Int32)).toInt = x.toInt % 2 ^ 3 := Jvm.Kit.i32_mask x _ (k := 3) (by decide) (by decide)
  have k5 : ((5 : Int32)).toInt = 5 := by decide
  have g : ((x &&& (7 : Int32)) % (5 : Int32)).toInt = (x.toInt % 2 ^ 3) % 5 := by rw [Jvm.Kit.i32_rem_nonneg (by omega), h, k5]
  have : ((x &&& (7 : Int32)) % (5 : Int32)).toInt = 0 ∨ ((x &&& (7 : Int32)) % (5 : Int32)).toInt = 1 ∨ ((x &&& (7 : Int32)) % (5 : Int32)).toInt = 2 ∨ ((x &&& (7 : Int32)) % (5 : Int32)).toInt = 3 ∨ ((x &&& (7 : Int32)) % (5 : Int32)).toInt = 4 := by omega
  rcases this with q | q | q | q | q
  · exact Or.inl (int_eq q)
  · exact Or.inr (Or.inl (int_eq q))
  · exact Or.inr (Or.inr (Or.inl (int_eq q)))
  · exact Or.inr (Or.inr (Or.inr (Or.inl (int_eq q))))
  · exact Or.inr (Or.inr (Or.inr (Or.inr (int_eq q))))
theorem own_ss (x g : Int64) : (x - (x - g)).toInt = g.toInt := by
  have h1 := g.toInt_lt
  have h2 := g.le_toInt
  have e : (x - (x - g)).toInt = (x.toInt - (x.toInt - g.toInt).bmod (2 ^ 64)).bmod (2 ^ 64) := by rw [Int64.toInt_sub, Int64.toInt_sub]
  rw [e, Int.sub_bmod_bmod, show x.toInt - (x.toInt - g.toInt) = g.toInt by omega]
  exact Jvm.Kit.bmod64 (by omega) (by omega)
theorem own_base (u : Int64) : 0 ≤ (o_minL (o_maxL (0 : Int64) u) (9223372036854775744 : Int64)).toInt ∧ (o_minL (o_maxL (0 : Int64) u) (9223372036854775744 : Int64)).toInt ≤ 9223372036854775744 := by
  have k0 : ((0 : Int64)).toInt = 0 := by decide
  have k1 : ((9223372036854775744 : Int64)).toInt = 9223372036854775744 := by decide
  unfold o_minL o_maxL
  by_cases q : ((0 : Int64)).toInt < u.toInt
  · rw [if_pos q]
    by_cases r : ((9223372036854775744 : Int64)).toInt < u.toInt
    · rw [if_pos r]; omega
    · rw [if_neg r]; omega
  · rw [if_neg q]
    by_cases r : ((9223372036854775744 : Int64)).toInt < ((0 : Int64)).toInt
    · rw [if_pos r]; omega
    · rw [if_neg r]; omega
theorem own_m15 (x : Int32) : 0 ≤ ((x &&& (15 : Int32)).toInt64).toInt ∧ ((x &&& (15 : Int32)).toInt64).toInt ≤ 15 := by
  have h : (x &&& (15 : Int32)).toInt = x.toInt % 2 ^ 4 := Jvm.Kit.i32_mask x _ (k := 4) (by decide) (by decide)
  rw [Int32.toInt_toInt64]
  omega
theorem own_age (b : Int64) (x : Int32) (h0 : 0 ≤ b.toInt) (h1 : b.toInt ≤ 9223372036854775790) : b.toInt ≤ (b + (x &&& (15 : Int32)).toInt64).toInt ∧ (b + (x &&& (15 : Int32)).toInt64).toInt ≤ b.toInt + 15 := by
  have m := own_m15 x
  rw [Jvm.Kit.i64_add (by omega) (by omega)]
  omega
theorem own_age1 (b : Int64) (x : Int32) (h0 : 0 ≤ b.toInt) (h1 : b.toInt ≤ 9223372036854775791) : b.toInt < ((b + (1 : Int64)) + (x &&& (15 : Int32)).toInt64).toInt ∧ ((b + (1 : Int64)) + (x &&& (15 : Int32)).toInt64).toInt ≤ b.toInt + 16 := by
  have m := own_m15 x
  have k1 : ((1 : Int64)).toInt = 1 := by decide
  have e : (b + (1 : Int64)).toInt = b.toInt + 1 := by rw [Jvm.Kit.i64_add (by omega) (by omega), k1]
  rw [Jvm.Kit.i64_add (by omega) (by omega), e]
  omega
set_option maxRecDepth 65536 in
set_option maxHeartbeats 40000000 in
theorem sat_pick0 (l : Launch) (Z : State) (a0 : Array Value) (hw : ∀ d ∈ tables_1, d.before a0 Z = true) (y0 y1 y2 y3 : Int64) (h0 : Heap) (n0 : Nat)  :
    Sat l Z (⟨"com/example/throttld/throttld/LogDropAgedOutPinLaw", "pick", "(IJJJJ)J"⟩ : MethodName) method_3_code 9 (some .long) ({ frames := 0, cells := 0, slots := 0, locals := 0 } : Room) [.int (0 : Int32), .long y0, .long y1, .long y2, .long y3] h0 n0 (RV fun r h => r = .long y0 ∧ h = h0) := by
  refine sat_of (own := "com/example/throttld/throttld/LogDropAgedOutPinLaw") (nm := "pick") rfl rfl (plainFor_of_name pn_0) #[.val (.int (0 : Int32)), .val (.long y0), .second, .val (.long y1), .second, .val (.long y2), .second, .val (.long y3), .second] (fun m => by first | (simp [entryFrame, mkF, argsToLocals, Value.category, maxLocals]; done) | rfl) ?_
  intro p e s m below meth c C
  refine go_iloadN C d11_0 (pc' := 1) rfl rfl ?_
  refine go_if0 C (0 : Int) (by decide) d11_1 (by decide) (pc' := 6) (by decide) (pcN := 4) rfl (fun (c_1 : ¬ (0 : Int) = 0) => by omega) (fun (c_1 : (0 : Int) = 0) => ?_)
  refine go_lloadN C d11_4 (pc' := 5) rfl rfl ?_
  refine go_lreturn C rfl d11_5 (by decide) (by decide) ?_
  exact ⟨_, rfl, rfl, rfl⟩
set_option maxRecDepth 65536 in
set_option maxHeartbeats 40000000 in
theorem sat_pick1 (l : Launch) (Z : State) (a0 : Array Value) (hw : ∀ d ∈ tables_1, d.before a0 Z = true) (y0 y1 y2 y3 : Int64) (h0 : Heap) (n0 : Nat)  :
    Sat l Z (⟨"com/example/throttld/throttld/LogDropAgedOutPinLaw", "pick", "(IJJJJ)J"⟩ : MethodName) method_3_code 9 (some .long) ({ frames := 0, cells := 0, slots := 0, locals := 0 } : Room) [.int (1 : Int32), .long y0, .long y1, .long y2, .long y3] h0 n0 (RV fun r h => r = .long y1 ∧ h = h0) := by
  refine sat_of (own := "com/example/throttld/throttld/LogDropAgedOutPinLaw") (nm := "pick") rfl rfl (plainFor_of_name pn_0) #[.val (.int (1 : Int32)), .val (.long y0), .second, .val (.long y1), .second, .val (.long y2), .second, .val (.long y3), .second] (fun m => by first | (simp [entryFrame, mkF, argsToLocals, Value.category, maxLocals]; done) | rfl) ?_
  intro p e s m below meth c C
  refine go_iloadN C d11_0 (pc' := 1) rfl rfl ?_
  refine go_if0 C (1 : Int) (by decide) d11_1 (by decide) (pc' := 6) (by decide) (pcN := 4) rfl (fun (c_1 : ¬ (1 : Int) = 0) => ?_) (fun (c_1 : (1 : Int) = 0) => by omega)
  refine go_iloadN C d11_6 (pc' := 7) rfl rfl ?_
  refine go_iconst C (1 : Int32) d11_7 (pc' := 8) rfl (by decide) ?_
  refine go_icmp C (1 : Int) (1 : Int) (by decide) (by decide) d11_8 (by decide) (pc' := 13) (by decide) (pcN := 11) rfl (fun (c_2 : ¬ (1 : Int) = (1 : Int)) => by omega) (fun (c_2 : (1 : Int) = (1 : Int)) => ?_)
  refine go_lloadN C d11_11 (pc' := 12) rfl rfl ?_
  refine go_lreturn C rfl d11_12 (by decide) (by decide) ?_
  exact ⟨_, rfl, rfl, rfl⟩
set_option maxRecDepth 65536 in
set_option maxHeartbeats 40000000 in
theorem sat_pick2 (l : Launch) (Z : State) (a0 : Array Value) (hw : ∀ d ∈ tables_1, d.before a0 Z = true) (y0 y1 y2 y3 : Int64) (h0 : Heap) (n0 : Nat)  :
    Sat l Z (⟨"com/example/throttld/throttld/LogDropAgedOutPinLaw", "pick", "(IJJJJ)J"⟩ : MethodName) method_3_code 9 (some .long) ({ frames := 0, cells := 0, slots := 0, locals := 0 } : Room) [.int (2 : Int32), .long y0, .long y1, .long y2, .long y3] h0 n0 (RV fun r h => r = .long y2 ∧ h = h0) := by
  refine sat_of (own := "com/example/throttld/throttld/LogDropAgedOutPinLaw") (nm := "pick") rfl rfl (plainFor_of_name pn_0) #[.val (.int (2 : Int32)), .val (.long y0), .second, .val (.long y1), .second, .val (.long y2), .second, .val (.long y3), .second] (fun m => by first | (simp [entryFrame, mkF, argsToLocals, Value.category, maxLocals]; done) | rfl) ?_
  intro p e s m below meth c C
  refine go_iloadN C d11_0 (pc' := 1) rfl rfl ?_
  refine go_if0 C (2 : Int) (by decide) d11_1 (by decide) (pc' := 6) (by decide) (pcN := 4) rfl (fun (c_1 : ¬ (2 : Int) = 0) => ?_) (fun (c_1 : (2 : Int) = 0) => by omega)
  refine go_iloadN C d11_6 (pc' := 7) rfl rfl ?_
  refine go_iconst C (1 : Int32) d11_7 (pc' := 8) rfl (by decide) ?_
  refine go_icmp C (2 : Int) (1 : Int) (by decide) (by decide) d11_8 (by decide) (pc' := 13) (by decide) (pcN := 11) rfl (fun (c_2 : ¬ (2 : Int) = (1 : Int)) => ?_) (fun (c_2 : (2 : Int) = (1 : Int)) => by omega)
  refine go_iloadN C d11_13 (pc' := 14) rfl rfl ?_
  refine go_iconst C (2 : Int32) d11_14 (pc' := 15) rfl (by decide) ?_
  refine go_icmp C (2 : Int) (2 : Int) (by decide) (by decide) d11_15 (by decide) (pc' := 21) (by decide) (pcN := 18) rfl (fun (c_3 : ¬ (2 : Int) = (2 : Int)) => by omega) (fun (c_3 : (2 : Int) = (2 : Int)) => ?_)
  refine go_lload C d11_18 (pc' := 20) rfl rfl ?_
  refine go_lreturn C rfl d11_20 (by decide) (by decide) ?_
  exact ⟨_, rfl, rfl, rfl⟩
set_option maxRecDepth 65536 in
set_option maxHeartbeats 40000000 in
theorem sat_pick3 (l : Launch) (Z : State) (a0 : Array Value) (hw : ∀ d ∈ tables_1, d.before a0 Z = true) (y0 y1 y2 y3 : Int64) (h0 : Heap) (n0 : Nat)  :
    Sat l Z (⟨"com/example/throttld/throttld/LogDropAgedOutPinLaw", "pick", "(IJJJJ)J"⟩ : MethodName) method_3_code 9 (some .long) ({ frames := 0, cells := 0, slots := 0, locals := 0 } : Room) [.int (3 : Int32), .long y0, .long y1, .long y2, .long y3] h0 n0 (RV fun r h => r = .long y3 ∧ h = h0) := by
  refine sat_of (own := "com/example/throttld/throttld/LogDropAgedOutPinLaw") (nm := "pick") rfl rfl (plainFor_of_name pn_0) #[.val (.int (3 : Int32)), .val (.long y0), .second, .val (.long y1), .second, .val (.long y2), .second, .val (.long y3), .second] (fun m => by first | (simp [entryFrame, mkF, argsToLocals, Value.category, maxLocals]; done) | rfl) ?_
  intro p e s m below meth c C
  refine go_iloadN C d11_0 (pc' := 1) rfl rfl ?_
  refine go_if0 C (3 : Int) (by decide) d11_1 (by decide) (pc' := 6) (by decide) (pcN := 4) rfl (fun (c_1 : ¬ (3 : Int) = 0) => ?_) (fun (c_1 : (3 : Int) = 0) => by omega)
  refine go_iloadN C d11_6 (pc' := 7) rfl rfl ?_
  refine go_iconst C (1 : Int32) d11_7 (pc' := 8) rfl (by decide) ?_
  refine go_icmp C (3 : Int) (1 : Int) (by decide) (by decide) d11_8 (by decide) (pc' := 13) (by decide) (pcN := 11) rfl (fun (c_2 : ¬ (3 : Int) = (1 : Int)) => ?_) (fun (c_2 : (3 : Int) = (1 : Int)) => by omega)
  refine go_iloadN C d11_13 (pc' := 14) rfl rfl ?_
  refine go_iconst C (2 : Int32) d11_14 (pc' := 15) rfl (by decide) ?_
  refine go_icmp C (3 : Int) (2 : Int) (by decide) (by decide) d11_15 (by decide) (pc' := 21) (by decide) (pcN := 18) rfl (fun (c_3 : ¬ (3 : Int) = (2 : Int)) => ?_) (fun (c_3 : (3 : Int) = (2 : Int)) => by omega)
  refine go_lload C d11_21 (pc' := 23) rfl rfl ?_
  refine go_lreturn C rfl d11_23 (by decide) (by decide) ?_
  exact ⟨_, rfl, rfl, rfl⟩
set_option maxRecDepth 65536 in
set_option maxHeartbeats 40000000 in
theorem sat_add_4_0_0 (l : Launch) (Z : State) (a0 : Array Value) (hw : ∀ d ∈ tables_1, d.before a0 Z = true) (a r : Addr) (v0 v1 v2 v3 : Int64) (t lim : Int64) (h0 : Heap) (n0 : Nat) (E1 : Exa Z h0 a "com/example/throttld/throttld/SlidingLog$Log") (F1 : Fld Z h0 a "com/example/throttld/throttld/SlidingLog$Log" "ring" "[J" (.ref r)) (F2 : Fld Z h0 a "com/example/throttld/throttld/SlidingLog$Log" "head" "I" (.int (0 : Int32))) (F3 : Fld Z h0 a "com/example/throttld/throttld/SlidingLog$Log" "count" "I" (.int (0 : Int32))) (A1 : Av Z h0 r .long [.long v0, .long v1, .long v2, .long v3]) (ga : n0 ≤ a) (gr : n0 ≤ r) :
    Sat l Z (⟨"com/example/throttld/throttld/SlidingLog$Log", "add", "(JJ)V"⟩ : MethodName) prog_33_method_6_code 7 none ({ frames := 1, cells := 0, slots := 0, locals := 17 } : Room) [.ref a, .long t, .long lim] h0 n0 (RN fun h => ∃ r' : Addr, n0 ≤ r' ∧ Exa Z h a "com/example/throttld/throttld/SlidingLog$Log" ∧ Fld Z h a "com/example/throttld/throttld/SlidingLog$Log" "ring" "[J" (.ref r') ∧ Fld Z h a "com/example/throttld/throttld/SlidingLog$Log" "head" "I" (.int (0 : Int32)) ∧ Fld Z h a "com/example/throttld/throttld/SlidingLog$Log" "count" "I" (.int (1 : Int32)) ∧ Av Z h r' .long [.long t, .long v1, .long v2, .long v3]) := by
  refine sat_of (own := "com/example/throttld/throttld/SlidingLog$Log") (nm := "add") rfl rfl (plainFor_of_name pn_1) #[.val (.ref a), .val (.long t), .second, .val (.long lim), .second, .unset, .unset] (fun m => by first | (simp [entryFrame, mkF, argsToLocals, Value.category, maxLocals]; done) | rfl) ?_
  intro p e s m below meth c C
  refine go_aloadN C d7_0 (pc' := 1) rfl rfl rfl ?_
  refine go_getfield C (wd hw 32 rfl) F3 d7_1 (pc' := 4) rfl ?_
  refine go_aloadN C d7_4 (pc' := 5) rfl rfl rfl ?_
  refine go_getfield C (wd hw 25 rfl) F1 d7_5 (pc' := 8) rfl ?_
  refine go_arraylength C A1 (4 : Int32) rfl d7_8 (pc' := 9) rfl ?_
  refine go_icmp C (0 : Int) (4 : Int) (by decide) (by decide) d7_9 (by decide) (pc' := 76) (by decide) (pcN := 12) rfl (fun (c_1 : ¬ (0 : Int) = (4 : Int)) => ?_) (fun (c_1 : (0 : Int) = (4 : Int)) => by omega)
  refine go_aloadN C d7_76 (pc' := 77) rfl rfl rfl ?_
  refine go_getfield C (wd hw 25 rfl) F1 d7_77 (pc' := 80) rfl ?_
  refine go_aloadN C d7_80 (pc' := 81) rfl rfl rfl ?_
  refine go_aloadN C d7_81 (pc' := 82) rfl rfl rfl ?_
  refine go_getfield C (wd hw 32 rfl) F3 d7_82 (pc' := 85) rfl ?_
  refine go_privateP C (as := [.int (0 : Int32)]) (rest := [.ref r]) (W := 1) (.int (0 : Int32)) (sat_slot l Z a0 hw a r (4 : Int32) (0 : Int32) (0 : Int32) (0 : Int32) _ _ _ F1 F2 A1 rfl (by decide)) E1 (wd hw 40 rfl) (wd hw 42 rfl) (own_selects_private (wd hw 11 rfl) (wd hw 42 rfl) (wd hw 41 rfl) (by decide)) (wd hw 41 rfl) (wd hw 12 rfl) (wd hw 43 rfl) (by decide) pd_5 rfl rfl rfl (by decide) (by decide) rfl rfl (by decide) (by decide) d7_85 (pc' := 88) rfl rfl ?_
  refine go_lloadN C d7_88 (pc' := 89) rfl rfl ?_
  refine go_lastore C A1 0 (by decide) (show 0 < 4 from by decide) gr d7_89 (pc' := 90) rfl ?_
  intro h_2 W_3 A_4
  have F_6 := Fld.other W_3 F1 (Or.inl (own_ne_arr E1 (wd hw 11 rfl) A1))
  have F_7 := Fld.other W_3 F2 (Or.inl (own_ne_arr E1 (wd hw 11 rfl) A1))
  have F_8 := Fld.other W_3 F3 (Or.inl (own_ne_arr E1 (wd hw 11 rfl) A1))
  have E_9 := Exa.wr W_3 E1
  have A_10 : Av Z h_2 r .long [.long t, .long v1, .long v2, .long v3] := A_4
  refine go_aloadN C d7_90 (pc' := 91) rfl rfl rfl ?_
  refine go_dup C d7_91 (pc' := 92) rfl rfl ?_
  refine go_getfield C (wd hw 32 rfl) F_8 d7_92 (pc' := 95) rfl ?_
  refine go_iconst C (1 : Int32) d7_95 (pc' := 96) rfl (by decide) ?_
  refine go_iadd C d7_96 (pc' := 97) rfl ?_
  rw [(by decide : (0 : Int32) + (1 : Int32) = (1 : Int32))]
  refine go_putfield C (wd hw 32 rfl) F_8 E_9 (Or.inl (wd hw 33 rfl)) (wd hw 11 rfl) (ty := .int) (by decide) rfl rfl ga d7_97 (pc' := 100) rfl ?_
  intro h_11 W_12
  have F_13 := Fld.other W_12 F_6 (Or.inr (slot_ne (a0 := a0) (Or.inl (wd hw 26 rfl)) (Or.inl (wd hw 33 rfl)) (by decide) (t := (.array .long)) (t' := .int) (by decide) (by decide)))
  have F_14 := Fld.other W_12 F_7 (Or.inr (slot_ne (a0 := a0) (Or.inl (wd hw 45 rfl)) (Or.inl (wd hw 33 rfl)) (by decide) (t := .int) (t' := .int) (by decide) (by decide)))
  have F_15 := Fld.same W_12 F_8
  have E_16 := Exa.wr W_12 E_9
  have A_17 := Av.other A_10 W_12 (Ne.symm (own_ne_arr E_9 (wd hw 11 rfl) A_10))
  refine go_return C rfl d7_100 (by decide) (by decide) ?_
  exact ⟨rfl, _, gr, E_16, F_13, F_14, F_15, A_17⟩
set_option maxRecDepth 65536 in
set_option maxHeartbeats 40000000 in
theorem sat_add_4_0_1 (l : Launch) (Z : State) (a0 : Array Value) (hw : ∀ d ∈ tables_1, d.before a0 Z = true) (a r : Addr) (v0 v1 v2 v3 : Int64) (t lim : Int64) (h0 : Heap) (n0 : Nat) (E1 : Exa Z h0 a "com/example/throttld/throttld/SlidingLog$Log") (F1 : Fld Z h0 a "com/example/throttld/throttld/SlidingLog$Log" "ring" "[J" (.ref r)) (F2 : Fld Z h0 a "com/example/throttld/throttld/SlidingLog$Log" "head" "I" (.int (0 : Int32))) (F3 : Fld Z h0 a "com/example/throttld/throttld/SlidingLog$Log" "count" "I" (.int (1 : Int32))) (A1 : Av Z h0 r .long [.long v0, .long v1, .long v2, .long v3]) (ga : n0 ≤ a) (gr : n0 ≤ r) :
    Sat l Z (⟨"com/example/throttld/throttld/SlidingLog$Log", "add", "(JJ)V"⟩ : MethodName) prog_33_method_6_code 7 none ({ frames := 1, cells := 0, slots := 0, locals := 17 } : Room) [.ref a, .long t, .long lim] h0 n0 (RN fun h => ∃ r' : Addr, n0 ≤ r' ∧ Exa Z h a "com/example/throttld/throttld/SlidingLog$Log" ∧ Fld Z h a "com/example/throttld/throttld/SlidingLog$Log" "ring" "[J" (.ref r') ∧ Fld Z h a "com/example/throttld/throttld/SlidingLog$Log" "head" "I" (.int (0 : Int32)) ∧ Fld Z h a "com/example/throttld/throttld/SlidingLog$Log" "count" "I" (.int (2 : Int32)) ∧ Av Z h r' .long [.long v0, .long t, .long v2, .long v3]) := by
  refine sat_of (own := "com/example/throttld/throttld/SlidingLog$Log") (nm := "add") rfl rfl (plainFor_of_name pn_1) #[.val (.ref a), .val (.long t), .second, .val (.long lim), .second, .unset, .unset] (fun m => by first | (simp [entryFrame, mkF, argsToLocals, Value.category, maxLocals]; done) | rfl) ?_
  intro p e s m below meth c C
  refine go_aloadN C d7_0 (pc' := 1) rfl rfl rfl ?_
  refine go_getfield C (wd hw 32 rfl) F3 d7_1 (pc' := 4) rfl ?_
  refine go_aloadN C d7_4 (pc' := 5) rfl rfl rfl ?_
  refine go_getfield C (wd hw 25 rfl) F1 d7_5 (pc' := 8) rfl ?_
  refine go_arraylength C A1 (4 : Int32) rfl d7_8 (pc' := 9) rfl ?_
  refine go_icmp C (1 : Int) (4 : Int) (by decide) (by decide) d7_9 (by decide) (pc' := 76) (by decide) (pcN := 12) rfl (fun (c_1 : ¬ (1 : Int) = (4 : Int)) => ?_) (fun (c_1 : (1 : Int) = (4 : Int)) => by omega)
  refine go_aloadN C d7_76 (pc' := 77) rfl rfl rfl ?_
  refine go_getfield C (wd hw 25 rfl) F1 d7_77 (pc' := 80) rfl ?_
  refine go_aloadN C d7_80 (pc' := 81) rfl rfl rfl ?_
  refine go_aloadN C d7_81 (pc' := 82) rfl rfl rfl ?_
  refine go_getfield C (wd hw 32 rfl) F3 d7_82 (pc' := 85) rfl ?_
  refine go_privateP C (as := [.int (1 : Int32)]) (rest := [.ref r]) (W := 1) (.int (1 : Int32)) (sat_slot l Z a0 hw a r (4 : Int32) (0 : Int32) (1 : Int32) (1 : Int32) _ _ _ F1 F2 A1 rfl (by decide)) E1 (wd hw 40 rfl) (wd hw 42 rfl) (own_selects_private (wd hw 11 rfl) (wd hw 42 rfl) (wd hw 41 rfl) (by decide)) (wd hw 41 rfl) (wd hw 12 rfl) (wd hw 43 rfl) (by decide) pd_5 rfl rfl rfl (by decide) (by decide) rfl rfl (by decide) (by decide) d7_85 (pc' := 88) rfl rfl ?_
  refine go_lloadN C d7_88 (pc' := 89) rfl rfl ?_
  refine go_lastore C A1 1 (by decide) (show 1 < 4 from by decide) gr d7_89 (pc' := 90) rfl ?_
  intro h_2 W_3 A_4
  have F_6 := Fld.other W_3 F1 (Or.inl (own_ne_arr E1 (wd hw 11 rfl) A1))
  have F_7 := Fld.other W_3 F2 (Or.inl (own_ne_arr E1 (wd hw 11 rfl) A1))
  have F_8 := Fld.other W_3 F3 (Or.inl (own_ne_arr E1 (wd hw 11 rfl) A1))
  have E_9 := Exa.wr W_3 E1
  have A_10 : Av Z h_2 r .long [.long v0, .long t, .long v2, .long v3] := A_4
  refine go_aloadN C d7_90 (pc' := 91) rfl rfl rfl ?_
  refine go_dup C d7_91 (pc' := 92) rfl rfl ?_
  refine go_getfield C (wd hw 32 rfl) F_8 d7_92 (pc' := 95) rfl ?_
  refine go_iconst C (1 : Int32) d7_95 (pc' := 96) rfl (by decide) ?_
  refine go_iadd C d7_96 (pc' := 97) rfl ?_
  rw [(by decide : (1 : Int32) + (1 : Int32) = (2 : Int32))]
  refine go_putfield C (wd hw 32 rfl) F_8 E_9 (Or.inl (wd hw 33 rfl)) (wd hw 11 rfl) (ty := .int) (by decide) rfl rfl ga d7_97 (pc' := 100) rfl ?_
  intro h_11 W_12
  have F_13 := Fld.other W_12 F_6 (Or.inr (slot_ne (a0 := a0) (Or.inl (wd hw 26 rfl)) (Or.inl (wd hw 33 rfl)) (by decide) (t := (.array .long)) (t' := .int) (by decide) (by decide)))
  have F_14 := Fld.other W_12 F_7 (Or.inr (slot_ne (a0 := a0) (Or.inl (wd hw 45 rfl)) (Or.inl (wd hw 33 rfl)) (by decide) (t := .int) (t' := .int) (by decide) (by decide)))
  have F_15 := Fld.same W_12 F_8
  have E_16 := Exa.wr W_12 E_9
  have A_17 := Av.other A_10 W_12 (Ne.symm (own_ne_arr E_9 (wd hw 11 rfl) A_10))
  refine go_return C rfl d7_100 (by decide) (by decide) ?_
  exact ⟨rfl, _, gr, E_16, F_13, F_14, F_15, A_17⟩
set_option maxRecDepth 65536 in
set_option maxHeartbeats 40000000 in
theorem sat_add_4_0_2 (l : Launch) (Z : State) (a0 : Array Value) (hw : ∀ d ∈ tables_1, d.before a0 Z = true) (a r : Addr) (v0 v1 v2 v3 : Int64) (t lim : Int64) (h0 : Heap) (n0 : Nat) (E1 : Exa Z h0 a "com/example/throttld/throttld/SlidingLog$Log") (F1 : Fld Z h0 a "com/example/throttld/throttld/SlidingLog$Log" "ring" "[J" (.ref r)) (F2 : Fld Z h0 a "com/example/throttld/throttld/SlidingLog$Log" "head" "I" (.int (0 : Int32))) (F3 : Fld Z h0 a "com/example/throttld/throttld/SlidingLog$Log" "count" "I" (.int (2 : Int32))) (A1 : Av Z h0 r .long [.long v0, .long v1, .long v2, .long v3]) (ga : n0 ≤ a) (gr : n0 ≤ r) :
    Sat l Z (⟨"com/example/throttld/throttld/SlidingLog$Log", "add", "(JJ)V"⟩ : MethodName) prog_33_method_6_code 7 none ({ frames := 1, cells := 0, slots := 0, locals := 17 } : Room) [.ref a, .long t, .long lim] h0 n0 (RN fun h => ∃ r' : Addr, n0 ≤ r' ∧ Exa Z h a "com/example/throttld/throttld/SlidingLog$Log" ∧ Fld Z h a "com/example/throttld/throttld/SlidingLog$Log" "ring" "[J" (.ref r') ∧ Fld Z h a "com/example/throttld/throttld/SlidingLog$Log" "head" "I" (.int (0 : Int32)) ∧ Fld Z h a "com/example/throttld/throttld/SlidingLog$Log" "count" "I" (.int (3 : Int32)) ∧ Av Z h r' .long [.long v0, .long v1, .long t, .long v3]) := by
  refine sat_of (own := "com/example/throttld/throttld/SlidingLog$Log") (nm := "add") rfl rfl (plainFor_of_name pn_1) #[.val (.ref a), .val (.long t), .second, .val (.long lim), .second, .unset, .unset] (fun m => by first | (simp [entryFrame, mkF, argsToLocals, Value.category, maxLocals]; done) | rfl) ?_
  intro p e s m below meth c C
  refine go_aloadN C d7_0 (pc' := 1) rfl rfl rfl ?_
  refine go_getfield C (wd hw 32 rfl) F3 d7_1 (pc' := 4) rfl ?_
  refine go_aloadN C d7_4 (pc' := 5) rfl rfl rfl ?_
  refine go_getfield C (wd hw 25 rfl) F1 d7_5 (pc' := 8) rfl ?_
  refine go_arraylength C A1 (4 : Int32) rfl d7_8 (pc' := 9) rfl ?_
  refine go_icmp C (2 : Int) (4 : Int) (by decide) (by decide) d7_9 (by decide) (pc' := 76) (by decide) (pcN := 12) rfl (fun (c_1 : ¬ (2 : Int) = (4 : Int)) => ?_) (fun (c_1 : (2 : Int) = (4 : Int)) => by omega)
  refine go_aloadN C d7_76 (pc' := 77) rfl rfl rfl ?_
  refine go_getfield C (wd hw 25 rfl) F1 d7_77 (pc' := 80) rfl ?_
  refine go_aloadN C d7_80 (pc' := 81) rfl rfl rfl ?_
  refine go_aloadN C d7_81 (pc' := 82) rfl rfl rfl ?_
  refine go_getfield C (wd hw 32 rfl) F3 d7_82 (pc' := 85) rfl ?_
  refine go_privateP C (as := [.int (2 : Int32)]) (rest := [.ref r]) (W := 1) (.int (2 : Int32)) (sat_slot l Z a0 hw a r (4 : Int32) (0 : Int32) (2 : Int32) (2 : Int32) _ _ _ F1 F2 A1 rfl (by decide)) E1 (wd hw 40 rfl) (wd hw 42 rfl) (own_selects_private (wd hw 11 rfl) (wd hw 42 rfl) (wd hw 41 rfl) (by decide)) (wd hw 41 rfl) (wd hw 12 rfl) (wd hw 43 rfl) (by decide) pd_5 rfl rfl rfl (by decide) (by decide) rfl rfl (by decide) (by decide) d7_85 (pc' := 88) rfl rfl ?_
  refine go_lloadN C d7_88 (pc' := 89) rfl rfl ?_
  refine go_lastore C A1 2 (by decide) (show 2 < 4 from by decide) gr d7_89 (pc' := 90) rfl ?_
  intro h_2 W_3 A_4
  have F_6 := Fld.other W_3 F1 (Or.inl (own_ne_arr E1 (wd hw 11 rfl) A1))
  have F_7 := Fld.other W_3 F2 (Or.inl (own_ne_arr E1 (wd hw 11 rfl) A1))
  have F_8 := Fld.other W_3 F3 (Or.inl (own_ne_arr E1 (wd hw 11 rfl) A1))
  have E_9 := Exa.wr W_3 E1
  have A_10 : Av Z h_2 r .long [.long v0, .long v1, .long t, .long v3] := A_4
  refine go_aloadN C d7_90 (pc' := 91) rfl rfl rfl ?_
  refine go_dup C d7_91 (pc' := 92) rfl rfl ?_
  refine go_getfield C (wd hw 32 rfl) F_8 d7_92 (pc' := 95) rfl ?_
  refine go_iconst C (1 : Int32) d7_95 (pc' := 96) rfl (by decide) ?_
  refine go_iadd C d7_96 (pc' := 97) rfl ?_
  rw [(by decide : (2 : Int32) + (1 : Int32) = (3 : Int32))]
  refine go_putfield C (wd hw 32 rfl) F_8 E_9 (Or.inl (wd hw 33 rfl)) (wd hw 11 rfl) (ty := .int) (by decide) rfl rfl ga d7_97 (pc' := 100) rfl ?_
  intro h_11 W_12
  have F_13 := Fld.other W_12 F_6 (Or.inr (slot_ne (a0 := a0) (Or.inl (wd hw 26 rfl)) (Or.inl (wd hw 33 rfl)) (by decide) (t := (.array .long)) (t' := .int) (by decide) (by decide)))
  have F_14 := Fld.other W_12 F_7 (Or.inr (slot_ne (a0 := a0) (Or.inl (wd hw 45 rfl)) (Or.inl (wd hw 33 rfl)) (by decide) (t := .int) (t' := .int) (by decide) (by decide)))
  have F_15 := Fld.same W_12 F_8
  have E_16 := Exa.wr W_12 E_9
  have A_17 := Av.other A_10 W_12 (Ne.symm (own_ne_arr E_9 (wd hw 11 rfl) A_10))
  refine go_return C rfl d7_100 (by decide) (by decide) ?_
  exact ⟨rfl, _, gr, E_16, F_13, F_14, F_15, A_17⟩
set_option maxRecDepth 65536 in
set_option maxHeartbeats 40000000 in
theorem sat_add_4_0_3 (l : Launch) (Z : State) (a0 : Array Value) (hw : ∀ d ∈ tables_1, d.before a0 Z = true) (a r : Addr) (v0 v1 v2 v3 : Int64) (t lim : Int64) (h0 : Heap) (n0 : Nat) (E1 : Exa Z h0 a "com/example/throttld/throttld/SlidingLog$Log") (F1 : Fld Z h0 a "com/example/throttld/throttld/SlidingLog$Log" "ring" "[J" (.ref r)) (F2 : Fld Z h0 a "com/example/throttld/throttld/SlidingLog$Log" "head" "I" (.int (0 : Int32))) (F3 : Fld Z h0 a "com/example/throttld/throttld/SlidingLog$Log" "count" "I" (.int (3 : Int32))) (A1 : Av Z h0 r .long [.long v0, .long v1, .long v2, .long v3]) (ga : n0 ≤ a) (gr : n0 ≤ r) :
    Sat l Z (⟨"com/example/throttld/throttld/SlidingLog$Log", "add", "(JJ)V"⟩ : MethodName) prog_33_method_6_code 7 none ({ frames := 1, cells := 0, slots := 0, locals := 17 } : Room) [.ref a, .long t, .long lim] h0 n0 (RN fun h => ∃ r' : Addr, n0 ≤ r' ∧ Exa Z h a "com/example/throttld/throttld/SlidingLog$Log" ∧ Fld Z h a "com/example/throttld/throttld/SlidingLog$Log" "ring" "[J" (.ref r') ∧ Fld Z h a "com/example/throttld/throttld/SlidingLog$Log" "head" "I" (.int (0 : Int32)) ∧ Fld Z h a "com/example/throttld/throttld/SlidingLog$Log" "count" "I" (.int (4 : Int32)) ∧ Av Z h r' .long [.long v0, .long v1, .long v2, .long t]) := by
  refine sat_of (own := "com/example/throttld/throttld/SlidingLog$Log") (nm := "add") rfl rfl (plainFor_of_name pn_1) #[.val (.ref a), .val (.long t), .second, .val (.long lim), .second, .unset, .unset] (fun m => by first | (simp [entryFrame, mkF, argsToLocals, Value.category, maxLocals]; done) | rfl) ?_
  intro p e s m below meth c C
  refine go_aloadN C d7_0 (pc' := 1) rfl rfl rfl ?_
  refine go_getfield C (wd hw 32 rfl) F3 d7_1 (pc' := 4) rfl ?_
  refine go_aloadN C d7_4 (pc' := 5) rfl rfl rfl ?_
  refine go_getfield C (wd hw 25 rfl) F1 d7_5 (pc' := 8) rfl ?_
  refine go_arraylength C A1 (4 : Int32) rfl d7_8 (pc' := 9) rfl ?_
  refine go_icmp C (3 : Int) (4 : Int) (by decide) (by decide) d7_9 (by decide) (pc' := 76) (by decide) (pcN := 12) rfl (fun (c_1 : ¬ (3 : Int) = (4 : Int)) => ?_) (fun (c_1 : (3 : Int) = (4 : Int)) => by omega)
  refine go_aloadN C d7_76 (pc' := 77) rfl rfl rfl ?_
  refine go_getfield C (wd hw 25 rfl) F1 d7_77 (pc' := 80) rfl ?_
  refine go_aloadN C d7_80 (pc' := 81) rfl rfl rfl ?_
  refine go_aloadN C d7_81 (pc' := 82) rfl rfl rfl ?_
  refine go_getfield C (wd hw 32 rfl) F3 d7_82 (pc' := 85) rfl ?_
  refine go_privateP C (as := [.int (3 : Int32)]) (rest := [.ref r]) (W := 1) (.int (3 : Int32)) (sat_slot l Z a0 hw a r (4 : Int32) (0 : Int32) (3 : Int32) (3 : Int32) _ _ _ F1 F2 A1 rfl (by decide)) E1 (wd hw 40 rfl) (wd hw 42 rfl) (own_selects_private (wd hw 11 rfl) (wd hw 42 rfl) (wd hw 41 rfl) (by decide)) (wd hw 41 rfl) (wd hw 12 rfl) (wd hw 43 rfl) (by decide) pd_5 rfl rfl rfl (by decide) (by decide) rfl rfl (by decide) (by decide) d7_85 (pc' := 88) rfl rfl ?_
  refine go_lloadN C d7_88 (pc' := 89) rfl rfl ?_
  refine go_lastore C A1 3 (by decide) (show 3 < 4 from by decide) gr d7_89 (pc' := 90) rfl ?_
  intro h_2 W_3 A_4
  have F_6 := Fld.other W_3 F1 (Or.inl (own_ne_arr E1 (wd hw 11 rfl) A1))
  have F_7 := Fld.other W_3 F2 (Or.inl (own_ne_arr E1 (wd hw 11 rfl) A1))
  have F_8 := Fld.other W_3 F3 (Or.inl (own_ne_arr E1 (wd hw 11 rfl) A1))
  have E_9 := Exa.wr W_3 E1
  have A_10 : Av Z h_2 r .long [.long v0, .long v1, .long v2, .long t] := A_4
  refine go_aloadN C d7_90 (pc' := 91) rfl rfl rfl ?_
  refine go_dup C d7_91 (pc' := 92) rfl rfl ?_
  refine go_getfield C (wd hw 32 rfl) F_8 d7_92 (pc' := 95) rfl ?_
  refine go_iconst C (1 : Int32) d7_95 (pc' := 96) rfl (by decide) ?_
  refine go_iadd C d7_96 (pc' := 97) rfl ?_
  rw [(by decide : (3 : Int32) + (1 : Int32) = (4 : Int32))]
  refine go_putfield C (wd hw 32 rfl) F_8 E_9 (Or.inl (wd hw 33 rfl)) (wd hw 11 rfl) (ty := .int) (by decide) rfl rfl ga d7_97 (pc' := 100) rfl ?_
  intro h_11 W_12
  have F_13 := Fld.other W_12 F_6 (Or.inr (slot_ne (a0 := a0) (Or.inl (wd hw 26 rfl)) (Or.inl (wd hw 33 rfl)) (by decide) (t := (.array .long)) (t' := .int) (by decide) (by decide)))
  have F_14 := Fld.other W_12 F_7 (Or.inr (slot_ne (a0 := a0) (Or.inl (wd hw 45 rfl)) (Or.inl (wd hw 33 rfl)) (by decide) (t := .int) (t' := .int) (by decide) (by decide)))
  have F_15 := Fld.same W_12 F_8
  have E_16 := Exa.wr W_12 E_9
  have A_17 := Av.other A_10 W_12 (Ne.symm (own_ne_arr E_9 (wd hw 11 rfl) A_10))
  refine go_return C rfl d7_100 (by decide) (by decide) ?_
  exact ⟨rfl, _, gr, E_16, F_13, F_14, F_15, A_17⟩
set_option maxRecDepth 65536 in
set_option maxHeartbeats 40000000 in
theorem sat_add_4_1_0 (l : Launch) (Z : State) (a0 : Array Value) (hw : ∀ d ∈ tables_1, d.before a0 Z = true) (a r : Addr) (v0 v1 v2 v3 : Int64) (t lim : Int64) (h0 : Heap) (n0 : Nat) (E1 : Exa Z h0 a "com/example/throttld/throttld/SlidingLog$Log") (F1 : Fld Z h0 a "com/example/throttld/throttld/SlidingLog$Log" "ring" "[J" (.ref r)) (F2 : Fld Z h0 a "com/example/throttld/throttld/SlidingLog$Log" "head" "I" (.int (1 : Int32))) (F3 : Fld Z h0 a "com/example/throttld/throttld/SlidingLog$Log" "count" "I" (.int (0 : Int32))) (A1 : Av Z h0 r .long [.long v0, .long v1, .long v2, .long v3]) (ga : n0 ≤ a) (gr : n0 ≤ r) :
    Sat l Z (⟨"com/example/throttld/throttld/SlidingLog$Log", "add", "(JJ)V"⟩ : MethodName) prog_33_method_6_code 7 none ({ frames := 1, cells := 0, slots := 0, locals := 17 } : Room) [.ref a, .long t, .long lim] h0 n0 (RN fun h => ∃ r' : Addr, n0 ≤ r' ∧ Exa Z h a "com/example/throttld/throttld/SlidingLog$Log" ∧ Fld Z h a "com/example/throttld/throttld/SlidingLog$Log" "ring" "[J" (.ref r') ∧ Fld Z h a "com/example/throttld/throttld/SlidingLog$Log" "head" "I" (.int (1 : Int32)) ∧ Fld Z h a "com/example/throttld/throttld/SlidingLog$Log" "count" "I" (.int (1 : Int32)) ∧ Av Z h r' .long [.long v0, .long t, .long v2, .long v3]) := by
  refine sat_of (own := "com/example/throttld/throttld/SlidingLog$Log") (nm := "add") rfl rfl (plainFor_of_name pn_1) #[.val (.ref a), .val (.long t), .second, .val (.long lim), .second, .unset, .unset] (fun m => by first | (simp [entryFrame, mkF, argsToLocals, Value.category, maxLocals]; done) | rfl) ?_
  intro p e s m below meth c C
  refine go_aloadN C d7_0 (pc' := 1) rfl rfl rfl ?_
  refine go_getfield C (wd hw 32 rfl) F3 d7_1 (pc' := 4) rfl ?_
  refine go_aloadN C d7_4 (pc' := 5) rfl rfl rfl ?_
  refine go_getfield C (wd hw 25 rfl) F1 d7_5 (pc' := 8) rfl ?_
  refine go_arraylength C A1 (4 : Int32) rfl d7_8 (pc' := 9) rfl ?_
  refine go_icmp C (0 : Int) (4 : Int) (by decide) (by decide) d7_9 (by decide) (pc' := 76) (by decide) (pcN := 12) rfl (fun (c_1 : ¬ (0 : Int) = (4 : Int)) => ?_) (fun (c_1 : (0 : Int) = (4 : Int)) => by omega)
  refine go_aloadN C d7_76 (pc' := 77) rfl rfl rfl ?_
  refine go_getfield C (wd hw 25 rfl) F1 d7_77 (pc' := 80) rfl ?_
  refine go_aloadN C d7_80 (pc' := 81) rfl rfl rfl ?_
  refine go_aloadN C d7_81 (pc' := 82) rfl rfl rfl ?_
  refine go_getfield C (wd hw 32 rfl) F3 d7_82 (pc' := 85) rfl ?_
  refine go_privateP C (as := [.int (0 : Int32)]) (rest := [.ref r]) (W := 1) (.int (1 : Int32)) (sat_slot l Z a0 hw a r (4 : Int32) (1 : Int32) (0 : Int32) (1 : Int32) _ _ _ F1 F2 A1 rfl (by decide)) E1 (wd hw 40 rfl) (wd hw 42 rfl) (own_selects_private (wd hw 11 rfl) (wd hw 42 rfl) (wd hw 41 rfl) (by decide)) (wd hw 41 rfl) (wd hw 12 rfl) (wd hw 43 rfl) (by decide) pd_5 rfl rfl rfl (by decide) (by decide) rfl rfl (by decide) (by decide) d7_85 (pc' := 88) rfl rfl ?_
  refine go_lloadN C d7_88 (pc' := 89) rfl rfl ?_
  refine go_lastore C A1 1 (by decide) (show 1 < 4 from by decide) gr d7_89 (pc' := 90) rfl ?_
  intro h_2 W_3 A_4
  have F_6 := Fld.other W_3 F1 (Or.inl (own_ne_arr E1 (wd hw 11 rfl) A1))
  have F_7 := Fld.other W_3 F2 (Or.inl (own_ne_arr E1 (wd hw 11 rfl) A1))
  have F_8 := Fld.other W_3 F3 (Or.inl (own_ne_arr E1 (wd hw 11 rfl) A1))
  have E_9 := Exa.wr W_3 E1
  have A_10 : Av Z h_2 r .long [.long v0, .long t, .long v2, .long v3] := A_4
  refine go_aloadN C d7_90 (pc' := 91) rfl rfl rfl ?_
  refine go_dup C d7_91 (pc' := 92) rfl rfl ?_
  refine go_getfield C (wd hw 32 rfl) F_8 d7_92 (pc' := 95) rfl ?_
  refine go_iconst C (1 : Int32) d7_95 (pc' := 96) rfl (by decide) ?_
  refine go_iadd C d7_96 (pc' := 97) rfl ?_
  rw [(by decide : (0 : Int32) + (1 : Int32) = (1 : Int32))]
  refine go_putfield C (wd hw 32 rfl) F_8 E_9 (Or.inl (wd hw 33 rfl)) (wd hw 11 rfl) (ty := .int) (by decide) rfl rfl ga d7_97 (pc' := 100) rfl ?_
  intro h_11 W_12
  have F_13 := Fld.other W_12 F_6 (Or.inr (slot_ne (a0 := a0) (Or.inl (wd hw 26 rfl)) (Or.inl (wd hw 33 rfl)) (by decide) (t := (.array .long)) (t' := .int) (by decide) (by decide)))
  have F_14 := Fld.other W_12 F_7 (Or.inr (slot_ne (a0 := a0) (Or.inl (wd hw 45 rfl)) (Or.inl (wd hw 33 rfl)) (by decide) (t := .int) (t' := .int) (by decide) (by decide)))
  have F_15 := Fld.same W_12 F_8
  have E_16 := Exa.wr W_12 E_9
  have A_17 := Av.other A_10 W_12 (Ne.symm (own_ne_arr E_9 (wd hw 11 rfl) A_10))
  refine go_return C rfl d7_100 (by decide) (by decide) ?_
  exact ⟨rfl, _, gr, E_16, F_13, F_14, F_15, A_17⟩
set_option maxRecDepth 65536 in
set_option maxHeartbeats 40000000 in
theorem sat_add_4_2_0 (l : Launch) (Z : State) (a0 : Array Value) (hw : ∀ d ∈ tables_1, d.before a0 Z = true) (a r : Addr) (v0 v1 v2 v3 : Int64) (t lim : Int64) (h0 : Heap) (n0 : Nat) (E1 : Exa Z h0 a "com/example/throttld/throttld/SlidingLog$Log") (F1 : Fld Z h0 a "com/example/throttld/throttld/SlidingLog$Log" "ring" "[J" (.ref r)) (F2 : Fld Z h0 a "com/example/throttld/throttld/SlidingLog$Log" "head" "I" (.int (2 : Int32))) (F3 : Fld Z h0 a "com/example/throttld/throttld/SlidingLog$Log" "count" "I" (.int (0 : Int32))) (A1 : Av Z h0 r .long [.long v0, .long v1, .long v2, .long v3]) (ga : n0 ≤ a) (gr : n0 ≤ r) :
    Sat l Z (⟨"com/example/throttld/throttld/SlidingLog$Log", "add", "(JJ)V"⟩ : MethodName) prog_33_method_6_code 7 none ({ frames := 1, cells := 0, slots := 0, locals := 17 } : Room) [.ref a, .long t, .long lim] h0 n0 (RN fun h => ∃ r' : Addr, n0 ≤ r' ∧ Exa Z h a "com/example/throttld/throttld/SlidingLog$Log" ∧ Fld Z h a "com/example/throttld/throttld/SlidingLog$Log" "ring" "[J" (.ref r') ∧ Fld Z h a "com/example/throttld/throttld/SlidingLog$Log" "head" "I" (.int (2 : Int32)) ∧ Fld Z h a "com/example/throttld/throttld/SlidingLog$Log" "count" "I" (.int (1 : Int32)) ∧ Av Z h r' .long [.long v0, .long v1, .long t, .long v3]) := by
  refine sat_of (own := "com/example/throttld/throttld/SlidingLog$Log") (nm := "add") rfl rfl (plainFor_of_name pn_1) #[.val (.ref a), .val (.long t), .second, .val (.long lim), .second, .unset, .unset] (fun m => by first | (simp [entryFrame, mkF, argsToLocals, Value.category, maxLocals]; done) | rfl) ?_
  intro p e s m below meth c C
  refine go_aloadN C d7_0 (pc' := 1) rfl rfl rfl ?_
  refine go_getfield C (wd hw 32 rfl) F3 d7_1 (pc' := 4) rfl ?_
  refine go_aloadN C d7_4 (pc' := 5) rfl rfl rfl ?_
  refine go_getfield C (wd hw 25 rfl) F1 d7_5 (pc' := 8) rfl ?_
  refine go_arraylength C A1 (4 : Int32) rfl d7_8 (pc' := 9) rfl ?_
  refine go_icmp C (0 : Int) (4 : Int) (by decide) (by decide) d7_9 (by decide) (pc' := 76) (by decide) (pcN := 12) rfl (fun (c_1 : ¬ (0 : Int) = (4 : Int)) => ?_) (fun (c_1 : (0 : Int) = (4 : Int)) => by omega)
  refine go_aloadN C d7_76 (pc' := 77) rfl rfl rfl ?_
  refine go_getfield C (wd hw 25 rfl) F1 d7_77 (pc' := 80) rfl ?_
  refine go_aloadN C d7_80 (pc' := 81) rfl rfl rfl ?_
  refine go_aloadN C d7_81 (pc' := 82) rfl rfl rfl ?_
  refine go_getfield C (wd hw 32 rfl) F3 d7_82 (pc' := 85) rfl ?_
  refine go_privateP C (as := [.int (0 : Int32)]) (rest := [.ref r]) (W := 1) (.int (2 : Int32)) (sat_slot l Z a0 hw a r (4 : Int32) (2 : Int32) (0 : Int32) (2 : Int32) _ _ _ F1 F2 A1 rfl (by decide)) E1 (wd hw 40 rfl) (wd hw 42 rfl) (own_selects_private (wd hw 11 rfl) (wd hw 42 rfl) (wd hw 41 rfl) (by decide)) (wd hw 41 rfl) (wd hw 12 rfl) (wd hw 43 rfl) (by decide) pd_5 rfl rfl rfl (by decide) (by decide) rfl rfl (by decide) (by decide) d7_85 (pc' := 88) rfl rfl ?_
  refine go_lloadN C d7_88 (pc' := 89) rfl rfl ?_
  refine go_lastore C A1 2 (by decide) (show 2 < 4 from by decide) gr d7_89 (pc' := 90) rfl ?_
  intro h_2 W_3 A_4
  have F_6 := Fld.other W_3 F1 (Or.inl (own_ne_arr E1 (wd hw 11 rfl) A1))
  have F_7 := Fld.other W_3 F2 (Or.inl (own_ne_arr E1 (wd hw 11 rfl) A1))
  have F_8 := Fld.other W_3 F3 (Or.inl (own_ne_arr E1 (wd hw 11 rfl) A1))
  have E_9 := Exa.wr W_3 E1
  have A_10 : Av Z h_2 r .long [.long v0, .long v1, .long t, .long v3] := A_4
  refine go_aloadN C d7_90 (pc' := 91) rfl rfl rfl ?_
  refine go_dup C d7_91 (pc' := 92) rfl rfl ?_
  refine go_getfield C (wd hw 32 rfl) F_8 d7_92 (pc' := 95) rfl ?_
  refine go_iconst C (1 : Int32) d7_95 (pc' := 96) rfl (by decide) ?_
  refine go_iadd C d7_96 (pc' := 97) rfl ?_
  rw [(by decide : (0 : Int32) + (1 : Int32) = (1 : Int32))]
  refine go_putfield C (wd hw 32 rfl) F_8 E_9 (Or.inl (wd hw 33 rfl)) (wd hw 11 rfl) (ty := .int) (by decide) rfl rfl ga d7_97 (pc' := 100) rfl ?_
  intro h_11 W_12
  have F_13 := Fld.other W_12 F_6 (Or.inr (slot_ne (a0 := a0) (Or.inl (wd hw 26 rfl)) (Or.inl (wd hw 33 rfl)) (by decide) (t := (.array .long)) (t' := .int) (by decide) (by decide)))
  have F_14 := Fld.other W_12 F_7 (Or.inr (slot_ne (a0 := a0) (Or.inl (wd hw 45 rfl)) (Or.inl (wd hw 33 rfl)) (by decide) (t := .int) (t' := .int) (by decide) (by decide)))
  have F_15 := Fld.same W_12 F_8
  have E_16 := Exa.wr W_12 E_9
  have A_17 := Av.other A_10 W_12 (Ne.symm (own_ne_arr E_9 (wd hw 11 rfl) A_10))
  refine go_return C rfl d7_100 (by decide) (by decide) ?_
  exact ⟨rfl, _, gr, E_16, F_13, F_14, F_15, A_17⟩
set_option maxRecDepth 65536 in
set_option maxHeartbeats 40000000 in
theorem sat_add_4_3_0 (l : Launch) (Z : State) (a0 : Array Value) (hw : ∀ d ∈ tables_1, d.before a0 Z = true) (a r : Addr) (v0 v1 v2 v3 : Int64) (t lim : Int64) (h0 : Heap) (n0 : Nat) (E1 : Exa Z h0 a "com/example/throttld/throttld/SlidingLog$Log") (F1 : Fld Z h0 a "com/example/throttld/throttld/SlidingLog$Log" "ring" "[J" (.ref r)) (F2 : Fld Z h0 a "com/example/throttld/throttld/SlidingLog$Log" "head" "I" (.int (3 : Int32))) (F3 : Fld Z h0 a "com/example/throttld/throttld/SlidingLog$Log" "count" "I" (.int (0 : Int32))) (A1 : Av Z h0 r .long [.long v0, .long v1, .long v2, .long v3]) (ga : n0 ≤ a) (gr : n0 ≤ r) :
    Sat l Z (⟨"com/example/throttld/throttld/SlidingLog$Log", "add", "(JJ)V"⟩ : MethodName) prog_33_method_6_code 7 none ({ frames := 1, cells := 0, slots := 0, locals := 17 } : Room) [.ref a, .long t, .long lim] h0 n0 (RN fun h => ∃ r' : Addr, n0 ≤ r' ∧ Exa Z h a "com/example/throttld/throttld/SlidingLog$Log" ∧ Fld Z h a "com/example/throttld/throttld/SlidingLog$Log" "ring" "[J" (.ref r') ∧ Fld Z h a "com/example/throttld/throttld/SlidingLog$Log" "head" "I" (.int (3 : Int32)) ∧ Fld Z h a "com/example/throttld/throttld/SlidingLog$Log" "count" "I" (.int (1 : Int32)) ∧ Av Z h r' .long [.long v0, .long v1, .long v2, .long t]) := by
  refine sat_of (own := "com/example/throttld/throttld/SlidingLog$Log") (nm := "add") rfl rfl (plainFor_of_name pn_1) #[.val (.ref a), .val (.long t), .second, .val (.long lim), .second, .unset, .unset] (fun m => by first | (simp [entryFrame, mkF, argsToLocals, Value.category, maxLocals]; done) | rfl) ?_
  intro p e s m below meth c C
  refine go_aloadN C d7_0 (pc' := 1) rfl rfl rfl ?_
  refine go_getfield C (wd hw 32 rfl) F3 d7_1 (pc' := 4) rfl ?_
  refine go_aloadN C d7_4 (pc' := 5) rfl rfl rfl ?_
  refine go_getfield C (wd hw 25 rfl) F1 d7_5 (pc' := 8) rfl ?_
  refine go_arraylength C A1 (4 : Int32) rfl d7_8 (pc' := 9) rfl ?_
  refine go_icmp C (0 : Int) (4 : Int) (by decide) (by decide) d7_9 (by decide) (pc' := 76) (by decide) (pcN := 12) rfl (fun (c_1 : ¬ (0 : Int) = (4 : Int)) => ?_) (fun (c_1 : (0 : Int) = (4 : Int)) => by omega)
  refine go_aloadN C d7_76 (pc' := 77) rfl rfl rfl ?_
  refine go_getfield C (wd hw 25 rfl) F1 d7_77 (pc' := 80) rfl ?_
  refine go_aloadN C d7_80 (pc' := 81) rfl rfl rfl ?_
  refine go_aloadN C d7_81 (pc' := 82) rfl rfl rfl ?_
  refine go_getfield C (wd hw 32 rfl) F3 d7_82 (pc' := 85) rfl ?_
  refine go_privateP C (as := [.int (0 : Int32)]) (rest := [.ref r]) (W := 1) (.int (3 : Int32)) (sat_slot l Z a0 hw a r (4 : Int32) (3 : Int32) (0 : Int32) (3 : Int32) _ _ _ F1 F2 A1 rfl (by decide)) E1 (wd hw 40 rfl) (wd hw 42 rfl) (own_selects_private (wd hw 11 rfl) (wd hw 42 rfl) (wd hw 41 rfl) (by decide)) (wd hw 41 rfl) (wd hw 12 rfl) (wd hw 43 rfl) (by decide) pd_5 rfl rfl rfl (by decide) (by decide) rfl rfl (by decide) (by decide) d7_85 (pc' := 88) rfl rfl ?_
  refine go_lloadN C d7_88 (pc' := 89) rfl rfl ?_
  refine go_lastore C A1 3 (by decide) (show 3 < 4 from by decide) gr d7_89 (pc' := 90) rfl ?_
  intro h_2 W_3 A_4
  have F_6 := Fld.other W_3 F1 (Or.inl (own_ne_arr E1 (wd hw 11 rfl) A1))
  have F_7 := Fld.other W_3 F2 (Or.inl (own_ne_arr E1 (wd hw 11 rfl) A1))
  have F_8 := Fld.other W_3 F3 (Or.inl (own_ne_arr E1 (wd hw 11 rfl) A1))
  have E_9 := Exa.wr W_3 E1
  have A_10 : Av Z h_2 r .long [.long v0, .long v1, .long v2, .long t] := A_4
  refine go_aloadN C d7_90 (pc' := 91) rfl rfl rfl ?_
  refine go_dup C d7_91 (pc' := 92) rfl rfl ?_
  refine go_getfield C (wd hw 32 rfl) F_8 d7_92 (pc' := 95) rfl ?_
  refine go_iconst C (1 : Int32) d7_95 (pc' := 96) rfl (by decide) ?_
  refine go_iadd C d7_96 (pc' := 97) rfl ?_
  rw [(by decide : (0 : Int32) + (1 : Int32) = (1 : Int32))]
  refine go_putfield C (wd hw 32 rfl) F_8 E_9 (Or.inl (wd hw 33 rfl)) (wd hw 11 rfl) (ty := .int) (by decide) rfl rfl ga d7_97 (pc' := 100) rfl ?_
  intro h_11 W_12
  have F_13 := Fld.other W_12 F_6 (Or.inr (slot_ne (a0 := a0) (Or.inl (wd hw 26 rfl)) (Or.inl (wd hw 33 rfl)) (by decide) (t := (.array .long)) (t' := .int) (by decide) (by decide)))
  have F_14 := Fld.other W_12 F_7 (Or.inr (slot_ne (a0 := a0) (Or.inl (wd hw 45 rfl)) (Or.inl (wd hw 33 rfl)) (by decide) (t := .int) (t' := .int) (by decide) (by decide)))
  have F_15 := Fld.same W_12 F_8
  have E_16 := Exa.wr W_12 E_9
  have A_17 := Av.other A_10 W_12 (Ne.symm (own_ne_arr E_9 (wd hw 11 rfl) A_10))
  refine go_return C rfl d7_100 (by decide) (by decide) ?_
  exact ⟨rfl, _, gr, E_16, F_13, F_14, F_15, A_17⟩
set_option maxRecDepth 65536 in
set_option maxHeartbeats 40000000 in
theorem sat_drop_4_0_0 (l : Launch) (Z : State) (a0 : Array Value) (hw : ∀ d ∈ tables_1, d.before a0 Z = true) (a r : Addr) (v0 v1 v2 v3 : Int64) (ta win : Int64) (h0 : Heap) (n0 : Nat) (E1 : Exa Z h0 a "com/example/throttld/throttld/SlidingLog$Log") (F1 : Fld Z h0 a "com/example/throttld/throttld/SlidingLog$Log" "ring" "[J" (.ref r)) (F2 : Fld Z h0 a "com/example/throttld/throttld/SlidingLog$Log" "head" "I" (.int (0 : Int32))) (F3 : Fld Z h0 a "com/example/throttld/throttld/SlidingLog$Log" "count" "I" (.int (0 : Int32))) (A1 : Av Z h0 r .long [.long v0, .long v1, .long v2, .long v3]) (ga : n0 ≤ a) (gr : n0 ≤ r) :
    Sat l Z (⟨"com/example/throttld/throttld/SlidingLog$Log", "dropAgedOut", "(JJ)V"⟩ : MethodName) prog_33_method_5_code 5 none ({ frames := 1, cells := 0, slots := 0, locals := 15 } : Room) [.ref a, .long ta, .long win] h0 n0 (RN fun h => ((True) ∧ Exa Z h a "com/example/throttld/throttld/SlidingLog$Log" ∧ Fld Z h a "com/example/throttld/throttld/SlidingLog$Log" "ring" "[J" (.ref r) ∧ Fld Z h a "com/example/throttld/throttld/SlidingLog$Log" "head" "I" (.int (0 : Int32)) ∧ Fld Z h a "com/example/throttld/throttld/SlidingLog$Log" "count" "I" (.int (0 : Int32)) ∧ Av Z h r .long [.long v0, .long v1, .long v2, .long v3])) := by
  refine sat_of (own := "com/example/throttld/throttld/SlidingLog$Log") (nm := "dropAgedOut") rfl rfl (plainFor_of_name pn_1) #[.val (.ref a), .val (.long ta), .second, .val (.long win), .second] (fun m => by first | (simp [entryFrame, mkF, argsToLocals, Value.category, maxLocals]; done) | rfl) ?_
  intro p e s m below meth c C
  refine go_aloadN C d6_0 (pc' := 1) rfl rfl rfl ?_
  refine go_getfield C (wd hw 32 rfl) F3 d6_1 (pc' := 4) rfl ?_
  refine go_if0 C (0 : Int) (by decide) d6_4 (by decide) (pc' := 45) (by decide) (pcN := 7) rfl (fun (c_1 : ¬ 0 < (0 : Int)) => ?_) (fun (c_1 : 0 < (0 : Int)) => by omega)
  refine go_return C rfl d6_45 (by decide) (by decide) ?_
  exact ⟨rfl, ⟨trivial, E1, F1, F2, F3, A1⟩⟩
set_option maxRecDepth 65536 in
set_option maxHeartbeats 40000000 in
theorem sat_drop_4_0_1 (l : Launch) (Z : State) (a0 : Array Value) (hw : ∀ d ∈ tables_1, d.before a0 Z = true) (a r : Addr) (v0 v1 v2 v3 : Int64) (ta win : Int64) (h0 : Heap) (n0 : Nat) (E1 : Exa Z h0 a "com/example/throttld/throttld/SlidingLog$Log") (F1 : Fld Z h0 a "com/example/throttld/throttld/SlidingLog$Log" "ring" "[J" (.ref r)) (F2 : Fld Z h0 a "com/example/throttld/throttld/SlidingLog$Log" "head" "I" (.int (0 : Int32))) (F3 : Fld Z h0 a "com/example/throttld/throttld/SlidingLog$Log" "count" "I" (.int (1 : Int32))) (A1 : Av Z h0 r .long [.long v0, .long v1, .long v2, .long v3]) (ga : n0 ≤ a) (gr : n0 ≤ r) :
    Sat l Z (⟨"com/example/throttld/throttld/SlidingLog$Log", "dropAgedOut", "(JJ)V"⟩ : MethodName) prog_33_method_5_code 5 none ({ frames := 1, cells := 0, slots := 0, locals := 15 } : Room) [.ref a, .long ta, .long win] h0 n0 (RN fun h => (((ta - v0).toInt < win.toInt) ∧ Exa Z h a "com/example/throttld/throttld/SlidingLog$Log" ∧ Fld Z h a "com/example/throttld/throttld/SlidingLog$Log" "ring" "[J" (.ref r) ∧ Fld Z h a "com/example/throttld/throttld/SlidingLog$Log" "head" "I" (.int (0 : Int32)) ∧ Fld Z h a "com/example/throttld/throttld/SlidingLog$Log" "count" "I" (.int (1 : Int32)) ∧ Av Z h r .long [.long v0, .long v1, .long v2, .long v3]) ∨ ((¬ (ta - v0).toInt < win.toInt) ∧ Exa Z h a "com/example/throttld/throttld/SlidingLog$Log" ∧ Fld Z h a "com/example/throttld/throttld/SlidingLog$Log" "ring" "[J" (.ref r) ∧ Fld Z h a "com/example/throttld/throttld/SlidingLog$Log" "head" "I" (.int (1 : Int32)) ∧ Fld Z h a "com/example/throttld/throttld/SlidingLog$Log" "count" "I" (.int (0 : Int32)) ∧ Av Z h r .long [.long v0, .long v1, .long v2, .long v3])) := by
  refine sat_of (own := "com/example/throttld/throttld/SlidingLog$Log") (nm := "dropAgedOut") rfl rfl (plainFor_of_name pn_1) #[.val (.ref a), .val (.long ta), .second, .val (.long win), .second] (fun m => by first | (simp [entryFrame, mkF, argsToLocals, Value.category, maxLocals]; done) | rfl) ?_
  intro p e s m below meth c C
  refine go_aloadN C d6_0 (pc' := 1) rfl rfl rfl ?_
  refine go_getfield C (wd hw 32 rfl) F3 d6_1 (pc' := 4) rfl ?_
  refine go_if0 C (1 : Int) (by decide) d6_4 (by decide) (pc' := 45) (by decide) (pcN := 7) rfl (fun (c_1 : ¬ 0 < (1 : Int)) => by omega) (fun (c_1 : 0 < (1 : Int)) => ?_)
  refine go_lloadN C d6_7 (pc' := 8) rfl rfl ?_
  refine go_aloadN C d6_8 (pc' := 9) rfl rfl rfl ?_
  refine go_getfield C (wd hw 25 rfl) F1 d6_9 (pc' := 12) rfl ?_
  refine go_aloadN C d6_12 (pc' := 13) rfl rfl rfl ?_
  refine go_getfield C (wd hw 44 rfl) F2 d6_13 (pc' := 16) rfl ?_
  refine go_laload C A1 0 (.long v0) (by decide) rfl d6_16 (pc' := 17) rfl ?_
  refine go_lsub C d6_17 (pc' := 18) rfl ?_
  refine go_lloadN C d6_18 (pc' := 19) rfl rfl ?_
  refine go_lcmp C ((ta - v0).toInt) win.toInt rfl rfl d6_19 (pc1 := 20) rfl d6_20 (by decide) (pc' := 45) (by decide) (pcN := 23) rfl (fun (c_2 : ((ta - v0).toInt) < win.toInt) => ?_) (fun (c_2 : ¬ ((ta - v0).toInt) < win.toInt) => ?_)
  · skip
    refine go_return C rfl d6_45 (by decide) (by decide) ?_
    exact ⟨rfl, Or.inl ⟨c_2, E1, F1, F2, F3, A1⟩⟩
  · skip
    refine go_aloadN C d6_23 (pc' := 24) rfl rfl rfl ?_
    refine go_aloadN C d6_24 (pc' := 25) rfl rfl rfl ?_
    refine go_iconst C (1 : Int32) d6_25 (pc' := 26) rfl (by decide) ?_
    refine go_privateP C (as := [.int (1 : Int32)]) (rest := [.ref a]) (W := 1) (.int (1 : Int32)) (sat_slot l Z a0 hw a r (4 : Int32) (0 : Int32) (1 : Int32) (1 : Int32) _ _ _ F1 F2 A1 rfl (by decide)) E1 (wd hw 40 rfl) (wd hw 42 rfl) (own_selects_private (wd hw 11 rfl) (wd hw 42 rfl) (wd hw 41 rfl) (by decide)) (wd hw 41 rfl) (wd hw 12 rfl) (wd hw 43 rfl) (by decide) pd_5 rfl rfl rfl (by decide) (by decide) rfl rfl (by decide) (by decide) d6_26 (pc' := 29) rfl rfl ?_
    refine go_putfield C (wd hw 44 rfl) F2 E1 (Or.inl (wd hw 45 rfl)) (wd hw 11 rfl) (ty := .int) (by decide) rfl rfl ga d6_29 (pc' := 32) rfl ?_
    intro h_3 W_4
    have F_5 := Fld.other W_4 F1 (Or.inr (slot_ne (a0 := a0) (Or.inl (wd hw 26 rfl)) (Or.inl (wd hw 45 rfl)) (by decide) (t := (.array .long)) (t' := .int) (by decide) (by decide)))
    have F_6 := Fld.same W_4 F2
    have F_7 := Fld.other W_4 F3 (Or.inr (slot_ne (a0 := a0) (Or.inl (wd hw 33 rfl)) (Or.inl (wd hw 45 rfl)) (by decide) (t := .int) (t' := .int) (by decide) (by decide)))
    have E_8 := Exa.wr W_4 E1
    have A_9 := Av.other A1 W_4 (Ne.symm (own_ne_arr E1 (wd hw 11 rfl) A1))
    refine go_aloadN C d6_32 (pc' := 33) rfl rfl rfl ?_
    refine go_dup C d6_33 (pc' := 34) rfl rfl ?_
    refine go_getfield C (wd hw 32 rfl) F_7 d6_34 (pc' := 37) rfl ?_
    refine go_iconst C (1 : Int32) d6_37 (pc' := 38) rfl (by decide) ?_
    refine go_isub C d6_38 (pc' := 39) rfl ?_
    rw [(by decide : (1 : Int32) - (1 : Int32) = (0 : Int32))]
    refine go_putfield C (wd hw 32 rfl) F_7 E_8 (Or.inl (wd hw 33 rfl)) (wd hw 11 rfl) (ty := .int) (by decide) rfl rfl ga d6_39 (pc' := 42) rfl ?_
    intro h_10 W_11
    have F_12 := Fld.other W_11 F_5 (Or.inr (slot_ne (a0 := a0) (Or.inl (wd hw 26 rfl)) (Or.inl (wd hw 33 rfl)) (by decide) (t := (.array .long)) (t' := .int) (by decide) (by decide)))
    have F_13 := Fld.other W_11 F_6 (Or.inr (slot_ne (a0 := a0) (Or.inl (wd hw 45 rfl)) (Or.inl (wd hw 33 rfl)) (by decide) (t := .int) (t' := .int) (by decide) (by decide)))
    have F_14 := Fld.same W_11 F_7
    have E_15 := Exa.wr W_11 E_8
    have A_16 := Av.other A_9 W_11 (Ne.symm (own_ne_arr E_8 (wd hw 11 rfl) A_9))
    refine go_goto C d6_42 (by decide) (pc' := 0) (by decide) ?_
    refine go_aloadN C d6_0 (pc' := 1) rfl rfl rfl ?_
    refine go_getfield C (wd hw 32 rfl) F_14 d6_1 (pc' := 4) rfl ?_
    refine go_if0 C (0 : Int) (by decide) d6_4 (by decide) (pc' := 45) (by decide) (pcN := 7) rfl (fun (c_17 : ¬ 0 < (0 : Int)) => ?_) (fun (c_17 : 0 < (0 : Int)) => by omega)
    refine go_return C rfl d6_45 (by decide) (by decide) ?_
    exact ⟨rfl, Or.inr (⟨c_2, E_15, F_12, F_13, F_14, A_16⟩)⟩
set_option maxRecDepth 65536 in
set_option maxHeartbeats 40000000 in
theorem sat_drop_4_0_2 (l : Launch) (Z : State) (a0 : Array Value) (hw : ∀ d ∈ tables_1, d.before a0 Z = true) (a r : Addr) (v0 v1 v2 v3 : Int64) (ta win : Int64) (h0 : Heap) (n0 : Nat) (E1 : Exa Z h0 a "com/example/throttld/throttld/SlidingLog$Log") (F1 : Fld Z h0 a "com/example/throttld/throttld/SlidingLog$Log" "ring" "[J" (.ref r)) (F2 : Fld Z h0 a "com/example/throttld/throttld/SlidingLog$Log" "head" "I" (.int (0 : Int32))) (F3 : Fld Z h0 a "com/example/throttld/throttld/SlidingLog$Log" "count" "I" (.int (2 : Int32))) (A1 : Av Z h0 r .long [.long v0, .long v1, .long v2, .long v3]) (ga : n0 ≤ a) (gr : n0 ≤ r) :
    Sat l Z (⟨"com/example/throttld/throttld/SlidingLog$Log", "dropAgedOut", "(JJ)V"⟩ : MethodName) prog_33_method_5_code 5 none ({ frames := 1, cells := 0, slots := 0, locals := 15 } : Room) [.ref a, .long ta, .long win] h0 n0 (RN fun h => (((ta - v0).toInt < win.toInt) ∧ Exa Z h a "com/example/throttld/throttld/SlidingLog$Log" ∧ Fld Z h a "com/example/throttld/throttld/SlidingLog$Log" "ring" "[J" (.ref r) ∧ Fld Z h a "com/example/throttld/throttld/SlidingLog$Log" "head" "I" (.int (0 : Int32)) ∧ Fld Z h a "com/example/throttld/throttld/SlidingLog$Log" "count" "I" (.int (2 : Int32)) ∧ Av Z h r .long [.long v0, .long v1, .long v2, .long v3]) ∨ ((¬ (ta - v0).toInt < win.toInt ∧ (ta - v1).toInt < win.toInt) ∧ Exa Z h a "com/example/throttld/throttld/SlidingLog$Log" ∧ Fld Z h a "com/example/throttld/throttld/SlidingLog$Log" "ring" "[J" (.ref r) ∧ Fld Z h a "com/example/throttld/throttld/SlidingLog$Log" "head" "I" (.int (1 : Int32)) ∧ Fld Z h a "com/example/throttld/throttld/SlidingLog$Log" "count" "I" (.int (1 : Int32)) ∧ Av Z h r .long [.long v0, .long v1, .long v2, .long v3]) ∨ ((¬ (ta - v0).toInt < win.toInt ∧ ¬ (ta - v1).toInt < win.toInt) ∧ Exa Z h a "com/example/throttld/throttld/SlidingLog$Log" ∧ Fld Z h a "com/example/throttld/throttld/SlidingLog$Log" "ring" "[J" (.ref r) ∧ Fld Z h a "com/example/throttld/throttld/SlidingLog$Log" "head" "I" (.int (2 : Int32)) ∧ Fld Z h a "com/example/throttld/throttld/SlidingLog$Log" "count" "I" (.int (0 : Int32)) ∧ Av Z h r .long [.long v0, .long v1, .long v2, .long v3])) := by
  refine sat_of (own := "com/example/throttld/throttld/SlidingLog$Log") (nm := "dropAgedOut") rfl rfl (plainFor_of_name pn_1) #[.val (.ref a), .val (.long ta), .second, .val (.long win), .second] (fun m => by first | (simp [entryFrame, mkF, argsToLocals, Value.category, maxLocals]; done) | rfl) ?_
  intro p e s m below meth c C
  refine go_aloadN C d6_0 (pc' := 1) rfl rfl rfl ?_
  refine go_getfield C (wd hw 32 rfl) F3 d6_1 (pc' := 4) rfl ?_
  refine go_if0 C (2 : Int) (by decide) d6_4 (by decide) (pc' := 45) (by decide) (pcN := 7) rfl (fun (c_1 : ¬ 0 < (2 : Int)) => by omega) (fun (c_1 : 0 < (2 : Int)) => ?_)
  refine go_lloadN C d6_7 (pc' := 8) rfl rfl ?_
  refine go_aloadN C d6_8 (pc' := 9) rfl rfl rfl ?_
  refine go_getfield C (wd hw 25 rfl) F1 d6_9 (pc' := 12) rfl ?_
  refine go_aloadN C d6_12 (pc' := 13) rfl rfl rfl ?_
  refine go_getfield C (wd hw 44 rfl) F2 d6_13 (pc' := 16) rfl ?_
  refine go_laload C A1 0 (.long v0) (by decide) rfl d6_16 (pc' := 17) rfl ?_
  refine go_lsub C d6_17 (pc' := 18) rfl ?_
  refine go_lloadN C d6_18 (pc' := 19) rfl rfl ?_
  refine go_lcmp C ((ta - v0).toInt) win.toInt rfl rfl d6_19 (pc1 := 20) rfl d6_20 (by decide) (pc' := 45) (by decide) (pcN := 23) rfl (fun (c_2 : ((ta - v0).toInt) < win.toInt) => ?_) (fun (c_2 : ¬ ((ta - v0).toInt) < win.toInt) => ?_)
  · skip
    refine go_return C rfl d6_45 (by decide) (by decide) ?_
    exact ⟨rfl, Or.inl ⟨c_2, E1, F1, F2, F3, A1⟩⟩
  · skip
    refine go_aloadN C d6_23 (pc' := 24) rfl rfl rfl ?_
    refine go_aloadN C d6_24 (pc' := 25) rfl rfl rfl ?_
    refine go_iconst C (1 : Int32) d6_25 (pc' := 26) rfl (by decide) ?_
    refine go_privateP C (as := [.int (1 : Int32)]) (rest := [.ref a]) (W := 1) (.int (1 : Int32)) (sat_slot l Z a0 hw a r (4 : Int32) (0 : Int32) (1 : Int32) (1 : Int32) _ _ _ F1 F2 A1 rfl (by decide)) E1 (wd hw 40 rfl) (wd hw 42 rfl) (own_selects_private (wd hw 11 rfl) (wd hw 42 rfl) (wd hw 41 rfl) (by decide)) (wd hw 41 rfl) (wd hw 12 rfl) (wd hw 43 rfl) (by decide) pd_5 rfl rfl rfl (by decide) (by decide) rfl rfl (by decide) (by decide) d6_26 (pc' := 29) rfl rfl ?_
    refine go_putfield C (wd hw 44 rfl) F2 E1 (Or.inl (wd hw 45 rfl)) (wd hw 11 rfl) (ty := .int) (by decide) rfl rfl ga d6_29 (pc' := 32) rfl ?_
    intro h_3 W_4
    have F_5 := Fld.other W_4 F1 (Or.inr (slot_ne (a0 := a0) (Or.inl (wd hw 26 rfl)) (Or.inl (wd hw 45 rfl)) (by decide) (t := (.array .long)) (t' := .int) (by decide) (by decide)))
    have F_6 := Fld.same W_4 F2
    have F_7 := Fld.other W_4 F3 (Or.inr (slot_ne (a0 := a0) (Or.inl (wd hw 33 rfl)) (Or.inl (wd hw 45 rfl)) (by decide) (t := .int) (t' := .int) (by decide) (by decide)))
    have E_8 := Exa.wr W_4 E1
    have A_9 := Av.other A1 W_4 (Ne.symm (own_ne_arr E1 (wd hw 11 rfl) A1))
    refine go_aloadN C d6_32 (pc' := 33) rfl rfl rfl ?_
    refine go_dup C d6_33 (pc' := 34) rfl rfl ?_
    refine go_getfield C (wd hw 32 rfl) F_7 d6_34 (pc' := 37) rfl ?_
    refine go_iconst C (1 : Int32) d6_37 (pc' := 38) rfl (by decide) ?_
    refine go_isub C d6_38 (pc' := 39) rfl ?_
    rw [(by decide : (2 : Int32) - (1 : Int32) = (1 : Int32))]
    refine go_putfield C (wd hw 32 rfl) F_7 E_8 (Or.inl (wd hw 33 rfl)) (wd hw 11 rfl) (ty := .int) (by decide) rfl rfl ga d6_39 (pc' := 42) rfl ?_
    intro h_10 W_11
    have F_12 := Fld.other W_11 F_5 (Or.inr (slot_ne (a0 := a0) (Or.inl (wd hw 26 rfl)) (Or.inl (wd hw 33 rfl)) (by decide) (t := (.array .long)) (t' := .int) (by decide) (by decide)))
    have F_13 := Fld.other W_11 F_6 (Or.inr (slot_ne (a0 := a0) (Or.inl (wd hw 45 rfl)) (Or.inl (wd hw 33 rfl)) (by decide) (t := .int) (t' := .int) (by decide) (by decide)))
    have F_14 := Fld.same W_11 F_7
    have E_15 := Exa.wr W_11 E_8
    have A_16 := Av.other A_9 W_11 (Ne.symm (own_ne_arr E_8 (wd hw 11 rfl) A_9))
    refine go_goto C d6_42 (by decide) (pc' := 0) (by decide) ?_
    refine go_aloadN C d6_0 (pc' := 1) rfl rfl rfl ?_
    refine go_getfield C (wd hw 32 rfl) F_14 d6_1 (pc' := 4) rfl ?_
    refine go_if0 C (1 : Int) (by decide) d6_4 (by decide) (pc' := 45) (by decide) (pcN := 7) rfl (fun (c_17 : ¬ 0 < (1 : Int)) => by omega) (fun (c_17 : 0 < (1 : Int)) => ?_)
    refine go_lloadN C d6_7 (pc' := 8) rfl rfl ?_
    refine go_aloadN C d6_8 (pc' := 9) rfl rfl rfl ?_
    refine go_getfield C (wd hw 25 rfl) F_12 d6_9 (pc' := 12) rfl ?_
    refine go_aloadN C d6_12 (pc' := 13) rfl rfl rfl ?_
    refine go_getfield C (wd hw 44 rfl) F_13 d6_13 (pc' := 16) rfl ?_
    refine go_laload C A_16 1 (.long v1) (by decide) rfl d6_16 (pc' := 17) rfl ?_
    refine go_lsub C d6_17 (pc' := 18) rfl ?_
    refine go_lloadN C d6_18 (pc' := 19) rfl rfl ?_
    refine go_lcmp C ((ta - v1).toInt) win.toInt rfl rfl d6_19 (pc1 := 20) rfl d6_20 (by decide) (pc' := 45) (by decide) (pcN := 23) rfl (fun (c_18 : ((ta - v1).toInt) < win.toInt) => ?_) (fun (c_18 : ¬ ((ta - v1).toInt) < win.toInt) => ?_)
    · skip
      refine go_return C rfl d6_45 (by decide) (by decide) ?_
      exact ⟨rfl, Or.inr (Or.inl ⟨⟨c_2, c_18⟩, E_15, F_12, F_13, F_14, A_16⟩)⟩
    · skip
      refine go_aloadN C d6_23 (pc' := 24) rfl rfl rfl ?_
      refine go_aloadN C d6_24 (pc' := 25) rfl rfl rfl ?_
      refine go_iconst C (1 : Int32) d6_25 (pc' := 26) rfl (by decide) ?_
      refine go_privateP C (as := [.int (1 : Int32)]) (rest := [.ref a]) (W := 1) (.int (2 : Int32)) (sat_slot l Z a0 hw a r (4 : Int32) (1 : Int32) (1 : Int32) (2 : Int32) _ _ _ F_12 F_13 A_16 rfl (by decide)) E_15 (wd hw 40 rfl) (wd hw 42 rfl) (own_selects_private (wd hw 11 rfl) (wd hw 42 rfl) (wd hw 41 rfl) (by decide)) (wd hw 41 rfl) (wd hw 12 rfl) (wd hw 43 rfl) (by decide) pd_5 rfl rfl rfl (by decide) (by decide) rfl rfl (by decide) (by decide) d6_26 (pc' := 29) rfl rfl ?_
      refine go_putfield C (wd hw 44 rfl) F_13 E_15 (Or.inl (wd hw 45 rfl)) (wd hw 11 rfl) (ty := .int) (by decide) rfl rfl ga d6_29 (pc' := 32) rfl ?_
      intro h_19 W_20
      have F_21 := Fld.other W_20 F_12 (Or.inr (slot_ne (a0 := a0) (Or.inl (wd hw 26 rfl)) (Or.inl (wd hw 45 rfl)) (by decide) (t := (.array .long)) (t' := .int) (by decide) (by decide)))
      have F_22 := Fld.same W_20 F_13
      have F_23 := Fld.other W_20 F_14 (Or.inr (slot_ne (a0 := a0) (Or.inl (wd hw 33 rfl)) (Or.inl (wd hw 45 rfl)) (by decide) (t := .int) (t' := .int) (by decide) (by decide)))
      have E_24 := Exa.wr W_20 E_15
      have A_25 := Av.other A_16 W_20 (Ne.symm (own_ne_arr E_15 (wd hw 11 rfl) A_16))
      refine go_aloadN C d6_32 (pc' := 33) rfl rfl rfl ?_
      refine go_dup C d6_33 (pc' := 34) rfl rfl ?_
      refine go_getfield C (wd hw 32 rfl) F_23 d6_34 (pc' := 37) rfl ?_
      refine go_iconst C (1 : Int32) d6_37 (pc' := 38) rfl (by decide) ?_
      refine go_isub C d6_38 (pc' := 39) rfl ?_
      rw [(by decide : (1 : Int32) - (1 : Int32) = (0 : Int32))]
      refine go_putfield C (wd hw 32 rfl) F_23 E_24 (Or.inl (wd hw 33 rfl)) (wd hw 11 rfl) (ty := .int) (by decide) rfl rfl ga d6_39 (pc' := 42) rfl ?_
      intro h_26 W_27
      have F_28 := Fld.other W_27 F_21 (Or.inr (slot_ne (a0 := a0) (Or.inl (wd hw 26 rfl)) (Or.inl (wd hw 33 rfl)) (by decide) (t := (.array .long)) (t' := .int) (by decide) (by decide)))
      have F_29 := Fld.other W_27 F_22 (Or.inr (slot_ne (a0 := a0) (Or.inl (wd hw 45 rfl)) (Or.inl (wd hw 33 rfl)) (by decide) (t := .int) (t' := .int) (by decide) (by decide)))
      have F_30 := Fld.same W_27 F_23
      have E_31 := Exa.wr W_27 E_24
      have A_32 := Av.other A_25 W_27 (Ne.symm (own_ne_arr E_24 (wd hw 11 rfl) A_25))
      refine go_goto C d6_42 (by decide) (pc' := 0) (by decide) ?_
      refine go_aloadN C d6_0 (pc' := 1) rfl rfl rfl ?_
      refine go_getfield C (wd hw 32 rfl) F_30 d6_1 (pc' := 4) rfl ?_
      refine go_if0 C (0 : Int) (by decide) d6_4 (by decide) (pc' := 45) (by decide) (pcN := 7) rfl (fun (c_33 : ¬ 0 < (0 : Int)) => ?_) (fun (c_33 : 0 < (0 : Int)) => by omega)
      refine go_return C rfl d6_45 (by decide) (by decide) ?_
      exact ⟨rfl, Or.inr (Or.inr (⟨⟨c_2, c_18⟩, E_31, F_28, F_29, F_30, A_32⟩))⟩
set_option maxRecDepth 65536 in
set_option maxHeartbeats 40000000 in
theorem sat_drop_4_0_3 (l : Launch) (Z : State) (a0 : Array Value) (hw : ∀ d ∈ tables_1, d.before a0 Z = true) (a r : Addr) (v0 v1 v2 v3 : Int64) (ta win : Int64) (h0 : Heap) (n0 : Nat) (E1 : Exa Z h0 a "com/example/throttld/throttld/SlidingLog$Log") (F1 : Fld Z h0 a "com/example/throttld/throttld/SlidingLog$Log" "ring" "[J" (.ref r)) (F2 : Fld Z h0 a "com/example/throttld/throttld/SlidingLog$Log" "head" "I" (.int (0 : Int32))) (F3 : Fld Z h0 a "com/example/throttld/throttld/SlidingLog$Log" "count" "I" (.int (3 : Int32))) (A1 : Av Z h0 r .long [.long v0, .long v1, .long v2, .long v3]) (ga : n0 ≤ a) (gr : n0 ≤ r) :
    Sat l Z (⟨"com/example/throttld/throttld/SlidingLog$Log", "dropAgedOut", "(JJ)V"⟩ : MethodName) prog_33_method_5_code 5 none ({ frames := 1, cells := 0, slots := 0, locals := 15 } : Room) [.ref a, .long ta, .long win] h0 n0 (RN fun h => (((ta - v0).toInt < win.toInt) ∧ Exa Z h a "com/example/throttld/throttld/SlidingLog$Log" ∧ Fld Z h a "com/example/throttld/throttld/SlidingLog$Log" "ring" "[J" (.ref r) ∧ Fld Z h a "com/example/throttld/throttld/SlidingLog$Log" "head" "I" (.int (0 : Int32)) ∧ Fld Z h a "com/example/throttld/throttld/SlidingLog$Log" "count" "I" (.int (3 : Int32)) ∧ Av Z h r .long [.long v0, .long v1, .long v2, .long v3]) ∨ ((¬ (ta - v0).toInt < win.toInt ∧ (ta - v1).toInt < win.toInt) ∧ Exa Z h a "com/example/throttld/throttld/SlidingLog$Log" ∧ Fld Z h a "com/example/throttld/throttld/SlidingLog$Log" "ring" "[J" (.ref r) ∧ Fld Z h a "com/example/throttld/throttld/SlidingLog$Log" "head" "I" (.int (1 : Int32)) ∧ Fld Z h a "com/example/throttld/throttld/SlidingLog$Log" "count" "I" (.int (2 : Int32)) ∧ Av Z h r .long [.long v0, .long v1, .long v2, .long v3]) ∨ ((¬ (ta - v0).toInt < win.toInt ∧ ¬ (ta - v1).toInt < win.toInt ∧ (ta - v2).toInt < win.toInt) ∧ Exa Z h a "com/example/throttld/throttld/SlidingLog$Log" ∧ Fld Z h a "com/example/throttld/throttld/SlidingLog$Log" "ring" "[J" (.ref r) ∧ Fld Z h a "com/example/throttld/throttld/SlidingLog$Log" "head" "I" (.int (2 : Int32)) ∧ Fld Z h a "com/example/throttld/throttld/SlidingLog$Log" "count" "I" (.int (1 : Int32)) ∧ Av Z h r .long [.long v0, .long v1, .long v2, .long v3]) ∨ ((¬ (ta - v0).toInt < win.toInt ∧ ¬ (ta - v1).toInt < win.toInt ∧ ¬ (ta - v2).toInt < win.toInt) ∧ Exa Z h a "com/example/throttld/throttld/SlidingLog$Log" ∧ Fld Z h a "com/example/throttld/throttld/SlidingLog$Log" "ring" "[J" (.ref r) ∧ Fld Z h a "com/example/throttld/throttld/SlidingLog$Log" "head" "I" (.int (3 : Int32)) ∧ Fld Z h a "com/example/throttld/throttld/SlidingLog$Log" "count" "I" (.int (0 : Int32)) ∧ Av Z h r .long [.long v0, .long v1, .long v2, .long v3])) := by
  refine sat_of (own := "com/example/throttld/throttld/SlidingLog$Log") (nm := "dropAgedOut") rfl rfl (plainFor_of_name pn_1) #[.val (.ref a), .val (.long ta), .second, .val (.long win), .second] (fun m => by first | (simp [entryFrame, mkF, argsToLocals, Value.category, maxLocals]; done) | rfl) ?_
  intro p e s m below meth c C
  refine go_aloadN C d6_0 (pc' := 1) rfl rfl rfl ?_
  refine go_getfield C (wd hw 32 rfl) F3 d6_1 (pc' := 4) rfl ?_
  refine go_if0 C (3 : Int) (by decide) d6_4 (by decide) (pc' := 45) (by decide) (pcN := 7) rfl (fun (c_1 : ¬ 0 < (3 : Int)) => by omega) (fun (c_1 : 0 < (3 : Int)) => ?_)
  refine go_lloadN C d6_7 (pc' := 8) rfl rfl ?_
  refine go_aloadN C d6_8 (pc' := 9) rfl rfl rfl ?_
  refine go_getfield C (wd hw 25 rfl) F1 d6_9 (pc' := 12) rfl ?_
  refine go_aloadN C d6_12 (pc' := 13) rfl rfl rfl ?_
  refine go_getfield C (wd hw 44 rfl) F2 d6_13 (pc' := 16) rfl ?_
  refine go_laload C A1 0 (.long v0) (by decide) rfl d6_16 (pc' := 17) rfl ?_
  refine go_lsub C d6_17 (pc' := 18) rfl ?_
  refine go_lloadN C d6_18 (pc' := 19) rfl rfl ?_
  refine go_lcmp C ((ta - v0).toInt) win.toInt rfl rfl d6_19 (pc1 := 20) rfl d6_20 (by decide) (pc' := 45) (by decide) (pcN := 23) rfl (fun (c_2 : ((ta - v0).toInt) < win.toInt) => ?_) (fun (c_2 : ¬ ((ta - v0).toInt) < win.toInt) => ?_)
  · skip
    refine go_return C rfl d6_45 (by decide) (by decide) ?_
    exact ⟨rfl, Or.inl ⟨c_2, E1, F1, F2, F3, A1⟩⟩
  · skip
    refine go_aloadN C d6_23 (pc' := 24) rfl rfl rfl ?_
    refine go_aloadN C d6_24 (pc' := 25) rfl rfl rfl ?_
    refine go_iconst C (1 : Int32) d6_25 (pc' := 26) rfl (by decide) ?_
    refine go_privateP C (as := [.int (1 : Int32)]) (rest := [.ref a]) (W := 1) (.int (1 : Int32)) (sat_slot l Z a0 hw a r (4 : Int32) (0 : Int32) (1 : Int32) (1 : Int32) _ _ _ F1 F2 A1 rfl (by decide)) E1 (wd hw 40 rfl) (wd hw 42 rfl) (own_selects_private (wd hw 11 rfl) (wd hw 42 rfl) (wd hw 41 rfl) (by decide)) (wd hw 41 rfl) (wd hw 12 rfl) (wd hw 43 rfl) (by decide) pd_5 rfl rfl rfl (by decide) (by decide) rfl rfl (by decide) (by decide) d6_26 (pc' := 29) rfl rfl ?_
    refine go_putfield C (wd hw 44 rfl) F2 E1 (Or.inl (wd hw 45 rfl)) (wd hw 11 rfl) (ty := .int) (by decide) rfl rfl ga d6_29 (pc' := 32) rfl ?_
    intro h_3 W_4
    have F_5 := Fld.other W_4 F1 (Or.inr (slot_ne (a0 := a0) (Or.inl (wd hw 26 rfl)) (Or.inl (wd hw 45 rfl)) (by decide) (t := (.array .long)) (t' := .int) (by decide) (by decide)))
    have F_6 := Fld.same W_4 F2
    have F_7 := Fld.other W_4 F3 (Or.inr (slot_ne (a0 := a0) (Or.inl (wd hw 33 rfl)) (Or.inl (wd hw 45 rfl)) (by decide) (t := .int) (t' := .int) (by decide) (by decide)))
    have E_8 := Exa.wr W_4 E1
    have A_9 := Av.other A1 W_4 (Ne.symm (own_ne_arr E1 (wd hw 11 rfl) A1))
    refine go_aloadN C d6_32 (pc' := 33) rfl rfl rfl ?_
    refine go_dup C d6_33 (pc' := 34) rfl rfl ?_
    refine go_getfield C (wd hw 32 rfl) F_7 d6_34 (pc' := 37) rfl ?_
    refine go_iconst C (1 : Int32) d6_37 (pc' := 38) rfl (by decide) ?_
    refine go_isub C d6_38 (pc' := 39) rfl ?_
    rw [(by decide : (3 : Int32) - (1 : Int32) = (2 : Int32))]
    refine go_putfield C (wd hw 32 rfl) F_7 E_8 (Or.inl (wd hw 33 rfl)) (wd hw 11 rfl) (ty := .int) (by decide) rfl rfl ga d6_39 (pc' := 42) rfl ?_
    intro h_10 W_11
    have F_12 := Fld.other W_11 F_5 (Or.inr (slot_ne (a0 := a0) (Or.inl (wd hw 26 rfl)) (Or.inl (wd hw 33 rfl)) (by decide) (t := (.array .long)) (t' := .int) (by decide) (by decide)))
    have F_13 := Fld.other W_11 F_6 (Or.inr (slot_ne (a0 := a0) (Or.inl (wd hw 45 rfl)) (Or.inl (wd hw 33 rfl)) (by decide) (t := .int) (t' := .int) (by decide) (by decide)))
    have F_14 := Fld.same W_11 F_7
    have E_15 := Exa.wr W_11 E_8
    have A_16 := Av.other A_9 W_11 (Ne.symm (own_ne_arr E_8 (wd hw 11 rfl) A_9))
    refine go_goto C d6_42 (by decide) (pc' := 0) (by decide) ?_
    refine go_aloadN C d6_0 (pc' := 1) rfl rfl rfl ?_
    refine go_getfield C (wd hw 32 rfl) F_14 d6_1 (pc' := 4) rfl ?_
    refine go_if0 C (2 : Int) (by decide) d6_4 (by decide) (pc' := 45) (by decide) (pcN := 7) rfl (fun (c_17 : ¬ 0 < (2 : Int)) => by omega) (fun (c_17 : 0 < (2 : Int)) => ?_)
    refine go_lloadN C d6_7 (pc' := 8) rfl rfl ?_
    refine go_aloadN C d6_8 (pc' := 9) rfl rfl rfl ?_
    refine go_getfield C (wd hw 25 rfl) F_12 d6_9 (pc' := 12) rfl ?_
    refine go_aloadN C d6_12 (pc' := 13) rfl rfl rfl ?_
    refine go_getfield C (wd hw 44 rfl) F_13 d6_13 (pc' := 16) rfl ?_
    refine go_laload C A_16 1 (.long v1) (by decide) rfl d6_16 (pc' := 17) rfl ?_
    refine go_lsub C d6_17 (pc' := 18) rfl ?_
    refine go_lloadN C d6_18 (pc' := 19) rfl rfl ?_
    refine go_lcmp C ((ta - v1).toInt) win.toInt rfl rfl d6_19 (pc1 := 20) rfl d6_20 (by decide) (pc' := 45) (by decide) (pcN := 23) rfl (fun (c_18 : ((ta - v1).toInt) < win.toInt) => ?_) (fun (c_18 : ¬ ((ta - v1).toInt) < win.toInt) => ?_)
    · skip
      refine go_return C rfl d6_45 (by decide) (by decide) ?_
      exact ⟨rfl, Or.inr (Or.inl ⟨⟨c_2, c_18⟩, E_15, F_12, F_13, F_14, A_16⟩)⟩
    · skip
      refine go_aloadN C d6_23 (pc' := 24) rfl rfl rfl ?_
      refine go_aloadN C d6_24 (pc' := 25) rfl rfl rfl ?_
      refine go_iconst C (1 : Int32) d6_25 (pc' := 26) rfl (by decide) ?_
      refine go_privateP C (as := [.int (1 : Int32)]) (rest := [.ref a]) (W := 1) (.int (2 : Int32)) (sat_slot l Z a0 hw a r (4 : Int32) (1 : Int32) (1 : Int32) (2 : Int32) _ _ _ F_12 F_13 A_16 rfl (by decide)) E_15 (wd hw 40 rfl) (wd hw 42 rfl) (own_selects_private (wd hw 11 rfl) (wd hw 42 rfl) (wd hw 41 rfl) (by decide)) (wd hw 41 rfl) (wd hw 12 rfl) (wd hw 43 rfl) (by decide) pd_5 rfl rfl rfl (by decide) (by decide) rfl rfl (by decide) (by decide) d6_26 (pc' := 29) rfl rfl ?_
      refine go_putfield C (wd hw 44 rfl) F_13 E_15 (Or.inl (wd hw 45 rfl)) (wd hw 11 rfl) (ty := .int) (by decide) rfl rfl ga d6_29 (pc' := 32) rfl ?_
      intro h_19 W_20
      have F_21 := Fld.other W_20 F_12 (Or.inr (slot_ne (a0 := a0) (Or.inl (wd hw 26 rfl)) (Or.inl (wd hw 45 rfl)) (by decide) (t := (.array .long)) (t' := .int) (by decide) (by decide)))
      have F_22 := Fld.same W_20 F_13
      have F_23 := Fld.other W_20 F_14 (Or.inr (slot_ne (a0 := a0) (Or.inl (wd hw 33 rfl)) (Or.inl (wd hw 45 rfl)) (by decide) (t := .int) (t' := .int) (by decide) (by decide)))
      have E_24 := Exa.wr W_20 E_15
      have A_25 := Av.other A_16 W_20 (Ne.symm (own_ne_arr E_15 (wd hw 11 rfl) A_16))
      refine go_aloadN C d6_32 (pc' := 33) rfl rfl rfl ?_
      refine go_dup C d6_33 (pc' := 34) rfl rfl ?_
      refine go_getfield C (wd hw 32 rfl) F_23 d6_34 (pc' := 37) rfl ?_
      refine go_iconst C (1 : Int32) d6_37 (pc' := 38) rfl (by decide) ?_
      refine go_isub C d6_38 (pc' := 39) rfl ?_
      rw [(by decide : (2 : Int32) - (1 : Int32) = (1 : Int32))]
      refine go_putfield C (wd hw 32 rfl) F_23 E_24 (Or.inl (wd hw 33 rfl)) (wd hw 11 rfl) (ty := .int) (by decide) rfl rfl ga d6_39 (pc' := 42) rfl ?_
      intro h_26 W_27
      have F_28 := Fld.other W_27 F_21 (Or.inr (slot_ne (a0 := a0) (Or.inl (wd hw 26 rfl)) (Or.inl (wd hw 33 rfl)) (by decide) (t := (.array .long)) (t' := .int) (by decide) (by decide)))
      have F_29 := Fld.other W_27 F_22 (Or.inr (slot_ne (a0 := a0) (Or.inl (wd hw 45 rfl)) (Or.inl (wd hw 33 rfl)) (by decide) (t := .int) (t' := .int) (by decide) (by decide)))
      have F_30 := Fld.same W_27 F_23
      have E_31 := Exa.wr W_27 E_24
      have A_32 := Av.other A_25 W_27 (Ne.symm (own_ne_arr E_24 (wd hw 11 rfl) A_25))
      refine go_goto C d6_42 (by decide) (pc' := 0) (by decide) ?_
      refine go_aloadN C d6_0 (pc' := 1) rfl rfl rfl ?_
      refine go_getfield C (wd hw 32 rfl) F_30 d6_1 (pc' := 4) rfl ?_
      refine go_if0 C (1 : Int) (by decide) d6_4 (by decide) (pc' := 45) (by decide) (pcN := 7) rfl (fun (c_33 : ¬ 0 < (1 : Int)) => by omega) (fun (c_33 : 0 < (1 : Int)) => ?_)
      refine go_lloadN C d6_7 (pc' := 8) rfl rfl ?_
      refine go_aloadN C d6_8 (pc' := 9) rfl rfl rfl ?_
      refine go_getfield C (wd hw 25 rfl) F_28 d6_9 (pc' := 12) rfl ?_
      refine go_aloadN C d6_12 (pc' := 13) rfl rfl rfl ?_
      refine go_getfield C (wd hw 44 rfl) F_29 d6_13 (pc' := 16) rfl ?_
      refine go_laload C A_32 2 (.long v2) (by decide) rfl d6_16 (pc' := 17) rfl ?_
      refine go_lsub C d6_17 (pc' := 18) rfl ?_
      refine go_lloadN C d6_18 (pc' := 19) rfl rfl ?_
      refine go_lcmp C ((ta - v2).toInt) win.toInt rfl rfl d6_19 (pc1 := 20) rfl d6_20 (by decide) (pc' := 45) (by decide) (pcN := 23) rfl (fun (c_34 : ((ta - v2).toInt) < win.toInt) => ?_) (fun (c_34 : ¬ ((ta - v2).toInt) < win.toInt) => ?_)
      · skip
        refine go_return C rfl d6_45 (by decide) (by decide) ?_
        exact ⟨rfl, Or.inr (Or.inr (Or.inl ⟨⟨c_2, c_18, c_34⟩, E_31, F_28, F_29, F_30, A_32⟩))⟩
      · skip
        refine go_aloadN C d6_23 (pc' := 24) rfl rfl rfl ?_
        refine go_aloadN C d6_24 (pc' := 25) rfl rfl rfl ?_
        refine go_iconst C (1 : Int32) d6_25 (pc' := 26) rfl (by decide) ?_
        refine go_privateP C (as := [.int (1 : Int32)]) (rest := [.ref a]) (W := 1) (.int (3 : Int32)) (sat_slot l Z a0 hw a r (4 : Int32) (2 : Int32) (1 : Int32) (3 : Int32) _ _ _ F_28 F_29 A_32 rfl (by decide)) E_31 (wd hw 40 rfl) (wd hw 42 rfl) (own_selects_private (wd hw 11 rfl) (wd hw 42 rfl) (wd hw 41 rfl) (by decide)) (wd hw 41 rfl) (wd hw 12 rfl) (wd hw 43 rfl) (by decide) pd_5 rfl rfl rfl (by decide) (by decide) rfl rfl (by decide) (by decide) d6_26 (pc' := 29) rfl rfl ?_
        refine go_putfield C (wd hw 44 rfl) F_29 E_31 (Or.inl (wd hw 45 rfl)) (wd hw 11 rfl) (ty := .int) (by decide) rfl rfl ga d6_29 (pc' := 32) rfl ?_
        intro h_35 W_36
        have F_37 := Fld.other W_36 F_28 (Or.inr (slot_ne (a0 := a0) (Or.inl (wd hw 26 rfl)) (Or.inl (wd hw 45 rfl)) (by decide) (t := (.array .long)) (t' := .int) (by decide) (by decide)))
        have F_38 := Fld.same W_36 F_29
        have F_39 := Fld.other W_36 F_30 (Or.inr (slot_ne (a0 := a0) (Or.inl (wd hw 33 rfl)) (Or.inl (wd hw 45 rfl)) (by decide) (t := .int) (t' := .int) (by decide) (by decide)))
        have E_40 := Exa.wr W_36 E_31
        have A_41 := Av.other A_32 W_36 (Ne.symm (own_ne_arr E_31 (wd hw 11 rfl) A_32))
        refine go_aloadN C d6_32 (pc' := 33) rfl rfl rfl ?_
        refine go_dup C d6_33 (pc' := 34) rfl rfl ?_
        refine go_getfield C (wd hw 32 rfl) F_39 d6_34 (pc' := 37) rfl ?_
        refine go_iconst C (1 : Int32) d6_37 (pc' := 38) rfl (by decide) ?_
        refine go_isub C d6_38 (pc' := 39) rfl ?_
        rw [(by decide : (1 : Int32) - (1 : Int32) = (0 : Int32))]
        refine go_putfield C (wd hw 32 rfl) F_39 E_40 (Or.inl (wd hw 33 rfl)) (wd hw 11 rfl) (ty := .int) (by decide) rfl rfl ga d6_39 (pc' := 42) rfl ?_
        intro h_42 W_43
        have F_44 := Fld.other W_43 F_37 (Or.inr (slot_ne (a0 := a0) (Or.inl (wd hw 26 rfl)) (Or.inl (wd hw 33 rfl)) (by decide) (t := (.array .long)) (t' := .int) (by decide) (by decide)))
        have F_45 := Fld.other W_43 F_38 (Or.inr (slot_ne (a0 := a0) (Or.inl (wd hw 45 rfl)) (Or.inl (wd hw 33 rfl)) (by decide) (t := .int) (t' := .int) (by decide) (by decide)))
        have F_46 := Fld.same W_43 F_39
        have E_47 := Exa.wr W_43 E_40
        have A_48 := Av.other A_41 W_43 (Ne.symm (own_ne_arr E_40 (wd hw 11 rfl) A_41))
        refine go_goto C d6_42 (by decide) (pc' := 0) (by decide) ?_
        refine go_aloadN C d6_0 (pc' := 1) rfl rfl rfl ?_
        refine go_getfield C (wd hw 32 rfl) F_46 d6_1 (pc' := 4) rfl ?_
        refine go_if0 C (0 : Int) (by decide) d6_4 (by decide) (pc' := 45) (by decide) (pcN := 7) rfl (fun (c_49 : ¬ 0 < (0 : Int)) => ?_) (fun (c_49 : 0 < (0 : Int)) => by omega)
        refine go_return C rfl d6_45 (by decide) (by decide) ?_
        exact ⟨rfl, Or.inr (Or.inr (Or.inr (⟨⟨c_2, c_18, c_34⟩, E_47, F_44, F_45, F_46, A_48⟩)))⟩
set_option maxRecDepth 65536 in
set_option maxHeartbeats 40000000 in
theorem sat_drop_4_0_4 (l : Launch) (Z : State) (a0 : Array Value) (hw : ∀ d ∈ tables_1, d.before a0 Z = true) (a r : Addr) (v0 v1 v2 v3 : Int64) (ta win : Int64) (h0 : Heap) (n0 : Nat) (E1 : Exa Z h0 a "com/example/throttld/throttld/SlidingLog$Log") (F1 : Fld Z h0 a "com/example/throttld/throttld/SlidingLog$Log" "ring" "[J" (.ref r)) (F2 : Fld Z h0 a "com/example/throttld/throttld/SlidingLog$Log" "head" "I" (.int (0 : Int32))) (F3 : Fld Z h0 a "com/example/throttld/throttld/SlidingLog$Log" "count" "I" (.int (4 : Int32))) (A1 : Av Z h0 r .long [.long v0, .long v1, .long v2, .long v3]) (ga : n0 ≤ a) (gr : n0 ≤ r) :
    Sat l Z (⟨"com/example/throttld/throttld/SlidingLog$Log", "dropAgedOut", "(JJ)V"⟩ : MethodName) prog_33_method_5_code 5 none ({ frames := 1, cells := 0, slots := 0, locals := 15 } : Room) [.ref a, .long ta, .long win] h0 n0 (RN fun h => (((ta - v0).toInt < win.toInt) ∧ Exa Z h a "com/example/throttld/throttld/SlidingLog$Log" ∧ Fld Z h a "com/example/throttld/throttld/SlidingLog$Log" "ring" "[J" (.ref r) ∧ Fld Z h a "com/example/throttld/throttld/SlidingLog$Log" "head" "I" (.int (0 : Int32)) ∧ Fld Z h a "com/example/throttld/throttld/SlidingLog$Log" "count" "I" (.int (4 : Int32)) ∧ Av Z h r .long [.long v0, .long v1, .long v2, .long v3]) ∨ ((¬ (ta - v0).toInt < win.toInt ∧ (ta - v1).toInt < win.toInt) ∧ Exa Z h a "com/example/throttld/throttld/SlidingLog$Log" ∧ Fld Z h a "com/example/throttld/throttld/SlidingLog$Log" "ring" "[J" (.ref r) ∧ Fld Z h a "com/example/throttld/throttld/SlidingLog$Log" "head" "I" (.int (1 : Int32)) ∧ Fld Z h a "com/example/throttld/throttld/SlidingLog$Log" "count" "I" (.int (3 : Int32)) ∧ Av Z h r .long [.long v0, .long v1, .long v2, .long v3]) ∨ ((¬ (ta - v0).toInt < win.toInt ∧ ¬ (ta - v1).toInt < win.toInt ∧ (ta - v2).toInt < win.toInt) ∧ Exa Z h a "com/example/throttld/throttld/SlidingLog$Log" ∧ Fld Z h a "com/example/throttld/throttld/SlidingLog$Log" "ring" "[J" (.ref r) ∧ Fld Z h a "com/example/throttld/throttld/SlidingLog$Log" "head" "I" (.int (2 : Int32)) ∧ Fld Z h a "com/example/throttld/throttld/SlidingLog$Log" "count" "I" (.int (2 : Int32)) ∧ Av Z h r .long [.long v0, .long v1, .long v2, .long v3]) ∨ ((¬ (ta - v0).toInt < win.toInt ∧ ¬ (ta - v1).toInt < win.toInt ∧ ¬ (ta - v2).toInt < win.toInt ∧ (ta - v3).toInt < win.toInt) ∧ Exa Z h a "com/example/throttld/throttld/SlidingLog$Log" ∧ Fld Z h a "com/example/throttld/throttld/SlidingLog$Log" "ring" "[J" (.ref r) ∧ Fld Z h a "com/example/throttld/throttld/SlidingLog$Log" "head" "I" (.int (3 : Int32)) ∧ Fld Z h a "com/example/throttld/throttld/SlidingLog$Log" "count" "I" (.int (1 : Int32)) ∧ Av Z h r .long [.long v0, .long v1, .long v2, .long v3]) ∨ ((¬ (ta - v0).toInt < win.toInt ∧ ¬ (ta - v1).toInt < win.toInt ∧ ¬ (ta - v2).toInt < win.toInt ∧ ¬ (ta - v3).toInt < win.toInt) ∧ Exa Z h a "com/example/throttld/throttld/SlidingLog$Log" ∧ Fld Z h a "com/example/throttld/throttld/SlidingLog$Log" "ring" "[J" (.ref r) ∧ Fld Z h a "com/example/throttld/throttld/SlidingLog$Log" "head" "I" (.int (0 : Int32)) ∧ Fld Z h a "com/example/throttld/throttld/SlidingLog$Log" "count" "I" (.int (0 : Int32)) ∧ Av Z h r .long [.long v0, .long v1, .long v2, .long v3])) := by
  refine sat_of (own := "com/example/throttld/throttld/SlidingLog$Log") (nm := "dropAgedOut") rfl rfl (plainFor_of_name pn_1) #[.val (.ref a), .val (.long ta), .second, .val (.long win), .second] (fun m => by first | (simp [entryFrame, mkF, argsToLocals, Value.category, maxLocals]; done) | rfl) ?_
  intro p e s m below meth c C
  refine go_aloadN C d6_0 (pc' := 1) rfl rfl rfl ?_
  refine go_getfield C (wd hw 32 rfl) F3 d6_1 (pc' := 4) rfl ?_
  refine go_if0 C (4 : Int) (by decide) d6_4 (by decide) (pc' := 45) (by decide) (pcN := 7) rfl (fun (c_1 : ¬ 0 < (4 : Int)) => by omega) (fun (c_1 : 0 < (4 : Int)) => ?_)
  refine go_lloadN C d6_7 (pc' := 8) rfl rfl ?_
  refine go_aloadN C d6_8 (pc' := 9) rfl rfl rfl ?_
  refine go_getfield C (wd hw 25 rfl) F1 d6_9 (pc' := 12) rfl ?_
  refine go_aloadN C d6_12 (pc' := 13) rfl rfl rfl ?_
  refine go_getfield C (wd hw 44 rfl) F2 d6_13 (pc' := 16) rfl ?_
  refine go_laload C A1 0 (.long v0) (by decide) rfl d6_16 (pc' := 17) rfl ?_
  refine go_lsub C d6_17 (pc' := 18) rfl ?_
  refine go_lloadN C d6_18 (pc' := 19) rfl rfl ?_
  refine go_lcmp C ((ta - v0).toInt) win.toInt rfl rfl d6_19 (pc1 := 20) rfl d6_20 (by decide) (pc' := 45) (by decide) (pcN := 23) rfl (fun (c_2 : ((ta - v0).toInt) < win.toInt) => ?_) (fun (c_2 : ¬ ((ta - v0).toInt) < win.toInt) => ?_)
  · skip
    refine go_return C rfl d6_45 (by decide) (by decide) ?_
    exact ⟨rfl, Or.inl ⟨c_2, E1, F1, F2, F3, A1⟩⟩
  · skip
    refine go_aloadN C d6_23 (pc' := 24) rfl rfl rfl ?_
    refine go_aloadN C d6_24 (pc' := 25) rfl rfl rfl ?_
    refine go_iconst C (1 : Int32) d6_25 (pc' := 26) rfl (by decide) ?_
    refine go_privateP C (as := [.int (1 : Int32)]) (rest := [.ref a]) (W := 1) (.int (1 : Int32)) (sat_slot l Z a0 hw a r (4 : Int32) (0 : Int32) (1 : Int32) (1 : Int32) _ _ _ F1 F2 A1 rfl (by decide)) E1 (wd hw 40 rfl) (wd hw 42 rfl) (own_selects_private (wd hw 11 rfl) (wd hw 42 rfl) (wd hw 41 rfl) (by decide)) (wd hw 41 rfl) (wd hw 12 rfl) (wd hw 43 rfl) (by decide) pd_5 rfl rfl rfl (by decide) (by decide) rfl rfl (by decide) (by decide) d6_26 (pc' := 29) rfl rfl ?_
    refine go_putfield C (wd hw 44 rfl) F2 E1 (Or.inl (wd hw 45 rfl)) (wd hw 11 rfl) (ty := .int) (by decide) rfl rfl ga d6_29 (pc' := 32) rfl ?_
    intro h_3 W_4
    have F_5 := Fld.other W_4 F1 (Or.inr (slot_ne (a0 := a0) (Or.inl (wd hw 26 rfl)) (Or.inl (wd hw 45 rfl)) (by decide) (t := (.array .long)) (t' := .int) (by decide) (by decide)))
    have F_6 := Fld.same W_4 F2
    have F_7 := Fld.other W_4 F3 (Or.inr (slot_ne (a0 := a0) (Or.inl (wd hw 33 rfl)) (Or.inl (wd hw 45 rfl)) (by decide) (t := .int) (t' := .int) (by decide) (by decide)))
    have E_8 := Exa.wr W_4 E1
    have A_9 := Av.other A1 W_4 (Ne.symm (own_ne_arr E1 (wd hw 11 rfl) A1))
    refine go_aloadN C d6_32 (pc' := 33) rfl rfl rfl ?_
    refine go_dup C d6_33 (pc' := 34) rfl rfl ?_
    refine go_getfield C (wd hw 32 rfl) F_7 d6_34 (pc' := 37) rfl ?_
    refine go_iconst C (1 : Int32) d6_37 (pc' := 38) rfl (by decide) ?_
    refine go_isub C d6_38 (pc' := 39) rfl ?_
    rw [(by decide : (4 : Int32) - (1 : Int32) = (3 : Int32))]
    refine go_putfield C (wd hw 32 rfl) F_7 E_8 (Or.inl (wd hw 33 rfl)) (wd hw 11 rfl) (ty := .int) (by decide) rfl rfl ga d6_39 (pc' := 42) rfl ?_
    intro h_10 W_11
    have F_12 := Fld.other W_11 F_5 (Or.inr (slot_ne (a0 := a0) (Or.inl (wd hw 26 rfl)) (Or.inl (wd hw 33 rfl)) (by decide) (t := (.array .long)) (t' := .int) (by decide) (by decide)))
    have F_13 := Fld.other W_11 F_6 (Or.inr (slot_ne (a0 := a0) (Or.inl (wd hw 45 rfl)) (Or.inl (wd hw 33 rfl)) (by decide) (t := .int) (t' := .int) (by decide) (by decide)))
    have F_14 := Fld.same W_11 F_7
    have E_15 := Exa.wr W_11 E_8
    have A_16 := Av.other A_9 W_11 (Ne.symm (own_ne_arr E_8 (wd hw 11 rfl) A_9))
    refine go_goto C d6_42 (by decide) (pc' := 0) (by decide) ?_
    refine go_aloadN C d6_0 (pc' := 1) rfl rfl rfl ?_
    refine go_getfield C (wd hw 32 rfl) F_14 d6_1 (pc' := 4) rfl ?_
    refine go_if0 C (3 : Int) (by decide) d6_4 (by decide) (pc' := 45) (by decide) (pcN := 7) rfl (fun (c_17 : ¬ 0 < (3 : Int)) => by omega) (fun (c_17 : 0 < (3 : Int)) => ?_)
    refine go_lloadN C d6_7 (pc' := 8) rfl rfl ?_
    refine go_aloadN C d6_8 (pc' := 9) rfl rfl rfl ?_
    refine go_getfield C (wd hw 25 rfl) F_12 d6_9 (pc' := 12) rfl ?_
    refine go_aloadN C d6_12 (pc' := 13) rfl rfl rfl ?_
    refine go_getfield C (wd hw 44 rfl) F_13 d6_13 (pc' := 16) rfl ?_
    refine go_laload C A_16 1 (.long v1) (by decide) rfl d6_16 (pc' := 17) rfl ?_
    refine go_lsub C d6_17 (pc' := 18) rfl ?_
    refine go_lloadN C d6_18 (pc' := 19) rfl rfl ?_
    refine go_lcmp C ((ta - v1).toInt) win.toInt rfl rfl d6_19 (pc1 := 20) rfl d6_20 (by decide) (pc' := 45) (by decide) (pcN := 23) rfl (fun (c_18 : ((ta - v1).toInt) < win.toInt) => ?_) (fun (c_18 : ¬ ((ta - v1).toInt) < win.toInt) => ?_)
    · skip
      refine go_return C rfl d6_45 (by decide) (by decide) ?_
      exact ⟨rfl, Or.inr (Or.inl ⟨⟨c_2, c_18⟩, E_15, F_12, F_13, F_14, A_16⟩)⟩
    · skip
      refine go_aloadN C d6_23 (pc' := 24) rfl rfl rfl ?_
      refine go_aloadN C d6_24 (pc' := 25) rfl rfl rfl ?_
      refine go_iconst C (1 : Int32) d6_25 (pc' := 26) rfl (by decide) ?_
      refine go_privateP C (as := [.int (1 : Int32)]) (rest := [.ref a]) (W := 1) (.int (2 : Int32)) (sat_slot l Z a0 hw a r (4 : Int32) (1 : Int32) (1 : Int32) (2 : Int32) _ _ _ F_12 F_13 A_16 rfl (by decide)) E_15 (wd hw 40 rfl) (wd hw 42 rfl) (own_selects_private (wd hw 11 rfl) (wd hw 42 rfl) (wd hw 41 rfl) (by decide)) (wd hw 41 rfl) (wd hw 12 rfl) (wd hw 43 rfl) (by decide) pd_5 rfl rfl rfl (by decide) (by decide) rfl rfl (by decide) (by decide) d6_26 (pc' := 29) rfl rfl ?_
      refine go_putfield C (wd hw 44 rfl) F_13 E_15 (Or.inl (wd hw 45 rfl)) (wd hw 11 rfl) (ty := .int) (by decide) rfl rfl ga d6_29 (pc' := 32) rfl ?_
      intro h_19 W_20
      have F_21 := Fld.other W_20 F_12 (Or.inr (slot_ne (a0 := a0) (Or.inl (wd hw 26 rfl)) (Or.inl (wd hw 45 rfl)) (by decide) (t := (.array .long)) (t' := .int) (by decide) (by decide)))
      have F_22 := Fld.same W_20 F_13
      have F_23 := Fld.other W_20 F_14 (Or.inr (slot_ne (a0 := a0) (Or.inl (wd hw 33 rfl)) (Or.inl (wd hw 45 rfl)) (by decide) (t := .int) (t' := .int) (by decide) (by decide)))
      have E_24 := Exa.wr W_20 E_15
      have A_25 := Av.other A_16 W_20 (Ne.symm (own_ne_arr E_15 (wd hw 11 rfl) A_16))
      refine go_aloadN C d6_32 (pc' := 33) rfl rfl rfl ?_
      refine go_dup C d6_33 (pc' := 34) rfl rfl ?_
      refine go_getfield C (wd hw 32 rfl) F_23 d6_34 (pc' := 37) rfl ?_
      refine go_iconst C (1 : Int32) d6_37 (pc' := 38) rfl (by decide) ?_
      refine go_isub C d6_38 (pc' := 39) rfl ?_
      rw [(by decide : (3 : Int32) - (1 : Int32) = (2 : Int32))]
      refine go_putfield C (wd hw 32 rfl) F_23 E_24 (Or.inl (wd hw 33 rfl)) (wd hw 11 rfl) (ty := .int) (by decide) rfl rfl ga d6_39 (pc' := 42) rfl ?_
      intro h_26 W_27
      have F_28 := Fld.other W_27 F_21 (Or.inr (slot_ne (a0 := a0) (Or.inl (wd hw 26 rfl)) (Or.inl (wd hw 33 rfl)) (by decide) (t := (.array .long)) (t' := .int) (by decide) (by decide)))
      have F_29 := Fld.other W_27 F_22 (Or.inr (slot_ne (a0 := a0) (Or.inl (wd hw 45 rfl)) (Or.inl (wd hw 33 rfl)) (by decide) (t := .int) (t' := .int) (by decide) (by decide)))
      have F_30 := Fld.same W_27 F_23
      have E_31 := Exa.wr W_27 E_24
      have A_32 := Av.other A_25 W_27 (Ne.symm (own_ne_arr E_24 (wd hw 11 rfl) A_25))
      refine go_goto C d6_42 (by decide) (pc' := 0) (by decide) ?_
      refine go_aloadN C d6_0 (pc' := 1) rfl rfl rfl ?_
      refine go_getfield C (wd hw 32 rfl) F_30 d6_1 (pc' := 4) rfl ?_
      refine go_if0 C (2 : Int) (by decide) d6_4 (by decide) (pc' := 45) (by decide) (pcN := 7) rfl (fun (c_33 : ¬ 0 < (2 : Int)) => by omega) (fun (c_33 : 0 < (2 : Int)) => ?_)
      refine go_lloadN C d6_7 (pc' := 8) rfl rfl ?_
      refine go_aloadN C d6_8 (pc' := 9) rfl rfl rfl ?_
      refine go_getfield C (wd hw 25 rfl) F_28 d6_9 (pc' := 12) rfl ?_
      refine go_aloadN C d6_12 (pc' := 13) rfl rfl rfl ?_
      refine go_getfield C (wd hw 44 rfl) F_29 d6_13 (pc' := 16) rfl ?_
      refine go_laload C A_32 2 (.long v2) (by decide) rfl d6_16 (pc' := 17) rfl ?_
      refine go_lsub C d6_17 (pc' := 18) rfl ?_
      refine go_lloadN C d6_18 (pc' := 19) rfl rfl ?_
      refine go_lcmp C ((ta - v2).toInt) win.toInt rfl rfl d6_19 (pc1 := 20) rfl d6_20 (by decide) (pc' := 45) (by decide) (pcN := 23) rfl (fun (c_34 : ((ta - v2).toInt) < win.toInt) => ?_) (fun (c_34 : ¬ ((ta - v2).toInt) < win.toInt) => ?_)
      · skip
        refine go_return C rfl d6_45 (by decide) (by decide) ?_
        exact ⟨rfl, Or.inr (Or.inr (Or.inl ⟨⟨c_2, c_18, c_34⟩, E_31, F_28, F_29, F_30, A_32⟩))⟩
      · skip
        refine go_aloadN C d6_23 (pc' := 24) rfl rfl rfl ?_
        refine go_aloadN C d6_24 (pc' := 25) rfl rfl rfl ?_
        refine go_iconst C (1 : Int32) d6_25 (pc' := 26) rfl (by decide) ?_
        refine go_privateP C (as := [.int (1 : Int32)]) (rest := [.ref a]) (W := 1) (.int (3 : Int32)) (sat_slot l Z a0 hw a r (4 : Int32) (2 : Int32) (1 : Int32) (3 : Int32) _ _ _ F_28 F_29 A_32 rfl (by decide)) E_31 (wd hw 40 rfl) (wd hw 42 rfl) (own_selects_private (wd hw 11 rfl) (wd hw 42 rfl) (wd hw 41 rfl) (by decide)) (wd hw 41 rfl) (wd hw 12 rfl) (wd hw 43 rfl) (by decide) pd_5 rfl rfl rfl (by decide) (by decide) rfl rfl (by decide) (by decide) d6_26 (pc' := 29) rfl rfl ?_
        refine go_putfield C (wd hw 44 rfl) F_29 E_31 (Or.inl (wd hw 45 rfl)) (wd hw 11 rfl) (ty := .int) (by decide) rfl rfl ga d6_29 (pc' := 32) rfl ?_
        intro h_35 W_36
        have F_37 := Fld.other W_36 F_28 (Or.inr (slot_ne (a0 := a0) (Or.inl (wd hw 26 rfl)) (Or.inl (wd hw 45 rfl)) (by decide) (t := (.array .long)) (t' := .int) (by decide) (by decide)))
        have F_38 := Fld.same W_36 F_29
        have F_39 := Fld.other W_36 F_30 (Or.inr (slot_ne (a0 := a0) (Or.inl (wd hw 33 rfl)) (Or.inl (wd hw 45 rfl)) (by decide) (t := .int) (t' := .int) (by decide) (by decide)))
        have E_40 := Exa.wr W_36 E_31
        have A_41 := Av.other A_32 W_36 (Ne.symm (own_ne_arr E_31 (wd hw 11 rfl) A_32))
        refine go_aloadN C d6_32 (pc' := 33) rfl rfl rfl ?_
        refine go_dup C d6_33 (pc' := 34) rfl rfl ?_
        refine go_getfield C (wd hw 32 rfl) F_39 d6_34 (pc' := 37) rfl ?_
        refine go_iconst C (1 : Int32) d6_37 (pc' := 38) rfl (by decide) ?_
        refine go_isub C d6_38 (pc' := 39) rfl ?_
        rw [(by decide : (2 : Int32) - (1 : Int32) = (1 : Int32))]
        refine go_putfield C (wd hw 32 rfl) F_39 E_40 (Or.inl (wd hw 33 rfl)) (wd hw 11 rfl) (ty := .int) (by decide) rfl rfl ga d6_39 (pc' := 42) rfl ?_
        intro h_42 W_43
        have F_44 := Fld.other W_43 F_37 (Or.inr (slot_ne (a0 := a0) (Or.inl (wd hw 26 rfl)) (Or.inl (wd hw 33 rfl)) (by decide) (t := (.array .long)) (t' := .int) (by decide) (by decide)))
        have F_45 := Fld.other W_43 F_38 (Or.inr (slot_ne (a0 := a0) (Or.inl (wd hw 45 rfl)) (Or.inl (wd hw 33 rfl)) (by decide) (t := .int) (t' := .int) (by decide) (by decide)))
        have F_46 := Fld.same W_43 F_39
        have E_47 := Exa.wr W_43 E_40
        have A_48 := Av.other A_41 W_43 (Ne.symm (own_ne_arr E_40 (wd hw 11 rfl) A_41))
        refine go_goto C d6_42 (by decide) (pc' := 0) (by decide) ?_
        refine go_aloadN C d6_0 (pc' := 1) rfl rfl rfl ?_
        refine go_getfield C (wd hw 32 rfl) F_46 d6_1 (pc' := 4) rfl ?_
        refine go_if0 C (1 : Int) (by decide) d6_4 (by decide) (pc' := 45) (by decide) (pcN := 7) rfl (fun (c_49 : ¬ 0 < (1 : Int)) => by omega) (fun (c_49 : 0 < (1 : Int)) => ?_)
        refine go_lloadN C d6_7 (pc' := 8) rfl rfl ?_
        refine go_aloadN C d6_8 (pc' := 9) rfl rfl rfl ?_
        refine go_getfield C (wd hw 25 rfl) F_44 d6_9 (pc' := 12) rfl ?_
        refine go_aloadN C d6_12 (pc' := 13) rfl rfl rfl ?_
        refine go_getfield C (wd hw 44 rfl) F_45 d6_13 (pc' := 16) rfl ?_
        refine go_laload C A_48 3 (.long v3) (by decide) rfl d6_16 (pc' := 17) rfl ?_
        refine go_lsub C d6_17 (pc' := 18) rfl ?_
        refine go_lloadN C d6_18 (pc' := 19) rfl rfl ?_
        refine go_lcmp C ((ta - v3).toInt) win.toInt rfl rfl d6_19 (pc1 := 20) rfl d6_20 (by decide) (pc' := 45) (by decide) (pcN := 23) rfl (fun (c_50 : ((ta - v3).toInt) < win.toInt) => ?_) (fun (c_50 : ¬ ((ta - v3).toInt) < win.toInt) => ?_)
        · skip
          refine go_return C rfl d6_45 (by decide) (by decide) ?_
          exact ⟨rfl, Or.inr (Or.inr (Or.inr (Or.inl ⟨⟨c_2, c_18, c_34, c_50⟩, E_47, F_44, F_45, F_46, A_48⟩)))⟩
        · skip
          refine go_aloadN C d6_23 (pc' := 24) rfl rfl rfl ?_
          refine go_aloadN C d6_24 (pc' := 25) rfl rfl rfl ?_
          refine go_iconst C (1 : Int32) d6_25 (pc' := 26) rfl (by decide) ?_
          refine go_privateP C (as := [.int (1 : Int32)]) (rest := [.ref a]) (W := 1) (.int (0 : Int32)) (sat_slot l Z a0 hw a r (4 : Int32) (3 : Int32) (1 : Int32) (0 : Int32) _ _ _ F_44 F_45 A_48 rfl (by decide)) E_47 (wd hw 40 rfl) (wd hw 42 rfl) (own_selects_private (wd hw 11 rfl) (wd hw 42 rfl) (wd hw 41 rfl) (by decide)) (wd hw 41 rfl) (wd hw 12 rfl) (wd hw 43 rfl) (by decide) pd_5 rfl rfl rfl (by decide) (by decide) rfl rfl (by decide) (by decide) d6_26 (pc' := 29) rfl rfl ?_
          refine go_putfield C (wd hw 44 rfl) F_45 E_47 (Or.inl (wd hw 45 rfl)) (wd hw 11 rfl) (ty := .int) (by decide) rfl rfl ga d6_29 (pc' := 32) rfl ?_
          intro h_51 W_52
          have F_53 := Fld.other W_52 F_44 (Or.inr (slot_ne (a0 := a0) (Or.inl (wd hw 26 rfl)) (Or.inl (wd hw 45 rfl)) (by decide) (t := (.array .long)) (t' := .int) (by decide) (by decide)))
          have F_54 := Fld.same W_52 F_45
          have F_55 := Fld.other W_52 F_46 (Or.inr (slot_ne (a0 := a0) (Or.inl (wd hw 33 rfl)) (Or.inl (wd hw 45 rfl)) (by decide) (t := .int) (t' := .int) (by decide) (by decide)))
          have E_56 := Exa.wr W_52 E_47
          have A_57 := Av.other A_48 W_52 (Ne.symm (own_ne_arr E_47 (wd hw 11 rfl) A_48))
          refine go_aloadN C d6_32 (pc' := 33) rfl rfl rfl ?_
          refine go_dup C d6_33 (pc' := 34) rfl rfl ?_
          refine go_getfield C (wd hw 32 rfl) F_55 d6_34 (pc' := 37) rfl ?_
          refine go_iconst C (1 : Int32) d6_37 (pc' := 38) rfl (by decide) ?_
          refine go_isub C d6_38 (pc' := 39) rfl ?_
          rw [(by decide : (1 : Int32) - (1 : Int32) = (0 : Int32))]
          refine go_putfield C (wd hw 32 rfl) F_55 E_56 (Or.inl (wd hw 33 rfl)) (wd hw 11 rfl) (ty := .int) (by decide) rfl rfl ga d6_39 (pc' := 42) rfl ?_
          intro h_58 W_59
          have F_60 := Fld.other W_59 F_53 (Or.inr (slot_ne (a0 := a0) (Or.inl (wd hw 26 rfl)) (Or.inl (wd hw 33 rfl)) (by decide) (t := (.array .long)) (t' := .int) (by decide) (by decide)))
          have F_61 := Fld.other W_59 F_54 (Or.inr (slot_ne (a0 := a0) (Or.inl (wd hw 45 rfl)) (Or.inl (wd hw 33 rfl)) (by decide) (t := .int) (t' := .int) (by decide) (by decide)))
          have F_62 := Fld.same W_59 F_55
          have E_63 := Exa.wr W_59 E_56
          have A_64 := Av.other A_57 W_59 (Ne.symm (own_ne_arr E_56 (wd hw 11 rfl) A_57))
          refine go_goto C d6_42 (by decide) (pc' := 0) (by decide) ?_
          refine go_aloadN C d6_0 (pc' := 1) rfl rfl rfl ?_
          refine go_getfield C (wd hw 32 rfl) F_62 d6_1 (pc' := 4) rfl ?_
          refine go_if0 C (0 : Int) (by decide) d6_4 (by decide) (pc' := 45) (by decide) (pcN := 7) rfl (fun (c_65 : ¬ 0 < (0 : Int)) => ?_) (fun (c_65 : 0 < (0 : Int)) => by omega)
          refine go_return C rfl d6_45 (by decide) (by decide) ?_
          exact ⟨rfl, Or.inr (Or.inr (Or.inr (Or.inr (⟨⟨c_2, c_18, c_34, c_50⟩, E_63, F_60, F_61, F_62, A_64⟩))))⟩
set_option maxRecDepth 65536 in
set_option maxHeartbeats 40000000 in
theorem sat_init4 (l : Launch) (Z : State) (a0 : Array Value) (hw : ∀ d ∈ tables_1, d.before a0 Z = true) (a : Addr) (h0 : Heap) (n0 : Nat) (E1 : Exa Z h0 a "com/example/throttld/throttld/SlidingLog$Log") (F1 : Fld Z h0 a "com/example/throttld/throttld/SlidingLog$Log" "ring" "[J" .null) (F2 : Fld Z h0 a "com/example/throttld/throttld/SlidingLog$Log" "head" "I" (.int 0)) (F3 : Fld Z h0 a "com/example/throttld/throttld/SlidingLog$Log" "count" "I" (.int 0)) (ga : n0 ≤ a) (gz : n0 ≤ h0.size) :
    Sat l Z (⟨"com/example/throttld/throttld/SlidingLog$Log", "<init>", "(I)V"⟩ : MethodName) prog_33_method_1_code 2 none ({ frames := 2, cells := 1, slots := 4, locals := 24 } : Room) [.ref a, .int (4 : Int32)] h0 n0 (RN fun h => ∃ r : Addr, n0 ≤ r ∧ Exa Z h a "com/example/throttld/throttld/SlidingLog$Log" ∧ Fld Z h a "com/example/throttld/throttld/SlidingLog$Log" "ring" "[J" (.ref r) ∧ Fld Z h a "com/example/throttld/throttld/SlidingLog$Log" "head" "I" (.int (0 : Int32)) ∧ Fld Z h a "com/example/throttld/throttld/SlidingLog$Log" "count" "I" (.int (0 : Int32)) ∧ Av Z h r .long [.long (0 : Int64), .long (0 : Int64), .long (0 : Int64), .long (0 : Int64)]) := by
  refine sat_of (own := "com/example/throttld/throttld/SlidingLog$Log") (nm := "<init>") rfl rfl (plainFor_of_name pn_1) #[.val (.ref a), .val (.int (4 : Int32))] (fun m => by first | (simp [entryFrame, mkF, argsToLocals, Value.category, maxLocals]; done) | rfl) ?_
  intro p e s m below meth c C
  refine go_aloadN C d3_0 (pc' := 1) rfl rfl rfl ?_
  refine go_specialN C (as := []) (rest := []) (W := 0) (sat_en l Z a0 hw a _ _) rfl (wd hw 16 rfl) (wd hw 17 rfl) (wd hw 19 rfl) (wd hw 20 rfl) (by decide) pd_3 rfl rfl rfl (by decide) (by decide) (ce' := 0) (sl' := 0) rfl rfl (by decide) (by decide) d3_1 (pc' := 4) rfl rfl ?_
  intro h_1 eh_1
  rw [eh_1]
  refine go_aloadN C d3_4 (pc' := 5) rfl rfl rfl ?_
  refine go_iloadN C d3_5 (pc' := 6) rfl rfl ?_
  refine go_newarray C (wd hw 24 rfl) rfl 4 4 (by decide) (by decide) (by decide) (ce' := 1) (sl' := 4) rfl rfl (by decide) (by decide) d3_6 (pc' := 8) rfl ?_
  intro h_2 a_3 g_4 E_5 A_6
  have n_7 : a ≠ a_3 := own_ne_new E1.lt g_4
  have g_8 : n0 ≤ a_3 := own_ge gz g_4
  have F_9 := Fld.ext E_5 F1
  have F_10 := Fld.ext E_5 F2
  have F_11 := Fld.ext E_5 F3
  have E_12 := Exa.ext E_5 E1
  have z_13 : n0 ≤ h_2.size := Nat.le_trans gz E_5.1
  have A_14 : Av Z h_2 a_3 .long [.long (0 : Int64), .long (0 : Int64), .long (0 : Int64), .long (0 : Int64)] := A_6
  refine go_putfield C (wd hw 25 rfl) F_9 E_12 (Or.inl (wd hw 26 rfl)) (wd hw 11 rfl) (ty := (.array .long)) (by decide) rfl rfl ga d3_8 (pc' := 11) rfl ?_
  intro h_15 W_16
  have z_17 : n0 ≤ h_15.size := W_16.size.symm ▸ z_13
  have F_18 := Fld.same W_16 F_9
  have F_19 := Fld.other W_16 F_10 (Or.inr (slot_ne (a0 := a0) (Or.inl (wd hw 45 rfl)) (Or.inl (wd hw 26 rfl)) (by decide) (t := .int) (t' := (.array .long)) (by decide) (by decide)))
  have F_20 := Fld.other W_16 F_11 (Or.inr (slot_ne (a0 := a0) (Or.inl (wd hw 33 rfl)) (Or.inl (wd hw 26 rfl)) (by decide) (t := .int) (t' := (.array .long)) (by decide) (by decide)))
  have E_21 := Exa.wr W_16 E_12
  have A_22 := Av.other A_14 W_16 (Ne.symm n_7)
  refine go_return C rfl d3_11 (by decide) (by decide) ?_
  exact ⟨rfl, _, g_8, E_21, F_18, F_19, F_20, A_22⟩
set_option maxRecDepth 65536 in
set_option maxHeartbeats 40000000 in
theorem sat_new_4_0_1 (l : Launch) (Z : State) (a0 : Array Value) (hw : ∀ d ∈ tables_1, d.before a0 Z = true) (a r : Addr) (v0 v1 v2 v3 : Int64) (h0 : Heap) (n0 : Nat) (E1 : Exa Z h0 a "com/example/throttld/throttld/SlidingLog$Log") (F1 : Fld Z h0 a "com/example/throttld/throttld/SlidingLog$Log" "ring" "[J" (.ref r)) (F2 : Fld Z h0 a "com/example/throttld/throttld/SlidingLog$Log" "head" "I" (.int (0 : Int32))) (F3 : Fld Z h0 a "com/example/throttld/throttld/SlidingLog$Log" "count" "I" (.int (1 : Int32))) (A1 : Av Z h0 r .long [.long v0, .long v1, .long v2, .long v3]) (ga : n0 ≤ a) (gr : n0 ≤ r) :
    Sat l Z (⟨"com/example/throttld/throttld/SlidingLog$Log", "newest", "()J"⟩ : MethodName) prog_33_method_4_code 1 (some .long) ({ frames := 1, cells := 0, slots := 0, locals := 15 } : Room) [.ref a] h0 n0 (RV fun q h => q = .long v0 ∧ h = h0) := by
  refine sat_of (own := "com/example/throttld/throttld/SlidingLog$Log") (nm := "newest") rfl rfl (plainFor_of_name pn_1) #[.val (.ref a)] (fun m => by first | (simp [entryFrame, mkF, argsToLocals, Value.category, maxLocals]; done) | rfl) ?_
  intro p e s m below meth c C
  refine go_aloadN C d10_0 (pc' := 1) rfl rfl rfl ?_
  refine go_getfield C (wd hw 25 rfl) F1 d10_1 (pc' := 4) rfl ?_
  refine go_aloadN C d10_4 (pc' := 5) rfl rfl rfl ?_
  refine go_aloadN C d10_5 (pc' := 6) rfl rfl rfl ?_
  refine go_getfield C (wd hw 32 rfl) F3 d10_6 (pc' := 9) rfl ?_
  refine go_iconst C (1 : Int32) d10_9 (pc' := 10) rfl (by decide) ?_
  refine go_isub C d10_10 (pc' := 11) rfl ?_
  rw [(by decide : (1 : Int32) - (1 : Int32) = (0 : Int32))]
  refine go_privateP C (as := [.int (0 : Int32)]) (rest := [.ref r]) (W := 1) (.int (0 : Int32)) (sat_slot l Z a0 hw a r (4 : Int32) (0 : Int32) (0 : Int32) (0 : Int32) _ _ _ F1 F2 A1 rfl (by decide)) E1 (wd hw 40 rfl) (wd hw 42 rfl) (own_selects_private (wd hw 11 rfl) (wd hw 42 rfl) (wd hw 41 rfl) (by decide)) (wd hw 41 rfl) (wd hw 12 rfl) (wd hw 43 rfl) (by decide) pd_5 rfl rfl rfl (by decide) (by decide) rfl rfl (by decide) (by decide) d10_11 (pc' := 14) rfl rfl ?_
  refine go_laload C A1 0 (.long v0) (by decide) rfl d10_14 (pc' := 15) rfl ?_
  refine go_lreturn C rfl d10_15 (by decide) (by decide) ?_
  exact ⟨_, rfl, rfl, rfl⟩
set_option maxRecDepth 65536 in
set_option maxHeartbeats 40000000 in
theorem sat_new_4_0_2 (l : Launch) (Z : State) (a0 : Array Value) (hw : ∀ d ∈ tables_1, d.before a0 Z = true) (a r : Addr) (v0 v1 v2 v3 : Int64) (h0 : Heap) (n0 : Nat) (E1 : Exa Z h0 a "com/example/throttld/throttld/SlidingLog$Log") (F1 : Fld Z h0 a "com/example/throttld/throttld/SlidingLog$Log" "ring" "[J" (.ref r)) (F2 : Fld Z h0 a "com/example/throttld/throttld/SlidingLog$Log" "head" "I" (.int (0 : Int32))) (F3 : Fld Z h0 a "com/example/throttld/throttld/SlidingLog$Log" "count" "I" (.int (2 : Int32))) (A1 : Av Z h0 r .long [.long v0, .long v1, .long v2, .long v3]) (ga : n0 ≤ a) (gr : n0 ≤ r) :
    Sat l Z (⟨"com/example/throttld/throttld/SlidingLog$Log", "newest", "()J"⟩ : MethodName) prog_33_method_4_code 1 (some .long) ({ frames := 1, cells := 0, slots := 0, locals := 15 } : Room) [.ref a] h0 n0 (RV fun q h => q = .long v1 ∧ h = h0) := by
  refine sat_of (own := "com/example/throttld/throttld/SlidingLog$Log") (nm := "newest") rfl rfl (plainFor_of_name pn_1) #[.val (.ref a)] (fun m => by first | (simp [entryFrame, mkF, argsToLocals, Value.category, maxLocals]; done) | rfl) ?_
  intro p e s m below meth c C
  refine go_aloadN C d10_0 (pc' := 1) rfl rfl rfl ?_
  refine go_getfield C (wd hw 25 rfl) F1 d10_1 (pc' := 4) rfl ?_
  refine go_aloadN C d10_4 (pc' := 5) rfl rfl rfl ?_
  refine go_aloadN C d10_5 (pc' := 6) rfl rfl rfl ?_
  refine go_getfield C (wd hw 32 rfl) F3 d10_6 (pc' := 9) rfl ?_
  refine go_iconst C (1 : Int32) d10_9 (pc' := 10) rfl (by decide) ?_
  refine go_isub C d10_10 (pc' := 11) rfl ?_
  rw [(by decide : (2 : Int32) - (1 : Int32) = (1 : Int32))]
  refine go_privateP C (as := [.int (1 : Int32)]) (rest := [.ref r]) (W := 1) (.int (1 : Int32)) (sat_slot l Z a0 hw a r (4 : Int32) (0 : Int32) (1 : Int32) (1 : Int32) _ _ _ F1 F2 A1 rfl (by decide)) E1 (wd hw 40 rfl) (wd hw 42 rfl) (own_selects_private (wd hw 11 rfl) (wd hw 42 rfl) (wd hw 41 rfl) (by decide)) (wd hw 41 rfl) (wd hw 12 rfl) (wd hw 43 rfl) (by decide) pd_5 rfl rfl rfl (by decide) (by decide) rfl rfl (by decide) (by decide) d10_11 (pc' := 14) rfl rfl ?_
  refine go_laload C A1 1 (.long v1) (by decide) rfl d10_14 (pc' := 15) rfl ?_
  refine go_lreturn C rfl d10_15 (by decide) (by decide) ?_
  exact ⟨_, rfl, rfl, rfl⟩
set_option maxRecDepth 65536 in
set_option maxHeartbeats 40000000 in
theorem sat_new_4_0_3 (l : Launch) (Z : State) (a0 : Array Value) (hw : ∀ d ∈ tables_1, d.before a0 Z = true) (a r : Addr) (v0 v1 v2 v3 : Int64) (h0 : Heap) (n0 : Nat) (E1 : Exa Z h0 a "com/example/throttld/throttld/SlidingLog$Log") (F1 : Fld Z h0 a "com/example/throttld/throttld/SlidingLog$Log" "ring" "[J" (.ref r)) (F2 : Fld Z h0 a "com/example/throttld/throttld/SlidingLog$Log" "head" "I" (.int (0 : Int32))) (F3 : Fld Z h0 a "com/example/throttld/throttld/SlidingLog$Log" "count" "I" (.int (3 : Int32))) (A1 : Av Z h0 r .long [.long v0, .long v1, .long v2, .long v3]) (ga : n0 ≤ a) (gr : n0 ≤ r) :
    Sat l Z (⟨"com/example/throttld/throttld/SlidingLog$Log", "newest", "()J"⟩ : MethodName) prog_33_method_4_code 1 (some .long) ({ frames := 1, cells := 0, slots := 0, locals := 15 } : Room) [.ref a] h0 n0 (RV fun q h => q = .long v2 ∧ h = h0) := by
  refine sat_of (own := "com/example/throttld/throttld/SlidingLog$Log") (nm := "newest") rfl rfl (plainFor_of_name pn_1) #[.val (.ref a)] (fun m => by first | (simp [entryFrame, mkF, argsToLocals, Value.category, maxLocals]; done) | rfl) ?_
  intro p e s m below meth c C
  refine go_aloadN C d10_0 (pc' := 1) rfl rfl rfl ?_
  refine go_getfield C (wd hw 25 rfl) F1 d10_1 (pc' := 4) rfl ?_
  refine go_aloadN C d10_4 (pc' := 5) rfl rfl rfl ?_
  refine go_aloadN C d10_5 (pc' := 6) rfl rfl rfl ?_
  refine go_getfield C (wd hw 32 rfl) F3 d10_6 (pc' := 9) rfl ?_
  refine go_iconst C (1 : Int32) d10_9 (pc' := 10) rfl (by decide) ?_
  refine go_isub C d10_10 (pc' := 11) rfl ?_
  rw [(by decide : (3 : Int32) - (1 : Int32) = (2 : Int32))]
  refine go_privateP C (as := [.int (2 : Int32)]) (rest := [.ref r]) (W := 1) (.int (2 : Int32)) (sat_slot l Z a0 hw a r (4 : Int32) (0 : Int32) (2 : Int32) (2 : Int32) _ _ _ F1 F2 A1 rfl (by decide)) E1 (wd hw 40 rfl) (wd hw 42 rfl) (own_selects_private (wd hw 11 rfl) (wd hw 42 rfl) (wd hw 41 rfl) (by decide)) (wd hw 41 rfl) (wd hw 12 rfl) (wd hw 43 rfl) (by decide) pd_5 rfl rfl rfl (by decide) (by decide) rfl rfl (by decide) (by decide) d10_11 (pc' := 14) rfl rfl ?_
  refine go_laload C A1 2 (.long v2) (by decide) rfl d10_14 (pc' := 15) rfl ?_
  refine go_lreturn C rfl d10_15 (by decide) (by decide) ?_
  exact ⟨_, rfl, rfl, rfl⟩
set_option maxRecDepth 65536 in
set_option maxHeartbeats 40000000 in
theorem sat_new_4_0_4 (l : Launch) (Z : State) (a0 : Array Value) (hw : ∀ d ∈ tables_1, d.before a0 Z = true) (a r : Addr) (v0 v1 v2 v3 : Int64) (h0 : Heap) (n0 : Nat) (E1 : Exa Z h0 a "com/example/throttld/throttld/SlidingLog$Log") (F1 : Fld Z h0 a "com/example/throttld/throttld/SlidingLog$Log" "ring" "[J" (.ref r)) (F2 : Fld Z h0 a "com/example/throttld/throttld/SlidingLog$Log" "head" "I" (.int (0 : Int32))) (F3 : Fld Z h0 a "com/example/throttld/throttld/SlidingLog$Log" "count" "I" (.int (4 : Int32))) (A1 : Av Z h0 r .long [.long v0, .long v1, .long v2, .long v3]) (ga : n0 ≤ a) (gr : n0 ≤ r) :
    Sat l Z (⟨"com/example/throttld/throttld/SlidingLog$Log", "newest", "()J"⟩ : MethodName) prog_33_method_4_code 1 (some .long) ({ frames := 1, cells := 0, slots := 0, locals := 15 } : Room) [.ref a] h0 n0 (RV fun q h => q = .long v3 ∧ h = h0) := by
  refine sat_of (own := "com/example/throttld/throttld/SlidingLog$Log") (nm := "newest") rfl rfl (plainFor_of_name pn_1) #[.val (.ref a)] (fun m => by first | (simp [entryFrame, mkF, argsToLocals, Value.category, maxLocals]; done) | rfl) ?_
  intro p e s m below meth c C
  refine go_aloadN C d10_0 (pc' := 1) rfl rfl rfl ?_
  refine go_getfield C (wd hw 25 rfl) F1 d10_1 (pc' := 4) rfl ?_
  refine go_aloadN C d10_4 (pc' := 5) rfl rfl rfl ?_
  refine go_aloadN C d10_5 (pc' := 6) rfl rfl rfl ?_
  refine go_getfield C (wd hw 32 rfl) F3 d10_6 (pc' := 9) rfl ?_
  refine go_iconst C (1 : Int32) d10_9 (pc' := 10) rfl (by decide) ?_
  refine go_isub C d10_10 (pc' := 11) rfl ?_
  rw [(by decide : (4 : Int32) - (1 : Int32) = (3 : Int32))]
  refine go_privateP C (as := [.int (3 : Int32)]) (rest := [.ref r]) (W := 1) (.int (3 : Int32)) (sat_slot l Z a0 hw a r (4 : Int32) (0 : Int32) (3 : Int32) (3 : Int32) _ _ _ F1 F2 A1 rfl (by decide)) E1 (wd hw 40 rfl) (wd hw 42 rfl) (own_selects_private (wd hw 11 rfl) (wd hw 42 rfl) (wd hw 41 rfl) (by decide)) (wd hw 41 rfl) (wd hw 12 rfl) (wd hw 43 rfl) (by decide) pd_5 rfl rfl rfl (by decide) (by decide) rfl rfl (by decide) (by decide) d10_11 (pc' := 14) rfl rfl ?_
  refine go_laload C A1 3 (.long v3) (by decide) rfl d10_14 (pc' := 15) rfl ?_
  refine go_lreturn C rfl d10_15 (by decide) (by decide) ?_
  exact ⟨_, rfl, rfl, rfl⟩
set_option maxRecDepth 65536 in
set_option maxHeartbeats 40000000 in
theorem sat_new_4_1_1 (l : Launch) (Z : State) (a0 : Array Value) (hw : ∀ d ∈ tables_1, d.before a0 Z = true) (a r : Addr) (v0 v1 v2 v3 : Int64) (h0 : Heap) (n0 : Nat) (E1 : Exa Z h0 a "com/example/throttld/throttld/SlidingLog$Log") (F1 : Fld Z h0 a "com/example/throttld/throttld/SlidingLog$Log" "ring" "[J" (.ref r)) (F2 : Fld Z h0 a "com/example/throttld/throttld/SlidingLog$Log" "head" "I" (.int (1 : Int32))) (F3 : Fld Z h0 a "com/example/throttld/throttld/SlidingLog$Log" "count" "I" (.int (1 : Int32))) (A1 : Av Z h0 r .long [.long v0, .long v1, .long v2, .long v3]) (ga : n0 ≤ a) (gr : n0 ≤ r) :
    Sat l Z (⟨"com/example/throttld/throttld/SlidingLog$Log", "newest", "()J"⟩ : MethodName) prog_33_method_4_code 1 (some .long) ({ frames := 1, cells := 0, slots := 0, locals := 15 } : Room) [.ref a] h0 n0 (RV fun q h => q = .long v1 ∧ h = h0) := by
  refine sat_of (own := "com/example/throttld/throttld/SlidingLog$Log") (nm := "newest") rfl rfl (plainFor_of_name pn_1) #[.val (.ref a)] (fun m => by first | (simp [entryFrame, mkF, argsToLocals, Value.category, maxLocals]; done) | rfl) ?_
  intro p e s m below meth c C
  refine go_aloadN C d10_0 (pc' := 1) rfl rfl rfl ?_
  refine go_getfield C (wd hw 25 rfl) F1 d10_1 (pc' := 4) rfl ?_
  refine go_aloadN C d10_4 (pc' := 5) rfl rfl rfl ?_
  refine go_aloadN C d10_5 (pc' := 6) rfl rfl rfl ?_
  refine go_getfield C (wd hw 32 rfl) F3 d10_6 (pc' := 9) rfl ?_
  refine go_iconst C (1 : Int32) d10_9 (pc' := 10) rfl (by decide) ?_
  refine go_isub C d10_10 (pc' := 11) rfl ?_
  rw [(by decide : (1 : Int32) - (1 : Int32) = (0 : Int32))]
  refine go_privateP C (as := [.int (0 : Int32)]) (rest := [.ref r]) (W := 1) (.int (1 : Int32)) (sat_slot l Z a0 hw a r (4 : Int32) (1 : Int32) (0 : Int32) (1 : Int32) _ _ _ F1 F2 A1 rfl (by decide)) E1 (wd hw 40 rfl) (wd hw 42 rfl) (own_selects_private (wd hw 11 rfl) (wd hw 42 rfl) (wd hw 41 rfl) (by decide)) (wd hw 41 rfl) (wd hw 12 rfl) (wd hw 43 rfl) (by decide) pd_5 rfl rfl rfl (by decide) (by decide) rfl rfl (by decide) (by decide) d10_11 (pc' := 14) rfl rfl ?_
  refine go_laload C A1 1 (.long v1) (by decide) rfl d10_14 (pc' := 15) rfl ?_
  refine go_lreturn C rfl d10_15 (by decide) (by decide) ?_
  exact ⟨_, rfl, rfl, rfl⟩
set_option maxRecDepth 65536 in
set_option maxHeartbeats 40000000 in
theorem sat_new_4_1_2 (l : Launch) (Z : State) (a0 : Array Value) (hw : ∀ d ∈ tables_1, d.before a0 Z = true) (a r : Addr) (v0 v1 v2 v3 : Int64) (h0 : Heap) (n0 : Nat) (E1 : Exa Z h0 a "com/example/throttld/throttld/SlidingLog$Log") (F1 : Fld Z h0 a "com/example/throttld/throttld/SlidingLog$Log" "ring" "[J" (.ref r)) (F2 : Fld Z h0 a "com/example/throttld/throttld/SlidingLog$Log" "head" "I" (.int (1 : Int32))) (F3 : Fld Z h0 a "com/example/throttld/throttld/SlidingLog$Log" "count" "I" (.int (2 : Int32))) (A1 : Av Z h0 r .long [.long v0, .long v1, .long v2, .long v3]) (ga : n0 ≤ a) (gr : n0 ≤ r) :
    Sat l Z (⟨"com/example/throttld/throttld/SlidingLog$Log", "newest", "()J"⟩ : MethodName) prog_33_method_4_code 1 (some .long) ({ frames := 1, cells := 0, slots := 0, locals := 15 } : Room) [.ref a] h0 n0 (RV fun q h => q = .long v2 ∧ h = h0) := by
  refine sat_of (own := "com/example/throttld/throttld/SlidingLog$Log") (nm := "newest") rfl rfl (plainFor_of_name pn_1) #[.val (.ref a)] (fun m => by first | (simp [entryFrame, mkF, argsToLocals, Value.category, maxLocals]; done) | rfl) ?_
  intro p e s m below meth c C
  refine go_aloadN C d10_0 (pc' := 1) rfl rfl rfl ?_
  refine go_getfield C (wd hw 25 rfl) F1 d10_1 (pc' := 4) rfl ?_
  refine go_aloadN C d10_4 (pc' := 5) rfl rfl rfl ?_
  refine go_aloadN C d10_5 (pc' := 6) rfl rfl rfl ?_
  refine go_getfield C (wd hw 32 rfl) F3 d10_6 (pc' := 9) rfl ?_
  refine go_iconst C (1 : Int32) d10_9 (pc' := 10) rfl (by decide) ?_
  refine go_isub C d10_10 (pc' := 11) rfl ?_
  rw [(by decide : (2 : Int32) - (1 : Int32) = (1 : Int32))]
  refine go_privateP C (as := [.int (1 : Int32)]) (rest := [.ref r]) (W := 1) (.int (2 : Int32)) (sat_slot l Z a0 hw a r (4 : Int32) (1 : Int32) (1 : Int32) (2 : Int32) _ _ _ F1 F2 A1 rfl (by decide)) E1 (wd hw 40 rfl) (wd hw 42 rfl) (own_selects_private (wd hw 11 rfl) (wd hw 42 rfl) (wd hw 41 rfl) (by decide)) (wd hw 41 rfl) (wd hw 12 rfl) (wd hw 43 rfl) (by decide) pd_5 rfl rfl rfl (by decide) (by decide) rfl rfl (by decide) (by decide) d10_11 (pc' := 14) rfl rfl ?_
  refine go_laload C A1 2 (.long v2) (by decide) rfl d10_14 (pc' := 15) rfl ?_
  refine go_lreturn C rfl d10_15 (by decide) (by decide) ?_
  exact ⟨_, rfl, rfl, rfl⟩
set_option maxRecDepth 65536 in
set_option maxHeartbeats 40000000 in
theorem sat_new_4_1_3 (l : Launch) (Z : State) (a0 : Array Value) (hw : ∀ d ∈ tables_1, d.before a0 Z = true) (a r : Addr) (v0 v1 v2 v3 : Int64) (h0 : Heap) (n0 : Nat) (E1 : Exa Z h0 a "com/example/throttld/throttld/SlidingLog$Log") (F1 : Fld Z h0 a "com/example/throttld/throttld/SlidingLog$Log" "ring" "[J" (.ref r)) (F2 : Fld Z h0 a "com/example/throttld/throttld/SlidingLog$Log" "head" "I" (.int (1 : Int32))) (F3 : Fld Z h0 a "com/example/throttld/throttld/SlidingLog$Log" "count" "I" (.int (3 : Int32))) (A1 : Av Z h0 r .long [.long v0, .long v1, .long v2, .long v3]) (ga : n0 ≤ a) (gr : n0 ≤ r) :
    Sat l Z (⟨"com/example/throttld/throttld/SlidingLog$Log", "newest", "()J"⟩ : MethodName) prog_33_method_4_code 1 (some .long) ({ frames := 1, cells := 0, slots := 0, locals := 15 } : Room) [.ref a] h0 n0 (RV fun q h => q = .long v3 ∧ h = h0) := by
  refine sat_of (own := "com/example/throttld/throttld/SlidingLog$Log") (nm := "newest") rfl rfl (plainFor_of_name pn_1) #[.val (.ref a)] (fun m => by first | (simp [entryFrame, mkF, argsToLocals, Value.category, maxLocals]; done) | rfl) ?_
  intro p e s m below meth c C
  refine go_aloadN C d10_0 (pc' := 1) rfl rfl rfl ?_
  refine go_getfield C (wd hw 25 rfl) F1 d10_1 (pc' := 4) rfl ?_
  refine go_aloadN C d10_4 (pc' := 5) rfl rfl rfl ?_
  refine go_aloadN C d10_5 (pc' := 6) rfl rfl rfl ?_
  refine go_getfield C (wd hw 32 rfl) F3 d10_6 (pc' := 9) rfl ?_
  refine go_iconst C (1 : Int32) d10_9 (pc' := 10) rfl (by decide) ?_
  refine go_isub C d10_10 (pc' := 11) rfl ?_
  rw [(by decide : (3 : Int32) - (1 : Int32) = (2 : Int32))]
  refine go_privateP C (as := [.int (2 : Int32)]) (rest := [.ref r]) (W := 1) (.int (3 : Int32)) (sat_slot l Z a0 hw a r (4 : Int32) (1 : Int32) (2 : Int32) (3 : Int32) _ _ _ F1 F2 A1 rfl (by decide)) E1 (wd hw 40 rfl) (wd hw 42 rfl) (own_selects_private (wd hw 11 rfl) (wd hw 42 rfl) (wd hw 41 rfl) (by decide)) (wd hw 41 rfl) (wd hw 12 rfl) (wd hw 43 rfl) (by decide) pd_5 rfl rfl rfl (by decide) (by decide) rfl rfl (by decide) (by decide) d10_11 (pc' := 14) rfl rfl ?_
  refine go_laload C A1 3 (.long v3) (by decide) rfl d10_14 (pc' := 15) rfl ?_
  refine go_lreturn C rfl d10_15 (by decide) (by decide) ?_
  exact ⟨_, rfl, rfl, rfl⟩
set_option maxRecDepth 65536 in
set_option maxHeartbeats 40000000 in
theorem sat_new_4_2_1 (l : Launch) (Z : State) (a0 : Array Value) (hw : ∀ d ∈ tables_1, d.before a0 Z = true) (a r : Addr) (v0 v1 v2 v3 : Int64) (h0 : Heap) (n0 : Nat) (E1 : Exa Z h0 a "com/example/throttld/throttld/SlidingLog$Log") (F1 : Fld Z h0 a "com/example/throttld/throttld/SlidingLog$Log" "ring" "[J" (.ref r)) (F2 : Fld Z h0 a "com/example/throttld/throttld/SlidingLog$Log" "head" "I" (.int (2 : Int32))) (F3 : Fld Z h0 a "com/example/throttld/throttld/SlidingLog$Log" "count" "I" (.int (1 : Int32))) (A1 : Av Z h0 r .long [.long v0, .long v1, .long v2, .long v3]) (ga : n0 ≤ a) (gr : n0 ≤ r) :
    Sat l Z (⟨"com/example/throttld/throttld/SlidingLog$Log", "newest", "()J"⟩ : MethodName) prog_33_method_4_code 1 (some .long) ({ frames := 1, cells := 0, slots := 0, locals := 15 } : Room) [.ref a] h0 n0 (RV fun q h => q = .long v2 ∧ h = h0) := by
  refine sat_of (own := "com/example/throttld/throttld/SlidingLog$Log") (nm := "newest") rfl rfl (plainFor_of_name pn_1) #[.val (.ref a)] (fun m => by first | (simp [entryFrame, mkF, argsToLocals, Value.category, maxLocals]; done) | rfl) ?_
  intro p e s m below meth c C
  refine go_aloadN C d10_0 (pc' := 1) rfl rfl rfl ?_
  refine go_getfield C (wd hw 25 rfl) F1 d10_1 (pc' := 4) rfl ?_
  refine go_aloadN C d10_4 (pc' := 5) rfl rfl rfl ?_
  refine go_aloadN C d10_5 (pc' := 6) rfl rfl rfl ?_
  refine go_getfield C (wd hw 32 rfl) F3 d10_6 (pc' := 9) rfl ?_
  refine go_iconst C (1 : Int32) d10_9 (pc' := 10) rfl (by decide) ?_
  refine go_isub C d10_10 (pc' := 11) rfl ?_
  rw [(by decide : (1 : Int32) - (1 : Int32) = (0 : Int32))]
  refine go_privateP C (as := [.int (0 : Int32)]) (rest := [.ref r]) (W := 1) (.int (2 : Int32)) (sat_slot l Z a0 hw a r (4 : Int32) (2 : Int32) (0 : Int32) (2 : Int32) _ _ _ F1 F2 A1 rfl (by decide)) E1 (wd hw 40 rfl) (wd hw 42 rfl) (own_selects_private (wd hw 11 rfl) (wd hw 42 rfl) (wd hw 41 rfl) (by decide)) (wd hw 41 rfl) (wd hw 12 rfl) (wd hw 43 rfl) (by decide) pd_5 rfl rfl rfl (by decide) (by decide) rfl rfl (by decide) (by decide) d10_11 (pc' := 14) rfl rfl ?_
  refine go_laload C A1 2 (.long v2) (by decide) rfl d10_14 (pc' := 15) rfl ?_
  refine go_lreturn C rfl d10_15 (by decide) (by decide) ?_
  exact ⟨_, rfl, rfl, rfl⟩
set_option maxRecDepth 65536 in
set_option maxHeartbeats 40000000 in
theorem sat_new_4_2_2 (l : Launch) (Z : State) (a0 : Array Value) (hw : ∀ d ∈ tables_1, d.before a0 Z = true) (a r : Addr) (v0 v1 v2 v3 : Int64) (h0 : Heap) (n0 : Nat) (E1 : Exa Z h0 a "com/example/throttld/throttld/SlidingLog$Log") (F1 : Fld Z h0 a "com/example/throttld/throttld/SlidingLog$Log" "ring" "[J" (.ref r)) (F2 : Fld Z h0 a "com/example/throttld/throttld/SlidingLog$Log" "head" "I" (.int (2 : Int32))) (F3 : Fld Z h0 a "com/example/throttld/throttld/SlidingLog$Log" "count" "I" (.int (2 : Int32))) (A1 : Av Z h0 r .long [.long v0, .long v1, .long v2, .long v3]) (ga : n0 ≤ a) (gr : n0 ≤ r) :
    Sat l Z (⟨"com/example/throttld/throttld/SlidingLog$Log", "newest", "()J"⟩ : MethodName) prog_33_method_4_code 1 (some .long) ({ frames := 1, cells := 0, slots := 0, locals := 15 } : Room) [.ref a] h0 n0 (RV fun q h => q = .long v3 ∧ h = h0) := by
  refine sat_of (own := "com/example/throttld/throttld/SlidingLog$Log") (nm := "newest") rfl rfl (plainFor_of_name pn_1) #[.val (.ref a)] (fun m => by first | (simp [entryFrame, mkF, argsToLocals, Value.category, maxLocals]; done) | rfl) ?_
  intro p e s m below meth c C
  refine go_aloadN C d10_0 (pc' := 1) rfl rfl rfl ?_
  refine go_getfield C (wd hw 25 rfl) F1 d10_1 (pc' := 4) rfl ?_
  refine go_aloadN C d10_4 (pc' := 5) rfl rfl rfl ?_
  refine go_aloadN C d10_5 (pc' := 6) rfl rfl rfl ?_
  refine go_getfield C (wd hw 32 rfl) F3 d10_6 (pc' := 9) rfl ?_
  refine go_iconst C (1 : Int32) d10_9 (pc' := 10) rfl (by decide) ?_
  refine go_isub C d10_10 (pc' := 11) rfl ?_
  rw [(by decide : (2 : Int32) - (1 : Int32) = (1 : Int32))]
  refine go_privateP C (as := [.int (1 : Int32)]) (rest := [.ref r]) (W := 1) (.int (3 : Int32)) (sat_slot l Z a0 hw a r (4 : Int32) (2 : Int32) (1 : Int32) (3 : Int32) _ _ _ F1 F2 A1 rfl (by decide)) E1 (wd hw 40 rfl) (wd hw 42 rfl) (own_selects_private (wd hw 11 rfl) (wd hw 42 rfl) (wd hw 41 rfl) (by decide)) (wd hw 41 rfl) (wd hw 12 rfl) (wd hw 43 rfl) (by decide) pd_5 rfl rfl rfl (by decide) (by decide) rfl rfl (by decide) (by decide) d10_11 (pc' := 14) rfl rfl ?_
  refine go_laload C A1 3 (.long v3) (by decide) rfl d10_14 (pc' := 15) rfl ?_
  refine go_lreturn C rfl d10_15 (by decide) (by decide) ?_
  exact ⟨_, rfl, rfl, rfl⟩
set_option maxRecDepth 65536 in
set_option maxHeartbeats 40000000 in
theorem sat_new_4_3_1 (l : Launch) (Z : State) (a0 : Array Value) (hw : ∀ d ∈ tables_1, d.before a0 Z = true) (a r : Addr) (v0 v1 v2 v3 : Int64) (h0 : Heap) (n0 : Nat) (E1 : Exa Z h0 a "com/example/throttld/throttld/SlidingLog$Log") (F1 : Fld Z h0 a "com/example/throttld/throttld/SlidingLog$Log" "ring" "[J" (.ref r)) (F2 : Fld Z h0 a "com/example/throttld/throttld/SlidingLog$Log" "head" "I" (.int (3 : Int32))) (F3 : Fld Z h0 a "com/example/throttld/throttld/SlidingLog$Log" "count" "I" (.int (1 : Int32))) (A1 : Av Z h0 r .long [.long v0, .long v1, .long v2, .long v3]) (ga : n0 ≤ a) (gr : n0 ≤ r) :
    Sat l Z (⟨"com/example/throttld/throttld/SlidingLog$Log", "newest", "()J"⟩ : MethodName) prog_33_method_4_code 1 (some .long) ({ frames := 1, cells := 0, slots := 0, locals := 15 } : Room) [.ref a] h0 n0 (RV fun q h => q = .long v3 ∧ h = h0) := by
  refine sat_of (own := "com/example/throttld/throttld/SlidingLog$Log") (nm := "newest") rfl rfl (plainFor_of_name pn_1) #[.val (.ref a)] (fun m => by first | (simp [entryFrame, mkF, argsToLocals, Value.category, maxLocals]; done) | rfl) ?_
  intro p e s m below meth c C
  refine go_aloadN C d10_0 (pc' := 1) rfl rfl rfl ?_
  refine go_getfield C (wd hw 25 rfl) F1 d10_1 (pc' := 4) rfl ?_
  refine go_aloadN C d10_4 (pc' := 5) rfl rfl rfl ?_
  refine go_aloadN C d10_5 (pc' := 6) rfl rfl rfl ?_
  refine go_getfield C (wd hw 32 rfl) F3 d10_6 (pc' := 9) rfl ?_
  refine go_iconst C (1 : Int32) d10_9 (pc' := 10) rfl (by decide) ?_
  refine go_isub C d10_10 (pc' := 11) rfl ?_
  rw [(by decide : (1 : Int32) - (1 : Int32) = (0 : Int32))]
  refine go_privateP C (as := [.int (0 : Int32)]) (rest := [.ref r]) (W := 1) (.int (3 : Int32)) (sat_slot l Z a0 hw a r (4 : Int32) (3 : Int32) (0 : Int32) (3 : Int32) _ _ _ F1 F2 A1 rfl (by decide)) E1 (wd hw 40 rfl) (wd hw 42 rfl) (own_selects_private (wd hw 11 rfl) (wd hw 42 rfl) (wd hw 41 rfl) (by decide)) (wd hw 41 rfl) (wd hw 12 rfl) (wd hw 43 rfl) (by decide) pd_5 rfl rfl rfl (by decide) (by decide) rfl rfl (by decide) (by decide) d10_11 (pc' := 14) rfl rfl ?_
  refine go_laload C A1 3 (.long v3) (by decide) rfl d10_14 (pc' := 15) rfl ?_
  refine go_lreturn C rfl d10_15 (by decide) (by decide) ?_
  exact ⟨_, rfl, rfl, rfl⟩
set_option maxRecDepth 65536 in
set_option maxHeartbeats 40000000 in
theorem sat_old_4_0_1 (l : Launch) (Z : State) (a0 : Array Value) (hw : ∀ d ∈ tables_1, d.before a0 Z = true) (a r : Addr) (v0 v1 v2 v3 : Int64) (h0 : Heap) (n0 : Nat) (E1 : Exa Z h0 a "com/example/throttld/throttld/SlidingLog$Log") (F1 : Fld Z h0 a "com/example/throttld/throttld/SlidingLog$Log" "ring" "[J" (.ref r)) (F2 : Fld Z h0 a "com/example/throttld/throttld/SlidingLog$Log" "head" "I" (.int (0 : Int32))) (F3 : Fld Z h0 a "com/example/throttld/throttld/SlidingLog$Log" "count" "I" (.int (1 : Int32))) (A1 : Av Z h0 r .long [.long v0, .long v1, .long v2, .long v3]) (ga : n0 ≤ a) (gr : n0 ≤ r) :
    Sat l Z (⟨"com/example/throttld/throttld/SlidingLog$Log", "oldest", "()J"⟩ : MethodName) prog_33_method_3_code 1 (some .long) ({ frames := 0, cells := 0, slots := 0, locals := 0 } : Room) [.ref a] h0 n0 (RV fun q h => q = .long v0 ∧ h = h0) := by
  refine sat_of (own := "com/example/throttld/throttld/SlidingLog$Log") (nm := "oldest") rfl rfl (plainFor_of_name pn_1) #[.val (.ref a)] (fun m => by first | (simp [entryFrame, mkF, argsToLocals, Value.category, maxLocals]; done) | rfl) ?_
  intro p e s m below meth c C
  refine go_aloadN C d9_0 (pc' := 1) rfl rfl rfl ?_
  refine go_getfield C (wd hw 25 rfl) F1 d9_1 (pc' := 4) rfl ?_
  refine go_aloadN C d9_4 (pc' := 5) rfl rfl rfl ?_
  refine go_getfield C (wd hw 44 rfl) F2 d9_5 (pc' := 8) rfl ?_
  refine go_laload C A1 0 (.long v0) (by decide) rfl d9_8 (pc' := 9) rfl ?_
  refine go_lreturn C rfl d9_9 (by decide) (by decide) ?_
  exact ⟨_, rfl, rfl, rfl⟩
set_option maxRecDepth 65536 in
set_option maxHeartbeats 40000000 in
theorem sat_old_4_0_2 (l : Launch) (Z : State) (a0 : Array Value) (hw : ∀ d ∈ tables_1, d.before a0 Z = true) (a r : Addr) (v0 v1 v2 v3 : Int64) (h0 : Heap) (n0 : Nat) (E1 : Exa Z h0 a "com/example/throttld/throttld/SlidingLog$Log") (F1 : Fld Z h0 a "com/example/throttld/throttld/SlidingLog$Log" "ring" "[J" (.ref r)) (F2 : Fld Z h0 a "com/example/throttld/throttld/SlidingLog$Log" "head" "I" (.int (0 : Int32))) (F3 : Fld Z h0 a "com/example/throttld/throttld/SlidingLog$Log" "count" "I" (.int (2 : Int32))) (A1 : Av Z h0 r .long [.long v0, .long v1, .long v2, .long v3]) (ga : n0 ≤ a) (gr : n0 ≤ r) :
    Sat l Z (⟨"com/example/throttld/throttld/SlidingLog$Log", "oldest", "()J"⟩ : MethodName) prog_33_method_3_code 1 (some .long) ({ frames := 0, cells := 0, slots := 0, locals := 0 } : Room) [.ref a] h0 n0 (RV fun q h => q = .long v0 ∧ h = h0) := by
  refine sat_of (own := "com/example/throttld/throttld/SlidingLog$Log") (nm := "oldest") rfl rfl (plainFor_of_name pn_1) #[.val (.ref a)] (fun m => by first | (simp [entryFrame, mkF, argsToLocals, Value.category, maxLocals]; done) | rfl) ?_
  intro p e s m below meth c C
  refine go_aloadN C d9_0 (pc' := 1) rfl rfl rfl ?_
  refine go_getfield C (wd hw 25 rfl) F1 d9_1 (pc' := 4) rfl ?_
  refine go_aloadN C d9_4 (pc' := 5) rfl rfl rfl ?_
  refine go_getfield C (wd hw 44 rfl) F2 d9_5 (pc' := 8) rfl ?_
  refine go_laload C A1 0 (.long v0) (by decide) rfl d9_8 (pc' := 9) rfl ?_
  refine go_lreturn C rfl d9_9 (by decide) (by decide) ?_
  exact ⟨_, rfl, rfl, rfl⟩
set_option maxRecDepth 65536 in
set_option maxHeartbeats 40000000 in
theorem sat_old_4_0_3 (l : Launch) (Z : State) (a0 : Array Value) (hw : ∀ d ∈ tables_1, d.before a0 Z = true) (a r : Addr) (v0 v1 v2 v3 : Int64) (h0 : Heap) (n0 : Nat) (E1 : Exa Z h0 a "com/example/throttld/throttld/SlidingLog$Log") (F1 : Fld Z h0 a "com/example/throttld/throttld/SlidingLog$Log" "ring" "[J" (.ref r)) (F2 : Fld Z h0 a "com/example/throttld/throttld/SlidingLog$Log" "head" "I" (.int (0 : Int32))) (F3 : Fld Z h0 a "com/example/throttld/throttld/SlidingLog$Log" "count" "I" (.int (3 : Int32))) (A1 : Av Z h0 r .long [.long v0, .long v1, .long v2, .long v3]) (ga : n0 ≤ a) (gr : n0 ≤ r) :
    Sat l Z (⟨"com/example/throttld/throttld/SlidingLog$Log", "oldest", "()J"⟩ : MethodName) prog_33_method_3_code 1 (some .long) ({ frames := 0, cells := 0, slots := 0, locals := 0 } : Room) [.ref a] h0 n0 (RV fun q h => q = .long v0 ∧ h = h0) := by
  refine sat_of (own := "com/example/throttld/throttld/SlidingLog$Log") (nm := "oldest") rfl rfl (plainFor_of_name pn_1) #[.val (.ref a)] (fun m => by first | (simp [entryFrame, mkF, argsToLocals, Value.category, maxLocals]; done) | rfl) ?_
  intro p e s m below meth c C
  refine go_aloadN C d9_0 (pc' := 1) rfl rfl rfl ?_
  refine go_getfield C (wd hw 25 rfl) F1 d9_1 (pc' := 4) rfl ?_
  refine go_aloadN C d9_4 (pc' := 5) rfl rfl rfl ?_
  refine go_getfield C (wd hw 44 rfl) F2 d9_5 (pc' := 8) rfl ?_
  refine go_laload C A1 0 (.long v0) (by decide) rfl d9_8 (pc' := 9) rfl ?_
  refine go_lreturn C rfl d9_9 (by decide) (by decide) ?_
  exact ⟨_, rfl, rfl, rfl⟩
set_option maxRecDepth 65536 in
set_option maxHeartbeats 40000000 in
theorem sat_old_4_0_4 (l : Launch) (Z : State) (a0 : Array Value) (hw : ∀ d ∈ tables_1, d.before a0 Z = true) (a r : Addr) (v0 v1 v2 v3 : Int64) (h0 : Heap) (n0 : Nat) (E1 : Exa Z h0 a "com/example/throttld/throttld/SlidingLog$Log") (F1 : Fld Z h0 a "com/example/throttld/throttld/SlidingLog$Log" "ring" "[J" (.ref r)) (F2 : Fld Z h0 a "com/example/throttld/throttld/SlidingLog$Log" "head" "I" (.int (0 : Int32))) (F3 : Fld Z h0 a "com/example/throttld/throttld/SlidingLog$Log" "count" "I" (.int (4 : Int32))) (A1 : Av Z h0 r .long [.long v0, .long v1, .long v2, .long v3]) (ga : n0 ≤ a) (gr : n0 ≤ r) :
    Sat l Z (⟨"com/example/throttld/throttld/SlidingLog$Log", "oldest", "()J"⟩ : MethodName) prog_33_method_3_code 1 (some .long) ({ frames := 0, cells := 0, slots := 0, locals := 0 } : Room) [.ref a] h0 n0 (RV fun q h => q = .long v0 ∧ h = h0) := by
  refine sat_of (own := "com/example/throttld/throttld/SlidingLog$Log") (nm := "oldest") rfl rfl (plainFor_of_name pn_1) #[.val (.ref a)] (fun m => by first | (simp [entryFrame, mkF, argsToLocals, Value.category, maxLocals]; done) | rfl) ?_
  intro p e s m below meth c C
  refine go_aloadN C d9_0 (pc' := 1) rfl rfl rfl ?_
  refine go_getfield C (wd hw 25 rfl) F1 d9_1 (pc' := 4) rfl ?_
  refine go_aloadN C d9_4 (pc' := 5) rfl rfl rfl ?_
  refine go_getfield C (wd hw 44 rfl) F2 d9_5 (pc' := 8) rfl ?_
  refine go_laload C A1 0 (.long v0) (by decide) rfl d9_8 (pc' := 9) rfl ?_
  refine go_lreturn C rfl d9_9 (by decide) (by decide) ?_
  exact ⟨_, rfl, rfl, rfl⟩
set_option maxRecDepth 65536 in
set_option maxHeartbeats 40000000 in
theorem sat_old_4_1_1 (l : Launch) (Z : State) (a0 : Array Value) (hw : ∀ d ∈ tables_1, d.before a0 Z = true) (a r : Addr) (v0 v1 v2 v3 : Int64) (h0 : Heap) (n0 : Nat) (E1 : Exa Z h0 a "com/example/throttld/throttld/SlidingLog$Log") (F1 : Fld Z h0 a "com/example/throttld/throttld/SlidingLog$Log" "ring" "[J" (.ref r)) (F2 : Fld Z h0 a "com/example/throttld/throttld/SlidingLog$Log" "head" "I" (.int (1 : Int32))) (F3 : Fld Z h0 a "com/example/throttld/throttld/SlidingLog$Log" "count" "I" (.int (1 : Int32))) (A1 : Av Z h0 r .long [.long v0, .long v1, .long v2, .long v3]) (ga : n0 ≤ a) (gr : n0 ≤ r) :
    Sat l Z (⟨"com/example/throttld/throttld/SlidingLog$Log", "oldest", "()J"⟩ : MethodName) prog_33_method_3_code 1 (some .long) ({ frames := 0, cells := 0, slots := 0, locals := 0 } : Room) [.ref a] h0 n0 (RV fun q h => q = .long v1 ∧ h = h0) := by
  refine sat_of (own := "com/example/throttld/throttld/SlidingLog$Log") (nm := "oldest") rfl rfl (plainFor_of_name pn_1) #[.val (.ref a)] (fun m => by first | (simp [entryFrame, mkF, argsToLocals, Value.category, maxLocals]; done) | rfl) ?_
  intro p e s m below meth c C
  refine go_aloadN C d9_0 (pc' := 1) rfl rfl rfl ?_
  refine go_getfield C (wd hw 25 rfl) F1 d9_1 (pc' := 4) rfl ?_
  refine go_aloadN C d9_4 (pc' := 5) rfl rfl rfl ?_
  refine go_getfield C (wd hw 44 rfl) F2 d9_5 (pc' := 8) rfl ?_
  refine go_laload C A1 1 (.long v1) (by decide) rfl d9_8 (pc' := 9) rfl ?_
  refine go_lreturn C rfl d9_9 (by decide) (by decide) ?_
  exact ⟨_, rfl, rfl, rfl⟩
set_option maxRecDepth 65536 in
set_option maxHeartbeats 40000000 in
theorem sat_old_4_1_2 (l : Launch) (Z : State) (a0 : Array Value) (hw : ∀ d ∈ tables_1, d.before a0 Z = true) (a r : Addr) (v0 v1 v2 v3 : Int64) (h0 : Heap) (n0 : Nat) (E1 : Exa Z h0 a "com/example/throttld/throttld/SlidingLog$Log") (F1 : Fld Z h0 a "com/example/throttld/throttld/SlidingLog$Log" "ring" "[J" (.ref r)) (F2 : Fld Z h0 a "com/example/throttld/throttld/SlidingLog$Log" "head" "I" (.int (1 : Int32))) (F3 : Fld Z h0 a "com/example/throttld/throttld/SlidingLog$Log" "count" "I" (.int (2 : Int32))) (A1 : Av Z h0 r .long [.long v0, .long v1, .long v2, .long v3]) (ga : n0 ≤ a) (gr : n0 ≤ r) :
    Sat l Z (⟨"com/example/throttld/throttld/SlidingLog$Log", "oldest", "()J"⟩ : MethodName) prog_33_method_3_code 1 (some .long) ({ frames := 0, cells := 0, slots := 0, locals := 0 } : Room) [.ref a] h0 n0 (RV fun q h => q = .long v1 ∧ h = h0) := by
  refine sat_of (own := "com/example/throttld/throttld/SlidingLog$Log") (nm := "oldest") rfl rfl (plainFor_of_name pn_1) #[.val (.ref a)] (fun m => by first | (simp [entryFrame, mkF, argsToLocals, Value.category, maxLocals]; done) | rfl) ?_
  intro p e s m below meth c C
  refine go_aloadN C d9_0 (pc' := 1) rfl rfl rfl ?_
  refine go_getfield C (wd hw 25 rfl) F1 d9_1 (pc' := 4) rfl ?_
  refine go_aloadN C d9_4 (pc' := 5) rfl rfl rfl ?_
  refine go_getfield C (wd hw 44 rfl) F2 d9_5 (pc' := 8) rfl ?_
  refine go_laload C A1 1 (.long v1) (by decide) rfl d9_8 (pc' := 9) rfl ?_
  refine go_lreturn C rfl d9_9 (by decide) (by decide) ?_
  exact ⟨_, rfl, rfl, rfl⟩
set_option maxRecDepth 65536 in
set_option maxHeartbeats 40000000 in
theorem sat_old_4_1_3 (l : Launch) (Z : State) (a0 : Array Value) (hw : ∀ d ∈ tables_1, d.before a0 Z = true) (a r : Addr) (v0 v1 v2 v3 : Int64) (h0 : Heap) (n0 : Nat) (E1 : Exa Z h0 a "com/example/throttld/throttld/SlidingLog$Log") (F1 : Fld Z h0 a "com/example/throttld/throttld/SlidingLog$Log" "ring" "[J" (.ref r)) (F2 : Fld Z h0 a "com/example/throttld/throttld/SlidingLog$Log" "head" "I" (.int (1 : Int32))) (F3 : Fld Z h0 a "com/example/throttld/throttld/SlidingLog$Log" "count" "I" (.int (3 : Int32))) (A1 : Av Z h0 r .long [.long v0, .long v1, .long v2, .long v3]) (ga : n0 ≤ a) (gr : n0 ≤ r) :
    Sat l Z (⟨"com/example/throttld/throttld/SlidingLog$Log", "oldest", "()J"⟩ : MethodName) prog_33_method_3_code 1 (some .long) ({ frames := 0, cells := 0, slots := 0, locals := 0 } : Room) [.ref a] h0 n0 (RV fun q h => q = .long v1 ∧ h = h0) := by
  refine sat_of (own := "com/example/throttld/throttld/SlidingLog$Log") (nm := "oldest") rfl rfl (plainFor_of_name pn_1) #[.val (.ref a)] (fun m => by first | (simp [entryFrame, mkF, argsToLocals, Value.category, maxLocals]; done) | rfl) ?_
  intro p e s m below meth c C
  refine go_aloadN C d9_0 (pc' := 1) rfl rfl rfl ?_
  refine go_getfield C (wd hw 25 rfl) F1 d9_1 (pc' := 4) rfl ?_
  refine go_aloadN C d9_4 (pc' := 5) rfl rfl rfl ?_
  refine go_getfield C (wd hw 44 rfl) F2 d9_5 (pc' := 8) rfl ?_
  refine go_laload C A1 1 (.long v1) (by decide) rfl d9_8 (pc' := 9) rfl ?_
  refine go_lreturn C rfl d9_9 (by decide) (by decide) ?_
  exact ⟨_, rfl, rfl, rfl⟩
set_option maxRecDepth 65536 in
set_option maxHeartbeats 40000000 in
theorem sat_old_4_2_1 (l : Launch) (Z : State) (a0 : Array Value) (hw : ∀ d ∈ tables_1, d.before a0 Z = true) (a r : Addr) (v0 v1 v2 v3 : Int64) (h0 : Heap) (n0 : Nat) (E1 : Exa Z h0 a "com/example/throttld/throttld/SlidingLog$Log") (F1 : Fld Z h0 a "com/example/throttld/throttld/SlidingLog$Log" "ring" "[J" (.ref r)) (F2 : Fld Z h0 a "com/example/throttld/throttld/SlidingLog$Log" "head" "I" (.int (2 : Int32))) (F3 : Fld Z h0 a "com/example/throttld/throttld/SlidingLog$Log" "count" "I" (.int (1 : Int32))) (A1 : Av Z h0 r .long [.long v0, .long v1, .long v2, .long v3]) (ga : n0 ≤ a) (gr : n0 ≤ r) :
    Sat l Z (⟨"com/example/throttld/throttld/SlidingLog$Log", "oldest", "()J"⟩ : MethodName) prog_33_method_3_code 1 (some .long) ({ frames := 0, cells := 0, slots := 0, locals := 0 } : Room) [.ref a] h0 n0 (RV fun q h => q = .long v2 ∧ h = h0) := by
  refine sat_of (own := "com/example/throttld/throttld/SlidingLog$Log") (nm := "oldest") rfl rfl (plainFor_of_name pn_1) #[.val (.ref a)] (fun m => by first | (simp [entryFrame, mkF, argsToLocals, Value.category, maxLocals]; done) | rfl) ?_
  intro p e s m below meth c C
  refine go_aloadN C d9_0 (pc' := 1) rfl rfl rfl ?_
  refine go_getfield C (wd hw 25 rfl) F1 d9_1 (pc' := 4) rfl ?_
  refine go_aloadN C d9_4 (pc' := 5) rfl rfl rfl ?_
  refine go_getfield C (wd hw 44 rfl) F2 d9_5 (pc' := 8) rfl ?_
  refine go_laload C A1 2 (.long v2) (by decide) rfl d9_8 (pc' := 9) rfl ?_
  refine go_lreturn C rfl d9_9 (by decide) (by decide) ?_
  exact ⟨_, rfl, rfl, rfl⟩
set_option maxRecDepth 65536 in
set_option maxHeartbeats 40000000 in
theorem sat_old_4_2_2 (l : Launch) (Z : State) (a0 : Array Value) (hw : ∀ d ∈ tables_1, d.before a0 Z = true) (a r : Addr) (v0 v1 v2 v3 : Int64) (h0 : Heap) (n0 : Nat) (E1 : Exa Z h0 a "com/example/throttld/throttld/SlidingLog$Log") (F1 : Fld Z h0 a "com/example/throttld/throttld/SlidingLog$Log" "ring" "[J" (.ref r)) (F2 : Fld Z h0 a "com/example/throttld/throttld/SlidingLog$Log" "head" "I" (.int (2 : Int32))) (F3 : Fld Z h0 a "com/example/throttld/throttld/SlidingLog$Log" "count" "I" (.int (2 : Int32))) (A1 : Av Z h0 r .long [.long v0, .long v1, .long v2, .long v3]) (ga : n0 ≤ a) (gr : n0 ≤ r) :
    Sat l Z (⟨"com/example/throttld/throttld/SlidingLog$Log", "oldest", "()J"⟩ : MethodName) prog_33_method_3_code 1 (some .long) ({ frames := 0, cells := 0, slots := 0, locals := 0 } : Room) [.ref a] h0 n0 (RV fun q h => q = .long v2 ∧ h = h0) := by
  refine sat_of (own := "com/example/throttld/throttld/SlidingLog$Log") (nm := "oldest") rfl rfl (plainFor_of_name pn_1) #[.val (.ref a)] (fun m => by first | (simp [entryFrame, mkF, argsToLocals, Value.category, maxLocals]; done) | rfl) ?_
  intro p e s m below meth c C
  refine go_aloadN C d9_0 (pc' := 1) rfl rfl rfl ?_
  refine go_getfield C (wd hw 25 rfl) F1 d9_1 (pc' := 4) rfl ?_
  refine go_aloadN C d9_4 (pc' := 5) rfl rfl rfl ?_
  refine go_getfield C (wd hw 44 rfl) F2 d9_5 (pc' := 8) rfl ?_
  refine go_laload C A1 2 (.long v2) (by decide) rfl d9_8 (pc' := 9) rfl ?_
  refine go_lreturn C rfl d9_9 (by decide) (by decide) ?_
  exact ⟨_, rfl, rfl, rfl⟩
set_option maxRecDepth 65536 in
set_option maxHeartbeats 40000000 in
theorem sat_old_4_3_1 (l : Launch) (Z : State) (a0 : Array Value) (hw : ∀ d ∈ tables_1, d.before a0 Z = true) (a r : Addr) (v0 v1 v2 v3 : Int64) (h0 : Heap) (n0 : Nat) (E1 : Exa Z h0 a "com/example/throttld/throttld/SlidingLog$Log") (F1 : Fld Z h0 a "com/example/throttld/throttld/SlidingLog$Log" "ring" "[J" (.ref r)) (F2 : Fld Z h0 a "com/example/throttld/throttld/SlidingLog$Log" "head" "I" (.int (3 : Int32))) (F3 : Fld Z h0 a "com/example/throttld/throttld/SlidingLog$Log" "count" "I" (.int (1 : Int32))) (A1 : Av Z h0 r .long [.long v0, .long v1, .long v2, .long v3]) (ga : n0 ≤ a) (gr : n0 ≤ r) :
    Sat l Z (⟨"com/example/throttld/throttld/SlidingLog$Log", "oldest", "()J"⟩ : MethodName) prog_33_method_3_code 1 (some .long) ({ frames := 0, cells := 0, slots := 0, locals := 0 } : Room) [.ref a] h0 n0 (RV fun q h => q = .long v3 ∧ h = h0) := by
  refine sat_of (own := "com/example/throttld/throttld/SlidingLog$Log") (nm := "oldest") rfl rfl (plainFor_of_name pn_1) #[.val (.ref a)] (fun m => by first | (simp [entryFrame, mkF, argsToLocals, Value.category, maxLocals]; done) | rfl) ?_
  intro p e s m below meth c C
  refine go_aloadN C d9_0 (pc' := 1) rfl rfl rfl ?_
  refine go_getfield C (wd hw 25 rfl) F1 d9_1 (pc' := 4) rfl ?_
  refine go_aloadN C d9_4 (pc' := 5) rfl rfl rfl ?_
  refine go_getfield C (wd hw 44 rfl) F2 d9_5 (pc' := 8) rfl ?_
  refine go_laload C A1 3 (.long v3) (by decide) rfl d9_8 (pc' := 9) rfl ?_
  refine go_lreturn C rfl d9_9 (by decide) (by decide) ?_
  exact ⟨_, rfl, rfl, rfl⟩
set_option maxRecDepth 65536 in
set_option maxHeartbeats 40000000 in
theorem law_sat (l : Launch) (Z : State) (a0 : Array Value) (hw : ∀ d ∈ tables_1, d.before a0 Z = true) (x0 x1 : Int64) (x2 : Int32)  :
    Sat l Z x code maxLocals ret room_1 [.long x0, .long x1, .int x2] Z.heap Z.heap.size (RV fun r _ => r = .int 1) := by
  refine sat_of (own := "com/example/throttld/throttld/LogDropAgedOutPinLaw") (nm := "law") rfl rfl (plainFor_of_name pn_0) #[.val (.long x0), .second, .val (.long x1), .second, .val (.int x2), .unset, .unset, .unset, .unset, .unset, .unset, .unset, .unset, .unset, .unset, .unset, .unset, .unset, .unset, .unset, .unset, .unset, .unset, .unset, .unset, .unset, .unset, .unset, .unset, .unset] (fun m => by first | (simp [entryFrame, mkF, argsToLocals, Value.category, maxLocals]; done) | rfl) ?_
  intro p e s m below meth c C
  refine go_lloadN C at_0 (pc' := 1) rfl rfl ?_
  refine go_ldc2 C (v := (9223372036854775807 : Int64)) (wd hw 0 rfl) at_1 (pc' := 4) rfl ?_
  refine go_land C at_4 (pc' := 5) rfl ?_
  refine go_lstore C (Ls' := #[.val (.long x0), .second, .val (.long x1), .second, .val (.int x2), .val (.long (x1 &&& (9223372036854775807 : Int64))), .second, .unset, .unset, .unset, .unset, .unset, .unset, .unset, .unset, .unset, .unset, .unset, .unset, .unset, .unset, .unset, .unset, .unset, .unset, .unset, .unset, .unset, .unset, .unset]) at_5 (pc' := 7) rfl rfl ?_
  have j17 : ∀ win : Int64, Go p l e room_1 s m ([.long x0, .long x1, .int x2] : List Value).toArray below meth c Z.heap.size (RV fun r _ => r = .int 1) room_1.cells room_1.slots Z.heap 0 0 (mkF m 17 #[.val (.long x0), .second, .val (.long x1), .second, .val (.int x2), .val (.long win), .second, .unset, .unset, .unset, .unset, .unset, .unset, .unset, .unset, .unset, .unset, .unset, .unset, .unset, .unset, .unset, .unset, .unset, .unset, .unset, .unset, .unset, .unset, .unset] []) := by
    intro win
    refine go_lconst C (0 : Int64) at_17 (pc' := 18) rfl (by decide) ?_
    refine go_lload C at_18 (pc' := 20) rfl rfl ?_
    refine go_ldc2 C (v := (32 : Int64)) (wd hw 1 rfl) at_20 (pc' := 23) rfl ?_
    refine go_lsub C at_23 (pc' := 24) rfl ?_
    refine go_staticP C (as := [.long (0 : Int64), .long (win - (32 : Int64))]) (rest := []) (W := 0) (.long (o_maxL (0 : Int64) (win - (32 : Int64)))) (sat_maxL l Z a0 hw (0 : Int64) (win - (32 : Int64)) (o_maxL (0 : Int64) (win - (32 : Int64))) _ _ rfl) (wd hw 2 rfl) (wd hw 3 rfl) (wd hw 4 rfl) (wd hw 5 rfl) (by decide) pd_1 rfl rfl rfl (by decide) (by decide) rfl rfl (by decide) (by decide) at_24 (pc' := 27) rfl rfl ?_
    refine go_ldc2 C (v := (9223372036854775744 : Int64)) (wd hw 6 rfl) at_27 (pc' := 30) rfl ?_
    refine go_staticP C (as := [.long (o_maxL (0 : Int64) (win - (32 : Int64))), .long (9223372036854775744 : Int64)]) (rest := []) (W := 0) (.long (o_minL (o_maxL (0 : Int64) (win - (32 : Int64))) (9223372036854775744 : Int64))) (sat_minL l Z a0 hw (o_maxL (0 : Int64) (win - (32 : Int64))) (9223372036854775744 : Int64) (o_minL (o_maxL (0 : Int64) (win - (32 : Int64))) (9223372036854775744 : Int64)) _ _ rfl) (wd hw 7 rfl) (wd hw 8 rfl) (wd hw 4 rfl) (wd hw 9 rfl) (by decide) pd_1 rfl rfl rfl (by decide) (by decide) rfl rfl (by decide) (by decide) at_30 (pc' := 33) rfl rfl ?_
    refine go_lstore C (Ls' := #[.val (.long x0), .second, .val (.long x1), .second, .val (.int x2), .val (.long win), .second, .val (.long (o_minL (o_maxL (0 : Int64) (win - (32 : Int64))) (9223372036854775744 : Int64))), .second, .unset, .unset, .unset, .unset, .unset, .unset, .unset, .unset, .unset, .unset, .unset, .unset, .unset, .unset, .unset, .unset, .unset, .unset, .unset, .unset, .unset]) at_33 (pc' := 35) rfl rfl ?_
    have hb := own_base (win - (32 : Int64))
    generalize o_minL (o_maxL (0 : Int64) (win - (32 : Int64))) (9223372036854775744 : Int64) = bb at hb ⊢
    refine go_lload C at_35 (pc' := 37) rfl rfl ?_
    refine go_iload C at_37 (pc' := 39) rfl rfl ?_
    refine go_bipush C (15 : Int32) at_39 (pc' := 41) rfl (by decide) ?_
    refine go_iand C at_41 (pc' := 42) rfl ?_
    refine go_i2l C at_42 (pc' := 43) rfl ?_
    refine go_ladd C at_43 (pc' := 44) rfl ?_
    refine go_lstore C (Ls' := #[.val (.long x0), .second, .val (.long x1), .second, .val (.int x2), .val (.long win), .second, .val (.long bb), .second, .val (.long (bb + ((x2 &&& (15 : Int32)).toInt64))), .second, .unset, .unset, .unset, .unset, .unset, .unset, .unset, .unset, .unset, .unset, .unset, .unset, .unset, .unset, .unset, .unset, .unset, .unset, .unset]) at_44 (pc' := 46) rfl rfl ?_
    have q3 := own_age bb x2 (by omega) (by omega)
    generalize bb + ((x2 &&& (15 : Int32)).toInt64) = g3 at q3 ⊢
    refine go_lload C at_46 (pc' := 48) rfl rfl ?_
    refine go_lconst C (1 : Int64) at_48 (pc' := 49) rfl (by decide) ?_
    refine go_ladd C at_49 (pc' := 50) rfl ?_
    refine go_iload C at_50 (pc' := 52) rfl rfl ?_
    refine go_iconst C (4 : Int32) at_52 (pc' := 53) rfl (by decide) ?_
    refine go_iushr C at_53 (pc' := 54) rfl ?_
    refine go_bipush C (15 : Int32) at_54 (pc' := 56) rfl (by decide) ?_
    refine go_iand C at_56 (pc' := 57) rfl ?_
    refine go_i2l C at_57 (pc' := 58) rfl ?_
    refine go_ladd C at_58 (pc' := 59) rfl ?_
    refine go_lstore C (Ls' := #[.val (.long x0), .second, .val (.long x1), .second, .val (.int x2), .val (.long win), .second, .val (.long bb), .second, .val (.long g3), .second, .val (.long ((g3 + (1 : Int64)) + (((XT.ushr x2 (4 : Int32)) &&& (15 : Int32)).toInt64))), .second, .unset, .unset, .unset, .unset, .unset, .unset, .unset, .unset, .unset, .unset, .unset, .unset, .unset, .unset, .unset, .unset, .unset]) at_59 (pc' := 61) rfl rfl ?_
    have qg2 := own_age1 g3 (XT.ushr x2 (4 : Int32)) (by omega) (by omega)
    generalize (g3 + (1 : Int64)) + (((XT.ushr x2 (4 : Int32)) &&& (15 : Int32)).toInt64) = g2 at qg2 ⊢
    refine go_lload C at_61 (pc' := 63) rfl rfl ?_
    refine go_lconst C (1 : Int64) at_63 (pc' := 64) rfl (by decide) ?_
    refine go_ladd C at_64 (pc' := 65) rfl ?_
    refine go_iload C at_65 (pc' := 67) rfl rfl ?_
    refine go_bipush C (8 : Int32) at_67 (pc' := 69) rfl (by decide) ?_
    refine go_iushr C at_69 (pc' := 70) rfl ?_
    refine go_bipush C (15 : Int32) at_70 (pc' := 72) rfl (by decide) ?_
    refine go_iand C at_72 (pc' := 73) rfl ?_
    refine go_i2l C at_73 (pc' := 74) rfl ?_
    refine go_ladd C at_74 (pc' := 75) rfl ?_
    refine go_lstore C (Ls' := #[.val (.long x0), .second, .val (.long x1), .second, .val (.int x2), .val (.long win), .second, .val (.long bb), .second, .val (.long g3), .second, .val (.long g2), .second, .val (.long ((g2 + (1 : Int64)) + (((XT.ushr x2 (8 : Int32)) &&& (15 : Int32)).toInt64))), .second, .unset, .unset, .unset, .unset, .unset, .unset, .unset, .unset, .unset, .unset, .unset, .unset, .unset, .unset, .unset]) at_75 (pc' := 77) rfl rfl ?_
    have qg1 := own_age1 g2 (XT.ushr x2 (8 : Int32)) (by omega) (by omega)
    generalize (g2 + (1 : Int64)) + (((XT.ushr x2 (8 : Int32)) &&& (15 : Int32)).toInt64) = g1 at qg1 ⊢
    refine go_lload C at_77 (pc' := 79) rfl rfl ?_
    refine go_lconst C (1 : Int64) at_79 (pc' := 80) rfl (by decide) ?_
    refine go_ladd C at_80 (pc' := 81) rfl ?_
    refine go_iload C at_81 (pc' := 83) rfl rfl ?_
    refine go_bipush C (12 : Int32) at_83 (pc' := 85) rfl (by decide) ?_
    refine go_iushr C at_85 (pc' := 86) rfl ?_
    refine go_bipush C (15 : Int32) at_86 (pc' := 88) rfl (by decide) ?_
    refine go_iand C at_88 (pc' := 89) rfl ?_
    refine go_i2l C at_89 (pc' := 90) rfl ?_
    refine go_ladd C at_90 (pc' := 91) rfl ?_
    refine go_lstore C (Ls' := #[.val (.long x0), .second, .val (.long x1), .second, .val (.int x2), .val (.long win), .second, .val (.long bb), .second, .val (.long g3), .second, .val (.long g2), .second, .val (.long g1), .second, .val (.long ((g1 + (1 : Int64)) + (((XT.ushr x2 (12 : Int32)) &&& (15 : Int32)).toInt64))), .second, .unset, .unset, .unset, .unset, .unset, .unset, .unset, .unset, .unset, .unset, .unset, .unset, .unset]) at_91 (pc' := 93) rfl rfl ?_
    have qg0 := own_age1 g1 (XT.ushr x2 (12 : Int32)) (by omega) (by omega)
    generalize (g1 + (1 : Int64)) + (((XT.ushr x2 (12 : Int32)) &&& (15 : Int32)).toInt64) = g0 at qg0 ⊢
    refine go_iload C at_93 (pc' := 95) rfl rfl ?_
    refine go_bipush C (16 : Int32) at_95 (pc' := 97) rfl (by decide) ?_
    refine go_iushr C at_97 (pc' := 98) rfl ?_
    refine go_bipush C (7 : Int32) at_98 (pc' := 100) rfl (by decide) ?_
    refine go_iand C at_100 (pc' := 101) rfl ?_
    refine go_iconst C (5 : Int32) at_101 (pc' := 102) rfl (by decide) ?_
    refine go_irem C at_102 (pc' := 103) rfl (by decide) ?_
    refine go_istore C (Ls' := #[.val (.long x0), .second, .val (.long x1), .second, .val (.int x2), .val (.long win), .second, .val (.long bb), .second, .val (.long g3), .second, .val (.long g2), .second, .val (.long g1), .second, .val (.long g0), .second, .val (.int (((XT.ushr x2 (16 : Int32)) &&& (7 : Int32)) % (5 : Int32))), .unset, .unset, .unset, .unset, .unset, .unset, .unset, .unset, .unset, .unset, .unset, .unset]) at_103 (pc' := 105) rfl rfl ?_
    have sg0 := own_ss x0 g0
    have sg1 := own_ss x0 g1
    have sg2 := own_ss x0 g2
    have sg3 := own_ss x0 g3
    rcases own_k5 (XT.ushr x2 (16 : Int32)) with hn | hn | hn | hn | hn
    · rw [hn]
      refine go_lloadN C at_105 (pc' := 106) rfl rfl ?_
      refine go_lload C at_106 (pc' := 108) rfl rfl ?_
      refine go_lsub C at_108 (pc' := 109) rfl ?_
      refine go_lstore C (Ls' := #[.val (.long x0), .second, .val (.long x1), .second, .val (.int x2), .val (.long win), .second, .val (.long bb), .second, .val (.long g3), .second, .val (.long g2), .second, .val (.long g1), .second, .val (.long g0), .second, .val (.int (0 : Int32)), .val (.long (x0 - g0)), .second, .unset, .unset, .unset, .unset, .unset, .unset, .unset, .unset, .unset, .unset]) at_109 (pc' := 111) rfl rfl ?_
      refine go_lloadN C at_111 (pc' := 112) rfl rfl ?_
      refine go_lload C at_112 (pc' := 114) rfl rfl ?_
      refine go_lsub C at_114 (pc' := 115) rfl ?_
      refine go_lstore C (Ls' := #[.val (.long x0), .second, .val (.long x1), .second, .val (.int x2), .val (.long win), .second, .val (.long bb), .second, .val (.long g3), .second, .val (.long g2), .second, .val (.long g1), .second, .val (.long g0), .second, .val (.int (0 : Int32)), .val (.long (x0 - g0)), .second, .val (.long (x0 - g1)), .second, .unset, .unset, .unset, .unset, .unset, .unset, .unset, .unset]) at_115 (pc' := 117) rfl rfl ?_
      refine go_lloadN C at_117 (pc' := 118) rfl rfl ?_
      refine go_lload C at_118 (pc' := 120) rfl rfl ?_
      refine go_lsub C at_120 (pc' := 121) rfl ?_
      refine go_lstore C (Ls' := #[.val (.long x0), .second, .val (.long x1), .second, .val (.int x2), .val (.long win), .second, .val (.long bb), .second, .val (.long g3), .second, .val (.long g2), .second, .val (.long g1), .second, .val (.long g0), .second, .val (.int (0 : Int32)), .val (.long (x0 - g0)), .second, .val (.long (x0 - g1)), .second, .val (.long (x0 - g2)), .second, .unset, .unset, .unset, .unset, .unset, .unset]) at_121 (pc' := 123) rfl rfl ?_
      refine go_lloadN C at_123 (pc' := 124) rfl rfl ?_
      refine go_lload C at_124 (pc' := 126) rfl rfl ?_
      refine go_lsub C at_126 (pc' := 127) rfl ?_
      refine go_lstore C (Ls' := #[.val (.long x0), .second, .val (.long x1), .second, .val (.int x2), .val (.long win), .second, .val (.long bb), .second, .val (.long g3), .second, .val (.long g2), .second, .val (.long g1), .second, .val (.long g0), .second, .val (.int (0 : Int32)), .val (.long (x0 - g0)), .second, .val (.long (x0 - g1)), .second, .val (.long (x0 - g2)), .second, .val (.long (x0 - g3)), .second, .unset, .unset, .unset, .unset]) at_127 (pc' := 129) rfl rfl ?_
      refine go_new C (wd hw 10 rfl) (wd hw 11 rfl) (wd hw 12 rfl) at_129 (pc' := 132) rfl (ce' := 1) (sl' := 7) rfl rfl (by decide) (by decide) ?_
      intro h_1 a_2 g_3 E_4 E_5 D_6
      have g_7 : Z.heap.size ≤ a_2 := own_ge (Nat.le_refl _) g_3
      have z_8 : Z.heap.size ≤ h_1.size := Nat.le_trans (Nat.le_refl _) E_4.1
      have F_9 : Fld Z h_1 a_2 "com/example/throttld/throttld/SlidingLog$Log" "ring" "[J" (.null) := D_6 (Or.inl (wd hw 26 rfl)) (ty := (.array .long)) (by decide)
      have F_10 : Fld Z h_1 a_2 "com/example/throttld/throttld/SlidingLog$Log" "count" "I" (.int (0 : Int32)) := D_6 (Or.inl (wd hw 33 rfl)) (ty := .int) (by decide)
      have F_11 : Fld Z h_1 a_2 "com/example/throttld/throttld/SlidingLog$Log" "head" "I" (.int (0 : Int32)) := D_6 (Or.inl (wd hw 45 rfl)) (ty := .int) (by decide)
      refine go_dup C at_132 (pc' := 133) rfl rfl ?_
      refine go_iconst C (4 : Int32) at_133 (pc' := 134) rfl (by decide) ?_
      refine go_specialN C (as := [.int (4 : Int32)]) (rest := [.ref a_2]) (W := 1) (sat_init4 l Z a0 hw a_2 _ _ E_5 F_9 F_11 F_10 g_7 z_8) rfl (wd hw 13 rfl) (wd hw 14 rfl) (wd hw 12 rfl) (wd hw 15 rfl) (by decide) pd_2 rfl rfl rfl (by decide) (by decide) (ce' := 2) (sl' := 11) rfl rfl (by decide) (by decide) at_134 (pc' := 137) rfl rfl ?_
      intro h_12 q_13
      obtain ⟨r_14, g_15, E_16, F_17, F_18, F_19, A_20⟩ := q_13
      refine go_astore C (Ls' := #[.val (.long x0), .second, .val (.long x1), .second, .val (.int x2), .val (.long win), .second, .val (.long bb), .second, .val (.long g3), .second, .val (.long g2), .second, .val (.long g1), .second, .val (.long g0), .second, .val (.int (0 : Int32)), .val (.long (x0 - g0)), .second, .val (.long (x0 - g1)), .second, .val (.long (x0 - g2)), .second, .val (.long (x0 - g3)), .second, .val (.ref a_2), .unset, .unset, .unset]) at_137 (pc' := 139) rfl rfl rfl ?_
      refine go_iload C at_139 (pc' := 141) rfl rfl ?_
      refine go_if0 C (0 : Int) (by decide) at_141 (by decide) (pc' := 154) (by decide) (pcN := 144) rfl (fun (c_21 : ¬ 0 < (0 : Int)) => ?_) (fun (c_21 : 0 < (0 : Int)) => by omega)
      refine go_iload C at_154 (pc' := 156) rfl rfl ?_
      refine go_iconst C (1 : Int32) at_156 (pc' := 157) rfl (by decide) ?_
      refine go_icmp C (0 : Int) (1 : Int) (by decide) (by decide) at_157 (by decide) (pc' := 170) (by decide) (pcN := 160) rfl (fun (c_22 : ¬ (1 : Int) < (0 : Int)) => ?_) (fun (c_22 : (1 : Int) < (0 : Int)) => by omega)
      refine go_iload C at_170 (pc' := 172) rfl rfl ?_
      refine go_iconst C (2 : Int32) at_172 (pc' := 173) rfl (by decide) ?_
      refine go_icmp C (0 : Int) (2 : Int) (by decide) (by decide) at_173 (by decide) (pc' := 186) (by decide) (pcN := 176) rfl (fun (c_23 : ¬ (2 : Int) < (0 : Int)) => ?_) (fun (c_23 : (2 : Int) < (0 : Int)) => by omega)
      refine go_iload C at_186 (pc' := 188) rfl rfl ?_
      refine go_iconst C (3 : Int32) at_188 (pc' := 189) rfl (by decide) ?_
      refine go_icmp C (0 : Int) (3 : Int) (by decide) (by decide) at_189 (by decide) (pc' := 202) (by decide) (pcN := 192) rfl (fun (c_24 : ¬ (3 : Int) < (0 : Int)) => ?_) (fun (c_24 : (3 : Int) < (0 : Int)) => by omega)
      refine go_iload C at_202 (pc' := 204) rfl rfl ?_
      refine go_if0 C (0 : Int) (by decide) at_204 (by decide) (pc' := 219) (by decide) (pcN := 207) rfl (fun (c_25 : ¬ 0 < (0 : Int)) => ?_) (fun (c_25 : 0 < (0 : Int)) => by omega)
      refine go_iconst C (0 : Int32) at_219 (pc' := 220) rfl (by decide) ?_
      refine go_iload C at_220 (pc' := 222) rfl rfl ?_
      refine go_iconst C (1 : Int32) at_222 (pc' := 223) rfl (by decide) ?_
      refine go_icmp C (0 : Int) (1 : Int) (by decide) (by decide) at_223 (by decide) (pc' := 238) (by decide) (pcN := 226) rfl (fun (c_26 : ¬ (1 : Int) < (0 : Int)) => ?_) (fun (c_26 : (1 : Int) < (0 : Int)) => by omega)
      refine go_iconst C (0 : Int32) at_238 (pc' := 239) rfl (by decide) ?_
      refine go_iadd C at_239 (pc' := 240) rfl ?_
      rw [(by decide : (0 : Int32) + (0 : Int32) = (0 : Int32))]
      refine go_iload C at_240 (pc' := 242) rfl rfl ?_
      refine go_iconst C (2 : Int32) at_242 (pc' := 243) rfl (by decide) ?_
      refine go_icmp C (0 : Int) (2 : Int) (by decide) (by decide) at_243 (by decide) (pc' := 258) (by decide) (pcN := 246) rfl (fun (c_27 : ¬ (2 : Int) < (0 : Int)) => ?_) (fun (c_27 : (2 : Int) < (0 : Int)) => by omega)
      refine go_iconst C (0 : Int32) at_258 (pc' := 259) rfl (by decide) ?_
      refine go_iadd C at_259 (pc' := 260) rfl ?_
      rw [(by decide : (0 : Int32) + (0 : Int32) = (0 : Int32))]
      refine go_iload C at_260 (pc' := 262) rfl rfl ?_
      refine go_iconst C (3 : Int32) at_262 (pc' := 263) rfl (by decide) ?_
      refine go_icmp C (0 : Int) (3 : Int) (by decide) (by decide) at_263 (by decide) (pc' := 278) (by decide) (pcN := 266) rfl (fun (c_28 : ¬ (3 : Int) < (0 : Int)) => ?_) (fun (c_28 : (3 : Int) < (0 : Int)) => by omega)
      refine go_iconst C (0 : Int32) at_278 (pc' := 279) rfl (by decide) ?_
      refine go_iadd C at_279 (pc' := 280) rfl ?_
      rw [(by decide : (0 : Int32) + (0 : Int32) = (0 : Int32))]
      refine go_istore C (Ls' := #[.val (.long x0), .second, .val (.long x1), .second, .val (.int x2), .val (.long win), .second, .val (.long bb), .second, .val (.long g3), .second, .val (.long g2), .second, .val (.long g1), .second, .val (.long g0), .second, .val (.int (0 : Int32)), .val (.long (x0 - g0)), .second, .val (.long (x0 - g1)), .second, .val (.long (x0 - g2)), .second, .val (.long (x0 - g3)), .second, .val (.ref a_2), .val (.int (0 : Int32)), .unset, .unset]) at_280 (pc' := 282) rfl rfl ?_
      refine go_aload C at_282 (pc' := 284) rfl rfl rfl ?_
      refine go_lloadN C at_284 (pc' := 285) rfl rfl ?_
      refine go_lload C at_285 (pc' := 287) rfl rfl ?_
      refine go_virtualN C (as := [.long x0, .long win]) (rest := []) (W := 0) (sat_drop_4_0_0 l Z a0 hw a_2 r_14 (0 : Int64) (0 : Int64) (0 : Int64) (0 : Int64) x0 win _ _ E_16 F_17 F_18 F_19 A_20 g_7 g_15) E_16 (wd hw 27 rfl) (wd hw 28 rfl) (wd hw 30 rfl) (wd hw 29 rfl) (wd hw 12 rfl) (wd hw 31 rfl) (by decide) pd_4 rfl rfl rfl (by decide) (by decide) (ce' := 2) (sl' := 11) rfl rfl (by decide) (by decide) at_287 (pc' := 290) rfl rfl ?_
      intro h_29 q_30
      obtain ⟨hc_31, E_32, F_33, F_34, F_35, A_36⟩ := q_30
      refine go_iload C at_290 (pc' := 292) rfl rfl ?_
      refine go_iload C at_292 (pc' := 294) rfl rfl ?_
      refine go_icmp C (0 : Int) (0 : Int) (by decide) (by decide) at_294 (by decide) (pc' := 340) (by decide) (pcN := 297) rfl (fun (c_37 : ¬ (0 : Int) = (0 : Int)) => by omega) (fun (c_37 : (0 : Int) = (0 : Int)) => ?_)
      refine go_lloadN C at_297 (pc' := 298) rfl rfl ?_
      refine go_lconst C (1 : Int64) at_298 (pc' := 299) rfl (by decide) ?_
      refine go_ladd C at_299 (pc' := 300) rfl ?_
      refine go_lstore C (Ls' := #[.val (.long x0), .second, .val (.long x1), .second, .val (.int x2), .val (.long win), .second, .val (.long bb), .second, .val (.long g3), .second, .val (.long g2), .second, .val (.long g1), .second, .val (.long g0), .second, .val (.int (0 : Int32)), .val (.long (x0 - g0)), .second, .val (.long (x0 - g1)), .second, .val (.long (x0 - g2)), .second, .val (.long (x0 - g3)), .second, .val (.ref a_2), .val (.int (0 : Int32)), .val (.long (x0 + (1 : Int64))), .second]) at_300 (pc' := 302) rfl rfl ?_
      refine go_aload C at_302 (pc' := 304) rfl rfl rfl ?_
      refine go_lload C at_304 (pc' := 306) rfl rfl ?_
      refine go_ldc2 C (v := (8 : Int64)) (wd hw 34 rfl) at_306 (pc' := 309) rfl ?_
      refine go_virtualN C (as := [.long (x0 + (1 : Int64)), .long (8 : Int64)]) (rest := []) (W := 0) (sat_add_4_0_0 l Z a0 hw a_2 r_14 (0 : Int64) (0 : Int64) (0 : Int64) (0 : Int64) (x0 + (1 : Int64)) (8 : Int64) _ _ E_32 F_33 F_34 F_35 A_36 g_7 g_15) E_32 (wd hw 35 rfl) (wd hw 36 rfl) (wd hw 38 rfl) (wd hw 37 rfl) (wd hw 12 rfl) (wd hw 39 rfl) (by decide) pd_4 rfl rfl rfl (by decide) (by decide) (ce' := 2) (sl' := 11) rfl rfl (by decide) (by decide) at_309 (pc' := 312) rfl rfl ?_
      intro h_38 q_39
      obtain ⟨r_40, g_41, E_42, F_43, F_44, F_45, A_46⟩ := q_39
      refine go_aload C at_312 (pc' := 314) rfl rfl rfl ?_
      refine go_virtualP C (as := []) (rest := []) (W := 0) (.long (x0 + (1 : Int64))) (sat_old_4_0_1 l Z a0 hw a_2 r_40 (x0 + (1 : Int64)) (0 : Int64) (0 : Int64) (0 : Int64) _ _ E_42 F_43 F_44 F_45 A_46 g_7 g_41) E_42 (wd hw 46 rfl) (wd hw 47 rfl) (wd hw 49 rfl) (wd hw 48 rfl) (wd hw 12 rfl) (wd hw 50 rfl) (by decide) pd_6 rfl rfl rfl (by decide) (by decide) rfl rfl (by decide) (by decide) at_314 (pc' := 317) rfl rfl ?_
      refine go_lload C at_317 (pc' := 319) rfl rfl ?_
      refine go_lcmp C ((x0 + (1 : Int64)).toInt) ((x0 + (1 : Int64)).toInt) rfl rfl at_319 (pc1 := 320) rfl at_320 (by decide) (pc' := 338) (by decide) (pcN := 323) rfl (fun (c_47 : ¬ ((x0 + (1 : Int64)).toInt) = ((x0 + (1 : Int64)).toInt)) => by omega) (fun (c_47 : ((x0 + (1 : Int64)).toInt) = ((x0 + (1 : Int64)).toInt)) => ?_)
      refine go_aload C at_323 (pc' := 325) rfl rfl rfl ?_
      refine go_virtualP C (as := []) (rest := []) (W := 0) (.long (x0 + (1 : Int64))) (sat_new_4_0_1 l Z a0 hw a_2 r_40 (x0 + (1 : Int64)) (0 : Int64) (0 : Int64) (0 : Int64) _ _ E_42 F_43 F_44 F_45 A_46 g_7 g_41) E_42 (wd hw 51 rfl) (wd hw 52 rfl) (wd hw 54 rfl) (wd hw 53 rfl) (wd hw 12 rfl) (wd hw 55 rfl) (by decide) pd_6 rfl rfl rfl (by decide) (by decide) rfl rfl (by decide) (by decide) at_325 (pc' := 328) rfl rfl ?_
      refine go_lload C at_328 (pc' := 330) rfl rfl ?_
      refine go_lcmp C ((x0 + (1 : Int64)).toInt) ((x0 + (1 : Int64)).toInt) rfl rfl at_330 (pc1 := 331) rfl at_331 (by decide) (pc' := 338) (by decide) (pcN := 334) rfl (fun (c_48 : ¬ ((x0 + (1 : Int64)).toInt) = ((x0 + (1 : Int64)).toInt)) => by omega) (fun (c_48 : ((x0 + (1 : Int64)).toInt) = ((x0 + (1 : Int64)).toInt)) => ?_)
      refine go_iconst C (1 : Int32) at_334 (pc' := 335) rfl (by decide) ?_
      refine go_goto C at_335 (by decide) (pc' := 339) (by decide) ?_
      refine go_ireturnN C (z' := (1 : Int32)) rfl (by simp) rfl at_339 (by decide) (by decide) ?_
      exact ⟨_, rfl, rfl⟩
    · rw [hn]
      refine go_lloadN C at_105 (pc' := 106) rfl rfl ?_
      refine go_lload C at_106 (pc' := 108) rfl rfl ?_
      refine go_lsub C at_108 (pc' := 109) rfl ?_
      refine go_lstore C (Ls' := #[.val (.long x0), .second, .val (.long x1), .second, .val (.int x2), .val (.long win), .second, .val (.long bb), .second, .val (.long g3), .second, .val (.long g2), .second, .val (.long g1), .second, .val (.long g0), .second, .val (.int (1 : Int32)), .val (.long (x0 - g0)), .second, .unset, .unset, .unset, .unset, .unset, .unset, .unset, .unset, .unset, .unset]) at_109 (pc' := 111) rfl rfl ?_
      refine go_lloadN C at_111 (pc' := 112) rfl rfl ?_
      refine go_lload C at_112 (pc' := 114) rfl rfl ?_
      refine go_lsub C at_114 (pc' := 115) rfl ?_
      refine go_lstore C (Ls' := #[.val (.long x0), .second, .val (.long x1), .second, .val (.int x2), .val (.long win), .second, .val (.long bb), .second, .val (.long g3), .second, .val (.long g2), .second, .val (.long g1), .second, .val (.long g0), .second, .val (.int (1 : Int32)), .val (.long (x0 - g0)), .second, .val (.long (x0 - g1)), .second, .unset, .unset, .unset, .unset, .unset, .unset, .unset, .unset]) at_115 (pc' := 117) rfl rfl ?_
      refine go_lloadN C at_117 (pc' := 118) rfl rfl ?_
      refine go_lload C at_118 (pc' := 120) rfl rfl ?_
      refine go_lsub C at_120 (pc' := 121) rfl ?_
      refine go_lstore C (Ls' := #[.val (.long x0), .second, .val (.long x1), .second, .val (.int x2), .val (.long win), .second, .val (.long bb), .second, .val (.long g3), .second, .val (.long g2), .second, .val (.long g1), .second, .val (.long g0), .second, .val (.int (1 : Int32)), .val (.long (x0 - g0)), .second, .val (.long (x0 - g1)), .second, .val (.long (x0 - g2)), .second, .unset, .unset, .unset, .unset, .unset, .unset]) at_121 (pc' := 123) rfl rfl ?_
      refine go_lloadN C at_123 (pc' := 124) rfl rfl ?_
      refine go_lload C at_124 (pc' := 126) rfl rfl ?_
      refine go_lsub C at_126 (pc' := 127) rfl ?_
      refine go_lstore C (Ls' := #[.val (.long x0), .second, .val (.long x1), .second, .val (.int x2), .val (.long win), .second, .val (.long bb), .second, .val (.long g3), .second, .val (.long g2), .second, .val (.long g1), .second, .val (.long g0), .second, .val (.int (1 : Int32)), .val (.long (x0 - g0)), .second, .val (.long (x0 - g1)), .second, .val (.long (x0 - g2)), .second, .val (.long (x0 - g3)), .second, .unset, .unset, .unset, .unset]) at_127 (pc' := 129) rfl rfl ?_
      refine go_new C (wd hw 10 rfl) (wd hw 11 rfl) (wd hw 12 rfl) at_129 (pc' := 132) rfl (ce' := 1) (sl' := 7) rfl rfl (by decide) (by decide) ?_
      intro h_49 a_50 g_51 E_52 E_53 D_54
      have g_55 : Z.heap.size ≤ a_50 := own_ge (Nat.le_refl _) g_51
      have z_56 : Z.heap.size ≤ h_49.size := Nat.le_trans (Nat.le_refl _) E_52.1
      have F_57 : Fld Z h_49 a_50 "com/example/throttld/throttld/SlidingLog$Log" "ring" "[J" (.null) := D_54 (Or.inl (wd hw 26 rfl)) (ty := (.array .long)) (by decide)
      have F_58 : Fld Z h_49 a_50 "com/example/throttld/throttld/SlidingLog$Log" "count" "I" (.int (0 : Int32)) := D_54 (Or.inl (wd hw 33 rfl)) (ty := .int) (by decide)
      have F_59 : Fld Z h_49 a_50 "com/example/throttld/throttld/SlidingLog$Log" "head" "I" (.int (0 : Int32)) := D_54 (Or.inl (wd hw 45 rfl)) (ty := .int) (by decide)
      refine go_dup C at_132 (pc' := 133) rfl rfl ?_
      refine go_iconst C (4 : Int32) at_133 (pc' := 134) rfl (by decide) ?_
      refine go_specialN C (as := [.int (4 : Int32)]) (rest := [.ref a_50]) (W := 1) (sat_init4 l Z a0 hw a_50 _ _ E_53 F_57 F_59 F_58 g_55 z_56) rfl (wd hw 13 rfl) (wd hw 14 rfl) (wd hw 12 rfl) (wd hw 15 rfl) (by decide) pd_2 rfl rfl rfl (by decide) (by decide) (ce' := 2) (sl' := 11) rfl rfl (by decide) (by decide) at_134 (pc' := 137) rfl rfl ?_
      intro h_60 q_61
      obtain ⟨r_62, g_63, E_64, F_65, F_66, F_67, A_68⟩ := q_61
      refine go_astore C (Ls' := #[.val (.long x0), .second, .val (.long x1), .second, .val (.int x2), .val (.long win), .second, .val (.long bb), .second, .val (.long g3), .second, .val (.long g2), .second, .val (.long g1), .second, .val (.long g0), .second, .val (.int (1 : Int32)), .val (.long (x0 - g0)), .second, .val (.long (x0 - g1)), .second, .val (.long (x0 - g2)), .second, .val (.long (x0 - g3)), .second, .val (.ref a_50), .unset, .unset, .unset]) at_137 (pc' := 139) rfl rfl rfl ?_
      refine go_iload C at_139 (pc' := 141) rfl rfl ?_
      refine go_if0 C (1 : Int) (by decide) at_141 (by decide) (pc' := 154) (by decide) (pcN := 144) rfl (fun (c_69 : ¬ 0 < (1 : Int)) => by omega) (fun (c_69 : 0 < (1 : Int)) => ?_)
      refine go_aload C at_144 (pc' := 146) rfl rfl rfl ?_
      refine go_lload C at_146 (pc' := 148) rfl rfl ?_
      refine go_ldc2 C (v := (8 : Int64)) (wd hw 34 rfl) at_148 (pc' := 151) rfl ?_
      refine go_virtualN C (as := [.long (x0 - g0), .long (8 : Int64)]) (rest := []) (W := 0) (sat_add_4_0_0 l Z a0 hw a_50 r_62 (0 : Int64) (0 : Int64) (0 : Int64) (0 : Int64) (x0 - g0) (8 : Int64) _ _ E_64 F_65 F_66 F_67 A_68 g_55 g_63) E_64 (wd hw 35 rfl) (wd hw 36 rfl) (wd hw 38 rfl) (wd hw 37 rfl) (wd hw 12 rfl) (wd hw 39 rfl) (by decide) pd_4 rfl rfl rfl (by decide) (by decide) (ce' := 2) (sl' := 11) rfl rfl (by decide) (by decide) at_151 (pc' := 154) rfl rfl ?_
      intro h_70 q_71
      obtain ⟨r_72, g_73, E_74, F_75, F_76, F_77, A_78⟩ := q_71
      refine go_iload C at_154 (pc' := 156) rfl rfl ?_
      refine go_iconst C (1 : Int32) at_156 (pc' := 157) rfl (by decide) ?_
      refine go_icmp C (1 : Int) (1 : Int) (by decide) (by decide) at_157 (by decide) (pc' := 170) (by decide) (pcN := 160) rfl (fun (c_79 : ¬ (1 : Int) < (1 : Int)) => ?_) (fun (c_79 : (1 : Int) < (1 : Int)) => by omega)
      refine go_iload C at_170 (pc' := 172) rfl rfl ?_
      refine go_iconst C (2 : Int32) at_172 (pc' := 173) rfl (by decide) ?_
      refine go_icmp C (1 : Int) (2 : Int) (by decide) (by decide) at_173 (by decide) (pc' := 186) (by decide) (pcN := 176) rfl (fun (c_80 : ¬ (2 : Int) < (1 : Int)) => ?_) (fun (c_80 : (2 : Int) < (1 : Int)) => by omega)
      refine go_iload C at_186 (pc' := 188) rfl rfl ?_
      refine go_iconst C (3 : Int32) at_188 (pc' := 189) rfl (by decide) ?_
      refine go_icmp C (1 : Int) (3 : Int) (by decide) (by decide) at_189 (by decide) (pc' := 202) (by decide) (pcN := 192) rfl (fun (c_81 : ¬ (3 : Int) < (1 : Int)) => ?_) (fun (c_81 : (3 : Int) < (1 : Int)) => by omega)
      refine go_iload C at_202 (pc' := 204) rfl rfl ?_
      refine go_if0 C (1 : Int) (by decide) at_204 (by decide) (pc' := 219) (by decide) (pcN := 207) rfl (fun (c_82 : ¬ 0 < (1 : Int)) => by omega) (fun (c_82 : 0 < (1 : Int)) => ?_)
      refine go_lload C at_207 (pc' := 209) rfl rfl ?_
      refine go_lload C at_209 (pc' := 211) rfl rfl ?_
      refine go_lcmp C g0.toInt win.toInt rfl rfl at_211 (pc1 := 212) rfl at_212 (by decide) (pc' := 219) (by decide) (pcN := 215) rfl (fun (c_83 : g0.toInt < win.toInt) => ?_) (fun (c_83 : ¬ g0.toInt < win.toInt) => ?_)
      · skip
        refine go_iconst C (0 : Int32) at_219 (pc' := 220) rfl (by decide) ?_
        refine go_iload C at_220 (pc' := 222) rfl rfl ?_
        refine go_iconst C (1 : Int32) at_222 (pc' := 223) rfl (by decide) ?_
        refine go_icmp C (1 : Int) (1 : Int) (by decide) (by decide) at_223 (by decide) (pc' := 238) (by decide) (pcN := 226) rfl (fun (c_84 : ¬ (1 : Int) < (1 : Int)) => ?_) (fun (c_84 : (1 : Int) < (1 : Int)) => by omega)
        refine go_iconst C (0 : Int32) at_238 (pc' := 239) rfl (by decide) ?_
        refine go_iadd C at_239 (pc' := 240) rfl ?_
        rw [(by decide : (0 : Int32) + (0 : Int32) = (0 : Int32))]
        refine go_iload C at_240 (pc' := 242) rfl rfl ?_
        refine go_iconst C (2 : Int32) at_242 (pc' := 243) rfl (by decide) ?_
        refine go_icmp C (1 : Int) (2 : Int) (by decide) (by decide) at_243 (by decide) (pc' := 258) (by decide) (pcN := 246) rfl (fun (c_85 : ¬ (2 : Int) < (1 : Int)) => ?_) (fun (c_85 : (2 : Int) < (1 : Int)) => by omega)
        refine go_iconst C (0 : Int32) at_258 (pc' := 259) rfl (by decide) ?_
        refine go_iadd C at_259 (pc' := 260) rfl ?_
        rw [(by decide : (0 : Int32) + (0 : Int32) = (0 : Int32))]
        refine go_iload C at_260 (pc' := 262) rfl rfl ?_
        refine go_iconst C (3 : Int32) at_262 (pc' := 263) rfl (by decide) ?_
        refine go_icmp C (1 : Int) (3 : Int) (by decide) (by decide) at_263 (by decide) (pc' := 278) (by decide) (pcN := 266) rfl (fun (c_86 : ¬ (3 : Int) < (1 : Int)) => ?_) (fun (c_86 : (3 : Int) < (1 : Int)) => by omega)
        refine go_iconst C (0 : Int32) at_278 (pc' := 279) rfl (by decide) ?_
        refine go_iadd C at_279 (pc' := 280) rfl ?_
        rw [(by decide : (0 : Int32) + (0 : Int32) = (0 : Int32))]
        refine go_istore C (Ls' := #[.val (.long x0), .second, .val (.long x1), .second, .val (.int x2), .val (.long win), .second, .val (.long bb), .second, .val (.long g3), .second, .val (.long g2), .second, .val (.long g1), .second, .val (.long g0), .second, .val (.int (1 : Int32)), .val (.long (x0 - g0)), .second, .val (.long (x0 - g1)), .second, .val (.long (x0 - g2)), .second, .val (.long (x0 - g3)), .second, .val (.ref a_50), .val (.int (0 : Int32)), .unset, .unset]) at_280 (pc' := 282) rfl rfl ?_
        refine go_aload C at_282 (pc' := 284) rfl rfl rfl ?_
        refine go_lloadN C at_284 (pc' := 285) rfl rfl ?_
        refine go_lload C at_285 (pc' := 287) rfl rfl ?_
        refine go_virtualN C (as := [.long x0, .long win]) (rest := []) (W := 0) (sat_drop_4_0_1 l Z a0 hw a_50 r_72 (x0 - g0) (0 : Int64) (0 : Int64) (0 : Int64) x0 win _ _ E_74 F_75 F_76 F_77 A_78 g_55 g_73) E_74 (wd hw 27 rfl) (wd hw 28 rfl) (wd hw 30 rfl) (wd hw 29 rfl) (wd hw 12 rfl) (wd hw 31 rfl) (by decide) pd_4 rfl rfl rfl (by decide) (by decide) (ce' := 2) (sl' := 11) rfl rfl (by decide) (by decide) at_287 (pc' := 290) rfl rfl ?_
        intro h_87 q_88
        rcases q_88 with q_88 | q_88
        · skip
          obtain ⟨hc_89, E_90, F_91, F_92, F_93, A_94⟩ := q_88
          refine go_iload C at_290 (pc' := 292) rfl rfl ?_
          refine go_iload C at_292 (pc' := 294) rfl rfl ?_
          refine go_icmp C (0 : Int) (1 : Int) (by decide) (by decide) at_294 (by decide) (pc' := 340) (by decide) (pcN := 297) rfl (fun (c_95 : ¬ (0 : Int) = (1 : Int)) => ?_) (fun (c_95 : (0 : Int) = (1 : Int)) => by omega)
          refine go_aload C at_340 (pc' := 342) rfl rfl rfl ?_
          refine go_virtualP C (as := []) (rest := []) (W := 0) (.long (x0 - g0)) (sat_old_4_0_1 l Z a0 hw a_50 r_72 (x0 - g0) (0 : Int64) (0 : Int64) (0 : Int64) _ _ E_90 F_91 F_92 F_93 A_94 g_55 g_73) E_90 (wd hw 46 rfl) (wd hw 47 rfl) (wd hw 49 rfl) (wd hw 48 rfl) (wd hw 12 rfl) (wd hw 50 rfl) (by decide) pd_6 rfl rfl rfl (by decide) (by decide) rfl rfl (by decide) (by decide) at_342 (pc' := 345) rfl rfl ?_
          refine go_iload C at_345 (pc' := 347) rfl rfl ?_
          refine go_lload C at_347 (pc' := 349) rfl rfl ?_
          refine go_lload C at_349 (pc' := 351) rfl rfl ?_
          refine go_lload C at_351 (pc' := 353) rfl rfl ?_
          refine go_lload C at_353 (pc' := 355) rfl rfl ?_
          refine go_staticP C (as := [.int (0 : Int32), .long (x0 - g0), .long (x0 - g1), .long (x0 - g2), .long (x0 - g3)]) (rest := [.long (x0 - g0)]) (W := 2) (.long (x0 - g0)) (sat_pick0 l Z a0 hw (x0 - g0) (x0 - g1) (x0 - g2) (x0 - g3) _ _) (wd hw 56 rfl) (wd hw 57 rfl) (wd hw 58 rfl) (wd hw 59 rfl) (by decide) pd_7 rfl rfl rfl (by decide) (by decide) rfl rfl (by decide) (by decide) at_355 (pc' := 358) rfl rfl ?_
          refine go_lcmp C ((x0 - g0).toInt) ((x0 - g0).toInt) rfl rfl at_358 (pc1 := 359) rfl at_359 (by decide) (pc' := 390) (by decide) (pcN := 362) rfl (fun (c_96 : ¬ ((x0 - g0).toInt) = ((x0 - g0).toInt)) => by omega) (fun (c_96 : ((x0 - g0).toInt) = ((x0 - g0).toInt)) => ?_)
          refine go_aload C at_362 (pc' := 364) rfl rfl rfl ?_
          refine go_virtualP C (as := []) (rest := []) (W := 0) (.long (x0 - g0)) (sat_new_4_0_1 l Z a0 hw a_50 r_72 (x0 - g0) (0 : Int64) (0 : Int64) (0 : Int64) _ _ E_90 F_91 F_92 F_93 A_94 g_55 g_73) E_90 (wd hw 51 rfl) (wd hw 52 rfl) (wd hw 54 rfl) (wd hw 53 rfl) (wd hw 12 rfl) (wd hw 55 rfl) (by decide) pd_6 rfl rfl rfl (by decide) (by decide) rfl rfl (by decide) (by decide) at_364 (pc' := 367) rfl rfl ?_
          refine go_iload C at_367 (pc' := 369) rfl rfl ?_
          refine go_iconst C (1 : Int32) at_369 (pc' := 370) rfl (by decide) ?_
          refine go_isub C at_370 (pc' := 371) rfl ?_
          rw [(by decide : (1 : Int32) - (1 : Int32) = (0 : Int32))]
          refine go_lload C at_371 (pc' := 373) rfl rfl ?_
          refine go_lload C at_373 (pc' := 375) rfl rfl ?_
          refine go_lload C at_375 (pc' := 377) rfl rfl ?_
          refine go_lload C at_377 (pc' := 379) rfl rfl ?_
          refine go_staticP C (as := [.int (0 : Int32), .long (x0 - g0), .long (x0 - g1), .long (x0 - g2), .long (x0 - g3)]) (rest := [.long (x0 - g0)]) (W := 2) (.long (x0 - g0)) (sat_pick0 l Z a0 hw (x0 - g0) (x0 - g1) (x0 - g2) (x0 - g3) _ _) (wd hw 56 rfl) (wd hw 57 rfl) (wd hw 58 rfl) (wd hw 59 rfl) (by decide) pd_7 rfl rfl rfl (by decide) (by decide) rfl rfl (by decide) (by decide) at_379 (pc' := 382) rfl rfl ?_
          refine go_lcmp C ((x0 - g0).toInt) ((x0 - g0).toInt) rfl rfl at_382 (pc1 := 383) rfl at_383 (by decide) (pc' := 390) (by decide) (pcN := 386) rfl (fun (c_97 : ¬ ((x0 - g0).toInt) = ((x0 - g0).toInt)) => by omega) (fun (c_97 : ((x0 - g0).toInt) = ((x0 - g0).toInt)) => ?_)
          refine go_iconst C (1 : Int32) at_386 (pc' := 387) rfl (by decide) ?_
          refine go_goto C at_387 (by decide) (pc' := 391) (by decide) ?_
          refine go_ireturnN C (z' := (1 : Int32)) rfl (by simp) rfl at_391 (by decide) (by decide) ?_
          exact ⟨_, rfl, rfl⟩
        · skip
          obtain ⟨hc_98, E_99, F_100, F_101, F_102, A_103⟩ := q_88
          exfalso; omega
      · skip
        refine go_iconst C (1 : Int32) at_215 (pc' := 216) rfl (by decide) ?_
        refine go_goto C at_216 (by decide) (pc' := 220) (by decide) ?_
        refine go_iload C at_220 (pc' := 222) rfl rfl ?_
        refine go_iconst C (1 : Int32) at_222 (pc' := 223) rfl (by decide) ?_
        refine go_icmp C (1 : Int) (1 : Int) (by decide) (by decide) at_223 (by decide) (pc' := 238) (by decide) (pcN := 226) rfl (fun (c_104 : ¬ (1 : Int) < (1 : Int)) => ?_) (fun (c_104 : (1 : Int) < (1 : Int)) => by omega)
        refine go_iconst C (0 : Int32) at_238 (pc' := 239) rfl (by decide) ?_
        refine go_iadd C at_239 (pc' := 240) rfl ?_
        rw [(by decide : (1 : Int32) + (0 : Int32) = (1 : Int32))]
        refine go_iload C at_240 (pc' := 242) rfl rfl ?_
        refine go_iconst C (2 : Int32) at_242 (pc' := 243) rfl (by decide) ?_
        refine go_icmp C (1 : Int) (2 : Int) (by decide) (by decide) at_243 (by decide) (pc' := 258) (by decide) (pcN := 246) rfl (fun (c_105 : ¬ (2 : Int) < (1 : Int)) => ?_) (fun (c_105 : (2 : Int) < (1 : Int)) => by omega)
        refine go_iconst C (0 : Int32) at_258 (pc' := 259) rfl (by decide) ?_
        refine go_iadd C at_259 (pc' := 260) rfl ?_
        rw [(by decide : (1 : Int32) + (0 : Int32) = (1 : Int32))]
        refine go_iload C at_260 (pc' := 262) rfl rfl ?_
        refine go_iconst C (3 : Int32) at_262 (pc' := 263) rfl (by decide) ?_
        refine go_icmp C (1 : Int) (3 : Int) (by decide) (by decide) at_263 (by decide) (pc' := 278) (by decide) (pcN := 266) rfl (fun (c_106 : ¬ (3 : Int) < (1 : Int)) => ?_) (fun (c_106 : (3 : Int) < (1 : Int)) => by omega)
        refine go_iconst C (0 : Int32) at_278 (pc' := 279) rfl (by decide) ?_
        refine go_iadd C at_279 (pc' := 280) rfl ?_
        rw [(by decide : (1 : Int32) + (0 : Int32) = (1 : Int32))]
        refine go_istore C (Ls' := #[.val (.long x0), .second, .val (.long x1), .second, .val (.int x2), .val (.long win), .second, .val (.long bb), .second, .val (.long g3), .second, .val (.long g2), .second, .val (.long g1), .second, .val (.long g0), .second, .val (.int (1 : Int32)), .val (.long (x0 - g0)), .second, .val (.long (x0 - g1)), .second, .val (.long (x0 - g2)), .second, .val (.long (x0 - g3)), .second, .val (.ref a_50), .val (.int (1 : Int32)), .unset, .unset]) at_280 (pc' := 282) rfl rfl ?_
        refine go_aload C at_282 (pc' := 284) rfl rfl rfl ?_
        refine go_lloadN C at_284 (pc' := 285) rfl rfl ?_
        refine go_lload C at_285 (pc' := 287) rfl rfl ?_
        refine go_virtualN C (as := [.long x0, .long win]) (rest := []) (W := 0) (sat_drop_4_0_1 l Z a0 hw a_50 r_72 (x0 - g0) (0 : Int64) (0 : Int64) (0 : Int64) x0 win _ _ E_74 F_75 F_76 F_77 A_78 g_55 g_73) E_74 (wd hw 27 rfl) (wd hw 28 rfl) (wd hw 30 rfl) (wd hw 29 rfl) (wd hw 12 rfl) (wd hw 31 rfl) (by decide) pd_4 rfl rfl rfl (by decide) (by decide) (ce' := 2) (sl' := 11) rfl rfl (by decide) (by decide) at_287 (pc' := 290) rfl rfl ?_
        intro h_107 q_108
        rcases q_108 with q_108 | q_108
        · skip
          obtain ⟨hc_109, E_110, F_111, F_112, F_113, A_114⟩ := q_108
          exfalso; omega
        · skip
          obtain ⟨hc_115, E_116, F_117, F_118, F_119, A_120⟩ := q_108
          refine go_iload C at_290 (pc' := 292) rfl rfl ?_
          refine go_iload C at_292 (pc' := 294) rfl rfl ?_
          refine go_icmp C (1 : Int) (1 : Int) (by decide) (by decide) at_294 (by decide) (pc' := 340) (by decide) (pcN := 297) rfl (fun (c_121 : ¬ (1 : Int) = (1 : Int)) => by omega) (fun (c_121 : (1 : Int) = (1 : Int)) => ?_)
          refine go_lloadN C at_297 (pc' := 298) rfl rfl ?_
          refine go_lconst C (1 : Int64) at_298 (pc' := 299) rfl (by decide) ?_
          refine go_ladd C at_299 (pc' := 300) rfl ?_
          refine go_lstore C (Ls' := #[.val (.long x0), .second, .val (.long x1), .second, .val (.int x2), .val (.long win), .second, .val (.long bb), .second, .val (.long g3), .second, .val (.long g2), .second, .val (.long g1), .second, .val (.long g0), .second, .val (.int (1 : Int32)), .val (.long (x0 - g0)), .second, .val (.long (x0 - g1)), .second, .val (.long (x0 - g2)), .second, .val (.long (x0 - g3)), .second, .val (.ref a_50), .val (.int (1 : Int32)), .val (.long (x0 + (1 : Int64))), .second]) at_300 (pc' := 302) rfl rfl ?_
          refine go_aload C at_302 (pc' := 304) rfl rfl rfl ?_
          refine go_lload C at_304 (pc' := 306) rfl rfl ?_
          refine go_ldc2 C (v := (8 : Int64)) (wd hw 34 rfl) at_306 (pc' := 309) rfl ?_
          refine go_virtualN C (as := [.long (x0 + (1 : Int64)), .long (8 : Int64)]) (rest := []) (W := 0) (sat_add_4_1_0 l Z a0 hw a_50 r_72 (x0 - g0) (0 : Int64) (0 : Int64) (0 : Int64) (x0 + (1 : Int64)) (8 : Int64) _ _ E_116 F_117 F_118 F_119 A_120 g_55 g_73) E_116 (wd hw 35 rfl) (wd hw 36 rfl) (wd hw 38 rfl) (wd hw 37 rfl) (wd hw 12 rfl) (wd hw 39 rfl) (by decide) pd_4 rfl rfl rfl (by decide) (by decide) (ce' := 2) (sl' := 11) rfl rfl (by decide) (by decide) at_309 (pc' := 312) rfl rfl ?_
          intro h_122 q_123
          obtain ⟨r_124, g_125, E_126, F_127, F_128, F_129, A_130⟩ := q_123
          refine go_aload C at_312 (pc' := 314) rfl rfl rfl ?_
          refine go_virtualP C (as := []) (rest := []) (W := 0) (.long (x0 + (1 : Int64))) (sat_old_4_1_1 l Z a0 hw a_50 r_124 (x0 - g0) (x0 + (1 : Int64)) (0 : Int64) (0 : Int64) _ _ E_126 F_127 F_128 F_129 A_130 g_55 g_125) E_126 (wd hw 46 rfl) (wd hw 47 rfl) (wd hw 49 rfl) (wd hw 48 rfl) (wd hw 12 rfl) (wd hw 50 rfl) (by decide) pd_6 rfl rfl rfl (by decide) (by decide) rfl rfl (by decide) (by decide) at_314 (pc' := 317) rfl rfl ?_
          refine go_lload C at_317 (pc' := 319) rfl rfl ?_
          refine go_lcmp C ((x0 + (1 : Int64)).toInt) ((x0 + (1 : Int64)).toInt) rfl rfl at_319 (pc1 := 320) rfl at_320 (by decide) (pc' := 338) (by decide) (pcN := 323) rfl (fun (c_131 : ¬ ((x0 + (1 : Int64)).toInt) = ((x0 + (1 : Int64)).toInt)) => by omega) (fun (c_131 : ((x0 + (1 : Int64)).toInt) = ((x0 + (1 : Int64)).toInt)) => ?_)
          refine go_aload C at_323 (pc' := 325) rfl rfl rfl ?_
          refine go_virtualP C (as := []) (rest := []) (W := 0) (.long (x0 + (1 : Int64))) (sat_new_4_1_1 l Z a0 hw a_50 r_124 (x0 - g0) (x0 + (1 : Int64)) (0 : Int64) (0 : Int64) _ _ E_126 F_127 F_128 F_129 A_130 g_55 g_125) E_126 (wd hw 51 rfl) (wd hw 52 rfl) (wd hw 54 rfl) (wd hw 53 rfl) (wd hw 12 rfl) (wd hw 55 rfl) (by decide) pd_6 rfl rfl rfl (by decide) (by decide) rfl rfl (by decide) (by decide) at_325 (pc' := 328) rfl rfl ?_
          refine go_lload C at_328 (pc' := 330) rfl rfl ?_
          refine go_lcmp C ((x0 + (1 : Int64)).toInt) ((x0 + (1 : Int64)).toInt) rfl rfl at_330 (pc1 := 331) rfl at_331 (by decide) (pc' := 338) (by decide) (pcN := 334) rfl (fun (c_132 : ¬ ((x0 + (1 : Int64)).toInt) = ((x0 + (1 : Int64)).toInt)) => by omega) (fun (c_132 : ((x0 + (1 : Int64)).toInt) = ((x0 + (1 : Int64)).toInt)) => ?_)
          refine go_iconst C (1 : Int32) at_334 (pc' := 335) rfl (by decide) ?_
          refine go_goto C at_335 (by decide) (pc' := 339) (by decide) ?_
          refine go_ireturnN C (z' := (1 : Int32)) rfl (by simp) rfl at_339 (by decide) (by decide) ?_
          exact ⟨_, rfl, rfl⟩
    · rw [hn]
      refine go_lloadN C at_105 (pc' := 106) rfl rfl ?_
      refine go_lload C at_106 (pc' := 108) rfl rfl ?_
      refine go_lsub C at_108 (pc' := 109) rfl ?_
      refine go_lstore C (Ls' := #[.val (.long x0), .second, .val (.long x1), .second, .val (.int x2), .val (.long win), .second, .val (.long bb), .second, .val (.long g3), .second, .val (.long g2), .second, .val (.long g1), .second, .val (.long g0), .second, .val (.int (2 : Int32)), .val (.long (x0 - g0)), .second, .unset, .unset, .unset, .unset, .unset, .unset, .unset, .unset, .unset, .unset]) at_109 (pc' := 111) rfl rfl ?_
      refine go_lloadN C at_111 (pc' := 112) rfl rfl ?_
      refine go_lload C at_112 (pc' := 114) rfl rfl ?_
      refine go_lsub C at_114 (pc' := 115) rfl ?_
      refine go_lstore C (Ls' := #[.val (.long x0), .second, .val (.long x1), .second, .val (.int x2), .val (.long win), .second, .val (.long bb), .second, .val (.long g3), .second, .val (.long g2), .second, .val (.long g1), .second, .val (.long g0), .second, .val (.int (2 : Int32)), .val (.long (x0 - g0)), .second, .val (.long (x0 - g1)), .second, .unset, .unset, .unset, .unset, .unset, .unset, .unset, .unset]) at_115 (pc' := 117) rfl rfl ?_
      refine go_lloadN C at_117 (pc' := 118) rfl rfl ?_
      refine go_lload C at_118 (pc' := 120) rfl rfl ?_
      refine go_lsub C at_120 (pc' := 121) rfl ?_
      refine go_lstore C (Ls' := #[.val (.long x0), .second, .val (.long x1), .second, .val (.int x2), .val (.long win), .second, .val (.long bb), .second, .val (.long g3), .second, .val (.long g2), .second, .val (.long g1), .second, .val (.long g0), .second, .val (.int (2 : Int32)), .val (.long (x0 - g0)), .second, .val (.long (x0 - g1)), .second, .val (.long (x0 - g2)), .second, .unset, .unset, .unset, .unset, .unset, .unset]) at_121 (pc' := 123) rfl rfl ?_
      refine go_lloadN C at_123 (pc' := 124) rfl rfl ?_
      refine go_lload C at_124 (pc' := 126) rfl rfl ?_
      refine go_lsub C at_126 (pc' := 127) rfl ?_
      refine go_lstore C (Ls' := #[.val (.long x0), .second, .val (.long x1), .second, .val (.int x2), .val (.long win), .second, .val (.long bb), .second, .val (.long g3), .second, .val (.long g2), .second, .val (.long g1), .second, .val (.long g0), .second, .val (.int (2 : Int32)), .val (.long (x0 - g0)), .second, .val (.long (x0 - g1)), .second, .val (.long (x0 - g2)), .second, .val (.long (x0 - g3)), .second, .unset, .unset, .unset, .unset]) at_127 (pc' := 129) rfl rfl ?_
      refine go_new C (wd hw 10 rfl) (wd hw 11 rfl) (wd hw 12 rfl) at_129 (pc' := 132) rfl (ce' := 1) (sl' := 7) rfl rfl (by decide) (by decide) ?_
      intro h_133 a_134 g_135 E_136 E_137 D_138
      have g_139 : Z.heap.size ≤ a_134 := own_ge (Nat.le_refl _) g_135
      have z_140 : Z.heap.size ≤ h_133.size := Nat.le_trans (Nat.le_refl _) E_136.1
      have F_141 : Fld Z h_133 a_134 "com/example/throttld/throttld/SlidingLog$Log" "ring" "[J" (.null) := D_138 (Or.inl (wd hw 26 rfl)) (ty := (.array .long)) (by decide)
      have F_142 : Fld Z h_133 a_134 "com/example/throttld/throttld/SlidingLog$Log" "count" "I" (.int (0 : Int32)) := D_138 (Or.inl (wd hw 33 rfl)) (ty := .int) (by decide)
      have F_143 : Fld Z h_133 a_134 "com/example/throttld/throttld/SlidingLog$Log" "head" "I" (.int (0 : Int32)) := D_138 (Or.inl (wd hw 45 rfl)) (ty := .int) (by decide)
      refine go_dup C at_132 (pc' := 133) rfl rfl ?_
      refine go_iconst C (4 : Int32) at_133 (pc' := 134) rfl (by decide) ?_
      refine go_specialN C (as := [.int (4 : Int32)]) (rest := [.ref a_134]) (W := 1) (sat_init4 l Z a0 hw a_134 _ _ E_137 F_141 F_143 F_142 g_139 z_140) rfl (wd hw 13 rfl) (wd hw 14 rfl) (wd hw 12 rfl) (wd hw 15 rfl) (by decide) pd_2 rfl rfl rfl (by decide) (by decide) (ce' := 2) (sl' := 11) rfl rfl (by decide) (by decide) at_134 (pc' := 137) rfl rfl ?_
      intro h_144 q_145
      obtain ⟨r_146, g_147, E_148, F_149, F_150, F_151, A_152⟩ := q_145
      refine go_astore C (Ls' := #[.val (.long x0), .second, .val (.long x1), .second, .val (.int x2), .val (.long win), .second, .val (.long bb), .second, .val (.long g3), .second, .val (.long g2), .second, .val (.long g1), .second, .val (.long g0), .second, .val (.int (2 : Int32)), .val (.long (x0 - g0)), .second, .val (.long (x0 - g1)), .second, .val (.long (x0 - g2)), .second, .val (.long (x0 - g3)), .second, .val (.ref a_134), .unset, .unset, .unset]) at_137 (pc' := 139) rfl rfl rfl ?_
      refine go_iload C at_139 (pc' := 141) rfl rfl ?_
      refine go_if0 C (2 : Int) (by decide) at_141 (by decide) (pc' := 154) (by decide) (pcN := 144) rfl (fun (c_153 : ¬ 0 < (2 : Int)) => by omega) (fun (c_153 : 0 < (2 : Int)) => ?_)
      refine go_aload C at_144 (pc' := 146) rfl rfl rfl ?_
      refine go_lload C at_146 (pc' := 148) rfl rfl ?_
      refine go_ldc2 C (v := (8 : Int64)) (wd hw 34 rfl) at_148 (pc' := 151) rfl ?_
      refine go_virtualN C (as := [.long (x0 - g0), .long (8 : Int64)]) (rest := []) (W := 0) (sat_add_4_0_0 l Z a0 hw a_134 r_146 (0 : Int64) (0 : Int64) (0 : Int64) (0 : Int64) (x0 - g0) (8 : Int64) _ _ E_148 F_149 F_150 F_151 A_152 g_139 g_147) E_148 (wd hw 35 rfl) (wd hw 36 rfl) (wd hw 38 rfl) (wd hw 37 rfl) (wd hw 12 rfl) (wd hw 39 rfl) (by decide) pd_4 rfl rfl rfl (by decide) (by decide) (ce' := 2) (sl' := 11) rfl rfl (by decide) (by decide) at_151 (pc' := 154) rfl rfl ?_
      intro h_154 q_155
      obtain ⟨r_156, g_157, E_158, F_159, F_160, F_161, A_162⟩ := q_155
      refine go_iload C at_154 (pc' := 156) rfl rfl ?_
      refine go_iconst C (1 : Int32) at_156 (pc' := 157) rfl (by decide) ?_
      refine go_icmp C (2 : Int) (1 : Int) (by decide) (by decide) at_157 (by decide) (pc' := 170) (by decide) (pcN := 160) rfl (fun (c_163 : ¬ (1 : Int) < (2 : Int)) => by omega) (fun (c_163 : (1 : Int) < (2 : Int)) => ?_)
      refine go_aload C at_160 (pc' := 162) rfl rfl rfl ?_
      refine go_lload C at_162 (pc' := 164) rfl rfl ?_
      refine go_ldc2 C (v := (8 : Int64)) (wd hw 34 rfl) at_164 (pc' := 167) rfl ?_
      refine go_virtualN C (as := [.long (x0 - g1), .long (8 : Int64)]) (rest := []) (W := 0) (sat_add_4_0_1 l Z a0 hw a_134 r_156 (x0 - g0) (0 : Int64) (0 : Int64) (0 : Int64) (x0 - g1) (8 : Int64) _ _ E_158 F_159 F_160 F_161 A_162 g_139 g_157) E_158 (wd hw 35 rfl) (wd hw 36 rfl) (wd hw 38 rfl) (wd hw 37 rfl) (wd hw 12 rfl) (wd hw 39 rfl) (by decide) pd_4 rfl rfl rfl (by decide) (by decide) (ce' := 2) (sl' := 11) rfl rfl (by decide) (by decide) at_167 (pc' := 170) rfl rfl ?_
      intro h_164 q_165
      obtain ⟨r_166, g_167, E_168, F_169, F_170, F_171, A_172⟩ := q_165
      refine go_iload C at_170 (pc' := 172) rfl rfl ?_
      refine go_iconst C (2 : Int32) at_172 (pc' := 173) rfl (by decide) ?_
      refine go_icmp C (2 : Int) (2 : Int) (by decide) (by decide) at_173 (by decide) (pc' := 186) (by decide) (pcN := 176) rfl (fun (c_173 : ¬ (2 : Int) < (2 : Int)) => ?_) (fun (c_173 : (2 : Int) < (2 : Int)) => by omega)
      refine go_iload C at_186 (pc' := 188) rfl rfl ?_
      refine go_iconst C (3 : Int32) at_188 (pc' := 189) rfl (by decide) ?_
      refine go_icmp C (2 : Int) (3 : Int) (by decide) (by decide) at_189 (by decide) (pc' := 202) (by decide) (pcN := 192) rfl (fun (c_174 : ¬ (3 : Int) < (2 : Int)) => ?_) (fun (c_174 : (3 : Int) < (2 : Int)) => by omega)
      refine go_iload C at_202 (pc' := 204) rfl rfl ?_
      refine go_if0 C (2 : Int) (by decide) at_204 (by decide) (pc' := 219) (by decide) (pcN := 207) rfl (fun (c_175 : ¬ 0 < (2 : Int)) => by omega) (fun (c_175 : 0 < (2 : Int)) => ?_)
      refine go_lload C at_207 (pc' := 209) rfl rfl ?_
      refine go_lload C at_209 (pc' := 211) rfl rfl ?_
      refine go_lcmp C g0.toInt win.toInt rfl rfl at_211 (pc1 := 212) rfl at_212 (by decide) (pc' := 219) (by decide) (pcN := 215) rfl (fun (c_176 : g0.toInt < win.toInt) => ?_) (fun (c_176 : ¬ g0.toInt < win.toInt) => ?_)
      · skip
        refine go_iconst C (0 : Int32) at_219 (pc' := 220) rfl (by decide) ?_
        refine go_iload C at_220 (pc' := 222) rfl rfl ?_
        refine go_iconst C (1 : Int32) at_222 (pc' := 223) rfl (by decide) ?_
        refine go_icmp C (2 : Int) (1 : Int) (by decide) (by decide) at_223 (by decide) (pc' := 238) (by decide) (pcN := 226) rfl (fun (c_177 : ¬ (1 : Int) < (2 : Int)) => by omega) (fun (c_177 : (1 : Int) < (2 : Int)) => ?_)
        refine go_lload C at_226 (pc' := 228) rfl rfl ?_
        refine go_lload C at_228 (pc' := 230) rfl rfl ?_
        refine go_lcmp C g1.toInt win.toInt rfl rfl at_230 (pc1 := 231) rfl at_231 (by decide) (pc' := 238) (by decide) (pcN := 234) rfl (fun (c_178 : g1.toInt < win.toInt) => ?_) (fun (c_178 : ¬ g1.toInt < win.toInt) => by omega)
        refine go_iconst C (0 : Int32) at_238 (pc' := 239) rfl (by decide) ?_
        refine go_iadd C at_239 (pc' := 240) rfl ?_
        rw [(by decide : (0 : Int32) + (0 : Int32) = (0 : Int32))]
        refine go_iload C at_240 (pc' := 242) rfl rfl ?_
        refine go_iconst C (2 : Int32) at_242 (pc' := 243) rfl (by decide) ?_
        refine go_icmp C (2 : Int) (2 : Int) (by decide) (by decide) at_243 (by decide) (pc' := 258) (by decide) (pcN := 246) rfl (fun (c_179 : ¬ (2 : Int) < (2 : Int)) => ?_) (fun (c_179 : (2 : Int) < (2 : Int)) => by omega)
        refine go_iconst C (0 : Int32) at_258 (pc' := 259) rfl (by decide) ?_
        refine go_iadd C at_259 (pc' := 260) rfl ?_
        rw [(by decide : (0 : Int32) + (0 : Int32) = (0 : Int32))]
        refine go_iload C at_260 (pc' := 262) rfl rfl ?_
        refine go_iconst C (3 : Int32) at_262 (pc' := 263) rfl (by decide) ?_
        refine go_icmp C (2 : Int) (3 : Int) (by decide) (by decide) at_263 (by decide) (pc' := 278) (by decide) (pcN := 266) rfl (fun (c_180 : ¬ (3 : Int) < (2 : Int)) => ?_) (fun (c_180 : (3 : Int) < (2 : Int)) => by omega)
        refine go_iconst C (0 : Int32) at_278 (pc' := 279) rfl (by decide) ?_
        refine go_iadd C at_279 (pc' := 280) rfl ?_
        rw [(by decide : (0 : Int32) + (0 : Int32) = (0 : Int32))]
        refine go_istore C (Ls' := #[.val (.long x0), .second, .val (.long x1), .second, .val (.int x2), .val (.long win), .second, .val (.long bb), .second, .val (.long g3), .second, .val (.long g2), .second, .val (.long g1), .second, .val (.long g0), .second, .val (.int (2 : Int32)), .val (.long (x0 - g0)), .second, .val (.long (x0 - g1)), .second, .val (.long (x0 - g2)), .second, .val (.long (x0 - g3)), .second, .val (.ref a_134), .val (.int (0 : Int32)), .unset, .unset]) at_280 (pc' := 282) rfl rfl ?_
        refine go_aload C at_282 (pc' := 284) rfl rfl rfl ?_
        refine go_lloadN C at_284 (pc' := 285) rfl rfl ?_
        refine go_lload C at_285 (pc' := 287) rfl rfl ?_
        refine go_virtualN C (as := [.long x0, .long win]) (rest := []) (W := 0) (sat_drop_4_0_2 l Z a0 hw a_134 r_166 (x0 - g0) (x0 - g1) (0 : Int64) (0 : Int64) x0 win _ _ E_168 F_169 F_170 F_171 A_172 g_139 g_167) E_168 (wd hw 27 rfl) (wd hw 28 rfl) (wd hw 30 rfl) (wd hw 29 rfl) (wd hw 12 rfl) (wd hw 31 rfl) (by decide) pd_4 rfl rfl rfl (by decide) (by decide) (ce' := 2) (sl' := 11) rfl rfl (by decide) (by decide) at_287 (pc' := 290) rfl rfl ?_
        intro h_181 q_182
        rcases q_182 with q_182 | q_182 | q_182
        · skip
          obtain ⟨hc_183, E_184, F_185, F_186, F_187, A_188⟩ := q_182
          refine go_iload C at_290 (pc' := 292) rfl rfl ?_
          refine go_iload C at_292 (pc' := 294) rfl rfl ?_
          refine go_icmp C (0 : Int) (2 : Int) (by decide) (by decide) at_294 (by decide) (pc' := 340) (by decide) (pcN := 297) rfl (fun (c_189 : ¬ (0 : Int) = (2 : Int)) => ?_) (fun (c_189 : (0 : Int) = (2 : Int)) => by omega)
          refine go_aload C at_340 (pc' := 342) rfl rfl rfl ?_
          refine go_virtualP C (as := []) (rest := []) (W := 0) (.long (x0 - g0)) (sat_old_4_0_2 l Z a0 hw a_134 r_166 (x0 - g0) (x0 - g1) (0 : Int64) (0 : Int64) _ _ E_184 F_185 F_186 F_187 A_188 g_139 g_167) E_184 (wd hw 46 rfl) (wd hw 47 rfl) (wd hw 49 rfl) (wd hw 48 rfl) (wd hw 12 rfl) (wd hw 50 rfl) (by decide) pd_6 rfl rfl rfl (by decide) (by decide) rfl rfl (by decide) (by decide) at_342 (pc' := 345) rfl rfl ?_
          refine go_iload C at_345 (pc' := 347) rfl rfl ?_
          refine go_lload C at_347 (pc' := 349) rfl rfl ?_
          refine go_lload C at_349 (pc' := 351) rfl rfl ?_
          refine go_lload C at_351 (pc' := 353) rfl rfl ?_
          refine go_lload C at_353 (pc' := 355) rfl rfl ?_
          refine go_staticP C (as := [.int (0 : Int32), .long (x0 - g0), .long (x0 - g1), .long (x0 - g2), .long (x0 - g3)]) (rest := [.long (x0 - g0)]) (W := 2) (.long (x0 - g0)) (sat_pick0 l Z a0 hw (x0 - g0) (x0 - g1) (x0 - g2) (x0 - g3) _ _) (wd hw 56 rfl) (wd hw 57 rfl) (wd hw 58 rfl) (wd hw 59 rfl) (by decide) pd_7 rfl rfl rfl (by decide) (by decide) rfl rfl (by decide) (by decide) at_355 (pc' := 358) rfl rfl ?_
          refine go_lcmp C ((x0 - g0).toInt) ((x0 - g0).toInt) rfl rfl at_358 (pc1 := 359) rfl at_359 (by decide) (pc' := 390) (by decide) (pcN := 362) rfl (fun (c_190 : ¬ ((x0 - g0).toInt) = ((x0 - g0).toInt)) => by omega) (fun (c_190 : ((x0 - g0).toInt) = ((x0 - g0).toInt)) => ?_)
          refine go_aload C at_362 (pc' := 364) rfl rfl rfl ?_
          refine go_virtualP C (as := []) (rest := []) (W := 0) (.long (x0 - g1)) (sat_new_4_0_2 l Z a0 hw a_134 r_166 (x0 - g0) (x0 - g1) (0 : Int64) (0 : Int64) _ _ E_184 F_185 F_186 F_187 A_188 g_139 g_167) E_184 (wd hw 51 rfl) (wd hw 52 rfl) (wd hw 54 rfl) (wd hw 53 rfl) (wd hw 12 rfl) (wd hw 55 rfl) (by decide) pd_6 rfl rfl rfl (by decide) (by decide) rfl rfl (by decide) (by decide) at_364 (pc' := 367) rfl rfl ?_
          refine go_iload C at_367 (pc' := 369) rfl rfl ?_
          refine go_iconst C (1 : Int32) at_369 (pc' := 370) rfl (by decide) ?_
          refine go_isub C at_370 (pc' := 371) rfl ?_
          rw [(by decide : (2 : Int32) - (1 : Int32) = (1 : Int32))]
          refine go_lload C at_371 (pc' := 373) rfl rfl ?_
          refine go_lload C at_373 (pc' := 375) rfl rfl ?_
          refine go_lload C at_375 (pc' := 377) rfl rfl ?_
          refine go_lload C at_377 (pc' := 379) rfl rfl ?_
          refine go_staticP C (as := [.int (1 : Int32), .long (x0 - g0), .long (x0 - g1), .long (x0 - g2), .long (x0 - g3)]) (rest := [.long (x0 - g1)]) (W := 2) (.long (x0 - g1)) (sat_pick1 l Z a0 hw (x0 - g0) (x0 - g1) (x0 - g2) (x0 - g3) _ _) (wd hw 56 rfl) (wd hw 57 rfl) (wd hw 58 rfl) (wd hw 59 rfl) (by decide) pd_7 rfl rfl rfl (by decide) (by decide) rfl rfl (by decide) (by decide) at_379 (pc' := 382) rfl rfl ?_
          refine go_lcmp C ((x0 - g1).toInt) ((x0 - g1).toInt) rfl rfl at_382 (pc1 := 383) rfl at_383 (by decide) (pc' := 390) (by decide) (pcN := 386) rfl (fun (c_191 : ¬ ((x0 - g1).toInt) = ((x0 - g1).toInt)) => by omega) (fun (c_191 : ((x0 - g1).toInt) = ((x0 - g1).toInt)) => ?_)
          refine go_iconst C (1 : Int32) at_386 (pc' := 387) rfl (by decide) ?_
          refine go_goto C at_387 (by decide) (pc' := 391) (by decide) ?_
          refine go_ireturnN C (z' := (1 : Int32)) rfl (by simp) rfl at_391 (by decide) (by decide) ?_
          exact ⟨_, rfl, rfl⟩
        · skip
          obtain ⟨hc_192, E_193, F_194, F_195, F_196, A_197⟩ := q_182
          exfalso; omega
        · skip
          obtain ⟨hc_198, E_199, F_200, F_201, F_202, A_203⟩ := q_182
          exfalso; omega
      · skip
        refine go_iconst C (1 : Int32) at_215 (pc' := 216) rfl (by decide) ?_
        refine go_goto C at_216 (by decide) (pc' := 220) (by decide) ?_
        refine go_iload C at_220 (pc' := 222) rfl rfl ?_
        refine go_iconst C (1 : Int32) at_222 (pc' := 223) rfl (by decide) ?_
        refine go_icmp C (2 : Int) (1 : Int) (by decide) (by decide) at_223 (by decide) (pc' := 238) (by decide) (pcN := 226) rfl (fun (c_204 : ¬ (1 : Int) < (2 : Int)) => by omega) (fun (c_204 : (1 : Int) < (2 : Int)) => ?_)
        refine go_lload C at_226 (pc' := 228) rfl rfl ?_
        refine go_lload C at_228 (pc' := 230) rfl rfl ?_
        refine go_lcmp C g1.toInt win.toInt rfl rfl at_230 (pc1 := 231) rfl at_231 (by decide) (pc' := 238) (by decide) (pcN := 234) rfl (fun (c_205 : g1.toInt < win.toInt) => ?_) (fun (c_205 : ¬ g1.toInt < win.toInt) => ?_)
        · skip
          refine go_iconst C (0 : Int32) at_238 (pc' := 239) rfl (by decide) ?_
          refine go_iadd C at_239 (pc' := 240) rfl ?_
          rw [(by decide : (1 : Int32) + (0 : Int32) = (1 : Int32))]
          refine go_iload C at_240 (pc' := 242) rfl rfl ?_
          refine go_iconst C (2 : Int32) at_242 (pc' := 243) rfl (by decide) ?_
          refine go_icmp C (2 : Int) (2 : Int) (by decide) (by decide) at_243 (by decide) (pc' := 258) (by decide) (pcN := 246) rfl (fun (c_206 : ¬ (2 : Int) < (2 : Int)) => ?_) (fun (c_206 : (2 : Int) < (2 : Int)) => by omega)
          refine go_iconst C (0 : Int32) at_258 (pc' := 259) rfl (by decide) ?_
          refine go_iadd C at_259 (pc' := 260) rfl ?_
          rw [(by decide : (1 : Int32) + (0 : Int32) = (1 : Int32))]
          refine go_iload C at_260 (pc' := 262) rfl rfl ?_
          refine go_iconst C (3 : Int32) at_262 (pc' := 263) rfl (by decide) ?_
          refine go_icmp C (2 : Int) (3 : Int) (by decide) (by decide) at_263 (by decide) (pc' := 278) (by decide) (pcN := 266) rfl (fun (c_207 : ¬ (3 : Int) < (2 : Int)) => ?_) (fun (c_207 : (3 : Int) < (2 : Int)) => by omega)
          refine go_iconst C (0 : Int32) at_278 (pc' := 279) rfl (by decide) ?_
          refine go_iadd C at_279 (pc' := 280) rfl ?_
          rw [(by decide : (1 : Int32) + (0 : Int32) = (1 : Int32))]
          refine go_istore C (Ls' := #[.val (.long x0), .second, .val (.long x1), .second, .val (.int x2), .val (.long win), .second, .val (.long bb), .second, .val (.long g3), .second, .val (.long g2), .second, .val (.long g1), .second, .val (.long g0), .second, .val (.int (2 : Int32)), .val (.long (x0 - g0)), .second, .val (.long (x0 - g1)), .second, .val (.long (x0 - g2)), .second, .val (.long (x0 - g3)), .second, .val (.ref a_134), .val (.int (1 : Int32)), .unset, .unset]) at_280 (pc' := 282) rfl rfl ?_
          refine go_aload C at_282 (pc' := 284) rfl rfl rfl ?_
          refine go_lloadN C at_284 (pc' := 285) rfl rfl ?_
          refine go_lload C at_285 (pc' := 287) rfl rfl ?_
          refine go_virtualN C (as := [.long x0, .long win]) (rest := []) (W := 0) (sat_drop_4_0_2 l Z a0 hw a_134 r_166 (x0 - g0) (x0 - g1) (0 : Int64) (0 : Int64) x0 win _ _ E_168 F_169 F_170 F_171 A_172 g_139 g_167) E_168 (wd hw 27 rfl) (wd hw 28 rfl) (wd hw 30 rfl) (wd hw 29 rfl) (wd hw 12 rfl) (wd hw 31 rfl) (by decide) pd_4 rfl rfl rfl (by decide) (by decide) (ce' := 2) (sl' := 11) rfl rfl (by decide) (by decide) at_287 (pc' := 290) rfl rfl ?_
          intro h_208 q_209
          rcases q_209 with q_209 | q_209 | q_209
          · skip
            obtain ⟨hc_210, E_211, F_212, F_213, F_214, A_215⟩ := q_209
            exfalso; omega
          · skip
            obtain ⟨hc_216, E_217, F_218, F_219, F_220, A_221⟩ := q_209
            refine go_iload C at_290 (pc' := 292) rfl rfl ?_
            refine go_iload C at_292 (pc' := 294) rfl rfl ?_
            refine go_icmp C (1 : Int) (2 : Int) (by decide) (by decide) at_294 (by decide) (pc' := 340) (by decide) (pcN := 297) rfl (fun (c_222 : ¬ (1 : Int) = (2 : Int)) => ?_) (fun (c_222 : (1 : Int) = (2 : Int)) => by omega)
            refine go_aload C at_340 (pc' := 342) rfl rfl rfl ?_
            refine go_virtualP C (as := []) (rest := []) (W := 0) (.long (x0 - g1)) (sat_old_4_1_1 l Z a0 hw a_134 r_166 (x0 - g0) (x0 - g1) (0 : Int64) (0 : Int64) _ _ E_217 F_218 F_219 F_220 A_221 g_139 g_167) E_217 (wd hw 46 rfl) (wd hw 47 rfl) (wd hw 49 rfl) (wd hw 48 rfl) (wd hw 12 rfl) (wd hw 50 rfl) (by decide) pd_6 rfl rfl rfl (by decide) (by decide) rfl rfl (by decide) (by decide) at_342 (pc' := 345) rfl rfl ?_
            refine go_iload C at_345 (pc' := 347) rfl rfl ?_
            refine go_lload C at_347 (pc' := 349) rfl rfl ?_
            refine go_lload C at_349 (pc' := 351) rfl rfl ?_
            refine go_lload C at_351 (pc' := 353) rfl rfl ?_
            refine go_lload C at_353 (pc' := 355) rfl rfl ?_
            refine go_staticP C (as := [.int (1 : Int32), .long (x0 - g0), .long (x0 - g1), .long (x0 - g2), .long (x0 - g3)]) (rest := [.long (x0 - g1)]) (W := 2) (.long (x0 - g1)) (sat_pick1 l Z a0 hw (x0 - g0) (x0 - g1) (x0 - g2) (x0 - g3) _ _) (wd hw 56 rfl) (wd hw 57 rfl) (wd hw 58 rfl) (wd hw 59 rfl) (by decide) pd_7 rfl rfl rfl (by decide) (by decide) rfl rfl (by decide) (by decide) at_355 (pc' := 358) rfl rfl ?_
            refine go_lcmp C ((x0 - g1).toInt) ((x0 - g1).toInt) rfl rfl at_358 (pc1 := 359) rfl at_359 (by decide) (pc' := 390) (by decide) (pcN := 362) rfl (fun (c_223 : ¬ ((x0 - g1).toInt) = ((x0 - g1).toInt)) => by omega) (fun (c_223 : ((x0 - g1).toInt) = ((x0 - g1).toInt)) => ?_)
            refine go_aload C at_362 (pc' := 364) rfl rfl rfl ?_
            refine go_virtualP C (as := []) (rest := []) (W := 0) (.long (x0 - g1)) (sat_new_4_1_1 l Z a0 hw a_134 r_166 (x0 - g0) (x0 - g1) (0 : Int64) (0 : Int64) _ _ E_217 F_218 F_219 F_220 A_221 g_139 g_167) E_217 (wd hw 51 rfl) (wd hw 52 rfl) (wd hw 54 rfl) (wd hw 53 rfl) (wd hw 12 rfl) (wd hw 55 rfl) (by decide) pd_6 rfl rfl rfl (by decide) (by decide) rfl rfl (by decide) (by decide) at_364 (pc' := 367) rfl rfl ?_
            refine go_iload C at_367 (pc' := 369) rfl rfl ?_
            refine go_iconst C (1 : Int32) at_369 (pc' := 370) rfl (by decide) ?_
            refine go_isub C at_370 (pc' := 371) rfl ?_
            rw [(by decide : (2 : Int32) - (1 : Int32) = (1 : Int32))]
            refine go_lload C at_371 (pc' := 373) rfl rfl ?_
            refine go_lload C at_373 (pc' := 375) rfl rfl ?_
            refine go_lload C at_375 (pc' := 377) rfl rfl ?_
            refine go_lload C at_377 (pc' := 379) rfl rfl ?_
            refine go_staticP C (as := [.int (1 : Int32), .long (x0 - g0), .long (x0 - g1), .long (x0 - g2), .long (x0 - g3)]) (rest := [.long (x0 - g1)]) (W := 2) (.long (x0 - g1)) (sat_pick1 l Z a0 hw (x0 - g0) (x0 - g1) (x0 - g2) (x0 - g3) _ _) (wd hw 56 rfl) (wd hw 57 rfl) (wd hw 58 rfl) (wd hw 59 rfl) (by decide) pd_7 rfl rfl rfl (by decide) (by decide) rfl rfl (by decide) (by decide) at_379 (pc' := 382) rfl rfl ?_
            refine go_lcmp C ((x0 - g1).toInt) ((x0 - g1).toInt) rfl rfl at_382 (pc1 := 383) rfl at_383 (by decide) (pc' := 390) (by decide) (pcN := 386) rfl (fun (c_224 : ¬ ((x0 - g1).toInt) = ((x0 - g1).toInt)) => by omega) (fun (c_224 : ((x0 - g1).toInt) = ((x0 - g1).toInt)) => ?_)
            refine go_iconst C (1 : Int32) at_386 (pc' := 387) rfl (by decide) ?_
            refine go_goto C at_387 (by decide) (pc' := 391) (by decide) ?_
            refine go_ireturnN C (z' := (1 : Int32)) rfl (by simp) rfl at_391 (by decide) (by decide) ?_
            exact ⟨_, rfl, rfl⟩
          · skip
            obtain ⟨hc_225, E_226, F_227, F_228, F_229, A_230⟩ := q_209
            exfalso; omega
        · skip
          refine go_iconst C (1 : Int32) at_234 (pc' := 235) rfl (by decide) ?_
          refine go_goto C at_235 (by decide) (pc' := 239) (by decide) ?_
          refine go_iadd C at_239 (pc' := 240) rfl ?_
          rw [(by decide : (1 : Int32) + (1 : Int32) = (2 : Int32))]
          refine go_iload C at_240 (pc' := 242) rfl rfl ?_
          refine go_iconst C (2 : Int32) at_242 (pc' := 243) rfl (by decide) ?_
          refine go_icmp C (2 : Int) (2 : Int) (by decide) (by decide) at_243 (by decide) (pc' := 258) (by decide) (pcN := 246) rfl (fun (c_231 : ¬ (2 : Int) < (2 : Int)) => ?_) (fun (c_231 : (2 : Int) < (2 : Int)) => by omega)
          refine go_iconst C (0 : Int32) at_258 (pc' := 259) rfl (by decide) ?_
          refine go_iadd C at_259 (pc' := 260) rfl ?_
          rw [(by decide : (2 : Int32) + (0 : Int32) = (2 : Int32))]
          refine go_iload C at_260 (pc' := 262) rfl rfl ?_
          refine go_iconst C (3 : Int32) at_262 (pc' := 263) rfl (by decide) ?_
          refine go_icmp C (2 : Int) (3 : Int) (by decide) (by decide) at_263 (by decide) (pc' := 278) (by decide) (pcN := 266) rfl (fun (c_232 : ¬ (3 : Int) < (2 : Int)) => ?_) (fun (c_232 : (3 : Int) < (2 : Int)) => by omega)
          refine go_iconst C (0 : Int32) at_278 (pc' := 279) rfl (by decide) ?_
          refine go_iadd C at_279 (pc' := 280) rfl ?_
          rw [(by decide : (2 : Int32) + (0 : Int32) = (2 : Int32))]
          refine go_istore C (Ls' := #[.val (.long x0), .second, .val (.long x1), .second, .val (.int x2), .val (.long win), .second, .val (.long bb), .second, .val (.long g3), .second, .val (.long g2), .second, .val (.long g1), .second, .val (.long g0), .second, .val (.int (2 : Int32)), .val (.long (x0 - g0)), .second, .val (.long (x0 - g1)), .second, .val (.long (x0 - g2)), .second, .val (.long (x0 - g3)), .second, .val (.ref a_134), .val (.int (2 : Int32)), .unset, .unset]) at_280 (pc' := 282) rfl rfl ?_
          refine go_aload C at_282 (pc' := 284) rfl rfl rfl ?_
          refine go_lloadN C at_284 (pc' := 285) rfl rfl ?_
          refine go_lload C at_285 (pc' := 287) rfl rfl ?_
          refine go_virtualN C (as := [.long x0, .long win]) (rest := []) (W := 0) (sat_drop_4_0_2 l Z a0 hw a_134 r_166 (x0 - g0) (x0 - g1) (0 : Int64) (0 : Int64) x0 win _ _ E_168 F_169 F_170 F_171 A_172 g_139 g_167) E_168 (wd hw 27 rfl) (wd hw 28 rfl) (wd hw 30 rfl) (wd hw 29 rfl) (wd hw 12 rfl) (wd hw 31 rfl) (by decide) pd_4 rfl rfl rfl (by decide) (by decide) (ce' := 2) (sl' := 11) rfl rfl (by decide) (by decide) at_287 (pc' := 290) rfl rfl ?_
          intro h_233 q_234
          rcases q_234 with q_234 | q_234 | q_234
          · skip
            obtain ⟨hc_235, E_236, F_237, F_238, F_239, A_240⟩ := q_234
            exfalso; omega
          · skip
            obtain ⟨hc_241, E_242, F_243, F_244, F_245, A_246⟩ := q_234
            exfalso; omega
          · skip
            obtain ⟨hc_247, E_248, F_249, F_250, F_251, A_252⟩ := q_234
            refine go_iload C at_290 (pc' := 292) rfl rfl ?_
            refine go_iload C at_292 (pc' := 294) rfl rfl ?_
            refine go_icmp C (2 : Int) (2 : Int) (by decide) (by decide) at_294 (by decide) (pc' := 340) (by decide) (pcN := 297) rfl (fun (c_253 : ¬ (2 : Int) = (2 : Int)) => by omega) (fun (c_253 : (2 : Int) = (2 : Int)) => ?_)
            refine go_lloadN C at_297 (pc' := 298) rfl rfl ?_
            refine go_lconst C (1 : Int64) at_298 (pc' := 299) rfl (by decide) ?_
            refine go_ladd C at_299 (pc' := 300) rfl ?_
            refine go_lstore C (Ls' := #[.val (.long x0), .second, .val (.long x1), .second, .val (.int x2), .val (.long win), .second, .val (.long bb), .second, .val (.long g3), .second, .val (.long g2), .second, .val (.long g1), .second, .val (.long g0), .second, .val (.int (2 : Int32)), .val (.long (x0 - g0)), .second, .val (.long (x0 - g1)), .second, .val (.long (x0 - g2)), .second, .val (.long (x0 - g3)), .second, .val (.ref a_134), .val (.int (2 : Int32)), .val (.long (x0 + (1 : Int64))), .second]) at_300 (pc' := 302) rfl rfl ?_
            refine go_aload C at_302 (pc' := 304) rfl rfl rfl ?_
            refine go_lload C at_304 (pc' := 306) rfl rfl ?_
            refine go_ldc2 C (v := (8 : Int64)) (wd hw 34 rfl) at_306 (pc' := 309) rfl ?_
            refine go_virtualN C (as := [.long (x0 + (1 : Int64)), .long (8 : Int64)]) (rest := []) (W := 0) (sat_add_4_2_0 l Z a0 hw a_134 r_166 (x0 - g0) (x0 - g1) (0 : Int64) (0 : Int64) (x0 + (1 : Int64)) (8 : Int64) _ _ E_248 F_249 F_250 F_251 A_252 g_139 g_167) E_248 (wd hw 35 rfl) (wd hw 36 rfl) (wd hw 38 rfl) (wd hw 37 rfl) (wd hw 12 rfl) (wd hw 39 rfl) (by decide) pd_4 rfl rfl rfl (by decide) (by decide) (ce' := 2) (sl' := 11) rfl rfl (by decide) (by decide) at_309 (pc' := 312) rfl rfl ?_
            intro h_254 q_255
            obtain ⟨r_256, g_257, E_258, F_259, F_260, F_261, A_262⟩ := q_255
            refine go_aload C at_312 (pc' := 314) rfl rfl rfl ?_
            refine go_virtualP C (as := []) (rest := []) (W := 0) (.long (x0 + (1 : Int64))) (sat_old_4_2_1 l Z a0 hw a_134 r_256 (x0 - g0) (x0 - g1) (x0 + (1 : Int64)) (0 : Int64) _ _ E_258 F_259 F_260 F_261 A_262 g_139 g_257) E_258 (wd hw 46 rfl) (wd hw 47 rfl) (wd hw 49 rfl) (wd hw 48 rfl) (wd hw 12 rfl) (wd hw 50 rfl) (by decide) pd_6 rfl rfl rfl (by decide) (by decide) rfl rfl (by decide) (by decide) at_314 (pc' := 317) rfl rfl ?_
            refine go_lload C at_317 (pc' := 319) rfl rfl ?_
            refine go_lcmp C ((x0 + (1 : Int64)).toInt) ((x0 + (1 : Int64)).toInt) rfl rfl at_319 (pc1 := 320) rfl at_320 (by decide) (pc' := 338) (by decide) (pcN := 323) rfl (fun (c_263 : ¬ ((x0 + (1 : Int64)).toInt) = ((x0 + (1 : Int64)).toInt)) => by omega) (fun (c_263 : ((x0 + (1 : Int64)).toInt) = ((x0 + (1 : Int64)).toInt)) => ?_)
            refine go_aload C at_323 (pc' := 325) rfl rfl rfl ?_
            refine go_virtualP C (as := []) (rest := []) (W := 0) (.long (x0 + (1 : Int64))) (sat_new_4_2_1 l Z a0 hw a_134 r_256 (x0 - g0) (x0 - g1) (x0 + (1 : Int64)) (0 : Int64) _ _ E_258 F_259 F_260 F_261 A_262 g_139 g_257) E_258 (wd hw 51 rfl) (wd hw 52 rfl) (wd hw 54 rfl) (wd hw 53 rfl) (wd hw 12 rfl) (wd hw 55 rfl) (by decide) pd_6 rfl rfl rfl (by decide) (by decide) rfl rfl (by decide) (by decide) at_325 (pc' := 328) rfl rfl ?_
            refine go_lload C at_328 (pc' := 330) rfl rfl ?_
            refine go_lcmp C ((x0 + (1 : Int64)).toInt) ((x0 + (1 : Int64)).toInt) rfl rfl at_330 (pc1 := 331) rfl at_331 (by decide) (pc' := 338) (by decide) (pcN := 334) rfl (fun (c_264 : ¬ ((x0 + (1 : Int64)).toInt) = ((x0 + (1 : Int64)).toInt)) => by omega) (fun (c_264 : ((x0 + (1 : Int64)).toInt) = ((x0 + (1 : Int64)).toInt)) => ?_)
            refine go_iconst C (1 : Int32) at_334 (pc' := 335) rfl (by decide) ?_
            refine go_goto C at_335 (by decide) (pc' := 339) (by decide) ?_
            refine go_ireturnN C (z' := (1 : Int32)) rfl (by simp) rfl at_339 (by decide) (by decide) ?_
            exact ⟨_, rfl, rfl⟩
    · rw [hn]
      refine go_lloadN C at_105 (pc' := 106) rfl rfl ?_
      refine go_lload C at_106 (pc' := 108) rfl rfl ?_
      refine go_lsub C at_108 (pc' := 109) rfl ?_
      refine go_lstore C (Ls' := #[.val (.long x0), .second, .val (.long x1), .second, .val (.int x2), .val (.long win), .second, .val (.long bb), .second, .val (.long g3), .second, .val (.long g2), .second, .val (.long g1), .second, .val (.long g0), .second, .val (.int (3 : Int32)), .val (.long (x0 - g0)), .second, .unset, .unset, .unset, .unset, .unset, .unset, .unset, .unset, .unset, .unset]) at_109 (pc' := 111) rfl rfl ?_
      refine go_lloadN C at_111 (pc' := 112) rfl rfl ?_
      refine go_lload C at_112 (pc' := 114) rfl rfl ?_
      refine go_lsub C at_114 (pc' := 115) rfl ?_
      refine go_lstore C (Ls' := #[.val (.long x0), .second, .val (.long x1), .second, .val (.int x2), .val (.long win), .second, .val (.long bb), .second, .val (.long g3), .second, .val (.long g2), .second, .val (.long g1), .second, .val (.long g0), .second, .val (.int (3 : Int32)), .val (.long (x0 - g0)), .second, .val (.long (x0 - g1)), .second, .unset, .unset, .unset, .unset, .unset, .unset, .unset, .unset]) at_115 (pc' := 117) rfl rfl ?_
      refine go_lloadN C at_117 (pc' := 118) rfl rfl ?_
      refine go_lload C at_118 (pc' := 120) rfl rfl ?_
      refine go_lsub C at_120 (pc' := 121) rfl ?_
      refine go_lstore C (Ls' := #[.val (.long x0), .second, .val (.long x1), .second, .val (.int x2), .val (.long win), .second, .val (.long bb), .second, .val (.long g3), .second, .val (.long g2), .second, .val (.long g1), .second, .val (.long g0), .second, .val (.int (3 : Int32)), .val (.long (x0 - g0)), .second, .val (.long (x0 - g1)), .second, .val (.long (x0 - g2)), .second, .unset, .unset, .unset, .unset, .unset, .unset]) at_121 (pc' := 123) rfl rfl ?_
      refine go_lloadN C at_123 (pc' := 124) rfl rfl ?_
      refine go_lload C at_124 (pc' := 126) rfl rfl ?_
      refine go_lsub C at_126 (pc' := 127) rfl ?_
      refine go_lstore C (Ls' := #[.val (.long x0), .second, .val (.long x1), .second, .val (.int x2), .val (.long win), .second, .val (.long bb), .second, .val (.long g3), .second, .val (.long g2), .second, .val (.long g1), .second, .val (.long g0), .second, .val (.int (3 : Int32)), .val (.long (x0 - g0)), .second, .val (.long (x0 - g1)), .second, .val (.long (x0 - g2)), .second, .val (.long (x0 - g3)), .second, .unset, .unset, .unset, .unset]) at_127 (pc' := 129) rfl rfl ?_
      refine go_new C (wd hw 10 rfl) (wd hw 11 rfl) (wd hw 12 rfl) at_129 (pc' := 132) rfl (ce' := 1) (sl' := 7) rfl rfl (by decide) (by decide) ?_
      intro h_265 a_266 g_267 E_268 E_269 D_270
      have g_271 : Z.heap.size ≤ a_266 := own_ge (Nat.le_refl _) g_267
      have z_272 : Z.heap.size ≤ h_265.size := Nat.le_trans (Nat.le_refl _) E_268.1
      have F_273 : Fld Z h_265 a_266 "com/example/throttld/throttld/SlidingLog$Log" "ring" "[J" (.null) := D_270 (Or.inl (wd hw 26 rfl)) (ty := (.array .long)) (by decide)
      have F_274 : Fld Z h_265 a_266 "com/example/throttld/throttld/SlidingLog$Log" "count" "I" (.int (0 : Int32)) := D_270 (Or.inl (wd hw 33 rfl)) (ty := .int) (by decide)
      have F_275 : Fld Z h_265 a_266 "com/example/throttld/throttld/SlidingLog$Log" "head" "I" (.int (0 : Int32)) := D_270 (Or.inl (wd hw 45 rfl)) (ty := .int) (by decide)
      refine go_dup C at_132 (pc' := 133) rfl rfl ?_
      refine go_iconst C (4 : Int32) at_133 (pc' := 134) rfl (by decide) ?_
      refine go_specialN C (as := [.int (4 : Int32)]) (rest := [.ref a_266]) (W := 1) (sat_init4 l Z a0 hw a_266 _ _ E_269 F_273 F_275 F_274 g_271 z_272) rfl (wd hw 13 rfl) (wd hw 14 rfl) (wd hw 12 rfl) (wd hw 15 rfl) (by decide) pd_2 rfl rfl rfl (by decide) (by decide) (ce' := 2) (sl' := 11) rfl rfl (by decide) (by decide) at_134 (pc' := 137) rfl rfl ?_
      intro h_276 q_277
      obtain ⟨r_278, g_279, E_280, F_281, F_282, F_283, A_284⟩ := q_277
      refine go_astore C (Ls' := #[.val (.long x0), .second, .val (.long x1), .second, .val (.int x2), .val (.long win), .second, .val (.long bb), .second, .val (.long g3), .second, .val (.long g2), .second, .val (.long g1), .second, .val (.long g0), .second, .val (.int (3 : Int32)), .val (.long (x0 - g0)), .second, .val (.long (x0 - g1)), .second, .val (.long (x0 - g2)), .second, .val (.long (x0 - g3)), .second, .val (.ref a_266), .unset, .unset, .unset]) at_137 (pc' := 139) rfl rfl rfl ?_
      refine go_iload C at_139 (pc' := 141) rfl rfl ?_
      refine go_if0 C (3 : Int) (by decide) at_141 (by decide) (pc' := 154) (by decide) (pcN := 144) rfl (fun (c_285 : ¬ 0 < (3 : Int)) => by omega) (fun (c_285 : 0 < (3 : Int)) => ?_)
      refine go_aload C at_144 (pc' := 146) rfl rfl rfl ?_
      refine go_lload C at_146 (pc' := 148) rfl rfl ?_
      refine go_ldc2 C (v := (8 : Int64)) (wd hw 34 rfl) at_148 (pc' := 151) rfl ?_
      refine go_virtualN C (as := [.long (x0 - g0), .long (8 : Int64)]) (rest := []) (W := 0) (sat_add_4_0_0 l Z a0 hw a_266 r_278 (0 : Int64) (0 : Int64) (0 : Int64) (0 : Int64) (x0 - g0) (8 : Int64) _ _ E_280 F_281 F_282 F_283 A_284 g_271 g_279) E_280 (wd hw 35 rfl) (wd hw 36 rfl) (wd hw 38 rfl) (wd hw 37 rfl) (wd hw 12 rfl) (wd hw 39 rfl) (by decide) pd_4 rfl rfl rfl (by decide) (by decide) (ce' := 2) (sl' := 11) rfl rfl (by decide) (by decide) at_151 (pc' := 154) rfl rfl ?_
      intro h_286 q_287
      obtain ⟨r_288, g_289, E_290, F_291, F_292, F_293, A_294⟩ := q_287
      refine go_iload C at_154 (pc' := 156) rfl rfl ?_
      refine go_iconst C (1 : Int32) at_156 (pc' := 157) rfl (by decide) ?_
      refine go_icmp C (3 : Int) (1 : Int) (by decide) (by decide) at_157 (by decide) (pc' := 170) (by decide) (pcN := 160) rfl (fun (c_295 : ¬ (1 : Int) < (3 : Int)) => by omega) (fun (c_295 : (1 : Int) < (3 : Int)) => ?_)
      refine go_aload C at_160 (pc' := 162) rfl rfl rfl ?_
      refine go_lload C at_162 (pc' := 164) rfl rfl ?_
      refine go_ldc2 C (v := (8 : Int64)) (wd hw 34 rfl) at_164 (pc' := 167) rfl ?_
      refine go_virtualN C (as := [.long (x0 - g1), .long (8 : Int64)]) (rest := []) (W := 0) (sat_add_4_0_1 l Z a0 hw a_266 r_288 (x0 - g0) (0 : Int64) (0 : Int64) (0 : Int64) (x0 - g1) (8 : Int64) _ _ E_290 F_291 F_292 F_293 A_294 g_271 g_289) E_290 (wd hw 35 rfl) (wd hw 36 rfl) (wd hw 38 rfl) (wd hw 37 rfl) (wd hw 12 rfl) (wd hw 39 rfl) (by decide) pd_4 rfl rfl rfl (by decide) (by decide) (ce' := 2) (sl' := 11) rfl rfl (by decide) (by decide) at_167 (pc' := 170) rfl rfl ?_
      intro h_296 q_297
      obtain ⟨r_298, g_299, E_300, F_301, F_302, F_303, A_304⟩ := q_297
      refine go_iload C at_170 (pc' := 172) rfl rfl ?_
      refine go_iconst C (2 : Int32) at_172 (pc' := 173) rfl (by decide) ?_
      refine go_icmp C (3 : Int) (2 : Int) (by decide) (by decide) at_173 (by decide) (pc' := 186) (by decide) (pcN := 176) rfl (fun (c_305 : ¬ (2 : Int) < (3 : Int)) => by omega) (fun (c_305 : (2 : Int) < (3 : Int)) => ?_)
      refine go_aload C at_176 (pc' := 178) rfl rfl rfl ?_
      refine go_lload C at_178 (pc' := 180) rfl rfl ?_
      refine go_ldc2 C (v := (8 : Int64)) (wd hw 34 rfl) at_180 (pc' := 183) rfl ?_
      refine go_virtualN C (as := [.long (x0 - g2), .long (8 : Int64)]) (rest := []) (W := 0) (sat_add_4_0_2 l Z a0 hw a_266 r_298 (x0 - g0) (x0 - g1) (0 : Int64) (0 : Int64) (x0 - g2) (8 : Int64) _ _ E_300 F_301 F_302 F_303 A_304 g_271 g_299) E_300 (wd hw 35 rfl) (wd hw 36 rfl) (wd hw 38 rfl) (wd hw 37 rfl) (wd hw 12 rfl) (wd hw 39 rfl) (by decide) pd_4 rfl rfl rfl (by decide) (by decide) (ce' := 2) (sl' := 11) rfl rfl (by decide) (by decide) at_183 (pc' := 186) rfl rfl ?_
      intro h_306 q_307
      obtain ⟨r_308, g_309, E_310, F_311, F_312, F_313, A_314⟩ := q_307
      refine go_iload C at_186 (pc' := 188) rfl rfl ?_
      refine go_iconst C (3 : Int32) at_188 (pc' := 189) rfl (by decide) ?_
      refine go_icmp C (3 : Int) (3 : Int) (by decide) (by decide) at_189 (by decide) (pc' := 202) (by decide) (pcN := 192) rfl (fun (c_315 : ¬ (3 : Int) < (3 : Int)) => ?_) (fun (c_315 : (3 : Int) < (3 : Int)) => by omega)
      refine go_iload C at_202 (pc' := 204) rfl rfl ?_
      refine go_if0 C (3 : Int) (by decide) at_204 (by decide) (pc' := 219) (by decide) (pcN := 207) rfl (fun (c_316 : ¬ 0 < (3 : Int)) => by omega) (fun (c_316 : 0 < (3 : Int)) => ?_)
      refine go_lload C at_207 (pc' := 209) rfl rfl ?_
      refine go_lload C at_209 (pc' := 211) rfl rfl ?_
      refine go_lcmp C g0.toInt win.toInt rfl rfl at_211 (pc1 := 212) rfl at_212 (by decide) (pc' := 219) (by decide) (pcN := 215) rfl (fun (c_317 : g0.toInt < win.toInt) => ?_) (fun (c_317 : ¬ g0.toInt < win.toInt) => ?_)
      · skip
        refine go_iconst C (0 : Int32) at_219 (pc' := 220) rfl (by decide) ?_
        refine go_iload C at_220 (pc' := 222) rfl rfl ?_
        refine go_iconst C (1 : Int32) at_222 (pc' := 223) rfl (by decide) ?_
        refine go_icmp C (3 : Int) (1 : Int) (by decide) (by decide) at_223 (by decide) (pc' := 238) (by decide) (pcN := 226) rfl (fun (c_318 : ¬ (1 : Int) < (3 : Int)) => by omega) (fun (c_318 : (1 : Int) < (3 : Int)) => ?_)
        refine go_lload C at_226 (pc' := 228) rfl rfl ?_
        refine go_lload C at_228 (pc' := 230) rfl rfl ?_
        refine go_lcmp C g1.toInt win.toInt rfl rfl at_230 (pc1 := 231) rfl at_231 (by decide) (pc' := 238) (by decide) (pcN := 234) rfl (fun (c_319 : g1.toInt < win.toInt) => ?_) (fun (c_319 : ¬ g1.toInt < win.toInt) => by omega)
        refine go_iconst C (0 : Int32) at_238 (pc' := 239) rfl (by decide) ?_
        refine go_iadd C at_239 (pc' := 240) rfl ?_
        rw [(by decide : (0 : Int32) + (0 : Int32) = (0 : Int32))]
        refine go_iload C at_240 (pc' := 242) rfl rfl ?_
        refine go_iconst C (2 : Int32) at_242 (pc' := 243) rfl (by decide) ?_
        refine go_icmp C (3 : Int) (2 : Int) (by decide) (by decide) at_243 (by decide) (pc' := 258) (by decide) (pcN := 246) rfl (fun (c_320 : ¬ (2 : Int) < (3 : Int)) => by omega) (fun (c_320 : (2 : Int) < (3 : Int)) => ?_)
        refine go_lload C at_246 (pc' := 248) rfl rfl ?_
        refine go_lload C at_248 (pc' := 250) rfl rfl ?_
        refine go_lcmp C g2.toInt win.toInt rfl rfl at_250 (pc1 := 251) rfl at_251 (by decide) (pc' := 258) (by decide) (pcN := 254) rfl (fun (c_321 : g2.toInt < win.toInt) => ?_) (fun (c_321 : ¬ g2.toInt < win.toInt) => by omega)
        refine go_iconst C (0 : Int32) at_258 (pc' := 259) rfl (by decide) ?_
        refine go_iadd C at_259 (pc' := 260) rfl ?_
        rw [(by decide : (0 : Int32) + (0 : Int32) = (0 : Int32))]
        refine go_iload C at_260 (pc' := 262) rfl rfl ?_
        refine go_iconst C (3 : Int32) at_262 (pc' := 263) rfl (by decide) ?_
        refine go_icmp C (3 : Int) (3 : Int) (by decide) (by decide) at_263 (by decide) (pc' := 278) (by decide) (pcN := 266) rfl (fun (c_322 : ¬ (3 : Int) < (3 : Int)) => ?_) (fun (c_322 : (3 : Int) < (3 : Int)) => by omega)
        refine go_iconst C (0 : Int32) at_278 (pc' := 279) rfl (by decide) ?_
        refine go_iadd C at_279 (pc' := 280) rfl ?_
        rw [(by decide : (0 : Int32) + (0 : Int32) = (0 : Int32))]
        refine go_istore C (Ls' := #[.val (.long x0), .second, .val (.long x1), .second, .val (.int x2), .val (.long win), .second, .val (.long bb), .second, .val (.long g3), .second, .val (.long g2), .second, .val (.long g1), .second, .val (.long g0), .second, .val (.int (3 : Int32)), .val (.long (x0 - g0)), .second, .val (.long (x0 - g1)), .second, .val (.long (x0 - g2)), .second, .val (.long (x0 - g3)), .second, .val (.ref a_266), .val (.int (0 : Int32)), .unset, .unset]) at_280 (pc' := 282) rfl rfl ?_
        refine go_aload C at_282 (pc' := 284) rfl rfl rfl ?_
        refine go_lloadN C at_284 (pc' := 285) rfl rfl ?_
        refine go_lload C at_285 (pc' := 287) rfl rfl ?_
        refine go_virtualN C (as := [.long x0, .long win]) (rest := []) (W := 0) (sat_drop_4_0_3 l Z a0 hw a_266 r_308 (x0 - g0) (x0 - g1) (x0 - g2) (0 : Int64) x0 win _ _ E_310 F_311 F_312 F_313 A_314 g_271 g_309) E_310 (wd hw 27 rfl) (wd hw 28 rfl) (wd hw 30 rfl) (wd hw 29 rfl) (wd hw 12 rfl) (wd hw 31 rfl) (by decide) pd_4 rfl rfl rfl (by decide) (by decide) (ce' := 2) (sl' := 11) rfl rfl (by decide) (by decide) at_287 (pc' := 290) rfl rfl ?_
        intro h_323 q_324
        rcases q_324 with q_324 | q_324 | q_324 | q_324
        · skip
          obtain ⟨hc_325, E_326, F_327, F_328, F_329, A_330⟩ := q_324
          refine go_iload C at_290 (pc' := 292) rfl rfl ?_
          refine go_iload C at_292 (pc' := 294) rfl rfl ?_
          refine go_icmp C (0 : Int) (3 : Int) (by decide) (by decide) at_294 (by decide) (pc' := 340) (by decide) (pcN := 297) rfl (fun (c_331 : ¬ (0 : Int) = (3 : Int)) => ?_) (fun (c_331 : (0 : Int) = (3 : Int)) => by omega)
          refine go_aload C at_340 (pc' := 342) rfl rfl rfl ?_
          refine go_virtualP C (as := []) (rest := []) (W := 0) (.long (x0 - g0)) (sat_old_4_0_3 l Z a0 hw a_266 r_308 (x0 - g0) (x0 - g1) (x0 - g2) (0 : Int64) _ _ E_326 F_327 F_328 F_329 A_330 g_271 g_309) E_326 (wd hw 46 rfl) (wd hw 47 rfl) (wd hw 49 rfl) (wd hw 48 rfl) (wd hw 12 rfl) (wd hw 50 rfl) (by decide) pd_6 rfl rfl rfl (by decide) (by decide) rfl rfl (by decide) (by decide) at_342 (pc' := 345) rfl rfl ?_
          refine go_iload C at_345 (pc' := 347) rfl rfl ?_
          refine go_lload C at_347 (pc' := 349) rfl rfl ?_
          refine go_lload C at_349 (pc' := 351) rfl rfl ?_
          refine go_lload C at_351 (pc' := 353) rfl rfl ?_
          refine go_lload C at_353 (pc' := 355) rfl rfl ?_
          refine go_staticP C (as := [.int (0 : Int32), .long (x0 - g0), .long (x0 - g1), .long (x0 - g2), .long (x0 - g3)]) (rest := [.long (x0 - g0)]) (W := 2) (.long (x0 - g0)) (sat_pick0 l Z a0 hw (x0 - g0) (x0 - g1) (x0 - g2) (x0 - g3) _ _) (wd hw 56 rfl) (wd hw 57 rfl) (wd hw 58 rfl) (wd hw 59 rfl) (by decide) pd_7 rfl rfl rfl (by decide) (by decide) rfl rfl (by decide) (by decide) at_355 (pc' := 358) rfl rfl ?_
          refine go_lcmp C ((x0 - g0).toInt) ((x0 - g0).toInt) rfl rfl at_358 (pc1 := 359) rfl at_359 (by decide) (pc' := 390) (by decide) (pcN := 362) rfl (fun (c_332 : ¬ ((x0 - g0).toInt) = ((x0 - g0).toInt)) => by omega) (fun (c_332 : ((x0 - g0).toInt) = ((x0 - g0).toInt)) => ?_)
          refine go_aload C at_362 (pc' := 364) rfl rfl rfl ?_
          refine go_virtualP C (as := []) (rest := []) (W := 0) (.long (x0 - g2)) (sat_new_4_0_3 l Z a0 hw a_266 r_308 (x0 - g0) (x0 - g1) (x0 - g2) (0 : Int64) _ _ E_326 F_327 F_328 F_329 A_330 g_271 g_309) E_326 (wd hw 51 rfl) (wd hw 52 rfl) (wd hw 54 rfl) (wd hw 53 rfl) (wd hw 12 rfl) (wd hw 55 rfl) (by decide) pd_6 rfl rfl rfl (by decide) (by decide) rfl rfl (by decide) (by decide) at_364 (pc' := 367) rfl rfl ?_
          refine go_iload C at_367 (pc' := 369) rfl rfl ?_
          refine go_iconst C (1 : Int32) at_369 (pc' := 370) rfl (by decide) ?_
          refine go_isub C at_370 (pc' := 371) rfl ?_
          rw [(by decide : (3 : Int32) - (1 : Int32) = (2 : Int32))]
          refine go_lload C at_371 (pc' := 373) rfl rfl ?_
          refine go_lload C at_373 (pc' := 375) rfl rfl ?_
          refine go_lload C at_375 (pc' := 377) rfl rfl ?_
          refine go_lload C at_377 (pc' := 379) rfl rfl ?_
          refine go_staticP C (as := [.int (2 : Int32), .long (x0 - g0), .long (x0 - g1), .long (x0 - g2), .long (x0 - g3)]) (rest := [.long (x0 - g2)]) (W := 2) (.long (x0 - g2)) (sat_pick2 l Z a0 hw (x0 - g0) (x0 - g1) (x0 - g2) (x0 - g3) _ _) (wd hw 56 rfl) (wd hw 57 rfl) (wd hw 58 rfl) (wd hw 59 rfl) (by decide) pd_7 rfl rfl rfl (by decide) (by decide) rfl rfl (by decide) (by decide) at_379 (pc' := 382) rfl rfl ?_
          refine go_lcmp C ((x0 - g2).toInt) ((x0 - g2).toInt) rfl rfl at_382 (pc1 := 383) rfl at_383 (by decide) (pc' := 390) (by decide) (pcN := 386) rfl (fun (c_333 : ¬ ((x0 - g2).toInt) = ((x0 - g2).toInt)) => by omega) (fun (c_333 : ((x0 - g2).toInt) = ((x0 - g2).toInt)) => ?_)
          refine go_iconst C (1 : Int32) at_386 (pc' := 387) rfl (by decide) ?_
          refine go_goto C at_387 (by decide) (pc' := 391) (by decide) ?_
          refine go_ireturnN C (z' := (1 : Int32)) rfl (by simp) rfl at_391 (by decide) (by decide) ?_
          exact ⟨_, rfl, rfl⟩
        · skip
          obtain ⟨hc_334, E_335, F_336, F_337, F_338, A_339⟩ := q_324
          exfalso; omega
        · skip
          obtain ⟨hc_340, E_341, F_342, F_343, F_344, A_345⟩ := q_324
          exfalso; omega
        · skip
          obtain ⟨hc_346, E_347, F_348, F_349, F_350, A_351⟩ := q_324
          exfalso; omega
      · skip
        refine go_iconst C (1 : Int32) at_215 (pc' := 216) rfl (by decide) ?_
        refine go_goto C at_216 (by decide) (pc' := 220) (by decide) ?_
        refine go_iload C at_220 (pc' := 222) rfl rfl ?_
        refine go_iconst C (1 : Int32) at_222 (pc' := 223) rfl (by decide) ?_
        refine go_icmp C (3 : Int) (1 : Int) (by decide) (by decide) at_223 (by decide) (pc' := 238) (by decide) (pcN := 226) rfl (fun (c_352 : ¬ (1 : Int) < (3 : Int)) => by omega) (fun (c_352 : (1 : Int) < (3 : Int)) => ?_)
        refine go_lload C at_226 (pc' := 228) rfl rfl ?_
        refine go_lload C at_228 (pc' := 230) rfl rfl ?_
        refine go_lcmp C g1.toInt win.toInt rfl rfl at_230 (pc1 := 231) rfl at_231 (by decide) (pc' := 238) (by decide) (pcN := 234) rfl (fun (c_353 : g1.toInt < win.toInt) => ?_) (fun (c_353 : ¬ g1.toInt < win.toInt) => ?_)
        · skip
          refine go_iconst C (0 : Int32) at_238 (pc' := 239) rfl (by decide) ?_
          refine go_iadd C at_239 (pc' := 240) rfl ?_
          rw [(by decide : (1 : Int32) + (0 : Int32) = (1 : Int32))]
          refine go_iload C at_240 (pc' := 242) rfl rfl ?_
          refine go_iconst C (2 : Int32) at_242 (pc' := 243) rfl (by decide) ?_
          refine go_icmp C (3 : Int) (2 : Int) (by decide) (by decide) at_243 (by decide) (pc' := 258) (by decide) (pcN := 246) rfl (fun (c_354 : ¬ (2 : Int) < (3 : Int)) => by omega) (fun (c_354 : (2 : Int) < (3 : Int)) => ?_)
          refine go_lload C at_246 (pc' := 248) rfl rfl ?_
          refine go_lload C at_248 (pc' := 250) rfl rfl ?_
          refine go_lcmp C g2.toInt win.toInt rfl rfl at_250 (pc1 := 251) rfl at_251 (by decide) (pc' := 258) (by decide) (pcN := 254) rfl (fun (c_355 : g2.toInt < win.toInt) => ?_) (fun (c_355 : ¬ g2.toInt < win.toInt) => by omega)
          refine go_iconst C (0 : Int32) at_258 (pc' := 259) rfl (by decide) ?_
          refine go_iadd C at_259 (pc' := 260) rfl ?_
          rw [(by decide : (1 : Int32) + (0 : Int32) = (1 : Int32))]
          refine go_iload C at_260 (pc' := 262) rfl rfl ?_
          refine go_iconst C (3 : Int32) at_262 (pc' := 263) rfl (by decide) ?_
          refine go_icmp C (3 : Int) (3 : Int) (by decide) (by decide) at_263 (by decide) (pc' := 278) (by decide) (pcN := 266) rfl (fun (c_356 : ¬ (3 : Int) < (3 : Int)) => ?_) (fun (c_356 : (3 : Int) < (3 : Int)) => by omega)
          refine go_iconst C (0 : Int32) at_278 (pc' := 279) rfl (by decide) ?_
          refine go_iadd C at_279 (pc' := 280) rfl ?_
          rw [(by decide : (1 : Int32) + (0 : Int32) = (1 : Int32))]
          refine go_istore C (Ls' := #[.val (.long x0), .second, .val (.long x1), .second, .val (.int x2), .val (.long win), .second, .val (.long bb), .second, .val (.long g3), .second, .val (.long g2), .second, .val (.long g1), .second, .val (.long g0), .second, .val (.int (3 : Int32)), .val (.long (x0 - g0)), .second, .val (.long (x0 - g1)), .second, .val (.long (x0 - g2)), .second, .val (.long (x0 - g3)), .second, .val (.ref a_266), .val (.int (1 : Int32)), .unset, .unset]) at_280 (pc' := 282) rfl rfl ?_
          refine go_aload C at_282 (pc' := 284) rfl rfl rfl ?_
          refine go_lloadN C at_284 (pc' := 285) rfl rfl ?_
          refine go_lload C at_285 (pc' := 287) rfl rfl ?_
          refine go_virtualN C (as := [.long x0, .long win]) (rest := []) (W := 0) (sat_drop_4_0_3 l Z a0 hw a_266 r_308 (x0 - g0) (x0 - g1) (x0 - g2) (0 : Int64) x0 win _ _ E_310 F_311 F_312 F_313 A_314 g_271 g_309) E_310 (wd hw 27 rfl) (wd hw 28 rfl) (wd hw 30 rfl) (wd hw 29 rfl) (wd hw 12 rfl) (wd hw 31 rfl) (by decide) pd_4 rfl rfl rfl (by decide) (by decide) (ce' := 2) (sl' := 11) rfl rfl (by decide) (by decide) at_287 (pc' := 290) rfl rfl ?_
          intro h_357 q_358
          rcases q_358 with q_358 | q_358 | q_358 | q_358
          · skip
            obtain ⟨hc_359, E_360, F_361, F_362, F_363, A_364⟩ := q_358
            exfalso; omega
          · skip
            obtain ⟨hc_365, E_366, F_367, F_368, F_369, A_370⟩ := q_358
            refine go_iload C at_290 (pc' := 292) rfl rfl ?_
            refine go_iload C at_292 (pc' := 294) rfl rfl ?_
            refine go_icmp C (1 : Int) (3 : Int) (by decide) (by decide) at_294 (by decide) (pc' := 340) (by decide) (pcN := 297) rfl (fun (c_371 : ¬ (1 : Int) = (3 : Int)) => ?_) (fun (c_371 : (1 : Int) = (3 : Int)) => by omega)
            refine go_aload C at_340 (pc' := 342) rfl rfl rfl ?_
            refine go_virtualP C (as := []) (rest := []) (W := 0) (.long (x0 - g1)) (sat_old_4_1_2 l Z a0 hw a_266 r_308 (x0 - g0) (x0 - g1) (x0 - g2) (0 : Int64) _ _ E_366 F_367 F_368 F_369 A_370 g_271 g_309) E_366 (wd hw 46 rfl) (wd hw 47 rfl) (wd hw 49 rfl) (wd hw 48 rfl) (wd hw 12 rfl) (wd hw 50 rfl) (by decide) pd_6 rfl rfl rfl (by decide) (by decide) rfl rfl (by decide) (by decide) at_342 (pc' := 345) rfl rfl ?_
            refine go_iload C at_345 (pc' := 347) rfl rfl ?_
            refine go_lload C at_347 (pc' := 349) rfl rfl ?_
            refine go_lload C at_349 (pc' := 351) rfl rfl ?_
            refine go_lload C at_351 (pc' := 353) rfl rfl ?_
            refine go_lload C at_353 (pc' := 355) rfl rfl ?_
            refine go_staticP C (as := [.int (1 : Int32), .long (x0 - g0), .long (x0 - g1), .long (x0 - g2), .long (x0 - g3)]) (rest := [.long (x0 - g1)]) (W := 2) (.long (x0 - g1)) (sat_pick1 l Z a0 hw (x0 - g0) (x0 - g1) (x0 - g2) (x0 - g3) _ _) (wd hw 56 rfl) (wd hw 57 rfl) (wd hw 58 rfl) (wd hw 59 rfl) (by decide) pd_7 rfl rfl rfl (by decide) (by decide) rfl rfl (by decide) (by decide) at_355 (pc' := 358) rfl rfl ?_
            refine go_lcmp C ((x0 - g1).toInt) ((x0 - g1).toInt) rfl rfl at_358 (pc1 := 359) rfl at_359 (by decide) (pc' := 390) (by decide) (pcN := 362) rfl (fun (c_372 : ¬ ((x0 - g1).toInt) = ((x0 - g1).toInt)) => by omega) (fun (c_372 : ((x0 - g1).toInt) = ((x0 - g1).toInt)) => ?_)
            refine go_aload C at_362 (pc' := 364) rfl rfl rfl ?_
            refine go_virtualP C (as := []) (rest := []) (W := 0) (.long (x0 - g2)) (sat_new_4_1_2 l Z a0 hw a_266 r_308 (x0 - g0) (x0 - g1) (x0 - g2) (0 : Int64) _ _ E_366 F_367 F_368 F_369 A_370 g_271 g_309) E_366 (wd hw 51 rfl) (wd hw 52 rfl) (wd hw 54 rfl) (wd hw 53 rfl) (wd hw 12 rfl) (wd hw 55 rfl) (by decide) pd_6 rfl rfl rfl (by decide) (by decide) rfl rfl (by decide) (by decide) at_364 (pc' := 367) rfl rfl ?_
            refine go_iload C at_367 (pc' := 369) rfl rfl ?_
            refine go_iconst C (1 : Int32) at_369 (pc' := 370) rfl (by decide) ?_
            refine go_isub C at_370 (pc' := 371) rfl ?_
            rw [(by decide : (3 : Int32) - (1 : Int32) = (2 : Int32))]
            refine go_lload C at_371 (pc' := 373) rfl rfl ?_
            refine go_lload C at_373 (pc' := 375) rfl rfl ?_
            refine go_lload C at_375 (pc' := 377) rfl rfl ?_
            refine go_lload C at_377 (pc' := 379) rfl rfl ?_
            refine go_staticP C (as := [.int (2 : Int32), .long (x0 - g0), .long (x0 - g1), .long (x0 - g2), .long (x0 - g3)]) (rest := [.long (x0 - g2)]) (W := 2) (.long (x0 - g2)) (sat_pick2 l Z a0 hw (x0 - g0) (x0 - g1) (x0 - g2) (x0 - g3) _ _) (wd hw 56 rfl) (wd hw 57 rfl) (wd hw 58 rfl) (wd hw 59 rfl) (by decide) pd_7 rfl rfl rfl (by decide) (by decide) rfl rfl (by decide) (by decide) at_379 (pc' := 382) rfl rfl ?_
            refine go_lcmp C ((x0 - g2).toInt) ((x0 - g2).toInt) rfl rfl at_382 (pc1 := 383) rfl at_383 (by decide) (pc' := 390) (by decide) (pcN := 386) rfl (fun (c_373 : ¬ ((x0 - g2).toInt) = ((x0 - g2).toInt)) => by omega) (fun (c_373 : ((x0 - g2).toInt) = ((x0 - g2).toInt)) => ?_)
            refine go_iconst C (1 : Int32) at_386 (pc' := 387) rfl (by decide) ?_
            refine go_goto C at_387 (by decide) (pc' := 391) (by decide) ?_
            refine go_ireturnN C (z' := (1 : Int32)) rfl (by simp) rfl at_391 (by decide) (by decide) ?_
            exact ⟨_, rfl, rfl⟩
          · skip
            obtain ⟨hc_374, E_375, F_376, F_377, F_378, A_379⟩ := q_358
            exfalso; omega
          · skip
            obtain ⟨hc_380, E_381, F_382, F_383, F_384, A_385⟩ := q_358
            exfalso; omega
        · skip
          refine go_iconst C (1 : Int32) at_234 (pc' := 235) rfl (by decide) ?_
          refine go_goto C at_235 (by decide) (pc' := 239) (by decide) ?_
          refine go_iadd C at_239 (pc' := 240) rfl ?_
          rw [(by decide : (1 : Int32) + (1 : Int32) = (2 : Int32))]
          refine go_iload C at_240 (pc' := 242) rfl rfl ?_
          refine go_iconst C (2 : Int32) at_242 (pc' := 243) rfl (by decide) ?_
          refine go_icmp C (3 : Int) (2 : Int) (by decide) (by decide) at_243 (by decide) (pc' := 258) (by decide) (pcN := 246) rfl (fun (c_386 : ¬ (2 : Int) < (3 : Int)) => by omega) (fun (c_386 : (2 : Int) < (3 : Int)) => ?_)
          refine go_lload C at_246 (pc' := 248) rfl rfl ?_
          refine go_lload C at_248 (pc' := 250) rfl rfl ?_
          refine go_lcmp C g2.toInt win.toInt rfl rfl at_250 (pc1 := 251) rfl at_251 (by decide) (pc' := 258) (by decide) (pcN := 254) rfl (fun (c_387 : g2.toInt < win.toInt) => ?_) (fun (c_387 : ¬ g2.toInt < win.toInt) => ?_)
          · skip
            refine go_iconst C (0 : Int32) at_258 (pc' := 259) rfl (by decide) ?_
            refine go_iadd C at_259 (pc' := 260) rfl ?_
            rw [(by decide : (2 : Int32) + (0 : Int32) = (2 : Int32))]
            refine go_iload C at_260 (pc' := 262) rfl rfl ?_
            refine go_iconst C (3 : Int32) at_262 (pc' := 263) rfl (by decide) ?_
            refine go_icmp C (3 : Int) (3 : Int) (by decide) (by decide) at_263 (by decide) (pc' := 278) (by decide) (pcN := 266) rfl (fun (c_388 : ¬ (3 : Int) < (3 : Int)) => ?_) (fun (c_388 : (3 : Int) < (3 : Int)) => by omega)
            refine go_iconst C (0 : Int32) at_278 (pc' := 279) rfl (by decide) ?_
            refine go_iadd C at_279 (pc' := 280) rfl ?_
            rw [(by decide : (2 : Int32) + (0 : Int32) = (2 : Int32))]
            refine go_istore C (Ls' := #[.val (.long x0), .second, .val (.long x1), .second, .val (.int x2), .val (.long win), .second, .val (.long bb), .second, .val (.long g3), .second, .val (.long g2), .second, .val (.long g1), .second, .val (.long g0), .second, .val (.int (3 : Int32)), .val (.long (x0 - g0)), .second, .val (.long (x0 - g1)), .second, .val (.long (x0 - g2)), .second, .val (.long (x0 - g3)), .second, .val (.ref a_266), .val (.int (2 : Int32)), .unset, .unset]) at_280 (pc' := 282) rfl rfl ?_
            refine go_aload C at_282 (pc' := 284) rfl rfl rfl ?_
            refine go_lloadN C at_284 (pc' := 285) rfl rfl ?_
            refine go_lload C at_285 (pc' := 287) rfl rfl ?_
            refine go_virtualN C (as := [.long x0, .long win]) (rest := []) (W := 0) (sat_drop_4_0_3 l Z a0 hw a_266 r_308 (x0 - g0) (x0 - g1) (x0 - g2) (0 : Int64) x0 win _ _ E_310 F_311 F_312 F_313 A_314 g_271 g_309) E_310 (wd hw 27 rfl) (wd hw 28 rfl) (wd hw 30 rfl) (wd hw 29 rfl) (wd hw 12 rfl) (wd hw 31 rfl) (by decide) pd_4 rfl rfl rfl (by decide) (by decide) (ce' := 2) (sl' := 11) rfl rfl (by decide) (by decide) at_287 (pc' := 290) rfl rfl ?_
            intro h_389 q_390
            rcases q_390 with q_390 | q_390 | q_390 | q_390
            · skip
              obtain ⟨hc_391, E_392, F_393, F_394, F_395, A_396⟩ := q_390
              exfalso; omega
            · skip
              obtain ⟨hc_397, E_398, F_399, F_400, F_401, A_402⟩ := q_390
              exfalso; omega
            · skip
              obtain ⟨hc_403, E_404, F_405, F_406, F_407, A_408⟩ := q_390
              refine go_iload C at_290 (pc' := 292) rfl rfl ?_
              refine go_iload C at_292 (pc' := 294) rfl rfl ?_
              refine go_icmp C (2 : Int) (3 : Int) (by decide) (by decide) at_294 (by decide) (pc' := 340) (by decide) (pcN := 297) rfl (fun (c_409 : ¬ (2 : Int) = (3 : Int)) => ?_) (fun (c_409 : (2 : Int) = (3 : Int)) => by omega)
              refine go_aload C at_340 (pc' := 342) rfl rfl rfl ?_
              refine go_virtualP C (as := []) (rest := []) (W := 0) (.long (x0 - g2)) (sat_old_4_2_1 l Z a0 hw a_266 r_308 (x0 - g0) (x0 - g1) (x0 - g2) (0 : Int64) _ _ E_404 F_405 F_406 F_407 A_408 g_271 g_309) E_404 (wd hw 46 rfl) (wd hw 47 rfl) (wd hw 49 rfl) (wd hw 48 rfl) (wd hw 12 rfl) (wd hw 50 rfl) (by decide) pd_6 rfl rfl rfl (by decide) (by decide) rfl rfl (by decide) (by decide) at_342 (pc' := 345) rfl rfl ?_
              refine go_iload C at_345 (pc' := 347) rfl rfl ?_
              refine go_lload C at_347 (pc' := 349) rfl rfl ?_
              refine go_lload C at_349 (pc' := 351) rfl rfl ?_
              refine go_lload C at_351 (pc' := 353) rfl rfl ?_
              refine go_lload C at_353 (pc' := 355) rfl rfl ?_
              refine go_staticP C (as := [.int (2 : Int32), .long (x0 - g0), .long (x0 - g1), .long (x0 - g2), .long (x0 - g3)]) (rest := [.long (x0 - g2)]) (W := 2) (.long (x0 - g2)) (sat_pick2 l Z a0 hw (x0 - g0) (x0 - g1) (x0 - g2) (x0 - g3) _ _) (wd hw 56 rfl) (wd hw 57 rfl) (wd hw 58 rfl) (wd hw 59 rfl) (by decide) pd_7 rfl rfl rfl (by decide) (by decide) rfl rfl (by decide) (by decide) at_355 (pc' := 358) rfl rfl ?_
              refine go_lcmp C ((x0 - g2).toInt) ((x0 - g2).toInt) rfl rfl at_358 (pc1 := 359) rfl at_359 (by decide) (pc' := 390) (by decide) (pcN := 362) rfl (fun (c_410 : ¬ ((x0 - g2).toInt) = ((x0 - g2).toInt)) => by omega) (fun (c_410 : ((x0 - g2).toInt) = ((x0 - g2).toInt)) => ?_)
              refine go_aload C at_362 (pc' := 364) rfl rfl rfl ?_
              refine go_virtualP C (as := []) (rest := []) (W := 0) (.long (x0 - g2)) (sat_new_4_2_1 l Z a0 hw a_266 r_308 (x0 - g0) (x0 - g1) (x0 - g2) (0 : Int64) _ _ E_404 F_405 F_406 F_407 A_408 g_271 g_309) E_404 (wd hw 51 rfl) (wd hw 52 rfl) (wd hw 54 rfl) (wd hw 53 rfl) (wd hw 12 rfl) (wd hw 55 rfl) (by decide) pd_6 rfl rfl rfl (by decide) (by decide) rfl rfl (by decide) (by decide) at_364 (pc' := 367) rfl rfl ?_
              refine go_iload C at_367 (pc' := 369) rfl rfl ?_
              refine go_iconst C (1 : Int32) at_369 (pc' := 370) rfl (by decide) ?_
              refine go_isub C at_370 (pc' := 371) rfl ?_
              rw [(by decide : (3 : Int32) - (1 : Int32) = (2 : Int32))]
              refine go_lload C at_371 (pc' := 373) rfl rfl ?_
              refine go_lload C at_373 (pc' := 375) rfl rfl ?_
              refine go_lload C at_375 (pc' := 377) rfl rfl ?_
              refine go_lload C at_377 (pc' := 379) rfl rfl ?_
              refine go_staticP C (as := [.int (2 : Int32), .long (x0 - g0), .long (x0 - g1), .long (x0 - g2), .long (x0 - g3)]) (rest := [.long (x0 - g2)]) (W := 2) (.long (x0 - g2)) (sat_pick2 l Z a0 hw (x0 - g0) (x0 - g1) (x0 - g2) (x0 - g3) _ _) (wd hw 56 rfl) (wd hw 57 rfl) (wd hw 58 rfl) (wd hw 59 rfl) (by decide) pd_7 rfl rfl rfl (by decide) (by decide) rfl rfl (by decide) (by decide) at_379 (pc' := 382) rfl rfl ?_
              refine go_lcmp C ((x0 - g2).toInt) ((x0 - g2).toInt) rfl rfl at_382 (pc1 := 383) rfl at_383 (by decide) (pc' := 390) (by decide) (pcN := 386) rfl (fun (c_411 : ¬ ((x0 - g2).toInt) = ((x0 - g2).toInt)) => by omega) (fun (c_411 : ((x0 - g2).toInt) = ((x0 - g2).toInt)) => ?_)
              refine go_iconst C (1 : Int32) at_386 (pc' := 387) rfl (by decide) ?_
              refine go_goto C at_387 (by decide) (pc' := 391) (by decide) ?_
              refine go_ireturnN C (z' := (1 : Int32)) rfl (by simp) rfl at_391 (by decide) (by decide) ?_
              exact ⟨_, rfl, rfl⟩
            · skip
              obtain ⟨hc_412, E_413, F_414, F_415, F_416, A_417⟩ := q_390
              exfalso; omega
          · skip
            refine go_iconst C (1 : Int32) at_254 (pc' := 255) rfl (by decide) ?_
            refine go_goto C at_255 (by decide) (pc' := 259) (by decide) ?_
            refine go_iadd C at_259 (pc' := 260) rfl ?_
            rw [(by decide : (2 : Int32) + (1 : Int32) = (3 : Int32))]
            refine go_iload C at_260 (pc' := 262) rfl rfl ?_
            refine go_iconst C (3 : Int32) at_262 (pc' := 263) rfl (by decide) ?_
            refine go_icmp C (3 : Int) (3 : Int) (by decide) (by decide) at_263 (by decide) (pc' := 278) (by decide) (pcN := 266) rfl (fun (c_418 : ¬ (3 : Int) < (3 : Int)) => ?_) (fun (c_418 : (3 : Int) < (3 : Int)) => by omega)
            refine go_iconst C (0 : Int32) at_278 (pc' := 279) rfl (by decide) ?_
            refine go_iadd C at_279 (pc' := 280) rfl ?_
            rw [(by decide : (3 : Int32) + (0 : Int32) = (3 : Int32))]
            refine go_istore C (Ls' := #[.val (.long x0), .second, .val (.long x1), .second, .val (.int x2), .val (.long win), .second, .val (.long bb), .second, .val (.long g3), .second, .val (.long g2), .second, .val (.long g1), .second, .val (.long g0), .second, .val (.int (3 : Int32)), .val (.long (x0 - g0)), .second, .val (.long (x0 - g1)), .second, .val (.long (x0 - g2)), .second, .val (.long (x0 - g3)), .second, .val (.ref a_266), .val (.int (3 : Int32)), .unset, .unset]) at_280 (pc' := 282) rfl rfl ?_
            refine go_aload C at_282 (pc' := 284) rfl rfl rfl ?_
            refine go_lloadN C at_284 (pc' := 285) rfl rfl ?_
            refine go_lload C at_285 (pc' := 287) rfl rfl ?_
            refine go_virtualN C (as := [.long x0, .long win]) (rest := []) (W := 0) (sat_drop_4_0_3 l Z a0 hw a_266 r_308 (x0 - g0) (x0 - g1) (x0 - g2) (0 : Int64) x0 win _ _ E_310 F_311 F_312 F_313 A_314 g_271 g_309) E_310 (wd hw 27 rfl) (wd hw 28 rfl) (wd hw 30 rfl) (wd hw 29 rfl) (wd hw 12 rfl) (wd hw 31 rfl) (by decide) pd_4 rfl rfl rfl (by decide) (by decide) (ce' := 2) (sl' := 11) rfl rfl (by decide) (by decide) at_287 (pc' := 290) rfl rfl ?_
            intro h_419 q_420
            rcases q_420 with q_420 | q_420 | q_420 | q_420
            · skip
              obtain ⟨hc_421, E_422, F_423, F_424, F_425, A_426⟩ := q_420
              exfalso; omega
            · skip
              obtain ⟨hc_427, E_428, F_429, F_430, F_431, A_432⟩ := q_420
              exfalso; omega
            · skip
              obtain ⟨hc_433, E_434, F_435, F_436, F_437, A_438⟩ := q_420
              exfalso; omega
            · skip
              obtain ⟨hc_439, E_440, F_441, F_442, F_443, A_444⟩ := q_420
              refine go_iload C at_290 (pc' := 292) rfl rfl ?_
              refine go_iload C at_292 (pc' := 294) rfl rfl ?_
              refine go_icmp C (3 : Int) (3 : Int) (by decide) (by decide) at_294 (by decide) (pc' := 340) (by decide) (pcN := 297) rfl (fun (c_445 : ¬ (3 : Int) = (3 : Int)) => by omega) (fun (c_445 : (3 : Int) = (3 : Int)) => ?_)
              refine go_lloadN C at_297 (pc' := 298) rfl rfl ?_
              refine go_lconst C (1 : Int64) at_298 (pc' := 299) rfl (by decide) ?_
              refine go_ladd C at_299 (pc' := 300) rfl ?_
              refine go_lstore C (Ls' := #[.val (.long x0), .second, .val (.long x1), .second, .val (.int x2), .val (.long win), .second, .val (.long bb), .second, .val (.long g3), .second, .val (.long g2), .second, .val (.long g1), .second, .val (.long g0), .second, .val (.int (3 : Int32)), .val (.long (x0 - g0)), .second, .val (.long (x0 - g1)), .second, .val (.long (x0 - g2)), .second, .val (.long (x0 - g3)), .second, .val (.ref a_266), .val (.int (3 : Int32)), .val (.long (x0 + (1 : Int64))), .second]) at_300 (pc' := 302) rfl rfl ?_
              refine go_aload C at_302 (pc' := 304) rfl rfl rfl ?_
              refine go_lload C at_304 (pc' := 306) rfl rfl ?_
              refine go_ldc2 C (v := (8 : Int64)) (wd hw 34 rfl) at_306 (pc' := 309) rfl ?_
              refine go_virtualN C (as := [.long (x0 + (1 : Int64)), .long (8 : Int64)]) (rest := []) (W := 0) (sat_add_4_3_0 l Z a0 hw a_266 r_308 (x0 - g0) (x0 - g1) (x0 - g2) (0 : Int64) (x0 + (1 : Int64)) (8 : Int64) _ _ E_440 F_441 F_442 F_443 A_444 g_271 g_309) E_440 (wd hw 35 rfl) (wd hw 36 rfl) (wd hw 38 rfl) (wd hw 37 rfl) (wd hw 12 rfl) (wd hw 39 rfl) (by decide) pd_4 rfl rfl rfl (by decide) (by decide) (ce' := 2) (sl' := 11) rfl rfl (by decide) (by decide) at_309 (pc' := 312) rfl rfl ?_
              intro h_446 q_447
              obtain ⟨r_448, g_449, E_450, F_451, F_452, F_453, A_454⟩ := q_447
              refine go_aload C at_312 (pc' := 314) rfl rfl rfl ?_
              refine go_virtualP C (as := []) (rest := []) (W := 0) (.long (x0 + (1 : Int64))) (sat_old_4_3_1 l Z a0 hw a_266 r_448 (x0 - g0) (x0 - g1) (x0 - g2) (x0 + (1 : Int64)) _ _ E_450 F_451 F_452 F_453 A_454 g_271 g_449) E_450 (wd hw 46 rfl) (wd hw 47 rfl) (wd hw 49 rfl) (wd hw 48 rfl) (wd hw 12 rfl) (wd hw 50 rfl) (by decide) pd_6 rfl rfl rfl (by decide) (by decide) rfl rfl (by decide) (by decide) at_314 (pc' := 317) rfl rfl ?_
              refine go_lload C at_317 (pc' := 319) rfl rfl ?_
              refine go_lcmp C ((x0 + (1 : Int64)).toInt) ((x0 + (1 : Int64)).toInt) rfl rfl at_319 (pc1 := 320) rfl at_320 (by decide) (pc' := 338) (by decide) (pcN := 323) rfl (fun (c_455 : ¬ ((x0 + (1 : Int64)).toInt) = ((x0 + (1 : Int64)).toInt)) => by omega) (fun (c_455 : ((x0 + (1 : Int64)).toInt) = ((x0 + (1 : Int64)).toInt)) => ?_)
              refine go_aload C at_323 (pc' := 325) rfl rfl rfl ?_
              refine go_virtualP C (as := []) (rest := []) (W := 0) (.long (x0 + (1 : Int64))) (sat_new_4_3_1 l Z a0 hw a_266 r_448 (x0 - g0) (x0 - g1) (x0 - g2) (x0 + (1 : Int64)) _ _ E_450 F_451 F_452 F_453 A_454 g_271 g_449) E_450 (wd hw 51 rfl) (wd hw 52 rfl) (wd hw 54 rfl) (wd hw 53 rfl) (wd hw 12 rfl) (wd hw 55 rfl) (by decide) pd_6 rfl rfl rfl (by decide) (by decide) rfl rfl (by decide) (by decide) at_325 (pc' := 328) rfl rfl ?_
              refine go_lload C at_328 (pc' := 330) rfl rfl ?_
              refine go_lcmp C ((x0 + (1 : Int64)).toInt) ((x0 + (1 : Int64)).toInt) rfl rfl at_330 (pc1 := 331) rfl at_331 (by decide) (pc' := 338) (by decide) (pcN := 334) rfl (fun (c_456 : ¬ ((x0 + (1 : Int64)).toInt) = ((x0 + (1 : Int64)).toInt)) => by omega) (fun (c_456 : ((x0 + (1 : Int64)).toInt) = ((x0 + (1 : Int64)).toInt)) => ?_)
              refine go_iconst C (1 : Int32) at_334 (pc' := 335) rfl (by decide) ?_
              refine go_goto C at_335 (by decide) (pc' := 339) (by decide) ?_
              refine go_ireturnN C (z' := (1 : Int32)) rfl (by simp) rfl at_339 (by decide) (by decide) ?_
              exact ⟨_, rfl, rfl⟩
    · rw [hn]
      refine go_lloadN C at_105 (pc' := 106) rfl rfl ?_
      refine go_lload C at_106 (pc' := 108) rfl rfl ?_
      refine go_lsub C at_108 (pc' := 109) rfl ?_
      refine go_lstore C (Ls' := #[.val (.long x0), .second, .val (.long x1), .second, .val (.int x2), .val (.long win), .second, .val (.long bb), .second, .val (.long g3), .second, .val (.long g2), .second, .val (.long g1), .second, .val (.long g0), .second, .val (.int (4 : Int32)), .val (.long (x0 - g0)), .second, .unset, .unset, .unset, .unset, .unset, .unset, .unset, .unset, .unset, .unset]) at_109 (pc' := 111) rfl rfl ?_
      refine go_lloadN C at_111 (pc' := 112) rfl rfl ?_
      refine go_lload C at_112 (pc' := 114) rfl rfl ?_
      refine go_lsub C at_114 (pc' := 115) rfl ?_
      refine go_lstore C (Ls' := #[.val (.long x0), .second, .val (.long x1), .second, .val (.int x2), .val (.long win), .second, .val (.long bb), .second, .val (.long g3), .second, .val (.long g2), .second, .val (.long g1), .second, .val (.long g0), .second, .val (.int (4 : Int32)), .val (.long (x0 - g0)), .second, .val (.long (x0 - g1)), .second, .unset, .unset, .unset, .unset, .unset, .unset, .unset, .unset]) at_115 (pc' := 117) rfl rfl ?_
      refine go_lloadN C at_117 (pc' := 118) rfl rfl ?_
      refine go_lload C at_118 (pc' := 120) rfl rfl ?_
      refine go_lsub C at_120 (pc' := 121) rfl ?_
      refine go_lstore C (Ls' := #[.val (.long x0), .second, .val (.long x1), .second, .val (.int x2), .val (.long win), .second, .val (.long bb), .second, .val (.long g3), .second, .val (.long g2), .second, .val (.long g1), .second, .val (.long g0), .second, .val (.int (4 : Int32)), .val (.long (x0 - g0)), .second, .val (.long (x0 - g1)), .second, .val (.long (x0 - g2)), .second, .unset, .unset, .unset, .unset, .unset, .unset]) at_121 (pc' := 123) rfl rfl ?_
      refine go_lloadN C at_123 (pc' := 124) rfl rfl ?_
      refine go_lload C at_124 (pc' := 126) rfl rfl ?_
      refine go_lsub C at_126 (pc' := 127) rfl ?_
      refine go_lstore C (Ls' := #[.val (.long x0), .second, .val (.long x1), .second, .val (.int x2), .val (.long win), .second, .val (.long bb), .second, .val (.long g3), .second, .val (.long g2), .second, .val (.long g1), .second, .val (.long g0), .second, .val (.int (4 : Int32)), .val (.long (x0 - g0)), .second, .val (.long (x0 - g1)), .second, .val (.long (x0 - g2)), .second, .val (.long (x0 - g3)), .second, .unset, .unset, .unset, .unset]) at_127 (pc' := 129) rfl rfl ?_
      refine go_new C (wd hw 10 rfl) (wd hw 11 rfl) (wd hw 12 rfl) at_129 (pc' := 132) rfl (ce' := 1) (sl' := 7) rfl rfl (by decide) (by decide) ?_
      intro h_457 a_458 g_459 E_460 E_461 D_462
      have g_463 : Z.heap.size ≤ a_458 := own_ge (Nat.le_refl _) g_459
      have z_464 : Z.heap.size ≤ h_457.size := Nat.le_trans (Nat.le_refl _) E_460.1
      have F_465 : Fld Z h_457 a_458 "com/example/throttld/throttld/SlidingLog$Log" "ring" "[J" (.null) := D_462 (Or.inl (wd hw 26 rfl)) (ty := (.array .long)) (by decide)
      have F_466 : Fld Z h_457 a_458 "com/example/throttld/throttld/SlidingLog$Log" "count" "I" (.int (0 : Int32)) := D_462 (Or.inl (wd hw 33 rfl)) (ty := .int) (by decide)
      have F_467 : Fld Z h_457 a_458 "com/example/throttld/throttld/SlidingLog$Log" "head" "I" (.int (0 : Int32)) := D_462 (Or.inl (wd hw 45 rfl)) (ty := .int) (by decide)
      refine go_dup C at_132 (pc' := 133) rfl rfl ?_
      refine go_iconst C (4 : Int32) at_133 (pc' := 134) rfl (by decide) ?_
      refine go_specialN C (as := [.int (4 : Int32)]) (rest := [.ref a_458]) (W := 1) (sat_init4 l Z a0 hw a_458 _ _ E_461 F_465 F_467 F_466 g_463 z_464) rfl (wd hw 13 rfl) (wd hw 14 rfl) (wd hw 12 rfl) (wd hw 15 rfl) (by decide) pd_2 rfl rfl rfl (by decide) (by decide) (ce' := 2) (sl' := 11) rfl rfl (by decide) (by decide) at_134 (pc' := 137) rfl rfl ?_
      intro h_468 q_469
      obtain ⟨r_470, g_471, E_472, F_473, F_474, F_475, A_476⟩ := q_469
      refine go_astore C (Ls' := #[.val (.long x0), .second, .val (.long x1), .second, .val (.int x2), .val (.long win), .second, .val (.long bb), .second, .val (.long g3), .second, .val (.long g2), .second, .val (.long g1), .second, .val (.long g0), .second, .val (.int (4 : Int32)), .val (.long (x0 - g0)), .second, .val (.long (x0 - g1)), .second, .val (.long (x0 - g2)), .second, .val (.long (x0 - g3)), .second, .val (.ref a_458), .unset, .unset, .unset]) at_137 (pc' := 139) rfl rfl rfl ?_
      refine go_iload C at_139 (pc' := 141) rfl rfl ?_
      refine go_if0 C (4 : Int) (by decide) at_141 (by decide) (pc' := 154) (by decide) (pcN := 144) rfl (fun (c_477 : ¬ 0 < (4 : Int)) => by omega) (fun (c_477 : 0 < (4 : Int)) => ?_)
      refine go_aload C at_144 (pc' := 146) rfl rfl rfl ?_
      refine go_lload C at_146 (pc' := 148) rfl rfl ?_
      refine go_ldc2 C (v := (8 : Int64)) (wd hw 34 rfl) at_148 (pc' := 151) rfl ?_
      refine go_virtualN C (as := [.long (x0 - g0), .long (8 : Int64)]) (rest := []) (W := 0) (sat_add_4_0_0 l Z a0 hw a_458 r_470 (0 : Int64) (0 : Int64) (0 : Int64) (0 : Int64) (x0 - g0) (8 : Int64) _ _ E_472 F_473 F_474 F_475 A_476 g_463 g_471) E_472 (wd hw 35 rfl) (wd hw 36 rfl) (wd hw 38 rfl) (wd hw 37 rfl) (wd hw 12 rfl) (wd hw 39 rfl) (by decide) pd_4 rfl rfl rfl (by decide) (by decide) (ce' := 2) (sl' := 11) rfl rfl (by decide) (by decide) at_151 (pc' := 154) rfl rfl ?_
      intro h_478 q_479
      obtain ⟨r_480, g_481, E_482, F_483, F_484, F_485, A_486⟩ := q_479
      refine go_iload C at_154 (pc' := 156) rfl rfl ?_
      refine go_iconst C (1 : Int32) at_156 (pc' := 157) rfl (by decide) ?_
      refine go_icmp C (4 : Int) (1 : Int) (by decide) (by decide) at_157 (by decide) (pc' := 170) (by decide) (pcN := 160) rfl (fun (c_487 : ¬ (1 : Int) < (4 : Int)) => by omega) (fun (c_487 : (1 : Int) < (4 : Int)) => ?_)
      refine go_aload C at_160 (pc' := 162) rfl rfl rfl ?_
      refine go_lload C at_162 (pc' := 164) rfl rfl ?_
      refine go_ldc2 C (v := (8 : Int64)) (wd hw 34 rfl) at_164 (pc' := 167) rfl ?_
      refine go_virtualN C (as := [.long (x0 - g1), .long (8 : Int64)]) (rest := []) (W := 0) (sat_add_4_0_1 l Z a0 hw a_458 r_480 (x0 - g0) (0 : Int64) (0 : Int64) (0 : Int64) (x0 - g1) (8 : Int64) _ _ E_482 F_483 F_484 F_485 A_486 g_463 g_481) E_482 (wd hw 35 rfl) (wd hw 36 rfl) (wd hw 38 rfl) (wd hw 37 rfl) (wd hw 12 rfl) (wd hw 39 rfl) (by decide) pd_4 rfl rfl rfl (by decide) (by decide) (ce' := 2) (sl' := 11) rfl rfl (by decide) (by decide) at_167 (pc' := 170) rfl rfl ?_
      intro h_488 q_489
      obtain ⟨r_490, g_491, E_492, F_493, F_494, F_495, A_496⟩ := q_489
      refine go_iload C at_170 (pc' := 172) rfl rfl ?_
      refine go_iconst C (2 : Int32) at_172 (pc' := 173) rfl (by decide) ?_
      refine go_icmp C (4 : Int) (2 : Int) (by decide) (by decide) at_173 (by decide) (pc' := 186) (by decide) (pcN := 176) rfl (fun (c_497 : ¬ (2 : Int) < (4 : Int)) => by omega) (fun (c_497 : (2 : Int) < (4 : Int)) => ?_)
      refine go_aload C at_176 (pc' := 178) rfl rfl rfl ?_
      refine go_lload C at_178 (pc' := 180) rfl rfl ?_
      refine go_ldc2 C (v := (8 : Int64)) (wd hw 34 rfl) at_180 (pc' := 183) rfl ?_
      refine go_virtualN C (as := [.long (x0 - g2), .long (8 : Int64)]) (rest := []) (W := 0) (sat_add_4_0_2 l Z a0 hw a_458 r_490 (x0 - g0) (x0 - g1) (0 : Int64) (0 : Int64) (x0 - g2) (8 : Int64) _ _ E_492 F_493 F_494 F_495 A_496 g_463 g_491) E_492 (wd hw 35 rfl) (wd hw 36 rfl) (wd hw 38 rfl) (wd hw 37 rfl) (wd hw 12 rfl) (wd hw 39 rfl) (by decide) pd_4 rfl rfl rfl (by decide) (by decide) (ce' := 2) (sl' := 11) rfl rfl (by decide) (by decide) at_183 (pc' := 186) rfl rfl ?_
      intro h_498 q_499
      obtain ⟨r_500, g_501, E_502, F_503, F_504, F_505, A_506⟩ := q_499
      refine go_iload C at_186 (pc' := 188) rfl rfl ?_
      refine go_iconst C (3 : Int32) at_188 (pc' := 189) rfl (by decide) ?_
      refine go_icmp C (4 : Int) (3 : Int) (by decide) (by decide) at_189 (by decide) (pc' := 202) (by decide) (pcN := 192) rfl (fun (c_507 : ¬ (3 : Int) < (4 : Int)) => by omega) (fun (c_507 : (3 : Int) < (4 : Int)) => ?_)
      refine go_aload C at_192 (pc' := 194) rfl rfl rfl ?_
      refine go_lload C at_194 (pc' := 196) rfl rfl ?_
      refine go_ldc2 C (v := (8 : Int64)) (wd hw 34 rfl) at_196 (pc' := 199) rfl ?_
      refine go_virtualN C (as := [.long (x0 - g3), .long (8 : Int64)]) (rest := []) (W := 0) (sat_add_4_0_3 l Z a0 hw a_458 r_500 (x0 - g0) (x0 - g1) (x0 - g2) (0 : Int64) (x0 - g3) (8 : Int64) _ _ E_502 F_503 F_504 F_505 A_506 g_463 g_501) E_502 (wd hw 35 rfl) (wd hw 36 rfl) (wd hw 38 rfl) (wd hw 37 rfl) (wd hw 12 rfl) (wd hw 39 rfl) (by decide) pd_4 rfl rfl rfl (by decide) (by decide) (ce' := 2) (sl' := 11) rfl rfl (by decide) (by decide) at_199 (pc' := 202) rfl rfl ?_
      intro h_508 q_509
      obtain ⟨r_510, g_511, E_512, F_513, F_514, F_515, A_516⟩ := q_509
      refine go_iload C at_202 (pc' := 204) rfl rfl ?_
      refine go_if0 C (4 : Int) (by decide) at_204 (by decide) (pc' := 219) (by decide) (pcN := 207) rfl (fun (c_517 : ¬ 0 < (4 : Int)) => by omega) (fun (c_517 : 0 < (4 : Int)) => ?_)
      refine go_lload C at_207 (pc' := 209) rfl rfl ?_
      refine go_lload C at_209 (pc' := 211) rfl rfl ?_
      refine go_lcmp C g0.toInt win.toInt rfl rfl at_211 (pc1 := 212) rfl at_212 (by decide) (pc' := 219) (by decide) (pcN := 215) rfl (fun (c_518 : g0.toInt < win.toInt) => ?_) (fun (c_518 : ¬ g0.toInt < win.toInt) => ?_)
      · skip
        refine go_iconst C (0 : Int32) at_219 (pc' := 220) rfl (by decide) ?_
        refine go_iload C at_220 (pc' := 222) rfl rfl ?_
        refine go_iconst C (1 : Int32) at_222 (pc' := 223) rfl (by decide) ?_
        refine go_icmp C (4 : Int) (1 : Int) (by decide) (by decide) at_223 (by decide) (pc' := 238) (by decide) (pcN := 226) rfl (fun (c_519 : ¬ (1 : Int) < (4 : Int)) => by omega) (fun (c_519 : (1 : Int) < (4 : Int)) => ?_)
        refine go_lload C at_226 (pc' := 228) rfl rfl ?_
        refine go_lload C at_228 (pc' := 230) rfl rfl ?_
        refine go_lcmp C g1.toInt win.toInt rfl rfl at_230 (pc1 := 231) rfl at_231 (by decide) (pc' := 238) (by decide) (pcN := 234) rfl (fun (c_520 : g1.toInt < win.toInt) => ?_) (fun (c_520 : ¬ g1.toInt < win.toInt) => by omega)
        refine go_iconst C (0 : Int32) at_238 (pc' := 239) rfl (by decide) ?_
        refine go_iadd C at_239 (pc' := 240) rfl ?_
        rw [(by decide : (0 : Int32) + (0 : Int32) = (0 : Int32))]
        refine go_iload C at_240 (pc' := 242) rfl rfl ?_
        refine go_iconst C (2 : Int32) at_242 (pc' := 243) rfl (by decide) ?_
        refine go_icmp C (4 : Int) (2 : Int) (by decide) (by decide) at_243 (by decide) (pc' := 258) (by decide) (pcN := 246) rfl (fun (c_521 : ¬ (2 : Int) < (4 : Int)) => by omega) (fun (c_521 : (2 : Int) < (4 : Int)) => ?_)
        refine go_lload C at_246 (pc' := 248) rfl rfl ?_
        refine go_lload C at_248 (pc' := 250) rfl rfl ?_
        refine go_lcmp C g2.toInt win.toInt rfl rfl at_250 (pc1 := 251) rfl at_251 (by decide) (pc' := 258) (by decide) (pcN := 254) rfl (fun (c_522 : g2.toInt < win.toInt) => ?_) (fun (c_522 : ¬ g2.toInt < win.toInt) => by omega)
        refine go_iconst C (0 : Int32) at_258 (pc' := 259) rfl (by decide) ?_
        refine go_iadd C at_259 (pc' := 260) rfl ?_
        rw [(by decide : (0 : Int32) + (0 : Int32) = (0 : Int32))]
        refine go_iload C at_260 (pc' := 262) rfl rfl ?_
        refine go_iconst C (3 : Int32) at_262 (pc' := 263) rfl (by decide) ?_
        refine go_icmp C (4 : Int) (3 : Int) (by decide) (by decide) at_263 (by decide) (pc' := 278) (by decide) (pcN := 266) rfl (fun (c_523 : ¬ (3 : Int) < (4 : Int)) => by omega) (fun (c_523 : (3 : Int) < (4 : Int)) => ?_)
        refine go_lload C at_266 (pc' := 268) rfl rfl ?_
        refine go_lload C at_268 (pc' := 270) rfl rfl ?_
        refine go_lcmp C g3.toInt win.toInt rfl rfl at_270 (pc1 := 271) rfl at_271 (by decide) (pc' := 278) (by decide) (pcN := 274) rfl (fun (c_524 : g3.toInt < win.toInt) => ?_) (fun (c_524 : ¬ g3.toInt < win.toInt) => by omega)
        refine go_iconst C (0 : Int32) at_278 (pc' := 279) rfl (by decide) ?_
        refine go_iadd C at_279 (pc' := 280) rfl ?_
        rw [(by decide : (0 : Int32) + (0 : Int32) = (0 : Int32))]
        refine go_istore C (Ls' := #[.val (.long x0), .second, .val (.long x1), .second, .val (.int x2), .val (.long win), .second, .val (.long bb), .second, .val (.long g3), .second, .val (.long g2), .second, .val (.long g1), .second, .val (.long g0), .second, .val (.int (4 : Int32)), .val (.long (x0 - g0)), .second, .val (.long (x0 - g1)), .second, .val (.long (x0 - g2)), .second, .val (.long (x0 - g3)), .second, .val (.ref a_458), .val (.int (0 : Int32)), .unset, .unset]) at_280 (pc' := 282) rfl rfl ?_
        refine go_aload C at_282 (pc' := 284) rfl rfl rfl ?_
        refine go_lloadN C at_284 (pc' := 285) rfl rfl ?_
        refine go_lload C at_285 (pc' := 287) rfl rfl ?_
        refine go_virtualN C (as := [.long x0, .long win]) (rest := []) (W := 0) (sat_drop_4_0_4 l Z a0 hw a_458 r_510 (x0 - g0) (x0 - g1) (x0 - g2) (x0 - g3) x0 win _ _ E_512 F_513 F_514 F_515 A_516 g_463 g_511) E_512 (wd hw 27 rfl) (wd hw 28 rfl) (wd hw 30 rfl) (wd hw 29 rfl) (wd hw 12 rfl) (wd hw 31 rfl) (by decide) pd_4 rfl rfl rfl (by decide) (by decide) (ce' := 2) (sl' := 11) rfl rfl (by decide) (by decide) at_287 (pc' := 290) rfl rfl ?_
        intro h_525 q_526
        rcases q_526 with q_526 | q_526 | q_526 | q_526 | q_526
        · skip
          obtain ⟨hc_527, E_528, F_529, F_530, F_531, A_532⟩ := q_526
          refine go_iload C at_290 (pc' := 292) rfl rfl ?_
          refine go_iload C at_292 (pc' := 294) rfl rfl ?_
          refine go_icmp C (0 : Int) (4 : Int) (by decide) (by decide) at_294 (by decide) (pc' := 340) (by decide) (pcN := 297) rfl (fun (c_533 : ¬ (0 : Int) = (4 : Int)) => ?_) (fun (c_533 : (0 : Int) = (4 : Int)) => by omega)
          refine go_aload C at_340 (pc' := 342) rfl rfl rfl ?_
          refine go_virtualP C (as := []) (rest := []) (W := 0) (.long (x0 - g0)) (sat_old_4_0_4 l Z a0 hw a_458 r_510 (x0 - g0) (x0 - g1) (x0 - g2) (x0 - g3) _ _ E_528 F_529 F_530 F_531 A_532 g_463 g_511) E_528 (wd hw 46 rfl) (wd hw 47 rfl) (wd hw 49 rfl) (wd hw 48 rfl) (wd hw 12 rfl) (wd hw 50 rfl) (by decide) pd_6 rfl rfl rfl (by decide) (by decide) rfl rfl (by decide) (by decide) at_342 (pc' := 345) rfl rfl ?_
          refine go_iload C at_345 (pc' := 347) rfl rfl ?_
          refine go_lload C at_347 (pc' := 349) rfl rfl ?_
          refine go_lload C at_349 (pc' := 351) rfl rfl ?_
          refine go_lload C at_351 (pc' := 353) rfl rfl ?_
          refine go_lload C at_353 (pc' := 355) rfl rfl ?_
          refine go_staticP C (as := [.int (0 : Int32), .long (x0 - g0), .long (x0 - g1), .long (x0 - g2), .long (x0 - g3)]) (rest := [.long (x0 - g0)]) (W := 2) (.long (x0 - g0)) (sat_pick0 l Z a0 hw (x0 - g0) (x0 - g1) (x0 - g2) (x0 - g3) _ _) (wd hw 56 rfl) (wd hw 57 rfl) (wd hw 58 rfl) (wd hw 59 rfl) (by decide) pd_7 rfl rfl rfl (by decide) (by decide) rfl rfl (by decide) (by decide) at_355 (pc' := 358) rfl rfl ?_
          refine go_lcmp C ((x0 - g0).toInt) ((x0 - g0).toInt) rfl rfl at_358 (pc1 := 359) rfl at_359 (by decide) (pc' := 390) (by decide) (pcN := 362) rfl (fun (c_534 : ¬ ((x0 - g0).toInt) = ((x0 - g0).toInt)) => by omega) (fun (c_534 : ((x0 - g0).toInt) = ((x0 - g0).toInt)) => ?_)
          refine go_aload C at_362 (pc' := 364) rfl rfl rfl ?_
          refine go_virtualP C (as := []) (rest := []) (W := 0) (.long (x0 - g3)) (sat_new_4_0_4 l Z a0 hw a_458 r_510 (x0 - g0) (x0 - g1) (x0 - g2) (x0 - g3) _ _ E_528 F_529 F_530 F_531 A_532 g_463 g_511) E_528 (wd hw 51 rfl) (wd hw 52 rfl) (wd hw 54 rfl) (wd hw 53 rfl) (wd hw 12 rfl) (wd hw 55 rfl) (by decide) pd_6 rfl rfl rfl (by decide) (by decide) rfl rfl (by decide) (by decide) at_364 (pc' := 367) rfl rfl ?_
          refine go_iload C at_367 (pc' := 369) rfl rfl ?_
          refine go_iconst C (1 : Int32) at_369 (pc' := 370) rfl (by decide) ?_
          refine go_isub C at_370 (pc' := 371) rfl ?_
          rw [(by decide : (4 : Int32) - (1 : Int32) = (3 : Int32))]
          refine go_lload C at_371 (pc' := 373) rfl rfl ?_
          refine go_lload C at_373 (pc' := 375) rfl rfl ?_
          refine go_lload C at_375 (pc' := 377) rfl rfl ?_
          refine go_lload C at_377 (pc' := 379) rfl rfl ?_
          refine go_staticP C (as := [.int (3 : Int32), .long (x0 - g0), .long (x0 - g1), .long (x0 - g2), .long (x0 - g3)]) (rest := [.long (x0 - g3)]) (W := 2) (.long (x0 - g3)) (sat_pick3 l Z a0 hw (x0 - g0) (x0 - g1) (x0 - g2) (x0 - g3) _ _) (wd hw 56 rfl) (wd hw 57 rfl) (wd hw 58 rfl) (wd hw 59 rfl) (by decide) pd_7 rfl rfl rfl (by decide) (by decide) rfl rfl (by decide) (by decide) at_379 (pc' := 382) rfl rfl ?_
          refine go_lcmp C ((x0 - g3).toInt) ((x0 - g3).toInt) rfl rfl at_382 (pc1 := 383) rfl at_383 (by decide) (pc' := 390) (by decide) (pcN := 386) rfl (fun (c_535 : ¬ ((x0 - g3).toInt) = ((x0 - g3).toInt)) => by omega) (fun (c_535 : ((x0 - g3).toInt) = ((x0 - g3).toInt)) => ?_)
          refine go_iconst C (1 : Int32) at_386 (pc' := 387) rfl (by decide) ?_
          refine go_goto C at_387 (by decide) (pc' := 391) (by decide) ?_
          refine go_ireturnN C (z' := (1 : Int32)) rfl (by simp) rfl at_391 (by decide) (by decide) ?_
          exact ⟨_, rfl, rfl⟩
        · skip
          obtain ⟨hc_536, E_537, F_538, F_539, F_540, A_541⟩ := q_526
          exfalso; omega
        · skip
          obtain ⟨hc_542, E_543, F_544, F_545, F_546, A_547⟩ := q_526
          exfalso; omega
        · skip
          obtain ⟨hc_548, E_549, F_550, F_551, F_552, A_553⟩ := q_526
          exfalso; omega
        · skip
          obtain ⟨hc_554, E_555, F_556, F_557, F_558, A_559⟩ := q_526
          exfalso; omega
      · skip
        refine go_iconst C (1 : Int32) at_215 (pc' := 216) rfl (by decide) ?_
        refine go_goto C at_216 (by decide) (pc' := 220) (by decide) ?_
        refine go_iload C at_220 (pc' := 222) rfl rfl ?_
        refine go_iconst C (1 : Int32) at_222 (pc' := 223) rfl (by decide) ?_
        refine go_icmp C (4 : Int) (1 : Int) (by decide) (by decide) at_223 (by decide) (pc' := 238) (by decide) (pcN := 226) rfl (fun (c_560 : ¬ (1 : Int) < (4 : Int)) => by omega) (fun (c_560 : (1 : Int) < (4 : Int)) => ?_)
        refine go_lload C at_226 (pc' := 228) rfl rfl ?_
        refine go_lload C at_228 (pc' := 230) rfl rfl ?_
        refine go_lcmp C g1.toInt win.toInt rfl rfl at_230 (pc1 := 231) rfl at_231 (by decide) (pc' := 238) (by decide) (pcN := 234) rfl (fun (c_561 : g1.toInt < win.toInt) => ?_) (fun (c_561 : ¬ g1.toInt < win.toInt) => ?_)
        · skip
          refine go_iconst C (0 : Int32) at_238 (pc' := 239) rfl (by decide) ?_
          refine go_iadd C at_239 (pc' := 240) rfl ?_
          rw [(by decide : (1 : Int32) + (0 : Int32) = (1 : Int32))]
          refine go_iload C at_240 (pc' := 242) rfl rfl ?_
          refine go_iconst C (2 : Int32) at_242 (pc' := 243) rfl (by decide) ?_
          refine go_icmp C (4 : Int) (2 : Int) (by decide) (by decide) at_243 (by decide) (pc' := 258) (by decide) (pcN := 246) rfl (fun (c_562 : ¬ (2 : Int) < (4 : Int)) => by omega) (fun (c_562 : (2 : Int) < (4 : Int)) => ?_)
          refine go_lload C at_246 (pc' := 248) rfl rfl ?_
          refine go_lload C at_248 (pc' := 250) rfl rfl ?_
          refine go_lcmp C g2.toInt win.toInt rfl rfl at_250 (pc1 := 251) rfl at_251 (by decide) (pc' := 258) (by decide) (pcN := 254) rfl (fun (c_563 : g2.toInt < win.toInt) => ?_) (fun (c_563 : ¬ g2.toInt < win.toInt) => by omega)
          refine go_iconst C (0 : Int32) at_258 (pc' := 259) rfl (by decide) ?_
          refine go_iadd C at_259 (pc' := 260) rfl ?_
          rw [(by decide : (1 : Int32) + (0 : Int32) = (1 : Int32))]
          refine go_iload C at_260 (pc' := 262) rfl rfl ?_
          refine go_iconst C (3 : Int32) at_262 (pc' := 263) rfl (by decide) ?_
          refine go_icmp C (4 : Int) (3 : Int) (by decide) (by decide) at_263 (by decide) (pc' := 278) (by decide) (pcN := 266) rfl (fun (c_564 : ¬ (3 : Int) < (4 : Int)) => by omega) (fun (c_564 : (3 : Int) < (4 : Int)) => ?_)
          refine go_lload C at_266 (pc' := 268) rfl rfl ?_
          refine go_lload C at_268 (pc' := 270) rfl rfl ?_
          refine go_lcmp C g3.toInt win.toInt rfl rfl at_270 (pc1 := 271) rfl at_271 (by decide) (pc' := 278) (by decide) (pcN := 274) rfl (fun (c_565 : g3.toInt < win.toInt) => ?_) (fun (c_565 : ¬ g3.toInt < win.toInt) => by omega)
          refine go_iconst C (0 : Int32) at_278 (pc' := 279) rfl (by decide) ?_
          refine go_iadd C at_279 (pc' := 280) rfl ?_
          rw [(by decide : (1 : Int32) + (0 : Int32) = (1 : Int32))]
          refine go_istore C (Ls' := #[.val (.long x0), .second, .val (.long x1), .second, .val (.int x2), .val (.long win), .second, .val (.long bb), .second, .val (.long g3), .second, .val (.long g2), .second, .val (.long g1), .second, .val (.long g0), .second, .val (.int (4 : Int32)), .val (.long (x0 - g0)), .second, .val (.long (x0 - g1)), .second, .val (.long (x0 - g2)), .second, .val (.long (x0 - g3)), .second, .val (.ref a_458), .val (.int (1 : Int32)), .unset, .unset]) at_280 (pc' := 282) rfl rfl ?_
          refine go_aload C at_282 (pc' := 284) rfl rfl rfl ?_
          refine go_lloadN C at_284 (pc' := 285) rfl rfl ?_
          refine go_lload C at_285 (pc' := 287) rfl rfl ?_
          refine go_virtualN C (as := [.long x0, .long win]) (rest := []) (W := 0) (sat_drop_4_0_4 l Z a0 hw a_458 r_510 (x0 - g0) (x0 - g1) (x0 - g2) (x0 - g3) x0 win _ _ E_512 F_513 F_514 F_515 A_516 g_463 g_511) E_512 (wd hw 27 rfl) (wd hw 28 rfl) (wd hw 30 rfl) (wd hw 29 rfl) (wd hw 12 rfl) (wd hw 31 rfl) (by decide) pd_4 rfl rfl rfl (by decide) (by decide) (ce' := 2) (sl' := 11) rfl rfl (by decide) (by decide) at_287 (pc' := 290) rfl rfl ?_
          intro h_566 q_567
          rcases q_567 with q_567 | q_567 | q_567 | q_567 | q_567
          · skip
            obtain ⟨hc_568, E_569, F_570, F_571, F_572, A_573⟩ := q_567
            exfalso; omega
          · skip
            obtain ⟨hc_574, E_575, F_576, F_577, F_578, A_579⟩ := q_567
            refine go_iload C at_290 (pc' := 292) rfl rfl ?_
            refine go_iload C at_292 (pc' := 294) rfl rfl ?_
            refine go_icmp C (1 : Int) (4 : Int) (by decide) (by decide) at_294 (by decide) (pc' := 340) (by decide) (pcN := 297) rfl (fun (c_580 : ¬ (1 : Int) = (4 : Int)) => ?_) (fun (c_580 : (1 : Int) = (4 : Int)) => by omega)
            refine go_aload C at_340 (pc' := 342) rfl rfl rfl ?_
            refine go_virtualP C (as := []) (rest := []) (W := 0) (.long (x0 - g1)) (sat_old_4_1_3 l Z a0 hw a_458 r_510 (x0 - g0) (x0 - g1) (x0 - g2) (x0 - g3) _ _ E_575 F_576 F_577 F_578 A_579 g_463 g_511) E_575 (wd hw 46 rfl) (wd hw 47 rfl) (wd hw 49 rfl) (wd hw 48 rfl) (wd hw 12 rfl) (wd hw 50 rfl) (by decide) pd_6 rfl rfl rfl (by decide) (by decide) rfl rfl (by decide) (by decide) at_342 (pc' := 345) rfl rfl ?_
            refine go_iload C at_345 (pc' := 347) rfl rfl ?_
            refine go_lload C at_347 (pc' := 349) rfl rfl ?_
            refine go_lload C at_349 (pc' := 351) rfl rfl ?_
            refine go_lload C at_351 (pc' := 353) rfl rfl ?_
            refine go_lload C at_353 (pc' := 355) rfl rfl ?_
            refine go_staticP C (as := [.int (1 : Int32), .long (x0 - g0), .long (x0 - g1), .long (x0 - g2), .long (x0 - g3)]) (rest := [.long (x0 - g1)]) (W := 2) (.long (x0 - g1)) (sat_pick1 l Z a0 hw (x0 - g0) (x0 - g1) (x0 - g2) (x0 - g3) _ _) (wd hw 56 rfl) (wd hw 57 rfl) (wd hw 58 rfl) (wd hw 59 rfl) (by decide) pd_7 rfl rfl rfl (by decide) (by decide) rfl rfl (by decide) (by decide) at_355 (pc' := 358) rfl rfl ?_
            refine go_lcmp C ((x0 - g1).toInt) ((x0 - g1).toInt) rfl rfl at_358 (pc1 := 359) rfl at_359 (by decide) (pc' := 390) (by decide) (pcN := 362) rfl (fun (c_581 : ¬ ((x0 - g1).toInt) = ((x0 - g1).toInt)) => by omega) (fun (c_581 : ((x0 - g1).toInt) = ((x0 - g1).toInt)) => ?_)
            refine go_aload C at_362 (pc' := 364) rfl rfl rfl ?_
            refine go_virtualP C (as := []) (rest := []) (W := 0) (.long (x0 - g3)) (sat_new_4_1_3 l Z a0 hw a_458 r_510 (x0 - g0) (x0 - g1) (x0 - g2) (x0 - g3) _ _ E_575 F_576 F_577 F_578 A_579 g_463 g_511) E_575 (wd hw 51 rfl) (wd hw 52 rfl) (wd hw 54 rfl) (wd hw 53 rfl) (wd hw 12 rfl) (wd hw 55 rfl) (by decide) pd_6 rfl rfl rfl (by decide) (by decide) rfl rfl (by decide) (by decide) at_364 (pc' := 367) rfl rfl ?_
            refine go_iload C at_367 (pc' := 369) rfl rfl ?_
            refine go_iconst C (1 : Int32) at_369 (pc' := 370) rfl (by decide) ?_
            refine go_isub C at_370 (pc' := 371) rfl ?_
            rw [(by decide : (4 : Int32) - (1 : Int32) = (3 : Int32))]
            refine go_lload C at_371 (pc' := 373) rfl rfl ?_
            refine go_lload C at_373 (pc' := 375) rfl rfl ?_
            refine go_lload C at_375 (pc' := 377) rfl rfl ?_
            refine go_lload C at_377 (pc' := 379) rfl rfl ?_
            refine go_staticP C (as := [.int (3 : Int32), .long (x0 - g0), .long (x0 - g1), .long (x0 - g2), .long (x0 - g3)]) (rest := [.long (x0 - g3)]) (W := 2) (.long (x0 - g3)) (sat_pick3 l Z a0 hw (x0 - g0) (x0 - g1) (x0 - g2) (x0 - g3) _ _) (wd hw 56 rfl) (wd hw 57 rfl) (wd hw 58 rfl) (wd hw 59 rfl) (by decide) pd_7 rfl rfl rfl (by decide) (by decide) rfl rfl (by decide) (by decide) at_379 (pc' := 382) rfl rfl ?_
            refine go_lcmp C ((x0 - g3).toInt) ((x0 - g3).toInt) rfl rfl at_382 (pc1 := 383) rfl at_383 (by decide) (pc' := 390) (by decide) (pcN := 386) rfl (fun (c_582 : ¬ ((x0 - g3).toInt) = ((x0 - g3).toInt)) => by omega) (fun (c_582 : ((x0 - g3).toInt) = ((x0 - g3).toInt)) => ?_)
            refine go_iconst C (1 : Int32) at_386 (pc' := 387) rfl (by decide) ?_
            refine go_goto C at_387 (by decide) (pc' := 391) (by decide) ?_
            refine go_ireturnN C (z' := (1 : Int32)) rfl (by simp) rfl at_391 (by decide) (by decide) ?_
            exact ⟨_, rfl, rfl⟩
          · skip
            obtain ⟨hc_583, E_584, F_585, F_586, F_587, A_588⟩ := q_567
            exfalso; omega
          · skip
            obtain ⟨hc_589, E_590, F_591, F_592, F_593, A_594⟩ := q_567
            exfalso; omega
          · skip
            obtain ⟨hc_595, E_596, F_597, F_598, F_599, A_600⟩ := q_567
            exfalso; omega
        · skip
          refine go_iconst C (1 : Int32) at_234 (pc' := 235) rfl (by decide) ?_
          refine go_goto C at_235 (by decide) (pc' := 239) (by decide) ?_
          refine go_iadd C at_239 (pc' := 240) rfl ?_
          rw [(by decide : (1 : Int32) + (1 : Int32) = (2 : Int32))]
          refine go_iload C at_240 (pc' := 242) rfl rfl ?_
          refine go_iconst C (2 : Int32) at_242 (pc' := 243) rfl (by decide) ?_
          refine go_icmp C (4 : Int) (2 : Int) (by decide) (by decide) at_243 (by decide) (pc' := 258) (by decide) (pcN := 246) rfl (fun (c_601 : ¬ (2 : Int) < (4 : Int)) => by omega) (fun (c_601 : (2 : Int) < (4 : Int)) => ?_)
          refine go_lload C at_246 (pc' := 248) rfl rfl ?_
          refine go_lload C at_248 (pc' := 250) rfl rfl ?_
          refine go_lcmp C g2.toInt win.toInt rfl rfl at_250 (pc1 := 251) rfl at_251 (by decide) (pc' := 258) (by decide) (pcN := 254) rfl (fun (c_602 : g2.toInt < win.toInt) => ?_) (fun (c_602 : ¬ g2.toInt < win.toInt) => ?_)
          · skip
            refine go_iconst C (0 : Int32) at_258 (pc' := 259) rfl (by decide) ?_
            refine go_iadd C at_259 (pc' := 260) rfl ?_
            rw [(by decide : (2 : Int32) + (0 : Int32) = (2 : Int32))]
            refine go_iload C at_260 (pc' := 262) rfl rfl ?_
            refine go_iconst C (3 : Int32) at_262 (pc' := 263) rfl (by decide) ?_
            refine go_icmp C (4 : Int) (3 : Int) (by decide) (by decide) at_263 (by decide) (pc' := 278) (by decide) (pcN := 266) rfl (fun (c_603 : ¬ (3 : Int) < (4 : Int)) => by omega) (fun (c_603 : (3 : Int) < (4 : Int)) => ?_)
            refine go_lload C at_266 (pc' := 268) rfl rfl ?_
            refine go_lload C at_268 (pc' := 270) rfl rfl ?_
            refine go_lcmp C g3.toInt win.toInt rfl rfl at_270 (pc1 := 271) rfl at_271 (by decide) (pc' := 278) (by decide) (pcN := 274) rfl (fun (c_604 : g3.toInt < win.toInt) => ?_) (fun (c_604 : ¬ g3.toInt < win.toInt) => by omega)
            refine go_iconst C (0 : Int32) at_278 (pc' := 279) rfl (by decide) ?_
            refine go_iadd C at_279 (pc' := 280) rfl ?_
            rw [(by decide : (2 : Int32) + (0 : Int32) = (2 : Int32))]
            refine go_istore C (Ls' := #[.val (.long x0), .second, .val (.long x1), .second, .val (.int x2), .val (.long win), .second, .val (.long bb), .second, .val (.long g3), .second, .val (.long g2), .second, .val (.long g1), .second, .val (.long g0), .second, .val (.int (4 : Int32)), .val (.long (x0 - g0)), .second, .val (.long (x0 - g1)), .second, .val (.long (x0 - g2)), .second, .val (.long (x0 - g3)), .second, .val (.ref a_458), .val (.int (2 : Int32)), .unset, .unset]) at_280 (pc' := 282) rfl rfl ?_
            refine go_aload C at_282 (pc' := 284) rfl rfl rfl ?_
            refine go_lloadN C at_284 (pc' := 285) rfl rfl ?_
            refine go_lload C at_285 (pc' := 287) rfl rfl ?_
            refine go_virtualN C (as := [.long x0, .long win]) (rest := []) (W := 0) (sat_drop_4_0_4 l Z a0 hw a_458 r_510 (x0 - g0) (x0 - g1) (x0 - g2) (x0 - g3) x0 win _ _ E_512 F_513 F_514 F_515 A_516 g_463 g_511) E_512 (wd hw 27 rfl) (wd hw 28 rfl) (wd hw 30 rfl) (wd hw 29 rfl) (wd hw 12 rfl) (wd hw 31 rfl) (by decide) pd_4 rfl rfl rfl (by decide) (by decide) (ce' := 2) (sl' := 11) rfl rfl (by decide) (by decide) at_287 (pc' := 290) rfl rfl ?_
            intro h_605 q_606
            rcases q_606 with q_606 | q_606 | q_606 | q_606 | q_606
            · skip
              obtain ⟨hc_607, E_608, F_609, F_610, F_611, A_612⟩ := q_606
              exfalso; omega
            · skip
              obtain ⟨hc_613, E_614, F_615, F_616, F_617, A_618⟩ := q_606
              exfalso; omega
            · skip
              obtain ⟨hc_619, E_620, F_621, F_622, F_623, A_624⟩ := q_606
              refine go_iload C at_290 (pc' := 292) rfl rfl ?_
              refine go_iload C at_292 (pc' := 294) rfl rfl ?_
              refine go_icmp C (2 : Int) (4 : Int) (by decide) (by decide) at_294 (by decide) (pc' := 340) (by decide) (pcN := 297) rfl (fun (c_625 : ¬ (2 : Int) = (4 : Int)) => ?_) (fun (c_625 : (2 : Int) = (4 : Int)) => by omega)
              refine go_aload C at_340 (pc' := 342) rfl rfl rfl ?_
              refine go_virtualP C (as := []) (rest := []) (W := 0) (.long (x0 - g2)) (sat_old_4_2_2 l Z a0 hw a_458 r_510 (x0 - g0) (x0 - g1) (x0 - g2) (x0 - g3) _ _ E_620 F_621 F_622 F_623 A_624 g_463 g_511) E_620 (wd hw 46 rfl) (wd hw 47 rfl) (wd hw 49 rfl) (wd hw 48 rfl) (wd hw 12 rfl) (wd hw 50 rfl) (by decide) pd_6 rfl rfl rfl (by decide) (by decide) rfl rfl (by decide) (by decide) at_342 (pc' := 345) rfl rfl ?_
              refine go_iload C at_345 (pc' := 347) rfl rfl ?_
              refine go_lload C at_347 (pc' := 349) rfl rfl ?_
              refine go_lload C at_349 (pc' := 351) rfl rfl ?_
              refine go_lload C at_351 (pc' := 353) rfl rfl ?_
              refine go_lload C at_353 (pc' := 355) rfl rfl ?_
              refine go_staticP C (as := [.int (2 : Int32), .long (x0 - g0), .long (x0 - g1), .long (x0 - g2), .long (x0 - g3)]) (rest := [.long (x0 - g2)]) (W := 2) (.long (x0 - g2)) (sat_pick2 l Z a0 hw (x0 - g0) (x0 - g1) (x0 - g2) (x0 - g3) _ _) (wd hw 56 rfl) (wd hw 57 rfl) (wd hw 58 rfl) (wd hw 59 rfl) (by decide) pd_7 rfl rfl rfl (by decide) (by decide) rfl rfl (by decide) (by decide) at_355 (pc' := 358) rfl rfl ?_
              refine go_lcmp C ((x0 - g2).toInt) ((x0 - g2).toInt) rfl rfl at_358 (pc1 := 359) rfl at_359 (by decide) (pc' := 390) (by decide) (pcN := 362) rfl (fun (c_626 : ¬ ((x0 - g2).toInt) = ((x0 - g2).toInt)) => by omega) (fun (c_626 : ((x0 - g2).toInt) = ((x0 - g2).toInt)) => ?_)
              refine go_aload C at_362 (pc' := 364) rfl rfl rfl ?_
              refine go_virtualP C (as := []) (rest := []) (W := 0) (.long (x0 - g3)) (sat_new_4_2_2 l Z a0 hw a_458 r_510 (x0 - g0) (x0 - g1) (x0 - g2) (x0 - g3) _ _ E_620 F_621 F_622 F_623 A_624 g_463 g_511) E_620 (wd hw 51 rfl) (wd hw 52 rfl) (wd hw 54 rfl) (wd hw 53 rfl) (wd hw 12 rfl) (wd hw 55 rfl) (by decide) pd_6 rfl rfl rfl (by decide) (by decide) rfl rfl (by decide) (by decide) at_364 (pc' := 367) rfl rfl ?_
              refine go_iload C at_367 (pc' := 369) rfl rfl ?_
              refine go_iconst C (1 : Int32) at_369 (pc' := 370) rfl (by decide) ?_
              refine go_isub C at_370 (pc' := 371) rfl ?_
              rw [(by decide : (4 : Int32) - (1 : Int32) = (3 : Int32))]
              refine go_lload C at_371 (pc' := 373) rfl rfl ?_
              refine go_lload C at_373 (pc' := 375) rfl rfl ?_
              refine go_lload C at_375 (pc' := 377) rfl rfl ?_
              refine go_lload C at_377 (pc' := 379) rfl rfl ?_
              refine go_staticP C (as := [.int (3 : Int32), .long (x0 - g0), .long (x0 - g1), .long (x0 - g2), .long (x0 - g3)]) (rest := [.long (x0 - g3)]) (W := 2) (.long (x0 - g3)) (sat_pick3 l Z a0 hw (x0 - g0) (x0 - g1) (x0 - g2) (x0 - g3) _ _) (wd hw 56 rfl) (wd hw 57 rfl) (wd hw 58 rfl) (wd hw 59 rfl) (by decide) pd_7 rfl rfl rfl (by decide) (by decide) rfl rfl (by decide) (by decide) at_379 (pc' := 382) rfl rfl ?_
              refine go_lcmp C ((x0 - g3).toInt) ((x0 - g3).toInt) rfl rfl at_382 (pc1 := 383) rfl at_383 (by decide) (pc' := 390) (by decide) (pcN := 386) rfl (fun (c_627 : ¬ ((x0 - g3).toInt) = ((x0 - g3).toInt)) => by omega) (fun (c_627 : ((x0 - g3).toInt) = ((x0 - g3).toInt)) => ?_)
              refine go_iconst C (1 : Int32) at_386 (pc' := 387) rfl (by decide) ?_
              refine go_goto C at_387 (by decide) (pc' := 391) (by decide) ?_
              refine go_ireturnN C (z' := (1 : Int32)) rfl (by simp) rfl at_391 (by decide) (by decide) ?_
              exact ⟨_, rfl, rfl⟩
            · skip
              obtain ⟨hc_628, E_629, F_630, F_631, F_632, A_633⟩ := q_606
              exfalso; omega
            · skip
              obtain ⟨hc_634, E_635, F_636, F_637, F_638, A_639⟩ := q_606
              exfalso; omega
          · skip
            refine go_iconst C (1 : Int32) at_254 (pc' := 255) rfl (by decide) ?_
            refine go_goto C at_255 (by decide) (pc' := 259) (by decide) ?_
            refine go_iadd C at_259 (pc' := 260) rfl ?_
            rw [(by decide : (2 : Int32) + (1 : Int32) = (3 : Int32))]
            refine go_iload C at_260 (pc' := 262) rfl rfl ?_
            refine go_iconst C (3 : Int32) at_262 (pc' := 263) rfl (by decide) ?_
            refine go_icmp C (4 : Int) (3 : Int) (by decide) (by decide) at_263 (by decide) (pc' := 278) (by decide) (pcN := 266) rfl (fun (c_640 : ¬ (3 : Int) < (4 : Int)) => by omega) (fun (c_640 : (3 : Int) < (4 : Int)) => ?_)
            refine go_lload C at_266 (pc' := 268) rfl rfl ?_
            refine go_lload C at_268 (pc' := 270) rfl rfl ?_
            refine go_lcmp C g3.toInt win.toInt rfl rfl at_270 (pc1 := 271) rfl at_271 (by decide) (pc' := 278) (by decide) (pcN := 274) rfl (fun (c_641 : g3.toInt < win.toInt) => ?_) (fun (c_641 : ¬ g3.toInt < win.toInt) => ?_)
            · skip
              refine go_iconst C (0 : Int32) at_278 (pc' := 279) rfl (by decide) ?_
              refine go_iadd C at_279 (pc' := 280) rfl ?_
              rw [(by decide : (3 : Int32) + (0 : Int32) = (3 : Int32))]
              refine go_istore C (Ls' := #[.val (.long x0), .second, .val (.long x1), .second, .val (.int x2), .val (.long win), .second, .val (.long bb), .second, .val (.long g3), .second, .val (.long g2), .second, .val (.long g1), .second, .val (.long g0), .second, .val (.int (4 : Int32)), .val (.long (x0 - g0)), .second, .val (.long (x0 - g1)), .second, .val (.long (x0 - g2)), .second, .val (.long (x0 - g3)), .second, .val (.ref a_458), .val (.int (3 : Int32)), .unset, .unset]) at_280 (pc' := 282) rfl rfl ?_
              refine go_aload C at_282 (pc' := 284) rfl rfl rfl ?_
              refine go_lloadN C at_284 (pc' := 285) rfl rfl ?_
              refine go_lload C at_285 (pc' := 287) rfl rfl ?_
              refine go_virtualN C (as := [.long x0, .long win]) (rest := []) (W := 0) (sat_drop_4_0_4 l Z a0 hw a_458 r_510 (x0 - g0) (x0 - g1) (x0 - g2) (x0 - g3) x0 win _ _ E_512 F_513 F_514 F_515 A_516 g_463 g_511) E_512 (wd hw 27 rfl) (wd hw 28 rfl) (wd hw 30 rfl) (wd hw 29 rfl) (wd hw 12 rfl) (wd hw 31 rfl) (by decide) pd_4 rfl rfl rfl (by decide) (by decide) (ce' := 2) (sl' := 11) rfl rfl (by decide) (by decide) at_287 (pc' := 290) rfl rfl ?_
              intro h_642 q_643
              rcases q_643 with q_643 | q_643 | q_643 | q_643 | q_643
              · skip
                obtain ⟨hc_644, E_645, F_646, F_647, F_648, A_649⟩ := q_643
                exfalso; omega
              · skip
                obtain ⟨hc_650, E_651, F_652, F_653, F_654, A_655⟩ := q_643
                exfalso; omega
              · skip
                obtain ⟨hc_656, E_657, F_658, F_659, F_660, A_661⟩ := q_643
                exfalso; omega
              · skip
                obtain ⟨hc_662, E_663, F_664, F_665, F_666, A_667⟩ := q_643
                refine go_iload C at_290 (pc' := 292) rfl rfl ?_
                refine go_iload C at_292 (pc' := 294) rfl rfl ?_
                refine go_icmp C (3 : Int) (4 : Int) (by decide) (by decide) at_294 (by decide) (pc' := 340) (by decide) (pcN := 297) rfl (fun (c_668 : ¬ (3 : Int) = (4 : Int)) => ?_) (fun (c_668 : (3 : Int) = (4 : Int)) => by omega)
                refine go_aload C at_340 (pc' := 342) rfl rfl rfl ?_
                refine go_virtualP C (as := []) (rest := []) (W := 0) (.long (x0 - g3)) (sat_old_4_3_1 l Z a0 hw a_458 r_510 (x0 - g0) (x0 - g1) (x0 - g2) (x0 - g3) _ _ E_663 F_664 F_665 F_666 A_667 g_463 g_511) E_663 (wd hw 46 rfl) (wd hw 47 rfl) (wd hw 49 rfl) (wd hw 48 rfl) (wd hw 12 rfl) (wd hw 50 rfl) (by decide) pd_6 rfl rfl rfl (by decide) (by decide) rfl rfl (by decide) (by decide) at_342 (pc' := 345) rfl rfl ?_
                refine go_iload C at_345 (pc' := 347) rfl rfl ?_
                refine go_lload C at_347 (pc' := 349) rfl rfl ?_
                refine go_lload C at_349 (pc' := 351) rfl rfl ?_
                refine go_lload C at_351 (pc' := 353) rfl rfl ?_
                refine go_lload C at_353 (pc' := 355) rfl rfl ?_
                refine go_staticP C (as := [.int (3 : Int32), .long (x0 - g0), .long (x0 - g1), .long (x0 - g2), .long (x0 - g3)]) (rest := [.long (x0 - g3)]) (W := 2) (.long (x0 - g3)) (sat_pick3 l Z a0 hw (x0 - g0) (x0 - g1) (x0 - g2) (x0 - g3) _ _) (wd hw 56 rfl) (wd hw 57 rfl) (wd hw 58 rfl) (wd hw 59 rfl) (by decide) pd_7 rfl rfl rfl (by decide) (by decide) rfl rfl (by decide) (by decide) at_355 (pc' := 358) rfl rfl ?_
                refine go_lcmp C ((x0 - g3).toInt) ((x0 - g3).toInt) rfl rfl at_358 (pc1 := 359) rfl at_359 (by decide) (pc' := 390) (by decide) (pcN := 362) rfl (fun (c_669 : ¬ ((x0 - g3).toInt) = ((x0 - g3).toInt)) => by omega) (fun (c_669 : ((x0 - g3).toInt) = ((x0 - g3).toInt)) => ?_)
                refine go_aload C at_362 (pc' := 364) rfl rfl rfl ?_
                refine go_virtualP C (as := []) (rest := []) (W := 0) (.long (x0 - g3)) (sat_new_4_3_1 l Z a0 hw a_458 r_510 (x0 - g0) (x0 - g1) (x0 - g2) (x0 - g3) _ _ E_663 F_664 F_665 F_666 A_667 g_463 g_511) E_663 (wd hw 51 rfl) (wd hw 52 rfl) (wd hw 54 rfl) (wd hw 53 rfl) (wd hw 12 rfl) (wd hw 55 rfl) (by decide) pd_6 rfl rfl rfl (by decide) (by decide) rfl rfl (by decide) (by decide) at_364 (pc' := 367) rfl rfl ?_
                refine go_iload C at_367 (pc' := 369) rfl rfl ?_
                refine go_iconst C (1 : Int32) at_369 (pc' := 370) rfl (by decide) ?_
                refine go_isub C at_370 (pc' := 371) rfl ?_
                rw [(by decide : (4 : Int32) - (1 : Int32) = (3 : Int32))]
                refine go_lload C at_371 (pc' := 373) rfl rfl ?_
                refine go_lload C at_373 (pc' := 375) rfl rfl ?_
                refine go_lload C at_375 (pc' := 377) rfl rfl ?_
                refine go_lload C at_377 (pc' := 379) rfl rfl ?_
                refine go_staticP C (as := [.int (3 : Int32), .long (x0 - g0), .long (x0 - g1), .long (x0 - g2), .long (x0 - g3)]) (rest := [.long (x0 - g3)]) (W := 2) (.long (x0 - g3)) (sat_pick3 l Z a0 hw (x0 - g0) (x0 - g1) (x0 - g2) (x0 - g3) _ _) (wd hw 56 rfl) (wd hw 57 rfl) (wd hw 58 rfl) (wd hw 59 rfl) (by decide) pd_7 rfl rfl rfl (by decide) (by decide) rfl rfl (by decide) (by decide) at_379 (pc' := 382) rfl rfl ?_
                refine go_lcmp C ((x0 - g3).toInt) ((x0 - g3).toInt) rfl rfl at_382 (pc1 := 383) rfl at_383 (by decide) (pc' := 390) (by decide) (pcN := 386) rfl (fun (c_670 : ¬ ((x0 - g3).toInt) = ((x0 - g3).toInt)) => by omega) (fun (c_670 : ((x0 - g3).toInt) = ((x0 - g3).toInt)) => ?_)
                refine go_iconst C (1 : Int32) at_386 (pc' := 387) rfl (by decide) ?_
                refine go_goto C at_387 (by decide) (pc' := 391) (by decide) ?_
                refine go_ireturnN C (z' := (1 : Int32)) rfl (by simp) rfl at_391 (by decide) (by decide) ?_
                exact ⟨_, rfl, rfl⟩
              · skip
                obtain ⟨hc_671, E_672, F_673, F_674, F_675, A_676⟩ := q_643
                exfalso; omega
            · skip
              refine go_iconst C (1 : Int32) at_274 (pc' := 275) rfl (by decide) ?_
              refine go_goto C at_275 (by decide) (pc' := 279) (by decide) ?_
              refine go_iadd C at_279 (pc' := 280) rfl ?_
              rw [(by decide : (3 : Int32) + (1 : Int32) = (4 : Int32))]
              refine go_istore C (Ls' := #[.val (.long x0), .second, .val (.long x1), .second, .val (.int x2), .val (.long win), .second, .val (.long bb), .second, .val (.long g3), .second, .val (.long g2), .second, .val (.long g1), .second, .val (.long g0), .second, .val (.int (4 : Int32)), .val (.long (x0 - g0)), .second, .val (.long (x0 - g1)), .second, .val (.long (x0 - g2)), .second, .val (.long (x0 - g3)), .second, .val (.ref a_458), .val (.int (4 : Int32)), .unset, .unset]) at_280 (pc' := 282) rfl rfl ?_
              refine go_aload C at_282 (pc' := 284) rfl rfl rfl ?_
              refine go_lloadN C at_284 (pc' := 285) rfl rfl ?_
              refine go_lload C at_285 (pc' := 287) rfl rfl ?_
              refine go_virtualN C (as := [.long x0, .long win]) (rest := []) (W := 0) (sat_drop_4_0_4 l Z a0 hw a_458 r_510 (x0 - g0) (x0 - g1) (x0 - g2) (x0 - g3) x0 win _ _ E_512 F_513 F_514 F_515 A_516 g_463 g_511) E_512 (wd hw 27 rfl) (wd hw 28 rfl) (wd hw 30 rfl) (wd hw 29 rfl) (wd hw 12 rfl) (wd hw 31 rfl) (by decide) pd_4 rfl rfl rfl (by decide) (by decide) (ce' := 2) (sl' := 11) rfl rfl (by decide) (by decide) at_287 (pc' := 290) rfl rfl ?_
              intro h_677 q_678
              rcases q_678 with q_678 | q_678 | q_678 | q_678 | q_678
              · skip
                obtain ⟨hc_679, E_680, F_681, F_682, F_683, A_684⟩ := q_678
                exfalso; omega
              · skip
                obtain ⟨hc_685, E_686, F_687, F_688, F_689, A_690⟩ := q_678
                exfalso; omega
              · skip
                obtain ⟨hc_691, E_692, F_693, F_694, F_695, A_696⟩ := q_678
                exfalso; omega
              · skip
                obtain ⟨hc_697, E_698, F_699, F_700, F_701, A_702⟩ := q_678
                exfalso; omega
              · skip
                obtain ⟨hc_703, E_704, F_705, F_706, F_707, A_708⟩ := q_678
                refine go_iload C at_290 (pc' := 292) rfl rfl ?_
                refine go_iload C at_292 (pc' := 294) rfl rfl ?_
                refine go_icmp C (4 : Int) (4 : Int) (by decide) (by decide) at_294 (by decide) (pc' := 340) (by decide) (pcN := 297) rfl (fun (c_709 : ¬ (4 : Int) = (4 : Int)) => by omega) (fun (c_709 : (4 : Int) = (4 : Int)) => ?_)
                refine go_lloadN C at_297 (pc' := 298) rfl rfl ?_
                refine go_lconst C (1 : Int64) at_298 (pc' := 299) rfl (by decide) ?_
                refine go_ladd C at_299 (pc' := 300) rfl ?_
                refine go_lstore C (Ls' := #[.val (.long x0), .second, .val (.long x1), .second, .val (.int x2), .val (.long win), .second, .val (.long bb), .second, .val (.long g3), .second, .val (.long g2), .second, .val (.long g1), .second, .val (.long g0), .second, .val (.int (4 : Int32)), .val (.long (x0 - g0)), .second, .val (.long (x0 - g1)), .second, .val (.long (x0 - g2)), .second, .val (.long (x0 - g3)), .second, .val (.ref a_458), .val (.int (4 : Int32)), .val (.long (x0 + (1 : Int64))), .second]) at_300 (pc' := 302) rfl rfl ?_
                refine go_aload C at_302 (pc' := 304) rfl rfl rfl ?_
                refine go_lload C at_304 (pc' := 306) rfl rfl ?_
                refine go_ldc2 C (v := (8 : Int64)) (wd hw 34 rfl) at_306 (pc' := 309) rfl ?_
                refine go_virtualN C (as := [.long (x0 + (1 : Int64)), .long (8 : Int64)]) (rest := []) (W := 0) (sat_add_4_0_0 l Z a0 hw a_458 r_510 (x0 - g0) (x0 - g1) (x0 - g2) (x0 - g3) (x0 + (1 : Int64)) (8 : Int64) _ _ E_704 F_705 F_706 F_707 A_708 g_463 g_511) E_704 (wd hw 35 rfl) (wd hw 36 rfl) (wd hw 38 rfl) (wd hw 37 rfl) (wd hw 12 rfl) (wd hw 39 rfl) (by decide) pd_4 rfl rfl rfl (by decide) (by decide) (ce' := 2) (sl' := 11) rfl rfl (by decide) (by decide) at_309 (pc' := 312) rfl rfl ?_
                intro h_710 q_711
                obtain ⟨r_712, g_713, E_714, F_715, F_716, F_717, A_718⟩ := q_711
                refine go_aload C at_312 (pc' := 314) rfl rfl rfl ?_
                refine go_virtualP C (as := []) (rest := []) (W := 0) (.long (x0 + (1 : Int64))) (sat_old_4_0_1 l Z a0 hw a_458 r_712 (x0 + (1 : Int64)) (x0 - g1) (x0 - g2) (x0 - g3) _ _ E_714 F_715 F_716 F_717 A_718 g_463 g_713) E_714 (wd hw 46 rfl) (wd hw 47 rfl) (wd hw 49 rfl) (wd hw 48 rfl) (wd hw 12 rfl) (wd hw 50 rfl) (by decide) pd_6 rfl rfl rfl (by decide) (by decide) rfl rfl (by decide) (by decide) at_314 (pc' := 317) rfl rfl ?_
                refine go_lload C at_317 (pc' := 319) rfl rfl ?_
                refine go_lcmp C ((x0 + (1 : Int64)).toInt) ((x0 + (1 : Int64)).toInt) rfl rfl at_319 (pc1 := 320) rfl at_320 (by decide) (pc' := 338) (by decide) (pcN := 323) rfl (fun (c_719 : ¬ ((x0 + (1 : Int64)).toInt) = ((x0 + (1 : Int64)).toInt)) => by omega) (fun (c_719 : ((x0 + (1 : Int64)).toInt) = ((x0 + (1 : Int64)).toInt)) => ?_)
                refine go_aload C at_323 (pc' := 325) rfl rfl rfl ?_
                refine go_virtualP C (as := []) (rest := []) (W := 0) (.long (x0 + (1 : Int64))) (sat_new_4_0_1 l Z a0 hw a_458 r_712 (x0 + (1 : Int64)) (x0 - g1) (x0 - g2) (x0 - g3) _ _ E_714 F_715 F_716 F_717 A_718 g_463 g_713) E_714 (wd hw 51 rfl) (wd hw 52 rfl) (wd hw 54 rfl) (wd hw 53 rfl) (wd hw 12 rfl) (wd hw 55 rfl) (by decide) pd_6 rfl rfl rfl (by decide) (by decide) rfl rfl (by decide) (by decide) at_325 (pc' := 328) rfl rfl ?_
                refine go_lload C at_328 (pc' := 330) rfl rfl ?_
                refine go_lcmp C ((x0 + (1 : Int64)).toInt) ((x0 + (1 : Int64)).toInt) rfl rfl at_330 (pc1 := 331) rfl at_331 (by decide) (pc' := 338) (by decide) (pcN := 334) rfl (fun (c_720 : ¬ ((x0 + (1 : Int64)).toInt) = ((x0 + (1 : Int64)).toInt)) => by omega) (fun (c_720 : ((x0 + (1 : Int64)).toInt) = ((x0 + (1 : Int64)).toInt)) => ?_)
                refine go_iconst C (1 : Int32) at_334 (pc' := 335) rfl (by decide) ?_
                refine go_goto C at_335 (by decide) (pc' := 339) (by decide) ?_
                refine go_ireturnN C (z' := (1 : Int32)) rfl (by simp) rfl at_339 (by decide) (by decide) ?_
                exact ⟨_, rfl, rfl⟩
  refine go_lload C at_7 (pc' := 9) rfl rfl ?_
  refine go_lconst C (0 : Int64) at_9 (pc' := 10) rfl (by decide) ?_
  refine go_lcmp C ((x1 &&& (9223372036854775807 : Int64)).toInt) (0 : Int) rfl (by decide) at_10 (pc1 := 11) rfl at_11 (by decide) (pc' := 17) (by decide) (pcN := 14) rfl (fun (c_721 : ¬ ((x1 &&& (9223372036854775807 : Int64)).toInt) = (0 : Int)) => ?_) (fun (c_721 : ((x1 &&& (9223372036854775807 : Int64)).toInt) = (0 : Int)) => ?_)
  · skip
    exact j17 _
  · skip
    refine go_lconst C (1 : Int64) at_14 (pc' := 15) rfl (by decide) ?_
    refine go_lstore C (Ls' := #[.val (.long x0), .second, .val (.long x1), .second, .val (.int x2), .val (.long (1 : Int64)), .second, .unset, .unset, .unset, .unset, .unset, .unset, .unset, .unset, .unset, .unset, .unset, .unset, .unset, .unset, .unset, .unset, .unset, .unset, .unset, .unset, .unset, .unset, .unset]) at_15 (pc' := 17) rfl rfl ?_
    exact j17 _
set_option maxRecDepth 65536 in
set_option maxHeartbeats 40000000 in
theorem comes_1 {Post : Tables → Env → Array Value → State → Outcome → State → Prop} (hpost : ∀ tb e args s v u, (limb_1_1.after args s (.returned v) u = true ∧ limb_1_2.after args s (.returned v) u = true ∧ True) → FrameEnd s (.returned v) u (Jvm.fieldLocs frame_1_writes args s ++ Jvm.arrayLocs frame_1_arrays args s ++ Jvm.staticLocs frame_1_statics s) 16 128 → Post tb e args s (.returned v) u) :
    ArmFor flags0 classFile x code maxLocals ret World_1 tables_1 room_1 Calls_1 rest_1 Pre_1 Post := by
  intro l hfl _ _ p e ha hc hk s m args below hf hA hF happ hP
  obtain ⟨hcalls, hrest, hpre⟩ := hP
  obtain ⟨-, -, -, hnamed, -, -, -, hat⟩ := (Spec.applies_iff hf).mp happ
  obtain ⟨hg, hn⟩ := and_e (Cond.before_iff.mp (show (Jvm.Cond.and given_1 narrow_1).before args s = true from hpre))
  obtain ⟨k0, g0⟩ := and_e hg
  obtain ⟨k1, g1⟩ := and_e g0
  obtain ⟨k2, g2⟩ := and_e g1
  obtain ⟨w0, w1, w2, rfl⟩ : ∃ w0 w1 w2 : Value, args = #[w0, w1, w2] := by
    have hs : args.size = 3 := by simpa [Cond.value, given_1] using k0
    obtain ⟨L⟩ := args
    match L, hs with
    | [w0, w1, w2], _ => exact ⟨w0, w1, w2, rfl⟩
  have hw := fun d (hd : d ∈ tables_1) => atoms_spec (ws := Jvm.Cond.code x code maxLocals ret :: tables_1) hat d (List.mem_cons_of_mem _ hd)
  obtain ⟨i0, e0⟩ := isL_v k1
  obtain ⟨i1, e1⟩ := isL_v k2
  obtain ⟨i2, e2⟩ := is_v g2
  obtain rfl : w0 = (.long i0) := Option.some.inj e0
  obtain rfl : w1 = (.long i1) := Option.some.inj e1
  obtain rfl : w2 = (.int i2) := Option.some.inj e2
  obtain ⟨n, o, h1, h2, h3, _, L, rfl, ⟨⟨_, rfl, rfl⟩, N⟩, hq⟩ := law_sat l s _ hw i0 i1 i2 tables_1 p e ha hc hk s m _ below hf ((Spec.applies_iff_loose hf).mp happ).1 ⟨rfl, State.Warmed39.refl s, rfl⟩ trivial
  refine ⟨n, _, h1, h2, h3, hpost _ _ _ _ _ _ ⟨Cond.after_iff.mpr rfl, Cond.after_iff.mpr (eq_i res_at (Term.int_eval (1)) rfl), trivial⟩ ⟨hq.1, hq.2.1, (hq.2.2.sift fun y hy => Or.inr (N y hy)).mono (by decide) (by decide)⟩⟩
theorem main_1_1 : Claimed_1_1 := comes_1 fun _ _ _ _ _ _ h hF => ⟨h.1, hF⟩
theorem main_1_2 : Claimed_1_2 := comes_1 fun _ _ _ _ _ _ h hF => ⟨h.2.1, hF⟩
end Jvm.Pilot.@@N@@
namespace Jvm.Pilot.@@N@@
open Jvm Jvm.ClassFile Sem Op Lib Jvm.Free Jvm.Stand Jvm.Pilot.@@N@@.Jvm.D
/-! MADE BY PROGRAM (witnessworld.py) out of the Statement's table words and the real class files: 13 classes; the members and pool entries that the words name. The judged class is class 1, her method 1. -/
namespace start1
open Jvm.ClassFile
def u (s : String) : CpInfo := .utf8 (stringToUtf16 s)
/-- a pool by its gaps: so many unusable entries, then the entry; so many at the end -/
def gap : Nat → List CpInfo → List CpInfo
  | 0, r => r
  | n + 1, r => .unusable :: gap n r
def poolList (es : List (Nat × CpInfo)) (last : Nat) : List CpInfo := es.foldr (fun e r => gap e.1 (e.2 :: r)) (gap last [])
def pool (es : List (Nat × CpInfo)) (last : Nat) : Array CpInfo := ⟨poolList es last⟩
def fileOf (pool : Array CpInfo) (this : Nat) (attrs : Array Attribute := #[]) (ms : Array MethodInfo := #[]) (fl : Nat := 33) (sup : Nat := 0) (ifs : Array Nat := #[]) (fds : Array FieldInfo := #[]) : ClassFile where
  minorVersion := 0
  majorVersion := 65
  constantPool := pool
  accessFlags := fl
  thisClass := this
  superClass := sup
  interfaces := ifs
  fields := fds
  methods := ms
  attributes := attrs
def plain (name : String) (sup : Option ClassId) : Class where
  name := name
  kind := .ordinary
  loader := none
  accessFlags := 33
  super := sup
  interfaces := #[]
  cf := none
  fields := #[]
  methods := #[]
  instanceTypes := #[]
  staticTypes := #[]
  resolved := #[]
  callSites := []
  init := .initialized
  statics := none
  mirror := none

def pool0 : Array CpInfo := pool [(5, u "<init>"), (0, u "()V"), (1, .class_ 10), (1, u "java/lang/Object")] 113

def k0c0 : Code := { maxStack := 0, maxLocals := 1, code := object_method_1_code, exceptionTable := #[], attributes := #[] }
def k0m0 : Method := { name := "<init>", desc := "()V", sig := { parameters := [], returnType := none }, accessFlags := 1, code := some k0c0 }
/-- java/lang/Object -/
def k0 : Class := { plain "java/lang/Object" none with
  accessFlags := 33
  interfaces := #[]
  cf := some (fileOf pool0 8 #[] #[{ accessFlags := 1, nameIndex := 5, descriptorIndex := 6, attributes := #[] }] 33 0 #[] #[])
  fields := #[]
  methods := #[k0m0]
  instanceTypes := #[]
  staticTypes := #[]
  resolved := Array.replicate 124 none
  statics := none }

def pool1 : Array CpInfo := pool [(2, .class_ 4), (1, u "java/lang/Object"), (0, u "<init>"), (0, u "()V"), (2, .long 9223372036854775807), (1, .long 32), (1, .methodref 14 15), (0, .class_ 16), (0, .nameAndType 17 18), (0, u "java/lang/Math"), (0, u "max"), (0, u "(JJ)J"), (0, .long 9223372036854775744), (1, .methodref 14 22), (0, .nameAndType 23 18), (0, u "min"), (0, .class_ 25), (0, u "com/example/throttld/throttld/SlidingLog$Log"), (0, .methodref 24 27), (0, .nameAndType 5 28), (0, u "(I)V"), (0, .long 8), (1, .methodref 24 32), (0, .nameAndType 33 34), (0, u "add"), (0, u "(JJ)V"), (0, .methodref 24 36), (0, .nameAndType 37 34), (0, u "dropAgedOut"), (0, .methodref 24 39), (0, .nameAndType 40 41), (0, u "oldest"), (0, u "()J"), (0, .methodref 24 43), (0, .nameAndType 44 41), (0, u "newest"), (0, .methodref 46 47), (0, .class_ 48), (0, .nameAndType 49 50), (0, u "com/example/throttld/throttld/LogDropAgedOutPinLaw"), (0, u "pick"), (0, u "(IJJJJ)J"), (2, u "law"), (0, u "(JJI)Z")] 7

def k1m0 : Method := { name := "<init>", desc := "()V", sig := { parameters := [], returnType := none }, accessFlags := 1, code := none }
def k1c1 : Code := { maxStack := 11, maxLocals := 30, code := code, exceptionTable := #[], attributes := #[] }
def k1m1 : Method := { name := "law", desc := "(JJI)Z", sig := { parameters := [.long, .long, .int], returnType := some .boolean }, accessFlags := 9, code := some k1c1 }
def k1c2 : Code := { maxStack := 2, maxLocals := 9, code := method_3_code, exceptionTable := #[], attributes := #[] }
def k1m2 : Method := { name := "pick", desc := "(IJJJJ)J", sig := { parameters := [.int, .long, .long, .long, .long], returnType := some .long }, accessFlags := 10, code := some k1c2 }
/-- com/example/throttld/throttld/LogDropAgedOutPinLaw -/
def k1 : Class := { plain "com/example/throttld/throttld/LogDropAgedOutPinLaw" (some 0) with
  accessFlags := 49
  interfaces := #[]
  cf := some (fileOf pool1 46 #[] #[{ accessFlags := 1, nameIndex := 5, descriptorIndex := 6, attributes := #[] }, { accessFlags := 9, nameIndex := 53, descriptorIndex := 54, attributes := #[] }, { accessFlags := 10, nameIndex := 49, descriptorIndex := 50, attributes := #[] }] 49 2 #[] #[])
  fields := #[]
  methods := #[k1m0, k1m1, k1m2]
  instanceTypes := #[]
  staticTypes := #[]
  resolved := Array.replicate 62 none
  statics := none }

def pool2 : Array CpInfo := pool [(1, .class_ 2), (0, u "java/lang/Math"), (1, .class_ 6), (1, u "java/lang/Object"), (0, u "<init>"), (0, u "()V"), (89, .class_ 100), (1, u "java/lang/Math$RandomNumberGeneratorHolder"), (20, u "(JJ)J"), (50, u "negativeZeroFloatBits"), (0, u "J"), (2, u "negativeZeroDoubleBits"), (21, u "max"), (2, u "min"), (43, u "$assertionsDisabled"), (0, u "Z"), (91, u "twoToTheDoubleScaleDown"), (0, u "D"), (4, u "twoToTheDoubleScaleUp"), (9, u "E"), (3, u "PI"), (2, u "TAU"), (2, u "DEGREES_TO_RADIANS"), (0, u "RADIANS_TO_DEGREES")] 94

def k2m0 : Method := { name := "<init>", desc := "()V", sig := { parameters := [], returnType := none }, accessFlags := 2, code := none }
def k2c1 : Code := { maxStack := 4, maxLocals := 4, code := jdk_29_method_66_code, exceptionTable := #[], attributes := #[] }
def k2m1 : Method := { name := "max", desc := "(JJ)J", sig := { parameters := [.long, .long], returnType := some .long }, accessFlags := 9, code := some k2c1 }
def k2c2 : Code := { maxStack := 4, maxLocals := 4, code := jdk_29_method_70_code, exceptionTable := #[], attributes := #[] }
def k2m2 : Method := { name := "min", desc := "(JJ)J", sig := { parameters := [.long, .long], returnType := some .long }, accessFlags := 9, code := some k2c2 }
/-- java/lang/Math -/
def k2 : Class := { plain "java/lang/Math" (some 0) with
  accessFlags := 49
  interfaces := #[]
  cf := some (fileOf pool2 1 #[.nestMembers #[98]] #[{ accessFlags := 2, nameIndex := 7, descriptorIndex := 8, attributes := #[] }, { accessFlags := 9, nameIndex := 198, descriptorIndex := 121, attributes := #[] }, { accessFlags := 9, nameIndex := 201, descriptorIndex := 121, attributes := #[] }] 49 4 #[] #[{ accessFlags := 25, nameIndex := 354, descriptorIndex := 339, attributes := #[] }, { accessFlags := 25, nameIndex := 358, descriptorIndex := 339, attributes := #[] }, { accessFlags := 25, nameIndex := 361, descriptorIndex := 339, attributes := #[] }, { accessFlags := 26, nameIndex := 364, descriptorIndex := 339, attributes := #[] }, { accessFlags := 26, nameIndex := 365, descriptorIndex := 339, attributes := #[] }, { accessFlags := 26, nameIndex := 172, descriptorIndex := 173, attributes := #[] }, { accessFlags := 26, nameIndex := 176, descriptorIndex := 173, attributes := #[] }, { accessFlags := 8, nameIndex := 344, descriptorIndex := 339, attributes := #[] }, { accessFlags := 8, nameIndex := 338, descriptorIndex := 339, attributes := #[] }, { accessFlags := 4120, nameIndex := 245, descriptorIndex := 246, attributes := #[] }])
  fields := #[{ name := "E", type := .double, accessFlags := 25, slot := 0, constantValue := 0 }, { name := "PI", type := .double, accessFlags := 25, slot := 1, constantValue := 0 }, { name := "TAU", type := .double, accessFlags := 25, slot := 2, constantValue := 0 }, { name := "DEGREES_TO_RADIANS", type := .double, accessFlags := 26, slot := 3, constantValue := 0 }, { name := "RADIANS_TO_DEGREES", type := .double, accessFlags := 26, slot := 4, constantValue := 0 }, { name := "negativeZeroFloatBits", type := .long, accessFlags := 26, slot := 5, constantValue := 0 }, { name := "negativeZeroDoubleBits", type := .long, accessFlags := 26, slot := 6, constantValue := 0 }, { name := "twoToTheDoubleScaleUp", type := .double, accessFlags := 8, slot := 7, constantValue := 0 }, { name := "twoToTheDoubleScaleDown", type := .double, accessFlags := 8, slot := 8, constantValue := 0 }, { name := "$assertionsDisabled", type := .boolean, accessFlags := 4120, slot := 9, constantValue := 0 }]
  methods := #[k2m0, k2m1, k2m2]
  instanceTypes := #[]
  staticTypes := #[.double, .double, .double, .double, .double, .long, .long, .double, .double, .boolean]
  resolved := Array.replicate 460 none
  statics := none }

def pool3 : Array CpInfo := pool [(1, .methodref 2 3), (0, .class_ 4), (0, .nameAndType 5 6), (0, u "java/lang/Object"), (0, u "<init>"), (0, u "()V"), (1, .class_ 10), (1, u "com/example/throttld/throttld/MemoryStore$Entry"), (0, u "atMs"), (0, u "J"), (0, u "BYTES"), (3, u "key"), (0, u "Ljava/lang/String;"), (0, u "hash"), (0, u "I"), (0, u "next"), (0, u "Lcom/example/throttld/throttld/MemoryStore$Entry;"), (7, .class_ 31), (0, u "com/example/throttld/throttld/MemoryStore")] 2

def k3c0 : Code := { maxStack := 1, maxLocals := 1, code := prog_22_method_1_code, exceptionTable := #[], attributes := #[] }
def k3m0 : Method := { name := "<init>", desc := "()V", sig := { parameters := [], returnType := none }, accessFlags := 0, code := some k3c0 }
/-- com/example/throttld/throttld/MemoryStore$Entry -/
def k3 : Class := { plain "com/example/throttld/throttld/MemoryStore$Entry" (some 0) with
  accessFlags := 1056
  interfaces := #[]
  cf := some (fileOf pool3 8 #[.nestHost 30] #[{ accessFlags := 0, nameIndex := 5, descriptorIndex := 6, attributes := #[] }] 1056 2 #[] #[{ accessFlags := 24, nameIndex := 13, descriptorIndex := 12, attributes := #[] }, { accessFlags := 2, nameIndex := 17, descriptorIndex := 18, attributes := #[] }, { accessFlags := 2, nameIndex := 19, descriptorIndex := 20, attributes := #[] }, { accessFlags := 2, nameIndex := 11, descriptorIndex := 12, attributes := #[] }, { accessFlags := 2, nameIndex := 21, descriptorIndex := 22, attributes := #[] }])
  fields := #[{ name := "BYTES", type := .long, accessFlags := 24, slot := 0, constantValue := 0 }, { name := "key", type := (.object "java/lang/String"), accessFlags := 2, slot := 0, constantValue := 0 }, { name := "hash", type := .int, accessFlags := 2, slot := 1, constantValue := 0 }, { name := "atMs", type := .long, accessFlags := 2, slot := 2, constantValue := 0 }, { name := "next", type := (.object "com/example/throttld/throttld/MemoryStore$Entry"), accessFlags := 2, slot := 3, constantValue := 0 }]
  methods := #[k3m0]
  instanceTypes := #[(.object "java/lang/String"), .int, .long, (.object "com/example/throttld/throttld/MemoryStore$Entry")]
  staticTypes := #[.long]
  resolved := Array.replicate 34 none
  statics := none }

def pool4 : Array CpInfo := pool [(1, .methodref 2 3), (0, .class_ 4), (0, .nameAndType 5 6), (0, u "com/example/throttld/throttld/MemoryStore$Entry"), (0, u "<init>"), (0, u "()V"), (0, .fieldref 8 9), (0, .class_ 10), (0, .nameAndType 11 12), (0, u "com/example/throttld/throttld/SlidingLog$Log"), (0, u "ring"), (0, u "[J"), (4, .fieldref 8 18), (0, .nameAndType 19 20), (0, u "head"), (0, u "I"), (0, .fieldref 8 22), (0, .nameAndType 23 20), (0, u "count"), (0, .methodref 8 25), (0, .nameAndType 26 27), (0, u "slot"), (0, u "(I)I"), (0, .long 2), (1, .methodref 31 32), (0, .class_ 33), (0, .nameAndType 34 35), (0, u "java/lang/Math"), (0, u "min"), (0, u "(JJ)J"), (0, u "(I)V"), (3, u "()J"), (0, u "oldest"), (0, u "newest"), (0, u "dropAgedOut"), (0, u "(JJ)V"), (1, u "add"), (4, .class_ 52), (0, u "com/example/throttld/throttld/SlidingLog")] 5

def k4c0 : Code := { maxStack := 2, maxLocals := 2, code := prog_33_method_1_code, exceptionTable := #[], attributes := #[] }
def k4m0 : Method := { name := "<init>", desc := "(I)V", sig := { parameters := [.int], returnType := none }, accessFlags := 0, code := some k4c0 }
def k4c1 : Code := { maxStack := 2, maxLocals := 1, code := prog_33_method_3_code, exceptionTable := #[], attributes := #[] }
def k4m1 : Method := { name := "oldest", desc := "()J", sig := { parameters := [], returnType := some .long }, accessFlags := 0, code := some k4c1 }
def k4c2 : Code := { maxStack := 4, maxLocals := 1, code := prog_33_method_4_code, exceptionTable := #[], attributes := #[] }
def k4m2 : Method := { name := "newest", desc := "()J", sig := { parameters := [], returnType := some .long }, accessFlags := 0, code := some k4c2 }
def k4c3 : Code := { maxStack := 4, maxLocals := 5, code := prog_33_method_5_code, exceptionTable := #[], attributes := #[] }
def k4m3 : Method := { name := "dropAgedOut", desc := "(JJ)V", sig := { parameters := [.long, .long], returnType := none }, accessFlags := 0, code := some k4c3 }
def k4c4 : Code := { maxStack := 6, maxLocals := 7, code := prog_33_method_6_code, exceptionTable := #[], attributes := #[] }
def k4m4 : Method := { name := "add", desc := "(JJ)V", sig := { parameters := [.long, .long], returnType := none }, accessFlags := 0, code := some k4c4 }
def k4c5 : Code := { maxStack := 2, maxLocals := 3, code := prog_33_method_7_code, exceptionTable := #[], attributes := #[] }
def k4m5 : Method := { name := "slot", desc := "(I)I", sig := { parameters := [.int], returnType := some .int }, accessFlags := 2, code := some k4c5 }
/-- com/example/throttld/throttld/SlidingLog$Log -/
def k4 : Class := { plain "com/example/throttld/throttld/SlidingLog$Log" (some 3) with
  accessFlags := 48
  interfaces := #[]
  cf := some (fileOf pool4 8 #[.nestHost 51] #[{ accessFlags := 0, nameIndex := 5, descriptorIndex := 36, attributes := #[] }, { accessFlags := 0, nameIndex := 41, descriptorIndex := 40, attributes := #[] }, { accessFlags := 0, nameIndex := 42, descriptorIndex := 40, attributes := #[] }, { accessFlags := 0, nameIndex := 43, descriptorIndex := 44, attributes := #[] }, { accessFlags := 0, nameIndex := 46, descriptorIndex := 44, attributes := #[] }, { accessFlags := 2, nameIndex := 26, descriptorIndex := 27, attributes := #[] }] 48 2 #[] #[{ accessFlags := 2, nameIndex := 11, descriptorIndex := 12, attributes := #[] }, { accessFlags := 2, nameIndex := 19, descriptorIndex := 20, attributes := #[] }, { accessFlags := 2, nameIndex := 23, descriptorIndex := 20, attributes := #[] }])
  fields := #[{ name := "ring", type := (.array .long), accessFlags := 2, slot := 4, constantValue := 0 }, { name := "head", type := .int, accessFlags := 2, slot := 5, constantValue := 0 }, { name := "count", type := .int, accessFlags := 2, slot := 6, constantValue := 0 }]
  methods := #[k4m0, k4m1, k4m2, k4m3, k4m4, k4m5]
  instanceTypes := #[(.object "java/lang/String"), .int, .long, (.object "com/example/throttld/throttld/MemoryStore$Entry"), (.array .long), .int, .int]
  staticTypes := #[]
  resolved := Array.replicate 58 none
  statics := none }

def pool5 : Array CpInfo := pool [(1, u "java/lang/Cloneable"), (0, .class_ 1), (0, u "java/lang/Object"), (0, .class_ 3)] 3

/-- java/lang/Cloneable -/
def k5 : Class := { plain "java/lang/Cloneable" (some 0) with
  accessFlags := 1537
  interfaces := #[]
  cf := some (fileOf pool5 2 #[] #[] 1537 4 #[] #[])
  fields := #[]
  methods := #[]
  instanceTypes := #[]
  staticTypes := #[]
  resolved := Array.replicate 8 none
  statics := none }

def pool6 : Array CpInfo := pool [(1, u "java/io/Serializable"), (0, .class_ 1), (0, u "java/lang/Object"), (0, .class_ 3)] 3

/-- java/io/Serializable -/
def k6 : Class := { plain "java/io/Serializable" (some 0) with
  accessFlags := 1537
  interfaces := #[]
  cf := some (fileOf pool6 2 #[] #[] 1537 4 #[] #[])
  fields := #[]
  methods := #[]
  instanceTypes := #[]
  staticTypes := #[]
  resolved := Array.replicate 8 none
  statics := none }

/-- the primitive byte -/
def k7 : Class := { plain "byte" none with kind := .primitive 'B', accessFlags := 0x411 }
/-- [B -/
def k8 : Class := { plain "[B" (some 0) with kind := .array 7 .byte, interfaces := #[5, 6], accessFlags := 1041 }

/-- the primitive int -/
def k9 : Class := { plain "int" none with kind := .primitive 'I', accessFlags := 0x411 }
/-- [I -/
def k10 : Class := { plain "[I" (some 0) with kind := .array 9 .int, interfaces := #[5, 6], accessFlags := 1041 }

/-- the primitive long -/
def k11 : Class := { plain "long" none with kind := .primitive 'J', accessFlags := 0x411 }
/-- [J -/
def k12 : Class := { plain "[J" (some 0) with kind := .array 11 .long, interfaces := #[5, 6], accessFlags := 1041 }

def heap : Heap := #[]
def classes : Array Class := #[k0, k1, k2, k3, k4, k5, k6, k7, k8, k9, k10, k11, k12]
def interned : List (Array UInt16 × Addr) := []
def slotsUsed : Nat := 0
def theMethod : MethodId := ⟨1, 1⟩
def args0 : Array Value := #[.long 5, .long 6, .int 5]
def aboutOver (below : List Frame) : State where
  vm := { classes := classes, interned := interned.toArray }
  heap := heap
  slotsUsed := slotsUsed
  threads := #[{ frames := .invoking theMethod args0 :: below }]
def below0 : List Frame := [.native { method := ⟨0, 0⟩, args := #[] }]
def about1 : State := aboutOver below0
def p0 : Program := .bare "" "" ""
def e0 : Env := launch0.env 0 0 0
theorem w_frames : about1.frames = Frame.invoking theMethod args0 :: below0 := rfl
set_option maxRecDepth 65536 in
theorem w_args : argsFit about1.vm theMethod args0 = true := by decide +kernel
set_option maxRecDepth 65536 in
theorem w_heap : heapFits about1 = true := by decide +kernel
set_option maxRecDepth 65536 in
theorem w_runnable : about1.curStatus? = some .runnable := by decide +kernel
set_option maxRecDepth 65536 in
theorem w_alone : about1.alone = true := by decide +kernel
set_option maxRecDepth 65536 in
theorem w_named : about1.methodNamed? x = some theMethod := by decide +kernel
set_option maxRecDepth 65536 in
theorem w_hears : about1.hears theMethod below0 = true := by decide +kernel
set_option maxRecDepth 65536 in
theorem w_ripe : about1.ripe theMethod args0 below0 = true := by decide +kernel
theorem w_running : about1.status = .running := rfl
set_option maxRecDepth 65536 in
theorem w_room : about1.hasRoom e0.platform room_1 = true :=
  launch0.hasRoom_least _ room_1 (by decide +kernel) (by decide +kernel) (by decide +kernel) (by decide +kernel) (by decide +kernel) (by decide +kernel)
theorem allAtoms_all (ts : List Jvm.Cond) (a : Array Jvm.Value) (st : Jvm.State) : (allAtoms ts).before a st = ts.all (fun c => c.before a st) := by
  induction ts with
  | nil => rfl
  | cons c t ih =>
    show (Jvm.Cond.and c (allAtoms t)).before a st = _
    rw [Jvm.Cond.before_and, ih, List.all_cons]
def words1 : List Jvm.Cond := Jvm.Cond.code x code maxLocals ret :: tables_1
/-- a 'code' word, met by the world's own term for the bytes: nothing is compared byte by byte -/
theorem code_word {y : MethodName} {bytes : ByteArray} {mx : Nat} {rt : Option FieldType} {a : Array Value} {s : State} {m : MethodId} {meth : Method} {c : Code} (h1 : s.methodNamed? y = some m) (h2 : s.vm.method? m = some meth) (h3 : meth.code = some c) (h4 : c.code = bytes)
    (h5 : (c.maxLocals == mx && c.exceptionTable.isEmpty && decide (c.maxStack ≤ mostOperands) && decide (meth.sig.returnType = rt) && !meth.locks && decide (parseMethodDescriptor y.desc = some meth.sig)) = true) : (Jvm.Cond.code y bytes mx rt).before a s = true := by
  simp only [Bool.and_eq_true, beq_iff_eq, Bool.not_eq_true', decide_eq_true_eq] at h5
  obtain ⟨⟨⟨⟨⟨g1, g2⟩, g3⟩, g4⟩, g5⟩, g6⟩ := h5
  simp [Cond.before, Cond.holds, Cond.value, h1, h2, h3, h4, g1, g2, g3, g4, g5, g6]
def isCode : Jvm.Cond → Bool
  | .code _ _ _ _ => true
  | _ => false
theorem all_split {L : List Jvm.Cond} {P : Jvm.Cond → Bool} (h1 : L.all (fun c => isCode c || P c) = true) (h2 : ∀ c ∈ L.filter isCode, P c = true) : L.all P = true := by
  refine List.all_eq_true.mpr fun c hc => ?_
  have h := List.all_eq_true.mp h1 c hc
  rcases Bool.eq_false_or_eq_true (isCode c) with hi | hi
  · exact h2 c (List.mem_filter.mpr ⟨hc, hi⟩)
  · simpa [hi] using h
set_option maxRecDepth 65536 in
theorem w_c0 : (Jvm.Cond.code x code maxLocals ret).before args0 about1 = true := code_word (m := ⟨1, 1⟩) (meth := k1m1) (c := k1c1) (by decide +kernel) rfl rfl rfl (by decide +kernel)
set_option maxRecDepth 65536 in
theorem w_c1 : (Jvm.Cond.code ({ cls := "java/lang/Math", name := "max", desc := "(JJ)J" } : Jvm.MethodName) jdk_29_method_66_code (4 : Nat) (Option.some Jvm.ClassFile.FieldType.long)).before args0 about1 = true := code_word (m := ⟨2, 1⟩) (meth := k2m1) (c := k2c1) (by decide +kernel) rfl rfl rfl (by decide +kernel)
set_option maxRecDepth 65536 in
theorem w_c2 : (Jvm.Cond.code ({ cls := "java/lang/Math", name := "min", desc := "(JJ)J" } : Jvm.MethodName) jdk_29_method_70_code (4 : Nat) (Option.some Jvm.ClassFile.FieldType.long)).before args0 about1 = true := code_word (m := ⟨2, 2⟩) (meth := k2m2) (c := k2c2) (by decide +kernel) rfl rfl rfl (by decide +kernel)
set_option maxRecDepth 65536 in
theorem w_c3 : (Jvm.Cond.code ({ cls := "com/example/throttld/throttld/SlidingLog$Log", name := "<init>", desc := "(I)V" } : Jvm.MethodName) prog_33_method_1_code (2 : Nat) (Option.none : Option Jvm.ClassFile.FieldType)).before args0 about1 = true := code_word (m := ⟨4, 0⟩) (meth := k4m0) (c := k4c0) (by decide +kernel) rfl rfl rfl (by decide +kernel)
set_option maxRecDepth 65536 in
theorem w_c4 : (Jvm.Cond.code ({ cls := "com/example/throttld/throttld/MemoryStore$Entry", name := "<init>", desc := "()V" } : Jvm.MethodName) prog_22_method_1_code (1 : Nat) (Option.none : Option Jvm.ClassFile.FieldType)).before args0 about1 = true := code_word (m := ⟨3, 0⟩) (meth := k3m0) (c := k3c0) (by decide +kernel) rfl rfl rfl (by decide +kernel)
set_option maxRecDepth 65536 in
theorem w_c5 : (Jvm.Cond.code ({ cls := "java/lang/Object", name := "<init>", desc := "()V" } : Jvm.MethodName) object_method_1_code (1 : Nat) (Option.none : Option Jvm.ClassFile.FieldType)).before args0 about1 = true := code_word (m := ⟨0, 0⟩) (meth := k0m0) (c := k0c0) (by decide +kernel) rfl rfl rfl (by decide +kernel)
set_option maxRecDepth 65536 in
theorem w_c6 : (Jvm.Cond.code ({ cls := "com/example/throttld/throttld/SlidingLog$Log", name := "dropAgedOut", desc := "(JJ)V" } : Jvm.MethodName) prog_33_method_5_code (5 : Nat) (Option.none : Option Jvm.ClassFile.FieldType)).before args0 about1 = true := code_word (m := ⟨4, 3⟩) (meth := k4m3) (c := k4c3) (by decide +kernel) rfl rfl rfl (by decide +kernel)
set_option maxRecDepth 65536 in
theorem w_c7 : (Jvm.Cond.code ({ cls := "com/example/throttld/throttld/SlidingLog$Log", name := "add", desc := "(JJ)V" } : Jvm.MethodName) prog_33_method_6_code (7 : Nat) (Option.none : Option Jvm.ClassFile.FieldType)).before args0 about1 = true := code_word (m := ⟨4, 4⟩) (meth := k4m4) (c := k4c4) (by decide +kernel) rfl rfl rfl (by decide +kernel)
set_option maxRecDepth 65536 in
theorem w_c8 : (Jvm.Cond.code ({ cls := "com/example/throttld/throttld/SlidingLog$Log", name := "slot", desc := "(I)I" } : Jvm.MethodName) prog_33_method_7_code (3 : Nat) (Option.some Jvm.ClassFile.FieldType.int)).before args0 about1 = true := code_word (m := ⟨4, 5⟩) (meth := k4m5) (c := k4c5) (by decide +kernel) rfl rfl rfl (by decide +kernel)
set_option maxRecDepth 65536 in
theorem w_c9 : (Jvm.Cond.code ({ cls := "com/example/throttld/throttld/SlidingLog$Log", name := "oldest", desc := "()J" } : Jvm.MethodName) prog_33_method_3_code (1 : Nat) (Option.some Jvm.ClassFile.FieldType.long)).before args0 about1 = true := code_word (m := ⟨4, 1⟩) (meth := k4m1) (c := k4c1) (by decide +kernel) rfl rfl rfl (by decide +kernel)
set_option maxRecDepth 65536 in
theorem w_c10 : (Jvm.Cond.code ({ cls := "com/example/throttld/throttld/SlidingLog$Log", name := "newest", desc := "()J" } : Jvm.MethodName) prog_33_method_4_code (1 : Nat) (Option.some Jvm.ClassFile.FieldType.long)).before args0 about1 = true := code_word (m := ⟨4, 2⟩) (meth := k4m2) (c := k4c2) (by decide +kernel) rfl rfl rfl (by decide +kernel)
set_option maxRecDepth 65536 in
theorem w_c11 : (Jvm.Cond.code ({ cls := "com/example/throttld/throttld/LogDropAgedOutPinLaw", name := "pick", desc := "(IJJJJ)J" } : Jvm.MethodName) method_3_code (9 : Nat) (Option.some Jvm.ClassFile.FieldType.long)).before args0 about1 = true := code_word (m := ⟨1, 2⟩) (meth := k1m2) (c := k1c2) (by decide +kernel) rfl rfl rfl (by decide +kernel)
def codes1 : List Jvm.Cond := [Jvm.Cond.code x code maxLocals ret, Jvm.Cond.code ({ cls := "java/lang/Math", name := "max", desc := "(JJ)J" } : Jvm.MethodName) jdk_29_method_66_code (4 : Nat) (Option.some Jvm.ClassFile.FieldType.long), Jvm.Cond.code ({ cls := "java/lang/Math", name := "min", desc := "(JJ)J" } : Jvm.MethodName) jdk_29_method_70_code (4 : Nat) (Option.some Jvm.ClassFile.FieldType.long), Jvm.Cond.code ({ cls := "com/example/throttld/throttld/SlidingLog$Log", name := "<init>", desc := "(I)V" } : Jvm.MethodName) prog_33_method_1_code (2 : Nat) (Option.none : Option Jvm.ClassFile.FieldType), Jvm.Cond.code ({ cls := "com/example/throttld/throttld/MemoryStore$Entry", name := "<init>", desc := "()V" } : Jvm.MethodName) prog_22_method_1_code (1 : Nat) (Option.none : Option Jvm.ClassFile.FieldType), Jvm.Cond.code ({ cls := "java/lang/Object", name := "<init>", desc := "()V" } : Jvm.MethodName) object_method_1_code (1 : Nat) (Option.none : Option Jvm.ClassFile.FieldType), Jvm.Cond.code ({ cls := "com/example/throttld/throttld/SlidingLog$Log", name := "dropAgedOut", desc := "(JJ)V" } : Jvm.MethodName) prog_33_method_5_code (5 : Nat) (Option.none : Option Jvm.ClassFile.FieldType), Jvm.Cond.code ({ cls := "com/example/throttld/throttld/SlidingLog$Log", name := "add", desc := "(JJ)V" } : Jvm.MethodName) prog_33_method_6_code (7 : Nat) (Option.none : Option Jvm.ClassFile.FieldType), Jvm.Cond.code ({ cls := "com/example/throttld/throttld/SlidingLog$Log", name := "slot", desc := "(I)I" } : Jvm.MethodName) prog_33_method_7_code (3 : Nat) (Option.some Jvm.ClassFile.FieldType.int), Jvm.Cond.code ({ cls := "com/example/throttld/throttld/SlidingLog$Log", name := "oldest", desc := "()J" } : Jvm.MethodName) prog_33_method_3_code (1 : Nat) (Option.some Jvm.ClassFile.FieldType.long), Jvm.Cond.code ({ cls := "com/example/throttld/throttld/SlidingLog$Log", name := "newest", desc := "()J" } : Jvm.MethodName) prog_33_method_4_code (1 : Nat) (Option.some Jvm.ClassFile.FieldType.long), Jvm.Cond.code ({ cls := "com/example/throttld/throttld/LogDropAgedOutPinLaw", name := "pick", desc := "(IJJJJ)J" } : Jvm.MethodName) method_3_code (9 : Nat) (Option.some Jvm.ClassFile.FieldType.long)]
set_option maxRecDepth 65536 in
theorem codes_eq : words1.filter isCode = codes1 := rfl
theorem w_codes : ∀ c ∈ words1.filter isCode, c.before args0 about1 = true := by
  rw [codes_eq]
  intro c hc
  simp only [codes1, List.mem_cons, List.not_mem_nil, or_false] at hc
  rcases hc with rfl | rfl | rfl | rfl | rfl | rfl | rfl | rfl | rfl | rfl | rfl | rfl
  · exact w_c0
  · exact w_c1
  · exact w_c2
  · exact w_c3
  · exact w_c4
  · exact w_c5
  · exact w_c6
  · exact w_c7
  · exact w_c8
  · exact w_c9
  · exact w_c10
  · exact w_c11
set_option maxRecDepth 65536 in
theorem w_t1 : (words1.take 24).all (fun c => isCode c || c.before args0 about1) = true := by decide +kernel
set_option maxRecDepth 65536 in
theorem w_t2 : ((words1.drop 24).take 24).all (fun c => isCode c || c.before args0 about1) = true := by decide +kernel
set_option maxRecDepth 65536 in
theorem w_t3 : ((words1.drop 24).drop 24).all (fun c => isCode c || c.before args0 about1) = true := by decide +kernel
theorem w_tables : (allAtoms (Jvm.Cond.code x code maxLocals ret :: tables_1)).before args0 about1 = true := by
  rw [allAtoms_all]
  show words1.all (fun c => c.before args0 about1) = true
  refine all_split ?_ w_codes
  rw [← List.take_append_drop 24 words1, List.all_append, w_t1, ← List.take_append_drop 24 (words1.drop 24), List.all_append, w_t2, w_t3]
  rfl
set_option maxRecDepth 65536 in
theorem w_case : (Jvm.Cond.and given_1 narrow_1).before args0 about1 = true := by decide +kernel
theorem w_applies : (headSpec (Jvm.Cond.code x code maxLocals ret :: tables_1) room_1).applies x e0.platform about1 = true :=
  (Spec.applies_iff w_frames).mpr ⟨w_running, w_runnable, w_alone, w_named, w_hears, w_ripe, w_room, w_tables⟩
theorem atStart : AtStart classFile x code maxLocals ret World_1 tables_1 room_1 Calls_1 rest_1 Pre_1 launch0 p0 e0 about1 theMethod args0 below0 :=
  ⟨lists_1, trivial, launch0.admits_env _ _ _, launch0.least_env, fairChoices_fair.cas, fairChoices_fair.clock, w_frames, w_args, w_heap, w_applies, trivial, trivial, w_case⟩
end start1
theorem witness_1 : WitnessClaimed_1 := ⟨start1.p0, start1.e0, start1.about1, start1.theMethod, start1.args0, start1.below0, start1.atStart⟩
end Jvm.Pilot.@@N@@
