import JvmDerived
import JvmDerived.Pilot.@@N@@Statement
import JvmDerived.Pilot.@@N@@Code
set_option linter.unusedVariables false
set_option linter.unusedSimpArgs false
@@BLOCK:NumsL.lean.txt@@
namespace Jvm.Pilot.@@N@@
open Jvm Jvm.ClassFile Sem Op Lib Jvm.Free Jvm.Stand Jvm.LawKit Jvm.RoadKit Bundle Jvm.Pilot.@@N@@.Jvm.D
section OwnLayer
/-- the surroundings of a walk: what stays the same from step to step -/
def Cx (p : Program) (s : State) (m : MethodId) (meth : Method) (c : Code) (Z : State) (own : String) (bs : ByteArray) (mx : Nat) (rt : Option FieldType) (nm : String) : Prop :=
  p.tables.exec = Jvm.exec ∧ c.code = bs ∧ c.maxLocals = mx ∧ Z.Warmed39 s.vm ∧ s.vm.findClass own = some m.cls ∧ meth.sig.returnType = rt ∧ meth.locks = false ∧ meth.name = nm
/-- wherever the walk stands with heap h and top frame g, it comes to its end, and Q holds there -/
def Go (p : Program) (l : Launch) (e : Env) (R : Room) (s : State) (m : MethodId) (args : Array Value) (below : List Frame) (meth : Method) (c : Code) (n0 : Nat) (Q : Option Value → Heap → Prop) (K N : Nat) (h : Heap) (ce sl : Nat) (g : JFrame) : Prop :=
  ∀ (T : State) (locs : List Loc), Stand p l e R s m args below meth c T locs ce sl → T.heap = h → Fr n0 locs →
    ∃ s₂ o, Steps p.tables e below (T.setTop g) s₂ ∧ s₂.status = .running ∧ Ended s₂ below o ∧ ∃ v L, o = .returned v ∧ (Q v s₂.heap ∧ Fr n0 L) ∧ FrameEnd s o s₂ L K N
/-- a method's contract, for given arguments and a given heap -/
def Sat (l : Launch) (Z : State) (y : MethodName) (bs : ByteArray) (mx : Nat) (rt : Option FieldType) (rm : Room) (as : List Value) (h0 : Heap) (n0 : Nat) (Q : Option Value → Heap → Prop) : Prop :=
  ∀ ws : List Jvm.Cond, MetFree l y (head1 (Jvm.Cond.code y bs mx rt :: ws) rm) (fun a U => a = as.toArray ∧ Z.Warmed39 U.vm ∧ U.heap = h0) (fun _ _ _ _ _ => True) (fun _ U o U' => ∃ v L, o = .returned v ∧ (Q v U'.heap ∧ Fr n0 L) ∧ FrameEnd U o U' L rm.cells rm.slots)
def RV (P : Value → Heap → Prop) : Option Value → Heap → Prop := fun v h => ∃ r, v = some r ∧ P r h
def RN (P : Heap → Prop) : Option Value → Heap → Prop := fun v h => v = none ∧ P h
def wt (st : List Value) : Nat := (st.map fun v => v.category).sum
def bi (P : Prop) [Decidable P] : Int32 := if P then 1 else 0
theorem bi_t {P : Prop} [Decidable P] (h : P) : bi P = 1 := if_pos h
theorem bi_f {P : Prop} [Decidable P] (h : ¬ P) : bi P = 0 := if_neg h
theorem bi1 {P : Prop} [Decidable P] (h : P) : (1 : Int32) = bi P := (if_pos h).symm
theorem bi0 {P : Prop} [Decidable P] (h : ¬ P) : (0 : Int32) = bi P := (if_neg h).symm
theorem bi_congr {P P' : Prop} [Decidable P] [Decidable P'] (h : P ↔ P') : bi P = bi P' := by
  by_cases q : P
  · rw [bi_t q, bi_t (h.mp q)]
  · rw [bi_f q, bi_f fun z => q (h.mpr z)]
theorem bi_nar (P : Prop) [Decidable P] : nar .boolean (bi P) = bi P := by
  by_cases q : P
  · rw [bi_t q]; rfl
  · rw [bi_f q]; rfl
theorem bi_inj {P P' : Prop} [Decidable P] [Decidable P'] (h : bi P = bi P') : P ↔ P' := by
  by_cases q : P <;> by_cases q' : P' <;> simp_all [bi]
theorem bi_narrow (P : Prop) [Decidable P] : narrow .boolean (.int (bi P)) = .int (bi P) := by
  by_cases q : P
  · rw [bi_t q]; rfl
  · rw [bi_f q]; rfl
theorem bi_fits (P : Prop) [Decidable P] : fits .boolean (.int (bi P)) = true := by
  by_cases q : P
  · rw [bi_t q]; rfl
  · rw [bi_f q]; rfl
theorem bi_toInt (P : Prop) [Decidable P] : (bi P).toInt = if P then 1 else 0 := by
  by_cases q : P
  · rw [bi_t q, if_pos q]; rfl
  · rw [bi_f q, if_neg q]; rfl
theorem own_add_t {P : Prop} [Decidable P] (n : Int32) (h : P) : n + 1 = n + bi P := by rw [bi_t h]
theorem own_add_f {P : Prop} [Decidable P] (n : Int32) (h : ¬ P) : n = n + bi P := by rw [bi_f h, Int32.add_zero]
theorem own_narrow_arr {v : Value} {t : FieldType} (h : v.isRef = true) : narrow (.array t) v = v := by
  cases v <;> first | rfl | simp [Value.isRef] at h
theorem own_fits_arr {v : Value} {t : FieldType} (h : v.isRef = true) : fits (.array t) v = true := by
  cases v <;> first | rfl | simp [Value.isRef] at h
theorem own_bb (x : Int32) : x.toInt8.toInt32.toInt8.toInt32 = x.toInt8.toInt32 := by simp
theorem own_ne_new {h : Heap} {a b : Addr} (q : b < h.size) (g : h.size = a) : b ≠ a := Nat.ne_of_lt (g ▸ q)
theorem own_ge {h : Heap} {a : Addr} {n : Nat} (q : n ≤ h.size) (g : h.size = a) : n ≤ a := g ▸ q
theorem int_eq {x y : Int32} (h : x.toInt = y.toInt) : x = y := Int32.toInt_inj.mp h
theorem long_eq {x y : Int64} (h : x.toInt = y.toInt) : x = y := Int64.toInt_inj.mp h
section Walk
variable {p : Program} {l : Launch} {e : Env} {R : Room} {s : State} {m : MethodId} {args : Array Value} {below : List Frame} {meth : Method} {c : Code} {Z : State} {a0 : Array Value} {own : String} {bs : ByteArray} {mx : Nat} {rt : Option FieldType} {nm : String} {n0 : Nat} {Q : Option Value → Heap → Prop} {K N : Nat} {h : Heap} {ce sl : Nat} {pc pc' : Nat} {Ls Ls' : Array Slot} {st : List Value} {g g' : JFrame}
theorem Go.step (H : ∀ (T : State), At T m c below → ∀ target, Steps p.tables e below (T.setTop g') target → Steps p.tables e below (T.setTop g) target) (hr : Go p l e R s m args below meth c n0 Q K N h ce sl g') : Go p l e R s m args below meth c n0 Q K N h ce sl g := fun T locs X eT Nn => by
  obtain ⟨s₂, o, h1, r⟩ := hr T locs X eT Nn
  exact ⟨s₂, o, H T X.here _ h1, r⟩
theorem Go.stepX (H : ∀ (T : State) (locs : List Loc), Stand p l e R s m args below meth c T locs ce sl → T.heap = h → ∀ target, Steps p.tables e below (T.setTop g') target → Steps p.tables e below (T.setTop g) target) (hr : Go p l e R s m args below meth c n0 Q K N h ce sl g') : Go p l e R s m args below meth c n0 Q K N h ce sl g := fun T locs X eT Nn => by
  obtain ⟨s₂, o, h1, r⟩ := hr T locs X eT Nn
  exact ⟨s₂, o, H T locs X eT _ h1, r⟩
theorem Go.more {ce' sl' : Nat} (hc : ce ≤ ce') (hs : sl ≤ sl') (hr : Go p l e R s m args below meth c n0 Q K N h ce' sl' g) : Go p l e R s m args below meth c n0 Q K N h ce sl g := fun T locs X eT Nn => hr T locs (X.more hc hs) eT Nn
theorem go_iloadN (C : Cx p s m meth c Z own bs mx rt nm) {k : Fin 4} {v : Int32} (hd : decode bs pc = .ok (.iload_n k, 1)) (hp : pc + 1 = pc') (hl : Ls[k.val]? = some (.val (.int v))) (hr : Go p l e R s m args below meth c n0 Q K N h ce sl (mkF m pc' Ls (.int v :: st))) : Go p l e R s m args below meth c n0 Q K N h ce sl (mkF m pc Ls st) := by
  subst hp
  exact Go.step (fun T A _ q => XS.iloadN A C.1 rfl (hb C.2.1 hd) hl q) hr
theorem go_iload (C : Cx p s m meth c Z own bs mx rt nm) {k : Nat} {v : Int32} (hd : decode bs pc = .ok (.iload k, 2)) (hp : pc + 2 = pc') (hl : Ls[k]? = some (.val (.int v))) (hr : Go p l e R s m args below meth c n0 Q K N h ce sl (mkF m pc' Ls (.int v :: st))) : Go p l e R s m args below meth c n0 Q K N h ce sl (mkF m pc Ls st) := by
  subst hp
  exact Go.step (fun T A _ q => XS.iload A C.1 rfl (hb C.2.1 hd) hl q) hr
theorem go_lloadN (C : Cx p s m meth c Z own bs mx rt nm) {k : Fin 4} {v : Int64} (hd : decode bs pc = .ok (.lload_n k, 1)) (hp : pc + 1 = pc') (hl : Ls[k.val]? = some (.val (.long v))) (hr : Go p l e R s m args below meth c n0 Q K N h ce sl (mkF m pc' Ls (.long v :: st))) : Go p l e R s m args below meth c n0 Q K N h ce sl (mkF m pc Ls st) := by
  subst hp
  exact Go.step (fun T A _ q => XT.lloadN A C.1 rfl (hb C.2.1 hd) hl q) hr
theorem go_lload (C : Cx p s m meth c Z own bs mx rt nm) {k : Nat} {v : Int64} (hd : decode bs pc = .ok (.lload k, 2)) (hp : pc + 2 = pc') (hl : Ls[k]? = some (.val (.long v))) (hr : Go p l e R s m args below meth c n0 Q K N h ce sl (mkF m pc' Ls (.long v :: st))) : Go p l e R s m args below meth c n0 Q K N h ce sl (mkF m pc Ls st) := by
  subst hp
  exact Go.step (fun T A _ q => XT.lload A C.1 rfl (hb C.2.1 hd) hl q) hr
theorem go_aloadN (C : Cx p s m meth c Z own bs mx rt nm) {k : Fin 4} {v : Value} (hd : decode bs pc = .ok (.aload_n k, 1)) (hp : pc + 1 = pc') (hl : Ls[k.val]? = some (.val v)) (hv : v.isRef = true) (hr : Go p l e R s m args below meth c n0 Q K N h ce sl (mkF m pc' Ls (v :: st))) : Go p l e R s m args below meth c n0 Q K N h ce sl (mkF m pc Ls st) := by
  subst hp
  exact Go.step (fun T A _ q => XS.aloadN A C.1 rfl (hb C.2.1 hd) hl hv q) hr
theorem go_aload (C : Cx p s m meth c Z own bs mx rt nm) {k : Nat} {v : Value} (hd : decode bs pc = .ok (.aload k, 2)) (hp : pc + 2 = pc') (hl : Ls[k]? = some (.val v)) (hv : v.isRef = true) (hr : Go p l e R s m args below meth c n0 Q K N h ce sl (mkF m pc' Ls (v :: st))) : Go p l e R s m args below meth c n0 Q K N h ce sl (mkF m pc Ls st) := by
  subst hp
  exact Go.step (fun T A _ q => XS.aload A C.1 rfl (hb C.2.1 hd) hl hv q) hr
theorem go_istoreN (C : Cx p s m meth c Z own bs mx rt nm) {k : Fin 4} {v : Int32} (hd : decode bs pc = .ok (.istore_n k, 1)) (hp : pc + 1 = pc') (hl : storeLocals Ls k.val (.int v) = some Ls') (hr : Go p l e R s m args below meth c n0 Q K N h ce sl (mkF m pc' Ls' st)) : Go p l e R s m args below meth c n0 Q K N h ce sl (mkF m pc Ls (.int v :: st)) := by
  subst hp
  exact Go.step (fun T A _ q => XS.istoreN A C.1 rfl (hb C.2.1 hd) rfl hl q) hr
theorem go_istore (C : Cx p s m meth c Z own bs mx rt nm) {k : Nat} {v : Int32} (hd : decode bs pc = .ok (.istore k, 2)) (hp : pc + 2 = pc') (hl : storeLocals Ls k (.int v) = some Ls') (hr : Go p l e R s m args below meth c n0 Q K N h ce sl (mkF m pc' Ls' st)) : Go p l e R s m args below meth c n0 Q K N h ce sl (mkF m pc Ls (.int v :: st)) := by
  subst hp
  exact Go.step (fun T A _ q => XS.istore A C.1 rfl (hb C.2.1 hd) rfl hl q) hr
theorem go_lstoreN (C : Cx p s m meth c Z own bs mx rt nm) {k : Fin 4} {v : Int64} (hd : decode bs pc = .ok (.lstore_n k, 1)) (hp : pc + 1 = pc') (hl : storeLocals Ls k.val (.long v) = some Ls') (hr : Go p l e R s m args below meth c n0 Q K N h ce sl (mkF m pc' Ls' st)) : Go p l e R s m args below meth c n0 Q K N h ce sl (mkF m pc Ls (.long v :: st)) := by
  subst hp
  exact Go.step (fun T A _ q => XT.lstoreN A C.1 rfl (hb C.2.1 hd) rfl hl q) hr
theorem go_lstore (C : Cx p s m meth c Z own bs mx rt nm) {k : Nat} {v : Int64} (hd : decode bs pc = .ok (.lstore k, 2)) (hp : pc + 2 = pc') (hl : storeLocals Ls k (.long v) = some Ls') (hr : Go p l e R s m args below meth c n0 Q K N h ce sl (mkF m pc' Ls' st)) : Go p l e R s m args below meth c n0 Q K N h ce sl (mkF m pc Ls (.long v :: st)) := by
  subst hp
  exact Go.step (fun T A _ q => XT.lstore A C.1 rfl (hb C.2.1 hd) rfl hl q) hr
theorem go_astoreN (C : Cx p s m meth c Z own bs mx rt nm) {k : Fin 4} {v : Value} (hd : decode bs pc = .ok (.astore_n k, 1)) (hp : pc + 1 = pc') (hv : v.isRef = true) (hl : storeLocals Ls k.val v = some Ls') (hr : Go p l e R s m args below meth c n0 Q K N h ce sl (mkF m pc' Ls' st)) : Go p l e R s m args below meth c n0 Q K N h ce sl (mkF m pc Ls (v :: st)) := by
  subst hp
  exact Go.step (fun T A _ q => XS.astoreN A C.1 rfl (hb C.2.1 hd) rfl hv hl q) hr
theorem go_astore (C : Cx p s m meth c Z own bs mx rt nm) {k : Nat} {v : Value} (hd : decode bs pc = .ok (.astore k, 2)) (hp : pc + 2 = pc') (hv : v.isRef = true) (hl : storeLocals Ls k v = some Ls') (hr : Go p l e R s m args below meth c n0 Q K N h ce sl (mkF m pc' Ls' st)) : Go p l e R s m args below meth c n0 Q K N h ce sl (mkF m pc Ls (v :: st)) := by
  subst hp
  exact Go.step (fun T A _ q => XS.astore A C.1 rfl (hb C.2.1 hd) rfl hv hl q) hr
theorem go_istoreS (C : Cx p s m meth c Z own bs mx rt nm) {k : Nat} {v : Int32} {o : Slot} (hd : decode bs pc = .ok (.istore k, 2)) (hp : pc + 2 = pc') (hold : Ls[k]? = some o) (ho : One o) (hL : Ls.setIfInBounds k (.val (.int v)) = Ls') (hr : Go p l e R s m args below meth c n0 Q K N h ce sl (mkF m pc' Ls' st)) : Go p l e R s m args below meth c n0 Q K N h ce sl (mkF m pc Ls (.int v :: st)) := by
  subst hp hL
  exact Go.step (fun T A _ q => XS.istoreS A C.1 rfl (hb C.2.1 hd) rfl hold ho q) hr
theorem go_istoreNS (C : Cx p s m meth c Z own bs mx rt nm) {k : Fin 4} {v : Int32} {o : Slot} (hd : decode bs pc = .ok (.istore_n k, 1)) (hp : pc + 1 = pc') (hold : Ls[k.val]? = some o) (ho : One o) (hL : Ls.setIfInBounds k.val (.val (.int v)) = Ls') (hr : Go p l e R s m args below meth c n0 Q K N h ce sl (mkF m pc' Ls' st)) : Go p l e R s m args below meth c n0 Q K N h ce sl (mkF m pc Ls (.int v :: st)) := by
  subst hp hL
  exact Go.step (fun T A _ q => XS.istoreNS A C.1 rfl (hb C.2.1 hd) rfl hold ho q) hr
theorem go_iconst (C : Cx p s m meth c Z own bs mx rt nm) {i : Int} (v : Int32) (hd : decode bs pc = .ok (.iconst i, 1)) (hp : pc + 1 = pc') (hv : Int32.ofInt i = v) (hr : Go p l e R s m args below meth c n0 Q K N h ce sl (mkF m pc' Ls (.int v :: st))) : Go p l e R s m args below meth c n0 Q K N h ce sl (mkF m pc Ls st) := by
  subst hp
  exact Go.step (fun T A _ q => XT.iconstV A C.1 rfl v (hb C.2.1 hd) hv q) hr
theorem go_bipush (C : Cx p s m meth c Z own bs mx rt nm) {i : Int} (v : Int32) (hd : decode bs pc = .ok (.bipush i, 2)) (hp : pc + 2 = pc') (hv : (Int8.ofInt i).toInt32 = v) (hr : Go p l e R s m args below meth c n0 Q K N h ce sl (mkF m pc' Ls (.int v :: st))) : Go p l e R s m args below meth c n0 Q K N h ce sl (mkF m pc Ls st) := by
  subst hp
  exact Go.step (fun T A _ q => XT.bipushV A C.1 rfl v (hb C.2.1 hd) hv q) hr
theorem go_sipush (C : Cx p s m meth c Z own bs mx rt nm) {i : Int} (v : Int32) (hd : decode bs pc = .ok (.sipush i, 3)) (hp : pc + 3 = pc') (hv : (Int16.ofInt i).toInt32 = v) (hr : Go p l e R s m args below meth c n0 Q K N h ce sl (mkF m pc' Ls (.int v :: st))) : Go p l e R s m args below meth c n0 Q K N h ce sl (mkF m pc Ls st) := by
  subst hp
  exact Go.step (fun T A _ q => XT.sipushV A C.1 rfl v (hb C.2.1 hd) hv q) hr
theorem go_lconst (C : Cx p s m meth c Z own bs mx rt nm) {k : Fin 2} (v : Int64) (hd : decode bs pc = .ok (.lconst k, 1)) (hp : pc + 1 = pc') (hv : Int64.ofNat k = v) (hr : Go p l e R s m args below meth c n0 Q K N h ce sl (mkF m pc' Ls (.long v :: st))) : Go p l e R s m args below meth c n0 Q K N h ce sl (mkF m pc Ls st) := by
  subst hp
  exact Go.step (fun T A _ q => XT.lconstV A C.1 rfl v (hb C.2.1 hd) hv q) hr
theorem go_aconst_null (C : Cx p s m meth c Z own bs mx rt nm)  (hd : decode bs pc = .ok (.aconst_null, 1)) (hp : pc + 1 = pc') (hr : Go p l e R s m args below meth c n0 Q K N h ce sl (mkF m pc' Ls (.null :: st))) : Go p l e R s m args below meth c n0 Q K N h ce sl (mkF m pc Ls st) := by
  subst hp
  exact Go.step (fun T A _ q => XS.aconstNull A C.1 rfl (hb C.2.1 hd)  q) hr
theorem go_iinc (C : Cx p s m meth c Z own bs mx rt nm) {k : Nat} {i : Int} {x : Int32} (v : Int32) (hd : decode bs pc = .ok (.iinc k i, 3)) (hp : pc + 3 = pc') (hv : Int32.ofInt i = v) (hl : Ls[k]? = some (.val (.int x))) (hl' : storeLocals Ls k (.int (x + v)) = some Ls') (hr : Go p l e R s m args below meth c n0 Q K N h ce sl (mkF m pc' Ls' st)) : Go p l e R s m args below meth c n0 Q K N h ce sl (mkF m pc Ls st) := by
  subst hp
  exact Go.step (fun T A _ q => XT.iincV A C.1 rfl v (hb C.2.1 hd) hv hl hl' q) hr
theorem go_iadd (C : Cx p s m meth c Z own bs mx rt nm) {x y : Int32} (hd : decode bs pc = .ok (.iadd, 1)) (hp : pc + 1 = pc') (hr : Go p l e R s m args below meth c n0 Q K N h ce sl (mkF m pc' Ls (.int (x + y) :: st))) : Go p l e R s m args below meth c n0 Q K N h ce sl (mkF m pc Ls (.int y :: .int x :: st)) := by
  subst hp
  exact Go.step (fun T A _ q => XS.iadd A C.1 rfl (hb C.2.1 hd) rfl q) hr
theorem go_isub (C : Cx p s m meth c Z own bs mx rt nm) {x y : Int32} (hd : decode bs pc = .ok (.isub, 1)) (hp : pc + 1 = pc') (hr : Go p l e R s m args below meth c n0 Q K N h ce sl (mkF m pc' Ls (.int (x - y) :: st))) : Go p l e R s m args below meth c n0 Q K N h ce sl (mkF m pc Ls (.int y :: .int x :: st)) := by
  subst hp
  exact Go.step (fun T A _ q => XS.isub A C.1 rfl (hb C.2.1 hd) rfl q) hr
theorem go_iand (C : Cx p s m meth c Z own bs mx rt nm) {x y : Int32} (hd : decode bs pc = .ok (.iand, 1)) (hp : pc + 1 = pc') (hr : Go p l e R s m args below meth c n0 Q K N h ce sl (mkF m pc' Ls (.int (x &&& y) :: st))) : Go p l e R s m args below meth c n0 Q K N h ce sl (mkF m pc Ls (.int y :: .int x :: st)) := by
  subst hp
  exact Go.step (fun T A _ q => XS.iand A C.1 rfl (hb C.2.1 hd) rfl q) hr
theorem go_imul (C : Cx p s m meth c Z own bs mx rt nm) {x y : Int32} (hd : decode bs pc = .ok (.imul, 1)) (hp : pc + 1 = pc') (hr : Go p l e R s m args below meth c n0 Q K N h ce sl (mkF m pc' Ls (.int (x * y) :: st))) : Go p l e R s m args below meth c n0 Q K N h ce sl (mkF m pc Ls (.int y :: .int x :: st)) := by
  subst hp
  exact Go.step (fun T A _ q => XS.imul A C.1 rfl (hb C.2.1 hd) rfl q) hr
theorem go_ior (C : Cx p s m meth c Z own bs mx rt nm) {x y : Int32} (hd : decode bs pc = .ok (.ior, 1)) (hp : pc + 1 = pc') (hr : Go p l e R s m args below meth c n0 Q K N h ce sl (mkF m pc' Ls (.int (x ||| y) :: st))) : Go p l e R s m args below meth c n0 Q K N h ce sl (mkF m pc Ls (.int y :: .int x :: st)) := by
  subst hp
  exact Go.step (fun T A _ q => XT.ior A C.1 rfl (hb C.2.1 hd) rfl q) hr
theorem go_ixor (C : Cx p s m meth c Z own bs mx rt nm) {x y : Int32} (hd : decode bs pc = .ok (.ixor, 1)) (hp : pc + 1 = pc') (hr : Go p l e R s m args below meth c n0 Q K N h ce sl (mkF m pc' Ls (.int (x ^^^ y) :: st))) : Go p l e R s m args below meth c n0 Q K N h ce sl (mkF m pc Ls (.int y :: .int x :: st)) := by
  subst hp
  exact Go.step (fun T A _ q => XT.ixor A C.1 rfl (hb C.2.1 hd) rfl q) hr
theorem go_ishl (C : Cx p s m meth c Z own bs mx rt nm) {x y : Int32} (hd : decode bs pc = .ok (.ishl, 1)) (hp : pc + 1 = pc') (hr : Go p l e R s m args below meth c n0 Q K N h ce sl (mkF m pc' Ls (.int (x <<< (y &&& 31)) :: st))) : Go p l e R s m args below meth c n0 Q K N h ce sl (mkF m pc Ls (.int y :: .int x :: st)) := by
  subst hp
  exact Go.step (fun T A _ q => XT.ishl A C.1 rfl (hb C.2.1 hd) rfl q) hr
theorem go_ishr (C : Cx p s m meth c Z own bs mx rt nm) {x y : Int32} (hd : decode bs pc = .ok (.ishr, 1)) (hp : pc + 1 = pc') (hr : Go p l e R s m args below meth c n0 Q K N h ce sl (mkF m pc' Ls (.int (x >>> (y &&& 31)) :: st))) : Go p l e R s m args below meth c n0 Q K N h ce sl (mkF m pc Ls (.int y :: .int x :: st)) := by
  subst hp
  exact Go.step (fun T A _ q => XT.ishr A C.1 rfl (hb C.2.1 hd) rfl q) hr
theorem go_iushr (C : Cx p s m meth c Z own bs mx rt nm) {x y : Int32} (hd : decode bs pc = .ok (.iushr, 1)) (hp : pc + 1 = pc') (hr : Go p l e R s m args below meth c n0 Q K N h ce sl (mkF m pc' Ls (.int (XT.ushr x y) :: st))) : Go p l e R s m args below meth c n0 Q K N h ce sl (mkF m pc Ls (.int y :: .int x :: st)) := by
  subst hp
  exact Go.step (fun T A _ q => XT.iushr A C.1 rfl (hb C.2.1 hd) rfl q) hr
theorem go_ladd (C : Cx p s m meth c Z own bs mx rt nm) {x y : Int64} (hd : decode bs pc = .ok (.ladd, 1)) (hp : pc + 1 = pc') (hr : Go p l e R s m args below meth c n0 Q K N h ce sl (mkF m pc' Ls (.long (x + y) :: st))) : Go p l e R s m args below meth c n0 Q K N h ce sl (mkF m pc Ls (.long y :: .long x :: st)) := by
  subst hp
  exact Go.step (fun T A _ q => XT.ladd A C.1 rfl (hb C.2.1 hd) rfl q) hr
theorem go_lsub (C : Cx p s m meth c Z own bs mx rt nm) {x y : Int64} (hd : decode bs pc = .ok (.lsub, 1)) (hp : pc + 1 = pc') (hr : Go p l e R s m args below meth c n0 Q K N h ce sl (mkF m pc' Ls (.long (x - y) :: st))) : Go p l e R s m args below meth c n0 Q K N h ce sl (mkF m pc Ls (.long y :: .long x :: st)) := by
  subst hp
  exact Go.step (fun T A _ q => XT.lsub A C.1 rfl (hb C.2.1 hd) rfl q) hr
theorem go_land (C : Cx p s m meth c Z own bs mx rt nm) {x y : Int64} (hd : decode bs pc = .ok (.land, 1)) (hp : pc + 1 = pc') (hr : Go p l e R s m args below meth c n0 Q K N h ce sl (mkF m pc' Ls (.long (x &&& y) :: st))) : Go p l e R s m args below meth c n0 Q K N h ce sl (mkF m pc Ls (.long y :: .long x :: st)) := by
  subst hp
  exact Go.step (fun T A _ q => XT.land A C.1 rfl (hb C.2.1 hd) rfl q) hr
theorem go_lmul (C : Cx p s m meth c Z own bs mx rt nm) {x y : Int64} (hd : decode bs pc = .ok (.lmul, 1)) (hp : pc + 1 = pc') (hr : Go p l e R s m args below meth c n0 Q K N h ce sl (mkF m pc' Ls (.long (x * y) :: st))) : Go p l e R s m args below meth c n0 Q K N h ce sl (mkF m pc Ls (.long y :: .long x :: st)) := by
  subst hp
  exact Go.step (fun T A _ q => XT.lmul A C.1 rfl (hb C.2.1 hd) rfl q) hr
theorem go_lor (C : Cx p s m meth c Z own bs mx rt nm) {x y : Int64} (hd : decode bs pc = .ok (.lor, 1)) (hp : pc + 1 = pc') (hr : Go p l e R s m args below meth c n0 Q K N h ce sl (mkF m pc' Ls (.long (x ||| y) :: st))) : Go p l e R s m args below meth c n0 Q K N h ce sl (mkF m pc Ls (.long y :: .long x :: st)) := by
  subst hp
  exact Go.step (fun T A _ q => XT.lor A C.1 rfl (hb C.2.1 hd) rfl q) hr
theorem go_lxor (C : Cx p s m meth c Z own bs mx rt nm) {x y : Int64} (hd : decode bs pc = .ok (.lxor, 1)) (hp : pc + 1 = pc') (hr : Go p l e R s m args below meth c n0 Q K N h ce sl (mkF m pc' Ls (.long (x ^^^ y) :: st))) : Go p l e R s m args below meth c n0 Q K N h ce sl (mkF m pc Ls (.long y :: .long x :: st)) := by
  subst hp
  exact Go.step (fun T A _ q => XT.lxor A C.1 rfl (hb C.2.1 hd) rfl q) hr
theorem go_idiv (C : Cx p s m meth c Z own bs mx rt nm) {x y : Int32} (hd : decode bs pc = .ok (.idiv, 1)) (hp : pc + 1 = pc') (hy : y ≠ 0) (hr : Go p l e R s m args below meth c n0 Q K N h ce sl (mkF m pc' Ls (.int (x / y) :: st))) : Go p l e R s m args below meth c n0 Q K N h ce sl (mkF m pc Ls (.int y :: .int x :: st)) := by
  subst hp
  exact Go.step (fun T A _ q => XS.idiv A C.1 rfl (hb C.2.1 hd) rfl hy q) hr
theorem go_irem (C : Cx p s m meth c Z own bs mx rt nm) {x y : Int32} (hd : decode bs pc = .ok (.irem, 1)) (hp : pc + 1 = pc') (hy : y ≠ 0) (hr : Go p l e R s m args below meth c n0 Q K N h ce sl (mkF m pc' Ls (.int (x % y) :: st))) : Go p l e R s m args below meth c n0 Q K N h ce sl (mkF m pc Ls (.int y :: .int x :: st)) := by
  subst hp
  exact Go.stepX (fun T locs X _ _ q => iremM X C.1 rfl (hb C.2.1 hd) rfl hy q) hr
theorem go_i2l (C : Cx p s m meth c Z own bs mx rt nm) {x : Int32} (hd : decode bs pc = .ok (.i2l, 1)) (hp : pc + 1 = pc') (hr : Go p l e R s m args below meth c n0 Q K N h ce sl (mkF m pc' Ls (.long x.toInt64 :: st))) : Go p l e R s m args below meth c n0 Q K N h ce sl (mkF m pc Ls (.int x :: st)) := by
  subst hp
  exact Go.step (fun T A _ q => XT.i2l A C.1 rfl (hb C.2.1 hd) rfl q) hr
theorem go_l2i (C : Cx p s m meth c Z own bs mx rt nm) {x : Int64} (hd : decode bs pc = .ok (.l2i, 1)) (hp : pc + 1 = pc') (hr : Go p l e R s m args below meth c n0 Q K N h ce sl (mkF m pc' Ls (.int x.toInt32 :: st))) : Go p l e R s m args below meth c n0 Q K N h ce sl (mkF m pc Ls (.long x :: st)) := by
  subst hp
  exact Go.step (fun T A _ q => XT.l2i A C.1 rfl (hb C.2.1 hd) rfl q) hr
theorem go_i2b (C : Cx p s m meth c Z own bs mx rt nm) {x : Int32} (hd : decode bs pc = .ok (.i2b, 1)) (hp : pc + 1 = pc') (hr : Go p l e R s m args below meth c n0 Q K N h ce sl (mkF m pc' Ls (.int x.toInt8.toInt32 :: st))) : Go p l e R s m args below meth c n0 Q K N h ce sl (mkF m pc Ls (.int x :: st)) := by
  subst hp
  exact Go.step (fun T A _ q => XT.i2b A C.1 rfl (hb C.2.1 hd) rfl q) hr
theorem go_i2c (C : Cx p s m meth c Z own bs mx rt nm) {x : Int32} (hd : decode bs pc = .ok (.i2c, 1)) (hp : pc + 1 = pc') (hr : Go p l e R s m args below meth c n0 Q K N h ce sl (mkF m pc' Ls (.int x.toUInt32.toUInt16.toUInt32.toInt32 :: st))) : Go p l e R s m args below meth c n0 Q K N h ce sl (mkF m pc Ls (.int x :: st)) := by
  subst hp
  exact Go.step (fun T A _ q => XT.i2c A C.1 rfl (hb C.2.1 hd) rfl q) hr
theorem go_ineg (C : Cx p s m meth c Z own bs mx rt nm) {x : Int32} (hd : decode bs pc = .ok (.ineg, 1)) (hp : pc + 1 = pc') (hr : Go p l e R s m args below meth c n0 Q K N h ce sl (mkF m pc' Ls (.int (-x) :: st))) : Go p l e R s m args below meth c n0 Q K N h ce sl (mkF m pc Ls (.int x :: st)) := by
  subst hp
  exact Go.step (fun T A _ q => XS.ineg A C.1 rfl (hb C.2.1 hd) rfl q) hr
theorem go_dup (C : Cx p s m meth c Z own bs mx rt nm) {v : Value} (hd : decode bs pc = .ok (.dup, 1)) (hp : pc + 1 = pc') (hc : v.category = 1) (hr : Go p l e R s m args below meth c n0 Q K N h ce sl (mkF m pc' Ls (v :: v :: st))) : Go p l e R s m args below meth c n0 Q K N h ce sl (mkF m pc Ls (v :: st)) := by
  subst hp
  exact Go.step (fun T A _ q => XS.dup A C.1 rfl (hb C.2.1 hd) rfl hc q) hr
theorem go_pop (C : Cx p s m meth c Z own bs mx rt nm) {v : Value} (hd : decode bs pc = .ok (.pop, 1)) (hp : pc + 1 = pc') (hc : v.category = 1) (hr : Go p l e R s m args below meth c n0 Q K N h ce sl (mkF m pc' Ls st)) : Go p l e R s m args below meth c n0 Q K N h ce sl (mkF m pc Ls (v :: st)) := by
  subst hp
  exact Go.step (fun T A _ q => XT.pop A C.1 rfl (hb C.2.1 hd) rfl hc q) hr
theorem go_dup2 (C : Cx p s m meth c Z own bs mx rt nm) {v w : Value} (hd : decode bs pc = .ok (.dup2, 1)) (hp : pc + 1 = pc') (hc : v.category = 1) (hc' : w.category = 1) (hr : Go p l e R s m args below meth c n0 Q K N h ce sl (mkF m pc' Ls (v :: w :: v :: w :: st))) : Go p l e R s m args below meth c n0 Q K N h ce sl (mkF m pc Ls (v :: w :: st)) := by
  subst hp
  exact Go.step (fun T A _ q => XT.dup2 A C.1 rfl (hb C.2.1 hd) rfl hc hc' q) hr
theorem go_dup_x1 (C : Cx p s m meth c Z own bs mx rt nm) {v w : Value} (hd : decode bs pc = .ok (.dup_x1, 1)) (hp : pc + 1 = pc') (hc : v.category = 1) (hc' : w.category = 1) (hr : Go p l e R s m args below meth c n0 Q K N h ce sl (mkF m pc' Ls (v :: w :: v :: st))) : Go p l e R s m args below meth c n0 Q K N h ce sl (mkF m pc Ls (v :: w :: st)) := by
  subst hp
  exact Go.step (fun T A _ q => XT.dupX1 A C.1 rfl (hb C.2.1 hd) rfl hc hc' q) hr
theorem go_lushr (C : Cx p s m meth c Z own bs mx rt nm) {x : Int64} {y : Int32} (hd : decode bs pc = .ok (.lushr, 1)) (hp : pc + 1 = pc') (hr : Go p l e R s m args below meth c n0 Q K N h ce sl (mkF m pc' Ls (.long (XT.ushrL x y) :: st))) : Go p l e R s m args below meth c n0 Q K N h ce sl (mkF m pc Ls (.int y :: .long x :: st)) := by
  subst hp
  exact Go.step (fun T A _ q => XT.lushr A C.1 rfl (hb C.2.1 hd) rfl q) hr
theorem go_lshl (C : Cx p s m meth c Z own bs mx rt nm) {x : Int64} {y : Int32} (hd : decode bs pc = .ok (.lshl, 1)) (hp : pc + 1 = pc') (hr : Go p l e R s m args below meth c n0 Q K N h ce sl (mkF m pc' Ls (.long (x <<< (y.toInt64 &&& 63)) :: st))) : Go p l e R s m args below meth c n0 Q K N h ce sl (mkF m pc Ls (.int y :: .long x :: st)) := by
  subst hp
  exact Go.step (fun T A _ q => XT.lshl A C.1 rfl (hb C.2.1 hd) rfl q) hr
theorem go_ldiv (C : Cx p s m meth c Z own bs mx rt nm) {x y : Int64} (hd : decode bs pc = .ok (.ldiv, 1)) (hp : pc + 1 = pc') (hy : y ≠ 0) (hr : Go p l e R s m args below meth c n0 Q K N h ce sl (mkF m pc' Ls (.long (x / y) :: st))) : Go p l e R s m args below meth c n0 Q K N h ce sl (mkF m pc Ls (.long y :: .long x :: st)) := by
  subst hp
  exact Go.step (fun T A _ q => XT.ldiv A C.1 rfl (hb C.2.1 hd) rfl hy q) hr
theorem go_lrem (C : Cx p s m meth c Z own bs mx rt nm) {x y : Int64} (hd : decode bs pc = .ok (.lrem, 1)) (hp : pc + 1 = pc') (hy : y ≠ 0) (hr : Go p l e R s m args below meth c n0 Q K N h ce sl (mkF m pc' Ls (.long (x - (x / y) * y) :: st))) : Go p l e R s m args below meth c n0 Q K N h ce sl (mkF m pc Ls (.long y :: .long x :: st)) := by
  subst hp
  exact Go.step (fun T A _ q => XT.lrem A C.1 rfl (hb C.2.1 hd) rfl hy q) hr
theorem go_goto (C : Cx p s m meth c Z own bs mx rt nm) {o : Int} (hd : decode bs pc = .ok (.goto o, 3)) (ho : 0 ≤ (pc : Int) + o) (hp : ((pc : Int) + o).toNat = pc') (hr : Go p l e R s m args below meth c n0 Q K N h ce sl (mkF m pc' Ls st)) : Go p l e R s m args below meth c n0 Q K N h ce sl (mkF m pc Ls st) :=
  Go.step (fun T A _ q => XS.goto A C.1 rfl rfl (hb C.2.1 hd) ho hp q) hr
/-- what a comparison says, of integers -/
def cmpP (cd : ClassFile.Cond) (x y : Int) : Prop := match cd with | .eq => x = y | .ne => ¬ x = y | .lt => x < y | .ge => ¬ x < y | .gt => y < x | .le => ¬ y < x
def cmpN (cd : ClassFile.Cond) (x y : Int) : Prop := match cd with | .eq => ¬ x = y | .ne => x = y | .lt => ¬ x < y | .ge => x < y | .gt => ¬ y < x | .le => y < x
theorem cmpN_of {cd : ClassFile.Cond} {x y : Int} (h : ¬ cmpP cd x y) : cmpN cd x y := by
  cases cd <;> simp only [cmpP] at h <;> simp only [cmpN] <;> omega
theorem cmp_t {cd : ClassFile.Cond} {x y : Int32} (h : cmpP cd x.toInt y.toInt) : if_icmp.holds cd x y = true := by
  cases cd <;> simp only [cmpP] at h
  · exact XT.ii_eq_t (int_eq h)
  · exact XT.ii_ne_t fun q => h (by rw [q])
  · exact XT.ii_lt_t (Int32.lt_iff_toInt_lt.mpr h)
  · exact XT.ii_ge_t fun q => h (Int32.lt_iff_toInt_lt.mp q)
  · exact XT.ii_gt_t (Int32.lt_iff_toInt_lt.mpr h)
  · exact XT.ii_le_t fun q => h (Int32.lt_iff_toInt_lt.mp q)
theorem cmp_f {cd : ClassFile.Cond} {x y : Int32} (h : ¬ cmpP cd x.toInt y.toInt) : if_icmp.holds cd x y = false := by
  cases cd <;> simp only [cmpP] at h
  · exact XT.ii_eq_f fun q => h (by rw [q])
  · exact XT.ii_ne_f (int_eq (Classical.not_not.mp h))
  · exact XT.ii_lt_f fun q => h (Int32.lt_iff_toInt_lt.mp q)
  · exact XT.ii_ge_f (Int32.lt_iff_toInt_lt.mpr (Classical.not_not.mp h))
  · exact XT.ii_gt_f fun q => h (Int32.lt_iff_toInt_lt.mp q)
  · exact XT.ii_le_f (Int32.lt_iff_toInt_lt.mpr (Classical.not_not.mp h))
theorem cmpL_t {cd : ClassFile.Cond} {x y : Int64} (h : cmpP cd x.toInt y.toInt) : ifCond.holds cd (XT.cmpL x y) = true := by
  cases cd <;> simp only [cmpP] at h
  · exact XT.ll_eq_t (long_eq h)
  · exact XT.ll_ne_t fun q => h (by rw [q])
  · exact XT.ll_lt_t (Int64.lt_iff_toInt_lt.mpr h)
  · exact XT.ll_ge_t fun q => h (Int64.lt_iff_toInt_lt.mp q)
  · exact XT.ll_gt_t (Int64.lt_iff_toInt_lt.mpr h)
  · exact XT.ll_le_t fun q => h (Int64.lt_iff_toInt_lt.mp q)
theorem cmpL_f {cd : ClassFile.Cond} {x y : Int64} (h : ¬ cmpP cd x.toInt y.toInt) : ifCond.holds cd (XT.cmpL x y) = false := by
  cases cd <;> simp only [cmpP] at h
  · exact XT.ll_eq_f fun q => h (by rw [q])
  · exact XT.ll_ne_f (long_eq (Classical.not_not.mp h))
  · exact XT.ll_lt_f fun q => h (Int64.lt_iff_toInt_lt.mp q)
  · exact XT.ll_ge_f (Int64.lt_iff_toInt_lt.mpr (Classical.not_not.mp h))
  · exact XT.ll_gt_f fun q => h (Int64.lt_iff_toInt_lt.mp q)
  · exact XT.ll_le_f (Int64.lt_iff_toInt_lt.mpr (Classical.not_not.mp h))
theorem go_icmp (C : Cx p s m meth c Z own bs mx rt nm) {cd : ClassFile.Cond} {x y : Int32} {o : Int} {pcN : Nat} (kx ky : Int) (hx : x.toInt = kx) (hy : y.toInt = ky) (hd : decode bs pc = .ok (.if_icmp cd o, 3)) (ho : 0 ≤ (pc : Int) + o) (hp : ((pc : Int) + o).toNat = pc') (hpn : pc + 3 = pcN) (h1 : cmpP cd kx ky → Go p l e R s m args below meth c n0 Q K N h ce sl (mkF m pc' Ls st)) (h2 : cmpN cd kx ky → Go p l e R s m args below meth c n0 Q K N h ce sl (mkF m pcN Ls st)) : Go p l e R s m args below meth c n0 Q K N h ce sl (mkF m pc Ls (.int y :: .int x :: st)) := by
  subst hpn hx hy
  by_cases q : cmpP cd x.toInt y.toInt
  · exact Go.step (fun T A _ k => XS.icmpYes A C.1 rfl rfl (hb C.2.1 hd) rfl (cmp_t q) ho hp k) (h1 q)
  · exact Go.step (fun T A _ k => XS.icmpNo A C.1 rfl (hb C.2.1 hd) rfl (cmp_f q) k) (h2 (cmpN_of q))
theorem go_if0 (C : Cx p s m meth c Z own bs mx rt nm) {cd : ClassFile.Cond} {x : Int32} {o : Int} {pcN : Nat} (kx : Int) (hx : x.toInt = kx) (hd : decode bs pc = .ok (.ifCond cd o, 3)) (ho : 0 ≤ (pc : Int) + o) (hp : ((pc : Int) + o).toNat = pc') (hpn : pc + 3 = pcN) (h1 : cmpP cd kx 0 → Go p l e R s m args below meth c n0 Q K N h ce sl (mkF m pc' Ls st)) (h2 : cmpN cd kx 0 → Go p l e R s m args below meth c n0 Q K N h ce sl (mkF m pcN Ls st)) : Go p l e R s m args below meth c n0 Q K N h ce sl (mkF m pc Ls (.int x :: st)) := by
  subst hpn hx
  by_cases q : cmpP cd x.toInt 0
  · exact Go.step (fun T A _ k => XS.ifYes A C.1 rfl rfl (hb C.2.1 hd) rfl ((if0 cd x).trans (cmp_t q)) ho hp k) (h1 q)
  · exact Go.step (fun T A _ k => XS.ifNo A C.1 rfl (hb C.2.1 hd) rfl ((if0 cd x).trans (cmp_f q)) k) (h2 (cmpN_of q))
theorem go_lcmp (C : Cx p s m meth c Z own bs mx rt nm) {cd : ClassFile.Cond} {x y : Int64} {o : Int} {pc1 pcN : Nat} (kx ky : Int) (hx : x.toInt = kx) (hy : y.toInt = ky) (hd0 : decode bs pc = .ok (.lcmp, 1)) (hp1 : pc + 1 = pc1) (hd : decode bs pc1 = .ok (.ifCond cd o, 3)) (ho : 0 ≤ (pc1 : Int) + o) (hp : ((pc1 : Int) + o).toNat = pc') (hpn : pc1 + 3 = pcN) (h1 : cmpP cd kx ky → Go p l e R s m args below meth c n0 Q K N h ce sl (mkF m pc' Ls st)) (h2 : cmpN cd kx ky → Go p l e R s m args below meth c n0 Q K N h ce sl (mkF m pcN Ls st)) : Go p l e R s m args below meth c n0 Q K N h ce sl (mkF m pc Ls (.long y :: .long x :: st)) := by
  subst hpn hp1 hx hy
  refine Go.step (g' := mkF m (pc + 1) Ls (.int (XT.cmpL x y) :: st)) (fun T A _ k => XT.lcmp A C.1 rfl (hb C.2.1 hd0) rfl k) ?_
  by_cases q : cmpP cd x.toInt y.toInt
  · exact Go.step (fun T A _ k => XS.ifYes A C.1 rfl rfl (hb C.2.1 hd) rfl (cmpL_t q) ho hp k) (h1 q)
  · exact Go.step (fun T A _ k => XS.ifNo A C.1 rfl (hb C.2.1 hd) rfl (cmpL_f q) k) (h2 (cmpN_of q))
theorem go_ifne_b (C : Cx p s m meth c Z own bs mx rt nm) {B : Prop} [Decidable B] {o : Int} {pcN : Nat} (hd : decode bs pc = .ok (.ifCond .ne o, 3)) (ho : 0 ≤ (pc : Int) + o) (hp : ((pc : Int) + o).toNat = pc') (hpn : pc + 3 = pcN) (h1 : B → Go p l e R s m args below meth c n0 Q K N h ce sl (mkF m pc' Ls st)) (h2 : ¬ B → Go p l e R s m args below meth c n0 Q K N h ce sl (mkF m pcN Ls st)) : Go p l e R s m args below meth c n0 Q K N h ce sl (mkF m pc Ls (.int (bi B) :: st)) := by
  refine go_if0 C _ rfl hd ho hp hpn (fun q => h1 ?_) (fun q => h2 ?_)
  · exact Classical.byContradiction fun z => q (by rw [bi_f z]; rfl)
  · exact fun z => by
      have q' : (bi B).toInt = 0 := q
      rw [bi_t z] at q'
      exact absurd q' (by decide)
theorem go_ifeq_b (C : Cx p s m meth c Z own bs mx rt nm) {B : Prop} [Decidable B] {o : Int} {pcN : Nat} (hd : decode bs pc = .ok (.ifCond .eq o, 3)) (ho : 0 ≤ (pc : Int) + o) (hp : ((pc : Int) + o).toNat = pc') (hpn : pc + 3 = pcN) (h1 : ¬ B → Go p l e R s m args below meth c n0 Q K N h ce sl (mkF m pc' Ls st)) (h2 : B → Go p l e R s m args below meth c n0 Q K N h ce sl (mkF m pcN Ls st)) : Go p l e R s m args below meth c n0 Q K N h ce sl (mkF m pc Ls (.int (bi B) :: st)) := by
  refine go_if0 C _ rfl hd ho hp hpn (fun q => h1 ?_) (fun q => h2 ?_)
  · exact fun z => by
      have q' : (bi B).toInt = 0 := q
      rw [bi_t z] at q'
      exact absurd q' (by decide)
  · exact Classical.byContradiction fun z => q (by rw [bi_f z]; rfl)
theorem go_ifnull_r (C : Cx p s m meth c Z own bs mx rt nm) {a : Addr} {o : Int} (hd : decode bs pc = .ok (.ifnull o, 3)) (hp : pc + 3 = pc') (hr : Go p l e R s m args below meth c n0 Q K N h ce sl (mkF m pc' Ls st)) : Go p l e R s m args below meth c n0 Q K N h ce sl (mkF m pc Ls (.ref a :: st)) := by
  subst hp
  exact Go.step (fun T A _ k => XS.ifnullNo A C.1 rfl (hb C.2.1 hd) rfl k) hr
theorem go_ifnull_n (C : Cx p s m meth c Z own bs mx rt nm) {o : Int} (hd : decode bs pc = .ok (.ifnull o, 3)) (ho : 0 ≤ (pc : Int) + o) (hp : ((pc : Int) + o).toNat = pc') (hr : Go p l e R s m args below meth c n0 Q K N h ce sl (mkF m pc' Ls st)) : Go p l e R s m args below meth c n0 Q K N h ce sl (mkF m pc Ls (.null :: st)) :=
  Go.step (fun T A _ k => XS.ifnullYes A C.1 rfl rfl (hb C.2.1 hd) rfl ho hp k) hr
theorem go_ldc (C : Cx p s m meth c Z own bs mx rt nm) {i : Nat} {v : Int32} (w : (Jvm.Cond.constant own i v).before a0 Z = true) (hd : decode bs pc = .ok (.ldc i, 2)) (hp : pc + 2 = pc') (hr : Go p l e R s m args below meth c n0 Q K N h ce sl (mkF m pc' Ls (.int v :: st))) : Go p l e R s m args below meth c n0 Q K N h ce sl (mkF m pc Ls st) := by
  subst hp
  exact Go.stepX (fun T locs X _ _ q => X.ldcI C.1 C.2.2.2.2.1 (mv C.2.2.2.1 w) rfl (hb C.2.1 hd) q) hr
theorem go_ldc2 (C : Cx p s m meth c Z own bs mx rt nm) {i : Nat} {v : Int64} (w : (Jvm.Cond.constantLong own i v).before a0 Z = true) (hd : decode bs pc = .ok (.ldc2_w i, 3)) (hp : pc + 3 = pc') (hr : Go p l e R s m args below meth c n0 Q K N h ce sl (mkF m pc' Ls (.long v :: st))) : Go p l e R s m args below meth c n0 Q K N h ce sl (mkF m pc Ls st) := by
  subst hp
  exact Go.stepX (fun T locs X _ _ q => X.ldc2J C.1 C.2.2.2.2.1 (mv C.2.2.2.1 w) rfl (hb C.2.1 hd) q) hr
theorem go_getfield (C : Cx p s m meth c Z own bs mx rt nm) {O n d : String} {i : Nat} {a : Addr} {v : Value} (w : (Jvm.Cond.fieldLink own i O n d).before a0 Z = true) (F0 : Fld Z h a O n d v) (hd : decode bs pc = .ok (.getfield i, 3)) (hp : pc + 3 = pc') (hr : Go p l e R s m args below meth c n0 Q K N h ce sl (mkF m pc' Ls (v :: st))) : Go p l e R s m args below meth c n0 Q K N h ce sl (mkF m pc Ls (.ref a :: st)) := by
  subst hp
  intro T locs X eT Nn
  obtain ⟨T', X', e', stp⟩ := getF X C.1 C.2.2.2.1 C.2.2.2.2.1 (host := "") (Or.inl w) Via.refl eT F0 (g := mkF m pc Ls (.ref a :: st)) rfl rfl (hb C.2.1 hd)
  obtain ⟨s₂, o, h1, r⟩ := hr T' locs X' e' Nn
  exact ⟨s₂, o, stp _ h1, r⟩
theorem go_putfield (C : Cx p s m meth c Z own bs mx rt nm) {O n d C0 : String} {i kk : Nat} {ty : FieldType} {a : Addr} {v old : Value} (w : (Jvm.Cond.fieldLink own i O n d).before a0 Z = true) (F0 : Fld Z h a O n d old) (E : Exa Z h a C0) (L : (Jvm.Cond.lays C0 O n d).before a0 Z = true ∨ ((Jvm.Cond.laysFinal C0 O n d).before a0 Z = true ∧ own = O ∧ nm = "<init>")) (wi : (Jvm.Cond.instantiable C0 kk).before a0 Z = true) (hty : parseFieldDescriptor d = some ty) (hn : narrow ty v = v) (hf : fits ty v = true) (ha : n0 ≤ a) (hd : decode bs pc = .ok (.putfield i, 3)) (hp : pc + 3 = pc') (hr : ∀ h', Wr h h' a (Jvm.RoadKit.slotOf Z O n d) v → Go p l e R s m args below meth c n0 Q K N h' ce sl (mkF m pc' Ls st)) : Go p l e R s m args below meth c n0 Q K N h ce sl (mkF m pc Ls (v :: .ref a :: st)) := by
  subst hp
  intro T locs X eT Nn
  obtain ⟨T', h', X', e', W', stp⟩ := putF X C.1 C.2.2.2.1 C.2.2.2.2.1 (host := "") (Or.inl w) Via.refl eT F0 E (L.imp id fun q => ⟨q.1, q.2.1, C.2.2.2.2.2.2.2.trans q.2.2⟩) wi hty hn hf (g := mkF m pc Ls (v :: .ref a :: st)) rfl rfl (hb C.2.1 hd)
  obtain ⟨s₂, o, h1, r⟩ := hr h' W' T' _ X' e' (Fr.snoc X' Nn ha)
  exact ⟨s₂, o, stp _ h1, r⟩
theorem go_new (C : Cx p s m meth c Z own bs mx rt nm) {C0 : String} {i k ce' sl' : Nat} (w : (Jvm.Cond.classLink own i C0).before a0 Z = true) (wi : (Jvm.Cond.instantiable C0 k).before a0 Z = true) (wz : (Jvm.Cond.initialized C0).before a0 Z = true) (hd : decode bs pc = .ok (.new i, 3)) (hp : pc + 3 = pc') (hce : ce + 1 = ce') (hsl : sl + k = sl') (hc : ce' ≤ R.cells) (hl : sl' ≤ R.slots)
    (hr : ∀ (h' : Heap) (a : Addr), h.size = a → Ext h h' → Exa Z h' a C0 → (∀ {O nm d : String} {ty : FieldType}, Laid Z a0 C0 O nm d → parseFieldDescriptor d = some ty → Fld Z h' a O nm d (defaultValue ty)) → Go p l e R s m args below meth c n0 Q K N h' ce' sl' (mkF m pc' Ls (.ref a :: st))) : Go p l e R s m args below meth c n0 Q K N h ce sl (mkF m pc Ls st) := by
  subst hp hce hsl
  intro T locs X eT Nn
  obtain ⟨T', h', X', e', E', A', D', -, stp⟩ := newO X C.1 C.2.2.2.1 C.2.2.2.2.1 w wi wz eT (g := mkF m pc Ls st) rfl (hb C.2.1 hd) hc hl
  obtain ⟨s₂, o, h1, r⟩ := hr h' _ rfl E' A' D' T' _ X' e' Nn
  exact ⟨s₂, o, stp _ h1, r⟩
/-- an array of type ty that holds just vs -/
def Av (Z : State) (h : Heap) (a : Addr) (ty : FieldType) (vs : List Value) : Prop := ∃ cl : Cell, Arr Z h a cl ty ∧ cl.slots.toList = vs ∧ vs.length < 2147483648
theorem Av.lt {ty : FieldType} {vs : List Value} {a : Addr} (A : Av Z h a ty vs) : a < h.size := by obtain ⟨c, A, -⟩ := A; exact A.lt
theorem Av.ext {ty : FieldType} {vs : List Value} {a : Addr} {h' : Heap} (A : Av Z h a ty vs) (E : Ext h h') : Av Z h' a ty vs := by obtain ⟨c, A, r⟩ := A; exact ⟨c, A.ext E, r⟩
theorem Av.other {ty : FieldType} {vs : List Value} {a b : Addr} {h' : Heap} {k : Nat} {v : Value} (A : Av Z h b ty vs) (W : Wr h h' a k v) (q : b ≠ a) : Av Z h' b ty vs := by obtain ⟨c, A, r⟩ := A; exact ⟨c, A.other W q, r⟩
theorem Av.keep {ty : FieldType} {vs : List Value} {a : Addr} {h' : Heap} {ws : List Addr} (A : Av Z h a ty vs) (K0 : Keep h h' ws) (q : a ∉ ws) : Av Z h' a ty vs := by obtain ⟨c, A, r⟩ := A; exact ⟨c, ⟨K0.2.1 a c A.1 q, A.2⟩, r⟩
theorem own_ne_arr {C0 : String} {ty : FieldType} {vs : List Value} {a b : Addr} {k : Nat} (F0 : Exa Z h a C0) (wi : (Jvm.Cond.instantiable C0 k).before a0 Z = true) (G : Av Z h b ty vs) : a ≠ b := by obtain ⟨c, G, -⟩ := G; exact ne_arr F0 wi G
theorem clamp_of {j : Int32} {k : Nat} (hj : j.toInt = k) : j.toNatClampNeg = k := by
  show j.toInt.toNat = k
  rw [hj]; rfl
theorem nonneg_of {j : Int32} {k : Nat} (hj : j.toInt = k) : ¬ j < 0 := fun q => by
  have := Int32.lt_iff_toInt_lt.mp q
  rw [hj] at this
  exact absurd this (by show ¬ (k : Int) < 0; omega)
theorem Av.at {ty : FieldType} {vs : List Value} {a : Addr} (A : Av Z h a ty vs) {j : Int32} {k : Nat} (hj : j.toInt = k) (hk : k < vs.length) : ∃ cl : Cell, Arr Z h a cl ty ∧ cl.slots.toList = vs ∧ ¬ (j < 0 ∨ cl.slots.size ≤ j.toNatClampNeg) ∧ cl.slots[j.toNatClampNeg]? = vs[k]? := by
  obtain ⟨cl, A, e1, e2⟩ := A
  refine ⟨cl, A, e1, ?_, ?_⟩
  · rw [clamp_of hj]
    intro q
    rcases q with q | q
    · exact nonneg_of hj q
    · rw [← e1] at hk; simp at hk; omega
  · rw [clamp_of hj, ← e1]; simp
theorem Av.set {ty : FieldType} {vs : List Value} {a : Addr} {h' : Heap} {k : Nat} {v : Value} (A : Av Z h a ty vs) (W : Wr h h' a k v) : Av Z h' a ty (vs.set k v) := by
  obtain ⟨cl, A, e1, e2⟩ := A
  exact ⟨_, A.same W, by rw [← e1]; simp [Cell.setSlot], by simpa using e2⟩
/-- n ints, whichever -/
def Ints (vs : List Value) (n : Nat) : Prop := vs.length = n ∧ ∀ k, k < n → ∃ x : Int32, vs[k]? = some (.int x)
theorem Ints.rep (n : Nat) (x : Int32) : Ints (List.replicate n (.int x)) n := ⟨by simp, fun k hk => ⟨x, by simp [hk]⟩⟩
theorem Ints.set {vs : List Value} {n k : Nat} (x : Int32) (I : Ints vs n) : Ints (vs.set k (.int x)) n := ⟨by simpa using I.1, fun j hj => by
  by_cases q : k = j
  · subst q
    exact ⟨x, by rw [List.getElem?_set_self (by rw [I.1]; exact hj)]⟩
  · obtain ⟨y, hy⟩ := I.2 j hj
    exact ⟨y, by rw [List.getElem?_set_ne q]; exact hy⟩⟩
theorem go_arraylength (C : Cx p s m meth c Z own bs mx rt nm) {ty : FieldType} {vs : List Value} {a : Addr} (A : Av Z h a ty vs) (n : Int32) (hn : n.toInt = vs.length) (hd : decode bs pc = .ok (.arraylength, 1)) (hp : pc + 1 = pc') (hr : Go p l e R s m args below meth c n0 Q K N h ce sl (mkF m pc' Ls (.int n :: st))) : Go p l e R s m args below meth c n0 Q K N h ce sl (mkF m pc Ls (.ref a :: st)) := by
  subst hp
  obtain ⟨cl, A, e1, e2⟩ := A
  have q : cl.slots.size.toInt32 = n := by
    have hl : cl.slots.size = vs.length := by rw [← e1]; simp
    rw [hl]
    refine int_eq ?_
    rw [hn]
    exact Int32.toInt_ofNat_of_lt (by omega)
  exact Go.stepX (fun T locs X eT _ k => X.arraylength C.1 (cell := cl) (by rw [eT]; exact A.1) (State.isArrayOf_alike C.2.2.2.1.alike A.2.1) (g := mkF m pc Ls (.ref a :: st)) rfl rfl (hb C.2.1 hd) _ (by rw [q]; exact k)) hr
theorem go_iaload (C : Cx p s m meth c Z own bs mx rt nm) {vs : List Value} {a : Addr} {j : Int32} (A : Av Z h a .int vs) (k : Nat) (v : Value) (hj : j.toInt = k) (hv : vs[k]? = some v) (hd : decode bs pc = .ok (.iaload, 1)) (hp : pc + 1 = pc') (hr : Go p l e R s m args below meth c n0 Q K N h ce sl (mkF m pc' Ls (v :: st))) : Go p l e R s m args below meth c n0 Q K N h ce sl (mkF m pc Ls (.int j :: .ref a :: st)) := by
  subst hp
  obtain ⟨cl, A, e1, e2, e3⟩ := A.at hj (List.getElem?_eq_some_iff.mp hv).1
  exact Go.stepX (fun T locs X eT _ q => X.iaload C.1 (j := j) (v := v) (by rw [eT]; exact A.1) (State.isArrayOf_alike C.2.2.2.1.alike A.2.1) A.2.2 e2 (e3.trans hv) (g := mkF m pc Ls (.int j :: .ref a :: st)) rfl rfl (hb C.2.1 hd) _ q) hr
theorem go_laload (C : Cx p s m meth c Z own bs mx rt nm) {vs : List Value} {a : Addr} {j : Int32} (A : Av Z h a .long vs) (k : Nat) (v : Value) (hj : j.toInt = k) (hv : vs[k]? = some v) (hd : decode bs pc = .ok (.laload, 1)) (hp : pc + 1 = pc') (hr : Go p l e R s m args below meth c n0 Q K N h ce sl (mkF m pc' Ls (v :: st))) : Go p l e R s m args below meth c n0 Q K N h ce sl (mkF m pc Ls (.int j :: .ref a :: st)) := by
  subst hp
  obtain ⟨cl, A, e1, e2, e3⟩ := A.at hj (List.getElem?_eq_some_iff.mp hv).1
  exact Go.stepX (fun T locs X eT _ q => X.laload C.1 (j := j) (v := v) (by rw [eT]; exact A.1) (State.isArrayOf_alike C.2.2.2.1.alike A.2.1) A.2.2 e2 (e3.trans hv) (g := mkF m pc Ls (.int j :: .ref a :: st)) rfl rfl (hb C.2.1 hd) _ q) hr
theorem go_baload (C : Cx p s m meth c Z own bs mx rt nm) {vs : List Value} {a : Addr} {j : Int32} (A : Av Z h a .byte vs) (k : Nat) (v : Value) (hj : j.toInt = k) (hv : vs[k]? = some v) (hd : decode bs pc = .ok (.baload, 1)) (hp : pc + 1 = pc') (hr : Go p l e R s m args below meth c n0 Q K N h ce sl (mkF m pc' Ls (v :: st))) : Go p l e R s m args below meth c n0 Q K N h ce sl (mkF m pc Ls (.int j :: .ref a :: st)) := by
  subst hp
  obtain ⟨cl, A, e1, e2, e3⟩ := A.at hj (List.getElem?_eq_some_iff.mp hv).1
  exact Go.stepX (fun T locs X eT _ q => X.baloadBytes C.1 (j := j) (v := v) (by rw [eT]; exact A.1) (State.isArrayOf_alike C.2.2.2.1.alike A.2.1) A.2.2 e2 (e3.trans hv) (g := mkF m pc Ls (.int j :: .ref a :: st)) rfl rfl (hb C.2.1 hd) _ q) hr
theorem go_iastore (C : Cx p s m meth c Z own bs mx rt nm) {vs : List Value} {a : Addr} {j : Int32} {x : Int32} (A : Av Z h a .int vs) (k : Nat) (hj : j.toInt = k) (hk : k < vs.length) (ha : n0 ≤ a) (hd : decode bs pc = .ok (.iastore, 1)) (hp : pc + 1 = pc') (hr : ∀ h', Wr h h' a k (.int x) → Av Z h' a .int (vs.set k (.int x)) → Go p l e R s m args below meth c n0 Q K N h' ce sl (mkF m pc' Ls st)) : Go p l e R s m args below meth c n0 Q K N h ce sl (mkF m pc Ls (.int x :: .int j :: .ref a :: st)) := by
  subst hp
  obtain ⟨cl, A1, e1, e2, e3⟩ := A.at hj hk
  intro T locs X eT Nn
  obtain ⟨T', h', X', e', W', stp⟩ := stI X C.1 C.2.2.2.1 eT A1 e2 (g := mkF m pc Ls (.int x :: .int j :: .ref a :: st)) rfl rfl (hb C.2.1 hd)
  have W2 : Wr h h' a k (.int x) := by rw [clamp_of hj] at W'; exact W'
  obtain ⟨s₂, o, h1, r⟩ := hr h' W2 (A.set W2) T' _ X' e' (Fr.snoc X' Nn ha)
  exact ⟨s₂, o, stp _ h1, r⟩
theorem go_lastore (C : Cx p s m meth c Z own bs mx rt nm) {vs : List Value} {a : Addr} {j : Int32} {x : Int64} (A : Av Z h a .long vs) (k : Nat) (hj : j.toInt = k) (hk : k < vs.length) (ha : n0 ≤ a) (hd : decode bs pc = .ok (.lastore, 1)) (hp : pc + 1 = pc') (hr : ∀ h', Wr h h' a k (.long x) → Av Z h' a .long (vs.set k (.long x)) → Go p l e R s m args below meth c n0 Q K N h' ce sl (mkF m pc' Ls st)) : Go p l e R s m args below meth c n0 Q K N h ce sl (mkF m pc Ls (.long x :: .int j :: .ref a :: st)) := by
  subst hp
  obtain ⟨cl, A1, e1, e2, e3⟩ := A.at hj hk
  intro T locs X eT Nn
  obtain ⟨T', h', X', e', W', stp⟩ := stJ X C.1 C.2.2.2.1 eT A1 e2 (g := mkF m pc Ls (.long x :: .int j :: .ref a :: st)) rfl rfl (hb C.2.1 hd)
  have W2 : Wr h h' a k (.long x) := by rw [clamp_of hj] at W'; exact W'
  obtain ⟨s₂, o, h1, r⟩ := hr h' W2 (A.set W2) T' _ X' e' (Fr.snoc X' Nn ha)
  exact ⟨s₂, o, stp _ h1, r⟩
theorem go_bastore (C : Cx p s m meth c Z own bs mx rt nm) {vs : List Value} {a : Addr} {j : Int32} {x : Int32} (A : Av Z h a .byte vs) (k : Nat) (hj : j.toInt = k) (hk : k < vs.length) (x' : Int32) (hx : x.toInt8.toInt32 = x') (ha : n0 ≤ a) (hd : decode bs pc = .ok (.bastore, 1)) (hp : pc + 1 = pc') (hr : ∀ h', Wr h h' a k (.int x') → Av Z h' a .byte (vs.set k (.int x')) → Go p l e R s m args below meth c n0 Q K N h' ce sl (mkF m pc' Ls st)) : Go p l e R s m args below meth c n0 Q K N h ce sl (mkF m pc Ls (.int x :: .int j :: .ref a :: st)) := by
  subst hp hx
  obtain ⟨cl, A1, e1, e2, e3⟩ := A.at hj hk
  intro T locs X eT Nn
  obtain ⟨T', h', X', e', W', stp⟩ := stB X C.1 C.2.2.2.1 eT A1 e2 (g := mkF m pc Ls (.int x :: .int j :: .ref a :: st)) rfl rfl (hb C.2.1 hd)
  have W2 : Wr h h' a k (.int x.toInt8.toInt32) := by rw [clamp_of hj] at W'; exact W'
  obtain ⟨s₂, o, h1, r⟩ := hr h' W2 (A.set W2) T' _ X' e' (Fr.snoc X' Nn ha)
  exact ⟨s₂, o, stp _ h1, r⟩
theorem go_newarray (C : Cx p s m meth c Z own bs mx rt nm) {aty : ArrayType} {ty : FieldType} {n : Int32} {ce' sl' : Nat} (w : (Jvm.Cond.arrayClass ty).before a0 Z = true) (hty : newarray.typeOf aty = ty) (k cap : Nat) (hn : n.toInt = k) (hcap : k ≤ cap) (hc8 : cap * 8 ≤ 536870912) (hce : ce + 1 = ce') (hsl : sl + cap = sl') (hc : ce' ≤ R.cells) (hl : sl' ≤ R.slots) (hd : decode bs pc = .ok (.newarray aty, 2)) (hp : pc + 2 = pc')
    (hr : ∀ (h' : Heap) (a : Addr), h.size = a → Ext h h' → Av Z h' a ty (List.replicate k (defaultValue ty)) → Go p l e R s m args below meth c n0 Q K N h' ce' sl' (mkF m pc' Ls (.ref a :: st))) : Go p l e R s m args below meth c n0 Q K N h ce sl (mkF m pc Ls (.int n :: st)) := by
  subst hp hty hce hsl
  intro T locs X eT Nn
  obtain ⟨T', h', cA, X', e', E', A', stp⟩ := newP X C.1 C.2.2.2.1 w eT (g := mkF m pc Ls (.int n :: st)) rfl (hb C.2.1 hd) rfl (nonneg_of hn) (cap := cap) (by rw [clamp_of hn]; exact hcap) hc8 hc hl
  have hb31 : k < 2147483648 := by have := n.toInt_lt; omega
  obtain ⟨s₂, o, h1, r⟩ := hr h' _ rfl E' ⟨_, A', by simp [newA, clamp_of hn], by simpa using hb31⟩ T' _ X' e' Nn
  exact ⟨s₂, o, stp _ h1, r⟩
theorem go_newarrayE (C : Cx p s m meth c Z own bs mx rt nm) {aty : ArrayType} {ty : FieldType} {n : Int32} {ce' sl' : Nat} {ad : String} (w : (Jvm.Cond.arrayClass ty).before a0 Z = true) (hty : newarray.typeOf aty = ty) (had : "[" ++ ty.toString = ad) (k cap : Nat) (hn : n.toInt = k) (hcap : k ≤ cap) (hc8 : cap * 8 ≤ 536870912) (hce : ce + 1 = ce') (hsl : sl + cap = sl') (hc : ce' ≤ R.cells) (hl : sl' ≤ R.slots) (hd : decode bs pc = .ok (.newarray aty, 2)) (hp : pc + 2 = pc')
    (hr : ∀ (h' : Heap) (a : Addr), h.size = a → Ext h h' → Exa Z h' a ad → Av Z h' a ty (List.replicate k (defaultValue ty)) → Go p l e R s m args below meth c n0 Q K N h' ce' sl' (mkF m pc' Ls (.ref a :: st))) : Go p l e R s m args below meth c n0 Q K N h ce sl (mkF m pc Ls (.int n :: st)) := by
  subst hp hty hce hsl
  intro T locs X eT Nn
  obtain ⟨T', h', cA, X', e', E', A', Q', stp⟩ := newPE X C.1 C.2.2.2.1 w eT (g := mkF m pc Ls (.int n :: st)) rfl (hb C.2.1 hd) rfl (nonneg_of hn) (cap := cap) (by rw [clamp_of hn]; exact hcap) hc8 hc hl had
  have hb31 : k < 2147483648 := by have := n.toInt_lt; omega
  obtain ⟨s₂, o, h1, r⟩ := hr h' _ rfl E' Q' ⟨_, A', by simp [newA, clamp_of hn], by simpa using hb31⟩ T' _ X' e' Nn
  exact ⟨s₂, o, stp _ h1, r⟩
theorem go_clone (C : Cx p s m meth c Z own bs mx rt nm) {i : Nat} {ad : String} {ty : FieldType} {vs : List Value} {a : Addr} {W cap ce' sl' : Nat} (w1 : (Jvm.Cond.methodLink own i ⟨ad, "clone", "()Ljava/lang/Object;"⟩).before a0 Z = true) (w2 : (Jvm.Cond.sameMethod ad "java/lang/Object" "clone" "()Ljava/lang/Object;").before a0 Z = true) (w3 : (Jvm.Cond.native ⟨"java/lang/Object", "clone", "()Ljava/lang/Object;"⟩).before a0 Z = true) (w4 : (Jvm.Cond.instanceMethod ⟨"java/lang/Object", "clone", "()Ljava/lang/Object;"⟩).before a0 Z = true) (w5 : (Jvm.Cond.selects ad ⟨ad, "clone", "()Ljava/lang/Object;"⟩ ⟨"java/lang/Object", "clone", "()Ljava/lang/Object;"⟩).before a0 Z = true) (w6 : (Jvm.Cond.castable ad "java/lang/Cloneable").before a0 Z = true) (A : Av Z h a ty vs) (E : Exa Z h a ad) (hfit : ∀ v ∈ vs, fits ty v = true) (hls : Ls.size = mx) (hf : 1 ≤ R.frames) (hW : wt st = W) (hlo : W + 14 ≤ R.locals) (hcap : vs.length ≤ cap) (hce : ce + 1 = ce') (hsl : sl + cap = sl') (hc : ce' ≤ R.cells) (hl : sl' ≤ R.slots) (hd : decode bs pc = .ok (.invokevirtual i, 3)) (hp : pc + 3 = pc')
    (hr : ∀ (h' : Heap) (b : Addr), h.size = b → Ext h h' → Exa Z h' b ad → Av Z h' b ty vs → Go p l e R s m args below meth c n0 Q K N h' ce' sl' (mkF m pc' Ls (.ref b :: st))) : Go p l e R s m args below meth c n0 Q K N h ce sl (mkF m pc Ls (.ref a :: st)) := by
  subst hp hce hsl
  intro T locs X eT Nn
  obtain ⟨cl, A1, e1, e2⟩ := A
  have hsz : cl.slots.size = vs.length := by rw [← e1]; simp
  have FC : FitC Z cl := fitC_of A1 fun i hi v hv => hfit v (by rw [← e1]; exact Array.mem_toList_iff.mpr (Array.mem_of_getElem? hv))
  obtain ⟨T', h', X', e', E', A', Q', stp⟩ := cloneA X C.1 C.2.2.2.1 C.2.2.2.2.1 w1 w2 w3 w4 w5 w6 eT A1 E FC (g := mkF m pc Ls (.ref a :: st)) rfl (hls.trans C.2.2.1.symm) rfl (hb C.2.1 hd) hf (W := W) (cap := cap) (by show 2 * 0 + wt st ≤ W; omega) hlo (by rw [hsz]; exact hcap) hc hl
  obtain ⟨s₂, o, h1, r⟩ := hr h' _ rfl E' Q' ⟨_, A', e1, e2⟩ T' _ X' e' Nn
  exact ⟨s₂, o, stp _ h1, r⟩
theorem go_checkcast (C : Cx p s m meth c Z own bs mx rt nm) {i : Nat} {K0 : String} {a : Addr} (w : (Jvm.Cond.classLink own i K0).before a0 Z = true) (E : Exa Z h a K0) (hd : decode bs pc = .ok (.checkcast i, 3)) (hp : pc + 3 = pc') (hr : Go p l e R s m args below meth c n0 Q K N h ce sl (mkF m pc' Ls (.ref a :: st))) : Go p l e R s m args below meth c n0 Q K N h ce sl (mkF m pc Ls (.ref a :: st)) := by
  subst hp
  intro T locs X eT Nn
  obtain ⟨T', X', e', stp⟩ := castY X C.1 C.2.2.2.1 C.2.2.2.2.1 w eT (Ins.self E) (g := mkF m pc Ls (.ref a :: st)) rfl rfl (hb C.2.1 hd)
  obtain ⟨s₂, o, h1, r⟩ := hr T' locs X' e' Nn
  exact ⟨s₂, o, stp _ h1, r⟩
theorem go_objinit (C : Cx p s m meth c Z own bs mx rt nm) {i : Nat} {a : Addr} {W : Nat} (w1 : (Jvm.Cond.methodLink own i Lib.objectInit).before a0 Z = true) (w2 : (Jvm.Cond.instanceMethod Lib.objectInit).before a0 Z = true) (w3 : (Jvm.Cond.code Lib.objectInit ⟨#[0xb1]⟩ 1 none).before a0 Z = true) (hls : Ls.size = mx) (hf : 1 ≤ R.frames) (hW : wt st = W) (hl : W + 12 ≤ R.locals) (hd : decode bs pc = .ok (.invokespecial i, 3)) (hp : pc + 3 = pc') (hr : Go p l e R s m args below meth c n0 Q K N h ce sl (mkF m pc' Ls st)) : Go p l e R s m args below meth c n0 Q K N h ce sl (mkF m pc Ls (.ref a :: st)) := by
  subst hp
  intro T locs X eT Nn
  obtain ⟨T', X', e', stp⟩ := initO X C.1 C.2.2.2.1 C.2.2.2.2.1 w1 w2 w3 eT (g := mkF m pc Ls (.ref a :: st)) rfl (hls.trans C.2.2.1.symm) rfl (hb C.2.1 hd) hf (W := W) (by show 2 * 0 + wt st ≤ W; omega) hl
  obtain ⟨s₂, o, h1, r⟩ := hr T' locs X' e' Nn
  exact ⟨s₂, o, stp _ h1, r⟩
theorem back_of_sat {y : MethodName} {cb : ByteArray} {cm : Nat} {cr : Option FieldType} {rm : Room} {as : List Value} {Qc : Option Value → Heap → Prop} {W len : Nat} (S : Sat l Z y cb cm cr rm as h n0 Qc) (hZ : Z.Warmed39 s.vm) (w3 : (Jvm.Cond.initialized y.cls).before a0 Z = true) (w4 : (Jvm.Cond.code y cb cm cr).before a0 Z = true) (hfr : rm.frames + 1 ≤ R.frames) (hlo : W + (cm + 11) + rm.locals ≤ R.locals) :
    Back l R p e below s args y len W (fun A a => a = as.toArray ∧ A.U.heap = h ∧ A.cells + rm.cells ≤ R.cells ∧ A.slots + rm.slots ≤ R.slots) (fun A _ v B => ∃ L, (Qc v B.U.heap ∧ Fr n0 L) ∧ B.locs = A.locs ++ L ∧ B.cells = A.cells + rm.cells ∧ B.slots = A.slots + rm.slots) :=
  backOf (Q := fun v h L => Qc v h ∧ Fr n0 L) (W := W) (S []) hZ w4 w3 hfr hlo
theorem go_static (C : Cx p s m meth c Z own bs mx rt nm) {y : MethodName} {i : Nat} {cb : ByteArray} {cm : Nat} {cr : Option FieldType} {rm : Room} {as rest : List Value} {W : Nat} {ps : List FieldType} {pr : Option FieldType} {ce' sl' : Nat} {Qc : Option Value → Heap → Prop} (S : Sat l Z y cb cm cr rm as h n0 Qc) (w1 : (Jvm.Cond.methodLink own i y).before a0 Z = true) (w2 : (Jvm.Cond.static y).before a0 Z = true) (w3 : (Jvm.Cond.initialized y.cls).before a0 Z = true) (w4 : (Jvm.Cond.code y cb cm cr).before a0 Z = true) (hy : y.cls ≠ "java/lang/invoke/MethodHandle" ∧ y.cls ≠ "java/lang/invoke/VarHandle") (hpd : parseMethodDescriptor y.desc = some ⟨ps, pr⟩) (hlen : as.length = ps.length) (hls : Ls.size = mx) (hW : wt rest = W) (hfr : rm.frames + 1 ≤ R.frames) (hlo : W + (cm + 11) + rm.locals ≤ R.locals) (hce : ce + rm.cells = ce') (hsl : sl + rm.slots = sl') (hcc : ce' ≤ R.cells) (hss : sl' ≤ R.slots) (hd : decode bs pc = .ok (.invokestatic i, 3)) (hp : pc + 3 = pc') (hst : st = as.reverse ++ rest) (hr : ∀ v h', Qc v h' → Go p l e R s m args below meth c n0 Q K N h' ce' sl' (mkF m pc' Ls (v.toList ++ rest))) : Go p l e R s m args below meth c n0 Q K N h ce sl (mkF m pc Ls st) := by
  subst hp hce hsl
  intro T locs X eT Nn
  have hZ := C.2.2.2.1
  obtain ⟨v, _, ⟨T', L', k', n'⟩, -, X', ⟨Lc, hQ, l', y', z'⟩, stp⟩ := Jvm.LawKit.callS X C.1 (y := y) C.2.2.2.2.1 (mvT hZ w1) (mvT hZ w2) (mvT hZ w3) (mvT hZ w4) hy (back_of_sat S hZ w3 w4 hfr hlo) (g := mkF m pc Ls st) rfl (hls.trans C.2.2.1.symm) (argsL := as) (rest := rest) (lenOf hpd hlen) hst (by show 2 * 0 + wt rest ≤ W; omega) (hb C.2.1 hd) (fun _ _ => ⟨rfl, eT, hcc, hss⟩)
  dsimp only [Pt.U, Pt.locs, Pt.cells, Pt.slots] at X' l' y' z' stp hQ
  subst l' y' z'
  obtain ⟨s₂, o, h1, r⟩ := hr v T'.heap hQ.1 T' _ X' rfl (Fr.app Nn hQ.2)
  exact ⟨s₂, o, stp _ h1, r⟩
theorem go_special (C : Cx p s m meth c Z own bs mx rt nm) {y : MethodName} {i : Nat} {cb : ByteArray} {cm : Nat} {rm : Room} {as rest : List Value} {W : Nat} {ps : List FieldType} {pr : Option FieldType} {ce' sl' : Nat} {a : Addr} {Qc : Option Value → Heap → Prop} (S : Sat l Z y cb cm none rm (.ref a :: as) h n0 Qc) (hyn : y.name = "<init>") (w1 : (Jvm.Cond.methodLink own i y).before a0 Z = true) (w2 : (Jvm.Cond.instanceMethod y).before a0 Z = true) (w3 : (Jvm.Cond.initialized y.cls).before a0 Z = true) (w4 : (Jvm.Cond.code y cb cm none).before a0 Z = true) (hy : y.cls ≠ "java/lang/invoke/MethodHandle" ∧ y.cls ≠ "java/lang/invoke/VarHandle") (hpd : parseMethodDescriptor y.desc = some ⟨ps, pr⟩) (hlen : as.length = ps.length) (hls : Ls.size = mx) (hW : wt rest = W) (hfr : rm.frames + 1 ≤ R.frames) (hlo : W + (cm + 11) + rm.locals ≤ R.locals) (hce : ce + rm.cells = ce') (hsl : sl + rm.slots = sl') (hcc : ce' ≤ R.cells) (hss : sl' ≤ R.slots) (hd : decode bs pc = .ok (.invokespecial i, 3)) (hp : pc + 3 = pc') (hst : st = as.reverse ++ .ref a :: rest) (hr : ∀ v h', Qc v h' → Go p l e R s m args below meth c n0 Q K N h' ce' sl' (mkF m pc' Ls (v.toList ++ rest))) : Go p l e R s m args below meth c n0 Q K N h ce sl (mkF m pc Ls st) := by
  subst hp hce hsl
  intro T locs X eT Nn
  have hZ := C.2.2.2.1
  obtain ⟨v, _, ⟨T', L', k', n'⟩, -, X', ⟨Lc, hQ, l', y', z'⟩, stp⟩ := X.specialBack C.1 (y := y) hyn C.2.2.2.2.1 (mvT hZ w1) (mvT hZ w2) (mvT hZ w4) hy (back_of_sat S hZ w3 w4 hfr hlo) (g := mkF m pc Ls st) rfl (hls.trans C.2.2.1.symm) (Steps.refl _) (a := a) (argsL := as) (rest := rest) (lenOf hpd hlen) hst (by show 2 * 0 + wt rest ≤ W; omega) (hb C.2.1 hd) (fun _ _ => ⟨rfl, eT, hcc, hss⟩)
  dsimp only [Pt.U, Pt.locs, Pt.cells, Pt.slots] at X' l' y' z' stp hQ
  subst l' y' z'
  obtain ⟨s₂, o, h1, r⟩ := hr v T'.heap hQ.1 T' _ X' rfl (Fr.app Nn hQ.2)
  exact ⟨s₂, o, stp.trans h1, r⟩
theorem go_virtual (C : Cx p s m meth c Z own bs mx rt nm) {y : MethodName} {i : Nat} {cb : ByteArray} {cm : Nat} {cr : Option FieldType} {rm : Room} {as rest : List Value} {W : Nat} {ps : List FieldType} {pr : Option FieldType} {ce' sl' : Nat} {a : Addr} {C0 : String} {Qc : Option Value → Heap → Prop} (S : Sat l Z y cb cm cr rm (.ref a :: as) h n0 Qc) (E : Exa Z h a C0) (w1 : (Jvm.Cond.methodLink own i y).before a0 Z = true) (w5 : (Jvm.Cond.declares y).before a0 Z = true) (w6 : (Jvm.Cond.selects C0 y y).before a0 Z = true) (w2 : (Jvm.Cond.instanceMethod y).before a0 Z = true) (w3 : (Jvm.Cond.initialized y.cls).before a0 Z = true) (w4 : (Jvm.Cond.code y cb cm cr).before a0 Z = true) (hy : y.cls ≠ "java/lang/invoke/MethodHandle" ∧ y.cls ≠ "java/lang/invoke/VarHandle") (hpd : parseMethodDescriptor y.desc = some ⟨ps, pr⟩) (hlen : as.length = ps.length) (hls : Ls.size = mx) (hW : wt rest = W) (hfr : rm.frames + 1 ≤ R.frames) (hlo : W + (cm + 11) + rm.locals ≤ R.locals) (hce : ce + rm.cells = ce') (hsl : sl + rm.slots = sl') (hcc : ce' ≤ R.cells) (hss : sl' ≤ R.slots) (hd : decode bs pc = .ok (.invokevirtual i, 3)) (hp : pc + 3 = pc') (hst : st = as.reverse ++ .ref a :: rest) (hr : ∀ v h', Qc v h' → Go p l e R s m args below meth c n0 Q K N h' ce' sl' (mkF m pc' Ls (v.toList ++ rest))) : Go p l e R s m args below meth c n0 Q K N h ce sl (mkF m pc Ls st) := by
  subst hp hce hsl
  intro T locs X eT Nn
  have hZ := C.2.2.2.1
  obtain ⟨cq, kq, qa, qb, qc⟩ := isOf hZ eT E
  obtain ⟨v, _, ⟨T', L', k', n'⟩, -, X', ⟨Lc, hQ, l', y', z'⟩, stp⟩ := X.virtualBack C.1 (y := y) (z := y) C.2.2.2.2.1 (mvT hZ w1) (mvT hZ w5) (notFace_of_selects (args := #[]) (mvT hZ w6)) (mvT hZ w6) (mvT hZ w2) hy (back_of_sat S hZ w3 w4 hfr hlo) qa qc (g := mkF m pc Ls st) rfl (hls.trans C.2.2.1.symm) (Steps.refl _) (argsL := as) (rest := rest) (lenOf hpd hlen) hst (by show 2 * 0 + wt rest ≤ W; omega) (hb C.2.1 hd) (fun _ _ => ⟨rfl, eT, hcc, hss⟩)
  dsimp only [Pt.U, Pt.locs, Pt.cells, Pt.slots] at X' l' y' z' stp hQ
  subst l' y' z'
  obtain ⟨s₂, o, h1, r⟩ := hr v T'.heap hQ.1 T' _ X' rfl (Fr.app Nn hQ.2)
  exact ⟨s₂, o, stp.trans h1, r⟩
theorem go_private (C : Cx p s m meth c Z own bs mx rt nm) {y : MethodName} {i : Nat} {cb : ByteArray} {cm : Nat} {cr : Option FieldType} {rm : Room} {as rest : List Value} {W : Nat} {ps : List FieldType} {pr : Option FieldType} {ce' sl' : Nat} {a : Addr} {C0 : String} {Qc : Option Value → Heap → Prop} (S : Sat l Z y cb cm cr rm (.ref a :: as) h n0 Qc) (E : Exa Z h a C0) (w1 : (Jvm.Cond.methodLink own i y).before a0 Z = true) (w5 : (Jvm.Cond.privateMethod y).before a0 Z = true) (w6 : (Jvm.Cond.selects y.cls y y).before a0 Z = true) (w2 : (Jvm.Cond.instanceMethod y).before a0 Z = true) (w3 : (Jvm.Cond.initialized y.cls).before a0 Z = true) (w4 : (Jvm.Cond.code y cb cm cr).before a0 Z = true) (hy : y.cls ≠ "java/lang/invoke/MethodHandle" ∧ y.cls ≠ "java/lang/invoke/VarHandle") (hpd : parseMethodDescriptor y.desc = some ⟨ps, pr⟩) (hlen : as.length = ps.length) (hls : Ls.size = mx) (hW : wt rest = W) (hfr : rm.frames + 1 ≤ R.frames) (hlo : W + (cm + 11) + rm.locals ≤ R.locals) (hce : ce + rm.cells = ce') (hsl : sl + rm.slots = sl') (hcc : ce' ≤ R.cells) (hss : sl' ≤ R.slots) (hd : decode bs pc = .ok (.invokevirtual i, 3)) (hp : pc + 3 = pc') (hst : st = as.reverse ++ .ref a :: rest) (hr : ∀ v h', Qc v h' → Go p l e R s m args below meth c n0 Q K N h' ce' sl' (mkF m pc' Ls (v.toList ++ rest))) : Go p l e R s m args below meth c n0 Q K N h ce sl (mkF m pc Ls st) := by
  subst hp hce hsl
  intro T locs X eT Nn
  have hZ := C.2.2.2.1
  obtain ⟨cell, hc1, hc2⟩ := E.cell
  obtain ⟨v, _, ⟨T', L', k', n'⟩, -, X', ⟨Lc, hQ, l', y', z'⟩, stp⟩ := X.privateBack C.1 (y := y) C.2.2.2.2.1 (mvT hZ w1) (mvT hZ w2) (mvT hZ w6) (Cond.privateMethod_at (args := #[]) (mvP hZ w5)) (mvT hZ w4) hy (back_of_sat S hZ w3 w4 hfr hlo) (g := mkF m pc Ls st) rfl (hls.trans C.2.2.1.symm) (Steps.refl _) (a := a) (by rw [eT]; exact hc1) hc2 (argsL := as) (rest := rest) (lenOf hpd hlen) hst (by show 2 * 0 + wt rest ≤ W; omega) (hb C.2.1 hd) (fun _ _ => ⟨rfl, eT, hcc, hss⟩)
  dsimp only [Pt.U, Pt.locs, Pt.cells, Pt.slots] at X' l' y' z' stp hQ
  subst l' y' z'
  obtain ⟨s₂, o, h1, r⟩ := hr v T'.heap hQ.1 T' _ X' rfl (Fr.app Nn hQ.2)
  exact ⟨s₂, o, stp.trans h1, r⟩
theorem own_selects_private {y : MethodName} {k : Nat} (wi : (Jvm.Cond.instantiable y.cls k).before a0 Z = true) (wp : (Jvm.Cond.privateMethod y).before a0 Z = true) (wm : (Jvm.Cond.instanceMethod y).before a0 Z = true) (hy : y.cls ≠ "java/lang/invoke/MethodHandle" ∧ y.cls ≠ "java/lang/invoke/VarHandle") : (Jvm.Cond.selects y.cls y y).before a0 Z = true := by
  obtain ⟨mk, methM, hnamed, hmethM, hstM, habM⟩ := Cond.instanceMethod_spec wm
  obtain ⟨c1, k1, q1, q2, q3, q4, -⟩ := Cond.instantiable_spec wi
  have hc := findClass_of_methodNamed hnamed
  cases q1.symm.trans hc
  have hf := State.methodFound?_of_named hnamed hy
  have hs : selectMethod {} Z.vm mk.cls mk = .method mk := selectMethod_private hmethM (Cond.privateMethod_at wp mk methM hnamed hmethM)
  have hi : k1.isInterface = false := by
    cases h : k1.isInterface
    · rfl
    · rw [h] at q4; simp at q4
  simp [Cond.before, Cond.holds, Cond.value, hc, hf, hnamed, hs, q2, hi]
theorem go_specialW (C : Cx p s m meth c Z own bs mx rt nm) {y : MethodName} {i : Nat} {cb : ByteArray} {cm : Nat} {rm : Room} {as rest : List Value} {W : Nat} {ps : List FieldType} {pr : Option FieldType} {ce' sl' : Nat} {a : Addr} {Qc : Option Value → Heap → Prop} (S : Sat l Z y cb cm none rm (.ref a :: as) h n0 Qc) (hyn : y.name = "<init>") (w1 : (Jvm.Cond.methodRef own i y).before a0 Z = true) (w2 : (Jvm.Cond.instanceMethod y).before a0 Z = true) (w3 : (Jvm.Cond.initialized y.cls).before a0 Z = true) (w4 : (Jvm.Cond.code y cb cm none).before a0 Z = true) (hy : y.cls ≠ "java/lang/invoke/MethodHandle" ∧ y.cls ≠ "java/lang/invoke/VarHandle") (hpd : parseMethodDescriptor y.desc = some ⟨ps, pr⟩) (hlen : as.length = ps.length) (hls : Ls.size = mx) (hW : wt rest = W) (hfr : rm.frames + 1 ≤ R.frames) (hlo : W + (cm + 11) + rm.locals ≤ R.locals) (hce : ce + rm.cells = ce') (hsl : sl + rm.slots = sl') (hcc : ce' ≤ R.cells) (hss : sl' ≤ R.slots) (hd : decode bs pc = .ok (.invokespecial i, 3)) (hp : pc + 3 = pc') (hst : st = as.reverse ++ .ref a :: rest) (hr : ∀ v h', Qc v h' → Go p l e R s m args below meth c n0 Q K N h' ce' sl' (mkF m pc' Ls (v.toList ++ rest))) : Go p l e R s m args below meth c n0 Q K N h ce sl (mkF m pc Ls st) := by
  subst hp hce hsl
  intro T locs X eT Nn
  have hZ := C.2.2.2.1
  have hT : Z.Warmed39 T.vm := wtrans hZ X.warmed
  obtain ⟨mZ, _, hnZ, -⟩ := Cond.instanceMethod_spec w2
  have w1T : (Jvm.Cond.methodRef own i y).before a0 T = true := (Cond.methodRef_warmed39 hT hnZ hy w1 :)
  obtain ⟨mO, methO, hnO, hmO, hstO, habO⟩ := Cond.instanceMethod_spec (mv (args := a0) hT w2)
  obtain ⟨methO', cO, hmO', hcO, hbO, hlO, -, hlockO, -, hsigO⟩ := Cond.code_spec hnO (mv (args := a0) hT w4)
  cases hmO.symm.trans hmO'
  obtain ⟨kO, hkO, hnameO⟩ := className_of_methodNamed hnO
  obtain ⟨hnameMO, hdescO⟩ := name_of_methodNamed hnO hmO
  have hownT : T.vm.findClass own = some m.cls := by rw [X.warmed.alike.findClass]; exact C.2.2.2.2.1
  obtain ⟨m', c', hf', hready, hfc, hnr⟩ := Cond.methodRef_named e hownT w1T
  have e1 : m' = mO := Option.some.inj (hf'.symm.trans (State.methodFound?_of_named hnO hy))
  subst e1
  have e2 : c' = m'.cls := Option.some.inj (hfc.symm.trans (findClass_of_methodNamed hnO))
  subst e2
  have hfound : lookupSpecial T.vm m'.cls "<init>" methO.desc = .method m' := by rw [hdescO, ← hyn]; exact lookupSpecial_of_named hnO hmO hstO
  have hstep : ∀ target, (∀ acts, Steps p.tables e below (doInvoke e (T.setTop { mkF m pc Ls st with stack := rest }) acts m' (.ref a :: as).toArray).1 target) → Steps p.tables e below (T.setTop (mkF m pc Ls st)) target := fun target hrest => by
    jvm_step X.here [C.1, (hb C.2.1 hd), invokespecial.wp_init (e := e) (s := T) (k := kO) (meth := methO) (m := m') (a := a) (args := as) (rest := rest) (f := mkF m pc Ls st) X.here.top hnr hready hkO hmO (by rw [hnameMO]; exact hyn) hstO habO hfound (lenOf hpd hlen _ hsigO) hst]
    exact hrest
  have B := back_of_sat (p := p) (e := e) (below := below) (args := args) (R := R) (len := 3) S hZ w3 w4 hfr hlo
  obtain ⟨v, ⟨T', L', k', n'⟩, X', ⟨Lc, hQ, l', y', z'⟩, stp⟩ := B m meth c ⟨T, locs, ce, sl⟩ { mkF m pc Ls st with stack := rest } (.invokespecial i) m' (.ref a :: as).toArray X rfl (hls.trans C.2.2.1.symm) (hb C.2.1 hd) (by show 2 * 0 + wt rest ≤ W; omega) hnO ⟨rfl, eT, hcc, hss⟩
  dsimp only [Pt.U, Pt.locs, Pt.cells, Pt.slots] at X' l' y' z' stp hQ
  subst l' y' z'
  obtain ⟨s₂, o, h1, r⟩ := hr v T'.heap hQ.1 T' _ X' rfl (Fr.app Nn hQ.2)
  exact ⟨s₂, o, (hstep _ (fun acts => by rw [doInvoke_state]; exact Steps.refl _)).trans (stp.trans h1), r⟩
theorem go_staticP (C : Cx p s m meth c Z own bs mx rt nm) {y : MethodName} {i : Nat} {cb : ByteArray} {cm : Nat} {cr : Option FieldType} {rm : Room} {as rest : List Value} {W : Nat} {ps : List FieldType} {pr : Option FieldType}  (v : Value) (S : Sat l Z y cb cm cr rm as h n0 (RV fun r h' => r = v ∧ h' = h)) (w1 : (Jvm.Cond.methodLink own i y).before a0 Z = true) (w2 : (Jvm.Cond.static y).before a0 Z = true) (w3 : (Jvm.Cond.initialized y.cls).before a0 Z = true) (w4 : (Jvm.Cond.code y cb cm cr).before a0 Z = true) (hy : y.cls ≠ "java/lang/invoke/MethodHandle" ∧ y.cls ≠ "java/lang/invoke/VarHandle") (hpd : parseMethodDescriptor y.desc = some ⟨ps, pr⟩) (hlen : as.length = ps.length) (hls : Ls.size = mx) (hW : wt rest = W) (hfr : rm.frames + 1 ≤ R.frames) (hlo : W + (cm + 11) + rm.locals ≤ R.locals) (hce : rm.cells = 0) (hsl : rm.slots = 0) (hcc : ce ≤ R.cells) (hss : sl ≤ R.slots) (hd : decode bs pc = .ok (.invokestatic i, 3)) (hp : pc + 3 = pc') (hst : st = as.reverse ++ rest) (hr : Go p l e R s m args below meth c n0 Q K N h ce sl (mkF m pc' Ls (v :: rest))) : Go p l e R s m args below meth c n0 Q K N h ce sl (mkF m pc Ls st) :=
  go_static C S w1 w2 w3 w4 hy hpd hlen hls hW hfr hlo (by rw [hce]; rfl) (by rw [hsl]; rfl) hcc hss hd hp hst (fun w h' hq => by obtain ⟨r, rfl, q1, q2⟩ := hq; rw [q1, q2]; exact hr)
theorem go_staticV (C : Cx p s m meth c Z own bs mx rt nm) {y : MethodName} {i : Nat} {cb : ByteArray} {cm : Nat} {cr : Option FieldType} {rm : Room} {as rest : List Value} {W : Nat} {ps : List FieldType} {pr : Option FieldType} {ce' sl' : Nat}  {P : Value → Heap → Prop} (S : Sat l Z y cb cm cr rm as h n0 (RV P)) (w1 : (Jvm.Cond.methodLink own i y).before a0 Z = true) (w2 : (Jvm.Cond.static y).before a0 Z = true) (w3 : (Jvm.Cond.initialized y.cls).before a0 Z = true) (w4 : (Jvm.Cond.code y cb cm cr).before a0 Z = true) (hy : y.cls ≠ "java/lang/invoke/MethodHandle" ∧ y.cls ≠ "java/lang/invoke/VarHandle") (hpd : parseMethodDescriptor y.desc = some ⟨ps, pr⟩) (hlen : as.length = ps.length) (hls : Ls.size = mx) (hW : wt rest = W) (hfr : rm.frames + 1 ≤ R.frames) (hlo : W + (cm + 11) + rm.locals ≤ R.locals) (hce : ce + rm.cells = ce') (hsl : sl + rm.slots = sl') (hcc : ce' ≤ R.cells) (hss : sl' ≤ R.slots) (hd : decode bs pc = .ok (.invokestatic i, 3)) (hp : pc + 3 = pc') (hst : st = as.reverse ++ rest) (hr : ∀ r h', P r h' → Go p l e R s m args below meth c n0 Q K N h' ce' sl' (mkF m pc' Ls (r :: rest))) : Go p l e R s m args below meth c n0 Q K N h ce sl (mkF m pc Ls st) :=
  go_static C S w1 w2 w3 w4 hy hpd hlen hls hW hfr hlo hce hsl hcc hss hd hp hst (fun v h' hq => by obtain ⟨r, rfl, q⟩ := hq; exact hr r h' q)
theorem go_staticN (C : Cx p s m meth c Z own bs mx rt nm) {y : MethodName} {i : Nat} {cb : ByteArray} {cm : Nat} {cr : Option FieldType} {rm : Room} {as rest : List Value} {W : Nat} {ps : List FieldType} {pr : Option FieldType} {ce' sl' : Nat}  {P : Heap → Prop} (S : Sat l Z y cb cm cr rm as h n0 (RN P)) (w1 : (Jvm.Cond.methodLink own i y).before a0 Z = true) (w2 : (Jvm.Cond.static y).before a0 Z = true) (w3 : (Jvm.Cond.initialized y.cls).before a0 Z = true) (w4 : (Jvm.Cond.code y cb cm cr).before a0 Z = true) (hy : y.cls ≠ "java/lang/invoke/MethodHandle" ∧ y.cls ≠ "java/lang/invoke/VarHandle") (hpd : parseMethodDescriptor y.desc = some ⟨ps, pr⟩) (hlen : as.length = ps.length) (hls : Ls.size = mx) (hW : wt rest = W) (hfr : rm.frames + 1 ≤ R.frames) (hlo : W + (cm + 11) + rm.locals ≤ R.locals) (hce : ce + rm.cells = ce') (hsl : sl + rm.slots = sl') (hcc : ce' ≤ R.cells) (hss : sl' ≤ R.slots) (hd : decode bs pc = .ok (.invokestatic i, 3)) (hp : pc + 3 = pc') (hst : st = as.reverse ++ rest) (hr : ∀ h', P h' → Go p l e R s m args below meth c n0 Q K N h' ce' sl' (mkF m pc' Ls rest)) : Go p l e R s m args below meth c n0 Q K N h ce sl (mkF m pc Ls st) :=
  go_static C S w1 w2 w3 w4 hy hpd hlen hls hW hfr hlo hce hsl hcc hss hd hp hst (fun v h' hq => by obtain ⟨rfl, q⟩ := hq; exact hr h' q)
theorem go_virtualP (C : Cx p s m meth c Z own bs mx rt nm) {y : MethodName} {i : Nat} {cb : ByteArray} {cm : Nat} {cr : Option FieldType} {rm : Room} {as rest : List Value} {W : Nat} {ps : List FieldType} {pr : Option FieldType} {a : Addr} {C0 : String} (v : Value) (S : Sat l Z y cb cm cr rm (.ref a :: as) h n0 (RV fun r h' => r = v ∧ h' = h)) (E : Exa Z h a C0) (w1 : (Jvm.Cond.methodLink own i y).before a0 Z = true) (w5 : (Jvm.Cond.declares y).before a0 Z = true) (w6 : (Jvm.Cond.selects C0 y y).before a0 Z = true) (w2 : (Jvm.Cond.instanceMethod y).before a0 Z = true) (w3 : (Jvm.Cond.initialized y.cls).before a0 Z = true) (w4 : (Jvm.Cond.code y cb cm cr).before a0 Z = true) (hy : y.cls ≠ "java/lang/invoke/MethodHandle" ∧ y.cls ≠ "java/lang/invoke/VarHandle") (hpd : parseMethodDescriptor y.desc = some ⟨ps, pr⟩) (hlen : as.length = ps.length) (hls : Ls.size = mx) (hW : wt rest = W) (hfr : rm.frames + 1 ≤ R.frames) (hlo : W + (cm + 11) + rm.locals ≤ R.locals) (hce : rm.cells = 0) (hsl : rm.slots = 0) (hcc : ce ≤ R.cells) (hss : sl ≤ R.slots) (hd : decode bs pc = .ok (.invokevirtual i, 3)) (hp : pc + 3 = pc') (hst : st = as.reverse ++ .ref a :: rest) (hr : Go p l e R s m args below meth c n0 Q K N h ce sl (mkF m pc' Ls (v :: rest))) : Go p l e R s m args below meth c n0 Q K N h ce sl (mkF m pc Ls st) :=
  go_virtual C S E w1 w5 w6 w2 w3 w4 hy hpd hlen hls hW hfr hlo (by rw [hce]; rfl) (by rw [hsl]; rfl) hcc hss hd hp hst (fun w h' hq => by obtain ⟨r, rfl, q1, q2⟩ := hq; rw [q1, q2]; exact hr)
theorem go_virtualV (C : Cx p s m meth c Z own bs mx rt nm) {y : MethodName} {i : Nat} {cb : ByteArray} {cm : Nat} {cr : Option FieldType} {rm : Room} {as rest : List Value} {W : Nat} {ps : List FieldType} {pr : Option FieldType} {ce' sl' : Nat} {a : Addr} {C0 : String} {P : Value → Heap → Prop} (S : Sat l Z y cb cm cr rm (.ref a :: as) h n0 (RV P)) (E : Exa Z h a C0) (w1 : (Jvm.Cond.methodLink own i y).before a0 Z = true) (w5 : (Jvm.Cond.declares y).before a0 Z = true) (w6 : (Jvm.Cond.selects C0 y y).before a0 Z = true) (w2 : (Jvm.Cond.instanceMethod y).before a0 Z = true) (w3 : (Jvm.Cond.initialized y.cls).before a0 Z = true) (w4 : (Jvm.Cond.code y cb cm cr).before a0 Z = true) (hy : y.cls ≠ "java/lang/invoke/MethodHandle" ∧ y.cls ≠ "java/lang/invoke/VarHandle") (hpd : parseMethodDescriptor y.desc = some ⟨ps, pr⟩) (hlen : as.length = ps.length) (hls : Ls.size = mx) (hW : wt rest = W) (hfr : rm.frames + 1 ≤ R.frames) (hlo : W + (cm + 11) + rm.locals ≤ R.locals) (hce : ce + rm.cells = ce') (hsl : sl + rm.slots = sl') (hcc : ce' ≤ R.cells) (hss : sl' ≤ R.slots) (hd : decode bs pc = .ok (.invokevirtual i, 3)) (hp : pc + 3 = pc') (hst : st = as.reverse ++ .ref a :: rest) (hr : ∀ r h', P r h' → Go p l e R s m args below meth c n0 Q K N h' ce' sl' (mkF m pc' Ls (r :: rest))) : Go p l e R s m args below meth c n0 Q K N h ce sl (mkF m pc Ls st) :=
  go_virtual C S E w1 w5 w6 w2 w3 w4 hy hpd hlen hls hW hfr hlo hce hsl hcc hss hd hp hst (fun v h' hq => by obtain ⟨r, rfl, q⟩ := hq; exact hr r h' q)
theorem go_virtualN (C : Cx p s m meth c Z own bs mx rt nm) {y : MethodName} {i : Nat} {cb : ByteArray} {cm : Nat} {cr : Option FieldType} {rm : Room} {as rest : List Value} {W : Nat} {ps : List FieldType} {pr : Option FieldType} {ce' sl' : Nat} {a : Addr} {C0 : String} {P : Heap → Prop} (S : Sat l Z y cb cm cr rm (.ref a :: as) h n0 (RN P)) (E : Exa Z h a C0) (w1 : (Jvm.Cond.methodLink own i y).before a0 Z = true) (w5 : (Jvm.Cond.declares y).before a0 Z = true) (w6 : (Jvm.Cond.selects C0 y y).before a0 Z = true) (w2 : (Jvm.Cond.instanceMethod y).before a0 Z = true) (w3 : (Jvm.Cond.initialized y.cls).before a0 Z = true) (w4 : (Jvm.Cond.code y cb cm cr).before a0 Z = true) (hy : y.cls ≠ "java/lang/invoke/MethodHandle" ∧ y.cls ≠ "java/lang/invoke/VarHandle") (hpd : parseMethodDescriptor y.desc = some ⟨ps, pr⟩) (hlen : as.length = ps.length) (hls : Ls.size = mx) (hW : wt rest = W) (hfr : rm.frames + 1 ≤ R.frames) (hlo : W + (cm + 11) + rm.locals ≤ R.locals) (hce : ce + rm.cells = ce') (hsl : sl + rm.slots = sl') (hcc : ce' ≤ R.cells) (hss : sl' ≤ R.slots) (hd : decode bs pc = .ok (.invokevirtual i, 3)) (hp : pc + 3 = pc') (hst : st = as.reverse ++ .ref a :: rest) (hr : ∀ h', P h' → Go p l e R s m args below meth c n0 Q K N h' ce' sl' (mkF m pc' Ls rest)) : Go p l e R s m args below meth c n0 Q K N h ce sl (mkF m pc Ls st) :=
  go_virtual C S E w1 w5 w6 w2 w3 w4 hy hpd hlen hls hW hfr hlo hce hsl hcc hss hd hp hst (fun v h' hq => by obtain ⟨rfl, q⟩ := hq; exact hr h' q)
theorem go_privateP (C : Cx p s m meth c Z own bs mx rt nm) {y : MethodName} {i : Nat} {cb : ByteArray} {cm : Nat} {cr : Option FieldType} {rm : Room} {as rest : List Value} {W : Nat} {ps : List FieldType} {pr : Option FieldType} {a : Addr} {C0 : String} (v : Value) (S : Sat l Z y cb cm cr rm (.ref a :: as) h n0 (RV fun r h' => r = v ∧ h' = h)) (E : Exa Z h a C0) (w1 : (Jvm.Cond.methodLink own i y).before a0 Z = true) (w5 : (Jvm.Cond.privateMethod y).before a0 Z = true) (w6 : (Jvm.Cond.selects y.cls y y).before a0 Z = true) (w2 : (Jvm.Cond.instanceMethod y).before a0 Z = true) (w3 : (Jvm.Cond.initialized y.cls).before a0 Z = true) (w4 : (Jvm.Cond.code y cb cm cr).before a0 Z = true) (hy : y.cls ≠ "java/lang/invoke/MethodHandle" ∧ y.cls ≠ "java/lang/invoke/VarHandle") (hpd : parseMethodDescriptor y.desc = some ⟨ps, pr⟩) (hlen : as.length = ps.length) (hls : Ls.size = mx) (hW : wt rest = W) (hfr : rm.frames + 1 ≤ R.frames) (hlo : W + (cm + 11) + rm.locals ≤ R.locals) (hce : rm.cells = 0) (hsl : rm.slots = 0) (hcc : ce ≤ R.cells) (hss : sl ≤ R.slots) (hd : decode bs pc = .ok (.invokevirtual i, 3)) (hp : pc + 3 = pc') (hst : st = as.reverse ++ .ref a :: rest) (hr : Go p l e R s m args below meth c n0 Q K N h ce sl (mkF m pc' Ls (v :: rest))) : Go p l e R s m args below meth c n0 Q K N h ce sl (mkF m pc Ls st) :=
  go_private C S E w1 w5 w6 w2 w3 w4 hy hpd hlen hls hW hfr hlo (by rw [hce]; rfl) (by rw [hsl]; rfl) hcc hss hd hp hst (fun w h' hq => by obtain ⟨r, rfl, q1, q2⟩ := hq; rw [q1, q2]; exact hr)
theorem go_privateV (C : Cx p s m meth c Z own bs mx rt nm) {y : MethodName} {i : Nat} {cb : ByteArray} {cm : Nat} {cr : Option FieldType} {rm : Room} {as rest : List Value} {W : Nat} {ps : List FieldType} {pr : Option FieldType} {ce' sl' : Nat} {a : Addr} {C0 : String} {P : Value → Heap → Prop} (S : Sat l Z y cb cm cr rm (.ref a :: as) h n0 (RV P)) (E : Exa Z h a C0) (w1 : (Jvm.Cond.methodLink own i y).before a0 Z = true) (w5 : (Jvm.Cond.privateMethod y).before a0 Z = true) (w6 : (Jvm.Cond.selects y.cls y y).before a0 Z = true) (w2 : (Jvm.Cond.instanceMethod y).before a0 Z = true) (w3 : (Jvm.Cond.initialized y.cls).before a0 Z = true) (w4 : (Jvm.Cond.code y cb cm cr).before a0 Z = true) (hy : y.cls ≠ "java/lang/invoke/MethodHandle" ∧ y.cls ≠ "java/lang/invoke/VarHandle") (hpd : parseMethodDescriptor y.desc = some ⟨ps, pr⟩) (hlen : as.length = ps.length) (hls : Ls.size = mx) (hW : wt rest = W) (hfr : rm.frames + 1 ≤ R.frames) (hlo : W + (cm + 11) + rm.locals ≤ R.locals) (hce : ce + rm.cells = ce') (hsl : sl + rm.slots = sl') (hcc : ce' ≤ R.cells) (hss : sl' ≤ R.slots) (hd : decode bs pc = .ok (.invokevirtual i, 3)) (hp : pc + 3 = pc') (hst : st = as.reverse ++ .ref a :: rest) (hr : ∀ r h', P r h' → Go p l e R s m args below meth c n0 Q K N h' ce' sl' (mkF m pc' Ls (r :: rest))) : Go p l e R s m args below meth c n0 Q K N h ce sl (mkF m pc Ls st) :=
  go_private C S E w1 w5 w6 w2 w3 w4 hy hpd hlen hls hW hfr hlo hce hsl hcc hss hd hp hst (fun v h' hq => by obtain ⟨r, rfl, q⟩ := hq; exact hr r h' q)
theorem go_privateN (C : Cx p s m meth c Z own bs mx rt nm) {y : MethodName} {i : Nat} {cb : ByteArray} {cm : Nat} {cr : Option FieldType} {rm : Room} {as rest : List Value} {W : Nat} {ps : List FieldType} {pr : Option FieldType} {ce' sl' : Nat} {a : Addr} {C0 : String} {P : Heap → Prop} (S : Sat l Z y cb cm cr rm (.ref a :: as) h n0 (RN P)) (E : Exa Z h a C0) (w1 : (Jvm.Cond.methodLink own i y).before a0 Z = true) (w5 : (Jvm.Cond.privateMethod y).before a0 Z = true) (w6 : (Jvm.Cond.selects y.cls y y).before a0 Z = true) (w2 : (Jvm.Cond.instanceMethod y).before a0 Z = true) (w3 : (Jvm.Cond.initialized y.cls).before a0 Z = true) (w4 : (Jvm.Cond.code y cb cm cr).before a0 Z = true) (hy : y.cls ≠ "java/lang/invoke/MethodHandle" ∧ y.cls ≠ "java/lang/invoke/VarHandle") (hpd : parseMethodDescriptor y.desc = some ⟨ps, pr⟩) (hlen : as.length = ps.length) (hls : Ls.size = mx) (hW : wt rest = W) (hfr : rm.frames + 1 ≤ R.frames) (hlo : W + (cm + 11) + rm.locals ≤ R.locals) (hce : ce + rm.cells = ce') (hsl : sl + rm.slots = sl') (hcc : ce' ≤ R.cells) (hss : sl' ≤ R.slots) (hd : decode bs pc = .ok (.invokevirtual i, 3)) (hp : pc + 3 = pc') (hst : st = as.reverse ++ .ref a :: rest) (hr : ∀ h', P h' → Go p l e R s m args below meth c n0 Q K N h' ce' sl' (mkF m pc' Ls rest)) : Go p l e R s m args below meth c n0 Q K N h ce sl (mkF m pc Ls st) :=
  go_private C S E w1 w5 w6 w2 w3 w4 hy hpd hlen hls hW hfr hlo hce hsl hcc hss hd hp hst (fun v h' hq => by obtain ⟨rfl, q⟩ := hq; exact hr h' q)
theorem go_specialV (C : Cx p s m meth c Z own bs mx rt nm) {y : MethodName} {i : Nat} {cb : ByteArray} {cm : Nat} {rm : Room} {as rest : List Value} {W : Nat} {ps : List FieldType} {pr : Option FieldType} {ce' sl' : Nat} {a : Addr} {P : Value → Heap → Prop} (S : Sat l Z y cb cm none rm (.ref a :: as) h n0 (RV P)) (hyn : y.name = "<init>") (w1 : (Jvm.Cond.methodLink own i y).before a0 Z = true) (w2 : (Jvm.Cond.instanceMethod y).before a0 Z = true) (w3 : (Jvm.Cond.initialized y.cls).before a0 Z = true) (w4 : (Jvm.Cond.code y cb cm none).before a0 Z = true) (hy : y.cls ≠ "java/lang/invoke/MethodHandle" ∧ y.cls ≠ "java/lang/invoke/VarHandle") (hpd : parseMethodDescriptor y.desc = some ⟨ps, pr⟩) (hlen : as.length = ps.length) (hls : Ls.size = mx) (hW : wt rest = W) (hfr : rm.frames + 1 ≤ R.frames) (hlo : W + (cm + 11) + rm.locals ≤ R.locals) (hce : ce + rm.cells = ce') (hsl : sl + rm.slots = sl') (hcc : ce' ≤ R.cells) (hss : sl' ≤ R.slots) (hd : decode bs pc = .ok (.invokespecial i, 3)) (hp : pc + 3 = pc') (hst : st = as.reverse ++ .ref a :: rest) (hr : ∀ r h', P r h' → Go p l e R s m args below meth c n0 Q K N h' ce' sl' (mkF m pc' Ls (r :: rest))) : Go p l e R s m args below meth c n0 Q K N h ce sl (mkF m pc Ls st) :=
  go_special C S hyn w1 w2 w3 w4 hy hpd hlen hls hW hfr hlo hce hsl hcc hss hd hp hst (fun v h' hq => by obtain ⟨r, rfl, q⟩ := hq; exact hr r h' q)
theorem go_specialN (C : Cx p s m meth c Z own bs mx rt nm) {y : MethodName} {i : Nat} {cb : ByteArray} {cm : Nat} {rm : Room} {as rest : List Value} {W : Nat} {ps : List FieldType} {pr : Option FieldType} {ce' sl' : Nat} {a : Addr} {P : Heap → Prop} (S : Sat l Z y cb cm none rm (.ref a :: as) h n0 (RN P)) (hyn : y.name = "<init>") (w1 : (Jvm.Cond.methodLink own i y).before a0 Z = true) (w2 : (Jvm.Cond.instanceMethod y).before a0 Z = true) (w3 : (Jvm.Cond.initialized y.cls).before a0 Z = true) (w4 : (Jvm.Cond.code y cb cm none).before a0 Z = true) (hy : y.cls ≠ "java/lang/invoke/MethodHandle" ∧ y.cls ≠ "java/lang/invoke/VarHandle") (hpd : parseMethodDescriptor y.desc = some ⟨ps, pr⟩) (hlen : as.length = ps.length) (hls : Ls.size = mx) (hW : wt rest = W) (hfr : rm.frames + 1 ≤ R.frames) (hlo : W + (cm + 11) + rm.locals ≤ R.locals) (hce : ce + rm.cells = ce') (hsl : sl + rm.slots = sl') (hcc : ce' ≤ R.cells) (hss : sl' ≤ R.slots) (hd : decode bs pc = .ok (.invokespecial i, 3)) (hp : pc + 3 = pc') (hst : st = as.reverse ++ .ref a :: rest) (hr : ∀ h', P h' → Go p l e R s m args below meth c n0 Q K N h' ce' sl' (mkF m pc' Ls rest)) : Go p l e R s m args below meth c n0 Q K N h ce sl (mkF m pc Ls st) :=
  go_special C S hyn w1 w2 w3 w4 hy hpd hlen hls hW hfr hlo hce hsl hcc hss hd hp hst (fun v h' hq => by obtain ⟨rfl, q⟩ := hq; exact hr h' q)
theorem go_specialWV (C : Cx p s m meth c Z own bs mx rt nm) {y : MethodName} {i : Nat} {cb : ByteArray} {cm : Nat} {rm : Room} {as rest : List Value} {W : Nat} {ps : List FieldType} {pr : Option FieldType} {ce' sl' : Nat} {a : Addr} {P : Value → Heap → Prop} (S : Sat l Z y cb cm none rm (.ref a :: as) h n0 (RV P)) (hyn : y.name = "<init>") (w1 : (Jvm.Cond.methodRef own i y).before a0 Z = true) (w2 : (Jvm.Cond.instanceMethod y).before a0 Z = true) (w3 : (Jvm.Cond.initialized y.cls).before a0 Z = true) (w4 : (Jvm.Cond.code y cb cm none).before a0 Z = true) (hy : y.cls ≠ "java/lang/invoke/MethodHandle" ∧ y.cls ≠ "java/lang/invoke/VarHandle") (hpd : parseMethodDescriptor y.desc = some ⟨ps, pr⟩) (hlen : as.length = ps.length) (hls : Ls.size = mx) (hW : wt rest = W) (hfr : rm.frames + 1 ≤ R.frames) (hlo : W + (cm + 11) + rm.locals ≤ R.locals) (hce : ce + rm.cells = ce') (hsl : sl + rm.slots = sl') (hcc : ce' ≤ R.cells) (hss : sl' ≤ R.slots) (hd : decode bs pc = .ok (.invokespecial i, 3)) (hp : pc + 3 = pc') (hst : st = as.reverse ++ .ref a :: rest) (hr : ∀ r h', P r h' → Go p l e R s m args below meth c n0 Q K N h' ce' sl' (mkF m pc' Ls (r :: rest))) : Go p l e R s m args below meth c n0 Q K N h ce sl (mkF m pc Ls st) :=
  go_specialW C S hyn w1 w2 w3 w4 hy hpd hlen hls hW hfr hlo hce hsl hcc hss hd hp hst (fun v h' hq => by obtain ⟨r, rfl, q⟩ := hq; exact hr r h' q)
theorem go_specialWN (C : Cx p s m meth c Z own bs mx rt nm) {y : MethodName} {i : Nat} {cb : ByteArray} {cm : Nat} {rm : Room} {as rest : List Value} {W : Nat} {ps : List FieldType} {pr : Option FieldType} {ce' sl' : Nat} {a : Addr} {P : Heap → Prop} (S : Sat l Z y cb cm none rm (.ref a :: as) h n0 (RN P)) (hyn : y.name = "<init>") (w1 : (Jvm.Cond.methodRef own i y).before a0 Z = true) (w2 : (Jvm.Cond.instanceMethod y).before a0 Z = true) (w3 : (Jvm.Cond.initialized y.cls).before a0 Z = true) (w4 : (Jvm.Cond.code y cb cm none).before a0 Z = true) (hy : y.cls ≠ "java/lang/invoke/MethodHandle" ∧ y.cls ≠ "java/lang/invoke/VarHandle") (hpd : parseMethodDescriptor y.desc = some ⟨ps, pr⟩) (hlen : as.length = ps.length) (hls : Ls.size = mx) (hW : wt rest = W) (hfr : rm.frames + 1 ≤ R.frames) (hlo : W + (cm + 11) + rm.locals ≤ R.locals) (hce : ce + rm.cells = ce') (hsl : sl + rm.slots = sl') (hcc : ce' ≤ R.cells) (hss : sl' ≤ R.slots) (hd : decode bs pc = .ok (.invokespecial i, 3)) (hp : pc + 3 = pc') (hst : st = as.reverse ++ .ref a :: rest) (hr : ∀ h', P h' → Go p l e R s m args below meth c n0 Q K N h' ce' sl' (mkF m pc' Ls rest)) : Go p l e R s m args below meth c n0 Q K N h ce sl (mkF m pc Ls st) :=
  go_specialW C S hyn w1 w2 w3 w4 hy hpd hlen hls hW hfr hlo hce hsl hcc hss hd hp hst (fun v h' hq => by obtain ⟨rfl, q⟩ := hq; exact hr h' q)
theorem go_ireturnI (C : Cx p s m meth c Z own bs mx rt nm) {z : Int32} (hrt : rt = some .int) (hd : decode bs pc = .ok (.ireturn, 1)) (hk : ce ≤ K) (hn : sl ≤ N) (hq : Q (some (.int z)) h) : Go p l e R s m args below meth c n0 Q K N h ce sl (mkF m pc Ls [.int z]) := by
  subst hrt
  intro T locs X eT Nn
  obtain ⟨fs, hr, hrun, hended, hW, hsame⟩ := X.leave (v := some (.int z)) (fun q => by first | rfl | (rw [C.2.2.2.2.2.1] at q; cases q)) C.2.2.2.2.2.2.1
  refine ⟨_, _, X.ireturnOut C.1 C.2.2.2.2.2.1 rfl (Or.inl rfl) (hb C.2.1 hd) hr, hrun, hended, _, _, rfl, ⟨?_, Nn⟩, ⟨_, rfl⟩, hW, hsame.mono hk hn⟩
  show Q (some (.int z)) T.heap
  rw [eT]; exact hq
theorem go_lreturn (C : Cx p s m meth c Z own bs mx rt nm) {z : Int64} (hrt : rt = some .long) (hd : decode bs pc = .ok (.lreturn, 1)) (hk : ce ≤ K) (hn : sl ≤ N) (hq : Q (some (.long z)) h) : Go p l e R s m args below meth c n0 Q K N h ce sl (mkF m pc Ls [.long z]) := by
  subst hrt
  intro T locs X eT Nn
  obtain ⟨fs, hr, hrun, hended, hW, hsame⟩ := X.leave (v := some (.long z)) (fun q => by first | rfl | (rw [C.2.2.2.2.2.1] at q; cases q)) C.2.2.2.2.2.2.1
  refine ⟨_, _, Jvm.Stand.lreturnOut X C.1 C.2.2.2.2.2.1 (hb C.2.1 hd) hr, hrun, hended, _, _, rfl, ⟨?_, Nn⟩, ⟨_, rfl⟩, hW, hsame.mono hk hn⟩
  show Q (some (.long z)) T.heap
  rw [eT]; exact hq
theorem go_areturn (C : Cx p s m meth c Z own bs mx rt nm) {w : Value} {t : FieldType} (hrt : rt = some t) (hd : decode bs pc = .ok (.areturn, 1)) (hk : ce ≤ K) (hn : sl ≤ N) (hw : w.isRef = true) (ht : t.isReference = true) (hq : Q (some w) h) : Go p l e R s m args below meth c n0 Q K N h ce sl (mkF m pc Ls [w]) := by
  subst hrt
  intro T locs X eT Nn
  obtain ⟨fs, hr, hrun, hended, hW, hsame⟩ := X.leave (v := some w) (fun q => by first | rfl | (rw [C.2.2.2.2.2.1] at q; cases q)) C.2.2.2.2.2.2.1
  refine ⟨_, _, X.areturnOut C.1 hw C.2.2.2.2.2.1 ht (hb C.2.1 hd) hr, hrun, hended, _, _, rfl, ⟨?_, Nn⟩, ⟨_, rfl⟩, hW, hsame.mono hk hn⟩
  show Q (some w) T.heap
  rw [eT]; exact hq
theorem go_return (C : Cx p s m meth c Z own bs mx rt nm)  (hrt : rt = none) (hd : decode bs pc = .ok (.return_, 1)) (hk : ce ≤ K) (hn : sl ≤ N) (hq : Q (none) h) : Go p l e R s m args below meth c n0 Q K N h ce sl (mkF m pc Ls []) := by
  subst hrt
  intro T locs X eT Nn
  obtain ⟨fs, hr, hrun, hended, hW, hsame⟩ := X.leave (v := none) (fun q => by first | rfl | (rw [C.2.2.2.2.2.1] at q; cases q)) C.2.2.2.2.2.2.1
  refine ⟨_, _, X.returnOut C.1 C.2.2.2.2.2.1 (hb C.2.1 hd) hr, hrun, hended, _, _, rfl, ⟨?_, Nn⟩, ⟨_, rfl⟩, hW, hsame.mono hk hn⟩
  show Q (none) T.heap
  rw [eT]; exact hq
theorem go_ireturnN (C : Cx p s m meth c Z own bs mx rt nm) {z z' : Int32} {t : FieldType} (hrt : rt = some t) (ht : t = .boolean ∨ t = .byte ∨ t = .char ∨ t = .short) (hz : nar t z = z') (hd : decode bs pc = .ok (.ireturn, 1)) (hk : ce ≤ K) (hn : sl ≤ N) (hq : Q (some (.int z')) h) : Go p l e R s m args below meth c n0 Q K N h ce sl (mkF m pc Ls [.int z]) := by
  subst hrt hz
  intro T locs X eT Nn
  obtain ⟨fs, hr, hrun, hended, hW, hsame⟩ := X.leave (v := some (.int (nar t z))) (fun q => by rw [C.2.2.2.2.2.1] at q; cases q) C.2.2.2.2.2.2.1
  refine ⟨_, _, retN X C.1 (t := t) C.2.2.2.2.2.1 ht (hb C.2.1 hd) hr, hrun, hended, _, _, rfl, ⟨?_, Nn⟩, ⟨_, rfl⟩, hW, hsame.mono hk hn⟩
  show Q (some (.int (nar t z))) T.heap
  rw [eT]; exact hq
theorem sat_of {y : MethodName} {cb : ByteArray} {cm : Nat} {cr : Option FieldType} {rm : Room} {as : List Value} {h0 : Heap} (ho : y.cls = own) (hnm : y.name = nm) (hpn : plainFor y = true) (Ls : Array Slot) (hef : ∀ m, entryFrame m as.toArray cm = mkF m 0 Ls [])
    (body : ∀ (p : Program) (e : Env) (s : State) (m : MethodId) (below : List Frame) (meth : Method) (c : Code), Cx p s m meth c Z own cb cm cr nm → Go p l e rm s m as.toArray below meth c n0 Q rm.cells rm.slots h0 0 0 (mkF m 0 Ls [])) : Sat l Z y cb cm cr rm as h0 n0 Q := by
  intro ws
  subst ho hnm
  refine MetFree.of_bodySF hpn hisR ?_
  intro p e s m args below meth c s₁ Bd hml0 hP hK
  obtain ⟨rfl, hZ, hh⟩ := hP
  have X0 : Stand p l e rm s m as.toArray below meth c s₁ [] 0 0 := Stand.of_body Bd
  obtain ⟨s₂, o, h1, h2, h3, v, L, h4, h5, h6⟩ := body p e s m below meth c ⟨Bd.exec, Bd.bytes, hml0, hZ, findClass_of_methodNamed Bd.named, Bd.returns, Bd.notSynchronized, (name_of_methodNamed Bd.named Bd.method).1⟩ s₁ [] X0 (by rw [← hh, Bd.state]; rfl) (Fr.nil n0)
  exact ⟨s₂, o, castTop (hef m) h1, h2, h3, v, L, h4, h5, h6⟩
theorem Sat.weaken {y : MethodName} {cb : ByteArray} {cm : Nat} {cr : Option FieldType} {rm : Room} {as : List Value} {h0 : Heap} {Q' : Option Value → Heap → Prop} (S : Sat l Z y cb cm cr rm as h0 n0 Q) (H : ∀ v h, Q v h → Q' v h) : Sat l Z y cb cm cr rm as h0 n0 Q' := by
  intro ws p e ha hc hk s m args below hf happ hP hK
  obtain ⟨n, o, h1, h2, h3, v, L, h4, h5, h6⟩ := S ws p e ha hc hk s m args below hf happ hP hK
  exact ⟨n, o, h1, h2, h3, v, L, h4, ⟨H _ _ h5.1, h5.2⟩, h6⟩
end Walk
end OwnLayer
theorem wd {Z : State} {a0 : Array Value} (hw : ∀ d ∈ tables_1, d.before a0 Z = true) (k : Nat) {d : Jvm.Cond} (h : tables_1[k]? = some d) : d.before a0 Z = true := hw d (List.mem_of_getElem? h)
theorem d1_0 : decode prog_32_method_1_code 0 = .ok (.aload_n 0, 1) := by decide +kernel
theorem d1_1 : decode prog_32_method_1_code 1 = .ok (.invokespecial 1, 3) := by decide +kernel
theorem d1_4 : decode prog_32_method_1_code 4 = .ok (.aload_n 0, 1) := by decide +kernel
theorem d1_5 : decode prog_32_method_1_code 5 = .ok (.iload_n 1, 1) := by decide +kernel
theorem d1_6 : decode prog_32_method_1_code 6 = .ok (.newarray .long, 2) := by decide +kernel
theorem d1_8 : decode prog_32_method_1_code 8 = .ok (.putfield 7, 3) := by decide +kernel
theorem d1_11 : decode prog_32_method_1_code 11 = .ok (.return_, 1) := by decide +kernel
theorem d2_0 : decode prog_21_method_1_code 0 = .ok (.aload_n 0, 1) := by decide +kernel
theorem d2_1 : decode prog_21_method_1_code 1 = .ok (.invokespecial 1, 3) := by decide +kernel
theorem d2_4 : decode prog_21_method_1_code 4 = .ok (.return_, 1) := by decide +kernel
theorem d4_0 : decode prog_32_method_6_code 0 = .ok (.aload_n 0, 1) := by decide +kernel
theorem d4_1 : decode prog_32_method_6_code 1 = .ok (.getfield 21, 3) := by decide +kernel
theorem d4_4 : decode prog_32_method_6_code 4 = .ok (.aload_n 0, 1) := by decide +kernel
theorem d4_5 : decode prog_32_method_6_code 5 = .ok (.getfield 7, 3) := by decide +kernel
theorem d4_8 : decode prog_32_method_6_code 8 = .ok (.arraylength, 1) := by decide +kernel
theorem d4_9 : decode prog_32_method_6_code 9 = .ok (.if_icmp .ne 67, 3) := by decide +kernel
theorem d4_12 : decode prog_32_method_6_code 12 = .ok (.lload_n 3, 1) := by decide +kernel
theorem d4_13 : decode prog_32_method_6_code 13 = .ok (.ldc2_w 28, 3) := by decide +kernel
theorem d4_16 : decode prog_32_method_6_code 16 = .ok (.aload_n 0, 1) := by decide +kernel
theorem d4_17 : decode prog_32_method_6_code 17 = .ok (.getfield 7, 3) := by decide +kernel
theorem d4_20 : decode prog_32_method_6_code 20 = .ok (.arraylength, 1) := by decide +kernel
theorem d4_21 : decode prog_32_method_6_code 21 = .ok (.i2l, 1) := by decide +kernel
theorem d4_22 : decode prog_32_method_6_code 22 = .ok (.lmul, 1) := by decide +kernel
theorem d4_23 : decode prog_32_method_6_code 23 = .ok (.invokestatic 30, 3) := by decide +kernel
theorem d4_26 : decode prog_32_method_6_code 26 = .ok (.l2i, 1) := by decide +kernel
theorem d4_27 : decode prog_32_method_6_code 27 = .ok (.newarray .long, 2) := by decide +kernel
theorem d4_29 : decode prog_32_method_6_code 29 = .ok (.astore 5, 2) := by decide +kernel
theorem d4_31 : decode prog_32_method_6_code 31 = .ok (.iconst 0, 1) := by decide +kernel
theorem d4_32 : decode prog_32_method_6_code 32 = .ok (.istore 6, 2) := by decide +kernel
theorem d4_34 : decode prog_32_method_6_code 34 = .ok (.iload 6, 2) := by decide +kernel
theorem d4_36 : decode prog_32_method_6_code 36 = .ok (.aload_n 0, 1) := by decide +kernel
theorem d4_37 : decode prog_32_method_6_code 37 = .ok (.getfield 21, 3) := by decide +kernel
theorem d4_40 : decode prog_32_method_6_code 40 = .ok (.if_icmp .ge 25, 3) := by decide +kernel
theorem d4_43 : decode prog_32_method_6_code 43 = .ok (.aload 5, 2) := by decide +kernel
theorem d4_45 : decode prog_32_method_6_code 45 = .ok (.iload 6, 2) := by decide +kernel
theorem d4_47 : decode prog_32_method_6_code 47 = .ok (.aload_n 0, 1) := by decide +kernel
theorem d4_48 : decode prog_32_method_6_code 48 = .ok (.getfield 7, 3) := by decide +kernel
theorem d4_51 : decode prog_32_method_6_code 51 = .ok (.aload_n 0, 1) := by decide +kernel
theorem d4_52 : decode prog_32_method_6_code 52 = .ok (.iload 6, 2) := by decide +kernel
theorem d4_54 : decode prog_32_method_6_code 54 = .ok (.invokevirtual 24, 3) := by decide +kernel
theorem d4_57 : decode prog_32_method_6_code 57 = .ok (.laload, 1) := by decide +kernel
theorem d4_58 : decode prog_32_method_6_code 58 = .ok (.lastore, 1) := by decide +kernel
theorem d4_59 : decode prog_32_method_6_code 59 = .ok (.iinc 6 1, 3) := by decide +kernel
theorem d4_62 : decode prog_32_method_6_code 62 = .ok (.goto (-28), 3) := by decide +kernel
theorem d4_65 : decode prog_32_method_6_code 65 = .ok (.aload_n 0, 1) := by decide +kernel
theorem d4_66 : decode prog_32_method_6_code 66 = .ok (.aload 5, 2) := by decide +kernel
theorem d4_68 : decode prog_32_method_6_code 68 = .ok (.putfield 7, 3) := by decide +kernel
theorem d4_71 : decode prog_32_method_6_code 71 = .ok (.aload_n 0, 1) := by decide +kernel
theorem d4_72 : decode prog_32_method_6_code 72 = .ok (.iconst 0, 1) := by decide +kernel
theorem d4_73 : decode prog_32_method_6_code 73 = .ok (.putfield 17, 3) := by decide +kernel
theorem d4_76 : decode prog_32_method_6_code 76 = .ok (.aload_n 0, 1) := by decide +kernel
theorem d4_77 : decode prog_32_method_6_code 77 = .ok (.getfield 7, 3) := by decide +kernel
theorem d4_80 : decode prog_32_method_6_code 80 = .ok (.aload_n 0, 1) := by decide +kernel
theorem d4_81 : decode prog_32_method_6_code 81 = .ok (.aload_n 0, 1) := by decide +kernel
theorem d4_82 : decode prog_32_method_6_code 82 = .ok (.getfield 21, 3) := by decide +kernel
theorem d4_85 : decode prog_32_method_6_code 85 = .ok (.invokevirtual 24, 3) := by decide +kernel
theorem d4_88 : decode prog_32_method_6_code 88 = .ok (.lload_n 1, 1) := by decide +kernel
theorem d4_89 : decode prog_32_method_6_code 89 = .ok (.lastore, 1) := by decide +kernel
theorem d4_90 : decode prog_32_method_6_code 90 = .ok (.aload_n 0, 1) := by decide +kernel
theorem d4_91 : decode prog_32_method_6_code 91 = .ok (.dup, 1) := by decide +kernel
theorem d4_92 : decode prog_32_method_6_code 92 = .ok (.getfield 21, 3) := by decide +kernel
theorem d4_95 : decode prog_32_method_6_code 95 = .ok (.iconst 1, 1) := by decide +kernel
theorem d4_96 : decode prog_32_method_6_code 96 = .ok (.iadd, 1) := by decide +kernel
theorem d4_97 : decode prog_32_method_6_code 97 = .ok (.putfield 21, 3) := by decide +kernel
theorem d4_100 : decode prog_32_method_6_code 100 = .ok (.return_, 1) := by decide +kernel
theorem d5_0 : decode prog_32_method_7_code 0 = .ok (.aload_n 0, 1) := by decide +kernel
theorem d5_1 : decode prog_32_method_7_code 1 = .ok (.getfield 7, 3) := by decide +kernel
theorem d5_4 : decode prog_32_method_7_code 4 = .ok (.arraylength, 1) := by decide +kernel
theorem d5_5 : decode prog_32_method_7_code 5 = .ok (.aload_n 0, 1) := by decide +kernel
theorem d5_6 : decode prog_32_method_7_code 6 = .ok (.getfield 17, 3) := by decide +kernel
theorem d5_9 : decode prog_32_method_7_code 9 = .ok (.isub, 1) := by decide +kernel
theorem d5_10 : decode prog_32_method_7_code 10 = .ok (.istore_n 2, 1) := by decide +kernel
theorem d5_11 : decode prog_32_method_7_code 11 = .ok (.iload_n 1, 1) := by decide +kernel
theorem d5_12 : decode prog_32_method_7_code 12 = .ok (.iload_n 2, 1) := by decide +kernel
theorem d5_13 : decode prog_32_method_7_code 13 = .ok (.if_icmp .ge 12, 3) := by decide +kernel
theorem d5_16 : decode prog_32_method_7_code 16 = .ok (.aload_n 0, 1) := by decide +kernel
theorem d5_17 : decode prog_32_method_7_code 17 = .ok (.getfield 17, 3) := by decide +kernel
theorem d5_20 : decode prog_32_method_7_code 20 = .ok (.iload_n 1, 1) := by decide +kernel
theorem d5_21 : decode prog_32_method_7_code 21 = .ok (.iadd, 1) := by decide +kernel
theorem d5_22 : decode prog_32_method_7_code 22 = .ok (.goto 6, 3) := by decide +kernel
theorem d5_25 : decode prog_32_method_7_code 25 = .ok (.iload_n 1, 1) := by decide +kernel
theorem d5_26 : decode prog_32_method_7_code 26 = .ok (.iload_n 2, 1) := by decide +kernel
theorem d5_27 : decode prog_32_method_7_code 27 = .ok (.isub, 1) := by decide +kernel
theorem d5_28 : decode prog_32_method_7_code 28 = .ok (.ireturn, 1) := by decide +kernel
theorem d6_0 : decode prog_32_method_4_code 0 = .ok (.aload_n 0, 1) := by decide +kernel
theorem d6_1 : decode prog_32_method_4_code 1 = .ok (.getfield 7, 3) := by decide +kernel
theorem d6_4 : decode prog_32_method_4_code 4 = .ok (.aload_n 0, 1) := by decide +kernel
theorem d6_5 : decode prog_32_method_4_code 5 = .ok (.aload_n 0, 1) := by decide +kernel
theorem d6_6 : decode prog_32_method_4_code 6 = .ok (.getfield 21, 3) := by decide +kernel
theorem d6_9 : decode prog_32_method_4_code 9 = .ok (.iconst 1, 1) := by decide +kernel
theorem d6_10 : decode prog_32_method_4_code 10 = .ok (.isub, 1) := by decide +kernel
theorem d6_11 : decode prog_32_method_4_code 11 = .ok (.invokevirtual 24, 3) := by decide +kernel
theorem d6_14 : decode prog_32_method_4_code 14 = .ok (.laload, 1) := by decide +kernel
theorem d6_15 : decode prog_32_method_4_code 15 = .ok (.lreturn, 1) := by decide +kernel
theorem d7_0 : decode prog_32_method_5_code 0 = .ok (.aload_n 0, 1) := by decide +kernel
theorem d7_1 : decode prog_32_method_5_code 1 = .ok (.getfield 21, 3) := by decide +kernel
theorem d7_4 : decode prog_32_method_5_code 4 = .ok (.ifCond .le 41, 3) := by decide +kernel
theorem d7_7 : decode prog_32_method_5_code 7 = .ok (.lload_n 1, 1) := by decide +kernel
theorem d7_8 : decode prog_32_method_5_code 8 = .ok (.aload_n 0, 1) := by decide +kernel
theorem d7_9 : decode prog_32_method_5_code 9 = .ok (.getfield 7, 3) := by decide +kernel
theorem d7_12 : decode prog_32_method_5_code 12 = .ok (.aload_n 0, 1) := by decide +kernel
theorem d7_13 : decode prog_32_method_5_code 13 = .ok (.getfield 17, 3) := by decide +kernel
theorem d7_16 : decode prog_32_method_5_code 16 = .ok (.laload, 1) := by decide +kernel
theorem d7_17 : decode prog_32_method_5_code 17 = .ok (.lsub, 1) := by decide +kernel
theorem d7_18 : decode prog_32_method_5_code 18 = .ok (.lload_n 3, 1) := by decide +kernel
theorem d7_19 : decode prog_32_method_5_code 19 = .ok (.lcmp, 1) := by decide +kernel
theorem d7_20 : decode prog_32_method_5_code 20 = .ok (.ifCond .lt 25, 3) := by decide +kernel
theorem d7_23 : decode prog_32_method_5_code 23 = .ok (.aload_n 0, 1) := by decide +kernel
theorem d7_24 : decode prog_32_method_5_code 24 = .ok (.aload_n 0, 1) := by decide +kernel
theorem d7_25 : decode prog_32_method_5_code 25 = .ok (.iconst 1, 1) := by decide +kernel
theorem d7_26 : decode prog_32_method_5_code 26 = .ok (.invokevirtual 24, 3) := by decide +kernel
theorem d7_29 : decode prog_32_method_5_code 29 = .ok (.putfield 17, 3) := by decide +kernel
theorem d7_32 : decode prog_32_method_5_code 32 = .ok (.aload_n 0, 1) := by decide +kernel
theorem d7_33 : decode prog_32_method_5_code 33 = .ok (.dup, 1) := by decide +kernel
theorem d7_34 : decode prog_32_method_5_code 34 = .ok (.getfield 21, 3) := by decide +kernel
theorem d7_37 : decode prog_32_method_5_code 37 = .ok (.iconst 1, 1) := by decide +kernel
theorem d7_38 : decode prog_32_method_5_code 38 = .ok (.isub, 1) := by decide +kernel
theorem d7_39 : decode prog_32_method_5_code 39 = .ok (.putfield 21, 3) := by decide +kernel
theorem d7_42 : decode prog_32_method_5_code 42 = .ok (.goto (-42), 3) := by decide +kernel
theorem d7_45 : decode prog_32_method_5_code 45 = .ok (.return_, 1) := by decide +kernel
theorem d8_0 : decode jdk_29_method_70_code 0 = .ok (.lload_n 0, 1) := by decide +kernel
theorem d8_1 : decode jdk_29_method_70_code 1 = .ok (.lload_n 2, 1) := by decide +kernel
theorem d8_2 : decode jdk_29_method_70_code 2 = .ok (.lcmp, 1) := by decide +kernel
theorem d8_3 : decode jdk_29_method_70_code 3 = .ok (.ifCond .gt 7, 3) := by decide +kernel
theorem d8_6 : decode jdk_29_method_70_code 6 = .ok (.lload_n 0, 1) := by decide +kernel
theorem d8_7 : decode jdk_29_method_70_code 7 = .ok (.goto 4, 3) := by decide +kernel
theorem d8_10 : decode jdk_29_method_70_code 10 = .ok (.lload_n 2, 1) := by decide +kernel
theorem d8_11 : decode jdk_29_method_70_code 11 = .ok (.lreturn, 1) := by decide +kernel
theorem pn_0 : plainName "com/example/throttld/throttld/SlidingLogNewestPinLaw" = true := by first | (simp [plainName, overriddenIn]; done) | decide +kernel
theorem pd_0 : parseMethodDescriptor "(IJJJJJ)Z" = some ⟨[.int, .long, .long, .long, .long, .long], some .boolean⟩ := by decide +kernel
theorem pn_1 : plainName "com/example/throttld/throttld/SlidingLog$Log" = true := by first | (simp [plainName, overriddenIn]; done) | decide +kernel
theorem pd_1 : parseMethodDescriptor "(I)V" = some ⟨[.int], none⟩ := by decide +kernel
theorem pn_2 : plainName "com/example/throttld/throttld/MemoryStore$Entry" = true := by first | (simp [plainName, overriddenIn]; done) | decide +kernel
theorem pd_2 : parseMethodDescriptor "()V" = some ⟨[], none⟩ := by decide +kernel
theorem pd_3 : parseMethodDescriptor "(JJ)V" = some ⟨[.long, .long], none⟩ := by decide +kernel
theorem pd_4 : parseMethodDescriptor "(I)I" = some ⟨[.int], some .int⟩ := by decide +kernel
theorem pd_5 : parseMethodDescriptor "()J" = some ⟨[], some .long⟩ := by decide +kernel
theorem pd_6 : parseMethodDescriptor "(JJ)J" = some ⟨[.long, .long], some .long⟩ := by decide +kernel
def o_slot (nl hd i : Int32) : Int32 := if i.toInt < (nl - hd).toInt then hd + i else i - (nl - hd)
def o_minL (x y : Int64) : Int64 := if y.toInt < x.toInt then y else x
def o_maxL (x y : Int64) : Int64 := if x.toInt < y.toInt then y else x
set_option maxRecDepth 65536 in
set_option maxHeartbeats 40000000 in
theorem sat_en (l : Launch) (Z : State) (a0 : Array Value) (hw : ∀ d ∈ tables_1, d.before a0 Z = true) (a : Addr) (h0 : Heap) (n0 : Nat)  :
    Sat l Z (⟨"com/example/throttld/throttld/MemoryStore$Entry", "<init>", "()V"⟩ : MethodName) prog_21_method_1_code 1 none ({ frames := 1, cells := 0, slots := 0, locals := 12 } : Room) [.ref a] h0 n0 (RN fun h => h = h0) := by
  refine sat_of (own := "com/example/throttld/throttld/MemoryStore$Entry") (nm := "<init>") rfl rfl (plainFor_of_name pn_2) #[.val (.ref a)] (fun m => by first | (simp [entryFrame, mkF, argsToLocals, Value.category, maxLocals]; done) | rfl) ?_
  intro p e s m below meth c C
  refine go_aloadN C d2_0 (pc' := 1) rfl rfl rfl ?_
  refine go_objinit C (W := 0) (wd hw 13 rfl) (wd hw 14 rfl) (wd hw 15 rfl) rfl (by decide) rfl (by decide) d2_1 (pc' := 4) rfl ?_
  refine go_return C rfl d2_4 (by decide) (by decide) ?_
  exact ⟨rfl, rfl⟩
set_option maxRecDepth 65536 in
set_option maxHeartbeats 40000000 in
theorem sat_minL (l : Launch) (Z : State) (a0 : Array Value) (hw : ∀ d ∈ tables_1, d.before a0 Z = true) (u v q : Int64) (h0 : Heap) (n0 : Nat) (hq : o_minL u v = q) :
    Sat l Z (⟨"java/lang/Math", "min", "(JJ)J"⟩ : MethodName) jdk_29_method_70_code 4 (some .long) ({ frames := 0, cells := 0, slots := 0, locals := 0 } : Room) [.long u, .long v] h0 n0 (RV fun r h => r = .long q ∧ h = h0) := by
  refine sat_of (own := "java/lang/Math") (nm := "min") rfl rfl (by decide +kernel) #[.val (.long u), .second, .val (.long v), .second] (fun m => by first | (simp [entryFrame, mkF, argsToLocals, Value.category, maxLocals]; done) | rfl) ?_
  intro p e s m below meth c C
  refine go_lloadN C d8_0 (pc' := 1) rfl rfl ?_
  refine go_lloadN C d8_1 (pc' := 2) rfl rfl ?_
  refine go_lcmp C u.toInt v.toInt rfl rfl d8_2 (pc1 := 3) rfl d8_3 (by decide) (pc' := 10) (by decide) (pcN := 6) rfl (fun (c_1 : v.toInt < u.toInt) => ?_) (fun (c_1 : ¬ v.toInt < u.toInt) => ?_)
  · skip
    refine go_lloadN C d8_10 (pc' := 11) rfl rfl ?_
    refine go_lreturn C rfl d8_11 (by decide) (by decide) ?_
    exact ⟨_, rfl, congrArg Value.long (by rw [← hq]; unfold o_minL; first | rw [if_pos (by omega)] | rw [if_neg (by omega)]), rfl⟩
  · skip
    refine go_lloadN C d8_6 (pc' := 7) rfl rfl ?_
    refine go_goto C d8_7 (by decide) (pc' := 11) (by decide) ?_
    refine go_lreturn C rfl d8_11 (by decide) (by decide) ?_
    exact ⟨_, rfl, congrArg Value.long (by rw [← hq]; unfold o_minL; first | rw [if_pos (by omega)] | rw [if_neg (by omega)]), rfl⟩
set_option maxRecDepth 65536 in
set_option maxHeartbeats 40000000 in
theorem sat_slot (l : Launch) (Z : State) (a0 : Array Value) (hw : ∀ d ∈ tables_1, d.before a0 Z = true) (a r : Addr) (nl hd i q : Int32) (vs : List Value) (h0 : Heap) (n0 : Nat) (F1 : Fld Z h0 a "com/example/throttld/throttld/SlidingLog$Log" "ring" "[J" (.ref r)) (F2 : Fld Z h0 a "com/example/throttld/throttld/SlidingLog$Log" "head" "I" (.int hd)) (A1 : Av Z h0 r .long vs) (hnl : nl.toInt = (vs.length : Int)) (hq : o_slot nl hd i = q) :
    Sat l Z (⟨"com/example/throttld/throttld/SlidingLog$Log", "slot", "(I)I"⟩ : MethodName) prog_32_method_7_code 3 (some .int) ({ frames := 0, cells := 0, slots := 0, locals := 0 } : Room) [.ref a, .int i] h0 n0 (RV fun v h => v = .int q ∧ h = h0) := by
  refine sat_of (own := "com/example/throttld/throttld/SlidingLog$Log") (nm := "slot") rfl rfl (plainFor_of_name pn_1) #[.val (.ref a), .val (.int i), .unset] (fun m => by first | (simp [entryFrame, mkF, argsToLocals, Value.category, maxLocals]; done) | rfl) ?_
  intro p e s m below meth c C
  refine go_aloadN C d5_0 (pc' := 1) rfl rfl rfl ?_
  refine go_getfield C (wd hw 17 rfl) F1 d5_1 (pc' := 4) rfl ?_
  refine go_arraylength C A1 nl hnl d5_4 (pc' := 5) rfl ?_
  refine go_aloadN C d5_5 (pc' := 6) rfl rfl rfl ?_
  refine go_getfield C (wd hw 30 rfl) F2 d5_6 (pc' := 9) rfl ?_
  refine go_isub C d5_9 (pc' := 10) rfl ?_
  refine go_istoreN C (Ls' := #[.val (.ref a), .val (.int i), .val (.int (nl - hd))]) d5_10 (pc' := 11) rfl rfl ?_
  refine go_iloadN C d5_11 (pc' := 12) rfl rfl ?_
  refine go_iloadN C d5_12 (pc' := 13) rfl rfl ?_
  refine go_icmp C i.toInt ((nl - hd).toInt) rfl rfl d5_13 (by decide) (pc' := 25) (by decide) (pcN := 16) rfl (fun (c_1 : ¬ i.toInt < ((nl - hd).toInt)) => ?_) (fun (c_1 : i.toInt < ((nl - hd).toInt)) => ?_)
  · skip
    refine go_iloadN C d5_25 (pc' := 26) rfl rfl ?_
    refine go_iloadN C d5_26 (pc' := 27) rfl rfl ?_
    refine go_isub C d5_27 (pc' := 28) rfl ?_
    refine go_ireturnI C rfl d5_28 (by decide) (by decide) ?_
    exact ⟨_, rfl, congrArg Value.int (by rw [← hq]; unfold o_slot; first | rw [if_pos (by omega)] | rw [if_neg (by omega)]), rfl⟩
  · skip
    refine go_aloadN C d5_16 (pc' := 17) rfl rfl rfl ?_
    refine go_getfield C (wd hw 30 rfl) F2 d5_17 (pc' := 20) rfl ?_
    refine go_iloadN C d5_20 (pc' := 21) rfl rfl ?_
    refine go_iadd C d5_21 (pc' := 22) rfl ?_
    refine go_goto C d5_22 (by decide) (pc' := 28) (by decide) ?_
    refine go_ireturnI C rfl d5_28 (by decide) (by decide) ?_
    exact ⟨_, rfl, congrArg Value.int (by rw [← hq]; unfold o_slot; first | rw [if_pos (by omega)] | rw [if_neg (by omega)]), rfl⟩
theorem own_k4 (x : Int32) : (x &&& (3 : Int32)) = 0 ∨ (x &&& (3 : Int32)) = 1 ∨ (x &&& (3 : Int32)) = 2 ∨ (x &&& (3 : Int32)) = 3 := by
  have h : (x &&& (3 : Int32)).toInt = x.toInt % 2 ^ 2 := Jvm.Kit.i32_mask x _ (k := 2) (by decide) (by decide)
  have : x.toInt % 2 ^ 2 = 0 ∨ x.toInt % 2 ^ 2 = 1 ∨ x.toInt % 2 ^ 2 = 2 ∨ x.toInt % 2 ^ 2 = 3 := by omega
  rcases this with q | q | q | q
  · exact Or.inl (int_eq (h.trans q))
  · exact Or.inr (Or.inl (int_eq (h.trans q)))
  · exact Or.inr (Or.inr (Or.inl (int_eq (h.trans q))))
  · exact Or.inr (Or.inr (Or.inr (int_eq (h.trans q))))
set_option maxRecDepth 65536 in
set_option maxHeartbeats 40000000 in
theorem sat_add_1_0_0 (l : Launch) (Z : State) (a0 : Array Value) (hw : ∀ d ∈ tables_1, d.before a0 Z = true) (a r : Addr) (v0 : Int64) (t lim : Int64) (h0 : Heap) (n0 : Nat) (E1 : Exa Z h0 a "com/example/throttld/throttld/SlidingLog$Log") (F1 : Fld Z h0 a "com/example/throttld/throttld/SlidingLog$Log" "ring" "[J" (.ref r)) (F2 : Fld Z h0 a "com/example/throttld/throttld/SlidingLog$Log" "head" "I" (.int (0 : Int32))) (F3 : Fld Z h0 a "com/example/throttld/throttld/SlidingLog$Log" "count" "I" (.int (0 : Int32))) (A1 : Av Z h0 r .long [.long v0]) (ga : n0 ≤ a) (gr : n0 ≤ r) :
    Sat l Z (⟨"com/example/throttld/throttld/SlidingLog$Log", "add", "(JJ)V"⟩ : MethodName) prog_32_method_6_code 7 none ({ frames := 1, cells := 0, slots := 0, locals := 17 } : Room) [.ref a, .long t, .long lim] h0 n0 (RN fun h => ∃ r' : Addr, n0 ≤ r' ∧ Exa Z h a "com/example/throttld/throttld/SlidingLog$Log" ∧ Fld Z h a "com/example/throttld/throttld/SlidingLog$Log" "ring" "[J" (.ref r') ∧ Fld Z h a "com/example/throttld/throttld/SlidingLog$Log" "head" "I" (.int (0 : Int32)) ∧ Fld Z h a "com/example/throttld/throttld/SlidingLog$Log" "count" "I" (.int (1 : Int32)) ∧ Av Z h r' .long [.long t]) := by
  refine sat_of (own := "com/example/throttld/throttld/SlidingLog$Log") (nm := "add") rfl rfl (plainFor_of_name pn_1) #[.val (.ref a), .val (.long t), .second, .val (.long lim), .second, .unset, .unset] (fun m => by first | (simp [entryFrame, mkF, argsToLocals, Value.category, maxLocals]; done) | rfl) ?_
  intro p e s m below meth c C
  refine go_aloadN C d4_0 (pc' := 1) rfl rfl rfl ?_
  refine go_getfield C (wd hw 24 rfl) F3 d4_1 (pc' := 4) rfl ?_
  refine go_aloadN C d4_4 (pc' := 5) rfl rfl rfl ?_
  refine go_getfield C (wd hw 17 rfl) F1 d4_5 (pc' := 8) rfl ?_
  refine go_arraylength C A1 (1 : Int32) rfl d4_8 (pc' := 9) rfl ?_
  refine go_icmp C (0 : Int) (1 : Int) (by decide) (by decide) d4_9 (by decide) (pc' := 76) (by decide) (pcN := 12) rfl (fun (c_1 : ¬ (0 : Int) = (1 : Int)) => ?_) (fun (c_1 : (0 : Int) = (1 : Int)) => by omega)
  refine go_aloadN C d4_76 (pc' := 77) rfl rfl rfl ?_
  refine go_getfield C (wd hw 17 rfl) F1 d4_77 (pc' := 80) rfl ?_
  refine go_aloadN C d4_80 (pc' := 81) rfl rfl rfl ?_
  refine go_aloadN C d4_81 (pc' := 82) rfl rfl rfl ?_
  refine go_getfield C (wd hw 24 rfl) F3 d4_82 (pc' := 85) rfl ?_
  refine go_privateP C (as := [.int (0 : Int32)]) (rest := [.ref r]) (W := 1) (.int (0 : Int32)) (sat_slot l Z a0 hw a r (1 : Int32) (0 : Int32) (0 : Int32) (0 : Int32) _ _ _ F1 F2 A1 rfl (by decide)) E1 (wd hw 26 rfl) (wd hw 28 rfl) (own_selects_private (wd hw 3 rfl) (wd hw 28 rfl) (wd hw 27 rfl) (by decide)) (wd hw 27 rfl) (wd hw 4 rfl) (wd hw 29 rfl) (by decide) pd_4 rfl rfl rfl (by decide) (by decide) rfl rfl (by decide) (by decide) d4_85 (pc' := 88) rfl rfl ?_
  refine go_lloadN C d4_88 (pc' := 89) rfl rfl ?_
  refine go_lastore C A1 0 (by decide) (show 0 < 1 from by decide) gr d4_89 (pc' := 90) rfl ?_
  intro h_2 W_3 A_4
  have F_6 := Fld.other W_3 F1 (Or.inl (own_ne_arr E1 (wd hw 3 rfl) A1))
  have F_7 := Fld.other W_3 F2 (Or.inl (own_ne_arr E1 (wd hw 3 rfl) A1))
  have F_8 := Fld.other W_3 F3 (Or.inl (own_ne_arr E1 (wd hw 3 rfl) A1))
  have E_9 := Exa.wr W_3 E1
  have A_10 : Av Z h_2 r .long [.long t] := A_4
  refine go_aloadN C d4_90 (pc' := 91) rfl rfl rfl ?_
  refine go_dup C d4_91 (pc' := 92) rfl rfl ?_
  refine go_getfield C (wd hw 24 rfl) F_8 d4_92 (pc' := 95) rfl ?_
  refine go_iconst C (1 : Int32) d4_95 (pc' := 96) rfl (by decide) ?_
  refine go_iadd C d4_96 (pc' := 97) rfl ?_
  rw [(by decide : (0 : Int32) + (1 : Int32) = (1 : Int32))]
  refine go_putfield C (wd hw 24 rfl) F_8 E_9 (Or.inl (wd hw 25 rfl)) (wd hw 3 rfl) (ty := .int) (by decide) rfl rfl ga d4_97 (pc' := 100) rfl ?_
  intro h_11 W_12
  have F_13 := Fld.other W_12 F_6 (Or.inr (slot_ne (a0 := a0) (Or.inl (wd hw 18 rfl)) (Or.inl (wd hw 25 rfl)) (by decide) (t := (.array .long)) (t' := .int) (by decide) (by decide)))
  have F_14 := Fld.other W_12 F_7 (Or.inr (slot_ne (a0 := a0) (Or.inl (wd hw 31 rfl)) (Or.inl (wd hw 25 rfl)) (by decide) (t := .int) (t' := .int) (by decide) (by decide)))
  have F_15 := Fld.same W_12 F_8
  have E_16 := Exa.wr W_12 E_9
  have A_17 := Av.other A_10 W_12 (Ne.symm (own_ne_arr E_9 (wd hw 3 rfl) A_10))
  refine go_return C rfl d4_100 (by decide) (by decide) ?_
  exact ⟨rfl, _, gr, E_16, F_13, F_14, F_15, A_17⟩
set_option maxRecDepth 65536 in
set_option maxHeartbeats 40000000 in
theorem sat_add_1_0_1 (l : Launch) (Z : State) (a0 : Array Value) (hw : ∀ d ∈ tables_1, d.before a0 Z = true) (a r : Addr) (v0 : Int64) (t : Int64) (h0 : Heap) (n0 : Nat) (E1 : Exa Z h0 a "com/example/throttld/throttld/SlidingLog$Log") (F1 : Fld Z h0 a "com/example/throttld/throttld/SlidingLog$Log" "ring" "[J" (.ref r)) (F2 : Fld Z h0 a "com/example/throttld/throttld/SlidingLog$Log" "head" "I" (.int (0 : Int32))) (F3 : Fld Z h0 a "com/example/throttld/throttld/SlidingLog$Log" "count" "I" (.int (1 : Int32))) (A1 : Av Z h0 r .long [.long v0]) (ga : n0 ≤ a) (gr : n0 ≤ r) :
    Sat l Z (⟨"com/example/throttld/throttld/SlidingLog$Log", "add", "(JJ)V"⟩ : MethodName) prog_32_method_6_code 7 none ({ frames := 1, cells := 1, slots := 2, locals := 17 } : Room) [.ref a, .long t, .long (4 : Int64)] h0 n0 (RN fun h => ∃ r' : Addr, n0 ≤ r' ∧ Exa Z h a "com/example/throttld/throttld/SlidingLog$Log" ∧ Fld Z h a "com/example/throttld/throttld/SlidingLog$Log" "ring" "[J" (.ref r') ∧ Fld Z h a "com/example/throttld/throttld/SlidingLog$Log" "head" "I" (.int (0 : Int32)) ∧ Fld Z h a "com/example/throttld/throttld/SlidingLog$Log" "count" "I" (.int (2 : Int32)) ∧ Av Z h r' .long [.long v0, .long t]) := by
  refine sat_of (own := "com/example/throttld/throttld/SlidingLog$Log") (nm := "add") rfl rfl (plainFor_of_name pn_1) #[.val (.ref a), .val (.long t), .second, .val (.long (4 : Int64)), .second, .unset, .unset] (fun m => by first | (simp [entryFrame, mkF, argsToLocals, Value.category, maxLocals]; done) | rfl) ?_
  intro p e s m below meth c C
  refine go_aloadN C d4_0 (pc' := 1) rfl rfl rfl ?_
  refine go_getfield C (wd hw 24 rfl) F3 d4_1 (pc' := 4) rfl ?_
  refine go_aloadN C d4_4 (pc' := 5) rfl rfl rfl ?_
  refine go_getfield C (wd hw 17 rfl) F1 d4_5 (pc' := 8) rfl ?_
  refine go_arraylength C A1 (1 : Int32) rfl d4_8 (pc' := 9) rfl ?_
  refine go_icmp C (1 : Int) (1 : Int) (by decide) (by decide) d4_9 (by decide) (pc' := 76) (by decide) (pcN := 12) rfl (fun (c_1 : ¬ (1 : Int) = (1 : Int)) => by omega) (fun (c_1 : (1 : Int) = (1 : Int)) => ?_)
  refine go_lloadN C d4_12 (pc' := 13) rfl rfl ?_
  refine go_ldc2 C (v := (2 : Int64)) (wd hw 42 rfl) d4_13 (pc' := 16) rfl ?_
  refine go_aloadN C d4_16 (pc' := 17) rfl rfl rfl ?_
  refine go_getfield C (wd hw 17 rfl) F1 d4_17 (pc' := 20) rfl ?_
  refine go_arraylength C A1 (1 : Int32) rfl d4_20 (pc' := 21) rfl ?_
  refine go_i2l C d4_21 (pc' := 22) rfl ?_
  rw [(by decide : (1 : Int32).toInt64 = (1 : Int64))]
  refine go_lmul C d4_22 (pc' := 23) rfl ?_
  rw [(by decide : (2 : Int64) * (1 : Int64) = (2 : Int64))]
  refine go_staticP C (as := [.long (4 : Int64), .long (2 : Int64)]) (rest := []) (W := 0) (.long (2 : Int64)) (sat_minL l Z a0 hw (4 : Int64) (2 : Int64) (2 : Int64) _ _ (by decide)) (wd hw 43 rfl) (wd hw 44 rfl) (wd hw 45 rfl) (wd hw 46 rfl) (by decide) pd_6 rfl rfl rfl (by decide) (by decide) rfl rfl (by decide) (by decide) d4_23 (pc' := 26) rfl rfl ?_
  refine go_l2i C d4_26 (pc' := 27) rfl ?_
  rw [(by decide : (2 : Int64).toInt32 = (2 : Int32))]
  refine go_newarray C (wd hw 16 rfl) rfl 2 2 (by decide) (by decide) (by decide) (ce' := 1) (sl' := 2) rfl rfl (by decide) (by decide) d4_27 (pc' := 29) rfl ?_
  intro h_2 a_3 g_4 E_5 A_6
  have n_7 : a ≠ a_3 := own_ne_new E1.lt g_4
  have n_8 : r ≠ a_3 := own_ne_new A1.lt g_4
  have g_9 : n0 ≤ a_3 := own_ge (Nat.le_of_lt (Nat.lt_of_le_of_lt ga E1.lt)) g_4
  have F_10 := Fld.ext E_5 F1
  have F_11 := Fld.ext E_5 F2
  have F_12 := Fld.ext E_5 F3
  have E_13 := Exa.ext E_5 E1
  have A_14 := Av.ext A1 E_5
  have z_15 : n0 ≤ h_2.size := Nat.le_trans (Nat.le_of_lt (Nat.lt_of_le_of_lt ga E1.lt)) E_5.1
  have A_16 : Av Z h_2 a_3 .long [.long (0 : Int64), .long (0 : Int64)] := A_6
  refine go_astore C (Ls' := #[.val (.ref a), .val (.long t), .second, .val (.long (4 : Int64)), .second, .val (.ref a_3), .unset]) d4_29 (pc' := 31) rfl rfl rfl ?_
  refine go_iconst C (0 : Int32) d4_31 (pc' := 32) rfl (by decide) ?_
  refine go_istore C (Ls' := #[.val (.ref a), .val (.long t), .second, .val (.long (4 : Int64)), .second, .val (.ref a_3), .val (.int (0 : Int32))]) d4_32 (pc' := 34) rfl rfl ?_
  refine go_iload C d4_34 (pc' := 36) rfl rfl ?_
  refine go_aloadN C d4_36 (pc' := 37) rfl rfl rfl ?_
  refine go_getfield C (wd hw 24 rfl) F_12 d4_37 (pc' := 40) rfl ?_
  refine go_icmp C (0 : Int) (1 : Int) (by decide) (by decide) d4_40 (by decide) (pc' := 65) (by decide) (pcN := 43) rfl (fun (c_17 : ¬ (0 : Int) < (1 : Int)) => by omega) (fun (c_17 : (0 : Int) < (1 : Int)) => ?_)
  refine go_aload C d4_43 (pc' := 45) rfl rfl rfl ?_
  refine go_iload C d4_45 (pc' := 47) rfl rfl ?_
  refine go_aloadN C d4_47 (pc' := 48) rfl rfl rfl ?_
  refine go_getfield C (wd hw 17 rfl) F_10 d4_48 (pc' := 51) rfl ?_
  refine go_aloadN C d4_51 (pc' := 52) rfl rfl rfl ?_
  refine go_iload C d4_52 (pc' := 54) rfl rfl ?_
  refine go_privateP C (as := [.int (0 : Int32)]) (rest := [.ref r, .int (0 : Int32), .ref a_3]) (W := 3) (.int (0 : Int32)) (sat_slot l Z a0 hw a r (1 : Int32) (0 : Int32) (0 : Int32) (0 : Int32) _ _ _ F_10 F_11 A_14 rfl (by decide)) E_13 (wd hw 26 rfl) (wd hw 28 rfl) (own_selects_private (wd hw 3 rfl) (wd hw 28 rfl) (wd hw 27 rfl) (by decide)) (wd hw 27 rfl) (wd hw 4 rfl) (wd hw 29 rfl) (by decide) pd_4 rfl rfl rfl (by decide) (by decide) rfl rfl (by decide) (by decide) d4_54 (pc' := 57) rfl rfl ?_
  refine go_laload C A_14 0 (.long v0) (by decide) rfl d4_57 (pc' := 58) rfl ?_
  refine go_lastore C A_16 0 (by decide) (show 0 < 2 from by decide) g_9 d4_58 (pc' := 59) rfl ?_
  intro h_18 W_19 A_20
  have z_21 : n0 ≤ h_18.size := W_19.size.symm ▸ z_15
  have F_22 := Fld.other W_19 F_10 (Or.inl n_7)
  have F_23 := Fld.other W_19 F_11 (Or.inl n_7)
  have F_24 := Fld.other W_19 F_12 (Or.inl n_7)
  have E_25 := Exa.wr W_19 E_13
  have A_26 := Av.other A_14 W_19 n_8
  have A_27 : Av Z h_18 a_3 .long [.long v0, .long (0 : Int64)] := A_20
  refine go_iinc C (Ls' := #[.val (.ref a), .val (.long t), .second, .val (.long (4 : Int64)), .second, .val (.ref a_3), .val (.int ((0 : Int32) + (1 : Int32)))]) (1 : Int32) d4_59 (pc' := 62) rfl (by decide) rfl rfl ?_
  rw [(by decide : (0 : Int32) + (1 : Int32) = (1 : Int32))]
  refine go_goto C d4_62 (by decide) (pc' := 34) (by decide) ?_
  refine go_iload C d4_34 (pc' := 36) rfl rfl ?_
  refine go_aloadN C d4_36 (pc' := 37) rfl rfl rfl ?_
  refine go_getfield C (wd hw 24 rfl) F_24 d4_37 (pc' := 40) rfl ?_
  refine go_icmp C (1 : Int) (1 : Int) (by decide) (by decide) d4_40 (by decide) (pc' := 65) (by decide) (pcN := 43) rfl (fun (c_28 : ¬ (1 : Int) < (1 : Int)) => ?_) (fun (c_28 : (1 : Int) < (1 : Int)) => by omega)
  refine go_aloadN C d4_65 (pc' := 66) rfl rfl rfl ?_
  refine go_aload C d4_66 (pc' := 68) rfl rfl rfl ?_
  refine go_putfield C (wd hw 17 rfl) F_22 E_25 (Or.inl (wd hw 18 rfl)) (wd hw 3 rfl) (ty := (.array .long)) (by decide) rfl rfl ga d4_68 (pc' := 71) rfl ?_
  intro h_29 W_30
  have z_31 : n0 ≤ h_29.size := W_30.size.symm ▸ z_21
  have F_32 := Fld.same W_30 F_22
  have F_33 := Fld.other W_30 F_23 (Or.inr (slot_ne (a0 := a0) (Or.inl (wd hw 31 rfl)) (Or.inl (wd hw 18 rfl)) (by decide) (t := .int) (t' := (.array .long)) (by decide) (by decide)))
  have F_34 := Fld.other W_30 F_24 (Or.inr (slot_ne (a0 := a0) (Or.inl (wd hw 25 rfl)) (Or.inl (wd hw 18 rfl)) (by decide) (t := .int) (t' := (.array .long)) (by decide) (by decide)))
  have E_35 := Exa.wr W_30 E_25
  have A_36 := Av.other A_26 W_30 (Ne.symm (own_ne_arr E_25 (wd hw 3 rfl) A_26))
  have A_37 := Av.other A_27 W_30 (Ne.symm n_7)
  refine go_aloadN C d4_71 (pc' := 72) rfl rfl rfl ?_
  refine go_iconst C (0 : Int32) d4_72 (pc' := 73) rfl (by decide) ?_
  refine go_putfield C (wd hw 30 rfl) F_33 E_35 (Or.inl (wd hw 31 rfl)) (wd hw 3 rfl) (ty := .int) (by decide) rfl rfl ga d4_73 (pc' := 76) rfl ?_
  intro h_38 W_39
  have z_40 : n0 ≤ h_38.size := W_39.size.symm ▸ z_31
  have F_41 := Fld.other W_39 F_32 (Or.inr (slot_ne (a0 := a0) (Or.inl (wd hw 18 rfl)) (Or.inl (wd hw 31 rfl)) (by decide) (t := (.array .long)) (t' := .int) (by decide) (by decide)))
  have F_42 := Fld.same W_39 F_33
  have F_43 := Fld.other W_39 F_34 (Or.inr (slot_ne (a0 := a0) (Or.inl (wd hw 25 rfl)) (Or.inl (wd hw 31 rfl)) (by decide) (t := .int) (t' := .int) (by decide) (by decide)))
  have E_44 := Exa.wr W_39 E_35
  have A_45 := Av.other A_36 W_39 (Ne.symm (own_ne_arr E_35 (wd hw 3 rfl) A_36))
  have A_46 := Av.other A_37 W_39 (Ne.symm n_7)
  refine go_aloadN C d4_76 (pc' := 77) rfl rfl rfl ?_
  refine go_getfield C (wd hw 17 rfl) F_41 d4_77 (pc' := 80) rfl ?_
  refine go_aloadN C d4_80 (pc' := 81) rfl rfl rfl ?_
  refine go_aloadN C d4_81 (pc' := 82) rfl rfl rfl ?_
  refine go_getfield C (wd hw 24 rfl) F_43 d4_82 (pc' := 85) rfl ?_
  refine go_privateP C (as := [.int (1 : Int32)]) (rest := [.ref a_3]) (W := 1) (.int (1 : Int32)) (sat_slot l Z a0 hw a a_3 (2 : Int32) (0 : Int32) (1 : Int32) (1 : Int32) _ _ _ F_41 F_42 A_46 rfl (by decide)) E_44 (wd hw 26 rfl) (wd hw 28 rfl) (own_selects_private (wd hw 3 rfl) (wd hw 28 rfl) (wd hw 27 rfl) (by decide)) (wd hw 27 rfl) (wd hw 4 rfl) (wd hw 29 rfl) (by decide) pd_4 rfl rfl rfl (by decide) (by decide) rfl rfl (by decide) (by decide) d4_85 (pc' := 88) rfl rfl ?_
  refine go_lloadN C d4_88 (pc' := 89) rfl rfl ?_
  refine go_lastore C A_46 1 (by decide) (show 1 < 2 from by decide) g_9 d4_89 (pc' := 90) rfl ?_
  intro h_47 W_48 A_49
  have z_50 : n0 ≤ h_47.size := W_48.size.symm ▸ z_40
  have F_51 := Fld.other W_48 F_41 (Or.inl n_7)
  have F_52 := Fld.other W_48 F_42 (Or.inl n_7)
  have F_53 := Fld.other W_48 F_43 (Or.inl n_7)
  have E_54 := Exa.wr W_48 E_44
  have A_55 := Av.other A_45 W_48 n_8
  have A_56 : Av Z h_47 a_3 .long [.long v0, .long t] := A_49
  refine go_aloadN C d4_90 (pc' := 91) rfl rfl rfl ?_
  refine go_dup C d4_91 (pc' := 92) rfl rfl ?_
  refine go_getfield C (wd hw 24 rfl) F_53 d4_92 (pc' := 95) rfl ?_
  refine go_iconst C (1 : Int32) d4_95 (pc' := 96) rfl (by decide) ?_
  refine go_iadd C d4_96 (pc' := 97) rfl ?_
  rw [(by decide : (1 : Int32) + (1 : Int32) = (2 : Int32))]
  refine go_putfield C (wd hw 24 rfl) F_53 E_54 (Or.inl (wd hw 25 rfl)) (wd hw 3 rfl) (ty := .int) (by decide) rfl rfl ga d4_97 (pc' := 100) rfl ?_
  intro h_57 W_58
  have z_59 : n0 ≤ h_57.size := W_58.size.symm ▸ z_50
  have F_60 := Fld.other W_58 F_51 (Or.inr (slot_ne (a0 := a0) (Or.inl (wd hw 18 rfl)) (Or.inl (wd hw 25 rfl)) (by decide) (t := (.array .long)) (t' := .int) (by decide) (by decide)))
  have F_61 := Fld.other W_58 F_52 (Or.inr (slot_ne (a0 := a0) (Or.inl (wd hw 31 rfl)) (Or.inl (wd hw 25 rfl)) (by decide) (t := .int) (t' := .int) (by decide) (by decide)))
  have F_62 := Fld.same W_58 F_53
  have E_63 := Exa.wr W_58 E_54
  have A_64 := Av.other A_55 W_58 (Ne.symm (own_ne_arr E_54 (wd hw 3 rfl) A_55))
  have A_65 := Av.other A_56 W_58 (Ne.symm n_7)
  refine go_return C rfl d4_100 (by decide) (by decide) ?_
  exact ⟨rfl, _, g_9, E_63, F_60, F_61, F_62, A_65⟩
set_option maxRecDepth 65536 in
set_option maxHeartbeats 40000000 in
theorem sat_add_2_0_0 (l : Launch) (Z : State) (a0 : Array Value) (hw : ∀ d ∈ tables_1, d.before a0 Z = true) (a r : Addr) (v0 v1 : Int64) (t lim : Int64) (h0 : Heap) (n0 : Nat) (E1 : Exa Z h0 a "com/example/throttld/throttld/SlidingLog$Log") (F1 : Fld Z h0 a "com/example/throttld/throttld/SlidingLog$Log" "ring" "[J" (.ref r)) (F2 : Fld Z h0 a "com/example/throttld/throttld/SlidingLog$Log" "head" "I" (.int (0 : Int32))) (F3 : Fld Z h0 a "com/example/throttld/throttld/SlidingLog$Log" "count" "I" (.int (0 : Int32))) (A1 : Av Z h0 r .long [.long v0, .long v1]) (ga : n0 ≤ a) (gr : n0 ≤ r) :
    Sat l Z (⟨"com/example/throttld/throttld/SlidingLog$Log", "add", "(JJ)V"⟩ : MethodName) prog_32_method_6_code 7 none ({ frames := 1, cells := 0, slots := 0, locals := 17 } : Room) [.ref a, .long t, .long lim] h0 n0 (RN fun h => ∃ r' : Addr, n0 ≤ r' ∧ Exa Z h a "com/example/throttld/throttld/SlidingLog$Log" ∧ Fld Z h a "com/example/throttld/throttld/SlidingLog$Log" "ring" "[J" (.ref r') ∧ Fld Z h a "com/example/throttld/throttld/SlidingLog$Log" "head" "I" (.int (0 : Int32)) ∧ Fld Z h a "com/example/throttld/throttld/SlidingLog$Log" "count" "I" (.int (1 : Int32)) ∧ Av Z h r' .long [.long t, .long v1]) := by
  refine sat_of (own := "com/example/throttld/throttld/SlidingLog$Log") (nm := "add") rfl rfl (plainFor_of_name pn_1) #[.val (.ref a), .val (.long t), .second, .val (.long lim), .second, .unset, .unset] (fun m => by first | (simp [entryFrame, mkF, argsToLocals, Value.category, maxLocals]; done) | rfl) ?_
  intro p e s m below meth c C
  refine go_aloadN C d4_0 (pc' := 1) rfl rfl rfl ?_
  refine go_getfield C (wd hw 24 rfl) F3 d4_1 (pc' := 4) rfl ?_
  refine go_aloadN C d4_4 (pc' := 5) rfl rfl rfl ?_
  refine go_getfield C (wd hw 17 rfl) F1 d4_5 (pc' := 8) rfl ?_
  refine go_arraylength C A1 (2 : Int32) rfl d4_8 (pc' := 9) rfl ?_
  refine go_icmp C (0 : Int) (2 : Int) (by decide) (by decide) d4_9 (by decide) (pc' := 76) (by decide) (pcN := 12) rfl (fun (c_1 : ¬ (0 : Int) = (2 : Int)) => ?_) (fun (c_1 : (0 : Int) = (2 : Int)) => by omega)
  refine go_aloadN C d4_76 (pc' := 77) rfl rfl rfl ?_
  refine go_getfield C (wd hw 17 rfl) F1 d4_77 (pc' := 80) rfl ?_
  refine go_aloadN C d4_80 (pc' := 81) rfl rfl rfl ?_
  refine go_aloadN C d4_81 (pc' := 82) rfl rfl rfl ?_
  refine go_getfield C (wd hw 24 rfl) F3 d4_82 (pc' := 85) rfl ?_
  refine go_privateP C (as := [.int (0 : Int32)]) (rest := [.ref r]) (W := 1) (.int (0 : Int32)) (sat_slot l Z a0 hw a r (2 : Int32) (0 : Int32) (0 : Int32) (0 : Int32) _ _ _ F1 F2 A1 rfl (by decide)) E1 (wd hw 26 rfl) (wd hw 28 rfl) (own_selects_private (wd hw 3 rfl) (wd hw 28 rfl) (wd hw 27 rfl) (by decide)) (wd hw 27 rfl) (wd hw 4 rfl) (wd hw 29 rfl) (by decide) pd_4 rfl rfl rfl (by decide) (by decide) rfl rfl (by decide) (by decide) d4_85 (pc' := 88) rfl rfl ?_
  refine go_lloadN C d4_88 (pc' := 89) rfl rfl ?_
  refine go_lastore C A1 0 (by decide) (show 0 < 2 from by decide) gr d4_89 (pc' := 90) rfl ?_
  intro h_2 W_3 A_4
  have F_6 := Fld.other W_3 F1 (Or.inl (own_ne_arr E1 (wd hw 3 rfl) A1))
  have F_7 := Fld.other W_3 F2 (Or.inl (own_ne_arr E1 (wd hw 3 rfl) A1))
  have F_8 := Fld.other W_3 F3 (Or.inl (own_ne_arr E1 (wd hw 3 rfl) A1))
  have E_9 := Exa.wr W_3 E1
  have A_10 : Av Z h_2 r .long [.long t, .long v1] := A_4
  refine go_aloadN C d4_90 (pc' := 91) rfl rfl rfl ?_
  refine go_dup C d4_91 (pc' := 92) rfl rfl ?_
  refine go_getfield C (wd hw 24 rfl) F_8 d4_92 (pc' := 95) rfl ?_
  refine go_iconst C (1 : Int32) d4_95 (pc' := 96) rfl (by decide) ?_
  refine go_iadd C d4_96 (pc' := 97) rfl ?_
  rw [(by decide : (0 : Int32) + (1 : Int32) = (1 : Int32))]
  refine go_putfield C (wd hw 24 rfl) F_8 E_9 (Or.inl (wd hw 25 rfl)) (wd hw 3 rfl) (ty := .int) (by decide) rfl rfl ga d4_97 (pc' := 100) rfl ?_
  intro h_11 W_12
  have F_13 := Fld.other W_12 F_6 (Or.inr (slot_ne (a0 := a0) (Or.inl (wd hw 18 rfl)) (Or.inl (wd hw 25 rfl)) (by decide) (t := (.array .long)) (t' := .int) (by decide) (by decide)))
  have F_14 := Fld.other W_12 F_7 (Or.inr (slot_ne (a0 := a0) (Or.inl (wd hw 31 rfl)) (Or.inl (wd hw 25 rfl)) (by decide) (t := .int) (t' := .int) (by decide) (by decide)))
  have F_15 := Fld.same W_12 F_8
  have E_16 := Exa.wr W_12 E_9
  have A_17 := Av.other A_10 W_12 (Ne.symm (own_ne_arr E_9 (wd hw 3 rfl) A_10))
  refine go_return C rfl d4_100 (by decide) (by decide) ?_
  exact ⟨rfl, _, gr, E_16, F_13, F_14, F_15, A_17⟩
set_option maxRecDepth 65536 in
set_option maxHeartbeats 40000000 in
theorem sat_add_2_0_1 (l : Launch) (Z : State) (a0 : Array Value) (hw : ∀ d ∈ tables_1, d.before a0 Z = true) (a r : Addr) (v0 v1 : Int64) (t lim : Int64) (h0 : Heap) (n0 : Nat) (E1 : Exa Z h0 a "com/example/throttld/throttld/SlidingLog$Log") (F1 : Fld Z h0 a "com/example/throttld/throttld/SlidingLog$Log" "ring" "[J" (.ref r)) (F2 : Fld Z h0 a "com/example/throttld/throttld/SlidingLog$Log" "head" "I" (.int (0 : Int32))) (F3 : Fld Z h0 a "com/example/throttld/throttld/SlidingLog$Log" "count" "I" (.int (1 : Int32))) (A1 : Av Z h0 r .long [.long v0, .long v1]) (ga : n0 ≤ a) (gr : n0 ≤ r) :
    Sat l Z (⟨"com/example/throttld/throttld/SlidingLog$Log", "add", "(JJ)V"⟩ : MethodName) prog_32_method_6_code 7 none ({ frames := 1, cells := 0, slots := 0, locals := 17 } : Room) [.ref a, .long t, .long lim] h0 n0 (RN fun h => ∃ r' : Addr, n0 ≤ r' ∧ Exa Z h a "com/example/throttld/throttld/SlidingLog$Log" ∧ Fld Z h a "com/example/throttld/throttld/SlidingLog$Log" "ring" "[J" (.ref r') ∧ Fld Z h a "com/example/throttld/throttld/SlidingLog$Log" "head" "I" (.int (0 : Int32)) ∧ Fld Z h a "com/example/throttld/throttld/SlidingLog$Log" "count" "I" (.int (2 : Int32)) ∧ Av Z h r' .long [.long v0, .long t]) := by
  refine sat_of (own := "com/example/throttld/throttld/SlidingLog$Log") (nm := "add") rfl rfl (plainFor_of_name pn_1) #[.val (.ref a), .val (.long t), .second, .val (.long lim), .second, .unset, .unset] (fun m => by first | (simp [entryFrame, mkF, argsToLocals, Value.category, maxLocals]; done) | rfl) ?_
  intro p e s m below meth c C
  refine go_aloadN C d4_0 (pc' := 1) rfl rfl rfl ?_
  refine go_getfield C (wd hw 24 rfl) F3 d4_1 (pc' := 4) rfl ?_
  refine go_aloadN C d4_4 (pc' := 5) rfl rfl rfl ?_
  refine go_getfield C (wd hw 17 rfl) F1 d4_5 (pc' := 8) rfl ?_
  refine go_arraylength C A1 (2 : Int32) rfl d4_8 (pc' := 9) rfl ?_
  refine go_icmp C (1 : Int) (2 : Int) (by decide) (by decide) d4_9 (by decide) (pc' := 76) (by decide) (pcN := 12) rfl (fun (c_1 : ¬ (1 : Int) = (2 : Int)) => ?_) (fun (c_1 : (1 : Int) = (2 : Int)) => by omega)
  refine go_aloadN C d4_76 (pc' := 77) rfl rfl rfl ?_
  refine go_getfield C (wd hw 17 rfl) F1 d4_77 (pc' := 80) rfl ?_
  refine go_aloadN C d4_80 (pc' := 81) rfl rfl rfl ?_
  refine go_aloadN C d4_81 (pc' := 82) rfl rfl rfl ?_
  refine go_getfield C (wd hw 24 rfl) F3 d4_82 (pc' := 85) rfl ?_
  refine go_privateP C (as := [.int (1 : Int32)]) (rest := [.ref r]) (W := 1) (.int (1 : Int32)) (sat_slot l Z a0 hw a r (2 : Int32) (0 : Int32) (1 : Int32) (1 : Int32) _ _ _ F1 F2 A1 rfl (by decide)) E1 (wd hw 26 rfl) (wd hw 28 rfl) (own_selects_private (wd hw 3 rfl) (wd hw 28 rfl) (wd hw 27 rfl) (by decide)) (wd hw 27 rfl) (wd hw 4 rfl) (wd hw 29 rfl) (by decide) pd_4 rfl rfl rfl (by decide) (by decide) rfl rfl (by decide) (by decide) d4_85 (pc' := 88) rfl rfl ?_
  refine go_lloadN C d4_88 (pc' := 89) rfl rfl ?_
  refine go_lastore C A1 1 (by decide) (show 1 < 2 from by decide) gr d4_89 (pc' := 90) rfl ?_
  intro h_2 W_3 A_4
  have F_6 := Fld.other W_3 F1 (Or.inl (own_ne_arr E1 (wd hw 3 rfl) A1))
  have F_7 := Fld.other W_3 F2 (Or.inl (own_ne_arr E1 (wd hw 3 rfl) A1))
  have F_8 := Fld.other W_3 F3 (Or.inl (own_ne_arr E1 (wd hw 3 rfl) A1))
  have E_9 := Exa.wr W_3 E1
  have A_10 : Av Z h_2 r .long [.long v0, .long t] := A_4
  refine go_aloadN C d4_90 (pc' := 91) rfl rfl rfl ?_
  refine go_dup C d4_91 (pc' := 92) rfl rfl ?_
  refine go_getfield C (wd hw 24 rfl) F_8 d4_92 (pc' := 95) rfl ?_
  refine go_iconst C (1 : Int32) d4_95 (pc' := 96) rfl (by decide) ?_
  refine go_iadd C d4_96 (pc' := 97) rfl ?_
  rw [(by decide : (1 : Int32) + (1 : Int32) = (2 : Int32))]
  refine go_putfield C (wd hw 24 rfl) F_8 E_9 (Or.inl (wd hw 25 rfl)) (wd hw 3 rfl) (ty := .int) (by decide) rfl rfl ga d4_97 (pc' := 100) rfl ?_
  intro h_11 W_12
  have F_13 := Fld.other W_12 F_6 (Or.inr (slot_ne (a0 := a0) (Or.inl (wd hw 18 rfl)) (Or.inl (wd hw 25 rfl)) (by decide) (t := (.array .long)) (t' := .int) (by decide) (by decide)))
  have F_14 := Fld.other W_12 F_7 (Or.inr (slot_ne (a0 := a0) (Or.inl (wd hw 31 rfl)) (Or.inl (wd hw 25 rfl)) (by decide) (t := .int) (t' := .int) (by decide) (by decide)))
  have F_15 := Fld.same W_12 F_8
  have E_16 := Exa.wr W_12 E_9
  have A_17 := Av.other A_10 W_12 (Ne.symm (own_ne_arr E_9 (wd hw 3 rfl) A_10))
  refine go_return C rfl d4_100 (by decide) (by decide) ?_
  exact ⟨rfl, _, gr, E_16, F_13, F_14, F_15, A_17⟩
set_option maxRecDepth 65536 in
set_option maxHeartbeats 40000000 in
theorem sat_add_2_0_2 (l : Launch) (Z : State) (a0 : Array Value) (hw : ∀ d ∈ tables_1, d.before a0 Z = true) (a r : Addr) (v0 v1 : Int64) (t : Int64) (h0 : Heap) (n0 : Nat) (E1 : Exa Z h0 a "com/example/throttld/throttld/SlidingLog$Log") (F1 : Fld Z h0 a "com/example/throttld/throttld/SlidingLog$Log" "ring" "[J" (.ref r)) (F2 : Fld Z h0 a "com/example/throttld/throttld/SlidingLog$Log" "head" "I" (.int (0 : Int32))) (F3 : Fld Z h0 a "com/example/throttld/throttld/SlidingLog$Log" "count" "I" (.int (2 : Int32))) (A1 : Av Z h0 r .long [.long v0, .long v1]) (ga : n0 ≤ a) (gr : n0 ≤ r) :
    Sat l Z (⟨"com/example/throttld/throttld/SlidingLog$Log", "add", "(JJ)V"⟩ : MethodName) prog_32_method_6_code 7 none ({ frames := 1, cells := 1, slots := 4, locals := 17 } : Room) [.ref a, .long t, .long (4 : Int64)] h0 n0 (RN fun h => ∃ r' : Addr, n0 ≤ r' ∧ Exa Z h a "com/example/throttld/throttld/SlidingLog$Log" ∧ Fld Z h a "com/example/throttld/throttld/SlidingLog$Log" "ring" "[J" (.ref r') ∧ Fld Z h a "com/example/throttld/throttld/SlidingLog$Log" "head" "I" (.int (0 : Int32)) ∧ Fld Z h a "com/example/throttld/throttld/SlidingLog$Log" "count" "I" (.int (3 : Int32)) ∧ Av Z h r' .long [.long v0, .long v1, .long t, .long (0 : Int64)]) := by
  refine sat_of (own := "com/example/throttld/throttld/SlidingLog$Log") (nm := "add") rfl rfl (plainFor_of_name pn_1) #[.val (.ref a), .val (.long t), .second, .val (.long (4 : Int64)), .second, .unset, .unset] (fun m => by first | (simp [entryFrame, mkF, argsToLocals, Value.category, maxLocals]; done) | rfl) ?_
  intro p e s m below meth c C
  refine go_aloadN C d4_0 (pc' := 1) rfl rfl rfl ?_
  refine go_getfield C (wd hw 24 rfl) F3 d4_1 (pc' := 4) rfl ?_
  refine go_aloadN C d4_4 (pc' := 5) rfl rfl rfl ?_
  refine go_getfield C (wd hw 17 rfl) F1 d4_5 (pc' := 8) rfl ?_
  refine go_arraylength C A1 (2 : Int32) rfl d4_8 (pc' := 9) rfl ?_
  refine go_icmp C (2 : Int) (2 : Int) (by decide) (by decide) d4_9 (by decide) (pc' := 76) (by decide) (pcN := 12) rfl (fun (c_1 : ¬ (2 : Int) = (2 : Int)) => by omega) (fun (c_1 : (2 : Int) = (2 : Int)) => ?_)
  refine go_lloadN C d4_12 (pc' := 13) rfl rfl ?_
  refine go_ldc2 C (v := (2 : Int64)) (wd hw 42 rfl) d4_13 (pc' := 16) rfl ?_
  refine go_aloadN C d4_16 (pc' := 17) rfl rfl rfl ?_
  refine go_getfield C (wd hw 17 rfl) F1 d4_17 (pc' := 20) rfl ?_
  refine go_arraylength C A1 (2 : Int32) rfl d4_20 (pc' := 21) rfl ?_
  refine go_i2l C d4_21 (pc' := 22) rfl ?_
  rw [(by decide : (2 : Int32).toInt64 = (2 : Int64))]
  refine go_lmul C d4_22 (pc' := 23) rfl ?_
  rw [(by decide : (2 : Int64) * (2 : Int64) = (4 : Int64))]
  refine go_staticP C (as := [.long (4 : Int64), .long (4 : Int64)]) (rest := []) (W := 0) (.long (4 : Int64)) (sat_minL l Z a0 hw (4 : Int64) (4 : Int64) (4 : Int64) _ _ (by decide)) (wd hw 43 rfl) (wd hw 44 rfl) (wd hw 45 rfl) (wd hw 46 rfl) (by decide) pd_6 rfl rfl rfl (by decide) (by decide) rfl rfl (by decide) (by decide) d4_23 (pc' := 26) rfl rfl ?_
  refine go_l2i C d4_26 (pc' := 27) rfl ?_
  rw [(by decide : (4 : Int64).toInt32 = (4 : Int32))]
  refine go_newarray C (wd hw 16 rfl) rfl 4 4 (by decide) (by decide) (by decide) (ce' := 1) (sl' := 4) rfl rfl (by decide) (by decide) d4_27 (pc' := 29) rfl ?_
  intro h_2 a_3 g_4 E_5 A_6
  have n_7 : a ≠ a_3 := own_ne_new E1.lt g_4
  have n_8 : r ≠ a_3 := own_ne_new A1.lt g_4
  have g_9 : n0 ≤ a_3 := own_ge (Nat.le_of_lt (Nat.lt_of_le_of_lt ga E1.lt)) g_4
  have F_10 := Fld.ext E_5 F1
  have F_11 := Fld.ext E_5 F2
  have F_12 := Fld.ext E_5 F3
  have E_13 := Exa.ext E_5 E1
  have A_14 := Av.ext A1 E_5
  have z_15 : n0 ≤ h_2.size := Nat.le_trans (Nat.le_of_lt (Nat.lt_of_le_of_lt ga E1.lt)) E_5.1
  have A_16 : Av Z h_2 a_3 .long [.long (0 : Int64), .long (0 : Int64), .long (0 : Int64), .long (0 : Int64)] := A_6
  refine go_astore C (Ls' := #[.val (.ref a), .val (.long t), .second, .val (.long (4 : Int64)), .second, .val (.ref a_3), .unset]) d4_29 (pc' := 31) rfl rfl rfl ?_
  refine go_iconst C (0 : Int32) d4_31 (pc' := 32) rfl (by decide) ?_
  refine go_istore C (Ls' := #[.val (.ref a), .val (.long t), .second, .val (.long (4 : Int64)), .second, .val (.ref a_3), .val (.int (0 : Int32))]) d4_32 (pc' := 34) rfl rfl ?_
  refine go_iload C d4_34 (pc' := 36) rfl rfl ?_
  refine go_aloadN C d4_36 (pc' := 37) rfl rfl rfl ?_
  refine go_getfield C (wd hw 24 rfl) F_12 d4_37 (pc' := 40) rfl ?_
  refine go_icmp C (0 : Int) (2 : Int) (by decide) (by decide) d4_40 (by decide) (pc' := 65) (by decide) (pcN := 43) rfl (fun (c_17 : ¬ (0 : Int) < (2 : Int)) => by omega) (fun (c_17 : (0 : Int) < (2 : Int)) => ?_)
  refine go_aload C d4_43 (pc' := 45) rfl rfl rfl ?_
  refine go_iload C d4_45 (pc' := 47) rfl rfl ?_
  refine go_aloadN C d4_47 (pc' := 48) rfl rfl rfl ?_
  refine go_getfield C (wd hw 17 rfl) F_10 d4_48 (pc' := 51) rfl ?_
  refine go_aloadN C d4_51 (pc' := 52) rfl rfl rfl ?_
  refine go_iload C d4_52 (pc' := 54) rfl rfl ?_
  refine go_privateP C (as := [.int (0 : Int32)]) (rest := [.ref r, .int (0 : Int32), .ref a_3]) (W := 3) (.int (0 : Int32)) (sat_slot l Z a0 hw a r (2 : Int32) (0 : Int32) (0 : Int32) (0 : Int32) _ _ _ F_10 F_11 A_14 rfl (by decide)) E_13 (wd hw 26 rfl) (wd hw 28 rfl) (own_selects_private (wd hw 3 rfl) (wd hw 28 rfl) (wd hw 27 rfl) (by decide)) (wd hw 27 rfl) (wd hw 4 rfl) (wd hw 29 rfl) (by decide) pd_4 rfl rfl rfl (by decide) (by decide) rfl rfl (by decide) (by decide) d4_54 (pc' := 57) rfl rfl ?_
  refine go_laload C A_14 0 (.long v0) (by decide) rfl d4_57 (pc' := 58) rfl ?_
  refine go_lastore C A_16 0 (by decide) (show 0 < 4 from by decide) g_9 d4_58 (pc' := 59) rfl ?_
  intro h_18 W_19 A_20
  have z_21 : n0 ≤ h_18.size := W_19.size.symm ▸ z_15
  have F_22 := Fld.other W_19 F_10 (Or.inl n_7)
  have F_23 := Fld.other W_19 F_11 (Or.inl n_7)
  have F_24 := Fld.other W_19 F_12 (Or.inl n_7)
  have E_25 := Exa.wr W_19 E_13
  have A_26 := Av.other A_14 W_19 n_8
  have A_27 : Av Z h_18 a_3 .long [.long v0, .long (0 : Int64), .long (0 : Int64), .long (0 : Int64)] := A_20
  refine go_iinc C (Ls' := #[.val (.ref a), .val (.long t), .second, .val (.long (4 : Int64)), .second, .val (.ref a_3), .val (.int ((0 : Int32) + (1 : Int32)))]) (1 : Int32) d4_59 (pc' := 62) rfl (by decide) rfl rfl ?_
  rw [(by decide : (0 : Int32) + (1 : Int32) = (1 : Int32))]
  refine go_goto C d4_62 (by decide) (pc' := 34) (by decide) ?_
  refine go_iload C d4_34 (pc' := 36) rfl rfl ?_
  refine go_aloadN C d4_36 (pc' := 37) rfl rfl rfl ?_
  refine go_getfield C (wd hw 24 rfl) F_24 d4_37 (pc' := 40) rfl ?_
  refine go_icmp C (1 : Int) (2 : Int) (by decide) (by decide) d4_40 (by decide) (pc' := 65) (by decide) (pcN := 43) rfl (fun (c_28 : ¬ (1 : Int) < (2 : Int)) => by omega) (fun (c_28 : (1 : Int) < (2 : Int)) => ?_)
  refine go_aload C d4_43 (pc' := 45) rfl rfl rfl ?_
  refine go_iload C d4_45 (pc' := 47) rfl rfl ?_
  refine go_aloadN C d4_47 (pc' := 48) rfl rfl rfl ?_
  refine go_getfield C (wd hw 17 rfl) F_22 d4_48 (pc' := 51) rfl ?_
  refine go_aloadN C d4_51 (pc' := 52) rfl rfl rfl ?_
  refine go_iload C d4_52 (pc' := 54) rfl rfl ?_
  refine go_privateP C (as := [.int (1 : Int32)]) (rest := [.ref r, .int (1 : Int32), .ref a_3]) (W := 3) (.int (1 : Int32)) (sat_slot l Z a0 hw a r (2 : Int32) (0 : Int32) (1 : Int32) (1 : Int32) _ _ _ F_22 F_23 A_26 rfl (by decide)) E_25 (wd hw 26 rfl) (wd hw 28 rfl) (own_selects_private (wd hw 3 rfl) (wd hw 28 rfl) (wd hw 27 rfl) (by decide)) (wd hw 27 rfl) (wd hw 4 rfl) (wd hw 29 rfl) (by decide) pd_4 rfl rfl rfl (by decide) (by decide) rfl rfl (by decide) (by decide) d4_54 (pc' := 57) rfl rfl ?_
  refine go_laload C A_26 1 (.long v1) (by decide) rfl d4_57 (pc' := 58) rfl ?_
  refine go_lastore C A_27 1 (by decide) (show 1 < 4 from by decide) g_9 d4_58 (pc' := 59) rfl ?_
  intro h_29 W_30 A_31
  have z_32 : n0 ≤ h_29.size := W_30.size.symm ▸ z_21
  have F_33 := Fld.other W_30 F_22 (Or.inl n_7)
  have F_34 := Fld.other W_30 F_23 (Or.inl n_7)
  have F_35 := Fld.other W_30 F_24 (Or.inl n_7)
  have E_36 := Exa.wr W_30 E_25
  have A_37 := Av.other A_26 W_30 n_8
  have A_38 : Av Z h_29 a_3 .long [.long v0, .long v1, .long (0 : Int64), .long (0 : Int64)] := A_31
  refine go_iinc C (Ls' := #[.val (.ref a), .val (.long t), .second, .val (.long (4 : Int64)), .second, .val (.ref a_3), .val (.int ((1 : Int32) + (1 : Int32)))]) (1 : Int32) d4_59 (pc' := 62) rfl (by decide) rfl rfl ?_
  rw [(by decide : (1 : Int32) + (1 : Int32) = (2 : Int32))]
  refine go_goto C d4_62 (by decide) (pc' := 34) (by decide) ?_
  refine go_iload C d4_34 (pc' := 36) rfl rfl ?_
  refine go_aloadN C d4_36 (pc' := 37) rfl rfl rfl ?_
  refine go_getfield C (wd hw 24 rfl) F_35 d4_37 (pc' := 40) rfl ?_
  refine go_icmp C (2 : Int) (2 : Int) (by decide) (by decide) d4_40 (by decide) (pc' := 65) (by decide) (pcN := 43) rfl (fun (c_39 : ¬ (2 : Int) < (2 : Int)) => ?_) (fun (c_39 : (2 : Int) < (2 : Int)) => by omega)
  refine go_aloadN C d4_65 (pc' := 66) rfl rfl rfl ?_
  refine go_aload C d4_66 (pc' := 68) rfl rfl rfl ?_
  refine go_putfield C (wd hw 17 rfl) F_33 E_36 (Or.inl (wd hw 18 rfl)) (wd hw 3 rfl) (ty := (.array .long)) (by decide) rfl rfl ga d4_68 (pc' := 71) rfl ?_
  intro h_40 W_41
  have z_42 : n0 ≤ h_40.size := W_41.size.symm ▸ z_32
  have F_43 := Fld.same W_41 F_33
  have F_44 := Fld.other W_41 F_34 (Or.inr (slot_ne (a0 := a0) (Or.inl (wd hw 31 rfl)) (Or.inl (wd hw 18 rfl)) (by decide) (t := .int) (t' := (.array .long)) (by decide) (by decide)))
  have F_45 := Fld.other W_41 F_35 (Or.inr (slot_ne (a0 := a0) (Or.inl (wd hw 25 rfl)) (Or.inl (wd hw 18 rfl)) (by decide) (t := .int) (t' := (.array .long)) (by decide) (by decide)))
  have E_46 := Exa.wr W_41 E_36
  have A_47 := Av.other A_37 W_41 (Ne.symm (own_ne_arr E_36 (wd hw 3 rfl) A_37))
  have A_48 := Av.other A_38 W_41 (Ne.symm n_7)
  refine go_aloadN C d4_71 (pc' := 72) rfl rfl rfl ?_
  refine go_iconst C (0 : Int32) d4_72 (pc' := 73) rfl (by decide) ?_
  refine go_putfield C (wd hw 30 rfl) F_44 E_46 (Or.inl (wd hw 31 rfl)) (wd hw 3 rfl) (ty := .int) (by decide) rfl rfl ga d4_73 (pc' := 76) rfl ?_
  intro h_49 W_50
  have z_51 : n0 ≤ h_49.size := W_50.size.symm ▸ z_42
  have F_52 := Fld.other W_50 F_43 (Or.inr (slot_ne (a0 := a0) (Or.inl (wd hw 18 rfl)) (Or.inl (wd hw 31 rfl)) (by decide) (t := (.array .long)) (t' := .int) (by decide) (by decide)))
  have F_53 := Fld.same W_50 F_44
  have F_54 := Fld.other W_50 F_45 (Or.inr (slot_ne (a0 := a0) (Or.inl (wd hw 25 rfl)) (Or.inl (wd hw 31 rfl)) (by decide) (t := .int) (t' := .int) (by decide) (by decide)))
  have E_55 := Exa.wr W_50 E_46
  have A_56 := Av.other A_47 W_50 (Ne.symm (own_ne_arr E_46 (wd hw 3 rfl) A_47))
  have A_57 := Av.other A_48 W_50 (Ne.symm n_7)
  refine go_aloadN C d4_76 (pc' := 77) rfl rfl rfl ?_
  refine go_getfield C (wd hw 17 rfl) F_52 d4_77 (pc' := 80) rfl ?_
  refine go_aloadN C d4_80 (pc' := 81) rfl rfl rfl ?_
  refine go_aloadN C d4_81 (pc' := 82) rfl rfl rfl ?_
  refine go_getfield C (wd hw 24 rfl) F_54 d4_82 (pc' := 85) rfl ?_
  refine go_privateP C (as := [.int (2 : Int32)]) (rest := [.ref a_3]) (W := 1) (.int (2 : Int32)) (sat_slot l Z a0 hw a a_3 (4 : Int32) (0 : Int32) (2 : Int32) (2 : Int32) _ _ _ F_52 F_53 A_57 rfl (by decide)) E_55 (wd hw 26 rfl) (wd hw 28 rfl) (own_selects_private (wd hw 3 rfl) (wd hw 28 rfl) (wd hw 27 rfl) (by decide)) (wd hw 27 rfl) (wd hw 4 rfl) (wd hw 29 rfl) (by decide) pd_4 rfl rfl rfl (by decide) (by decide) rfl rfl (by decide) (by decide) d4_85 (pc' := 88) rfl rfl ?_
  refine go_lloadN C d4_88 (pc' := 89) rfl rfl ?_
  refine go_lastore C A_57 2 (by decide) (show 2 < 4 from by decide) g_9 d4_89 (pc' := 90) rfl ?_
  intro h_58 W_59 A_60
  have z_61 : n0 ≤ h_58.size := W_59.size.symm ▸ z_51
  have F_62 := Fld.other W_59 F_52 (Or.inl n_7)
  have F_63 := Fld.other W_59 F_53 (Or.inl n_7)
  have F_64 := Fld.other W_59 F_54 (Or.inl n_7)
  have E_65 := Exa.wr W_59 E_55
  have A_66 := Av.other A_56 W_59 n_8
  have A_67 : Av Z h_58 a_3 .long [.long v0, .long v1, .long t, .long (0 : Int64)] := A_60
  refine go_aloadN C d4_90 (pc' := 91) rfl rfl rfl ?_
  refine go_dup C d4_91 (pc' := 92) rfl rfl ?_
  refine go_getfield C (wd hw 24 rfl) F_64 d4_92 (pc' := 95) rfl ?_
  refine go_iconst C (1 : Int32) d4_95 (pc' := 96) rfl (by decide) ?_
  refine go_iadd C d4_96 (pc' := 97) rfl ?_
  rw [(by decide : (2 : Int32) + (1 : Int32) = (3 : Int32))]
  refine go_putfield C (wd hw 24 rfl) F_64 E_65 (Or.inl (wd hw 25 rfl)) (wd hw 3 rfl) (ty := .int) (by decide) rfl rfl ga d4_97 (pc' := 100) rfl ?_
  intro h_68 W_69
  have z_70 : n0 ≤ h_68.size := W_69.size.symm ▸ z_61
  have F_71 := Fld.other W_69 F_62 (Or.inr (slot_ne (a0 := a0) (Or.inl (wd hw 18 rfl)) (Or.inl (wd hw 25 rfl)) (by decide) (t := (.array .long)) (t' := .int) (by decide) (by decide)))
  have F_72 := Fld.other W_69 F_63 (Or.inr (slot_ne (a0 := a0) (Or.inl (wd hw 31 rfl)) (Or.inl (wd hw 25 rfl)) (by decide) (t := .int) (t' := .int) (by decide) (by decide)))
  have F_73 := Fld.same W_69 F_64
  have E_74 := Exa.wr W_69 E_65
  have A_75 := Av.other A_66 W_69 (Ne.symm (own_ne_arr E_65 (wd hw 3 rfl) A_66))
  have A_76 := Av.other A_67 W_69 (Ne.symm n_7)
  refine go_return C rfl d4_100 (by decide) (by decide) ?_
  exact ⟨rfl, _, g_9, E_74, F_71, F_72, F_73, A_76⟩
set_option maxRecDepth 65536 in
set_option maxHeartbeats 40000000 in
theorem sat_add_2_1_0 (l : Launch) (Z : State) (a0 : Array Value) (hw : ∀ d ∈ tables_1, d.before a0 Z = true) (a r : Addr) (v0 v1 : Int64) (t lim : Int64) (h0 : Heap) (n0 : Nat) (E1 : Exa Z h0 a "com/example/throttld/throttld/SlidingLog$Log") (F1 : Fld Z h0 a "com/example/throttld/throttld/SlidingLog$Log" "ring" "[J" (.ref r)) (F2 : Fld Z h0 a "com/example/throttld/throttld/SlidingLog$Log" "head" "I" (.int (1 : Int32))) (F3 : Fld Z h0 a "com/example/throttld/throttld/SlidingLog$Log" "count" "I" (.int (0 : Int32))) (A1 : Av Z h0 r .long [.long v0, .long v1]) (ga : n0 ≤ a) (gr : n0 ≤ r) :
    Sat l Z (⟨"com/example/throttld/throttld/SlidingLog$Log", "add", "(JJ)V"⟩ : MethodName) prog_32_method_6_code 7 none ({ frames := 1, cells := 0, slots := 0, locals := 17 } : Room) [.ref a, .long t, .long lim] h0 n0 (RN fun h => ∃ r' : Addr, n0 ≤ r' ∧ Exa Z h a "com/example/throttld/throttld/SlidingLog$Log" ∧ Fld Z h a "com/example/throttld/throttld/SlidingLog$Log" "ring" "[J" (.ref r') ∧ Fld Z h a "com/example/throttld/throttld/SlidingLog$Log" "head" "I" (.int (1 : Int32)) ∧ Fld Z h a "com/example/throttld/throttld/SlidingLog$Log" "count" "I" (.int (1 : Int32)) ∧ Av Z h r' .long [.long v0, .long t]) := by
  refine sat_of (own := "com/example/throttld/throttld/SlidingLog$Log") (nm := "add") rfl rfl (plainFor_of_name pn_1) #[.val (.ref a), .val (.long t), .second, .val (.long lim), .second, .unset, .unset] (fun m => by first | (simp [entryFrame, mkF, argsToLocals, Value.category, maxLocals]; done) | rfl) ?_
  intro p e s m below meth c C
  refine go_aloadN C d4_0 (pc' := 1) rfl rfl rfl ?_
  refine go_getfield C (wd hw 24 rfl) F3 d4_1 (pc' := 4) rfl ?_
  refine go_aloadN C d4_4 (pc' := 5) rfl rfl rfl ?_
  refine go_getfield C (wd hw 17 rfl) F1 d4_5 (pc' := 8) rfl ?_
  refine go_arraylength C A1 (2 : Int32) rfl d4_8 (pc' := 9) rfl ?_
  refine go_icmp C (0 : Int) (2 : Int) (by decide) (by decide) d4_9 (by decide) (pc' := 76) (by decide) (pcN := 12) rfl (fun (c_1 : ¬ (0 : Int) = (2 : Int)) => ?_) (fun (c_1 : (0 : Int) = (2 : Int)) => by omega)
  refine go_aloadN C d4_76 (pc' := 77) rfl rfl rfl ?_
  refine go_getfield C (wd hw 17 rfl) F1 d4_77 (pc' := 80) rfl ?_
  refine go_aloadN C d4_80 (pc' := 81) rfl rfl rfl ?_
  refine go_aloadN C d4_81 (pc' := 82) rfl rfl rfl ?_
  refine go_getfield C (wd hw 24 rfl) F3 d4_82 (pc' := 85) rfl ?_
  refine go_privateP C (as := [.int (0 : Int32)]) (rest := [.ref r]) (W := 1) (.int (1 : Int32)) (sat_slot l Z a0 hw a r (2 : Int32) (1 : Int32) (0 : Int32) (1 : Int32) _ _ _ F1 F2 A1 rfl (by decide)) E1 (wd hw 26 rfl) (wd hw 28 rfl) (own_selects_private (wd hw 3 rfl) (wd hw 28 rfl) (wd hw 27 rfl) (by decide)) (wd hw 27 rfl) (wd hw 4 rfl) (wd hw 29 rfl) (by decide) pd_4 rfl rfl rfl (by decide) (by decide) rfl rfl (by decide) (by decide) d4_85 (pc' := 88) rfl rfl ?_
  refine go_lloadN C d4_88 (pc' := 89) rfl rfl ?_
  refine go_lastore C A1 1 (by decide) (show 1 < 2 from by decide) gr d4_89 (pc' := 90) rfl ?_
  intro h_2 W_3 A_4
  have F_6 := Fld.other W_3 F1 (Or.inl (own_ne_arr E1 (wd hw 3 rfl) A1))
  have F_7 := Fld.other W_3 F2 (Or.inl (own_ne_arr E1 (wd hw 3 rfl) A1))
  have F_8 := Fld.other W_3 F3 (Or.inl (own_ne_arr E1 (wd hw 3 rfl) A1))
  have E_9 := Exa.wr W_3 E1
  have A_10 : Av Z h_2 r .long [.long v0, .long t] := A_4
  refine go_aloadN C d4_90 (pc' := 91) rfl rfl rfl ?_
  refine go_dup C d4_91 (pc' := 92) rfl rfl ?_
  refine go_getfield C (wd hw 24 rfl) F_8 d4_92 (pc' := 95) rfl ?_
  refine go_iconst C (1 : Int32) d4_95 (pc' := 96) rfl (by decide) ?_
  refine go_iadd C d4_96 (pc' := 97) rfl ?_
  rw [(by decide : (0 : Int32) + (1 : Int32) = (1 : Int32))]
  refine go_putfield C (wd hw 24 rfl) F_8 E_9 (Or.inl (wd hw 25 rfl)) (wd hw 3 rfl) (ty := .int) (by decide) rfl rfl ga d4_97 (pc' := 100) rfl ?_
  intro h_11 W_12
  have F_13 := Fld.other W_12 F_6 (Or.inr (slot_ne (a0 := a0) (Or.inl (wd hw 18 rfl)) (Or.inl (wd hw 25 rfl)) (by decide) (t := (.array .long)) (t' := .int) (by decide) (by decide)))
  have F_14 := Fld.other W_12 F_7 (Or.inr (slot_ne (a0 := a0) (Or.inl (wd hw 31 rfl)) (Or.inl (wd hw 25 rfl)) (by decide) (t := .int) (t' := .int) (by decide) (by decide)))
  have F_15 := Fld.same W_12 F_8
  have E_16 := Exa.wr W_12 E_9
  have A_17 := Av.other A_10 W_12 (Ne.symm (own_ne_arr E_9 (wd hw 3 rfl) A_10))
  refine go_return C rfl d4_100 (by decide) (by decide) ?_
  exact ⟨rfl, _, gr, E_16, F_13, F_14, F_15, A_17⟩
set_option maxRecDepth 65536 in
set_option maxHeartbeats 40000000 in
theorem sat_add_2_1_1 (l : Launch) (Z : State) (a0 : Array Value) (hw : ∀ d ∈ tables_1, d.before a0 Z = true) (a r : Addr) (v0 v1 : Int64) (t lim : Int64) (h0 : Heap) (n0 : Nat) (E1 : Exa Z h0 a "com/example/throttld/throttld/SlidingLog$Log") (F1 : Fld Z h0 a "com/example/throttld/throttld/SlidingLog$Log" "ring" "[J" (.ref r)) (F2 : Fld Z h0 a "com/example/throttld/throttld/SlidingLog$Log" "head" "I" (.int (1 : Int32))) (F3 : Fld Z h0 a "com/example/throttld/throttld/SlidingLog$Log" "count" "I" (.int (1 : Int32))) (A1 : Av Z h0 r .long [.long v0, .long v1]) (ga : n0 ≤ a) (gr : n0 ≤ r) :
    Sat l Z (⟨"com/example/throttld/throttld/SlidingLog$Log", "add", "(JJ)V"⟩ : MethodName) prog_32_method_6_code 7 none ({ frames := 1, cells := 0, slots := 0, locals := 17 } : Room) [.ref a, .long t, .long lim] h0 n0 (RN fun h => ∃ r' : Addr, n0 ≤ r' ∧ Exa Z h a "com/example/throttld/throttld/SlidingLog$Log" ∧ Fld Z h a "com/example/throttld/throttld/SlidingLog$Log" "ring" "[J" (.ref r') ∧ Fld Z h a "com/example/throttld/throttld/SlidingLog$Log" "head" "I" (.int (1 : Int32)) ∧ Fld Z h a "com/example/throttld/throttld/SlidingLog$Log" "count" "I" (.int (2 : Int32)) ∧ Av Z h r' .long [.long t, .long v1]) := by
  refine sat_of (own := "com/example/throttld/throttld/SlidingLog$Log") (nm := "add") rfl rfl (plainFor_of_name pn_1) #[.val (.ref a), .val (.long t), .second, .val (.long lim), .second, .unset, .unset] (fun m => by first | (simp [entryFrame, mkF, argsToLocals, Value.category, maxLocals]; done) | rfl) ?_
  intro p e s m below meth c C
  refine go_aloadN C d4_0 (pc' := 1) rfl rfl rfl ?_
  refine go_getfield C (wd hw 24 rfl) F3 d4_1 (pc' := 4) rfl ?_
  refine go_aloadN C d4_4 (pc' := 5) rfl rfl rfl ?_
  refine go_getfield C (wd hw 17 rfl) F1 d4_5 (pc' := 8) rfl ?_
  refine go_arraylength C A1 (2 : Int32) rfl d4_8 (pc' := 9) rfl ?_
  refine go_icmp C (1 : Int) (2 : Int) (by decide) (by decide) d4_9 (by decide) (pc' := 76) (by decide) (pcN := 12) rfl (fun (c_1 : ¬ (1 : Int) = (2 : Int)) => ?_) (fun (c_1 : (1 : Int) = (2 : Int)) => by omega)
  refine go_aloadN C d4_76 (pc' := 77) rfl rfl rfl ?_
  refine go_getfield C (wd hw 17 rfl) F1 d4_77 (pc' := 80) rfl ?_
  refine go_aloadN C d4_80 (pc' := 81) rfl rfl rfl ?_
  refine go_aloadN C d4_81 (pc' := 82) rfl rfl rfl ?_
  refine go_getfield C (wd hw 24 rfl) F3 d4_82 (pc' := 85) rfl ?_
  refine go_privateP C (as := [.int (1 : Int32)]) (rest := [.ref r]) (W := 1) (.int (0 : Int32)) (sat_slot l Z a0 hw a r (2 : Int32) (1 : Int32) (1 : Int32) (0 : Int32) _ _ _ F1 F2 A1 rfl (by decide)) E1 (wd hw 26 rfl) (wd hw 28 rfl) (own_selects_private (wd hw 3 rfl) (wd hw 28 rfl) (wd hw 27 rfl) (by decide)) (wd hw 27 rfl) (wd hw 4 rfl) (wd hw 29 rfl) (by decide) pd_4 rfl rfl rfl (by decide) (by decide) rfl rfl (by decide) (by decide) d4_85 (pc' := 88) rfl rfl ?_
  refine go_lloadN C d4_88 (pc' := 89) rfl rfl ?_
  refine go_lastore C A1 0 (by decide) (show 0 < 2 from by decide) gr d4_89 (pc' := 90) rfl ?_
  intro h_2 W_3 A_4
  have F_6 := Fld.other W_3 F1 (Or.inl (own_ne_arr E1 (wd hw 3 rfl) A1))
  have F_7 := Fld.other W_3 F2 (Or.inl (own_ne_arr E1 (wd hw 3 rfl) A1))
  have F_8 := Fld.other W_3 F3 (Or.inl (own_ne_arr E1 (wd hw 3 rfl) A1))
  have E_9 := Exa.wr W_3 E1
  have A_10 : Av Z h_2 r .long [.long t, .long v1] := A_4
  refine go_aloadN C d4_90 (pc' := 91) rfl rfl rfl ?_
  refine go_dup C d4_91 (pc' := 92) rfl rfl ?_
  refine go_getfield C (wd hw 24 rfl) F_8 d4_92 (pc' := 95) rfl ?_
  refine go_iconst C (1 : Int32) d4_95 (pc' := 96) rfl (by decide) ?_
  refine go_iadd C d4_96 (pc' := 97) rfl ?_
  rw [(by decide : (1 : Int32) + (1 : Int32) = (2 : Int32))]
  refine go_putfield C (wd hw 24 rfl) F_8 E_9 (Or.inl (wd hw 25 rfl)) (wd hw 3 rfl) (ty := .int) (by decide) rfl rfl ga d4_97 (pc' := 100) rfl ?_
  intro h_11 W_12
  have F_13 := Fld.other W_12 F_6 (Or.inr (slot_ne (a0 := a0) (Or.inl (wd hw 18 rfl)) (Or.inl (wd hw 25 rfl)) (by decide) (t := (.array .long)) (t' := .int) (by decide) (by decide)))
  have F_14 := Fld.other W_12 F_7 (Or.inr (slot_ne (a0 := a0) (Or.inl (wd hw 31 rfl)) (Or.inl (wd hw 25 rfl)) (by decide) (t := .int) (t' := .int) (by decide) (by decide)))
  have F_15 := Fld.same W_12 F_8
  have E_16 := Exa.wr W_12 E_9
  have A_17 := Av.other A_10 W_12 (Ne.symm (own_ne_arr E_9 (wd hw 3 rfl) A_10))
  refine go_return C rfl d4_100 (by decide) (by decide) ?_
  exact ⟨rfl, _, gr, E_16, F_13, F_14, F_15, A_17⟩
set_option maxRecDepth 65536 in
set_option maxHeartbeats 40000000 in
theorem sat_add_2_1_2 (l : Launch) (Z : State) (a0 : Array Value) (hw : ∀ d ∈ tables_1, d.before a0 Z = true) (a r : Addr) (v0 v1 : Int64) (t : Int64) (h0 : Heap) (n0 : Nat) (E1 : Exa Z h0 a "com/example/throttld/throttld/SlidingLog$Log") (F1 : Fld Z h0 a "com/example/throttld/throttld/SlidingLog$Log" "ring" "[J" (.ref r)) (F2 : Fld Z h0 a "com/example/throttld/throttld/SlidingLog$Log" "head" "I" (.int (1 : Int32))) (F3 : Fld Z h0 a "com/example/throttld/throttld/SlidingLog$Log" "count" "I" (.int (2 : Int32))) (A1 : Av Z h0 r .long [.long v0, .long v1]) (ga : n0 ≤ a) (gr : n0 ≤ r) :
    Sat l Z (⟨"com/example/throttld/throttld/SlidingLog$Log", "add", "(JJ)V"⟩ : MethodName) prog_32_method_6_code 7 none ({ frames := 1, cells := 1, slots := 4, locals := 17 } : Room) [.ref a, .long t, .long (4 : Int64)] h0 n0 (RN fun h => ∃ r' : Addr, n0 ≤ r' ∧ Exa Z h a "com/example/throttld/throttld/SlidingLog$Log" ∧ Fld Z h a "com/example/throttld/throttld/SlidingLog$Log" "ring" "[J" (.ref r') ∧ Fld Z h a "com/example/throttld/throttld/SlidingLog$Log" "head" "I" (.int (0 : Int32)) ∧ Fld Z h a "com/example/throttld/throttld/SlidingLog$Log" "count" "I" (.int (3 : Int32)) ∧ Av Z h r' .long [.long v1, .long v0, .long t, .long (0 : Int64)]) := by
  refine sat_of (own := "com/example/throttld/throttld/SlidingLog$Log") (nm := "add") rfl rfl (plainFor_of_name pn_1) #[.val (.ref a), .val (.long t), .second, .val (.long (4 : Int64)), .second, .unset, .unset] (fun m => by first | (simp [entryFrame, mkF, argsToLocals, Value.category, maxLocals]; done) | rfl) ?_
  intro p e s m below meth c C
  refine go_aloadN C d4_0 (pc' := 1) rfl rfl rfl ?_
  refine go_getfield C (wd hw 24 rfl) F3 d4_1 (pc' := 4) rfl ?_
  refine go_aloadN C d4_4 (pc' := 5) rfl rfl rfl ?_
  refine go_getfield C (wd hw 17 rfl) F1 d4_5 (pc' := 8) rfl ?_
  refine go_arraylength C A1 (2 : Int32) rfl d4_8 (pc' := 9) rfl ?_
  refine go_icmp C (2 : Int) (2 : Int) (by decide) (by decide) d4_9 (by decide) (pc' := 76) (by decide) (pcN := 12) rfl (fun (c_1 : ¬ (2 : Int) = (2 : Int)) => by omega) (fun (c_1 : (2 : Int) = (2 : Int)) => ?_)
  refine go_lloadN C d4_12 (pc' := 13) rfl rfl ?_
  refine go_ldc2 C (v := (2 : Int64)) (wd hw 42 rfl) d4_13 (pc' := 16) rfl ?_
  refine go_aloadN C d4_16 (pc' := 17) rfl rfl rfl ?_
  refine go_getfield C (wd hw 17 rfl) F1 d4_17 (pc' := 20) rfl ?_
  refine go_arraylength C A1 (2 : Int32) rfl d4_20 (pc' := 21) rfl ?_
  refine go_i2l C d4_21 (pc' := 22) rfl ?_
  rw [(by decide : (2 : Int32).toInt64 = (2 : Int64))]
  refine go_lmul C d4_22 (pc' := 23) rfl ?_
  rw [(by decide : (2 : Int64) * (2 : Int64) = (4 : Int64))]
  refine go_staticP C (as := [.long (4 : Int64), .long (4 : Int64)]) (rest := []) (W := 0) (.long (4 : Int64)) (sat_minL l Z a0 hw (4 : Int64) (4 : Int64) (4 : Int64) _ _ (by decide)) (wd hw 43 rfl) (wd hw 44 rfl) (wd hw 45 rfl) (wd hw 46 rfl) (by decide) pd_6 rfl rfl rfl (by decide) (by decide) rfl rfl (by decide) (by decide) d4_23 (pc' := 26) rfl rfl ?_
  refine go_l2i C d4_26 (pc' := 27) rfl ?_
  rw [(by decide : (4 : Int64).toInt32 = (4 : Int32))]
  refine go_newarray C (wd hw 16 rfl) rfl 4 4 (by decide) (by decide) (by decide) (ce' := 1) (sl' := 4) rfl rfl (by decide) (by decide) d4_27 (pc' := 29) rfl ?_
  intro h_2 a_3 g_4 E_5 A_6
  have n_7 : a ≠ a_3 := own_ne_new E1.lt g_4
  have n_8 : r ≠ a_3 := own_ne_new A1.lt g_4
  have g_9 : n0 ≤ a_3 := own_ge (Nat.le_of_lt (Nat.lt_of_le_of_lt ga E1.lt)) g_4
  have F_10 := Fld.ext E_5 F1
  have F_11 := Fld.ext E_5 F2
  have F_12 := Fld.ext E_5 F3
  have E_13 := Exa.ext E_5 E1
  have A_14 := Av.ext A1 E_5
  have z_15 : n0 ≤ h_2.size := Nat.le_trans (Nat.le_of_lt (Nat.lt_of_le_of_lt ga E1.lt)) E_5.1
  have A_16 : Av Z h_2 a_3 .long [.long (0 : Int64), .long (0 : Int64), .long (0 : Int64), .long (0 : Int64)] := A_6
  refine go_astore C (Ls' := #[.val (.ref a), .val (.long t), .second, .val (.long (4 : Int64)), .second, .val (.ref a_3), .unset]) d4_29 (pc' := 31) rfl rfl rfl ?_
  refine go_iconst C (0 : Int32) d4_31 (pc' := 32) rfl (by decide) ?_
  refine go_istore C (Ls' := #[.val (.ref a), .val (.long t), .second, .val (.long (4 : Int64)), .second, .val (.ref a_3), .val (.int (0 : Int32))]) d4_32 (pc' := 34) rfl rfl ?_
  refine go_iload C d4_34 (pc' := 36) rfl rfl ?_
  refine go_aloadN C d4_36 (pc' := 37) rfl rfl rfl ?_
  refine go_getfield C (wd hw 24 rfl) F_12 d4_37 (pc' := 40) rfl ?_
  refine go_icmp C (0 : Int) (2 : Int) (by decide) (by decide) d4_40 (by decide) (pc' := 65) (by decide) (pcN := 43) rfl (fun (c_17 : ¬ (0 : Int) < (2 : Int)) => by omega) (fun (c_17 : (0 : Int) < (2 : Int)) => ?_)
  refine go_aload C d4_43 (pc' := 45) rfl rfl rfl ?_
  refine go_iload C d4_45 (pc' := 47) rfl rfl ?_
  refine go_aloadN C d4_47 (pc' := 48) rfl rfl rfl ?_
  refine go_getfield C (wd hw 17 rfl) F_10 d4_48 (pc' := 51) rfl ?_
  refine go_aloadN C d4_51 (pc' := 52) rfl rfl rfl ?_
  refine go_iload C d4_52 (pc' := 54) rfl rfl ?_
  refine go_privateP C (as := [.int (0 : Int32)]) (rest := [.ref r, .int (0 : Int32), .ref a_3]) (W := 3) (.int (1 : Int32)) (sat_slot l Z a0 hw a r (2 : Int32) (1 : Int32) (0 : Int32) (1 : Int32) _ _ _ F_10 F_11 A_14 rfl (by decide)) E_13 (wd hw 26 rfl) (wd hw 28 rfl) (own_selects_private (wd hw 3 rfl) (wd hw 28 rfl) (wd hw 27 rfl) (by decide)) (wd hw 27 rfl) (wd hw 4 rfl) (wd hw 29 rfl) (by decide) pd_4 rfl rfl rfl (by decide) (by decide) rfl rfl (by decide) (by decide) d4_54 (pc' := 57) rfl rfl ?_
  refine go_laload C A_14 1 (.long v1) (by decide) rfl d4_57 (pc' := 58) rfl ?_
  refine go_lastore C A_16 0 (by decide) (show 0 < 4 from by decide) g_9 d4_58 (pc' := 59) rfl ?_
  intro h_18 W_19 A_20
  have z_21 : n0 ≤ h_18.size := W_19.size.symm ▸ z_15
  have F_22 := Fld.other W_19 F_10 (Or.inl n_7)
  have F_23 := Fld.other W_19 F_11 (Or.inl n_7)
  have F_24 := Fld.other W_19 F_12 (Or.inl n_7)
  have E_25 := Exa.wr W_19 E_13
  have A_26 := Av.other A_14 W_19 n_8
  have A_27 : Av Z h_18 a_3 .long [.long v1, .long (0 : Int64), .long (0 : Int64), .long (0 : Int64)] := A_20
  refine go_iinc C (Ls' := #[.val (.ref a), .val (.long t), .second, .val (.long (4 : Int64)), .second, .val (.ref a_3), .val (.int ((0 : Int32) + (1 : Int32)))]) (1 : Int32) d4_59 (pc' := 62) rfl (by decide) rfl rfl ?_
  rw [(by decide : (0 : Int32) + (1 : Int32) = (1 : Int32))]
  refine go_goto C d4_62 (by decide) (pc' := 34) (by decide) ?_
  refine go_iload C d4_34 (pc' := 36) rfl rfl ?_
  refine go_aloadN C d4_36 (pc' := 37) rfl rfl rfl ?_
  refine go_getfield C (wd hw 24 rfl) F_24 d4_37 (pc' := 40) rfl ?_
  refine go_icmp C (1 : Int) (2 : Int) (by decide) (by decide) d4_40 (by decide) (pc' := 65) (by decide) (pcN := 43) rfl (fun (c_28 : ¬ (1 : Int) < (2 : Int)) => by omega) (fun (c_28 : (1 : Int) < (2 : Int)) => ?_)
  refine go_aload C d4_43 (pc' := 45) rfl rfl rfl ?_
  refine go_iload C d4_45 (pc' := 47) rfl rfl ?_
  refine go_aloadN C d4_47 (pc' := 48) rfl rfl rfl ?_
  refine go_getfield C (wd hw 17 rfl) F_22 d4_48 (pc' := 51) rfl ?_
  refine go_aloadN C d4_51 (pc' := 52) rfl rfl rfl ?_
  refine go_iload C d4_52 (pc' := 54) rfl rfl ?_
  refine go_privateP C (as := [.int (1 : Int32)]) (rest := [.ref r, .int (1 : Int32), .ref a_3]) (W := 3) (.int (0 : Int32)) (sat_slot l Z a0 hw a r (2 : Int32) (1 : Int32) (1 : Int32) (0 : Int32) _ _ _ F_22 F_23 A_26 rfl (by decide)) E_25 (wd hw 26 rfl) (wd hw 28 rfl) (own_selects_private (wd hw 3 rfl) (wd hw 28 rfl) (wd hw 27 rfl) (by decide)) (wd hw 27 rfl) (wd hw 4 rfl) (wd hw 29 rfl) (by decide) pd_4 rfl rfl rfl (by decide) (by decide) rfl rfl (by decide) (by decide) d4_54 (pc' := 57) rfl rfl ?_
  refine go_laload C A_26 0 (.long v0) (by decide) rfl d4_57 (pc' := 58) rfl ?_
  refine go_lastore C A_27 1 (by decide) (show 1 < 4 from by decide) g_9 d4_58 (pc' := 59) rfl ?_
  intro h_29 W_30 A_31
  have z_32 : n0 ≤ h_29.size := W_30.size.symm ▸ z_21
  have F_33 := Fld.other W_30 F_22 (Or.inl n_7)
  have F_34 := Fld.other W_30 F_23 (Or.inl n_7)
  have F_35 := Fld.other W_30 F_24 (Or.inl n_7)
  have E_36 := Exa.wr W_30 E_25
  have A_37 := Av.other A_26 W_30 n_8
  have A_38 : Av Z h_29 a_3 .long [.long v1, .long v0, .long (0 : Int64), .long (0 : Int64)] := A_31
  refine go_iinc C (Ls' := #[.val (.ref a), .val (.long t), .second, .val (.long (4 : Int64)), .second, .val (.ref a_3), .val (.int ((1 : Int32) + (1 : Int32)))]) (1 : Int32) d4_59 (pc' := 62) rfl (by decide) rfl rfl ?_
  rw [(by decide : (1 : Int32) + (1 : Int32) = (2 : Int32))]
  refine go_goto C d4_62 (by decide) (pc' := 34) (by decide) ?_
  refine go_iload C d4_34 (pc' := 36) rfl rfl ?_
  refine go_aloadN C d4_36 (pc' := 37) rfl rfl rfl ?_
  refine go_getfield C (wd hw 24 rfl) F_35 d4_37 (pc' := 40) rfl ?_
  refine go_icmp C (2 : Int) (2 : Int) (by decide) (by decide) d4_40 (by decide) (pc' := 65) (by decide) (pcN := 43) rfl (fun (c_39 : ¬ (2 : Int) < (2 : Int)) => ?_) (fun (c_39 : (2 : Int) < (2 : Int)) => by omega)
  refine go_aloadN C d4_65 (pc' := 66) rfl rfl rfl ?_
  refine go_aload C d4_66 (pc' := 68) rfl rfl rfl ?_
  refine go_putfield C (wd hw 17 rfl) F_33 E_36 (Or.inl (wd hw 18 rfl)) (wd hw 3 rfl) (ty := (.array .long)) (by decide) rfl rfl ga d4_68 (pc' := 71) rfl ?_
  intro h_40 W_41
  have z_42 : n0 ≤ h_40.size := W_41.size.symm ▸ z_32
  have F_43 := Fld.same W_41 F_33
  have F_44 := Fld.other W_41 F_34 (Or.inr (slot_ne (a0 := a0) (Or.inl (wd hw 31 rfl)) (Or.inl (wd hw 18 rfl)) (by decide) (t := .int) (t' := (.array .long)) (by decide) (by decide)))
  have F_45 := Fld.other W_41 F_35 (Or.inr (slot_ne (a0 := a0) (Or.inl (wd hw 25 rfl)) (Or.inl (wd hw 18 rfl)) (by decide) (t := .int) (t' := (.array .long)) (by decide) (by decide)))
  have E_46 := Exa.wr W_41 E_36
  have A_47 := Av.other A_37 W_41 (Ne.symm (own_ne_arr E_36 (wd hw 3 rfl) A_37))
  have A_48 := Av.other A_38 W_41 (Ne.symm n_7)
  refine go_aloadN C d4_71 (pc' := 72) rfl rfl rfl ?_
  refine go_iconst C (0 : Int32) d4_72 (pc' := 73) rfl (by decide) ?_
  refine go_putfield C (wd hw 30 rfl) F_44 E_46 (Or.inl (wd hw 31 rfl)) (wd hw 3 rfl) (ty := .int) (by decide) rfl rfl ga d4_73 (pc' := 76) rfl ?_
  intro h_49 W_50
  have z_51 : n0 ≤ h_49.size := W_50.size.symm ▸ z_42
  have F_52 := Fld.other W_50 F_43 (Or.inr (slot_ne (a0 := a0) (Or.inl (wd hw 18 rfl)) (Or.inl (wd hw 31 rfl)) (by decide) (t := (.array .long)) (t' := .int) (by decide) (by decide)))
  have F_53 := Fld.same W_50 F_44
  have F_54 := Fld.other W_50 F_45 (Or.inr (slot_ne (a0 := a0) (Or.inl (wd hw 25 rfl)) (Or.inl (wd hw 31 rfl)) (by decide) (t := .int) (t' := .int) (by decide) (by decide)))
  have E_55 := Exa.wr W_50 E_46
  have A_56 := Av.other A_47 W_50 (Ne.symm (own_ne_arr E_46 (wd hw 3 rfl) A_47))
  have A_57 := Av.other A_48 W_50 (Ne.symm n_7)
  refine go_aloadN C d4_76 (pc' := 77) rfl rfl rfl ?_
  refine go_getfield C (wd hw 17 rfl) F_52 d4_77 (pc' := 80) rfl ?_
  refine go_aloadN C d4_80 (pc' := 81) rfl rfl rfl ?_
  refine go_aloadN C d4_81 (pc' := 82) rfl rfl rfl ?_
  refine go_getfield C (wd hw 24 rfl) F_54 d4_82 (pc' := 85) rfl ?_
  refine go_privateP C (as := [.int (2 : Int32)]) (rest := [.ref a_3]) (W := 1) (.int (2 : Int32)) (sat_slot l Z a0 hw a a_3 (4 : Int32) (0 : Int32) (2 : Int32) (2 : Int32) _ _ _ F_52 F_53 A_57 rfl (by decide)) E_55 (wd hw 26 rfl) (wd hw 28 rfl) (own_selects_private (wd hw 3 rfl) (wd hw 28 rfl) (wd hw 27 rfl) (by decide)) (wd hw 27 rfl) (wd hw 4 rfl) (wd hw 29 rfl) (by decide) pd_4 rfl rfl rfl (by decide) (by decide) rfl rfl (by decide) (by decide) d4_85 (pc' := 88) rfl rfl ?_
  refine go_lloadN C d4_88 (pc' := 89) rfl rfl ?_
  refine go_lastore C A_57 2 (by decide) (show 2 < 4 from by decide) g_9 d4_89 (pc' := 90) rfl ?_
  intro h_58 W_59 A_60
  have z_61 : n0 ≤ h_58.size := W_59.size.symm ▸ z_51
  have F_62 := Fld.other W_59 F_52 (Or.inl n_7)
  have F_63 := Fld.other W_59 F_53 (Or.inl n_7)
  have F_64 := Fld.other W_59 F_54 (Or.inl n_7)
  have E_65 := Exa.wr W_59 E_55
  have A_66 := Av.other A_56 W_59 n_8
  have A_67 : Av Z h_58 a_3 .long [.long v1, .long v0, .long t, .long (0 : Int64)] := A_60
  refine go_aloadN C d4_90 (pc' := 91) rfl rfl rfl ?_
  refine go_dup C d4_91 (pc' := 92) rfl rfl ?_
  refine go_getfield C (wd hw 24 rfl) F_64 d4_92 (pc' := 95) rfl ?_
  refine go_iconst C (1 : Int32) d4_95 (pc' := 96) rfl (by decide) ?_
  refine go_iadd C d4_96 (pc' := 97) rfl ?_
  rw [(by decide : (2 : Int32) + (1 : Int32) = (3 : Int32))]
  refine go_putfield C (wd hw 24 rfl) F_64 E_65 (Or.inl (wd hw 25 rfl)) (wd hw 3 rfl) (ty := .int) (by decide) rfl rfl ga d4_97 (pc' := 100) rfl ?_
  intro h_68 W_69
  have z_70 : n0 ≤ h_68.size := W_69.size.symm ▸ z_61
  have F_71 := Fld.other W_69 F_62 (Or.inr (slot_ne (a0 := a0) (Or.inl (wd hw 18 rfl)) (Or.inl (wd hw 25 rfl)) (by decide) (t := (.array .long)) (t' := .int) (by decide) (by decide)))
  have F_72 := Fld.other W_69 F_63 (Or.inr (slot_ne (a0 := a0) (Or.inl (wd hw 31 rfl)) (Or.inl (wd hw 25 rfl)) (by decide) (t := .int) (t' := .int) (by decide) (by decide)))
  have F_73 := Fld.same W_69 F_64
  have E_74 := Exa.wr W_69 E_65
  have A_75 := Av.other A_66 W_69 (Ne.symm (own_ne_arr E_65 (wd hw 3 rfl) A_66))
  have A_76 := Av.other A_67 W_69 (Ne.symm n_7)
  refine go_return C rfl d4_100 (by decide) (by decide) ?_
  exact ⟨rfl, _, g_9, E_74, F_71, F_72, F_73, A_76⟩
set_option maxRecDepth 65536 in
set_option maxHeartbeats 40000000 in
theorem sat_add_3_0_0 (l : Launch) (Z : State) (a0 : Array Value) (hw : ∀ d ∈ tables_1, d.before a0 Z = true) (a r : Addr) (v0 v1 v2 : Int64) (t lim : Int64) (h0 : Heap) (n0 : Nat) (E1 : Exa Z h0 a "com/example/throttld/throttld/SlidingLog$Log") (F1 : Fld Z h0 a "com/example/throttld/throttld/SlidingLog$Log" "ring" "[J" (.ref r)) (F2 : Fld Z h0 a "com/example/throttld/throttld/SlidingLog$Log" "head" "I" (.int (0 : Int32))) (F3 : Fld Z h0 a "com/example/throttld/throttld/SlidingLog$Log" "count" "I" (.int (0 : Int32))) (A1 : Av Z h0 r .long [.long v0, .long v1, .long v2]) (ga : n0 ≤ a) (gr : n0 ≤ r) :
    Sat l Z (⟨"com/example/throttld/throttld/SlidingLog$Log", "add", "(JJ)V"⟩ : MethodName) prog_32_method_6_code 7 none ({ frames := 1, cells := 0, slots := 0, locals := 17 } : Room) [.ref a, .long t, .long lim] h0 n0 (RN fun h => ∃ r' : Addr, n0 ≤ r' ∧ Exa Z h a "com/example/throttld/throttld/SlidingLog$Log" ∧ Fld Z h a "com/example/throttld/throttld/SlidingLog$Log" "ring" "[J" (.ref r') ∧ Fld Z h a "com/example/throttld/throttld/SlidingLog$Log" "head" "I" (.int (0 : Int32)) ∧ Fld Z h a "com/example/throttld/throttld/SlidingLog$Log" "count" "I" (.int (1 : Int32)) ∧ Av Z h r' .long [.long t, .long v1, .long v2]) := by
  refine sat_of (own := "com/example/throttld/throttld/SlidingLog$Log") (nm := "add") rfl rfl (plainFor_of_name pn_1) #[.val (.ref a), .val (.long t), .second, .val (.long lim), .second, .unset, .unset] (fun m => by first | (simp [entryFrame, mkF, argsToLocals, Value.category, maxLocals]; done) | rfl) ?_
  intro p e s m below meth c C
  refine go_aloadN C d4_0 (pc' := 1) rfl rfl rfl ?_
  refine go_getfield C (wd hw 24 rfl) F3 d4_1 (pc' := 4) rfl ?_
  refine go_aloadN C d4_4 (pc' := 5) rfl rfl rfl ?_
  refine go_getfield C (wd hw 17 rfl) F1 d4_5 (pc' := 8) rfl ?_
  refine go_arraylength C A1 (3 : Int32) rfl d4_8 (pc' := 9) rfl ?_
  refine go_icmp C (0 : Int) (3 : Int) (by decide) (by decide) d4_9 (by decide) (pc' := 76) (by decide) (pcN := 12) rfl (fun (c_1 : ¬ (0 : Int) = (3 : Int)) => ?_) (fun (c_1 : (0 : Int) = (3 : Int)) => by omega)
  refine go_aloadN C d4_76 (pc' := 77) rfl rfl rfl ?_
  refine go_getfield C (wd hw 17 rfl) F1 d4_77 (pc' := 80) rfl ?_
  refine go_aloadN C d4_80 (pc' := 81) rfl rfl rfl ?_
  refine go_aloadN C d4_81 (pc' := 82) rfl rfl rfl ?_
  refine go_getfield C (wd hw 24 rfl) F3 d4_82 (pc' := 85) rfl ?_
  refine go_privateP C (as := [.int (0 : Int32)]) (rest := [.ref r]) (W := 1) (.int (0 : Int32)) (sat_slot l Z a0 hw a r (3 : Int32) (0 : Int32) (0 : Int32) (0 : Int32) _ _ _ F1 F2 A1 rfl (by decide)) E1 (wd hw 26 rfl) (wd hw 28 rfl) (own_selects_private (wd hw 3 rfl) (wd hw 28 rfl) (wd hw 27 rfl) (by decide)) (wd hw 27 rfl) (wd hw 4 rfl) (wd hw 29 rfl) (by decide) pd_4 rfl rfl rfl (by decide) (by decide) rfl rfl (by decide) (by decide) d4_85 (pc' := 88) rfl rfl ?_
  refine go_lloadN C d4_88 (pc' := 89) rfl rfl ?_
  refine go_lastore C A1 0 (by decide) (show 0 < 3 from by decide) gr d4_89 (pc' := 90) rfl ?_
  intro h_2 W_3 A_4
  have F_6 := Fld.other W_3 F1 (Or.inl (own_ne_arr E1 (wd hw 3 rfl) A1))
  have F_7 := Fld.other W_3 F2 (Or.inl (own_ne_arr E1 (wd hw 3 rfl) A1))
  have F_8 := Fld.other W_3 F3 (Or.inl (own_ne_arr E1 (wd hw 3 rfl) A1))
  have E_9 := Exa.wr W_3 E1
  have A_10 : Av Z h_2 r .long [.long t, .long v1, .long v2] := A_4
  refine go_aloadN C d4_90 (pc' := 91) rfl rfl rfl ?_
  refine go_dup C d4_91 (pc' := 92) rfl rfl ?_
  refine go_getfield C (wd hw 24 rfl) F_8 d4_92 (pc' := 95) rfl ?_
  refine go_iconst C (1 : Int32) d4_95 (pc' := 96) rfl (by decide) ?_
  refine go_iadd C d4_96 (pc' := 97) rfl ?_
  rw [(by decide : (0 : Int32) + (1 : Int32) = (1 : Int32))]
  refine go_putfield C (wd hw 24 rfl) F_8 E_9 (Or.inl (wd hw 25 rfl)) (wd hw 3 rfl) (ty := .int) (by decide) rfl rfl ga d4_97 (pc' := 100) rfl ?_
  intro h_11 W_12
  have F_13 := Fld.other W_12 F_6 (Or.inr (slot_ne (a0 := a0) (Or.inl (wd hw 18 rfl)) (Or.inl (wd hw 25 rfl)) (by decide) (t := (.array .long)) (t' := .int) (by decide) (by decide)))
  have F_14 := Fld.other W_12 F_7 (Or.inr (slot_ne (a0 := a0) (Or.inl (wd hw 31 rfl)) (Or.inl (wd hw 25 rfl)) (by decide) (t := .int) (t' := .int) (by decide) (by decide)))
  have F_15 := Fld.same W_12 F_8
  have E_16 := Exa.wr W_12 E_9
  have A_17 := Av.other A_10 W_12 (Ne.symm (own_ne_arr E_9 (wd hw 3 rfl) A_10))
  refine go_return C rfl d4_100 (by decide) (by decide) ?_
  exact ⟨rfl, _, gr, E_16, F_13, F_14, F_15, A_17⟩
set_option maxRecDepth 65536 in
set_option maxHeartbeats 40000000 in
theorem sat_add_3_0_1 (l : Launch) (Z : State) (a0 : Array Value) (hw : ∀ d ∈ tables_1, d.before a0 Z = true) (a r : Addr) (v0 v1 v2 : Int64) (t lim : Int64) (h0 : Heap) (n0 : Nat) (E1 : Exa Z h0 a "com/example/throttld/throttld/SlidingLog$Log") (F1 : Fld Z h0 a "com/example/throttld/throttld/SlidingLog$Log" "ring" "[J" (.ref r)) (F2 : Fld Z h0 a "com/example/throttld/throttld/SlidingLog$Log" "head" "I" (.int (0 : Int32))) (F3 : Fld Z h0 a "com/example/throttld/throttld/SlidingLog$Log" "count" "I" (.int (1 : Int32))) (A1 : Av Z h0 r .long [.long v0, .long v1, .long v2]) (ga : n0 ≤ a) (gr : n0 ≤ r) :
    Sat l Z (⟨"com/example/throttld/throttld/SlidingLog$Log", "add", "(JJ)V"⟩ : MethodName) prog_32_method_6_code 7 none ({ frames := 1, cells := 0, slots := 0, locals := 17 } : Room) [.ref a, .long t, .long lim] h0 n0 (RN fun h => ∃ r' : Addr, n0 ≤ r' ∧ Exa Z h a "com/example/throttld/throttld/SlidingLog$Log" ∧ Fld Z h a "com/example/throttld/throttld/SlidingLog$Log" "ring" "[J" (.ref r') ∧ Fld Z h a "com/example/throttld/throttld/SlidingLog$Log" "head" "I" (.int (0 : Int32)) ∧ Fld Z h a "com/example/throttld/throttld/SlidingLog$Log" "count" "I" (.int (2 : Int32)) ∧ Av Z h r' .long [.long v0, .long t, .long v2]) := by
  refine sat_of (own := "com/example/throttld/throttld/SlidingLog$Log") (nm := "add") rfl rfl (plainFor_of_name pn_1) #[.val (.ref a), .val (.long t), .second, .val (.long lim), .second, .unset, .unset] (fun m => by first | (simp [entryFrame, mkF, argsToLocals, Value.category, maxLocals]; done) | rfl) ?_
  intro p e s m below meth c C
  refine go_aloadN C d4_0 (pc' := 1) rfl rfl rfl ?_
  refine go_getfield C (wd hw 24 rfl) F3 d4_1 (pc' := 4) rfl ?_
  refine go_aloadN C d4_4 (pc' := 5) rfl rfl rfl ?_
  refine go_getfield C (wd hw 17 rfl) F1 d4_5 (pc' := 8) rfl ?_
  refine go_arraylength C A1 (3 : Int32) rfl d4_8 (pc' := 9) rfl ?_
  refine go_icmp C (1 : Int) (3 : Int) (by decide) (by decide) d4_9 (by decide) (pc' := 76) (by decide) (pcN := 12) rfl (fun (c_1 : ¬ (1 : Int) = (3 : Int)) => ?_) (fun (c_1 : (1 : Int) = (3 : Int)) => by omega)
  refine go_aloadN C d4_76 (pc' := 77) rfl rfl rfl ?_
  refine go_getfield C (wd hw 17 rfl) F1 d4_77 (pc' := 80) rfl ?_
  refine go_aloadN C d4_80 (pc' := 81) rfl rfl rfl ?_
  refine go_aloadN C d4_81 (pc' := 82) rfl rfl rfl ?_
  refine go_getfield C (wd hw 24 rfl) F3 d4_82 (pc' := 85) rfl ?_
  refine go_privateP C (as := [.int (1 : Int32)]) (rest := [.ref r]) (W := 1) (.int (1 : Int32)) (sat_slot l Z a0 hw a r (3 : Int32) (0 : Int32) (1 : Int32) (1 : Int32) _ _ _ F1 F2 A1 rfl (by decide)) E1 (wd hw 26 rfl) (wd hw 28 rfl) (own_selects_private (wd hw 3 rfl) (wd hw 28 rfl) (wd hw 27 rfl) (by decide)) (wd hw 27 rfl) (wd hw 4 rfl) (wd hw 29 rfl) (by decide) pd_4 rfl rfl rfl (by decide) (by decide) rfl rfl (by decide) (by decide) d4_85 (pc' := 88) rfl rfl ?_
  refine go_lloadN C d4_88 (pc' := 89) rfl rfl ?_
  refine go_lastore C A1 1 (by decide) (show 1 < 3 from by decide) gr d4_89 (pc' := 90) rfl ?_
  intro h_2 W_3 A_4
  have F_6 := Fld.other W_3 F1 (Or.inl (own_ne_arr E1 (wd hw 3 rfl) A1))
  have F_7 := Fld.other W_3 F2 (Or.inl (own_ne_arr E1 (wd hw 3 rfl) A1))
  have F_8 := Fld.other W_3 F3 (Or.inl (own_ne_arr E1 (wd hw 3 rfl) A1))
  have E_9 := Exa.wr W_3 E1
  have A_10 : Av Z h_2 r .long [.long v0, .long t, .long v2] := A_4
  refine go_aloadN C d4_90 (pc' := 91) rfl rfl rfl ?_
  refine go_dup C d4_91 (pc' := 92) rfl rfl ?_
  refine go_getfield C (wd hw 24 rfl) F_8 d4_92 (pc' := 95) rfl ?_
  refine go_iconst C (1 : Int32) d4_95 (pc' := 96) rfl (by decide) ?_
  refine go_iadd C d4_96 (pc' := 97) rfl ?_
  rw [(by decide : (1 : Int32) + (1 : Int32) = (2 : Int32))]
  refine go_putfield C (wd hw 24 rfl) F_8 E_9 (Or.inl (wd hw 25 rfl)) (wd hw 3 rfl) (ty := .int) (by decide) rfl rfl ga d4_97 (pc' := 100) rfl ?_
  intro h_11 W_12
  have F_13 := Fld.other W_12 F_6 (Or.inr (slot_ne (a0 := a0) (Or.inl (wd hw 18 rfl)) (Or.inl (wd hw 25 rfl)) (by decide) (t := (.array .long)) (t' := .int) (by decide) (by decide)))
  have F_14 := Fld.other W_12 F_7 (Or.inr (slot_ne (a0 := a0) (Or.inl (wd hw 31 rfl)) (Or.inl (wd hw 25 rfl)) (by decide) (t := .int) (t' := .int) (by decide) (by decide)))
  have F_15 := Fld.same W_12 F_8
  have E_16 := Exa.wr W_12 E_9
  have A_17 := Av.other A_10 W_12 (Ne.symm (own_ne_arr E_9 (wd hw 3 rfl) A_10))
  refine go_return C rfl d4_100 (by decide) (by decide) ?_
  exact ⟨rfl, _, gr, E_16, F_13, F_14, F_15, A_17⟩
set_option maxRecDepth 65536 in
set_option maxHeartbeats 40000000 in
theorem sat_add_3_0_2 (l : Launch) (Z : State) (a0 : Array Value) (hw : ∀ d ∈ tables_1, d.before a0 Z = true) (a r : Addr) (v0 v1 v2 : Int64) (t lim : Int64) (h0 : Heap) (n0 : Nat) (E1 : Exa Z h0 a "com/example/throttld/throttld/SlidingLog$Log") (F1 : Fld Z h0 a "com/example/throttld/throttld/SlidingLog$Log" "ring" "[J" (.ref r)) (F2 : Fld Z h0 a "com/example/throttld/throttld/SlidingLog$Log" "head" "I" (.int (0 : Int32))) (F3 : Fld Z h0 a "com/example/throttld/throttld/SlidingLog$Log" "count" "I" (.int (2 : Int32))) (A1 : Av Z h0 r .long [.long v0, .long v1, .long v2]) (ga : n0 ≤ a) (gr : n0 ≤ r) :
    Sat l Z (⟨"com/example/throttld/throttld/SlidingLog$Log", "add", "(JJ)V"⟩ : MethodName) prog_32_method_6_code 7 none ({ frames := 1, cells := 0, slots := 0, locals := 17 } : Room) [.ref a, .long t, .long lim] h0 n0 (RN fun h => ∃ r' : Addr, n0 ≤ r' ∧ Exa Z h a "com/example/throttld/throttld/SlidingLog$Log" ∧ Fld Z h a "com/example/throttld/throttld/SlidingLog$Log" "ring" "[J" (.ref r') ∧ Fld Z h a "com/example/throttld/throttld/SlidingLog$Log" "head" "I" (.int (0 : Int32)) ∧ Fld Z h a "com/example/throttld/throttld/SlidingLog$Log" "count" "I" (.int (3 : Int32)) ∧ Av Z h r' .long [.long v0, .long v1, .long t]) := by
  refine sat_of (own := "com/example/throttld/throttld/SlidingLog$Log") (nm := "add") rfl rfl (plainFor_of_name pn_1) #[.val (.ref a), .val (.long t), .second, .val (.long lim), .second, .unset, .unset] (fun m => by first | (simp [entryFrame, mkF, argsToLocals, Value.category, maxLocals]; done) | rfl) ?_
  intro p e s m below meth c C
  refine go_aloadN C d4_0 (pc' := 1) rfl rfl rfl ?_
  refine go_getfield C (wd hw 24 rfl) F3 d4_1 (pc' := 4) rfl ?_
  refine go_aloadN C d4_4 (pc' := 5) rfl rfl rfl ?_
  refine go_getfield C (wd hw 17 rfl) F1 d4_5 (pc' := 8) rfl ?_
  refine go_arraylength C A1 (3 : Int32) rfl d4_8 (pc' := 9) rfl ?_
  refine go_icmp C (2 : Int) (3 : Int) (by decide) (by decide) d4_9 (by decide) (pc' := 76) (by decide) (pcN := 12) rfl (fun (c_1 : ¬ (2 : Int) = (3 : Int)) => ?_) (fun (c_1 : (2 : Int) = (3 : Int)) => by omega)
  refine go_aloadN C d4_76 (pc' := 77) rfl rfl rfl ?_
  refine go_getfield C (wd hw 17 rfl) F1 d4_77 (pc' := 80) rfl ?_
  refine go_aloadN C d4_80 (pc' := 81) rfl rfl rfl ?_
  refine go_aloadN C d4_81 (pc' := 82) rfl rfl rfl ?_
  refine go_getfield C (wd hw 24 rfl) F3 d4_82 (pc' := 85) rfl ?_
  refine go_privateP C (as := [.int (2 : Int32)]) (rest := [.ref r]) (W := 1) (.int (2 : Int32)) (sat_slot l Z a0 hw a r (3 : Int32) (0 : Int32) (2 : Int32) (2 : Int32) _ _ _ F1 F2 A1 rfl (by decide)) E1 (wd hw 26 rfl) (wd hw 28 rfl) (own_selects_private (wd hw 3 rfl) (wd hw 28 rfl) (wd hw 27 rfl) (by decide)) (wd hw 27 rfl) (wd hw 4 rfl) (wd hw 29 rfl) (by decide) pd_4 rfl rfl rfl (by decide) (by decide) rfl rfl (by decide) (by decide) d4_85 (pc' := 88) rfl rfl ?_
  refine go_lloadN C d4_88 (pc' := 89) rfl rfl ?_
  refine go_lastore C A1 2 (by decide) (show 2 < 3 from by decide) gr d4_89 (pc' := 90) rfl ?_
  intro h_2 W_3 A_4
  have F_6 := Fld.other W_3 F1 (Or.inl (own_ne_arr E1 (wd hw 3 rfl) A1))
  have F_7 := Fld.other W_3 F2 (Or.inl (own_ne_arr E1 (wd hw 3 rfl) A1))
  have F_8 := Fld.other W_3 F3 (Or.inl (own_ne_arr E1 (wd hw 3 rfl) A1))
  have E_9 := Exa.wr W_3 E1
  have A_10 : Av Z h_2 r .long [.long v0, .long v1, .long t] := A_4
  refine go_aloadN C d4_90 (pc' := 91) rfl rfl rfl ?_
  refine go_dup C d4_91 (pc' := 92) rfl rfl ?_
  refine go_getfield C (wd hw 24 rfl) F_8 d4_92 (pc' := 95) rfl ?_
  refine go_iconst C (1 : Int32) d4_95 (pc' := 96) rfl (by decide) ?_
  refine go_iadd C d4_96 (pc' := 97) rfl ?_
  rw [(by decide : (2 : Int32) + (1 : Int32) = (3 : Int32))]
  refine go_putfield C (wd hw 24 rfl) F_8 E_9 (Or.inl (wd hw 25 rfl)) (wd hw 3 rfl) (ty := .int) (by decide) rfl rfl ga d4_97 (pc' := 100) rfl ?_
  intro h_11 W_12
  have F_13 := Fld.other W_12 F_6 (Or.inr (slot_ne (a0 := a0) (Or.inl (wd hw 18 rfl)) (Or.inl (wd hw 25 rfl)) (by decide) (t := (.array .long)) (t' := .int) (by decide) (by decide)))
  have F_14 := Fld.other W_12 F_7 (Or.inr (slot_ne (a0 := a0) (Or.inl (wd hw 31 rfl)) (Or.inl (wd hw 25 rfl)) (by decide) (t := .int) (t' := .int) (by decide) (by decide)))
  have F_15 := Fld.same W_12 F_8
  have E_16 := Exa.wr W_12 E_9
  have A_17 := Av.other A_10 W_12 (Ne.symm (own_ne_arr E_9 (wd hw 3 rfl) A_10))
  refine go_return C rfl d4_100 (by decide) (by decide) ?_
  exact ⟨rfl, _, gr, E_16, F_13, F_14, F_15, A_17⟩
set_option maxRecDepth 65536 in
set_option maxHeartbeats 40000000 in
theorem sat_add_3_0_3 (l : Launch) (Z : State) (a0 : Array Value) (hw : ∀ d ∈ tables_1, d.before a0 Z = true) (a r : Addr) (v0 v1 v2 : Int64) (t : Int64) (h0 : Heap) (n0 : Nat) (E1 : Exa Z h0 a "com/example/throttld/throttld/SlidingLog$Log") (F1 : Fld Z h0 a "com/example/throttld/throttld/SlidingLog$Log" "ring" "[J" (.ref r)) (F2 : Fld Z h0 a "com/example/throttld/throttld/SlidingLog$Log" "head" "I" (.int (0 : Int32))) (F3 : Fld Z h0 a "com/example/throttld/throttld/SlidingLog$Log" "count" "I" (.int (3 : Int32))) (A1 : Av Z h0 r .long [.long v0, .long v1, .long v2]) (ga : n0 ≤ a) (gr : n0 ≤ r) :
    Sat l Z (⟨"com/example/throttld/throttld/SlidingLog$Log", "add", "(JJ)V"⟩ : MethodName) prog_32_method_6_code 7 none ({ frames := 1, cells := 1, slots := 4, locals := 17 } : Room) [.ref a, .long t, .long (4 : Int64)] h0 n0 (RN fun h => ∃ r' : Addr, n0 ≤ r' ∧ Exa Z h a "com/example/throttld/throttld/SlidingLog$Log" ∧ Fld Z h a "com/example/throttld/throttld/SlidingLog$Log" "ring" "[J" (.ref r') ∧ Fld Z h a "com/example/throttld/throttld/SlidingLog$Log" "head" "I" (.int (0 : Int32)) ∧ Fld Z h a "com/example/throttld/throttld/SlidingLog$Log" "count" "I" (.int (4 : Int32)) ∧ Av Z h r' .long [.long v0, .long v1, .long v2, .long t]) := by
  refine sat_of (own := "com/example/throttld/throttld/SlidingLog$Log") (nm := "add") rfl rfl (plainFor_of_name pn_1) #[.val (.ref a), .val (.long t), .second, .val (.long (4 : Int64)), .second, .unset, .unset] (fun m => by first | (simp [entryFrame, mkF, argsToLocals, Value.category, maxLocals]; done) | rfl) ?_
  intro p e s m below meth c C
  refine go_aloadN C d4_0 (pc' := 1) rfl rfl rfl ?_
  refine go_getfield C (wd hw 24 rfl) F3 d4_1 (pc' := 4) rfl ?_
  refine go_aloadN C d4_4 (pc' := 5) rfl rfl rfl ?_
  refine go_getfield C (wd hw 17 rfl) F1 d4_5 (pc' := 8) rfl ?_
  refine go_arraylength C A1 (3 : Int32) rfl d4_8 (pc' := 9) rfl ?_
  refine go_icmp C (3 : Int) (3 : Int) (by decide) (by decide) d4_9 (by decide) (pc' := 76) (by decide) (pcN := 12) rfl (fun (c_1 : ¬ (3 : Int) = (3 : Int)) => by omega) (fun (c_1 : (3 : Int) = (3 : Int)) => ?_)
  refine go_lloadN C d4_12 (pc' := 13) rfl rfl ?_
  refine go_ldc2 C (v := (2 : Int64)) (wd hw 42 rfl) d4_13 (pc' := 16) rfl ?_
  refine go_aloadN C d4_16 (pc' := 17) rfl rfl rfl ?_
  refine go_getfield C (wd hw 17 rfl) F1 d4_17 (pc' := 20) rfl ?_
  refine go_arraylength C A1 (3 : Int32) rfl d4_20 (pc' := 21) rfl ?_
  refine go_i2l C d4_21 (pc' := 22) rfl ?_
  rw [(by decide : (3 : Int32).toInt64 = (3 : Int64))]
  refine go_lmul C d4_22 (pc' := 23) rfl ?_
  rw [(by decide : (2 : Int64) * (3 : Int64) = (6 : Int64))]
  refine go_staticP C (as := [.long (4 : Int64), .long (6 : Int64)]) (rest := []) (W := 0) (.long (4 : Int64)) (sat_minL l Z a0 hw (4 : Int64) (6 : Int64) (4 : Int64) _ _ (by decide)) (wd hw 43 rfl) (wd hw 44 rfl) (wd hw 45 rfl) (wd hw 46 rfl) (by decide) pd_6 rfl rfl rfl (by decide) (by decide) rfl rfl (by decide) (by decide) d4_23 (pc' := 26) rfl rfl ?_
  refine go_l2i C d4_26 (pc' := 27) rfl ?_
  rw [(by decide : (4 : Int64).toInt32 = (4 : Int32))]
  refine go_newarray C (wd hw 16 rfl) rfl 4 4 (by decide) (by decide) (by decide) (ce' := 1) (sl' := 4) rfl rfl (by decide) (by decide) d4_27 (pc' := 29) rfl ?_
  intro h_2 a_3 g_4 E_5 A_6
  have n_7 : a ≠ a_3 := own_ne_new E1.lt g_4
  have n_8 : r ≠ a_3 := own_ne_new A1.lt g_4
  have g_9 : n0 ≤ a_3 := own_ge (Nat.le_of_lt (Nat.lt_of_le_of_lt ga E1.lt)) g_4
  have F_10 := Fld.ext E_5 F1
  have F_11 := Fld.ext E_5 F2
  have F_12 := Fld.ext E_5 F3
  have E_13 := Exa.ext E_5 E1
  have A_14 := Av.ext A1 E_5
  have z_15 : n0 ≤ h_2.size := Nat.le_trans (Nat.le_of_lt (Nat.lt_of_le_of_lt ga E1.lt)) E_5.1
  have A_16 : Av Z h_2 a_3 .long [.long (0 : Int64), .long (0 : Int64), .long (0 : Int64), .long (0 : Int64)] := A_6
  refine go_astore C (Ls' := #[.val (.ref a), .val (.long t), .second, .val (.long (4 : Int64)), .second, .val (.ref a_3), .unset]) d4_29 (pc' := 31) rfl rfl rfl ?_
  refine go_iconst C (0 : Int32) d4_31 (pc' := 32) rfl (by decide) ?_
  refine go_istore C (Ls' := #[.val (.ref a), .val (.long t), .second, .val (.long (4 : Int64)), .second, .val (.ref a_3), .val (.int (0 : Int32))]) d4_32 (pc' := 34) rfl rfl ?_
  refine go_iload C d4_34 (pc' := 36) rfl rfl ?_
  refine go_aloadN C d4_36 (pc' := 37) rfl rfl rfl ?_
  refine go_getfield C (wd hw 24 rfl) F_12 d4_37 (pc' := 40) rfl ?_
  refine go_icmp C (0 : Int) (3 : Int) (by decide) (by decide) d4_40 (by decide) (pc' := 65) (by decide) (pcN := 43) rfl (fun (c_17 : ¬ (0 : Int) < (3 : Int)) => by omega) (fun (c_17 : (0 : Int) < (3 : Int)) => ?_)
  refine go_aload C d4_43 (pc' := 45) rfl rfl rfl ?_
  refine go_iload C d4_45 (pc' := 47) rfl rfl ?_
  refine go_aloadN C d4_47 (pc' := 48) rfl rfl rfl ?_
  refine go_getfield C (wd hw 17 rfl) F_10 d4_48 (pc' := 51) rfl ?_
  refine go_aloadN C d4_51 (pc' := 52) rfl rfl rfl ?_
  refine go_iload C d4_52 (pc' := 54) rfl rfl ?_
  refine go_privateP C (as := [.int (0 : Int32)]) (rest := [.ref r, .int (0 : Int32), .ref a_3]) (W := 3) (.int (0 : Int32)) (sat_slot l Z a0 hw a r (3 : Int32) (0 : Int32) (0 : Int32) (0 : Int32) _ _ _ F_10 F_11 A_14 rfl (by decide)) E_13 (wd hw 26 rfl) (wd hw 28 rfl) (own_selects_private (wd hw 3 rfl) (wd hw 28 rfl) (wd hw 27 rfl) (by decide)) (wd hw 27 rfl) (wd hw 4 rfl) (wd hw 29 rfl) (by decide) pd_4 rfl rfl rfl (by decide) (by decide) rfl rfl (by decide) (by decide) d4_54 (pc' := 57) rfl rfl ?_
  refine go_laload C A_14 0 (.long v0) (by decide) rfl d4_57 (pc' := 58) rfl ?_
  refine go_lastore C A_16 0 (by decide) (show 0 < 4 from by decide) g_9 d4_58 (pc' := 59) rfl ?_
  intro h_18 W_19 A_20
  have z_21 : n0 ≤ h_18.size := W_19.size.symm ▸ z_15
  have F_22 := Fld.other W_19 F_10 (Or.inl n_7)
  have F_23 := Fld.other W_19 F_11 (Or.inl n_7)
  have F_24 := Fld.other W_19 F_12 (Or.inl n_7)
  have E_25 := Exa.wr W_19 E_13
  have A_26 := Av.other A_14 W_19 n_8
  have A_27 : Av Z h_18 a_3 .long [.long v0, .long (0 : Int64), .long (0 : Int64), .long (0 : Int64)] := A_20
  refine go_iinc C (Ls' := #[.val (.ref a), .val (.long t), .second, .val (.long (4 : Int64)), .second, .val (.ref a_3), .val (.int ((0 : Int32) + (1 : Int32)))]) (1 : Int32) d4_59 (pc' := 62) rfl (by decide) rfl rfl ?_
  rw [(by decide : (0 : Int32) + (1 : Int32) = (1 : Int32))]
  refine go_goto C d4_62 (by decide) (pc' := 34) (by decide) ?_
  refine go_iload C d4_34 (pc' := 36) rfl rfl ?_
  refine go_aloadN C d4_36 (pc' := 37) rfl rfl rfl ?_
  refine go_getfield C (wd hw 24 rfl) F_24 d4_37 (pc' := 40) rfl ?_
  refine go_icmp C (1 : Int) (3 : Int) (by decide) (by decide) d4_40 (by decide) (pc' := 65) (by decide) (pcN := 43) rfl (fun (c_28 : ¬ (1 : Int) < (3 : Int)) => by omega) (fun (c_28 : (1 : Int) < (3 : Int)) => ?_)
  refine go_aload C d4_43 (pc' := 45) rfl rfl rfl ?_
  refine go_iload C d4_45 (pc' := 47) rfl rfl ?_
  refine go_aloadN C d4_47 (pc' := 48) rfl rfl rfl ?_
  refine go_getfield C (wd hw 17 rfl) F_22 d4_48 (pc' := 51) rfl ?_
  refine go_aloadN C d4_51 (pc' := 52) rfl rfl rfl ?_
  refine go_iload C d4_52 (pc' := 54) rfl rfl ?_
  refine go_privateP C (as := [.int (1 : Int32)]) (rest := [.ref r, .int (1 : Int32), .ref a_3]) (W := 3) (.int (1 : Int32)) (sat_slot l Z a0 hw a r (3 : Int32) (0 : Int32) (1 : Int32) (1 : Int32) _ _ _ F_22 F_23 A_26 rfl (by decide)) E_25 (wd hw 26 rfl) (wd hw 28 rfl) (own_selects_private (wd hw 3 rfl) (wd hw 28 rfl) (wd hw 27 rfl) (by decide)) (wd hw 27 rfl) (wd hw 4 rfl) (wd hw 29 rfl) (by decide) pd_4 rfl rfl rfl (by decide) (by decide) rfl rfl (by decide) (by decide) d4_54 (pc' := 57) rfl rfl ?_
  refine go_laload C A_26 1 (.long v1) (by decide) rfl d4_57 (pc' := 58) rfl ?_
  refine go_lastore C A_27 1 (by decide) (show 1 < 4 from by decide) g_9 d4_58 (pc' := 59) rfl ?_
  intro h_29 W_30 A_31
  have z_32 : n0 ≤ h_29.size := W_30.size.symm ▸ z_21
  have F_33 := Fld.other W_30 F_22 (Or.inl n_7)
  have F_34 := Fld.other W_30 F_23 (Or.inl n_7)
  have F_35 := Fld.other W_30 F_24 (Or.inl n_7)
  have E_36 := Exa.wr W_30 E_25
  have A_37 := Av.other A_26 W_30 n_8
  have A_38 : Av Z h_29 a_3 .long [.long v0, .long v1, .long (0 : Int64), .long (0 : Int64)] := A_31
  refine go_iinc C (Ls' := #[.val (.ref a), .val (.long t), .second, .val (.long (4 : Int64)), .second, .val (.ref a_3), .val (.int ((1 : Int32) + (1 : Int32)))]) (1 : Int32) d4_59 (pc' := 62) rfl (by decide) rfl rfl ?_
  rw [(by decide : (1 : Int32) + (1 : Int32) = (2 : Int32))]
  refine go_goto C d4_62 (by decide) (pc' := 34) (by decide) ?_
  refine go_iload C d4_34 (pc' := 36) rfl rfl ?_
  refine go_aloadN C d4_36 (pc' := 37) rfl rfl rfl ?_
  refine go_getfield C (wd hw 24 rfl) F_35 d4_37 (pc' := 40) rfl ?_
  refine go_icmp C (2 : Int) (3 : Int) (by decide) (by decide) d4_40 (by decide) (pc' := 65) (by decide) (pcN := 43) rfl (fun (c_39 : ¬ (2 : Int) < (3 : Int)) => by omega) (fun (c_39 : (2 : Int) < (3 : Int)) => ?_)
  refine go_aload C d4_43 (pc' := 45) rfl rfl rfl ?_
  refine go_iload C d4_45 (pc' := 47) rfl rfl ?_
  refine go_aloadN C d4_47 (pc' := 48) rfl rfl rfl ?_
  refine go_getfield C (wd hw 17 rfl) F_33 d4_48 (pc' := 51) rfl ?_
  refine go_aloadN C d4_51 (pc' := 52) rfl rfl rfl ?_
  refine go_iload C d4_52 (pc' := 54) rfl rfl ?_
  refine go_privateP C (as := [.int (2 : Int32)]) (rest := [.ref r, .int (2 : Int32), .ref a_3]) (W := 3) (.int (2 : Int32)) (sat_slot l Z a0 hw a r (3 : Int32) (0 : Int32) (2 : Int32) (2 : Int32) _ _ _ F_33 F_34 A_37 rfl (by decide)) E_36 (wd hw 26 rfl) (wd hw 28 rfl) (own_selects_private (wd hw 3 rfl) (wd hw 28 rfl) (wd hw 27 rfl) (by decide)) (wd hw 27 rfl) (wd hw 4 rfl) (wd hw 29 rfl) (by decide) pd_4 rfl rfl rfl (by decide) (by decide) rfl rfl (by decide) (by decide) d4_54 (pc' := 57) rfl rfl ?_
  refine go_laload C A_37 2 (.long v2) (by decide) rfl d4_57 (pc' := 58) rfl ?_
  refine go_lastore C A_38 2 (by decide) (show 2 < 4 from by decide) g_9 d4_58 (pc' := 59) rfl ?_
  intro h_40 W_41 A_42
  have z_43 : n0 ≤ h_40.size := W_41.size.symm ▸ z_32
  have F_44 := Fld.other W_41 F_33 (Or.inl n_7)
  have F_45 := Fld.other W_41 F_34 (Or.inl n_7)
  have F_46 := Fld.other W_41 F_35 (Or.inl n_7)
  have E_47 := Exa.wr W_41 E_36
  have A_48 := Av.other A_37 W_41 n_8
  have A_49 : Av Z h_40 a_3 .long [.long v0, .long v1, .long v2, .long (0 : Int64)] := A_42
  refine go_iinc C (Ls' := #[.val (.ref a), .val (.long t), .second, .val (.long (4 : Int64)), .second, .val (.ref a_3), .val (.int ((2 : Int32) + (1 : Int32)))]) (1 : Int32) d4_59 (pc' := 62) rfl (by decide) rfl rfl ?_
  rw [(by decide : (2 : Int32) + (1 : Int32) = (3 : Int32))]
  refine go_goto C d4_62 (by decide) (pc' := 34) (by decide) ?_
  refine go_iload C d4_34 (pc' := 36) rfl rfl ?_
  refine go_aloadN C d4_36 (pc' := 37) rfl rfl rfl ?_
  refine go_getfield C (wd hw 24 rfl) F_46 d4_37 (pc' := 40) rfl ?_
  refine go_icmp C (3 : Int) (3 : Int) (by decide) (by decide) d4_40 (by decide) (pc' := 65) (by decide) (pcN := 43) rfl (fun (c_50 : ¬ (3 : Int) < (3 : Int)) => ?_) (fun (c_50 : (3 : Int) < (3 : Int)) => by omega)
  refine go_aloadN C d4_65 (pc' := 66) rfl rfl rfl ?_
  refine go_aload C d4_66 (pc' := 68) rfl rfl rfl ?_
  refine go_putfield C (wd hw 17 rfl) F_44 E_47 (Or.inl (wd hw 18 rfl)) (wd hw 3 rfl) (ty := (.array .long)) (by decide) rfl rfl ga d4_68 (pc' := 71) rfl ?_
  intro h_51 W_52
  have z_53 : n0 ≤ h_51.size := W_52.size.symm ▸ z_43
  have F_54 := Fld.same W_52 F_44
  have F_55 := Fld.other W_52 F_45 (Or.inr (slot_ne (a0 := a0) (Or.inl (wd hw 31 rfl)) (Or.inl (wd hw 18 rfl)) (by decide) (t := .int) (t' := (.array .long)) (by decide) (by decide)))
  have F_56 := Fld.other W_52 F_46 (Or.inr (slot_ne (a0 := a0) (Or.inl (wd hw 25 rfl)) (Or.inl (wd hw 18 rfl)) (by decide) (t := .int) (t' := (.array .long)) (by decide) (by decide)))
  have E_57 := Exa.wr W_52 E_47
  have A_58 := Av.other A_48 W_52 (Ne.symm (own_ne_arr E_47 (wd hw 3 rfl) A_48))
  have A_59 := Av.other A_49 W_52 (Ne.symm n_7)
  refine go_aloadN C d4_71 (pc' := 72) rfl rfl rfl ?_
  refine go_iconst C (0 : Int32) d4_72 (pc' := 73) rfl (by decide) ?_
  refine go_putfield C (wd hw 30 rfl) F_55 E_57 (Or.inl (wd hw 31 rfl)) (wd hw 3 rfl) (ty := .int) (by decide) rfl rfl ga d4_73 (pc' := 76) rfl ?_
  intro h_60 W_61
  have z_62 : n0 ≤ h_60.size := W_61.size.symm ▸ z_53
  have F_63 := Fld.other W_61 F_54 (Or.inr (slot_ne (a0 := a0) (Or.inl (wd hw 18 rfl)) (Or.inl (wd hw 31 rfl)) (by decide) (t := (.array .long)) (t' := .int) (by decide) (by decide)))
  have F_64 := Fld.same W_61 F_55
  have F_65 := Fld.other W_61 F_56 (Or.inr (slot_ne (a0 := a0) (Or.inl (wd hw 25 rfl)) (Or.inl (wd hw 31 rfl)) (by decide) (t := .int) (t' := .int) (by decide) (by decide)))
  have E_66 := Exa.wr W_61 E_57
  have A_67 := Av.other A_58 W_61 (Ne.symm (own_ne_arr E_57 (wd hw 3 rfl) A_58))
  have A_68 := Av.other A_59 W_61 (Ne.symm n_7)
  refine go_aloadN C d4_76 (pc' := 77) rfl rfl rfl ?_
  refine go_getfield C (wd hw 17 rfl) F_63 d4_77 (pc' := 80) rfl ?_
  refine go_aloadN C d4_80 (pc' := 81) rfl rfl rfl ?_
  refine go_aloadN C d4_81 (pc' := 82) rfl rfl rfl ?_
  refine go_getfield C (wd hw 24 rfl) F_65 d4_82 (pc' := 85) rfl ?_
  refine go_privateP C (as := [.int (3 : Int32)]) (rest := [.ref a_3]) (W := 1) (.int (3 : Int32)) (sat_slot l Z a0 hw a a_3 (4 : Int32) (0 : Int32) (3 : Int32) (3 : Int32) _ _ _ F_63 F_64 A_68 rfl (by decide)) E_66 (wd hw 26 rfl) (wd hw 28 rfl) (own_selects_private (wd hw 3 rfl) (wd hw 28 rfl) (wd hw 27 rfl) (by decide)) (wd hw 27 rfl) (wd hw 4 rfl) (wd hw 29 rfl) (by decide) pd_4 rfl rfl rfl (by decide) (by decide) rfl rfl (by decide) (by decide) d4_85 (pc' := 88) rfl rfl ?_
  refine go_lloadN C d4_88 (pc' := 89) rfl rfl ?_
  refine go_lastore C A_68 3 (by decide) (show 3 < 4 from by decide) g_9 d4_89 (pc' := 90) rfl ?_
  intro h_69 W_70 A_71
  have z_72 : n0 ≤ h_69.size := W_70.size.symm ▸ z_62
  have F_73 := Fld.other W_70 F_63 (Or.inl n_7)
  have F_74 := Fld.other W_70 F_64 (Or.inl n_7)
  have F_75 := Fld.other W_70 F_65 (Or.inl n_7)
  have E_76 := Exa.wr W_70 E_66
  have A_77 := Av.other A_67 W_70 n_8
  have A_78 : Av Z h_69 a_3 .long [.long v0, .long v1, .long v2, .long t] := A_71
  refine go_aloadN C d4_90 (pc' := 91) rfl rfl rfl ?_
  refine go_dup C d4_91 (pc' := 92) rfl rfl ?_
  refine go_getfield C (wd hw 24 rfl) F_75 d4_92 (pc' := 95) rfl ?_
  refine go_iconst C (1 : Int32) d4_95 (pc' := 96) rfl (by decide) ?_
  refine go_iadd C d4_96 (pc' := 97) rfl ?_
  rw [(by decide : (3 : Int32) + (1 : Int32) = (4 : Int32))]
  refine go_putfield C (wd hw 24 rfl) F_75 E_76 (Or.inl (wd hw 25 rfl)) (wd hw 3 rfl) (ty := .int) (by decide) rfl rfl ga d4_97 (pc' := 100) rfl ?_
  intro h_79 W_80
  have z_81 : n0 ≤ h_79.size := W_80.size.symm ▸ z_72
  have F_82 := Fld.other W_80 F_73 (Or.inr (slot_ne (a0 := a0) (Or.inl (wd hw 18 rfl)) (Or.inl (wd hw 25 rfl)) (by decide) (t := (.array .long)) (t' := .int) (by decide) (by decide)))
  have F_83 := Fld.other W_80 F_74 (Or.inr (slot_ne (a0 := a0) (Or.inl (wd hw 31 rfl)) (Or.inl (wd hw 25 rfl)) (by decide) (t := .int) (t' := .int) (by decide) (by decide)))
  have F_84 := Fld.same W_80 F_75
  have E_85 := Exa.wr W_80 E_76
  have A_86 := Av.other A_77 W_80 (Ne.symm (own_ne_arr E_76 (wd hw 3 rfl) A_77))
  have A_87 := Av.other A_78 W_80 (Ne.symm n_7)
  refine go_return C rfl d4_100 (by decide) (by decide) ?_
  exact ⟨rfl, _, g_9, E_85, F_82, F_83, F_84, A_87⟩
set_option maxRecDepth 65536 in
set_option maxHeartbeats 40000000 in
theorem sat_add_3_1_0 (l : Launch) (Z : State) (a0 : Array Value) (hw : ∀ d ∈ tables_1, d.before a0 Z = true) (a r : Addr) (v0 v1 v2 : Int64) (t lim : Int64) (h0 : Heap) (n0 : Nat) (E1 : Exa Z h0 a "com/example/throttld/throttld/SlidingLog$Log") (F1 : Fld Z h0 a "com/example/throttld/throttld/SlidingLog$Log" "ring" "[J" (.ref r)) (F2 : Fld Z h0 a "com/example/throttld/throttld/SlidingLog$Log" "head" "I" (.int (1 : Int32))) (F3 : Fld Z h0 a "com/example/throttld/throttld/SlidingLog$Log" "count" "I" (.int (0 : Int32))) (A1 : Av Z h0 r .long [.long v0, .long v1, .long v2]) (ga : n0 ≤ a) (gr : n0 ≤ r) :
    Sat l Z (⟨"com/example/throttld/throttld/SlidingLog$Log", "add", "(JJ)V"⟩ : MethodName) prog_32_method_6_code 7 none ({ frames := 1, cells := 0, slots := 0, locals := 17 } : Room) [.ref a, .long t, .long lim] h0 n0 (RN fun h => ∃ r' : Addr, n0 ≤ r' ∧ Exa Z h a "com/example/throttld/throttld/SlidingLog$Log" ∧ Fld Z h a "com/example/throttld/throttld/SlidingLog$Log" "ring" "[J" (.ref r') ∧ Fld Z h a "com/example/throttld/throttld/SlidingLog$Log" "head" "I" (.int (1 : Int32)) ∧ Fld Z h a "com/example/throttld/throttld/SlidingLog$Log" "count" "I" (.int (1 : Int32)) ∧ Av Z h r' .long [.long v0, .long t, .long v2]) := by
  refine sat_of (own := "com/example/throttld/throttld/SlidingLog$Log") (nm := "add") rfl rfl (plainFor_of_name pn_1) #[.val (.ref a), .val (.long t), .second, .val (.long lim), .second, .unset, .unset] (fun m => by first | (simp [entryFrame, mkF, argsToLocals, Value.category, maxLocals]; done) | rfl) ?_
  intro p e s m below meth c C
  refine go_aloadN C d4_0 (pc' := 1) rfl rfl rfl ?_
  refine go_getfield C (wd hw 24 rfl) F3 d4_1 (pc' := 4) rfl ?_
  refine go_aloadN C d4_4 (pc' := 5) rfl rfl rfl ?_
  refine go_getfield C (wd hw 17 rfl) F1 d4_5 (pc' := 8) rfl ?_
  refine go_arraylength C A1 (3 : Int32) rfl d4_8 (pc' := 9) rfl ?_
  refine go_icmp C (0 : Int) (3 : Int) (by decide) (by decide) d4_9 (by decide) (pc' := 76) (by decide) (pcN := 12) rfl (fun (c_1 : ¬ (0 : Int) = (3 : Int)) => ?_) (fun (c_1 : (0 : Int) = (3 : Int)) => by omega)
  refine go_aloadN C d4_76 (pc' := 77) rfl rfl rfl ?_
  refine go_getfield C (wd hw 17 rfl) F1 d4_77 (pc' := 80) rfl ?_
  refine go_aloadN C d4_80 (pc' := 81) rfl rfl rfl ?_
  refine go_aloadN C d4_81 (pc' := 82) rfl rfl rfl ?_
  refine go_getfield C (wd hw 24 rfl) F3 d4_82 (pc' := 85) rfl ?_
  refine go_privateP C (as := [.int (0 : Int32)]) (rest := [.ref r]) (W := 1) (.int (1 : Int32)) (sat_slot l Z a0 hw a r (3 : Int32) (1 : Int32) (0 : Int32) (1 : Int32) _ _ _ F1 F2 A1 rfl (by decide)) E1 (wd hw 26 rfl) (wd hw 28 rfl) (own_selects_private (wd hw 3 rfl) (wd hw 28 rfl) (wd hw 27 rfl) (by decide)) (wd hw 27 rfl) (wd hw 4 rfl) (wd hw 29 rfl) (by decide) pd_4 rfl rfl rfl (by decide) (by decide) rfl rfl (by decide) (by decide) d4_85 (pc' := 88) rfl rfl ?_
  refine go_lloadN C d4_88 (pc' := 89) rfl rfl ?_
  refine go_lastore C A1 1 (by decide) (show 1 < 3 from by decide) gr d4_89 (pc' := 90) rfl ?_
  intro h_2 W_3 A_4
  have F_6 := Fld.other W_3 F1 (Or.inl (own_ne_arr E1 (wd hw 3 rfl) A1))
  have F_7 := Fld.other W_3 F2 (Or.inl (own_ne_arr E1 (wd hw 3 rfl) A1))
  have F_8 := Fld.other W_3 F3 (Or.inl (own_ne_arr E1 (wd hw 3 rfl) A1))
  have E_9 := Exa.wr W_3 E1
  have A_10 : Av Z h_2 r .long [.long v0, .long t, .long v2] := A_4
  refine go_aloadN C d4_90 (pc' := 91) rfl rfl rfl ?_
  refine go_dup C d4_91 (pc' := 92) rfl rfl ?_
  refine go_getfield C (wd hw 24 rfl) F_8 d4_92 (pc' := 95) rfl ?_
  refine go_iconst C (1 : Int32) d4_95 (pc' := 96) rfl (by decide) ?_
  refine go_iadd C d4_96 (pc' := 97) rfl ?_
  rw [(by decide : (0 : Int32) + (1 : Int32) = (1 : Int32))]
  refine go_putfield C (wd hw 24 rfl) F_8 E_9 (Or.inl (wd hw 25 rfl)) (wd hw 3 rfl) (ty := .int) (by decide) rfl rfl ga d4_97 (pc' := 100) rfl ?_
  intro h_11 W_12
  have F_13 := Fld.other W_12 F_6 (Or.inr (slot_ne (a0 := a0) (Or.inl (wd hw 18 rfl)) (Or.inl (wd hw 25 rfl)) (by decide) (t := (.array .long)) (t' := .int) (by decide) (by decide)))
  have F_14 := Fld.other W_12 F_7 (Or.inr (slot_ne (a0 := a0) (Or.inl (wd hw 31 rfl)) (Or.inl (wd hw 25 rfl)) (by decide) (t := .int) (t' := .int) (by decide) (by decide)))
  have F_15 := Fld.same W_12 F_8
  have E_16 := Exa.wr W_12 E_9
  have A_17 := Av.other A_10 W_12 (Ne.symm (own_ne_arr E_9 (wd hw 3 rfl) A_10))
  refine go_return C rfl d4_100 (by decide) (by decide) ?_
  exact ⟨rfl, _, gr, E_16, F_13, F_14, F_15, A_17⟩
set_option maxRecDepth 65536 in
set_option maxHeartbeats 40000000 in
theorem sat_add_3_1_1 (l : Launch) (Z : State) (a0 : Array Value) (hw : ∀ d ∈ tables_1, d.before a0 Z = true) (a r : Addr) (v0 v1 v2 : Int64) (t lim : Int64) (h0 : Heap) (n0 : Nat) (E1 : Exa Z h0 a "com/example/throttld/throttld/SlidingLog$Log") (F1 : Fld Z h0 a "com/example/throttld/throttld/SlidingLog$Log" "ring" "[J" (.ref r)) (F2 : Fld Z h0 a "com/example/throttld/throttld/SlidingLog$Log" "head" "I" (.int (1 : Int32))) (F3 : Fld Z h0 a "com/example/throttld/throttld/SlidingLog$Log" "count" "I" (.int (1 : Int32))) (A1 : Av Z h0 r .long [.long v0, .long v1, .long v2]) (ga : n0 ≤ a) (gr : n0 ≤ r) :
    Sat l Z (⟨"com/example/throttld/throttld/SlidingLog$Log", "add", "(JJ)V"⟩ : MethodName) prog_32_method_6_code 7 none ({ frames := 1, cells := 0, slots := 0, locals := 17 } : Room) [.ref a, .long t, .long lim] h0 n0 (RN fun h => ∃ r' : Addr, n0 ≤ r' ∧ Exa Z h a "com/example/throttld/throttld/SlidingLog$Log" ∧ Fld Z h a "com/example/throttld/throttld/SlidingLog$Log" "ring" "[J" (.ref r') ∧ Fld Z h a "com/example/throttld/throttld/SlidingLog$Log" "head" "I" (.int (1 : Int32)) ∧ Fld Z h a "com/example/throttld/throttld/SlidingLog$Log" "count" "I" (.int (2 : Int32)) ∧ Av Z h r' .long [.long v0, .long v1, .long t]) := by
  refine sat_of (own := "com/example/throttld/throttld/SlidingLog$Log") (nm := "add") rfl rfl (plainFor_of_name pn_1) #[.val (.ref a), .val (.long t), .second, .val (.long lim), .second, .unset, .unset] (fun m => by first | (simp [entryFrame, mkF, argsToLocals, Value.category, maxLocals]; done) | rfl) ?_
  intro p e s m below meth c C
  refine go_aloadN C d4_0 (pc' := 1) rfl rfl rfl ?_
  refine go_getfield C (wd hw 24 rfl) F3 d4_1 (pc' := 4) rfl ?_
  refine go_aloadN C d4_4 (pc' := 5) rfl rfl rfl ?_
  refine go_getfield C (wd hw 17 rfl) F1 d4_5 (pc' := 8) rfl ?_
  refine go_arraylength C A1 (3 : Int32) rfl d4_8 (pc' := 9) rfl ?_
  refine go_icmp C (1 : Int) (3 : Int) (by decide) (by decide) d4_9 (by decide) (pc' := 76) (by decide) (pcN := 12) rfl (fun (c_1 : ¬ (1 : Int) = (3 : Int)) => ?_) (fun (c_1 : (1 : Int) = (3 : Int)) => by omega)
  refine go_aloadN C d4_76 (pc' := 77) rfl rfl rfl ?_
  refine go_getfield C (wd hw 17 rfl) F1 d4_77 (pc' := 80) rfl ?_
  refine go_aloadN C d4_80 (pc' := 81) rfl rfl rfl ?_
  refine go_aloadN C d4_81 (pc' := 82) rfl rfl rfl ?_
  refine go_getfield C (wd hw 24 rfl) F3 d4_82 (pc' := 85) rfl ?_
  refine go_privateP C (as := [.int (1 : Int32)]) (rest := [.ref r]) (W := 1) (.int (2 : Int32)) (sat_slot l Z a0 hw a r (3 : Int32) (1 : Int32) (1 : Int32) (2 : Int32) _ _ _ F1 F2 A1 rfl (by decide)) E1 (wd hw 26 rfl) (wd hw 28 rfl) (own_selects_private (wd hw 3 rfl) (wd hw 28 rfl) (wd hw 27 rfl) (by decide)) (wd hw 27 rfl) (wd hw 4 rfl) (wd hw 29 rfl) (by decide) pd_4 rfl rfl rfl (by decide) (by decide) rfl rfl (by decide) (by decide) d4_85 (pc' := 88) rfl rfl ?_
  refine go_lloadN C d4_88 (pc' := 89) rfl rfl ?_
  refine go_lastore C A1 2 (by decide) (show 2 < 3 from by decide) gr d4_89 (pc' := 90) rfl ?_
  intro h_2 W_3 A_4
  have F_6 := Fld.other W_3 F1 (Or.inl (own_ne_arr E1 (wd hw 3 rfl) A1))
  have F_7 := Fld.other W_3 F2 (Or.inl (own_ne_arr E1 (wd hw 3 rfl) A1))
  have F_8 := Fld.other W_3 F3 (Or.inl (own_ne_arr E1 (wd hw 3 rfl) A1))
  have E_9 := Exa.wr W_3 E1
  have A_10 : Av Z h_2 r .long [.long v0, .long v1, .long t] := A_4
  refine go_aloadN C d4_90 (pc' := 91) rfl rfl rfl ?_
  refine go_dup C d4_91 (pc' := 92) rfl rfl ?_
  refine go_getfield C (wd hw 24 rfl) F_8 d4_92 (pc' := 95) rfl ?_
  refine go_iconst C (1 : Int32) d4_95 (pc' := 96) rfl (by decide) ?_
  refine go_iadd C d4_96 (pc' := 97) rfl ?_
  rw [(by decide : (1 : Int32) + (1 : Int32) = (2 : Int32))]
  refine go_putfield C (wd hw 24 rfl) F_8 E_9 (Or.inl (wd hw 25 rfl)) (wd hw 3 rfl) (ty := .int) (by decide) rfl rfl ga d4_97 (pc' := 100) rfl ?_
  intro h_11 W_12
  have F_13 := Fld.other W_12 F_6 (Or.inr (slot_ne (a0 := a0) (Or.inl (wd hw 18 rfl)) (Or.inl (wd hw 25 rfl)) (by decide) (t := (.array .long)) (t' := .int) (by decide) (by decide)))
  have F_14 := Fld.other W_12 F_7 (Or.inr (slot_ne (a0 := a0) (Or.inl (wd hw 31 rfl)) (Or.inl (wd hw 25 rfl)) (by decide) (t := .int) (t' := .int) (by decide) (by decide)))
  have F_15 := Fld.same W_12 F_8
  have E_16 := Exa.wr W_12 E_9
  have A_17 := Av.other A_10 W_12 (Ne.symm (own_ne_arr E_9 (wd hw 3 rfl) A_10))
  refine go_return C rfl d4_100 (by decide) (by decide) ?_
  exact ⟨rfl, _, gr, E_16, F_13, F_14, F_15, A_17⟩
set_option maxRecDepth 65536 in
set_option maxHeartbeats 40000000 in
theorem sat_add_3_1_2 (l : Launch) (Z : State) (a0 : Array Value) (hw : ∀ d ∈ tables_1, d.before a0 Z = true) (a r : Addr) (v0 v1 v2 : Int64) (t lim : Int64) (h0 : Heap) (n0 : Nat) (E1 : Exa Z h0 a "com/example/throttld/throttld/SlidingLog$Log") (F1 : Fld Z h0 a "com/example/throttld/throttld/SlidingLog$Log" "ring" "[J" (.ref r)) (F2 : Fld Z h0 a "com/example/throttld/throttld/SlidingLog$Log" "head" "I" (.int (1 : Int32))) (F3 : Fld Z h0 a "com/example/throttld/throttld/SlidingLog$Log" "count" "I" (.int (2 : Int32))) (A1 : Av Z h0 r .long [.long v0, .long v1, .long v2]) (ga : n0 ≤ a) (gr : n0 ≤ r) :
    Sat l Z (⟨"com/example/throttld/throttld/SlidingLog$Log", "add", "(JJ)V"⟩ : MethodName) prog_32_method_6_code 7 none ({ frames := 1, cells := 0, slots := 0, locals := 17 } : Room) [.ref a, .long t, .long lim] h0 n0 (RN fun h => ∃ r' : Addr, n0 ≤ r' ∧ Exa Z h a "com/example/throttld/throttld/SlidingLog$Log" ∧ Fld Z h a "com/example/throttld/throttld/SlidingLog$Log" "ring" "[J" (.ref r') ∧ Fld Z h a "com/example/throttld/throttld/SlidingLog$Log" "head" "I" (.int (1 : Int32)) ∧ Fld Z h a "com/example/throttld/throttld/SlidingLog$Log" "count" "I" (.int (3 : Int32)) ∧ Av Z h r' .long [.long t, .long v1, .long v2]) := by
  refine sat_of (own := "com/example/throttld/throttld/SlidingLog$Log") (nm := "add") rfl rfl (plainFor_of_name pn_1) #[.val (.ref a), .val (.long t), .second, .val (.long lim), .second, .unset, .unset] (fun m => by first | (simp [entryFrame, mkF, argsToLocals, Value.category, maxLocals]; done) | rfl) ?_
  intro p e s m below meth c C
  refine go_aloadN C d4_0 (pc' := 1) rfl rfl rfl ?_
  refine go_getfield C (wd hw 24 rfl) F3 d4_1 (pc' := 4) rfl ?_
  refine go_aloadN C d4_4 (pc' := 5) rfl rfl rfl ?_
  refine go_getfield C (wd hw 17 rfl) F1 d4_5 (pc' := 8) rfl ?_
  refine go_arraylength C A1 (3 : Int32) rfl d4_8 (pc' := 9) rfl ?_
  refine go_icmp C (2 : Int) (3 : Int) (by decide) (by decide) d4_9 (by decide) (pc' := 76) (by decide) (pcN := 12) rfl (fun (c_1 : ¬ (2 : Int) = (3 : Int)) => ?_) (fun (c_1 : (2 : Int) = (3 : Int)) => by omega)
  refine go_aloadN C d4_76 (pc' := 77) rfl rfl rfl ?_
  refine go_getfield C (wd hw 17 rfl) F1 d4_77 (pc' := 80) rfl ?_
  refine go_aloadN C d4_80 (pc' := 81) rfl rfl rfl ?_
  refine go_aloadN C d4_81 (pc' := 82) rfl rfl rfl ?_
  refine go_getfield C (wd hw 24 rfl) F3 d4_82 (pc' := 85) rfl ?_
  refine go_privateP C (as := [.int (2 : Int32)]) (rest := [.ref r]) (W := 1) (.int (0 : Int32)) (sat_slot l Z a0 hw a r (3 : Int32) (1 : Int32) (2 : Int32) (0 : Int32) _ _ _ F1 F2 A1 rfl (by decide)) E1 (wd hw 26 rfl) (wd hw 28 rfl) (own_selects_private (wd hw 3 rfl) (wd hw 28 rfl) (wd hw 27 rfl) (by decide)) (wd hw 27 rfl) (wd hw 4 rfl) (wd hw 29 rfl) (by decide) pd_4 rfl rfl rfl (by decide) (by decide) rfl rfl (by decide) (by decide) d4_85 (pc' := 88) rfl rfl ?_
  refine go_lloadN C d4_88 (pc' := 89) rfl rfl ?_
  refine go_lastore C A1 0 (by decide) (show 0 < 3 from by decide) gr d4_89 (pc' := 90) rfl ?_
  intro h_2 W_3 A_4
  have F_6 := Fld.other W_3 F1 (Or.inl (own_ne_arr E1 (wd hw 3 rfl) A1))
  have F_7 := Fld.other W_3 F2 (Or.inl (own_ne_arr E1 (wd hw 3 rfl) A1))
  have F_8 := Fld.other W_3 F3 (Or.inl (own_ne_arr E1 (wd hw 3 rfl) A1))
  have E_9 := Exa.wr W_3 E1
  have A_10 : Av Z h_2 r .long [.long t, .long v1, .long v2] := A_4
  refine go_aloadN C d4_90 (pc' := 91) rfl rfl rfl ?_
  refine go_dup C d4_91 (pc' := 92) rfl rfl ?_
  refine go_getfield C (wd hw 24 rfl) F_8 d4_92 (pc' := 95) rfl ?_
  refine go_iconst C (1 : Int32) d4_95 (pc' := 96) rfl (by decide) ?_
  refine go_iadd C d4_96 (pc' := 97) rfl ?_
  rw [(by decide : (2 : Int32) + (1 : Int32) = (3 : Int32))]
  refine go_putfield C (wd hw 24 rfl) F_8 E_9 (Or.inl (wd hw 25 rfl)) (wd hw 3 rfl) (ty := .int) (by decide) rfl rfl ga d4_97 (pc' := 100) rfl ?_
  intro h_11 W_12
  have F_13 := Fld.other W_12 F_6 (Or.inr (slot_ne (a0 := a0) (Or.inl (wd hw 18 rfl)) (Or.inl (wd hw 25 rfl)) (by decide) (t := (.array .long)) (t' := .int) (by decide) (by decide)))
  have F_14 := Fld.other W_12 F_7 (Or.inr (slot_ne (a0 := a0) (Or.inl (wd hw 31 rfl)) (Or.inl (wd hw 25 rfl)) (by decide) (t := .int) (t' := .int) (by decide) (by decide)))
  have F_15 := Fld.same W_12 F_8
  have E_16 := Exa.wr W_12 E_9
  have A_17 := Av.other A_10 W_12 (Ne.symm (own_ne_arr E_9 (wd hw 3 rfl) A_10))
  refine go_return C rfl d4_100 (by decide) (by decide) ?_
  exact ⟨rfl, _, gr, E_16, F_13, F_14, F_15, A_17⟩
set_option maxRecDepth 65536 in
set_option maxHeartbeats 40000000 in
theorem sat_add_3_2_0 (l : Launch) (Z : State) (a0 : Array Value) (hw : ∀ d ∈ tables_1, d.before a0 Z = true) (a r : Addr) (v0 v1 v2 : Int64) (t lim : Int64) (h0 : Heap) (n0 : Nat) (E1 : Exa Z h0 a "com/example/throttld/throttld/SlidingLog$Log") (F1 : Fld Z h0 a "com/example/throttld/throttld/SlidingLog$Log" "ring" "[J" (.ref r)) (F2 : Fld Z h0 a "com/example/throttld/throttld/SlidingLog$Log" "head" "I" (.int (2 : Int32))) (F3 : Fld Z h0 a "com/example/throttld/throttld/SlidingLog$Log" "count" "I" (.int (0 : Int32))) (A1 : Av Z h0 r .long [.long v0, .long v1, .long v2]) (ga : n0 ≤ a) (gr : n0 ≤ r) :
    Sat l Z (⟨"com/example/throttld/throttld/SlidingLog$Log", "add", "(JJ)V"⟩ : MethodName) prog_32_method_6_code 7 none ({ frames := 1, cells := 0, slots := 0, locals := 17 } : Room) [.ref a, .long t, .long lim] h0 n0 (RN fun h => ∃ r' : Addr, n0 ≤ r' ∧ Exa Z h a "com/example/throttld/throttld/SlidingLog$Log" ∧ Fld Z h a "com/example/throttld/throttld/SlidingLog$Log" "ring" "[J" (.ref r') ∧ Fld Z h a "com/example/throttld/throttld/SlidingLog$Log" "head" "I" (.int (2 : Int32)) ∧ Fld Z h a "com/example/throttld/throttld/SlidingLog$Log" "count" "I" (.int (1 : Int32)) ∧ Av Z h r' .long [.long v0, .long v1, .long t]) := by
  refine sat_of (own := "com/example/throttld/throttld/SlidingLog$Log") (nm := "add") rfl rfl (plainFor_of_name pn_1) #[.val (.ref a), .val (.long t), .second, .val (.long lim), .second, .unset, .unset] (fun m => by first | (simp [entryFrame, mkF, argsToLocals, Value.category, maxLocals]; done) | rfl) ?_
  intro p e s m below meth c C
  refine go_aloadN C d4_0 (pc' := 1) rfl rfl rfl ?_
  refine go_getfield C (wd hw 24 rfl) F3 d4_1 (pc' := 4) rfl ?_
  refine go_aloadN C d4_4 (pc' := 5) rfl rfl rfl ?_
  refine go_getfield C (wd hw 17 rfl) F1 d4_5 (pc' := 8) rfl ?_
  refine go_arraylength C A1 (3 : Int32) rfl d4_8 (pc' := 9) rfl ?_
  refine go_icmp C (0 : Int) (3 : Int) (by decide) (by decide) d4_9 (by decide) (pc' := 76) (by decide) (pcN := 12) rfl (fun (c_1 : ¬ (0 : Int) = (3 : Int)) => ?_) (fun (c_1 : (0 : Int) = (3 : Int)) => by omega)
  refine go_aloadN C d4_76 (pc' := 77) rfl rfl rfl ?_
  refine go_getfield C (wd hw 17 rfl) F1 d4_77 (pc' := 80) rfl ?_
  refine go_aloadN C d4_80 (pc' := 81) rfl rfl rfl ?_
  refine go_aloadN C d4_81 (pc' := 82) rfl rfl rfl ?_
  refine go_getfield C (wd hw 24 rfl) F3 d4_82 (pc' := 85) rfl ?_
  refine go_privateP C (as := [.int (0 : Int32)]) (rest := [.ref r]) (W := 1) (.int (2 : Int32)) (sat_slot l Z a0 hw a r (3 : Int32) (2 : Int32) (0 : Int32) (2 : Int32) _ _ _ F1 F2 A1 rfl (by decide)) E1 (wd hw 26 rfl) (wd hw 28 rfl) (own_selects_private (wd hw 3 rfl) (wd hw 28 rfl) (wd hw 27 rfl) (by decide)) (wd hw 27 rfl) (wd hw 4 rfl) (wd hw 29 rfl) (by decide) pd_4 rfl rfl rfl (by decide) (by decide) rfl rfl (by decide) (by decide) d4_85 (pc' := 88) rfl rfl ?_
  refine go_lloadN C d4_88 (pc' := 89) rfl rfl ?_
  refine go_lastore C A1 2 (by decide) (show 2 < 3 from by decide) gr d4_89 (pc' := 90) rfl ?_
  intro h_2 W_3 A_4
  have F_6 := Fld.other W_3 F1 (Or.inl (own_ne_arr E1 (wd hw 3 rfl) A1))
  have F_7 := Fld.other W_3 F2 (Or.inl (own_ne_arr E1 (wd hw 3 rfl) A1))
  have F_8 := Fld.other W_3 F3 (Or.inl (own_ne_arr E1 (wd hw 3 rfl) A1))
  have E_9 := Exa.wr W_3 E1
  have A_10 : Av Z h_2 r .long [.long v0, .long v1, .long t] := A_4
  refine go_aloadN C d4_90 (pc' := 91) rfl rfl rfl ?_
  refine go_dup C d4_91 (pc' := 92) rfl rfl ?_
  refine go_getfield C (wd hw 24 rfl) F_8 d4_92 (pc' := 95) rfl ?_
  refine go_iconst C (1 : Int32) d4_95 (pc' := 96) rfl (by decide) ?_
  refine go_iadd C d4_96 (pc' := 97) rfl ?_
  rw [(by decide : (0 : Int32) + (1 : Int32) = (1 : Int32))]
  refine go_putfield C (wd hw 24 rfl) F_8 E_9 (Or.inl (wd hw 25 rfl)) (wd hw 3 rfl) (ty := .int) (by decide) rfl rfl ga d4_97 (pc' := 100) rfl ?_
  intro h_11 W_12
  have F_13 := Fld.other W_12 F_6 (Or.inr (slot_ne (a0 := a0) (Or.inl (wd hw 18 rfl)) (Or.inl (wd hw 25 rfl)) (by decide) (t := (.array .long)) (t' := .int) (by decide) (by decide)))
  have F_14 := Fld.other W_12 F_7 (Or.inr (slot_ne (a0 := a0) (Or.inl (wd hw 31 rfl)) (Or.inl (wd hw 25 rfl)) (by decide) (t := .int) (t' := .int) (by decide) (by decide)))
  have F_15 := Fld.same W_12 F_8
  have E_16 := Exa.wr W_12 E_9
  have A_17 := Av.other A_10 W_12 (Ne.symm (own_ne_arr E_9 (wd hw 3 rfl) A_10))
  refine go_return C rfl d4_100 (by decide) (by decide) ?_
  exact ⟨rfl, _, gr, E_16, F_13, F_14, F_15, A_17⟩
set_option maxRecDepth 65536 in
set_option maxHeartbeats 40000000 in
theorem sat_add_3_2_1 (l : Launch) (Z : State) (a0 : Array Value) (hw : ∀ d ∈ tables_1, d.before a0 Z = true) (a r : Addr) (v0 v1 v2 : Int64) (t lim : Int64) (h0 : Heap) (n0 : Nat) (E1 : Exa Z h0 a "com/example/throttld/throttld/SlidingLog$Log") (F1 : Fld Z h0 a "com/example/throttld/throttld/SlidingLog$Log" "ring" "[J" (.ref r)) (F2 : Fld Z h0 a "com/example/throttld/throttld/SlidingLog$Log" "head" "I" (.int (2 : Int32))) (F3 : Fld Z h0 a "com/example/throttld/throttld/SlidingLog$Log" "count" "I" (.int (1 : Int32))) (A1 : Av Z h0 r .long [.long v0, .long v1, .long v2]) (ga : n0 ≤ a) (gr : n0 ≤ r) :
    Sat l Z (⟨"com/example/throttld/throttld/SlidingLog$Log", "add", "(JJ)V"⟩ : MethodName) prog_32_method_6_code 7 none ({ frames := 1, cells := 0, slots := 0, locals := 17 } : Room) [.ref a, .long t, .long lim] h0 n0 (RN fun h => ∃ r' : Addr, n0 ≤ r' ∧ Exa Z h a "com/example/throttld/throttld/SlidingLog$Log" ∧ Fld Z h a "com/example/throttld/throttld/SlidingLog$Log" "ring" "[J" (.ref r') ∧ Fld Z h a "com/example/throttld/throttld/SlidingLog$Log" "head" "I" (.int (2 : Int32)) ∧ Fld Z h a "com/example/throttld/throttld/SlidingLog$Log" "count" "I" (.int (2 : Int32)) ∧ Av Z h r' .long [.long t, .long v1, .long v2]) := by
  refine sat_of (own := "com/example/throttld/throttld/SlidingLog$Log") (nm := "add") rfl rfl (plainFor_of_name pn_1) #[.val (.ref a), .val (.long t), .second, .val (.long lim), .second, .unset, .unset] (fun m => by first | (simp [entryFrame, mkF, argsToLocals, Value.category, maxLocals]; done) | rfl) ?_
  intro p e s m below meth c C
  refine go_aloadN C d4_0 (pc' := 1) rfl rfl rfl ?_
  refine go_getfield C (wd hw 24 rfl) F3 d4_1 (pc' := 4) rfl ?_
  refine go_aloadN C d4_4 (pc' := 5) rfl rfl rfl ?_
  refine go_getfield C (wd hw 17 rfl) F1 d4_5 (pc' := 8) rfl ?_
  refine go_arraylength C A1 (3 : Int32) rfl d4_8 (pc' := 9) rfl ?_
  refine go_icmp C (1 : Int) (3 : Int) (by decide) (by decide) d4_9 (by decide) (pc' := 76) (by decide) (pcN := 12) rfl (fun (c_1 : ¬ (1 : Int) = (3 : Int)) => ?_) (fun (c_1 : (1 : Int) = (3 : Int)) => by omega)
  refine go_aloadN C d4_76 (pc' := 77) rfl rfl rfl ?_
  refine go_getfield C (wd hw 17 rfl) F1 d4_77 (pc' := 80) rfl ?_
  refine go_aloadN C d4_80 (pc' := 81) rfl rfl rfl ?_
  refine go_aloadN C d4_81 (pc' := 82) rfl rfl rfl ?_
  refine go_getfield C (wd hw 24 rfl) F3 d4_82 (pc' := 85) rfl ?_
  refine go_privateP C (as := [.int (1 : Int32)]) (rest := [.ref r]) (W := 1) (.int (0 : Int32)) (sat_slot l Z a0 hw a r (3 : Int32) (2 : Int32) (1 : Int32) (0 : Int32) _ _ _ F1 F2 A1 rfl (by decide)) E1 (wd hw 26 rfl) (wd hw 28 rfl) (own_selects_private (wd hw 3 rfl) (wd hw 28 rfl) (wd hw 27 rfl) (by decide)) (wd hw 27 rfl) (wd hw 4 rfl) (wd hw 29 rfl) (by decide) pd_4 rfl rfl rfl (by decide) (by decide) rfl rfl (by decide) (by decide) d4_85 (pc' := 88) rfl rfl ?_
  refine go_lloadN C d4_88 (pc' := 89) rfl rfl ?_
  refine go_lastore C A1 0 (by decide) (show 0 < 3 from by decide) gr d4_89 (pc' := 90) rfl ?_
  intro h_2 W_3 A_4
  have F_6 := Fld.other W_3 F1 (Or.inl (own_ne_arr E1 (wd hw 3 rfl) A1))
  have F_7 := Fld.other W_3 F2 (Or.inl (own_ne_arr E1 (wd hw 3 rfl) A1))
  have F_8 := Fld.other W_3 F3 (Or.inl (own_ne_arr E1 (wd hw 3 rfl) A1))
  have E_9 := Exa.wr W_3 E1
  have A_10 : Av Z h_2 r .long [.long t, .long v1, .long v2] := A_4
  refine go_aloadN C d4_90 (pc' := 91) rfl rfl rfl ?_
  refine go_dup C d4_91 (pc' := 92) rfl rfl ?_
  refine go_getfield C (wd hw 24 rfl) F_8 d4_92 (pc' := 95) rfl ?_
  refine go_iconst C (1 : Int32) d4_95 (pc' := 96) rfl (by decide) ?_
  refine go_iadd C d4_96 (pc' := 97) rfl ?_
  rw [(by decide : (1 : Int32) + (1 : Int32) = (2 : Int32))]
  refine go_putfield C (wd hw 24 rfl) F_8 E_9 (Or.inl (wd hw 25 rfl)) (wd hw 3 rfl) (ty := .int) (by decide) rfl rfl ga d4_97 (pc' := 100) rfl ?_
  intro h_11 W_12
  have F_13 := Fld.other W_12 F_6 (Or.inr (slot_ne (a0 := a0) (Or.inl (wd hw 18 rfl)) (Or.inl (wd hw 25 rfl)) (by decide) (t := (.array .long)) (t' := .int) (by decide) (by decide)))
  have F_14 := Fld.other W_12 F_7 (Or.inr (slot_ne (a0 := a0) (Or.inl (wd hw 31 rfl)) (Or.inl (wd hw 25 rfl)) (by decide) (t := .int) (t' := .int) (by decide) (by decide)))
  have F_15 := Fld.same W_12 F_8
  have E_16 := Exa.wr W_12 E_9
  have A_17 := Av.other A_10 W_12 (Ne.symm (own_ne_arr E_9 (wd hw 3 rfl) A_10))
  refine go_return C rfl d4_100 (by decide) (by decide) ?_
  exact ⟨rfl, _, gr, E_16, F_13, F_14, F_15, A_17⟩
set_option maxRecDepth 65536 in
set_option maxHeartbeats 40000000 in
theorem sat_add_4_0_0 (l : Launch) (Z : State) (a0 : Array Value) (hw : ∀ d ∈ tables_1, d.before a0 Z = true) (a r : Addr) (v0 v1 v2 v3 : Int64) (t lim : Int64) (h0 : Heap) (n0 : Nat) (E1 : Exa Z h0 a "com/example/throttld/throttld/SlidingLog$Log") (F1 : Fld Z h0 a "com/example/throttld/throttld/SlidingLog$Log" "ring" "[J" (.ref r)) (F2 : Fld Z h0 a "com/example/throttld/throttld/SlidingLog$Log" "head" "I" (.int (0 : Int32))) (F3 : Fld Z h0 a "com/example/throttld/throttld/SlidingLog$Log" "count" "I" (.int (0 : Int32))) (A1 : Av Z h0 r .long [.long v0, .long v1, .long v2, .long v3]) (ga : n0 ≤ a) (gr : n0 ≤ r) :
    Sat l Z (⟨"com/example/throttld/throttld/SlidingLog$Log", "add", "(JJ)V"⟩ : MethodName) prog_32_method_6_code 7 none ({ frames := 1, cells := 0, slots := 0, locals := 17 } : Room) [.ref a, .long t, .long lim] h0 n0 (RN fun h => ∃ r' : Addr, n0 ≤ r' ∧ Exa Z h a "com/example/throttld/throttld/SlidingLog$Log" ∧ Fld Z h a "com/example/throttld/throttld/SlidingLog$Log" "ring" "[J" (.ref r') ∧ Fld Z h a "com/example/throttld/throttld/SlidingLog$Log" "head" "I" (.int (0 : Int32)) ∧ Fld Z h a "com/example/throttld/throttld/SlidingLog$Log" "count" "I" (.int (1 : Int32)) ∧ Av Z h r' .long [.long t, .long v1, .long v2, .long v3]) := by
  refine sat_of (own := "com/example/throttld/throttld/SlidingLog$Log") (nm := "add") rfl rfl (plainFor_of_name pn_1) #[.val (.ref a), .val (.long t), .second, .val (.long lim), .second, .unset, .unset] (fun m => by first | (simp [entryFrame, mkF, argsToLocals, Value.category, maxLocals]; done) | rfl) ?_
  intro p e s m below meth c C
  refine go_aloadN C d4_0 (pc' := 1) rfl rfl rfl ?_
  refine go_getfield C (wd hw 24 rfl) F3 d4_1 (pc' := 4) rfl ?_
  refine go_aloadN C d4_4 (pc' := 5) rfl rfl rfl ?_
  refine go_getfield C (wd hw 17 rfl) F1 d4_5 (pc' := 8) rfl ?_
  refine go_arraylength C A1 (4 : Int32) rfl d4_8 (pc' := 9) rfl ?_
  refine go_icmp C (0 : Int) (4 : Int) (by decide) (by decide) d4_9 (by decide) (pc' := 76) (by decide) (pcN := 12) rfl (fun (c_1 : ¬ (0 : Int) = (4 : Int)) => ?_) (fun (c_1 : (0 : Int) = (4 : Int)) => by omega)
  refine go_aloadN C d4_76 (pc' := 77) rfl rfl rfl ?_
  refine go_getfield C (wd hw 17 rfl) F1 d4_77 (pc' := 80) rfl ?_
  refine go_aloadN C d4_80 (pc' := 81) rfl rfl rfl ?_
  refine go_aloadN C d4_81 (pc' := 82) rfl rfl rfl ?_
  refine go_getfield C (wd hw 24 rfl) F3 d4_82 (pc' := 85) rfl ?_
  refine go_privateP C (as := [.int (0 : Int32)]) (rest := [.ref r]) (W := 1) (.int (0 : Int32)) (sat_slot l Z a0 hw a r (4 : Int32) (0 : Int32) (0 : Int32) (0 : Int32) _ _ _ F1 F2 A1 rfl (by decide)) E1 (wd hw 26 rfl) (wd hw 28 rfl) (own_selects_private (wd hw 3 rfl) (wd hw 28 rfl) (wd hw 27 rfl) (by decide)) (wd hw 27 rfl) (wd hw 4 rfl) (wd hw 29 rfl) (by decide) pd_4 rfl rfl rfl (by decide) (by decide) rfl rfl (by decide) (by decide) d4_85 (pc' := 88) rfl rfl ?_
  refine go_lloadN C d4_88 (pc' := 89) rfl rfl ?_
  refine go_lastore C A1 0 (by decide) (show 0 < 4 from by decide) gr d4_89 (pc' := 90) rfl ?_
  intro h_2 W_3 A_4
  have F_6 := Fld.other W_3 F1 (Or.inl (own_ne_arr E1 (wd hw 3 rfl) A1))
  have F_7 := Fld.other W_3 F2 (Or.inl (own_ne_arr E1 (wd hw 3 rfl) A1))
  have F_8 := Fld.other W_3 F3 (Or.inl (own_ne_arr E1 (wd hw 3 rfl) A1))
  have E_9 := Exa.wr W_3 E1
  have A_10 : Av Z h_2 r .long [.long t, .long v1, .long v2, .long v3] := A_4
  refine go_aloadN C d4_90 (pc' := 91) rfl rfl rfl ?_
  refine go_dup C d4_91 (pc' := 92) rfl rfl ?_
  refine go_getfield C (wd hw 24 rfl) F_8 d4_92 (pc' := 95) rfl ?_
  refine go_iconst C (1 : Int32) d4_95 (pc' := 96) rfl (by decide) ?_
  refine go_iadd C d4_96 (pc' := 97) rfl ?_
  rw [(by decide : (0 : Int32) + (1 : Int32) = (1 : Int32))]
  refine go_putfield C (wd hw 24 rfl) F_8 E_9 (Or.inl (wd hw 25 rfl)) (wd hw 3 rfl) (ty := .int) (by decide) rfl rfl ga d4_97 (pc' := 100) rfl ?_
  intro h_11 W_12
  have F_13 := Fld.other W_12 F_6 (Or.inr (slot_ne (a0 := a0) (Or.inl (wd hw 18 rfl)) (Or.inl (wd hw 25 rfl)) (by decide) (t := (.array .long)) (t' := .int) (by decide) (by decide)))
  have F_14 := Fld.other W_12 F_7 (Or.inr (slot_ne (a0 := a0) (Or.inl (wd hw 31 rfl)) (Or.inl (wd hw 25 rfl)) (by decide) (t := .int) (t' := .int) (by decide) (by decide)))
  have F_15 := Fld.same W_12 F_8
  have E_16 := Exa.wr W_12 E_9
  have A_17 := Av.other A_10 W_12 (Ne.symm (own_ne_arr E_9 (wd hw 3 rfl) A_10))
  refine go_return C rfl d4_100 (by decide) (by decide) ?_
  exact ⟨rfl, _, gr, E_16, F_13, F_14, F_15, A_17⟩
set_option maxRecDepth 65536 in
set_option maxHeartbeats 40000000 in
theorem sat_add_4_0_1 (l : Launch) (Z : State) (a0 : Array Value) (hw : ∀ d ∈ tables_1, d.before a0 Z = true) (a r : Addr) (v0 v1 v2 v3 : Int64) (t lim : Int64) (h0 : Heap) (n0 : Nat) (E1 : Exa Z h0 a "com/example/throttld/throttld/SlidingLog$Log") (F1 : Fld Z h0 a "com/example/throttld/throttld/SlidingLog$Log" "ring" "[J" (.ref r)) (F2 : Fld Z h0 a "com/example/throttld/throttld/SlidingLog$Log" "head" "I" (.int (0 : Int32))) (F3 : Fld Z h0 a "com/example/throttld/throttld/SlidingLog$Log" "count" "I" (.int (1 : Int32))) (A1 : Av Z h0 r .long [.long v0, .long v1, .long v2, .long v3]) (ga : n0 ≤ a) (gr : n0 ≤ r) :
    Sat l Z (⟨"com/example/throttld/throttld/SlidingLog$Log", "add", "(JJ)V"⟩ : MethodName) prog_32_method_6_code 7 none ({ frames := 1, cells := 0, slots := 0, locals := 17 } : Room) [.ref a, .long t, .long lim] h0 n0 (RN fun h => ∃ r' : Addr, n0 ≤ r' ∧ Exa Z h a "com/example/throttld/throttld/SlidingLog$Log" ∧ Fld Z h a "com/example/throttld/throttld/SlidingLog$Log" "ring" "[J" (.ref r') ∧ Fld Z h a "com/example/throttld/throttld/SlidingLog$Log" "head" "I" (.int (0 : Int32)) ∧ Fld Z h a "com/example/throttld/throttld/SlidingLog$Log" "count" "I" (.int (2 : Int32)) ∧ Av Z h r' .long [.long v0, .long t, .long v2, .long v3]) := by
  refine sat_of (own := "com/example/throttld/throttld/SlidingLog$Log") (nm := "add") rfl rfl (plainFor_of_name pn_1) #[.val (.ref a), .val (.long t), .second, .val (.long lim), .second, .unset, .unset] (fun m => by first | (simp [entryFrame, mkF, argsToLocals, Value.category, maxLocals]; done) | rfl) ?_
  intro p e s m below meth c C
  refine go_aloadN C d4_0 (pc' := 1) rfl rfl rfl ?_
  refine go_getfield C (wd hw 24 rfl) F3 d4_1 (pc' := 4) rfl ?_
  refine go_aloadN C d4_4 (pc' := 5) rfl rfl rfl ?_
  refine go_getfield C (wd hw 17 rfl) F1 d4_5 (pc' := 8) rfl ?_
  refine go_arraylength C A1 (4 : Int32) rfl d4_8 (pc' := 9) rfl ?_
  refine go_icmp C (1 : Int) (4 : Int) (by decide) (by decide) d4_9 (by decide) (pc' := 76) (by decide) (pcN := 12) rfl (fun (c_1 : ¬ (1 : Int) = (4 : Int)) => ?_) (fun (c_1 : (1 : Int) = (4 : Int)) => by omega)
  refine go_aloadN C d4_76 (pc' := 77) rfl rfl rfl ?_
  refine go_getfield C (wd hw 17 rfl) F1 d4_77 (pc' := 80) rfl ?_
  refine go_aloadN C d4_80 (pc' := 81) rfl rfl rfl ?_
  refine go_aloadN C d4_81 (pc' := 82) rfl rfl rfl ?_
  refine go_getfield C (wd hw 24 rfl) F3 d4_82 (pc' := 85) rfl ?_
  refine go_privateP C (as := [.int (1 : Int32)]) (rest := [.ref r]) (W := 1) (.int (1 : Int32)) (sat_slot l Z a0 hw a r (4 : Int32) (0 : Int32) (1 : Int32) (1 : Int32) _ _ _ F1 F2 A1 rfl (by decide)) E1 (wd hw 26 rfl) (wd hw 28 rfl) (own_selects_private (wd hw 3 rfl) (wd hw 28 rfl) (wd hw 27 rfl) (by decide)) (wd hw 27 rfl) (wd hw 4 rfl) (wd hw 29 rfl) (by decide) pd_4 rfl rfl rfl (by decide) (by decide) rfl rfl (by decide) (by decide) d4_85 (pc' := 88) rfl rfl ?_
  refine go_lloadN C d4_88 (pc' := 89) rfl rfl ?_
  refine go_lastore C A1 1 (by decide) (show 1 < 4 from by decide) gr d4_89 (pc' := 90) rfl ?_
  intro h_2 W_3 A_4
  have F_6 := Fld.other W_3 F1 (Or.inl (own_ne_arr E1 (wd hw 3 rfl) A1))
  have F_7 := Fld.other W_3 F2 (Or.inl (own_ne_arr E1 (wd hw 3 rfl) A1))
  have F_8 := Fld.other W_3 F3 (Or.inl (own_ne_arr E1 (wd hw 3 rfl) A1))
  have E_9 := Exa.wr W_3 E1
  have A_10 : Av Z h_2 r .long [.long v0, .long t, .long v2, .long v3] := A_4
  refine go_aloadN C d4_90 (pc' := 91) rfl rfl rfl ?_
  refine go_dup C d4_91 (pc' := 92) rfl rfl ?_
  refine go_getfield C (wd hw 24 rfl) F_8 d4_92 (pc' := 95) rfl ?_
  refine go_iconst C (1 : Int32) d4_95 (pc' := 96) rfl (by decide) ?_
  refine go_iadd C d4_96 (pc' := 97) rfl ?_
  rw [(by decide : (1 : Int32) + (1 : Int32) = (2 : Int32))]
  refine go_putfield C (wd hw 24 rfl) F_8 E_9 (Or.inl (wd hw 25 rfl)) (wd hw 3 rfl) (ty := .int) (by decide) rfl rfl ga d4_97 (pc' := 100) rfl ?_
  intro h_11 W_12
  have F_13 := Fld.other W_12 F_6 (Or.inr (slot_ne (a0 := a0) (Or.inl (wd hw 18 rfl)) (Or.inl (wd hw 25 rfl)) (by decide) (t := (.array .long)) (t' := .int) (by decide) (by decide)))
  have F_14 := Fld.other W_12 F_7 (Or.inr (slot_ne (a0 := a0) (Or.inl (wd hw 31 rfl)) (Or.inl (wd hw 25 rfl)) (by decide) (t := .int) (t' := .int) (by decide) (by decide)))
  have F_15 := Fld.same W_12 F_8
  have E_16 := Exa.wr W_12 E_9
  have A_17 := Av.other A_10 W_12 (Ne.symm (own_ne_arr E_9 (wd hw 3 rfl) A_10))
  refine go_return C rfl d4_100 (by decide) (by decide) ?_
  exact ⟨rfl, _, gr, E_16, F_13, F_14, F_15, A_17⟩
set_option maxRecDepth 65536 in
set_option maxHeartbeats 40000000 in
theorem sat_add_4_0_2 (l : Launch) (Z : State) (a0 : Array Value) (hw : ∀ d ∈ tables_1, d.before a0 Z = true) (a r : Addr) (v0 v1 v2 v3 : Int64) (t lim : Int64) (h0 : Heap) (n0 : Nat) (E1 : Exa Z h0 a "com/example/throttld/throttld/SlidingLog$Log") (F1 : Fld Z h0 a "com/example/throttld/throttld/SlidingLog$Log" "ring" "[J" (.ref r)) (F2 : Fld Z h0 a "com/example/throttld/throttld/SlidingLog$Log" "head" "I" (.int (0 : Int32))) (F3 : Fld Z h0 a "com/example/throttld/throttld/SlidingLog$Log" "count" "I" (.int (2 : Int32))) (A1 : Av Z h0 r .long [.long v0, .long v1, .long v2, .long v3]) (ga : n0 ≤ a) (gr : n0 ≤ r) :
    Sat l Z (⟨"com/example/throttld/throttld/SlidingLog$Log", "add", "(JJ)V"⟩ : MethodName) prog_32_method_6_code 7 none ({ frames := 1, cells := 0, slots := 0, locals := 17 } : Room) [.ref a, .long t, .long lim] h0 n0 (RN fun h => ∃ r' : Addr, n0 ≤ r' ∧ Exa Z h a "com/example/throttld/throttld/SlidingLog$Log" ∧ Fld Z h a "com/example/throttld/throttld/SlidingLog$Log" "ring" "[J" (.ref r') ∧ Fld Z h a "com/example/throttld/throttld/SlidingLog$Log" "head" "I" (.int (0 : Int32)) ∧ Fld Z h a "com/example/throttld/throttld/SlidingLog$Log" "count" "I" (.int (3 : Int32)) ∧ Av Z h r' .long [.long v0, .long v1, .long t, .long v3]) := by
  refine sat_of (own := "com/example/throttld/throttld/SlidingLog$Log") (nm := "add") rfl rfl (plainFor_of_name pn_1) #[.val (.ref a), .val (.long t), .second, .val (.long lim), .second, .unset, .unset] (fun m => by first | (simp [entryFrame, mkF, argsToLocals, Value.category, maxLocals]; done) | rfl) ?_
  intro p e s m below meth c C
  refine go_aloadN C d4_0 (pc' := 1) rfl rfl rfl ?_
  refine go_getfield C (wd hw 24 rfl) F3 d4_1 (pc' := 4) rfl ?_
  refine go_aloadN C d4_4 (pc' := 5) rfl rfl rfl ?_
  refine go_getfield C (wd hw 17 rfl) F1 d4_5 (pc' := 8) rfl ?_
  refine go_arraylength C A1 (4 : Int32) rfl d4_8 (pc' := 9) rfl ?_
  refine go_icmp C (2 : Int) (4 : Int) (by decide) (by decide) d4_9 (by decide) (pc' := 76) (by decide) (pcN := 12) rfl (fun (c_1 : ¬ (2 : Int) = (4 : Int)) => ?_) (fun (c_1 : (2 : Int) = (4 : Int)) => by omega)
  refine go_aloadN C d4_76 (pc' := 77) rfl rfl rfl ?_
  refine go_getfield C (wd hw 17 rfl) F1 d4_77 (pc' := 80) rfl ?_
  refine go_aloadN C d4_80 (pc' := 81) rfl rfl rfl ?_
  refine go_aloadN C d4_81 (pc' := 82) rfl rfl rfl ?_
  refine go_getfield C (wd hw 24 rfl) F3 d4_82 (pc' := 85) rfl ?_
  refine go_privateP C (as := [.int (2 : Int32)]) (rest := [.ref r]) (W := 1) (.int (2 : Int32)) (sat_slot l Z a0 hw a r (4 : Int32) (0 : Int32) (2 : Int32) (2 : Int32) _ _ _ F1 F2 A1 rfl (by decide)) E1 (wd hw 26 rfl) (wd hw 28 rfl) (own_selects_private (wd hw 3 rfl) (wd hw 28 rfl) (wd hw 27 rfl) (by decide)) (wd hw 27 rfl) (wd hw 4 rfl) (wd hw 29 rfl) (by decide) pd_4 rfl rfl rfl (by decide) (by decide) rfl rfl (by decide) (by decide) d4_85 (pc' := 88) rfl rfl ?_
  refine go_lloadN C d4_88 (pc' := 89) rfl rfl ?_
  refine go_lastore C A1 2 (by decide) (show 2 < 4 from by decide) gr d4_89 (pc' := 90) rfl ?_
  intro h_2 W_3 A_4
  have F_6 := Fld.other W_3 F1 (Or.inl (own_ne_arr E1 (wd hw 3 rfl) A1))
  have F_7 := Fld.other W_3 F2 (Or.inl (own_ne_arr E1 (wd hw 3 rfl) A1))
  have F_8 := Fld.other W_3 F3 (Or.inl (own_ne_arr E1 (wd hw 3 rfl) A1))
  have E_9 := Exa.wr W_3 E1
  have A_10 : Av Z h_2 r .long [.long v0, .long v1, .long t, .long v3] := A_4
  refine go_aloadN C d4_90 (pc' := 91) rfl rfl rfl ?_
  refine go_dup C d4_91 (pc' := 92) rfl rfl ?_
  refine go_getfield C (wd hw 24 rfl) F_8 d4_92 (pc' := 95) rfl ?_
  refine go_iconst C (1 : Int32) d4_95 (pc' := 96) rfl (by decide) ?_
  refine go_iadd C d4_96 (pc' := 97) rfl ?_
  rw [(by decide : (2 : Int32) + (1 : Int32) = (3 : Int32))]
  refine go_putfield C (wd hw 24 rfl) F_8 E_9 (Or.inl (wd hw 25 rfl)) (wd hw 3 rfl) (ty := .int) (by decide) rfl rfl ga d4_97 (pc' := 100) rfl ?_
  intro h_11 W_12
  have F_13 := Fld.other W_12 F_6 (Or.inr (slot_ne (a0 := a0) (Or.inl (wd hw 18 rfl)) (Or.inl (wd hw 25 rfl)) (by decide) (t := (.array .long)) (t' := .int) (by decide) (by decide)))
  have F_14 := Fld.other W_12 F_7 (Or.inr (slot_ne (a0 := a0) (Or.inl (wd hw 31 rfl)) (Or.inl (wd hw 25 rfl)) (by decide) (t := .int) (t' := .int) (by decide) (by decide)))
  have F_15 := Fld.same W_12 F_8
  have E_16 := Exa.wr W_12 E_9
  have A_17 := Av.other A_10 W_12 (Ne.symm (own_ne_arr E_9 (wd hw 3 rfl) A_10))
  refine go_return C rfl d4_100 (by decide) (by decide) ?_
  exact ⟨rfl, _, gr, E_16, F_13, F_14, F_15, A_17⟩
set_option maxRecDepth 65536 in
set_option maxHeartbeats 40000000 in
theorem sat_add_4_0_3 (l : Launch) (Z : State) (a0 : Array Value) (hw : ∀ d ∈ tables_1, d.before a0 Z = true) (a r : Addr) (v0 v1 v2 v3 : Int64) (t lim : Int64) (h0 : Heap) (n0 : Nat) (E1 : Exa Z h0 a "com/example/throttld/throttld/SlidingLog$Log") (F1 : Fld Z h0 a "com/example/throttld/throttld/SlidingLog$Log" "ring" "[J" (.ref r)) (F2 : Fld Z h0 a "com/example/throttld/throttld/SlidingLog$Log" "head" "I" (.int (0 : Int32))) (F3 : Fld Z h0 a "com/example/throttld/throttld/SlidingLog$Log" "count" "I" (.int (3 : Int32))) (A1 : Av Z h0 r .long [.long v0, .long v1, .long v2, .long v3]) (ga : n0 ≤ a) (gr : n0 ≤ r) :
    Sat l Z (⟨"com/example/throttld/throttld/SlidingLog$Log", "add", "(JJ)V"⟩ : MethodName) prog_32_method_6_code 7 none ({ frames := 1, cells := 0, slots := 0, locals := 17 } : Room) [.ref a, .long t, .long lim] h0 n0 (RN fun h => ∃ r' : Addr, n0 ≤ r' ∧ Exa Z h a "com/example/throttld/throttld/SlidingLog$Log" ∧ Fld Z h a "com/example/throttld/throttld/SlidingLog$Log" "ring" "[J" (.ref r') ∧ Fld Z h a "com/example/throttld/throttld/SlidingLog$Log" "head" "I" (.int (0 : Int32)) ∧ Fld Z h a "com/example/throttld/throttld/SlidingLog$Log" "count" "I" (.int (4 : Int32)) ∧ Av Z h r' .long [.long v0, .long v1, .long v2, .long t]) := by
  refine sat_of (own := "com/example/throttld/throttld/SlidingLog$Log") (nm := "add") rfl rfl (plainFor_of_name pn_1) #[.val (.ref a), .val (.long t), .second, .val (.long lim), .second, .unset, .unset] (fun m => by first | (simp [entryFrame, mkF, argsToLocals, Value.category, maxLocals]; done) | rfl) ?_
  intro p e s m below meth c C
  refine go_aloadN C d4_0 (pc' := 1) rfl rfl rfl ?_
  refine go_getfield C (wd hw 24 rfl) F3 d4_1 (pc' := 4) rfl ?_
  refine go_aloadN C d4_4 (pc' := 5) rfl rfl rfl ?_
  refine go_getfield C (wd hw 17 rfl) F1 d4_5 (pc' := 8) rfl ?_
  refine go_arraylength C A1 (4 : Int32) rfl d4_8 (pc' := 9) rfl ?_
  refine go_icmp C (3 : Int) (4 : Int) (by decide) (by decide) d4_9 (by decide) (pc' := 76) (by decide) (pcN := 12) rfl (fun (c_1 : ¬ (3 : Int) = (4 : Int)) => ?_) (fun (c_1 : (3 : Int) = (4 : Int)) => by omega)
  refine go_aloadN C d4_76 (pc' := 77) rfl rfl rfl ?_
  refine go_getfield C (wd hw 17 rfl) F1 d4_77 (pc' := 80) rfl ?_
  refine go_aloadN C d4_80 (pc' := 81) rfl rfl rfl ?_
  refine go_aloadN C d4_81 (pc' := 82) rfl rfl rfl ?_
  refine go_getfield C (wd hw 24 rfl) F3 d4_82 (pc' := 85) rfl ?_
  refine go_privateP C (as := [.int (3 : Int32)]) (rest := [.ref r]) (W := 1) (.int (3 : Int32)) (sat_slot l Z a0 hw a r (4 : Int32) (0 : Int32) (3 : Int32) (3 : Int32) _ _ _ F1 F2 A1 rfl (by decide)) E1 (wd hw 26 rfl) (wd hw 28 rfl) (own_selects_private (wd hw 3 rfl) (wd hw 28 rfl) (wd hw 27 rfl) (by decide)) (wd hw 27 rfl) (wd hw 4 rfl) (wd hw 29 rfl) (by decide) pd_4 rfl rfl rfl (by decide) (by decide) rfl rfl (by decide) (by decide) d4_85 (pc' := 88) rfl rfl ?_
  refine go_lloadN C d4_88 (pc' := 89) rfl rfl ?_
  refine go_lastore C A1 3 (by decide) (show 3 < 4 from by decide) gr d4_89 (pc' := 90) rfl ?_
  intro h_2 W_3 A_4
  have F_6 := Fld.other W_3 F1 (Or.inl (own_ne_arr E1 (wd hw 3 rfl) A1))
  have F_7 := Fld.other W_3 F2 (Or.inl (own_ne_arr E1 (wd hw 3 rfl) A1))
  have F_8 := Fld.other W_3 F3 (Or.inl (own_ne_arr E1 (wd hw 3 rfl) A1))
  have E_9 := Exa.wr W_3 E1
  have A_10 : Av Z h_2 r .long [.long v0, .long v1, .long v2, .long t] := A_4
  refine go_aloadN C d4_90 (pc' := 91) rfl rfl rfl ?_
  refine go_dup C d4_91 (pc' := 92) rfl rfl ?_
  refine go_getfield C (wd hw 24 rfl) F_8 d4_92 (pc' := 95) rfl ?_
  refine go_iconst C (1 : Int32) d4_95 (pc' := 96) rfl (by decide) ?_
  refine go_iadd C d4_96 (pc' := 97) rfl ?_
  rw [(by decide : (3 : Int32) + (1 : Int32) = (4 : Int32))]
  refine go_putfield C (wd hw 24 rfl) F_8 E_9 (Or.inl (wd hw 25 rfl)) (wd hw 3 rfl) (ty := .int) (by decide) rfl rfl ga d4_97 (pc' := 100) rfl ?_
  intro h_11 W_12
  have F_13 := Fld.other W_12 F_6 (Or.inr (slot_ne (a0 := a0) (Or.inl (wd hw 18 rfl)) (Or.inl (wd hw 25 rfl)) (by decide) (t := (.array .long)) (t' := .int) (by decide) (by decide)))
  have F_14 := Fld.other W_12 F_7 (Or.inr (slot_ne (a0 := a0) (Or.inl (wd hw 31 rfl)) (Or.inl (wd hw 25 rfl)) (by decide) (t := .int) (t' := .int) (by decide) (by decide)))
  have F_15 := Fld.same W_12 F_8
  have E_16 := Exa.wr W_12 E_9
  have A_17 := Av.other A_10 W_12 (Ne.symm (own_ne_arr E_9 (wd hw 3 rfl) A_10))
  refine go_return C rfl d4_100 (by decide) (by decide) ?_
  exact ⟨rfl, _, gr, E_16, F_13, F_14, F_15, A_17⟩
set_option maxRecDepth 65536 in
set_option maxHeartbeats 40000000 in
theorem sat_add_4_1_0 (l : Launch) (Z : State) (a0 : Array Value) (hw : ∀ d ∈ tables_1, d.before a0 Z = true) (a r : Addr) (v0 v1 v2 v3 : Int64) (t lim : Int64) (h0 : Heap) (n0 : Nat) (E1 : Exa Z h0 a "com/example/throttld/throttld/SlidingLog$Log") (F1 : Fld Z h0 a "com/example/throttld/throttld/SlidingLog$Log" "ring" "[J" (.ref r)) (F2 : Fld Z h0 a "com/example/throttld/throttld/SlidingLog$Log" "head" "I" (.int (1 : Int32))) (F3 : Fld Z h0 a "com/example/throttld/throttld/SlidingLog$Log" "count" "I" (.int (0 : Int32))) (A1 : Av Z h0 r .long [.long v0, .long v1, .long v2, .long v3]) (ga : n0 ≤ a) (gr : n0 ≤ r) :
    Sat l Z (⟨"com/example/throttld/throttld/SlidingLog$Log", "add", "(JJ)V"⟩ : MethodName) prog_32_method_6_code 7 none ({ frames := 1, cells := 0, slots := 0, locals := 17 } : Room) [.ref a, .long t, .long lim] h0 n0 (RN fun h => ∃ r' : Addr, n0 ≤ r' ∧ Exa Z h a "com/example/throttld/throttld/SlidingLog$Log" ∧ Fld Z h a "com/example/throttld/throttld/SlidingLog$Log" "ring" "[J" (.ref r') ∧ Fld Z h a "com/example/throttld/throttld/SlidingLog$Log" "head" "I" (.int (1 : Int32)) ∧ Fld Z h a "com/example/throttld/throttld/SlidingLog$Log" "count" "I" (.int (1 : Int32)) ∧ Av Z h r' .long [.long v0, .long t, .long v2, .long v3]) := by
  refine sat_of (own := "com/example/throttld/throttld/SlidingLog$Log") (nm := "add") rfl rfl (plainFor_of_name pn_1) #[.val (.ref a), .val (.long t), .second, .val (.long lim), .second, .unset, .unset] (fun m => by first | (simp [entryFrame, mkF, argsToLocals, Value.category, maxLocals]; done) | rfl) ?_
  intro p e s m below meth c C
  refine go_aloadN C d4_0 (pc' := 1) rfl rfl rfl ?_
  refine go_getfield C (wd hw 24 rfl) F3 d4_1 (pc' := 4) rfl ?_
  refine go_aloadN C d4_4 (pc' := 5) rfl rfl rfl ?_
  refine go_getfield C (wd hw 17 rfl) F1 d4_5 (pc' := 8) rfl ?_
  refine go_arraylength C A1 (4 : Int32) rfl d4_8 (pc' := 9) rfl ?_
  refine go_icmp C (0 : Int) (4 : Int) (by decide) (by decide) d4_9 (by decide) (pc' := 76) (by decide) (pcN := 12) rfl (fun (c_1 : ¬ (0 : Int) = (4 : Int)) => ?_) (fun (c_1 : (0 : Int) = (4 : Int)) => by omega)
  refine go_aloadN C d4_76 (pc' := 77) rfl rfl rfl ?_
  refine go_getfield C (wd hw 17 rfl) F1 d4_77 (pc' := 80) rfl ?_
  refine go_aloadN C d4_80 (pc' := 81) rfl rfl rfl ?_
  refine go_aloadN C d4_81 (pc' := 82) rfl rfl rfl ?_
  refine go_getfield C (wd hw 24 rfl) F3 d4_82 (pc' := 85) rfl ?_
  refine go_privateP C (as := [.int (0 : Int32)]) (rest := [.ref r]) (W := 1) (.int (1 : Int32)) (sat_slot l Z a0 hw a r (4 : Int32) (1 : Int32) (0 : Int32) (1 : Int32) _ _ _ F1 F2 A1 rfl (by decide)) E1 (wd hw 26 rfl) (wd hw 28 rfl) (own_selects_private (wd hw 3 rfl) (wd hw 28 rfl) (wd hw 27 rfl) (by decide)) (wd hw 27 rfl) (wd hw 4 rfl) (wd hw 29 rfl) (by decide) pd_4 rfl rfl rfl (by decide) (by decide) rfl rfl (by decide) (by decide) d4_85 (pc' := 88) rfl rfl ?_
  refine go_lloadN C d4_88 (pc' := 89) rfl rfl ?_
  refine go_lastore C A1 1 (by decide) (show 1 < 4 from by decide) gr d4_89 (pc' := 90) rfl ?_
  intro h_2 W_3 A_4
  have F_6 := Fld.other W_3 F1 (Or.inl (own_ne_arr E1 (wd hw 3 rfl) A1))
  have F_7 := Fld.other W_3 F2 (Or.inl (own_ne_arr E1 (wd hw 3 rfl) A1))
  have F_8 := Fld.other W_3 F3 (Or.inl (own_ne_arr E1 (wd hw 3 rfl) A1))
  have E_9 := Exa.wr W_3 E1
  have A_10 : Av Z h_2 r .long [.long v0, .long t, .long v2, .long v3] := A_4
  refine go_aloadN C d4_90 (pc' := 91) rfl rfl rfl ?_
  refine go_dup C d4_91 (pc' := 92) rfl rfl ?_
  refine go_getfield C (wd hw 24 rfl) F_8 d4_92 (pc' := 95) rfl ?_
  refine go_iconst C (1 : Int32) d4_95 (pc' := 96) rfl (by decide) ?_
  refine go_iadd C d4_96 (pc' := 97) rfl ?_
  rw [(by decide : (0 : Int32) + (1 : Int32) = (1 : Int32))]
  refine go_putfield C (wd hw 24 rfl) F_8 E_9 (Or.inl (wd hw 25 rfl)) (wd hw 3 rfl) (ty := .int) (by decide) rfl rfl ga d4_97 (pc' := 100) rfl ?_
  intro h_11 W_12
  have F_13 := Fld.other W_12 F_6 (Or.inr (slot_ne (a0 := a0) (Or.inl (wd hw 18 rfl)) (Or.inl (wd hw 25 rfl)) (by decide) (t := (.array .long)) (t' := .int) (by decide) (by decide)))
  have F_14 := Fld.other W_12 F_7 (Or.inr (slot_ne (a0 := a0) (Or.inl (wd hw 31 rfl)) (Or.inl (wd hw 25 rfl)) (by decide) (t := .int) (t' := .int) (by decide) (by decide)))
  have F_15 := Fld.same W_12 F_8
  have E_16 := Exa.wr W_12 E_9
  have A_17 := Av.other A_10 W_12 (Ne.symm (own_ne_arr E_9 (wd hw 3 rfl) A_10))
  refine go_return C rfl d4_100 (by decide) (by decide) ?_
  exact ⟨rfl, _, gr, E_16, F_13, F_14, F_15, A_17⟩
set_option maxRecDepth 65536 in
set_option maxHeartbeats 40000000 in
theorem sat_add_4_1_1 (l : Launch) (Z : State) (a0 : Array Value) (hw : ∀ d ∈ tables_1, d.before a0 Z = true) (a r : Addr) (v0 v1 v2 v3 : Int64) (t lim : Int64) (h0 : Heap) (n0 : Nat) (E1 : Exa Z h0 a "com/example/throttld/throttld/SlidingLog$Log") (F1 : Fld Z h0 a "com/example/throttld/throttld/SlidingLog$Log" "ring" "[J" (.ref r)) (F2 : Fld Z h0 a "com/example/throttld/throttld/SlidingLog$Log" "head" "I" (.int (1 : Int32))) (F3 : Fld Z h0 a "com/example/throttld/throttld/SlidingLog$Log" "count" "I" (.int (1 : Int32))) (A1 : Av Z h0 r .long [.long v0, .long v1, .long v2, .long v3]) (ga : n0 ≤ a) (gr : n0 ≤ r) :
    Sat l Z (⟨"com/example/throttld/throttld/SlidingLog$Log", "add", "(JJ)V"⟩ : MethodName) prog_32_method_6_code 7 none ({ frames := 1, cells := 0, slots := 0, locals := 17 } : Room) [.ref a, .long t, .long lim] h0 n0 (RN fun h => ∃ r' : Addr, n0 ≤ r' ∧ Exa Z h a "com/example/throttld/throttld/SlidingLog$Log" ∧ Fld Z h a "com/example/throttld/throttld/SlidingLog$Log" "ring" "[J" (.ref r') ∧ Fld Z h a "com/example/throttld/throttld/SlidingLog$Log" "head" "I" (.int (1 : Int32)) ∧ Fld Z h a "com/example/throttld/throttld/SlidingLog$Log" "count" "I" (.int (2 : Int32)) ∧ Av Z h r' .long [.long v0, .long v1, .long t, .long v3]) := by
  refine sat_of (own := "com/example/throttld/throttld/SlidingLog$Log") (nm := "add") rfl rfl (plainFor_of_name pn_1) #[.val (.ref a), .val (.long t), .second, .val (.long lim), .second, .unset, .unset] (fun m => by first | (simp [entryFrame, mkF, argsToLocals, Value.category, maxLocals]; done) | rfl) ?_
  intro p e s m below meth c C
  refine go_aloadN C d4_0 (pc' := 1) rfl rfl rfl ?_
  refine go_getfield C (wd hw 24 rfl) F3 d4_1 (pc' := 4) rfl ?_
  refine go_aloadN C d4_4 (pc' := 5) rfl rfl rfl ?_
  refine go_getfield C (wd hw 17 rfl) F1 d4_5 (pc' := 8) rfl ?_
  refine go_arraylength C A1 (4 : Int32) rfl d4_8 (pc' := 9) rfl ?_
  refine go_icmp C (1 : Int) (4 : Int) (by decide) (by decide) d4_9 (by decide) (pc' := 76) (by decide) (pcN := 12) rfl (fun (c_1 : ¬ (1 : Int) = (4 : Int)) => ?_) (fun (c_1 : (1 : Int) = (4 : Int)) => by omega)
  refine go_aloadN C d4_76 (pc' := 77) rfl rfl rfl ?_
  refine go_getfield C (wd hw 17 rfl) F1 d4_77 (pc' := 80) rfl ?_
  refine go_aloadN C d4_80 (pc' := 81) rfl rfl rfl ?_
  refine go_aloadN C d4_81 (pc' := 82) rfl rfl rfl ?_
  refine go_getfield C (wd hw 24 rfl) F3 d4_82 (pc' := 85) rfl ?_
  refine go_privateP C (as := [.int (1 : Int32)]) (rest := [.ref r]) (W := 1) (.int (2 : Int32)) (sat_slot l Z a0 hw a r (4 : Int32) (1 : Int32) (1 : Int32) (2 : Int32) _ _ _ F1 F2 A1 rfl (by decide)) E1 (wd hw 26 rfl) (wd hw 28 rfl) (own_selects_private (wd hw 3 rfl) (wd hw 28 rfl) (wd hw 27 rfl) (by decide)) (wd hw 27 rfl) (wd hw 4 rfl) (wd hw 29 rfl) (by decide) pd_4 rfl rfl rfl (by decide) (by decide) rfl rfl (by decide) (by decide) d4_85 (pc' := 88) rfl rfl ?_
  refine go_lloadN C d4_88 (pc' := 89) rfl rfl ?_
  refine go_lastore C A1 2 (by decide) (show 2 < 4 from by decide) gr d4_89 (pc' := 90) rfl ?_
  intro h_2 W_3 A_4
  have F_6 := Fld.other W_3 F1 (Or.inl (own_ne_arr E1 (wd hw 3 rfl) A1))
  have F_7 := Fld.other W_3 F2 (Or.inl (own_ne_arr E1 (wd hw 3 rfl) A1))
  have F_8 := Fld.other W_3 F3 (Or.inl (own_ne_arr E1 (wd hw 3 rfl) A1))
  have E_9 := Exa.wr W_3 E1
  have A_10 : Av Z h_2 r .long [.long v0, .long v1, .long t, .long v3] := A_4
  refine go_aloadN C d4_90 (pc' := 91) rfl rfl rfl ?_
  refine go_dup C d4_91 (pc' := 92) rfl rfl ?_
  refine go_getfield C (wd hw 24 rfl) F_8 d4_92 (pc' := 95) rfl ?_
  refine go_iconst C (1 : Int32) d4_95 (pc' := 96) rfl (by decide) ?_
  refine go_iadd C d4_96 (pc' := 97) rfl ?_
  rw [(by decide : (1 : Int32) + (1 : Int32) = (2 : Int32))]
  refine go_putfield C (wd hw 24 rfl) F_8 E_9 (Or.inl (wd hw 25 rfl)) (wd hw 3 rfl) (ty := .int) (by decide) rfl rfl ga d4_97 (pc' := 100) rfl ?_
  intro h_11 W_12
  have F_13 := Fld.other W_12 F_6 (Or.inr (slot_ne (a0 := a0) (Or.inl (wd hw 18 rfl)) (Or.inl (wd hw 25 rfl)) (by decide) (t := (.array .long)) (t' := .int) (by decide) (by decide)))
  have F_14 := Fld.other W_12 F_7 (Or.inr (slot_ne (a0 := a0) (Or.inl (wd hw 31 rfl)) (Or.inl (wd hw 25 rfl)) (by decide) (t := .int) (t' := .int) (by decide) (by decide)))
  have F_15 := Fld.same W_12 F_8
  have E_16 := Exa.wr W_12 E_9
  have A_17 := Av.other A_10 W_12 (Ne.symm (own_ne_arr E_9 (wd hw 3 rfl) A_10))
  refine go_return C rfl d4_100 (by decide) (by decide) ?_
  exact ⟨rfl, _, gr, E_16, F_13, F_14, F_15, A_17⟩
set_option maxRecDepth 65536 in
set_option maxHeartbeats 40000000 in
theorem sat_add_4_1_2 (l : Launch) (Z : State) (a0 : Array Value) (hw : ∀ d ∈ tables_1, d.before a0 Z = true) (a r : Addr) (v0 v1 v2 v3 : Int64) (t lim : Int64) (h0 : Heap) (n0 : Nat) (E1 : Exa Z h0 a "com/example/throttld/throttld/SlidingLog$Log") (F1 : Fld Z h0 a "com/example/throttld/throttld/SlidingLog$Log" "ring" "[J" (.ref r)) (F2 : Fld Z h0 a "com/example/throttld/throttld/SlidingLog$Log" "head" "I" (.int (1 : Int32))) (F3 : Fld Z h0 a "com/example/throttld/throttld/SlidingLog$Log" "count" "I" (.int (2 : Int32))) (A1 : Av Z h0 r .long [.long v0, .long v1, .long v2, .long v3]) (ga : n0 ≤ a) (gr : n0 ≤ r) :
    Sat l Z (⟨"com/example/throttld/throttld/SlidingLog$Log", "add", "(JJ)V"⟩ : MethodName) prog_32_method_6_code 7 none ({ frames := 1, cells := 0, slots := 0, locals := 17 } : Room) [.ref a, .long t, .long lim] h0 n0 (RN fun h => ∃ r' : Addr, n0 ≤ r' ∧ Exa Z h a "com/example/throttld/throttld/SlidingLog$Log" ∧ Fld Z h a "com/example/throttld/throttld/SlidingLog$Log" "ring" "[J" (.ref r') ∧ Fld Z h a "com/example/throttld/throttld/SlidingLog$Log" "head" "I" (.int (1 : Int32)) ∧ Fld Z h a "com/example/throttld/throttld/SlidingLog$Log" "count" "I" (.int (3 : Int32)) ∧ Av Z h r' .long [.long v0, .long v1, .long v2, .long t]) := by
  refine sat_of (own := "com/example/throttld/throttld/SlidingLog$Log") (nm := "add") rfl rfl (plainFor_of_name pn_1) #[.val (.ref a), .val (.long t), .second, .val (.long lim), .second, .unset, .unset] (fun m => by first | (simp [entryFrame, mkF, argsToLocals, Value.category, maxLocals]; done) | rfl) ?_
  intro p e s m below meth c C
  refine go_aloadN C d4_0 (pc' := 1) rfl rfl rfl ?_
  refine go_getfield C (wd hw 24 rfl) F3 d4_1 (pc' := 4) rfl ?_
  refine go_aloadN C d4_4 (pc' := 5) rfl rfl rfl ?_
  refine go_getfield C (wd hw 17 rfl) F1 d4_5 (pc' := 8) rfl ?_
  refine go_arraylength C A1 (4 : Int32) rfl d4_8 (pc' := 9) rfl ?_
  refine go_icmp C (2 : Int) (4 : Int) (by decide) (by decide) d4_9 (by decide) (pc' := 76) (by decide) (pcN := 12) rfl (fun (c_1 : ¬ (2 : Int) = (4 : Int)) => ?_) (fun (c_1 : (2 : Int) = (4 : Int)) => by omega)
  refine go_aloadN C d4_76 (pc' := 77) rfl rfl rfl ?_
  refine go_getfield C (wd hw 17 rfl) F1 d4_77 (pc' := 80) rfl ?_
  refine go_aloadN C d4_80 (pc' := 81) rfl rfl rfl ?_
  refine go_aloadN C d4_81 (pc' := 82) rfl rfl rfl ?_
  refine go_getfield C (wd hw 24 rfl) F3 d4_82 (pc' := 85) rfl ?_
  refine go_privateP C (as := [.int (2 : Int32)]) (rest := [.ref r]) (W := 1) (.int (3 : Int32)) (sat_slot l Z a0 hw a r (4 : Int32) (1 : Int32) (2 : Int32) (3 : Int32) _ _ _ F1 F2 A1 rfl (by decide)) E1 (wd hw 26 rfl) (wd hw 28 rfl) (own_selects_private (wd hw 3 rfl) (wd hw 28 rfl) (wd hw 27 rfl) (by decide)) (wd hw 27 rfl) (wd hw 4 rfl) (wd hw 29 rfl) (by decide) pd_4 rfl rfl rfl (by decide) (by decide) rfl rfl (by decide) (by decide) d4_85 (pc' := 88) rfl rfl ?_
  refine go_lloadN C d4_88 (pc' := 89) rfl rfl ?_
  refine go_lastore C A1 3 (by decide) (show 3 < 4 from by decide) gr d4_89 (pc' := 90) rfl ?_
  intro h_2 W_3 A_4
  have F_6 := Fld.other W_3 F1 (Or.inl (own_ne_arr E1 (wd hw 3 rfl) A1))
  have F_7 := Fld.other W_3 F2 (Or.inl (own_ne_arr E1 (wd hw 3 rfl) A1))
  have F_8 := Fld.other W_3 F3 (Or.inl (own_ne_arr E1 (wd hw 3 rfl) A1))
  have E_9 := Exa.wr W_3 E1
  have A_10 : Av Z h_2 r .long [.long v0, .long v1, .long v2, .long t] := A_4
  refine go_aloadN C d4_90 (pc' := 91) rfl rfl rfl ?_
  refine go_dup C d4_91 (pc' := 92) rfl rfl ?_
  refine go_getfield C (wd hw 24 rfl) F_8 d4_92 (pc' := 95) rfl ?_
  refine go_iconst C (1 : Int32) d4_95 (pc' := 96) rfl (by decide) ?_
  refine go_iadd C d4_96 (pc' := 97) rfl ?_
  rw [(by decide : (2 : Int32) + (1 : Int32) = (3 : Int32))]
  refine go_putfield C (wd hw 24 rfl) F_8 E_9 (Or.inl (wd hw 25 rfl)) (wd hw 3 rfl) (ty := .int) (by decide) rfl rfl ga d4_97 (pc' := 100) rfl ?_
  intro h_11 W_12
  have F_13 := Fld.other W_12 F_6 (Or.inr (slot_ne (a0 := a0) (Or.inl (wd hw 18 rfl)) (Or.inl (wd hw 25 rfl)) (by decide) (t := (.array .long)) (t' := .int) (by decide) (by decide)))
  have F_14 := Fld.other W_12 F_7 (Or.inr (slot_ne (a0 := a0) (Or.inl (wd hw 31 rfl)) (Or.inl (wd hw 25 rfl)) (by decide) (t := .int) (t' := .int) (by decide) (by decide)))
  have F_15 := Fld.same W_12 F_8
  have E_16 := Exa.wr W_12 E_9
  have A_17 := Av.other A_10 W_12 (Ne.symm (own_ne_arr E_9 (wd hw 3 rfl) A_10))
  refine go_return C rfl d4_100 (by decide) (by decide) ?_
  exact ⟨rfl, _, gr, E_16, F_13, F_14, F_15, A_17⟩
set_option maxRecDepth 65536 in
set_option maxHeartbeats 40000000 in
theorem sat_add_4_2_0 (l : Launch) (Z : State) (a0 : Array Value) (hw : ∀ d ∈ tables_1, d.before a0 Z = true) (a r : Addr) (v0 v1 v2 v3 : Int64) (t lim : Int64) (h0 : Heap) (n0 : Nat) (E1 : Exa Z h0 a "com/example/throttld/throttld/SlidingLog$Log") (F1 : Fld Z h0 a "com/example/throttld/throttld/SlidingLog$Log" "ring" "[J" (.ref r)) (F2 : Fld Z h0 a "com/example/throttld/throttld/SlidingLog$Log" "head" "I" (.int (2 : Int32))) (F3 : Fld Z h0 a "com/example/throttld/throttld/SlidingLog$Log" "count" "I" (.int (0 : Int32))) (A1 : Av Z h0 r .long [.long v0, .long v1, .long v2, .long v3]) (ga : n0 ≤ a) (gr : n0 ≤ r) :
    Sat l Z (⟨"com/example/throttld/throttld/SlidingLog$Log", "add", "(JJ)V"⟩ : MethodName) prog_32_method_6_code 7 none ({ frames := 1, cells := 0, slots := 0, locals := 17 } : Room) [.ref a, .long t, .long lim] h0 n0 (RN fun h => ∃ r' : Addr, n0 ≤ r' ∧ Exa Z h a "com/example/throttld/throttld/SlidingLog$Log" ∧ Fld Z h a "com/example/throttld/throttld/SlidingLog$Log" "ring" "[J" (.ref r') ∧ Fld Z h a "com/example/throttld/throttld/SlidingLog$Log" "head" "I" (.int (2 : Int32)) ∧ Fld Z h a "com/example/throttld/throttld/SlidingLog$Log" "count" "I" (.int (1 : Int32)) ∧ Av Z h r' .long [.long v0, .long v1, .long t, .long v3]) := by
  refine sat_of (own := "com/example/throttld/throttld/SlidingLog$Log") (nm := "add") rfl rfl (plainFor_of_name pn_1) #[.val (.ref a), .val (.long t), .second, .val (.long lim), .second, .unset, .unset] (fun m => by first | (simp [entryFrame, mkF, argsToLocals, Value.category, maxLocals]; done) | rfl) ?_
  intro p e s m below meth c C
  refine go_aloadN C d4_0 (pc' := 1) rfl rfl rfl ?_
  refine go_getfield C (wd hw 24 rfl) F3 d4_1 (pc' := 4) rfl ?_
  refine go_aloadN C d4_4 (pc' := 5) rfl rfl rfl ?_
  refine go_getfield C (wd hw 17 rfl) F1 d4_5 (pc' := 8) rfl ?_
  refine go_arraylength C A1 (4 : Int32) rfl d4_8 (pc' := 9) rfl ?_
  refine go_icmp C (0 : Int) (4 : Int) (by decide) (by decide) d4_9 (by decide) (pc' := 76) (by decide) (pcN := 12) rfl (fun (c_1 : ¬ (0 : Int) = (4 : Int)) => ?_) (fun (c_1 : (0 : Int) = (4 : Int)) => by omega)
  refine go_aloadN C d4_76 (pc' := 77) rfl rfl rfl ?_
  refine go_getfield C (wd hw 17 rfl) F1 d4_77 (pc' := 80) rfl ?_
  refine go_aloadN C d4_80 (pc' := 81) rfl rfl rfl ?_
  refine go_aloadN C d4_81 (pc' := 82) rfl rfl rfl ?_
  refine go_getfield C (wd hw 24 rfl) F3 d4_82 (pc' := 85) rfl ?_
  refine go_privateP C (as := [.int (0 : Int32)]) (rest := [.ref r]) (W := 1) (.int (2 : Int32)) (sat_slot l Z a0 hw a r (4 : Int32) (2 : Int32) (0 : Int32) (2 : Int32) _ _ _ F1 F2 A1 rfl (by decide)) E1 (wd hw 26 rfl) (wd hw 28 rfl) (own_selects_private (wd hw 3 rfl) (wd hw 28 rfl) (wd hw 27 rfl) (by decide)) (wd hw 27 rfl) (wd hw 4 rfl) (wd hw 29 rfl) (by decide) pd_4 rfl rfl rfl (by decide) (by decide) rfl rfl (by decide) (by decide) d4_85 (pc' := 88) rfl rfl ?_
  refine go_lloadN C d4_88 (pc' := 89) rfl rfl ?_
  refine go_lastore C A1 2 (by decide) (show 2 < 4 from by decide) gr d4_89 (pc' := 90) rfl ?_
  intro h_2 W_3 A_4
  have F_6 := Fld.other W_3 F1 (Or.inl (own_ne_arr E1 (wd hw 3 rfl) A1))
  have F_7 := Fld.other W_3 F2 (Or.inl (own_ne_arr E1 (wd hw 3 rfl) A1))
  have F_8 := Fld.other W_3 F3 (Or.inl (own_ne_arr E1 (wd hw 3 rfl) A1))
  have E_9 := Exa.wr W_3 E1
  have A_10 : Av Z h_2 r .long [.long v0, .long v1, .long t, .long v3] := A_4
  refine go_aloadN C d4_90 (pc' := 91) rfl rfl rfl ?_
  refine go_dup C d4_91 (pc' := 92) rfl rfl ?_
  refine go_getfield C (wd hw 24 rfl) F_8 d4_92 (pc' := 95) rfl ?_
  refine go_iconst C (1 : Int32) d4_95 (pc' := 96) rfl (by decide) ?_
  refine go_iadd C d4_96 (pc' := 97) rfl ?_
  rw [(by decide : (0 : Int32) + (1 : Int32) = (1 : Int32))]
  refine go_putfield C (wd hw 24 rfl) F_8 E_9 (Or.inl (wd hw 25 rfl)) (wd hw 3 rfl) (ty := .int) (by decide) rfl rfl ga d4_97 (pc' := 100) rfl ?_
  intro h_11 W_12
  have F_13 := Fld.other W_12 F_6 (Or.inr (slot_ne (a0 := a0) (Or.inl (wd hw 18 rfl)) (Or.inl (wd hw 25 rfl)) (by decide) (t := (.array .long)) (t' := .int) (by decide) (by decide)))
  have F_14 := Fld.other W_12 F_7 (Or.inr (slot_ne (a0 := a0) (Or.inl (wd hw 31 rfl)) (Or.inl (wd hw 25 rfl)) (by decide) (t := .int) (t' := .int) (by decide) (by decide)))
  have F_15 := Fld.same W_12 F_8
  have E_16 := Exa.wr W_12 E_9
  have A_17 := Av.other A_10 W_12 (Ne.symm (own_ne_arr E_9 (wd hw 3 rfl) A_10))
  refine go_return C rfl d4_100 (by decide) (by decide) ?_
  exact ⟨rfl, _, gr, E_16, F_13, F_14, F_15, A_17⟩
set_option maxRecDepth 65536 in
set_option maxHeartbeats 40000000 in
theorem sat_add_4_2_1 (l : Launch) (Z : State) (a0 : Array Value) (hw : ∀ d ∈ tables_1, d.before a0 Z = true) (a r : Addr) (v0 v1 v2 v3 : Int64) (t lim : Int64) (h0 : Heap) (n0 : Nat) (E1 : Exa Z h0 a "com/example/throttld/throttld/SlidingLog$Log") (F1 : Fld Z h0 a "com/example/throttld/throttld/SlidingLog$Log" "ring" "[J" (.ref r)) (F2 : Fld Z h0 a "com/example/throttld/throttld/SlidingLog$Log" "head" "I" (.int (2 : Int32))) (F3 : Fld Z h0 a "com/example/throttld/throttld/SlidingLog$Log" "count" "I" (.int (1 : Int32))) (A1 : Av Z h0 r .long [.long v0, .long v1, .long v2, .long v3]) (ga : n0 ≤ a) (gr : n0 ≤ r) :
    Sat l Z (⟨"com/example/throttld/throttld/SlidingLog$Log", "add", "(JJ)V"⟩ : MethodName) prog_32_method_6_code 7 none ({ frames := 1, cells := 0, slots := 0, locals := 17 } : Room) [.ref a, .long t, .long lim] h0 n0 (RN fun h => ∃ r' : Addr, n0 ≤ r' ∧ Exa Z h a "com/example/throttld/throttld/SlidingLog$Log" ∧ Fld Z h a "com/example/throttld/throttld/SlidingLog$Log" "ring" "[J" (.ref r') ∧ Fld Z h a "com/example/throttld/throttld/SlidingLog$Log" "head" "I" (.int (2 : Int32)) ∧ Fld Z h a "com/example/throttld/throttld/SlidingLog$Log" "count" "I" (.int (2 : Int32)) ∧ Av Z h r' .long [.long v0, .long v1, .long v2, .long t]) := by
  refine sat_of (own := "com/example/throttld/throttld/SlidingLog$Log") (nm := "add") rfl rfl (plainFor_of_name pn_1) #[.val (.ref a), .val (.long t), .second, .val (.long lim), .second, .unset, .unset] (fun m => by first | (simp [entryFrame, mkF, argsToLocals, Value.category, maxLocals]; done) | rfl) ?_
  intro p e s m below meth c C
  refine go_aloadN C d4_0 (pc' := 1) rfl rfl rfl ?_
  refine go_getfield C (wd hw 24 rfl) F3 d4_1 (pc' := 4) rfl ?_
  refine go_aloadN C d4_4 (pc' := 5) rfl rfl rfl ?_
  refine go_getfield C (wd hw 17 rfl) F1 d4_5 (pc' := 8) rfl ?_
  refine go_arraylength C A1 (4 : Int32) rfl d4_8 (pc' := 9) rfl ?_
  refine go_icmp C (1 : Int) (4 : Int) (by decide) (by decide) d4_9 (by decide) (pc' := 76) (by decide) (pcN := 12) rfl (fun (c_1 : ¬ (1 : Int) = (4 : Int)) => ?_) (fun (c_1 : (1 : Int) = (4 : Int)) => by omega)
  refine go_aloadN C d4_76 (pc' := 77) rfl rfl rfl ?_
  refine go_getfield C (wd hw 17 rfl) F1 d4_77 (pc' := 80) rfl ?_
  refine go_aloadN C d4_80 (pc' := 81) rfl rfl rfl ?_
  refine go_aloadN C d4_81 (pc' := 82) rfl rfl rfl ?_
  refine go_getfield C (wd hw 24 rfl) F3 d4_82 (pc' := 85) rfl ?_
  refine go_privateP C (as := [.int (1 : Int32)]) (rest := [.ref r]) (W := 1) (.int (3 : Int32)) (sat_slot l Z a0 hw a r (4 : Int32) (2 : Int32) (1 : Int32) (3 : Int32) _ _ _ F1 F2 A1 rfl (by decide)) E1 (wd hw 26 rfl) (wd hw 28 rfl) (own_selects_private (wd hw 3 rfl) (wd hw 28 rfl) (wd hw 27 rfl) (by decide)) (wd hw 27 rfl) (wd hw 4 rfl) (wd hw 29 rfl) (by decide) pd_4 rfl rfl rfl (by decide) (by decide) rfl rfl (by decide) (by decide) d4_85 (pc' := 88) rfl rfl ?_
  refine go_lloadN C d4_88 (pc' := 89) rfl rfl ?_
  refine go_lastore C A1 3 (by decide) (show 3 < 4 from by decide) gr d4_89 (pc' := 90) rfl ?_
  intro h_2 W_3 A_4
  have F_6 := Fld.other W_3 F1 (Or.inl (own_ne_arr E1 (wd hw 3 rfl) A1))
  have F_7 := Fld.other W_3 F2 (Or.inl (own_ne_arr E1 (wd hw 3 rfl) A1))
  have F_8 := Fld.other W_3 F3 (Or.inl (own_ne_arr E1 (wd hw 3 rfl) A1))
  have E_9 := Exa.wr W_3 E1
  have A_10 : Av Z h_2 r .long [.long v0, .long v1, .long v2, .long t] := A_4
  refine go_aloadN C d4_90 (pc' := 91) rfl rfl rfl ?_
  refine go_dup C d4_91 (pc' := 92) rfl rfl ?_
  refine go_getfield C (wd hw 24 rfl) F_8 d4_92 (pc' := 95) rfl ?_
  refine go_iconst C (1 : Int32) d4_95 (pc' := 96) rfl (by decide) ?_
  refine go_iadd C d4_96 (pc' := 97) rfl ?_
  rw [(by decide : (1 : Int32) + (1 : Int32) = (2 : Int32))]
  refine go_putfield C (wd hw 24 rfl) F_8 E_9 (Or.inl (wd hw 25 rfl)) (wd hw 3 rfl) (ty := .int) (by decide) rfl rfl ga d4_97 (pc' := 100) rfl ?_
  intro h_11 W_12
  have F_13 := Fld.other W_12 F_6 (Or.inr (slot_ne (a0 := a0) (Or.inl (wd hw 18 rfl)) (Or.inl (wd hw 25 rfl)) (by decide) (t := (.array .long)) (t' := .int) (by decide) (by decide)))
  have F_14 := Fld.other W_12 F_7 (Or.inr (slot_ne (a0 := a0) (Or.inl (wd hw 31 rfl)) (Or.inl (wd hw 25 rfl)) (by decide) (t := .int) (t' := .int) (by decide) (by decide)))
  have F_15 := Fld.same W_12 F_8
  have E_16 := Exa.wr W_12 E_9
  have A_17 := Av.other A_10 W_12 (Ne.symm (own_ne_arr E_9 (wd hw 3 rfl) A_10))
  refine go_return C rfl d4_100 (by decide) (by decide) ?_
  exact ⟨rfl, _, gr, E_16, F_13, F_14, F_15, A_17⟩
set_option maxRecDepth 65536 in
set_option maxHeartbeats 40000000 in
theorem sat_drop_1_0_1 (l : Launch) (Z : State) (a0 : Array Value) (hw : ∀ d ∈ tables_1, d.before a0 Z = true) (a r : Addr) (v0 : Int64) (ta win : Int64) (h0 : Heap) (n0 : Nat) (E1 : Exa Z h0 a "com/example/throttld/throttld/SlidingLog$Log") (F1 : Fld Z h0 a "com/example/throttld/throttld/SlidingLog$Log" "ring" "[J" (.ref r)) (F2 : Fld Z h0 a "com/example/throttld/throttld/SlidingLog$Log" "head" "I" (.int (0 : Int32))) (F3 : Fld Z h0 a "com/example/throttld/throttld/SlidingLog$Log" "count" "I" (.int (1 : Int32))) (A1 : Av Z h0 r .long [.long v0]) (ga : n0 ≤ a) (gr : n0 ≤ r) :
    Sat l Z (⟨"com/example/throttld/throttld/SlidingLog$Log", "dropAgedOut", "(JJ)V"⟩ : MethodName) prog_32_method_5_code 5 none ({ frames := 1, cells := 0, slots := 0, locals := 15 } : Room) [.ref a, .long ta, .long win] h0 n0 (RN fun h => (((ta - v0).toInt < win.toInt) ∧ Exa Z h a "com/example/throttld/throttld/SlidingLog$Log" ∧ Fld Z h a "com/example/throttld/throttld/SlidingLog$Log" "ring" "[J" (.ref r) ∧ Fld Z h a "com/example/throttld/throttld/SlidingLog$Log" "head" "I" (.int (0 : Int32)) ∧ Fld Z h a "com/example/throttld/throttld/SlidingLog$Log" "count" "I" (.int (1 : Int32)) ∧ Av Z h r .long [.long v0]) ∨ ((¬ (ta - v0).toInt < win.toInt) ∧ Exa Z h a "com/example/throttld/throttld/SlidingLog$Log" ∧ Fld Z h a "com/example/throttld/throttld/SlidingLog$Log" "ring" "[J" (.ref r) ∧ Fld Z h a "com/example/throttld/throttld/SlidingLog$Log" "head" "I" (.int (0 : Int32)) ∧ Fld Z h a "com/example/throttld/throttld/SlidingLog$Log" "count" "I" (.int (0 : Int32)) ∧ Av Z h r .long [.long v0])) := by
  refine sat_of (own := "com/example/throttld/throttld/SlidingLog$Log") (nm := "dropAgedOut") rfl rfl (plainFor_of_name pn_1) #[.val (.ref a), .val (.long ta), .second, .val (.long win), .second] (fun m => by first | (simp [entryFrame, mkF, argsToLocals, Value.category, maxLocals]; done) | rfl) ?_
  intro p e s m below meth c C
  refine go_aloadN C d7_0 (pc' := 1) rfl rfl rfl ?_
  refine go_getfield C (wd hw 24 rfl) F3 d7_1 (pc' := 4) rfl ?_
  refine go_if0 C (1 : Int) (by decide) d7_4 (by decide) (pc' := 45) (by decide) (pcN := 7) rfl (fun (c_1 : ¬ 0 < (1 : Int)) => by omega) (fun (c_1 : 0 < (1 : Int)) => ?_)
  refine go_lloadN C d7_7 (pc' := 8) rfl rfl ?_
  refine go_aloadN C d7_8 (pc' := 9) rfl rfl rfl ?_
  refine go_getfield C (wd hw 17 rfl) F1 d7_9 (pc' := 12) rfl ?_
  refine go_aloadN C d7_12 (pc' := 13) rfl rfl rfl ?_
  refine go_getfield C (wd hw 30 rfl) F2 d7_13 (pc' := 16) rfl ?_
  refine go_laload C A1 0 (.long v0) (by decide) rfl d7_16 (pc' := 17) rfl ?_
  refine go_lsub C d7_17 (pc' := 18) rfl ?_
  refine go_lloadN C d7_18 (pc' := 19) rfl rfl ?_
  refine go_lcmp C ((ta - v0).toInt) win.toInt rfl rfl d7_19 (pc1 := 20) rfl d7_20 (by decide) (pc' := 45) (by decide) (pcN := 23) rfl (fun (c_2 : ((ta - v0).toInt) < win.toInt) => ?_) (fun (c_2 : ¬ ((ta - v0).toInt) < win.toInt) => ?_)
  · skip
    refine go_return C rfl d7_45 (by decide) (by decide) ?_
    exact ⟨rfl, Or.inl ⟨c_2, E1, F1, F2, F3, A1⟩⟩
  · skip
    refine go_aloadN C d7_23 (pc' := 24) rfl rfl rfl ?_
    refine go_aloadN C d7_24 (pc' := 25) rfl rfl rfl ?_
    refine go_iconst C (1 : Int32) d7_25 (pc' := 26) rfl (by decide) ?_
    refine go_privateP C (as := [.int (1 : Int32)]) (rest := [.ref a]) (W := 1) (.int (0 : Int32)) (sat_slot l Z a0 hw a r (1 : Int32) (0 : Int32) (1 : Int32) (0 : Int32) _ _ _ F1 F2 A1 rfl (by decide)) E1 (wd hw 26 rfl) (wd hw 28 rfl) (own_selects_private (wd hw 3 rfl) (wd hw 28 rfl) (wd hw 27 rfl) (by decide)) (wd hw 27 rfl) (wd hw 4 rfl) (wd hw 29 rfl) (by decide) pd_4 rfl rfl rfl (by decide) (by decide) rfl rfl (by decide) (by decide) d7_26 (pc' := 29) rfl rfl ?_
    refine go_putfield C (wd hw 30 rfl) F2 E1 (Or.inl (wd hw 31 rfl)) (wd hw 3 rfl) (ty := .int) (by decide) rfl rfl ga d7_29 (pc' := 32) rfl ?_
    intro h_3 W_4
    have F_5 := Fld.other W_4 F1 (Or.inr (slot_ne (a0 := a0) (Or.inl (wd hw 18 rfl)) (Or.inl (wd hw 31 rfl)) (by decide) (t := (.array .long)) (t' := .int) (by decide) (by decide)))
    have F_6 := Fld.same W_4 F2
    have F_7 := Fld.other W_4 F3 (Or.inr (slot_ne (a0 := a0) (Or.inl (wd hw 25 rfl)) (Or.inl (wd hw 31 rfl)) (by decide) (t := .int) (t' := .int) (by decide) (by decide)))
    have E_8 := Exa.wr W_4 E1
    have A_9 := Av.other A1 W_4 (Ne.symm (own_ne_arr E1 (wd hw 3 rfl) A1))
    refine go_aloadN C d7_32 (pc' := 33) rfl rfl rfl ?_
    refine go_dup C d7_33 (pc' := 34) rfl rfl ?_
    refine go_getfield C (wd hw 24 rfl) F_7 d7_34 (pc' := 37) rfl ?_
    refine go_iconst C (1 : Int32) d7_37 (pc' := 38) rfl (by decide) ?_
    refine go_isub C d7_38 (pc' := 39) rfl ?_
    rw [(by decide : (1 : Int32) - (1 : Int32) = (0 : Int32))]
    refine go_putfield C (wd hw 24 rfl) F_7 E_8 (Or.inl (wd hw 25 rfl)) (wd hw 3 rfl) (ty := .int) (by decide) rfl rfl ga d7_39 (pc' := 42) rfl ?_
    intro h_10 W_11
    have F_12 := Fld.other W_11 F_5 (Or.inr (slot_ne (a0 := a0) (Or.inl (wd hw 18 rfl)) (Or.inl (wd hw 25 rfl)) (by decide) (t := (.array .long)) (t' := .int) (by decide) (by decide)))
    have F_13 := Fld.other W_11 F_6 (Or.inr (slot_ne (a0 := a0) (Or.inl (wd hw 31 rfl)) (Or.inl (wd hw 25 rfl)) (by decide) (t := .int) (t' := .int) (by decide) (by decide)))
    have F_14 := Fld.same W_11 F_7
    have E_15 := Exa.wr W_11 E_8
    have A_16 := Av.other A_9 W_11 (Ne.symm (own_ne_arr E_8 (wd hw 3 rfl) A_9))
    refine go_goto C d7_42 (by decide) (pc' := 0) (by decide) ?_
    refine go_aloadN C d7_0 (pc' := 1) rfl rfl rfl ?_
    refine go_getfield C (wd hw 24 rfl) F_14 d7_1 (pc' := 4) rfl ?_
    refine go_if0 C (0 : Int) (by decide) d7_4 (by decide) (pc' := 45) (by decide) (pcN := 7) rfl (fun (c_17 : ¬ 0 < (0 : Int)) => ?_) (fun (c_17 : 0 < (0 : Int)) => by omega)
    refine go_return C rfl d7_45 (by decide) (by decide) ?_
    exact ⟨rfl, Or.inr (⟨c_2, E_15, F_12, F_13, F_14, A_16⟩)⟩
set_option maxRecDepth 65536 in
set_option maxHeartbeats 40000000 in
theorem sat_drop_2_0_1 (l : Launch) (Z : State) (a0 : Array Value) (hw : ∀ d ∈ tables_1, d.before a0 Z = true) (a r : Addr) (v0 v1 : Int64) (ta win : Int64) (h0 : Heap) (n0 : Nat) (E1 : Exa Z h0 a "com/example/throttld/throttld/SlidingLog$Log") (F1 : Fld Z h0 a "com/example/throttld/throttld/SlidingLog$Log" "ring" "[J" (.ref r)) (F2 : Fld Z h0 a "com/example/throttld/throttld/SlidingLog$Log" "head" "I" (.int (0 : Int32))) (F3 : Fld Z h0 a "com/example/throttld/throttld/SlidingLog$Log" "count" "I" (.int (1 : Int32))) (A1 : Av Z h0 r .long [.long v0, .long v1]) (ga : n0 ≤ a) (gr : n0 ≤ r) :
    Sat l Z (⟨"com/example/throttld/throttld/SlidingLog$Log", "dropAgedOut", "(JJ)V"⟩ : MethodName) prog_32_method_5_code 5 none ({ frames := 1, cells := 0, slots := 0, locals := 15 } : Room) [.ref a, .long ta, .long win] h0 n0 (RN fun h => (((ta - v0).toInt < win.toInt) ∧ Exa Z h a "com/example/throttld/throttld/SlidingLog$Log" ∧ Fld Z h a "com/example/throttld/throttld/SlidingLog$Log" "ring" "[J" (.ref r) ∧ Fld Z h a "com/example/throttld/throttld/SlidingLog$Log" "head" "I" (.int (0 : Int32)) ∧ Fld Z h a "com/example/throttld/throttld/SlidingLog$Log" "count" "I" (.int (1 : Int32)) ∧ Av Z h r .long [.long v0, .long v1]) ∨ ((¬ (ta - v0).toInt < win.toInt) ∧ Exa Z h a "com/example/throttld/throttld/SlidingLog$Log" ∧ Fld Z h a "com/example/throttld/throttld/SlidingLog$Log" "ring" "[J" (.ref r) ∧ Fld Z h a "com/example/throttld/throttld/SlidingLog$Log" "head" "I" (.int (1 : Int32)) ∧ Fld Z h a "com/example/throttld/throttld/SlidingLog$Log" "count" "I" (.int (0 : Int32)) ∧ Av Z h r .long [.long v0, .long v1])) := by
  refine sat_of (own := "com/example/throttld/throttld/SlidingLog$Log") (nm := "dropAgedOut") rfl rfl (plainFor_of_name pn_1) #[.val (.ref a), .val (.long ta), .second, .val (.long win), .second] (fun m => by first | (simp [entryFrame, mkF, argsToLocals, Value.category, maxLocals]; done) | rfl) ?_
  intro p e s m below meth c C
  refine go_aloadN C d7_0 (pc' := 1) rfl rfl rfl ?_
  refine go_getfield C (wd hw 24 rfl) F3 d7_1 (pc' := 4) rfl ?_
  refine go_if0 C (1 : Int) (by decide) d7_4 (by decide) (pc' := 45) (by decide) (pcN := 7) rfl (fun (c_1 : ¬ 0 < (1 : Int)) => by omega) (fun (c_1 : 0 < (1 : Int)) => ?_)
  refine go_lloadN C d7_7 (pc' := 8) rfl rfl ?_
  refine go_aloadN C d7_8 (pc' := 9) rfl rfl rfl ?_
  refine go_getfield C (wd hw 17 rfl) F1 d7_9 (pc' := 12) rfl ?_
  refine go_aloadN C d7_12 (pc' := 13) rfl rfl rfl ?_
  refine go_getfield C (wd hw 30 rfl) F2 d7_13 (pc' := 16) rfl ?_
  refine go_laload C A1 0 (.long v0) (by decide) rfl d7_16 (pc' := 17) rfl ?_
  refine go_lsub C d7_17 (pc' := 18) rfl ?_
  refine go_lloadN C d7_18 (pc' := 19) rfl rfl ?_
  refine go_lcmp C ((ta - v0).toInt) win.toInt rfl rfl d7_19 (pc1 := 20) rfl d7_20 (by decide) (pc' := 45) (by decide) (pcN := 23) rfl (fun (c_2 : ((ta - v0).toInt) < win.toInt) => ?_) (fun (c_2 : ¬ ((ta - v0).toInt) < win.toInt) => ?_)
  · skip
    refine go_return C rfl d7_45 (by decide) (by decide) ?_
    exact ⟨rfl, Or.inl ⟨c_2, E1, F1, F2, F3, A1⟩⟩
  · skip
    refine go_aloadN C d7_23 (pc' := 24) rfl rfl rfl ?_
    refine go_aloadN C d7_24 (pc' := 25) rfl rfl rfl ?_
    refine go_iconst C (1 : Int32) d7_25 (pc' := 26) rfl (by decide) ?_
    refine go_privateP C (as := [.int (1 : Int32)]) (rest := [.ref a]) (W := 1) (.int (1 : Int32)) (sat_slot l Z a0 hw a r (2 : Int32) (0 : Int32) (1 : Int32) (1 : Int32) _ _ _ F1 F2 A1 rfl (by decide)) E1 (wd hw 26 rfl) (wd hw 28 rfl) (own_selects_private (wd hw 3 rfl) (wd hw 28 rfl) (wd hw 27 rfl) (by decide)) (wd hw 27 rfl) (wd hw 4 rfl) (wd hw 29 rfl) (by decide) pd_4 rfl rfl rfl (by decide) (by decide) rfl rfl (by decide) (by decide) d7_26 (pc' := 29) rfl rfl ?_
    refine go_putfield C (wd hw 30 rfl) F2 E1 (Or.inl (wd hw 31 rfl)) (wd hw 3 rfl) (ty := .int) (by decide) rfl rfl ga d7_29 (pc' := 32) rfl ?_
    intro h_3 W_4
    have F_5 := Fld.other W_4 F1 (Or.inr (slot_ne (a0 := a0) (Or.inl (wd hw 18 rfl)) (Or.inl (wd hw 31 rfl)) (by decide) (t := (.array .long)) (t' := .int) (by decide) (by decide)))
    have F_6 := Fld.same W_4 F2
    have F_7 := Fld.other W_4 F3 (Or.inr (slot_ne (a0 := a0) (Or.inl (wd hw 25 rfl)) (Or.inl (wd hw 31 rfl)) (by decide) (t := .int) (t' := .int) (by decide) (by decide)))
    have E_8 := Exa.wr W_4 E1
    have A_9 := Av.other A1 W_4 (Ne.symm (own_ne_arr E1 (wd hw 3 rfl) A1))
    refine go_aloadN C d7_32 (pc' := 33) rfl rfl rfl ?_
    refine go_dup C d7_33 (pc' := 34) rfl rfl ?_
    refine go_getfield C (wd hw 24 rfl) F_7 d7_34 (pc' := 37) rfl ?_
    refine go_iconst C (1 : Int32) d7_37 (pc' := 38) rfl (by decide) ?_
    refine go_isub C d7_38 (pc' := 39) rfl ?_
    rw [(by decide : (1 : Int32) - (1 : Int32) = (0 : Int32))]
    refine go_putfield C (wd hw 24 rfl) F_7 E_8 (Or.inl (wd hw 25 rfl)) (wd hw 3 rfl) (ty := .int) (by decide) rfl rfl ga d7_39 (pc' := 42) rfl ?_
    intro h_10 W_11
    have F_12 := Fld.other W_11 F_5 (Or.inr (slot_ne (a0 := a0) (Or.inl (wd hw 18 rfl)) (Or.inl (wd hw 25 rfl)) (by decide) (t := (.array .long)) (t' := .int) (by decide) (by decide)))
    have F_13 := Fld.other W_11 F_6 (Or.inr (slot_ne (a0 := a0) (Or.inl (wd hw 31 rfl)) (Or.inl (wd hw 25 rfl)) (by decide) (t := .int) (t' := .int) (by decide) (by decide)))
    have F_14 := Fld.same W_11 F_7
    have E_15 := Exa.wr W_11 E_8
    have A_16 := Av.other A_9 W_11 (Ne.symm (own_ne_arr E_8 (wd hw 3 rfl) A_9))
    refine go_goto C d7_42 (by decide) (pc' := 0) (by decide) ?_
    refine go_aloadN C d7_0 (pc' := 1) rfl rfl rfl ?_
    refine go_getfield C (wd hw 24 rfl) F_14 d7_1 (pc' := 4) rfl ?_
    refine go_if0 C (0 : Int) (by decide) d7_4 (by decide) (pc' := 45) (by decide) (pcN := 7) rfl (fun (c_17 : ¬ 0 < (0 : Int)) => ?_) (fun (c_17 : 0 < (0 : Int)) => by omega)
    refine go_return C rfl d7_45 (by decide) (by decide) ?_
    exact ⟨rfl, Or.inr (⟨c_2, E_15, F_12, F_13, F_14, A_16⟩)⟩
set_option maxRecDepth 65536 in
set_option maxHeartbeats 40000000 in
theorem sat_drop_2_0_2 (l : Launch) (Z : State) (a0 : Array Value) (hw : ∀ d ∈ tables_1, d.before a0 Z = true) (a r : Addr) (v0 v1 : Int64) (ta win : Int64) (h0 : Heap) (n0 : Nat) (E1 : Exa Z h0 a "com/example/throttld/throttld/SlidingLog$Log") (F1 : Fld Z h0 a "com/example/throttld/throttld/SlidingLog$Log" "ring" "[J" (.ref r)) (F2 : Fld Z h0 a "com/example/throttld/throttld/SlidingLog$Log" "head" "I" (.int (0 : Int32))) (F3 : Fld Z h0 a "com/example/throttld/throttld/SlidingLog$Log" "count" "I" (.int (2 : Int32))) (A1 : Av Z h0 r .long [.long v0, .long v1]) (ga : n0 ≤ a) (gr : n0 ≤ r) :
    Sat l Z (⟨"com/example/throttld/throttld/SlidingLog$Log", "dropAgedOut", "(JJ)V"⟩ : MethodName) prog_32_method_5_code 5 none ({ frames := 1, cells := 0, slots := 0, locals := 15 } : Room) [.ref a, .long ta, .long win] h0 n0 (RN fun h => (((ta - v0).toInt < win.toInt) ∧ Exa Z h a "com/example/throttld/throttld/SlidingLog$Log" ∧ Fld Z h a "com/example/throttld/throttld/SlidingLog$Log" "ring" "[J" (.ref r) ∧ Fld Z h a "com/example/throttld/throttld/SlidingLog$Log" "head" "I" (.int (0 : Int32)) ∧ Fld Z h a "com/example/throttld/throttld/SlidingLog$Log" "count" "I" (.int (2 : Int32)) ∧ Av Z h r .long [.long v0, .long v1]) ∨ ((¬ (ta - v0).toInt < win.toInt ∧ (ta - v1).toInt < win.toInt) ∧ Exa Z h a "com/example/throttld/throttld/SlidingLog$Log" ∧ Fld Z h a "com/example/throttld/throttld/SlidingLog$Log" "ring" "[J" (.ref r) ∧ Fld Z h a "com/example/throttld/throttld/SlidingLog$Log" "head" "I" (.int (1 : Int32)) ∧ Fld Z h a "com/example/throttld/throttld/SlidingLog$Log" "count" "I" (.int (1 : Int32)) ∧ Av Z h r .long [.long v0, .long v1]) ∨ ((¬ (ta - v0).toInt < win.toInt ∧ ¬ (ta - v1).toInt < win.toInt) ∧ Exa Z h a "com/example/throttld/throttld/SlidingLog$Log" ∧ Fld Z h a "com/example/throttld/throttld/SlidingLog$Log" "ring" "[J" (.ref r) ∧ Fld Z h a "com/example/throttld/throttld/SlidingLog$Log" "head" "I" (.int (0 : Int32)) ∧ Fld Z h a "com/example/throttld/throttld/SlidingLog$Log" "count" "I" (.int (0 : Int32)) ∧ Av Z h r .long [.long v0, .long v1])) := by
  refine sat_of (own := "com/example/throttld/throttld/SlidingLog$Log") (nm := "dropAgedOut") rfl rfl (plainFor_of_name pn_1) #[.val (.ref a), .val (.long ta), .second, .val (.long win), .second] (fun m => by first | (simp [entryFrame, mkF, argsToLocals, Value.category, maxLocals]; done) | rfl) ?_
  intro p e s m below meth c C
  refine go_aloadN C d7_0 (pc' := 1) rfl rfl rfl ?_
  refine go_getfield C (wd hw 24 rfl) F3 d7_1 (pc' := 4) rfl ?_
  refine go_if0 C (2 : Int) (by decide) d7_4 (by decide) (pc' := 45) (by decide) (pcN := 7) rfl (fun (c_1 : ¬ 0 < (2 : Int)) => by omega) (fun (c_1 : 0 < (2 : Int)) => ?_)
  refine go_lloadN C d7_7 (pc' := 8) rfl rfl ?_
  refine go_aloadN C d7_8 (pc' := 9) rfl rfl rfl ?_
  refine go_getfield C (wd hw 17 rfl) F1 d7_9 (pc' := 12) rfl ?_
  refine go_aloadN C d7_12 (pc' := 13) rfl rfl rfl ?_
  refine go_getfield C (wd hw 30 rfl) F2 d7_13 (pc' := 16) rfl ?_
  refine go_laload C A1 0 (.long v0) (by decide) rfl d7_16 (pc' := 17) rfl ?_
  refine go_lsub C d7_17 (pc' := 18) rfl ?_
  refine go_lloadN C d7_18 (pc' := 19) rfl rfl ?_
  refine go_lcmp C ((ta - v0).toInt) win.toInt rfl rfl d7_19 (pc1 := 20) rfl d7_20 (by decide) (pc' := 45) (by decide) (pcN := 23) rfl (fun (c_2 : ((ta - v0).toInt) < win.toInt) => ?_) (fun (c_2 : ¬ ((ta - v0).toInt) < win.toInt) => ?_)
  · skip
    refine go_return C rfl d7_45 (by decide) (by decide) ?_
    exact ⟨rfl, Or.inl ⟨c_2, E1, F1, F2, F3, A1⟩⟩
  · skip
    refine go_aloadN C d7_23 (pc' := 24) rfl rfl rfl ?_
    refine go_aloadN C d7_24 (pc' := 25) rfl rfl rfl ?_
    refine go_iconst C (1 : Int32) d7_25 (pc' := 26) rfl (by decide) ?_
    refine go_privateP C (as := [.int (1 : Int32)]) (rest := [.ref a]) (W := 1) (.int (1 : Int32)) (sat_slot l Z a0 hw a r (2 : Int32) (0 : Int32) (1 : Int32) (1 : Int32) _ _ _ F1 F2 A1 rfl (by decide)) E1 (wd hw 26 rfl) (wd hw 28 rfl) (own_selects_private (wd hw 3 rfl) (wd hw 28 rfl) (wd hw 27 rfl) (by decide)) (wd hw 27 rfl) (wd hw 4 rfl) (wd hw 29 rfl) (by decide) pd_4 rfl rfl rfl (by decide) (by decide) rfl rfl (by decide) (by decide) d7_26 (pc' := 29) rfl rfl ?_
    refine go_putfield C (wd hw 30 rfl) F2 E1 (Or.inl (wd hw 31 rfl)) (wd hw 3 rfl) (ty := .int) (by decide) rfl rfl ga d7_29 (pc' := 32) rfl ?_
    intro h_3 W_4
    have F_5 := Fld.other W_4 F1 (Or.inr (slot_ne (a0 := a0) (Or.inl (wd hw 18 rfl)) (Or.inl (wd hw 31 rfl)) (by decide) (t := (.array .long)) (t' := .int) (by decide) (by decide)))
    have F_6 := Fld.same W_4 F2
    have F_7 := Fld.other W_4 F3 (Or.inr (slot_ne (a0 := a0) (Or.inl (wd hw 25 rfl)) (Or.inl (wd hw 31 rfl)) (by decide) (t := .int) (t' := .int) (by decide) (by decide)))
    have E_8 := Exa.wr W_4 E1
    have A_9 := Av.other A1 W_4 (Ne.symm (own_ne_arr E1 (wd hw 3 rfl) A1))
    refine go_aloadN C d7_32 (pc' := 33) rfl rfl rfl ?_
    refine go_dup C d7_33 (pc' := 34) rfl rfl ?_
    refine go_getfield C (wd hw 24 rfl) F_7 d7_34 (pc' := 37) rfl ?_
    refine go_iconst C (1 : Int32) d7_37 (pc' := 38) rfl (by decide) ?_
    refine go_isub C d7_38 (pc' := 39) rfl ?_
    rw [(by decide : (2 : Int32) - (1 : Int32) = (1 : Int32))]
    refine go_putfield C (wd hw 24 rfl) F_7 E_8 (Or.inl (wd hw 25 rfl)) (wd hw 3 rfl) (ty := .int) (by decide) rfl rfl ga d7_39 (pc' := 42) rfl ?_
    intro h_10 W_11
    have F_12 := Fld.other W_11 F_5 (Or.inr (slot_ne (a0 := a0) (Or.inl (wd hw 18 rfl)) (Or.inl (wd hw 25 rfl)) (by decide) (t := (.array .long)) (t' := .int) (by decide) (by decide)))
    have F_13 := Fld.other W_11 F_6 (Or.inr (slot_ne (a0 := a0) (Or.inl (wd hw 31 rfl)) (Or.inl (wd hw 25 rfl)) (by decide) (t := .int) (t' := .int) (by decide) (by decide)))
    have F_14 := Fld.same W_11 F_7
    have E_15 := Exa.wr W_11 E_8
    have A_16 := Av.other A_9 W_11 (Ne.symm (own_ne_arr E_8 (wd hw 3 rfl) A_9))
    refine go_goto C d7_42 (by decide) (pc' := 0) (by decide) ?_
    refine go_aloadN C d7_0 (pc' := 1) rfl rfl rfl ?_
    refine go_getfield C (wd hw 24 rfl) F_14 d7_1 (pc' := 4) rfl ?_
    refine go_if0 C (1 : Int) (by decide) d7_4 (by decide) (pc' := 45) (by decide) (pcN := 7) rfl (fun (c_17 : ¬ 0 < (1 : Int)) => by omega) (fun (c_17 : 0 < (1 : Int)) => ?_)
    refine go_lloadN C d7_7 (pc' := 8) rfl rfl ?_
    refine go_aloadN C d7_8 (pc' := 9) rfl rfl rfl ?_
    refine go_getfield C (wd hw 17 rfl) F_12 d7_9 (pc' := 12) rfl ?_
    refine go_aloadN C d7_12 (pc' := 13) rfl rfl rfl ?_
    refine go_getfield C (wd hw 30 rfl) F_13 d7_13 (pc' := 16) rfl ?_
    refine go_laload C A_16 1 (.long v1) (by decide) rfl d7_16 (pc' := 17) rfl ?_
    refine go_lsub C d7_17 (pc' := 18) rfl ?_
    refine go_lloadN C d7_18 (pc' := 19) rfl rfl ?_
    refine go_lcmp C ((ta - v1).toInt) win.toInt rfl rfl d7_19 (pc1 := 20) rfl d7_20 (by decide) (pc' := 45) (by decide) (pcN := 23) rfl (fun (c_18 : ((ta - v1).toInt) < win.toInt) => ?_) (fun (c_18 : ¬ ((ta - v1).toInt) < win.toInt) => ?_)
    · skip
      refine go_return C rfl d7_45 (by decide) (by decide) ?_
      exact ⟨rfl, Or.inr (Or.inl ⟨⟨c_2, c_18⟩, E_15, F_12, F_13, F_14, A_16⟩)⟩
    · skip
      refine go_aloadN C d7_23 (pc' := 24) rfl rfl rfl ?_
      refine go_aloadN C d7_24 (pc' := 25) rfl rfl rfl ?_
      refine go_iconst C (1 : Int32) d7_25 (pc' := 26) rfl (by decide) ?_
      refine go_privateP C (as := [.int (1 : Int32)]) (rest := [.ref a]) (W := 1) (.int (0 : Int32)) (sat_slot l Z a0 hw a r (2 : Int32) (1 : Int32) (1 : Int32) (0 : Int32) _ _ _ F_12 F_13 A_16 rfl (by decide)) E_15 (wd hw 26 rfl) (wd hw 28 rfl) (own_selects_private (wd hw 3 rfl) (wd hw 28 rfl) (wd hw 27 rfl) (by decide)) (wd hw 27 rfl) (wd hw 4 rfl) (wd hw 29 rfl) (by decide) pd_4 rfl rfl rfl (by decide) (by decide) rfl rfl (by decide) (by decide) d7_26 (pc' := 29) rfl rfl ?_
      refine go_putfield C (wd hw 30 rfl) F_13 E_15 (Or.inl (wd hw 31 rfl)) (wd hw 3 rfl) (ty := .int) (by decide) rfl rfl ga d7_29 (pc' := 32) rfl ?_
      intro h_19 W_20
      have F_21 := Fld.other W_20 F_12 (Or.inr (slot_ne (a0 := a0) (Or.inl (wd hw 18 rfl)) (Or.inl (wd hw 31 rfl)) (by decide) (t := (.array .long)) (t' := .int) (by decide) (by decide)))
      have F_22 := Fld.same W_20 F_13
      have F_23 := Fld.other W_20 F_14 (Or.inr (slot_ne (a0 := a0) (Or.inl (wd hw 25 rfl)) (Or.inl (wd hw 31 rfl)) (by decide) (t := .int) (t' := .int) (by decide) (by decide)))
      have E_24 := Exa.wr W_20 E_15
      have A_25 := Av.other A_16 W_20 (Ne.symm (own_ne_arr E_15 (wd hw 3 rfl) A_16))
      refine go_aloadN C d7_32 (pc' := 33) rfl rfl rfl ?_
      refine go_dup C d7_33 (pc' := 34) rfl rfl ?_
      refine go_getfield C (wd hw 24 rfl) F_23 d7_34 (pc' := 37) rfl ?_
      refine go_iconst C (1 : Int32) d7_37 (pc' := 38) rfl (by decide) ?_
      refine go_isub C d7_38 (pc' := 39) rfl ?_
      rw [(by decide : (1 : Int32) - (1 : Int32) = (0 : Int32))]
      refine go_putfield C (wd hw 24 rfl) F_23 E_24 (Or.inl (wd hw 25 rfl)) (wd hw 3 rfl) (ty := .int) (by decide) rfl rfl ga d7_39 (pc' := 42) rfl ?_
      intro h_26 W_27
      have F_28 := Fld.other W_27 F_21 (Or.inr (slot_ne (a0 := a0) (Or.inl (wd hw 18 rfl)) (Or.inl (wd hw 25 rfl)) (by decide) (t := (.array .long)) (t' := .int) (by decide) (by decide)))
      have F_29 := Fld.other W_27 F_22 (Or.inr (slot_ne (a0 := a0) (Or.inl (wd hw 31 rfl)) (Or.inl (wd hw 25 rfl)) (by decide) (t := .int) (t' := .int) (by decide) (by decide)))
      have F_30 := Fld.same W_27 F_23
      have E_31 := Exa.wr W_27 E_24
      have A_32 := Av.other A_25 W_27 (Ne.symm (own_ne_arr E_24 (wd hw 3 rfl) A_25))
      refine go_goto C d7_42 (by decide) (pc' := 0) (by decide) ?_
      refine go_aloadN C d7_0 (pc' := 1) rfl rfl rfl ?_
      refine go_getfield C (wd hw 24 rfl) F_30 d7_1 (pc' := 4) rfl ?_
      refine go_if0 C (0 : Int) (by decide) d7_4 (by decide) (pc' := 45) (by decide) (pcN := 7) rfl (fun (c_33 : ¬ 0 < (0 : Int)) => ?_) (fun (c_33 : 0 < (0 : Int)) => by omega)
      refine go_return C rfl d7_45 (by decide) (by decide) ?_
      exact ⟨rfl, Or.inr (Or.inr (⟨⟨c_2, c_18⟩, E_31, F_28, F_29, F_30, A_32⟩))⟩
set_option maxRecDepth 65536 in
set_option maxHeartbeats 40000000 in
theorem sat_drop_3_0_1 (l : Launch) (Z : State) (a0 : Array Value) (hw : ∀ d ∈ tables_1, d.before a0 Z = true) (a r : Addr) (v0 v1 v2 : Int64) (ta win : Int64) (h0 : Heap) (n0 : Nat) (E1 : Exa Z h0 a "com/example/throttld/throttld/SlidingLog$Log") (F1 : Fld Z h0 a "com/example/throttld/throttld/SlidingLog$Log" "ring" "[J" (.ref r)) (F2 : Fld Z h0 a "com/example/throttld/throttld/SlidingLog$Log" "head" "I" (.int (0 : Int32))) (F3 : Fld Z h0 a "com/example/throttld/throttld/SlidingLog$Log" "count" "I" (.int (1 : Int32))) (A1 : Av Z h0 r .long [.long v0, .long v1, .long v2]) (ga : n0 ≤ a) (gr : n0 ≤ r) :
    Sat l Z (⟨"com/example/throttld/throttld/SlidingLog$Log", "dropAgedOut", "(JJ)V"⟩ : MethodName) prog_32_method_5_code 5 none ({ frames := 1, cells := 0, slots := 0, locals := 15 } : Room) [.ref a, .long ta, .long win] h0 n0 (RN fun h => (((ta - v0).toInt < win.toInt) ∧ Exa Z h a "com/example/throttld/throttld/SlidingLog$Log" ∧ Fld Z h a "com/example/throttld/throttld/SlidingLog$Log" "ring" "[J" (.ref r) ∧ Fld Z h a "com/example/throttld/throttld/SlidingLog$Log" "head" "I" (.int (0 : Int32)) ∧ Fld Z h a "com/example/throttld/throttld/SlidingLog$Log" "count" "I" (.int (1 : Int32)) ∧ Av Z h r .long [.long v0, .long v1, .long v2]) ∨ ((¬ (ta - v0).toInt < win.toInt) ∧ Exa Z h a "com/example/throttld/throttld/SlidingLog$Log" ∧ Fld Z h a "com/example/throttld/throttld/SlidingLog$Log" "ring" "[J" (.ref r) ∧ Fld Z h a "com/example/throttld/throttld/SlidingLog$Log" "head" "I" (.int (1 : Int32)) ∧ Fld Z h a "com/example/throttld/throttld/SlidingLog$Log" "count" "I" (.int (0 : Int32)) ∧ Av Z h r .long [.long v0, .long v1, .long v2])) := by
  refine sat_of (own := "com/example/throttld/throttld/SlidingLog$Log") (nm := "dropAgedOut") rfl rfl (plainFor_of_name pn_1) #[.val (.ref a), .val (.long ta), .second, .val (.long win), .second] (fun m => by first | (simp [entryFrame, mkF, argsToLocals, Value.category, maxLocals]; done) | rfl) ?_
  intro p e s m below meth c C
  refine go_aloadN C d7_0 (pc' := 1) rfl rfl rfl ?_
  refine go_getfield C (wd hw 24 rfl) F3 d7_1 (pc' := 4) rfl ?_
  refine go_if0 C (1 : Int) (by decide) d7_4 (by decide) (pc' := 45) (by decide) (pcN := 7) rfl (fun (c_1 : ¬ 0 < (1 : Int)) => by omega) (fun (c_1 : 0 < (1 : Int)) => ?_)
  refine go_lloadN C d7_7 (pc' := 8) rfl rfl ?_
  refine go_aloadN C d7_8 (pc' := 9) rfl rfl rfl ?_
  refine go_getfield C (wd hw 17 rfl) F1 d7_9 (pc' := 12) rfl ?_
  refine go_aloadN C d7_12 (pc' := 13) rfl rfl rfl ?_
  refine go_getfield C (wd hw 30 rfl) F2 d7_13 (pc' := 16) rfl ?_
  refine go_laload C A1 0 (.long v0) (by decide) rfl d7_16 (pc' := 17) rfl ?_
  refine go_lsub C d7_17 (pc' := 18) rfl ?_
  refine go_lloadN C d7_18 (pc' := 19) rfl rfl ?_
  refine go_lcmp C ((ta - v0).toInt) win.toInt rfl rfl d7_19 (pc1 := 20) rfl d7_20 (by decide) (pc' := 45) (by decide) (pcN := 23) rfl (fun (c_2 : ((ta - v0).toInt) < win.toInt) => ?_) (fun (c_2 : ¬ ((ta - v0).toInt) < win.toInt) => ?_)
  · skip
    refine go_return C rfl d7_45 (by decide) (by decide) ?_
    exact ⟨rfl, Or.inl ⟨c_2, E1, F1, F2, F3, A1⟩⟩
  · skip
    refine go_aloadN C d7_23 (pc' := 24) rfl rfl rfl ?_
    refine go_aloadN C d7_24 (pc' := 25) rfl rfl rfl ?_
    refine go_iconst C (1 : Int32) d7_25 (pc' := 26) rfl (by decide) ?_
    refine go_privateP C (as := [.int (1 : Int32)]) (rest := [.ref a]) (W := 1) (.int (1 : Int32)) (sat_slot l Z a0 hw a r (3 : Int32) (0 : Int32) (1 : Int32) (1 : Int32) _ _ _ F1 F2 A1 rfl (by decide)) E1 (wd hw 26 rfl) (wd hw 28 rfl) (own_selects_private (wd hw 3 rfl) (wd hw 28 rfl) (wd hw 27 rfl) (by decide)) (wd hw 27 rfl) (wd hw 4 rfl) (wd hw 29 rfl) (by decide) pd_4 rfl rfl rfl (by decide) (by decide) rfl rfl (by decide) (by decide) d7_26 (pc' := 29) rfl rfl ?_
    refine go_putfield C (wd hw 30 rfl) F2 E1 (Or.inl (wd hw 31 rfl)) (wd hw 3 rfl) (ty := .int) (by decide) rfl rfl ga d7_29 (pc' := 32) rfl ?_
    intro h_3 W_4
    have F_5 := Fld.other W_4 F1 (Or.inr (slot_ne (a0 := a0) (Or.inl (wd hw 18 rfl)) (Or.inl (wd hw 31 rfl)) (by decide) (t := (.array .long)) (t' := .int) (by decide) (by decide)))
    have F_6 := Fld.same W_4 F2
    have F_7 := Fld.other W_4 F3 (Or.inr (slot_ne (a0 := a0) (Or.inl (wd hw 25 rfl)) (Or.inl (wd hw 31 rfl)) (by decide) (t := .int) (t' := .int) (by decide) (by decide)))
    have E_8 := Exa.wr W_4 E1
    have A_9 := Av.other A1 W_4 (Ne.symm (own_ne_arr E1 (wd hw 3 rfl) A1))
    refine go_aloadN C d7_32 (pc' := 33) rfl rfl rfl ?_
    refine go_dup C d7_33 (pc' := 34) rfl rfl ?_
    refine go_getfield C (wd hw 24 rfl) F_7 d7_34 (pc' := 37) rfl ?_
    refine go_iconst C (1 : Int32) d7_37 (pc' := 38) rfl (by decide) ?_
    refine go_isub C d7_38 (pc' := 39) rfl ?_
    rw [(by decide : (1 : Int32) - (1 : Int32) = (0 : Int32))]
    refine go_putfield C (wd hw 24 rfl) F_7 E_8 (Or.inl (wd hw 25 rfl)) (wd hw 3 rfl) (ty := .int) (by decide) rfl rfl ga d7_39 (pc' := 42) rfl ?_
    intro h_10 W_11
    have F_12 := Fld.other W_11 F_5 (Or.inr (slot_ne (a0 := a0) (Or.inl (wd hw 18 rfl)) (Or.inl (wd hw 25 rfl)) (by decide) (t := (.array .long)) (t' := .int) (by decide) (by decide)))
    have F_13 := Fld.other W_11 F_6 (Or.inr (slot_ne (a0 := a0) (Or.inl (wd hw 31 rfl)) (Or.inl (wd hw 25 rfl)) (by decide) (t := .int) (t' := .int) (by decide) (by decide)))
    have F_14 := Fld.same W_11 F_7
    have E_15 := Exa.wr W_11 E_8
    have A_16 := Av.other A_9 W_11 (Ne.symm (own_ne_arr E_8 (wd hw 3 rfl) A_9))
    refine go_goto C d7_42 (by decide) (pc' := 0) (by decide) ?_
    refine go_aloadN C d7_0 (pc' := 1) rfl rfl rfl ?_
    refine go_getfield C (wd hw 24 rfl) F_14 d7_1 (pc' := 4) rfl ?_
    refine go_if0 C (0 : Int) (by decide) d7_4 (by decide) (pc' := 45) (by decide) (pcN := 7) rfl (fun (c_17 : ¬ 0 < (0 : Int)) => ?_) (fun (c_17 : 0 < (0 : Int)) => by omega)
    refine go_return C rfl d7_45 (by decide) (by decide) ?_
    exact ⟨rfl, Or.inr (⟨c_2, E_15, F_12, F_13, F_14, A_16⟩)⟩
set_option maxRecDepth 65536 in
set_option maxHeartbeats 40000000 in
theorem sat_drop_3_0_2 (l : Launch) (Z : State) (a0 : Array Value) (hw : ∀ d ∈ tables_1, d.before a0 Z = true) (a r : Addr) (v0 v1 v2 : Int64) (ta win : Int64) (h0 : Heap) (n0 : Nat) (E1 : Exa Z h0 a "com/example/throttld/throttld/SlidingLog$Log") (F1 : Fld Z h0 a "com/example/throttld/throttld/SlidingLog$Log" "ring" "[J" (.ref r)) (F2 : Fld Z h0 a "com/example/throttld/throttld/SlidingLog$Log" "head" "I" (.int (0 : Int32))) (F3 : Fld Z h0 a "com/example/throttld/throttld/SlidingLog$Log" "count" "I" (.int (2 : Int32))) (A1 : Av Z h0 r .long [.long v0, .long v1, .long v2]) (ga : n0 ≤ a) (gr : n0 ≤ r) :
    Sat l Z (⟨"com/example/throttld/throttld/SlidingLog$Log", "dropAgedOut", "(JJ)V"⟩ : MethodName) prog_32_method_5_code 5 none ({ frames := 1, cells := 0, slots := 0, locals := 15 } : Room) [.ref a, .long ta, .long win] h0 n0 (RN fun h => (((ta - v0).toInt < win.toInt) ∧ Exa Z h a "com/example/throttld/throttld/SlidingLog$Log" ∧ Fld Z h a "com/example/throttld/throttld/SlidingLog$Log" "ring" "[J" (.ref r) ∧ Fld Z h a "com/example/throttld/throttld/SlidingLog$Log" "head" "I" (.int (0 : Int32)) ∧ Fld Z h a "com/example/throttld/throttld/SlidingLog$Log" "count" "I" (.int (2 : Int32)) ∧ Av Z h r .long [.long v0, .long v1, .long v2]) ∨ ((¬ (ta - v0).toInt < win.toInt ∧ (ta - v1).toInt < win.toInt) ∧ Exa Z h a "com/example/throttld/throttld/SlidingLog$Log" ∧ Fld Z h a "com/example/throttld/throttld/SlidingLog$Log" "ring" "[J" (.ref r) ∧ Fld Z h a "com/example/throttld/throttld/SlidingLog$Log" "head" "I" (.int (1 : Int32)) ∧ Fld Z h a "com/example/throttld/throttld/SlidingLog$Log" "count" "I" (.int (1 : Int32)) ∧ Av Z h r .long [.long v0, .long v1, .long v2]) ∨ ((¬ (ta - v0).toInt < win.toInt ∧ ¬ (ta - v1).toInt < win.toInt) ∧ Exa Z h a "com/example/throttld/throttld/SlidingLog$Log" ∧ Fld Z h a "com/example/throttld/throttld/SlidingLog$Log" "ring" "[J" (.ref r) ∧ Fld Z h a "com/example/throttld/throttld/SlidingLog$Log" "head" "I" (.int (2 : Int32)) ∧ Fld Z h a "com/example/throttld/throttld/SlidingLog$Log" "count" "I" (.int (0 : Int32)) ∧ Av Z h r .long [.long v0, .long v1, .long v2])) := by
  refine sat_of (own := "com/example/throttld/throttld/SlidingLog$Log") (nm := "dropAgedOut") rfl rfl (plainFor_of_name pn_1) #[.val (.ref a), .val (.long ta), .second, .val (.long win), .second] (fun m => by first | (simp [entryFrame, mkF, argsToLocals, Value.category, maxLocals]; done) | rfl) ?_
  intro p e s m below meth c C
  refine go_aloadN C d7_0 (pc' := 1) rfl rfl rfl ?_
  refine go_getfield C (wd hw 24 rfl) F3 d7_1 (pc' := 4) rfl ?_
  refine go_if0 C (2 : Int) (by decide) d7_4 (by decide) (pc' := 45) (by decide) (pcN := 7) rfl (fun (c_1 : ¬ 0 < (2 : Int)) => by omega) (fun (c_1 : 0 < (2 : Int)) => ?_)
  refine go_lloadN C d7_7 (pc' := 8) rfl rfl ?_
  refine go_aloadN C d7_8 (pc' := 9) rfl rfl rfl ?_
  refine go_getfield C (wd hw 17 rfl) F1 d7_9 (pc' := 12) rfl ?_
  refine go_aloadN C d7_12 (pc' := 13) rfl rfl rfl ?_
  refine go_getfield C (wd hw 30 rfl) F2 d7_13 (pc' := 16) rfl ?_
  refine go_laload C A1 0 (.long v0) (by decide) rfl d7_16 (pc' := 17) rfl ?_
  refine go_lsub C d7_17 (pc' := 18) rfl ?_
  refine go_lloadN C d7_18 (pc' := 19) rfl rfl ?_
  refine go_lcmp C ((ta - v0).toInt) win.toInt rfl rfl d7_19 (pc1 := 20) rfl d7_20 (by decide) (pc' := 45) (by decide) (pcN := 23) rfl (fun (c_2 : ((ta - v0).toInt) < win.toInt) => ?_) (fun (c_2 : ¬ ((ta - v0).toInt) < win.toInt) => ?_)
  · skip
    refine go_return C rfl d7_45 (by decide) (by decide) ?_
    exact ⟨rfl, Or.inl ⟨c_2, E1, F1, F2, F3, A1⟩⟩
  · skip
    refine go_aloadN C d7_23 (pc' := 24) rfl rfl rfl ?_
    refine go_aloadN C d7_24 (pc' := 25) rfl rfl rfl ?_
    refine go_iconst C (1 : Int32) d7_25 (pc' := 26) rfl (by decide) ?_
    refine go_privateP C (as := [.int (1 : Int32)]) (rest := [.ref a]) (W := 1) (.int (1 : Int32)) (sat_slot l Z a0 hw a r (3 : Int32) (0 : Int32) (1 : Int32) (1 : Int32) _ _ _ F1 F2 A1 rfl (by decide)) E1 (wd hw 26 rfl) (wd hw 28 rfl) (own_selects_private (wd hw 3 rfl) (wd hw 28 rfl) (wd hw 27 rfl) (by decide)) (wd hw 27 rfl) (wd hw 4 rfl) (wd hw 29 rfl) (by decide) pd_4 rfl rfl rfl (by decide) (by decide) rfl rfl (by decide) (by decide) d7_26 (pc' := 29) rfl rfl ?_
    refine go_putfield C (wd hw 30 rfl) F2 E1 (Or.inl (wd hw 31 rfl)) (wd hw 3 rfl) (ty := .int) (by decide) rfl rfl ga d7_29 (pc' := 32) rfl ?_
    intro h_3 W_4
    have F_5 := Fld.other W_4 F1 (Or.inr (slot_ne (a0 := a0) (Or.inl (wd hw 18 rfl)) (Or.inl (wd hw 31 rfl)) (by decide) (t := (.array .long)) (t' := .int) (by decide) (by decide)))
    have F_6 := Fld.same W_4 F2
    have F_7 := Fld.other W_4 F3 (Or.inr (slot_ne (a0 := a0) (Or.inl (wd hw 25 rfl)) (Or.inl (wd hw 31 rfl)) (by decide) (t := .int) (t' := .int) (by decide) (by decide)))
    have E_8 := Exa.wr W_4 E1
    have A_9 := Av.other A1 W_4 (Ne.symm (own_ne_arr E1 (wd hw 3 rfl) A1))
    refine go_aloadN C d7_32 (pc' := 33) rfl rfl rfl ?_
    refine go_dup C d7_33 (pc' := 34) rfl rfl ?_
    refine go_getfield C (wd hw 24 rfl) F_7 d7_34 (pc' := 37) rfl ?_
    refine go_iconst C (1 : Int32) d7_37 (pc' := 38) rfl (by decide) ?_
    refine go_isub C d7_38 (pc' := 39) rfl ?_
    rw [(by decide : (2 : Int32) - (1 : Int32) = (1 : Int32))]
    refine go_putfield C (wd hw 24 rfl) F_7 E_8 (Or.inl (wd hw 25 rfl)) (wd hw 3 rfl) (ty := .int) (by decide) rfl rfl ga d7_39 (pc' := 42) rfl ?_
    intro h_10 W_11
    have F_12 := Fld.other W_11 F_5 (Or.inr (slot_ne (a0 := a0) (Or.inl (wd hw 18 rfl)) (Or.inl (wd hw 25 rfl)) (by decide) (t := (.array .long)) (t' := .int) (by decide) (by decide)))
    have F_13 := Fld.other W_11 F_6 (Or.inr (slot_ne (a0 := a0) (Or.inl (wd hw 31 rfl)) (Or.inl (wd hw 25 rfl)) (by decide) (t := .int) (t' := .int) (by decide) (by decide)))
    have F_14 := Fld.same W_11 F_7
    have E_15 := Exa.wr W_11 E_8
    have A_16 := Av.other A_9 W_11 (Ne.symm (own_ne_arr E_8 (wd hw 3 rfl) A_9))
    refine go_goto C d7_42 (by decide) (pc' := 0) (by decide) ?_
    refine go_aloadN C d7_0 (pc' := 1) rfl rfl rfl ?_
    refine go_getfield C (wd hw 24 rfl) F_14 d7_1 (pc' := 4) rfl ?_
    refine go_if0 C (1 : Int) (by decide) d7_4 (by decide) (pc' := 45) (by decide) (pcN := 7) rfl (fun (c_17 : ¬ 0 < (1 : Int)) => by omega) (fun (c_17 : 0 < (1 : Int)) => ?_)
    refine go_lloadN C d7_7 (pc' := 8) rfl rfl ?_
    refine go_aloadN C d7_8 (pc' := 9) rfl rfl rfl ?_
    refine go_getfield C (wd hw 17 rfl) F_12 d7_9 (pc' := 12) rfl ?_
    refine go_aloadN C d7_12 (pc' := 13) rfl rfl rfl ?_
    refine go_getfield C (wd hw 30 rfl) F_13 d7_13 (pc' := 16) rfl ?_
    refine go_laload C A_16 1 (.long v1) (by decide) rfl d7_16 (pc' := 17) rfl ?_
    refine go_lsub C d7_17 (pc' := 18) rfl ?_
    refine go_lloadN C d7_18 (pc' := 19) rfl rfl ?_
    refine go_lcmp C ((ta - v1).toInt) win.toInt rfl rfl d7_19 (pc1 := 20) rfl d7_20 (by decide) (pc' := 45) (by decide) (pcN := 23) rfl (fun (c_18 : ((ta - v1).toInt) < win.toInt) => ?_) (fun (c_18 : ¬ ((ta - v1).toInt) < win.toInt) => ?_)
    · skip
      refine go_return C rfl d7_45 (by decide) (by decide) ?_
      exact ⟨rfl, Or.inr (Or.inl ⟨⟨c_2, c_18⟩, E_15, F_12, F_13, F_14, A_16⟩)⟩
    · skip
      refine go_aloadN C d7_23 (pc' := 24) rfl rfl rfl ?_
      refine go_aloadN C d7_24 (pc' := 25) rfl rfl rfl ?_
      refine go_iconst C (1 : Int32) d7_25 (pc' := 26) rfl (by decide) ?_
      refine go_privateP C (as := [.int (1 : Int32)]) (rest := [.ref a]) (W := 1) (.int (2 : Int32)) (sat_slot l Z a0 hw a r (3 : Int32) (1 : Int32) (1 : Int32) (2 : Int32) _ _ _ F_12 F_13 A_16 rfl (by decide)) E_15 (wd hw 26 rfl) (wd hw 28 rfl) (own_selects_private (wd hw 3 rfl) (wd hw 28 rfl) (wd hw 27 rfl) (by decide)) (wd hw 27 rfl) (wd hw 4 rfl) (wd hw 29 rfl) (by decide) pd_4 rfl rfl rfl (by decide) (by decide) rfl rfl (by decide) (by decide) d7_26 (pc' := 29) rfl rfl ?_
      refine go_putfield C (wd hw 30 rfl) F_13 E_15 (Or.inl (wd hw 31 rfl)) (wd hw 3 rfl) (ty := .int) (by decide) rfl rfl ga d7_29 (pc' := 32) rfl ?_
      intro h_19 W_20
      have F_21 := Fld.other W_20 F_12 (Or.inr (slot_ne (a0 := a0) (Or.inl (wd hw 18 rfl)) (Or.inl (wd hw 31 rfl)) (by decide) (t := (.array .long)) (t' := .int) (by decide) (by decide)))
      have F_22 := Fld.same W_20 F_13
      have F_23 := Fld.other W_20 F_14 (Or.inr (slot_ne (a0 := a0) (Or.inl (wd hw 25 rfl)) (Or.inl (wd hw 31 rfl)) (by decide) (t := .int) (t' := .int) (by decide) (by decide)))
      have E_24 := Exa.wr W_20 E_15
      have A_25 := Av.other A_16 W_20 (Ne.symm (own_ne_arr E_15 (wd hw 3 rfl) A_16))
      refine go_aloadN C d7_32 (pc' := 33) rfl rfl rfl ?_
      refine go_dup C d7_33 (pc' := 34) rfl rfl ?_
      refine go_getfield C (wd hw 24 rfl) F_23 d7_34 (pc' := 37) rfl ?_
      refine go_iconst C (1 : Int32) d7_37 (pc' := 38) rfl (by decide) ?_
      refine go_isub C d7_38 (pc' := 39) rfl ?_
      rw [(by decide : (1 : Int32) - (1 : Int32) = (0 : Int32))]
      refine go_putfield C (wd hw 24 rfl) F_23 E_24 (Or.inl (wd hw 25 rfl)) (wd hw 3 rfl) (ty := .int) (by decide) rfl rfl ga d7_39 (pc' := 42) rfl ?_
      intro h_26 W_27
      have F_28 := Fld.other W_27 F_21 (Or.inr (slot_ne (a0 := a0) (Or.inl (wd hw 18 rfl)) (Or.inl (wd hw 25 rfl)) (by decide) (t := (.array .long)) (t' := .int) (by decide) (by decide)))
      have F_29 := Fld.other W_27 F_22 (Or.inr (slot_ne (a0 := a0) (Or.inl (wd hw 31 rfl)) (Or.inl (wd hw 25 rfl)) (by decide) (t := .int) (t' := .int) (by decide) (by decide)))
      have F_30 := Fld.same W_27 F_23
      have E_31 := Exa.wr W_27 E_24
      have A_32 := Av.other A_25 W_27 (Ne.symm (own_ne_arr E_24 (wd hw 3 rfl) A_25))
      refine go_goto C d7_42 (by decide) (pc' := 0) (by decide) ?_
      refine go_aloadN C d7_0 (pc' := 1) rfl rfl rfl ?_
      refine go_getfield C (wd hw 24 rfl) F_30 d7_1 (pc' := 4) rfl ?_
      refine go_if0 C (0 : Int) (by decide) d7_4 (by decide) (pc' := 45) (by decide) (pcN := 7) rfl (fun (c_33 : ¬ 0 < (0 : Int)) => ?_) (fun (c_33 : 0 < (0 : Int)) => by omega)
      refine go_return C rfl d7_45 (by decide) (by decide) ?_
      exact ⟨rfl, Or.inr (Or.inr (⟨⟨c_2, c_18⟩, E_31, F_28, F_29, F_30, A_32⟩))⟩
set_option maxRecDepth 65536 in
set_option maxHeartbeats 40000000 in
theorem sat_drop_4_0_1 (l : Launch) (Z : State) (a0 : Array Value) (hw : ∀ d ∈ tables_1, d.before a0 Z = true) (a r : Addr) (v0 v1 v2 v3 : Int64) (ta win : Int64) (h0 : Heap) (n0 : Nat) (E1 : Exa Z h0 a "com/example/throttld/throttld/SlidingLog$Log") (F1 : Fld Z h0 a "com/example/throttld/throttld/SlidingLog$Log" "ring" "[J" (.ref r)) (F2 : Fld Z h0 a "com/example/throttld/throttld/SlidingLog$Log" "head" "I" (.int (0 : Int32))) (F3 : Fld Z h0 a "com/example/throttld/throttld/SlidingLog$Log" "count" "I" (.int (1 : Int32))) (A1 : Av Z h0 r .long [.long v0, .long v1, .long v2, .long v3]) (ga : n0 ≤ a) (gr : n0 ≤ r) :
    Sat l Z (⟨"com/example/throttld/throttld/SlidingLog$Log", "dropAgedOut", "(JJ)V"⟩ : MethodName) prog_32_method_5_code 5 none ({ frames := 1, cells := 0, slots := 0, locals := 15 } : Room) [.ref a, .long ta, .long win] h0 n0 (RN fun h => (((ta - v0).toInt < win.toInt) ∧ Exa Z h a "com/example/throttld/throttld/SlidingLog$Log" ∧ Fld Z h a "com/example/throttld/throttld/SlidingLog$Log" "ring" "[J" (.ref r) ∧ Fld Z h a "com/example/throttld/throttld/SlidingLog$Log" "head" "I" (.int (0 : Int32)) ∧ Fld Z h a "com/example/throttld/throttld/SlidingLog$Log" "count" "I" (.int (1 : Int32)) ∧ Av Z h r .long [.long v0, .long v1, .long v2, .long v3]) ∨ ((¬ (ta - v0).toInt < win.toInt) ∧ Exa Z h a "com/example/throttld/throttld/SlidingLog$Log" ∧ Fld Z h a "com/example/throttld/throttld/SlidingLog$Log" "ring" "[J" (.ref r) ∧ Fld Z h a "com/example/throttld/throttld/SlidingLog$Log" "head" "I" (.int (1 : Int32)) ∧ Fld Z h a "com/example/throttld/throttld/SlidingLog$Log" "count" "I" (.int (0 : Int32)) ∧ Av Z h r .long [.long v0, .long v1, .long v2, .long v3])) := by
  refine sat_of (own := "com/example/throttld/throttld/SlidingLog$Log") (nm := "dropAgedOut") rfl rfl (plainFor_of_name pn_1) #[.val (.ref a), .val (.long ta), .second, .val (.long win), .second] (fun m => by first | (simp [entryFrame, mkF, argsToLocals, Value.category, maxLocals]; done) | rfl) ?_
  intro p e s m below meth c C
  refine go_aloadN C d7_0 (pc' := 1) rfl rfl rfl ?_
  refine go_getfield C (wd hw 24 rfl) F3 d7_1 (pc' := 4) rfl ?_
  refine go_if0 C (1 : Int) (by decide) d7_4 (by decide) (pc' := 45) (by decide) (pcN := 7) rfl (fun (c_1 : ¬ 0 < (1 : Int)) => by omega) (fun (c_1 : 0 < (1 : Int)) => ?_)
  refine go_lloadN C d7_7 (pc' := 8) rfl rfl ?_
  refine go_aloadN C d7_8 (pc' := 9) rfl rfl rfl ?_
  refine go_getfield C (wd hw 17 rfl) F1 d7_9 (pc' := 12) rfl ?_
  refine go_aloadN C d7_12 (pc' := 13) rfl rfl rfl ?_
  refine go_getfield C (wd hw 30 rfl) F2 d7_13 (pc' := 16) rfl ?_
  refine go_laload C A1 0 (.long v0) (by decide) rfl d7_16 (pc' := 17) rfl ?_
  refine go_lsub C d7_17 (pc' := 18) rfl ?_
  refine go_lloadN C d7_18 (pc' := 19) rfl rfl ?_
  refine go_lcmp C ((ta - v0).toInt) win.toInt rfl rfl d7_19 (pc1 := 20) rfl d7_20 (by decide) (pc' := 45) (by decide) (pcN := 23) rfl (fun (c_2 : ((ta - v0).toInt) < win.toInt) => ?_) (fun (c_2 : ¬ ((ta - v0).toInt) < win.toInt) => ?_)
  · skip
    refine go_return C rfl d7_45 (by decide) (by decide) ?_
    exact ⟨rfl, Or.inl ⟨c_2, E1, F1, F2, F3, A1⟩⟩
  · skip
    refine go_aloadN C d7_23 (pc' := 24) rfl rfl rfl ?_
    refine go_aloadN C d7_24 (pc' := 25) rfl rfl rfl ?_
    refine go_iconst C (1 : Int32) d7_25 (pc' := 26) rfl (by decide) ?_
    refine go_privateP C (as := [.int (1 : Int32)]) (rest := [.ref a]) (W := 1) (.int (1 : Int32)) (sat_slot l Z a0 hw a r (4 : Int32) (0 : Int32) (1 : Int32) (1 : Int32) _ _ _ F1 F2 A1 rfl (by decide)) E1 (wd hw 26 rfl) (wd hw 28 rfl) (own_selects_private (wd hw 3 rfl) (wd hw 28 rfl) (wd hw 27 rfl) (by decide)) (wd hw 27 rfl) (wd hw 4 rfl) (wd hw 29 rfl) (by decide) pd_4 rfl rfl rfl (by decide) (by decide) rfl rfl (by decide) (by decide) d7_26 (pc' := 29) rfl rfl ?_
    refine go_putfield C (wd hw 30 rfl) F2 E1 (Or.inl (wd hw 31 rfl)) (wd hw 3 rfl) (ty := .int) (by decide) rfl rfl ga d7_29 (pc' := 32) rfl ?_
    intro h_3 W_4
    have F_5 := Fld.other W_4 F1 (Or.inr (slot_ne (a0 := a0) (Or.inl (wd hw 18 rfl)) (Or.inl (wd hw 31 rfl)) (by decide) (t := (.array .long)) (t' := .int) (by decide) (by decide)))
    have F_6 := Fld.same W_4 F2
    have F_7 := Fld.other W_4 F3 (Or.inr (slot_ne (a0 := a0) (Or.inl (wd hw 25 rfl)) (Or.inl (wd hw 31 rfl)) (by decide) (t := .int) (t' := .int) (by decide) (by decide)))
    have E_8 := Exa.wr W_4 E1
    have A_9 := Av.other A1 W_4 (Ne.symm (own_ne_arr E1 (wd hw 3 rfl) A1))
    refine go_aloadN C d7_32 (pc' := 33) rfl rfl rfl ?_
    refine go_dup C d7_33 (pc' := 34) rfl rfl ?_
    refine go_getfield C (wd hw 24 rfl) F_7 d7_34 (pc' := 37) rfl ?_
    refine go_iconst C (1 : Int32) d7_37 (pc' := 38) rfl (by decide) ?_
    refine go_isub C d7_38 (pc' := 39) rfl ?_
    rw [(by decide : (1 : Int32) - (1 : Int32) = (0 : Int32))]
    refine go_putfield C (wd hw 24 rfl) F_7 E_8 (Or.inl (wd hw 25 rfl)) (wd hw 3 rfl) (ty := .int) (by decide) rfl rfl ga d7_39 (pc' := 42) rfl ?_
    intro h_10 W_11
    have F_12 := Fld.other W_11 F_5 (Or.inr (slot_ne (a0 := a0) (Or.inl (wd hw 18 rfl)) (Or.inl (wd hw 25 rfl)) (by decide) (t := (.array .long)) (t' := .int) (by decide) (by decide)))
    have F_13 := Fld.other W_11 F_6 (Or.inr (slot_ne (a0 := a0) (Or.inl (wd hw 31 rfl)) (Or.inl (wd hw 25 rfl)) (by decide) (t := .int) (t' := .int) (by decide) (by decide)))
    have F_14 := Fld.same W_11 F_7
    have E_15 := Exa.wr W_11 E_8
    have A_16 := Av.other A_9 W_11 (Ne.symm (own_ne_arr E_8 (wd hw 3 rfl) A_9))
    refine go_goto C d7_42 (by decide) (pc' := 0) (by decide) ?_
    refine go_aloadN C d7_0 (pc' := 1) rfl rfl rfl ?_
    refine go_getfield C (wd hw 24 rfl) F_14 d7_1 (pc' := 4) rfl ?_
    refine go_if0 C (0 : Int) (by decide) d7_4 (by decide) (pc' := 45) (by decide) (pcN := 7) rfl (fun (c_17 : ¬ 0 < (0 : Int)) => ?_) (fun (c_17 : 0 < (0 : Int)) => by omega)
    refine go_return C rfl d7_45 (by decide) (by decide) ?_
    exact ⟨rfl, Or.inr (⟨c_2, E_15, F_12, F_13, F_14, A_16⟩)⟩
set_option maxRecDepth 65536 in
set_option maxHeartbeats 40000000 in
theorem sat_drop_4_0_2 (l : Launch) (Z : State) (a0 : Array Value) (hw : ∀ d ∈ tables_1, d.before a0 Z = true) (a r : Addr) (v0 v1 v2 v3 : Int64) (ta win : Int64) (h0 : Heap) (n0 : Nat) (E1 : Exa Z h0 a "com/example/throttld/throttld/SlidingLog$Log") (F1 : Fld Z h0 a "com/example/throttld/throttld/SlidingLog$Log" "ring" "[J" (.ref r)) (F2 : Fld Z h0 a "com/example/throttld/throttld/SlidingLog$Log" "head" "I" (.int (0 : Int32))) (F3 : Fld Z h0 a "com/example/throttld/throttld/SlidingLog$Log" "count" "I" (.int (2 : Int32))) (A1 : Av Z h0 r .long [.long v0, .long v1, .long v2, .long v3]) (ga : n0 ≤ a) (gr : n0 ≤ r) :
    Sat l Z (⟨"com/example/throttld/throttld/SlidingLog$Log", "dropAgedOut", "(JJ)V"⟩ : MethodName) prog_32_method_5_code 5 none ({ frames := 1, cells := 0, slots := 0, locals := 15 } : Room) [.ref a, .long ta, .long win] h0 n0 (RN fun h => (((ta - v0).toInt < win.toInt) ∧ Exa Z h a "com/example/throttld/throttld/SlidingLog$Log" ∧ Fld Z h a "com/example/throttld/throttld/SlidingLog$Log" "ring" "[J" (.ref r) ∧ Fld Z h a "com/example/throttld/throttld/SlidingLog$Log" "head" "I" (.int (0 : Int32)) ∧ Fld Z h a "com/example/throttld/throttld/SlidingLog$Log" "count" "I" (.int (2 : Int32)) ∧ Av Z h r .long [.long v0, .long v1, .long v2, .long v3]) ∨ ((¬ (ta - v0).toInt < win.toInt ∧ (ta - v1).toInt < win.toInt) ∧ Exa Z h a "com/example/throttld/throttld/SlidingLog$Log" ∧ Fld Z h a "com/example/throttld/throttld/SlidingLog$Log" "ring" "[J" (.ref r) ∧ Fld Z h a "com/example/throttld/throttld/SlidingLog$Log" "head" "I" (.int (1 : Int32)) ∧ Fld Z h a "com/example/throttld/throttld/SlidingLog$Log" "count" "I" (.int (1 : Int32)) ∧ Av Z h r .long [.long v0, .long v1, .long v2, .long v3]) ∨ ((¬ (ta - v0).toInt < win.toInt ∧ ¬ (ta - v1).toInt < win.toInt) ∧ Exa Z h a "com/example/throttld/throttld/SlidingLog$Log" ∧ Fld Z h a "com/example/throttld/throttld/SlidingLog$Log" "ring" "[J" (.ref r) ∧ Fld Z h a "com/example/throttld/throttld/SlidingLog$Log" "head" "I" (.int (2 : Int32)) ∧ Fld Z h a "com/example/throttld/throttld/SlidingLog$Log" "count" "I" (.int (0 : Int32)) ∧ Av Z h r .long [.long v0, .long v1, .long v2, .long v3])) := by
  refine sat_of (own := "com/example/throttld/throttld/SlidingLog$Log") (nm := "dropAgedOut") rfl rfl (plainFor_of_name pn_1) #[.val (.ref a), .val (.long ta), .second, .val (.long win), .second] (fun m => by first | (simp [entryFrame, mkF, argsToLocals, Value.category, maxLocals]; done) | rfl) ?_
  intro p e s m below meth c C
  refine go_aloadN C d7_0 (pc' := 1) rfl rfl rfl ?_
  refine go_getfield C (wd hw 24 rfl) F3 d7_1 (pc' := 4) rfl ?_
  refine go_if0 C (2 : Int) (by decide) d7_4 (by decide) (pc' := 45) (by decide) (pcN := 7) rfl (fun (c_1 : ¬ 0 < (2 : Int)) => by omega) (fun (c_1 : 0 < (2 : Int)) => ?_)
  refine go_lloadN C d7_7 (pc' := 8) rfl rfl ?_
  refine go_aloadN C d7_8 (pc' := 9) rfl rfl rfl ?_
  refine go_getfield C (wd hw 17 rfl) F1 d7_9 (pc' := 12) rfl ?_
  refine go_aloadN C d7_12 (pc' := 13) rfl rfl rfl ?_
  refine go_getfield C (wd hw 30 rfl) F2 d7_13 (pc' := 16) rfl ?_
  refine go_laload C A1 0 (.long v0) (by decide) rfl d7_16 (pc' := 17) rfl ?_
  refine go_lsub C d7_17 (pc' := 18) rfl ?_
  refine go_lloadN C d7_18 (pc' := 19) rfl rfl ?_
  refine go_lcmp C ((ta - v0).toInt) win.toInt rfl rfl d7_19 (pc1 := 20) rfl d7_20 (by decide) (pc' := 45) (by decide) (pcN := 23) rfl (fun (c_2 : ((ta - v0).toInt) < win.toInt) => ?_) (fun (c_2 : ¬ ((ta - v0).toInt) < win.toInt) => ?_)
  · skip
    refine go_return C rfl d7_45 (by decide) (by decide) ?_
    exact ⟨rfl, Or.inl ⟨c_2, E1, F1, F2, F3, A1⟩⟩
  · skip
    refine go_aloadN C d7_23 (pc' := 24) rfl rfl rfl ?_
    refine go_aloadN C d7_24 (pc' := 25) rfl rfl rfl ?_
    refine go_iconst C (1 : Int32) d7_25 (pc' := 26) rfl (by decide) ?_
    refine go_privateP C (as := [.int (1 : Int32)]) (rest := [.ref a]) (W := 1) (.int (1 : Int32)) (sat_slot l Z a0 hw a r (4 : Int32) (0 : Int32) (1 : Int32) (1 : Int32) _ _ _ F1 F2 A1 rfl (by decide)) E1 (wd hw 26 rfl) (wd hw 28 rfl) (own_selects_private (wd hw 3 rfl) (wd hw 28 rfl) (wd hw 27 rfl) (by decide)) (wd hw 27 rfl) (wd hw 4 rfl) (wd hw 29 rfl) (by decide) pd_4 rfl rfl rfl (by decide) (by decide) rfl rfl (by decide) (by decide) d7_26 (pc' := 29) rfl rfl ?_
    refine go_putfield C (wd hw 30 rfl) F2 E1 (Or.inl (wd hw 31 rfl)) (wd hw 3 rfl) (ty := .int) (by decide) rfl rfl ga d7_29 (pc' := 32) rfl ?_
    intro h_3 W_4
    have F_5 := Fld.other W_4 F1 (Or.inr (slot_ne (a0 := a0) (Or.inl (wd hw 18 rfl)) (Or.inl (wd hw 31 rfl)) (by decide) (t := (.array .long)) (t' := .int) (by decide) (by decide)))
    have F_6 := Fld.same W_4 F2
    have F_7 := Fld.other W_4 F3 (Or.inr (slot_ne (a0 := a0) (Or.inl (wd hw 25 rfl)) (Or.inl (wd hw 31 rfl)) (by decide) (t := .int) (t' := .int) (by decide) (by decide)))
    have E_8 := Exa.wr W_4 E1
    have A_9 := Av.other A1 W_4 (Ne.symm (own_ne_arr E1 (wd hw 3 rfl) A1))
    refine go_aloadN C d7_32 (pc' := 33) rfl rfl rfl ?_
    refine go_dup C d7_33 (pc' := 34) rfl rfl ?_
    refine go_getfield C (wd hw 24 rfl) F_7 d7_34 (pc' := 37) rfl ?_
    refine go_iconst C (1 : Int32) d7_37 (pc' := 38) rfl (by decide) ?_
    refine go_isub C d7_38 (pc' := 39) rfl ?_
    rw [(by decide : (2 : Int32) - (1 : Int32) = (1 : Int32))]
    refine go_putfield C (wd hw 24 rfl) F_7 E_8 (Or.inl (wd hw 25 rfl)) (wd hw 3 rfl) (ty := .int) (by decide) rfl rfl ga d7_39 (pc' := 42) rfl ?_
    intro h_10 W_11
    have F_12 := Fld.other W_11 F_5 (Or.inr (slot_ne (a0 := a0) (Or.inl (wd hw 18 rfl)) (Or.inl (wd hw 25 rfl)) (by decide) (t := (.array .long)) (t' := .int) (by decide) (by decide)))
    have F_13 := Fld.other W_11 F_6 (Or.inr (slot_ne (a0 := a0) (Or.inl (wd hw 31 rfl)) (Or.inl (wd hw 25 rfl)) (by decide) (t := .int) (t' := .int) (by decide) (by decide)))
    have F_14 := Fld.same W_11 F_7
    have E_15 := Exa.wr W_11 E_8
    have A_16 := Av.other A_9 W_11 (Ne.symm (own_ne_arr E_8 (wd hw 3 rfl) A_9))
    refine go_goto C d7_42 (by decide) (pc' := 0) (by decide) ?_
    refine go_aloadN C d7_0 (pc' := 1) rfl rfl rfl ?_
    refine go_getfield C (wd hw 24 rfl) F_14 d7_1 (pc' := 4) rfl ?_
    refine go_if0 C (1 : Int) (by decide) d7_4 (by decide) (pc' := 45) (by decide) (pcN := 7) rfl (fun (c_17 : ¬ 0 < (1 : Int)) => by omega) (fun (c_17 : 0 < (1 : Int)) => ?_)
    refine go_lloadN C d7_7 (pc' := 8) rfl rfl ?_
    refine go_aloadN C d7_8 (pc' := 9) rfl rfl rfl ?_
    refine go_getfield C (wd hw 17 rfl) F_12 d7_9 (pc' := 12) rfl ?_
    refine go_aloadN C d7_12 (pc' := 13) rfl rfl rfl ?_
    refine go_getfield C (wd hw 30 rfl) F_13 d7_13 (pc' := 16) rfl ?_
    refine go_laload C A_16 1 (.long v1) (by decide) rfl d7_16 (pc' := 17) rfl ?_
    refine go_lsub C d7_17 (pc' := 18) rfl ?_
    refine go_lloadN C d7_18 (pc' := 19) rfl rfl ?_
    refine go_lcmp C ((ta - v1).toInt) win.toInt rfl rfl d7_19 (pc1 := 20) rfl d7_20 (by decide) (pc' := 45) (by decide) (pcN := 23) rfl (fun (c_18 : ((ta - v1).toInt) < win.toInt) => ?_) (fun (c_18 : ¬ ((ta - v1).toInt) < win.toInt) => ?_)
    · skip
      refine go_return C rfl d7_45 (by decide) (by decide) ?_
      exact ⟨rfl, Or.inr (Or.inl ⟨⟨c_2, c_18⟩, E_15, F_12, F_13, F_14, A_16⟩)⟩
    · skip
      refine go_aloadN C d7_23 (pc' := 24) rfl rfl rfl ?_
      refine go_aloadN C d7_24 (pc' := 25) rfl rfl rfl ?_
      refine go_iconst C (1 : Int32) d7_25 (pc' := 26) rfl (by decide) ?_
      refine go_privateP C (as := [.int (1 : Int32)]) (rest := [.ref a]) (W := 1) (.int (2 : Int32)) (sat_slot l Z a0 hw a r (4 : Int32) (1 : Int32) (1 : Int32) (2 : Int32) _ _ _ F_12 F_13 A_16 rfl (by decide)) E_15 (wd hw 26 rfl) (wd hw 28 rfl) (own_selects_private (wd hw 3 rfl) (wd hw 28 rfl) (wd hw 27 rfl) (by decide)) (wd hw 27 rfl) (wd hw 4 rfl) (wd hw 29 rfl) (by decide) pd_4 rfl rfl rfl (by decide) (by decide) rfl rfl (by decide) (by decide) d7_26 (pc' := 29) rfl rfl ?_
      refine go_putfield C (wd hw 30 rfl) F_13 E_15 (Or.inl (wd hw 31 rfl)) (wd hw 3 rfl) (ty := .int) (by decide) rfl rfl ga d7_29 (pc' := 32) rfl ?_
      intro h_19 W_20
      have F_21 := Fld.other W_20 F_12 (Or.inr (slot_ne (a0 := a0) (Or.inl (wd hw 18 rfl)) (Or.inl (wd hw 31 rfl)) (by decide) (t := (.array .long)) (t' := .int) (by decide) (by decide)))
      have F_22 := Fld.same W_20 F_13
      have F_23 := Fld.other W_20 F_14 (Or.inr (slot_ne (a0 := a0) (Or.inl (wd hw 25 rfl)) (Or.inl (wd hw 31 rfl)) (by decide) (t := .int) (t' := .int) (by decide) (by decide)))
      have E_24 := Exa.wr W_20 E_15
      have A_25 := Av.other A_16 W_20 (Ne.symm (own_ne_arr E_15 (wd hw 3 rfl) A_16))
      refine go_aloadN C d7_32 (pc' := 33) rfl rfl rfl ?_
      refine go_dup C d7_33 (pc' := 34) rfl rfl ?_
      refine go_getfield C (wd hw 24 rfl) F_23 d7_34 (pc' := 37) rfl ?_
      refine go_iconst C (1 : Int32) d7_37 (pc' := 38) rfl (by decide) ?_
      refine go_isub C d7_38 (pc' := 39) rfl ?_
      rw [(by decide : (1 : Int32) - (1 : Int32) = (0 : Int32))]
      refine go_putfield C (wd hw 24 rfl) F_23 E_24 (Or.inl (wd hw 25 rfl)) (wd hw 3 rfl) (ty := .int) (by decide) rfl rfl ga d7_39 (pc' := 42) rfl ?_
      intro h_26 W_27
      have F_28 := Fld.other W_27 F_21 (Or.inr (slot_ne (a0 := a0) (Or.inl (wd hw 18 rfl)) (Or.inl (wd hw 25 rfl)) (by decide) (t := (.array .long)) (t' := .int) (by decide) (by decide)))
      have F_29 := Fld.other W_27 F_22 (Or.inr (slot_ne (a0 := a0) (Or.inl (wd hw 31 rfl)) (Or.inl (wd hw 25 rfl)) (by decide) (t := .int) (t' := .int) (by decide) (by decide)))
      have F_30 := Fld.same W_27 F_23
      have E_31 := Exa.wr W_27 E_24
      have A_32 := Av.other A_25 W_27 (Ne.symm (own_ne_arr E_24 (wd hw 3 rfl) A_25))
      refine go_goto C d7_42 (by decide) (pc' := 0) (by decide) ?_
      refine go_aloadN C d7_0 (pc' := 1) rfl rfl rfl ?_
      refine go_getfield C (wd hw 24 rfl) F_30 d7_1 (pc' := 4) rfl ?_
      refine go_if0 C (0 : Int) (by decide) d7_4 (by decide) (pc' := 45) (by decide) (pcN := 7) rfl (fun (c_33 : ¬ 0 < (0 : Int)) => ?_) (fun (c_33 : 0 < (0 : Int)) => by omega)
      refine go_return C rfl d7_45 (by decide) (by decide) ?_
      exact ⟨rfl, Or.inr (Or.inr (⟨⟨c_2, c_18⟩, E_31, F_28, F_29, F_30, A_32⟩))⟩
set_option maxRecDepth 65536 in
set_option maxHeartbeats 40000000 in
theorem sat_init1 (l : Launch) (Z : State) (a0 : Array Value) (hw : ∀ d ∈ tables_1, d.before a0 Z = true) (a : Addr) (h0 : Heap) (n0 : Nat) (E1 : Exa Z h0 a "com/example/throttld/throttld/SlidingLog$Log") (F1 : Fld Z h0 a "com/example/throttld/throttld/SlidingLog$Log" "ring" "[J" .null) (F2 : Fld Z h0 a "com/example/throttld/throttld/SlidingLog$Log" "head" "I" (.int 0)) (F3 : Fld Z h0 a "com/example/throttld/throttld/SlidingLog$Log" "count" "I" (.int 0)) (ga : n0 ≤ a) (gz : n0 ≤ h0.size) :
    Sat l Z (⟨"com/example/throttld/throttld/SlidingLog$Log", "<init>", "(I)V"⟩ : MethodName) prog_32_method_1_code 2 none ({ frames := 2, cells := 1, slots := 1, locals := 24 } : Room) [.ref a, .int (1 : Int32)] h0 n0 (RN fun h => ∃ r : Addr, n0 ≤ r ∧ Exa Z h a "com/example/throttld/throttld/SlidingLog$Log" ∧ Fld Z h a "com/example/throttld/throttld/SlidingLog$Log" "ring" "[J" (.ref r) ∧ Fld Z h a "com/example/throttld/throttld/SlidingLog$Log" "head" "I" (.int (0 : Int32)) ∧ Fld Z h a "com/example/throttld/throttld/SlidingLog$Log" "count" "I" (.int (0 : Int32)) ∧ Av Z h r .long [.long (0 : Int64)]) := by
  refine sat_of (own := "com/example/throttld/throttld/SlidingLog$Log") (nm := "<init>") rfl rfl (plainFor_of_name pn_1) #[.val (.ref a), .val (.int (1 : Int32))] (fun m => by first | (simp [entryFrame, mkF, argsToLocals, Value.category, maxLocals]; done) | rfl) ?_
  intro p e s m below meth c C
  refine go_aloadN C d1_0 (pc' := 1) rfl rfl rfl ?_
  refine go_specialN C (as := []) (rest := []) (W := 0) (sat_en l Z a0 hw a _ _) rfl (wd hw 8 rfl) (wd hw 9 rfl) (wd hw 11 rfl) (wd hw 12 rfl) (by decide) pd_2 rfl rfl rfl (by decide) (by decide) (ce' := 0) (sl' := 0) rfl rfl (by decide) (by decide) d1_1 (pc' := 4) rfl rfl ?_
  intro h_1 eh_1
  rw [eh_1]
  refine go_aloadN C d1_4 (pc' := 5) rfl rfl rfl ?_
  refine go_iloadN C d1_5 (pc' := 6) rfl rfl ?_
  refine go_newarray C (wd hw 16 rfl) rfl 1 1 (by decide) (by decide) (by decide) (ce' := 1) (sl' := 1) rfl rfl (by decide) (by decide) d1_6 (pc' := 8) rfl ?_
  intro h_2 a_3 g_4 E_5 A_6
  have n_7 : a ≠ a_3 := own_ne_new E1.lt g_4
  have g_8 : n0 ≤ a_3 := own_ge gz g_4
  have F_9 := Fld.ext E_5 F1
  have F_10 := Fld.ext E_5 F2
  have F_11 := Fld.ext E_5 F3
  have E_12 := Exa.ext E_5 E1
  have z_13 : n0 ≤ h_2.size := Nat.le_trans gz E_5.1
  have A_14 : Av Z h_2 a_3 .long [.long (0 : Int64)] := A_6
  refine go_putfield C (wd hw 17 rfl) F_9 E_12 (Or.inl (wd hw 18 rfl)) (wd hw 3 rfl) (ty := (.array .long)) (by decide) rfl rfl ga d1_8 (pc' := 11) rfl ?_
  intro h_15 W_16
  have z_17 : n0 ≤ h_15.size := W_16.size.symm ▸ z_13
  have F_18 := Fld.same W_16 F_9
  have F_19 := Fld.other W_16 F_10 (Or.inr (slot_ne (a0 := a0) (Or.inl (wd hw 31 rfl)) (Or.inl (wd hw 18 rfl)) (by decide) (t := .int) (t' := (.array .long)) (by decide) (by decide)))
  have F_20 := Fld.other W_16 F_11 (Or.inr (slot_ne (a0 := a0) (Or.inl (wd hw 25 rfl)) (Or.inl (wd hw 18 rfl)) (by decide) (t := .int) (t' := (.array .long)) (by decide) (by decide)))
  have E_21 := Exa.wr W_16 E_12
  have A_22 := Av.other A_14 W_16 (Ne.symm n_7)
  refine go_return C rfl d1_11 (by decide) (by decide) ?_
  exact ⟨rfl, _, g_8, E_21, F_18, F_19, F_20, A_22⟩
set_option maxRecDepth 65536 in
set_option maxHeartbeats 40000000 in
theorem sat_init2 (l : Launch) (Z : State) (a0 : Array Value) (hw : ∀ d ∈ tables_1, d.before a0 Z = true) (a : Addr) (h0 : Heap) (n0 : Nat) (E1 : Exa Z h0 a "com/example/throttld/throttld/SlidingLog$Log") (F1 : Fld Z h0 a "com/example/throttld/throttld/SlidingLog$Log" "ring" "[J" .null) (F2 : Fld Z h0 a "com/example/throttld/throttld/SlidingLog$Log" "head" "I" (.int 0)) (F3 : Fld Z h0 a "com/example/throttld/throttld/SlidingLog$Log" "count" "I" (.int 0)) (ga : n0 ≤ a) (gz : n0 ≤ h0.size) :
    Sat l Z (⟨"com/example/throttld/throttld/SlidingLog$Log", "<init>", "(I)V"⟩ : MethodName) prog_32_method_1_code 2 none ({ frames := 2, cells := 1, slots := 2, locals := 24 } : Room) [.ref a, .int (2 : Int32)] h0 n0 (RN fun h => ∃ r : Addr, n0 ≤ r ∧ Exa Z h a "com/example/throttld/throttld/SlidingLog$Log" ∧ Fld Z h a "com/example/throttld/throttld/SlidingLog$Log" "ring" "[J" (.ref r) ∧ Fld Z h a "com/example/throttld/throttld/SlidingLog$Log" "head" "I" (.int (0 : Int32)) ∧ Fld Z h a "com/example/throttld/throttld/SlidingLog$Log" "count" "I" (.int (0 : Int32)) ∧ Av Z h r .long [.long (0 : Int64), .long (0 : Int64)]) := by
  refine sat_of (own := "com/example/throttld/throttld/SlidingLog$Log") (nm := "<init>") rfl rfl (plainFor_of_name pn_1) #[.val (.ref a), .val (.int (2 : Int32))] (fun m => by first | (simp [entryFrame, mkF, argsToLocals, Value.category, maxLocals]; done) | rfl) ?_
  intro p e s m below meth c C
  refine go_aloadN C d1_0 (pc' := 1) rfl rfl rfl ?_
  refine go_specialN C (as := []) (rest := []) (W := 0) (sat_en l Z a0 hw a _ _) rfl (wd hw 8 rfl) (wd hw 9 rfl) (wd hw 11 rfl) (wd hw 12 rfl) (by decide) pd_2 rfl rfl rfl (by decide) (by decide) (ce' := 0) (sl' := 0) rfl rfl (by decide) (by decide) d1_1 (pc' := 4) rfl rfl ?_
  intro h_1 eh_1
  rw [eh_1]
  refine go_aloadN C d1_4 (pc' := 5) rfl rfl rfl ?_
  refine go_iloadN C d1_5 (pc' := 6) rfl rfl ?_
  refine go_newarray C (wd hw 16 rfl) rfl 2 2 (by decide) (by decide) (by decide) (ce' := 1) (sl' := 2) rfl rfl (by decide) (by decide) d1_6 (pc' := 8) rfl ?_
  intro h_2 a_3 g_4 E_5 A_6
  have n_7 : a ≠ a_3 := own_ne_new E1.lt g_4
  have g_8 : n0 ≤ a_3 := own_ge gz g_4
  have F_9 := Fld.ext E_5 F1
  have F_10 := Fld.ext E_5 F2
  have F_11 := Fld.ext E_5 F3
  have E_12 := Exa.ext E_5 E1
  have z_13 : n0 ≤ h_2.size := Nat.le_trans gz E_5.1
  have A_14 : Av Z h_2 a_3 .long [.long (0 : Int64), .long (0 : Int64)] := A_6
  refine go_putfield C (wd hw 17 rfl) F_9 E_12 (Or.inl (wd hw 18 rfl)) (wd hw 3 rfl) (ty := (.array .long)) (by decide) rfl rfl ga d1_8 (pc' := 11) rfl ?_
  intro h_15 W_16
  have z_17 : n0 ≤ h_15.size := W_16.size.symm ▸ z_13
  have F_18 := Fld.same W_16 F_9
  have F_19 := Fld.other W_16 F_10 (Or.inr (slot_ne (a0 := a0) (Or.inl (wd hw 31 rfl)) (Or.inl (wd hw 18 rfl)) (by decide) (t := .int) (t' := (.array .long)) (by decide) (by decide)))
  have F_20 := Fld.other W_16 F_11 (Or.inr (slot_ne (a0 := a0) (Or.inl (wd hw 25 rfl)) (Or.inl (wd hw 18 rfl)) (by decide) (t := .int) (t' := (.array .long)) (by decide) (by decide)))
  have E_21 := Exa.wr W_16 E_12
  have A_22 := Av.other A_14 W_16 (Ne.symm n_7)
  refine go_return C rfl d1_11 (by decide) (by decide) ?_
  exact ⟨rfl, _, g_8, E_21, F_18, F_19, F_20, A_22⟩
set_option maxRecDepth 65536 in
set_option maxHeartbeats 40000000 in
theorem sat_init3 (l : Launch) (Z : State) (a0 : Array Value) (hw : ∀ d ∈ tables_1, d.before a0 Z = true) (a : Addr) (h0 : Heap) (n0 : Nat) (E1 : Exa Z h0 a "com/example/throttld/throttld/SlidingLog$Log") (F1 : Fld Z h0 a "com/example/throttld/throttld/SlidingLog$Log" "ring" "[J" .null) (F2 : Fld Z h0 a "com/example/throttld/throttld/SlidingLog$Log" "head" "I" (.int 0)) (F3 : Fld Z h0 a "com/example/throttld/throttld/SlidingLog$Log" "count" "I" (.int 0)) (ga : n0 ≤ a) (gz : n0 ≤ h0.size) :
    Sat l Z (⟨"com/example/throttld/throttld/SlidingLog$Log", "<init>", "(I)V"⟩ : MethodName) prog_32_method_1_code 2 none ({ frames := 2, cells := 1, slots := 3, locals := 24 } : Room) [.ref a, .int (3 : Int32)] h0 n0 (RN fun h => ∃ r : Addr, n0 ≤ r ∧ Exa Z h a "com/example/throttld/throttld/SlidingLog$Log" ∧ Fld Z h a "com/example/throttld/throttld/SlidingLog$Log" "ring" "[J" (.ref r) ∧ Fld Z h a "com/example/throttld/throttld/SlidingLog$Log" "head" "I" (.int (0 : Int32)) ∧ Fld Z h a "com/example/throttld/throttld/SlidingLog$Log" "count" "I" (.int (0 : Int32)) ∧ Av Z h r .long [.long (0 : Int64), .long (0 : Int64), .long (0 : Int64)]) := by
  refine sat_of (own := "com/example/throttld/throttld/SlidingLog$Log") (nm := "<init>") rfl rfl (plainFor_of_name pn_1) #[.val (.ref a), .val (.int (3 : Int32))] (fun m => by first | (simp [entryFrame, mkF, argsToLocals, Value.category, maxLocals]; done) | rfl) ?_
  intro p e s m below meth c C
  refine go_aloadN C d1_0 (pc' := 1) rfl rfl rfl ?_
  refine go_specialN C (as := []) (rest := []) (W := 0) (sat_en l Z a0 hw a _ _) rfl (wd hw 8 rfl) (wd hw 9 rfl) (wd hw 11 rfl) (wd hw 12 rfl) (by decide) pd_2 rfl rfl rfl (by decide) (by decide) (ce' := 0) (sl' := 0) rfl rfl (by decide) (by decide) d1_1 (pc' := 4) rfl rfl ?_
  intro h_1 eh_1
  rw [eh_1]
  refine go_aloadN C d1_4 (pc' := 5) rfl rfl rfl ?_
  refine go_iloadN C d1_5 (pc' := 6) rfl rfl ?_
  refine go_newarray C (wd hw 16 rfl) rfl 3 3 (by decide) (by decide) (by decide) (ce' := 1) (sl' := 3) rfl rfl (by decide) (by decide) d1_6 (pc' := 8) rfl ?_
  intro h_2 a_3 g_4 E_5 A_6
  have n_7 : a ≠ a_3 := own_ne_new E1.lt g_4
  have g_8 : n0 ≤ a_3 := own_ge gz g_4
  have F_9 := Fld.ext E_5 F1
  have F_10 := Fld.ext E_5 F2
  have F_11 := Fld.ext E_5 F3
  have E_12 := Exa.ext E_5 E1
  have z_13 : n0 ≤ h_2.size := Nat.le_trans gz E_5.1
  have A_14 : Av Z h_2 a_3 .long [.long (0 : Int64), .long (0 : Int64), .long (0 : Int64)] := A_6
  refine go_putfield C (wd hw 17 rfl) F_9 E_12 (Or.inl (wd hw 18 rfl)) (wd hw 3 rfl) (ty := (.array .long)) (by decide) rfl rfl ga d1_8 (pc' := 11) rfl ?_
  intro h_15 W_16
  have z_17 : n0 ≤ h_15.size := W_16.size.symm ▸ z_13
  have F_18 := Fld.same W_16 F_9
  have F_19 := Fld.other W_16 F_10 (Or.inr (slot_ne (a0 := a0) (Or.inl (wd hw 31 rfl)) (Or.inl (wd hw 18 rfl)) (by decide) (t := .int) (t' := (.array .long)) (by decide) (by decide)))
  have F_20 := Fld.other W_16 F_11 (Or.inr (slot_ne (a0 := a0) (Or.inl (wd hw 25 rfl)) (Or.inl (wd hw 18 rfl)) (by decide) (t := .int) (t' := (.array .long)) (by decide) (by decide)))
  have E_21 := Exa.wr W_16 E_12
  have A_22 := Av.other A_14 W_16 (Ne.symm n_7)
  refine go_return C rfl d1_11 (by decide) (by decide) ?_
  exact ⟨rfl, _, g_8, E_21, F_18, F_19, F_20, A_22⟩
set_option maxRecDepth 65536 in
set_option maxHeartbeats 40000000 in
theorem sat_init4 (l : Launch) (Z : State) (a0 : Array Value) (hw : ∀ d ∈ tables_1, d.before a0 Z = true) (a : Addr) (h0 : Heap) (n0 : Nat) (E1 : Exa Z h0 a "com/example/throttld/throttld/SlidingLog$Log") (F1 : Fld Z h0 a "com/example/throttld/throttld/SlidingLog$Log" "ring" "[J" .null) (F2 : Fld Z h0 a "com/example/throttld/throttld/SlidingLog$Log" "head" "I" (.int 0)) (F3 : Fld Z h0 a "com/example/throttld/throttld/SlidingLog$Log" "count" "I" (.int 0)) (ga : n0 ≤ a) (gz : n0 ≤ h0.size) :
    Sat l Z (⟨"com/example/throttld/throttld/SlidingLog$Log", "<init>", "(I)V"⟩ : MethodName) prog_32_method_1_code 2 none ({ frames := 2, cells := 1, slots := 4, locals := 24 } : Room) [.ref a, .int (4 : Int32)] h0 n0 (RN fun h => ∃ r : Addr, n0 ≤ r ∧ Exa Z h a "com/example/throttld/throttld/SlidingLog$Log" ∧ Fld Z h a "com/example/throttld/throttld/SlidingLog$Log" "ring" "[J" (.ref r) ∧ Fld Z h a "com/example/throttld/throttld/SlidingLog$Log" "head" "I" (.int (0 : Int32)) ∧ Fld Z h a "com/example/throttld/throttld/SlidingLog$Log" "count" "I" (.int (0 : Int32)) ∧ Av Z h r .long [.long (0 : Int64), .long (0 : Int64), .long (0 : Int64), .long (0 : Int64)]) := by
  refine sat_of (own := "com/example/throttld/throttld/SlidingLog$Log") (nm := "<init>") rfl rfl (plainFor_of_name pn_1) #[.val (.ref a), .val (.int (4 : Int32))] (fun m => by first | (simp [entryFrame, mkF, argsToLocals, Value.category, maxLocals]; done) | rfl) ?_
  intro p e s m below meth c C
  refine go_aloadN C d1_0 (pc' := 1) rfl rfl rfl ?_
  refine go_specialN C (as := []) (rest := []) (W := 0) (sat_en l Z a0 hw a _ _) rfl (wd hw 8 rfl) (wd hw 9 rfl) (wd hw 11 rfl) (wd hw 12 rfl) (by decide) pd_2 rfl rfl rfl (by decide) (by decide) (ce' := 0) (sl' := 0) rfl rfl (by decide) (by decide) d1_1 (pc' := 4) rfl rfl ?_
  intro h_1 eh_1
  rw [eh_1]
  refine go_aloadN C d1_4 (pc' := 5) rfl rfl rfl ?_
  refine go_iloadN C d1_5 (pc' := 6) rfl rfl ?_
  refine go_newarray C (wd hw 16 rfl) rfl 4 4 (by decide) (by decide) (by decide) (ce' := 1) (sl' := 4) rfl rfl (by decide) (by decide) d1_6 (pc' := 8) rfl ?_
  intro h_2 a_3 g_4 E_5 A_6
  have n_7 : a ≠ a_3 := own_ne_new E1.lt g_4
  have g_8 : n0 ≤ a_3 := own_ge gz g_4
  have F_9 := Fld.ext E_5 F1
  have F_10 := Fld.ext E_5 F2
  have F_11 := Fld.ext E_5 F3
  have E_12 := Exa.ext E_5 E1
  have z_13 : n0 ≤ h_2.size := Nat.le_trans gz E_5.1
  have A_14 : Av Z h_2 a_3 .long [.long (0 : Int64), .long (0 : Int64), .long (0 : Int64), .long (0 : Int64)] := A_6
  refine go_putfield C (wd hw 17 rfl) F_9 E_12 (Or.inl (wd hw 18 rfl)) (wd hw 3 rfl) (ty := (.array .long)) (by decide) rfl rfl ga d1_8 (pc' := 11) rfl ?_
  intro h_15 W_16
  have z_17 : n0 ≤ h_15.size := W_16.size.symm ▸ z_13
  have F_18 := Fld.same W_16 F_9
  have F_19 := Fld.other W_16 F_10 (Or.inr (slot_ne (a0 := a0) (Or.inl (wd hw 31 rfl)) (Or.inl (wd hw 18 rfl)) (by decide) (t := .int) (t' := (.array .long)) (by decide) (by decide)))
  have F_20 := Fld.other W_16 F_11 (Or.inr (slot_ne (a0 := a0) (Or.inl (wd hw 25 rfl)) (Or.inl (wd hw 18 rfl)) (by decide) (t := .int) (t' := (.array .long)) (by decide) (by decide)))
  have E_21 := Exa.wr W_16 E_12
  have A_22 := Av.other A_14 W_16 (Ne.symm n_7)
  refine go_return C rfl d1_11 (by decide) (by decide) ?_
  exact ⟨rfl, _, g_8, E_21, F_18, F_19, F_20, A_22⟩
set_option maxRecDepth 65536 in
set_option maxHeartbeats 40000000 in
theorem sat_new_1_0_1 (l : Launch) (Z : State) (a0 : Array Value) (hw : ∀ d ∈ tables_1, d.before a0 Z = true) (a r : Addr) (v0 : Int64) (h0 : Heap) (n0 : Nat) (E1 : Exa Z h0 a "com/example/throttld/throttld/SlidingLog$Log") (F1 : Fld Z h0 a "com/example/throttld/throttld/SlidingLog$Log" "ring" "[J" (.ref r)) (F2 : Fld Z h0 a "com/example/throttld/throttld/SlidingLog$Log" "head" "I" (.int (0 : Int32))) (F3 : Fld Z h0 a "com/example/throttld/throttld/SlidingLog$Log" "count" "I" (.int (1 : Int32))) (A1 : Av Z h0 r .long [.long v0]) (ga : n0 ≤ a) (gr : n0 ≤ r) :
    Sat l Z (⟨"com/example/throttld/throttld/SlidingLog$Log", "newest", "()J"⟩ : MethodName) prog_32_method_4_code 1 (some .long) ({ frames := 1, cells := 0, slots := 0, locals := 15 } : Room) [.ref a] h0 n0 (RV fun q h => q = .long v0 ∧ h = h0) := by
  refine sat_of (own := "com/example/throttld/throttld/SlidingLog$Log") (nm := "newest") rfl rfl (plainFor_of_name pn_1) #[.val (.ref a)] (fun m => by first | (simp [entryFrame, mkF, argsToLocals, Value.category, maxLocals]; done) | rfl) ?_
  intro p e s m below meth c C
  refine go_aloadN C d6_0 (pc' := 1) rfl rfl rfl ?_
  refine go_getfield C (wd hw 17 rfl) F1 d6_1 (pc' := 4) rfl ?_
  refine go_aloadN C d6_4 (pc' := 5) rfl rfl rfl ?_
  refine go_aloadN C d6_5 (pc' := 6) rfl rfl rfl ?_
  refine go_getfield C (wd hw 24 rfl) F3 d6_6 (pc' := 9) rfl ?_
  refine go_iconst C (1 : Int32) d6_9 (pc' := 10) rfl (by decide) ?_
  refine go_isub C d6_10 (pc' := 11) rfl ?_
  rw [(by decide : (1 : Int32) - (1 : Int32) = (0 : Int32))]
  refine go_privateP C (as := [.int (0 : Int32)]) (rest := [.ref r]) (W := 1) (.int (0 : Int32)) (sat_slot l Z a0 hw a r (1 : Int32) (0 : Int32) (0 : Int32) (0 : Int32) _ _ _ F1 F2 A1 rfl (by decide)) E1 (wd hw 26 rfl) (wd hw 28 rfl) (own_selects_private (wd hw 3 rfl) (wd hw 28 rfl) (wd hw 27 rfl) (by decide)) (wd hw 27 rfl) (wd hw 4 rfl) (wd hw 29 rfl) (by decide) pd_4 rfl rfl rfl (by decide) (by decide) rfl rfl (by decide) (by decide) d6_11 (pc' := 14) rfl rfl ?_
  refine go_laload C A1 0 (.long v0) (by decide) rfl d6_14 (pc' := 15) rfl ?_
  refine go_lreturn C rfl d6_15 (by decide) (by decide) ?_
  exact ⟨_, rfl, rfl, rfl⟩
set_option maxRecDepth 65536 in
set_option maxHeartbeats 40000000 in
theorem sat_new_2_0_1 (l : Launch) (Z : State) (a0 : Array Value) (hw : ∀ d ∈ tables_1, d.before a0 Z = true) (a r : Addr) (v0 v1 : Int64) (h0 : Heap) (n0 : Nat) (E1 : Exa Z h0 a "com/example/throttld/throttld/SlidingLog$Log") (F1 : Fld Z h0 a "com/example/throttld/throttld/SlidingLog$Log" "ring" "[J" (.ref r)) (F2 : Fld Z h0 a "com/example/throttld/throttld/SlidingLog$Log" "head" "I" (.int (0 : Int32))) (F3 : Fld Z h0 a "com/example/throttld/throttld/SlidingLog$Log" "count" "I" (.int (1 : Int32))) (A1 : Av Z h0 r .long [.long v0, .long v1]) (ga : n0 ≤ a) (gr : n0 ≤ r) :
    Sat l Z (⟨"com/example/throttld/throttld/SlidingLog$Log", "newest", "()J"⟩ : MethodName) prog_32_method_4_code 1 (some .long) ({ frames := 1, cells := 0, slots := 0, locals := 15 } : Room) [.ref a] h0 n0 (RV fun q h => q = .long v0 ∧ h = h0) := by
  refine sat_of (own := "com/example/throttld/throttld/SlidingLog$Log") (nm := "newest") rfl rfl (plainFor_of_name pn_1) #[.val (.ref a)] (fun m => by first | (simp [entryFrame, mkF, argsToLocals, Value.category, maxLocals]; done) | rfl) ?_
  intro p e s m below meth c C
  refine go_aloadN C d6_0 (pc' := 1) rfl rfl rfl ?_
  refine go_getfield C (wd hw 17 rfl) F1 d6_1 (pc' := 4) rfl ?_
  refine go_aloadN C d6_4 (pc' := 5) rfl rfl rfl ?_
  refine go_aloadN C d6_5 (pc' := 6) rfl rfl rfl ?_
  refine go_getfield C (wd hw 24 rfl) F3 d6_6 (pc' := 9) rfl ?_
  refine go_iconst C (1 : Int32) d6_9 (pc' := 10) rfl (by decide) ?_
  refine go_isub C d6_10 (pc' := 11) rfl ?_
  rw [(by decide : (1 : Int32) - (1 : Int32) = (0 : Int32))]
  refine go_privateP C (as := [.int (0 : Int32)]) (rest := [.ref r]) (W := 1) (.int (0 : Int32)) (sat_slot l Z a0 hw a r (2 : Int32) (0 : Int32) (0 : Int32) (0 : Int32) _ _ _ F1 F2 A1 rfl (by decide)) E1 (wd hw 26 rfl) (wd hw 28 rfl) (own_selects_private (wd hw 3 rfl) (wd hw 28 rfl) (wd hw 27 rfl) (by decide)) (wd hw 27 rfl) (wd hw 4 rfl) (wd hw 29 rfl) (by decide) pd_4 rfl rfl rfl (by decide) (by decide) rfl rfl (by decide) (by decide) d6_11 (pc' := 14) rfl rfl ?_
  refine go_laload C A1 0 (.long v0) (by decide) rfl d6_14 (pc' := 15) rfl ?_
  refine go_lreturn C rfl d6_15 (by decide) (by decide) ?_
  exact ⟨_, rfl, rfl, rfl⟩
set_option maxRecDepth 65536 in
set_option maxHeartbeats 40000000 in
theorem sat_new_2_0_2 (l : Launch) (Z : State) (a0 : Array Value) (hw : ∀ d ∈ tables_1, d.before a0 Z = true) (a r : Addr) (v0 v1 : Int64) (h0 : Heap) (n0 : Nat) (E1 : Exa Z h0 a "com/example/throttld/throttld/SlidingLog$Log") (F1 : Fld Z h0 a "com/example/throttld/throttld/SlidingLog$Log" "ring" "[J" (.ref r)) (F2 : Fld Z h0 a "com/example/throttld/throttld/SlidingLog$Log" "head" "I" (.int (0 : Int32))) (F3 : Fld Z h0 a "com/example/throttld/throttld/SlidingLog$Log" "count" "I" (.int (2 : Int32))) (A1 : Av Z h0 r .long [.long v0, .long v1]) (ga : n0 ≤ a) (gr : n0 ≤ r) :
    Sat l Z (⟨"com/example/throttld/throttld/SlidingLog$Log", "newest", "()J"⟩ : MethodName) prog_32_method_4_code 1 (some .long) ({ frames := 1, cells := 0, slots := 0, locals := 15 } : Room) [.ref a] h0 n0 (RV fun q h => q = .long v1 ∧ h = h0) := by
  refine sat_of (own := "com/example/throttld/throttld/SlidingLog$Log") (nm := "newest") rfl rfl (plainFor_of_name pn_1) #[.val (.ref a)] (fun m => by first | (simp [entryFrame, mkF, argsToLocals, Value.category, maxLocals]; done) | rfl) ?_
  intro p e s m below meth c C
  refine go_aloadN C d6_0 (pc' := 1) rfl rfl rfl ?_
  refine go_getfield C (wd hw 17 rfl) F1 d6_1 (pc' := 4) rfl ?_
  refine go_aloadN C d6_4 (pc' := 5) rfl rfl rfl ?_
  refine go_aloadN C d6_5 (pc' := 6) rfl rfl rfl ?_
  refine go_getfield C (wd hw 24 rfl) F3 d6_6 (pc' := 9) rfl ?_
  refine go_iconst C (1 : Int32) d6_9 (pc' := 10) rfl (by decide) ?_
  refine go_isub C d6_10 (pc' := 11) rfl ?_
  rw [(by decide : (2 : Int32) - (1 : Int32) = (1 : Int32))]
  refine go_privateP C (as := [.int (1 : Int32)]) (rest := [.ref r]) (W := 1) (.int (1 : Int32)) (sat_slot l Z a0 hw a r (2 : Int32) (0 : Int32) (1 : Int32) (1 : Int32) _ _ _ F1 F2 A1 rfl (by decide)) E1 (wd hw 26 rfl) (wd hw 28 rfl) (own_selects_private (wd hw 3 rfl) (wd hw 28 rfl) (wd hw 27 rfl) (by decide)) (wd hw 27 rfl) (wd hw 4 rfl) (wd hw 29 rfl) (by decide) pd_4 rfl rfl rfl (by decide) (by decide) rfl rfl (by decide) (by decide) d6_11 (pc' := 14) rfl rfl ?_
  refine go_laload C A1 1 (.long v1) (by decide) rfl d6_14 (pc' := 15) rfl ?_
  refine go_lreturn C rfl d6_15 (by decide) (by decide) ?_
  exact ⟨_, rfl, rfl, rfl⟩
set_option maxRecDepth 65536 in
set_option maxHeartbeats 40000000 in
theorem sat_new_2_1_1 (l : Launch) (Z : State) (a0 : Array Value) (hw : ∀ d ∈ tables_1, d.before a0 Z = true) (a r : Addr) (v0 v1 : Int64) (h0 : Heap) (n0 : Nat) (E1 : Exa Z h0 a "com/example/throttld/throttld/SlidingLog$Log") (F1 : Fld Z h0 a "com/example/throttld/throttld/SlidingLog$Log" "ring" "[J" (.ref r)) (F2 : Fld Z h0 a "com/example/throttld/throttld/SlidingLog$Log" "head" "I" (.int (1 : Int32))) (F3 : Fld Z h0 a "com/example/throttld/throttld/SlidingLog$Log" "count" "I" (.int (1 : Int32))) (A1 : Av Z h0 r .long [.long v0, .long v1]) (ga : n0 ≤ a) (gr : n0 ≤ r) :
    Sat l Z (⟨"com/example/throttld/throttld/SlidingLog$Log", "newest", "()J"⟩ : MethodName) prog_32_method_4_code 1 (some .long) ({ frames := 1, cells := 0, slots := 0, locals := 15 } : Room) [.ref a] h0 n0 (RV fun q h => q = .long v1 ∧ h = h0) := by
  refine sat_of (own := "com/example/throttld/throttld/SlidingLog$Log") (nm := "newest") rfl rfl (plainFor_of_name pn_1) #[.val (.ref a)] (fun m => by first | (simp [entryFrame, mkF, argsToLocals, Value.category, maxLocals]; done) | rfl) ?_
  intro p e s m below meth c C
  refine go_aloadN C d6_0 (pc' := 1) rfl rfl rfl ?_
  refine go_getfield C (wd hw 17 rfl) F1 d6_1 (pc' := 4) rfl ?_
  refine go_aloadN C d6_4 (pc' := 5) rfl rfl rfl ?_
  refine go_aloadN C d6_5 (pc' := 6) rfl rfl rfl ?_
  refine go_getfield C (wd hw 24 rfl) F3 d6_6 (pc' := 9) rfl ?_
  refine go_iconst C (1 : Int32) d6_9 (pc' := 10) rfl (by decide) ?_
  refine go_isub C d6_10 (pc' := 11) rfl ?_
  rw [(by decide : (1 : Int32) - (1 : Int32) = (0 : Int32))]
  refine go_privateP C (as := [.int (0 : Int32)]) (rest := [.ref r]) (W := 1) (.int (1 : Int32)) (sat_slot l Z a0 hw a r (2 : Int32) (1 : Int32) (0 : Int32) (1 : Int32) _ _ _ F1 F2 A1 rfl (by decide)) E1 (wd hw 26 rfl) (wd hw 28 rfl) (own_selects_private (wd hw 3 rfl) (wd hw 28 rfl) (wd hw 27 rfl) (by decide)) (wd hw 27 rfl) (wd hw 4 rfl) (wd hw 29 rfl) (by decide) pd_4 rfl rfl rfl (by decide) (by decide) rfl rfl (by decide) (by decide) d6_11 (pc' := 14) rfl rfl ?_
  refine go_laload C A1 1 (.long v1) (by decide) rfl d6_14 (pc' := 15) rfl ?_
  refine go_lreturn C rfl d6_15 (by decide) (by decide) ?_
  exact ⟨_, rfl, rfl, rfl⟩
set_option maxRecDepth 65536 in
set_option maxHeartbeats 40000000 in
theorem sat_new_2_1_2 (l : Launch) (Z : State) (a0 : Array Value) (hw : ∀ d ∈ tables_1, d.before a0 Z = true) (a r : Addr) (v0 v1 : Int64) (h0 : Heap) (n0 : Nat) (E1 : Exa Z h0 a "com/example/throttld/throttld/SlidingLog$Log") (F1 : Fld Z h0 a "com/example/throttld/throttld/SlidingLog$Log" "ring" "[J" (.ref r)) (F2 : Fld Z h0 a "com/example/throttld/throttld/SlidingLog$Log" "head" "I" (.int (1 : Int32))) (F3 : Fld Z h0 a "com/example/throttld/throttld/SlidingLog$Log" "count" "I" (.int (2 : Int32))) (A1 : Av Z h0 r .long [.long v0, .long v1]) (ga : n0 ≤ a) (gr : n0 ≤ r) :
    Sat l Z (⟨"com/example/throttld/throttld/SlidingLog$Log", "newest", "()J"⟩ : MethodName) prog_32_method_4_code 1 (some .long) ({ frames := 1, cells := 0, slots := 0, locals := 15 } : Room) [.ref a] h0 n0 (RV fun q h => q = .long v0 ∧ h = h0) := by
  refine sat_of (own := "com/example/throttld/throttld/SlidingLog$Log") (nm := "newest") rfl rfl (plainFor_of_name pn_1) #[.val (.ref a)] (fun m => by first | (simp [entryFrame, mkF, argsToLocals, Value.category, maxLocals]; done) | rfl) ?_
  intro p e s m below meth c C
  refine go_aloadN C d6_0 (pc' := 1) rfl rfl rfl ?_
  refine go_getfield C (wd hw 17 rfl) F1 d6_1 (pc' := 4) rfl ?_
  refine go_aloadN C d6_4 (pc' := 5) rfl rfl rfl ?_
  refine go_aloadN C d6_5 (pc' := 6) rfl rfl rfl ?_
  refine go_getfield C (wd hw 24 rfl) F3 d6_6 (pc' := 9) rfl ?_
  refine go_iconst C (1 : Int32) d6_9 (pc' := 10) rfl (by decide) ?_
  refine go_isub C d6_10 (pc' := 11) rfl ?_
  rw [(by decide : (2 : Int32) - (1 : Int32) = (1 : Int32))]
  refine go_privateP C (as := [.int (1 : Int32)]) (rest := [.ref r]) (W := 1) (.int (0 : Int32)) (sat_slot l Z a0 hw a r (2 : Int32) (1 : Int32) (1 : Int32) (0 : Int32) _ _ _ F1 F2 A1 rfl (by decide)) E1 (wd hw 26 rfl) (wd hw 28 rfl) (own_selects_private (wd hw 3 rfl) (wd hw 28 rfl) (wd hw 27 rfl) (by decide)) (wd hw 27 rfl) (wd hw 4 rfl) (wd hw 29 rfl) (by decide) pd_4 rfl rfl rfl (by decide) (by decide) rfl rfl (by decide) (by decide) d6_11 (pc' := 14) rfl rfl ?_
  refine go_laload C A1 0 (.long v0) (by decide) rfl d6_14 (pc' := 15) rfl ?_
  refine go_lreturn C rfl d6_15 (by decide) (by decide) ?_
  exact ⟨_, rfl, rfl, rfl⟩
set_option maxRecDepth 65536 in
set_option maxHeartbeats 40000000 in
theorem sat_new_3_0_1 (l : Launch) (Z : State) (a0 : Array Value) (hw : ∀ d ∈ tables_1, d.before a0 Z = true) (a r : Addr) (v0 v1 v2 : Int64) (h0 : Heap) (n0 : Nat) (E1 : Exa Z h0 a "com/example/throttld/throttld/SlidingLog$Log") (F1 : Fld Z h0 a "com/example/throttld/throttld/SlidingLog$Log" "ring" "[J" (.ref r)) (F2 : Fld Z h0 a "com/example/throttld/throttld/SlidingLog$Log" "head" "I" (.int (0 : Int32))) (F3 : Fld Z h0 a "com/example/throttld/throttld/SlidingLog$Log" "count" "I" (.int (1 : Int32))) (A1 : Av Z h0 r .long [.long v0, .long v1, .long v2]) (ga : n0 ≤ a) (gr : n0 ≤ r) :
    Sat l Z (⟨"com/example/throttld/throttld/SlidingLog$Log", "newest", "()J"⟩ : MethodName) prog_32_method_4_code 1 (some .long) ({ frames := 1, cells := 0, slots := 0, locals := 15 } : Room) [.ref a] h0 n0 (RV fun q h => q = .long v0 ∧ h = h0) := by
  refine sat_of (own := "com/example/throttld/throttld/SlidingLog$Log") (nm := "newest") rfl rfl (plainFor_of_name pn_1) #[.val (.ref a)] (fun m => by first | (simp [entryFrame, mkF, argsToLocals, Value.category, maxLocals]; done) | rfl) ?_
  intro p e s m below meth c C
  refine go_aloadN C d6_0 (pc' := 1) rfl rfl rfl ?_
  refine go_getfield C (wd hw 17 rfl) F1 d6_1 (pc' := 4) rfl ?_
  refine go_aloadN C d6_4 (pc' := 5) rfl rfl rfl ?_
  refine go_aloadN C d6_5 (pc' := 6) rfl rfl rfl ?_
  refine go_getfield C (wd hw 24 rfl) F3 d6_6 (pc' := 9) rfl ?_
  refine go_iconst C (1 : Int32) d6_9 (pc' := 10) rfl (by decide) ?_
  refine go_isub C d6_10 (pc' := 11) rfl ?_
  rw [(by decide : (1 : Int32) - (1 : Int32) = (0 : Int32))]
  refine go_privateP C (as := [.int (0 : Int32)]) (rest := [.ref r]) (W := 1) (.int (0 : Int32)) (sat_slot l Z a0 hw a r (3 : Int32) (0 : Int32) (0 : Int32) (0 : Int32) _ _ _ F1 F2 A1 rfl (by decide)) E1 (wd hw 26 rfl) (wd hw 28 rfl) (own_selects_private (wd hw 3 rfl) (wd hw 28 rfl) (wd hw 27 rfl) (by decide)) (wd hw 27 rfl) (wd hw 4 rfl) (wd hw 29 rfl) (by decide) pd_4 rfl rfl rfl (by decide) (by decide) rfl rfl (by decide) (by decide) d6_11 (pc' := 14) rfl rfl ?_
  refine go_laload C A1 0 (.long v0) (by decide) rfl d6_14 (pc' := 15) rfl ?_
  refine go_lreturn C rfl d6_15 (by decide) (by decide) ?_
  exact ⟨_, rfl, rfl, rfl⟩
set_option maxRecDepth 65536 in
set_option maxHeartbeats 40000000 in
theorem sat_new_3_0_2 (l : Launch) (Z : State) (a0 : Array Value) (hw : ∀ d ∈ tables_1, d.before a0 Z = true) (a r : Addr) (v0 v1 v2 : Int64) (h0 : Heap) (n0 : Nat) (E1 : Exa Z h0 a "com/example/throttld/throttld/SlidingLog$Log") (F1 : Fld Z h0 a "com/example/throttld/throttld/SlidingLog$Log" "ring" "[J" (.ref r)) (F2 : Fld Z h0 a "com/example/throttld/throttld/SlidingLog$Log" "head" "I" (.int (0 : Int32))) (F3 : Fld Z h0 a "com/example/throttld/throttld/SlidingLog$Log" "count" "I" (.int (2 : Int32))) (A1 : Av Z h0 r .long [.long v0, .long v1, .long v2]) (ga : n0 ≤ a) (gr : n0 ≤ r) :
    Sat l Z (⟨"com/example/throttld/throttld/SlidingLog$Log", "newest", "()J"⟩ : MethodName) prog_32_method_4_code 1 (some .long) ({ frames := 1, cells := 0, slots := 0, locals := 15 } : Room) [.ref a] h0 n0 (RV fun q h => q = .long v1 ∧ h = h0) := by
  refine sat_of (own := "com/example/throttld/throttld/SlidingLog$Log") (nm := "newest") rfl rfl (plainFor_of_name pn_1) #[.val (.ref a)] (fun m => by first | (simp [entryFrame, mkF, argsToLocals, Value.category, maxLocals]; done) | rfl) ?_
  intro p e s m below meth c C
  refine go_aloadN C d6_0 (pc' := 1) rfl rfl rfl ?_
  refine go_getfield C (wd hw 17 rfl) F1 d6_1 (pc' := 4) rfl ?_
  refine go_aloadN C d6_4 (pc' := 5) rfl rfl rfl ?_
  refine go_aloadN C d6_5 (pc' := 6) rfl rfl rfl ?_
  refine go_getfield C (wd hw 24 rfl) F3 d6_6 (pc' := 9) rfl ?_
  refine go_iconst C (1 : Int32) d6_9 (pc' := 10) rfl (by decide) ?_
  refine go_isub C d6_10 (pc' := 11) rfl ?_
  rw [(by decide : (2 : Int32) - (1 : Int32) = (1 : Int32))]
  refine go_privateP C (as := [.int (1 : Int32)]) (rest := [.ref r]) (W := 1) (.int (1 : Int32)) (sat_slot l Z a0 hw a r (3 : Int32) (0 : Int32) (1 : Int32) (1 : Int32) _ _ _ F1 F2 A1 rfl (by decide)) E1 (wd hw 26 rfl) (wd hw 28 rfl) (own_selects_private (wd hw 3 rfl) (wd hw 28 rfl) (wd hw 27 rfl) (by decide)) (wd hw 27 rfl) (wd hw 4 rfl) (wd hw 29 rfl) (by decide) pd_4 rfl rfl rfl (by decide) (by decide) rfl rfl (by decide) (by decide) d6_11 (pc' := 14) rfl rfl ?_
  refine go_laload C A1 1 (.long v1) (by decide) rfl d6_14 (pc' := 15) rfl ?_
  refine go_lreturn C rfl d6_15 (by decide) (by decide) ?_
  exact ⟨_, rfl, rfl, rfl⟩
set_option maxRecDepth 65536 in
set_option maxHeartbeats 40000000 in
theorem sat_new_3_0_3 (l : Launch) (Z : State) (a0 : Array Value) (hw : ∀ d ∈ tables_1, d.before a0 Z = true) (a r : Addr) (v0 v1 v2 : Int64) (h0 : Heap) (n0 : Nat) (E1 : Exa Z h0 a "com/example/throttld/throttld/SlidingLog$Log") (F1 : Fld Z h0 a "com/example/throttld/throttld/SlidingLog$Log" "ring" "[J" (.ref r)) (F2 : Fld Z h0 a "com/example/throttld/throttld/SlidingLog$Log" "head" "I" (.int (0 : Int32))) (F3 : Fld Z h0 a "com/example/throttld/throttld/SlidingLog$Log" "count" "I" (.int (3 : Int32))) (A1 : Av Z h0 r .long [.long v0, .long v1, .long v2]) (ga : n0 ≤ a) (gr : n0 ≤ r) :
    Sat l Z (⟨"com/example/throttld/throttld/SlidingLog$Log", "newest", "()J"⟩ : MethodName) prog_32_method_4_code 1 (some .long) ({ frames := 1, cells := 0, slots := 0, locals := 15 } : Room) [.ref a] h0 n0 (RV fun q h => q = .long v2 ∧ h = h0) := by
  refine sat_of (own := "com/example/throttld/throttld/SlidingLog$Log") (nm := "newest") rfl rfl (plainFor_of_name pn_1) #[.val (.ref a)] (fun m => by first | (simp [entryFrame, mkF, argsToLocals, Value.category, maxLocals]; done) | rfl) ?_
  intro p e s m below meth c C
  refine go_aloadN C d6_0 (pc' := 1) rfl rfl rfl ?_
  refine go_getfield C (wd hw 17 rfl) F1 d6_1 (pc' := 4) rfl ?_
  refine go_aloadN C d6_4 (pc' := 5) rfl rfl rfl ?_
  refine go_aloadN C d6_5 (pc' := 6) rfl rfl rfl ?_
  refine go_getfield C (wd hw 24 rfl) F3 d6_6 (pc' := 9) rfl ?_
  refine go_iconst C (1 : Int32) d6_9 (pc' := 10) rfl (by decide) ?_
  refine go_isub C d6_10 (pc' := 11) rfl ?_
  rw [(by decide : (3 : Int32) - (1 : Int32) = (2 : Int32))]
  refine go_privateP C (as := [.int (2 : Int32)]) (rest := [.ref r]) (W := 1) (.int (2 : Int32)) (sat_slot l Z a0 hw a r (3 : Int32) (0 : Int32) (2 : Int32) (2 : Int32) _ _ _ F1 F2 A1 rfl (by decide)) E1 (wd hw 26 rfl) (wd hw 28 rfl) (own_selects_private (wd hw 3 rfl) (wd hw 28 rfl) (wd hw 27 rfl) (by decide)) (wd hw 27 rfl) (wd hw 4 rfl) (wd hw 29 rfl) (by decide) pd_4 rfl rfl rfl (by decide) (by decide) rfl rfl (by decide) (by decide) d6_11 (pc' := 14) rfl rfl ?_
  refine go_laload C A1 2 (.long v2) (by decide) rfl d6_14 (pc' := 15) rfl ?_
  refine go_lreturn C rfl d6_15 (by decide) (by decide) ?_
  exact ⟨_, rfl, rfl, rfl⟩
set_option maxRecDepth 65536 in
set_option maxHeartbeats 40000000 in
theorem sat_new_3_1_1 (l : Launch) (Z : State) (a0 : Array Value) (hw : ∀ d ∈ tables_1, d.before a0 Z = true) (a r : Addr) (v0 v1 v2 : Int64) (h0 : Heap) (n0 : Nat) (E1 : Exa Z h0 a "com/example/throttld/throttld/SlidingLog$Log") (F1 : Fld Z h0 a "com/example/throttld/throttld/SlidingLog$Log" "ring" "[J" (.ref r)) (F2 : Fld Z h0 a "com/example/throttld/throttld/SlidingLog$Log" "head" "I" (.int (1 : Int32))) (F3 : Fld Z h0 a "com/example/throttld/throttld/SlidingLog$Log" "count" "I" (.int (1 : Int32))) (A1 : Av Z h0 r .long [.long v0, .long v1, .long v2]) (ga : n0 ≤ a) (gr : n0 ≤ r) :
    Sat l Z (⟨"com/example/throttld/throttld/SlidingLog$Log", "newest", "()J"⟩ : MethodName) prog_32_method_4_code 1 (some .long) ({ frames := 1, cells := 0, slots := 0, locals := 15 } : Room) [.ref a] h0 n0 (RV fun q h => q = .long v1 ∧ h = h0) := by
  refine sat_of (own := "com/example/throttld/throttld/SlidingLog$Log") (nm := "newest") rfl rfl (plainFor_of_name pn_1) #[.val (.ref a)] (fun m => by first | (simp [entryFrame, mkF, argsToLocals, Value.category, maxLocals]; done) | rfl) ?_
  intro p e s m below meth c C
  refine go_aloadN C d6_0 (pc' := 1) rfl rfl rfl ?_
  refine go_getfield C (wd hw 17 rfl) F1 d6_1 (pc' := 4) rfl ?_
  refine go_aloadN C d6_4 (pc' := 5) rfl rfl rfl ?_
  refine go_aloadN C d6_5 (pc' := 6) rfl rfl rfl ?_
  refine go_getfield C (wd hw 24 rfl) F3 d6_6 (pc' := 9) rfl ?_
  refine go_iconst C (1 : Int32) d6_9 (pc' := 10) rfl (by decide) ?_
  refine go_isub C d6_10 (pc' := 11) rfl ?_
  rw [(by decide : (1 : Int32) - (1 : Int32) = (0 : Int32))]
  refine go_privateP C (as := [.int (0 : Int32)]) (rest := [.ref r]) (W := 1) (.int (1 : Int32)) (sat_slot l Z a0 hw a r (3 : Int32) (1 : Int32) (0 : Int32) (1 : Int32) _ _ _ F1 F2 A1 rfl (by decide)) E1 (wd hw 26 rfl) (wd hw 28 rfl) (own_selects_private (wd hw 3 rfl) (wd hw 28 rfl) (wd hw 27 rfl) (by decide)) (wd hw 27 rfl) (wd hw 4 rfl) (wd hw 29 rfl) (by decide) pd_4 rfl rfl rfl (by decide) (by decide) rfl rfl (by decide) (by decide) d6_11 (pc' := 14) rfl rfl ?_
  refine go_laload C A1 1 (.long v1) (by decide) rfl d6_14 (pc' := 15) rfl ?_
  refine go_lreturn C rfl d6_15 (by decide) (by decide) ?_
  exact ⟨_, rfl, rfl, rfl⟩
set_option maxRecDepth 65536 in
set_option maxHeartbeats 40000000 in
theorem sat_new_3_1_2 (l : Launch) (Z : State) (a0 : Array Value) (hw : ∀ d ∈ tables_1, d.before a0 Z = true) (a r : Addr) (v0 v1 v2 : Int64) (h0 : Heap) (n0 : Nat) (E1 : Exa Z h0 a "com/example/throttld/throttld/SlidingLog$Log") (F1 : Fld Z h0 a "com/example/throttld/throttld/SlidingLog$Log" "ring" "[J" (.ref r)) (F2 : Fld Z h0 a "com/example/throttld/throttld/SlidingLog$Log" "head" "I" (.int (1 : Int32))) (F3 : Fld Z h0 a "com/example/throttld/throttld/SlidingLog$Log" "count" "I" (.int (2 : Int32))) (A1 : Av Z h0 r .long [.long v0, .long v1, .long v2]) (ga : n0 ≤ a) (gr : n0 ≤ r) :
    Sat l Z (⟨"com/example/throttld/throttld/SlidingLog$Log", "newest", "()J"⟩ : MethodName) prog_32_method_4_code 1 (some .long) ({ frames := 1, cells := 0, slots := 0, locals := 15 } : Room) [.ref a] h0 n0 (RV fun q h => q = .long v2 ∧ h = h0) := by
  refine sat_of (own := "com/example/throttld/throttld/SlidingLog$Log") (nm := "newest") rfl rfl (plainFor_of_name pn_1) #[.val (.ref a)] (fun m => by first | (simp [entryFrame, mkF, argsToLocals, Value.category, maxLocals]; done) | rfl) ?_
  intro p e s m below meth c C
  refine go_aloadN C d6_0 (pc' := 1) rfl rfl rfl ?_
  refine go_getfield C (wd hw 17 rfl) F1 d6_1 (pc' := 4) rfl ?_
  refine go_aloadN C d6_4 (pc' := 5) rfl rfl rfl ?_
  refine go_aloadN C d6_5 (pc' := 6) rfl rfl rfl ?_
  refine go_getfield C (wd hw 24 rfl) F3 d6_6 (pc' := 9) rfl ?_
  refine go_iconst C (1 : Int32) d6_9 (pc' := 10) rfl (by decide) ?_
  refine go_isub C d6_10 (pc' := 11) rfl ?_
  rw [(by decide : (2 : Int32) - (1 : Int32) = (1 : Int32))]
  refine go_privateP C (as := [.int (1 : Int32)]) (rest := [.ref r]) (W := 1) (.int (2 : Int32)) (sat_slot l Z a0 hw a r (3 : Int32) (1 : Int32) (1 : Int32) (2 : Int32) _ _ _ F1 F2 A1 rfl (by decide)) E1 (wd hw 26 rfl) (wd hw 28 rfl) (own_selects_private (wd hw 3 rfl) (wd hw 28 rfl) (wd hw 27 rfl) (by decide)) (wd hw 27 rfl) (wd hw 4 rfl) (wd hw 29 rfl) (by decide) pd_4 rfl rfl rfl (by decide) (by decide) rfl rfl (by decide) (by decide) d6_11 (pc' := 14) rfl rfl ?_
  refine go_laload C A1 2 (.long v2) (by decide) rfl d6_14 (pc' := 15) rfl ?_
  refine go_lreturn C rfl d6_15 (by decide) (by decide) ?_
  exact ⟨_, rfl, rfl, rfl⟩
set_option maxRecDepth 65536 in
set_option maxHeartbeats 40000000 in
theorem sat_new_3_1_3 (l : Launch) (Z : State) (a0 : Array Value) (hw : ∀ d ∈ tables_1, d.before a0 Z = true) (a r : Addr) (v0 v1 v2 : Int64) (h0 : Heap) (n0 : Nat) (E1 : Exa Z h0 a "com/example/throttld/throttld/SlidingLog$Log") (F1 : Fld Z h0 a "com/example/throttld/throttld/SlidingLog$Log" "ring" "[J" (.ref r)) (F2 : Fld Z h0 a "com/example/throttld/throttld/SlidingLog$Log" "head" "I" (.int (1 : Int32))) (F3 : Fld Z h0 a "com/example/throttld/throttld/SlidingLog$Log" "count" "I" (.int (3 : Int32))) (A1 : Av Z h0 r .long [.long v0, .long v1, .long v2]) (ga : n0 ≤ a) (gr : n0 ≤ r) :
    Sat l Z (⟨"com/example/throttld/throttld/SlidingLog$Log", "newest", "()J"⟩ : MethodName) prog_32_method_4_code 1 (some .long) ({ frames := 1, cells := 0, slots := 0, locals := 15 } : Room) [.ref a] h0 n0 (RV fun q h => q = .long v0 ∧ h = h0) := by
  refine sat_of (own := "com/example/throttld/throttld/SlidingLog$Log") (nm := "newest") rfl rfl (plainFor_of_name pn_1) #[.val (.ref a)] (fun m => by first | (simp [entryFrame, mkF, argsToLocals, Value.category, maxLocals]; done) | rfl) ?_
  intro p e s m below meth c C
  refine go_aloadN C d6_0 (pc' := 1) rfl rfl rfl ?_
  refine go_getfield C (wd hw 17 rfl) F1 d6_1 (pc' := 4) rfl ?_
  refine go_aloadN C d6_4 (pc' := 5) rfl rfl rfl ?_
  refine go_aloadN C d6_5 (pc' := 6) rfl rfl rfl ?_
  refine go_getfield C (wd hw 24 rfl) F3 d6_6 (pc' := 9) rfl ?_
  refine go_iconst C (1 : Int32) d6_9 (pc' := 10) rfl (by decide) ?_
  refine go_isub C d6_10 (pc' := 11) rfl ?_
  rw [(by decide : (3 : Int32) - (1 : Int32) = (2 : Int32))]
  refine go_privateP C (as := [.int (2 : Int32)]) (rest := [.ref r]) (W := 1) (.int (0 : Int32)) (sat_slot l Z a0 hw a r (3 : Int32) (1 : Int32) (2 : Int32) (0 : Int32) _ _ _ F1 F2 A1 rfl (by decide)) E1 (wd hw 26 rfl) (wd hw 28 rfl) (own_selects_private (wd hw 3 rfl) (wd hw 28 rfl) (wd hw 27 rfl) (by decide)) (wd hw 27 rfl) (wd hw 4 rfl) (wd hw 29 rfl) (by decide) pd_4 rfl rfl rfl (by decide) (by decide) rfl rfl (by decide) (by decide) d6_11 (pc' := 14) rfl rfl ?_
  refine go_laload C A1 0 (.long v0) (by decide) rfl d6_14 (pc' := 15) rfl ?_
  refine go_lreturn C rfl d6_15 (by decide) (by decide) ?_
  exact ⟨_, rfl, rfl, rfl⟩
set_option maxRecDepth 65536 in
set_option maxHeartbeats 40000000 in
theorem sat_new_3_2_1 (l : Launch) (Z : State) (a0 : Array Value) (hw : ∀ d ∈ tables_1, d.before a0 Z = true) (a r : Addr) (v0 v1 v2 : Int64) (h0 : Heap) (n0 : Nat) (E1 : Exa Z h0 a "com/example/throttld/throttld/SlidingLog$Log") (F1 : Fld Z h0 a "com/example/throttld/throttld/SlidingLog$Log" "ring" "[J" (.ref r)) (F2 : Fld Z h0 a "com/example/throttld/throttld/SlidingLog$Log" "head" "I" (.int (2 : Int32))) (F3 : Fld Z h0 a "com/example/throttld/throttld/SlidingLog$Log" "count" "I" (.int (1 : Int32))) (A1 : Av Z h0 r .long [.long v0, .long v1, .long v2]) (ga : n0 ≤ a) (gr : n0 ≤ r) :
    Sat l Z (⟨"com/example/throttld/throttld/SlidingLog$Log", "newest", "()J"⟩ : MethodName) prog_32_method_4_code 1 (some .long) ({ frames := 1, cells := 0, slots := 0, locals := 15 } : Room) [.ref a] h0 n0 (RV fun q h => q = .long v2 ∧ h = h0) := by
  refine sat_of (own := "com/example/throttld/throttld/SlidingLog$Log") (nm := "newest") rfl rfl (plainFor_of_name pn_1) #[.val (.ref a)] (fun m => by first | (simp [entryFrame, mkF, argsToLocals, Value.category, maxLocals]; done) | rfl) ?_
  intro p e s m below meth c C
  refine go_aloadN C d6_0 (pc' := 1) rfl rfl rfl ?_
  refine go_getfield C (wd hw 17 rfl) F1 d6_1 (pc' := 4) rfl ?_
  refine go_aloadN C d6_4 (pc' := 5) rfl rfl rfl ?_
  refine go_aloadN C d6_5 (pc' := 6) rfl rfl rfl ?_
  refine go_getfield C (wd hw 24 rfl) F3 d6_6 (pc' := 9) rfl ?_
  refine go_iconst C (1 : Int32) d6_9 (pc' := 10) rfl (by decide) ?_
  refine go_isub C d6_10 (pc' := 11) rfl ?_
  rw [(by decide : (1 : Int32) - (1 : Int32) = (0 : Int32))]
  refine go_privateP C (as := [.int (0 : Int32)]) (rest := [.ref r]) (W := 1) (.int (2 : Int32)) (sat_slot l Z a0 hw a r (3 : Int32) (2 : Int32) (0 : Int32) (2 : Int32) _ _ _ F1 F2 A1 rfl (by decide)) E1 (wd hw 26 rfl) (wd hw 28 rfl) (own_selects_private (wd hw 3 rfl) (wd hw 28 rfl) (wd hw 27 rfl) (by decide)) (wd hw 27 rfl) (wd hw 4 rfl) (wd hw 29 rfl) (by decide) pd_4 rfl rfl rfl (by decide) (by decide) rfl rfl (by decide) (by decide) d6_11 (pc' := 14) rfl rfl ?_
  refine go_laload C A1 2 (.long v2) (by decide) rfl d6_14 (pc' := 15) rfl ?_
  refine go_lreturn C rfl d6_15 (by decide) (by decide) ?_
  exact ⟨_, rfl, rfl, rfl⟩
set_option maxRecDepth 65536 in
set_option maxHeartbeats 40000000 in
theorem sat_new_3_2_2 (l : Launch) (Z : State) (a0 : Array Value) (hw : ∀ d ∈ tables_1, d.before a0 Z = true) (a r : Addr) (v0 v1 v2 : Int64) (h0 : Heap) (n0 : Nat) (E1 : Exa Z h0 a "com/example/throttld/throttld/SlidingLog$Log") (F1 : Fld Z h0 a "com/example/throttld/throttld/SlidingLog$Log" "ring" "[J" (.ref r)) (F2 : Fld Z h0 a "com/example/throttld/throttld/SlidingLog$Log" "head" "I" (.int (2 : Int32))) (F3 : Fld Z h0 a "com/example/throttld/throttld/SlidingLog$Log" "count" "I" (.int (2 : Int32))) (A1 : Av Z h0 r .long [.long v0, .long v1, .long v2]) (ga : n0 ≤ a) (gr : n0 ≤ r) :
    Sat l Z (⟨"com/example/throttld/throttld/SlidingLog$Log", "newest", "()J"⟩ : MethodName) prog_32_method_4_code 1 (some .long) ({ frames := 1, cells := 0, slots := 0, locals := 15 } : Room) [.ref a] h0 n0 (RV fun q h => q = .long v0 ∧ h = h0) := by
  refine sat_of (own := "com/example/throttld/throttld/SlidingLog$Log") (nm := "newest") rfl rfl (plainFor_of_name pn_1) #[.val (.ref a)] (fun m => by first | (simp [entryFrame, mkF, argsToLocals, Value.category, maxLocals]; done) | rfl) ?_
  intro p e s m below meth c C
  refine go_aloadN C d6_0 (pc' := 1) rfl rfl rfl ?_
  refine go_getfield C (wd hw 17 rfl) F1 d6_1 (pc' := 4) rfl ?_
  refine go_aloadN C d6_4 (pc' := 5) rfl rfl rfl ?_
  refine go_aloadN C d6_5 (pc' := 6) rfl rfl rfl ?_
  refine go_getfield C (wd hw 24 rfl) F3 d6_6 (pc' := 9) rfl ?_
  refine go_iconst C (1 : Int32) d6_9 (pc' := 10) rfl (by decide) ?_
  refine go_isub C d6_10 (pc' := 11) rfl ?_
  rw [(by decide : (2 : Int32) - (1 : Int32) = (1 : Int32))]
  refine go_privateP C (as := [.int (1 : Int32)]) (rest := [.ref r]) (W := 1) (.int (0 : Int32)) (sat_slot l Z a0 hw a r (3 : Int32) (2 : Int32) (1 : Int32) (0 : Int32) _ _ _ F1 F2 A1 rfl (by decide)) E1 (wd hw 26 rfl) (wd hw 28 rfl) (own_selects_private (wd hw 3 rfl) (wd hw 28 rfl) (wd hw 27 rfl) (by decide)) (wd hw 27 rfl) (wd hw 4 rfl) (wd hw 29 rfl) (by decide) pd_4 rfl rfl rfl (by decide) (by decide) rfl rfl (by decide) (by decide) d6_11 (pc' := 14) rfl rfl ?_
  refine go_laload C A1 0 (.long v0) (by decide) rfl d6_14 (pc' := 15) rfl ?_
  refine go_lreturn C rfl d6_15 (by decide) (by decide) ?_
  exact ⟨_, rfl, rfl, rfl⟩
set_option maxRecDepth 65536 in
set_option maxHeartbeats 40000000 in
theorem sat_new_4_0_1 (l : Launch) (Z : State) (a0 : Array Value) (hw : ∀ d ∈ tables_1, d.before a0 Z = true) (a r : Addr) (v0 v1 v2 v3 : Int64) (h0 : Heap) (n0 : Nat) (E1 : Exa Z h0 a "com/example/throttld/throttld/SlidingLog$Log") (F1 : Fld Z h0 a "com/example/throttld/throttld/SlidingLog$Log" "ring" "[J" (.ref r)) (F2 : Fld Z h0 a "com/example/throttld/throttld/SlidingLog$Log" "head" "I" (.int (0 : Int32))) (F3 : Fld Z h0 a "com/example/throttld/throttld/SlidingLog$Log" "count" "I" (.int (1 : Int32))) (A1 : Av Z h0 r .long [.long v0, .long v1, .long v2, .long v3]) (ga : n0 ≤ a) (gr : n0 ≤ r) :
    Sat l Z (⟨"com/example/throttld/throttld/SlidingLog$Log", "newest", "()J"⟩ : MethodName) prog_32_method_4_code 1 (some .long) ({ frames := 1, cells := 0, slots := 0, locals := 15 } : Room) [.ref a] h0 n0 (RV fun q h => q = .long v0 ∧ h = h0) := by
  refine sat_of (own := "com/example/throttld/throttld/SlidingLog$Log") (nm := "newest") rfl rfl (plainFor_of_name pn_1) #[.val (.ref a)] (fun m => by first | (simp [entryFrame, mkF, argsToLocals, Value.category, maxLocals]; done) | rfl) ?_
  intro p e s m below meth c C
  refine go_aloadN C d6_0 (pc' := 1) rfl rfl rfl ?_
  refine go_getfield C (wd hw 17 rfl) F1 d6_1 (pc' := 4) rfl ?_
  refine go_aloadN C d6_4 (pc' := 5) rfl rfl rfl ?_
  refine go_aloadN C d6_5 (pc' := 6) rfl rfl rfl ?_
  refine go_getfield C (wd hw 24 rfl) F3 d6_6 (pc' := 9) rfl ?_
  refine go_iconst C (1 : Int32) d6_9 (pc' := 10) rfl (by decide) ?_
  refine go_isub C d6_10 (pc' := 11) rfl ?_
  rw [(by decide : (1 : Int32) - (1 : Int32) = (0 : Int32))]
  refine go_privateP C (as := [.int (0 : Int32)]) (rest := [.ref r]) (W := 1) (.int (0 : Int32)) (sat_slot l Z a0 hw a r (4 : Int32) (0 : Int32) (0 : Int32) (0 : Int32) _ _ _ F1 F2 A1 rfl (by decide)) E1 (wd hw 26 rfl) (wd hw 28 rfl) (own_selects_private (wd hw 3 rfl) (wd hw 28 rfl) (wd hw 27 rfl) (by decide)) (wd hw 27 rfl) (wd hw 4 rfl) (wd hw 29 rfl) (by decide) pd_4 rfl rfl rfl (by decide) (by decide) rfl rfl (by decide) (by decide) d6_11 (pc' := 14) rfl rfl ?_
  refine go_laload C A1 0 (.long v0) (by decide) rfl d6_14 (pc' := 15) rfl ?_
  refine go_lreturn C rfl d6_15 (by decide) (by decide) ?_
  exact ⟨_, rfl, rfl, rfl⟩
set_option maxRecDepth 65536 in
set_option maxHeartbeats 40000000 in
theorem sat_new_4_0_2 (l : Launch) (Z : State) (a0 : Array Value) (hw : ∀ d ∈ tables_1, d.before a0 Z = true) (a r : Addr) (v0 v1 v2 v3 : Int64) (h0 : Heap) (n0 : Nat) (E1 : Exa Z h0 a "com/example/throttld/throttld/SlidingLog$Log") (F1 : Fld Z h0 a "com/example/throttld/throttld/SlidingLog$Log" "ring" "[J" (.ref r)) (F2 : Fld Z h0 a "com/example/throttld/throttld/SlidingLog$Log" "head" "I" (.int (0 : Int32))) (F3 : Fld Z h0 a "com/example/throttld/throttld/SlidingLog$Log" "count" "I" (.int (2 : Int32))) (A1 : Av Z h0 r .long [.long v0, .long v1, .long v2, .long v3]) (ga : n0 ≤ a) (gr : n0 ≤ r) :
    Sat l Z (⟨"com/example/throttld/throttld/SlidingLog$Log", "newest", "()J"⟩ : MethodName) prog_32_method_4_code 1 (some .long) ({ frames := 1, cells := 0, slots := 0, locals := 15 } : Room) [.ref a] h0 n0 (RV fun q h => q = .long v1 ∧ h = h0) := by
  refine sat_of (own := "com/example/throttld/throttld/SlidingLog$Log") (nm := "newest") rfl rfl (plainFor_of_name pn_1) #[.val (.ref a)] (fun m => by first | (simp [entryFrame, mkF, argsToLocals, Value.category, maxLocals]; done) | rfl) ?_
  intro p e s m below meth c C
  refine go_aloadN C d6_0 (pc' := 1) rfl rfl rfl ?_
  refine go_getfield C (wd hw 17 rfl) F1 d6_1 (pc' := 4) rfl ?_
  refine go_aloadN C d6_4 (pc' := 5) rfl rfl rfl ?_
  refine go_aloadN C d6_5 (pc' := 6) rfl rfl rfl ?_
  refine go_getfield C (wd hw 24 rfl) F3 d6_6 (pc' := 9) rfl ?_
  refine go_iconst C (1 : Int32) d6_9 (pc' := 10) rfl (by decide) ?_
  refine go_isub C d6_10 (pc' := 11) rfl ?_
  rw [(by decide : (2 : Int32) - (1 : Int32) = (1 : Int32))]
  refine go_privateP C (as := [.int (1 : Int32)]) (rest := [.ref r]) (W := 1) (.int (1 : Int32)) (sat_slot l Z a0 hw a r (4 : Int32) (0 : Int32) (1 : Int32) (1 : Int32) _ _ _ F1 F2 A1 rfl (by decide)) E1 (wd hw 26 rfl) (wd hw 28 rfl) (own_selects_private (wd hw 3 rfl) (wd hw 28 rfl) (wd hw 27 rfl) (by decide)) (wd hw 27 rfl) (wd hw 4 rfl) (wd hw 29 rfl) (by decide) pd_4 rfl rfl rfl (by decide) (by decide) rfl rfl (by decide) (by decide) d6_11 (pc' := 14) rfl rfl ?_
  refine go_laload C A1 1 (.long v1) (by decide) rfl d6_14 (pc' := 15) rfl ?_
  refine go_lreturn C rfl d6_15 (by decide) (by decide) ?_
  exact ⟨_, rfl, rfl, rfl⟩
set_option maxRecDepth 65536 in
set_option maxHeartbeats 40000000 in
theorem sat_new_4_0_3 (l : Launch) (Z : State) (a0 : Array Value) (hw : ∀ d ∈ tables_1, d.before a0 Z = true) (a r : Addr) (v0 v1 v2 v3 : Int64) (h0 : Heap) (n0 : Nat) (E1 : Exa Z h0 a "com/example/throttld/throttld/SlidingLog$Log") (F1 : Fld Z h0 a "com/example/throttld/throttld/SlidingLog$Log" "ring" "[J" (.ref r)) (F2 : Fld Z h0 a "com/example/throttld/throttld/SlidingLog$Log" "head" "I" (.int (0 : Int32))) (F3 : Fld Z h0 a "com/example/throttld/throttld/SlidingLog$Log" "count" "I" (.int (3 : Int32))) (A1 : Av Z h0 r .long [.long v0, .long v1, .long v2, .long v3]) (ga : n0 ≤ a) (gr : n0 ≤ r) :
    Sat l Z (⟨"com/example/throttld/throttld/SlidingLog$Log", "newest", "()J"⟩ : MethodName) prog_32_method_4_code 1 (some .long) ({ frames := 1, cells := 0, slots := 0, locals := 15 } : Room) [.ref a] h0 n0 (RV fun q h => q = .long v2 ∧ h = h0) := by
  refine sat_of (own := "com/example/throttld/throttld/SlidingLog$Log") (nm := "newest") rfl rfl (plainFor_of_name pn_1) #[.val (.ref a)] (fun m => by first | (simp [entryFrame, mkF, argsToLocals, Value.category, maxLocals]; done) | rfl) ?_
  intro p e s m below meth c C
  refine go_aloadN C d6_0 (pc' := 1) rfl rfl rfl ?_
  refine go_getfield C (wd hw 17 rfl) F1 d6_1 (pc' := 4) rfl ?_
  refine go_aloadN C d6_4 (pc' := 5) rfl rfl rfl ?_
  refine go_aloadN C d6_5 (pc' := 6) rfl rfl rfl ?_
  refine go_getfield C (wd hw 24 rfl) F3 d6_6 (pc' := 9) rfl ?_
  refine go_iconst C (1 : Int32) d6_9 (pc' := 10) rfl (by decide) ?_
  refine go_isub C d6_10 (pc' := 11) rfl ?_
  rw [(by decide : (3 : Int32) - (1 : Int32) = (2 : Int32))]
  refine go_privateP C (as := [.int (2 : Int32)]) (rest := [.ref r]) (W := 1) (.int (2 : Int32)) (sat_slot l Z a0 hw a r (4 : Int32) (0 : Int32) (2 : Int32) (2 : Int32) _ _ _ F1 F2 A1 rfl (by decide)) E1 (wd hw 26 rfl) (wd hw 28 rfl) (own_selects_private (wd hw 3 rfl) (wd hw 28 rfl) (wd hw 27 rfl) (by decide)) (wd hw 27 rfl) (wd hw 4 rfl) (wd hw 29 rfl) (by decide) pd_4 rfl rfl rfl (by decide) (by decide) rfl rfl (by decide) (by decide) d6_11 (pc' := 14) rfl rfl ?_
  refine go_laload C A1 2 (.long v2) (by decide) rfl d6_14 (pc' := 15) rfl ?_
  refine go_lreturn C rfl d6_15 (by decide) (by decide) ?_
  exact ⟨_, rfl, rfl, rfl⟩
set_option maxRecDepth 65536 in
set_option maxHeartbeats 40000000 in
theorem sat_new_4_0_4 (l : Launch) (Z : State) (a0 : Array Value) (hw : ∀ d ∈ tables_1, d.before a0 Z = true) (a r : Addr) (v0 v1 v2 v3 : Int64) (h0 : Heap) (n0 : Nat) (E1 : Exa Z h0 a "com/example/throttld/throttld/SlidingLog$Log") (F1 : Fld Z h0 a "com/example/throttld/throttld/SlidingLog$Log" "ring" "[J" (.ref r)) (F2 : Fld Z h0 a "com/example/throttld/throttld/SlidingLog$Log" "head" "I" (.int (0 : Int32))) (F3 : Fld Z h0 a "com/example/throttld/throttld/SlidingLog$Log" "count" "I" (.int (4 : Int32))) (A1 : Av Z h0 r .long [.long v0, .long v1, .long v2, .long v3]) (ga : n0 ≤ a) (gr : n0 ≤ r) :
    Sat l Z (⟨"com/example/throttld/throttld/SlidingLog$Log", "newest", "()J"⟩ : MethodName) prog_32_method_4_code 1 (some .long) ({ frames := 1, cells := 0, slots := 0, locals := 15 } : Room) [.ref a] h0 n0 (RV fun q h => q = .long v3 ∧ h = h0) := by
  refine sat_of (own := "com/example/throttld/throttld/SlidingLog$Log") (nm := "newest") rfl rfl (plainFor_of_name pn_1) #[.val (.ref a)] (fun m => by first | (simp [entryFrame, mkF, argsToLocals, Value.category, maxLocals]; done) | rfl) ?_
  intro p e s m below meth c C
  refine go_aloadN C d6_0 (pc' := 1) rfl rfl rfl ?_
  refine go_getfield C (wd hw 17 rfl) F1 d6_1 (pc' := 4) rfl ?_
  refine go_aloadN C d6_4 (pc' := 5) rfl rfl rfl ?_
  refine go_aloadN C d6_5 (pc' := 6) rfl rfl rfl ?_
  refine go_getfield C (wd hw 24 rfl) F3 d6_6 (pc' := 9) rfl ?_
  refine go_iconst C (1 : Int32) d6_9 (pc' := 10) rfl (by decide) ?_
  refine go_isub C d6_10 (pc' := 11) rfl ?_
  rw [(by decide : (4 : Int32) - (1 : Int32) = (3 : Int32))]
  refine go_privateP C (as := [.int (3 : Int32)]) (rest := [.ref r]) (W := 1) (.int (3 : Int32)) (sat_slot l Z a0 hw a r (4 : Int32) (0 : Int32) (3 : Int32) (3 : Int32) _ _ _ F1 F2 A1 rfl (by decide)) E1 (wd hw 26 rfl) (wd hw 28 rfl) (own_selects_private (wd hw 3 rfl) (wd hw 28 rfl) (wd hw 27 rfl) (by decide)) (wd hw 27 rfl) (wd hw 4 rfl) (wd hw 29 rfl) (by decide) pd_4 rfl rfl rfl (by decide) (by decide) rfl rfl (by decide) (by decide) d6_11 (pc' := 14) rfl rfl ?_
  refine go_laload C A1 3 (.long v3) (by decide) rfl d6_14 (pc' := 15) rfl ?_
  refine go_lreturn C rfl d6_15 (by decide) (by decide) ?_
  exact ⟨_, rfl, rfl, rfl⟩
set_option maxRecDepth 65536 in
set_option maxHeartbeats 40000000 in
theorem sat_new_4_1_1 (l : Launch) (Z : State) (a0 : Array Value) (hw : ∀ d ∈ tables_1, d.before a0 Z = true) (a r : Addr) (v0 v1 v2 v3 : Int64) (h0 : Heap) (n0 : Nat) (E1 : Exa Z h0 a "com/example/throttld/throttld/SlidingLog$Log") (F1 : Fld Z h0 a "com/example/throttld/throttld/SlidingLog$Log" "ring" "[J" (.ref r)) (F2 : Fld Z h0 a "com/example/throttld/throttld/SlidingLog$Log" "head" "I" (.int (1 : Int32))) (F3 : Fld Z h0 a "com/example/throttld/throttld/SlidingLog$Log" "count" "I" (.int (1 : Int32))) (A1 : Av Z h0 r .long [.long v0, .long v1, .long v2, .long v3]) (ga : n0 ≤ a) (gr : n0 ≤ r) :
    Sat l Z (⟨"com/example/throttld/throttld/SlidingLog$Log", "newest", "()J"⟩ : MethodName) prog_32_method_4_code 1 (some .long) ({ frames := 1, cells := 0, slots := 0, locals := 15 } : Room) [.ref a] h0 n0 (RV fun q h => q = .long v1 ∧ h = h0) := by
  refine sat_of (own := "com/example/throttld/throttld/SlidingLog$Log") (nm := "newest") rfl rfl (plainFor_of_name pn_1) #[.val (.ref a)] (fun m => by first | (simp [entryFrame, mkF, argsToLocals, Value.category, maxLocals]; done) | rfl) ?_
  intro p e s m below meth c C
  refine go_aloadN C d6_0 (pc' := 1) rfl rfl rfl ?_
  refine go_getfield C (wd hw 17 rfl) F1 d6_1 (pc' := 4) rfl ?_
  refine go_aloadN C d6_4 (pc' := 5) rfl rfl rfl ?_
  refine go_aloadN C d6_5 (pc' := 6) rfl rfl rfl ?_
  refine go_getfield C (wd hw 24 rfl) F3 d6_6 (pc' := 9) rfl ?_
  refine go_iconst C (1 : Int32) d6_9 (pc' := 10) rfl (by decide) ?_
  refine go_isub C d6_10 (pc' := 11) rfl ?_
  rw [(by decide : (1 : Int32) - (1 : Int32) = (0 : Int32))]
  refine go_privateP C (as := [.int (0 : Int32)]) (rest := [.ref r]) (W := 1) (.int (1 : Int32)) (sat_slot l Z a0 hw a r (4 : Int32) (1 : Int32) (0 : Int32) (1 : Int32) _ _ _ F1 F2 A1 rfl (by decide)) E1 (wd hw 26 rfl) (wd hw 28 rfl) (own_selects_private (wd hw 3 rfl) (wd hw 28 rfl) (wd hw 27 rfl) (by decide)) (wd hw 27 rfl) (wd hw 4 rfl) (wd hw 29 rfl) (by decide) pd_4 rfl rfl rfl (by decide) (by decide) rfl rfl (by decide) (by decide) d6_11 (pc' := 14) rfl rfl ?_
  refine go_laload C A1 1 (.long v1) (by decide) rfl d6_14 (pc' := 15) rfl ?_
  refine go_lreturn C rfl d6_15 (by decide) (by decide) ?_
  exact ⟨_, rfl, rfl, rfl⟩
set_option maxRecDepth 65536 in
set_option maxHeartbeats 40000000 in
theorem sat_new_4_1_2 (l : Launch) (Z : State) (a0 : Array Value) (hw : ∀ d ∈ tables_1, d.before a0 Z = true) (a r : Addr) (v0 v1 v2 v3 : Int64) (h0 : Heap) (n0 : Nat) (E1 : Exa Z h0 a "com/example/throttld/throttld/SlidingLog$Log") (F1 : Fld Z h0 a "com/example/throttld/throttld/SlidingLog$Log" "ring" "[J" (.ref r)) (F2 : Fld Z h0 a "com/example/throttld/throttld/SlidingLog$Log" "head" "I" (.int (1 : Int32))) (F3 : Fld Z h0 a "com/example/throttld/throttld/SlidingLog$Log" "count" "I" (.int (2 : Int32))) (A1 : Av Z h0 r .long [.long v0, .long v1, .long v2, .long v3]) (ga : n0 ≤ a) (gr : n0 ≤ r) :
    Sat l Z (⟨"com/example/throttld/throttld/SlidingLog$Log", "newest", "()J"⟩ : MethodName) prog_32_method_4_code 1 (some .long) ({ frames := 1, cells := 0, slots := 0, locals := 15 } : Room) [.ref a] h0 n0 (RV fun q h => q = .long v2 ∧ h = h0) := by
  refine sat_of (own := "com/example/throttld/throttld/SlidingLog$Log") (nm := "newest") rfl rfl (plainFor_of_name pn_1) #[.val (.ref a)] (fun m => by first | (simp [entryFrame, mkF, argsToLocals, Value.category, maxLocals]; done) | rfl) ?_
  intro p e s m below meth c C
  refine go_aloadN C d6_0 (pc' := 1) rfl rfl rfl ?_
  refine go_getfield C (wd hw 17 rfl) F1 d6_1 (pc' := 4) rfl ?_
  refine go_aloadN C d6_4 (pc' := 5) rfl rfl rfl ?_
  refine go_aloadN C d6_5 (pc' := 6) rfl rfl rfl ?_
  refine go_getfield C (wd hw 24 rfl) F3 d6_6 (pc' := 9) rfl ?_
  refine go_iconst C (1 : Int32) d6_9 (pc' := 10) rfl (by decide) ?_
  refine go_isub C d6_10 (pc' := 11) rfl ?_
  rw [(by decide : (2 : Int32) - (1 : Int32) = (1 : Int32))]
  refine go_privateP C (as := [.int (1 : Int32)]) (rest := [.ref r]) (W := 1) (.int (2 : Int32)) (sat_slot l Z a0 hw a r (4 : Int32) (1 : Int32) (1 : Int32) (2 : Int32) _ _ _ F1 F2 A1 rfl (by decide)) E1 (wd hw 26 rfl) (wd hw 28 rfl) (own_selects_private (wd hw 3 rfl) (wd hw 28 rfl) (wd hw 27 rfl) (by decide)) (wd hw 27 rfl) (wd hw 4 rfl) (wd hw 29 rfl) (by decide) pd_4 rfl rfl rfl (by decide) (by decide) rfl rfl (by decide) (by decide) d6_11 (pc' := 14) rfl rfl ?_
  refine go_laload C A1 2 (.long v2) (by decide) rfl d6_14 (pc' := 15) rfl ?_
  refine go_lreturn C rfl d6_15 (by decide) (by decide) ?_
  exact ⟨_, rfl, rfl, rfl⟩
set_option maxRecDepth 65536 in
set_option maxHeartbeats 40000000 in
theorem sat_new_4_1_3 (l : Launch) (Z : State) (a0 : Array Value) (hw : ∀ d ∈ tables_1, d.before a0 Z = true) (a r : Addr) (v0 v1 v2 v3 : Int64) (h0 : Heap) (n0 : Nat) (E1 : Exa Z h0 a "com/example/throttld/throttld/SlidingLog$Log") (F1 : Fld Z h0 a "com/example/throttld/throttld/SlidingLog$Log" "ring" "[J" (.ref r)) (F2 : Fld Z h0 a "com/example/throttld/throttld/SlidingLog$Log" "head" "I" (.int (1 : Int32))) (F3 : Fld Z h0 a "com/example/throttld/throttld/SlidingLog$Log" "count" "I" (.int (3 : Int32))) (A1 : Av Z h0 r .long [.long v0, .long v1, .long v2, .long v3]) (ga : n0 ≤ a) (gr : n0 ≤ r) :
    Sat l Z (⟨"com/example/throttld/throttld/SlidingLog$Log", "newest", "()J"⟩ : MethodName) prog_32_method_4_code 1 (some .long) ({ frames := 1, cells := 0, slots := 0, locals := 15 } : Room) [.ref a] h0 n0 (RV fun q h => q = .long v3 ∧ h = h0) := by
  refine sat_of (own := "com/example/throttld/throttld/SlidingLog$Log") (nm := "newest") rfl rfl (plainFor_of_name pn_1) #[.val (.ref a)] (fun m => by first | (simp [entryFrame, mkF, argsToLocals, Value.category, maxLocals]; done) | rfl) ?_
  intro p e s m below meth c C
  refine go_aloadN C d6_0 (pc' := 1) rfl rfl rfl ?_
  refine go_getfield C (wd hw 17 rfl) F1 d6_1 (pc' := 4) rfl ?_
  refine go_aloadN C d6_4 (pc' := 5) rfl rfl rfl ?_
  refine go_aloadN C d6_5 (pc' := 6) rfl rfl rfl ?_
  refine go_getfield C (wd hw 24 rfl) F3 d6_6 (pc' := 9) rfl ?_
  refine go_iconst C (1 : Int32) d6_9 (pc' := 10) rfl (by decide) ?_
  refine go_isub C d6_10 (pc' := 11) rfl ?_
  rw [(by decide : (3 : Int32) - (1 : Int32) = (2 : Int32))]
  refine go_privateP C (as := [.int (2 : Int32)]) (rest := [.ref r]) (W := 1) (.int (3 : Int32)) (sat_slot l Z a0 hw a r (4 : Int32) (1 : Int32) (2 : Int32) (3 : Int32) _ _ _ F1 F2 A1 rfl (by decide)) E1 (wd hw 26 rfl) (wd hw 28 rfl) (own_selects_private (wd hw 3 rfl) (wd hw 28 rfl) (wd hw 27 rfl) (by decide)) (wd hw 27 rfl) (wd hw 4 rfl) (wd hw 29 rfl) (by decide) pd_4 rfl rfl rfl (by decide) (by decide) rfl rfl (by decide) (by decide) d6_11 (pc' := 14) rfl rfl ?_
  refine go_laload C A1 3 (.long v3) (by decide) rfl d6_14 (pc' := 15) rfl ?_
  refine go_lreturn C rfl d6_15 (by decide) (by decide) ?_
  exact ⟨_, rfl, rfl, rfl⟩
set_option maxRecDepth 65536 in
set_option maxHeartbeats 40000000 in
theorem sat_new_4_2_1 (l : Launch) (Z : State) (a0 : Array Value) (hw : ∀ d ∈ tables_1, d.before a0 Z = true) (a r : Addr) (v0 v1 v2 v3 : Int64) (h0 : Heap) (n0 : Nat) (E1 : Exa Z h0 a "com/example/throttld/throttld/SlidingLog$Log") (F1 : Fld Z h0 a "com/example/throttld/throttld/SlidingLog$Log" "ring" "[J" (.ref r)) (F2 : Fld Z h0 a "com/example/throttld/throttld/SlidingLog$Log" "head" "I" (.int (2 : Int32))) (F3 : Fld Z h0 a "com/example/throttld/throttld/SlidingLog$Log" "count" "I" (.int (1 : Int32))) (A1 : Av Z h0 r .long [.long v0, .long v1, .long v2, .long v3]) (ga : n0 ≤ a) (gr : n0 ≤ r) :
    Sat l Z (⟨"com/example/throttld/throttld/SlidingLog$Log", "newest", "()J"⟩ : MethodName) prog_32_method_4_code 1 (some .long) ({ frames := 1, cells := 0, slots := 0, locals := 15 } : Room) [.ref a] h0 n0 (RV fun q h => q = .long v2 ∧ h = h0) := by
  refine sat_of (own := "com/example/throttld/throttld/SlidingLog$Log") (nm := "newest") rfl rfl (plainFor_of_name pn_1) #[.val (.ref a)] (fun m => by first | (simp [entryFrame, mkF, argsToLocals, Value.category, maxLocals]; done) | rfl) ?_
  intro p e s m below meth c C
  refine go_aloadN C d6_0 (pc' := 1) rfl rfl rfl ?_
  refine go_getfield C (wd hw 17 rfl) F1 d6_1 (pc' := 4) rfl ?_
  refine go_aloadN C d6_4 (pc' := 5) rfl rfl rfl ?_
  refine go_aloadN C d6_5 (pc' := 6) rfl rfl rfl ?_
  refine go_getfield C (wd hw 24 rfl) F3 d6_6 (pc' := 9) rfl ?_
  refine go_iconst C (1 : Int32) d6_9 (pc' := 10) rfl (by decide) ?_
  refine go_isub C d6_10 (pc' := 11) rfl ?_
  rw [(by decide : (1 : Int32) - (1 : Int32) = (0 : Int32))]
  refine go_privateP C (as := [.int (0 : Int32)]) (rest := [.ref r]) (W := 1) (.int (2 : Int32)) (sat_slot l Z a0 hw a r (4 : Int32) (2 : Int32) (0 : Int32) (2 : Int32) _ _ _ F1 F2 A1 rfl (by decide)) E1 (wd hw 26 rfl) (wd hw 28 rfl) (own_selects_private (wd hw 3 rfl) (wd hw 28 rfl) (wd hw 27 rfl) (by decide)) (wd hw 27 rfl) (wd hw 4 rfl) (wd hw 29 rfl) (by decide) pd_4 rfl rfl rfl (by decide) (by decide) rfl rfl (by decide) (by decide) d6_11 (pc' := 14) rfl rfl ?_
  refine go_laload C A1 2 (.long v2) (by decide) rfl d6_14 (pc' := 15) rfl ?_
  refine go_lreturn C rfl d6_15 (by decide) (by decide) ?_
  exact ⟨_, rfl, rfl, rfl⟩
set_option maxRecDepth 65536 in
set_option maxHeartbeats 40000000 in
theorem sat_new_4_2_2 (l : Launch) (Z : State) (a0 : Array Value) (hw : ∀ d ∈ tables_1, d.before a0 Z = true) (a r : Addr) (v0 v1 v2 v3 : Int64) (h0 : Heap) (n0 : Nat) (E1 : Exa Z h0 a "com/example/throttld/throttld/SlidingLog$Log") (F1 : Fld Z h0 a "com/example/throttld/throttld/SlidingLog$Log" "ring" "[J" (.ref r)) (F2 : Fld Z h0 a "com/example/throttld/throttld/SlidingLog$Log" "head" "I" (.int (2 : Int32))) (F3 : Fld Z h0 a "com/example/throttld/throttld/SlidingLog$Log" "count" "I" (.int (2 : Int32))) (A1 : Av Z h0 r .long [.long v0, .long v1, .long v2, .long v3]) (ga : n0 ≤ a) (gr : n0 ≤ r) :
    Sat l Z (⟨"com/example/throttld/throttld/SlidingLog$Log", "newest", "()J"⟩ : MethodName) prog_32_method_4_code 1 (some .long) ({ frames := 1, cells := 0, slots := 0, locals := 15 } : Room) [.ref a] h0 n0 (RV fun q h => q = .long v3 ∧ h = h0) := by
  refine sat_of (own := "com/example/throttld/throttld/SlidingLog$Log") (nm := "newest") rfl rfl (plainFor_of_name pn_1) #[.val (.ref a)] (fun m => by first | (simp [entryFrame, mkF, argsToLocals, Value.category, maxLocals]; done) | rfl) ?_
  intro p e s m below meth c C
  refine go_aloadN C d6_0 (pc' := 1) rfl rfl rfl ?_
  refine go_getfield C (wd hw 17 rfl) F1 d6_1 (pc' := 4) rfl ?_
  refine go_aloadN C d6_4 (pc' := 5) rfl rfl rfl ?_
  refine go_aloadN C d6_5 (pc' := 6) rfl rfl rfl ?_
  refine go_getfield C (wd hw 24 rfl) F3 d6_6 (pc' := 9) rfl ?_
  refine go_iconst C (1 : Int32) d6_9 (pc' := 10) rfl (by decide) ?_
  refine go_isub C d6_10 (pc' := 11) rfl ?_
  rw [(by decide : (2 : Int32) - (1 : Int32) = (1 : Int32))]
  refine go_privateP C (as := [.int (1 : Int32)]) (rest := [.ref r]) (W := 1) (.int (3 : Int32)) (sat_slot l Z a0 hw a r (4 : Int32) (2 : Int32) (1 : Int32) (3 : Int32) _ _ _ F1 F2 A1 rfl (by decide)) E1 (wd hw 26 rfl) (wd hw 28 rfl) (own_selects_private (wd hw 3 rfl) (wd hw 28 rfl) (wd hw 27 rfl) (by decide)) (wd hw 27 rfl) (wd hw 4 rfl) (wd hw 29 rfl) (by decide) pd_4 rfl rfl rfl (by decide) (by decide) rfl rfl (by decide) (by decide) d6_11 (pc' := 14) rfl rfl ?_
  refine go_laload C A1 3 (.long v3) (by decide) rfl d6_14 (pc' := 15) rfl ?_
  refine go_lreturn C rfl d6_15 (by decide) (by decide) ?_
  exact ⟨_, rfl, rfl, rfl⟩
set_option maxRecDepth 65536 in
set_option maxHeartbeats 40000000 in
theorem law_sat (l : Launch) (Z : State) (a0 : Array Value) (hw : ∀ d ∈ tables_1, d.before a0 Z = true) (x0 : Int32) (x1 x2 x3 x4 x5 : Int64)  :
    Sat l Z x code maxLocals ret room_1 [.int x0, .long x1, .long x2, .long x3, .long x4, .long x5] Z.heap Z.heap.size (RV fun r _ => r = .int 1) := by
  refine sat_of (own := "com/example/throttld/throttld/SlidingLogNewestPinLaw") (nm := "law") rfl rfl (plainFor_of_name pn_0) #[.val (.int x0), .val (.long x1), .second, .val (.long x2), .second, .val (.long x3), .second, .val (.long x4), .second, .val (.long x5), .second, .unset, .unset, .unset, .unset, .unset, .unset, .unset, .unset, .unset, .unset, .unset, .unset] (fun m => by first | (simp [entryFrame, mkF, argsToLocals, Value.category, maxLocals]; done) | rfl) ?_
  intro p e s m below meth c C
  refine go_iconst C (1 : Int32) at_0 (pc' := 1) rfl (by decide) ?_
  refine go_iloadN C at_1 (pc' := 2) rfl rfl ?_
  refine go_iconst C (3 : Int32) at_2 (pc' := 3) rfl (by decide) ?_
  refine go_iand C at_3 (pc' := 4) rfl ?_
  rcases own_k4 x0 with hn | hn | hn | hn
  · rw [hn]
    refine go_iadd C at_4 (pc' := 5) rfl ?_
    rw [(by decide : (1 : Int32) + (0 : Int32) = (1 : Int32))]
    refine go_istore C (Ls' := #[.val (.int x0), .val (.long x1), .second, .val (.long x2), .second, .val (.long x3), .second, .val (.long x4), .second, .val (.long x5), .second, .val (.int (1 : Int32)), .unset, .unset, .unset, .unset, .unset, .unset, .unset, .unset, .unset, .unset, .unset]) at_5 (pc' := 7) rfl rfl ?_
    refine go_iloadN C at_7 (pc' := 8) rfl rfl ?_
    refine go_iconst C (2 : Int32) at_8 (pc' := 9) rfl (by decide) ?_
    refine go_iushr C at_9 (pc' := 10) rfl ?_
    refine go_iconst C (1 : Int32) at_10 (pc' := 11) rfl (by decide) ?_
    refine go_iand C at_11 (pc' := 12) rfl ?_
    refine go_if0 C (((XT.ushr x0 (2 : Int32)) &&& (1 : Int32)).toInt) rfl at_12 (by decide) (pc' := 19) (by decide) (pcN := 15) rfl (fun (c_1 : (((XT.ushr x0 (2 : Int32)) &&& (1 : Int32)).toInt) = 0) => ?_) (fun (c_1 : ¬ (((XT.ushr x0 (2 : Int32)) &&& (1 : Int32)).toInt) = 0) => ?_)
    · skip
      refine go_iconst C (0 : Int32) at_19 (pc' := 20) rfl (by decide) ?_
      refine go_istore C (Ls' := #[.val (.int x0), .val (.long x1), .second, .val (.long x2), .second, .val (.long x3), .second, .val (.long x4), .second, .val (.long x5), .second, .val (.int (1 : Int32)), .val (.int (0 : Int32)), .unset, .unset, .unset, .unset, .unset, .unset, .unset, .unset, .unset, .unset]) at_20 (pc' := 22) rfl rfl ?_
      refine go_iloadN C at_22 (pc' := 23) rfl rfl ?_
      refine go_iconst C (3 : Int32) at_23 (pc' := 24) rfl (by decide) ?_
      refine go_iushr C at_24 (pc' := 25) rfl ?_
      refine go_iconst C (1 : Int32) at_25 (pc' := 26) rfl (by decide) ?_
      refine go_iand C at_26 (pc' := 27) rfl ?_
      refine go_if0 C (((XT.ushr x0 (3 : Int32)) &&& (1 : Int32)).toInt) rfl at_27 (by decide) (pc' := 34) (by decide) (pcN := 30) rfl (fun (c_2 : (((XT.ushr x0 (3 : Int32)) &&& (1 : Int32)).toInt) = 0) => ?_) (fun (c_2 : ¬ (((XT.ushr x0 (3 : Int32)) &&& (1 : Int32)).toInt) = 0) => ?_)
      · skip
        refine go_iconst C (0 : Int32) at_34 (pc' := 35) rfl (by decide) ?_
        refine go_istore C (Ls' := #[.val (.int x0), .val (.long x1), .second, .val (.long x2), .second, .val (.long x3), .second, .val (.long x4), .second, .val (.long x5), .second, .val (.int (1 : Int32)), .val (.int (0 : Int32)), .val (.int (0 : Int32)), .unset, .unset, .unset, .unset, .unset, .unset, .unset, .unset, .unset]) at_35 (pc' := 37) rfl rfl ?_
        refine go_lconst C (1 : Int64) at_37 (pc' := 38) rfl (by decide) ?_
        refine go_iloadN C at_38 (pc' := 39) rfl rfl ?_
        refine go_iconst C (4 : Int32) at_39 (pc' := 40) rfl (by decide) ?_
        refine go_iushr C at_40 (pc' := 41) rfl ?_
        refine go_ldc C (v := (65535 : Int32)) (wd hw 0 rfl) at_41 (pc' := 43) rfl ?_
        refine go_iand C at_43 (pc' := 44) rfl ?_
        refine go_i2l C at_44 (pc' := 45) rfl ?_
        refine go_ladd C at_45 (pc' := 46) rfl ?_
        refine go_lstore C (Ls' := #[.val (.int x0), .val (.long x1), .second, .val (.long x2), .second, .val (.long x3), .second, .val (.long x4), .second, .val (.long x5), .second, .val (.int (1 : Int32)), .val (.int (0 : Int32)), .val (.int (0 : Int32)), .val (.long ((1 : Int64) + (((XT.ushr x0 (4 : Int32)) &&& (65535 : Int32)).toInt64))), .second, .unset, .unset, .unset, .unset, .unset, .unset, .unset]) at_46 (pc' := 48) rfl rfl ?_
        refine go_ldc2 C (v := (4 : Int64)) (wd hw 1 rfl) at_48 (pc' := 51) rfl ?_
        refine go_lstore C (Ls' := #[.val (.int x0), .val (.long x1), .second, .val (.long x2), .second, .val (.long x3), .second, .val (.long x4), .second, .val (.long x5), .second, .val (.int (1 : Int32)), .val (.int (0 : Int32)), .val (.int (0 : Int32)), .val (.long ((1 : Int64) + (((XT.ushr x0 (4 : Int32)) &&& (65535 : Int32)).toInt64))), .second, .val (.long (4 : Int64)), .second, .unset, .unset, .unset, .unset, .unset]) at_51 (pc' := 53) rfl rfl ?_
        generalize (1 : Int64) + (((XT.ushr x0 (4 : Int32)) &&& (65535 : Int32)).toInt64) = win
        refine go_new C (wd hw 2 rfl) (wd hw 3 rfl) (wd hw 4 rfl) at_53 (pc' := 56) rfl (ce' := 1) (sl' := 7) rfl rfl (by decide) (by decide) ?_
        intro h_3 a_4 g_5 E_6 E_7 D_8
        have g_9 : Z.heap.size ≤ a_4 := own_ge (Nat.le_refl _) g_5
        have z_10 : Z.heap.size ≤ h_3.size := Nat.le_trans (Nat.le_refl _) E_6.1
        have F_11 : Fld Z h_3 a_4 "com/example/throttld/throttld/SlidingLog$Log" "ring" "[J" (.null) := D_8 (Or.inl (wd hw 18 rfl)) (ty := (.array .long)) (by decide)
        have F_12 : Fld Z h_3 a_4 "com/example/throttld/throttld/SlidingLog$Log" "count" "I" (.int (0 : Int32)) := D_8 (Or.inl (wd hw 25 rfl)) (ty := .int) (by decide)
        have F_13 : Fld Z h_3 a_4 "com/example/throttld/throttld/SlidingLog$Log" "head" "I" (.int (0 : Int32)) := D_8 (Or.inl (wd hw 31 rfl)) (ty := .int) (by decide)
        refine go_dup C at_56 (pc' := 57) rfl rfl ?_
        refine go_iload C at_57 (pc' := 59) rfl rfl ?_
        refine go_specialN C (as := [.int (1 : Int32)]) (rest := [.ref a_4]) (W := 1) (sat_init1 l Z a0 hw a_4 _ _ E_7 F_11 F_13 F_12 g_9 z_10) rfl (wd hw 5 rfl) (wd hw 6 rfl) (wd hw 4 rfl) (wd hw 7 rfl) (by decide) pd_1 rfl rfl rfl (by decide) (by decide) (ce' := 2) (sl' := 8) rfl rfl (by decide) (by decide) at_59 (pc' := 62) rfl rfl ?_
        intro h_14 q_15
        obtain ⟨r_16, g_17, E_18, F_19, F_20, F_21, A_22⟩ := q_15
        refine go_astore C (Ls' := #[.val (.int x0), .val (.long x1), .second, .val (.long x2), .second, .val (.long x3), .second, .val (.long x4), .second, .val (.long x5), .second, .val (.int (1 : Int32)), .val (.int (0 : Int32)), .val (.int (0 : Int32)), .val (.long win), .second, .val (.long (4 : Int64)), .second, .val (.ref a_4), .unset, .unset, .unset, .unset]) at_62 (pc' := 64) rfl rfl rfl ?_
        refine go_aload C at_64 (pc' := 66) rfl rfl rfl ?_
        refine go_lloadN C at_66 (pc' := 67) rfl rfl ?_
        refine go_lload C at_67 (pc' := 69) rfl rfl ?_
        refine go_virtualN C (as := [.long x1, .long (4 : Int64)]) (rest := []) (W := 0) (sat_add_1_0_0 l Z a0 hw a_4 r_16 (0 : Int64) x1 (4 : Int64) _ _ E_18 F_19 F_20 F_21 A_22 g_9 g_17) E_18 (wd hw 19 rfl) (wd hw 20 rfl) (wd hw 22 rfl) (wd hw 21 rfl) (wd hw 4 rfl) (wd hw 23 rfl) (by decide) pd_3 rfl rfl rfl (by decide) (by decide) (ce' := 2) (sl' := 8) rfl rfl (by decide) (by decide) at_69 (pc' := 72) rfl rfl ?_
        intro h_23 q_24
        obtain ⟨r_25, g_26, E_27, F_28, F_29, F_30, A_31⟩ := q_24
        refine go_lloadN C at_72 (pc' := 73) rfl rfl ?_
        refine go_lstore C (Ls' := #[.val (.int x0), .val (.long x1), .second, .val (.long x2), .second, .val (.long x3), .second, .val (.long x4), .second, .val (.long x5), .second, .val (.int (1 : Int32)), .val (.int (0 : Int32)), .val (.int (0 : Int32)), .val (.long win), .second, .val (.long (4 : Int64)), .second, .val (.ref a_4), .val (.long x1), .second, .unset, .unset]) at_73 (pc' := 75) rfl rfl ?_
        refine go_iload C at_75 (pc' := 77) rfl rfl ?_
        refine go_if0 C (0 : Int) (by decide) at_77 (by decide) (pc' := 91) (by decide) (pcN := 80) rfl (fun (c_32 : (0 : Int) = 0) => ?_) (fun (c_32 : ¬ (0 : Int) = 0) => by omega)
        refine go_aload C at_91 (pc' := 93) rfl rfl rfl ?_
        refine go_virtualP C (as := []) (rest := []) (W := 0) (.long x1) (sat_new_1_0_1 l Z a0 hw a_4 r_25 x1 _ _ E_27 F_28 F_29 F_30 A_31 g_9 g_26) E_27 (wd hw 32 rfl) (wd hw 33 rfl) (wd hw 35 rfl) (wd hw 34 rfl) (wd hw 4 rfl) (wd hw 36 rfl) (by decide) pd_5 rfl rfl rfl (by decide) (by decide) rfl rfl (by decide) (by decide) at_93 (pc' := 96) rfl rfl ?_
        refine go_lload C at_96 (pc' := 98) rfl rfl ?_
        refine go_lcmp C x1.toInt x1.toInt rfl rfl at_98 (pc1 := 99) rfl at_99 (by decide) (pc' := 106) (by decide) (pcN := 102) rfl (fun (c_33 : ¬ x1.toInt = x1.toInt) => by omega) (fun (c_33 : x1.toInt = x1.toInt) => ?_)
        refine go_iconst C (1 : Int32) at_102 (pc' := 103) rfl (by decide) ?_
        refine go_goto C at_103 (by decide) (pc' := 107) (by decide) ?_
        refine go_istore C (Ls' := #[.val (.int x0), .val (.long x1), .second, .val (.long x2), .second, .val (.long x3), .second, .val (.long x4), .second, .val (.long x5), .second, .val (.int (1 : Int32)), .val (.int (0 : Int32)), .val (.int (0 : Int32)), .val (.long win), .second, .val (.long (4 : Int64)), .second, .val (.ref a_4), .val (.long x1), .second, .val (.int (1 : Int32)), .unset]) at_107 (pc' := 109) rfl rfl ?_
        refine go_aload C at_109 (pc' := 111) rfl rfl rfl ?_
        refine go_lload C at_111 (pc' := 113) rfl rfl ?_
        refine go_lload C at_113 (pc' := 115) rfl rfl ?_
        refine go_virtualN C (as := [.long x5, .long win]) (rest := []) (W := 0) (sat_drop_1_0_1 l Z a0 hw a_4 r_25 x1 x5 win _ _ E_27 F_28 F_29 F_30 A_31 g_9 g_26) E_27 (wd hw 37 rfl) (wd hw 38 rfl) (wd hw 40 rfl) (wd hw 39 rfl) (wd hw 4 rfl) (wd hw 41 rfl) (by decide) pd_3 rfl rfl rfl (by decide) (by decide) (ce' := 2) (sl' := 8) rfl rfl (by decide) (by decide) at_115 (pc' := 118) rfl rfl ?_
        intro h_34 q_35
        rcases q_35 with q_35 | q_35
        · skip
          obtain ⟨hc_36, E_37, F_38, F_39, F_40, A_41⟩ := q_35
          refine go_lload C at_118 (pc' := 120) rfl rfl ?_
          refine go_lloadN C at_120 (pc' := 121) rfl rfl ?_
          refine go_lsub C at_121 (pc' := 122) rfl ?_
          refine go_lload C at_122 (pc' := 124) rfl rfl ?_
          refine go_lcmp C ((x5 - x1).toInt) win.toInt rfl rfl at_124 (pc1 := 125) rfl at_125 (by decide) (pc' := 147) (by decide) (pcN := 128) rfl (fun (c_42 : ((x5 - x1).toInt) < win.toInt) => ?_) (fun (c_42 : ¬ ((x5 - x1).toInt) < win.toInt) => by omega)
          refine go_iconst C (0 : Int32) at_147 (pc' := 148) rfl (by decide) ?_
          refine go_istore C (Ls' := #[.val (.int x0), .val (.long x1), .second, .val (.long x2), .second, .val (.long x3), .second, .val (.long x4), .second, .val (.long x5), .second, .val (.int (1 : Int32)), .val (.int (0 : Int32)), .val (.int (0 : Int32)), .val (.long win), .second, .val (.long (4 : Int64)), .second, .val (.ref a_4), .val (.long x1), .second, .val (.int (1 : Int32)), .val (.int (0 : Int32))]) at_148 (pc' := 150) rfl rfl ?_
          refine go_iload C at_150 (pc' := 152) rfl rfl ?_
          refine go_if0 C (0 : Int) (by decide) at_152 (by decide) (pc' := 178) (by decide) (pcN := 155) rfl (fun (c_43 : ¬ (0 : Int) = 0) => by omega) (fun (c_43 : (0 : Int) = 0) => ?_)
          refine go_iload C at_155 (pc' := 157) rfl rfl ?_
          refine go_if0 C (1 : Int) (by decide) at_157 (by decide) (pc' := 175) (by decide) (pcN := 160) rfl (fun (c_44 : (1 : Int) = 0) => by omega) (fun (c_44 : ¬ (1 : Int) = 0) => ?_)
          refine go_aload C at_160 (pc' := 162) rfl rfl rfl ?_
          refine go_virtualP C (as := []) (rest := []) (W := 0) (.long x1) (sat_new_1_0_1 l Z a0 hw a_4 r_25 x1 _ _ E_37 F_38 F_39 F_40 A_41 g_9 g_26) E_37 (wd hw 32 rfl) (wd hw 33 rfl) (wd hw 35 rfl) (wd hw 34 rfl) (wd hw 4 rfl) (wd hw 36 rfl) (by decide) pd_5 rfl rfl rfl (by decide) (by decide) rfl rfl (by decide) (by decide) at_162 (pc' := 165) rfl rfl ?_
          refine go_lload C at_165 (pc' := 167) rfl rfl ?_
          refine go_lcmp C x1.toInt x1.toInt rfl rfl at_167 (pc1 := 168) rfl at_168 (by decide) (pc' := 175) (by decide) (pcN := 171) rfl (fun (c_45 : ¬ x1.toInt = x1.toInt) => by omega) (fun (c_45 : x1.toInt = x1.toInt) => ?_)
          refine go_iconst C (1 : Int32) at_171 (pc' := 172) rfl (by decide) ?_
          refine go_goto C at_172 (by decide) (pc' := 176) (by decide) ?_
          refine go_istore C (Ls' := #[.val (.int x0), .val (.long x1), .second, .val (.long x2), .second, .val (.long x3), .second, .val (.long x4), .second, .val (.long x5), .second, .val (.int (1 : Int32)), .val (.int (0 : Int32)), .val (.int (0 : Int32)), .val (.long win), .second, .val (.long (4 : Int64)), .second, .val (.ref a_4), .val (.long x1), .second, .val (.int (1 : Int32)), .val (.int (0 : Int32))]) at_176 (pc' := 178) rfl rfl ?_
          refine go_aload C at_178 (pc' := 180) rfl rfl rfl ?_
          refine go_lload C at_180 (pc' := 182) rfl rfl ?_
          refine go_lload C at_182 (pc' := 184) rfl rfl ?_
          refine go_virtualN C (as := [.long x3, .long (4 : Int64)]) (rest := []) (W := 0) (sat_add_1_0_1 l Z a0 hw a_4 r_25 x1 x3  _ _ E_37 F_38 F_39 F_40 A_41 g_9 g_26) E_37 (wd hw 19 rfl) (wd hw 20 rfl) (wd hw 22 rfl) (wd hw 21 rfl) (wd hw 4 rfl) (wd hw 23 rfl) (by decide) pd_3 rfl rfl rfl (by decide) (by decide) (ce' := 3) (sl' := 10) rfl rfl (by decide) (by decide) at_184 (pc' := 187) rfl rfl ?_
          intro h_46 q_47
          obtain ⟨r_48, g_49, E_50, F_51, F_52, F_53, A_54⟩ := q_47
          refine go_lload C at_187 (pc' := 189) rfl rfl ?_
          refine go_lstore C (Ls' := #[.val (.int x0), .val (.long x1), .second, .val (.long x2), .second, .val (.long x3), .second, .val (.long x4), .second, .val (.long x5), .second, .val (.int (1 : Int32)), .val (.int (0 : Int32)), .val (.int (0 : Int32)), .val (.long win), .second, .val (.long (4 : Int64)), .second, .val (.ref a_4), .val (.long x3), .second, .val (.int (1 : Int32)), .val (.int (0 : Int32))]) at_189 (pc' := 191) rfl rfl ?_
          refine go_iload C at_191 (pc' := 193) rfl rfl ?_
          refine go_if0 C (0 : Int) (by decide) at_193 (by decide) (pc' := 209) (by decide) (pcN := 196) rfl (fun (c_55 : (0 : Int) = 0) => ?_) (fun (c_55 : ¬ (0 : Int) = 0) => by omega)
          refine go_iload C at_209 (pc' := 211) rfl rfl ?_
          refine go_if0 C (1 : Int) (by decide) at_211 (by decide) (pc' := 229) (by decide) (pcN := 214) rfl (fun (c_56 : (1 : Int) = 0) => by omega) (fun (c_56 : ¬ (1 : Int) = 0) => ?_)
          refine go_aload C at_214 (pc' := 216) rfl rfl rfl ?_
          refine go_virtualP C (as := []) (rest := []) (W := 0) (.long x3) (sat_new_2_0_2 l Z a0 hw a_4 r_48 x1 x3 _ _ E_50 F_51 F_52 F_53 A_54 g_9 g_49) E_50 (wd hw 32 rfl) (wd hw 33 rfl) (wd hw 35 rfl) (wd hw 34 rfl) (wd hw 4 rfl) (wd hw 36 rfl) (by decide) pd_5 rfl rfl rfl (by decide) (by decide) rfl rfl (by decide) (by decide) at_216 (pc' := 219) rfl rfl ?_
          refine go_lload C at_219 (pc' := 221) rfl rfl ?_
          refine go_lcmp C x3.toInt x3.toInt rfl rfl at_221 (pc1 := 222) rfl at_222 (by decide) (pc' := 229) (by decide) (pcN := 225) rfl (fun (c_57 : ¬ x3.toInt = x3.toInt) => by omega) (fun (c_57 : x3.toInt = x3.toInt) => ?_)
          refine go_iconst C (1 : Int32) at_225 (pc' := 226) rfl (by decide) ?_
          refine go_goto C at_226 (by decide) (pc' := 230) (by decide) ?_
          refine go_istore C (Ls' := #[.val (.int x0), .val (.long x1), .second, .val (.long x2), .second, .val (.long x3), .second, .val (.long x4), .second, .val (.long x5), .second, .val (.int (1 : Int32)), .val (.int (0 : Int32)), .val (.int (0 : Int32)), .val (.long win), .second, .val (.long (4 : Int64)), .second, .val (.ref a_4), .val (.long x3), .second, .val (.int (1 : Int32)), .val (.int (0 : Int32))]) at_230 (pc' := 232) rfl rfl ?_
          refine go_iload C at_232 (pc' := 234) rfl rfl ?_
          refine go_ireturnN C (z' := (1 : Int32)) rfl (by simp) rfl at_234 (by decide) (by decide) ?_
          exact ⟨_, rfl, rfl⟩
        · skip
          obtain ⟨hc_58, E_59, F_60, F_61, F_62, A_63⟩ := q_35
          refine go_lload C at_118 (pc' := 120) rfl rfl ?_
          refine go_lloadN C at_120 (pc' := 121) rfl rfl ?_
          refine go_lsub C at_121 (pc' := 122) rfl ?_
          refine go_lload C at_122 (pc' := 124) rfl rfl ?_
          refine go_lcmp C ((x5 - x1).toInt) win.toInt rfl rfl at_124 (pc1 := 125) rfl at_125 (by decide) (pc' := 147) (by decide) (pcN := 128) rfl (fun (c_64 : ((x5 - x1).toInt) < win.toInt) => by omega) (fun (c_64 : ¬ ((x5 - x1).toInt) < win.toInt) => ?_)
          refine go_iload C at_128 (pc' := 130) rfl rfl ?_
          refine go_if0 C (0 : Int) (by decide) at_130 (by decide) (pc' := 143) (by decide) (pcN := 133) rfl (fun (c_65 : (0 : Int) = 0) => ?_) (fun (c_65 : ¬ (0 : Int) = 0) => by omega)
          refine go_iconst C (1 : Int32) at_143 (pc' := 144) rfl (by decide) ?_
          refine go_goto C at_144 (by decide) (pc' := 148) (by decide) ?_
          refine go_istore C (Ls' := #[.val (.int x0), .val (.long x1), .second, .val (.long x2), .second, .val (.long x3), .second, .val (.long x4), .second, .val (.long x5), .second, .val (.int (1 : Int32)), .val (.int (0 : Int32)), .val (.int (0 : Int32)), .val (.long win), .second, .val (.long (4 : Int64)), .second, .val (.ref a_4), .val (.long x1), .second, .val (.int (1 : Int32)), .val (.int (1 : Int32))]) at_148 (pc' := 150) rfl rfl ?_
          refine go_iload C at_150 (pc' := 152) rfl rfl ?_
          refine go_if0 C (1 : Int) (by decide) at_152 (by decide) (pc' := 178) (by decide) (pcN := 155) rfl (fun (c_66 : ¬ (1 : Int) = 0) => ?_) (fun (c_66 : (1 : Int) = 0) => by omega)
          refine go_aload C at_178 (pc' := 180) rfl rfl rfl ?_
          refine go_lload C at_180 (pc' := 182) rfl rfl ?_
          refine go_lload C at_182 (pc' := 184) rfl rfl ?_
          refine go_virtualN C (as := [.long x3, .long (4 : Int64)]) (rest := []) (W := 0) (sat_add_1_0_0 l Z a0 hw a_4 r_25 x1 x3 (4 : Int64) _ _ E_59 F_60 F_61 F_62 A_63 g_9 g_26) E_59 (wd hw 19 rfl) (wd hw 20 rfl) (wd hw 22 rfl) (wd hw 21 rfl) (wd hw 4 rfl) (wd hw 23 rfl) (by decide) pd_3 rfl rfl rfl (by decide) (by decide) (ce' := 2) (sl' := 8) rfl rfl (by decide) (by decide) at_184 (pc' := 187) rfl rfl ?_
          intro h_67 q_68
          obtain ⟨r_69, g_70, E_71, F_72, F_73, F_74, A_75⟩ := q_68
          refine go_lload C at_187 (pc' := 189) rfl rfl ?_
          refine go_lstore C (Ls' := #[.val (.int x0), .val (.long x1), .second, .val (.long x2), .second, .val (.long x3), .second, .val (.long x4), .second, .val (.long x5), .second, .val (.int (1 : Int32)), .val (.int (0 : Int32)), .val (.int (0 : Int32)), .val (.long win), .second, .val (.long (4 : Int64)), .second, .val (.ref a_4), .val (.long x3), .second, .val (.int (1 : Int32)), .val (.int (1 : Int32))]) at_189 (pc' := 191) rfl rfl ?_
          refine go_iload C at_191 (pc' := 193) rfl rfl ?_
          refine go_if0 C (0 : Int) (by decide) at_193 (by decide) (pc' := 209) (by decide) (pcN := 196) rfl (fun (c_76 : (0 : Int) = 0) => ?_) (fun (c_76 : ¬ (0 : Int) = 0) => by omega)
          refine go_iload C at_209 (pc' := 211) rfl rfl ?_
          refine go_if0 C (1 : Int) (by decide) at_211 (by decide) (pc' := 229) (by decide) (pcN := 214) rfl (fun (c_77 : (1 : Int) = 0) => by omega) (fun (c_77 : ¬ (1 : Int) = 0) => ?_)
          refine go_aload C at_214 (pc' := 216) rfl rfl rfl ?_
          refine go_virtualP C (as := []) (rest := []) (W := 0) (.long x3) (sat_new_1_0_1 l Z a0 hw a_4 r_69 x3 _ _ E_71 F_72 F_73 F_74 A_75 g_9 g_70) E_71 (wd hw 32 rfl) (wd hw 33 rfl) (wd hw 35 rfl) (wd hw 34 rfl) (wd hw 4 rfl) (wd hw 36 rfl) (by decide) pd_5 rfl rfl rfl (by decide) (by decide) rfl rfl (by decide) (by decide) at_216 (pc' := 219) rfl rfl ?_
          refine go_lload C at_219 (pc' := 221) rfl rfl ?_
          refine go_lcmp C x3.toInt x3.toInt rfl rfl at_221 (pc1 := 222) rfl at_222 (by decide) (pc' := 229) (by decide) (pcN := 225) rfl (fun (c_78 : ¬ x3.toInt = x3.toInt) => by omega) (fun (c_78 : x3.toInt = x3.toInt) => ?_)
          refine go_iconst C (1 : Int32) at_225 (pc' := 226) rfl (by decide) ?_
          refine go_goto C at_226 (by decide) (pc' := 230) (by decide) ?_
          refine go_istore C (Ls' := #[.val (.int x0), .val (.long x1), .second, .val (.long x2), .second, .val (.long x3), .second, .val (.long x4), .second, .val (.long x5), .second, .val (.int (1 : Int32)), .val (.int (0 : Int32)), .val (.int (0 : Int32)), .val (.long win), .second, .val (.long (4 : Int64)), .second, .val (.ref a_4), .val (.long x3), .second, .val (.int (1 : Int32)), .val (.int (1 : Int32))]) at_230 (pc' := 232) rfl rfl ?_
          refine go_iload C at_232 (pc' := 234) rfl rfl ?_
          refine go_ireturnN C (z' := (1 : Int32)) rfl (by simp) rfl at_234 (by decide) (by decide) ?_
          exact ⟨_, rfl, rfl⟩
      · skip
        refine go_iconst C (1 : Int32) at_30 (pc' := 31) rfl (by decide) ?_
        refine go_goto C at_31 (by decide) (pc' := 35) (by decide) ?_
        refine go_istore C (Ls' := #[.val (.int x0), .val (.long x1), .second, .val (.long x2), .second, .val (.long x3), .second, .val (.long x4), .second, .val (.long x5), .second, .val (.int (1 : Int32)), .val (.int (0 : Int32)), .val (.int (1 : Int32)), .unset, .unset, .unset, .unset, .unset, .unset, .unset, .unset, .unset]) at_35 (pc' := 37) rfl rfl ?_
        refine go_lconst C (1 : Int64) at_37 (pc' := 38) rfl (by decide) ?_
        refine go_iloadN C at_38 (pc' := 39) rfl rfl ?_
        refine go_iconst C (4 : Int32) at_39 (pc' := 40) rfl (by decide) ?_
        refine go_iushr C at_40 (pc' := 41) rfl ?_
        refine go_ldc C (v := (65535 : Int32)) (wd hw 0 rfl) at_41 (pc' := 43) rfl ?_
        refine go_iand C at_43 (pc' := 44) rfl ?_
        refine go_i2l C at_44 (pc' := 45) rfl ?_
        refine go_ladd C at_45 (pc' := 46) rfl ?_
        refine go_lstore C (Ls' := #[.val (.int x0), .val (.long x1), .second, .val (.long x2), .second, .val (.long x3), .second, .val (.long x4), .second, .val (.long x5), .second, .val (.int (1 : Int32)), .val (.int (0 : Int32)), .val (.int (1 : Int32)), .val (.long ((1 : Int64) + (((XT.ushr x0 (4 : Int32)) &&& (65535 : Int32)).toInt64))), .second, .unset, .unset, .unset, .unset, .unset, .unset, .unset]) at_46 (pc' := 48) rfl rfl ?_
        refine go_ldc2 C (v := (4 : Int64)) (wd hw 1 rfl) at_48 (pc' := 51) rfl ?_
        refine go_lstore C (Ls' := #[.val (.int x0), .val (.long x1), .second, .val (.long x2), .second, .val (.long x3), .second, .val (.long x4), .second, .val (.long x5), .second, .val (.int (1 : Int32)), .val (.int (0 : Int32)), .val (.int (1 : Int32)), .val (.long ((1 : Int64) + (((XT.ushr x0 (4 : Int32)) &&& (65535 : Int32)).toInt64))), .second, .val (.long (4 : Int64)), .second, .unset, .unset, .unset, .unset, .unset]) at_51 (pc' := 53) rfl rfl ?_
        generalize (1 : Int64) + (((XT.ushr x0 (4 : Int32)) &&& (65535 : Int32)).toInt64) = win
        refine go_new C (wd hw 2 rfl) (wd hw 3 rfl) (wd hw 4 rfl) at_53 (pc' := 56) rfl (ce' := 1) (sl' := 7) rfl rfl (by decide) (by decide) ?_
        intro h_79 a_80 g_81 E_82 E_83 D_84
        have g_85 : Z.heap.size ≤ a_80 := own_ge (Nat.le_refl _) g_81
        have z_86 : Z.heap.size ≤ h_79.size := Nat.le_trans (Nat.le_refl _) E_82.1
        have F_87 : Fld Z h_79 a_80 "com/example/throttld/throttld/SlidingLog$Log" "ring" "[J" (.null) := D_84 (Or.inl (wd hw 18 rfl)) (ty := (.array .long)) (by decide)
        have F_88 : Fld Z h_79 a_80 "com/example/throttld/throttld/SlidingLog$Log" "count" "I" (.int (0 : Int32)) := D_84 (Or.inl (wd hw 25 rfl)) (ty := .int) (by decide)
        have F_89 : Fld Z h_79 a_80 "com/example/throttld/throttld/SlidingLog$Log" "head" "I" (.int (0 : Int32)) := D_84 (Or.inl (wd hw 31 rfl)) (ty := .int) (by decide)
        refine go_dup C at_56 (pc' := 57) rfl rfl ?_
        refine go_iload C at_57 (pc' := 59) rfl rfl ?_
        refine go_specialN C (as := [.int (1 : Int32)]) (rest := [.ref a_80]) (W := 1) (sat_init1 l Z a0 hw a_80 _ _ E_83 F_87 F_89 F_88 g_85 z_86) rfl (wd hw 5 rfl) (wd hw 6 rfl) (wd hw 4 rfl) (wd hw 7 rfl) (by decide) pd_1 rfl rfl rfl (by decide) (by decide) (ce' := 2) (sl' := 8) rfl rfl (by decide) (by decide) at_59 (pc' := 62) rfl rfl ?_
        intro h_90 q_91
        obtain ⟨r_92, g_93, E_94, F_95, F_96, F_97, A_98⟩ := q_91
        refine go_astore C (Ls' := #[.val (.int x0), .val (.long x1), .second, .val (.long x2), .second, .val (.long x3), .second, .val (.long x4), .second, .val (.long x5), .second, .val (.int (1 : Int32)), .val (.int (0 : Int32)), .val (.int (1 : Int32)), .val (.long win), .second, .val (.long (4 : Int64)), .second, .val (.ref a_80), .unset, .unset, .unset, .unset]) at_62 (pc' := 64) rfl rfl rfl ?_
        refine go_aload C at_64 (pc' := 66) rfl rfl rfl ?_
        refine go_lloadN C at_66 (pc' := 67) rfl rfl ?_
        refine go_lload C at_67 (pc' := 69) rfl rfl ?_
        refine go_virtualN C (as := [.long x1, .long (4 : Int64)]) (rest := []) (W := 0) (sat_add_1_0_0 l Z a0 hw a_80 r_92 (0 : Int64) x1 (4 : Int64) _ _ E_94 F_95 F_96 F_97 A_98 g_85 g_93) E_94 (wd hw 19 rfl) (wd hw 20 rfl) (wd hw 22 rfl) (wd hw 21 rfl) (wd hw 4 rfl) (wd hw 23 rfl) (by decide) pd_3 rfl rfl rfl (by decide) (by decide) (ce' := 2) (sl' := 8) rfl rfl (by decide) (by decide) at_69 (pc' := 72) rfl rfl ?_
        intro h_99 q_100
        obtain ⟨r_101, g_102, E_103, F_104, F_105, F_106, A_107⟩ := q_100
        refine go_lloadN C at_72 (pc' := 73) rfl rfl ?_
        refine go_lstore C (Ls' := #[.val (.int x0), .val (.long x1), .second, .val (.long x2), .second, .val (.long x3), .second, .val (.long x4), .second, .val (.long x5), .second, .val (.int (1 : Int32)), .val (.int (0 : Int32)), .val (.int (1 : Int32)), .val (.long win), .second, .val (.long (4 : Int64)), .second, .val (.ref a_80), .val (.long x1), .second, .unset, .unset]) at_73 (pc' := 75) rfl rfl ?_
        refine go_iload C at_75 (pc' := 77) rfl rfl ?_
        refine go_if0 C (0 : Int) (by decide) at_77 (by decide) (pc' := 91) (by decide) (pcN := 80) rfl (fun (c_108 : (0 : Int) = 0) => ?_) (fun (c_108 : ¬ (0 : Int) = 0) => by omega)
        refine go_aload C at_91 (pc' := 93) rfl rfl rfl ?_
        refine go_virtualP C (as := []) (rest := []) (W := 0) (.long x1) (sat_new_1_0_1 l Z a0 hw a_80 r_101 x1 _ _ E_103 F_104 F_105 F_106 A_107 g_85 g_102) E_103 (wd hw 32 rfl) (wd hw 33 rfl) (wd hw 35 rfl) (wd hw 34 rfl) (wd hw 4 rfl) (wd hw 36 rfl) (by decide) pd_5 rfl rfl rfl (by decide) (by decide) rfl rfl (by decide) (by decide) at_93 (pc' := 96) rfl rfl ?_
        refine go_lload C at_96 (pc' := 98) rfl rfl ?_
        refine go_lcmp C x1.toInt x1.toInt rfl rfl at_98 (pc1 := 99) rfl at_99 (by decide) (pc' := 106) (by decide) (pcN := 102) rfl (fun (c_109 : ¬ x1.toInt = x1.toInt) => by omega) (fun (c_109 : x1.toInt = x1.toInt) => ?_)
        refine go_iconst C (1 : Int32) at_102 (pc' := 103) rfl (by decide) ?_
        refine go_goto C at_103 (by decide) (pc' := 107) (by decide) ?_
        refine go_istore C (Ls' := #[.val (.int x0), .val (.long x1), .second, .val (.long x2), .second, .val (.long x3), .second, .val (.long x4), .second, .val (.long x5), .second, .val (.int (1 : Int32)), .val (.int (0 : Int32)), .val (.int (1 : Int32)), .val (.long win), .second, .val (.long (4 : Int64)), .second, .val (.ref a_80), .val (.long x1), .second, .val (.int (1 : Int32)), .unset]) at_107 (pc' := 109) rfl rfl ?_
        refine go_aload C at_109 (pc' := 111) rfl rfl rfl ?_
        refine go_lload C at_111 (pc' := 113) rfl rfl ?_
        refine go_lload C at_113 (pc' := 115) rfl rfl ?_
        refine go_virtualN C (as := [.long x5, .long win]) (rest := []) (W := 0) (sat_drop_1_0_1 l Z a0 hw a_80 r_101 x1 x5 win _ _ E_103 F_104 F_105 F_106 A_107 g_85 g_102) E_103 (wd hw 37 rfl) (wd hw 38 rfl) (wd hw 40 rfl) (wd hw 39 rfl) (wd hw 4 rfl) (wd hw 41 rfl) (by decide) pd_3 rfl rfl rfl (by decide) (by decide) (ce' := 2) (sl' := 8) rfl rfl (by decide) (by decide) at_115 (pc' := 118) rfl rfl ?_
        intro h_110 q_111
        rcases q_111 with q_111 | q_111
        · skip
          obtain ⟨hc_112, E_113, F_114, F_115, F_116, A_117⟩ := q_111
          refine go_lload C at_118 (pc' := 120) rfl rfl ?_
          refine go_lloadN C at_120 (pc' := 121) rfl rfl ?_
          refine go_lsub C at_121 (pc' := 122) rfl ?_
          refine go_lload C at_122 (pc' := 124) rfl rfl ?_
          refine go_lcmp C ((x5 - x1).toInt) win.toInt rfl rfl at_124 (pc1 := 125) rfl at_125 (by decide) (pc' := 147) (by decide) (pcN := 128) rfl (fun (c_118 : ((x5 - x1).toInt) < win.toInt) => ?_) (fun (c_118 : ¬ ((x5 - x1).toInt) < win.toInt) => by omega)
          refine go_iconst C (0 : Int32) at_147 (pc' := 148) rfl (by decide) ?_
          refine go_istore C (Ls' := #[.val (.int x0), .val (.long x1), .second, .val (.long x2), .second, .val (.long x3), .second, .val (.long x4), .second, .val (.long x5), .second, .val (.int (1 : Int32)), .val (.int (0 : Int32)), .val (.int (1 : Int32)), .val (.long win), .second, .val (.long (4 : Int64)), .second, .val (.ref a_80), .val (.long x1), .second, .val (.int (1 : Int32)), .val (.int (0 : Int32))]) at_148 (pc' := 150) rfl rfl ?_
          refine go_iload C at_150 (pc' := 152) rfl rfl ?_
          refine go_if0 C (0 : Int) (by decide) at_152 (by decide) (pc' := 178) (by decide) (pcN := 155) rfl (fun (c_119 : ¬ (0 : Int) = 0) => by omega) (fun (c_119 : (0 : Int) = 0) => ?_)
          refine go_iload C at_155 (pc' := 157) rfl rfl ?_
          refine go_if0 C (1 : Int) (by decide) at_157 (by decide) (pc' := 175) (by decide) (pcN := 160) rfl (fun (c_120 : (1 : Int) = 0) => by omega) (fun (c_120 : ¬ (1 : Int) = 0) => ?_)
          refine go_aload C at_160 (pc' := 162) rfl rfl rfl ?_
          refine go_virtualP C (as := []) (rest := []) (W := 0) (.long x1) (sat_new_1_0_1 l Z a0 hw a_80 r_101 x1 _ _ E_113 F_114 F_115 F_116 A_117 g_85 g_102) E_113 (wd hw 32 rfl) (wd hw 33 rfl) (wd hw 35 rfl) (wd hw 34 rfl) (wd hw 4 rfl) (wd hw 36 rfl) (by decide) pd_5 rfl rfl rfl (by decide) (by decide) rfl rfl (by decide) (by decide) at_162 (pc' := 165) rfl rfl ?_
          refine go_lload C at_165 (pc' := 167) rfl rfl ?_
          refine go_lcmp C x1.toInt x1.toInt rfl rfl at_167 (pc1 := 168) rfl at_168 (by decide) (pc' := 175) (by decide) (pcN := 171) rfl (fun (c_121 : ¬ x1.toInt = x1.toInt) => by omega) (fun (c_121 : x1.toInt = x1.toInt) => ?_)
          refine go_iconst C (1 : Int32) at_171 (pc' := 172) rfl (by decide) ?_
          refine go_goto C at_172 (by decide) (pc' := 176) (by decide) ?_
          refine go_istore C (Ls' := #[.val (.int x0), .val (.long x1), .second, .val (.long x2), .second, .val (.long x3), .second, .val (.long x4), .second, .val (.long x5), .second, .val (.int (1 : Int32)), .val (.int (0 : Int32)), .val (.int (1 : Int32)), .val (.long win), .second, .val (.long (4 : Int64)), .second, .val (.ref a_80), .val (.long x1), .second, .val (.int (1 : Int32)), .val (.int (0 : Int32))]) at_176 (pc' := 178) rfl rfl ?_
          refine go_aload C at_178 (pc' := 180) rfl rfl rfl ?_
          refine go_lload C at_180 (pc' := 182) rfl rfl ?_
          refine go_lload C at_182 (pc' := 184) rfl rfl ?_
          refine go_virtualN C (as := [.long x3, .long (4 : Int64)]) (rest := []) (W := 0) (sat_add_1_0_1 l Z a0 hw a_80 r_101 x1 x3  _ _ E_113 F_114 F_115 F_116 A_117 g_85 g_102) E_113 (wd hw 19 rfl) (wd hw 20 rfl) (wd hw 22 rfl) (wd hw 21 rfl) (wd hw 4 rfl) (wd hw 23 rfl) (by decide) pd_3 rfl rfl rfl (by decide) (by decide) (ce' := 3) (sl' := 10) rfl rfl (by decide) (by decide) at_184 (pc' := 187) rfl rfl ?_
          intro h_122 q_123
          obtain ⟨r_124, g_125, E_126, F_127, F_128, F_129, A_130⟩ := q_123
          refine go_lload C at_187 (pc' := 189) rfl rfl ?_
          refine go_lstore C (Ls' := #[.val (.int x0), .val (.long x1), .second, .val (.long x2), .second, .val (.long x3), .second, .val (.long x4), .second, .val (.long x5), .second, .val (.int (1 : Int32)), .val (.int (0 : Int32)), .val (.int (1 : Int32)), .val (.long win), .second, .val (.long (4 : Int64)), .second, .val (.ref a_80), .val (.long x3), .second, .val (.int (1 : Int32)), .val (.int (0 : Int32))]) at_189 (pc' := 191) rfl rfl ?_
          refine go_iload C at_191 (pc' := 193) rfl rfl ?_
          refine go_if0 C (1 : Int) (by decide) at_193 (by decide) (pc' := 209) (by decide) (pcN := 196) rfl (fun (c_131 : (1 : Int) = 0) => by omega) (fun (c_131 : ¬ (1 : Int) = 0) => ?_)
          refine go_aload C at_196 (pc' := 198) rfl rfl rfl ?_
          refine go_lload C at_198 (pc' := 200) rfl rfl ?_
          refine go_lload C at_200 (pc' := 202) rfl rfl ?_
          refine go_virtualN C (as := [.long x4, .long (4 : Int64)]) (rest := []) (W := 0) (sat_add_2_0_2 l Z a0 hw a_80 r_124 x1 x3 x4  _ _ E_126 F_127 F_128 F_129 A_130 g_85 g_125) E_126 (wd hw 19 rfl) (wd hw 20 rfl) (wd hw 22 rfl) (wd hw 21 rfl) (wd hw 4 rfl) (wd hw 23 rfl) (by decide) pd_3 rfl rfl rfl (by decide) (by decide) (ce' := 4) (sl' := 14) rfl rfl (by decide) (by decide) at_202 (pc' := 205) rfl rfl ?_
          intro h_132 q_133
          obtain ⟨r_134, g_135, E_136, F_137, F_138, F_139, A_140⟩ := q_133
          refine go_lload C at_205 (pc' := 207) rfl rfl ?_
          refine go_lstore C (Ls' := #[.val (.int x0), .val (.long x1), .second, .val (.long x2), .second, .val (.long x3), .second, .val (.long x4), .second, .val (.long x5), .second, .val (.int (1 : Int32)), .val (.int (0 : Int32)), .val (.int (1 : Int32)), .val (.long win), .second, .val (.long (4 : Int64)), .second, .val (.ref a_80), .val (.long x4), .second, .val (.int (1 : Int32)), .val (.int (0 : Int32))]) at_207 (pc' := 209) rfl rfl ?_
          refine go_iload C at_209 (pc' := 211) rfl rfl ?_
          refine go_if0 C (1 : Int) (by decide) at_211 (by decide) (pc' := 229) (by decide) (pcN := 214) rfl (fun (c_141 : (1 : Int) = 0) => by omega) (fun (c_141 : ¬ (1 : Int) = 0) => ?_)
          refine go_aload C at_214 (pc' := 216) rfl rfl rfl ?_
          refine go_virtualP C (as := []) (rest := []) (W := 0) (.long x4) (sat_new_4_0_3 l Z a0 hw a_80 r_134 x1 x3 x4 (0 : Int64) _ _ E_136 F_137 F_138 F_139 A_140 g_85 g_135) E_136 (wd hw 32 rfl) (wd hw 33 rfl) (wd hw 35 rfl) (wd hw 34 rfl) (wd hw 4 rfl) (wd hw 36 rfl) (by decide) pd_5 rfl rfl rfl (by decide) (by decide) rfl rfl (by decide) (by decide) at_216 (pc' := 219) rfl rfl ?_
          refine go_lload C at_219 (pc' := 221) rfl rfl ?_
          refine go_lcmp C x4.toInt x4.toInt rfl rfl at_221 (pc1 := 222) rfl at_222 (by decide) (pc' := 229) (by decide) (pcN := 225) rfl (fun (c_142 : ¬ x4.toInt = x4.toInt) => by omega) (fun (c_142 : x4.toInt = x4.toInt) => ?_)
          refine go_iconst C (1 : Int32) at_225 (pc' := 226) rfl (by decide) ?_
          refine go_goto C at_226 (by decide) (pc' := 230) (by decide) ?_
          refine go_istore C (Ls' := #[.val (.int x0), .val (.long x1), .second, .val (.long x2), .second, .val (.long x3), .second, .val (.long x4), .second, .val (.long x5), .second, .val (.int (1 : Int32)), .val (.int (0 : Int32)), .val (.int (1 : Int32)), .val (.long win), .second, .val (.long (4 : Int64)), .second, .val (.ref a_80), .val (.long x4), .second, .val (.int (1 : Int32)), .val (.int (0 : Int32))]) at_230 (pc' := 232) rfl rfl ?_
          refine go_iload C at_232 (pc' := 234) rfl rfl ?_
          refine go_ireturnN C (z' := (1 : Int32)) rfl (by simp) rfl at_234 (by decide) (by decide) ?_
          exact ⟨_, rfl, rfl⟩
        · skip
          obtain ⟨hc_143, E_144, F_145, F_146, F_147, A_148⟩ := q_111
          refine go_lload C at_118 (pc' := 120) rfl rfl ?_
          refine go_lloadN C at_120 (pc' := 121) rfl rfl ?_
          refine go_lsub C at_121 (pc' := 122) rfl ?_
          refine go_lload C at_122 (pc' := 124) rfl rfl ?_
          refine go_lcmp C ((x5 - x1).toInt) win.toInt rfl rfl at_124 (pc1 := 125) rfl at_125 (by decide) (pc' := 147) (by decide) (pcN := 128) rfl (fun (c_149 : ((x5 - x1).toInt) < win.toInt) => by omega) (fun (c_149 : ¬ ((x5 - x1).toInt) < win.toInt) => ?_)
          refine go_iload C at_128 (pc' := 130) rfl rfl ?_
          refine go_if0 C (0 : Int) (by decide) at_130 (by decide) (pc' := 143) (by decide) (pcN := 133) rfl (fun (c_150 : (0 : Int) = 0) => ?_) (fun (c_150 : ¬ (0 : Int) = 0) => by omega)
          refine go_iconst C (1 : Int32) at_143 (pc' := 144) rfl (by decide) ?_
          refine go_goto C at_144 (by decide) (pc' := 148) (by decide) ?_
          refine go_istore C (Ls' := #[.val (.int x0), .val (.long x1), .second, .val (.long x2), .second, .val (.long x3), .second, .val (.long x4), .second, .val (.long x5), .second, .val (.int (1 : Int32)), .val (.int (0 : Int32)), .val (.int (1 : Int32)), .val (.long win), .second, .val (.long (4 : Int64)), .second, .val (.ref a_80), .val (.long x1), .second, .val (.int (1 : Int32)), .val (.int (1 : Int32))]) at_148 (pc' := 150) rfl rfl ?_
          refine go_iload C at_150 (pc' := 152) rfl rfl ?_
          refine go_if0 C (1 : Int) (by decide) at_152 (by decide) (pc' := 178) (by decide) (pcN := 155) rfl (fun (c_151 : ¬ (1 : Int) = 0) => ?_) (fun (c_151 : (1 : Int) = 0) => by omega)
          refine go_aload C at_178 (pc' := 180) rfl rfl rfl ?_
          refine go_lload C at_180 (pc' := 182) rfl rfl ?_
          refine go_lload C at_182 (pc' := 184) rfl rfl ?_
          refine go_virtualN C (as := [.long x3, .long (4 : Int64)]) (rest := []) (W := 0) (sat_add_1_0_0 l Z a0 hw a_80 r_101 x1 x3 (4 : Int64) _ _ E_144 F_145 F_146 F_147 A_148 g_85 g_102) E_144 (wd hw 19 rfl) (wd hw 20 rfl) (wd hw 22 rfl) (wd hw 21 rfl) (wd hw 4 rfl) (wd hw 23 rfl) (by decide) pd_3 rfl rfl rfl (by decide) (by decide) (ce' := 2) (sl' := 8) rfl rfl (by decide) (by decide) at_184 (pc' := 187) rfl rfl ?_
          intro h_152 q_153
          obtain ⟨r_154, g_155, E_156, F_157, F_158, F_159, A_160⟩ := q_153
          refine go_lload C at_187 (pc' := 189) rfl rfl ?_
          refine go_lstore C (Ls' := #[.val (.int x0), .val (.long x1), .second, .val (.long x2), .second, .val (.long x3), .second, .val (.long x4), .second, .val (.long x5), .second, .val (.int (1 : Int32)), .val (.int (0 : Int32)), .val (.int (1 : Int32)), .val (.long win), .second, .val (.long (4 : Int64)), .second, .val (.ref a_80), .val (.long x3), .second, .val (.int (1 : Int32)), .val (.int (1 : Int32))]) at_189 (pc' := 191) rfl rfl ?_
          refine go_iload C at_191 (pc' := 193) rfl rfl ?_
          refine go_if0 C (1 : Int) (by decide) at_193 (by decide) (pc' := 209) (by decide) (pcN := 196) rfl (fun (c_161 : (1 : Int) = 0) => by omega) (fun (c_161 : ¬ (1 : Int) = 0) => ?_)
          refine go_aload C at_196 (pc' := 198) rfl rfl rfl ?_
          refine go_lload C at_198 (pc' := 200) rfl rfl ?_
          refine go_lload C at_200 (pc' := 202) rfl rfl ?_
          refine go_virtualN C (as := [.long x4, .long (4 : Int64)]) (rest := []) (W := 0) (sat_add_1_0_1 l Z a0 hw a_80 r_154 x3 x4  _ _ E_156 F_157 F_158 F_159 A_160 g_85 g_155) E_156 (wd hw 19 rfl) (wd hw 20 rfl) (wd hw 22 rfl) (wd hw 21 rfl) (wd hw 4 rfl) (wd hw 23 rfl) (by decide) pd_3 rfl rfl rfl (by decide) (by decide) (ce' := 3) (sl' := 10) rfl rfl (by decide) (by decide) at_202 (pc' := 205) rfl rfl ?_
          intro h_162 q_163
          obtain ⟨r_164, g_165, E_166, F_167, F_168, F_169, A_170⟩ := q_163
          refine go_lload C at_205 (pc' := 207) rfl rfl ?_
          refine go_lstore C (Ls' := #[.val (.int x0), .val (.long x1), .second, .val (.long x2), .second, .val (.long x3), .second, .val (.long x4), .second, .val (.long x5), .second, .val (.int (1 : Int32)), .val (.int (0 : Int32)), .val (.int (1 : Int32)), .val (.long win), .second, .val (.long (4 : Int64)), .second, .val (.ref a_80), .val (.long x4), .second, .val (.int (1 : Int32)), .val (.int (1 : Int32))]) at_207 (pc' := 209) rfl rfl ?_
          refine go_iload C at_209 (pc' := 211) rfl rfl ?_
          refine go_if0 C (1 : Int) (by decide) at_211 (by decide) (pc' := 229) (by decide) (pcN := 214) rfl (fun (c_171 : (1 : Int) = 0) => by omega) (fun (c_171 : ¬ (1 : Int) = 0) => ?_)
          refine go_aload C at_214 (pc' := 216) rfl rfl rfl ?_
          refine go_virtualP C (as := []) (rest := []) (W := 0) (.long x4) (sat_new_2_0_2 l Z a0 hw a_80 r_164 x3 x4 _ _ E_166 F_167 F_168 F_169 A_170 g_85 g_165) E_166 (wd hw 32 rfl) (wd hw 33 rfl) (wd hw 35 rfl) (wd hw 34 rfl) (wd hw 4 rfl) (wd hw 36 rfl) (by decide) pd_5 rfl rfl rfl (by decide) (by decide) rfl rfl (by decide) (by decide) at_216 (pc' := 219) rfl rfl ?_
          refine go_lload C at_219 (pc' := 221) rfl rfl ?_
          refine go_lcmp C x4.toInt x4.toInt rfl rfl at_221 (pc1 := 222) rfl at_222 (by decide) (pc' := 229) (by decide) (pcN := 225) rfl (fun (c_172 : ¬ x4.toInt = x4.toInt) => by omega) (fun (c_172 : x4.toInt = x4.toInt) => ?_)
          refine go_iconst C (1 : Int32) at_225 (pc' := 226) rfl (by decide) ?_
          refine go_goto C at_226 (by decide) (pc' := 230) (by decide) ?_
          refine go_istore C (Ls' := #[.val (.int x0), .val (.long x1), .second, .val (.long x2), .second, .val (.long x3), .second, .val (.long x4), .second, .val (.long x5), .second, .val (.int (1 : Int32)), .val (.int (0 : Int32)), .val (.int (1 : Int32)), .val (.long win), .second, .val (.long (4 : Int64)), .second, .val (.ref a_80), .val (.long x4), .second, .val (.int (1 : Int32)), .val (.int (1 : Int32))]) at_230 (pc' := 232) rfl rfl ?_
          refine go_iload C at_232 (pc' := 234) rfl rfl ?_
          refine go_ireturnN C (z' := (1 : Int32)) rfl (by simp) rfl at_234 (by decide) (by decide) ?_
          exact ⟨_, rfl, rfl⟩
    · skip
      refine go_iconst C (1 : Int32) at_15 (pc' := 16) rfl (by decide) ?_
      refine go_goto C at_16 (by decide) (pc' := 20) (by decide) ?_
      refine go_istore C (Ls' := #[.val (.int x0), .val (.long x1), .second, .val (.long x2), .second, .val (.long x3), .second, .val (.long x4), .second, .val (.long x5), .second, .val (.int (1 : Int32)), .val (.int (1 : Int32)), .unset, .unset, .unset, .unset, .unset, .unset, .unset, .unset, .unset, .unset]) at_20 (pc' := 22) rfl rfl ?_
      refine go_iloadN C at_22 (pc' := 23) rfl rfl ?_
      refine go_iconst C (3 : Int32) at_23 (pc' := 24) rfl (by decide) ?_
      refine go_iushr C at_24 (pc' := 25) rfl ?_
      refine go_iconst C (1 : Int32) at_25 (pc' := 26) rfl (by decide) ?_
      refine go_iand C at_26 (pc' := 27) rfl ?_
      refine go_if0 C (((XT.ushr x0 (3 : Int32)) &&& (1 : Int32)).toInt) rfl at_27 (by decide) (pc' := 34) (by decide) (pcN := 30) rfl (fun (c_173 : (((XT.ushr x0 (3 : Int32)) &&& (1 : Int32)).toInt) = 0) => ?_) (fun (c_173 : ¬ (((XT.ushr x0 (3 : Int32)) &&& (1 : Int32)).toInt) = 0) => ?_)
      · skip
        refine go_iconst C (0 : Int32) at_34 (pc' := 35) rfl (by decide) ?_
        refine go_istore C (Ls' := #[.val (.int x0), .val (.long x1), .second, .val (.long x2), .second, .val (.long x3), .second, .val (.long x4), .second, .val (.long x5), .second, .val (.int (1 : Int32)), .val (.int (1 : Int32)), .val (.int (0 : Int32)), .unset, .unset, .unset, .unset, .unset, .unset, .unset, .unset, .unset]) at_35 (pc' := 37) rfl rfl ?_
        refine go_lconst C (1 : Int64) at_37 (pc' := 38) rfl (by decide) ?_
        refine go_iloadN C at_38 (pc' := 39) rfl rfl ?_
        refine go_iconst C (4 : Int32) at_39 (pc' := 40) rfl (by decide) ?_
        refine go_iushr C at_40 (pc' := 41) rfl ?_
        refine go_ldc C (v := (65535 : Int32)) (wd hw 0 rfl) at_41 (pc' := 43) rfl ?_
        refine go_iand C at_43 (pc' := 44) rfl ?_
        refine go_i2l C at_44 (pc' := 45) rfl ?_
        refine go_ladd C at_45 (pc' := 46) rfl ?_
        refine go_lstore C (Ls' := #[.val (.int x0), .val (.long x1), .second, .val (.long x2), .second, .val (.long x3), .second, .val (.long x4), .second, .val (.long x5), .second, .val (.int (1 : Int32)), .val (.int (1 : Int32)), .val (.int (0 : Int32)), .val (.long ((1 : Int64) + (((XT.ushr x0 (4 : Int32)) &&& (65535 : Int32)).toInt64))), .second, .unset, .unset, .unset, .unset, .unset, .unset, .unset]) at_46 (pc' := 48) rfl rfl ?_
        refine go_ldc2 C (v := (4 : Int64)) (wd hw 1 rfl) at_48 (pc' := 51) rfl ?_
        refine go_lstore C (Ls' := #[.val (.int x0), .val (.long x1), .second, .val (.long x2), .second, .val (.long x3), .second, .val (.long x4), .second, .val (.long x5), .second, .val (.int (1 : Int32)), .val (.int (1 : Int32)), .val (.int (0 : Int32)), .val (.long ((1 : Int64) + (((XT.ushr x0 (4 : Int32)) &&& (65535 : Int32)).toInt64))), .second, .val (.long (4 : Int64)), .second, .unset, .unset, .unset, .unset, .unset]) at_51 (pc' := 53) rfl rfl ?_
        generalize (1 : Int64) + (((XT.ushr x0 (4 : Int32)) &&& (65535 : Int32)).toInt64) = win
        refine go_new C (wd hw 2 rfl) (wd hw 3 rfl) (wd hw 4 rfl) at_53 (pc' := 56) rfl (ce' := 1) (sl' := 7) rfl rfl (by decide) (by decide) ?_
        intro h_174 a_175 g_176 E_177 E_178 D_179
        have g_180 : Z.heap.size ≤ a_175 := own_ge (Nat.le_refl _) g_176
        have z_181 : Z.heap.size ≤ h_174.size := Nat.le_trans (Nat.le_refl _) E_177.1
        have F_182 : Fld Z h_174 a_175 "com/example/throttld/throttld/SlidingLog$Log" "ring" "[J" (.null) := D_179 (Or.inl (wd hw 18 rfl)) (ty := (.array .long)) (by decide)
        have F_183 : Fld Z h_174 a_175 "com/example/throttld/throttld/SlidingLog$Log" "count" "I" (.int (0 : Int32)) := D_179 (Or.inl (wd hw 25 rfl)) (ty := .int) (by decide)
        have F_184 : Fld Z h_174 a_175 "com/example/throttld/throttld/SlidingLog$Log" "head" "I" (.int (0 : Int32)) := D_179 (Or.inl (wd hw 31 rfl)) (ty := .int) (by decide)
        refine go_dup C at_56 (pc' := 57) rfl rfl ?_
        refine go_iload C at_57 (pc' := 59) rfl rfl ?_
        refine go_specialN C (as := [.int (1 : Int32)]) (rest := [.ref a_175]) (W := 1) (sat_init1 l Z a0 hw a_175 _ _ E_178 F_182 F_184 F_183 g_180 z_181) rfl (wd hw 5 rfl) (wd hw 6 rfl) (wd hw 4 rfl) (wd hw 7 rfl) (by decide) pd_1 rfl rfl rfl (by decide) (by decide) (ce' := 2) (sl' := 8) rfl rfl (by decide) (by decide) at_59 (pc' := 62) rfl rfl ?_
        intro h_185 q_186
        obtain ⟨r_187, g_188, E_189, F_190, F_191, F_192, A_193⟩ := q_186
        refine go_astore C (Ls' := #[.val (.int x0), .val (.long x1), .second, .val (.long x2), .second, .val (.long x3), .second, .val (.long x4), .second, .val (.long x5), .second, .val (.int (1 : Int32)), .val (.int (1 : Int32)), .val (.int (0 : Int32)), .val (.long win), .second, .val (.long (4 : Int64)), .second, .val (.ref a_175), .unset, .unset, .unset, .unset]) at_62 (pc' := 64) rfl rfl rfl ?_
        refine go_aload C at_64 (pc' := 66) rfl rfl rfl ?_
        refine go_lloadN C at_66 (pc' := 67) rfl rfl ?_
        refine go_lload C at_67 (pc' := 69) rfl rfl ?_
        refine go_virtualN C (as := [.long x1, .long (4 : Int64)]) (rest := []) (W := 0) (sat_add_1_0_0 l Z a0 hw a_175 r_187 (0 : Int64) x1 (4 : Int64) _ _ E_189 F_190 F_191 F_192 A_193 g_180 g_188) E_189 (wd hw 19 rfl) (wd hw 20 rfl) (wd hw 22 rfl) (wd hw 21 rfl) (wd hw 4 rfl) (wd hw 23 rfl) (by decide) pd_3 rfl rfl rfl (by decide) (by decide) (ce' := 2) (sl' := 8) rfl rfl (by decide) (by decide) at_69 (pc' := 72) rfl rfl ?_
        intro h_194 q_195
        obtain ⟨r_196, g_197, E_198, F_199, F_200, F_201, A_202⟩ := q_195
        refine go_lloadN C at_72 (pc' := 73) rfl rfl ?_
        refine go_lstore C (Ls' := #[.val (.int x0), .val (.long x1), .second, .val (.long x2), .second, .val (.long x3), .second, .val (.long x4), .second, .val (.long x5), .second, .val (.int (1 : Int32)), .val (.int (1 : Int32)), .val (.int (0 : Int32)), .val (.long win), .second, .val (.long (4 : Int64)), .second, .val (.ref a_175), .val (.long x1), .second, .unset, .unset]) at_73 (pc' := 75) rfl rfl ?_
        refine go_iload C at_75 (pc' := 77) rfl rfl ?_
        refine go_if0 C (1 : Int) (by decide) at_77 (by decide) (pc' := 91) (by decide) (pcN := 80) rfl (fun (c_203 : (1 : Int) = 0) => by omega) (fun (c_203 : ¬ (1 : Int) = 0) => ?_)
        refine go_aload C at_80 (pc' := 82) rfl rfl rfl ?_
        refine go_lloadN C at_82 (pc' := 83) rfl rfl ?_
        refine go_lload C at_83 (pc' := 85) rfl rfl ?_
        refine go_virtualN C (as := [.long x2, .long (4 : Int64)]) (rest := []) (W := 0) (sat_add_1_0_1 l Z a0 hw a_175 r_196 x1 x2  _ _ E_198 F_199 F_200 F_201 A_202 g_180 g_197) E_198 (wd hw 19 rfl) (wd hw 20 rfl) (wd hw 22 rfl) (wd hw 21 rfl) (wd hw 4 rfl) (wd hw 23 rfl) (by decide) pd_3 rfl rfl rfl (by decide) (by decide) (ce' := 3) (sl' := 10) rfl rfl (by decide) (by decide) at_85 (pc' := 88) rfl rfl ?_
        intro h_204 q_205
        obtain ⟨r_206, g_207, E_208, F_209, F_210, F_211, A_212⟩ := q_205
        refine go_lloadN C at_88 (pc' := 89) rfl rfl ?_
        refine go_lstore C (Ls' := #[.val (.int x0), .val (.long x1), .second, .val (.long x2), .second, .val (.long x3), .second, .val (.long x4), .second, .val (.long x5), .second, .val (.int (1 : Int32)), .val (.int (1 : Int32)), .val (.int (0 : Int32)), .val (.long win), .second, .val (.long (4 : Int64)), .second, .val (.ref a_175), .val (.long x2), .second, .unset, .unset]) at_89 (pc' := 91) rfl rfl ?_
        refine go_aload C at_91 (pc' := 93) rfl rfl rfl ?_
        refine go_virtualP C (as := []) (rest := []) (W := 0) (.long x2) (sat_new_2_0_2 l Z a0 hw a_175 r_206 x1 x2 _ _ E_208 F_209 F_210 F_211 A_212 g_180 g_207) E_208 (wd hw 32 rfl) (wd hw 33 rfl) (wd hw 35 rfl) (wd hw 34 rfl) (wd hw 4 rfl) (wd hw 36 rfl) (by decide) pd_5 rfl rfl rfl (by decide) (by decide) rfl rfl (by decide) (by decide) at_93 (pc' := 96) rfl rfl ?_
        refine go_lload C at_96 (pc' := 98) rfl rfl ?_
        refine go_lcmp C x2.toInt x2.toInt rfl rfl at_98 (pc1 := 99) rfl at_99 (by decide) (pc' := 106) (by decide) (pcN := 102) rfl (fun (c_213 : ¬ x2.toInt = x2.toInt) => by omega) (fun (c_213 : x2.toInt = x2.toInt) => ?_)
        refine go_iconst C (1 : Int32) at_102 (pc' := 103) rfl (by decide) ?_
        refine go_goto C at_103 (by decide) (pc' := 107) (by decide) ?_
        refine go_istore C (Ls' := #[.val (.int x0), .val (.long x1), .second, .val (.long x2), .second, .val (.long x3), .second, .val (.long x4), .second, .val (.long x5), .second, .val (.int (1 : Int32)), .val (.int (1 : Int32)), .val (.int (0 : Int32)), .val (.long win), .second, .val (.long (4 : Int64)), .second, .val (.ref a_175), .val (.long x2), .second, .val (.int (1 : Int32)), .unset]) at_107 (pc' := 109) rfl rfl ?_
        refine go_aload C at_109 (pc' := 111) rfl rfl rfl ?_
        refine go_lload C at_111 (pc' := 113) rfl rfl ?_
        refine go_lload C at_113 (pc' := 115) rfl rfl ?_
        refine go_virtualN C (as := [.long x5, .long win]) (rest := []) (W := 0) (sat_drop_2_0_2 l Z a0 hw a_175 r_206 x1 x2 x5 win _ _ E_208 F_209 F_210 F_211 A_212 g_180 g_207) E_208 (wd hw 37 rfl) (wd hw 38 rfl) (wd hw 40 rfl) (wd hw 39 rfl) (wd hw 4 rfl) (wd hw 41 rfl) (by decide) pd_3 rfl rfl rfl (by decide) (by decide) (ce' := 3) (sl' := 10) rfl rfl (by decide) (by decide) at_115 (pc' := 118) rfl rfl ?_
        intro h_214 q_215
        rcases q_215 with q_215 | q_215 | q_215
        · skip
          obtain ⟨hc_216, E_217, F_218, F_219, F_220, A_221⟩ := q_215
          refine go_lload C at_118 (pc' := 120) rfl rfl ?_
          refine go_lloadN C at_120 (pc' := 121) rfl rfl ?_
          refine go_lsub C at_121 (pc' := 122) rfl ?_
          refine go_lload C at_122 (pc' := 124) rfl rfl ?_
          refine go_lcmp C ((x5 - x1).toInt) win.toInt rfl rfl at_124 (pc1 := 125) rfl at_125 (by decide) (pc' := 147) (by decide) (pcN := 128) rfl (fun (c_222 : ((x5 - x1).toInt) < win.toInt) => ?_) (fun (c_222 : ¬ ((x5 - x1).toInt) < win.toInt) => by omega)
          refine go_iconst C (0 : Int32) at_147 (pc' := 148) rfl (by decide) ?_
          refine go_istore C (Ls' := #[.val (.int x0), .val (.long x1), .second, .val (.long x2), .second, .val (.long x3), .second, .val (.long x4), .second, .val (.long x5), .second, .val (.int (1 : Int32)), .val (.int (1 : Int32)), .val (.int (0 : Int32)), .val (.long win), .second, .val (.long (4 : Int64)), .second, .val (.ref a_175), .val (.long x2), .second, .val (.int (1 : Int32)), .val (.int (0 : Int32))]) at_148 (pc' := 150) rfl rfl ?_
          refine go_iload C at_150 (pc' := 152) rfl rfl ?_
          refine go_if0 C (0 : Int) (by decide) at_152 (by decide) (pc' := 178) (by decide) (pcN := 155) rfl (fun (c_223 : ¬ (0 : Int) = 0) => by omega) (fun (c_223 : (0 : Int) = 0) => ?_)
          refine go_iload C at_155 (pc' := 157) rfl rfl ?_
          refine go_if0 C (1 : Int) (by decide) at_157 (by decide) (pc' := 175) (by decide) (pcN := 160) rfl (fun (c_224 : (1 : Int) = 0) => by omega) (fun (c_224 : ¬ (1 : Int) = 0) => ?_)
          refine go_aload C at_160 (pc' := 162) rfl rfl rfl ?_
          refine go_virtualP C (as := []) (rest := []) (W := 0) (.long x2) (sat_new_2_0_2 l Z a0 hw a_175 r_206 x1 x2 _ _ E_217 F_218 F_219 F_220 A_221 g_180 g_207) E_217 (wd hw 32 rfl) (wd hw 33 rfl) (wd hw 35 rfl) (wd hw 34 rfl) (wd hw 4 rfl) (wd hw 36 rfl) (by decide) pd_5 rfl rfl rfl (by decide) (by decide) rfl rfl (by decide) (by decide) at_162 (pc' := 165) rfl rfl ?_
          refine go_lload C at_165 (pc' := 167) rfl rfl ?_
          refine go_lcmp C x2.toInt x2.toInt rfl rfl at_167 (pc1 := 168) rfl at_168 (by decide) (pc' := 175) (by decide) (pcN := 171) rfl (fun (c_225 : ¬ x2.toInt = x2.toInt) => by omega) (fun (c_225 : x2.toInt = x2.toInt) => ?_)
          refine go_iconst C (1 : Int32) at_171 (pc' := 172) rfl (by decide) ?_
          refine go_goto C at_172 (by decide) (pc' := 176) (by decide) ?_
          refine go_istore C (Ls' := #[.val (.int x0), .val (.long x1), .second, .val (.long x2), .second, .val (.long x3), .second, .val (.long x4), .second, .val (.long x5), .second, .val (.int (1 : Int32)), .val (.int (1 : Int32)), .val (.int (0 : Int32)), .val (.long win), .second, .val (.long (4 : Int64)), .second, .val (.ref a_175), .val (.long x2), .second, .val (.int (1 : Int32)), .val (.int (0 : Int32))]) at_176 (pc' := 178) rfl rfl ?_
          refine go_aload C at_178 (pc' := 180) rfl rfl rfl ?_
          refine go_lload C at_180 (pc' := 182) rfl rfl ?_
          refine go_lload C at_182 (pc' := 184) rfl rfl ?_
          refine go_virtualN C (as := [.long x3, .long (4 : Int64)]) (rest := []) (W := 0) (sat_add_2_0_2 l Z a0 hw a_175 r_206 x1 x2 x3  _ _ E_217 F_218 F_219 F_220 A_221 g_180 g_207) E_217 (wd hw 19 rfl) (wd hw 20 rfl) (wd hw 22 rfl) (wd hw 21 rfl) (wd hw 4 rfl) (wd hw 23 rfl) (by decide) pd_3 rfl rfl rfl (by decide) (by decide) (ce' := 4) (sl' := 14) rfl rfl (by decide) (by decide) at_184 (pc' := 187) rfl rfl ?_
          intro h_226 q_227
          obtain ⟨r_228, g_229, E_230, F_231, F_232, F_233, A_234⟩ := q_227
          refine go_lload C at_187 (pc' := 189) rfl rfl ?_
          refine go_lstore C (Ls' := #[.val (.int x0), .val (.long x1), .second, .val (.long x2), .second, .val (.long x3), .second, .val (.long x4), .second, .val (.long x5), .second, .val (.int (1 : Int32)), .val (.int (1 : Int32)), .val (.int (0 : Int32)), .val (.long win), .second, .val (.long (4 : Int64)), .second, .val (.ref a_175), .val (.long x3), .second, .val (.int (1 : Int32)), .val (.int (0 : Int32))]) at_189 (pc' := 191) rfl rfl ?_
          refine go_iload C at_191 (pc' := 193) rfl rfl ?_
          refine go_if0 C (0 : Int) (by decide) at_193 (by decide) (pc' := 209) (by decide) (pcN := 196) rfl (fun (c_235 : (0 : Int) = 0) => ?_) (fun (c_235 : ¬ (0 : Int) = 0) => by omega)
          refine go_iload C at_209 (pc' := 211) rfl rfl ?_
          refine go_if0 C (1 : Int) (by decide) at_211 (by decide) (pc' := 229) (by decide) (pcN := 214) rfl (fun (c_236 : (1 : Int) = 0) => by omega) (fun (c_236 : ¬ (1 : Int) = 0) => ?_)
          refine go_aload C at_214 (pc' := 216) rfl rfl rfl ?_
          refine go_virtualP C (as := []) (rest := []) (W := 0) (.long x3) (sat_new_4_0_3 l Z a0 hw a_175 r_228 x1 x2 x3 (0 : Int64) _ _ E_230 F_231 F_232 F_233 A_234 g_180 g_229) E_230 (wd hw 32 rfl) (wd hw 33 rfl) (wd hw 35 rfl) (wd hw 34 rfl) (wd hw 4 rfl) (wd hw 36 rfl) (by decide) pd_5 rfl rfl rfl (by decide) (by decide) rfl rfl (by decide) (by decide) at_216 (pc' := 219) rfl rfl ?_
          refine go_lload C at_219 (pc' := 221) rfl rfl ?_
          refine go_lcmp C x3.toInt x3.toInt rfl rfl at_221 (pc1 := 222) rfl at_222 (by decide) (pc' := 229) (by decide) (pcN := 225) rfl (fun (c_237 : ¬ x3.toInt = x3.toInt) => by omega) (fun (c_237 : x3.toInt = x3.toInt) => ?_)
          refine go_iconst C (1 : Int32) at_225 (pc' := 226) rfl (by decide) ?_
          refine go_goto C at_226 (by decide) (pc' := 230) (by decide) ?_
          refine go_istore C (Ls' := #[.val (.int x0), .val (.long x1), .second, .val (.long x2), .second, .val (.long x3), .second, .val (.long x4), .second, .val (.long x5), .second, .val (.int (1 : Int32)), .val (.int (1 : Int32)), .val (.int (0 : Int32)), .val (.long win), .second, .val (.long (4 : Int64)), .second, .val (.ref a_175), .val (.long x3), .second, .val (.int (1 : Int32)), .val (.int (0 : Int32))]) at_230 (pc' := 232) rfl rfl ?_
          refine go_iload C at_232 (pc' := 234) rfl rfl ?_
          refine go_ireturnN C (z' := (1 : Int32)) rfl (by simp) rfl at_234 (by decide) (by decide) ?_
          exact ⟨_, rfl, rfl⟩
        · skip
          obtain ⟨hc_238, E_239, F_240, F_241, F_242, A_243⟩ := q_215
          refine go_lload C at_118 (pc' := 120) rfl rfl ?_
          refine go_lloadN C at_120 (pc' := 121) rfl rfl ?_
          refine go_lsub C at_121 (pc' := 122) rfl ?_
          refine go_lload C at_122 (pc' := 124) rfl rfl ?_
          refine go_lcmp C ((x5 - x1).toInt) win.toInt rfl rfl at_124 (pc1 := 125) rfl at_125 (by decide) (pc' := 147) (by decide) (pcN := 128) rfl (fun (c_244 : ((x5 - x1).toInt) < win.toInt) => by omega) (fun (c_244 : ¬ ((x5 - x1).toInt) < win.toInt) => ?_)
          refine go_iload C at_128 (pc' := 130) rfl rfl ?_
          refine go_if0 C (1 : Int) (by decide) at_130 (by decide) (pc' := 143) (by decide) (pcN := 133) rfl (fun (c_245 : (1 : Int) = 0) => by omega) (fun (c_245 : ¬ (1 : Int) = 0) => ?_)
          refine go_lload C at_133 (pc' := 135) rfl rfl ?_
          refine go_lloadN C at_135 (pc' := 136) rfl rfl ?_
          refine go_lsub C at_136 (pc' := 137) rfl ?_
          refine go_lload C at_137 (pc' := 139) rfl rfl ?_
          refine go_lcmp C ((x5 - x2).toInt) win.toInt rfl rfl at_139 (pc1 := 140) rfl at_140 (by decide) (pc' := 147) (by decide) (pcN := 143) rfl (fun (c_246 : ((x5 - x2).toInt) < win.toInt) => ?_) (fun (c_246 : ¬ ((x5 - x2).toInt) < win.toInt) => by omega)
          refine go_iconst C (0 : Int32) at_147 (pc' := 148) rfl (by decide) ?_
          refine go_istore C (Ls' := #[.val (.int x0), .val (.long x1), .second, .val (.long x2), .second, .val (.long x3), .second, .val (.long x4), .second, .val (.long x5), .second, .val (.int (1 : Int32)), .val (.int (1 : Int32)), .val (.int (0 : Int32)), .val (.long win), .second, .val (.long (4 : Int64)), .second, .val (.ref a_175), .val (.long x2), .second, .val (.int (1 : Int32)), .val (.int (0 : Int32))]) at_148 (pc' := 150) rfl rfl ?_
          refine go_iload C at_150 (pc' := 152) rfl rfl ?_
          refine go_if0 C (0 : Int) (by decide) at_152 (by decide) (pc' := 178) (by decide) (pcN := 155) rfl (fun (c_247 : ¬ (0 : Int) = 0) => by omega) (fun (c_247 : (0 : Int) = 0) => ?_)
          refine go_iload C at_155 (pc' := 157) rfl rfl ?_
          refine go_if0 C (1 : Int) (by decide) at_157 (by decide) (pc' := 175) (by decide) (pcN := 160) rfl (fun (c_248 : (1 : Int) = 0) => by omega) (fun (c_248 : ¬ (1 : Int) = 0) => ?_)
          refine go_aload C at_160 (pc' := 162) rfl rfl rfl ?_
          refine go_virtualP C (as := []) (rest := []) (W := 0) (.long x2) (sat_new_2_1_1 l Z a0 hw a_175 r_206 x1 x2 _ _ E_239 F_240 F_241 F_242 A_243 g_180 g_207) E_239 (wd hw 32 rfl) (wd hw 33 rfl) (wd hw 35 rfl) (wd hw 34 rfl) (wd hw 4 rfl) (wd hw 36 rfl) (by decide) pd_5 rfl rfl rfl (by decide) (by decide) rfl rfl (by decide) (by decide) at_162 (pc' := 165) rfl rfl ?_
          refine go_lload C at_165 (pc' := 167) rfl rfl ?_
          refine go_lcmp C x2.toInt x2.toInt rfl rfl at_167 (pc1 := 168) rfl at_168 (by decide) (pc' := 175) (by decide) (pcN := 171) rfl (fun (c_249 : ¬ x2.toInt = x2.toInt) => by omega) (fun (c_249 : x2.toInt = x2.toInt) => ?_)
          refine go_iconst C (1 : Int32) at_171 (pc' := 172) rfl (by decide) ?_
          refine go_goto C at_172 (by decide) (pc' := 176) (by decide) ?_
          refine go_istore C (Ls' := #[.val (.int x0), .val (.long x1), .second, .val (.long x2), .second, .val (.long x3), .second, .val (.long x4), .second, .val (.long x5), .second, .val (.int (1 : Int32)), .val (.int (1 : Int32)), .val (.int (0 : Int32)), .val (.long win), .second, .val (.long (4 : Int64)), .second, .val (.ref a_175), .val (.long x2), .second, .val (.int (1 : Int32)), .val (.int (0 : Int32))]) at_176 (pc' := 178) rfl rfl ?_
          refine go_aload C at_178 (pc' := 180) rfl rfl rfl ?_
          refine go_lload C at_180 (pc' := 182) rfl rfl ?_
          refine go_lload C at_182 (pc' := 184) rfl rfl ?_
          refine go_virtualN C (as := [.long x3, .long (4 : Int64)]) (rest := []) (W := 0) (sat_add_2_1_1 l Z a0 hw a_175 r_206 x1 x2 x3 (4 : Int64) _ _ E_239 F_240 F_241 F_242 A_243 g_180 g_207) E_239 (wd hw 19 rfl) (wd hw 20 rfl) (wd hw 22 rfl) (wd hw 21 rfl) (wd hw 4 rfl) (wd hw 23 rfl) (by decide) pd_3 rfl rfl rfl (by decide) (by decide) (ce' := 3) (sl' := 10) rfl rfl (by decide) (by decide) at_184 (pc' := 187) rfl rfl ?_
          intro h_250 q_251
          obtain ⟨r_252, g_253, E_254, F_255, F_256, F_257, A_258⟩ := q_251
          refine go_lload C at_187 (pc' := 189) rfl rfl ?_
          refine go_lstore C (Ls' := #[.val (.int x0), .val (.long x1), .second, .val (.long x2), .second, .val (.long x3), .second, .val (.long x4), .second, .val (.long x5), .second, .val (.int (1 : Int32)), .val (.int (1 : Int32)), .val (.int (0 : Int32)), .val (.long win), .second, .val (.long (4 : Int64)), .second, .val (.ref a_175), .val (.long x3), .second, .val (.int (1 : Int32)), .val (.int (0 : Int32))]) at_189 (pc' := 191) rfl rfl ?_
          refine go_iload C at_191 (pc' := 193) rfl rfl ?_
          refine go_if0 C (0 : Int) (by decide) at_193 (by decide) (pc' := 209) (by decide) (pcN := 196) rfl (fun (c_259 : (0 : Int) = 0) => ?_) (fun (c_259 : ¬ (0 : Int) = 0) => by omega)
          refine go_iload C at_209 (pc' := 211) rfl rfl ?_
          refine go_if0 C (1 : Int) (by decide) at_211 (by decide) (pc' := 229) (by decide) (pcN := 214) rfl (fun (c_260 : (1 : Int) = 0) => by omega) (fun (c_260 : ¬ (1 : Int) = 0) => ?_)
          refine go_aload C at_214 (pc' := 216) rfl rfl rfl ?_
          refine go_virtualP C (as := []) (rest := []) (W := 0) (.long x3) (sat_new_2_1_2 l Z a0 hw a_175 r_252 x3 x2 _ _ E_254 F_255 F_256 F_257 A_258 g_180 g_253) E_254 (wd hw 32 rfl) (wd hw 33 rfl) (wd hw 35 rfl) (wd hw 34 rfl) (wd hw 4 rfl) (wd hw 36 rfl) (by decide) pd_5 rfl rfl rfl (by decide) (by decide) rfl rfl (by decide) (by decide) at_216 (pc' := 219) rfl rfl ?_
          refine go_lload C at_219 (pc' := 221) rfl rfl ?_
          refine go_lcmp C x3.toInt x3.toInt rfl rfl at_221 (pc1 := 222) rfl at_222 (by decide) (pc' := 229) (by decide) (pcN := 225) rfl (fun (c_261 : ¬ x3.toInt = x3.toInt) => by omega) (fun (c_261 : x3.toInt = x3.toInt) => ?_)
          refine go_iconst C (1 : Int32) at_225 (pc' := 226) rfl (by decide) ?_
          refine go_goto C at_226 (by decide) (pc' := 230) (by decide) ?_
          refine go_istore C (Ls' := #[.val (.int x0), .val (.long x1), .second, .val (.long x2), .second, .val (.long x3), .second, .val (.long x4), .second, .val (.long x5), .second, .val (.int (1 : Int32)), .val (.int (1 : Int32)), .val (.int (0 : Int32)), .val (.long win), .second, .val (.long (4 : Int64)), .second, .val (.ref a_175), .val (.long x3), .second, .val (.int (1 : Int32)), .val (.int (0 : Int32))]) at_230 (pc' := 232) rfl rfl ?_
          refine go_iload C at_232 (pc' := 234) rfl rfl ?_
          refine go_ireturnN C (z' := (1 : Int32)) rfl (by simp) rfl at_234 (by decide) (by decide) ?_
          exact ⟨_, rfl, rfl⟩
        · skip
          obtain ⟨hc_262, E_263, F_264, F_265, F_266, A_267⟩ := q_215
          refine go_lload C at_118 (pc' := 120) rfl rfl ?_
          refine go_lloadN C at_120 (pc' := 121) rfl rfl ?_
          refine go_lsub C at_121 (pc' := 122) rfl ?_
          refine go_lload C at_122 (pc' := 124) rfl rfl ?_
          refine go_lcmp C ((x5 - x1).toInt) win.toInt rfl rfl at_124 (pc1 := 125) rfl at_125 (by decide) (pc' := 147) (by decide) (pcN := 128) rfl (fun (c_268 : ((x5 - x1).toInt) < win.toInt) => by omega) (fun (c_268 : ¬ ((x5 - x1).toInt) < win.toInt) => ?_)
          refine go_iload C at_128 (pc' := 130) rfl rfl ?_
          refine go_if0 C (1 : Int) (by decide) at_130 (by decide) (pc' := 143) (by decide) (pcN := 133) rfl (fun (c_269 : (1 : Int) = 0) => by omega) (fun (c_269 : ¬ (1 : Int) = 0) => ?_)
          refine go_lload C at_133 (pc' := 135) rfl rfl ?_
          refine go_lloadN C at_135 (pc' := 136) rfl rfl ?_
          refine go_lsub C at_136 (pc' := 137) rfl ?_
          refine go_lload C at_137 (pc' := 139) rfl rfl ?_
          refine go_lcmp C ((x5 - x2).toInt) win.toInt rfl rfl at_139 (pc1 := 140) rfl at_140 (by decide) (pc' := 147) (by decide) (pcN := 143) rfl (fun (c_270 : ((x5 - x2).toInt) < win.toInt) => by omega) (fun (c_270 : ¬ ((x5 - x2).toInt) < win.toInt) => ?_)
          refine go_iconst C (1 : Int32) at_143 (pc' := 144) rfl (by decide) ?_
          refine go_goto C at_144 (by decide) (pc' := 148) (by decide) ?_
          refine go_istore C (Ls' := #[.val (.int x0), .val (.long x1), .second, .val (.long x2), .second, .val (.long x3), .second, .val (.long x4), .second, .val (.long x5), .second, .val (.int (1 : Int32)), .val (.int (1 : Int32)), .val (.int (0 : Int32)), .val (.long win), .second, .val (.long (4 : Int64)), .second, .val (.ref a_175), .val (.long x2), .second, .val (.int (1 : Int32)), .val (.int (1 : Int32))]) at_148 (pc' := 150) rfl rfl ?_
          refine go_iload C at_150 (pc' := 152) rfl rfl ?_
          refine go_if0 C (1 : Int) (by decide) at_152 (by decide) (pc' := 178) (by decide) (pcN := 155) rfl (fun (c_271 : ¬ (1 : Int) = 0) => ?_) (fun (c_271 : (1 : Int) = 0) => by omega)
          refine go_aload C at_178 (pc' := 180) rfl rfl rfl ?_
          refine go_lload C at_180 (pc' := 182) rfl rfl ?_
          refine go_lload C at_182 (pc' := 184) rfl rfl ?_
          refine go_virtualN C (as := [.long x3, .long (4 : Int64)]) (rest := []) (W := 0) (sat_add_2_0_0 l Z a0 hw a_175 r_206 x1 x2 x3 (4 : Int64) _ _ E_263 F_264 F_265 F_266 A_267 g_180 g_207) E_263 (wd hw 19 rfl) (wd hw 20 rfl) (wd hw 22 rfl) (wd hw 21 rfl) (wd hw 4 rfl) (wd hw 23 rfl) (by decide) pd_3 rfl rfl rfl (by decide) (by decide) (ce' := 3) (sl' := 10) rfl rfl (by decide) (by decide) at_184 (pc' := 187) rfl rfl ?_
          intro h_272 q_273
          obtain ⟨r_274, g_275, E_276, F_277, F_278, F_279, A_280⟩ := q_273
          refine go_lload C at_187 (pc' := 189) rfl rfl ?_
          refine go_lstore C (Ls' := #[.val (.int x0), .val (.long x1), .second, .val (.long x2), .second, .val (.long x3), .second, .val (.long x4), .second, .val (.long x5), .second, .val (.int (1 : Int32)), .val (.int (1 : Int32)), .val (.int (0 : Int32)), .val (.long win), .second, .val (.long (4 : Int64)), .second, .val (.ref a_175), .val (.long x3), .second, .val (.int (1 : Int32)), .val (.int (1 : Int32))]) at_189 (pc' := 191) rfl rfl ?_
          refine go_iload C at_191 (pc' := 193) rfl rfl ?_
          refine go_if0 C (0 : Int) (by decide) at_193 (by decide) (pc' := 209) (by decide) (pcN := 196) rfl (fun (c_281 : (0 : Int) = 0) => ?_) (fun (c_281 : ¬ (0 : Int) = 0) => by omega)
          refine go_iload C at_209 (pc' := 211) rfl rfl ?_
          refine go_if0 C (1 : Int) (by decide) at_211 (by decide) (pc' := 229) (by decide) (pcN := 214) rfl (fun (c_282 : (1 : Int) = 0) => by omega) (fun (c_282 : ¬ (1 : Int) = 0) => ?_)
          refine go_aload C at_214 (pc' := 216) rfl rfl rfl ?_
          refine go_virtualP C (as := []) (rest := []) (W := 0) (.long x3) (sat_new_2_0_1 l Z a0 hw a_175 r_274 x3 x2 _ _ E_276 F_277 F_278 F_279 A_280 g_180 g_275) E_276 (wd hw 32 rfl) (wd hw 33 rfl) (wd hw 35 rfl) (wd hw 34 rfl) (wd hw 4 rfl) (wd hw 36 rfl) (by decide) pd_5 rfl rfl rfl (by decide) (by decide) rfl rfl (by decide) (by decide) at_216 (pc' := 219) rfl rfl ?_
          refine go_lload C at_219 (pc' := 221) rfl rfl ?_
          refine go_lcmp C x3.toInt x3.toInt rfl rfl at_221 (pc1 := 222) rfl at_222 (by decide) (pc' := 229) (by decide) (pcN := 225) rfl (fun (c_283 : ¬ x3.toInt = x3.toInt) => by omega) (fun (c_283 : x3.toInt = x3.toInt) => ?_)
          refine go_iconst C (1 : Int32) at_225 (pc' := 226) rfl (by decide) ?_
          refine go_goto C at_226 (by decide) (pc' := 230) (by decide) ?_
          refine go_istore C (Ls' := #[.val (.int x0), .val (.long x1), .second, .val (.long x2), .second, .val (.long x3), .second, .val (.long x4), .second, .val (.long x5), .second, .val (.int (1 : Int32)), .val (.int (1 : Int32)), .val (.int (0 : Int32)), .val (.long win), .second, .val (.long (4 : Int64)), .second, .val (.ref a_175), .val (.long x3), .second, .val (.int (1 : Int32)), .val (.int (1 : Int32))]) at_230 (pc' := 232) rfl rfl ?_
          refine go_iload C at_232 (pc' := 234) rfl rfl ?_
          refine go_ireturnN C (z' := (1 : Int32)) rfl (by simp) rfl at_234 (by decide) (by decide) ?_
          exact ⟨_, rfl, rfl⟩
      · skip
        refine go_iconst C (1 : Int32) at_30 (pc' := 31) rfl (by decide) ?_
        refine go_goto C at_31 (by decide) (pc' := 35) (by decide) ?_
        refine go_istore C (Ls' := #[.val (.int x0), .val (.long x1), .second, .val (.long x2), .second, .val (.long x3), .second, .val (.long x4), .second, .val (.long x5), .second, .val (.int (1 : Int32)), .val (.int (1 : Int32)), .val (.int (1 : Int32)), .unset, .unset, .unset, .unset, .unset, .unset, .unset, .unset, .unset]) at_35 (pc' := 37) rfl rfl ?_
        refine go_lconst C (1 : Int64) at_37 (pc' := 38) rfl (by decide) ?_
        refine go_iloadN C at_38 (pc' := 39) rfl rfl ?_
        refine go_iconst C (4 : Int32) at_39 (pc' := 40) rfl (by decide) ?_
        refine go_iushr C at_40 (pc' := 41) rfl ?_
        refine go_ldc C (v := (65535 : Int32)) (wd hw 0 rfl) at_41 (pc' := 43) rfl ?_
        refine go_iand C at_43 (pc' := 44) rfl ?_
        refine go_i2l C at_44 (pc' := 45) rfl ?_
        refine go_ladd C at_45 (pc' := 46) rfl ?_
        refine go_lstore C (Ls' := #[.val (.int x0), .val (.long x1), .second, .val (.long x2), .second, .val (.long x3), .second, .val (.long x4), .second, .val (.long x5), .second, .val (.int (1 : Int32)), .val (.int (1 : Int32)), .val (.int (1 : Int32)), .val (.long ((1 : Int64) + (((XT.ushr x0 (4 : Int32)) &&& (65535 : Int32)).toInt64))), .second, .unset, .unset, .unset, .unset, .unset, .unset, .unset]) at_46 (pc' := 48) rfl rfl ?_
        refine go_ldc2 C (v := (4 : Int64)) (wd hw 1 rfl) at_48 (pc' := 51) rfl ?_
        refine go_lstore C (Ls' := #[.val (.int x0), .val (.long x1), .second, .val (.long x2), .second, .val (.long x3), .second, .val (.long x4), .second, .val (.long x5), .second, .val (.int (1 : Int32)), .val (.int (1 : Int32)), .val (.int (1 : Int32)), .val (.long ((1 : Int64) + (((XT.ushr x0 (4 : Int32)) &&& (65535 : Int32)).toInt64))), .second, .val (.long (4 : Int64)), .second, .unset, .unset, .unset, .unset, .unset]) at_51 (pc' := 53) rfl rfl ?_
        generalize (1 : Int64) + (((XT.ushr x0 (4 : Int32)) &&& (65535 : Int32)).toInt64) = win
        refine go_new C (wd hw 2 rfl) (wd hw 3 rfl) (wd hw 4 rfl) at_53 (pc' := 56) rfl (ce' := 1) (sl' := 7) rfl rfl (by decide) (by decide) ?_
        intro h_284 a_285 g_286 E_287 E_288 D_289
        have g_290 : Z.heap.size ≤ a_285 := own_ge (Nat.le_refl _) g_286
        have z_291 : Z.heap.size ≤ h_284.size := Nat.le_trans (Nat.le_refl _) E_287.1
        have F_292 : Fld Z h_284 a_285 "com/example/throttld/throttld/SlidingLog$Log" "ring" "[J" (.null) := D_289 (Or.inl (wd hw 18 rfl)) (ty := (.array .long)) (by decide)
        have F_293 : Fld Z h_284 a_285 "com/example/throttld/throttld/SlidingLog$Log" "count" "I" (.int (0 : Int32)) := D_289 (Or.inl (wd hw 25 rfl)) (ty := .int) (by decide)
        have F_294 : Fld Z h_284 a_285 "com/example/throttld/throttld/SlidingLog$Log" "head" "I" (.int (0 : Int32)) := D_289 (Or.inl (wd hw 31 rfl)) (ty := .int) (by decide)
        refine go_dup C at_56 (pc' := 57) rfl rfl ?_
        refine go_iload C at_57 (pc' := 59) rfl rfl ?_
        refine go_specialN C (as := [.int (1 : Int32)]) (rest := [.ref a_285]) (W := 1) (sat_init1 l Z a0 hw a_285 _ _ E_288 F_292 F_294 F_293 g_290 z_291) rfl (wd hw 5 rfl) (wd hw 6 rfl) (wd hw 4 rfl) (wd hw 7 rfl) (by decide) pd_1 rfl rfl rfl (by decide) (by decide) (ce' := 2) (sl' := 8) rfl rfl (by decide) (by decide) at_59 (pc' := 62) rfl rfl ?_
        intro h_295 q_296
        obtain ⟨r_297, g_298, E_299, F_300, F_301, F_302, A_303⟩ := q_296
        refine go_astore C (Ls' := #[.val (.int x0), .val (.long x1), .second, .val (.long x2), .second, .val (.long x3), .second, .val (.long x4), .second, .val (.long x5), .second, .val (.int (1 : Int32)), .val (.int (1 : Int32)), .val (.int (1 : Int32)), .val (.long win), .second, .val (.long (4 : Int64)), .second, .val (.ref a_285), .unset, .unset, .unset, .unset]) at_62 (pc' := 64) rfl rfl rfl ?_
        refine go_aload C at_64 (pc' := 66) rfl rfl rfl ?_
        refine go_lloadN C at_66 (pc' := 67) rfl rfl ?_
        refine go_lload C at_67 (pc' := 69) rfl rfl ?_
        refine go_virtualN C (as := [.long x1, .long (4 : Int64)]) (rest := []) (W := 0) (sat_add_1_0_0 l Z a0 hw a_285 r_297 (0 : Int64) x1 (4 : Int64) _ _ E_299 F_300 F_301 F_302 A_303 g_290 g_298) E_299 (wd hw 19 rfl) (wd hw 20 rfl) (wd hw 22 rfl) (wd hw 21 rfl) (wd hw 4 rfl) (wd hw 23 rfl) (by decide) pd_3 rfl rfl rfl (by decide) (by decide) (ce' := 2) (sl' := 8) rfl rfl (by decide) (by decide) at_69 (pc' := 72) rfl rfl ?_
        intro h_304 q_305
        obtain ⟨r_306, g_307, E_308, F_309, F_310, F_311, A_312⟩ := q_305
        refine go_lloadN C at_72 (pc' := 73) rfl rfl ?_
        refine go_lstore C (Ls' := #[.val (.int x0), .val (.long x1), .second, .val (.long x2), .second, .val (.long x3), .second, .val (.long x4), .second, .val (.long x5), .second, .val (.int (1 : Int32)), .val (.int (1 : Int32)), .val (.int (1 : Int32)), .val (.long win), .second, .val (.long (4 : Int64)), .second, .val (.ref a_285), .val (.long x1), .second, .unset, .unset]) at_73 (pc' := 75) rfl rfl ?_
        refine go_iload C at_75 (pc' := 77) rfl rfl ?_
        refine go_if0 C (1 : Int) (by decide) at_77 (by decide) (pc' := 91) (by decide) (pcN := 80) rfl (fun (c_313 : (1 : Int) = 0) => by omega) (fun (c_313 : ¬ (1 : Int) = 0) => ?_)
        refine go_aload C at_80 (pc' := 82) rfl rfl rfl ?_
        refine go_lloadN C at_82 (pc' := 83) rfl rfl ?_
        refine go_lload C at_83 (pc' := 85) rfl rfl ?_
        refine go_virtualN C (as := [.long x2, .long (4 : Int64)]) (rest := []) (W := 0) (sat_add_1_0_1 l Z a0 hw a_285 r_306 x1 x2  _ _ E_308 F_309 F_310 F_311 A_312 g_290 g_307) E_308 (wd hw 19 rfl) (wd hw 20 rfl) (wd hw 22 rfl) (wd hw 21 rfl) (wd hw 4 rfl) (wd hw 23 rfl) (by decide) pd_3 rfl rfl rfl (by decide) (by decide) (ce' := 3) (sl' := 10) rfl rfl (by decide) (by decide) at_85 (pc' := 88) rfl rfl ?_
        intro h_314 q_315
        obtain ⟨r_316, g_317, E_318, F_319, F_320, F_321, A_322⟩ := q_315
        refine go_lloadN C at_88 (pc' := 89) rfl rfl ?_
        refine go_lstore C (Ls' := #[.val (.int x0), .val (.long x1), .second, .val (.long x2), .second, .val (.long x3), .second, .val (.long x4), .second, .val (.long x5), .second, .val (.int (1 : Int32)), .val (.int (1 : Int32)), .val (.int (1 : Int32)), .val (.long win), .second, .val (.long (4 : Int64)), .second, .val (.ref a_285), .val (.long x2), .second, .unset, .unset]) at_89 (pc' := 91) rfl rfl ?_
        refine go_aload C at_91 (pc' := 93) rfl rfl rfl ?_
        refine go_virtualP C (as := []) (rest := []) (W := 0) (.long x2) (sat_new_2_0_2 l Z a0 hw a_285 r_316 x1 x2 _ _ E_318 F_319 F_320 F_321 A_322 g_290 g_317) E_318 (wd hw 32 rfl) (wd hw 33 rfl) (wd hw 35 rfl) (wd hw 34 rfl) (wd hw 4 rfl) (wd hw 36 rfl) (by decide) pd_5 rfl rfl rfl (by decide) (by decide) rfl rfl (by decide) (by decide) at_93 (pc' := 96) rfl rfl ?_
        refine go_lload C at_96 (pc' := 98) rfl rfl ?_
        refine go_lcmp C x2.toInt x2.toInt rfl rfl at_98 (pc1 := 99) rfl at_99 (by decide) (pc' := 106) (by decide) (pcN := 102) rfl (fun (c_323 : ¬ x2.toInt = x2.toInt) => by omega) (fun (c_323 : x2.toInt = x2.toInt) => ?_)
        refine go_iconst C (1 : Int32) at_102 (pc' := 103) rfl (by decide) ?_
        refine go_goto C at_103 (by decide) (pc' := 107) (by decide) ?_
        refine go_istore C (Ls' := #[.val (.int x0), .val (.long x1), .second, .val (.long x2), .second, .val (.long x3), .second, .val (.long x4), .second, .val (.long x5), .second, .val (.int (1 : Int32)), .val (.int (1 : Int32)), .val (.int (1 : Int32)), .val (.long win), .second, .val (.long (4 : Int64)), .second, .val (.ref a_285), .val (.long x2), .second, .val (.int (1 : Int32)), .unset]) at_107 (pc' := 109) rfl rfl ?_
        refine go_aload C at_109 (pc' := 111) rfl rfl rfl ?_
        refine go_lload C at_111 (pc' := 113) rfl rfl ?_
        refine go_lload C at_113 (pc' := 115) rfl rfl ?_
        refine go_virtualN C (as := [.long x5, .long win]) (rest := []) (W := 0) (sat_drop_2_0_2 l Z a0 hw a_285 r_316 x1 x2 x5 win _ _ E_318 F_319 F_320 F_321 A_322 g_290 g_317) E_318 (wd hw 37 rfl) (wd hw 38 rfl) (wd hw 40 rfl) (wd hw 39 rfl) (wd hw 4 rfl) (wd hw 41 rfl) (by decide) pd_3 rfl rfl rfl (by decide) (by decide) (ce' := 3) (sl' := 10) rfl rfl (by decide) (by decide) at_115 (pc' := 118) rfl rfl ?_
        intro h_324 q_325
        rcases q_325 with q_325 | q_325 | q_325
        · skip
          obtain ⟨hc_326, E_327, F_328, F_329, F_330, A_331⟩ := q_325
          refine go_lload C at_118 (pc' := 120) rfl rfl ?_
          refine go_lloadN C at_120 (pc' := 121) rfl rfl ?_
          refine go_lsub C at_121 (pc' := 122) rfl ?_
          refine go_lload C at_122 (pc' := 124) rfl rfl ?_
          refine go_lcmp C ((x5 - x1).toInt) win.toInt rfl rfl at_124 (pc1 := 125) rfl at_125 (by decide) (pc' := 147) (by decide) (pcN := 128) rfl (fun (c_332 : ((x5 - x1).toInt) < win.toInt) => ?_) (fun (c_332 : ¬ ((x5 - x1).toInt) < win.toInt) => by omega)
          refine go_iconst C (0 : Int32) at_147 (pc' := 148) rfl (by decide) ?_
          refine go_istore C (Ls' := #[.val (.int x0), .val (.long x1), .second, .val (.long x2), .second, .val (.long x3), .second, .val (.long x4), .second, .val (.long x5), .second, .val (.int (1 : Int32)), .val (.int (1 : Int32)), .val (.int (1 : Int32)), .val (.long win), .second, .val (.long (4 : Int64)), .second, .val (.ref a_285), .val (.long x2), .second, .val (.int (1 : Int32)), .val (.int (0 : Int32))]) at_148 (pc' := 150) rfl rfl ?_
          refine go_iload C at_150 (pc' := 152) rfl rfl ?_
          refine go_if0 C (0 : Int) (by decide) at_152 (by decide) (pc' := 178) (by decide) (pcN := 155) rfl (fun (c_333 : ¬ (0 : Int) = 0) => by omega) (fun (c_333 : (0 : Int) = 0) => ?_)
          refine go_iload C at_155 (pc' := 157) rfl rfl ?_
          refine go_if0 C (1 : Int) (by decide) at_157 (by decide) (pc' := 175) (by decide) (pcN := 160) rfl (fun (c_334 : (1 : Int) = 0) => by omega) (fun (c_334 : ¬ (1 : Int) = 0) => ?_)
          refine go_aload C at_160 (pc' := 162) rfl rfl rfl ?_
          refine go_virtualP C (as := []) (rest := []) (W := 0) (.long x2) (sat_new_2_0_2 l Z a0 hw a_285 r_316 x1 x2 _ _ E_327 F_328 F_329 F_330 A_331 g_290 g_317) E_327 (wd hw 32 rfl) (wd hw 33 rfl) (wd hw 35 rfl) (wd hw 34 rfl) (wd hw 4 rfl) (wd hw 36 rfl) (by decide) pd_5 rfl rfl rfl (by decide) (by decide) rfl rfl (by decide) (by decide) at_162 (pc' := 165) rfl rfl ?_
          refine go_lload C at_165 (pc' := 167) rfl rfl ?_
          refine go_lcmp C x2.toInt x2.toInt rfl rfl at_167 (pc1 := 168) rfl at_168 (by decide) (pc' := 175) (by decide) (pcN := 171) rfl (fun (c_335 : ¬ x2.toInt = x2.toInt) => by omega) (fun (c_335 : x2.toInt = x2.toInt) => ?_)
          refine go_iconst C (1 : Int32) at_171 (pc' := 172) rfl (by decide) ?_
          refine go_goto C at_172 (by decide) (pc' := 176) (by decide) ?_
          refine go_istore C (Ls' := #[.val (.int x0), .val (.long x1), .second, .val (.long x2), .second, .val (.long x3), .second, .val (.long x4), .second, .val (.long x5), .second, .val (.int (1 : Int32)), .val (.int (1 : Int32)), .val (.int (1 : Int32)), .val (.long win), .second, .val (.long (4 : Int64)), .second, .val (.ref a_285), .val (.long x2), .second, .val (.int (1 : Int32)), .val (.int (0 : Int32))]) at_176 (pc' := 178) rfl rfl ?_
          refine go_aload C at_178 (pc' := 180) rfl rfl rfl ?_
          refine go_lload C at_180 (pc' := 182) rfl rfl ?_
          refine go_lload C at_182 (pc' := 184) rfl rfl ?_
          refine go_virtualN C (as := [.long x3, .long (4 : Int64)]) (rest := []) (W := 0) (sat_add_2_0_2 l Z a0 hw a_285 r_316 x1 x2 x3  _ _ E_327 F_328 F_329 F_330 A_331 g_290 g_317) E_327 (wd hw 19 rfl) (wd hw 20 rfl) (wd hw 22 rfl) (wd hw 21 rfl) (wd hw 4 rfl) (wd hw 23 rfl) (by decide) pd_3 rfl rfl rfl (by decide) (by decide) (ce' := 4) (sl' := 14) rfl rfl (by decide) (by decide) at_184 (pc' := 187) rfl rfl ?_
          intro h_336 q_337
          obtain ⟨r_338, g_339, E_340, F_341, F_342, F_343, A_344⟩ := q_337
          refine go_lload C at_187 (pc' := 189) rfl rfl ?_
          refine go_lstore C (Ls' := #[.val (.int x0), .val (.long x1), .second, .val (.long x2), .second, .val (.long x3), .second, .val (.long x4), .second, .val (.long x5), .second, .val (.int (1 : Int32)), .val (.int (1 : Int32)), .val (.int (1 : Int32)), .val (.long win), .second, .val (.long (4 : Int64)), .second, .val (.ref a_285), .val (.long x3), .second, .val (.int (1 : Int32)), .val (.int (0 : Int32))]) at_189 (pc' := 191) rfl rfl ?_
          refine go_iload C at_191 (pc' := 193) rfl rfl ?_
          refine go_if0 C (1 : Int) (by decide) at_193 (by decide) (pc' := 209) (by decide) (pcN := 196) rfl (fun (c_345 : (1 : Int) = 0) => by omega) (fun (c_345 : ¬ (1 : Int) = 0) => ?_)
          refine go_aload C at_196 (pc' := 198) rfl rfl rfl ?_
          refine go_lload C at_198 (pc' := 200) rfl rfl ?_
          refine go_lload C at_200 (pc' := 202) rfl rfl ?_
          refine go_virtualN C (as := [.long x4, .long (4 : Int64)]) (rest := []) (W := 0) (sat_add_4_0_3 l Z a0 hw a_285 r_338 x1 x2 x3 (0 : Int64) x4 (4 : Int64) _ _ E_340 F_341 F_342 F_343 A_344 g_290 g_339) E_340 (wd hw 19 rfl) (wd hw 20 rfl) (wd hw 22 rfl) (wd hw 21 rfl) (wd hw 4 rfl) (wd hw 23 rfl) (by decide) pd_3 rfl rfl rfl (by decide) (by decide) (ce' := 4) (sl' := 14) rfl rfl (by decide) (by decide) at_202 (pc' := 205) rfl rfl ?_
          intro h_346 q_347
          obtain ⟨r_348, g_349, E_350, F_351, F_352, F_353, A_354⟩ := q_347
          refine go_lload C at_205 (pc' := 207) rfl rfl ?_
          refine go_lstore C (Ls' := #[.val (.int x0), .val (.long x1), .second, .val (.long x2), .second, .val (.long x3), .second, .val (.long x4), .second, .val (.long x5), .second, .val (.int (1 : Int32)), .val (.int (1 : Int32)), .val (.int (1 : Int32)), .val (.long win), .second, .val (.long (4 : Int64)), .second, .val (.ref a_285), .val (.long x4), .second, .val (.int (1 : Int32)), .val (.int (0 : Int32))]) at_207 (pc' := 209) rfl rfl ?_
          refine go_iload C at_209 (pc' := 211) rfl rfl ?_
          refine go_if0 C (1 : Int) (by decide) at_211 (by decide) (pc' := 229) (by decide) (pcN := 214) rfl (fun (c_355 : (1 : Int) = 0) => by omega) (fun (c_355 : ¬ (1 : Int) = 0) => ?_)
          refine go_aload C at_214 (pc' := 216) rfl rfl rfl ?_
          refine go_virtualP C (as := []) (rest := []) (W := 0) (.long x4) (sat_new_4_0_4 l Z a0 hw a_285 r_348 x1 x2 x3 x4 _ _ E_350 F_351 F_352 F_353 A_354 g_290 g_349) E_350 (wd hw 32 rfl) (wd hw 33 rfl) (wd hw 35 rfl) (wd hw 34 rfl) (wd hw 4 rfl) (wd hw 36 rfl) (by decide) pd_5 rfl rfl rfl (by decide) (by decide) rfl rfl (by decide) (by decide) at_216 (pc' := 219) rfl rfl ?_
          refine go_lload C at_219 (pc' := 221) rfl rfl ?_
          refine go_lcmp C x4.toInt x4.toInt rfl rfl at_221 (pc1 := 222) rfl at_222 (by decide) (pc' := 229) (by decide) (pcN := 225) rfl (fun (c_356 : ¬ x4.toInt = x4.toInt) => by omega) (fun (c_356 : x4.toInt = x4.toInt) => ?_)
          refine go_iconst C (1 : Int32) at_225 (pc' := 226) rfl (by decide) ?_
          refine go_goto C at_226 (by decide) (pc' := 230) (by decide) ?_
          refine go_istore C (Ls' := #[.val (.int x0), .val (.long x1), .second, .val (.long x2), .second, .val (.long x3), .second, .val (.long x4), .second, .val (.long x5), .second, .val (.int (1 : Int32)), .val (.int (1 : Int32)), .val (.int (1 : Int32)), .val (.long win), .second, .val (.long (4 : Int64)), .second, .val (.ref a_285), .val (.long x4), .second, .val (.int (1 : Int32)), .val (.int (0 : Int32))]) at_230 (pc' := 232) rfl rfl ?_
          refine go_iload C at_232 (pc' := 234) rfl rfl ?_
          refine go_ireturnN C (z' := (1 : Int32)) rfl (by simp) rfl at_234 (by decide) (by decide) ?_
          exact ⟨_, rfl, rfl⟩
        · skip
          obtain ⟨hc_357, E_358, F_359, F_360, F_361, A_362⟩ := q_325
          refine go_lload C at_118 (pc' := 120) rfl rfl ?_
          refine go_lloadN C at_120 (pc' := 121) rfl rfl ?_
          refine go_lsub C at_121 (pc' := 122) rfl ?_
          refine go_lload C at_122 (pc' := 124) rfl rfl ?_
          refine go_lcmp C ((x5 - x1).toInt) win.toInt rfl rfl at_124 (pc1 := 125) rfl at_125 (by decide) (pc' := 147) (by decide) (pcN := 128) rfl (fun (c_363 : ((x5 - x1).toInt) < win.toInt) => by omega) (fun (c_363 : ¬ ((x5 - x1).toInt) < win.toInt) => ?_)
          refine go_iload C at_128 (pc' := 130) rfl rfl ?_
          refine go_if0 C (1 : Int) (by decide) at_130 (by decide) (pc' := 143) (by decide) (pcN := 133) rfl (fun (c_364 : (1 : Int) = 0) => by omega) (fun (c_364 : ¬ (1 : Int) = 0) => ?_)
          refine go_lload C at_133 (pc' := 135) rfl rfl ?_
          refine go_lloadN C at_135 (pc' := 136) rfl rfl ?_
          refine go_lsub C at_136 (pc' := 137) rfl ?_
          refine go_lload C at_137 (pc' := 139) rfl rfl ?_
          refine go_lcmp C ((x5 - x2).toInt) win.toInt rfl rfl at_139 (pc1 := 140) rfl at_140 (by decide) (pc' := 147) (by decide) (pcN := 143) rfl (fun (c_365 : ((x5 - x2).toInt) < win.toInt) => ?_) (fun (c_365 : ¬ ((x5 - x2).toInt) < win.toInt) => by omega)
          refine go_iconst C (0 : Int32) at_147 (pc' := 148) rfl (by decide) ?_
          refine go_istore C (Ls' := #[.val (.int x0), .val (.long x1), .second, .val (.long x2), .second, .val (.long x3), .second, .val (.long x4), .second, .val (.long x5), .second, .val (.int (1 : Int32)), .val (.int (1 : Int32)), .val (.int (1 : Int32)), .val (.long win), .second, .val (.long (4 : Int64)), .second, .val (.ref a_285), .val (.long x2), .second, .val (.int (1 : Int32)), .val (.int (0 : Int32))]) at_148 (pc' := 150) rfl rfl ?_
          refine go_iload C at_150 (pc' := 152) rfl rfl ?_
          refine go_if0 C (0 : Int) (by decide) at_152 (by decide) (pc' := 178) (by decide) (pcN := 155) rfl (fun (c_366 : ¬ (0 : Int) = 0) => by omega) (fun (c_366 : (0 : Int) = 0) => ?_)
          refine go_iload C at_155 (pc' := 157) rfl rfl ?_
          refine go_if0 C (1 : Int) (by decide) at_157 (by decide) (pc' := 175) (by decide) (pcN := 160) rfl (fun (c_367 : (1 : Int) = 0) => by omega) (fun (c_367 : ¬ (1 : Int) = 0) => ?_)
          refine go_aload C at_160 (pc' := 162) rfl rfl rfl ?_
          refine go_virtualP C (as := []) (rest := []) (W := 0) (.long x2) (sat_new_2_1_1 l Z a0 hw a_285 r_316 x1 x2 _ _ E_358 F_359 F_360 F_361 A_362 g_290 g_317) E_358 (wd hw 32 rfl) (wd hw 33 rfl) (wd hw 35 rfl) (wd hw 34 rfl) (wd hw 4 rfl) (wd hw 36 rfl) (by decide) pd_5 rfl rfl rfl (by decide) (by decide) rfl rfl (by decide) (by decide) at_162 (pc' := 165) rfl rfl ?_
          refine go_lload C at_165 (pc' := 167) rfl rfl ?_
          refine go_lcmp C x2.toInt x2.toInt rfl rfl at_167 (pc1 := 168) rfl at_168 (by decide) (pc' := 175) (by decide) (pcN := 171) rfl (fun (c_368 : ¬ x2.toInt = x2.toInt) => by omega) (fun (c_368 : x2.toInt = x2.toInt) => ?_)
          refine go_iconst C (1 : Int32) at_171 (pc' := 172) rfl (by decide) ?_
          refine go_goto C at_172 (by decide) (pc' := 176) (by decide) ?_
          refine go_istore C (Ls' := #[.val (.int x0), .val (.long x1), .second, .val (.long x2), .second, .val (.long x3), .second, .val (.long x4), .second, .val (.long x5), .second, .val (.int (1 : Int32)), .val (.int (1 : Int32)), .val (.int (1 : Int32)), .val (.long win), .second, .val (.long (4 : Int64)), .second, .val (.ref a_285), .val (.long x2), .second, .val (.int (1 : Int32)), .val (.int (0 : Int32))]) at_176 (pc' := 178) rfl rfl ?_
          refine go_aload C at_178 (pc' := 180) rfl rfl rfl ?_
          refine go_lload C at_180 (pc' := 182) rfl rfl ?_
          refine go_lload C at_182 (pc' := 184) rfl rfl ?_
          refine go_virtualN C (as := [.long x3, .long (4 : Int64)]) (rest := []) (W := 0) (sat_add_2_1_1 l Z a0 hw a_285 r_316 x1 x2 x3 (4 : Int64) _ _ E_358 F_359 F_360 F_361 A_362 g_290 g_317) E_358 (wd hw 19 rfl) (wd hw 20 rfl) (wd hw 22 rfl) (wd hw 21 rfl) (wd hw 4 rfl) (wd hw 23 rfl) (by decide) pd_3 rfl rfl rfl (by decide) (by decide) (ce' := 3) (sl' := 10) rfl rfl (by decide) (by decide) at_184 (pc' := 187) rfl rfl ?_
          intro h_369 q_370
          obtain ⟨r_371, g_372, E_373, F_374, F_375, F_376, A_377⟩ := q_370
          refine go_lload C at_187 (pc' := 189) rfl rfl ?_
          refine go_lstore C (Ls' := #[.val (.int x0), .val (.long x1), .second, .val (.long x2), .second, .val (.long x3), .second, .val (.long x4), .second, .val (.long x5), .second, .val (.int (1 : Int32)), .val (.int (1 : Int32)), .val (.int (1 : Int32)), .val (.long win), .second, .val (.long (4 : Int64)), .second, .val (.ref a_285), .val (.long x3), .second, .val (.int (1 : Int32)), .val (.int (0 : Int32))]) at_189 (pc' := 191) rfl rfl ?_
          refine go_iload C at_191 (pc' := 193) rfl rfl ?_
          refine go_if0 C (1 : Int) (by decide) at_193 (by decide) (pc' := 209) (by decide) (pcN := 196) rfl (fun (c_378 : (1 : Int) = 0) => by omega) (fun (c_378 : ¬ (1 : Int) = 0) => ?_)
          refine go_aload C at_196 (pc' := 198) rfl rfl rfl ?_
          refine go_lload C at_198 (pc' := 200) rfl rfl ?_
          refine go_lload C at_200 (pc' := 202) rfl rfl ?_
          refine go_virtualN C (as := [.long x4, .long (4 : Int64)]) (rest := []) (W := 0) (sat_add_2_1_2 l Z a0 hw a_285 r_371 x3 x2 x4  _ _ E_373 F_374 F_375 F_376 A_377 g_290 g_372) E_373 (wd hw 19 rfl) (wd hw 20 rfl) (wd hw 22 rfl) (wd hw 21 rfl) (wd hw 4 rfl) (wd hw 23 rfl) (by decide) pd_3 rfl rfl rfl (by decide) (by decide) (ce' := 4) (sl' := 14) rfl rfl (by decide) (by decide) at_202 (pc' := 205) rfl rfl ?_
          intro h_379 q_380
          obtain ⟨r_381, g_382, E_383, F_384, F_385, F_386, A_387⟩ := q_380
          refine go_lload C at_205 (pc' := 207) rfl rfl ?_
          refine go_lstore C (Ls' := #[.val (.int x0), .val (.long x1), .second, .val (.long x2), .second, .val (.long x3), .second, .val (.long x4), .second, .val (.long x5), .second, .val (.int (1 : Int32)), .val (.int (1 : Int32)), .val (.int (1 : Int32)), .val (.long win), .second, .val (.long (4 : Int64)), .second, .val (.ref a_285), .val (.long x4), .second, .val (.int (1 : Int32)), .val (.int (0 : Int32))]) at_207 (pc' := 209) rfl rfl ?_
          refine go_iload C at_209 (pc' := 211) rfl rfl ?_
          refine go_if0 C (1 : Int) (by decide) at_211 (by decide) (pc' := 229) (by decide) (pcN := 214) rfl (fun (c_388 : (1 : Int) = 0) => by omega) (fun (c_388 : ¬ (1 : Int) = 0) => ?_)
          refine go_aload C at_214 (pc' := 216) rfl rfl rfl ?_
          refine go_virtualP C (as := []) (rest := []) (W := 0) (.long x4) (sat_new_4_0_3 l Z a0 hw a_285 r_381 x2 x3 x4 (0 : Int64) _ _ E_383 F_384 F_385 F_386 A_387 g_290 g_382) E_383 (wd hw 32 rfl) (wd hw 33 rfl) (wd hw 35 rfl) (wd hw 34 rfl) (wd hw 4 rfl) (wd hw 36 rfl) (by decide) pd_5 rfl rfl rfl (by decide) (by decide) rfl rfl (by decide) (by decide) at_216 (pc' := 219) rfl rfl ?_
          refine go_lload C at_219 (pc' := 221) rfl rfl ?_
          refine go_lcmp C x4.toInt x4.toInt rfl rfl at_221 (pc1 := 222) rfl at_222 (by decide) (pc' := 229) (by decide) (pcN := 225) rfl (fun (c_389 : ¬ x4.toInt = x4.toInt) => by omega) (fun (c_389 : x4.toInt = x4.toInt) => ?_)
          refine go_iconst C (1 : Int32) at_225 (pc' := 226) rfl (by decide) ?_
          refine go_goto C at_226 (by decide) (pc' := 230) (by decide) ?_
          refine go_istore C (Ls' := #[.val (.int x0), .val (.long x1), .second, .val (.long x2), .second, .val (.long x3), .second, .val (.long x4), .second, .val (.long x5), .second, .val (.int (1 : Int32)), .val (.int (1 : Int32)), .val (.int (1 : Int32)), .val (.long win), .second, .val (.long (4 : Int64)), .second, .val (.ref a_285), .val (.long x4), .second, .val (.int (1 : Int32)), .val (.int (0 : Int32))]) at_230 (pc' := 232) rfl rfl ?_
          refine go_iload C at_232 (pc' := 234) rfl rfl ?_
          refine go_ireturnN C (z' := (1 : Int32)) rfl (by simp) rfl at_234 (by decide) (by decide) ?_
          exact ⟨_, rfl, rfl⟩
        · skip
          obtain ⟨hc_390, E_391, F_392, F_393, F_394, A_395⟩ := q_325
          refine go_lload C at_118 (pc' := 120) rfl rfl ?_
          refine go_lloadN C at_120 (pc' := 121) rfl rfl ?_
          refine go_lsub C at_121 (pc' := 122) rfl ?_
          refine go_lload C at_122 (pc' := 124) rfl rfl ?_
          refine go_lcmp C ((x5 - x1).toInt) win.toInt rfl rfl at_124 (pc1 := 125) rfl at_125 (by decide) (pc' := 147) (by decide) (pcN := 128) rfl (fun (c_396 : ((x5 - x1).toInt) < win.toInt) => by omega) (fun (c_396 : ¬ ((x5 - x1).toInt) < win.toInt) => ?_)
          refine go_iload C at_128 (pc' := 130) rfl rfl ?_
          refine go_if0 C (1 : Int) (by decide) at_130 (by decide) (pc' := 143) (by decide) (pcN := 133) rfl (fun (c_397 : (1 : Int) = 0) => by omega) (fun (c_397 : ¬ (1 : Int) = 0) => ?_)
          refine go_lload C at_133 (pc' := 135) rfl rfl ?_
          refine go_lloadN C at_135 (pc' := 136) rfl rfl ?_
          refine go_lsub C at_136 (pc' := 137) rfl ?_
          refine go_lload C at_137 (pc' := 139) rfl rfl ?_
          refine go_lcmp C ((x5 - x2).toInt) win.toInt rfl rfl at_139 (pc1 := 140) rfl at_140 (by decide) (pc' := 147) (by decide) (pcN := 143) rfl (fun (c_398 : ((x5 - x2).toInt) < win.toInt) => by omega) (fun (c_398 : ¬ ((x5 - x2).toInt) < win.toInt) => ?_)
          refine go_iconst C (1 : Int32) at_143 (pc' := 144) rfl (by decide) ?_
          refine go_goto C at_144 (by decide) (pc' := 148) (by decide) ?_
          refine go_istore C (Ls' := #[.val (.int x0), .val (.long x1), .second, .val (.long x2), .second, .val (.long x3), .second, .val (.long x4), .second, .val (.long x5), .second, .val (.int (1 : Int32)), .val (.int (1 : Int32)), .val (.int (1 : Int32)), .val (.long win), .second, .val (.long (4 : Int64)), .second, .val (.ref a_285), .val (.long x2), .second, .val (.int (1 : Int32)), .val (.int (1 : Int32))]) at_148 (pc' := 150) rfl rfl ?_
          refine go_iload C at_150 (pc' := 152) rfl rfl ?_
          refine go_if0 C (1 : Int) (by decide) at_152 (by decide) (pc' := 178) (by decide) (pcN := 155) rfl (fun (c_399 : ¬ (1 : Int) = 0) => ?_) (fun (c_399 : (1 : Int) = 0) => by omega)
          refine go_aload C at_178 (pc' := 180) rfl rfl rfl ?_
          refine go_lload C at_180 (pc' := 182) rfl rfl ?_
          refine go_lload C at_182 (pc' := 184) rfl rfl ?_
          refine go_virtualN C (as := [.long x3, .long (4 : Int64)]) (rest := []) (W := 0) (sat_add_2_0_0 l Z a0 hw a_285 r_316 x1 x2 x3 (4 : Int64) _ _ E_391 F_392 F_393 F_394 A_395 g_290 g_317) E_391 (wd hw 19 rfl) (wd hw 20 rfl) (wd hw 22 rfl) (wd hw 21 rfl) (wd hw 4 rfl) (wd hw 23 rfl) (by decide) pd_3 rfl rfl rfl (by decide) (by decide) (ce' := 3) (sl' := 10) rfl rfl (by decide) (by decide) at_184 (pc' := 187) rfl rfl ?_
          intro h_400 q_401
          obtain ⟨r_402, g_403, E_404, F_405, F_406, F_407, A_408⟩ := q_401
          refine go_lload C at_187 (pc' := 189) rfl rfl ?_
          refine go_lstore C (Ls' := #[.val (.int x0), .val (.long x1), .second, .val (.long x2), .second, .val (.long x3), .second, .val (.long x4), .second, .val (.long x5), .second, .val (.int (1 : Int32)), .val (.int (1 : Int32)), .val (.int (1 : Int32)), .val (.long win), .second, .val (.long (4 : Int64)), .second, .val (.ref a_285), .val (.long x3), .second, .val (.int (1 : Int32)), .val (.int (1 : Int32))]) at_189 (pc' := 191) rfl rfl ?_
          refine go_iload C at_191 (pc' := 193) rfl rfl ?_
          refine go_if0 C (1 : Int) (by decide) at_193 (by decide) (pc' := 209) (by decide) (pcN := 196) rfl (fun (c_409 : (1 : Int) = 0) => by omega) (fun (c_409 : ¬ (1 : Int) = 0) => ?_)
          refine go_aload C at_196 (pc' := 198) rfl rfl rfl ?_
          refine go_lload C at_198 (pc' := 200) rfl rfl ?_
          refine go_lload C at_200 (pc' := 202) rfl rfl ?_
          refine go_virtualN C (as := [.long x4, .long (4 : Int64)]) (rest := []) (W := 0) (sat_add_2_0_1 l Z a0 hw a_285 r_402 x3 x2 x4 (4 : Int64) _ _ E_404 F_405 F_406 F_407 A_408 g_290 g_403) E_404 (wd hw 19 rfl) (wd hw 20 rfl) (wd hw 22 rfl) (wd hw 21 rfl) (wd hw 4 rfl) (wd hw 23 rfl) (by decide) pd_3 rfl rfl rfl (by decide) (by decide) (ce' := 3) (sl' := 10) rfl rfl (by decide) (by decide) at_202 (pc' := 205) rfl rfl ?_
          intro h_410 q_411
          obtain ⟨r_412, g_413, E_414, F_415, F_416, F_417, A_418⟩ := q_411
          refine go_lload C at_205 (pc' := 207) rfl rfl ?_
          refine go_lstore C (Ls' := #[.val (.int x0), .val (.long x1), .second, .val (.long x2), .second, .val (.long x3), .second, .val (.long x4), .second, .val (.long x5), .second, .val (.int (1 : Int32)), .val (.int (1 : Int32)), .val (.int (1 : Int32)), .val (.long win), .second, .val (.long (4 : Int64)), .second, .val (.ref a_285), .val (.long x4), .second, .val (.int (1 : Int32)), .val (.int (1 : Int32))]) at_207 (pc' := 209) rfl rfl ?_
          refine go_iload C at_209 (pc' := 211) rfl rfl ?_
          refine go_if0 C (1 : Int) (by decide) at_211 (by decide) (pc' := 229) (by decide) (pcN := 214) rfl (fun (c_419 : (1 : Int) = 0) => by omega) (fun (c_419 : ¬ (1 : Int) = 0) => ?_)
          refine go_aload C at_214 (pc' := 216) rfl rfl rfl ?_
          refine go_virtualP C (as := []) (rest := []) (W := 0) (.long x4) (sat_new_2_0_2 l Z a0 hw a_285 r_412 x3 x4 _ _ E_414 F_415 F_416 F_417 A_418 g_290 g_413) E_414 (wd hw 32 rfl) (wd hw 33 rfl) (wd hw 35 rfl) (wd hw 34 rfl) (wd hw 4 rfl) (wd hw 36 rfl) (by decide) pd_5 rfl rfl rfl (by decide) (by decide) rfl rfl (by decide) (by decide) at_216 (pc' := 219) rfl rfl ?_
          refine go_lload C at_219 (pc' := 221) rfl rfl ?_
          refine go_lcmp C x4.toInt x4.toInt rfl rfl at_221 (pc1 := 222) rfl at_222 (by decide) (pc' := 229) (by decide) (pcN := 225) rfl (fun (c_420 : ¬ x4.toInt = x4.toInt) => by omega) (fun (c_420 : x4.toInt = x4.toInt) => ?_)
          refine go_iconst C (1 : Int32) at_225 (pc' := 226) rfl (by decide) ?_
          refine go_goto C at_226 (by decide) (pc' := 230) (by decide) ?_
          refine go_istore C (Ls' := #[.val (.int x0), .val (.long x1), .second, .val (.long x2), .second, .val (.long x3), .second, .val (.long x4), .second, .val (.long x5), .second, .val (.int (1 : Int32)), .val (.int (1 : Int32)), .val (.int (1 : Int32)), .val (.long win), .second, .val (.long (4 : Int64)), .second, .val (.ref a_285), .val (.long x4), .second, .val (.int (1 : Int32)), .val (.int (1 : Int32))]) at_230 (pc' := 232) rfl rfl ?_
          refine go_iload C at_232 (pc' := 234) rfl rfl ?_
          refine go_ireturnN C (z' := (1 : Int32)) rfl (by simp) rfl at_234 (by decide) (by decide) ?_
          exact ⟨_, rfl, rfl⟩
  · rw [hn]
    refine go_iadd C at_4 (pc' := 5) rfl ?_
    rw [(by decide : (1 : Int32) + (1 : Int32) = (2 : Int32))]
    refine go_istore C (Ls' := #[.val (.int x0), .val (.long x1), .second, .val (.long x2), .second, .val (.long x3), .second, .val (.long x4), .second, .val (.long x5), .second, .val (.int (2 : Int32)), .unset, .unset, .unset, .unset, .unset, .unset, .unset, .unset, .unset, .unset, .unset]) at_5 (pc' := 7) rfl rfl ?_
    refine go_iloadN C at_7 (pc' := 8) rfl rfl ?_
    refine go_iconst C (2 : Int32) at_8 (pc' := 9) rfl (by decide) ?_
    refine go_iushr C at_9 (pc' := 10) rfl ?_
    refine go_iconst C (1 : Int32) at_10 (pc' := 11) rfl (by decide) ?_
    refine go_iand C at_11 (pc' := 12) rfl ?_
    refine go_if0 C (((XT.ushr x0 (2 : Int32)) &&& (1 : Int32)).toInt) rfl at_12 (by decide) (pc' := 19) (by decide) (pcN := 15) rfl (fun (c_421 : (((XT.ushr x0 (2 : Int32)) &&& (1 : Int32)).toInt) = 0) => ?_) (fun (c_421 : ¬ (((XT.ushr x0 (2 : Int32)) &&& (1 : Int32)).toInt) = 0) => ?_)
    · skip
      refine go_iconst C (0 : Int32) at_19 (pc' := 20) rfl (by decide) ?_
      refine go_istore C (Ls' := #[.val (.int x0), .val (.long x1), .second, .val (.long x2), .second, .val (.long x3), .second, .val (.long x4), .second, .val (.long x5), .second, .val (.int (2 : Int32)), .val (.int (0 : Int32)), .unset, .unset, .unset, .unset, .unset, .unset, .unset, .unset, .unset, .unset]) at_20 (pc' := 22) rfl rfl ?_
      refine go_iloadN C at_22 (pc' := 23) rfl rfl ?_
      refine go_iconst C (3 : Int32) at_23 (pc' := 24) rfl (by decide) ?_
      refine go_iushr C at_24 (pc' := 25) rfl ?_
      refine go_iconst C (1 : Int32) at_25 (pc' := 26) rfl (by decide) ?_
      refine go_iand C at_26 (pc' := 27) rfl ?_
      refine go_if0 C (((XT.ushr x0 (3 : Int32)) &&& (1 : Int32)).toInt) rfl at_27 (by decide) (pc' := 34) (by decide) (pcN := 30) rfl (fun (c_422 : (((XT.ushr x0 (3 : Int32)) &&& (1 : Int32)).toInt) = 0) => ?_) (fun (c_422 : ¬ (((XT.ushr x0 (3 : Int32)) &&& (1 : Int32)).toInt) = 0) => ?_)
      · skip
        refine go_iconst C (0 : Int32) at_34 (pc' := 35) rfl (by decide) ?_
        refine go_istore C (Ls' := #[.val (.int x0), .val (.long x1), .second, .val (.long x2), .second, .val (.long x3), .second, .val (.long x4), .second, .val (.long x5), .second, .val (.int (2 : Int32)), .val (.int (0 : Int32)), .val (.int (0 : Int32)), .unset, .unset, .unset, .unset, .unset, .unset, .unset, .unset, .unset]) at_35 (pc' := 37) rfl rfl ?_
        refine go_lconst C (1 : Int64) at_37 (pc' := 38) rfl (by decide) ?_
        refine go_iloadN C at_38 (pc' := 39) rfl rfl ?_
        refine go_iconst C (4 : Int32) at_39 (pc' := 40) rfl (by decide) ?_
        refine go_iushr C at_40 (pc' := 41) rfl ?_
        refine go_ldc C (v := (65535 : Int32)) (wd hw 0 rfl) at_41 (pc' := 43) rfl ?_
        refine go_iand C at_43 (pc' := 44) rfl ?_
        refine go_i2l C at_44 (pc' := 45) rfl ?_
        refine go_ladd C at_45 (pc' := 46) rfl ?_
        refine go_lstore C (Ls' := #[.val (.int x0), .val (.long x1), .second, .val (.long x2), .second, .val (.long x3), .second, .val (.long x4), .second, .val (.long x5), .second, .val (.int (2 : Int32)), .val (.int (0 : Int32)), .val (.int (0 : Int32)), .val (.long ((1 : Int64) + (((XT.ushr x0 (4 : Int32)) &&& (65535 : Int32)).toInt64))), .second, .unset, .unset, .unset, .unset, .unset, .unset, .unset]) at_46 (pc' := 48) rfl rfl ?_
        refine go_ldc2 C (v := (4 : Int64)) (wd hw 1 rfl) at_48 (pc' := 51) rfl ?_
        refine go_lstore C (Ls' := #[.val (.int x0), .val (.long x1), .second, .val (.long x2), .second, .val (.long x3), .second, .val (.long x4), .second, .val (.long x5), .second, .val (.int (2 : Int32)), .val (.int (0 : Int32)), .val (.int (0 : Int32)), .val (.long ((1 : Int64) + (((XT.ushr x0 (4 : Int32)) &&& (65535 : Int32)).toInt64))), .second, .val (.long (4 : Int64)), .second, .unset, .unset, .unset, .unset, .unset]) at_51 (pc' := 53) rfl rfl ?_
        generalize (1 : Int64) + (((XT.ushr x0 (4 : Int32)) &&& (65535 : Int32)).toInt64) = win
        refine go_new C (wd hw 2 rfl) (wd hw 3 rfl) (wd hw 4 rfl) at_53 (pc' := 56) rfl (ce' := 1) (sl' := 7) rfl rfl (by decide) (by decide) ?_
        intro h_423 a_424 g_425 E_426 E_427 D_428
        have g_429 : Z.heap.size ≤ a_424 := own_ge (Nat.le_refl _) g_425
        have z_430 : Z.heap.size ≤ h_423.size := Nat.le_trans (Nat.le_refl _) E_426.1
        have F_431 : Fld Z h_423 a_424 "com/example/throttld/throttld/SlidingLog$Log" "ring" "[J" (.null) := D_428 (Or.inl (wd hw 18 rfl)) (ty := (.array .long)) (by decide)
        have F_432 : Fld Z h_423 a_424 "com/example/throttld/throttld/SlidingLog$Log" "count" "I" (.int (0 : Int32)) := D_428 (Or.inl (wd hw 25 rfl)) (ty := .int) (by decide)
        have F_433 : Fld Z h_423 a_424 "com/example/throttld/throttld/SlidingLog$Log" "head" "I" (.int (0 : Int32)) := D_428 (Or.inl (wd hw 31 rfl)) (ty := .int) (by decide)
        refine go_dup C at_56 (pc' := 57) rfl rfl ?_
        refine go_iload C at_57 (pc' := 59) rfl rfl ?_
        refine go_specialN C (as := [.int (2 : Int32)]) (rest := [.ref a_424]) (W := 1) (sat_init2 l Z a0 hw a_424 _ _ E_427 F_431 F_433 F_432 g_429 z_430) rfl (wd hw 5 rfl) (wd hw 6 rfl) (wd hw 4 rfl) (wd hw 7 rfl) (by decide) pd_1 rfl rfl rfl (by decide) (by decide) (ce' := 2) (sl' := 9) rfl rfl (by decide) (by decide) at_59 (pc' := 62) rfl rfl ?_
        intro h_434 q_435
        obtain ⟨r_436, g_437, E_438, F_439, F_440, F_441, A_442⟩ := q_435
        refine go_astore C (Ls' := #[.val (.int x0), .val (.long x1), .second, .val (.long x2), .second, .val (.long x3), .second, .val (.long x4), .second, .val (.long x5), .second, .val (.int (2 : Int32)), .val (.int (0 : Int32)), .val (.int (0 : Int32)), .val (.long win), .second, .val (.long (4 : Int64)), .second, .val (.ref a_424), .unset, .unset, .unset, .unset]) at_62 (pc' := 64) rfl rfl rfl ?_
        refine go_aload C at_64 (pc' := 66) rfl rfl rfl ?_
        refine go_lloadN C at_66 (pc' := 67) rfl rfl ?_
        refine go_lload C at_67 (pc' := 69) rfl rfl ?_
        refine go_virtualN C (as := [.long x1, .long (4 : Int64)]) (rest := []) (W := 0) (sat_add_2_0_0 l Z a0 hw a_424 r_436 (0 : Int64) (0 : Int64) x1 (4 : Int64) _ _ E_438 F_439 F_440 F_441 A_442 g_429 g_437) E_438 (wd hw 19 rfl) (wd hw 20 rfl) (wd hw 22 rfl) (wd hw 21 rfl) (wd hw 4 rfl) (wd hw 23 rfl) (by decide) pd_3 rfl rfl rfl (by decide) (by decide) (ce' := 2) (sl' := 9) rfl rfl (by decide) (by decide) at_69 (pc' := 72) rfl rfl ?_
        intro h_443 q_444
        obtain ⟨r_445, g_446, E_447, F_448, F_449, F_450, A_451⟩ := q_444
        refine go_lloadN C at_72 (pc' := 73) rfl rfl ?_
        refine go_lstore C (Ls' := #[.val (.int x0), .val (.long x1), .second, .val (.long x2), .second, .val (.long x3), .second, .val (.long x4), .second, .val (.long x5), .second, .val (.int (2 : Int32)), .val (.int (0 : Int32)), .val (.int (0 : Int32)), .val (.long win), .second, .val (.long (4 : Int64)), .second, .val (.ref a_424), .val (.long x1), .second, .unset, .unset]) at_73 (pc' := 75) rfl rfl ?_
        refine go_iload C at_75 (pc' := 77) rfl rfl ?_
        refine go_if0 C (0 : Int) (by decide) at_77 (by decide) (pc' := 91) (by decide) (pcN := 80) rfl (fun (c_452 : (0 : Int) = 0) => ?_) (fun (c_452 : ¬ (0 : Int) = 0) => by omega)
        refine go_aload C at_91 (pc' := 93) rfl rfl rfl ?_
        refine go_virtualP C (as := []) (rest := []) (W := 0) (.long x1) (sat_new_2_0_1 l Z a0 hw a_424 r_445 x1 (0 : Int64) _ _ E_447 F_448 F_449 F_450 A_451 g_429 g_446) E_447 (wd hw 32 rfl) (wd hw 33 rfl) (wd hw 35 rfl) (wd hw 34 rfl) (wd hw 4 rfl) (wd hw 36 rfl) (by decide) pd_5 rfl rfl rfl (by decide) (by decide) rfl rfl (by decide) (by decide) at_93 (pc' := 96) rfl rfl ?_
        refine go_lload C at_96 (pc' := 98) rfl rfl ?_
        refine go_lcmp C x1.toInt x1.toInt rfl rfl at_98 (pc1 := 99) rfl at_99 (by decide) (pc' := 106) (by decide) (pcN := 102) rfl (fun (c_453 : ¬ x1.toInt = x1.toInt) => by omega) (fun (c_453 : x1.toInt = x1.toInt) => ?_)
        refine go_iconst C (1 : Int32) at_102 (pc' := 103) rfl (by decide) ?_
        refine go_goto C at_103 (by decide) (pc' := 107) (by decide) ?_
        refine go_istore C (Ls' := #[.val (.int x0), .val (.long x1), .second, .val (.long x2), .second, .val (.long x3), .second, .val (.long x4), .second, .val (.long x5), .second, .val (.int (2 : Int32)), .val (.int (0 : Int32)), .val (.int (0 : Int32)), .val (.long win), .second, .val (.long (4 : Int64)), .second, .val (.ref a_424), .val (.long x1), .second, .val (.int (1 : Int32)), .unset]) at_107 (pc' := 109) rfl rfl ?_
        refine go_aload C at_109 (pc' := 111) rfl rfl rfl ?_
        refine go_lload C at_111 (pc' := 113) rfl rfl ?_
        refine go_lload C at_113 (pc' := 115) rfl rfl ?_
        refine go_virtualN C (as := [.long x5, .long win]) (rest := []) (W := 0) (sat_drop_2_0_1 l Z a0 hw a_424 r_445 x1 (0 : Int64) x5 win _ _ E_447 F_448 F_449 F_450 A_451 g_429 g_446) E_447 (wd hw 37 rfl) (wd hw 38 rfl) (wd hw 40 rfl) (wd hw 39 rfl) (wd hw 4 rfl) (wd hw 41 rfl) (by decide) pd_3 rfl rfl rfl (by decide) (by decide) (ce' := 2) (sl' := 9) rfl rfl (by decide) (by decide) at_115 (pc' := 118) rfl rfl ?_
        intro h_454 q_455
        rcases q_455 with q_455 | q_455
        · skip
          obtain ⟨hc_456, E_457, F_458, F_459, F_460, A_461⟩ := q_455
          refine go_lload C at_118 (pc' := 120) rfl rfl ?_
          refine go_lloadN C at_120 (pc' := 121) rfl rfl ?_
          refine go_lsub C at_121 (pc' := 122) rfl ?_
          refine go_lload C at_122 (pc' := 124) rfl rfl ?_
          refine go_lcmp C ((x5 - x1).toInt) win.toInt rfl rfl at_124 (pc1 := 125) rfl at_125 (by decide) (pc' := 147) (by decide) (pcN := 128) rfl (fun (c_462 : ((x5 - x1).toInt) < win.toInt) => ?_) (fun (c_462 : ¬ ((x5 - x1).toInt) < win.toInt) => by omega)
          refine go_iconst C (0 : Int32) at_147 (pc' := 148) rfl (by decide) ?_
          refine go_istore C (Ls' := #[.val (.int x0), .val (.long x1), .second, .val (.long x2), .second, .val (.long x3), .second, .val (.long x4), .second, .val (.long x5), .second, .val (.int (2 : Int32)), .val (.int (0 : Int32)), .val (.int (0 : Int32)), .val (.long win), .second, .val (.long (4 : Int64)), .second, .val (.ref a_424), .val (.long x1), .second, .val (.int (1 : Int32)), .val (.int (0 : Int32))]) at_148 (pc' := 150) rfl rfl ?_
          refine go_iload C at_150 (pc' := 152) rfl rfl ?_
          refine go_if0 C (0 : Int) (by decide) at_152 (by decide) (pc' := 178) (by decide) (pcN := 155) rfl (fun (c_463 : ¬ (0 : Int) = 0) => by omega) (fun (c_463 : (0 : Int) = 0) => ?_)
          refine go_iload C at_155 (pc' := 157) rfl rfl ?_
          refine go_if0 C (1 : Int) (by decide) at_157 (by decide) (pc' := 175) (by decide) (pcN := 160) rfl (fun (c_464 : (1 : Int) = 0) => by omega) (fun (c_464 : ¬ (1 : Int) = 0) => ?_)
          refine go_aload C at_160 (pc' := 162) rfl rfl rfl ?_
          refine go_virtualP C (as := []) (rest := []) (W := 0) (.long x1) (sat_new_2_0_1 l Z a0 hw a_424 r_445 x1 (0 : Int64) _ _ E_457 F_458 F_459 F_460 A_461 g_429 g_446) E_457 (wd hw 32 rfl) (wd hw 33 rfl) (wd hw 35 rfl) (wd hw 34 rfl) (wd hw 4 rfl) (wd hw 36 rfl) (by decide) pd_5 rfl rfl rfl (by decide) (by decide) rfl rfl (by decide) (by decide) at_162 (pc' := 165) rfl rfl ?_
          refine go_lload C at_165 (pc' := 167) rfl rfl ?_
          refine go_lcmp C x1.toInt x1.toInt rfl rfl at_167 (pc1 := 168) rfl at_168 (by decide) (pc' := 175) (by decide) (pcN := 171) rfl (fun (c_465 : ¬ x1.toInt = x1.toInt) => by omega) (fun (c_465 : x1.toInt = x1.toInt) => ?_)
          refine go_iconst C (1 : Int32) at_171 (pc' := 172) rfl (by decide) ?_
          refine go_goto C at_172 (by decide) (pc' := 176) (by decide) ?_
          refine go_istore C (Ls' := #[.val (.int x0), .val (.long x1), .second, .val (.long x2), .second, .val (.long x3), .second, .val (.long x4), .second, .val (.long x5), .second, .val (.int (2 : Int32)), .val (.int (0 : Int32)), .val (.int (0 : Int32)), .val (.long win), .second, .val (.long (4 : Int64)), .second, .val (.ref a_424), .val (.long x1), .second, .val (.int (1 : Int32)), .val (.int (0 : Int32))]) at_176 (pc' := 178) rfl rfl ?_
          refine go_aload C at_178 (pc' := 180) rfl rfl rfl ?_
          refine go_lload C at_180 (pc' := 182) rfl rfl ?_
          refine go_lload C at_182 (pc' := 184) rfl rfl ?_
          refine go_virtualN C (as := [.long x3, .long (4 : Int64)]) (rest := []) (W := 0) (sat_add_2_0_1 l Z a0 hw a_424 r_445 x1 (0 : Int64) x3 (4 : Int64) _ _ E_457 F_458 F_459 F_460 A_461 g_429 g_446) E_457 (wd hw 19 rfl) (wd hw 20 rfl) (wd hw 22 rfl) (wd hw 21 rfl) (wd hw 4 rfl) (wd hw 23 rfl) (by decide) pd_3 rfl rfl rfl (by decide) (by decide) (ce' := 2) (sl' := 9) rfl rfl (by decide) (by decide) at_184 (pc' := 187) rfl rfl ?_
          intro h_466 q_467
          obtain ⟨r_468, g_469, E_470, F_471, F_472, F_473, A_474⟩ := q_467
          refine go_lload C at_187 (pc' := 189) rfl rfl ?_
          refine go_lstore C (Ls' := #[.val (.int x0), .val (.long x1), .second, .val (.long x2), .second, .val (.long x3), .second, .val (.long x4), .second, .val (.long x5), .second, .val (.int (2 : Int32)), .val (.int (0 : Int32)), .val (.int (0 : Int32)), .val (.long win), .second, .val (.long (4 : Int64)), .second, .val (.ref a_424), .val (.long x3), .second, .val (.int (1 : Int32)), .val (.int (0 : Int32))]) at_189 (pc' := 191) rfl rfl ?_
          refine go_iload C at_191 (pc' := 193) rfl rfl ?_
          refine go_if0 C (0 : Int) (by decide) at_193 (by decide) (pc' := 209) (by decide) (pcN := 196) rfl (fun (c_475 : (0 : Int) = 0) => ?_) (fun (c_475 : ¬ (0 : Int) = 0) => by omega)
          refine go_iload C at_209 (pc' := 211) rfl rfl ?_
          refine go_if0 C (1 : Int) (by decide) at_211 (by decide) (pc' := 229) (by decide) (pcN := 214) rfl (fun (c_476 : (1 : Int) = 0) => by omega) (fun (c_476 : ¬ (1 : Int) = 0) => ?_)
          refine go_aload C at_214 (pc' := 216) rfl rfl rfl ?_
          refine go_virtualP C (as := []) (rest := []) (W := 0) (.long x3) (sat_new_2_0_2 l Z a0 hw a_424 r_468 x1 x3 _ _ E_470 F_471 F_472 F_473 A_474 g_429 g_469) E_470 (wd hw 32 rfl) (wd hw 33 rfl) (wd hw 35 rfl) (wd hw 34 rfl) (wd hw 4 rfl) (wd hw 36 rfl) (by decide) pd_5 rfl rfl rfl (by decide) (by decide) rfl rfl (by decide) (by decide) at_216 (pc' := 219) rfl rfl ?_
          refine go_lload C at_219 (pc' := 221) rfl rfl ?_
          refine go_lcmp C x3.toInt x3.toInt rfl rfl at_221 (pc1 := 222) rfl at_222 (by decide) (pc' := 229) (by decide) (pcN := 225) rfl (fun (c_477 : ¬ x3.toInt = x3.toInt) => by omega) (fun (c_477 : x3.toInt = x3.toInt) => ?_)
          refine go_iconst C (1 : Int32) at_225 (pc' := 226) rfl (by decide) ?_
          refine go_goto C at_226 (by decide) (pc' := 230) (by decide) ?_
          refine go_istore C (Ls' := #[.val (.int x0), .val (.long x1), .second, .val (.long x2), .second, .val (.long x3), .second, .val (.long x4), .second, .val (.long x5), .second, .val (.int (2 : Int32)), .val (.int (0 : Int32)), .val (.int (0 : Int32)), .val (.long win), .second, .val (.long (4 : Int64)), .second, .val (.ref a_424), .val (.long x3), .second, .val (.int (1 : Int32)), .val (.int (0 : Int32))]) at_230 (pc' := 232) rfl rfl ?_
          refine go_iload C at_232 (pc' := 234) rfl rfl ?_
          refine go_ireturnN C (z' := (1 : Int32)) rfl (by simp) rfl at_234 (by decide) (by decide) ?_
          exact ⟨_, rfl, rfl⟩
        · skip
          obtain ⟨hc_478, E_479, F_480, F_481, F_482, A_483⟩ := q_455
          refine go_lload C at_118 (pc' := 120) rfl rfl ?_
          refine go_lloadN C at_120 (pc' := 121) rfl rfl ?_
          refine go_lsub C at_121 (pc' := 122) rfl ?_
          refine go_lload C at_122 (pc' := 124) rfl rfl ?_
          refine go_lcmp C ((x5 - x1).toInt) win.toInt rfl rfl at_124 (pc1 := 125) rfl at_125 (by decide) (pc' := 147) (by decide) (pcN := 128) rfl (fun (c_484 : ((x5 - x1).toInt) < win.toInt) => by omega) (fun (c_484 : ¬ ((x5 - x1).toInt) < win.toInt) => ?_)
          refine go_iload C at_128 (pc' := 130) rfl rfl ?_
          refine go_if0 C (0 : Int) (by decide) at_130 (by decide) (pc' := 143) (by decide) (pcN := 133) rfl (fun (c_485 : (0 : Int) = 0) => ?_) (fun (c_485 : ¬ (0 : Int) = 0) => by omega)
          refine go_iconst C (1 : Int32) at_143 (pc' := 144) rfl (by decide) ?_
          refine go_goto C at_144 (by decide) (pc' := 148) (by decide) ?_
          refine go_istore C (Ls' := #[.val (.int x0), .val (.long x1), .second, .val (.long x2), .second, .val (.long x3), .second, .val (.long x4), .second, .val (.long x5), .second, .val (.int (2 : Int32)), .val (.int (0 : Int32)), .val (.int (0 : Int32)), .val (.long win), .second, .val (.long (4 : Int64)), .second, .val (.ref a_424), .val (.long x1), .second, .val (.int (1 : Int32)), .val (.int (1 : Int32))]) at_148 (pc' := 150) rfl rfl ?_
          refine go_iload C at_150 (pc' := 152) rfl rfl ?_
          refine go_if0 C (1 : Int) (by decide) at_152 (by decide) (pc' := 178) (by decide) (pcN := 155) rfl (fun (c_486 : ¬ (1 : Int) = 0) => ?_) (fun (c_486 : (1 : Int) = 0) => by omega)
          refine go_aload C at_178 (pc' := 180) rfl rfl rfl ?_
          refine go_lload C at_180 (pc' := 182) rfl rfl ?_
          refine go_lload C at_182 (pc' := 184) rfl rfl ?_
          refine go_virtualN C (as := [.long x3, .long (4 : Int64)]) (rest := []) (W := 0) (sat_add_2_1_0 l Z a0 hw a_424 r_445 x1 (0 : Int64) x3 (4 : Int64) _ _ E_479 F_480 F_481 F_482 A_483 g_429 g_446) E_479 (wd hw 19 rfl) (wd hw 20 rfl) (wd hw 22 rfl) (wd hw 21 rfl) (wd hw 4 rfl) (wd hw 23 rfl) (by decide) pd_3 rfl rfl rfl (by decide) (by decide) (ce' := 2) (sl' := 9) rfl rfl (by decide) (by decide) at_184 (pc' := 187) rfl rfl ?_
          intro h_487 q_488
          obtain ⟨r_489, g_490, E_491, F_492, F_493, F_494, A_495⟩ := q_488
          refine go_lload C at_187 (pc' := 189) rfl rfl ?_
          refine go_lstore C (Ls' := #[.val (.int x0), .val (.long x1), .second, .val (.long x2), .second, .val (.long x3), .second, .val (.long x4), .second, .val (.long x5), .second, .val (.int (2 : Int32)), .val (.int (0 : Int32)), .val (.int (0 : Int32)), .val (.long win), .second, .val (.long (4 : Int64)), .second, .val (.ref a_424), .val (.long x3), .second, .val (.int (1 : Int32)), .val (.int (1 : Int32))]) at_189 (pc' := 191) rfl rfl ?_
          refine go_iload C at_191 (pc' := 193) rfl rfl ?_
          refine go_if0 C (0 : Int) (by decide) at_193 (by decide) (pc' := 209) (by decide) (pcN := 196) rfl (fun (c_496 : (0 : Int) = 0) => ?_) (fun (c_496 : ¬ (0 : Int) = 0) => by omega)
          refine go_iload C at_209 (pc' := 211) rfl rfl ?_
          refine go_if0 C (1 : Int) (by decide) at_211 (by decide) (pc' := 229) (by decide) (pcN := 214) rfl (fun (c_497 : (1 : Int) = 0) => by omega) (fun (c_497 : ¬ (1 : Int) = 0) => ?_)
          refine go_aload C at_214 (pc' := 216) rfl rfl rfl ?_
          refine go_virtualP C (as := []) (rest := []) (W := 0) (.long x3) (sat_new_2_1_1 l Z a0 hw a_424 r_489 x1 x3 _ _ E_491 F_492 F_493 F_494 A_495 g_429 g_490) E_491 (wd hw 32 rfl) (wd hw 33 rfl) (wd hw 35 rfl) (wd hw 34 rfl) (wd hw 4 rfl) (wd hw 36 rfl) (by decide) pd_5 rfl rfl rfl (by decide) (by decide) rfl rfl (by decide) (by decide) at_216 (pc' := 219) rfl rfl ?_
          refine go_lload C at_219 (pc' := 221) rfl rfl ?_
          refine go_lcmp C x3.toInt x3.toInt rfl rfl at_221 (pc1 := 222) rfl at_222 (by decide) (pc' := 229) (by decide) (pcN := 225) rfl (fun (c_498 : ¬ x3.toInt = x3.toInt) => by omega) (fun (c_498 : x3.toInt = x3.toInt) => ?_)
          refine go_iconst C (1 : Int32) at_225 (pc' := 226) rfl (by decide) ?_
          refine go_goto C at_226 (by decide) (pc' := 230) (by decide) ?_
          refine go_istore C (Ls' := #[.val (.int x0), .val (.long x1), .second, .val (.long x2), .second, .val (.long x3), .second, .val (.long x4), .second, .val (.long x5), .second, .val (.int (2 : Int32)), .val (.int (0 : Int32)), .val (.int (0 : Int32)), .val (.long win), .second, .val (.long (4 : Int64)), .second, .val (.ref a_424), .val (.long x3), .second, .val (.int (1 : Int32)), .val (.int (1 : Int32))]) at_230 (pc' := 232) rfl rfl ?_
          refine go_iload C at_232 (pc' := 234) rfl rfl ?_
          refine go_ireturnN C (z' := (1 : Int32)) rfl (by simp) rfl at_234 (by decide) (by decide) ?_
          exact ⟨_, rfl, rfl⟩
      · skip
        refine go_iconst C (1 : Int32) at_30 (pc' := 31) rfl (by decide) ?_
        refine go_goto C at_31 (by decide) (pc' := 35) (by decide) ?_
        refine go_istore C (Ls' := #[.val (.int x0), .val (.long x1), .second, .val (.long x2), .second, .val (.long x3), .second, .val (.long x4), .second, .val (.long x5), .second, .val (.int (2 : Int32)), .val (.int (0 : Int32)), .val (.int (1 : Int32)), .unset, .unset, .unset, .unset, .unset, .unset, .unset, .unset, .unset]) at_35 (pc' := 37) rfl rfl ?_
        refine go_lconst C (1 : Int64) at_37 (pc' := 38) rfl (by decide) ?_
        refine go_iloadN C at_38 (pc' := 39) rfl rfl ?_
        refine go_iconst C (4 : Int32) at_39 (pc' := 40) rfl (by decide) ?_
        refine go_iushr C at_40 (pc' := 41) rfl ?_
        refine go_ldc C (v := (65535 : Int32)) (wd hw 0 rfl) at_41 (pc' := 43) rfl ?_
        refine go_iand C at_43 (pc' := 44) rfl ?_
        refine go_i2l C at_44 (pc' := 45) rfl ?_
        refine go_ladd C at_45 (pc' := 46) rfl ?_
        refine go_lstore C (Ls' := #[.val (.int x0), .val (.long x1), .second, .val (.long x2), .second, .val (.long x3), .second, .val (.long x4), .second, .val (.long x5), .second, .val (.int (2 : Int32)), .val (.int (0 : Int32)), .val (.int (1 : Int32)), .val (.long ((1 : Int64) + (((XT.ushr x0 (4 : Int32)) &&& (65535 : Int32)).toInt64))), .second, .unset, .unset, .unset, .unset, .unset, .unset, .unset]) at_46 (pc' := 48) rfl rfl ?_
        refine go_ldc2 C (v := (4 : Int64)) (wd hw 1 rfl) at_48 (pc' := 51) rfl ?_
        refine go_lstore C (Ls' := #[.val (.int x0), .val (.long x1), .second, .val (.long x2), .second, .val (.long x3), .second, .val (.long x4), .second, .val (.long x5), .second, .val (.int (2 : Int32)), .val (.int (0 : Int32)), .val (.int (1 : Int32)), .val (.long ((1 : Int64) + (((XT.ushr x0 (4 : Int32)) &&& (65535 : Int32)).toInt64))), .second, .val (.long (4 : Int64)), .second, .unset, .unset, .unset, .unset, .unset]) at_51 (pc' := 53) rfl rfl ?_
        generalize (1 : Int64) + (((XT.ushr x0 (4 : Int32)) &&& (65535 : Int32)).toInt64) = win
        refine go_new C (wd hw 2 rfl) (wd hw 3 rfl) (wd hw 4 rfl) at_53 (pc' := 56) rfl (ce' := 1) (sl' := 7) rfl rfl (by decide) (by decide) ?_
        intro h_499 a_500 g_501 E_502 E_503 D_504
        have g_505 : Z.heap.size ≤ a_500 := own_ge (Nat.le_refl _) g_501
        have z_506 : Z.heap.size ≤ h_499.size := Nat.le_trans (Nat.le_refl _) E_502.1
        have F_507 : Fld Z h_499 a_500 "com/example/throttld/throttld/SlidingLog$Log" "ring" "[J" (.null) := D_504 (Or.inl (wd hw 18 rfl)) (ty := (.array .long)) (by decide)
        have F_508 : Fld Z h_499 a_500 "com/example/throttld/throttld/SlidingLog$Log" "count" "I" (.int (0 : Int32)) := D_504 (Or.inl (wd hw 25 rfl)) (ty := .int) (by decide)
        have F_509 : Fld Z h_499 a_500 "com/example/throttld/throttld/SlidingLog$Log" "head" "I" (.int (0 : Int32)) := D_504 (Or.inl (wd hw 31 rfl)) (ty := .int) (by decide)
        refine go_dup C at_56 (pc' := 57) rfl rfl ?_
        refine go_iload C at_57 (pc' := 59) rfl rfl ?_
        refine go_specialN C (as := [.int (2 : Int32)]) (rest := [.ref a_500]) (W := 1) (sat_init2 l Z a0 hw a_500 _ _ E_503 F_507 F_509 F_508 g_505 z_506) rfl (wd hw 5 rfl) (wd hw 6 rfl) (wd hw 4 rfl) (wd hw 7 rfl) (by decide) pd_1 rfl rfl rfl (by decide) (by decide) (ce' := 2) (sl' := 9) rfl rfl (by decide) (by decide) at_59 (pc' := 62) rfl rfl ?_
        intro h_510 q_511
        obtain ⟨r_512, g_513, E_514, F_515, F_516, F_517, A_518⟩ := q_511
        refine go_astore C (Ls' := #[.val (.int x0), .val (.long x1), .second, .val (.long x2), .second, .val (.long x3), .second, .val (.long x4), .second, .val (.long x5), .second, .val (.int (2 : Int32)), .val (.int (0 : Int32)), .val (.int (1 : Int32)), .val (.long win), .second, .val (.long (4 : Int64)), .second, .val (.ref a_500), .unset, .unset, .unset, .unset]) at_62 (pc' := 64) rfl rfl rfl ?_
        refine go_aload C at_64 (pc' := 66) rfl rfl rfl ?_
        refine go_lloadN C at_66 (pc' := 67) rfl rfl ?_
        refine go_lload C at_67 (pc' := 69) rfl rfl ?_
        refine go_virtualN C (as := [.long x1, .long (4 : Int64)]) (rest := []) (W := 0) (sat_add_2_0_0 l Z a0 hw a_500 r_512 (0 : Int64) (0 : Int64) x1 (4 : Int64) _ _ E_514 F_515 F_516 F_517 A_518 g_505 g_513) E_514 (wd hw 19 rfl) (wd hw 20 rfl) (wd hw 22 rfl) (wd hw 21 rfl) (wd hw 4 rfl) (wd hw 23 rfl) (by decide) pd_3 rfl rfl rfl (by decide) (by decide) (ce' := 2) (sl' := 9) rfl rfl (by decide) (by decide) at_69 (pc' := 72) rfl rfl ?_
        intro h_519 q_520
        obtain ⟨r_521, g_522, E_523, F_524, F_525, F_526, A_527⟩ := q_520
        refine go_lloadN C at_72 (pc' := 73) rfl rfl ?_
        refine go_lstore C (Ls' := #[.val (.int x0), .val (.long x1), .second, .val (.long x2), .second, .val (.long x3), .second, .val (.long x4), .second, .val (.long x5), .second, .val (.int (2 : Int32)), .val (.int (0 : Int32)), .val (.int (1 : Int32)), .val (.long win), .second, .val (.long (4 : Int64)), .second, .val (.ref a_500), .val (.long x1), .second, .unset, .unset]) at_73 (pc' := 75) rfl rfl ?_
        refine go_iload C at_75 (pc' := 77) rfl rfl ?_
        refine go_if0 C (0 : Int) (by decide) at_77 (by decide) (pc' := 91) (by decide) (pcN := 80) rfl (fun (c_528 : (0 : Int) = 0) => ?_) (fun (c_528 : ¬ (0 : Int) = 0) => by omega)
        refine go_aload C at_91 (pc' := 93) rfl rfl rfl ?_
        refine go_virtualP C (as := []) (rest := []) (W := 0) (.long x1) (sat_new_2_0_1 l Z a0 hw a_500 r_521 x1 (0 : Int64) _ _ E_523 F_524 F_525 F_526 A_527 g_505 g_522) E_523 (wd hw 32 rfl) (wd hw 33 rfl) (wd hw 35 rfl) (wd hw 34 rfl) (wd hw 4 rfl) (wd hw 36 rfl) (by decide) pd_5 rfl rfl rfl (by decide) (by decide) rfl rfl (by decide) (by decide) at_93 (pc' := 96) rfl rfl ?_
        refine go_lload C at_96 (pc' := 98) rfl rfl ?_
        refine go_lcmp C x1.toInt x1.toInt rfl rfl at_98 (pc1 := 99) rfl at_99 (by decide) (pc' := 106) (by decide) (pcN := 102) rfl (fun (c_529 : ¬ x1.toInt = x1.toInt) => by omega) (fun (c_529 : x1.toInt = x1.toInt) => ?_)
        refine go_iconst C (1 : Int32) at_102 (pc' := 103) rfl (by decide) ?_
        refine go_goto C at_103 (by decide) (pc' := 107) (by decide) ?_
        refine go_istore C (Ls' := #[.val (.int x0), .val (.long x1), .second, .val (.long x2), .second, .val (.long x3), .second, .val (.long x4), .second, .val (.long x5), .second, .val (.int (2 : Int32)), .val (.int (0 : Int32)), .val (.int (1 : Int32)), .val (.long win), .second, .val (.long (4 : Int64)), .second, .val (.ref a_500), .val (.long x1), .second, .val (.int (1 : Int32)), .unset]) at_107 (pc' := 109) rfl rfl ?_
        refine go_aload C at_109 (pc' := 111) rfl rfl rfl ?_
        refine go_lload C at_111 (pc' := 113) rfl rfl ?_
        refine go_lload C at_113 (pc' := 115) rfl rfl ?_
        refine go_virtualN C (as := [.long x5, .long win]) (rest := []) (W := 0) (sat_drop_2_0_1 l Z a0 hw a_500 r_521 x1 (0 : Int64) x5 win _ _ E_523 F_524 F_525 F_526 A_527 g_505 g_522) E_523 (wd hw 37 rfl) (wd hw 38 rfl) (wd hw 40 rfl) (wd hw 39 rfl) (wd hw 4 rfl) (wd hw 41 rfl) (by decide) pd_3 rfl rfl rfl (by decide) (by decide) (ce' := 2) (sl' := 9) rfl rfl (by decide) (by decide) at_115 (pc' := 118) rfl rfl ?_
        intro h_530 q_531
        rcases q_531 with q_531 | q_531
        · skip
          obtain ⟨hc_532, E_533, F_534, F_535, F_536, A_537⟩ := q_531
          refine go_lload C at_118 (pc' := 120) rfl rfl ?_
          refine go_lloadN C at_120 (pc' := 121) rfl rfl ?_
          refine go_lsub C at_121 (pc' := 122) rfl ?_
          refine go_lload C at_122 (pc' := 124) rfl rfl ?_
          refine go_lcmp C ((x5 - x1).toInt) win.toInt rfl rfl at_124 (pc1 := 125) rfl at_125 (by decide) (pc' := 147) (by decide) (pcN := 128) rfl (fun (c_538 : ((x5 - x1).toInt) < win.toInt) => ?_) (fun (c_538 : ¬ ((x5 - x1).toInt) < win.toInt) => by omega)
          refine go_iconst C (0 : Int32) at_147 (pc' := 148) rfl (by decide) ?_
          refine go_istore C (Ls' := #[.val (.int x0), .val (.long x1), .second, .val (.long x2), .second, .val (.long x3), .second, .val (.long x4), .second, .val (.long x5), .second, .val (.int (2 : Int32)), .val (.int (0 : Int32)), .val (.int (1 : Int32)), .val (.long win), .second, .val (.long (4 : Int64)), .second, .val (.ref a_500), .val (.long x1), .second, .val (.int (1 : Int32)), .val (.int (0 : Int32))]) at_148 (pc' := 150) rfl rfl ?_
          refine go_iload C at_150 (pc' := 152) rfl rfl ?_
          refine go_if0 C (0 : Int) (by decide) at_152 (by decide) (pc' := 178) (by decide) (pcN := 155) rfl (fun (c_539 : ¬ (0 : Int) = 0) => by omega) (fun (c_539 : (0 : Int) = 0) => ?_)
          refine go_iload C at_155 (pc' := 157) rfl rfl ?_
          refine go_if0 C (1 : Int) (by decide) at_157 (by decide) (pc' := 175) (by decide) (pcN := 160) rfl (fun (c_540 : (1 : Int) = 0) => by omega) (fun (c_540 : ¬ (1 : Int) = 0) => ?_)
          refine go_aload C at_160 (pc' := 162) rfl rfl rfl ?_
          refine go_virtualP C (as := []) (rest := []) (W := 0) (.long x1) (sat_new_2_0_1 l Z a0 hw a_500 r_521 x1 (0 : Int64) _ _ E_533 F_534 F_535 F_536 A_537 g_505 g_522) E_533 (wd hw 32 rfl) (wd hw 33 rfl) (wd hw 35 rfl) (wd hw 34 rfl) (wd hw 4 rfl) (wd hw 36 rfl) (by decide) pd_5 rfl rfl rfl (by decide) (by decide) rfl rfl (by decide) (by decide) at_162 (pc' := 165) rfl rfl ?_
          refine go_lload C at_165 (pc' := 167) rfl rfl ?_
          refine go_lcmp C x1.toInt x1.toInt rfl rfl at_167 (pc1 := 168) rfl at_168 (by decide) (pc' := 175) (by decide) (pcN := 171) rfl (fun (c_541 : ¬ x1.toInt = x1.toInt) => by omega) (fun (c_541 : x1.toInt = x1.toInt) => ?_)
          refine go_iconst C (1 : Int32) at_171 (pc' := 172) rfl (by decide) ?_
          refine go_goto C at_172 (by decide) (pc' := 176) (by decide) ?_
          refine go_istore C (Ls' := #[.val (.int x0), .val (.long x1), .second, .val (.long x2), .second, .val (.long x3), .second, .val (.long x4), .second, .val (.long x5), .second, .val (.int (2 : Int32)), .val (.int (0 : Int32)), .val (.int (1 : Int32)), .val (.long win), .second, .val (.long (4 : Int64)), .second, .val (.ref a_500), .val (.long x1), .second, .val (.int (1 : Int32)), .val (.int (0 : Int32))]) at_176 (pc' := 178) rfl rfl ?_
          refine go_aload C at_178 (pc' := 180) rfl rfl rfl ?_
          refine go_lload C at_180 (pc' := 182) rfl rfl ?_
          refine go_lload C at_182 (pc' := 184) rfl rfl ?_
          refine go_virtualN C (as := [.long x3, .long (4 : Int64)]) (rest := []) (W := 0) (sat_add_2_0_1 l Z a0 hw a_500 r_521 x1 (0 : Int64) x3 (4 : Int64) _ _ E_533 F_534 F_535 F_536 A_537 g_505 g_522) E_533 (wd hw 19 rfl) (wd hw 20 rfl) (wd hw 22 rfl) (wd hw 21 rfl) (wd hw 4 rfl) (wd hw 23 rfl) (by decide) pd_3 rfl rfl rfl (by decide) (by decide) (ce' := 2) (sl' := 9) rfl rfl (by decide) (by decide) at_184 (pc' := 187) rfl rfl ?_
          intro h_542 q_543
          obtain ⟨r_544, g_545, E_546, F_547, F_548, F_549, A_550⟩ := q_543
          refine go_lload C at_187 (pc' := 189) rfl rfl ?_
          refine go_lstore C (Ls' := #[.val (.int x0), .val (.long x1), .second, .val (.long x2), .second, .val (.long x3), .second, .val (.long x4), .second, .val (.long x5), .second, .val (.int (2 : Int32)), .val (.int (0 : Int32)), .val (.int (1 : Int32)), .val (.long win), .second, .val (.long (4 : Int64)), .second, .val (.ref a_500), .val (.long x3), .second, .val (.int (1 : Int32)), .val (.int (0 : Int32))]) at_189 (pc' := 191) rfl rfl ?_
          refine go_iload C at_191 (pc' := 193) rfl rfl ?_
          refine go_if0 C (1 : Int) (by decide) at_193 (by decide) (pc' := 209) (by decide) (pcN := 196) rfl (fun (c_551 : (1 : Int) = 0) => by omega) (fun (c_551 : ¬ (1 : Int) = 0) => ?_)
          refine go_aload C at_196 (pc' := 198) rfl rfl rfl ?_
          refine go_lload C at_198 (pc' := 200) rfl rfl ?_
          refine go_lload C at_200 (pc' := 202) rfl rfl ?_
          refine go_virtualN C (as := [.long x4, .long (4 : Int64)]) (rest := []) (W := 0) (sat_add_2_0_2 l Z a0 hw a_500 r_544 x1 x3 x4  _ _ E_546 F_547 F_548 F_549 A_550 g_505 g_545) E_546 (wd hw 19 rfl) (wd hw 20 rfl) (wd hw 22 rfl) (wd hw 21 rfl) (wd hw 4 rfl) (wd hw 23 rfl) (by decide) pd_3 rfl rfl rfl (by decide) (by decide) (ce' := 3) (sl' := 13) rfl rfl (by decide) (by decide) at_202 (pc' := 205) rfl rfl ?_
          intro h_552 q_553
          obtain ⟨r_554, g_555, E_556, F_557, F_558, F_559, A_560⟩ := q_553
          refine go_lload C at_205 (pc' := 207) rfl rfl ?_
          refine go_lstore C (Ls' := #[.val (.int x0), .val (.long x1), .second, .val (.long x2), .second, .val (.long x3), .second, .val (.long x4), .second, .val (.long x5), .second, .val (.int (2 : Int32)), .val (.int (0 : Int32)), .val (.int (1 : Int32)), .val (.long win), .second, .val (.long (4 : Int64)), .second, .val (.ref a_500), .val (.long x4), .second, .val (.int (1 : Int32)), .val (.int (0 : Int32))]) at_207 (pc' := 209) rfl rfl ?_
          refine go_iload C at_209 (pc' := 211) rfl rfl ?_
          refine go_if0 C (1 : Int) (by decide) at_211 (by decide) (pc' := 229) (by decide) (pcN := 214) rfl (fun (c_561 : (1 : Int) = 0) => by omega) (fun (c_561 : ¬ (1 : Int) = 0) => ?_)
          refine go_aload C at_214 (pc' := 216) rfl rfl rfl ?_
          refine go_virtualP C (as := []) (rest := []) (W := 0) (.long x4) (sat_new_4_0_3 l Z a0 hw a_500 r_554 x1 x3 x4 (0 : Int64) _ _ E_556 F_557 F_558 F_559 A_560 g_505 g_555) E_556 (wd hw 32 rfl) (wd hw 33 rfl) (wd hw 35 rfl) (wd hw 34 rfl) (wd hw 4 rfl) (wd hw 36 rfl) (by decide) pd_5 rfl rfl rfl (by decide) (by decide) rfl rfl (by decide) (by decide) at_216 (pc' := 219) rfl rfl ?_
          refine go_lload C at_219 (pc' := 221) rfl rfl ?_
          refine go_lcmp C x4.toInt x4.toInt rfl rfl at_221 (pc1 := 222) rfl at_222 (by decide) (pc' := 229) (by decide) (pcN := 225) rfl (fun (c_562 : ¬ x4.toInt = x4.toInt) => by omega) (fun (c_562 : x4.toInt = x4.toInt) => ?_)
          refine go_iconst C (1 : Int32) at_225 (pc' := 226) rfl (by decide) ?_
          refine go_goto C at_226 (by decide) (pc' := 230) (by decide) ?_
          refine go_istore C (Ls' := #[.val (.int x0), .val (.long x1), .second, .val (.long x2), .second, .val (.long x3), .second, .val (.long x4), .second, .val (.long x5), .second, .val (.int (2 : Int32)), .val (.int (0 : Int32)), .val (.int (1 : Int32)), .val (.long win), .second, .val (.long (4 : Int64)), .second, .val (.ref a_500), .val (.long x4), .second, .val (.int (1 : Int32)), .val (.int (0 : Int32))]) at_230 (pc' := 232) rfl rfl ?_
          refine go_iload C at_232 (pc' := 234) rfl rfl ?_
          refine go_ireturnN C (z' := (1 : Int32)) rfl (by simp) rfl at_234 (by decide) (by decide) ?_
          exact ⟨_, rfl, rfl⟩
        · skip
          obtain ⟨hc_563, E_564, F_565, F_566, F_567, A_568⟩ := q_531
          refine go_lload C at_118 (pc' := 120) rfl rfl ?_
          refine go_lloadN C at_120 (pc' := 121) rfl rfl ?_
          refine go_lsub C at_121 (pc' := 122) rfl ?_
          refine go_lload C at_122 (pc' := 124) rfl rfl ?_
          refine go_lcmp C ((x5 - x1).toInt) win.toInt rfl rfl at_124 (pc1 := 125) rfl at_125 (by decide) (pc' := 147) (by decide) (pcN := 128) rfl (fun (c_569 : ((x5 - x1).toInt) < win.toInt) => by omega) (fun (c_569 : ¬ ((x5 - x1).toInt) < win.toInt) => ?_)
          refine go_iload C at_128 (pc' := 130) rfl rfl ?_
          refine go_if0 C (0 : Int) (by decide) at_130 (by decide) (pc' := 143) (by decide) (pcN := 133) rfl (fun (c_570 : (0 : Int) = 0) => ?_) (fun (c_570 : ¬ (0 : Int) = 0) => by omega)
          refine go_iconst C (1 : Int32) at_143 (pc' := 144) rfl (by decide) ?_
          refine go_goto C at_144 (by decide) (pc' := 148) (by decide) ?_
          refine go_istore C (Ls' := #[.val (.int x0), .val (.long x1), .second, .val (.long x2), .second, .val (.long x3), .second, .val (.long x4), .second, .val (.long x5), .second, .val (.int (2 : Int32)), .val (.int (0 : Int32)), .val (.int (1 : Int32)), .val (.long win), .second, .val (.long (4 : Int64)), .second, .val (.ref a_500), .val (.long x1), .second, .val (.int (1 : Int32)), .val (.int (1 : Int32))]) at_148 (pc' := 150) rfl rfl ?_
          refine go_iload C at_150 (pc' := 152) rfl rfl ?_
          refine go_if0 C (1 : Int) (by decide) at_152 (by decide) (pc' := 178) (by decide) (pcN := 155) rfl (fun (c_571 : ¬ (1 : Int) = 0) => ?_) (fun (c_571 : (1 : Int) = 0) => by omega)
          refine go_aload C at_178 (pc' := 180) rfl rfl rfl ?_
          refine go_lload C at_180 (pc' := 182) rfl rfl ?_
          refine go_lload C at_182 (pc' := 184) rfl rfl ?_
          refine go_virtualN C (as := [.long x3, .long (4 : Int64)]) (rest := []) (W := 0) (sat_add_2_1_0 l Z a0 hw a_500 r_521 x1 (0 : Int64) x3 (4 : Int64) _ _ E_564 F_565 F_566 F_567 A_568 g_505 g_522) E_564 (wd hw 19 rfl) (wd hw 20 rfl) (wd hw 22 rfl) (wd hw 21 rfl) (wd hw 4 rfl) (wd hw 23 rfl) (by decide) pd_3 rfl rfl rfl (by decide) (by decide) (ce' := 2) (sl' := 9) rfl rfl (by decide) (by decide) at_184 (pc' := 187) rfl rfl ?_
          intro h_572 q_573
          obtain ⟨r_574, g_575, E_576, F_577, F_578, F_579, A_580⟩ := q_573
          refine go_lload C at_187 (pc' := 189) rfl rfl ?_
          refine go_lstore C (Ls' := #[.val (.int x0), .val (.long x1), .second, .val (.long x2), .second, .val (.long x3), .second, .val (.long x4), .second, .val (.long x5), .second, .val (.int (2 : Int32)), .val (.int (0 : Int32)), .val (.int (1 : Int32)), .val (.long win), .second, .val (.long (4 : Int64)), .second, .val (.ref a_500), .val (.long x3), .second, .val (.int (1 : Int32)), .val (.int (1 : Int32))]) at_189 (pc' := 191) rfl rfl ?_
          refine go_iload C at_191 (pc' := 193) rfl rfl ?_
          refine go_if0 C (1 : Int) (by decide) at_193 (by decide) (pc' := 209) (by decide) (pcN := 196) rfl (fun (c_581 : (1 : Int) = 0) => by omega) (fun (c_581 : ¬ (1 : Int) = 0) => ?_)
          refine go_aload C at_196 (pc' := 198) rfl rfl rfl ?_
          refine go_lload C at_198 (pc' := 200) rfl rfl ?_
          refine go_lload C at_200 (pc' := 202) rfl rfl ?_
          refine go_virtualN C (as := [.long x4, .long (4 : Int64)]) (rest := []) (W := 0) (sat_add_2_1_1 l Z a0 hw a_500 r_574 x1 x3 x4 (4 : Int64) _ _ E_576 F_577 F_578 F_579 A_580 g_505 g_575) E_576 (wd hw 19 rfl) (wd hw 20 rfl) (wd hw 22 rfl) (wd hw 21 rfl) (wd hw 4 rfl) (wd hw 23 rfl) (by decide) pd_3 rfl rfl rfl (by decide) (by decide) (ce' := 2) (sl' := 9) rfl rfl (by decide) (by decide) at_202 (pc' := 205) rfl rfl ?_
          intro h_582 q_583
          obtain ⟨r_584, g_585, E_586, F_587, F_588, F_589, A_590⟩ := q_583
          refine go_lload C at_205 (pc' := 207) rfl rfl ?_
          refine go_lstore C (Ls' := #[.val (.int x0), .val (.long x1), .second, .val (.long x2), .second, .val (.long x3), .second, .val (.long x4), .second, .val (.long x5), .second, .val (.int (2 : Int32)), .val (.int (0 : Int32)), .val (.int (1 : Int32)), .val (.long win), .second, .val (.long (4 : Int64)), .second, .val (.ref a_500), .val (.long x4), .second, .val (.int (1 : Int32)), .val (.int (1 : Int32))]) at_207 (pc' := 209) rfl rfl ?_
          refine go_iload C at_209 (pc' := 211) rfl rfl ?_
          refine go_if0 C (1 : Int) (by decide) at_211 (by decide) (pc' := 229) (by decide) (pcN := 214) rfl (fun (c_591 : (1 : Int) = 0) => by omega) (fun (c_591 : ¬ (1 : Int) = 0) => ?_)
          refine go_aload C at_214 (pc' := 216) rfl rfl rfl ?_
          refine go_virtualP C (as := []) (rest := []) (W := 0) (.long x4) (sat_new_2_1_2 l Z a0 hw a_500 r_584 x4 x3 _ _ E_586 F_587 F_588 F_589 A_590 g_505 g_585) E_586 (wd hw 32 rfl) (wd hw 33 rfl) (wd hw 35 rfl) (wd hw 34 rfl) (wd hw 4 rfl) (wd hw 36 rfl) (by decide) pd_5 rfl rfl rfl (by decide) (by decide) rfl rfl (by decide) (by decide) at_216 (pc' := 219) rfl rfl ?_
          refine go_lload C at_219 (pc' := 221) rfl rfl ?_
          refine go_lcmp C x4.toInt x4.toInt rfl rfl at_221 (pc1 := 222) rfl at_222 (by decide) (pc' := 229) (by decide) (pcN := 225) rfl (fun (c_592 : ¬ x4.toInt = x4.toInt) => by omega) (fun (c_592 : x4.toInt = x4.toInt) => ?_)
          refine go_iconst C (1 : Int32) at_225 (pc' := 226) rfl (by decide) ?_
          refine go_goto C at_226 (by decide) (pc' := 230) (by decide) ?_
          refine go_istore C (Ls' := #[.val (.int x0), .val (.long x1), .second, .val (.long x2), .second, .val (.long x3), .second, .val (.long x4), .second, .val (.long x5), .second, .val (.int (2 : Int32)), .val (.int (0 : Int32)), .val (.int (1 : Int32)), .val (.long win), .second, .val (.long (4 : Int64)), .second, .val (.ref a_500), .val (.long x4), .second, .val (.int (1 : Int32)), .val (.int (1 : Int32))]) at_230 (pc' := 232) rfl rfl ?_
          refine go_iload C at_232 (pc' := 234) rfl rfl ?_
          refine go_ireturnN C (z' := (1 : Int32)) rfl (by simp) rfl at_234 (by decide) (by decide) ?_
          exact ⟨_, rfl, rfl⟩
    · skip
      refine go_iconst C (1 : Int32) at_15 (pc' := 16) rfl (by decide) ?_
      refine go_goto C at_16 (by decide) (pc' := 20) (by decide) ?_
      refine go_istore C (Ls' := #[.val (.int x0), .val (.long x1), .second, .val (.long x2), .second, .val (.long x3), .second, .val (.long x4), .second, .val (.long x5), .second, .val (.int (2 : Int32)), .val (.int (1 : Int32)), .unset, .unset, .unset, .unset, .unset, .unset, .unset, .unset, .unset, .unset]) at_20 (pc' := 22) rfl rfl ?_
      refine go_iloadN C at_22 (pc' := 23) rfl rfl ?_
      refine go_iconst C (3 : Int32) at_23 (pc' := 24) rfl (by decide) ?_
      refine go_iushr C at_24 (pc' := 25) rfl ?_
      refine go_iconst C (1 : Int32) at_25 (pc' := 26) rfl (by decide) ?_
      refine go_iand C at_26 (pc' := 27) rfl ?_
      refine go_if0 C (((XT.ushr x0 (3 : Int32)) &&& (1 : Int32)).toInt) rfl at_27 (by decide) (pc' := 34) (by decide) (pcN := 30) rfl (fun (c_593 : (((XT.ushr x0 (3 : Int32)) &&& (1 : Int32)).toInt) = 0) => ?_) (fun (c_593 : ¬ (((XT.ushr x0 (3 : Int32)) &&& (1 : Int32)).toInt) = 0) => ?_)
      · skip
        refine go_iconst C (0 : Int32) at_34 (pc' := 35) rfl (by decide) ?_
        refine go_istore C (Ls' := #[.val (.int x0), .val (.long x1), .second, .val (.long x2), .second, .val (.long x3), .second, .val (.long x4), .second, .val (.long x5), .second, .val (.int (2 : Int32)), .val (.int (1 : Int32)), .val (.int (0 : Int32)), .unset, .unset, .unset, .unset, .unset, .unset, .unset, .unset, .unset]) at_35 (pc' := 37) rfl rfl ?_
        refine go_lconst C (1 : Int64) at_37 (pc' := 38) rfl (by decide) ?_
        refine go_iloadN C at_38 (pc' := 39) rfl rfl ?_
        refine go_iconst C (4 : Int32) at_39 (pc' := 40) rfl (by decide) ?_
        refine go_iushr C at_40 (pc' := 41) rfl ?_
        refine go_ldc C (v := (65535 : Int32)) (wd hw 0 rfl) at_41 (pc' := 43) rfl ?_
        refine go_iand C at_43 (pc' := 44) rfl ?_
        refine go_i2l C at_44 (pc' := 45) rfl ?_
        refine go_ladd C at_45 (pc' := 46) rfl ?_
        refine go_lstore C (Ls' := #[.val (.int x0), .val (.long x1), .second, .val (.long x2), .second, .val (.long x3), .second, .val (.long x4), .second, .val (.long x5), .second, .val (.int (2 : Int32)), .val (.int (1 : Int32)), .val (.int (0 : Int32)), .val (.long ((1 : Int64) + (((XT.ushr x0 (4 : Int32)) &&& (65535 : Int32)).toInt64))), .second, .unset, .unset, .unset, .unset, .unset, .unset, .unset]) at_46 (pc' := 48) rfl rfl ?_
        refine go_ldc2 C (v := (4 : Int64)) (wd hw 1 rfl) at_48 (pc' := 51) rfl ?_
        refine go_lstore C (Ls' := #[.val (.int x0), .val (.long x1), .second, .val (.long x2), .second, .val (.long x3), .second, .val (.long x4), .second, .val (.long x5), .second, .val (.int (2 : Int32)), .val (.int (1 : Int32)), .val (.int (0 : Int32)), .val (.long ((1 : Int64) + (((XT.ushr x0 (4 : Int32)) &&& (65535 : Int32)).toInt64))), .second, .val (.long (4 : Int64)), .second, .unset, .unset, .unset, .unset, .unset]) at_51 (pc' := 53) rfl rfl ?_
        generalize (1 : Int64) + (((XT.ushr x0 (4 : Int32)) &&& (65535 : Int32)).toInt64) = win
        refine go_new C (wd hw 2 rfl) (wd hw 3 rfl) (wd hw 4 rfl) at_53 (pc' := 56) rfl (ce' := 1) (sl' := 7) rfl rfl (by decide) (by decide) ?_
        intro h_594 a_595 g_596 E_597 E_598 D_599
        have g_600 : Z.heap.size ≤ a_595 := own_ge (Nat.le_refl _) g_596
        have z_601 : Z.heap.size ≤ h_594.size := Nat.le_trans (Nat.le_refl _) E_597.1
        have F_602 : Fld Z h_594 a_595 "com/example/throttld/throttld/SlidingLog$Log" "ring" "[J" (.null) := D_599 (Or.inl (wd hw 18 rfl)) (ty := (.array .long)) (by decide)
        have F_603 : Fld Z h_594 a_595 "com/example/throttld/throttld/SlidingLog$Log" "count" "I" (.int (0 : Int32)) := D_599 (Or.inl (wd hw 25 rfl)) (ty := .int) (by decide)
        have F_604 : Fld Z h_594 a_595 "com/example/throttld/throttld/SlidingLog$Log" "head" "I" (.int (0 : Int32)) := D_599 (Or.inl (wd hw 31 rfl)) (ty := .int) (by decide)
        refine go_dup C at_56 (pc' := 57) rfl rfl ?_
        refine go_iload C at_57 (pc' := 59) rfl rfl ?_
        refine go_specialN C (as := [.int (2 : Int32)]) (rest := [.ref a_595]) (W := 1) (sat_init2 l Z a0 hw a_595 _ _ E_598 F_602 F_604 F_603 g_600 z_601) rfl (wd hw 5 rfl) (wd hw 6 rfl) (wd hw 4 rfl) (wd hw 7 rfl) (by decide) pd_1 rfl rfl rfl (by decide) (by decide) (ce' := 2) (sl' := 9) rfl rfl (by decide) (by decide) at_59 (pc' := 62) rfl rfl ?_
        intro h_605 q_606
        obtain ⟨r_607, g_608, E_609, F_610, F_611, F_612, A_613⟩ := q_606
        refine go_astore C (Ls' := #[.val (.int x0), .val (.long x1), .second, .val (.long x2), .second, .val (.long x3), .second, .val (.long x4), .second, .val (.long x5), .second, .val (.int (2 : Int32)), .val (.int (1 : Int32)), .val (.int (0 : Int32)), .val (.long win), .second, .val (.long (4 : Int64)), .second, .val (.ref a_595), .unset, .unset, .unset, .unset]) at_62 (pc' := 64) rfl rfl rfl ?_
        refine go_aload C at_64 (pc' := 66) rfl rfl rfl ?_
        refine go_lloadN C at_66 (pc' := 67) rfl rfl ?_
        refine go_lload C at_67 (pc' := 69) rfl rfl ?_
        refine go_virtualN C (as := [.long x1, .long (4 : Int64)]) (rest := []) (W := 0) (sat_add_2_0_0 l Z a0 hw a_595 r_607 (0 : Int64) (0 : Int64) x1 (4 : Int64) _ _ E_609 F_610 F_611 F_612 A_613 g_600 g_608) E_609 (wd hw 19 rfl) (wd hw 20 rfl) (wd hw 22 rfl) (wd hw 21 rfl) (wd hw 4 rfl) (wd hw 23 rfl) (by decide) pd_3 rfl rfl rfl (by decide) (by decide) (ce' := 2) (sl' := 9) rfl rfl (by decide) (by decide) at_69 (pc' := 72) rfl rfl ?_
        intro h_614 q_615
        obtain ⟨r_616, g_617, E_618, F_619, F_620, F_621, A_622⟩ := q_615
        refine go_lloadN C at_72 (pc' := 73) rfl rfl ?_
        refine go_lstore C (Ls' := #[.val (.int x0), .val (.long x1), .second, .val (.long x2), .second, .val (.long x3), .second, .val (.long x4), .second, .val (.long x5), .second, .val (.int (2 : Int32)), .val (.int (1 : Int32)), .val (.int (0 : Int32)), .val (.long win), .second, .val (.long (4 : Int64)), .second, .val (.ref a_595), .val (.long x1), .second, .unset, .unset]) at_73 (pc' := 75) rfl rfl ?_
        refine go_iload C at_75 (pc' := 77) rfl rfl ?_
        refine go_if0 C (1 : Int) (by decide) at_77 (by decide) (pc' := 91) (by decide) (pcN := 80) rfl (fun (c_623 : (1 : Int) = 0) => by omega) (fun (c_623 : ¬ (1 : Int) = 0) => ?_)
        refine go_aload C at_80 (pc' := 82) rfl rfl rfl ?_
        refine go_lloadN C at_82 (pc' := 83) rfl rfl ?_
        refine go_lload C at_83 (pc' := 85) rfl rfl ?_
        refine go_virtualN C (as := [.long x2, .long (4 : Int64)]) (rest := []) (W := 0) (sat_add_2_0_1 l Z a0 hw a_595 r_616 x1 (0 : Int64) x2 (4 : Int64) _ _ E_618 F_619 F_620 F_621 A_622 g_600 g_617) E_618 (wd hw 19 rfl) (wd hw 20 rfl) (wd hw 22 rfl) (wd hw 21 rfl) (wd hw 4 rfl) (wd hw 23 rfl) (by decide) pd_3 rfl rfl rfl (by decide) (by decide) (ce' := 2) (sl' := 9) rfl rfl (by decide) (by decide) at_85 (pc' := 88) rfl rfl ?_
        intro h_624 q_625
        obtain ⟨r_626, g_627, E_628, F_629, F_630, F_631, A_632⟩ := q_625
        refine go_lloadN C at_88 (pc' := 89) rfl rfl ?_
        refine go_lstore C (Ls' := #[.val (.int x0), .val (.long x1), .second, .val (.long x2), .second, .val (.long x3), .second, .val (.long x4), .second, .val (.long x5), .second, .val (.int (2 : Int32)), .val (.int (1 : Int32)), .val (.int (0 : Int32)), .val (.long win), .second, .val (.long (4 : Int64)), .second, .val (.ref a_595), .val (.long x2), .second, .unset, .unset]) at_89 (pc' := 91) rfl rfl ?_
        refine go_aload C at_91 (pc' := 93) rfl rfl rfl ?_
        refine go_virtualP C (as := []) (rest := []) (W := 0) (.long x2) (sat_new_2_0_2 l Z a0 hw a_595 r_626 x1 x2 _ _ E_628 F_629 F_630 F_631 A_632 g_600 g_627) E_628 (wd hw 32 rfl) (wd hw 33 rfl) (wd hw 35 rfl) (wd hw 34 rfl) (wd hw 4 rfl) (wd hw 36 rfl) (by decide) pd_5 rfl rfl rfl (by decide) (by decide) rfl rfl (by decide) (by decide) at_93 (pc' := 96) rfl rfl ?_
        refine go_lload C at_96 (pc' := 98) rfl rfl ?_
        refine go_lcmp C x2.toInt x2.toInt rfl rfl at_98 (pc1 := 99) rfl at_99 (by decide) (pc' := 106) (by decide) (pcN := 102) rfl (fun (c_633 : ¬ x2.toInt = x2.toInt) => by omega) (fun (c_633 : x2.toInt = x2.toInt) => ?_)
        refine go_iconst C (1 : Int32) at_102 (pc' := 103) rfl (by decide) ?_
        refine go_goto C at_103 (by decide) (pc' := 107) (by decide) ?_
        refine go_istore C (Ls' := #[.val (.int x0), .val (.long x1), .second, .val (.long x2), .second, .val (.long x3), .second, .val (.long x4), .second, .val (.long x5), .second, .val (.int (2 : Int32)), .val (.int (1 : Int32)), .val (.int (0 : Int32)), .val (.long win), .second, .val (.long (4 : Int64)), .second, .val (.ref a_595), .val (.long x2), .second, .val (.int (1 : Int32)), .unset]) at_107 (pc' := 109) rfl rfl ?_
        refine go_aload C at_109 (pc' := 111) rfl rfl rfl ?_
        refine go_lload C at_111 (pc' := 113) rfl rfl ?_
        refine go_lload C at_113 (pc' := 115) rfl rfl ?_
        refine go_virtualN C (as := [.long x5, .long win]) (rest := []) (W := 0) (sat_drop_2_0_2 l Z a0 hw a_595 r_626 x1 x2 x5 win _ _ E_628 F_629 F_630 F_631 A_632 g_600 g_627) E_628 (wd hw 37 rfl) (wd hw 38 rfl) (wd hw 40 rfl) (wd hw 39 rfl) (wd hw 4 rfl) (wd hw 41 rfl) (by decide) pd_3 rfl rfl rfl (by decide) (by decide) (ce' := 2) (sl' := 9) rfl rfl (by decide) (by decide) at_115 (pc' := 118) rfl rfl ?_
        intro h_634 q_635
        rcases q_635 with q_635 | q_635 | q_635
        · skip
          obtain ⟨hc_636, E_637, F_638, F_639, F_640, A_641⟩ := q_635
          refine go_lload C at_118 (pc' := 120) rfl rfl ?_
          refine go_lloadN C at_120 (pc' := 121) rfl rfl ?_
          refine go_lsub C at_121 (pc' := 122) rfl ?_
          refine go_lload C at_122 (pc' := 124) rfl rfl ?_
          refine go_lcmp C ((x5 - x1).toInt) win.toInt rfl rfl at_124 (pc1 := 125) rfl at_125 (by decide) (pc' := 147) (by decide) (pcN := 128) rfl (fun (c_642 : ((x5 - x1).toInt) < win.toInt) => ?_) (fun (c_642 : ¬ ((x5 - x1).toInt) < win.toInt) => by omega)
          refine go_iconst C (0 : Int32) at_147 (pc' := 148) rfl (by decide) ?_
          refine go_istore C (Ls' := #[.val (.int x0), .val (.long x1), .second, .val (.long x2), .second, .val (.long x3), .second, .val (.long x4), .second, .val (.long x5), .second, .val (.int (2 : Int32)), .val (.int (1 : Int32)), .val (.int (0 : Int32)), .val (.long win), .second, .val (.long (4 : Int64)), .second, .val (.ref a_595), .val (.long x2), .second, .val (.int (1 : Int32)), .val (.int (0 : Int32))]) at_148 (pc' := 150) rfl rfl ?_
          refine go_iload C at_150 (pc' := 152) rfl rfl ?_
          refine go_if0 C (0 : Int) (by decide) at_152 (by decide) (pc' := 178) (by decide) (pcN := 155) rfl (fun (c_643 : ¬ (0 : Int) = 0) => by omega) (fun (c_643 : (0 : Int) = 0) => ?_)
          refine go_iload C at_155 (pc' := 157) rfl rfl ?_
          refine go_if0 C (1 : Int) (by decide) at_157 (by decide) (pc' := 175) (by decide) (pcN := 160) rfl (fun (c_644 : (1 : Int) = 0) => by omega) (fun (c_644 : ¬ (1 : Int) = 0) => ?_)
          refine go_aload C at_160 (pc' := 162) rfl rfl rfl ?_
          refine go_virtualP C (as := []) (rest := []) (W := 0) (.long x2) (sat_new_2_0_2 l Z a0 hw a_595 r_626 x1 x2 _ _ E_637 F_638 F_639 F_640 A_641 g_600 g_627) E_637 (wd hw 32 rfl) (wd hw 33 rfl) (wd hw 35 rfl) (wd hw 34 rfl) (wd hw 4 rfl) (wd hw 36 rfl) (by decide) pd_5 rfl rfl rfl (by decide) (by decide) rfl rfl (by decide) (by decide) at_162 (pc' := 165) rfl rfl ?_
          refine go_lload C at_165 (pc' := 167) rfl rfl ?_
          refine go_lcmp C x2.toInt x2.toInt rfl rfl at_167 (pc1 := 168) rfl at_168 (by decide) (pc' := 175) (by decide) (pcN := 171) rfl (fun (c_645 : ¬ x2.toInt = x2.toInt) => by omega) (fun (c_645 : x2.toInt = x2.toInt) => ?_)
          refine go_iconst C (1 : Int32) at_171 (pc' := 172) rfl (by decide) ?_
          refine go_goto C at_172 (by decide) (pc' := 176) (by decide) ?_
          refine go_istore C (Ls' := #[.val (.int x0), .val (.long x1), .second, .val (.long x2), .second, .val (.long x3), .second, .val (.long x4), .second, .val (.long x5), .second, .val (.int (2 : Int32)), .val (.int (1 : Int32)), .val (.int (0 : Int32)), .val (.long win), .second, .val (.long (4 : Int64)), .second, .val (.ref a_595), .val (.long x2), .second, .val (.int (1 : Int32)), .val (.int (0 : Int32))]) at_176 (pc' := 178) rfl rfl ?_
          refine go_aload C at_178 (pc' := 180) rfl rfl rfl ?_
          refine go_lload C at_180 (pc' := 182) rfl rfl ?_
          refine go_lload C at_182 (pc' := 184) rfl rfl ?_
          refine go_virtualN C (as := [.long x3, .long (4 : Int64)]) (rest := []) (W := 0) (sat_add_2_0_2 l Z a0 hw a_595 r_626 x1 x2 x3  _ _ E_637 F_638 F_639 F_640 A_641 g_600 g_627) E_637 (wd hw 19 rfl) (wd hw 20 rfl) (wd hw 22 rfl) (wd hw 21 rfl) (wd hw 4 rfl) (wd hw 23 rfl) (by decide) pd_3 rfl rfl rfl (by decide) (by decide) (ce' := 3) (sl' := 13) rfl rfl (by decide) (by decide) at_184 (pc' := 187) rfl rfl ?_
          intro h_646 q_647
          obtain ⟨r_648, g_649, E_650, F_651, F_652, F_653, A_654⟩ := q_647
          refine go_lload C at_187 (pc' := 189) rfl rfl ?_
          refine go_lstore C (Ls' := #[.val (.int x0), .val (.long x1), .second, .val (.long x2), .second, .val (.long x3), .second, .val (.long x4), .second, .val (.long x5), .second, .val (.int (2 : Int32)), .val (.int (1 : Int32)), .val (.int (0 : Int32)), .val (.long win), .second, .val (.long (4 : Int64)), .second, .val (.ref a_595), .val (.long x3), .second, .val (.int (1 : Int32)), .val (.int (0 : Int32))]) at_189 (pc' := 191) rfl rfl ?_
          refine go_iload C at_191 (pc' := 193) rfl rfl ?_
          refine go_if0 C (0 : Int) (by decide) at_193 (by decide) (pc' := 209) (by decide) (pcN := 196) rfl (fun (c_655 : (0 : Int) = 0) => ?_) (fun (c_655 : ¬ (0 : Int) = 0) => by omega)
          refine go_iload C at_209 (pc' := 211) rfl rfl ?_
          refine go_if0 C (1 : Int) (by decide) at_211 (by decide) (pc' := 229) (by decide) (pcN := 214) rfl (fun (c_656 : (1 : Int) = 0) => by omega) (fun (c_656 : ¬ (1 : Int) = 0) => ?_)
          refine go_aload C at_214 (pc' := 216) rfl rfl rfl ?_
          refine go_virtualP C (as := []) (rest := []) (W := 0) (.long x3) (sat_new_4_0_3 l Z a0 hw a_595 r_648 x1 x2 x3 (0 : Int64) _ _ E_650 F_651 F_652 F_653 A_654 g_600 g_649) E_650 (wd hw 32 rfl) (wd hw 33 rfl) (wd hw 35 rfl) (wd hw 34 rfl) (wd hw 4 rfl) (wd hw 36 rfl) (by decide) pd_5 rfl rfl rfl (by decide) (by decide) rfl rfl (by decide) (by decide) at_216 (pc' := 219) rfl rfl ?_
          refine go_lload C at_219 (pc' := 221) rfl rfl ?_
          refine go_lcmp C x3.toInt x3.toInt rfl rfl at_221 (pc1 := 222) rfl at_222 (by decide) (pc' := 229) (by decide) (pcN := 225) rfl (fun (c_657 : ¬ x3.toInt = x3.toInt) => by omega) (fun (c_657 : x3.toInt = x3.toInt) => ?_)
          refine go_iconst C (1 : Int32) at_225 (pc' := 226) rfl (by decide) ?_
          refine go_goto C at_226 (by decide) (pc' := 230) (by decide) ?_
          refine go_istore C (Ls' := #[.val (.int x0), .val (.long x1), .second, .val (.long x2), .second, .val (.long x3), .second, .val (.long x4), .second, .val (.long x5), .second, .val (.int (2 : Int32)), .val (.int (1 : Int32)), .val (.int (0 : Int32)), .val (.long win), .second, .val (.long (4 : Int64)), .second, .val (.ref a_595), .val (.long x3), .second, .val (.int (1 : Int32)), .val (.int (0 : Int32))]) at_230 (pc' := 232) rfl rfl ?_
          refine go_iload C at_232 (pc' := 234) rfl rfl ?_
          refine go_ireturnN C (z' := (1 : Int32)) rfl (by simp) rfl at_234 (by decide) (by decide) ?_
          exact ⟨_, rfl, rfl⟩
        · skip
          obtain ⟨hc_658, E_659, F_660, F_661, F_662, A_663⟩ := q_635
          refine go_lload C at_118 (pc' := 120) rfl rfl ?_
          refine go_lloadN C at_120 (pc' := 121) rfl rfl ?_
          refine go_lsub C at_121 (pc' := 122) rfl ?_
          refine go_lload C at_122 (pc' := 124) rfl rfl ?_
          refine go_lcmp C ((x5 - x1).toInt) win.toInt rfl rfl at_124 (pc1 := 125) rfl at_125 (by decide) (pc' := 147) (by decide) (pcN := 128) rfl (fun (c_664 : ((x5 - x1).toInt) < win.toInt) => by omega) (fun (c_664 : ¬ ((x5 - x1).toInt) < win.toInt) => ?_)
          refine go_iload C at_128 (pc' := 130) rfl rfl ?_
          refine go_if0 C (1 : Int) (by decide) at_130 (by decide) (pc' := 143) (by decide) (pcN := 133) rfl (fun (c_665 : (1 : Int) = 0) => by omega) (fun (c_665 : ¬ (1 : Int) = 0) => ?_)
          refine go_lload C at_133 (pc' := 135) rfl rfl ?_
          refine go_lloadN C at_135 (pc' := 136) rfl rfl ?_
          refine go_lsub C at_136 (pc' := 137) rfl ?_
          refine go_lload C at_137 (pc' := 139) rfl rfl ?_
          refine go_lcmp C ((x5 - x2).toInt) win.toInt rfl rfl at_139 (pc1 := 140) rfl at_140 (by decide) (pc' := 147) (by decide) (pcN := 143) rfl (fun (c_666 : ((x5 - x2).toInt) < win.toInt) => ?_) (fun (c_666 : ¬ ((x5 - x2).toInt) < win.toInt) => by omega)
          refine go_iconst C (0 : Int32) at_147 (pc' := 148) rfl (by decide) ?_
          refine go_istore C (Ls' := #[.val (.int x0), .val (.long x1), .second, .val (.long x2), .second, .val (.long x3), .second, .val (.long x4), .second, .val (.long x5), .second, .val (.int (2 : Int32)), .val (.int (1 : Int32)), .val (.int (0 : Int32)), .val (.long win), .second, .val (.long (4 : Int64)), .second, .val (.ref a_595), .val (.long x2), .second, .val (.int (1 : Int32)), .val (.int (0 : Int32))]) at_148 (pc' := 150) rfl rfl ?_
          refine go_iload C at_150 (pc' := 152) rfl rfl ?_
          refine go_if0 C (0 : Int) (by decide) at_152 (by decide) (pc' := 178) (by decide) (pcN := 155) rfl (fun (c_667 : ¬ (0 : Int) = 0) => by omega) (fun (c_667 : (0 : Int) = 0) => ?_)
          refine go_iload C at_155 (pc' := 157) rfl rfl ?_
          refine go_if0 C (1 : Int) (by decide) at_157 (by decide) (pc' := 175) (by decide) (pcN := 160) rfl (fun (c_668 : (1 : Int) = 0) => by omega) (fun (c_668 : ¬ (1 : Int) = 0) => ?_)
          refine go_aload C at_160 (pc' := 162) rfl rfl rfl ?_
          refine go_virtualP C (as := []) (rest := []) (W := 0) (.long x2) (sat_new_2_1_1 l Z a0 hw a_595 r_626 x1 x2 _ _ E_659 F_660 F_661 F_662 A_663 g_600 g_627) E_659 (wd hw 32 rfl) (wd hw 33 rfl) (wd hw 35 rfl) (wd hw 34 rfl) (wd hw 4 rfl) (wd hw 36 rfl) (by decide) pd_5 rfl rfl rfl (by decide) (by decide) rfl rfl (by decide) (by decide) at_162 (pc' := 165) rfl rfl ?_
          refine go_lload C at_165 (pc' := 167) rfl rfl ?_
          refine go_lcmp C x2.toInt x2.toInt rfl rfl at_167 (pc1 := 168) rfl at_168 (by decide) (pc' := 175) (by decide) (pcN := 171) rfl (fun (c_669 : ¬ x2.toInt = x2.toInt) => by omega) (fun (c_669 : x2.toInt = x2.toInt) => ?_)
          refine go_iconst C (1 : Int32) at_171 (pc' := 172) rfl (by decide) ?_
          refine go_goto C at_172 (by decide) (pc' := 176) (by decide) ?_
          refine go_istore C (Ls' := #[.val (.int x0), .val (.long x1), .second, .val (.long x2), .second, .val (.long x3), .second, .val (.long x4), .second, .val (.long x5), .second, .val (.int (2 : Int32)), .val (.int (1 : Int32)), .val (.int (0 : Int32)), .val (.long win), .second, .val (.long (4 : Int64)), .second, .val (.ref a_595), .val (.long x2), .second, .val (.int (1 : Int32)), .val (.int (0 : Int32))]) at_176 (pc' := 178) rfl rfl ?_
          refine go_aload C at_178 (pc' := 180) rfl rfl rfl ?_
          refine go_lload C at_180 (pc' := 182) rfl rfl ?_
          refine go_lload C at_182 (pc' := 184) rfl rfl ?_
          refine go_virtualN C (as := [.long x3, .long (4 : Int64)]) (rest := []) (W := 0) (sat_add_2_1_1 l Z a0 hw a_595 r_626 x1 x2 x3 (4 : Int64) _ _ E_659 F_660 F_661 F_662 A_663 g_600 g_627) E_659 (wd hw 19 rfl) (wd hw 20 rfl) (wd hw 22 rfl) (wd hw 21 rfl) (wd hw 4 rfl) (wd hw 23 rfl) (by decide) pd_3 rfl rfl rfl (by decide) (by decide) (ce' := 2) (sl' := 9) rfl rfl (by decide) (by decide) at_184 (pc' := 187) rfl rfl ?_
          intro h_670 q_671
          obtain ⟨r_672, g_673, E_674, F_675, F_676, F_677, A_678⟩ := q_671
          refine go_lload C at_187 (pc' := 189) rfl rfl ?_
          refine go_lstore C (Ls' := #[.val (.int x0), .val (.long x1), .second, .val (.long x2), .second, .val (.long x3), .second, .val (.long x4), .second, .val (.long x5), .second, .val (.int (2 : Int32)), .val (.int (1 : Int32)), .val (.int (0 : Int32)), .val (.long win), .second, .val (.long (4 : Int64)), .second, .val (.ref a_595), .val (.long x3), .second, .val (.int (1 : Int32)), .val (.int (0 : Int32))]) at_189 (pc' := 191) rfl rfl ?_
          refine go_iload C at_191 (pc' := 193) rfl rfl ?_
          refine go_if0 C (0 : Int) (by decide) at_193 (by decide) (pc' := 209) (by decide) (pcN := 196) rfl (fun (c_679 : (0 : Int) = 0) => ?_) (fun (c_679 : ¬ (0 : Int) = 0) => by omega)
          refine go_iload C at_209 (pc' := 211) rfl rfl ?_
          refine go_if0 C (1 : Int) (by decide) at_211 (by decide) (pc' := 229) (by decide) (pcN := 214) rfl (fun (c_680 : (1 : Int) = 0) => by omega) (fun (c_680 : ¬ (1 : Int) = 0) => ?_)
          refine go_aload C at_214 (pc' := 216) rfl rfl rfl ?_
          refine go_virtualP C (as := []) (rest := []) (W := 0) (.long x3) (sat_new_2_1_2 l Z a0 hw a_595 r_672 x3 x2 _ _ E_674 F_675 F_676 F_677 A_678 g_600 g_673) E_674 (wd hw 32 rfl) (wd hw 33 rfl) (wd hw 35 rfl) (wd hw 34 rfl) (wd hw 4 rfl) (wd hw 36 rfl) (by decide) pd_5 rfl rfl rfl (by decide) (by decide) rfl rfl (by decide) (by decide) at_216 (pc' := 219) rfl rfl ?_
          refine go_lload C at_219 (pc' := 221) rfl rfl ?_
          refine go_lcmp C x3.toInt x3.toInt rfl rfl at_221 (pc1 := 222) rfl at_222 (by decide) (pc' := 229) (by decide) (pcN := 225) rfl (fun (c_681 : ¬ x3.toInt = x3.toInt) => by omega) (fun (c_681 : x3.toInt = x3.toInt) => ?_)
          refine go_iconst C (1 : Int32) at_225 (pc' := 226) rfl (by decide) ?_
          refine go_goto C at_226 (by decide) (pc' := 230) (by decide) ?_
          refine go_istore C (Ls' := #[.val (.int x0), .val (.long x1), .second, .val (.long x2), .second, .val (.long x3), .second, .val (.long x4), .second, .val (.long x5), .second, .val (.int (2 : Int32)), .val (.int (1 : Int32)), .val (.int (0 : Int32)), .val (.long win), .second, .val (.long (4 : Int64)), .second, .val (.ref a_595), .val (.long x3), .second, .val (.int (1 : Int32)), .val (.int (0 : Int32))]) at_230 (pc' := 232) rfl rfl ?_
          refine go_iload C at_232 (pc' := 234) rfl rfl ?_
          refine go_ireturnN C (z' := (1 : Int32)) rfl (by simp) rfl at_234 (by decide) (by decide) ?_
          exact ⟨_, rfl, rfl⟩
        · skip
          obtain ⟨hc_682, E_683, F_684, F_685, F_686, A_687⟩ := q_635
          refine go_lload C at_118 (pc' := 120) rfl rfl ?_
          refine go_lloadN C at_120 (pc' := 121) rfl rfl ?_
          refine go_lsub C at_121 (pc' := 122) rfl ?_
          refine go_lload C at_122 (pc' := 124) rfl rfl ?_
          refine go_lcmp C ((x5 - x1).toInt) win.toInt rfl rfl at_124 (pc1 := 125) rfl at_125 (by decide) (pc' := 147) (by decide) (pcN := 128) rfl (fun (c_688 : ((x5 - x1).toInt) < win.toInt) => by omega) (fun (c_688 : ¬ ((x5 - x1).toInt) < win.toInt) => ?_)
          refine go_iload C at_128 (pc' := 130) rfl rfl ?_
          refine go_if0 C (1 : Int) (by decide) at_130 (by decide) (pc' := 143) (by decide) (pcN := 133) rfl (fun (c_689 : (1 : Int) = 0) => by omega) (fun (c_689 : ¬ (1 : Int) = 0) => ?_)
          refine go_lload C at_133 (pc' := 135) rfl rfl ?_
          refine go_lloadN C at_135 (pc' := 136) rfl rfl ?_
          refine go_lsub C at_136 (pc' := 137) rfl ?_
          refine go_lload C at_137 (pc' := 139) rfl rfl ?_
          refine go_lcmp C ((x5 - x2).toInt) win.toInt rfl rfl at_139 (pc1 := 140) rfl at_140 (by decide) (pc' := 147) (by decide) (pcN := 143) rfl (fun (c_690 : ((x5 - x2).toInt) < win.toInt) => by omega) (fun (c_690 : ¬ ((x5 - x2).toInt) < win.toInt) => ?_)
          refine go_iconst C (1 : Int32) at_143 (pc' := 144) rfl (by decide) ?_
          refine go_goto C at_144 (by decide) (pc' := 148) (by decide) ?_
          refine go_istore C (Ls' := #[.val (.int x0), .val (.long x1), .second, .val (.long x2), .second, .val (.long x3), .second, .val (.long x4), .second, .val (.long x5), .second, .val (.int (2 : Int32)), .val (.int (1 : Int32)), .val (.int (0 : Int32)), .val (.long win), .second, .val (.long (4 : Int64)), .second, .val (.ref a_595), .val (.long x2), .second, .val (.int (1 : Int32)), .val (.int (1 : Int32))]) at_148 (pc' := 150) rfl rfl ?_
          refine go_iload C at_150 (pc' := 152) rfl rfl ?_
          refine go_if0 C (1 : Int) (by decide) at_152 (by decide) (pc' := 178) (by decide) (pcN := 155) rfl (fun (c_691 : ¬ (1 : Int) = 0) => ?_) (fun (c_691 : (1 : Int) = 0) => by omega)
          refine go_aload C at_178 (pc' := 180) rfl rfl rfl ?_
          refine go_lload C at_180 (pc' := 182) rfl rfl ?_
          refine go_lload C at_182 (pc' := 184) rfl rfl ?_
          refine go_virtualN C (as := [.long x3, .long (4 : Int64)]) (rest := []) (W := 0) (sat_add_2_0_0 l Z a0 hw a_595 r_626 x1 x2 x3 (4 : Int64) _ _ E_683 F_684 F_685 F_686 A_687 g_600 g_627) E_683 (wd hw 19 rfl) (wd hw 20 rfl) (wd hw 22 rfl) (wd hw 21 rfl) (wd hw 4 rfl) (wd hw 23 rfl) (by decide) pd_3 rfl rfl rfl (by decide) (by decide) (ce' := 2) (sl' := 9) rfl rfl (by decide) (by decide) at_184 (pc' := 187) rfl rfl ?_
          intro h_692 q_693
          obtain ⟨r_694, g_695, E_696, F_697, F_698, F_699, A_700⟩ := q_693
          refine go_lload C at_187 (pc' := 189) rfl rfl ?_
          refine go_lstore C (Ls' := #[.val (.int x0), .val (.long x1), .second, .val (.long x2), .second, .val (.long x3), .second, .val (.long x4), .second, .val (.long x5), .second, .val (.int (2 : Int32)), .val (.int (1 : Int32)), .val (.int (0 : Int32)), .val (.long win), .second, .val (.long (4 : Int64)), .second, .val (.ref a_595), .val (.long x3), .second, .val (.int (1 : Int32)), .val (.int (1 : Int32))]) at_189 (pc' := 191) rfl rfl ?_
          refine go_iload C at_191 (pc' := 193) rfl rfl ?_
          refine go_if0 C (0 : Int) (by decide) at_193 (by decide) (pc' := 209) (by decide) (pcN := 196) rfl (fun (c_701 : (0 : Int) = 0) => ?_) (fun (c_701 : ¬ (0 : Int) = 0) => by omega)
          refine go_iload C at_209 (pc' := 211) rfl rfl ?_
          refine go_if0 C (1 : Int) (by decide) at_211 (by decide) (pc' := 229) (by decide) (pcN := 214) rfl (fun (c_702 : (1 : Int) = 0) => by omega) (fun (c_702 : ¬ (1 : Int) = 0) => ?_)
          refine go_aload C at_214 (pc' := 216) rfl rfl rfl ?_
          refine go_virtualP C (as := []) (rest := []) (W := 0) (.long x3) (sat_new_2_0_1 l Z a0 hw a_595 r_694 x3 x2 _ _ E_696 F_697 F_698 F_699 A_700 g_600 g_695) E_696 (wd hw 32 rfl) (wd hw 33 rfl) (wd hw 35 rfl) (wd hw 34 rfl) (wd hw 4 rfl) (wd hw 36 rfl) (by decide) pd_5 rfl rfl rfl (by decide) (by decide) rfl rfl (by decide) (by decide) at_216 (pc' := 219) rfl rfl ?_
          refine go_lload C at_219 (pc' := 221) rfl rfl ?_
          refine go_lcmp C x3.toInt x3.toInt rfl rfl at_221 (pc1 := 222) rfl at_222 (by decide) (pc' := 229) (by decide) (pcN := 225) rfl (fun (c_703 : ¬ x3.toInt = x3.toInt) => by omega) (fun (c_703 : x3.toInt = x3.toInt) => ?_)
          refine go_iconst C (1 : Int32) at_225 (pc' := 226) rfl (by decide) ?_
          refine go_goto C at_226 (by decide) (pc' := 230) (by decide) ?_
          refine go_istore C (Ls' := #[.val (.int x0), .val (.long x1), .second, .val (.long x2), .second, .val (.long x3), .second, .val (.long x4), .second, .val (.long x5), .second, .val (.int (2 : Int32)), .val (.int (1 : Int32)), .val (.int (0 : Int32)), .val (.long win), .second, .val (.long (4 : Int64)), .second, .val (.ref a_595), .val (.long x3), .second, .val (.int (1 : Int32)), .val (.int (1 : Int32))]) at_230 (pc' := 232) rfl rfl ?_
          refine go_iload C at_232 (pc' := 234) rfl rfl ?_
          refine go_ireturnN C (z' := (1 : Int32)) rfl (by simp) rfl at_234 (by decide) (by decide) ?_
          exact ⟨_, rfl, rfl⟩
      · skip
        refine go_iconst C (1 : Int32) at_30 (pc' := 31) rfl (by decide) ?_
        refine go_goto C at_31 (by decide) (pc' := 35) (by decide) ?_
        refine go_istore C (Ls' := #[.val (.int x0), .val (.long x1), .second, .val (.long x2), .second, .val (.long x3), .second, .val (.long x4), .second, .val (.long x5), .second, .val (.int (2 : Int32)), .val (.int (1 : Int32)), .val (.int (1 : Int32)), .unset, .unset, .unset, .unset, .unset, .unset, .unset, .unset, .unset]) at_35 (pc' := 37) rfl rfl ?_
        refine go_lconst C (1 : Int64) at_37 (pc' := 38) rfl (by decide) ?_
        refine go_iloadN C at_38 (pc' := 39) rfl rfl ?_
        refine go_iconst C (4 : Int32) at_39 (pc' := 40) rfl (by decide) ?_
        refine go_iushr C at_40 (pc' := 41) rfl ?_
        refine go_ldc C (v := (65535 : Int32)) (wd hw 0 rfl) at_41 (pc' := 43) rfl ?_
        refine go_iand C at_43 (pc' := 44) rfl ?_
        refine go_i2l C at_44 (pc' := 45) rfl ?_
        refine go_ladd C at_45 (pc' := 46) rfl ?_
        refine go_lstore C (Ls' := #[.val (.int x0), .val (.long x1), .second, .val (.long x2), .second, .val (.long x3), .second, .val (.long x4), .second, .val (.long x5), .second, .val (.int (2 : Int32)), .val (.int (1 : Int32)), .val (.int (1 : Int32)), .val (.long ((1 : Int64) + (((XT.ushr x0 (4 : Int32)) &&& (65535 : Int32)).toInt64))), .second, .unset, .unset, .unset, .unset, .unset, .unset, .unset]) at_46 (pc' := 48) rfl rfl ?_
        refine go_ldc2 C (v := (4 : Int64)) (wd hw 1 rfl) at_48 (pc' := 51) rfl ?_
        refine go_lstore C (Ls' := #[.val (.int x0), .val (.long x1), .second, .val (.long x2), .second, .val (.long x3), .second, .val (.long x4), .second, .val (.long x5), .second, .val (.int (2 : Int32)), .val (.int (1 : Int32)), .val (.int (1 : Int32)), .val (.long ((1 : Int64) + (((XT.ushr x0 (4 : Int32)) &&& (65535 : Int32)).toInt64))), .second, .val (.long (4 : Int64)), .second, .unset, .unset, .unset, .unset, .unset]) at_51 (pc' := 53) rfl rfl ?_
        generalize (1 : Int64) + (((XT.ushr x0 (4 : Int32)) &&& (65535 : Int32)).toInt64) = win
        refine go_new C (wd hw 2 rfl) (wd hw 3 rfl) (wd hw 4 rfl) at_53 (pc' := 56) rfl (ce' := 1) (sl' := 7) rfl rfl (by decide) (by decide) ?_
        intro h_704 a_705 g_706 E_707 E_708 D_709
        have g_710 : Z.heap.size ≤ a_705 := own_ge (Nat.le_refl _) g_706
        have z_711 : Z.heap.size ≤ h_704.size := Nat.le_trans (Nat.le_refl _) E_707.1
        have F_712 : Fld Z h_704 a_705 "com/example/throttld/throttld/SlidingLog$Log" "ring" "[J" (.null) := D_709 (Or.inl (wd hw 18 rfl)) (ty := (.array .long)) (by decide)
        have F_713 : Fld Z h_704 a_705 "com/example/throttld/throttld/SlidingLog$Log" "count" "I" (.int (0 : Int32)) := D_709 (Or.inl (wd hw 25 rfl)) (ty := .int) (by decide)
        have F_714 : Fld Z h_704 a_705 "com/example/throttld/throttld/SlidingLog$Log" "head" "I" (.int (0 : Int32)) := D_709 (Or.inl (wd hw 31 rfl)) (ty := .int) (by decide)
        refine go_dup C at_56 (pc' := 57) rfl rfl ?_
        refine go_iload C at_57 (pc' := 59) rfl rfl ?_
        refine go_specialN C (as := [.int (2 : Int32)]) (rest := [.ref a_705]) (W := 1) (sat_init2 l Z a0 hw a_705 _ _ E_708 F_712 F_714 F_713 g_710 z_711) rfl (wd hw 5 rfl) (wd hw 6 rfl) (wd hw 4 rfl) (wd hw 7 rfl) (by decide) pd_1 rfl rfl rfl (by decide) (by decide) (ce' := 2) (sl' := 9) rfl rfl (by decide) (by decide) at_59 (pc' := 62) rfl rfl ?_
        intro h_715 q_716
        obtain ⟨r_717, g_718, E_719, F_720, F_721, F_722, A_723⟩ := q_716
        refine go_astore C (Ls' := #[.val (.int x0), .val (.long x1), .second, .val (.long x2), .second, .val (.long x3), .second, .val (.long x4), .second, .val (.long x5), .second, .val (.int (2 : Int32)), .val (.int (1 : Int32)), .val (.int (1 : Int32)), .val (.long win), .second, .val (.long (4 : Int64)), .second, .val (.ref a_705), .unset, .unset, .unset, .unset]) at_62 (pc' := 64) rfl rfl rfl ?_
        refine go_aload C at_64 (pc' := 66) rfl rfl rfl ?_
        refine go_lloadN C at_66 (pc' := 67) rfl rfl ?_
        refine go_lload C at_67 (pc' := 69) rfl rfl ?_
        refine go_virtualN C (as := [.long x1, .long (4 : Int64)]) (rest := []) (W := 0) (sat_add_2_0_0 l Z a0 hw a_705 r_717 (0 : Int64) (0 : Int64) x1 (4 : Int64) _ _ E_719 F_720 F_721 F_722 A_723 g_710 g_718) E_719 (wd hw 19 rfl) (wd hw 20 rfl) (wd hw 22 rfl) (wd hw 21 rfl) (wd hw 4 rfl) (wd hw 23 rfl) (by decide) pd_3 rfl rfl rfl (by decide) (by decide) (ce' := 2) (sl' := 9) rfl rfl (by decide) (by decide) at_69 (pc' := 72) rfl rfl ?_
        intro h_724 q_725
        obtain ⟨r_726, g_727, E_728, F_729, F_730, F_731, A_732⟩ := q_725
        refine go_lloadN C at_72 (pc' := 73) rfl rfl ?_
        refine go_lstore C (Ls' := #[.val (.int x0), .val (.long x1), .second, .val (.long x2), .second, .val (.long x3), .second, .val (.long x4), .second, .val (.long x5), .second, .val (.int (2 : Int32)), .val (.int (1 : Int32)), .val (.int (1 : Int32)), .val (.long win), .second, .val (.long (4 : Int64)), .second, .val (.ref a_705), .val (.long x1), .second, .unset, .unset]) at_73 (pc' := 75) rfl rfl ?_
        refine go_iload C at_75 (pc' := 77) rfl rfl ?_
        refine go_if0 C (1 : Int) (by decide) at_77 (by decide) (pc' := 91) (by decide) (pcN := 80) rfl (fun (c_733 : (1 : Int) = 0) => by omega) (fun (c_733 : ¬ (1 : Int) = 0) => ?_)
        refine go_aload C at_80 (pc' := 82) rfl rfl rfl ?_
        refine go_lloadN C at_82 (pc' := 83) rfl rfl ?_
        refine go_lload C at_83 (pc' := 85) rfl rfl ?_
        refine go_virtualN C (as := [.long x2, .long (4 : Int64)]) (rest := []) (W := 0) (sat_add_2_0_1 l Z a0 hw a_705 r_726 x1 (0 : Int64) x2 (4 : Int64) _ _ E_728 F_729 F_730 F_731 A_732 g_710 g_727) E_728 (wd hw 19 rfl) (wd hw 20 rfl) (wd hw 22 rfl) (wd hw 21 rfl) (wd hw 4 rfl) (wd hw 23 rfl) (by decide) pd_3 rfl rfl rfl (by decide) (by decide) (ce' := 2) (sl' := 9) rfl rfl (by decide) (by decide) at_85 (pc' := 88) rfl rfl ?_
        intro h_734 q_735
        obtain ⟨r_736, g_737, E_738, F_739, F_740, F_741, A_742⟩ := q_735
        refine go_lloadN C at_88 (pc' := 89) rfl rfl ?_
        refine go_lstore C (Ls' := #[.val (.int x0), .val (.long x1), .second, .val (.long x2), .second, .val (.long x3), .second, .val (.long x4), .second, .val (.long x5), .second, .val (.int (2 : Int32)), .val (.int (1 : Int32)), .val (.int (1 : Int32)), .val (.long win), .second, .val (.long (4 : Int64)), .second, .val (.ref a_705), .val (.long x2), .second, .unset, .unset]) at_89 (pc' := 91) rfl rfl ?_
        refine go_aload C at_91 (pc' := 93) rfl rfl rfl ?_
        refine go_virtualP C (as := []) (rest := []) (W := 0) (.long x2) (sat_new_2_0_2 l Z a0 hw a_705 r_736 x1 x2 _ _ E_738 F_739 F_740 F_741 A_742 g_710 g_737) E_738 (wd hw 32 rfl) (wd hw 33 rfl) (wd hw 35 rfl) (wd hw 34 rfl) (wd hw 4 rfl) (wd hw 36 rfl) (by decide) pd_5 rfl rfl rfl (by decide) (by decide) rfl rfl (by decide) (by decide) at_93 (pc' := 96) rfl rfl ?_
        refine go_lload C at_96 (pc' := 98) rfl rfl ?_
        refine go_lcmp C x2.toInt x2.toInt rfl rfl at_98 (pc1 := 99) rfl at_99 (by decide) (pc' := 106) (by decide) (pcN := 102) rfl (fun (c_743 : ¬ x2.toInt = x2.toInt) => by omega) (fun (c_743 : x2.toInt = x2.toInt) => ?_)
        refine go_iconst C (1 : Int32) at_102 (pc' := 103) rfl (by decide) ?_
        refine go_goto C at_103 (by decide) (pc' := 107) (by decide) ?_
        refine go_istore C (Ls' := #[.val (.int x0), .val (.long x1), .second, .val (.long x2), .second, .val (.long x3), .second, .val (.long x4), .second, .val (.long x5), .second, .val (.int (2 : Int32)), .val (.int (1 : Int32)), .val (.int (1 : Int32)), .val (.long win), .second, .val (.long (4 : Int64)), .second, .val (.ref a_705), .val (.long x2), .second, .val (.int (1 : Int32)), .unset]) at_107 (pc' := 109) rfl rfl ?_
        refine go_aload C at_109 (pc' := 111) rfl rfl rfl ?_
        refine go_lload C at_111 (pc' := 113) rfl rfl ?_
        refine go_lload C at_113 (pc' := 115) rfl rfl ?_
        refine go_virtualN C (as := [.long x5, .long win]) (rest := []) (W := 0) (sat_drop_2_0_2 l Z a0 hw a_705 r_736 x1 x2 x5 win _ _ E_738 F_739 F_740 F_741 A_742 g_710 g_737) E_738 (wd hw 37 rfl) (wd hw 38 rfl) (wd hw 40 rfl) (wd hw 39 rfl) (wd hw 4 rfl) (wd hw 41 rfl) (by decide) pd_3 rfl rfl rfl (by decide) (by decide) (ce' := 2) (sl' := 9) rfl rfl (by decide) (by decide) at_115 (pc' := 118) rfl rfl ?_
        intro h_744 q_745
        rcases q_745 with q_745 | q_745 | q_745
        · skip
          obtain ⟨hc_746, E_747, F_748, F_749, F_750, A_751⟩ := q_745
          refine go_lload C at_118 (pc' := 120) rfl rfl ?_
          refine go_lloadN C at_120 (pc' := 121) rfl rfl ?_
          refine go_lsub C at_121 (pc' := 122) rfl ?_
          refine go_lload C at_122 (pc' := 124) rfl rfl ?_
          refine go_lcmp C ((x5 - x1).toInt) win.toInt rfl rfl at_124 (pc1 := 125) rfl at_125 (by decide) (pc' := 147) (by decide) (pcN := 128) rfl (fun (c_752 : ((x5 - x1).toInt) < win.toInt) => ?_) (fun (c_752 : ¬ ((x5 - x1).toInt) < win.toInt) => by omega)
          refine go_iconst C (0 : Int32) at_147 (pc' := 148) rfl (by decide) ?_
          refine go_istore C (Ls' := #[.val (.int x0), .val (.long x1), .second, .val (.long x2), .second, .val (.long x3), .second, .val (.long x4), .second, .val (.long x5), .second, .val (.int (2 : Int32)), .val (.int (1 : Int32)), .val (.int (1 : Int32)), .val (.long win), .second, .val (.long (4 : Int64)), .second, .val (.ref a_705), .val (.long x2), .second, .val (.int (1 : Int32)), .val (.int (0 : Int32))]) at_148 (pc' := 150) rfl rfl ?_
          refine go_iload C at_150 (pc' := 152) rfl rfl ?_
          refine go_if0 C (0 : Int) (by decide) at_152 (by decide) (pc' := 178) (by decide) (pcN := 155) rfl (fun (c_753 : ¬ (0 : Int) = 0) => by omega) (fun (c_753 : (0 : Int) = 0) => ?_)
          refine go_iload C at_155 (pc' := 157) rfl rfl ?_
          refine go_if0 C (1 : Int) (by decide) at_157 (by decide) (pc' := 175) (by decide) (pcN := 160) rfl (fun (c_754 : (1 : Int) = 0) => by omega) (fun (c_754 : ¬ (1 : Int) = 0) => ?_)
          refine go_aload C at_160 (pc' := 162) rfl rfl rfl ?_
          refine go_virtualP C (as := []) (rest := []) (W := 0) (.long x2) (sat_new_2_0_2 l Z a0 hw a_705 r_736 x1 x2 _ _ E_747 F_748 F_749 F_750 A_751 g_710 g_737) E_747 (wd hw 32 rfl) (wd hw 33 rfl) (wd hw 35 rfl) (wd hw 34 rfl) (wd hw 4 rfl) (wd hw 36 rfl) (by decide) pd_5 rfl rfl rfl (by decide) (by decide) rfl rfl (by decide) (by decide) at_162 (pc' := 165) rfl rfl ?_
          refine go_lload C at_165 (pc' := 167) rfl rfl ?_
          refine go_lcmp C x2.toInt x2.toInt rfl rfl at_167 (pc1 := 168) rfl at_168 (by decide) (pc' := 175) (by decide) (pcN := 171) rfl (fun (c_755 : ¬ x2.toInt = x2.toInt) => by omega) (fun (c_755 : x2.toInt = x2.toInt) => ?_)
          refine go_iconst C (1 : Int32) at_171 (pc' := 172) rfl (by decide) ?_
          refine go_goto C at_172 (by decide) (pc' := 176) (by decide) ?_
          refine go_istore C (Ls' := #[.val (.int x0), .val (.long x1), .second, .val (.long x2), .second, .val (.long x3), .second, .val (.long x4), .second, .val (.long x5), .second, .val (.int (2 : Int32)), .val (.int (1 : Int32)), .val (.int (1 : Int32)), .val (.long win), .second, .val (.long (4 : Int64)), .second, .val (.ref a_705), .val (.long x2), .second, .val (.int (1 : Int32)), .val (.int (0 : Int32))]) at_176 (pc' := 178) rfl rfl ?_
          refine go_aload C at_178 (pc' := 180) rfl rfl rfl ?_
          refine go_lload C at_180 (pc' := 182) rfl rfl ?_
          refine go_lload C at_182 (pc' := 184) rfl rfl ?_
          refine go_virtualN C (as := [.long x3, .long (4 : Int64)]) (rest := []) (W := 0) (sat_add_2_0_2 l Z a0 hw a_705 r_736 x1 x2 x3  _ _ E_747 F_748 F_749 F_750 A_751 g_710 g_737) E_747 (wd hw 19 rfl) (wd hw 20 rfl) (wd hw 22 rfl) (wd hw 21 rfl) (wd hw 4 rfl) (wd hw 23 rfl) (by decide) pd_3 rfl rfl rfl (by decide) (by decide) (ce' := 3) (sl' := 13) rfl rfl (by decide) (by decide) at_184 (pc' := 187) rfl rfl ?_
          intro h_756 q_757
          obtain ⟨r_758, g_759, E_760, F_761, F_762, F_763, A_764⟩ := q_757
          refine go_lload C at_187 (pc' := 189) rfl rfl ?_
          refine go_lstore C (Ls' := #[.val (.int x0), .val (.long x1), .second, .val (.long x2), .second, .val (.long x3), .second, .val (.long x4), .second, .val (.long x5), .second, .val (.int (2 : Int32)), .val (.int (1 : Int32)), .val (.int (1 : Int32)), .val (.long win), .second, .val (.long (4 : Int64)), .second, .val (.ref a_705), .val (.long x3), .second, .val (.int (1 : Int32)), .val (.int (0 : Int32))]) at_189 (pc' := 191) rfl rfl ?_
          refine go_iload C at_191 (pc' := 193) rfl rfl ?_
          refine go_if0 C (1 : Int) (by decide) at_193 (by decide) (pc' := 209) (by decide) (pcN := 196) rfl (fun (c_765 : (1 : Int) = 0) => by omega) (fun (c_765 : ¬ (1 : Int) = 0) => ?_)
          refine go_aload C at_196 (pc' := 198) rfl rfl rfl ?_
          refine go_lload C at_198 (pc' := 200) rfl rfl ?_
          refine go_lload C at_200 (pc' := 202) rfl rfl ?_
          refine go_virtualN C (as := [.long x4, .long (4 : Int64)]) (rest := []) (W := 0) (sat_add_4_0_3 l Z a0 hw a_705 r_758 x1 x2 x3 (0 : Int64) x4 (4 : Int64) _ _ E_760 F_761 F_762 F_763 A_764 g_710 g_759) E_760 (wd hw 19 rfl) (wd hw 20 rfl) (wd hw 22 rfl) (wd hw 21 rfl) (wd hw 4 rfl) (wd hw 23 rfl) (by decide) pd_3 rfl rfl rfl (by decide) (by decide) (ce' := 3) (sl' := 13) rfl rfl (by decide) (by decide) at_202 (pc' := 205) rfl rfl ?_
          intro h_766 q_767
          obtain ⟨r_768, g_769, E_770, F_771, F_772, F_773, A_774⟩ := q_767
          refine go_lload C at_205 (pc' := 207) rfl rfl ?_
          refine go_lstore C (Ls' := #[.val (.int x0), .val (.long x1), .second, .val (.long x2), .second, .val (.long x3), .second, .val (.long x4), .second, .val (.long x5), .second, .val (.int (2 : Int32)), .val (.int (1 : Int32)), .val (.int (1 : Int32)), .val (.long win), .second, .val (.long (4 : Int64)), .second, .val (.ref a_705), .val (.long x4), .second, .val (.int (1 : Int32)), .val (.int (0 : Int32))]) at_207 (pc' := 209) rfl rfl ?_
          refine go_iload C at_209 (pc' := 211) rfl rfl ?_
          refine go_if0 C (1 : Int) (by decide) at_211 (by decide) (pc' := 229) (by decide) (pcN := 214) rfl (fun (c_775 : (1 : Int) = 0) => by omega) (fun (c_775 : ¬ (1 : Int) = 0) => ?_)
          refine go_aload C at_214 (pc' := 216) rfl rfl rfl ?_
          refine go_virtualP C (as := []) (rest := []) (W := 0) (.long x4) (sat_new_4_0_4 l Z a0 hw a_705 r_768 x1 x2 x3 x4 _ _ E_770 F_771 F_772 F_773 A_774 g_710 g_769) E_770 (wd hw 32 rfl) (wd hw 33 rfl) (wd hw 35 rfl) (wd hw 34 rfl) (wd hw 4 rfl) (wd hw 36 rfl) (by decide) pd_5 rfl rfl rfl (by decide) (by decide) rfl rfl (by decide) (by decide) at_216 (pc' := 219) rfl rfl ?_
          refine go_lload C at_219 (pc' := 221) rfl rfl ?_
          refine go_lcmp C x4.toInt x4.toInt rfl rfl at_221 (pc1 := 222) rfl at_222 (by decide) (pc' := 229) (by decide) (pcN := 225) rfl (fun (c_776 : ¬ x4.toInt = x4.toInt) => by omega) (fun (c_776 : x4.toInt = x4.toInt) => ?_)
          refine go_iconst C (1 : Int32) at_225 (pc' := 226) rfl (by decide) ?_
          refine go_goto C at_226 (by decide) (pc' := 230) (by decide) ?_
          refine go_istore C (Ls' := #[.val (.int x0), .val (.long x1), .second, .val (.long x2), .second, .val (.long x3), .second, .val (.long x4), .second, .val (.long x5), .second, .val (.int (2 : Int32)), .val (.int (1 : Int32)), .val (.int (1 : Int32)), .val (.long win), .second, .val (.long (4 : Int64)), .second, .val (.ref a_705), .val (.long x4), .second, .val (.int (1 : Int32)), .val (.int (0 : Int32))]) at_230 (pc' := 232) rfl rfl ?_
          refine go_iload C at_232 (pc' := 234) rfl rfl ?_
          refine go_ireturnN C (z' := (1 : Int32)) rfl (by simp) rfl at_234 (by decide) (by decide) ?_
          exact ⟨_, rfl, rfl⟩
        · skip
          obtain ⟨hc_777, E_778, F_779, F_780, F_781, A_782⟩ := q_745
          refine go_lload C at_118 (pc' := 120) rfl rfl ?_
          refine go_lloadN C at_120 (pc' := 121) rfl rfl ?_
          refine go_lsub C at_121 (pc' := 122) rfl ?_
          refine go_lload C at_122 (pc' := 124) rfl rfl ?_
          refine go_lcmp C ((x5 - x1).toInt) win.toInt rfl rfl at_124 (pc1 := 125) rfl at_125 (by decide) (pc' := 147) (by decide) (pcN := 128) rfl (fun (c_783 : ((x5 - x1).toInt) < win.toInt) => by omega) (fun (c_783 : ¬ ((x5 - x1).toInt) < win.toInt) => ?_)
          refine go_iload C at_128 (pc' := 130) rfl rfl ?_
          refine go_if0 C (1 : Int) (by decide) at_130 (by decide) (pc' := 143) (by decide) (pcN := 133) rfl (fun (c_784 : (1 : Int) = 0) => by omega) (fun (c_784 : ¬ (1 : Int) = 0) => ?_)
          refine go_lload C at_133 (pc' := 135) rfl rfl ?_
          refine go_lloadN C at_135 (pc' := 136) rfl rfl ?_
          refine go_lsub C at_136 (pc' := 137) rfl ?_
          refine go_lload C at_137 (pc' := 139) rfl rfl ?_
          refine go_lcmp C ((x5 - x2).toInt) win.toInt rfl rfl at_139 (pc1 := 140) rfl at_140 (by decide) (pc' := 147) (by decide) (pcN := 143) rfl (fun (c_785 : ((x5 - x2).toInt) < win.toInt) => ?_) (fun (c_785 : ¬ ((x5 - x2).toInt) < win.toInt) => by omega)
          refine go_iconst C (0 : Int32) at_147 (pc' := 148) rfl (by decide) ?_
          refine go_istore C (Ls' := #[.val (.int x0), .val (.long x1), .second, .val (.long x2), .second, .val (.long x3), .second, .val (.long x4), .second, .val (.long x5), .second, .val (.int (2 : Int32)), .val (.int (1 : Int32)), .val (.int (1 : Int32)), .val (.long win), .second, .val (.long (4 : Int64)), .second, .val (.ref a_705), .val (.long x2), .second, .val (.int (1 : Int32)), .val (.int (0 : Int32))]) at_148 (pc' := 150) rfl rfl ?_
          refine go_iload C at_150 (pc' := 152) rfl rfl ?_
          refine go_if0 C (0 : Int) (by decide) at_152 (by decide) (pc' := 178) (by decide) (pcN := 155) rfl (fun (c_786 : ¬ (0 : Int) = 0) => by omega) (fun (c_786 : (0 : Int) = 0) => ?_)
          refine go_iload C at_155 (pc' := 157) rfl rfl ?_
          refine go_if0 C (1 : Int) (by decide) at_157 (by decide) (pc' := 175) (by decide) (pcN := 160) rfl (fun (c_787 : (1 : Int) = 0) => by omega) (fun (c_787 : ¬ (1 : Int) = 0) => ?_)
          refine go_aload C at_160 (pc' := 162) rfl rfl rfl ?_
          refine go_virtualP C (as := []) (rest := []) (W := 0) (.long x2) (sat_new_2_1_1 l Z a0 hw a_705 r_736 x1 x2 _ _ E_778 F_779 F_780 F_781 A_782 g_710 g_737) E_778 (wd hw 32 rfl) (wd hw 33 rfl) (wd hw 35 rfl) (wd hw 34 rfl) (wd hw 4 rfl) (wd hw 36 rfl) (by decide) pd_5 rfl rfl rfl (by decide) (by decide) rfl rfl (by decide) (by decide) at_162 (pc' := 165) rfl rfl ?_
          refine go_lload C at_165 (pc' := 167) rfl rfl ?_
          refine go_lcmp C x2.toInt x2.toInt rfl rfl at_167 (pc1 := 168) rfl at_168 (by decide) (pc' := 175) (by decide) (pcN := 171) rfl (fun (c_788 : ¬ x2.toInt = x2.toInt) => by omega) (fun (c_788 : x2.toInt = x2.toInt) => ?_)
          refine go_iconst C (1 : Int32) at_171 (pc' := 172) rfl (by decide) ?_
          refine go_goto C at_172 (by decide) (pc' := 176) (by decide) ?_
          refine go_istore C (Ls' := #[.val (.int x0), .val (.long x1), .second, .val (.long x2), .second, .val (.long x3), .second, .val (.long x4), .second, .val (.long x5), .second, .val (.int (2 : Int32)), .val (.int (1 : Int32)), .val (.int (1 : Int32)), .val (.long win), .second, .val (.long (4 : Int64)), .second, .val (.ref a_705), .val (.long x2), .second, .val (.int (1 : Int32)), .val (.int (0 : Int32))]) at_176 (pc' := 178) rfl rfl ?_
          refine go_aload C at_178 (pc' := 180) rfl rfl rfl ?_
          refine go_lload C at_180 (pc' := 182) rfl rfl ?_
          refine go_lload C at_182 (pc' := 184) rfl rfl ?_
          refine go_virtualN C (as := [.long x3, .long (4 : Int64)]) (rest := []) (W := 0) (sat_add_2_1_1 l Z a0 hw a_705 r_736 x1 x2 x3 (4 : Int64) _ _ E_778 F_779 F_780 F_781 A_782 g_710 g_737) E_778 (wd hw 19 rfl) (wd hw 20 rfl) (wd hw 22 rfl) (wd hw 21 rfl) (wd hw 4 rfl) (wd hw 23 rfl) (by decide) pd_3 rfl rfl rfl (by decide) (by decide) (ce' := 2) (sl' := 9) rfl rfl (by decide) (by decide) at_184 (pc' := 187) rfl rfl ?_
          intro h_789 q_790
          obtain ⟨r_791, g_792, E_793, F_794, F_795, F_796, A_797⟩ := q_790
          refine go_lload C at_187 (pc' := 189) rfl rfl ?_
          refine go_lstore C (Ls' := #[.val (.int x0), .val (.long x1), .second, .val (.long x2), .second, .val (.long x3), .second, .val (.long x4), .second, .val (.long x5), .second, .val (.int (2 : Int32)), .val (.int (1 : Int32)), .val (.int (1 : Int32)), .val (.long win), .second, .val (.long (4 : Int64)), .second, .val (.ref a_705), .val (.long x3), .second, .val (.int (1 : Int32)), .val (.int (0 : Int32))]) at_189 (pc' := 191) rfl rfl ?_
          refine go_iload C at_191 (pc' := 193) rfl rfl ?_
          refine go_if0 C (1 : Int) (by decide) at_193 (by decide) (pc' := 209) (by decide) (pcN := 196) rfl (fun (c_798 : (1 : Int) = 0) => by omega) (fun (c_798 : ¬ (1 : Int) = 0) => ?_)
          refine go_aload C at_196 (pc' := 198) rfl rfl rfl ?_
          refine go_lload C at_198 (pc' := 200) rfl rfl ?_
          refine go_lload C at_200 (pc' := 202) rfl rfl ?_
          refine go_virtualN C (as := [.long x4, .long (4 : Int64)]) (rest := []) (W := 0) (sat_add_2_1_2 l Z a0 hw a_705 r_791 x3 x2 x4  _ _ E_793 F_794 F_795 F_796 A_797 g_710 g_792) E_793 (wd hw 19 rfl) (wd hw 20 rfl) (wd hw 22 rfl) (wd hw 21 rfl) (wd hw 4 rfl) (wd hw 23 rfl) (by decide) pd_3 rfl rfl rfl (by decide) (by decide) (ce' := 3) (sl' := 13) rfl rfl (by decide) (by decide) at_202 (pc' := 205) rfl rfl ?_
          intro h_799 q_800
          obtain ⟨r_801, g_802, E_803, F_804, F_805, F_806, A_807⟩ := q_800
          refine go_lload C at_205 (pc' := 207) rfl rfl ?_
          refine go_lstore C (Ls' := #[.val (.int x0), .val (.long x1), .second, .val (.long x2), .second, .val (.long x3), .second, .val (.long x4), .second, .val (.long x5), .second, .val (.int (2 : Int32)), .val (.int (1 : Int32)), .val (.int (1 : Int32)), .val (.long win), .second, .val (.long (4 : Int64)), .second, .val (.ref a_705), .val (.long x4), .second, .val (.int (1 : Int32)), .val (.int (0 : Int32))]) at_207 (pc' := 209) rfl rfl ?_
          refine go_iload C at_209 (pc' := 211) rfl rfl ?_
          refine go_if0 C (1 : Int) (by decide) at_211 (by decide) (pc' := 229) (by decide) (pcN := 214) rfl (fun (c_808 : (1 : Int) = 0) => by omega) (fun (c_808 : ¬ (1 : Int) = 0) => ?_)
          refine go_aload C at_214 (pc' := 216) rfl rfl rfl ?_
          refine go_virtualP C (as := []) (rest := []) (W := 0) (.long x4) (sat_new_4_0_3 l Z a0 hw a_705 r_801 x2 x3 x4 (0 : Int64) _ _ E_803 F_804 F_805 F_806 A_807 g_710 g_802) E_803 (wd hw 32 rfl) (wd hw 33 rfl) (wd hw 35 rfl) (wd hw 34 rfl) (wd hw 4 rfl) (wd hw 36 rfl) (by decide) pd_5 rfl rfl rfl (by decide) (by decide) rfl rfl (by decide) (by decide) at_216 (pc' := 219) rfl rfl ?_
          refine go_lload C at_219 (pc' := 221) rfl rfl ?_
          refine go_lcmp C x4.toInt x4.toInt rfl rfl at_221 (pc1 := 222) rfl at_222 (by decide) (pc' := 229) (by decide) (pcN := 225) rfl (fun (c_809 : ¬ x4.toInt = x4.toInt) => by omega) (fun (c_809 : x4.toInt = x4.toInt) => ?_)
          refine go_iconst C (1 : Int32) at_225 (pc' := 226) rfl (by decide) ?_
          refine go_goto C at_226 (by decide) (pc' := 230) (by decide) ?_
          refine go_istore C (Ls' := #[.val (.int x0), .val (.long x1), .second, .val (.long x2), .second, .val (.long x3), .second, .val (.long x4), .second, .val (.long x5), .second, .val (.int (2 : Int32)), .val (.int (1 : Int32)), .val (.int (1 : Int32)), .val (.long win), .second, .val (.long (4 : Int64)), .second, .val (.ref a_705), .val (.long x4), .second, .val (.int (1 : Int32)), .val (.int (0 : Int32))]) at_230 (pc' := 232) rfl rfl ?_
          refine go_iload C at_232 (pc' := 234) rfl rfl ?_
          refine go_ireturnN C (z' := (1 : Int32)) rfl (by simp) rfl at_234 (by decide) (by decide) ?_
          exact ⟨_, rfl, rfl⟩
        · skip
          obtain ⟨hc_810, E_811, F_812, F_813, F_814, A_815⟩ := q_745
          refine go_lload C at_118 (pc' := 120) rfl rfl ?_
          refine go_lloadN C at_120 (pc' := 121) rfl rfl ?_
          refine go_lsub C at_121 (pc' := 122) rfl ?_
          refine go_lload C at_122 (pc' := 124) rfl rfl ?_
          refine go_lcmp C ((x5 - x1).toInt) win.toInt rfl rfl at_124 (pc1 := 125) rfl at_125 (by decide) (pc' := 147) (by decide) (pcN := 128) rfl (fun (c_816 : ((x5 - x1).toInt) < win.toInt) => by omega) (fun (c_816 : ¬ ((x5 - x1).toInt) < win.toInt) => ?_)
          refine go_iload C at_128 (pc' := 130) rfl rfl ?_
          refine go_if0 C (1 : Int) (by decide) at_130 (by decide) (pc' := 143) (by decide) (pcN := 133) rfl (fun (c_817 : (1 : Int) = 0) => by omega) (fun (c_817 : ¬ (1 : Int) = 0) => ?_)
          refine go_lload C at_133 (pc' := 135) rfl rfl ?_
          refine go_lloadN C at_135 (pc' := 136) rfl rfl ?_
          refine go_lsub C at_136 (pc' := 137) rfl ?_
          refine go_lload C at_137 (pc' := 139) rfl rfl ?_
          refine go_lcmp C ((x5 - x2).toInt) win.toInt rfl rfl at_139 (pc1 := 140) rfl at_140 (by decide) (pc' := 147) (by decide) (pcN := 143) rfl (fun (c_818 : ((x5 - x2).toInt) < win.toInt) => by omega) (fun (c_818 : ¬ ((x5 - x2).toInt) < win.toInt) => ?_)
          refine go_iconst C (1 : Int32) at_143 (pc' := 144) rfl (by decide) ?_
          refine go_goto C at_144 (by decide) (pc' := 148) (by decide) ?_
          refine go_istore C (Ls' := #[.val (.int x0), .val (.long x1), .second, .val (.long x2), .second, .val (.long x3), .second, .val (.long x4), .second, .val (.long x5), .second, .val (.int (2 : Int32)), .val (.int (1 : Int32)), .val (.int (1 : Int32)), .val (.long win), .second, .val (.long (4 : Int64)), .second, .val (.ref a_705), .val (.long x2), .second, .val (.int (1 : Int32)), .val (.int (1 : Int32))]) at_148 (pc' := 150) rfl rfl ?_
          refine go_iload C at_150 (pc' := 152) rfl rfl ?_
          refine go_if0 C (1 : Int) (by decide) at_152 (by decide) (pc' := 178) (by decide) (pcN := 155) rfl (fun (c_819 : ¬ (1 : Int) = 0) => ?_) (fun (c_819 : (1 : Int) = 0) => by omega)
          refine go_aload C at_178 (pc' := 180) rfl rfl rfl ?_
          refine go_lload C at_180 (pc' := 182) rfl rfl ?_
          refine go_lload C at_182 (pc' := 184) rfl rfl ?_
          refine go_virtualN C (as := [.long x3, .long (4 : Int64)]) (rest := []) (W := 0) (sat_add_2_0_0 l Z a0 hw a_705 r_736 x1 x2 x3 (4 : Int64) _ _ E_811 F_812 F_813 F_814 A_815 g_710 g_737) E_811 (wd hw 19 rfl) (wd hw 20 rfl) (wd hw 22 rfl) (wd hw 21 rfl) (wd hw 4 rfl) (wd hw 23 rfl) (by decide) pd_3 rfl rfl rfl (by decide) (by decide) (ce' := 2) (sl' := 9) rfl rfl (by decide) (by decide) at_184 (pc' := 187) rfl rfl ?_
          intro h_820 q_821
          obtain ⟨r_822, g_823, E_824, F_825, F_826, F_827, A_828⟩ := q_821
          refine go_lload C at_187 (pc' := 189) rfl rfl ?_
          refine go_lstore C (Ls' := #[.val (.int x0), .val (.long x1), .second, .val (.long x2), .second, .val (.long x3), .second, .val (.long x4), .second, .val (.long x5), .second, .val (.int (2 : Int32)), .val (.int (1 : Int32)), .val (.int (1 : Int32)), .val (.long win), .second, .val (.long (4 : Int64)), .second, .val (.ref a_705), .val (.long x3), .second, .val (.int (1 : Int32)), .val (.int (1 : Int32))]) at_189 (pc' := 191) rfl rfl ?_
          refine go_iload C at_191 (pc' := 193) rfl rfl ?_
          refine go_if0 C (1 : Int) (by decide) at_193 (by decide) (pc' := 209) (by decide) (pcN := 196) rfl (fun (c_829 : (1 : Int) = 0) => by omega) (fun (c_829 : ¬ (1 : Int) = 0) => ?_)
          refine go_aload C at_196 (pc' := 198) rfl rfl rfl ?_
          refine go_lload C at_198 (pc' := 200) rfl rfl ?_
          refine go_lload C at_200 (pc' := 202) rfl rfl ?_
          refine go_virtualN C (as := [.long x4, .long (4 : Int64)]) (rest := []) (W := 0) (sat_add_2_0_1 l Z a0 hw a_705 r_822 x3 x2 x4 (4 : Int64) _ _ E_824 F_825 F_826 F_827 A_828 g_710 g_823) E_824 (wd hw 19 rfl) (wd hw 20 rfl) (wd hw 22 rfl) (wd hw 21 rfl) (wd hw 4 rfl) (wd hw 23 rfl) (by decide) pd_3 rfl rfl rfl (by decide) (by decide) (ce' := 2) (sl' := 9) rfl rfl (by decide) (by decide) at_202 (pc' := 205) rfl rfl ?_
          intro h_830 q_831
          obtain ⟨r_832, g_833, E_834, F_835, F_836, F_837, A_838⟩ := q_831
          refine go_lload C at_205 (pc' := 207) rfl rfl ?_
          refine go_lstore C (Ls' := #[.val (.int x0), .val (.long x1), .second, .val (.long x2), .second, .val (.long x3), .second, .val (.long x4), .second, .val (.long x5), .second, .val (.int (2 : Int32)), .val (.int (1 : Int32)), .val (.int (1 : Int32)), .val (.long win), .second, .val (.long (4 : Int64)), .second, .val (.ref a_705), .val (.long x4), .second, .val (.int (1 : Int32)), .val (.int (1 : Int32))]) at_207 (pc' := 209) rfl rfl ?_
          refine go_iload C at_209 (pc' := 211) rfl rfl ?_
          refine go_if0 C (1 : Int) (by decide) at_211 (by decide) (pc' := 229) (by decide) (pcN := 214) rfl (fun (c_839 : (1 : Int) = 0) => by omega) (fun (c_839 : ¬ (1 : Int) = 0) => ?_)
          refine go_aload C at_214 (pc' := 216) rfl rfl rfl ?_
          refine go_virtualP C (as := []) (rest := []) (W := 0) (.long x4) (sat_new_2_0_2 l Z a0 hw a_705 r_832 x3 x4 _ _ E_834 F_835 F_836 F_837 A_838 g_710 g_833) E_834 (wd hw 32 rfl) (wd hw 33 rfl) (wd hw 35 rfl) (wd hw 34 rfl) (wd hw 4 rfl) (wd hw 36 rfl) (by decide) pd_5 rfl rfl rfl (by decide) (by decide) rfl rfl (by decide) (by decide) at_216 (pc' := 219) rfl rfl ?_
          refine go_lload C at_219 (pc' := 221) rfl rfl ?_
          refine go_lcmp C x4.toInt x4.toInt rfl rfl at_221 (pc1 := 222) rfl at_222 (by decide) (pc' := 229) (by decide) (pcN := 225) rfl (fun (c_840 : ¬ x4.toInt = x4.toInt) => by omega) (fun (c_840 : x4.toInt = x4.toInt) => ?_)
          refine go_iconst C (1 : Int32) at_225 (pc' := 226) rfl (by decide) ?_
          refine go_goto C at_226 (by decide) (pc' := 230) (by decide) ?_
          refine go_istore C (Ls' := #[.val (.int x0), .val (.long x1), .second, .val (.long x2), .second, .val (.long x3), .second, .val (.long x4), .second, .val (.long x5), .second, .val (.int (2 : Int32)), .val (.int (1 : Int32)), .val (.int (1 : Int32)), .val (.long win), .second, .val (.long (4 : Int64)), .second, .val (.ref a_705), .val (.long x4), .second, .val (.int (1 : Int32)), .val (.int (1 : Int32))]) at_230 (pc' := 232) rfl rfl ?_
          refine go_iload C at_232 (pc' := 234) rfl rfl ?_
          refine go_ireturnN C (z' := (1 : Int32)) rfl (by simp) rfl at_234 (by decide) (by decide) ?_
          exact ⟨_, rfl, rfl⟩
  · rw [hn]
    refine go_iadd C at_4 (pc' := 5) rfl ?_
    rw [(by decide : (1 : Int32) + (2 : Int32) = (3 : Int32))]
    refine go_istore C (Ls' := #[.val (.int x0), .val (.long x1), .second, .val (.long x2), .second, .val (.long x3), .second, .val (.long x4), .second, .val (.long x5), .second, .val (.int (3 : Int32)), .unset, .unset, .unset, .unset, .unset, .unset, .unset, .unset, .unset, .unset, .unset]) at_5 (pc' := 7) rfl rfl ?_
    refine go_iloadN C at_7 (pc' := 8) rfl rfl ?_
    refine go_iconst C (2 : Int32) at_8 (pc' := 9) rfl (by decide) ?_
    refine go_iushr C at_9 (pc' := 10) rfl ?_
    refine go_iconst C (1 : Int32) at_10 (pc' := 11) rfl (by decide) ?_
    refine go_iand C at_11 (pc' := 12) rfl ?_
    refine go_if0 C (((XT.ushr x0 (2 : Int32)) &&& (1 : Int32)).toInt) rfl at_12 (by decide) (pc' := 19) (by decide) (pcN := 15) rfl (fun (c_841 : (((XT.ushr x0 (2 : Int32)) &&& (1 : Int32)).toInt) = 0) => ?_) (fun (c_841 : ¬ (((XT.ushr x0 (2 : Int32)) &&& (1 : Int32)).toInt) = 0) => ?_)
    · skip
      refine go_iconst C (0 : Int32) at_19 (pc' := 20) rfl (by decide) ?_
      refine go_istore C (Ls' := #[.val (.int x0), .val (.long x1), .second, .val (.long x2), .second, .val (.long x3), .second, .val (.long x4), .second, .val (.long x5), .second, .val (.int (3 : Int32)), .val (.int (0 : Int32)), .unset, .unset, .unset, .unset, .unset, .unset, .unset, .unset, .unset, .unset]) at_20 (pc' := 22) rfl rfl ?_
      refine go_iloadN C at_22 (pc' := 23) rfl rfl ?_
      refine go_iconst C (3 : Int32) at_23 (pc' := 24) rfl (by decide) ?_
      refine go_iushr C at_24 (pc' := 25) rfl ?_
      refine go_iconst C (1 : Int32) at_25 (pc' := 26) rfl (by decide) ?_
      refine go_iand C at_26 (pc' := 27) rfl ?_
      refine go_if0 C (((XT.ushr x0 (3 : Int32)) &&& (1 : Int32)).toInt) rfl at_27 (by decide) (pc' := 34) (by decide) (pcN := 30) rfl (fun (c_842 : (((XT.ushr x0 (3 : Int32)) &&& (1 : Int32)).toInt) = 0) => ?_) (fun (c_842 : ¬ (((XT.ushr x0 (3 : Int32)) &&& (1 : Int32)).toInt) = 0) => ?_)
      · skip
        refine go_iconst C (0 : Int32) at_34 (pc' := 35) rfl (by decide) ?_
        refine go_istore C (Ls' := #[.val (.int x0), .val (.long x1), .second, .val (.long x2), .second, .val (.long x3), .second, .val (.long x4), .second, .val (.long x5), .second, .val (.int (3 : Int32)), .val (.int (0 : Int32)), .val (.int (0 : Int32)), .unset, .unset, .unset, .unset, .unset, .unset, .unset, .unset, .unset]) at_35 (pc' := 37) rfl rfl ?_
        refine go_lconst C (1 : Int64) at_37 (pc' := 38) rfl (by decide) ?_
        refine go_iloadN C at_38 (pc' := 39) rfl rfl ?_
        refine go_iconst C (4 : Int32) at_39 (pc' := 40) rfl (by decide) ?_
        refine go_iushr C at_40 (pc' := 41) rfl ?_
        refine go_ldc C (v := (65535 : Int32)) (wd hw 0 rfl) at_41 (pc' := 43) rfl ?_
        refine go_iand C at_43 (pc' := 44) rfl ?_
        refine go_i2l C at_44 (pc' := 45) rfl ?_
        refine go_ladd C at_45 (pc' := 46) rfl ?_
        refine go_lstore C (Ls' := #[.val (.int x0), .val (.long x1), .second, .val (.long x2), .second, .val (.long x3), .second, .val (.long x4), .second, .val (.long x5), .second, .val (.int (3 : Int32)), .val (.int (0 : Int32)), .val (.int (0 : Int32)), .val (.long ((1 : Int64) + (((XT.ushr x0 (4 : Int32)) &&& (65535 : Int32)).toInt64))), .second, .unset, .unset, .unset, .unset, .unset, .unset, .unset]) at_46 (pc' := 48) rfl rfl ?_
        refine go_ldc2 C (v := (4 : Int64)) (wd hw 1 rfl) at_48 (pc' := 51) rfl ?_
        refine go_lstore C (Ls' := #[.val (.int x0), .val (.long x1), .second, .val (.long x2), .second, .val (.long x3), .second, .val (.long x4), .second, .val (.long x5), .second, .val (.int (3 : Int32)), .val (.int (0 : Int32)), .val (.int (0 : Int32)), .val (.long ((1 : Int64) + (((XT.ushr x0 (4 : Int32)) &&& (65535 : Int32)).toInt64))), .second, .val (.long (4 : Int64)), .second, .unset, .unset, .unset, .unset, .unset]) at_51 (pc' := 53) rfl rfl ?_
        generalize (1 : Int64) + (((XT.ushr x0 (4 : Int32)) &&& (65535 : Int32)).toInt64) = win
        refine go_new C (wd hw 2 rfl) (wd hw 3 rfl) (wd hw 4 rfl) at_53 (pc' := 56) rfl (ce' := 1) (sl' := 7) rfl rfl (by decide) (by decide) ?_
        intro h_843 a_844 g_845 E_846 E_847 D_848
        have g_849 : Z.heap.size ≤ a_844 := own_ge (Nat.le_refl _) g_845
        have z_850 : Z.heap.size ≤ h_843.size := Nat.le_trans (Nat.le_refl _) E_846.1
        have F_851 : Fld Z h_843 a_844 "com/example/throttld/throttld/SlidingLog$Log" "ring" "[J" (.null) := D_848 (Or.inl (wd hw 18 rfl)) (ty := (.array .long)) (by decide)
        have F_852 : Fld Z h_843 a_844 "com/example/throttld/throttld/SlidingLog$Log" "count" "I" (.int (0 : Int32)) := D_848 (Or.inl (wd hw 25 rfl)) (ty := .int) (by decide)
        have F_853 : Fld Z h_843 a_844 "com/example/throttld/throttld/SlidingLog$Log" "head" "I" (.int (0 : Int32)) := D_848 (Or.inl (wd hw 31 rfl)) (ty := .int) (by decide)
        refine go_dup C at_56 (pc' := 57) rfl rfl ?_
        refine go_iload C at_57 (pc' := 59) rfl rfl ?_
        refine go_specialN C (as := [.int (3 : Int32)]) (rest := [.ref a_844]) (W := 1) (sat_init3 l Z a0 hw a_844 _ _ E_847 F_851 F_853 F_852 g_849 z_850) rfl (wd hw 5 rfl) (wd hw 6 rfl) (wd hw 4 rfl) (wd hw 7 rfl) (by decide) pd_1 rfl rfl rfl (by decide) (by decide) (ce' := 2) (sl' := 10) rfl rfl (by decide) (by decide) at_59 (pc' := 62) rfl rfl ?_
        intro h_854 q_855
        obtain ⟨r_856, g_857, E_858, F_859, F_860, F_861, A_862⟩ := q_855
        refine go_astore C (Ls' := #[.val (.int x0), .val (.long x1), .second, .val (.long x2), .second, .val (.long x3), .second, .val (.long x4), .second, .val (.long x5), .second, .val (.int (3 : Int32)), .val (.int (0 : Int32)), .val (.int (0 : Int32)), .val (.long win), .second, .val (.long (4 : Int64)), .second, .val (.ref a_844), .unset, .unset, .unset, .unset]) at_62 (pc' := 64) rfl rfl rfl ?_
        refine go_aload C at_64 (pc' := 66) rfl rfl rfl ?_
        refine go_lloadN C at_66 (pc' := 67) rfl rfl ?_
        refine go_lload C at_67 (pc' := 69) rfl rfl ?_
        refine go_virtualN C (as := [.long x1, .long (4 : Int64)]) (rest := []) (W := 0) (sat_add_3_0_0 l Z a0 hw a_844 r_856 (0 : Int64) (0 : Int64) (0 : Int64) x1 (4 : Int64) _ _ E_858 F_859 F_860 F_861 A_862 g_849 g_857) E_858 (wd hw 19 rfl) (wd hw 20 rfl) (wd hw 22 rfl) (wd hw 21 rfl) (wd hw 4 rfl) (wd hw 23 rfl) (by decide) pd_3 rfl rfl rfl (by decide) (by decide) (ce' := 2) (sl' := 10) rfl rfl (by decide) (by decide) at_69 (pc' := 72) rfl rfl ?_
        intro h_863 q_864
        obtain ⟨r_865, g_866, E_867, F_868, F_869, F_870, A_871⟩ := q_864
        refine go_lloadN C at_72 (pc' := 73) rfl rfl ?_
        refine go_lstore C (Ls' := #[.val (.int x0), .val (.long x1), .second, .val (.long x2), .second, .val (.long x3), .second, .val (.long x4), .second, .val (.long x5), .second, .val (.int (3 : Int32)), .val (.int (0 : Int32)), .val (.int (0 : Int32)), .val (.long win), .second, .val (.long (4 : Int64)), .second, .val (.ref a_844), .val (.long x1), .second, .unset, .unset]) at_73 (pc' := 75) rfl rfl ?_
        refine go_iload C at_75 (pc' := 77) rfl rfl ?_
        refine go_if0 C (0 : Int) (by decide) at_77 (by decide) (pc' := 91) (by decide) (pcN := 80) rfl (fun (c_872 : (0 : Int) = 0) => ?_) (fun (c_872 : ¬ (0 : Int) = 0) => by omega)
        refine go_aload C at_91 (pc' := 93) rfl rfl rfl ?_
        refine go_virtualP C (as := []) (rest := []) (W := 0) (.long x1) (sat_new_3_0_1 l Z a0 hw a_844 r_865 x1 (0 : Int64) (0 : Int64) _ _ E_867 F_868 F_869 F_870 A_871 g_849 g_866) E_867 (wd hw 32 rfl) (wd hw 33 rfl) (wd hw 35 rfl) (wd hw 34 rfl) (wd hw 4 rfl) (wd hw 36 rfl) (by decide) pd_5 rfl rfl rfl (by decide) (by decide) rfl rfl (by decide) (by decide) at_93 (pc' := 96) rfl rfl ?_
        refine go_lload C at_96 (pc' := 98) rfl rfl ?_
        refine go_lcmp C x1.toInt x1.toInt rfl rfl at_98 (pc1 := 99) rfl at_99 (by decide) (pc' := 106) (by decide) (pcN := 102) rfl (fun (c_873 : ¬ x1.toInt = x1.toInt) => by omega) (fun (c_873 : x1.toInt = x1.toInt) => ?_)
        refine go_iconst C (1 : Int32) at_102 (pc' := 103) rfl (by decide) ?_
        refine go_goto C at_103 (by decide) (pc' := 107) (by decide) ?_
        refine go_istore C (Ls' := #[.val (.int x0), .val (.long x1), .second, .val (.long x2), .second, .val (.long x3), .second, .val (.long x4), .second, .val (.long x5), .second, .val (.int (3 : Int32)), .val (.int (0 : Int32)), .val (.int (0 : Int32)), .val (.long win), .second, .val (.long (4 : Int64)), .second, .val (.ref a_844), .val (.long x1), .second, .val (.int (1 : Int32)), .unset]) at_107 (pc' := 109) rfl rfl ?_
        refine go_aload C at_109 (pc' := 111) rfl rfl rfl ?_
        refine go_lload C at_111 (pc' := 113) rfl rfl ?_
        refine go_lload C at_113 (pc' := 115) rfl rfl ?_
        refine go_virtualN C (as := [.long x5, .long win]) (rest := []) (W := 0) (sat_drop_3_0_1 l Z a0 hw a_844 r_865 x1 (0 : Int64) (0 : Int64) x5 win _ _ E_867 F_868 F_869 F_870 A_871 g_849 g_866) E_867 (wd hw 37 rfl) (wd hw 38 rfl) (wd hw 40 rfl) (wd hw 39 rfl) (wd hw 4 rfl) (wd hw 41 rfl) (by decide) pd_3 rfl rfl rfl (by decide) (by decide) (ce' := 2) (sl' := 10) rfl rfl (by decide) (by decide) at_115 (pc' := 118) rfl rfl ?_
        intro h_874 q_875
        rcases q_875 with q_875 | q_875
        · skip
          obtain ⟨hc_876, E_877, F_878, F_879, F_880, A_881⟩ := q_875
          refine go_lload C at_118 (pc' := 120) rfl rfl ?_
          refine go_lloadN C at_120 (pc' := 121) rfl rfl ?_
          refine go_lsub C at_121 (pc' := 122) rfl ?_
          refine go_lload C at_122 (pc' := 124) rfl rfl ?_
          refine go_lcmp C ((x5 - x1).toInt) win.toInt rfl rfl at_124 (pc1 := 125) rfl at_125 (by decide) (pc' := 147) (by decide) (pcN := 128) rfl (fun (c_882 : ((x5 - x1).toInt) < win.toInt) => ?_) (fun (c_882 : ¬ ((x5 - x1).toInt) < win.toInt) => by omega)
          refine go_iconst C (0 : Int32) at_147 (pc' := 148) rfl (by decide) ?_
          refine go_istore C (Ls' := #[.val (.int x0), .val (.long x1), .second, .val (.long x2), .second, .val (.long x3), .second, .val (.long x4), .second, .val (.long x5), .second, .val (.int (3 : Int32)), .val (.int (0 : Int32)), .val (.int (0 : Int32)), .val (.long win), .second, .val (.long (4 : Int64)), .second, .val (.ref a_844), .val (.long x1), .second, .val (.int (1 : Int32)), .val (.int (0 : Int32))]) at_148 (pc' := 150) rfl rfl ?_
          refine go_iload C at_150 (pc' := 152) rfl rfl ?_
          refine go_if0 C (0 : Int) (by decide) at_152 (by decide) (pc' := 178) (by decide) (pcN := 155) rfl (fun (c_883 : ¬ (0 : Int) = 0) => by omega) (fun (c_883 : (0 : Int) = 0) => ?_)
          refine go_iload C at_155 (pc' := 157) rfl rfl ?_
          refine go_if0 C (1 : Int) (by decide) at_157 (by decide) (pc' := 175) (by decide) (pcN := 160) rfl (fun (c_884 : (1 : Int) = 0) => by omega) (fun (c_884 : ¬ (1 : Int) = 0) => ?_)
          refine go_aload C at_160 (pc' := 162) rfl rfl rfl ?_
          refine go_virtualP C (as := []) (rest := []) (W := 0) (.long x1) (sat_new_3_0_1 l Z a0 hw a_844 r_865 x1 (0 : Int64) (0 : Int64) _ _ E_877 F_878 F_879 F_880 A_881 g_849 g_866) E_877 (wd hw 32 rfl) (wd hw 33 rfl) (wd hw 35 rfl) (wd hw 34 rfl) (wd hw 4 rfl) (wd hw 36 rfl) (by decide) pd_5 rfl rfl rfl (by decide) (by decide) rfl rfl (by decide) (by decide) at_162 (pc' := 165) rfl rfl ?_
          refine go_lload C at_165 (pc' := 167) rfl rfl ?_
          refine go_lcmp C x1.toInt x1.toInt rfl rfl at_167 (pc1 := 168) rfl at_168 (by decide) (pc' := 175) (by decide) (pcN := 171) rfl (fun (c_885 : ¬ x1.toInt = x1.toInt) => by omega) (fun (c_885 : x1.toInt = x1.toInt) => ?_)
          refine go_iconst C (1 : Int32) at_171 (pc' := 172) rfl (by decide) ?_
          refine go_goto C at_172 (by decide) (pc' := 176) (by decide) ?_
          refine go_istore C (Ls' := #[.val (.int x0), .val (.long x1), .second, .val (.long x2), .second, .val (.long x3), .second, .val (.long x4), .second, .val (.long x5), .second, .val (.int (3 : Int32)), .val (.int (0 : Int32)), .val (.int (0 : Int32)), .val (.long win), .second, .val (.long (4 : Int64)), .second, .val (.ref a_844), .val (.long x1), .second, .val (.int (1 : Int32)), .val (.int (0 : Int32))]) at_176 (pc' := 178) rfl rfl ?_
          refine go_aload C at_178 (pc' := 180) rfl rfl rfl ?_
          refine go_lload C at_180 (pc' := 182) rfl rfl ?_
          refine go_lload C at_182 (pc' := 184) rfl rfl ?_
          refine go_virtualN C (as := [.long x3, .long (4 : Int64)]) (rest := []) (W := 0) (sat_add_3_0_1 l Z a0 hw a_844 r_865 x1 (0 : Int64) (0 : Int64) x3 (4 : Int64) _ _ E_877 F_878 F_879 F_880 A_881 g_849 g_866) E_877 (wd hw 19 rfl) (wd hw 20 rfl) (wd hw 22 rfl) (wd hw 21 rfl) (wd hw 4 rfl) (wd hw 23 rfl) (by decide) pd_3 rfl rfl rfl (by decide) (by decide) (ce' := 2) (sl' := 10) rfl rfl (by decide) (by decide) at_184 (pc' := 187) rfl rfl ?_
          intro h_886 q_887
          obtain ⟨r_888, g_889, E_890, F_891, F_892, F_893, A_894⟩ := q_887
          refine go_lload C at_187 (pc' := 189) rfl rfl ?_
          refine go_lstore C (Ls' := #[.val (.int x0), .val (.long x1), .second, .val (.long x2), .second, .val (.long x3), .second, .val (.long x4), .second, .val (.long x5), .second, .val (.int (3 : Int32)), .val (.int (0 : Int32)), .val (.int (0 : Int32)), .val (.long win), .second, .val (.long (4 : Int64)), .second, .val (.ref a_844), .val (.long x3), .second, .val (.int (1 : Int32)), .val (.int (0 : Int32))]) at_189 (pc' := 191) rfl rfl ?_
          refine go_iload C at_191 (pc' := 193) rfl rfl ?_
          refine go_if0 C (0 : Int) (by decide) at_193 (by decide) (pc' := 209) (by decide) (pcN := 196) rfl (fun (c_895 : (0 : Int) = 0) => ?_) (fun (c_895 : ¬ (0 : Int) = 0) => by omega)
          refine go_iload C at_209 (pc' := 211) rfl rfl ?_
          refine go_if0 C (1 : Int) (by decide) at_211 (by decide) (pc' := 229) (by decide) (pcN := 214) rfl (fun (c_896 : (1 : Int) = 0) => by omega) (fun (c_896 : ¬ (1 : Int) = 0) => ?_)
          refine go_aload C at_214 (pc' := 216) rfl rfl rfl ?_
          refine go_virtualP C (as := []) (rest := []) (W := 0) (.long x3) (sat_new_3_0_2 l Z a0 hw a_844 r_888 x1 x3 (0 : Int64) _ _ E_890 F_891 F_892 F_893 A_894 g_849 g_889) E_890 (wd hw 32 rfl) (wd hw 33 rfl) (wd hw 35 rfl) (wd hw 34 rfl) (wd hw 4 rfl) (wd hw 36 rfl) (by decide) pd_5 rfl rfl rfl (by decide) (by decide) rfl rfl (by decide) (by decide) at_216 (pc' := 219) rfl rfl ?_
          refine go_lload C at_219 (pc' := 221) rfl rfl ?_
          refine go_lcmp C x3.toInt x3.toInt rfl rfl at_221 (pc1 := 222) rfl at_222 (by decide) (pc' := 229) (by decide) (pcN := 225) rfl (fun (c_897 : ¬ x3.toInt = x3.toInt) => by omega) (fun (c_897 : x3.toInt = x3.toInt) => ?_)
          refine go_iconst C (1 : Int32) at_225 (pc' := 226) rfl (by decide) ?_
          refine go_goto C at_226 (by decide) (pc' := 230) (by decide) ?_
          refine go_istore C (Ls' := #[.val (.int x0), .val (.long x1), .second, .val (.long x2), .second, .val (.long x3), .second, .val (.long x4), .second, .val (.long x5), .second, .val (.int (3 : Int32)), .val (.int (0 : Int32)), .val (.int (0 : Int32)), .val (.long win), .second, .val (.long (4 : Int64)), .second, .val (.ref a_844), .val (.long x3), .second, .val (.int (1 : Int32)), .val (.int (0 : Int32))]) at_230 (pc' := 232) rfl rfl ?_
          refine go_iload C at_232 (pc' := 234) rfl rfl ?_
          refine go_ireturnN C (z' := (1 : Int32)) rfl (by simp) rfl at_234 (by decide) (by decide) ?_
          exact ⟨_, rfl, rfl⟩
        · skip
          obtain ⟨hc_898, E_899, F_900, F_901, F_902, A_903⟩ := q_875
          refine go_lload C at_118 (pc' := 120) rfl rfl ?_
          refine go_lloadN C at_120 (pc' := 121) rfl rfl ?_
          refine go_lsub C at_121 (pc' := 122) rfl ?_
          refine go_lload C at_122 (pc' := 124) rfl rfl ?_
          refine go_lcmp C ((x5 - x1).toInt) win.toInt rfl rfl at_124 (pc1 := 125) rfl at_125 (by decide) (pc' := 147) (by decide) (pcN := 128) rfl (fun (c_904 : ((x5 - x1).toInt) < win.toInt) => by omega) (fun (c_904 : ¬ ((x5 - x1).toInt) < win.toInt) => ?_)
          refine go_iload C at_128 (pc' := 130) rfl rfl ?_
          refine go_if0 C (0 : Int) (by decide) at_130 (by decide) (pc' := 143) (by decide) (pcN := 133) rfl (fun (c_905 : (0 : Int) = 0) => ?_) (fun (c_905 : ¬ (0 : Int) = 0) => by omega)
          refine go_iconst C (1 : Int32) at_143 (pc' := 144) rfl (by decide) ?_
          refine go_goto C at_144 (by decide) (pc' := 148) (by decide) ?_
          refine go_istore C (Ls' := #[.val (.int x0), .val (.long x1), .second, .val (.long x2), .second, .val (.long x3), .second, .val (.long x4), .second, .val (.long x5), .second, .val (.int (3 : Int32)), .val (.int (0 : Int32)), .val (.int (0 : Int32)), .val (.long win), .second, .val (.long (4 : Int64)), .second, .val (.ref a_844), .val (.long x1), .second, .val (.int (1 : Int32)), .val (.int (1 : Int32))]) at_148 (pc' := 150) rfl rfl ?_
          refine go_iload C at_150 (pc' := 152) rfl rfl ?_
          refine go_if0 C (1 : Int) (by decide) at_152 (by decide) (pc' := 178) (by decide) (pcN := 155) rfl (fun (c_906 : ¬ (1 : Int) = 0) => ?_) (fun (c_906 : (1 : Int) = 0) => by omega)
          refine go_aload C at_178 (pc' := 180) rfl rfl rfl ?_
          refine go_lload C at_180 (pc' := 182) rfl rfl ?_
          refine go_lload C at_182 (pc' := 184) rfl rfl ?_
          refine go_virtualN C (as := [.long x3, .long (4 : Int64)]) (rest := []) (W := 0) (sat_add_3_1_0 l Z a0 hw a_844 r_865 x1 (0 : Int64) (0 : Int64) x3 (4 : Int64) _ _ E_899 F_900 F_901 F_902 A_903 g_849 g_866) E_899 (wd hw 19 rfl) (wd hw 20 rfl) (wd hw 22 rfl) (wd hw 21 rfl) (wd hw 4 rfl) (wd hw 23 rfl) (by decide) pd_3 rfl rfl rfl (by decide) (by decide) (ce' := 2) (sl' := 10) rfl rfl (by decide) (by decide) at_184 (pc' := 187) rfl rfl ?_
          intro h_907 q_908
          obtain ⟨r_909, g_910, E_911, F_912, F_913, F_914, A_915⟩ := q_908
          refine go_lload C at_187 (pc' := 189) rfl rfl ?_
          refine go_lstore C (Ls' := #[.val (.int x0), .val (.long x1), .second, .val (.long x2), .second, .val (.long x3), .second, .val (.long x4), .second, .val (.long x5), .second, .val (.int (3 : Int32)), .val (.int (0 : Int32)), .val (.int (0 : Int32)), .val (.long win), .second, .val (.long (4 : Int64)), .second, .val (.ref a_844), .val (.long x3), .second, .val (.int (1 : Int32)), .val (.int (1 : Int32))]) at_189 (pc' := 191) rfl rfl ?_
          refine go_iload C at_191 (pc' := 193) rfl rfl ?_
          refine go_if0 C (0 : Int) (by decide) at_193 (by decide) (pc' := 209) (by decide) (pcN := 196) rfl (fun (c_916 : (0 : Int) = 0) => ?_) (fun (c_916 : ¬ (0 : Int) = 0) => by omega)
          refine go_iload C at_209 (pc' := 211) rfl rfl ?_
          refine go_if0 C (1 : Int) (by decide) at_211 (by decide) (pc' := 229) (by decide) (pcN := 214) rfl (fun (c_917 : (1 : Int) = 0) => by omega) (fun (c_917 : ¬ (1 : Int) = 0) => ?_)
          refine go_aload C at_214 (pc' := 216) rfl rfl rfl ?_
          refine go_virtualP C (as := []) (rest := []) (W := 0) (.long x3) (sat_new_3_1_1 l Z a0 hw a_844 r_909 x1 x3 (0 : Int64) _ _ E_911 F_912 F_913 F_914 A_915 g_849 g_910) E_911 (wd hw 32 rfl) (wd hw 33 rfl) (wd hw 35 rfl) (wd hw 34 rfl) (wd hw 4 rfl) (wd hw 36 rfl) (by decide) pd_5 rfl rfl rfl (by decide) (by decide) rfl rfl (by decide) (by decide) at_216 (pc' := 219) rfl rfl ?_
          refine go_lload C at_219 (pc' := 221) rfl rfl ?_
          refine go_lcmp C x3.toInt x3.toInt rfl rfl at_221 (pc1 := 222) rfl at_222 (by decide) (pc' := 229) (by decide) (pcN := 225) rfl (fun (c_918 : ¬ x3.toInt = x3.toInt) => by omega) (fun (c_918 : x3.toInt = x3.toInt) => ?_)
          refine go_iconst C (1 : Int32) at_225 (pc' := 226) rfl (by decide) ?_
          refine go_goto C at_226 (by decide) (pc' := 230) (by decide) ?_
          refine go_istore C (Ls' := #[.val (.int x0), .val (.long x1), .second, .val (.long x2), .second, .val (.long x3), .second, .val (.long x4), .second, .val (.long x5), .second, .val (.int (3 : Int32)), .val (.int (0 : Int32)), .val (.int (0 : Int32)), .val (.long win), .second, .val (.long (4 : Int64)), .second, .val (.ref a_844), .val (.long x3), .second, .val (.int (1 : Int32)), .val (.int (1 : Int32))]) at_230 (pc' := 232) rfl rfl ?_
          refine go_iload C at_232 (pc' := 234) rfl rfl ?_
          refine go_ireturnN C (z' := (1 : Int32)) rfl (by simp) rfl at_234 (by decide) (by decide) ?_
          exact ⟨_, rfl, rfl⟩
      · skip
        refine go_iconst C (1 : Int32) at_30 (pc' := 31) rfl (by decide) ?_
        refine go_goto C at_31 (by decide) (pc' := 35) (by decide) ?_
        refine go_istore C (Ls' := #[.val (.int x0), .val (.long x1), .second, .val (.long x2), .second, .val (.long x3), .second, .val (.long x4), .second, .val (.long x5), .second, .val (.int (3 : Int32)), .val (.int (0 : Int32)), .val (.int (1 : Int32)), .unset, .unset, .unset, .unset, .unset, .unset, .unset, .unset, .unset]) at_35 (pc' := 37) rfl rfl ?_
        refine go_lconst C (1 : Int64) at_37 (pc' := 38) rfl (by decide) ?_
        refine go_iloadN C at_38 (pc' := 39) rfl rfl ?_
        refine go_iconst C (4 : Int32) at_39 (pc' := 40) rfl (by decide) ?_
        refine go_iushr C at_40 (pc' := 41) rfl ?_
        refine go_ldc C (v := (65535 : Int32)) (wd hw 0 rfl) at_41 (pc' := 43) rfl ?_
        refine go_iand C at_43 (pc' := 44) rfl ?_
        refine go_i2l C at_44 (pc' := 45) rfl ?_
        refine go_ladd C at_45 (pc' := 46) rfl ?_
        refine go_lstore C (Ls' := #[.val (.int x0), .val (.long x1), .second, .val (.long x2), .second, .val (.long x3), .second, .val (.long x4), .second, .val (.long x5), .second, .val (.int (3 : Int32)), .val (.int (0 : Int32)), .val (.int (1 : Int32)), .val (.long ((1 : Int64) + (((XT.ushr x0 (4 : Int32)) &&& (65535 : Int32)).toInt64))), .second, .unset, .unset, .unset, .unset, .unset, .unset, .unset]) at_46 (pc' := 48) rfl rfl ?_
        refine go_ldc2 C (v := (4 : Int64)) (wd hw 1 rfl) at_48 (pc' := 51) rfl ?_
        refine go_lstore C (Ls' := #[.val (.int x0), .val (.long x1), .second, .val (.long x2), .second, .val (.long x3), .second, .val (.long x4), .second, .val (.long x5), .second, .val (.int (3 : Int32)), .val (.int (0 : Int32)), .val (.int (1 : Int32)), .val (.long ((1 : Int64) + (((XT.ushr x0 (4 : Int32)) &&& (65535 : Int32)).toInt64))), .second, .val (.long (4 : Int64)), .second, .unset, .unset, .unset, .unset, .unset]) at_51 (pc' := 53) rfl rfl ?_
        generalize (1 : Int64) + (((XT.ushr x0 (4 : Int32)) &&& (65535 : Int32)).toInt64) = win
        refine go_new C (wd hw 2 rfl) (wd hw 3 rfl) (wd hw 4 rfl) at_53 (pc' := 56) rfl (ce' := 1) (sl' := 7) rfl rfl (by decide) (by decide) ?_
        intro h_919 a_920 g_921 E_922 E_923 D_924
        have g_925 : Z.heap.size ≤ a_920 := own_ge (Nat.le_refl _) g_921
        have z_926 : Z.heap.size ≤ h_919.size := Nat.le_trans (Nat.le_refl _) E_922.1
        have F_927 : Fld Z h_919 a_920 "com/example/throttld/throttld/SlidingLog$Log" "ring" "[J" (.null) := D_924 (Or.inl (wd hw 18 rfl)) (ty := (.array .long)) (by decide)
        have F_928 : Fld Z h_919 a_920 "com/example/throttld/throttld/SlidingLog$Log" "count" "I" (.int (0 : Int32)) := D_924 (Or.inl (wd hw 25 rfl)) (ty := .int) (by decide)
        have F_929 : Fld Z h_919 a_920 "com/example/throttld/throttld/SlidingLog$Log" "head" "I" (.int (0 : Int32)) := D_924 (Or.inl (wd hw 31 rfl)) (ty := .int) (by decide)
        refine go_dup C at_56 (pc' := 57) rfl rfl ?_
        refine go_iload C at_57 (pc' := 59) rfl rfl ?_
        refine go_specialN C (as := [.int (3 : Int32)]) (rest := [.ref a_920]) (W := 1) (sat_init3 l Z a0 hw a_920 _ _ E_923 F_927 F_929 F_928 g_925 z_926) rfl (wd hw 5 rfl) (wd hw 6 rfl) (wd hw 4 rfl) (wd hw 7 rfl) (by decide) pd_1 rfl rfl rfl (by decide) (by decide) (ce' := 2) (sl' := 10) rfl rfl (by decide) (by decide) at_59 (pc' := 62) rfl rfl ?_
        intro h_930 q_931
        obtain ⟨r_932, g_933, E_934, F_935, F_936, F_937, A_938⟩ := q_931
        refine go_astore C (Ls' := #[.val (.int x0), .val (.long x1), .second, .val (.long x2), .second, .val (.long x3), .second, .val (.long x4), .second, .val (.long x5), .second, .val (.int (3 : Int32)), .val (.int (0 : Int32)), .val (.int (1 : Int32)), .val (.long win), .second, .val (.long (4 : Int64)), .second, .val (.ref a_920), .unset, .unset, .unset, .unset]) at_62 (pc' := 64) rfl rfl rfl ?_
        refine go_aload C at_64 (pc' := 66) rfl rfl rfl ?_
        refine go_lloadN C at_66 (pc' := 67) rfl rfl ?_
        refine go_lload C at_67 (pc' := 69) rfl rfl ?_
        refine go_virtualN C (as := [.long x1, .long (4 : Int64)]) (rest := []) (W := 0) (sat_add_3_0_0 l Z a0 hw a_920 r_932 (0 : Int64) (0 : Int64) (0 : Int64) x1 (4 : Int64) _ _ E_934 F_935 F_936 F_937 A_938 g_925 g_933) E_934 (wd hw 19 rfl) (wd hw 20 rfl) (wd hw 22 rfl) (wd hw 21 rfl) (wd hw 4 rfl) (wd hw 23 rfl) (by decide) pd_3 rfl rfl rfl (by decide) (by decide) (ce' := 2) (sl' := 10) rfl rfl (by decide) (by decide) at_69 (pc' := 72) rfl rfl ?_
        intro h_939 q_940
        obtain ⟨r_941, g_942, E_943, F_944, F_945, F_946, A_947⟩ := q_940
        refine go_lloadN C at_72 (pc' := 73) rfl rfl ?_
        refine go_lstore C (Ls' := #[.val (.int x0), .val (.long x1), .second, .val (.long x2), .second, .val (.long x3), .second, .val (.long x4), .second, .val (.long x5), .second, .val (.int (3 : Int32)), .val (.int (0 : Int32)), .val (.int (1 : Int32)), .val (.long win), .second, .val (.long (4 : Int64)), .second, .val (.ref a_920), .val (.long x1), .second, .unset, .unset]) at_73 (pc' := 75) rfl rfl ?_
        refine go_iload C at_75 (pc' := 77) rfl rfl ?_
        refine go_if0 C (0 : Int) (by decide) at_77 (by decide) (pc' := 91) (by decide) (pcN := 80) rfl (fun (c_948 : (0 : Int) = 0) => ?_) (fun (c_948 : ¬ (0 : Int) = 0) => by omega)
        refine go_aload C at_91 (pc' := 93) rfl rfl rfl ?_
        refine go_virtualP C (as := []) (rest := []) (W := 0) (.long x1) (sat_new_3_0_1 l Z a0 hw a_920 r_941 x1 (0 : Int64) (0 : Int64) _ _ E_943 F_944 F_945 F_946 A_947 g_925 g_942) E_943 (wd hw 32 rfl) (wd hw 33 rfl) (wd hw 35 rfl) (wd hw 34 rfl) (wd hw 4 rfl) (wd hw 36 rfl) (by decide) pd_5 rfl rfl rfl (by decide) (by decide) rfl rfl (by decide) (by decide) at_93 (pc' := 96) rfl rfl ?_
        refine go_lload C at_96 (pc' := 98) rfl rfl ?_
        refine go_lcmp C x1.toInt x1.toInt rfl rfl at_98 (pc1 := 99) rfl at_99 (by decide) (pc' := 106) (by decide) (pcN := 102) rfl (fun (c_949 : ¬ x1.toInt = x1.toInt) => by omega) (fun (c_949 : x1.toInt = x1.toInt) => ?_)
        refine go_iconst C (1 : Int32) at_102 (pc' := 103) rfl (by decide) ?_
        refine go_goto C at_103 (by decide) (pc' := 107) (by decide) ?_
        refine go_istore C (Ls' := #[.val (.int x0), .val (.long x1), .second, .val (.long x2), .second, .val (.long x3), .second, .val (.long x4), .second, .val (.long x5), .second, .val (.int (3 : Int32)), .val (.int (0 : Int32)), .val (.int (1 : Int32)), .val (.long win), .second, .val (.long (4 : Int64)), .second, .val (.ref a_920), .val (.long x1), .second, .val (.int (1 : Int32)), .unset]) at_107 (pc' := 109) rfl rfl ?_
        refine go_aload C at_109 (pc' := 111) rfl rfl rfl ?_
        refine go_lload C at_111 (pc' := 113) rfl rfl ?_
        refine go_lload C at_113 (pc' := 115) rfl rfl ?_
        refine go_virtualN C (as := [.long x5, .long win]) (rest := []) (W := 0) (sat_drop_3_0_1 l Z a0 hw a_920 r_941 x1 (0 : Int64) (0 : Int64) x5 win _ _ E_943 F_944 F_945 F_946 A_947 g_925 g_942) E_943 (wd hw 37 rfl) (wd hw 38 rfl) (wd hw 40 rfl) (wd hw 39 rfl) (wd hw 4 rfl) (wd hw 41 rfl) (by decide) pd_3 rfl rfl rfl (by decide) (by decide) (ce' := 2) (sl' := 10) rfl rfl (by decide) (by decide) at_115 (pc' := 118) rfl rfl ?_
        intro h_950 q_951
        rcases q_951 with q_951 | q_951
        · skip
          obtain ⟨hc_952, E_953, F_954, F_955, F_956, A_957⟩ := q_951
          refine go_lload C at_118 (pc' := 120) rfl rfl ?_
          refine go_lloadN C at_120 (pc' := 121) rfl rfl ?_
          refine go_lsub C at_121 (pc' := 122) rfl ?_
          refine go_lload C at_122 (pc' := 124) rfl rfl ?_
          refine go_lcmp C ((x5 - x1).toInt) win.toInt rfl rfl at_124 (pc1 := 125) rfl at_125 (by decide) (pc' := 147) (by decide) (pcN := 128) rfl (fun (c_958 : ((x5 - x1).toInt) < win.toInt) => ?_) (fun (c_958 : ¬ ((x5 - x1).toInt) < win.toInt) => by omega)
          refine go_iconst C (0 : Int32) at_147 (pc' := 148) rfl (by decide) ?_
          refine go_istore C (Ls' := #[.val (.int x0), .val (.long x1), .second, .val (.long x2), .second, .val (.long x3), .second, .val (.long x4), .second, .val (.long x5), .second, .val (.int (3 : Int32)), .val (.int (0 : Int32)), .val (.int (1 : Int32)), .val (.long win), .second, .val (.long (4 : Int64)), .second, .val (.ref a_920), .val (.long x1), .second, .val (.int (1 : Int32)), .val (.int (0 : Int32))]) at_148 (pc' := 150) rfl rfl ?_
          refine go_iload C at_150 (pc' := 152) rfl rfl ?_
          refine go_if0 C (0 : Int) (by decide) at_152 (by decide) (pc' := 178) (by decide) (pcN := 155) rfl (fun (c_959 : ¬ (0 : Int) = 0) => by omega) (fun (c_959 : (0 : Int) = 0) => ?_)
          refine go_iload C at_155 (pc' := 157) rfl rfl ?_
          refine go_if0 C (1 : Int) (by decide) at_157 (by decide) (pc' := 175) (by decide) (pcN := 160) rfl (fun (c_960 : (1 : Int) = 0) => by omega) (fun (c_960 : ¬ (1 : Int) = 0) => ?_)
          refine go_aload C at_160 (pc' := 162) rfl rfl rfl ?_
          refine go_virtualP C (as := []) (rest := []) (W := 0) (.long x1) (sat_new_3_0_1 l Z a0 hw a_920 r_941 x1 (0 : Int64) (0 : Int64) _ _ E_953 F_954 F_955 F_956 A_957 g_925 g_942) E_953 (wd hw 32 rfl) (wd hw 33 rfl) (wd hw 35 rfl) (wd hw 34 rfl) (wd hw 4 rfl) (wd hw 36 rfl) (by decide) pd_5 rfl rfl rfl (by decide) (by decide) rfl rfl (by decide) (by decide) at_162 (pc' := 165) rfl rfl ?_
          refine go_lload C at_165 (pc' := 167) rfl rfl ?_
          refine go_lcmp C x1.toInt x1.toInt rfl rfl at_167 (pc1 := 168) rfl at_168 (by decide) (pc' := 175) (by decide) (pcN := 171) rfl (fun (c_961 : ¬ x1.toInt = x1.toInt) => by omega) (fun (c_961 : x1.toInt = x1.toInt) => ?_)
          refine go_iconst C (1 : Int32) at_171 (pc' := 172) rfl (by decide) ?_
          refine go_goto C at_172 (by decide) (pc' := 176) (by decide) ?_
          refine go_istore C (Ls' := #[.val (.int x0), .val (.long x1), .second, .val (.long x2), .second, .val (.long x3), .second, .val (.long x4), .second, .val (.long x5), .second, .val (.int (3 : Int32)), .val (.int (0 : Int32)), .val (.int (1 : Int32)), .val (.long win), .second, .val (.long (4 : Int64)), .second, .val (.ref a_920), .val (.long x1), .second, .val (.int (1 : Int32)), .val (.int (0 : Int32))]) at_176 (pc' := 178) rfl rfl ?_
          refine go_aload C at_178 (pc' := 180) rfl rfl rfl ?_
          refine go_lload C at_180 (pc' := 182) rfl rfl ?_
          refine go_lload C at_182 (pc' := 184) rfl rfl ?_
          refine go_virtualN C (as := [.long x3, .long (4 : Int64)]) (rest := []) (W := 0) (sat_add_3_0_1 l Z a0 hw a_920 r_941 x1 (0 : Int64) (0 : Int64) x3 (4 : Int64) _ _ E_953 F_954 F_955 F_956 A_957 g_925 g_942) E_953 (wd hw 19 rfl) (wd hw 20 rfl) (wd hw 22 rfl) (wd hw 21 rfl) (wd hw 4 rfl) (wd hw 23 rfl) (by decide) pd_3 rfl rfl rfl (by decide) (by decide) (ce' := 2) (sl' := 10) rfl rfl (by decide) (by decide) at_184 (pc' := 187) rfl rfl ?_
          intro h_962 q_963
          obtain ⟨r_964, g_965, E_966, F_967, F_968, F_969, A_970⟩ := q_963
          refine go_lload C at_187 (pc' := 189) rfl rfl ?_
          refine go_lstore C (Ls' := #[.val (.int x0), .val (.long x1), .second, .val (.long x2), .second, .val (.long x3), .second, .val (.long x4), .second, .val (.long x5), .second, .val (.int (3 : Int32)), .val (.int (0 : Int32)), .val (.int (1 : Int32)), .val (.long win), .second, .val (.long (4 : Int64)), .second, .val (.ref a_920), .val (.long x3), .second, .val (.int (1 : Int32)), .val (.int (0 : Int32))]) at_189 (pc' := 191) rfl rfl ?_
          refine go_iload C at_191 (pc' := 193) rfl rfl ?_
          refine go_if0 C (1 : Int) (by decide) at_193 (by decide) (pc' := 209) (by decide) (pcN := 196) rfl (fun (c_971 : (1 : Int) = 0) => by omega) (fun (c_971 : ¬ (1 : Int) = 0) => ?_)
          refine go_aload C at_196 (pc' := 198) rfl rfl rfl ?_
          refine go_lload C at_198 (pc' := 200) rfl rfl ?_
          refine go_lload C at_200 (pc' := 202) rfl rfl ?_
          refine go_virtualN C (as := [.long x4, .long (4 : Int64)]) (rest := []) (W := 0) (sat_add_3_0_2 l Z a0 hw a_920 r_964 x1 x3 (0 : Int64) x4 (4 : Int64) _ _ E_966 F_967 F_968 F_969 A_970 g_925 g_965) E_966 (wd hw 19 rfl) (wd hw 20 rfl) (wd hw 22 rfl) (wd hw 21 rfl) (wd hw 4 rfl) (wd hw 23 rfl) (by decide) pd_3 rfl rfl rfl (by decide) (by decide) (ce' := 2) (sl' := 10) rfl rfl (by decide) (by decide) at_202 (pc' := 205) rfl rfl ?_
          intro h_972 q_973
          obtain ⟨r_974, g_975, E_976, F_977, F_978, F_979, A_980⟩ := q_973
          refine go_lload C at_205 (pc' := 207) rfl rfl ?_
          refine go_lstore C (Ls' := #[.val (.int x0), .val (.long x1), .second, .val (.long x2), .second, .val (.long x3), .second, .val (.long x4), .second, .val (.long x5), .second, .val (.int (3 : Int32)), .val (.int (0 : Int32)), .val (.int (1 : Int32)), .val (.long win), .second, .val (.long (4 : Int64)), .second, .val (.ref a_920), .val (.long x4), .second, .val (.int (1 : Int32)), .val (.int (0 : Int32))]) at_207 (pc' := 209) rfl rfl ?_
          refine go_iload C at_209 (pc' := 211) rfl rfl ?_
          refine go_if0 C (1 : Int) (by decide) at_211 (by decide) (pc' := 229) (by decide) (pcN := 214) rfl (fun (c_981 : (1 : Int) = 0) => by omega) (fun (c_981 : ¬ (1 : Int) = 0) => ?_)
          refine go_aload C at_214 (pc' := 216) rfl rfl rfl ?_
          refine go_virtualP C (as := []) (rest := []) (W := 0) (.long x4) (sat_new_3_0_3 l Z a0 hw a_920 r_974 x1 x3 x4 _ _ E_976 F_977 F_978 F_979 A_980 g_925 g_975) E_976 (wd hw 32 rfl) (wd hw 33 rfl) (wd hw 35 rfl) (wd hw 34 rfl) (wd hw 4 rfl) (wd hw 36 rfl) (by decide) pd_5 rfl rfl rfl (by decide) (by decide) rfl rfl (by decide) (by decide) at_216 (pc' := 219) rfl rfl ?_
          refine go_lload C at_219 (pc' := 221) rfl rfl ?_
          refine go_lcmp C x4.toInt x4.toInt rfl rfl at_221 (pc1 := 222) rfl at_222 (by decide) (pc' := 229) (by decide) (pcN := 225) rfl (fun (c_982 : ¬ x4.toInt = x4.toInt) => by omega) (fun (c_982 : x4.toInt = x4.toInt) => ?_)
          refine go_iconst C (1 : Int32) at_225 (pc' := 226) rfl (by decide) ?_
          refine go_goto C at_226 (by decide) (pc' := 230) (by decide) ?_
          refine go_istore C (Ls' := #[.val (.int x0), .val (.long x1), .second, .val (.long x2), .second, .val (.long x3), .second, .val (.long x4), .second, .val (.long x5), .second, .val (.int (3 : Int32)), .val (.int (0 : Int32)), .val (.int (1 : Int32)), .val (.long win), .second, .val (.long (4 : Int64)), .second, .val (.ref a_920), .val (.long x4), .second, .val (.int (1 : Int32)), .val (.int (0 : Int32))]) at_230 (pc' := 232) rfl rfl ?_
          refine go_iload C at_232 (pc' := 234) rfl rfl ?_
          refine go_ireturnN C (z' := (1 : Int32)) rfl (by simp) rfl at_234 (by decide) (by decide) ?_
          exact ⟨_, rfl, rfl⟩
        · skip
          obtain ⟨hc_983, E_984, F_985, F_986, F_987, A_988⟩ := q_951
          refine go_lload C at_118 (pc' := 120) rfl rfl ?_
          refine go_lloadN C at_120 (pc' := 121) rfl rfl ?_
          refine go_lsub C at_121 (pc' := 122) rfl ?_
          refine go_lload C at_122 (pc' := 124) rfl rfl ?_
          refine go_lcmp C ((x5 - x1).toInt) win.toInt rfl rfl at_124 (pc1 := 125) rfl at_125 (by decide) (pc' := 147) (by decide) (pcN := 128) rfl (fun (c_989 : ((x5 - x1).toInt) < win.toInt) => by omega) (fun (c_989 : ¬ ((x5 - x1).toInt) < win.toInt) => ?_)
          refine go_iload C at_128 (pc' := 130) rfl rfl ?_
          refine go_if0 C (0 : Int) (by decide) at_130 (by decide) (pc' := 143) (by decide) (pcN := 133) rfl (fun (c_990 : (0 : Int) = 0) => ?_) (fun (c_990 : ¬ (0 : Int) = 0) => by omega)
          refine go_iconst C (1 : Int32) at_143 (pc' := 144) rfl (by decide) ?_
          refine go_goto C at_144 (by decide) (pc' := 148) (by decide) ?_
          refine go_istore C (Ls' := #[.val (.int x0), .val (.long x1), .second, .val (.long x2), .second, .val (.long x3), .second, .val (.long x4), .second, .val (.long x5), .second, .val (.int (3 : Int32)), .val (.int (0 : Int32)), .val (.int (1 : Int32)), .val (.long win), .second, .val (.long (4 : Int64)), .second, .val (.ref a_920), .val (.long x1), .second, .val (.int (1 : Int32)), .val (.int (1 : Int32))]) at_148 (pc' := 150) rfl rfl ?_
          refine go_iload C at_150 (pc' := 152) rfl rfl ?_
          refine go_if0 C (1 : Int) (by decide) at_152 (by decide) (pc' := 178) (by decide) (pcN := 155) rfl (fun (c_991 : ¬ (1 : Int) = 0) => ?_) (fun (c_991 : (1 : Int) = 0) => by omega)
          refine go_aload C at_178 (pc' := 180) rfl rfl rfl ?_
          refine go_lload C at_180 (pc' := 182) rfl rfl ?_
          refine go_lload C at_182 (pc' := 184) rfl rfl ?_
          refine go_virtualN C (as := [.long x3, .long (4 : Int64)]) (rest := []) (W := 0) (sat_add_3_1_0 l Z a0 hw a_920 r_941 x1 (0 : Int64) (0 : Int64) x3 (4 : Int64) _ _ E_984 F_985 F_986 F_987 A_988 g_925 g_942) E_984 (wd hw 19 rfl) (wd hw 20 rfl) (wd hw 22 rfl) (wd hw 21 rfl) (wd hw 4 rfl) (wd hw 23 rfl) (by decide) pd_3 rfl rfl rfl (by decide) (by decide) (ce' := 2) (sl' := 10) rfl rfl (by decide) (by decide) at_184 (pc' := 187) rfl rfl ?_
          intro h_992 q_993
          obtain ⟨r_994, g_995, E_996, F_997, F_998, F_999, A_1000⟩ := q_993
          refine go_lload C at_187 (pc' := 189) rfl rfl ?_
          refine go_lstore C (Ls' := #[.val (.int x0), .val (.long x1), .second, .val (.long x2), .second, .val (.long x3), .second, .val (.long x4), .second, .val (.long x5), .second, .val (.int (3 : Int32)), .val (.int (0 : Int32)), .val (.int (1 : Int32)), .val (.long win), .second, .val (.long (4 : Int64)), .second, .val (.ref a_920), .val (.long x3), .second, .val (.int (1 : Int32)), .val (.int (1 : Int32))]) at_189 (pc' := 191) rfl rfl ?_
          refine go_iload C at_191 (pc' := 193) rfl rfl ?_
          refine go_if0 C (1 : Int) (by decide) at_193 (by decide) (pc' := 209) (by decide) (pcN := 196) rfl (fun (c_1001 : (1 : Int) = 0) => by omega) (fun (c_1001 : ¬ (1 : Int) = 0) => ?_)
          refine go_aload C at_196 (pc' := 198) rfl rfl rfl ?_
          refine go_lload C at_198 (pc' := 200) rfl rfl ?_
          refine go_lload C at_200 (pc' := 202) rfl rfl ?_
          refine go_virtualN C (as := [.long x4, .long (4 : Int64)]) (rest := []) (W := 0) (sat_add_3_1_1 l Z a0 hw a_920 r_994 x1 x3 (0 : Int64) x4 (4 : Int64) _ _ E_996 F_997 F_998 F_999 A_1000 g_925 g_995) E_996 (wd hw 19 rfl) (wd hw 20 rfl) (wd hw 22 rfl) (wd hw 21 rfl) (wd hw 4 rfl) (wd hw 23 rfl) (by decide) pd_3 rfl rfl rfl (by decide) (by decide) (ce' := 2) (sl' := 10) rfl rfl (by decide) (by decide) at_202 (pc' := 205) rfl rfl ?_
          intro h_1002 q_1003
          obtain ⟨r_1004, g_1005, E_1006, F_1007, F_1008, F_1009, A_1010⟩ := q_1003
          refine go_lload C at_205 (pc' := 207) rfl rfl ?_
          refine go_lstore C (Ls' := #[.val (.int x0), .val (.long x1), .second, .val (.long x2), .second, .val (.long x3), .second, .val (.long x4), .second, .val (.long x5), .second, .val (.int (3 : Int32)), .val (.int (0 : Int32)), .val (.int (1 : Int32)), .val (.long win), .second, .val (.long (4 : Int64)), .second, .val (.ref a_920), .val (.long x4), .second, .val (.int (1 : Int32)), .val (.int (1 : Int32))]) at_207 (pc' := 209) rfl rfl ?_
          refine go_iload C at_209 (pc' := 211) rfl rfl ?_
          refine go_if0 C (1 : Int) (by decide) at_211 (by decide) (pc' := 229) (by decide) (pcN := 214) rfl (fun (c_1011 : (1 : Int) = 0) => by omega) (fun (c_1011 : ¬ (1 : Int) = 0) => ?_)
          refine go_aload C at_214 (pc' := 216) rfl rfl rfl ?_
          refine go_virtualP C (as := []) (rest := []) (W := 0) (.long x4) (sat_new_3_1_2 l Z a0 hw a_920 r_1004 x1 x3 x4 _ _ E_1006 F_1007 F_1008 F_1009 A_1010 g_925 g_1005) E_1006 (wd hw 32 rfl) (wd hw 33 rfl) (wd hw 35 rfl) (wd hw 34 rfl) (wd hw 4 rfl) (wd hw 36 rfl) (by decide) pd_5 rfl rfl rfl (by decide) (by decide) rfl rfl (by decide) (by decide) at_216 (pc' := 219) rfl rfl ?_
          refine go_lload C at_219 (pc' := 221) rfl rfl ?_
          refine go_lcmp C x4.toInt x4.toInt rfl rfl at_221 (pc1 := 222) rfl at_222 (by decide) (pc' := 229) (by decide) (pcN := 225) rfl (fun (c_1012 : ¬ x4.toInt = x4.toInt) => by omega) (fun (c_1012 : x4.toInt = x4.toInt) => ?_)
          refine go_iconst C (1 : Int32) at_225 (pc' := 226) rfl (by decide) ?_
          refine go_goto C at_226 (by decide) (pc' := 230) (by decide) ?_
          refine go_istore C (Ls' := #[.val (.int x0), .val (.long x1), .second, .val (.long x2), .second, .val (.long x3), .second, .val (.long x4), .second, .val (.long x5), .second, .val (.int (3 : Int32)), .val (.int (0 : Int32)), .val (.int (1 : Int32)), .val (.long win), .second, .val (.long (4 : Int64)), .second, .val (.ref a_920), .val (.long x4), .second, .val (.int (1 : Int32)), .val (.int (1 : Int32))]) at_230 (pc' := 232) rfl rfl ?_
          refine go_iload C at_232 (pc' := 234) rfl rfl ?_
          refine go_ireturnN C (z' := (1 : Int32)) rfl (by simp) rfl at_234 (by decide) (by decide) ?_
          exact ⟨_, rfl, rfl⟩
    · skip
      refine go_iconst C (1 : Int32) at_15 (pc' := 16) rfl (by decide) ?_
      refine go_goto C at_16 (by decide) (pc' := 20) (by decide) ?_
      refine go_istore C (Ls' := #[.val (.int x0), .val (.long x1), .second, .val (.long x2), .second, .val (.long x3), .second, .val (.long x4), .second, .val (.long x5), .second, .val (.int (3 : Int32)), .val (.int (1 : Int32)), .unset, .unset, .unset, .unset, .unset, .unset, .unset, .unset, .unset, .unset]) at_20 (pc' := 22) rfl rfl ?_
      refine go_iloadN C at_22 (pc' := 23) rfl rfl ?_
      refine go_iconst C (3 : Int32) at_23 (pc' := 24) rfl (by decide) ?_
      refine go_iushr C at_24 (pc' := 25) rfl ?_
      refine go_iconst C (1 : Int32) at_25 (pc' := 26) rfl (by decide) ?_
      refine go_iand C at_26 (pc' := 27) rfl ?_
      refine go_if0 C (((XT.ushr x0 (3 : Int32)) &&& (1 : Int32)).toInt) rfl at_27 (by decide) (pc' := 34) (by decide) (pcN := 30) rfl (fun (c_1013 : (((XT.ushr x0 (3 : Int32)) &&& (1 : Int32)).toInt) = 0) => ?_) (fun (c_1013 : ¬ (((XT.ushr x0 (3 : Int32)) &&& (1 : Int32)).toInt) = 0) => ?_)
      · skip
        refine go_iconst C (0 : Int32) at_34 (pc' := 35) rfl (by decide) ?_
        refine go_istore C (Ls' := #[.val (.int x0), .val (.long x1), .second, .val (.long x2), .second, .val (.long x3), .second, .val (.long x4), .second, .val (.long x5), .second, .val (.int (3 : Int32)), .val (.int (1 : Int32)), .val (.int (0 : Int32)), .unset, .unset, .unset, .unset, .unset, .unset, .unset, .unset, .unset]) at_35 (pc' := 37) rfl rfl ?_
        refine go_lconst C (1 : Int64) at_37 (pc' := 38) rfl (by decide) ?_
        refine go_iloadN C at_38 (pc' := 39) rfl rfl ?_
        refine go_iconst C (4 : Int32) at_39 (pc' := 40) rfl (by decide) ?_
        refine go_iushr C at_40 (pc' := 41) rfl ?_
        refine go_ldc C (v := (65535 : Int32)) (wd hw 0 rfl) at_41 (pc' := 43) rfl ?_
        refine go_iand C at_43 (pc' := 44) rfl ?_
        refine go_i2l C at_44 (pc' := 45) rfl ?_
        refine go_ladd C at_45 (pc' := 46) rfl ?_
        refine go_lstore C (Ls' := #[.val (.int x0), .val (.long x1), .second, .val (.long x2), .second, .val (.long x3), .second, .val (.long x4), .second, .val (.long x5), .second, .val (.int (3 : Int32)), .val (.int (1 : Int32)), .val (.int (0 : Int32)), .val (.long ((1 : Int64) + (((XT.ushr x0 (4 : Int32)) &&& (65535 : Int32)).toInt64))), .second, .unset, .unset, .unset, .unset, .unset, .unset, .unset]) at_46 (pc' := 48) rfl rfl ?_
        refine go_ldc2 C (v := (4 : Int64)) (wd hw 1 rfl) at_48 (pc' := 51) rfl ?_
        refine go_lstore C (Ls' := #[.val (.int x0), .val (.long x1), .second, .val (.long x2), .second, .val (.long x3), .second, .val (.long x4), .second, .val (.long x5), .second, .val (.int (3 : Int32)), .val (.int (1 : Int32)), .val (.int (0 : Int32)), .val (.long ((1 : Int64) + (((XT.ushr x0 (4 : Int32)) &&& (65535 : Int32)).toInt64))), .second, .val (.long (4 : Int64)), .second, .unset, .unset, .unset, .unset, .unset]) at_51 (pc' := 53) rfl rfl ?_
        generalize (1 : Int64) + (((XT.ushr x0 (4 : Int32)) &&& (65535 : Int32)).toInt64) = win
        refine go_new C (wd hw 2 rfl) (wd hw 3 rfl) (wd hw 4 rfl) at_53 (pc' := 56) rfl (ce' := 1) (sl' := 7) rfl rfl (by decide) (by decide) ?_
        intro h_1014 a_1015 g_1016 E_1017 E_1018 D_1019
        have g_1020 : Z.heap.size ≤ a_1015 := own_ge (Nat.le_refl _) g_1016
        have z_1021 : Z.heap.size ≤ h_1014.size := Nat.le_trans (Nat.le_refl _) E_1017.1
        have F_1022 : Fld Z h_1014 a_1015 "com/example/throttld/throttld/SlidingLog$Log" "ring" "[J" (.null) := D_1019 (Or.inl (wd hw 18 rfl)) (ty := (.array .long)) (by decide)
        have F_1023 : Fld Z h_1014 a_1015 "com/example/throttld/throttld/SlidingLog$Log" "count" "I" (.int (0 : Int32)) := D_1019 (Or.inl (wd hw 25 rfl)) (ty := .int) (by decide)
        have F_1024 : Fld Z h_1014 a_1015 "com/example/throttld/throttld/SlidingLog$Log" "head" "I" (.int (0 : Int32)) := D_1019 (Or.inl (wd hw 31 rfl)) (ty := .int) (by decide)
        refine go_dup C at_56 (pc' := 57) rfl rfl ?_
        refine go_iload C at_57 (pc' := 59) rfl rfl ?_
        refine go_specialN C (as := [.int (3 : Int32)]) (rest := [.ref a_1015]) (W := 1) (sat_init3 l Z a0 hw a_1015 _ _ E_1018 F_1022 F_1024 F_1023 g_1020 z_1021) rfl (wd hw 5 rfl) (wd hw 6 rfl) (wd hw 4 rfl) (wd hw 7 rfl) (by decide) pd_1 rfl rfl rfl (by decide) (by decide) (ce' := 2) (sl' := 10) rfl rfl (by decide) (by decide) at_59 (pc' := 62) rfl rfl ?_
        intro h_1025 q_1026
        obtain ⟨r_1027, g_1028, E_1029, F_1030, F_1031, F_1032, A_1033⟩ := q_1026
        refine go_astore C (Ls' := #[.val (.int x0), .val (.long x1), .second, .val (.long x2), .second, .val (.long x3), .second, .val (.long x4), .second, .val (.long x5), .second, .val (.int (3 : Int32)), .val (.int (1 : Int32)), .val (.int (0 : Int32)), .val (.long win), .second, .val (.long (4 : Int64)), .second, .val (.ref a_1015), .unset, .unset, .unset, .unset]) at_62 (pc' := 64) rfl rfl rfl ?_
        refine go_aload C at_64 (pc' := 66) rfl rfl rfl ?_
        refine go_lloadN C at_66 (pc' := 67) rfl rfl ?_
        refine go_lload C at_67 (pc' := 69) rfl rfl ?_
        refine go_virtualN C (as := [.long x1, .long (4 : Int64)]) (rest := []) (W := 0) (sat_add_3_0_0 l Z a0 hw a_1015 r_1027 (0 : Int64) (0 : Int64) (0 : Int64) x1 (4 : Int64) _ _ E_1029 F_1030 F_1031 F_1032 A_1033 g_1020 g_1028) E_1029 (wd hw 19 rfl) (wd hw 20 rfl) (wd hw 22 rfl) (wd hw 21 rfl) (wd hw 4 rfl) (wd hw 23 rfl) (by decide) pd_3 rfl rfl rfl (by decide) (by decide) (ce' := 2) (sl' := 10) rfl rfl (by decide) (by decide) at_69 (pc' := 72) rfl rfl ?_
        intro h_1034 q_1035
        obtain ⟨r_1036, g_1037, E_1038, F_1039, F_1040, F_1041, A_1042⟩ := q_1035
        refine go_lloadN C at_72 (pc' := 73) rfl rfl ?_
        refine go_lstore C (Ls' := #[.val (.int x0), .val (.long x1), .second, .val (.long x2), .second, .val (.long x3), .second, .val (.long x4), .second, .val (.long x5), .second, .val (.int (3 : Int32)), .val (.int (1 : Int32)), .val (.int (0 : Int32)), .val (.long win), .second, .val (.long (4 : Int64)), .second, .val (.ref a_1015), .val (.long x1), .second, .unset, .unset]) at_73 (pc' := 75) rfl rfl ?_
        refine go_iload C at_75 (pc' := 77) rfl rfl ?_
        refine go_if0 C (1 : Int) (by decide) at_77 (by decide) (pc' := 91) (by decide) (pcN := 80) rfl (fun (c_1043 : (1 : Int) = 0) => by omega) (fun (c_1043 : ¬ (1 : Int) = 0) => ?_)
        refine go_aload C at_80 (pc' := 82) rfl rfl rfl ?_
        refine go_lloadN C at_82 (pc' := 83) rfl rfl ?_
        refine go_lload C at_83 (pc' := 85) rfl rfl ?_
        refine go_virtualN C (as := [.long x2, .long (4 : Int64)]) (rest := []) (W := 0) (sat_add_3_0_1 l Z a0 hw a_1015 r_1036 x1 (0 : Int64) (0 : Int64) x2 (4 : Int64) _ _ E_1038 F_1039 F_1040 F_1041 A_1042 g_1020 g_1037) E_1038 (wd hw 19 rfl) (wd hw 20 rfl) (wd hw 22 rfl) (wd hw 21 rfl) (wd hw 4 rfl) (wd hw 23 rfl) (by decide) pd_3 rfl rfl rfl (by decide) (by decide) (ce' := 2) (sl' := 10) rfl rfl (by decide) (by decide) at_85 (pc' := 88) rfl rfl ?_
        intro h_1044 q_1045
        obtain ⟨r_1046, g_1047, E_1048, F_1049, F_1050, F_1051, A_1052⟩ := q_1045
        refine go_lloadN C at_88 (pc' := 89) rfl rfl ?_
        refine go_lstore C (Ls' := #[.val (.int x0), .val (.long x1), .second, .val (.long x2), .second, .val (.long x3), .second, .val (.long x4), .second, .val (.long x5), .second, .val (.int (3 : Int32)), .val (.int (1 : Int32)), .val (.int (0 : Int32)), .val (.long win), .second, .val (.long (4 : Int64)), .second, .val (.ref a_1015), .val (.long x2), .second, .unset, .unset]) at_89 (pc' := 91) rfl rfl ?_
        refine go_aload C at_91 (pc' := 93) rfl rfl rfl ?_
        refine go_virtualP C (as := []) (rest := []) (W := 0) (.long x2) (sat_new_3_0_2 l Z a0 hw a_1015 r_1046 x1 x2 (0 : Int64) _ _ E_1048 F_1049 F_1050 F_1051 A_1052 g_1020 g_1047) E_1048 (wd hw 32 rfl) (wd hw 33 rfl) (wd hw 35 rfl) (wd hw 34 rfl) (wd hw 4 rfl) (wd hw 36 rfl) (by decide) pd_5 rfl rfl rfl (by decide) (by decide) rfl rfl (by decide) (by decide) at_93 (pc' := 96) rfl rfl ?_
        refine go_lload C at_96 (pc' := 98) rfl rfl ?_
        refine go_lcmp C x2.toInt x2.toInt rfl rfl at_98 (pc1 := 99) rfl at_99 (by decide) (pc' := 106) (by decide) (pcN := 102) rfl (fun (c_1053 : ¬ x2.toInt = x2.toInt) => by omega) (fun (c_1053 : x2.toInt = x2.toInt) => ?_)
        refine go_iconst C (1 : Int32) at_102 (pc' := 103) rfl (by decide) ?_
        refine go_goto C at_103 (by decide) (pc' := 107) (by decide) ?_
        refine go_istore C (Ls' := #[.val (.int x0), .val (.long x1), .second, .val (.long x2), .second, .val (.long x3), .second, .val (.long x4), .second, .val (.long x5), .second, .val (.int (3 : Int32)), .val (.int (1 : Int32)), .val (.int (0 : Int32)), .val (.long win), .second, .val (.long (4 : Int64)), .second, .val (.ref a_1015), .val (.long x2), .second, .val (.int (1 : Int32)), .unset]) at_107 (pc' := 109) rfl rfl ?_
        refine go_aload C at_109 (pc' := 111) rfl rfl rfl ?_
        refine go_lload C at_111 (pc' := 113) rfl rfl ?_
        refine go_lload C at_113 (pc' := 115) rfl rfl ?_
        refine go_virtualN C (as := [.long x5, .long win]) (rest := []) (W := 0) (sat_drop_3_0_2 l Z a0 hw a_1015 r_1046 x1 x2 (0 : Int64) x5 win _ _ E_1048 F_1049 F_1050 F_1051 A_1052 g_1020 g_1047) E_1048 (wd hw 37 rfl) (wd hw 38 rfl) (wd hw 40 rfl) (wd hw 39 rfl) (wd hw 4 rfl) (wd hw 41 rfl) (by decide) pd_3 rfl rfl rfl (by decide) (by decide) (ce' := 2) (sl' := 10) rfl rfl (by decide) (by decide) at_115 (pc' := 118) rfl rfl ?_
        intro h_1054 q_1055
        rcases q_1055 with q_1055 | q_1055 | q_1055
        · skip
          obtain ⟨hc_1056, E_1057, F_1058, F_1059, F_1060, A_1061⟩ := q_1055
          refine go_lload C at_118 (pc' := 120) rfl rfl ?_
          refine go_lloadN C at_120 (pc' := 121) rfl rfl ?_
          refine go_lsub C at_121 (pc' := 122) rfl ?_
          refine go_lload C at_122 (pc' := 124) rfl rfl ?_
          refine go_lcmp C ((x5 - x1).toInt) win.toInt rfl rfl at_124 (pc1 := 125) rfl at_125 (by decide) (pc' := 147) (by decide) (pcN := 128) rfl (fun (c_1062 : ((x5 - x1).toInt) < win.toInt) => ?_) (fun (c_1062 : ¬ ((x5 - x1).toInt) < win.toInt) => by omega)
          refine go_iconst C (0 : Int32) at_147 (pc' := 148) rfl (by decide) ?_
          refine go_istore C (Ls' := #[.val (.int x0), .val (.long x1), .second, .val (.long x2), .second, .val (.long x3), .second, .val (.long x4), .second, .val (.long x5), .second, .val (.int (3 : Int32)), .val (.int (1 : Int32)), .val (.int (0 : Int32)), .val (.long win), .second, .val (.long (4 : Int64)), .second, .val (.ref a_1015), .val (.long x2), .second, .val (.int (1 : Int32)), .val (.int (0 : Int32))]) at_148 (pc' := 150) rfl rfl ?_
          refine go_iload C at_150 (pc' := 152) rfl rfl ?_
          refine go_if0 C (0 : Int) (by decide) at_152 (by decide) (pc' := 178) (by decide) (pcN := 155) rfl (fun (c_1063 : ¬ (0 : Int) = 0) => by omega) (fun (c_1063 : (0 : Int) = 0) => ?_)
          refine go_iload C at_155 (pc' := 157) rfl rfl ?_
          refine go_if0 C (1 : Int) (by decide) at_157 (by decide) (pc' := 175) (by decide) (pcN := 160) rfl (fun (c_1064 : (1 : Int) = 0) => by omega) (fun (c_1064 : ¬ (1 : Int) = 0) => ?_)
          refine go_aload C at_160 (pc' := 162) rfl rfl rfl ?_
          refine go_virtualP C (as := []) (rest := []) (W := 0) (.long x2) (sat_new_3_0_2 l Z a0 hw a_1015 r_1046 x1 x2 (0 : Int64) _ _ E_1057 F_1058 F_1059 F_1060 A_1061 g_1020 g_1047) E_1057 (wd hw 32 rfl) (wd hw 33 rfl) (wd hw 35 rfl) (wd hw 34 rfl) (wd hw 4 rfl) (wd hw 36 rfl) (by decide) pd_5 rfl rfl rfl (by decide) (by decide) rfl rfl (by decide) (by decide) at_162 (pc' := 165) rfl rfl ?_
          refine go_lload C at_165 (pc' := 167) rfl rfl ?_
          refine go_lcmp C x2.toInt x2.toInt rfl rfl at_167 (pc1 := 168) rfl at_168 (by decide) (pc' := 175) (by decide) (pcN := 171) rfl (fun (c_1065 : ¬ x2.toInt = x2.toInt) => by omega) (fun (c_1065 : x2.toInt = x2.toInt) => ?_)
          refine go_iconst C (1 : Int32) at_171 (pc' := 172) rfl (by decide) ?_
          refine go_goto C at_172 (by decide) (pc' := 176) (by decide) ?_
          refine go_istore C (Ls' := #[.val (.int x0), .val (.long x1), .second, .val (.long x2), .second, .val (.long x3), .second, .val (.long x4), .second, .val (.long x5), .second, .val (.int (3 : Int32)), .val (.int (1 : Int32)), .val (.int (0 : Int32)), .val (.long win), .second, .val (.long (4 : Int64)), .second, .val (.ref a_1015), .val (.long x2), .second, .val (.int (1 : Int32)), .val (.int (0 : Int32))]) at_176 (pc' := 178) rfl rfl ?_
          refine go_aload C at_178 (pc' := 180) rfl rfl rfl ?_
          refine go_lload C at_180 (pc' := 182) rfl rfl ?_
          refine go_lload C at_182 (pc' := 184) rfl rfl ?_
          refine go_virtualN C (as := [.long x3, .long (4 : Int64)]) (rest := []) (W := 0) (sat_add_3_0_2 l Z a0 hw a_1015 r_1046 x1 x2 (0 : Int64) x3 (4 : Int64) _ _ E_1057 F_1058 F_1059 F_1060 A_1061 g_1020 g_1047) E_1057 (wd hw 19 rfl) (wd hw 20 rfl) (wd hw 22 rfl) (wd hw 21 rfl) (wd hw 4 rfl) (wd hw 23 rfl) (by decide) pd_3 rfl rfl rfl (by decide) (by decide) (ce' := 2) (sl' := 10) rfl rfl (by decide) (by decide) at_184 (pc' := 187) rfl rfl ?_
          intro h_1066 q_1067
          obtain ⟨r_1068, g_1069, E_1070, F_1071, F_1072, F_1073, A_1074⟩ := q_1067
          refine go_lload C at_187 (pc' := 189) rfl rfl ?_
          refine go_lstore C (Ls' := #[.val (.int x0), .val (.long x1), .second, .val (.long x2), .second, .val (.long x3), .second, .val (.long x4), .second, .val (.long x5), .second, .val (.int (3 : Int32)), .val (.int (1 : Int32)), .val (.int (0 : Int32)), .val (.long win), .second, .val (.long (4 : Int64)), .second, .val (.ref a_1015), .val (.long x3), .second, .val (.int (1 : Int32)), .val (.int (0 : Int32))]) at_189 (pc' := 191) rfl rfl ?_
          refine go_iload C at_191 (pc' := 193) rfl rfl ?_
          refine go_if0 C (0 : Int) (by decide) at_193 (by decide) (pc' := 209) (by decide) (pcN := 196) rfl (fun (c_1075 : (0 : Int) = 0) => ?_) (fun (c_1075 : ¬ (0 : Int) = 0) => by omega)
          refine go_iload C at_209 (pc' := 211) rfl rfl ?_
          refine go_if0 C (1 : Int) (by decide) at_211 (by decide) (pc' := 229) (by decide) (pcN := 214) rfl (fun (c_1076 : (1 : Int) = 0) => by omega) (fun (c_1076 : ¬ (1 : Int) = 0) => ?_)
          refine go_aload C at_214 (pc' := 216) rfl rfl rfl ?_
          refine go_virtualP C (as := []) (rest := []) (W := 0) (.long x3) (sat_new_3_0_3 l Z a0 hw a_1015 r_1068 x1 x2 x3 _ _ E_1070 F_1071 F_1072 F_1073 A_1074 g_1020 g_1069) E_1070 (wd hw 32 rfl) (wd hw 33 rfl) (wd hw 35 rfl) (wd hw 34 rfl) (wd hw 4 rfl) (wd hw 36 rfl) (by decide) pd_5 rfl rfl rfl (by decide) (by decide) rfl rfl (by decide) (by decide) at_216 (pc' := 219) rfl rfl ?_
          refine go_lload C at_219 (pc' := 221) rfl rfl ?_
          refine go_lcmp C x3.toInt x3.toInt rfl rfl at_221 (pc1 := 222) rfl at_222 (by decide) (pc' := 229) (by decide) (pcN := 225) rfl (fun (c_1077 : ¬ x3.toInt = x3.toInt) => by omega) (fun (c_1077 : x3.toInt = x3.toInt) => ?_)
          refine go_iconst C (1 : Int32) at_225 (pc' := 226) rfl (by decide) ?_
          refine go_goto C at_226 (by decide) (pc' := 230) (by decide) ?_
          refine go_istore C (Ls' := #[.val (.int x0), .val (.long x1), .second, .val (.long x2), .second, .val (.long x3), .second, .val (.long x4), .second, .val (.long x5), .second, .val (.int (3 : Int32)), .val (.int (1 : Int32)), .val (.int (0 : Int32)), .val (.long win), .second, .val (.long (4 : Int64)), .second, .val (.ref a_1015), .val (.long x3), .second, .val (.int (1 : Int32)), .val (.int (0 : Int32))]) at_230 (pc' := 232) rfl rfl ?_
          refine go_iload C at_232 (pc' := 234) rfl rfl ?_
          refine go_ireturnN C (z' := (1 : Int32)) rfl (by simp) rfl at_234 (by decide) (by decide) ?_
          exact ⟨_, rfl, rfl⟩
        · skip
          obtain ⟨hc_1078, E_1079, F_1080, F_1081, F_1082, A_1083⟩ := q_1055
          refine go_lload C at_118 (pc' := 120) rfl rfl ?_
          refine go_lloadN C at_120 (pc' := 121) rfl rfl ?_
          refine go_lsub C at_121 (pc' := 122) rfl ?_
          refine go_lload C at_122 (pc' := 124) rfl rfl ?_
          refine go_lcmp C ((x5 - x1).toInt) win.toInt rfl rfl at_124 (pc1 := 125) rfl at_125 (by decide) (pc' := 147) (by decide) (pcN := 128) rfl (fun (c_1084 : ((x5 - x1).toInt) < win.toInt) => by omega) (fun (c_1084 : ¬ ((x5 - x1).toInt) < win.toInt) => ?_)
          refine go_iload C at_128 (pc' := 130) rfl rfl ?_
          refine go_if0 C (1 : Int) (by decide) at_130 (by decide) (pc' := 143) (by decide) (pcN := 133) rfl (fun (c_1085 : (1 : Int) = 0) => by omega) (fun (c_1085 : ¬ (1 : Int) = 0) => ?_)
          refine go_lload C at_133 (pc' := 135) rfl rfl ?_
          refine go_lloadN C at_135 (pc' := 136) rfl rfl ?_
          refine go_lsub C at_136 (pc' := 137) rfl ?_
          refine go_lload C at_137 (pc' := 139) rfl rfl ?_
          refine go_lcmp C ((x5 - x2).toInt) win.toInt rfl rfl at_139 (pc1 := 140) rfl at_140 (by decide) (pc' := 147) (by decide) (pcN := 143) rfl (fun (c_1086 : ((x5 - x2).toInt) < win.toInt) => ?_) (fun (c_1086 : ¬ ((x5 - x2).toInt) < win.toInt) => by omega)
          refine go_iconst C (0 : Int32) at_147 (pc' := 148) rfl (by decide) ?_
          refine go_istore C (Ls' := #[.val (.int x0), .val (.long x1), .second, .val (.long x2), .second, .val (.long x3), .second, .val (.long x4), .second, .val (.long x5), .second, .val (.int (3 : Int32)), .val (.int (1 : Int32)), .val (.int (0 : Int32)), .val (.long win), .second, .val (.long (4 : Int64)), .second, .val (.ref a_1015), .val (.long x2), .second, .val (.int (1 : Int32)), .val (.int (0 : Int32))]) at_148 (pc' := 150) rfl rfl ?_
          refine go_iload C at_150 (pc' := 152) rfl rfl ?_
          refine go_if0 C (0 : Int) (by decide) at_152 (by decide) (pc' := 178) (by decide) (pcN := 155) rfl (fun (c_1087 : ¬ (0 : Int) = 0) => by omega) (fun (c_1087 : (0 : Int) = 0) => ?_)
          refine go_iload C at_155 (pc' := 157) rfl rfl ?_
          refine go_if0 C (1 : Int) (by decide) at_157 (by decide) (pc' := 175) (by decide) (pcN := 160) rfl (fun (c_1088 : (1 : Int) = 0) => by omega) (fun (c_1088 : ¬ (1 : Int) = 0) => ?_)
          refine go_aload C at_160 (pc' := 162) rfl rfl rfl ?_
          refine go_virtualP C (as := []) (rest := []) (W := 0) (.long x2) (sat_new_3_1_1 l Z a0 hw a_1015 r_1046 x1 x2 (0 : Int64) _ _ E_1079 F_1080 F_1081 F_1082 A_1083 g_1020 g_1047) E_1079 (wd hw 32 rfl) (wd hw 33 rfl) (wd hw 35 rfl) (wd hw 34 rfl) (wd hw 4 rfl) (wd hw 36 rfl) (by decide) pd_5 rfl rfl rfl (by decide) (by decide) rfl rfl (by decide) (by decide) at_162 (pc' := 165) rfl rfl ?_
          refine go_lload C at_165 (pc' := 167) rfl rfl ?_
          refine go_lcmp C x2.toInt x2.toInt rfl rfl at_167 (pc1 := 168) rfl at_168 (by decide) (pc' := 175) (by decide) (pcN := 171) rfl (fun (c_1089 : ¬ x2.toInt = x2.toInt) => by omega) (fun (c_1089 : x2.toInt = x2.toInt) => ?_)
          refine go_iconst C (1 : Int32) at_171 (pc' := 172) rfl (by decide) ?_
          refine go_goto C at_172 (by decide) (pc' := 176) (by decide) ?_
          refine go_istore C (Ls' := #[.val (.int x0), .val (.long x1), .second, .val (.long x2), .second, .val (.long x3), .second, .val (.long x4), .second, .val (.long x5), .second, .val (.int (3 : Int32)), .val (.int (1 : Int32)), .val (.int (0 : Int32)), .val (.long win), .second, .val (.long (4 : Int64)), .second, .val (.ref a_1015), .val (.long x2), .second, .val (.int (1 : Int32)), .val (.int (0 : Int32))]) at_176 (pc' := 178) rfl rfl ?_
          refine go_aload C at_178 (pc' := 180) rfl rfl rfl ?_
          refine go_lload C at_180 (pc' := 182) rfl rfl ?_
          refine go_lload C at_182 (pc' := 184) rfl rfl ?_
          refine go_virtualN C (as := [.long x3, .long (4 : Int64)]) (rest := []) (W := 0) (sat_add_3_1_1 l Z a0 hw a_1015 r_1046 x1 x2 (0 : Int64) x3 (4 : Int64) _ _ E_1079 F_1080 F_1081 F_1082 A_1083 g_1020 g_1047) E_1079 (wd hw 19 rfl) (wd hw 20 rfl) (wd hw 22 rfl) (wd hw 21 rfl) (wd hw 4 rfl) (wd hw 23 rfl) (by decide) pd_3 rfl rfl rfl (by decide) (by decide) (ce' := 2) (sl' := 10) rfl rfl (by decide) (by decide) at_184 (pc' := 187) rfl rfl ?_
          intro h_1090 q_1091
          obtain ⟨r_1092, g_1093, E_1094, F_1095, F_1096, F_1097, A_1098⟩ := q_1091
          refine go_lload C at_187 (pc' := 189) rfl rfl ?_
          refine go_lstore C (Ls' := #[.val (.int x0), .val (.long x1), .second, .val (.long x2), .second, .val (.long x3), .second, .val (.long x4), .second, .val (.long x5), .second, .val (.int (3 : Int32)), .val (.int (1 : Int32)), .val (.int (0 : Int32)), .val (.long win), .second, .val (.long (4 : Int64)), .second, .val (.ref a_1015), .val (.long x3), .second, .val (.int (1 : Int32)), .val (.int (0 : Int32))]) at_189 (pc' := 191) rfl rfl ?_
          refine go_iload C at_191 (pc' := 193) rfl rfl ?_
          refine go_if0 C (0 : Int) (by decide) at_193 (by decide) (pc' := 209) (by decide) (pcN := 196) rfl (fun (c_1099 : (0 : Int) = 0) => ?_) (fun (c_1099 : ¬ (0 : Int) = 0) => by omega)
          refine go_iload C at_209 (pc' := 211) rfl rfl ?_
          refine go_if0 C (1 : Int) (by decide) at_211 (by decide) (pc' := 229) (by decide) (pcN := 214) rfl (fun (c_1100 : (1 : Int) = 0) => by omega) (fun (c_1100 : ¬ (1 : Int) = 0) => ?_)
          refine go_aload C at_214 (pc' := 216) rfl rfl rfl ?_
          refine go_virtualP C (as := []) (rest := []) (W := 0) (.long x3) (sat_new_3_1_2 l Z a0 hw a_1015 r_1092 x1 x2 x3 _ _ E_1094 F_1095 F_1096 F_1097 A_1098 g_1020 g_1093) E_1094 (wd hw 32 rfl) (wd hw 33 rfl) (wd hw 35 rfl) (wd hw 34 rfl) (wd hw 4 rfl) (wd hw 36 rfl) (by decide) pd_5 rfl rfl rfl (by decide) (by decide) rfl rfl (by decide) (by decide) at_216 (pc' := 219) rfl rfl ?_
          refine go_lload C at_219 (pc' := 221) rfl rfl ?_
          refine go_lcmp C x3.toInt x3.toInt rfl rfl at_221 (pc1 := 222) rfl at_222 (by decide) (pc' := 229) (by decide) (pcN := 225) rfl (fun (c_1101 : ¬ x3.toInt = x3.toInt) => by omega) (fun (c_1101 : x3.toInt = x3.toInt) => ?_)
          refine go_iconst C (1 : Int32) at_225 (pc' := 226) rfl (by decide) ?_
          refine go_goto C at_226 (by decide) (pc' := 230) (by decide) ?_
          refine go_istore C (Ls' := #[.val (.int x0), .val (.long x1), .second, .val (.long x2), .second, .val (.long x3), .second, .val (.long x4), .second, .val (.long x5), .second, .val (.int (3 : Int32)), .val (.int (1 : Int32)), .val (.int (0 : Int32)), .val (.long win), .second, .val (.long (4 : Int64)), .second, .val (.ref a_1015), .val (.long x3), .second, .val (.int (1 : Int32)), .val (.int (0 : Int32))]) at_230 (pc' := 232) rfl rfl ?_
          refine go_iload C at_232 (pc' := 234) rfl rfl ?_
          refine go_ireturnN C (z' := (1 : Int32)) rfl (by simp) rfl at_234 (by decide) (by decide) ?_
          exact ⟨_, rfl, rfl⟩
        · skip
          obtain ⟨hc_1102, E_1103, F_1104, F_1105, F_1106, A_1107⟩ := q_1055
          refine go_lload C at_118 (pc' := 120) rfl rfl ?_
          refine go_lloadN C at_120 (pc' := 121) rfl rfl ?_
          refine go_lsub C at_121 (pc' := 122) rfl ?_
          refine go_lload C at_122 (pc' := 124) rfl rfl ?_
          refine go_lcmp C ((x5 - x1).toInt) win.toInt rfl rfl at_124 (pc1 := 125) rfl at_125 (by decide) (pc' := 147) (by decide) (pcN := 128) rfl (fun (c_1108 : ((x5 - x1).toInt) < win.toInt) => by omega) (fun (c_1108 : ¬ ((x5 - x1).toInt) < win.toInt) => ?_)
          refine go_iload C at_128 (pc' := 130) rfl rfl ?_
          refine go_if0 C (1 : Int) (by decide) at_130 (by decide) (pc' := 143) (by decide) (pcN := 133) rfl (fun (c_1109 : (1 : Int) = 0) => by omega) (fun (c_1109 : ¬ (1 : Int) = 0) => ?_)
          refine go_lload C at_133 (pc' := 135) rfl rfl ?_
          refine go_lloadN C at_135 (pc' := 136) rfl rfl ?_
          refine go_lsub C at_136 (pc' := 137) rfl ?_
          refine go_lload C at_137 (pc' := 139) rfl rfl ?_
          refine go_lcmp C ((x5 - x2).toInt) win.toInt rfl rfl at_139 (pc1 := 140) rfl at_140 (by decide) (pc' := 147) (by decide) (pcN := 143) rfl (fun (c_1110 : ((x5 - x2).toInt) < win.toInt) => by omega) (fun (c_1110 : ¬ ((x5 - x2).toInt) < win.toInt) => ?_)
          refine go_iconst C (1 : Int32) at_143 (pc' := 144) rfl (by decide) ?_
          refine go_goto C at_144 (by decide) (pc' := 148) (by decide) ?_
          refine go_istore C (Ls' := #[.val (.int x0), .val (.long x1), .second, .val (.long x2), .second, .val (.long x3), .second, .val (.long x4), .second, .val (.long x5), .second, .val (.int (3 : Int32)), .val (.int (1 : Int32)), .val (.int (0 : Int32)), .val (.long win), .second, .val (.long (4 : Int64)), .second, .val (.ref a_1015), .val (.long x2), .second, .val (.int (1 : Int32)), .val (.int (1 : Int32))]) at_148 (pc' := 150) rfl rfl ?_
          refine go_iload C at_150 (pc' := 152) rfl rfl ?_
          refine go_if0 C (1 : Int) (by decide) at_152 (by decide) (pc' := 178) (by decide) (pcN := 155) rfl (fun (c_1111 : ¬ (1 : Int) = 0) => ?_) (fun (c_1111 : (1 : Int) = 0) => by omega)
          refine go_aload C at_178 (pc' := 180) rfl rfl rfl ?_
          refine go_lload C at_180 (pc' := 182) rfl rfl ?_
          refine go_lload C at_182 (pc' := 184) rfl rfl ?_
          refine go_virtualN C (as := [.long x3, .long (4 : Int64)]) (rest := []) (W := 0) (sat_add_3_2_0 l Z a0 hw a_1015 r_1046 x1 x2 (0 : Int64) x3 (4 : Int64) _ _ E_1103 F_1104 F_1105 F_1106 A_1107 g_1020 g_1047) E_1103 (wd hw 19 rfl) (wd hw 20 rfl) (wd hw 22 rfl) (wd hw 21 rfl) (wd hw 4 rfl) (wd hw 23 rfl) (by decide) pd_3 rfl rfl rfl (by decide) (by decide) (ce' := 2) (sl' := 10) rfl rfl (by decide) (by decide) at_184 (pc' := 187) rfl rfl ?_
          intro h_1112 q_1113
          obtain ⟨r_1114, g_1115, E_1116, F_1117, F_1118, F_1119, A_1120⟩ := q_1113
          refine go_lload C at_187 (pc' := 189) rfl rfl ?_
          refine go_lstore C (Ls' := #[.val (.int x0), .val (.long x1), .second, .val (.long x2), .second, .val (.long x3), .second, .val (.long x4), .second, .val (.long x5), .second, .val (.int (3 : Int32)), .val (.int (1 : Int32)), .val (.int (0 : Int32)), .val (.long win), .second, .val (.long (4 : Int64)), .second, .val (.ref a_1015), .val (.long x3), .second, .val (.int (1 : Int32)), .val (.int (1 : Int32))]) at_189 (pc' := 191) rfl rfl ?_
          refine go_iload C at_191 (pc' := 193) rfl rfl ?_
          refine go_if0 C (0 : Int) (by decide) at_193 (by decide) (pc' := 209) (by decide) (pcN := 196) rfl (fun (c_1121 : (0 : Int) = 0) => ?_) (fun (c_1121 : ¬ (0 : Int) = 0) => by omega)
          refine go_iload C at_209 (pc' := 211) rfl rfl ?_
          refine go_if0 C (1 : Int) (by decide) at_211 (by decide) (pc' := 229) (by decide) (pcN := 214) rfl (fun (c_1122 : (1 : Int) = 0) => by omega) (fun (c_1122 : ¬ (1 : Int) = 0) => ?_)
          refine go_aload C at_214 (pc' := 216) rfl rfl rfl ?_
          refine go_virtualP C (as := []) (rest := []) (W := 0) (.long x3) (sat_new_3_2_1 l Z a0 hw a_1015 r_1114 x1 x2 x3 _ _ E_1116 F_1117 F_1118 F_1119 A_1120 g_1020 g_1115) E_1116 (wd hw 32 rfl) (wd hw 33 rfl) (wd hw 35 rfl) (wd hw 34 rfl) (wd hw 4 rfl) (wd hw 36 rfl) (by decide) pd_5 rfl rfl rfl (by decide) (by decide) rfl rfl (by decide) (by decide) at_216 (pc' := 219) rfl rfl ?_
          refine go_lload C at_219 (pc' := 221) rfl rfl ?_
          refine go_lcmp C x3.toInt x3.toInt rfl rfl at_221 (pc1 := 222) rfl at_222 (by decide) (pc' := 229) (by decide) (pcN := 225) rfl (fun (c_1123 : ¬ x3.toInt = x3.toInt) => by omega) (fun (c_1123 : x3.toInt = x3.toInt) => ?_)
          refine go_iconst C (1 : Int32) at_225 (pc' := 226) rfl (by decide) ?_
          refine go_goto C at_226 (by decide) (pc' := 230) (by decide) ?_
          refine go_istore C (Ls' := #[.val (.int x0), .val (.long x1), .second, .val (.long x2), .second, .val (.long x3), .second, .val (.long x4), .second, .val (.long x5), .second, .val (.int (3 : Int32)), .val (.int (1 : Int32)), .val (.int (0 : Int32)), .val (.long win), .second, .val (.long (4 : Int64)), .second, .val (.ref a_1015), .val (.long x3), .second, .val (.int (1 : Int32)), .val (.int (1 : Int32))]) at_230 (pc' := 232) rfl rfl ?_
          refine go_iload C at_232 (pc' := 234) rfl rfl ?_
          refine go_ireturnN C (z' := (1 : Int32)) rfl (by simp) rfl at_234 (by decide) (by decide) ?_
          exact ⟨_, rfl, rfl⟩
      · skip
        refine go_iconst C (1 : Int32) at_30 (pc' := 31) rfl (by decide) ?_
        refine go_goto C at_31 (by decide) (pc' := 35) (by decide) ?_
        refine go_istore C (Ls' := #[.val (.int x0), .val (.long x1), .second, .val (.long x2), .second, .val (.long x3), .second, .val (.long x4), .second, .val (.long x5), .second, .val (.int (3 : Int32)), .val (.int (1 : Int32)), .val (.int (1 : Int32)), .unset, .unset, .unset, .unset, .unset, .unset, .unset, .unset, .unset]) at_35 (pc' := 37) rfl rfl ?_
        refine go_lconst C (1 : Int64) at_37 (pc' := 38) rfl (by decide) ?_
        refine go_iloadN C at_38 (pc' := 39) rfl rfl ?_
        refine go_iconst C (4 : Int32) at_39 (pc' := 40) rfl (by decide) ?_
        refine go_iushr C at_40 (pc' := 41) rfl ?_
        refine go_ldc C (v := (65535 : Int32)) (wd hw 0 rfl) at_41 (pc' := 43) rfl ?_
        refine go_iand C at_43 (pc' := 44) rfl ?_
        refine go_i2l C at_44 (pc' := 45) rfl ?_
        refine go_ladd C at_45 (pc' := 46) rfl ?_
        refine go_lstore C (Ls' := #[.val (.int x0), .val (.long x1), .second, .val (.long x2), .second, .val (.long x3), .second, .val (.long x4), .second, .val (.long x5), .second, .val (.int (3 : Int32)), .val (.int (1 : Int32)), .val (.int (1 : Int32)), .val (.long ((1 : Int64) + (((XT.ushr x0 (4 : Int32)) &&& (65535 : Int32)).toInt64))), .second, .unset, .unset, .unset, .unset, .unset, .unset, .unset]) at_46 (pc' := 48) rfl rfl ?_
        refine go_ldc2 C (v := (4 : Int64)) (wd hw 1 rfl) at_48 (pc' := 51) rfl ?_
        refine go_lstore C (Ls' := #[.val (.int x0), .val (.long x1), .second, .val (.long x2), .second, .val (.long x3), .second, .val (.long x4), .second, .val (.long x5), .second, .val (.int (3 : Int32)), .val (.int (1 : Int32)), .val (.int (1 : Int32)), .val (.long ((1 : Int64) + (((XT.ushr x0 (4 : Int32)) &&& (65535 : Int32)).toInt64))), .second, .val (.long (4 : Int64)), .second, .unset, .unset, .unset, .unset, .unset]) at_51 (pc' := 53) rfl rfl ?_
        generalize (1 : Int64) + (((XT.ushr x0 (4 : Int32)) &&& (65535 : Int32)).toInt64) = win
        refine go_new C (wd hw 2 rfl) (wd hw 3 rfl) (wd hw 4 rfl) at_53 (pc' := 56) rfl (ce' := 1) (sl' := 7) rfl rfl (by decide) (by decide) ?_
        intro h_1124 a_1125 g_1126 E_1127 E_1128 D_1129
        have g_1130 : Z.heap.size ≤ a_1125 := own_ge (Nat.le_refl _) g_1126
        have z_1131 : Z.heap.size ≤ h_1124.size := Nat.le_trans (Nat.le_refl _) E_1127.1
        have F_1132 : Fld Z h_1124 a_1125 "com/example/throttld/throttld/SlidingLog$Log" "ring" "[J" (.null) := D_1129 (Or.inl (wd hw 18 rfl)) (ty := (.array .long)) (by decide)
        have F_1133 : Fld Z h_1124 a_1125 "com/example/throttld/throttld/SlidingLog$Log" "count" "I" (.int (0 : Int32)) := D_1129 (Or.inl (wd hw 25 rfl)) (ty := .int) (by decide)
        have F_1134 : Fld Z h_1124 a_1125 "com/example/throttld/throttld/SlidingLog$Log" "head" "I" (.int (0 : Int32)) := D_1129 (Or.inl (wd hw 31 rfl)) (ty := .int) (by decide)
        refine go_dup C at_56 (pc' := 57) rfl rfl ?_
        refine go_iload C at_57 (pc' := 59) rfl rfl ?_
        refine go_specialN C (as := [.int (3 : Int32)]) (rest := [.ref a_1125]) (W := 1) (sat_init3 l Z a0 hw a_1125 _ _ E_1128 F_1132 F_1134 F_1133 g_1130 z_1131) rfl (wd hw 5 rfl) (wd hw 6 rfl) (wd hw 4 rfl) (wd hw 7 rfl) (by decide) pd_1 rfl rfl rfl (by decide) (by decide) (ce' := 2) (sl' := 10) rfl rfl (by decide) (by decide) at_59 (pc' := 62) rfl rfl ?_
        intro h_1135 q_1136
        obtain ⟨r_1137, g_1138, E_1139, F_1140, F_1141, F_1142, A_1143⟩ := q_1136
        refine go_astore C (Ls' := #[.val (.int x0), .val (.long x1), .second, .val (.long x2), .second, .val (.long x3), .second, .val (.long x4), .second, .val (.long x5), .second, .val (.int (3 : Int32)), .val (.int (1 : Int32)), .val (.int (1 : Int32)), .val (.long win), .second, .val (.long (4 : Int64)), .second, .val (.ref a_1125), .unset, .unset, .unset, .unset]) at_62 (pc' := 64) rfl rfl rfl ?_
        refine go_aload C at_64 (pc' := 66) rfl rfl rfl ?_
        refine go_lloadN C at_66 (pc' := 67) rfl rfl ?_
        refine go_lload C at_67 (pc' := 69) rfl rfl ?_
        refine go_virtualN C (as := [.long x1, .long (4 : Int64)]) (rest := []) (W := 0) (sat_add_3_0_0 l Z a0 hw a_1125 r_1137 (0 : Int64) (0 : Int64) (0 : Int64) x1 (4 : Int64) _ _ E_1139 F_1140 F_1141 F_1142 A_1143 g_1130 g_1138) E_1139 (wd hw 19 rfl) (wd hw 20 rfl) (wd hw 22 rfl) (wd hw 21 rfl) (wd hw 4 rfl) (wd hw 23 rfl) (by decide) pd_3 rfl rfl rfl (by decide) (by decide) (ce' := 2) (sl' := 10) rfl rfl (by decide) (by decide) at_69 (pc' := 72) rfl rfl ?_
        intro h_1144 q_1145
        obtain ⟨r_1146, g_1147, E_1148, F_1149, F_1150, F_1151, A_1152⟩ := q_1145
        refine go_lloadN C at_72 (pc' := 73) rfl rfl ?_
        refine go_lstore C (Ls' := #[.val (.int x0), .val (.long x1), .second, .val (.long x2), .second, .val (.long x3), .second, .val (.long x4), .second, .val (.long x5), .second, .val (.int (3 : Int32)), .val (.int (1 : Int32)), .val (.int (1 : Int32)), .val (.long win), .second, .val (.long (4 : Int64)), .second, .val (.ref a_1125), .val (.long x1), .second, .unset, .unset]) at_73 (pc' := 75) rfl rfl ?_
        refine go_iload C at_75 (pc' := 77) rfl rfl ?_
        refine go_if0 C (1 : Int) (by decide) at_77 (by decide) (pc' := 91) (by decide) (pcN := 80) rfl (fun (c_1153 : (1 : Int) = 0) => by omega) (fun (c_1153 : ¬ (1 : Int) = 0) => ?_)
        refine go_aload C at_80 (pc' := 82) rfl rfl rfl ?_
        refine go_lloadN C at_82 (pc' := 83) rfl rfl ?_
        refine go_lload C at_83 (pc' := 85) rfl rfl ?_
        refine go_virtualN C (as := [.long x2, .long (4 : Int64)]) (rest := []) (W := 0) (sat_add_3_0_1 l Z a0 hw a_1125 r_1146 x1 (0 : Int64) (0 : Int64) x2 (4 : Int64) _ _ E_1148 F_1149 F_1150 F_1151 A_1152 g_1130 g_1147) E_1148 (wd hw 19 rfl) (wd hw 20 rfl) (wd hw 22 rfl) (wd hw 21 rfl) (wd hw 4 rfl) (wd hw 23 rfl) (by decide) pd_3 rfl rfl rfl (by decide) (by decide) (ce' := 2) (sl' := 10) rfl rfl (by decide) (by decide) at_85 (pc' := 88) rfl rfl ?_
        intro h_1154 q_1155
        obtain ⟨r_1156, g_1157, E_1158, F_1159, F_1160, F_1161, A_1162⟩ := q_1155
        refine go_lloadN C at_88 (pc' := 89) rfl rfl ?_
        refine go_lstore C (Ls' := #[.val (.int x0), .val (.long x1), .second, .val (.long x2), .second, .val (.long x3), .second, .val (.long x4), .second, .val (.long x5), .second, .val (.int (3 : Int32)), .val (.int (1 : Int32)), .val (.int (1 : Int32)), .val (.long win), .second, .val (.long (4 : Int64)), .second, .val (.ref a_1125), .val (.long x2), .second, .unset, .unset]) at_89 (pc' := 91) rfl rfl ?_
        refine go_aload C at_91 (pc' := 93) rfl rfl rfl ?_
        refine go_virtualP C (as := []) (rest := []) (W := 0) (.long x2) (sat_new_3_0_2 l Z a0 hw a_1125 r_1156 x1 x2 (0 : Int64) _ _ E_1158 F_1159 F_1160 F_1161 A_1162 g_1130 g_1157) E_1158 (wd hw 32 rfl) (wd hw 33 rfl) (wd hw 35 rfl) (wd hw 34 rfl) (wd hw 4 rfl) (wd hw 36 rfl) (by decide) pd_5 rfl rfl rfl (by decide) (by decide) rfl rfl (by decide) (by decide) at_93 (pc' := 96) rfl rfl ?_
        refine go_lload C at_96 (pc' := 98) rfl rfl ?_
        refine go_lcmp C x2.toInt x2.toInt rfl rfl at_98 (pc1 := 99) rfl at_99 (by decide) (pc' := 106) (by decide) (pcN := 102) rfl (fun (c_1163 : ¬ x2.toInt = x2.toInt) => by omega) (fun (c_1163 : x2.toInt = x2.toInt) => ?_)
        refine go_iconst C (1 : Int32) at_102 (pc' := 103) rfl (by decide) ?_
        refine go_goto C at_103 (by decide) (pc' := 107) (by decide) ?_
        refine go_istore C (Ls' := #[.val (.int x0), .val (.long x1), .second, .val (.long x2), .second, .val (.long x3), .second, .val (.long x4), .second, .val (.long x5), .second, .val (.int (3 : Int32)), .val (.int (1 : Int32)), .val (.int (1 : Int32)), .val (.long win), .second, .val (.long (4 : Int64)), .second, .val (.ref a_1125), .val (.long x2), .second, .val (.int (1 : Int32)), .unset]) at_107 (pc' := 109) rfl rfl ?_
        refine go_aload C at_109 (pc' := 111) rfl rfl rfl ?_
        refine go_lload C at_111 (pc' := 113) rfl rfl ?_
        refine go_lload C at_113 (pc' := 115) rfl rfl ?_
        refine go_virtualN C (as := [.long x5, .long win]) (rest := []) (W := 0) (sat_drop_3_0_2 l Z a0 hw a_1125 r_1156 x1 x2 (0 : Int64) x5 win _ _ E_1158 F_1159 F_1160 F_1161 A_1162 g_1130 g_1157) E_1158 (wd hw 37 rfl) (wd hw 38 rfl) (wd hw 40 rfl) (wd hw 39 rfl) (wd hw 4 rfl) (wd hw 41 rfl) (by decide) pd_3 rfl rfl rfl (by decide) (by decide) (ce' := 2) (sl' := 10) rfl rfl (by decide) (by decide) at_115 (pc' := 118) rfl rfl ?_
        intro h_1164 q_1165
        rcases q_1165 with q_1165 | q_1165 | q_1165
        · skip
          obtain ⟨hc_1166, E_1167, F_1168, F_1169, F_1170, A_1171⟩ := q_1165
          refine go_lload C at_118 (pc' := 120) rfl rfl ?_
          refine go_lloadN C at_120 (pc' := 121) rfl rfl ?_
          refine go_lsub C at_121 (pc' := 122) rfl ?_
          refine go_lload C at_122 (pc' := 124) rfl rfl ?_
          refine go_lcmp C ((x5 - x1).toInt) win.toInt rfl rfl at_124 (pc1 := 125) rfl at_125 (by decide) (pc' := 147) (by decide) (pcN := 128) rfl (fun (c_1172 : ((x5 - x1).toInt) < win.toInt) => ?_) (fun (c_1172 : ¬ ((x5 - x1).toInt) < win.toInt) => by omega)
          refine go_iconst C (0 : Int32) at_147 (pc' := 148) rfl (by decide) ?_
          refine go_istore C (Ls' := #[.val (.int x0), .val (.long x1), .second, .val (.long x2), .second, .val (.long x3), .second, .val (.long x4), .second, .val (.long x5), .second, .val (.int (3 : Int32)), .val (.int (1 : Int32)), .val (.int (1 : Int32)), .val (.long win), .second, .val (.long (4 : Int64)), .second, .val (.ref a_1125), .val (.long x2), .second, .val (.int (1 : Int32)), .val (.int (0 : Int32))]) at_148 (pc' := 150) rfl rfl ?_
          refine go_iload C at_150 (pc' := 152) rfl rfl ?_
          refine go_if0 C (0 : Int) (by decide) at_152 (by decide) (pc' := 178) (by decide) (pcN := 155) rfl (fun (c_1173 : ¬ (0 : Int) = 0) => by omega) (fun (c_1173 : (0 : Int) = 0) => ?_)
          refine go_iload C at_155 (pc' := 157) rfl rfl ?_
          refine go_if0 C (1 : Int) (by decide) at_157 (by decide) (pc' := 175) (by decide) (pcN := 160) rfl (fun (c_1174 : (1 : Int) = 0) => by omega) (fun (c_1174 : ¬ (1 : Int) = 0) => ?_)
          refine go_aload C at_160 (pc' := 162) rfl rfl rfl ?_
          refine go_virtualP C (as := []) (rest := []) (W := 0) (.long x2) (sat_new_3_0_2 l Z a0 hw a_1125 r_1156 x1 x2 (0 : Int64) _ _ E_1167 F_1168 F_1169 F_1170 A_1171 g_1130 g_1157) E_1167 (wd hw 32 rfl) (wd hw 33 rfl) (wd hw 35 rfl) (wd hw 34 rfl) (wd hw 4 rfl) (wd hw 36 rfl) (by decide) pd_5 rfl rfl rfl (by decide) (by decide) rfl rfl (by decide) (by decide) at_162 (pc' := 165) rfl rfl ?_
          refine go_lload C at_165 (pc' := 167) rfl rfl ?_
          refine go_lcmp C x2.toInt x2.toInt rfl rfl at_167 (pc1 := 168) rfl at_168 (by decide) (pc' := 175) (by decide) (pcN := 171) rfl (fun (c_1175 : ¬ x2.toInt = x2.toInt) => by omega) (fun (c_1175 : x2.toInt = x2.toInt) => ?_)
          refine go_iconst C (1 : Int32) at_171 (pc' := 172) rfl (by decide) ?_
          refine go_goto C at_172 (by decide) (pc' := 176) (by decide) ?_
          refine go_istore C (Ls' := #[.val (.int x0), .val (.long x1), .second, .val (.long x2), .second, .val (.long x3), .second, .val (.long x4), .second, .val (.long x5), .second, .val (.int (3 : Int32)), .val (.int (1 : Int32)), .val (.int (1 : Int32)), .val (.long win), .second, .val (.long (4 : Int64)), .second, .val (.ref a_1125), .val (.long x2), .second, .val (.int (1 : Int32)), .val (.int (0 : Int32))]) at_176 (pc' := 178) rfl rfl ?_
          refine go_aload C at_178 (pc' := 180) rfl rfl rfl ?_
          refine go_lload C at_180 (pc' := 182) rfl rfl ?_
          refine go_lload C at_182 (pc' := 184) rfl rfl ?_
          refine go_virtualN C (as := [.long x3, .long (4 : Int64)]) (rest := []) (W := 0) (sat_add_3_0_2 l Z a0 hw a_1125 r_1156 x1 x2 (0 : Int64) x3 (4 : Int64) _ _ E_1167 F_1168 F_1169 F_1170 A_1171 g_1130 g_1157) E_1167 (wd hw 19 rfl) (wd hw 20 rfl) (wd hw 22 rfl) (wd hw 21 rfl) (wd hw 4 rfl) (wd hw 23 rfl) (by decide) pd_3 rfl rfl rfl (by decide) (by decide) (ce' := 2) (sl' := 10) rfl rfl (by decide) (by decide) at_184 (pc' := 187) rfl rfl ?_
          intro h_1176 q_1177
          obtain ⟨r_1178, g_1179, E_1180, F_1181, F_1182, F_1183, A_1184⟩ := q_1177
          refine go_lload C at_187 (pc' := 189) rfl rfl ?_
          refine go_lstore C (Ls' := #[.val (.int x0), .val (.long x1), .second, .val (.long x2), .second, .val (.long x3), .second, .val (.long x4), .second, .val (.long x5), .second, .val (.int (3 : Int32)), .val (.int (1 : Int32)), .val (.int (1 : Int32)), .val (.long win), .second, .val (.long (4 : Int64)), .second, .val (.ref a_1125), .val (.long x3), .second, .val (.int (1 : Int32)), .val (.int (0 : Int32))]) at_189 (pc' := 191) rfl rfl ?_
          refine go_iload C at_191 (pc' := 193) rfl rfl ?_
          refine go_if0 C (1 : Int) (by decide) at_193 (by decide) (pc' := 209) (by decide) (pcN := 196) rfl (fun (c_1185 : (1 : Int) = 0) => by omega) (fun (c_1185 : ¬ (1 : Int) = 0) => ?_)
          refine go_aload C at_196 (pc' := 198) rfl rfl rfl ?_
          refine go_lload C at_198 (pc' := 200) rfl rfl ?_
          refine go_lload C at_200 (pc' := 202) rfl rfl ?_
          refine go_virtualN C (as := [.long x4, .long (4 : Int64)]) (rest := []) (W := 0) (sat_add_3_0_3 l Z a0 hw a_1125 r_1178 x1 x2 x3 x4  _ _ E_1180 F_1181 F_1182 F_1183 A_1184 g_1130 g_1179) E_1180 (wd hw 19 rfl) (wd hw 20 rfl) (wd hw 22 rfl) (wd hw 21 rfl) (wd hw 4 rfl) (wd hw 23 rfl) (by decide) pd_3 rfl rfl rfl (by decide) (by decide) (ce' := 3) (sl' := 14) rfl rfl (by decide) (by decide) at_202 (pc' := 205) rfl rfl ?_
          intro h_1186 q_1187
          obtain ⟨r_1188, g_1189, E_1190, F_1191, F_1192, F_1193, A_1194⟩ := q_1187
          refine go_lload C at_205 (pc' := 207) rfl rfl ?_
          refine go_lstore C (Ls' := #[.val (.int x0), .val (.long x1), .second, .val (.long x2), .second, .val (.long x3), .second, .val (.long x4), .second, .val (.long x5), .second, .val (.int (3 : Int32)), .val (.int (1 : Int32)), .val (.int (1 : Int32)), .val (.long win), .second, .val (.long (4 : Int64)), .second, .val (.ref a_1125), .val (.long x4), .second, .val (.int (1 : Int32)), .val (.int (0 : Int32))]) at_207 (pc' := 209) rfl rfl ?_
          refine go_iload C at_209 (pc' := 211) rfl rfl ?_
          refine go_if0 C (1 : Int) (by decide) at_211 (by decide) (pc' := 229) (by decide) (pcN := 214) rfl (fun (c_1195 : (1 : Int) = 0) => by omega) (fun (c_1195 : ¬ (1 : Int) = 0) => ?_)
          refine go_aload C at_214 (pc' := 216) rfl rfl rfl ?_
          refine go_virtualP C (as := []) (rest := []) (W := 0) (.long x4) (sat_new_4_0_4 l Z a0 hw a_1125 r_1188 x1 x2 x3 x4 _ _ E_1190 F_1191 F_1192 F_1193 A_1194 g_1130 g_1189) E_1190 (wd hw 32 rfl) (wd hw 33 rfl) (wd hw 35 rfl) (wd hw 34 rfl) (wd hw 4 rfl) (wd hw 36 rfl) (by decide) pd_5 rfl rfl rfl (by decide) (by decide) rfl rfl (by decide) (by decide) at_216 (pc' := 219) rfl rfl ?_
          refine go_lload C at_219 (pc' := 221) rfl rfl ?_
          refine go_lcmp C x4.toInt x4.toInt rfl rfl at_221 (pc1 := 222) rfl at_222 (by decide) (pc' := 229) (by decide) (pcN := 225) rfl (fun (c_1196 : ¬ x4.toInt = x4.toInt) => by omega) (fun (c_1196 : x4.toInt = x4.toInt) => ?_)
          refine go_iconst C (1 : Int32) at_225 (pc' := 226) rfl (by decide) ?_
          refine go_goto C at_226 (by decide) (pc' := 230) (by decide) ?_
          refine go_istore C (Ls' := #[.val (.int x0), .val (.long x1), .second, .val (.long x2), .second, .val (.long x3), .second, .val (.long x4), .second, .val (.long x5), .second, .val (.int (3 : Int32)), .val (.int (1 : Int32)), .val (.int (1 : Int32)), .val (.long win), .second, .val (.long (4 : Int64)), .second, .val (.ref a_1125), .val (.long x4), .second, .val (.int (1 : Int32)), .val (.int (0 : Int32))]) at_230 (pc' := 232) rfl rfl ?_
          refine go_iload C at_232 (pc' := 234) rfl rfl ?_
          refine go_ireturnN C (z' := (1 : Int32)) rfl (by simp) rfl at_234 (by decide) (by decide) ?_
          exact ⟨_, rfl, rfl⟩
        · skip
          obtain ⟨hc_1197, E_1198, F_1199, F_1200, F_1201, A_1202⟩ := q_1165
          refine go_lload C at_118 (pc' := 120) rfl rfl ?_
          refine go_lloadN C at_120 (pc' := 121) rfl rfl ?_
          refine go_lsub C at_121 (pc' := 122) rfl ?_
          refine go_lload C at_122 (pc' := 124) rfl rfl ?_
          refine go_lcmp C ((x5 - x1).toInt) win.toInt rfl rfl at_124 (pc1 := 125) rfl at_125 (by decide) (pc' := 147) (by decide) (pcN := 128) rfl (fun (c_1203 : ((x5 - x1).toInt) < win.toInt) => by omega) (fun (c_1203 : ¬ ((x5 - x1).toInt) < win.toInt) => ?_)
          refine go_iload C at_128 (pc' := 130) rfl rfl ?_
          refine go_if0 C (1 : Int) (by decide) at_130 (by decide) (pc' := 143) (by decide) (pcN := 133) rfl (fun (c_1204 : (1 : Int) = 0) => by omega) (fun (c_1204 : ¬ (1 : Int) = 0) => ?_)
          refine go_lload C at_133 (pc' := 135) rfl rfl ?_
          refine go_lloadN C at_135 (pc' := 136) rfl rfl ?_
          refine go_lsub C at_136 (pc' := 137) rfl ?_
          refine go_lload C at_137 (pc' := 139) rfl rfl ?_
          refine go_lcmp C ((x5 - x2).toInt) win.toInt rfl rfl at_139 (pc1 := 140) rfl at_140 (by decide) (pc' := 147) (by decide) (pcN := 143) rfl (fun (c_1205 : ((x5 - x2).toInt) < win.toInt) => ?_) (fun (c_1205 : ¬ ((x5 - x2).toInt) < win.toInt) => by omega)
          refine go_iconst C (0 : Int32) at_147 (pc' := 148) rfl (by decide) ?_
          refine go_istore C (Ls' := #[.val (.int x0), .val (.long x1), .second, .val (.long x2), .second, .val (.long x3), .second, .val (.long x4), .second, .val (.long x5), .second, .val (.int (3 : Int32)), .val (.int (1 : Int32)), .val (.int (1 : Int32)), .val (.long win), .second, .val (.long (4 : Int64)), .second, .val (.ref a_1125), .val (.long x2), .second, .val (.int (1 : Int32)), .val (.int (0 : Int32))]) at_148 (pc' := 150) rfl rfl ?_
          refine go_iload C at_150 (pc' := 152) rfl rfl ?_
          refine go_if0 C (0 : Int) (by decide) at_152 (by decide) (pc' := 178) (by decide) (pcN := 155) rfl (fun (c_1206 : ¬ (0 : Int) = 0) => by omega) (fun (c_1206 : (0 : Int) = 0) => ?_)
          refine go_iload C at_155 (pc' := 157) rfl rfl ?_
          refine go_if0 C (1 : Int) (by decide) at_157 (by decide) (pc' := 175) (by decide) (pcN := 160) rfl (fun (c_1207 : (1 : Int) = 0) => by omega) (fun (c_1207 : ¬ (1 : Int) = 0) => ?_)
          refine go_aload C at_160 (pc' := 162) rfl rfl rfl ?_
          refine go_virtualP C (as := []) (rest := []) (W := 0) (.long x2) (sat_new_3_1_1 l Z a0 hw a_1125 r_1156 x1 x2 (0 : Int64) _ _ E_1198 F_1199 F_1200 F_1201 A_1202 g_1130 g_1157) E_1198 (wd hw 32 rfl) (wd hw 33 rfl) (wd hw 35 rfl) (wd hw 34 rfl) (wd hw 4 rfl) (wd hw 36 rfl) (by decide) pd_5 rfl rfl rfl (by decide) (by decide) rfl rfl (by decide) (by decide) at_162 (pc' := 165) rfl rfl ?_
          refine go_lload C at_165 (pc' := 167) rfl rfl ?_
          refine go_lcmp C x2.toInt x2.toInt rfl rfl at_167 (pc1 := 168) rfl at_168 (by decide) (pc' := 175) (by decide) (pcN := 171) rfl (fun (c_1208 : ¬ x2.toInt = x2.toInt) => by omega) (fun (c_1208 : x2.toInt = x2.toInt) => ?_)
          refine go_iconst C (1 : Int32) at_171 (pc' := 172) rfl (by decide) ?_
          refine go_goto C at_172 (by decide) (pc' := 176) (by decide) ?_
          refine go_istore C (Ls' := #[.val (.int x0), .val (.long x1), .second, .val (.long x2), .second, .val (.long x3), .second, .val (.long x4), .second, .val (.long x5), .second, .val (.int (3 : Int32)), .val (.int (1 : Int32)), .val (.int (1 : Int32)), .val (.long win), .second, .val (.long (4 : Int64)), .second, .val (.ref a_1125), .val (.long x2), .second, .val (.int (1 : Int32)), .val (.int (0 : Int32))]) at_176 (pc' := 178) rfl rfl ?_
          refine go_aload C at_178 (pc' := 180) rfl rfl rfl ?_
          refine go_lload C at_180 (pc' := 182) rfl rfl ?_
          refine go_lload C at_182 (pc' := 184) rfl rfl ?_
          refine go_virtualN C (as := [.long x3, .long (4 : Int64)]) (rest := []) (W := 0) (sat_add_3_1_1 l Z a0 hw a_1125 r_1156 x1 x2 (0 : Int64) x3 (4 : Int64) _ _ E_1198 F_1199 F_1200 F_1201 A_1202 g_1130 g_1157) E_1198 (wd hw 19 rfl) (wd hw 20 rfl) (wd hw 22 rfl) (wd hw 21 rfl) (wd hw 4 rfl) (wd hw 23 rfl) (by decide) pd_3 rfl rfl rfl (by decide) (by decide) (ce' := 2) (sl' := 10) rfl rfl (by decide) (by decide) at_184 (pc' := 187) rfl rfl ?_
          intro h_1209 q_1210
          obtain ⟨r_1211, g_1212, E_1213, F_1214, F_1215, F_1216, A_1217⟩ := q_1210
          refine go_lload C at_187 (pc' := 189) rfl rfl ?_
          refine go_lstore C (Ls' := #[.val (.int x0), .val (.long x1), .second, .val (.long x2), .second, .val (.long x3), .second, .val (.long x4), .second, .val (.long x5), .second, .val (.int (3 : Int32)), .val (.int (1 : Int32)), .val (.int (1 : Int32)), .val (.long win), .second, .val (.long (4 : Int64)), .second, .val (.ref a_1125), .val (.long x3), .second, .val (.int (1 : Int32)), .val (.int (0 : Int32))]) at_189 (pc' := 191) rfl rfl ?_
          refine go_iload C at_191 (pc' := 193) rfl rfl ?_
          refine go_if0 C (1 : Int) (by decide) at_193 (by decide) (pc' := 209) (by decide) (pcN := 196) rfl (fun (c_1218 : (1 : Int) = 0) => by omega) (fun (c_1218 : ¬ (1 : Int) = 0) => ?_)
          refine go_aload C at_196 (pc' := 198) rfl rfl rfl ?_
          refine go_lload C at_198 (pc' := 200) rfl rfl ?_
          refine go_lload C at_200 (pc' := 202) rfl rfl ?_
          refine go_virtualN C (as := [.long x4, .long (4 : Int64)]) (rest := []) (W := 0) (sat_add_3_1_2 l Z a0 hw a_1125 r_1211 x1 x2 x3 x4 (4 : Int64) _ _ E_1213 F_1214 F_1215 F_1216 A_1217 g_1130 g_1212) E_1213 (wd hw 19 rfl) (wd hw 20 rfl) (wd hw 22 rfl) (wd hw 21 rfl) (wd hw 4 rfl) (wd hw 23 rfl) (by decide) pd_3 rfl rfl rfl (by decide) (by decide) (ce' := 2) (sl' := 10) rfl rfl (by decide) (by decide) at_202 (pc' := 205) rfl rfl ?_
          intro h_1219 q_1220
          obtain ⟨r_1221, g_1222, E_1223, F_1224, F_1225, F_1226, A_1227⟩ := q_1220
          refine go_lload C at_205 (pc' := 207) rfl rfl ?_
          refine go_lstore C (Ls' := #[.val (.int x0), .val (.long x1), .second, .val (.long x2), .second, .val (.long x3), .second, .val (.long x4), .second, .val (.long x5), .second, .val (.int (3 : Int32)), .val (.int (1 : Int32)), .val (.int (1 : Int32)), .val (.long win), .second, .val (.long (4 : Int64)), .second, .val (.ref a_1125), .val (.long x4), .second, .val (.int (1 : Int32)), .val (.int (0 : Int32))]) at_207 (pc' := 209) rfl rfl ?_
          refine go_iload C at_209 (pc' := 211) rfl rfl ?_
          refine go_if0 C (1 : Int) (by decide) at_211 (by decide) (pc' := 229) (by decide) (pcN := 214) rfl (fun (c_1228 : (1 : Int) = 0) => by omega) (fun (c_1228 : ¬ (1 : Int) = 0) => ?_)
          refine go_aload C at_214 (pc' := 216) rfl rfl rfl ?_
          refine go_virtualP C (as := []) (rest := []) (W := 0) (.long x4) (sat_new_3_1_3 l Z a0 hw a_1125 r_1221 x4 x2 x3 _ _ E_1223 F_1224 F_1225 F_1226 A_1227 g_1130 g_1222) E_1223 (wd hw 32 rfl) (wd hw 33 rfl) (wd hw 35 rfl) (wd hw 34 rfl) (wd hw 4 rfl) (wd hw 36 rfl) (by decide) pd_5 rfl rfl rfl (by decide) (by decide) rfl rfl (by decide) (by decide) at_216 (pc' := 219) rfl rfl ?_
          refine go_lload C at_219 (pc' := 221) rfl rfl ?_
          refine go_lcmp C x4.toInt x4.toInt rfl rfl at_221 (pc1 := 222) rfl at_222 (by decide) (pc' := 229) (by decide) (pcN := 225) rfl (fun (c_1229 : ¬ x4.toInt = x4.toInt) => by omega) (fun (c_1229 : x4.toInt = x4.toInt) => ?_)
          refine go_iconst C (1 : Int32) at_225 (pc' := 226) rfl (by decide) ?_
          refine go_goto C at_226 (by decide) (pc' := 230) (by decide) ?_
          refine go_istore C (Ls' := #[.val (.int x0), .val (.long x1), .second, .val (.long x2), .second, .val (.long x3), .second, .val (.long x4), .second, .val (.long x5), .second, .val (.int (3 : Int32)), .val (.int (1 : Int32)), .val (.int (1 : Int32)), .val (.long win), .second, .val (.long (4 : Int64)), .second, .val (.ref a_1125), .val (.long x4), .second, .val (.int (1 : Int32)), .val (.int (0 : Int32))]) at_230 (pc' := 232) rfl rfl ?_
          refine go_iload C at_232 (pc' := 234) rfl rfl ?_
          refine go_ireturnN C (z' := (1 : Int32)) rfl (by simp) rfl at_234 (by decide) (by decide) ?_
          exact ⟨_, rfl, rfl⟩
        · skip
          obtain ⟨hc_1230, E_1231, F_1232, F_1233, F_1234, A_1235⟩ := q_1165
          refine go_lload C at_118 (pc' := 120) rfl rfl ?_
          refine go_lloadN C at_120 (pc' := 121) rfl rfl ?_
          refine go_lsub C at_121 (pc' := 122) rfl ?_
          refine go_lload C at_122 (pc' := 124) rfl rfl ?_
          refine go_lcmp C ((x5 - x1).toInt) win.toInt rfl rfl at_124 (pc1 := 125) rfl at_125 (by decide) (pc' := 147) (by decide) (pcN := 128) rfl (fun (c_1236 : ((x5 - x1).toInt) < win.toInt) => by omega) (fun (c_1236 : ¬ ((x5 - x1).toInt) < win.toInt) => ?_)
          refine go_iload C at_128 (pc' := 130) rfl rfl ?_
          refine go_if0 C (1 : Int) (by decide) at_130 (by decide) (pc' := 143) (by decide) (pcN := 133) rfl (fun (c_1237 : (1 : Int) = 0) => by omega) (fun (c_1237 : ¬ (1 : Int) = 0) => ?_)
          refine go_lload C at_133 (pc' := 135) rfl rfl ?_
          refine go_lloadN C at_135 (pc' := 136) rfl rfl ?_
          refine go_lsub C at_136 (pc' := 137) rfl ?_
          refine go_lload C at_137 (pc' := 139) rfl rfl ?_
          refine go_lcmp C ((x5 - x2).toInt) win.toInt rfl rfl at_139 (pc1 := 140) rfl at_140 (by decide) (pc' := 147) (by decide) (pcN := 143) rfl (fun (c_1238 : ((x5 - x2).toInt) < win.toInt) => by omega) (fun (c_1238 : ¬ ((x5 - x2).toInt) < win.toInt) => ?_)
          refine go_iconst C (1 : Int32) at_143 (pc' := 144) rfl (by decide) ?_
          refine go_goto C at_144 (by decide) (pc' := 148) (by decide) ?_
          refine go_istore C (Ls' := #[.val (.int x0), .val (.long x1), .second, .val (.long x2), .second, .val (.long x3), .second, .val (.long x4), .second, .val (.long x5), .second, .val (.int (3 : Int32)), .val (.int (1 : Int32)), .val (.int (1 : Int32)), .val (.long win), .second, .val (.long (4 : Int64)), .second, .val (.ref a_1125), .val (.long x2), .second, .val (.int (1 : Int32)), .val (.int (1 : Int32))]) at_148 (pc' := 150) rfl rfl ?_
          refine go_iload C at_150 (pc' := 152) rfl rfl ?_
          refine go_if0 C (1 : Int) (by decide) at_152 (by decide) (pc' := 178) (by decide) (pcN := 155) rfl (fun (c_1239 : ¬ (1 : Int) = 0) => ?_) (fun (c_1239 : (1 : Int) = 0) => by omega)
          refine go_aload C at_178 (pc' := 180) rfl rfl rfl ?_
          refine go_lload C at_180 (pc' := 182) rfl rfl ?_
          refine go_lload C at_182 (pc' := 184) rfl rfl ?_
          refine go_virtualN C (as := [.long x3, .long (4 : Int64)]) (rest := []) (W := 0) (sat_add_3_2_0 l Z a0 hw a_1125 r_1156 x1 x2 (0 : Int64) x3 (4 : Int64) _ _ E_1231 F_1232 F_1233 F_1234 A_1235 g_1130 g_1157) E_1231 (wd hw 19 rfl) (wd hw 20 rfl) (wd hw 22 rfl) (wd hw 21 rfl) (wd hw 4 rfl) (wd hw 23 rfl) (by decide) pd_3 rfl rfl rfl (by decide) (by decide) (ce' := 2) (sl' := 10) rfl rfl (by decide) (by decide) at_184 (pc' := 187) rfl rfl ?_
          intro h_1240 q_1241
          obtain ⟨r_1242, g_1243, E_1244, F_1245, F_1246, F_1247, A_1248⟩ := q_1241
          refine go_lload C at_187 (pc' := 189) rfl rfl ?_
          refine go_lstore C (Ls' := #[.val (.int x0), .val (.long x1), .second, .val (.long x2), .second, .val (.long x3), .second, .val (.long x4), .second, .val (.long x5), .second, .val (.int (3 : Int32)), .val (.int (1 : Int32)), .val (.int (1 : Int32)), .val (.long win), .second, .val (.long (4 : Int64)), .second, .val (.ref a_1125), .val (.long x3), .second, .val (.int (1 : Int32)), .val (.int (1 : Int32))]) at_189 (pc' := 191) rfl rfl ?_
          refine go_iload C at_191 (pc' := 193) rfl rfl ?_
          refine go_if0 C (1 : Int) (by decide) at_193 (by decide) (pc' := 209) (by decide) (pcN := 196) rfl (fun (c_1249 : (1 : Int) = 0) => by omega) (fun (c_1249 : ¬ (1 : Int) = 0) => ?_)
          refine go_aload C at_196 (pc' := 198) rfl rfl rfl ?_
          refine go_lload C at_198 (pc' := 200) rfl rfl ?_
          refine go_lload C at_200 (pc' := 202) rfl rfl ?_
          refine go_virtualN C (as := [.long x4, .long (4 : Int64)]) (rest := []) (W := 0) (sat_add_3_2_1 l Z a0 hw a_1125 r_1242 x1 x2 x3 x4 (4 : Int64) _ _ E_1244 F_1245 F_1246 F_1247 A_1248 g_1130 g_1243) E_1244 (wd hw 19 rfl) (wd hw 20 rfl) (wd hw 22 rfl) (wd hw 21 rfl) (wd hw 4 rfl) (wd hw 23 rfl) (by decide) pd_3 rfl rfl rfl (by decide) (by decide) (ce' := 2) (sl' := 10) rfl rfl (by decide) (by decide) at_202 (pc' := 205) rfl rfl ?_
          intro h_1250 q_1251
          obtain ⟨r_1252, g_1253, E_1254, F_1255, F_1256, F_1257, A_1258⟩ := q_1251
          refine go_lload C at_205 (pc' := 207) rfl rfl ?_
          refine go_lstore C (Ls' := #[.val (.int x0), .val (.long x1), .second, .val (.long x2), .second, .val (.long x3), .second, .val (.long x4), .second, .val (.long x5), .second, .val (.int (3 : Int32)), .val (.int (1 : Int32)), .val (.int (1 : Int32)), .val (.long win), .second, .val (.long (4 : Int64)), .second, .val (.ref a_1125), .val (.long x4), .second, .val (.int (1 : Int32)), .val (.int (1 : Int32))]) at_207 (pc' := 209) rfl rfl ?_
          refine go_iload C at_209 (pc' := 211) rfl rfl ?_
          refine go_if0 C (1 : Int) (by decide) at_211 (by decide) (pc' := 229) (by decide) (pcN := 214) rfl (fun (c_1259 : (1 : Int) = 0) => by omega) (fun (c_1259 : ¬ (1 : Int) = 0) => ?_)
          refine go_aload C at_214 (pc' := 216) rfl rfl rfl ?_
          refine go_virtualP C (as := []) (rest := []) (W := 0) (.long x4) (sat_new_3_2_2 l Z a0 hw a_1125 r_1252 x4 x2 x3 _ _ E_1254 F_1255 F_1256 F_1257 A_1258 g_1130 g_1253) E_1254 (wd hw 32 rfl) (wd hw 33 rfl) (wd hw 35 rfl) (wd hw 34 rfl) (wd hw 4 rfl) (wd hw 36 rfl) (by decide) pd_5 rfl rfl rfl (by decide) (by decide) rfl rfl (by decide) (by decide) at_216 (pc' := 219) rfl rfl ?_
          refine go_lload C at_219 (pc' := 221) rfl rfl ?_
          refine go_lcmp C x4.toInt x4.toInt rfl rfl at_221 (pc1 := 222) rfl at_222 (by decide) (pc' := 229) (by decide) (pcN := 225) rfl (fun (c_1260 : ¬ x4.toInt = x4.toInt) => by omega) (fun (c_1260 : x4.toInt = x4.toInt) => ?_)
          refine go_iconst C (1 : Int32) at_225 (pc' := 226) rfl (by decide) ?_
          refine go_goto C at_226 (by decide) (pc' := 230) (by decide) ?_
          refine go_istore C (Ls' := #[.val (.int x0), .val (.long x1), .second, .val (.long x2), .second, .val (.long x3), .second, .val (.long x4), .second, .val (.long x5), .second, .val (.int (3 : Int32)), .val (.int (1 : Int32)), .val (.int (1 : Int32)), .val (.long win), .second, .val (.long (4 : Int64)), .second, .val (.ref a_1125), .val (.long x4), .second, .val (.int (1 : Int32)), .val (.int (1 : Int32))]) at_230 (pc' := 232) rfl rfl ?_
          refine go_iload C at_232 (pc' := 234) rfl rfl ?_
          refine go_ireturnN C (z' := (1 : Int32)) rfl (by simp) rfl at_234 (by decide) (by decide) ?_
          exact ⟨_, rfl, rfl⟩
  · rw [hn]
    refine go_iadd C at_4 (pc' := 5) rfl ?_
    rw [(by decide : (1 : Int32) + (3 : Int32) = (4 : Int32))]
    refine go_istore C (Ls' := #[.val (.int x0), .val (.long x1), .second, .val (.long x2), .second, .val (.long x3), .second, .val (.long x4), .second, .val (.long x5), .second, .val (.int (4 : Int32)), .unset, .unset, .unset, .unset, .unset, .unset, .unset, .unset, .unset, .unset, .unset]) at_5 (pc' := 7) rfl rfl ?_
    refine go_iloadN C at_7 (pc' := 8) rfl rfl ?_
    refine go_iconst C (2 : Int32) at_8 (pc' := 9) rfl (by decide) ?_
    refine go_iushr C at_9 (pc' := 10) rfl ?_
    refine go_iconst C (1 : Int32) at_10 (pc' := 11) rfl (by decide) ?_
    refine go_iand C at_11 (pc' := 12) rfl ?_
    refine go_if0 C (((XT.ushr x0 (2 : Int32)) &&& (1 : Int32)).toInt) rfl at_12 (by decide) (pc' := 19) (by decide) (pcN := 15) rfl (fun (c_1261 : (((XT.ushr x0 (2 : Int32)) &&& (1 : Int32)).toInt) = 0) => ?_) (fun (c_1261 : ¬ (((XT.ushr x0 (2 : Int32)) &&& (1 : Int32)).toInt) = 0) => ?_)
    · skip
      refine go_iconst C (0 : Int32) at_19 (pc' := 20) rfl (by decide) ?_
      refine go_istore C (Ls' := #[.val (.int x0), .val (.long x1), .second, .val (.long x2), .second, .val (.long x3), .second, .val (.long x4), .second, .val (.long x5), .second, .val (.int (4 : Int32)), .val (.int (0 : Int32)), .unset, .unset, .unset, .unset, .unset, .unset, .unset, .unset, .unset, .unset]) at_20 (pc' := 22) rfl rfl ?_
      refine go_iloadN C at_22 (pc' := 23) rfl rfl ?_
      refine go_iconst C (3 : Int32) at_23 (pc' := 24) rfl (by decide) ?_
      refine go_iushr C at_24 (pc' := 25) rfl ?_
      refine go_iconst C (1 : Int32) at_25 (pc' := 26) rfl (by decide) ?_
      refine go_iand C at_26 (pc' := 27) rfl ?_
      refine go_if0 C (((XT.ushr x0 (3 : Int32)) &&& (1 : Int32)).toInt) rfl at_27 (by decide) (pc' := 34) (by decide) (pcN := 30) rfl (fun (c_1262 : (((XT.ushr x0 (3 : Int32)) &&& (1 : Int32)).toInt) = 0) => ?_) (fun (c_1262 : ¬ (((XT.ushr x0 (3 : Int32)) &&& (1 : Int32)).toInt) = 0) => ?_)
      · skip
        refine go_iconst C (0 : Int32) at_34 (pc' := 35) rfl (by decide) ?_
        refine go_istore C (Ls' := #[.val (.int x0), .val (.long x1), .second, .val (.long x2), .second, .val (.long x3), .second, .val (.long x4), .second, .val (.long x5), .second, .val (.int (4 : Int32)), .val (.int (0 : Int32)), .val (.int (0 : Int32)), .unset, .unset, .unset, .unset, .unset, .unset, .unset, .unset, .unset]) at_35 (pc' := 37) rfl rfl ?_
        refine go_lconst C (1 : Int64) at_37 (pc' := 38) rfl (by decide) ?_
        refine go_iloadN C at_38 (pc' := 39) rfl rfl ?_
        refine go_iconst C (4 : Int32) at_39 (pc' := 40) rfl (by decide) ?_
        refine go_iushr C at_40 (pc' := 41) rfl ?_
        refine go_ldc C (v := (65535 : Int32)) (wd hw 0 rfl) at_41 (pc' := 43) rfl ?_
        refine go_iand C at_43 (pc' := 44) rfl ?_
        refine go_i2l C at_44 (pc' := 45) rfl ?_
        refine go_ladd C at_45 (pc' := 46) rfl ?_
        refine go_lstore C (Ls' := #[.val (.int x0), .val (.long x1), .second, .val (.long x2), .second, .val (.long x3), .second, .val (.long x4), .second, .val (.long x5), .second, .val (.int (4 : Int32)), .val (.int (0 : Int32)), .val (.int (0 : Int32)), .val (.long ((1 : Int64) + (((XT.ushr x0 (4 : Int32)) &&& (65535 : Int32)).toInt64))), .second, .unset, .unset, .unset, .unset, .unset, .unset, .unset]) at_46 (pc' := 48) rfl rfl ?_
        refine go_ldc2 C (v := (4 : Int64)) (wd hw 1 rfl) at_48 (pc' := 51) rfl ?_
        refine go_lstore C (Ls' := #[.val (.int x0), .val (.long x1), .second, .val (.long x2), .second, .val (.long x3), .second, .val (.long x4), .second, .val (.long x5), .second, .val (.int (4 : Int32)), .val (.int (0 : Int32)), .val (.int (0 : Int32)), .val (.long ((1 : Int64) + (((XT.ushr x0 (4 : Int32)) &&& (65535 : Int32)).toInt64))), .second, .val (.long (4 : Int64)), .second, .unset, .unset, .unset, .unset, .unset]) at_51 (pc' := 53) rfl rfl ?_
        generalize (1 : Int64) + (((XT.ushr x0 (4 : Int32)) &&& (65535 : Int32)).toInt64) = win
        refine go_new C (wd hw 2 rfl) (wd hw 3 rfl) (wd hw 4 rfl) at_53 (pc' := 56) rfl (ce' := 1) (sl' := 7) rfl rfl (by decide) (by decide) ?_
        intro h_1263 a_1264 g_1265 E_1266 E_1267 D_1268
        have g_1269 : Z.heap.size ≤ a_1264 := own_ge (Nat.le_refl _) g_1265
        have z_1270 : Z.heap.size ≤ h_1263.size := Nat.le_trans (Nat.le_refl _) E_1266.1
        have F_1271 : Fld Z h_1263 a_1264 "com/example/throttld/throttld/SlidingLog$Log" "ring" "[J" (.null) := D_1268 (Or.inl (wd hw 18 rfl)) (ty := (.array .long)) (by decide)
        have F_1272 : Fld Z h_1263 a_1264 "com/example/throttld/throttld/SlidingLog$Log" "count" "I" (.int (0 : Int32)) := D_1268 (Or.inl (wd hw 25 rfl)) (ty := .int) (by decide)
        have F_1273 : Fld Z h_1263 a_1264 "com/example/throttld/throttld/SlidingLog$Log" "head" "I" (.int (0 : Int32)) := D_1268 (Or.inl (wd hw 31 rfl)) (ty := .int) (by decide)
        refine go_dup C at_56 (pc' := 57) rfl rfl ?_
        refine go_iload C at_57 (pc' := 59) rfl rfl ?_
        refine go_specialN C (as := [.int (4 : Int32)]) (rest := [.ref a_1264]) (W := 1) (sat_init4 l Z a0 hw a_1264 _ _ E_1267 F_1271 F_1273 F_1272 g_1269 z_1270) rfl (wd hw 5 rfl) (wd hw 6 rfl) (wd hw 4 rfl) (wd hw 7 rfl) (by decide) pd_1 rfl rfl rfl (by decide) (by decide) (ce' := 2) (sl' := 11) rfl rfl (by decide) (by decide) at_59 (pc' := 62) rfl rfl ?_
        intro h_1274 q_1275
        obtain ⟨r_1276, g_1277, E_1278, F_1279, F_1280, F_1281, A_1282⟩ := q_1275
        refine go_astore C (Ls' := #[.val (.int x0), .val (.long x1), .second, .val (.long x2), .second, .val (.long x3), .second, .val (.long x4), .second, .val (.long x5), .second, .val (.int (4 : Int32)), .val (.int (0 : Int32)), .val (.int (0 : Int32)), .val (.long win), .second, .val (.long (4 : Int64)), .second, .val (.ref a_1264), .unset, .unset, .unset, .unset]) at_62 (pc' := 64) rfl rfl rfl ?_
        refine go_aload C at_64 (pc' := 66) rfl rfl rfl ?_
        refine go_lloadN C at_66 (pc' := 67) rfl rfl ?_
        refine go_lload C at_67 (pc' := 69) rfl rfl ?_
        refine go_virtualN C (as := [.long x1, .long (4 : Int64)]) (rest := []) (W := 0) (sat_add_4_0_0 l Z a0 hw a_1264 r_1276 (0 : Int64) (0 : Int64) (0 : Int64) (0 : Int64) x1 (4 : Int64) _ _ E_1278 F_1279 F_1280 F_1281 A_1282 g_1269 g_1277) E_1278 (wd hw 19 rfl) (wd hw 20 rfl) (wd hw 22 rfl) (wd hw 21 rfl) (wd hw 4 rfl) (wd hw 23 rfl) (by decide) pd_3 rfl rfl rfl (by decide) (by decide) (ce' := 2) (sl' := 11) rfl rfl (by decide) (by decide) at_69 (pc' := 72) rfl rfl ?_
        intro h_1283 q_1284
        obtain ⟨r_1285, g_1286, E_1287, F_1288, F_1289, F_1290, A_1291⟩ := q_1284
        refine go_lloadN C at_72 (pc' := 73) rfl rfl ?_
        refine go_lstore C (Ls' := #[.val (.int x0), .val (.long x1), .second, .val (.long x2), .second, .val (.long x3), .second, .val (.long x4), .second, .val (.long x5), .second, .val (.int (4 : Int32)), .val (.int (0 : Int32)), .val (.int (0 : Int32)), .val (.long win), .second, .val (.long (4 : Int64)), .second, .val (.ref a_1264), .val (.long x1), .second, .unset, .unset]) at_73 (pc' := 75) rfl rfl ?_
        refine go_iload C at_75 (pc' := 77) rfl rfl ?_
        refine go_if0 C (0 : Int) (by decide) at_77 (by decide) (pc' := 91) (by decide) (pcN := 80) rfl (fun (c_1292 : (0 : Int) = 0) => ?_) (fun (c_1292 : ¬ (0 : Int) = 0) => by omega)
        refine go_aload C at_91 (pc' := 93) rfl rfl rfl ?_
        refine go_virtualP C (as := []) (rest := []) (W := 0) (.long x1) (sat_new_4_0_1 l Z a0 hw a_1264 r_1285 x1 (0 : Int64) (0 : Int64) (0 : Int64) _ _ E_1287 F_1288 F_1289 F_1290 A_1291 g_1269 g_1286) E_1287 (wd hw 32 rfl) (wd hw 33 rfl) (wd hw 35 rfl) (wd hw 34 rfl) (wd hw 4 rfl) (wd hw 36 rfl) (by decide) pd_5 rfl rfl rfl (by decide) (by decide) rfl rfl (by decide) (by decide) at_93 (pc' := 96) rfl rfl ?_
        refine go_lload C at_96 (pc' := 98) rfl rfl ?_
        refine go_lcmp C x1.toInt x1.toInt rfl rfl at_98 (pc1 := 99) rfl at_99 (by decide) (pc' := 106) (by decide) (pcN := 102) rfl (fun (c_1293 : ¬ x1.toInt = x1.toInt) => by omega) (fun (c_1293 : x1.toInt = x1.toInt) => ?_)
        refine go_iconst C (1 : Int32) at_102 (pc' := 103) rfl (by decide) ?_
        refine go_goto C at_103 (by decide) (pc' := 107) (by decide) ?_
        refine go_istore C (Ls' := #[.val (.int x0), .val (.long x1), .second, .val (.long x2), .second, .val (.long x3), .second, .val (.long x4), .second, .val (.long x5), .second, .val (.int (4 : Int32)), .val (.int (0 : Int32)), .val (.int (0 : Int32)), .val (.long win), .second, .val (.long (4 : Int64)), .second, .val (.ref a_1264), .val (.long x1), .second, .val (.int (1 : Int32)), .unset]) at_107 (pc' := 109) rfl rfl ?_
        refine go_aload C at_109 (pc' := 111) rfl rfl rfl ?_
        refine go_lload C at_111 (pc' := 113) rfl rfl ?_
        refine go_lload C at_113 (pc' := 115) rfl rfl ?_
        refine go_virtualN C (as := [.long x5, .long win]) (rest := []) (W := 0) (sat_drop_4_0_1 l Z a0 hw a_1264 r_1285 x1 (0 : Int64) (0 : Int64) (0 : Int64) x5 win _ _ E_1287 F_1288 F_1289 F_1290 A_1291 g_1269 g_1286) E_1287 (wd hw 37 rfl) (wd hw 38 rfl) (wd hw 40 rfl) (wd hw 39 rfl) (wd hw 4 rfl) (wd hw 41 rfl) (by decide) pd_3 rfl rfl rfl (by decide) (by decide) (ce' := 2) (sl' := 11) rfl rfl (by decide) (by decide) at_115 (pc' := 118) rfl rfl ?_
        intro h_1294 q_1295
        rcases q_1295 with q_1295 | q_1295
        · skip
          obtain ⟨hc_1296, E_1297, F_1298, F_1299, F_1300, A_1301⟩ := q_1295
          refine go_lload C at_118 (pc' := 120) rfl rfl ?_
          refine go_lloadN C at_120 (pc' := 121) rfl rfl ?_
          refine go_lsub C at_121 (pc' := 122) rfl ?_
          refine go_lload C at_122 (pc' := 124) rfl rfl ?_
          refine go_lcmp C ((x5 - x1).toInt) win.toInt rfl rfl at_124 (pc1 := 125) rfl at_125 (by decide) (pc' := 147) (by decide) (pcN := 128) rfl (fun (c_1302 : ((x5 - x1).toInt) < win.toInt) => ?_) (fun (c_1302 : ¬ ((x5 - x1).toInt) < win.toInt) => by omega)
          refine go_iconst C (0 : Int32) at_147 (pc' := 148) rfl (by decide) ?_
          refine go_istore C (Ls' := #[.val (.int x0), .val (.long x1), .second, .val (.long x2), .second, .val (.long x3), .second, .val (.long x4), .second, .val (.long x5), .second, .val (.int (4 : Int32)), .val (.int (0 : Int32)), .val (.int (0 : Int32)), .val (.long win), .second, .val (.long (4 : Int64)), .second, .val (.ref a_1264), .val (.long x1), .second, .val (.int (1 : Int32)), .val (.int (0 : Int32))]) at_148 (pc' := 150) rfl rfl ?_
          refine go_iload C at_150 (pc' := 152) rfl rfl ?_
          refine go_if0 C (0 : Int) (by decide) at_152 (by decide) (pc' := 178) (by decide) (pcN := 155) rfl (fun (c_1303 : ¬ (0 : Int) = 0) => by omega) (fun (c_1303 : (0 : Int) = 0) => ?_)
          refine go_iload C at_155 (pc' := 157) rfl rfl ?_
          refine go_if0 C (1 : Int) (by decide) at_157 (by decide) (pc' := 175) (by decide) (pcN := 160) rfl (fun (c_1304 : (1 : Int) = 0) => by omega) (fun (c_1304 : ¬ (1 : Int) = 0) => ?_)
          refine go_aload C at_160 (pc' := 162) rfl rfl rfl ?_
          refine go_virtualP C (as := []) (rest := []) (W := 0) (.long x1) (sat_new_4_0_1 l Z a0 hw a_1264 r_1285 x1 (0 : Int64) (0 : Int64) (0 : Int64) _ _ E_1297 F_1298 F_1299 F_1300 A_1301 g_1269 g_1286) E_1297 (wd hw 32 rfl) (wd hw 33 rfl) (wd hw 35 rfl) (wd hw 34 rfl) (wd hw 4 rfl) (wd hw 36 rfl) (by decide) pd_5 rfl rfl rfl (by decide) (by decide) rfl rfl (by decide) (by decide) at_162 (pc' := 165) rfl rfl ?_
          refine go_lload C at_165 (pc' := 167) rfl rfl ?_
          refine go_lcmp C x1.toInt x1.toInt rfl rfl at_167 (pc1 := 168) rfl at_168 (by decide) (pc' := 175) (by decide) (pcN := 171) rfl (fun (c_1305 : ¬ x1.toInt = x1.toInt) => by omega) (fun (c_1305 : x1.toInt = x1.toInt) => ?_)
          refine go_iconst C (1 : Int32) at_171 (pc' := 172) rfl (by decide) ?_
          refine go_goto C at_172 (by decide) (pc' := 176) (by decide) ?_
          refine go_istore C (Ls' := #[.val (.int x0), .val (.long x1), .second, .val (.long x2), .second, .val (.long x3), .second, .val (.long x4), .second, .val (.long x5), .second, .val (.int (4 : Int32)), .val (.int (0 : Int32)), .val (.int (0 : Int32)), .val (.long win), .second, .val (.long (4 : Int64)), .second, .val (.ref a_1264), .val (.long x1), .second, .val (.int (1 : Int32)), .val (.int (0 : Int32))]) at_176 (pc' := 178) rfl rfl ?_
          refine go_aload C at_178 (pc' := 180) rfl rfl rfl ?_
          refine go_lload C at_180 (pc' := 182) rfl rfl ?_
          refine go_lload C at_182 (pc' := 184) rfl rfl ?_
          refine go_virtualN C (as := [.long x3, .long (4 : Int64)]) (rest := []) (W := 0) (sat_add_4_0_1 l Z a0 hw a_1264 r_1285 x1 (0 : Int64) (0 : Int64) (0 : Int64) x3 (4 : Int64) _ _ E_1297 F_1298 F_1299 F_1300 A_1301 g_1269 g_1286) E_1297 (wd hw 19 rfl) (wd hw 20 rfl) (wd hw 22 rfl) (wd hw 21 rfl) (wd hw 4 rfl) (wd hw 23 rfl) (by decide) pd_3 rfl rfl rfl (by decide) (by decide) (ce' := 2) (sl' := 11) rfl rfl (by decide) (by decide) at_184 (pc' := 187) rfl rfl ?_
          intro h_1306 q_1307
          obtain ⟨r_1308, g_1309, E_1310, F_1311, F_1312, F_1313, A_1314⟩ := q_1307
          refine go_lload C at_187 (pc' := 189) rfl rfl ?_
          refine go_lstore C (Ls' := #[.val (.int x0), .val (.long x1), .second, .val (.long x2), .second, .val (.long x3), .second, .val (.long x4), .second, .val (.long x5), .second, .val (.int (4 : Int32)), .val (.int (0 : Int32)), .val (.int (0 : Int32)), .val (.long win), .second, .val (.long (4 : Int64)), .second, .val (.ref a_1264), .val (.long x3), .second, .val (.int (1 : Int32)), .val (.int (0 : Int32))]) at_189 (pc' := 191) rfl rfl ?_
          refine go_iload C at_191 (pc' := 193) rfl rfl ?_
          refine go_if0 C (0 : Int) (by decide) at_193 (by decide) (pc' := 209) (by decide) (pcN := 196) rfl (fun (c_1315 : (0 : Int) = 0) => ?_) (fun (c_1315 : ¬ (0 : Int) = 0) => by omega)
          refine go_iload C at_209 (pc' := 211) rfl rfl ?_
          refine go_if0 C (1 : Int) (by decide) at_211 (by decide) (pc' := 229) (by decide) (pcN := 214) rfl (fun (c_1316 : (1 : Int) = 0) => by omega) (fun (c_1316 : ¬ (1 : Int) = 0) => ?_)
          refine go_aload C at_214 (pc' := 216) rfl rfl rfl ?_
          refine go_virtualP C (as := []) (rest := []) (W := 0) (.long x3) (sat_new_4_0_2 l Z a0 hw a_1264 r_1308 x1 x3 (0 : Int64) (0 : Int64) _ _ E_1310 F_1311 F_1312 F_1313 A_1314 g_1269 g_1309) E_1310 (wd hw 32 rfl) (wd hw 33 rfl) (wd hw 35 rfl) (wd hw 34 rfl) (wd hw 4 rfl) (wd hw 36 rfl) (by decide) pd_5 rfl rfl rfl (by decide) (by decide) rfl rfl (by decide) (by decide) at_216 (pc' := 219) rfl rfl ?_
          refine go_lload C at_219 (pc' := 221) rfl rfl ?_
          refine go_lcmp C x3.toInt x3.toInt rfl rfl at_221 (pc1 := 222) rfl at_222 (by decide) (pc' := 229) (by decide) (pcN := 225) rfl (fun (c_1317 : ¬ x3.toInt = x3.toInt) => by omega) (fun (c_1317 : x3.toInt = x3.toInt) => ?_)
          refine go_iconst C (1 : Int32) at_225 (pc' := 226) rfl (by decide) ?_
          refine go_goto C at_226 (by decide) (pc' := 230) (by decide) ?_
          refine go_istore C (Ls' := #[.val (.int x0), .val (.long x1), .second, .val (.long x2), .second, .val (.long x3), .second, .val (.long x4), .second, .val (.long x5), .second, .val (.int (4 : Int32)), .val (.int (0 : Int32)), .val (.int (0 : Int32)), .val (.long win), .second, .val (.long (4 : Int64)), .second, .val (.ref a_1264), .val (.long x3), .second, .val (.int (1 : Int32)), .val (.int (0 : Int32))]) at_230 (pc' := 232) rfl rfl ?_
          refine go_iload C at_232 (pc' := 234) rfl rfl ?_
          refine go_ireturnN C (z' := (1 : Int32)) rfl (by simp) rfl at_234 (by decide) (by decide) ?_
          exact ⟨_, rfl, rfl⟩
        · skip
          obtain ⟨hc_1318, E_1319, F_1320, F_1321, F_1322, A_1323⟩ := q_1295
          refine go_lload C at_118 (pc' := 120) rfl rfl ?_
          refine go_lloadN C at_120 (pc' := 121) rfl rfl ?_
          refine go_lsub C at_121 (pc' := 122) rfl ?_
          refine go_lload C at_122 (pc' := 124) rfl rfl ?_
          refine go_lcmp C ((x5 - x1).toInt) win.toInt rfl rfl at_124 (pc1 := 125) rfl at_125 (by decide) (pc' := 147) (by decide) (pcN := 128) rfl (fun (c_1324 : ((x5 - x1).toInt) < win.toInt) => by omega) (fun (c_1324 : ¬ ((x5 - x1).toInt) < win.toInt) => ?_)
          refine go_iload C at_128 (pc' := 130) rfl rfl ?_
          refine go_if0 C (0 : Int) (by decide) at_130 (by decide) (pc' := 143) (by decide) (pcN := 133) rfl (fun (c_1325 : (0 : Int) = 0) => ?_) (fun (c_1325 : ¬ (0 : Int) = 0) => by omega)
          refine go_iconst C (1 : Int32) at_143 (pc' := 144) rfl (by decide) ?_
          refine go_goto C at_144 (by decide) (pc' := 148) (by decide) ?_
          refine go_istore C (Ls' := #[.val (.int x0), .val (.long x1), .second, .val (.long x2), .second, .val (.long x3), .second, .val (.long x4), .second, .val (.long x5), .second, .val (.int (4 : Int32)), .val (.int (0 : Int32)), .val (.int (0 : Int32)), .val (.long win), .second, .val (.long (4 : Int64)), .second, .val (.ref a_1264), .val (.long x1), .second, .val (.int (1 : Int32)), .val (.int (1 : Int32))]) at_148 (pc' := 150) rfl rfl ?_
          refine go_iload C at_150 (pc' := 152) rfl rfl ?_
          refine go_if0 C (1 : Int) (by decide) at_152 (by decide) (pc' := 178) (by decide) (pcN := 155) rfl (fun (c_1326 : ¬ (1 : Int) = 0) => ?_) (fun (c_1326 : (1 : Int) = 0) => by omega)
          refine go_aload C at_178 (pc' := 180) rfl rfl rfl ?_
          refine go_lload C at_180 (pc' := 182) rfl rfl ?_
          refine go_lload C at_182 (pc' := 184) rfl rfl ?_
          refine go_virtualN C (as := [.long x3, .long (4 : Int64)]) (rest := []) (W := 0) (sat_add_4_1_0 l Z a0 hw a_1264 r_1285 x1 (0 : Int64) (0 : Int64) (0 : Int64) x3 (4 : Int64) _ _ E_1319 F_1320 F_1321 F_1322 A_1323 g_1269 g_1286) E_1319 (wd hw 19 rfl) (wd hw 20 rfl) (wd hw 22 rfl) (wd hw 21 rfl) (wd hw 4 rfl) (wd hw 23 rfl) (by decide) pd_3 rfl rfl rfl (by decide) (by decide) (ce' := 2) (sl' := 11) rfl rfl (by decide) (by decide) at_184 (pc' := 187) rfl rfl ?_
          intro h_1327 q_1328
          obtain ⟨r_1329, g_1330, E_1331, F_1332, F_1333, F_1334, A_1335⟩ := q_1328
          refine go_lload C at_187 (pc' := 189) rfl rfl ?_
          refine go_lstore C (Ls' := #[.val (.int x0), .val (.long x1), .second, .val (.long x2), .second, .val (.long x3), .second, .val (.long x4), .second, .val (.long x5), .second, .val (.int (4 : Int32)), .val (.int (0 : Int32)), .val (.int (0 : Int32)), .val (.long win), .second, .val (.long (4 : Int64)), .second, .val (.ref a_1264), .val (.long x3), .second, .val (.int (1 : Int32)), .val (.int (1 : Int32))]) at_189 (pc' := 191) rfl rfl ?_
          refine go_iload C at_191 (pc' := 193) rfl rfl ?_
          refine go_if0 C (0 : Int) (by decide) at_193 (by decide) (pc' := 209) (by decide) (pcN := 196) rfl (fun (c_1336 : (0 : Int) = 0) => ?_) (fun (c_1336 : ¬ (0 : Int) = 0) => by omega)
          refine go_iload C at_209 (pc' := 211) rfl rfl ?_
          refine go_if0 C (1 : Int) (by decide) at_211 (by decide) (pc' := 229) (by decide) (pcN := 214) rfl (fun (c_1337 : (1 : Int) = 0) => by omega) (fun (c_1337 : ¬ (1 : Int) = 0) => ?_)
          refine go_aload C at_214 (pc' := 216) rfl rfl rfl ?_
          refine go_virtualP C (as := []) (rest := []) (W := 0) (.long x3) (sat_new_4_1_1 l Z a0 hw a_1264 r_1329 x1 x3 (0 : Int64) (0 : Int64) _ _ E_1331 F_1332 F_1333 F_1334 A_1335 g_1269 g_1330) E_1331 (wd hw 32 rfl) (wd hw 33 rfl) (wd hw 35 rfl) (wd hw 34 rfl) (wd hw 4 rfl) (wd hw 36 rfl) (by decide) pd_5 rfl rfl rfl (by decide) (by decide) rfl rfl (by decide) (by decide) at_216 (pc' := 219) rfl rfl ?_
          refine go_lload C at_219 (pc' := 221) rfl rfl ?_
          refine go_lcmp C x3.toInt x3.toInt rfl rfl at_221 (pc1 := 222) rfl at_222 (by decide) (pc' := 229) (by decide) (pcN := 225) rfl (fun (c_1338 : ¬ x3.toInt = x3.toInt) => by omega) (fun (c_1338 : x3.toInt = x3.toInt) => ?_)
          refine go_iconst C (1 : Int32) at_225 (pc' := 226) rfl (by decide) ?_
          refine go_goto C at_226 (by decide) (pc' := 230) (by decide) ?_
          refine go_istore C (Ls' := #[.val (.int x0), .val (.long x1), .second, .val (.long x2), .second, .val (.long x3), .second, .val (.long x4), .second, .val (.long x5), .second, .val (.int (4 : Int32)), .val (.int (0 : Int32)), .val (.int (0 : Int32)), .val (.long win), .second, .val (.long (4 : Int64)), .second, .val (.ref a_1264), .val (.long x3), .second, .val (.int (1 : Int32)), .val (.int (1 : Int32))]) at_230 (pc' := 232) rfl rfl ?_
          refine go_iload C at_232 (pc' := 234) rfl rfl ?_
          refine go_ireturnN C (z' := (1 : Int32)) rfl (by simp) rfl at_234 (by decide) (by decide) ?_
          exact ⟨_, rfl, rfl⟩
      · skip
        refine go_iconst C (1 : Int32) at_30 (pc' := 31) rfl (by decide) ?_
        refine go_goto C at_31 (by decide) (pc' := 35) (by decide) ?_
        refine go_istore C (Ls' := #[.val (.int x0), .val (.long x1), .second, .val (.long x2), .second, .val (.long x3), .second, .val (.long x4), .second, .val (.long x5), .second, .val (.int (4 : Int32)), .val (.int (0 : Int32)), .val (.int (1 : Int32)), .unset, .unset, .unset, .unset, .unset, .unset, .unset, .unset, .unset]) at_35 (pc' := 37) rfl rfl ?_
        refine go_lconst C (1 : Int64) at_37 (pc' := 38) rfl (by decide) ?_
        refine go_iloadN C at_38 (pc' := 39) rfl rfl ?_
        refine go_iconst C (4 : Int32) at_39 (pc' := 40) rfl (by decide) ?_
        refine go_iushr C at_40 (pc' := 41) rfl ?_
        refine go_ldc C (v := (65535 : Int32)) (wd hw 0 rfl) at_41 (pc' := 43) rfl ?_
        refine go_iand C at_43 (pc' := 44) rfl ?_
        refine go_i2l C at_44 (pc' := 45) rfl ?_
        refine go_ladd C at_45 (pc' := 46) rfl ?_
        refine go_lstore C (Ls' := #[.val (.int x0), .val (.long x1), .second, .val (.long x2), .second, .val (.long x3), .second, .val (.long x4), .second, .val (.long x5), .second, .val (.int (4 : Int32)), .val (.int (0 : Int32)), .val (.int (1 : Int32)), .val (.long ((1 : Int64) + (((XT.ushr x0 (4 : Int32)) &&& (65535 : Int32)).toInt64))), .second, .unset, .unset, .unset, .unset, .unset, .unset, .unset]) at_46 (pc' := 48) rfl rfl ?_
        refine go_ldc2 C (v := (4 : Int64)) (wd hw 1 rfl) at_48 (pc' := 51) rfl ?_
        refine go_lstore C (Ls' := #[.val (.int x0), .val (.long x1), .second, .val (.long x2), .second, .val (.long x3), .second, .val (.long x4), .second, .val (.long x5), .second, .val (.int (4 : Int32)), .val (.int (0 : Int32)), .val (.int (1 : Int32)), .val (.long ((1 : Int64) + (((XT.ushr x0 (4 : Int32)) &&& (65535 : Int32)).toInt64))), .second, .val (.long (4 : Int64)), .second, .unset, .unset, .unset, .unset, .unset]) at_51 (pc' := 53) rfl rfl ?_
        generalize (1 : Int64) + (((XT.ushr x0 (4 : Int32)) &&& (65535 : Int32)).toInt64) = win
        refine go_new C (wd hw 2 rfl) (wd hw 3 rfl) (wd hw 4 rfl) at_53 (pc' := 56) rfl (ce' := 1) (sl' := 7) rfl rfl (by decide) (by decide) ?_
        intro h_1339 a_1340 g_1341 E_1342 E_1343 D_1344
        have g_1345 : Z.heap.size ≤ a_1340 := own_ge (Nat.le_refl _) g_1341
        have z_1346 : Z.heap.size ≤ h_1339.size := Nat.le_trans (Nat.le_refl _) E_1342.1
        have F_1347 : Fld Z h_1339 a_1340 "com/example/throttld/throttld/SlidingLog$Log" "ring" "[J" (.null) := D_1344 (Or.inl (wd hw 18 rfl)) (ty := (.array .long)) (by decide)
        have F_1348 : Fld Z h_1339 a_1340 "com/example/throttld/throttld/SlidingLog$Log" "count" "I" (.int (0 : Int32)) := D_1344 (Or.inl (wd hw 25 rfl)) (ty := .int) (by decide)
        have F_1349 : Fld Z h_1339 a_1340 "com/example/throttld/throttld/SlidingLog$Log" "head" "I" (.int (0 : Int32)) := D_1344 (Or.inl (wd hw 31 rfl)) (ty := .int) (by decide)
        refine go_dup C at_56 (pc' := 57) rfl rfl ?_
        refine go_iload C at_57 (pc' := 59) rfl rfl ?_
        refine go_specialN C (as := [.int (4 : Int32)]) (rest := [.ref a_1340]) (W := 1) (sat_init4 l Z a0 hw a_1340 _ _ E_1343 F_1347 F_1349 F_1348 g_1345 z_1346) rfl (wd hw 5 rfl) (wd hw 6 rfl) (wd hw 4 rfl) (wd hw 7 rfl) (by decide) pd_1 rfl rfl rfl (by decide) (by decide) (ce' := 2) (sl' := 11) rfl rfl (by decide) (by decide) at_59 (pc' := 62) rfl rfl ?_
        intro h_1350 q_1351
        obtain ⟨r_1352, g_1353, E_1354, F_1355, F_1356, F_1357, A_1358⟩ := q_1351
        refine go_astore C (Ls' := #[.val (.int x0), .val (.long x1), .second, .val (.long x2), .second, .val (.long x3), .second, .val (.long x4), .second, .val (.long x5), .second, .val (.int (4 : Int32)), .val (.int (0 : Int32)), .val (.int (1 : Int32)), .val (.long win), .second, .val (.long (4 : Int64)), .second, .val (.ref a_1340), .unset, .unset, .unset, .unset]) at_62 (pc' := 64) rfl rfl rfl ?_
        refine go_aload C at_64 (pc' := 66) rfl rfl rfl ?_
        refine go_lloadN C at_66 (pc' := 67) rfl rfl ?_
        refine go_lload C at_67 (pc' := 69) rfl rfl ?_
        refine go_virtualN C (as := [.long x1, .long (4 : Int64)]) (rest := []) (W := 0) (sat_add_4_0_0 l Z a0 hw a_1340 r_1352 (0 : Int64) (0 : Int64) (0 : Int64) (0 : Int64) x1 (4 : Int64) _ _ E_1354 F_1355 F_1356 F_1357 A_1358 g_1345 g_1353) E_1354 (wd hw 19 rfl) (wd hw 20 rfl) (wd hw 22 rfl) (wd hw 21 rfl) (wd hw 4 rfl) (wd hw 23 rfl) (by decide) pd_3 rfl rfl rfl (by decide) (by decide) (ce' := 2) (sl' := 11) rfl rfl (by decide) (by decide) at_69 (pc' := 72) rfl rfl ?_
        intro h_1359 q_1360
        obtain ⟨r_1361, g_1362, E_1363, F_1364, F_1365, F_1366, A_1367⟩ := q_1360
        refine go_lloadN C at_72 (pc' := 73) rfl rfl ?_
        refine go_lstore C (Ls' := #[.val (.int x0), .val (.long x1), .second, .val (.long x2), .second, .val (.long x3), .second, .val (.long x4), .second, .val (.long x5), .second, .val (.int (4 : Int32)), .val (.int (0 : Int32)), .val (.int (1 : Int32)), .val (.long win), .second, .val (.long (4 : Int64)), .second, .val (.ref a_1340), .val (.long x1), .second, .unset, .unset]) at_73 (pc' := 75) rfl rfl ?_
        refine go_iload C at_75 (pc' := 77) rfl rfl ?_
        refine go_if0 C (0 : Int) (by decide) at_77 (by decide) (pc' := 91) (by decide) (pcN := 80) rfl (fun (c_1368 : (0 : Int) = 0) => ?_) (fun (c_1368 : ¬ (0 : Int) = 0) => by omega)
        refine go_aload C at_91 (pc' := 93) rfl rfl rfl ?_
        refine go_virtualP C (as := []) (rest := []) (W := 0) (.long x1) (sat_new_4_0_1 l Z a0 hw a_1340 r_1361 x1 (0 : Int64) (0 : Int64) (0 : Int64) _ _ E_1363 F_1364 F_1365 F_1366 A_1367 g_1345 g_1362) E_1363 (wd hw 32 rfl) (wd hw 33 rfl) (wd hw 35 rfl) (wd hw 34 rfl) (wd hw 4 rfl) (wd hw 36 rfl) (by decide) pd_5 rfl rfl rfl (by decide) (by decide) rfl rfl (by decide) (by decide) at_93 (pc' := 96) rfl rfl ?_
        refine go_lload C at_96 (pc' := 98) rfl rfl ?_
        refine go_lcmp C x1.toInt x1.toInt rfl rfl at_98 (pc1 := 99) rfl at_99 (by decide) (pc' := 106) (by decide) (pcN := 102) rfl (fun (c_1369 : ¬ x1.toInt = x1.toInt) => by omega) (fun (c_1369 : x1.toInt = x1.toInt) => ?_)
        refine go_iconst C (1 : Int32) at_102 (pc' := 103) rfl (by decide) ?_
        refine go_goto C at_103 (by decide) (pc' := 107) (by decide) ?_
        refine go_istore C (Ls' := #[.val (.int x0), .val (.long x1), .second, .val (.long x2), .second, .val (.long x3), .second, .val (.long x4), .second, .val (.long x5), .second, .val (.int (4 : Int32)), .val (.int (0 : Int32)), .val (.int (1 : Int32)), .val (.long win), .second, .val (.long (4 : Int64)), .second, .val (.ref a_1340), .val (.long x1), .second, .val (.int (1 : Int32)), .unset]) at_107 (pc' := 109) rfl rfl ?_
        refine go_aload C at_109 (pc' := 111) rfl rfl rfl ?_
        refine go_lload C at_111 (pc' := 113) rfl rfl ?_
        refine go_lload C at_113 (pc' := 115) rfl rfl ?_
        refine go_virtualN C (as := [.long x5, .long win]) (rest := []) (W := 0) (sat_drop_4_0_1 l Z a0 hw a_1340 r_1361 x1 (0 : Int64) (0 : Int64) (0 : Int64) x5 win _ _ E_1363 F_1364 F_1365 F_1366 A_1367 g_1345 g_1362) E_1363 (wd hw 37 rfl) (wd hw 38 rfl) (wd hw 40 rfl) (wd hw 39 rfl) (wd hw 4 rfl) (wd hw 41 rfl) (by decide) pd_3 rfl rfl rfl (by decide) (by decide) (ce' := 2) (sl' := 11) rfl rfl (by decide) (by decide) at_115 (pc' := 118) rfl rfl ?_
        intro h_1370 q_1371
        rcases q_1371 with q_1371 | q_1371
        · skip
          obtain ⟨hc_1372, E_1373, F_1374, F_1375, F_1376, A_1377⟩ := q_1371
          refine go_lload C at_118 (pc' := 120) rfl rfl ?_
          refine go_lloadN C at_120 (pc' := 121) rfl rfl ?_
          refine go_lsub C at_121 (pc' := 122) rfl ?_
          refine go_lload C at_122 (pc' := 124) rfl rfl ?_
          refine go_lcmp C ((x5 - x1).toInt) win.toInt rfl rfl at_124 (pc1 := 125) rfl at_125 (by decide) (pc' := 147) (by decide) (pcN := 128) rfl (fun (c_1378 : ((x5 - x1).toInt) < win.toInt) => ?_) (fun (c_1378 : ¬ ((x5 - x1).toInt) < win.toInt) => by omega)
          refine go_iconst C (0 : Int32) at_147 (pc' := 148) rfl (by decide) ?_
          refine go_istore C (Ls' := #[.val (.int x0), .val (.long x1), .second, .val (.long x2), .second, .val (.long x3), .second, .val (.long x4), .second, .val (.long x5), .second, .val (.int (4 : Int32)), .val (.int (0 : Int32)), .val (.int (1 : Int32)), .val (.long win), .second, .val (.long (4 : Int64)), .second, .val (.ref a_1340), .val (.long x1), .second, .val (.int (1 : Int32)), .val (.int (0 : Int32))]) at_148 (pc' := 150) rfl rfl ?_
          refine go_iload C at_150 (pc' := 152) rfl rfl ?_
          refine go_if0 C (0 : Int) (by decide) at_152 (by decide) (pc' := 178) (by decide) (pcN := 155) rfl (fun (c_1379 : ¬ (0 : Int) = 0) => by omega) (fun (c_1379 : (0 : Int) = 0) => ?_)
          refine go_iload C at_155 (pc' := 157) rfl rfl ?_
          refine go_if0 C (1 : Int) (by decide) at_157 (by decide) (pc' := 175) (by decide) (pcN := 160) rfl (fun (c_1380 : (1 : Int) = 0) => by omega) (fun (c_1380 : ¬ (1 : Int) = 0) => ?_)
          refine go_aload C at_160 (pc' := 162) rfl rfl rfl ?_
          refine go_virtualP C (as := []) (rest := []) (W := 0) (.long x1) (sat_new_4_0_1 l Z a0 hw a_1340 r_1361 x1 (0 : Int64) (0 : Int64) (0 : Int64) _ _ E_1373 F_1374 F_1375 F_1376 A_1377 g_1345 g_1362) E_1373 (wd hw 32 rfl) (wd hw 33 rfl) (wd hw 35 rfl) (wd hw 34 rfl) (wd hw 4 rfl) (wd hw 36 rfl) (by decide) pd_5 rfl rfl rfl (by decide) (by decide) rfl rfl (by decide) (by decide) at_162 (pc' := 165) rfl rfl ?_
          refine go_lload C at_165 (pc' := 167) rfl rfl ?_
          refine go_lcmp C x1.toInt x1.toInt rfl rfl at_167 (pc1 := 168) rfl at_168 (by decide) (pc' := 175) (by decide) (pcN := 171) rfl (fun (c_1381 : ¬ x1.toInt = x1.toInt) => by omega) (fun (c_1381 : x1.toInt = x1.toInt) => ?_)
          refine go_iconst C (1 : Int32) at_171 (pc' := 172) rfl (by decide) ?_
          refine go_goto C at_172 (by decide) (pc' := 176) (by decide) ?_
          refine go_istore C (Ls' := #[.val (.int x0), .val (.long x1), .second, .val (.long x2), .second, .val (.long x3), .second, .val (.long x4), .second, .val (.long x5), .second, .val (.int (4 : Int32)), .val (.int (0 : Int32)), .val (.int (1 : Int32)), .val (.long win), .second, .val (.long (4 : Int64)), .second, .val (.ref a_1340), .val (.long x1), .second, .val (.int (1 : Int32)), .val (.int (0 : Int32))]) at_176 (pc' := 178) rfl rfl ?_
          refine go_aload C at_178 (pc' := 180) rfl rfl rfl ?_
          refine go_lload C at_180 (pc' := 182) rfl rfl ?_
          refine go_lload C at_182 (pc' := 184) rfl rfl ?_
          refine go_virtualN C (as := [.long x3, .long (4 : Int64)]) (rest := []) (W := 0) (sat_add_4_0_1 l Z a0 hw a_1340 r_1361 x1 (0 : Int64) (0 : Int64) (0 : Int64) x3 (4 : Int64) _ _ E_1373 F_1374 F_1375 F_1376 A_1377 g_1345 g_1362) E_1373 (wd hw 19 rfl) (wd hw 20 rfl) (wd hw 22 rfl) (wd hw 21 rfl) (wd hw 4 rfl) (wd hw 23 rfl) (by decide) pd_3 rfl rfl rfl (by decide) (by decide) (ce' := 2) (sl' := 11) rfl rfl (by decide) (by decide) at_184 (pc' := 187) rfl rfl ?_
          intro h_1382 q_1383
          obtain ⟨r_1384, g_1385, E_1386, F_1387, F_1388, F_1389, A_1390⟩ := q_1383
          refine go_lload C at_187 (pc' := 189) rfl rfl ?_
          refine go_lstore C (Ls' := #[.val (.int x0), .val (.long x1), .second, .val (.long x2), .second, .val (.long x3), .second, .val (.long x4), .second, .val (.long x5), .second, .val (.int (4 : Int32)), .val (.int (0 : Int32)), .val (.int (1 : Int32)), .val (.long win), .second, .val (.long (4 : Int64)), .second, .val (.ref a_1340), .val (.long x3), .second, .val (.int (1 : Int32)), .val (.int (0 : Int32))]) at_189 (pc' := 191) rfl rfl ?_
          refine go_iload C at_191 (pc' := 193) rfl rfl ?_
          refine go_if0 C (1 : Int) (by decide) at_193 (by decide) (pc' := 209) (by decide) (pcN := 196) rfl (fun (c_1391 : (1 : Int) = 0) => by omega) (fun (c_1391 : ¬ (1 : Int) = 0) => ?_)
          refine go_aload C at_196 (pc' := 198) rfl rfl rfl ?_
          refine go_lload C at_198 (pc' := 200) rfl rfl ?_
          refine go_lload C at_200 (pc' := 202) rfl rfl ?_
          refine go_virtualN C (as := [.long x4, .long (4 : Int64)]) (rest := []) (W := 0) (sat_add_4_0_2 l Z a0 hw a_1340 r_1384 x1 x3 (0 : Int64) (0 : Int64) x4 (4 : Int64) _ _ E_1386 F_1387 F_1388 F_1389 A_1390 g_1345 g_1385) E_1386 (wd hw 19 rfl) (wd hw 20 rfl) (wd hw 22 rfl) (wd hw 21 rfl) (wd hw 4 rfl) (wd hw 23 rfl) (by decide) pd_3 rfl rfl rfl (by decide) (by decide) (ce' := 2) (sl' := 11) rfl rfl (by decide) (by decide) at_202 (pc' := 205) rfl rfl ?_
          intro h_1392 q_1393
          obtain ⟨r_1394, g_1395, E_1396, F_1397, F_1398, F_1399, A_1400⟩ := q_1393
          refine go_lload C at_205 (pc' := 207) rfl rfl ?_
          refine go_lstore C (Ls' := #[.val (.int x0), .val (.long x1), .second, .val (.long x2), .second, .val (.long x3), .second, .val (.long x4), .second, .val (.long x5), .second, .val (.int (4 : Int32)), .val (.int (0 : Int32)), .val (.int (1 : Int32)), .val (.long win), .second, .val (.long (4 : Int64)), .second, .val (.ref a_1340), .val (.long x4), .second, .val (.int (1 : Int32)), .val (.int (0 : Int32))]) at_207 (pc' := 209) rfl rfl ?_
          refine go_iload C at_209 (pc' := 211) rfl rfl ?_
          refine go_if0 C (1 : Int) (by decide) at_211 (by decide) (pc' := 229) (by decide) (pcN := 214) rfl (fun (c_1401 : (1 : Int) = 0) => by omega) (fun (c_1401 : ¬ (1 : Int) = 0) => ?_)
          refine go_aload C at_214 (pc' := 216) rfl rfl rfl ?_
          refine go_virtualP C (as := []) (rest := []) (W := 0) (.long x4) (sat_new_4_0_3 l Z a0 hw a_1340 r_1394 x1 x3 x4 (0 : Int64) _ _ E_1396 F_1397 F_1398 F_1399 A_1400 g_1345 g_1395) E_1396 (wd hw 32 rfl) (wd hw 33 rfl) (wd hw 35 rfl) (wd hw 34 rfl) (wd hw 4 rfl) (wd hw 36 rfl) (by decide) pd_5 rfl rfl rfl (by decide) (by decide) rfl rfl (by decide) (by decide) at_216 (pc' := 219) rfl rfl ?_
          refine go_lload C at_219 (pc' := 221) rfl rfl ?_
          refine go_lcmp C x4.toInt x4.toInt rfl rfl at_221 (pc1 := 222) rfl at_222 (by decide) (pc' := 229) (by decide) (pcN := 225) rfl (fun (c_1402 : ¬ x4.toInt = x4.toInt) => by omega) (fun (c_1402 : x4.toInt = x4.toInt) => ?_)
          refine go_iconst C (1 : Int32) at_225 (pc' := 226) rfl (by decide) ?_
          refine go_goto C at_226 (by decide) (pc' := 230) (by decide) ?_
          refine go_istore C (Ls' := #[.val (.int x0), .val (.long x1), .second, .val (.long x2), .second, .val (.long x3), .second, .val (.long x4), .second, .val (.long x5), .second, .val (.int (4 : Int32)), .val (.int (0 : Int32)), .val (.int (1 : Int32)), .val (.long win), .second, .val (.long (4 : Int64)), .second, .val (.ref a_1340), .val (.long x4), .second, .val (.int (1 : Int32)), .val (.int (0 : Int32))]) at_230 (pc' := 232) rfl rfl ?_
          refine go_iload C at_232 (pc' := 234) rfl rfl ?_
          refine go_ireturnN C (z' := (1 : Int32)) rfl (by simp) rfl at_234 (by decide) (by decide) ?_
          exact ⟨_, rfl, rfl⟩
        · skip
          obtain ⟨hc_1403, E_1404, F_1405, F_1406, F_1407, A_1408⟩ := q_1371
          refine go_lload C at_118 (pc' := 120) rfl rfl ?_
          refine go_lloadN C at_120 (pc' := 121) rfl rfl ?_
          refine go_lsub C at_121 (pc' := 122) rfl ?_
          refine go_lload C at_122 (pc' := 124) rfl rfl ?_
          refine go_lcmp C ((x5 - x1).toInt) win.toInt rfl rfl at_124 (pc1 := 125) rfl at_125 (by decide) (pc' := 147) (by decide) (pcN := 128) rfl (fun (c_1409 : ((x5 - x1).toInt) < win.toInt) => by omega) (fun (c_1409 : ¬ ((x5 - x1).toInt) < win.toInt) => ?_)
          refine go_iload C at_128 (pc' := 130) rfl rfl ?_
          refine go_if0 C (0 : Int) (by decide) at_130 (by decide) (pc' := 143) (by decide) (pcN := 133) rfl (fun (c_1410 : (0 : Int) = 0) => ?_) (fun (c_1410 : ¬ (0 : Int) = 0) => by omega)
          refine go_iconst C (1 : Int32) at_143 (pc' := 144) rfl (by decide) ?_
          refine go_goto C at_144 (by decide) (pc' := 148) (by decide) ?_
          refine go_istore C (Ls' := #[.val (.int x0), .val (.long x1), .second, .val (.long x2), .second, .val (.long x3), .second, .val (.long x4), .second, .val (.long x5), .second, .val (.int (4 : Int32)), .val (.int (0 : Int32)), .val (.int (1 : Int32)), .val (.long win), .second, .val (.long (4 : Int64)), .second, .val (.ref a_1340), .val (.long x1), .second, .val (.int (1 : Int32)), .val (.int (1 : Int32))]) at_148 (pc' := 150) rfl rfl ?_
          refine go_iload C at_150 (pc' := 152) rfl rfl ?_
          refine go_if0 C (1 : Int) (by decide) at_152 (by decide) (pc' := 178) (by decide) (pcN := 155) rfl (fun (c_1411 : ¬ (1 : Int) = 0) => ?_) (fun (c_1411 : (1 : Int) = 0) => by omega)
          refine go_aload C at_178 (pc' := 180) rfl rfl rfl ?_
          refine go_lload C at_180 (pc' := 182) rfl rfl ?_
          refine go_lload C at_182 (pc' := 184) rfl rfl ?_
          refine go_virtualN C (as := [.long x3, .long (4 : Int64)]) (rest := []) (W := 0) (sat_add_4_1_0 l Z a0 hw a_1340 r_1361 x1 (0 : Int64) (0 : Int64) (0 : Int64) x3 (4 : Int64) _ _ E_1404 F_1405 F_1406 F_1407 A_1408 g_1345 g_1362) E_1404 (wd hw 19 rfl) (wd hw 20 rfl) (wd hw 22 rfl) (wd hw 21 rfl) (wd hw 4 rfl) (wd hw 23 rfl) (by decide) pd_3 rfl rfl rfl (by decide) (by decide) (ce' := 2) (sl' := 11) rfl rfl (by decide) (by decide) at_184 (pc' := 187) rfl rfl ?_
          intro h_1412 q_1413
          obtain ⟨r_1414, g_1415, E_1416, F_1417, F_1418, F_1419, A_1420⟩ := q_1413
          refine go_lload C at_187 (pc' := 189) rfl rfl ?_
          refine go_lstore C (Ls' := #[.val (.int x0), .val (.long x1), .second, .val (.long x2), .second, .val (.long x3), .second, .val (.long x4), .second, .val (.long x5), .second, .val (.int (4 : Int32)), .val (.int (0 : Int32)), .val (.int (1 : Int32)), .val (.long win), .second, .val (.long (4 : Int64)), .second, .val (.ref a_1340), .val (.long x3), .second, .val (.int (1 : Int32)), .val (.int (1 : Int32))]) at_189 (pc' := 191) rfl rfl ?_
          refine go_iload C at_191 (pc' := 193) rfl rfl ?_
          refine go_if0 C (1 : Int) (by decide) at_193 (by decide) (pc' := 209) (by decide) (pcN := 196) rfl (fun (c_1421 : (1 : Int) = 0) => by omega) (fun (c_1421 : ¬ (1 : Int) = 0) => ?_)
          refine go_aload C at_196 (pc' := 198) rfl rfl rfl ?_
          refine go_lload C at_198 (pc' := 200) rfl rfl ?_
          refine go_lload C at_200 (pc' := 202) rfl rfl ?_
          refine go_virtualN C (as := [.long x4, .long (4 : Int64)]) (rest := []) (W := 0) (sat_add_4_1_1 l Z a0 hw a_1340 r_1414 x1 x3 (0 : Int64) (0 : Int64) x4 (4 : Int64) _ _ E_1416 F_1417 F_1418 F_1419 A_1420 g_1345 g_1415) E_1416 (wd hw 19 rfl) (wd hw 20 rfl) (wd hw 22 rfl) (wd hw 21 rfl) (wd hw 4 rfl) (wd hw 23 rfl) (by decide) pd_3 rfl rfl rfl (by decide) (by decide) (ce' := 2) (sl' := 11) rfl rfl (by decide) (by decide) at_202 (pc' := 205) rfl rfl ?_
          intro h_1422 q_1423
          obtain ⟨r_1424, g_1425, E_1426, F_1427, F_1428, F_1429, A_1430⟩ := q_1423
          refine go_lload C at_205 (pc' := 207) rfl rfl ?_
          refine go_lstore C (Ls' := #[.val (.int x0), .val (.long x1), .second, .val (.long x2), .second, .val (.long x3), .second, .val (.long x4), .second, .val (.long x5), .second, .val (.int (4 : Int32)), .val (.int (0 : Int32)), .val (.int (1 : Int32)), .val (.long win), .second, .val (.long (4 : Int64)), .second, .val (.ref a_1340), .val (.long x4), .second, .val (.int (1 : Int32)), .val (.int (1 : Int32))]) at_207 (pc' := 209) rfl rfl ?_
          refine go_iload C at_209 (pc' := 211) rfl rfl ?_
          refine go_if0 C (1 : Int) (by decide) at_211 (by decide) (pc' := 229) (by decide) (pcN := 214) rfl (fun (c_1431 : (1 : Int) = 0) => by omega) (fun (c_1431 : ¬ (1 : Int) = 0) => ?_)
          refine go_aload C at_214 (pc' := 216) rfl rfl rfl ?_
          refine go_virtualP C (as := []) (rest := []) (W := 0) (.long x4) (sat_new_4_1_2 l Z a0 hw a_1340 r_1424 x1 x3 x4 (0 : Int64) _ _ E_1426 F_1427 F_1428 F_1429 A_1430 g_1345 g_1425) E_1426 (wd hw 32 rfl) (wd hw 33 rfl) (wd hw 35 rfl) (wd hw 34 rfl) (wd hw 4 rfl) (wd hw 36 rfl) (by decide) pd_5 rfl rfl rfl (by decide) (by decide) rfl rfl (by decide) (by decide) at_216 (pc' := 219) rfl rfl ?_
          refine go_lload C at_219 (pc' := 221) rfl rfl ?_
          refine go_lcmp C x4.toInt x4.toInt rfl rfl at_221 (pc1 := 222) rfl at_222 (by decide) (pc' := 229) (by decide) (pcN := 225) rfl (fun (c_1432 : ¬ x4.toInt = x4.toInt) => by omega) (fun (c_1432 : x4.toInt = x4.toInt) => ?_)
          refine go_iconst C (1 : Int32) at_225 (pc' := 226) rfl (by decide) ?_
          refine go_goto C at_226 (by decide) (pc' := 230) (by decide) ?_
          refine go_istore C (Ls' := #[.val (.int x0), .val (.long x1), .second, .val (.long x2), .second, .val (.long x3), .second, .val (.long x4), .second, .val (.long x5), .second, .val (.int (4 : Int32)), .val (.int (0 : Int32)), .val (.int (1 : Int32)), .val (.long win), .second, .val (.long (4 : Int64)), .second, .val (.ref a_1340), .val (.long x4), .second, .val (.int (1 : Int32)), .val (.int (1 : Int32))]) at_230 (pc' := 232) rfl rfl ?_
          refine go_iload C at_232 (pc' := 234) rfl rfl ?_
          refine go_ireturnN C (z' := (1 : Int32)) rfl (by simp) rfl at_234 (by decide) (by decide) ?_
          exact ⟨_, rfl, rfl⟩
    · skip
      refine go_iconst C (1 : Int32) at_15 (pc' := 16) rfl (by decide) ?_
      refine go_goto C at_16 (by decide) (pc' := 20) (by decide) ?_
      refine go_istore C (Ls' := #[.val (.int x0), .val (.long x1), .second, .val (.long x2), .second, .val (.long x3), .second, .val (.long x4), .second, .val (.long x5), .second, .val (.int (4 : Int32)), .val (.int (1 : Int32)), .unset, .unset, .unset, .unset, .unset, .unset, .unset, .unset, .unset, .unset]) at_20 (pc' := 22) rfl rfl ?_
      refine go_iloadN C at_22 (pc' := 23) rfl rfl ?_
      refine go_iconst C (3 : Int32) at_23 (pc' := 24) rfl (by decide) ?_
      refine go_iushr C at_24 (pc' := 25) rfl ?_
      refine go_iconst C (1 : Int32) at_25 (pc' := 26) rfl (by decide) ?_
      refine go_iand C at_26 (pc' := 27) rfl ?_
      refine go_if0 C (((XT.ushr x0 (3 : Int32)) &&& (1 : Int32)).toInt) rfl at_27 (by decide) (pc' := 34) (by decide) (pcN := 30) rfl (fun (c_1433 : (((XT.ushr x0 (3 : Int32)) &&& (1 : Int32)).toInt) = 0) => ?_) (fun (c_1433 : ¬ (((XT.ushr x0 (3 : Int32)) &&& (1 : Int32)).toInt) = 0) => ?_)
      · skip
        refine go_iconst C (0 : Int32) at_34 (pc' := 35) rfl (by decide) ?_
        refine go_istore C (Ls' := #[.val (.int x0), .val (.long x1), .second, .val (.long x2), .second, .val (.long x3), .second, .val (.long x4), .second, .val (.long x5), .second, .val (.int (4 : Int32)), .val (.int (1 : Int32)), .val (.int (0 : Int32)), .unset, .unset, .unset, .unset, .unset, .unset, .unset, .unset, .unset]) at_35 (pc' := 37) rfl rfl ?_
        refine go_lconst C (1 : Int64) at_37 (pc' := 38) rfl (by decide) ?_
        refine go_iloadN C at_38 (pc' := 39) rfl rfl ?_
        refine go_iconst C (4 : Int32) at_39 (pc' := 40) rfl (by decide) ?_
        refine go_iushr C at_40 (pc' := 41) rfl ?_
        refine go_ldc C (v := (65535 : Int32)) (wd hw 0 rfl) at_41 (pc' := 43) rfl ?_
        refine go_iand C at_43 (pc' := 44) rfl ?_
        refine go_i2l C at_44 (pc' := 45) rfl ?_
        refine go_ladd C at_45 (pc' := 46) rfl ?_
        refine go_lstore C (Ls' := #[.val (.int x0), .val (.long x1), .second, .val (.long x2), .second, .val (.long x3), .second, .val (.long x4), .second, .val (.long x5), .second, .val (.int (4 : Int32)), .val (.int (1 : Int32)), .val (.int (0 : Int32)), .val (.long ((1 : Int64) + (((XT.ushr x0 (4 : Int32)) &&& (65535 : Int32)).toInt64))), .second, .unset, .unset, .unset, .unset, .unset, .unset, .unset]) at_46 (pc' := 48) rfl rfl ?_
        refine go_ldc2 C (v := (4 : Int64)) (wd hw 1 rfl) at_48 (pc' := 51) rfl ?_
        refine go_lstore C (Ls' := #[.val (.int x0), .val (.long x1), .second, .val (.long x2), .second, .val (.long x3), .second, .val (.long x4), .second, .val (.long x5), .second, .val (.int (4 : Int32)), .val (.int (1 : Int32)), .val (.int (0 : Int32)), .val (.long ((1 : Int64) + (((XT.ushr x0 (4 : Int32)) &&& (65535 : Int32)).toInt64))), .second, .val (.long (4 : Int64)), .second, .unset, .unset, .unset, .unset, .unset]) at_51 (pc' := 53) rfl rfl ?_
        generalize (1 : Int64) + (((XT.ushr x0 (4 : Int32)) &&& (65535 : Int32)).toInt64) = win
        refine go_new C (wd hw 2 rfl) (wd hw 3 rfl) (wd hw 4 rfl) at_53 (pc' := 56) rfl (ce' := 1) (sl' := 7) rfl rfl (by decide) (by decide) ?_
        intro h_1434 a_1435 g_1436 E_1437 E_1438 D_1439
        have g_1440 : Z.heap.size ≤ a_1435 := own_ge (Nat.le_refl _) g_1436
        have z_1441 : Z.heap.size ≤ h_1434.size := Nat.le_trans (Nat.le_refl _) E_1437.1
        have F_1442 : Fld Z h_1434 a_1435 "com/example/throttld/throttld/SlidingLog$Log" "ring" "[J" (.null) := D_1439 (Or.inl (wd hw 18 rfl)) (ty := (.array .long)) (by decide)
        have F_1443 : Fld Z h_1434 a_1435 "com/example/throttld/throttld/SlidingLog$Log" "count" "I" (.int (0 : Int32)) := D_1439 (Or.inl (wd hw 25 rfl)) (ty := .int) (by decide)
        have F_1444 : Fld Z h_1434 a_1435 "com/example/throttld/throttld/SlidingLog$Log" "head" "I" (.int (0 : Int32)) := D_1439 (Or.inl (wd hw 31 rfl)) (ty := .int) (by decide)
        refine go_dup C at_56 (pc' := 57) rfl rfl ?_
        refine go_iload C at_57 (pc' := 59) rfl rfl ?_
        refine go_specialN C (as := [.int (4 : Int32)]) (rest := [.ref a_1435]) (W := 1) (sat_init4 l Z a0 hw a_1435 _ _ E_1438 F_1442 F_1444 F_1443 g_1440 z_1441) rfl (wd hw 5 rfl) (wd hw 6 rfl) (wd hw 4 rfl) (wd hw 7 rfl) (by decide) pd_1 rfl rfl rfl (by decide) (by decide) (ce' := 2) (sl' := 11) rfl rfl (by decide) (by decide) at_59 (pc' := 62) rfl rfl ?_
        intro h_1445 q_1446
        obtain ⟨r_1447, g_1448, E_1449, F_1450, F_1451, F_1452, A_1453⟩ := q_1446
        refine go_astore C (Ls' := #[.val (.int x0), .val (.long x1), .second, .val (.long x2), .second, .val (.long x3), .second, .val (.long x4), .second, .val (.long x5), .second, .val (.int (4 : Int32)), .val (.int (1 : Int32)), .val (.int (0 : Int32)), .val (.long win), .second, .val (.long (4 : Int64)), .second, .val (.ref a_1435), .unset, .unset, .unset, .unset]) at_62 (pc' := 64) rfl rfl rfl ?_
        refine go_aload C at_64 (pc' := 66) rfl rfl rfl ?_
        refine go_lloadN C at_66 (pc' := 67) rfl rfl ?_
        refine go_lload C at_67 (pc' := 69) rfl rfl ?_
        refine go_virtualN C (as := [.long x1, .long (4 : Int64)]) (rest := []) (W := 0) (sat_add_4_0_0 l Z a0 hw a_1435 r_1447 (0 : Int64) (0 : Int64) (0 : Int64) (0 : Int64) x1 (4 : Int64) _ _ E_1449 F_1450 F_1451 F_1452 A_1453 g_1440 g_1448) E_1449 (wd hw 19 rfl) (wd hw 20 rfl) (wd hw 22 rfl) (wd hw 21 rfl) (wd hw 4 rfl) (wd hw 23 rfl) (by decide) pd_3 rfl rfl rfl (by decide) (by decide) (ce' := 2) (sl' := 11) rfl rfl (by decide) (by decide) at_69 (pc' := 72) rfl rfl ?_
        intro h_1454 q_1455
        obtain ⟨r_1456, g_1457, E_1458, F_1459, F_1460, F_1461, A_1462⟩ := q_1455
        refine go_lloadN C at_72 (pc' := 73) rfl rfl ?_
        refine go_lstore C (Ls' := #[.val (.int x0), .val (.long x1), .second, .val (.long x2), .second, .val (.long x3), .second, .val (.long x4), .second, .val (.long x5), .second, .val (.int (4 : Int32)), .val (.int (1 : Int32)), .val (.int (0 : Int32)), .val (.long win), .second, .val (.long (4 : Int64)), .second, .val (.ref a_1435), .val (.long x1), .second, .unset, .unset]) at_73 (pc' := 75) rfl rfl ?_
        refine go_iload C at_75 (pc' := 77) rfl rfl ?_
        refine go_if0 C (1 : Int) (by decide) at_77 (by decide) (pc' := 91) (by decide) (pcN := 80) rfl (fun (c_1463 : (1 : Int) = 0) => by omega) (fun (c_1463 : ¬ (1 : Int) = 0) => ?_)
        refine go_aload C at_80 (pc' := 82) rfl rfl rfl ?_
        refine go_lloadN C at_82 (pc' := 83) rfl rfl ?_
        refine go_lload C at_83 (pc' := 85) rfl rfl ?_
        refine go_virtualN C (as := [.long x2, .long (4 : Int64)]) (rest := []) (W := 0) (sat_add_4_0_1 l Z a0 hw a_1435 r_1456 x1 (0 : Int64) (0 : Int64) (0 : Int64) x2 (4 : Int64) _ _ E_1458 F_1459 F_1460 F_1461 A_1462 g_1440 g_1457) E_1458 (wd hw 19 rfl) (wd hw 20 rfl) (wd hw 22 rfl) (wd hw 21 rfl) (wd hw 4 rfl) (wd hw 23 rfl) (by decide) pd_3 rfl rfl rfl (by decide) (by decide) (ce' := 2) (sl' := 11) rfl rfl (by decide) (by decide) at_85 (pc' := 88) rfl rfl ?_
        intro h_1464 q_1465
        obtain ⟨r_1466, g_1467, E_1468, F_1469, F_1470, F_1471, A_1472⟩ := q_1465
        refine go_lloadN C at_88 (pc' := 89) rfl rfl ?_
        refine go_lstore C (Ls' := #[.val (.int x0), .val (.long x1), .second, .val (.long x2), .second, .val (.long x3), .second, .val (.long x4), .second, .val (.long x5), .second, .val (.int (4 : Int32)), .val (.int (1 : Int32)), .val (.int (0 : Int32)), .val (.long win), .second, .val (.long (4 : Int64)), .second, .val (.ref a_1435), .val (.long x2), .second, .unset, .unset]) at_89 (pc' := 91) rfl rfl ?_
        refine go_aload C at_91 (pc' := 93) rfl rfl rfl ?_
        refine go_virtualP C (as := []) (rest := []) (W := 0) (.long x2) (sat_new_4_0_2 l Z a0 hw a_1435 r_1466 x1 x2 (0 : Int64) (0 : Int64) _ _ E_1468 F_1469 F_1470 F_1471 A_1472 g_1440 g_1467) E_1468 (wd hw 32 rfl) (wd hw 33 rfl) (wd hw 35 rfl) (wd hw 34 rfl) (wd hw 4 rfl) (wd hw 36 rfl) (by decide) pd_5 rfl rfl rfl (by decide) (by decide) rfl rfl (by decide) (by decide) at_93 (pc' := 96) rfl rfl ?_
        refine go_lload C at_96 (pc' := 98) rfl rfl ?_
        refine go_lcmp C x2.toInt x2.toInt rfl rfl at_98 (pc1 := 99) rfl at_99 (by decide) (pc' := 106) (by decide) (pcN := 102) rfl (fun (c_1473 : ¬ x2.toInt = x2.toInt) => by omega) (fun (c_1473 : x2.toInt = x2.toInt) => ?_)
        refine go_iconst C (1 : Int32) at_102 (pc' := 103) rfl (by decide) ?_
        refine go_goto C at_103 (by decide) (pc' := 107) (by decide) ?_
        refine go_istore C (Ls' := #[.val (.int x0), .val (.long x1), .second, .val (.long x2), .second, .val (.long x3), .second, .val (.long x4), .second, .val (.long x5), .second, .val (.int (4 : Int32)), .val (.int (1 : Int32)), .val (.int (0 : Int32)), .val (.long win), .second, .val (.long (4 : Int64)), .second, .val (.ref a_1435), .val (.long x2), .second, .val (.int (1 : Int32)), .unset]) at_107 (pc' := 109) rfl rfl ?_
        refine go_aload C at_109 (pc' := 111) rfl rfl rfl ?_
        refine go_lload C at_111 (pc' := 113) rfl rfl ?_
        refine go_lload C at_113 (pc' := 115) rfl rfl ?_
        refine go_virtualN C (as := [.long x5, .long win]) (rest := []) (W := 0) (sat_drop_4_0_2 l Z a0 hw a_1435 r_1466 x1 x2 (0 : Int64) (0 : Int64) x5 win _ _ E_1468 F_1469 F_1470 F_1471 A_1472 g_1440 g_1467) E_1468 (wd hw 37 rfl) (wd hw 38 rfl) (wd hw 40 rfl) (wd hw 39 rfl) (wd hw 4 rfl) (wd hw 41 rfl) (by decide) pd_3 rfl rfl rfl (by decide) (by decide) (ce' := 2) (sl' := 11) rfl rfl (by decide) (by decide) at_115 (pc' := 118) rfl rfl ?_
        intro h_1474 q_1475
        rcases q_1475 with q_1475 | q_1475 | q_1475
        · skip
          obtain ⟨hc_1476, E_1477, F_1478, F_1479, F_1480, A_1481⟩ := q_1475
          refine go_lload C at_118 (pc' := 120) rfl rfl ?_
          refine go_lloadN C at_120 (pc' := 121) rfl rfl ?_
          refine go_lsub C at_121 (pc' := 122) rfl ?_
          refine go_lload C at_122 (pc' := 124) rfl rfl ?_
          refine go_lcmp C ((x5 - x1).toInt) win.toInt rfl rfl at_124 (pc1 := 125) rfl at_125 (by decide) (pc' := 147) (by decide) (pcN := 128) rfl (fun (c_1482 : ((x5 - x1).toInt) < win.toInt) => ?_) (fun (c_1482 : ¬ ((x5 - x1).toInt) < win.toInt) => by omega)
          refine go_iconst C (0 : Int32) at_147 (pc' := 148) rfl (by decide) ?_
          refine go_istore C (Ls' := #[.val (.int x0), .val (.long x1), .second, .val (.long x2), .second, .val (.long x3), .second, .val (.long x4), .second, .val (.long x5), .second, .val (.int (4 : Int32)), .val (.int (1 : Int32)), .val (.int (0 : Int32)), .val (.long win), .second, .val (.long (4 : Int64)), .second, .val (.ref a_1435), .val (.long x2), .second, .val (.int (1 : Int32)), .val (.int (0 : Int32))]) at_148 (pc' := 150) rfl rfl ?_
          refine go_iload C at_150 (pc' := 152) rfl rfl ?_
          refine go_if0 C (0 : Int) (by decide) at_152 (by decide) (pc' := 178) (by decide) (pcN := 155) rfl (fun (c_1483 : ¬ (0 : Int) = 0) => by omega) (fun (c_1483 : (0 : Int) = 0) => ?_)
          refine go_iload C at_155 (pc' := 157) rfl rfl ?_
          refine go_if0 C (1 : Int) (by decide) at_157 (by decide) (pc' := 175) (by decide) (pcN := 160) rfl (fun (c_1484 : (1 : Int) = 0) => by omega) (fun (c_1484 : ¬ (1 : Int) = 0) => ?_)
          refine go_aload C at_160 (pc' := 162) rfl rfl rfl ?_
          refine go_virtualP C (as := []) (rest := []) (W := 0) (.long x2) (sat_new_4_0_2 l Z a0 hw a_1435 r_1466 x1 x2 (0 : Int64) (0 : Int64) _ _ E_1477 F_1478 F_1479 F_1480 A_1481 g_1440 g_1467) E_1477 (wd hw 32 rfl) (wd hw 33 rfl) (wd hw 35 rfl) (wd hw 34 rfl) (wd hw 4 rfl) (wd hw 36 rfl) (by decide) pd_5 rfl rfl rfl (by decide) (by decide) rfl rfl (by decide) (by decide) at_162 (pc' := 165) rfl rfl ?_
          refine go_lload C at_165 (pc' := 167) rfl rfl ?_
          refine go_lcmp C x2.toInt x2.toInt rfl rfl at_167 (pc1 := 168) rfl at_168 (by decide) (pc' := 175) (by decide) (pcN := 171) rfl (fun (c_1485 : ¬ x2.toInt = x2.toInt) => by omega) (fun (c_1485 : x2.toInt = x2.toInt) => ?_)
          refine go_iconst C (1 : Int32) at_171 (pc' := 172) rfl (by decide) ?_
          refine go_goto C at_172 (by decide) (pc' := 176) (by decide) ?_
          refine go_istore C (Ls' := #[.val (.int x0), .val (.long x1), .second, .val (.long x2), .second, .val (.long x3), .second, .val (.long x4), .second, .val (.long x5), .second, .val (.int (4 : Int32)), .val (.int (1 : Int32)), .val (.int (0 : Int32)), .val (.long win), .second, .val (.long (4 : Int64)), .second, .val (.ref a_1435), .val (.long x2), .second, .val (.int (1 : Int32)), .val (.int (0 : Int32))]) at_176 (pc' := 178) rfl rfl ?_
          refine go_aload C at_178 (pc' := 180) rfl rfl rfl ?_
          refine go_lload C at_180 (pc' := 182) rfl rfl ?_
          refine go_lload C at_182 (pc' := 184) rfl rfl ?_
          refine go_virtualN C (as := [.long x3, .long (4 : Int64)]) (rest := []) (W := 0) (sat_add_4_0_2 l Z a0 hw a_1435 r_1466 x1 x2 (0 : Int64) (0 : Int64) x3 (4 : Int64) _ _ E_1477 F_1478 F_1479 F_1480 A_1481 g_1440 g_1467) E_1477 (wd hw 19 rfl) (wd hw 20 rfl) (wd hw 22 rfl) (wd hw 21 rfl) (wd hw 4 rfl) (wd hw 23 rfl) (by decide) pd_3 rfl rfl rfl (by decide) (by decide) (ce' := 2) (sl' := 11) rfl rfl (by decide) (by decide) at_184 (pc' := 187) rfl rfl ?_
          intro h_1486 q_1487
          obtain ⟨r_1488, g_1489, E_1490, F_1491, F_1492, F_1493, A_1494⟩ := q_1487
          refine go_lload C at_187 (pc' := 189) rfl rfl ?_
          refine go_lstore C (Ls' := #[.val (.int x0), .val (.long x1), .second, .val (.long x2), .second, .val (.long x3), .second, .val (.long x4), .second, .val (.long x5), .second, .val (.int (4 : Int32)), .val (.int (1 : Int32)), .val (.int (0 : Int32)), .val (.long win), .second, .val (.long (4 : Int64)), .second, .val (.ref a_1435), .val (.long x3), .second, .val (.int (1 : Int32)), .val (.int (0 : Int32))]) at_189 (pc' := 191) rfl rfl ?_
          refine go_iload C at_191 (pc' := 193) rfl rfl ?_
          refine go_if0 C (0 : Int) (by decide) at_193 (by decide) (pc' := 209) (by decide) (pcN := 196) rfl (fun (c_1495 : (0 : Int) = 0) => ?_) (fun (c_1495 : ¬ (0 : Int) = 0) => by omega)
          refine go_iload C at_209 (pc' := 211) rfl rfl ?_
          refine go_if0 C (1 : Int) (by decide) at_211 (by decide) (pc' := 229) (by decide) (pcN := 214) rfl (fun (c_1496 : (1 : Int) = 0) => by omega) (fun (c_1496 : ¬ (1 : Int) = 0) => ?_)
          refine go_aload C at_214 (pc' := 216) rfl rfl rfl ?_
          refine go_virtualP C (as := []) (rest := []) (W := 0) (.long x3) (sat_new_4_0_3 l Z a0 hw a_1435 r_1488 x1 x2 x3 (0 : Int64) _ _ E_1490 F_1491 F_1492 F_1493 A_1494 g_1440 g_1489) E_1490 (wd hw 32 rfl) (wd hw 33 rfl) (wd hw 35 rfl) (wd hw 34 rfl) (wd hw 4 rfl) (wd hw 36 rfl) (by decide) pd_5 rfl rfl rfl (by decide) (by decide) rfl rfl (by decide) (by decide) at_216 (pc' := 219) rfl rfl ?_
          refine go_lload C at_219 (pc' := 221) rfl rfl ?_
          refine go_lcmp C x3.toInt x3.toInt rfl rfl at_221 (pc1 := 222) rfl at_222 (by decide) (pc' := 229) (by decide) (pcN := 225) rfl (fun (c_1497 : ¬ x3.toInt = x3.toInt) => by omega) (fun (c_1497 : x3.toInt = x3.toInt) => ?_)
          refine go_iconst C (1 : Int32) at_225 (pc' := 226) rfl (by decide) ?_
          refine go_goto C at_226 (by decide) (pc' := 230) (by decide) ?_
          refine go_istore C (Ls' := #[.val (.int x0), .val (.long x1), .second, .val (.long x2), .second, .val (.long x3), .second, .val (.long x4), .second, .val (.long x5), .second, .val (.int (4 : Int32)), .val (.int (1 : Int32)), .val (.int (0 : Int32)), .val (.long win), .second, .val (.long (4 : Int64)), .second, .val (.ref a_1435), .val (.long x3), .second, .val (.int (1 : Int32)), .val (.int (0 : Int32))]) at_230 (pc' := 232) rfl rfl ?_
          refine go_iload C at_232 (pc' := 234) rfl rfl ?_
          refine go_ireturnN C (z' := (1 : Int32)) rfl (by simp) rfl at_234 (by decide) (by decide) ?_
          exact ⟨_, rfl, rfl⟩
        · skip
          obtain ⟨hc_1498, E_1499, F_1500, F_1501, F_1502, A_1503⟩ := q_1475
          refine go_lload C at_118 (pc' := 120) rfl rfl ?_
          refine go_lloadN C at_120 (pc' := 121) rfl rfl ?_
          refine go_lsub C at_121 (pc' := 122) rfl ?_
          refine go_lload C at_122 (pc' := 124) rfl rfl ?_
          refine go_lcmp C ((x5 - x1).toInt) win.toInt rfl rfl at_124 (pc1 := 125) rfl at_125 (by decide) (pc' := 147) (by decide) (pcN := 128) rfl (fun (c_1504 : ((x5 - x1).toInt) < win.toInt) => by omega) (fun (c_1504 : ¬ ((x5 - x1).toInt) < win.toInt) => ?_)
          refine go_iload C at_128 (pc' := 130) rfl rfl ?_
          refine go_if0 C (1 : Int) (by decide) at_130 (by decide) (pc' := 143) (by decide) (pcN := 133) rfl (fun (c_1505 : (1 : Int) = 0) => by omega) (fun (c_1505 : ¬ (1 : Int) = 0) => ?_)
          refine go_lload C at_133 (pc' := 135) rfl rfl ?_
          refine go_lloadN C at_135 (pc' := 136) rfl rfl ?_
          refine go_lsub C at_136 (pc' := 137) rfl ?_
          refine go_lload C at_137 (pc' := 139) rfl rfl ?_
          refine go_lcmp C ((x5 - x2).toInt) win.toInt rfl rfl at_139 (pc1 := 140) rfl at_140 (by decide) (pc' := 147) (by decide) (pcN := 143) rfl (fun (c_1506 : ((x5 - x2).toInt) < win.toInt) => ?_) (fun (c_1506 : ¬ ((x5 - x2).toInt) < win.toInt) => by omega)
          refine go_iconst C (0 : Int32) at_147 (pc' := 148) rfl (by decide) ?_
          refine go_istore C (Ls' := #[.val (.int x0), .val (.long x1), .second, .val (.long x2), .second, .val (.long x3), .second, .val (.long x4), .second, .val (.long x5), .second, .val (.int (4 : Int32)), .val (.int (1 : Int32)), .val (.int (0 : Int32)), .val (.long win), .second, .val (.long (4 : Int64)), .second, .val (.ref a_1435), .val (.long x2), .second, .val (.int (1 : Int32)), .val (.int (0 : Int32))]) at_148 (pc' := 150) rfl rfl ?_
          refine go_iload C at_150 (pc' := 152) rfl rfl ?_
          refine go_if0 C (0 : Int) (by decide) at_152 (by decide) (pc' := 178) (by decide) (pcN := 155) rfl (fun (c_1507 : ¬ (0 : Int) = 0) => by omega) (fun (c_1507 : (0 : Int) = 0) => ?_)
          refine go_iload C at_155 (pc' := 157) rfl rfl ?_
          refine go_if0 C (1 : Int) (by decide) at_157 (by decide) (pc' := 175) (by decide) (pcN := 160) rfl (fun (c_1508 : (1 : Int) = 0) => by omega) (fun (c_1508 : ¬ (1 : Int) = 0) => ?_)
          refine go_aload C at_160 (pc' := 162) rfl rfl rfl ?_
          refine go_virtualP C (as := []) (rest := []) (W := 0) (.long x2) (sat_new_4_1_1 l Z a0 hw a_1435 r_1466 x1 x2 (0 : Int64) (0 : Int64) _ _ E_1499 F_1500 F_1501 F_1502 A_1503 g_1440 g_1467) E_1499 (wd hw 32 rfl) (wd hw 33 rfl) (wd hw 35 rfl) (wd hw 34 rfl) (wd hw 4 rfl) (wd hw 36 rfl) (by decide) pd_5 rfl rfl rfl (by decide) (by decide) rfl rfl (by decide) (by decide) at_162 (pc' := 165) rfl rfl ?_
          refine go_lload C at_165 (pc' := 167) rfl rfl ?_
          refine go_lcmp C x2.toInt x2.toInt rfl rfl at_167 (pc1 := 168) rfl at_168 (by decide) (pc' := 175) (by decide) (pcN := 171) rfl (fun (c_1509 : ¬ x2.toInt = x2.toInt) => by omega) (fun (c_1509 : x2.toInt = x2.toInt) => ?_)
          refine go_iconst C (1 : Int32) at_171 (pc' := 172) rfl (by decide) ?_
          refine go_goto C at_172 (by decide) (pc' := 176) (by decide) ?_
          refine go_istore C (Ls' := #[.val (.int x0), .val (.long x1), .second, .val (.long x2), .second, .val (.long x3), .second, .val (.long x4), .second, .val (.long x5), .second, .val (.int (4 : Int32)), .val (.int (1 : Int32)), .val (.int (0 : Int32)), .val (.long win), .second, .val (.long (4 : Int64)), .second, .val (.ref a_1435), .val (.long x2), .second, .val (.int (1 : Int32)), .val (.int (0 : Int32))]) at_176 (pc' := 178) rfl rfl ?_
          refine go_aload C at_178 (pc' := 180) rfl rfl rfl ?_
          refine go_lload C at_180 (pc' := 182) rfl rfl ?_
          refine go_lload C at_182 (pc' := 184) rfl rfl ?_
          refine go_virtualN C (as := [.long x3, .long (4 : Int64)]) (rest := []) (W := 0) (sat_add_4_1_1 l Z a0 hw a_1435 r_1466 x1 x2 (0 : Int64) (0 : Int64) x3 (4 : Int64) _ _ E_1499 F_1500 F_1501 F_1502 A_1503 g_1440 g_1467) E_1499 (wd hw 19 rfl) (wd hw 20 rfl) (wd hw 22 rfl) (wd hw 21 rfl) (wd hw 4 rfl) (wd hw 23 rfl) (by decide) pd_3 rfl rfl rfl (by decide) (by decide) (ce' := 2) (sl' := 11) rfl rfl (by decide) (by decide) at_184 (pc' := 187) rfl rfl ?_
          intro h_1510 q_1511
          obtain ⟨r_1512, g_1513, E_1514, F_1515, F_1516, F_1517, A_1518⟩ := q_1511
          refine go_lload C at_187 (pc' := 189) rfl rfl ?_
          refine go_lstore C (Ls' := #[.val (.int x0), .val (.long x1), .second, .val (.long x2), .second, .val (.long x3), .second, .val (.long x4), .second, .val (.long x5), .second, .val (.int (4 : Int32)), .val (.int (1 : Int32)), .val (.int (0 : Int32)), .val (.long win), .second, .val (.long (4 : Int64)), .second, .val (.ref a_1435), .val (.long x3), .second, .val (.int (1 : Int32)), .val (.int (0 : Int32))]) at_189 (pc' := 191) rfl rfl ?_
          refine go_iload C at_191 (pc' := 193) rfl rfl ?_
          refine go_if0 C (0 : Int) (by decide) at_193 (by decide) (pc' := 209) (by decide) (pcN := 196) rfl (fun (c_1519 : (0 : Int) = 0) => ?_) (fun (c_1519 : ¬ (0 : Int) = 0) => by omega)
          refine go_iload C at_209 (pc' := 211) rfl rfl ?_
          refine go_if0 C (1 : Int) (by decide) at_211 (by decide) (pc' := 229) (by decide) (pcN := 214) rfl (fun (c_1520 : (1 : Int) = 0) => by omega) (fun (c_1520 : ¬ (1 : Int) = 0) => ?_)
          refine go_aload C at_214 (pc' := 216) rfl rfl rfl ?_
          refine go_virtualP C (as := []) (rest := []) (W := 0) (.long x3) (sat_new_4_1_2 l Z a0 hw a_1435 r_1512 x1 x2 x3 (0 : Int64) _ _ E_1514 F_1515 F_1516 F_1517 A_1518 g_1440 g_1513) E_1514 (wd hw 32 rfl) (wd hw 33 rfl) (wd hw 35 rfl) (wd hw 34 rfl) (wd hw 4 rfl) (wd hw 36 rfl) (by decide) pd_5 rfl rfl rfl (by decide) (by decide) rfl rfl (by decide) (by decide) at_216 (pc' := 219) rfl rfl ?_
          refine go_lload C at_219 (pc' := 221) rfl rfl ?_
          refine go_lcmp C x3.toInt x3.toInt rfl rfl at_221 (pc1 := 222) rfl at_222 (by decide) (pc' := 229) (by decide) (pcN := 225) rfl (fun (c_1521 : ¬ x3.toInt = x3.toInt) => by omega) (fun (c_1521 : x3.toInt = x3.toInt) => ?_)
          refine go_iconst C (1 : Int32) at_225 (pc' := 226) rfl (by decide) ?_
          refine go_goto C at_226 (by decide) (pc' := 230) (by decide) ?_
          refine go_istore C (Ls' := #[.val (.int x0), .val (.long x1), .second, .val (.long x2), .second, .val (.long x3), .second, .val (.long x4), .second, .val (.long x5), .second, .val (.int (4 : Int32)), .val (.int (1 : Int32)), .val (.int (0 : Int32)), .val (.long win), .second, .val (.long (4 : Int64)), .second, .val (.ref a_1435), .val (.long x3), .second, .val (.int (1 : Int32)), .val (.int (0 : Int32))]) at_230 (pc' := 232) rfl rfl ?_
          refine go_iload C at_232 (pc' := 234) rfl rfl ?_
          refine go_ireturnN C (z' := (1 : Int32)) rfl (by simp) rfl at_234 (by decide) (by decide) ?_
          exact ⟨_, rfl, rfl⟩
        · skip
          obtain ⟨hc_1522, E_1523, F_1524, F_1525, F_1526, A_1527⟩ := q_1475
          refine go_lload C at_118 (pc' := 120) rfl rfl ?_
          refine go_lloadN C at_120 (pc' := 121) rfl rfl ?_
          refine go_lsub C at_121 (pc' := 122) rfl ?_
          refine go_lload C at_122 (pc' := 124) rfl rfl ?_
          refine go_lcmp C ((x5 - x1).toInt) win.toInt rfl rfl at_124 (pc1 := 125) rfl at_125 (by decide) (pc' := 147) (by decide) (pcN := 128) rfl (fun (c_1528 : ((x5 - x1).toInt) < win.toInt) => by omega) (fun (c_1528 : ¬ ((x5 - x1).toInt) < win.toInt) => ?_)
          refine go_iload C at_128 (pc' := 130) rfl rfl ?_
          refine go_if0 C (1 : Int) (by decide) at_130 (by decide) (pc' := 143) (by decide) (pcN := 133) rfl (fun (c_1529 : (1 : Int) = 0) => by omega) (fun (c_1529 : ¬ (1 : Int) = 0) => ?_)
          refine go_lload C at_133 (pc' := 135) rfl rfl ?_
          refine go_lloadN C at_135 (pc' := 136) rfl rfl ?_
          refine go_lsub C at_136 (pc' := 137) rfl ?_
          refine go_lload C at_137 (pc' := 139) rfl rfl ?_
          refine go_lcmp C ((x5 - x2).toInt) win.toInt rfl rfl at_139 (pc1 := 140) rfl at_140 (by decide) (pc' := 147) (by decide) (pcN := 143) rfl (fun (c_1530 : ((x5 - x2).toInt) < win.toInt) => by omega) (fun (c_1530 : ¬ ((x5 - x2).toInt) < win.toInt) => ?_)
          refine go_iconst C (1 : Int32) at_143 (pc' := 144) rfl (by decide) ?_
          refine go_goto C at_144 (by decide) (pc' := 148) (by decide) ?_
          refine go_istore C (Ls' := #[.val (.int x0), .val (.long x1), .second, .val (.long x2), .second, .val (.long x3), .second, .val (.long x4), .second, .val (.long x5), .second, .val (.int (4 : Int32)), .val (.int (1 : Int32)), .val (.int (0 : Int32)), .val (.long win), .second, .val (.long (4 : Int64)), .second, .val (.ref a_1435), .val (.long x2), .second, .val (.int (1 : Int32)), .val (.int (1 : Int32))]) at_148 (pc' := 150) rfl rfl ?_
          refine go_iload C at_150 (pc' := 152) rfl rfl ?_
          refine go_if0 C (1 : Int) (by decide) at_152 (by decide) (pc' := 178) (by decide) (pcN := 155) rfl (fun (c_1531 : ¬ (1 : Int) = 0) => ?_) (fun (c_1531 : (1 : Int) = 0) => by omega)
          refine go_aload C at_178 (pc' := 180) rfl rfl rfl ?_
          refine go_lload C at_180 (pc' := 182) rfl rfl ?_
          refine go_lload C at_182 (pc' := 184) rfl rfl ?_
          refine go_virtualN C (as := [.long x3, .long (4 : Int64)]) (rest := []) (W := 0) (sat_add_4_2_0 l Z a0 hw a_1435 r_1466 x1 x2 (0 : Int64) (0 : Int64) x3 (4 : Int64) _ _ E_1523 F_1524 F_1525 F_1526 A_1527 g_1440 g_1467) E_1523 (wd hw 19 rfl) (wd hw 20 rfl) (wd hw 22 rfl) (wd hw 21 rfl) (wd hw 4 rfl) (wd hw 23 rfl) (by decide) pd_3 rfl rfl rfl (by decide) (by decide) (ce' := 2) (sl' := 11) rfl rfl (by decide) (by decide) at_184 (pc' := 187) rfl rfl ?_
          intro h_1532 q_1533
          obtain ⟨r_1534, g_1535, E_1536, F_1537, F_1538, F_1539, A_1540⟩ := q_1533
          refine go_lload C at_187 (pc' := 189) rfl rfl ?_
          refine go_lstore C (Ls' := #[.val (.int x0), .val (.long x1), .second, .val (.long x2), .second, .val (.long x3), .second, .val (.long x4), .second, .val (.long x5), .second, .val (.int (4 : Int32)), .val (.int (1 : Int32)), .val (.int (0 : Int32)), .val (.long win), .second, .val (.long (4 : Int64)), .second, .val (.ref a_1435), .val (.long x3), .second, .val (.int (1 : Int32)), .val (.int (1 : Int32))]) at_189 (pc' := 191) rfl rfl ?_
          refine go_iload C at_191 (pc' := 193) rfl rfl ?_
          refine go_if0 C (0 : Int) (by decide) at_193 (by decide) (pc' := 209) (by decide) (pcN := 196) rfl (fun (c_1541 : (0 : Int) = 0) => ?_) (fun (c_1541 : ¬ (0 : Int) = 0) => by omega)
          refine go_iload C at_209 (pc' := 211) rfl rfl ?_
          refine go_if0 C (1 : Int) (by decide) at_211 (by decide) (pc' := 229) (by decide) (pcN := 214) rfl (fun (c_1542 : (1 : Int) = 0) => by omega) (fun (c_1542 : ¬ (1 : Int) = 0) => ?_)
          refine go_aload C at_214 (pc' := 216) rfl rfl rfl ?_
          refine go_virtualP C (as := []) (rest := []) (W := 0) (.long x3) (sat_new_4_2_1 l Z a0 hw a_1435 r_1534 x1 x2 x3 (0 : Int64) _ _ E_1536 F_1537 F_1538 F_1539 A_1540 g_1440 g_1535) E_1536 (wd hw 32 rfl) (wd hw 33 rfl) (wd hw 35 rfl) (wd hw 34 rfl) (wd hw 4 rfl) (wd hw 36 rfl) (by decide) pd_5 rfl rfl rfl (by decide) (by decide) rfl rfl (by decide) (by decide) at_216 (pc' := 219) rfl rfl ?_
          refine go_lload C at_219 (pc' := 221) rfl rfl ?_
          refine go_lcmp C x3.toInt x3.toInt rfl rfl at_221 (pc1 := 222) rfl at_222 (by decide) (pc' := 229) (by decide) (pcN := 225) rfl (fun (c_1543 : ¬ x3.toInt = x3.toInt) => by omega) (fun (c_1543 : x3.toInt = x3.toInt) => ?_)
          refine go_iconst C (1 : Int32) at_225 (pc' := 226) rfl (by decide) ?_
          refine go_goto C at_226 (by decide) (pc' := 230) (by decide) ?_
          refine go_istore C (Ls' := #[.val (.int x0), .val (.long x1), .second, .val (.long x2), .second, .val (.long x3), .second, .val (.long x4), .second, .val (.long x5), .second, .val (.int (4 : Int32)), .val (.int (1 : Int32)), .val (.int (0 : Int32)), .val (.long win), .second, .val (.long (4 : Int64)), .second, .val (.ref a_1435), .val (.long x3), .second, .val (.int (1 : Int32)), .val (.int (1 : Int32))]) at_230 (pc' := 232) rfl rfl ?_
          refine go_iload C at_232 (pc' := 234) rfl rfl ?_
          refine go_ireturnN C (z' := (1 : Int32)) rfl (by simp) rfl at_234 (by decide) (by decide) ?_
          exact ⟨_, rfl, rfl⟩
      · skip
        refine go_iconst C (1 : Int32) at_30 (pc' := 31) rfl (by decide) ?_
        refine go_goto C at_31 (by decide) (pc' := 35) (by decide) ?_
        refine go_istore C (Ls' := #[.val (.int x0), .val (.long x1), .second, .val (.long x2), .second, .val (.long x3), .second, .val (.long x4), .second, .val (.long x5), .second, .val (.int (4 : Int32)), .val (.int (1 : Int32)), .val (.int (1 : Int32)), .unset, .unset, .unset, .unset, .unset, .unset, .unset, .unset, .unset]) at_35 (pc' := 37) rfl rfl ?_
        refine go_lconst C (1 : Int64) at_37 (pc' := 38) rfl (by decide) ?_
        refine go_iloadN C at_38 (pc' := 39) rfl rfl ?_
        refine go_iconst C (4 : Int32) at_39 (pc' := 40) rfl (by decide) ?_
        refine go_iushr C at_40 (pc' := 41) rfl ?_
        refine go_ldc C (v := (65535 : Int32)) (wd hw 0 rfl) at_41 (pc' := 43) rfl ?_
        refine go_iand C at_43 (pc' := 44) rfl ?_
        refine go_i2l C at_44 (pc' := 45) rfl ?_
        refine go_ladd C at_45 (pc' := 46) rfl ?_
        refine go_lstore C (Ls' := #[.val (.int x0), .val (.long x1), .second, .val (.long x2), .second, .val (.long x3), .second, .val (.long x4), .second, .val (.long x5), .second, .val (.int (4 : Int32)), .val (.int (1 : Int32)), .val (.int (1 : Int32)), .val (.long ((1 : Int64) + (((XT.ushr x0 (4 : Int32)) &&& (65535 : Int32)).toInt64))), .second, .unset, .unset, .unset, .unset, .unset, .unset, .unset]) at_46 (pc' := 48) rfl rfl ?_
        refine go_ldc2 C (v := (4 : Int64)) (wd hw 1 rfl) at_48 (pc' := 51) rfl ?_
        refine go_lstore C (Ls' := #[.val (.int x0), .val (.long x1), .second, .val (.long x2), .second, .val (.long x3), .second, .val (.long x4), .second, .val (.long x5), .second, .val (.int (4 : Int32)), .val (.int (1 : Int32)), .val (.int (1 : Int32)), .val (.long ((1 : Int64) + (((XT.ushr x0 (4 : Int32)) &&& (65535 : Int32)).toInt64))), .second, .val (.long (4 : Int64)), .second, .unset, .unset, .unset, .unset, .unset]) at_51 (pc' := 53) rfl rfl ?_
        generalize (1 : Int64) + (((XT.ushr x0 (4 : Int32)) &&& (65535 : Int32)).toInt64) = win
        refine go_new C (wd hw 2 rfl) (wd hw 3 rfl) (wd hw 4 rfl) at_53 (pc' := 56) rfl (ce' := 1) (sl' := 7) rfl rfl (by decide) (by decide) ?_
        intro h_1544 a_1545 g_1546 E_1547 E_1548 D_1549
        have g_1550 : Z.heap.size ≤ a_1545 := own_ge (Nat.le_refl _) g_1546
        have z_1551 : Z.heap.size ≤ h_1544.size := Nat.le_trans (Nat.le_refl _) E_1547.1
        have F_1552 : Fld Z h_1544 a_1545 "com/example/throttld/throttld/SlidingLog$Log" "ring" "[J" (.null) := D_1549 (Or.inl (wd hw 18 rfl)) (ty := (.array .long)) (by decide)
        have F_1553 : Fld Z h_1544 a_1545 "com/example/throttld/throttld/SlidingLog$Log" "count" "I" (.int (0 : Int32)) := D_1549 (Or.inl (wd hw 25 rfl)) (ty := .int) (by decide)
        have F_1554 : Fld Z h_1544 a_1545 "com/example/throttld/throttld/SlidingLog$Log" "head" "I" (.int (0 : Int32)) := D_1549 (Or.inl (wd hw 31 rfl)) (ty := .int) (by decide)
        refine go_dup C at_56 (pc' := 57) rfl rfl ?_
        refine go_iload C at_57 (pc' := 59) rfl rfl ?_
        refine go_specialN C (as := [.int (4 : Int32)]) (rest := [.ref a_1545]) (W := 1) (sat_init4 l Z a0 hw a_1545 _ _ E_1548 F_1552 F_1554 F_1553 g_1550 z_1551) rfl (wd hw 5 rfl) (wd hw 6 rfl) (wd hw 4 rfl) (wd hw 7 rfl) (by decide) pd_1 rfl rfl rfl (by decide) (by decide) (ce' := 2) (sl' := 11) rfl rfl (by decide) (by decide) at_59 (pc' := 62) rfl rfl ?_
        intro h_1555 q_1556
        obtain ⟨r_1557, g_1558, E_1559, F_1560, F_1561, F_1562, A_1563⟩ := q_1556
        refine go_astore C (Ls' := #[.val (.int x0), .val (.long x1), .second, .val (.long x2), .second, .val (.long x3), .second, .val (.long x4), .second, .val (.long x5), .second, .val (.int (4 : Int32)), .val (.int (1 : Int32)), .val (.int (1 : Int32)), .val (.long win), .second, .val (.long (4 : Int64)), .second, .val (.ref a_1545), .unset, .unset, .unset, .unset]) at_62 (pc' := 64) rfl rfl rfl ?_
        refine go_aload C at_64 (pc' := 66) rfl rfl rfl ?_
        refine go_lloadN C at_66 (pc' := 67) rfl rfl ?_
        refine go_lload C at_67 (pc' := 69) rfl rfl ?_
        refine go_virtualN C (as := [.long x1, .long (4 : Int64)]) (rest := []) (W := 0) (sat_add_4_0_0 l Z a0 hw a_1545 r_1557 (0 : Int64) (0 : Int64) (0 : Int64) (0 : Int64) x1 (4 : Int64) _ _ E_1559 F_1560 F_1561 F_1562 A_1563 g_1550 g_1558) E_1559 (wd hw 19 rfl) (wd hw 20 rfl) (wd hw 22 rfl) (wd hw 21 rfl) (wd hw 4 rfl) (wd hw 23 rfl) (by decide) pd_3 rfl rfl rfl (by decide) (by decide) (ce' := 2) (sl' := 11) rfl rfl (by decide) (by decide) at_69 (pc' := 72) rfl rfl ?_
        intro h_1564 q_1565
        obtain ⟨r_1566, g_1567, E_1568, F_1569, F_1570, F_1571, A_1572⟩ := q_1565
        refine go_lloadN C at_72 (pc' := 73) rfl rfl ?_
        refine go_lstore C (Ls' := #[.val (.int x0), .val (.long x1), .second, .val (.long x2), .second, .val (.long x3), .second, .val (.long x4), .second, .val (.long x5), .second, .val (.int (4 : Int32)), .val (.int (1 : Int32)), .val (.int (1 : Int32)), .val (.long win), .second, .val (.long (4 : Int64)), .second, .val (.ref a_1545), .val (.long x1), .second, .unset, .unset]) at_73 (pc' := 75) rfl rfl ?_
        refine go_iload C at_75 (pc' := 77) rfl rfl ?_
        refine go_if0 C (1 : Int) (by decide) at_77 (by decide) (pc' := 91) (by decide) (pcN := 80) rfl (fun (c_1573 : (1 : Int) = 0) => by omega) (fun (c_1573 : ¬ (1 : Int) = 0) => ?_)
        refine go_aload C at_80 (pc' := 82) rfl rfl rfl ?_
        refine go_lloadN C at_82 (pc' := 83) rfl rfl ?_
        refine go_lload C at_83 (pc' := 85) rfl rfl ?_
        refine go_virtualN C (as := [.long x2, .long (4 : Int64)]) (rest := []) (W := 0) (sat_add_4_0_1 l Z a0 hw a_1545 r_1566 x1 (0 : Int64) (0 : Int64) (0 : Int64) x2 (4 : Int64) _ _ E_1568 F_1569 F_1570 F_1571 A_1572 g_1550 g_1567) E_1568 (wd hw 19 rfl) (wd hw 20 rfl) (wd hw 22 rfl) (wd hw 21 rfl) (wd hw 4 rfl) (wd hw 23 rfl) (by decide) pd_3 rfl rfl rfl (by decide) (by decide) (ce' := 2) (sl' := 11) rfl rfl (by decide) (by decide) at_85 (pc' := 88) rfl rfl ?_
        intro h_1574 q_1575
        obtain ⟨r_1576, g_1577, E_1578, F_1579, F_1580, F_1581, A_1582⟩ := q_1575
        refine go_lloadN C at_88 (pc' := 89) rfl rfl ?_
        refine go_lstore C (Ls' := #[.val (.int x0), .val (.long x1), .second, .val (.long x2), .second, .val (.long x3), .second, .val (.long x4), .second, .val (.long x5), .second, .val (.int (4 : Int32)), .val (.int (1 : Int32)), .val (.int (1 : Int32)), .val (.long win), .second, .val (.long (4 : Int64)), .second, .val (.ref a_1545), .val (.long x2), .second, .unset, .unset]) at_89 (pc' := 91) rfl rfl ?_
        refine go_aload C at_91 (pc' := 93) rfl rfl rfl ?_
        refine go_virtualP C (as := []) (rest := []) (W := 0) (.long x2) (sat_new_4_0_2 l Z a0 hw a_1545 r_1576 x1 x2 (0 : Int64) (0 : Int64) _ _ E_1578 F_1579 F_1580 F_1581 A_1582 g_1550 g_1577) E_1578 (wd hw 32 rfl) (wd hw 33 rfl) (wd hw 35 rfl) (wd hw 34 rfl) (wd hw 4 rfl) (wd hw 36 rfl) (by decide) pd_5 rfl rfl rfl (by decide) (by decide) rfl rfl (by decide) (by decide) at_93 (pc' := 96) rfl rfl ?_
        refine go_lload C at_96 (pc' := 98) rfl rfl ?_
        refine go_lcmp C x2.toInt x2.toInt rfl rfl at_98 (pc1 := 99) rfl at_99 (by decide) (pc' := 106) (by decide) (pcN := 102) rfl (fun (c_1583 : ¬ x2.toInt = x2.toInt) => by omega) (fun (c_1583 : x2.toInt = x2.toInt) => ?_)
        refine go_iconst C (1 : Int32) at_102 (pc' := 103) rfl (by decide) ?_
        refine go_goto C at_103 (by decide) (pc' := 107) (by decide) ?_
        refine go_istore C (Ls' := #[.val (.int x0), .val (.long x1), .second, .val (.long x2), .second, .val (.long x3), .second, .val (.long x4), .second, .val (.long x5), .second, .val (.int (4 : Int32)), .val (.int (1 : Int32)), .val (.int (1 : Int32)), .val (.long win), .second, .val (.long (4 : Int64)), .second, .val (.ref a_1545), .val (.long x2), .second, .val (.int (1 : Int32)), .unset]) at_107 (pc' := 109) rfl rfl ?_
        refine go_aload C at_109 (pc' := 111) rfl rfl rfl ?_
        refine go_lload C at_111 (pc' := 113) rfl rfl ?_
        refine go_lload C at_113 (pc' := 115) rfl rfl ?_
        refine go_virtualN C (as := [.long x5, .long win]) (rest := []) (W := 0) (sat_drop_4_0_2 l Z a0 hw a_1545 r_1576 x1 x2 (0 : Int64) (0 : Int64) x5 win _ _ E_1578 F_1579 F_1580 F_1581 A_1582 g_1550 g_1577) E_1578 (wd hw 37 rfl) (wd hw 38 rfl) (wd hw 40 rfl) (wd hw 39 rfl) (wd hw 4 rfl) (wd hw 41 rfl) (by decide) pd_3 rfl rfl rfl (by decide) (by decide) (ce' := 2) (sl' := 11) rfl rfl (by decide) (by decide) at_115 (pc' := 118) rfl rfl ?_
        intro h_1584 q_1585
        rcases q_1585 with q_1585 | q_1585 | q_1585
        · skip
          obtain ⟨hc_1586, E_1587, F_1588, F_1589, F_1590, A_1591⟩ := q_1585
          refine go_lload C at_118 (pc' := 120) rfl rfl ?_
          refine go_lloadN C at_120 (pc' := 121) rfl rfl ?_
          refine go_lsub C at_121 (pc' := 122) rfl ?_
          refine go_lload C at_122 (pc' := 124) rfl rfl ?_
          refine go_lcmp C ((x5 - x1).toInt) win.toInt rfl rfl at_124 (pc1 := 125) rfl at_125 (by decide) (pc' := 147) (by decide) (pcN := 128) rfl (fun (c_1592 : ((x5 - x1).toInt) < win.toInt) => ?_) (fun (c_1592 : ¬ ((x5 - x1).toInt) < win.toInt) => by omega)
          refine go_iconst C (0 : Int32) at_147 (pc' := 148) rfl (by decide) ?_
          refine go_istore C (Ls' := #[.val (.int x0), .val (.long x1), .second, .val (.long x2), .second, .val (.long x3), .second, .val (.long x4), .second, .val (.long x5), .second, .val (.int (4 : Int32)), .val (.int (1 : Int32)), .val (.int (1 : Int32)), .val (.long win), .second, .val (.long (4 : Int64)), .second, .val (.ref a_1545), .val (.long x2), .second, .val (.int (1 : Int32)), .val (.int (0 : Int32))]) at_148 (pc' := 150) rfl rfl ?_
          refine go_iload C at_150 (pc' := 152) rfl rfl ?_
          refine go_if0 C (0 : Int) (by decide) at_152 (by decide) (pc' := 178) (by decide) (pcN := 155) rfl (fun (c_1593 : ¬ (0 : Int) = 0) => by omega) (fun (c_1593 : (0 : Int) = 0) => ?_)
          refine go_iload C at_155 (pc' := 157) rfl rfl ?_
          refine go_if0 C (1 : Int) (by decide) at_157 (by decide) (pc' := 175) (by decide) (pcN := 160) rfl (fun (c_1594 : (1 : Int) = 0) => by omega) (fun (c_1594 : ¬ (1 : Int) = 0) => ?_)
          refine go_aload C at_160 (pc' := 162) rfl rfl rfl ?_
          refine go_virtualP C (as := []) (rest := []) (W := 0) (.long x2) (sat_new_4_0_2 l Z a0 hw a_1545 r_1576 x1 x2 (0 : Int64) (0 : Int64) _ _ E_1587 F_1588 F_1589 F_1590 A_1591 g_1550 g_1577) E_1587 (wd hw 32 rfl) (wd hw 33 rfl) (wd hw 35 rfl) (wd hw 34 rfl) (wd hw 4 rfl) (wd hw 36 rfl) (by decide) pd_5 rfl rfl rfl (by decide) (by decide) rfl rfl (by decide) (by decide) at_162 (pc' := 165) rfl rfl ?_
          refine go_lload C at_165 (pc' := 167) rfl rfl ?_
          refine go_lcmp C x2.toInt x2.toInt rfl rfl at_167 (pc1 := 168) rfl at_168 (by decide) (pc' := 175) (by decide) (pcN := 171) rfl (fun (c_1595 : ¬ x2.toInt = x2.toInt) => by omega) (fun (c_1595 : x2.toInt = x2.toInt) => ?_)
          refine go_iconst C (1 : Int32) at_171 (pc' := 172) rfl (by decide) ?_
          refine go_goto C at_172 (by decide) (pc' := 176) (by decide) ?_
          refine go_istore C (Ls' := #[.val (.int x0), .val (.long x1), .second, .val (.long x2), .second, .val (.long x3), .second, .val (.long x4), .second, .val (.long x5), .second, .val (.int (4 : Int32)), .val (.int (1 : Int32)), .val (.int (1 : Int32)), .val (.long win), .second, .val (.long (4 : Int64)), .second, .val (.ref a_1545), .val (.long x2), .second, .val (.int (1 : Int32)), .val (.int (0 : Int32))]) at_176 (pc' := 178) rfl rfl ?_
          refine go_aload C at_178 (pc' := 180) rfl rfl rfl ?_
          refine go_lload C at_180 (pc' := 182) rfl rfl ?_
          refine go_lload C at_182 (pc' := 184) rfl rfl ?_
          refine go_virtualN C (as := [.long x3, .long (4 : Int64)]) (rest := []) (W := 0) (sat_add_4_0_2 l Z a0 hw a_1545 r_1576 x1 x2 (0 : Int64) (0 : Int64) x3 (4 : Int64) _ _ E_1587 F_1588 F_1589 F_1590 A_1591 g_1550 g_1577) E_1587 (wd hw 19 rfl) (wd hw 20 rfl) (wd hw 22 rfl) (wd hw 21 rfl) (wd hw 4 rfl) (wd hw 23 rfl) (by decide) pd_3 rfl rfl rfl (by decide) (by decide) (ce' := 2) (sl' := 11) rfl rfl (by decide) (by decide) at_184 (pc' := 187) rfl rfl ?_
          intro h_1596 q_1597
          obtain ⟨r_1598, g_1599, E_1600, F_1601, F_1602, F_1603, A_1604⟩ := q_1597
          refine go_lload C at_187 (pc' := 189) rfl rfl ?_
          refine go_lstore C (Ls' := #[.val (.int x0), .val (.long x1), .second, .val (.long x2), .second, .val (.long x3), .second, .val (.long x4), .second, .val (.long x5), .second, .val (.int (4 : Int32)), .val (.int (1 : Int32)), .val (.int (1 : Int32)), .val (.long win), .second, .val (.long (4 : Int64)), .second, .val (.ref a_1545), .val (.long x3), .second, .val (.int (1 : Int32)), .val (.int (0 : Int32))]) at_189 (pc' := 191) rfl rfl ?_
          refine go_iload C at_191 (pc' := 193) rfl rfl ?_
          refine go_if0 C (1 : Int) (by decide) at_193 (by decide) (pc' := 209) (by decide) (pcN := 196) rfl (fun (c_1605 : (1 : Int) = 0) => by omega) (fun (c_1605 : ¬ (1 : Int) = 0) => ?_)
          refine go_aload C at_196 (pc' := 198) rfl rfl rfl ?_
          refine go_lload C at_198 (pc' := 200) rfl rfl ?_
          refine go_lload C at_200 (pc' := 202) rfl rfl ?_
          refine go_virtualN C (as := [.long x4, .long (4 : Int64)]) (rest := []) (W := 0) (sat_add_4_0_3 l Z a0 hw a_1545 r_1598 x1 x2 x3 (0 : Int64) x4 (4 : Int64) _ _ E_1600 F_1601 F_1602 F_1603 A_1604 g_1550 g_1599) E_1600 (wd hw 19 rfl) (wd hw 20 rfl) (wd hw 22 rfl) (wd hw 21 rfl) (wd hw 4 rfl) (wd hw 23 rfl) (by decide) pd_3 rfl rfl rfl (by decide) (by decide) (ce' := 2) (sl' := 11) rfl rfl (by decide) (by decide) at_202 (pc' := 205) rfl rfl ?_
          intro h_1606 q_1607
          obtain ⟨r_1608, g_1609, E_1610, F_1611, F_1612, F_1613, A_1614⟩ := q_1607
          refine go_lload C at_205 (pc' := 207) rfl rfl ?_
          refine go_lstore C (Ls' := #[.val (.int x0), .val (.long x1), .second, .val (.long x2), .second, .val (.long x3), .second, .val (.long x4), .second, .val (.long x5), .second, .val (.int (4 : Int32)), .val (.int (1 : Int32)), .val (.int (1 : Int32)), .val (.long win), .second, .val (.long (4 : Int64)), .second, .val (.ref a_1545), .val (.long x4), .second, .val (.int (1 : Int32)), .val (.int (0 : Int32))]) at_207 (pc' := 209) rfl rfl ?_
          refine go_iload C at_209 (pc' := 211) rfl rfl ?_
          refine go_if0 C (1 : Int) (by decide) at_211 (by decide) (pc' := 229) (by decide) (pcN := 214) rfl (fun (c_1615 : (1 : Int) = 0) => by omega) (fun (c_1615 : ¬ (1 : Int) = 0) => ?_)
          refine go_aload C at_214 (pc' := 216) rfl rfl rfl ?_
          refine go_virtualP C (as := []) (rest := []) (W := 0) (.long x4) (sat_new_4_0_4 l Z a0 hw a_1545 r_1608 x1 x2 x3 x4 _ _ E_1610 F_1611 F_1612 F_1613 A_1614 g_1550 g_1609) E_1610 (wd hw 32 rfl) (wd hw 33 rfl) (wd hw 35 rfl) (wd hw 34 rfl) (wd hw 4 rfl) (wd hw 36 rfl) (by decide) pd_5 rfl rfl rfl (by decide) (by decide) rfl rfl (by decide) (by decide) at_216 (pc' := 219) rfl rfl ?_
          refine go_lload C at_219 (pc' := 221) rfl rfl ?_
          refine go_lcmp C x4.toInt x4.toInt rfl rfl at_221 (pc1 := 222) rfl at_222 (by decide) (pc' := 229) (by decide) (pcN := 225) rfl (fun (c_1616 : ¬ x4.toInt = x4.toInt) => by omega) (fun (c_1616 : x4.toInt = x4.toInt) => ?_)
          refine go_iconst C (1 : Int32) at_225 (pc' := 226) rfl (by decide) ?_
          refine go_goto C at_226 (by decide) (pc' := 230) (by decide) ?_
          refine go_istore C (Ls' := #[.val (.int x0), .val (.long x1), .second, .val (.long x2), .second, .val (.long x3), .second, .val (.long x4), .second, .val (.long x5), .second, .val (.int (4 : Int32)), .val (.int (1 : Int32)), .val (.int (1 : Int32)), .val (.long win), .second, .val (.long (4 : Int64)), .second, .val (.ref a_1545), .val (.long x4), .second, .val (.int (1 : Int32)), .val (.int (0 : Int32))]) at_230 (pc' := 232) rfl rfl ?_
          refine go_iload C at_232 (pc' := 234) rfl rfl ?_
          refine go_ireturnN C (z' := (1 : Int32)) rfl (by simp) rfl at_234 (by decide) (by decide) ?_
          exact ⟨_, rfl, rfl⟩
        · skip
          obtain ⟨hc_1617, E_1618, F_1619, F_1620, F_1621, A_1622⟩ := q_1585
          refine go_lload C at_118 (pc' := 120) rfl rfl ?_
          refine go_lloadN C at_120 (pc' := 121) rfl rfl ?_
          refine go_lsub C at_121 (pc' := 122) rfl ?_
          refine go_lload C at_122 (pc' := 124) rfl rfl ?_
          refine go_lcmp C ((x5 - x1).toInt) win.toInt rfl rfl at_124 (pc1 := 125) rfl at_125 (by decide) (pc' := 147) (by decide) (pcN := 128) rfl (fun (c_1623 : ((x5 - x1).toInt) < win.toInt) => by omega) (fun (c_1623 : ¬ ((x5 - x1).toInt) < win.toInt) => ?_)
          refine go_iload C at_128 (pc' := 130) rfl rfl ?_
          refine go_if0 C (1 : Int) (by decide) at_130 (by decide) (pc' := 143) (by decide) (pcN := 133) rfl (fun (c_1624 : (1 : Int) = 0) => by omega) (fun (c_1624 : ¬ (1 : Int) = 0) => ?_)
          refine go_lload C at_133 (pc' := 135) rfl rfl ?_
          refine go_lloadN C at_135 (pc' := 136) rfl rfl ?_
          refine go_lsub C at_136 (pc' := 137) rfl ?_
          refine go_lload C at_137 (pc' := 139) rfl rfl ?_
          refine go_lcmp C ((x5 - x2).toInt) win.toInt rfl rfl at_139 (pc1 := 140) rfl at_140 (by decide) (pc' := 147) (by decide) (pcN := 143) rfl (fun (c_1625 : ((x5 - x2).toInt) < win.toInt) => ?_) (fun (c_1625 : ¬ ((x5 - x2).toInt) < win.toInt) => by omega)
          refine go_iconst C (0 : Int32) at_147 (pc' := 148) rfl (by decide) ?_
          refine go_istore C (Ls' := #[.val (.int x0), .val (.long x1), .second, .val (.long x2), .second, .val (.long x3), .second, .val (.long x4), .second, .val (.long x5), .second, .val (.int (4 : Int32)), .val (.int (1 : Int32)), .val (.int (1 : Int32)), .val (.long win), .second, .val (.long (4 : Int64)), .second, .val (.ref a_1545), .val (.long x2), .second, .val (.int (1 : Int32)), .val (.int (0 : Int32))]) at_148 (pc' := 150) rfl rfl ?_
          refine go_iload C at_150 (pc' := 152) rfl rfl ?_
          refine go_if0 C (0 : Int) (by decide) at_152 (by decide) (pc' := 178) (by decide) (pcN := 155) rfl (fun (c_1626 : ¬ (0 : Int) = 0) => by omega) (fun (c_1626 : (0 : Int) = 0) => ?_)
          refine go_iload C at_155 (pc' := 157) rfl rfl ?_
          refine go_if0 C (1 : Int) (by decide) at_157 (by decide) (pc' := 175) (by decide) (pcN := 160) rfl (fun (c_1627 : (1 : Int) = 0) => by omega) (fun (c_1627 : ¬ (1 : Int) = 0) => ?_)
          refine go_aload C at_160 (pc' := 162) rfl rfl rfl ?_
          refine go_virtualP C (as := []) (rest := []) (W := 0) (.long x2) (sat_new_4_1_1 l Z a0 hw a_1545 r_1576 x1 x2 (0 : Int64) (0 : Int64) _ _ E_1618 F_1619 F_1620 F_1621 A_1622 g_1550 g_1577) E_1618 (wd hw 32 rfl) (wd hw 33 rfl) (wd hw 35 rfl) (wd hw 34 rfl) (wd hw 4 rfl) (wd hw 36 rfl) (by decide) pd_5 rfl rfl rfl (by decide) (by decide) rfl rfl (by decide) (by decide) at_162 (pc' := 165) rfl rfl ?_
          refine go_lload C at_165 (pc' := 167) rfl rfl ?_
          refine go_lcmp C x2.toInt x2.toInt rfl rfl at_167 (pc1 := 168) rfl at_168 (by decide) (pc' := 175) (by decide) (pcN := 171) rfl (fun (c_1628 : ¬ x2.toInt = x2.toInt) => by omega) (fun (c_1628 : x2.toInt = x2.toInt) => ?_)
          refine go_iconst C (1 : Int32) at_171 (pc' := 172) rfl (by decide) ?_
          refine go_goto C at_172 (by decide) (pc' := 176) (by decide) ?_
          refine go_istore C (Ls' := #[.val (.int x0), .val (.long x1), .second, .val (.long x2), .second, .val (.long x3), .second, .val (.long x4), .second, .val (.long x5), .second, .val (.int (4 : Int32)), .val (.int (1 : Int32)), .val (.int (1 : Int32)), .val (.long win), .second, .val (.long (4 : Int64)), .second, .val (.ref a_1545), .val (.long x2), .second, .val (.int (1 : Int32)), .val (.int (0 : Int32))]) at_176 (pc' := 178) rfl rfl ?_
          refine go_aload C at_178 (pc' := 180) rfl rfl rfl ?_
          refine go_lload C at_180 (pc' := 182) rfl rfl ?_
          refine go_lload C at_182 (pc' := 184) rfl rfl ?_
          refine go_virtualN C (as := [.long x3, .long (4 : Int64)]) (rest := []) (W := 0) (sat_add_4_1_1 l Z a0 hw a_1545 r_1576 x1 x2 (0 : Int64) (0 : Int64) x3 (4 : Int64) _ _ E_1618 F_1619 F_1620 F_1621 A_1622 g_1550 g_1577) E_1618 (wd hw 19 rfl) (wd hw 20 rfl) (wd hw 22 rfl) (wd hw 21 rfl) (wd hw 4 rfl) (wd hw 23 rfl) (by decide) pd_3 rfl rfl rfl (by decide) (by decide) (ce' := 2) (sl' := 11) rfl rfl (by decide) (by decide) at_184 (pc' := 187) rfl rfl ?_
          intro h_1629 q_1630
          obtain ⟨r_1631, g_1632, E_1633, F_1634, F_1635, F_1636, A_1637⟩ := q_1630
          refine go_lload C at_187 (pc' := 189) rfl rfl ?_
          refine go_lstore C (Ls' := #[.val (.int x0), .val (.long x1), .second, .val (.long x2), .second, .val (.long x3), .second, .val (.long x4), .second, .val (.long x5), .second, .val (.int (4 : Int32)), .val (.int (1 : Int32)), .val (.int (1 : Int32)), .val (.long win), .second, .val (.long (4 : Int64)), .second, .val (.ref a_1545), .val (.long x3), .second, .val (.int (1 : Int32)), .val (.int (0 : Int32))]) at_189 (pc' := 191) rfl rfl ?_
          refine go_iload C at_191 (pc' := 193) rfl rfl ?_
          refine go_if0 C (1 : Int) (by decide) at_193 (by decide) (pc' := 209) (by decide) (pcN := 196) rfl (fun (c_1638 : (1 : Int) = 0) => by omega) (fun (c_1638 : ¬ (1 : Int) = 0) => ?_)
          refine go_aload C at_196 (pc' := 198) rfl rfl rfl ?_
          refine go_lload C at_198 (pc' := 200) rfl rfl ?_
          refine go_lload C at_200 (pc' := 202) rfl rfl ?_
          refine go_virtualN C (as := [.long x4, .long (4 : Int64)]) (rest := []) (W := 0) (sat_add_4_1_2 l Z a0 hw a_1545 r_1631 x1 x2 x3 (0 : Int64) x4 (4 : Int64) _ _ E_1633 F_1634 F_1635 F_1636 A_1637 g_1550 g_1632) E_1633 (wd hw 19 rfl) (wd hw 20 rfl) (wd hw 22 rfl) (wd hw 21 rfl) (wd hw 4 rfl) (wd hw 23 rfl) (by decide) pd_3 rfl rfl rfl (by decide) (by decide) (ce' := 2) (sl' := 11) rfl rfl (by decide) (by decide) at_202 (pc' := 205) rfl rfl ?_
          intro h_1639 q_1640
          obtain ⟨r_1641, g_1642, E_1643, F_1644, F_1645, F_1646, A_1647⟩ := q_1640
          refine go_lload C at_205 (pc' := 207) rfl rfl ?_
          refine go_lstore C (Ls' := #[.val (.int x0), .val (.long x1), .second, .val (.long x2), .second, .val (.long x3), .second, .val (.long x4), .second, .val (.long x5), .second, .val (.int (4 : Int32)), .val (.int (1 : Int32)), .val (.int (1 : Int32)), .val (.long win), .second, .val (.long (4 : Int64)), .second, .val (.ref a_1545), .val (.long x4), .second, .val (.int (1 : Int32)), .val (.int (0 : Int32))]) at_207 (pc' := 209) rfl rfl ?_
          refine go_iload C at_209 (pc' := 211) rfl rfl ?_
          refine go_if0 C (1 : Int) (by decide) at_211 (by decide) (pc' := 229) (by decide) (pcN := 214) rfl (fun (c_1648 : (1 : Int) = 0) => by omega) (fun (c_1648 : ¬ (1 : Int) = 0) => ?_)
          refine go_aload C at_214 (pc' := 216) rfl rfl rfl ?_
          refine go_virtualP C (as := []) (rest := []) (W := 0) (.long x4) (sat_new_4_1_3 l Z a0 hw a_1545 r_1641 x1 x2 x3 x4 _ _ E_1643 F_1644 F_1645 F_1646 A_1647 g_1550 g_1642) E_1643 (wd hw 32 rfl) (wd hw 33 rfl) (wd hw 35 rfl) (wd hw 34 rfl) (wd hw 4 rfl) (wd hw 36 rfl) (by decide) pd_5 rfl rfl rfl (by decide) (by decide) rfl rfl (by decide) (by decide) at_216 (pc' := 219) rfl rfl ?_
          refine go_lload C at_219 (pc' := 221) rfl rfl ?_
          refine go_lcmp C x4.toInt x4.toInt rfl rfl at_221 (pc1 := 222) rfl at_222 (by decide) (pc' := 229) (by decide) (pcN := 225) rfl (fun (c_1649 : ¬ x4.toInt = x4.toInt) => by omega) (fun (c_1649 : x4.toInt = x4.toInt) => ?_)
          refine go_iconst C (1 : Int32) at_225 (pc' := 226) rfl (by decide) ?_
          refine go_goto C at_226 (by decide) (pc' := 230) (by decide) ?_
          refine go_istore C (Ls' := #[.val (.int x0), .val (.long x1), .second, .val (.long x2), .second, .val (.long x3), .second, .val (.long x4), .second, .val (.long x5), .second, .val (.int (4 : Int32)), .val (.int (1 : Int32)), .val (.int (1 : Int32)), .val (.long win), .second, .val (.long (4 : Int64)), .second, .val (.ref a_1545), .val (.long x4), .second, .val (.int (1 : Int32)), .val (.int (0 : Int32))]) at_230 (pc' := 232) rfl rfl ?_
          refine go_iload C at_232 (pc' := 234) rfl rfl ?_
          refine go_ireturnN C (z' := (1 : Int32)) rfl (by simp) rfl at_234 (by decide) (by decide) ?_
          exact ⟨_, rfl, rfl⟩
        · skip
          obtain ⟨hc_1650, E_1651, F_1652, F_1653, F_1654, A_1655⟩ := q_1585
          refine go_lload C at_118 (pc' := 120) rfl rfl ?_
          refine go_lloadN C at_120 (pc' := 121) rfl rfl ?_
          refine go_lsub C at_121 (pc' := 122) rfl ?_
          refine go_lload C at_122 (pc' := 124) rfl rfl ?_
          refine go_lcmp C ((x5 - x1).toInt) win.toInt rfl rfl at_124 (pc1 := 125) rfl at_125 (by decide) (pc' := 147) (by decide) (pcN := 128) rfl (fun (c_1656 : ((x5 - x1).toInt) < win.toInt) => by omega) (fun (c_1656 : ¬ ((x5 - x1).toInt) < win.toInt) => ?_)
          refine go_iload C at_128 (pc' := 130) rfl rfl ?_
          refine go_if0 C (1 : Int) (by decide) at_130 (by decide) (pc' := 143) (by decide) (pcN := 133) rfl (fun (c_1657 : (1 : Int) = 0) => by omega) (fun (c_1657 : ¬ (1 : Int) = 0) => ?_)
          refine go_lload C at_133 (pc' := 135) rfl rfl ?_
          refine go_lloadN C at_135 (pc' := 136) rfl rfl ?_
          refine go_lsub C at_136 (pc' := 137) rfl ?_
          refine go_lload C at_137 (pc' := 139) rfl rfl ?_
          refine go_lcmp C ((x5 - x2).toInt) win.toInt rfl rfl at_139 (pc1 := 140) rfl at_140 (by decide) (pc' := 147) (by decide) (pcN := 143) rfl (fun (c_1658 : ((x5 - x2).toInt) < win.toInt) => by omega) (fun (c_1658 : ¬ ((x5 - x2).toInt) < win.toInt) => ?_)
          refine go_iconst C (1 : Int32) at_143 (pc' := 144) rfl (by decide) ?_
          refine go_goto C at_144 (by decide) (pc' := 148) (by decide) ?_
          refine go_istore C (Ls' := #[.val (.int x0), .val (.long x1), .second, .val (.long x2), .second, .val (.long x3), .second, .val (.long x4), .second, .val (.long x5), .second, .val (.int (4 : Int32)), .val (.int (1 : Int32)), .val (.int (1 : Int32)), .val (.long win), .second, .val (.long (4 : Int64)), .second, .val (.ref a_1545), .val (.long x2), .second, .val (.int (1 : Int32)), .val (.int (1 : Int32))]) at_148 (pc' := 150) rfl rfl ?_
          refine go_iload C at_150 (pc' := 152) rfl rfl ?_
          refine go_if0 C (1 : Int) (by decide) at_152 (by decide) (pc' := 178) (by decide) (pcN := 155) rfl (fun (c_1659 : ¬ (1 : Int) = 0) => ?_) (fun (c_1659 : (1 : Int) = 0) => by omega)
          refine go_aload C at_178 (pc' := 180) rfl rfl rfl ?_
          refine go_lload C at_180 (pc' := 182) rfl rfl ?_
          refine go_lload C at_182 (pc' := 184) rfl rfl ?_
          refine go_virtualN C (as := [.long x3, .long (4 : Int64)]) (rest := []) (W := 0) (sat_add_4_2_0 l Z a0 hw a_1545 r_1576 x1 x2 (0 : Int64) (0 : Int64) x3 (4 : Int64) _ _ E_1651 F_1652 F_1653 F_1654 A_1655 g_1550 g_1577) E_1651 (wd hw 19 rfl) (wd hw 20 rfl) (wd hw 22 rfl) (wd hw 21 rfl) (wd hw 4 rfl) (wd hw 23 rfl) (by decide) pd_3 rfl rfl rfl (by decide) (by decide) (ce' := 2) (sl' := 11) rfl rfl (by decide) (by decide) at_184 (pc' := 187) rfl rfl ?_
          intro h_1660 q_1661
          obtain ⟨r_1662, g_1663, E_1664, F_1665, F_1666, F_1667, A_1668⟩ := q_1661
          refine go_lload C at_187 (pc' := 189) rfl rfl ?_
          refine go_lstore C (Ls' := #[.val (.int x0), .val (.long x1), .second, .val (.long x2), .second, .val (.long x3), .second, .val (.long x4), .second, .val (.long x5), .second, .val (.int (4 : Int32)), .val (.int (1 : Int32)), .val (.int (1 : Int32)), .val (.long win), .second, .val (.long (4 : Int64)), .second, .val (.ref a_1545), .val (.long x3), .second, .val (.int (1 : Int32)), .val (.int (1 : Int32))]) at_189 (pc' := 191) rfl rfl ?_
          refine go_iload C at_191 (pc' := 193) rfl rfl ?_
          refine go_if0 C (1 : Int) (by decide) at_193 (by decide) (pc' := 209) (by decide) (pcN := 196) rfl (fun (c_1669 : (1 : Int) = 0) => by omega) (fun (c_1669 : ¬ (1 : Int) = 0) => ?_)
          refine go_aload C at_196 (pc' := 198) rfl rfl rfl ?_
          refine go_lload C at_198 (pc' := 200) rfl rfl ?_
          refine go_lload C at_200 (pc' := 202) rfl rfl ?_
          refine go_virtualN C (as := [.long x4, .long (4 : Int64)]) (rest := []) (W := 0) (sat_add_4_2_1 l Z a0 hw a_1545 r_1662 x1 x2 x3 (0 : Int64) x4 (4 : Int64) _ _ E_1664 F_1665 F_1666 F_1667 A_1668 g_1550 g_1663) E_1664 (wd hw 19 rfl) (wd hw 20 rfl) (wd hw 22 rfl) (wd hw 21 rfl) (wd hw 4 rfl) (wd hw 23 rfl) (by decide) pd_3 rfl rfl rfl (by decide) (by decide) (ce' := 2) (sl' := 11) rfl rfl (by decide) (by decide) at_202 (pc' := 205) rfl rfl ?_
          intro h_1670 q_1671
          obtain ⟨r_1672, g_1673, E_1674, F_1675, F_1676, F_1677, A_1678⟩ := q_1671
          refine go_lload C at_205 (pc' := 207) rfl rfl ?_
          refine go_lstore C (Ls' := #[.val (.int x0), .val (.long x1), .second, .val (.long x2), .second, .val (.long x3), .second, .val (.long x4), .second, .val (.long x5), .second, .val (.int (4 : Int32)), .val (.int (1 : Int32)), .val (.int (1 : Int32)), .val (.long win), .second, .val (.long (4 : Int64)), .second, .val (.ref a_1545), .val (.long x4), .second, .val (.int (1 : Int32)), .val (.int (1 : Int32))]) at_207 (pc' := 209) rfl rfl ?_
          refine go_iload C at_209 (pc' := 211) rfl rfl ?_
          refine go_if0 C (1 : Int) (by decide) at_211 (by decide) (pc' := 229) (by decide) (pcN := 214) rfl (fun (c_1679 : (1 : Int) = 0) => by omega) (fun (c_1679 : ¬ (1 : Int) = 0) => ?_)
          refine go_aload C at_214 (pc' := 216) rfl rfl rfl ?_
          refine go_virtualP C (as := []) (rest := []) (W := 0) (.long x4) (sat_new_4_2_2 l Z a0 hw a_1545 r_1672 x1 x2 x3 x4 _ _ E_1674 F_1675 F_1676 F_1677 A_1678 g_1550 g_1673) E_1674 (wd hw 32 rfl) (wd hw 33 rfl) (wd hw 35 rfl) (wd hw 34 rfl) (wd hw 4 rfl) (wd hw 36 rfl) (by decide) pd_5 rfl rfl rfl (by decide) (by decide) rfl rfl (by decide) (by decide) at_216 (pc' := 219) rfl rfl ?_
          refine go_lload C at_219 (pc' := 221) rfl rfl ?_
          refine go_lcmp C x4.toInt x4.toInt rfl rfl at_221 (pc1 := 222) rfl at_222 (by decide) (pc' := 229) (by decide) (pcN := 225) rfl (fun (c_1680 : ¬ x4.toInt = x4.toInt) => by omega) (fun (c_1680 : x4.toInt = x4.toInt) => ?_)
          refine go_iconst C (1 : Int32) at_225 (pc' := 226) rfl (by decide) ?_
          refine go_goto C at_226 (by decide) (pc' := 230) (by decide) ?_
          refine go_istore C (Ls' := #[.val (.int x0), .val (.long x1), .second, .val (.long x2), .second, .val (.long x3), .second, .val (.long x4), .second, .val (.long x5), .second, .val (.int (4 : Int32)), .val (.int (1 : Int32)), .val (.int (1 : Int32)), .val (.long win), .second, .val (.long (4 : Int64)), .second, .val (.ref a_1545), .val (.long x4), .second, .val (.int (1 : Int32)), .val (.int (1 : Int32))]) at_230 (pc' := 232) rfl rfl ?_
          refine go_iload C at_232 (pc' := 234) rfl rfl ?_
          refine go_ireturnN C (z' := (1 : Int32)) rfl (by simp) rfl at_234 (by decide) (by decide) ?_
          exact ⟨_, rfl, rfl⟩
set_option maxRecDepth 65536 in
set_option maxHeartbeats 40000000 in
theorem comes_1 {Post : Tables → Env → Array Value → State → Outcome → State → Prop} (hpost : ∀ tb e args s v u, (limb_1_1.after args s (.returned v) u = true ∧ limb_1_2.after args s (.returned v) u = true ∧ True) → FrameEnd s (.returned v) u (Jvm.fieldLocs frame_1_writes args s ++ Jvm.arrayLocs frame_1_arrays args s ++ Jvm.staticLocs frame_1_statics s) 16 128 → Post tb e args s (.returned v) u) :
    ArmFor flags0 classFile x code maxLocals ret World_1 tables_1 room_1 Calls_1 rest_1 Pre_1 Post := by
  intro l hfl _ _ p e ha hc hk s m args below hf hA hF happ hP
  obtain ⟨hcalls, hrest, hpre⟩ := hP
  obtain ⟨-, -, -, hnamed, -, -, -, hat⟩ := (Spec.applies_iff hf).mp happ
  obtain ⟨hg, hn⟩ := and_e (Cond.before_iff.mp (show (Jvm.Cond.and given_1 narrow_1).before args s = true from hpre))
  obtain ⟨k0, g0⟩ := and_e hg
  obtain ⟨k1, g1⟩ := and_e g0
  obtain ⟨k2, g2⟩ := and_e g1
  obtain ⟨k3, g3⟩ := and_e g2
  obtain ⟨k4, g4⟩ := and_e g3
  obtain ⟨k5, g5⟩ := and_e g4
  obtain ⟨w0, w1, w2, w3, w4, w5, rfl⟩ : ∃ w0 w1 w2 w3 w4 w5 : Value, args = #[w0, w1, w2, w3, w4, w5] := by
    have hs : args.size = 6 := by simpa [Cond.value, given_1] using k0
    obtain ⟨L⟩ := args
    match L, hs with
    | [w0, w1, w2, w3, w4, w5], _ => exact ⟨w0, w1, w2, w3, w4, w5, rfl⟩
  have hw := fun d (hd : d ∈ tables_1) => atoms_spec (ws := Jvm.Cond.code x code maxLocals ret :: tables_1) hat d (List.mem_cons_of_mem _ hd)
  obtain ⟨i0, e0⟩ := is_v k1
  obtain ⟨i1, e1⟩ := isL_v k2
  obtain ⟨i2, e2⟩ := isL_v k3
  obtain ⟨i3, e3⟩ := isL_v k4
  obtain ⟨i4, e4⟩ := isL_v k5
  obtain ⟨i5, e5⟩ := isL_v g5
  obtain rfl : w0 = (.int i0) := Option.some.inj e0
  obtain rfl : w1 = (.long i1) := Option.some.inj e1
  obtain rfl : w2 = (.long i2) := Option.some.inj e2
  obtain rfl : w3 = (.long i3) := Option.some.inj e3
  obtain rfl : w4 = (.long i4) := Option.some.inj e4
  obtain rfl : w5 = (.long i5) := Option.some.inj e5
  obtain ⟨n, o, h1, h2, h3, _, L, rfl, ⟨⟨_, rfl, rfl⟩, N⟩, hq⟩ := law_sat l s _ hw i0 i1 i2 i3 i4 i5 tables_1 p e ha hc hk s m _ below hf ((Spec.applies_iff_loose hf).mp happ).1 ⟨rfl, State.Warmed39.refl s, rfl⟩ trivial
  refine ⟨n, _, h1, h2, h3, hpost _ _ _ _ _ _ ⟨Cond.after_iff.mpr rfl, Cond.after_iff.mpr (eq_i res_at (Term.int_eval (1)) rfl), trivial⟩ ⟨hq.1, hq.2.1, (hq.2.2.sift fun y hy => Or.inr (N y hy)).mono (by decide) (by decide)⟩⟩
theorem main_1_1 : Claimed_1_1 := comes_1 fun _ _ _ _ _ _ h hF => ⟨h.1, hF⟩
theorem main_1_2 : Claimed_1_2 := comes_1 fun _ _ _ _ _ _ h hF => ⟨h.2.1, hF⟩
end Jvm.Pilot.@@N@@
namespace Jvm.Pilot.@@N@@
open Jvm Jvm.ClassFile Sem Op Lib Jvm.Free Jvm.Stand Jvm.Pilot.@@N@@.Jvm.D
/-! MADE BY PROGRAM (witnessworld.py) out of the Statement's table words and the real class files: 13 classes; the members and pool entries that the words name. The judged class is class 1, her method 1. -/
namespace start1
open Jvm.ClassFile
def u (s : String) : CpInfo := .utf8 (stringToUtf16 s)
/-- a pool by its gaps: so many unusable entries, then the entry; so many at the end -/
def gap : Nat → List CpInfo → List CpInfo
  | 0, r => r
  | n + 1, r => .unusable :: gap n r
def poolList (es : List (Nat × CpInfo)) (last : Nat) : List CpInfo := es.foldr (fun e r => gap e.1 (e.2 :: r)) (gap last [])
def pool (es : List (Nat × CpInfo)) (last : Nat) : Array CpInfo := ⟨poolList es last⟩
def fileOf (pool : Array CpInfo) (this : Nat) (attrs : Array Attribute := #[]) (ms : Array MethodInfo := #[]) (fl : Nat := 33) (sup : Nat := 0) (ifs : Array Nat := #[]) (fds : Array FieldInfo := #[]) : ClassFile where
  minorVersion := 0
  majorVersion := 65
  constantPool := pool
  accessFlags := fl
  thisClass := this
  superClass := sup
  interfaces := ifs
  fields := fds
  methods := ms
  attributes := attrs
def plain (name : String) (sup : Option ClassId) : Class where
  name := name
  kind := .ordinary
  loader := none
  accessFlags := 33
  super := sup
  interfaces := #[]
  cf := none
  fields := #[]
  methods := #[]
  instanceTypes := #[]
  staticTypes := #[]
  resolved := #[]
  callSites := []
  init := .initialized
  statics := none
  mirror := none

def pool0 : Array CpInfo := pool [(5, u "<init>"), (0, u "()V"), (1, .class_ 10), (1, u "java/lang/Object")] 113

def k0c0 : Code := { maxStack := 0, maxLocals := 1, code := object_method_1_code, exceptionTable := #[], attributes := #[] }
def k0m0 : Method := { name := "<init>", desc := "()V", sig := { parameters := [], returnType := none }, accessFlags := 1, code := some k0c0 }
/-- java/lang/Object -/
def k0 : Class := { plain "java/lang/Object" none with
  accessFlags := 33
  interfaces := #[]
  cf := some (fileOf pool0 8 #[] #[{ accessFlags := 1, nameIndex := 5, descriptorIndex := 6, attributes := #[] }] 33 0 #[] #[])
  fields := #[]
  methods := #[k0m0]
  instanceTypes := #[]
  staticTypes := #[]
  resolved := Array.replicate 124 none
  statics := none }

def pool1 : Array CpInfo := pool [(2, .class_ 4), (1, u "java/lang/Object"), (0, u "<init>"), (0, u "()V"), (0, .integer 65535), (0, .long 4), (1, .class_ 11), (0, u "com/example/throttld/throttld/SlidingLog$Log"), (0, .methodref 10 13), (0, .nameAndType 5 14), (0, u "(I)V"), (0, .methodref 10 16), (0, .nameAndType 17 18), (0, u "add"), (0, u "(JJ)V"), (0, .methodref 10 20), (0, .nameAndType 21 22), (0, u "newest"), (0, u "()J"), (0, .methodref 10 24), (0, .nameAndType 25 18), (0, u "dropAgedOut"), (0, .class_ 27), (0, u "com/example/throttld/throttld/SlidingLogNewestPinLaw"), (2, u "law"), (0, u "(IJJJJJ)Z")] 7

def k1m0 : Method := { name := "<init>", desc := "()V", sig := { parameters := [], returnType := none }, accessFlags := 1, code := none }
def k1c1 : Code := { maxStack := 5, maxLocals := 23, code := code, exceptionTable := #[], attributes := #[] }
def k1m1 : Method := { name := "law", desc := "(IJJJJJ)Z", sig := { parameters := [.int, .long, .long, .long, .long, .long], returnType := some .boolean }, accessFlags := 9, code := some k1c1 }
/-- com/example/throttld/throttld/SlidingLogNewestPinLaw -/
def k1 : Class := { plain "com/example/throttld/throttld/SlidingLogNewestPinLaw" (some 0) with
  accessFlags := 49
  interfaces := #[]
  cf := some (fileOf pool1 26 #[] #[{ accessFlags := 1, nameIndex := 5, descriptorIndex := 6, attributes := #[] }, { accessFlags := 9, nameIndex := 30, descriptorIndex := 31, attributes := #[] }] 49 2 #[] #[])
  fields := #[]
  methods := #[k1m0, k1m1]
  instanceTypes := #[]
  staticTypes := #[]
  resolved := Array.replicate 39 none
  statics := none }

def pool2 : Array CpInfo := pool [(1, .methodref 2 3), (0, .class_ 4), (0, .nameAndType 5 6), (0, u "java/lang/Object"), (0, u "<init>"), (0, u "()V"), (1, .class_ 10), (1, u "com/example/throttld/throttld/MemoryStore$Entry"), (0, u "atMs"), (0, u "J"), (0, u "BYTES"), (3, u "key"), (0, u "Ljava/lang/String;"), (0, u "hash"), (0, u "I"), (0, u "next"), (0, u "Lcom/example/throttld/throttld/MemoryStore$Entry;"), (7, .class_ 31), (0, u "com/example/throttld/throttld/MemoryStore")] 2

def k2c0 : Code := { maxStack := 1, maxLocals := 1, code := prog_21_method_1_code, exceptionTable := #[], attributes := #[] }
def k2m0 : Method := { name := "<init>", desc := "()V", sig := { parameters := [], returnType := none }, accessFlags := 0, code := some k2c0 }
/-- com/example/throttld/throttld/MemoryStore$Entry -/
def k2 : Class := { plain "com/example/throttld/throttld/MemoryStore$Entry" (some 0) with
  accessFlags := 1056
  interfaces := #[]
  cf := some (fileOf pool2 8 #[.nestHost 30] #[{ accessFlags := 0, nameIndex := 5, descriptorIndex := 6, attributes := #[] }] 1056 2 #[] #[{ accessFlags := 24, nameIndex := 13, descriptorIndex := 12, attributes := #[] }, { accessFlags := 2, nameIndex := 17, descriptorIndex := 18, attributes := #[] }, { accessFlags := 2, nameIndex := 19, descriptorIndex := 20, attributes := #[] }, { accessFlags := 2, nameIndex := 11, descriptorIndex := 12, attributes := #[] }, { accessFlags := 2, nameIndex := 21, descriptorIndex := 22, attributes := #[] }])
  fields := #[{ name := "BYTES", type := .long, accessFlags := 24, slot := 0, constantValue := 0 }, { name := "key", type := (.object "java/lang/String"), accessFlags := 2, slot := 0, constantValue := 0 }, { name := "hash", type := .int, accessFlags := 2, slot := 1, constantValue := 0 }, { name := "atMs", type := .long, accessFlags := 2, slot := 2, constantValue := 0 }, { name := "next", type := (.object "com/example/throttld/throttld/MemoryStore$Entry"), accessFlags := 2, slot := 3, constantValue := 0 }]
  methods := #[k2m0]
  instanceTypes := #[(.object "java/lang/String"), .int, .long, (.object "com/example/throttld/throttld/MemoryStore$Entry")]
  staticTypes := #[.long]
  resolved := Array.replicate 34 none
  statics := none }

def pool3 : Array CpInfo := pool [(1, .methodref 2 3), (0, .class_ 4), (0, .nameAndType 5 6), (0, u "com/example/throttld/throttld/MemoryStore$Entry"), (0, u "<init>"), (0, u "()V"), (0, .fieldref 8 9), (0, .class_ 10), (0, .nameAndType 11 12), (0, u "com/example/throttld/throttld/SlidingLog$Log"), (0, u "ring"), (0, u "[J"), (4, .fieldref 8 18), (0, .nameAndType 19 20), (0, u "head"), (0, u "I"), (0, .fieldref 8 22), (0, .nameAndType 23 20), (0, u "count"), (0, .methodref 8 25), (0, .nameAndType 26 27), (0, u "slot"), (0, u "(I)I"), (0, .long 2), (1, .methodref 31 32), (0, .class_ 33), (0, .nameAndType 34 35), (0, u "java/lang/Math"), (0, u "min"), (0, u "(JJ)J"), (0, u "(I)V"), (3, u "()J"), (1, u "newest"), (0, u "dropAgedOut"), (0, u "(JJ)V"), (1, u "add"), (4, .class_ 52), (0, u "com/example/throttld/throttld/SlidingLog")] 5

def k3c0 : Code := { maxStack := 2, maxLocals := 2, code := prog_32_method_1_code, exceptionTable := #[], attributes := #[] }
def k3m0 : Method := { name := "<init>", desc := "(I)V", sig := { parameters := [.int], returnType := none }, accessFlags := 0, code := some k3c0 }
def k3c1 : Code := { maxStack := 4, maxLocals := 1, code := prog_32_method_4_code, exceptionTable := #[], attributes := #[] }
def k3m1 : Method := { name := "newest", desc := "()J", sig := { parameters := [], returnType := some .long }, accessFlags := 0, code := some k3c1 }
def k3c2 : Code := { maxStack := 4, maxLocals := 5, code := prog_32_method_5_code, exceptionTable := #[], attributes := #[] }
def k3m2 : Method := { name := "dropAgedOut", desc := "(JJ)V", sig := { parameters := [.long, .long], returnType := none }, accessFlags := 0, code := some k3c2 }
def k3c3 : Code := { maxStack := 6, maxLocals := 7, code := prog_32_method_6_code, exceptionTable := #[], attributes := #[] }
def k3m3 : Method := { name := "add", desc := "(JJ)V", sig := { parameters := [.long, .long], returnType := none }, accessFlags := 0, code := some k3c3 }
def k3c4 : Code := { maxStack := 2, maxLocals := 3, code := prog_32_method_7_code, exceptionTable := #[], attributes := #[] }
def k3m4 : Method := { name := "slot", desc := "(I)I", sig := { parameters := [.int], returnType := some .int }, accessFlags := 2, code := some k3c4 }
/-- com/example/throttld/throttld/SlidingLog$Log -/
def k3 : Class := { plain "com/example/throttld/throttld/SlidingLog$Log" (some 2) with
  accessFlags := 48
  interfaces := #[]
  cf := some (fileOf pool3 8 #[.nestHost 51] #[{ accessFlags := 0, nameIndex := 5, descriptorIndex := 36, attributes := #[] }, { accessFlags := 0, nameIndex := 42, descriptorIndex := 40, attributes := #[] }, { accessFlags := 0, nameIndex := 43, descriptorIndex := 44, attributes := #[] }, { accessFlags := 0, nameIndex := 46, descriptorIndex := 44, attributes := #[] }, { accessFlags := 2, nameIndex := 26, descriptorIndex := 27, attributes := #[] }] 48 2 #[] #[{ accessFlags := 2, nameIndex := 11, descriptorIndex := 12, attributes := #[] }, { accessFlags := 2, nameIndex := 19, descriptorIndex := 20, attributes := #[] }, { accessFlags := 2, nameIndex := 23, descriptorIndex := 20, attributes := #[] }])
  fields := #[{ name := "ring", type := (.array .long), accessFlags := 2, slot := 4, constantValue := 0 }, { name := "head", type := .int, accessFlags := 2, slot := 5, constantValue := 0 }, { name := "count", type := .int, accessFlags := 2, slot := 6, constantValue := 0 }]
  methods := #[k3m0, k3m1, k3m2, k3m3, k3m4]
  instanceTypes := #[(.object "java/lang/String"), .int, .long, (.object "com/example/throttld/throttld/MemoryStore$Entry"), (.array .long), .int, .int]
  staticTypes := #[]
  resolved := Array.replicate 58 none
  statics := none }

def pool4 : Array CpInfo := pool [(1, .class_ 2), (0, u "java/lang/Math"), (1, .class_ 6), (1, u "java/lang/Object"), (0, u "<init>"), (0, u "()V"), (89, .class_ 100), (1, u "java/lang/Math$RandomNumberGeneratorHolder"), (20, u "(JJ)J"), (50, u "negativeZeroFloatBits"), (0, u "J"), (2, u "negativeZeroDoubleBits"), (24, u "min"), (43, u "$assertionsDisabled"), (0, u "Z"), (91, u "twoToTheDoubleScaleDown"), (0, u "D"), (4, u "twoToTheDoubleScaleUp"), (9, u "E"), (3, u "PI"), (2, u "TAU"), (2, u "DEGREES_TO_RADIANS"), (0, u "RADIANS_TO_DEGREES")] 94

def k4m0 : Method := { name := "<init>", desc := "()V", sig := { parameters := [], returnType := none }, accessFlags := 2, code := none }
def k4c1 : Code := { maxStack := 4, maxLocals := 4, code := jdk_29_method_70_code, exceptionTable := #[], attributes := #[] }
def k4m1 : Method := { name := "min", desc := "(JJ)J", sig := { parameters := [.long, .long], returnType := some .long }, accessFlags := 9, code := some k4c1 }
/-- java/lang/Math -/
def k4 : Class := { plain "java/lang/Math" (some 0) with
  accessFlags := 49
  interfaces := #[]
  cf := some (fileOf pool4 1 #[.nestMembers #[98]] #[{ accessFlags := 2, nameIndex := 7, descriptorIndex := 8, attributes := #[] }, { accessFlags := 9, nameIndex := 201, descriptorIndex := 121, attributes := #[] }] 49 4 #[] #[{ accessFlags := 25, nameIndex := 354, descriptorIndex := 339, attributes := #[] }, { accessFlags := 25, nameIndex := 358, descriptorIndex := 339, attributes := #[] }, { accessFlags := 25, nameIndex := 361, descriptorIndex := 339, attributes := #[] }, { accessFlags := 26, nameIndex := 364, descriptorIndex := 339, attributes := #[] }, { accessFlags := 26, nameIndex := 365, descriptorIndex := 339, attributes := #[] }, { accessFlags := 26, nameIndex := 172, descriptorIndex := 173, attributes := #[] }, { accessFlags := 26, nameIndex := 176, descriptorIndex := 173, attributes := #[] }, { accessFlags := 8, nameIndex := 344, descriptorIndex := 339, attributes := #[] }, { accessFlags := 8, nameIndex := 338, descriptorIndex := 339, attributes := #[] }, { accessFlags := 4120, nameIndex := 245, descriptorIndex := 246, attributes := #[] }])
  fields := #[{ name := "E", type := .double, accessFlags := 25, slot := 0, constantValue := 0 }, { name := "PI", type := .double, accessFlags := 25, slot := 1, constantValue := 0 }, { name := "TAU", type := .double, accessFlags := 25, slot := 2, constantValue := 0 }, { name := "DEGREES_TO_RADIANS", type := .double, accessFlags := 26, slot := 3, constantValue := 0 }, { name := "RADIANS_TO_DEGREES", type := .double, accessFlags := 26, slot := 4, constantValue := 0 }, { name := "negativeZeroFloatBits", type := .long, accessFlags := 26, slot := 5, constantValue := 0 }, { name := "negativeZeroDoubleBits", type := .long, accessFlags := 26, slot := 6, constantValue := 0 }, { name := "twoToTheDoubleScaleUp", type := .double, accessFlags := 8, slot := 7, constantValue := 0 }, { name := "twoToTheDoubleScaleDown", type := .double, accessFlags := 8, slot := 8, constantValue := 0 }, { name := "$assertionsDisabled", type := .boolean, accessFlags := 4120, slot := 9, constantValue := 0 }]
  methods := #[k4m0, k4m1]
  instanceTypes := #[]
  staticTypes := #[.double, .double, .double, .double, .double, .long, .long, .double, .double, .boolean]
  resolved := Array.replicate 460 none
  statics := none }

def pool5 : Array CpInfo := pool [(1, u "java/lang/Cloneable"), (0, .class_ 1), (0, u "java/lang/Object"), (0, .class_ 3)] 3

/-- java/lang/Cloneable -/
def k5 : Class := { plain "java/lang/Cloneable" (some 0) with
  accessFlags := 1537
  interfaces := #[]
  cf := some (fileOf pool5 2 #[] #[] 1537 4 #[] #[])
  fields := #[]
  methods := #[]
  instanceTypes := #[]
  staticTypes := #[]
  resolved := Array.replicate 8 none
  statics := none }

def pool6 : Array CpInfo := pool [(1, u "java/io/Serializable"), (0, .class_ 1), (0, u "java/lang/Object"), (0, .class_ 3)] 3

/-- java/io/Serializable -/
def k6 : Class := { plain "java/io/Serializable" (some 0) with
  accessFlags := 1537
  interfaces := #[]
  cf := some (fileOf pool6 2 #[] #[] 1537 4 #[] #[])
  fields := #[]
  methods := #[]
  instanceTypes := #[]
  staticTypes := #[]
  resolved := Array.replicate 8 none
  statics := none }

/-- the primitive byte -/
def k7 : Class := { plain "byte" none with kind := .primitive 'B', accessFlags := 0x411 }
/-- [B -/
def k8 : Class := { plain "[B" (some 0) with kind := .array 7 .byte, interfaces := #[5, 6], accessFlags := 1041 }

/-- the primitive int -/
def k9 : Class := { plain "int" none with kind := .primitive 'I', accessFlags := 0x411 }
/-- [I -/
def k10 : Class := { plain "[I" (some 0) with kind := .array 9 .int, interfaces := #[5, 6], accessFlags := 1041 }

/-- the primitive long -/
def k11 : Class := { plain "long" none with kind := .primitive 'J', accessFlags := 0x411 }
/-- [J -/
def k12 : Class := { plain "[J" (some 0) with kind := .array 11 .long, interfaces := #[5, 6], accessFlags := 1041 }

def heap : Heap := #[]
def classes : Array Class := #[k0, k1, k2, k3, k4, k5, k6, k7, k8, k9, k10, k11, k12]
def interned : List (Array UInt16 × Addr) := []
def slotsUsed : Nat := 0
def theMethod : MethodId := ⟨1, 1⟩
def args0 : Array Value := #[.int 3, .long 6, .long 7, .long 8, .long 9, .long 10]
def aboutOver (below : List Frame) : State where
  vm := { classes := classes, interned := interned.toArray }
  heap := heap
  slotsUsed := slotsUsed
  threads := #[{ frames := .invoking theMethod args0 :: below }]
def below0 : List Frame := [.native { method := ⟨0, 0⟩, args := #[] }]
def about1 : State := aboutOver below0
def p0 : Program := .bare "" "" ""
def e0 : Env := launch0.env 0 0 0
theorem w_frames : about1.frames = Frame.invoking theMethod args0 :: below0 := rfl
set_option maxRecDepth 65536 in
theorem w_args : argsFit about1.vm theMethod args0 = true := by decide +kernel
set_option maxRecDepth 65536 in
theorem w_heap : heapFits about1 = true := by decide +kernel
set_option maxRecDepth 65536 in
theorem w_runnable : about1.curStatus? = some .runnable := by decide +kernel
set_option maxRecDepth 65536 in
theorem w_alone : about1.alone = true := by decide +kernel
set_option maxRecDepth 65536 in
theorem w_named : about1.methodNamed? x = some theMethod := by decide +kernel
set_option maxRecDepth 65536 in
theorem w_hears : about1.hears theMethod below0 = true := by decide +kernel
set_option maxRecDepth 65536 in
theorem w_ripe : about1.ripe theMethod args0 below0 = true := by decide +kernel
theorem w_running : about1.status = .running := rfl
set_option maxRecDepth 65536 in
theorem w_room : about1.hasRoom e0.platform room_1 = true :=
  launch0.hasRoom_least _ room_1 (by decide +kernel) (by decide +kernel) (by decide +kernel) (by decide +kernel) (by decide +kernel) (by decide +kernel)
theorem allAtoms_all (ts : List Jvm.Cond) (a : Array Jvm.Value) (st : Jvm.State) : (allAtoms ts).before a st = ts.all (fun c => c.before a st) := by
  induction ts with
  | nil => rfl
  | cons c t ih =>
    show (Jvm.Cond.and c (allAtoms t)).before a st = _
    rw [Jvm.Cond.before_and, ih, List.all_cons]
def words1 : List Jvm.Cond := Jvm.Cond.code x code maxLocals ret :: tables_1
/-- a 'code' word, met by the world's own term for the bytes: nothing is compared byte by byte -/
theorem code_word {y : MethodName} {bytes : ByteArray} {mx : Nat} {rt : Option FieldType} {a : Array Value} {s : State} {m : MethodId} {meth : Method} {c : Code} (h1 : s.methodNamed? y = some m) (h2 : s.vm.method? m = some meth) (h3 : meth.code = some c) (h4 : c.code = bytes)
    (h5 : (c.maxLocals == mx && c.exceptionTable.isEmpty && decide (c.maxStack ≤ mostOperands) && decide (meth.sig.returnType = rt) && !meth.locks && decide (parseMethodDescriptor y.desc = some meth.sig)) = true) : (Jvm.Cond.code y bytes mx rt).before a s = true := by
  simp only [Bool.and_eq_true, beq_iff_eq, Bool.not_eq_true', decide_eq_true_eq] at h5
  obtain ⟨⟨⟨⟨⟨g1, g2⟩, g3⟩, g4⟩, g5⟩, g6⟩ := h5
  simp [Cond.before, Cond.holds, Cond.value, h1, h2, h3, h4, g1, g2, g3, g4, g5, g6]
def isCode : Jvm.Cond → Bool
  | .code _ _ _ _ => true
  | _ => false
theorem all_split {L : List Jvm.Cond} {P : Jvm.Cond → Bool} (h1 : L.all (fun c => isCode c || P c) = true) (h2 : ∀ c ∈ L.filter isCode, P c = true) : L.all P = true := by
  refine List.all_eq_true.mpr fun c hc => ?_
  have h := List.all_eq_true.mp h1 c hc
  rcases Bool.eq_false_or_eq_true (isCode c) with hi | hi
  · exact h2 c (List.mem_filter.mpr ⟨hc, hi⟩)
  · simpa [hi] using h
set_option maxRecDepth 65536 in
theorem w_c0 : (Jvm.Cond.code x code maxLocals ret).before args0 about1 = true := code_word (m := ⟨1, 1⟩) (meth := k1m1) (c := k1c1) (by decide +kernel) rfl rfl rfl (by decide +kernel)
set_option maxRecDepth 65536 in
theorem w_c1 : (Jvm.Cond.code ({ cls := "com/example/throttld/throttld/SlidingLog$Log", name := "<init>", desc := "(I)V" } : Jvm.MethodName) prog_32_method_1_code (2 : Nat) (Option.none : Option Jvm.ClassFile.FieldType)).before args0 about1 = true := code_word (m := ⟨3, 0⟩) (meth := k3m0) (c := k3c0) (by decide +kernel) rfl rfl rfl (by decide +kernel)
set_option maxRecDepth 65536 in
theorem w_c2 : (Jvm.Cond.code ({ cls := "com/example/throttld/throttld/MemoryStore$Entry", name := "<init>", desc := "()V" } : Jvm.MethodName) prog_21_method_1_code (1 : Nat) (Option.none : Option Jvm.ClassFile.FieldType)).before args0 about1 = true := code_word (m := ⟨2, 0⟩) (meth := k2m0) (c := k2c0) (by decide +kernel) rfl rfl rfl (by decide +kernel)
set_option maxRecDepth 65536 in
theorem w_c3 : (Jvm.Cond.code ({ cls := "java/lang/Object", name := "<init>", desc := "()V" } : Jvm.MethodName) object_method_1_code (1 : Nat) (Option.none : Option Jvm.ClassFile.FieldType)).before args0 about1 = true := code_word (m := ⟨0, 0⟩) (meth := k0m0) (c := k0c0) (by decide +kernel) rfl rfl rfl (by decide +kernel)
set_option maxRecDepth 65536 in
theorem w_c4 : (Jvm.Cond.code ({ cls := "com/example/throttld/throttld/SlidingLog$Log", name := "add", desc := "(JJ)V" } : Jvm.MethodName) prog_32_method_6_code (7 : Nat) (Option.none : Option Jvm.ClassFile.FieldType)).before args0 about1 = true := code_word (m := ⟨3, 3⟩) (meth := k3m3) (c := k3c3) (by decide +kernel) rfl rfl rfl (by decide +kernel)
set_option maxRecDepth 65536 in
theorem w_c5 : (Jvm.Cond.code ({ cls := "com/example/throttld/throttld/SlidingLog$Log", name := "slot", desc := "(I)I" } : Jvm.MethodName) prog_32_method_7_code (3 : Nat) (Option.some Jvm.ClassFile.FieldType.int)).before args0 about1 = true := code_word (m := ⟨3, 4⟩) (meth := k3m4) (c := k3c4) (by decide +kernel) rfl rfl rfl (by decide +kernel)
set_option maxRecDepth 65536 in
theorem w_c6 : (Jvm.Cond.code ({ cls := "com/example/throttld/throttld/SlidingLog$Log", name := "newest", desc := "()J" } : Jvm.MethodName) prog_32_method_4_code (1 : Nat) (Option.some Jvm.ClassFile.FieldType.long)).before args0 about1 = true := code_word (m := ⟨3, 1⟩) (meth := k3m1) (c := k3c1) (by decide +kernel) rfl rfl rfl (by decide +kernel)
set_option maxRecDepth 65536 in
theorem w_c7 : (Jvm.Cond.code ({ cls := "com/example/throttld/throttld/SlidingLog$Log", name := "dropAgedOut", desc := "(JJ)V" } : Jvm.MethodName) prog_32_method_5_code (5 : Nat) (Option.none : Option Jvm.ClassFile.FieldType)).before args0 about1 = true := code_word (m := ⟨3, 2⟩) (meth := k3m2) (c := k3c2) (by decide +kernel) rfl rfl rfl (by decide +kernel)
set_option maxRecDepth 65536 in
theorem w_c8 : (Jvm.Cond.code ({ cls := "java/lang/Math", name := "min", desc := "(JJ)J" } : Jvm.MethodName) jdk_29_method_70_code (4 : Nat) (Option.some Jvm.ClassFile.FieldType.long)).before args0 about1 = true := code_word (m := ⟨4, 1⟩) (meth := k4m1) (c := k4c1) (by decide +kernel) rfl rfl rfl (by decide +kernel)
def codes1 : List Jvm.Cond := [Jvm.Cond.code x code maxLocals ret, Jvm.Cond.code ({ cls := "com/example/throttld/throttld/SlidingLog$Log", name := "<init>", desc := "(I)V" } : Jvm.MethodName) prog_32_method_1_code (2 : Nat) (Option.none : Option Jvm.ClassFile.FieldType), Jvm.Cond.code ({ cls := "com/example/throttld/throttld/MemoryStore$Entry", name := "<init>", desc := "()V" } : Jvm.MethodName) prog_21_method_1_code (1 : Nat) (Option.none : Option Jvm.ClassFile.FieldType), Jvm.Cond.code ({ cls := "java/lang/Object", name := "<init>", desc := "()V" } : Jvm.MethodName) object_method_1_code (1 : Nat) (Option.none : Option Jvm.ClassFile.FieldType), Jvm.Cond.code ({ cls := "com/example/throttld/throttld/SlidingLog$Log", name := "add", desc := "(JJ)V" } : Jvm.MethodName) prog_32_method_6_code (7 : Nat) (Option.none : Option Jvm.ClassFile.FieldType), Jvm.Cond.code ({ cls := "com/example/throttld/throttld/SlidingLog$Log", name := "slot", desc := "(I)I" } : Jvm.MethodName) prog_32_method_7_code (3 : Nat) (Option.some Jvm.ClassFile.FieldType.int), Jvm.Cond.code ({ cls := "com/example/throttld/throttld/SlidingLog$Log", name := "newest", desc := "()J" } : Jvm.MethodName) prog_32_method_4_code (1 : Nat) (Option.some Jvm.ClassFile.FieldType.long), Jvm.Cond.code ({ cls := "com/example/throttld/throttld/SlidingLog$Log", name := "dropAgedOut", desc := "(JJ)V" } : Jvm.MethodName) prog_32_method_5_code (5 : Nat) (Option.none : Option Jvm.ClassFile.FieldType), Jvm.Cond.code ({ cls := "java/lang/Math", name := "min", desc := "(JJ)J" } : Jvm.MethodName) jdk_29_method_70_code (4 : Nat) (Option.some Jvm.ClassFile.FieldType.long)]
set_option maxRecDepth 65536 in
theorem codes_eq : words1.filter isCode = codes1 := rfl
theorem w_codes : ∀ c ∈ words1.filter isCode, c.before args0 about1 = true := by
  rw [codes_eq]
  intro c hc
  simp only [codes1, List.mem_cons, List.not_mem_nil, or_false] at hc
  rcases hc with rfl | rfl | rfl | rfl | rfl | rfl | rfl | rfl | rfl
  · exact w_c0
  · exact w_c1
  · exact w_c2
  · exact w_c3
  · exact w_c4
  · exact w_c5
  · exact w_c6
  · exact w_c7
  · exact w_c8
set_option maxRecDepth 65536 in
theorem w_t1 : (words1.take 24).all (fun c => isCode c || c.before args0 about1) = true := by decide +kernel
set_option maxRecDepth 65536 in
theorem w_t2 : (words1.drop 24).all (fun c => isCode c || c.before args0 about1) = true := by decide +kernel
theorem w_tables : (allAtoms (Jvm.Cond.code x code maxLocals ret :: tables_1)).before args0 about1 = true := by
  rw [allAtoms_all]
  show words1.all (fun c => c.before args0 about1) = true
  refine all_split ?_ w_codes
  rw [← List.take_append_drop 24 words1, List.all_append, w_t1, w_t2]
  rfl
set_option maxRecDepth 65536 in
theorem w_case : (Jvm.Cond.and given_1 narrow_1).before args0 about1 = true := by decide +kernel
theorem w_applies : (headSpec (Jvm.Cond.code x code maxLocals ret :: tables_1) room_1).applies x e0.platform about1 = true :=
  (Spec.applies_iff w_frames).mpr ⟨w_running, w_runnable, w_alone, w_named, w_hears, w_ripe, w_room, w_tables⟩
theorem atStart : AtStart classFile x code maxLocals ret World_1 tables_1 room_1 Calls_1 rest_1 Pre_1 launch0 p0 e0 about1 theMethod args0 below0 :=
  ⟨lists_1, trivial, launch0.admits_env _ _ _, launch0.least_env, fairChoices_fair.cas, fairChoices_fair.clock, w_frames, w_args, w_heap, w_applies, trivial, trivial, w_case⟩
end start1
theorem witness_1 : WitnessClaimed_1 := ⟨start1.p0, start1.e0, start1.about1, start1.theMethod, start1.args0, start1.below0, start1.atStart⟩
end Jvm.Pilot.@@N@@
