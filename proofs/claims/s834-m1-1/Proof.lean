import JvmDerived
import JvmDerived.Pilot.@@N@@Statement
import JvmDerived.Pilot.@@N@@Code
set_option linter.unusedVariables false
set_option linter.unusedSimpArgs false
@@BLOCK:NumsL.lean.txt@@
namespace Jvm.Pilot.@@N@@
open Jvm Jvm.ClassFile Sem Op Lib Jvm.Free Jvm.Stand Jvm.LawKit Jvm.RoadKit Bundle Jvm.Pilot.@@N@@.Jvm.D
section OwnLayer
/-- the surroundings of a walk: what stays the same from step to step -/
def Cx (p : Program) (s : State) (m : MethodId) (meth : Method) (c : Code) (Z : State) (own : String) (bs : ByteArray) (mx : Nat) (rt : Option FieldType) (nm : String) : Prop :=
  p.tables.exec = Jvm.exec ∧ c.code = bs ∧ c.maxLocals = mx ∧ Z.Warmed39 s.vm ∧ s.vm.findClass own = some m.cls ∧ meth.sig.returnType = rt ∧ meth.locks = false ∧ meth.name = nm
/-- wherever the walk stands with heap h and top frame g, it comes to its end, and Q holds there -/
def Go (p : Program) (l : Launch) (e : Env) (R : Room) (s : State) (m : MethodId) (args : Array Value) (below : List Frame) (meth : Method) (c : Code) (n0 : Nat) (Q : Option Value → Heap → Prop) (K N : Nat) (h : Heap) (ce sl : Nat) (g : JFrame) : Prop :=
  ∀ (T : State) (locs : List Loc), Stand p l e R s m args below meth c T locs ce sl → T.heap = h → Fr n0 locs →
    ∃ s₂ o, Steps p.tables e below (T.setTop g) s₂ ∧ s₂.status = .running ∧ Ended s₂ below o ∧ ∃ v L, o = .returned v ∧ (Q v s₂.heap ∧ Fr n0 L) ∧ FrameEnd s o s₂ L K N
/-- a method's contract, for given arguments and a given heap -/
def Sat (l : Launch) (Z : State) (y : MethodName) (bs : ByteArray) (mx : Nat) (rt : Option FieldType) (rm : Room) (as : List Value) (h0 : Heap) (n0 : Nat) (Q : Option Value → Heap → Prop) : Prop :=
  ∀ ws : List Jvm.Cond, MetFree l y (head1 (Jvm.Cond.code y bs mx rt :: ws) rm) (fun a U => a = as.toArray ∧ Z.Warmed39 U.vm ∧ U.heap = h0) (fun _ _ _ _ _ => True) (fun _ U o U' => ∃ v L, o = .returned v ∧ (Q v U'.heap ∧ Fr n0 L) ∧ FrameEnd U o U' L rm.cells rm.slots)
def RV (P : Value → Heap → Prop) : Option Value → Heap → Prop := fun v h => ∃ r, v = some r ∧ P r h
def RN (P : Heap → Prop) : Option Value → Heap → Prop := fun v h => v = none ∧ P h
def wt (st : List Value) : Nat := (st.map fun v => v.category).sum
def bi (P : Prop) [Decidable P] : Int32 := if P then 1 else 0
theorem bi_t {P : Prop} [Decidable P] (h : P) : bi P = 1 := if_pos h
theorem bi_f {P : Prop} [Decidable P] (h : ¬ P) : bi P = 0 := if_neg h
theorem bi1 {P : Prop} [Decidable P] (h : P) : (1 : Int32) = bi P := (if_pos h).symm
theorem bi0 {P : Prop} [Decidable P] (h : ¬ P) : (0 : Int32) = bi P := (if_neg h).symm
theorem bi_congr {P P' : Prop} [Decidable P] [Decidable P'] (h : P ↔ P') : bi P = bi P' := by
  by_cases q : P
  · rw [bi_t q, bi_t (h.mp q)]
  · rw [bi_f q, bi_f fun z => q (h.mpr z)]
theorem bi_nar (P : Prop) [Decidable P] : nar .boolean (bi P) = bi P := by
  by_cases q : P
  · rw [bi_t q]; rfl
  · rw [bi_f q]; rfl
theorem bi_inj {P P' : Prop} [Decidable P] [Decidable P'] (h : bi P = bi P') : P ↔ P' := by
  by_cases q : P <;> by_cases q' : P' <;> simp_all [bi]
theorem bi_narrow (P : Prop) [Decidable P] : narrow .boolean (.int (bi P)) = .int (bi P) := by
  by_cases q : P
  · rw [bi_t q]; rfl
  · rw [bi_f q]; rfl
theorem bi_fits (P : Prop) [Decidable P] : fits .boolean (.int (bi P)) = true := by
  by_cases q : P
  · rw [bi_t q]; rfl
  · rw [bi_f q]; rfl
theorem bi_toInt (P : Prop) [Decidable P] : (bi P).toInt = if P then 1 else 0 := by
  by_cases q : P
  · rw [bi_t q, if_pos q]; rfl
  · rw [bi_f q, if_neg q]; rfl
theorem own_add_t {P : Prop} [Decidable P] (n : Int32) (h : P) : n + 1 = n + bi P := by rw [bi_t h]
theorem own_add_f {P : Prop} [Decidable P] (n : Int32) (h : ¬ P) : n = n + bi P := by rw [bi_f h, Int32.add_zero]
theorem own_narrow_arr {v : Value} {t : FieldType} (h : v.isRef = true) : narrow (.array t) v = v := by
  cases v <;> first | rfl | simp [Value.isRef] at h
theorem own_fits_arr {v : Value} {t : FieldType} (h : v.isRef = true) : fits (.array t) v = true := by
  cases v <;> first | rfl | simp [Value.isRef] at h
theorem own_bb (x : Int32) : x.toInt8.toInt32.toInt8.toInt32 = x.toInt8.toInt32 := by simp
theorem own_ne_new {h : Heap} {a b : Addr} (q : b < h.size) (g : h.size = a) : b ≠ a := Nat.ne_of_lt (g ▸ q)
theorem own_ge {h : Heap} {a : Addr} {n : Nat} (q : n ≤ h.size) (g : h.size = a) : n ≤ a := g ▸ q
theorem int_eq {x y : Int32} (h : x.toInt = y.toInt) : x = y := Int32.toInt_inj.mp h
theorem long_eq {x y : Int64} (h : x.toInt = y.toInt) : x = y := Int64.toInt_inj.mp h
section Walk
variable {p : Program} {l : Launch} {e : Env} {R : Room} {s : State} {m : MethodId} {args : Array Value} {below : List Frame} {meth : Method} {c : Code} {Z : State} {a0 : Array Value} {own : String} {bs : ByteArray} {mx : Nat} {rt : Option FieldType} {nm : String} {n0 : Nat} {Q : Option Value → Heap → Prop} {K N : Nat} {h : Heap} {ce sl : Nat} {pc pc' : Nat} {Ls Ls' : Array Slot} {st : List Value} {g g' : JFrame}
theorem Go.step (H : ∀ (T : State), At T m c below → ∀ target, Steps p.tables e below (T.setTop g') target → Steps p.tables e below (T.setTop g) target) (hr : Go p l e R s m args below meth c n0 Q K N h ce sl g') : Go p l e R s m args below meth c n0 Q K N h ce sl g := fun T locs X eT Nn => by
  obtain ⟨s₂, o, h1, r⟩ := hr T locs X eT Nn
  exact ⟨s₂, o, H T X.here _ h1, r⟩
theorem Go.stepX (H : ∀ (T : State) (locs : List Loc), Stand p l e R s m args below meth c T locs ce sl → T.heap = h → ∀ target, Steps p.tables e below (T.setTop g') target → Steps p.tables e below (T.setTop g) target) (hr : Go p l e R s m args below meth c n0 Q K N h ce sl g') : Go p l e R s m args below meth c n0 Q K N h ce sl g := fun T locs X eT Nn => by
  obtain ⟨s₂, o, h1, r⟩ := hr T locs X eT Nn
  exact ⟨s₂, o, H T locs X eT _ h1, r⟩
theorem Go.more {ce' sl' : Nat} (hc : ce ≤ ce') (hs : sl ≤ sl') (hr : Go p l e R s m args below meth c n0 Q K N h ce' sl' g) : Go p l e R s m args below meth c n0 Q K N h ce sl g := fun T locs X eT Nn => hr T locs (X.more hc hs) eT Nn
theorem go_iloadN (C : Cx p s m meth c Z own bs mx rt nm) {k : Fin 4} {v : Int32} (hd : decode bs pc = .ok (.iload_n k, 1)) (hp : pc + 1 = pc') (hl : Ls[k.val]? = some (.val (.int v))) (hr : Go p l e R s m args below meth c n0 Q K N h ce sl (mkF m pc' Ls (.int v :: st))) : Go p l e R s m args below meth c n0 Q K N h ce sl (mkF m pc Ls st) := by
  subst hp
  exact Go.step (fun T A _ q => XS.iloadN A C.1 rfl (hb C.2.1 hd) hl q) hr
theorem go_iload (C : Cx p s m meth c Z own bs mx rt nm) {k : Nat} {v : Int32} (hd : decode bs pc = .ok (.iload k, 2)) (hp : pc + 2 = pc') (hl : Ls[k]? = some (.val (.int v))) (hr : Go p l e R s m args below meth c n0 Q K N h ce sl (mkF m pc' Ls (.int v :: st))) : Go p l e R s m args below meth c n0 Q K N h ce sl (mkF m pc Ls st) := by
  subst hp
  exact Go.step (fun T A _ q => XS.iload A C.1 rfl (hb C.2.1 hd) hl q) hr
theorem go_lloadN (C : Cx p s m meth c Z own bs mx rt nm) {k : Fin 4} {v : Int64} (hd : decode bs pc = .ok (.lload_n k, 1)) (hp : pc + 1 = pc') (hl : Ls[k.val]? = some (.val (.long v))) (hr : Go p l e R s m args below meth c n0 Q K N h ce sl (mkF m pc' Ls (.long v :: st))) : Go p l e R s m args below meth c n0 Q K N h ce sl (mkF m pc Ls st) := by
  subst hp
  exact Go.step (fun T A _ q => XT.lloadN A C.1 rfl (hb C.2.1 hd) hl q) hr
theorem go_lload (C : Cx p s m meth c Z own bs mx rt nm) {k : Nat} {v : Int64} (hd : decode bs pc = .ok (.lload k, 2)) (hp : pc + 2 = pc') (hl : Ls[k]? = some (.val (.long v))) (hr : Go p l e R s m args below meth c n0 Q K N h ce sl (mkF m pc' Ls (.long v :: st))) : Go p l e R s m args below meth c n0 Q K N h ce sl (mkF m pc Ls st) := by
  subst hp
  exact Go.step (fun T A _ q => XT.lload A C.1 rfl (hb C.2.1 hd) hl q) hr
theorem go_aloadN (C : Cx p s m meth c Z own bs mx rt nm) {k : Fin 4} {v : Value} (hd : decode bs pc = .ok (.aload_n k, 1)) (hp : pc + 1 = pc') (hl : Ls[k.val]? = some (.val v)) (hv : v.isRef = true) (hr : Go p l e R s m args below meth c n0 Q K N h ce sl (mkF m pc' Ls (v :: st))) : Go p l e R s m args below meth c n0 Q K N h ce sl (mkF m pc Ls st) := by
  subst hp
  exact Go.step (fun T A _ q => XS.aloadN A C.1 rfl (hb C.2.1 hd) hl hv q) hr
theorem go_aload (C : Cx p s m meth c Z own bs mx rt nm) {k : Nat} {v : Value} (hd : decode bs pc = .ok (.aload k, 2)) (hp : pc + 2 = pc') (hl : Ls[k]? = some (.val v)) (hv : v.isRef = true) (hr : Go p l e R s m args below meth c n0 Q K N h ce sl (mkF m pc' Ls (v :: st))) : Go p l e R s m args below meth c n0 Q K N h ce sl (mkF m pc Ls st) := by
  subst hp
  exact Go.step (fun T A _ q => XS.aload A C.1 rfl (hb C.2.1 hd) hl hv q) hr
theorem go_istoreN (C : Cx p s m meth c Z own bs mx rt nm) {k : Fin 4} {v : Int32} (hd : decode bs pc = .ok (.istore_n k, 1)) (hp : pc + 1 = pc') (hl : storeLocals Ls k.val (.int v) = some Ls') (hr : Go p l e R s m args below meth c n0 Q K N h ce sl (mkF m pc' Ls' st)) : Go p l e R s m args below meth c n0 Q K N h ce sl (mkF m pc Ls (.int v :: st)) := by
  subst hp
  exact Go.step (fun T A _ q => XS.istoreN A C.1 rfl (hb C.2.1 hd) rfl hl q) hr
theorem go_istore (C : Cx p s m meth c Z own bs mx rt nm) {k : Nat} {v : Int32} (hd : decode bs pc = .ok (.istore k, 2)) (hp : pc + 2 = pc') (hl : storeLocals Ls k (.int v) = some Ls') (hr : Go p l e R s m args below meth c n0 Q K N h ce sl (mkF m pc' Ls' st)) : Go p l e R s m args below meth c n0 Q K N h ce sl (mkF m pc Ls (.int v :: st)) := by
  subst hp
  exact Go.step (fun T A _ q => XS.istore A C.1 rfl (hb C.2.1 hd) rfl hl q) hr
theorem go_lstoreN (C : Cx p s m meth c Z own bs mx rt nm) {k : Fin 4} {v : Int64} (hd : decode bs pc = .ok (.lstore_n k, 1)) (hp : pc + 1 = pc') (hl : storeLocals Ls k.val (.long v) = some Ls') (hr : Go p l e R s m args below meth c n0 Q K N h ce sl (mkF m pc' Ls' st)) : Go p l e R s m args below meth c n0 Q K N h ce sl (mkF m pc Ls (.long v :: st)) := by
  subst hp
  exact Go.step (fun T A _ q => XT.lstoreN A C.1 rfl (hb C.2.1 hd) rfl hl q) hr
theorem go_lstore (C : Cx p s m meth c Z own bs mx rt nm) {k : Nat} {v : Int64} (hd : decode bs pc = .ok (.lstore k, 2)) (hp : pc + 2 = pc') (hl : storeLocals Ls k (.long v) = some Ls') (hr : Go p l e R s m args below meth c n0 Q K N h ce sl (mkF m pc' Ls' st)) : Go p l e R s m args below meth c n0 Q K N h ce sl (mkF m pc Ls (.long v :: st)) := by
  subst hp
  exact Go.step (fun T A _ q => XT.lstore A C.1 rfl (hb C.2.1 hd) rfl hl q) hr
theorem go_astoreN (C : Cx p s m meth c Z own bs mx rt nm) {k : Fin 4} {v : Value} (hd : decode bs pc = .ok (.astore_n k, 1)) (hp : pc + 1 = pc') (hv : v.isRef = true) (hl : storeLocals Ls k.val v = some Ls') (hr : Go p l e R s m args below meth c n0 Q K N h ce sl (mkF m pc' Ls' st)) : Go p l e R s m args below meth c n0 Q K N h ce sl (mkF m pc Ls (v :: st)) := by
  subst hp
  exact Go.step (fun T A _ q => XS.astoreN A C.1 rfl (hb C.2.1 hd) rfl hv hl q) hr
theorem go_astore (C : Cx p s m meth c Z own bs mx rt nm) {k : Nat} {v : Value} (hd : decode bs pc = .ok (.astore k, 2)) (hp : pc + 2 = pc') (hv : v.isRef = true) (hl : storeLocals Ls k v = some Ls') (hr : Go p l e R s m args below meth c n0 Q K N h ce sl (mkF m pc' Ls' st)) : Go p l e R s m args below meth c n0 Q K N h ce sl (mkF m pc Ls (v :: st)) := by
  subst hp
  exact Go.step (fun T A _ q => XS.astore A C.1 rfl (hb C.2.1 hd) rfl hv hl q) hr
theorem go_istoreS (C : Cx p s m meth c Z own bs mx rt nm) {k : Nat} {v : Int32} {o : Slot} (hd : decode bs pc = .ok (.istore k, 2)) (hp : pc + 2 = pc') (hold : Ls[k]? = some o) (ho : One o) (hL : Ls.setIfInBounds k (.val (.int v)) = Ls') (hr : Go p l e R s m args below meth c n0 Q K N h ce sl (mkF m pc' Ls' st)) : Go p l e R s m args below meth c n0 Q K N h ce sl (mkF m pc Ls (.int v :: st)) := by
  subst hp hL
  exact Go.step (fun T A _ q => XS.istoreS A C.1 rfl (hb C.2.1 hd) rfl hold ho q) hr
theorem go_istoreNS (C : Cx p s m meth c Z own bs mx rt nm) {k : Fin 4} {v : Int32} {o : Slot} (hd : decode bs pc = .ok (.istore_n k, 1)) (hp : pc + 1 = pc') (hold : Ls[k.val]? = some o) (ho : One o) (hL : Ls.setIfInBounds k.val (.val (.int v)) = Ls') (hr : Go p l e R s m args below meth c n0 Q K N h ce sl (mkF m pc' Ls' st)) : Go p l e R s m args below meth c n0 Q K N h ce sl (mkF m pc Ls (.int v :: st)) := by
  subst hp hL
  exact Go.step (fun T A _ q => XS.istoreNS A C.1 rfl (hb C.2.1 hd) rfl hold ho q) hr
theorem go_iconst (C : Cx p s m meth c Z own bs mx rt nm) {i : Int} (v : Int32) (hd : decode bs pc = .ok (.iconst i, 1)) (hp : pc + 1 = pc') (hv : Int32.ofInt i = v) (hr : Go p l e R s m args below meth c n0 Q K N h ce sl (mkF m pc' Ls (.int v :: st))) : Go p l e R s m args below meth c n0 Q K N h ce sl (mkF m pc Ls st) := by
  subst hp
  exact Go.step (fun T A _ q => XT.iconstV A C.1 rfl v (hb C.2.1 hd) hv q) hr
theorem go_bipush (C : Cx p s m meth c Z own bs mx rt nm) {i : Int} (v : Int32) (hd : decode bs pc = .ok (.bipush i, 2)) (hp : pc + 2 = pc') (hv : (Int8.ofInt i).toInt32 = v) (hr : Go p l e R s m args below meth c n0 Q K N h ce sl (mkF m pc' Ls (.int v :: st))) : Go p l e R s m args below meth c n0 Q K N h ce sl (mkF m pc Ls st) := by
  subst hp
  exact Go.step (fun T A _ q => XT.bipushV A C.1 rfl v (hb C.2.1 hd) hv q) hr
theorem go_sipush (C : Cx p s m meth c Z own bs mx rt nm) {i : Int} (v : Int32) (hd : decode bs pc = .ok (.sipush i, 3)) (hp : pc + 3 = pc') (hv : (Int16.ofInt i).toInt32 = v) (hr : Go p l e R s m args below meth c n0 Q K N h ce sl (mkF m pc' Ls (.int v :: st))) : Go p l e R s m args below meth c n0 Q K N h ce sl (mkF m pc Ls st) := by
  subst hp
  exact Go.step (fun T A _ q => XT.sipushV A C.1 rfl v (hb C.2.1 hd) hv q) hr
theorem go_lconst (C : Cx p s m meth c Z own bs mx rt nm) {k : Fin 2} (v : Int64) (hd : decode bs pc = .ok (.lconst k, 1)) (hp : pc + 1 = pc') (hv : Int64.ofNat k = v) (hr : Go p l e R s m args below meth c n0 Q K N h ce sl (mkF m pc' Ls (.long v :: st))) : Go p l e R s m args below meth c n0 Q K N h ce sl (mkF m pc Ls st) := by
  subst hp
  exact Go.step (fun T A _ q => XT.lconstV A C.1 rfl v (hb C.2.1 hd) hv q) hr
theorem go_aconst_null (C : Cx p s m meth c Z own bs mx rt nm)  (hd : decode bs pc = .ok (.aconst_null, 1)) (hp : pc + 1 = pc') (hr : Go p l e R s m args below meth c n0 Q K N h ce sl (mkF m pc' Ls (.null :: st))) : Go p l e R s m args below meth c n0 Q K N h ce sl (mkF m pc Ls st) := by
  subst hp
  exact Go.step (fun T A _ q => XS.aconstNull A C.1 rfl (hb C.2.1 hd)  q) hr
theorem go_iinc (C : Cx p s m meth c Z own bs mx rt nm) {k : Nat} {i : Int} {x : Int32} (v : Int32) (hd : decode bs pc = .ok (.iinc k i, 3)) (hp : pc + 3 = pc') (hv : Int32.ofInt i = v) (hl : Ls[k]? = some (.val (.int x))) (hl' : storeLocals Ls k (.int (x + v)) = some Ls') (hr : Go p l e R s m args below meth c n0 Q K N h ce sl (mkF m pc' Ls' st)) : Go p l e R s m args below meth c n0 Q K N h ce sl (mkF m pc Ls st) := by
  subst hp
  exact Go.step (fun T A _ q => XT.iincV A C.1 rfl v (hb C.2.1 hd) hv hl hl' q) hr
theorem go_iadd (C : Cx p s m meth c Z own bs mx rt nm) {x y : Int32} (hd : decode bs pc = .ok (.iadd, 1)) (hp : pc + 1 = pc') (hr : Go p l e R s m args below meth c n0 Q K N h ce sl (mkF m pc' Ls (.int (x + y) :: st))) : Go p l e R s m args below meth c n0 Q K N h ce sl (mkF m pc Ls (.int y :: .int x :: st)) := by
  subst hp
  exact Go.step (fun T A _ q => XS.iadd A C.1 rfl (hb C.2.1 hd) rfl q) hr
theorem go_isub (C : Cx p s m meth c Z own bs mx rt nm) {x y : Int32} (hd : decode bs pc = .ok (.isub, 1)) (hp : pc + 1 = pc') (hr : Go p l e R s m args below meth c n0 Q K N h ce sl (mkF m pc' Ls (.int (x - y) :: st))) : Go p l e R s m args below meth c n0 Q K N h ce sl (mkF m pc Ls (.int y :: .int x :: st)) := by
  subst hp
  exact Go.step (fun T A _ q => XS.isub A C.1 rfl (hb C.2.1 hd) rfl q) hr
theorem go_iand (C : Cx p s m meth c Z own bs mx rt nm) {x y : Int32} (hd : decode bs pc = .ok (.iand, 1)) (hp : pc + 1 = pc') (hr : Go p l e R s m args below meth c n0 Q K N h ce sl (mkF m pc' Ls (.int (x &&& y) :: st))) : Go p l e R s m args below meth c n0 Q K N h ce sl (mkF m pc Ls (.int y :: .int x :: st)) := by
  subst hp
  exact Go.step (fun T A _ q => XS.iand A C.1 rfl (hb C.2.1 hd) rfl q) hr
theorem go_imul (C : Cx p s m meth c Z own bs mx rt nm) {x y : Int32} (hd : decode bs pc = .ok (.imul, 1)) (hp : pc + 1 = pc') (hr : Go p l e R s m args below meth c n0 Q K N h ce sl (mkF m pc' Ls (.int (x * y) :: st))) : Go p l e R s m args below meth c n0 Q K N h ce sl (mkF m pc Ls (.int y :: .int x :: st)) := by
  subst hp
  exact Go.step (fun T A _ q => XS.imul A C.1 rfl (hb C.2.1 hd) rfl q) hr
theorem go_ior (C : Cx p s m meth c Z own bs mx rt nm) {x y : Int32} (hd : decode bs pc = .ok (.ior, 1)) (hp : pc + 1 = pc') (hr : Go p l e R s m args below meth c n0 Q K N h ce sl (mkF m pc' Ls (.int (x ||| y) :: st))) : Go p l e R s m args below meth c n0 Q K N h ce sl (mkF m pc Ls (.int y :: .int x :: st)) := by
  subst hp
  exact Go.step (fun T A _ q => XT.ior A C.1 rfl (hb C.2.1 hd) rfl q) hr
theorem go_ixor (C : Cx p s m meth c Z own bs mx rt nm) {x y : Int32} (hd : decode bs pc = .ok (.ixor, 1)) (hp : pc + 1 = pc') (hr : Go p l e R s m args below meth c n0 Q K N h ce sl (mkF m pc' Ls (.int (x ^^^ y) :: st))) : Go p l e R s m args below meth c n0 Q K N h ce sl (mkF m pc Ls (.int y :: .int x :: st)) := by
  subst hp
  exact Go.step (fun T A _ q => XT.ixor A C.1 rfl (hb C.2.1 hd) rfl q) hr
theorem go_ishl (C : Cx p s m meth c Z own bs mx rt nm) {x y : Int32} (hd : decode bs pc = .ok (.ishl, 1)) (hp : pc + 1 = pc') (hr : Go p l e R s m args below meth c n0 Q K N h ce sl (mkF m pc' Ls (.int (x <<< (y &&& 31)) :: st))) : Go p l e R s m args below meth c n0 Q K N h ce sl (mkF m pc Ls (.int y :: .int x :: st)) := by
  subst hp
  exact Go.step (fun T A _ q => XT.ishl A C.1 rfl (hb C.2.1 hd) rfl q) hr
theorem go_ishr (C : Cx p s m meth c Z own bs mx rt nm) {x y : Int32} (hd : decode bs pc = .ok (.ishr, 1)) (hp : pc + 1 = pc') (hr : Go p l e R s m args below meth c n0 Q K N h ce sl (mkF m pc' Ls (.int (x >>> (y &&& 31)) :: st))) : Go p l e R s m args below meth c n0 Q K N h ce sl (mkF m pc Ls (.int y :: .int x :: st)) := by
  subst hp
  exact Go.step (fun T A _ q => XT.ishr A C.1 rfl (hb C.2.1 hd) rfl q) hr
theorem go_iushr (C : Cx p s m meth c Z own bs mx rt nm) {x y : Int32} (hd : decode bs pc = .ok (.iushr, 1)) (hp : pc + 1 = pc') (hr : Go p l e R s m args below meth c n0 Q K N h ce sl (mkF m pc' Ls (.int (XT.ushr x y) :: st))) : Go p l e R s m args below meth c n0 Q K N h ce sl (mkF m pc Ls (.int y :: .int x :: st)) := by
  subst hp
  exact Go.step (fun T A _ q => XT.iushr A C.1 rfl (hb C.2.1 hd) rfl q) hr
theorem go_ladd (C : Cx p s m meth c Z own bs mx rt nm) {x y : Int64} (hd : decode bs pc = .ok (.ladd, 1)) (hp : pc + 1 = pc') (hr : Go p l e R s m args below meth c n0 Q K N h ce sl (mkF m pc' Ls (.long (x + y) :: st))) : Go p l e R s m args below meth c n0 Q K N h ce sl (mkF m pc Ls (.long y :: .long x :: st)) := by
  subst hp
  exact Go.step (fun T A _ q => XT.ladd A C.1 rfl (hb C.2.1 hd) rfl q) hr
theorem go_lsub (C : Cx p s m meth c Z own bs mx rt nm) {x y : Int64} (hd : decode bs pc = .ok (.lsub, 1)) (hp : pc + 1 = pc') (hr : Go p l e R s m args below meth c n0 Q K N h ce sl (mkF m pc' Ls (.long (x - y) :: st))) : Go p l e R s m args below meth c n0 Q K N h ce sl (mkF m pc Ls (.long y :: .long x :: st)) := by
  subst hp
  exact Go.step (fun T A _ q => XT.lsub A C.1 rfl (hb C.2.1 hd) rfl q) hr
theorem go_land (C : Cx p s m meth c Z own bs mx rt nm) {x y : Int64} (hd : decode bs pc = .ok (.land, 1)) (hp : pc + 1 = pc') (hr : Go p l e R s m args below meth c n0 Q K N h ce sl (mkF m pc' Ls (.long (x &&& y) :: st))) : Go p l e R s m args below meth c n0 Q K N h ce sl (mkF m pc Ls (.long y :: .long x :: st)) := by
  subst hp
  exact Go.step (fun T A _ q => XT.land A C.1 rfl (hb C.2.1 hd) rfl q) hr
theorem go_lmul (C : Cx p s m meth c Z own bs mx rt nm) {x y : Int64} (hd : decode bs pc = .ok (.lmul, 1)) (hp : pc + 1 = pc') (hr : Go p l e R s m args below meth c n0 Q K N h ce sl (mkF m pc' Ls (.long (x * y) :: st))) : Go p l e R s m args below meth c n0 Q K N h ce sl (mkF m pc Ls (.long y :: .long x :: st)) := by
  subst hp
  exact Go.step (fun T A _ q => XT.lmul A C.1 rfl (hb C.2.1 hd) rfl q) hr
theorem go_lor (C : Cx p s m meth c Z own bs mx rt nm) {x y : Int64} (hd : decode bs pc = .ok (.lor, 1)) (hp : pc + 1 = pc') (hr : Go p l e R s m args below meth c n0 Q K N h ce sl (mkF m pc' Ls (.long (x ||| y) :: st))) : Go p l e R s m args below meth c n0 Q K N h ce sl (mkF m pc Ls (.long y :: .long x :: st)) := by
  subst hp
  exact Go.step (fun T A _ q => XT.lor A C.1 rfl (hb C.2.1 hd) rfl q) hr
theorem go_lxor (C : Cx p s m meth c Z own bs mx rt nm) {x y : Int64} (hd : decode bs pc = .ok (.lxor, 1)) (hp : pc + 1 = pc') (hr : Go p l e R s m args below meth c n0 Q K N h ce sl (mkF m pc' Ls (.long (x ^^^ y) :: st))) : Go p l e R s m args below meth c n0 Q K N h ce sl (mkF m pc Ls (.long y :: .long x :: st)) := by
  subst hp
  exact Go.step (fun T A _ q => XT.lxor A C.1 rfl (hb C.2.1 hd) rfl q) hr
theorem go_idiv (C : Cx p s m meth c Z own bs mx rt nm) {x y : Int32} (hd : decode bs pc = .ok (.idiv, 1)) (hp : pc + 1 = pc') (hy : y ≠ 0) (hr : Go p l e R s m args below meth c n0 Q K N h ce sl (mkF m pc' Ls (.int (x / y) :: st))) : Go p l e R s m args below meth c n0 Q K N h ce sl (mkF m pc Ls (.int y :: .int x :: st)) := by
  subst hp
  exact Go.step (fun T A _ q => XS.idiv A C.1 rfl (hb C.2.1 hd) rfl hy q) hr
theorem go_irem (C : Cx p s m meth c Z own bs mx rt nm) {x y : Int32} (hd : decode bs pc = .ok (.irem, 1)) (hp : pc + 1 = pc') (hy : y ≠ 0) (hr : Go p l e R s m args below meth c n0 Q K N h ce sl (mkF m pc' Ls (.int (x % y) :: st))) : Go p l e R s m args below meth c n0 Q K N h ce sl (mkF m pc Ls (.int y :: .int x :: st)) := by
  subst hp
  exact Go.stepX (fun T locs X _ _ q => iremM X C.1 rfl (hb C.2.1 hd) rfl hy q) hr
theorem go_i2l (C : Cx p s m meth c Z own bs mx rt nm) {x : Int32} (hd : decode bs pc = .ok (.i2l, 1)) (hp : pc + 1 = pc') (hr : Go p l e R s m args below meth c n0 Q K N h ce sl (mkF m pc' Ls (.long x.toInt64 :: st))) : Go p l e R s m args below meth c n0 Q K N h ce sl (mkF m pc Ls (.int x :: st)) := by
  subst hp
  exact Go.step (fun T A _ q => XT.i2l A C.1 rfl (hb C.2.1 hd) rfl q) hr
theorem go_l2i (C : Cx p s m meth c Z own bs mx rt nm) {x : Int64} (hd : decode bs pc = .ok (.l2i, 1)) (hp : pc + 1 = pc') (hr : Go p l e R s m args below meth c n0 Q K N h ce sl (mkF m pc' Ls (.int x.toInt32 :: st))) : Go p l e R s m args below meth c n0 Q K N h ce sl (mkF m pc Ls (.long x :: st)) := by
  subst hp
  exact Go.step (fun T A _ q => XT.l2i A C.1 rfl (hb C.2.1 hd) rfl q) hr
theorem go_i2b (C : Cx p s m meth c Z own bs mx rt nm) {x : Int32} (hd : decode bs pc = .ok (.i2b, 1)) (hp : pc + 1 = pc') (hr : Go p l e R s m args below meth c n0 Q K N h ce sl (mkF m pc' Ls (.int x.toInt8.toInt32 :: st))) : Go p l e R s m args below meth c n0 Q K N h ce sl (mkF m pc Ls (.int x :: st)) := by
  subst hp
  exact Go.step (fun T A _ q => XT.i2b A C.1 rfl (hb C.2.1 hd) rfl q) hr
theorem go_i2c (C : Cx p s m meth c Z own bs mx rt nm) {x : Int32} (hd : decode bs pc = .ok (.i2c, 1)) (hp : pc + 1 = pc') (hr : Go p l e R s m args below meth c n0 Q K N h ce sl (mkF m pc' Ls (.int x.toUInt32.toUInt16.toUInt32.toInt32 :: st))) : Go p l e R s m args below meth c n0 Q K N h ce sl (mkF m pc Ls (.int x :: st)) := by
  subst hp
  exact Go.step (fun T A _ q => XT.i2c A C.1 rfl (hb C.2.1 hd) rfl q) hr
theorem go_ineg (C : Cx p s m meth c Z own bs mx rt nm) {x : Int32} (hd : decode bs pc = .ok (.ineg, 1)) (hp : pc + 1 = pc') (hr : Go p l e R s m args below meth c n0 Q K N h ce sl (mkF m pc' Ls (.int (-x) :: st))) : Go p l e R s m args below meth c n0 Q K N h ce sl (mkF m pc Ls (.int x :: st)) := by
  subst hp
  exact Go.step (fun T A _ q => XS.ineg A C.1 rfl (hb C.2.1 hd) rfl q) hr
theorem go_dup (C : Cx p s m meth c Z own bs mx rt nm) {v : Value} (hd : decode bs pc = .ok (.dup, 1)) (hp : pc + 1 = pc') (hc : v.category = 1) (hr : Go p l e R s m args below meth c n0 Q K N h ce sl (mkF m pc' Ls (v :: v :: st))) : Go p l e R s m args below meth c n0 Q K N h ce sl (mkF m pc Ls (v :: st)) := by
  subst hp
  exact Go.step (fun T A _ q => XS.dup A C.1 rfl (hb C.2.1 hd) rfl hc q) hr
theorem go_pop (C : Cx p s m meth c Z own bs mx rt nm) {v : Value} (hd : decode bs pc = .ok (.pop, 1)) (hp : pc + 1 = pc') (hc : v.category = 1) (hr : Go p l e R s m args below meth c n0 Q K N h ce sl (mkF m pc' Ls st)) : Go p l e R s m args below meth c n0 Q K N h ce sl (mkF m pc Ls (v :: st)) := by
  subst hp
  exact Go.step (fun T A _ q => XT.pop A C.1 rfl (hb C.2.1 hd) rfl hc q) hr
theorem go_dup2 (C : Cx p s m meth c Z own bs mx rt nm) {v w : Value} (hd : decode bs pc = .ok (.dup2, 1)) (hp : pc + 1 = pc') (hc : v.category = 1) (hc' : w.category = 1) (hr : Go p l e R s m args below meth c n0 Q K N h ce sl (mkF m pc' Ls (v :: w :: v :: w :: st))) : Go p l e R s m args below meth c n0 Q K N h ce sl (mkF m pc Ls (v :: w :: st)) := by
  subst hp
  exact Go.step (fun T A _ q => XT.dup2 A C.1 rfl (hb C.2.1 hd) rfl hc hc' q) hr
theorem go_dup_x1 (C : Cx p s m meth c Z own bs mx rt nm) {v w : Value} (hd : decode bs pc = .ok (.dup_x1, 1)) (hp : pc + 1 = pc') (hc : v.category = 1) (hc' : w.category = 1) (hr : Go p l e R s m args below meth c n0 Q K N h ce sl (mkF m pc' Ls (v :: w :: v :: st))) : Go p l e R s m args below meth c n0 Q K N h ce sl (mkF m pc Ls (v :: w :: st)) := by
  subst hp
  exact Go.step (fun T A _ q => XT.dupX1 A C.1 rfl (hb C.2.1 hd) rfl hc hc' q) hr
theorem go_lushr (C : Cx p s m meth c Z own bs mx rt nm) {x : Int64} {y : Int32} (hd : decode bs pc = .ok (.lushr, 1)) (hp : pc + 1 = pc') (hr : Go p l e R s m args below meth c n0 Q K N h ce sl (mkF m pc' Ls (.long (XT.ushrL x y) :: st))) : Go p l e R s m args below meth c n0 Q K N h ce sl (mkF m pc Ls (.int y :: .long x :: st)) := by
  subst hp
  exact Go.step (fun T A _ q => XT.lushr A C.1 rfl (hb C.2.1 hd) rfl q) hr
theorem go_lshl (C : Cx p s m meth c Z own bs mx rt nm) {x : Int64} {y : Int32} (hd : decode bs pc = .ok (.lshl, 1)) (hp : pc + 1 = pc') (hr : Go p l e R s m args below meth c n0 Q K N h ce sl (mkF m pc' Ls (.long (x <<< (y.toInt64 &&& 63)) :: st))) : Go p l e R s m args below meth c n0 Q K N h ce sl (mkF m pc Ls (.int y :: .long x :: st)) := by
  subst hp
  exact Go.step (fun T A _ q => XT.lshl A C.1 rfl (hb C.2.1 hd) rfl q) hr
theorem go_ldiv (C : Cx p s m meth c Z own bs mx rt nm) {x y : Int64} (hd : decode bs pc = .ok (.ldiv, 1)) (hp : pc + 1 = pc') (hy : y ≠ 0) (hr : Go p l e R s m args below meth c n0 Q K N h ce sl (mkF m pc' Ls (.long (x / y) :: st))) : Go p l e R s m args below meth c n0 Q K N h ce sl (mkF m pc Ls (.long y :: .long x :: st)) := by
  subst hp
  exact Go.step (fun T A _ q => XT.ldiv A C.1 rfl (hb C.2.1 hd) rfl hy q) hr
theorem go_lrem (C : Cx p s m meth c Z own bs mx rt nm) {x y : Int64} (hd : decode bs pc = .ok (.lrem, 1)) (hp : pc + 1 = pc') (hy : y ≠ 0) (hr : Go p l e R s m args below meth c n0 Q K N h ce sl (mkF m pc' Ls (.long (x - (x / y) * y) :: st))) : Go p l e R s m args below meth c n0 Q K N h ce sl (mkF m pc Ls (.long y :: .long x :: st)) := by
  subst hp
  exact Go.step (fun T A _ q => XT.lrem A C.1 rfl (hb C.2.1 hd) rfl hy q) hr
theorem go_goto (C : Cx p s m meth c Z own bs mx rt nm) {o : Int} (hd : decode bs pc = .ok (.goto o, 3)) (ho : 0 ≤ (pc : Int) + o) (hp : ((pc : Int) + o).toNat = pc') (hr : Go p l e R s m args below meth c n0 Q K N h ce sl (mkF m pc' Ls st)) : Go p l e R s m args below meth c n0 Q K N h ce sl (mkF m pc Ls st) :=
  Go.step (fun T A _ q => XS.goto A C.1 rfl rfl (hb C.2.1 hd) ho hp q) hr
/-- what a comparison says, of integers -/
def cmpP (cd : ClassFile.Cond) (x y : Int) : Prop := match cd with | .eq => x = y | .ne => ¬ x = y | .lt => x < y | .ge => ¬ x < y | .gt => y < x | .le => ¬ y < x
def cmpN (cd : ClassFile.Cond) (x y : Int) : Prop := match cd with | .eq => ¬ x = y | .ne => x = y | .lt => ¬ x < y | .ge => x < y | .gt => ¬ y < x | .le => y < x
theorem cmpN_of {cd : ClassFile.Cond} {x y : Int} (h : ¬ cmpP cd x y) : cmpN cd x y := by
  cases cd <;> simp only [cmpP] at h <;> simp only [cmpN] <;> omega
theorem cmp_t {cd : ClassFile.Cond} {x y : Int32} (h : cmpP cd x.toInt y.toInt) : if_icmp.holds cd x y = true := by
  cases cd <;> simp only [cmpP] at h
  · exact XT.ii_eq_t (int_eq h)
  · exact XT.ii_ne_t fun q => h (by rw [q])
  · exact XT.ii_lt_t (Int32.lt_iff_toInt_lt.mpr h)
  · exact XT.ii_ge_t fun q => h (Int32.lt_iff_toInt_lt.mp q)
  · exact XT.ii_gt_t (Int32.lt_iff_toInt_lt.mpr h)
  · exact XT.ii_le_t fun q => h (Int32.lt_iff_toInt_lt.mp q)
theorem cmp_f {cd : ClassFile.Cond} {x y : Int32} (h : ¬ cmpP cd x.toInt y.toInt) : if_icmp.holds cd x y = false := by
  cases cd <;> simp only [cmpP] at h
  · exact XT.ii_eq_f fun q => h (by rw [q])
  · exact XT.ii_ne_f (int_eq (Classical.not_not.mp h))
  · exact XT.ii_lt_f fun q => h (Int32.lt_iff_toInt_lt.mp q)
  · exact XT.ii_ge_f (Int32.lt_iff_toInt_lt.mpr (Classical.not_not.mp h))
  · exact XT.ii_gt_f fun q => h (Int32.lt_iff_toInt_lt.mp q)
  · exact XT.ii_le_f (Int32.lt_iff_toInt_lt.mpr (Classical.not_not.mp h))
theorem cmpL_t {cd : ClassFile.Cond} {x y : Int64} (h : cmpP cd x.toInt y.toInt) : ifCond.holds cd (XT.cmpL x y) = true := by
  cases cd <;> simp only [cmpP] at h
  · exact XT.ll_eq_t (long_eq h)
  · exact XT.ll_ne_t fun q => h (by rw [q])
  · exact XT.ll_lt_t (Int64.lt_iff_toInt_lt.mpr h)
  · exact XT.ll_ge_t fun q => h (Int64.lt_iff_toInt_lt.mp q)
  · exact XT.ll_gt_t (Int64.lt_iff_toInt_lt.mpr h)
  · exact XT.ll_le_t fun q => h (Int64.lt_iff_toInt_lt.mp q)
theorem cmpL_f {cd : ClassFile.Cond} {x y : Int64} (h : ¬ cmpP cd x.toInt y.toInt) : ifCond.holds cd (XT.cmpL x y) = false := by
  cases cd <;> simp only [cmpP] at h
  · exact XT.ll_eq_f fun q => h (by rw [q])
  · exact XT.ll_ne_f (long_eq (Classical.not_not.mp h))
  · exact XT.ll_lt_f fun q => h (Int64.lt_iff_toInt_lt.mp q)
  · exact XT.ll_ge_f (Int64.lt_iff_toInt_lt.mpr (Classical.not_not.mp h))
  · exact XT.ll_gt_f fun q => h (Int64.lt_iff_toInt_lt.mp q)
  · exact XT.ll_le_f (Int64.lt_iff_toInt_lt.mpr (Classical.not_not.mp h))
theorem go_icmp (C : Cx p s m meth c Z own bs mx rt nm) {cd : ClassFile.Cond} {x y : Int32} {o : Int} {pcN : Nat} (kx ky : Int) (hx : x.toInt = kx) (hy : y.toInt = ky) (hd : decode bs pc = .ok (.if_icmp cd o, 3)) (ho : 0 ≤ (pc : Int) + o) (hp : ((pc : Int) + o).toNat = pc') (hpn : pc + 3 = pcN) (h1 : cmpP cd kx ky → Go p l e R s m args below meth c n0 Q K N h ce sl (mkF m pc' Ls st)) (h2 : cmpN cd kx ky → Go p l e R s m args below meth c n0 Q K N h ce sl (mkF m pcN Ls st)) : Go p l e R s m args below meth c n0 Q K N h ce sl (mkF m pc Ls (.int y :: .int x :: st)) := by
  subst hpn hx hy
  by_cases q : cmpP cd x.toInt y.toInt
  · exact Go.step (fun T A _ k => XS.icmpYes A C.1 rfl rfl (hb C.2.1 hd) rfl (cmp_t q) ho hp k) (h1 q)
  · exact Go.step (fun T A _ k => XS.icmpNo A C.1 rfl (hb C.2.1 hd) rfl (cmp_f q) k) (h2 (cmpN_of q))
theorem go_if0 (C : Cx p s m meth c Z own bs mx rt nm) {cd : ClassFile.Cond} {x : Int32} {o : Int} {pcN : Nat} (kx : Int) (hx : x.toInt = kx) (hd : decode bs pc = .ok (.ifCond cd o, 3)) (ho : 0 ≤ (pc : Int) + o) (hp : ((pc : Int) + o).toNat = pc') (hpn : pc + 3 = pcN) (h1 : cmpP cd kx 0 → Go p l e R s m args below meth c n0 Q K N h ce sl (mkF m pc' Ls st)) (h2 : cmpN cd kx 0 → Go p l e R s m args below meth c n0 Q K N h ce sl (mkF m pcN Ls st)) : Go p l e R s m args below meth c n0 Q K N h ce sl (mkF m pc Ls (.int x :: st)) := by
  subst hpn hx
  by_cases q : cmpP cd x.toInt 0
  · exact Go.step (fun T A _ k => XS.ifYes A C.1 rfl rfl (hb C.2.1 hd) rfl ((if0 cd x).trans (cmp_t q)) ho hp k) (h1 q)
  · exact Go.step (fun T A _ k => XS.ifNo A C.1 rfl (hb C.2.1 hd) rfl ((if0 cd x).trans (cmp_f q)) k) (h2 (cmpN_of q))
theorem go_lcmp (C : Cx p s m meth c Z own bs mx rt nm) {cd : ClassFile.Cond} {x y : Int64} {o : Int} {pc1 pcN : Nat} (kx ky : Int) (hx : x.toInt = kx) (hy : y.toInt = ky) (hd0 : decode bs pc = .ok (.lcmp, 1)) (hp1 : pc + 1 = pc1) (hd : decode bs pc1 = .ok (.ifCond cd o, 3)) (ho : 0 ≤ (pc1 : Int) + o) (hp : ((pc1 : Int) + o).toNat = pc') (hpn : pc1 + 3 = pcN) (h1 : cmpP cd kx ky → Go p l e R s m args below meth c n0 Q K N h ce sl (mkF m pc' Ls st)) (h2 : cmpN cd kx ky → Go p l e R s m args below meth c n0 Q K N h ce sl (mkF m pcN Ls st)) : Go p l e R s m args below meth c n0 Q K N h ce sl (mkF m pc Ls (.long y :: .long x :: st)) := by
  subst hpn hp1 hx hy
  refine Go.step (g' := mkF m (pc + 1) Ls (.int (XT.cmpL x y) :: st)) (fun T A _ k => XT.lcmp A C.1 rfl (hb C.2.1 hd0) rfl k) ?_
  by_cases q : cmpP cd x.toInt y.toInt
  · exact Go.step (fun T A _ k => XS.ifYes A C.1 rfl rfl (hb C.2.1 hd) rfl (cmpL_t q) ho hp k) (h1 q)
  · exact Go.step (fun T A _ k => XS.ifNo A C.1 rfl (hb C.2.1 hd) rfl (cmpL_f q) k) (h2 (cmpN_of q))
theorem go_ifne_b (C : Cx p s m meth c Z own bs mx rt nm) {B : Prop} [Decidable B] {o : Int} {pcN : Nat} (hd : decode bs pc = .ok (.ifCond .ne o, 3)) (ho : 0 ≤ (pc : Int) + o) (hp : ((pc : Int) + o).toNat = pc') (hpn : pc + 3 = pcN) (h1 : B → Go p l e R s m args below meth c n0 Q K N h ce sl (mkF m pc' Ls st)) (h2 : ¬ B → Go p l e R s m args below meth c n0 Q K N h ce sl (mkF m pcN Ls st)) : Go p l e R s m args below meth c n0 Q K N h ce sl (mkF m pc Ls (.int (bi B) :: st)) := by
  refine go_if0 C _ rfl hd ho hp hpn (fun q => h1 ?_) (fun q => h2 ?_)
  · exact Classical.byContradiction fun z => q (by rw [bi_f z]; rfl)
  · exact fun z => by
      have q' : (bi B).toInt = 0 := q
      rw [bi_t z] at q'
      exact absurd q' (by decide)
theorem go_ifeq_b (C : Cx p s m meth c Z own bs mx rt nm) {B : Prop} [Decidable B] {o : Int} {pcN : Nat} (hd : decode bs pc = .ok (.ifCond .eq o, 3)) (ho : 0 ≤ (pc : Int) + o) (hp : ((pc : Int) + o).toNat = pc') (hpn : pc + 3 = pcN) (h1 : ¬ B → Go p l e R s m args below meth c n0 Q K N h ce sl (mkF m pc' Ls st)) (h2 : B → Go p l e R s m args below meth c n0 Q K N h ce sl (mkF m pcN Ls st)) : Go p l e R s m args below meth c n0 Q K N h ce sl (mkF m pc Ls (.int (bi B) :: st)) := by
  refine go_if0 C _ rfl hd ho hp hpn (fun q => h1 ?_) (fun q => h2 ?_)
  · exact fun z => by
      have q' : (bi B).toInt = 0 := q
      rw [bi_t z] at q'
      exact absurd q' (by decide)
  · exact Classical.byContradiction fun z => q (by rw [bi_f z]; rfl)
theorem go_ifnull_r (C : Cx p s m meth c Z own bs mx rt nm) {a : Addr} {o : Int} (hd : decode bs pc = .ok (.ifnull o, 3)) (hp : pc + 3 = pc') (hr : Go p l e R s m args below meth c n0 Q K N h ce sl (mkF m pc' Ls st)) : Go p l e R s m args below meth c n0 Q K N h ce sl (mkF m pc Ls (.ref a :: st)) := by
  subst hp
  exact Go.step (fun T A _ k => XS.ifnullNo A C.1 rfl (hb C.2.1 hd) rfl k) hr
theorem go_ifnull_n (C : Cx p s m meth c Z own bs mx rt nm) {o : Int} (hd : decode bs pc = .ok (.ifnull o, 3)) (ho : 0 ≤ (pc : Int) + o) (hp : ((pc : Int) + o).toNat = pc') (hr : Go p l e R s m args below meth c n0 Q K N h ce sl (mkF m pc' Ls st)) : Go p l e R s m args below meth c n0 Q K N h ce sl (mkF m pc Ls (.null :: st)) :=
  Go.step (fun T A _ k => XS.ifnullYes A C.1 rfl rfl (hb C.2.1 hd) rfl ho hp k) hr
theorem go_ldc (C : Cx p s m meth c Z own bs mx rt nm) {i : Nat} {v : Int32} (w : (Jvm.Cond.constant own i v).before a0 Z = true) (hd : decode bs pc = .ok (.ldc i, 2)) (hp : pc + 2 = pc') (hr : Go p l e R s m args below meth c n0 Q K N h ce sl (mkF m pc' Ls (.int v :: st))) : Go p l e R s m args below meth c n0 Q K N h ce sl (mkF m pc Ls st) := by
  subst hp
  exact Go.stepX (fun T locs X _ _ q => X.ldcI C.1 C.2.2.2.2.1 (mv C.2.2.2.1 w) rfl (hb C.2.1 hd) q) hr
theorem go_ldc2 (C : Cx p s m meth c Z own bs mx rt nm) {i : Nat} {v : Int64} (w : (Jvm.Cond.constantLong own i v).before a0 Z = true) (hd : decode bs pc = .ok (.ldc2_w i, 3)) (hp : pc + 3 = pc') (hr : Go p l e R s m args below meth c n0 Q K N h ce sl (mkF m pc' Ls (.long v :: st))) : Go p l e R s m args below meth c n0 Q K N h ce sl (mkF m pc Ls st) := by
  subst hp
  exact Go.stepX (fun T locs X _ _ q => X.ldc2J C.1 C.2.2.2.2.1 (mv C.2.2.2.1 w) rfl (hb C.2.1 hd) q) hr
theorem go_getfield (C : Cx p s m meth c Z own bs mx rt nm) {O n d : String} {i : Nat} {a : Addr} {v : Value} (w : (Jvm.Cond.fieldLink own i O n d).before a0 Z = true) (F0 : Fld Z h a O n d v) (hd : decode bs pc = .ok (.getfield i, 3)) (hp : pc + 3 = pc') (hr : Go p l e R s m args below meth c n0 Q K N h ce sl (mkF m pc' Ls (v :: st))) : Go p l e R s m args below meth c n0 Q K N h ce sl (mkF m pc Ls (.ref a :: st)) := by
  subst hp
  intro T locs X eT Nn
  obtain ⟨T', X', e', stp⟩ := getF X C.1 C.2.2.2.1 C.2.2.2.2.1 (host := "") (Or.inl w) Via.refl eT F0 (g := mkF m pc Ls (.ref a :: st)) rfl rfl (hb C.2.1 hd)
  obtain ⟨s₂, o, h1, r⟩ := hr T' locs X' e' Nn
  exact ⟨s₂, o, stp _ h1, r⟩
theorem go_putfield (C : Cx p s m meth c Z own bs mx rt nm) {O n d C0 : String} {i kk : Nat} {ty : FieldType} {a : Addr} {v old : Value} (w : (Jvm.Cond.fieldLink own i O n d).before a0 Z = true) (F0 : Fld Z h a O n d old) (E : Exa Z h a C0) (L : (Jvm.Cond.lays C0 O n d).before a0 Z = true ∨ ((Jvm.Cond.laysFinal C0 O n d).before a0 Z = true ∧ own = O ∧ nm = "<init>")) (wi : (Jvm.Cond.instantiable C0 kk).before a0 Z = true) (hty : parseFieldDescriptor d = some ty) (hn : narrow ty v = v) (hf : fits ty v = true) (ha : n0 ≤ a) (hd : decode bs pc = .ok (.putfield i, 3)) (hp : pc + 3 = pc') (hr : ∀ h', Wr h h' a (Jvm.RoadKit.slotOf Z O n d) v → Go p l e R s m args below meth c n0 Q K N h' ce sl (mkF m pc' Ls st)) : Go p l e R s m args below meth c n0 Q K N h ce sl (mkF m pc Ls (v :: .ref a :: st)) := by
  subst hp
  intro T locs X eT Nn
  obtain ⟨T', h', X', e', W', stp⟩ := putF X C.1 C.2.2.2.1 C.2.2.2.2.1 (host := "") (Or.inl w) Via.refl eT F0 E (L.imp id fun q => ⟨q.1, q.2.1, C.2.2.2.2.2.2.2.trans q.2.2⟩) wi hty hn hf (g := mkF m pc Ls (v :: .ref a :: st)) rfl rfl (hb C.2.1 hd)
  obtain ⟨s₂, o, h1, r⟩ := hr h' W' T' _ X' e' (Fr.snoc X' Nn ha)
  exact ⟨s₂, o, stp _ h1, r⟩
theorem go_new (C : Cx p s m meth c Z own bs mx rt nm) {C0 : String} {i k ce' sl' : Nat} (w : (Jvm.Cond.classLink own i C0).before a0 Z = true) (wi : (Jvm.Cond.instantiable C0 k).before a0 Z = true) (wz : (Jvm.Cond.initialized C0).before a0 Z = true) (hd : decode bs pc = .ok (.new i, 3)) (hp : pc + 3 = pc') (hce : ce + 1 = ce') (hsl : sl + k = sl') (hc : ce' ≤ R.cells) (hl : sl' ≤ R.slots)
    (hr : ∀ (h' : Heap) (a : Addr), h.size = a → Ext h h' → Exa Z h' a C0 → (∀ {O nm d : String} {ty : FieldType}, Laid Z a0 C0 O nm d → parseFieldDescriptor d = some ty → Fld Z h' a O nm d (defaultValue ty)) → Go p l e R s m args below meth c n0 Q K N h' ce' sl' (mkF m pc' Ls (.ref a :: st))) : Go p l e R s m args below meth c n0 Q K N h ce sl (mkF m pc Ls st) := by
  subst hp hce hsl
  intro T locs X eT Nn
  obtain ⟨T', h', X', e', E', A', D', -, stp⟩ := newO X C.1 C.2.2.2.1 C.2.2.2.2.1 w wi wz eT (g := mkF m pc Ls st) rfl (hb C.2.1 hd) hc hl
  obtain ⟨s₂, o, h1, r⟩ := hr h' _ rfl E' A' D' T' _ X' e' Nn
  exact ⟨s₂, o, stp _ h1, r⟩
/-- an array of type ty that holds just vs -/
def Av (Z : State) (h : Heap) (a : Addr) (ty : FieldType) (vs : List Value) : Prop := ∃ cl : Cell, Arr Z h a cl ty ∧ cl.slots.toList = vs ∧ vs.length < 2147483648
theorem Av.lt {ty : FieldType} {vs : List Value} {a : Addr} (A : Av Z h a ty vs) : a < h.size := by obtain ⟨c, A, -⟩ := A; exact A.lt
theorem Av.ext {ty : FieldType} {vs : List Value} {a : Addr} {h' : Heap} (A : Av Z h a ty vs) (E : Ext h h') : Av Z h' a ty vs := by obtain ⟨c, A, r⟩ := A; exact ⟨c, A.ext E, r⟩
theorem Av.other {ty : FieldType} {vs : List Value} {a b : Addr} {h' : Heap} {k : Nat} {v : Value} (A : Av Z h b ty vs) (W : Wr h h' a k v) (q : b ≠ a) : Av Z h' b ty vs := by obtain ⟨c, A, r⟩ := A; exact ⟨c, A.other W q, r⟩
theorem Av.keep {ty : FieldType} {vs : List Value} {a : Addr} {h' : Heap} {ws : List Addr} (A : Av Z h a ty vs) (K0 : Keep h h' ws) (q : a ∉ ws) : Av Z h' a ty vs := by obtain ⟨c, A, r⟩ := A; exact ⟨c, ⟨K0.2.1 a c A.1 q, A.2⟩, r⟩
theorem own_ne_arr {C0 : String} {ty : FieldType} {vs : List Value} {a b : Addr} {k : Nat} (F0 : Exa Z h a C0) (wi : (Jvm.Cond.instantiable C0 k).before a0 Z = true) (G : Av Z h b ty vs) : a ≠ b := by obtain ⟨c, G, -⟩ := G; exact ne_arr F0 wi G
theorem clamp_of {j : Int32} {k : Nat} (hj : j.toInt = k) : j.toNatClampNeg = k := by
  show j.toInt.toNat = k
  rw [hj]; rfl
theorem nonneg_of {j : Int32} {k : Nat} (hj : j.toInt = k) : ¬ j < 0 := fun q => by
  have := Int32.lt_iff_toInt_lt.mp q
  rw [hj] at this
  exact absurd this (by show ¬ (k : Int) < 0; omega)
theorem Av.at {ty : FieldType} {vs : List Value} {a : Addr} (A : Av Z h a ty vs) {j : Int32} {k : Nat} (hj : j.toInt = k) (hk : k < vs.length) : ∃ cl : Cell, Arr Z h a cl ty ∧ cl.slots.toList = vs ∧ ¬ (j < 0 ∨ cl.slots.size ≤ j.toNatClampNeg) ∧ cl.slots[j.toNatClampNeg]? = vs[k]? := by
  obtain ⟨cl, A, e1, e2⟩ := A
  refine ⟨cl, A, e1, ?_, ?_⟩
  · rw [clamp_of hj]
    intro q
    rcases q with q | q
    · exact nonneg_of hj q
    · rw [← e1] at hk; simp at hk; omega
  · rw [clamp_of hj, ← e1]; simp
theorem Av.set {ty : FieldType} {vs : List Value} {a : Addr} {h' : Heap} {k : Nat} {v : Value} (A : Av Z h a ty vs) (W : Wr h h' a k v) : Av Z h' a ty (vs.set k v) := by
  obtain ⟨cl, A, e1, e2⟩ := A
  exact ⟨_, A.same W, by rw [← e1]; simp [Cell.setSlot], by simpa using e2⟩
/-- n ints, whichever -/
def Ints (vs : List Value) (n : Nat) : Prop := vs.length = n ∧ ∀ k, k < n → ∃ x : Int32, vs[k]? = some (.int x)
theorem Ints.rep (n : Nat) (x : Int32) : Ints (List.replicate n (.int x)) n := ⟨by simp, fun k hk => ⟨x, by simp [hk]⟩⟩
theorem Ints.set {vs : List Value} {n k : Nat} (x : Int32) (I : Ints vs n) : Ints (vs.set k (.int x)) n := ⟨by simpa using I.1, fun j hj => by
  by_cases q : k = j
  · subst q
    exact ⟨x, by rw [List.getElem?_set_self (by rw [I.1]; exact hj)]⟩
  · obtain ⟨y, hy⟩ := I.2 j hj
    exact ⟨y, by rw [List.getElem?_set_ne q]; exact hy⟩⟩
theorem go_arraylength (C : Cx p s m meth c Z own bs mx rt nm) {ty : FieldType} {vs : List Value} {a : Addr} (A : Av Z h a ty vs) (n : Int32) (hn : n.toInt = vs.length) (hd : decode bs pc = .ok (.arraylength, 1)) (hp : pc + 1 = pc') (hr : Go p l e R s m args below meth c n0 Q K N h ce sl (mkF m pc' Ls (.int n :: st))) : Go p l e R s m args below meth c n0 Q K N h ce sl (mkF m pc Ls (.ref a :: st)) := by
  subst hp
  obtain ⟨cl, A, e1, e2⟩ := A
  have q : cl.slots.size.toInt32 = n := by
    have hl : cl.slots.size = vs.length := by rw [← e1]; simp
    rw [hl]
    refine int_eq ?_
    rw [hn]
    exact Int32.toInt_ofNat_of_lt (by omega)
  exact Go.stepX (fun T locs X eT _ k => X.arraylength C.1 (cell := cl) (by rw [eT]; exact A.1) (State.isArrayOf_alike C.2.2.2.1.alike A.2.1) (g := mkF m pc Ls (.ref a :: st)) rfl rfl (hb C.2.1 hd) _ (by rw [q]; exact k)) hr
theorem go_iaload (C : Cx p s m meth c Z own bs mx rt nm) {vs : List Value} {a : Addr} {j : Int32} (A : Av Z h a .int vs) (k : Nat) (v : Value) (hj : j.toInt = k) (hv : vs[k]? = some v) (hd : decode bs pc = .ok (.iaload, 1)) (hp : pc + 1 = pc') (hr : Go p l e R s m args below meth c n0 Q K N h ce sl (mkF m pc' Ls (v :: st))) : Go p l e R s m args below meth c n0 Q K N h ce sl (mkF m pc Ls (.int j :: .ref a :: st)) := by
  subst hp
  obtain ⟨cl, A, e1, e2, e3⟩ := A.at hj (List.getElem?_eq_some_iff.mp hv).1
  exact Go.stepX (fun T locs X eT _ q => X.iaload C.1 (j := j) (v := v) (by rw [eT]; exact A.1) (State.isArrayOf_alike C.2.2.2.1.alike A.2.1) A.2.2 e2 (e3.trans hv) (g := mkF m pc Ls (.int j :: .ref a :: st)) rfl rfl (hb C.2.1 hd) _ q) hr
theorem go_laload (C : Cx p s m meth c Z own bs mx rt nm) {vs : List Value} {a : Addr} {j : Int32} (A : Av Z h a .long vs) (k : Nat) (v : Value) (hj : j.toInt = k) (hv : vs[k]? = some v) (hd : decode bs pc = .ok (.laload, 1)) (hp : pc + 1 = pc') (hr : Go p l e R s m args below meth c n0 Q K N h ce sl (mkF m pc' Ls (v :: st))) : Go p l e R s m args below meth c n0 Q K N h ce sl (mkF m pc Ls (.int j :: .ref a :: st)) := by
  subst hp
  obtain ⟨cl, A, e1, e2, e3⟩ := A.at hj (List.getElem?_eq_some_iff.mp hv).1
  exact Go.stepX (fun T locs X eT _ q => X.laload C.1 (j := j) (v := v) (by rw [eT]; exact A.1) (State.isArrayOf_alike C.2.2.2.1.alike A.2.1) A.2.2 e2 (e3.trans hv) (g := mkF m pc Ls (.int j :: .ref a :: st)) rfl rfl (hb C.2.1 hd) _ q) hr
theorem go_baload (C : Cx p s m meth c Z own bs mx rt nm) {vs : List Value} {a : Addr} {j : Int32} (A : Av Z h a .byte vs) (k : Nat) (v : Value) (hj : j.toInt = k) (hv : vs[k]? = some v) (hd : decode bs pc = .ok (.baload, 1)) (hp : pc + 1 = pc') (hr : Go p l e R s m args below meth c n0 Q K N h ce sl (mkF m pc' Ls (v :: st))) : Go p l e R s m args below meth c n0 Q K N h ce sl (mkF m pc Ls (.int j :: .ref a :: st)) := by
  subst hp
  obtain ⟨cl, A, e1, e2, e3⟩ := A.at hj (List.getElem?_eq_some_iff.mp hv).1
  exact Go.stepX (fun T locs X eT _ q => X.baloadBytes C.1 (j := j) (v := v) (by rw [eT]; exact A.1) (State.isArrayOf_alike C.2.2.2.1.alike A.2.1) A.2.2 e2 (e3.trans hv) (g := mkF m pc Ls (.int j :: .ref a :: st)) rfl rfl (hb C.2.1 hd) _ q) hr
theorem go_iastore (C : Cx p s m meth c Z own bs mx rt nm) {vs : List Value} {a : Addr} {j : Int32} {x : Int32} (A : Av Z h a .int vs) (k : Nat) (hj : j.toInt = k) (hk : k < vs.length) (ha : n0 ≤ a) (hd : decode bs pc = .ok (.iastore, 1)) (hp : pc + 1 = pc') (hr : ∀ h', Wr h h' a k (.int x) → Av Z h' a .int (vs.set k (.int x)) → Go p l e R s m args below meth c n0 Q K N h' ce sl (mkF m pc' Ls st)) : Go p l e R s m args below meth c n0 Q K N h ce sl (mkF m pc Ls (.int x :: .int j :: .ref a :: st)) := by
  subst hp
  obtain ⟨cl, A1, e1, e2, e3⟩ := A.at hj hk
  intro T locs X eT Nn
  obtain ⟨T', h', X', e', W', stp⟩ := stI X C.1 C.2.2.2.1 eT A1 e2 (g := mkF m pc Ls (.int x :: .int j :: .ref a :: st)) rfl rfl (hb C.2.1 hd)
  have W2 : Wr h h' a k (.int x) := by rw [clamp_of hj] at W'; exact W'
  obtain ⟨s₂, o, h1, r⟩ := hr h' W2 (A.set W2) T' _ X' e' (Fr.snoc X' Nn ha)
  exact ⟨s₂, o, stp _ h1, r⟩
theorem go_lastore (C : Cx p s m meth c Z own bs mx rt nm) {vs : List Value} {a : Addr} {j : Int32} {x : Int64} (A : Av Z h a .long vs) (k : Nat) (hj : j.toInt = k) (hk : k < vs.length) (ha : n0 ≤ a) (hd : decode bs pc = .ok (.lastore, 1)) (hp : pc + 1 = pc') (hr : ∀ h', Wr h h' a k (.long x) → Av Z h' a .long (vs.set k (.long x)) → Go p l e R s m args below meth c n0 Q K N h' ce sl (mkF m pc' Ls st)) : Go p l e R s m args below meth c n0 Q K N h ce sl (mkF m pc Ls (.long x :: .int j :: .ref a :: st)) := by
  subst hp
  obtain ⟨cl, A1, e1, e2, e3⟩ := A.at hj hk
  intro T locs X eT Nn
  obtain ⟨T', h', X', e', W', stp⟩ := stJ X C.1 C.2.2.2.1 eT A1 e2 (g := mkF m pc Ls (.long x :: .int j :: .ref a :: st)) rfl rfl (hb C.2.1 hd)
  have W2 : Wr h h' a k (.long x) := by rw [clamp_of hj] at W'; exact W'
  obtain ⟨s₂, o, h1, r⟩ := hr h' W2 (A.set W2) T' _ X' e' (Fr.snoc X' Nn ha)
  exact ⟨s₂, o, stp _ h1, r⟩
theorem go_bastore (C : Cx p s m meth c Z own bs mx rt nm) {vs : List Value} {a : Addr} {j : Int32} {x : Int32} (A : Av Z h a .byte vs) (k : Nat) (hj : j.toInt = k) (hk : k < vs.length) (x' : Int32) (hx : x.toInt8.toInt32 = x') (ha : n0 ≤ a) (hd : decode bs pc = .ok (.bastore, 1)) (hp : pc + 1 = pc') (hr : ∀ h', Wr h h' a k (.int x') → Av Z h' a .byte (vs.set k (.int x')) → Go p l e R s m args below meth c n0 Q K N h' ce sl (mkF m pc' Ls st)) : Go p l e R s m args below meth c n0 Q K N h ce sl (mkF m pc Ls (.int x :: .int j :: .ref a :: st)) := by
  subst hp hx
  obtain ⟨cl, A1, e1, e2, e3⟩ := A.at hj hk
  intro T locs X eT Nn
  obtain ⟨T', h', X', e', W', stp⟩ := stB X C.1 C.2.2.2.1 eT A1 e2 (g := mkF m pc Ls (.int x :: .int j :: .ref a :: st)) rfl rfl (hb C.2.1 hd)
  have W2 : Wr h h' a k (.int x.toInt8.toInt32) := by rw [clamp_of hj] at W'; exact W'
  obtain ⟨s₂, o, h1, r⟩ := hr h' W2 (A.set W2) T' _ X' e' (Fr.snoc X' Nn ha)
  exact ⟨s₂, o, stp _ h1, r⟩
theorem go_newarray (C : Cx p s m meth c Z own bs mx rt nm) {aty : ArrayType} {ty : FieldType} {n : Int32} {ce' sl' : Nat} (w : (Jvm.Cond.arrayClass ty).before a0 Z = true) (hty : newarray.typeOf aty = ty) (k cap : Nat) (hn : n.toInt = k) (hcap : k ≤ cap) (hc8 : cap * 8 ≤ 536870912) (hce : ce + 1 = ce') (hsl : sl + cap = sl') (hc : ce' ≤ R.cells) (hl : sl' ≤ R.slots) (hd : decode bs pc = .ok (.newarray aty, 2)) (hp : pc + 2 = pc')
    (hr : ∀ (h' : Heap) (a : Addr), h.size = a → Ext h h' → Av Z h' a ty (List.replicate k (defaultValue ty)) → Go p l e R s m args below meth c n0 Q K N h' ce' sl' (mkF m pc' Ls (.ref a :: st))) : Go p l e R s m args below meth c n0 Q K N h ce sl (mkF m pc Ls (.int n :: st)) := by
  subst hp hty hce hsl
  intro T locs X eT Nn
  obtain ⟨T', h', cA, X', e', E', A', stp⟩ := newP X C.1 C.2.2.2.1 w eT (g := mkF m pc Ls (.int n :: st)) rfl (hb C.2.1 hd) rfl (nonneg_of hn) (cap := cap) (by rw [clamp_of hn]; exact hcap) hc8 hc hl
  have hb31 : k < 2147483648 := by have := n.toInt_lt; omega
  obtain ⟨s₂, o, h1, r⟩ := hr h' _ rfl E' ⟨_, A', by simp [newA, clamp_of hn], by simpa using hb31⟩ T' _ X' e' Nn
  exact ⟨s₂, o, stp _ h1, r⟩
theorem go_newarrayE (C : Cx p s m meth c Z own bs mx rt nm) {aty : ArrayType} {ty : FieldType} {n : Int32} {ce' sl' : Nat} {ad : String} (w : (Jvm.Cond.arrayClass ty).before a0 Z = true) (hty : newarray.typeOf aty = ty) (had : "[" ++ ty.toString = ad) (k cap : Nat) (hn : n.toInt = k) (hcap : k ≤ cap) (hc8 : cap * 8 ≤ 536870912) (hce : ce + 1 = ce') (hsl : sl + cap = sl') (hc : ce' ≤ R.cells) (hl : sl' ≤ R.slots) (hd : decode bs pc = .ok (.newarray aty, 2)) (hp : pc + 2 = pc')
    (hr : ∀ (h' : Heap) (a : Addr), h.size = a → Ext h h' → Exa Z h' a ad → Av Z h' a ty (List.replicate k (defaultValue ty)) → Go p l e R s m args below meth c n0 Q K N h' ce' sl' (mkF m pc' Ls (.ref a :: st))) : Go p l e R s m args below meth c n0 Q K N h ce sl (mkF m pc Ls (.int n :: st)) := by
  subst hp hty hce hsl
  intro T locs X eT Nn
  obtain ⟨T', h', cA, X', e', E', A', Q', stp⟩ := newPE X C.1 C.2.2.2.1 w eT (g := mkF m pc Ls (.int n :: st)) rfl (hb C.2.1 hd) rfl (nonneg_of hn) (cap := cap) (by rw [clamp_of hn]; exact hcap) hc8 hc hl had
  have hb31 : k < 2147483648 := by have := n.toInt_lt; omega
  obtain ⟨s₂, o, h1, r⟩ := hr h' _ rfl E' Q' ⟨_, A', by simp [newA, clamp_of hn], by simpa using hb31⟩ T' _ X' e' Nn
  exact ⟨s₂, o, stp _ h1, r⟩
theorem go_clone (C : Cx p s m meth c Z own bs mx rt nm) {i : Nat} {ad : String} {ty : FieldType} {vs : List Value} {a : Addr} {W cap ce' sl' : Nat} (w1 : (Jvm.Cond.methodLink own i ⟨ad, "clone", "()Ljava/lang/Object;"⟩).before a0 Z = true) (w2 : (Jvm.Cond.sameMethod ad "java/lang/Object" "clone" "()Ljava/lang/Object;").before a0 Z = true) (w3 : (Jvm.Cond.native ⟨"java/lang/Object", "clone", "()Ljava/lang/Object;"⟩).before a0 Z = true) (w4 : (Jvm.Cond.instanceMethod ⟨"java/lang/Object", "clone", "()Ljava/lang/Object;"⟩).before a0 Z = true) (w5 : (Jvm.Cond.selects ad ⟨ad, "clone", "()Ljava/lang/Object;"⟩ ⟨"java/lang/Object", "clone", "()Ljava/lang/Object;"⟩).before a0 Z = true) (w6 : (Jvm.Cond.castable ad "java/lang/Cloneable").before a0 Z = true) (A : Av Z h a ty vs) (E : Exa Z h a ad) (hfit : ∀ v ∈ vs, fits ty v = true) (hls : Ls.size = mx) (hf : 1 ≤ R.frames) (hW : wt st = W) (hlo : W + 14 ≤ R.locals) (hcap : vs.length ≤ cap) (hce : ce + 1 = ce') (hsl : sl + cap = sl') (hc : ce' ≤ R.cells) (hl : sl' ≤ R.slots) (hd : decode bs pc = .ok (.invokevirtual i, 3)) (hp : pc + 3 = pc')
    (hr : ∀ (h' : Heap) (b : Addr), h.size = b → Ext h h' → Exa Z h' b ad → Av Z h' b ty vs → Go p l e R s m args below meth c n0 Q K N h' ce' sl' (mkF m pc' Ls (.ref b :: st))) : Go p l e R s m args below meth c n0 Q K N h ce sl (mkF m pc Ls (.ref a :: st)) := by
  subst hp hce hsl
  intro T locs X eT Nn
  obtain ⟨cl, A1, e1, e2⟩ := A
  have hsz : cl.slots.size = vs.length := by rw [← e1]; simp
  have FC : FitC Z cl := fitC_of A1 fun i hi v hv => hfit v (by rw [← e1]; exact Array.mem_toList_iff.mpr (Array.mem_of_getElem? hv))
  obtain ⟨T', h', X', e', E', A', Q', stp⟩ := cloneA X C.1 C.2.2.2.1 C.2.2.2.2.1 w1 w2 w3 w4 w5 w6 eT A1 E FC (g := mkF m pc Ls (.ref a :: st)) rfl (hls.trans C.2.2.1.symm) rfl (hb C.2.1 hd) hf (W := W) (cap := cap) (by show 2 * 0 + wt st ≤ W; omega) hlo (by rw [hsz]; exact hcap) hc hl
  obtain ⟨s₂, o, h1, r⟩ := hr h' _ rfl E' Q' ⟨_, A', e1, e2⟩ T' _ X' e' Nn
  exact ⟨s₂, o, stp _ h1, r⟩
theorem go_checkcast (C : Cx p s m meth c Z own bs mx rt nm) {i : Nat} {K0 : String} {a : Addr} (w : (Jvm.Cond.classLink own i K0).before a0 Z = true) (E : Exa Z h a K0) (hd : decode bs pc = .ok (.checkcast i, 3)) (hp : pc + 3 = pc') (hr : Go p l e R s m args below meth c n0 Q K N h ce sl (mkF m pc' Ls (.ref a :: st))) : Go p l e R s m args below meth c n0 Q K N h ce sl (mkF m pc Ls (.ref a :: st)) := by
  subst hp
  intro T locs X eT Nn
  obtain ⟨T', X', e', stp⟩ := castY X C.1 C.2.2.2.1 C.2.2.2.2.1 w eT (Ins.self E) (g := mkF m pc Ls (.ref a :: st)) rfl rfl (hb C.2.1 hd)
  obtain ⟨s₂, o, h1, r⟩ := hr T' locs X' e' Nn
  exact ⟨s₂, o, stp _ h1, r⟩
theorem go_objinit (C : Cx p s m meth c Z own bs mx rt nm) {i : Nat} {a : Addr} {W : Nat} (w1 : (Jvm.Cond.methodLink own i Lib.objectInit).before a0 Z = true) (w2 : (Jvm.Cond.instanceMethod Lib.objectInit).before a0 Z = true) (w3 : (Jvm.Cond.code Lib.objectInit ⟨#[0xb1]⟩ 1 none).before a0 Z = true) (hls : Ls.size = mx) (hf : 1 ≤ R.frames) (hW : wt st = W) (hl : W + 12 ≤ R.locals) (hd : decode bs pc = .ok (.invokespecial i, 3)) (hp : pc + 3 = pc') (hr : Go p l e R s m args below meth c n0 Q K N h ce sl (mkF m pc' Ls st)) : Go p l e R s m args below meth c n0 Q K N h ce sl (mkF m pc Ls (.ref a :: st)) := by
  subst hp
  intro T locs X eT Nn
  obtain ⟨T', X', e', stp⟩ := initO X C.1 C.2.2.2.1 C.2.2.2.2.1 w1 w2 w3 eT (g := mkF m pc Ls (.ref a :: st)) rfl (hls.trans C.2.2.1.symm) rfl (hb C.2.1 hd) hf (W := W) (by show 2 * 0 + wt st ≤ W; omega) hl
  obtain ⟨s₂, o, h1, r⟩ := hr T' locs X' e' Nn
  exact ⟨s₂, o, stp _ h1, r⟩
theorem back_of_sat {y : MethodName} {cb : ByteArray} {cm : Nat} {cr : Option FieldType} {rm : Room} {as : List Value} {Qc : Option Value → Heap → Prop} {W len : Nat} (S : Sat l Z y cb cm cr rm as h n0 Qc) (hZ : Z.Warmed39 s.vm) (w3 : (Jvm.Cond.initialized y.cls).before a0 Z = true) (w4 : (Jvm.Cond.code y cb cm cr).before a0 Z = true) (hfr : rm.frames + 1 ≤ R.frames) (hlo : W + (cm + 11) + rm.locals ≤ R.locals) :
    Back l R p e below s args y len W (fun A a => a = as.toArray ∧ A.U.heap = h ∧ A.cells + rm.cells ≤ R.cells ∧ A.slots + rm.slots ≤ R.slots) (fun A _ v B => ∃ L, (Qc v B.U.heap ∧ Fr n0 L) ∧ B.locs = A.locs ++ L ∧ B.cells = A.cells + rm.cells ∧ B.slots = A.slots + rm.slots) :=
  backOf (Q := fun v h L => Qc v h ∧ Fr n0 L) (W := W) (S []) hZ w4 w3 hfr hlo
theorem go_static (C : Cx p s m meth c Z own bs mx rt nm) {y : MethodName} {i : Nat} {cb : ByteArray} {cm : Nat} {cr : Option FieldType} {rm : Room} {as rest : List Value} {W : Nat} {ps : List FieldType} {pr : Option FieldType} {ce' sl' : Nat} {Qc : Option Value → Heap → Prop} (S : Sat l Z y cb cm cr rm as h n0 Qc) (w1 : (Jvm.Cond.methodLink own i y).before a0 Z = true) (w2 : (Jvm.Cond.static y).before a0 Z = true) (w3 : (Jvm.Cond.initialized y.cls).before a0 Z = true) (w4 : (Jvm.Cond.code y cb cm cr).before a0 Z = true) (hy : y.cls ≠ "java/lang/invoke/MethodHandle" ∧ y.cls ≠ "java/lang/invoke/VarHandle") (hpd : parseMethodDescriptor y.desc = some ⟨ps, pr⟩) (hlen : as.length = ps.length) (hls : Ls.size = mx) (hW : wt rest = W) (hfr : rm.frames + 1 ≤ R.frames) (hlo : W + (cm + 11) + rm.locals ≤ R.locals) (hce : ce + rm.cells = ce') (hsl : sl + rm.slots = sl') (hcc : ce' ≤ R.cells) (hss : sl' ≤ R.slots) (hd : decode bs pc = .ok (.invokestatic i, 3)) (hp : pc + 3 = pc') (hst : st = as.reverse ++ rest) (hr : ∀ v h', Qc v h' → Go p l e R s m args below meth c n0 Q K N h' ce' sl' (mkF m pc' Ls (v.toList ++ rest))) : Go p l e R s m args below meth c n0 Q K N h ce sl (mkF m pc Ls st) := by
  subst hp hce hsl
  intro T locs X eT Nn
  have hZ := C.2.2.2.1
  obtain ⟨v, _, ⟨T', L', k', n'⟩, -, X', ⟨Lc, hQ, l', y', z'⟩, stp⟩ := Jvm.LawKit.callS X C.1 (y := y) C.2.2.2.2.1 (mvT hZ w1) (mvT hZ w2) (mvT hZ w3) (mvT hZ w4) hy (back_of_sat S hZ w3 w4 hfr hlo) (g := mkF m pc Ls st) rfl (hls.trans C.2.2.1.symm) (argsL := as) (rest := rest) (lenOf hpd hlen) hst (by show 2 * 0 + wt rest ≤ W; omega) (hb C.2.1 hd) (fun _ _ => ⟨rfl, eT, hcc, hss⟩)
  dsimp only [Pt.U, Pt.locs, Pt.cells, Pt.slots] at X' l' y' z' stp hQ
  subst l' y' z'
  obtain ⟨s₂, o, h1, r⟩ := hr v T'.heap hQ.1 T' _ X' rfl (Fr.app Nn hQ.2)
  exact ⟨s₂, o, stp _ h1, r⟩
theorem go_special (C : Cx p s m meth c Z own bs mx rt nm) {y : MethodName} {i : Nat} {cb : ByteArray} {cm : Nat} {rm : Room} {as rest : List Value} {W : Nat} {ps : List FieldType} {pr : Option FieldType} {ce' sl' : Nat} {a : Addr} {Qc : Option Value → Heap → Prop} (S : Sat l Z y cb cm none rm (.ref a :: as) h n0 Qc) (hyn : y.name = "<init>") (w1 : (Jvm.Cond.methodLink own i y).before a0 Z = true) (w2 : (Jvm.Cond.instanceMethod y).before a0 Z = true) (w3 : (Jvm.Cond.initialized y.cls).before a0 Z = true) (w4 : (Jvm.Cond.code y cb cm none).before a0 Z = true) (hy : y.cls ≠ "java/lang/invoke/MethodHandle" ∧ y.cls ≠ "java/lang/invoke/VarHandle") (hpd : parseMethodDescriptor y.desc = some ⟨ps, pr⟩) (hlen : as.length = ps.length) (hls : Ls.size = mx) (hW : wt rest = W) (hfr : rm.frames + 1 ≤ R.frames) (hlo : W + (cm + 11) + rm.locals ≤ R.locals) (hce : ce + rm.cells = ce') (hsl : sl + rm.slots = sl') (hcc : ce' ≤ R.cells) (hss : sl' ≤ R.slots) (hd : decode bs pc = .ok (.invokespecial i, 3)) (hp : pc + 3 = pc') (hst : st = as.reverse ++ .ref a :: rest) (hr : ∀ v h', Qc v h' → Go p l e R s m args below meth c n0 Q K N h' ce' sl' (mkF m pc' Ls (v.toList ++ rest))) : Go p l e R s m args below meth c n0 Q K N h ce sl (mkF m pc Ls st) := by
  subst hp hce hsl
  intro T locs X eT Nn
  have hZ := C.2.2.2.1
  obtain ⟨v, _, ⟨T', L', k', n'⟩, -, X', ⟨Lc, hQ, l', y', z'⟩, stp⟩ := X.specialBack C.1 (y := y) hyn C.2.2.2.2.1 (mvT hZ w1) (mvT hZ w2) (mvT hZ w4) hy (back_of_sat S hZ w3 w4 hfr hlo) (g := mkF m pc Ls st) rfl (hls.trans C.2.2.1.symm) (Steps.refl _) (a := a) (argsL := as) (rest := rest) (lenOf hpd hlen) hst (by show 2 * 0 + wt rest ≤ W; omega) (hb C.2.1 hd) (fun _ _ => ⟨rfl, eT, hcc, hss⟩)
  dsimp only [Pt.U, Pt.locs, Pt.cells, Pt.slots] at X' l' y' z' stp hQ
  subst l' y' z'
  obtain ⟨s₂, o, h1, r⟩ := hr v T'.heap hQ.1 T' _ X' rfl (Fr.app Nn hQ.2)
  exact ⟨s₂, o, stp.trans h1, r⟩
theorem go_virtual (C : Cx p s m meth c Z own bs mx rt nm) {y : MethodName} {i : Nat} {cb : ByteArray} {cm : Nat} {cr : Option FieldType} {rm : Room} {as rest : List Value} {W : Nat} {ps : List FieldType} {pr : Option FieldType} {ce' sl' : Nat} {a : Addr} {C0 : String} {Qc : Option Value → Heap → Prop} (S : Sat l Z y cb cm cr rm (.ref a :: as) h n0 Qc) (E : Exa Z h a C0) (w1 : (Jvm.Cond.methodLink own i y).before a0 Z = true) (w5 : (Jvm.Cond.declares y).before a0 Z = true) (w6 : (Jvm.Cond.selects C0 y y).before a0 Z = true) (w2 : (Jvm.Cond.instanceMethod y).before a0 Z = true) (w3 : (Jvm.Cond.initialized y.cls).before a0 Z = true) (w4 : (Jvm.Cond.code y cb cm cr).before a0 Z = true) (hy : y.cls ≠ "java/lang/invoke/MethodHandle" ∧ y.cls ≠ "java/lang/invoke/VarHandle") (hpd : parseMethodDescriptor y.desc = some ⟨ps, pr⟩) (hlen : as.length = ps.length) (hls : Ls.size = mx) (hW : wt rest = W) (hfr : rm.frames + 1 ≤ R.frames) (hlo : W + (cm + 11) + rm.locals ≤ R.locals) (hce : ce + rm.cells = ce') (hsl : sl + rm.slots = sl') (hcc : ce' ≤ R.cells) (hss : sl' ≤ R.slots) (hd : decode bs pc = .ok (.invokevirtual i, 3)) (hp : pc + 3 = pc') (hst : st = as.reverse ++ .ref a :: rest) (hr : ∀ v h', Qc v h' → Go p l e R s m args below meth c n0 Q K N h' ce' sl' (mkF m pc' Ls (v.toList ++ rest))) : Go p l e R s m args below meth c n0 Q K N h ce sl (mkF m pc Ls st) := by
  subst hp hce hsl
  intro T locs X eT Nn
  have hZ := C.2.2.2.1
  obtain ⟨cq, kq, qa, qb, qc⟩ := isOf hZ eT E
  obtain ⟨v, _, ⟨T', L', k', n'⟩, -, X', ⟨Lc, hQ, l', y', z'⟩, stp⟩ := X.virtualBack C.1 (y := y) (z := y) C.2.2.2.2.1 (mvT hZ w1) (mvT hZ w5) (notFace_of_selects (args := #[]) (mvT hZ w6)) (mvT hZ w6) (mvT hZ w2) hy (back_of_sat S hZ w3 w4 hfr hlo) qa qc (g := mkF m pc Ls st) rfl (hls.trans C.2.2.1.symm) (Steps.refl _) (argsL := as) (rest := rest) (lenOf hpd hlen) hst (by show 2 * 0 + wt rest ≤ W; omega) (hb C.2.1 hd) (fun _ _ => ⟨rfl, eT, hcc, hss⟩)
  dsimp only [Pt.U, Pt.locs, Pt.cells, Pt.slots] at X' l' y' z' stp hQ
  subst l' y' z'
  obtain ⟨s₂, o, h1, r⟩ := hr v T'.heap hQ.1 T' _ X' rfl (Fr.app Nn hQ.2)
  exact ⟨s₂, o, stp.trans h1, r⟩
theorem go_private (C : Cx p s m meth c Z own bs mx rt nm) {y : MethodName} {i : Nat} {cb : ByteArray} {cm : Nat} {cr : Option FieldType} {rm : Room} {as rest : List Value} {W : Nat} {ps : List FieldType} {pr : Option FieldType} {ce' sl' : Nat} {a : Addr} {C0 : String} {Qc : Option Value → Heap → Prop} (S : Sat l Z y cb cm cr rm (.ref a :: as) h n0 Qc) (E : Exa Z h a C0) (w1 : (Jvm.Cond.methodLink own i y).before a0 Z = true) (w5 : (Jvm.Cond.privateMethod y).before a0 Z = true) (w6 : (Jvm.Cond.selects y.cls y y).before a0 Z = true) (w2 : (Jvm.Cond.instanceMethod y).before a0 Z = true) (w3 : (Jvm.Cond.initialized y.cls).before a0 Z = true) (w4 : (Jvm.Cond.code y cb cm cr).before a0 Z = true) (hy : y.cls ≠ "java/lang/invoke/MethodHandle" ∧ y.cls ≠ "java/lang/invoke/VarHandle") (hpd : parseMethodDescriptor y.desc = some ⟨ps, pr⟩) (hlen : as.length = ps.length) (hls : Ls.size = mx) (hW : wt rest = W) (hfr : rm.frames + 1 ≤ R.frames) (hlo : W + (cm + 11) + rm.locals ≤ R.locals) (hce : ce + rm.cells = ce') (hsl : sl + rm.slots = sl') (hcc : ce' ≤ R.cells) (hss : sl' ≤ R.slots) (hd : decode bs pc = .ok (.invokevirtual i, 3)) (hp : pc + 3 = pc') (hst : st = as.reverse ++ .ref a :: rest) (hr : ∀ v h', Qc v h' → Go p l e R s m args below meth c n0 Q K N h' ce' sl' (mkF m pc' Ls (v.toList ++ rest))) : Go p l e R s m args below meth c n0 Q K N h ce sl (mkF m pc Ls st) := by
  subst hp hce hsl
  intro T locs X eT Nn
  have hZ := C.2.2.2.1
  obtain ⟨cell, hc1, hc2⟩ := E.cell
  obtain ⟨v, _, ⟨T', L', k', n'⟩, -, X', ⟨Lc, hQ, l', y', z'⟩, stp⟩ := X.privateBack C.1 (y := y) C.2.2.2.2.1 (mvT hZ w1) (mvT hZ w2) (mvT hZ w6) (Cond.privateMethod_at (args := #[]) (mvP hZ w5)) (mvT hZ w4) hy (back_of_sat S hZ w3 w4 hfr hlo) (g := mkF m pc Ls st) rfl (hls.trans C.2.2.1.symm) (Steps.refl _) (a := a) (by rw [eT]; exact hc1) hc2 (argsL := as) (rest := rest) (lenOf hpd hlen) hst (by show 2 * 0 + wt rest ≤ W; omega) (hb C.2.1 hd) (fun _ _ => ⟨rfl, eT, hcc, hss⟩)
  dsimp only [Pt.U, Pt.locs, Pt.cells, Pt.slots] at X' l' y' z' stp hQ
  subst l' y' z'
  obtain ⟨s₂, o, h1, r⟩ := hr v T'.heap hQ.1 T' _ X' rfl (Fr.app Nn hQ.2)
  exact ⟨s₂, o, stp.trans h1, r⟩
theorem own_selects_private {y : MethodName} {k : Nat} (wi : (Jvm.Cond.instantiable y.cls k).before a0 Z = true) (wp : (Jvm.Cond.privateMethod y).before a0 Z = true) (wm : (Jvm.Cond.instanceMethod y).before a0 Z = true) (hy : y.cls ≠ "java/lang/invoke/MethodHandle" ∧ y.cls ≠ "java/lang/invoke/VarHandle") : (Jvm.Cond.selects y.cls y y).before a0 Z = true := by
  obtain ⟨mk, methM, hnamed, hmethM, hstM, habM⟩ := Cond.instanceMethod_spec wm
  obtain ⟨c1, k1, q1, q2, q3, q4, -⟩ := Cond.instantiable_spec wi
  have hc := findClass_of_methodNamed hnamed
  cases q1.symm.trans hc
  have hf := State.methodFound?_of_named hnamed hy
  have hs : selectMethod {} Z.vm mk.cls mk = .method mk := selectMethod_private hmethM (Cond.privateMethod_at wp mk methM hnamed hmethM)
  have hi : k1.isInterface = false := by
    cases h : k1.isInterface
    · rfl
    · rw [h] at q4; simp at q4
  simp [Cond.before, Cond.holds, Cond.value, hc, hf, hnamed, hs, q2, hi]
theorem go_specialW (C : Cx p s m meth c Z own bs mx rt nm) {y : MethodName} {i : Nat} {cb : ByteArray} {cm : Nat} {rm : Room} {as rest : List Value} {W : Nat} {ps : List FieldType} {pr : Option FieldType} {ce' sl' : Nat} {a : Addr} {Qc : Option Value → Heap → Prop} (S : Sat l Z y cb cm none rm (.ref a :: as) h n0 Qc) (hyn : y.name = "<init>") (w1 : (Jvm.Cond.methodRef own i y).before a0 Z = true) (w2 : (Jvm.Cond.instanceMethod y).before a0 Z = true) (w3 : (Jvm.Cond.initialized y.cls).before a0 Z = true) (w4 : (Jvm.Cond.code y cb cm none).before a0 Z = true) (hy : y.cls ≠ "java/lang/invoke/MethodHandle" ∧ y.cls ≠ "java/lang/invoke/VarHandle") (hpd : parseMethodDescriptor y.desc = some ⟨ps, pr⟩) (hlen : as.length = ps.length) (hls : Ls.size = mx) (hW : wt rest = W) (hfr : rm.frames + 1 ≤ R.frames) (hlo : W + (cm + 11) + rm.locals ≤ R.locals) (hce : ce + rm.cells = ce') (hsl : sl + rm.slots = sl') (hcc : ce' ≤ R.cells) (hss : sl' ≤ R.slots) (hd : decode bs pc = .ok (.invokespecial i, 3)) (hp : pc + 3 = pc') (hst : st = as.reverse ++ .ref a :: rest) (hr : ∀ v h', Qc v h' → Go p l e R s m args below meth c n0 Q K N h' ce' sl' (mkF m pc' Ls (v.toList ++ rest))) : Go p l e R s m args below meth c n0 Q K N h ce sl (mkF m pc Ls st) := by
  subst hp hce hsl
  intro T locs X eT Nn
  have hZ := C.2.2.2.1
  have hT : Z.Warmed39 T.vm := wtrans hZ X.warmed
  obtain ⟨mZ, _, hnZ, -⟩ := Cond.instanceMethod_spec w2
  have w1T : (Jvm.Cond.methodRef own i y).before a0 T = true := (Cond.methodRef_warmed39 hT hnZ hy w1 :)
  obtain ⟨mO, methO, hnO, hmO, hstO, habO⟩ := Cond.instanceMethod_spec (mv (args := a0) hT w2)
  obtain ⟨methO', cO, hmO', hcO, hbO, hlO, -, hlockO, -, hsigO⟩ := Cond.code_spec hnO (mv (args := a0) hT w4)
  cases hmO.symm.trans hmO'
  obtain ⟨kO, hkO, hnameO⟩ := className_of_methodNamed hnO
  obtain ⟨hnameMO, hdescO⟩ := name_of_methodNamed hnO hmO
  have hownT : T.vm.findClass own = some m.cls := by rw [X.warmed.alike.findClass]; exact C.2.2.2.2.1
  obtain ⟨m', c', hf', hready, hfc, hnr⟩ := Cond.methodRef_named e hownT w1T
  have e1 : m' = mO := Option.some.inj (hf'.symm.trans (State.methodFound?_of_named hnO hy))
  subst e1
  have e2 : c' = m'.cls := Option.some.inj (hfc.symm.trans (findClass_of_methodNamed hnO))
  subst e2
  have hfound : lookupSpecial T.vm m'.cls "<init>" methO.desc = .method m' := by rw [hdescO, ← hyn]; exact lookupSpecial_of_named hnO hmO hstO
  have hstep : ∀ target, (∀ acts, Steps p.tables e below (doInvoke e (T.setTop { mkF m pc Ls st with stack := rest }) acts m' (.ref a :: as).toArray).1 target) → Steps p.tables e below (T.setTop (mkF m pc Ls st)) target := fun target hrest => by
    jvm_step X.here [C.1, (hb C.2.1 hd), invokespecial.wp_init (e := e) (s := T) (k := kO) (meth := methO) (m := m') (a := a) (args := as) (rest := rest) (f := mkF m pc Ls st) X.here.top hnr hready hkO hmO (by rw [hnameMO]; exact hyn) hstO habO hfound (lenOf hpd hlen _ hsigO) hst]
    exact hrest
  have B := back_of_sat (p := p) (e := e) (below := below) (args := args) (R := R) (len := 3) S hZ w3 w4 hfr hlo
  obtain ⟨v, ⟨T', L', k', n'⟩, X', ⟨Lc, hQ, l', y', z'⟩, stp⟩ := B m meth c ⟨T, locs, ce, sl⟩ { mkF m pc Ls st with stack := rest } (.invokespecial i) m' (.ref a :: as).toArray X rfl (hls.trans C.2.2.1.symm) (hb C.2.1 hd) (by show 2 * 0 + wt rest ≤ W; omega) hnO ⟨rfl, eT, hcc, hss⟩
  dsimp only [Pt.U, Pt.locs, Pt.cells, Pt.slots] at X' l' y' z' stp hQ
  subst l' y' z'
  obtain ⟨s₂, o, h1, r⟩ := hr v T'.heap hQ.1 T' _ X' rfl (Fr.app Nn hQ.2)
  exact ⟨s₂, o, (hstep _ (fun acts => by rw [doInvoke_state]; exact Steps.refl _)).trans (stp.trans h1), r⟩
theorem go_staticP (C : Cx p s m meth c Z own bs mx rt nm) {y : MethodName} {i : Nat} {cb : ByteArray} {cm : Nat} {cr : Option FieldType} {rm : Room} {as rest : List Value} {W : Nat} {ps : List FieldType} {pr : Option FieldType}  (v : Value) (S : Sat l Z y cb cm cr rm as h n0 (RV fun r h' => r = v ∧ h' = h)) (w1 : (Jvm.Cond.methodLink own i y).before a0 Z = true) (w2 : (Jvm.Cond.static y).before a0 Z = true) (w3 : (Jvm.Cond.initialized y.cls).before a0 Z = true) (w4 : (Jvm.Cond.code y cb cm cr).before a0 Z = true) (hy : y.cls ≠ "java/lang/invoke/MethodHandle" ∧ y.cls ≠ "java/lang/invoke/VarHandle") (hpd : parseMethodDescriptor y.desc = some ⟨ps, pr⟩) (hlen : as.length = ps.length) (hls : Ls.size = mx) (hW : wt rest = W) (hfr : rm.frames + 1 ≤ R.frames) (hlo : W + (cm + 11) + rm.locals ≤ R.locals) (hce : rm.cells = 0) (hsl : rm.slots = 0) (hcc : ce ≤ R.cells) (hss : sl ≤ R.slots) (hd : decode bs pc = .ok (.invokestatic i, 3)) (hp : pc + 3 = pc') (hst : st = as.reverse ++ rest) (hr : Go p l e R s m args below meth c n0 Q K N h ce sl (mkF m pc' Ls (v :: rest))) : Go p l e R s m args below meth c n0 Q K N h ce sl (mkF m pc Ls st) :=
  go_static C S w1 w2 w3 w4 hy hpd hlen hls hW hfr hlo (by rw [hce]; rfl) (by rw [hsl]; rfl) hcc hss hd hp hst (fun w h' hq => by obtain ⟨r, rfl, q1, q2⟩ := hq; rw [q1, q2]; exact hr)
theorem go_staticV (C : Cx p s m meth c Z own bs mx rt nm) {y : MethodName} {i : Nat} {cb : ByteArray} {cm : Nat} {cr : Option FieldType} {rm : Room} {as rest : List Value} {W : Nat} {ps : List FieldType} {pr : Option FieldType} {ce' sl' : Nat}  {P : Value → Heap → Prop} (S : Sat l Z y cb cm cr rm as h n0 (RV P)) (w1 : (Jvm.Cond.methodLink own i y).before a0 Z = true) (w2 : (Jvm.Cond.static y).before a0 Z = true) (w3 : (Jvm.Cond.initialized y.cls).before a0 Z = true) (w4 : (Jvm.Cond.code y cb cm cr).before a0 Z = true) (hy : y.cls ≠ "java/lang/invoke/MethodHandle" ∧ y.cls ≠ "java/lang/invoke/VarHandle") (hpd : parseMethodDescriptor y.desc = some ⟨ps, pr⟩) (hlen : as.length = ps.length) (hls : Ls.size = mx) (hW : wt rest = W) (hfr : rm.frames + 1 ≤ R.frames) (hlo : W + (cm + 11) + rm.locals ≤ R.locals) (hce : ce + rm.cells = ce') (hsl : sl + rm.slots = sl') (hcc : ce' ≤ R.cells) (hss : sl' ≤ R.slots) (hd : decode bs pc = .ok (.invokestatic i, 3)) (hp : pc + 3 = pc') (hst : st = as.reverse ++ rest) (hr : ∀ r h', P r h' → Go p l e R s m args below meth c n0 Q K N h' ce' sl' (mkF m pc' Ls (r :: rest))) : Go p l e R s m args below meth c n0 Q K N h ce sl (mkF m pc Ls st) :=
  go_static C S w1 w2 w3 w4 hy hpd hlen hls hW hfr hlo hce hsl hcc hss hd hp hst (fun v h' hq => by obtain ⟨r, rfl, q⟩ := hq; exact hr r h' q)
theorem go_staticN (C : Cx p s m meth c Z own bs mx rt nm) {y : MethodName} {i : Nat} {cb : ByteArray} {cm : Nat} {cr : Option FieldType} {rm : Room} {as rest : List Value} {W : Nat} {ps : List FieldType} {pr : Option FieldType} {ce' sl' : Nat}  {P : Heap → Prop} (S : Sat l Z y cb cm cr rm as h n0 (RN P)) (w1 : (Jvm.Cond.methodLink own i y).before a0 Z = true) (w2 : (Jvm.Cond.static y).before a0 Z = true) (w3 : (Jvm.Cond.initialized y.cls).before a0 Z = true) (w4 : (Jvm.Cond.code y cb cm cr).before a0 Z = true) (hy : y.cls ≠ "java/lang/invoke/MethodHandle" ∧ y.cls ≠ "java/lang/invoke/VarHandle") (hpd : parseMethodDescriptor y.desc = some ⟨ps, pr⟩) (hlen : as.length = ps.length) (hls : Ls.size = mx) (hW : wt rest = W) (hfr : rm.frames + 1 ≤ R.frames) (hlo : W + (cm + 11) + rm.locals ≤ R.locals) (hce : ce + rm.cells = ce') (hsl : sl + rm.slots = sl') (hcc : ce' ≤ R.cells) (hss : sl' ≤ R.slots) (hd : decode bs pc = .ok (.invokestatic i, 3)) (hp : pc + 3 = pc') (hst : st = as.reverse ++ rest) (hr : ∀ h', P h' → Go p l e R s m args below meth c n0 Q K N h' ce' sl' (mkF m pc' Ls rest)) : Go p l e R s m args below meth c n0 Q K N h ce sl (mkF m pc Ls st) :=
  go_static C S w1 w2 w3 w4 hy hpd hlen hls hW hfr hlo hce hsl hcc hss hd hp hst (fun v h' hq => by obtain ⟨rfl, q⟩ := hq; exact hr h' q)
theorem go_virtualP (C : Cx p s m meth c Z own bs mx rt nm) {y : MethodName} {i : Nat} {cb : ByteArray} {cm : Nat} {cr : Option FieldType} {rm : Room} {as rest : List Value} {W : Nat} {ps : List FieldType} {pr : Option FieldType} {a : Addr} {C0 : String} (v : Value) (S : Sat l Z y cb cm cr rm (.ref a :: as) h n0 (RV fun r h' => r = v ∧ h' = h)) (E : Exa Z h a C0) (w1 : (Jvm.Cond.methodLink own i y).before a0 Z = true) (w5 : (Jvm.Cond.declares y).before a0 Z = true) (w6 : (Jvm.Cond.selects C0 y y).before a0 Z = true) (w2 : (Jvm.Cond.instanceMethod y).before a0 Z = true) (w3 : (Jvm.Cond.initialized y.cls).before a0 Z = true) (w4 : (Jvm.Cond.code y cb cm cr).before a0 Z = true) (hy : y.cls ≠ "java/lang/invoke/MethodHandle" ∧ y.cls ≠ "java/lang/invoke/VarHandle") (hpd : parseMethodDescriptor y.desc = some ⟨ps, pr⟩) (hlen : as.length = ps.length) (hls : Ls.size = mx) (hW : wt rest = W) (hfr : rm.frames + 1 ≤ R.frames) (hlo : W + (cm + 11) + rm.locals ≤ R.locals) (hce : rm.cells = 0) (hsl : rm.slots = 0) (hcc : ce ≤ R.cells) (hss : sl ≤ R.slots) (hd : decode bs pc = .ok (.invokevirtual i, 3)) (hp : pc + 3 = pc') (hst : st = as.reverse ++ .ref a :: rest) (hr : Go p l e R s m args below meth c n0 Q K N h ce sl (mkF m pc' Ls (v :: rest))) : Go p l e R s m args below meth c n0 Q K N h ce sl (mkF m pc Ls st) :=
  go_virtual C S E w1 w5 w6 w2 w3 w4 hy hpd hlen hls hW hfr hlo (by rw [hce]; rfl) (by rw [hsl]; rfl) hcc hss hd hp hst (fun w h' hq => by obtain ⟨r, rfl, q1, q2⟩ := hq; rw [q1, q2]; exact hr)
theorem go_virtualV (C : Cx p s m meth c Z own bs mx rt nm) {y : MethodName} {i : Nat} {cb : ByteArray} {cm : Nat} {cr : Option FieldType} {rm : Room} {as rest : List Value} {W : Nat} {ps : List FieldType} {pr : Option FieldType} {ce' sl' : Nat} {a : Addr} {C0 : String} {P : Value → Heap → Prop} (S : Sat l Z y cb cm cr rm (.ref a :: as) h n0 (RV P)) (E : Exa Z h a C0) (w1 : (Jvm.Cond.methodLink own i y).before a0 Z = true) (w5 : (Jvm.Cond.declares y).before a0 Z = true) (w6 : (Jvm.Cond.selects C0 y y).before a0 Z = true) (w2 : (Jvm.Cond.instanceMethod y).before a0 Z = true) (w3 : (Jvm.Cond.initialized y.cls).before a0 Z = true) (w4 : (Jvm.Cond.code y cb cm cr).before a0 Z = true) (hy : y.cls ≠ "java/lang/invoke/MethodHandle" ∧ y.cls ≠ "java/lang/invoke/VarHandle") (hpd : parseMethodDescriptor y.desc = some ⟨ps, pr⟩) (hlen : as.length = ps.length) (hls : Ls.size = mx) (hW : wt rest = W) (hfr : rm.frames + 1 ≤ R.frames) (hlo : W + (cm + 11) + rm.locals ≤ R.locals) (hce : ce + rm.cells = ce') (hsl : sl + rm.slots = sl') (hcc : ce' ≤ R.cells) (hss : sl' ≤ R.slots) (hd : decode bs pc = .ok (.invokevirtual i, 3)) (hp : pc + 3 = pc') (hst : st = as.reverse ++ .ref a :: rest) (hr : ∀ r h', P r h' → Go p l e R s m args below meth c n0 Q K N h' ce' sl' (mkF m pc' Ls (r :: rest))) : Go p l e R s m args below meth c n0 Q K N h ce sl (mkF m pc Ls st) :=
  go_virtual C S E w1 w5 w6 w2 w3 w4 hy hpd hlen hls hW hfr hlo hce hsl hcc hss hd hp hst (fun v h' hq => by obtain ⟨r, rfl, q⟩ := hq; exact hr r h' q)
theorem go_virtualN (C : Cx p s m meth c Z own bs mx rt nm) {y : MethodName} {i : Nat} {cb : ByteArray} {cm : Nat} {cr : Option FieldType} {rm : Room} {as rest : List Value} {W : Nat} {ps : List FieldType} {pr : Option FieldType} {ce' sl' : Nat} {a : Addr} {C0 : String} {P : Heap → Prop} (S : Sat l Z y cb cm cr rm (.ref a :: as) h n0 (RN P)) (E : Exa Z h a C0) (w1 : (Jvm.Cond.methodLink own i y).before a0 Z = true) (w5 : (Jvm.Cond.declares y).before a0 Z = true) (w6 : (Jvm.Cond.selects C0 y y).before a0 Z = true) (w2 : (Jvm.Cond.instanceMethod y).before a0 Z = true) (w3 : (Jvm.Cond.initialized y.cls).before a0 Z = true) (w4 : (Jvm.Cond.code y cb cm cr).before a0 Z = true) (hy : y.cls ≠ "java/lang/invoke/MethodHandle" ∧ y.cls ≠ "java/lang/invoke/VarHandle") (hpd : parseMethodDescriptor y.desc = some ⟨ps, pr⟩) (hlen : as.length = ps.length) (hls : Ls.size = mx) (hW : wt rest = W) (hfr : rm.frames + 1 ≤ R.frames) (hlo : W + (cm + 11) + rm.locals ≤ R.locals) (hce : ce + rm.cells = ce') (hsl : sl + rm.slots = sl') (hcc : ce' ≤ R.cells) (hss : sl' ≤ R.slots) (hd : decode bs pc = .ok (.invokevirtual i, 3)) (hp : pc + 3 = pc') (hst : st = as.reverse ++ .ref a :: rest) (hr : ∀ h', P h' → Go p l e R s m args below meth c n0 Q K N h' ce' sl' (mkF m pc' Ls rest)) : Go p l e R s m args below meth c n0 Q K N h ce sl (mkF m pc Ls st) :=
  go_virtual C S E w1 w5 w6 w2 w3 w4 hy hpd hlen hls hW hfr hlo hce hsl hcc hss hd hp hst (fun v h' hq => by obtain ⟨rfl, q⟩ := hq; exact hr h' q)
theorem go_privateP (C : Cx p s m meth c Z own bs mx rt nm) {y : MethodName} {i : Nat} {cb : ByteArray} {cm : Nat} {cr : Option FieldType} {rm : Room} {as rest : List Value} {W : Nat} {ps : List FieldType} {pr : Option FieldType} {a : Addr} {C0 : String} (v : Value) (S : Sat l Z y cb cm cr rm (.ref a :: as) h n0 (RV fun r h' => r = v ∧ h' = h)) (E : Exa Z h a C0) (w1 : (Jvm.Cond.methodLink own i y).before a0 Z = true) (w5 : (Jvm.Cond.privateMethod y).before a0 Z = true) (w6 : (Jvm.Cond.selects y.cls y y).before a0 Z = true) (w2 : (Jvm.Cond.instanceMethod y).before a0 Z = true) (w3 : (Jvm.Cond.initialized y.cls).before a0 Z = true) (w4 : (Jvm.Cond.code y cb cm cr).before a0 Z = true) (hy : y.cls ≠ "java/lang/invoke/MethodHandle" ∧ y.cls ≠ "java/lang/invoke/VarHandle") (hpd : parseMethodDescriptor y.desc = some ⟨ps, pr⟩) (hlen : as.length = ps.length) (hls : Ls.size = mx) (hW : wt rest = W) (hfr : rm.frames + 1 ≤ R.frames) (hlo : W + (cm + 11) + rm.locals ≤ R.locals) (hce : rm.cells = 0) (hsl : rm.slots = 0) (hcc : ce ≤ R.cells) (hss : sl ≤ R.slots) (hd : decode bs pc = .ok (.invokevirtual i, 3)) (hp : pc + 3 = pc') (hst : st = as.reverse ++ .ref a :: rest) (hr : Go p l e R s m args below meth c n0 Q K N h ce sl (mkF m pc' Ls (v :: rest))) : Go p l e R s m args below meth c n0 Q K N h ce sl (mkF m pc Ls st) :=
  go_private C S E w1 w5 w6 w2 w3 w4 hy hpd hlen hls hW hfr hlo (by rw [hce]; rfl) (by rw [hsl]; rfl) hcc hss hd hp hst (fun w h' hq => by obtain ⟨r, rfl, q1, q2⟩ := hq; rw [q1, q2]; exact hr)
theorem go_privateV (C : Cx p s m meth c Z own bs mx rt nm) {y : MethodName} {i : Nat} {cb : ByteArray} {cm : Nat} {cr : Option FieldType} {rm : Room} {as rest : List Value} {W : Nat} {ps : List FieldType} {pr : Option FieldType} {ce' sl' : Nat} {a : Addr} {C0 : String} {P : Value → Heap → Prop} (S : Sat l Z y cb cm cr rm (.ref a :: as) h n0 (RV P)) (E : Exa Z h a C0) (w1 : (Jvm.Cond.methodLink own i y).before a0 Z = true) (w5 : (Jvm.Cond.privateMethod y).before a0 Z = true) (w6 : (Jvm.Cond.selects y.cls y y).before a0 Z = true) (w2 : (Jvm.Cond.instanceMethod y).before a0 Z = true) (w3 : (Jvm.Cond.initialized y.cls).before a0 Z = true) (w4 : (Jvm.Cond.code y cb cm cr).before a0 Z = true) (hy : y.cls ≠ "java/lang/invoke/MethodHandle" ∧ y.cls ≠ "java/lang/invoke/VarHandle") (hpd : parseMethodDescriptor y.desc = some ⟨ps, pr⟩) (hlen : as.length = ps.length) (hls : Ls.size = mx) (hW : wt rest = W) (hfr : rm.frames + 1 ≤ R.frames) (hlo : W + (cm + 11) + rm.locals ≤ R.locals) (hce : ce + rm.cells = ce') (hsl : sl + rm.slots = sl') (hcc : ce' ≤ R.cells) (hss : sl' ≤ R.slots) (hd : decode bs pc = .ok (.invokevirtual i, 3)) (hp : pc + 3 = pc') (hst : st = as.reverse ++ .ref a :: rest) (hr : ∀ r h', P r h' → Go p l e R s m args below meth c n0 Q K N h' ce' sl' (mkF m pc' Ls (r :: rest))) : Go p l e R s m args below meth c n0 Q K N h ce sl (mkF m pc Ls st) :=
  go_private C S E w1 w5 w6 w2 w3 w4 hy hpd hlen hls hW hfr hlo hce hsl hcc hss hd hp hst (fun v h' hq => by obtain ⟨r, rfl, q⟩ := hq; exact hr r h' q)
theorem go_privateN (C : Cx p s m meth c Z own bs mx rt nm) {y : MethodName} {i : Nat} {cb : ByteArray} {cm : Nat} {cr : Option FieldType} {rm : Room} {as rest : List Value} {W : Nat} {ps : List FieldType} {pr : Option FieldType} {ce' sl' : Nat} {a : Addr} {C0 : String} {P : Heap → Prop} (S : Sat l Z y cb cm cr rm (.ref a :: as) h n0 (RN P)) (E : Exa Z h a C0) (w1 : (Jvm.Cond.methodLink own i y).before a0 Z = true) (w5 : (Jvm.Cond.privateMethod y).before a0 Z = true) (w6 : (Jvm.Cond.selects y.cls y y).before a0 Z = true) (w2 : (Jvm.Cond.instanceMethod y).before a0 Z = true) (w3 : (Jvm.Cond.initialized y.cls).before a0 Z = true) (w4 : (Jvm.Cond.code y cb cm cr).before a0 Z = true) (hy : y.cls ≠ "java/lang/invoke/MethodHandle" ∧ y.cls ≠ "java/lang/invoke/VarHandle") (hpd : parseMethodDescriptor y.desc = some ⟨ps, pr⟩) (hlen : as.length = ps.length) (hls : Ls.size = mx) (hW : wt rest = W) (hfr : rm.frames + 1 ≤ R.frames) (hlo : W + (cm + 11) + rm.locals ≤ R.locals) (hce : ce + rm.cells = ce') (hsl : sl + rm.slots = sl') (hcc : ce' ≤ R.cells) (hss : sl' ≤ R.slots) (hd : decode bs pc = .ok (.invokevirtual i, 3)) (hp : pc + 3 = pc') (hst : st = as.reverse ++ .ref a :: rest) (hr : ∀ h', P h' → Go p l e R s m args below meth c n0 Q K N h' ce' sl' (mkF m pc' Ls rest)) : Go p l e R s m args below meth c n0 Q K N h ce sl (mkF m pc Ls st) :=
  go_private C S E w1 w5 w6 w2 w3 w4 hy hpd hlen hls hW hfr hlo hce hsl hcc hss hd hp hst (fun v h' hq => by obtain ⟨rfl, q⟩ := hq; exact hr h' q)
theorem go_specialV (C : Cx p s m meth c Z own bs mx rt nm) {y : MethodName} {i : Nat} {cb : ByteArray} {cm : Nat} {rm : Room} {as rest : List Value} {W : Nat} {ps : List FieldType} {pr : Option FieldType} {ce' sl' : Nat} {a : Addr} {P : Value → Heap → Prop} (S : Sat l Z y cb cm none rm (.ref a :: as) h n0 (RV P)) (hyn : y.name = "<init>") (w1 : (Jvm.Cond.methodLink own i y).before a0 Z = true) (w2 : (Jvm.Cond.instanceMethod y).before a0 Z = true) (w3 : (Jvm.Cond.initialized y.cls).before a0 Z = true) (w4 : (Jvm.Cond.code y cb cm none).before a0 Z = true) (hy : y.cls ≠ "java/lang/invoke/MethodHandle" ∧ y.cls ≠ "java/lang/invoke/VarHandle") (hpd : parseMethodDescriptor y.desc = some ⟨ps, pr⟩) (hlen : as.length = ps.length) (hls : Ls.size = mx) (hW : wt rest = W) (hfr : rm.frames + 1 ≤ R.frames) (hlo : W + (cm + 11) + rm.locals ≤ R.locals) (hce : ce + rm.cells = ce') (hsl : sl + rm.slots = sl') (hcc : ce' ≤ R.cells) (hss : sl' ≤ R.slots) (hd : decode bs pc = .ok (.invokespecial i, 3)) (hp : pc + 3 = pc') (hst : st = as.reverse ++ .ref a :: rest) (hr : ∀ r h', P r h' → Go p l e R s m args below meth c n0 Q K N h' ce' sl' (mkF m pc' Ls (r :: rest))) : Go p l e R s m args below meth c n0 Q K N h ce sl (mkF m pc Ls st) :=
  go_special C S hyn w1 w2 w3 w4 hy hpd hlen hls hW hfr hlo hce hsl hcc hss hd hp hst (fun v h' hq => by obtain ⟨r, rfl, q⟩ := hq; exact hr r h' q)
theorem go_specialN (C : Cx p s m meth c Z own bs mx rt nm) {y : MethodName} {i : Nat} {cb : ByteArray} {cm : Nat} {rm : Room} {as rest : List Value} {W : Nat} {ps : List FieldType} {pr : Option FieldType} {ce' sl' : Nat} {a : Addr} {P : Heap → Prop} (S : Sat l Z y cb cm none rm (.ref a :: as) h n0 (RN P)) (hyn : y.name = "<init>") (w1 : (Jvm.Cond.methodLink own i y).before a0 Z = true) (w2 : (Jvm.Cond.instanceMethod y).before a0 Z = true) (w3 : (Jvm.Cond.initialized y.cls).before a0 Z = true) (w4 : (Jvm.Cond.code y cb cm none).before a0 Z = true) (hy : y.cls ≠ "java/lang/invoke/MethodHandle" ∧ y.cls ≠ "java/lang/invoke/VarHandle") (hpd : parseMethodDescriptor y.desc = some ⟨ps, pr⟩) (hlen : as.length = ps.length) (hls : Ls.size = mx) (hW : wt rest = W) (hfr : rm.frames + 1 ≤ R.frames) (hlo : W + (cm + 11) + rm.locals ≤ R.locals) (hce : ce + rm.cells = ce') (hsl : sl + rm.slots = sl') (hcc : ce' ≤ R.cells) (hss : sl' ≤ R.slots) (hd : decode bs pc = .ok (.invokespecial i, 3)) (hp : pc + 3 = pc') (hst : st = as.reverse ++ .ref a :: rest) (hr : ∀ h', P h' → Go p l e R s m args below meth c n0 Q K N h' ce' sl' (mkF m pc' Ls rest)) : Go p l e R s m args below meth c n0 Q K N h ce sl (mkF m pc Ls st) :=
  go_special C S hyn w1 w2 w3 w4 hy hpd hlen hls hW hfr hlo hce hsl hcc hss hd hp hst (fun v h' hq => by obtain ⟨rfl, q⟩ := hq; exact hr h' q)
theorem go_specialWV (C : Cx p s m meth c Z own bs mx rt nm) {y : MethodName} {i : Nat} {cb : ByteArray} {cm : Nat} {rm : Room} {as rest : List Value} {W : Nat} {ps : List FieldType} {pr : Option FieldType} {ce' sl' : Nat} {a : Addr} {P : Value → Heap → Prop} (S : Sat l Z y cb cm none rm (.ref a :: as) h n0 (RV P)) (hyn : y.name = "<init>") (w1 : (Jvm.Cond.methodRef own i y).before a0 Z = true) (w2 : (Jvm.Cond.instanceMethod y).before a0 Z = true) (w3 : (Jvm.Cond.initialized y.cls).before a0 Z = true) (w4 : (Jvm.Cond.code y cb cm none).before a0 Z = true) (hy : y.cls ≠ "java/lang/invoke/MethodHandle" ∧ y.cls ≠ "java/lang/invoke/VarHandle") (hpd : parseMethodDescriptor y.desc = some ⟨ps, pr⟩) (hlen : as.length = ps.length) (hls : Ls.size = mx) (hW : wt rest = W) (hfr : rm.frames + 1 ≤ R.frames) (hlo : W + (cm + 11) + rm.locals ≤ R.locals) (hce : ce + rm.cells = ce') (hsl : sl + rm.slots = sl') (hcc : ce' ≤ R.cells) (hss : sl' ≤ R.slots) (hd : decode bs pc = .ok (.invokespecial i, 3)) (hp : pc + 3 = pc') (hst : st = as.reverse ++ .ref a :: rest) (hr : ∀ r h', P r h' → Go p l e R s m args below meth c n0 Q K N h' ce' sl' (mkF m pc' Ls (r :: rest))) : Go p l e R s m args below meth c n0 Q K N h ce sl (mkF m pc Ls st) :=
  go_specialW C S hyn w1 w2 w3 w4 hy hpd hlen hls hW hfr hlo hce hsl hcc hss hd hp hst (fun v h' hq => by obtain ⟨r, rfl, q⟩ := hq; exact hr r h' q)
theorem go_specialWN (C : Cx p s m meth c Z own bs mx rt nm) {y : MethodName} {i : Nat} {cb : ByteArray} {cm : Nat} {rm : Room} {as rest : List Value} {W : Nat} {ps : List FieldType} {pr : Option FieldType} {ce' sl' : Nat} {a : Addr} {P : Heap → Prop} (S : Sat l Z y cb cm none rm (.ref a :: as) h n0 (RN P)) (hyn : y.name = "<init>") (w1 : (Jvm.Cond.methodRef own i y).before a0 Z = true) (w2 : (Jvm.Cond.instanceMethod y).before a0 Z = true) (w3 : (Jvm.Cond.initialized y.cls).before a0 Z = true) (w4 : (Jvm.Cond.code y cb cm none).before a0 Z = true) (hy : y.cls ≠ "java/lang/invoke/MethodHandle" ∧ y.cls ≠ "java/lang/invoke/VarHandle") (hpd : parseMethodDescriptor y.desc = some ⟨ps, pr⟩) (hlen : as.length = ps.length) (hls : Ls.size = mx) (hW : wt rest = W) (hfr : rm.frames + 1 ≤ R.frames) (hlo : W + (cm + 11) + rm.locals ≤ R.locals) (hce : ce + rm.cells = ce') (hsl : sl + rm.slots = sl') (hcc : ce' ≤ R.cells) (hss : sl' ≤ R.slots) (hd : decode bs pc = .ok (.invokespecial i, 3)) (hp : pc + 3 = pc') (hst : st = as.reverse ++ .ref a :: rest) (hr : ∀ h', P h' → Go p l e R s m args below meth c n0 Q K N h' ce' sl' (mkF m pc' Ls rest)) : Go p l e R s m args below meth c n0 Q K N h ce sl (mkF m pc Ls st) :=
  go_specialW C S hyn w1 w2 w3 w4 hy hpd hlen hls hW hfr hlo hce hsl hcc hss hd hp hst (fun v h' hq => by obtain ⟨rfl, q⟩ := hq; exact hr h' q)
theorem go_ireturnI (C : Cx p s m meth c Z own bs mx rt nm) {z : Int32} (hrt : rt = some .int) (hd : decode bs pc = .ok (.ireturn, 1)) (hk : ce ≤ K) (hn : sl ≤ N) (hq : Q (some (.int z)) h) : Go p l e R s m args below meth c n0 Q K N h ce sl (mkF m pc Ls [.int z]) := by
  subst hrt
  intro T locs X eT Nn
  obtain ⟨fs, hr, hrun, hended, hW, hsame⟩ := X.leave (v := some (.int z)) (fun q => by first | rfl | (rw [C.2.2.2.2.2.1] at q; cases q)) C.2.2.2.2.2.2.1
  refine ⟨_, _, X.ireturnOut C.1 C.2.2.2.2.2.1 rfl (Or.inl rfl) (hb C.2.1 hd) hr, hrun, hended, _, _, rfl, ⟨?_, Nn⟩, ⟨_, rfl⟩, hW, hsame.mono hk hn⟩
  show Q (some (.int z)) T.heap
  rw [eT]; exact hq
theorem go_lreturn (C : Cx p s m meth c Z own bs mx rt nm) {z : Int64} (hrt : rt = some .long) (hd : decode bs pc = .ok (.lreturn, 1)) (hk : ce ≤ K) (hn : sl ≤ N) (hq : Q (some (.long z)) h) : Go p l e R s m args below meth c n0 Q K N h ce sl (mkF m pc Ls [.long z]) := by
  subst hrt
  intro T locs X eT Nn
  obtain ⟨fs, hr, hrun, hended, hW, hsame⟩ := X.leave (v := some (.long z)) (fun q => by first | rfl | (rw [C.2.2.2.2.2.1] at q; cases q)) C.2.2.2.2.2.2.1
  refine ⟨_, _, Jvm.Stand.lreturnOut X C.1 C.2.2.2.2.2.1 (hb C.2.1 hd) hr, hrun, hended, _, _, rfl, ⟨?_, Nn⟩, ⟨_, rfl⟩, hW, hsame.mono hk hn⟩
  show Q (some (.long z)) T.heap
  rw [eT]; exact hq
theorem go_areturn (C : Cx p s m meth c Z own bs mx rt nm) {w : Value} {t : FieldType} (hrt : rt = some t) (hd : decode bs pc = .ok (.areturn, 1)) (hk : ce ≤ K) (hn : sl ≤ N) (hw : w.isRef = true) (ht : t.isReference = true) (hq : Q (some w) h) : Go p l e R s m args below meth c n0 Q K N h ce sl (mkF m pc Ls [w]) := by
  subst hrt
  intro T locs X eT Nn
  obtain ⟨fs, hr, hrun, hended, hW, hsame⟩ := X.leave (v := some w) (fun q => by first | rfl | (rw [C.2.2.2.2.2.1] at q; cases q)) C.2.2.2.2.2.2.1
  refine ⟨_, _, X.areturnOut C.1 hw C.2.2.2.2.2.1 ht (hb C.2.1 hd) hr, hrun, hended, _, _, rfl, ⟨?_, Nn⟩, ⟨_, rfl⟩, hW, hsame.mono hk hn⟩
  show Q (some w) T.heap
  rw [eT]; exact hq
theorem go_return (C : Cx p s m meth c Z own bs mx rt nm)  (hrt : rt = none) (hd : decode bs pc = .ok (.return_, 1)) (hk : ce ≤ K) (hn : sl ≤ N) (hq : Q (none) h) : Go p l e R s m args below meth c n0 Q K N h ce sl (mkF m pc Ls []) := by
  subst hrt
  intro T locs X eT Nn
  obtain ⟨fs, hr, hrun, hended, hW, hsame⟩ := X.leave (v := none) (fun q => by first | rfl | (rw [C.2.2.2.2.2.1] at q; cases q)) C.2.2.2.2.2.2.1
  refine ⟨_, _, X.returnOut C.1 C.2.2.2.2.2.1 (hb C.2.1 hd) hr, hrun, hended, _, _, rfl, ⟨?_, Nn⟩, ⟨_, rfl⟩, hW, hsame.mono hk hn⟩
  show Q (none) T.heap
  rw [eT]; exact hq
theorem go_ireturnN (C : Cx p s m meth c Z own bs mx rt nm) {z z' : Int32} {t : FieldType} (hrt : rt = some t) (ht : t = .boolean ∨ t = .byte ∨ t = .char ∨ t = .short) (hz : nar t z = z') (hd : decode bs pc = .ok (.ireturn, 1)) (hk : ce ≤ K) (hn : sl ≤ N) (hq : Q (some (.int z')) h) : Go p l e R s m args below meth c n0 Q K N h ce sl (mkF m pc Ls [.int z]) := by
  subst hrt hz
  intro T locs X eT Nn
  obtain ⟨fs, hr, hrun, hended, hW, hsame⟩ := X.leave (v := some (.int (nar t z))) (fun q => by rw [C.2.2.2.2.2.1] at q; cases q) C.2.2.2.2.2.2.1
  refine ⟨_, _, retN X C.1 (t := t) C.2.2.2.2.2.1 ht (hb C.2.1 hd) hr, hrun, hended, _, _, rfl, ⟨?_, Nn⟩, ⟨_, rfl⟩, hW, hsame.mono hk hn⟩
  show Q (some (.int (nar t z))) T.heap
  rw [eT]; exact hq
theorem sat_of {y : MethodName} {cb : ByteArray} {cm : Nat} {cr : Option FieldType} {rm : Room} {as : List Value} {h0 : Heap} (ho : y.cls = own) (hnm : y.name = nm) (hpn : plainFor y = true) (Ls : Array Slot) (hef : ∀ m, entryFrame m as.toArray cm = mkF m 0 Ls [])
    (body : ∀ (p : Program) (e : Env) (s : State) (m : MethodId) (below : List Frame) (meth : Method) (c : Code), Cx p s m meth c Z own cb cm cr nm → Go p l e rm s m as.toArray below meth c n0 Q rm.cells rm.slots h0 0 0 (mkF m 0 Ls [])) : Sat l Z y cb cm cr rm as h0 n0 Q := by
  intro ws
  subst ho hnm
  refine MetFree.of_bodySF hpn hisR ?_
  intro p e s m args below meth c s₁ Bd hml0 hP hK
  obtain ⟨rfl, hZ, hh⟩ := hP
  have X0 : Stand p l e rm s m as.toArray below meth c s₁ [] 0 0 := Stand.of_body Bd
  obtain ⟨s₂, o, h1, h2, h3, v, L, h4, h5, h6⟩ := body p e s m below meth c ⟨Bd.exec, Bd.bytes, hml0, hZ, findClass_of_methodNamed Bd.named, Bd.returns, Bd.notSynchronized, (name_of_methodNamed Bd.named Bd.method).1⟩ s₁ [] X0 (by rw [← hh, Bd.state]; rfl) (Fr.nil n0)
  exact ⟨s₂, o, castTop (hef m) h1, h2, h3, v, L, h4, h5, h6⟩
theorem Sat.weaken {y : MethodName} {cb : ByteArray} {cm : Nat} {cr : Option FieldType} {rm : Room} {as : List Value} {h0 : Heap} {Q' : Option Value → Heap → Prop} (S : Sat l Z y cb cm cr rm as h0 n0 Q) (H : ∀ v h, Q v h → Q' v h) : Sat l Z y cb cm cr rm as h0 n0 Q' := by
  intro ws p e ha hc hk s m args below hf happ hP hK
  obtain ⟨n, o, h1, h2, h3, v, L, h4, h5, h6⟩ := S ws p e ha hc hk s m args below hf happ hP hK
  exact ⟨n, o, h1, h2, h3, v, L, h4, ⟨H _ _ h5.1, h5.2⟩, h6⟩
end Walk
end OwnLayer
theorem wd {Z : State} {a0 : Array Value} (hw : ∀ d ∈ tables_1, d.before a0 Z = true) (k : Nat) {d : Jvm.Cond} (h : tables_1[k]? = some d) : d.before a0 Z = true := hw d (List.mem_of_getElem? h)
theorem d1_0 : decode prog_270_method_5_code 0 = .ok (.iload_n 0, 1) := by decide +kernel
theorem d1_1 : decode prog_270_method_5_code 1 = .ok (.bipush 97, 2) := by decide +kernel
theorem d1_3 : decode prog_270_method_5_code 3 = .ok (.if_icmp .lt 9, 3) := by decide +kernel
theorem d1_6 : decode prog_270_method_5_code 6 = .ok (.iload_n 0, 1) := by decide +kernel
theorem d1_7 : decode prog_270_method_5_code 7 = .ok (.bipush 122, 2) := by decide +kernel
theorem d1_9 : decode prog_270_method_5_code 9 = .ok (.if_icmp .le 182, 3) := by decide +kernel
theorem d1_12 : decode prog_270_method_5_code 12 = .ok (.iload_n 0, 1) := by decide +kernel
theorem d1_13 : decode prog_270_method_5_code 13 = .ok (.bipush 65, 2) := by decide +kernel
theorem d1_15 : decode prog_270_method_5_code 15 = .ok (.if_icmp .lt 9, 3) := by decide +kernel
theorem d1_18 : decode prog_270_method_5_code 18 = .ok (.iload_n 0, 1) := by decide +kernel
theorem d1_19 : decode prog_270_method_5_code 19 = .ok (.bipush 90, 2) := by decide +kernel
theorem d1_21 : decode prog_270_method_5_code 21 = .ok (.if_icmp .le 170, 3) := by decide +kernel
theorem d1_24 : decode prog_270_method_5_code 24 = .ok (.iload_n 0, 1) := by decide +kernel
theorem d1_25 : decode prog_270_method_5_code 25 = .ok (.bipush 95, 2) := by decide +kernel
theorem d1_27 : decode prog_270_method_5_code 27 = .ok (.if_icmp .eq 164, 3) := by decide +kernel
theorem d1_30 : decode prog_270_method_5_code 30 = .ok (.iload_n 0, 1) := by decide +kernel
theorem d1_31 : decode prog_270_method_5_code 31 = .ok (.sipush 192, 3) := by decide +kernel
theorem d1_34 : decode prog_270_method_5_code 34 = .ok (.if_icmp .lt 10, 3) := by decide +kernel
theorem d1_37 : decode prog_270_method_5_code 37 = .ok (.iload_n 0, 1) := by decide +kernel
theorem d1_38 : decode prog_270_method_5_code 38 = .ok (.sipush 214, 3) := by decide +kernel
theorem d1_41 : decode prog_270_method_5_code 41 = .ok (.if_icmp .le 150, 3) := by decide +kernel
theorem d1_44 : decode prog_270_method_5_code 44 = .ok (.iload_n 0, 1) := by decide +kernel
theorem d1_45 : decode prog_270_method_5_code 45 = .ok (.sipush 216, 3) := by decide +kernel
theorem d1_48 : decode prog_270_method_5_code 48 = .ok (.if_icmp .lt 10, 3) := by decide +kernel
theorem d1_51 : decode prog_270_method_5_code 51 = .ok (.iload_n 0, 1) := by decide +kernel
theorem d1_52 : decode prog_270_method_5_code 52 = .ok (.sipush 246, 3) := by decide +kernel
theorem d1_55 : decode prog_270_method_5_code 55 = .ok (.if_icmp .le 136, 3) := by decide +kernel
theorem d1_58 : decode prog_270_method_5_code 58 = .ok (.iload_n 0, 1) := by decide +kernel
theorem d1_59 : decode prog_270_method_5_code 59 = .ok (.sipush 248, 3) := by decide +kernel
theorem d1_62 : decode prog_270_method_5_code 62 = .ok (.if_icmp .lt 10, 3) := by decide +kernel
theorem d1_65 : decode prog_270_method_5_code 65 = .ok (.iload_n 0, 1) := by decide +kernel
theorem d1_66 : decode prog_270_method_5_code 66 = .ok (.sipush 767, 3) := by decide +kernel
theorem d1_69 : decode prog_270_method_5_code 69 = .ok (.if_icmp .le 122, 3) := by decide +kernel
theorem d1_72 : decode prog_270_method_5_code 72 = .ok (.iload_n 0, 1) := by decide +kernel
theorem d1_73 : decode prog_270_method_5_code 73 = .ok (.sipush 880, 3) := by decide +kernel
theorem d1_76 : decode prog_270_method_5_code 76 = .ok (.if_icmp .lt 10, 3) := by decide +kernel
theorem d1_79 : decode prog_270_method_5_code 79 = .ok (.iload_n 0, 1) := by decide +kernel
theorem d1_80 : decode prog_270_method_5_code 80 = .ok (.sipush 893, 3) := by decide +kernel
theorem d1_83 : decode prog_270_method_5_code 83 = .ok (.if_icmp .le 108, 3) := by decide +kernel
theorem d1_86 : decode prog_270_method_5_code 86 = .ok (.iload_n 0, 1) := by decide +kernel
theorem d1_87 : decode prog_270_method_5_code 87 = .ok (.sipush 895, 3) := by decide +kernel
theorem d1_90 : decode prog_270_method_5_code 90 = .ok (.if_icmp .lt 10, 3) := by decide +kernel
theorem d1_93 : decode prog_270_method_5_code 93 = .ok (.iload_n 0, 1) := by decide +kernel
theorem d1_94 : decode prog_270_method_5_code 94 = .ok (.sipush 8191, 3) := by decide +kernel
theorem d1_97 : decode prog_270_method_5_code 97 = .ok (.if_icmp .le 94, 3) := by decide +kernel
theorem d1_100 : decode prog_270_method_5_code 100 = .ok (.iload_n 0, 1) := by decide +kernel
theorem d1_101 : decode prog_270_method_5_code 101 = .ok (.sipush 8204, 3) := by decide +kernel
theorem d1_104 : decode prog_270_method_5_code 104 = .ok (.if_icmp .lt 10, 3) := by decide +kernel
theorem d1_107 : decode prog_270_method_5_code 107 = .ok (.iload_n 0, 1) := by decide +kernel
theorem d1_108 : decode prog_270_method_5_code 108 = .ok (.sipush 8205, 3) := by decide +kernel
theorem d1_111 : decode prog_270_method_5_code 111 = .ok (.if_icmp .le 80, 3) := by decide +kernel
theorem d1_114 : decode prog_270_method_5_code 114 = .ok (.iload_n 0, 1) := by decide +kernel
theorem d1_115 : decode prog_270_method_5_code 115 = .ok (.sipush 8304, 3) := by decide +kernel
theorem d1_118 : decode prog_270_method_5_code 118 = .ok (.if_icmp .lt 10, 3) := by decide +kernel
theorem d1_121 : decode prog_270_method_5_code 121 = .ok (.iload_n 0, 1) := by decide +kernel
theorem d1_122 : decode prog_270_method_5_code 122 = .ok (.sipush 8591, 3) := by decide +kernel
theorem d1_125 : decode prog_270_method_5_code 125 = .ok (.if_icmp .le 66, 3) := by decide +kernel
theorem d1_128 : decode prog_270_method_5_code 128 = .ok (.iload_n 0, 1) := by decide +kernel
theorem d1_129 : decode prog_270_method_5_code 129 = .ok (.sipush 11264, 3) := by decide +kernel
theorem d1_132 : decode prog_270_method_5_code 132 = .ok (.if_icmp .lt 10, 3) := by decide +kernel
theorem d1_135 : decode prog_270_method_5_code 135 = .ok (.iload_n 0, 1) := by decide +kernel
theorem d1_136 : decode prog_270_method_5_code 136 = .ok (.sipush 12271, 3) := by decide +kernel
theorem d1_139 : decode prog_270_method_5_code 139 = .ok (.if_icmp .le 52, 3) := by decide +kernel
theorem d1_142 : decode prog_270_method_5_code 142 = .ok (.iload_n 0, 1) := by decide +kernel
theorem d1_143 : decode prog_270_method_5_code 143 = .ok (.sipush 12289, 3) := by decide +kernel
theorem d1_146 : decode prog_270_method_5_code 146 = .ok (.if_icmp .lt 9, 3) := by decide +kernel
theorem d1_149 : decode prog_270_method_5_code 149 = .ok (.iload_n 0, 1) := by decide +kernel
theorem d1_150 : decode prog_270_method_5_code 150 = .ok (.ldc 7, 2) := by decide +kernel
theorem d1_152 : decode prog_270_method_5_code 152 = .ok (.if_icmp .le 39, 3) := by decide +kernel
theorem d1_155 : decode prog_270_method_5_code 155 = .ok (.iload_n 0, 1) := by decide +kernel
theorem d1_156 : decode prog_270_method_5_code 156 = .ok (.ldc 21, 2) := by decide +kernel
theorem d1_158 : decode prog_270_method_5_code 158 = .ok (.if_icmp .lt 9, 3) := by decide +kernel
theorem d1_161 : decode prog_270_method_5_code 161 = .ok (.iload_n 0, 1) := by decide +kernel
theorem d1_162 : decode prog_270_method_5_code 162 = .ok (.ldc 22, 2) := by decide +kernel
theorem d1_164 : decode prog_270_method_5_code 164 = .ok (.if_icmp .le 27, 3) := by decide +kernel
theorem d1_167 : decode prog_270_method_5_code 167 = .ok (.iload_n 0, 1) := by decide +kernel
theorem d1_168 : decode prog_270_method_5_code 168 = .ok (.ldc 23, 2) := by decide +kernel
theorem d1_170 : decode prog_270_method_5_code 170 = .ok (.if_icmp .lt 9, 3) := by decide +kernel
theorem d1_173 : decode prog_270_method_5_code 173 = .ok (.iload_n 0, 1) := by decide +kernel
theorem d1_174 : decode prog_270_method_5_code 174 = .ok (.ldc 9, 2) := by decide +kernel
theorem d1_176 : decode prog_270_method_5_code 176 = .ok (.if_icmp .le 15, 3) := by decide +kernel
theorem d1_179 : decode prog_270_method_5_code 179 = .ok (.iload_n 0, 1) := by decide +kernel
theorem d1_180 : decode prog_270_method_5_code 180 = .ok (.ldc 10, 2) := by decide +kernel
theorem d1_182 : decode prog_270_method_5_code 182 = .ok (.if_icmp .lt 13, 3) := by decide +kernel
theorem d1_185 : decode prog_270_method_5_code 185 = .ok (.iload_n 0, 1) := by decide +kernel
theorem d1_186 : decode prog_270_method_5_code 186 = .ok (.ldc 24, 2) := by decide +kernel
theorem d1_188 : decode prog_270_method_5_code 188 = .ok (.if_icmp .gt 7, 3) := by decide +kernel
theorem d1_191 : decode prog_270_method_5_code 191 = .ok (.iconst 1, 1) := by decide +kernel
theorem d1_192 : decode prog_270_method_5_code 192 = .ok (.goto 4, 3) := by decide +kernel
theorem d1_195 : decode prog_270_method_5_code 195 = .ok (.iconst 0, 1) := by decide +kernel
theorem d1_196 : decode prog_270_method_5_code 196 = .ok (.ireturn, 1) := by decide +kernel
theorem d2_0 : decode method_3_code 0 = .ok (.iload_n 0, 1) := by decide +kernel
theorem d2_1 : decode method_3_code 1 = .ok (.bipush 65, 2) := by decide +kernel
theorem d2_3 : decode method_3_code 3 = .ok (.if_icmp .lt 9, 3) := by decide +kernel
theorem d2_6 : decode method_3_code 6 = .ok (.iload_n 0, 1) := by decide +kernel
theorem d2_7 : decode method_3_code 7 = .ok (.ldc 13, 2) := by decide +kernel
theorem d2_9 : decode method_3_code 9 = .ok (.if_icmp .le 5, 3) := by decide +kernel
theorem d2_12 : decode method_3_code 12 = .ok (.iconst 0, 1) := by decide +kernel
theorem d2_13 : decode method_3_code 13 = .ok (.ireturn, 1) := by decide +kernel
theorem d2_14 : decode method_3_code 14 = .ok (.iload_n 0, 1) := by decide +kernel
theorem d2_15 : decode method_3_code 15 = .ok (.sipush 128, 3) := by decide +kernel
theorem d2_18 : decode method_3_code 18 = .ok (.if_icmp .ge 32, 3) := by decide +kernel
theorem d2_21 : decode method_3_code 21 = .ok (.iload_n 0, 1) := by decide +kernel
theorem d2_22 : decode method_3_code 22 = .ok (.bipush 32, 2) := by decide +kernel
theorem d2_24 : decode method_3_code 24 = .ok (.ior, 1) := by decide +kernel
theorem d2_25 : decode method_3_code 25 = .ok (.istore_n 1, 1) := by decide +kernel
theorem d2_26 : decode method_3_code 26 = .ok (.iload_n 1, 1) := by decide +kernel
theorem d2_27 : decode method_3_code 27 = .ok (.bipush 97, 2) := by decide +kernel
theorem d2_29 : decode method_3_code 29 = .ok (.if_icmp .lt 9, 3) := by decide +kernel
theorem d2_32 : decode method_3_code 32 = .ok (.iload_n 1, 1) := by decide +kernel
theorem d2_33 : decode method_3_code 33 = .ok (.bipush 122, 2) := by decide +kernel
theorem d2_35 : decode method_3_code 35 = .ok (.if_icmp .le 9, 3) := by decide +kernel
theorem d2_38 : decode method_3_code 38 = .ok (.iload_n 0, 1) := by decide +kernel
theorem d2_39 : decode method_3_code 39 = .ok (.bipush 95, 2) := by decide +kernel
theorem d2_41 : decode method_3_code 41 = .ok (.if_icmp .ne 7, 3) := by decide +kernel
theorem d2_44 : decode method_3_code 44 = .ok (.iconst 1, 1) := by decide +kernel
theorem d2_45 : decode method_3_code 45 = .ok (.goto 4, 3) := by decide +kernel
theorem d2_48 : decode method_3_code 48 = .ok (.iconst 0, 1) := by decide +kernel
theorem d2_49 : decode method_3_code 49 = .ok (.ireturn, 1) := by decide +kernel
theorem d2_50 : decode method_3_code 50 = .ok (.iload_n 0, 1) := by decide +kernel
theorem d2_51 : decode method_3_code 51 = .ok (.ldc 12, 2) := by decide +kernel
theorem d2_53 : decode method_3_code 53 = .ok (.if_icmp .ge 147, 3) := by decide +kernel
theorem d2_56 : decode method_3_code 56 = .ok (.iload_n 0, 1) := by decide +kernel
theorem d2_57 : decode method_3_code 57 = .ok (.sipush 191, 3) := by decide +kernel
theorem d2_60 : decode method_3_code 60 = .ok (.if_icmp .le 124, 3) := by decide +kernel
theorem d2_63 : decode method_3_code 63 = .ok (.iload_n 0, 1) := by decide +kernel
theorem d2_64 : decode method_3_code 64 = .ok (.sipush 215, 3) := by decide +kernel
theorem d2_67 : decode method_3_code 67 = .ok (.if_icmp .eq 117, 3) := by decide +kernel
theorem d2_70 : decode method_3_code 70 = .ok (.iload_n 0, 1) := by decide +kernel
theorem d2_71 : decode method_3_code 71 = .ok (.sipush 247, 3) := by decide +kernel
theorem d2_74 : decode method_3_code 74 = .ok (.if_icmp .eq 110, 3) := by decide +kernel
theorem d2_77 : decode method_3_code 77 = .ok (.iload_n 0, 1) := by decide +kernel
theorem d2_78 : decode method_3_code 78 = .ok (.sipush 768, 3) := by decide +kernel
theorem d2_81 : decode method_3_code 81 = .ok (.if_icmp .lt 10, 3) := by decide +kernel
theorem d2_84 : decode method_3_code 84 = .ok (.iload_n 0, 1) := by decide +kernel
theorem d2_85 : decode method_3_code 85 = .ok (.sipush 879, 3) := by decide +kernel
theorem d2_88 : decode method_3_code 88 = .ok (.if_icmp .le 96, 3) := by decide +kernel
theorem d2_91 : decode method_3_code 91 = .ok (.iload_n 0, 1) := by decide +kernel
theorem d2_92 : decode method_3_code 92 = .ok (.sipush 894, 3) := by decide +kernel
theorem d2_95 : decode method_3_code 95 = .ok (.if_icmp .eq 89, 3) := by decide +kernel
theorem d2_98 : decode method_3_code 98 = .ok (.iload_n 0, 1) := by decide +kernel
theorem d2_99 : decode method_3_code 99 = .ok (.sipush 8192, 3) := by decide +kernel
theorem d2_102 : decode method_3_code 102 = .ok (.if_icmp .lt 10, 3) := by decide +kernel
theorem d2_105 : decode method_3_code 105 = .ok (.iload_n 0, 1) := by decide +kernel
theorem d2_106 : decode method_3_code 106 = .ok (.sipush 8203, 3) := by decide +kernel
theorem d2_109 : decode method_3_code 109 = .ok (.if_icmp .le 75, 3) := by decide +kernel
theorem d2_112 : decode method_3_code 112 = .ok (.iload_n 0, 1) := by decide +kernel
theorem d2_113 : decode method_3_code 113 = .ok (.sipush 8206, 3) := by decide +kernel
theorem d2_116 : decode method_3_code 116 = .ok (.if_icmp .lt 10, 3) := by decide +kernel
theorem d2_119 : decode method_3_code 119 = .ok (.iload_n 0, 1) := by decide +kernel
theorem d2_120 : decode method_3_code 120 = .ok (.sipush 8303, 3) := by decide +kernel
theorem d2_123 : decode method_3_code 123 = .ok (.if_icmp .le 61, 3) := by decide +kernel
theorem d2_126 : decode method_3_code 126 = .ok (.iload_n 0, 1) := by decide +kernel
theorem d2_127 : decode method_3_code 127 = .ok (.sipush 8592, 3) := by decide +kernel
theorem d2_130 : decode method_3_code 130 = .ok (.if_icmp .lt 10, 3) := by decide +kernel
theorem d2_133 : decode method_3_code 133 = .ok (.iload_n 0, 1) := by decide +kernel
theorem d2_134 : decode method_3_code 134 = .ok (.sipush 11263, 3) := by decide +kernel
theorem d2_137 : decode method_3_code 137 = .ok (.if_icmp .le 47, 3) := by decide +kernel
theorem d2_140 : decode method_3_code 140 = .ok (.iload_n 0, 1) := by decide +kernel
theorem d2_141 : decode method_3_code 141 = .ok (.sipush 12272, 3) := by decide +kernel
theorem d2_144 : decode method_3_code 144 = .ok (.if_icmp .lt 10, 3) := by decide +kernel
theorem d2_147 : decode method_3_code 147 = .ok (.iload_n 0, 1) := by decide +kernel
theorem d2_148 : decode method_3_code 148 = .ok (.sipush 12288, 3) := by decide +kernel
theorem d2_151 : decode method_3_code 151 = .ok (.if_icmp .le 33, 3) := by decide +kernel
theorem d2_154 : decode method_3_code 154 = .ok (.iload_n 0, 1) := by decide +kernel
theorem d2_155 : decode method_3_code 155 = .ok (.ldc 26, 2) := by decide +kernel
theorem d2_157 : decode method_3_code 157 = .ok (.if_icmp .lt 9, 3) := by decide +kernel
theorem d2_160 : decode method_3_code 160 = .ok (.iload_n 0, 1) := by decide +kernel
theorem d2_161 : decode method_3_code 161 = .ok (.ldc 27, 2) := by decide +kernel
theorem d2_163 : decode method_3_code 163 = .ok (.if_icmp .le 21, 3) := by decide +kernel
theorem d2_166 : decode method_3_code 166 = .ok (.iload_n 0, 1) := by decide +kernel
theorem d2_167 : decode method_3_code 167 = .ok (.ldc 28, 2) := by decide +kernel
theorem d2_169 : decode method_3_code 169 = .ok (.if_icmp .lt 9, 3) := by decide +kernel
theorem d2_172 : decode method_3_code 172 = .ok (.iload_n 0, 1) := by decide +kernel
theorem d2_173 : decode method_3_code 173 = .ok (.ldc 29, 2) := by decide +kernel
theorem d2_175 : decode method_3_code 175 = .ok (.if_icmp .le 9, 3) := by decide +kernel
theorem d2_178 : decode method_3_code 178 = .ok (.iload_n 0, 1) := by decide +kernel
theorem d2_179 : decode method_3_code 179 = .ok (.ldc 30, 2) := by decide +kernel
theorem d2_181 : decode method_3_code 181 = .ok (.if_icmp .lt 7, 3) := by decide +kernel
theorem d2_184 : decode method_3_code 184 = .ok (.iconst 1, 1) := by decide +kernel
theorem d2_185 : decode method_3_code 185 = .ok (.goto 4, 3) := by decide +kernel
theorem d2_188 : decode method_3_code 188 = .ok (.iconst 0, 1) := by decide +kernel
theorem d2_189 : decode method_3_code 189 = .ok (.istore_n 1, 1) := by decide +kernel
theorem d2_190 : decode method_3_code 190 = .ok (.iload_n 1, 1) := by decide +kernel
theorem d2_191 : decode method_3_code 191 = .ok (.ifCond .ne 7, 3) := by decide +kernel
theorem d2_194 : decode method_3_code 194 = .ok (.iconst 1, 1) := by decide +kernel
theorem d2_195 : decode method_3_code 195 = .ok (.goto 4, 3) := by decide +kernel
theorem d2_198 : decode method_3_code 198 = .ok (.iconst 0, 1) := by decide +kernel
theorem d2_199 : decode method_3_code 199 = .ok (.ireturn, 1) := by decide +kernel
theorem d2_200 : decode method_3_code 200 = .ok (.iconst 1, 1) := by decide +kernel
theorem d2_201 : decode method_3_code 201 = .ok (.ireturn, 1) := by decide +kernel
theorem pn_0 : plainName "com/example/cardinality/cardinality/XmlCharactersIsNcNameStartCharPinLaw" = true := by first | (simp [plainName, overriddenIn]; done) | decide +kernel
theorem pd_0 : parseMethodDescriptor "(III)Z" = some ⟨[.int, .int, .int], some .boolean⟩ := by decide +kernel
theorem pn_1 : plainName "com/example/cardinality/cardinality/XmlCharacters" = true := by first | (simp [plainName, overriddenIn]; done) | decide +kernel
theorem pd_1 : parseMethodDescriptor "(I)Z" = some ⟨[.int], some .boolean⟩ := by decide +kernel
theorem own_fold (x : Int32) (h0 : 0 ≤ x.toInt) (h1 : x.toInt < 128) : (97 ≤ (x ||| (32 : Int32)).toInt ∧ (x ||| (32 : Int32)).toInt ≤ 122) ↔ ((97 ≤ x.toInt ∧ x.toInt ≤ 122) ∨ (65 ≤ x.toInt ∧ x.toInt ≤ 90)) := by
  obtain ⟨k, hk⟩ : ∃ k : Nat, x.toInt = (k : Int) := ⟨x.toInt.toNat, by omega⟩
  have hx : x = Int32.ofNat k := int_eq (by rw [hk]; exact (Int32.toInt_ofNat_of_lt (by omega)).symm)
  have hlt : k < 128 := by omega
  subst hx
  clear hk h0 h1
  revert k
  decide +kernel

set_option maxRecDepth 65536 in
set_option maxHeartbeats 40000000 in
theorem sat_nc (l : Launch) (Z : State) (a0 : Array Value) (hw : ∀ d ∈ tables_1, d.before a0 Z = true) (x0 : Int32) (h0 : Heap) (n0 : Nat)  :
    Sat l Z (⟨"com/example/cardinality/cardinality/XmlCharacters", "isNcNameStartChar", "(I)Z"⟩ : MethodName) prog_270_method_5_code 1 (some .boolean) ({ frames := 0, cells := 0, slots := 0, locals := 0 } : Room) [.int x0] h0 n0 (RV fun r h => r = .int (bi ((97 ≤ x0.toInt ∧ x0.toInt ≤ 122) ∨ (65 ≤ x0.toInt ∧ x0.toInt ≤ 90) ∨ (95 ≤ x0.toInt ∧ x0.toInt ≤ 95) ∨ (192 ≤ x0.toInt ∧ x0.toInt ≤ 214) ∨ (216 ≤ x0.toInt ∧ x0.toInt ≤ 246) ∨ (248 ≤ x0.toInt ∧ x0.toInt ≤ 767) ∨ (880 ≤ x0.toInt ∧ x0.toInt ≤ 893) ∨ (895 ≤ x0.toInt ∧ x0.toInt ≤ 8191) ∨ (8204 ≤ x0.toInt ∧ x0.toInt ≤ 8205) ∨ (8304 ≤ x0.toInt ∧ x0.toInt ≤ 8591) ∨ (11264 ≤ x0.toInt ∧ x0.toInt ≤ 12271) ∨ (12289 ≤ x0.toInt ∧ x0.toInt ≤ 55295) ∨ (63744 ≤ x0.toInt ∧ x0.toInt ≤ 64975) ∨ (65008 ≤ x0.toInt ∧ x0.toInt ≤ 65533) ∨ (65536 ≤ x0.toInt ∧ x0.toInt ≤ 983039))) ∧ h = h0) := by
  refine sat_of (own := "com/example/cardinality/cardinality/XmlCharacters") (nm := "isNcNameStartChar") rfl rfl (plainFor_of_name pn_1) #[.val (.int x0)] (fun m => by first | rfl | (simp [entryFrame, mkF, argsToLocals, Value.category]; done)) ?_
  intro p e s m below meth c C
  have j179 : (¬ (97 ≤ x0.toInt ∧ x0.toInt ≤ 122) ∧ ¬ (65 ≤ x0.toInt ∧ x0.toInt ≤ 90) ∧ ¬ (95 ≤ x0.toInt ∧ x0.toInt ≤ 95) ∧ ¬ (192 ≤ x0.toInt ∧ x0.toInt ≤ 214) ∧ ¬ (216 ≤ x0.toInt ∧ x0.toInt ≤ 246) ∧ ¬ (248 ≤ x0.toInt ∧ x0.toInt ≤ 767) ∧ ¬ (880 ≤ x0.toInt ∧ x0.toInt ≤ 893) ∧ ¬ (895 ≤ x0.toInt ∧ x0.toInt ≤ 8191) ∧ ¬ (8204 ≤ x0.toInt ∧ x0.toInt ≤ 8205) ∧ ¬ (8304 ≤ x0.toInt ∧ x0.toInt ≤ 8591) ∧ ¬ (11264 ≤ x0.toInt ∧ x0.toInt ≤ 12271) ∧ ¬ (12289 ≤ x0.toInt ∧ x0.toInt ≤ 55295) ∧ ¬ (63744 ≤ x0.toInt ∧ x0.toInt ≤ 64975) ∧ ¬ (65008 ≤ x0.toInt ∧ x0.toInt ≤ 65533)) → Go p l e ({ frames := 0, cells := 0, slots := 0, locals := 0 } : Room) s m ([.int x0] : List Value).toArray below meth c n0 (RV fun r h => r = .int (bi ((97 ≤ x0.toInt ∧ x0.toInt ≤ 122) ∨ (65 ≤ x0.toInt ∧ x0.toInt ≤ 90) ∨ (95 ≤ x0.toInt ∧ x0.toInt ≤ 95) ∨ (192 ≤ x0.toInt ∧ x0.toInt ≤ 214) ∨ (216 ≤ x0.toInt ∧ x0.toInt ≤ 246) ∨ (248 ≤ x0.toInt ∧ x0.toInt ≤ 767) ∨ (880 ≤ x0.toInt ∧ x0.toInt ≤ 893) ∨ (895 ≤ x0.toInt ∧ x0.toInt ≤ 8191) ∨ (8204 ≤ x0.toInt ∧ x0.toInt ≤ 8205) ∨ (8304 ≤ x0.toInt ∧ x0.toInt ≤ 8591) ∨ (11264 ≤ x0.toInt ∧ x0.toInt ≤ 12271) ∨ (12289 ≤ x0.toInt ∧ x0.toInt ≤ 55295) ∨ (63744 ≤ x0.toInt ∧ x0.toInt ≤ 64975) ∨ (65008 ≤ x0.toInt ∧ x0.toInt ≤ 65533) ∨ (65536 ≤ x0.toInt ∧ x0.toInt ≤ 983039))) ∧ h = h0) ({ frames := 0, cells := 0, slots := 0, locals := 0 } : Room).cells ({ frames := 0, cells := 0, slots := 0, locals := 0 } : Room).slots h0 0 0 (mkF m 179 #[.val (.int x0)] []) := by
    intro i179
    refine go_iloadN C d1_179 (pc' := 180) rfl rfl ?_
    refine go_ldc C (v := (65536 : Int32)) (wd hw 15 rfl) d1_180 (pc' := 182) rfl ?_
    refine go_icmp C x0.toInt (65536 : Int) rfl (by decide) d1_182 (by decide) (pc' := 195) (by decide) (pcN := 185) rfl (fun (c_1 : x0.toInt < (65536 : Int)) => ?_) (fun (c_1 : ¬ x0.toInt < (65536 : Int)) => ?_)
    · skip
      refine go_iconst C (0 : Int32) d1_195 (pc' := 196) rfl (by decide) ?_
      refine go_ireturnN C (z' := (0 : Int32)) rfl (by simp) rfl d1_196 (by decide) (by decide) ?_
      exact ⟨_, rfl, congrArg Value.int (bi0 (by omega)), rfl⟩
    · skip
      refine go_iloadN C d1_185 (pc' := 186) rfl rfl ?_
      refine go_ldc C (v := (983039 : Int32)) (wd hw 26 rfl) d1_186 (pc' := 188) rfl ?_
      refine go_icmp C x0.toInt (983039 : Int) rfl (by decide) d1_188 (by decide) (pc' := 195) (by decide) (pcN := 191) rfl (fun (c_2 : (983039 : Int) < x0.toInt) => ?_) (fun (c_2 : ¬ (983039 : Int) < x0.toInt) => ?_)
      · skip
        refine go_iconst C (0 : Int32) d1_195 (pc' := 196) rfl (by decide) ?_
        refine go_ireturnN C (z' := (0 : Int32)) rfl (by simp) rfl d1_196 (by decide) (by decide) ?_
        exact ⟨_, rfl, congrArg Value.int (bi0 (by omega)), rfl⟩
      · skip
        refine go_iconst C (1 : Int32) d1_191 (pc' := 192) rfl (by decide) ?_
        refine go_goto C d1_192 (by decide) (pc' := 196) (by decide) ?_
        refine go_ireturnN C (z' := (1 : Int32)) rfl (by simp) rfl d1_196 (by decide) (by decide) ?_
        exact ⟨_, rfl, congrArg Value.int (bi1 (by omega)), rfl⟩
  have j167 : (¬ (97 ≤ x0.toInt ∧ x0.toInt ≤ 122) ∧ ¬ (65 ≤ x0.toInt ∧ x0.toInt ≤ 90) ∧ ¬ (95 ≤ x0.toInt ∧ x0.toInt ≤ 95) ∧ ¬ (192 ≤ x0.toInt ∧ x0.toInt ≤ 214) ∧ ¬ (216 ≤ x0.toInt ∧ x0.toInt ≤ 246) ∧ ¬ (248 ≤ x0.toInt ∧ x0.toInt ≤ 767) ∧ ¬ (880 ≤ x0.toInt ∧ x0.toInt ≤ 893) ∧ ¬ (895 ≤ x0.toInt ∧ x0.toInt ≤ 8191) ∧ ¬ (8204 ≤ x0.toInt ∧ x0.toInt ≤ 8205) ∧ ¬ (8304 ≤ x0.toInt ∧ x0.toInt ≤ 8591) ∧ ¬ (11264 ≤ x0.toInt ∧ x0.toInt ≤ 12271) ∧ ¬ (12289 ≤ x0.toInt ∧ x0.toInt ≤ 55295) ∧ ¬ (63744 ≤ x0.toInt ∧ x0.toInt ≤ 64975)) → Go p l e ({ frames := 0, cells := 0, slots := 0, locals := 0 } : Room) s m ([.int x0] : List Value).toArray below meth c n0 (RV fun r h => r = .int (bi ((97 ≤ x0.toInt ∧ x0.toInt ≤ 122) ∨ (65 ≤ x0.toInt ∧ x0.toInt ≤ 90) ∨ (95 ≤ x0.toInt ∧ x0.toInt ≤ 95) ∨ (192 ≤ x0.toInt ∧ x0.toInt ≤ 214) ∨ (216 ≤ x0.toInt ∧ x0.toInt ≤ 246) ∨ (248 ≤ x0.toInt ∧ x0.toInt ≤ 767) ∨ (880 ≤ x0.toInt ∧ x0.toInt ≤ 893) ∨ (895 ≤ x0.toInt ∧ x0.toInt ≤ 8191) ∨ (8204 ≤ x0.toInt ∧ x0.toInt ≤ 8205) ∨ (8304 ≤ x0.toInt ∧ x0.toInt ≤ 8591) ∨ (11264 ≤ x0.toInt ∧ x0.toInt ≤ 12271) ∨ (12289 ≤ x0.toInt ∧ x0.toInt ≤ 55295) ∨ (63744 ≤ x0.toInt ∧ x0.toInt ≤ 64975) ∨ (65008 ≤ x0.toInt ∧ x0.toInt ≤ 65533) ∨ (65536 ≤ x0.toInt ∧ x0.toInt ≤ 983039))) ∧ h = h0) ({ frames := 0, cells := 0, slots := 0, locals := 0 } : Room).cells ({ frames := 0, cells := 0, slots := 0, locals := 0 } : Room).slots h0 0 0 (mkF m 167 #[.val (.int x0)] []) := by
    intro i167
    refine go_iloadN C d1_167 (pc' := 168) rfl rfl ?_
    refine go_ldc C (v := (65008 : Int32)) (wd hw 14 rfl) d1_168 (pc' := 170) rfl ?_
    refine go_icmp C x0.toInt (65008 : Int) rfl (by decide) d1_170 (by decide) (pc' := 179) (by decide) (pcN := 173) rfl (fun (c_3 : x0.toInt < (65008 : Int)) => ?_) (fun (c_3 : ¬ x0.toInt < (65008 : Int)) => ?_)
    · skip
      exact j179 (by omega)
    · skip
      refine go_iloadN C d1_173 (pc' := 174) rfl rfl ?_
      refine go_ldc C (v := (65533 : Int32)) (wd hw 25 rfl) d1_174 (pc' := 176) rfl ?_
      refine go_icmp C x0.toInt (65533 : Int) rfl (by decide) d1_176 (by decide) (pc' := 191) (by decide) (pcN := 179) rfl (fun (c_4 : ¬ (65533 : Int) < x0.toInt) => ?_) (fun (c_4 : (65533 : Int) < x0.toInt) => ?_)
      · skip
        refine go_iconst C (1 : Int32) d1_191 (pc' := 192) rfl (by decide) ?_
        refine go_goto C d1_192 (by decide) (pc' := 196) (by decide) ?_
        refine go_ireturnN C (z' := (1 : Int32)) rfl (by simp) rfl d1_196 (by decide) (by decide) ?_
        exact ⟨_, rfl, congrArg Value.int (bi1 (by omega)), rfl⟩
      · skip
        exact j179 (by omega)
  have j155 : (¬ (97 ≤ x0.toInt ∧ x0.toInt ≤ 122) ∧ ¬ (65 ≤ x0.toInt ∧ x0.toInt ≤ 90) ∧ ¬ (95 ≤ x0.toInt ∧ x0.toInt ≤ 95) ∧ ¬ (192 ≤ x0.toInt ∧ x0.toInt ≤ 214) ∧ ¬ (216 ≤ x0.toInt ∧ x0.toInt ≤ 246) ∧ ¬ (248 ≤ x0.toInt ∧ x0.toInt ≤ 767) ∧ ¬ (880 ≤ x0.toInt ∧ x0.toInt ≤ 893) ∧ ¬ (895 ≤ x0.toInt ∧ x0.toInt ≤ 8191) ∧ ¬ (8204 ≤ x0.toInt ∧ x0.toInt ≤ 8205) ∧ ¬ (8304 ≤ x0.toInt ∧ x0.toInt ≤ 8591) ∧ ¬ (11264 ≤ x0.toInt ∧ x0.toInt ≤ 12271) ∧ ¬ (12289 ≤ x0.toInt ∧ x0.toInt ≤ 55295)) → Go p l e ({ frames := 0, cells := 0, slots := 0, locals := 0 } : Room) s m ([.int x0] : List Value).toArray below meth c n0 (RV fun r h => r = .int (bi ((97 ≤ x0.toInt ∧ x0.toInt ≤ 122) ∨ (65 ≤ x0.toInt ∧ x0.toInt ≤ 90) ∨ (95 ≤ x0.toInt ∧ x0.toInt ≤ 95) ∨ (192 ≤ x0.toInt ∧ x0.toInt ≤ 214) ∨ (216 ≤ x0.toInt ∧ x0.toInt ≤ 246) ∨ (248 ≤ x0.toInt ∧ x0.toInt ≤ 767) ∨ (880 ≤ x0.toInt ∧ x0.toInt ≤ 893) ∨ (895 ≤ x0.toInt ∧ x0.toInt ≤ 8191) ∨ (8204 ≤ x0.toInt ∧ x0.toInt ≤ 8205) ∨ (8304 ≤ x0.toInt ∧ x0.toInt ≤ 8591) ∨ (11264 ≤ x0.toInt ∧ x0.toInt ≤ 12271) ∨ (12289 ≤ x0.toInt ∧ x0.toInt ≤ 55295) ∨ (63744 ≤ x0.toInt ∧ x0.toInt ≤ 64975) ∨ (65008 ≤ x0.toInt ∧ x0.toInt ≤ 65533) ∨ (65536 ≤ x0.toInt ∧ x0.toInt ≤ 983039))) ∧ h = h0) ({ frames := 0, cells := 0, slots := 0, locals := 0 } : Room).cells ({ frames := 0, cells := 0, slots := 0, locals := 0 } : Room).slots h0 0 0 (mkF m 155 #[.val (.int x0)] []) := by
    intro i155
    refine go_iloadN C d1_155 (pc' := 156) rfl rfl ?_
    refine go_ldc C (v := (63744 : Int32)) (wd hw 13 rfl) d1_156 (pc' := 158) rfl ?_
    refine go_icmp C x0.toInt (63744 : Int) rfl (by decide) d1_158 (by decide) (pc' := 167) (by decide) (pcN := 161) rfl (fun (c_5 : x0.toInt < (63744 : Int)) => ?_) (fun (c_5 : ¬ x0.toInt < (63744 : Int)) => ?_)
    · skip
      exact j167 (by omega)
    · skip
      refine go_iloadN C d1_161 (pc' := 162) rfl rfl ?_
      refine go_ldc C (v := (64975 : Int32)) (wd hw 24 rfl) d1_162 (pc' := 164) rfl ?_
      refine go_icmp C x0.toInt (64975 : Int) rfl (by decide) d1_164 (by decide) (pc' := 191) (by decide) (pcN := 167) rfl (fun (c_6 : ¬ (64975 : Int) < x0.toInt) => ?_) (fun (c_6 : (64975 : Int) < x0.toInt) => ?_)
      · skip
        refine go_iconst C (1 : Int32) d1_191 (pc' := 192) rfl (by decide) ?_
        refine go_goto C d1_192 (by decide) (pc' := 196) (by decide) ?_
        refine go_ireturnN C (z' := (1 : Int32)) rfl (by simp) rfl d1_196 (by decide) (by decide) ?_
        exact ⟨_, rfl, congrArg Value.int (bi1 (by omega)), rfl⟩
      · skip
        exact j167 (by omega)
  have j142 : (¬ (97 ≤ x0.toInt ∧ x0.toInt ≤ 122) ∧ ¬ (65 ≤ x0.toInt ∧ x0.toInt ≤ 90) ∧ ¬ (95 ≤ x0.toInt ∧ x0.toInt ≤ 95) ∧ ¬ (192 ≤ x0.toInt ∧ x0.toInt ≤ 214) ∧ ¬ (216 ≤ x0.toInt ∧ x0.toInt ≤ 246) ∧ ¬ (248 ≤ x0.toInt ∧ x0.toInt ≤ 767) ∧ ¬ (880 ≤ x0.toInt ∧ x0.toInt ≤ 893) ∧ ¬ (895 ≤ x0.toInt ∧ x0.toInt ≤ 8191) ∧ ¬ (8204 ≤ x0.toInt ∧ x0.toInt ≤ 8205) ∧ ¬ (8304 ≤ x0.toInt ∧ x0.toInt ≤ 8591) ∧ ¬ (11264 ≤ x0.toInt ∧ x0.toInt ≤ 12271)) → Go p l e ({ frames := 0, cells := 0, slots := 0, locals := 0 } : Room) s m ([.int x0] : List Value).toArray below meth c n0 (RV fun r h => r = .int (bi ((97 ≤ x0.toInt ∧ x0.toInt ≤ 122) ∨ (65 ≤ x0.toInt ∧ x0.toInt ≤ 90) ∨ (95 ≤ x0.toInt ∧ x0.toInt ≤ 95) ∨ (192 ≤ x0.toInt ∧ x0.toInt ≤ 214) ∨ (216 ≤ x0.toInt ∧ x0.toInt ≤ 246) ∨ (248 ≤ x0.toInt ∧ x0.toInt ≤ 767) ∨ (880 ≤ x0.toInt ∧ x0.toInt ≤ 893) ∨ (895 ≤ x0.toInt ∧ x0.toInt ≤ 8191) ∨ (8204 ≤ x0.toInt ∧ x0.toInt ≤ 8205) ∨ (8304 ≤ x0.toInt ∧ x0.toInt ≤ 8591) ∨ (11264 ≤ x0.toInt ∧ x0.toInt ≤ 12271) ∨ (12289 ≤ x0.toInt ∧ x0.toInt ≤ 55295) ∨ (63744 ≤ x0.toInt ∧ x0.toInt ≤ 64975) ∨ (65008 ≤ x0.toInt ∧ x0.toInt ≤ 65533) ∨ (65536 ≤ x0.toInt ∧ x0.toInt ≤ 983039))) ∧ h = h0) ({ frames := 0, cells := 0, slots := 0, locals := 0 } : Room).cells ({ frames := 0, cells := 0, slots := 0, locals := 0 } : Room).slots h0 0 0 (mkF m 142 #[.val (.int x0)] []) := by
    intro i142
    refine go_iloadN C d1_142 (pc' := 143) rfl rfl ?_
    refine go_sipush C (12289 : Int32) d1_143 (pc' := 146) rfl (by decide) ?_
    refine go_icmp C x0.toInt (12289 : Int) rfl (by decide) d1_146 (by decide) (pc' := 155) (by decide) (pcN := 149) rfl (fun (c_7 : x0.toInt < (12289 : Int)) => ?_) (fun (c_7 : ¬ x0.toInt < (12289 : Int)) => ?_)
    · skip
      exact j155 (by omega)
    · skip
      refine go_iloadN C d1_149 (pc' := 150) rfl rfl ?_
      refine go_ldc C (v := (55295 : Int32)) (wd hw 23 rfl) d1_150 (pc' := 152) rfl ?_
      refine go_icmp C x0.toInt (55295 : Int) rfl (by decide) d1_152 (by decide) (pc' := 191) (by decide) (pcN := 155) rfl (fun (c_8 : ¬ (55295 : Int) < x0.toInt) => ?_) (fun (c_8 : (55295 : Int) < x0.toInt) => ?_)
      · skip
        refine go_iconst C (1 : Int32) d1_191 (pc' := 192) rfl (by decide) ?_
        refine go_goto C d1_192 (by decide) (pc' := 196) (by decide) ?_
        refine go_ireturnN C (z' := (1 : Int32)) rfl (by simp) rfl d1_196 (by decide) (by decide) ?_
        exact ⟨_, rfl, congrArg Value.int (bi1 (by omega)), rfl⟩
      · skip
        exact j155 (by omega)
  have j128 : (¬ (97 ≤ x0.toInt ∧ x0.toInt ≤ 122) ∧ ¬ (65 ≤ x0.toInt ∧ x0.toInt ≤ 90) ∧ ¬ (95 ≤ x0.toInt ∧ x0.toInt ≤ 95) ∧ ¬ (192 ≤ x0.toInt ∧ x0.toInt ≤ 214) ∧ ¬ (216 ≤ x0.toInt ∧ x0.toInt ≤ 246) ∧ ¬ (248 ≤ x0.toInt ∧ x0.toInt ≤ 767) ∧ ¬ (880 ≤ x0.toInt ∧ x0.toInt ≤ 893) ∧ ¬ (895 ≤ x0.toInt ∧ x0.toInt ≤ 8191) ∧ ¬ (8204 ≤ x0.toInt ∧ x0.toInt ≤ 8205) ∧ ¬ (8304 ≤ x0.toInt ∧ x0.toInt ≤ 8591)) → Go p l e ({ frames := 0, cells := 0, slots := 0, locals := 0 } : Room) s m ([.int x0] : List Value).toArray below meth c n0 (RV fun r h => r = .int (bi ((97 ≤ x0.toInt ∧ x0.toInt ≤ 122) ∨ (65 ≤ x0.toInt ∧ x0.toInt ≤ 90) ∨ (95 ≤ x0.toInt ∧ x0.toInt ≤ 95) ∨ (192 ≤ x0.toInt ∧ x0.toInt ≤ 214) ∨ (216 ≤ x0.toInt ∧ x0.toInt ≤ 246) ∨ (248 ≤ x0.toInt ∧ x0.toInt ≤ 767) ∨ (880 ≤ x0.toInt ∧ x0.toInt ≤ 893) ∨ (895 ≤ x0.toInt ∧ x0.toInt ≤ 8191) ∨ (8204 ≤ x0.toInt ∧ x0.toInt ≤ 8205) ∨ (8304 ≤ x0.toInt ∧ x0.toInt ≤ 8591) ∨ (11264 ≤ x0.toInt ∧ x0.toInt ≤ 12271) ∨ (12289 ≤ x0.toInt ∧ x0.toInt ≤ 55295) ∨ (63744 ≤ x0.toInt ∧ x0.toInt ≤ 64975) ∨ (65008 ≤ x0.toInt ∧ x0.toInt ≤ 65533) ∨ (65536 ≤ x0.toInt ∧ x0.toInt ≤ 983039))) ∧ h = h0) ({ frames := 0, cells := 0, slots := 0, locals := 0 } : Room).cells ({ frames := 0, cells := 0, slots := 0, locals := 0 } : Room).slots h0 0 0 (mkF m 128 #[.val (.int x0)] []) := by
    intro i128
    refine go_iloadN C d1_128 (pc' := 129) rfl rfl ?_
    refine go_sipush C (11264 : Int32) d1_129 (pc' := 132) rfl (by decide) ?_
    refine go_icmp C x0.toInt (11264 : Int) rfl (by decide) d1_132 (by decide) (pc' := 142) (by decide) (pcN := 135) rfl (fun (c_9 : x0.toInt < (11264 : Int)) => ?_) (fun (c_9 : ¬ x0.toInt < (11264 : Int)) => ?_)
    · skip
      exact j142 (by omega)
    · skip
      refine go_iloadN C d1_135 (pc' := 136) rfl rfl ?_
      refine go_sipush C (12271 : Int32) d1_136 (pc' := 139) rfl (by decide) ?_
      refine go_icmp C x0.toInt (12271 : Int) rfl (by decide) d1_139 (by decide) (pc' := 191) (by decide) (pcN := 142) rfl (fun (c_10 : ¬ (12271 : Int) < x0.toInt) => ?_) (fun (c_10 : (12271 : Int) < x0.toInt) => ?_)
      · skip
        refine go_iconst C (1 : Int32) d1_191 (pc' := 192) rfl (by decide) ?_
        refine go_goto C d1_192 (by decide) (pc' := 196) (by decide) ?_
        refine go_ireturnN C (z' := (1 : Int32)) rfl (by simp) rfl d1_196 (by decide) (by decide) ?_
        exact ⟨_, rfl, congrArg Value.int (bi1 (by omega)), rfl⟩
      · skip
        exact j142 (by omega)
  have j114 : (¬ (97 ≤ x0.toInt ∧ x0.toInt ≤ 122) ∧ ¬ (65 ≤ x0.toInt ∧ x0.toInt ≤ 90) ∧ ¬ (95 ≤ x0.toInt ∧ x0.toInt ≤ 95) ∧ ¬ (192 ≤ x0.toInt ∧ x0.toInt ≤ 214) ∧ ¬ (216 ≤ x0.toInt ∧ x0.toInt ≤ 246) ∧ ¬ (248 ≤ x0.toInt ∧ x0.toInt ≤ 767) ∧ ¬ (880 ≤ x0.toInt ∧ x0.toInt ≤ 893) ∧ ¬ (895 ≤ x0.toInt ∧ x0.toInt ≤ 8191) ∧ ¬ (8204 ≤ x0.toInt ∧ x0.toInt ≤ 8205)) → Go p l e ({ frames := 0, cells := 0, slots := 0, locals := 0 } : Room) s m ([.int x0] : List Value).toArray below meth c n0 (RV fun r h => r = .int (bi ((97 ≤ x0.toInt ∧ x0.toInt ≤ 122) ∨ (65 ≤ x0.toInt ∧ x0.toInt ≤ 90) ∨ (95 ≤ x0.toInt ∧ x0.toInt ≤ 95) ∨ (192 ≤ x0.toInt ∧ x0.toInt ≤ 214) ∨ (216 ≤ x0.toInt ∧ x0.toInt ≤ 246) ∨ (248 ≤ x0.toInt ∧ x0.toInt ≤ 767) ∨ (880 ≤ x0.toInt ∧ x0.toInt ≤ 893) ∨ (895 ≤ x0.toInt ∧ x0.toInt ≤ 8191) ∨ (8204 ≤ x0.toInt ∧ x0.toInt ≤ 8205) ∨ (8304 ≤ x0.toInt ∧ x0.toInt ≤ 8591) ∨ (11264 ≤ x0.toInt ∧ x0.toInt ≤ 12271) ∨ (12289 ≤ x0.toInt ∧ x0.toInt ≤ 55295) ∨ (63744 ≤ x0.toInt ∧ x0.toInt ≤ 64975) ∨ (65008 ≤ x0.toInt ∧ x0.toInt ≤ 65533) ∨ (65536 ≤ x0.toInt ∧ x0.toInt ≤ 983039))) ∧ h = h0) ({ frames := 0, cells := 0, slots := 0, locals := 0 } : Room).cells ({ frames := 0, cells := 0, slots := 0, locals := 0 } : Room).slots h0 0 0 (mkF m 114 #[.val (.int x0)] []) := by
    intro i114
    refine go_iloadN C d1_114 (pc' := 115) rfl rfl ?_
    refine go_sipush C (8304 : Int32) d1_115 (pc' := 118) rfl (by decide) ?_
    refine go_icmp C x0.toInt (8304 : Int) rfl (by decide) d1_118 (by decide) (pc' := 128) (by decide) (pcN := 121) rfl (fun (c_11 : x0.toInt < (8304 : Int)) => ?_) (fun (c_11 : ¬ x0.toInt < (8304 : Int)) => ?_)
    · skip
      exact j128 (by omega)
    · skip
      refine go_iloadN C d1_121 (pc' := 122) rfl rfl ?_
      refine go_sipush C (8591 : Int32) d1_122 (pc' := 125) rfl (by decide) ?_
      refine go_icmp C x0.toInt (8591 : Int) rfl (by decide) d1_125 (by decide) (pc' := 191) (by decide) (pcN := 128) rfl (fun (c_12 : ¬ (8591 : Int) < x0.toInt) => ?_) (fun (c_12 : (8591 : Int) < x0.toInt) => ?_)
      · skip
        refine go_iconst C (1 : Int32) d1_191 (pc' := 192) rfl (by decide) ?_
        refine go_goto C d1_192 (by decide) (pc' := 196) (by decide) ?_
        refine go_ireturnN C (z' := (1 : Int32)) rfl (by simp) rfl d1_196 (by decide) (by decide) ?_
        exact ⟨_, rfl, congrArg Value.int (bi1 (by omega)), rfl⟩
      · skip
        exact j128 (by omega)
  have j100 : (¬ (97 ≤ x0.toInt ∧ x0.toInt ≤ 122) ∧ ¬ (65 ≤ x0.toInt ∧ x0.toInt ≤ 90) ∧ ¬ (95 ≤ x0.toInt ∧ x0.toInt ≤ 95) ∧ ¬ (192 ≤ x0.toInt ∧ x0.toInt ≤ 214) ∧ ¬ (216 ≤ x0.toInt ∧ x0.toInt ≤ 246) ∧ ¬ (248 ≤ x0.toInt ∧ x0.toInt ≤ 767) ∧ ¬ (880 ≤ x0.toInt ∧ x0.toInt ≤ 893) ∧ ¬ (895 ≤ x0.toInt ∧ x0.toInt ≤ 8191)) → Go p l e ({ frames := 0, cells := 0, slots := 0, locals := 0 } : Room) s m ([.int x0] : List Value).toArray below meth c n0 (RV fun r h => r = .int (bi ((97 ≤ x0.toInt ∧ x0.toInt ≤ 122) ∨ (65 ≤ x0.toInt ∧ x0.toInt ≤ 90) ∨ (95 ≤ x0.toInt ∧ x0.toInt ≤ 95) ∨ (192 ≤ x0.toInt ∧ x0.toInt ≤ 214) ∨ (216 ≤ x0.toInt ∧ x0.toInt ≤ 246) ∨ (248 ≤ x0.toInt ∧ x0.toInt ≤ 767) ∨ (880 ≤ x0.toInt ∧ x0.toInt ≤ 893) ∨ (895 ≤ x0.toInt ∧ x0.toInt ≤ 8191) ∨ (8204 ≤ x0.toInt ∧ x0.toInt ≤ 8205) ∨ (8304 ≤ x0.toInt ∧ x0.toInt ≤ 8591) ∨ (11264 ≤ x0.toInt ∧ x0.toInt ≤ 12271) ∨ (12289 ≤ x0.toInt ∧ x0.toInt ≤ 55295) ∨ (63744 ≤ x0.toInt ∧ x0.toInt ≤ 64975) ∨ (65008 ≤ x0.toInt ∧ x0.toInt ≤ 65533) ∨ (65536 ≤ x0.toInt ∧ x0.toInt ≤ 983039))) ∧ h = h0) ({ frames := 0, cells := 0, slots := 0, locals := 0 } : Room).cells ({ frames := 0, cells := 0, slots := 0, locals := 0 } : Room).slots h0 0 0 (mkF m 100 #[.val (.int x0)] []) := by
    intro i100
    refine go_iloadN C d1_100 (pc' := 101) rfl rfl ?_
    refine go_sipush C (8204 : Int32) d1_101 (pc' := 104) rfl (by decide) ?_
    refine go_icmp C x0.toInt (8204 : Int) rfl (by decide) d1_104 (by decide) (pc' := 114) (by decide) (pcN := 107) rfl (fun (c_13 : x0.toInt < (8204 : Int)) => ?_) (fun (c_13 : ¬ x0.toInt < (8204 : Int)) => ?_)
    · skip
      exact j114 (by omega)
    · skip
      refine go_iloadN C d1_107 (pc' := 108) rfl rfl ?_
      refine go_sipush C (8205 : Int32) d1_108 (pc' := 111) rfl (by decide) ?_
      refine go_icmp C x0.toInt (8205 : Int) rfl (by decide) d1_111 (by decide) (pc' := 191) (by decide) (pcN := 114) rfl (fun (c_14 : ¬ (8205 : Int) < x0.toInt) => ?_) (fun (c_14 : (8205 : Int) < x0.toInt) => ?_)
      · skip
        refine go_iconst C (1 : Int32) d1_191 (pc' := 192) rfl (by decide) ?_
        refine go_goto C d1_192 (by decide) (pc' := 196) (by decide) ?_
        refine go_ireturnN C (z' := (1 : Int32)) rfl (by simp) rfl d1_196 (by decide) (by decide) ?_
        exact ⟨_, rfl, congrArg Value.int (bi1 (by omega)), rfl⟩
      · skip
        exact j114 (by omega)
  have j86 : (¬ (97 ≤ x0.toInt ∧ x0.toInt ≤ 122) ∧ ¬ (65 ≤ x0.toInt ∧ x0.toInt ≤ 90) ∧ ¬ (95 ≤ x0.toInt ∧ x0.toInt ≤ 95) ∧ ¬ (192 ≤ x0.toInt ∧ x0.toInt ≤ 214) ∧ ¬ (216 ≤ x0.toInt ∧ x0.toInt ≤ 246) ∧ ¬ (248 ≤ x0.toInt ∧ x0.toInt ≤ 767) ∧ ¬ (880 ≤ x0.toInt ∧ x0.toInt ≤ 893)) → Go p l e ({ frames := 0, cells := 0, slots := 0, locals := 0 } : Room) s m ([.int x0] : List Value).toArray below meth c n0 (RV fun r h => r = .int (bi ((97 ≤ x0.toInt ∧ x0.toInt ≤ 122) ∨ (65 ≤ x0.toInt ∧ x0.toInt ≤ 90) ∨ (95 ≤ x0.toInt ∧ x0.toInt ≤ 95) ∨ (192 ≤ x0.toInt ∧ x0.toInt ≤ 214) ∨ (216 ≤ x0.toInt ∧ x0.toInt ≤ 246) ∨ (248 ≤ x0.toInt ∧ x0.toInt ≤ 767) ∨ (880 ≤ x0.toInt ∧ x0.toInt ≤ 893) ∨ (895 ≤ x0.toInt ∧ x0.toInt ≤ 8191) ∨ (8204 ≤ x0.toInt ∧ x0.toInt ≤ 8205) ∨ (8304 ≤ x0.toInt ∧ x0.toInt ≤ 8591) ∨ (11264 ≤ x0.toInt ∧ x0.toInt ≤ 12271) ∨ (12289 ≤ x0.toInt ∧ x0.toInt ≤ 55295) ∨ (63744 ≤ x0.toInt ∧ x0.toInt ≤ 64975) ∨ (65008 ≤ x0.toInt ∧ x0.toInt ≤ 65533) ∨ (65536 ≤ x0.toInt ∧ x0.toInt ≤ 983039))) ∧ h = h0) ({ frames := 0, cells := 0, slots := 0, locals := 0 } : Room).cells ({ frames := 0, cells := 0, slots := 0, locals := 0 } : Room).slots h0 0 0 (mkF m 86 #[.val (.int x0)] []) := by
    intro i86
    refine go_iloadN C d1_86 (pc' := 87) rfl rfl ?_
    refine go_sipush C (895 : Int32) d1_87 (pc' := 90) rfl (by decide) ?_
    refine go_icmp C x0.toInt (895 : Int) rfl (by decide) d1_90 (by decide) (pc' := 100) (by decide) (pcN := 93) rfl (fun (c_15 : x0.toInt < (895 : Int)) => ?_) (fun (c_15 : ¬ x0.toInt < (895 : Int)) => ?_)
    · skip
      exact j100 (by omega)
    · skip
      refine go_iloadN C d1_93 (pc' := 94) rfl rfl ?_
      refine go_sipush C (8191 : Int32) d1_94 (pc' := 97) rfl (by decide) ?_
      refine go_icmp C x0.toInt (8191 : Int) rfl (by decide) d1_97 (by decide) (pc' := 191) (by decide) (pcN := 100) rfl (fun (c_16 : ¬ (8191 : Int) < x0.toInt) => ?_) (fun (c_16 : (8191 : Int) < x0.toInt) => ?_)
      · skip
        refine go_iconst C (1 : Int32) d1_191 (pc' := 192) rfl (by decide) ?_
        refine go_goto C d1_192 (by decide) (pc' := 196) (by decide) ?_
        refine go_ireturnN C (z' := (1 : Int32)) rfl (by simp) rfl d1_196 (by decide) (by decide) ?_
        exact ⟨_, rfl, congrArg Value.int (bi1 (by omega)), rfl⟩
      · skip
        exact j100 (by omega)
  have j72 : (¬ (97 ≤ x0.toInt ∧ x0.toInt ≤ 122) ∧ ¬ (65 ≤ x0.toInt ∧ x0.toInt ≤ 90) ∧ ¬ (95 ≤ x0.toInt ∧ x0.toInt ≤ 95) ∧ ¬ (192 ≤ x0.toInt ∧ x0.toInt ≤ 214) ∧ ¬ (216 ≤ x0.toInt ∧ x0.toInt ≤ 246) ∧ ¬ (248 ≤ x0.toInt ∧ x0.toInt ≤ 767)) → Go p l e ({ frames := 0, cells := 0, slots := 0, locals := 0 } : Room) s m ([.int x0] : List Value).toArray below meth c n0 (RV fun r h => r = .int (bi ((97 ≤ x0.toInt ∧ x0.toInt ≤ 122) ∨ (65 ≤ x0.toInt ∧ x0.toInt ≤ 90) ∨ (95 ≤ x0.toInt ∧ x0.toInt ≤ 95) ∨ (192 ≤ x0.toInt ∧ x0.toInt ≤ 214) ∨ (216 ≤ x0.toInt ∧ x0.toInt ≤ 246) ∨ (248 ≤ x0.toInt ∧ x0.toInt ≤ 767) ∨ (880 ≤ x0.toInt ∧ x0.toInt ≤ 893) ∨ (895 ≤ x0.toInt ∧ x0.toInt ≤ 8191) ∨ (8204 ≤ x0.toInt ∧ x0.toInt ≤ 8205) ∨ (8304 ≤ x0.toInt ∧ x0.toInt ≤ 8591) ∨ (11264 ≤ x0.toInt ∧ x0.toInt ≤ 12271) ∨ (12289 ≤ x0.toInt ∧ x0.toInt ≤ 55295) ∨ (63744 ≤ x0.toInt ∧ x0.toInt ≤ 64975) ∨ (65008 ≤ x0.toInt ∧ x0.toInt ≤ 65533) ∨ (65536 ≤ x0.toInt ∧ x0.toInt ≤ 983039))) ∧ h = h0) ({ frames := 0, cells := 0, slots := 0, locals := 0 } : Room).cells ({ frames := 0, cells := 0, slots := 0, locals := 0 } : Room).slots h0 0 0 (mkF m 72 #[.val (.int x0)] []) := by
    intro i72
    refine go_iloadN C d1_72 (pc' := 73) rfl rfl ?_
    refine go_sipush C (880 : Int32) d1_73 (pc' := 76) rfl (by decide) ?_
    refine go_icmp C x0.toInt (880 : Int) rfl (by decide) d1_76 (by decide) (pc' := 86) (by decide) (pcN := 79) rfl (fun (c_17 : x0.toInt < (880 : Int)) => ?_) (fun (c_17 : ¬ x0.toInt < (880 : Int)) => ?_)
    · skip
      exact j86 (by omega)
    · skip
      refine go_iloadN C d1_79 (pc' := 80) rfl rfl ?_
      refine go_sipush C (893 : Int32) d1_80 (pc' := 83) rfl (by decide) ?_
      refine go_icmp C x0.toInt (893 : Int) rfl (by decide) d1_83 (by decide) (pc' := 191) (by decide) (pcN := 86) rfl (fun (c_18 : ¬ (893 : Int) < x0.toInt) => ?_) (fun (c_18 : (893 : Int) < x0.toInt) => ?_)
      · skip
        refine go_iconst C (1 : Int32) d1_191 (pc' := 192) rfl (by decide) ?_
        refine go_goto C d1_192 (by decide) (pc' := 196) (by decide) ?_
        refine go_ireturnN C (z' := (1 : Int32)) rfl (by simp) rfl d1_196 (by decide) (by decide) ?_
        exact ⟨_, rfl, congrArg Value.int (bi1 (by omega)), rfl⟩
      · skip
        exact j86 (by omega)
  have j58 : (¬ (97 ≤ x0.toInt ∧ x0.toInt ≤ 122) ∧ ¬ (65 ≤ x0.toInt ∧ x0.toInt ≤ 90) ∧ ¬ (95 ≤ x0.toInt ∧ x0.toInt ≤ 95) ∧ ¬ (192 ≤ x0.toInt ∧ x0.toInt ≤ 214) ∧ ¬ (216 ≤ x0.toInt ∧ x0.toInt ≤ 246)) → Go p l e ({ frames := 0, cells := 0, slots := 0, locals := 0 } : Room) s m ([.int x0] : List Value).toArray below meth c n0 (RV fun r h => r = .int (bi ((97 ≤ x0.toInt ∧ x0.toInt ≤ 122) ∨ (65 ≤ x0.toInt ∧ x0.toInt ≤ 90) ∨ (95 ≤ x0.toInt ∧ x0.toInt ≤ 95) ∨ (192 ≤ x0.toInt ∧ x0.toInt ≤ 214) ∨ (216 ≤ x0.toInt ∧ x0.toInt ≤ 246) ∨ (248 ≤ x0.toInt ∧ x0.toInt ≤ 767) ∨ (880 ≤ x0.toInt ∧ x0.toInt ≤ 893) ∨ (895 ≤ x0.toInt ∧ x0.toInt ≤ 8191) ∨ (8204 ≤ x0.toInt ∧ x0.toInt ≤ 8205) ∨ (8304 ≤ x0.toInt ∧ x0.toInt ≤ 8591) ∨ (11264 ≤ x0.toInt ∧ x0.toInt ≤ 12271) ∨ (12289 ≤ x0.toInt ∧ x0.toInt ≤ 55295) ∨ (63744 ≤ x0.toInt ∧ x0.toInt ≤ 64975) ∨ (65008 ≤ x0.toInt ∧ x0.toInt ≤ 65533) ∨ (65536 ≤ x0.toInt ∧ x0.toInt ≤ 983039))) ∧ h = h0) ({ frames := 0, cells := 0, slots := 0, locals := 0 } : Room).cells ({ frames := 0, cells := 0, slots := 0, locals := 0 } : Room).slots h0 0 0 (mkF m 58 #[.val (.int x0)] []) := by
    intro i58
    refine go_iloadN C d1_58 (pc' := 59) rfl rfl ?_
    refine go_sipush C (248 : Int32) d1_59 (pc' := 62) rfl (by decide) ?_
    refine go_icmp C x0.toInt (248 : Int) rfl (by decide) d1_62 (by decide) (pc' := 72) (by decide) (pcN := 65) rfl (fun (c_19 : x0.toInt < (248 : Int)) => ?_) (fun (c_19 : ¬ x0.toInt < (248 : Int)) => ?_)
    · skip
      exact j72 (by omega)
    · skip
      refine go_iloadN C d1_65 (pc' := 66) rfl rfl ?_
      refine go_sipush C (767 : Int32) d1_66 (pc' := 69) rfl (by decide) ?_
      refine go_icmp C x0.toInt (767 : Int) rfl (by decide) d1_69 (by decide) (pc' := 191) (by decide) (pcN := 72) rfl (fun (c_20 : ¬ (767 : Int) < x0.toInt) => ?_) (fun (c_20 : (767 : Int) < x0.toInt) => ?_)
      · skip
        refine go_iconst C (1 : Int32) d1_191 (pc' := 192) rfl (by decide) ?_
        refine go_goto C d1_192 (by decide) (pc' := 196) (by decide) ?_
        refine go_ireturnN C (z' := (1 : Int32)) rfl (by simp) rfl d1_196 (by decide) (by decide) ?_
        exact ⟨_, rfl, congrArg Value.int (bi1 (by omega)), rfl⟩
      · skip
        exact j72 (by omega)
  have j44 : (¬ (97 ≤ x0.toInt ∧ x0.toInt ≤ 122) ∧ ¬ (65 ≤ x0.toInt ∧ x0.toInt ≤ 90) ∧ ¬ (95 ≤ x0.toInt ∧ x0.toInt ≤ 95) ∧ ¬ (192 ≤ x0.toInt ∧ x0.toInt ≤ 214)) → Go p l e ({ frames := 0, cells := 0, slots := 0, locals := 0 } : Room) s m ([.int x0] : List Value).toArray below meth c n0 (RV fun r h => r = .int (bi ((97 ≤ x0.toInt ∧ x0.toInt ≤ 122) ∨ (65 ≤ x0.toInt ∧ x0.toInt ≤ 90) ∨ (95 ≤ x0.toInt ∧ x0.toInt ≤ 95) ∨ (192 ≤ x0.toInt ∧ x0.toInt ≤ 214) ∨ (216 ≤ x0.toInt ∧ x0.toInt ≤ 246) ∨ (248 ≤ x0.toInt ∧ x0.toInt ≤ 767) ∨ (880 ≤ x0.toInt ∧ x0.toInt ≤ 893) ∨ (895 ≤ x0.toInt ∧ x0.toInt ≤ 8191) ∨ (8204 ≤ x0.toInt ∧ x0.toInt ≤ 8205) ∨ (8304 ≤ x0.toInt ∧ x0.toInt ≤ 8591) ∨ (11264 ≤ x0.toInt ∧ x0.toInt ≤ 12271) ∨ (12289 ≤ x0.toInt ∧ x0.toInt ≤ 55295) ∨ (63744 ≤ x0.toInt ∧ x0.toInt ≤ 64975) ∨ (65008 ≤ x0.toInt ∧ x0.toInt ≤ 65533) ∨ (65536 ≤ x0.toInt ∧ x0.toInt ≤ 983039))) ∧ h = h0) ({ frames := 0, cells := 0, slots := 0, locals := 0 } : Room).cells ({ frames := 0, cells := 0, slots := 0, locals := 0 } : Room).slots h0 0 0 (mkF m 44 #[.val (.int x0)] []) := by
    intro i44
    refine go_iloadN C d1_44 (pc' := 45) rfl rfl ?_
    refine go_sipush C (216 : Int32) d1_45 (pc' := 48) rfl (by decide) ?_
    refine go_icmp C x0.toInt (216 : Int) rfl (by decide) d1_48 (by decide) (pc' := 58) (by decide) (pcN := 51) rfl (fun (c_21 : x0.toInt < (216 : Int)) => ?_) (fun (c_21 : ¬ x0.toInt < (216 : Int)) => ?_)
    · skip
      exact j58 (by omega)
    · skip
      refine go_iloadN C d1_51 (pc' := 52) rfl rfl ?_
      refine go_sipush C (246 : Int32) d1_52 (pc' := 55) rfl (by decide) ?_
      refine go_icmp C x0.toInt (246 : Int) rfl (by decide) d1_55 (by decide) (pc' := 191) (by decide) (pcN := 58) rfl (fun (c_22 : ¬ (246 : Int) < x0.toInt) => ?_) (fun (c_22 : (246 : Int) < x0.toInt) => ?_)
      · skip
        refine go_iconst C (1 : Int32) d1_191 (pc' := 192) rfl (by decide) ?_
        refine go_goto C d1_192 (by decide) (pc' := 196) (by decide) ?_
        refine go_ireturnN C (z' := (1 : Int32)) rfl (by simp) rfl d1_196 (by decide) (by decide) ?_
        exact ⟨_, rfl, congrArg Value.int (bi1 (by omega)), rfl⟩
      · skip
        exact j58 (by omega)
  have j30 : (¬ (97 ≤ x0.toInt ∧ x0.toInt ≤ 122) ∧ ¬ (65 ≤ x0.toInt ∧ x0.toInt ≤ 90) ∧ ¬ (95 ≤ x0.toInt ∧ x0.toInt ≤ 95)) → Go p l e ({ frames := 0, cells := 0, slots := 0, locals := 0 } : Room) s m ([.int x0] : List Value).toArray below meth c n0 (RV fun r h => r = .int (bi ((97 ≤ x0.toInt ∧ x0.toInt ≤ 122) ∨ (65 ≤ x0.toInt ∧ x0.toInt ≤ 90) ∨ (95 ≤ x0.toInt ∧ x0.toInt ≤ 95) ∨ (192 ≤ x0.toInt ∧ x0.toInt ≤ 214) ∨ (216 ≤ x0.toInt ∧ x0.toInt ≤ 246) ∨ (248 ≤ x0.toInt ∧ x0.toInt ≤ 767) ∨ (880 ≤ x0.toInt ∧ x0.toInt ≤ 893) ∨ (895 ≤ x0.toInt ∧ x0.toInt ≤ 8191) ∨ (8204 ≤ x0.toInt ∧ x0.toInt ≤ 8205) ∨ (8304 ≤ x0.toInt ∧ x0.toInt ≤ 8591) ∨ (11264 ≤ x0.toInt ∧ x0.toInt ≤ 12271) ∨ (12289 ≤ x0.toInt ∧ x0.toInt ≤ 55295) ∨ (63744 ≤ x0.toInt ∧ x0.toInt ≤ 64975) ∨ (65008 ≤ x0.toInt ∧ x0.toInt ≤ 65533) ∨ (65536 ≤ x0.toInt ∧ x0.toInt ≤ 983039))) ∧ h = h0) ({ frames := 0, cells := 0, slots := 0, locals := 0 } : Room).cells ({ frames := 0, cells := 0, slots := 0, locals := 0 } : Room).slots h0 0 0 (mkF m 30 #[.val (.int x0)] []) := by
    intro i30
    refine go_iloadN C d1_30 (pc' := 31) rfl rfl ?_
    refine go_sipush C (192 : Int32) d1_31 (pc' := 34) rfl (by decide) ?_
    refine go_icmp C x0.toInt (192 : Int) rfl (by decide) d1_34 (by decide) (pc' := 44) (by decide) (pcN := 37) rfl (fun (c_23 : x0.toInt < (192 : Int)) => ?_) (fun (c_23 : ¬ x0.toInt < (192 : Int)) => ?_)
    · skip
      exact j44 (by omega)
    · skip
      refine go_iloadN C d1_37 (pc' := 38) rfl rfl ?_
      refine go_sipush C (214 : Int32) d1_38 (pc' := 41) rfl (by decide) ?_
      refine go_icmp C x0.toInt (214 : Int) rfl (by decide) d1_41 (by decide) (pc' := 191) (by decide) (pcN := 44) rfl (fun (c_24 : ¬ (214 : Int) < x0.toInt) => ?_) (fun (c_24 : (214 : Int) < x0.toInt) => ?_)
      · skip
        refine go_iconst C (1 : Int32) d1_191 (pc' := 192) rfl (by decide) ?_
        refine go_goto C d1_192 (by decide) (pc' := 196) (by decide) ?_
        refine go_ireturnN C (z' := (1 : Int32)) rfl (by simp) rfl d1_196 (by decide) (by decide) ?_
        exact ⟨_, rfl, congrArg Value.int (bi1 (by omega)), rfl⟩
      · skip
        exact j44 (by omega)
  have j24 : (¬ (97 ≤ x0.toInt ∧ x0.toInt ≤ 122) ∧ ¬ (65 ≤ x0.toInt ∧ x0.toInt ≤ 90)) → Go p l e ({ frames := 0, cells := 0, slots := 0, locals := 0 } : Room) s m ([.int x0] : List Value).toArray below meth c n0 (RV fun r h => r = .int (bi ((97 ≤ x0.toInt ∧ x0.toInt ≤ 122) ∨ (65 ≤ x0.toInt ∧ x0.toInt ≤ 90) ∨ (95 ≤ x0.toInt ∧ x0.toInt ≤ 95) ∨ (192 ≤ x0.toInt ∧ x0.toInt ≤ 214) ∨ (216 ≤ x0.toInt ∧ x0.toInt ≤ 246) ∨ (248 ≤ x0.toInt ∧ x0.toInt ≤ 767) ∨ (880 ≤ x0.toInt ∧ x0.toInt ≤ 893) ∨ (895 ≤ x0.toInt ∧ x0.toInt ≤ 8191) ∨ (8204 ≤ x0.toInt ∧ x0.toInt ≤ 8205) ∨ (8304 ≤ x0.toInt ∧ x0.toInt ≤ 8591) ∨ (11264 ≤ x0.toInt ∧ x0.toInt ≤ 12271) ∨ (12289 ≤ x0.toInt ∧ x0.toInt ≤ 55295) ∨ (63744 ≤ x0.toInt ∧ x0.toInt ≤ 64975) ∨ (65008 ≤ x0.toInt ∧ x0.toInt ≤ 65533) ∨ (65536 ≤ x0.toInt ∧ x0.toInt ≤ 983039))) ∧ h = h0) ({ frames := 0, cells := 0, slots := 0, locals := 0 } : Room).cells ({ frames := 0, cells := 0, slots := 0, locals := 0 } : Room).slots h0 0 0 (mkF m 24 #[.val (.int x0)] []) := by
    intro i24
    refine go_iloadN C d1_24 (pc' := 25) rfl rfl ?_
    refine go_bipush C (95 : Int32) d1_25 (pc' := 27) rfl (by decide) ?_
    refine go_icmp C x0.toInt (95 : Int) rfl (by decide) d1_27 (by decide) (pc' := 191) (by decide) (pcN := 30) rfl (fun (c_25 : x0.toInt = (95 : Int)) => ?_) (fun (c_25 : ¬ x0.toInt = (95 : Int)) => ?_)
    · skip
      refine go_iconst C (1 : Int32) d1_191 (pc' := 192) rfl (by decide) ?_
      refine go_goto C d1_192 (by decide) (pc' := 196) (by decide) ?_
      refine go_ireturnN C (z' := (1 : Int32)) rfl (by simp) rfl d1_196 (by decide) (by decide) ?_
      exact ⟨_, rfl, congrArg Value.int (bi1 (by omega)), rfl⟩
    · skip
      exact j30 (by omega)
  have j12 : (¬ (97 ≤ x0.toInt ∧ x0.toInt ≤ 122)) → Go p l e ({ frames := 0, cells := 0, slots := 0, locals := 0 } : Room) s m ([.int x0] : List Value).toArray below meth c n0 (RV fun r h => r = .int (bi ((97 ≤ x0.toInt ∧ x0.toInt ≤ 122) ∨ (65 ≤ x0.toInt ∧ x0.toInt ≤ 90) ∨ (95 ≤ x0.toInt ∧ x0.toInt ≤ 95) ∨ (192 ≤ x0.toInt ∧ x0.toInt ≤ 214) ∨ (216 ≤ x0.toInt ∧ x0.toInt ≤ 246) ∨ (248 ≤ x0.toInt ∧ x0.toInt ≤ 767) ∨ (880 ≤ x0.toInt ∧ x0.toInt ≤ 893) ∨ (895 ≤ x0.toInt ∧ x0.toInt ≤ 8191) ∨ (8204 ≤ x0.toInt ∧ x0.toInt ≤ 8205) ∨ (8304 ≤ x0.toInt ∧ x0.toInt ≤ 8591) ∨ (11264 ≤ x0.toInt ∧ x0.toInt ≤ 12271) ∨ (12289 ≤ x0.toInt ∧ x0.toInt ≤ 55295) ∨ (63744 ≤ x0.toInt ∧ x0.toInt ≤ 64975) ∨ (65008 ≤ x0.toInt ∧ x0.toInt ≤ 65533) ∨ (65536 ≤ x0.toInt ∧ x0.toInt ≤ 983039))) ∧ h = h0) ({ frames := 0, cells := 0, slots := 0, locals := 0 } : Room).cells ({ frames := 0, cells := 0, slots := 0, locals := 0 } : Room).slots h0 0 0 (mkF m 12 #[.val (.int x0)] []) := by
    intro i12
    refine go_iloadN C d1_12 (pc' := 13) rfl rfl ?_
    refine go_bipush C (65 : Int32) d1_13 (pc' := 15) rfl (by decide) ?_
    refine go_icmp C x0.toInt (65 : Int) rfl (by decide) d1_15 (by decide) (pc' := 24) (by decide) (pcN := 18) rfl (fun (c_26 : x0.toInt < (65 : Int)) => ?_) (fun (c_26 : ¬ x0.toInt < (65 : Int)) => ?_)
    · skip
      exact j24 (by omega)
    · skip
      refine go_iloadN C d1_18 (pc' := 19) rfl rfl ?_
      refine go_bipush C (90 : Int32) d1_19 (pc' := 21) rfl (by decide) ?_
      refine go_icmp C x0.toInt (90 : Int) rfl (by decide) d1_21 (by decide) (pc' := 191) (by decide) (pcN := 24) rfl (fun (c_27 : ¬ (90 : Int) < x0.toInt) => ?_) (fun (c_27 : (90 : Int) < x0.toInt) => ?_)
      · skip
        refine go_iconst C (1 : Int32) d1_191 (pc' := 192) rfl (by decide) ?_
        refine go_goto C d1_192 (by decide) (pc' := 196) (by decide) ?_
        refine go_ireturnN C (z' := (1 : Int32)) rfl (by simp) rfl d1_196 (by decide) (by decide) ?_
        exact ⟨_, rfl, congrArg Value.int (bi1 (by omega)), rfl⟩
      · skip
        exact j24 (by omega)
  refine go_iloadN C d1_0 (pc' := 1) rfl rfl ?_
  refine go_bipush C (97 : Int32) d1_1 (pc' := 3) rfl (by decide) ?_
  refine go_icmp C x0.toInt (97 : Int) rfl (by decide) d1_3 (by decide) (pc' := 12) (by decide) (pcN := 6) rfl (fun (c_28 : x0.toInt < (97 : Int)) => ?_) (fun (c_28 : ¬ x0.toInt < (97 : Int)) => ?_)
  · skip
    exact j12 (by omega)
  · skip
    refine go_iloadN C d1_6 (pc' := 7) rfl rfl ?_
    refine go_bipush C (122 : Int32) d1_7 (pc' := 9) rfl (by decide) ?_
    refine go_icmp C x0.toInt (122 : Int) rfl (by decide) d1_9 (by decide) (pc' := 191) (by decide) (pcN := 12) rfl (fun (c_29 : ¬ (122 : Int) < x0.toInt) => ?_) (fun (c_29 : (122 : Int) < x0.toInt) => ?_)
    · skip
      refine go_iconst C (1 : Int32) d1_191 (pc' := 192) rfl (by decide) ?_
      refine go_goto C d1_192 (by decide) (pc' := 196) (by decide) ?_
      refine go_ireturnN C (z' := (1 : Int32)) rfl (by simp) rfl d1_196 (by decide) (by decide) ?_
      exact ⟨_, rfl, congrArg Value.int (bi1 (by omega)), rfl⟩
    · skip
      exact j12 (by omega)
set_option maxRecDepth 65536 in
set_option maxHeartbeats 40000000 in
theorem sat_ex (l : Launch) (Z : State) (a0 : Array Value) (hw : ∀ d ∈ tables_1, d.before a0 Z = true) (x0 : Int32) (h0 : Heap) (n0 : Nat)  :
    Sat l Z (⟨"com/example/cardinality/cardinality/XmlCharactersIsNcNameStartCharPinLaw", "expected", "(I)Z"⟩ : MethodName) method_3_code 2 (some .boolean) ({ frames := 0, cells := 0, slots := 0, locals := 0 } : Room) [.int x0] h0 n0 (RV fun r h => r = .int (bi ((97 ≤ x0.toInt ∧ x0.toInt ≤ 122) ∨ (65 ≤ x0.toInt ∧ x0.toInt ≤ 90) ∨ (95 ≤ x0.toInt ∧ x0.toInt ≤ 95) ∨ (192 ≤ x0.toInt ∧ x0.toInt ≤ 214) ∨ (216 ≤ x0.toInt ∧ x0.toInt ≤ 246) ∨ (248 ≤ x0.toInt ∧ x0.toInt ≤ 767) ∨ (880 ≤ x0.toInt ∧ x0.toInt ≤ 893) ∨ (895 ≤ x0.toInt ∧ x0.toInt ≤ 8191) ∨ (8204 ≤ x0.toInt ∧ x0.toInt ≤ 8205) ∨ (8304 ≤ x0.toInt ∧ x0.toInt ≤ 8591) ∨ (11264 ≤ x0.toInt ∧ x0.toInt ≤ 12271) ∨ (12289 ≤ x0.toInt ∧ x0.toInt ≤ 55295) ∨ (63744 ≤ x0.toInt ∧ x0.toInt ≤ 64975) ∨ (65008 ≤ x0.toInt ∧ x0.toInt ≤ 65533) ∨ (65536 ≤ x0.toInt ∧ x0.toInt ≤ 983039))) ∧ h = h0) := by
  refine sat_of (own := "com/example/cardinality/cardinality/XmlCharactersIsNcNameStartCharPinLaw") (nm := "expected") rfl rfl (plainFor_of_name pn_0) #[.val (.int x0), .unset] (fun m => by first | rfl | (simp [entryFrame, mkF, argsToLocals, Value.category]; done)) ?_
  intro p e s m below meth c C
  have j178 : (191 < x0.toInt ∧ x0.toInt < 65536 ∧ ¬ x0.toInt = 215 ∧ ¬ x0.toInt = 247 ∧ ¬ (768 ≤ x0.toInt ∧ x0.toInt ≤ 879) ∧ ¬ (894 ≤ x0.toInt ∧ x0.toInt ≤ 894) ∧ ¬ (8192 ≤ x0.toInt ∧ x0.toInt ≤ 8203) ∧ ¬ (8206 ≤ x0.toInt ∧ x0.toInt ≤ 8303) ∧ ¬ (8592 ≤ x0.toInt ∧ x0.toInt ≤ 11263) ∧ ¬ (12272 ≤ x0.toInt ∧ x0.toInt ≤ 12288) ∧ ¬ (55296 ≤ x0.toInt ∧ x0.toInt ≤ 63743) ∧ ¬ (64976 ≤ x0.toInt ∧ x0.toInt ≤ 65007)) → Go p l e ({ frames := 0, cells := 0, slots := 0, locals := 0 } : Room) s m ([.int x0] : List Value).toArray below meth c n0 (RV fun r h => r = .int (bi ((97 ≤ x0.toInt ∧ x0.toInt ≤ 122) ∨ (65 ≤ x0.toInt ∧ x0.toInt ≤ 90) ∨ (95 ≤ x0.toInt ∧ x0.toInt ≤ 95) ∨ (192 ≤ x0.toInt ∧ x0.toInt ≤ 214) ∨ (216 ≤ x0.toInt ∧ x0.toInt ≤ 246) ∨ (248 ≤ x0.toInt ∧ x0.toInt ≤ 767) ∨ (880 ≤ x0.toInt ∧ x0.toInt ≤ 893) ∨ (895 ≤ x0.toInt ∧ x0.toInt ≤ 8191) ∨ (8204 ≤ x0.toInt ∧ x0.toInt ≤ 8205) ∨ (8304 ≤ x0.toInt ∧ x0.toInt ≤ 8591) ∨ (11264 ≤ x0.toInt ∧ x0.toInt ≤ 12271) ∨ (12289 ≤ x0.toInt ∧ x0.toInt ≤ 55295) ∨ (63744 ≤ x0.toInt ∧ x0.toInt ≤ 64975) ∨ (65008 ≤ x0.toInt ∧ x0.toInt ≤ 65533) ∨ (65536 ≤ x0.toInt ∧ x0.toInt ≤ 983039))) ∧ h = h0) ({ frames := 0, cells := 0, slots := 0, locals := 0 } : Room).cells ({ frames := 0, cells := 0, slots := 0, locals := 0 } : Room).slots h0 0 0 (mkF m 178 #[.val (.int x0), .unset] []) := by
    intro i178
    refine go_iloadN C d2_178 (pc' := 179) rfl rfl ?_
    refine go_ldc C (v := (65534 : Int32)) (wd hw 22 rfl) d2_179 (pc' := 181) rfl ?_
    refine go_icmp C x0.toInt (65534 : Int) rfl (by decide) d2_181 (by decide) (pc' := 188) (by decide) (pcN := 184) rfl (fun (c_1 : x0.toInt < (65534 : Int)) => ?_) (fun (c_1 : ¬ x0.toInt < (65534 : Int)) => ?_)
    · skip
      refine go_iconst C (0 : Int32) d2_188 (pc' := 189) rfl (by decide) ?_
      refine go_istoreN C (Ls' := #[.val (.int x0), .val (.int (0 : Int32))]) d2_189 (pc' := 190) rfl rfl ?_
      refine go_iloadN C d2_190 (pc' := 191) rfl rfl ?_
      refine go_if0 C (0 : Int) (by decide) d2_191 (by decide) (pc' := 198) (by decide) (pcN := 194) rfl (fun (c_2 : ¬ (0 : Int) = 0) => by omega) (fun (c_2 : (0 : Int) = 0) => ?_)
      refine go_iconst C (1 : Int32) d2_194 (pc' := 195) rfl (by decide) ?_
      refine go_goto C d2_195 (by decide) (pc' := 199) (by decide) ?_
      refine go_ireturnN C (z' := (1 : Int32)) rfl (by simp) rfl d2_199 (by decide) (by decide) ?_
      exact ⟨_, rfl, congrArg Value.int (bi1 (by omega)), rfl⟩
    · skip
      refine go_iconst C (1 : Int32) d2_184 (pc' := 185) rfl (by decide) ?_
      refine go_goto C d2_185 (by decide) (pc' := 189) (by decide) ?_
      refine go_istoreN C (Ls' := #[.val (.int x0), .val (.int (1 : Int32))]) d2_189 (pc' := 190) rfl rfl ?_
      refine go_iloadN C d2_190 (pc' := 191) rfl rfl ?_
      refine go_if0 C (1 : Int) (by decide) d2_191 (by decide) (pc' := 198) (by decide) (pcN := 194) rfl (fun (c_3 : ¬ (1 : Int) = 0) => ?_) (fun (c_3 : (1 : Int) = 0) => by omega)
      refine go_iconst C (0 : Int32) d2_198 (pc' := 199) rfl (by decide) ?_
      refine go_ireturnN C (z' := (0 : Int32)) rfl (by simp) rfl d2_199 (by decide) (by decide) ?_
      exact ⟨_, rfl, congrArg Value.int (bi0 (by omega)), rfl⟩
  have j166 : (191 < x0.toInt ∧ x0.toInt < 65536 ∧ ¬ x0.toInt = 215 ∧ ¬ x0.toInt = 247 ∧ ¬ (768 ≤ x0.toInt ∧ x0.toInt ≤ 879) ∧ ¬ (894 ≤ x0.toInt ∧ x0.toInt ≤ 894) ∧ ¬ (8192 ≤ x0.toInt ∧ x0.toInt ≤ 8203) ∧ ¬ (8206 ≤ x0.toInt ∧ x0.toInt ≤ 8303) ∧ ¬ (8592 ≤ x0.toInt ∧ x0.toInt ≤ 11263) ∧ ¬ (12272 ≤ x0.toInt ∧ x0.toInt ≤ 12288) ∧ ¬ (55296 ≤ x0.toInt ∧ x0.toInt ≤ 63743)) → Go p l e ({ frames := 0, cells := 0, slots := 0, locals := 0 } : Room) s m ([.int x0] : List Value).toArray below meth c n0 (RV fun r h => r = .int (bi ((97 ≤ x0.toInt ∧ x0.toInt ≤ 122) ∨ (65 ≤ x0.toInt ∧ x0.toInt ≤ 90) ∨ (95 ≤ x0.toInt ∧ x0.toInt ≤ 95) ∨ (192 ≤ x0.toInt ∧ x0.toInt ≤ 214) ∨ (216 ≤ x0.toInt ∧ x0.toInt ≤ 246) ∨ (248 ≤ x0.toInt ∧ x0.toInt ≤ 767) ∨ (880 ≤ x0.toInt ∧ x0.toInt ≤ 893) ∨ (895 ≤ x0.toInt ∧ x0.toInt ≤ 8191) ∨ (8204 ≤ x0.toInt ∧ x0.toInt ≤ 8205) ∨ (8304 ≤ x0.toInt ∧ x0.toInt ≤ 8591) ∨ (11264 ≤ x0.toInt ∧ x0.toInt ≤ 12271) ∨ (12289 ≤ x0.toInt ∧ x0.toInt ≤ 55295) ∨ (63744 ≤ x0.toInt ∧ x0.toInt ≤ 64975) ∨ (65008 ≤ x0.toInt ∧ x0.toInt ≤ 65533) ∨ (65536 ≤ x0.toInt ∧ x0.toInt ≤ 983039))) ∧ h = h0) ({ frames := 0, cells := 0, slots := 0, locals := 0 } : Room).cells ({ frames := 0, cells := 0, slots := 0, locals := 0 } : Room).slots h0 0 0 (mkF m 166 #[.val (.int x0), .unset] []) := by
    intro i166
    refine go_iloadN C d2_166 (pc' := 167) rfl rfl ?_
    refine go_ldc C (v := (64976 : Int32)) (wd hw 21 rfl) d2_167 (pc' := 169) rfl ?_
    refine go_icmp C x0.toInt (64976 : Int) rfl (by decide) d2_169 (by decide) (pc' := 178) (by decide) (pcN := 172) rfl (fun (c_4 : x0.toInt < (64976 : Int)) => ?_) (fun (c_4 : ¬ x0.toInt < (64976 : Int)) => ?_)
    · skip
      exact j178 (by omega)
    · skip
      refine go_iloadN C d2_172 (pc' := 173) rfl rfl ?_
      refine go_ldc C (v := (65007 : Int32)) (wd hw 28 rfl) d2_173 (pc' := 175) rfl ?_
      refine go_icmp C x0.toInt (65007 : Int) rfl (by decide) d2_175 (by decide) (pc' := 184) (by decide) (pcN := 178) rfl (fun (c_5 : ¬ (65007 : Int) < x0.toInt) => ?_) (fun (c_5 : (65007 : Int) < x0.toInt) => ?_)
      · skip
        refine go_iconst C (1 : Int32) d2_184 (pc' := 185) rfl (by decide) ?_
        refine go_goto C d2_185 (by decide) (pc' := 189) (by decide) ?_
        refine go_istoreN C (Ls' := #[.val (.int x0), .val (.int (1 : Int32))]) d2_189 (pc' := 190) rfl rfl ?_
        refine go_iloadN C d2_190 (pc' := 191) rfl rfl ?_
        refine go_if0 C (1 : Int) (by decide) d2_191 (by decide) (pc' := 198) (by decide) (pcN := 194) rfl (fun (c_6 : ¬ (1 : Int) = 0) => ?_) (fun (c_6 : (1 : Int) = 0) => by omega)
        refine go_iconst C (0 : Int32) d2_198 (pc' := 199) rfl (by decide) ?_
        refine go_ireturnN C (z' := (0 : Int32)) rfl (by simp) rfl d2_199 (by decide) (by decide) ?_
        exact ⟨_, rfl, congrArg Value.int (bi0 (by omega)), rfl⟩
      · skip
        exact j178 (by omega)
  have j154 : (191 < x0.toInt ∧ x0.toInt < 65536 ∧ ¬ x0.toInt = 215 ∧ ¬ x0.toInt = 247 ∧ ¬ (768 ≤ x0.toInt ∧ x0.toInt ≤ 879) ∧ ¬ (894 ≤ x0.toInt ∧ x0.toInt ≤ 894) ∧ ¬ (8192 ≤ x0.toInt ∧ x0.toInt ≤ 8203) ∧ ¬ (8206 ≤ x0.toInt ∧ x0.toInt ≤ 8303) ∧ ¬ (8592 ≤ x0.toInt ∧ x0.toInt ≤ 11263) ∧ ¬ (12272 ≤ x0.toInt ∧ x0.toInt ≤ 12288)) → Go p l e ({ frames := 0, cells := 0, slots := 0, locals := 0 } : Room) s m ([.int x0] : List Value).toArray below meth c n0 (RV fun r h => r = .int (bi ((97 ≤ x0.toInt ∧ x0.toInt ≤ 122) ∨ (65 ≤ x0.toInt ∧ x0.toInt ≤ 90) ∨ (95 ≤ x0.toInt ∧ x0.toInt ≤ 95) ∨ (192 ≤ x0.toInt ∧ x0.toInt ≤ 214) ∨ (216 ≤ x0.toInt ∧ x0.toInt ≤ 246) ∨ (248 ≤ x0.toInt ∧ x0.toInt ≤ 767) ∨ (880 ≤ x0.toInt ∧ x0.toInt ≤ 893) ∨ (895 ≤ x0.toInt ∧ x0.toInt ≤ 8191) ∨ (8204 ≤ x0.toInt ∧ x0.toInt ≤ 8205) ∨ (8304 ≤ x0.toInt ∧ x0.toInt ≤ 8591) ∨ (11264 ≤ x0.toInt ∧ x0.toInt ≤ 12271) ∨ (12289 ≤ x0.toInt ∧ x0.toInt ≤ 55295) ∨ (63744 ≤ x0.toInt ∧ x0.toInt ≤ 64975) ∨ (65008 ≤ x0.toInt ∧ x0.toInt ≤ 65533) ∨ (65536 ≤ x0.toInt ∧ x0.toInt ≤ 983039))) ∧ h = h0) ({ frames := 0, cells := 0, slots := 0, locals := 0 } : Room).cells ({ frames := 0, cells := 0, slots := 0, locals := 0 } : Room).slots h0 0 0 (mkF m 154 #[.val (.int x0), .unset] []) := by
    intro i154
    refine go_iloadN C d2_154 (pc' := 155) rfl rfl ?_
    refine go_ldc C (v := (55296 : Int32)) (wd hw 20 rfl) d2_155 (pc' := 157) rfl ?_
    refine go_icmp C x0.toInt (55296 : Int) rfl (by decide) d2_157 (by decide) (pc' := 166) (by decide) (pcN := 160) rfl (fun (c_7 : x0.toInt < (55296 : Int)) => ?_) (fun (c_7 : ¬ x0.toInt < (55296 : Int)) => ?_)
    · skip
      exact j166 (by omega)
    · skip
      refine go_iloadN C d2_160 (pc' := 161) rfl rfl ?_
      refine go_ldc C (v := (63743 : Int32)) (wd hw 27 rfl) d2_161 (pc' := 163) rfl ?_
      refine go_icmp C x0.toInt (63743 : Int) rfl (by decide) d2_163 (by decide) (pc' := 184) (by decide) (pcN := 166) rfl (fun (c_8 : ¬ (63743 : Int) < x0.toInt) => ?_) (fun (c_8 : (63743 : Int) < x0.toInt) => ?_)
      · skip
        refine go_iconst C (1 : Int32) d2_184 (pc' := 185) rfl (by decide) ?_
        refine go_goto C d2_185 (by decide) (pc' := 189) (by decide) ?_
        refine go_istoreN C (Ls' := #[.val (.int x0), .val (.int (1 : Int32))]) d2_189 (pc' := 190) rfl rfl ?_
        refine go_iloadN C d2_190 (pc' := 191) rfl rfl ?_
        refine go_if0 C (1 : Int) (by decide) d2_191 (by decide) (pc' := 198) (by decide) (pcN := 194) rfl (fun (c_9 : ¬ (1 : Int) = 0) => ?_) (fun (c_9 : (1 : Int) = 0) => by omega)
        refine go_iconst C (0 : Int32) d2_198 (pc' := 199) rfl (by decide) ?_
        refine go_ireturnN C (z' := (0 : Int32)) rfl (by simp) rfl d2_199 (by decide) (by decide) ?_
        exact ⟨_, rfl, congrArg Value.int (bi0 (by omega)), rfl⟩
      · skip
        exact j166 (by omega)
  have j140 : (191 < x0.toInt ∧ x0.toInt < 65536 ∧ ¬ x0.toInt = 215 ∧ ¬ x0.toInt = 247 ∧ ¬ (768 ≤ x0.toInt ∧ x0.toInt ≤ 879) ∧ ¬ (894 ≤ x0.toInt ∧ x0.toInt ≤ 894) ∧ ¬ (8192 ≤ x0.toInt ∧ x0.toInt ≤ 8203) ∧ ¬ (8206 ≤ x0.toInt ∧ x0.toInt ≤ 8303) ∧ ¬ (8592 ≤ x0.toInt ∧ x0.toInt ≤ 11263)) → Go p l e ({ frames := 0, cells := 0, slots := 0, locals := 0 } : Room) s m ([.int x0] : List Value).toArray below meth c n0 (RV fun r h => r = .int (bi ((97 ≤ x0.toInt ∧ x0.toInt ≤ 122) ∨ (65 ≤ x0.toInt ∧ x0.toInt ≤ 90) ∨ (95 ≤ x0.toInt ∧ x0.toInt ≤ 95) ∨ (192 ≤ x0.toInt ∧ x0.toInt ≤ 214) ∨ (216 ≤ x0.toInt ∧ x0.toInt ≤ 246) ∨ (248 ≤ x0.toInt ∧ x0.toInt ≤ 767) ∨ (880 ≤ x0.toInt ∧ x0.toInt ≤ 893) ∨ (895 ≤ x0.toInt ∧ x0.toInt ≤ 8191) ∨ (8204 ≤ x0.toInt ∧ x0.toInt ≤ 8205) ∨ (8304 ≤ x0.toInt ∧ x0.toInt ≤ 8591) ∨ (11264 ≤ x0.toInt ∧ x0.toInt ≤ 12271) ∨ (12289 ≤ x0.toInt ∧ x0.toInt ≤ 55295) ∨ (63744 ≤ x0.toInt ∧ x0.toInt ≤ 64975) ∨ (65008 ≤ x0.toInt ∧ x0.toInt ≤ 65533) ∨ (65536 ≤ x0.toInt ∧ x0.toInt ≤ 983039))) ∧ h = h0) ({ frames := 0, cells := 0, slots := 0, locals := 0 } : Room).cells ({ frames := 0, cells := 0, slots := 0, locals := 0 } : Room).slots h0 0 0 (mkF m 140 #[.val (.int x0), .unset] []) := by
    intro i140
    refine go_iloadN C d2_140 (pc' := 141) rfl rfl ?_
    refine go_sipush C (12272 : Int32) d2_141 (pc' := 144) rfl (by decide) ?_
    refine go_icmp C x0.toInt (12272 : Int) rfl (by decide) d2_144 (by decide) (pc' := 154) (by decide) (pcN := 147) rfl (fun (c_10 : x0.toInt < (12272 : Int)) => ?_) (fun (c_10 : ¬ x0.toInt < (12272 : Int)) => ?_)
    · skip
      exact j154 (by omega)
    · skip
      refine go_iloadN C d2_147 (pc' := 148) rfl rfl ?_
      refine go_sipush C (12288 : Int32) d2_148 (pc' := 151) rfl (by decide) ?_
      refine go_icmp C x0.toInt (12288 : Int) rfl (by decide) d2_151 (by decide) (pc' := 184) (by decide) (pcN := 154) rfl (fun (c_11 : ¬ (12288 : Int) < x0.toInt) => ?_) (fun (c_11 : (12288 : Int) < x0.toInt) => ?_)
      · skip
        refine go_iconst C (1 : Int32) d2_184 (pc' := 185) rfl (by decide) ?_
        refine go_goto C d2_185 (by decide) (pc' := 189) (by decide) ?_
        refine go_istoreN C (Ls' := #[.val (.int x0), .val (.int (1 : Int32))]) d2_189 (pc' := 190) rfl rfl ?_
        refine go_iloadN C d2_190 (pc' := 191) rfl rfl ?_
        refine go_if0 C (1 : Int) (by decide) d2_191 (by decide) (pc' := 198) (by decide) (pcN := 194) rfl (fun (c_12 : ¬ (1 : Int) = 0) => ?_) (fun (c_12 : (1 : Int) = 0) => by omega)
        refine go_iconst C (0 : Int32) d2_198 (pc' := 199) rfl (by decide) ?_
        refine go_ireturnN C (z' := (0 : Int32)) rfl (by simp) rfl d2_199 (by decide) (by decide) ?_
        exact ⟨_, rfl, congrArg Value.int (bi0 (by omega)), rfl⟩
      · skip
        exact j154 (by omega)
  have j126 : (191 < x0.toInt ∧ x0.toInt < 65536 ∧ ¬ x0.toInt = 215 ∧ ¬ x0.toInt = 247 ∧ ¬ (768 ≤ x0.toInt ∧ x0.toInt ≤ 879) ∧ ¬ (894 ≤ x0.toInt ∧ x0.toInt ≤ 894) ∧ ¬ (8192 ≤ x0.toInt ∧ x0.toInt ≤ 8203) ∧ ¬ (8206 ≤ x0.toInt ∧ x0.toInt ≤ 8303)) → Go p l e ({ frames := 0, cells := 0, slots := 0, locals := 0 } : Room) s m ([.int x0] : List Value).toArray below meth c n0 (RV fun r h => r = .int (bi ((97 ≤ x0.toInt ∧ x0.toInt ≤ 122) ∨ (65 ≤ x0.toInt ∧ x0.toInt ≤ 90) ∨ (95 ≤ x0.toInt ∧ x0.toInt ≤ 95) ∨ (192 ≤ x0.toInt ∧ x0.toInt ≤ 214) ∨ (216 ≤ x0.toInt ∧ x0.toInt ≤ 246) ∨ (248 ≤ x0.toInt ∧ x0.toInt ≤ 767) ∨ (880 ≤ x0.toInt ∧ x0.toInt ≤ 893) ∨ (895 ≤ x0.toInt ∧ x0.toInt ≤ 8191) ∨ (8204 ≤ x0.toInt ∧ x0.toInt ≤ 8205) ∨ (8304 ≤ x0.toInt ∧ x0.toInt ≤ 8591) ∨ (11264 ≤ x0.toInt ∧ x0.toInt ≤ 12271) ∨ (12289 ≤ x0.toInt ∧ x0.toInt ≤ 55295) ∨ (63744 ≤ x0.toInt ∧ x0.toInt ≤ 64975) ∨ (65008 ≤ x0.toInt ∧ x0.toInt ≤ 65533) ∨ (65536 ≤ x0.toInt ∧ x0.toInt ≤ 983039))) ∧ h = h0) ({ frames := 0, cells := 0, slots := 0, locals := 0 } : Room).cells ({ frames := 0, cells := 0, slots := 0, locals := 0 } : Room).slots h0 0 0 (mkF m 126 #[.val (.int x0), .unset] []) := by
    intro i126
    refine go_iloadN C d2_126 (pc' := 127) rfl rfl ?_
    refine go_sipush C (8592 : Int32) d2_127 (pc' := 130) rfl (by decide) ?_
    refine go_icmp C x0.toInt (8592 : Int) rfl (by decide) d2_130 (by decide) (pc' := 140) (by decide) (pcN := 133) rfl (fun (c_13 : x0.toInt < (8592 : Int)) => ?_) (fun (c_13 : ¬ x0.toInt < (8592 : Int)) => ?_)
    · skip
      exact j140 (by omega)
    · skip
      refine go_iloadN C d2_133 (pc' := 134) rfl rfl ?_
      refine go_sipush C (11263 : Int32) d2_134 (pc' := 137) rfl (by decide) ?_
      refine go_icmp C x0.toInt (11263 : Int) rfl (by decide) d2_137 (by decide) (pc' := 184) (by decide) (pcN := 140) rfl (fun (c_14 : ¬ (11263 : Int) < x0.toInt) => ?_) (fun (c_14 : (11263 : Int) < x0.toInt) => ?_)
      · skip
        refine go_iconst C (1 : Int32) d2_184 (pc' := 185) rfl (by decide) ?_
        refine go_goto C d2_185 (by decide) (pc' := 189) (by decide) ?_
        refine go_istoreN C (Ls' := #[.val (.int x0), .val (.int (1 : Int32))]) d2_189 (pc' := 190) rfl rfl ?_
        refine go_iloadN C d2_190 (pc' := 191) rfl rfl ?_
        refine go_if0 C (1 : Int) (by decide) d2_191 (by decide) (pc' := 198) (by decide) (pcN := 194) rfl (fun (c_15 : ¬ (1 : Int) = 0) => ?_) (fun (c_15 : (1 : Int) = 0) => by omega)
        refine go_iconst C (0 : Int32) d2_198 (pc' := 199) rfl (by decide) ?_
        refine go_ireturnN C (z' := (0 : Int32)) rfl (by simp) rfl d2_199 (by decide) (by decide) ?_
        exact ⟨_, rfl, congrArg Value.int (bi0 (by omega)), rfl⟩
      · skip
        exact j140 (by omega)
  have j112 : (191 < x0.toInt ∧ x0.toInt < 65536 ∧ ¬ x0.toInt = 215 ∧ ¬ x0.toInt = 247 ∧ ¬ (768 ≤ x0.toInt ∧ x0.toInt ≤ 879) ∧ ¬ (894 ≤ x0.toInt ∧ x0.toInt ≤ 894) ∧ ¬ (8192 ≤ x0.toInt ∧ x0.toInt ≤ 8203)) → Go p l e ({ frames := 0, cells := 0, slots := 0, locals := 0 } : Room) s m ([.int x0] : List Value).toArray below meth c n0 (RV fun r h => r = .int (bi ((97 ≤ x0.toInt ∧ x0.toInt ≤ 122) ∨ (65 ≤ x0.toInt ∧ x0.toInt ≤ 90) ∨ (95 ≤ x0.toInt ∧ x0.toInt ≤ 95) ∨ (192 ≤ x0.toInt ∧ x0.toInt ≤ 214) ∨ (216 ≤ x0.toInt ∧ x0.toInt ≤ 246) ∨ (248 ≤ x0.toInt ∧ x0.toInt ≤ 767) ∨ (880 ≤ x0.toInt ∧ x0.toInt ≤ 893) ∨ (895 ≤ x0.toInt ∧ x0.toInt ≤ 8191) ∨ (8204 ≤ x0.toInt ∧ x0.toInt ≤ 8205) ∨ (8304 ≤ x0.toInt ∧ x0.toInt ≤ 8591) ∨ (11264 ≤ x0.toInt ∧ x0.toInt ≤ 12271) ∨ (12289 ≤ x0.toInt ∧ x0.toInt ≤ 55295) ∨ (63744 ≤ x0.toInt ∧ x0.toInt ≤ 64975) ∨ (65008 ≤ x0.toInt ∧ x0.toInt ≤ 65533) ∨ (65536 ≤ x0.toInt ∧ x0.toInt ≤ 983039))) ∧ h = h0) ({ frames := 0, cells := 0, slots := 0, locals := 0 } : Room).cells ({ frames := 0, cells := 0, slots := 0, locals := 0 } : Room).slots h0 0 0 (mkF m 112 #[.val (.int x0), .unset] []) := by
    intro i112
    refine go_iloadN C d2_112 (pc' := 113) rfl rfl ?_
    refine go_sipush C (8206 : Int32) d2_113 (pc' := 116) rfl (by decide) ?_
    refine go_icmp C x0.toInt (8206 : Int) rfl (by decide) d2_116 (by decide) (pc' := 126) (by decide) (pcN := 119) rfl (fun (c_16 : x0.toInt < (8206 : Int)) => ?_) (fun (c_16 : ¬ x0.toInt < (8206 : Int)) => ?_)
    · skip
      exact j126 (by omega)
    · skip
      refine go_iloadN C d2_119 (pc' := 120) rfl rfl ?_
      refine go_sipush C (8303 : Int32) d2_120 (pc' := 123) rfl (by decide) ?_
      refine go_icmp C x0.toInt (8303 : Int) rfl (by decide) d2_123 (by decide) (pc' := 184) (by decide) (pcN := 126) rfl (fun (c_17 : ¬ (8303 : Int) < x0.toInt) => ?_) (fun (c_17 : (8303 : Int) < x0.toInt) => ?_)
      · skip
        refine go_iconst C (1 : Int32) d2_184 (pc' := 185) rfl (by decide) ?_
        refine go_goto C d2_185 (by decide) (pc' := 189) (by decide) ?_
        refine go_istoreN C (Ls' := #[.val (.int x0), .val (.int (1 : Int32))]) d2_189 (pc' := 190) rfl rfl ?_
        refine go_iloadN C d2_190 (pc' := 191) rfl rfl ?_
        refine go_if0 C (1 : Int) (by decide) d2_191 (by decide) (pc' := 198) (by decide) (pcN := 194) rfl (fun (c_18 : ¬ (1 : Int) = 0) => ?_) (fun (c_18 : (1 : Int) = 0) => by omega)
        refine go_iconst C (0 : Int32) d2_198 (pc' := 199) rfl (by decide) ?_
        refine go_ireturnN C (z' := (0 : Int32)) rfl (by simp) rfl d2_199 (by decide) (by decide) ?_
        exact ⟨_, rfl, congrArg Value.int (bi0 (by omega)), rfl⟩
      · skip
        exact j126 (by omega)
  have j98 : (191 < x0.toInt ∧ x0.toInt < 65536 ∧ ¬ x0.toInt = 215 ∧ ¬ x0.toInt = 247 ∧ ¬ (768 ≤ x0.toInt ∧ x0.toInt ≤ 879) ∧ ¬ (894 ≤ x0.toInt ∧ x0.toInt ≤ 894)) → Go p l e ({ frames := 0, cells := 0, slots := 0, locals := 0 } : Room) s m ([.int x0] : List Value).toArray below meth c n0 (RV fun r h => r = .int (bi ((97 ≤ x0.toInt ∧ x0.toInt ≤ 122) ∨ (65 ≤ x0.toInt ∧ x0.toInt ≤ 90) ∨ (95 ≤ x0.toInt ∧ x0.toInt ≤ 95) ∨ (192 ≤ x0.toInt ∧ x0.toInt ≤ 214) ∨ (216 ≤ x0.toInt ∧ x0.toInt ≤ 246) ∨ (248 ≤ x0.toInt ∧ x0.toInt ≤ 767) ∨ (880 ≤ x0.toInt ∧ x0.toInt ≤ 893) ∨ (895 ≤ x0.toInt ∧ x0.toInt ≤ 8191) ∨ (8204 ≤ x0.toInt ∧ x0.toInt ≤ 8205) ∨ (8304 ≤ x0.toInt ∧ x0.toInt ≤ 8591) ∨ (11264 ≤ x0.toInt ∧ x0.toInt ≤ 12271) ∨ (12289 ≤ x0.toInt ∧ x0.toInt ≤ 55295) ∨ (63744 ≤ x0.toInt ∧ x0.toInt ≤ 64975) ∨ (65008 ≤ x0.toInt ∧ x0.toInt ≤ 65533) ∨ (65536 ≤ x0.toInt ∧ x0.toInt ≤ 983039))) ∧ h = h0) ({ frames := 0, cells := 0, slots := 0, locals := 0 } : Room).cells ({ frames := 0, cells := 0, slots := 0, locals := 0 } : Room).slots h0 0 0 (mkF m 98 #[.val (.int x0), .unset] []) := by
    intro i98
    refine go_iloadN C d2_98 (pc' := 99) rfl rfl ?_
    refine go_sipush C (8192 : Int32) d2_99 (pc' := 102) rfl (by decide) ?_
    refine go_icmp C x0.toInt (8192 : Int) rfl (by decide) d2_102 (by decide) (pc' := 112) (by decide) (pcN := 105) rfl (fun (c_19 : x0.toInt < (8192 : Int)) => ?_) (fun (c_19 : ¬ x0.toInt < (8192 : Int)) => ?_)
    · skip
      exact j112 (by omega)
    · skip
      refine go_iloadN C d2_105 (pc' := 106) rfl rfl ?_
      refine go_sipush C (8203 : Int32) d2_106 (pc' := 109) rfl (by decide) ?_
      refine go_icmp C x0.toInt (8203 : Int) rfl (by decide) d2_109 (by decide) (pc' := 184) (by decide) (pcN := 112) rfl (fun (c_20 : ¬ (8203 : Int) < x0.toInt) => ?_) (fun (c_20 : (8203 : Int) < x0.toInt) => ?_)
      · skip
        refine go_iconst C (1 : Int32) d2_184 (pc' := 185) rfl (by decide) ?_
        refine go_goto C d2_185 (by decide) (pc' := 189) (by decide) ?_
        refine go_istoreN C (Ls' := #[.val (.int x0), .val (.int (1 : Int32))]) d2_189 (pc' := 190) rfl rfl ?_
        refine go_iloadN C d2_190 (pc' := 191) rfl rfl ?_
        refine go_if0 C (1 : Int) (by decide) d2_191 (by decide) (pc' := 198) (by decide) (pcN := 194) rfl (fun (c_21 : ¬ (1 : Int) = 0) => ?_) (fun (c_21 : (1 : Int) = 0) => by omega)
        refine go_iconst C (0 : Int32) d2_198 (pc' := 199) rfl (by decide) ?_
        refine go_ireturnN C (z' := (0 : Int32)) rfl (by simp) rfl d2_199 (by decide) (by decide) ?_
        exact ⟨_, rfl, congrArg Value.int (bi0 (by omega)), rfl⟩
      · skip
        exact j112 (by omega)
  have j91 : (191 < x0.toInt ∧ x0.toInt < 65536 ∧ ¬ x0.toInt = 215 ∧ ¬ x0.toInt = 247 ∧ ¬ (768 ≤ x0.toInt ∧ x0.toInt ≤ 879)) → Go p l e ({ frames := 0, cells := 0, slots := 0, locals := 0 } : Room) s m ([.int x0] : List Value).toArray below meth c n0 (RV fun r h => r = .int (bi ((97 ≤ x0.toInt ∧ x0.toInt ≤ 122) ∨ (65 ≤ x0.toInt ∧ x0.toInt ≤ 90) ∨ (95 ≤ x0.toInt ∧ x0.toInt ≤ 95) ∨ (192 ≤ x0.toInt ∧ x0.toInt ≤ 214) ∨ (216 ≤ x0.toInt ∧ x0.toInt ≤ 246) ∨ (248 ≤ x0.toInt ∧ x0.toInt ≤ 767) ∨ (880 ≤ x0.toInt ∧ x0.toInt ≤ 893) ∨ (895 ≤ x0.toInt ∧ x0.toInt ≤ 8191) ∨ (8204 ≤ x0.toInt ∧ x0.toInt ≤ 8205) ∨ (8304 ≤ x0.toInt ∧ x0.toInt ≤ 8591) ∨ (11264 ≤ x0.toInt ∧ x0.toInt ≤ 12271) ∨ (12289 ≤ x0.toInt ∧ x0.toInt ≤ 55295) ∨ (63744 ≤ x0.toInt ∧ x0.toInt ≤ 64975) ∨ (65008 ≤ x0.toInt ∧ x0.toInt ≤ 65533) ∨ (65536 ≤ x0.toInt ∧ x0.toInt ≤ 983039))) ∧ h = h0) ({ frames := 0, cells := 0, slots := 0, locals := 0 } : Room).cells ({ frames := 0, cells := 0, slots := 0, locals := 0 } : Room).slots h0 0 0 (mkF m 91 #[.val (.int x0), .unset] []) := by
    intro i91
    refine go_iloadN C d2_91 (pc' := 92) rfl rfl ?_
    refine go_sipush C (894 : Int32) d2_92 (pc' := 95) rfl (by decide) ?_
    refine go_icmp C x0.toInt (894 : Int) rfl (by decide) d2_95 (by decide) (pc' := 184) (by decide) (pcN := 98) rfl (fun (c_22 : x0.toInt = (894 : Int)) => ?_) (fun (c_22 : ¬ x0.toInt = (894 : Int)) => ?_)
    · skip
      refine go_iconst C (1 : Int32) d2_184 (pc' := 185) rfl (by decide) ?_
      refine go_goto C d2_185 (by decide) (pc' := 189) (by decide) ?_
      refine go_istoreN C (Ls' := #[.val (.int x0), .val (.int (1 : Int32))]) d2_189 (pc' := 190) rfl rfl ?_
      refine go_iloadN C d2_190 (pc' := 191) rfl rfl ?_
      refine go_if0 C (1 : Int) (by decide) d2_191 (by decide) (pc' := 198) (by decide) (pcN := 194) rfl (fun (c_23 : ¬ (1 : Int) = 0) => ?_) (fun (c_23 : (1 : Int) = 0) => by omega)
      refine go_iconst C (0 : Int32) d2_198 (pc' := 199) rfl (by decide) ?_
      refine go_ireturnN C (z' := (0 : Int32)) rfl (by simp) rfl d2_199 (by decide) (by decide) ?_
      exact ⟨_, rfl, congrArg Value.int (bi0 (by omega)), rfl⟩
    · skip
      exact j98 (by omega)
  refine go_iloadN C d2_0 (pc' := 1) rfl rfl ?_
  refine go_bipush C (65 : Int32) d2_1 (pc' := 3) rfl (by decide) ?_
  refine go_icmp C x0.toInt (65 : Int) rfl (by decide) d2_3 (by decide) (pc' := 12) (by decide) (pcN := 6) rfl (fun (c_24 : x0.toInt < (65 : Int)) => ?_) (fun (c_24 : ¬ x0.toInt < (65 : Int)) => ?_)
  · skip
    refine go_iconst C (0 : Int32) d2_12 (pc' := 13) rfl (by decide) ?_
    refine go_ireturnN C (z' := (0 : Int32)) rfl (by simp) rfl d2_13 (by decide) (by decide) ?_
    exact ⟨_, rfl, congrArg Value.int (bi0 (by omega)), rfl⟩
  · skip
    refine go_iloadN C d2_6 (pc' := 7) rfl rfl ?_
    refine go_ldc C (v := (983039 : Int32)) (wd hw 7 rfl) d2_7 (pc' := 9) rfl ?_
    refine go_icmp C x0.toInt (983039 : Int) rfl (by decide) d2_9 (by decide) (pc' := 14) (by decide) (pcN := 12) rfl (fun (c_25 : ¬ (983039 : Int) < x0.toInt) => ?_) (fun (c_25 : (983039 : Int) < x0.toInt) => ?_)
    · skip
      refine go_iloadN C d2_14 (pc' := 15) rfl rfl ?_
      refine go_sipush C (128 : Int32) d2_15 (pc' := 18) rfl (by decide) ?_
      refine go_icmp C x0.toInt (128 : Int) rfl (by decide) d2_18 (by decide) (pc' := 50) (by decide) (pcN := 21) rfl (fun (c_26 : ¬ x0.toInt < (128 : Int)) => ?_) (fun (c_26 : x0.toInt < (128 : Int)) => ?_)
      · skip
        refine go_iloadN C d2_50 (pc' := 51) rfl rfl ?_
        refine go_ldc C (v := (65536 : Int32)) (wd hw 6 rfl) d2_51 (pc' := 53) rfl ?_
        refine go_icmp C x0.toInt (65536 : Int) rfl (by decide) d2_53 (by decide) (pc' := 200) (by decide) (pcN := 56) rfl (fun (c_27 : ¬ x0.toInt < (65536 : Int)) => ?_) (fun (c_27 : x0.toInt < (65536 : Int)) => ?_)
        · skip
          refine go_iconst C (1 : Int32) d2_200 (pc' := 201) rfl (by decide) ?_
          refine go_ireturnN C (z' := (1 : Int32)) rfl (by simp) rfl d2_201 (by decide) (by decide) ?_
          exact ⟨_, rfl, congrArg Value.int (bi1 (by omega)), rfl⟩
        · skip
          refine go_iloadN C d2_56 (pc' := 57) rfl rfl ?_
          refine go_sipush C (191 : Int32) d2_57 (pc' := 60) rfl (by decide) ?_
          refine go_icmp C x0.toInt (191 : Int) rfl (by decide) d2_60 (by decide) (pc' := 184) (by decide) (pcN := 63) rfl (fun (c_28 : ¬ (191 : Int) < x0.toInt) => ?_) (fun (c_28 : (191 : Int) < x0.toInt) => ?_)
          · skip
            refine go_iconst C (1 : Int32) d2_184 (pc' := 185) rfl (by decide) ?_
            refine go_goto C d2_185 (by decide) (pc' := 189) (by decide) ?_
            refine go_istoreN C (Ls' := #[.val (.int x0), .val (.int (1 : Int32))]) d2_189 (pc' := 190) rfl rfl ?_
            refine go_iloadN C d2_190 (pc' := 191) rfl rfl ?_
            refine go_if0 C (1 : Int) (by decide) d2_191 (by decide) (pc' := 198) (by decide) (pcN := 194) rfl (fun (c_29 : ¬ (1 : Int) = 0) => ?_) (fun (c_29 : (1 : Int) = 0) => by omega)
            refine go_iconst C (0 : Int32) d2_198 (pc' := 199) rfl (by decide) ?_
            refine go_ireturnN C (z' := (0 : Int32)) rfl (by simp) rfl d2_199 (by decide) (by decide) ?_
            exact ⟨_, rfl, congrArg Value.int (bi0 (by omega)), rfl⟩
          · skip
            refine go_iloadN C d2_63 (pc' := 64) rfl rfl ?_
            refine go_sipush C (215 : Int32) d2_64 (pc' := 67) rfl (by decide) ?_
            refine go_icmp C x0.toInt (215 : Int) rfl (by decide) d2_67 (by decide) (pc' := 184) (by decide) (pcN := 70) rfl (fun (c_30 : x0.toInt = (215 : Int)) => ?_) (fun (c_30 : ¬ x0.toInt = (215 : Int)) => ?_)
            · skip
              refine go_iconst C (1 : Int32) d2_184 (pc' := 185) rfl (by decide) ?_
              refine go_goto C d2_185 (by decide) (pc' := 189) (by decide) ?_
              refine go_istoreN C (Ls' := #[.val (.int x0), .val (.int (1 : Int32))]) d2_189 (pc' := 190) rfl rfl ?_
              refine go_iloadN C d2_190 (pc' := 191) rfl rfl ?_
              refine go_if0 C (1 : Int) (by decide) d2_191 (by decide) (pc' := 198) (by decide) (pcN := 194) rfl (fun (c_31 : ¬ (1 : Int) = 0) => ?_) (fun (c_31 : (1 : Int) = 0) => by omega)
              refine go_iconst C (0 : Int32) d2_198 (pc' := 199) rfl (by decide) ?_
              refine go_ireturnN C (z' := (0 : Int32)) rfl (by simp) rfl d2_199 (by decide) (by decide) ?_
              exact ⟨_, rfl, congrArg Value.int (bi0 (by omega)), rfl⟩
            · skip
              refine go_iloadN C d2_70 (pc' := 71) rfl rfl ?_
              refine go_sipush C (247 : Int32) d2_71 (pc' := 74) rfl (by decide) ?_
              refine go_icmp C x0.toInt (247 : Int) rfl (by decide) d2_74 (by decide) (pc' := 184) (by decide) (pcN := 77) rfl (fun (c_32 : x0.toInt = (247 : Int)) => ?_) (fun (c_32 : ¬ x0.toInt = (247 : Int)) => ?_)
              · skip
                refine go_iconst C (1 : Int32) d2_184 (pc' := 185) rfl (by decide) ?_
                refine go_goto C d2_185 (by decide) (pc' := 189) (by decide) ?_
                refine go_istoreN C (Ls' := #[.val (.int x0), .val (.int (1 : Int32))]) d2_189 (pc' := 190) rfl rfl ?_
                refine go_iloadN C d2_190 (pc' := 191) rfl rfl ?_
                refine go_if0 C (1 : Int) (by decide) d2_191 (by decide) (pc' := 198) (by decide) (pcN := 194) rfl (fun (c_33 : ¬ (1 : Int) = 0) => ?_) (fun (c_33 : (1 : Int) = 0) => by omega)
                refine go_iconst C (0 : Int32) d2_198 (pc' := 199) rfl (by decide) ?_
                refine go_ireturnN C (z' := (0 : Int32)) rfl (by simp) rfl d2_199 (by decide) (by decide) ?_
                exact ⟨_, rfl, congrArg Value.int (bi0 (by omega)), rfl⟩
              · skip
                refine go_iloadN C d2_77 (pc' := 78) rfl rfl ?_
                refine go_sipush C (768 : Int32) d2_78 (pc' := 81) rfl (by decide) ?_
                refine go_icmp C x0.toInt (768 : Int) rfl (by decide) d2_81 (by decide) (pc' := 91) (by decide) (pcN := 84) rfl (fun (c_34 : x0.toInt < (768 : Int)) => ?_) (fun (c_34 : ¬ x0.toInt < (768 : Int)) => ?_)
                · skip
                  exact j91 (by omega)
                · skip
                  refine go_iloadN C d2_84 (pc' := 85) rfl rfl ?_
                  refine go_sipush C (879 : Int32) d2_85 (pc' := 88) rfl (by decide) ?_
                  refine go_icmp C x0.toInt (879 : Int) rfl (by decide) d2_88 (by decide) (pc' := 184) (by decide) (pcN := 91) rfl (fun (c_35 : ¬ (879 : Int) < x0.toInt) => ?_) (fun (c_35 : (879 : Int) < x0.toInt) => ?_)
                  · skip
                    refine go_iconst C (1 : Int32) d2_184 (pc' := 185) rfl (by decide) ?_
                    refine go_goto C d2_185 (by decide) (pc' := 189) (by decide) ?_
                    refine go_istoreN C (Ls' := #[.val (.int x0), .val (.int (1 : Int32))]) d2_189 (pc' := 190) rfl rfl ?_
                    refine go_iloadN C d2_190 (pc' := 191) rfl rfl ?_
                    refine go_if0 C (1 : Int) (by decide) d2_191 (by decide) (pc' := 198) (by decide) (pcN := 194) rfl (fun (c_36 : ¬ (1 : Int) = 0) => ?_) (fun (c_36 : (1 : Int) = 0) => by omega)
                    refine go_iconst C (0 : Int32) d2_198 (pc' := 199) rfl (by decide) ?_
                    refine go_ireturnN C (z' := (0 : Int32)) rfl (by simp) rfl d2_199 (by decide) (by decide) ?_
                    exact ⟨_, rfl, congrArg Value.int (bi0 (by omega)), rfl⟩
                  · skip
                    exact j91 (by omega)
      · skip
        refine go_iloadN C d2_21 (pc' := 22) rfl rfl ?_
        refine go_bipush C (32 : Int32) d2_22 (pc' := 24) rfl (by decide) ?_
        refine go_ior C d2_24 (pc' := 25) rfl ?_
        refine go_istoreN C (Ls' := #[.val (.int x0), .val (.int (x0 ||| (32 : Int32)))]) d2_25 (pc' := 26) rfl rfl ?_
        have hf := own_fold x0 (by omega) (by omega)
        refine go_iloadN C d2_26 (pc' := 27) rfl rfl ?_
        refine go_bipush C (97 : Int32) d2_27 (pc' := 29) rfl (by decide) ?_
        refine go_icmp C ((x0 ||| (32 : Int32)).toInt) (97 : Int) rfl (by decide) d2_29 (by decide) (pc' := 38) (by decide) (pcN := 32) rfl (fun (c_37 : ((x0 ||| (32 : Int32)).toInt) < (97 : Int)) => ?_) (fun (c_37 : ¬ ((x0 ||| (32 : Int32)).toInt) < (97 : Int)) => ?_)
        · skip
          refine go_iloadN C d2_38 (pc' := 39) rfl rfl ?_
          refine go_bipush C (95 : Int32) d2_39 (pc' := 41) rfl (by decide) ?_
          refine go_icmp C x0.toInt (95 : Int) rfl (by decide) d2_41 (by decide) (pc' := 48) (by decide) (pcN := 44) rfl (fun (c_38 : ¬ x0.toInt = (95 : Int)) => ?_) (fun (c_38 : x0.toInt = (95 : Int)) => ?_)
          · skip
            refine go_iconst C (0 : Int32) d2_48 (pc' := 49) rfl (by decide) ?_
            refine go_ireturnN C (z' := (0 : Int32)) rfl (by simp) rfl d2_49 (by decide) (by decide) ?_
            exact ⟨_, rfl, congrArg Value.int (bi0 (by omega)), rfl⟩
          · skip
            refine go_iconst C (1 : Int32) d2_44 (pc' := 45) rfl (by decide) ?_
            refine go_goto C d2_45 (by decide) (pc' := 49) (by decide) ?_
            refine go_ireturnN C (z' := (1 : Int32)) rfl (by simp) rfl d2_49 (by decide) (by decide) ?_
            exact ⟨_, rfl, congrArg Value.int (bi1 (by omega)), rfl⟩
        · skip
          refine go_iloadN C d2_32 (pc' := 33) rfl rfl ?_
          refine go_bipush C (122 : Int32) d2_33 (pc' := 35) rfl (by decide) ?_
          refine go_icmp C ((x0 ||| (32 : Int32)).toInt) (122 : Int) rfl (by decide) d2_35 (by decide) (pc' := 44) (by decide) (pcN := 38) rfl (fun (c_39 : ¬ (122 : Int) < ((x0 ||| (32 : Int32)).toInt)) => ?_) (fun (c_39 : (122 : Int) < ((x0 ||| (32 : Int32)).toInt)) => ?_)
          · skip
            refine go_iconst C (1 : Int32) d2_44 (pc' := 45) rfl (by decide) ?_
            refine go_goto C d2_45 (by decide) (pc' := 49) (by decide) ?_
            refine go_ireturnN C (z' := (1 : Int32)) rfl (by simp) rfl d2_49 (by decide) (by decide) ?_
            exact ⟨_, rfl, congrArg Value.int (bi1 (by omega)), rfl⟩
          · skip
            refine go_iloadN C d2_38 (pc' := 39) rfl rfl ?_
            refine go_bipush C (95 : Int32) d2_39 (pc' := 41) rfl (by decide) ?_
            refine go_icmp C x0.toInt (95 : Int) rfl (by decide) d2_41 (by decide) (pc' := 48) (by decide) (pcN := 44) rfl (fun (c_40 : ¬ x0.toInt = (95 : Int)) => ?_) (fun (c_40 : x0.toInt = (95 : Int)) => ?_)
            · skip
              refine go_iconst C (0 : Int32) d2_48 (pc' := 49) rfl (by decide) ?_
              refine go_ireturnN C (z' := (0 : Int32)) rfl (by simp) rfl d2_49 (by decide) (by decide) ?_
              exact ⟨_, rfl, congrArg Value.int (bi0 (by omega)), rfl⟩
            · skip
              refine go_iconst C (1 : Int32) d2_44 (pc' := 45) rfl (by decide) ?_
              refine go_goto C d2_45 (by decide) (pc' := 49) (by decide) ?_
              refine go_ireturnN C (z' := (1 : Int32)) rfl (by simp) rfl d2_49 (by decide) (by decide) ?_
              exact ⟨_, rfl, congrArg Value.int (bi1 (by omega)), rfl⟩
    · skip
      refine go_iconst C (0 : Int32) d2_12 (pc' := 13) rfl (by decide) ?_
      refine go_ireturnN C (z' := (0 : Int32)) rfl (by simp) rfl d2_13 (by decide) (by decide) ?_
      exact ⟨_, rfl, congrArg Value.int (bi0 (by omega)), rfl⟩
set_option maxRecDepth 65536 in
set_option maxHeartbeats 40000000 in
theorem law_sat (l : Launch) (Z : State) (a0 : Array Value) (hw : ∀ d ∈ tables_1, d.before a0 Z = true) (x0 x1 x2 : Int32)  :
    Sat l Z x code maxLocals ret room_1 [.int x0, .int x1, .int x2] Z.heap Z.heap.size (RV fun r _ => r = .int 1) := by
  refine sat_of (own := "com/example/cardinality/cardinality/XmlCharactersIsNcNameStartCharPinLaw") (nm := "law") rfl rfl (plainFor_of_name pn_0) #[.val (.int x0), .val (.int x1), .val (.int x2), .unset, .unset] (fun m => by first | rfl | (simp [entryFrame, mkF, argsToLocals, Value.category]; done)) ?_
  intro p e s m below meth c C
  have hm : (x1 &&& (31 : Int32)).toInt = x1.toInt % 2 ^ 5 := Jvm.Kit.i32_mask x1 _ (k := 5) (by decide) (by decide)
  obtain ⟨ix, hix⟩ : ∃ k : Nat, (x1 &&& (31 : Int32)).toInt = (k : Int) := ⟨(x1.toInt % 2 ^ 5).toNat, by omega⟩
  refine go_bipush C (32 : Int32) at_0 (pc' := 2) rfl (by decide) ?_
  refine go_newarray C (wd hw 0 rfl) rfl 32 32 (by decide) (by decide) (by decide) (ce' := 1) (sl' := 32) rfl rfl (by decide) (by decide) at_2 (pc' := 4) rfl ?_
  intro h_1 a_2 g_3 E_4 A_5
  have g_6 : Z.heap.size ≤ a_2 := own_ge (Nat.le_refl _) g_3
  have z_7 : Z.heap.size ≤ h_1.size := Nat.le_trans (Nat.le_refl _) E_4.1
  obtain ⟨vs_8, A_9, I_10⟩ : ∃ vs, Av Z h_1 a_2 .int vs ∧ Ints vs 32 := ⟨_, A_5, Ints.rep _ _⟩
  refine go_dup C at_4 (pc' := 5) rfl rfl ?_
  refine go_iconst C (0 : Int32) at_5 (pc' := 6) rfl (by decide) ?_
  refine go_bipush C (65 : Int32) at_6 (pc' := 8) rfl (by decide) ?_
  refine go_iastore C A_9 0 (by decide) (by rw [I_10.1]; decide) g_6 at_8 (pc' := 9) rfl ?_
  intro h_11 W_12 A_13
  obtain ⟨vs_14, A_15, I_16⟩ : ∃ vs, Av Z h_11 a_2 .int vs ∧ Ints vs 32 := ⟨_, A_13, Ints.set _ I_10⟩
  refine go_dup C at_9 (pc' := 10) rfl rfl ?_
  refine go_iconst C (1 : Int32) at_10 (pc' := 11) rfl (by decide) ?_
  refine go_bipush C (90 : Int32) at_11 (pc' := 13) rfl (by decide) ?_
  refine go_iastore C A_15 1 (by decide) (by rw [I_16.1]; decide) g_6 at_13 (pc' := 14) rfl ?_
  intro h_17 W_18 A_19
  obtain ⟨vs_20, A_21, I_22⟩ : ∃ vs, Av Z h_17 a_2 .int vs ∧ Ints vs 32 := ⟨_, A_19, Ints.set _ I_16⟩
  refine go_dup C at_14 (pc' := 15) rfl rfl ?_
  refine go_iconst C (2 : Int32) at_15 (pc' := 16) rfl (by decide) ?_
  refine go_bipush C (95 : Int32) at_16 (pc' := 18) rfl (by decide) ?_
  refine go_iastore C A_21 2 (by decide) (by rw [I_22.1]; decide) g_6 at_18 (pc' := 19) rfl ?_
  intro h_23 W_24 A_25
  obtain ⟨vs_26, A_27, I_28⟩ : ∃ vs, Av Z h_23 a_2 .int vs ∧ Ints vs 32 := ⟨_, A_25, Ints.set _ I_22⟩
  refine go_dup C at_19 (pc' := 20) rfl rfl ?_
  refine go_iconst C (3 : Int32) at_20 (pc' := 21) rfl (by decide) ?_
  refine go_bipush C (97 : Int32) at_21 (pc' := 23) rfl (by decide) ?_
  refine go_iastore C A_27 3 (by decide) (by rw [I_28.1]; decide) g_6 at_23 (pc' := 24) rfl ?_
  intro h_29 W_30 A_31
  obtain ⟨vs_32, A_33, I_34⟩ : ∃ vs, Av Z h_29 a_2 .int vs ∧ Ints vs 32 := ⟨_, A_31, Ints.set _ I_28⟩
  refine go_dup C at_24 (pc' := 25) rfl rfl ?_
  refine go_iconst C (4 : Int32) at_25 (pc' := 26) rfl (by decide) ?_
  refine go_bipush C (122 : Int32) at_26 (pc' := 28) rfl (by decide) ?_
  refine go_iastore C A_33 4 (by decide) (by rw [I_34.1]; decide) g_6 at_28 (pc' := 29) rfl ?_
  intro h_35 W_36 A_37
  obtain ⟨vs_38, A_39, I_40⟩ : ∃ vs, Av Z h_35 a_2 .int vs ∧ Ints vs 32 := ⟨_, A_37, Ints.set _ I_34⟩
  refine go_dup C at_29 (pc' := 30) rfl rfl ?_
  refine go_iconst C (5 : Int32) at_30 (pc' := 31) rfl (by decide) ?_
  refine go_sipush C (192 : Int32) at_31 (pc' := 34) rfl (by decide) ?_
  refine go_iastore C A_39 5 (by decide) (by rw [I_40.1]; decide) g_6 at_34 (pc' := 35) rfl ?_
  intro h_41 W_42 A_43
  obtain ⟨vs_44, A_45, I_46⟩ : ∃ vs, Av Z h_41 a_2 .int vs ∧ Ints vs 32 := ⟨_, A_43, Ints.set _ I_40⟩
  refine go_dup C at_35 (pc' := 36) rfl rfl ?_
  refine go_bipush C (6 : Int32) at_36 (pc' := 38) rfl (by decide) ?_
  refine go_sipush C (214 : Int32) at_38 (pc' := 41) rfl (by decide) ?_
  refine go_iastore C A_45 6 (by decide) (by rw [I_46.1]; decide) g_6 at_41 (pc' := 42) rfl ?_
  intro h_47 W_48 A_49
  obtain ⟨vs_50, A_51, I_52⟩ : ∃ vs, Av Z h_47 a_2 .int vs ∧ Ints vs 32 := ⟨_, A_49, Ints.set _ I_46⟩
  refine go_dup C at_42 (pc' := 43) rfl rfl ?_
  refine go_bipush C (7 : Int32) at_43 (pc' := 45) rfl (by decide) ?_
  refine go_sipush C (216 : Int32) at_45 (pc' := 48) rfl (by decide) ?_
  refine go_iastore C A_51 7 (by decide) (by rw [I_52.1]; decide) g_6 at_48 (pc' := 49) rfl ?_
  intro h_53 W_54 A_55
  obtain ⟨vs_56, A_57, I_58⟩ : ∃ vs, Av Z h_53 a_2 .int vs ∧ Ints vs 32 := ⟨_, A_55, Ints.set _ I_52⟩
  refine go_dup C at_49 (pc' := 50) rfl rfl ?_
  refine go_bipush C (8 : Int32) at_50 (pc' := 52) rfl (by decide) ?_
  refine go_sipush C (246 : Int32) at_52 (pc' := 55) rfl (by decide) ?_
  refine go_iastore C A_57 8 (by decide) (by rw [I_58.1]; decide) g_6 at_55 (pc' := 56) rfl ?_
  intro h_59 W_60 A_61
  obtain ⟨vs_62, A_63, I_64⟩ : ∃ vs, Av Z h_59 a_2 .int vs ∧ Ints vs 32 := ⟨_, A_61, Ints.set _ I_58⟩
  refine go_dup C at_56 (pc' := 57) rfl rfl ?_
  refine go_bipush C (9 : Int32) at_57 (pc' := 59) rfl (by decide) ?_
  refine go_sipush C (248 : Int32) at_59 (pc' := 62) rfl (by decide) ?_
  refine go_iastore C A_63 9 (by decide) (by rw [I_64.1]; decide) g_6 at_62 (pc' := 63) rfl ?_
  intro h_65 W_66 A_67
  obtain ⟨vs_68, A_69, I_70⟩ : ∃ vs, Av Z h_65 a_2 .int vs ∧ Ints vs 32 := ⟨_, A_67, Ints.set _ I_64⟩
  refine go_dup C at_63 (pc' := 64) rfl rfl ?_
  refine go_bipush C (10 : Int32) at_64 (pc' := 66) rfl (by decide) ?_
  refine go_sipush C (767 : Int32) at_66 (pc' := 69) rfl (by decide) ?_
  refine go_iastore C A_69 10 (by decide) (by rw [I_70.1]; decide) g_6 at_69 (pc' := 70) rfl ?_
  intro h_71 W_72 A_73
  obtain ⟨vs_74, A_75, I_76⟩ : ∃ vs, Av Z h_71 a_2 .int vs ∧ Ints vs 32 := ⟨_, A_73, Ints.set _ I_70⟩
  refine go_dup C at_70 (pc' := 71) rfl rfl ?_
  refine go_bipush C (11 : Int32) at_71 (pc' := 73) rfl (by decide) ?_
  refine go_sipush C (880 : Int32) at_73 (pc' := 76) rfl (by decide) ?_
  refine go_iastore C A_75 11 (by decide) (by rw [I_76.1]; decide) g_6 at_76 (pc' := 77) rfl ?_
  intro h_77 W_78 A_79
  obtain ⟨vs_80, A_81, I_82⟩ : ∃ vs, Av Z h_77 a_2 .int vs ∧ Ints vs 32 := ⟨_, A_79, Ints.set _ I_76⟩
  refine go_dup C at_77 (pc' := 78) rfl rfl ?_
  refine go_bipush C (12 : Int32) at_78 (pc' := 80) rfl (by decide) ?_
  refine go_sipush C (893 : Int32) at_80 (pc' := 83) rfl (by decide) ?_
  refine go_iastore C A_81 12 (by decide) (by rw [I_82.1]; decide) g_6 at_83 (pc' := 84) rfl ?_
  intro h_83 W_84 A_85
  obtain ⟨vs_86, A_87, I_88⟩ : ∃ vs, Av Z h_83 a_2 .int vs ∧ Ints vs 32 := ⟨_, A_85, Ints.set _ I_82⟩
  refine go_dup C at_84 (pc' := 85) rfl rfl ?_
  refine go_bipush C (13 : Int32) at_85 (pc' := 87) rfl (by decide) ?_
  refine go_sipush C (895 : Int32) at_87 (pc' := 90) rfl (by decide) ?_
  refine go_iastore C A_87 13 (by decide) (by rw [I_88.1]; decide) g_6 at_90 (pc' := 91) rfl ?_
  intro h_89 W_90 A_91
  obtain ⟨vs_92, A_93, I_94⟩ : ∃ vs, Av Z h_89 a_2 .int vs ∧ Ints vs 32 := ⟨_, A_91, Ints.set _ I_88⟩
  refine go_dup C at_91 (pc' := 92) rfl rfl ?_
  refine go_bipush C (14 : Int32) at_92 (pc' := 94) rfl (by decide) ?_
  refine go_sipush C (8191 : Int32) at_94 (pc' := 97) rfl (by decide) ?_
  refine go_iastore C A_93 14 (by decide) (by rw [I_94.1]; decide) g_6 at_97 (pc' := 98) rfl ?_
  intro h_95 W_96 A_97
  obtain ⟨vs_98, A_99, I_100⟩ : ∃ vs, Av Z h_95 a_2 .int vs ∧ Ints vs 32 := ⟨_, A_97, Ints.set _ I_94⟩
  refine go_dup C at_98 (pc' := 99) rfl rfl ?_
  refine go_bipush C (15 : Int32) at_99 (pc' := 101) rfl (by decide) ?_
  refine go_sipush C (8204 : Int32) at_101 (pc' := 104) rfl (by decide) ?_
  refine go_iastore C A_99 15 (by decide) (by rw [I_100.1]; decide) g_6 at_104 (pc' := 105) rfl ?_
  intro h_101 W_102 A_103
  obtain ⟨vs_104, A_105, I_106⟩ : ∃ vs, Av Z h_101 a_2 .int vs ∧ Ints vs 32 := ⟨_, A_103, Ints.set _ I_100⟩
  refine go_dup C at_105 (pc' := 106) rfl rfl ?_
  refine go_bipush C (16 : Int32) at_106 (pc' := 108) rfl (by decide) ?_
  refine go_sipush C (8205 : Int32) at_108 (pc' := 111) rfl (by decide) ?_
  refine go_iastore C A_105 16 (by decide) (by rw [I_106.1]; decide) g_6 at_111 (pc' := 112) rfl ?_
  intro h_107 W_108 A_109
  obtain ⟨vs_110, A_111, I_112⟩ : ∃ vs, Av Z h_107 a_2 .int vs ∧ Ints vs 32 := ⟨_, A_109, Ints.set _ I_106⟩
  refine go_dup C at_112 (pc' := 113) rfl rfl ?_
  refine go_bipush C (17 : Int32) at_113 (pc' := 115) rfl (by decide) ?_
  refine go_sipush C (8304 : Int32) at_115 (pc' := 118) rfl (by decide) ?_
  refine go_iastore C A_111 17 (by decide) (by rw [I_112.1]; decide) g_6 at_118 (pc' := 119) rfl ?_
  intro h_113 W_114 A_115
  obtain ⟨vs_116, A_117, I_118⟩ : ∃ vs, Av Z h_113 a_2 .int vs ∧ Ints vs 32 := ⟨_, A_115, Ints.set _ I_112⟩
  refine go_dup C at_119 (pc' := 120) rfl rfl ?_
  refine go_bipush C (18 : Int32) at_120 (pc' := 122) rfl (by decide) ?_
  refine go_sipush C (8591 : Int32) at_122 (pc' := 125) rfl (by decide) ?_
  refine go_iastore C A_117 18 (by decide) (by rw [I_118.1]; decide) g_6 at_125 (pc' := 126) rfl ?_
  intro h_119 W_120 A_121
  obtain ⟨vs_122, A_123, I_124⟩ : ∃ vs, Av Z h_119 a_2 .int vs ∧ Ints vs 32 := ⟨_, A_121, Ints.set _ I_118⟩
  refine go_dup C at_126 (pc' := 127) rfl rfl ?_
  refine go_bipush C (19 : Int32) at_127 (pc' := 129) rfl (by decide) ?_
  refine go_sipush C (11264 : Int32) at_129 (pc' := 132) rfl (by decide) ?_
  refine go_iastore C A_123 19 (by decide) (by rw [I_124.1]; decide) g_6 at_132 (pc' := 133) rfl ?_
  intro h_125 W_126 A_127
  obtain ⟨vs_128, A_129, I_130⟩ : ∃ vs, Av Z h_125 a_2 .int vs ∧ Ints vs 32 := ⟨_, A_127, Ints.set _ I_124⟩
  refine go_dup C at_133 (pc' := 134) rfl rfl ?_
  refine go_bipush C (20 : Int32) at_134 (pc' := 136) rfl (by decide) ?_
  refine go_sipush C (12271 : Int32) at_136 (pc' := 139) rfl (by decide) ?_
  refine go_iastore C A_129 20 (by decide) (by rw [I_130.1]; decide) g_6 at_139 (pc' := 140) rfl ?_
  intro h_131 W_132 A_133
  obtain ⟨vs_134, A_135, I_136⟩ : ∃ vs, Av Z h_131 a_2 .int vs ∧ Ints vs 32 := ⟨_, A_133, Ints.set _ I_130⟩
  refine go_dup C at_140 (pc' := 141) rfl rfl ?_
  refine go_bipush C (21 : Int32) at_141 (pc' := 143) rfl (by decide) ?_
  refine go_sipush C (12289 : Int32) at_143 (pc' := 146) rfl (by decide) ?_
  refine go_iastore C A_135 21 (by decide) (by rw [I_136.1]; decide) g_6 at_146 (pc' := 147) rfl ?_
  intro h_137 W_138 A_139
  obtain ⟨vs_140, A_141, I_142⟩ : ∃ vs, Av Z h_137 a_2 .int vs ∧ Ints vs 32 := ⟨_, A_139, Ints.set _ I_136⟩
  refine go_dup C at_147 (pc' := 148) rfl rfl ?_
  refine go_bipush C (22 : Int32) at_148 (pc' := 150) rfl (by decide) ?_
  refine go_ldc C (v := (55295 : Int32)) (wd hw 1 rfl) at_150 (pc' := 152) rfl ?_
  refine go_iastore C A_141 22 (by decide) (by rw [I_142.1]; decide) g_6 at_152 (pc' := 153) rfl ?_
  intro h_143 W_144 A_145
  obtain ⟨vs_146, A_147, I_148⟩ : ∃ vs, Av Z h_143 a_2 .int vs ∧ Ints vs 32 := ⟨_, A_145, Ints.set _ I_142⟩
  refine go_dup C at_153 (pc' := 154) rfl rfl ?_
  refine go_bipush C (23 : Int32) at_154 (pc' := 156) rfl (by decide) ?_
  refine go_ldc C (v := (63744 : Int32)) (wd hw 2 rfl) at_156 (pc' := 158) rfl ?_
  refine go_iastore C A_147 23 (by decide) (by rw [I_148.1]; decide) g_6 at_158 (pc' := 159) rfl ?_
  intro h_149 W_150 A_151
  obtain ⟨vs_152, A_153, I_154⟩ : ∃ vs, Av Z h_149 a_2 .int vs ∧ Ints vs 32 := ⟨_, A_151, Ints.set _ I_148⟩
  refine go_dup C at_159 (pc' := 160) rfl rfl ?_
  refine go_bipush C (24 : Int32) at_160 (pc' := 162) rfl (by decide) ?_
  refine go_ldc C (v := (64975 : Int32)) (wd hw 3 rfl) at_162 (pc' := 164) rfl ?_
  refine go_iastore C A_153 24 (by decide) (by rw [I_154.1]; decide) g_6 at_164 (pc' := 165) rfl ?_
  intro h_155 W_156 A_157
  obtain ⟨vs_158, A_159, I_160⟩ : ∃ vs, Av Z h_155 a_2 .int vs ∧ Ints vs 32 := ⟨_, A_157, Ints.set _ I_154⟩
  refine go_dup C at_165 (pc' := 166) rfl rfl ?_
  refine go_bipush C (25 : Int32) at_166 (pc' := 168) rfl (by decide) ?_
  refine go_ldc C (v := (65008 : Int32)) (wd hw 4 rfl) at_168 (pc' := 170) rfl ?_
  refine go_iastore C A_159 25 (by decide) (by rw [I_160.1]; decide) g_6 at_170 (pc' := 171) rfl ?_
  intro h_161 W_162 A_163
  obtain ⟨vs_164, A_165, I_166⟩ : ∃ vs, Av Z h_161 a_2 .int vs ∧ Ints vs 32 := ⟨_, A_163, Ints.set _ I_160⟩
  refine go_dup C at_171 (pc' := 172) rfl rfl ?_
  refine go_bipush C (26 : Int32) at_172 (pc' := 174) rfl (by decide) ?_
  refine go_ldc C (v := (65533 : Int32)) (wd hw 5 rfl) at_174 (pc' := 176) rfl ?_
  refine go_iastore C A_165 26 (by decide) (by rw [I_166.1]; decide) g_6 at_176 (pc' := 177) rfl ?_
  intro h_167 W_168 A_169
  obtain ⟨vs_170, A_171, I_172⟩ : ∃ vs, Av Z h_167 a_2 .int vs ∧ Ints vs 32 := ⟨_, A_169, Ints.set _ I_166⟩
  refine go_dup C at_177 (pc' := 178) rfl rfl ?_
  refine go_bipush C (27 : Int32) at_178 (pc' := 180) rfl (by decide) ?_
  refine go_ldc C (v := (65536 : Int32)) (wd hw 6 rfl) at_180 (pc' := 182) rfl ?_
  refine go_iastore C A_171 27 (by decide) (by rw [I_172.1]; decide) g_6 at_182 (pc' := 183) rfl ?_
  intro h_173 W_174 A_175
  obtain ⟨vs_176, A_177, I_178⟩ : ∃ vs, Av Z h_173 a_2 .int vs ∧ Ints vs 32 := ⟨_, A_175, Ints.set _ I_172⟩
  refine go_dup C at_183 (pc' := 184) rfl rfl ?_
  refine go_bipush C (28 : Int32) at_184 (pc' := 186) rfl (by decide) ?_
  refine go_ldc C (v := (983039 : Int32)) (wd hw 7 rfl) at_186 (pc' := 188) rfl ?_
  refine go_iastore C A_177 28 (by decide) (by rw [I_178.1]; decide) g_6 at_188 (pc' := 189) rfl ?_
  intro h_179 W_180 A_181
  obtain ⟨vs_182, A_183, I_184⟩ : ∃ vs, Av Z h_179 a_2 .int vs ∧ Ints vs 32 := ⟨_, A_181, Ints.set _ I_178⟩
  refine go_dup C at_189 (pc' := 190) rfl rfl ?_
  refine go_bipush C (29 : Int32) at_190 (pc' := 192) rfl (by decide) ?_
  refine go_bipush C (58 : Int32) at_192 (pc' := 194) rfl (by decide) ?_
  refine go_iastore C A_183 29 (by decide) (by rw [I_184.1]; decide) g_6 at_194 (pc' := 195) rfl ?_
  intro h_185 W_186 A_187
  obtain ⟨vs_188, A_189, I_190⟩ : ∃ vs, Av Z h_185 a_2 .int vs ∧ Ints vs 32 := ⟨_, A_187, Ints.set _ I_184⟩
  refine go_dup C at_195 (pc' := 196) rfl rfl ?_
  refine go_bipush C (30 : Int32) at_196 (pc' := 198) rfl (by decide) ?_
  refine go_sipush C (128 : Int32) at_198 (pc' := 201) rfl (by decide) ?_
  refine go_iastore C A_189 30 (by decide) (by rw [I_190.1]; decide) g_6 at_201 (pc' := 202) rfl ?_
  intro h_191 W_192 A_193
  obtain ⟨vs_194, A_195, I_196⟩ : ∃ vs, Av Z h_191 a_2 .int vs ∧ Ints vs 32 := ⟨_, A_193, Ints.set _ I_190⟩
  refine go_dup C at_202 (pc' := 203) rfl rfl ?_
  refine go_bipush C (31 : Int32) at_203 (pc' := 205) rfl (by decide) ?_
  refine go_iconst C (0 : Int32) at_205 (pc' := 206) rfl (by decide) ?_
  refine go_iastore C A_195 31 (by decide) (by rw [I_196.1]; decide) g_6 at_206 (pc' := 207) rfl ?_
  intro h_197 W_198 A_199
  obtain ⟨vs_200, A_201, I_202⟩ : ∃ vs, Av Z h_197 a_2 .int vs ∧ Ints vs 32 := ⟨_, A_199, Ints.set _ I_196⟩
  refine go_astoreN C (Ls' := #[.val (.int x0), .val (.int x1), .val (.int x2), .val (.ref a_2), .unset]) at_207 (pc' := 208) rfl rfl rfl ?_
  refine go_aloadN C at_208 (pc' := 209) rfl rfl rfl ?_
  refine go_iloadN C at_209 (pc' := 210) rfl rfl ?_
  refine go_bipush C (31 : Int32) at_210 (pc' := 212) rfl (by decide) ?_
  refine go_iand C at_212 (pc' := 213) rfl ?_
  obtain ⟨v_203, e_204⟩ := I_202.2 ix (by omega)
  refine go_iaload C A_201 ix (.int v_203) hix e_204 at_213 (pc' := 214) rfl ?_
  refine go_iloadN C at_214 (pc' := 215) rfl rfl ?_
  refine go_ldc C (v := (2147483647 : Int32)) (wd hw 8 rfl) at_215 (pc' := 217) rfl ?_
  refine go_iand C at_217 (pc' := 218) rfl ?_
  refine go_iconst C (3 : Int32) at_218 (pc' := 219) rfl (by decide) ?_
  refine go_irem C at_219 (pc' := 220) rfl (by decide) ?_
  refine go_iadd C at_220 (pc' := 221) rfl ?_
  refine go_iconst C (1 : Int32) at_221 (pc' := 222) rfl (by decide) ?_
  refine go_isub C at_222 (pc' := 223) rfl ?_
  refine go_istore C (Ls' := #[.val (.int x0), .val (.int x1), .val (.int x2), .val (.ref a_2), .val (.int ((v_203 + ((x2 &&& (2147483647 : Int32)) % (3 : Int32))) - (1 : Int32)))]) at_223 (pc' := 225) rfl rfl ?_
  generalize (v_203 + ((x2 &&& (2147483647 : Int32)) % (3 : Int32))) - (1 : Int32) = y
  refine go_iloadN C at_225 (pc' := 226) rfl rfl ?_
  refine go_staticP C (as := [.int x0]) (rest := []) (W := 0) (.int (bi ((97 ≤ x0.toInt ∧ x0.toInt ≤ 122) ∨ (65 ≤ x0.toInt ∧ x0.toInt ≤ 90) ∨ (95 ≤ x0.toInt ∧ x0.toInt ≤ 95) ∨ (192 ≤ x0.toInt ∧ x0.toInt ≤ 214) ∨ (216 ≤ x0.toInt ∧ x0.toInt ≤ 246) ∨ (248 ≤ x0.toInt ∧ x0.toInt ≤ 767) ∨ (880 ≤ x0.toInt ∧ x0.toInt ≤ 893) ∨ (895 ≤ x0.toInt ∧ x0.toInt ≤ 8191) ∨ (8204 ≤ x0.toInt ∧ x0.toInt ≤ 8205) ∨ (8304 ≤ x0.toInt ∧ x0.toInt ≤ 8591) ∨ (11264 ≤ x0.toInt ∧ x0.toInt ≤ 12271) ∨ (12289 ≤ x0.toInt ∧ x0.toInt ≤ 55295) ∨ (63744 ≤ x0.toInt ∧ x0.toInt ≤ 64975) ∨ (65008 ≤ x0.toInt ∧ x0.toInt ≤ 65533) ∨ (65536 ≤ x0.toInt ∧ x0.toInt ≤ 983039)))) (sat_nc l Z a0 hw x0 _ _) (wd hw 9 rfl) (wd hw 10 rfl) (wd hw 11 rfl) (wd hw 12 rfl) (by decide) pd_1 rfl rfl rfl (by decide) (by decide) rfl rfl (by decide) (by decide) at_226 (pc' := 229) rfl rfl ?_
  refine go_iloadN C at_229 (pc' := 230) rfl rfl ?_
  refine go_staticP C (as := [.int x0]) (rest := [.int (bi ((97 ≤ x0.toInt ∧ x0.toInt ≤ 122) ∨ (65 ≤ x0.toInt ∧ x0.toInt ≤ 90) ∨ (95 ≤ x0.toInt ∧ x0.toInt ≤ 95) ∨ (192 ≤ x0.toInt ∧ x0.toInt ≤ 214) ∨ (216 ≤ x0.toInt ∧ x0.toInt ≤ 246) ∨ (248 ≤ x0.toInt ∧ x0.toInt ≤ 767) ∨ (880 ≤ x0.toInt ∧ x0.toInt ≤ 893) ∨ (895 ≤ x0.toInt ∧ x0.toInt ≤ 8191) ∨ (8204 ≤ x0.toInt ∧ x0.toInt ≤ 8205) ∨ (8304 ≤ x0.toInt ∧ x0.toInt ≤ 8591) ∨ (11264 ≤ x0.toInt ∧ x0.toInt ≤ 12271) ∨ (12289 ≤ x0.toInt ∧ x0.toInt ≤ 55295) ∨ (63744 ≤ x0.toInt ∧ x0.toInt ≤ 64975) ∨ (65008 ≤ x0.toInt ∧ x0.toInt ≤ 65533) ∨ (65536 ≤ x0.toInt ∧ x0.toInt ≤ 983039)))]) (W := 1) (.int (bi ((97 ≤ x0.toInt ∧ x0.toInt ≤ 122) ∨ (65 ≤ x0.toInt ∧ x0.toInt ≤ 90) ∨ (95 ≤ x0.toInt ∧ x0.toInt ≤ 95) ∨ (192 ≤ x0.toInt ∧ x0.toInt ≤ 214) ∨ (216 ≤ x0.toInt ∧ x0.toInt ≤ 246) ∨ (248 ≤ x0.toInt ∧ x0.toInt ≤ 767) ∨ (880 ≤ x0.toInt ∧ x0.toInt ≤ 893) ∨ (895 ≤ x0.toInt ∧ x0.toInt ≤ 8191) ∨ (8204 ≤ x0.toInt ∧ x0.toInt ≤ 8205) ∨ (8304 ≤ x0.toInt ∧ x0.toInt ≤ 8591) ∨ (11264 ≤ x0.toInt ∧ x0.toInt ≤ 12271) ∨ (12289 ≤ x0.toInt ∧ x0.toInt ≤ 55295) ∨ (63744 ≤ x0.toInt ∧ x0.toInt ≤ 64975) ∨ (65008 ≤ x0.toInt ∧ x0.toInt ≤ 65533) ∨ (65536 ≤ x0.toInt ∧ x0.toInt ≤ 983039)))) (sat_ex l Z a0 hw x0 _ _) (wd hw 16 rfl) (wd hw 17 rfl) (wd hw 18 rfl) (wd hw 19 rfl) (by decide) pd_1 rfl rfl rfl (by decide) (by decide) rfl rfl (by decide) (by decide) at_230 (pc' := 233) rfl rfl ?_
  refine go_icmp C ((bi ((97 ≤ x0.toInt ∧ x0.toInt ≤ 122) ∨ (65 ≤ x0.toInt ∧ x0.toInt ≤ 90) ∨ (95 ≤ x0.toInt ∧ x0.toInt ≤ 95) ∨ (192 ≤ x0.toInt ∧ x0.toInt ≤ 214) ∨ (216 ≤ x0.toInt ∧ x0.toInt ≤ 246) ∨ (248 ≤ x0.toInt ∧ x0.toInt ≤ 767) ∨ (880 ≤ x0.toInt ∧ x0.toInt ≤ 893) ∨ (895 ≤ x0.toInt ∧ x0.toInt ≤ 8191) ∨ (8204 ≤ x0.toInt ∧ x0.toInt ≤ 8205) ∨ (8304 ≤ x0.toInt ∧ x0.toInt ≤ 8591) ∨ (11264 ≤ x0.toInt ∧ x0.toInt ≤ 12271) ∨ (12289 ≤ x0.toInt ∧ x0.toInt ≤ 55295) ∨ (63744 ≤ x0.toInt ∧ x0.toInt ≤ 64975) ∨ (65008 ≤ x0.toInt ∧ x0.toInt ≤ 65533) ∨ (65536 ≤ x0.toInt ∧ x0.toInt ≤ 983039))).toInt) ((bi ((97 ≤ x0.toInt ∧ x0.toInt ≤ 122) ∨ (65 ≤ x0.toInt ∧ x0.toInt ≤ 90) ∨ (95 ≤ x0.toInt ∧ x0.toInt ≤ 95) ∨ (192 ≤ x0.toInt ∧ x0.toInt ≤ 214) ∨ (216 ≤ x0.toInt ∧ x0.toInt ≤ 246) ∨ (248 ≤ x0.toInt ∧ x0.toInt ≤ 767) ∨ (880 ≤ x0.toInt ∧ x0.toInt ≤ 893) ∨ (895 ≤ x0.toInt ∧ x0.toInt ≤ 8191) ∨ (8204 ≤ x0.toInt ∧ x0.toInt ≤ 8205) ∨ (8304 ≤ x0.toInt ∧ x0.toInt ≤ 8591) ∨ (11264 ≤ x0.toInt ∧ x0.toInt ≤ 12271) ∨ (12289 ≤ x0.toInt ∧ x0.toInt ≤ 55295) ∨ (63744 ≤ x0.toInt ∧ x0.toInt ≤ 64975) ∨ (65008 ≤ x0.toInt ∧ x0.toInt ≤ 65533) ∨ (65536 ≤ x0.toInt ∧ x0.toInt ≤ 983039))).toInt) rfl rfl at_233 (by decide) (pc' := 253) (by decide) (pcN := 236) rfl (fun (c_205 : ¬ ((bi ((97 ≤ x0.toInt ∧ x0.toInt ≤ 122) ∨ (65 ≤ x0.toInt ∧ x0.toInt ≤ 90) ∨ (95 ≤ x0.toInt ∧ x0.toInt ≤ 95) ∨ (192 ≤ x0.toInt ∧ x0.toInt ≤ 214) ∨ (216 ≤ x0.toInt ∧ x0.toInt ≤ 246) ∨ (248 ≤ x0.toInt ∧ x0.toInt ≤ 767) ∨ (880 ≤ x0.toInt ∧ x0.toInt ≤ 893) ∨ (895 ≤ x0.toInt ∧ x0.toInt ≤ 8191) ∨ (8204 ≤ x0.toInt ∧ x0.toInt ≤ 8205) ∨ (8304 ≤ x0.toInt ∧ x0.toInt ≤ 8591) ∨ (11264 ≤ x0.toInt ∧ x0.toInt ≤ 12271) ∨ (12289 ≤ x0.toInt ∧ x0.toInt ≤ 55295) ∨ (63744 ≤ x0.toInt ∧ x0.toInt ≤ 64975) ∨ (65008 ≤ x0.toInt ∧ x0.toInt ≤ 65533) ∨ (65536 ≤ x0.toInt ∧ x0.toInt ≤ 983039))).toInt) = ((bi ((97 ≤ x0.toInt ∧ x0.toInt ≤ 122) ∨ (65 ≤ x0.toInt ∧ x0.toInt ≤ 90) ∨ (95 ≤ x0.toInt ∧ x0.toInt ≤ 95) ∨ (192 ≤ x0.toInt ∧ x0.toInt ≤ 214) ∨ (216 ≤ x0.toInt ∧ x0.toInt ≤ 246) ∨ (248 ≤ x0.toInt ∧ x0.toInt ≤ 767) ∨ (880 ≤ x0.toInt ∧ x0.toInt ≤ 893) ∨ (895 ≤ x0.toInt ∧ x0.toInt ≤ 8191) ∨ (8204 ≤ x0.toInt ∧ x0.toInt ≤ 8205) ∨ (8304 ≤ x0.toInt ∧ x0.toInt ≤ 8591) ∨ (11264 ≤ x0.toInt ∧ x0.toInt ≤ 12271) ∨ (12289 ≤ x0.toInt ∧ x0.toInt ≤ 55295) ∨ (63744 ≤ x0.toInt ∧ x0.toInt ≤ 64975) ∨ (65008 ≤ x0.toInt ∧ x0.toInt ≤ 65533) ∨ (65536 ≤ x0.toInt ∧ x0.toInt ≤ 983039))).toInt)) => by omega) (fun (c_205 : ((bi ((97 ≤ x0.toInt ∧ x0.toInt ≤ 122) ∨ (65 ≤ x0.toInt ∧ x0.toInt ≤ 90) ∨ (95 ≤ x0.toInt ∧ x0.toInt ≤ 95) ∨ (192 ≤ x0.toInt ∧ x0.toInt ≤ 214) ∨ (216 ≤ x0.toInt ∧ x0.toInt ≤ 246) ∨ (248 ≤ x0.toInt ∧ x0.toInt ≤ 767) ∨ (880 ≤ x0.toInt ∧ x0.toInt ≤ 893) ∨ (895 ≤ x0.toInt ∧ x0.toInt ≤ 8191) ∨ (8204 ≤ x0.toInt ∧ x0.toInt ≤ 8205) ∨ (8304 ≤ x0.toInt ∧ x0.toInt ≤ 8591) ∨ (11264 ≤ x0.toInt ∧ x0.toInt ≤ 12271) ∨ (12289 ≤ x0.toInt ∧ x0.toInt ≤ 55295) ∨ (63744 ≤ x0.toInt ∧ x0.toInt ≤ 64975) ∨ (65008 ≤ x0.toInt ∧ x0.toInt ≤ 65533) ∨ (65536 ≤ x0.toInt ∧ x0.toInt ≤ 983039))).toInt) = ((bi ((97 ≤ x0.toInt ∧ x0.toInt ≤ 122) ∨ (65 ≤ x0.toInt ∧ x0.toInt ≤ 90) ∨ (95 ≤ x0.toInt ∧ x0.toInt ≤ 95) ∨ (192 ≤ x0.toInt ∧ x0.toInt ≤ 214) ∨ (216 ≤ x0.toInt ∧ x0.toInt ≤ 246) ∨ (248 ≤ x0.toInt ∧ x0.toInt ≤ 767) ∨ (880 ≤ x0.toInt ∧ x0.toInt ≤ 893) ∨ (895 ≤ x0.toInt ∧ x0.toInt ≤ 8191) ∨ (8204 ≤ x0.toInt ∧ x0.toInt ≤ 8205) ∨ (8304 ≤ x0.toInt ∧ x0.toInt ≤ 8591) ∨ (11264 ≤ x0.toInt ∧ x0.toInt ≤ 12271) ∨ (12289 ≤ x0.toInt ∧ x0.toInt ≤ 55295) ∨ (63744 ≤ x0.toInt ∧ x0.toInt ≤ 64975) ∨ (65008 ≤ x0.toInt ∧ x0.toInt ≤ 65533) ∨ (65536 ≤ x0.toInt ∧ x0.toInt ≤ 983039))).toInt)) => ?_)
  refine go_iload C at_236 (pc' := 238) rfl rfl ?_
  refine go_staticP C (as := [.int y]) (rest := []) (W := 0) (.int (bi ((97 ≤ y.toInt ∧ y.toInt ≤ 122) ∨ (65 ≤ y.toInt ∧ y.toInt ≤ 90) ∨ (95 ≤ y.toInt ∧ y.toInt ≤ 95) ∨ (192 ≤ y.toInt ∧ y.toInt ≤ 214) ∨ (216 ≤ y.toInt ∧ y.toInt ≤ 246) ∨ (248 ≤ y.toInt ∧ y.toInt ≤ 767) ∨ (880 ≤ y.toInt ∧ y.toInt ≤ 893) ∨ (895 ≤ y.toInt ∧ y.toInt ≤ 8191) ∨ (8204 ≤ y.toInt ∧ y.toInt ≤ 8205) ∨ (8304 ≤ y.toInt ∧ y.toInt ≤ 8591) ∨ (11264 ≤ y.toInt ∧ y.toInt ≤ 12271) ∨ (12289 ≤ y.toInt ∧ y.toInt ≤ 55295) ∨ (63744 ≤ y.toInt ∧ y.toInt ≤ 64975) ∨ (65008 ≤ y.toInt ∧ y.toInt ≤ 65533) ∨ (65536 ≤ y.toInt ∧ y.toInt ≤ 983039)))) (sat_nc l Z a0 hw y _ _) (wd hw 9 rfl) (wd hw 10 rfl) (wd hw 11 rfl) (wd hw 12 rfl) (by decide) pd_1 rfl rfl rfl (by decide) (by decide) rfl rfl (by decide) (by decide) at_238 (pc' := 241) rfl rfl ?_
  refine go_iload C at_241 (pc' := 243) rfl rfl ?_
  refine go_staticP C (as := [.int y]) (rest := [.int (bi ((97 ≤ y.toInt ∧ y.toInt ≤ 122) ∨ (65 ≤ y.toInt ∧ y.toInt ≤ 90) ∨ (95 ≤ y.toInt ∧ y.toInt ≤ 95) ∨ (192 ≤ y.toInt ∧ y.toInt ≤ 214) ∨ (216 ≤ y.toInt ∧ y.toInt ≤ 246) ∨ (248 ≤ y.toInt ∧ y.toInt ≤ 767) ∨ (880 ≤ y.toInt ∧ y.toInt ≤ 893) ∨ (895 ≤ y.toInt ∧ y.toInt ≤ 8191) ∨ (8204 ≤ y.toInt ∧ y.toInt ≤ 8205) ∨ (8304 ≤ y.toInt ∧ y.toInt ≤ 8591) ∨ (11264 ≤ y.toInt ∧ y.toInt ≤ 12271) ∨ (12289 ≤ y.toInt ∧ y.toInt ≤ 55295) ∨ (63744 ≤ y.toInt ∧ y.toInt ≤ 64975) ∨ (65008 ≤ y.toInt ∧ y.toInt ≤ 65533) ∨ (65536 ≤ y.toInt ∧ y.toInt ≤ 983039)))]) (W := 1) (.int (bi ((97 ≤ y.toInt ∧ y.toInt ≤ 122) ∨ (65 ≤ y.toInt ∧ y.toInt ≤ 90) ∨ (95 ≤ y.toInt ∧ y.toInt ≤ 95) ∨ (192 ≤ y.toInt ∧ y.toInt ≤ 214) ∨ (216 ≤ y.toInt ∧ y.toInt ≤ 246) ∨ (248 ≤ y.toInt ∧ y.toInt ≤ 767) ∨ (880 ≤ y.toInt ∧ y.toInt ≤ 893) ∨ (895 ≤ y.toInt ∧ y.toInt ≤ 8191) ∨ (8204 ≤ y.toInt ∧ y.toInt ≤ 8205) ∨ (8304 ≤ y.toInt ∧ y.toInt ≤ 8591) ∨ (11264 ≤ y.toInt ∧ y.toInt ≤ 12271) ∨ (12289 ≤ y.toInt ∧ y.toInt ≤ 55295) ∨ (63744 ≤ y.toInt ∧ y.toInt ≤ 64975) ∨ (65008 ≤ y.toInt ∧ y.toInt ≤ 65533) ∨ (65536 ≤ y.toInt ∧ y.toInt ≤ 983039)))) (sat_ex l Z a0 hw y _ _) (wd hw 16 rfl) (wd hw 17 rfl) (wd hw 18 rfl) (wd hw 19 rfl) (by decide) pd_1 rfl rfl rfl (by decide) (by decide) rfl rfl (by decide) (by decide) at_243 (pc' := 246) rfl rfl ?_
  refine go_icmp C ((bi ((97 ≤ y.toInt ∧ y.toInt ≤ 122) ∨ (65 ≤ y.toInt ∧ y.toInt ≤ 90) ∨ (95 ≤ y.toInt ∧ y.toInt ≤ 95) ∨ (192 ≤ y.toInt ∧ y.toInt ≤ 214) ∨ (216 ≤ y.toInt ∧ y.toInt ≤ 246) ∨ (248 ≤ y.toInt ∧ y.toInt ≤ 767) ∨ (880 ≤ y.toInt ∧ y.toInt ≤ 893) ∨ (895 ≤ y.toInt ∧ y.toInt ≤ 8191) ∨ (8204 ≤ y.toInt ∧ y.toInt ≤ 8205) ∨ (8304 ≤ y.toInt ∧ y.toInt ≤ 8591) ∨ (11264 ≤ y.toInt ∧ y.toInt ≤ 12271) ∨ (12289 ≤ y.toInt ∧ y.toInt ≤ 55295) ∨ (63744 ≤ y.toInt ∧ y.toInt ≤ 64975) ∨ (65008 ≤ y.toInt ∧ y.toInt ≤ 65533) ∨ (65536 ≤ y.toInt ∧ y.toInt ≤ 983039))).toInt) ((bi ((97 ≤ y.toInt ∧ y.toInt ≤ 122) ∨ (65 ≤ y.toInt ∧ y.toInt ≤ 90) ∨ (95 ≤ y.toInt ∧ y.toInt ≤ 95) ∨ (192 ≤ y.toInt ∧ y.toInt ≤ 214) ∨ (216 ≤ y.toInt ∧ y.toInt ≤ 246) ∨ (248 ≤ y.toInt ∧ y.toInt ≤ 767) ∨ (880 ≤ y.toInt ∧ y.toInt ≤ 893) ∨ (895 ≤ y.toInt ∧ y.toInt ≤ 8191) ∨ (8204 ≤ y.toInt ∧ y.toInt ≤ 8205) ∨ (8304 ≤ y.toInt ∧ y.toInt ≤ 8591) ∨ (11264 ≤ y.toInt ∧ y.toInt ≤ 12271) ∨ (12289 ≤ y.toInt ∧ y.toInt ≤ 55295) ∨ (63744 ≤ y.toInt ∧ y.toInt ≤ 64975) ∨ (65008 ≤ y.toInt ∧ y.toInt ≤ 65533) ∨ (65536 ≤ y.toInt ∧ y.toInt ≤ 983039))).toInt) rfl rfl at_246 (by decide) (pc' := 253) (by decide) (pcN := 249) rfl (fun (c_206 : ¬ ((bi ((97 ≤ y.toInt ∧ y.toInt ≤ 122) ∨ (65 ≤ y.toInt ∧ y.toInt ≤ 90) ∨ (95 ≤ y.toInt ∧ y.toInt ≤ 95) ∨ (192 ≤ y.toInt ∧ y.toInt ≤ 214) ∨ (216 ≤ y.toInt ∧ y.toInt ≤ 246) ∨ (248 ≤ y.toInt ∧ y.toInt ≤ 767) ∨ (880 ≤ y.toInt ∧ y.toInt ≤ 893) ∨ (895 ≤ y.toInt ∧ y.toInt ≤ 8191) ∨ (8204 ≤ y.toInt ∧ y.toInt ≤ 8205) ∨ (8304 ≤ y.toInt ∧ y.toInt ≤ 8591) ∨ (11264 ≤ y.toInt ∧ y.toInt ≤ 12271) ∨ (12289 ≤ y.toInt ∧ y.toInt ≤ 55295) ∨ (63744 ≤ y.toInt ∧ y.toInt ≤ 64975) ∨ (65008 ≤ y.toInt ∧ y.toInt ≤ 65533) ∨ (65536 ≤ y.toInt ∧ y.toInt ≤ 983039))).toInt) = ((bi ((97 ≤ y.toInt ∧ y.toInt ≤ 122) ∨ (65 ≤ y.toInt ∧ y.toInt ≤ 90) ∨ (95 ≤ y.toInt ∧ y.toInt ≤ 95) ∨ (192 ≤ y.toInt ∧ y.toInt ≤ 214) ∨ (216 ≤ y.toInt ∧ y.toInt ≤ 246) ∨ (248 ≤ y.toInt ∧ y.toInt ≤ 767) ∨ (880 ≤ y.toInt ∧ y.toInt ≤ 893) ∨ (895 ≤ y.toInt ∧ y.toInt ≤ 8191) ∨ (8204 ≤ y.toInt ∧ y.toInt ≤ 8205) ∨ (8304 ≤ y.toInt ∧ y.toInt ≤ 8591) ∨ (11264 ≤ y.toInt ∧ y.toInt ≤ 12271) ∨ (12289 ≤ y.toInt ∧ y.toInt ≤ 55295) ∨ (63744 ≤ y.toInt ∧ y.toInt ≤ 64975) ∨ (65008 ≤ y.toInt ∧ y.toInt ≤ 65533) ∨ (65536 ≤ y.toInt ∧ y.toInt ≤ 983039))).toInt)) => by omega) (fun (c_206 : ((bi ((97 ≤ y.toInt ∧ y.toInt ≤ 122) ∨ (65 ≤ y.toInt ∧ y.toInt ≤ 90) ∨ (95 ≤ y.toInt ∧ y.toInt ≤ 95) ∨ (192 ≤ y.toInt ∧ y.toInt ≤ 214) ∨ (216 ≤ y.toInt ∧ y.toInt ≤ 246) ∨ (248 ≤ y.toInt ∧ y.toInt ≤ 767) ∨ (880 ≤ y.toInt ∧ y.toInt ≤ 893) ∨ (895 ≤ y.toInt ∧ y.toInt ≤ 8191) ∨ (8204 ≤ y.toInt ∧ y.toInt ≤ 8205) ∨ (8304 ≤ y.toInt ∧ y.toInt ≤ 8591) ∨ (11264 ≤ y.toInt ∧ y.toInt ≤ 12271) ∨ (12289 ≤ y.toInt ∧ y.toInt ≤ 55295) ∨ (63744 ≤ y.toInt ∧ y.toInt ≤ 64975) ∨ (65008 ≤ y.toInt ∧ y.toInt ≤ 65533) ∨ (65536 ≤ y.toInt ∧ y.toInt ≤ 983039))).toInt) = ((bi ((97 ≤ y.toInt ∧ y.toInt ≤ 122) ∨ (65 ≤ y.toInt ∧ y.toInt ≤ 90) ∨ (95 ≤ y.toInt ∧ y.toInt ≤ 95) ∨ (192 ≤ y.toInt ∧ y.toInt ≤ 214) ∨ (216 ≤ y.toInt ∧ y.toInt ≤ 246) ∨ (248 ≤ y.toInt ∧ y.toInt ≤ 767) ∨ (880 ≤ y.toInt ∧ y.toInt ≤ 893) ∨ (895 ≤ y.toInt ∧ y.toInt ≤ 8191) ∨ (8204 ≤ y.toInt ∧ y.toInt ≤ 8205) ∨ (8304 ≤ y.toInt ∧ y.toInt ≤ 8591) ∨ (11264 ≤ y.toInt ∧ y.toInt ≤ 12271) ∨ (12289 ≤ y.toInt ∧ y.toInt ≤ 55295) ∨ (63744 ≤ y.toInt ∧ y.toInt ≤ 64975) ∨ (65008 ≤ y.toInt ∧ y.toInt ≤ 65533) ∨ (65536 ≤ y.toInt ∧ y.toInt ≤ 983039))).toInt)) => ?_)
  refine go_iconst C (1 : Int32) at_249 (pc' := 250) rfl (by decide) ?_
  refine go_goto C at_250 (by decide) (pc' := 254) (by decide) ?_
  refine go_ireturnN C (z' := (1 : Int32)) rfl (by simp) rfl at_254 (by decide) (by decide) ?_
  exact ⟨_, rfl, rfl⟩
set_option maxRecDepth 65536 in
set_option maxHeartbeats 40000000 in
theorem comes_1 {Post : Tables → Env → Array Value → State → Outcome → State → Prop} (hpost : ∀ tb e args s v u, (limb_1_1.after args s (.returned v) u = true ∧ limb_1_2.after args s (.returned v) u = true ∧ True) → FrameEnd s (.returned v) u (Jvm.fieldLocs frame_1_writes args s ++ Jvm.arrayLocs frame_1_arrays args s ++ Jvm.staticLocs frame_1_statics s) 16 128 → Post tb e args s (.returned v) u) :
    ArmFor flags0 classFile x code maxLocals ret World_1 tables_1 room_1 Calls_1 rest_1 Pre_1 Post := by
  intro l hfl _ _ p e ha hc hk s m args below hf hA hF happ hP
  obtain ⟨hcalls, hrest, hpre⟩ := hP
  obtain ⟨-, -, -, hnamed, -, -, -, hat⟩ := (Spec.applies_iff hf).mp happ
  obtain ⟨hg, hn⟩ := and_e (Cond.before_iff.mp (show (Jvm.Cond.and given_1 narrow_1).before args s = true from hpre))
  obtain ⟨k0, g0⟩ := and_e hg
  obtain ⟨k1, g1⟩ := and_e g0
  obtain ⟨k2, g2⟩ := and_e g1
  obtain ⟨w0, w1, w2, rfl⟩ : ∃ w0 w1 w2 : Value, args = #[w0, w1, w2] := by
    have hs : args.size = 3 := by simpa [Cond.value, given_1] using k0
    obtain ⟨L⟩ := args
    match L, hs with
    | [w0, w1, w2], _ => exact ⟨w0, w1, w2, rfl⟩
  have hw := fun d (hd : d ∈ tables_1) => atoms_spec (ws := Jvm.Cond.code x code maxLocals ret :: tables_1) hat d (List.mem_cons_of_mem _ hd)
  obtain ⟨i0, e0⟩ := is_v k1
  obtain ⟨i1, e1⟩ := is_v k2
  obtain ⟨i2, e2⟩ := is_v g2
  obtain rfl : w0 = (.int i0) := Option.some.inj e0
  obtain rfl : w1 = (.int i1) := Option.some.inj e1
  obtain rfl : w2 = (.int i2) := Option.some.inj e2
  obtain ⟨n, o, h1, h2, h3, _, L, rfl, ⟨⟨_, rfl, rfl⟩, N⟩, hq⟩ := law_sat l s _ hw i0 i1 i2 tables_1 p e ha hc hk s m _ below hf ((Spec.applies_iff_loose hf).mp happ).1 ⟨rfl, State.Warmed39.refl s, rfl⟩ trivial
  refine ⟨n, _, h1, h2, h3, hpost _ _ _ _ _ _ ⟨Cond.after_iff.mpr rfl, Cond.after_iff.mpr (eq_i res_at (Term.int_eval (1)) rfl), trivial⟩ ⟨hq.1, hq.2.1, (hq.2.2.sift fun y hy => Or.inr (N y hy)).mono (by decide) (by decide)⟩⟩
theorem main_1_1 : Claimed_1_1 := comes_1 fun _ _ _ _ _ _ h hF => ⟨h.1, hF⟩
theorem main_1_2 : Claimed_1_2 := comes_1 fun _ _ _ _ _ _ h hF => ⟨h.2.1, hF⟩
end Jvm.Pilot.@@N@@
namespace Jvm.Pilot.@@N@@
open Jvm Jvm.ClassFile Sem Op Lib Jvm.Free Jvm.Stand Jvm.Pilot.@@N@@.Jvm.D
/-! MADE BY PROGRAM (witnessworld.py) out of the Statement's table words and the real class files: 9 classes; the members and pool entries that the words name. The judged class is class 1, her method 1. -/
namespace start1
open Jvm.ClassFile
def u (s : String) : CpInfo := .utf8 (stringToUtf16 s)
/-- a pool by its gaps: so many unusable entries, then the entry; so many at the end -/
def gap : Nat → List CpInfo → List CpInfo
  | 0, r => r
  | n + 1, r => .unusable :: gap n r
def poolList (es : List (Nat × CpInfo)) (last : Nat) : List CpInfo := es.foldr (fun e r => gap e.1 (e.2 :: r)) (gap last [])
def pool (es : List (Nat × CpInfo)) (last : Nat) : Array CpInfo := ⟨poolList es last⟩
def fileOf (pool : Array CpInfo) (this : Nat) (attrs : Array Attribute := #[]) (ms : Array MethodInfo := #[]) (fl : Nat := 33) (sup : Nat := 0) (ifs : Array Nat := #[]) (fds : Array FieldInfo := #[]) : ClassFile where
  minorVersion := 0
  majorVersion := 65
  constantPool := pool
  accessFlags := fl
  thisClass := this
  superClass := sup
  interfaces := ifs
  fields := fds
  methods := ms
  attributes := attrs
def plain (name : String) (sup : Option ClassId) : Class where
  name := name
  kind := .ordinary
  loader := none
  accessFlags := 33
  super := sup
  interfaces := #[]
  cf := none
  fields := #[]
  methods := #[]
  instanceTypes := #[]
  staticTypes := #[]
  resolved := #[]
  callSites := []
  init := .initialized
  statics := none
  mirror := none

def pool0 : Array CpInfo := pool [(5, u "<init>"), (0, u "()V"), (1, .class_ 10), (1, u "java/lang/Object")] 113

def k0m0 : Method := { name := "<init>", desc := "()V", sig := { parameters := [], returnType := none }, accessFlags := 1, code := none }
/-- java/lang/Object -/
def k0 : Class := { plain "java/lang/Object" none with
  accessFlags := 33
  interfaces := #[]
  cf := some (fileOf pool0 8 #[] #[{ accessFlags := 1, nameIndex := 5, descriptorIndex := 6, attributes := #[] }] 33 0 #[] #[])
  fields := #[]
  methods := #[k0m0]
  instanceTypes := #[]
  staticTypes := #[]
  resolved := Array.replicate 124 none
  statics := none }

def pool1 : Array CpInfo := pool [(2, .class_ 4), (1, u "java/lang/Object"), (0, u "<init>"), (0, u "()V"), (0, .integer 55295), (0, .integer 63744), (0, .integer 64975), (0, .integer 65008), (0, .integer 65533), (0, .integer 65536), (0, .integer 983039), (0, .integer 2147483647), (0, .methodref 16 17), (0, .class_ 18), (0, .nameAndType 19 20), (0, u "com/example/cardinality/cardinality/XmlCharacters"), (0, u "isNcNameStartChar"), (0, u "(I)Z"), (0, .methodref 22 23), (0, .class_ 24), (0, .nameAndType 25 20), (0, u "com/example/cardinality/cardinality/XmlCharactersIsNcNameStartCharPinLaw"), (0, u "expected"), (0, .integer 55296), (0, .integer 63743), (0, .integer 64976), (0, .integer 65007), (0, .integer 65534), (2, u "law"), (0, u "(III)Z")] 5

def k1m0 : Method := { name := "<init>", desc := "()V", sig := { parameters := [], returnType := none }, accessFlags := 2, code := none }
def k1c1 : Code := { maxStack := 4, maxLocals := 5, code := code, exceptionTable := #[], attributes := #[] }
def k1m1 : Method := { name := "law", desc := "(III)Z", sig := { parameters := [.int, .int, .int], returnType := some .boolean }, accessFlags := 9, code := some k1c1 }
def k1c2 : Code := { maxStack := 2, maxLocals := 2, code := method_3_code, exceptionTable := #[], attributes := #[] }
def k1m2 : Method := { name := "expected", desc := "(I)Z", sig := { parameters := [.int], returnType := some .boolean }, accessFlags := 10, code := some k1c2 }
/-- com/example/cardinality/cardinality/XmlCharactersIsNcNameStartCharPinLaw -/
def k1 : Class := { plain "com/example/cardinality/cardinality/XmlCharactersIsNcNameStartCharPinLaw" (some 0) with
  accessFlags := 49
  interfaces := #[]
  cf := some (fileOf pool1 22 #[] #[{ accessFlags := 2, nameIndex := 5, descriptorIndex := 6, attributes := #[] }, { accessFlags := 9, nameIndex := 33, descriptorIndex := 34, attributes := #[] }, { accessFlags := 10, nameIndex := 25, descriptorIndex := 20, attributes := #[] }] 49 2 #[] #[])
  fields := #[]
  methods := #[k1m0, k1m1, k1m2]
  instanceTypes := #[]
  staticTypes := #[]
  resolved := Array.replicate 40 none
  statics := none }

def pool2 : Array CpInfo := pool [(2, .class_ 4), (1, u "java/lang/Object"), (0, u "<init>"), (0, u "()V"), (0, .integer 55295), (1, .integer 65533), (0, .integer 65536), (2, .class_ 15), (1, u "com/example/cardinality/cardinality/XmlCharacters"), (0, u "isNcNameStartChar"), (0, u "(I)Z"), (3, .integer 63744), (0, .integer 64975), (0, .integer 65008), (0, .integer 983039), (48, u "DECIMAL_REFERENCE"), (0, u "Ljava/util/regex/Pattern;"), (19, u "HEX_REFERENCE")] 45

def k2m0 : Method := { name := "<init>", desc := "()V", sig := { parameters := [], returnType := none }, accessFlags := 2, code := none }
def k2c1 : Code := { maxStack := 2, maxLocals := 1, code := prog_270_method_5_code, exceptionTable := #[], attributes := #[] }
def k2m1 : Method := { name := "isNcNameStartChar", desc := "(I)Z", sig := { parameters := [.int], returnType := some .boolean }, accessFlags := 8, code := some k2c1 }
/-- com/example/cardinality/cardinality/XmlCharacters -/
def k2 : Class := { plain "com/example/cardinality/cardinality/XmlCharacters" (some 0) with
  accessFlags := 48
  interfaces := #[]
  cf := some (fileOf pool2 13 #[] #[{ accessFlags := 2, nameIndex := 5, descriptorIndex := 6, attributes := #[] }, { accessFlags := 8, nameIndex := 16, descriptorIndex := 17, attributes := #[] }] 48 2 #[] #[{ accessFlags := 26, nameIndex := 73, descriptorIndex := 74, attributes := #[] }, { accessFlags := 26, nameIndex := 94, descriptorIndex := 74, attributes := #[] }])
  fields := #[{ name := "DECIMAL_REFERENCE", type := (.object "java/util/regex/Pattern"), accessFlags := 26, slot := 0, constantValue := 0 }, { name := "HEX_REFERENCE", type := (.object "java/util/regex/Pattern"), accessFlags := 26, slot := 1, constantValue := 0 }]
  methods := #[k2m0, k2m1]
  instanceTypes := #[]
  staticTypes := #[(.object "java/util/regex/Pattern"), (.object "java/util/regex/Pattern")]
  resolved := Array.replicate 140 none
  statics := none }

def pool3 : Array CpInfo := pool [(1, u "java/lang/Cloneable"), (0, .class_ 1), (0, u "java/lang/Object"), (0, .class_ 3)] 3

/-- java/lang/Cloneable -/
def k3 : Class := { plain "java/lang/Cloneable" (some 0) with
  accessFlags := 1537
  interfaces := #[]
  cf := some (fileOf pool3 2 #[] #[] 1537 4 #[] #[])
  fields := #[]
  methods := #[]
  instanceTypes := #[]
  staticTypes := #[]
  resolved := Array.replicate 8 none
  statics := none }

def pool4 : Array CpInfo := pool [(1, u "java/io/Serializable"), (0, .class_ 1), (0, u "java/lang/Object"), (0, .class_ 3)] 3

/-- java/io/Serializable -/
def k4 : Class := { plain "java/io/Serializable" (some 0) with
  accessFlags := 1537
  interfaces := #[]
  cf := some (fileOf pool4 2 #[] #[] 1537 4 #[] #[])
  fields := #[]
  methods := #[]
  instanceTypes := #[]
  staticTypes := #[]
  resolved := Array.replicate 8 none
  statics := none }

/-- the primitive byte -/
def k5 : Class := { plain "byte" none with kind := .primitive 'B', accessFlags := 0x411 }
/-- [B -/
def k6 : Class := { plain "[B" (some 0) with kind := .array 5 .byte, interfaces := #[3, 4], accessFlags := 1041 }

/-- the primitive int -/
def k7 : Class := { plain "int" none with kind := .primitive 'I', accessFlags := 0x411 }
/-- [I -/
def k8 : Class := { plain "[I" (some 0) with kind := .array 7 .int, interfaces := #[3, 4], accessFlags := 1041 }

def heap : Heap := #[]
def classes : Array Class := #[k0, k1, k2, k3, k4, k5, k6, k7, k8]
def interned : List (Array UInt16 × Addr) := []
def slotsUsed : Nat := 0
def theMethod : MethodId := ⟨1, 1⟩
def args0 : Array Value := #[.int 3, .int 4, .int 5]
def aboutOver (below : List Frame) : State where
  vm := { classes := classes, interned := interned.toArray }
  heap := heap
  slotsUsed := slotsUsed
  threads := #[{ frames := .invoking theMethod args0 :: below }]
def below0 : List Frame := [.native { method := ⟨0, 0⟩, args := #[] }]
def about1 : State := aboutOver below0
def p0 : Program := .bare "" "" ""
def e0 : Env := launch0.env 0 0 0
theorem w_frames : about1.frames = Frame.invoking theMethod args0 :: below0 := rfl
set_option maxRecDepth 65536 in
theorem w_args : argsFit about1.vm theMethod args0 = true := by decide +kernel
set_option maxRecDepth 65536 in
theorem w_heap : heapFits about1 = true := by decide +kernel
set_option maxRecDepth 65536 in
theorem w_runnable : about1.curStatus? = some .runnable := by decide +kernel
set_option maxRecDepth 65536 in
theorem w_alone : about1.alone = true := by decide +kernel
set_option maxRecDepth 65536 in
theorem w_named : about1.methodNamed? x = some theMethod := by decide +kernel
set_option maxRecDepth 65536 in
theorem w_hears : about1.hears theMethod below0 = true := by decide +kernel
set_option maxRecDepth 65536 in
theorem w_ripe : about1.ripe theMethod args0 below0 = true := by decide +kernel
theorem w_running : about1.status = .running := rfl
set_option maxRecDepth 65536 in
theorem w_room : about1.hasRoom e0.platform room_1 = true :=
  launch0.hasRoom_least _ room_1 (by decide +kernel) (by decide +kernel) (by decide +kernel) (by decide +kernel) (by decide +kernel) (by decide +kernel)
theorem allAtoms_all (ts : List Jvm.Cond) (a : Array Jvm.Value) (st : Jvm.State) : (allAtoms ts).before a st = ts.all (fun c => c.before a st) := by
  induction ts with
  | nil => rfl
  | cons c t ih =>
    show (Jvm.Cond.and c (allAtoms t)).before a st = _
    rw [Jvm.Cond.before_and, ih, List.all_cons]
def words1 : List Jvm.Cond := Jvm.Cond.code x code maxLocals ret :: tables_1
/-- a 'code' word, met by the world's own term for the bytes: nothing is compared byte by byte -/
theorem code_word {y : MethodName} {bytes : ByteArray} {mx : Nat} {rt : Option FieldType} {a : Array Value} {s : State} {m : MethodId} {meth : Method} {c : Code} (h1 : s.methodNamed? y = some m) (h2 : s.vm.method? m = some meth) (h3 : meth.code = some c) (h4 : c.code = bytes)
    (h5 : (c.maxLocals == mx && c.exceptionTable.isEmpty && decide (c.maxStack ≤ mostOperands) && decide (meth.sig.returnType = rt) && !meth.locks && decide (parseMethodDescriptor y.desc = some meth.sig)) = true) : (Jvm.Cond.code y bytes mx rt).before a s = true := by
  simp only [Bool.and_eq_true, beq_iff_eq, Bool.not_eq_true', decide_eq_true_eq] at h5
  obtain ⟨⟨⟨⟨⟨g1, g2⟩, g3⟩, g4⟩, g5⟩, g6⟩ := h5
  simp [Cond.before, Cond.holds, Cond.value, h1, h2, h3, h4, g1, g2, g3, g4, g5, g6]
def isCode : Jvm.Cond → Bool
  | .code _ _ _ _ => true
  | _ => false
theorem all_split {L : List Jvm.Cond} {P : Jvm.Cond → Bool} (h1 : L.all (fun c => isCode c || P c) = true) (h2 : ∀ c ∈ L.filter isCode, P c = true) : L.all P = true := by
  refine List.all_eq_true.mpr fun c hc => ?_
  have h := List.all_eq_true.mp h1 c hc
  rcases Bool.eq_false_or_eq_true (isCode c) with hi | hi
  · exact h2 c (List.mem_filter.mpr ⟨hc, hi⟩)
  · simpa [hi] using h
set_option maxRecDepth 65536 in
theorem w_c0 : (Jvm.Cond.code x code maxLocals ret).before args0 about1 = true := code_word (m := ⟨1, 1⟩) (meth := k1m1) (c := k1c1) (by decide +kernel) rfl rfl rfl (by decide +kernel)
set_option maxRecDepth 65536 in
theorem w_c1 : (Jvm.Cond.code ({ cls := "com/example/cardinality/cardinality/XmlCharacters", name := "isNcNameStartChar", desc := "(I)Z" } : Jvm.MethodName) prog_270_method_5_code (1 : Nat) (Option.some Jvm.ClassFile.FieldType.boolean)).before args0 about1 = true := code_word (m := ⟨2, 1⟩) (meth := k2m1) (c := k2c1) (by decide +kernel) rfl rfl rfl (by decide +kernel)
set_option maxRecDepth 65536 in
theorem w_c2 : (Jvm.Cond.code ({ cls := "com/example/cardinality/cardinality/XmlCharactersIsNcNameStartCharPinLaw", name := "expected", desc := "(I)Z" } : Jvm.MethodName) method_3_code (2 : Nat) (Option.some Jvm.ClassFile.FieldType.boolean)).before args0 about1 = true := code_word (m := ⟨1, 2⟩) (meth := k1m2) (c := k1c2) (by decide +kernel) rfl rfl rfl (by decide +kernel)
def codes1 : List Jvm.Cond := [Jvm.Cond.code x code maxLocals ret, Jvm.Cond.code ({ cls := "com/example/cardinality/cardinality/XmlCharacters", name := "isNcNameStartChar", desc := "(I)Z" } : Jvm.MethodName) prog_270_method_5_code (1 : Nat) (Option.some Jvm.ClassFile.FieldType.boolean), Jvm.Cond.code ({ cls := "com/example/cardinality/cardinality/XmlCharactersIsNcNameStartCharPinLaw", name := "expected", desc := "(I)Z" } : Jvm.MethodName) method_3_code (2 : Nat) (Option.some Jvm.ClassFile.FieldType.boolean)]
set_option maxRecDepth 65536 in
theorem codes_eq : words1.filter isCode = codes1 := rfl
theorem w_codes : ∀ c ∈ words1.filter isCode, c.before args0 about1 = true := by
  rw [codes_eq]
  intro c hc
  simp only [codes1, List.mem_cons, List.not_mem_nil, or_false] at hc
  rcases hc with rfl | rfl | rfl
  · exact w_c0
  · exact w_c1
  · exact w_c2
set_option maxRecDepth 65536 in
theorem w_t1 : (words1.take 24).all (fun c => isCode c || c.before args0 about1) = true := by decide +kernel
set_option maxRecDepth 65536 in
theorem w_t2 : (words1.drop 24).all (fun c => isCode c || c.before args0 about1) = true := by decide +kernel
theorem w_tables : (allAtoms (Jvm.Cond.code x code maxLocals ret :: tables_1)).before args0 about1 = true := by
  rw [allAtoms_all]
  show words1.all (fun c => c.before args0 about1) = true
  refine all_split ?_ w_codes
  rw [← List.take_append_drop 24 words1, List.all_append, w_t1, w_t2]
  rfl
set_option maxRecDepth 65536 in
theorem w_case : (Jvm.Cond.and given_1 narrow_1).before args0 about1 = true := by decide +kernel
theorem w_applies : (headSpec (Jvm.Cond.code x code maxLocals ret :: tables_1) room_1).applies x e0.platform about1 = true :=
  (Spec.applies_iff w_frames).mpr ⟨w_running, w_runnable, w_alone, w_named, w_hears, w_ripe, w_room, w_tables⟩
theorem atStart : AtStart classFile x code maxLocals ret World_1 tables_1 room_1 Calls_1 rest_1 Pre_1 launch0 p0 e0 about1 theMethod args0 below0 :=
  ⟨lists_1, trivial, launch0.admits_env _ _ _, launch0.least_env, fairChoices_fair.cas, fairChoices_fair.clock, w_frames, w_args, w_heap, w_applies, trivial, trivial, w_case⟩
end start1
theorem witness_1 : WitnessClaimed_1 := ⟨start1.p0, start1.e0, start1.about1, start1.theMethod, start1.args0, start1.below0, start1.atStart⟩
end Jvm.Pilot.@@N@@
