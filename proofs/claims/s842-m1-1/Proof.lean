import JvmDerived
import JvmDerived.Pilot.@@N@@Statement
import JvmDerived.Pilot.@@N@@Code
set_option linter.unusedVariables false
set_option linter.unusedSimpArgs false
@@BLOCK:NumsL.lean.txt@@
namespace Jvm.Pilot.@@N@@
open Jvm Jvm.ClassFile Sem Op Lib Jvm.Free Jvm.Stand Jvm.LawKit Jvm.RoadKit Bundle Jvm.Pilot.@@N@@.Jvm.D
section OwnLayer
/-- the surroundings of a walk: what stays the same from step to step -/
def Cx (p : Program) (s : State) (m : MethodId) (meth : Method) (c : Code) (Z : State) (own : String) (bs : ByteArray) (mx : Nat) (rt : Option FieldType) (nm : String) : Prop :=
  p.tables.exec = Jvm.exec ∧ c.code = bs ∧ c.maxLocals = mx ∧ Z.Warmed39 s.vm ∧ s.vm.findClass own = some m.cls ∧ meth.sig.returnType = rt ∧ meth.locks = false ∧ meth.name = nm
/-- wherever the walk stands with heap h and top frame g, it comes to its end, and Q holds there -/
def Go (p : Program) (l : Launch) (e : Env) (R : Room) (s : State) (m : MethodId) (args : Array Value) (below : List Frame) (meth : Method) (c : Code) (n0 : Nat) (Q : Option Value → Heap → Prop) (K N : Nat) (h : Heap) (ce sl : Nat) (g : JFrame) : Prop :=
  ∀ (T : State) (locs : List Loc), Stand p l e R s m args below meth c T locs ce sl → T.heap = h → Fr n0 locs →
    ∃ s₂ o, Steps p.tables e below (T.setTop g) s₂ ∧ s₂.status = .running ∧ Ended s₂ below o ∧ ∃ v L, o = .returned v ∧ (Q v s₂.heap ∧ Fr n0 L) ∧ FrameEnd s o s₂ L K N
/-- a method's contract, for given arguments and a given heap -/
def Sat (l : Launch) (Z : State) (y : MethodName) (bs : ByteArray) (mx : Nat) (rt : Option FieldType) (rm : Room) (as : List Value) (h0 : Heap) (n0 : Nat) (Q : Option Value → Heap → Prop) : Prop :=
  ∀ ws : List Jvm.Cond, MetFree l y (head1 (Jvm.Cond.code y bs mx rt :: ws) rm) (fun a U => a = as.toArray ∧ Z.Warmed39 U.vm ∧ U.heap = h0) (fun _ _ _ _ _ => True) (fun _ U o U' => ∃ v L, o = .returned v ∧ (Q v U'.heap ∧ Fr n0 L) ∧ FrameEnd U o U' L rm.cells rm.slots)
def RV (P : Value → Heap → Prop) : Option Value → Heap → Prop := fun v h => ∃ r, v = some r ∧ P r h
def RN (P : Heap → Prop) : Option Value → Heap → Prop := fun v h => v = none ∧ P h
def wt (st : List Value) : Nat := (st.map fun v => v.category).sum
def bi (P : Prop) [Decidable P] : Int32 := if P then 1 else 0
theorem bi_t {P : Prop} [Decidable P] (h : P) : bi P = 1 := if_pos h
theorem bi_f {P : Prop} [Decidable P] (h : ¬ P) : bi P = 0 := if_neg h
theorem bi1 {P : Prop} [Decidable P] (h : P) : (1 : Int32) = bi P := (if_pos h).symm
theorem bi0 {P : Prop} [Decidable P] (h : ¬ P) : (0 : Int32) = bi P := (if_neg h).symm
theorem bi_congr {P P' : Prop} [Decidable P] [Decidable P'] (h : P ↔ P') : bi P = bi P' := by
  by_cases q : P
  · rw [bi_t q, bi_t (h.mp q)]
  · rw [bi_f q, bi_f fun z => q (h.mpr z)]
theorem bi_nar (P : Prop) [Decidable P] : nar .boolean (bi P) = bi P := by
  by_cases q : P
  · rw [bi_t q]; rfl
  · rw [bi_f q]; rfl
theorem bi_inj {P P' : Prop} [Decidable P] [Decidable P'] (h : bi P = bi P') : P ↔ P' := by
  by_cases q : P <;> by_cases q' : P' <;> simp_all [bi]
theorem bi_narrow (P : Prop) [Decidable P] : narrow .boolean (.int (bi P)) = .int (bi P) := by
  by_cases q : P
  · rw [bi_t q]; rfl
  · rw [bi_f q]; rfl
theorem bi_fits (P : Prop) [Decidable P] : fits .boolean (.int (bi P)) = true := by
  by_cases q : P
  · rw [bi_t q]; rfl
  · rw [bi_f q]; rfl
theorem bi_toInt (P : Prop) [Decidable P] : (bi P).toInt = if P then 1 else 0 := by
  by_cases q : P
  · rw [bi_t q, if_pos q]; rfl
  · rw [bi_f q, if_neg q]; rfl
theorem own_add_t {P : Prop} [Decidable P] (n : Int32) (h : P) : n + 1 = n + bi P := by rw [bi_t h]
theorem own_add_f {P : Prop} [Decidable P] (n : Int32) (h : ¬ P) : n = n + bi P := by rw [bi_f h, Int32.add_zero]
theorem own_narrow_arr {v : Value} {t : FieldType} (h : v.isRef = true) : narrow (.array t) v = v := by
  cases v <;> first | rfl | simp [Value.isRef] at h
theorem own_fits_arr {v : Value} {t : FieldType} (h : v.isRef = true) : fits (.array t) v = true := by
  cases v <;> first | rfl | simp [Value.isRef] at h
theorem own_bb (x : Int32) : x.toInt8.toInt32.toInt8.toInt32 = x.toInt8.toInt32 := by simp
theorem own_ne_new {h : Heap} {a b : Addr} (q : b < h.size) (g : h.size = a) : b ≠ a := Nat.ne_of_lt (g ▸ q)
theorem own_ge {h : Heap} {a : Addr} {n : Nat} (q : n ≤ h.size) (g : h.size = a) : n ≤ a := g ▸ q
theorem int_eq {x y : Int32} (h : x.toInt = y.toInt) : x = y := Int32.toInt_inj.mp h
theorem long_eq {x y : Int64} (h : x.toInt = y.toInt) : x = y := Int64.toInt_inj.mp h
section Walk
variable {p : Program} {l : Launch} {e : Env} {R : Room} {s : State} {m : MethodId} {args : Array Value} {below : List Frame} {meth : Method} {c : Code} {Z : State} {a0 : Array Value} {own : String} {bs : ByteArray} {mx : Nat} {rt : Option FieldType} {nm : String} {n0 : Nat} {Q : Option Value → Heap → Prop} {K N : Nat} {h : Heap} {ce sl : Nat} {pc pc' : Nat} {Ls Ls' : Array Slot} {st : List Value} {g g' : JFrame}
theorem Go.step (H : ∀ (T : State), At T m c below → ∀ target, Steps p.tables e below (T.setTop g') target → Steps p.tables e below (T.setTop g) target) (hr : Go p l e R s m args below meth c n0 Q K N h ce sl g') : Go p l e R s m args below meth c n0 Q K N h ce sl g := fun T locs X eT Nn => by
  obtain ⟨s₂, o, h1, r⟩ := hr T locs X eT Nn
  exact ⟨s₂, o, H T X.here _ h1, r⟩
theorem Go.stepX (H : ∀ (T : State) (locs : List Loc), Stand p l e R s m args below meth c T locs ce sl → T.heap = h → ∀ target, Steps p.tables e below (T.setTop g') target → Steps p.tables e below (T.setTop g) target) (hr : Go p l e R s m args below meth c n0 Q K N h ce sl g') : Go p l e R s m args below meth c n0 Q K N h ce sl g := fun T locs X eT Nn => by
  obtain ⟨s₂, o, h1, r⟩ := hr T locs X eT Nn
  exact ⟨s₂, o, H T locs X eT _ h1, r⟩
theorem Go.more {ce' sl' : Nat} (hc : ce ≤ ce') (hs : sl ≤ sl') (hr : Go p l e R s m args below meth c n0 Q K N h ce' sl' g) : Go p l e R s m args below meth c n0 Q K N h ce sl g := fun T locs X eT Nn => hr T locs (X.more hc hs) eT Nn
theorem go_iloadN (C : Cx p s m meth c Z own bs mx rt nm) {k : Fin 4} {v : Int32} (hd : decode bs pc = .ok (.iload_n k, 1)) (hp : pc + 1 = pc') (hl : Ls[k.val]? = some (.val (.int v))) (hr : Go p l e R s m args below meth c n0 Q K N h ce sl (mkF m pc' Ls (.int v :: st))) : Go p l e R s m args below meth c n0 Q K N h ce sl (mkF m pc Ls st) := by
  subst hp
  exact Go.step (fun T A _ q => XS.iloadN A C.1 rfl (hb C.2.1 hd) hl q) hr
theorem go_iload (C : Cx p s m meth c Z own bs mx rt nm) {k : Nat} {v : Int32} (hd : decode bs pc = .ok (.iload k, 2)) (hp : pc + 2 = pc') (hl : Ls[k]? = some (.val (.int v))) (hr : Go p l e R s m args below meth c n0 Q K N h ce sl (mkF m pc' Ls (.int v :: st))) : Go p l e R s m args below meth c n0 Q K N h ce sl (mkF m pc Ls st) := by
  subst hp
  exact Go.step (fun T A _ q => XS.iload A C.1 rfl (hb C.2.1 hd) hl q) hr
theorem go_lloadN (C : Cx p s m meth c Z own bs mx rt nm) {k : Fin 4} {v : Int64} (hd : decode bs pc = .ok (.lload_n k, 1)) (hp : pc + 1 = pc') (hl : Ls[k.val]? = some (.val (.long v))) (hr : Go p l e R s m args below meth c n0 Q K N h ce sl (mkF m pc' Ls (.long v :: st))) : Go p l e R s m args below meth c n0 Q K N h ce sl (mkF m pc Ls st) := by
  subst hp
  exact Go.step (fun T A _ q => XT.lloadN A C.1 rfl (hb C.2.1 hd) hl q) hr
theorem go_lload (C : Cx p s m meth c Z own bs mx rt nm) {k : Nat} {v : Int64} (hd : decode bs pc = .ok (.lload k, 2)) (hp : pc + 2 = pc') (hl : Ls[k]? = some (.val (.long v))) (hr : Go p l e R s m args below meth c n0 Q K N h ce sl (mkF m pc' Ls (.long v :: st))) : Go p l e R s m args below meth c n0 Q K N h ce sl (mkF m pc Ls st) := by
  subst hp
  exact Go.step (fun T A _ q => XT.lload A C.1 rfl (hb C.2.1 hd) hl q) hr
theorem go_aloadN (C : Cx p s m meth c Z own bs mx rt nm) {k : Fin 4} {v : Value} (hd : decode bs pc = .ok (.aload_n k, 1)) (hp : pc + 1 = pc') (hl : Ls[k.val]? = some (.val v)) (hv : v.isRef = true) (hr : Go p l e R s m args below meth c n0 Q K N h ce sl (mkF m pc' Ls (v :: st))) : Go p l e R s m args below meth c n0 Q K N h ce sl (mkF m pc Ls st) := by
  subst hp
  exact Go.step (fun T A _ q => XS.aloadN A C.1 rfl (hb C.2.1 hd) hl hv q) hr
theorem go_aload (C : Cx p s m meth c Z own bs mx rt nm) {k : Nat} {v : Value} (hd : decode bs pc = .ok (.aload k, 2)) (hp : pc + 2 = pc') (hl : Ls[k]? = some (.val v)) (hv : v.isRef = true) (hr : Go p l e R s m args below meth c n0 Q K N h ce sl (mkF m pc' Ls (v :: st))) : Go p l e R s m args below meth c n0 Q K N h ce sl (mkF m pc Ls st) := by
  subst hp
  exact Go.step (fun T A _ q => XS.aload A C.1 rfl (hb C.2.1 hd) hl hv q) hr
theorem go_istoreN (C : Cx p s m meth c Z own bs mx rt nm) {k : Fin 4} {v : Int32} (hd : decode bs pc = .ok (.istore_n k, 1)) (hp : pc + 1 = pc') (hl : storeLocals Ls k.val (.int v) = some Ls') (hr : Go p l e R s m args below meth c n0 Q K N h ce sl (mkF m pc' Ls' st)) : Go p l e R s m args below meth c n0 Q K N h ce sl (mkF m pc Ls (.int v :: st)) := by
  subst hp
  exact Go.step (fun T A _ q => XS.istoreN A C.1 rfl (hb C.2.1 hd) rfl hl q) hr
theorem go_istore (C : Cx p s m meth c Z own bs mx rt nm) {k : Nat} {v : Int32} (hd : decode bs pc = .ok (.istore k, 2)) (hp : pc + 2 = pc') (hl : storeLocals Ls k (.int v) = some Ls') (hr : Go p l e R s m args below meth c n0 Q K N h ce sl (mkF m pc' Ls' st)) : Go p l e R s m args below meth c n0 Q K N h ce sl (mkF m pc Ls (.int v :: st)) := by
  subst hp
  exact Go.step (fun T A _ q => XS.istore A C.1 rfl (hb C.2.1 hd) rfl hl q) hr
theorem go_lstoreN (C : Cx p s m meth c Z own bs mx rt nm) {k : Fin 4} {v : Int64} (hd : decode bs pc = .ok (.lstore_n k, 1)) (hp : pc + 1 = pc') (hl : storeLocals Ls k.val (.long v) = some Ls') (hr : Go p l e R s m args below meth c n0 Q K N h ce sl (mkF m pc' Ls' st)) : Go p l e R s m args below meth c n0 Q K N h ce sl (mkF m pc Ls (.long v :: st)) := by
  subst hp
  exact Go.step (fun T A _ q => XT.lstoreN A C.1 rfl (hb C.2.1 hd) rfl hl q) hr
theorem go_lstore (C : Cx p s m meth c Z own bs mx rt nm) {k : Nat} {v : Int64} (hd : decode bs pc = .ok (.lstore k, 2)) (hp : pc + 2 = pc') (hl : storeLocals Ls k (.long v) = some Ls') (hr : Go p l e R s m args below meth c n0 Q K N h ce sl (mkF m pc' Ls' st)) : Go p l e R s m args below meth c n0 Q K N h ce sl (mkF m pc Ls (.long v :: st)) := by
  subst hp
  exact Go.step (fun T A _ q => XT.lstore A C.1 rfl (hb C.2.1 hd) rfl hl q) hr
theorem go_astoreN (C : Cx p s m meth c Z own bs mx rt nm) {k : Fin 4} {v : Value} (hd : decode bs pc = .ok (.astore_n k, 1)) (hp : pc + 1 = pc') (hv : v.isRef = true) (hl : storeLocals Ls k.val v = some Ls') (hr : Go p l e R s m args below meth c n0 Q K N h ce sl (mkF m pc' Ls' st)) : Go p l e R s m args below meth c n0 Q K N h ce sl (mkF m pc Ls (v :: st)) := by
  subst hp
  exact Go.step (fun T A _ q => XS.astoreN A C.1 rfl (hb C.2.1 hd) rfl hv hl q) hr
theorem go_astore (C : Cx p s m meth c Z own bs mx rt nm) {k : Nat} {v : Value} (hd : decode bs pc = .ok (.astore k, 2)) (hp : pc + 2 = pc') (hv : v.isRef = true) (hl : storeLocals Ls k v = some Ls') (hr : Go p l e R s m args below meth c n0 Q K N h ce sl (mkF m pc' Ls' st)) : Go p l e R s m args below meth c n0 Q K N h ce sl (mkF m pc Ls (v :: st)) := by
  subst hp
  exact Go.step (fun T A _ q => XS.astore A C.1 rfl (hb C.2.1 hd) rfl hv hl q) hr
theorem go_istoreS (C : Cx p s m meth c Z own bs mx rt nm) {k : Nat} {v : Int32} {o : Slot} (hd : decode bs pc = .ok (.istore k, 2)) (hp : pc + 2 = pc') (hold : Ls[k]? = some o) (ho : One o) (hL : Ls.setIfInBounds k (.val (.int v)) = Ls') (hr : Go p l e R s m args below meth c n0 Q K N h ce sl (mkF m pc' Ls' st)) : Go p l e R s m args below meth c n0 Q K N h ce sl (mkF m pc Ls (.int v :: st)) := by
  subst hp hL
  exact Go.step (fun T A _ q => XS.istoreS A C.1 rfl (hb C.2.1 hd) rfl hold ho q) hr
theorem go_istoreNS (C : Cx p s m meth c Z own bs mx rt nm) {k : Fin 4} {v : Int32} {o : Slot} (hd : decode bs pc = .ok (.istore_n k, 1)) (hp : pc + 1 = pc') (hold : Ls[k.val]? = some o) (ho : One o) (hL : Ls.setIfInBounds k.val (.val (.int v)) = Ls') (hr : Go p l e R s m args below meth c n0 Q K N h ce sl (mkF m pc' Ls' st)) : Go p l e R s m args below meth c n0 Q K N h ce sl (mkF m pc Ls (.int v :: st)) := by
  subst hp hL
  exact Go.step (fun T A _ q => XS.istoreNS A C.1 rfl (hb C.2.1 hd) rfl hold ho q) hr
theorem go_iconst (C : Cx p s m meth c Z own bs mx rt nm) {i : Int} (v : Int32) (hd : decode bs pc = .ok (.iconst i, 1)) (hp : pc + 1 = pc') (hv : Int32.ofInt i = v) (hr : Go p l e R s m args below meth c n0 Q K N h ce sl (mkF m pc' Ls (.int v :: st))) : Go p l e R s m args below meth c n0 Q K N h ce sl (mkF m pc Ls st) := by
  subst hp
  exact Go.step (fun T A _ q => XT.iconstV A C.1 rfl v (hb C.2.1 hd) hv q) hr
theorem go_bipush (C : Cx p s m meth c Z own bs mx rt nm) {i : Int} (v : Int32) (hd : decode bs pc = .ok (.bipush i, 2)) (hp : pc + 2 = pc') (hv : (Int8.ofInt i).toInt32 = v) (hr : Go p l e R s m args below meth c n0 Q K N h ce sl (mkF m pc' Ls (.int v :: st))) : Go p l e R s m args below meth c n0 Q K N h ce sl (mkF m pc Ls st) := by
  subst hp
  exact Go.step (fun T A _ q => XT.bipushV A C.1 rfl v (hb C.2.1 hd) hv q) hr
theorem go_sipush (C : Cx p s m meth c Z own bs mx rt nm) {i : Int} (v : Int32) (hd : decode bs pc = .ok (.sipush i, 3)) (hp : pc + 3 = pc') (hv : (Int16.ofInt i).toInt32 = v) (hr : Go p l e R s m args below meth c n0 Q K N h ce sl (mkF m pc' Ls (.int v :: st))) : Go p l e R s m args below meth c n0 Q K N h ce sl (mkF m pc Ls st) := by
  subst hp
  exact Go.step (fun T A _ q => XT.sipushV A C.1 rfl v (hb C.2.1 hd) hv q) hr
theorem go_lconst (C : Cx p s m meth c Z own bs mx rt nm) {k : Fin 2} (v : Int64) (hd : decode bs pc = .ok (.lconst k, 1)) (hp : pc + 1 = pc') (hv : Int64.ofNat k = v) (hr : Go p l e R s m args below meth c n0 Q K N h ce sl (mkF m pc' Ls (.long v :: st))) : Go p l e R s m args below meth c n0 Q K N h ce sl (mkF m pc Ls st) := by
  subst hp
  exact Go.step (fun T A _ q => XT.lconstV A C.1 rfl v (hb C.2.1 hd) hv q) hr
theorem go_aconst_null (C : Cx p s m meth c Z own bs mx rt nm)  (hd : decode bs pc = .ok (.aconst_null, 1)) (hp : pc + 1 = pc') (hr : Go p l e R s m args below meth c n0 Q K N h ce sl (mkF m pc' Ls (.null :: st))) : Go p l e R s m args below meth c n0 Q K N h ce sl (mkF m pc Ls st) := by
  subst hp
  exact Go.step (fun T A _ q => XS.aconstNull A C.1 rfl (hb C.2.1 hd)  q) hr
theorem go_iinc (C : Cx p s m meth c Z own bs mx rt nm) {k : Nat} {i : Int} {x : Int32} (v : Int32) (hd : decode bs pc = .ok (.iinc k i, 3)) (hp : pc + 3 = pc') (hv : Int32.ofInt i = v) (hl : Ls[k]? = some (.val (.int x))) (hl' : storeLocals Ls k (.int (x + v)) = some Ls') (hr : Go p l e R s m args below meth c n0 Q K N h ce sl (mkF m pc' Ls' st)) : Go p l e R s m args below meth c n0 Q K N h ce sl (mkF m pc Ls st) := by
  subst hp
  exact Go.step (fun T A _ q => XT.iincV A C.1 rfl v (hb C.2.1 hd) hv hl hl' q) hr
theorem go_iadd (C : Cx p s m meth c Z own bs mx rt nm) {x y : Int32} (hd : decode bs pc = .ok (.iadd, 1)) (hp : pc + 1 = pc') (hr : Go p l e R s m args below meth c n0 Q K N h ce sl (mkF m pc' Ls (.int (x + y) :: st))) : Go p l e R s m args below meth c n0 Q K N h ce sl (mkF m pc Ls (.int y :: .int x :: st)) := by
  subst hp
  exact Go.step (fun T A _ q => XS.iadd A C.1 rfl (hb C.2.1 hd) rfl q) hr
theorem go_isub (C : Cx p s m meth c Z own bs mx rt nm) {x y : Int32} (hd : decode bs pc = .ok (.isub, 1)) (hp : pc + 1 = pc') (hr : Go p l e R s m args below meth c n0 Q K N h ce sl (mkF m pc' Ls (.int (x - y) :: st))) : Go p l e R s m args below meth c n0 Q K N h ce sl (mkF m pc Ls (.int y :: .int x :: st)) := by
  subst hp
  exact Go.step (fun T A _ q => XS.isub A C.1 rfl (hb C.2.1 hd) rfl q) hr
theorem go_iand (C : Cx p s m meth c Z own bs mx rt nm) {x y : Int32} (hd : decode bs pc = .ok (.iand, 1)) (hp : pc + 1 = pc') (hr : Go p l e R s m args below meth c n0 Q K N h ce sl (mkF m pc' Ls (.int (x &&& y) :: st))) : Go p l e R s m args below meth c n0 Q K N h ce sl (mkF m pc Ls (.int y :: .int x :: st)) := by
  subst hp
  exact Go.step (fun T A _ q => XS.iand A C.1 rfl (hb C.2.1 hd) rfl q) hr
theorem go_imul (C : Cx p s m meth c Z own bs mx rt nm) {x y : Int32} (hd : decode bs pc = .ok (.imul, 1)) (hp : pc + 1 = pc') (hr : Go p l e R s m args below meth c n0 Q K N h ce sl (mkF m pc' Ls (.int (x * y) :: st))) : Go p l e R s m args below meth c n0 Q K N h ce sl (mkF m pc Ls (.int y :: .int x :: st)) := by
  subst hp
  exact Go.step (fun T A _ q => XS.imul A C.1 rfl (hb C.2.1 hd) rfl q) hr
theorem go_ior (C : Cx p s m meth c Z own bs mx rt nm) {x y : Int32} (hd : decode bs pc = .ok (.ior, 1)) (hp : pc + 1 = pc') (hr : Go p l e R s m args below meth c n0 Q K N h ce sl (mkF m pc' Ls (.int (x ||| y) :: st))) : Go p l e R s m args below meth c n0 Q K N h ce sl (mkF m pc Ls (.int y :: .int x :: st)) := by
  subst hp
  exact Go.step (fun T A _ q => XT.ior A C.1 rfl (hb C.2.1 hd) rfl q) hr
theorem go_ixor (C : Cx p s m meth c Z own bs mx rt nm) {x y : Int32} (hd : decode bs pc = .ok (.ixor, 1)) (hp : pc + 1 = pc') (hr : Go p l e R s m args below meth c n0 Q K N h ce sl (mkF m pc' Ls (.int (x ^^^ y) :: st))) : Go p l e R s m args below meth c n0 Q K N h ce sl (mkF m pc Ls (.int y :: .int x :: st)) := by
  subst hp
  exact Go.step (fun T A _ q => XT.ixor A C.1 rfl (hb C.2.1 hd) rfl q) hr
theorem go_ishl (C : Cx p s m meth c Z own bs mx rt nm) {x y : Int32} (hd : decode bs pc = .ok (.ishl, 1)) (hp : pc + 1 = pc') (hr : Go p l e R s m args below meth c n0 Q K N h ce sl (mkF m pc' Ls (.int (x <<< (y &&& 31)) :: st))) : Go p l e R s m args below meth c n0 Q K N h ce sl (mkF m pc Ls (.int y :: .int x :: st)) := by
  subst hp
  exact Go.step (fun T A _ q => XT.ishl A C.1 rfl (hb C.2.1 hd) rfl q) hr
theorem go_ishr (C : Cx p s m meth c Z own bs mx rt nm) {x y : Int32} (hd : decode bs pc = .ok (.ishr, 1)) (hp : pc + 1 = pc') (hr : Go p l e R s m args below meth c n0 Q K N h ce sl (mkF m pc' Ls (.int (x >>> (y &&& 31)) :: st))) : Go p l e R s m args below meth c n0 Q K N h ce sl (mkF m pc Ls (.int y :: .int x :: st)) := by
  subst hp
  exact Go.step (fun T A _ q => XT.ishr A C.1 rfl (hb C.2.1 hd) rfl q) hr
theorem go_iushr (C : Cx p s m meth c Z own bs mx rt nm) {x y : Int32} (hd : decode bs pc = .ok (.iushr, 1)) (hp : pc + 1 = pc') (hr : Go p l e R s m args below meth c n0 Q K N h ce sl (mkF m pc' Ls (.int (XT.ushr x y) :: st))) : Go p l e R s m args below meth c n0 Q K N h ce sl (mkF m pc Ls (.int y :: .int x :: st)) := by
  subst hp
  exact Go.step (fun T A _ q => XT.iushr A C.1 rfl (hb C.2.1 hd) rfl q) hr
theorem go_ladd (C : Cx p s m meth c Z own bs mx rt nm) {x y : Int64} (hd : decode bs pc = .ok (.ladd, 1)) (hp : pc + 1 = pc') (hr : Go p l e R s m args below meth c n0 Q K N h ce sl (mkF m pc' Ls (.long (x + y) :: st))) : Go p l e R s m args below meth c n0 Q K N h ce sl (mkF m pc Ls (.long y :: .long x :: st)) := by
  subst hp
  exact Go.step (fun T A _ q => XT.ladd A C.1 rfl (hb C.2.1 hd) rfl q) hr
theorem go_lsub (C : Cx p s m meth c Z own bs mx rt nm) {x y : Int64} (hd : decode bs pc = .ok (.lsub, 1)) (hp : pc + 1 = pc') (hr : Go p l e R s m args below meth c n0 Q K N h ce sl (mkF m pc' Ls (.long (x - y) :: st))) : Go p l e R s m args below meth c n0 Q K N h ce sl (mkF m pc Ls (.long y :: .long x :: st)) := by
  subst hp
  exact Go.step (fun T A _ q => XT.lsub A C.1 rfl (hb C.2.1 hd) rfl q) hr
theorem go_land (C : Cx p s m meth c Z own bs mx rt nm) {x y : Int64} (hd : decode bs pc = .ok (.land, 1)) (hp : pc + 1 = pc') (hr : Go p l e R s m args below meth c n0 Q K N h ce sl (mkF m pc' Ls (.long (x &&& y) :: st))) : Go p l e R s m args below meth c n0 Q K N h ce sl (mkF m pc Ls (.long y :: .long x :: st)) := by
  subst hp
  exact Go.step (fun T A _ q => XT.land A C.1 rfl (hb C.2.1 hd) rfl q) hr
theorem go_lmul (C : Cx p s m meth c Z own bs mx rt nm) {x y : Int64} (hd : decode bs pc = .ok (.lmul, 1)) (hp : pc + 1 = pc') (hr : Go p l e R s m args below meth c n0 Q K N h ce sl (mkF m pc' Ls (.long (x * y) :: st))) : Go p l e R s m args below meth c n0 Q K N h ce sl (mkF m pc Ls (.long y :: .long x :: st)) := by
  subst hp
  exact Go.step (fun T A _ q => XT.lmul A C.1 rfl (hb C.2.1 hd) rfl q) hr
theorem go_lor (C : Cx p s m meth c Z own bs mx rt nm) {x y : Int64} (hd : decode bs pc = .ok (.lor, 1)) (hp : pc + 1 = pc') (hr : Go p l e R s m args below meth c n0 Q K N h ce sl (mkF m pc' Ls (.long (x ||| y) :: st))) : Go p l e R s m args below meth c n0 Q K N h ce sl (mkF m pc Ls (.long y :: .long x :: st)) := by
  subst hp
  exact Go.step (fun T A _ q => XT.lor A C.1 rfl (hb C.2.1 hd) rfl q) hr
theorem go_lxor (C : Cx p s m meth c Z own bs mx rt nm) {x y : Int64} (hd : decode bs pc = .ok (.lxor, 1)) (hp : pc + 1 = pc') (hr : Go p l e R s m args below meth c n0 Q K N h ce sl (mkF m pc' Ls (.long (x ^^^ y) :: st))) : Go p l e R s m args below meth c n0 Q K N h ce sl (mkF m pc Ls (.long y :: .long x :: st)) := by
  subst hp
  exact Go.step (fun T A _ q => XT.lxor A C.1 rfl (hb C.2.1 hd) rfl q) hr
theorem go_idiv (C : Cx p s m meth c Z own bs mx rt nm) {x y : Int32} (hd : decode bs pc = .ok (.idiv, 1)) (hp : pc + 1 = pc') (hy : y ≠ 0) (hr : Go p l e R s m args below meth c n0 Q K N h ce sl (mkF m pc' Ls (.int (x / y) :: st))) : Go p l e R s m args below meth c n0 Q K N h ce sl (mkF m pc Ls (.int y :: .int x :: st)) := by
  subst hp
  exact Go.step (fun T A _ q => XS.idiv A C.1 rfl (hb C.2.1 hd) rfl hy q) hr
theorem go_irem (C : Cx p s m meth c Z own bs mx rt nm) {x y : Int32} (hd : decode bs pc = .ok (.irem, 1)) (hp : pc + 1 = pc') (hy : y ≠ 0) (hr : Go p l e R s m args below meth c n0 Q K N h ce sl (mkF m pc' Ls (.int (x % y) :: st))) : Go p l e R s m args below meth c n0 Q K N h ce sl (mkF m pc Ls (.int y :: .int x :: st)) := by
  subst hp
  exact Go.stepX (fun T locs X _ _ q => iremM X C.1 rfl (hb C.2.1 hd) rfl hy q) hr
theorem go_i2l (C : Cx p s m meth c Z own bs mx rt nm) {x : Int32} (hd : decode bs pc = .ok (.i2l, 1)) (hp : pc + 1 = pc') (hr : Go p l e R s m args below meth c n0 Q K N h ce sl (mkF m pc' Ls (.long x.toInt64 :: st))) : Go p l e R s m args below meth c n0 Q K N h ce sl (mkF m pc Ls (.int x :: st)) := by
  subst hp
  exact Go.step (fun T A _ q => XT.i2l A C.1 rfl (hb C.2.1 hd) rfl q) hr
theorem go_l2i (C : Cx p s m meth c Z own bs mx rt nm) {x : Int64} (hd : decode bs pc = .ok (.l2i, 1)) (hp : pc + 1 = pc') (hr : Go p l e R s m args below meth c n0 Q K N h ce sl (mkF m pc' Ls (.int x.toInt32 :: st))) : Go p l e R s m args below meth c n0 Q K N h ce sl (mkF m pc Ls (.long x :: st)) := by
  subst hp
  exact Go.step (fun T A _ q => XT.l2i A C.1 rfl (hb C.2.1 hd) rfl q) hr
theorem go_i2b (C : Cx p s m meth c Z own bs mx rt nm) {x : Int32} (hd : decode bs pc = .ok (.i2b, 1)) (hp : pc + 1 = pc') (hr : Go p l e R s m args below meth c n0 Q K N h ce sl (mkF m pc' Ls (.int x.toInt8.toInt32 :: st))) : Go p l e R s m args below meth c n0 Q K N h ce sl (mkF m pc Ls (.int x :: st)) := by
  subst hp
  exact Go.step (fun T A _ q => XT.i2b A C.1 rfl (hb C.2.1 hd) rfl q) hr
theorem go_i2c (C : Cx p s m meth c Z own bs mx rt nm) {x : Int32} (hd : decode bs pc = .ok (.i2c, 1)) (hp : pc + 1 = pc') (hr : Go p l e R s m args below meth c n0 Q K N h ce sl (mkF m pc' Ls (.int x.toUInt32.toUInt16.toUInt32.toInt32 :: st))) : Go p l e R s m args below meth c n0 Q K N h ce sl (mkF m pc Ls (.int x :: st)) := by
  subst hp
  exact Go.step (fun T A _ q => XT.i2c A C.1 rfl (hb C.2.1 hd) rfl q) hr
theorem go_ineg (C : Cx p s m meth c Z own bs mx rt nm) {x : Int32} (hd : decode bs pc = .ok (.ineg, 1)) (hp : pc + 1 = pc') (hr : Go p l e R s m args below meth c n0 Q K N h ce sl (mkF m pc' Ls (.int (-x) :: st))) : Go p l e R s m args below meth c n0 Q K N h ce sl (mkF m pc Ls (.int x :: st)) := by
  subst hp
  exact Go.step (fun T A _ q => XS.ineg A C.1 rfl (hb C.2.1 hd) rfl q) hr
theorem go_dup (C : Cx p s m meth c Z own bs mx rt nm) {v : Value} (hd : decode bs pc = .ok (.dup, 1)) (hp : pc + 1 = pc') (hc : v.category = 1) (hr : Go p l e R s m args below meth c n0 Q K N h ce sl (mkF m pc' Ls (v :: v :: st))) : Go p l e R s m args below meth c n0 Q K N h ce sl (mkF m pc Ls (v :: st)) := by
  subst hp
  exact Go.step (fun T A _ q => XS.dup A C.1 rfl (hb C.2.1 hd) rfl hc q) hr
theorem go_pop (C : Cx p s m meth c Z own bs mx rt nm) {v : Value} (hd : decode bs pc = .ok (.pop, 1)) (hp : pc + 1 = pc') (hc : v.category = 1) (hr : Go p l e R s m args below meth c n0 Q K N h ce sl (mkF m pc' Ls st)) : Go p l e R s m args below meth c n0 Q K N h ce sl (mkF m pc Ls (v :: st)) := by
  subst hp
  exact Go.step (fun T A _ q => XT.pop A C.1 rfl (hb C.2.1 hd) rfl hc q) hr
theorem go_dup2 (C : Cx p s m meth c Z own bs mx rt nm) {v w : Value} (hd : decode bs pc = .ok (.dup2, 1)) (hp : pc + 1 = pc') (hc : v.category = 1) (hc' : w.category = 1) (hr : Go p l e R s m args below meth c n0 Q K N h ce sl (mkF m pc' Ls (v :: w :: v :: w :: st))) : Go p l e R s m args below meth c n0 Q K N h ce sl (mkF m pc Ls (v :: w :: st)) := by
  subst hp
  exact Go.step (fun T A _ q => XT.dup2 A C.1 rfl (hb C.2.1 hd) rfl hc hc' q) hr
theorem go_dup_x1 (C : Cx p s m meth c Z own bs mx rt nm) {v w : Value} (hd : decode bs pc = .ok (.dup_x1, 1)) (hp : pc + 1 = pc') (hc : v.category = 1) (hc' : w.category = 1) (hr : Go p l e R s m args below meth c n0 Q K N h ce sl (mkF m pc' Ls (v :: w :: v :: st))) : Go p l e R s m args below meth c n0 Q K N h ce sl (mkF m pc Ls (v :: w :: st)) := by
  subst hp
  exact Go.step (fun T A _ q => XT.dupX1 A C.1 rfl (hb C.2.1 hd) rfl hc hc' q) hr
theorem go_lushr (C : Cx p s m meth c Z own bs mx rt nm) {x : Int64} {y : Int32} (hd : decode bs pc = .ok (.lushr, 1)) (hp : pc + 1 = pc') (hr : Go p l e R s m args below meth c n0 Q K N h ce sl (mkF m pc' Ls (.long (XT.ushrL x y) :: st))) : Go p l e R s m args below meth c n0 Q K N h ce sl (mkF m pc Ls (.int y :: .long x :: st)) := by
  subst hp
  exact Go.step (fun T A _ q => XT.lushr A C.1 rfl (hb C.2.1 hd) rfl q) hr
theorem go_lshl (C : Cx p s m meth c Z own bs mx rt nm) {x : Int64} {y : Int32} (hd : decode bs pc = .ok (.lshl, 1)) (hp : pc + 1 = pc') (hr : Go p l e R s m args below meth c n0 Q K N h ce sl (mkF m pc' Ls (.long (x <<< (y.toInt64 &&& 63)) :: st))) : Go p l e R s m args below meth c n0 Q K N h ce sl (mkF m pc Ls (.int y :: .long x :: st)) := by
  subst hp
  exact Go.step (fun T A _ q => XT.lshl A C.1 rfl (hb C.2.1 hd) rfl q) hr
theorem go_ldiv (C : Cx p s m meth c Z own bs mx rt nm) {x y : Int64} (hd : decode bs pc = .ok (.ldiv, 1)) (hp : pc + 1 = pc') (hy : y ≠ 0) (hr : Go p l e R s m args below meth c n0 Q K N h ce sl (mkF m pc' Ls (.long (x / y) :: st))) : Go p l e R s m args below meth c n0 Q K N h ce sl (mkF m pc Ls (.long y :: .long x :: st)) := by
  subst hp
  exact Go.step (fun T A _ q => XT.ldiv A C.1 rfl (hb C.2.1 hd) rfl hy q) hr
theorem go_lrem (C : Cx p s m meth c Z own bs mx rt nm) {x y : Int64} (hd : decode bs pc = .ok (.lrem, 1)) (hp : pc + 1 = pc') (hy : y ≠ 0) (hr : Go p l e R s m args below meth c n0 Q K N h ce sl (mkF m pc' Ls (.long (x - (x / y) * y) :: st))) : Go p l e R s m args below meth c n0 Q K N h ce sl (mkF m pc Ls (.long y :: .long x :: st)) := by
  subst hp
  exact Go.step (fun T A _ q => XT.lrem A C.1 rfl (hb C.2.1 hd) rfl hy q) hr
theorem go_goto (C : Cx p s m meth c Z own bs mx rt nm) {o : Int} (hd : decode bs pc = .ok (.goto o, 3)) (ho : 0 ≤ (pc : Int) + o) (hp : ((pc : Int) + o).toNat = pc') (hr : Go p l e R s m args below meth c n0 Q K N h ce sl (mkF m pc' Ls st)) : Go p l e R s m args below meth c n0 Q K N h ce sl (mkF m pc Ls st) :=
  Go.step (fun T A _ q => XS.goto A C.1 rfl rfl (hb C.2.1 hd) ho hp q) hr
/-- what a comparison says, of integers -/
def cmpP (cd : ClassFile.Cond) (x y : Int) : Prop := match cd with | .eq => x = y | .ne => ¬ x = y | .lt => x < y | .ge => ¬ x < y | .gt => y < x | .le => ¬ y < x
def cmpN (cd : ClassFile.Cond) (x y : Int) : Prop := match cd with | .eq => ¬ x = y | .ne => x = y | .lt => ¬ x < y | .ge => x < y | .gt => ¬ y < x | .le => y < x
theorem cmpN_of {cd : ClassFile.Cond} {x y : Int} (h : ¬ cmpP cd x y) : cmpN cd x y := by
  cases cd <;> simp only [cmpP] at h <;> simp only [cmpN] <;> omega
theorem cmp_t {cd : ClassFile.Cond} {x y : Int32} (h : cmpP cd x.toInt y.toInt) : if_icmp.holds cd x y = true := by
  cases cd <;> simp only [cmpP] at h
  · exact XT.ii_eq_t (int_eq h)
  · exact XT.ii_ne_t fun q => h (by rw [q])
  · exact XT.ii_lt_t (Int32.lt_iff_toInt_lt.mpr h)
  · exact XT.ii_ge_t fun q => h (Int32.lt_iff_toInt_lt.mp q)
  · exact XT.ii_gt_t (Int32.lt_iff_toInt_lt.mpr h)
  · exact XT.ii_le_t fun q => h (Int32.lt_iff_toInt_lt.mp q)
theorem cmp_f {cd : ClassFile.Cond} {x y : Int32} (h : ¬ cmpP cd x.toInt y.toInt) : if_icmp.holds cd x y = false := by
  cases cd <;> simp only [cmpP] at h
  · exact XT.ii_eq_f fun q => h (by rw [q])
  · exact XT.ii_ne_f (int_eq (Classical.not_not.mp h))
  · exact XT.ii_lt_f fun q => h (Int32.lt_iff_toInt_lt.mp q)
  · exact XT.ii_ge_f (Int32.lt_iff_toInt_lt.mpr (Classical.not_not.mp h))
  · exact XT.ii_gt_f fun q => h (Int32.lt_iff_toInt_lt.mp q)
  · exact XT.ii_le_f (Int32.lt_iff_toInt_lt.mpr (Classical.not_not.mp h))
theorem cmpL_t {cd : ClassFile.Cond} {x y : Int64} (h : cmpP cd x.toInt y.toInt) : ifCond.holds cd (XT.cmpL x y) = true := by
  cases cd <;> simp only [cmpP] at h
  · exact XT.ll_eq_t (long_eq h)
  · exact XT.ll_ne_t fun q => h (by rw [q])
  · exact XT.ll_lt_t (Int64.lt_iff_toInt_lt.mpr h)
  · exact XT.ll_ge_t fun q => h (Int64.lt_iff_toInt_lt.mp q)
  · exact XT.ll_gt_t (Int64.lt_iff_toInt_lt.mpr h)
  · exact XT.ll_le_t fun q => h (Int64.lt_iff_toInt_lt.mp q)
theorem cmpL_f {cd : ClassFile.Cond} {x y : Int64} (h : ¬ cmpP cd x.toInt y.toInt) : ifCond.holds cd (XT.cmpL x y) = false := by
  cases cd <;> simp only [cmpP] at h
  · exact XT.ll_eq_f fun q => h (by rw [q])
  · exact XT.ll_ne_f (long_eq (Classical.not_not.mp h))
  · exact XT.ll_lt_f fun q => h (Int64.lt_iff_toInt_lt.mp q)
  · exact XT.ll_ge_f (Int64.lt_iff_toInt_lt.mpr (Classical.not_not.mp h))
  · exact XT.ll_gt_f fun q => h (Int64.lt_iff_toInt_lt.mp q)
  · exact XT.ll_le_f (Int64.lt_iff_toInt_lt.mpr (Classical.not_not.mp h))
theorem go_icmp (C : Cx p s m meth c Z own bs mx rt nm) {cd : ClassFile.Cond} {x y : Int32} {o : Int} {pcN : Nat} (kx ky : Int) (hx : x.toInt = kx) (hy : y.toInt = ky) (hd : decode bs pc = .ok (.if_icmp cd o, 3)) (ho : 0 ≤ (pc : Int) + o) (hp : ((pc : Int) + o).toNat = pc') (hpn : pc + 3 = pcN) (h1 : cmpP cd kx ky → Go p l e R s m args below meth c n0 Q K N h ce sl (mkF m pc' Ls st)) (h2 : cmpN cd kx ky → Go p l e R s m args below meth c n0 Q K N h ce sl (mkF m pcN Ls st)) : Go p l e R s m args below meth c n0 Q K N h ce sl (mkF m pc Ls (.int y :: .int x :: st)) := by
  subst hpn hx hy
  by_cases q : cmpP cd x.toInt y.toInt
  · exact Go.step (fun T A _ k => XS.icmpYes A C.1 rfl rfl (hb C.2.1 hd) rfl (cmp_t q) ho hp k) (h1 q)
  · exact Go.step (fun T A _ k => XS.icmpNo A C.1 rfl (hb C.2.1 hd) rfl (cmp_f q) k) (h2 (cmpN_of q))
theorem go_if0 (C : Cx p s m meth c Z own bs mx rt nm) {cd : ClassFile.Cond} {x : Int32} {o : Int} {pcN : Nat} (kx : Int) (hx : x.toInt = kx) (hd : decode bs pc = .ok (.ifCond cd o, 3)) (ho : 0 ≤ (pc : Int) + o) (hp : ((pc : Int) + o).toNat = pc') (hpn : pc + 3 = pcN) (h1 : cmpP cd kx 0 → Go p l e R s m args below meth c n0 Q K N h ce sl (mkF m pc' Ls st)) (h2 : cmpN cd kx 0 → Go p l e R s m args below meth c n0 Q K N h ce sl (mkF m pcN Ls st)) : Go p l e R s m args below meth c n0 Q K N h ce sl (mkF m pc Ls (.int x :: st)) := by
  subst hpn hx
  by_cases q : cmpP cd x.toInt 0
  · exact Go.step (fun T A _ k => XS.ifYes A C.1 rfl rfl (hb C.2.1 hd) rfl ((if0 cd x).trans (cmp_t q)) ho hp k) (h1 q)
  · exact Go.step (fun T A _ k => XS.ifNo A C.1 rfl (hb C.2.1 hd) rfl ((if0 cd x).trans (cmp_f q)) k) (h2 (cmpN_of q))
theorem go_lcmp (C : Cx p s m meth c Z own bs mx rt nm) {cd : ClassFile.Cond} {x y : Int64} {o : Int} {pc1 pcN : Nat} (kx ky : Int) (hx : x.toInt = kx) (hy : y.toInt = ky) (hd0 : decode bs pc = .ok (.lcmp, 1)) (hp1 : pc + 1 = pc1) (hd : decode bs pc1 = .ok (.ifCond cd o, 3)) (ho : 0 ≤ (pc1 : Int) + o) (hp : ((pc1 : Int) + o).toNat = pc') (hpn : pc1 + 3 = pcN) (h1 : cmpP cd kx ky → Go p l e R s m args below meth c n0 Q K N h ce sl (mkF m pc' Ls st)) (h2 : cmpN cd kx ky → Go p l e R s m args below meth c n0 Q K N h ce sl (mkF m pcN Ls st)) : Go p l e R s m args below meth c n0 Q K N h ce sl (mkF m pc Ls (.long y :: .long x :: st)) := by
  subst hpn hp1 hx hy
  refine Go.step (g' := mkF m (pc + 1) Ls (.int (XT.cmpL x y) :: st)) (fun T A _ k => XT.lcmp A C.1 rfl (hb C.2.1 hd0) rfl k) ?_
  by_cases q : cmpP cd x.toInt y.toInt
  · exact Go.step (fun T A _ k => XS.ifYes A C.1 rfl rfl (hb C.2.1 hd) rfl (cmpL_t q) ho hp k) (h1 q)
  · exact Go.step (fun T A _ k => XS.ifNo A C.1 rfl (hb C.2.1 hd) rfl (cmpL_f q) k) (h2 (cmpN_of q))
theorem go_ifne_b (C : Cx p s m meth c Z own bs mx rt nm) {B : Prop} [Decidable B] {o : Int} {pcN : Nat} (hd : decode bs pc = .ok (.ifCond .ne o, 3)) (ho : 0 ≤ (pc : Int) + o) (hp : ((pc : Int) + o).toNat = pc') (hpn : pc + 3 = pcN) (h1 : B → Go p l e R s m args below meth c n0 Q K N h ce sl (mkF m pc' Ls st)) (h2 : ¬ B → Go p l e R s m args below meth c n0 Q K N h ce sl (mkF m pcN Ls st)) : Go p l e R s m args below meth c n0 Q K N h ce sl (mkF m pc Ls (.int (bi B) :: st)) := by
  refine go_if0 C _ rfl hd ho hp hpn (fun q => h1 ?_) (fun q => h2 ?_)
  · exact Classical.byContradiction fun z => q (by rw [bi_f z]; rfl)
  · exact fun z => by
      have q' : (bi B).toInt = 0 := q
      rw [bi_t z] at q'
      exact absurd q' (by decide)
theorem go_ifeq_b (C : Cx p s m meth c Z own bs mx rt nm) {B : Prop} [Decidable B] {o : Int} {pcN : Nat} (hd : decode bs pc = .ok (.ifCond .eq o, 3)) (ho : 0 ≤ (pc : Int) + o) (hp : ((pc : Int) + o).toNat = pc') (hpn : pc + 3 = pcN) (h1 : ¬ B → Go p l e R s m args below meth c n0 Q K N h ce sl (mkF m pc' Ls st)) (h2 : B → Go p l e R s m args below meth c n0 Q K N h ce sl (mkF m pcN Ls st)) : Go p l e R s m args below meth c n0 Q K N h ce sl (mkF m pc Ls (.int (bi B) :: st)) := by
  refine go_if0 C _ rfl hd ho hp hpn (fun q => h1 ?_) (fun q => h2 ?_)
  · exact fun z => by
      have q' : (bi B).toInt = 0 := q
      rw [bi_t z] at q'
      exact absurd q' (by decide)
  · exact Classical.byContradiction fun z => q (by rw [bi_f z]; rfl)
theorem go_ifnull_r (C : Cx p s m meth c Z own bs mx rt nm) {a : Addr} {o : Int} (hd : decode bs pc = .ok (.ifnull o, 3)) (hp : pc + 3 = pc') (hr : Go p l e R s m args below meth c n0 Q K N h ce sl (mkF m pc' Ls st)) : Go p l e R s m args below meth c n0 Q K N h ce sl (mkF m pc Ls (.ref a :: st)) := by
  subst hp
  exact Go.step (fun T A _ k => XS.ifnullNo A C.1 rfl (hb C.2.1 hd) rfl k) hr
theorem go_ifnull_n (C : Cx p s m meth c Z own bs mx rt nm) {o : Int} (hd : decode bs pc = .ok (.ifnull o, 3)) (ho : 0 ≤ (pc : Int) + o) (hp : ((pc : Int) + o).toNat = pc') (hr : Go p l e R s m args below meth c n0 Q K N h ce sl (mkF m pc' Ls st)) : Go p l e R s m args below meth c n0 Q K N h ce sl (mkF m pc Ls (.null :: st)) :=
  Go.step (fun T A _ k => XS.ifnullYes A C.1 rfl rfl (hb C.2.1 hd) rfl ho hp k) hr
theorem go_ldc (C : Cx p s m meth c Z own bs mx rt nm) {i : Nat} {v : Int32} (w : (Jvm.Cond.constant own i v).before a0 Z = true) (hd : decode bs pc = .ok (.ldc i, 2)) (hp : pc + 2 = pc') (hr : Go p l e R s m args below meth c n0 Q K N h ce sl (mkF m pc' Ls (.int v :: st))) : Go p l e R s m args below meth c n0 Q K N h ce sl (mkF m pc Ls st) := by
  subst hp
  exact Go.stepX (fun T locs X _ _ q => X.ldcI C.1 C.2.2.2.2.1 (mv C.2.2.2.1 w) rfl (hb C.2.1 hd) q) hr
theorem go_ldc2 (C : Cx p s m meth c Z own bs mx rt nm) {i : Nat} {v : Int64} (w : (Jvm.Cond.constantLong own i v).before a0 Z = true) (hd : decode bs pc = .ok (.ldc2_w i, 3)) (hp : pc + 3 = pc') (hr : Go p l e R s m args below meth c n0 Q K N h ce sl (mkF m pc' Ls (.long v :: st))) : Go p l e R s m args below meth c n0 Q K N h ce sl (mkF m pc Ls st) := by
  subst hp
  exact Go.stepX (fun T locs X _ _ q => X.ldc2J C.1 C.2.2.2.2.1 (mv C.2.2.2.1 w) rfl (hb C.2.1 hd) q) hr
theorem go_getfield (C : Cx p s m meth c Z own bs mx rt nm) {O n d : String} {i : Nat} {a : Addr} {v : Value} (w : (Jvm.Cond.fieldLink own i O n d).before a0 Z = true) (F0 : Fld Z h a O n d v) (hd : decode bs pc = .ok (.getfield i, 3)) (hp : pc + 3 = pc') (hr : Go p l e R s m args below meth c n0 Q K N h ce sl (mkF m pc' Ls (v :: st))) : Go p l e R s m args below meth c n0 Q K N h ce sl (mkF m pc Ls (.ref a :: st)) := by
  subst hp
  intro T locs X eT Nn
  obtain ⟨T', X', e', stp⟩ := getF X C.1 C.2.2.2.1 C.2.2.2.2.1 (host := "") (Or.inl w) Via.refl eT F0 (g := mkF m pc Ls (.ref a :: st)) rfl rfl (hb C.2.1 hd)
  obtain ⟨s₂, o, h1, r⟩ := hr T' locs X' e' Nn
  exact ⟨s₂, o, stp _ h1, r⟩
theorem go_putfield (C : Cx p s m meth c Z own bs mx rt nm) {O n d C0 : String} {i kk : Nat} {ty : FieldType} {a : Addr} {v old : Value} (w : (Jvm.Cond.fieldLink own i O n d).before a0 Z = true) (F0 : Fld Z h a O n d old) (E : Exa Z h a C0) (L : (Jvm.Cond.lays C0 O n d).before a0 Z = true ∨ ((Jvm.Cond.laysFinal C0 O n d).before a0 Z = true ∧ own = O ∧ nm = "<init>")) (wi : (Jvm.Cond.instantiable C0 kk).before a0 Z = true) (hty : parseFieldDescriptor d = some ty) (hn : narrow ty v = v) (hf : fits ty v = true) (ha : n0 ≤ a) (hd : decode bs pc = .ok (.putfield i, 3)) (hp : pc + 3 = pc') (hr : ∀ h', Wr h h' a (Jvm.RoadKit.slotOf Z O n d) v → Go p l e R s m args below meth c n0 Q K N h' ce sl (mkF m pc' Ls st)) : Go p l e R s m args below meth c n0 Q K N h ce sl (mkF m pc Ls (v :: .ref a :: st)) := by
  subst hp
  intro T locs X eT Nn
  obtain ⟨T', h', X', e', W', stp⟩ := putF X C.1 C.2.2.2.1 C.2.2.2.2.1 (host := "") (Or.inl w) Via.refl eT F0 E (L.imp id fun q => ⟨q.1, q.2.1, C.2.2.2.2.2.2.2.trans q.2.2⟩) wi hty hn hf (g := mkF m pc Ls (v :: .ref a :: st)) rfl rfl (hb C.2.1 hd)
  obtain ⟨s₂, o, h1, r⟩ := hr h' W' T' _ X' e' (Fr.snoc X' Nn ha)
  exact ⟨s₂, o, stp _ h1, r⟩
theorem go_new (C : Cx p s m meth c Z own bs mx rt nm) {C0 : String} {i k ce' sl' : Nat} (w : (Jvm.Cond.classLink own i C0).before a0 Z = true) (wi : (Jvm.Cond.instantiable C0 k).before a0 Z = true) (wz : (Jvm.Cond.initialized C0).before a0 Z = true) (hd : decode bs pc = .ok (.new i, 3)) (hp : pc + 3 = pc') (hce : ce + 1 = ce') (hsl : sl + k = sl') (hc : ce' ≤ R.cells) (hl : sl' ≤ R.slots)
    (hr : ∀ (h' : Heap) (a : Addr), h.size = a → Ext h h' → Exa Z h' a C0 → (∀ {O nm d : String} {ty : FieldType}, Laid Z a0 C0 O nm d → parseFieldDescriptor d = some ty → Fld Z h' a O nm d (defaultValue ty)) → Go p l e R s m args below meth c n0 Q K N h' ce' sl' (mkF m pc' Ls (.ref a :: st))) : Go p l e R s m args below meth c n0 Q K N h ce sl (mkF m pc Ls st) := by
  subst hp hce hsl
  intro T locs X eT Nn
  obtain ⟨T', h', X', e', E', A', D', -, stp⟩ := newO X C.1 C.2.2.2.1 C.2.2.2.2.1 w wi wz eT (g := mkF m pc Ls st) rfl (hb C.2.1 hd) hc hl
  obtain ⟨s₂, o, h1, r⟩ := hr h' _ rfl E' A' D' T' _ X' e' Nn
  exact ⟨s₂, o, stp _ h1, r⟩
/-- an array of type ty that holds just vs -/
def Av (Z : State) (h : Heap) (a : Addr) (ty : FieldType) (vs : List Value) : Prop := ∃ cl : Cell, Arr Z h a cl ty ∧ cl.slots.toList = vs ∧ vs.length < 2147483648
theorem Av.lt {ty : FieldType} {vs : List Value} {a : Addr} (A : Av Z h a ty vs) : a < h.size := by obtain ⟨c, A, -⟩ := A; exact A.lt
theorem Av.ext {ty : FieldType} {vs : List Value} {a : Addr} {h' : Heap} (A : Av Z h a ty vs) (E : Ext h h') : Av Z h' a ty vs := by obtain ⟨c, A, r⟩ := A; exact ⟨c, A.ext E, r⟩
theorem Av.other {ty : FieldType} {vs : List Value} {a b : Addr} {h' : Heap} {k : Nat} {v : Value} (A : Av Z h b ty vs) (W : Wr h h' a k v) (q : b ≠ a) : Av Z h' b ty vs := by obtain ⟨c, A, r⟩ := A; exact ⟨c, A.other W q, r⟩
theorem Av.keep {ty : FieldType} {vs : List Value} {a : Addr} {h' : Heap} {ws : List Addr} (A : Av Z h a ty vs) (K0 : Keep h h' ws) (q : a ∉ ws) : Av Z h' a ty vs := by obtain ⟨c, A, r⟩ := A; exact ⟨c, ⟨K0.2.1 a c A.1 q, A.2⟩, r⟩
theorem own_ne_arr {C0 : String} {ty : FieldType} {vs : List Value} {a b : Addr} {k : Nat} (F0 : Exa Z h a C0) (wi : (Jvm.Cond.instantiable C0 k).before a0 Z = true) (G : Av Z h b ty vs) : a ≠ b := by obtain ⟨c, G, -⟩ := G; exact ne_arr F0 wi G
theorem clamp_of {j : Int32} {k : Nat} (hj : j.toInt = k) : j.toNatClampNeg = k := by
  show j.toInt.toNat = k
  rw [hj]; rfl
theorem nonneg_of {j : Int32} {k : Nat} (hj : j.toInt = k) : ¬ j < 0 := fun q => by
  have := Int32.lt_iff_toInt_lt.mp q
  rw [hj] at this
  exact absurd this (by show ¬ (k : Int) < 0; omega)
theorem Av.at {ty : FieldType} {vs : List Value} {a : Addr} (A : Av Z h a ty vs) {j : Int32} {k : Nat} (hj : j.toInt = k) (hk : k < vs.length) : ∃ cl : Cell, Arr Z h a cl ty ∧ cl.slots.toList = vs ∧ ¬ (j < 0 ∨ cl.slots.size ≤ j.toNatClampNeg) ∧ cl.slots[j.toNatClampNeg]? = vs[k]? := by
  obtain ⟨cl, A, e1, e2⟩ := A
  refine ⟨cl, A, e1, ?_, ?_⟩
  · rw [clamp_of hj]
    intro q
    rcases q with q | q
    · exact nonneg_of hj q
    · rw [← e1] at hk; simp at hk; omega
  · rw [clamp_of hj, ← e1]; simp
theorem Av.set {ty : FieldType} {vs : List Value} {a : Addr} {h' : Heap} {k : Nat} {v : Value} (A : Av Z h a ty vs) (W : Wr h h' a k v) : Av Z h' a ty (vs.set k v) := by
  obtain ⟨cl, A, e1, e2⟩ := A
  exact ⟨_, A.same W, by rw [← e1]; simp [Cell.setSlot], by simpa using e2⟩
/-- n ints, whichever -/
def Ints (vs : List Value) (n : Nat) : Prop := vs.length = n ∧ ∀ k, k < n → ∃ x : Int32, vs[k]? = some (.int x)
theorem Ints.rep (n : Nat) (x : Int32) : Ints (List.replicate n (.int x)) n := ⟨by simp, fun k hk => ⟨x, by simp [hk]⟩⟩
theorem Ints.set {vs : List Value} {n k : Nat} (x : Int32) (I : Ints vs n) : Ints (vs.set k (.int x)) n := ⟨by simpa using I.1, fun j hj => by
  by_cases q : k = j
  · subst q
    exact ⟨x, by rw [List.getElem?_set_self (by rw [I.1]; exact hj)]⟩
  · obtain ⟨y, hy⟩ := I.2 j hj
    exact ⟨y, by rw [List.getElem?_set_ne q]; exact hy⟩⟩
theorem go_arraylength (C : Cx p s m meth c Z own bs mx rt nm) {ty : FieldType} {vs : List Value} {a : Addr} (A : Av Z h a ty vs) (n : Int32) (hn : n.toInt = vs.length) (hd : decode bs pc = .ok (.arraylength, 1)) (hp : pc + 1 = pc') (hr : Go p l e R s m args below meth c n0 Q K N h ce sl (mkF m pc' Ls (.int n :: st))) : Go p l e R s m args below meth c n0 Q K N h ce sl (mkF m pc Ls (.ref a :: st)) := by
  subst hp
  obtain ⟨cl, A, e1, e2⟩ := A
  have q : cl.slots.size.toInt32 = n := by
    have hl : cl.slots.size = vs.length := by rw [← e1]; simp
    rw [hl]
    refine int_eq ?_
    rw [hn]
    exact Int32.toInt_ofNat_of_lt (by omega)
  exact Go.stepX (fun T locs X eT _ k => X.arraylength C.1 (cell := cl) (by rw [eT]; exact A.1) (State.isArrayOf_alike C.2.2.2.1.alike A.2.1) (g := mkF m pc Ls (.ref a :: st)) rfl rfl (hb C.2.1 hd) _ (by rw [q]; exact k)) hr
theorem go_iaload (C : Cx p s m meth c Z own bs mx rt nm) {vs : List Value} {a : Addr} {j : Int32} (A : Av Z h a .int vs) (k : Nat) (v : Value) (hj : j.toInt = k) (hv : vs[k]? = some v) (hd : decode bs pc = .ok (.iaload, 1)) (hp : pc + 1 = pc') (hr : Go p l e R s m args below meth c n0 Q K N h ce sl (mkF m pc' Ls (v :: st))) : Go p l e R s m args below meth c n0 Q K N h ce sl (mkF m pc Ls (.int j :: .ref a :: st)) := by
  subst hp
  obtain ⟨cl, A, e1, e2, e3⟩ := A.at hj (List.getElem?_eq_some_iff.mp hv).1
  exact Go.stepX (fun T locs X eT _ q => X.iaload C.1 (j := j) (v := v) (by rw [eT]; exact A.1) (State.isArrayOf_alike C.2.2.2.1.alike A.2.1) A.2.2 e2 (e3.trans hv) (g := mkF m pc Ls (.int j :: .ref a :: st)) rfl rfl (hb C.2.1 hd) _ q) hr
theorem go_laload (C : Cx p s m meth c Z own bs mx rt nm) {vs : List Value} {a : Addr} {j : Int32} (A : Av Z h a .long vs) (k : Nat) (v : Value) (hj : j.toInt = k) (hv : vs[k]? = some v) (hd : decode bs pc = .ok (.laload, 1)) (hp : pc + 1 = pc') (hr : Go p l e R s m args below meth c n0 Q K N h ce sl (mkF m pc' Ls (v :: st))) : Go p l e R s m args below meth c n0 Q K N h ce sl (mkF m pc Ls (.int j :: .ref a :: st)) := by
  subst hp
  obtain ⟨cl, A, e1, e2, e3⟩ := A.at hj (List.getElem?_eq_some_iff.mp hv).1
  exact Go.stepX (fun T locs X eT _ q => X.laload C.1 (j := j) (v := v) (by rw [eT]; exact A.1) (State.isArrayOf_alike C.2.2.2.1.alike A.2.1) A.2.2 e2 (e3.trans hv) (g := mkF m pc Ls (.int j :: .ref a :: st)) rfl rfl (hb C.2.1 hd) _ q) hr
theorem go_baload (C : Cx p s m meth c Z own bs mx rt nm) {vs : List Value} {a : Addr} {j : Int32} (A : Av Z h a .byte vs) (k : Nat) (v : Value) (hj : j.toInt = k) (hv : vs[k]? = some v) (hd : decode bs pc = .ok (.baload, 1)) (hp : pc + 1 = pc') (hr : Go p l e R s m args below meth c n0 Q K N h ce sl (mkF m pc' Ls (v :: st))) : Go p l e R s m args below meth c n0 Q K N h ce sl (mkF m pc Ls (.int j :: .ref a :: st)) := by
  subst hp
  obtain ⟨cl, A, e1, e2, e3⟩ := A.at hj (List.getElem?_eq_some_iff.mp hv).1
  exact Go.stepX (fun T locs X eT _ q => X.baloadBytes C.1 (j := j) (v := v) (by rw [eT]; exact A.1) (State.isArrayOf_alike C.2.2.2.1.alike A.2.1) A.2.2 e2 (e3.trans hv) (g := mkF m pc Ls (.int j :: .ref a :: st)) rfl rfl (hb C.2.1 hd) _ q) hr
theorem go_iastore (C : Cx p s m meth c Z own bs mx rt nm) {vs : List Value} {a : Addr} {j : Int32} {x : Int32} (A : Av Z h a .int vs) (k : Nat) (hj : j.toInt = k) (hk : k < vs.length) (ha : n0 ≤ a) (hd : decode bs pc = .ok (.iastore, 1)) (hp : pc + 1 = pc') (hr : ∀ h', Wr h h' a k (.int x) → Av Z h' a .int (vs.set k (.int x)) → Go p l e R s m args below meth c n0 Q K N h' ce sl (mkF m pc' Ls st)) : Go p l e R s m args below meth c n0 Q K N h ce sl (mkF m pc Ls (.int x :: .int j :: .ref a :: st)) := by
  subst hp
  obtain ⟨cl, A1, e1, e2, e3⟩ := A.at hj hk
  intro T locs X eT Nn
  obtain ⟨T', h', X', e', W', stp⟩ := stI X C.1 C.2.2.2.1 eT A1 e2 (g := mkF m pc Ls (.int x :: .int j :: .ref a :: st)) rfl rfl (hb C.2.1 hd)
  have W2 : Wr h h' a k (.int x) := by rw [clamp_of hj] at W'; exact W'
  obtain ⟨s₂, o, h1, r⟩ := hr h' W2 (A.set W2) T' _ X' e' (Fr.snoc X' Nn ha)
  exact ⟨s₂, o, stp _ h1, r⟩
theorem go_lastore (C : Cx p s m meth c Z own bs mx rt nm) {vs : List Value} {a : Addr} {j : Int32} {x : Int64} (A : Av Z h a .long vs) (k : Nat) (hj : j.toInt = k) (hk : k < vs.length) (ha : n0 ≤ a) (hd : decode bs pc = .ok (.lastore, 1)) (hp : pc + 1 = pc') (hr : ∀ h', Wr h h' a k (.long x) → Av Z h' a .long (vs.set k (.long x)) → Go p l e R s m args below meth c n0 Q K N h' ce sl (mkF m pc' Ls st)) : Go p l e R s m args below meth c n0 Q K N h ce sl (mkF m pc Ls (.long x :: .int j :: .ref a :: st)) := by
  subst hp
  obtain ⟨cl, A1, e1, e2, e3⟩ := A.at hj hk
  intro T locs X eT Nn
  obtain ⟨T', h', X', e', W', stp⟩ := stJ X C.1 C.2.2.2.1 eT A1 e2 (g := mkF m pc Ls (.long x :: .int j :: .ref a :: st)) rfl rfl (hb C.2.1 hd)
  have W2 : Wr h h' a k (.long x) := by rw [clamp_of hj] at W'; exact W'
  obtain ⟨s₂, o, h1, r⟩ := hr h' W2 (A.set W2) T' _ X' e' (Fr.snoc X' Nn ha)
  exact ⟨s₂, o, stp _ h1, r⟩
theorem go_bastore (C : Cx p s m meth c Z own bs mx rt nm) {vs : List Value} {a : Addr} {j : Int32} {x : Int32} (A : Av Z h a .byte vs) (k : Nat) (hj : j.toInt = k) (hk : k < vs.length) (x' : Int32) (hx : x.toInt8.toInt32 = x') (ha : n0 ≤ a) (hd : decode bs pc = .ok (.bastore, 1)) (hp : pc + 1 = pc') (hr : ∀ h', Wr h h' a k (.int x') → Av Z h' a .byte (vs.set k (.int x')) → Go p l e R s m args below meth c n0 Q K N h' ce sl (mkF m pc' Ls st)) : Go p l e R s m args below meth c n0 Q K N h ce sl (mkF m pc Ls (.int x :: .int j :: .ref a :: st)) := by
  subst hp hx
  obtain ⟨cl, A1, e1, e2, e3⟩ := A.at hj hk
  intro T locs X eT Nn
  obtain ⟨T', h', X', e', W', stp⟩ := stB X C.1 C.2.2.2.1 eT A1 e2 (g := mkF m pc Ls (.int x :: .int j :: .ref a :: st)) rfl rfl (hb C.2.1 hd)
  have W2 : Wr h h' a k (.int x.toInt8.toInt32) := by rw [clamp_of hj] at W'; exact W'
  obtain ⟨s₂, o, h1, r⟩ := hr h' W2 (A.set W2) T' _ X' e' (Fr.snoc X' Nn ha)
  exact ⟨s₂, o, stp _ h1, r⟩
theorem go_newarray (C : Cx p s m meth c Z own bs mx rt nm) {aty : ArrayType} {ty : FieldType} {n : Int32} {ce' sl' : Nat} (w : (Jvm.Cond.arrayClass ty).before a0 Z = true) (hty : newarray.typeOf aty = ty) (k cap : Nat) (hn : n.toInt = k) (hcap : k ≤ cap) (hc8 : cap * 8 ≤ 536870912) (hce : ce + 1 = ce') (hsl : sl + cap = sl') (hc : ce' ≤ R.cells) (hl : sl' ≤ R.slots) (hd : decode bs pc = .ok (.newarray aty, 2)) (hp : pc + 2 = pc')
    (hr : ∀ (h' : Heap) (a : Addr), h.size = a → Ext h h' → Av Z h' a ty (List.replicate k (defaultValue ty)) → Go p l e R s m args below meth c n0 Q K N h' ce' sl' (mkF m pc' Ls (.ref a :: st))) : Go p l e R s m args below meth c n0 Q K N h ce sl (mkF m pc Ls (.int n :: st)) := by
  subst hp hty hce hsl
  intro T locs X eT Nn
  obtain ⟨T', h', cA, X', e', E', A', stp⟩ := newP X C.1 C.2.2.2.1 w eT (g := mkF m pc Ls (.int n :: st)) rfl (hb C.2.1 hd) rfl (nonneg_of hn) (cap := cap) (by rw [clamp_of hn]; exact hcap) hc8 hc hl
  have hb31 : k < 2147483648 := by have := n.toInt_lt; omega
  obtain ⟨s₂, o, h1, r⟩ := hr h' _ rfl E' ⟨_, A', by simp [newA, clamp_of hn], by simpa using hb31⟩ T' _ X' e' Nn
  exact ⟨s₂, o, stp _ h1, r⟩
theorem go_newarrayE (C : Cx p s m meth c Z own bs mx rt nm) {aty : ArrayType} {ty : FieldType} {n : Int32} {ce' sl' : Nat} {ad : String} (w : (Jvm.Cond.arrayClass ty).before a0 Z = true) (hty : newarray.typeOf aty = ty) (had : "[" ++ ty.toString = ad) (k cap : Nat) (hn : n.toInt = k) (hcap : k ≤ cap) (hc8 : cap * 8 ≤ 536870912) (hce : ce + 1 = ce') (hsl : sl + cap = sl') (hc : ce' ≤ R.cells) (hl : sl' ≤ R.slots) (hd : decode bs pc = .ok (.newarray aty, 2)) (hp : pc + 2 = pc')
    (hr : ∀ (h' : Heap) (a : Addr), h.size = a → Ext h h' → Exa Z h' a ad → Av Z h' a ty (List.replicate k (defaultValue ty)) → Go p l e R s m args below meth c n0 Q K N h' ce' sl' (mkF m pc' Ls (.ref a :: st))) : Go p l e R s m args below meth c n0 Q K N h ce sl (mkF m pc Ls (.int n :: st)) := by
  subst hp hty hce hsl
  intro T locs X eT Nn
  obtain ⟨T', h', cA, X', e', E', A', Q', stp⟩ := newPE X C.1 C.2.2.2.1 w eT (g := mkF m pc Ls (.int n :: st)) rfl (hb C.2.1 hd) rfl (nonneg_of hn) (cap := cap) (by rw [clamp_of hn]; exact hcap) hc8 hc hl had
  have hb31 : k < 2147483648 := by have := n.toInt_lt; omega
  obtain ⟨s₂, o, h1, r⟩ := hr h' _ rfl E' Q' ⟨_, A', by simp [newA, clamp_of hn], by simpa using hb31⟩ T' _ X' e' Nn
  exact ⟨s₂, o, stp _ h1, r⟩
theorem go_clone (C : Cx p s m meth c Z own bs mx rt nm) {i : Nat} {ad : String} {ty : FieldType} {vs : List Value} {a : Addr} {W cap ce' sl' : Nat} (w1 : (Jvm.Cond.methodLink own i ⟨ad, "clone", "()Ljava/lang/Object;"⟩).before a0 Z = true) (w2 : (Jvm.Cond.sameMethod ad "java/lang/Object" "clone" "()Ljava/lang/Object;").before a0 Z = true) (w3 : (Jvm.Cond.native ⟨"java/lang/Object", "clone", "()Ljava/lang/Object;"⟩).before a0 Z = true) (w4 : (Jvm.Cond.instanceMethod ⟨"java/lang/Object", "clone", "()Ljava/lang/Object;"⟩).before a0 Z = true) (w5 : (Jvm.Cond.selects ad ⟨ad, "clone", "()Ljava/lang/Object;"⟩ ⟨"java/lang/Object", "clone", "()Ljava/lang/Object;"⟩).before a0 Z = true) (w6 : (Jvm.Cond.castable ad "java/lang/Cloneable").before a0 Z = true) (A : Av Z h a ty vs) (E : Exa Z h a ad) (hfit : ∀ v ∈ vs, fits ty v = true) (hls : Ls.size = mx) (hf : 1 ≤ R.frames) (hW : wt st = W) (hlo : W + 14 ≤ R.locals) (hcap : vs.length ≤ cap) (hce : ce + 1 = ce') (hsl : sl + cap = sl') (hc : ce' ≤ R.cells) (hl : sl' ≤ R.slots) (hd : decode bs pc = .ok (.invokevirtual i, 3)) (hp : pc + 3 = pc')
    (hr : ∀ (h' : Heap) (b : Addr), h.size = b → Ext h h' → Exa Z h' b ad → Av Z h' b ty vs → Go p l e R s m args below meth c n0 Q K N h' ce' sl' (mkF m pc' Ls (.ref b :: st))) : Go p l e R s m args below meth c n0 Q K N h ce sl (mkF m pc Ls (.ref a :: st)) := by
  subst hp hce hsl
  intro T locs X eT Nn
  obtain ⟨cl, A1, e1, e2⟩ := A
  have hsz : cl.slots.size = vs.length := by rw [← e1]; simp
  have FC : FitC Z cl := fitC_of A1 fun i hi v hv => hfit v (by rw [← e1]; exact Array.mem_toList_iff.mpr (Array.mem_of_getElem? hv))
  obtain ⟨T', h', X', e', E', A', Q', stp⟩ := cloneA X C.1 C.2.2.2.1 C.2.2.2.2.1 w1 w2 w3 w4 w5 w6 eT A1 E FC (g := mkF m pc Ls (.ref a :: st)) rfl (hls.trans C.2.2.1.symm) rfl (hb C.2.1 hd) hf (W := W) (cap := cap) (by show 2 * 0 + wt st ≤ W; omega) hlo (by rw [hsz]; exact hcap) hc hl
  obtain ⟨s₂, o, h1, r⟩ := hr h' _ rfl E' Q' ⟨_, A', e1, e2⟩ T' _ X' e' Nn
  exact ⟨s₂, o, stp _ h1, r⟩
theorem go_checkcast (C : Cx p s m meth c Z own bs mx rt nm) {i : Nat} {K0 : String} {a : Addr} (w : (Jvm.Cond.classLink own i K0).before a0 Z = true) (E : Exa Z h a K0) (hd : decode bs pc = .ok (.checkcast i, 3)) (hp : pc + 3 = pc') (hr : Go p l e R s m args below meth c n0 Q K N h ce sl (mkF m pc' Ls (.ref a :: st))) : Go p l e R s m args below meth c n0 Q K N h ce sl (mkF m pc Ls (.ref a :: st)) := by
  subst hp
  intro T locs X eT Nn
  obtain ⟨T', X', e', stp⟩ := castY X C.1 C.2.2.2.1 C.2.2.2.2.1 w eT (Ins.self E) (g := mkF m pc Ls (.ref a :: st)) rfl rfl (hb C.2.1 hd)
  obtain ⟨s₂, o, h1, r⟩ := hr T' locs X' e' Nn
  exact ⟨s₂, o, stp _ h1, r⟩
theorem go_objinit (C : Cx p s m meth c Z own bs mx rt nm) {i : Nat} {a : Addr} {W : Nat} (w1 : (Jvm.Cond.methodLink own i Lib.objectInit).before a0 Z = true) (w2 : (Jvm.Cond.instanceMethod Lib.objectInit).before a0 Z = true) (w3 : (Jvm.Cond.code Lib.objectInit ⟨#[0xb1]⟩ 1 none).before a0 Z = true) (hls : Ls.size = mx) (hf : 1 ≤ R.frames) (hW : wt st = W) (hl : W + 12 ≤ R.locals) (hd : decode bs pc = .ok (.invokespecial i, 3)) (hp : pc + 3 = pc') (hr : Go p l e R s m args below meth c n0 Q K N h ce sl (mkF m pc' Ls st)) : Go p l e R s m args below meth c n0 Q K N h ce sl (mkF m pc Ls (.ref a :: st)) := by
  subst hp
  intro T locs X eT Nn
  obtain ⟨T', X', e', stp⟩ := initO X C.1 C.2.2.2.1 C.2.2.2.2.1 w1 w2 w3 eT (g := mkF m pc Ls (.ref a :: st)) rfl (hls.trans C.2.2.1.symm) rfl (hb C.2.1 hd) hf (W := W) (by show 2 * 0 + wt st ≤ W; omega) hl
  obtain ⟨s₂, o, h1, r⟩ := hr T' locs X' e' Nn
  exact ⟨s₂, o, stp _ h1, r⟩
theorem back_of_sat {y : MethodName} {cb : ByteArray} {cm : Nat} {cr : Option FieldType} {rm : Room} {as : List Value} {Qc : Option Value → Heap → Prop} {W len : Nat} (S : Sat l Z y cb cm cr rm as h n0 Qc) (hZ : Z.Warmed39 s.vm) (w3 : (Jvm.Cond.initialized y.cls).before a0 Z = true) (w4 : (Jvm.Cond.code y cb cm cr).before a0 Z = true) (hfr : rm.frames + 1 ≤ R.frames) (hlo : W + (cm + 11) + rm.locals ≤ R.locals) :
    Back l R p e below s args y len W (fun A a => a = as.toArray ∧ A.U.heap = h ∧ A.cells + rm.cells ≤ R.cells ∧ A.slots + rm.slots ≤ R.slots) (fun A _ v B => ∃ L, (Qc v B.U.heap ∧ Fr n0 L) ∧ B.locs = A.locs ++ L ∧ B.cells = A.cells + rm.cells ∧ B.slots = A.slots + rm.slots) :=
  backOf (Q := fun v h L => Qc v h ∧ Fr n0 L) (W := W) (S []) hZ w4 w3 hfr hlo
theorem go_static (C : Cx p s m meth c Z own bs mx rt nm) {y : MethodName} {i : Nat} {cb : ByteArray} {cm : Nat} {cr : Option FieldType} {rm : Room} {as rest : List Value} {W : Nat} {ps : List FieldType} {pr : Option FieldType} {ce' sl' : Nat} {Qc : Option Value → Heap → Prop} (S : Sat l Z y cb cm cr rm as h n0 Qc) (w1 : (Jvm.Cond.methodLink own i y).before a0 Z = true) (w2 : (Jvm.Cond.static y).before a0 Z = true) (w3 : (Jvm.Cond.initialized y.cls).before a0 Z = true) (w4 : (Jvm.Cond.code y cb cm cr).before a0 Z = true) (hy : y.cls ≠ "java/lang/invoke/MethodHandle" ∧ y.cls ≠ "java/lang/invoke/VarHandle") (hpd : parseMethodDescriptor y.desc = some ⟨ps, pr⟩) (hlen : as.length = ps.length) (hls : Ls.size = mx) (hW : wt rest = W) (hfr : rm.frames + 1 ≤ R.frames) (hlo : W + (cm + 11) + rm.locals ≤ R.locals) (hce : ce + rm.cells = ce') (hsl : sl + rm.slots = sl') (hcc : ce' ≤ R.cells) (hss : sl' ≤ R.slots) (hd : decode bs pc = .ok (.invokestatic i, 3)) (hp : pc + 3 = pc') (hst : st = as.reverse ++ rest) (hr : ∀ v h', Qc v h' → Go p l e R s m args below meth c n0 Q K N h' ce' sl' (mkF m pc' Ls (v.toList ++ rest))) : Go p l e R s m args below meth c n0 Q K N h ce sl (mkF m pc Ls st) := by
  subst hp hce hsl
  intro T locs X eT Nn
  have hZ := C.2.2.2.1
  obtain ⟨v, _, ⟨T', L', k', n'⟩, -, X', ⟨Lc, hQ, l', y', z'⟩, stp⟩ := Jvm.LawKit.callS X C.1 (y := y) C.2.2.2.2.1 (mvT hZ w1) (mvT hZ w2) (mvT hZ w3) (mvT hZ w4) hy (back_of_sat S hZ w3 w4 hfr hlo) (g := mkF m pc Ls st) rfl (hls.trans C.2.2.1.symm) (argsL := as) (rest := rest) (lenOf hpd hlen) hst (by show 2 * 0 + wt rest ≤ W; omega) (hb C.2.1 hd) (fun _ _ => ⟨rfl, eT, hcc, hss⟩)
  dsimp only [Pt.U, Pt.locs, Pt.cells, Pt.slots] at X' l' y' z' stp hQ
  subst l' y' z'
  obtain ⟨s₂, o, h1, r⟩ := hr v T'.heap hQ.1 T' _ X' rfl (Fr.app Nn hQ.2)
  exact ⟨s₂, o, stp _ h1, r⟩
theorem go_special (C : Cx p s m meth c Z own bs mx rt nm) {y : MethodName} {i : Nat} {cb : ByteArray} {cm : Nat} {rm : Room} {as rest : List Value} {W : Nat} {ps : List FieldType} {pr : Option FieldType} {ce' sl' : Nat} {a : Addr} {Qc : Option Value → Heap → Prop} (S : Sat l Z y cb cm none rm (.ref a :: as) h n0 Qc) (hyn : y.name = "<init>") (w1 : (Jvm.Cond.methodLink own i y).before a0 Z = true) (w2 : (Jvm.Cond.instanceMethod y).before a0 Z = true) (w3 : (Jvm.Cond.initialized y.cls).before a0 Z = true) (w4 : (Jvm.Cond.code y cb cm none).before a0 Z = true) (hy : y.cls ≠ "java/lang/invoke/MethodHandle" ∧ y.cls ≠ "java/lang/invoke/VarHandle") (hpd : parseMethodDescriptor y.desc = some ⟨ps, pr⟩) (hlen : as.length = ps.length) (hls : Ls.size = mx) (hW : wt rest = W) (hfr : rm.frames + 1 ≤ R.frames) (hlo : W + (cm + 11) + rm.locals ≤ R.locals) (hce : ce + rm.cells = ce') (hsl : sl + rm.slots = sl') (hcc : ce' ≤ R.cells) (hss : sl' ≤ R.slots) (hd : decode bs pc = .ok (.invokespecial i, 3)) (hp : pc + 3 = pc') (hst : st = as.reverse ++ .ref a :: rest) (hr : ∀ v h', Qc v h' → Go p l e R s m args below meth c n0 Q K N h' ce' sl' (mkF m pc' Ls (v.toList ++ rest))) : Go p l e R s m args below meth c n0 Q K N h ce sl (mkF m pc Ls st) := by
  subst hp hce hsl
  intro T locs X eT Nn
  have hZ := C.2.2.2.1
  obtain ⟨v, _, ⟨T', L', k', n'⟩, -, X', ⟨Lc, hQ, l', y', z'⟩, stp⟩ := X.specialBack C.1 (y := y) hyn C.2.2.2.2.1 (mvT hZ w1) (mvT hZ w2) (mvT hZ w4) hy (back_of_sat S hZ w3 w4 hfr hlo) (g := mkF m pc Ls st) rfl (hls.trans C.2.2.1.symm) (Steps.refl _) (a := a) (argsL := as) (rest := rest) (lenOf hpd hlen) hst (by show 2 * 0 + wt rest ≤ W; omega) (hb C.2.1 hd) (fun _ _ => ⟨rfl, eT, hcc, hss⟩)
  dsimp only [Pt.U, Pt.locs, Pt.cells, Pt.slots] at X' l' y' z' stp hQ
  subst l' y' z'
  obtain ⟨s₂, o, h1, r⟩ := hr v T'.heap hQ.1 T' _ X' rfl (Fr.app Nn hQ.2)
  exact ⟨s₂, o, stp.trans h1, r⟩
theorem go_virtual (C : Cx p s m meth c Z own bs mx rt nm) {y : MethodName} {i : Nat} {cb : ByteArray} {cm : Nat} {cr : Option FieldType} {rm : Room} {as rest : List Value} {W : Nat} {ps : List FieldType} {pr : Option FieldType} {ce' sl' : Nat} {a : Addr} {C0 : String} {Qc : Option Value → Heap → Prop} (S : Sat l Z y cb cm cr rm (.ref a :: as) h n0 Qc) (E : Exa Z h a C0) (w1 : (Jvm.Cond.methodLink own i y).before a0 Z = true) (w5 : (Jvm.Cond.declares y).before a0 Z = true) (w6 : (Jvm.Cond.selects C0 y y).before a0 Z = true) (w2 : (Jvm.Cond.instanceMethod y).before a0 Z = true) (w3 : (Jvm.Cond.initialized y.cls).before a0 Z = true) (w4 : (Jvm.Cond.code y cb cm cr).before a0 Z = true) (hy : y.cls ≠ "java/lang/invoke/MethodHandle" ∧ y.cls ≠ "java/lang/invoke/VarHandle") (hpd : parseMethodDescriptor y.desc = some ⟨ps, pr⟩) (hlen : as.length = ps.length) (hls : Ls.size = mx) (hW : wt rest = W) (hfr : rm.frames + 1 ≤ R.frames) (hlo : W + (cm + 11) + rm.locals ≤ R.locals) (hce : ce + rm.cells = ce') (hsl : sl + rm.slots = sl') (hcc : ce' ≤ R.cells) (hss : sl' ≤ R.slots) (hd : decode bs pc = .ok (.invokevirtual i, 3)) (hp : pc + 3 = pc') (hst : st = as.reverse ++ .ref a :: rest) (hr : ∀ v h', Qc v h' → Go p l e R s m args below meth c n0 Q K N h' ce' sl' (mkF m pc' Ls (v.toList ++ rest))) : Go p l e R s m args below meth c n0 Q K N h ce sl (mkF m pc Ls st) := by
  subst hp hce hsl
  intro T locs X eT Nn
  have hZ := C.2.2.2.1
  obtain ⟨cq, kq, qa, qb, qc⟩ := isOf hZ eT E
  obtain ⟨v, _, ⟨T', L', k', n'⟩, -, X', ⟨Lc, hQ, l', y', z'⟩, stp⟩ := X.virtualBack C.1 (y := y) (z := y) C.2.2.2.2.1 (mvT hZ w1) (mvT hZ w5) (notFace_of_selects (args := #[]) (mvT hZ w6)) (mvT hZ w6) (mvT hZ w2) hy (back_of_sat S hZ w3 w4 hfr hlo) qa qc (g := mkF m pc Ls st) rfl (hls.trans C.2.2.1.symm) (Steps.refl _) (argsL := as) (rest := rest) (lenOf hpd hlen) hst (by show 2 * 0 + wt rest ≤ W; omega) (hb C.2.1 hd) (fun _ _ => ⟨rfl, eT, hcc, hss⟩)
  dsimp only [Pt.U, Pt.locs, Pt.cells, Pt.slots] at X' l' y' z' stp hQ
  subst l' y' z'
  obtain ⟨s₂, o, h1, r⟩ := hr v T'.heap hQ.1 T' _ X' rfl (Fr.app Nn hQ.2)
  exact ⟨s₂, o, stp.trans h1, r⟩
theorem go_private (C : Cx p s m meth c Z own bs mx rt nm) {y : MethodName} {i : Nat} {cb : ByteArray} {cm : Nat} {cr : Option FieldType} {rm : Room} {as rest : List Value} {W : Nat} {ps : List FieldType} {pr : Option FieldType} {ce' sl' : Nat} {a : Addr} {C0 : String} {Qc : Option Value → Heap → Prop} (S : Sat l Z y cb cm cr rm (.ref a :: as) h n0 Qc) (E : Exa Z h a C0) (w1 : (Jvm.Cond.methodLink own i y).before a0 Z = true) (w5 : (Jvm.Cond.privateMethod y).before a0 Z = true) (w6 : (Jvm.Cond.selects y.cls y y).before a0 Z = true) (w2 : (Jvm.Cond.instanceMethod y).before a0 Z = true) (w3 : (Jvm.Cond.initialized y.cls).before a0 Z = true) (w4 : (Jvm.Cond.code y cb cm cr).before a0 Z = true) (hy : y.cls ≠ "java/lang/invoke/MethodHandle" ∧ y.cls ≠ "java/lang/invoke/VarHandle") (hpd : parseMethodDescriptor y.desc = some ⟨ps, pr⟩) (hlen : as.length = ps.length) (hls : Ls.size = mx) (hW : wt rest = W) (hfr : rm.frames + 1 ≤ R.frames) (hlo : W + (cm + 11) + rm.locals ≤ R.locals) (hce : ce + rm.cells = ce') (hsl : sl + rm.slots = sl') (hcc : ce' ≤ R.cells) (hss : sl' ≤ R.slots) (hd : decode bs pc = .ok (.invokevirtual i, 3)) (hp : pc + 3 = pc') (hst : st = as.reverse ++ .ref a :: rest) (hr : ∀ v h', Qc v h' → Go p l e R s m args below meth c n0 Q K N h' ce' sl' (mkF m pc' Ls (v.toList ++ rest))) : Go p l e R s m args below meth c n0 Q K N h ce sl (mkF m pc Ls st) := by
  subst hp hce hsl
  intro T locs X eT Nn
  have hZ := C.2.2.2.1
  obtain ⟨cell, hc1, hc2⟩ := E.cell
  obtain ⟨v, _, ⟨T', L', k', n'⟩, -, X', ⟨Lc, hQ, l', y', z'⟩, stp⟩ := X.privateBack C.1 (y := y) C.2.2.2.2.1 (mvT hZ w1) (mvT hZ w2) (mvT hZ w6) (Cond.privateMethod_at (args := #[]) (mvP hZ w5)) (mvT hZ w4) hy (back_of_sat S hZ w3 w4 hfr hlo) (g := mkF m pc Ls st) rfl (hls.trans C.2.2.1.symm) (Steps.refl _) (a := a) (by rw [eT]; exact hc1) hc2 (argsL := as) (rest := rest) (lenOf hpd hlen) hst (by show 2 * 0 + wt rest ≤ W; omega) (hb C.2.1 hd) (fun _ _ => ⟨rfl, eT, hcc, hss⟩)
  dsimp only [Pt.U, Pt.locs, Pt.cells, Pt.slots] at X' l' y' z' stp hQ
  subst l' y' z'
  obtain ⟨s₂, o, h1, r⟩ := hr v T'.heap hQ.1 T' _ X' rfl (Fr.app Nn hQ.2)
  exact ⟨s₂, o, stp.trans h1, r⟩
theorem own_selects_private {y : MethodName} {k : Nat} (wi : (Jvm.Cond.instantiable y.cls k).before a0 Z = true) (wp : (Jvm.Cond.privateMethod y).before a0 Z = true) (wm : (Jvm.Cond.instanceMethod y).before a0 Z = true) (hy : y.cls ≠ "java/lang/invoke/MethodHandle" ∧ y.cls ≠ "java/lang/invoke/VarHandle") : (Jvm.Cond.selects y.cls y y).before a0 Z = true := by
  obtain ⟨mk, methM, hnamed, hmethM, hstM, habM⟩ := Cond.instanceMethod_spec wm
  obtain ⟨c1, k1, q1, q2, q3, q4, -⟩ := Cond.instantiable_spec wi
  have hc := findClass_of_methodNamed hnamed
  cases q1.symm.trans hc
  have hf := State.methodFound?_of_named hnamed hy
  have hs : selectMethod {} Z.vm mk.cls mk = .method mk := selectMethod_private hmethM (Cond.privateMethod_at wp mk methM hnamed hmethM)
  have hi : k1.isInterface = false := by
    cases h : k1.isInterface
    · rfl
    · rw [h] at q4; simp at q4
  simp [Cond.before, Cond.holds, Cond.value, hc, hf, hnamed, hs, q2, hi]
theorem go_specialW (C : Cx p s m meth c Z own bs mx rt nm) {y : MethodName} {i : Nat} {cb : ByteArray} {cm : Nat} {rm : Room} {as rest : List Value} {W : Nat} {ps : List FieldType} {pr : Option FieldType} {ce' sl' : Nat} {a : Addr} {Qc : Option Value → Heap → Prop} (S : Sat l Z y cb cm none rm (.ref a :: as) h n0 Qc) (hyn : y.name = "<init>") (w1 : (Jvm.Cond.methodRef own i y).before a0 Z = true) (w2 : (Jvm.Cond.instanceMethod y).before a0 Z = true) (w3 : (Jvm.Cond.initialized y.cls).before a0 Z = true) (w4 : (Jvm.Cond.code y cb cm none).before a0 Z = true) (hy : y.cls ≠ "java/lang/invoke/MethodHandle" ∧ y.cls ≠ "java/lang/invoke/VarHandle") (hpd : parseMethodDescriptor y.desc = some ⟨ps, pr⟩) (hlen : as.length = ps.length) (hls : Ls.size = mx) (hW : wt rest = W) (hfr : rm.frames + 1 ≤ R.frames) (hlo : W + (cm + 11) + rm.locals ≤ R.locals) (hce : ce + rm.cells = ce') (hsl : sl + rm.slots = sl') (hcc : ce' ≤ R.cells) (hss : sl' ≤ R.slots) (hd : decode bs pc = .ok (.invokespecial i, 3)) (hp : pc + 3 = pc') (hst : st = as.reverse ++ .ref a :: rest) (hr : ∀ v h', Qc v h' → Go p l e R s m args below meth c n0 Q K N h' ce' sl' (mkF m pc' Ls (v.toList ++ rest))) : Go p l e R s m args below meth c n0 Q K N h ce sl (mkF m pc Ls st) := by
  subst hp hce hsl
  intro T locs X eT Nn
  have hZ := C.2.2.2.1
  have hT : Z.Warmed39 T.vm := wtrans hZ X.warmed
  obtain ⟨mZ, _, hnZ, -⟩ := Cond.instanceMethod_spec w2
  have w1T : (Jvm.Cond.methodRef own i y).before a0 T = true := (Cond.methodRef_warmed39 hT hnZ hy w1 :)
  obtain ⟨mO, methO, hnO, hmO, hstO, habO⟩ := Cond.instanceMethod_spec (mv (args := a0) hT w2)
  obtain ⟨methO', cO, hmO', hcO, hbO, hlO, -, hlockO, -, hsigO⟩ := Cond.code_spec hnO (mv (args := a0) hT w4)
  cases hmO.symm.trans hmO'
  obtain ⟨kO, hkO, hnameO⟩ := className_of_methodNamed hnO
  obtain ⟨hnameMO, hdescO⟩ := name_of_methodNamed hnO hmO
  have hownT : T.vm.findClass own = some m.cls := by rw [X.warmed.alike.findClass]; exact C.2.2.2.2.1
  obtain ⟨m', c', hf', hready, hfc, hnr⟩ := Cond.methodRef_named e hownT w1T
  have e1 : m' = mO := Option.some.inj (hf'.symm.trans (State.methodFound?_of_named hnO hy))
  subst e1
  have e2 : c' = m'.cls := Option.some.inj (hfc.symm.trans (findClass_of_methodNamed hnO))
  subst e2
  have hfound : lookupSpecial T.vm m'.cls "<init>" methO.desc = .method m' := by rw [hdescO, ← hyn]; exact lookupSpecial_of_named hnO hmO hstO
  have hstep : ∀ target, (∀ acts, Steps p.tables e below (doInvoke e (T.setTop { mkF m pc Ls st with stack := rest }) acts m' (.ref a :: as).toArray).1 target) → Steps p.tables e below (T.setTop (mkF m pc Ls st)) target := fun target hrest => by
    jvm_step X.here [C.1, (hb C.2.1 hd), invokespecial.wp_init (e := e) (s := T) (k := kO) (meth := methO) (m := m') (a := a) (args := as) (rest := rest) (f := mkF m pc Ls st) X.here.top hnr hready hkO hmO (by rw [hnameMO]; exact hyn) hstO habO hfound (lenOf hpd hlen _ hsigO) hst]
    exact hrest
  have B := back_of_sat (p := p) (e := e) (below := below) (args := args) (R := R) (len := 3) S hZ w3 w4 hfr hlo
  obtain ⟨v, ⟨T', L', k', n'⟩, X', ⟨Lc, hQ, l', y', z'⟩, stp⟩ := B m meth c ⟨T, locs, ce, sl⟩ { mkF m pc Ls st with stack := rest } (.invokespecial i) m' (.ref a :: as).toArray X rfl (hls.trans C.2.2.1.symm) (hb C.2.1 hd) (by show 2 * 0 + wt rest ≤ W; omega) hnO ⟨rfl, eT, hcc, hss⟩
  dsimp only [Pt.U, Pt.locs, Pt.cells, Pt.slots] at X' l' y' z' stp hQ
  subst l' y' z'
  obtain ⟨s₂, o, h1, r⟩ := hr v T'.heap hQ.1 T' _ X' rfl (Fr.app Nn hQ.2)
  exact ⟨s₂, o, (hstep _ (fun acts => by rw [doInvoke_state]; exact Steps.refl _)).trans (stp.trans h1), r⟩
theorem go_staticP (C : Cx p s m meth c Z own bs mx rt nm) {y : MethodName} {i : Nat} {cb : ByteArray} {cm : Nat} {cr : Option FieldType} {rm : Room} {as rest : List Value} {W : Nat} {ps : List FieldType} {pr : Option FieldType}  (v : Value) (S : Sat l Z y cb cm cr rm as h n0 (RV fun r h' => r = v ∧ h' = h)) (w1 : (Jvm.Cond.methodLink own i y).before a0 Z = true) (w2 : (Jvm.Cond.static y).before a0 Z = true) (w3 : (Jvm.Cond.initialized y.cls).before a0 Z = true) (w4 : (Jvm.Cond.code y cb cm cr).before a0 Z = true) (hy : y.cls ≠ "java/lang/invoke/MethodHandle" ∧ y.cls ≠ "java/lang/invoke/VarHandle") (hpd : parseMethodDescriptor y.desc = some ⟨ps, pr⟩) (hlen : as.length = ps.length) (hls : Ls.size = mx) (hW : wt rest = W) (hfr : rm.frames + 1 ≤ R.frames) (hlo : W + (cm + 11) + rm.locals ≤ R.locals) (hce : rm.cells = 0) (hsl : rm.slots = 0) (hcc : ce ≤ R.cells) (hss : sl ≤ R.slots) (hd : decode bs pc = .ok (.invokestatic i, 3)) (hp : pc + 3 = pc') (hst : st = as.reverse ++ rest) (hr : Go p l e R s m args below meth c n0 Q K N h ce sl (mkF m pc' Ls (v :: rest))) : Go p l e R s m args below meth c n0 Q K N h ce sl (mkF m pc Ls st) :=
  go_static C S w1 w2 w3 w4 hy hpd hlen hls hW hfr hlo (by rw [hce]; rfl) (by rw [hsl]; rfl) hcc hss hd hp hst (fun w h' hq => by obtain ⟨r, rfl, q1, q2⟩ := hq; rw [q1, q2]; exact hr)
theorem go_staticV (C : Cx p s m meth c Z own bs mx rt nm) {y : MethodName} {i : Nat} {cb : ByteArray} {cm : Nat} {cr : Option FieldType} {rm : Room} {as rest : List Value} {W : Nat} {ps : List FieldType} {pr : Option FieldType} {ce' sl' : Nat}  {P : Value → Heap → Prop} (S : Sat l Z y cb cm cr rm as h n0 (RV P)) (w1 : (Jvm.Cond.methodLink own i y).before a0 Z = true) (w2 : (Jvm.Cond.static y).before a0 Z = true) (w3 : (Jvm.Cond.initialized y.cls).before a0 Z = true) (w4 : (Jvm.Cond.code y cb cm cr).before a0 Z = true) (hy : y.cls ≠ "java/lang/invoke/MethodHandle" ∧ y.cls ≠ "java/lang/invoke/VarHandle") (hpd : parseMethodDescriptor y.desc = some ⟨ps, pr⟩) (hlen : as.length = ps.length) (hls : Ls.size = mx) (hW : wt rest = W) (hfr : rm.frames + 1 ≤ R.frames) (hlo : W + (cm + 11) + rm.locals ≤ R.locals) (hce : ce + rm.cells = ce') (hsl : sl + rm.slots = sl') (hcc : ce' ≤ R.cells) (hss : sl' ≤ R.slots) (hd : decode bs pc = .ok (.invokestatic i, 3)) (hp : pc + 3 = pc') (hst : st = as.reverse ++ rest) (hr : ∀ r h', P r h' → Go p l e R s m args below meth c n0 Q K N h' ce' sl' (mkF m pc' Ls (r :: rest))) : Go p l e R s m args below meth c n0 Q K N h ce sl (mkF m pc Ls st) :=
  go_static C S w1 w2 w3 w4 hy hpd hlen hls hW hfr hlo hce hsl hcc hss hd hp hst (fun v h' hq => by obtain ⟨r, rfl, q⟩ := hq; exact hr r h' q)
theorem go_staticN (C : Cx p s m meth c Z own bs mx rt nm) {y : MethodName} {i : Nat} {cb : ByteArray} {cm : Nat} {cr : Option FieldType} {rm : Room} {as rest : List Value} {W : Nat} {ps : List FieldType} {pr : Option FieldType} {ce' sl' : Nat}  {P : Heap → Prop} (S : Sat l Z y cb cm cr rm as h n0 (RN P)) (w1 : (Jvm.Cond.methodLink own i y).before a0 Z = true) (w2 : (Jvm.Cond.static y).before a0 Z = true) (w3 : (Jvm.Cond.initialized y.cls).before a0 Z = true) (w4 : (Jvm.Cond.code y cb cm cr).before a0 Z = true) (hy : y.cls ≠ "java/lang/invoke/MethodHandle" ∧ y.cls ≠ "java/lang/invoke/VarHandle") (hpd : parseMethodDescriptor y.desc = some ⟨ps, pr⟩) (hlen : as.length = ps.length) (hls : Ls.size = mx) (hW : wt rest = W) (hfr : rm.frames + 1 ≤ R.frames) (hlo : W + (cm + 11) + rm.locals ≤ R.locals) (hce : ce + rm.cells = ce') (hsl : sl + rm.slots = sl') (hcc : ce' ≤ R.cells) (hss : sl' ≤ R.slots) (hd : decode bs pc = .ok (.invokestatic i, 3)) (hp : pc + 3 = pc') (hst : st = as.reverse ++ rest) (hr : ∀ h', P h' → Go p l e R s m args below meth c n0 Q K N h' ce' sl' (mkF m pc' Ls rest)) : Go p l e R s m args below meth c n0 Q K N h ce sl (mkF m pc Ls st) :=
  go_static C S w1 w2 w3 w4 hy hpd hlen hls hW hfr hlo hce hsl hcc hss hd hp hst (fun v h' hq => by obtain ⟨rfl, q⟩ := hq; exact hr h' q)
theorem go_virtualP (C : Cx p s m meth c Z own bs mx rt nm) {y : MethodName} {i : Nat} {cb : ByteArray} {cm : Nat} {cr : Option FieldType} {rm : Room} {as rest : List Value} {W : Nat} {ps : List FieldType} {pr : Option FieldType} {a : Addr} {C0 : String} (v : Value) (S : Sat l Z y cb cm cr rm (.ref a :: as) h n0 (RV fun r h' => r = v ∧ h' = h)) (E : Exa Z h a C0) (w1 : (Jvm.Cond.methodLink own i y).before a0 Z = true) (w5 : (Jvm.Cond.declares y).before a0 Z = true) (w6 : (Jvm.Cond.selects C0 y y).before a0 Z = true) (w2 : (Jvm.Cond.instanceMethod y).before a0 Z = true) (w3 : (Jvm.Cond.initialized y.cls).before a0 Z = true) (w4 : (Jvm.Cond.code y cb cm cr).before a0 Z = true) (hy : y.cls ≠ "java/lang/invoke/MethodHandle" ∧ y.cls ≠ "java/lang/invoke/VarHandle") (hpd : parseMethodDescriptor y.desc = some ⟨ps, pr⟩) (hlen : as.length = ps.length) (hls : Ls.size = mx) (hW : wt rest = W) (hfr : rm.frames + 1 ≤ R.frames) (hlo : W + (cm + 11) + rm.locals ≤ R.locals) (hce : rm.cells = 0) (hsl : rm.slots = 0) (hcc : ce ≤ R.cells) (hss : sl ≤ R.slots) (hd : decode bs pc = .ok (.invokevirtual i, 3)) (hp : pc + 3 = pc') (hst : st = as.reverse ++ .ref a :: rest) (hr : Go p l e R s m args below meth c n0 Q K N h ce sl (mkF m pc' Ls (v :: rest))) : Go p l e R s m args below meth c n0 Q K N h ce sl (mkF m pc Ls st) :=
  go_virtual C S E w1 w5 w6 w2 w3 w4 hy hpd hlen hls hW hfr hlo (by rw [hce]; rfl) (by rw [hsl]; rfl) hcc hss hd hp hst (fun w h' hq => by obtain ⟨r, rfl, q1, q2⟩ := hq; rw [q1, q2]; exact hr)
theorem go_virtualV (C : Cx p s m meth c Z own bs mx rt nm) {y : MethodName} {i : Nat} {cb : ByteArray} {cm : Nat} {cr : Option FieldType} {rm : Room} {as rest : List Value} {W : Nat} {ps : List FieldType} {pr : Option FieldType} {ce' sl' : Nat} {a : Addr} {C0 : String} {P : Value → Heap → Prop} (S : Sat l Z y cb cm cr rm (.ref a :: as) h n0 (RV P)) (E : Exa Z h a C0) (w1 : (Jvm.Cond.methodLink own i y).before a0 Z = true) (w5 : (Jvm.Cond.declares y).before a0 Z = true) (w6 : (Jvm.Cond.selects C0 y y).before a0 Z = true) (w2 : (Jvm.Cond.instanceMethod y).before a0 Z = true) (w3 : (Jvm.Cond.initialized y.cls).before a0 Z = true) (w4 : (Jvm.Cond.code y cb cm cr).before a0 Z = true) (hy : y.cls ≠ "java/lang/invoke/MethodHandle" ∧ y.cls ≠ "java/lang/invoke/VarHandle") (hpd : parseMethodDescriptor y.desc = some ⟨ps, pr⟩) (hlen : as.length = ps.length) (hls : Ls.size = mx) (hW : wt rest = W) (hfr : rm.frames + 1 ≤ R.frames) (hlo : W + (cm + 11) + rm.locals ≤ R.locals) (hce : ce + rm.cells = ce') (hsl : sl + rm.slots = sl') (hcc : ce' ≤ R.cells) (hss : sl' ≤ R.slots) (hd : decode bs pc = .ok (.invokevirtual i, 3)) (hp : pc + 3 = pc') (hst : st = as.reverse ++ .ref a :: rest) (hr : ∀ r h', P r h' → Go p l e R s m args below meth c n0 Q K N h' ce' sl' (mkF m pc' Ls (r :: rest))) : Go p l e R s m args below meth c n0 Q K N h ce sl (mkF m pc Ls st) :=
  go_virtual C S E w1 w5 w6 w2 w3 w4 hy hpd hlen hls hW hfr hlo hce hsl hcc hss hd hp hst (fun v h' hq => by obtain ⟨r, rfl, q⟩ := hq; exact hr r h' q)
theorem go_virtualN (C : Cx p s m meth c Z own bs mx rt nm) {y : MethodName} {i : Nat} {cb : ByteArray} {cm : Nat} {cr : Option FieldType} {rm : Room} {as rest : List Value} {W : Nat} {ps : List FieldType} {pr : Option FieldType} {ce' sl' : Nat} {a : Addr} {C0 : String} {P : Heap → Prop} (S : Sat l Z y cb cm cr rm (.ref a :: as) h n0 (RN P)) (E : Exa Z h a C0) (w1 : (Jvm.Cond.methodLink own i y).before a0 Z = true) (w5 : (Jvm.Cond.declares y).before a0 Z = true) (w6 : (Jvm.Cond.selects C0 y y).before a0 Z = true) (w2 : (Jvm.Cond.instanceMethod y).before a0 Z = true) (w3 : (Jvm.Cond.initialized y.cls).before a0 Z = true) (w4 : (Jvm.Cond.code y cb cm cr).before a0 Z = true) (hy : y.cls ≠ "java/lang/invoke/MethodHandle" ∧ y.cls ≠ "java/lang/invoke/VarHandle") (hpd : parseMethodDescriptor y.desc = some ⟨ps, pr⟩) (hlen : as.length = ps.length) (hls : Ls.size = mx) (hW : wt rest = W) (hfr : rm.frames + 1 ≤ R.frames) (hlo : W + (cm + 11) + rm.locals ≤ R.locals) (hce : ce + rm.cells = ce') (hsl : sl + rm.slots = sl') (hcc : ce' ≤ R.cells) (hss : sl' ≤ R.slots) (hd : decode bs pc = .ok (.invokevirtual i, 3)) (hp : pc + 3 = pc') (hst : st = as.reverse ++ .ref a :: rest) (hr : ∀ h', P h' → Go p l e R s m args below meth c n0 Q K N h' ce' sl' (mkF m pc' Ls rest)) : Go p l e R s m args below meth c n0 Q K N h ce sl (mkF m pc Ls st) :=
  go_virtual C S E w1 w5 w6 w2 w3 w4 hy hpd hlen hls hW hfr hlo hce hsl hcc hss hd hp hst (fun v h' hq => by obtain ⟨rfl, q⟩ := hq; exact hr h' q)
theorem go_privateP (C : Cx p s m meth c Z own bs mx rt nm) {y : MethodName} {i : Nat} {cb : ByteArray} {cm : Nat} {cr : Option FieldType} {rm : Room} {as rest : List Value} {W : Nat} {ps : List FieldType} {pr : Option FieldType} {a : Addr} {C0 : String} (v : Value) (S : Sat l Z y cb cm cr rm (.ref a :: as) h n0 (RV fun r h' => r = v ∧ h' = h)) (E : Exa Z h a C0) (w1 : (Jvm.Cond.methodLink own i y).before a0 Z = true) (w5 : (Jvm.Cond.privateMethod y).before a0 Z = true) (w6 : (Jvm.Cond.selects y.cls y y).before a0 Z = true) (w2 : (Jvm.Cond.instanceMethod y).before a0 Z = true) (w3 : (Jvm.Cond.initialized y.cls).before a0 Z = true) (w4 : (Jvm.Cond.code y cb cm cr).before a0 Z = true) (hy : y.cls ≠ "java/lang/invoke/MethodHandle" ∧ y.cls ≠ "java/lang/invoke/VarHandle") (hpd : parseMethodDescriptor y.desc = some ⟨ps, pr⟩) (hlen : as.length = ps.length) (hls : Ls.size = mx) (hW : wt rest = W) (hfr : rm.frames + 1 ≤ R.frames) (hlo : W + (cm + 11) + rm.locals ≤ R.locals) (hce : rm.cells = 0) (hsl : rm.slots = 0) (hcc : ce ≤ R.cells) (hss : sl ≤ R.slots) (hd : decode bs pc = .ok (.invokevirtual i, 3)) (hp : pc + 3 = pc') (hst : st = as.reverse ++ .ref a :: rest) (hr : Go p l e R s m args below meth c n0 Q K N h ce sl (mkF m pc' Ls (v :: rest))) : Go p l e R s m args below meth c n0 Q K N h ce sl (mkF m pc Ls st) :=
  go_private C S E w1 w5 w6 w2 w3 w4 hy hpd hlen hls hW hfr hlo (by rw [hce]; rfl) (by rw [hsl]; rfl) hcc hss hd hp hst (fun w h' hq => by obtain ⟨r, rfl, q1, q2⟩ := hq; rw [q1, q2]; exact hr)
theorem go_privateV (C : Cx p s m meth c Z own bs mx rt nm) {y : MethodName} {i : Nat} {cb : ByteArray} {cm : Nat} {cr : Option FieldType} {rm : Room} {as rest : List Value} {W : Nat} {ps : List FieldType} {pr : Option FieldType} {ce' sl' : Nat} {a : Addr} {C0 : String} {P : Value → Heap → Prop} (S : Sat l Z y cb cm cr rm (.ref a :: as) h n0 (RV P)) (E : Exa Z h a C0) (w1 : (Jvm.Cond.methodLink own i y).before a0 Z = true) (w5 : (Jvm.Cond.privateMethod y).before a0 Z = true) (w6 : (Jvm.Cond.selects y.cls y y).before a0 Z = true) (w2 : (Jvm.Cond.instanceMethod y).before a0 Z = true) (w3 : (Jvm.Cond.initialized y.cls).before a0 Z = true) (w4 : (Jvm.Cond.code y cb cm cr).before a0 Z = true) (hy : y.cls ≠ "java/lang/invoke/MethodHandle" ∧ y.cls ≠ "java/lang/invoke/VarHandle") (hpd : parseMethodDescriptor y.desc = some ⟨ps, pr⟩) (hlen : as.length = ps.length) (hls : Ls.size = mx) (hW : wt rest = W) (hfr : rm.frames + 1 ≤ R.frames) (hlo : W + (cm + 11) + rm.locals ≤ R.locals) (hce : ce + rm.cells = ce') (hsl : sl + rm.slots = sl') (hcc : ce' ≤ R.cells) (hss : sl' ≤ R.slots) (hd : decode bs pc = .ok (.invokevirtual i, 3)) (hp : pc + 3 = pc') (hst : st = as.reverse ++ .ref a :: rest) (hr : ∀ r h', P r h' → Go p l e R s m args below meth c n0 Q K N h' ce' sl' (mkF m pc' Ls (r :: rest))) : Go p l e R s m args below meth c n0 Q K N h ce sl (mkF m pc Ls st) :=
  go_private C S E w1 w5 w6 w2 w3 w4 hy hpd hlen hls hW hfr hlo hce hsl hcc hss hd hp hst (fun v h' hq => by obtain ⟨r, rfl, q⟩ := hq; exact hr r h' q)
theorem go_privateN (C : Cx p s m meth c Z own bs mx rt nm) {y : MethodName} {i : Nat} {cb : ByteArray} {cm : Nat} {cr : Option FieldType} {rm : Room} {as rest : List Value} {W : Nat} {ps : List FieldType} {pr : Option FieldType} {ce' sl' : Nat} {a : Addr} {C0 : String} {P : Heap → Prop} (S : Sat l Z y cb cm cr rm (.ref a :: as) h n0 (RN P)) (E : Exa Z h a C0) (w1 : (Jvm.Cond.methodLink own i y).before a0 Z = true) (w5 : (Jvm.Cond.privateMethod y).before a0 Z = true) (w6 : (Jvm.Cond.selects y.cls y y).before a0 Z = true) (w2 : (Jvm.Cond.instanceMethod y).before a0 Z = true) (w3 : (Jvm.Cond.initialized y.cls).before a0 Z = true) (w4 : (Jvm.Cond.code y cb cm cr).before a0 Z = true) (hy : y.cls ≠ "java/lang/invoke/MethodHandle" ∧ y.cls ≠ "java/lang/invoke/VarHandle") (hpd : parseMethodDescriptor y.desc = some ⟨ps, pr⟩) (hlen : as.length = ps.length) (hls : Ls.size = mx) (hW : wt rest = W) (hfr : rm.frames + 1 ≤ R.frames) (hlo : W + (cm + 11) + rm.locals ≤ R.locals) (hce : ce + rm.cells = ce') (hsl : sl + rm.slots = sl') (hcc : ce' ≤ R.cells) (hss : sl' ≤ R.slots) (hd : decode bs pc = .ok (.invokevirtual i, 3)) (hp : pc + 3 = pc') (hst : st = as.reverse ++ .ref a :: rest) (hr : ∀ h', P h' → Go p l e R s m args below meth c n0 Q K N h' ce' sl' (mkF m pc' Ls rest)) : Go p l e R s m args below meth c n0 Q K N h ce sl (mkF m pc Ls st) :=
  go_private C S E w1 w5 w6 w2 w3 w4 hy hpd hlen hls hW hfr hlo hce hsl hcc hss hd hp hst (fun v h' hq => by obtain ⟨rfl, q⟩ := hq; exact hr h' q)
theorem go_specialV (C : Cx p s m meth c Z own bs mx rt nm) {y : MethodName} {i : Nat} {cb : ByteArray} {cm : Nat} {rm : Room} {as rest : List Value} {W : Nat} {ps : List FieldType} {pr : Option FieldType} {ce' sl' : Nat} {a : Addr} {P : Value → Heap → Prop} (S : Sat l Z y cb cm none rm (.ref a :: as) h n0 (RV P)) (hyn : y.name = "<init>") (w1 : (Jvm.Cond.methodLink own i y).before a0 Z = true) (w2 : (Jvm.Cond.instanceMethod y).before a0 Z = true) (w3 : (Jvm.Cond.initialized y.cls).before a0 Z = true) (w4 : (Jvm.Cond.code y cb cm none).before a0 Z = true) (hy : y.cls ≠ "java/lang/invoke/MethodHandle" ∧ y.cls ≠ "java/lang/invoke/VarHandle") (hpd : parseMethodDescriptor y.desc = some ⟨ps, pr⟩) (hlen : as.length = ps.length) (hls : Ls.size = mx) (hW : wt rest = W) (hfr : rm.frames + 1 ≤ R.frames) (hlo : W + (cm + 11) + rm.locals ≤ R.locals) (hce : ce + rm.cells = ce') (hsl : sl + rm.slots = sl') (hcc : ce' ≤ R.cells) (hss : sl' ≤ R.slots) (hd : decode bs pc = .ok (.invokespecial i, 3)) (hp : pc + 3 = pc') (hst : st = as.reverse ++ .ref a :: rest) (hr : ∀ r h', P r h' → Go p l e R s m args below meth c n0 Q K N h' ce' sl' (mkF m pc' Ls (r :: rest))) : Go p l e R s m args below meth c n0 Q K N h ce sl (mkF m pc Ls st) :=
  go_special C S hyn w1 w2 w3 w4 hy hpd hlen hls hW hfr hlo hce hsl hcc hss hd hp hst (fun v h' hq => by obtain ⟨r, rfl, q⟩ := hq; exact hr r h' q)
theorem go_specialN (C : Cx p s m meth c Z own bs mx rt nm) {y : MethodName} {i : Nat} {cb : ByteArray} {cm : Nat} {rm : Room} {as rest : List Value} {W : Nat} {ps : List FieldType} {pr : Option FieldType} {ce' sl' : Nat} {a : Addr} {P : Heap → Prop} (S : Sat l Z y cb cm none rm (.ref a :: as) h n0 (RN P)) (hyn : y.name = "<init>") (w1 : (Jvm.Cond.methodLink own i y).before a0 Z = true) (w2 : (Jvm.Cond.instanceMethod y).before a0 Z = true) (w3 : (Jvm.Cond.initialized y.cls).before a0 Z = true) (w4 : (Jvm.Cond.code y cb cm none).before a0 Z = true) (hy : y.cls ≠ "java/lang/invoke/MethodHandle" ∧ y.cls ≠ "java/lang/invoke/VarHandle") (hpd : parseMethodDescriptor y.desc = some ⟨ps, pr⟩) (hlen : as.length = ps.length) (hls : Ls.size = mx) (hW : wt rest = W) (hfr : rm.frames + 1 ≤ R.frames) (hlo : W + (cm + 11) + rm.locals ≤ R.locals) (hce : ce + rm.cells = ce') (hsl : sl + rm.slots = sl') (hcc : ce' ≤ R.cells) (hss : sl' ≤ R.slots) (hd : decode bs pc = .ok (.invokespecial i, 3)) (hp : pc + 3 = pc') (hst : st = as.reverse ++ .ref a :: rest) (hr : ∀ h', P h' → Go p l e R s m args below meth c n0 Q K N h' ce' sl' (mkF m pc' Ls rest)) : Go p l e R s m args below meth c n0 Q K N h ce sl (mkF m pc Ls st) :=
  go_special C S hyn w1 w2 w3 w4 hy hpd hlen hls hW hfr hlo hce hsl hcc hss hd hp hst (fun v h' hq => by obtain ⟨rfl, q⟩ := hq; exact hr h' q)
theorem go_specialWV (C : Cx p s m meth c Z own bs mx rt nm) {y : MethodName} {i : Nat} {cb : ByteArray} {cm : Nat} {rm : Room} {as rest : List Value} {W : Nat} {ps : List FieldType} {pr : Option FieldType} {ce' sl' : Nat} {a : Addr} {P : Value → Heap → Prop} (S : Sat l Z y cb cm none rm (.ref a :: as) h n0 (RV P)) (hyn : y.name = "<init>") (w1 : (Jvm.Cond.methodRef own i y).before a0 Z = true) (w2 : (Jvm.Cond.instanceMethod y).before a0 Z = true) (w3 : (Jvm.Cond.initialized y.cls).before a0 Z = true) (w4 : (Jvm.Cond.code y cb cm none).before a0 Z = true) (hy : y.cls ≠ "java/lang/invoke/MethodHandle" ∧ y.cls ≠ "java/lang/invoke/VarHandle") (hpd : parseMethodDescriptor y.desc = some ⟨ps, pr⟩) (hlen : as.length = ps.length) (hls : Ls.size = mx) (hW : wt rest = W) (hfr : rm.frames + 1 ≤ R.frames) (hlo : W + (cm + 11) + rm.locals ≤ R.locals) (hce : ce + rm.cells = ce') (hsl : sl + rm.slots = sl') (hcc : ce' ≤ R.cells) (hss : sl' ≤ R.slots) (hd : decode bs pc = .ok (.invokespecial i, 3)) (hp : pc + 3 = pc') (hst : st = as.reverse ++ .ref a :: rest) (hr : ∀ r h', P r h' → Go p l e R s m args below meth c n0 Q K N h' ce' sl' (mkF m pc' Ls (r :: rest))) : Go p l e R s m args below meth c n0 Q K N h ce sl (mkF m pc Ls st) :=
  go_specialW C S hyn w1 w2 w3 w4 hy hpd hlen hls hW hfr hlo hce hsl hcc hss hd hp hst (fun v h' hq => by obtain ⟨r, rfl, q⟩ := hq; exact hr r h' q)
theorem go_specialWN (C : Cx p s m meth c Z own bs mx rt nm) {y : MethodName} {i : Nat} {cb : ByteArray} {cm : Nat} {rm : Room} {as rest : List Value} {W : Nat} {ps : List FieldType} {pr : Option FieldType} {ce' sl' : Nat} {a : Addr} {P : Heap → Prop} (S : Sat l Z y cb cm none rm (.ref a :: as) h n0 (RN P)) (hyn : y.name = "<init>") (w1 : (Jvm.Cond.methodRef own i y).before a0 Z = true) (w2 : (Jvm.Cond.instanceMethod y).before a0 Z = true) (w3 : (Jvm.Cond.initialized y.cls).before a0 Z = true) (w4 : (Jvm.Cond.code y cb cm none).before a0 Z = true) (hy : y.cls ≠ "java/lang/invoke/MethodHandle" ∧ y.cls ≠ "java/lang/invoke/VarHandle") (hpd : parseMethodDescriptor y.desc = some ⟨ps, pr⟩) (hlen : as.length = ps.length) (hls : Ls.size = mx) (hW : wt rest = W) (hfr : rm.frames + 1 ≤ R.frames) (hlo : W + (cm + 11) + rm.locals ≤ R.locals) (hce : ce + rm.cells = ce') (hsl : sl + rm.slots = sl') (hcc : ce' ≤ R.cells) (hss : sl' ≤ R.slots) (hd : decode bs pc = .ok (.invokespecial i, 3)) (hp : pc + 3 = pc') (hst : st = as.reverse ++ .ref a :: rest) (hr : ∀ h', P h' → Go p l e R s m args below meth c n0 Q K N h' ce' sl' (mkF m pc' Ls rest)) : Go p l e R s m args below meth c n0 Q K N h ce sl (mkF m pc Ls st) :=
  go_specialW C S hyn w1 w2 w3 w4 hy hpd hlen hls hW hfr hlo hce hsl hcc hss hd hp hst (fun v h' hq => by obtain ⟨rfl, q⟩ := hq; exact hr h' q)
theorem go_ireturnI (C : Cx p s m meth c Z own bs mx rt nm) {z : Int32} (hrt : rt = some .int) (hd : decode bs pc = .ok (.ireturn, 1)) (hk : ce ≤ K) (hn : sl ≤ N) (hq : Q (some (.int z)) h) : Go p l e R s m args below meth c n0 Q K N h ce sl (mkF m pc Ls [.int z]) := by
  subst hrt
  intro T locs X eT Nn
  obtain ⟨fs, hr, hrun, hended, hW, hsame⟩ := X.leave (v := some (.int z)) (fun q => by first | rfl | (rw [C.2.2.2.2.2.1] at q; cases q)) C.2.2.2.2.2.2.1
  refine ⟨_, _, X.ireturnOut C.1 C.2.2.2.2.2.1 rfl (Or.inl rfl) (hb C.2.1 hd) hr, hrun, hended, _, _, rfl, ⟨?_, Nn⟩, ⟨_, rfl⟩, hW, hsame.mono hk hn⟩
  show Q (some (.int z)) T.heap
  rw [eT]; exact hq
theorem go_lreturn (C : Cx p s m meth c Z own bs mx rt nm) {z : Int64} (hrt : rt = some .long) (hd : decode bs pc = .ok (.lreturn, 1)) (hk : ce ≤ K) (hn : sl ≤ N) (hq : Q (some (.long z)) h) : Go p l e R s m args below meth c n0 Q K N h ce sl (mkF m pc Ls [.long z]) := by
  subst hrt
  intro T locs X eT Nn
  obtain ⟨fs, hr, hrun, hended, hW, hsame⟩ := X.leave (v := some (.long z)) (fun q => by first | rfl | (rw [C.2.2.2.2.2.1] at q; cases q)) C.2.2.2.2.2.2.1
  refine ⟨_, _, Jvm.Stand.lreturnOut X C.1 C.2.2.2.2.2.1 (hb C.2.1 hd) hr, hrun, hended, _, _, rfl, ⟨?_, Nn⟩, ⟨_, rfl⟩, hW, hsame.mono hk hn⟩
  show Q (some (.long z)) T.heap
  rw [eT]; exact hq
theorem go_areturn (C : Cx p s m meth c Z own bs mx rt nm) {w : Value} {t : FieldType} (hrt : rt = some t) (hd : decode bs pc = .ok (.areturn, 1)) (hk : ce ≤ K) (hn : sl ≤ N) (hw : w.isRef = true) (ht : t.isReference = true) (hq : Q (some w) h) : Go p l e R s m args below meth c n0 Q K N h ce sl (mkF m pc Ls [w]) := by
  subst hrt
  intro T locs X eT Nn
  obtain ⟨fs, hr, hrun, hended, hW, hsame⟩ := X.leave (v := some w) (fun q => by first | rfl | (rw [C.2.2.2.2.2.1] at q; cases q)) C.2.2.2.2.2.2.1
  refine ⟨_, _, X.areturnOut C.1 hw C.2.2.2.2.2.1 ht (hb C.2.1 hd) hr, hrun, hended, _, _, rfl, ⟨?_, Nn⟩, ⟨_, rfl⟩, hW, hsame.mono hk hn⟩
  show Q (some w) T.heap
  rw [eT]; exact hq
theorem go_return (C : Cx p s m meth c Z own bs mx rt nm)  (hrt : rt = none) (hd : decode bs pc = .ok (.return_, 1)) (hk : ce ≤ K) (hn : sl ≤ N) (hq : Q (none) h) : Go p l e R s m args below meth c n0 Q K N h ce sl (mkF m pc Ls []) := by
  subst hrt
  intro T locs X eT Nn
  obtain ⟨fs, hr, hrun, hended, hW, hsame⟩ := X.leave (v := none) (fun q => by first | rfl | (rw [C.2.2.2.2.2.1] at q; cases q)) C.2.2.2.2.2.2.1
  refine ⟨_, _, X.returnOut C.1 C.2.2.2.2.2.1 (hb C.2.1 hd) hr, hrun, hended, _, _, rfl, ⟨?_, Nn⟩, ⟨_, rfl⟩, hW, hsame.mono hk hn⟩
  show Q (none) T.heap
  rw [eT]; exact hq
theorem go_ireturnN (C : Cx p s m meth c Z own bs mx rt nm) {z z' : Int32} {t : FieldType} (hrt : rt = some t) (ht : t = .boolean ∨ t = .byte ∨ t = .char ∨ t = .short) (hz : nar t z = z') (hd : decode bs pc = .ok (.ireturn, 1)) (hk : ce ≤ K) (hn : sl ≤ N) (hq : Q (some (.int z')) h) : Go p l e R s m args below meth c n0 Q K N h ce sl (mkF m pc Ls [.int z]) := by
  subst hrt hz
  intro T locs X eT Nn
  obtain ⟨fs, hr, hrun, hended, hW, hsame⟩ := X.leave (v := some (.int (nar t z))) (fun q => by rw [C.2.2.2.2.2.1] at q; cases q) C.2.2.2.2.2.2.1
  refine ⟨_, _, retN X C.1 (t := t) C.2.2.2.2.2.1 ht (hb C.2.1 hd) hr, hrun, hended, _, _, rfl, ⟨?_, Nn⟩, ⟨_, rfl⟩, hW, hsame.mono hk hn⟩
  show Q (some (.int (nar t z))) T.heap
  rw [eT]; exact hq
theorem sat_of {y : MethodName} {cb : ByteArray} {cm : Nat} {cr : Option FieldType} {rm : Room} {as : List Value} {h0 : Heap} (ho : y.cls = own) (hnm : y.name = nm) (hpn : plainFor y = true) (Ls : Array Slot) (hef : ∀ m, entryFrame m as.toArray cm = mkF m 0 Ls [])
    (body : ∀ (p : Program) (e : Env) (s : State) (m : MethodId) (below : List Frame) (meth : Method) (c : Code), Cx p s m meth c Z own cb cm cr nm → Go p l e rm s m as.toArray below meth c n0 Q rm.cells rm.slots h0 0 0 (mkF m 0 Ls [])) : Sat l Z y cb cm cr rm as h0 n0 Q := by
  intro ws
  subst ho hnm
  refine MetFree.of_bodySF hpn hisR ?_
  intro p e s m args below meth c s₁ Bd hml0 hP hK
  obtain ⟨rfl, hZ, hh⟩ := hP
  have X0 : Stand p l e rm s m as.toArray below meth c s₁ [] 0 0 := Stand.of_body Bd
  obtain ⟨s₂, o, h1, h2, h3, v, L, h4, h5, h6⟩ := body p e s m below meth c ⟨Bd.exec, Bd.bytes, hml0, hZ, findClass_of_methodNamed Bd.named, Bd.returns, Bd.notSynchronized, (name_of_methodNamed Bd.named Bd.method).1⟩ s₁ [] X0 (by rw [← hh, Bd.state]; rfl) (Fr.nil n0)
  exact ⟨s₂, o, castTop (hef m) h1, h2, h3, v, L, h4, h5, h6⟩
theorem Sat.weaken {y : MethodName} {cb : ByteArray} {cm : Nat} {cr : Option FieldType} {rm : Room} {as : List Value} {h0 : Heap} {Q' : Option Value → Heap → Prop} (S : Sat l Z y cb cm cr rm as h0 n0 Q) (H : ∀ v h, Q v h → Q' v h) : Sat l Z y cb cm cr rm as h0 n0 Q' := by
  intro ws p e ha hc hk s m args below hf happ hP hK
  obtain ⟨n, o, h1, h2, h3, v, L, h4, h5, h6⟩ := S ws p e ha hc hk s m args below hf happ hP hK
  exact ⟨n, o, h1, h2, h3, v, L, h4, ⟨H _ _ h5.1, h5.2⟩, h6⟩
end Walk
end OwnLayer
theorem wd {Z : State} {a0 : Array Value} (hw : ∀ d ∈ tables_1, d.before a0 Z = true) (k : Nat) {d : Jvm.Cond} (h : tables_1[k]? = some d) : d.before a0 Z = true := hw d (List.mem_of_getElem? h)
theorem d1_0 : decode prog_84_method_1_code 0 = .ok (.aload_n 0, 1) := by decide +kernel
theorem d1_1 : decode prog_84_method_1_code 1 = .ok (.invokespecial 3, 3) := by decide +kernel
theorem d1_4 : decode prog_84_method_1_code 4 = .ok (.aload_n 0, 1) := by decide +kernel
theorem d1_5 : decode prog_84_method_1_code 5 = .ok (.bipush 64, 2) := by decide +kernel
theorem d1_7 : decode prog_84_method_1_code 7 = .ok (.newarray .long, 2) := by decide +kernel
theorem d1_9 : decode prog_84_method_1_code 9 = .ok (.putfield 9, 3) := by decide +kernel
theorem d1_12 : decode prog_84_method_1_code 12 = .ok (.return_, 1) := by decide +kernel
theorem d3_0 : decode prog_84_method_3_code 0 = .ok (.iconst 0, 1) := by decide +kernel
theorem d3_1 : decode prog_84_method_3_code 1 = .ok (.istore 5, 2) := by decide +kernel
theorem d3_3 : decode prog_84_method_3_code 3 = .ok (.iload 5, 2) := by decide +kernel
theorem d3_5 : decode prog_84_method_3_code 5 = .ok (.bipush 64, 2) := by decide +kernel
theorem d3_7 : decode prog_84_method_3_code 7 = .ok (.if_icmp .ge 27, 3) := by decide +kernel
theorem d3_10 : decode prog_84_method_3_code 10 = .ok (.aload_n 0, 1) := by decide +kernel
theorem d3_11 : decode prog_84_method_3_code 11 = .ok (.getfield 9, 3) := by decide +kernel
theorem d3_14 : decode prog_84_method_3_code 14 = .ok (.iload 5, 2) := by decide +kernel
theorem d3_16 : decode prog_84_method_3_code 16 = .ok (.dup2, 1) := by decide +kernel
theorem d3_17 : decode prog_84_method_3_code 17 = .ok (.laload, 1) := by decide +kernel
theorem d3_18 : decode prog_84_method_3_code 18 = .ok (.lload_n 1, 1) := by decide +kernel
theorem d3_19 : decode prog_84_method_3_code 19 = .ok (.iload 5, 2) := by decide +kernel
theorem d3_21 : decode prog_84_method_3_code 21 = .ok (.lushr, 1) := by decide +kernel
theorem d3_22 : decode prog_84_method_3_code 22 = .ok (.lconst 1, 1) := by decide +kernel
theorem d3_23 : decode prog_84_method_3_code 23 = .ok (.land, 1) := by decide +kernel
theorem d3_24 : decode prog_84_method_3_code 24 = .ok (.lload_n 3, 1) := by decide +kernel
theorem d3_25 : decode prog_84_method_3_code 25 = .ok (.lmul, 1) := by decide +kernel
theorem d3_26 : decode prog_84_method_3_code 26 = .ok (.ladd, 1) := by decide +kernel
theorem d3_27 : decode prog_84_method_3_code 27 = .ok (.lastore, 1) := by decide +kernel
theorem d3_28 : decode prog_84_method_3_code 28 = .ok (.iinc 5 1, 3) := by decide +kernel
theorem d3_31 : decode prog_84_method_3_code 31 = .ok (.goto (-28), 3) := by decide +kernel
theorem d3_34 : decode prog_84_method_3_code 34 = .ok (.aload_n 0, 1) := by decide +kernel
theorem d3_35 : decode prog_84_method_3_code 35 = .ok (.dup, 1) := by decide +kernel
theorem d3_36 : decode prog_84_method_3_code 36 = .ok (.getfield 19, 3) := by decide +kernel
theorem d3_39 : decode prog_84_method_3_code 39 = .ok (.lload_n 3, 1) := by decide +kernel
theorem d3_40 : decode prog_84_method_3_code 40 = .ok (.ladd, 1) := by decide +kernel
theorem d3_41 : decode prog_84_method_3_code 41 = .ok (.putfield 19, 3) := by decide +kernel
theorem d3_44 : decode prog_84_method_3_code 44 = .ok (.return_, 1) := by decide +kernel
theorem d4_0 : decode prog_84_method_4_code 0 = .ok (.aload_n 0, 1) := by decide +kernel
theorem d4_1 : decode prog_84_method_4_code 1 = .ok (.getfield 19, 3) := by decide +kernel
theorem d4_4 : decode prog_84_method_4_code 4 = .ok (.lconst 0, 1) := by decide +kernel
theorem d4_5 : decode prog_84_method_4_code 5 = .ok (.lcmp, 1) := by decide +kernel
theorem d4_6 : decode prog_84_method_4_code 6 = .ok (.ifCond .ne 5, 3) := by decide +kernel
theorem d4_9 : decode prog_84_method_4_code 9 = .ok (.lconst 0, 1) := by decide +kernel
theorem d4_10 : decode prog_84_method_4_code 10 = .ok (.lreturn, 1) := by decide +kernel
theorem d4_11 : decode prog_84_method_4_code 11 = .ok (.lconst 0, 1) := by decide +kernel
theorem d4_12 : decode prog_84_method_4_code 12 = .ok (.lstore_n 1, 1) := by decide +kernel
theorem d4_13 : decode prog_84_method_4_code 13 = .ok (.iconst 0, 1) := by decide +kernel
theorem d4_14 : decode prog_84_method_4_code 14 = .ok (.istore_n 3, 1) := by decide +kernel
theorem d4_15 : decode prog_84_method_4_code 15 = .ok (.iload_n 3, 1) := by decide +kernel
theorem d4_16 : decode prog_84_method_4_code 16 = .ok (.bipush 64, 2) := by decide +kernel
theorem d4_18 : decode prog_84_method_4_code 18 = .ok (.if_icmp .ge 36, 3) := by decide +kernel
theorem d4_21 : decode prog_84_method_4_code 21 = .ok (.aload_n 0, 1) := by decide +kernel
theorem d4_22 : decode prog_84_method_4_code 22 = .ok (.getfield 9, 3) := by decide +kernel
theorem d4_25 : decode prog_84_method_4_code 25 = .ok (.iload_n 3, 1) := by decide +kernel
theorem d4_26 : decode prog_84_method_4_code 26 = .ok (.laload, 1) := by decide +kernel
theorem d4_27 : decode prog_84_method_4_code 27 = .ok (.aload_n 0, 1) := by decide +kernel
theorem d4_28 : decode prog_84_method_4_code 28 = .ok (.getfield 19, 3) := by decide +kernel
theorem d4_31 : decode prog_84_method_4_code 31 = .ok (.aload_n 0, 1) := by decide +kernel
theorem d4_32 : decode prog_84_method_4_code 32 = .ok (.getfield 9, 3) := by decide +kernel
theorem d4_35 : decode prog_84_method_4_code 35 = .ok (.iload_n 3, 1) := by decide +kernel
theorem d4_36 : decode prog_84_method_4_code 36 = .ok (.laload, 1) := by decide +kernel
theorem d4_37 : decode prog_84_method_4_code 37 = .ok (.lsub, 1) := by decide +kernel
theorem d4_38 : decode prog_84_method_4_code 38 = .ok (.lcmp, 1) := by decide +kernel
theorem d4_39 : decode prog_84_method_4_code 39 = .ok (.ifCond .lt 9, 3) := by decide +kernel
theorem d4_42 : decode prog_84_method_4_code 42 = .ok (.lload_n 1, 1) := by decide +kernel
theorem d4_43 : decode prog_84_method_4_code 43 = .ok (.lconst 1, 1) := by decide +kernel
theorem d4_44 : decode prog_84_method_4_code 44 = .ok (.iload_n 3, 1) := by decide +kernel
theorem d4_45 : decode prog_84_method_4_code 45 = .ok (.lshl, 1) := by decide +kernel
theorem d4_46 : decode prog_84_method_4_code 46 = .ok (.lor, 1) := by decide +kernel
theorem d4_47 : decode prog_84_method_4_code 47 = .ok (.lstore_n 1, 1) := by decide +kernel
theorem d4_48 : decode prog_84_method_4_code 48 = .ok (.iinc 3 1, 3) := by decide +kernel
theorem d4_51 : decode prog_84_method_4_code 51 = .ok (.goto (-36), 3) := by decide +kernel
theorem d4_54 : decode prog_84_method_4_code 54 = .ok (.lload_n 1, 1) := by decide +kernel
theorem d4_55 : decode prog_84_method_4_code 55 = .ok (.lreturn, 1) := by decide +kernel
theorem d5_0 : decode method_2_code 0 = .ok (.ldc2_w 7, 3) := by decide +kernel
theorem d5_3 : decode method_2_code 3 = .ok (.lload_n 0, 1) := by decide +kernel
theorem d5_4 : decode method_2_code 4 = .ok (.lmul, 1) := by decide +kernel
theorem d5_5 : decode method_2_code 5 = .ok (.lload_n 2, 1) := by decide +kernel
theorem d5_6 : decode method_2_code 6 = .ok (.lcmp, 1) := by decide +kernel
theorem d5_7 : decode method_2_code 7 = .ok (.ifCond .lt 9, 3) := by decide +kernel
theorem d5_10 : decode method_2_code 10 = .ok (.ldc2_w 9, 3) := by decide +kernel
theorem d5_13 : decode method_2_code 13 = .ok (.goto 4, 3) := by decide +kernel
theorem d5_16 : decode method_2_code 16 = .ok (.lconst 0, 1) := by decide +kernel
theorem d5_17 : decode method_2_code 17 = .ok (.lreturn, 1) := by decide +kernel
theorem pn_0 : plainName "com/example/deft_sketch/deftsketch/simhash/TallyFingerprintPinLaw" = true := by first | (simp [plainName, overriddenIn]; done) | decide +kernel
theorem pd_0 : parseMethodDescriptor "(JJJJJJ)Z" = some ⟨[.long, .long, .long, .long, .long, .long], some .boolean⟩ := by decide +kernel
theorem pn_1 : plainName "com/example/deft_sketch/deftsketch/simhash/SimHash$Tally" = true := by first | (simp [plainName, overriddenIn]; done) | decide +kernel
theorem pd_1 : parseMethodDescriptor "()V" = some ⟨[], none⟩ := by decide +kernel
theorem pd_2 : parseMethodDescriptor "(JJ)V" = some ⟨[.long, .long], none⟩ := by decide +kernel
theorem pd_3 : parseMethodDescriptor "()J" = some ⟨[], some .long⟩ := by decide +kernel
theorem pd_4 : parseMethodDescriptor "(JJ)J" = some ⟨[.long, .long], some .long⟩ := by decide +kernel
def lf (n : Nat) (f : Nat → Int64) : List Value := (List.range n).map (fun j => Value.long (f j))
theorem lf_len (n : Nat) (f : Nat → Int64) : (lf n f).length = n := by simp [lf]
theorem lf_get {n j : Nat} (f : Nat → Int64) (h : j < n) : (lf n f)[j]? = some (.long (f j)) := by simp [lf, h]
theorem lf_congr {n : Nat} {f g : Nat → Int64} (h : ∀ j, j < n → f j = g j) : lf n f = lf n g := by
  unfold lf
  refine List.map_congr_left fun j hj => ?_
  rw [h j (List.mem_range.mp hj)]
theorem lf_set {n k : Nat} (f : Nat → Int64) (v : Int64) : (lf n f).set k (.long v) = lf n (fun j => if j = k then v else f j) := by
  refine List.ext_getElem? fun j => ?_
  by_cases hj : j < n
  · rw [lf_get _ hj]
    by_cases q : k = j
    · subst q
      rw [List.getElem?_set_self (by rw [lf_len]; exact hj), if_pos rfl]
    · rw [List.getElem?_set_ne q, lf_get _ hj, if_neg (fun z => q z.symm)]
  · rw [List.getElem?_eq_none (by rw [List.length_set, lf_len]; omega), List.getElem?_eq_none (by rw [lf_len]; omega)]
theorem lf_step {n i : Nat} (A B : Nat → Int64) : lf n (fun j => if j = i then A i else (if j < i then A j else B j)) = lf n (fun j => if j < i + 1 then A j else B j) := lf_congr fun j _ => by
  by_cases z1 : j = i
  · subst z1; rw [if_pos rfl, if_pos (Nat.lt_succ_self _)]
  · by_cases z2 : j < i
    · rw [if_neg z1, if_pos z2, if_pos (Nat.lt_succ_of_lt z2)]
    · rw [if_neg z1, if_neg z2, if_neg (by omega)]
theorem lf_rep (n : Nat) (v : Int64) : List.replicate n (Value.long v) = lf n (fun _ => v) := by
  refine List.ext_getElem? fun j => ?_
  by_cases hj : j < n
  · rw [lf_get _ hj]; simp [hj]
  · rw [List.getElem?_eq_none (by simp; omega), List.getElem?_eq_none (by rw [lf_len]; omega)]
theorem lf_fits (n : Nat) (f : Nat → Int64) : ∀ v ∈ lf n f, fits .long v = true := by
  intro v hv
  obtain ⟨j, -, rfl⟩ := List.mem_map.mp hv
  rfl
theorem own_next {t : Int32} {i : Nat} (h : t.toInt = (i : Int)) (hi : i < 1000000) : (t + (1 : Int32)).toInt = ((i + 1 : Nat) : Int) := by
  have k1 : ((1 : Int32)).toInt = 1 := by decide
  rw [Jvm.Kit.i32_add (by rw [k1]; omega) (by rw [k1]; omega), k1, h]
  omega
def bt (x : Int64) (j : Nat) : Bool := x.toBitVec.getLsbD j
theorem bt_or (x y : Int64) (j : Nat) : bt (x ||| y) j = (bt x j || bt y j) := by simp [bt]
theorem bt_and (x y : Int64) (j : Nat) : bt (x &&& y) j = (bt x j && bt y j) := by simp [bt]
theorem bt_xor (x y : Int64) (j : Nat) : bt (x ^^^ y) j = (bt x j ^^ bt y j) := by simp [bt]
theorem bt_zero (j : Nat) : bt 0 j = false := by simp [bt]
theorem bt_m1 : ∀ j : Fin 64, bt (-1) j.val = true := by decide +kernel
theorem bt_not (x : Int64) (j : Nat) (h : j < 64) : bt (x ^^^ (-1 : Int64)) j = !(bt x j) := by
  rw [bt_xor, bt_m1 ⟨j, h⟩]; simp
theorem bt_ext {x y : Int64} (h : ∀ j, j < 64 → bt x j = bt y j) : x = y := Int64.toBitVec_inj.mp (BitVec.eq_of_getLsbD_eq fun j hj => h j hj)
theorem bt_one : ∀ j : Fin 64, bt 1 j.val = decide (j.val = 0) := by decide +kernel
theorem bt_shl : ∀ i : Fin 64, ∀ j : Fin 64, bt ((1 : Int64) <<< ((Int32.ofNat i.val).toInt64 &&& 63)) j.val = decide (i.val = j.val) := by decide +kernel
theorem sh_amt : ∀ j : Fin 64, ((Int32.ofNat j.val).toInt64.toUInt64 &&& Int64.toUInt64 63) = UInt64.ofNat j.val := by decide +kernel
theorem bt_ushr (x : Int64) (j i : Nat) (hj : j < 64) : bt (XT.ushrL x (Int32.ofNat j)) i = x.toBitVec.getLsbD (j + i) := by
  unfold XT.ushrL bt
  rw [sh_amt ⟨j, hj⟩]
  have e : ((x.toUInt64 >>> UInt64.ofNat j).toInt64).toBitVec = x.toBitVec >>> j := by
    apply BitVec.eq_of_toNat_eq
    simp [UInt64.toNat_shiftRight, Nat.mod_eq_of_lt (by omega : j < 18446744073709551616), Nat.mod_eq_of_lt hj]
  rw [e]
  simp
theorem bit_of (x : Int64) (j : Nat) (hj : j < 64) : (XT.ushrL x (Int32.ofNat j) &&& (1 : Int64)) = if bt x j = true then 1 else 0 := by
  refine bt_ext fun i hi => ?_
  rw [bt_and, bt_ushr x j i hj, bt_one ⟨i, hi⟩]
  by_cases q : i = 0
  · subst q
    by_cases r : bt x j = true
    · rw [if_pos r, bt_one ⟨0, by omega⟩]; simpa [bt] using r
    · rw [if_neg r, bt_zero]; simpa [bt] using r
  · by_cases r : bt x j = true
    · rw [if_pos r, bt_one ⟨i, hi⟩]; simp [q]
    · rw [if_neg r, bt_zero]; simp [q]
def fpL (f : Nat → Int64) (tot : Int64) : Nat → Int64
  | 0 => 0
  | i + 1 => if (f i).toInt < (tot - f i).toInt then fpL f tot i else fpL f tot i ||| ((1 : Int64) <<< ((Int32.ofNat i).toInt64 &&& 63))
theorem fp_t {f : Nat → Int64} {tot : Int64} {i : Nat} (h : (f i).toInt < (tot - f i).toInt) : fpL f tot (i + 1) = fpL f tot i := if_pos h
theorem fp_f {f : Nat → Int64} {tot : Int64} {i : Nat} (h : ¬ (f i).toInt < (tot - f i).toInt) : fpL f tot (i + 1) = fpL f tot i ||| ((1 : Int64) <<< ((Int32.ofNat i).toInt64 &&& 63)) := if_neg h
theorem fp_bit (f : Nat → Int64) (tot : Int64) (n : Nat) (hn : n ≤ 64) (j : Nat) (hj : j < 64) : bt (fpL f tot n) j = decide (j < n ∧ ¬ (f j).toInt < (tot - f j).toInt) := by
  induction n with
  | zero => simp [fpL, bt_zero]
  | succ n ih =>
    have ih := ih (by omega)
    unfold fpL
    by_cases q : (f n).toInt < (tot - f n).toInt
    · rw [if_pos q, ih]
      by_cases r : j = n
      · subst r; exact decide_eq_decide.mpr ⟨fun z => absurd z.1 (Nat.lt_irrefl _), fun z => absurd q z.2⟩
      · have : (j < n) ↔ (j < n + 1) := by omega
        simp only [this]
    · rw [if_neg q, bt_or, ih, bt_shl ⟨n, by omega⟩ ⟨j, hj⟩]
      by_cases r : j = n
      · subst r
        rw [decide_eq_true (rfl : j = j), Bool.or_true]
        exact (decide_eq_true ⟨Nat.lt_succ_self _, q⟩).symm
      · have h1 : (j < n) ↔ (j < n + 1) := by omega
        rw [decide_eq_false (fun z => r z.symm : ¬ n = j), Bool.or_false]
        simp only [h1]
theorem fp_congr {f g : Nat → Int64} (tot : Int64) (n : Nat) (h : ∀ j, j < n → f j = g j) : fpL f tot n = fpL g tot n := by
  induction n with
  | zero => rfl
  | succ n ih =>
    unfold fpL
    rw [ih (fun j hj => h j (by omega)), h n (by omega)]
set_option maxRecDepth 65536 in
set_option maxHeartbeats 40000000 in
theorem sat_init (l : Launch) (Z : State) (a0 : Array Value) (hw : ∀ d ∈ tables_1, d.before a0 Z = true) (a : Addr) (h0 : Heap) (n0 : Nat) (E1 : Exa Z h0 a "com/example/deft_sketch/deftsketch/simhash/SimHash$Tally") (F1 : Fld Z h0 a "com/example/deft_sketch/deftsketch/simhash/SimHash$Tally" "setWeights" "[J" .null) (F2 : Fld Z h0 a "com/example/deft_sketch/deftsketch/simhash/SimHash$Tally" "total" "J" (.long 0)) (ga : n0 ≤ a) (gz : n0 ≤ h0.size) :
    Sat l Z (⟨"com/example/deft_sketch/deftsketch/simhash/SimHash$Tally", "<init>", "()V"⟩ : MethodName) prog_84_method_1_code 1 none ({ frames := 1, cells := 1, slots := 64, locals := 12 } : Room) [.ref a] h0 n0 (RN fun h => ∃ r : Addr, n0 ≤ r ∧ a ≠ r ∧ Exa Z h a "com/example/deft_sketch/deftsketch/simhash/SimHash$Tally" ∧ Fld Z h a "com/example/deft_sketch/deftsketch/simhash/SimHash$Tally" "setWeights" "[J" (.ref r) ∧ Fld Z h a "com/example/deft_sketch/deftsketch/simhash/SimHash$Tally" "total" "J" (.long 0) ∧ Av Z h r .long (lf 64 (fun _ => 0))) := by
  refine sat_of (own := "com/example/deft_sketch/deftsketch/simhash/SimHash$Tally") (nm := "<init>") rfl rfl (plainFor_of_name pn_1) #[.val (.ref a)] (fun m => by first | (simp [entryFrame, mkF, argsToLocals, Value.category, maxLocals]; done) | rfl) ?_
  intro p e s m below meth c C
  refine go_aloadN C d1_0 (pc' := 1) rfl rfl rfl ?_
  refine go_objinit C (W := 0) (wd hw 7 rfl) (wd hw 8 rfl) (wd hw 9 rfl) rfl (by decide) rfl (by decide) d1_1 (pc' := 4) rfl ?_
  refine go_aloadN C d1_4 (pc' := 5) rfl rfl rfl ?_
  refine go_bipush C (64 : Int32) d1_5 (pc' := 7) rfl (by decide) ?_
  refine go_newarray C (wd hw 10 rfl) rfl 64 64 (by decide) (by decide) (by decide) (ce' := 1) (sl' := 64) rfl rfl (by decide) (by decide) d1_7 (pc' := 9) rfl ?_
  intro h_1 a_2 g_3 E_4 A_5
  have n_6 : a ≠ a_2 := own_ne_new E1.lt g_3
  have g_7 : n0 ≤ a_2 := own_ge gz g_3
  have F_8 := Fld.ext E_4 F1
  have F_9 := Fld.ext E_4 F2
  have E_10 := Exa.ext E_4 E1
  have z_11 : n0 ≤ h_1.size := Nat.le_trans gz E_4.1
  refine go_putfield C (wd hw 11 rfl) F_8 E_10 (Or.inr ⟨wd hw 12 rfl, rfl, rfl⟩) (wd hw 2 rfl) (ty := (.array .long)) (by decide) rfl rfl ga d1_9 (pc' := 12) rfl ?_
  intro h_12 W_13
  have z_14 : n0 ≤ h_12.size := W_13.size.symm ▸ z_11
  have F_15 := Fld.same W_13 F_8
  have F_16 := Fld.other W_13 F_9 (Or.inr (slot_ne (a0 := a0) (Or.inl (wd hw 19 rfl)) (Or.inr (wd hw 12 rfl)) (by decide) (t := .long) (t' := (.array .long)) (by decide) (by decide)))
  have E_17 := Exa.wr W_13 E_10
  have A_18 := Av.other (lf_rep 64 0 ▸ A_5) W_13 (Ne.symm n_6)
  refine go_return C rfl d1_12 (by decide) (by decide) ?_
  exact ⟨rfl, a_2, g_7, n_6, E_17, F_15, F_16, A_18⟩
set_option maxRecDepth 65536 in
set_option maxHeartbeats 40000000 in
theorem sat_add (l : Launch) (Z : State) (a0 : Array Value) (hw : ∀ d ∈ tables_1, d.before a0 Z = true) (a r : Addr) (hh ww tot : Int64) (f : Nat → Int64) (h0 : Heap) (n0 : Nat) (hO : Exa Z h0 a "com/example/deft_sketch/deftsketch/simhash/SimHash$Tally" ∧ Fld Z h0 a "com/example/deft_sketch/deftsketch/simhash/SimHash$Tally" "setWeights" "[J" (.ref r) ∧ Fld Z h0 a "com/example/deft_sketch/deftsketch/simhash/SimHash$Tally" "total" "J" (.long tot)) (A1 : Av Z h0 r .long (lf 64 f)) (ga : n0 ≤ a) (gr : n0 ≤ r) (hne : a ≠ r) :
    Sat l Z (⟨"com/example/deft_sketch/deftsketch/simhash/SimHash$Tally", "add", "(JJ)V"⟩ : MethodName) prog_84_method_3_code 6 none ({ frames := 0, cells := 0, slots := 0, locals := 0 } : Room) [.ref a, .long hh, .long ww] h0 n0 (RN fun h => Exa Z h a "com/example/deft_sketch/deftsketch/simhash/SimHash$Tally" ∧ Fld Z h a "com/example/deft_sketch/deftsketch/simhash/SimHash$Tally" "setWeights" "[J" (.ref r) ∧ Fld Z h a "com/example/deft_sketch/deftsketch/simhash/SimHash$Tally" "total" "J" (.long (tot + ww)) ∧ Av Z h r .long (lf 64 (fun j => (f j + (XT.ushrL hh (Int32.ofNat j) &&& (1 : Int64)) * ww)))) := by
  refine sat_of (own := "com/example/deft_sketch/deftsketch/simhash/SimHash$Tally") (nm := "add") rfl rfl (plainFor_of_name pn_1) #[.val (.ref a), .val (.long hh), .second, .val (.long ww), .second, .unset] (fun m => by first | (simp [entryFrame, mkF, argsToLocals, Value.category, maxLocals]; done) | rfl) ?_
  intro p e s m below meth c C
  refine go_iconst C (0 : Int32) d3_0 (pc' := 1) rfl (by decide) ?_
  refine go_istore C (Ls' := #[.val (.ref a), .val (.long hh), .second, .val (.long ww), .second, .val (.int (0 : Int32))]) d3_1 (pc' := 3) rfl rfl ?_
  have loop : ∀ (k i : Nat) (h : Heap), i + k = 64 → Exa Z h a "com/example/deft_sketch/deftsketch/simhash/SimHash$Tally" ∧ Fld Z h a "com/example/deft_sketch/deftsketch/simhash/SimHash$Tally" "setWeights" "[J" (.ref r) ∧ Fld Z h a "com/example/deft_sketch/deftsketch/simhash/SimHash$Tally" "total" "J" (.long tot) → Av Z h r .long (lf 64 (fun j => if j < i then (f j + (XT.ushrL hh (Int32.ofNat j) &&& (1 : Int64)) * ww) else f j)) → Go p l e ({ frames := 0, cells := 0, slots := 0, locals := 0 } : Room) s m ([.ref a, .long hh, .long ww] : List Value).toArray below meth c n0 (RN fun h => Exa Z h a "com/example/deft_sketch/deftsketch/simhash/SimHash$Tally" ∧ Fld Z h a "com/example/deft_sketch/deftsketch/simhash/SimHash$Tally" "setWeights" "[J" (.ref r) ∧ Fld Z h a "com/example/deft_sketch/deftsketch/simhash/SimHash$Tally" "total" "J" (.long (tot + ww)) ∧ Av Z h r .long (lf 64 (fun j => (f j + (XT.ushrL hh (Int32.ofNat j) &&& (1 : Int64)) * ww)))) ({ frames := 0, cells := 0, slots := 0, locals := 0 } : Room).cells ({ frames := 0, cells := 0, slots := 0, locals := 0 } : Room).slots h 0 0 (mkF m 3 #[.val (.ref a), .val (.long hh), .second, .val (.long ww), .second, .val (.int (Int32.ofNat i))] []) := by
    intro k
    induction k with
    | zero =>
      intro i h hik hO A
      obtain ⟨E, F, G⟩ := hO
      refine go_iload C d3_3 (pc' := 5) rfl rfl ?_
      refine go_bipush C (64 : Int32) d3_5 (pc' := 7) rfl (by decide) ?_
      refine go_icmp C (i : Int) (64 : Int) (Int32.toInt_ofNat_of_lt (by omega)) (by decide) d3_7 (by decide) (pc' := 34) (by decide) (pcN := 10) rfl (fun (c_1 : ¬ (i : Int) < (64 : Int)) => ?_) (fun (c_1 : (i : Int) < (64 : Int)) => by omega)
      refine go_aloadN C d3_34 (pc' := 35) rfl rfl rfl ?_
      refine go_dup C d3_35 (pc' := 36) rfl rfl ?_
      refine go_getfield C (wd hw 18 rfl) G d3_36 (pc' := 39) rfl ?_
      refine go_lloadN C d3_39 (pc' := 40) rfl rfl ?_
      refine go_ladd C d3_40 (pc' := 41) rfl ?_
      refine go_putfield C (wd hw 18 rfl) G E (Or.inl (wd hw 19 rfl)) (wd hw 2 rfl) (ty := .long) (by decide) rfl rfl ga d3_41 (pc' := 44) rfl ?_
      intro h_2 W_3
      have F_4 := Fld.other W_3 F (Or.inr (slot_ne (a0 := a0) (Or.inr (wd hw 12 rfl)) (Or.inl (wd hw 19 rfl)) (by decide) (t := (.array .long)) (t' := .long) (by decide) (by decide)))
      have F_5 := Fld.same W_3 G
      have E_6 := Exa.wr W_3 E
      have A_7 := Av.other A W_3 (Ne.symm hne)
      refine go_return C rfl d3_44 (by decide) (by decide) ?_
      exact ⟨rfl, E_6, F_4, F_5, (lf_congr (fun j hj => if_pos (by omega)) : lf 64 (fun j => if j < i then (f j + (XT.ushrL hh (Int32.ofNat j) &&& (1 : Int64)) * ww) else f j) = lf 64 (fun j => (f j + (XT.ushrL hh (Int32.ofNat j) &&& (1 : Int64)) * ww))) ▸ A_7⟩
    | succ k ih =>
      intro i h hik hO A
      obtain ⟨E, F, G⟩ := hO
      refine go_iload C d3_3 (pc' := 5) rfl rfl ?_
      refine go_bipush C (64 : Int32) d3_5 (pc' := 7) rfl (by decide) ?_
      refine go_icmp C (i : Int) (64 : Int) (Int32.toInt_ofNat_of_lt (by omega)) (by decide) d3_7 (by decide) (pc' := 34) (by decide) (pcN := 10) rfl (fun (c_8 : ¬ (i : Int) < (64 : Int)) => by omega) (fun (c_8 : (i : Int) < (64 : Int)) => ?_)
      refine go_aloadN C d3_10 (pc' := 11) rfl rfl rfl ?_
      refine go_getfield C (wd hw 11 rfl) F d3_11 (pc' := 14) rfl ?_
      refine go_iload C d3_14 (pc' := 16) rfl rfl ?_
      refine go_dup2 C d3_16 (pc' := 17) rfl rfl rfl ?_
      refine go_laload C A i (.long (f i)) (Int32.toInt_ofNat_of_lt (by omega)) ((lf_get _ (by omega)).trans (by rw [if_neg (Nat.lt_irrefl i)])) d3_17 (pc' := 18) rfl ?_
      refine go_lloadN C d3_18 (pc' := 19) rfl rfl ?_
      refine go_iload C d3_19 (pc' := 21) rfl rfl ?_
      refine go_lushr C d3_21 (pc' := 22) rfl ?_
      refine go_lconst C (1 : Int64) d3_22 (pc' := 23) rfl (by decide) ?_
      refine go_land C d3_23 (pc' := 24) rfl ?_
      refine go_lloadN C d3_24 (pc' := 25) rfl rfl ?_
      refine go_lmul C d3_25 (pc' := 26) rfl ?_
      refine go_ladd C d3_26 (pc' := 27) rfl ?_
      refine go_lastore C A i (Int32.toInt_ofNat_of_lt (by omega)) (by rw [lf_len]; omega) gr d3_27 (pc' := 28) rfl ?_
      intro h_9 W_10 A_11
      have F_13 := Fld.other W_10 F (Or.inl hne)
      have F_14 := Fld.other W_10 G (Or.inl hne)
      have E_15 := Exa.wr W_10 E
      refine go_iinc C (Ls' := #[.val (.ref a), .val (.long hh), .second, .val (.long ww), .second, .val (.int ((Int32.ofNat i) + (1 : Int32)))]) (1 : Int32) d3_28 (pc' := 31) rfl (by decide) rfl rfl ?_
      refine go_goto C d3_31 (by decide) (pc' := 3) (by decide) ?_
      have q := A_11
      rw [lf_set] at q
      have q2 : Av Z h_9 r .long (lf 64 (fun j => if j < (i + 1) then (f j + (XT.ushrL hh (Int32.ofNat j) &&& (1 : Int64)) * ww) else f j)) := (lf_step (fun j => (f j + (XT.ushrL hh (Int32.ofNat j) &&& (1 : Int64)) * ww)) f) ▸ q
      rw [show Int32.ofNat i + (1 : Int32) = Int32.ofNat (i + 1) from (Int32.ofNat_add i 1).symm]
      exact ih (i + 1) _ (by omega) ⟨E_15, F_13, F_14⟩ q2
  exact loop 64 0 _ (by omega) hO ((lf_congr (fun j hj => (if_neg (Nat.not_lt_zero j)).symm) : lf 64 f = lf 64 (fun j => if j < 0 then (f j + (XT.ushrL hh (Int32.ofNat j) &&& (1 : Int64)) * ww) else f j)) ▸ A1)
set_option maxRecDepth 65536 in
set_option maxHeartbeats 40000000 in
theorem sat_fp (l : Launch) (Z : State) (a0 : Array Value) (hw : ∀ d ∈ tables_1, d.before a0 Z = true) (a r : Addr) (tot : Int64) (f : Nat → Int64) (h0 : Heap) (n0 : Nat) (F : Fld Z h0 a "com/example/deft_sketch/deftsketch/simhash/SimHash$Tally" "setWeights" "[J" (.ref r)) (G : Fld Z h0 a "com/example/deft_sketch/deftsketch/simhash/SimHash$Tally" "total" "J" (.long tot)) (A : Av Z h0 r .long (lf 64 f)) :
    Sat l Z (⟨"com/example/deft_sketch/deftsketch/simhash/SimHash$Tally", "fingerprint", "()J"⟩ : MethodName) prog_84_method_4_code 4 (some .long) ({ frames := 0, cells := 0, slots := 0, locals := 0 } : Room) [.ref a] h0 n0 (RV fun q h => q = .long (if tot.toInt = 0 then 0 else fpL f tot 64) ∧ h = h0) := by
  refine sat_of (own := "com/example/deft_sketch/deftsketch/simhash/SimHash$Tally") (nm := "fingerprint") rfl rfl (plainFor_of_name pn_1) #[.val (.ref a), .unset, .unset, .unset] (fun m => by first | (simp [entryFrame, mkF, argsToLocals, Value.category, maxLocals]; done) | rfl) ?_
  intro p e s m below meth c C
  refine go_aloadN C d4_0 (pc' := 1) rfl rfl rfl ?_
  refine go_getfield C (wd hw 18 rfl) G d4_1 (pc' := 4) rfl ?_
  refine go_lconst C (0 : Int64) d4_4 (pc' := 5) rfl (by decide) ?_
  refine go_lcmp C tot.toInt (0 : Int) rfl (by decide) d4_5 (pc1 := 6) rfl d4_6 (by decide) (pc' := 11) (by decide) (pcN := 9) rfl (fun (c_1 : ¬ tot.toInt = (0 : Int)) => ?_) (fun (c_1 : tot.toInt = (0 : Int)) => ?_)
  · skip
    refine go_lconst C (0 : Int64) d4_11 (pc' := 12) rfl (by decide) ?_
    refine go_lstoreN C (Ls' := #[.val (.ref a), .val (.long (0 : Int64)), .second, .unset]) d4_12 (pc' := 13) rfl rfl ?_
    refine go_iconst C (0 : Int32) d4_13 (pc' := 14) rfl (by decide) ?_
    refine go_istoreN C (Ls' := #[.val (.ref a), .val (.long (0 : Int64)), .second, .val (.int (0 : Int32))]) d4_14 (pc' := 15) rfl rfl ?_
    have loop : ∀ (k i : Nat), i + k = 64 → Go p l e ({ frames := 0, cells := 0, slots := 0, locals := 0 } : Room) s m ([.ref a] : List Value).toArray below meth c n0 (RV fun q h => q = .long (if tot.toInt = 0 then 0 else fpL f tot 64) ∧ h = h0) ({ frames := 0, cells := 0, slots := 0, locals := 0 } : Room).cells ({ frames := 0, cells := 0, slots := 0, locals := 0 } : Room).slots h0 0 0 (mkF m 15 #[.val (.ref a), .val (.long (fpL f tot i)), .second, .val (.int (Int32.ofNat i))] []) := by
      intro k
      induction k with
      | zero =>
        intro i hik
        refine go_iloadN C d4_15 (pc' := 16) rfl rfl ?_
        refine go_bipush C (64 : Int32) d4_16 (pc' := 18) rfl (by decide) ?_
        refine go_icmp C (i : Int) (64 : Int) (Int32.toInt_ofNat_of_lt (by omega)) (by decide) d4_18 (by decide) (pc' := 54) (by decide) (pcN := 21) rfl (fun (c_2 : ¬ (i : Int) < (64 : Int)) => ?_) (fun (c_2 : (i : Int) < (64 : Int)) => by omega)
        refine go_lloadN C d4_54 (pc' := 55) rfl rfl ?_
        refine go_lreturn C rfl d4_55 (by decide) (by decide) ?_
        rw [show i = 64 by omega]
        exact ⟨_, rfl, congrArg Value.long (if_neg (by omega)).symm, rfl⟩
      | succ k ih =>
        intro i hik
        refine go_iloadN C d4_15 (pc' := 16) rfl rfl ?_
        refine go_bipush C (64 : Int32) d4_16 (pc' := 18) rfl (by decide) ?_
        refine go_icmp C (i : Int) (64 : Int) (Int32.toInt_ofNat_of_lt (by omega)) (by decide) d4_18 (by decide) (pc' := 54) (by decide) (pcN := 21) rfl (fun (c_3 : ¬ (i : Int) < (64 : Int)) => by omega) (fun (c_3 : (i : Int) < (64 : Int)) => ?_)
        refine go_aloadN C d4_21 (pc' := 22) rfl rfl rfl ?_
        refine go_getfield C (wd hw 11 rfl) F d4_22 (pc' := 25) rfl ?_
        refine go_iloadN C d4_25 (pc' := 26) rfl rfl ?_
        refine go_laload C A i (.long (f i)) (Int32.toInt_ofNat_of_lt (by omega)) (lf_get f (by omega)) d4_26 (pc' := 27) rfl ?_
        refine go_aloadN C d4_27 (pc' := 28) rfl rfl rfl ?_
        refine go_getfield C (wd hw 18 rfl) G d4_28 (pc' := 31) rfl ?_
        refine go_aloadN C d4_31 (pc' := 32) rfl rfl rfl ?_
        refine go_getfield C (wd hw 11 rfl) F d4_32 (pc' := 35) rfl ?_
        refine go_iloadN C d4_35 (pc' := 36) rfl rfl ?_
        refine go_laload C A i (.long (f i)) (Int32.toInt_ofNat_of_lt (by omega)) (lf_get f (by omega)) d4_36 (pc' := 37) rfl ?_
        refine go_lsub C d4_37 (pc' := 38) rfl ?_
        refine go_lcmp C ((f i).toInt) ((tot - (f i)).toInt) rfl rfl d4_38 (pc1 := 39) rfl d4_39 (by decide) (pc' := 48) (by decide) (pcN := 42) rfl (fun (c_4 : ((f i).toInt) < ((tot - (f i)).toInt)) => ?_) (fun (c_4 : ¬ ((f i).toInt) < ((tot - (f i)).toInt)) => ?_)
        · skip
          refine go_iinc C (Ls' := #[.val (.ref a), .val (.long (fpL f tot i)), .second, .val (.int ((Int32.ofNat i) + (1 : Int32)))]) (1 : Int32) d4_48 (pc' := 51) rfl (by decide) rfl rfl ?_
          refine go_goto C d4_51 (by decide) (pc' := 15) (by decide) ?_
          have q := ih (i + 1) (by omega)
          rw [fp_t (i := i) (by omega), show Int32.ofNat (i + 1) = Int32.ofNat i + (1 : Int32) from Int32.ofNat_add i 1] at q
          exact q
        · skip
          refine go_lloadN C d4_42 (pc' := 43) rfl rfl ?_
          refine go_lconst C (1 : Int64) d4_43 (pc' := 44) rfl (by decide) ?_
          refine go_iloadN C d4_44 (pc' := 45) rfl rfl ?_
          refine go_lshl C d4_45 (pc' := 46) rfl ?_
          refine go_lor C d4_46 (pc' := 47) rfl ?_
          refine go_lstoreN C (Ls' := #[.val (.ref a), .val (.long ((fpL f tot i) ||| ((1 : Int64) <<< ((Int32.ofNat i).toInt64 &&& 63)))), .second, .val (.int (Int32.ofNat i))]) d4_47 (pc' := 48) rfl rfl ?_
          refine go_iinc C (Ls' := #[.val (.ref a), .val (.long ((fpL f tot i) ||| ((1 : Int64) <<< ((Int32.ofNat i).toInt64 &&& 63)))), .second, .val (.int ((Int32.ofNat i) + (1 : Int32)))]) (1 : Int32) d4_48 (pc' := 51) rfl (by decide) rfl rfl ?_
          refine go_goto C d4_51 (by decide) (pc' := 15) (by decide) ?_
          have q := ih (i + 1) (by omega)
          rw [fp_f (i := i) (by omega), show Int32.ofNat (i + 1) = Int32.ofNat i + (1 : Int32) from Int32.ofNat_add i 1] at q
          exact q
    exact loop 64 0 (by omega)
  · skip
    refine go_lconst C (0 : Int64) d4_9 (pc' := 10) rfl (by decide) ?_
    refine go_lreturn C rfl d4_10 (by decide) (by decide) ?_
    exact ⟨_, rfl, congrArg Value.long (if_pos (by omega)).symm, rfl⟩
def o_sel (s t : Int64) : Int64 := if ((2 : Int64) * s).toInt < t.toInt then 0 else (-1)
set_option maxRecDepth 65536 in
set_option maxHeartbeats 40000000 in
theorem sat_sel (l : Launch) (Z : State) (a0 : Array Value) (hw : ∀ d ∈ tables_1, d.before a0 Z = true) (ss t : Int64) (h0 : Heap) (n0 : Nat)  :
    Sat l Z (⟨"com/example/deft_sketch/deftsketch/simhash/TallyFingerprintPinLaw", "sel", "(JJ)J"⟩ : MethodName) method_2_code 4 (some .long) ({ frames := 0, cells := 0, slots := 0, locals := 0 } : Room) [.long ss, .long t] h0 n0 (RV fun r h => r = .long (o_sel ss t) ∧ h = h0) := by
  refine sat_of (own := "com/example/deft_sketch/deftsketch/simhash/TallyFingerprintPinLaw") (nm := "sel") rfl rfl (plainFor_of_name pn_0) #[.val (.long ss), .second, .val (.long t), .second] (fun m => by first | (simp [entryFrame, mkF, argsToLocals, Value.category, maxLocals]; done) | rfl) ?_
  intro p e s m below meth c C
  refine go_ldc2 C (v := (2 : Int64)) (wd hw 30 rfl) d5_0 (pc' := 3) rfl ?_
  refine go_lloadN C d5_3 (pc' := 4) rfl rfl ?_
  refine go_lmul C d5_4 (pc' := 5) rfl ?_
  refine go_lloadN C d5_5 (pc' := 6) rfl rfl ?_
  refine go_lcmp C (((2 : Int64) * ss).toInt) t.toInt rfl rfl d5_6 (pc1 := 7) rfl d5_7 (by decide) (pc' := 16) (by decide) (pcN := 10) rfl (fun (c_1 : (((2 : Int64) * ss).toInt) < t.toInt) => ?_) (fun (c_1 : ¬ (((2 : Int64) * ss).toInt) < t.toInt) => ?_)
  · skip
    refine go_lconst C (0 : Int64) d5_16 (pc' := 17) rfl (by decide) ?_
    refine go_lreturn C rfl d5_17 (by decide) (by decide) ?_
    exact ⟨_, rfl, congrArg Value.long (by unfold o_sel; first | rw [if_pos (by omega)] | rw [if_neg (by omega)]), rfl⟩
  · skip
    refine go_ldc2 C (v := (-1 : Int64)) (wd hw 25 rfl) d5_10 (pc' := 13) rfl ?_
    refine go_goto C d5_13 (by decide) (pc' := 17) (by decide) ?_
    refine go_lreturn C rfl d5_17 (by decide) (by decide) ?_
    exact ⟨_, rfl, congrArg Value.long (by unfold o_sel; first | rw [if_pos (by omega)] | rw [if_neg (by omega)]), rfl⟩
theorem bt_sel (mk s t : Int64) (j : Nat) (hj : j < 64) (h1 : 0 ≤ s.toInt) (h2 : s.toInt ≤ 3458764513820540925) (h3 : 0 ≤ t.toInt) (h4 : t.toInt ≤ 3458764513820540925) : bt (mk &&& o_sel s t) j = (bt mk j && decide (¬ s.toInt < (t - s).toInt)) := by
  have e1 : ((2 : Int64) * s).toInt = 2 * s.toInt := by rw [Jvm.Kit.i64_mul (by rw [(by decide : ((2 : Int64)).toInt = 2)]; omega) (by rw [(by decide : ((2 : Int64)).toInt = 2)]; omega), (by decide : ((2 : Int64)).toInt = 2)]
  have e2 : (t - s).toInt = t.toInt - s.toInt := Jvm.Kit.i64_sub (by omega) (by omega)
  rw [bt_and]
  unfold o_sel
  by_cases q : s.toInt < (t - s).toInt
  · rw [if_pos (by omega), bt_zero, decide_eq_false (fun z => z q)]
  · rw [if_neg (by omega), decide_eq_true q, bt_m1 ⟨j, hj⟩]
def o_f (h1 h2 h3 w1 w2 w3 : Int64) (j : Nat) : Int64 := (((0 + (XT.ushrL h1 (Int32.ofNat j) &&& (1 : Int64)) * w1) + (XT.ushrL h2 (Int32.ofNat j) &&& (1 : Int64)) * w2) + (XT.ushrL h3 (Int32.ofNat j) &&& (1 : Int64)) * w3)
theorem own_fp (x0 x1 x2 w1 w2 w3 : Int64) (a1 : 0 ≤ w1.toInt) (b1 : w1.toInt < 1152921504606846976) (a2 : 0 ≤ w2.toInt) (b2 : w2.toInt < 1152921504606846976) (a3 : 0 ≤ w3.toInt) (b3 : w3.toInt < 1152921504606846976) : fpL (o_f x0 x1 x2 w1 w2 w3) ((w1 + w2) + w3) 64 = ((((((((0 : Int64) ||| ((((x0 ^^^ (-1 : Int64)) &&& (x1 ^^^ (-1 : Int64))) &&& (x2 ^^^ (-1 : Int64))) &&& (o_sel (0 : Int64) ((w1 + w2) + w3)))) ||| (((x0 &&& (x1 ^^^ (-1 : Int64))) &&& (x2 ^^^ (-1 : Int64))) &&& (o_sel w1 ((w1 + w2) + w3)))) ||| ((((x0 ^^^ (-1 : Int64)) &&& x1) &&& (x2 ^^^ (-1 : Int64))) &&& (o_sel w2 ((w1 + w2) + w3)))) ||| ((((x0 ^^^ (-1 : Int64)) &&& (x1 ^^^ (-1 : Int64))) &&& x2) &&& (o_sel w3 ((w1 + w2) + w3)))) ||| (((x0 &&& x1) &&& (x2 ^^^ (-1 : Int64))) &&& (o_sel (w1 + w2) ((w1 + w2) + w3)))) ||| (((x0 &&& (x1 ^^^ (-1 : Int64))) &&& x2) &&& (o_sel (w1 + w3) ((w1 + w2) + w3)))) ||| ((((x0 ^^^ (-1 : Int64)) &&& x1) &&& x2) &&& (o_sel (w2 + w3) ((w1 + w2) + w3)))) ||| (((x0 &&& x1) &&& x2) &&& (o_sel ((w1 + w2) + w3) ((w1 + w2) + w3))) := by
  have e12 : (w1 + w2).toInt = w1.toInt + w2.toInt := Jvm.Kit.i64_add (by omega) (by omega)
  have e13 : (w1 + w3).toInt = w1.toInt + w3.toInt := Jvm.Kit.i64_add (by omega) (by omega)
  have e23 : (w2 + w3).toInt = w2.toInt + w3.toInt := Jvm.Kit.i64_add (by omega) (by omega)
  have e123 : ((w1 + w2) + w3).toInt = w1.toInt + w2.toInt + w3.toInt := by rw [Jvm.Kit.i64_add (by omega) (by omega), e12]
  have z0 : ((0 : Int64)).toInt = 0 := by decide
  refine bt_ext fun j hj => ?_
  rw [fp_bit _ _ _ (by omega) _ hj]
  have e : o_f x0 x1 x2 w1 w2 w3 j = (((0 + (if bt x0 j = true then 1 else 0) * w1) + (if bt x1 j = true then 1 else 0) * w2) + (if bt x2 j = true then 1 else 0) * w3) := by
    unfold o_f; rw [bit_of x0 j hj, bit_of x1 j hj, bit_of x2 j hj]
  rw [e]
  rw [bt_or, bt_or, bt_or, bt_or, bt_or, bt_or, bt_or, bt_or, bt_zero]
  rw [bt_sel _ (0 : Int64) ((w1 + w2) + w3) j hj (by omega) (by omega) (by omega) (by omega), bt_sel _ w1 ((w1 + w2) + w3) j hj (by omega) (by omega) (by omega) (by omega), bt_sel _ w2 ((w1 + w2) + w3) j hj (by omega) (by omega) (by omega) (by omega), bt_sel _ w3 ((w1 + w2) + w3) j hj (by omega) (by omega) (by omega) (by omega), bt_sel _ (w1 + w2) ((w1 + w2) + w3) j hj (by omega) (by omega) (by omega) (by omega), bt_sel _ (w1 + w3) ((w1 + w2) + w3) j hj (by omega) (by omega) (by omega) (by omega), bt_sel _ (w2 + w3) ((w1 + w2) + w3) j hj (by omega) (by omega) (by omega) (by omega), bt_sel _ ((w1 + w2) + w3) ((w1 + w2) + w3) j hj (by omega) (by omega) (by omega) (by omega)]
  simp only [bt_and, bt_not _ _ hj]
  cases bt x0 j <;> cases bt x1 j <;> cases bt x2 j <;> simp [hj, Int64.zero_add, Int64.add_zero, Int64.zero_mul, Int64.one_mul]

set_option maxRecDepth 65536 in
set_option maxHeartbeats 40000000 in
theorem law_sat (l : Launch) (Z : State) (a0 : Array Value) (hw : ∀ d ∈ tables_1, d.before a0 Z = true) (x0 x1 x2 x3 x4 x5 : Int64)  :
    Sat l Z x code maxLocals ret room_1 [.long x0, .long x1, .long x2, .long x3, .long x4, .long x5] Z.heap Z.heap.size (RV fun r _ => r = .int 1) := by
  refine sat_of (own := "com/example/deft_sketch/deftsketch/simhash/TallyFingerprintPinLaw") (nm := "law") rfl rfl (plainFor_of_name pn_0) #[.val (.long x0), .second, .val (.long x1), .second, .val (.long x2), .second, .val (.long x3), .second, .val (.long x4), .second, .val (.long x5), .second, .unset, .unset, .unset, .unset, .unset, .unset, .unset, .unset, .unset, .unset, .unset, .unset, .unset] (fun m => by first | (simp [entryFrame, mkF, argsToLocals, Value.category, maxLocals]; done) | rfl) ?_
  intro p e s m below meth c C
  have m3 : (x3 &&& (1152921504606846975 : Int64)).toInt = x3.toInt % 2 ^ 60 := Jvm.Kit.i64_mask x3 _ (k := 60) (by decide) (by decide)
  have m4 : (x4 &&& (1152921504606846975 : Int64)).toInt = x4.toInt % 2 ^ 60 := Jvm.Kit.i64_mask x4 _ (k := 60) (by decide) (by decide)
  have m5 : (x5 &&& (1152921504606846975 : Int64)).toInt = x5.toInt % 2 ^ 60 := Jvm.Kit.i64_mask x5 _ (k := 60) (by decide) (by decide)
  have a1 : 0 ≤ (x3 &&& (1152921504606846975 : Int64)).toInt := by omega
  have b1 : (x3 &&& (1152921504606846975 : Int64)).toInt < 1152921504606846976 := by omega
  have a2 : 0 ≤ (x4 &&& (1152921504606846975 : Int64)).toInt := by omega
  have b2 : (x4 &&& (1152921504606846975 : Int64)).toInt < 1152921504606846976 := by omega
  have a3 : 0 ≤ (x5 &&& (1152921504606846975 : Int64)).toInt := by omega
  have b3 : (x5 &&& (1152921504606846975 : Int64)).toInt < 1152921504606846976 := by omega
  clear m3 m4 m5
  refine go_lload C at_0 (pc' := 2) rfl rfl ?_
  refine go_ldc2 C (v := (1152921504606846975 : Int64)) (wd hw 0 rfl) at_2 (pc' := 5) rfl ?_
  refine go_land C at_5 (pc' := 6) rfl ?_
  refine go_lstore C (Ls' := #[.val (.long x0), .second, .val (.long x1), .second, .val (.long x2), .second, .val (.long x3), .second, .val (.long x4), .second, .val (.long x5), .second, .val (.long (x3 &&& (1152921504606846975 : Int64))), .second, .unset, .unset, .unset, .unset, .unset, .unset, .unset, .unset, .unset, .unset, .unset]) at_6 (pc' := 8) rfl rfl ?_
  refine go_lload C at_8 (pc' := 10) rfl rfl ?_
  refine go_ldc2 C (v := (1152921504606846975 : Int64)) (wd hw 0 rfl) at_10 (pc' := 13) rfl ?_
  refine go_land C at_13 (pc' := 14) rfl ?_
  refine go_lstore C (Ls' := #[.val (.long x0), .second, .val (.long x1), .second, .val (.long x2), .second, .val (.long x3), .second, .val (.long x4), .second, .val (.long x5), .second, .val (.long (x3 &&& (1152921504606846975 : Int64))), .second, .val (.long (x4 &&& (1152921504606846975 : Int64))), .second, .unset, .unset, .unset, .unset, .unset, .unset, .unset, .unset, .unset]) at_14 (pc' := 16) rfl rfl ?_
  refine go_lload C at_16 (pc' := 18) rfl rfl ?_
  refine go_ldc2 C (v := (1152921504606846975 : Int64)) (wd hw 0 rfl) at_18 (pc' := 21) rfl ?_
  refine go_land C at_21 (pc' := 22) rfl ?_
  refine go_lstore C (Ls' := #[.val (.long x0), .second, .val (.long x1), .second, .val (.long x2), .second, .val (.long x3), .second, .val (.long x4), .second, .val (.long x5), .second, .val (.long (x3 &&& (1152921504606846975 : Int64))), .second, .val (.long (x4 &&& (1152921504606846975 : Int64))), .second, .val (.long (x5 &&& (1152921504606846975 : Int64))), .second, .unset, .unset, .unset, .unset, .unset, .unset, .unset]) at_22 (pc' := 24) rfl rfl ?_
  generalize x3 &&& (1152921504606846975 : Int64) = w1 at a1 b1 ⊢
  generalize x4 &&& (1152921504606846975 : Int64) = w2 at a2 b2 ⊢
  generalize x5 &&& (1152921504606846975 : Int64) = w3 at a3 b3 ⊢
  refine go_new C (wd hw 1 rfl) (wd hw 2 rfl) (wd hw 3 rfl) at_24 (pc' := 27) rfl (ce' := 1) (sl' := 2) rfl rfl (by decide) (by decide) ?_
  intro h_1 a_2 g_3 E_4 E_5 D_6
  have g_7 : Z.heap.size ≤ a_2 := own_ge (Nat.le_refl _) g_3
  have z_8 : Z.heap.size ≤ h_1.size := Nat.le_trans (Nat.le_refl _) E_4.1
  have F_9 : Fld Z h_1 a_2 "com/example/deft_sketch/deftsketch/simhash/SimHash$Tally" "setWeights" "[J" (.null) := D_6 (Or.inr (wd hw 12 rfl)) (ty := (.array .long)) (by decide)
  have F_10 : Fld Z h_1 a_2 "com/example/deft_sketch/deftsketch/simhash/SimHash$Tally" "total" "J" (.long (0 : Int64)) := D_6 (Or.inl (wd hw 19 rfl)) (ty := .long) (by decide)
  refine go_dup C at_27 (pc' := 28) rfl rfl ?_
  refine go_specialN C (as := []) (rest := [.ref a_2]) (W := 1) (sat_init l Z a0 hw a_2 _ _ E_5 F_9 F_10 g_7 z_8) rfl (wd hw 4 rfl) (wd hw 5 rfl) (wd hw 3 rfl) (wd hw 6 rfl) (by decide) pd_1 rfl rfl rfl (by decide) (by decide) (ce' := 2) (sl' := 66) rfl rfl (by decide) (by decide) at_28 (pc' := 31) rfl rfl ?_
  intro h_11 q_12
  obtain ⟨r_13, g_14, n_15, E_16, F_17, F_18, A_19⟩ := q_12
  refine go_astore C (Ls' := #[.val (.long x0), .second, .val (.long x1), .second, .val (.long x2), .second, .val (.long x3), .second, .val (.long x4), .second, .val (.long x5), .second, .val (.long w1), .second, .val (.long w2), .second, .val (.long w3), .second, .val (.ref a_2), .unset, .unset, .unset, .unset, .unset, .unset]) at_31 (pc' := 33) rfl rfl rfl ?_
  refine go_aload C at_33 (pc' := 35) rfl rfl rfl ?_
  refine go_lloadN C at_35 (pc' := 36) rfl rfl ?_
  refine go_lload C at_36 (pc' := 38) rfl rfl ?_
  refine go_virtualN C (as := [.long x0, .long w1]) (rest := []) (W := 0) (sat_add l Z a0 hw a_2 r_13 x0 w1 (0 : Int64) (fun _ => 0) _ _ ⟨E_16, F_17, F_18⟩ A_19 g_7 g_14 n_15) E_16 (wd hw 13 rfl) (wd hw 14 rfl) (wd hw 16 rfl) (wd hw 15 rfl) (wd hw 3 rfl) (wd hw 17 rfl) (by decide) pd_2 rfl rfl rfl (by decide) (by decide) (ce' := 2) (sl' := 66) rfl rfl (by decide) (by decide) at_38 (pc' := 41) rfl rfl ?_
  intro h_20 q_21
  rw [Int64.zero_add] at q_21
  obtain ⟨E_22, F_23, F_24, A_25⟩ := q_21
  refine go_aload C at_41 (pc' := 43) rfl rfl rfl ?_
  refine go_lloadN C at_43 (pc' := 44) rfl rfl ?_
  refine go_lload C at_44 (pc' := 46) rfl rfl ?_
  refine go_virtualN C (as := [.long x1, .long w2]) (rest := []) (W := 0) (sat_add l Z a0 hw a_2 r_13 x1 w2 w1 (fun j => (fun _ => 0) j + (XT.ushrL x0 (Int32.ofNat j) &&& (1 : Int64)) * w1) _ _ ⟨E_22, F_23, F_24⟩ A_25 g_7 g_14 n_15) E_22 (wd hw 13 rfl) (wd hw 14 rfl) (wd hw 16 rfl) (wd hw 15 rfl) (wd hw 3 rfl) (wd hw 17 rfl) (by decide) pd_2 rfl rfl rfl (by decide) (by decide) (ce' := 2) (sl' := 66) rfl rfl (by decide) (by decide) at_46 (pc' := 49) rfl rfl ?_
  intro h_26 q_27
  obtain ⟨E_28, F_29, F_30, A_31⟩ := q_27
  refine go_aload C at_49 (pc' := 51) rfl rfl rfl ?_
  refine go_lload C at_51 (pc' := 53) rfl rfl ?_
  refine go_lload C at_53 (pc' := 55) rfl rfl ?_
  refine go_virtualN C (as := [.long x2, .long w3]) (rest := []) (W := 0) (sat_add l Z a0 hw a_2 r_13 x2 w3 (w1 + w2) (fun j => (fun j => (fun _ => 0) j + (XT.ushrL x0 (Int32.ofNat j) &&& (1 : Int64)) * w1) j + (XT.ushrL x1 (Int32.ofNat j) &&& (1 : Int64)) * w2) _ _ ⟨E_28, F_29, F_30⟩ A_31 g_7 g_14 n_15) E_28 (wd hw 13 rfl) (wd hw 14 rfl) (wd hw 16 rfl) (wd hw 15 rfl) (wd hw 3 rfl) (wd hw 17 rfl) (by decide) pd_2 rfl rfl rfl (by decide) (by decide) (ce' := 2) (sl' := 66) rfl rfl (by decide) (by decide) at_55 (pc' := 58) rfl rfl ?_
  intro h_32 q_33
  obtain ⟨E_34, F_35, F_36, A_37⟩ := q_33
  refine go_aload C at_58 (pc' := 60) rfl rfl rfl ?_
  refine go_virtualP C (as := []) (rest := []) (W := 0) (.long (if ((w1 + w2) + w3).toInt = 0 then 0 else fpL (fun j => (fun j => (fun j => (fun _ => 0) j + (XT.ushrL x0 (Int32.ofNat j) &&& (1 : Int64)) * w1) j + (XT.ushrL x1 (Int32.ofNat j) &&& (1 : Int64)) * w2) j + (XT.ushrL x2 (Int32.ofNat j) &&& (1 : Int64)) * w3) ((w1 + w2) + w3) 64)) (sat_fp l Z a0 hw a_2 r_13 ((w1 + w2) + w3) (fun j => (fun j => (fun j => (fun _ => 0) j + (XT.ushrL x0 (Int32.ofNat j) &&& (1 : Int64)) * w1) j + (XT.ushrL x1 (Int32.ofNat j) &&& (1 : Int64)) * w2) j + (XT.ushrL x2 (Int32.ofNat j) &&& (1 : Int64)) * w3) _ _ F_35 F_36 A_37) E_34 (wd hw 20 rfl) (wd hw 21 rfl) (wd hw 23 rfl) (wd hw 22 rfl) (wd hw 3 rfl) (wd hw 24 rfl) (by decide) pd_3 rfl rfl rfl (by decide) (by decide) rfl rfl (by decide) (by decide) at_60 (pc' := 63) rfl rfl ?_
  refine go_lstore C (Ls' := #[.val (.long x0), .second, .val (.long x1), .second, .val (.long x2), .second, .val (.long x3), .second, .val (.long x4), .second, .val (.long x5), .second, .val (.long w1), .second, .val (.long w2), .second, .val (.long w3), .second, .val (.ref a_2), .val (.long (if ((w1 + w2) + w3).toInt = 0 then 0 else fpL (fun j => (fun j => (fun j => (fun _ => 0) j + (XT.ushrL x0 (Int32.ofNat j) &&& (1 : Int64)) * w1) j + (XT.ushrL x1 (Int32.ofNat j) &&& (1 : Int64)) * w2) j + (XT.ushrL x2 (Int32.ofNat j) &&& (1 : Int64)) * w3) ((w1 + w2) + w3) 64)), .second, .unset, .unset, .unset, .unset]) at_63 (pc' := 65) rfl rfl ?_
  refine go_lload C at_65 (pc' := 67) rfl rfl ?_
  refine go_lload C at_67 (pc' := 69) rfl rfl ?_
  refine go_ladd C at_69 (pc' := 70) rfl ?_
  refine go_lload C at_70 (pc' := 72) rfl rfl ?_
  refine go_ladd C at_72 (pc' := 73) rfl ?_
  refine go_lstore C (Ls' := #[.val (.long x0), .second, .val (.long x1), .second, .val (.long x2), .second, .val (.long x3), .second, .val (.long x4), .second, .val (.long x5), .second, .val (.long w1), .second, .val (.long w2), .second, .val (.long w3), .second, .val (.ref a_2), .val (.long (if ((w1 + w2) + w3).toInt = 0 then 0 else fpL (fun j => (fun j => (fun j => (fun _ => 0) j + (XT.ushrL x0 (Int32.ofNat j) &&& (1 : Int64)) * w1) j + (XT.ushrL x1 (Int32.ofNat j) &&& (1 : Int64)) * w2) j + (XT.ushrL x2 (Int32.ofNat j) &&& (1 : Int64)) * w3) ((w1 + w2) + w3) 64)), .second, .val (.long ((w1 + w2) + w3)), .second, .unset, .unset]) at_73 (pc' := 75) rfl rfl ?_
  refine go_lconst C (0 : Int64) at_75 (pc' := 76) rfl (by decide) ?_
  refine go_lstore C (Ls' := #[.val (.long x0), .second, .val (.long x1), .second, .val (.long x2), .second, .val (.long x3), .second, .val (.long x4), .second, .val (.long x5), .second, .val (.long w1), .second, .val (.long w2), .second, .val (.long w3), .second, .val (.ref a_2), .val (.long (if ((w1 + w2) + w3).toInt = 0 then 0 else fpL (fun j => (fun j => (fun j => (fun _ => 0) j + (XT.ushrL x0 (Int32.ofNat j) &&& (1 : Int64)) * w1) j + (XT.ushrL x1 (Int32.ofNat j) &&& (1 : Int64)) * w2) j + (XT.ushrL x2 (Int32.ofNat j) &&& (1 : Int64)) * w3) ((w1 + w2) + w3) 64)), .second, .val (.long ((w1 + w2) + w3)), .second, .val (.long (0 : Int64)), .second]) at_76 (pc' := 78) rfl rfl ?_
  refine go_lload C at_78 (pc' := 80) rfl rfl ?_
  refine go_lconst C (0 : Int64) at_80 (pc' := 81) rfl (by decide) ?_
  refine go_lcmp C (((w1 + w2) + w3).toInt) (0 : Int) rfl (by decide) at_81 (pc1 := 82) rfl at_82 (by decide) (pc' := 299) (by decide) (pcN := 85) rfl (fun (c_38 : (((w1 + w2) + w3).toInt) = (0 : Int)) => ?_) (fun (c_38 : ¬ (((w1 + w2) + w3).toInt) = (0 : Int)) => ?_)
  · skip
    refine go_lload C at_299 (pc' := 301) rfl rfl ?_
    refine go_lload C at_301 (pc' := 303) rfl rfl ?_
    have hq : (if ((w1 + w2) + w3).toInt = 0 then 0 else fpL (fun j => (fun j => (fun j => (fun _ => 0) j + (XT.ushrL x0 (Int32.ofNat j) &&& (1 : Int64)) * w1) j + (XT.ushrL x1 (Int32.ofNat j) &&& (1 : Int64)) * w2) j + (XT.ushrL x2 (Int32.ofNat j) &&& (1 : Int64)) * w3) ((w1 + w2) + w3) 64) = (0 : Int64) := by
      exact if_pos (by omega)
    rw [hq]
    refine go_lcmp C (0 : Int) (0 : Int) (by decide) (by decide) at_303 (pc1 := 304) rfl at_304 (by decide) (pc' := 311) (by decide) (pcN := 307) rfl (fun (c_39 : ¬ (0 : Int) = (0 : Int)) => by omega) (fun (c_39 : (0 : Int) = (0 : Int)) => ?_)
    refine go_iconst C (1 : Int32) at_307 (pc' := 308) rfl (by decide) ?_
    refine go_goto C at_308 (by decide) (pc' := 312) (by decide) ?_
    refine go_ireturnN C (z' := (1 : Int32)) rfl (by simp) rfl at_312 (by decide) (by decide) ?_
    exact ⟨_, rfl, rfl⟩
  · skip
    refine go_lload C at_85 (pc' := 87) rfl rfl ?_
    refine go_lloadN C at_87 (pc' := 88) rfl rfl ?_
    refine go_ldc2 C (v := (-1 : Int64)) (wd hw 25 rfl) at_88 (pc' := 91) rfl ?_
    refine go_lxor C at_91 (pc' := 92) rfl ?_
    refine go_lloadN C at_92 (pc' := 93) rfl rfl ?_
    refine go_ldc2 C (v := (-1 : Int64)) (wd hw 25 rfl) at_93 (pc' := 96) rfl ?_
    refine go_lxor C at_96 (pc' := 97) rfl ?_
    refine go_land C at_97 (pc' := 98) rfl ?_
    refine go_lload C at_98 (pc' := 100) rfl rfl ?_
    refine go_ldc2 C (v := (-1 : Int64)) (wd hw 25 rfl) at_100 (pc' := 103) rfl ?_
    refine go_lxor C at_103 (pc' := 104) rfl ?_
    refine go_land C at_104 (pc' := 105) rfl ?_
    refine go_lconst C (0 : Int64) at_105 (pc' := 106) rfl (by decide) ?_
    refine go_lload C at_106 (pc' := 108) rfl rfl ?_
    refine go_staticP C (as := [.long (0 : Int64), .long ((w1 + w2) + w3)]) (rest := [.long (((x0 ^^^ (-1 : Int64)) &&& (x1 ^^^ (-1 : Int64))) &&& (x2 ^^^ (-1 : Int64))), .long (0 : Int64)]) (W := 4) (.long (o_sel (0 : Int64) ((w1 + w2) + w3))) (sat_sel l Z a0 hw (0 : Int64) ((w1 + w2) + w3) _ _) (wd hw 26 rfl) (wd hw 27 rfl) (wd hw 28 rfl) (wd hw 29 rfl) (by decide) pd_4 rfl rfl rfl (by decide) (by decide) rfl rfl (by decide) (by decide) at_108 (pc' := 111) rfl rfl ?_
    refine go_land C at_111 (pc' := 112) rfl ?_
    refine go_lor C at_112 (pc' := 113) rfl ?_
    refine go_lstore C (Ls' := #[.val (.long x0), .second, .val (.long x1), .second, .val (.long x2), .second, .val (.long x3), .second, .val (.long x4), .second, .val (.long x5), .second, .val (.long w1), .second, .val (.long w2), .second, .val (.long w3), .second, .val (.ref a_2), .val (.long (if ((w1 + w2) + w3).toInt = 0 then 0 else fpL (fun j => (fun j => (fun j => (fun _ => 0) j + (XT.ushrL x0 (Int32.ofNat j) &&& (1 : Int64)) * w1) j + (XT.ushrL x1 (Int32.ofNat j) &&& (1 : Int64)) * w2) j + (XT.ushrL x2 (Int32.ofNat j) &&& (1 : Int64)) * w3) ((w1 + w2) + w3) 64)), .second, .val (.long ((w1 + w2) + w3)), .second, .val (.long ((0 : Int64) ||| ((((x0 ^^^ (-1 : Int64)) &&& (x1 ^^^ (-1 : Int64))) &&& (x2 ^^^ (-1 : Int64))) &&& (o_sel (0 : Int64) ((w1 + w2) + w3))))), .second]) at_113 (pc' := 115) rfl rfl ?_
    refine go_lload C at_115 (pc' := 117) rfl rfl ?_
    refine go_lloadN C at_117 (pc' := 118) rfl rfl ?_
    refine go_lloadN C at_118 (pc' := 119) rfl rfl ?_
    refine go_ldc2 C (v := (-1 : Int64)) (wd hw 25 rfl) at_119 (pc' := 122) rfl ?_
    refine go_lxor C at_122 (pc' := 123) rfl ?_
    refine go_land C at_123 (pc' := 124) rfl ?_
    refine go_lload C at_124 (pc' := 126) rfl rfl ?_
    refine go_ldc2 C (v := (-1 : Int64)) (wd hw 25 rfl) at_126 (pc' := 129) rfl ?_
    refine go_lxor C at_129 (pc' := 130) rfl ?_
    refine go_land C at_130 (pc' := 131) rfl ?_
    refine go_lload C at_131 (pc' := 133) rfl rfl ?_
    refine go_lload C at_133 (pc' := 135) rfl rfl ?_
    refine go_staticP C (as := [.long w1, .long ((w1 + w2) + w3)]) (rest := [.long ((x0 &&& (x1 ^^^ (-1 : Int64))) &&& (x2 ^^^ (-1 : Int64))), .long ((0 : Int64) ||| ((((x0 ^^^ (-1 : Int64)) &&& (x1 ^^^ (-1 : Int64))) &&& (x2 ^^^ (-1 : Int64))) &&& (o_sel (0 : Int64) ((w1 + w2) + w3))))]) (W := 4) (.long (o_sel w1 ((w1 + w2) + w3))) (sat_sel l Z a0 hw w1 ((w1 + w2) + w3) _ _) (wd hw 26 rfl) (wd hw 27 rfl) (wd hw 28 rfl) (wd hw 29 rfl) (by decide) pd_4 rfl rfl rfl (by decide) (by decide) rfl rfl (by decide) (by decide) at_135 (pc' := 138) rfl rfl ?_
    refine go_land C at_138 (pc' := 139) rfl ?_
    refine go_lor C at_139 (pc' := 140) rfl ?_
    refine go_lstore C (Ls' := #[.val (.long x0), .second, .val (.long x1), .second, .val (.long x2), .second, .val (.long x3), .second, .val (.long x4), .second, .val (.long x5), .second, .val (.long w1), .second, .val (.long w2), .second, .val (.long w3), .second, .val (.ref a_2), .val (.long (if ((w1 + w2) + w3).toInt = 0 then 0 else fpL (fun j => (fun j => (fun j => (fun _ => 0) j + (XT.ushrL x0 (Int32.ofNat j) &&& (1 : Int64)) * w1) j + (XT.ushrL x1 (Int32.ofNat j) &&& (1 : Int64)) * w2) j + (XT.ushrL x2 (Int32.ofNat j) &&& (1 : Int64)) * w3) ((w1 + w2) + w3) 64)), .second, .val (.long ((w1 + w2) + w3)), .second, .val (.long (((0 : Int64) ||| ((((x0 ^^^ (-1 : Int64)) &&& (x1 ^^^ (-1 : Int64))) &&& (x2 ^^^ (-1 : Int64))) &&& (o_sel (0 : Int64) ((w1 + w2) + w3)))) ||| (((x0 &&& (x1 ^^^ (-1 : Int64))) &&& (x2 ^^^ (-1 : Int64))) &&& (o_sel w1 ((w1 + w2) + w3))))), .second]) at_140 (pc' := 142) rfl rfl ?_
    refine go_lload C at_142 (pc' := 144) rfl rfl ?_
    refine go_lloadN C at_144 (pc' := 145) rfl rfl ?_
    refine go_ldc2 C (v := (-1 : Int64)) (wd hw 25 rfl) at_145 (pc' := 148) rfl ?_
    refine go_lxor C at_148 (pc' := 149) rfl ?_
    refine go_lloadN C at_149 (pc' := 150) rfl rfl ?_
    refine go_land C at_150 (pc' := 151) rfl ?_
    refine go_lload C at_151 (pc' := 153) rfl rfl ?_
    refine go_ldc2 C (v := (-1 : Int64)) (wd hw 25 rfl) at_153 (pc' := 156) rfl ?_
    refine go_lxor C at_156 (pc' := 157) rfl ?_
    refine go_land C at_157 (pc' := 158) rfl ?_
    refine go_lload C at_158 (pc' := 160) rfl rfl ?_
    refine go_lload C at_160 (pc' := 162) rfl rfl ?_
    refine go_staticP C (as := [.long w2, .long ((w1 + w2) + w3)]) (rest := [.long (((x0 ^^^ (-1 : Int64)) &&& x1) &&& (x2 ^^^ (-1 : Int64))), .long (((0 : Int64) ||| ((((x0 ^^^ (-1 : Int64)) &&& (x1 ^^^ (-1 : Int64))) &&& (x2 ^^^ (-1 : Int64))) &&& (o_sel (0 : Int64) ((w1 + w2) + w3)))) ||| (((x0 &&& (x1 ^^^ (-1 : Int64))) &&& (x2 ^^^ (-1 : Int64))) &&& (o_sel w1 ((w1 + w2) + w3))))]) (W := 4) (.long (o_sel w2 ((w1 + w2) + w3))) (sat_sel l Z a0 hw w2 ((w1 + w2) + w3) _ _) (wd hw 26 rfl) (wd hw 27 rfl) (wd hw 28 rfl) (wd hw 29 rfl) (by decide) pd_4 rfl rfl rfl (by decide) (by decide) rfl rfl (by decide) (by decide) at_162 (pc' := 165) rfl rfl ?_
    refine go_land C at_165 (pc' := 166) rfl ?_
    refine go_lor C at_166 (pc' := 167) rfl ?_
    refine go_lstore C (Ls' := #[.val (.long x0), .second, .val (.long x1), .second, .val (.long x2), .second, .val (.long x3), .second, .val (.long x4), .second, .val (.long x5), .second, .val (.long w1), .second, .val (.long w2), .second, .val (.long w3), .second, .val (.ref a_2), .val (.long (if ((w1 + w2) + w3).toInt = 0 then 0 else fpL (fun j => (fun j => (fun j => (fun _ => 0) j + (XT.ushrL x0 (Int32.ofNat j) &&& (1 : Int64)) * w1) j + (XT.ushrL x1 (Int32.ofNat j) &&& (1 : Int64)) * w2) j + (XT.ushrL x2 (Int32.ofNat j) &&& (1 : Int64)) * w3) ((w1 + w2) + w3) 64)), .second, .val (.long ((w1 + w2) + w3)), .second, .val (.long ((((0 : Int64) ||| ((((x0 ^^^ (-1 : Int64)) &&& (x1 ^^^ (-1 : Int64))) &&& (x2 ^^^ (-1 : Int64))) &&& (o_sel (0 : Int64) ((w1 + w2) + w3)))) ||| (((x0 &&& (x1 ^^^ (-1 : Int64))) &&& (x2 ^^^ (-1 : Int64))) &&& (o_sel w1 ((w1 + w2) + w3)))) ||| ((((x0 ^^^ (-1 : Int64)) &&& x1) &&& (x2 ^^^ (-1 : Int64))) &&& (o_sel w2 ((w1 + w2) + w3))))), .second]) at_167 (pc' := 169) rfl rfl ?_
    refine go_lload C at_169 (pc' := 171) rfl rfl ?_
    refine go_lloadN C at_171 (pc' := 172) rfl rfl ?_
    refine go_ldc2 C (v := (-1 : Int64)) (wd hw 25 rfl) at_172 (pc' := 175) rfl ?_
    refine go_lxor C at_175 (pc' := 176) rfl ?_
    refine go_lloadN C at_176 (pc' := 177) rfl rfl ?_
    refine go_ldc2 C (v := (-1 : Int64)) (wd hw 25 rfl) at_177 (pc' := 180) rfl ?_
    refine go_lxor C at_180 (pc' := 181) rfl ?_
    refine go_land C at_181 (pc' := 182) rfl ?_
    refine go_lload C at_182 (pc' := 184) rfl rfl ?_
    refine go_land C at_184 (pc' := 185) rfl ?_
    refine go_lload C at_185 (pc' := 187) rfl rfl ?_
    refine go_lload C at_187 (pc' := 189) rfl rfl ?_
    refine go_staticP C (as := [.long w3, .long ((w1 + w2) + w3)]) (rest := [.long (((x0 ^^^ (-1 : Int64)) &&& (x1 ^^^ (-1 : Int64))) &&& x2), .long ((((0 : Int64) ||| ((((x0 ^^^ (-1 : Int64)) &&& (x1 ^^^ (-1 : Int64))) &&& (x2 ^^^ (-1 : Int64))) &&& (o_sel (0 : Int64) ((w1 + w2) + w3)))) ||| (((x0 &&& (x1 ^^^ (-1 : Int64))) &&& (x2 ^^^ (-1 : Int64))) &&& (o_sel w1 ((w1 + w2) + w3)))) ||| ((((x0 ^^^ (-1 : Int64)) &&& x1) &&& (x2 ^^^ (-1 : Int64))) &&& (o_sel w2 ((w1 + w2) + w3))))]) (W := 4) (.long (o_sel w3 ((w1 + w2) + w3))) (sat_sel l Z a0 hw w3 ((w1 + w2) + w3) _ _) (wd hw 26 rfl) (wd hw 27 rfl) (wd hw 28 rfl) (wd hw 29 rfl) (by decide) pd_4 rfl rfl rfl (by decide) (by decide) rfl rfl (by decide) (by decide) at_189 (pc' := 192) rfl rfl ?_
    refine go_land C at_192 (pc' := 193) rfl ?_
    refine go_lor C at_193 (pc' := 194) rfl ?_
    refine go_lstore C (Ls' := #[.val (.long x0), .second, .val (.long x1), .second, .val (.long x2), .second, .val (.long x3), .second, .val (.long x4), .second, .val (.long x5), .second, .val (.long w1), .second, .val (.long w2), .second, .val (.long w3), .second, .val (.ref a_2), .val (.long (if ((w1 + w2) + w3).toInt = 0 then 0 else fpL (fun j => (fun j => (fun j => (fun _ => 0) j + (XT.ushrL x0 (Int32.ofNat j) &&& (1 : Int64)) * w1) j + (XT.ushrL x1 (Int32.ofNat j) &&& (1 : Int64)) * w2) j + (XT.ushrL x2 (Int32.ofNat j) &&& (1 : Int64)) * w3) ((w1 + w2) + w3) 64)), .second, .val (.long ((w1 + w2) + w3)), .second, .val (.long (((((0 : Int64) ||| ((((x0 ^^^ (-1 : Int64)) &&& (x1 ^^^ (-1 : Int64))) &&& (x2 ^^^ (-1 : Int64))) &&& (o_sel (0 : Int64) ((w1 + w2) + w3)))) ||| (((x0 &&& (x1 ^^^ (-1 : Int64))) &&& (x2 ^^^ (-1 : Int64))) &&& (o_sel w1 ((w1 + w2) + w3)))) ||| ((((x0 ^^^ (-1 : Int64)) &&& x1) &&& (x2 ^^^ (-1 : Int64))) &&& (o_sel w2 ((w1 + w2) + w3)))) ||| ((((x0 ^^^ (-1 : Int64)) &&& (x1 ^^^ (-1 : Int64))) &&& x2) &&& (o_sel w3 ((w1 + w2) + w3))))), .second]) at_194 (pc' := 196) rfl rfl ?_
    refine go_lload C at_196 (pc' := 198) rfl rfl ?_
    refine go_lloadN C at_198 (pc' := 199) rfl rfl ?_
    refine go_lloadN C at_199 (pc' := 200) rfl rfl ?_
    refine go_land C at_200 (pc' := 201) rfl ?_
    refine go_lload C at_201 (pc' := 203) rfl rfl ?_
    refine go_ldc2 C (v := (-1 : Int64)) (wd hw 25 rfl) at_203 (pc' := 206) rfl ?_
    refine go_lxor C at_206 (pc' := 207) rfl ?_
    refine go_land C at_207 (pc' := 208) rfl ?_
    refine go_lload C at_208 (pc' := 210) rfl rfl ?_
    refine go_lload C at_210 (pc' := 212) rfl rfl ?_
    refine go_ladd C at_212 (pc' := 213) rfl ?_
    refine go_lload C at_213 (pc' := 215) rfl rfl ?_
    refine go_staticP C (as := [.long (w1 + w2), .long ((w1 + w2) + w3)]) (rest := [.long ((x0 &&& x1) &&& (x2 ^^^ (-1 : Int64))), .long (((((0 : Int64) ||| ((((x0 ^^^ (-1 : Int64)) &&& (x1 ^^^ (-1 : Int64))) &&& (x2 ^^^ (-1 : Int64))) &&& (o_sel (0 : Int64) ((w1 + w2) + w3)))) ||| (((x0 &&& (x1 ^^^ (-1 : Int64))) &&& (x2 ^^^ (-1 : Int64))) &&& (o_sel w1 ((w1 + w2) + w3)))) ||| ((((x0 ^^^ (-1 : Int64)) &&& x1) &&& (x2 ^^^ (-1 : Int64))) &&& (o_sel w2 ((w1 + w2) + w3)))) ||| ((((x0 ^^^ (-1 : Int64)) &&& (x1 ^^^ (-1 : Int64))) &&& x2) &&& (o_sel w3 ((w1 + w2) + w3))))]) (W := 4) (.long (o_sel (w1 + w2) ((w1 + w2) + w3))) (sat_sel l Z a0 hw (w1 + w2) ((w1 + w2) + w3) _ _) (wd hw 26 rfl) (wd hw 27 rfl) (wd hw 28 rfl) (wd hw 29 rfl) (by decide) pd_4 rfl rfl rfl (by decide) (by decide) rfl rfl (by decide) (by decide) at_215 (pc' := 218) rfl rfl ?_
    refine go_land C at_218 (pc' := 219) rfl ?_
    refine go_lor C at_219 (pc' := 220) rfl ?_
    refine go_lstore C (Ls' := #[.val (.long x0), .second, .val (.long x1), .second, .val (.long x2), .second, .val (.long x3), .second, .val (.long x4), .second, .val (.long x5), .second, .val (.long w1), .second, .val (.long w2), .second, .val (.long w3), .second, .val (.ref a_2), .val (.long (if ((w1 + w2) + w3).toInt = 0 then 0 else fpL (fun j => (fun j => (fun j => (fun _ => 0) j + (XT.ushrL x0 (Int32.ofNat j) &&& (1 : Int64)) * w1) j + (XT.ushrL x1 (Int32.ofNat j) &&& (1 : Int64)) * w2) j + (XT.ushrL x2 (Int32.ofNat j) &&& (1 : Int64)) * w3) ((w1 + w2) + w3) 64)), .second, .val (.long ((w1 + w2) + w3)), .second, .val (.long ((((((0 : Int64) ||| ((((x0 ^^^ (-1 : Int64)) &&& (x1 ^^^ (-1 : Int64))) &&& (x2 ^^^ (-1 : Int64))) &&& (o_sel (0 : Int64) ((w1 + w2) + w3)))) ||| (((x0 &&& (x1 ^^^ (-1 : Int64))) &&& (x2 ^^^ (-1 : Int64))) &&& (o_sel w1 ((w1 + w2) + w3)))) ||| ((((x0 ^^^ (-1 : Int64)) &&& x1) &&& (x2 ^^^ (-1 : Int64))) &&& (o_sel w2 ((w1 + w2) + w3)))) ||| ((((x0 ^^^ (-1 : Int64)) &&& (x1 ^^^ (-1 : Int64))) &&& x2) &&& (o_sel w3 ((w1 + w2) + w3)))) ||| (((x0 &&& x1) &&& (x2 ^^^ (-1 : Int64))) &&& (o_sel (w1 + w2) ((w1 + w2) + w3))))), .second]) at_220 (pc' := 222) rfl rfl ?_
    refine go_lload C at_222 (pc' := 224) rfl rfl ?_
    refine go_lloadN C at_224 (pc' := 225) rfl rfl ?_
    refine go_lloadN C at_225 (pc' := 226) rfl rfl ?_
    refine go_ldc2 C (v := (-1 : Int64)) (wd hw 25 rfl) at_226 (pc' := 229) rfl ?_
    refine go_lxor C at_229 (pc' := 230) rfl ?_
    refine go_land C at_230 (pc' := 231) rfl ?_
    refine go_lload C at_231 (pc' := 233) rfl rfl ?_
    refine go_land C at_233 (pc' := 234) rfl ?_
    refine go_lload C at_234 (pc' := 236) rfl rfl ?_
    refine go_lload C at_236 (pc' := 238) rfl rfl ?_
    refine go_ladd C at_238 (pc' := 239) rfl ?_
    refine go_lload C at_239 (pc' := 241) rfl rfl ?_
    refine go_staticP C (as := [.long (w1 + w3), .long ((w1 + w2) + w3)]) (rest := [.long ((x0 &&& (x1 ^^^ (-1 : Int64))) &&& x2), .long ((((((0 : Int64) ||| ((((x0 ^^^ (-1 : Int64)) &&& (x1 ^^^ (-1 : Int64))) &&& (x2 ^^^ (-1 : Int64))) &&& (o_sel (0 : Int64) ((w1 + w2) + w3)))) ||| (((x0 &&& (x1 ^^^ (-1 : Int64))) &&& (x2 ^^^ (-1 : Int64))) &&& (o_sel w1 ((w1 + w2) + w3)))) ||| ((((x0 ^^^ (-1 : Int64)) &&& x1) &&& (x2 ^^^ (-1 : Int64))) &&& (o_sel w2 ((w1 + w2) + w3)))) ||| ((((x0 ^^^ (-1 : Int64)) &&& (x1 ^^^ (-1 : Int64))) &&& x2) &&& (o_sel w3 ((w1 + w2) + w3)))) ||| (((x0 &&& x1) &&& (x2 ^^^ (-1 : Int64))) &&& (o_sel (w1 + w2) ((w1 + w2) + w3))))]) (W := 4) (.long (o_sel (w1 + w3) ((w1 + w2) + w3))) (sat_sel l Z a0 hw (w1 + w3) ((w1 + w2) + w3) _ _) (wd hw 26 rfl) (wd hw 27 rfl) (wd hw 28 rfl) (wd hw 29 rfl) (by decide) pd_4 rfl rfl rfl (by decide) (by decide) rfl rfl (by decide) (by decide) at_241 (pc' := 244) rfl rfl ?_
    refine go_land C at_244 (pc' := 245) rfl ?_
    refine go_lor C at_245 (pc' := 246) rfl ?_
    refine go_lstore C (Ls' := #[.val (.long x0), .second, .val (.long x1), .second, .val (.long x2), .second, .val (.long x3), .second, .val (.long x4), .second, .val (.long x5), .second, .val (.long w1), .second, .val (.long w2), .second, .val (.long w3), .second, .val (.ref a_2), .val (.long (if ((w1 + w2) + w3).toInt = 0 then 0 else fpL (fun j => (fun j => (fun j => (fun _ => 0) j + (XT.ushrL x0 (Int32.ofNat j) &&& (1 : Int64)) * w1) j + (XT.ushrL x1 (Int32.ofNat j) &&& (1 : Int64)) * w2) j + (XT.ushrL x2 (Int32.ofNat j) &&& (1 : Int64)) * w3) ((w1 + w2) + w3) 64)), .second, .val (.long ((w1 + w2) + w3)), .second, .val (.long (((((((0 : Int64) ||| ((((x0 ^^^ (-1 : Int64)) &&& (x1 ^^^ (-1 : Int64))) &&& (x2 ^^^ (-1 : Int64))) &&& (o_sel (0 : Int64) ((w1 + w2) + w3)))) ||| (((x0 &&& (x1 ^^^ (-1 : Int64))) &&& (x2 ^^^ (-1 : Int64))) &&& (o_sel w1 ((w1 + w2) + w3)))) ||| ((((x0 ^^^ (-1 : Int64)) &&& x1) &&& (x2 ^^^ (-1 : Int64))) &&& (o_sel w2 ((w1 + w2) + w3)))) ||| ((((x0 ^^^ (-1 : Int64)) &&& (x1 ^^^ (-1 : Int64))) &&& x2) &&& (o_sel w3 ((w1 + w2) + w3)))) ||| (((x0 &&& x1) &&& (x2 ^^^ (-1 : Int64))) &&& (o_sel (w1 + w2) ((w1 + w2) + w3)))) ||| (((x0 &&& (x1 ^^^ (-1 : Int64))) &&& x2) &&& (o_sel (w1 + w3) ((w1 + w2) + w3))))), .second]) at_246 (pc' := 248) rfl rfl ?_
    refine go_lload C at_248 (pc' := 250) rfl rfl ?_
    refine go_lloadN C at_250 (pc' := 251) rfl rfl ?_
    refine go_ldc2 C (v := (-1 : Int64)) (wd hw 25 rfl) at_251 (pc' := 254) rfl ?_
    refine go_lxor C at_254 (pc' := 255) rfl ?_
    refine go_lloadN C at_255 (pc' := 256) rfl rfl ?_
    refine go_land C at_256 (pc' := 257) rfl ?_
    refine go_lload C at_257 (pc' := 259) rfl rfl ?_
    refine go_land C at_259 (pc' := 260) rfl ?_
    refine go_lload C at_260 (pc' := 262) rfl rfl ?_
    refine go_lload C at_262 (pc' := 264) rfl rfl ?_
    refine go_ladd C at_264 (pc' := 265) rfl ?_
    refine go_lload C at_265 (pc' := 267) rfl rfl ?_
    refine go_staticP C (as := [.long (w2 + w3), .long ((w1 + w2) + w3)]) (rest := [.long (((x0 ^^^ (-1 : Int64)) &&& x1) &&& x2), .long (((((((0 : Int64) ||| ((((x0 ^^^ (-1 : Int64)) &&& (x1 ^^^ (-1 : Int64))) &&& (x2 ^^^ (-1 : Int64))) &&& (o_sel (0 : Int64) ((w1 + w2) + w3)))) ||| (((x0 &&& (x1 ^^^ (-1 : Int64))) &&& (x2 ^^^ (-1 : Int64))) &&& (o_sel w1 ((w1 + w2) + w3)))) ||| ((((x0 ^^^ (-1 : Int64)) &&& x1) &&& (x2 ^^^ (-1 : Int64))) &&& (o_sel w2 ((w1 + w2) + w3)))) ||| ((((x0 ^^^ (-1 : Int64)) &&& (x1 ^^^ (-1 : Int64))) &&& x2) &&& (o_sel w3 ((w1 + w2) + w3)))) ||| (((x0 &&& x1) &&& (x2 ^^^ (-1 : Int64))) &&& (o_sel (w1 + w2) ((w1 + w2) + w3)))) ||| (((x0 &&& (x1 ^^^ (-1 : Int64))) &&& x2) &&& (o_sel (w1 + w3) ((w1 + w2) + w3))))]) (W := 4) (.long (o_sel (w2 + w3) ((w1 + w2) + w3))) (sat_sel l Z a0 hw (w2 + w3) ((w1 + w2) + w3) _ _) (wd hw 26 rfl) (wd hw 27 rfl) (wd hw 28 rfl) (wd hw 29 rfl) (by decide) pd_4 rfl rfl rfl (by decide) (by decide) rfl rfl (by decide) (by decide) at_267 (pc' := 270) rfl rfl ?_
    refine go_land C at_270 (pc' := 271) rfl ?_
    refine go_lor C at_271 (pc' := 272) rfl ?_
    refine go_lstore C (Ls' := #[.val (.long x0), .second, .val (.long x1), .second, .val (.long x2), .second, .val (.long x3), .second, .val (.long x4), .second, .val (.long x5), .second, .val (.long w1), .second, .val (.long w2), .second, .val (.long w3), .second, .val (.ref a_2), .val (.long (if ((w1 + w2) + w3).toInt = 0 then 0 else fpL (fun j => (fun j => (fun j => (fun _ => 0) j + (XT.ushrL x0 (Int32.ofNat j) &&& (1 : Int64)) * w1) j + (XT.ushrL x1 (Int32.ofNat j) &&& (1 : Int64)) * w2) j + (XT.ushrL x2 (Int32.ofNat j) &&& (1 : Int64)) * w3) ((w1 + w2) + w3) 64)), .second, .val (.long ((w1 + w2) + w3)), .second, .val (.long ((((((((0 : Int64) ||| ((((x0 ^^^ (-1 : Int64)) &&& (x1 ^^^ (-1 : Int64))) &&& (x2 ^^^ (-1 : Int64))) &&& (o_sel (0 : Int64) ((w1 + w2) + w3)))) ||| (((x0 &&& (x1 ^^^ (-1 : Int64))) &&& (x2 ^^^ (-1 : Int64))) &&& (o_sel w1 ((w1 + w2) + w3)))) ||| ((((x0 ^^^ (-1 : Int64)) &&& x1) &&& (x2 ^^^ (-1 : Int64))) &&& (o_sel w2 ((w1 + w2) + w3)))) ||| ((((x0 ^^^ (-1 : Int64)) &&& (x1 ^^^ (-1 : Int64))) &&& x2) &&& (o_sel w3 ((w1 + w2) + w3)))) ||| (((x0 &&& x1) &&& (x2 ^^^ (-1 : Int64))) &&& (o_sel (w1 + w2) ((w1 + w2) + w3)))) ||| (((x0 &&& (x1 ^^^ (-1 : Int64))) &&& x2) &&& (o_sel (w1 + w3) ((w1 + w2) + w3)))) ||| ((((x0 ^^^ (-1 : Int64)) &&& x1) &&& x2) &&& (o_sel (w2 + w3) ((w1 + w2) + w3))))), .second]) at_272 (pc' := 274) rfl rfl ?_
    refine go_lload C at_274 (pc' := 276) rfl rfl ?_
    refine go_lloadN C at_276 (pc' := 277) rfl rfl ?_
    refine go_lloadN C at_277 (pc' := 278) rfl rfl ?_
    refine go_land C at_278 (pc' := 279) rfl ?_
    refine go_lload C at_279 (pc' := 281) rfl rfl ?_
    refine go_land C at_281 (pc' := 282) rfl ?_
    refine go_lload C at_282 (pc' := 284) rfl rfl ?_
    refine go_lload C at_284 (pc' := 286) rfl rfl ?_
    refine go_ladd C at_286 (pc' := 287) rfl ?_
    refine go_lload C at_287 (pc' := 289) rfl rfl ?_
    refine go_ladd C at_289 (pc' := 290) rfl ?_
    refine go_lload C at_290 (pc' := 292) rfl rfl ?_
    refine go_staticP C (as := [.long ((w1 + w2) + w3), .long ((w1 + w2) + w3)]) (rest := [.long ((x0 &&& x1) &&& x2), .long ((((((((0 : Int64) ||| ((((x0 ^^^ (-1 : Int64)) &&& (x1 ^^^ (-1 : Int64))) &&& (x2 ^^^ (-1 : Int64))) &&& (o_sel (0 : Int64) ((w1 + w2) + w3)))) ||| (((x0 &&& (x1 ^^^ (-1 : Int64))) &&& (x2 ^^^ (-1 : Int64))) &&& (o_sel w1 ((w1 + w2) + w3)))) ||| ((((x0 ^^^ (-1 : Int64)) &&& x1) &&& (x2 ^^^ (-1 : Int64))) &&& (o_sel w2 ((w1 + w2) + w3)))) ||| ((((x0 ^^^ (-1 : Int64)) &&& (x1 ^^^ (-1 : Int64))) &&& x2) &&& (o_sel w3 ((w1 + w2) + w3)))) ||| (((x0 &&& x1) &&& (x2 ^^^ (-1 : Int64))) &&& (o_sel (w1 + w2) ((w1 + w2) + w3)))) ||| (((x0 &&& (x1 ^^^ (-1 : Int64))) &&& x2) &&& (o_sel (w1 + w3) ((w1 + w2) + w3)))) ||| ((((x0 ^^^ (-1 : Int64)) &&& x1) &&& x2) &&& (o_sel (w2 + w3) ((w1 + w2) + w3))))]) (W := 4) (.long (o_sel ((w1 + w2) + w3) ((w1 + w2) + w3))) (sat_sel l Z a0 hw ((w1 + w2) + w3) ((w1 + w2) + w3) _ _) (wd hw 26 rfl) (wd hw 27 rfl) (wd hw 28 rfl) (wd hw 29 rfl) (by decide) pd_4 rfl rfl rfl (by decide) (by decide) rfl rfl (by decide) (by decide) at_292 (pc' := 295) rfl rfl ?_
    refine go_land C at_295 (pc' := 296) rfl ?_
    refine go_lor C at_296 (pc' := 297) rfl ?_
    refine go_lstore C (Ls' := #[.val (.long x0), .second, .val (.long x1), .second, .val (.long x2), .second, .val (.long x3), .second, .val (.long x4), .second, .val (.long x5), .second, .val (.long w1), .second, .val (.long w2), .second, .val (.long w3), .second, .val (.ref a_2), .val (.long (if ((w1 + w2) + w3).toInt = 0 then 0 else fpL (fun j => (fun j => (fun j => (fun _ => 0) j + (XT.ushrL x0 (Int32.ofNat j) &&& (1 : Int64)) * w1) j + (XT.ushrL x1 (Int32.ofNat j) &&& (1 : Int64)) * w2) j + (XT.ushrL x2 (Int32.ofNat j) &&& (1 : Int64)) * w3) ((w1 + w2) + w3) 64)), .second, .val (.long ((w1 + w2) + w3)), .second, .val (.long (((((((((0 : Int64) ||| ((((x0 ^^^ (-1 : Int64)) &&& (x1 ^^^ (-1 : Int64))) &&& (x2 ^^^ (-1 : Int64))) &&& (o_sel (0 : Int64) ((w1 + w2) + w3)))) ||| (((x0 &&& (x1 ^^^ (-1 : Int64))) &&& (x2 ^^^ (-1 : Int64))) &&& (o_sel w1 ((w1 + w2) + w3)))) ||| ((((x0 ^^^ (-1 : Int64)) &&& x1) &&& (x2 ^^^ (-1 : Int64))) &&& (o_sel w2 ((w1 + w2) + w3)))) ||| ((((x0 ^^^ (-1 : Int64)) &&& (x1 ^^^ (-1 : Int64))) &&& x2) &&& (o_sel w3 ((w1 + w2) + w3)))) ||| (((x0 &&& x1) &&& (x2 ^^^ (-1 : Int64))) &&& (o_sel (w1 + w2) ((w1 + w2) + w3)))) ||| (((x0 &&& (x1 ^^^ (-1 : Int64))) &&& x2) &&& (o_sel (w1 + w3) ((w1 + w2) + w3)))) ||| ((((x0 ^^^ (-1 : Int64)) &&& x1) &&& x2) &&& (o_sel (w2 + w3) ((w1 + w2) + w3)))) ||| (((x0 &&& x1) &&& x2) &&& (o_sel ((w1 + w2) + w3) ((w1 + w2) + w3))))), .second]) at_297 (pc' := 299) rfl rfl ?_
    refine go_lload C at_299 (pc' := 301) rfl rfl ?_
    refine go_lload C at_301 (pc' := 303) rfl rfl ?_
    have hq : (if ((w1 + w2) + w3).toInt = 0 then 0 else fpL (fun j => (fun j => (fun j => (fun _ => 0) j + (XT.ushrL x0 (Int32.ofNat j) &&& (1 : Int64)) * w1) j + (XT.ushrL x1 (Int32.ofNat j) &&& (1 : Int64)) * w2) j + (XT.ushrL x2 (Int32.ofNat j) &&& (1 : Int64)) * w3) ((w1 + w2) + w3) 64) = ((((((((0 : Int64) ||| ((((x0 ^^^ (-1 : Int64)) &&& (x1 ^^^ (-1 : Int64))) &&& (x2 ^^^ (-1 : Int64))) &&& (o_sel (0 : Int64) ((w1 + w2) + w3)))) ||| (((x0 &&& (x1 ^^^ (-1 : Int64))) &&& (x2 ^^^ (-1 : Int64))) &&& (o_sel w1 ((w1 + w2) + w3)))) ||| ((((x0 ^^^ (-1 : Int64)) &&& x1) &&& (x2 ^^^ (-1 : Int64))) &&& (o_sel w2 ((w1 + w2) + w3)))) ||| ((((x0 ^^^ (-1 : Int64)) &&& (x1 ^^^ (-1 : Int64))) &&& x2) &&& (o_sel w3 ((w1 + w2) + w3)))) ||| (((x0 &&& x1) &&& (x2 ^^^ (-1 : Int64))) &&& (o_sel (w1 + w2) ((w1 + w2) + w3)))) ||| (((x0 &&& (x1 ^^^ (-1 : Int64))) &&& x2) &&& (o_sel (w1 + w3) ((w1 + w2) + w3)))) ||| ((((x0 ^^^ (-1 : Int64)) &&& x1) &&& x2) &&& (o_sel (w2 + w3) ((w1 + w2) + w3)))) ||| (((x0 &&& x1) &&& x2) &&& (o_sel ((w1 + w2) + w3) ((w1 + w2) + w3))) := by
      rw [if_neg (by omega)]; exact own_fp x0 x1 x2 w1 w2 w3 a1 b1 a2 b2 a3 b3
    rw [hq]
    refine go_lcmp C ((((((((((0 : Int64) ||| ((((x0 ^^^ (-1 : Int64)) &&& (x1 ^^^ (-1 : Int64))) &&& (x2 ^^^ (-1 : Int64))) &&& (o_sel (0 : Int64) ((w1 + w2) + w3)))) ||| (((x0 &&& (x1 ^^^ (-1 : Int64))) &&& (x2 ^^^ (-1 : Int64))) &&& (o_sel w1 ((w1 + w2) + w3)))) ||| ((((x0 ^^^ (-1 : Int64)) &&& x1) &&& (x2 ^^^ (-1 : Int64))) &&& (o_sel w2 ((w1 + w2) + w3)))) ||| ((((x0 ^^^ (-1 : Int64)) &&& (x1 ^^^ (-1 : Int64))) &&& x2) &&& (o_sel w3 ((w1 + w2) + w3)))) ||| (((x0 &&& x1) &&& (x2 ^^^ (-1 : Int64))) &&& (o_sel (w1 + w2) ((w1 + w2) + w3)))) ||| (((x0 &&& (x1 ^^^ (-1 : Int64))) &&& x2) &&& (o_sel (w1 + w3) ((w1 + w2) + w3)))) ||| ((((x0 ^^^ (-1 : Int64)) &&& x1) &&& x2) &&& (o_sel (w2 + w3) ((w1 + w2) + w3)))) ||| (((x0 &&& x1) &&& x2) &&& (o_sel ((w1 + w2) + w3) ((w1 + w2) + w3)))).toInt) ((((((((((0 : Int64) ||| ((((x0 ^^^ (-1 : Int64)) &&& (x1 ^^^ (-1 : Int64))) &&& (x2 ^^^ (-1 : Int64))) &&& (o_sel (0 : Int64) ((w1 + w2) + w3)))) ||| (((x0 &&& (x1 ^^^ (-1 : Int64))) &&& (x2 ^^^ (-1 : Int64))) &&& (o_sel w1 ((w1 + w2) + w3)))) ||| ((((x0 ^^^ (-1 : Int64)) &&& x1) &&& (x2 ^^^ (-1 : Int64))) &&& (o_sel w2 ((w1 + w2) + w3)))) ||| ((((x0 ^^^ (-1 : Int64)) &&& (x1 ^^^ (-1 : Int64))) &&& x2) &&& (o_sel w3 ((w1 + w2) + w3)))) ||| (((x0 &&& x1) &&& (x2 ^^^ (-1 : Int64))) &&& (o_sel (w1 + w2) ((w1 + w2) + w3)))) ||| (((x0 &&& (x1 ^^^ (-1 : Int64))) &&& x2) &&& (o_sel (w1 + w3) ((w1 + w2) + w3)))) ||| ((((x0 ^^^ (-1 : Int64)) &&& x1) &&& x2) &&& (o_sel (w2 + w3) ((w1 + w2) + w3)))) ||| (((x0 &&& x1) &&& x2) &&& (o_sel ((w1 + w2) + w3) ((w1 + w2) + w3)))).toInt) rfl rfl at_303 (pc1 := 304) rfl at_304 (by decide) (pc' := 311) (by decide) (pcN := 307) rfl (fun (c_40 : ¬ ((((((((((0 : Int64) ||| ((((x0 ^^^ (-1 : Int64)) &&& (x1 ^^^ (-1 : Int64))) &&& (x2 ^^^ (-1 : Int64))) &&& (o_sel (0 : Int64) ((w1 + w2) + w3)))) ||| (((x0 &&& (x1 ^^^ (-1 : Int64))) &&& (x2 ^^^ (-1 : Int64))) &&& (o_sel w1 ((w1 + w2) + w3)))) ||| ((((x0 ^^^ (-1 : Int64)) &&& x1) &&& (x2 ^^^ (-1 : Int64))) &&& (o_sel w2 ((w1 + w2) + w3)))) ||| ((((x0 ^^^ (-1 : Int64)) &&& (x1 ^^^ (-1 : Int64))) &&& x2) &&& (o_sel w3 ((w1 + w2) + w3)))) ||| (((x0 &&& x1) &&& (x2 ^^^ (-1 : Int64))) &&& (o_sel (w1 + w2) ((w1 + w2) + w3)))) ||| (((x0 &&& (x1 ^^^ (-1 : Int64))) &&& x2) &&& (o_sel (w1 + w3) ((w1 + w2) + w3)))) ||| ((((x0 ^^^ (-1 : Int64)) &&& x1) &&& x2) &&& (o_sel (w2 + w3) ((w1 + w2) + w3)))) ||| (((x0 &&& x1) &&& x2) &&& (o_sel ((w1 + w2) + w3) ((w1 + w2) + w3)))).toInt) = ((((((((((0 : Int64) ||| ((((x0 ^^^ (-1 : Int64)) &&& (x1 ^^^ (-1 : Int64))) &&& (x2 ^^^ (-1 : Int64))) &&& (o_sel (0 : Int64) ((w1 + w2) + w3)))) ||| (((x0 &&& (x1 ^^^ (-1 : Int64))) &&& (x2 ^^^ (-1 : Int64))) &&& (o_sel w1 ((w1 + w2) + w3)))) ||| ((((x0 ^^^ (-1 : Int64)) &&& x1) &&& (x2 ^^^ (-1 : Int64))) &&& (o_sel w2 ((w1 + w2) + w3)))) ||| ((((x0 ^^^ (-1 : Int64)) &&& (x1 ^^^ (-1 : Int64))) &&& x2) &&& (o_sel w3 ((w1 + w2) + w3)))) ||| (((x0 &&& x1) &&& (x2 ^^^ (-1 : Int64))) &&& (o_sel (w1 + w2) ((w1 + w2) + w3)))) ||| (((x0 &&& (x1 ^^^ (-1 : Int64))) &&& x2) &&& (o_sel (w1 + w3) ((w1 + w2) + w3)))) ||| ((((x0 ^^^ (-1 : Int64)) &&& x1) &&& x2) &&& (o_sel (w2 + w3) ((w1 + w2) + w3)))) ||| (((x0 &&& x1) &&& x2) &&& (o_sel ((w1 + w2) + w3) ((w1 + w2) + w3)))).toInt)) => by omega) (fun (c_40 : ((((((((((0 : Int64) ||| ((((x0 ^^^ (-1 : Int64)) &&& (x1 ^^^ (-1 : Int64))) &&& (x2 ^^^ (-1 : Int64))) &&& (o_sel (0 : Int64) ((w1 + w2) + w3)))) ||| (((x0 &&& (x1 ^^^ (-1 : Int64))) &&& (x2 ^^^ (-1 : Int64))) &&& (o_sel w1 ((w1 + w2) + w3)))) ||| ((((x0 ^^^ (-1 : Int64)) &&& x1) &&& (x2 ^^^ (-1 : Int64))) &&& (o_sel w2 ((w1 + w2) + w3)))) ||| ((((x0 ^^^ (-1 : Int64)) &&& (x1 ^^^ (-1 : Int64))) &&& x2) &&& (o_sel w3 ((w1 + w2) + w3)))) ||| (((x0 &&& x1) &&& (x2 ^^^ (-1 : Int64))) &&& (o_sel (w1 + w2) ((w1 + w2) + w3)))) ||| (((x0 &&& (x1 ^^^ (-1 : Int64))) &&& x2) &&& (o_sel (w1 + w3) ((w1 + w2) + w3)))) ||| ((((x0 ^^^ (-1 : Int64)) &&& x1) &&& x2) &&& (o_sel (w2 + w3) ((w1 + w2) + w3)))) ||| (((x0 &&& x1) &&& x2) &&& (o_sel ((w1 + w2) + w3) ((w1 + w2) + w3)))).toInt) = ((((((((((0 : Int64) ||| ((((x0 ^^^ (-1 : Int64)) &&& (x1 ^^^ (-1 : Int64))) &&& (x2 ^^^ (-1 : Int64))) &&& (o_sel (0 : Int64) ((w1 + w2) + w3)))) ||| (((x0 &&& (x1 ^^^ (-1 : Int64))) &&& (x2 ^^^ (-1 : Int64))) &&& (o_sel w1 ((w1 + w2) + w3)))) ||| ((((x0 ^^^ (-1 : Int64)) &&& x1) &&& (x2 ^^^ (-1 : Int64))) &&& (o_sel w2 ((w1 + w2) + w3)))) ||| ((((x0 ^^^ (-1 : Int64)) &&& (x1 ^^^ (-1 : Int64))) &&& x2) &&& (o_sel w3 ((w1 + w2) + w3)))) ||| (((x0 &&& x1) &&& (x2 ^^^ (-1 : Int64))) &&& (o_sel (w1 + w2) ((w1 + w2) + w3)))) ||| (((x0 &&& (x1 ^^^ (-1 : Int64))) &&& x2) &&& (o_sel (w1 + w3) ((w1 + w2) + w3)))) ||| ((((x0 ^^^ (-1 : Int64)) &&& x1) &&& x2) &&& (o_sel (w2 + w3) ((w1 + w2) + w3)))) ||| (((x0 &&& x1) &&& x2) &&& (o_sel ((w1 + w2) + w3) ((w1 + w2) + w3)))).toInt)) => ?_)
    refine go_iconst C (1 : Int32) at_307 (pc' := 308) rfl (by decide) ?_
    refine go_goto C at_308 (by decide) (pc' := 312) (by decide) ?_
    refine go_ireturnN C (z' := (1 : Int32)) rfl (by simp) rfl at_312 (by decide) (by decide) ?_
    exact ⟨_, rfl, rfl⟩
set_option maxRecDepth 65536 in
set_option maxHeartbeats 40000000 in
theorem comes_1 {Post : Tables → Env → Array Value → State → Outcome → State → Prop} (hpost : ∀ tb e args s v u, (limb_1_1.after args s (.returned v) u = true ∧ limb_1_2.after args s (.returned v) u = true ∧ True) → FrameEnd s (.returned v) u (Jvm.fieldLocs frame_1_writes args s ++ Jvm.arrayLocs frame_1_arrays args s ++ Jvm.staticLocs frame_1_statics s) 16 256 → Post tb e args s (.returned v) u) :
    ArmFor flags0 classFile x code maxLocals ret World_1 tables_1 room_1 Calls_1 rest_1 Pre_1 Post := by
  intro l hfl _ _ p e ha hc hk s m args below hf hA hF happ hP
  obtain ⟨hcalls, hrest, hpre⟩ := hP
  obtain ⟨-, -, -, hnamed, -, -, -, hat⟩ := (Spec.applies_iff hf).mp happ
  obtain ⟨hg, hn⟩ := and_e (Cond.before_iff.mp (show (Jvm.Cond.and given_1 narrow_1).before args s = true from hpre))
  obtain ⟨k0, g0⟩ := and_e hg
  obtain ⟨k1, g1⟩ := and_e g0
  obtain ⟨k2, g2⟩ := and_e g1
  obtain ⟨k3, g3⟩ := and_e g2
  obtain ⟨k4, g4⟩ := and_e g3
  obtain ⟨k5, g5⟩ := and_e g4
  obtain ⟨w0, w1, w2, w3, w4, w5, rfl⟩ : ∃ w0 w1 w2 w3 w4 w5 : Value, args = #[w0, w1, w2, w3, w4, w5] := by
    have hs : args.size = 6 := by simpa [Cond.value, given_1] using k0
    obtain ⟨L⟩ := args
    match L, hs with
    | [w0, w1, w2, w3, w4, w5], _ => exact ⟨w0, w1, w2, w3, w4, w5, rfl⟩
  have hw := fun d (hd : d ∈ tables_1) => atoms_spec (ws := Jvm.Cond.code x code maxLocals ret :: tables_1) hat d (List.mem_cons_of_mem _ hd)
  obtain ⟨i0, e0⟩ := isL_v k1
  obtain ⟨i1, e1⟩ := isL_v k2
  obtain ⟨i2, e2⟩ := isL_v k3
  obtain ⟨i3, e3⟩ := isL_v k4
  obtain ⟨i4, e4⟩ := isL_v k5
  obtain ⟨i5, e5⟩ := isL_v g5
  obtain rfl : w0 = (.long i0) := Option.some.inj e0
  obtain rfl : w1 = (.long i1) := Option.some.inj e1
  obtain rfl : w2 = (.long i2) := Option.some.inj e2
  obtain rfl : w3 = (.long i3) := Option.some.inj e3
  obtain rfl : w4 = (.long i4) := Option.some.inj e4
  obtain rfl : w5 = (.long i5) := Option.some.inj e5
  obtain ⟨n, o, h1, h2, h3, _, L, rfl, ⟨⟨_, rfl, rfl⟩, N⟩, hq⟩ := law_sat l s _ hw i0 i1 i2 i3 i4 i5 tables_1 p e ha hc hk s m _ below hf ((Spec.applies_iff_loose hf).mp happ).1 ⟨rfl, State.Warmed39.refl s, rfl⟩ trivial
  refine ⟨n, _, h1, h2, h3, hpost _ _ _ _ _ _ ⟨Cond.after_iff.mpr rfl, Cond.after_iff.mpr (eq_i res_at (Term.int_eval (1)) rfl), trivial⟩ ⟨hq.1, hq.2.1, (hq.2.2.sift fun y hy => Or.inr (N y hy)).mono (by decide) (by decide)⟩⟩
theorem main_1_1 : Claimed_1_1 := comes_1 fun _ _ _ _ _ _ h hF => ⟨h.1, hF⟩
theorem main_1_2 : Claimed_1_2 := comes_1 fun _ _ _ _ _ _ h hF => ⟨h.2.1, hF⟩
end Jvm.Pilot.@@N@@
namespace Jvm.Pilot.@@N@@
open Jvm Jvm.ClassFile Sem Op Lib Jvm.Free Jvm.Stand Jvm.Pilot.@@N@@.Jvm.D
/-! MADE BY PROGRAM (witnessworld.py) out of the Statement's table words and the real class files: 12 classes; the members and pool entries that the words name. The judged class is class 1, her method 2. -/
namespace start1
open Jvm.ClassFile
def u (s : String) : CpInfo := .utf8 (stringToUtf16 s)
/-- a pool by its gaps: so many unusable entries, then the entry; so many at the end -/
def gap : Nat → List CpInfo → List CpInfo
  | 0, r => r
  | n + 1, r => .unusable :: gap n r
def poolList (es : List (Nat × CpInfo)) (last : Nat) : List CpInfo := es.foldr (fun e r => gap e.1 (e.2 :: r)) (gap last [])
def pool (es : List (Nat × CpInfo)) (last : Nat) : Array CpInfo := ⟨poolList es last⟩
def fileOf (pool : Array CpInfo) (this : Nat) (attrs : Array Attribute := #[]) (ms : Array MethodInfo := #[]) (fl : Nat := 33) (sup : Nat := 0) (ifs : Array Nat := #[]) (fds : Array FieldInfo := #[]) : ClassFile where
  minorVersion := 0
  majorVersion := 65
  constantPool := pool
  accessFlags := fl
  thisClass := this
  superClass := sup
  interfaces := ifs
  fields := fds
  methods := ms
  attributes := attrs
def plain (name : String) (sup : Option ClassId) : Class where
  name := name
  kind := .ordinary
  loader := none
  accessFlags := 33
  super := sup
  interfaces := #[]
  cf := none
  fields := #[]
  methods := #[]
  instanceTypes := #[]
  staticTypes := #[]
  resolved := #[]
  callSites := []
  init := .initialized
  statics := none
  mirror := none

def pool0 : Array CpInfo := pool [(5, u "<init>"), (0, u "()V"), (1, .class_ 10), (1, u "java/lang/Object")] 113

def k0c0 : Code := { maxStack := 0, maxLocals := 1, code := object_method_1_code, exceptionTable := #[], attributes := #[] }
def k0m0 : Method := { name := "<init>", desc := "()V", sig := { parameters := [], returnType := none }, accessFlags := 1, code := some k0c0 }
/-- java/lang/Object -/
def k0 : Class := { plain "java/lang/Object" none with
  accessFlags := 33
  interfaces := #[]
  cf := some (fileOf pool0 8 #[] #[{ accessFlags := 1, nameIndex := 5, descriptorIndex := 6, attributes := #[] }] 33 0 #[] #[])
  fields := #[]
  methods := #[k0m0]
  instanceTypes := #[]
  staticTypes := #[]
  resolved := Array.replicate 124 none
  statics := none }

def pool1 : Array CpInfo := pool [(2, .class_ 4), (0, .nameAndType 5 6), (0, u "java/lang/Object"), (0, u "<init>"), (0, u "()V"), (0, .long 2), (1, .long 18446744073709551615), (1, .long 1152921504606846975), (1, .class_ 14), (0, u "com/example/deft_sketch/deftsketch/simhash/SimHash$Tally"), (0, .methodref 13 3), (0, .methodref 13 17), (0, .nameAndType 18 19), (0, u "add"), (0, u "(JJ)V"), (0, .methodref 13 21), (0, .nameAndType 22 23), (0, u "fingerprint"), (0, u "()J"), (0, .methodref 25 26), (0, .class_ 27), (0, .nameAndType 28 29), (0, u "com/example/deft_sketch/deftsketch/simhash/TallyFingerprintPinLaw"), (0, u "sel"), (0, u "(JJ)J"), (3, u "law"), (0, u "(JJJJJJ)Z")] 6

def k1m0 : Method := { name := "<init>", desc := "()V", sig := { parameters := [], returnType := none }, accessFlags := 2, code := none }
def k1c1 : Code := { maxStack := 4, maxLocals := 4, code := method_2_code, exceptionTable := #[], attributes := #[] }
def k1m1 : Method := { name := "sel", desc := "(JJ)J", sig := { parameters := [.long, .long], returnType := some .long }, accessFlags := 10, code := some k1c1 }
def k1c2 : Code := { maxStack := 8, maxLocals := 25, code := code, exceptionTable := #[], attributes := #[] }
def k1m2 : Method := { name := "law", desc := "(JJJJJJ)Z", sig := { parameters := [.long, .long, .long, .long, .long, .long], returnType := some .boolean }, accessFlags := 9, code := some k1c2 }
/-- com/example/deft_sketch/deftsketch/simhash/TallyFingerprintPinLaw -/
def k1 : Class := { plain "com/example/deft_sketch/deftsketch/simhash/TallyFingerprintPinLaw" (some 0) with
  accessFlags := 49
  interfaces := #[]
  cf := some (fileOf pool1 25 #[] #[{ accessFlags := 2, nameIndex := 5, descriptorIndex := 6, attributes := #[] }, { accessFlags := 10, nameIndex := 28, descriptorIndex := 29, attributes := #[] }, { accessFlags := 9, nameIndex := 33, descriptorIndex := 34, attributes := #[] }] 49 2 #[] #[])
  fields := #[]
  methods := #[k1m0, k1m1, k1m2]
  instanceTypes := #[]
  staticTypes := #[]
  resolved := Array.replicate 41 none
  statics := none }

def pool2 : Array CpInfo := pool [(12, .class_ 14), (1, u "java/util/function/LongConsumer"), (1, .class_ 17), (0, u "java/lang/Object")] 34

/-- java/util/function/LongConsumer -/
def k2 : Class := { plain "java/util/function/LongConsumer" (some 0) with
  accessFlags := 1537
  interfaces := #[]
  cf := some (fileOf pool2 12 #[] #[] 1537 16 #[] #[])
  fields := #[]
  methods := #[]
  instanceTypes := #[]
  staticTypes := #[]
  resolved := Array.replicate 52 none
  statics := none }

def pool3 : Array CpInfo := pool [(1, .class_ 2), (0, u "com/example/deft_sketch/deftsketch/simhash/SimHash"), (0, .methodref 4 5), (0, .class_ 6), (0, .nameAndType 7 8), (0, u "java/lang/Object"), (0, u "<init>"), (0, u "()V"), (0, .fieldref 10 11), (0, .class_ 12), (0, .nameAndType 13 14), (0, u "com/example/deft_sketch/deftsketch/simhash/SimHash$Tally"), (0, u "setWeights"), (0, u "[J"), (2, u "add"), (0, u "(JJ)V"), (0, .fieldref 10 20), (0, .nameAndType 21 22), (0, u "total"), (0, u "J"), (0, .class_ 24), (0, u "java/util/function/LongConsumer"), (5, u "fingerprint"), (0, u "()J")] 5

def k3c0 : Code := { maxStack := 2, maxLocals := 1, code := prog_84_method_1_code, exceptionTable := #[], attributes := #[] }
def k3m0 : Method := { name := "<init>", desc := "()V", sig := { parameters := [], returnType := none }, accessFlags := 1, code := some k3c0 }
def k3c1 : Code := { maxStack := 8, maxLocals := 6, code := prog_84_method_3_code, exceptionTable := #[], attributes := #[] }
def k3m1 : Method := { name := "add", desc := "(JJ)V", sig := { parameters := [.long, .long], returnType := none }, accessFlags := 1, code := some k3c1 }
def k3c2 : Code := { maxStack := 6, maxLocals := 4, code := prog_84_method_4_code, exceptionTable := #[], attributes := #[] }
def k3m2 : Method := { name := "fingerprint", desc := "()J", sig := { parameters := [], returnType := some .long }, accessFlags := 1, code := some k3c2 }
/-- com/example/deft_sketch/deftsketch/simhash/SimHash$Tally -/
def k3 : Class := { plain "com/example/deft_sketch/deftsketch/simhash/SimHash$Tally" (some 0) with
  accessFlags := 49
  interfaces := #[2]
  cf := some (fileOf pool3 10 #[.nestHost 1] #[{ accessFlags := 1, nameIndex := 7, descriptorIndex := 8, attributes := #[] }, { accessFlags := 1, nameIndex := 17, descriptorIndex := 18, attributes := #[] }, { accessFlags := 1, nameIndex := 30, descriptorIndex := 31, attributes := #[] }] 49 4 #[23] #[{ accessFlags := 18, nameIndex := 13, descriptorIndex := 14, attributes := #[] }, { accessFlags := 2, nameIndex := 21, descriptorIndex := 22, attributes := #[] }])
  fields := #[{ name := "setWeights", type := (.array .long), accessFlags := 18, slot := 0, constantValue := 0 }, { name := "total", type := .long, accessFlags := 2, slot := 1, constantValue := 0 }]
  methods := #[k3m0, k3m1, k3m2]
  instanceTypes := #[(.array .long), .long]
  staticTypes := #[]
  resolved := Array.replicate 37 none
  statics := none }

def pool4 : Array CpInfo := pool [(1, u "java/lang/Cloneable"), (0, .class_ 1), (0, u "java/lang/Object"), (0, .class_ 3)] 3

/-- java/lang/Cloneable -/
def k4 : Class := { plain "java/lang/Cloneable" (some 0) with
  accessFlags := 1537
  interfaces := #[]
  cf := some (fileOf pool4 2 #[] #[] 1537 4 #[] #[])
  fields := #[]
  methods := #[]
  instanceTypes := #[]
  staticTypes := #[]
  resolved := Array.replicate 8 none
  statics := none }

def pool5 : Array CpInfo := pool [(1, u "java/io/Serializable"), (0, .class_ 1), (0, u "java/lang/Object"), (0, .class_ 3)] 3

/-- java/io/Serializable -/
def k5 : Class := { plain "java/io/Serializable" (some 0) with
  accessFlags := 1537
  interfaces := #[]
  cf := some (fileOf pool5 2 #[] #[] 1537 4 #[] #[])
  fields := #[]
  methods := #[]
  instanceTypes := #[]
  staticTypes := #[]
  resolved := Array.replicate 8 none
  statics := none }

/-- the primitive byte -/
def k6 : Class := { plain "byte" none with kind := .primitive 'B', accessFlags := 0x411 }
/-- [B -/
def k7 : Class := { plain "[B" (some 0) with kind := .array 6 .byte, interfaces := #[4, 5], accessFlags := 1041 }

/-- the primitive int -/
def k8 : Class := { plain "int" none with kind := .primitive 'I', accessFlags := 0x411 }
/-- [I -/
def k9 : Class := { plain "[I" (some 0) with kind := .array 8 .int, interfaces := #[4, 5], accessFlags := 1041 }

/-- the primitive long -/
def k10 : Class := { plain "long" none with kind := .primitive 'J', accessFlags := 0x411 }
/-- [J -/
def k11 : Class := { plain "[J" (some 0) with kind := .array 10 .long, interfaces := #[4, 5], accessFlags := 1041 }

def heap : Heap := #[]
def classes : Array Class := #[k0, k1, k2, k3, k4, k5, k6, k7, k8, k9, k10, k11]
def interned : List (Array UInt16 × Addr) := []
def slotsUsed : Nat := 0
def theMethod : MethodId := ⟨1, 2⟩
def args0 : Array Value := #[.long 5, .long 6, .long 7, .long 8, .long 9, .long 10]
def aboutOver (below : List Frame) : State where
  vm := { classes := classes, interned := interned.toArray }
  heap := heap
  slotsUsed := slotsUsed
  threads := #[{ frames := .invoking theMethod args0 :: below }]
def below0 : List Frame := [.native { method := ⟨0, 0⟩, args := #[] }]
def about1 : State := aboutOver below0
def p0 : Program := .bare "" "" ""
def e0 : Env := launch0.env 0 0 0
theorem w_frames : about1.frames = Frame.invoking theMethod args0 :: below0 := rfl
set_option maxRecDepth 65536 in
theorem w_args : argsFit about1.vm theMethod args0 = true := by decide +kernel
set_option maxRecDepth 65536 in
theorem w_heap : heapFits about1 = true := by decide +kernel
set_option maxRecDepth 65536 in
theorem w_runnable : about1.curStatus? = some .runnable := by decide +kernel
set_option maxRecDepth 65536 in
theorem w_alone : about1.alone = true := by decide +kernel
set_option maxRecDepth 65536 in
theorem w_named : about1.methodNamed? x = some theMethod := by decide +kernel
set_option maxRecDepth 65536 in
theorem w_hears : about1.hears theMethod below0 = true := by decide +kernel
set_option maxRecDepth 65536 in
theorem w_ripe : about1.ripe theMethod args0 below0 = true := by decide +kernel
theorem w_running : about1.status = .running := rfl
set_option maxRecDepth 65536 in
theorem w_room : about1.hasRoom e0.platform room_1 = true :=
  launch0.hasRoom_least _ room_1 (by decide +kernel) (by decide +kernel) (by decide +kernel) (by decide +kernel) (by decide +kernel) (by decide +kernel)
theorem allAtoms_all (ts : List Jvm.Cond) (a : Array Jvm.Value) (st : Jvm.State) : (allAtoms ts).before a st = ts.all (fun c => c.before a st) := by
  induction ts with
  | nil => rfl
  | cons c t ih =>
    show (Jvm.Cond.and c (allAtoms t)).before a st = _
    rw [Jvm.Cond.before_and, ih, List.all_cons]
def words1 : List Jvm.Cond := Jvm.Cond.code x code maxLocals ret :: tables_1
/-- a 'code' word, met by the world's own term for the bytes: nothing is compared byte by byte -/
theorem code_word {y : MethodName} {bytes : ByteArray} {mx : Nat} {rt : Option FieldType} {a : Array Value} {s : State} {m : MethodId} {meth : Method} {c : Code} (h1 : s.methodNamed? y = some m) (h2 : s.vm.method? m = some meth) (h3 : meth.code = some c) (h4 : c.code = bytes)
    (h5 : (c.maxLocals == mx && c.exceptionTable.isEmpty && decide (c.maxStack ≤ mostOperands) && decide (meth.sig.returnType = rt) && !meth.locks && decide (parseMethodDescriptor y.desc = some meth.sig)) = true) : (Jvm.Cond.code y bytes mx rt).before a s = true := by
  simp only [Bool.and_eq_true, beq_iff_eq, Bool.not_eq_true', decide_eq_true_eq] at h5
  obtain ⟨⟨⟨⟨⟨g1, g2⟩, g3⟩, g4⟩, g5⟩, g6⟩ := h5
  simp [Cond.before, Cond.holds, Cond.value, h1, h2, h3, h4, g1, g2, g3, g4, g5, g6]
def isCode : Jvm.Cond → Bool
  | .code _ _ _ _ => true
  | _ => false
theorem all_split {L : List Jvm.Cond} {P : Jvm.Cond → Bool} (h1 : L.all (fun c => isCode c || P c) = true) (h2 : ∀ c ∈ L.filter isCode, P c = true) : L.all P = true := by
  refine List.all_eq_true.mpr fun c hc => ?_
  have h := List.all_eq_true.mp h1 c hc
  rcases Bool.eq_false_or_eq_true (isCode c) with hi | hi
  · exact h2 c (List.mem_filter.mpr ⟨hc, hi⟩)
  · simpa [hi] using h
set_option maxRecDepth 65536 in
theorem w_c0 : (Jvm.Cond.code x code maxLocals ret).before args0 about1 = true := code_word (m := ⟨1, 2⟩) (meth := k1m2) (c := k1c2) (by decide +kernel) rfl rfl rfl (by decide +kernel)
set_option maxRecDepth 65536 in
theorem w_c1 : (Jvm.Cond.code ({ cls := "com/example/deft_sketch/deftsketch/simhash/SimHash$Tally", name := "<init>", desc := "()V" } : Jvm.MethodName) prog_84_method_1_code (1 : Nat) (Option.none : Option Jvm.ClassFile.FieldType)).before args0 about1 = true := code_word (m := ⟨3, 0⟩) (meth := k3m0) (c := k3c0) (by decide +kernel) rfl rfl rfl (by decide +kernel)
set_option maxRecDepth 65536 in
theorem w_c2 : (Jvm.Cond.code ({ cls := "java/lang/Object", name := "<init>", desc := "()V" } : Jvm.MethodName) object_method_1_code (1 : Nat) (Option.none : Option Jvm.ClassFile.FieldType)).before args0 about1 = true := code_word (m := ⟨0, 0⟩) (meth := k0m0) (c := k0c0) (by decide +kernel) rfl rfl rfl (by decide +kernel)
set_option maxRecDepth 65536 in
theorem w_c3 : (Jvm.Cond.code ({ cls := "com/example/deft_sketch/deftsketch/simhash/SimHash$Tally", name := "add", desc := "(JJ)V" } : Jvm.MethodName) prog_84_method_3_code (6 : Nat) (Option.none : Option Jvm.ClassFile.FieldType)).before args0 about1 = true := code_word (m := ⟨3, 1⟩) (meth := k3m1) (c := k3c1) (by decide +kernel) rfl rfl rfl (by decide +kernel)
set_option maxRecDepth 65536 in
theorem w_c4 : (Jvm.Cond.code ({ cls := "com/example/deft_sketch/deftsketch/simhash/SimHash$Tally", name := "fingerprint", desc := "()J" } : Jvm.MethodName) prog_84_method_4_code (4 : Nat) (Option.some Jvm.ClassFile.FieldType.long)).before args0 about1 = true := code_word (m := ⟨3, 2⟩) (meth := k3m2) (c := k3c2) (by decide +kernel) rfl rfl rfl (by decide +kernel)
set_option maxRecDepth 65536 in
theorem w_c5 : (Jvm.Cond.code ({ cls := "com/example/deft_sketch/deftsketch/simhash/TallyFingerprintPinLaw", name := "sel", desc := "(JJ)J" } : Jvm.MethodName) method_2_code (4 : Nat) (Option.some Jvm.ClassFile.FieldType.long)).before args0 about1 = true := code_word (m := ⟨1, 1⟩) (meth := k1m1) (c := k1c1) (by decide +kernel) rfl rfl rfl (by decide +kernel)
def codes1 : List Jvm.Cond := [Jvm.Cond.code x code maxLocals ret, Jvm.Cond.code ({ cls := "com/example/deft_sketch/deftsketch/simhash/SimHash$Tally", name := "<init>", desc := "()V" } : Jvm.MethodName) prog_84_method_1_code (1 : Nat) (Option.none : Option Jvm.ClassFile.FieldType), Jvm.Cond.code ({ cls := "java/lang/Object", name := "<init>", desc := "()V" } : Jvm.MethodName) object_method_1_code (1 : Nat) (Option.none : Option Jvm.ClassFile.FieldType), Jvm.Cond.code ({ cls := "com/example/deft_sketch/deftsketch/simhash/SimHash$Tally", name := "add", desc := "(JJ)V" } : Jvm.MethodName) prog_84_method_3_code (6 : Nat) (Option.none : Option Jvm.ClassFile.FieldType), Jvm.Cond.code ({ cls := "com/example/deft_sketch/deftsketch/simhash/SimHash$Tally", name := "fingerprint", desc := "()J" } : Jvm.MethodName) prog_84_method_4_code (4 : Nat) (Option.some Jvm.ClassFile.FieldType.long), Jvm.Cond.code ({ cls := "com/example/deft_sketch/deftsketch/simhash/TallyFingerprintPinLaw", name := "sel", desc := "(JJ)J" } : Jvm.MethodName) method_2_code (4 : Nat) (Option.some Jvm.ClassFile.FieldType.long)]
set_option maxRecDepth 65536 in
theorem codes_eq : words1.filter isCode = codes1 := rfl
theorem w_codes : ∀ c ∈ words1.filter isCode, c.before args0 about1 = true := by
  rw [codes_eq]
  intro c hc
  simp only [codes1, List.mem_cons, List.not_mem_nil, or_false] at hc
  rcases hc with rfl | rfl | rfl | rfl | rfl | rfl
  · exact w_c0
  · exact w_c1
  · exact w_c2
  · exact w_c3
  · exact w_c4
  · exact w_c5
set_option maxRecDepth 65536 in
theorem w_t1 : (words1.take 24).all (fun c => isCode c || c.before args0 about1) = true := by decide +kernel
set_option maxRecDepth 65536 in
theorem w_t2 : (words1.drop 24).all (fun c => isCode c || c.before args0 about1) = true := by decide +kernel
theorem w_tables : (allAtoms (Jvm.Cond.code x code maxLocals ret :: tables_1)).before args0 about1 = true := by
  rw [allAtoms_all]
  show words1.all (fun c => c.before args0 about1) = true
  refine all_split ?_ w_codes
  rw [← List.take_append_drop 24 words1, List.all_append, w_t1, w_t2]
  rfl
set_option maxRecDepth 65536 in
theorem w_case : (Jvm.Cond.and given_1 narrow_1).before args0 about1 = true := by decide +kernel
theorem w_applies : (headSpec (Jvm.Cond.code x code maxLocals ret :: tables_1) room_1).applies x e0.platform about1 = true :=
  (Spec.applies_iff w_frames).mpr ⟨w_running, w_runnable, w_alone, w_named, w_hears, w_ripe, w_room, w_tables⟩
theorem atStart : AtStart classFile x code maxLocals ret World_1 tables_1 room_1 Calls_1 rest_1 Pre_1 launch0 p0 e0 about1 theMethod args0 below0 :=
  ⟨lists_1, trivial, launch0.admits_env _ _ _, launch0.least_env, fairChoices_fair.cas, fairChoices_fair.clock, w_frames, w_args, w_heap, w_applies, trivial, trivial, w_case⟩
end start1
theorem witness_1 : WitnessClaimed_1 := ⟨start1.p0, start1.e0, start1.about1, start1.theMethod, start1.args0, start1.below0, start1.atStart⟩
end Jvm.Pilot.@@N@@
