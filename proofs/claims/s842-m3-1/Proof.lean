import JvmDerived
import JvmDerived.Pilot.@@N@@Statement
import JvmDerived.Pilot.@@N@@Code
set_option linter.unusedVariables false
set_option linter.unusedSimpArgs false
@@BLOCK:NumsL.lean.txt@@
namespace Jvm.Pilot.@@N@@
open Jvm Jvm.ClassFile Sem Op Lib Jvm.Free Jvm.Stand Jvm.LawKit Jvm.RoadKit Bundle Jvm.Pilot.@@N@@.Jvm.D
section OwnLayer
/-- the surroundings of a walk: what stays the same from step to step -/
def Cx (p : Program) (s : State) (m : MethodId) (meth : Method) (c : Code) (Z : State) (own : String) (bs : ByteArray) (mx : Nat) (rt : Option FieldType) (nm : String) : Prop :=
  p.tables.exec = Jvm.exec ∧ c.code = bs ∧ c.maxLocals = mx ∧ Z.Warmed39 s.vm ∧ s.vm.findClass own = some m.cls ∧ meth.sig.returnType = rt ∧ meth.locks = false ∧ meth.name = nm
/-- wherever the walk stands with heap h and top frame g, it comes to its end, and Q holds there -/
def Go (p : Program) (l : Launch) (e : Env) (R : Room) (s : State) (m : MethodId) (args : Array Value) (below : List Frame) (meth : Method) (c : Code) (n0 : Nat) (Q : Option Value → Heap → Prop) (K N : Nat) (h : Heap) (ce sl : Nat) (g : JFrame) : Prop :=
  ∀ (T : State) (locs : List Loc), Stand p l e R s m args below meth c T locs ce sl → T.heap = h → Fr n0 locs →
    ∃ s₂ o, Steps p.tables e below (T.setTop g) s₂ ∧ s₂.status = .running ∧ Ended s₂ below o ∧ ∃ v L, o = .returned v ∧ (Q v s₂.heap ∧ Fr n0 L) ∧ FrameEnd s o s₂ L K N
/-- a method's contract, for given arguments and a given heap -/
def Sat (l : Launch) (Z : State) (y : MethodName) (bs : ByteArray) (mx : Nat) (rt : Option FieldType) (rm : Room) (as : List Value) (h0 : Heap) (n0 : Nat) (Q : Option Value → Heap → Prop) : Prop :=
  ∀ ws : List Jvm.Cond, MetFree l y (head1 (Jvm.Cond.code y bs mx rt :: ws) rm) (fun a U => a = as.toArray ∧ Z.Warmed39 U.vm ∧ U.heap = h0) (fun _ _ _ _ _ => True) (fun _ U o U' => ∃ v L, o = .returned v ∧ (Q v U'.heap ∧ Fr n0 L) ∧ FrameEnd U o U' L rm.cells rm.slots)
def RV (P : Value → Heap → Prop) : Option Value → Heap → Prop := fun v h => ∃ r, v = some r ∧ P r h
def RN (P : Heap → Prop) : Option Value → Heap → Prop := fun v h => v = none ∧ P h
def wt (st : List Value) : Nat := (st.map fun v => v.category).sum
def bi (P : Prop) [Decidable P] : Int32 := if P then 1 else 0
theorem bi_t {P : Prop} [Decidable P] (h : P) : bi P = 1 := if_pos h
theorem bi_f {P : Prop} [Decidable P] (h : ¬ P) : bi P = 0 := if_neg h
theorem bi1 {P : Prop} [Decidable P] (h : P) : (1 : Int32) = bi P := (if_pos h).symm
theorem bi0 {P : Prop} [Decidable P] (h : ¬ P) : (0 : Int32) = bi P := (if_neg h).symm
theorem bi_congr {P P' : Prop} [Decidable P] [Decidable P'] (h : P ↔ P') : bi P = bi P' := by
  by_cases q : P
  · rw [bi_t q, bi_t (h.mp q)]
  · rw [bi_f q, bi_f fun z => q (h.mpr z)]
theorem bi_nar (P : Prop) [Decidable P] : nar .boolean (bi P) = bi P := by
  by_cases q : P
  · rw [bi_t q]; rfl
  · rw [bi_f q]; rfl
theorem bi_inj {P P' : Prop} [Decidable P] [Decidable P'] (h : bi P = bi P') : P ↔ P' := by
  by_cases q : P <;> by_cases q' : P' <;> simp_all [bi]
theorem bi_narrow (P : Prop) [Decidable P] : narrow .boolean (.int (bi P)) = .int (bi P) := by
  by_cases q : P
  · rw [bi_t q]; rfl
  · rw [bi_f q]; rfl
theorem bi_fits (P : Prop) [Decidable P] : fits .boolean (.int (bi P)) = true := by
  by_cases q : P
  · rw [bi_t q]; rfl
  · rw [bi_f q]; rfl
theorem bi_toInt (P : Prop) [Decidable P] : (bi P).toInt = if P then 1 else 0 := by
  by_cases q : P
  · rw [bi_t q, if_pos q]; rfl
  · rw [bi_f q, if_neg q]; rfl
theorem own_add_t {P : Prop} [Decidable P] (n : Int32) (h : P) : n + 1 = n + bi P := by rw [bi_t h]
theorem own_add_f {P : Prop} [Decidable P] (n : Int32) (h : ¬ P) : n = n + bi P := by rw [bi_f h, Int32.add_zero]
theorem own_narrow_arr {v : Value} {t : FieldType} (h : v.isRef = true) : narrow (.array t) v = v := by
  cases v <;> first | rfl | simp [Value.isRef] at h
theorem own_fits_arr {v : Value} {t : FieldType} (h : v.isRef = true) : fits (.array t) v = true := by
  cases v <;> first | rfl | simp [Value.isRef] at h
theorem own_bb (x : Int32) : x.toInt8.toInt32.toInt8.toInt32 = x.toInt8.toInt32 := by simp
theorem own_ne_new {h : Heap} {a b : Addr} (q : b < h.size) (g : h.size = a) : b ≠ a := Nat.ne_of_lt (g ▸ q)
theorem own_ge {h : Heap} {a : Addr} {n : Nat} (q : n ≤ h.size) (g : h.size = a) : n ≤ a := g ▸ q
theorem int_eq {x y : Int32} (h : x.toInt = y.toInt) : x = y := Int32.toInt_inj.mp h
theorem long_eq {x y : Int64} (h : x.toInt = y.toInt) : x = y := Int64.toInt_inj.mp h
section Walk
variable {p : Program} {l : Launch} {e : Env} {R : Room} {s : State} {m : MethodId} {args : Array Value} {below : List Frame} {meth : Method} {c : Code} {Z : State} {a0 : Array Value} {own : String} {bs : ByteArray} {mx : Nat} {rt : Option FieldType} {nm : String} {n0 : Nat} {Q : Option Value → Heap → Prop} {K N : Nat} {h : Heap} {ce sl : Nat} {pc pc' : Nat} {Ls Ls' : Array Slot} {st : List Value} {g g' : JFrame}
theorem Go.step (H : ∀ (T : State), At T m c below → ∀ target, Steps p.tables e below (T.setTop g') target → Steps p.tables e below (T.setTop g) target) (hr : Go p l e R s m args below meth c n0 Q K N h ce sl g') : Go p l e R s m args below meth c n0 Q K N h ce sl g := fun T locs X eT Nn => by
  obtain ⟨s₂, o, h1, r⟩ := hr T locs X eT Nn
  exact ⟨s₂, o, H T X.here _ h1, r⟩
theorem Go.stepX (H : ∀ (T : State) (locs : List Loc), Stand p l e R s m args below meth c T locs ce sl → T.heap = h → ∀ target, Steps p.tables e below (T.setTop g') target → Steps p.tables e below (T.setTop g) target) (hr : Go p l e R s m args below meth c n0 Q K N h ce sl g') : Go p l e R s m args below meth c n0 Q K N h ce sl g := fun T locs X eT Nn => by
  obtain ⟨s₂, o, h1, r⟩ := hr T locs X eT Nn
  exact ⟨s₂, o, H T locs X eT _ h1, r⟩
theorem Go.more {ce' sl' : Nat} (hc : ce ≤ ce') (hs : sl ≤ sl') (hr : Go p l e R s m args below meth c n0 Q K N h ce' sl' g) : Go p l e R s m args below meth c n0 Q K N h ce sl g := fun T locs X eT Nn => hr T locs (X.more hc hs) eT Nn
theorem go_iloadN (C : Cx p s m meth c Z own bs mx rt nm) {k : Fin 4} {v : Int32} (hd : decode bs pc = .ok (.iload_n k, 1)) (hp : pc + 1 = pc') (hl : Ls[k.val]? = some (.val (.int v))) (hr : Go p l e R s m args below meth c n0 Q K N h ce sl (mkF m pc' Ls (.int v :: st))) : Go p l e R s m args below meth c n0 Q K N h ce sl (mkF m pc Ls st) := by
  subst hp
  exact Go.step (fun T A _ q => XS.iloadN A C.1 rfl (hb C.2.1 hd) hl q) hr
theorem go_iload (C : Cx p s m meth c Z own bs mx rt nm) {k : Nat} {v : Int32} (hd : decode bs pc = .ok (.iload k, 2)) (hp : pc + 2 = pc') (hl : Ls[k]? = some (.val (.int v))) (hr : Go p l e R s m args below meth c n0 Q K N h ce sl (mkF m pc' Ls (.int v :: st))) : Go p l e R s m args below meth c n0 Q K N h ce sl (mkF m pc Ls st) := by
  subst hp
  exact Go.step (fun T A _ q => XS.iload A C.1 rfl (hb C.2.1 hd) hl q) hr
theorem go_lloadN (C : Cx p s m meth c Z own bs mx rt nm) {k : Fin 4} {v : Int64} (hd : decode bs pc = .ok (.lload_n k, 1)) (hp : pc + 1 = pc') (hl : Ls[k.val]? = some (.val (.long v))) (hr : Go p l e R s m args below meth c n0 Q K N h ce sl (mkF m pc' Ls (.long v :: st))) : Go p l e R s m args below meth c n0 Q K N h ce sl (mkF m pc Ls st) := by
  subst hp
  exact Go.step (fun T A _ q => XT.lloadN A C.1 rfl (hb C.2.1 hd) hl q) hr
theorem go_lload (C : Cx p s m meth c Z own bs mx rt nm) {k : Nat} {v : Int64} (hd : decode bs pc = .ok (.lload k, 2)) (hp : pc + 2 = pc') (hl : Ls[k]? = some (.val (.long v))) (hr : Go p l e R s m args below meth c n0 Q K N h ce sl (mkF m pc' Ls (.long v :: st))) : Go p l e R s m args below meth c n0 Q K N h ce sl (mkF m pc Ls st) := by
  subst hp
  exact Go.step (fun T A _ q => XT.lload A C.1 rfl (hb C.2.1 hd) hl q) hr
theorem go_aloadN (C : Cx p s m meth c Z own bs mx rt nm) {k : Fin 4} {v : Value} (hd : decode bs pc = .ok (.aload_n k, 1)) (hp : pc + 1 = pc') (hl : Ls[k.val]? = some (.val v)) (hv : v.isRef = true) (hr : Go p l e R s m args below meth c n0 Q K N h ce sl (mkF m pc' Ls (v :: st))) : Go p l e R s m args below meth c n0 Q K N h ce sl (mkF m pc Ls st) := by
  subst hp
  exact Go.step (fun T A _ q => XS.aloadN A C.1 rfl (hb C.2.1 hd) hl hv q) hr
theorem go_aload (C : Cx p s m meth c Z own bs mx rt nm) {k : Nat} {v : Value} (hd : decode bs pc = .ok (.aload k, 2)) (hp : pc + 2 = pc') (hl : Ls[k]? = some (.val v)) (hv : v.isRef = true) (hr : Go p l e R s m args below meth c n0 Q K N h ce sl (mkF m pc' Ls (v :: st))) : Go p l e R s m args below meth c n0 Q K N h ce sl (mkF m pc Ls st) := by
  subst hp
  exact Go.step (fun T A _ q => XS.aload A C.1 rfl (hb C.2.1 hd) hl hv q) hr
theorem go_istoreN (C : Cx p s m meth c Z own bs mx rt nm) {k : Fin 4} {v : Int32} (hd : decode bs pc = .ok (.istore_n k, 1)) (hp : pc + 1 = pc') (hl : storeLocals Ls k.val (.int v) = some Ls') (hr : Go p l e R s m args below meth c n0 Q K N h ce sl (mkF m pc' Ls' st)) : Go p l e R s m args below meth c n0 Q K N h ce sl (mkF m pc Ls (.int v :: st)) := by
  subst hp
  exact Go.step (fun T A _ q => XS.istoreN A C.1 rfl (hb C.2.1 hd) rfl hl q) hr
theorem go_istore (C : Cx p s m meth c Z own bs mx rt nm) {k : Nat} {v : Int32} (hd : decode bs pc = .ok (.istore k, 2)) (hp : pc + 2 = pc') (hl : storeLocals Ls k (.int v) = some Ls') (hr : Go p l e R s m args below meth c n0 Q K N h ce sl (mkF m pc' Ls' st)) : Go p l e R s m args below meth c n0 Q K N h ce sl (mkF m pc Ls (.int v :: st)) := by
  subst hp
  exact Go.step (fun T A _ q => XS.istore A C.1 rfl (hb C.2.1 hd) rfl hl q) hr
theorem go_lstoreN (C : Cx p s m meth c Z own bs mx rt nm) {k : Fin 4} {v : Int64} (hd : decode bs pc = .ok (.lstore_n k, 1)) (hp : pc + 1 = pc') (hl : storeLocals Ls k.val (.long v) = some Ls') (hr : Go p l e R s m args below meth c n0 Q K N h ce sl (mkF m pc' Ls' st)) : Go p l e R s m args below meth c n0 Q K N h ce sl (mkF m pc Ls (.long v :: st)) := by
  subst hp
  exact Go.step (fun T A _ q => XT.lstoreN A C.1 rfl (hb C.2.1 hd) rfl hl q) hr
theorem go_lstore (C : Cx p s m meth c Z own bs mx rt nm) {k : Nat} {v : Int64} (hd : decode bs pc = .ok (.lstore k, 2)) (hp : pc + 2 = pc') (hl : storeLocals Ls k (.long v) = some Ls') (hr : Go p l e R s m args below meth c n0 Q K N h ce sl (mkF m pc' Ls' st)) : Go p l e R s m args below meth c n0 Q K N h ce sl (mkF m pc Ls (.long v :: st)) := by
  subst hp
  exact Go.step (fun T A _ q => XT.lstore A C.1 rfl (hb C.2.1 hd) rfl hl q) hr
theorem go_astoreN (C : Cx p s m meth c Z own bs mx rt nm) {k : Fin 4} {v : Value} (hd : decode bs pc = .ok (.astore_n k, 1)) (hp : pc + 1 = pc') (hv : v.isRef = true) (hl : storeLocals Ls k.val v = some Ls') (hr : Go p l e R s m args below meth c n0 Q K N h ce sl (mkF m pc' Ls' st)) : Go p l e R s m args below meth c n0 Q K N h ce sl (mkF m pc Ls (v :: st)) := by
  subst hp
  exact Go.step (fun T A _ q => XS.astoreN A C.1 rfl (hb C.2.1 hd) rfl hv hl q) hr
theorem go_astore (C : Cx p s m meth c Z own bs mx rt nm) {k : Nat} {v : Value} (hd : decode bs pc = .ok (.astore k, 2)) (hp : pc + 2 = pc') (hv : v.isRef = true) (hl : storeLocals Ls k v = some Ls') (hr : Go p l e R s m args below meth c n0 Q K N h ce sl (mkF m pc' Ls' st)) : Go p l e R s m args below meth c n0 Q K N h ce sl (mkF m pc Ls (v :: st)) := by
  subst hp
  exact Go.step (fun T A _ q => XS.astore A C.1 rfl (hb C.2.1 hd) rfl hv hl q) hr
theorem go_istoreS (C : Cx p s m meth c Z own bs mx rt nm) {k : Nat} {v : Int32} {o : Slot} (hd : decode bs pc = .ok (.istore k, 2)) (hp : pc + 2 = pc') (hold : Ls[k]? = some o) (ho : One o) (hL : Ls.setIfInBounds k (.val (.int v)) = Ls') (hr : Go p l e R s m args below meth c n0 Q K N h ce sl (mkF m pc' Ls' st)) : Go p l e R s m args below meth c n0 Q K N h ce sl (mkF m pc Ls (.int v :: st)) := by
  subst hp hL
  exact Go.step (fun T A _ q => XS.istoreS A C.1 rfl (hb C.2.1 hd) rfl hold ho q) hr
theorem go_istoreNS (C : Cx p s m meth c Z own bs mx rt nm) {k : Fin 4} {v : Int32} {o : Slot} (hd : decode bs pc = .ok (.istore_n k, 1)) (hp : pc + 1 = pc') (hold : Ls[k.val]? = some o) (ho : One o) (hL : Ls.setIfInBounds k.val (.val (.int v)) = Ls') (hr : Go p l e R s m args below meth c n0 Q K N h ce sl (mkF m pc' Ls' st)) : Go p l e R s m args below meth c n0 Q K N h ce sl (mkF m pc Ls (.int v :: st)) := by
  subst hp hL
  exact Go.step (fun T A _ q => XS.istoreNS A C.1 rfl (hb C.2.1 hd) rfl hold ho q) hr
theorem go_iconst (C : Cx p s m meth c Z own bs mx rt nm) {i : Int} (v : Int32) (hd : decode bs pc = .ok (.iconst i, 1)) (hp : pc + 1 = pc') (hv : Int32.ofInt i = v) (hr : Go p l e R s m args below meth c n0 Q K N h ce sl (mkF m pc' Ls (.int v :: st))) : Go p l e R s m args below meth c n0 Q K N h ce sl (mkF m pc Ls st) := by
  subst hp
  exact Go.step (fun T A _ q => XT.iconstV A C.1 rfl v (hb C.2.1 hd) hv q) hr
theorem go_bipush (C : Cx p s m meth c Z own bs mx rt nm) {i : Int} (v : Int32) (hd : decode bs pc = .ok (.bipush i, 2)) (hp : pc + 2 = pc') (hv : (Int8.ofInt i).toInt32 = v) (hr : Go p l e R s m args below meth c n0 Q K N h ce sl (mkF m pc' Ls (.int v :: st))) : Go p l e R s m args below meth c n0 Q K N h ce sl (mkF m pc Ls st) := by
  subst hp
  exact Go.step (fun T A _ q => XT.bipushV A C.1 rfl v (hb C.2.1 hd) hv q) hr
theorem go_sipush (C : Cx p s m meth c Z own bs mx rt nm) {i : Int} (v : Int32) (hd : decode bs pc = .ok (.sipush i, 3)) (hp : pc + 3 = pc') (hv : (Int16.ofInt i).toInt32 = v) (hr : Go p l e R s m args below meth c n0 Q K N h ce sl (mkF m pc' Ls (.int v :: st))) : Go p l e R s m args below meth c n0 Q K N h ce sl (mkF m pc Ls st) := by
  subst hp
  exact Go.step (fun T A _ q => XT.sipushV A C.1 rfl v (hb C.2.1 hd) hv q) hr
theorem go_lconst (C : Cx p s m meth c Z own bs mx rt nm) {k : Fin 2} (v : Int64) (hd : decode bs pc = .ok (.lconst k, 1)) (hp : pc + 1 = pc') (hv : Int64.ofNat k = v) (hr : Go p l e R s m args below meth c n0 Q K N h ce sl (mkF m pc' Ls (.long v :: st))) : Go p l e R s m args below meth c n0 Q K N h ce sl (mkF m pc Ls st) := by
  subst hp
  exact Go.step (fun T A _ q => XT.lconstV A C.1 rfl v (hb C.2.1 hd) hv q) hr
theorem go_aconst_null (C : Cx p s m meth c Z own bs mx rt nm)  (hd : decode bs pc = .ok (.aconst_null, 1)) (hp : pc + 1 = pc') (hr : Go p l e R s m args below meth c n0 Q K N h ce sl (mkF m pc' Ls (.null :: st))) : Go p l e R s m args below meth c n0 Q K N h ce sl (mkF m pc Ls st) := by
  subst hp
  exact Go.step (fun T A _ q => XS.aconstNull A C.1 rfl (hb C.2.1 hd)  q) hr
theorem go_iinc (C : Cx p s m meth c Z own bs mx rt nm) {k : Nat} {i : Int} {x : Int32} (v : Int32) (hd : decode bs pc = .ok (.iinc k i, 3)) (hp : pc + 3 = pc') (hv : Int32.ofInt i = v) (hl : Ls[k]? = some (.val (.int x))) (hl' : storeLocals Ls k (.int (x + v)) = some Ls') (hr : Go p l e R s m args below meth c n0 Q K N h ce sl (mkF m pc' Ls' st)) : Go p l e R s m args below meth c n0 Q K N h ce sl (mkF m pc Ls st) := by
  subst hp
  exact Go.step (fun T A _ q => XT.iincV A C.1 rfl v (hb C.2.1 hd) hv hl hl' q) hr
theorem go_iadd (C : Cx p s m meth c Z own bs mx rt nm) {x y : Int32} (hd : decode bs pc = .ok (.iadd, 1)) (hp : pc + 1 = pc') (hr : Go p l e R s m args below meth c n0 Q K N h ce sl (mkF m pc' Ls (.int (x + y) :: st))) : Go p l e R s m args below meth c n0 Q K N h ce sl (mkF m pc Ls (.int y :: .int x :: st)) := by
  subst hp
  exact Go.step (fun T A _ q => XS.iadd A C.1 rfl (hb C.2.1 hd) rfl q) hr
theorem go_isub (C : Cx p s m meth c Z own bs mx rt nm) {x y : Int32} (hd : decode bs pc = .ok (.isub, 1)) (hp : pc + 1 = pc') (hr : Go p l e R s m args below meth c n0 Q K N h ce sl (mkF m pc' Ls (.int (x - y) :: st))) : Go p l e R s m args below meth c n0 Q K N h ce sl (mkF m pc Ls (.int y :: .int x :: st)) := by
  subst hp
  exact Go.step (fun T A _ q => XS.isub A C.1 rfl (hb C.2.1 hd) rfl q) hr
theorem go_iand (C : Cx p s m meth c Z own bs mx rt nm) {x y : Int32} (hd : decode bs pc = .ok (.iand, 1)) (hp : pc + 1 = pc') (hr : Go p l e R s m args below meth c n0 Q K N h ce sl (mkF m pc' Ls (.int (x &&& y) :: st))) : Go p l e R s m args below meth c n0 Q K N h ce sl (mkF m pc Ls (.int y :: .int x :: st)) := by
  subst hp
  exact Go.step (fun T A _ q => XS.iand A C.1 rfl (hb C.2.1 hd) rfl q) hr
theorem go_imul (C : Cx p s m meth c Z own bs mx rt nm) {x y : Int32} (hd : decode bs pc = .ok (.imul, 1)) (hp : pc + 1 = pc') (hr : Go p l e R s m args below meth c n0 Q K N h ce sl (mkF m pc' Ls (.int (x * y) :: st))) : Go p l e R s m args below meth c n0 Q K N h ce sl (mkF m pc Ls (.int y :: .int x :: st)) := by
  subst hp
  exact Go.step (fun T A _ q => XS.imul A C.1 rfl (hb C.2.1 hd) rfl q) hr
theorem go_ior (C : Cx p s m meth c Z own bs mx rt nm) {x y : Int32} (hd : decode bs pc = .ok (.ior, 1)) (hp : pc + 1 = pc') (hr : Go p l e R s m args below meth c n0 Q K N h ce sl (mkF m pc' Ls (.int (x ||| y) :: st))) : Go p l e R s m args below meth c n0 Q K N h ce sl (mkF m pc Ls (.int y :: .int x :: st)) := by
  subst hp
  exact Go.step (fun T A _ q => XT.ior A C.1 rfl (hb C.2.1 hd) rfl q) hr
theorem go_ixor (C : Cx p s m meth c Z own bs mx rt nm) {x y : Int32} (hd : decode bs pc = .ok (.ixor, 1)) (hp : pc + 1 = pc') (hr : Go p l e R s m args below meth c n0 Q K N h ce sl (mkF m pc' Ls (.int (x ^^^ y) :: st))) : Go p l e R s m args below meth c n0 Q K N h ce sl (mkF m pc Ls (.int y :: .int x :: st)) := by
  subst hp
  exact Go.step (fun T A _ q => XT.ixor A C.1 rfl (hb C.2.1 hd) rfl q) hr
theorem go_ishl (C : Cx p s m meth c Z own bs mx rt nm) {x y : Int32} (hd : decode bs pc = .ok (.ishl, 1)) (hp : pc + 1 = pc') (hr : Go p l e R s m args below meth c n0 Q K N h ce sl (mkF m pc' Ls (.int (x <<< (y &&& 31)) :: st))) : Go p l e R s m args below meth c n0 Q K N h ce sl (mkF m pc Ls (.int y :: .int x :: st)) := by
  subst hp
  exact Go.step (fun T A _ q => XT.ishl A C.1 rfl (hb C.2.1 hd) rfl q) hr
theorem go_ishr (C : Cx p s m meth c Z own bs mx rt nm) {x y : Int32} (hd : decode bs pc = .ok (.ishr, 1)) (hp : pc + 1 = pc') (hr : Go p l e R s m args below meth c n0 Q K N h ce sl (mkF m pc' Ls (.int (x >>> (y &&& 31)) :: st))) : Go p l e R s m args below meth c n0 Q K N h ce sl (mkF m pc Ls (.int y :: .int x :: st)) := by
  subst hp
  exact Go.step (fun T A _ q => XT.ishr A C.1 rfl (hb C.2.1 hd) rfl q) hr
theorem go_iushr (C : Cx p s m meth c Z own bs mx rt nm) {x y : Int32} (hd : decode bs pc = .ok (.iushr, 1)) (hp : pc + 1 = pc') (hr : Go p l e R s m args below meth c n0 Q K N h ce sl (mkF m pc' Ls (.int (XT.ushr x y) :: st))) : Go p l e R s m args below meth c n0 Q K N h ce sl (mkF m pc Ls (.int y :: .int x :: st)) := by
  subst hp
  exact Go.step (fun T A _ q => XT.iushr A C.1 rfl (hb C.2.1 hd) rfl q) hr
theorem go_ladd (C : Cx p s m meth c Z own bs mx rt nm) {x y : Int64} (hd : decode bs pc = .ok (.ladd, 1)) (hp : pc + 1 = pc') (hr : Go p l e R s m args below meth c n0 Q K N h ce sl (mkF m pc' Ls (.long (x + y) :: st))) : Go p l e R s m args below meth c n0 Q K N h ce sl (mkF m pc Ls (.long y :: .long x :: st)) := by
  subst hp
  exact Go.step (fun T A _ q => XT.ladd A C.1 rfl (hb C.2.1 hd) rfl q) hr
theorem go_lsub (C : Cx p s m meth c Z own bs mx rt nm) {x y : Int64} (hd : decode bs pc = .ok (.lsub, 1)) (hp : pc + 1 = pc') (hr : Go p l e R s m args below meth c n0 Q K N h ce sl (mkF m pc' Ls (.long (x - y) :: st))) : Go p l e R s m args below meth c n0 Q K N h ce sl (mkF m pc Ls (.long y :: .long x :: st)) := by
  subst hp
  exact Go.step (fun T A _ q => XT.lsub A C.1 rfl (hb C.2.1 hd) rfl q) hr
theorem go_land (C : Cx p s m meth c Z own bs mx rt nm) {x y : Int64} (hd : decode bs pc = .ok (.land, 1)) (hp : pc + 1 = pc') (hr : Go p l e R s m args below meth c n0 Q K N h ce sl (mkF m pc' Ls (.long (x &&& y) :: st))) : Go p l e R s m args below meth c n0 Q K N h ce sl (mkF m pc Ls (.long y :: .long x :: st)) := by
  subst hp
  exact Go.step (fun T A _ q => XT.land A C.1 rfl (hb C.2.1 hd) rfl q) hr
theorem go_lmul (C : Cx p s m meth c Z own bs mx rt nm) {x y : Int64} (hd : decode bs pc = .ok (.lmul, 1)) (hp : pc + 1 = pc') (hr : Go p l e R s m args below meth c n0 Q K N h ce sl (mkF m pc' Ls (.long (x * y) :: st))) : Go p l e R s m args below meth c n0 Q K N h ce sl (mkF m pc Ls (.long y :: .long x :: st)) := by
  subst hp
  exact Go.step (fun T A _ q => XT.lmul A C.1 rfl (hb C.2.1 hd) rfl q) hr
theorem go_lor (C : Cx p s m meth c Z own bs mx rt nm) {x y : Int64} (hd : decode bs pc = .ok (.lor, 1)) (hp : pc + 1 = pc') (hr : Go p l e R s m args below meth c n0 Q K N h ce sl (mkF m pc' Ls (.long (x ||| y) :: st))) : Go p l e R s m args below meth c n0 Q K N h ce sl (mkF m pc Ls (.long y :: .long x :: st)) := by
  subst hp
  exact Go.step (fun T A _ q => XT.lor A C.1 rfl (hb C.2.1 hd) rfl q) hr
theorem go_lxor (C : Cx p s m meth c Z own bs mx rt nm) {x y : Int64} (hd : decode bs pc = .ok (.lxor, 1)) (hp : pc + 1 = pc') (hr : Go p l e R s m args below meth c n0 Q K N h ce sl (mkF m pc' Ls (.long (x ^^^ y) :: st))) : Go p l e R s m args below meth c n0 Q K N h ce sl (mkF m pc Ls (.long y :: .long x :: st)) := by
  subst hp
  exact Go.step (fun T A _ q => XT.lxor A C.1 rfl (hb C.2.1 hd) rfl q) hr
theorem go_idiv (C : Cx p s m meth c Z own bs mx rt nm) {x y : Int32} (hd : decode bs pc = .ok (.idiv, 1)) (hp : pc + 1 = pc') (hy : y ≠ 0) (hr : Go p l e R s m args below meth c n0 Q K N h ce sl (mkF m pc' Ls (.int (x / y) :: st))) : Go p l e R s m args below meth c n0 Q K N h ce sl (mkF m pc Ls (.int y :: .int x :: st)) := by
  subst hp
  exact Go.step (fun T A _ q => XS.idiv A C.1 rfl (hb C.2.1 hd) rfl hy q) hr
theorem go_irem (C : Cx p s m meth c Z own bs mx rt nm) {x y : Int32} (hd : decode bs pc = .ok (.irem, 1)) (hp : pc + 1 = pc') (hy : y ≠ 0) (hr : Go p l e R s m args below meth c n0 Q K N h ce sl (mkF m pc' Ls (.int (x % y) :: st))) : Go p l e R s m args below meth c n0 Q K N h ce sl (mkF m pc Ls (.int y :: .int x :: st)) := by
  subst hp
  exact Go.stepX (fun T locs X _ _ q => iremM X C.1 rfl (hb C.2.1 hd) rfl hy q) hr
theorem go_i2l (C : Cx p s m meth c Z own bs mx rt nm) {x : Int32} (hd : decode bs pc = .ok (.i2l, 1)) (hp : pc + 1 = pc') (hr : Go p l e R s m args below meth c n0 Q K N h ce sl (mkF m pc' Ls (.long x.toInt64 :: st))) : Go p l e R s m args below meth c n0 Q K N h ce sl (mkF m pc Ls (.int x :: st)) := by
  subst hp
  exact Go.step (fun T A _ q => XT.i2l A C.1 rfl (hb C.2.1 hd) rfl q) hr
theorem go_l2i (C : Cx p s m meth c Z own bs mx rt nm) {x : Int64} (hd : decode bs pc = .ok (.l2i, 1)) (hp : pc + 1 = pc') (hr : Go p l e R s m args below meth c n0 Q K N h ce sl (mkF m pc' Ls (.int x.toInt32 :: st))) : Go p l e R s m args below meth c n0 Q K N h ce sl (mkF m pc Ls (.long x :: st)) := by
  subst hp
  exact Go.step (fun T A _ q => XT.l2i A C.1 rfl (hb C.2.1 hd) rfl q) hr
theorem go_i2b (C : Cx p s m meth c Z own bs mx rt nm) {x : Int32} (hd : decode bs pc = .ok (.i2b, 1)) (hp : pc + 1 = pc') (hr : Go p l e R s m args below meth c n0 Q K N h ce sl (mkF m pc' Ls (.int x.toInt8.toInt32 :: st))) : Go p l e R s m args below meth c n0 Q K N h ce sl (mkF m pc Ls (.int x :: st)) := by
  subst hp
  exact Go.step (fun T A _ q => XT.i2b A C.1 rfl (hb C.2.1 hd) rfl q) hr
theorem go_i2c (C : Cx p s m meth c Z own bs mx rt nm) {x : Int32} (hd : decode bs pc = .ok (.i2c, 1)) (hp : pc + 1 = pc') (hr : Go p l e R s m args below meth c n0 Q K N h ce sl (mkF m pc' Ls (.int x.toUInt32.toUInt16.toUInt32.toInt32 :: st))) : Go p l e R s m args below meth c n0 Q K N h ce sl (mkF m pc Ls (.int x :: st)) := by
  subst hp
  exact Go.step (fun T A _ q => XT.i2c A C.1 rfl (hb C.2.1 hd) rfl q) hr
theorem go_ineg (C : Cx p s m meth c Z own bs mx rt nm) {x : Int32} (hd : decode bs pc = .ok (.ineg, 1)) (hp : pc + 1 = pc') (hr : Go p l e R s m args below meth c n0 Q K N h ce sl (mkF m pc' Ls (.int (-x) :: st))) : Go p l e R s m args below meth c n0 Q K N h ce sl (mkF m pc Ls (.int x :: st)) := by
  subst hp
  exact Go.step (fun T A _ q => XS.ineg A C.1 rfl (hb C.2.1 hd) rfl q) hr
theorem go_dup (C : Cx p s m meth c Z own bs mx rt nm) {v : Value} (hd : decode bs pc = .ok (.dup, 1)) (hp : pc + 1 = pc') (hc : v.category = 1) (hr : Go p l e R s m args below meth c n0 Q K N h ce sl (mkF m pc' Ls (v :: v :: st))) : Go p l e R s m args below meth c n0 Q K N h ce sl (mkF m pc Ls (v :: st)) := by
  subst hp
  exact Go.step (fun T A _ q => XS.dup A C.1 rfl (hb C.2.1 hd) rfl hc q) hr
theorem go_pop (C : Cx p s m meth c Z own bs mx rt nm) {v : Value} (hd : decode bs pc = .ok (.pop, 1)) (hp : pc + 1 = pc') (hc : v.category = 1) (hr : Go p l e R s m args below meth c n0 Q K N h ce sl (mkF m pc' Ls st)) : Go p l e R s m args below meth c n0 Q K N h ce sl (mkF m pc Ls (v :: st)) := by
  subst hp
  exact Go.step (fun T A _ q => XT.pop A C.1 rfl (hb C.2.1 hd) rfl hc q) hr
theorem go_dup2 (C : Cx p s m meth c Z own bs mx rt nm) {v w : Value} (hd : decode bs pc = .ok (.dup2, 1)) (hp : pc + 1 = pc') (hc : v.category = 1) (hc' : w.category = 1) (hr : Go p l e R s m args below meth c n0 Q K N h ce sl (mkF m pc' Ls (v :: w :: v :: w :: st))) : Go p l e R s m args below meth c n0 Q K N h ce sl (mkF m pc Ls (v :: w :: st)) := by
  subst hp
  exact Go.step (fun T A _ q => XT.dup2 A C.1 rfl (hb C.2.1 hd) rfl hc hc' q) hr
theorem go_dup_x1 (C : Cx p s m meth c Z own bs mx rt nm) {v w : Value} (hd : decode bs pc = .ok (.dup_x1, 1)) (hp : pc + 1 = pc') (hc : v.category = 1) (hc' : w.category = 1) (hr : Go p l e R s m args below meth c n0 Q K N h ce sl (mkF m pc' Ls (v :: w :: v :: st))) : Go p l e R s m args below meth c n0 Q K N h ce sl (mkF m pc Ls (v :: w :: st)) := by
  subst hp
  exact Go.step (fun T A _ q => XT.dupX1 A C.1 rfl (hb C.2.1 hd) rfl hc hc' q) hr
theorem go_lushr (C : Cx p s m meth c Z own bs mx rt nm) {x : Int64} {y : Int32} (hd : decode bs pc = .ok (.lushr, 1)) (hp : pc + 1 = pc') (hr : Go p l e R s m args below meth c n0 Q K N h ce sl (mkF m pc' Ls (.long (XT.ushrL x y) :: st))) : Go p l e R s m args below meth c n0 Q K N h ce sl (mkF m pc Ls (.int y :: .long x :: st)) := by
  subst hp
  exact Go.step (fun T A _ q => XT.lushr A C.1 rfl (hb C.2.1 hd) rfl q) hr
theorem go_lshl (C : Cx p s m meth c Z own bs mx rt nm) {x : Int64} {y : Int32} (hd : decode bs pc = .ok (.lshl, 1)) (hp : pc + 1 = pc') (hr : Go p l e R s m args below meth c n0 Q K N h ce sl (mkF m pc' Ls (.long (x <<< (y.toInt64 &&& 63)) :: st))) : Go p l e R s m args below meth c n0 Q K N h ce sl (mkF m pc Ls (.int y :: .long x :: st)) := by
  subst hp
  exact Go.step (fun T A _ q => XT.lshl A C.1 rfl (hb C.2.1 hd) rfl q) hr
theorem go_ldiv (C : Cx p s m meth c Z own bs mx rt nm) {x y : Int64} (hd : decode bs pc = .ok (.ldiv, 1)) (hp : pc + 1 = pc') (hy : y ≠ 0) (hr : Go p l e R s m args below meth c n0 Q K N h ce sl (mkF m pc' Ls (.long (x / y) :: st))) : Go p l e R s m args below meth c n0 Q K N h ce sl (mkF m pc Ls (.long y :: .long x :: st)) := by
  subst hp
  exact Go.step (fun T A _ q => XT.ldiv A C.1 rfl (hb C.2.1 hd) rfl hy q) hr
theorem go_lrem (C : Cx p s m meth c Z own bs mx rt nm) {x y : Int64} (hd : decode bs pc = .ok (.lrem, 1)) (hp : pc + 1 = pc') (hy : y ≠ 0) (hr : Go p l e R s m args below meth c n0 Q K N h ce sl (mkF m pc' Ls (.long (x - (x / y) * y) :: st))) : Go p l e R s m args below meth c n0 Q K N h ce sl (mkF m pc Ls (.long y :: .long x :: st)) := by
  subst hp
  exact Go.step (fun T A _ q => XT.lrem A C.1 rfl (hb C.2.1 hd) rfl hy q) hr
theorem go_goto (C : Cx p s m meth c Z own bs mx rt nm) {o : Int} (hd : decode bs pc = .ok (.goto o, 3)) (ho : 0 ≤ (pc : Int) + o) (hp : ((pc : Int) + o).toNat = pc') (hr : Go p l e R s m args below meth c n0 Q K N h ce sl (mkF m pc' Ls st)) : Go p l e R s m args below meth c n0 Q K N h ce sl (mkF m pc Ls st) :=
  Go.step (fun T A _ q => XS.goto A C.1 rfl rfl (hb C.2.1 hd) ho hp q) hr
/-- what a comparison says, of integers -/
def cmpP (cd : ClassFile.Cond) (x y : Int) : Prop := match cd with | .eq => x = y | .ne => ¬ x = y | .lt => x < y | .ge => ¬ x < y | .gt => y < x | .le => ¬ y < x
def cmpN (cd : ClassFile.Cond) (x y : Int) : Prop := match cd with | .eq => ¬ x = y | .ne => x = y | .lt => ¬ x < y | .ge => x < y | .gt => ¬ y < x | .le => y < x
theorem cmpN_of {cd : ClassFile.Cond} {x y : Int} (h : ¬ cmpP cd x y) : cmpN cd x y := by
  cases cd <;> simp only [cmpP] at h <;> simp only [cmpN] <;> omega
theorem cmp_t {cd : ClassFile.Cond} {x y : Int32} (h : cmpP cd x.toInt y.toInt) : if_icmp.holds cd x y = true := by
  cases cd <;> simp only [cmpP] at h
  · exact XT.ii_eq_t (int_eq h)
  · exact XT.ii_ne_t fun q => h (by rw [q])
  · exact XT.ii_lt_t (Int32.lt_iff_toInt_lt.mpr h)
  · exact XT.ii_ge_t fun q => h (Int32.lt_iff_toInt_lt.mp q)
  · exact XT.ii_gt_t (Int32.lt_iff_toInt_lt.mpr h)
  · exact XT.ii_le_t fun q => h (Int32.lt_iff_toInt_lt.mp q)
theorem cmp_f {cd : ClassFile.Cond} {x y : Int32} (h : ¬ cmpP cd x.toInt y.toInt) : if_icmp.holds cd x y = false := by
  cases cd <;> simp only [cmpP] at h
  · exact XT.ii_eq_f fun q => h (by rw [q])
  · exact XT.ii_ne_f (int_eq (Classical.not_not.mp h))
  · exact XT.ii_lt_f fun q => h (Int32.lt_iff_toInt_lt.mp q)
  · exact XT.ii_ge_f (Int32.lt_iff_toInt_lt.mpr (Classical.not_not.mp h))
  · exact XT.ii_gt_f fun q => h (Int32.lt_iff_toInt_lt.mp q)
  · exact XT.ii_le_f (Int32.lt_iff_toInt_lt.mpr (Classical.not_not.mp h))
theorem cmpL_t {cd : ClassFile.Cond} {x y : Int64} (h : cmpP cd x.toInt y.toInt) : ifCond.holds cd (XT.cmpL x y) = true := by
  cases cd <;> simp only [cmpP] at h
  · exact XT.ll_eq_t (long_eq h)
  · exact XT.ll_ne_t fun q => h (by rw [q])
  · exact XT.ll_lt_t (Int64.lt_iff_toInt_lt.mpr h)
  · exact XT.ll_ge_t fun q => h (Int64.lt_iff_toInt_lt.mp q)
  · exact XT.ll_gt_t (Int64.lt_iff_toInt_lt.mpr h)
  · exact XT.ll_le_t fun q => h (Int64.lt_iff_toInt_lt.mp q)
theorem cmpL_f {cd : ClassFile.Cond} {x y : Int64} (h : ¬ cmpP cd x.toInt y.toInt) : ifCond.holds cd (XT.cmpL x y) = false := by
  cases cd <;> simp only [cmpP] at h
  · exact XT.ll_eq_f fun q => h (by rw [q])
  · exact XT.ll_ne_f (long_eq (Classical.not_not.mp h))
  · exact XT.ll_lt_f fun q => h (Int64.lt_iff_toInt_lt.mp q)
  · exact XT.ll_ge_f (Int64.lt_iff_toInt_lt.mpr (Classical.not_not.mp h))
  · exact XT.ll_gt_f fun q => h (Int64.lt_iff_toInt_lt.mp q)
  · exact XT.ll_le_f (Int64.lt_iff_toInt_lt.mpr (Classical.not_not.mp h))
theorem go_icmp (C : Cx p s m meth c Z own bs mx rt nm) {cd : ClassFile.Cond} {x y : Int32} {o : Int} {pcN : Nat} (kx ky : Int) (hx : x.toInt = kx) (hy : y.toInt = ky) (hd : decode bs pc = .ok (.if_icmp cd o, 3)) (ho : 0 ≤ (pc : Int) + o) (hp : ((pc : Int) + o).toNat = pc') (hpn : pc + 3 = pcN) (h1 : cmpP cd kx ky → Go p l e R s m args below meth c n0 Q K N h ce sl (mkF m pc' Ls st)) (h2 : cmpN cd kx ky → Go p l e R s m args below meth c n0 Q K N h ce sl (mkF m pcN Ls st)) : Go p l e R s m args below meth c n0 Q K N h ce sl (mkF m pc Ls (.int y :: .int x :: st)) := by
  subst hpn hx hy
  by_cases q : cmpP cd x.toInt y.toInt
  · exact Go.step (fun T A _ k => XS.icmpYes A C.1 rfl rfl (hb C.2.1 hd) rfl (cmp_t q) ho hp k) (h1 q)
  · exact Go.step (fun T A _ k => XS.icmpNo A C.1 rfl (hb C.2.1 hd) rfl (cmp_f q) k) (h2 (cmpN_of q))
theorem go_if0 (C : Cx p s m meth c Z own bs mx rt nm) {cd : ClassFile.Cond} {x : Int32} {o : Int} {pcN : Nat} (kx : Int) (hx : x.toInt = kx) (hd : decode bs pc = .ok (.ifCond cd o, 3)) (ho : 0 ≤ (pc : Int) + o) (hp : ((pc : Int) + o).toNat = pc') (hpn : pc + 3 = pcN) (h1 : cmpP cd kx 0 → Go p l e R s m args below meth c n0 Q K N h ce sl (mkF m pc' Ls st)) (h2 : cmpN cd kx 0 → Go p l e R s m args below meth c n0 Q K N h ce sl (mkF m pcN Ls st)) : Go p l e R s m args below meth c n0 Q K N h ce sl (mkF m pc Ls (.int x :: st)) := by
  subst hpn hx
  by_cases q : cmpP cd x.toInt 0
  · exact Go.step (fun T A _ k => XS.ifYes A C.1 rfl rfl (hb C.2.1 hd) rfl ((if0 cd x).trans (cmp_t q)) ho hp k) (h1 q)
  · exact Go.step (fun T A _ k => XS.ifNo A C.1 rfl (hb C.2.1 hd) rfl ((if0 cd x).trans (cmp_f q)) k) (h2 (cmpN_of q))
theorem go_lcmp (C : Cx p s m meth c Z own bs mx rt nm) {cd : ClassFile.Cond} {x y : Int64} {o : Int} {pc1 pcN : Nat} (kx ky : Int) (hx : x.toInt = kx) (hy : y.toInt = ky) (hd0 : decode bs pc = .ok (.lcmp, 1)) (hp1 : pc + 1 = pc1) (hd : decode bs pc1 = .ok (.ifCond cd o, 3)) (ho : 0 ≤ (pc1 : Int) + o) (hp : ((pc1 : Int) + o).toNat = pc') (hpn : pc1 + 3 = pcN) (h1 : cmpP cd kx ky → Go p l e R s m args below meth c n0 Q K N h ce sl (mkF m pc' Ls st)) (h2 : cmpN cd kx ky → Go p l e R s m args below meth c n0 Q K N h ce sl (mkF m pcN Ls st)) : Go p l e R s m args below meth c n0 Q K N h ce sl (mkF m pc Ls (.long y :: .long x :: st)) := by
  subst hpn hp1 hx hy
  refine Go.step (g' := mkF m (pc + 1) Ls (.int (XT.cmpL x y) :: st)) (fun T A _ k => XT.lcmp A C.1 rfl (hb C.2.1 hd0) rfl k) ?_
  by_cases q : cmpP cd x.toInt y.toInt
  · exact Go.step (fun T A _ k => XS.ifYes A C.1 rfl rfl (hb C.2.1 hd) rfl (cmpL_t q) ho hp k) (h1 q)
  · exact Go.step (fun T A _ k => XS.ifNo A C.1 rfl (hb C.2.1 hd) rfl (cmpL_f q) k) (h2 (cmpN_of q))
theorem go_ifne_b (C : Cx p s m meth c Z own bs mx rt nm) {B : Prop} [Decidable B] {o : Int} {pcN : Nat} (hd : decode bs pc = .ok (.ifCond .ne o, 3)) (ho : 0 ≤ (pc : Int) + o) (hp : ((pc : Int) + o).toNat = pc') (hpn : pc + 3 = pcN) (h1 : B → Go p l e R s m args below meth c n0 Q K N h ce sl (mkF m pc' Ls st)) (h2 : ¬ B → Go p l e R s m args below meth c n0 Q K N h ce sl (mkF m pcN Ls st)) : Go p l e R s m args below meth c n0 Q K N h ce sl (mkF m pc Ls (.int (bi B) :: st)) := by
  refine go_if0 C _ rfl hd ho hp hpn (fun q => h1 ?_) (fun q => h2 ?_)
  · exact Classical.byContradiction fun z => q (by rw [bi_f z]; rfl)
  · exact fun z => by
      have q' : (bi B).toInt = 0 := q
      rw [bi_t z] at q'
      exact absurd q' (by decide)
theorem go_ifeq_b (C : Cx p s m meth c Z own bs mx rt nm) {B : Prop} [Decidable B] {o : Int} {pcN : Nat} (hd : decode bs pc = .ok (.ifCond .eq o, 3)) (ho : 0 ≤ (pc : Int) + o) (hp : ((pc : Int) + o).toNat = pc') (hpn : pc + 3 = pcN) (h1 : ¬ B → Go p l e R s m args below meth c n0 Q K N h ce sl (mkF m pc' Ls st)) (h2 : B → Go p l e R s m args below meth c n0 Q K N h ce sl (mkF m pcN Ls st)) : Go p l e R s m args below meth c n0 Q K N h ce sl (mkF m pc Ls (.int (bi B) :: st)) := by
  refine go_if0 C _ rfl hd ho hp hpn (fun q => h1 ?_) (fun q => h2 ?_)
  · exact fun z => by
      have q' : (bi B).toInt = 0 := q
      rw [bi_t z] at q'
      exact absurd q' (by decide)
  · exact Classical.byContradiction fun z => q (by rw [bi_f z]; rfl)
theorem go_ifnull_r (C : Cx p s m meth c Z own bs mx rt nm) {a : Addr} {o : Int} (hd : decode bs pc = .ok (.ifnull o, 3)) (hp : pc + 3 = pc') (hr : Go p l e R s m args below meth c n0 Q K N h ce sl (mkF m pc' Ls st)) : Go p l e R s m args below meth c n0 Q K N h ce sl (mkF m pc Ls (.ref a :: st)) := by
  subst hp
  exact Go.step (fun T A _ k => XS.ifnullNo A C.1 rfl (hb C.2.1 hd) rfl k) hr
theorem go_ifnull_n (C : Cx p s m meth c Z own bs mx rt nm) {o : Int} (hd : decode bs pc = .ok (.ifnull o, 3)) (ho : 0 ≤ (pc : Int) + o) (hp : ((pc : Int) + o).toNat = pc') (hr : Go p l e R s m args below meth c n0 Q K N h ce sl (mkF m pc' Ls st)) : Go p l e R s m args below meth c n0 Q K N h ce sl (mkF m pc Ls (.null :: st)) :=
  Go.step (fun T A _ k => XS.ifnullYes A C.1 rfl rfl (hb C.2.1 hd) rfl ho hp k) hr
theorem go_ldc (C : Cx p s m meth c Z own bs mx rt nm) {i : Nat} {v : Int32} (w : (Jvm.Cond.constant own i v).before a0 Z = true) (hd : decode bs pc = .ok (.ldc i, 2)) (hp : pc + 2 = pc') (hr : Go p l e R s m args below meth c n0 Q K N h ce sl (mkF m pc' Ls (.int v :: st))) : Go p l e R s m args below meth c n0 Q K N h ce sl (mkF m pc Ls st) := by
  subst hp
  exact Go.stepX (fun T locs X _ _ q => X.ldcI C.1 C.2.2.2.2.1 (mv C.2.2.2.1 w) rfl (hb C.2.1 hd) q) hr
theorem go_ldc2 (C : Cx p s m meth c Z own bs mx rt nm) {i : Nat} {v : Int64} (w : (Jvm.Cond.constantLong own i v).before a0 Z = true) (hd : decode bs pc = .ok (.ldc2_w i, 3)) (hp : pc + 3 = pc') (hr : Go p l e R s m args below meth c n0 Q K N h ce sl (mkF m pc' Ls (.long v :: st))) : Go p l e R s m args below meth c n0 Q K N h ce sl (mkF m pc Ls st) := by
  subst hp
  exact Go.stepX (fun T locs X _ _ q => X.ldc2J C.1 C.2.2.2.2.1 (mv C.2.2.2.1 w) rfl (hb C.2.1 hd) q) hr
theorem go_getfield (C : Cx p s m meth c Z own bs mx rt nm) {O n d : String} {i : Nat} {a : Addr} {v : Value} (w : (Jvm.Cond.fieldLink own i O n d).before a0 Z = true) (F0 : Fld Z h a O n d v) (hd : decode bs pc = .ok (.getfield i, 3)) (hp : pc + 3 = pc') (hr : Go p l e R s m args below meth c n0 Q K N h ce sl (mkF m pc' Ls (v :: st))) : Go p l e R s m args below meth c n0 Q K N h ce sl (mkF m pc Ls (.ref a :: st)) := by
  subst hp
  intro T locs X eT Nn
  obtain ⟨T', X', e', stp⟩ := getF X C.1 C.2.2.2.1 C.2.2.2.2.1 (host := "") (Or.inl w) Via.refl eT F0 (g := mkF m pc Ls (.ref a :: st)) rfl rfl (hb C.2.1 hd)
  obtain ⟨s₂, o, h1, r⟩ := hr T' locs X' e' Nn
  exact ⟨s₂, o, stp _ h1, r⟩
theorem go_putfield (C : Cx p s m meth c Z own bs mx rt nm) {O n d C0 : String} {i kk : Nat} {ty : FieldType} {a : Addr} {v old : Value} (w : (Jvm.Cond.fieldLink own i O n d).before a0 Z = true) (F0 : Fld Z h a O n d old) (E : Exa Z h a C0) (L : (Jvm.Cond.lays C0 O n d).before a0 Z = true ∨ ((Jvm.Cond.laysFinal C0 O n d).before a0 Z = true ∧ own = O ∧ nm = "<init>")) (wi : (Jvm.Cond.instantiable C0 kk).before a0 Z = true) (hty : parseFieldDescriptor d = some ty) (hn : narrow ty v = v) (hf : fits ty v = true) (ha : n0 ≤ a) (hd : decode bs pc = .ok (.putfield i, 3)) (hp : pc + 3 = pc') (hr : ∀ h', Wr h h' a (Jvm.RoadKit.slotOf Z O n d) v → Go p l e R s m args below meth c n0 Q K N h' ce sl (mkF m pc' Ls st)) : Go p l e R s m args below meth c n0 Q K N h ce sl (mkF m pc Ls (v :: .ref a :: st)) := by
  subst hp
  intro T locs X eT Nn
  obtain ⟨T', h', X', e', W', stp⟩ := putF X C.1 C.2.2.2.1 C.2.2.2.2.1 (host := "") (Or.inl w) Via.refl eT F0 E (L.imp id fun q => ⟨q.1, q.2.1, C.2.2.2.2.2.2.2.trans q.2.2⟩) wi hty hn hf (g := mkF m pc Ls (v :: .ref a :: st)) rfl rfl (hb C.2.1 hd)
  obtain ⟨s₂, o, h1, r⟩ := hr h' W' T' _ X' e' (Fr.snoc X' Nn ha)
  exact ⟨s₂, o, stp _ h1, r⟩
theorem go_new (C : Cx p s m meth c Z own bs mx rt nm) {C0 : String} {i k ce' sl' : Nat} (w : (Jvm.Cond.classLink own i C0).before a0 Z = true) (wi : (Jvm.Cond.instantiable C0 k).before a0 Z = true) (wz : (Jvm.Cond.initialized C0).before a0 Z = true) (hd : decode bs pc = .ok (.new i, 3)) (hp : pc + 3 = pc') (hce : ce + 1 = ce') (hsl : sl + k = sl') (hc : ce' ≤ R.cells) (hl : sl' ≤ R.slots)
    (hr : ∀ (h' : Heap) (a : Addr), h.size = a → Ext h h' → Exa Z h' a C0 → (∀ {O nm d : String} {ty : FieldType}, Laid Z a0 C0 O nm d → parseFieldDescriptor d = some ty → Fld Z h' a O nm d (defaultValue ty)) → Go p l e R s m args below meth c n0 Q K N h' ce' sl' (mkF m pc' Ls (.ref a :: st))) : Go p l e R s m args below meth c n0 Q K N h ce sl (mkF m pc Ls st) := by
  subst hp hce hsl
  intro T locs X eT Nn
  obtain ⟨T', h', X', e', E', A', D', -, stp⟩ := newO X C.1 C.2.2.2.1 C.2.2.2.2.1 w wi wz eT (g := mkF m pc Ls st) rfl (hb C.2.1 hd) hc hl
  obtain ⟨s₂, o, h1, r⟩ := hr h' _ rfl E' A' D' T' _ X' e' Nn
  exact ⟨s₂, o, stp _ h1, r⟩
/-- an array of type ty that holds just vs -/
def Av (Z : State) (h : Heap) (a : Addr) (ty : FieldType) (vs : List Value) : Prop := ∃ cl : Cell, Arr Z h a cl ty ∧ cl.slots.toList = vs ∧ vs.length < 2147483648
theorem Av.lt {ty : FieldType} {vs : List Value} {a : Addr} (A : Av Z h a ty vs) : a < h.size := by obtain ⟨c, A, -⟩ := A; exact A.lt
theorem Av.ext {ty : FieldType} {vs : List Value} {a : Addr} {h' : Heap} (A : Av Z h a ty vs) (E : Ext h h') : Av Z h' a ty vs := by obtain ⟨c, A, r⟩ := A; exact ⟨c, A.ext E, r⟩
theorem Av.other {ty : FieldType} {vs : List Value} {a b : Addr} {h' : Heap} {k : Nat} {v : Value} (A : Av Z h b ty vs) (W : Wr h h' a k v) (q : b ≠ a) : Av Z h' b ty vs := by obtain ⟨c, A, r⟩ := A; exact ⟨c, A.other W q, r⟩
theorem Av.keep {ty : FieldType} {vs : List Value} {a : Addr} {h' : Heap} {ws : List Addr} (A : Av Z h a ty vs) (K0 : Keep h h' ws) (q : a ∉ ws) : Av Z h' a ty vs := by obtain ⟨c, A, r⟩ := A; exact ⟨c, ⟨K0.2.1 a c A.1 q, A.2⟩, r⟩
theorem own_ne_arr {C0 : String} {ty : FieldType} {vs : List Value} {a b : Addr} {k : Nat} (F0 : Exa Z h a C0) (wi : (Jvm.Cond.instantiable C0 k).before a0 Z = true) (G : Av Z h b ty vs) : a ≠ b := by obtain ⟨c, G, -⟩ := G; exact ne_arr F0 wi G
theorem clamp_of {j : Int32} {k : Nat} (hj : j.toInt = k) : j.toNatClampNeg = k := by
  show j.toInt.toNat = k
  rw [hj]; rfl
theorem nonneg_of {j : Int32} {k : Nat} (hj : j.toInt = k) : ¬ j < 0 := fun q => by
  have := Int32.lt_iff_toInt_lt.mp q
  rw [hj] at this
  exact absurd this (by show ¬ (k : Int) < 0; omega)
theorem Av.at {ty : FieldType} {vs : List Value} {a : Addr} (A : Av Z h a ty vs) {j : Int32} {k : Nat} (hj : j.toInt = k) (hk : k < vs.length) : ∃ cl : Cell, Arr Z h a cl ty ∧ cl.slots.toList = vs ∧ ¬ (j < 0 ∨ cl.slots.size ≤ j.toNatClampNeg) ∧ cl.slots[j.toNatClampNeg]? = vs[k]? := by
  obtain ⟨cl, A, e1, e2⟩ := A
  refine ⟨cl, A, e1, ?_, ?_⟩
  · rw [clamp_of hj]
    intro q
    rcases q with q | q
    · exact nonneg_of hj q
    · rw [← e1] at hk; simp at hk; omega
  · rw [clamp_of hj, ← e1]; simp
theorem Av.set {ty : FieldType} {vs : List Value} {a : Addr} {h' : Heap} {k : Nat} {v : Value} (A : Av Z h a ty vs) (W : Wr h h' a k v) : Av Z h' a ty (vs.set k v) := by
  obtain ⟨cl, A, e1, e2⟩ := A
  exact ⟨_, A.same W, by rw [← e1]; simp [Cell.setSlot], by simpa using e2⟩
/-- n ints, whichever -/
def Ints (vs : List Value) (n : Nat) : Prop := vs.length = n ∧ ∀ k, k < n → ∃ x : Int32, vs[k]? = some (.int x)
theorem Ints.rep (n : Nat) (x : Int32) : Ints (List.replicate n (.int x)) n := ⟨by simp, fun k hk => ⟨x, by simp [hk]⟩⟩
theorem Ints.set {vs : List Value} {n k : Nat} (x : Int32) (I : Ints vs n) : Ints (vs.set k (.int x)) n := ⟨by simpa using I.1, fun j hj => by
  by_cases q : k = j
  · subst q
    exact ⟨x, by rw [List.getElem?_set_self (by rw [I.1]; exact hj)]⟩
  · obtain ⟨y, hy⟩ := I.2 j hj
    exact ⟨y, by rw [List.getElem?_set_ne q]; exact hy⟩⟩
theorem go_arraylength (C : Cx p s m meth c Z own bs mx rt nm) {ty : FieldType} {vs : List Value} {a : Addr} (A : Av Z h a ty vs) (n : Int32) (hn : n.toInt = vs.length) (hd : decode bs pc = .ok (.arraylength, 1)) (hp : pc + 1 = pc') (hr : Go p l e R s m args below meth c n0 Q K N h ce sl (mkF m pc' Ls (.int n :: st))) : Go p l e R s m args below meth c n0 Q K N h ce sl (mkF m pc Ls (.ref a :: st)) := by
  subst hp
  obtain ⟨cl, A, e1, e2⟩ := A
  have q : cl.slots.size.toInt32 = n := by
    have hl : cl.slots.size = vs.length := by rw [← e1]; simp
    rw [hl]
    refine int_eq ?_
    rw [hn]
    exact Int32.toInt_ofNat_of_lt (by omega)
  exact Go.stepX (fun T locs X eT _ k => X.arraylength C.1 (cell := cl) (by rw [eT]; exact A.1) (State.isArrayOf_alike C.2.2.2.1.alike A.2.1) (g := mkF m pc Ls (.ref a :: st)) rfl rfl (hb C.2.1 hd) _ (by rw [q]; exact k)) hr
theorem go_iaload (C : Cx p s m meth c Z own bs mx rt nm) {vs : List Value} {a : Addr} {j : Int32} (A : Av Z h a .int vs) (k : Nat) (v : Value) (hj : j.toInt = k) (hv : vs[k]? = some v) (hd : decode bs pc = .ok (.iaload, 1)) (hp : pc + 1 = pc') (hr : Go p l e R s m args below meth c n0 Q K N h ce sl (mkF m pc' Ls (v :: st))) : Go p l e R s m args below meth c n0 Q K N h ce sl (mkF m pc Ls (.int j :: .ref a :: st)) := by
  subst hp
  obtain ⟨cl, A, e1, e2, e3⟩ := A.at hj (List.getElem?_eq_some_iff.mp hv).1
  exact Go.stepX (fun T locs X eT _ q => X.iaload C.1 (j := j) (v := v) (by rw [eT]; exact A.1) (State.isArrayOf_alike C.2.2.2.1.alike A.2.1) A.2.2 e2 (e3.trans hv) (g := mkF m pc Ls (.int j :: .ref a :: st)) rfl rfl (hb C.2.1 hd) _ q) hr
theorem go_laload (C : Cx p s m meth c Z own bs mx rt nm) {vs : List Value} {a : Addr} {j : Int32} (A : Av Z h a .long vs) (k : Nat) (v : Value) (hj : j.toInt = k) (hv : vs[k]? = some v) (hd : decode bs pc = .ok (.laload, 1)) (hp : pc + 1 = pc') (hr : Go p l e R s m args below meth c n0 Q K N h ce sl (mkF m pc' Ls (v :: st))) : Go p l e R s m args below meth c n0 Q K N h ce sl (mkF m pc Ls (.int j :: .ref a :: st)) := by
  subst hp
  obtain ⟨cl, A, e1, e2, e3⟩ := A.at hj (List.getElem?_eq_some_iff.mp hv).1
  exact Go.stepX (fun T locs X eT _ q => X.laload C.1 (j := j) (v := v) (by rw [eT]; exact A.1) (State.isArrayOf_alike C.2.2.2.1.alike A.2.1) A.2.2 e2 (e3.trans hv) (g := mkF m pc Ls (.int j :: .ref a :: st)) rfl rfl (hb C.2.1 hd) _ q) hr
theorem go_baload (C : Cx p s m meth c Z own bs mx rt nm) {vs : List Value} {a : Addr} {j : Int32} (A : Av Z h a .byte vs) (k : Nat) (v : Value) (hj : j.toInt = k) (hv : vs[k]? = some v) (hd : decode bs pc = .ok (.baload, 1)) (hp : pc + 1 = pc') (hr : Go p l e R s m args below meth c n0 Q K N h ce sl (mkF m pc' Ls (v :: st))) : Go p l e R s m args below meth c n0 Q K N h ce sl (mkF m pc Ls (.int j :: .ref a :: st)) := by
  subst hp
  obtain ⟨cl, A, e1, e2, e3⟩ := A.at hj (List.getElem?_eq_some_iff.mp hv).1
  exact Go.stepX (fun T locs X eT _ q => X.baloadBytes C.1 (j := j) (v := v) (by rw [eT]; exact A.1) (State.isArrayOf_alike C.2.2.2.1.alike A.2.1) A.2.2 e2 (e3.trans hv) (g := mkF m pc Ls (.int j :: .ref a :: st)) rfl rfl (hb C.2.1 hd) _ q) hr
theorem go_iastore (C : Cx p s m meth c Z own bs mx rt nm) {vs : List Value} {a : Addr} {j : Int32} {x : Int32} (A : Av Z h a .int vs) (k : Nat) (hj : j.toInt = k) (hk : k < vs.length) (ha : n0 ≤ a) (hd : decode bs pc = .ok (.iastore, 1)) (hp : pc + 1 = pc') (hr : ∀ h', Wr h h' a k (.int x) → Av Z h' a .int (vs.set k (.int x)) → Go p l e R s m args below meth c n0 Q K N h' ce sl (mkF m pc' Ls st)) : Go p l e R s m args below meth c n0 Q K N h ce sl (mkF m pc Ls (.int x :: .int j :: .ref a :: st)) := by
  subst hp
  obtain ⟨cl, A1, e1, e2, e3⟩ := A.at hj hk
  intro T locs X eT Nn
  obtain ⟨T', h', X', e', W', stp⟩ := stI X C.1 C.2.2.2.1 eT A1 e2 (g := mkF m pc Ls (.int x :: .int j :: .ref a :: st)) rfl rfl (hb C.2.1 hd)
  have W2 : Wr h h' a k (.int x) := by rw [clamp_of hj] at W'; exact W'
  obtain ⟨s₂, o, h1, r⟩ := hr h' W2 (A.set W2) T' _ X' e' (Fr.snoc X' Nn ha)
  exact ⟨s₂, o, stp _ h1, r⟩
theorem go_lastore (C : Cx p s m meth c Z own bs mx rt nm) {vs : List Value} {a : Addr} {j : Int32} {x : Int64} (A : Av Z h a .long vs) (k : Nat) (hj : j.toInt = k) (hk : k < vs.length) (ha : n0 ≤ a) (hd : decode bs pc = .ok (.lastore, 1)) (hp : pc + 1 = pc') (hr : ∀ h', Wr h h' a k (.long x) → Av Z h' a .long (vs.set k (.long x)) → Go p l e R s m args below meth c n0 Q K N h' ce sl (mkF m pc' Ls st)) : Go p l e R s m args below meth c n0 Q K N h ce sl (mkF m pc Ls (.long x :: .int j :: .ref a :: st)) := by
  subst hp
  obtain ⟨cl, A1, e1, e2, e3⟩ := A.at hj hk
  intro T locs X eT Nn
  obtain ⟨T', h', X', e', W', stp⟩ := stJ X C.1 C.2.2.2.1 eT A1 e2 (g := mkF m pc Ls (.long x :: .int j :: .ref a :: st)) rfl rfl (hb C.2.1 hd)
  have W2 : Wr h h' a k (.long x) := by rw [clamp_of hj] at W'; exact W'
  obtain ⟨s₂, o, h1, r⟩ := hr h' W2 (A.set W2) T' _ X' e' (Fr.snoc X' Nn ha)
  exact ⟨s₂, o, stp _ h1, r⟩
theorem go_bastore (C : Cx p s m meth c Z own bs mx rt nm) {vs : List Value} {a : Addr} {j : Int32} {x : Int32} (A : Av Z h a .byte vs) (k : Nat) (hj : j.toInt = k) (hk : k < vs.length) (x' : Int32) (hx : x.toInt8.toInt32 = x') (ha : n0 ≤ a) (hd : decode bs pc = .ok (.bastore, 1)) (hp : pc + 1 = pc') (hr : ∀ h', Wr h h' a k (.int x') → Av Z h' a .byte (vs.set k (.int x')) → Go p l e R s m args below meth c n0 Q K N h' ce sl (mkF m pc' Ls st)) : Go p l e R s m args below meth c n0 Q K N h ce sl (mkF m pc Ls (.int x :: .int j :: .ref a :: st)) := by
  subst hp hx
  obtain ⟨cl, A1, e1, e2, e3⟩ := A.at hj hk
  intro T locs X eT Nn
  obtain ⟨T', h', X', e', W', stp⟩ := stB X C.1 C.2.2.2.1 eT A1 e2 (g := mkF m pc Ls (.int x :: .int j :: .ref a :: st)) rfl rfl (hb C.2.1 hd)
  have W2 : Wr h h' a k (.int x.toInt8.toInt32) := by rw [clamp_of hj] at W'; exact W'
  obtain ⟨s₂, o, h1, r⟩ := hr h' W2 (A.set W2) T' _ X' e' (Fr.snoc X' Nn ha)
  exact ⟨s₂, o, stp _ h1, r⟩
theorem go_newarray (C : Cx p s m meth c Z own bs mx rt nm) {aty : ArrayType} {ty : FieldType} {n : Int32} {ce' sl' : Nat} (w : (Jvm.Cond.arrayClass ty).before a0 Z = true) (hty : newarray.typeOf aty = ty) (k cap : Nat) (hn : n.toInt = k) (hcap : k ≤ cap) (hc8 : cap * 8 ≤ 536870912) (hce : ce + 1 = ce') (hsl : sl + cap = sl') (hc : ce' ≤ R.cells) (hl : sl' ≤ R.slots) (hd : decode bs pc = .ok (.newarray aty, 2)) (hp : pc + 2 = pc')
    (hr : ∀ (h' : Heap) (a : Addr), h.size = a → Ext h h' → Av Z h' a ty (List.replicate k (defaultValue ty)) → Go p l e R s m args below meth c n0 Q K N h' ce' sl' (mkF m pc' Ls (.ref a :: st))) : Go p l e R s m args below meth c n0 Q K N h ce sl (mkF m pc Ls (.int n :: st)) := by
  subst hp hty hce hsl
  intro T locs X eT Nn
  obtain ⟨T', h', cA, X', e', E', A', stp⟩ := newP X C.1 C.2.2.2.1 w eT (g := mkF m pc Ls (.int n :: st)) rfl (hb C.2.1 hd) rfl (nonneg_of hn) (cap := cap) (by rw [clamp_of hn]; exact hcap) hc8 hc hl
  have hb31 : k < 2147483648 := by have := n.toInt_lt; omega
  obtain ⟨s₂, o, h1, r⟩ := hr h' _ rfl E' ⟨_, A', by simp [newA, clamp_of hn], by simpa using hb31⟩ T' _ X' e' Nn
  exact ⟨s₂, o, stp _ h1, r⟩
theorem go_newarrayE (C : Cx p s m meth c Z own bs mx rt nm) {aty : ArrayType} {ty : FieldType} {n : Int32} {ce' sl' : Nat} {ad : String} (w : (Jvm.Cond.arrayClass ty).before a0 Z = true) (hty : newarray.typeOf aty = ty) (had : "[" ++ ty.toString = ad) (k cap : Nat) (hn : n.toInt = k) (hcap : k ≤ cap) (hc8 : cap * 8 ≤ 536870912) (hce : ce + 1 = ce') (hsl : sl + cap = sl') (hc : ce' ≤ R.cells) (hl : sl' ≤ R.slots) (hd : decode bs pc = .ok (.newarray aty, 2)) (hp : pc + 2 = pc')
    (hr : ∀ (h' : Heap) (a : Addr), h.size = a → Ext h h' → Exa Z h' a ad → Av Z h' a ty (List.replicate k (defaultValue ty)) → Go p l e R s m args below meth c n0 Q K N h' ce' sl' (mkF m pc' Ls (.ref a :: st))) : Go p l e R s m args below meth c n0 Q K N h ce sl (mkF m pc Ls (.int n :: st)) := by
  subst hp hty hce hsl
  intro T locs X eT Nn
  obtain ⟨T', h', cA, X', e', E', A', Q', stp⟩ := newPE X C.1 C.2.2.2.1 w eT (g := mkF m pc Ls (.int n :: st)) rfl (hb C.2.1 hd) rfl (nonneg_of hn) (cap := cap) (by rw [clamp_of hn]; exact hcap) hc8 hc hl had
  have hb31 : k < 2147483648 := by have := n.toInt_lt; omega
  obtain ⟨s₂, o, h1, r⟩ := hr h' _ rfl E' Q' ⟨_, A', by simp [newA, clamp_of hn], by simpa using hb31⟩ T' _ X' e' Nn
  exact ⟨s₂, o, stp _ h1, r⟩
theorem go_clone (C : Cx p s m meth c Z own bs mx rt nm) {i : Nat} {ad : String} {ty : FieldType} {vs : List Value} {a : Addr} {W cap ce' sl' : Nat} (w1 : (Jvm.Cond.methodLink own i ⟨ad, "clone", "()Ljava/lang/Object;"⟩).before a0 Z = true) (w2 : (Jvm.Cond.sameMethod ad "java/lang/Object" "clone" "()Ljava/lang/Object;").before a0 Z = true) (w3 : (Jvm.Cond.native ⟨"java/lang/Object", "clone", "()Ljava/lang/Object;"⟩).before a0 Z = true) (w4 : (Jvm.Cond.instanceMethod ⟨"java/lang/Object", "clone", "()Ljava/lang/Object;"⟩).before a0 Z = true) (w5 : (Jvm.Cond.selects ad ⟨ad, "clone", "()Ljava/lang/Object;"⟩ ⟨"java/lang/Object", "clone", "()Ljava/lang/Object;"⟩).before a0 Z = true) (w6 : (Jvm.Cond.castable ad "java/lang/Cloneable").before a0 Z = true) (A : Av Z h a ty vs) (E : Exa Z h a ad) (hfit : ∀ v ∈ vs, fits ty v = true) (hls : Ls.size = mx) (hf : 1 ≤ R.frames) (hW : wt st = W) (hlo : W + 14 ≤ R.locals) (hcap : vs.length ≤ cap) (hce : ce + 1 = ce') (hsl : sl + cap = sl') (hc : ce' ≤ R.cells) (hl : sl' ≤ R.slots) (hd : decode bs pc = .ok (.invokevirtual i, 3)) (hp : pc + 3 = pc')
    (hr : ∀ (h' : Heap) (b : Addr), h.size = b → Ext h h' → Exa Z h' b ad → Av Z h' b ty vs → Go p l e R s m args below meth c n0 Q K N h' ce' sl' (mkF m pc' Ls (.ref b :: st))) : Go p l e R s m args below meth c n0 Q K N h ce sl (mkF m pc Ls (.ref a :: st)) := by
  subst hp hce hsl
  intro T locs X eT Nn
  obtain ⟨cl, A1, e1, e2⟩ := A
  have hsz : cl.slots.size = vs.length := by rw [← e1]; simp
  have FC : FitC Z cl := fitC_of A1 fun i hi v hv => hfit v (by rw [← e1]; exact Array.mem_toList_iff.mpr (Array.mem_of_getElem? hv))
  obtain ⟨T', h', X', e', E', A', Q', stp⟩ := cloneA X C.1 C.2.2.2.1 C.2.2.2.2.1 w1 w2 w3 w4 w5 w6 eT A1 E FC (g := mkF m pc Ls (.ref a :: st)) rfl (hls.trans C.2.2.1.symm) rfl (hb C.2.1 hd) hf (W := W) (cap := cap) (by show 2 * 0 + wt st ≤ W; omega) hlo (by rw [hsz]; exact hcap) hc hl
  obtain ⟨s₂, o, h1, r⟩ := hr h' _ rfl E' Q' ⟨_, A', e1, e2⟩ T' _ X' e' Nn
  exact ⟨s₂, o, stp _ h1, r⟩
theorem go_checkcast (C : Cx p s m meth c Z own bs mx rt nm) {i : Nat} {K0 : String} {a : Addr} (w : (Jvm.Cond.classLink own i K0).before a0 Z = true) (E : Exa Z h a K0) (hd : decode bs pc = .ok (.checkcast i, 3)) (hp : pc + 3 = pc') (hr : Go p l e R s m args below meth c n0 Q K N h ce sl (mkF m pc' Ls (.ref a :: st))) : Go p l e R s m args below meth c n0 Q K N h ce sl (mkF m pc Ls (.ref a :: st)) := by
  subst hp
  intro T locs X eT Nn
  obtain ⟨T', X', e', stp⟩ := castY X C.1 C.2.2.2.1 C.2.2.2.2.1 w eT (Ins.self E) (g := mkF m pc Ls (.ref a :: st)) rfl rfl (hb C.2.1 hd)
  obtain ⟨s₂, o, h1, r⟩ := hr T' locs X' e' Nn
  exact ⟨s₂, o, stp _ h1, r⟩
theorem go_objinit (C : Cx p s m meth c Z own bs mx rt nm) {i : Nat} {a : Addr} {W : Nat} (w1 : (Jvm.Cond.methodLink own i Lib.objectInit).before a0 Z = true) (w2 : (Jvm.Cond.instanceMethod Lib.objectInit).before a0 Z = true) (w3 : (Jvm.Cond.code Lib.objectInit ⟨#[0xb1]⟩ 1 none).before a0 Z = true) (hls : Ls.size = mx) (hf : 1 ≤ R.frames) (hW : wt st = W) (hl : W + 12 ≤ R.locals) (hd : decode bs pc = .ok (.invokespecial i, 3)) (hp : pc + 3 = pc') (hr : Go p l e R s m args below meth c n0 Q K N h ce sl (mkF m pc' Ls st)) : Go p l e R s m args below meth c n0 Q K N h ce sl (mkF m pc Ls (.ref a :: st)) := by
  subst hp
  intro T locs X eT Nn
  obtain ⟨T', X', e', stp⟩ := initO X C.1 C.2.2.2.1 C.2.2.2.2.1 w1 w2 w3 eT (g := mkF m pc Ls (.ref a :: st)) rfl (hls.trans C.2.2.1.symm) rfl (hb C.2.1 hd) hf (W := W) (by show 2 * 0 + wt st ≤ W; omega) hl
  obtain ⟨s₂, o, h1, r⟩ := hr T' locs X' e' Nn
  exact ⟨s₂, o, stp _ h1, r⟩
theorem back_of_sat {y : MethodName} {cb : ByteArray} {cm : Nat} {cr : Option FieldType} {rm : Room} {as : List Value} {Qc : Option Value → Heap → Prop} {W len : Nat} (S : Sat l Z y cb cm cr rm as h n0 Qc) (hZ : Z.Warmed39 s.vm) (w3 : (Jvm.Cond.initialized y.cls).before a0 Z = true) (w4 : (Jvm.Cond.code y cb cm cr).before a0 Z = true) (hfr : rm.frames + 1 ≤ R.frames) (hlo : W + (cm + 11) + rm.locals ≤ R.locals) :
    Back l R p e below s args y len W (fun A a => a = as.toArray ∧ A.U.heap = h ∧ A.cells + rm.cells ≤ R.cells ∧ A.slots + rm.slots ≤ R.slots) (fun A _ v B => ∃ L, (Qc v B.U.heap ∧ Fr n0 L) ∧ B.locs = A.locs ++ L ∧ B.cells = A.cells + rm.cells ∧ B.slots = A.slots + rm.slots) :=
  backOf (Q := fun v h L => Qc v h ∧ Fr n0 L) (W := W) (S []) hZ w4 w3 hfr hlo
theorem go_static (C : Cx p s m meth c Z own bs mx rt nm) {y : MethodName} {i : Nat} {cb : ByteArray} {cm : Nat} {cr : Option FieldType} {rm : Room} {as rest : List Value} {W : Nat} {ps : List FieldType} {pr : Option FieldType} {ce' sl' : Nat} {Qc : Option Value → Heap → Prop} (S : Sat l Z y cb cm cr rm as h n0 Qc) (w1 : (Jvm.Cond.methodLink own i y).before a0 Z = true) (w2 : (Jvm.Cond.static y).before a0 Z = true) (w3 : (Jvm.Cond.initialized y.cls).before a0 Z = true) (w4 : (Jvm.Cond.code y cb cm cr).before a0 Z = true) (hy : y.cls ≠ "java/lang/invoke/MethodHandle" ∧ y.cls ≠ "java/lang/invoke/VarHandle") (hpd : parseMethodDescriptor y.desc = some ⟨ps, pr⟩) (hlen : as.length = ps.length) (hls : Ls.size = mx) (hW : wt rest = W) (hfr : rm.frames + 1 ≤ R.frames) (hlo : W + (cm + 11) + rm.locals ≤ R.locals) (hce : ce + rm.cells = ce') (hsl : sl + rm.slots = sl') (hcc : ce' ≤ R.cells) (hss : sl' ≤ R.slots) (hd : decode bs pc = .ok (.invokestatic i, 3)) (hp : pc + 3 = pc') (hst : st = as.reverse ++ rest) (hr : ∀ v h', Qc v h' → Go p l e R s m args below meth c n0 Q K N h' ce' sl' (mkF m pc' Ls (v.toList ++ rest))) : Go p l e R s m args below meth c n0 Q K N h ce sl (mkF m pc Ls st) := by
  subst hp hce hsl
  intro T locs X eT Nn
  have hZ := C.2.2.2.1
  obtain ⟨v, _, ⟨T', L', k', n'⟩, -, X', ⟨Lc, hQ, l', y', z'⟩, stp⟩ := Jvm.LawKit.callS X C.1 (y := y) C.2.2.2.2.1 (mvT hZ w1) (mvT hZ w2) (mvT hZ w3) (mvT hZ w4) hy (back_of_sat S hZ w3 w4 hfr hlo) (g := mkF m pc Ls st) rfl (hls.trans C.2.2.1.symm) (argsL := as) (rest := rest) (lenOf hpd hlen) hst (by show 2 * 0 + wt rest ≤ W; omega) (hb C.2.1 hd) (fun _ _ => ⟨rfl, eT, hcc, hss⟩)
  dsimp only [Pt.U, Pt.locs, Pt.cells, Pt.slots] at X' l' y' z' stp hQ
  subst l' y' z'
  obtain ⟨s₂, o, h1, r⟩ := hr v T'.heap hQ.1 T' _ X' rfl (Fr.app Nn hQ.2)
  exact ⟨s₂, o, stp _ h1, r⟩
theorem go_special (C : Cx p s m meth c Z own bs mx rt nm) {y : MethodName} {i : Nat} {cb : ByteArray} {cm : Nat} {rm : Room} {as rest : List Value} {W : Nat} {ps : List FieldType} {pr : Option FieldType} {ce' sl' : Nat} {a : Addr} {Qc : Option Value → Heap → Prop} (S : Sat l Z y cb cm none rm (.ref a :: as) h n0 Qc) (hyn : y.name = "<init>") (w1 : (Jvm.Cond.methodLink own i y).before a0 Z = true) (w2 : (Jvm.Cond.instanceMethod y).before a0 Z = true) (w3 : (Jvm.Cond.initialized y.cls).before a0 Z = true) (w4 : (Jvm.Cond.code y cb cm none).before a0 Z = true) (hy : y.cls ≠ "java/lang/invoke/MethodHandle" ∧ y.cls ≠ "java/lang/invoke/VarHandle") (hpd : parseMethodDescriptor y.desc = some ⟨ps, pr⟩) (hlen : as.length = ps.length) (hls : Ls.size = mx) (hW : wt rest = W) (hfr : rm.frames + 1 ≤ R.frames) (hlo : W + (cm + 11) + rm.locals ≤ R.locals) (hce : ce + rm.cells = ce') (hsl : sl + rm.slots = sl') (hcc : ce' ≤ R.cells) (hss : sl' ≤ R.slots) (hd : decode bs pc = .ok (.invokespecial i, 3)) (hp : pc + 3 = pc') (hst : st = as.reverse ++ .ref a :: rest) (hr : ∀ v h', Qc v h' → Go p l e R s m args below meth c n0 Q K N h' ce' sl' (mkF m pc' Ls (v.toList ++ rest))) : Go p l e R s m args below meth c n0 Q K N h ce sl (mkF m pc Ls st) := by
  subst hp hce hsl
  intro T locs X eT Nn
  have hZ := C.2.2.2.1
  obtain ⟨v, _, ⟨T', L', k', n'⟩, -, X', ⟨Lc, hQ, l', y', z'⟩, stp⟩ := X.specialBack C.1 (y := y) hyn C.2.2.2.2.1 (mvT hZ w1) (mvT hZ w2) (mvT hZ w4) hy (back_of_sat S hZ w3 w4 hfr hlo) (g := mkF m pc Ls st) rfl (hls.trans C.2.2.1.symm) (Steps.refl _) (a := a) (argsL := as) (rest := rest) (lenOf hpd hlen) hst (by show 2 * 0 + wt rest ≤ W; omega) (hb C.2.1 hd) (fun _ _ => ⟨rfl, eT, hcc, hss⟩)
  dsimp only [Pt.U, Pt.locs, Pt.cells, Pt.slots] at X' l' y' z' stp hQ
  subst l' y' z'
  obtain ⟨s₂, o, h1, r⟩ := hr v T'.heap hQ.1 T' _ X' rfl (Fr.app Nn hQ.2)
  exact ⟨s₂, o, stp.trans h1, r⟩
theorem go_virtual (C : Cx p s m meth c Z own bs mx rt nm) {y : MethodName} {i : Nat} {cb : ByteArray} {cm : Nat} {cr : Option FieldType} {rm : Room} {as rest : List Value} {W : Nat} {ps : List FieldType} {pr : Option FieldType} {ce' sl' : Nat} {a : Addr} {C0 : String} {Qc : Option Value → Heap → Prop} (S : Sat l Z y cb cm cr rm (.ref a :: as) h n0 Qc) (E : Exa Z h a C0) (w1 : (Jvm.Cond.methodLink own i y).before a0 Z = true) (w5 : (Jvm.Cond.declares y).before a0 Z = true) (w6 : (Jvm.Cond.selects C0 y y).before a0 Z = true) (w2 : (Jvm.Cond.instanceMethod y).before a0 Z = true) (w3 : (Jvm.Cond.initialized y.cls).before a0 Z = true) (w4 : (Jvm.Cond.code y cb cm cr).before a0 Z = true) (hy : y.cls ≠ "java/lang/invoke/MethodHandle" ∧ y.cls ≠ "java/lang/invoke/VarHandle") (hpd : parseMethodDescriptor y.desc = some ⟨ps, pr⟩) (hlen : as.length = ps.length) (hls : Ls.size = mx) (hW : wt rest = W) (hfr : rm.frames + 1 ≤ R.frames) (hlo : W + (cm + 11) + rm.locals ≤ R.locals) (hce : ce + rm.cells = ce') (hsl : sl + rm.slots = sl') (hcc : ce' ≤ R.cells) (hss : sl' ≤ R.slots) (hd : decode bs pc = .ok (.invokevirtual i, 3)) (hp : pc + 3 = pc') (hst : st = as.reverse ++ .ref a :: rest) (hr : ∀ v h', Qc v h' → Go p l e R s m args below meth c n0 Q K N h' ce' sl' (mkF m pc' Ls (v.toList ++ rest))) : Go p l e R s m args below meth c n0 Q K N h ce sl (mkF m pc Ls st) := by
  subst hp hce hsl
  intro T locs X eT Nn
  have hZ := C.2.2.2.1
  obtain ⟨cq, kq, qa, qb, qc⟩ := isOf hZ eT E
  obtain ⟨v, _, ⟨T', L', k', n'⟩, -, X', ⟨Lc, hQ, l', y', z'⟩, stp⟩ := X.virtualBack C.1 (y := y) (z := y) C.2.2.2.2.1 (mvT hZ w1) (mvT hZ w5) (notFace_of_selects (args := #[]) (mvT hZ w6)) (mvT hZ w6) (mvT hZ w2) hy (back_of_sat S hZ w3 w4 hfr hlo) qa qc (g := mkF m pc Ls st) rfl (hls.trans C.2.2.1.symm) (Steps.refl _) (argsL := as) (rest := rest) (lenOf hpd hlen) hst (by show 2 * 0 + wt rest ≤ W; omega) (hb C.2.1 hd) (fun _ _ => ⟨rfl, eT, hcc, hss⟩)
  dsimp only [Pt.U, Pt.locs, Pt.cells, Pt.slots] at X' l' y' z' stp hQ
  subst l' y' z'
  obtain ⟨s₂, o, h1, r⟩ := hr v T'.heap hQ.1 T' _ X' rfl (Fr.app Nn hQ.2)
  exact ⟨s₂, o, stp.trans h1, r⟩
theorem go_private (C : Cx p s m meth c Z own bs mx rt nm) {y : MethodName} {i : Nat} {cb : ByteArray} {cm : Nat} {cr : Option FieldType} {rm : Room} {as rest : List Value} {W : Nat} {ps : List FieldType} {pr : Option FieldType} {ce' sl' : Nat} {a : Addr} {C0 : String} {Qc : Option Value → Heap → Prop} (S : Sat l Z y cb cm cr rm (.ref a :: as) h n0 Qc) (E : Exa Z h a C0) (w1 : (Jvm.Cond.methodLink own i y).before a0 Z = true) (w5 : (Jvm.Cond.privateMethod y).before a0 Z = true) (w6 : (Jvm.Cond.selects y.cls y y).before a0 Z = true) (w2 : (Jvm.Cond.instanceMethod y).before a0 Z = true) (w3 : (Jvm.Cond.initialized y.cls).before a0 Z = true) (w4 : (Jvm.Cond.code y cb cm cr).before a0 Z = true) (hy : y.cls ≠ "java/lang/invoke/MethodHandle" ∧ y.cls ≠ "java/lang/invoke/VarHandle") (hpd : parseMethodDescriptor y.desc = some ⟨ps, pr⟩) (hlen : as.length = ps.length) (hls : Ls.size = mx) (hW : wt rest = W) (hfr : rm.frames + 1 ≤ R.frames) (hlo : W + (cm + 11) + rm.locals ≤ R.locals) (hce : ce + rm.cells = ce') (hsl : sl + rm.slots = sl') (hcc : ce' ≤ R.cells) (hss : sl' ≤ R.slots) (hd : decode bs pc = .ok (.invokevirtual i, 3)) (hp : pc + 3 = pc') (hst : st = as.reverse ++ .ref a :: rest) (hr : ∀ v h', Qc v h' → Go p l e R s m args below meth c n0 Q K N h' ce' sl' (mkF m pc' Ls (v.toList ++ rest))) : Go p l e R s m args below meth c n0 Q K N h ce sl (mkF m pc Ls st) := by
  subst hp hce hsl
  intro T locs X eT Nn
  have hZ := C.2.2.2.1
  obtain ⟨cell, hc1, hc2⟩ := E.cell
  obtain ⟨v, _, ⟨T', L', k', n'⟩, -, X', ⟨Lc, hQ, l', y', z'⟩, stp⟩ := X.privateBack C.1 (y := y) C.2.2.2.2.1 (mvT hZ w1) (mvT hZ w2) (mvT hZ w6) (Cond.privateMethod_at (args := #[]) (mvP hZ w5)) (mvT hZ w4) hy (back_of_sat S hZ w3 w4 hfr hlo) (g := mkF m pc Ls st) rfl (hls.trans C.2.2.1.symm) (Steps.refl _) (a := a) (by rw [eT]; exact hc1) hc2 (argsL := as) (rest := rest) (lenOf hpd hlen) hst (by show 2 * 0 + wt rest ≤ W; omega) (hb C.2.1 hd) (fun _ _ => ⟨rfl, eT, hcc, hss⟩)
  dsimp only [Pt.U, Pt.locs, Pt.cells, Pt.slots] at X' l' y' z' stp hQ
  subst l' y' z'
  obtain ⟨s₂, o, h1, r⟩ := hr v T'.heap hQ.1 T' _ X' rfl (Fr.app Nn hQ.2)
  exact ⟨s₂, o, stp.trans h1, r⟩
theorem own_selects_private {y : MethodName} {k : Nat} (wi : (Jvm.Cond.instantiable y.cls k).before a0 Z = true) (wp : (Jvm.Cond.privateMethod y).before a0 Z = true) (wm : (Jvm.Cond.instanceMethod y).before a0 Z = true) (hy : y.cls ≠ "java/lang/invoke/MethodHandle" ∧ y.cls ≠ "java/lang/invoke/VarHandle") : (Jvm.Cond.selects y.cls y y).before a0 Z = true := by
  obtain ⟨mk, methM, hnamed, hmethM, hstM, habM⟩ := Cond.instanceMethod_spec wm
  obtain ⟨c1, k1, q1, q2, q3, q4, -⟩ := Cond.instantiable_spec wi
  have hc := findClass_of_methodNamed hnamed
  cases q1.symm.trans hc
  have hf := State.methodFound?_of_named hnamed hy
  have hs : selectMethod {} Z.vm mk.cls mk = .method mk := selectMethod_private hmethM (Cond.privateMethod_at wp mk methM hnamed hmethM)
  have hi : k1.isInterface = false := by
    cases h : k1.isInterface
    · rfl
    · rw [h] at q4; simp at q4
  simp [Cond.before, Cond.holds, Cond.value, hc, hf, hnamed, hs, q2, hi]
theorem go_specialW (C : Cx p s m meth c Z own bs mx rt nm) {y : MethodName} {i : Nat} {cb : ByteArray} {cm : Nat} {rm : Room} {as rest : List Value} {W : Nat} {ps : List FieldType} {pr : Option FieldType} {ce' sl' : Nat} {a : Addr} {Qc : Option Value → Heap → Prop} (S : Sat l Z y cb cm none rm (.ref a :: as) h n0 Qc) (hyn : y.name = "<init>") (w1 : (Jvm.Cond.methodRef own i y).before a0 Z = true) (w2 : (Jvm.Cond.instanceMethod y).before a0 Z = true) (w3 : (Jvm.Cond.initialized y.cls).before a0 Z = true) (w4 : (Jvm.Cond.code y cb cm none).before a0 Z = true) (hy : y.cls ≠ "java/lang/invoke/MethodHandle" ∧ y.cls ≠ "java/lang/invoke/VarHandle") (hpd : parseMethodDescriptor y.desc = some ⟨ps, pr⟩) (hlen : as.length = ps.length) (hls : Ls.size = mx) (hW : wt rest = W) (hfr : rm.frames + 1 ≤ R.frames) (hlo : W + (cm + 11) + rm.locals ≤ R.locals) (hce : ce + rm.cells = ce') (hsl : sl + rm.slots = sl') (hcc : ce' ≤ R.cells) (hss : sl' ≤ R.slots) (hd : decode bs pc = .ok (.invokespecial i, 3)) (hp : pc + 3 = pc') (hst : st = as.reverse ++ .ref a :: rest) (hr : ∀ v h', Qc v h' → Go p l e R s m args below meth c n0 Q K N h' ce' sl' (mkF m pc' Ls (v.toList ++ rest))) : Go p l e R s m args below meth c n0 Q K N h ce sl (mkF m pc Ls st) := by
  subst hp hce hsl
  intro T locs X eT Nn
  have hZ := C.2.2.2.1
  have hT : Z.Warmed39 T.vm := wtrans hZ X.warmed
  obtain ⟨mZ, _, hnZ, -⟩ := Cond.instanceMethod_spec w2
  have w1T : (Jvm.Cond.methodRef own i y).before a0 T = true := (Cond.methodRef_warmed39 hT hnZ hy w1 :)
  obtain ⟨mO, methO, hnO, hmO, hstO, habO⟩ := Cond.instanceMethod_spec (mv (args := a0) hT w2)
  obtain ⟨methO', cO, hmO', hcO, hbO, hlO, -, hlockO, -, hsigO⟩ := Cond.code_spec hnO (mv (args := a0) hT w4)
  cases hmO.symm.trans hmO'
  obtain ⟨kO, hkO, hnameO⟩ := className_of_methodNamed hnO
  obtain ⟨hnameMO, hdescO⟩ := name_of_methodNamed hnO hmO
  have hownT : T.vm.findClass own = some m.cls := by rw [X.warmed.alike.findClass]; exact C.2.2.2.2.1
  obtain ⟨m', c', hf', hready, hfc, hnr⟩ := Cond.methodRef_named e hownT w1T
  have e1 : m' = mO := Option.some.inj (hf'.symm.trans (State.methodFound?_of_named hnO hy))
  subst e1
  have e2 : c' = m'.cls := Option.some.inj (hfc.symm.trans (findClass_of_methodNamed hnO))
  subst e2
  have hfound : lookupSpecial T.vm m'.cls "<init>" methO.desc = .method m' := by rw [hdescO, ← hyn]; exact lookupSpecial_of_named hnO hmO hstO
  have hstep : ∀ target, (∀ acts, Steps p.tables e below (doInvoke e (T.setTop { mkF m pc Ls st with stack := rest }) acts m' (.ref a :: as).toArray).1 target) → Steps p.tables e below (T.setTop (mkF m pc Ls st)) target := fun target hrest => by
    jvm_step X.here [C.1, (hb C.2.1 hd), invokespecial.wp_init (e := e) (s := T) (k := kO) (meth := methO) (m := m') (a := a) (args := as) (rest := rest) (f := mkF m pc Ls st) X.here.top hnr hready hkO hmO (by rw [hnameMO]; exact hyn) hstO habO hfound (lenOf hpd hlen _ hsigO) hst]
    exact hrest
  have B := back_of_sat (p := p) (e := e) (below := below) (args := args) (R := R) (len := 3) S hZ w3 w4 hfr hlo
  obtain ⟨v, ⟨T', L', k', n'⟩, X', ⟨Lc, hQ, l', y', z'⟩, stp⟩ := B m meth c ⟨T, locs, ce, sl⟩ { mkF m pc Ls st with stack := rest } (.invokespecial i) m' (.ref a :: as).toArray X rfl (hls.trans C.2.2.1.symm) (hb C.2.1 hd) (by show 2 * 0 + wt rest ≤ W; omega) hnO ⟨rfl, eT, hcc, hss⟩
  dsimp only [Pt.U, Pt.locs, Pt.cells, Pt.slots] at X' l' y' z' stp hQ
  subst l' y' z'
  obtain ⟨s₂, o, h1, r⟩ := hr v T'.heap hQ.1 T' _ X' rfl (Fr.app Nn hQ.2)
  exact ⟨s₂, o, (hstep _ (fun acts => by rw [doInvoke_state]; exact Steps.refl _)).trans (stp.trans h1), r⟩
theorem go_staticP (C : Cx p s m meth c Z own bs mx rt nm) {y : MethodName} {i : Nat} {cb : ByteArray} {cm : Nat} {cr : Option FieldType} {rm : Room} {as rest : List Value} {W : Nat} {ps : List FieldType} {pr : Option FieldType}  (v : Value) (S : Sat l Z y cb cm cr rm as h n0 (RV fun r h' => r = v ∧ h' = h)) (w1 : (Jvm.Cond.methodLink own i y).before a0 Z = true) (w2 : (Jvm.Cond.static y).before a0 Z = true) (w3 : (Jvm.Cond.initialized y.cls).before a0 Z = true) (w4 : (Jvm.Cond.code y cb cm cr).before a0 Z = true) (hy : y.cls ≠ "java/lang/invoke/MethodHandle" ∧ y.cls ≠ "java/lang/invoke/VarHandle") (hpd : parseMethodDescriptor y.desc = some ⟨ps, pr⟩) (hlen : as.length = ps.length) (hls : Ls.size = mx) (hW : wt rest = W) (hfr : rm.frames + 1 ≤ R.frames) (hlo : W + (cm + 11) + rm.locals ≤ R.locals) (hce : rm.cells = 0) (hsl : rm.slots = 0) (hcc : ce ≤ R.cells) (hss : sl ≤ R.slots) (hd : decode bs pc = .ok (.invokestatic i, 3)) (hp : pc + 3 = pc') (hst : st = as.reverse ++ rest) (hr : Go p l e R s m args below meth c n0 Q K N h ce sl (mkF m pc' Ls (v :: rest))) : Go p l e R s m args below meth c n0 Q K N h ce sl (mkF m pc Ls st) :=
  go_static C S w1 w2 w3 w4 hy hpd hlen hls hW hfr hlo (by rw [hce]; rfl) (by rw [hsl]; rfl) hcc hss hd hp hst (fun w h' hq => by obtain ⟨r, rfl, q1, q2⟩ := hq; rw [q1, q2]; exact hr)
theorem go_staticV (C : Cx p s m meth c Z own bs mx rt nm) {y : MethodName} {i : Nat} {cb : ByteArray} {cm : Nat} {cr : Option FieldType} {rm : Room} {as rest : List Value} {W : Nat} {ps : List FieldType} {pr : Option FieldType} {ce' sl' : Nat}  {P : Value → Heap → Prop} (S : Sat l Z y cb cm cr rm as h n0 (RV P)) (w1 : (Jvm.Cond.methodLink own i y).before a0 Z = true) (w2 : (Jvm.Cond.static y).before a0 Z = true) (w3 : (Jvm.Cond.initialized y.cls).before a0 Z = true) (w4 : (Jvm.Cond.code y cb cm cr).before a0 Z = true) (hy : y.cls ≠ "java/lang/invoke/MethodHandle" ∧ y.cls ≠ "java/lang/invoke/VarHandle") (hpd : parseMethodDescriptor y.desc = some ⟨ps, pr⟩) (hlen : as.length = ps.length) (hls : Ls.size = mx) (hW : wt rest = W) (hfr : rm.frames + 1 ≤ R.frames) (hlo : W + (cm + 11) + rm.locals ≤ R.locals) (hce : ce + rm.cells = ce') (hsl : sl + rm.slots = sl') (hcc : ce' ≤ R.cells) (hss : sl' ≤ R.slots) (hd : decode bs pc = .ok (.invokestatic i, 3)) (hp : pc + 3 = pc') (hst : st = as.reverse ++ rest) (hr : ∀ r h', P r h' → Go p l e R s m args below meth c n0 Q K N h' ce' sl' (mkF m pc' Ls (r :: rest))) : Go p l e R s m args below meth c n0 Q K N h ce sl (mkF m pc Ls st) :=
  go_static C S w1 w2 w3 w4 hy hpd hlen hls hW hfr hlo hce hsl hcc hss hd hp hst (fun v h' hq => by obtain ⟨r, rfl, q⟩ := hq; exact hr r h' q)
theorem go_staticN (C : Cx p s m meth c Z own bs mx rt nm) {y : MethodName} {i : Nat} {cb : ByteArray} {cm : Nat} {cr : Option FieldType} {rm : Room} {as rest : List Value} {W : Nat} {ps : List FieldType} {pr : Option FieldType} {ce' sl' : Nat}  {P : Heap → Prop} (S : Sat l Z y cb cm cr rm as h n0 (RN P)) (w1 : (Jvm.Cond.methodLink own i y).before a0 Z = true) (w2 : (Jvm.Cond.static y).before a0 Z = true) (w3 : (Jvm.Cond.initialized y.cls).before a0 Z = true) (w4 : (Jvm.Cond.code y cb cm cr).before a0 Z = true) (hy : y.cls ≠ "java/lang/invoke/MethodHandle" ∧ y.cls ≠ "java/lang/invoke/VarHandle") (hpd : parseMethodDescriptor y.desc = some ⟨ps, pr⟩) (hlen : as.length = ps.length) (hls : Ls.size = mx) (hW : wt rest = W) (hfr : rm.frames + 1 ≤ R.frames) (hlo : W + (cm + 11) + rm.locals ≤ R.locals) (hce : ce + rm.cells = ce') (hsl : sl + rm.slots = sl') (hcc : ce' ≤ R.cells) (hss : sl' ≤ R.slots) (hd : decode bs pc = .ok (.invokestatic i, 3)) (hp : pc + 3 = pc') (hst : st = as.reverse ++ rest) (hr : ∀ h', P h' → Go p l e R s m args below meth c n0 Q K N h' ce' sl' (mkF m pc' Ls rest)) : Go p l e R s m args below meth c n0 Q K N h ce sl (mkF m pc Ls st) :=
  go_static C S w1 w2 w3 w4 hy hpd hlen hls hW hfr hlo hce hsl hcc hss hd hp hst (fun v h' hq => by obtain ⟨rfl, q⟩ := hq; exact hr h' q)
theorem go_virtualP (C : Cx p s m meth c Z own bs mx rt nm) {y : MethodName} {i : Nat} {cb : ByteArray} {cm : Nat} {cr : Option FieldType} {rm : Room} {as rest : List Value} {W : Nat} {ps : List FieldType} {pr : Option FieldType} {a : Addr} {C0 : String} (v : Value) (S : Sat l Z y cb cm cr rm (.ref a :: as) h n0 (RV fun r h' => r = v ∧ h' = h)) (E : Exa Z h a C0) (w1 : (Jvm.Cond.methodLink own i y).before a0 Z = true) (w5 : (Jvm.Cond.declares y).before a0 Z = true) (w6 : (Jvm.Cond.selects C0 y y).before a0 Z = true) (w2 : (Jvm.Cond.instanceMethod y).before a0 Z = true) (w3 : (Jvm.Cond.initialized y.cls).before a0 Z = true) (w4 : (Jvm.Cond.code y cb cm cr).before a0 Z = true) (hy : y.cls ≠ "java/lang/invoke/MethodHandle" ∧ y.cls ≠ "java/lang/invoke/VarHandle") (hpd : parseMethodDescriptor y.desc = some ⟨ps, pr⟩) (hlen : as.length = ps.length) (hls : Ls.size = mx) (hW : wt rest = W) (hfr : rm.frames + 1 ≤ R.frames) (hlo : W + (cm + 11) + rm.locals ≤ R.locals) (hce : rm.cells = 0) (hsl : rm.slots = 0) (hcc : ce ≤ R.cells) (hss : sl ≤ R.slots) (hd : decode bs pc = .ok (.invokevirtual i, 3)) (hp : pc + 3 = pc') (hst : st = as.reverse ++ .ref a :: rest) (hr : Go p l e R s m args below meth c n0 Q K N h ce sl (mkF m pc' Ls (v :: rest))) : Go p l e R s m args below meth c n0 Q K N h ce sl (mkF m pc Ls st) :=
  go_virtual C S E w1 w5 w6 w2 w3 w4 hy hpd hlen hls hW hfr hlo (by rw [hce]; rfl) (by rw [hsl]; rfl) hcc hss hd hp hst (fun w h' hq => by obtain ⟨r, rfl, q1, q2⟩ := hq; rw [q1, q2]; exact hr)
theorem go_virtualV (C : Cx p s m meth c Z own bs mx rt nm) {y : MethodName} {i : Nat} {cb : ByteArray} {cm : Nat} {cr : Option FieldType} {rm : Room} {as rest : List Value} {W : Nat} {ps : List FieldType} {pr : Option FieldType} {ce' sl' : Nat} {a : Addr} {C0 : String} {P : Value → Heap → Prop} (S : Sat l Z y cb cm cr rm (.ref a :: as) h n0 (RV P)) (E : Exa Z h a C0) (w1 : (Jvm.Cond.methodLink own i y).before a0 Z = true) (w5 : (Jvm.Cond.declares y).before a0 Z = true) (w6 : (Jvm.Cond.selects C0 y y).before a0 Z = true) (w2 : (Jvm.Cond.instanceMethod y).before a0 Z = true) (w3 : (Jvm.Cond.initialized y.cls).before a0 Z = true) (w4 : (Jvm.Cond.code y cb cm cr).before a0 Z = true) (hy : y.cls ≠ "java/lang/invoke/MethodHandle" ∧ y.cls ≠ "java/lang/invoke/VarHandle") (hpd : parseMethodDescriptor y.desc = some ⟨ps, pr⟩) (hlen : as.length = ps.length) (hls : Ls.size = mx) (hW : wt rest = W) (hfr : rm.frames + 1 ≤ R.frames) (hlo : W + (cm + 11) + rm.locals ≤ R.locals) (hce : ce + rm.cells = ce') (hsl : sl + rm.slots = sl') (hcc : ce' ≤ R.cells) (hss : sl' ≤ R.slots) (hd : decode bs pc = .ok (.invokevirtual i, 3)) (hp : pc + 3 = pc') (hst : st = as.reverse ++ .ref a :: rest) (hr : ∀ r h', P r h' → Go p l e R s m args below meth c n0 Q K N h' ce' sl' (mkF m pc' Ls (r :: rest))) : Go p l e R s m args below meth c n0 Q K N h ce sl (mkF m pc Ls st) :=
  go_virtual C S E w1 w5 w6 w2 w3 w4 hy hpd hlen hls hW hfr hlo hce hsl hcc hss hd hp hst (fun v h' hq => by obtain ⟨r, rfl, q⟩ := hq; exact hr r h' q)
theorem go_virtualN (C : Cx p s m meth c Z own bs mx rt nm) {y : MethodName} {i : Nat} {cb : ByteArray} {cm : Nat} {cr : Option FieldType} {rm : Room} {as rest : List Value} {W : Nat} {ps : List FieldType} {pr : Option FieldType} {ce' sl' : Nat} {a : Addr} {C0 : String} {P : Heap → Prop} (S : Sat l Z y cb cm cr rm (.ref a :: as) h n0 (RN P)) (E : Exa Z h a C0) (w1 : (Jvm.Cond.methodLink own i y).before a0 Z = true) (w5 : (Jvm.Cond.declares y).before a0 Z = true) (w6 : (Jvm.Cond.selects C0 y y).before a0 Z = true) (w2 : (Jvm.Cond.instanceMethod y).before a0 Z = true) (w3 : (Jvm.Cond.initialized y.cls).before a0 Z = true) (w4 : (Jvm.Cond.code y cb cm cr).before a0 Z = true) (hy : y.cls ≠ "java/lang/invoke/MethodHandle" ∧ y.cls ≠ "java/lang/invoke/VarHandle") (hpd : parseMethodDescriptor y.desc = some ⟨ps, pr⟩) (hlen : as.length = ps.length) (hls : Ls.size = mx) (hW : wt rest = W) (hfr : rm.frames + 1 ≤ R.frames) (hlo : W + (cm + 11) + rm.locals ≤ R.locals) (hce : ce + rm.cells = ce') (hsl : sl + rm.slots = sl') (hcc : ce' ≤ R.cells) (hss : sl' ≤ R.slots) (hd : decode bs pc = .ok (.invokevirtual i, 3)) (hp : pc + 3 = pc') (hst : st = as.reverse ++ .ref a :: rest) (hr : ∀ h', P h' → Go p l e R s m args below meth c n0 Q K N h' ce' sl' (mkF m pc' Ls rest)) : Go p l e R s m args below meth c n0 Q K N h ce sl (mkF m pc Ls st) :=
  go_virtual C S E w1 w5 w6 w2 w3 w4 hy hpd hlen hls hW hfr hlo hce hsl hcc hss hd hp hst (fun v h' hq => by obtain ⟨rfl, q⟩ := hq; exact hr h' q)
theorem go_privateP (C : Cx p s m meth c Z own bs mx rt nm) {y : MethodName} {i : Nat} {cb : ByteArray} {cm : Nat} {cr : Option FieldType} {rm : Room} {as rest : List Value} {W : Nat} {ps : List FieldType} {pr : Option FieldType} {a : Addr} {C0 : String} (v : Value) (S : Sat l Z y cb cm cr rm (.ref a :: as) h n0 (RV fun r h' => r = v ∧ h' = h)) (E : Exa Z h a C0) (w1 : (Jvm.Cond.methodLink own i y).before a0 Z = true) (w5 : (Jvm.Cond.privateMethod y).before a0 Z = true) (w6 : (Jvm.Cond.selects y.cls y y).before a0 Z = true) (w2 : (Jvm.Cond.instanceMethod y).before a0 Z = true) (w3 : (Jvm.Cond.initialized y.cls).before a0 Z = true) (w4 : (Jvm.Cond.code y cb cm cr).before a0 Z = true) (hy : y.cls ≠ "java/lang/invoke/MethodHandle" ∧ y.cls ≠ "java/lang/invoke/VarHandle") (hpd : parseMethodDescriptor y.desc = some ⟨ps, pr⟩) (hlen : as.length = ps.length) (hls : Ls.size = mx) (hW : wt rest = W) (hfr : rm.frames + 1 ≤ R.frames) (hlo : W + (cm + 11) + rm.locals ≤ R.locals) (hce : rm.cells = 0) (hsl : rm.slots = 0) (hcc : ce ≤ R.cells) (hss : sl ≤ R.slots) (hd : decode bs pc = .ok (.invokevirtual i, 3)) (hp : pc + 3 = pc') (hst : st = as.reverse ++ .ref a :: rest) (hr : Go p l e R s m args below meth c n0 Q K N h ce sl (mkF m pc' Ls (v :: rest))) : Go p l e R s m args below meth c n0 Q K N h ce sl (mkF m pc Ls st) :=
  go_private C S E w1 w5 w6 w2 w3 w4 hy hpd hlen hls hW hfr hlo (by rw [hce]; rfl) (by rw [hsl]; rfl) hcc hss hd hp hst (fun w h' hq => by obtain ⟨r, rfl, q1, q2⟩ := hq; rw [q1, q2]; exact hr)
theorem go_privateV (C : Cx p s m meth c Z own bs mx rt nm) {y : MethodName} {i : Nat} {cb : ByteArray} {cm : Nat} {cr : Option FieldType} {rm : Room} {as rest : List Value} {W : Nat} {ps : List FieldType} {pr : Option FieldType} {ce' sl' : Nat} {a : Addr} {C0 : String} {P : Value → Heap → Prop} (S : Sat l Z y cb cm cr rm (.ref a :: as) h n0 (RV P)) (E : Exa Z h a C0) (w1 : (Jvm.Cond.methodLink own i y).before a0 Z = true) (w5 : (Jvm.Cond.privateMethod y).before a0 Z = true) (w6 : (Jvm.Cond.selects y.cls y y).before a0 Z = true) (w2 : (Jvm.Cond.instanceMethod y).before a0 Z = true) (w3 : (Jvm.Cond.initialized y.cls).before a0 Z = true) (w4 : (Jvm.Cond.code y cb cm cr).before a0 Z = true) (hy : y.cls ≠ "java/lang/invoke/MethodHandle" ∧ y.cls ≠ "java/lang/invoke/VarHandle") (hpd : parseMethodDescriptor y.desc = some ⟨ps, pr⟩) (hlen : as.length = ps.length) (hls : Ls.size = mx) (hW : wt rest = W) (hfr : rm.frames + 1 ≤ R.frames) (hlo : W + (cm + 11) + rm.locals ≤ R.locals) (hce : ce + rm.cells = ce') (hsl : sl + rm.slots = sl') (hcc : ce' ≤ R.cells) (hss : sl' ≤ R.slots) (hd : decode bs pc = .ok (.invokevirtual i, 3)) (hp : pc + 3 = pc') (hst : st = as.reverse ++ .ref a :: rest) (hr : ∀ r h', P r h' → Go p l e R s m args below meth c n0 Q K N h' ce' sl' (mkF m pc' Ls (r :: rest))) : Go p l e R s m args below meth c n0 Q K N h ce sl (mkF m pc Ls st) :=
  go_private C S E w1 w5 w6 w2 w3 w4 hy hpd hlen hls hW hfr hlo hce hsl hcc hss hd hp hst (fun v h' hq => by obtain ⟨r, rfl, q⟩ := hq; exact hr r h' q)
theorem go_privateN (C : Cx p s m meth c Z own bs mx rt nm) {y : MethodName} {i : Nat} {cb : ByteArray} {cm : Nat} {cr : Option FieldType} {rm : Room} {as rest : List Value} {W : Nat} {ps : List FieldType} {pr : Option FieldType} {ce' sl' : Nat} {a : Addr} {C0 : String} {P : Heap → Prop} (S : Sat l Z y cb cm cr rm (.ref a :: as) h n0 (RN P)) (E : Exa Z h a C0) (w1 : (Jvm.Cond.methodLink own i y).before a0 Z = true) (w5 : (Jvm.Cond.privateMethod y).before a0 Z = true) (w6 : (Jvm.Cond.selects y.cls y y).before a0 Z = true) (w2 : (Jvm.Cond.instanceMethod y).before a0 Z = true) (w3 : (Jvm.Cond.initialized y.cls).before a0 Z = true) (w4 : (Jvm.Cond.code y cb cm cr).before a0 Z = true) (hy : y.cls ≠ "java/lang/invoke/MethodHandle" ∧ y.cls ≠ "java/lang/invoke/VarHandle") (hpd : parseMethodDescriptor y.desc = some ⟨ps, pr⟩) (hlen : as.length = ps.length) (hls : Ls.size = mx) (hW : wt rest = W) (hfr : rm.frames + 1 ≤ R.frames) (hlo : W + (cm + 11) + rm.locals ≤ R.locals) (hce : ce + rm.cells = ce') (hsl : sl + rm.slots = sl') (hcc : ce' ≤ R.cells) (hss : sl' ≤ R.slots) (hd : decode bs pc = .ok (.invokevirtual i, 3)) (hp : pc + 3 = pc') (hst : st = as.reverse ++ .ref a :: rest) (hr : ∀ h', P h' → Go p l e R s m args below meth c n0 Q K N h' ce' sl' (mkF m pc' Ls rest)) : Go p l e R s m args below meth c n0 Q K N h ce sl (mkF m pc Ls st) :=
  go_private C S E w1 w5 w6 w2 w3 w4 hy hpd hlen hls hW hfr hlo hce hsl hcc hss hd hp hst (fun v h' hq => by obtain ⟨rfl, q⟩ := hq; exact hr h' q)
theorem go_specialV (C : Cx p s m meth c Z own bs mx rt nm) {y : MethodName} {i : Nat} {cb : ByteArray} {cm : Nat} {rm : Room} {as rest : List Value} {W : Nat} {ps : List FieldType} {pr : Option FieldType} {ce' sl' : Nat} {a : Addr} {P : Value → Heap → Prop} (S : Sat l Z y cb cm none rm (.ref a :: as) h n0 (RV P)) (hyn : y.name = "<init>") (w1 : (Jvm.Cond.methodLink own i y).before a0 Z = true) (w2 : (Jvm.Cond.instanceMethod y).before a0 Z = true) (w3 : (Jvm.Cond.initialized y.cls).before a0 Z = true) (w4 : (Jvm.Cond.code y cb cm none).before a0 Z = true) (hy : y.cls ≠ "java/lang/invoke/MethodHandle" ∧ y.cls ≠ "java/lang/invoke/VarHandle") (hpd : parseMethodDescriptor y.desc = some ⟨ps, pr⟩) (hlen : as.length = ps.length) (hls : Ls.size = mx) (hW : wt rest = W) (hfr : rm.frames + 1 ≤ R.frames) (hlo : W + (cm + 11) + rm.locals ≤ R.locals) (hce : ce + rm.cells = ce') (hsl : sl + rm.slots = sl') (hcc : ce' ≤ R.cells) (hss : sl' ≤ R.slots) (hd : decode bs pc = .ok (.invokespecial i, 3)) (hp : pc + 3 = pc') (hst : st = as.reverse ++ .ref a :: rest) (hr : ∀ r h', P r h' → Go p l e R s m args below meth c n0 Q K N h' ce' sl' (mkF m pc' Ls (r :: rest))) : Go p l e R s m args below meth c n0 Q K N h ce sl (mkF m pc Ls st) :=
  go_special C S hyn w1 w2 w3 w4 hy hpd hlen hls hW hfr hlo hce hsl hcc hss hd hp hst (fun v h' hq => by obtain ⟨r, rfl, q⟩ := hq; exact hr r h' q)
theorem go_specialN (C : Cx p s m meth c Z own bs mx rt nm) {y : MethodName} {i : Nat} {cb : ByteArray} {cm : Nat} {rm : Room} {as rest : List Value} {W : Nat} {ps : List FieldType} {pr : Option FieldType} {ce' sl' : Nat} {a : Addr} {P : Heap → Prop} (S : Sat l Z y cb cm none rm (.ref a :: as) h n0 (RN P)) (hyn : y.name = "<init>") (w1 : (Jvm.Cond.methodLink own i y).before a0 Z = true) (w2 : (Jvm.Cond.instanceMethod y).before a0 Z = true) (w3 : (Jvm.Cond.initialized y.cls).before a0 Z = true) (w4 : (Jvm.Cond.code y cb cm none).before a0 Z = true) (hy : y.cls ≠ "java/lang/invoke/MethodHandle" ∧ y.cls ≠ "java/lang/invoke/VarHandle") (hpd : parseMethodDescriptor y.desc = some ⟨ps, pr⟩) (hlen : as.length = ps.length) (hls : Ls.size = mx) (hW : wt rest = W) (hfr : rm.frames + 1 ≤ R.frames) (hlo : W + (cm + 11) + rm.locals ≤ R.locals) (hce : ce + rm.cells = ce') (hsl : sl + rm.slots = sl') (hcc : ce' ≤ R.cells) (hss : sl' ≤ R.slots) (hd : decode bs pc = .ok (.invokespecial i, 3)) (hp : pc + 3 = pc') (hst : st = as.reverse ++ .ref a :: rest) (hr : ∀ h', P h' → Go p l e R s m args below meth c n0 Q K N h' ce' sl' (mkF m pc' Ls rest)) : Go p l e R s m args below meth c n0 Q K N h ce sl (mkF m pc Ls st) :=
  go_special C S hyn w1 w2 w3 w4 hy hpd hlen hls hW hfr hlo hce hsl hcc hss hd hp hst (fun v h' hq => by obtain ⟨rfl, q⟩ := hq; exact hr h' q)
theorem go_specialWV (C : Cx p s m meth c Z own bs mx rt nm) {y : MethodName} {i : Nat} {cb : ByteArray} {cm : Nat} {rm : Room} {as rest : List Value} {W : Nat} {ps : List FieldType} {pr : Option FieldType} {ce' sl' : Nat} {a : Addr} {P : Value → Heap → Prop} (S : Sat l Z y cb cm none rm (.ref a :: as) h n0 (RV P)) (hyn : y.name = "<init>") (w1 : (Jvm.Cond.methodRef own i y).before a0 Z = true) (w2 : (Jvm.Cond.instanceMethod y).before a0 Z = true) (w3 : (Jvm.Cond.initialized y.cls).before a0 Z = true) (w4 : (Jvm.Cond.code y cb cm none).before a0 Z = true) (hy : y.cls ≠ "java/lang/invoke/MethodHandle" ∧ y.cls ≠ "java/lang/invoke/VarHandle") (hpd : parseMethodDescriptor y.desc = some ⟨ps, pr⟩) (hlen : as.length = ps.length) (hls : Ls.size = mx) (hW : wt rest = W) (hfr : rm.frames + 1 ≤ R.frames) (hlo : W + (cm + 11) + rm.locals ≤ R.locals) (hce : ce + rm.cells = ce') (hsl : sl + rm.slots = sl') (hcc : ce' ≤ R.cells) (hss : sl' ≤ R.slots) (hd : decode bs pc = .ok (.invokespecial i, 3)) (hp : pc + 3 = pc') (hst : st = as.reverse ++ .ref a :: rest) (hr : ∀ r h', P r h' → Go p l e R s m args below meth c n0 Q K N h' ce' sl' (mkF m pc' Ls (r :: rest))) : Go p l e R s m args below meth c n0 Q K N h ce sl (mkF m pc Ls st) :=
  go_specialW C S hyn w1 w2 w3 w4 hy hpd hlen hls hW hfr hlo hce hsl hcc hss hd hp hst (fun v h' hq => by obtain ⟨r, rfl, q⟩ := hq; exact hr r h' q)
theorem go_specialWN (C : Cx p s m meth c Z own bs mx rt nm) {y : MethodName} {i : Nat} {cb : ByteArray} {cm : Nat} {rm : Room} {as rest : List Value} {W : Nat} {ps : List FieldType} {pr : Option FieldType} {ce' sl' : Nat} {a : Addr} {P : Heap → Prop} (S : Sat l Z y cb cm none rm (.ref a :: as) h n0 (RN P)) (hyn : y.name = "<init>") (w1 : (Jvm.Cond.methodRef own i y).before a0 Z = true) (w2 : (Jvm.Cond.instanceMethod y).before a0 Z = true) (w3 : (Jvm.Cond.initialized y.cls).before a0 Z = true) (w4 : (Jvm.Cond.code y cb cm none).before a0 Z = true) (hy : y.cls ≠ "java/lang/invoke/MethodHandle" ∧ y.cls ≠ "java/lang/invoke/VarHandle") (hpd : parseMethodDescriptor y.desc = some ⟨ps, pr⟩) (hlen : as.length = ps.length) (hls : Ls.size = mx) (hW : wt rest = W) (hfr : rm.frames + 1 ≤ R.frames) (hlo : W + (cm + 11) + rm.locals ≤ R.locals) (hce : ce + rm.cells = ce') (hsl : sl + rm.slots = sl') (hcc : ce' ≤ R.cells) (hss : sl' ≤ R.slots) (hd : decode bs pc = .ok (.invokespecial i, 3)) (hp : pc + 3 = pc') (hst : st = as.reverse ++ .ref a :: rest) (hr : ∀ h', P h' → Go p l e R s m args below meth c n0 Q K N h' ce' sl' (mkF m pc' Ls rest)) : Go p l e R s m args below meth c n0 Q K N h ce sl (mkF m pc Ls st) :=
  go_specialW C S hyn w1 w2 w3 w4 hy hpd hlen hls hW hfr hlo hce hsl hcc hss hd hp hst (fun v h' hq => by obtain ⟨rfl, q⟩ := hq; exact hr h' q)
theorem go_ireturnI (C : Cx p s m meth c Z own bs mx rt nm) {z : Int32} (hrt : rt = some .int) (hd : decode bs pc = .ok (.ireturn, 1)) (hk : ce ≤ K) (hn : sl ≤ N) (hq : Q (some (.int z)) h) : Go p l e R s m args below meth c n0 Q K N h ce sl (mkF m pc Ls [.int z]) := by
  subst hrt
  intro T locs X eT Nn
  obtain ⟨fs, hr, hrun, hended, hW, hsame⟩ := X.leave (v := some (.int z)) (fun q => by first | rfl | (rw [C.2.2.2.2.2.1] at q; cases q)) C.2.2.2.2.2.2.1
  refine ⟨_, _, X.ireturnOut C.1 C.2.2.2.2.2.1 rfl (Or.inl rfl) (hb C.2.1 hd) hr, hrun, hended, _, _, rfl, ⟨?_, Nn⟩, ⟨_, rfl⟩, hW, hsame.mono hk hn⟩
  show Q (some (.int z)) T.heap
  rw [eT]; exact hq
theorem go_lreturn (C : Cx p s m meth c Z own bs mx rt nm) {z : Int64} (hrt : rt = some .long) (hd : decode bs pc = .ok (.lreturn, 1)) (hk : ce ≤ K) (hn : sl ≤ N) (hq : Q (some (.long z)) h) : Go p l e R s m args below meth c n0 Q K N h ce sl (mkF m pc Ls [.long z]) := by
  subst hrt
  intro T locs X eT Nn
  obtain ⟨fs, hr, hrun, hended, hW, hsame⟩ := X.leave (v := some (.long z)) (fun q => by first | rfl | (rw [C.2.2.2.2.2.1] at q; cases q)) C.2.2.2.2.2.2.1
  refine ⟨_, _, Jvm.Stand.lreturnOut X C.1 C.2.2.2.2.2.1 (hb C.2.1 hd) hr, hrun, hended, _, _, rfl, ⟨?_, Nn⟩, ⟨_, rfl⟩, hW, hsame.mono hk hn⟩
  show Q (some (.long z)) T.heap
  rw [eT]; exact hq
theorem go_areturn (C : Cx p s m meth c Z own bs mx rt nm) {w : Value} {t : FieldType} (hrt : rt = some t) (hd : decode bs pc = .ok (.areturn, 1)) (hk : ce ≤ K) (hn : sl ≤ N) (hw : w.isRef = true) (ht : t.isReference = true) (hq : Q (some w) h) : Go p l e R s m args below meth c n0 Q K N h ce sl (mkF m pc Ls [w]) := by
  subst hrt
  intro T locs X eT Nn
  obtain ⟨fs, hr, hrun, hended, hW, hsame⟩ := X.leave (v := some w) (fun q => by first | rfl | (rw [C.2.2.2.2.2.1] at q; cases q)) C.2.2.2.2.2.2.1
  refine ⟨_, _, X.areturnOut C.1 hw C.2.2.2.2.2.1 ht (hb C.2.1 hd) hr, hrun, hended, _, _, rfl, ⟨?_, Nn⟩, ⟨_, rfl⟩, hW, hsame.mono hk hn⟩
  show Q (some w) T.heap
  rw [eT]; exact hq
theorem go_return (C : Cx p s m meth c Z own bs mx rt nm)  (hrt : rt = none) (hd : decode bs pc = .ok (.return_, 1)) (hk : ce ≤ K) (hn : sl ≤ N) (hq : Q (none) h) : Go p l e R s m args below meth c n0 Q K N h ce sl (mkF m pc Ls []) := by
  subst hrt
  intro T locs X eT Nn
  obtain ⟨fs, hr, hrun, hended, hW, hsame⟩ := X.leave (v := none) (fun q => by first | rfl | (rw [C.2.2.2.2.2.1] at q; cases q)) C.2.2.2.2.2.2.1
  refine ⟨_, _, X.returnOut C.1 C.2.2.2.2.2.1 (hb C.2.1 hd) hr, hrun, hended, _, _, rfl, ⟨?_, Nn⟩, ⟨_, rfl⟩, hW, hsame.mono hk hn⟩
  show Q (none) T.heap
  rw [eT]; exact hq
theorem go_ireturnN (C : Cx p s m meth c Z own bs mx rt nm) {z z' : Int32} {t : FieldType} (hrt : rt = some t) (ht : t = .boolean ∨ t = .byte ∨ t = .char ∨ t = .short) (hz : nar t z = z') (hd : decode bs pc = .ok (.ireturn, 1)) (hk : ce ≤ K) (hn : sl ≤ N) (hq : Q (some (.int z')) h) : Go p l e R s m args below meth c n0 Q K N h ce sl (mkF m pc Ls [.int z]) := by
  subst hrt hz
  intro T locs X eT Nn
  obtain ⟨fs, hr, hrun, hended, hW, hsame⟩ := X.leave (v := some (.int (nar t z))) (fun q => by rw [C.2.2.2.2.2.1] at q; cases q) C.2.2.2.2.2.2.1
  refine ⟨_, _, retN X C.1 (t := t) C.2.2.2.2.2.1 ht (hb C.2.1 hd) hr, hrun, hended, _, _, rfl, ⟨?_, Nn⟩, ⟨_, rfl⟩, hW, hsame.mono hk hn⟩
  show Q (some (.int (nar t z))) T.heap
  rw [eT]; exact hq
theorem sat_of {y : MethodName} {cb : ByteArray} {cm : Nat} {cr : Option FieldType} {rm : Room} {as : List Value} {h0 : Heap} (ho : y.cls = own) (hnm : y.name = nm) (hpn : plainFor y = true) (Ls : Array Slot) (hef : ∀ m, entryFrame m as.toArray cm = mkF m 0 Ls [])
    (body : ∀ (p : Program) (e : Env) (s : State) (m : MethodId) (below : List Frame) (meth : Method) (c : Code), Cx p s m meth c Z own cb cm cr nm → Go p l e rm s m as.toArray below meth c n0 Q rm.cells rm.slots h0 0 0 (mkF m 0 Ls [])) : Sat l Z y cb cm cr rm as h0 n0 Q := by
  intro ws
  subst ho hnm
  refine MetFree.of_bodySF hpn hisR ?_
  intro p e s m args below meth c s₁ Bd hml0 hP hK
  obtain ⟨rfl, hZ, hh⟩ := hP
  have X0 : Stand p l e rm s m as.toArray below meth c s₁ [] 0 0 := Stand.of_body Bd
  obtain ⟨s₂, o, h1, h2, h3, v, L, h4, h5, h6⟩ := body p e s m below meth c ⟨Bd.exec, Bd.bytes, hml0, hZ, findClass_of_methodNamed Bd.named, Bd.returns, Bd.notSynchronized, (name_of_methodNamed Bd.named Bd.method).1⟩ s₁ [] X0 (by rw [← hh, Bd.state]; rfl) (Fr.nil n0)
  exact ⟨s₂, o, castTop (hef m) h1, h2, h3, v, L, h4, h5, h6⟩
theorem Sat.weaken {y : MethodName} {cb : ByteArray} {cm : Nat} {cr : Option FieldType} {rm : Room} {as : List Value} {h0 : Heap} {Q' : Option Value → Heap → Prop} (S : Sat l Z y cb cm cr rm as h0 n0 Q) (H : ∀ v h, Q v h → Q' v h) : Sat l Z y cb cm cr rm as h0 n0 Q' := by
  intro ws p e ha hc hk s m args below hf happ hP hK
  obtain ⟨n, o, h1, h2, h3, v, L, h4, h5, h6⟩ := S ws p e ha hc hk s m args below hf happ hP hK
  exact ⟨n, o, h1, h2, h3, v, L, h4, ⟨H _ _ h5.1, h5.2⟩, h6⟩
end Walk
end OwnLayer
theorem wd {Z : State} {a0 : Array Value} (hw : ∀ d ∈ tables_1, d.before a0 Z = true) (k : Nat) {d : Jvm.Cond} (h : tables_1[k]? = some d) : d.before a0 Z = true := hw d (List.mem_of_getElem? h)
theorem d1_0 : decode prog_79_method_1_code 0 = .ok (.aload_n 0, 1) := by decide +kernel
theorem d1_1 : decode prog_79_method_1_code 1 = .ok (.invokespecial 3, 3) := by decide +kernel
theorem d1_4 : decode prog_79_method_1_code 4 = .ok (.iload_n 2, 1) := by decide +kernel
theorem d1_5 : decode prog_79_method_1_code 5 = .ok (.iconst 1, 1) := by decide +kernel
theorem d1_6 : decode prog_79_method_1_code 6 = .ok (.if_icmp .lt 14, 3) := by decide +kernel
theorem d1_9 : decode prog_79_method_1_code 9 = .ok (.iload_n 2, 1) := by decide +kernel
theorem d1_10 : decode prog_79_method_1_code 10 = .ok (.iload_n 1, 1) := by decide +kernel
theorem d1_11 : decode prog_79_method_1_code 11 = .ok (.if_icmp .gt 9, 3) := by decide +kernel
theorem d1_14 : decode prog_79_method_1_code 14 = .ok (.iload_n 1, 1) := by decide +kernel
theorem d1_15 : decode prog_79_method_1_code 15 = .ok (.bipush 64, 2) := by decide +kernel
theorem d1_17 : decode prog_79_method_1_code 17 = .ok (.if_icmp .le 18, 3) := by decide +kernel
theorem d1_20 : decode prog_79_method_1_code 20 = .ok (.new 11, 3) := by decide +kernel
theorem d1_23 : decode prog_79_method_1_code 23 = .ok (.dup, 1) := by decide +kernel
theorem d1_24 : decode prog_79_method_1_code 24 = .ok (.iload_n 1, 1) := by decide +kernel
theorem d1_25 : decode prog_79_method_1_code 25 = .ok (.iload_n 2, 1) := by decide +kernel
theorem d1_26 : decode prog_79_method_1_code 26 = .ok (.invokedynamic 13, 5) := by decide +kernel
theorem d1_31 : decode prog_79_method_1_code 31 = .ok (.invokespecial 17, 3) := by decide +kernel
theorem d1_34 : decode prog_79_method_1_code 34 = .ok (.athrow, 1) := by decide +kernel
theorem d1_35 : decode prog_79_method_1_code 35 = .ok (.aload_n 0, 1) := by decide +kernel
theorem d1_36 : decode prog_79_method_1_code 36 = .ok (.iload_n 1, 1) := by decide +kernel
theorem d1_37 : decode prog_79_method_1_code 37 = .ok (.putfield 20, 3) := by decide +kernel
theorem d1_40 : decode prog_79_method_1_code 40 = .ok (.aload_n 0, 1) := by decide +kernel
theorem d1_41 : decode prog_79_method_1_code 41 = .ok (.iload_n 2, 1) := by decide +kernel
theorem d1_42 : decode prog_79_method_1_code 42 = .ok (.putfield 24, 3) := by decide +kernel
theorem d1_45 : decode prog_79_method_1_code 45 = .ok (.aload_n 0, 1) := by decide +kernel
theorem d1_46 : decode prog_79_method_1_code 46 = .ok (.bipush 64, 2) := by decide +kernel
theorem d1_48 : decode prog_79_method_1_code 48 = .ok (.iload_n 1, 1) := by decide +kernel
theorem d1_49 : decode prog_79_method_1_code 49 = .ok (.idiv, 1) := by decide +kernel
theorem d1_50 : decode prog_79_method_1_code 50 = .ok (.putfield 27, 3) := by decide +kernel
theorem d1_53 : decode prog_79_method_1_code 53 = .ok (.aload_n 0, 1) := by decide +kernel
theorem d1_54 : decode prog_79_method_1_code 54 = .ok (.bipush 64, 2) := by decide +kernel
theorem d1_56 : decode prog_79_method_1_code 56 = .ok (.iload_n 1, 1) := by decide +kernel
theorem d1_57 : decode prog_79_method_1_code 57 = .ok (.irem, 1) := by decide +kernel
theorem d1_58 : decode prog_79_method_1_code 58 = .ok (.putfield 30, 3) := by decide +kernel
theorem d1_61 : decode prog_79_method_1_code 61 = .ok (.return_, 1) := by decide +kernel
theorem d3_0 : decode prog_79_method_13_code 0 = .ok (.aload_n 0, 1) := by decide +kernel
theorem d3_1 : decode prog_79_method_13_code 1 = .ok (.getfield 30, 3) := by decide +kernel
theorem d3_4 : decode prog_79_method_13_code 4 = .ok (.aload_n 0, 1) := by decide +kernel
theorem d3_5 : decode prog_79_method_13_code 5 = .ok (.getfield 27, 3) := by decide +kernel
theorem d3_8 : decode prog_79_method_13_code 8 = .ok (.iconst 1, 1) := by decide +kernel
theorem d3_9 : decode prog_79_method_13_code 9 = .ok (.iadd, 1) := by decide +kernel
theorem d3_10 : decode prog_79_method_13_code 10 = .ok (.imul, 1) := by decide +kernel
theorem d3_11 : decode prog_79_method_13_code 11 = .ok (.istore_n 2, 1) := by decide +kernel
theorem d3_12 : decode prog_79_method_13_code 12 = .ok (.iload_n 1, 1) := by decide +kernel
theorem d3_13 : decode prog_79_method_13_code 13 = .ok (.iload_n 2, 1) := by decide +kernel
theorem d3_14 : decode prog_79_method_13_code 14 = .ok (.if_icmp .ge 14, 3) := by decide +kernel
theorem d3_17 : decode prog_79_method_13_code 17 = .ok (.iload_n 1, 1) := by decide +kernel
theorem d3_18 : decode prog_79_method_13_code 18 = .ok (.aload_n 0, 1) := by decide +kernel
theorem d3_19 : decode prog_79_method_13_code 19 = .ok (.getfield 27, 3) := by decide +kernel
theorem d3_22 : decode prog_79_method_13_code 22 = .ok (.iconst 1, 1) := by decide +kernel
theorem d3_23 : decode prog_79_method_13_code 23 = .ok (.iadd, 1) := by decide +kernel
theorem d3_24 : decode prog_79_method_13_code 24 = .ok (.idiv, 1) := by decide +kernel
theorem d3_25 : decode prog_79_method_13_code 25 = .ok (.goto 16, 3) := by decide +kernel
theorem d3_28 : decode prog_79_method_13_code 28 = .ok (.aload_n 0, 1) := by decide +kernel
theorem d3_29 : decode prog_79_method_13_code 29 = .ok (.getfield 30, 3) := by decide +kernel
theorem d3_32 : decode prog_79_method_13_code 32 = .ok (.iload_n 1, 1) := by decide +kernel
theorem d3_33 : decode prog_79_method_13_code 33 = .ok (.iload_n 2, 1) := by decide +kernel
theorem d3_34 : decode prog_79_method_13_code 34 = .ok (.isub, 1) := by decide +kernel
theorem d3_35 : decode prog_79_method_13_code 35 = .ok (.aload_n 0, 1) := by decide +kernel
theorem d3_36 : decode prog_79_method_13_code 36 = .ok (.getfield 27, 3) := by decide +kernel
theorem d3_39 : decode prog_79_method_13_code 39 = .ok (.idiv, 1) := by decide +kernel
theorem d3_40 : decode prog_79_method_13_code 40 = .ok (.iadd, 1) := by decide +kernel
theorem d3_41 : decode prog_79_method_13_code 41 = .ok (.ireturn, 1) := by decide +kernel
theorem d4_0 : decode prog_79_method_11_code 0 = .ok (.iload_n 1, 1) := by decide +kernel
theorem d4_1 : decode prog_79_method_11_code 1 = .ok (.aload_n 0, 1) := by decide +kernel
theorem d4_2 : decode prog_79_method_11_code 2 = .ok (.getfield 27, 3) := by decide +kernel
theorem d4_5 : decode prog_79_method_11_code 5 = .ok (.imul, 1) := by decide +kernel
theorem d4_6 : decode prog_79_method_11_code 6 = .ok (.iload_n 1, 1) := by decide +kernel
theorem d4_7 : decode prog_79_method_11_code 7 = .ok (.aload_n 0, 1) := by decide +kernel
theorem d4_8 : decode prog_79_method_11_code 8 = .ok (.getfield 30, 3) := by decide +kernel
theorem d4_11 : decode prog_79_method_11_code 11 = .ok (.invokestatic 73, 3) := by decide +kernel
theorem d4_14 : decode prog_79_method_11_code 14 = .ok (.iadd, 1) := by decide +kernel
theorem d4_15 : decode prog_79_method_11_code 15 = .ok (.ireturn, 1) := by decide +kernel
theorem d5_0 : decode jdk_29_method_69_code 0 = .ok (.iload_n 0, 1) := by decide +kernel
theorem d5_1 : decode jdk_29_method_69_code 1 = .ok (.iload_n 1, 1) := by decide +kernel
theorem d5_2 : decode jdk_29_method_69_code 2 = .ok (.if_icmp .gt 7, 3) := by decide +kernel
theorem d5_5 : decode jdk_29_method_69_code 5 = .ok (.iload_n 0, 1) := by decide +kernel
theorem d5_6 : decode jdk_29_method_69_code 6 = .ok (.goto 4, 3) := by decide +kernel
theorem d5_9 : decode jdk_29_method_69_code 9 = .ok (.iload_n 1, 1) := by decide +kernel
theorem d5_10 : decode jdk_29_method_69_code 10 = .ok (.ireturn, 1) := by decide +kernel
theorem d6_0 : decode prog_79_method_12_code 0 = .ok (.iload_n 1, 1) := by decide +kernel
theorem d6_1 : decode prog_79_method_12_code 1 = .ok (.aload_n 0, 1) := by decide +kernel
theorem d6_2 : decode prog_79_method_12_code 2 = .ok (.getfield 30, 3) := by decide +kernel
theorem d6_5 : decode prog_79_method_12_code 5 = .ok (.if_icmp .ge 12, 3) := by decide +kernel
theorem d6_8 : decode prog_79_method_12_code 8 = .ok (.aload_n 0, 1) := by decide +kernel
theorem d6_9 : decode prog_79_method_12_code 9 = .ok (.getfield 27, 3) := by decide +kernel
theorem d6_12 : decode prog_79_method_12_code 12 = .ok (.iconst 1, 1) := by decide +kernel
theorem d6_13 : decode prog_79_method_12_code 13 = .ok (.iadd, 1) := by decide +kernel
theorem d6_14 : decode prog_79_method_12_code 14 = .ok (.goto 7, 3) := by decide +kernel
theorem d6_17 : decode prog_79_method_12_code 17 = .ok (.aload_n 0, 1) := by decide +kernel
theorem d6_18 : decode prog_79_method_12_code 18 = .ok (.getfield 27, 3) := by decide +kernel
theorem d6_21 : decode prog_79_method_12_code 21 = .ok (.ireturn, 1) := by decide +kernel
theorem pn_0 : plainName "com/example/deft_sketch/deftsketch/pairs/TableLayoutBlockOfPinLaw" = true := by first | (simp [plainName, overriddenIn]; done) | decide +kernel
theorem pd_0 : parseMethodDescriptor "(II)Z" = some ⟨[.int, .int], some .boolean⟩ := by decide +kernel
theorem pn_1 : plainName "com/example/deft_sketch/deftsketch/pairs/TableLayout" = true := by first | (simp [plainName, overriddenIn]; done) | decide +kernel
theorem pd_1 : parseMethodDescriptor "(II)V" = some ⟨[.int, .int], none⟩ := by decide +kernel
theorem pd_2 : parseMethodDescriptor "()V" = some ⟨[], none⟩ := by decide +kernel
theorem pd_3 : parseMethodDescriptor "(I)I" = some ⟨[.int], some .int⟩ := by decide +kernel
theorem pd_4 : parseMethodDescriptor "(II)I" = some ⟨[.int, .int], some .int⟩ := by decide +kernel
def o_min (a b : Int32) : Int32 := if b.toInt < a.toInt then b else a
def o_bo (sm lc t : Int32) : Int32 := if t.toInt < (lc * (sm + (1 : Int32))).toInt then t / (sm + (1 : Int32)) else lc + (t - lc * (sm + (1 : Int32))) / sm
def o_st (sm lc b : Int32) : Int32 := b * sm + o_min b lc
def o_sz (sm lc b : Int32) : Int32 := if b.toInt < lc.toInt then sm + (1 : Int32) else sm
def o_ok (B t : Int32) : Bool :=
  let sm := (64 : Int32) / B
  let lc := (64 : Int32) % B
  let b := o_bo sm lc t
  decide (sm ≠ 0) && decide (sm + (1 : Int32) ≠ 0) && decide (0 ≤ b.toInt) && decide (b.toInt < B.toInt) && decide ((o_st sm lc b).toInt ≤ t.toInt) && decide (t.toInt < (o_st sm lc b + o_sz sm lc b).toInt)
set_option maxRecDepth 65536 in
theorem o_all : ∀ k : Fin 64, ∀ j : Fin 64, o_ok (Int32.ofNat (k.val + 1)) (Int32.ofNat j.val) = true := by decide +kernel
theorem own_layout (B t : Int32) (h1 : 1 ≤ B.toInt) (h2 : B.toInt ≤ 64) (h3 : 0 ≤ t.toInt) (h4 : t.toInt < 64) : o_ok B t = true := by
  have hB : B = Int32.ofNat ((B.toInt.toNat - 1) + 1) := int_eq (by rw [Int32.toInt_ofNat_of_lt (by omega)]; omega)
  have ht : t = Int32.ofNat t.toInt.toNat := int_eq (by rw [Int32.toInt_ofNat_of_lt (by omega)]; omega)
  rw [hB, ht]
  exact o_all ⟨B.toInt.toNat - 1, by omega⟩ ⟨t.toInt.toNat, by omega⟩
theorem own_facts (B t : Int32) (h : o_ok B t = true) : (64 : Int32) / B ≠ 0 ∧ (64 : Int32) / B + (1 : Int32) ≠ 0 ∧ 0 ≤ (o_bo ((64 : Int32) / B) ((64 : Int32) % B) t).toInt ∧ (o_bo ((64 : Int32) / B) ((64 : Int32) % B) t).toInt < B.toInt ∧ (o_st ((64 : Int32) / B) ((64 : Int32) % B) (o_bo ((64 : Int32) / B) ((64 : Int32) % B) t)).toInt ≤ t.toInt ∧ t.toInt < (o_st ((64 : Int32) / B) ((64 : Int32) % B) (o_bo ((64 : Int32) / B) ((64 : Int32) % B) t) + o_sz ((64 : Int32) / B) ((64 : Int32) % B) (o_bo ((64 : Int32) / B) ((64 : Int32) % B) t)).toInt := by
  simp only [o_ok, Bool.and_eq_true, decide_eq_true_eq] at h
  exact ⟨h.1.1.1.1.1, h.1.1.1.1.2, h.1.1.1.2, h.1.1.2, h.1.2, h.2⟩
set_option maxRecDepth 65536 in
set_option maxHeartbeats 40000000 in
theorem sat_init (l : Launch) (Z : State) (a0 : Array Value) (hw : ∀ d ∈ tables_1, d.before a0 Z = true) (a : Addr) (B : Int32) (h0 : Heap) (n0 : Nat) (h1 : 1 ≤ B.toInt) (h2 : B.toInt ≤ 64) (E1 : Exa Z h0 a "com/example/deft_sketch/deftsketch/pairs/TableLayout") (F_blocks : Fld Z h0 a "com/example/deft_sketch/deftsketch/pairs/TableLayout" "blocks" "I" (.int 0)) (F_lead : Fld Z h0 a "com/example/deft_sketch/deftsketch/pairs/TableLayout" "lead" "I" (.int 0)) (F_smallSize : Fld Z h0 a "com/example/deft_sketch/deftsketch/pairs/TableLayout" "smallSize" "I" (.int 0)) (F_largeCount : Fld Z h0 a "com/example/deft_sketch/deftsketch/pairs/TableLayout" "largeCount" "I" (.int 0)) (ga : n0 ≤ a) :
    Sat l Z (⟨"com/example/deft_sketch/deftsketch/pairs/TableLayout", "<init>", "(II)V"⟩ : MethodName) prog_79_method_1_code 3 none ({ frames := 1, cells := 0, slots := 0, locals := 12 } : Room) [.ref a, .int B, .int (1 : Int32)] h0 n0 (RN fun h => Exa Z h a "com/example/deft_sketch/deftsketch/pairs/TableLayout" ∧ Fld Z h a "com/example/deft_sketch/deftsketch/pairs/TableLayout" "smallSize" "I" (.int ((64 : Int32) / B)) ∧ Fld Z h a "com/example/deft_sketch/deftsketch/pairs/TableLayout" "largeCount" "I" (.int ((64 : Int32) % B))) := by
  refine sat_of (own := "com/example/deft_sketch/deftsketch/pairs/TableLayout") (nm := "<init>") rfl rfl (plainFor_of_name pn_1) #[.val (.ref a), .val (.int B), .val (.int (1 : Int32))] (fun m => by first | rfl | (simp [entryFrame, mkF, argsToLocals, Value.category]; done)) ?_
  intro p e s m below meth c C
  have hz : B ≠ 0 := fun q => by rw [q] at h1; exact absurd h1 (by decide)
  refine go_aloadN C d1_0 (pc' := 1) rfl rfl rfl ?_
  refine go_objinit C (W := 0) (wd hw 7 rfl) (wd hw 8 rfl) (wd hw 9 rfl) rfl (by decide) rfl (by decide) d1_1 (pc' := 4) rfl ?_
  refine go_iloadN C d1_4 (pc' := 5) rfl rfl ?_
  refine go_iconst C (1 : Int32) d1_5 (pc' := 6) rfl (by decide) ?_
  refine go_icmp C (1 : Int) (1 : Int) (by decide) (by decide) d1_6 (by decide) (pc' := 20) (by decide) (pcN := 9) rfl (fun (c_1 : (1 : Int) < (1 : Int)) => by omega) (fun (c_1 : ¬ (1 : Int) < (1 : Int)) => ?_)
  refine go_iloadN C d1_9 (pc' := 10) rfl rfl ?_
  refine go_iloadN C d1_10 (pc' := 11) rfl rfl ?_
  refine go_icmp C (1 : Int) B.toInt (by decide) rfl d1_11 (by decide) (pc' := 20) (by decide) (pcN := 14) rfl (fun (c_2 : B.toInt < (1 : Int)) => by omega) (fun (c_2 : ¬ B.toInt < (1 : Int)) => ?_)
  refine go_iloadN C d1_14 (pc' := 15) rfl rfl ?_
  refine go_bipush C (64 : Int32) d1_15 (pc' := 17) rfl (by decide) ?_
  refine go_icmp C B.toInt (64 : Int) rfl (by decide) d1_17 (by decide) (pc' := 35) (by decide) (pcN := 20) rfl (fun (c_3 : ¬ (64 : Int) < B.toInt) => ?_) (fun (c_3 : (64 : Int) < B.toInt) => by omega)
  refine go_aloadN C d1_35 (pc' := 36) rfl rfl rfl ?_
  refine go_iloadN C d1_36 (pc' := 37) rfl rfl ?_
  refine go_putfield C (wd hw 10 rfl) F_blocks E1 (Or.inr ⟨wd hw 11 rfl, rfl, rfl⟩) (wd hw 2 rfl) (ty := .int) (by decide) rfl rfl ga d1_37 (pc' := 40) rfl ?_
  intro h_4 W_5
  have F_6 := Fld.same W_5 F_blocks
  have F_7 := Fld.other W_5 F_lead (Or.inr (slot_ne (a0 := a0) (Or.inr (wd hw 13 rfl)) (Or.inr (wd hw 11 rfl)) (by decide) (t := .int) (t' := .int) (by decide) (by decide)))
  have F_8 := Fld.other W_5 F_smallSize (Or.inr (slot_ne (a0 := a0) (Or.inr (wd hw 15 rfl)) (Or.inr (wd hw 11 rfl)) (by decide) (t := .int) (t' := .int) (by decide) (by decide)))
  have F_9 := Fld.other W_5 F_largeCount (Or.inr (slot_ne (a0 := a0) (Or.inr (wd hw 17 rfl)) (Or.inr (wd hw 11 rfl)) (by decide) (t := .int) (t' := .int) (by decide) (by decide)))
  have E_10 := Exa.wr W_5 E1
  refine go_aloadN C d1_40 (pc' := 41) rfl rfl rfl ?_
  refine go_iloadN C d1_41 (pc' := 42) rfl rfl ?_
  refine go_putfield C (wd hw 12 rfl) F_7 E_10 (Or.inr ⟨wd hw 13 rfl, rfl, rfl⟩) (wd hw 2 rfl) (ty := .int) (by decide) rfl rfl ga d1_42 (pc' := 45) rfl ?_
  intro h_11 W_12
  have F_13 := Fld.other W_12 F_6 (Or.inr (slot_ne (a0 := a0) (Or.inr (wd hw 11 rfl)) (Or.inr (wd hw 13 rfl)) (by decide) (t := .int) (t' := .int) (by decide) (by decide)))
  have F_14 := Fld.same W_12 F_7
  have F_15 := Fld.other W_12 F_8 (Or.inr (slot_ne (a0 := a0) (Or.inr (wd hw 15 rfl)) (Or.inr (wd hw 13 rfl)) (by decide) (t := .int) (t' := .int) (by decide) (by decide)))
  have F_16 := Fld.other W_12 F_9 (Or.inr (slot_ne (a0 := a0) (Or.inr (wd hw 17 rfl)) (Or.inr (wd hw 13 rfl)) (by decide) (t := .int) (t' := .int) (by decide) (by decide)))
  have E_17 := Exa.wr W_12 E_10
  refine go_aloadN C d1_45 (pc' := 46) rfl rfl rfl ?_
  refine go_bipush C (64 : Int32) d1_46 (pc' := 48) rfl (by decide) ?_
  refine go_iloadN C d1_48 (pc' := 49) rfl rfl ?_
  refine go_idiv C d1_49 (pc' := 50) rfl hz ?_
  refine go_putfield C (wd hw 14 rfl) F_15 E_17 (Or.inr ⟨wd hw 15 rfl, rfl, rfl⟩) (wd hw 2 rfl) (ty := .int) (by decide) rfl rfl ga d1_50 (pc' := 53) rfl ?_
  intro h_18 W_19
  have F_20 := Fld.other W_19 F_13 (Or.inr (slot_ne (a0 := a0) (Or.inr (wd hw 11 rfl)) (Or.inr (wd hw 15 rfl)) (by decide) (t := .int) (t' := .int) (by decide) (by decide)))
  have F_21 := Fld.other W_19 F_14 (Or.inr (slot_ne (a0 := a0) (Or.inr (wd hw 13 rfl)) (Or.inr (wd hw 15 rfl)) (by decide) (t := .int) (t' := .int) (by decide) (by decide)))
  have F_22 := Fld.same W_19 F_15
  have F_23 := Fld.other W_19 F_16 (Or.inr (slot_ne (a0 := a0) (Or.inr (wd hw 17 rfl)) (Or.inr (wd hw 15 rfl)) (by decide) (t := .int) (t' := .int) (by decide) (by decide)))
  have E_24 := Exa.wr W_19 E_17
  refine go_aloadN C d1_53 (pc' := 54) rfl rfl rfl ?_
  refine go_bipush C (64 : Int32) d1_54 (pc' := 56) rfl (by decide) ?_
  refine go_iloadN C d1_56 (pc' := 57) rfl rfl ?_
  refine go_irem C d1_57 (pc' := 58) rfl hz ?_
  refine go_putfield C (wd hw 16 rfl) F_23 E_24 (Or.inr ⟨wd hw 17 rfl, rfl, rfl⟩) (wd hw 2 rfl) (ty := .int) (by decide) rfl rfl ga d1_58 (pc' := 61) rfl ?_
  intro h_25 W_26
  have F_27 := Fld.other W_26 F_20 (Or.inr (slot_ne (a0 := a0) (Or.inr (wd hw 11 rfl)) (Or.inr (wd hw 17 rfl)) (by decide) (t := .int) (t' := .int) (by decide) (by decide)))
  have F_28 := Fld.other W_26 F_21 (Or.inr (slot_ne (a0 := a0) (Or.inr (wd hw 13 rfl)) (Or.inr (wd hw 17 rfl)) (by decide) (t := .int) (t' := .int) (by decide) (by decide)))
  have F_29 := Fld.other W_26 F_22 (Or.inr (slot_ne (a0 := a0) (Or.inr (wd hw 15 rfl)) (Or.inr (wd hw 17 rfl)) (by decide) (t := .int) (t' := .int) (by decide) (by decide)))
  have F_30 := Fld.same W_26 F_23
  have E_31 := Exa.wr W_26 E_24
  refine go_return C rfl d1_61 (by decide) (by decide) ?_
  exact ⟨rfl, E_31, F_29, F_30⟩
set_option maxRecDepth 65536 in
set_option maxHeartbeats 40000000 in
theorem sat_bo (l : Launch) (Z : State) (a0 : Array Value) (hw : ∀ d ∈ tables_1, d.before a0 Z = true) (a : Addr) (t sm lc : Int32) (h0 : Heap) (n0 : Nat) (z1 : sm ≠ 0) (z2 : sm + (1 : Int32) ≠ 0) (F1 : Fld Z h0 a "com/example/deft_sketch/deftsketch/pairs/TableLayout" "smallSize" "I" (.int sm)) (F2 : Fld Z h0 a "com/example/deft_sketch/deftsketch/pairs/TableLayout" "largeCount" "I" (.int lc)) :
    Sat l Z (⟨"com/example/deft_sketch/deftsketch/pairs/TableLayout", "blockOf", "(I)I"⟩ : MethodName) prog_79_method_13_code 3 (some .int) ({ frames := 0, cells := 0, slots := 0, locals := 0 } : Room) [.ref a, .int t] h0 n0 (RV fun r h => r = .int (o_bo sm lc t) ∧ h = h0) := by
  refine sat_of (own := "com/example/deft_sketch/deftsketch/pairs/TableLayout") (nm := "blockOf") rfl rfl (plainFor_of_name pn_1) #[.val (.ref a), .val (.int t), .unset] (fun m => by first | rfl | (simp [entryFrame, mkF, argsToLocals, Value.category]; done)) ?_
  intro p e s m below meth c C
  refine go_aloadN C d3_0 (pc' := 1) rfl rfl rfl ?_
  refine go_getfield C (wd hw 16 rfl) F2 d3_1 (pc' := 4) rfl ?_
  refine go_aloadN C d3_4 (pc' := 5) rfl rfl rfl ?_
  refine go_getfield C (wd hw 14 rfl) F1 d3_5 (pc' := 8) rfl ?_
  refine go_iconst C (1 : Int32) d3_8 (pc' := 9) rfl (by decide) ?_
  refine go_iadd C d3_9 (pc' := 10) rfl ?_
  refine go_imul C d3_10 (pc' := 11) rfl ?_
  refine go_istoreN C (Ls' := #[.val (.ref a), .val (.int t), .val (.int (lc * (sm + (1 : Int32))))]) d3_11 (pc' := 12) rfl rfl ?_
  refine go_iloadN C d3_12 (pc' := 13) rfl rfl ?_
  refine go_iloadN C d3_13 (pc' := 14) rfl rfl ?_
  refine go_icmp C t.toInt ((lc * (sm + (1 : Int32))).toInt) rfl rfl d3_14 (by decide) (pc' := 28) (by decide) (pcN := 17) rfl (fun (c_1 : ¬ t.toInt < ((lc * (sm + (1 : Int32))).toInt)) => ?_) (fun (c_1 : t.toInt < ((lc * (sm + (1 : Int32))).toInt)) => ?_)
  · skip
    refine go_aloadN C d3_28 (pc' := 29) rfl rfl rfl ?_
    refine go_getfield C (wd hw 16 rfl) F2 d3_29 (pc' := 32) rfl ?_
    refine go_iloadN C d3_32 (pc' := 33) rfl rfl ?_
    refine go_iloadN C d3_33 (pc' := 34) rfl rfl ?_
    refine go_isub C d3_34 (pc' := 35) rfl ?_
    refine go_aloadN C d3_35 (pc' := 36) rfl rfl rfl ?_
    refine go_getfield C (wd hw 14 rfl) F1 d3_36 (pc' := 39) rfl ?_
    refine go_idiv C d3_39 (pc' := 40) rfl z1 ?_
    refine go_iadd C d3_40 (pc' := 41) rfl ?_
    refine go_ireturnI C rfl d3_41 (by decide) (by decide) ?_
    exact ⟨_, rfl, congrArg Value.int (by unfold o_bo; first | rw [if_pos (by omega)] | rw [if_neg (by omega)]), rfl⟩
  · skip
    refine go_iloadN C d3_17 (pc' := 18) rfl rfl ?_
    refine go_aloadN C d3_18 (pc' := 19) rfl rfl rfl ?_
    refine go_getfield C (wd hw 14 rfl) F1 d3_19 (pc' := 22) rfl ?_
    refine go_iconst C (1 : Int32) d3_22 (pc' := 23) rfl (by decide) ?_
    refine go_iadd C d3_23 (pc' := 24) rfl ?_
    refine go_idiv C d3_24 (pc' := 25) rfl z2 ?_
    refine go_goto C d3_25 (by decide) (pc' := 41) (by decide) ?_
    refine go_ireturnI C rfl d3_41 (by decide) (by decide) ?_
    exact ⟨_, rfl, congrArg Value.int (by unfold o_bo; first | rw [if_pos (by omega)] | rw [if_neg (by omega)]), rfl⟩
set_option maxRecDepth 65536 in
set_option maxHeartbeats 40000000 in
theorem sat_min (l : Launch) (Z : State) (a0 : Array Value) (hw : ∀ d ∈ tables_1, d.before a0 Z = true) (u v : Int32) (h0 : Heap) (n0 : Nat)  :
    Sat l Z (⟨"java/lang/Math", "min", "(II)I"⟩ : MethodName) jdk_29_method_69_code 2 (some .int) ({ frames := 0, cells := 0, slots := 0, locals := 0 } : Room) [.int u, .int v] h0 n0 (RV fun r h => r = .int (o_min u v) ∧ h = h0) := by
  refine sat_of (own := "java/lang/Math") (nm := "min") rfl rfl (by decide +kernel) #[.val (.int u), .val (.int v)] (fun m => by first | rfl | (simp [entryFrame, mkF, argsToLocals, Value.category]; done)) ?_
  intro p e s m below meth c C
  refine go_iloadN C d5_0 (pc' := 1) rfl rfl ?_
  refine go_iloadN C d5_1 (pc' := 2) rfl rfl ?_
  refine go_icmp C u.toInt v.toInt rfl rfl d5_2 (by decide) (pc' := 9) (by decide) (pcN := 5) rfl (fun (c_1 : v.toInt < u.toInt) => ?_) (fun (c_1 : ¬ v.toInt < u.toInt) => ?_)
  · skip
    refine go_iloadN C d5_9 (pc' := 10) rfl rfl ?_
    refine go_ireturnI C rfl d5_10 (by decide) (by decide) ?_
    exact ⟨_, rfl, congrArg Value.int (by unfold o_min; first | rw [if_pos (by omega)] | rw [if_neg (by omega)]), rfl⟩
  · skip
    refine go_iloadN C d5_5 (pc' := 6) rfl rfl ?_
    refine go_goto C d5_6 (by decide) (pc' := 10) (by decide) ?_
    refine go_ireturnI C rfl d5_10 (by decide) (by decide) ?_
    exact ⟨_, rfl, congrArg Value.int (by unfold o_min; first | rw [if_pos (by omega)] | rw [if_neg (by omega)]), rfl⟩
set_option maxRecDepth 65536 in
set_option maxHeartbeats 40000000 in
theorem sat_st (l : Launch) (Z : State) (a0 : Array Value) (hw : ∀ d ∈ tables_1, d.before a0 Z = true) (a : Addr) (b sm lc : Int32) (h0 : Heap) (n0 : Nat) (F1 : Fld Z h0 a "com/example/deft_sketch/deftsketch/pairs/TableLayout" "smallSize" "I" (.int sm)) (F2 : Fld Z h0 a "com/example/deft_sketch/deftsketch/pairs/TableLayout" "largeCount" "I" (.int lc)) :
    Sat l Z (⟨"com/example/deft_sketch/deftsketch/pairs/TableLayout", "blockStart", "(I)I"⟩ : MethodName) prog_79_method_11_code 2 (some .int) ({ frames := 1, cells := 0, slots := 0, locals := 14 } : Room) [.ref a, .int b] h0 n0 (RV fun r h => r = .int (o_st sm lc b) ∧ h = h0) := by
  refine sat_of (own := "com/example/deft_sketch/deftsketch/pairs/TableLayout") (nm := "blockStart") rfl rfl (plainFor_of_name pn_1) #[.val (.ref a), .val (.int b)] (fun m => by first | rfl | (simp [entryFrame, mkF, argsToLocals, Value.category]; done)) ?_
  intro p e s m below meth c C
  refine go_iloadN C d4_0 (pc' := 1) rfl rfl ?_
  refine go_aloadN C d4_1 (pc' := 2) rfl rfl rfl ?_
  refine go_getfield C (wd hw 14 rfl) F1 d4_2 (pc' := 5) rfl ?_
  refine go_imul C d4_5 (pc' := 6) rfl ?_
  refine go_iloadN C d4_6 (pc' := 7) rfl rfl ?_
  refine go_aloadN C d4_7 (pc' := 8) rfl rfl rfl ?_
  refine go_getfield C (wd hw 16 rfl) F2 d4_8 (pc' := 11) rfl ?_
  refine go_staticP C (as := [.int b, .int lc]) (rest := [.int (b * sm)]) (W := 1) (.int (o_min b lc)) (sat_min l Z a0 hw b lc _ _) (wd hw 28 rfl) (wd hw 29 rfl) (wd hw 30 rfl) (wd hw 31 rfl) (by decide) pd_4 rfl rfl rfl (by decide) (by decide) rfl rfl (by decide) (by decide) d4_11 (pc' := 14) rfl rfl ?_
  refine go_iadd C d4_14 (pc' := 15) rfl ?_
  refine go_ireturnI C rfl d4_15 (by decide) (by decide) ?_
  exact ⟨_, rfl, rfl, rfl⟩
set_option maxRecDepth 65536 in
set_option maxHeartbeats 40000000 in
theorem sat_sz (l : Launch) (Z : State) (a0 : Array Value) (hw : ∀ d ∈ tables_1, d.before a0 Z = true) (a : Addr) (b sm lc : Int32) (h0 : Heap) (n0 : Nat) (F1 : Fld Z h0 a "com/example/deft_sketch/deftsketch/pairs/TableLayout" "smallSize" "I" (.int sm)) (F2 : Fld Z h0 a "com/example/deft_sketch/deftsketch/pairs/TableLayout" "largeCount" "I" (.int lc)) :
    Sat l Z (⟨"com/example/deft_sketch/deftsketch/pairs/TableLayout", "blockSize", "(I)I"⟩ : MethodName) prog_79_method_12_code 2 (some .int) ({ frames := 0, cells := 0, slots := 0, locals := 0 } : Room) [.ref a, .int b] h0 n0 (RV fun r h => r = .int (o_sz sm lc b) ∧ h = h0) := by
  refine sat_of (own := "com/example/deft_sketch/deftsketch/pairs/TableLayout") (nm := "blockSize") rfl rfl (plainFor_of_name pn_1) #[.val (.ref a), .val (.int b)] (fun m => by first | rfl | (simp [entryFrame, mkF, argsToLocals, Value.category]; done)) ?_
  intro p e s m below meth c C
  refine go_iloadN C d6_0 (pc' := 1) rfl rfl ?_
  refine go_aloadN C d6_1 (pc' := 2) rfl rfl rfl ?_
  refine go_getfield C (wd hw 16 rfl) F2 d6_2 (pc' := 5) rfl ?_
  refine go_icmp C b.toInt lc.toInt rfl rfl d6_5 (by decide) (pc' := 17) (by decide) (pcN := 8) rfl (fun (c_1 : ¬ b.toInt < lc.toInt) => ?_) (fun (c_1 : b.toInt < lc.toInt) => ?_)
  · skip
    refine go_aloadN C d6_17 (pc' := 18) rfl rfl rfl ?_
    refine go_getfield C (wd hw 14 rfl) F1 d6_18 (pc' := 21) rfl ?_
    refine go_ireturnI C rfl d6_21 (by decide) (by decide) ?_
    exact ⟨_, rfl, congrArg Value.int (by unfold o_sz; first | rw [if_pos (by omega)] | rw [if_neg (by omega)]), rfl⟩
  · skip
    refine go_aloadN C d6_8 (pc' := 9) rfl rfl rfl ?_
    refine go_getfield C (wd hw 14 rfl) F1 d6_9 (pc' := 12) rfl ?_
    refine go_iconst C (1 : Int32) d6_12 (pc' := 13) rfl (by decide) ?_
    refine go_iadd C d6_13 (pc' := 14) rfl ?_
    refine go_goto C d6_14 (by decide) (pc' := 21) (by decide) ?_
    refine go_ireturnI C rfl d6_21 (by decide) (by decide) ?_
    exact ⟨_, rfl, congrArg Value.int (by unfold o_sz; first | rw [if_pos (by omega)] | rw [if_neg (by omega)]), rfl⟩
set_option maxRecDepth 65536 in
set_option maxHeartbeats 40000000 in
theorem law_sat (l : Launch) (Z : State) (a0 : Array Value) (hw : ∀ d ∈ tables_1, d.before a0 Z = true) (x0 x1 : Int32)  :
    Sat l Z x code maxLocals ret room_1 [.int x0, .int x1] Z.heap Z.heap.size (RV fun r _ => r = .int 1) := by
  refine sat_of (own := "com/example/deft_sketch/deftsketch/pairs/TableLayoutBlockOfPinLaw") (nm := "law") rfl rfl (plainFor_of_name pn_0) #[.val (.int x0), .val (.int x1), .unset, .unset, .unset, .unset, .unset, .unset] (fun m => by first | rfl | (simp [entryFrame, mkF, argsToLocals, Value.category]; done)) ?_
  intro p e s m below meth c C
  have hm : (x0 &&& (2147483647 : Int32)).toInt = x0.toInt % 2 ^ 31 := Jvm.Kit.i32_mask x0 _ (k := 31) (by decide) (by decide)
  have hr : ((x0 &&& (2147483647 : Int32)) % (64 : Int32)).toInt = (x0.toInt % 2 ^ 31) % 64 := by rw [Jvm.Kit.i32_rem_nonneg (by omega), hm]; rfl
  have k1 : ((1 : Int32)).toInt = 1 := by decide
  have hB : ((1 : Int32) + (x0 &&& (2147483647 : Int32)) % (64 : Int32)).toInt = 1 + (x0.toInt % 2 ^ 31) % 64 := by rw [Jvm.Kit.i32_add (by omega) (by omega), hr, k1]
  have ht : (x1 &&& (63 : Int32)).toInt = x1.toInt % 2 ^ 6 := Jvm.Kit.i32_mask x1 _ (k := 6) (by decide) (by decide)
  have h1 : 1 ≤ ((1 : Int32) + (x0 &&& (2147483647 : Int32)) % (64 : Int32)).toInt := by omega
  have h2 : ((1 : Int32) + (x0 &&& (2147483647 : Int32)) % (64 : Int32)).toInt ≤ 64 := by omega
  have h3 : 0 ≤ (x1 &&& (63 : Int32)).toInt := by omega
  have h4 : (x1 &&& (63 : Int32)).toInt < 64 := by omega
  refine go_iconst C (1 : Int32) at_0 (pc' := 1) rfl (by decide) ?_
  refine go_iloadN C at_1 (pc' := 2) rfl rfl ?_
  refine go_ldc C (v := (2147483647 : Int32)) (wd hw 0 rfl) at_2 (pc' := 4) rfl ?_
  refine go_iand C at_4 (pc' := 5) rfl ?_
  refine go_bipush C (64 : Int32) at_5 (pc' := 7) rfl (by decide) ?_
  refine go_irem C at_7 (pc' := 8) rfl (by decide) ?_
  refine go_iadd C at_8 (pc' := 9) rfl ?_
  refine go_istoreN C (Ls' := #[.val (.int x0), .val (.int x1), .val (.int ((1 : Int32) + ((x0 &&& (2147483647 : Int32)) % (64 : Int32)))), .unset, .unset, .unset, .unset, .unset]) at_9 (pc' := 10) rfl rfl ?_
  refine go_iloadN C at_10 (pc' := 11) rfl rfl ?_
  refine go_bipush C (63 : Int32) at_11 (pc' := 13) rfl (by decide) ?_
  refine go_iand C at_13 (pc' := 14) rfl ?_
  refine go_istoreN C (Ls' := #[.val (.int x0), .val (.int x1), .val (.int ((1 : Int32) + ((x0 &&& (2147483647 : Int32)) % (64 : Int32)))), .val (.int (x1 &&& (63 : Int32))), .unset, .unset, .unset, .unset]) at_14 (pc' := 15) rfl rfl ?_
  clear hm hr hB ht k1
  generalize (1 : Int32) + ((x0 &&& (2147483647 : Int32)) % (64 : Int32)) = B at h1 h2 ⊢
  generalize x1 &&& (63 : Int32) = t at h3 h4 ⊢
  obtain ⟨z1, z2, q1, q2, q3, q4⟩ := own_facts B t (own_layout B t h1 h2 h3 h4)
  refine go_new C (wd hw 1 rfl) (wd hw 2 rfl) (wd hw 3 rfl) at_15 (pc' := 18) rfl (ce' := 1) (sl' := 4) rfl rfl (by decide) (by decide) ?_
  intro h_1 a_2 g_3 E_4 E_5 D_6
  have g_7 : Z.heap.size ≤ a_2 := own_ge (Nat.le_refl _) g_3
  have z_8 : Z.heap.size ≤ h_1.size := Nat.le_trans (Nat.le_refl _) E_4.1
  have F_9 : Fld Z h_1 a_2 "com/example/deft_sketch/deftsketch/pairs/TableLayout" "blocks" "I" (.int (0 : Int32)) := D_6 (Or.inr (wd hw 11 rfl)) (ty := .int) (by decide)
  have F_10 : Fld Z h_1 a_2 "com/example/deft_sketch/deftsketch/pairs/TableLayout" "lead" "I" (.int (0 : Int32)) := D_6 (Or.inr (wd hw 13 rfl)) (ty := .int) (by decide)
  have F_11 : Fld Z h_1 a_2 "com/example/deft_sketch/deftsketch/pairs/TableLayout" "smallSize" "I" (.int (0 : Int32)) := D_6 (Or.inr (wd hw 15 rfl)) (ty := .int) (by decide)
  have F_12 : Fld Z h_1 a_2 "com/example/deft_sketch/deftsketch/pairs/TableLayout" "largeCount" "I" (.int (0 : Int32)) := D_6 (Or.inr (wd hw 17 rfl)) (ty := .int) (by decide)
  refine go_dup C at_18 (pc' := 19) rfl rfl ?_
  refine go_iloadN C at_19 (pc' := 20) rfl rfl ?_
  refine go_iconst C (1 : Int32) at_20 (pc' := 21) rfl (by decide) ?_
  refine go_specialN C (as := [.int B, .int (1 : Int32)]) (rest := [.ref a_2]) (W := 1) (sat_init l Z a0 hw a_2 B _ _ h1 h2 E_5 F_9 F_10 F_11 F_12 g_7) rfl (wd hw 4 rfl) (wd hw 5 rfl) (wd hw 3 rfl) (wd hw 6 rfl) (by decide) pd_1 rfl rfl rfl (by decide) (by decide) (ce' := 1) (sl' := 4) rfl rfl (by decide) (by decide) at_21 (pc' := 24) rfl rfl ?_
  intro h_13 q_14
  obtain ⟨E_15, F_16, F_17⟩ := q_14
  refine go_astore C (Ls' := #[.val (.int x0), .val (.int x1), .val (.int B), .val (.int t), .val (.ref a_2), .unset, .unset, .unset]) at_24 (pc' := 26) rfl rfl rfl ?_
  refine go_aload C at_26 (pc' := 28) rfl rfl rfl ?_
  refine go_iloadN C at_28 (pc' := 29) rfl rfl ?_
  refine go_virtualP C (as := [.int t]) (rest := []) (W := 0) (.int (o_bo ((64 : Int32) / B) ((64 : Int32) % B) t)) (sat_bo l Z a0 hw a_2 t _ _ _ _ z1 z2 F_16 F_17) E_15 (wd hw 18 rfl) (wd hw 19 rfl) (wd hw 21 rfl) (wd hw 20 rfl) (wd hw 3 rfl) (wd hw 22 rfl) (by decide) pd_3 rfl rfl rfl (by decide) (by decide) rfl rfl (by decide) (by decide) at_29 (pc' := 32) rfl rfl ?_
  refine go_istore C (Ls' := #[.val (.int x0), .val (.int x1), .val (.int B), .val (.int t), .val (.ref a_2), .val (.int (o_bo ((64 : Int32) / B) ((64 : Int32) % B) t)), .unset, .unset]) at_32 (pc' := 34) rfl rfl ?_
  refine go_iload C at_34 (pc' := 36) rfl rfl ?_
  refine go_if0 C ((o_bo ((64 : Int32) / B) ((64 : Int32) % B) t).toInt) rfl at_36 (by decide) (pc' := 45) (by decide) (pcN := 39) rfl (fun (c_18 : ((o_bo ((64 : Int32) / B) ((64 : Int32) % B) t).toInt) < 0) => by omega) (fun (c_18 : ¬ ((o_bo ((64 : Int32) / B) ((64 : Int32) % B) t).toInt) < 0) => ?_)
  refine go_iload C at_39 (pc' := 41) rfl rfl ?_
  refine go_iloadN C at_41 (pc' := 42) rfl rfl ?_
  refine go_icmp C ((o_bo ((64 : Int32) / B) ((64 : Int32) % B) t).toInt) B.toInt rfl rfl at_42 (by decide) (pc' := 47) (by decide) (pcN := 45) rfl (fun (c_19 : ((o_bo ((64 : Int32) / B) ((64 : Int32) % B) t).toInt) < B.toInt) => ?_) (fun (c_19 : ¬ ((o_bo ((64 : Int32) / B) ((64 : Int32) % B) t).toInt) < B.toInt) => by omega)
  refine go_aload C at_47 (pc' := 49) rfl rfl rfl ?_
  refine go_iload C at_49 (pc' := 51) rfl rfl ?_
  refine go_virtualP C (as := [.int (o_bo ((64 : Int32) / B) ((64 : Int32) % B) t)]) (rest := []) (W := 0) (.int (o_st ((64 : Int32) / B) ((64 : Int32) % B) (o_bo ((64 : Int32) / B) ((64 : Int32) % B) t))) (sat_st l Z a0 hw a_2 (o_bo ((64 : Int32) / B) ((64 : Int32) % B) t) _ _ _ _  F_16 F_17) E_15 (wd hw 23 rfl) (wd hw 24 rfl) (wd hw 26 rfl) (wd hw 25 rfl) (wd hw 3 rfl) (wd hw 27 rfl) (by decide) pd_3 rfl rfl rfl (by decide) (by decide) rfl rfl (by decide) (by decide) at_51 (pc' := 54) rfl rfl ?_
  refine go_istore C (Ls' := #[.val (.int x0), .val (.int x1), .val (.int B), .val (.int t), .val (.ref a_2), .val (.int (o_bo ((64 : Int32) / B) ((64 : Int32) % B) t)), .val (.int (o_st ((64 : Int32) / B) ((64 : Int32) % B) (o_bo ((64 : Int32) / B) ((64 : Int32) % B) t))), .unset]) at_54 (pc' := 56) rfl rfl ?_
  refine go_aload C at_56 (pc' := 58) rfl rfl rfl ?_
  refine go_iload C at_58 (pc' := 60) rfl rfl ?_
  refine go_virtualP C (as := [.int (o_bo ((64 : Int32) / B) ((64 : Int32) % B) t)]) (rest := []) (W := 0) (.int (o_sz ((64 : Int32) / B) ((64 : Int32) % B) (o_bo ((64 : Int32) / B) ((64 : Int32) % B) t))) (sat_sz l Z a0 hw a_2 (o_bo ((64 : Int32) / B) ((64 : Int32) % B) t) _ _ _ _  F_16 F_17) E_15 (wd hw 32 rfl) (wd hw 33 rfl) (wd hw 35 rfl) (wd hw 34 rfl) (wd hw 3 rfl) (wd hw 36 rfl) (by decide) pd_3 rfl rfl rfl (by decide) (by decide) rfl rfl (by decide) (by decide) at_60 (pc' := 63) rfl rfl ?_
  refine go_istore C (Ls' := #[.val (.int x0), .val (.int x1), .val (.int B), .val (.int t), .val (.ref a_2), .val (.int (o_bo ((64 : Int32) / B) ((64 : Int32) % B) t)), .val (.int (o_st ((64 : Int32) / B) ((64 : Int32) % B) (o_bo ((64 : Int32) / B) ((64 : Int32) % B) t))), .val (.int (o_sz ((64 : Int32) / B) ((64 : Int32) % B) (o_bo ((64 : Int32) / B) ((64 : Int32) % B) t)))]) at_63 (pc' := 65) rfl rfl ?_
  refine go_iload C at_65 (pc' := 67) rfl rfl ?_
  refine go_iloadN C at_67 (pc' := 68) rfl rfl ?_
  refine go_icmp C ((o_st ((64 : Int32) / B) ((64 : Int32) % B) (o_bo ((64 : Int32) / B) ((64 : Int32) % B) t)).toInt) t.toInt rfl rfl at_68 (by decide) (pc' := 84) (by decide) (pcN := 71) rfl (fun (c_20 : t.toInt < ((o_st ((64 : Int32) / B) ((64 : Int32) % B) (o_bo ((64 : Int32) / B) ((64 : Int32) % B) t)).toInt)) => by omega) (fun (c_20 : ¬ t.toInt < ((o_st ((64 : Int32) / B) ((64 : Int32) % B) (o_bo ((64 : Int32) / B) ((64 : Int32) % B) t)).toInt)) => ?_)
  refine go_iloadN C at_71 (pc' := 72) rfl rfl ?_
  refine go_iload C at_72 (pc' := 74) rfl rfl ?_
  refine go_iload C at_74 (pc' := 76) rfl rfl ?_
  refine go_iadd C at_76 (pc' := 77) rfl ?_
  refine go_icmp C t.toInt (((o_st ((64 : Int32) / B) ((64 : Int32) % B) (o_bo ((64 : Int32) / B) ((64 : Int32) % B) t)) + (o_sz ((64 : Int32) / B) ((64 : Int32) % B) (o_bo ((64 : Int32) / B) ((64 : Int32) % B) t))).toInt) rfl rfl at_77 (by decide) (pc' := 84) (by decide) (pcN := 80) rfl (fun (c_21 : ¬ t.toInt < (((o_st ((64 : Int32) / B) ((64 : Int32) % B) (o_bo ((64 : Int32) / B) ((64 : Int32) % B) t)) + (o_sz ((64 : Int32) / B) ((64 : Int32) % B) (o_bo ((64 : Int32) / B) ((64 : Int32) % B) t))).toInt)) => by omega) (fun (c_21 : t.toInt < (((o_st ((64 : Int32) / B) ((64 : Int32) % B) (o_bo ((64 : Int32) / B) ((64 : Int32) % B) t)) + (o_sz ((64 : Int32) / B) ((64 : Int32) % B) (o_bo ((64 : Int32) / B) ((64 : Int32) % B) t))).toInt)) => ?_)
  refine go_iconst C (1 : Int32) at_80 (pc' := 81) rfl (by decide) ?_
  refine go_goto C at_81 (by decide) (pc' := 85) (by decide) ?_
  refine go_ireturnN C (z' := (1 : Int32)) rfl (by simp) rfl at_85 (by decide) (by decide) ?_
  exact ⟨_, rfl, rfl⟩
set_option maxRecDepth 65536 in
set_option maxHeartbeats 40000000 in
theorem comes_1 {Post : Tables → Env → Array Value → State → Outcome → State → Prop} (hpost : ∀ tb e args s v u, (limb_1_1.after args s (.returned v) u = true ∧ limb_1_2.after args s (.returned v) u = true ∧ True) → FrameEnd s (.returned v) u (Jvm.fieldLocs frame_1_writes args s ++ Jvm.arrayLocs frame_1_arrays args s ++ Jvm.staticLocs frame_1_statics s) 16 128 → Post tb e args s (.returned v) u) :
    ArmFor flags0 classFile x code maxLocals ret World_1 tables_1 room_1 Calls_1 rest_1 Pre_1 Post := by
  intro l hfl _ _ p e ha hc hk s m args below hf hA hF happ hP
  obtain ⟨hcalls, hrest, hpre⟩ := hP
  obtain ⟨-, -, -, hnamed, -, -, -, hat⟩ := (Spec.applies_iff hf).mp happ
  obtain ⟨hg, hn⟩ := and_e (Cond.before_iff.mp (show (Jvm.Cond.and given_1 narrow_1).before args s = true from hpre))
  obtain ⟨k0, g0⟩ := and_e hg
  obtain ⟨k1, g1⟩ := and_e g0
  obtain ⟨w0, w1, rfl⟩ : ∃ w0 w1 : Value, args = #[w0, w1] := by
    have hs : args.size = 2 := by simpa [Cond.value, given_1] using k0
    obtain ⟨L⟩ := args
    match L, hs with
    | [w0, w1], _ => exact ⟨w0, w1, rfl⟩
  have hw := fun d (hd : d ∈ tables_1) => atoms_spec (ws := Jvm.Cond.code x code maxLocals ret :: tables_1) hat d (List.mem_cons_of_mem _ hd)
  obtain ⟨i0, e0⟩ := is_v k1
  obtain ⟨i1, e1⟩ := is_v g1
  obtain rfl : w0 = (.int i0) := Option.some.inj e0
  obtain rfl : w1 = (.int i1) := Option.some.inj e1
  obtain ⟨n, o, h1, h2, h3, _, L, rfl, ⟨⟨_, rfl, rfl⟩, N⟩, hq⟩ := law_sat l s _ hw i0 i1 tables_1 p e ha hc hk s m _ below hf ((Spec.applies_iff_loose hf).mp happ).1 ⟨rfl, State.Warmed39.refl s, rfl⟩ trivial
  refine ⟨n, _, h1, h2, h3, hpost _ _ _ _ _ _ ⟨Cond.after_iff.mpr rfl, Cond.after_iff.mpr (eq_i res_at (Term.int_eval (1)) rfl), trivial⟩ ⟨hq.1, hq.2.1, (hq.2.2.sift fun y hy => Or.inr (N y hy)).mono (by decide) (by decide)⟩⟩
theorem main_1_1 : Claimed_1_1 := comes_1 fun _ _ _ _ _ _ h hF => ⟨h.1, hF⟩
theorem main_1_2 : Claimed_1_2 := comes_1 fun _ _ _ _ _ _ h hF => ⟨h.2.1, hF⟩
end Jvm.Pilot.@@N@@
namespace Jvm.Pilot.@@N@@
open Jvm Jvm.ClassFile Sem Op Lib Jvm.Free Jvm.Stand Jvm.Pilot.@@N@@.Jvm.D
/-! MADE BY PROGRAM (witnessworld.py) out of the Statement's table words and the real class files: 10 classes; the members and pool entries that the words name. The judged class is class 1, her method 1. -/
namespace start1
open Jvm.ClassFile
def u (s : String) : CpInfo := .utf8 (stringToUtf16 s)
/-- a pool by its gaps: so many unusable entries, then the entry; so many at the end -/
def gap : Nat → List CpInfo → List CpInfo
  | 0, r => r
  | n + 1, r => .unusable :: gap n r
def poolList (es : List (Nat × CpInfo)) (last : Nat) : List CpInfo := es.foldr (fun e r => gap e.1 (e.2 :: r)) (gap last [])
def pool (es : List (Nat × CpInfo)) (last : Nat) : Array CpInfo := ⟨poolList es last⟩
def fileOf (pool : Array CpInfo) (this : Nat) (attrs : Array Attribute := #[]) (ms : Array MethodInfo := #[]) (fl : Nat := 33) (sup : Nat := 0) (ifs : Array Nat := #[]) (fds : Array FieldInfo := #[]) : ClassFile where
  minorVersion := 0
  majorVersion := 65
  constantPool := pool
  accessFlags := fl
  thisClass := this
  superClass := sup
  interfaces := ifs
  fields := fds
  methods := ms
  attributes := attrs
def plain (name : String) (sup : Option ClassId) : Class where
  name := name
  kind := .ordinary
  loader := none
  accessFlags := 33
  super := sup
  interfaces := #[]
  cf := none
  fields := #[]
  methods := #[]
  instanceTypes := #[]
  staticTypes := #[]
  resolved := #[]
  callSites := []
  init := .initialized
  statics := none
  mirror := none

def pool0 : Array CpInfo := pool [(5, u "<init>"), (0, u "()V"), (1, .class_ 10), (1, u "java/lang/Object")] 113

def k0c0 : Code := { maxStack := 0, maxLocals := 1, code := object_method_1_code, exceptionTable := #[], attributes := #[] }
def k0m0 : Method := { name := "<init>", desc := "()V", sig := { parameters := [], returnType := none }, accessFlags := 1, code := some k0c0 }
/-- java/lang/Object -/
def k0 : Class := { plain "java/lang/Object" none with
  accessFlags := 33
  interfaces := #[]
  cf := some (fileOf pool0 8 #[] #[{ accessFlags := 1, nameIndex := 5, descriptorIndex := 6, attributes := #[] }] 33 0 #[] #[])
  fields := #[]
  methods := #[k0m0]
  instanceTypes := #[]
  staticTypes := #[]
  resolved := Array.replicate 124 none
  statics := none }

def pool1 : Array CpInfo := pool [(2, .class_ 4), (1, u "java/lang/Object"), (0, u "<init>"), (0, u "()V"), (0, .integer 2147483647), (0, .class_ 9), (0, u "com/example/deft_sketch/deftsketch/pairs/TableLayout"), (0, .methodref 8 11), (0, .nameAndType 5 12), (0, u "(II)V"), (0, .methodref 8 14), (0, .nameAndType 15 16), (0, u "blockOf"), (0, u "(I)I"), (0, .methodref 8 18), (0, .nameAndType 19 16), (0, u "blockStart"), (0, .methodref 8 21), (0, .nameAndType 22 16), (0, u "blockSize"), (0, .class_ 24), (0, u "com/example/deft_sketch/deftsketch/pairs/TableLayoutBlockOfPinLaw"), (2, u "law"), (0, u "(II)Z")] 3

def k1m0 : Method := { name := "<init>", desc := "()V", sig := { parameters := [], returnType := none }, accessFlags := 1, code := none }
def k1c1 : Code := { maxStack := 4, maxLocals := 8, code := code, exceptionTable := #[], attributes := #[] }
def k1m1 : Method := { name := "law", desc := "(II)Z", sig := { parameters := [.int, .int], returnType := some .boolean }, accessFlags := 9, code := some k1c1 }
/-- com/example/deft_sketch/deftsketch/pairs/TableLayoutBlockOfPinLaw -/
def k1 : Class := { plain "com/example/deft_sketch/deftsketch/pairs/TableLayoutBlockOfPinLaw" (some 0) with
  accessFlags := 49
  interfaces := #[]
  cf := some (fileOf pool1 23 #[] #[{ accessFlags := 1, nameIndex := 5, descriptorIndex := 6, attributes := #[] }, { accessFlags := 9, nameIndex := 27, descriptorIndex := 28, attributes := #[] }] 49 2 #[] #[])
  fields := #[]
  methods := #[k1m0, k1m1]
  instanceTypes := #[]
  staticTypes := #[]
  resolved := Array.replicate 32 none
  statics := none }

def pool2 : Array CpInfo := pool [(3, .methodref 4 5), (0, .class_ 6), (0, .nameAndType 7 8), (0, u "java/lang/Object"), (0, u "<init>"), (0, u "()V"), (0, .class_ 10), (0, u "com/example/deft_sketch/deftsketch/pairs/TableLayout"), (9, .fieldref 9 21), (0, .nameAndType 22 23), (0, u "blocks"), (0, u "I"), (0, .fieldref 9 25), (0, .nameAndType 26 23), (0, u "lead"), (0, .fieldref 9 28), (0, .nameAndType 29 23), (0, u "smallSize"), (0, .fieldref 9 31), (0, .nameAndType 32 23), (0, u "largeCount"), (1, .class_ 36), (1, u "java/lang/Math"), (1, u "(II)I"), (8, u "(II)V"), (23, u "BINOMIALS"), (0, u "[[J"), (0, .methodref 34 74), (0, .nameAndType 75 38), (0, u "min"), (11, u "MAX_BLOCKS"), (2, u "TABLE_COST"), (0, u "D"), (0, u "CANDIDATE_COST"), (14, u "blockStart"), (0, u "(I)I"), (0, u "blockSize"), (0, u "blockOf")] 23

def k2c0 : Code := { maxStack := 4, maxLocals := 3, code := prog_79_method_1_code, exceptionTable := #[], attributes := #[] }
def k2m0 : Method := { name := "<init>", desc := "(II)V", sig := { parameters := [.int, .int], returnType := none }, accessFlags := 1, code := some k2c0 }
def k2c1 : Code := { maxStack := 3, maxLocals := 2, code := prog_79_method_11_code, exceptionTable := #[], attributes := #[] }
def k2m1 : Method := { name := "blockStart", desc := "(I)I", sig := { parameters := [.int], returnType := some .int }, accessFlags := 0, code := some k2c1 }
def k2c2 : Code := { maxStack := 2, maxLocals := 2, code := prog_79_method_12_code, exceptionTable := #[], attributes := #[] }
def k2m2 : Method := { name := "blockSize", desc := "(I)I", sig := { parameters := [.int], returnType := some .int }, accessFlags := 0, code := some k2c2 }
def k2c3 : Code := { maxStack := 3, maxLocals := 3, code := prog_79_method_13_code, exceptionTable := #[], attributes := #[] }
def k2m3 : Method := { name := "blockOf", desc := "(I)I", sig := { parameters := [.int], returnType := some .int }, accessFlags := 0, code := some k2c3 }
/-- com/example/deft_sketch/deftsketch/pairs/TableLayout -/
def k2 : Class := { plain "com/example/deft_sketch/deftsketch/pairs/TableLayout" (some 0) with
  accessFlags := 49
  interfaces := #[]
  cf := some (fileOf pool2 9 #[] #[{ accessFlags := 1, nameIndex := 7, descriptorIndex := 47, attributes := #[] }, { accessFlags := 0, nameIndex := 107, descriptorIndex := 108, attributes := #[] }, { accessFlags := 0, nameIndex := 109, descriptorIndex := 108, attributes := #[] }, { accessFlags := 0, nameIndex := 110, descriptorIndex := 108, attributes := #[] }] 49 4 #[] #[{ accessFlags := 25, nameIndex := 87, descriptorIndex := 23, attributes := #[] }, { accessFlags := 26, nameIndex := 90, descriptorIndex := 91, attributes := #[] }, { accessFlags := 26, nameIndex := 92, descriptorIndex := 91, attributes := #[] }, { accessFlags := 26, nameIndex := 71, descriptorIndex := 72, attributes := #[] }, { accessFlags := 18, nameIndex := 22, descriptorIndex := 23, attributes := #[] }, { accessFlags := 18, nameIndex := 26, descriptorIndex := 23, attributes := #[] }, { accessFlags := 18, nameIndex := 29, descriptorIndex := 23, attributes := #[] }, { accessFlags := 18, nameIndex := 32, descriptorIndex := 23, attributes := #[] }])
  fields := #[{ name := "MAX_BLOCKS", type := .int, accessFlags := 25, slot := 0, constantValue := 0 }, { name := "TABLE_COST", type := .double, accessFlags := 26, slot := 1, constantValue := 0 }, { name := "CANDIDATE_COST", type := .double, accessFlags := 26, slot := 2, constantValue := 0 }, { name := "BINOMIALS", type := (.array (.array .long)), accessFlags := 26, slot := 3, constantValue := 0 }, { name := "blocks", type := .int, accessFlags := 18, slot := 0, constantValue := 0 }, { name := "lead", type := .int, accessFlags := 18, slot := 1, constantValue := 0 }, { name := "smallSize", type := .int, accessFlags := 18, slot := 2, constantValue := 0 }, { name := "largeCount", type := .int, accessFlags := 18, slot := 3, constantValue := 0 }]
  methods := #[k2m0, k2m1, k2m2, k2m3]
  instanceTypes := #[.int, .int, .int, .int]
  staticTypes := #[.int, .double, .double, (.array (.array .long))]
  resolved := Array.replicate 134 none
  statics := none }

def pool3 : Array CpInfo := pool [(1, .class_ 2), (0, u "java/lang/Math"), (1, .class_ 6), (1, u "java/lang/Object"), (0, u "<init>"), (0, u "()V"), (89, .class_ 100), (1, u "java/lang/Math$RandomNumberGeneratorHolder"), (71, u "negativeZeroFloatBits"), (0, u "J"), (2, u "negativeZeroDoubleBits"), (24, u "min"), (43, u "$assertionsDisabled"), (0, u "Z"), (88, u "(II)I"), (2, u "twoToTheDoubleScaleDown"), (0, u "D"), (4, u "twoToTheDoubleScaleUp"), (9, u "E"), (3, u "PI"), (2, u "TAU"), (2, u "DEGREES_TO_RADIANS"), (0, u "RADIANS_TO_DEGREES")] 94

def k3m0 : Method := { name := "<init>", desc := "()V", sig := { parameters := [], returnType := none }, accessFlags := 2, code := none }
def k3c1 : Code := { maxStack := 2, maxLocals := 2, code := jdk_29_method_69_code, exceptionTable := #[], attributes := #[] }
def k3m1 : Method := { name := "min", desc := "(II)I", sig := { parameters := [.int, .int], returnType := some .int }, accessFlags := 9, code := some k3c1 }
/-- java/lang/Math -/
def k3 : Class := { plain "java/lang/Math" (some 0) with
  accessFlags := 49
  interfaces := #[]
  cf := some (fileOf pool3 1 #[.nestMembers #[98]] #[{ accessFlags := 2, nameIndex := 7, descriptorIndex := 8, attributes := #[] }, { accessFlags := 9, nameIndex := 201, descriptorIndex := 335, attributes := #[] }] 49 4 #[] #[{ accessFlags := 25, nameIndex := 354, descriptorIndex := 339, attributes := #[] }, { accessFlags := 25, nameIndex := 358, descriptorIndex := 339, attributes := #[] }, { accessFlags := 25, nameIndex := 361, descriptorIndex := 339, attributes := #[] }, { accessFlags := 26, nameIndex := 364, descriptorIndex := 339, attributes := #[] }, { accessFlags := 26, nameIndex := 365, descriptorIndex := 339, attributes := #[] }, { accessFlags := 26, nameIndex := 172, descriptorIndex := 173, attributes := #[] }, { accessFlags := 26, nameIndex := 176, descriptorIndex := 173, attributes := #[] }, { accessFlags := 8, nameIndex := 344, descriptorIndex := 339, attributes := #[] }, { accessFlags := 8, nameIndex := 338, descriptorIndex := 339, attributes := #[] }, { accessFlags := 4120, nameIndex := 245, descriptorIndex := 246, attributes := #[] }])
  fields := #[{ name := "E", type := .double, accessFlags := 25, slot := 0, constantValue := 0 }, { name := "PI", type := .double, accessFlags := 25, slot := 1, constantValue := 0 }, { name := "TAU", type := .double, accessFlags := 25, slot := 2, constantValue := 0 }, { name := "DEGREES_TO_RADIANS", type := .double, accessFlags := 26, slot := 3, constantValue := 0 }, { name := "RADIANS_TO_DEGREES", type := .double, accessFlags := 26, slot := 4, constantValue := 0 }, { name := "negativeZeroFloatBits", type := .long, accessFlags := 26, slot := 5, constantValue := 0 }, { name := "negativeZeroDoubleBits", type := .long, accessFlags := 26, slot := 6, constantValue := 0 }, { name := "twoToTheDoubleScaleUp", type := .double, accessFlags := 8, slot := 7, constantValue := 0 }, { name := "twoToTheDoubleScaleDown", type := .double, accessFlags := 8, slot := 8, constantValue := 0 }, { name := "$assertionsDisabled", type := .boolean, accessFlags := 4120, slot := 9, constantValue := 0 }]
  methods := #[k3m0, k3m1]
  instanceTypes := #[]
  staticTypes := #[.double, .double, .double, .double, .double, .long, .long, .double, .double, .boolean]
  resolved := Array.replicate 460 none
  statics := none }

def pool4 : Array CpInfo := pool [(1, u "java/lang/Cloneable"), (0, .class_ 1), (0, u "java/lang/Object"), (0, .class_ 3)] 3

/-- java/lang/Cloneable -/
def k4 : Class := { plain "java/lang/Cloneable" (some 0) with
  accessFlags := 1537
  interfaces := #[]
  cf := some (fileOf pool4 2 #[] #[] 1537 4 #[] #[])
  fields := #[]
  methods := #[]
  instanceTypes := #[]
  staticTypes := #[]
  resolved := Array.replicate 8 none
  statics := none }

def pool5 : Array CpInfo := pool [(1, u "java/io/Serializable"), (0, .class_ 1), (0, u "java/lang/Object"), (0, .class_ 3)] 3

/-- java/io/Serializable -/
def k5 : Class := { plain "java/io/Serializable" (some 0) with
  accessFlags := 1537
  interfaces := #[]
  cf := some (fileOf pool5 2 #[] #[] 1537 4 #[] #[])
  fields := #[]
  methods := #[]
  instanceTypes := #[]
  staticTypes := #[]
  resolved := Array.replicate 8 none
  statics := none }

/-- the primitive byte -/
def k6 : Class := { plain "byte" none with kind := .primitive 'B', accessFlags := 0x411 }
/-- [B -/
def k7 : Class := { plain "[B" (some 0) with kind := .array 6 .byte, interfaces := #[4, 5], accessFlags := 1041 }

/-- the primitive int -/
def k8 : Class := { plain "int" none with kind := .primitive 'I', accessFlags := 0x411 }
/-- [I -/
def k9 : Class := { plain "[I" (some 0) with kind := .array 8 .int, interfaces := #[4, 5], accessFlags := 1041 }

def heap : Heap := #[]
def classes : Array Class := #[k0, k1, k2, k3, k4, k5, k6, k7, k8, k9]
def interned : List (Array UInt16 × Addr) := []
def slotsUsed : Nat := 0
def theMethod : MethodId := ⟨1, 1⟩
def args0 : Array Value := #[.int 3, .int 4]
def aboutOver (below : List Frame) : State where
  vm := { classes := classes, interned := interned.toArray }
  heap := heap
  slotsUsed := slotsUsed
  threads := #[{ frames := .invoking theMethod args0 :: below }]
def below0 : List Frame := [.native { method := ⟨0, 0⟩, args := #[] }]
def about1 : State := aboutOver below0
def p0 : Program := .bare "" "" ""
def e0 : Env := launch0.env 0 0 0
theorem w_frames : about1.frames = Frame.invoking theMethod args0 :: below0 := rfl
set_option maxRecDepth 65536 in
theorem w_args : argsFit about1.vm theMethod args0 = true := by decide +kernel
set_option maxRecDepth 65536 in
theorem w_heap : heapFits about1 = true := by decide +kernel
set_option maxRecDepth 65536 in
theorem w_runnable : about1.curStatus? = some .runnable := by decide +kernel
set_option maxRecDepth 65536 in
theorem w_alone : about1.alone = true := by decide +kernel
set_option maxRecDepth 65536 in
theorem w_named : about1.methodNamed? x = some theMethod := by decide +kernel
set_option maxRecDepth 65536 in
theorem w_hears : about1.hears theMethod below0 = true := by decide +kernel
set_option maxRecDepth 65536 in
theorem w_ripe : about1.ripe theMethod args0 below0 = true := by decide +kernel
theorem w_running : about1.status = .running := rfl
set_option maxRecDepth 65536 in
theorem w_room : about1.hasRoom e0.platform room_1 = true :=
  launch0.hasRoom_least _ room_1 (by decide +kernel) (by decide +kernel) (by decide +kernel) (by decide +kernel) (by decide +kernel) (by decide +kernel)
theorem allAtoms_all (ts : List Jvm.Cond) (a : Array Jvm.Value) (st : Jvm.State) : (allAtoms ts).before a st = ts.all (fun c => c.before a st) := by
  induction ts with
  | nil => rfl
  | cons c t ih =>
    show (Jvm.Cond.and c (allAtoms t)).before a st = _
    rw [Jvm.Cond.before_and, ih, List.all_cons]
def words1 : List Jvm.Cond := Jvm.Cond.code x code maxLocals ret :: tables_1
/-- a 'code' word, met by the world's own term for the bytes: nothing is compared byte by byte -/
theorem code_word {y : MethodName} {bytes : ByteArray} {mx : Nat} {rt : Option FieldType} {a : Array Value} {s : State} {m : MethodId} {meth : Method} {c : Code} (h1 : s.methodNamed? y = some m) (h2 : s.vm.method? m = some meth) (h3 : meth.code = some c) (h4 : c.code = bytes)
    (h5 : (c.maxLocals == mx && c.exceptionTable.isEmpty && decide (c.maxStack ≤ mostOperands) && decide (meth.sig.returnType = rt) && !meth.locks && decide (parseMethodDescriptor y.desc = some meth.sig)) = true) : (Jvm.Cond.code y bytes mx rt).before a s = true := by
  simp only [Bool.and_eq_true, beq_iff_eq, Bool.not_eq_true', decide_eq_true_eq] at h5
  obtain ⟨⟨⟨⟨⟨g1, g2⟩, g3⟩, g4⟩, g5⟩, g6⟩ := h5
  simp [Cond.before, Cond.holds, Cond.value, h1, h2, h3, h4, g1, g2, g3, g4, g5, g6]
def isCode : Jvm.Cond → Bool
  | .code _ _ _ _ => true
  | _ => false
theorem all_split {L : List Jvm.Cond} {P : Jvm.Cond → Bool} (h1 : L.all (fun c => isCode c || P c) = true) (h2 : ∀ c ∈ L.filter isCode, P c = true) : L.all P = true := by
  refine List.all_eq_true.mpr fun c hc => ?_
  have h := List.all_eq_true.mp h1 c hc
  rcases Bool.eq_false_or_eq_true (isCode c) with hi | hi
  · exact h2 c (List.mem_filter.mpr ⟨hc, hi⟩)
  · simpa [hi] using h
set_option maxRecDepth 65536 in
theorem w_c0 : (Jvm.Cond.code x code maxLocals ret).before args0 about1 = true := code_word (m := ⟨1, 1⟩) (meth := k1m1) (c := k1c1) (by decide +kernel) rfl rfl rfl (by decide +kernel)
set_option maxRecDepth 65536 in
theorem w_c1 : (Jvm.Cond.code ({ cls := "com/example/deft_sketch/deftsketch/pairs/TableLayout", name := "<init>", desc := "(II)V" } : Jvm.MethodName) prog_79_method_1_code (3 : Nat) (Option.none : Option Jvm.ClassFile.FieldType)).before args0 about1 = true := code_word (m := ⟨2, 0⟩) (meth := k2m0) (c := k2c0) (by decide +kernel) rfl rfl rfl (by decide +kernel)
set_option maxRecDepth 65536 in
theorem w_c2 : (Jvm.Cond.code ({ cls := "java/lang/Object", name := "<init>", desc := "()V" } : Jvm.MethodName) object_method_1_code (1 : Nat) (Option.none : Option Jvm.ClassFile.FieldType)).before args0 about1 = true := code_word (m := ⟨0, 0⟩) (meth := k0m0) (c := k0c0) (by decide +kernel) rfl rfl rfl (by decide +kernel)
set_option maxRecDepth 65536 in
theorem w_c3 : (Jvm.Cond.code ({ cls := "com/example/deft_sketch/deftsketch/pairs/TableLayout", name := "blockOf", desc := "(I)I" } : Jvm.MethodName) prog_79_method_13_code (3 : Nat) (Option.some Jvm.ClassFile.FieldType.int)).before args0 about1 = true := code_word (m := ⟨2, 3⟩) (meth := k2m3) (c := k2c3) (by decide +kernel) rfl rfl rfl (by decide +kernel)
set_option maxRecDepth 65536 in
theorem w_c4 : (Jvm.Cond.code ({ cls := "com/example/deft_sketch/deftsketch/pairs/TableLayout", name := "blockStart", desc := "(I)I" } : Jvm.MethodName) prog_79_method_11_code (2 : Nat) (Option.some Jvm.ClassFile.FieldType.int)).before args0 about1 = true := code_word (m := ⟨2, 1⟩) (meth := k2m1) (c := k2c1) (by decide +kernel) rfl rfl rfl (by decide +kernel)
set_option maxRecDepth 65536 in
theorem w_c5 : (Jvm.Cond.code ({ cls := "java/lang/Math", name := "min", desc := "(II)I" } : Jvm.MethodName) jdk_29_method_69_code (2 : Nat) (Option.some Jvm.ClassFile.FieldType.int)).before args0 about1 = true := code_word (m := ⟨3, 1⟩) (meth := k3m1) (c := k3c1) (by decide +kernel) rfl rfl rfl (by decide +kernel)
set_option maxRecDepth 65536 in
theorem w_c6 : (Jvm.Cond.code ({ cls := "com/example/deft_sketch/deftsketch/pairs/TableLayout", name := "blockSize", desc := "(I)I" } : Jvm.MethodName) prog_79_method_12_code (2 : Nat) (Option.some Jvm.ClassFile.FieldType.int)).before args0 about1 = true := code_word (m := ⟨2, 2⟩) (meth := k2m2) (c := k2c2) (by decide +kernel) rfl rfl rfl (by decide +kernel)
def codes1 : List Jvm.Cond := [Jvm.Cond.code x code maxLocals ret, Jvm.Cond.code ({ cls := "com/example/deft_sketch/deftsketch/pairs/TableLayout", name := "<init>", desc := "(II)V" } : Jvm.MethodName) prog_79_method_1_code (3 : Nat) (Option.none : Option Jvm.ClassFile.FieldType), Jvm.Cond.code ({ cls := "java/lang/Object", name := "<init>", desc := "()V" } : Jvm.MethodName) object_method_1_code (1 : Nat) (Option.none : Option Jvm.ClassFile.FieldType), Jvm.Cond.code ({ cls := "com/example/deft_sketch/deftsketch/pairs/TableLayout", name := "blockOf", desc := "(I)I" } : Jvm.MethodName) prog_79_method_13_code (3 : Nat) (Option.some Jvm.ClassFile.FieldType.int), Jvm.Cond.code ({ cls := "com/example/deft_sketch/deftsketch/pairs/TableLayout", name := "blockStart", desc := "(I)I" } : Jvm.MethodName) prog_79_method_11_code (2 : Nat) (Option.some Jvm.ClassFile.FieldType.int), Jvm.Cond.code ({ cls := "java/lang/Math", name := "min", desc := "(II)I" } : Jvm.MethodName) jdk_29_method_69_code (2 : Nat) (Option.some Jvm.ClassFile.FieldType.int), Jvm.Cond.code ({ cls := "com/example/deft_sketch/deftsketch/pairs/TableLayout", name := "blockSize", desc := "(I)I" } : Jvm.MethodName) prog_79_method_12_code (2 : Nat) (Option.some Jvm.ClassFile.FieldType.int)]
set_option maxRecDepth 65536 in
theorem codes_eq : words1.filter isCode = codes1 := rfl
theorem w_codes : ∀ c ∈ words1.filter isCode, c.before args0 about1 = true := by
  rw [codes_eq]
  intro c hc
  simp only [codes1, List.mem_cons, List.not_mem_nil, or_false] at hc
  rcases hc with rfl | rfl | rfl | rfl | rfl | rfl | rfl
  · exact w_c0
  · exact w_c1
  · exact w_c2
  · exact w_c3
  · exact w_c4
  · exact w_c5
  · exact w_c6
set_option maxRecDepth 65536 in
theorem w_t1 : (words1.take 24).all (fun c => isCode c || c.before args0 about1) = true := by decide +kernel
set_option maxRecDepth 65536 in
theorem w_t2 : (words1.drop 24).all (fun c => isCode c || c.before args0 about1) = true := by decide +kernel
theorem w_tables : (allAtoms (Jvm.Cond.code x code maxLocals ret :: tables_1)).before args0 about1 = true := by
  rw [allAtoms_all]
  show words1.all (fun c => c.before args0 about1) = true
  refine all_split ?_ w_codes
  rw [← List.take_append_drop 24 words1, List.all_append, w_t1, w_t2]
  rfl
set_option maxRecDepth 65536 in
theorem w_case : (Jvm.Cond.and given_1 narrow_1).before args0 about1 = true := by decide +kernel
theorem w_applies : (headSpec (Jvm.Cond.code x code maxLocals ret :: tables_1) room_1).applies x e0.platform about1 = true :=
  (Spec.applies_iff w_frames).mpr ⟨w_running, w_runnable, w_alone, w_named, w_hears, w_ripe, w_room, w_tables⟩
theorem atStart : AtStart classFile x code maxLocals ret World_1 tables_1 room_1 Calls_1 rest_1 Pre_1 launch0 p0 e0 about1 theMethod args0 below0 :=
  ⟨lists_1, trivial, launch0.admits_env _ _ _, launch0.least_env, fairChoices_fair.cas, fairChoices_fair.clock, w_frames, w_args, w_heap, w_applies, trivial, trivial, w_case⟩
end start1
theorem witness_1 : WitnessClaimed_1 := ⟨start1.p0, start1.e0, start1.about1, start1.theMethod, start1.args0, start1.below0, start1.atStart⟩
end Jvm.Pilot.@@N@@
