import JvmDerived
import JvmDerived.Pilot.@@N@@Statement
import JvmDerived.Pilot.@@N@@Code
set_option linter.unusedVariables false
set_option linter.unusedSimpArgs false
set_option maxHeartbeats 4000000
namespace Jvm.Pilot.@@N@@
open Jvm Jvm.ClassFile Sem Op Lib Jvm.Free Jvm.Stand Jvm.LawKit Jvm.RoadKit Bundle Jvm.Pilot.@@N@@.Jvm.D

def own_Go (tb : Tables) (e : Env) (below : List Frame) (U : State) (Q : Outcome → State → Prop) : Prop :=
  ∃ s₂ o, Steps tb e below U s₂ ∧ s₂.status = .running ∧ Ended s₂ below o ∧ Q o s₂
def own_QR (s : State) (n0 kc ks : Nat) (P : Option Value → Heap → Prop) (o : Outcome) (u : State) : Prop :=
  ∃ v L, o = .returned v ∧ (P v u.heap ∧ Fr n0 L) ∧ FrameEnd s o u L kc ks
def own_RI (h : Heap) (r : Int32) (v : Option Value) (h' : Heap) : Prop := v = some (.int r) ∧ h = h'
def own_RV (r : Int32) (v : Option Value) (h' : Heap) : Prop := v = some (.int r)
def own_R0 (h : Heap) (r : Unit) (v : Option Value) (h' : Heap) : Prop := v = none ∧ h = h'
def own_RJ (h : Heap) (r : Int64) (v : Option Value) (h' : Heap) : Prop := v = some (.long r) ∧ h = h'
def own_Cx (Z : State) (a0 : Array Value) (p : Program) (l : Launch) (e : Env) (R : Room) (s : State) (m : MethodId) (args : Array Value) (below : List Frame) (meth : Method) (c : Code) (own nm : String) (bytes : ByteArray) (mx : Nat) (ret : Option FieldType) : Prop :=
  p.tables.exec = Jvm.exec ∧ c.code = bytes ∧ c.maxLocals = mx ∧ s.vm.findClass own = some m.cls ∧ Z.Warmed39 s.vm ∧ meth.name = nm ∧ meth.sig.returnType = ret ∧ meth.locks = false ∧ ∀ d ∈ tables_1, d.before a0 Z = true
def own_At (p : Program) (l : Launch) (e : Env) (R : Room) (s : State) (m : MethodId) (args : Array Value) (below : List Frame) (meth : Method) (c : Code) (T : State) (h : Heap) (n0 kc ks : Nat) : Prop :=
  ∃ locs cells slots, Stand p l e R s m args below meth c T locs cells slots ∧ T.heap = h ∧ Fr n0 locs ∧ cells ≤ kc ∧ slots ≤ ks ∧ n0 ≤ h.size
theorem own_go {tb : Tables} {e : Env} {below : List Frame} {U U' : State} {Q : Outcome → State → Prop} (h : ∀ t, Steps tb e below U' t → Steps tb e below U t) (k : own_Go tb e below U' Q) : own_Go tb e below U Q := by
  obtain ⟨s2, o, h1, h2⟩ := k
  exact ⟨s2, o, h _ h1, h2⟩
theorem own_ite {tb : Tables} {e : Env} {below : List Frame} {U s : State} {n0 kc ks : Nat} {β : Type} {P : β → Option Value → Heap → Prop} {cnd : Prop} [Decidable cnd] {A B : β} (h1 : cnd → own_Go tb e below U (own_QR s n0 kc ks (P A))) (h2 : ¬ cnd → own_Go tb e below U (own_QR s n0 kc ks (P B))) :
    own_Go tb e below U (own_QR s n0 kc ks (P (if cnd then A else B))) := by
  by_cases hc : cnd
  · rw [if_pos hc]; exact h1 hc
  · rw [if_neg hc]; exact h2 hc

section OwnKit
variable {Z : State} {a0 : Array Value} {p : Program} {l : Launch} {e : Env} {R : Room} {s : State} {m : MethodId} {args : Array Value} {below : List Frame} {meth : Method} {c : Code} {own nm : String} {bytes : ByteArray} {mx : Nat} {ret : Option FieldType} {T : State} {h : Heap} {n0 kc ks : Nat} {Q : Outcome → State → Prop} {pc q : Nat} {Ls : Array Slot} {st : List Value}
theorem own_here (A : own_At p l e R s m args below meth c T h n0 kc ks) : At T m c below := by obtain ⟨_, _, _, X, _⟩ := A; exact X.here
theorem own_w (C : own_Cx Z a0 p l e R s m args below meth c own nm bytes mx ret) (i : Nat) {d : Jvm.Cond} (hi : tables_1[i]? = some d) : d.before a0 Z = true := C.2.2.2.2.2.2.2.2 d (List.mem_of_getElem? hi)
theorem own_size (A : own_At p l e R s m args below meth c T h n0 kc ks) : n0 ≤ h.size := by obtain ⟨_, _, _, _, _, _, _, _, hn⟩ := A; exact hn
theorem own_more {kc' ks' : Nat} (A : own_At p l e R s m args below meth c T h n0 kc ks) (h1 : kc ≤ kc') (h2 : ks ≤ ks') : own_At p l e R s m args below meth c T h n0 kc' ks' := by obtain ⟨locs, cells, slots, X, eT, N, hc, hs, hn⟩ := A; exact ⟨locs, cells, slots, X, eT, N, Nat.le_trans hc h1, Nat.le_trans hs h2, hn⟩
theorem own_iloadN (C : own_Cx Z a0 p l e R s m args below meth c own nm bytes mx ret) (A : own_At p l e R s m args below meth c T h n0 kc ks) {k : Fin 4} {v : Int32} (hd : decode bytes pc = .ok (.iload_n k, 1)) (hl : Ls[k.val]? = some (.val (.int v))) (hq : pc + 1 = q) (k : own_Go p.tables e below (T.setTop (mkF m q Ls (.int v :: st))) Q) :
    own_Go p.tables e below (T.setTop (mkF m pc Ls st)) Q := by
  subst hq
  exact own_go (fun t => XS.iloadN (own_here A) C.1 rfl (hb C.2.1 hd) hl) k
theorem own_lloadN (C : own_Cx Z a0 p l e R s m args below meth c own nm bytes mx ret) (A : own_At p l e R s m args below meth c T h n0 kc ks) {k : Fin 4} {v : Int64} (hd : decode bytes pc = .ok (.lload_n k, 1)) (hl : Ls[k.val]? = some (.val (.long v))) (hq : pc + 1 = q) (k : own_Go p.tables e below (T.setTop (mkF m q Ls (.long v :: st))) Q) :
    own_Go p.tables e below (T.setTop (mkF m pc Ls st)) Q := by
  subst hq
  exact own_go (fun t => XS.lloadN (own_here A) C.1 rfl (hb C.2.1 hd) hl) k
theorem own_aloadN (C : own_Cx Z a0 p l e R s m args below meth c own nm bytes mx ret) (A : own_At p l e R s m args below meth c T h n0 kc ks) {k : Fin 4} {v : Value} (hd : decode bytes pc = .ok (.aload_n k, 1)) (hl : Ls[k.val]? = some (.val v)) (hv : v.isRef = true) (hq : pc + 1 = q) (k : own_Go p.tables e below (T.setTop (mkF m q Ls (v :: st))) Q) :
    own_Go p.tables e below (T.setTop (mkF m pc Ls st)) Q := by
  subst hq
  exact own_go (fun t => XS.aloadN (own_here A) C.1 rfl (hb C.2.1 hd) hl hv) k
theorem own_istoreN (C : own_Cx Z a0 p l e R s m args below meth c own nm bytes mx ret) (A : own_At p l e R s m args below meth c T h n0 kc ks) {k : Fin 4} {x : Int32} {l' : Array Slot} (hd : decode bytes pc = .ok (.istore_n k, 1)) (hl : storeLocals Ls k.val (.int x) = some l') (hq : pc + 1 = q) (k : own_Go p.tables e below (T.setTop (mkF m q l' st)) Q) :
    own_Go p.tables e below (T.setTop (mkF m pc Ls (.int x :: st))) Q := by
  subst hq
  exact own_go (fun t => XS.istoreN (own_here A) C.1 rfl (hb C.2.1 hd) rfl hl) k
theorem own_lstoreN (C : own_Cx Z a0 p l e R s m args below meth c own nm bytes mx ret) (A : own_At p l e R s m args below meth c T h n0 kc ks) {k : Fin 4} {x : Int64} {l' : Array Slot} (hd : decode bytes pc = .ok (.lstore_n k, 1)) (hl : storeLocals Ls k.val (.long x) = some l') (hq : pc + 1 = q) (k : own_Go p.tables e below (T.setTop (mkF m q l' st)) Q) :
    own_Go p.tables e below (T.setTop (mkF m pc Ls (.long x :: st))) Q := by
  subst hq
  exact own_go (fun t => XS.lstoreN (own_here A) C.1 rfl (hb C.2.1 hd) rfl hl) k
theorem own_astoreN (C : own_Cx Z a0 p l e R s m args below meth c own nm bytes mx ret) (A : own_At p l e R s m args below meth c T h n0 kc ks) {k : Fin 4} {x : Value} {l' : Array Slot} (hd : decode bytes pc = .ok (.astore_n k, 1)) (hv : x.isRef = true) (hl : storeLocals Ls k.val x = some l') (hq : pc + 1 = q) (k : own_Go p.tables e below (T.setTop (mkF m q l' st)) Q) :
    own_Go p.tables e below (T.setTop (mkF m pc Ls (x :: st))) Q := by
  subst hq
  exact own_go (fun t => XS.astoreN (own_here A) C.1 rfl (hb C.2.1 hd) rfl hv hl) k
theorem own_iload (C : own_Cx Z a0 p l e R s m args below meth c own nm bytes mx ret) (A : own_At p l e R s m args below meth c T h n0 kc ks) {k : Nat} {v : Int32} (hd : decode bytes pc = .ok (.iload k, 2)) (hl : Ls[k]? = some (.val (.int v))) (hq : pc + 2 = q) (k : own_Go p.tables e below (T.setTop (mkF m q Ls (.int v :: st))) Q) :
    own_Go p.tables e below (T.setTop (mkF m pc Ls st)) Q := by
  subst hq
  exact own_go (fun t => XS.iload (own_here A) C.1 rfl (hb C.2.1 hd) hl) k
theorem own_lload (C : own_Cx Z a0 p l e R s m args below meth c own nm bytes mx ret) (A : own_At p l e R s m args below meth c T h n0 kc ks) {k : Nat} {v : Int64} (hd : decode bytes pc = .ok (.lload k, 2)) (hl : Ls[k]? = some (.val (.long v))) (hq : pc + 2 = q) (k : own_Go p.tables e below (T.setTop (mkF m q Ls (.long v :: st))) Q) :
    own_Go p.tables e below (T.setTop (mkF m pc Ls st)) Q := by
  subst hq
  exact own_go (fun t => XS.lload (own_here A) C.1 rfl (hb C.2.1 hd) hl) k
theorem own_aload (C : own_Cx Z a0 p l e R s m args below meth c own nm bytes mx ret) (A : own_At p l e R s m args below meth c T h n0 kc ks) {k : Nat} {v : Value} (hd : decode bytes pc = .ok (.aload k, 2)) (hl : Ls[k]? = some (.val v)) (hv : v.isRef = true) (hq : pc + 2 = q) (k : own_Go p.tables e below (T.setTop (mkF m q Ls (v :: st))) Q) :
    own_Go p.tables e below (T.setTop (mkF m pc Ls st)) Q := by
  subst hq
  exact own_go (fun t => XS.aload (own_here A) C.1 rfl (hb C.2.1 hd) hl hv) k
theorem own_istore (C : own_Cx Z a0 p l e R s m args below meth c own nm bytes mx ret) (A : own_At p l e R s m args below meth c T h n0 kc ks) {k : Nat} {x : Int32} {l' : Array Slot} (hd : decode bytes pc = .ok (.istore k, 2)) (hl : storeLocals Ls k (.int x) = some l') (hq : pc + 2 = q) (k : own_Go p.tables e below (T.setTop (mkF m q l' st)) Q) :
    own_Go p.tables e below (T.setTop (mkF m pc Ls (.int x :: st))) Q := by
  subst hq
  exact own_go (fun t => XS.istore (own_here A) C.1 rfl (hb C.2.1 hd) rfl hl) k
theorem own_lstore (C : own_Cx Z a0 p l e R s m args below meth c own nm bytes mx ret) (A : own_At p l e R s m args below meth c T h n0 kc ks) {k : Nat} {x : Int64} {l' : Array Slot} (hd : decode bytes pc = .ok (.lstore k, 2)) (hl : storeLocals Ls k (.long x) = some l') (hq : pc + 2 = q) (k : own_Go p.tables e below (T.setTop (mkF m q l' st)) Q) :
    own_Go p.tables e below (T.setTop (mkF m pc Ls (.long x :: st))) Q := by
  subst hq
  exact own_go (fun t => XS.lstore (own_here A) C.1 rfl (hb C.2.1 hd) rfl hl) k
theorem own_astore (C : own_Cx Z a0 p l e R s m args below meth c own nm bytes mx ret) (A : own_At p l e R s m args below meth c T h n0 kc ks) {k : Nat} {x : Value} {l' : Array Slot} (hd : decode bytes pc = .ok (.astore k, 2)) (hv : x.isRef = true) (hl : storeLocals Ls k x = some l') (hq : pc + 2 = q) (k : own_Go p.tables e below (T.setTop (mkF m q l' st)) Q) :
    own_Go p.tables e below (T.setTop (mkF m pc Ls (x :: st))) Q := by
  subst hq
  exact own_go (fun t => XS.astore (own_here A) C.1 rfl (hb C.2.1 hd) rfl hv hl) k
theorem own_iconst (C : own_Cx Z a0 p l e R s m args below meth c own nm bytes mx ret) (A : own_At p l e R s m args below meth c T h n0 kc ks) {i : Int} {v : Int32} (hd : decode bytes pc = .ok (.iconst i, 1)) (hv : Int32.ofInt i = v) (hq : pc + 1 = q) (k : own_Go p.tables e below (T.setTop (mkF m q Ls (.int v :: st))) Q) :
    own_Go p.tables e below (T.setTop (mkF m pc Ls st)) Q := by
  subst hq hv
  exact own_go (fun t => XS.iconst (own_here A) C.1 rfl (hb C.2.1 hd)) k
theorem own_bipush (C : own_Cx Z a0 p l e R s m args below meth c own nm bytes mx ret) (A : own_At p l e R s m args below meth c T h n0 kc ks) {i : Int} {v : Int32} (hd : decode bytes pc = .ok (.bipush i, 2)) (hv : (Int8.ofInt i).toInt32 = v) (hq : pc + 2 = q) (k : own_Go p.tables e below (T.setTop (mkF m q Ls (.int v :: st))) Q) :
    own_Go p.tables e below (T.setTop (mkF m pc Ls st)) Q := by
  subst hq hv
  exact own_go (fun t => XS.bipush (own_here A) C.1 rfl (hb C.2.1 hd)) k
theorem own_sipush (C : own_Cx Z a0 p l e R s m args below meth c own nm bytes mx ret) (A : own_At p l e R s m args below meth c T h n0 kc ks) {i : Int} {v : Int32} (hd : decode bytes pc = .ok (.sipush i, 3)) (hv : (Int16.ofInt i).toInt32 = v) (hq : pc + 3 = q) (k : own_Go p.tables e below (T.setTop (mkF m q Ls (.int v :: st))) Q) :
    own_Go p.tables e below (T.setTop (mkF m pc Ls st)) Q := by
  subst hq hv
  exact own_go (fun t => XS.sipush (own_here A) C.1 rfl (hb C.2.1 hd)) k
theorem own_lconst (C : own_Cx Z a0 p l e R s m args below meth c own nm bytes mx ret) (A : own_At p l e R s m args below meth c T h n0 kc ks) {k' : Fin 2} {v : Int64} (hd : decode bytes pc = .ok (.lconst k', 1)) (hv : Int64.ofNat k' = v) (hq : pc + 1 = q) (k : own_Go p.tables e below (T.setTop (mkF m q Ls (.long v :: st))) Q) :
    own_Go p.tables e below (T.setTop (mkF m pc Ls st)) Q := by
  subst hq hv
  exact own_go (fun t => XS.lconst (own_here A) C.1 rfl (hb C.2.1 hd)) k
theorem own_aconstNull (C : own_Cx Z a0 p l e R s m args below meth c own nm bytes mx ret) (A : own_At p l e R s m args below meth c T h n0 kc ks)  (hd : decode bytes pc = .ok (.aconst_null, 1))  (hq : pc + 1 = q) (k : own_Go p.tables e below (T.setTop (mkF m q Ls (.null :: st))) Q) :
    own_Go p.tables e below (T.setTop (mkF m pc Ls st)) Q := by
  subst hq
  exact own_go (fun t => XS.aconstNull (own_here A) C.1 rfl (hb C.2.1 hd) ) k
theorem own_iadd (C : own_Cx Z a0 p l e R s m args below meth c own nm bytes mx ret) (A : own_At p l e R s m args below meth c T h n0 kc ks) {x y : Int32} (hd : decode bytes pc = .ok (.iadd, 1))  (hq : pc + 1 = q) (k : own_Go p.tables e below (T.setTop (mkF m q Ls (.int (x + y) :: st))) Q) :
    own_Go p.tables e below (T.setTop (mkF m pc Ls (.int y :: .int x :: st))) Q := by
  subst hq
  exact own_go (fun t => XS.iadd (own_here A) C.1 rfl (hb C.2.1 hd) rfl) k
theorem own_isub (C : own_Cx Z a0 p l e R s m args below meth c own nm bytes mx ret) (A : own_At p l e R s m args below meth c T h n0 kc ks) {x y : Int32} (hd : decode bytes pc = .ok (.isub, 1))  (hq : pc + 1 = q) (k : own_Go p.tables e below (T.setTop (mkF m q Ls (.int (x - y) :: st))) Q) :
    own_Go p.tables e below (T.setTop (mkF m pc Ls (.int y :: .int x :: st))) Q := by
  subst hq
  exact own_go (fun t => XS.isub (own_here A) C.1 rfl (hb C.2.1 hd) rfl) k
theorem own_imul (C : own_Cx Z a0 p l e R s m args below meth c own nm bytes mx ret) (A : own_At p l e R s m args below meth c T h n0 kc ks) {x y : Int32} (hd : decode bytes pc = .ok (.imul, 1))  (hq : pc + 1 = q) (k : own_Go p.tables e below (T.setTop (mkF m q Ls (.int (x * y) :: st))) Q) :
    own_Go p.tables e below (T.setTop (mkF m pc Ls (.int y :: .int x :: st))) Q := by
  subst hq
  exact own_go (fun t => XS.imul (own_here A) C.1 rfl (hb C.2.1 hd) rfl) k
theorem own_iand (C : own_Cx Z a0 p l e R s m args below meth c own nm bytes mx ret) (A : own_At p l e R s m args below meth c T h n0 kc ks) {x y : Int32} (hd : decode bytes pc = .ok (.iand, 1))  (hq : pc + 1 = q) (k : own_Go p.tables e below (T.setTop (mkF m q Ls (.int (x &&& y) :: st))) Q) :
    own_Go p.tables e below (T.setTop (mkF m pc Ls (.int y :: .int x :: st))) Q := by
  subst hq
  exact own_go (fun t => XS.iand (own_here A) C.1 rfl (hb C.2.1 hd) rfl) k
theorem own_ior (C : own_Cx Z a0 p l e R s m args below meth c own nm bytes mx ret) (A : own_At p l e R s m args below meth c T h n0 kc ks) {x y : Int32} (hd : decode bytes pc = .ok (.ior, 1))  (hq : pc + 1 = q) (k : own_Go p.tables e below (T.setTop (mkF m q Ls (.int (x ||| y) :: st))) Q) :
    own_Go p.tables e below (T.setTop (mkF m pc Ls (.int y :: .int x :: st))) Q := by
  subst hq
  exact own_go (fun t => XS.ior (own_here A) C.1 rfl (hb C.2.1 hd) rfl) k
theorem own_ixor (C : own_Cx Z a0 p l e R s m args below meth c own nm bytes mx ret) (A : own_At p l e R s m args below meth c T h n0 kc ks) {x y : Int32} (hd : decode bytes pc = .ok (.ixor, 1))  (hq : pc + 1 = q) (k : own_Go p.tables e below (T.setTop (mkF m q Ls (.int (x ^^^ y) :: st))) Q) :
    own_Go p.tables e below (T.setTop (mkF m pc Ls (.int y :: .int x :: st))) Q := by
  subst hq
  exact own_go (fun t => XS.ixor (own_here A) C.1 rfl (hb C.2.1 hd) rfl) k
theorem own_ishl (C : own_Cx Z a0 p l e R s m args below meth c own nm bytes mx ret) (A : own_At p l e R s m args below meth c T h n0 kc ks) {x y : Int32} (hd : decode bytes pc = .ok (.ishl, 1))  (hq : pc + 1 = q) (k : own_Go p.tables e below (T.setTop (mkF m q Ls (.int (x <<< (y &&& 31)) :: st))) Q) :
    own_Go p.tables e below (T.setTop (mkF m pc Ls (.int y :: .int x :: st))) Q := by
  subst hq
  exact own_go (fun t => XS.ishl (own_here A) C.1 rfl (hb C.2.1 hd) rfl) k
theorem own_ishr (C : own_Cx Z a0 p l e R s m args below meth c own nm bytes mx ret) (A : own_At p l e R s m args below meth c T h n0 kc ks) {x y : Int32} (hd : decode bytes pc = .ok (.ishr, 1))  (hq : pc + 1 = q) (k : own_Go p.tables e below (T.setTop (mkF m q Ls (.int (x >>> (y &&& 31)) :: st))) Q) :
    own_Go p.tables e below (T.setTop (mkF m pc Ls (.int y :: .int x :: st))) Q := by
  subst hq
  exact own_go (fun t => XS.ishr (own_here A) C.1 rfl (hb C.2.1 hd) rfl) k
theorem own_iushr (C : own_Cx Z a0 p l e R s m args below meth c own nm bytes mx ret) (A : own_At p l e R s m args below meth c T h n0 kc ks) {x y : Int32} (hd : decode bytes pc = .ok (.iushr, 1))  (hq : pc + 1 = q) (k : own_Go p.tables e below (T.setTop (mkF m q Ls (.int ((x.toUInt32 >>> (y &&& 31).toUInt32).toInt32) :: st))) Q) :
    own_Go p.tables e below (T.setTop (mkF m pc Ls (.int y :: .int x :: st))) Q := by
  subst hq
  exact own_go (fun t => XS.iushr (own_here A) C.1 rfl (hb C.2.1 hd) rfl) k
theorem own_ladd (C : own_Cx Z a0 p l e R s m args below meth c own nm bytes mx ret) (A : own_At p l e R s m args below meth c T h n0 kc ks) {x y : Int64} (hd : decode bytes pc = .ok (.ladd, 1))  (hq : pc + 1 = q) (k : own_Go p.tables e below (T.setTop (mkF m q Ls (.long (x + y) :: st))) Q) :
    own_Go p.tables e below (T.setTop (mkF m pc Ls (.long y :: .long x :: st))) Q := by
  subst hq
  exact own_go (fun t => XS.ladd (own_here A) C.1 rfl (hb C.2.1 hd) rfl) k
theorem own_lsub (C : own_Cx Z a0 p l e R s m args below meth c own nm bytes mx ret) (A : own_At p l e R s m args below meth c T h n0 kc ks) {x y : Int64} (hd : decode bytes pc = .ok (.lsub, 1))  (hq : pc + 1 = q) (k : own_Go p.tables e below (T.setTop (mkF m q Ls (.long (x - y) :: st))) Q) :
    own_Go p.tables e below (T.setTop (mkF m pc Ls (.long y :: .long x :: st))) Q := by
  subst hq
  exact own_go (fun t => XS.lsub (own_here A) C.1 rfl (hb C.2.1 hd) rfl) k
theorem own_lmul (C : own_Cx Z a0 p l e R s m args below meth c own nm bytes mx ret) (A : own_At p l e R s m args below meth c T h n0 kc ks) {x y : Int64} (hd : decode bytes pc = .ok (.lmul, 1))  (hq : pc + 1 = q) (k : own_Go p.tables e below (T.setTop (mkF m q Ls (.long (x * y) :: st))) Q) :
    own_Go p.tables e below (T.setTop (mkF m pc Ls (.long y :: .long x :: st))) Q := by
  subst hq
  exact own_go (fun t => XS.lmul (own_here A) C.1 rfl (hb C.2.1 hd) rfl) k
theorem own_land (C : own_Cx Z a0 p l e R s m args below meth c own nm bytes mx ret) (A : own_At p l e R s m args below meth c T h n0 kc ks) {x y : Int64} (hd : decode bytes pc = .ok (.land, 1))  (hq : pc + 1 = q) (k : own_Go p.tables e below (T.setTop (mkF m q Ls (.long (x &&& y) :: st))) Q) :
    own_Go p.tables e below (T.setTop (mkF m pc Ls (.long y :: .long x :: st))) Q := by
  subst hq
  exact own_go (fun t => XS.land (own_here A) C.1 rfl (hb C.2.1 hd) rfl) k
theorem own_lor (C : own_Cx Z a0 p l e R s m args below meth c own nm bytes mx ret) (A : own_At p l e R s m args below meth c T h n0 kc ks) {x y : Int64} (hd : decode bytes pc = .ok (.lor, 1))  (hq : pc + 1 = q) (k : own_Go p.tables e below (T.setTop (mkF m q Ls (.long (x ||| y) :: st))) Q) :
    own_Go p.tables e below (T.setTop (mkF m pc Ls (.long y :: .long x :: st))) Q := by
  subst hq
  exact own_go (fun t => XS.lor (own_here A) C.1 rfl (hb C.2.1 hd) rfl) k
theorem own_lxor (C : own_Cx Z a0 p l e R s m args below meth c own nm bytes mx ret) (A : own_At p l e R s m args below meth c T h n0 kc ks) {x y : Int64} (hd : decode bytes pc = .ok (.lxor, 1))  (hq : pc + 1 = q) (k : own_Go p.tables e below (T.setTop (mkF m q Ls (.long (x ^^^ y) :: st))) Q) :
    own_Go p.tables e below (T.setTop (mkF m pc Ls (.long y :: .long x :: st))) Q := by
  subst hq
  exact own_go (fun t => XS.lxor (own_here A) C.1 rfl (hb C.2.1 hd) rfl) k
theorem own_lshl (C : own_Cx Z a0 p l e R s m args below meth c own nm bytes mx ret) (A : own_At p l e R s m args below meth c T h n0 kc ks) {x : Int64} {y : Int32} (hd : decode bytes pc = .ok (.lshl, 1))  (hq : pc + 1 = q) (k : own_Go p.tables e below (T.setTop (mkF m q Ls (.long (x <<< (y &&& 0x3f).toInt64) :: st))) Q) :
    own_Go p.tables e below (T.setTop (mkF m pc Ls (.int y :: .long x :: st))) Q := by
  subst hq
  exact own_go (fun t => XS.lshl (own_here A) C.1 rfl (hb C.2.1 hd) rfl) k
theorem own_lshr (C : own_Cx Z a0 p l e R s m args below meth c own nm bytes mx ret) (A : own_At p l e R s m args below meth c T h n0 kc ks) {x : Int64} {y : Int32} (hd : decode bytes pc = .ok (.lshr, 1))  (hq : pc + 1 = q) (k : own_Go p.tables e below (T.setTop (mkF m q Ls (.long (x >>> (y &&& 0x3f).toInt64) :: st))) Q) :
    own_Go p.tables e below (T.setTop (mkF m pc Ls (.int y :: .long x :: st))) Q := by
  subst hq
  exact own_go (fun t => XS.lshr (own_here A) C.1 rfl (hb C.2.1 hd) rfl) k
theorem own_lushr (C : own_Cx Z a0 p l e R s m args below meth c own nm bytes mx ret) (A : own_At p l e R s m args below meth c T h n0 kc ks) {x : Int64} {y : Int32} (hd : decode bytes pc = .ok (.lushr, 1))  (hq : pc + 1 = q) (k : own_Go p.tables e below (T.setTop (mkF m q Ls (.long ((x.toUInt64 >>> (y &&& 0x3f).toInt64.toUInt64).toInt64) :: st))) Q) :
    own_Go p.tables e below (T.setTop (mkF m pc Ls (.int y :: .long x :: st))) Q := by
  subst hq
  exact own_go (fun t => XS.lushr (own_here A) C.1 rfl (hb C.2.1 hd) rfl) k
theorem own_irem (C : own_Cx Z a0 p l e R s m args below meth c own nm bytes mx ret) (A : own_At p l e R s m args below meth c T h n0 kc ks) {x y : Int32} (hd : decode bytes pc = .ok (.irem, 1)) (hy : y ≠ 0) (hq : pc + 1 = q) (k : own_Go p.tables e below (T.setTop (mkF m q Ls (.int (x % y) :: st))) Q) :
    own_Go p.tables e below (T.setTop (mkF m pc Ls (.int y :: .int x :: st))) Q := by
  obtain ⟨_, _, _, X, _⟩ := A
  subst hq
  exact own_go (fun t => iremM (g := mkF m pc Ls (.int y :: .int x :: st)) X C.1 rfl (hb C.2.1 hd) rfl hy) k
theorem own_lrem (C : own_Cx Z a0 p l e R s m args below meth c own nm bytes mx ret) (A : own_At p l e R s m args below meth c T h n0 kc ks) {x y : Int64} (hd : decode bytes pc = .ok (.lrem, 1)) (hy : y ≠ 0) (hq : pc + 1 = q) (k : own_Go p.tables e below (T.setTop (mkF m q Ls (.long (x % y) :: st))) Q) :
    own_Go p.tables e below (T.setTop (mkF m pc Ls (.long y :: .long x :: st))) Q := by
  subst hq
  rw [← lrem_mod x y] at k
  exact own_go (fun t => XS.lrem (own_here A) C.1 rfl (hb C.2.1 hd) rfl hy) k
theorem own_idiv (C : own_Cx Z a0 p l e R s m args below meth c own nm bytes mx ret) (A : own_At p l e R s m args below meth c T h n0 kc ks) {x y : Int32} (hd : decode bytes pc = .ok (.idiv, 1)) (hy : y ≠ 0) (hq : pc + 1 = q) (k : own_Go p.tables e below (T.setTop (mkF m q Ls (.int (x / y) :: st))) Q) :
    own_Go p.tables e below (T.setTop (mkF m pc Ls (.int y :: .int x :: st))) Q := by
  subst hq
  exact own_go (fun t => XS.idiv (own_here A) C.1 rfl (hb C.2.1 hd) rfl hy) k
theorem own_ldiv (C : own_Cx Z a0 p l e R s m args below meth c own nm bytes mx ret) (A : own_At p l e R s m args below meth c T h n0 kc ks) {x y : Int64} (hd : decode bytes pc = .ok (.ldiv, 1)) (hy : y ≠ 0) (hq : pc + 1 = q) (k : own_Go p.tables e below (T.setTop (mkF m q Ls (.long (x / y) :: st))) Q) :
    own_Go p.tables e below (T.setTop (mkF m pc Ls (.long y :: .long x :: st))) Q := by
  subst hq
  exact own_go (fun t => XS.ldiv (own_here A) C.1 rfl (hb C.2.1 hd) rfl hy) k
theorem own_ineg (C : own_Cx Z a0 p l e R s m args below meth c own nm bytes mx ret) (A : own_At p l e R s m args below meth c T h n0 kc ks) {x : Int32} (hd : decode bytes pc = .ok (.ineg, 1))  (hq : pc + 1 = q) (k : own_Go p.tables e below (T.setTop (mkF m q Ls (.int (-x) :: st))) Q) :
    own_Go p.tables e below (T.setTop (mkF m pc Ls (.int x :: st))) Q := by
  subst hq
  exact own_go (fun t => XS.ineg (own_here A) C.1 rfl (hb C.2.1 hd) rfl) k
theorem own_lneg (C : own_Cx Z a0 p l e R s m args below meth c own nm bytes mx ret) (A : own_At p l e R s m args below meth c T h n0 kc ks) {x : Int64} (hd : decode bytes pc = .ok (.lneg, 1))  (hq : pc + 1 = q) (k : own_Go p.tables e below (T.setTop (mkF m q Ls (.long (-x) :: st))) Q) :
    own_Go p.tables e below (T.setTop (mkF m pc Ls (.long x :: st))) Q := by
  subst hq
  exact own_go (fun t => XS.lneg (own_here A) C.1 rfl (hb C.2.1 hd) rfl) k
theorem own_i2b (C : own_Cx Z a0 p l e R s m args below meth c own nm bytes mx ret) (A : own_At p l e R s m args below meth c T h n0 kc ks) {x : Int32} (hd : decode bytes pc = .ok (.i2b, 1))  (hq : pc + 1 = q) (k : own_Go p.tables e below (T.setTop (mkF m q Ls (.int (x.toInt8.toInt32) :: st))) Q) :
    own_Go p.tables e below (T.setTop (mkF m pc Ls (.int x :: st))) Q := by
  subst hq
  exact own_go (fun t => XS.i2b (own_here A) C.1 rfl (hb C.2.1 hd) rfl) k
theorem own_i2c (C : own_Cx Z a0 p l e R s m args below meth c own nm bytes mx ret) (A : own_At p l e R s m args below meth c T h n0 kc ks) {x : Int32} (hd : decode bytes pc = .ok (.i2c, 1))  (hq : pc + 1 = q) (k : own_Go p.tables e below (T.setTop (mkF m q Ls (.int (x.toUInt32.toUInt16.toUInt32.toInt32) :: st))) Q) :
    own_Go p.tables e below (T.setTop (mkF m pc Ls (.int x :: st))) Q := by
  subst hq
  exact own_go (fun t => XS.i2c (own_here A) C.1 rfl (hb C.2.1 hd) rfl) k
theorem own_i2s (C : own_Cx Z a0 p l e R s m args below meth c own nm bytes mx ret) (A : own_At p l e R s m args below meth c T h n0 kc ks) {x : Int32} (hd : decode bytes pc = .ok (.i2s, 1))  (hq : pc + 1 = q) (k : own_Go p.tables e below (T.setTop (mkF m q Ls (.int (x.toInt16.toInt32) :: st))) Q) :
    own_Go p.tables e below (T.setTop (mkF m pc Ls (.int x :: st))) Q := by
  subst hq
  exact own_go (fun t => XS.i2s (own_here A) C.1 rfl (hb C.2.1 hd) rfl) k
theorem own_i2l (C : own_Cx Z a0 p l e R s m args below meth c own nm bytes mx ret) (A : own_At p l e R s m args below meth c T h n0 kc ks) {x : Int32} (hd : decode bytes pc = .ok (.i2l, 1))  (hq : pc + 1 = q) (k : own_Go p.tables e below (T.setTop (mkF m q Ls (.long x.toInt64 :: st))) Q) :
    own_Go p.tables e below (T.setTop (mkF m pc Ls (.int x :: st))) Q := by
  subst hq
  exact own_go (fun t => XS.i2l (own_here A) C.1 rfl (hb C.2.1 hd) rfl) k
theorem own_l2i (C : own_Cx Z a0 p l e R s m args below meth c own nm bytes mx ret) (A : own_At p l e R s m args below meth c T h n0 kc ks) {x : Int64} (hd : decode bytes pc = .ok (.l2i, 1))  (hq : pc + 1 = q) (k : own_Go p.tables e below (T.setTop (mkF m q Ls (.int x.toInt32 :: st))) Q) :
    own_Go p.tables e below (T.setTop (mkF m pc Ls (.long x :: st))) Q := by
  subst hq
  exact own_go (fun t => XS.l2i (own_here A) C.1 rfl (hb C.2.1 hd) rfl) k
theorem own_lcmp (C : own_Cx Z a0 p l e R s m args below meth c own nm bytes mx ret) (A : own_At p l e R s m args below meth c T h n0 kc ks) {x y : Int64} (hd : decode bytes pc = .ok (.lcmp, 1))  (hq : pc + 1 = q) (k : own_Go p.tables e below (T.setTop (mkF m q Ls (.int (Jvm.Free.XT.cmpL x y) :: st))) Q) :
    own_Go p.tables e below (T.setTop (mkF m pc Ls (.long y :: .long x :: st))) Q := by
  subst hq
  exact own_go (fun t => Jvm.Free.XT.lcmp (own_here A) C.1 rfl (hb C.2.1 hd) rfl) k
theorem own_iinc (C : own_Cx Z a0 p l e R s m args below meth c own nm bytes mx ret) (A : own_At p l e R s m args below meth c T h n0 kc ks) {k' : Nat} {i : Int} {x : Int32} {l' : Array Slot} (hd : decode bytes pc = .ok (.iinc k' i, 3)) (hl : Ls[k']? = some (.val (.int x))) (hl' : storeLocals Ls k' (.int (x + Int32.ofInt i)) = some l') (hq : pc + 3 = q) (k : own_Go p.tables e below (T.setTop (mkF m q l' st)) Q) :
    own_Go p.tables e below (T.setTop (mkF m pc Ls st)) Q := by
  subst hq
  exact own_go (fun t => XS.iinc (own_here A) C.1 rfl (hb C.2.1 hd) hl hl') k
theorem own_istoreX (C : own_Cx Z a0 p l e R s m args below meth c own nm bytes mx ret) (A : own_At p l e R s m args below meth c T h n0 kc ks) {k' : Nat} {x : Int32} {o : Slot} {l' : Array Slot} (hd : decode bytes pc = .ok (.istore k', 2)) (hold : Ls[k']? = some o) (ho : One o) (hl : Ls.setIfInBounds k' (.val (.int x)) = l') (hq : pc + 2 = q) (k : own_Go p.tables e below (T.setTop (mkF m q l' st)) Q) :
    own_Go p.tables e below (T.setTop (mkF m pc Ls (.int x :: st))) Q := by
  subst hq hl
  exact own_go (fun t => XS.istoreS (own_here A) C.1 rfl (hb C.2.1 hd) rfl hold ho) k
theorem own_pop (C : own_Cx Z a0 p l e R s m args below meth c own nm bytes mx ret) (A : own_At p l e R s m args below meth c T h n0 kc ks) {x : Value} (hd : decode bytes pc = .ok (.pop, 1)) (hc : x.category = 1) (hq : pc + 1 = q) (k : own_Go p.tables e below (T.setTop (mkF m q Ls st)) Q) :
    own_Go p.tables e below (T.setTop (mkF m pc Ls (x :: st))) Q := by
  subst hq
  exact own_go (fun t => XS.pop (own_here A) C.1 rfl (hb C.2.1 hd) rfl hc) k
theorem own_dup (C : own_Cx Z a0 p l e R s m args below meth c own nm bytes mx ret) (A : own_At p l e R s m args below meth c T h n0 kc ks) {x : Value} (hd : decode bytes pc = .ok (.dup, 1)) (hc : x.category = 1) (hq : pc + 1 = q) (k : own_Go p.tables e below (T.setTop (mkF m q Ls (x :: x :: st))) Q) :
    own_Go p.tables e below (T.setTop (mkF m pc Ls (x :: st))) Q := by
  subst hq
  exact own_go (fun t => XS.dup (own_here A) C.1 rfl (hb C.2.1 hd) rfl hc) k
theorem own_dupX1 (C : own_Cx Z a0 p l e R s m args below meth c own nm bytes mx ret) (A : own_At p l e R s m args below meth c T h n0 kc ks) {x y : Value} (hd : decode bytes pc = .ok (.dup_x1, 1)) (hc : x.category = 1) (hc' : y.category = 1) (hq : pc + 1 = q) (k : own_Go p.tables e below (T.setTop (mkF m q Ls (x :: y :: x :: st))) Q) :
    own_Go p.tables e below (T.setTop (mkF m pc Ls (x :: y :: st))) Q := by
  subst hq
  exact own_go (fun t => XS.dupX1 (own_here A) C.1 rfl (hb C.2.1 hd) rfl hc hc') k
theorem own_dup2L (C : own_Cx Z a0 p l e R s m args below meth c own nm bytes mx ret) (A : own_At p l e R s m args below meth c T h n0 kc ks) {x : Int64} (hd : decode bytes pc = .ok (.dup2, 1))  (hq : pc + 1 = q) (k : own_Go p.tables e below (T.setTop (mkF m q Ls (.long x :: .long x :: st))) Q) :
    own_Go p.tables e below (T.setTop (mkF m pc Ls (.long x :: st))) Q := by
  subst hq
  exact own_go (fun t => Jvm.Free.XT.dup2L (own_here A) C.1 rfl (hb C.2.1 hd) rfl) k
theorem own_dup2 (C : own_Cx Z a0 p l e R s m args below meth c own nm bytes mx ret) (A : own_At p l e R s m args below meth c T h n0 kc ks) {x y : Value} (hd : decode bytes pc = .ok (.dup2, 1)) (hc : x.category = 1) (hc' : y.category = 1) (hq : pc + 1 = q) (k : own_Go p.tables e below (T.setTop (mkF m q Ls (x :: y :: x :: y :: st))) Q) :
    own_Go p.tables e below (T.setTop (mkF m pc Ls (x :: y :: st))) Q := by
  subst hq
  exact own_go (fun t => Jvm.Free.XT.dup2 (own_here A) C.1 rfl (hb C.2.1 hd) rfl hc hc') k
theorem own_goto (C : own_Cx Z a0 p l e R s m args below meth c own nm bytes mx ret) (A : own_At p l e R s m args below meth c T h n0 kc ks) {i : Int} (hd : decode bytes pc = .ok (.goto i, 3)) (ho : 0 ≤ (pc : Int) + i) (hq : ((pc : Int) + i).toNat = q) (k : own_Go p.tables e below (T.setTop (mkF m q Ls st)) Q) :
    own_Go p.tables e below (T.setTop (mkF m pc Ls st)) Q := own_go (fun t => XS.goto (own_here A) C.1 rfl rfl (hb C.2.1 hd) ho hq) k
theorem own_icmpY (C : own_Cx Z a0 p l e R s m args below meth c own nm bytes mx ret) (A : own_At p l e R s m args below meth c T h n0 kc ks) {cd : ClassFile.Cond} {i : Int} {x y : Int32} (hd : decode bytes pc = .ok (.if_icmp cd i, 3)) (hc : if_icmp.holds cd x y = true) (ho : 0 ≤ (pc : Int) + i) (hq : ((pc : Int) + i).toNat = q) (k : own_Go p.tables e below (T.setTop (mkF m q Ls st)) Q) :
    own_Go p.tables e below (T.setTop (mkF m pc Ls (.int y :: .int x :: st))) Q := own_go (fun t => XS.icmpYes (own_here A) C.1 rfl rfl (hb C.2.1 hd) rfl hc ho hq) k
theorem own_icmpN (C : own_Cx Z a0 p l e R s m args below meth c own nm bytes mx ret) (A : own_At p l e R s m args below meth c T h n0 kc ks) {cd : ClassFile.Cond} {i : Int} {x y : Int32} (hd : decode bytes pc = .ok (.if_icmp cd i, 3)) (hc : if_icmp.holds cd x y = false) (hq : pc + 3 = q) (k : own_Go p.tables e below (T.setTop (mkF m q Ls st)) Q) :
    own_Go p.tables e below (T.setTop (mkF m pc Ls (.int y :: .int x :: st))) Q := by
  subst hq
  exact own_go (fun t => XS.icmpNo (own_here A) C.1 rfl (hb C.2.1 hd) rfl hc) k
theorem own_ifY (C : own_Cx Z a0 p l e R s m args below meth c own nm bytes mx ret) (A : own_At p l e R s m args below meth c T h n0 kc ks) {cd : ClassFile.Cond} {i : Int} {x : Int32} (hd : decode bytes pc = .ok (.ifCond cd i, 3)) (hc : ifCond.holds cd x = true) (ho : 0 ≤ (pc : Int) + i) (hq : ((pc : Int) + i).toNat = q) (k : own_Go p.tables e below (T.setTop (mkF m q Ls st)) Q) :
    own_Go p.tables e below (T.setTop (mkF m pc Ls (.int x :: st))) Q := own_go (fun t => XS.ifYes (own_here A) C.1 rfl rfl (hb C.2.1 hd) rfl hc ho hq) k
theorem own_ifN (C : own_Cx Z a0 p l e R s m args below meth c own nm bytes mx ret) (A : own_At p l e R s m args below meth c T h n0 kc ks) {cd : ClassFile.Cond} {i : Int} {x : Int32} (hd : decode bytes pc = .ok (.ifCond cd i, 3)) (hc : ifCond.holds cd x = false) (hq : pc + 3 = q) (k : own_Go p.tables e below (T.setTop (mkF m q Ls st)) Q) :
    own_Go p.tables e below (T.setTop (mkF m pc Ls (.int x :: st))) Q := by
  subst hq
  exact own_go (fun t => XS.ifNo (own_here A) C.1 rfl (hb C.2.1 hd) rfl hc) k
theorem own_ldcI (C : own_Cx Z a0 p l e R s m args below meth c own nm bytes mx ret) (A : own_At p l e R s m args below meth c T h n0 kc ks) {i : Nat} {v : Int32} (w : (Jvm.Cond.constant own i v).before a0 Z = true) (hd : decode bytes pc = .ok (.ldc i, 2)) (hq : pc + 2 = q) (k : own_Go p.tables e below (T.setTop (mkF m q Ls (.int v :: st))) Q) :
    own_Go p.tables e below (T.setTop (mkF m pc Ls st)) Q := by
  obtain ⟨_, _, _, X, _⟩ := A
  subst hq
  exact own_go (X.ldcInt C.1 C.2.2.2.1 (mvT C.2.2.2.2.1 w) (g := mkF m pc Ls st) rfl (hb C.2.1 hd)) k
theorem own_ldcJ (C : own_Cx Z a0 p l e R s m args below meth c own nm bytes mx ret) (A : own_At p l e R s m args below meth c T h n0 kc ks) {i : Nat} {v : Int64} (w : (Jvm.Cond.constantLong own i v).before a0 Z = true) (hd : decode bytes pc = .ok (.ldc2_w i, 3)) (hq : pc + 3 = q) (k : own_Go p.tables e below (T.setTop (mkF m q Ls (.long v :: st))) Q) :
    own_Go p.tables e below (T.setTop (mkF m pc Ls st)) Q := by
  obtain ⟨_, _, _, X, _⟩ := A
  subst hq
  exact own_go (X.ldc2Long C.1 C.2.2.2.1 (mvT C.2.2.2.2.1 w) (g := mkF m pc Ls st) rfl (hb C.2.1 hd)) k
theorem own_retI {z : Int32} (C : own_Cx Z a0 p l e R s m args below meth c own nm bytes mx (some .int)) (A : own_At p l e R s m args below meth c T h n0 kc ks) {P : Option Value → Heap → Prop}  (hd : decode bytes pc = .ok (.ireturn, 1)) (hP : P (some (.int z)) h) :
    own_Go p.tables e below (T.setTop (mkF m pc Ls [.int z])) (own_QR s n0 kc ks P) := by
  obtain ⟨locs, cells, slots, X, eT, N, hc, hs, hn⟩ := A
  have hr' := C.2.2.2.2.2.2.1
  obtain ⟨fs, hr, hrun, hended, hW, hsame⟩ := X.leave (v := (some (.int z))) (fun hh => by first | rfl | (rw [hr'] at hh; cases hh)) C.2.2.2.2.2.2.2.1
  have eF : (T.setFrames fs).heap = h := eT
  exact ⟨_, _, X.ireturnOut C.1 hr' rfl (Or.inl rfl) (hb C.2.1 hd) hr, hrun, hended, _, locs, rfl, ⟨by rw [eF]; exact hP, N⟩, ⟨_, rfl⟩, hW, hsame.mono hc hs⟩
theorem own_retJ {z : Int64} (C : own_Cx Z a0 p l e R s m args below meth c own nm bytes mx (some .long)) (A : own_At p l e R s m args below meth c T h n0 kc ks) {P : Option Value → Heap → Prop}  (hd : decode bytes pc = .ok (.lreturn, 1)) (hP : P (some (.long z)) h) :
    own_Go p.tables e below (T.setTop (mkF m pc Ls [.long z])) (own_QR s n0 kc ks P) := by
  obtain ⟨locs, cells, slots, X, eT, N, hc, hs, hn⟩ := A
  have hr' := C.2.2.2.2.2.2.1
  obtain ⟨fs, hr, hrun, hended, hW, hsame⟩ := X.leave (v := (some (.long z))) (fun hh => by first | rfl | (rw [hr'] at hh; cases hh)) C.2.2.2.2.2.2.2.1
  have eF : (T.setFrames fs).heap = h := eT
  exact ⟨_, _, X.lreturnOut C.1 hr' (hb C.2.1 hd) hr, hrun, hended, _, locs, rfl, ⟨by rw [eF]; exact hP, N⟩, ⟨_, rfl⟩, hW, hsame.mono hc hs⟩
theorem own_retA {a : Addr} {t : FieldType} (C : own_Cx Z a0 p l e R s m args below meth c own nm bytes mx (some t)) (A : own_At p l e R s m args below meth c T h n0 kc ks) {P : Option Value → Heap → Prop} (hta : t.isReference = true) (hna : narrow t (.ref a) = .ref a) (hd : decode bytes pc = .ok (.areturn, 1)) (hP : P (some (.ref a)) h) :
    own_Go p.tables e below (T.setTop (mkF m pc Ls (.ref a :: st))) (own_QR s n0 kc ks P) := by
  obtain ⟨locs, cells, slots, X, eT, N, hc, hs, hn⟩ := A
  have hr' := C.2.2.2.2.2.2.1
  obtain ⟨fs, hr, hrun, hended, hW, hsame⟩ := X.leave (v := (some (.ref a))) (fun hh => by first | rfl | (rw [hr'] at hh; cases hh)) C.2.2.2.2.2.2.2.1
  have eF : (T.setFrames fs).heap = h := eT
  exact ⟨_, _, retOut X C.1 hr' hna (Or.inr (Or.inr (Or.inr (Or.inr ⟨rfl, hta, rfl⟩)))) (hb C.2.1 hd) hr, hrun, hended, _, locs, rfl, ⟨by rw [eF]; exact hP, N⟩, ⟨_, rfl⟩, hW, hsame.mono hc hs⟩
theorem own_ret0  (C : own_Cx Z a0 p l e R s m args below meth c own nm bytes mx none) (A : own_At p l e R s m args below meth c T h n0 kc ks) {P : Option Value → Heap → Prop}  (hd : decode bytes pc = .ok (.return_, 1)) (hP : P none h) :
    own_Go p.tables e below (T.setTop (mkF m pc Ls [])) (own_QR s n0 kc ks P) := by
  obtain ⟨locs, cells, slots, X, eT, N, hc, hs, hn⟩ := A
  have hr' := C.2.2.2.2.2.2.1
  obtain ⟨fs, hr, hrun, hended, hW, hsame⟩ := X.leave (v := none) (fun hh => by first | rfl | (rw [hr'] at hh; cases hh)) C.2.2.2.2.2.2.2.1
  have eF : (T.setFrames fs).heap = h := eT
  exact ⟨_, _, X.returnOut C.1 hr' (hb C.2.1 hd) hr, hrun, hended, _, locs, rfl, ⟨by rw [eF]; exact hP, N⟩, ⟨_, rfl⟩, hW, hsame.mono hc hs⟩
theorem own_retN {z : Int32} {t : FieldType} (C : own_Cx Z a0 p l e R s m args below meth c own nm bytes mx (some t)) (A : own_At p l e R s m args below meth c T h n0 kc ks) {P : Option Value → Heap → Prop} (ht : t = .boolean ∨ t = .byte ∨ t = .char ∨ t = .short) (hd : decode bytes pc = .ok (.ireturn, 1)) (hP : P (some (.int (nar t z))) h) :
    own_Go p.tables e below (T.setTop (mkF m pc Ls (.int z :: st))) (own_QR s n0 kc ks P) := by
  obtain ⟨locs, cells, slots, X, eT, N, hc, hs, hn⟩ := A
  have hr' := C.2.2.2.2.2.2.1
  obtain ⟨fs, hr, hrun, hended, hW, hsame⟩ := X.leave (v := (some (.int (nar t z)))) (fun hh => by first | rfl | (rw [hr'] at hh; cases hh)) C.2.2.2.2.2.2.2.1
  have eF : (T.setFrames fs).heap = h := eT
  exact ⟨_, _, retN X C.1 hr' ht (hb C.2.1 hd) hr, hrun, hended, _, locs, rfl, ⟨by rw [eF]; exact hP, N⟩, ⟨_, rfl⟩, hW, hsame.mono hc hs⟩
theorem own_met {y : MethodName} {ws : List Jvm.Cond} {as' : Array Value} {P : Option Value → Heap → Prop} (hpl : plainFor y = true) (hw : ∀ d ∈ tables_1, d.before a0 Z = true) (hn : n0 ≤ h.size) (hef : ∀ m, entryFrame m as' mx = mkF m 0 Ls [])
    (body : ∀ p e s m below meth c T, own_Cx Z a0 p l e R s m as' below meth c y.cls y.name bytes mx ret → own_At p l e R s m as' below meth c T h n0 0 0 → own_Go p.tables e below (T.setTop (mkF m 0 Ls [])) (own_QR s n0 kc ks P)) :
    MetFree l y (head1 (Jvm.Cond.code y bytes mx ret :: ws) R) (fun a U => a = as' ∧ Z.Warmed39 U.vm ∧ U.heap = h) (fun _ _ _ _ _ => True) (fun _ U o U' => own_QR U n0 kc ks P o U') := by
  refine MetFree.of_bodySF hpl hisR ?_
  intro p e s m args below meth c s₁ Bd hml0 hP hK
  obtain ⟨rfl, hZ, hh⟩ := hP
  have C : own_Cx Z a0 p l e R s m args below meth c y.cls y.name bytes mx ret := ⟨Bd.exec, Bd.bytes, hml0, findClass_of_methodNamed Bd.named, hZ, (name_of_methodNamed Bd.named Bd.method).1, Bd.returns, Bd.notSynchronized, hw⟩
  have A : own_At p l e R s m args below meth c s₁ h n0 0 0 := ⟨[], 0, 0, Stand.of_body Bd, by rw [← hh, Bd.state]; rfl, Fr.nil n0, Nat.le_refl _, Nat.le_refl _, hn⟩
  have k := body p e s m below meth c s₁ C A
  rw [← hef m] at k
  exact k
theorem own_backQ {y : MethodName} {by' : ByteArray} {mx' : Nat} {rt : Option FieldType} {rm : Room} {as' : Array Value} {P : Option Value → Heap → Prop} (hM : MetFree l y (head1 [Jvm.Cond.code y by' mx' rt] rm) (fun a U => a = as' ∧ Z.Warmed39 U.vm ∧ U.heap = h) (fun _ _ _ _ _ => True) (fun _ U o U' => own_QR U n0 rm.cells rm.slots P o U')) :
    MetFree l y (head1 [Jvm.Cond.code y by' mx' rt] rm) (fun a U => a = as' ∧ Z.Warmed39 U.vm ∧ U.heap = h) (fun _ _ _ _ _ => True) (fun _ U o U' => ∃ v L, o = .returned v ∧ (P v U'.heap ∧ Fr n0 L ∧ h.size ≤ U'.heap.size) ∧ FrameEnd U o U' L rm.cells rm.slots) := by
  intro p e ha hc hk s m args below hf happ hP hK
  obtain ⟨n, o, h1, h2, h3, v, L, e1, ⟨hp, hl⟩, hF⟩ := hM p e ha hc hk s m args below hf happ hP hK
  refine ⟨n, o, h1, h2, h3, v, L, e1, ⟨hp, hl, ?_⟩, hF⟩
  have := hF.2.2.2.1
  rw [← hP.2.2]
  exact this
theorem own_callS (C : own_Cx Z a0 p l e R s m args below meth c own nm bytes mx ret) (A : own_At p l e R s m args below meth c T h n0 kc ks) {i : Nat} {y : MethodName} {by' : ByteArray} {mx' : Nat} {rt : Option FieldType} {rm : Room} (W : Nat) {as' : Array Value} (argsL rest : List Value) {P : Option Value → Heap → Prop} (w1 : (Jvm.Cond.methodLink own i y).before a0 Z = true) (w2 : (Jvm.Cond.static y).before a0 Z = true) (w3 : (Jvm.Cond.initialized y.cls).before a0 Z = true) (w4 : (Jvm.Cond.code y by' mx' rt).before a0 Z = true) (hy : y.cls ≠ "java/lang/invoke/MethodHandle" ∧ y.cls ≠ "java/lang/invoke/VarHandle")
    (hM : MetFree l y (head1 [Jvm.Cond.code y by' mx' rt] rm) (fun a U => a = as' ∧ Z.Warmed39 U.vm ∧ U.heap = h) (fun _ _ _ _ _ => True) (fun _ U o U' => own_QR U n0 rm.cells rm.slots P o U'))
    (hf : rm.frames + 1 ≤ R.frames) (hl : W + (mx' + 11) + rm.locals ≤ R.locals) (hc : kc + rm.cells ≤ R.cells) (hs : ks + rm.slots ≤ R.slots) {ps : List FieldType} (hpd : parseMethodDescriptor y.desc = some ⟨ps, rt⟩) (hlen : argsL.length = ps.length) (has : argsL.toArray = as') (hst : st = argsL.reverse ++ rest) (hW : (rest.map fun v => v.category).sum ≤ W) (hsz : Ls.size = mx) (hd : decode bytes pc = .ok (.invokestatic i, 3)) (hq : pc + 3 = q)
    (k : ∀ v T' h', P v h' → own_At p l e R s m args below meth c T' h' n0 (kc + rm.cells) (ks + rm.slots) → own_Go p.tables e below (T'.setTop (mkF m q Ls (v.toList ++ rest))) Q) :
    own_Go p.tables e below (T.setTop (mkF m pc Ls st)) Q := by
  obtain ⟨locs, cells, slots, X, eT, N, hc', hs', hn⟩ := A
  obtain ⟨v, _, ⟨T', L', k', n'⟩, -, X', ⟨Lc, hQ, hB1, hB2, hB3⟩, st'⟩ := Jvm.LawKit.callS X C.1 (y := y) C.2.2.2.1 (mvT C.2.2.2.2.1 w1) (mvT C.2.2.2.2.1 w2) (mvT C.2.2.2.2.1 w3) (mvT C.2.2.2.2.1 w4) hy (backOf (W := W) (Q := fun v h' L => P v h' ∧ Fr n0 L ∧ h.size ≤ h'.size) (own_backQ hM) C.2.2.2.2.1 w4 w3 hf hl) (g := mkF m pc Ls st) rfl (by rw [C.2.2.1]; exact hsz) (argsL := argsL) (rest := rest) (lenOf hpd hlen) hst (by show 2 * 0 + _ ≤ _; omega) (hb C.2.1 hd) (fun _ _ => ⟨has, eT, Nat.le_trans (Nat.add_le_add_right hc' _) hc, Nat.le_trans (Nat.add_le_add_right hs' _) hs⟩)
  dsimp only [Pt.U, Pt.locs, Pt.cells, Pt.slots] at X' hB1 hB2 hB3 st' hQ
  subst hq hB1 hB2 hB3
  exact own_go st' (k v T' T'.heap hQ.1 ⟨_, _, _, X', rfl, N.app hQ.2.1, by omega, by omega, Nat.le_trans hn hQ.2.2⟩)
theorem own_callC (C : own_Cx Z a0 p l e R s m args below meth c own nm bytes mx ret) (A : own_At p l e R s m args below meth c T h n0 kc ks) {i : Nat} {y : MethodName} {by' : ByteArray} {mx' : Nat} {rm : Room} (W : Nat) {as' : Array Value} (argsL rest : List Value) {P : Option Value → Heap → Prop} {a : Addr} (hy1 : y.name = "<init>") (w1 : (Jvm.Cond.methodLink own i y).before a0 Z = true) (w2 : (Jvm.Cond.instanceMethod y).before a0 Z = true) (w3 : (Jvm.Cond.initialized y.cls).before a0 Z = true) (w4 : (Jvm.Cond.code y by' mx' none).before a0 Z = true) (hy : y.cls ≠ "java/lang/invoke/MethodHandle" ∧ y.cls ≠ "java/lang/invoke/VarHandle")
    (hM : MetFree l y (head1 [Jvm.Cond.code y by' mx' none] rm) (fun a U => a = as' ∧ Z.Warmed39 U.vm ∧ U.heap = h) (fun _ _ _ _ _ => True) (fun _ U o U' => own_QR U n0 rm.cells rm.slots P o U'))
    (hf : rm.frames + 1 ≤ R.frames) (hl : W + (mx' + 11) + rm.locals ≤ R.locals) (hc : kc + rm.cells ≤ R.cells) (hs : ks + rm.slots ≤ R.slots) {ps : List FieldType} (hpd : parseMethodDescriptor y.desc = some ⟨ps, none⟩) (hlen : argsL.length = ps.length) (has : (Value.ref a :: argsL).toArray = as') (hst : st = argsL.reverse ++ .ref a :: rest) (hW : (rest.map fun v => v.category).sum ≤ W) (hsz : Ls.size = mx) (hd : decode bytes pc = .ok (.invokespecial i, 3)) (hq : pc + 3 = q)
    (k : ∀ v T' h', P v h' → own_At p l e R s m args below meth c T' h' n0 (kc + rm.cells) (ks + rm.slots) → own_Go p.tables e below (T'.setTop (mkF m q Ls (v.toList ++ rest))) Q) :
    own_Go p.tables e below (T.setTop (mkF m pc Ls st)) Q := by
  obtain ⟨locs, cells, slots, X, eT, N, hc', hs', hn⟩ := A
  obtain ⟨v, _, ⟨T', L', k', n'⟩, -, X', ⟨Lc, hQ, hB1, hB2, hB3⟩, st'⟩ := X.specialBack C.1 (y := y) hy1 C.2.2.2.1 (mvT C.2.2.2.2.1 w1) (mvT C.2.2.2.2.1 w2) (mvT C.2.2.2.2.1 w4) hy (backOf (W := W) (Q := fun v h' L => P v h' ∧ Fr n0 L ∧ h.size ≤ h'.size) (own_backQ hM) C.2.2.2.2.1 w4 w3 hf hl) (g := mkF m pc Ls st) rfl (by rw [C.2.2.1]; exact hsz) (Steps.refl _) (a := a) (argsL := argsL) (rest := rest) (lenOf hpd hlen) hst (by show 2 * 0 + _ ≤ _; omega) (hb C.2.1 hd) (fun _ _ => ⟨has, eT, Nat.le_trans (Nat.add_le_add_right hc' _) hc, Nat.le_trans (Nat.add_le_add_right hs' _) hs⟩)
  dsimp only [Pt.U, Pt.locs, Pt.cells, Pt.slots] at X' hB1 hB2 hB3 st' hQ
  subst hq hB1 hB2 hB3
  exact own_go (fun t ht => st'.trans ht) (k v T' T'.heap hQ.1 ⟨_, _, _, X', rfl, N.app hQ.2.1, by omega, by omega, Nat.le_trans hn hQ.2.2⟩)
theorem own_callV (C : own_Cx Z a0 p l e R s m args below meth c own nm bytes mx ret) (A : own_At p l e R s m args below meth c T h n0 kc ks) {i : Nat} {y : MethodName} {by' : ByteArray} {mx' : Nat} {rt : Option FieldType} {rm : Room} (W : Nat) {as' : Array Value} (argsL rest : List Value) {P : Option Value → Heap → Prop} {a : Addr} {B : String} (w1 : (Jvm.Cond.methodLink own i y).before a0 Z = true) (w2 : (Jvm.Cond.declares y).before a0 Z = true) (w5 : (Jvm.Cond.selects B y y).before a0 Z = true) (w6 : (Jvm.Cond.instanceMethod y).before a0 Z = true) (w3 : (Jvm.Cond.initialized y.cls).before a0 Z = true) (w4 : (Jvm.Cond.code y by' mx' rt).before a0 Z = true) (hy : y.cls ≠ "java/lang/invoke/MethodHandle" ∧ y.cls ≠ "java/lang/invoke/VarHandle") (hBy : y.cls = B) (E : Exa Z h a B)
    (hM : MetFree l y (head1 [Jvm.Cond.code y by' mx' rt] rm) (fun a U => a = as' ∧ Z.Warmed39 U.vm ∧ U.heap = h) (fun _ _ _ _ _ => True) (fun _ U o U' => own_QR U n0 rm.cells rm.slots P o U'))
    (hf : rm.frames + 1 ≤ R.frames) (hl : W + (mx' + 11) + rm.locals ≤ R.locals) (hc : kc + rm.cells ≤ R.cells) (hs : ks + rm.slots ≤ R.slots) {ps : List FieldType} (hpd : parseMethodDescriptor y.desc = some ⟨ps, rt⟩) (hlen : argsL.length = ps.length) (has : (Value.ref a :: argsL).toArray = as') (hst : st = argsL.reverse ++ .ref a :: rest) (hW : (rest.map fun v => v.category).sum ≤ W) (hsz : Ls.size = mx) (hd : decode bytes pc = .ok (.invokevirtual i, 3)) (hq : pc + 3 = q)
    (k : ∀ v T' h', P v h' → own_At p l e R s m args below meth c T' h' n0 (kc + rm.cells) (ks + rm.slots) → own_Go p.tables e below (T'.setTop (mkF m q Ls (v.toList ++ rest))) Q) :
    own_Go p.tables e below (T.setTop (mkF m pc Ls st)) Q := by
  obtain ⟨locs, cells, slots, X, eT, N, hc', hs', hn⟩ := A
  subst hBy
  obtain ⟨cB, kB, qa, qb, qc⟩ := isOf (T := T) C.2.2.2.2.1 eT E
  obtain ⟨v, _, ⟨T', L', k', n'⟩, -, X', ⟨Lc, hQ, hB1, hB2, hB3⟩, st'⟩ := X.virtualBack C.1 (y := y) (z := y) C.2.2.2.1 (mvT C.2.2.2.2.1 w1) (mvT C.2.2.2.2.1 w2) (notFace_of_selects (args := #[]) (mvT C.2.2.2.2.1 w5)) (mvT C.2.2.2.2.1 w5) (mvT C.2.2.2.2.1 w6) hy (backOf (W := W) (Q := fun v h' L => P v h' ∧ Fr n0 L ∧ h.size ≤ h'.size) (own_backQ hM) C.2.2.2.2.1 w4 w3 hf hl) qa qc (g := mkF m pc Ls st) rfl (by rw [C.2.2.1]; exact hsz) (Steps.refl _) (argsL := argsL) (rest := rest) (lenOf hpd hlen) hst (by show 2 * 0 + _ ≤ _; omega) (hb C.2.1 hd) (fun _ _ => ⟨has, eT, Nat.le_trans (Nat.add_le_add_right hc' _) hc, Nat.le_trans (Nat.add_le_add_right hs' _) hs⟩)
  dsimp only [Pt.U, Pt.locs, Pt.cells, Pt.slots] at X' hB1 hB2 hB3 st' hQ
  subst hq hB1 hB2 hB3
  exact own_go (fun t ht => st'.trans ht) (k v T' T'.heap hQ.1 ⟨_, _, _, X', rfl, N.app hQ.2.1, by omega, by omega, Nat.le_trans hn hQ.2.2⟩)
theorem own_callP (C : own_Cx Z a0 p l e R s m args below meth c own nm bytes mx ret) (A : own_At p l e R s m args below meth c T h n0 kc ks) {i : Nat} {y : MethodName} {by' : ByteArray} {mx' : Nat} {rt : Option FieldType} {rm : Room} (W : Nat) {as' : Array Value} (argsL rest : List Value) {P : Option Value → Heap → Prop} {a : Addr} {B : String} {kk : Nat} (w1 : (Jvm.Cond.methodLink own i y).before a0 Z = true) (w6 : (Jvm.Cond.instanceMethod y).before a0 Z = true) (wp : (Jvm.Cond.privateMethod y).before a0 Z = true) (wi : (Jvm.Cond.instantiable y.cls kk).before a0 Z = true) (w3 : (Jvm.Cond.initialized y.cls).before a0 Z = true) (w4 : (Jvm.Cond.code y by' mx' rt).before a0 Z = true) (hy : y.cls ≠ "java/lang/invoke/MethodHandle" ∧ y.cls ≠ "java/lang/invoke/VarHandle") (E : Exa Z h a B)
    (hM : MetFree l y (head1 [Jvm.Cond.code y by' mx' rt] rm) (fun a U => a = as' ∧ Z.Warmed39 U.vm ∧ U.heap = h) (fun _ _ _ _ _ => True) (fun _ U o U' => own_QR U n0 rm.cells rm.slots P o U'))
    (hf : rm.frames + 1 ≤ R.frames) (hl : W + (mx' + 11) + rm.locals ≤ R.locals) (hc : kc + rm.cells ≤ R.cells) (hs : ks + rm.slots ≤ R.slots) {ps : List FieldType} (hpd : parseMethodDescriptor y.desc = some ⟨ps, rt⟩) (hlen : argsL.length = ps.length) (has : (Value.ref a :: argsL).toArray = as') (hst : st = argsL.reverse ++ .ref a :: rest) (hW : (rest.map fun v => v.category).sum ≤ W) (hsz : Ls.size = mx) (hd : decode bytes pc = .ok (.invokevirtual i, 3)) (hq : pc + 3 = q)
    (k : ∀ v T' h', P v h' → own_At p l e R s m args below meth c T' h' n0 (kc + rm.cells) (ks + rm.slots) → own_Go p.tables e below (T'.setTop (mkF m q Ls (v.toList ++ rest))) Q) :
    own_Go p.tables e below (T.setTop (mkF m pc Ls st)) Q := by
  obtain ⟨locs, cells, slots, X, eT, N, hc', hs', hn⟩ := A
  obtain ⟨cl, hcell, hobj⟩ := Exa.cell E
  have hpr : s.PrivateAt y := Cond.privateMethod_at (mvP C.2.2.2.2.1 wp (args := #[]))
  have wi' : (Jvm.Cond.instantiable y.cls kk).before args s = true := mvT C.2.2.2.2.1 wi
  have w6' : (Jvm.Cond.instanceMethod y).before args s = true := mvT C.2.2.2.2.1 w6
  obtain ⟨cc, kc', q1, q2, -, q4, -⟩ := Cond.instantiable_spec wi'
  have hsel : (Jvm.Cond.selects y.cls y y).before args s = true := Jvm.Stand.selects_self_of_private q1 q2 (Bool.or_eq_false_iff.mp q4).1 hpr w6' hy
  obtain ⟨v, _, ⟨T', L', k', n'⟩, -, X', ⟨Lc, hQ, hB1, hB2, hB3⟩, st'⟩ := X.privateBack C.1 (y := y) C.2.2.2.1 (mvT C.2.2.2.2.1 w1) w6' hsel hpr (mvT C.2.2.2.2.1 w4) hy (backOf (W := W) (Q := fun v h' L => P v h' ∧ Fr n0 L ∧ h.size ≤ h'.size) (own_backQ hM) C.2.2.2.2.1 w4 w3 hf hl) (g := mkF m pc Ls st) rfl (by rw [C.2.2.1]; exact hsz) (Steps.refl _) (a := a) (by rw [eT]; exact hcell) hobj (argsL := argsL) (rest := rest) (lenOf hpd hlen) hst (by show 2 * 0 + _ ≤ _; omega) (hb C.2.1 hd) (fun _ _ => ⟨has, eT, Nat.le_trans (Nat.add_le_add_right hc' _) hc, Nat.le_trans (Nat.add_le_add_right hs' _) hs⟩)
  dsimp only [Pt.U, Pt.locs, Pt.cells, Pt.slots] at X' hB1 hB2 hB3 st' hQ
  subst hq hB1 hB2 hB3
  exact own_go (fun t ht => st'.trans ht) (k v T' T'.heap hQ.1 ⟨_, _, _, X', rfl, N.app hQ.2.1, by omega, by omega, Nat.le_trans hn hQ.2.2⟩)
theorem own_callSI (C : own_Cx Z a0 p l e R s m args below meth c own nm bytes mx ret) (A : own_At p l e R s m args below meth c T h n0 kc ks) {i : Nat} {y : MethodName} {by' : ByteArray} {mx' : Nat} {rt : Option FieldType} {rm : Room} (W : Nat) {as' : Array Value} (argsL rest : List Value) {r : Int32} (w1 : (Jvm.Cond.methodLink own i y).before a0 Z = true) (w2 : (Jvm.Cond.static y).before a0 Z = true) (w3 : (Jvm.Cond.initialized y.cls).before a0 Z = true) (w4 : (Jvm.Cond.code y by' mx' rt).before a0 Z = true) (hy : y.cls ≠ "java/lang/invoke/MethodHandle" ∧ y.cls ≠ "java/lang/invoke/VarHandle")
    (hM : MetFree l y (head1 [Jvm.Cond.code y by' mx' rt] rm) (fun a U => a = as' ∧ Z.Warmed39 U.vm ∧ U.heap = h) (fun _ _ _ _ _ => True) (fun _ U o U' => own_QR U n0 rm.cells rm.slots (own_RI h r) o U'))
    (h0c : rm.cells = 0) (h0s : rm.slots = 0) (hf : rm.frames + 1 ≤ R.frames) (hl : W + (mx' + 11) + rm.locals ≤ R.locals) (hc : kc + rm.cells ≤ R.cells) (hs : ks + rm.slots ≤ R.slots) {ps : List FieldType} (hpd : parseMethodDescriptor y.desc = some ⟨ps, rt⟩) (hlen : argsL.length = ps.length) (has : argsL.toArray = as') (hst : st = argsL.reverse ++ rest) (hW : (rest.map fun v => v.category).sum ≤ W) (hsz : Ls.size = mx) (hd : decode bytes pc = .ok (.invokestatic i, 3)) (hq : pc + 3 = q)
    (k : ∀ T', own_At p l e R s m args below meth c T' h n0 kc ks → own_Go p.tables e below (T'.setTop (mkF m q Ls (.int r :: rest))) Q) :
    own_Go p.tables e below (T.setTop (mkF m pc Ls st)) Q := by
  refine own_callS C A W argsL rest w1 w2 w3 w4 hy hM hf hl hc hs hpd hlen has hst hW hsz hd hq (fun v T' h' hP A' => ?_)
  obtain ⟨rfl, rfl⟩ := hP
  rw [h0c, h0s] at A'
  exact k T' A'
theorem own_callSJ (C : own_Cx Z a0 p l e R s m args below meth c own nm bytes mx ret) (A : own_At p l e R s m args below meth c T h n0 kc ks) {i : Nat} {y : MethodName} {by' : ByteArray} {mx' : Nat} {rt : Option FieldType} {rm : Room} (W : Nat) {as' : Array Value} (argsL rest : List Value) {r : Int64} (w1 : (Jvm.Cond.methodLink own i y).before a0 Z = true) (w2 : (Jvm.Cond.static y).before a0 Z = true) (w3 : (Jvm.Cond.initialized y.cls).before a0 Z = true) (w4 : (Jvm.Cond.code y by' mx' rt).before a0 Z = true) (hy : y.cls ≠ "java/lang/invoke/MethodHandle" ∧ y.cls ≠ "java/lang/invoke/VarHandle")
    (hM : MetFree l y (head1 [Jvm.Cond.code y by' mx' rt] rm) (fun a U => a = as' ∧ Z.Warmed39 U.vm ∧ U.heap = h) (fun _ _ _ _ _ => True) (fun _ U o U' => own_QR U n0 rm.cells rm.slots (own_RJ h r) o U'))
    (h0c : rm.cells = 0) (h0s : rm.slots = 0) (hf : rm.frames + 1 ≤ R.frames) (hl : W + (mx' + 11) + rm.locals ≤ R.locals) (hc : kc + rm.cells ≤ R.cells) (hs : ks + rm.slots ≤ R.slots) {ps : List FieldType} (hpd : parseMethodDescriptor y.desc = some ⟨ps, rt⟩) (hlen : argsL.length = ps.length) (has : argsL.toArray = as') (hst : st = argsL.reverse ++ rest) (hW : (rest.map fun v => v.category).sum ≤ W) (hsz : Ls.size = mx) (hd : decode bytes pc = .ok (.invokestatic i, 3)) (hq : pc + 3 = q)
    (k : ∀ T', own_At p l e R s m args below meth c T' h n0 kc ks → own_Go p.tables e below (T'.setTop (mkF m q Ls (.long r :: rest))) Q) :
    own_Go p.tables e below (T.setTop (mkF m pc Ls st)) Q := by
  refine own_callS C A W argsL rest w1 w2 w3 w4 hy hM hf hl hc hs hpd hlen has hst hW hsz hd hq (fun v T' h' hP A' => ?_)
  obtain ⟨rfl, rfl⟩ := hP
  rw [h0c, h0s] at A'
  exact k T' A'
theorem own_callVI (C : own_Cx Z a0 p l e R s m args below meth c own nm bytes mx ret) (A : own_At p l e R s m args below meth c T h n0 kc ks) {i : Nat} {y : MethodName} {by' : ByteArray} {mx' : Nat} {rt : Option FieldType} {rm : Room} (W : Nat) {as' : Array Value} (argsL rest : List Value) {r : Int32} {a : Addr} {B : String} (w1 : (Jvm.Cond.methodLink own i y).before a0 Z = true) (w2 : (Jvm.Cond.declares y).before a0 Z = true) (w5 : (Jvm.Cond.selects B y y).before a0 Z = true) (w6 : (Jvm.Cond.instanceMethod y).before a0 Z = true) (w3 : (Jvm.Cond.initialized y.cls).before a0 Z = true) (w4 : (Jvm.Cond.code y by' mx' rt).before a0 Z = true) (hy : y.cls ≠ "java/lang/invoke/MethodHandle" ∧ y.cls ≠ "java/lang/invoke/VarHandle") (hBy : y.cls = B) (E : Exa Z h a B)
    (hM : MetFree l y (head1 [Jvm.Cond.code y by' mx' rt] rm) (fun a U => a = as' ∧ Z.Warmed39 U.vm ∧ U.heap = h) (fun _ _ _ _ _ => True) (fun _ U o U' => own_QR U n0 rm.cells rm.slots (own_RI h r) o U'))
    (h0c : rm.cells = 0) (h0s : rm.slots = 0) (hf : rm.frames + 1 ≤ R.frames) (hl : W + (mx' + 11) + rm.locals ≤ R.locals) (hc : kc + rm.cells ≤ R.cells) (hs : ks + rm.slots ≤ R.slots) {ps : List FieldType} (hpd : parseMethodDescriptor y.desc = some ⟨ps, rt⟩) (hlen : argsL.length = ps.length) (has : (Value.ref a :: argsL).toArray = as') (hst : st = argsL.reverse ++ .ref a :: rest) (hW : (rest.map fun v => v.category).sum ≤ W) (hsz : Ls.size = mx) (hd : decode bytes pc = .ok (.invokevirtual i, 3)) (hq : pc + 3 = q)
    (k : ∀ T', own_At p l e R s m args below meth c T' h n0 kc ks → own_Go p.tables e below (T'.setTop (mkF m q Ls (.int r :: rest))) Q) :
    own_Go p.tables e below (T.setTop (mkF m pc Ls st)) Q := by
  refine own_callV C A W argsL rest w1 w2 w5 w6 w3 w4 hy hBy E hM hf hl hc hs hpd hlen has hst hW hsz hd hq (fun v T' h' hP A' => ?_)
  obtain ⟨rfl, rfl⟩ := hP
  rw [h0c, h0s] at A'
  exact k T' A'
theorem own_callVJ (C : own_Cx Z a0 p l e R s m args below meth c own nm bytes mx ret) (A : own_At p l e R s m args below meth c T h n0 kc ks) {i : Nat} {y : MethodName} {by' : ByteArray} {mx' : Nat} {rt : Option FieldType} {rm : Room} (W : Nat) {as' : Array Value} (argsL rest : List Value) {r : Int64} {a : Addr} {B : String} (w1 : (Jvm.Cond.methodLink own i y).before a0 Z = true) (w2 : (Jvm.Cond.declares y).before a0 Z = true) (w5 : (Jvm.Cond.selects B y y).before a0 Z = true) (w6 : (Jvm.Cond.instanceMethod y).before a0 Z = true) (w3 : (Jvm.Cond.initialized y.cls).before a0 Z = true) (w4 : (Jvm.Cond.code y by' mx' rt).before a0 Z = true) (hy : y.cls ≠ "java/lang/invoke/MethodHandle" ∧ y.cls ≠ "java/lang/invoke/VarHandle") (hBy : y.cls = B) (E : Exa Z h a B)
    (hM : MetFree l y (head1 [Jvm.Cond.code y by' mx' rt] rm) (fun a U => a = as' ∧ Z.Warmed39 U.vm ∧ U.heap = h) (fun _ _ _ _ _ => True) (fun _ U o U' => own_QR U n0 rm.cells rm.slots (own_RJ h r) o U'))
    (h0c : rm.cells = 0) (h0s : rm.slots = 0) (hf : rm.frames + 1 ≤ R.frames) (hl : W + (mx' + 11) + rm.locals ≤ R.locals) (hc : kc + rm.cells ≤ R.cells) (hs : ks + rm.slots ≤ R.slots) {ps : List FieldType} (hpd : parseMethodDescriptor y.desc = some ⟨ps, rt⟩) (hlen : argsL.length = ps.length) (has : (Value.ref a :: argsL).toArray = as') (hst : st = argsL.reverse ++ .ref a :: rest) (hW : (rest.map fun v => v.category).sum ≤ W) (hsz : Ls.size = mx) (hd : decode bytes pc = .ok (.invokevirtual i, 3)) (hq : pc + 3 = q)
    (k : ∀ T', own_At p l e R s m args below meth c T' h n0 kc ks → own_Go p.tables e below (T'.setTop (mkF m q Ls (.long r :: rest))) Q) :
    own_Go p.tables e below (T.setTop (mkF m pc Ls st)) Q := by
  refine own_callV C A W argsL rest w1 w2 w5 w6 w3 w4 hy hBy E hM hf hl hc hs hpd hlen has hst hW hsz hd hq (fun v T' h' hP A' => ?_)
  obtain ⟨rfl, rfl⟩ := hP
  rw [h0c, h0s] at A'
  exact k T' A'
theorem own_callPI (C : own_Cx Z a0 p l e R s m args below meth c own nm bytes mx ret) (A : own_At p l e R s m args below meth c T h n0 kc ks) {i : Nat} {y : MethodName} {by' : ByteArray} {mx' : Nat} {rt : Option FieldType} {rm : Room} (W : Nat) {as' : Array Value} (argsL rest : List Value) {r : Int32} {a : Addr} {B : String} {kk : Nat} (w1 : (Jvm.Cond.methodLink own i y).before a0 Z = true) (w6 : (Jvm.Cond.instanceMethod y).before a0 Z = true) (wp : (Jvm.Cond.privateMethod y).before a0 Z = true) (wi : (Jvm.Cond.instantiable y.cls kk).before a0 Z = true) (w3 : (Jvm.Cond.initialized y.cls).before a0 Z = true) (w4 : (Jvm.Cond.code y by' mx' rt).before a0 Z = true) (hy : y.cls ≠ "java/lang/invoke/MethodHandle" ∧ y.cls ≠ "java/lang/invoke/VarHandle") (E : Exa Z h a B)
    (hM : MetFree l y (head1 [Jvm.Cond.code y by' mx' rt] rm) (fun a U => a = as' ∧ Z.Warmed39 U.vm ∧ U.heap = h) (fun _ _ _ _ _ => True) (fun _ U o U' => own_QR U n0 rm.cells rm.slots (own_RI h r) o U'))
    (h0c : rm.cells = 0) (h0s : rm.slots = 0) (hf : rm.frames + 1 ≤ R.frames) (hl : W + (mx' + 11) + rm.locals ≤ R.locals) (hc : kc + rm.cells ≤ R.cells) (hs : ks + rm.slots ≤ R.slots) {ps : List FieldType} (hpd : parseMethodDescriptor y.desc = some ⟨ps, rt⟩) (hlen : argsL.length = ps.length) (has : (Value.ref a :: argsL).toArray = as') (hst : st = argsL.reverse ++ .ref a :: rest) (hW : (rest.map fun v => v.category).sum ≤ W) (hsz : Ls.size = mx) (hd : decode bytes pc = .ok (.invokevirtual i, 3)) (hq : pc + 3 = q)
    (k : ∀ T', own_At p l e R s m args below meth c T' h n0 kc ks → own_Go p.tables e below (T'.setTop (mkF m q Ls (.int r :: rest))) Q) :
    own_Go p.tables e below (T.setTop (mkF m pc Ls st)) Q := by
  refine own_callP C A W argsL rest w1 w6 wp wi w3 w4 hy E hM hf hl hc hs hpd hlen has hst hW hsz hd hq (fun v T' h' hP A' => ?_)
  obtain ⟨rfl, rfl⟩ := hP
  rw [h0c, h0s] at A'
  exact k T' A'
theorem own_callC0 (C : own_Cx Z a0 p l e R s m args below meth c own nm bytes mx ret) (A : own_At p l e R s m args below meth c T h n0 kc ks) {i : Nat} {y : MethodName} {by' : ByteArray} {mx' : Nat} {rm : Room} (W : Nat) {as' : Array Value} (argsL rest : List Value)  {a : Addr} (hy1 : y.name = "<init>") (w1 : (Jvm.Cond.methodLink own i y).before a0 Z = true) (w2 : (Jvm.Cond.instanceMethod y).before a0 Z = true) (w3 : (Jvm.Cond.initialized y.cls).before a0 Z = true) (w4 : (Jvm.Cond.code y by' mx' none).before a0 Z = true) (hy : y.cls ≠ "java/lang/invoke/MethodHandle" ∧ y.cls ≠ "java/lang/invoke/VarHandle")
    (hM : MetFree l y (head1 [Jvm.Cond.code y by' mx' none] rm) (fun a U => a = as' ∧ Z.Warmed39 U.vm ∧ U.heap = h) (fun _ _ _ _ _ => True) (fun _ U o U' => own_QR U n0 rm.cells rm.slots (own_R0 h ()) o U'))
    (h0c : rm.cells = 0) (h0s : rm.slots = 0) (hf : rm.frames + 1 ≤ R.frames) (hl : W + (mx' + 11) + rm.locals ≤ R.locals) (hc : kc + rm.cells ≤ R.cells) (hs : ks + rm.slots ≤ R.slots) {ps : List FieldType} (hpd : parseMethodDescriptor y.desc = some ⟨ps, none⟩) (hlen : argsL.length = ps.length) (has : (Value.ref a :: argsL).toArray = as') (hst : st = argsL.reverse ++ .ref a :: rest) (hW : (rest.map fun v => v.category).sum ≤ W) (hsz : Ls.size = mx) (hd : decode bytes pc = .ok (.invokespecial i, 3)) (hq : pc + 3 = q)
    (k : ∀ T', own_At p l e R s m args below meth c T' h n0 kc ks → own_Go p.tables e below (T'.setTop (mkF m q Ls rest)) Q) :
    own_Go p.tables e below (T.setTop (mkF m pc Ls st)) Q := by
  refine own_callC C A W argsL rest hy1 w1 w2 w3 w4 hy hM hf hl hc hs hpd hlen has hst hW hsz hd hq (fun v T' h' hP A' => ?_)
  obtain ⟨rfl, rfl⟩ := hP
  rw [h0c, h0s] at A'
  exact k T' A'
theorem own_initO (C : own_Cx Z a0 p l e R s m args below meth c own nm bytes mx ret) (A : own_At p l e R s m args below meth c T h n0 kc ks) {i : Nat} {a : Addr} (W : Nat) (w1 : (Jvm.Cond.methodLink own i Lib.objectInit).before a0 Z = true) (w2 : (Jvm.Cond.instanceMethod Lib.objectInit).before a0 Z = true) (w3 : (Jvm.Cond.code Lib.objectInit ⟨#[0xb1]⟩ 1 none).before a0 Z = true) (hsz : Ls.size = mx) (hd : decode bytes pc = .ok (.invokespecial i, 3)) (hq : pc + 3 = q) (hf : 1 ≤ R.frames) (hW : (st.map fun v => v.category).sum ≤ W) (hl : W + 12 ≤ R.locals)
    (k : ∀ T', own_At p l e R s m args below meth c T' h n0 kc ks → own_Go p.tables e below (T'.setTop (mkF m q Ls st)) Q) :
    own_Go p.tables e below (T.setTop (mkF m pc Ls (.ref a :: st))) Q := by
  obtain ⟨locs, cells, slots, X, eT, N, hc', hs', hn⟩ := A
  obtain ⟨T', X', e', st'⟩ := initO X C.1 C.2.2.2.2.1 C.2.2.2.1 w1 w2 w3 eT (g := mkF m pc Ls (.ref a :: st)) rfl (by rw [C.2.2.1]; exact hsz) rfl (hb C.2.1 hd) hf (W := W) (by show 2 * 0 + _ ≤ _; omega) hl
  subst hq
  exact own_go st' (k T' ⟨locs, cells, slots, X', e', N, hc', hs', hn⟩)
theorem own_getF (C : own_Cx Z a0 p l e R s m args below meth c own nm bytes mx ret) (A : own_At p l e R s m args below meth c T h n0 kc ks) {O n d : String} {i : Nat} {a : Addr} {v : Value} (w : (Jvm.Cond.fieldLink own i O n d).before a0 Z = true) (F : Fld Z h a O n d v) (hd : decode bytes pc = .ok (.getfield i, 3)) (hq : pc + 3 = q) (k : ∀ T', own_At p l e R s m args below meth c T' h n0 kc ks → own_Go p.tables e below (T'.setTop (mkF m q Ls (v :: st))) Q) :
    own_Go p.tables e below (T.setTop (mkF m pc Ls (.ref a :: st))) Q := by
  obtain ⟨locs, cells, slots, X, eT, N, hc', hs', hn⟩ := A
  obtain ⟨T', X', e', st'⟩ := getF X C.1 C.2.2.2.2.1 C.2.2.2.1 (host := "") (Or.inl w) Via.refl eT F (g := mkF m pc Ls (.ref a :: st)) rfl rfl (hb C.2.1 hd)
  subst hq
  exact own_go st' (k T' ⟨locs, cells, slots, X', e', N, hc', hs', hn⟩)
theorem own_putF (C : own_Cx Z a0 p l e R s m args below meth c own nm bytes mx ret) (A : own_At p l e R s m args below meth c T h n0 kc ks) {O n d B : String} {i kk : Nat} {a : Addr} {v old : Value} (ty : FieldType) (w : (Jvm.Cond.fieldLink own i O n d).before a0 Z = true) (F : Fld Z h a O n d old) (E : Exa Z h a B) (Ly : (Jvm.Cond.lays B O n d).before a0 Z = true ∨ ((Jvm.Cond.laysFinal B O n d).before a0 Z = true ∧ own = O ∧ nm = "<init>")) (wi : (Jvm.Cond.instantiable B kk).before a0 Z = true) (hty : parseFieldDescriptor d = some ty) (hnr : narrow ty v = v) (hft : fits ty v = true) (ga : n0 ≤ a) (hd : decode bytes pc = .ok (.putfield i, 3)) (hq : pc + 3 = q)
    (k : ∀ T' h', Wr h h' a (Jvm.RoadKit.slotOf Z O n d) v → own_At p l e R s m args below meth c T' h' n0 kc ks → own_Go p.tables e below (T'.setTop (mkF m q Ls st)) Q) :
    own_Go p.tables e below (T.setTop (mkF m pc Ls (v :: .ref a :: st))) Q := by
  obtain ⟨locs, cells, slots, X, eT, N, hc', hs', hn⟩ := A
  obtain ⟨T', h', X', e', W', st'⟩ := putF X C.1 C.2.2.2.2.1 C.2.2.2.1 (host := "") (Or.inl w) Via.refl eT F E (Ly.imp id fun z => ⟨z.1, z.2.1, by rw [C.2.2.2.2.2.1]; exact z.2.2⟩) wi hty hnr hft (g := mkF m pc Ls (v :: .ref a :: st)) rfl rfl (hb C.2.1 hd)
  subst hq
  exact own_go st' (k T' h' W' ⟨_, cells, slots, X', e', Fr.snoc X' N ga, hc', hs', by rw [W'.size]; exact hn⟩)
theorem own_newO (C : own_Cx Z a0 p l e R s m args below meth c own nm bytes mx ret) (A : own_At p l e R s m args below meth c T h n0 kc ks) {B : String} {i n : Nat} (w : (Jvm.Cond.classLink own i B).before a0 Z = true) (wi : (Jvm.Cond.instantiable B n).before a0 Z = true) (wz : (Jvm.Cond.initialized B).before a0 Z = true) (hd : decode bytes pc = .ok (.new i, 3)) (hq : pc + 3 = q) (hc : kc + 1 ≤ R.cells) (hs : ks + n ≤ R.slots)
    (k : ∀ T' h' a, a = h.size → Ext h h' → Exa Z h' a B → (∀ {O nm d : String} {ty : FieldType}, Laid Z a0 B O nm d → parseFieldDescriptor d = some ty → Fld Z h' a O nm d (defaultValue ty)) → n0 ≤ a → own_At p l e R s m args below meth c T' h' n0 (kc + 1) (ks + n) → own_Go p.tables e below (T'.setTop (mkF m q Ls (.ref a :: st))) Q) :
    own_Go p.tables e below (T.setTop (mkF m pc Ls st)) Q := by
  obtain ⟨locs, cells, slots, X, eT, N, hc', hs', hn⟩ := A
  obtain ⟨T', h', X', e', E', A', D', -, st'⟩ := newO X C.1 C.2.2.2.2.1 C.2.2.2.1 w wi wz eT (g := mkF m pc Ls st) rfl (hb C.2.1 hd) (by omega) (by omega)
  subst hq
  exact own_go st' (k T' h' h.size rfl E' A' D' hn ⟨locs, _, _, X', e', N, by omega, by omega, Nat.le_trans hn E'.1⟩)
theorem own_instY (C : own_Cx Z a0 p l e R s m args below meth c own nm bytes mx ret) (A : own_At p l e R s m args below meth c T h n0 kc ks) {B : String} {i : Nat} {a : Addr} (w : (Jvm.Cond.classLink own i B).before a0 Z = true) (F : Ins Z h a B true) (hd : decode bytes pc = .ok (.instanceof i, 3)) (hq : pc + 3 = q) (k : ∀ T', own_At p l e R s m args below meth c T' h n0 kc ks → own_Go p.tables e below (T'.setTop (mkF m q Ls (.int 1 :: st))) Q) :
    own_Go p.tables e below (T.setTop (mkF m pc Ls (.ref a :: st))) Q := by
  obtain ⟨locs, cells, slots, X, eT, N, hc', hs', hn⟩ := A
  obtain ⟨T', X', e', st'⟩ := instY X C.1 C.2.2.2.2.1 C.2.2.2.1 w eT F (g := mkF m pc Ls (.ref a :: st)) rfl rfl (hb C.2.1 hd)
  subst hq
  exact own_go st' (k T' ⟨locs, cells, slots, X', e', N, hc', hs', hn⟩)
theorem own_castY (C : own_Cx Z a0 p l e R s m args below meth c own nm bytes mx ret) (A : own_At p l e R s m args below meth c T h n0 kc ks) {B : String} {i : Nat} {a : Addr} (w : (Jvm.Cond.classLink own i B).before a0 Z = true) (F : Ins Z h a B true) (hd : decode bytes pc = .ok (.checkcast i, 3)) (hq : pc + 3 = q) (k : ∀ T', own_At p l e R s m args below meth c T' h n0 kc ks → own_Go p.tables e below (T'.setTop (mkF m q Ls (.ref a :: st))) Q) :
    own_Go p.tables e below (T.setTop (mkF m pc Ls (.ref a :: st))) Q := by
  obtain ⟨locs, cells, slots, X, eT, N, hc', hs', hn⟩ := A
  obtain ⟨T', X', e', st'⟩ := castY X C.1 C.2.2.2.2.1 C.2.2.2.1 w eT F (g := mkF m pc Ls (.ref a :: st)) rfl rfl (hb C.2.1 hd)
  subst hq
  exact own_go st' (k T' ⟨locs, cells, slots, X', e', N, hc', hs', hn⟩)
theorem own_instNo (C : own_Cx Z a0 p l e R s m args below meth c own nm bytes mx ret) (A : own_At p l e R s m args below meth c T h n0 kc ks) {B D : String} {i : Nat} {a : Addr} (w : (Jvm.Cond.classLink own i B).before a0 Z = true) (E : Exa Z h a D) (F : ∃ c t, Z.vm.findClass D = some c ∧ Z.vm.findClass B = some t ∧ Z.vm.assignable c t = false) (hd : decode bytes pc = .ok (.instanceof i, 3)) (hq : pc + 3 = q) (k : ∀ T', own_At p l e R s m args below meth c T' h n0 kc ks → own_Go p.tables e below (T'.setTop (mkF m q Ls (.int 0 :: st))) Q) :
    own_Go p.tables e below (T.setTop (mkF m pc Ls (.ref a :: st))) Q := by
  obtain ⟨locs, cells, slots, X, eT, N, hc', hs', hn⟩ := A
  obtain ⟨T', X', e', st'⟩ := instNo X C.1 C.2.2.2.2.1 C.2.2.2.1 w eT E F (g := mkF m pc Ls (.ref a :: st)) rfl rfl (hb C.2.1 hd)
  subst hq
  exact own_go st' (k T' ⟨locs, cells, slots, X', e', N, hc', hs', hn⟩)
theorem own_instNull (C : own_Cx Z a0 p l e R s m args below meth c own nm bytes mx ret) (A : own_At p l e R s m args below meth c T h n0 kc ks) {i : Nat} (hd : decode bytes pc = .ok (.instanceof i, 3)) (hq : pc + 3 = q) (k : own_Go p.tables e below (T.setTop (mkF m q Ls (.int 0 :: st))) Q) :
    own_Go p.tables e below (T.setTop (mkF m pc Ls (.null :: st))) Q := by
  obtain ⟨_, _, _, X, _⟩ := A
  subst hq
  exact own_go (X.instanceofNull C.1 (g := mkF m pc Ls (.null :: st)) rfl rfl (hb C.2.1 hd)) k
def own_Ia (Z : State) (h : Heap) (a : Addr) (ty : FieldType) (n : Int32) (xs : List Int32) : Prop := ∃ k, Arv Z h a k ty n (xs.map .int) (.int 0) ∧ xs.length = n.toNatClampNeg
theorem own_Ia.lt {a : Addr} {ty : FieldType} {n : Int32} {xs : List Int32} (F : own_Ia Z h a ty n xs) : a < h.size := by obtain ⟨k, V, -⟩ := F; exact V.lt
theorem own_Ia.ext {h' : Heap} {a : Addr} {ty : FieldType} {n : Int32} {xs : List Int32} (F : own_Ia Z h a ty n xs) (E : Ext h h') : own_Ia Z h' a ty n xs := by obtain ⟨k, V, hl⟩ := F; exact ⟨k, V.ext E, hl⟩
theorem own_Ia.keep {h' : Heap} {ws : List Addr} {a : Addr} {ty : FieldType} {n : Int32} {xs : List Int32} (F : own_Ia Z h a ty n xs) (K : Keep h h' ws) (q : a ∉ ws) : own_Ia Z h' a ty n xs := by obtain ⟨k, V, hl⟩ := F; exact ⟨k, V.keep K q, hl⟩
theorem own_Ia.other {h' : Heap} {a b : Addr} {sl : Nat} {v : Value} {ty : FieldType} {n : Int32} {xs : List Int32} (F : own_Ia Z h b ty n xs) (W : Wr h h' a sl v) (q : b ≠ a) : own_Ia Z h' b ty n xs := by obtain ⟨k, V, hl⟩ := F; exact ⟨k, V.other W q, hl⟩
theorem own_getD_map (xs : List Int32) (i : Nat) : (xs.map Value.int).getD i (.int 0) = .int (xs.getD i 0) := by
  induction xs generalizing i with
  | nil => rfl
  | cons x t ih => cases i with
    | zero => rfl
    | succ i => simpa using ih i
theorem own_newP (C : own_Cx Z a0 p l e R s m args below meth c own nm bytes mx ret) (A : own_At p l e R s m args below meth c T h n0 kc ks) {aty : ArrayType} {n : Int32} (cap : Nat) {xs : List Int32} (w : (Jvm.Cond.arrayClass (newarray.typeOf aty)).before a0 Z = true) (hn' : ¬ n < 0) (hxs : List.replicate n.toNatClampNeg 0 = xs) (hcap : n.toNatClampNeg ≤ cap) (hcb : cap * 8 ≤ 536870912) (hdv : defaultValue (newarray.typeOf aty) = .int 0) (hd : decode bytes pc = .ok (.newarray aty, 2)) (hq : pc + 2 = q) (hc : kc + 1 ≤ R.cells) (hs : ks + cap ≤ R.slots)
    (k : ∀ T' h' a, a = h.size → Ext h h' → own_Ia Z h' a (newarray.typeOf aty) n xs → n0 ≤ a → own_At p l e R s m args below meth c T' h' n0 (kc + 1) (ks + cap) → own_Go p.tables e below (T'.setTop (mkF m q Ls (.ref a :: st))) Q) :
    own_Go p.tables e below (T.setTop (mkF m pc Ls (.int n :: st))) Q := by
  obtain ⟨locs, cells, slots, X, eT, N, hc', hs', hn⟩ := A
  obtain ⟨T', h', cA, X', e', E', A', st'⟩ := newP X C.1 C.2.2.2.2.1 w eT (g := mkF m pc Ls (.int n :: st)) rfl (hb C.2.1 hd) rfl hn' (cap := cap) hcap hcb (by omega) (by omega)
  subst hq hxs
  have V := Arv.new A' hn'
  rw [hdv] at V
  have V' := V.pad (pad_rep [] (.int 0) n.toNatClampNeg)
  refine own_go st' (k T' h' h.size rfl E' ⟨cA, ?_, by simp⟩ hn ⟨locs, _, _, X', e', N, by omega, by omega, Nat.le_trans hn E'.1⟩)
  simpa using V'
theorem own_newX (C : own_Cx Z a0 p l e R s m args below meth c own nm bytes mx ret) (A : own_At p l e R s m args below meth c T h n0 kc ks) {aty : ArrayType} {n : Int32} (cap : Nat) (w : (Jvm.Cond.arrayClass (newarray.typeOf aty)).before a0 Z = true) (hn' : ¬ n < 0) (hcap : n.toNatClampNeg ≤ cap) (hcb : cap * 8 ≤ 536870912) (hd : decode bytes pc = .ok (.newarray aty, 2)) (hq : pc + 2 = q) (hc : kc + 1 ≤ R.cells) (hs : ks + cap ≤ R.slots)
    (k : ∀ T' h' a, a = h.size → Ext h h' → n0 ≤ a → own_At p l e R s m args below meth c T' h' n0 (kc + 1) (ks + cap) → own_Go p.tables e below (T'.setTop (mkF m q Ls (.ref a :: st))) Q) :
    own_Go p.tables e below (T.setTop (mkF m pc Ls (.int n :: st))) Q := by
  obtain ⟨locs, cells, slots, X, eT, N, hc', hs', hn⟩ := A
  obtain ⟨T', h', cA, X', e', E', A', st'⟩ := newP X C.1 C.2.2.2.2.1 w eT (g := mkF m pc Ls (.int n :: st)) rfl (hb C.2.1 hd) rfl hn' (cap := cap) hcap hcb (by omega) (by omega)
  subst hq
  exact own_go st' (k T' h' h.size rfl E' hn ⟨locs, _, _, X', e', N, by omega, by omega, Nat.le_trans hn E'.1⟩)
def own_PN (Z : State) (n0 : Nat) (ty : FieldType) (h : Heap) (r : Int32 × List Int32) (v : Option Value) (h' : Heap) : Prop := ∃ a, v = some (.ref a) ∧ n0 ≤ a ∧ h.size ≤ a ∧ Keep h h' [] ∧ own_Ia Z h' a ty r.1 r.2
theorem own_iastore (C : own_Cx Z a0 p l e R s m args below meth c own nm bytes mx ret) (A : own_At p l e R s m args below meth c T h n0 kc ks) {a : Addr} {j x n : Int32} {xs ys : List Int32} (V : own_Ia Z h a .int n xs) (hj : ¬ j < 0 ∧ j < n) (hys : xs.set j.toNatClampNeg (x) = ys) (ga : n0 ≤ a) (hd : decode bytes pc = .ok (.iastore, 1)) (hq : pc + 1 = q)
    (k : ∀ T' h', Keep h h' [a] → own_Ia Z h' a .int n ys → own_At p l e R s m args below meth c T' h' n0 kc ks → own_Go p.tables e below (T'.setTop (mkF m q Ls st)) Q) :
    own_Go p.tables e below (T.setTop (mkF m pc Ls (.int x :: .int j :: .ref a :: st))) Q := by
  obtain ⟨locs, cells, slots, X, eT, N, hc', hs', hn⟩ := A
  obtain ⟨kk, ⟨cl, Ar, q1, S, q3, H, G⟩, hlen⟩ := V
  have hin := inb_of S hj
  obtain ⟨T', h', X', e', W', st'⟩ := stI X C.1 C.2.2.2.2.1 eT Ar hin (g := mkF m pc Ls (.int x :: .int j :: .ref a :: st)) rfl rfl (hb C.2.1 hd)
  subst hq hys
  have hlt : j.toNatClampNeg < (xs.map Value.int).length := by
    have := Nat.lt_of_not_le fun z => hin (Or.inr z)
    rw [S] at this; simpa [hlen] using this
  have V' := Arv.set Ar q1 S q3 H G rfl W' j.toNatClampNeg rfl hlt
  refine own_go st' (k T' h' (Keep.of_wr W') ⟨kk, ?_, by simpa using hlen⟩ ⟨_, cells, slots, X', e', Fr.snoc X' N ga, hc', hs', by rw [W'.size]; exact hn⟩)
  rw [List.map_set]
  exact V'
theorem own_bastore (C : own_Cx Z a0 p l e R s m args below meth c own nm bytes mx ret) (A : own_At p l e R s m args below meth c T h n0 kc ks) {a : Addr} {j x n : Int32} {xs ys : List Int32} (V : own_Ia Z h a .byte n xs) (hj : ¬ j < 0 ∧ j < n) (hys : xs.set j.toNatClampNeg (x.toInt8.toInt32) = ys) (ga : n0 ≤ a) (hd : decode bytes pc = .ok (.bastore, 1)) (hq : pc + 1 = q)
    (k : ∀ T' h', Keep h h' [a] → own_Ia Z h' a .byte n ys → own_At p l e R s m args below meth c T' h' n0 kc ks → own_Go p.tables e below (T'.setTop (mkF m q Ls st)) Q) :
    own_Go p.tables e below (T.setTop (mkF m pc Ls (.int x :: .int j :: .ref a :: st))) Q := by
  obtain ⟨locs, cells, slots, X, eT, N, hc', hs', hn⟩ := A
  obtain ⟨kk, ⟨cl, Ar, q1, S, q3, H, G⟩, hlen⟩ := V
  have hin := inb_of S hj
  obtain ⟨T', h', X', e', W', st'⟩ := stB X C.1 C.2.2.2.2.1 eT Ar hin (g := mkF m pc Ls (.int x :: .int j :: .ref a :: st)) rfl rfl (hb C.2.1 hd)
  subst hq hys
  have hlt : j.toNatClampNeg < (xs.map Value.int).length := by
    have := Nat.lt_of_not_le fun z => hin (Or.inr z)
    rw [S] at this; simpa [hlen] using this
  have V' := Arv.set Ar q1 S q3 H G (fits_nar_byte x) W' j.toNatClampNeg rfl hlt
  refine own_go st' (k T' h' (Keep.of_wr W') ⟨kk, ?_, by simpa using hlen⟩ ⟨_, cells, slots, X', e', Fr.snoc X' N ga, hc', hs', by rw [W'.size]; exact hn⟩)
  rw [List.map_set]
  exact V'
theorem own_castore (C : own_Cx Z a0 p l e R s m args below meth c own nm bytes mx ret) (A : own_At p l e R s m args below meth c T h n0 kc ks) {a : Addr} {j x n : Int32} {xs ys : List Int32} (V : own_Ia Z h a .char n xs) (hj : ¬ j < 0 ∧ j < n) (hys : xs.set j.toNatClampNeg (x.toUInt32.toUInt16.toUInt32.toInt32) = ys) (ga : n0 ≤ a) (hd : decode bytes pc = .ok (.castore, 1)) (hq : pc + 1 = q)
    (k : ∀ T' h', Keep h h' [a] → own_Ia Z h' a .char n ys → own_At p l e R s m args below meth c T' h' n0 kc ks → own_Go p.tables e below (T'.setTop (mkF m q Ls st)) Q) :
    own_Go p.tables e below (T.setTop (mkF m pc Ls (.int x :: .int j :: .ref a :: st))) Q := by
  obtain ⟨locs, cells, slots, X, eT, N, hc', hs', hn⟩ := A
  obtain ⟨kk, ⟨cl, Ar, q1, S, q3, H, G⟩, hlen⟩ := V
  have hin := inb_of S hj
  obtain ⟨T', h', X', e', W', st'⟩ := stC X C.1 C.2.2.2.2.1 eT Ar hin (g := mkF m pc Ls (.int x :: .int j :: .ref a :: st)) rfl rfl (hb C.2.1 hd)
  subst hq hys
  have hlt : j.toNatClampNeg < (xs.map Value.int).length := by
    have := Nat.lt_of_not_le fun z => hin (Or.inr z)
    rw [S] at this; simpa [hlen] using this
  have V' := Arv.set Ar q1 S q3 H G (fits_nar_char x) W' j.toNatClampNeg rfl hlt
  refine own_go st' (k T' h' (Keep.of_wr W') ⟨kk, ?_, by simpa using hlen⟩ ⟨_, cells, slots, X', e', Fr.snoc X' N ga, hc', hs', by rw [W'.size]; exact hn⟩)
  rw [List.map_set]
  exact V'
theorem own_iaload (C : own_Cx Z a0 p l e R s m args below meth c own nm bytes mx ret) (A : own_At p l e R s m args below meth c T h n0 kc ks) {a : Addr} {j n v : Int32} {xs : List Int32} (V : own_Ia Z h a .int n xs) (hj : ¬ j < 0 ∧ j < n) (hv : xs.getD j.toNatClampNeg 0 = v) (hd : decode bytes pc = .ok (.iaload, 1)) (hq : pc + 1 = q) (k : own_Go p.tables e below (T.setTop (mkF m q Ls (.int v :: st))) Q) :
    own_Go p.tables e below (T.setTop (mkF m pc Ls (.int j :: .ref a :: st))) Q := by
  obtain ⟨locs, cells, slots, X, eT, N, hc', hs', hn⟩ := A
  obtain ⟨kk, ⟨cl, Ar, q1, S, q3, H, G⟩, hlen⟩ := V
  have hin := inb_of S hj
  subst hq hv
  exact own_go (fun t => X.iaload C.1 (by rw [eT]; exact Ar.1) (State.isArrayOf_alike C.2.2.2.2.1.alike Ar.2.1) Ar.2.2 hin (H.at hin (own_getD_map xs _)) (g := mkF m pc Ls (.int j :: .ref a :: st)) rfl rfl (hb C.2.1 hd) t) k
theorem own_baload (C : own_Cx Z a0 p l e R s m args below meth c own nm bytes mx ret) (A : own_At p l e R s m args below meth c T h n0 kc ks) {a : Addr} {j n v : Int32} {xs : List Int32} (V : own_Ia Z h a .byte n xs) (hj : ¬ j < 0 ∧ j < n) (hv : xs.getD j.toNatClampNeg 0 = v) (hd : decode bytes pc = .ok (.baload, 1)) (hq : pc + 1 = q) (k : own_Go p.tables e below (T.setTop (mkF m q Ls (.int v :: st))) Q) :
    own_Go p.tables e below (T.setTop (mkF m pc Ls (.int j :: .ref a :: st))) Q := by
  obtain ⟨locs, cells, slots, X, eT, N, hc', hs', hn⟩ := A
  obtain ⟨kk, ⟨cl, Ar, q1, S, q3, H, G⟩, hlen⟩ := V
  have hin := inb_of S hj
  subst hq hv
  exact own_go (fun t => X.baloadBytes C.1 (by rw [eT]; exact Ar.1) (State.isArrayOf_alike C.2.2.2.2.1.alike Ar.2.1) Ar.2.2 hin (H.at hin (own_getD_map xs _)) (g := mkF m pc Ls (.int j :: .ref a :: st)) rfl rfl (hb C.2.1 hd) t) k
theorem own_caload (C : own_Cx Z a0 p l e R s m args below meth c own nm bytes mx ret) (A : own_At p l e R s m args below meth c T h n0 kc ks) {a : Addr} {j n v : Int32} {xs : List Int32} (V : own_Ia Z h a .char n xs) (hj : ¬ j < 0 ∧ j < n) (hv : xs.getD j.toNatClampNeg 0 = v) (hd : decode bytes pc = .ok (.caload, 1)) (hq : pc + 1 = q) (k : own_Go p.tables e below (T.setTop (mkF m q Ls (.int v :: st))) Q) :
    own_Go p.tables e below (T.setTop (mkF m pc Ls (.int j :: .ref a :: st))) Q := by
  obtain ⟨locs, cells, slots, X, eT, N, hc', hs', hn⟩ := A
  obtain ⟨kk, ⟨cl, Ar, q1, S, q3, H, G⟩, hlen⟩ := V
  have hin := inb_of S hj
  subst hq hv
  exact own_go (fun t => X.caload C.1 (by rw [eT]; exact Ar.1) (State.isArrayOf_alike C.2.2.2.2.1.alike Ar.2.1) Ar.2.2 hin (H.at hin (own_getD_map xs _)) (g := mkF m pc Ls (.int j :: .ref a :: st)) rfl rfl (hb C.2.1 hd) t) k
theorem own_alen (C : own_Cx Z a0 p l e R s m args below meth c own nm bytes mx ret) (A : own_At p l e R s m args below meth c T h n0 kc ks) {a : Addr} {n : Int32} {ty : FieldType} {xs : List Int32} (V : own_Ia Z h a ty n xs) (hd : decode bytes pc = .ok (.arraylength, 1)) (hq : pc + 1 = q) (k : own_Go p.tables e below (T.setTop (mkF m q Ls (.int n :: st))) Q) :
    own_Go p.tables e below (T.setTop (mkF m pc Ls (.ref a :: st))) Q := by
  obtain ⟨locs, cells, slots, X, eT, N, hc', hs', hn⟩ := A
  obtain ⟨kk, ⟨cl, Ar, q1, S, q3, H, G⟩, hlen⟩ := V
  subst hq
  rw [← len_of S q3] at k
  exact own_go (fun t => X.arraylength C.1 (by rw [eT]; exact Ar.1) (State.isArrayOf_alike C.2.2.2.2.1.alike Ar.2.1) (g := mkF m pc Ls (.ref a :: st)) rfl rfl (hb C.2.1 hd) t) k
end OwnKit
theorem own_pd0 : parseMethodDescriptor "(III)I" = some ⟨[.int, .int, .int], some .int⟩ := by decide +kernel
theorem own_pd1 : parseMethodDescriptor "([I[I[D[I[II)V" = some ⟨[(.array .int), (.array .int), (.array .double), (.array .int), (.array .int), .int], none⟩ := by decide +kernel
theorem own_pd2 : parseMethodDescriptor "(I)Z" = some ⟨[.int], some .boolean⟩ := by decide +kernel
theorem own_pd3 : parseMethodDescriptor "(Z)I" = some ⟨[.boolean], some .int⟩ := by decide +kernel
theorem own_pd4 : parseMethodDescriptor "()I" = some ⟨[], some .int⟩ := by decide +kernel
theorem own_h4 {v3 v4 : Int32} (h4 : ¬ v4 < 0) (hc : v4 < v3) : ¬ (v4 + (1 : Int32)) < 0 := by
  have l0 : (0 : Int32).toInt = 0 := rfl
  have l1 : (1 : Int32).toInt = 1 := rfl
  rw [Int32.lt_iff_toInt_lt] at *
  have c1 := c_iadd v4 1
  have r1 := rng32 (v4 + 1)
  have r2 := rng32 v4
  have r3 := rng32 v3
  rw [l1] at c1
  omega
theorem own_dec {v3 v4 : Int32} {fuel : Nat} (h4 : ¬ v4 < 0) (hc : v4 < v3) (hm : (v3.toInt - v4.toInt).toNat < fuel + 1) : (v3.toInt - (v4 + (1 : Int32)).toInt).toNat < fuel := by
  have l0 : (0 : Int32).toInt = 0 := rfl
  have l1 : (1 : Int32).toInt = 1 := rfl
  rw [Int32.lt_iff_toInt_lt] at *
  have c1 := c_iadd v4 1
  have r1 := rng32 (v4 + 1)
  have r2 := rng32 v4
  have r3 := rng32 v3
  rw [l1] at c1
  omega
theorem own_ix {v3 v4 n : Int32} (h4 : ¬ v4 < 0) (h3 : v3 = n) (hc : v4 < v3) : ¬ v4 < 0 ∧ v4 < n := ⟨h4, h3 ▸ hc⟩
/-! VotesIsInPinLaw.pick -/
theorem own_d1_0 : decode method_2_code 0 = .ok (.iload_n 0, 1) := by decide +kernel
theorem own_d1_1 : decode method_2_code 1 = .ok (.iload_n 1, 1) := by decide +kernel
theorem own_d1_2 : decode method_2_code 2 = .ok (.ishr, 1) := by decide +kernel
theorem own_d1_3 : decode method_2_code 3 = .ok (.iconst 1, 1) := by decide +kernel
theorem own_d1_4 : decode method_2_code 4 = .ok (.iand, 1) := by decide +kernel
theorem own_d1_5 : decode method_2_code 5 = .ok (.ifCond .eq 10, 3) := by decide +kernel
theorem own_d1_8 : decode method_2_code 8 = .ok (.iload_n 2, 1) := by decide +kernel
theorem own_d1_9 : decode method_2_code 9 = .ok (.ldc 7, 2) := by decide +kernel
theorem own_d1_11 : decode method_2_code 11 = .ok (.iand, 1) := by decide +kernel
theorem own_d1_12 : decode method_2_code 12 = .ok (.goto 4, 3) := by decide +kernel
theorem own_d1_15 : decode method_2_code 15 = .ok (.iconst 0, 1) := by decide +kernel
theorem own_d1_16 : decode method_2_code 16 = .ok (.ireturn, 1) := by decide +kernel
def own_R1 : Room := { frames := 0, cells := 0, slots := 0, locals := 0 }
def f1_0 (v0 : Int32) (v1 : Int32) (v2 : Int32) : Int32 := (if ((v0 >>> (v1 &&& 31)) &&& (1 : Int32)) = (0 : Int32) then (0 : Int32) else (v2 &&& (2147483647 : Int32)))
set_option maxRecDepth 65536 in
set_option maxHeartbeats 4000000 in
theorem w1_0 {Z : State} {a0 : Array Value} {p : Program} {l : Launch} {e : Env} {s : State} {m : MethodId} {args : Array Value} {below : List Frame} {meth : Method} {c : Code} {T : State} {h : Heap} {n0 : Nat}  (C : own_Cx Z a0 p l e own_R1 s m args below meth c "com/example/tandem_rank/tandemrank/fusion/VotesIsInPinLaw" "pick" method_2_code 3 (some .int)) (A : own_At p l e own_R1 s m args below meth c T h n0 0 0) (v0 : Int32) (v1 : Int32) (v2 : Int32) :
    own_Go p.tables e below (T.setTop (mkF m 0 #[.val (.int v0), .val (.int v1), .val (.int v2)] [])) (own_QR s n0 0 0 (own_RI h (f1_0 v0 v1 v2))) := by
  unfold f1_0
  refine own_iloadN C A own_d1_0 rfl rfl ?_
  refine own_iloadN C A own_d1_1 rfl rfl ?_
  refine own_ishr C A own_d1_2 rfl ?_
  refine own_iconst C A own_d1_3 (v := 1) rfl rfl ?_
  refine own_iand C A own_d1_4 rfl ?_
  refine own_ite (fun hc5 => ?_) (fun hc5 => ?_)
  · refine own_ifY C A own_d1_5 (Jvm.Free.XT.i0_eq_t hc5) (by decide) (q := 15) (by decide) ?_
    refine own_iconst C A own_d1_15 (v := 0) rfl rfl ?_
    exact own_retI C A own_d1_16 ⟨rfl, rfl⟩
  · refine own_ifN C A own_d1_5 (Jvm.Free.XT.i0_eq_f hc5) rfl ?_
    refine own_iloadN C A own_d1_8 rfl rfl ?_
    refine own_ldcI C A (own_w C 4 rfl) own_d1_9 rfl ?_
    refine own_iand C A own_d1_11 rfl ?_
    refine own_goto C A own_d1_12 (by decide) (q := 16) (by decide) ?_
    exact own_retI C A own_d1_16 ⟨rfl, rfl⟩
theorem own_ef1 (m : MethodId) (v0 : Int32) (v1 : Int32) (v2 : Int32) : entryFrame m #[(.int v0), (.int v1), (.int v2)] 3 = mkF m 0 #[.val (.int v0), .val (.int v1), .val (.int v2)] [] := by first | (simp [entryFrame, mkF, argsToLocals, Value.category]; done) | rfl
theorem rm1 (l : Launch) (Z : State) (a0 : Array Value) (hw : ∀ d ∈ tables_1, d.before a0 Z = true) (ws : List Jvm.Cond) (v0 : Int32) (v1 : Int32) (v2 : Int32) (h : Heap) (n0 : Nat) (hn : n0 ≤ h.size) :
    MetFree l (⟨"com/example/tandem_rank/tandemrank/fusion/VotesIsInPinLaw", "pick", "(III)I"⟩ : MethodName) (head1 (Jvm.Cond.code (⟨"com/example/tandem_rank/tandemrank/fusion/VotesIsInPinLaw", "pick", "(III)I"⟩ : MethodName) method_2_code 3 (some .int) :: ws) own_R1) (fun a U => a = #[(.int v0), (.int v1), (.int v2)] ∧ Z.Warmed39 U.vm ∧ U.heap = h) (fun _ _ _ _ _ => True) (fun _ U o U' => own_QR U n0 0 0 (own_RI h (f1_0 v0 v1 v2)) o U') :=
  own_met (plainFor_of_name (by first | (simp [plainName, overriddenIn]; done) | decide +kernel)) hw hn (fun m => own_ef1 m v0 v1 v2) (fun p e s m below meth c T C A => w1_0 C A v0 v1 v2)
/-! VotesIsInPinLaw.one -/
theorem own_d2_0 : decode method_3_code 0 = .ok (.iload_n 0, 1) := by decide +kernel
theorem own_d2_1 : decode method_3_code 1 = .ok (.ifCond .eq 7, 3) := by decide +kernel
theorem own_d2_4 : decode method_3_code 4 = .ok (.iconst 1, 1) := by decide +kernel
theorem own_d2_5 : decode method_3_code 5 = .ok (.goto 4, 3) := by decide +kernel
theorem own_d2_8 : decode method_3_code 8 = .ok (.iconst 0, 1) := by decide +kernel
theorem own_d2_9 : decode method_3_code 9 = .ok (.ireturn, 1) := by decide +kernel
def own_R2 : Room := { frames := 0, cells := 0, slots := 0, locals := 0 }
def f2_0 (v0 : Int32) : Int32 := (if v0 = (0 : Int32) then (0 : Int32) else (1 : Int32))
set_option maxRecDepth 65536 in
set_option maxHeartbeats 4000000 in
theorem w2_0 {Z : State} {a0 : Array Value} {p : Program} {l : Launch} {e : Env} {s : State} {m : MethodId} {args : Array Value} {below : List Frame} {meth : Method} {c : Code} {T : State} {h : Heap} {n0 : Nat}  (C : own_Cx Z a0 p l e own_R2 s m args below meth c "com/example/tandem_rank/tandemrank/fusion/VotesIsInPinLaw" "one" method_3_code 1 (some .int)) (A : own_At p l e own_R2 s m args below meth c T h n0 0 0) (v0 : Int32) :
    own_Go p.tables e below (T.setTop (mkF m 0 #[.val (.int v0)] [])) (own_QR s n0 0 0 (own_RI h (f2_0 v0))) := by
  unfold f2_0
  refine own_iloadN C A own_d2_0 rfl rfl ?_
  refine own_ite (fun hc1 => ?_) (fun hc1 => ?_)
  · refine own_ifY C A own_d2_1 (Jvm.Free.XT.i0_eq_t hc1) (by decide) (q := 8) (by decide) ?_
    refine own_iconst C A own_d2_8 (v := 0) rfl rfl ?_
    exact own_retI C A own_d2_9 ⟨rfl, rfl⟩
  · refine own_ifN C A own_d2_1 (Jvm.Free.XT.i0_eq_f hc1) rfl ?_
    refine own_iconst C A own_d2_4 (v := 1) rfl rfl ?_
    refine own_goto C A own_d2_5 (by decide) (q := 9) (by decide) ?_
    exact own_retI C A own_d2_9 ⟨rfl, rfl⟩
theorem own_ef2 (m : MethodId) (v0 : Int32) : entryFrame m #[(.int v0)] 1 = mkF m 0 #[.val (.int v0)] [] := by first | (simp [entryFrame, mkF, argsToLocals, Value.category]; done) | rfl
theorem rm2 (l : Launch) (Z : State) (a0 : Array Value) (hw : ∀ d ∈ tables_1, d.before a0 Z = true) (ws : List Jvm.Cond) (v0 : Int32) (h : Heap) (n0 : Nat) (hn : n0 ≤ h.size) :
    MetFree l (⟨"com/example/tandem_rank/tandemrank/fusion/VotesIsInPinLaw", "one", "(Z)I"⟩ : MethodName) (head1 (Jvm.Cond.code (⟨"com/example/tandem_rank/tandemrank/fusion/VotesIsInPinLaw", "one", "(Z)I"⟩ : MethodName) method_3_code 1 (some .int) :: ws) own_R2) (fun a U => a = #[(.int v0)] ∧ Z.Warmed39 U.vm ∧ U.heap = h) (fun _ _ _ _ _ => True) (fun _ U o U' => own_QR U n0 0 0 (own_RI h (f2_0 v0)) o U') :=
  own_met (plainFor_of_name (by first | (simp [plainName, overriddenIn]; done) | decide +kernel)) hw hn (fun m => own_ef2 m v0) (fun p e s m below meth c T C A => w2_0 C A v0)
/-! Votes.ctor -/
theorem own_d3_0 : decode prog_36_method_1_code 0 = .ok (.aload_n 0, 1) := by decide +kernel
theorem own_d3_1 : decode prog_36_method_1_code 1 = .ok (.invokespecial 1, 3) := by decide +kernel
theorem own_d3_4 : decode prog_36_method_1_code 4 = .ok (.aload_n 0, 1) := by decide +kernel
theorem own_d3_5 : decode prog_36_method_1_code 5 = .ok (.aload_n 1, 1) := by decide +kernel
theorem own_d3_6 : decode prog_36_method_1_code 6 = .ok (.putfield 7, 3) := by decide +kernel
theorem own_d3_9 : decode prog_36_method_1_code 9 = .ok (.aload_n 0, 1) := by decide +kernel
theorem own_d3_10 : decode prog_36_method_1_code 10 = .ok (.aload_n 2, 1) := by decide +kernel
theorem own_d3_11 : decode prog_36_method_1_code 11 = .ok (.putfield 13, 3) := by decide +kernel
theorem own_d3_14 : decode prog_36_method_1_code 14 = .ok (.aload_n 0, 1) := by decide +kernel
theorem own_d3_15 : decode prog_36_method_1_code 15 = .ok (.aload_n 3, 1) := by decide +kernel
theorem own_d3_16 : decode prog_36_method_1_code 16 = .ok (.putfield 16, 3) := by decide +kernel
theorem own_d3_19 : decode prog_36_method_1_code 19 = .ok (.aload_n 0, 1) := by decide +kernel
theorem own_d3_20 : decode prog_36_method_1_code 20 = .ok (.aload 4, 2) := by decide +kernel
theorem own_d3_22 : decode prog_36_method_1_code 22 = .ok (.putfield 20, 3) := by decide +kernel
theorem own_d3_25 : decode prog_36_method_1_code 25 = .ok (.aload_n 0, 1) := by decide +kernel
theorem own_d3_26 : decode prog_36_method_1_code 26 = .ok (.aload 5, 2) := by decide +kernel
theorem own_d3_28 : decode prog_36_method_1_code 28 = .ok (.putfield 23, 3) := by decide +kernel
theorem own_d3_31 : decode prog_36_method_1_code 31 = .ok (.aload_n 0, 1) := by decide +kernel
theorem own_d3_32 : decode prog_36_method_1_code 32 = .ok (.iload 6, 2) := by decide +kernel
theorem own_d3_34 : decode prog_36_method_1_code 34 = .ok (.putfield 26, 3) := by decide +kernel
theorem own_d3_37 : decode prog_36_method_1_code 37 = .ok (.return_, 1) := by decide +kernel
def own_R3 : Room := { frames := 1, cells := 0, slots := 0, locals := 12 }
def own_P3 (Z : State) (h : Heap) (v0 : Addr) (v1 : Addr) (v2 : Addr) (v3 : Addr) (v4 : Addr) (v5 : Addr) (r : Int32) (v : Option Value) (h' : Heap) : Prop := v = none ∧ Keep h h' [v0] ∧ Exa Z h' v0 "com/example/tandem_rank/tandemrank/fusion/Votes" ∧ Fld Z h' v0 "com/example/tandem_rank/tandemrank/fusion/Votes" "ranks" "[I" (.ref v1) ∧ Fld Z h' v0 "com/example/tandem_rank/tandemrank/fusion/Votes" "scoreRanks" "[I" (.ref v2) ∧ Fld Z h' v0 "com/example/tandem_rank/tandemrank/fusion/Votes" "scores" "[D" (.ref v3) ∧ Fld Z h' v0 "com/example/tandem_rank/tandemrank/fusion/Votes" "lengths" "[I" (.ref v4) ∧ Fld Z h' v0 "com/example/tandem_rank/tandemrank/fusion/Votes" "distinctScores" "[I" (.ref v5) ∧ Fld Z h' v0 "com/example/tandem_rank/tandemrank/fusion/Votes" "itemCount" "I" (.int r)
def f3_0 (v6 : Int32) : Int32 := (v6)
set_option maxRecDepth 65536 in
set_option maxHeartbeats 4000000 in
theorem w3_0 {Z : State} {a0 : Array Value} {p : Program} {l : Launch} {e : Env} {s : State} {m : MethodId} {args : Array Value} {below : List Frame} {meth : Method} {c : Code} {T : State} {h : Heap} {n0 : Nat} {hE : Heap} {v0 : Addr} {v1 : Addr} {v2 : Addr} {v3 : Addr} {v4 : Addr} {v5 : Addr} {o_ranks_v0 : Value} {o_scoreRanks_v0 : Value} {o_scores_v0 : Value} {o_lengths_v0 : Value} {o_distinctScores_v0 : Value} {o_itemCount_v0 : Value} (C : own_Cx Z a0 p l e own_R3 s m args below meth c "com/example/tandem_rank/tandemrank/fusion/Votes" "<init>" prog_36_method_1_code 7 none) (A : own_At p l e own_R3 s m args below meth c T h n0 0 0) (v6 : Int32) (F_ranks_v0 : Fld Z h v0 "com/example/tandem_rank/tandemrank/fusion/Votes" "ranks" "[I" o_ranks_v0) (F_scoreRanks_v0 : Fld Z h v0 "com/example/tandem_rank/tandemrank/fusion/Votes" "scoreRanks" "[I" o_scoreRanks_v0) (F_scores_v0 : Fld Z h v0 "com/example/tandem_rank/tandemrank/fusion/Votes" "scores" "[D" o_scores_v0) (F_lengths_v0 : Fld Z h v0 "com/example/tandem_rank/tandemrank/fusion/Votes" "lengths" "[I" o_lengths_v0) (F_distinctScores_v0 : Fld Z h v0 "com/example/tandem_rank/tandemrank/fusion/Votes" "distinctScores" "[I" o_distinctScores_v0) (F_itemCount_v0 : Fld Z h v0 "com/example/tandem_rank/tandemrank/fusion/Votes" "itemCount" "I" o_itemCount_v0) (E_v0 : Exa Z h v0 "com/example/tandem_rank/tandemrank/fusion/Votes") (g_v0 : n0 ≤ v0) (K : Keep hE h [v0]) :
    own_Go p.tables e below (T.setTop (mkF m 0 #[.val (.ref v0), .val (.ref v1), .val (.ref v2), .val (.ref v3), .val (.ref v4), .val (.ref v5), .val (.int v6)] [])) (own_QR s n0 0 0 (own_P3 Z hE v0 v1 v2 v3 v4 v5 (f3_0 v6))) := by
  unfold f3_0
  refine own_aloadN C A own_d3_0 rfl rfl rfl ?_
  refine own_initO C A 0 (own_w C 13 rfl) (own_w C 14 rfl) (own_w C 15 rfl) rfl own_d3_1 rfl (by decide) (Nat.le_of_eq rfl) (by decide) (fun T A => ?_)
  refine own_aloadN C A own_d3_4 rfl rfl rfl ?_
  refine own_aloadN C A own_d3_5 rfl rfl rfl ?_
  refine own_putF C A (.array .int) (own_w C 16 rfl) F_ranks_v0 E_v0 (Or.inr ⟨(own_w C 17 rfl), rfl, rfl⟩) (own_w C 8 rfl) (by decide) rfl rfl g_v0 own_d3_6 rfl (fun T h W A => ?_)
  have F_ranks_v0 := Fld.same W F_ranks_v0
  have F_scoreRanks_v0 := Fld.other W F_scoreRanks_v0 (Or.inr (slot_ne (Or.inr (own_w C 19 rfl)) (Or.inr (own_w C 17 rfl)) (by decide) (by decide : parseFieldDescriptor _ = some (.array .int)) (by decide : parseFieldDescriptor _ = some (.array .int))))
  have F_scores_v0 := Fld.other W F_scores_v0 (Or.inr (slot_ne (Or.inr (own_w C 21 rfl)) (Or.inr (own_w C 17 rfl)) (by decide) (by decide : parseFieldDescriptor _ = some (.array .double)) (by decide : parseFieldDescriptor _ = some (.array .int))))
  have F_lengths_v0 := Fld.other W F_lengths_v0 (Or.inr (slot_ne (Or.inr (own_w C 23 rfl)) (Or.inr (own_w C 17 rfl)) (by decide) (by decide : parseFieldDescriptor _ = some (.array .int)) (by decide : parseFieldDescriptor _ = some (.array .int))))
  have F_distinctScores_v0 := Fld.other W F_distinctScores_v0 (Or.inr (slot_ne (Or.inr (own_w C 25 rfl)) (Or.inr (own_w C 17 rfl)) (by decide) (by decide : parseFieldDescriptor _ = some (.array .int)) (by decide : parseFieldDescriptor _ = some (.array .int))))
  have F_itemCount_v0 := Fld.other W F_itemCount_v0 (Or.inr (slot_ne (Or.inr (own_w C 27 rfl)) (Or.inr (own_w C 17 rfl)) (by decide) (by decide : parseFieldDescriptor _ = some .int) (by decide : parseFieldDescriptor _ = some (.array .int))))
  have E_v0 := Exa.wr W E_v0
  have K := K.wr W (Or.inl (List.mem_of_getElem? (i := 0) rfl))
  refine own_aloadN C A own_d3_9 rfl rfl rfl ?_
  refine own_aloadN C A own_d3_10 rfl rfl rfl ?_
  refine own_putF C A (.array .int) (own_w C 18 rfl) F_scoreRanks_v0 E_v0 (Or.inr ⟨(own_w C 19 rfl), rfl, rfl⟩) (own_w C 8 rfl) (by decide) rfl rfl g_v0 own_d3_11 rfl (fun T h W A => ?_)
  have F_ranks_v0 := Fld.other W F_ranks_v0 (Or.inr (slot_ne (Or.inr (own_w C 17 rfl)) (Or.inr (own_w C 19 rfl)) (by decide) (by decide : parseFieldDescriptor _ = some (.array .int)) (by decide : parseFieldDescriptor _ = some (.array .int))))
  have F_scoreRanks_v0 := Fld.same W F_scoreRanks_v0
  have F_scores_v0 := Fld.other W F_scores_v0 (Or.inr (slot_ne (Or.inr (own_w C 21 rfl)) (Or.inr (own_w C 19 rfl)) (by decide) (by decide : parseFieldDescriptor _ = some (.array .double)) (by decide : parseFieldDescriptor _ = some (.array .int))))
  have F_lengths_v0 := Fld.other W F_lengths_v0 (Or.inr (slot_ne (Or.inr (own_w C 23 rfl)) (Or.inr (own_w C 19 rfl)) (by decide) (by decide : parseFieldDescriptor _ = some (.array .int)) (by decide : parseFieldDescriptor _ = some (.array .int))))
  have F_distinctScores_v0 := Fld.other W F_distinctScores_v0 (Or.inr (slot_ne (Or.inr (own_w C 25 rfl)) (Or.inr (own_w C 19 rfl)) (by decide) (by decide : parseFieldDescriptor _ = some (.array .int)) (by decide : parseFieldDescriptor _ = some (.array .int))))
  have F_itemCount_v0 := Fld.other W F_itemCount_v0 (Or.inr (slot_ne (Or.inr (own_w C 27 rfl)) (Or.inr (own_w C 19 rfl)) (by decide) (by decide : parseFieldDescriptor _ = some .int) (by decide : parseFieldDescriptor _ = some (.array .int))))
  have E_v0 := Exa.wr W E_v0
  have K := K.wr W (Or.inl (List.mem_of_getElem? (i := 0) rfl))
  refine own_aloadN C A own_d3_14 rfl rfl rfl ?_
  refine own_aloadN C A own_d3_15 rfl rfl rfl ?_
  refine own_putF C A (.array .double) (own_w C 20 rfl) F_scores_v0 E_v0 (Or.inr ⟨(own_w C 21 rfl), rfl, rfl⟩) (own_w C 8 rfl) (by decide) rfl rfl g_v0 own_d3_16 rfl (fun T h W A => ?_)
  have F_ranks_v0 := Fld.other W F_ranks_v0 (Or.inr (slot_ne (Or.inr (own_w C 17 rfl)) (Or.inr (own_w C 21 rfl)) (by decide) (by decide : parseFieldDescriptor _ = some (.array .int)) (by decide : parseFieldDescriptor _ = some (.array .double))))
  have F_scoreRanks_v0 := Fld.other W F_scoreRanks_v0 (Or.inr (slot_ne (Or.inr (own_w C 19 rfl)) (Or.inr (own_w C 21 rfl)) (by decide) (by decide : parseFieldDescriptor _ = some (.array .int)) (by decide : parseFieldDescriptor _ = some (.array .double))))
  have F_scores_v0 := Fld.same W F_scores_v0
  have F_lengths_v0 := Fld.other W F_lengths_v0 (Or.inr (slot_ne (Or.inr (own_w C 23 rfl)) (Or.inr (own_w C 21 rfl)) (by decide) (by decide : parseFieldDescriptor _ = some (.array .int)) (by decide : parseFieldDescriptor _ = some (.array .double))))
  have F_distinctScores_v0 := Fld.other W F_distinctScores_v0 (Or.inr (slot_ne (Or.inr (own_w C 25 rfl)) (Or.inr (own_w C 21 rfl)) (by decide) (by decide : parseFieldDescriptor _ = some (.array .int)) (by decide : parseFieldDescriptor _ = some (.array .double))))
  have F_itemCount_v0 := Fld.other W F_itemCount_v0 (Or.inr (slot_ne (Or.inr (own_w C 27 rfl)) (Or.inr (own_w C 21 rfl)) (by decide) (by decide : parseFieldDescriptor _ = some .int) (by decide : parseFieldDescriptor _ = some (.array .double))))
  have E_v0 := Exa.wr W E_v0
  have K := K.wr W (Or.inl (List.mem_of_getElem? (i := 0) rfl))
  refine own_aloadN C A own_d3_19 rfl rfl rfl ?_
  refine own_aload C A own_d3_20 rfl rfl rfl ?_
  refine own_putF C A (.array .int) (own_w C 22 rfl) F_lengths_v0 E_v0 (Or.inr ⟨(own_w C 23 rfl), rfl, rfl⟩) (own_w C 8 rfl) (by decide) rfl rfl g_v0 own_d3_22 rfl (fun T h W A => ?_)
  have F_ranks_v0 := Fld.other W F_ranks_v0 (Or.inr (slot_ne (Or.inr (own_w C 17 rfl)) (Or.inr (own_w C 23 rfl)) (by decide) (by decide : parseFieldDescriptor _ = some (.array .int)) (by decide : parseFieldDescriptor _ = some (.array .int))))
  have F_scoreRanks_v0 := Fld.other W F_scoreRanks_v0 (Or.inr (slot_ne (Or.inr (own_w C 19 rfl)) (Or.inr (own_w C 23 rfl)) (by decide) (by decide : parseFieldDescriptor _ = some (.array .int)) (by decide : parseFieldDescriptor _ = some (.array .int))))
  have F_scores_v0 := Fld.other W F_scores_v0 (Or.inr (slot_ne (Or.inr (own_w C 21 rfl)) (Or.inr (own_w C 23 rfl)) (by decide) (by decide : parseFieldDescriptor _ = some (.array .double)) (by decide : parseFieldDescriptor _ = some (.array .int))))
  have F_lengths_v0 := Fld.same W F_lengths_v0
  have F_distinctScores_v0 := Fld.other W F_distinctScores_v0 (Or.inr (slot_ne (Or.inr (own_w C 25 rfl)) (Or.inr (own_w C 23 rfl)) (by decide) (by decide : parseFieldDescriptor _ = some (.array .int)) (by decide : parseFieldDescriptor _ = some (.array .int))))
  have F_itemCount_v0 := Fld.other W F_itemCount_v0 (Or.inr (slot_ne (Or.inr (own_w C 27 rfl)) (Or.inr (own_w C 23 rfl)) (by decide) (by decide : parseFieldDescriptor _ = some .int) (by decide : parseFieldDescriptor _ = some (.array .int))))
  have E_v0 := Exa.wr W E_v0
  have K := K.wr W (Or.inl (List.mem_of_getElem? (i := 0) rfl))
  refine own_aloadN C A own_d3_25 rfl rfl rfl ?_
  refine own_aload C A own_d3_26 rfl rfl rfl ?_
  refine own_putF C A (.array .int) (own_w C 24 rfl) F_distinctScores_v0 E_v0 (Or.inr ⟨(own_w C 25 rfl), rfl, rfl⟩) (own_w C 8 rfl) (by decide) rfl rfl g_v0 own_d3_28 rfl (fun T h W A => ?_)
  have F_ranks_v0 := Fld.other W F_ranks_v0 (Or.inr (slot_ne (Or.inr (own_w C 17 rfl)) (Or.inr (own_w C 25 rfl)) (by decide) (by decide : parseFieldDescriptor _ = some (.array .int)) (by decide : parseFieldDescriptor _ = some (.array .int))))
  have F_scoreRanks_v0 := Fld.other W F_scoreRanks_v0 (Or.inr (slot_ne (Or.inr (own_w C 19 rfl)) (Or.inr (own_w C 25 rfl)) (by decide) (by decide : parseFieldDescriptor _ = some (.array .int)) (by decide : parseFieldDescriptor _ = some (.array .int))))
  have F_scores_v0 := Fld.other W F_scores_v0 (Or.inr (slot_ne (Or.inr (own_w C 21 rfl)) (Or.inr (own_w C 25 rfl)) (by decide) (by decide : parseFieldDescriptor _ = some (.array .double)) (by decide : parseFieldDescriptor _ = some (.array .int))))
  have F_lengths_v0 := Fld.other W F_lengths_v0 (Or.inr (slot_ne (Or.inr (own_w C 23 rfl)) (Or.inr (own_w C 25 rfl)) (by decide) (by decide : parseFieldDescriptor _ = some (.array .int)) (by decide : parseFieldDescriptor _ = some (.array .int))))
  have F_distinctScores_v0 := Fld.same W F_distinctScores_v0
  have F_itemCount_v0 := Fld.other W F_itemCount_v0 (Or.inr (slot_ne (Or.inr (own_w C 27 rfl)) (Or.inr (own_w C 25 rfl)) (by decide) (by decide : parseFieldDescriptor _ = some .int) (by decide : parseFieldDescriptor _ = some (.array .int))))
  have E_v0 := Exa.wr W E_v0
  have K := K.wr W (Or.inl (List.mem_of_getElem? (i := 0) rfl))
  refine own_aloadN C A own_d3_31 rfl rfl rfl ?_
  refine own_iload C A own_d3_32 rfl rfl ?_
  refine own_putF C A .int (own_w C 26 rfl) F_itemCount_v0 E_v0 (Or.inr ⟨(own_w C 27 rfl), rfl, rfl⟩) (own_w C 8 rfl) (by decide) rfl rfl g_v0 own_d3_34 rfl (fun T h W A => ?_)
  have F_ranks_v0 := Fld.other W F_ranks_v0 (Or.inr (slot_ne (Or.inr (own_w C 17 rfl)) (Or.inr (own_w C 27 rfl)) (by decide) (by decide : parseFieldDescriptor _ = some (.array .int)) (by decide : parseFieldDescriptor _ = some .int)))
  have F_scoreRanks_v0 := Fld.other W F_scoreRanks_v0 (Or.inr (slot_ne (Or.inr (own_w C 19 rfl)) (Or.inr (own_w C 27 rfl)) (by decide) (by decide : parseFieldDescriptor _ = some (.array .int)) (by decide : parseFieldDescriptor _ = some .int)))
  have F_scores_v0 := Fld.other W F_scores_v0 (Or.inr (slot_ne (Or.inr (own_w C 21 rfl)) (Or.inr (own_w C 27 rfl)) (by decide) (by decide : parseFieldDescriptor _ = some (.array .double)) (by decide : parseFieldDescriptor _ = some .int)))
  have F_lengths_v0 := Fld.other W F_lengths_v0 (Or.inr (slot_ne (Or.inr (own_w C 23 rfl)) (Or.inr (own_w C 27 rfl)) (by decide) (by decide : parseFieldDescriptor _ = some (.array .int)) (by decide : parseFieldDescriptor _ = some .int)))
  have F_distinctScores_v0 := Fld.other W F_distinctScores_v0 (Or.inr (slot_ne (Or.inr (own_w C 25 rfl)) (Or.inr (own_w C 27 rfl)) (by decide) (by decide : parseFieldDescriptor _ = some (.array .int)) (by decide : parseFieldDescriptor _ = some .int)))
  have F_itemCount_v0 := Fld.same W F_itemCount_v0
  have E_v0 := Exa.wr W E_v0
  have K := K.wr W (Or.inl (List.mem_of_getElem? (i := 0) rfl))
  exact own_ret0 C A own_d3_37 ⟨rfl, K, E_v0, F_ranks_v0, F_scoreRanks_v0, F_scores_v0, F_lengths_v0, F_distinctScores_v0, F_itemCount_v0⟩
theorem own_ef3 (m : MethodId) (v0 : Addr) (v1 : Addr) (v2 : Addr) (v3 : Addr) (v4 : Addr) (v5 : Addr) (v6 : Int32) : entryFrame m #[(.ref v0), (.ref v1), (.ref v2), (.ref v3), (.ref v4), (.ref v5), (.int v6)] 7 = mkF m 0 #[.val (.ref v0), .val (.ref v1), .val (.ref v2), .val (.ref v3), .val (.ref v4), .val (.ref v5), .val (.int v6)] [] := by first | (simp [entryFrame, mkF, argsToLocals, Value.category]; done) | rfl
theorem rm3 (l : Launch) (Z : State) (a0 : Array Value) (hw : ∀ d ∈ tables_1, d.before a0 Z = true) (ws : List Jvm.Cond) (v0 : Addr) (v1 : Addr) (v2 : Addr) (v3 : Addr) (v4 : Addr) (v5 : Addr) (v6 : Int32) (o_ranks_v0 : Value) (o_scoreRanks_v0 : Value) (o_scores_v0 : Value) (o_lengths_v0 : Value) (o_distinctScores_v0 : Value) (o_itemCount_v0 : Value) (h : Heap) (n0 : Nat) (hn : n0 ≤ h.size) (F_ranks_v0 : Fld Z h v0 "com/example/tandem_rank/tandemrank/fusion/Votes" "ranks" "[I" o_ranks_v0) (F_scoreRanks_v0 : Fld Z h v0 "com/example/tandem_rank/tandemrank/fusion/Votes" "scoreRanks" "[I" o_scoreRanks_v0) (F_scores_v0 : Fld Z h v0 "com/example/tandem_rank/tandemrank/fusion/Votes" "scores" "[D" o_scores_v0) (F_lengths_v0 : Fld Z h v0 "com/example/tandem_rank/tandemrank/fusion/Votes" "lengths" "[I" o_lengths_v0) (F_distinctScores_v0 : Fld Z h v0 "com/example/tandem_rank/tandemrank/fusion/Votes" "distinctScores" "[I" o_distinctScores_v0) (F_itemCount_v0 : Fld Z h v0 "com/example/tandem_rank/tandemrank/fusion/Votes" "itemCount" "I" o_itemCount_v0) (E_v0 : Exa Z h v0 "com/example/tandem_rank/tandemrank/fusion/Votes") (g_v0 : n0 ≤ v0) :
    MetFree l (⟨"com/example/tandem_rank/tandemrank/fusion/Votes", "<init>", "([I[I[D[I[II)V"⟩ : MethodName) (head1 (Jvm.Cond.code (⟨"com/example/tandem_rank/tandemrank/fusion/Votes", "<init>", "([I[I[D[I[II)V"⟩ : MethodName) prog_36_method_1_code 7 none :: ws) own_R3) (fun a U => a = #[(.ref v0), (.ref v1), (.ref v2), (.ref v3), (.ref v4), (.ref v5), (.int v6)] ∧ Z.Warmed39 U.vm ∧ U.heap = h) (fun _ _ _ _ _ => True) (fun _ U o U' => own_QR U n0 0 0 (own_P3 Z h v0 v1 v2 v3 v4 v5 (f3_0 v6)) o U') :=
  own_met (plainFor_of_name (by first | (simp [plainName, overriddenIn]; done) | decide +kernel)) hw hn (fun m => own_ef3 m v0 v1 v2 v3 v4 v5 v6) (fun p e s m below meth c T C A => w3_0 C A v6 F_ranks_v0 F_scoreRanks_v0 F_scores_v0 F_lengths_v0 F_distinctScores_v0 F_itemCount_v0 E_v0 g_v0 (Keep.refl h _))
/-! Votes.isIn -/
theorem own_d4_0 : decode prog_36_method_3_code 0 = .ok (.aload_n 0, 1) := by decide +kernel
theorem own_d4_1 : decode prog_36_method_3_code 1 = .ok (.getfield 7, 3) := by decide +kernel
theorem own_d4_4 : decode prog_36_method_3_code 4 = .ok (.iload_n 1, 1) := by decide +kernel
theorem own_d4_5 : decode prog_36_method_3_code 5 = .ok (.iaload, 1) := by decide +kernel
theorem own_d4_6 : decode prog_36_method_3_code 6 = .ok (.ifCond .le 7, 3) := by decide +kernel
theorem own_d4_9 : decode prog_36_method_3_code 9 = .ok (.iconst 1, 1) := by decide +kernel
theorem own_d4_10 : decode prog_36_method_3_code 10 = .ok (.goto 4, 3) := by decide +kernel
theorem own_d4_13 : decode prog_36_method_3_code 13 = .ok (.iconst 0, 1) := by decide +kernel
theorem own_d4_14 : decode prog_36_method_3_code 14 = .ok (.ireturn, 1) := by decide +kernel
def own_R4 : Room := { frames := 0, cells := 0, slots := 0, locals := 0 }
def f4_0 (v1 : Int32) (xs_r_ranks_v0 : List Int32) : Int32 := (if (0 : Int32) < (xs_r_ranks_v0.getD (v1).toNatClampNeg 0) then (1 : Int32) else (0 : Int32))
set_option maxRecDepth 65536 in
set_option maxHeartbeats 4000000 in
theorem w4_0 {Z : State} {a0 : Array Value} {p : Program} {l : Launch} {e : Env} {s : State} {m : MethodId} {args : Array Value} {below : List Frame} {meth : Method} {c : Code} {T : State} {h : Heap} {n0 : Nat} {v0 : Addr} {r_ranks_v0 : Addr} (C : own_Cx Z a0 p l e own_R4 s m args below meth c "com/example/tandem_rank/tandemrank/fusion/Votes" "isIn" prog_36_method_3_code 2 (some .boolean)) (A : own_At p l e own_R4 s m args below meth c T h n0 0 0) (v1 : Int32) (xs_r_ranks_v0 : List Int32) (F_ranks_v0 : Fld Z h v0 "com/example/tandem_rank/tandemrank/fusion/Votes" "ranks" "[I" (.ref r_ranks_v0)) (E_v0 : Exa Z h v0 "com/example/tandem_rank/tandemrank/fusion/Votes") (V_r_ranks_v0 : own_Ia Z h r_ranks_v0 .int (3 : Int32) xs_r_ranks_v0) (hv1 : ¬ v1 < 0 ∧ v1 < 3) :
    own_Go p.tables e below (T.setTop (mkF m 0 #[.val (.ref v0), .val (.int v1)] [])) (own_QR s n0 0 0 (own_RI h (f4_0 v1 xs_r_ranks_v0))) := by
  unfold f4_0
  refine own_aloadN C A own_d4_0 rfl rfl rfl ?_
  refine own_getF C A (own_w C 16 rfl) F_ranks_v0 own_d4_1 rfl (fun T A => ?_)
  refine own_iloadN C A own_d4_4 rfl rfl ?_
  refine own_iaload C A V_r_ranks_v0 hv1 (v := (xs_r_ranks_v0.getD (v1).toNatClampNeg 0)) rfl own_d4_5 rfl ?_
  refine own_ite (fun hc6 => ?_) (fun hc6 => ?_)
  · refine own_ifN C A own_d4_6 (Jvm.Free.XT.i0_le_f hc6) rfl ?_
    refine own_iconst C A own_d4_9 (v := 1) rfl rfl ?_
    refine own_goto C A own_d4_10 (by decide) (q := 14) (by decide) ?_
    exact own_retN C A (t := .boolean) (by simp) own_d4_14 ⟨rfl, rfl⟩
  · refine own_ifY C A own_d4_6 (Jvm.Free.XT.i0_le_t hc6) (by decide) (q := 13) (by decide) ?_
    refine own_iconst C A own_d4_13 (v := 0) rfl rfl ?_
    exact own_retN C A (t := .boolean) (by simp) own_d4_14 ⟨rfl, rfl⟩
theorem own_ef4 (m : MethodId) (v0 : Addr) (v1 : Int32) : entryFrame m #[(.ref v0), (.int v1)] 2 = mkF m 0 #[.val (.ref v0), .val (.int v1)] [] := by first | (simp [entryFrame, mkF, argsToLocals, Value.category]; done) | rfl
theorem rm4 (l : Launch) (Z : State) (a0 : Array Value) (hw : ∀ d ∈ tables_1, d.before a0 Z = true) (ws : List Jvm.Cond) (v0 : Addr) (v1 : Int32) (xs_r_ranks_v0 : List Int32) (r_ranks_v0 : Addr) (h : Heap) (n0 : Nat) (hn : n0 ≤ h.size) (F_ranks_v0 : Fld Z h v0 "com/example/tandem_rank/tandemrank/fusion/Votes" "ranks" "[I" (.ref r_ranks_v0)) (E_v0 : Exa Z h v0 "com/example/tandem_rank/tandemrank/fusion/Votes") (V_r_ranks_v0 : own_Ia Z h r_ranks_v0 .int (3 : Int32) xs_r_ranks_v0) (hv1 : ¬ v1 < 0 ∧ v1 < 3) :
    MetFree l (⟨"com/example/tandem_rank/tandemrank/fusion/Votes", "isIn", "(I)Z"⟩ : MethodName) (head1 (Jvm.Cond.code (⟨"com/example/tandem_rank/tandemrank/fusion/Votes", "isIn", "(I)Z"⟩ : MethodName) prog_36_method_3_code 2 (some .boolean) :: ws) own_R4) (fun a U => a = #[(.ref v0), (.int v1)] ∧ Z.Warmed39 U.vm ∧ U.heap = h) (fun _ _ _ _ _ => True) (fun _ U o U' => own_QR U n0 0 0 (own_RI h (f4_0 v1 xs_r_ranks_v0)) o U') :=
  own_met (plainFor_of_name (by first | (simp [plainName, overriddenIn]; done) | decide +kernel)) hw hn (fun m => own_ef4 m v0 v1) (fun p e s m below meth c T C A => w4_0 C A v1 xs_r_ranks_v0 F_ranks_v0 E_v0 V_r_ranks_v0 hv1)
/-! Votes.holders -/
theorem own_d5_0 : decode prog_36_method_10_code 0 = .ok (.iconst 0, 1) := by decide +kernel
theorem own_d5_1 : decode prog_36_method_10_code 1 = .ok (.istore_n 1, 1) := by decide +kernel
theorem own_d5_2 : decode prog_36_method_10_code 2 = .ok (.aload_n 0, 1) := by decide +kernel
theorem own_d5_3 : decode prog_36_method_10_code 3 = .ok (.getfield 7, 3) := by decide +kernel
theorem own_d5_6 : decode prog_36_method_10_code 6 = .ok (.astore_n 2, 1) := by decide +kernel
theorem own_d5_7 : decode prog_36_method_10_code 7 = .ok (.aload_n 2, 1) := by decide +kernel
theorem own_d5_8 : decode prog_36_method_10_code 8 = .ok (.arraylength, 1) := by decide +kernel
theorem own_d5_9 : decode prog_36_method_10_code 9 = .ok (.istore_n 3, 1) := by decide +kernel
theorem own_d5_10 : decode prog_36_method_10_code 10 = .ok (.iconst 0, 1) := by decide +kernel
theorem own_d5_11 : decode prog_36_method_10_code 11 = .ok (.istore 4, 2) := by decide +kernel
theorem own_d5_13 : decode prog_36_method_10_code 13 = .ok (.iload 4, 2) := by decide +kernel
theorem own_d5_15 : decode prog_36_method_10_code 15 = .ok (.iload_n 3, 1) := by decide +kernel
theorem own_d5_16 : decode prog_36_method_10_code 16 = .ok (.if_icmp .ge 23, 3) := by decide +kernel
theorem own_d5_19 : decode prog_36_method_10_code 19 = .ok (.aload_n 2, 1) := by decide +kernel
theorem own_d5_20 : decode prog_36_method_10_code 20 = .ok (.iload 4, 2) := by decide +kernel
theorem own_d5_22 : decode prog_36_method_10_code 22 = .ok (.iaload, 1) := by decide +kernel
theorem own_d5_23 : decode prog_36_method_10_code 23 = .ok (.istore 5, 2) := by decide +kernel
theorem own_d5_25 : decode prog_36_method_10_code 25 = .ok (.iload 5, 2) := by decide +kernel
theorem own_d5_27 : decode prog_36_method_10_code 27 = .ok (.ifCond .le 6, 3) := by decide +kernel
theorem own_d5_30 : decode prog_36_method_10_code 30 = .ok (.iinc 1 1, 3) := by decide +kernel
theorem own_d5_33 : decode prog_36_method_10_code 33 = .ok (.iinc 4 1, 3) := by decide +kernel
theorem own_d5_36 : decode prog_36_method_10_code 36 = .ok (.goto (-23), 3) := by decide +kernel
theorem own_d5_39 : decode prog_36_method_10_code 39 = .ok (.iload_n 1, 1) := by decide +kernel
theorem own_d5_40 : decode prog_36_method_10_code 40 = .ok (.ireturn, 1) := by decide +kernel
def own_R5 : Room := { frames := 0, cells := 0, slots := 0, locals := 0 }
def f5_13 (fuel : Nat) (v1 : Int32) (v3 : Int32) (v4 : Int32) (xs_v2 : List Int32) : Int32 := match fuel with
  | 0 => 0
  | fuel + 1 => (if v4 < v3 then (if (0 : Int32) < (xs_v2.getD (v4).toNatClampNeg 0) then (f5_13 fuel (v1 + (1 : Int32)) v3 (v4 + (1 : Int32)) xs_v2) else (f5_13 fuel v1 v3 (v4 + (1 : Int32)) xs_v2)) else v1)
theorem f5_13_succ (fuel : Nat) (v1 : Int32) (v3 : Int32) (v4 : Int32) (xs_v2 : List Int32) : f5_13 (fuel + 1) v1 v3 v4 xs_v2 = (if v4 < v3 then (if (0 : Int32) < (xs_v2.getD (v4).toNatClampNeg 0) then (f5_13 fuel (v1 + (1 : Int32)) v3 (v4 + (1 : Int32)) xs_v2) else (f5_13 fuel v1 v3 (v4 + (1 : Int32)) xs_v2)) else v1) := rfl
set_option maxRecDepth 65536 in
set_option maxHeartbeats 4000000 in
theorem w5_13 {Z : State} {a0 : Array Value} {p : Program} {l : Launch} {e : Env} {s : State} {m : MethodId} {args : Array Value} {below : List Frame} {meth : Method} {c : Code} {n0 : Nat} (C : own_Cx Z a0 p l e own_R5 s m args below meth c "com/example/tandem_rank/tandemrank/fusion/Votes" "holders" prog_36_method_10_code 6 (some .int)) (fuel : Nat) : ∀ {T : State} {h : Heap} {v0 : Addr} {v2 : Addr} {u5 : Slot} (A : own_At p l e own_R5 s m args below meth c T h n0 0 0) (v1 : Int32) (v3 : Int32) (v4 : Int32) (xs_v2 : List Int32) (hX5 : One u5) (V_v2 : own_Ia Z h v2 .int (3 : Int32) xs_v2) (h4 : ¬ v4 < 0) (h3 : v3 = 3) (hm : (v3.toInt - v4.toInt).toNat < fuel),
    own_Go p.tables e below (T.setTop (mkF m 13 #[.val (.ref v0), .val (.int v1), .val (.ref v2), .val (.int v3), .val (.int v4), u5] [])) (own_QR s n0 0 0 (own_RI h (f5_13 fuel v1 v3 v4 xs_v2))) := by
  induction fuel with
  | zero => intro T h v0 v2 u5 A v1 v3 v4 xs_v2 hX5 V_v2 h4 h3 hm; exact absurd hm (by omega)
  | succ fuel ih =>
    intro T h v0 v2 u5 A v1 v3 v4 xs_v2 hX5 V_v2 h4 h3 hm
    rw [f5_13_succ]
    refine own_iload C A own_d5_13 rfl rfl ?_
    refine own_iloadN C A own_d5_15 rfl rfl ?_
    refine own_ite (fun hc16 => ?_) (fun hc16 => ?_)
    · refine own_icmpN C A own_d5_16 (Jvm.Free.XT.ii_ge_f hc16) rfl ?_
      refine own_aloadN C A own_d5_19 rfl rfl rfl ?_
      refine own_iload C A own_d5_20 rfl rfl ?_
      refine own_iaload C A V_v2 (own_ix h4 h3 hc16) (v := (xs_v2.getD (v4).toNatClampNeg 0)) rfl own_d5_22 rfl ?_
      refine own_istoreX C A own_d5_23 rfl hX5 (l' := #[.val (.ref v0), .val (.int v1), .val (.ref v2), .val (.int v3), .val (.int v4), .val (.int (xs_v2.getD (v4).toNatClampNeg 0))]) rfl rfl ?_
      refine own_iload C A own_d5_25 rfl rfl ?_
      refine own_ite (fun hc27 => ?_) (fun hc27 => ?_)
      · refine own_ifN C A own_d5_27 (Jvm.Free.XT.i0_le_f hc27) rfl ?_
        refine own_iinc C A own_d5_30 rfl (l' := #[.val (.ref v0), .val (.int (v1 + (1 : Int32))), .val (.ref v2), .val (.int v3), .val (.int v4), .val (.int (xs_v2.getD (v4).toNatClampNeg 0))]) rfl rfl ?_
        refine own_iinc C A own_d5_33 rfl (l' := #[.val (.ref v0), .val (.int (v1 + (1 : Int32))), .val (.ref v2), .val (.int v3), .val (.int (v4 + (1 : Int32))), .val (.int (xs_v2.getD (v4).toNatClampNeg 0))]) rfl rfl ?_
        refine own_goto C A own_d5_36 (by decide) (q := 13) (by decide) ?_
        exact ih A (v1 + (1 : Int32)) v3 (v4 + (1 : Int32)) xs_v2 (One.val rfl) V_v2 (own_h4 h4 hc16) h3 (own_dec h4 hc16 hm)
      · refine own_ifY C A own_d5_27 (Jvm.Free.XT.i0_le_t hc27) (by decide) (q := 33) (by decide) ?_
        refine own_iinc C A own_d5_33 rfl (l' := #[.val (.ref v0), .val (.int v1), .val (.ref v2), .val (.int v3), .val (.int (v4 + (1 : Int32))), .val (.int (xs_v2.getD (v4).toNatClampNeg 0))]) rfl rfl ?_
        refine own_goto C A own_d5_36 (by decide) (q := 13) (by decide) ?_
        exact ih A v1 v3 (v4 + (1 : Int32)) xs_v2 (One.val rfl) V_v2 (own_h4 h4 hc16) h3 (own_dec h4 hc16 hm)
    · refine own_icmpY C A own_d5_16 (Jvm.Free.XT.ii_ge_t hc16) (by decide) (q := 39) (by decide) ?_
      refine own_iloadN C A own_d5_39 rfl rfl ?_
      exact own_retI C A own_d5_40 ⟨rfl, rfl⟩
def f5_0 (xs_r_ranks_v0 : List Int32) : Int32 := (f5_13 4 (0 : Int32) (3 : Int32) (0 : Int32) xs_r_ranks_v0)
set_option maxRecDepth 65536 in
set_option maxHeartbeats 4000000 in
theorem w5_0 {Z : State} {a0 : Array Value} {p : Program} {l : Launch} {e : Env} {s : State} {m : MethodId} {args : Array Value} {below : List Frame} {meth : Method} {c : Code} {T : State} {h : Heap} {n0 : Nat} {v0 : Addr} {r_ranks_v0 : Addr} (C : own_Cx Z a0 p l e own_R5 s m args below meth c "com/example/tandem_rank/tandemrank/fusion/Votes" "holders" prog_36_method_10_code 6 (some .int)) (A : own_At p l e own_R5 s m args below meth c T h n0 0 0) (xs_r_ranks_v0 : List Int32) (F_ranks_v0 : Fld Z h v0 "com/example/tandem_rank/tandemrank/fusion/Votes" "ranks" "[I" (.ref r_ranks_v0)) (E_v0 : Exa Z h v0 "com/example/tandem_rank/tandemrank/fusion/Votes") (V_r_ranks_v0 : own_Ia Z h r_ranks_v0 .int (3 : Int32) xs_r_ranks_v0) :
    own_Go p.tables e below (T.setTop (mkF m 0 #[.val (.ref v0), .unset, .unset, .unset, .unset, .unset] [])) (own_QR s n0 0 0 (own_RI h (f5_0 xs_r_ranks_v0))) := by
  unfold f5_0
  refine own_iconst C A own_d5_0 (v := 0) rfl rfl ?_
  refine own_istoreN C A own_d5_1 (l' := #[.val (.ref v0), .val (.int (0 : Int32)), .unset, .unset, .unset, .unset]) rfl rfl ?_
  refine own_aloadN C A own_d5_2 rfl rfl rfl ?_
  refine own_getF C A (own_w C 16 rfl) F_ranks_v0 own_d5_3 rfl (fun T A => ?_)
  refine own_astoreN C A own_d5_6 rfl (l' := #[.val (.ref v0), .val (.int (0 : Int32)), .val (.ref r_ranks_v0), .unset, .unset, .unset]) rfl rfl ?_
  refine own_aloadN C A own_d5_7 rfl rfl rfl ?_
  refine own_alen C A V_r_ranks_v0 own_d5_8 rfl ?_
  refine own_istoreN C A own_d5_9 (l' := #[.val (.ref v0), .val (.int (0 : Int32)), .val (.ref r_ranks_v0), .val (.int (3 : Int32)), .unset, .unset]) rfl rfl ?_
  refine own_iconst C A own_d5_10 (v := 0) rfl rfl ?_
  refine own_istore C A own_d5_11 (l' := #[.val (.ref v0), .val (.int (0 : Int32)), .val (.ref r_ranks_v0), .val (.int (3 : Int32)), .val (.int (0 : Int32)), .unset]) rfl rfl ?_
  exact w5_13 C 4 A (0 : Int32) (3 : Int32) (0 : Int32) xs_r_ranks_v0 One.u V_r_ranks_v0 (by decide) rfl (by decide)
theorem own_ef5 (m : MethodId) (v0 : Addr) : entryFrame m #[(.ref v0)] 6 = mkF m 0 #[.val (.ref v0), .unset, .unset, .unset, .unset, .unset] [] := by first | (simp [entryFrame, mkF, argsToLocals, Value.category]; done) | rfl
theorem rm5 (l : Launch) (Z : State) (a0 : Array Value) (hw : ∀ d ∈ tables_1, d.before a0 Z = true) (ws : List Jvm.Cond) (v0 : Addr) (xs_r_ranks_v0 : List Int32) (r_ranks_v0 : Addr) (h : Heap) (n0 : Nat) (hn : n0 ≤ h.size) (F_ranks_v0 : Fld Z h v0 "com/example/tandem_rank/tandemrank/fusion/Votes" "ranks" "[I" (.ref r_ranks_v0)) (E_v0 : Exa Z h v0 "com/example/tandem_rank/tandemrank/fusion/Votes") (V_r_ranks_v0 : own_Ia Z h r_ranks_v0 .int (3 : Int32) xs_r_ranks_v0) :
    MetFree l (⟨"com/example/tandem_rank/tandemrank/fusion/Votes", "holders", "()I"⟩ : MethodName) (head1 (Jvm.Cond.code (⟨"com/example/tandem_rank/tandemrank/fusion/Votes", "holders", "()I"⟩ : MethodName) prog_36_method_10_code 6 (some .int) :: ws) own_R5) (fun a U => a = #[(.ref v0)] ∧ Z.Warmed39 U.vm ∧ U.heap = h) (fun _ _ _ _ _ => True) (fun _ U o U' => own_QR U n0 0 0 (own_RI h (f5_0 xs_r_ranks_v0)) o U') :=
  own_met (plainFor_of_name (by first | (simp [plainName, overriddenIn]; done) | decide +kernel)) hw hn (fun m => own_ef5 m v0) (fun p e s m below meth c T C A => w5_0 C A xs_r_ranks_v0 F_ranks_v0 E_v0 V_r_ranks_v0)

/-! VotesIsInPinLaw.law -/
def f0_118 (v13 : Int32) (v14 : Int32) (s0 : Int32) (itemCount_v12 : Int32) (xs_b25 : List Int32) (xs_b45 : List Int32) (xs_b55 : List Int32) (xs_b60 : List Int32) : Int32 := (if (f4_0 (0 : Int32) xs_b25) = v13 then (if (f4_0 (1 : Int32) xs_b25) = v14 then (if (f4_0 (2 : Int32) xs_b25) = s0 then (if (f5_0 xs_b25) = (((f2_0 v13) + (f2_0 v14)) + (f2_0 s0)) then (1 : Int32) else (0 : Int32)) else (0 : Int32)) else (0 : Int32)) else (0 : Int32))
set_option maxRecDepth 65536 in
set_option maxHeartbeats 4000000 in
theorem w0_118 {Z : State} {a0 : Array Value} {p : Program} {l : Launch} {e : Env} {s : State} {m : MethodId} {args : Array Value} {below : List Frame} {meth : Method} {c : Code} {T : State} {h : Heap} {n0 : Nat} {u0 : Int32} {u1 : Int32} {u2 : Int32} {u3 : Int32} {u4 : Int32} {u5 : Int32} {u6 : Int32} {u7 : Addr} {u8 : Addr} {u9 : Addr} {u10 : Addr} {u11 : Addr} {v12 : Addr} {b25 : Addr} {b45 : Addr} {b55 : Addr} {b60 : Addr} {b50 : Addr} (C : own_Cx Z a0 p l e room_1 s m args below meth c "com/example/tandem_rank/tandemrank/fusion/VotesIsInPinLaw" "law" code maxLocals ret) (A : own_At p l e room_1 s m args below meth c T h n0 6 21) (v13 : Int32) (v14 : Int32) (s0 : Int32) (itemCount_v12 : Int32) (xs_b25 : List Int32) (xs_b45 : List Int32) (xs_b55 : List Int32) (xs_b60 : List Int32) (F_ranks_v12 : Fld Z h v12 "com/example/tandem_rank/tandemrank/fusion/Votes" "ranks" "[I" (.ref b25)) (F_scoreRanks_v12 : Fld Z h v12 "com/example/tandem_rank/tandemrank/fusion/Votes" "scoreRanks" "[I" (.ref b45)) (F_scores_v12 : Fld Z h v12 "com/example/tandem_rank/tandemrank/fusion/Votes" "scores" "[D" (.ref b50)) (F_lengths_v12 : Fld Z h v12 "com/example/tandem_rank/tandemrank/fusion/Votes" "lengths" "[I" (.ref b55)) (F_distinctScores_v12 : Fld Z h v12 "com/example/tandem_rank/tandemrank/fusion/Votes" "distinctScores" "[I" (.ref b60)) (F_itemCount_v12 : Fld Z h v12 "com/example/tandem_rank/tandemrank/fusion/Votes" "itemCount" "I" (.int itemCount_v12)) (E_v12 : Exa Z h v12 "com/example/tandem_rank/tandemrank/fusion/Votes") (g_v12 : n0 ≤ v12) (V_b25 : own_Ia Z h b25 .int (3 : Int32) xs_b25) (g_b25 : n0 ≤ b25) (V_b45 : own_Ia Z h b45 .int (3 : Int32) xs_b45) (g_b45 : n0 ≤ b45) (V_b55 : own_Ia Z h b55 .int (3 : Int32) xs_b55) (g_b55 : n0 ≤ b55) (V_b60 : own_Ia Z h b60 .int (3 : Int32) xs_b60) (g_b60 : n0 ≤ b60) (ne_b25_b45 : b25 ≠ b45) (ne_b25_b55 : b25 ≠ b55) (ne_b45_b55 : b45 ≠ b55) (ne_b25_b60 : b25 ≠ b60) (ne_b45_b60 : b45 ≠ b60) (ne_b55_b60 : b55 ≠ b60) (ne_b25_v12 : b25 ≠ v12) (ne_b45_v12 : b45 ≠ v12) (ne_b55_v12 : b55 ≠ v12) (ne_b60_v12 : b60 ≠ v12) :
    own_Go p.tables e below (T.setTop (mkF m 118 #[.val (.int u0), .val (.int u1), .val (.int u2), .val (.int u3), .val (.int u4), .val (.int u5), .val (.int u6), .val (.ref u7), .val (.ref u8), .val (.ref u9), .val (.ref u10), .val (.ref u11), .val (.ref v12), .val (.int v13), .val (.int v14), .unset, .unset, .unset, .unset, .unset] [(.int s0)])) (own_QR s n0 6 21 (own_RV (f0_118 v13 v14 s0 itemCount_v12 xs_b25 xs_b45 xs_b55 xs_b60))) := by
  unfold f0_118
  refine own_istore C A at_118 (l' := #[.val (.int u0), .val (.int u1), .val (.int u2), .val (.int u3), .val (.int u4), .val (.int u5), .val (.int u6), .val (.ref u7), .val (.ref u8), .val (.ref u9), .val (.ref u10), .val (.ref u11), .val (.ref v12), .val (.int v13), .val (.int v14), .val (.int s0), .unset, .unset, .unset, .unset]) rfl rfl ?_
  refine own_aload C A at_120 rfl rfl rfl ?_
  refine own_iconst C A at_122 (v := 0) rfl rfl ?_
  refine own_callVI C A 0 [(.int (0 : Int32))] [] (own_w C 28 rfl) (own_w C 29 rfl) (own_w C 31 rfl) (own_w C 30 rfl) (own_w C 9 rfl) (own_w C 32 rfl) (by decide) rfl E_v12 (rm4 l Z a0 C.2.2.2.2.2.2.2.2 [] v12 (0 : Int32) xs_b25 b25 _ _ (own_size A) F_ranks_v12 E_v12 V_b25 ⟨by decide, by decide⟩) rfl rfl (by decide) (by decide) (by decide) (by decide) own_pd2 rfl rfl rfl (Nat.le_of_eq rfl) rfl at_123 rfl (fun T A => ?_)
  refine own_istore C A at_126 (l' := #[.val (.int u0), .val (.int u1), .val (.int u2), .val (.int u3), .val (.int u4), .val (.int u5), .val (.int u6), .val (.ref u7), .val (.ref u8), .val (.ref u9), .val (.ref u10), .val (.ref u11), .val (.ref v12), .val (.int v13), .val (.int v14), .val (.int s0), .val (.int (f4_0 (0 : Int32) xs_b25)), .unset, .unset, .unset]) rfl rfl ?_
  refine own_aload C A at_128 rfl rfl rfl ?_
  refine own_iconst C A at_130 (v := 1) rfl rfl ?_
  refine own_callVI C A 0 [(.int (1 : Int32))] [] (own_w C 28 rfl) (own_w C 29 rfl) (own_w C 31 rfl) (own_w C 30 rfl) (own_w C 9 rfl) (own_w C 32 rfl) (by decide) rfl E_v12 (rm4 l Z a0 C.2.2.2.2.2.2.2.2 [] v12 (1 : Int32) xs_b25 b25 _ _ (own_size A) F_ranks_v12 E_v12 V_b25 ⟨by decide, by decide⟩) rfl rfl (by decide) (by decide) (by decide) (by decide) own_pd2 rfl rfl rfl (Nat.le_of_eq rfl) rfl at_131 rfl (fun T A => ?_)
  refine own_istore C A at_134 (l' := #[.val (.int u0), .val (.int u1), .val (.int u2), .val (.int u3), .val (.int u4), .val (.int u5), .val (.int u6), .val (.ref u7), .val (.ref u8), .val (.ref u9), .val (.ref u10), .val (.ref u11), .val (.ref v12), .val (.int v13), .val (.int v14), .val (.int s0), .val (.int (f4_0 (0 : Int32) xs_b25)), .val (.int (f4_0 (1 : Int32) xs_b25)), .unset, .unset]) rfl rfl ?_
  refine own_aload C A at_136 rfl rfl rfl ?_
  refine own_iconst C A at_138 (v := 2) rfl rfl ?_
  refine own_callVI C A 0 [(.int (2 : Int32))] [] (own_w C 28 rfl) (own_w C 29 rfl) (own_w C 31 rfl) (own_w C 30 rfl) (own_w C 9 rfl) (own_w C 32 rfl) (by decide) rfl E_v12 (rm4 l Z a0 C.2.2.2.2.2.2.2.2 [] v12 (2 : Int32) xs_b25 b25 _ _ (own_size A) F_ranks_v12 E_v12 V_b25 ⟨by decide, by decide⟩) rfl rfl (by decide) (by decide) (by decide) (by decide) own_pd2 rfl rfl rfl (Nat.le_of_eq rfl) rfl at_139 rfl (fun T A => ?_)
  refine own_istore C A at_142 (l' := #[.val (.int u0), .val (.int u1), .val (.int u2), .val (.int u3), .val (.int u4), .val (.int u5), .val (.int u6), .val (.ref u7), .val (.ref u8), .val (.ref u9), .val (.ref u10), .val (.ref u11), .val (.ref v12), .val (.int v13), .val (.int v14), .val (.int s0), .val (.int (f4_0 (0 : Int32) xs_b25)), .val (.int (f4_0 (1 : Int32) xs_b25)), .val (.int (f4_0 (2 : Int32) xs_b25)), .unset]) rfl rfl ?_
  refine own_iload C A at_144 rfl rfl ?_
  refine own_callSI C A 0 [(.int v13)] [] (own_w C 33 rfl) (own_w C 34 rfl) (own_w C 2 rfl) (own_w C 35 rfl) (by decide) (rm2 l Z a0 C.2.2.2.2.2.2.2.2 [] v13 _ _ (own_size A)) rfl rfl (by decide) (by decide) (by decide) (by decide) own_pd3 rfl rfl rfl (Nat.le_of_eq rfl) rfl at_146 rfl (fun T A => ?_)
  refine own_iload C A at_149 rfl rfl ?_
  refine own_callSI C A 1 [(.int v14)] [(.int (f2_0 v13))] (own_w C 33 rfl) (own_w C 34 rfl) (own_w C 2 rfl) (own_w C 35 rfl) (by decide) (rm2 l Z a0 C.2.2.2.2.2.2.2.2 [] v14 _ _ (own_size A)) rfl rfl (by decide) (by decide) (by decide) (by decide) own_pd3 rfl rfl rfl (Nat.le_of_eq rfl) rfl at_151 rfl (fun T A => ?_)
  refine own_iadd C A at_154 rfl ?_
  refine own_iload C A at_155 rfl rfl ?_
  refine own_callSI C A 1 [(.int s0)] [(.int ((f2_0 v13) + (f2_0 v14)))] (own_w C 33 rfl) (own_w C 34 rfl) (own_w C 2 rfl) (own_w C 35 rfl) (by decide) (rm2 l Z a0 C.2.2.2.2.2.2.2.2 [] s0 _ _ (own_size A)) rfl rfl (by decide) (by decide) (by decide) (by decide) own_pd3 rfl rfl rfl (Nat.le_of_eq rfl) rfl at_157 rfl (fun T A => ?_)
  refine own_iadd C A at_160 rfl ?_
  refine own_istore C A at_161 (l' := #[.val (.int u0), .val (.int u1), .val (.int u2), .val (.int u3), .val (.int u4), .val (.int u5), .val (.int u6), .val (.ref u7), .val (.ref u8), .val (.ref u9), .val (.ref u10), .val (.ref u11), .val (.ref v12), .val (.int v13), .val (.int v14), .val (.int s0), .val (.int (f4_0 (0 : Int32) xs_b25)), .val (.int (f4_0 (1 : Int32) xs_b25)), .val (.int (f4_0 (2 : Int32) xs_b25)), .val (.int (((f2_0 v13) + (f2_0 v14)) + (f2_0 s0)))]) rfl rfl ?_
  refine own_iload C A at_163 rfl rfl ?_
  refine own_iload C A at_165 rfl rfl ?_
  refine own_ite (fun hc167 => ?_) (fun hc167 => ?_)
  · refine own_icmpN C A at_167 (Jvm.Free.XT.ii_ne_f hc167) rfl ?_
    refine own_iload C A at_170 rfl rfl ?_
    refine own_iload C A at_172 rfl rfl ?_
    refine own_ite (fun hc174 => ?_) (fun hc174 => ?_)
    · refine own_icmpN C A at_174 (Jvm.Free.XT.ii_ne_f hc174) rfl ?_
      refine own_iload C A at_177 rfl rfl ?_
      refine own_iload C A at_179 rfl rfl ?_
      refine own_ite (fun hc181 => ?_) (fun hc181 => ?_)
      · refine own_icmpN C A at_181 (Jvm.Free.XT.ii_ne_f hc181) rfl ?_
        refine own_aload C A at_184 rfl rfl rfl ?_
        refine own_callVI C A 0 [] [] (own_w C 36 rfl) (own_w C 37 rfl) (own_w C 39 rfl) (own_w C 38 rfl) (own_w C 9 rfl) (own_w C 40 rfl) (by decide) rfl E_v12 (rm5 l Z a0 C.2.2.2.2.2.2.2.2 [] v12 xs_b25 b25 _ _ (own_size A) F_ranks_v12 E_v12 V_b25) rfl rfl (by decide) (by decide) (by decide) (by decide) own_pd4 rfl rfl rfl (Nat.le_of_eq rfl) rfl at_186 rfl (fun T A => ?_)
        refine own_iload C A at_189 rfl rfl ?_
        refine own_ite (fun hc191 => ?_) (fun hc191 => ?_)
        · refine own_icmpN C A at_191 (Jvm.Free.XT.ii_ne_f hc191) rfl ?_
          refine own_iconst C A at_194 (v := 1) rfl rfl ?_
          refine own_goto C A at_195 (by decide) (q := 199) (by decide) ?_
          exact own_retN C A (t := .boolean) (by simp) at_199 rfl
        · refine own_icmpY C A at_191 (Jvm.Free.XT.ii_ne_t hc191) (by decide) (q := 198) (by decide) ?_
          refine own_iconst C A at_198 (v := 0) rfl rfl ?_
          exact own_retN C A (t := .boolean) (by simp) at_199 rfl
      · refine own_icmpY C A at_181 (Jvm.Free.XT.ii_ne_t hc181) (by decide) (q := 198) (by decide) ?_
        refine own_iconst C A at_198 (v := 0) rfl rfl ?_
        exact own_retN C A (t := .boolean) (by simp) at_199 rfl
    · refine own_icmpY C A at_174 (Jvm.Free.XT.ii_ne_t hc174) (by decide) (q := 198) (by decide) ?_
      refine own_iconst C A at_198 (v := 0) rfl rfl ?_
      exact own_retN C A (t := .boolean) (by simp) at_199 rfl
  · refine own_icmpY C A at_167 (Jvm.Free.XT.ii_ne_t hc167) (by decide) (q := 198) (by decide) ?_
    refine own_iconst C A at_198 (v := 0) rfl rfl ?_
    exact own_retN C A (t := .boolean) (by simp) at_199 rfl
def f0_106 (v6 : Int32) (v13 : Int32) (s0 : Int32) (itemCount_v12 : Int32) (xs_b25 : List Int32) (xs_b45 : List Int32) (xs_b55 : List Int32) (xs_b60 : List Int32) : Int32 := (if v6 = (0 : Int32) then (f0_118 v13 s0 (0 : Int32) itemCount_v12 xs_b25 xs_b45 xs_b55 xs_b60) else (f0_118 v13 s0 (1 : Int32) itemCount_v12 xs_b25 xs_b45 xs_b55 xs_b60))
set_option maxRecDepth 65536 in
set_option maxHeartbeats 4000000 in
theorem w0_106 {Z : State} {a0 : Array Value} {p : Program} {l : Launch} {e : Env} {s : State} {m : MethodId} {args : Array Value} {below : List Frame} {meth : Method} {c : Code} {T : State} {h : Heap} {n0 : Nat} {u0 : Int32} {u1 : Int32} {u2 : Int32} {u3 : Int32} {u4 : Int32} {u5 : Int32} {u7 : Addr} {u8 : Addr} {u9 : Addr} {u10 : Addr} {u11 : Addr} {v12 : Addr} {b25 : Addr} {b45 : Addr} {b55 : Addr} {b60 : Addr} {b50 : Addr} (C : own_Cx Z a0 p l e room_1 s m args below meth c "com/example/tandem_rank/tandemrank/fusion/VotesIsInPinLaw" "law" code maxLocals ret) (A : own_At p l e room_1 s m args below meth c T h n0 6 21) (v6 : Int32) (v13 : Int32) (s0 : Int32) (itemCount_v12 : Int32) (xs_b25 : List Int32) (xs_b45 : List Int32) (xs_b55 : List Int32) (xs_b60 : List Int32) (F_ranks_v12 : Fld Z h v12 "com/example/tandem_rank/tandemrank/fusion/Votes" "ranks" "[I" (.ref b25)) (F_scoreRanks_v12 : Fld Z h v12 "com/example/tandem_rank/tandemrank/fusion/Votes" "scoreRanks" "[I" (.ref b45)) (F_scores_v12 : Fld Z h v12 "com/example/tandem_rank/tandemrank/fusion/Votes" "scores" "[D" (.ref b50)) (F_lengths_v12 : Fld Z h v12 "com/example/tandem_rank/tandemrank/fusion/Votes" "lengths" "[I" (.ref b55)) (F_distinctScores_v12 : Fld Z h v12 "com/example/tandem_rank/tandemrank/fusion/Votes" "distinctScores" "[I" (.ref b60)) (F_itemCount_v12 : Fld Z h v12 "com/example/tandem_rank/tandemrank/fusion/Votes" "itemCount" "I" (.int itemCount_v12)) (E_v12 : Exa Z h v12 "com/example/tandem_rank/tandemrank/fusion/Votes") (g_v12 : n0 ≤ v12) (V_b25 : own_Ia Z h b25 .int (3 : Int32) xs_b25) (g_b25 : n0 ≤ b25) (V_b45 : own_Ia Z h b45 .int (3 : Int32) xs_b45) (g_b45 : n0 ≤ b45) (V_b55 : own_Ia Z h b55 .int (3 : Int32) xs_b55) (g_b55 : n0 ≤ b55) (V_b60 : own_Ia Z h b60 .int (3 : Int32) xs_b60) (g_b60 : n0 ≤ b60) (ne_b25_b45 : b25 ≠ b45) (ne_b25_b55 : b25 ≠ b55) (ne_b45_b55 : b45 ≠ b55) (ne_b25_b60 : b25 ≠ b60) (ne_b45_b60 : b45 ≠ b60) (ne_b55_b60 : b55 ≠ b60) (ne_b25_v12 : b25 ≠ v12) (ne_b45_v12 : b45 ≠ v12) (ne_b55_v12 : b55 ≠ v12) (ne_b60_v12 : b60 ≠ v12) :
    own_Go p.tables e below (T.setTop (mkF m 106 #[.val (.int u0), .val (.int u1), .val (.int u2), .val (.int u3), .val (.int u4), .val (.int u5), .val (.int v6), .val (.ref u7), .val (.ref u8), .val (.ref u9), .val (.ref u10), .val (.ref u11), .val (.ref v12), .val (.int v13), .unset, .unset, .unset, .unset, .unset, .unset] [(.int s0)])) (own_QR s n0 6 21 (own_RV (f0_106 v6 v13 s0 itemCount_v12 xs_b25 xs_b45 xs_b55 xs_b60))) := by
  unfold f0_106
  refine own_istore C A at_106 (l' := #[.val (.int u0), .val (.int u1), .val (.int u2), .val (.int u3), .val (.int u4), .val (.int u5), .val (.int v6), .val (.ref u7), .val (.ref u8), .val (.ref u9), .val (.ref u10), .val (.ref u11), .val (.ref v12), .val (.int v13), .val (.int s0), .unset, .unset, .unset, .unset, .unset]) rfl rfl ?_
  refine own_iload C A at_108 rfl rfl ?_
  refine own_ite (fun hc110 => ?_) (fun hc110 => ?_)
  · refine own_ifY C A at_110 (Jvm.Free.XT.i0_eq_t hc110) (by decide) (q := 117) (by decide) ?_
    refine own_iconst C A at_117 (v := 0) rfl rfl ?_
    exact w0_118 C A v13 s0 (0 : Int32) itemCount_v12 xs_b25 xs_b45 xs_b55 xs_b60 F_ranks_v12 F_scoreRanks_v12 F_scores_v12 F_lengths_v12 F_distinctScores_v12 F_itemCount_v12 E_v12 g_v12 V_b25 g_b25 V_b45 g_b45 V_b55 g_b55 V_b60 g_b60 ne_b25_b45 ne_b25_b55 ne_b45_b55 ne_b25_b60 ne_b45_b60 ne_b55_b60 ne_b25_v12 ne_b45_v12 ne_b55_v12 ne_b60_v12
  · refine own_ifN C A at_110 (Jvm.Free.XT.i0_eq_f hc110) rfl ?_
    refine own_iconst C A at_113 (v := 1) rfl rfl ?_
    refine own_goto C A at_114 (by decide) (q := 118) (by decide) ?_
    exact w0_118 C A v13 s0 (1 : Int32) itemCount_v12 xs_b25 xs_b45 xs_b55 xs_b60 F_ranks_v12 F_scoreRanks_v12 F_scores_v12 F_lengths_v12 F_distinctScores_v12 F_itemCount_v12 E_v12 g_v12 V_b25 g_b25 V_b45 g_b45 V_b55 g_b55 V_b60 g_b60 ne_b25_b45 ne_b25_b55 ne_b45_b55 ne_b25_b60 ne_b45_b60 ne_b55_b60 ne_b25_v12 ne_b45_v12 ne_b55_v12 ne_b60_v12
def f0_94 (v5 : Int32) (v6 : Int32) (s0 : Int32) (itemCount_v12 : Int32) (xs_b25 : List Int32) (xs_b45 : List Int32) (xs_b55 : List Int32) (xs_b60 : List Int32) : Int32 := (if v5 = (0 : Int32) then (f0_106 v6 s0 (0 : Int32) itemCount_v12 xs_b25 xs_b45 xs_b55 xs_b60) else (f0_106 v6 s0 (1 : Int32) itemCount_v12 xs_b25 xs_b45 xs_b55 xs_b60))
set_option maxRecDepth 65536 in
set_option maxHeartbeats 4000000 in
theorem w0_94 {Z : State} {a0 : Array Value} {p : Program} {l : Launch} {e : Env} {s : State} {m : MethodId} {args : Array Value} {below : List Frame} {meth : Method} {c : Code} {T : State} {h : Heap} {n0 : Nat} {u0 : Int32} {u1 : Int32} {u2 : Int32} {u3 : Int32} {u4 : Int32} {u7 : Addr} {u8 : Addr} {u9 : Addr} {u10 : Addr} {u11 : Addr} {v12 : Addr} {b25 : Addr} {b45 : Addr} {b55 : Addr} {b60 : Addr} {b50 : Addr} (C : own_Cx Z a0 p l e room_1 s m args below meth c "com/example/tandem_rank/tandemrank/fusion/VotesIsInPinLaw" "law" code maxLocals ret) (A : own_At p l e room_1 s m args below meth c T h n0 6 21) (v5 : Int32) (v6 : Int32) (s0 : Int32) (itemCount_v12 : Int32) (xs_b25 : List Int32) (xs_b45 : List Int32) (xs_b55 : List Int32) (xs_b60 : List Int32) (F_ranks_v12 : Fld Z h v12 "com/example/tandem_rank/tandemrank/fusion/Votes" "ranks" "[I" (.ref b25)) (F_scoreRanks_v12 : Fld Z h v12 "com/example/tandem_rank/tandemrank/fusion/Votes" "scoreRanks" "[I" (.ref b45)) (F_scores_v12 : Fld Z h v12 "com/example/tandem_rank/tandemrank/fusion/Votes" "scores" "[D" (.ref b50)) (F_lengths_v12 : Fld Z h v12 "com/example/tandem_rank/tandemrank/fusion/Votes" "lengths" "[I" (.ref b55)) (F_distinctScores_v12 : Fld Z h v12 "com/example/tandem_rank/tandemrank/fusion/Votes" "distinctScores" "[I" (.ref b60)) (F_itemCount_v12 : Fld Z h v12 "com/example/tandem_rank/tandemrank/fusion/Votes" "itemCount" "I" (.int itemCount_v12)) (E_v12 : Exa Z h v12 "com/example/tandem_rank/tandemrank/fusion/Votes") (g_v12 : n0 ≤ v12) (V_b25 : own_Ia Z h b25 .int (3 : Int32) xs_b25) (g_b25 : n0 ≤ b25) (V_b45 : own_Ia Z h b45 .int (3 : Int32) xs_b45) (g_b45 : n0 ≤ b45) (V_b55 : own_Ia Z h b55 .int (3 : Int32) xs_b55) (g_b55 : n0 ≤ b55) (V_b60 : own_Ia Z h b60 .int (3 : Int32) xs_b60) (g_b60 : n0 ≤ b60) (ne_b25_b45 : b25 ≠ b45) (ne_b25_b55 : b25 ≠ b55) (ne_b45_b55 : b45 ≠ b55) (ne_b25_b60 : b25 ≠ b60) (ne_b45_b60 : b45 ≠ b60) (ne_b55_b60 : b55 ≠ b60) (ne_b25_v12 : b25 ≠ v12) (ne_b45_v12 : b45 ≠ v12) (ne_b55_v12 : b55 ≠ v12) (ne_b60_v12 : b60 ≠ v12) :
    own_Go p.tables e below (T.setTop (mkF m 94 #[.val (.int u0), .val (.int u1), .val (.int u2), .val (.int u3), .val (.int u4), .val (.int v5), .val (.int v6), .val (.ref u7), .val (.ref u8), .val (.ref u9), .val (.ref u10), .val (.ref u11), .val (.ref v12), .unset, .unset, .unset, .unset, .unset, .unset, .unset] [(.int s0)])) (own_QR s n0 6 21 (own_RV (f0_94 v5 v6 s0 itemCount_v12 xs_b25 xs_b45 xs_b55 xs_b60))) := by
  unfold f0_94
  refine own_istore C A at_94 (l' := #[.val (.int u0), .val (.int u1), .val (.int u2), .val (.int u3), .val (.int u4), .val (.int v5), .val (.int v6), .val (.ref u7), .val (.ref u8), .val (.ref u9), .val (.ref u10), .val (.ref u11), .val (.ref v12), .val (.int s0), .unset, .unset, .unset, .unset, .unset, .unset]) rfl rfl ?_
  refine own_iload C A at_96 rfl rfl ?_
  refine own_ite (fun hc98 => ?_) (fun hc98 => ?_)
  · refine own_ifY C A at_98 (Jvm.Free.XT.i0_eq_t hc98) (by decide) (q := 105) (by decide) ?_
    refine own_iconst C A at_105 (v := 0) rfl rfl ?_
    exact w0_106 C A v6 s0 (0 : Int32) itemCount_v12 xs_b25 xs_b45 xs_b55 xs_b60 F_ranks_v12 F_scoreRanks_v12 F_scores_v12 F_lengths_v12 F_distinctScores_v12 F_itemCount_v12 E_v12 g_v12 V_b25 g_b25 V_b45 g_b45 V_b55 g_b55 V_b60 g_b60 ne_b25_b45 ne_b25_b55 ne_b45_b55 ne_b25_b60 ne_b45_b60 ne_b55_b60 ne_b25_v12 ne_b45_v12 ne_b55_v12 ne_b60_v12
  · refine own_ifN C A at_98 (Jvm.Free.XT.i0_eq_f hc98) rfl ?_
    refine own_iconst C A at_101 (v := 1) rfl rfl ?_
    refine own_goto C A at_102 (by decide) (q := 106) (by decide) ?_
    exact w0_106 C A v6 s0 (1 : Int32) itemCount_v12 xs_b25 xs_b45 xs_b55 xs_b60 F_ranks_v12 F_scoreRanks_v12 F_scores_v12 F_lengths_v12 F_distinctScores_v12 F_itemCount_v12 E_v12 g_v12 V_b25 g_b25 V_b45 g_b45 V_b55 g_b55 V_b60 g_b60 ne_b25_b45 ne_b25_b55 ne_b45_b55 ne_b25_b60 ne_b45_b60 ne_b55_b60 ne_b25_v12 ne_b45_v12 ne_b55_v12 ne_b60_v12
def f0_0 (v0 : Int32) (v1 : Int32) (v2 : Int32) (v3 : Int32) : Int32 := (if (f1_0 v3 (0 : Int32) v0) = (0 : Int32) then (f0_94 (f1_0 v3 (1 : Int32) v1) (f1_0 v3 (2 : Int32) v2) (0 : Int32) (f3_0 (3 : Int32)) [(f1_0 v3 (0 : Int32) v0), (f1_0 v3 (1 : Int32) v1), (f1_0 v3 (2 : Int32) v2)] [0, 0, 0] [0, 0, 0] [0, 0, 0]) else (f0_94 (f1_0 v3 (1 : Int32) v1) (f1_0 v3 (2 : Int32) v2) (1 : Int32) (f3_0 (3 : Int32)) [(f1_0 v3 (0 : Int32) v0), (f1_0 v3 (1 : Int32) v1), (f1_0 v3 (2 : Int32) v2)] [0, 0, 0] [0, 0, 0] [0, 0, 0]))
set_option maxRecDepth 65536 in
set_option maxHeartbeats 4000000 in
theorem w0_0 {Z : State} {a0 : Array Value} {p : Program} {l : Launch} {e : Env} {s : State} {m : MethodId} {args : Array Value} {below : List Frame} {meth : Method} {c : Code} {T : State} {h : Heap} {n0 : Nat}  (C : own_Cx Z a0 p l e room_1 s m args below meth c "com/example/tandem_rank/tandemrank/fusion/VotesIsInPinLaw" "law" code maxLocals ret) (A : own_At p l e room_1 s m args below meth c T h n0 0 0) (v0 : Int32) (v1 : Int32) (v2 : Int32) (v3 : Int32) :
    own_Go p.tables e below (T.setTop (mkF m 0 #[.val (.int v0), .val (.int v1), .val (.int v2), .val (.int v3), .unset, .unset, .unset, .unset, .unset, .unset, .unset, .unset, .unset, .unset, .unset, .unset, .unset, .unset, .unset, .unset] [])) (own_QR s n0 6 21 (own_RV (f0_0 v0 v1 v2 v3))) := by
  unfold f0_0
  refine own_iloadN C A at_0 rfl rfl ?_
  refine own_iconst C A at_1 (v := 0) rfl rfl ?_
  refine own_iloadN C A at_2 rfl rfl ?_
  refine own_callSI C A 0 [(.int v3), (.int (0 : Int32)), (.int v0)] [] (own_w C 0 rfl) (own_w C 1 rfl) (own_w C 2 rfl) (own_w C 3 rfl) (by decide) (rm1 l Z a0 C.2.2.2.2.2.2.2.2 [] v3 (0 : Int32) v0 _ _ (own_size A)) rfl rfl (by decide) (by decide) (by decide) (by decide) own_pd0 rfl rfl rfl (Nat.le_of_eq rfl) rfl at_3 rfl (fun T A => ?_)
  refine own_istore C A at_6 (l' := #[.val (.int v0), .val (.int v1), .val (.int v2), .val (.int v3), .val (.int (f1_0 v3 (0 : Int32) v0)), .unset, .unset, .unset, .unset, .unset, .unset, .unset, .unset, .unset, .unset, .unset, .unset, .unset, .unset, .unset]) rfl rfl ?_
  refine own_iloadN C A at_8 rfl rfl ?_
  refine own_iconst C A at_9 (v := 1) rfl rfl ?_
  refine own_iloadN C A at_10 rfl rfl ?_
  refine own_callSI C A 0 [(.int v3), (.int (1 : Int32)), (.int v1)] [] (own_w C 0 rfl) (own_w C 1 rfl) (own_w C 2 rfl) (own_w C 3 rfl) (by decide) (rm1 l Z a0 C.2.2.2.2.2.2.2.2 [] v3 (1 : Int32) v1 _ _ (own_size A)) rfl rfl (by decide) (by decide) (by decide) (by decide) own_pd0 rfl rfl rfl (Nat.le_of_eq rfl) rfl at_11 rfl (fun T A => ?_)
  refine own_istore C A at_14 (l' := #[.val (.int v0), .val (.int v1), .val (.int v2), .val (.int v3), .val (.int (f1_0 v3 (0 : Int32) v0)), .val (.int (f1_0 v3 (1 : Int32) v1)), .unset, .unset, .unset, .unset, .unset, .unset, .unset, .unset, .unset, .unset, .unset, .unset, .unset, .unset]) rfl rfl ?_
  refine own_iloadN C A at_16 rfl rfl ?_
  refine own_iconst C A at_17 (v := 2) rfl rfl ?_
  refine own_iloadN C A at_18 rfl rfl ?_
  refine own_callSI C A 0 [(.int v3), (.int (2 : Int32)), (.int v2)] [] (own_w C 0 rfl) (own_w C 1 rfl) (own_w C 2 rfl) (own_w C 3 rfl) (by decide) (rm1 l Z a0 C.2.2.2.2.2.2.2.2 [] v3 (2 : Int32) v2 _ _ (own_size A)) rfl rfl (by decide) (by decide) (by decide) (by decide) own_pd0 rfl rfl rfl (Nat.le_of_eq rfl) rfl at_19 rfl (fun T A => ?_)
  refine own_istore C A at_22 (l' := #[.val (.int v0), .val (.int v1), .val (.int v2), .val (.int v3), .val (.int (f1_0 v3 (0 : Int32) v0)), .val (.int (f1_0 v3 (1 : Int32) v1)), .val (.int (f1_0 v3 (2 : Int32) v2)), .unset, .unset, .unset, .unset, .unset, .unset, .unset, .unset, .unset, .unset, .unset, .unset, .unset]) rfl rfl ?_
  refine own_iconst C A at_24 (v := 3) rfl rfl ?_
  refine own_newP C A 3 (own_w C 5 rfl) (by decide) (xs := [0, 0, 0]) rfl (by decide) (by decide) rfl at_25 rfl (by decide) (by decide) (fun T h b25 e_b25 X_b25 V_b25 g_b25 A => ?_)
  refine own_dup C A at_27 rfl rfl ?_
  refine own_iconst C A at_28 (v := 0) rfl rfl ?_
  refine own_iload C A at_29 rfl rfl ?_
  refine own_iastore C A V_b25 ⟨by decide, by decide⟩ (ys := [(f1_0 v3 (0 : Int32) v0), 0, 0]) rfl g_b25 at_31 rfl (fun T h Kw V_b25 A => ?_)
  refine own_dup C A at_32 rfl rfl ?_
  refine own_iconst C A at_33 (v := 1) rfl rfl ?_
  refine own_iload C A at_34 rfl rfl ?_
  refine own_iastore C A V_b25 ⟨by decide, by decide⟩ (ys := [(f1_0 v3 (0 : Int32) v0), (f1_0 v3 (1 : Int32) v1), 0]) rfl g_b25 at_36 rfl (fun T h Kw V_b25 A => ?_)
  refine own_dup C A at_37 rfl rfl ?_
  refine own_iconst C A at_38 (v := 2) rfl rfl ?_
  refine own_iload C A at_39 rfl rfl ?_
  refine own_iastore C A V_b25 ⟨by decide, by decide⟩ (ys := [(f1_0 v3 (0 : Int32) v0), (f1_0 v3 (1 : Int32) v1), (f1_0 v3 (2 : Int32) v2)]) rfl g_b25 at_41 rfl (fun T h Kw V_b25 A => ?_)
  refine own_astore C A at_42 rfl (l' := #[.val (.int v0), .val (.int v1), .val (.int v2), .val (.int v3), .val (.int (f1_0 v3 (0 : Int32) v0)), .val (.int (f1_0 v3 (1 : Int32) v1)), .val (.int (f1_0 v3 (2 : Int32) v2)), .val (.ref b25), .unset, .unset, .unset, .unset, .unset, .unset, .unset, .unset, .unset, .unset, .unset, .unset]) rfl rfl ?_
  refine own_iconst C A at_44 (v := 3) rfl rfl ?_
  refine own_newP C A 3 (own_w C 5 rfl) (by decide) (xs := [0, 0, 0]) rfl (by decide) (by decide) rfl at_45 rfl (by decide) (by decide) (fun T h b45 e_b45 X_b45 V_b45 g_b45 A => ?_)
  have ne_b25_b45 : b25 ≠ b45 := Nat.ne_of_lt (Nat.lt_of_lt_of_eq (own_Ia.lt V_b25) e_b45.symm)
  have V_b25 := own_Ia.ext V_b25 X_b45
  refine own_astore C A at_47 rfl (l' := #[.val (.int v0), .val (.int v1), .val (.int v2), .val (.int v3), .val (.int (f1_0 v3 (0 : Int32) v0)), .val (.int (f1_0 v3 (1 : Int32) v1)), .val (.int (f1_0 v3 (2 : Int32) v2)), .val (.ref b25), .val (.ref b45), .unset, .unset, .unset, .unset, .unset, .unset, .unset, .unset, .unset, .unset, .unset]) rfl rfl ?_
  refine own_iconst C A at_49 (v := 3) rfl rfl ?_
  refine own_newX C A 3 (own_w C 6 rfl) (by decide) (by decide) (by decide) at_50 rfl (by decide) (by decide) (fun T h b50 e_b50 X_b50 g_b50 A => ?_)
  have V_b25 := own_Ia.ext V_b25 X_b50
  have V_b45 := own_Ia.ext V_b45 X_b50
  refine own_astore C A at_52 rfl (l' := #[.val (.int v0), .val (.int v1), .val (.int v2), .val (.int v3), .val (.int (f1_0 v3 (0 : Int32) v0)), .val (.int (f1_0 v3 (1 : Int32) v1)), .val (.int (f1_0 v3 (2 : Int32) v2)), .val (.ref b25), .val (.ref b45), .val (.ref b50), .unset, .unset, .unset, .unset, .unset, .unset, .unset, .unset, .unset, .unset]) rfl rfl ?_
  refine own_iconst C A at_54 (v := 3) rfl rfl ?_
  refine own_newP C A 3 (own_w C 5 rfl) (by decide) (xs := [0, 0, 0]) rfl (by decide) (by decide) rfl at_55 rfl (by decide) (by decide) (fun T h b55 e_b55 X_b55 V_b55 g_b55 A => ?_)
  have ne_b25_b55 : b25 ≠ b55 := Nat.ne_of_lt (Nat.lt_of_lt_of_eq (own_Ia.lt V_b25) e_b55.symm)
  have ne_b45_b55 : b45 ≠ b55 := Nat.ne_of_lt (Nat.lt_of_lt_of_eq (own_Ia.lt V_b45) e_b55.symm)
  have V_b25 := own_Ia.ext V_b25 X_b55
  have V_b45 := own_Ia.ext V_b45 X_b55
  refine own_astore C A at_57 rfl (l' := #[.val (.int v0), .val (.int v1), .val (.int v2), .val (.int v3), .val (.int (f1_0 v3 (0 : Int32) v0)), .val (.int (f1_0 v3 (1 : Int32) v1)), .val (.int (f1_0 v3 (2 : Int32) v2)), .val (.ref b25), .val (.ref b45), .val (.ref b50), .val (.ref b55), .unset, .unset, .unset, .unset, .unset, .unset, .unset, .unset, .unset]) rfl rfl ?_
  refine own_iconst C A at_59 (v := 3) rfl rfl ?_
  refine own_newP C A 3 (own_w C 5 rfl) (by decide) (xs := [0, 0, 0]) rfl (by decide) (by decide) rfl at_60 rfl (by decide) (by decide) (fun T h b60 e_b60 X_b60 V_b60 g_b60 A => ?_)
  have ne_b25_b60 : b25 ≠ b60 := Nat.ne_of_lt (Nat.lt_of_lt_of_eq (own_Ia.lt V_b25) e_b60.symm)
  have ne_b45_b60 : b45 ≠ b60 := Nat.ne_of_lt (Nat.lt_of_lt_of_eq (own_Ia.lt V_b45) e_b60.symm)
  have ne_b55_b60 : b55 ≠ b60 := Nat.ne_of_lt (Nat.lt_of_lt_of_eq (own_Ia.lt V_b55) e_b60.symm)
  have V_b25 := own_Ia.ext V_b25 X_b60
  have V_b45 := own_Ia.ext V_b45 X_b60
  have V_b55 := own_Ia.ext V_b55 X_b60
  refine own_astore C A at_62 rfl (l' := #[.val (.int v0), .val (.int v1), .val (.int v2), .val (.int v3), .val (.int (f1_0 v3 (0 : Int32) v0)), .val (.int (f1_0 v3 (1 : Int32) v1)), .val (.int (f1_0 v3 (2 : Int32) v2)), .val (.ref b25), .val (.ref b45), .val (.ref b50), .val (.ref b55), .val (.ref b60), .unset, .unset, .unset, .unset, .unset, .unset, .unset, .unset]) rfl rfl ?_
  refine own_newO C A (own_w C 7 rfl) (own_w C 8 rfl) (own_w C 9 rfl) at_64 rfl (by decide) (by decide) (fun T h b64 e_b64 X_b64 E_b64 D_b64 g_b64 A => ?_)
  have ne_b25_b64 : b25 ≠ b64 := Nat.ne_of_lt (Nat.lt_of_lt_of_eq (own_Ia.lt V_b25) e_b64.symm)
  have ne_b45_b64 : b45 ≠ b64 := Nat.ne_of_lt (Nat.lt_of_lt_of_eq (own_Ia.lt V_b45) e_b64.symm)
  have ne_b55_b64 : b55 ≠ b64 := Nat.ne_of_lt (Nat.lt_of_lt_of_eq (own_Ia.lt V_b55) e_b64.symm)
  have ne_b60_b64 : b60 ≠ b64 := Nat.ne_of_lt (Nat.lt_of_lt_of_eq (own_Ia.lt V_b60) e_b64.symm)
  have V_b25 := own_Ia.ext V_b25 X_b64
  have V_b45 := own_Ia.ext V_b45 X_b64
  have V_b55 := own_Ia.ext V_b55 X_b64
  have V_b60 := own_Ia.ext V_b60 X_b64
  have F_ranks_b64 : Fld Z h b64 "com/example/tandem_rank/tandemrank/fusion/Votes" "ranks" "[I" .null := D_b64 (Or.inr (own_w C 17 rfl)) (ty := (.array .int)) (by decide)
  have F_scoreRanks_b64 : Fld Z h b64 "com/example/tandem_rank/tandemrank/fusion/Votes" "scoreRanks" "[I" .null := D_b64 (Or.inr (own_w C 19 rfl)) (ty := (.array .int)) (by decide)
  have F_scores_b64 : Fld Z h b64 "com/example/tandem_rank/tandemrank/fusion/Votes" "scores" "[D" .null := D_b64 (Or.inr (own_w C 21 rfl)) (ty := (.array .double)) (by decide)
  have F_lengths_b64 : Fld Z h b64 "com/example/tandem_rank/tandemrank/fusion/Votes" "lengths" "[I" .null := D_b64 (Or.inr (own_w C 23 rfl)) (ty := (.array .int)) (by decide)
  have F_distinctScores_b64 : Fld Z h b64 "com/example/tandem_rank/tandemrank/fusion/Votes" "distinctScores" "[I" .null := D_b64 (Or.inr (own_w C 25 rfl)) (ty := (.array .int)) (by decide)
  have F_itemCount_b64 : Fld Z h b64 "com/example/tandem_rank/tandemrank/fusion/Votes" "itemCount" "I" (.int (0 : Int32)) := D_b64 (Or.inr (own_w C 27 rfl)) (ty := .int) (by decide)
  refine own_dup C A at_67 rfl rfl ?_
  refine own_aload C A at_68 rfl rfl rfl ?_
  refine own_aload C A at_70 rfl rfl rfl ?_
  refine own_aload C A at_72 rfl rfl rfl ?_
  refine own_aload C A at_74 rfl rfl rfl ?_
  refine own_aload C A at_76 rfl rfl rfl ?_
  refine own_iconst C A at_78 (v := 3) rfl rfl ?_
  refine own_callC C A 1 [(.ref b25), (.ref b45), (.ref b50), (.ref b55), (.ref b60), (.int (3 : Int32))] [(.ref b64)] rfl (own_w C 10 rfl) (own_w C 11 rfl) (own_w C 9 rfl) (own_w C 12 rfl) (by decide) (rm3 l Z a0 C.2.2.2.2.2.2.2.2 [] b64 b25 b45 b50 b55 b60 (3 : Int32) .null .null .null .null .null (.int (0 : Int32)) _ _ (own_size A) F_ranks_b64 F_scoreRanks_b64 F_scores_b64 F_lengths_b64 F_distinctScores_b64 F_itemCount_b64 E_b64 g_b64) (by decide) (by decide) (by decide) (by decide) own_pd1 rfl rfl rfl (Nat.le_of_eq rfl) rfl at_79 rfl (fun v T h hP A => ?_)
  replace A := own_more A (kc' := 6) (ks' := 21) (by decide) (by decide)
  obtain ⟨rfl, Kc, E_b64, F_ranks_b64, F_scoreRanks_b64, F_scores_b64, F_lengths_b64, F_distinctScores_b64, F_itemCount_b64⟩ := hP
  have V_b25 := own_Ia.keep V_b25 Kc (ninS ne_b25_b64 nin0)
  have V_b45 := own_Ia.keep V_b45 Kc (ninS ne_b45_b64 nin0)
  have V_b55 := own_Ia.keep V_b55 Kc (ninS ne_b55_b64 nin0)
  have V_b60 := own_Ia.keep V_b60 Kc (ninS ne_b60_b64 nin0)
  show own_Go p.tables e below (T.setTop (mkF m 82 #[.val (.int v0), .val (.int v1), .val (.int v2), .val (.int v3), .val (.int (f1_0 v3 (0 : Int32) v0)), .val (.int (f1_0 v3 (1 : Int32) v1)), .val (.int (f1_0 v3 (2 : Int32) v2)), .val (.ref b25), .val (.ref b45), .val (.ref b50), .val (.ref b55), .val (.ref b60), .unset, .unset, .unset, .unset, .unset, .unset, .unset, .unset] [(.ref b64)])) _
  refine own_astore C A at_82 rfl (l' := #[.val (.int v0), .val (.int v1), .val (.int v2), .val (.int v3), .val (.int (f1_0 v3 (0 : Int32) v0)), .val (.int (f1_0 v3 (1 : Int32) v1)), .val (.int (f1_0 v3 (2 : Int32) v2)), .val (.ref b25), .val (.ref b45), .val (.ref b50), .val (.ref b55), .val (.ref b60), .val (.ref b64), .unset, .unset, .unset, .unset, .unset, .unset, .unset]) rfl rfl ?_
  refine own_iload C A at_84 rfl rfl ?_
  refine own_ite (fun hc86 => ?_) (fun hc86 => ?_)
  · refine own_ifY C A at_86 (Jvm.Free.XT.i0_eq_t hc86) (by decide) (q := 93) (by decide) ?_
    refine own_iconst C A at_93 (v := 0) rfl rfl ?_
    exact w0_94 C A (f1_0 v3 (1 : Int32) v1) (f1_0 v3 (2 : Int32) v2) (0 : Int32) (f3_0 (3 : Int32)) [(f1_0 v3 (0 : Int32) v0), (f1_0 v3 (1 : Int32) v1), (f1_0 v3 (2 : Int32) v2)] [0, 0, 0] [0, 0, 0] [0, 0, 0] F_ranks_b64 F_scoreRanks_b64 F_scores_b64 F_lengths_b64 F_distinctScores_b64 F_itemCount_b64 E_b64 g_b64 V_b25 g_b25 V_b45 g_b45 V_b55 g_b55 V_b60 g_b60 ne_b25_b45 ne_b25_b55 ne_b45_b55 ne_b25_b60 ne_b45_b60 ne_b55_b60 ne_b25_b64 ne_b45_b64 ne_b55_b64 ne_b60_b64
  · refine own_ifN C A at_86 (Jvm.Free.XT.i0_eq_f hc86) rfl ?_
    refine own_iconst C A at_89 (v := 1) rfl rfl ?_
    refine own_goto C A at_90 (by decide) (q := 94) (by decide) ?_
    exact w0_94 C A (f1_0 v3 (1 : Int32) v1) (f1_0 v3 (2 : Int32) v2) (1 : Int32) (f3_0 (3 : Int32)) [(f1_0 v3 (0 : Int32) v0), (f1_0 v3 (1 : Int32) v1), (f1_0 v3 (2 : Int32) v2)] [0, 0, 0] [0, 0, 0] [0, 0, 0] F_ranks_b64 F_scoreRanks_b64 F_scores_b64 F_lengths_b64 F_distinctScores_b64 F_itemCount_b64 E_b64 g_b64 V_b25 g_b25 V_b45 g_b45 V_b55 g_b55 V_b60 g_b60 ne_b25_b45 ne_b25_b55 ne_b45_b55 ne_b25_b60 ne_b45_b60 ne_b55_b60 ne_b25_b64 ne_b45_b64 ne_b55_b64 ne_b60_b64
theorem own_ef0 (m : MethodId) (v0 : Int32) (v1 : Int32) (v2 : Int32) (v3 : Int32) : entryFrame m #[(.int v0), (.int v1), (.int v2), (.int v3)] maxLocals = mkF m 0 #[.val (.int v0), .val (.int v1), .val (.int v2), .val (.int v3), .unset, .unset, .unset, .unset, .unset, .unset, .unset, .unset, .unset, .unset, .unset, .unset, .unset, .unset, .unset, .unset] [] := by first | (simp [entryFrame, mkF, argsToLocals, Value.category, maxLocals]; done) | rfl
theorem rm0 (l : Launch) (Z : State) (a0 : Array Value) (hw : ∀ d ∈ tables_1, d.before a0 Z = true) (ws : List Jvm.Cond) (v0 : Int32) (v1 : Int32) (v2 : Int32) (v3 : Int32) (h : Heap) (n0 : Nat) (hn : n0 ≤ h.size) :
    MetFree l x (head1 (Jvm.Cond.code x code maxLocals ret :: ws) room_1) (fun a U => a = #[(.int v0), (.int v1), (.int v2), (.int v3)] ∧ Z.Warmed39 U.vm ∧ U.heap = h) (fun _ _ _ _ _ => True) (fun _ U o U' => own_QR U n0 6 21 (own_RV (f0_0 v0 v1 v2 v3)) o U') :=
  own_met (plainFor_of_name (by first | (simp [plainName, overriddenIn, x]; done) | decide +kernel)) hw hn (fun m => own_ef0 m v0 v1 v2 v3) (fun p e s m below meth c T C A => w0_0 C A v0 v1 v2 v3)
theorem own_hold (a b c : Int32) : f5_0 [a, b, c] = (((if 0 < a then 1 else 0) + (if 0 < b then 1 else 0)) + (if 0 < c then 1 else 0)) := by
  have e : f5_0 [a, b, c] = (if 0 < a then (if 0 < b then (if 0 < c then 3 else 2) else (if 0 < c then 2 else 1)) else (if 0 < b then (if 0 < c then 2 else 1) else (if 0 < c then 1 else 0))) := rfl
  rw [e]
  by_cases h1 : 0 < a <;> by_cases h2 : 0 < b <;> by_cases h3 : 0 < c <;> simp [h1, h2, h3]
theorem own_in (a b c : Int32) : f4_0 0 [a, b, c] = (if 0 < a then 1 else 0) ∧ f4_0 1 [a, b, c] = (if 0 < b then 1 else 0) ∧ f4_0 2 [a, b, c] = (if 0 < c then 1 else 0) := ⟨rfl, rfl, rfl⟩
theorem own_pick (a b c : Int32) : (f1_0 a b c = 0) ∨ 0 < f1_0 a b c := by
  unfold f1_0
  split
  · exact Or.inl rfl
  · have l0 : (0 : Int32).toInt = 0 := rfl
    have := c_mask c 2147483647 31 (by decide) (by decide)
    by_cases h : (c &&& 2147483647) = 0
    · exact Or.inl h
    · right
      have h2 : (c &&& 2147483647).toInt ≠ 0 := fun e => h (Int32.toInt_inj.mp e)
      rw [Int32.lt_iff_toInt_lt]
      omega
theorem own_key (a b c : Int32) (ha : a = 0 ∨ 0 < a) (hb : b = 0 ∨ 0 < b) (hc : c = 0 ∨ 0 < c) (i : Int32) (x y z : List Int32) :
    (if a = 0 then f0_94 b c 0 i [a, b, c] x y z else f0_94 b c 1 i [a, b, c] x y z) = 1 := by
  have n0 : ∀ q : Int32, 0 < q → ¬ q = 0 := fun q h e => by subst e; exact absurd h (by decide)
  unfold f0_94 f0_106 f0_118
  rw [own_hold, (own_in a b c).1, (own_in a b c).2.1, (own_in a b c).2.2]
  rcases ha with rfl | ha <;> rcases hb with rfl | hb <;> rcases hc with rfl | hc <;> simp [f2_0, *, n0]
theorem own_plain (a b c d : Int32) : f0_0 a b c d = 1 := own_key _ _ _ (own_pick _ _ _) (own_pick _ _ _) (own_pick _ _ _) _ _ _ _

set_option maxRecDepth 65536 in
set_option maxHeartbeats 40000000 in
theorem own_comes {Post : Tables → Env → Array Value → State → Outcome → State → Prop} (hpost : ∀ tb e args s v u, (limb_1_1.after args s (.returned v) u = true ∧ limb_1_2.after args s (.returned v) u = true ∧ True) → FrameEnd s (.returned v) u (Jvm.fieldLocs frame_1_writes args s ++ Jvm.arrayLocs frame_1_arrays args s ++ Jvm.staticLocs frame_1_statics s) 24 128 → Post tb e args s (.returned v) u) :
    ArmFor flags0 classFile x code maxLocals ret World_1 tables_1 room_1 Calls_1 rest_1 Pre_1 Post := by
  intro l hfl _ _ p e ha hc hk s m args below hf hA hF happ hP
  obtain ⟨hcalls, hrest, hpre⟩ := hP
  obtain ⟨-, -, -, hnamed, -, -, -, hat⟩ := (Spec.applies_iff hf).mp happ
  obtain ⟨hg, hn⟩ := and_e (Cond.before_iff.mp (show (Jvm.Cond.and given_1 narrow_1).before args s = true from hpre))
  obtain ⟨h1, g0⟩ := and_e hg
  obtain ⟨k0, g1⟩ := and_e g0
  obtain ⟨k1, g2⟩ := and_e g1
  obtain ⟨k2, g3⟩ := and_e g2
  obtain ⟨w0, w1, w2, w3, rfl⟩ : ∃ w0 w1 w2 w3 : Value, args = #[w0, w1, w2, w3] := by
    have hs : args.size = 4 := by simpa [Cond.value, given_1] using h1
    obtain ⟨L⟩ := args
    match L, hs with
    | [w0, w1, w2, w3], _ => exact ⟨w0, w1, w2, w3, rfl⟩
  have hw := fun d (hd : d ∈ tables_1) => atoms_spec (ws := Jvm.Cond.code x code maxLocals ret :: tables_1) hat d (List.mem_cons_of_mem _ hd)
  obtain ⟨i0, e0⟩ := is_v k0
  obtain rfl : w0 = (.int i0) := Option.some.inj e0
  obtain ⟨i1, e1⟩ := is_v k1
  obtain rfl : w1 = (.int i1) := Option.some.inj e1
  obtain ⟨i2, e2⟩ := is_v k2
  obtain rfl : w2 = (.int i2) := Option.some.inj e2
  obtain ⟨i3, e3⟩ := is_v g3
  obtain rfl : w3 = (.int i3) := Option.some.inj e3
  obtain ⟨n, o, h1, h2, h3, _, L, rfl, ⟨hv, N⟩, hq⟩ := rm0 l s _ hw tables_1 i0 i1 i2 i3 s.heap s.heap.size (Nat.le_refl _) p e ha hc hk s m _ below hf ((Spec.applies_iff_loose hf).mp happ).1 ⟨rfl, State.Warmed39.refl s, rfl⟩ trivial
  have hv' := Eq.trans hv (congrArg (fun z => some (Value.int z)) (own_plain i0 i1 i2 i3))
  subst hv'
  refine ⟨n, _, h1, h2, h3, hpost _ _ _ _ _ _ ⟨Cond.after_iff.mpr rfl, Cond.after_iff.mpr (eq_i res_at (Term.int_eval (1)) rfl), trivial⟩ ⟨hq.1, hq.2.1, (hq.2.2.sift fun y hy => Or.inr (N y hy)).mono (by decide) (by decide)⟩⟩
theorem main_1_1 : Claimed_1_1 := own_comes fun _ _ _ _ _ _ h hF => ⟨h.1, hF⟩
theorem main_1_2 : Claimed_1_2 := own_comes fun _ _ _ _ _ _ h hF => ⟨h.2.1, hF⟩
end Jvm.Pilot.@@N@@
namespace Jvm.Pilot.@@N@@
open Jvm Jvm.ClassFile Sem Op Lib Jvm.Free Jvm.Stand Jvm.Pilot.@@N@@.Jvm.D
/-! MADE BY PROGRAM (witnessworld.py) out of the Statement's table words and the real class files: 9 classes; the members and pool entries that the words name. The judged class is class 1, her method 3. -/
namespace start1
open Jvm.ClassFile
def u (s : String) : CpInfo := .utf8 (stringToUtf16 s)
/-- a pool by its gaps: so many unusable entries, then the entry; so many at the end -/
def gap : Nat → List CpInfo → List CpInfo
  | 0, r => r
  | n + 1, r => .unusable :: gap n r
def poolList (es : List (Nat × CpInfo)) (last : Nat) : List CpInfo := es.foldr (fun e r => gap e.1 (e.2 :: r)) (gap last [])
def pool (es : List (Nat × CpInfo)) (last : Nat) : Array CpInfo := ⟨poolList es last⟩
def fileOf (pool : Array CpInfo) (this : Nat) (attrs : Array Attribute := #[]) (ms : Array MethodInfo := #[]) (fl : Nat := 33) (sup : Nat := 0) (ifs : Array Nat := #[]) (fds : Array FieldInfo := #[]) : ClassFile where
  minorVersion := 0
  majorVersion := 65
  constantPool := pool
  accessFlags := fl
  thisClass := this
  superClass := sup
  interfaces := ifs
  fields := fds
  methods := ms
  attributes := attrs
def plain (name : String) (sup : Option ClassId) : Class where
  name := name
  kind := .ordinary
  loader := none
  accessFlags := 33
  super := sup
  interfaces := #[]
  cf := none
  fields := #[]
  methods := #[]
  instanceTypes := #[]
  staticTypes := #[]
  resolved := #[]
  callSites := []
  init := .initialized
  statics := none
  mirror := none

def pool0 : Array CpInfo := pool [(5, u "<init>"), (0, u "()V"), (1, .class_ 10), (1, u "java/lang/Object")] 113

def k0c0 : Code := { maxStack := 0, maxLocals := 1, code := object_method_1_code, exceptionTable := #[], attributes := #[] }
def k0m0 : Method := { name := "<init>", desc := "()V", sig := { parameters := [], returnType := none }, accessFlags := 1, code := some k0c0 }
/-- java/lang/Object -/
def k0 : Class := { plain "java/lang/Object" none with
  accessFlags := 33
  interfaces := #[]
  cf := some (fileOf pool0 8 #[] #[{ accessFlags := 1, nameIndex := 5, descriptorIndex := 6, attributes := #[] }] 33 0 #[] #[])
  fields := #[]
  methods := #[k0m0]
  instanceTypes := #[]
  staticTypes := #[]
  resolved := Array.replicate 124 none
  statics := none }

def pool1 : Array CpInfo := pool [(2, .class_ 4), (1, u "java/lang/Object"), (0, u "<init>"), (0, u "()V"), (0, .integer 2147483647), (0, .methodref 9 10), (0, .class_ 11), (0, .nameAndType 12 13), (0, u "com/example/tandem_rank/tandemrank/fusion/VotesIsInPinLaw"), (0, u "pick"), (0, u "(III)I"), (0, .class_ 15), (0, u "com/example/tandem_rank/tandemrank/fusion/Votes"), (0, .methodref 14 17), (0, .nameAndType 5 18), (0, u "([I[I[D[I[II)V"), (0, .methodref 14 20), (0, .nameAndType 21 22), (0, u "isIn"), (0, u "(I)Z"), (0, .methodref 9 24), (0, .nameAndType 25 26), (0, u "one"), (0, u "(Z)I"), (0, .methodref 14 28), (0, .nameAndType 29 30), (0, u "holders"), (0, u "()I"), (3, u "law"), (0, u "(IIII)Z")] 6

def k1m0 : Method := { name := "<init>", desc := "()V", sig := { parameters := [], returnType := none }, accessFlags := 1, code := none }
def k1c1 : Code := { maxStack := 2, maxLocals := 3, code := method_2_code, exceptionTable := #[], attributes := #[] }
def k1m1 : Method := { name := "pick", desc := "(III)I", sig := { parameters := [.int, .int, .int], returnType := some .int }, accessFlags := 10, code := some k1c1 }
def k1c2 : Code := { maxStack := 1, maxLocals := 1, code := method_3_code, exceptionTable := #[], attributes := #[] }
def k1m2 : Method := { name := "one", desc := "(Z)I", sig := { parameters := [.boolean], returnType := some .int }, accessFlags := 10, code := some k1c2 }
def k1c3 : Code := { maxStack := 8, maxLocals := 20, code := code, exceptionTable := #[], attributes := #[] }
def k1m3 : Method := { name := "law", desc := "(IIII)Z", sig := { parameters := [.int, .int, .int, .int], returnType := some .boolean }, accessFlags := 9, code := some k1c3 }
/-- com/example/tandem_rank/tandemrank/fusion/VotesIsInPinLaw -/
def k1 : Class := { plain "com/example/tandem_rank/tandemrank/fusion/VotesIsInPinLaw" (some 0) with
  accessFlags := 49
  interfaces := #[]
  cf := some (fileOf pool1 9 #[] #[{ accessFlags := 1, nameIndex := 5, descriptorIndex := 6, attributes := #[] }, { accessFlags := 10, nameIndex := 12, descriptorIndex := 13, attributes := #[] }, { accessFlags := 10, nameIndex := 25, descriptorIndex := 26, attributes := #[] }, { accessFlags := 9, nameIndex := 34, descriptorIndex := 35, attributes := #[] }] 49 2 #[] #[])
  fields := #[]
  methods := #[k1m0, k1m1, k1m2, k1m3]
  instanceTypes := #[]
  staticTypes := #[]
  resolved := Array.replicate 42 none
  statics := none }

def pool2 : Array CpInfo := pool [(1, .methodref 2 3), (0, .class_ 4), (0, .nameAndType 5 6), (0, u "java/lang/Object"), (0, u "<init>"), (0, u "()V"), (0, .fieldref 8 9), (0, .class_ 10), (0, .nameAndType 11 12), (0, u "com/example/tandem_rank/tandemrank/fusion/Votes"), (0, u "ranks"), (0, u "[I"), (0, .fieldref 8 14), (0, .nameAndType 15 12), (0, u "scoreRanks"), (0, .fieldref 8 17), (0, .nameAndType 18 19), (0, u "scores"), (0, u "[D"), (0, .fieldref 8 21), (0, .nameAndType 22 12), (0, u "lengths"), (0, .fieldref 8 24), (0, .nameAndType 25 12), (0, u "distinctScores"), (0, .fieldref 8 27), (0, .nameAndType 28 29), (0, u "itemCount"), (0, u "I"), (6, u "([I[I[D[I[II)V"), (3, u "()I"), (0, u "isIn"), (0, u "(I)Z"), (6, u "holders")] 5

def k2c0 : Code := { maxStack := 2, maxLocals := 7, code := prog_36_method_1_code, exceptionTable := #[], attributes := #[] }
def k2m0 : Method := { name := "<init>", desc := "([I[I[D[I[II)V", sig := { parameters := [(.array .int), (.array .int), (.array .double), (.array .int), (.array .int), .int], returnType := none }, accessFlags := 0, code := some k2c0 }
def k2c1 : Code := { maxStack := 2, maxLocals := 2, code := prog_36_method_3_code, exceptionTable := #[], attributes := #[] }
def k2m1 : Method := { name := "isIn", desc := "(I)Z", sig := { parameters := [.int], returnType := some .boolean }, accessFlags := 0, code := some k2c1 }
def k2c2 : Code := { maxStack := 2, maxLocals := 6, code := prog_36_method_10_code, exceptionTable := #[], attributes := #[] }
def k2m2 : Method := { name := "holders", desc := "()I", sig := { parameters := [], returnType := some .int }, accessFlags := 0, code := some k2c2 }
/-- com/example/tandem_rank/tandemrank/fusion/Votes -/
def k2 : Class := { plain "com/example/tandem_rank/tandemrank/fusion/Votes" (some 0) with
  accessFlags := 32
  interfaces := #[]
  cf := some (fileOf pool2 8 #[] #[{ accessFlags := 0, nameIndex := 5, descriptorIndex := 36, attributes := #[] }, { accessFlags := 0, nameIndex := 41, descriptorIndex := 42, attributes := #[] }, { accessFlags := 0, nameIndex := 49, descriptorIndex := 40, attributes := #[] }] 32 2 #[] #[{ accessFlags := 18, nameIndex := 11, descriptorIndex := 12, attributes := #[] }, { accessFlags := 18, nameIndex := 15, descriptorIndex := 12, attributes := #[] }, { accessFlags := 18, nameIndex := 18, descriptorIndex := 19, attributes := #[] }, { accessFlags := 18, nameIndex := 22, descriptorIndex := 12, attributes := #[] }, { accessFlags := 18, nameIndex := 25, descriptorIndex := 12, attributes := #[] }, { accessFlags := 18, nameIndex := 28, descriptorIndex := 29, attributes := #[] }])
  fields := #[{ name := "ranks", type := (.array .int), accessFlags := 18, slot := 0, constantValue := 0 }, { name := "scoreRanks", type := (.array .int), accessFlags := 18, slot := 1, constantValue := 0 }, { name := "scores", type := (.array .double), accessFlags := 18, slot := 2, constantValue := 0 }, { name := "lengths", type := (.array .int), accessFlags := 18, slot := 3, constantValue := 0 }, { name := "distinctScores", type := (.array .int), accessFlags := 18, slot := 4, constantValue := 0 }, { name := "itemCount", type := .int, accessFlags := 18, slot := 5, constantValue := 0 }]
  methods := #[k2m0, k2m1, k2m2]
  instanceTypes := #[(.array .int), (.array .int), (.array .double), (.array .int), (.array .int), .int]
  staticTypes := #[]
  resolved := Array.replicate 55 none
  statics := none }

def pool3 : Array CpInfo := pool [(1, u "java/lang/Cloneable"), (0, .class_ 1), (0, u "java/lang/Object"), (0, .class_ 3)] 3

/-- java/lang/Cloneable -/
def k3 : Class := { plain "java/lang/Cloneable" (some 0) with
  accessFlags := 1537
  interfaces := #[]
  cf := some (fileOf pool3 2 #[] #[] 1537 4 #[] #[])
  fields := #[]
  methods := #[]
  instanceTypes := #[]
  staticTypes := #[]
  resolved := Array.replicate 8 none
  statics := none }

def pool4 : Array CpInfo := pool [(1, u "java/io/Serializable"), (0, .class_ 1), (0, u "java/lang/Object"), (0, .class_ 3)] 3

/-- java/io/Serializable -/
def k4 : Class := { plain "java/io/Serializable" (some 0) with
  accessFlags := 1537
  interfaces := #[]
  cf := some (fileOf pool4 2 #[] #[] 1537 4 #[] #[])
  fields := #[]
  methods := #[]
  instanceTypes := #[]
  staticTypes := #[]
  resolved := Array.replicate 8 none
  statics := none }

/-- the primitive byte -/
def k5 : Class := { plain "byte" none with kind := .primitive 'B', accessFlags := 0x411 }
/-- [B -/
def k6 : Class := { plain "[B" (some 0) with kind := .array 5 .byte, interfaces := #[3, 4], accessFlags := 1041 }

/-- the primitive int -/
def k7 : Class := { plain "int" none with kind := .primitive 'I', accessFlags := 0x411 }
/-- [I -/
def k8 : Class := { plain "[I" (some 0) with kind := .array 7 .int, interfaces := #[3, 4], accessFlags := 1041 }

/-- the primitive double -/
def k9 : Class := { plain "double" none with kind := .primitive 'D', accessFlags := 0x411 }
/-- [D -/
def k10 : Class := { plain "[D" (some 0) with kind := .array 9 .double, interfaces := #[3, 4], accessFlags := 1041 }
def heap : Heap := #[]
def classes : Array Class := #[k0, k1, k2, k3, k4, k5, k6, k7, k8, k9, k10]
def interned : List (Array UInt16 × Addr) := []
def slotsUsed : Nat := 0
def theMethod : MethodId := ⟨1, 3⟩
def args0 : Array Value := #[.int 1, .int 7, .int 2, .int 3]
def aboutOver (below : List Frame) : State where
  vm := { classes := classes, interned := interned.toArray }
  heap := heap
  slotsUsed := slotsUsed
  threads := #[{ frames := .invoking theMethod args0 :: below }]
def below0 : List Frame := [.native { method := ⟨0, 0⟩, args := #[] }]
def about1 : State := aboutOver below0
def p0 : Program := .bare "" "" ""
def e0 : Env := launch0.env 0 0 0
theorem w_frames : about1.frames = Frame.invoking theMethod args0 :: below0 := rfl
set_option maxRecDepth 65536 in
theorem w_args : argsFit about1.vm theMethod args0 = true := by decide +kernel
set_option maxRecDepth 65536 in
theorem w_heap : heapFits about1 = true := by decide +kernel
set_option maxRecDepth 65536 in
theorem w_runnable : about1.curStatus? = some .runnable := by decide +kernel
set_option maxRecDepth 65536 in
theorem w_alone : about1.alone = true := by decide +kernel
set_option maxRecDepth 65536 in
theorem w_named : about1.methodNamed? x = some theMethod := by decide +kernel
set_option maxRecDepth 65536 in
theorem w_hears : about1.hears theMethod below0 = true := by decide +kernel
set_option maxRecDepth 65536 in
theorem w_ripe : about1.ripe theMethod args0 below0 = true := by decide +kernel
theorem w_running : about1.status = .running := rfl
set_option maxRecDepth 65536 in
theorem w_room : about1.hasRoom e0.platform room_1 = true :=
  launch0.hasRoom_least _ room_1 (by decide +kernel) (by decide +kernel) (by decide +kernel) (by decide +kernel) (by decide +kernel) (by decide +kernel)
theorem allAtoms_all (ts : List Jvm.Cond) (a : Array Jvm.Value) (st : Jvm.State) : (allAtoms ts).before a st = ts.all (fun c => c.before a st) := by
  induction ts with
  | nil => rfl
  | cons c t ih =>
    show (Jvm.Cond.and c (allAtoms t)).before a st = _
    rw [Jvm.Cond.before_and, ih, List.all_cons]
def words1 : List Jvm.Cond := Jvm.Cond.code x code maxLocals ret :: tables_1
/-- a 'code' word, met by the world's own term for the bytes: nothing is compared byte by byte -/
theorem code_word {y : MethodName} {bytes : ByteArray} {mx : Nat} {rt : Option FieldType} {a : Array Value} {s : State} {m : MethodId} {meth : Method} {c : Code} (h1 : s.methodNamed? y = some m) (h2 : s.vm.method? m = some meth) (h3 : meth.code = some c) (h4 : c.code = bytes)
    (h5 : (c.maxLocals == mx && c.exceptionTable.isEmpty && decide (c.maxStack ≤ mostOperands) && decide (meth.sig.returnType = rt) && !meth.locks && decide (parseMethodDescriptor y.desc = some meth.sig)) = true) : (Jvm.Cond.code y bytes mx rt).before a s = true := by
  simp only [Bool.and_eq_true, beq_iff_eq, Bool.not_eq_true', decide_eq_true_eq] at h5
  obtain ⟨⟨⟨⟨⟨g1, g2⟩, g3⟩, g4⟩, g5⟩, g6⟩ := h5
  simp [Cond.before, Cond.holds, Cond.value, h1, h2, h3, h4, g1, g2, g3, g4, g5, g6]
def isCode : Jvm.Cond → Bool
  | .code _ _ _ _ => true
  | _ => false
theorem all_split {L : List Jvm.Cond} {P : Jvm.Cond → Bool} (h1 : L.all (fun c => isCode c || P c) = true) (h2 : ∀ c ∈ L.filter isCode, P c = true) : L.all P = true := by
  refine List.all_eq_true.mpr fun c hc => ?_
  have h := List.all_eq_true.mp h1 c hc
  rcases Bool.eq_false_or_eq_true (isCode c) with hi | hi
  · exact h2 c (List.mem_filter.mpr ⟨hc, hi⟩)
  · simpa [hi] using h
set_option maxRecDepth 65536 in
theorem w_c0 : (Jvm.Cond.code x code maxLocals ret).before args0 about1 = true := code_word (m := ⟨1, 3⟩) (meth := k1m3) (c := k1c3) (by decide +kernel) rfl rfl rfl (by decide +kernel)
set_option maxRecDepth 65536 in
theorem w_c1 : (Jvm.Cond.code ({ cls := "com/example/tandem_rank/tandemrank/fusion/VotesIsInPinLaw", name := "pick", desc := "(III)I" } : Jvm.MethodName) method_2_code (3 : Nat) (Option.some Jvm.ClassFile.FieldType.int)).before args0 about1 = true := code_word (m := ⟨1, 1⟩) (meth := k1m1) (c := k1c1) (by decide +kernel) rfl rfl rfl (by decide +kernel)
set_option maxRecDepth 65536 in
theorem w_c2 : (Jvm.Cond.code ({ cls := "com/example/tandem_rank/tandemrank/fusion/Votes", name := "<init>", desc := "([I[I[D[I[II)V" } : Jvm.MethodName) prog_36_method_1_code (7 : Nat) (Option.none : Option Jvm.ClassFile.FieldType)).before args0 about1 = true := code_word (m := ⟨2, 0⟩) (meth := k2m0) (c := k2c0) (by decide +kernel) rfl rfl rfl (by decide +kernel)
set_option maxRecDepth 65536 in
theorem w_c3 : (Jvm.Cond.code ({ cls := "java/lang/Object", name := "<init>", desc := "()V" } : Jvm.MethodName) object_method_1_code (1 : Nat) (Option.none : Option Jvm.ClassFile.FieldType)).before args0 about1 = true := code_word (m := ⟨0, 0⟩) (meth := k0m0) (c := k0c0) (by decide +kernel) rfl rfl rfl (by decide +kernel)
set_option maxRecDepth 65536 in
theorem w_c4 : (Jvm.Cond.code ({ cls := "com/example/tandem_rank/tandemrank/fusion/Votes", name := "isIn", desc := "(I)Z" } : Jvm.MethodName) prog_36_method_3_code (2 : Nat) (Option.some Jvm.ClassFile.FieldType.boolean)).before args0 about1 = true := code_word (m := ⟨2, 1⟩) (meth := k2m1) (c := k2c1) (by decide +kernel) rfl rfl rfl (by decide +kernel)
set_option maxRecDepth 65536 in
theorem w_c5 : (Jvm.Cond.code ({ cls := "com/example/tandem_rank/tandemrank/fusion/VotesIsInPinLaw", name := "one", desc := "(Z)I" } : Jvm.MethodName) method_3_code (1 : Nat) (Option.some Jvm.ClassFile.FieldType.int)).before args0 about1 = true := code_word (m := ⟨1, 2⟩) (meth := k1m2) (c := k1c2) (by decide +kernel) rfl rfl rfl (by decide +kernel)
set_option maxRecDepth 65536 in
theorem w_c6 : (Jvm.Cond.code ({ cls := "com/example/tandem_rank/tandemrank/fusion/Votes", name := "holders", desc := "()I" } : Jvm.MethodName) prog_36_method_10_code (6 : Nat) (Option.some Jvm.ClassFile.FieldType.int)).before args0 about1 = true := code_word (m := ⟨2, 2⟩) (meth := k2m2) (c := k2c2) (by decide +kernel) rfl rfl rfl (by decide +kernel)
def codes1 : List Jvm.Cond := [Jvm.Cond.code x code maxLocals ret, Jvm.Cond.code ({ cls := "com/example/tandem_rank/tandemrank/fusion/VotesIsInPinLaw", name := "pick", desc := "(III)I" } : Jvm.MethodName) method_2_code (3 : Nat) (Option.some Jvm.ClassFile.FieldType.int), Jvm.Cond.code ({ cls := "com/example/tandem_rank/tandemrank/fusion/Votes", name := "<init>", desc := "([I[I[D[I[II)V" } : Jvm.MethodName) prog_36_method_1_code (7 : Nat) (Option.none : Option Jvm.ClassFile.FieldType), Jvm.Cond.code ({ cls := "java/lang/Object", name := "<init>", desc := "()V" } : Jvm.MethodName) object_method_1_code (1 : Nat) (Option.none : Option Jvm.ClassFile.FieldType), Jvm.Cond.code ({ cls := "com/example/tandem_rank/tandemrank/fusion/Votes", name := "isIn", desc := "(I)Z" } : Jvm.MethodName) prog_36_method_3_code (2 : Nat) (Option.some Jvm.ClassFile.FieldType.boolean), Jvm.Cond.code ({ cls := "com/example/tandem_rank/tandemrank/fusion/VotesIsInPinLaw", name := "one", desc := "(Z)I" } : Jvm.MethodName) method_3_code (1 : Nat) (Option.some Jvm.ClassFile.FieldType.int), Jvm.Cond.code ({ cls := "com/example/tandem_rank/tandemrank/fusion/Votes", name := "holders", desc := "()I" } : Jvm.MethodName) prog_36_method_10_code (6 : Nat) (Option.some Jvm.ClassFile.FieldType.int)]
set_option maxRecDepth 65536 in
theorem codes_eq : words1.filter isCode = codes1 := rfl
theorem w_codes : ∀ c ∈ words1.filter isCode, c.before args0 about1 = true := by
  rw [codes_eq]
  intro c hc
  simp only [codes1, List.mem_cons, List.not_mem_nil, or_false] at hc
  rcases hc with rfl | rfl | rfl | rfl | rfl | rfl | rfl
  · exact w_c0
  · exact w_c1
  · exact w_c2
  · exact w_c3
  · exact w_c4
  · exact w_c5
  · exact w_c6
set_option maxRecDepth 65536 in
theorem w_t1 : (words1.take 24).all (fun c => isCode c || c.before args0 about1) = true := by decide +kernel
set_option maxRecDepth 65536 in
theorem w_t2 : (words1.drop 24).all (fun c => isCode c || c.before args0 about1) = true := by decide +kernel
theorem w_tables : (allAtoms (Jvm.Cond.code x code maxLocals ret :: tables_1)).before args0 about1 = true := by
  rw [allAtoms_all]
  show words1.all (fun c => c.before args0 about1) = true
  refine all_split ?_ w_codes
  rw [← List.take_append_drop 24 words1, List.all_append, w_t1, w_t2]
  rfl
set_option maxRecDepth 65536 in
theorem w_case : (Jvm.Cond.and given_1 narrow_1).before args0 about1 = true := by decide +kernel
theorem w_applies : (headSpec (Jvm.Cond.code x code maxLocals ret :: tables_1) room_1).applies x e0.platform about1 = true :=
  (Spec.applies_iff w_frames).mpr ⟨w_running, w_runnable, w_alone, w_named, w_hears, w_ripe, w_room, w_tables⟩
theorem atStart : AtStart classFile x code maxLocals ret World_1 tables_1 room_1 Calls_1 rest_1 Pre_1 launch0 p0 e0 about1 theMethod args0 below0 :=
  ⟨lists_1, trivial, launch0.admits_env _ _ _, launch0.least_env, fairChoices_fair.cas, fairChoices_fair.clock, w_frames, w_args, w_heap, w_applies, trivial, trivial, w_case⟩
end start1
theorem witness_1 : WitnessClaimed_1 := ⟨start1.p0, start1.e0, start1.about1, start1.theMethod, start1.args0, start1.below0, start1.atStart⟩
end Jvm.Pilot.@@N@@
