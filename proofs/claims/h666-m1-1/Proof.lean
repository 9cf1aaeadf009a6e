import JvmDerived
import JvmDerived.Pilot.@@N@@Statement
import JvmDerived.Pilot.@@N@@Code
set_option linter.unusedVariables false
set_option linter.unusedSimpArgs false
set_option maxHeartbeats 4000000
namespace Jvm.Pilot.@@N@@
open Jvm Jvm.ClassFile Sem Op Lib Jvm.Free Jvm.Stand Jvm.LawKit Jvm.RoadKit Bundle Jvm.Pilot.@@N@@.Jvm.D

def own_Go (tb : Tables) (e : Env) (below : List Frame) (U : State) (Q : Outcome → State → Prop) : Prop :=
  ∃ s₂ o, Steps tb e below U s₂ ∧ s₂.status = .running ∧ Ended s₂ below o ∧ Q o s₂
def own_QR (s : State) (n0 kc ks : Nat) (P : Option Value → Heap → Prop) (o : Outcome) (u : State) : Prop :=
  ∃ v L, o = .returned v ∧ (P v u.heap ∧ Fr n0 L) ∧ FrameEnd s o u L kc ks
def own_RI (h : Heap) (r : Int32) (v : Option Value) (h' : Heap) : Prop := v = some (.int r) ∧ h = h'
def own_RV (r : Int32) (v : Option Value) (h' : Heap) : Prop := v = some (.int r)
def own_R0 (h : Heap) (r : Unit) (v : Option Value) (h' : Heap) : Prop := v = none ∧ h = h'
def own_RJ (h : Heap) (r : Int64) (v : Option Value) (h' : Heap) : Prop := v = some (.long r) ∧ h = h'
def own_Cx (Z : State) (a0 : Array Value) (p : Program) (l : Launch) (e : Env) (R : Room) (s : State) (m : MethodId) (args : Array Value) (below : List Frame) (meth : Method) (c : Code) (own nm : String) (bytes : ByteArray) (mx : Nat) (ret : Option FieldType) : Prop :=
  p.tables.exec = Jvm.exec ∧ c.code = bytes ∧ c.maxLocals = mx ∧ s.vm.findClass own = some m.cls ∧ Z.Warmed39 s.vm ∧ meth.name = nm ∧ meth.sig.returnType = ret ∧ meth.locks = false ∧ ∀ d ∈ tables_1, d.before a0 Z = true
def own_At (p : Program) (l : Launch) (e : Env) (R : Room) (s : State) (m : MethodId) (args : Array Value) (below : List Frame) (meth : Method) (c : Code) (T : State) (h : Heap) (n0 kc ks : Nat) : Prop :=
  ∃ locs cells slots, Stand p l e R s m args below meth c T locs cells slots ∧ T.heap = h ∧ Fr n0 locs ∧ cells ≤ kc ∧ slots ≤ ks ∧ n0 ≤ h.size
theorem own_go {tb : Tables} {e : Env} {below : List Frame} {U U' : State} {Q : Outcome → State → Prop} (h : ∀ t, Steps tb e below U' t → Steps tb e below U t) (k : own_Go tb e below U' Q) : own_Go tb e below U Q := by
  obtain ⟨s2, o, h1, h2⟩ := k
  exact ⟨s2, o, h _ h1, h2⟩
theorem own_ite {tb : Tables} {e : Env} {below : List Frame} {U s : State} {n0 kc ks : Nat} {β : Type} {P : β → Option Value → Heap → Prop} {cnd : Prop} [Decidable cnd] {A B : β} (h1 : cnd → own_Go tb e below U (own_QR s n0 kc ks (P A))) (h2 : ¬ cnd → own_Go tb e below U (own_QR s n0 kc ks (P B))) :
    own_Go tb e below U (own_QR s n0 kc ks (P (if cnd then A else B))) := by
  by_cases hc : cnd
  · rw [if_pos hc]; exact h1 hc
  · rw [if_neg hc]; exact h2 hc

section OwnKit
variable {Z : State} {a0 : Array Value} {p : Program} {l : Launch} {e : Env} {R : Room} {s : State} {m : MethodId} {args : Array Value} {below : List Frame} {meth : Method} {c : Code} {own nm : String} {bytes : ByteArray} {mx : Nat} {ret : Option FieldType} {T : State} {h : Heap} {n0 kc ks : Nat} {Q : Outcome → State → Prop} {pc q : Nat} {Ls : Array Slot} {st : List Value}
theorem own_here (A : own_At p l e R s m args below meth c T h n0 kc ks) : At T m c below := by obtain ⟨_, _, _, X, _⟩ := A; exact X.here
theorem own_w (C : own_Cx Z a0 p l e R s m args below meth c own nm bytes mx ret) (i : Nat) {d : Jvm.Cond} (hi : tables_1[i]? = some d) : d.before a0 Z = true := C.2.2.2.2.2.2.2.2 d (List.mem_of_getElem? hi)
theorem own_size (A : own_At p l e R s m args below meth c T h n0 kc ks) : n0 ≤ h.size := by obtain ⟨_, _, _, _, _, _, _, _, hn⟩ := A; exact hn
theorem own_more {kc' ks' : Nat} (A : own_At p l e R s m args below meth c T h n0 kc ks) (h1 : kc ≤ kc') (h2 : ks ≤ ks') : own_At p l e R s m args below meth c T h n0 kc' ks' := by obtain ⟨locs, cells, slots, X, eT, N, hc, hs, hn⟩ := A; exact ⟨locs, cells, slots, X, eT, N, Nat.le_trans hc h1, Nat.le_trans hs h2, hn⟩
theorem own_iloadN (C : own_Cx Z a0 p l e R s m args below meth c own nm bytes mx ret) (A : own_At p l e R s m args below meth c T h n0 kc ks) {k : Fin 4} {v : Int32} (hd : decode bytes pc = .ok (.iload_n k, 1)) (hl : Ls[k.val]? = some (.val (.int v))) (hq : pc + 1 = q) (k : own_Go p.tables e below (T.setTop (mkF m q Ls (.int v :: st))) Q) :
    own_Go p.tables e below (T.setTop (mkF m pc Ls st)) Q := by
  subst hq
  exact own_go (fun t => XS.iloadN (own_here A) C.1 rfl (hb C.2.1 hd) hl) k
theorem own_lloadN (C : own_Cx Z a0 p l e R s m args below meth c own nm bytes mx ret) (A : own_At p l e R s m args below meth c T h n0 kc ks) {k : Fin 4} {v : Int64} (hd : decode bytes pc = .ok (.lload_n k, 1)) (hl : Ls[k.val]? = some (.val (.long v))) (hq : pc + 1 = q) (k : own_Go p.tables e below (T.setTop (mkF m q Ls (.long v :: st))) Q) :
    own_Go p.tables e below (T.setTop (mkF m pc Ls st)) Q := by
  subst hq
  exact own_go (fun t => XS.lloadN (own_here A) C.1 rfl (hb C.2.1 hd) hl) k
theorem own_aloadN (C : own_Cx Z a0 p l e R s m args below meth c own nm bytes mx ret) (A : own_At p l e R s m args below meth c T h n0 kc ks) {k : Fin 4} {v : Value} (hd : decode bytes pc = .ok (.aload_n k, 1)) (hl : Ls[k.val]? = some (.val v)) (hv : v.isRef = true) (hq : pc + 1 = q) (k : own_Go p.tables e below (T.setTop (mkF m q Ls (v :: st))) Q) :
    own_Go p.tables e below (T.setTop (mkF m pc Ls st)) Q := by
  subst hq
  exact own_go (fun t => XS.aloadN (own_here A) C.1 rfl (hb C.2.1 hd) hl hv) k
theorem own_istoreN (C : own_Cx Z a0 p l e R s m args below meth c own nm bytes mx ret) (A : own_At p l e R s m args below meth c T h n0 kc ks) {k : Fin 4} {x : Int32} {l' : Array Slot} (hd : decode bytes pc = .ok (.istore_n k, 1)) (hl : storeLocals Ls k.val (.int x) = some l') (hq : pc + 1 = q) (k : own_Go p.tables e below (T.setTop (mkF m q l' st)) Q) :
    own_Go p.tables e below (T.setTop (mkF m pc Ls (.int x :: st))) Q := by
  subst hq
  exact own_go (fun t => XS.istoreN (own_here A) C.1 rfl (hb C.2.1 hd) rfl hl) k
theorem own_lstoreN (C : own_Cx Z a0 p l e R s m args below meth c own nm bytes mx ret) (A : own_At p l e R s m args below meth c T h n0 kc ks) {k : Fin 4} {x : Int64} {l' : Array Slot} (hd : decode bytes pc = .ok (.lstore_n k, 1)) (hl : storeLocals Ls k.val (.long x) = some l') (hq : pc + 1 = q) (k : own_Go p.tables e below (T.setTop (mkF m q l' st)) Q) :
    own_Go p.tables e below (T.setTop (mkF m pc Ls (.long x :: st))) Q := by
  subst hq
  exact own_go (fun t => XS.lstoreN (own_here A) C.1 rfl (hb C.2.1 hd) rfl hl) k
theorem own_astoreN (C : own_Cx Z a0 p l e R s m args below meth c own nm bytes mx ret) (A : own_At p l e R s m args below meth c T h n0 kc ks) {k : Fin 4} {x : Value} {l' : Array Slot} (hd : decode bytes pc = .ok (.astore_n k, 1)) (hv : x.isRef = true) (hl : storeLocals Ls k.val x = some l') (hq : pc + 1 = q) (k : own_Go p.tables e below (T.setTop (mkF m q l' st)) Q) :
    own_Go p.tables e below (T.setTop (mkF m pc Ls (x :: st))) Q := by
  subst hq
  exact own_go (fun t => XS.astoreN (own_here A) C.1 rfl (hb C.2.1 hd) rfl hv hl) k
theorem own_iload (C : own_Cx Z a0 p l e R s m args below meth c own nm bytes mx ret) (A : own_At p l e R s m args below meth c T h n0 kc ks) {k : Nat} {v : Int32} (hd : decode bytes pc = .ok (.iload k, 2)) (hl : Ls[k]? = some (.val (.int v))) (hq : pc + 2 = q) (k : own_Go p.tables e below (T.setTop (mkF m q Ls (.int v :: st))) Q) :
    own_Go p.tables e below (T.setTop (mkF m pc Ls st)) Q := by
  subst hq
  exact own_go (fun t => XS.iload (own_here A) C.1 rfl (hb C.2.1 hd) hl) k
theorem own_lload (C : own_Cx Z a0 p l e R s m args below meth c own nm bytes mx ret) (A : own_At p l e R s m args below meth c T h n0 kc ks) {k : Nat} {v : Int64} (hd : decode bytes pc = .ok (.lload k, 2)) (hl : Ls[k]? = some (.val (.long v))) (hq : pc + 2 = q) (k : own_Go p.tables e below (T.setTop (mkF m q Ls (.long v :: st))) Q) :
    own_Go p.tables e below (T.setTop (mkF m pc Ls st)) Q := by
  subst hq
  exact own_go (fun t => XS.lload (own_here A) C.1 rfl (hb C.2.1 hd) hl) k
theorem own_aload (C : own_Cx Z a0 p l e R s m args below meth c own nm bytes mx ret) (A : own_At p l e R s m args below meth c T h n0 kc ks) {k : Nat} {v : Value} (hd : decode bytes pc = .ok (.aload k, 2)) (hl : Ls[k]? = some (.val v)) (hv : v.isRef = true) (hq : pc + 2 = q) (k : own_Go p.tables e below (T.setTop (mkF m q Ls (v :: st))) Q) :
    own_Go p.tables e below (T.setTop (mkF m pc Ls st)) Q := by
  subst hq
  exact own_go (fun t => XS.aload (own_here A) C.1 rfl (hb C.2.1 hd) hl hv) k
theorem own_istore (C : own_Cx Z a0 p l e R s m args below meth c own nm bytes mx ret) (A : own_At p l e R s m args below meth c T h n0 kc ks) {k : Nat} {x : Int32} {l' : Array Slot} (hd : decode bytes pc = .ok (.istore k, 2)) (hl : storeLocals Ls k (.int x) = some l') (hq : pc + 2 = q) (k : own_Go p.tables e below (T.setTop (mkF m q l' st)) Q) :
    own_Go p.tables e below (T.setTop (mkF m pc Ls (.int x :: st))) Q := by
  subst hq
  exact own_go (fun t => XS.istore (own_here A) C.1 rfl (hb C.2.1 hd) rfl hl) k
theorem own_lstore (C : own_Cx Z a0 p l e R s m args below meth c own nm bytes mx ret) (A : own_At p l e R s m args below meth c T h n0 kc ks) {k : Nat} {x : Int64} {l' : Array Slot} (hd : decode bytes pc = .ok (.lstore k, 2)) (hl : storeLocals Ls k (.long x) = some l') (hq : pc + 2 = q) (k : own_Go p.tables e below (T.setTop (mkF m q l' st)) Q) :
    own_Go p.tables e below (T.setTop (mkF m pc Ls (.long x :: st))) Q := by
  subst hq
  exact own_go (fun t => XS.lstore (own_here A) C.1 rfl (hb C.2.1 hd) rfl hl) k
theorem own_astore (C : own_Cx Z a0 p l e R s m args below meth c own nm bytes mx ret) (A : own_At p l e R s m args below meth c T h n0 kc ks) {k : Nat} {x : Value} {l' : Array Slot} (hd : decode bytes pc = .ok (.astore k, 2)) (hv : x.isRef = true) (hl : storeLocals Ls k x = some l') (hq : pc + 2 = q) (k : own_Go p.tables e below (T.setTop (mkF m q l' st)) Q) :
    own_Go p.tables e below (T.setTop (mkF m pc Ls (x :: st))) Q := by
  subst hq
  exact own_go (fun t => XS.astore (own_here A) C.1 rfl (hb C.2.1 hd) rfl hv hl) k
theorem own_iconst (C : own_Cx Z a0 p l e R s m args below meth c own nm bytes mx ret) (A : own_At p l e R s m args below meth c T h n0 kc ks) {i : Int} {v : Int32} (hd : decode bytes pc = .ok (.iconst i, 1)) (hv : Int32.ofInt i = v) (hq : pc + 1 = q) (k : own_Go p.tables e below (T.setTop (mkF m q Ls (.int v :: st))) Q) :
    own_Go p.tables e below (T.setTop (mkF m pc Ls st)) Q := by
  subst hq hv
  exact own_go (fun t => XS.iconst (own_here A) C.1 rfl (hb C.2.1 hd)) k
theorem own_bipush (C : own_Cx Z a0 p l e R s m args below meth c own nm bytes mx ret) (A : own_At p l e R s m args below meth c T h n0 kc ks) {i : Int} {v : Int32} (hd : decode bytes pc = .ok (.bipush i, 2)) (hv : (Int8.ofInt i).toInt32 = v) (hq : pc + 2 = q) (k : own_Go p.tables e below (T.setTop (mkF m q Ls (.int v :: st))) Q) :
    own_Go p.tables e below (T.setTop (mkF m pc Ls st)) Q := by
  subst hq hv
  exact own_go (fun t => XS.bipush (own_here A) C.1 rfl (hb C.2.1 hd)) k
theorem own_sipush (C : own_Cx Z a0 p l e R s m args below meth c own nm bytes mx ret) (A : own_At p l e R s m args below meth c T h n0 kc ks) {i : Int} {v : Int32} (hd : decode bytes pc = .ok (.sipush i, 3)) (hv : (Int16.ofInt i).toInt32 = v) (hq : pc + 3 = q) (k : own_Go p.tables e below (T.setTop (mkF m q Ls (.int v :: st))) Q) :
    own_Go p.tables e below (T.setTop (mkF m pc Ls st)) Q := by
  subst hq hv
  exact own_go (fun t => XS.sipush (own_here A) C.1 rfl (hb C.2.1 hd)) k
theorem own_lconst (C : own_Cx Z a0 p l e R s m args below meth c own nm bytes mx ret) (A : own_At p l e R s m args below meth c T h n0 kc ks) {k' : Fin 2} {v : Int64} (hd : decode bytes pc = .ok (.lconst k', 1)) (hv : Int64.ofNat k' = v) (hq : pc + 1 = q) (k : own_Go p.tables e below (T.setTop (mkF m q Ls (.long v :: st))) Q) :
    own_Go p.tables e below (T.setTop (mkF m pc Ls st)) Q := by
  subst hq hv
  exact own_go (fun t => XS.lconst (own_here A) C.1 rfl (hb C.2.1 hd)) k
theorem own_aconstNull (C : own_Cx Z a0 p l e R s m args below meth c own nm bytes mx ret) (A : own_At p l e R s m args below meth c T h n0 kc ks)  (hd : decode bytes pc = .ok (.aconst_null, 1))  (hq : pc + 1 = q) (k : own_Go p.tables e below (T.setTop (mkF m q Ls (.null :: st))) Q) :
    own_Go p.tables e below (T.setTop (mkF m pc Ls st)) Q := by
  subst hq
  exact own_go (fun t => XS.aconstNull (own_here A) C.1 rfl (hb C.2.1 hd) ) k
theorem own_iadd (C : own_Cx Z a0 p l e R s m args below meth c own nm bytes mx ret) (A : own_At p l e R s m args below meth c T h n0 kc ks) {x y : Int32} (hd : decode bytes pc = .ok (.iadd, 1))  (hq : pc + 1 = q) (k : own_Go p.tables e below (T.setTop (mkF m q Ls (.int (x + y) :: st))) Q) :
    own_Go p.tables e below (T.setTop (mkF m pc Ls (.int y :: .int x :: st))) Q := by
  subst hq
  exact own_go (fun t => XS.iadd (own_here A) C.1 rfl (hb C.2.1 hd) rfl) k
theorem own_isub (C : own_Cx Z a0 p l e R s m args below meth c own nm bytes mx ret) (A : own_At p l e R s m args below meth c T h n0 kc ks) {x y : Int32} (hd : decode bytes pc = .ok (.isub, 1))  (hq : pc + 1 = q) (k : own_Go p.tables e below (T.setTop (mkF m q Ls (.int (x - y) :: st))) Q) :
    own_Go p.tables e below (T.setTop (mkF m pc Ls (.int y :: .int x :: st))) Q := by
  subst hq
  exact own_go (fun t => XS.isub (own_here A) C.1 rfl (hb C.2.1 hd) rfl) k
theorem own_imul (C : own_Cx Z a0 p l e R s m args below meth c own nm bytes mx ret) (A : own_At p l e R s m args below meth c T h n0 kc ks) {x y : Int32} (hd : decode bytes pc = .ok (.imul, 1))  (hq : pc + 1 = q) (k : own_Go p.tables e below (T.setTop (mkF m q Ls (.int (x * y) :: st))) Q) :
    own_Go p.tables e below (T.setTop (mkF m pc Ls (.int y :: .int x :: st))) Q := by
  subst hq
  exact own_go (fun t => XS.imul (own_here A) C.1 rfl (hb C.2.1 hd) rfl) k
theorem own_iand (C : own_Cx Z a0 p l e R s m args below meth c own nm bytes mx ret) (A : own_At p l e R s m args below meth c T h n0 kc ks) {x y : Int32} (hd : decode bytes pc = .ok (.iand, 1))  (hq : pc + 1 = q) (k : own_Go p.tables e below (T.setTop (mkF m q Ls (.int (x &&& y) :: st))) Q) :
    own_Go p.tables e below (T.setTop (mkF m pc Ls (.int y :: .int x :: st))) Q := by
  subst hq
  exact own_go (fun t => XS.iand (own_here A) C.1 rfl (hb C.2.1 hd) rfl) k
theorem own_ior (C : own_Cx Z a0 p l e R s m args below meth c own nm bytes mx ret) (A : own_At p l e R s m args below meth c T h n0 kc ks) {x y : Int32} (hd : decode bytes pc = .ok (.ior, 1))  (hq : pc + 1 = q) (k : own_Go p.tables e below (T.setTop (mkF m q Ls (.int (x ||| y) :: st))) Q) :
    own_Go p.tables e below (T.setTop (mkF m pc Ls (.int y :: .int x :: st))) Q := by
  subst hq
  exact own_go (fun t => XS.ior (own_here A) C.1 rfl (hb C.2.1 hd) rfl) k
theorem own_ixor (C : own_Cx Z a0 p l e R s m args below meth c own nm bytes mx ret) (A : own_At p l e R s m args below meth c T h n0 kc ks) {x y : Int32} (hd : decode bytes pc = .ok (.ixor, 1))  (hq : pc + 1 = q) (k : own_Go p.tables e below (T.setTop (mkF m q Ls (.int (x ^^^ y) :: st))) Q) :
    own_Go p.tables e below (T.setTop (mkF m pc Ls (.int y :: .int x :: st))) Q := by
  subst hq
  exact own_go (fun t => XS.ixor (own_here A) C.1 rfl (hb C.2.1 hd) rfl) k
theorem own_ishl (C : own_Cx Z a0 p l e R s m args below meth c own nm bytes mx ret) (A : own_At p l e R s m args below meth c T h n0 kc ks) {x y : Int32} (hd : decode bytes pc = .ok (.ishl, 1))  (hq : pc + 1 = q) (k : own_Go p.tables e below (T.setTop (mkF m q Ls (.int (x <<< (y &&& 31)) :: st))) Q) :
    own_Go p.tables e below (T.setTop (mkF m pc Ls (.int y :: .int x :: st))) Q := by
  subst hq
  exact own_go (fun t => XS.ishl (own_here A) C.1 rfl (hb C.2.1 hd) rfl) k
theorem own_ishr (C : own_Cx Z a0 p l e R s m args below meth c own nm bytes mx ret) (A : own_At p l e R s m args below meth c T h n0 kc ks) {x y : Int32} (hd : decode bytes pc = .ok (.ishr, 1))  (hq : pc + 1 = q) (k : own_Go p.tables e below (T.setTop (mkF m q Ls (.int (x >>> (y &&& 31)) :: st))) Q) :
    own_Go p.tables e below (T.setTop (mkF m pc Ls (.int y :: .int x :: st))) Q := by
  subst hq
  exact own_go (fun t => XS.ishr (own_here A) C.1 rfl (hb C.2.1 hd) rfl) k
theorem own_iushr (C : own_Cx Z a0 p l e R s m args below meth c own nm bytes mx ret) (A : own_At p l e R s m args below meth c T h n0 kc ks) {x y : Int32} (hd : decode bytes pc = .ok (.iushr, 1))  (hq : pc + 1 = q) (k : own_Go p.tables e below (T.setTop (mkF m q Ls (.int ((x.toUInt32 >>> (y &&& 31).toUInt32).toInt32) :: st))) Q) :
    own_Go p.tables e below (T.setTop (mkF m pc Ls (.int y :: .int x :: st))) Q := by
  subst hq
  exact own_go (fun t => XS.iushr (own_here A) C.1 rfl (hb C.2.1 hd) rfl) k
theorem own_ladd (C : own_Cx Z a0 p l e R s m args below meth c own nm bytes mx ret) (A : own_At p l e R s m args below meth c T h n0 kc ks) {x y : Int64} (hd : decode bytes pc = .ok (.ladd, 1))  (hq : pc + 1 = q) (k : own_Go p.tables e below (T.setTop (mkF m q Ls (.long (x + y) :: st))) Q) :
    own_Go p.tables e below (T.setTop (mkF m pc Ls (.long y :: .long x :: st))) Q := by
  subst hq
  exact own_go (fun t => XS.ladd (own_here A) C.1 rfl (hb C.2.1 hd) rfl) k
theorem own_lsub (C : own_Cx Z a0 p l e R s m args below meth c own nm bytes mx ret) (A : own_At p l e R s m args below meth c T h n0 kc ks) {x y : Int64} (hd : decode bytes pc = .ok (.lsub, 1))  (hq : pc + 1 = q) (k : own_Go p.tables e below (T.setTop (mkF m q Ls (.long (x - y) :: st))) Q) :
    own_Go p.tables e below (T.setTop (mkF m pc Ls (.long y :: .long x :: st))) Q := by
  subst hq
  exact own_go (fun t => XS.lsub (own_here A) C.1 rfl (hb C.2.1 hd) rfl) k
theorem own_lmul (C : own_Cx Z a0 p l e R s m args below meth c own nm bytes mx ret) (A : own_At p l e R s m args below meth c T h n0 kc ks) {x y : Int64} (hd : decode bytes pc = .ok (.lmul, 1))  (hq : pc + 1 = q) (k : own_Go p.tables e below (T.setTop (mkF m q Ls (.long (x * y) :: st))) Q) :
    own_Go p.tables e below (T.setTop (mkF m pc Ls (.long y :: .long x :: st))) Q := by
  subst hq
  exact own_go (fun t => XS.lmul (own_here A) C.1 rfl (hb C.2.1 hd) rfl) k
theorem own_land (C : own_Cx Z a0 p l e R s m args below meth c own nm bytes mx ret) (A : own_At p l e R s m args below meth c T h n0 kc ks) {x y : Int64} (hd : decode bytes pc = .ok (.land, 1))  (hq : pc + 1 = q) (k : own_Go p.tables e below (T.setTop (mkF m q Ls (.long (x &&& y) :: st))) Q) :
    own_Go p.tables e below (T.setTop (mkF m pc Ls (.long y :: .long x :: st))) Q := by
  subst hq
  exact own_go (fun t => XS.land (own_here A) C.1 rfl (hb C.2.1 hd) rfl) k
theorem own_lor (C : own_Cx Z a0 p l e R s m args below meth c own nm bytes mx ret) (A : own_At p l e R s m args below meth c T h n0 kc ks) {x y : Int64} (hd : decode bytes pc = .ok (.lor, 1))  (hq : pc + 1 = q) (k : own_Go p.tables e below (T.setTop (mkF m q Ls (.long (x ||| y) :: st))) Q) :
    own_Go p.tables e below (T.setTop (mkF m pc Ls (.long y :: .long x :: st))) Q := by
  subst hq
  exact own_go (fun t => XS.lor (own_here A) C.1 rfl (hb C.2.1 hd) rfl) k
theorem own_lxor (C : own_Cx Z a0 p l e R s m args below meth c own nm bytes mx ret) (A : own_At p l e R s m args below meth c T h n0 kc ks) {x y : Int64} (hd : decode bytes pc = .ok (.lxor, 1))  (hq : pc + 1 = q) (k : own_Go p.tables e below (T.setTop (mkF m q Ls (.long (x ^^^ y) :: st))) Q) :
    own_Go p.tables e below (T.setTop (mkF m pc Ls (.long y :: .long x :: st))) Q := by
  subst hq
  exact own_go (fun t => XS.lxor (own_here A) C.1 rfl (hb C.2.1 hd) rfl) k
theorem own_lshl (C : own_Cx Z a0 p l e R s m args below meth c own nm bytes mx ret) (A : own_At p l e R s m args below meth c T h n0 kc ks) {x : Int64} {y : Int32} (hd : decode bytes pc = .ok (.lshl, 1))  (hq : pc + 1 = q) (k : own_Go p.tables e below (T.setTop (mkF m q Ls (.long (x <<< (y &&& 0x3f).toInt64) :: st))) Q) :
    own_Go p.tables e below (T.setTop (mkF m pc Ls (.int y :: .long x :: st))) Q := by
  subst hq
  exact own_go (fun t => XS.lshl (own_here A) C.1 rfl (hb C.2.1 hd) rfl) k
theorem own_lshr (C : own_Cx Z a0 p l e R s m args below meth c own nm bytes mx ret) (A : own_At p l e R s m args below meth c T h n0 kc ks) {x : Int64} {y : Int32} (hd : decode bytes pc = .ok (.lshr, 1))  (hq : pc + 1 = q) (k : own_Go p.tables e below (T.setTop (mkF m q Ls (.long (x >>> (y &&& 0x3f).toInt64) :: st))) Q) :
    own_Go p.tables e below (T.setTop (mkF m pc Ls (.int y :: .long x :: st))) Q := by
  subst hq
  exact own_go (fun t => XS.lshr (own_here A) C.1 rfl (hb C.2.1 hd) rfl) k
theorem own_lushr (C : own_Cx Z a0 p l e R s m args below meth c own nm bytes mx ret) (A : own_At p l e R s m args below meth c T h n0 kc ks) {x : Int64} {y : Int32} (hd : decode bytes pc = .ok (.lushr, 1))  (hq : pc + 1 = q) (k : own_Go p.tables e below (T.setTop (mkF m q Ls (.long ((x.toUInt64 >>> (y &&& 0x3f).toInt64.toUInt64).toInt64) :: st))) Q) :
    own_Go p.tables e below (T.setTop (mkF m pc Ls (.int y :: .long x :: st))) Q := by
  subst hq
  exact own_go (fun t => XS.lushr (own_here A) C.1 rfl (hb C.2.1 hd) rfl) k
theorem own_irem (C : own_Cx Z a0 p l e R s m args below meth c own nm bytes mx ret) (A : own_At p l e R s m args below meth c T h n0 kc ks) {x y : Int32} (hd : decode bytes pc = .ok (.irem, 1)) (hy : y ≠ 0) (hq : pc + 1 = q) (k : own_Go p.tables e below (T.setTop (mkF m q Ls (.int (x % y) :: st))) Q) :
    own_Go p.tables e below (T.setTop (mkF m pc Ls (.int y :: .int x :: st))) Q := by
  obtain ⟨_, _, _, X, _⟩ := A
  subst hq
  exact own_go (fun t => iremM (g := mkF m pc Ls (.int y :: .int x :: st)) X C.1 rfl (hb C.2.1 hd) rfl hy) k
theorem own_lrem (C : own_Cx Z a0 p l e R s m args below meth c own nm bytes mx ret) (A : own_At p l e R s m args below meth c T h n0 kc ks) {x y : Int64} (hd : decode bytes pc = .ok (.lrem, 1)) (hy : y ≠ 0) (hq : pc + 1 = q) (k : own_Go p.tables e below (T.setTop (mkF m q Ls (.long (x % y) :: st))) Q) :
    own_Go p.tables e below (T.setTop (mkF m pc Ls (.long y :: .long x :: st))) Q := by
  subst hq
  rw [← lrem_mod x y] at k
  exact own_go (fun t => XS.lrem (own_here A) C.1 rfl (hb C.2.1 hd) rfl hy) k
theorem own_idiv (C : own_Cx Z a0 p l e R s m args below meth c own nm bytes mx ret) (A : own_At p l e R s m args below meth c T h n0 kc ks) {x y : Int32} (hd : decode bytes pc = .ok (.idiv, 1)) (hy : y ≠ 0) (hq : pc + 1 = q) (k : own_Go p.tables e below (T.setTop (mkF m q Ls (.int (x / y) :: st))) Q) :
    own_Go p.tables e below (T.setTop (mkF m pc Ls (.int y :: .int x :: st))) Q := by
  subst hq
  exact own_go (fun t => XS.idiv (own_here A) C.1 rfl (hb C.2.1 hd) rfl hy) k
theorem own_ldiv (C : own_Cx Z a0 p l e R s m args below meth c own nm bytes mx ret) (A : own_At p l e R s m args below meth c T h n0 kc ks) {x y : Int64} (hd : decode bytes pc = .ok (.ldiv, 1)) (hy : y ≠ 0) (hq : pc + 1 = q) (k : own_Go p.tables e below (T.setTop (mkF m q Ls (.long (x / y) :: st))) Q) :
    own_Go p.tables e below (T.setTop (mkF m pc Ls (.long y :: .long x :: st))) Q := by
  subst hq
  exact own_go (fun t => XS.ldiv (own_here A) C.1 rfl (hb C.2.1 hd) rfl hy) k
theorem own_ineg (C : own_Cx Z a0 p l e R s m args below meth c own nm bytes mx ret) (A : own_At p l e R s m args below meth c T h n0 kc ks) {x : Int32} (hd : decode bytes pc = .ok (.ineg, 1))  (hq : pc + 1 = q) (k : own_Go p.tables e below (T.setTop (mkF m q Ls (.int (-x) :: st))) Q) :
    own_Go p.tables e below (T.setTop (mkF m pc Ls (.int x :: st))) Q := by
  subst hq
  exact own_go (fun t => XS.ineg (own_here A) C.1 rfl (hb C.2.1 hd) rfl) k
theorem own_lneg (C : own_Cx Z a0 p l e R s m args below meth c own nm bytes mx ret) (A : own_At p l e R s m args below meth c T h n0 kc ks) {x : Int64} (hd : decode bytes pc = .ok (.lneg, 1))  (hq : pc + 1 = q) (k : own_Go p.tables e below (T.setTop (mkF m q Ls (.long (-x) :: st))) Q) :
    own_Go p.tables e below (T.setTop (mkF m pc Ls (.long x :: st))) Q := by
  subst hq
  exact own_go (fun t => XS.lneg (own_here A) C.1 rfl (hb C.2.1 hd) rfl) k
theorem own_i2b (C : own_Cx Z a0 p l e R s m args below meth c own nm bytes mx ret) (A : own_At p l e R s m args below meth c T h n0 kc ks) {x : Int32} (hd : decode bytes pc = .ok (.i2b, 1))  (hq : pc + 1 = q) (k : own_Go p.tables e below (T.setTop (mkF m q Ls (.int (x.toInt8.toInt32) :: st))) Q) :
    own_Go p.tables e below (T.setTop (mkF m pc Ls (.int x :: st))) Q := by
  subst hq
  exact own_go (fun t => XS.i2b (own_here A) C.1 rfl (hb C.2.1 hd) rfl) k
theorem own_i2c (C : own_Cx Z a0 p l e R s m args below meth c own nm bytes mx ret) (A : own_At p l e R s m args below meth c T h n0 kc ks) {x : Int32} (hd : decode bytes pc = .ok (.i2c, 1))  (hq : pc + 1 = q) (k : own_Go p.tables e below (T.setTop (mkF m q Ls (.int (x.toUInt32.toUInt16.toUInt32.toInt32) :: st))) Q) :
    own_Go p.tables e below (T.setTop (mkF m pc Ls (.int x :: st))) Q := by
  subst hq
  exact own_go (fun t => XS.i2c (own_here A) C.1 rfl (hb C.2.1 hd) rfl) k
theorem own_i2s (C : own_Cx Z a0 p l e R s m args below meth c own nm bytes mx ret) (A : own_At p l e R s m args below meth c T h n0 kc ks) {x : Int32} (hd : decode bytes pc = .ok (.i2s, 1))  (hq : pc + 1 = q) (k : own_Go p.tables e below (T.setTop (mkF m q Ls (.int (x.toInt16.toInt32) :: st))) Q) :
    own_Go p.tables e below (T.setTop (mkF m pc Ls (.int x :: st))) Q := by
  subst hq
  exact own_go (fun t => XS.i2s (own_here A) C.1 rfl (hb C.2.1 hd) rfl) k
theorem own_i2l (C : own_Cx Z a0 p l e R s m args below meth c own nm bytes mx ret) (A : own_At p l e R s m args below meth c T h n0 kc ks) {x : Int32} (hd : decode bytes pc = .ok (.i2l, 1))  (hq : pc + 1 = q) (k : own_Go p.tables e below (T.setTop (mkF m q Ls (.long x.toInt64 :: st))) Q) :
    own_Go p.tables e below (T.setTop (mkF m pc Ls (.int x :: st))) Q := by
  subst hq
  exact own_go (fun t => XS.i2l (own_here A) C.1 rfl (hb C.2.1 hd) rfl) k
theorem own_l2i (C : own_Cx Z a0 p l e R s m args below meth c own nm bytes mx ret) (A : own_At p l e R s m args below meth c T h n0 kc ks) {x : Int64} (hd : decode bytes pc = .ok (.l2i, 1))  (hq : pc + 1 = q) (k : own_Go p.tables e below (T.setTop (mkF m q Ls (.int x.toInt32 :: st))) Q) :
    own_Go p.tables e below (T.setTop (mkF m pc Ls (.long x :: st))) Q := by
  subst hq
  exact own_go (fun t => XS.l2i (own_here A) C.1 rfl (hb C.2.1 hd) rfl) k
theorem own_lcmp (C : own_Cx Z a0 p l e R s m args below meth c own nm bytes mx ret) (A : own_At p l e R s m args below meth c T h n0 kc ks) {x y : Int64} (hd : decode bytes pc = .ok (.lcmp, 1))  (hq : pc + 1 = q) (k : own_Go p.tables e below (T.setTop (mkF m q Ls (.int (Jvm.Free.XT.cmpL x y) :: st))) Q) :
    own_Go p.tables e below (T.setTop (mkF m pc Ls (.long y :: .long x :: st))) Q := by
  subst hq
  exact own_go (fun t => Jvm.Free.XT.lcmp (own_here A) C.1 rfl (hb C.2.1 hd) rfl) k
theorem own_iinc (C : own_Cx Z a0 p l e R s m args below meth c own nm bytes mx ret) (A : own_At p l e R s m args below meth c T h n0 kc ks) {k' : Nat} {i : Int} {x : Int32} {l' : Array Slot} (hd : decode bytes pc = .ok (.iinc k' i, 3)) (hl : Ls[k']? = some (.val (.int x))) (hl' : storeLocals Ls k' (.int (x + Int32.ofInt i)) = some l') (hq : pc + 3 = q) (k : own_Go p.tables e below (T.setTop (mkF m q l' st)) Q) :
    own_Go p.tables e below (T.setTop (mkF m pc Ls st)) Q := by
  subst hq
  exact own_go (fun t => XS.iinc (own_here A) C.1 rfl (hb C.2.1 hd) hl hl') k
theorem own_istoreX (C : own_Cx Z a0 p l e R s m args below meth c own nm bytes mx ret) (A : own_At p l e R s m args below meth c T h n0 kc ks) {k' : Nat} {x : Int32} {o : Slot} {l' : Array Slot} (hd : decode bytes pc = .ok (.istore k', 2)) (hold : Ls[k']? = some o) (ho : One o) (hl : Ls.setIfInBounds k' (.val (.int x)) = l') (hq : pc + 2 = q) (k : own_Go p.tables e below (T.setTop (mkF m q l' st)) Q) :
    own_Go p.tables e below (T.setTop (mkF m pc Ls (.int x :: st))) Q := by
  subst hq hl
  exact own_go (fun t => XS.istoreS (own_here A) C.1 rfl (hb C.2.1 hd) rfl hold ho) k
theorem own_pop (C : own_Cx Z a0 p l e R s m args below meth c own nm bytes mx ret) (A : own_At p l e R s m args below meth c T h n0 kc ks) {x : Value} (hd : decode bytes pc = .ok (.pop, 1)) (hc : x.category = 1) (hq : pc + 1 = q) (k : own_Go p.tables e below (T.setTop (mkF m q Ls st)) Q) :
    own_Go p.tables e below (T.setTop (mkF m pc Ls (x :: st))) Q := by
  subst hq
  exact own_go (fun t => XS.pop (own_here A) C.1 rfl (hb C.2.1 hd) rfl hc) k
theorem own_dup (C : own_Cx Z a0 p l e R s m args below meth c own nm bytes mx ret) (A : own_At p l e R s m args below meth c T h n0 kc ks) {x : Value} (hd : decode bytes pc = .ok (.dup, 1)) (hc : x.category = 1) (hq : pc + 1 = q) (k : own_Go p.tables e below (T.setTop (mkF m q Ls (x :: x :: st))) Q) :
    own_Go p.tables e below (T.setTop (mkF m pc Ls (x :: st))) Q := by
  subst hq
  exact own_go (fun t => XS.dup (own_here A) C.1 rfl (hb C.2.1 hd) rfl hc) k
theorem own_dupX1 (C : own_Cx Z a0 p l e R s m args below meth c own nm bytes mx ret) (A : own_At p l e R s m args below meth c T h n0 kc ks) {x y : Value} (hd : decode bytes pc = .ok (.dup_x1, 1)) (hc : x.category = 1) (hc' : y.category = 1) (hq : pc + 1 = q) (k : own_Go p.tables e below (T.setTop (mkF m q Ls (x :: y :: x :: st))) Q) :
    own_Go p.tables e below (T.setTop (mkF m pc Ls (x :: y :: st))) Q := by
  subst hq
  exact own_go (fun t => XS.dupX1 (own_here A) C.1 rfl (hb C.2.1 hd) rfl hc hc') k
theorem own_dup2L (C : own_Cx Z a0 p l e R s m args below meth c own nm bytes mx ret) (A : own_At p l e R s m args below meth c T h n0 kc ks) {x : Int64} (hd : decode bytes pc = .ok (.dup2, 1))  (hq : pc + 1 = q) (k : own_Go p.tables e below (T.setTop (mkF m q Ls (.long x :: .long x :: st))) Q) :
    own_Go p.tables e below (T.setTop (mkF m pc Ls (.long x :: st))) Q := by
  subst hq
  exact own_go (fun t => Jvm.Free.XT.dup2L (own_here A) C.1 rfl (hb C.2.1 hd) rfl) k
theorem own_dup2 (C : own_Cx Z a0 p l e R s m args below meth c own nm bytes mx ret) (A : own_At p l e R s m args below meth c T h n0 kc ks) {x y : Value} (hd : decode bytes pc = .ok (.dup2, 1)) (hc : x.category = 1) (hc' : y.category = 1) (hq : pc + 1 = q) (k : own_Go p.tables e below (T.setTop (mkF m q Ls (x :: y :: x :: y :: st))) Q) :
    own_Go p.tables e below (T.setTop (mkF m pc Ls (x :: y :: st))) Q := by
  subst hq
  exact own_go (fun t => Jvm.Free.XT.dup2 (own_here A) C.1 rfl (hb C.2.1 hd) rfl hc hc') k
theorem own_goto (C : own_Cx Z a0 p l e R s m args below meth c own nm bytes mx ret) (A : own_At p l e R s m args below meth c T h n0 kc ks) {i : Int} (hd : decode bytes pc = .ok (.goto i, 3)) (ho : 0 ≤ (pc : Int) + i) (hq : ((pc : Int) + i).toNat = q) (k : own_Go p.tables e below (T.setTop (mkF m q Ls st)) Q) :
    own_Go p.tables e below (T.setTop (mkF m pc Ls st)) Q := own_go (fun t => XS.goto (own_here A) C.1 rfl rfl (hb C.2.1 hd) ho hq) k
theorem own_icmpY (C : own_Cx Z a0 p l e R s m args below meth c own nm bytes mx ret) (A : own_At p l e R s m args below meth c T h n0 kc ks) {cd : ClassFile.Cond} {i : Int} {x y : Int32} (hd : decode bytes pc = .ok (.if_icmp cd i, 3)) (hc : if_icmp.holds cd x y = true) (ho : 0 ≤ (pc : Int) + i) (hq : ((pc : Int) + i).toNat = q) (k : own_Go p.tables e below (T.setTop (mkF m q Ls st)) Q) :
    own_Go p.tables e below (T.setTop (mkF m pc Ls (.int y :: .int x :: st))) Q := own_go (fun t => XS.icmpYes (own_here A) C.1 rfl rfl (hb C.2.1 hd) rfl hc ho hq) k
theorem own_icmpN (C : own_Cx Z a0 p l e R s m args below meth c own nm bytes mx ret) (A : own_At p l e R s m args below meth c T h n0 kc ks) {cd : ClassFile.Cond} {i : Int} {x y : Int32} (hd : decode bytes pc = .ok (.if_icmp cd i, 3)) (hc : if_icmp.holds cd x y = false) (hq : pc + 3 = q) (k : own_Go p.tables e below (T.setTop (mkF m q Ls st)) Q) :
    own_Go p.tables e below (T.setTop (mkF m pc Ls (.int y :: .int x :: st))) Q := by
  subst hq
  exact own_go (fun t => XS.icmpNo (own_here A) C.1 rfl (hb C.2.1 hd) rfl hc) k
theorem own_ifY (C : own_Cx Z a0 p l e R s m args below meth c own nm bytes mx ret) (A : own_At p l e R s m args below meth c T h n0 kc ks) {cd : ClassFile.Cond} {i : Int} {x : Int32} (hd : decode bytes pc = .ok (.ifCond cd i, 3)) (hc : ifCond.holds cd x = true) (ho : 0 ≤ (pc : Int) + i) (hq : ((pc : Int) + i).toNat = q) (k : own_Go p.tables e below (T.setTop (mkF m q Ls st)) Q) :
    own_Go p.tables e below (T.setTop (mkF m pc Ls (.int x :: st))) Q := own_go (fun t => XS.ifYes (own_here A) C.1 rfl rfl (hb C.2.1 hd) rfl hc ho hq) k
theorem own_ifN (C : own_Cx Z a0 p l e R s m args below meth c own nm bytes mx ret) (A : own_At p l e R s m args below meth c T h n0 kc ks) {cd : ClassFile.Cond} {i : Int} {x : Int32} (hd : decode bytes pc = .ok (.ifCond cd i, 3)) (hc : ifCond.holds cd x = false) (hq : pc + 3 = q) (k : own_Go p.tables e below (T.setTop (mkF m q Ls st)) Q) :
    own_Go p.tables e below (T.setTop (mkF m pc Ls (.int x :: st))) Q := by
  subst hq
  exact own_go (fun t => XS.ifNo (own_here A) C.1 rfl (hb C.2.1 hd) rfl hc) k
theorem own_ldcI (C : own_Cx Z a0 p l e R s m args below meth c own nm bytes mx ret) (A : own_At p l e R s m args below meth c T h n0 kc ks) {i : Nat} {v : Int32} (w : (Jvm.Cond.constant own i v).before a0 Z = true) (hd : decode bytes pc = .ok (.ldc i, 2)) (hq : pc + 2 = q) (k : own_Go p.tables e below (T.setTop (mkF m q Ls (.int v :: st))) Q) :
    own_Go p.tables e below (T.setTop (mkF m pc Ls st)) Q := by
  obtain ⟨_, _, _, X, _⟩ := A
  subst hq
  exact own_go (X.ldcInt C.1 C.2.2.2.1 (mvT C.2.2.2.2.1 w) (g := mkF m pc Ls st) rfl (hb C.2.1 hd)) k
theorem own_ldcJ (C : own_Cx Z a0 p l e R s m args below meth c own nm bytes mx ret) (A : own_At p l e R s m args below meth c T h n0 kc ks) {i : Nat} {v : Int64} (w : (Jvm.Cond.constantLong own i v).before a0 Z = true) (hd : decode bytes pc = .ok (.ldc2_w i, 3)) (hq : pc + 3 = q) (k : own_Go p.tables e below (T.setTop (mkF m q Ls (.long v :: st))) Q) :
    own_Go p.tables e below (T.setTop (mkF m pc Ls st)) Q := by
  obtain ⟨_, _, _, X, _⟩ := A
  subst hq
  exact own_go (X.ldc2Long C.1 C.2.2.2.1 (mvT C.2.2.2.2.1 w) (g := mkF m pc Ls st) rfl (hb C.2.1 hd)) k
theorem own_retI {z : Int32} (C : own_Cx Z a0 p l e R s m args below meth c own nm bytes mx (some .int)) (A : own_At p l e R s m args below meth c T h n0 kc ks) {P : Option Value → Heap → Prop}  (hd : decode bytes pc = .ok (.ireturn, 1)) (hP : P (some (.int z)) h) :
    own_Go p.tables e below (T.setTop (mkF m pc Ls [.int z])) (own_QR s n0 kc ks P) := by
  obtain ⟨locs, cells, slots, X, eT, N, hc, hs, hn⟩ := A
  have hr' := C.2.2.2.2.2.2.1
  obtain ⟨fs, hr, hrun, hended, hW, hsame⟩ := X.leave (v := (some (.int z))) (fun hh => by first | rfl | (rw [hr'] at hh; cases hh)) C.2.2.2.2.2.2.2.1
  have eF : (T.setFrames fs).heap = h := eT
  exact ⟨_, _, X.ireturnOut C.1 hr' rfl (Or.inl rfl) (hb C.2.1 hd) hr, hrun, hended, _, locs, rfl, ⟨by rw [eF]; exact hP, N⟩, ⟨_, rfl⟩, hW, hsame.mono hc hs⟩
theorem own_retJ {z : Int64} (C : own_Cx Z a0 p l e R s m args below meth c own nm bytes mx (some .long)) (A : own_At p l e R s m args below meth c T h n0 kc ks) {P : Option Value → Heap → Prop}  (hd : decode bytes pc = .ok (.lreturn, 1)) (hP : P (some (.long z)) h) :
    own_Go p.tables e below (T.setTop (mkF m pc Ls [.long z])) (own_QR s n0 kc ks P) := by
  obtain ⟨locs, cells, slots, X, eT, N, hc, hs, hn⟩ := A
  have hr' := C.2.2.2.2.2.2.1
  obtain ⟨fs, hr, hrun, hended, hW, hsame⟩ := X.leave (v := (some (.long z))) (fun hh => by first | rfl | (rw [hr'] at hh; cases hh)) C.2.2.2.2.2.2.2.1
  have eF : (T.setFrames fs).heap = h := eT
  exact ⟨_, _, X.lreturnOut C.1 hr' (hb C.2.1 hd) hr, hrun, hended, _, locs, rfl, ⟨by rw [eF]; exact hP, N⟩, ⟨_, rfl⟩, hW, hsame.mono hc hs⟩
theorem own_retA {a : Addr} {t : FieldType} (C : own_Cx Z a0 p l e R s m args below meth c own nm bytes mx (some t)) (A : own_At p l e R s m args below meth c T h n0 kc ks) {P : Option Value → Heap → Prop} (hta : t.isReference = true) (hna : narrow t (.ref a) = .ref a) (hd : decode bytes pc = .ok (.areturn, 1)) (hP : P (some (.ref a)) h) :
    own_Go p.tables e below (T.setTop (mkF m pc Ls (.ref a :: st))) (own_QR s n0 kc ks P) := by
  obtain ⟨locs, cells, slots, X, eT, N, hc, hs, hn⟩ := A
  have hr' := C.2.2.2.2.2.2.1
  obtain ⟨fs, hr, hrun, hended, hW, hsame⟩ := X.leave (v := (some (.ref a))) (fun hh => by first | rfl | (rw [hr'] at hh; cases hh)) C.2.2.2.2.2.2.2.1
  have eF : (T.setFrames fs).heap = h := eT
  exact ⟨_, _, retOut X C.1 hr' hna (Or.inr (Or.inr (Or.inr (Or.inr ⟨rfl, hta, rfl⟩)))) (hb C.2.1 hd) hr, hrun, hended, _, locs, rfl, ⟨by rw [eF]; exact hP, N⟩, ⟨_, rfl⟩, hW, hsame.mono hc hs⟩
theorem own_ret0  (C : own_Cx Z a0 p l e R s m args below meth c own nm bytes mx none) (A : own_At p l e R s m args below meth c T h n0 kc ks) {P : Option Value → Heap → Prop}  (hd : decode bytes pc = .ok (.return_, 1)) (hP : P none h) :
    own_Go p.tables e below (T.setTop (mkF m pc Ls [])) (own_QR s n0 kc ks P) := by
  obtain ⟨locs, cells, slots, X, eT, N, hc, hs, hn⟩ := A
  have hr' := C.2.2.2.2.2.2.1
  obtain ⟨fs, hr, hrun, hended, hW, hsame⟩ := X.leave (v := none) (fun hh => by first | rfl | (rw [hr'] at hh; cases hh)) C.2.2.2.2.2.2.2.1
  have eF : (T.setFrames fs).heap = h := eT
  exact ⟨_, _, X.returnOut C.1 hr' (hb C.2.1 hd) hr, hrun, hended, _, locs, rfl, ⟨by rw [eF]; exact hP, N⟩, ⟨_, rfl⟩, hW, hsame.mono hc hs⟩
theorem own_retN {z : Int32} {t : FieldType} (C : own_Cx Z a0 p l e R s m args below meth c own nm bytes mx (some t)) (A : own_At p l e R s m args below meth c T h n0 kc ks) {P : Option Value → Heap → Prop} (ht : t = .boolean ∨ t = .byte ∨ t = .char ∨ t = .short) (hd : decode bytes pc = .ok (.ireturn, 1)) (hP : P (some (.int (nar t z))) h) :
    own_Go p.tables e below (T.setTop (mkF m pc Ls (.int z :: st))) (own_QR s n0 kc ks P) := by
  obtain ⟨locs, cells, slots, X, eT, N, hc, hs, hn⟩ := A
  have hr' := C.2.2.2.2.2.2.1
  obtain ⟨fs, hr, hrun, hended, hW, hsame⟩ := X.leave (v := (some (.int (nar t z)))) (fun hh => by first | rfl | (rw [hr'] at hh; cases hh)) C.2.2.2.2.2.2.2.1
  have eF : (T.setFrames fs).heap = h := eT
  exact ⟨_, _, retN X C.1 hr' ht (hb C.2.1 hd) hr, hrun, hended, _, locs, rfl, ⟨by rw [eF]; exact hP, N⟩, ⟨_, rfl⟩, hW, hsame.mono hc hs⟩
theorem own_met {y : MethodName} {ws : List Jvm.Cond} {as' : Array Value} {P : Option Value → Heap → Prop} (hpl : plainFor y = true) (hw : ∀ d ∈ tables_1, d.before a0 Z = true) (hn : n0 ≤ h.size) (hef : ∀ m, entryFrame m as' mx = mkF m 0 Ls [])
    (body : ∀ p e s m below meth c T, own_Cx Z a0 p l e R s m as' below meth c y.cls y.name bytes mx ret → own_At p l e R s m as' below meth c T h n0 0 0 → own_Go p.tables e below (T.setTop (mkF m 0 Ls [])) (own_QR s n0 kc ks P)) :
    MetFree l y (head1 (Jvm.Cond.code y bytes mx ret :: ws) R) (fun a U => a = as' ∧ Z.Warmed39 U.vm ∧ U.heap = h) (fun _ _ _ _ _ => True) (fun _ U o U' => own_QR U n0 kc ks P o U') := by
  refine MetFree.of_bodySF hpl hisR ?_
  intro p e s m args below meth c s₁ Bd hml0 hP hK
  obtain ⟨rfl, hZ, hh⟩ := hP
  have C : own_Cx Z a0 p l e R s m args below meth c y.cls y.name bytes mx ret := ⟨Bd.exec, Bd.bytes, hml0, findClass_of_methodNamed Bd.named, hZ, (name_of_methodNamed Bd.named Bd.method).1, Bd.returns, Bd.notSynchronized, hw⟩
  have A : own_At p l e R s m args below meth c s₁ h n0 0 0 := ⟨[], 0, 0, Stand.of_body Bd, by rw [← hh, Bd.state]; rfl, Fr.nil n0, Nat.le_refl _, Nat.le_refl _, hn⟩
  have k := body p e s m below meth c s₁ C A
  rw [← hef m] at k
  exact k
theorem own_backQ {y : MethodName} {by' : ByteArray} {mx' : Nat} {rt : Option FieldType} {rm : Room} {as' : Array Value} {P : Option Value → Heap → Prop} (hM : MetFree l y (head1 [Jvm.Cond.code y by' mx' rt] rm) (fun a U => a = as' ∧ Z.Warmed39 U.vm ∧ U.heap = h) (fun _ _ _ _ _ => True) (fun _ U o U' => own_QR U n0 rm.cells rm.slots P o U')) :
    MetFree l y (head1 [Jvm.Cond.code y by' mx' rt] rm) (fun a U => a = as' ∧ Z.Warmed39 U.vm ∧ U.heap = h) (fun _ _ _ _ _ => True) (fun _ U o U' => ∃ v L, o = .returned v ∧ (P v U'.heap ∧ Fr n0 L ∧ h.size ≤ U'.heap.size) ∧ FrameEnd U o U' L rm.cells rm.slots) := by
  intro p e ha hc hk s m args below hf happ hP hK
  obtain ⟨n, o, h1, h2, h3, v, L, e1, ⟨hp, hl⟩, hF⟩ := hM p e ha hc hk s m args below hf happ hP hK
  refine ⟨n, o, h1, h2, h3, v, L, e1, ⟨hp, hl, ?_⟩, hF⟩
  have := hF.2.2.2.1
  rw [← hP.2.2]
  exact this
theorem own_callS (C : own_Cx Z a0 p l e R s m args below meth c own nm bytes mx ret) (A : own_At p l e R s m args below meth c T h n0 kc ks) {i : Nat} {y : MethodName} {by' : ByteArray} {mx' : Nat} {rt : Option FieldType} {rm : Room} (W : Nat) {as' : Array Value} (argsL rest : List Value) {P : Option Value → Heap → Prop} (w1 : (Jvm.Cond.methodLink own i y).before a0 Z = true) (w2 : (Jvm.Cond.static y).before a0 Z = true) (w3 : (Jvm.Cond.initialized y.cls).before a0 Z = true) (w4 : (Jvm.Cond.code y by' mx' rt).before a0 Z = true) (hy : y.cls ≠ "java/lang/invoke/MethodHandle" ∧ y.cls ≠ "java/lang/invoke/VarHandle")
    (hM : MetFree l y (head1 [Jvm.Cond.code y by' mx' rt] rm) (fun a U => a = as' ∧ Z.Warmed39 U.vm ∧ U.heap = h) (fun _ _ _ _ _ => True) (fun _ U o U' => own_QR U n0 rm.cells rm.slots P o U'))
    (hf : rm.frames + 1 ≤ R.frames) (hl : W + (mx' + 11) + rm.locals ≤ R.locals) (hc : kc + rm.cells ≤ R.cells) (hs : ks + rm.slots ≤ R.slots) {ps : List FieldType} (hpd : parseMethodDescriptor y.desc = some ⟨ps, rt⟩) (hlen : argsL.length = ps.length) (has : argsL.toArray = as') (hst : st = argsL.reverse ++ rest) (hW : (rest.map fun v => v.category).sum ≤ W) (hsz : Ls.size = mx) (hd : decode bytes pc = .ok (.invokestatic i, 3)) (hq : pc + 3 = q)
    (k : ∀ v T' h', P v h' → own_At p l e R s m args below meth c T' h' n0 (kc + rm.cells) (ks + rm.slots) → own_Go p.tables e below (T'.setTop (mkF m q Ls (v.toList ++ rest))) Q) :
    own_Go p.tables e below (T.setTop (mkF m pc Ls st)) Q := by
  obtain ⟨locs, cells, slots, X, eT, N, hc', hs', hn⟩ := A
  obtain ⟨v, _, ⟨T', L', k', n'⟩, -, X', ⟨Lc, hQ, hB1, hB2, hB3⟩, st'⟩ := Jvm.LawKit.callS X C.1 (y := y) C.2.2.2.1 (mvT C.2.2.2.2.1 w1) (mvT C.2.2.2.2.1 w2) (mvT C.2.2.2.2.1 w3) (mvT C.2.2.2.2.1 w4) hy (backOf (W := W) (Q := fun v h' L => P v h' ∧ Fr n0 L ∧ h.size ≤ h'.size) (own_backQ hM) C.2.2.2.2.1 w4 w3 hf hl) (g := mkF m pc Ls st) rfl (by rw [C.2.2.1]; exact hsz) (argsL := argsL) (rest := rest) (lenOf hpd hlen) hst (by show 2 * 0 + _ ≤ _; omega) (hb C.2.1 hd) (fun _ _ => ⟨has, eT, Nat.le_trans (Nat.add_le_add_right hc' _) hc, Nat.le_trans (Nat.add_le_add_right hs' _) hs⟩)
  dsimp only [Pt.U, Pt.locs, Pt.cells, Pt.slots] at X' hB1 hB2 hB3 st' hQ
  subst hq hB1 hB2 hB3
  exact own_go st' (k v T' T'.heap hQ.1 ⟨_, _, _, X', rfl, N.app hQ.2.1, by omega, by omega, Nat.le_trans hn hQ.2.2⟩)
theorem own_callC (C : own_Cx Z a0 p l e R s m args below meth c own nm bytes mx ret) (A : own_At p l e R s m args below meth c T h n0 kc ks) {i : Nat} {y : MethodName} {by' : ByteArray} {mx' : Nat} {rm : Room} (W : Nat) {as' : Array Value} (argsL rest : List Value) {P : Option Value → Heap → Prop} {a : Addr} (hy1 : y.name = "<init>") (w1 : (Jvm.Cond.methodLink own i y).before a0 Z = true) (w2 : (Jvm.Cond.instanceMethod y).before a0 Z = true) (w3 : (Jvm.Cond.initialized y.cls).before a0 Z = true) (w4 : (Jvm.Cond.code y by' mx' none).before a0 Z = true) (hy : y.cls ≠ "java/lang/invoke/MethodHandle" ∧ y.cls ≠ "java/lang/invoke/VarHandle")
    (hM : MetFree l y (head1 [Jvm.Cond.code y by' mx' none] rm) (fun a U => a = as' ∧ Z.Warmed39 U.vm ∧ U.heap = h) (fun _ _ _ _ _ => True) (fun _ U o U' => own_QR U n0 rm.cells rm.slots P o U'))
    (hf : rm.frames + 1 ≤ R.frames) (hl : W + (mx' + 11) + rm.locals ≤ R.locals) (hc : kc + rm.cells ≤ R.cells) (hs : ks + rm.slots ≤ R.slots) {ps : List FieldType} (hpd : parseMethodDescriptor y.desc = some ⟨ps, none⟩) (hlen : argsL.length = ps.length) (has : (Value.ref a :: argsL).toArray = as') (hst : st = argsL.reverse ++ .ref a :: rest) (hW : (rest.map fun v => v.category).sum ≤ W) (hsz : Ls.size = mx) (hd : decode bytes pc = .ok (.invokespecial i, 3)) (hq : pc + 3 = q)
    (k : ∀ v T' h', P v h' → own_At p l e R s m args below meth c T' h' n0 (kc + rm.cells) (ks + rm.slots) → own_Go p.tables e below (T'.setTop (mkF m q Ls (v.toList ++ rest))) Q) :
    own_Go p.tables e below (T.setTop (mkF m pc Ls st)) Q := by
  obtain ⟨locs, cells, slots, X, eT, N, hc', hs', hn⟩ := A
  obtain ⟨v, _, ⟨T', L', k', n'⟩, -, X', ⟨Lc, hQ, hB1, hB2, hB3⟩, st'⟩ := X.specialBack C.1 (y := y) hy1 C.2.2.2.1 (mvT C.2.2.2.2.1 w1) (mvT C.2.2.2.2.1 w2) (mvT C.2.2.2.2.1 w4) hy (backOf (W := W) (Q := fun v h' L => P v h' ∧ Fr n0 L ∧ h.size ≤ h'.size) (own_backQ hM) C.2.2.2.2.1 w4 w3 hf hl) (g := mkF m pc Ls st) rfl (by rw [C.2.2.1]; exact hsz) (Steps.refl _) (a := a) (argsL := argsL) (rest := rest) (lenOf hpd hlen) hst (by show 2 * 0 + _ ≤ _; omega) (hb C.2.1 hd) (fun _ _ => ⟨has, eT, Nat.le_trans (Nat.add_le_add_right hc' _) hc, Nat.le_trans (Nat.add_le_add_right hs' _) hs⟩)
  dsimp only [Pt.U, Pt.locs, Pt.cells, Pt.slots] at X' hB1 hB2 hB3 st' hQ
  subst hq hB1 hB2 hB3
  exact own_go (fun t ht => st'.trans ht) (k v T' T'.heap hQ.1 ⟨_, _, _, X', rfl, N.app hQ.2.1, by omega, by omega, Nat.le_trans hn hQ.2.2⟩)
theorem own_callV (C : own_Cx Z a0 p l e R s m args below meth c own nm bytes mx ret) (A : own_At p l e R s m args below meth c T h n0 kc ks) {i : Nat} {y : MethodName} {by' : ByteArray} {mx' : Nat} {rt : Option FieldType} {rm : Room} (W : Nat) {as' : Array Value} (argsL rest : List Value) {P : Option Value → Heap → Prop} {a : Addr} {B : String} (w1 : (Jvm.Cond.methodLink own i y).before a0 Z = true) (w2 : (Jvm.Cond.declares y).before a0 Z = true) (w5 : (Jvm.Cond.selects B y y).before a0 Z = true) (w6 : (Jvm.Cond.instanceMethod y).before a0 Z = true) (w3 : (Jvm.Cond.initialized y.cls).before a0 Z = true) (w4 : (Jvm.Cond.code y by' mx' rt).before a0 Z = true) (hy : y.cls ≠ "java/lang/invoke/MethodHandle" ∧ y.cls ≠ "java/lang/invoke/VarHandle") (hBy : y.cls = B) (E : Exa Z h a B)
    (hM : MetFree l y (head1 [Jvm.Cond.code y by' mx' rt] rm) (fun a U => a = as' ∧ Z.Warmed39 U.vm ∧ U.heap = h) (fun _ _ _ _ _ => True) (fun _ U o U' => own_QR U n0 rm.cells rm.slots P o U'))
    (hf : rm.frames + 1 ≤ R.frames) (hl : W + (mx' + 11) + rm.locals ≤ R.locals) (hc : kc + rm.cells ≤ R.cells) (hs : ks + rm.slots ≤ R.slots) {ps : List FieldType} (hpd : parseMethodDescriptor y.desc = some ⟨ps, rt⟩) (hlen : argsL.length = ps.length) (has : (Value.ref a :: argsL).toArray = as') (hst : st = argsL.reverse ++ .ref a :: rest) (hW : (rest.map fun v => v.category).sum ≤ W) (hsz : Ls.size = mx) (hd : decode bytes pc = .ok (.invokevirtual i, 3)) (hq : pc + 3 = q)
    (k : ∀ v T' h', P v h' → own_At p l e R s m args below meth c T' h' n0 (kc + rm.cells) (ks + rm.slots) → own_Go p.tables e below (T'.setTop (mkF m q Ls (v.toList ++ rest))) Q) :
    own_Go p.tables e below (T.setTop (mkF m pc Ls st)) Q := by
  obtain ⟨locs, cells, slots, X, eT, N, hc', hs', hn⟩ := A
  subst hBy
  obtain ⟨cB, kB, qa, qb, qc⟩ := isOf (T := T) C.2.2.2.2.1 eT E
  obtain ⟨v, _, ⟨T', L', k', n'⟩, -, X', ⟨Lc, hQ, hB1, hB2, hB3⟩, st'⟩ := X.virtualBack C.1 (y := y) (z := y) C.2.2.2.1 (mvT C.2.2.2.2.1 w1) (mvT C.2.2.2.2.1 w2) (notFace_of_selects (args := #[]) (mvT C.2.2.2.2.1 w5)) (mvT C.2.2.2.2.1 w5) (mvT C.2.2.2.2.1 w6) hy (backOf (W := W) (Q := fun v h' L => P v h' ∧ Fr n0 L ∧ h.size ≤ h'.size) (own_backQ hM) C.2.2.2.2.1 w4 w3 hf hl) qa qc (g := mkF m pc Ls st) rfl (by rw [C.2.2.1]; exact hsz) (Steps.refl _) (argsL := argsL) (rest := rest) (lenOf hpd hlen) hst (by show 2 * 0 + _ ≤ _; omega) (hb C.2.1 hd) (fun _ _ => ⟨has, eT, Nat.le_trans (Nat.add_le_add_right hc' _) hc, Nat.le_trans (Nat.add_le_add_right hs' _) hs⟩)
  dsimp only [Pt.U, Pt.locs, Pt.cells, Pt.slots] at X' hB1 hB2 hB3 st' hQ
  subst hq hB1 hB2 hB3
  exact own_go (fun t ht => st'.trans ht) (k v T' T'.heap hQ.1 ⟨_, _, _, X', rfl, N.app hQ.2.1, by omega, by omega, Nat.le_trans hn hQ.2.2⟩)
theorem own_callP (C : own_Cx Z a0 p l e R s m args below meth c own nm bytes mx ret) (A : own_At p l e R s m args below meth c T h n0 kc ks) {i : Nat} {y : MethodName} {by' : ByteArray} {mx' : Nat} {rt : Option FieldType} {rm : Room} (W : Nat) {as' : Array Value} (argsL rest : List Value) {P : Option Value → Heap → Prop} {a : Addr} {B : String} {kk : Nat} (w1 : (Jvm.Cond.methodLink own i y).before a0 Z = true) (w6 : (Jvm.Cond.instanceMethod y).before a0 Z = true) (wp : (Jvm.Cond.privateMethod y).before a0 Z = true) (wi : (Jvm.Cond.instantiable y.cls kk).before a0 Z = true) (w3 : (Jvm.Cond.initialized y.cls).before a0 Z = true) (w4 : (Jvm.Cond.code y by' mx' rt).before a0 Z = true) (hy : y.cls ≠ "java/lang/invoke/MethodHandle" ∧ y.cls ≠ "java/lang/invoke/VarHandle") (E : Exa Z h a B)
    (hM : MetFree l y (head1 [Jvm.Cond.code y by' mx' rt] rm) (fun a U => a = as' ∧ Z.Warmed39 U.vm ∧ U.heap = h) (fun _ _ _ _ _ => True) (fun _ U o U' => own_QR U n0 rm.cells rm.slots P o U'))
    (hf : rm.frames + 1 ≤ R.frames) (hl : W + (mx' + 11) + rm.locals ≤ R.locals) (hc : kc + rm.cells ≤ R.cells) (hs : ks + rm.slots ≤ R.slots) {ps : List FieldType} (hpd : parseMethodDescriptor y.desc = some ⟨ps, rt⟩) (hlen : argsL.length = ps.length) (has : (Value.ref a :: argsL).toArray = as') (hst : st = argsL.reverse ++ .ref a :: rest) (hW : (rest.map fun v => v.category).sum ≤ W) (hsz : Ls.size = mx) (hd : decode bytes pc = .ok (.invokevirtual i, 3)) (hq : pc + 3 = q)
    (k : ∀ v T' h', P v h' → own_At p l e R s m args below meth c T' h' n0 (kc + rm.cells) (ks + rm.slots) → own_Go p.tables e below (T'.setTop (mkF m q Ls (v.toList ++ rest))) Q) :
    own_Go p.tables e below (T.setTop (mkF m pc Ls st)) Q := by
  obtain ⟨locs, cells, slots, X, eT, N, hc', hs', hn⟩ := A
  obtain ⟨cl, hcell, hobj⟩ := Exa.cell E
  have hpr : s.PrivateAt y := Cond.privateMethod_at (mvP C.2.2.2.2.1 wp (args := #[]))
  have wi' : (Jvm.Cond.instantiable y.cls kk).before args s = true := mvT C.2.2.2.2.1 wi
  have w6' : (Jvm.Cond.instanceMethod y).before args s = true := mvT C.2.2.2.2.1 w6
  obtain ⟨cc, kc', q1, q2, -, q4, -⟩ := Cond.instantiable_spec wi'
  have hsel : (Jvm.Cond.selects y.cls y y).before args s = true := Jvm.Stand.selects_self_of_private q1 q2 (Bool.or_eq_false_iff.mp q4).1 hpr w6' hy
  obtain ⟨v, _, ⟨T', L', k', n'⟩, -, X', ⟨Lc, hQ, hB1, hB2, hB3⟩, st'⟩ := X.privateBack C.1 (y := y) C.2.2.2.1 (mvT C.2.2.2.2.1 w1) w6' hsel hpr (mvT C.2.2.2.2.1 w4) hy (backOf (W := W) (Q := fun v h' L => P v h' ∧ Fr n0 L ∧ h.size ≤ h'.size) (own_backQ hM) C.2.2.2.2.1 w4 w3 hf hl) (g := mkF m pc Ls st) rfl (by rw [C.2.2.1]; exact hsz) (Steps.refl _) (a := a) (by rw [eT]; exact hcell) hobj (argsL := argsL) (rest := rest) (lenOf hpd hlen) hst (by show 2 * 0 + _ ≤ _; omega) (hb C.2.1 hd) (fun _ _ => ⟨has, eT, Nat.le_trans (Nat.add_le_add_right hc' _) hc, Nat.le_trans (Nat.add_le_add_right hs' _) hs⟩)
  dsimp only [Pt.U, Pt.locs, Pt.cells, Pt.slots] at X' hB1 hB2 hB3 st' hQ
  subst hq hB1 hB2 hB3
  exact own_go (fun t ht => st'.trans ht) (k v T' T'.heap hQ.1 ⟨_, _, _, X', rfl, N.app hQ.2.1, by omega, by omega, Nat.le_trans hn hQ.2.2⟩)
theorem own_callSI (C : own_Cx Z a0 p l e R s m args below meth c own nm bytes mx ret) (A : own_At p l e R s m args below meth c T h n0 kc ks) {i : Nat} {y : MethodName} {by' : ByteArray} {mx' : Nat} {rt : Option FieldType} {rm : Room} (W : Nat) {as' : Array Value} (argsL rest : List Value) {r : Int32} (w1 : (Jvm.Cond.methodLink own i y).before a0 Z = true) (w2 : (Jvm.Cond.static y).before a0 Z = true) (w3 : (Jvm.Cond.initialized y.cls).before a0 Z = true) (w4 : (Jvm.Cond.code y by' mx' rt).before a0 Z = true) (hy : y.cls ≠ "java/lang/invoke/MethodHandle" ∧ y.cls ≠ "java/lang/invoke/VarHandle")
    (hM : MetFree l y (head1 [Jvm.Cond.code y by' mx' rt] rm) (fun a U => a = as' ∧ Z.Warmed39 U.vm ∧ U.heap = h) (fun _ _ _ _ _ => True) (fun _ U o U' => own_QR U n0 rm.cells rm.slots (own_RI h r) o U'))
    (h0c : rm.cells = 0) (h0s : rm.slots = 0) (hf : rm.frames + 1 ≤ R.frames) (hl : W + (mx' + 11) + rm.locals ≤ R.locals) (hc : kc + rm.cells ≤ R.cells) (hs : ks + rm.slots ≤ R.slots) {ps : List FieldType} (hpd : parseMethodDescriptor y.desc = some ⟨ps, rt⟩) (hlen : argsL.length = ps.length) (has : argsL.toArray = as') (hst : st = argsL.reverse ++ rest) (hW : (rest.map fun v => v.category).sum ≤ W) (hsz : Ls.size = mx) (hd : decode bytes pc = .ok (.invokestatic i, 3)) (hq : pc + 3 = q)
    (k : ∀ T', own_At p l e R s m args below meth c T' h n0 kc ks → own_Go p.tables e below (T'.setTop (mkF m q Ls (.int r :: rest))) Q) :
    own_Go p.tables e below (T.setTop (mkF m pc Ls st)) Q := by
  refine own_callS C A W argsL rest w1 w2 w3 w4 hy hM hf hl hc hs hpd hlen has hst hW hsz hd hq (fun v T' h' hP A' => ?_)
  obtain ⟨rfl, rfl⟩ := hP
  rw [h0c, h0s] at A'
  exact k T' A'
theorem own_callSJ (C : own_Cx Z a0 p l e R s m args below meth c own nm bytes mx ret) (A : own_At p l e R s m args below meth c T h n0 kc ks) {i : Nat} {y : MethodName} {by' : ByteArray} {mx' : Nat} {rt : Option FieldType} {rm : Room} (W : Nat) {as' : Array Value} (argsL rest : List Value) {r : Int64} (w1 : (Jvm.Cond.methodLink own i y).before a0 Z = true) (w2 : (Jvm.Cond.static y).before a0 Z = true) (w3 : (Jvm.Cond.initialized y.cls).before a0 Z = true) (w4 : (Jvm.Cond.code y by' mx' rt).before a0 Z = true) (hy : y.cls ≠ "java/lang/invoke/MethodHandle" ∧ y.cls ≠ "java/lang/invoke/VarHandle")
    (hM : MetFree l y (head1 [Jvm.Cond.code y by' mx' rt] rm) (fun a U => a = as' ∧ Z.Warmed39 U.vm ∧ U.heap = h) (fun _ _ _ _ _ => True) (fun _ U o U' => own_QR U n0 rm.cells rm.slots (own_RJ h r) o U'))
    (h0c : rm.cells = 0) (h0s : rm.slots = 0) (hf : rm.frames + 1 ≤ R.frames) (hl : W + (mx' + 11) + rm.locals ≤ R.locals) (hc : kc + rm.cells ≤ R.cells) (hs : ks + rm.slots ≤ R.slots) {ps : List FieldType} (hpd : parseMethodDescriptor y.desc = some ⟨ps, rt⟩) (hlen : argsL.length = ps.length) (has : argsL.toArray = as') (hst : st = argsL.reverse ++ rest) (hW : (rest.map fun v => v.category).sum ≤ W) (hsz : Ls.size = mx) (hd : decode bytes pc = .ok (.invokestatic i, 3)) (hq : pc + 3 = q)
    (k : ∀ T', own_At p l e R s m args below meth c T' h n0 kc ks → own_Go p.tables e below (T'.setTop (mkF m q Ls (.long r :: rest))) Q) :
    own_Go p.tables e below (T.setTop (mkF m pc Ls st)) Q := by
  refine own_callS C A W argsL rest w1 w2 w3 w4 hy hM hf hl hc hs hpd hlen has hst hW hsz hd hq (fun v T' h' hP A' => ?_)
  obtain ⟨rfl, rfl⟩ := hP
  rw [h0c, h0s] at A'
  exact k T' A'
theorem own_callVI (C : own_Cx Z a0 p l e R s m args below meth c own nm bytes mx ret) (A : own_At p l e R s m args below meth c T h n0 kc ks) {i : Nat} {y : MethodName} {by' : ByteArray} {mx' : Nat} {rt : Option FieldType} {rm : Room} (W : Nat) {as' : Array Value} (argsL rest : List Value) {r : Int32} {a : Addr} {B : String} (w1 : (Jvm.Cond.methodLink own i y).before a0 Z = true) (w2 : (Jvm.Cond.declares y).before a0 Z = true) (w5 : (Jvm.Cond.selects B y y).before a0 Z = true) (w6 : (Jvm.Cond.instanceMethod y).before a0 Z = true) (w3 : (Jvm.Cond.initialized y.cls).before a0 Z = true) (w4 : (Jvm.Cond.code y by' mx' rt).before a0 Z = true) (hy : y.cls ≠ "java/lang/invoke/MethodHandle" ∧ y.cls ≠ "java/lang/invoke/VarHandle") (hBy : y.cls = B) (E : Exa Z h a B)
    (hM : MetFree l y (head1 [Jvm.Cond.code y by' mx' rt] rm) (fun a U => a = as' ∧ Z.Warmed39 U.vm ∧ U.heap = h) (fun _ _ _ _ _ => True) (fun _ U o U' => own_QR U n0 rm.cells rm.slots (own_RI h r) o U'))
    (h0c : rm.cells = 0) (h0s : rm.slots = 0) (hf : rm.frames + 1 ≤ R.frames) (hl : W + (mx' + 11) + rm.locals ≤ R.locals) (hc : kc + rm.cells ≤ R.cells) (hs : ks + rm.slots ≤ R.slots) {ps : List FieldType} (hpd : parseMethodDescriptor y.desc = some ⟨ps, rt⟩) (hlen : argsL.length = ps.length) (has : (Value.ref a :: argsL).toArray = as') (hst : st = argsL.reverse ++ .ref a :: rest) (hW : (rest.map fun v => v.category).sum ≤ W) (hsz : Ls.size = mx) (hd : decode bytes pc = .ok (.invokevirtual i, 3)) (hq : pc + 3 = q)
    (k : ∀ T', own_At p l e R s m args below meth c T' h n0 kc ks → own_Go p.tables e below (T'.setTop (mkF m q Ls (.int r :: rest))) Q) :
    own_Go p.tables e below (T.setTop (mkF m pc Ls st)) Q := by
  refine own_callV C A W argsL rest w1 w2 w5 w6 w3 w4 hy hBy E hM hf hl hc hs hpd hlen has hst hW hsz hd hq (fun v T' h' hP A' => ?_)
  obtain ⟨rfl, rfl⟩ := hP
  rw [h0c, h0s] at A'
  exact k T' A'
theorem own_callVJ (C : own_Cx Z a0 p l e R s m args below meth c own nm bytes mx ret) (A : own_At p l e R s m args below meth c T h n0 kc ks) {i : Nat} {y : MethodName} {by' : ByteArray} {mx' : Nat} {rt : Option FieldType} {rm : Room} (W : Nat) {as' : Array Value} (argsL rest : List Value) {r : Int64} {a : Addr} {B : String} (w1 : (Jvm.Cond.methodLink own i y).before a0 Z = true) (w2 : (Jvm.Cond.declares y).before a0 Z = true) (w5 : (Jvm.Cond.selects B y y).before a0 Z = true) (w6 : (Jvm.Cond.instanceMethod y).before a0 Z = true) (w3 : (Jvm.Cond.initialized y.cls).before a0 Z = true) (w4 : (Jvm.Cond.code y by' mx' rt).before a0 Z = true) (hy : y.cls ≠ "java/lang/invoke/MethodHandle" ∧ y.cls ≠ "java/lang/invoke/VarHandle") (hBy : y.cls = B) (E : Exa Z h a B)
    (hM : MetFree l y (head1 [Jvm.Cond.code y by' mx' rt] rm) (fun a U => a = as' ∧ Z.Warmed39 U.vm ∧ U.heap = h) (fun _ _ _ _ _ => True) (fun _ U o U' => own_QR U n0 rm.cells rm.slots (own_RJ h r) o U'))
    (h0c : rm.cells = 0) (h0s : rm.slots = 0) (hf : rm.frames + 1 ≤ R.frames) (hl : W + (mx' + 11) + rm.locals ≤ R.locals) (hc : kc + rm.cells ≤ R.cells) (hs : ks + rm.slots ≤ R.slots) {ps : List FieldType} (hpd : parseMethodDescriptor y.desc = some ⟨ps, rt⟩) (hlen : argsL.length = ps.length) (has : (Value.ref a :: argsL).toArray = as') (hst : st = argsL.reverse ++ .ref a :: rest) (hW : (rest.map fun v => v.category).sum ≤ W) (hsz : Ls.size = mx) (hd : decode bytes pc = .ok (.invokevirtual i, 3)) (hq : pc + 3 = q)
    (k : ∀ T', own_At p l e R s m args below meth c T' h n0 kc ks → own_Go p.tables e below (T'.setTop (mkF m q Ls (.long r :: rest))) Q) :
    own_Go p.tables e below (T.setTop (mkF m pc Ls st)) Q := by
  refine own_callV C A W argsL rest w1 w2 w5 w6 w3 w4 hy hBy E hM hf hl hc hs hpd hlen has hst hW hsz hd hq (fun v T' h' hP A' => ?_)
  obtain ⟨rfl, rfl⟩ := hP
  rw [h0c, h0s] at A'
  exact k T' A'
theorem own_callPI (C : own_Cx Z a0 p l e R s m args below meth c own nm bytes mx ret) (A : own_At p l e R s m args below meth c T h n0 kc ks) {i : Nat} {y : MethodName} {by' : ByteArray} {mx' : Nat} {rt : Option FieldType} {rm : Room} (W : Nat) {as' : Array Value} (argsL rest : List Value) {r : Int32} {a : Addr} {B : String} {kk : Nat} (w1 : (Jvm.Cond.methodLink own i y).before a0 Z = true) (w6 : (Jvm.Cond.instanceMethod y).before a0 Z = true) (wp : (Jvm.Cond.privateMethod y).before a0 Z = true) (wi : (Jvm.Cond.instantiable y.cls kk).before a0 Z = true) (w3 : (Jvm.Cond.initialized y.cls).before a0 Z = true) (w4 : (Jvm.Cond.code y by' mx' rt).before a0 Z = true) (hy : y.cls ≠ "java/lang/invoke/MethodHandle" ∧ y.cls ≠ "java/lang/invoke/VarHandle") (E : Exa Z h a B)
    (hM : MetFree l y (head1 [Jvm.Cond.code y by' mx' rt] rm) (fun a U => a = as' ∧ Z.Warmed39 U.vm ∧ U.heap = h) (fun _ _ _ _ _ => True) (fun _ U o U' => own_QR U n0 rm.cells rm.slots (own_RI h r) o U'))
    (h0c : rm.cells = 0) (h0s : rm.slots = 0) (hf : rm.frames + 1 ≤ R.frames) (hl : W + (mx' + 11) + rm.locals ≤ R.locals) (hc : kc + rm.cells ≤ R.cells) (hs : ks + rm.slots ≤ R.slots) {ps : List FieldType} (hpd : parseMethodDescriptor y.desc = some ⟨ps, rt⟩) (hlen : argsL.length = ps.length) (has : (Value.ref a :: argsL).toArray = as') (hst : st = argsL.reverse ++ .ref a :: rest) (hW : (rest.map fun v => v.category).sum ≤ W) (hsz : Ls.size = mx) (hd : decode bytes pc = .ok (.invokevirtual i, 3)) (hq : pc + 3 = q)
    (k : ∀ T', own_At p l e R s m args below meth c T' h n0 kc ks → own_Go p.tables e below (T'.setTop (mkF m q Ls (.int r :: rest))) Q) :
    own_Go p.tables e below (T.setTop (mkF m pc Ls st)) Q := by
  refine own_callP C A W argsL rest w1 w6 wp wi w3 w4 hy E hM hf hl hc hs hpd hlen has hst hW hsz hd hq (fun v T' h' hP A' => ?_)
  obtain ⟨rfl, rfl⟩ := hP
  rw [h0c, h0s] at A'
  exact k T' A'
theorem own_callC0 (C : own_Cx Z a0 p l e R s m args below meth c own nm bytes mx ret) (A : own_At p l e R s m args below meth c T h n0 kc ks) {i : Nat} {y : MethodName} {by' : ByteArray} {mx' : Nat} {rm : Room} (W : Nat) {as' : Array Value} (argsL rest : List Value)  {a : Addr} (hy1 : y.name = "<init>") (w1 : (Jvm.Cond.methodLink own i y).before a0 Z = true) (w2 : (Jvm.Cond.instanceMethod y).before a0 Z = true) (w3 : (Jvm.Cond.initialized y.cls).before a0 Z = true) (w4 : (Jvm.Cond.code y by' mx' none).before a0 Z = true) (hy : y.cls ≠ "java/lang/invoke/MethodHandle" ∧ y.cls ≠ "java/lang/invoke/VarHandle")
    (hM : MetFree l y (head1 [Jvm.Cond.code y by' mx' none] rm) (fun a U => a = as' ∧ Z.Warmed39 U.vm ∧ U.heap = h) (fun _ _ _ _ _ => True) (fun _ U o U' => own_QR U n0 rm.cells rm.slots (own_R0 h ()) o U'))
    (h0c : rm.cells = 0) (h0s : rm.slots = 0) (hf : rm.frames + 1 ≤ R.frames) (hl : W + (mx' + 11) + rm.locals ≤ R.locals) (hc : kc + rm.cells ≤ R.cells) (hs : ks + rm.slots ≤ R.slots) {ps : List FieldType} (hpd : parseMethodDescriptor y.desc = some ⟨ps, none⟩) (hlen : argsL.length = ps.length) (has : (Value.ref a :: argsL).toArray = as') (hst : st = argsL.reverse ++ .ref a :: rest) (hW : (rest.map fun v => v.category).sum ≤ W) (hsz : Ls.size = mx) (hd : decode bytes pc = .ok (.invokespecial i, 3)) (hq : pc + 3 = q)
    (k : ∀ T', own_At p l e R s m args below meth c T' h n0 kc ks → own_Go p.tables e below (T'.setTop (mkF m q Ls rest)) Q) :
    own_Go p.tables e below (T.setTop (mkF m pc Ls st)) Q := by
  refine own_callC C A W argsL rest hy1 w1 w2 w3 w4 hy hM hf hl hc hs hpd hlen has hst hW hsz hd hq (fun v T' h' hP A' => ?_)
  obtain ⟨rfl, rfl⟩ := hP
  rw [h0c, h0s] at A'
  exact k T' A'
theorem own_initO (C : own_Cx Z a0 p l e R s m args below meth c own nm bytes mx ret) (A : own_At p l e R s m args below meth c T h n0 kc ks) {i : Nat} {a : Addr} (W : Nat) (w1 : (Jvm.Cond.methodLink own i Lib.objectInit).before a0 Z = true) (w2 : (Jvm.Cond.instanceMethod Lib.objectInit).before a0 Z = true) (w3 : (Jvm.Cond.code Lib.objectInit ⟨#[0xb1]⟩ 1 none).before a0 Z = true) (hsz : Ls.size = mx) (hd : decode bytes pc = .ok (.invokespecial i, 3)) (hq : pc + 3 = q) (hf : 1 ≤ R.frames) (hW : (st.map fun v => v.category).sum ≤ W) (hl : W + 12 ≤ R.locals)
    (k : ∀ T', own_At p l e R s m args below meth c T' h n0 kc ks → own_Go p.tables e below (T'.setTop (mkF m q Ls st)) Q) :
    own_Go p.tables e below (T.setTop (mkF m pc Ls (.ref a :: st))) Q := by
  obtain ⟨locs, cells, slots, X, eT, N, hc', hs', hn⟩ := A
  obtain ⟨T', X', e', st'⟩ := initO X C.1 C.2.2.2.2.1 C.2.2.2.1 w1 w2 w3 eT (g := mkF m pc Ls (.ref a :: st)) rfl (by rw [C.2.2.1]; exact hsz) rfl (hb C.2.1 hd) hf (W := W) (by show 2 * 0 + _ ≤ _; omega) hl
  subst hq
  exact own_go st' (k T' ⟨locs, cells, slots, X', e', N, hc', hs', hn⟩)
theorem own_getF (C : own_Cx Z a0 p l e R s m args below meth c own nm bytes mx ret) (A : own_At p l e R s m args below meth c T h n0 kc ks) {O n d : String} {i : Nat} {a : Addr} {v : Value} (w : (Jvm.Cond.fieldLink own i O n d).before a0 Z = true) (F : Fld Z h a O n d v) (hd : decode bytes pc = .ok (.getfield i, 3)) (hq : pc + 3 = q) (k : ∀ T', own_At p l e R s m args below meth c T' h n0 kc ks → own_Go p.tables e below (T'.setTop (mkF m q Ls (v :: st))) Q) :
    own_Go p.tables e below (T.setTop (mkF m pc Ls (.ref a :: st))) Q := by
  obtain ⟨locs, cells, slots, X, eT, N, hc', hs', hn⟩ := A
  obtain ⟨T', X', e', st'⟩ := getF X C.1 C.2.2.2.2.1 C.2.2.2.1 (host := "") (Or.inl w) Via.refl eT F (g := mkF m pc Ls (.ref a :: st)) rfl rfl (hb C.2.1 hd)
  subst hq
  exact own_go st' (k T' ⟨locs, cells, slots, X', e', N, hc', hs', hn⟩)
theorem own_putF (C : own_Cx Z a0 p l e R s m args below meth c own nm bytes mx ret) (A : own_At p l e R s m args below meth c T h n0 kc ks) {O n d B : String} {i kk : Nat} {a : Addr} {v old : Value} (ty : FieldType) (w : (Jvm.Cond.fieldLink own i O n d).before a0 Z = true) (F : Fld Z h a O n d old) (E : Exa Z h a B) (Ly : (Jvm.Cond.lays B O n d).before a0 Z = true ∨ ((Jvm.Cond.laysFinal B O n d).before a0 Z = true ∧ own = O ∧ nm = "<init>")) (wi : (Jvm.Cond.instantiable B kk).before a0 Z = true) (hty : parseFieldDescriptor d = some ty) (hnr : narrow ty v = v) (hft : fits ty v = true) (ga : n0 ≤ a) (hd : decode bytes pc = .ok (.putfield i, 3)) (hq : pc + 3 = q)
    (k : ∀ T' h', Wr h h' a (Jvm.RoadKit.slotOf Z O n d) v → own_At p l e R s m args below meth c T' h' n0 kc ks → own_Go p.tables e below (T'.setTop (mkF m q Ls st)) Q) :
    own_Go p.tables e below (T.setTop (mkF m pc Ls (v :: .ref a :: st))) Q := by
  obtain ⟨locs, cells, slots, X, eT, N, hc', hs', hn⟩ := A
  obtain ⟨T', h', X', e', W', st'⟩ := putF X C.1 C.2.2.2.2.1 C.2.2.2.1 (host := "") (Or.inl w) Via.refl eT F E (Ly.imp id fun z => ⟨z.1, z.2.1, by rw [C.2.2.2.2.2.1]; exact z.2.2⟩) wi hty hnr hft (g := mkF m pc Ls (v :: .ref a :: st)) rfl rfl (hb C.2.1 hd)
  subst hq
  exact own_go st' (k T' h' W' ⟨_, cells, slots, X', e', Fr.snoc X' N ga, hc', hs', by rw [W'.size]; exact hn⟩)
theorem own_newO (C : own_Cx Z a0 p l e R s m args below meth c own nm bytes mx ret) (A : own_At p l e R s m args below meth c T h n0 kc ks) {B : String} {i n : Nat} (w : (Jvm.Cond.classLink own i B).before a0 Z = true) (wi : (Jvm.Cond.instantiable B n).before a0 Z = true) (wz : (Jvm.Cond.initialized B).before a0 Z = true) (hd : decode bytes pc = .ok (.new i, 3)) (hq : pc + 3 = q) (hc : kc + 1 ≤ R.cells) (hs : ks + n ≤ R.slots)
    (k : ∀ T' h' a, a = h.size → Ext h h' → Exa Z h' a B → (∀ {O nm d : String} {ty : FieldType}, Laid Z a0 B O nm d → parseFieldDescriptor d = some ty → Fld Z h' a O nm d (defaultValue ty)) → n0 ≤ a → own_At p l e R s m args below meth c T' h' n0 (kc + 1) (ks + n) → own_Go p.tables e below (T'.setTop (mkF m q Ls (.ref a :: st))) Q) :
    own_Go p.tables e below (T.setTop (mkF m pc Ls st)) Q := by
  obtain ⟨locs, cells, slots, X, eT, N, hc', hs', hn⟩ := A
  obtain ⟨T', h', X', e', E', A', D', -, st'⟩ := newO X C.1 C.2.2.2.2.1 C.2.2.2.1 w wi wz eT (g := mkF m pc Ls st) rfl (hb C.2.1 hd) (by omega) (by omega)
  subst hq
  exact own_go st' (k T' h' h.size rfl E' A' D' hn ⟨locs, _, _, X', e', N, by omega, by omega, Nat.le_trans hn E'.1⟩)
theorem own_instY (C : own_Cx Z a0 p l e R s m args below meth c own nm bytes mx ret) (A : own_At p l e R s m args below meth c T h n0 kc ks) {B : String} {i : Nat} {a : Addr} (w : (Jvm.Cond.classLink own i B).before a0 Z = true) (F : Ins Z h a B true) (hd : decode bytes pc = .ok (.instanceof i, 3)) (hq : pc + 3 = q) (k : ∀ T', own_At p l e R s m args below meth c T' h n0 kc ks → own_Go p.tables e below (T'.setTop (mkF m q Ls (.int 1 :: st))) Q) :
    own_Go p.tables e below (T.setTop (mkF m pc Ls (.ref a :: st))) Q := by
  obtain ⟨locs, cells, slots, X, eT, N, hc', hs', hn⟩ := A
  obtain ⟨T', X', e', st'⟩ := instY X C.1 C.2.2.2.2.1 C.2.2.2.1 w eT F (g := mkF m pc Ls (.ref a :: st)) rfl rfl (hb C.2.1 hd)
  subst hq
  exact own_go st' (k T' ⟨locs, cells, slots, X', e', N, hc', hs', hn⟩)
theorem own_castY (C : own_Cx Z a0 p l e R s m args below meth c own nm bytes mx ret) (A : own_At p l e R s m args below meth c T h n0 kc ks) {B : String} {i : Nat} {a : Addr} (w : (Jvm.Cond.classLink own i B).before a0 Z = true) (F : Ins Z h a B true) (hd : decode bytes pc = .ok (.checkcast i, 3)) (hq : pc + 3 = q) (k : ∀ T', own_At p l e R s m args below meth c T' h n0 kc ks → own_Go p.tables e below (T'.setTop (mkF m q Ls (.ref a :: st))) Q) :
    own_Go p.tables e below (T.setTop (mkF m pc Ls (.ref a :: st))) Q := by
  obtain ⟨locs, cells, slots, X, eT, N, hc', hs', hn⟩ := A
  obtain ⟨T', X', e', st'⟩ := castY X C.1 C.2.2.2.2.1 C.2.2.2.1 w eT F (g := mkF m pc Ls (.ref a :: st)) rfl rfl (hb C.2.1 hd)
  subst hq
  exact own_go st' (k T' ⟨locs, cells, slots, X', e', N, hc', hs', hn⟩)
theorem own_instNo (C : own_Cx Z a0 p l e R s m args below meth c own nm bytes mx ret) (A : own_At p l e R s m args below meth c T h n0 kc ks) {B D : String} {i : Nat} {a : Addr} (w : (Jvm.Cond.classLink own i B).before a0 Z = true) (E : Exa Z h a D) (F : ∃ c t, Z.vm.findClass D = some c ∧ Z.vm.findClass B = some t ∧ Z.vm.assignable c t = false) (hd : decode bytes pc = .ok (.instanceof i, 3)) (hq : pc + 3 = q) (k : ∀ T', own_At p l e R s m args below meth c T' h n0 kc ks → own_Go p.tables e below (T'.setTop (mkF m q Ls (.int 0 :: st))) Q) :
    own_Go p.tables e below (T.setTop (mkF m pc Ls (.ref a :: st))) Q := by
  obtain ⟨locs, cells, slots, X, eT, N, hc', hs', hn⟩ := A
  obtain ⟨T', X', e', st'⟩ := instNo X C.1 C.2.2.2.2.1 C.2.2.2.1 w eT E F (g := mkF m pc Ls (.ref a :: st)) rfl rfl (hb C.2.1 hd)
  subst hq
  exact own_go st' (k T' ⟨locs, cells, slots, X', e', N, hc', hs', hn⟩)
theorem own_instNull (C : own_Cx Z a0 p l e R s m args below meth c own nm bytes mx ret) (A : own_At p l e R s m args below meth c T h n0 kc ks) {i : Nat} (hd : decode bytes pc = .ok (.instanceof i, 3)) (hq : pc + 3 = q) (k : own_Go p.tables e below (T.setTop (mkF m q Ls (.int 0 :: st))) Q) :
    own_Go p.tables e below (T.setTop (mkF m pc Ls (.null :: st))) Q := by
  obtain ⟨_, _, _, X, _⟩ := A
  subst hq
  exact own_go (X.instanceofNull C.1 (g := mkF m pc Ls (.null :: st)) rfl rfl (hb C.2.1 hd)) k
def own_Ia (Z : State) (h : Heap) (a : Addr) (ty : FieldType) (n : Int32) (xs : List Int32) : Prop := ∃ k, Arv Z h a k ty n (xs.map .int) (.int 0) ∧ xs.length = n.toNatClampNeg
theorem own_Ia.lt {a : Addr} {ty : FieldType} {n : Int32} {xs : List Int32} (F : own_Ia Z h a ty n xs) : a < h.size := by obtain ⟨k, V, -⟩ := F; exact V.lt
theorem own_Ia.ext {h' : Heap} {a : Addr} {ty : FieldType} {n : Int32} {xs : List Int32} (F : own_Ia Z h a ty n xs) (E : Ext h h') : own_Ia Z h' a ty n xs := by obtain ⟨k, V, hl⟩ := F; exact ⟨k, V.ext E, hl⟩
theorem own_Ia.keep {h' : Heap} {ws : List Addr} {a : Addr} {ty : FieldType} {n : Int32} {xs : List Int32} (F : own_Ia Z h a ty n xs) (K : Keep h h' ws) (q : a ∉ ws) : own_Ia Z h' a ty n xs := by obtain ⟨k, V, hl⟩ := F; exact ⟨k, V.keep K q, hl⟩
theorem own_Ia.other {h' : Heap} {a b : Addr} {sl : Nat} {v : Value} {ty : FieldType} {n : Int32} {xs : List Int32} (F : own_Ia Z h b ty n xs) (W : Wr h h' a sl v) (q : b ≠ a) : own_Ia Z h' b ty n xs := by obtain ⟨k, V, hl⟩ := F; exact ⟨k, V.other W q, hl⟩
theorem own_getD_map (xs : List Int32) (i : Nat) : (xs.map Value.int).getD i (.int 0) = .int (xs.getD i 0) := by
  induction xs generalizing i with
  | nil => rfl
  | cons x t ih => cases i with
    | zero => rfl
    | succ i => simpa using ih i
theorem own_newP (C : own_Cx Z a0 p l e R s m args below meth c own nm bytes mx ret) (A : own_At p l e R s m args below meth c T h n0 kc ks) {aty : ArrayType} {n : Int32} (cap : Nat) {xs : List Int32} (w : (Jvm.Cond.arrayClass (newarray.typeOf aty)).before a0 Z = true) (hn' : ¬ n < 0) (hxs : List.replicate n.toNatClampNeg 0 = xs) (hcap : n.toNatClampNeg ≤ cap) (hcb : cap * 8 ≤ 536870912) (hdv : defaultValue (newarray.typeOf aty) = .int 0) (hd : decode bytes pc = .ok (.newarray aty, 2)) (hq : pc + 2 = q) (hc : kc + 1 ≤ R.cells) (hs : ks + cap ≤ R.slots)
    (k : ∀ T' h' a, a = h.size → Ext h h' → own_Ia Z h' a (newarray.typeOf aty) n xs → n0 ≤ a → own_At p l e R s m args below meth c T' h' n0 (kc + 1) (ks + cap) → own_Go p.tables e below (T'.setTop (mkF m q Ls (.ref a :: st))) Q) :
    own_Go p.tables e below (T.setTop (mkF m pc Ls (.int n :: st))) Q := by
  obtain ⟨locs, cells, slots, X, eT, N, hc', hs', hn⟩ := A
  obtain ⟨T', h', cA, X', e', E', A', st'⟩ := newP X C.1 C.2.2.2.2.1 w eT (g := mkF m pc Ls (.int n :: st)) rfl (hb C.2.1 hd) rfl hn' (cap := cap) hcap hcb (by omega) (by omega)
  subst hq hxs
  have V := Arv.new A' hn'
  rw [hdv] at V
  have V' := V.pad (pad_rep [] (.int 0) n.toNatClampNeg)
  refine own_go st' (k T' h' h.size rfl E' ⟨cA, ?_, by simp⟩ hn ⟨locs, _, _, X', e', N, by omega, by omega, Nat.le_trans hn E'.1⟩)
  simpa using V'
theorem own_newX (C : own_Cx Z a0 p l e R s m args below meth c own nm bytes mx ret) (A : own_At p l e R s m args below meth c T h n0 kc ks) {aty : ArrayType} {n : Int32} (cap : Nat) (w : (Jvm.Cond.arrayClass (newarray.typeOf aty)).before a0 Z = true) (hn' : ¬ n < 0) (hcap : n.toNatClampNeg ≤ cap) (hcb : cap * 8 ≤ 536870912) (hd : decode bytes pc = .ok (.newarray aty, 2)) (hq : pc + 2 = q) (hc : kc + 1 ≤ R.cells) (hs : ks + cap ≤ R.slots)
    (k : ∀ T' h' a, a = h.size → Ext h h' → n0 ≤ a → own_At p l e R s m args below meth c T' h' n0 (kc + 1) (ks + cap) → own_Go p.tables e below (T'.setTop (mkF m q Ls (.ref a :: st))) Q) :
    own_Go p.tables e below (T.setTop (mkF m pc Ls (.int n :: st))) Q := by
  obtain ⟨locs, cells, slots, X, eT, N, hc', hs', hn⟩ := A
  obtain ⟨T', h', cA, X', e', E', A', st'⟩ := newP X C.1 C.2.2.2.2.1 w eT (g := mkF m pc Ls (.int n :: st)) rfl (hb C.2.1 hd) rfl hn' (cap := cap) hcap hcb (by omega) (by omega)
  subst hq
  exact own_go st' (k T' h' h.size rfl E' hn ⟨locs, _, _, X', e', N, by omega, by omega, Nat.le_trans hn E'.1⟩)
def own_PN (Z : State) (n0 : Nat) (ty : FieldType) (h : Heap) (r : Int32 × List Int32) (v : Option Value) (h' : Heap) : Prop := ∃ a, v = some (.ref a) ∧ n0 ≤ a ∧ h.size ≤ a ∧ Keep h h' [] ∧ own_Ia Z h' a ty r.1 r.2
theorem own_iastore (C : own_Cx Z a0 p l e R s m args below meth c own nm bytes mx ret) (A : own_At p l e R s m args below meth c T h n0 kc ks) {a : Addr} {j x n : Int32} {xs ys : List Int32} (V : own_Ia Z h a .int n xs) (hj : ¬ j < 0 ∧ j < n) (hys : xs.set j.toNatClampNeg (x) = ys) (ga : n0 ≤ a) (hd : decode bytes pc = .ok (.iastore, 1)) (hq : pc + 1 = q)
    (k : ∀ T' h', Keep h h' [a] → own_Ia Z h' a .int n ys → own_At p l e R s m args below meth c T' h' n0 kc ks → own_Go p.tables e below (T'.setTop (mkF m q Ls st)) Q) :
    own_Go p.tables e below (T.setTop (mkF m pc Ls (.int x :: .int j :: .ref a :: st))) Q := by
  obtain ⟨locs, cells, slots, X, eT, N, hc', hs', hn⟩ := A
  obtain ⟨kk, ⟨cl, Ar, q1, S, q3, H, G⟩, hlen⟩ := V
  have hin := inb_of S hj
  obtain ⟨T', h', X', e', W', st'⟩ := stI X C.1 C.2.2.2.2.1 eT Ar hin (g := mkF m pc Ls (.int x :: .int j :: .ref a :: st)) rfl rfl (hb C.2.1 hd)
  subst hq hys
  have hlt : j.toNatClampNeg < (xs.map Value.int).length := by
    have := Nat.lt_of_not_le fun z => hin (Or.inr z)
    rw [S] at this; simpa [hlen] using this
  have V' := Arv.set Ar q1 S q3 H G rfl W' j.toNatClampNeg rfl hlt
  refine own_go st' (k T' h' (Keep.of_wr W') ⟨kk, ?_, by simpa using hlen⟩ ⟨_, cells, slots, X', e', Fr.snoc X' N ga, hc', hs', by rw [W'.size]; exact hn⟩)
  rw [List.map_set]
  exact V'
theorem own_bastore (C : own_Cx Z a0 p l e R s m args below meth c own nm bytes mx ret) (A : own_At p l e R s m args below meth c T h n0 kc ks) {a : Addr} {j x n : Int32} {xs ys : List Int32} (V : own_Ia Z h a .byte n xs) (hj : ¬ j < 0 ∧ j < n) (hys : xs.set j.toNatClampNeg (x.toInt8.toInt32) = ys) (ga : n0 ≤ a) (hd : decode bytes pc = .ok (.bastore, 1)) (hq : pc + 1 = q)
    (k : ∀ T' h', Keep h h' [a] → own_Ia Z h' a .byte n ys → own_At p l e R s m args below meth c T' h' n0 kc ks → own_Go p.tables e below (T'.setTop (mkF m q Ls st)) Q) :
    own_Go p.tables e below (T.setTop (mkF m pc Ls (.int x :: .int j :: .ref a :: st))) Q := by
  obtain ⟨locs, cells, slots, X, eT, N, hc', hs', hn⟩ := A
  obtain ⟨kk, ⟨cl, Ar, q1, S, q3, H, G⟩, hlen⟩ := V
  have hin := inb_of S hj
  obtain ⟨T', h', X', e', W', st'⟩ := stB X C.1 C.2.2.2.2.1 eT Ar hin (g := mkF m pc Ls (.int x :: .int j :: .ref a :: st)) rfl rfl (hb C.2.1 hd)
  subst hq hys
  have hlt : j.toNatClampNeg < (xs.map Value.int).length := by
    have := Nat.lt_of_not_le fun z => hin (Or.inr z)
    rw [S] at this; simpa [hlen] using this
  have V' := Arv.set Ar q1 S q3 H G (fits_nar_byte x) W' j.toNatClampNeg rfl hlt
  refine own_go st' (k T' h' (Keep.of_wr W') ⟨kk, ?_, by simpa using hlen⟩ ⟨_, cells, slots, X', e', Fr.snoc X' N ga, hc', hs', by rw [W'.size]; exact hn⟩)
  rw [List.map_set]
  exact V'
theorem own_castore (C : own_Cx Z a0 p l e R s m args below meth c own nm bytes mx ret) (A : own_At p l e R s m args below meth c T h n0 kc ks) {a : Addr} {j x n : Int32} {xs ys : List Int32} (V : own_Ia Z h a .char n xs) (hj : ¬ j < 0 ∧ j < n) (hys : xs.set j.toNatClampNeg (x.toUInt32.toUInt16.toUInt32.toInt32) = ys) (ga : n0 ≤ a) (hd : decode bytes pc = .ok (.castore, 1)) (hq : pc + 1 = q)
    (k : ∀ T' h', Keep h h' [a] → own_Ia Z h' a .char n ys → own_At p l e R s m args below meth c T' h' n0 kc ks → own_Go p.tables e below (T'.setTop (mkF m q Ls st)) Q) :
    own_Go p.tables e below (T.setTop (mkF m pc Ls (.int x :: .int j :: .ref a :: st))) Q := by
  obtain ⟨locs, cells, slots, X, eT, N, hc', hs', hn⟩ := A
  obtain ⟨kk, ⟨cl, Ar, q1, S, q3, H, G⟩, hlen⟩ := V
  have hin := inb_of S hj
  obtain ⟨T', h', X', e', W', st'⟩ := stC X C.1 C.2.2.2.2.1 eT Ar hin (g := mkF m pc Ls (.int x :: .int j :: .ref a :: st)) rfl rfl (hb C.2.1 hd)
  subst hq hys
  have hlt : j.toNatClampNeg < (xs.map Value.int).length := by
    have := Nat.lt_of_not_le fun z => hin (Or.inr z)
    rw [S] at this; simpa [hlen] using this
  have V' := Arv.set Ar q1 S q3 H G (fits_nar_char x) W' j.toNatClampNeg rfl hlt
  refine own_go st' (k T' h' (Keep.of_wr W') ⟨kk, ?_, by simpa using hlen⟩ ⟨_, cells, slots, X', e', Fr.snoc X' N ga, hc', hs', by rw [W'.size]; exact hn⟩)
  rw [List.map_set]
  exact V'
theorem own_iaload (C : own_Cx Z a0 p l e R s m args below meth c own nm bytes mx ret) (A : own_At p l e R s m args below meth c T h n0 kc ks) {a : Addr} {j n v : Int32} {xs : List Int32} (V : own_Ia Z h a .int n xs) (hj : ¬ j < 0 ∧ j < n) (hv : xs.getD j.toNatClampNeg 0 = v) (hd : decode bytes pc = .ok (.iaload, 1)) (hq : pc + 1 = q) (k : own_Go p.tables e below (T.setTop (mkF m q Ls (.int v :: st))) Q) :
    own_Go p.tables e below (T.setTop (mkF m pc Ls (.int j :: .ref a :: st))) Q := by
  obtain ⟨locs, cells, slots, X, eT, N, hc', hs', hn⟩ := A
  obtain ⟨kk, ⟨cl, Ar, q1, S, q3, H, G⟩, hlen⟩ := V
  have hin := inb_of S hj
  subst hq hv
  exact own_go (fun t => X.iaload C.1 (by rw [eT]; exact Ar.1) (State.isArrayOf_alike C.2.2.2.2.1.alike Ar.2.1) Ar.2.2 hin (H.at hin (own_getD_map xs _)) (g := mkF m pc Ls (.int j :: .ref a :: st)) rfl rfl (hb C.2.1 hd) t) k
theorem own_baload (C : own_Cx Z a0 p l e R s m args below meth c own nm bytes mx ret) (A : own_At p l e R s m args below meth c T h n0 kc ks) {a : Addr} {j n v : Int32} {xs : List Int32} (V : own_Ia Z h a .byte n xs) (hj : ¬ j < 0 ∧ j < n) (hv : xs.getD j.toNatClampNeg 0 = v) (hd : decode bytes pc = .ok (.baload, 1)) (hq : pc + 1 = q) (k : own_Go p.tables e below (T.setTop (mkF m q Ls (.int v :: st))) Q) :
    own_Go p.tables e below (T.setTop (mkF m pc Ls (.int j :: .ref a :: st))) Q := by
  obtain ⟨locs, cells, slots, X, eT, N, hc', hs', hn⟩ := A
  obtain ⟨kk, ⟨cl, Ar, q1, S, q3, H, G⟩, hlen⟩ := V
  have hin := inb_of S hj
  subst hq hv
  exact own_go (fun t => X.baloadBytes C.1 (by rw [eT]; exact Ar.1) (State.isArrayOf_alike C.2.2.2.2.1.alike Ar.2.1) Ar.2.2 hin (H.at hin (own_getD_map xs _)) (g := mkF m pc Ls (.int j :: .ref a :: st)) rfl rfl (hb C.2.1 hd) t) k
theorem own_caload (C : own_Cx Z a0 p l e R s m args below meth c own nm bytes mx ret) (A : own_At p l e R s m args below meth c T h n0 kc ks) {a : Addr} {j n v : Int32} {xs : List Int32} (V : own_Ia Z h a .char n xs) (hj : ¬ j < 0 ∧ j < n) (hv : xs.getD j.toNatClampNeg 0 = v) (hd : decode bytes pc = .ok (.caload, 1)) (hq : pc + 1 = q) (k : own_Go p.tables e below (T.setTop (mkF m q Ls (.int v :: st))) Q) :
    own_Go p.tables e below (T.setTop (mkF m pc Ls (.int j :: .ref a :: st))) Q := by
  obtain ⟨locs, cells, slots, X, eT, N, hc', hs', hn⟩ := A
  obtain ⟨kk, ⟨cl, Ar, q1, S, q3, H, G⟩, hlen⟩ := V
  have hin := inb_of S hj
  subst hq hv
  exact own_go (fun t => X.caload C.1 (by rw [eT]; exact Ar.1) (State.isArrayOf_alike C.2.2.2.2.1.alike Ar.2.1) Ar.2.2 hin (H.at hin (own_getD_map xs _)) (g := mkF m pc Ls (.int j :: .ref a :: st)) rfl rfl (hb C.2.1 hd) t) k
theorem own_alen (C : own_Cx Z a0 p l e R s m args below meth c own nm bytes mx ret) (A : own_At p l e R s m args below meth c T h n0 kc ks) {a : Addr} {n : Int32} {ty : FieldType} {xs : List Int32} (V : own_Ia Z h a ty n xs) (hd : decode bytes pc = .ok (.arraylength, 1)) (hq : pc + 1 = q) (k : own_Go p.tables e below (T.setTop (mkF m q Ls (.int n :: st))) Q) :
    own_Go p.tables e below (T.setTop (mkF m pc Ls (.ref a :: st))) Q := by
  obtain ⟨locs, cells, slots, X, eT, N, hc', hs', hn⟩ := A
  obtain ⟨kk, ⟨cl, Ar, q1, S, q3, H, G⟩, hlen⟩ := V
  subst hq
  rw [← len_of S q3] at k
  exact own_go (fun t => X.arraylength C.1 (by rw [eT]; exact Ar.1) (State.isArrayOf_alike C.2.2.2.2.1.alike Ar.2.1) (g := mkF m pc Ls (.ref a :: st)) rfl rfl (hb C.2.1 hd) t) k
end OwnKit
theorem own_pd0 : parseMethodDescriptor "([BII)I" = some ⟨[(.array .byte), .int, .int], some .int⟩ := by decide +kernel
theorem own_pd1 : parseMethodDescriptor "([BIII[II)Z" = some ⟨[(.array .byte), .int, .int, .int, (.array .int), .int], some .boolean⟩ := by decide +kernel
theorem own_ilt {v w : Int32} (K : Int) (hw : w.toInt = v.toInt + K) (h0 : 0 ≤ K) (h1 : K ≤ 4) (h : ¬ v < 0 ∧ v < 4) : ¬ w < 0 ∧ w < 8 := by
  have l0 : (0 : Int32).toInt = 0 := rfl
  have l4 : (4 : Int32).toInt = 4 := rfl
  have l8 : (8 : Int32).toInt = 8 := rfl
  simp only [Int32.lt_iff_toInt_lt, l0, l4, l8] at h ⊢
  omega
theorem own_plus {v : Int32} (h : 0 ≤ v.toInt) (h1 : v.toInt < 1000) : (v + (1 : Int32)).toInt = v.toInt + 1 := by
  have l1 : (1 : Int32).toInt = 1 := rfl
  have c1 := c_iadd v 1
  have r1 := rng32 (v + 1)
  rw [l1] at c1
  omega
theorem own_nn {v : Int32} (h : ¬ v < 0 ∧ v < 4) : 0 ≤ v.toInt ∧ v.toInt < 4 := by
  have l0 : (0 : Int32).toInt = 0 := rfl
  have l4 : (4 : Int32).toInt = 4 := rfl
  simp only [Int32.lt_iff_toInt_lt, l0, l4] at h
  omega
theorem own_i0 {v : Int32} (h : ¬ v < 0 ∧ v < 4) : ¬ v < 0 ∧ v < 8 := own_ilt 0 (by omega) (by omega) (by omega) h
theorem own_i1 {v : Int32} (h : ¬ v < 0 ∧ v < 4) : ¬ (v + (1 : Int32)) < 0 ∧ (v + (1 : Int32)) < 8 := by
  have q := own_nn h
  have p1 := own_plus q.1 (by omega)
  exact own_ilt 1 (by omega) (by omega) (by omega) h
theorem own_i2 {v : Int32} (h : ¬ v < 0 ∧ v < 4) : ¬ ((v + (1 : Int32)) + (1 : Int32)) < 0 ∧ ((v + (1 : Int32)) + (1 : Int32)) < 8 := by
  have q := own_nn h
  have p1 := own_plus q.1 (by omega)
  have p2 := own_plus (v := v + 1) (by omega) (by omega)
  exact own_ilt 2 (by omega) (by omega) (by omega) h
theorem own_i3 {v : Int32} (h : ¬ v < 0 ∧ v < 4) : ¬ (((v + (1 : Int32)) + (1 : Int32)) + (1 : Int32)) < 0 ∧ (((v + (1 : Int32)) + (1 : Int32)) + (1 : Int32)) < 8 := by
  have q := own_nn h
  have p1 := own_plus q.1 (by omega)
  have p2 := own_plus (v := v + 1) (by omega) (by omega)
  have p3 := own_plus (v := v + 1 + 1) (by omega) (by omega)
  exact own_ilt 3 (by omega) (by omega) (by omega) h
theorem own_ix {v1 v2 v3 : Int32} (h1 : ¬ v1 < 0 ∧ v1 < 8) (h2 : ¬ v2 < 0 ∧ v2 < 4) (h3 : ¬ v3 < 1 ∧ v3 < 5) (hc2 : ¬ v1 < v2) (hc9 : v1 < (v2 + v3)) : ¬ (v1 - v2) < 0 ∧ (v1 - v2) < 4 := by
  have l0 : (0 : Int32).toInt = 0 := rfl
  have l1 : (1 : Int32).toInt = 1 := rfl
  have l4 : (4 : Int32).toInt = 4 := rfl
  have l5 : (5 : Int32).toInt = 5 := rfl
  have l8 : (8 : Int32).toInt = 8 := rfl
  have c1 := c_iadd v2 v3
  have r1 := rng32 (v2 + v3)
  have c2 := c_isub v1 v2
  have r2 := rng32 (v1 - v2)
  simp only [Int32.lt_iff_toInt_lt, l0, l1, l4, l5, l8] at *
  omega
theorem own_and3 (x : Int32) : ¬ (x &&& (3 : Int32)) < 0 ∧ (x &&& (3 : Int32)) < 4 := by
  have l0 : (0 : Int32).toInt = 0 := rfl
  have l4 : (4 : Int32).toInt = 4 := rfl
  have := c_mask x 3 2 (by decide) (by decide)
  simp only [Int32.lt_iff_toInt_lt, l0, l4]
  omega
theorem own_n {v : Int32} (h : ¬ v < 0 ∧ v < 4) : ¬ (v + (1 : Int32)) < 1 ∧ (v + (1 : Int32)) < 5 := by
  have l1 : (1 : Int32).toInt = 1 := rfl
  have l5 : (5 : Int32).toInt = 5 := rfl
  have q := own_nn h
  have p1 := own_plus q.1 (by omega)
  simp only [Int32.lt_iff_toInt_lt, l1, l5]
  omega
/-! Utf8.put -/
theorem own_d1_0 : decode prog_55_method_17_code 0 = .ok (.iload_n 1, 1) := by decide +kernel
theorem own_d1_1 : decode prog_55_method_17_code 1 = .ok (.istore_n 3, 1) := by decide +kernel
theorem own_d1_2 : decode prog_55_method_17_code 2 = .ok (.iload_n 2, 1) := by decide +kernel
theorem own_d1_3 : decode prog_55_method_17_code 3 = .ok (.sipush 128, 3) := by decide +kernel
theorem own_d1_6 : decode prog_55_method_17_code 6 = .ok (.if_icmp .ge 14, 3) := by decide +kernel
theorem own_d1_9 : decode prog_55_method_17_code 9 = .ok (.aload_n 0, 1) := by decide +kernel
theorem own_d1_10 : decode prog_55_method_17_code 10 = .ok (.iload_n 3, 1) := by decide +kernel
theorem own_d1_11 : decode prog_55_method_17_code 11 = .ok (.iinc 3 1, 3) := by decide +kernel
theorem own_d1_14 : decode prog_55_method_17_code 14 = .ok (.iload_n 2, 1) := by decide +kernel
theorem own_d1_15 : decode prog_55_method_17_code 15 = .ok (.i2b, 1) := by decide +kernel
theorem own_d1_16 : decode prog_55_method_17_code 16 = .ok (.bastore, 1) := by decide +kernel
theorem own_d1_17 : decode prog_55_method_17_code 17 = .ok (.goto 166, 3) := by decide +kernel
theorem own_d1_20 : decode prog_55_method_17_code 20 = .ok (.iload_n 2, 1) := by decide +kernel
theorem own_d1_21 : decode prog_55_method_17_code 21 = .ok (.sipush 2048, 3) := by decide +kernel
theorem own_d1_24 : decode prog_55_method_17_code 24 = .ok (.if_icmp .ge 36, 3) := by decide +kernel
theorem own_d1_27 : decode prog_55_method_17_code 27 = .ok (.aload_n 0, 1) := by decide +kernel
theorem own_d1_28 : decode prog_55_method_17_code 28 = .ok (.iload_n 3, 1) := by decide +kernel
theorem own_d1_29 : decode prog_55_method_17_code 29 = .ok (.iinc 3 1, 3) := by decide +kernel
theorem own_d1_32 : decode prog_55_method_17_code 32 = .ok (.sipush 192, 3) := by decide +kernel
theorem own_d1_35 : decode prog_55_method_17_code 35 = .ok (.iload_n 2, 1) := by decide +kernel
theorem own_d1_36 : decode prog_55_method_17_code 36 = .ok (.bipush 6, 2) := by decide +kernel
theorem own_d1_38 : decode prog_55_method_17_code 38 = .ok (.ishr, 1) := by decide +kernel
theorem own_d1_39 : decode prog_55_method_17_code 39 = .ok (.ior, 1) := by decide +kernel
theorem own_d1_40 : decode prog_55_method_17_code 40 = .ok (.i2b, 1) := by decide +kernel
theorem own_d1_41 : decode prog_55_method_17_code 41 = .ok (.bastore, 1) := by decide +kernel
theorem own_d1_42 : decode prog_55_method_17_code 42 = .ok (.aload_n 0, 1) := by decide +kernel
theorem own_d1_43 : decode prog_55_method_17_code 43 = .ok (.iload_n 3, 1) := by decide +kernel
theorem own_d1_44 : decode prog_55_method_17_code 44 = .ok (.iinc 3 1, 3) := by decide +kernel
theorem own_d1_47 : decode prog_55_method_17_code 47 = .ok (.sipush 128, 3) := by decide +kernel
theorem own_d1_50 : decode prog_55_method_17_code 50 = .ok (.iload_n 2, 1) := by decide +kernel
theorem own_d1_51 : decode prog_55_method_17_code 51 = .ok (.bipush 63, 2) := by decide +kernel
theorem own_d1_53 : decode prog_55_method_17_code 53 = .ok (.iand, 1) := by decide +kernel
theorem own_d1_54 : decode prog_55_method_17_code 54 = .ok (.ior, 1) := by decide +kernel
theorem own_d1_55 : decode prog_55_method_17_code 55 = .ok (.i2b, 1) := by decide +kernel
theorem own_d1_56 : decode prog_55_method_17_code 56 = .ok (.bastore, 1) := by decide +kernel
theorem own_d1_57 : decode prog_55_method_17_code 57 = .ok (.goto 126, 3) := by decide +kernel
theorem own_d1_60 : decode prog_55_method_17_code 60 = .ok (.iload_n 2, 1) := by decide +kernel
theorem own_d1_61 : decode prog_55_method_17_code 61 = .ok (.ldc 100, 2) := by decide +kernel
theorem own_d1_63 : decode prog_55_method_17_code 63 = .ok (.if_icmp .ge 54, 3) := by decide +kernel
theorem own_d1_66 : decode prog_55_method_17_code 66 = .ok (.aload_n 0, 1) := by decide +kernel
theorem own_d1_67 : decode prog_55_method_17_code 67 = .ok (.iload_n 3, 1) := by decide +kernel
theorem own_d1_68 : decode prog_55_method_17_code 68 = .ok (.iinc 3 1, 3) := by decide +kernel
theorem own_d1_71 : decode prog_55_method_17_code 71 = .ok (.sipush 224, 3) := by decide +kernel
theorem own_d1_74 : decode prog_55_method_17_code 74 = .ok (.iload_n 2, 1) := by decide +kernel
theorem own_d1_75 : decode prog_55_method_17_code 75 = .ok (.bipush 12, 2) := by decide +kernel
theorem own_d1_77 : decode prog_55_method_17_code 77 = .ok (.ishr, 1) := by decide +kernel
theorem own_d1_78 : decode prog_55_method_17_code 78 = .ok (.ior, 1) := by decide +kernel
theorem own_d1_79 : decode prog_55_method_17_code 79 = .ok (.i2b, 1) := by decide +kernel
theorem own_d1_80 : decode prog_55_method_17_code 80 = .ok (.bastore, 1) := by decide +kernel
theorem own_d1_81 : decode prog_55_method_17_code 81 = .ok (.aload_n 0, 1) := by decide +kernel
theorem own_d1_82 : decode prog_55_method_17_code 82 = .ok (.iload_n 3, 1) := by decide +kernel
theorem own_d1_83 : decode prog_55_method_17_code 83 = .ok (.iinc 3 1, 3) := by decide +kernel
theorem own_d1_86 : decode prog_55_method_17_code 86 = .ok (.sipush 128, 3) := by decide +kernel
theorem own_d1_89 : decode prog_55_method_17_code 89 = .ok (.iload_n 2, 1) := by decide +kernel
theorem own_d1_90 : decode prog_55_method_17_code 90 = .ok (.bipush 6, 2) := by decide +kernel
theorem own_d1_92 : decode prog_55_method_17_code 92 = .ok (.ishr, 1) := by decide +kernel
theorem own_d1_93 : decode prog_55_method_17_code 93 = .ok (.bipush 63, 2) := by decide +kernel
theorem own_d1_95 : decode prog_55_method_17_code 95 = .ok (.iand, 1) := by decide +kernel
theorem own_d1_96 : decode prog_55_method_17_code 96 = .ok (.ior, 1) := by decide +kernel
theorem own_d1_97 : decode prog_55_method_17_code 97 = .ok (.i2b, 1) := by decide +kernel
theorem own_d1_98 : decode prog_55_method_17_code 98 = .ok (.bastore, 1) := by decide +kernel
theorem own_d1_99 : decode prog_55_method_17_code 99 = .ok (.aload_n 0, 1) := by decide +kernel
theorem own_d1_100 : decode prog_55_method_17_code 100 = .ok (.iload_n 3, 1) := by decide +kernel
theorem own_d1_101 : decode prog_55_method_17_code 101 = .ok (.iinc 3 1, 3) := by decide +kernel
theorem own_d1_104 : decode prog_55_method_17_code 104 = .ok (.sipush 128, 3) := by decide +kernel
theorem own_d1_107 : decode prog_55_method_17_code 107 = .ok (.iload_n 2, 1) := by decide +kernel
theorem own_d1_108 : decode prog_55_method_17_code 108 = .ok (.bipush 63, 2) := by decide +kernel
theorem own_d1_110 : decode prog_55_method_17_code 110 = .ok (.iand, 1) := by decide +kernel
theorem own_d1_111 : decode prog_55_method_17_code 111 = .ok (.ior, 1) := by decide +kernel
theorem own_d1_112 : decode prog_55_method_17_code 112 = .ok (.i2b, 1) := by decide +kernel
theorem own_d1_113 : decode prog_55_method_17_code 113 = .ok (.bastore, 1) := by decide +kernel
theorem own_d1_114 : decode prog_55_method_17_code 114 = .ok (.goto 69, 3) := by decide +kernel
theorem own_d1_117 : decode prog_55_method_17_code 117 = .ok (.aload_n 0, 1) := by decide +kernel
theorem own_d1_118 : decode prog_55_method_17_code 118 = .ok (.iload_n 3, 1) := by decide +kernel
theorem own_d1_119 : decode prog_55_method_17_code 119 = .ok (.iinc 3 1, 3) := by decide +kernel
theorem own_d1_122 : decode prog_55_method_17_code 122 = .ok (.sipush 240, 3) := by decide +kernel
theorem own_d1_125 : decode prog_55_method_17_code 125 = .ok (.iload_n 2, 1) := by decide +kernel
theorem own_d1_126 : decode prog_55_method_17_code 126 = .ok (.bipush 18, 2) := by decide +kernel
theorem own_d1_128 : decode prog_55_method_17_code 128 = .ok (.ishr, 1) := by decide +kernel
theorem own_d1_129 : decode prog_55_method_17_code 129 = .ok (.ior, 1) := by decide +kernel
theorem own_d1_130 : decode prog_55_method_17_code 130 = .ok (.i2b, 1) := by decide +kernel
theorem own_d1_131 : decode prog_55_method_17_code 131 = .ok (.bastore, 1) := by decide +kernel
theorem own_d1_132 : decode prog_55_method_17_code 132 = .ok (.aload_n 0, 1) := by decide +kernel
theorem own_d1_133 : decode prog_55_method_17_code 133 = .ok (.iload_n 3, 1) := by decide +kernel
theorem own_d1_134 : decode prog_55_method_17_code 134 = .ok (.iinc 3 1, 3) := by decide +kernel
theorem own_d1_137 : decode prog_55_method_17_code 137 = .ok (.sipush 128, 3) := by decide +kernel
theorem own_d1_140 : decode prog_55_method_17_code 140 = .ok (.iload_n 2, 1) := by decide +kernel
theorem own_d1_141 : decode prog_55_method_17_code 141 = .ok (.bipush 12, 2) := by decide +kernel
theorem own_d1_143 : decode prog_55_method_17_code 143 = .ok (.ishr, 1) := by decide +kernel
theorem own_d1_144 : decode prog_55_method_17_code 144 = .ok (.bipush 63, 2) := by decide +kernel
theorem own_d1_146 : decode prog_55_method_17_code 146 = .ok (.iand, 1) := by decide +kernel
theorem own_d1_147 : decode prog_55_method_17_code 147 = .ok (.ior, 1) := by decide +kernel
theorem own_d1_148 : decode prog_55_method_17_code 148 = .ok (.i2b, 1) := by decide +kernel
theorem own_d1_149 : decode prog_55_method_17_code 149 = .ok (.bastore, 1) := by decide +kernel
theorem own_d1_150 : decode prog_55_method_17_code 150 = .ok (.aload_n 0, 1) := by decide +kernel
theorem own_d1_151 : decode prog_55_method_17_code 151 = .ok (.iload_n 3, 1) := by decide +kernel
theorem own_d1_152 : decode prog_55_method_17_code 152 = .ok (.iinc 3 1, 3) := by decide +kernel
theorem own_d1_155 : decode prog_55_method_17_code 155 = .ok (.sipush 128, 3) := by decide +kernel
theorem own_d1_158 : decode prog_55_method_17_code 158 = .ok (.iload_n 2, 1) := by decide +kernel
theorem own_d1_159 : decode prog_55_method_17_code 159 = .ok (.bipush 6, 2) := by decide +kernel
theorem own_d1_161 : decode prog_55_method_17_code 161 = .ok (.ishr, 1) := by decide +kernel
theorem own_d1_162 : decode prog_55_method_17_code 162 = .ok (.bipush 63, 2) := by decide +kernel
theorem own_d1_164 : decode prog_55_method_17_code 164 = .ok (.iand, 1) := by decide +kernel
theorem own_d1_165 : decode prog_55_method_17_code 165 = .ok (.ior, 1) := by decide +kernel
theorem own_d1_166 : decode prog_55_method_17_code 166 = .ok (.i2b, 1) := by decide +kernel
theorem own_d1_167 : decode prog_55_method_17_code 167 = .ok (.bastore, 1) := by decide +kernel
theorem own_d1_168 : decode prog_55_method_17_code 168 = .ok (.aload_n 0, 1) := by decide +kernel
theorem own_d1_169 : decode prog_55_method_17_code 169 = .ok (.iload_n 3, 1) := by decide +kernel
theorem own_d1_170 : decode prog_55_method_17_code 170 = .ok (.iinc 3 1, 3) := by decide +kernel
theorem own_d1_173 : decode prog_55_method_17_code 173 = .ok (.sipush 128, 3) := by decide +kernel
theorem own_d1_176 : decode prog_55_method_17_code 176 = .ok (.iload_n 2, 1) := by decide +kernel
theorem own_d1_177 : decode prog_55_method_17_code 177 = .ok (.bipush 63, 2) := by decide +kernel
theorem own_d1_179 : decode prog_55_method_17_code 179 = .ok (.iand, 1) := by decide +kernel
theorem own_d1_180 : decode prog_55_method_17_code 180 = .ok (.ior, 1) := by decide +kernel
theorem own_d1_181 : decode prog_55_method_17_code 181 = .ok (.i2b, 1) := by decide +kernel
theorem own_d1_182 : decode prog_55_method_17_code 182 = .ok (.bastore, 1) := by decide +kernel
theorem own_d1_183 : decode prog_55_method_17_code 183 = .ok (.iload_n 3, 1) := by decide +kernel
theorem own_d1_184 : decode prog_55_method_17_code 184 = .ok (.ireturn, 1) := by decide +kernel
def own_R1 : Room := { frames := 0, cells := 0, slots := 0, locals := 0 }
def own_P1 (Z : State) (h : Heap) (v0 : Addr) (r : Int32 × List Int32) (v : Option Value) (h' : Heap) : Prop := v = some (.int r.1) ∧ Keep h h' [v0] ∧ own_Ia Z h' v0 .byte (8 : Int32) r.2
def f1_0 (v1 : Int32) (v2 : Int32) (xs_v0 : List Int32) : Int32 × List Int32 := (if v2 < (128 : Int32) then ((v1 + (1 : Int32)), (xs_v0.set (v1).toNatClampNeg ((v2.toInt8.toInt32).toInt8.toInt32))) else (if v2 < (2048 : Int32) then (((v1 + (1 : Int32)) + (1 : Int32)), ((xs_v0.set (v1).toNatClampNeg ((((192 : Int32) ||| (v2 >>> ((6 : Int32) &&& 31))).toInt8.toInt32).toInt8.toInt32)).set ((v1 + (1 : Int32))).toNatClampNeg ((((128 : Int32) ||| (v2 &&& (63 : Int32))).toInt8.toInt32).toInt8.toInt32))) else (if v2 < (65536 : Int32) then ((((v1 + (1 : Int32)) + (1 : Int32)) + (1 : Int32)), (((xs_v0.set (v1).toNatClampNeg ((((224 : Int32) ||| (v2 >>> ((12 : Int32) &&& 31))).toInt8.toInt32).toInt8.toInt32)).set ((v1 + (1 : Int32))).toNatClampNeg ((((128 : Int32) ||| ((v2 >>> ((6 : Int32) &&& 31)) &&& (63 : Int32))).toInt8.toInt32).toInt8.toInt32)).set (((v1 + (1 : Int32)) + (1 : Int32))).toNatClampNeg ((((128 : Int32) ||| (v2 &&& (63 : Int32))).toInt8.toInt32).toInt8.toInt32))) else (((((v1 + (1 : Int32)) + (1 : Int32)) + (1 : Int32)) + (1 : Int32)), ((((xs_v0.set (v1).toNatClampNeg ((((240 : Int32) ||| (v2 >>> ((18 : Int32) &&& 31))).toInt8.toInt32).toInt8.toInt32)).set ((v1 + (1 : Int32))).toNatClampNeg ((((128 : Int32) ||| ((v2 >>> ((12 : Int32) &&& 31)) &&& (63 : Int32))).toInt8.toInt32).toInt8.toInt32)).set (((v1 + (1 : Int32)) + (1 : Int32))).toNatClampNeg ((((128 : Int32) ||| ((v2 >>> ((6 : Int32) &&& 31)) &&& (63 : Int32))).toInt8.toInt32).toInt8.toInt32)).set ((((v1 + (1 : Int32)) + (1 : Int32)) + (1 : Int32))).toNatClampNeg ((((128 : Int32) ||| (v2 &&& (63 : Int32))).toInt8.toInt32).toInt8.toInt32))))))
set_option maxRecDepth 65536 in
set_option maxHeartbeats 4000000 in
theorem w1_0 {Z : State} {a0 : Array Value} {p : Program} {l : Launch} {e : Env} {s : State} {m : MethodId} {args : Array Value} {below : List Frame} {meth : Method} {c : Code} {T : State} {h : Heap} {n0 : Nat} {hE : Heap} {v0 : Addr} (C : own_Cx Z a0 p l e own_R1 s m args below meth c "com/example/prim_json/primjson/Utf8" "put" prog_55_method_17_code 4 (some .int)) (A : own_At p l e own_R1 s m args below meth c T h n0 0 0) (v1 : Int32) (v2 : Int32) (xs_v0 : List Int32) (V_v0 : own_Ia Z h v0 .byte (8 : Int32) xs_v0) (g_v0 : n0 ≤ v0) (K : Keep hE h [v0]) (hv1 : ¬ v1 < 0 ∧ v1 < 4) :
    own_Go p.tables e below (T.setTop (mkF m 0 #[.val (.ref v0), .val (.int v1), .val (.int v2), .unset] [])) (own_QR s n0 0 0 (own_P1 Z hE v0 (f1_0 v1 v2 xs_v0))) := by
  unfold f1_0
  refine own_iloadN C A own_d1_0 rfl rfl ?_
  refine own_istoreN C A own_d1_1 (l' := #[.val (.ref v0), .val (.int v1), .val (.int v2), .val (.int v1)]) rfl rfl ?_
  refine own_iloadN C A own_d1_2 rfl rfl ?_
  refine own_sipush C A own_d1_3 (v := 128) rfl rfl ?_
  refine own_ite (fun hc6 => ?_) (fun hc6 => ?_)
  · refine own_icmpN C A own_d1_6 (Jvm.Free.XT.ii_ge_f hc6) rfl ?_
    refine own_aloadN C A own_d1_9 rfl rfl rfl ?_
    refine own_iloadN C A own_d1_10 rfl rfl ?_
    refine own_iinc C A own_d1_11 rfl (l' := #[.val (.ref v0), .val (.int v1), .val (.int v2), .val (.int (v1 + (1 : Int32)))]) rfl rfl ?_
    refine own_iloadN C A own_d1_14 rfl rfl ?_
    refine own_i2b C A own_d1_15 rfl ?_
    refine own_bastore C A V_v0 (own_i0 hv1) (ys := (xs_v0.set (v1).toNatClampNeg ((v2.toInt8.toInt32).toInt8.toInt32))) rfl g_v0 own_d1_16 rfl (fun T h Kw V_v0 A => ?_)
    have K := K.trans Kw (allS (Or.inl (List.mem_of_getElem? (i := 0) rfl)) all0)
    refine own_goto C A own_d1_17 (by decide) (q := 183) (by decide) ?_
    refine own_iloadN C A own_d1_183 rfl rfl ?_
    exact own_retI C A own_d1_184 ⟨rfl, K, V_v0⟩
  · refine own_icmpY C A own_d1_6 (Jvm.Free.XT.ii_ge_t hc6) (by decide) (q := 20) (by decide) ?_
    refine own_iloadN C A own_d1_20 rfl rfl ?_
    refine own_sipush C A own_d1_21 (v := 2048) rfl rfl ?_
    refine own_ite (fun hc24 => ?_) (fun hc24 => ?_)
    · refine own_icmpN C A own_d1_24 (Jvm.Free.XT.ii_ge_f hc24) rfl ?_
      refine own_aloadN C A own_d1_27 rfl rfl rfl ?_
      refine own_iloadN C A own_d1_28 rfl rfl ?_
      refine own_iinc C A own_d1_29 rfl (l' := #[.val (.ref v0), .val (.int v1), .val (.int v2), .val (.int (v1 + (1 : Int32)))]) rfl rfl ?_
      refine own_sipush C A own_d1_32 (v := 192) rfl rfl ?_
      refine own_iloadN C A own_d1_35 rfl rfl ?_
      refine own_bipush C A own_d1_36 (v := 6) rfl rfl ?_
      refine own_ishr C A own_d1_38 rfl ?_
      refine own_ior C A own_d1_39 rfl ?_
      refine own_i2b C A own_d1_40 rfl ?_
      refine own_bastore C A V_v0 (own_i0 hv1) (ys := (xs_v0.set (v1).toNatClampNeg ((((192 : Int32) ||| (v2 >>> ((6 : Int32) &&& 31))).toInt8.toInt32).toInt8.toInt32))) rfl g_v0 own_d1_41 rfl (fun T h Kw V_v0 A => ?_)
      have K := K.trans Kw (allS (Or.inl (List.mem_of_getElem? (i := 0) rfl)) all0)
      refine own_aloadN C A own_d1_42 rfl rfl rfl ?_
      refine own_iloadN C A own_d1_43 rfl rfl ?_
      refine own_iinc C A own_d1_44 rfl (l' := #[.val (.ref v0), .val (.int v1), .val (.int v2), .val (.int ((v1 + (1 : Int32)) + (1 : Int32)))]) rfl rfl ?_
      refine own_sipush C A own_d1_47 (v := 128) rfl rfl ?_
      refine own_iloadN C A own_d1_50 rfl rfl ?_
      refine own_bipush C A own_d1_51 (v := 63) rfl rfl ?_
      refine own_iand C A own_d1_53 rfl ?_
      refine own_ior C A own_d1_54 rfl ?_
      refine own_i2b C A own_d1_55 rfl ?_
      refine own_bastore C A V_v0 (own_i1 hv1) (ys := ((xs_v0.set (v1).toNatClampNeg ((((192 : Int32) ||| (v2 >>> ((6 : Int32) &&& 31))).toInt8.toInt32).toInt8.toInt32)).set ((v1 + (1 : Int32))).toNatClampNeg ((((128 : Int32) ||| (v2 &&& (63 : Int32))).toInt8.toInt32).toInt8.toInt32))) rfl g_v0 own_d1_56 rfl (fun T h Kw V_v0 A => ?_)
      have K := K.trans Kw (allS (Or.inl (List.mem_of_getElem? (i := 0) rfl)) all0)
      refine own_goto C A own_d1_57 (by decide) (q := 183) (by decide) ?_
      refine own_iloadN C A own_d1_183 rfl rfl ?_
      exact own_retI C A own_d1_184 ⟨rfl, K, V_v0⟩
    · refine own_icmpY C A own_d1_24 (Jvm.Free.XT.ii_ge_t hc24) (by decide) (q := 60) (by decide) ?_
      refine own_iloadN C A own_d1_60 rfl rfl ?_
      refine own_ldcI C A (own_w C 14 rfl) own_d1_61 rfl ?_
      refine own_ite (fun hc63 => ?_) (fun hc63 => ?_)
      · refine own_icmpN C A own_d1_63 (Jvm.Free.XT.ii_ge_f hc63) rfl ?_
        refine own_aloadN C A own_d1_66 rfl rfl rfl ?_
        refine own_iloadN C A own_d1_67 rfl rfl ?_
        refine own_iinc C A own_d1_68 rfl (l' := #[.val (.ref v0), .val (.int v1), .val (.int v2), .val (.int (v1 + (1 : Int32)))]) rfl rfl ?_
        refine own_sipush C A own_d1_71 (v := 224) rfl rfl ?_
        refine own_iloadN C A own_d1_74 rfl rfl ?_
        refine own_bipush C A own_d1_75 (v := 12) rfl rfl ?_
        refine own_ishr C A own_d1_77 rfl ?_
        refine own_ior C A own_d1_78 rfl ?_
        refine own_i2b C A own_d1_79 rfl ?_
        refine own_bastore C A V_v0 (own_i0 hv1) (ys := (xs_v0.set (v1).toNatClampNeg ((((224 : Int32) ||| (v2 >>> ((12 : Int32) &&& 31))).toInt8.toInt32).toInt8.toInt32))) rfl g_v0 own_d1_80 rfl (fun T h Kw V_v0 A => ?_)
        have K := K.trans Kw (allS (Or.inl (List.mem_of_getElem? (i := 0) rfl)) all0)
        refine own_aloadN C A own_d1_81 rfl rfl rfl ?_
        refine own_iloadN C A own_d1_82 rfl rfl ?_
        refine own_iinc C A own_d1_83 rfl (l' := #[.val (.ref v0), .val (.int v1), .val (.int v2), .val (.int ((v1 + (1 : Int32)) + (1 : Int32)))]) rfl rfl ?_
        refine own_sipush C A own_d1_86 (v := 128) rfl rfl ?_
        refine own_iloadN C A own_d1_89 rfl rfl ?_
        refine own_bipush C A own_d1_90 (v := 6) rfl rfl ?_
        refine own_ishr C A own_d1_92 rfl ?_
        refine own_bipush C A own_d1_93 (v := 63) rfl rfl ?_
        refine own_iand C A own_d1_95 rfl ?_
        refine own_ior C A own_d1_96 rfl ?_
        refine own_i2b C A own_d1_97 rfl ?_
        refine own_bastore C A V_v0 (own_i1 hv1) (ys := ((xs_v0.set (v1).toNatClampNeg ((((224 : Int32) ||| (v2 >>> ((12 : Int32) &&& 31))).toInt8.toInt32).toInt8.toInt32)).set ((v1 + (1 : Int32))).toNatClampNeg ((((128 : Int32) ||| ((v2 >>> ((6 : Int32) &&& 31)) &&& (63 : Int32))).toInt8.toInt32).toInt8.toInt32))) rfl g_v0 own_d1_98 rfl (fun T h Kw V_v0 A => ?_)
        have K := K.trans Kw (allS (Or.inl (List.mem_of_getElem? (i := 0) rfl)) all0)
        refine own_aloadN C A own_d1_99 rfl rfl rfl ?_
        refine own_iloadN C A own_d1_100 rfl rfl ?_
        refine own_iinc C A own_d1_101 rfl (l' := #[.val (.ref v0), .val (.int v1), .val (.int v2), .val (.int (((v1 + (1 : Int32)) + (1 : Int32)) + (1 : Int32)))]) rfl rfl ?_
        refine own_sipush C A own_d1_104 (v := 128) rfl rfl ?_
        refine own_iloadN C A own_d1_107 rfl rfl ?_
        refine own_bipush C A own_d1_108 (v := 63) rfl rfl ?_
        refine own_iand C A own_d1_110 rfl ?_
        refine own_ior C A own_d1_111 rfl ?_
        refine own_i2b C A own_d1_112 rfl ?_
        refine own_bastore C A V_v0 (own_i2 hv1) (ys := (((xs_v0.set (v1).toNatClampNeg ((((224 : Int32) ||| (v2 >>> ((12 : Int32) &&& 31))).toInt8.toInt32).toInt8.toInt32)).set ((v1 + (1 : Int32))).toNatClampNeg ((((128 : Int32) ||| ((v2 >>> ((6 : Int32) &&& 31)) &&& (63 : Int32))).toInt8.toInt32).toInt8.toInt32)).set (((v1 + (1 : Int32)) + (1 : Int32))).toNatClampNeg ((((128 : Int32) ||| (v2 &&& (63 : Int32))).toInt8.toInt32).toInt8.toInt32))) rfl g_v0 own_d1_113 rfl (fun T h Kw V_v0 A => ?_)
        have K := K.trans Kw (allS (Or.inl (List.mem_of_getElem? (i := 0) rfl)) all0)
        refine own_goto C A own_d1_114 (by decide) (q := 183) (by decide) ?_
        refine own_iloadN C A own_d1_183 rfl rfl ?_
        exact own_retI C A own_d1_184 ⟨rfl, K, V_v0⟩
      · refine own_icmpY C A own_d1_63 (Jvm.Free.XT.ii_ge_t hc63) (by decide) (q := 117) (by decide) ?_
        refine own_aloadN C A own_d1_117 rfl rfl rfl ?_
        refine own_iloadN C A own_d1_118 rfl rfl ?_
        refine own_iinc C A own_d1_119 rfl (l' := #[.val (.ref v0), .val (.int v1), .val (.int v2), .val (.int (v1 + (1 : Int32)))]) rfl rfl ?_
        refine own_sipush C A own_d1_122 (v := 240) rfl rfl ?_
        refine own_iloadN C A own_d1_125 rfl rfl ?_
        refine own_bipush C A own_d1_126 (v := 18) rfl rfl ?_
        refine own_ishr C A own_d1_128 rfl ?_
        refine own_ior C A own_d1_129 rfl ?_
        refine own_i2b C A own_d1_130 rfl ?_
        refine own_bastore C A V_v0 (own_i0 hv1) (ys := (xs_v0.set (v1).toNatClampNeg ((((240 : Int32) ||| (v2 >>> ((18 : Int32) &&& 31))).toInt8.toInt32).toInt8.toInt32))) rfl g_v0 own_d1_131 rfl (fun T h Kw V_v0 A => ?_)
        have K := K.trans Kw (allS (Or.inl (List.mem_of_getElem? (i := 0) rfl)) all0)
        refine own_aloadN C A own_d1_132 rfl rfl rfl ?_
        refine own_iloadN C A own_d1_133 rfl rfl ?_
        refine own_iinc C A own_d1_134 rfl (l' := #[.val (.ref v0), .val (.int v1), .val (.int v2), .val (.int ((v1 + (1 : Int32)) + (1 : Int32)))]) rfl rfl ?_
        refine own_sipush C A own_d1_137 (v := 128) rfl rfl ?_
        refine own_iloadN C A own_d1_140 rfl rfl ?_
        refine own_bipush C A own_d1_141 (v := 12) rfl rfl ?_
        refine own_ishr C A own_d1_143 rfl ?_
        refine own_bipush C A own_d1_144 (v := 63) rfl rfl ?_
        refine own_iand C A own_d1_146 rfl ?_
        refine own_ior C A own_d1_147 rfl ?_
        refine own_i2b C A own_d1_148 rfl ?_
        refine own_bastore C A V_v0 (own_i1 hv1) (ys := ((xs_v0.set (v1).toNatClampNeg ((((240 : Int32) ||| (v2 >>> ((18 : Int32) &&& 31))).toInt8.toInt32).toInt8.toInt32)).set ((v1 + (1 : Int32))).toNatClampNeg ((((128 : Int32) ||| ((v2 >>> ((12 : Int32) &&& 31)) &&& (63 : Int32))).toInt8.toInt32).toInt8.toInt32))) rfl g_v0 own_d1_149 rfl (fun T h Kw V_v0 A => ?_)
        have K := K.trans Kw (allS (Or.inl (List.mem_of_getElem? (i := 0) rfl)) all0)
        refine own_aloadN C A own_d1_150 rfl rfl rfl ?_
        refine own_iloadN C A own_d1_151 rfl rfl ?_
        refine own_iinc C A own_d1_152 rfl (l' := #[.val (.ref v0), .val (.int v1), .val (.int v2), .val (.int (((v1 + (1 : Int32)) + (1 : Int32)) + (1 : Int32)))]) rfl rfl ?_
        refine own_sipush C A own_d1_155 (v := 128) rfl rfl ?_
        refine own_iloadN C A own_d1_158 rfl rfl ?_
        refine own_bipush C A own_d1_159 (v := 6) rfl rfl ?_
        refine own_ishr C A own_d1_161 rfl ?_
        refine own_bipush C A own_d1_162 (v := 63) rfl rfl ?_
        refine own_iand C A own_d1_164 rfl ?_
        refine own_ior C A own_d1_165 rfl ?_
        refine own_i2b C A own_d1_166 rfl ?_
        refine own_bastore C A V_v0 (own_i2 hv1) (ys := (((xs_v0.set (v1).toNatClampNeg ((((240 : Int32) ||| (v2 >>> ((18 : Int32) &&& 31))).toInt8.toInt32).toInt8.toInt32)).set ((v1 + (1 : Int32))).toNatClampNeg ((((128 : Int32) ||| ((v2 >>> ((12 : Int32) &&& 31)) &&& (63 : Int32))).toInt8.toInt32).toInt8.toInt32)).set (((v1 + (1 : Int32)) + (1 : Int32))).toNatClampNeg ((((128 : Int32) ||| ((v2 >>> ((6 : Int32) &&& 31)) &&& (63 : Int32))).toInt8.toInt32).toInt8.toInt32))) rfl g_v0 own_d1_167 rfl (fun T h Kw V_v0 A => ?_)
        have K := K.trans Kw (allS (Or.inl (List.mem_of_getElem? (i := 0) rfl)) all0)
        refine own_aloadN C A own_d1_168 rfl rfl rfl ?_
        refine own_iloadN C A own_d1_169 rfl rfl ?_
        refine own_iinc C A own_d1_170 rfl (l' := #[.val (.ref v0), .val (.int v1), .val (.int v2), .val (.int ((((v1 + (1 : Int32)) + (1 : Int32)) + (1 : Int32)) + (1 : Int32)))]) rfl rfl ?_
        refine own_sipush C A own_d1_173 (v := 128) rfl rfl ?_
        refine own_iloadN C A own_d1_176 rfl rfl ?_
        refine own_bipush C A own_d1_177 (v := 63) rfl rfl ?_
        refine own_iand C A own_d1_179 rfl ?_
        refine own_ior C A own_d1_180 rfl ?_
        refine own_i2b C A own_d1_181 rfl ?_
        refine own_bastore C A V_v0 (own_i3 hv1) (ys := ((((xs_v0.set (v1).toNatClampNeg ((((240 : Int32) ||| (v2 >>> ((18 : Int32) &&& 31))).toInt8.toInt32).toInt8.toInt32)).set ((v1 + (1 : Int32))).toNatClampNeg ((((128 : Int32) ||| ((v2 >>> ((12 : Int32) &&& 31)) &&& (63 : Int32))).toInt8.toInt32).toInt8.toInt32)).set (((v1 + (1 : Int32)) + (1 : Int32))).toNatClampNeg ((((128 : Int32) ||| ((v2 >>> ((6 : Int32) &&& 31)) &&& (63 : Int32))).toInt8.toInt32).toInt8.toInt32)).set ((((v1 + (1 : Int32)) + (1 : Int32)) + (1 : Int32))).toNatClampNeg ((((128 : Int32) ||| (v2 &&& (63 : Int32))).toInt8.toInt32).toInt8.toInt32))) rfl g_v0 own_d1_182 rfl (fun T h Kw V_v0 A => ?_)
        have K := K.trans Kw (allS (Or.inl (List.mem_of_getElem? (i := 0) rfl)) all0)
        refine own_iloadN C A own_d1_183 rfl rfl ?_
        exact own_retI C A own_d1_184 ⟨rfl, K, V_v0⟩
theorem own_ef1 (m : MethodId) (v0 : Addr) (v1 : Int32) (v2 : Int32) : entryFrame m #[(.ref v0), (.int v1), (.int v2)] 4 = mkF m 0 #[.val (.ref v0), .val (.int v1), .val (.int v2), .unset] [] := by first | (simp [entryFrame, mkF, argsToLocals, Value.category]; done) | rfl
theorem rm1 (l : Launch) (Z : State) (a0 : Array Value) (hw : ∀ d ∈ tables_1, d.before a0 Z = true) (ws : List Jvm.Cond) (v0 : Addr) (v1 : Int32) (v2 : Int32) (xs_v0 : List Int32) (h : Heap) (n0 : Nat) (hn : n0 ≤ h.size) (V_v0 : own_Ia Z h v0 .byte (8 : Int32) xs_v0) (g_v0 : n0 ≤ v0) (hv1 : ¬ v1 < 0 ∧ v1 < 4) :
    MetFree l (⟨"com/example/prim_json/primjson/Utf8", "put", "([BII)I"⟩ : MethodName) (head1 (Jvm.Cond.code (⟨"com/example/prim_json/primjson/Utf8", "put", "([BII)I"⟩ : MethodName) prog_55_method_17_code 4 (some .int) :: ws) own_R1) (fun a U => a = #[(.ref v0), (.int v1), (.int v2)] ∧ Z.Warmed39 U.vm ∧ U.heap = h) (fun _ _ _ _ _ => True) (fun _ U o U' => own_QR U n0 0 0 (own_P1 Z h v0 (f1_0 v1 v2 xs_v0)) o U') :=
  own_met (plainFor_of_name (by first | (simp [plainName, overriddenIn]; done) | decide +kernel)) hw hn (fun m => own_ef1 m v0 v1 v2) (fun p e s m below meth c T C A => w1_0 C A v1 v2 xs_v0 V_v0 g_v0 (Keep.refl h _) hv1)
/-! Utf8PutPinLaw.ok -/
theorem own_d2_0 : decode method_3_code 0 = .ok (.iload_n 1, 1) := by decide +kernel
theorem own_d2_1 : decode method_3_code 1 = .ok (.iload_n 2, 1) := by decide +kernel
theorem own_d2_2 : decode method_3_code 2 = .ok (.if_icmp .lt 10, 3) := by decide +kernel
theorem own_d2_5 : decode method_3_code 5 = .ok (.iload_n 1, 1) := by decide +kernel
theorem own_d2_6 : decode method_3_code 6 = .ok (.iload_n 2, 1) := by decide +kernel
theorem own_d2_7 : decode method_3_code 7 = .ok (.iload_n 3, 1) := by decide +kernel
theorem own_d2_8 : decode method_3_code 8 = .ok (.iadd, 1) := by decide +kernel
theorem own_d2_9 : decode method_3_code 9 = .ok (.if_icmp .lt 10, 3) := by decide +kernel
theorem own_d2_12 : decode method_3_code 12 = .ok (.iload 5, 2) := by decide +kernel
theorem own_d2_14 : decode method_3_code 14 = .ok (.istore 6, 2) := by decide +kernel
theorem own_d2_16 : decode method_3_code 16 = .ok (.goto 11, 3) := by decide +kernel
theorem own_d2_19 : decode method_3_code 19 = .ok (.aload 4, 2) := by decide +kernel
theorem own_d2_21 : decode method_3_code 21 = .ok (.iload_n 1, 1) := by decide +kernel
theorem own_d2_22 : decode method_3_code 22 = .ok (.iload_n 2, 1) := by decide +kernel
theorem own_d2_23 : decode method_3_code 23 = .ok (.isub, 1) := by decide +kernel
theorem own_d2_24 : decode method_3_code 24 = .ok (.iaload, 1) := by decide +kernel
theorem own_d2_25 : decode method_3_code 25 = .ok (.istore 6, 2) := by decide +kernel
theorem own_d2_27 : decode method_3_code 27 = .ok (.aload_n 0, 1) := by decide +kernel
theorem own_d2_28 : decode method_3_code 28 = .ok (.iload_n 1, 1) := by decide +kernel
theorem own_d2_29 : decode method_3_code 29 = .ok (.baload, 1) := by decide +kernel
theorem own_d2_30 : decode method_3_code 30 = .ok (.sipush 255, 3) := by decide +kernel
theorem own_d2_33 : decode method_3_code 33 = .ok (.iand, 1) := by decide +kernel
theorem own_d2_34 : decode method_3_code 34 = .ok (.iload 6, 2) := by decide +kernel
theorem own_d2_36 : decode method_3_code 36 = .ok (.if_icmp .ne 7, 3) := by decide +kernel
theorem own_d2_39 : decode method_3_code 39 = .ok (.iconst 1, 1) := by decide +kernel
theorem own_d2_40 : decode method_3_code 40 = .ok (.goto 4, 3) := by decide +kernel
theorem own_d2_43 : decode method_3_code 43 = .ok (.iconst 0, 1) := by decide +kernel
theorem own_d2_44 : decode method_3_code 44 = .ok (.ireturn, 1) := by decide +kernel
def own_R2 : Room := { frames := 0, cells := 0, slots := 0, locals := 0 }
def f2_27 (v1 : Int32) (v6 : Int32) (xs_v0 : List Int32) : Int32 := (if ((xs_v0.getD (v1).toNatClampNeg 0) &&& (255 : Int32)) = v6 then (1 : Int32) else (0 : Int32))
set_option maxRecDepth 65536 in
set_option maxHeartbeats 4000000 in
theorem w2_27 {Z : State} {a0 : Array Value} {p : Program} {l : Launch} {e : Env} {s : State} {m : MethodId} {args : Array Value} {below : List Frame} {meth : Method} {c : Code} {T : State} {h : Heap} {n0 : Nat} {v0 : Addr} {u2 : Int32} {u3 : Int32} {v4 : Addr} {u5 : Int32} (C : own_Cx Z a0 p l e own_R2 s m args below meth c "com/example/prim_json/primjson/Utf8PutPinLaw" "ok" method_3_code 7 (some .boolean)) (A : own_At p l e own_R2 s m args below meth c T h n0 0 0) (v1 : Int32) (v6 : Int32) (xs_v0 : List Int32) (V_v0 : own_Ia Z h v0 .byte (8 : Int32) xs_v0) (hv1 : ¬ v1 < 0 ∧ v1 < 8) :
    own_Go p.tables e below (T.setTop (mkF m 27 #[.val (.ref v0), .val (.int v1), .val (.int u2), .val (.int u3), .val (.ref v4), .val (.int u5), .val (.int v6)] [])) (own_QR s n0 0 0 (own_RI h (f2_27 v1 v6 xs_v0))) := by
  unfold f2_27
  refine own_aloadN C A own_d2_27 rfl rfl rfl ?_
  refine own_iloadN C A own_d2_28 rfl rfl ?_
  refine own_baload C A V_v0 hv1 (v := (xs_v0.getD (v1).toNatClampNeg 0)) rfl own_d2_29 rfl ?_
  refine own_sipush C A own_d2_30 (v := 255) rfl rfl ?_
  refine own_iand C A own_d2_33 rfl ?_
  refine own_iload C A own_d2_34 rfl rfl ?_
  refine own_ite (fun hc36 => ?_) (fun hc36 => ?_)
  · refine own_icmpN C A own_d2_36 (Jvm.Free.XT.ii_ne_f hc36) rfl ?_
    refine own_iconst C A own_d2_39 (v := 1) rfl rfl ?_
    refine own_goto C A own_d2_40 (by decide) (q := 44) (by decide) ?_
    exact own_retN C A (t := .boolean) (by simp) own_d2_44 ⟨rfl, rfl⟩
  · refine own_icmpY C A own_d2_36 (Jvm.Free.XT.ii_ne_t hc36) (by decide) (q := 43) (by decide) ?_
    refine own_iconst C A own_d2_43 (v := 0) rfl rfl ?_
    exact own_retN C A (t := .boolean) (by simp) own_d2_44 ⟨rfl, rfl⟩
def f2_12 (v1 : Int32) (v5 : Int32) (xs_v0 : List Int32) : Int32 := (f2_27 v1 v5 xs_v0)
set_option maxRecDepth 65536 in
set_option maxHeartbeats 4000000 in
theorem w2_12 {Z : State} {a0 : Array Value} {p : Program} {l : Launch} {e : Env} {s : State} {m : MethodId} {args : Array Value} {below : List Frame} {meth : Method} {c : Code} {T : State} {h : Heap} {n0 : Nat} {v0 : Addr} {u2 : Int32} {u3 : Int32} {v4 : Addr} (C : own_Cx Z a0 p l e own_R2 s m args below meth c "com/example/prim_json/primjson/Utf8PutPinLaw" "ok" method_3_code 7 (some .boolean)) (A : own_At p l e own_R2 s m args below meth c T h n0 0 0) (v1 : Int32) (v5 : Int32) (xs_v0 : List Int32) (V_v0 : own_Ia Z h v0 .byte (8 : Int32) xs_v0) (hv1 : ¬ v1 < 0 ∧ v1 < 8) :
    own_Go p.tables e below (T.setTop (mkF m 12 #[.val (.ref v0), .val (.int v1), .val (.int u2), .val (.int u3), .val (.ref v4), .val (.int v5), .unset] [])) (own_QR s n0 0 0 (own_RI h (f2_12 v1 v5 xs_v0))) := by
  unfold f2_12
  refine own_iload C A own_d2_12 rfl rfl ?_
  refine own_istore C A own_d2_14 (l' := #[.val (.ref v0), .val (.int v1), .val (.int u2), .val (.int u3), .val (.ref v4), .val (.int v5), .val (.int v5)]) rfl rfl ?_
  refine own_goto C A own_d2_16 (by decide) (q := 27) (by decide) ?_
  exact w2_27 C A v1 v5 xs_v0 V_v0 hv1
def f2_0 (v1 : Int32) (v2 : Int32) (v3 : Int32) (v5 : Int32) (xs_v0 : List Int32) (xs_v4 : List Int32) : Int32 := (if v1 < v2 then (f2_12 v1 v5 xs_v0) else (if v1 < (v2 + v3) then (f2_27 v1 (xs_v4.getD ((v1 - v2)).toNatClampNeg 0) xs_v0) else (f2_12 v1 v5 xs_v0)))
set_option maxRecDepth 65536 in
set_option maxHeartbeats 4000000 in
theorem w2_0 {Z : State} {a0 : Array Value} {p : Program} {l : Launch} {e : Env} {s : State} {m : MethodId} {args : Array Value} {below : List Frame} {meth : Method} {c : Code} {T : State} {h : Heap} {n0 : Nat} {v0 : Addr} {v4 : Addr} (C : own_Cx Z a0 p l e own_R2 s m args below meth c "com/example/prim_json/primjson/Utf8PutPinLaw" "ok" method_3_code 7 (some .boolean)) (A : own_At p l e own_R2 s m args below meth c T h n0 0 0) (v1 : Int32) (v2 : Int32) (v3 : Int32) (v5 : Int32) (xs_v0 : List Int32) (xs_v4 : List Int32) (V_v0 : own_Ia Z h v0 .byte (8 : Int32) xs_v0) (V_v4 : own_Ia Z h v4 .int (4 : Int32) xs_v4) (hv1 : ¬ v1 < 0 ∧ v1 < 8) (hv2 : ¬ v2 < 0 ∧ v2 < 4) (hv3 : ¬ v3 < 1 ∧ v3 < 5) :
    own_Go p.tables e below (T.setTop (mkF m 0 #[.val (.ref v0), .val (.int v1), .val (.int v2), .val (.int v3), .val (.ref v4), .val (.int v5), .unset] [])) (own_QR s n0 0 0 (own_RI h (f2_0 v1 v2 v3 v5 xs_v0 xs_v4))) := by
  unfold f2_0
  refine own_iloadN C A own_d2_0 rfl rfl ?_
  refine own_iloadN C A own_d2_1 rfl rfl ?_
  refine own_ite (fun hc2 => ?_) (fun hc2 => ?_)
  · refine own_icmpY C A own_d2_2 (Jvm.Free.XT.ii_lt_t hc2) (by decide) (q := 12) (by decide) ?_
    exact w2_12 C A v1 v5 xs_v0 V_v0 hv1
  · refine own_icmpN C A own_d2_2 (Jvm.Free.XT.ii_lt_f hc2) rfl ?_
    refine own_iloadN C A own_d2_5 rfl rfl ?_
    refine own_iloadN C A own_d2_6 rfl rfl ?_
    refine own_iloadN C A own_d2_7 rfl rfl ?_
    refine own_iadd C A own_d2_8 rfl ?_
    refine own_ite (fun hc9 => ?_) (fun hc9 => ?_)
    · refine own_icmpY C A own_d2_9 (Jvm.Free.XT.ii_lt_t hc9) (by decide) (q := 19) (by decide) ?_
      refine own_aload C A own_d2_19 rfl rfl rfl ?_
      refine own_iloadN C A own_d2_21 rfl rfl ?_
      refine own_iloadN C A own_d2_22 rfl rfl ?_
      refine own_isub C A own_d2_23 rfl ?_
      refine own_iaload C A V_v4 (own_ix hv1 hv2 hv3 hc2 hc9) (v := (xs_v4.getD ((v1 - v2)).toNatClampNeg 0)) rfl own_d2_24 rfl ?_
      refine own_istore C A own_d2_25 (l' := #[.val (.ref v0), .val (.int v1), .val (.int v2), .val (.int v3), .val (.ref v4), .val (.int v5), .val (.int (xs_v4.getD ((v1 - v2)).toNatClampNeg 0))]) rfl rfl ?_
      exact w2_27 C A v1 (xs_v4.getD ((v1 - v2)).toNatClampNeg 0) xs_v0 V_v0 hv1
    · refine own_icmpN C A own_d2_9 (Jvm.Free.XT.ii_lt_f hc9) rfl ?_
      exact w2_12 C A v1 v5 xs_v0 V_v0 hv1
theorem own_ef2 (m : MethodId) (v0 : Addr) (v1 : Int32) (v2 : Int32) (v3 : Int32) (v4 : Addr) (v5 : Int32) : entryFrame m #[(.ref v0), (.int v1), (.int v2), (.int v3), (.ref v4), (.int v5)] 7 = mkF m 0 #[.val (.ref v0), .val (.int v1), .val (.int v2), .val (.int v3), .val (.ref v4), .val (.int v5), .unset] [] := by first | (simp [entryFrame, mkF, argsToLocals, Value.category]; done) | rfl
theorem rm2 (l : Launch) (Z : State) (a0 : Array Value) (hw : ∀ d ∈ tables_1, d.before a0 Z = true) (ws : List Jvm.Cond) (v0 : Addr) (v1 : Int32) (v2 : Int32) (v3 : Int32) (v4 : Addr) (v5 : Int32) (xs_v0 : List Int32) (xs_v4 : List Int32) (h : Heap) (n0 : Nat) (hn : n0 ≤ h.size) (V_v0 : own_Ia Z h v0 .byte (8 : Int32) xs_v0) (V_v4 : own_Ia Z h v4 .int (4 : Int32) xs_v4) (hv1 : ¬ v1 < 0 ∧ v1 < 8) (hv2 : ¬ v2 < 0 ∧ v2 < 4) (hv3 : ¬ v3 < 1 ∧ v3 < 5) :
    MetFree l (⟨"com/example/prim_json/primjson/Utf8PutPinLaw", "ok", "([BIII[II)Z"⟩ : MethodName) (head1 (Jvm.Cond.code (⟨"com/example/prim_json/primjson/Utf8PutPinLaw", "ok", "([BIII[II)Z"⟩ : MethodName) method_3_code 7 (some .boolean) :: ws) own_R2) (fun a U => a = #[(.ref v0), (.int v1), (.int v2), (.int v3), (.ref v4), (.int v5)] ∧ Z.Warmed39 U.vm ∧ U.heap = h) (fun _ _ _ _ _ => True) (fun _ U o U' => own_QR U n0 0 0 (own_RI h (f2_0 v1 v2 v3 v5 xs_v0 xs_v4)) o U') :=
  own_met (plainFor_of_name (by first | (simp [plainName, overriddenIn]; done) | decide +kernel)) hw hn (fun m => own_ef2 m v0 v1 v2 v3 v4 v5) (fun p e s m below meth c T C A => w2_0 C A v1 v2 v3 v5 xs_v0 xs_v4 V_v0 V_v4 hv1 hv2 hv3)

/-! Utf8PutPinLaw.law -/
def f0_322 (v6 : Int32) (v7 : Int32) (v8 : Int32) (v9 : Int32) (xs_v11 : List Int32) (xs_v12 : List Int32) : Int32 := (if (f1_0 v8 v6 xs_v11).1 = (v8 + v7) then (if (f2_0 (0 : Int32) v8 v7 v9 (f1_0 v8 v6 xs_v11).2 xs_v12) = (0 : Int32) then (0 : Int32) else (if (f2_0 (1 : Int32) v8 v7 v9 (f1_0 v8 v6 xs_v11).2 xs_v12) = (0 : Int32) then (0 : Int32) else (if (f2_0 (2 : Int32) v8 v7 v9 (f1_0 v8 v6 xs_v11).2 xs_v12) = (0 : Int32) then (0 : Int32) else (if (f2_0 (3 : Int32) v8 v7 v9 (f1_0 v8 v6 xs_v11).2 xs_v12) = (0 : Int32) then (0 : Int32) else (if (f2_0 (4 : Int32) v8 v7 v9 (f1_0 v8 v6 xs_v11).2 xs_v12) = (0 : Int32) then (0 : Int32) else (if (f2_0 (5 : Int32) v8 v7 v9 (f1_0 v8 v6 xs_v11).2 xs_v12) = (0 : Int32) then (0 : Int32) else (if (f2_0 (6 : Int32) v8 v7 v9 (f1_0 v8 v6 xs_v11).2 xs_v12) = (0 : Int32) then (0 : Int32) else (if (f2_0 (7 : Int32) v8 v7 v9 (f1_0 v8 v6 xs_v11).2 xs_v12) = (0 : Int32) then (0 : Int32) else (1 : Int32))))))))) else (0 : Int32))
set_option maxRecDepth 65536 in
set_option maxHeartbeats 4000000 in
theorem w0_322 {Z : State} {a0 : Array Value} {p : Program} {l : Launch} {e : Env} {s : State} {m : MethodId} {args : Array Value} {below : List Frame} {meth : Method} {c : Code} {T : State} {h : Heap} {n0 : Nat} {u0 : Int32} {u1 : Int32} {u2 : Int32} {u3 : Int32} {u4 : Int32} {u5 : Int32} {u10 : Int32} {v11 : Addr} {v12 : Addr} (C : own_Cx Z a0 p l e room_1 s m args below meth c "com/example/prim_json/primjson/Utf8PutPinLaw" "law" code maxLocals ret) (A : own_At p l e room_1 s m args below meth c T h n0 2 12) (v6 : Int32) (v7 : Int32) (v8 : Int32) (v9 : Int32) (xs_v11 : List Int32) (xs_v12 : List Int32) (V_v11 : own_Ia Z h v11 .byte (8 : Int32) xs_v11) (g_v11 : n0 ≤ v11) (V_v12 : own_Ia Z h v12 .int (4 : Int32) xs_v12) (g_v12 : n0 ≤ v12) (ne_v11_v12 : v11 ≠ v12) (hv7 : ¬ v7 < 1 ∧ v7 < 5) (hv8 : ¬ v8 < 0 ∧ v8 < 4) :
    own_Go p.tables e below (T.setTop (mkF m 322 #[.val (.int u0), .val (.int u1), .val (.int u2), .val (.int u3), .val (.int u4), .val (.int u5), .val (.int v6), .val (.int v7), .val (.int v8), .val (.int v9), .val (.int u10), .val (.ref v11), .val (.ref v12), .unset] [])) (own_QR s n0 2 12 (own_RV (f0_322 v6 v7 v8 v9 xs_v11 xs_v12))) := by
  unfold f0_322
  refine own_aload C A at_322 rfl rfl rfl ?_
  refine own_iload C A at_324 rfl rfl ?_
  refine own_iload C A at_326 rfl rfl ?_
  refine own_callS C A 0 [(.ref v11), (.int v8), (.int v6)] [] (own_w C 3 rfl) (own_w C 4 rfl) (own_w C 5 rfl) (own_w C 6 rfl) (by decide) (rm1 l Z a0 C.2.2.2.2.2.2.2.2 [] v11 v8 v6 xs_v11 _ _ (own_size A) V_v11 g_v11 hv8) (by decide) (by decide) (by decide) (by decide) own_pd0 rfl rfl rfl (Nat.le_of_eq rfl) rfl at_328 rfl (fun v T h hP A => ?_)
  replace A := own_more A (kc' := 2) (ks' := 12) (by decide) (by decide)
  obtain ⟨rfl, Kc, V_v11⟩ := hP
  have V_v12 := own_Ia.keep V_v12 Kc (ninS (Ne.symm ne_v11_v12) nin0)
  show own_Go p.tables e below (T.setTop (mkF m 331 #[.val (.int u0), .val (.int u1), .val (.int u2), .val (.int u3), .val (.int u4), .val (.int u5), .val (.int v6), .val (.int v7), .val (.int v8), .val (.int v9), .val (.int u10), .val (.ref v11), .val (.ref v12), .unset] [(.int (f1_0 v8 v6 xs_v11).1)])) _
  refine own_istore C A at_331 (l' := #[.val (.int u0), .val (.int u1), .val (.int u2), .val (.int u3), .val (.int u4), .val (.int u5), .val (.int v6), .val (.int v7), .val (.int v8), .val (.int v9), .val (.int u10), .val (.ref v11), .val (.ref v12), .val (.int (f1_0 v8 v6 xs_v11).1)]) rfl rfl ?_
  refine own_iload C A at_333 rfl rfl ?_
  refine own_iload C A at_335 rfl rfl ?_
  refine own_iload C A at_337 rfl rfl ?_
  refine own_iadd C A at_339 rfl ?_
  refine own_ite (fun hc340 => ?_) (fun hc340 => ?_)
  · refine own_icmpY C A at_340 (Jvm.Free.XT.ii_eq_t hc340) (by decide) (q := 345) (by decide) ?_
    refine own_aload C A at_345 rfl rfl rfl ?_
    refine own_iconst C A at_347 (v := 0) rfl rfl ?_
    refine own_iload C A at_348 rfl rfl ?_
    refine own_iload C A at_350 rfl rfl ?_
    refine own_aload C A at_352 rfl rfl rfl ?_
    refine own_iload C A at_354 rfl rfl ?_
    refine own_callSI C A 0 [(.ref v11), (.int (0 : Int32)), (.int v8), (.int v7), (.ref v12), (.int v9)] [] (own_w C 7 rfl) (own_w C 8 rfl) (own_w C 9 rfl) (own_w C 10 rfl) (by decide) (rm2 l Z a0 C.2.2.2.2.2.2.2.2 [] v11 (0 : Int32) v8 v7 v12 v9 (f1_0 v8 v6 xs_v11).2 xs_v12 _ _ (own_size A) V_v11 V_v12 ⟨by decide, by decide⟩ hv8 hv7) rfl rfl (by decide) (by decide) (by decide) (by decide) own_pd1 rfl rfl rfl (Nat.le_of_eq rfl) rfl at_356 rfl (fun T A => ?_)
    refine own_ite (fun hc359 => ?_) (fun hc359 => ?_)
    · refine own_ifY C A at_359 (Jvm.Free.XT.i0_eq_t hc359) (by decide) (q := 487) (by decide) ?_
      refine own_iconst C A at_487 (v := 0) rfl rfl ?_
      exact own_retN C A (t := .boolean) (by simp) at_488 rfl
    · refine own_ifN C A at_359 (Jvm.Free.XT.i0_eq_f hc359) rfl ?_
      refine own_aload C A at_362 rfl rfl rfl ?_
      refine own_iconst C A at_364 (v := 1) rfl rfl ?_
      refine own_iload C A at_365 rfl rfl ?_
      refine own_iload C A at_367 rfl rfl ?_
      refine own_aload C A at_369 rfl rfl rfl ?_
      refine own_iload C A at_371 rfl rfl ?_
      refine own_callSI C A 0 [(.ref v11), (.int (1 : Int32)), (.int v8), (.int v7), (.ref v12), (.int v9)] [] (own_w C 7 rfl) (own_w C 8 rfl) (own_w C 9 rfl) (own_w C 10 rfl) (by decide) (rm2 l Z a0 C.2.2.2.2.2.2.2.2 [] v11 (1 : Int32) v8 v7 v12 v9 (f1_0 v8 v6 xs_v11).2 xs_v12 _ _ (own_size A) V_v11 V_v12 ⟨by decide, by decide⟩ hv8 hv7) rfl rfl (by decide) (by decide) (by decide) (by decide) own_pd1 rfl rfl rfl (Nat.le_of_eq rfl) rfl at_373 rfl (fun T A => ?_)
      refine own_ite (fun hc376 => ?_) (fun hc376 => ?_)
      · refine own_ifY C A at_376 (Jvm.Free.XT.i0_eq_t hc376) (by decide) (q := 487) (by decide) ?_
        refine own_iconst C A at_487 (v := 0) rfl rfl ?_
        exact own_retN C A (t := .boolean) (by simp) at_488 rfl
      · refine own_ifN C A at_376 (Jvm.Free.XT.i0_eq_f hc376) rfl ?_
        refine own_aload C A at_379 rfl rfl rfl ?_
        refine own_iconst C A at_381 (v := 2) rfl rfl ?_
        refine own_iload C A at_382 rfl rfl ?_
        refine own_iload C A at_384 rfl rfl ?_
        refine own_aload C A at_386 rfl rfl rfl ?_
        refine own_iload C A at_388 rfl rfl ?_
        refine own_callSI C A 0 [(.ref v11), (.int (2 : Int32)), (.int v8), (.int v7), (.ref v12), (.int v9)] [] (own_w C 7 rfl) (own_w C 8 rfl) (own_w C 9 rfl) (own_w C 10 rfl) (by decide) (rm2 l Z a0 C.2.2.2.2.2.2.2.2 [] v11 (2 : Int32) v8 v7 v12 v9 (f1_0 v8 v6 xs_v11).2 xs_v12 _ _ (own_size A) V_v11 V_v12 ⟨by decide, by decide⟩ hv8 hv7) rfl rfl (by decide) (by decide) (by decide) (by decide) own_pd1 rfl rfl rfl (Nat.le_of_eq rfl) rfl at_390 rfl (fun T A => ?_)
        refine own_ite (fun hc393 => ?_) (fun hc393 => ?_)
        · refine own_ifY C A at_393 (Jvm.Free.XT.i0_eq_t hc393) (by decide) (q := 487) (by decide) ?_
          refine own_iconst C A at_487 (v := 0) rfl rfl ?_
          exact own_retN C A (t := .boolean) (by simp) at_488 rfl
        · refine own_ifN C A at_393 (Jvm.Free.XT.i0_eq_f hc393) rfl ?_
          refine own_aload C A at_396 rfl rfl rfl ?_
          refine own_iconst C A at_398 (v := 3) rfl rfl ?_
          refine own_iload C A at_399 rfl rfl ?_
          refine own_iload C A at_401 rfl rfl ?_
          refine own_aload C A at_403 rfl rfl rfl ?_
          refine own_iload C A at_405 rfl rfl ?_
          refine own_callSI C A 0 [(.ref v11), (.int (3 : Int32)), (.int v8), (.int v7), (.ref v12), (.int v9)] [] (own_w C 7 rfl) (own_w C 8 rfl) (own_w C 9 rfl) (own_w C 10 rfl) (by decide) (rm2 l Z a0 C.2.2.2.2.2.2.2.2 [] v11 (3 : Int32) v8 v7 v12 v9 (f1_0 v8 v6 xs_v11).2 xs_v12 _ _ (own_size A) V_v11 V_v12 ⟨by decide, by decide⟩ hv8 hv7) rfl rfl (by decide) (by decide) (by decide) (by decide) own_pd1 rfl rfl rfl (Nat.le_of_eq rfl) rfl at_407 rfl (fun T A => ?_)
          refine own_ite (fun hc410 => ?_) (fun hc410 => ?_)
          · refine own_ifY C A at_410 (Jvm.Free.XT.i0_eq_t hc410) (by decide) (q := 487) (by decide) ?_
            refine own_iconst C A at_487 (v := 0) rfl rfl ?_
            exact own_retN C A (t := .boolean) (by simp) at_488 rfl
          · refine own_ifN C A at_410 (Jvm.Free.XT.i0_eq_f hc410) rfl ?_
            refine own_aload C A at_413 rfl rfl rfl ?_
            refine own_iconst C A at_415 (v := 4) rfl rfl ?_
            refine own_iload C A at_416 rfl rfl ?_
            refine own_iload C A at_418 rfl rfl ?_
            refine own_aload C A at_420 rfl rfl rfl ?_
            refine own_iload C A at_422 rfl rfl ?_
            refine own_callSI C A 0 [(.ref v11), (.int (4 : Int32)), (.int v8), (.int v7), (.ref v12), (.int v9)] [] (own_w C 7 rfl) (own_w C 8 rfl) (own_w C 9 rfl) (own_w C 10 rfl) (by decide) (rm2 l Z a0 C.2.2.2.2.2.2.2.2 [] v11 (4 : Int32) v8 v7 v12 v9 (f1_0 v8 v6 xs_v11).2 xs_v12 _ _ (own_size A) V_v11 V_v12 ⟨by decide, by decide⟩ hv8 hv7) rfl rfl (by decide) (by decide) (by decide) (by decide) own_pd1 rfl rfl rfl (Nat.le_of_eq rfl) rfl at_424 rfl (fun T A => ?_)
            refine own_ite (fun hc427 => ?_) (fun hc427 => ?_)
            · refine own_ifY C A at_427 (Jvm.Free.XT.i0_eq_t hc427) (by decide) (q := 487) (by decide) ?_
              refine own_iconst C A at_487 (v := 0) rfl rfl ?_
              exact own_retN C A (t := .boolean) (by simp) at_488 rfl
            · refine own_ifN C A at_427 (Jvm.Free.XT.i0_eq_f hc427) rfl ?_
              refine own_aload C A at_430 rfl rfl rfl ?_
              refine own_iconst C A at_432 (v := 5) rfl rfl ?_
              refine own_iload C A at_433 rfl rfl ?_
              refine own_iload C A at_435 rfl rfl ?_
              refine own_aload C A at_437 rfl rfl rfl ?_
              refine own_iload C A at_439 rfl rfl ?_
              refine own_callSI C A 0 [(.ref v11), (.int (5 : Int32)), (.int v8), (.int v7), (.ref v12), (.int v9)] [] (own_w C 7 rfl) (own_w C 8 rfl) (own_w C 9 rfl) (own_w C 10 rfl) (by decide) (rm2 l Z a0 C.2.2.2.2.2.2.2.2 [] v11 (5 : Int32) v8 v7 v12 v9 (f1_0 v8 v6 xs_v11).2 xs_v12 _ _ (own_size A) V_v11 V_v12 ⟨by decide, by decide⟩ hv8 hv7) rfl rfl (by decide) (by decide) (by decide) (by decide) own_pd1 rfl rfl rfl (Nat.le_of_eq rfl) rfl at_441 rfl (fun T A => ?_)
              refine own_ite (fun hc444 => ?_) (fun hc444 => ?_)
              · refine own_ifY C A at_444 (Jvm.Free.XT.i0_eq_t hc444) (by decide) (q := 487) (by decide) ?_
                refine own_iconst C A at_487 (v := 0) rfl rfl ?_
                exact own_retN C A (t := .boolean) (by simp) at_488 rfl
              · refine own_ifN C A at_444 (Jvm.Free.XT.i0_eq_f hc444) rfl ?_
                refine own_aload C A at_447 rfl rfl rfl ?_
                refine own_bipush C A at_449 (v := 6) rfl rfl ?_
                refine own_iload C A at_451 rfl rfl ?_
                refine own_iload C A at_453 rfl rfl ?_
                refine own_aload C A at_455 rfl rfl rfl ?_
                refine own_iload C A at_457 rfl rfl ?_
                refine own_callSI C A 0 [(.ref v11), (.int (6 : Int32)), (.int v8), (.int v7), (.ref v12), (.int v9)] [] (own_w C 7 rfl) (own_w C 8 rfl) (own_w C 9 rfl) (own_w C 10 rfl) (by decide) (rm2 l Z a0 C.2.2.2.2.2.2.2.2 [] v11 (6 : Int32) v8 v7 v12 v9 (f1_0 v8 v6 xs_v11).2 xs_v12 _ _ (own_size A) V_v11 V_v12 ⟨by decide, by decide⟩ hv8 hv7) rfl rfl (by decide) (by decide) (by decide) (by decide) own_pd1 rfl rfl rfl (Nat.le_of_eq rfl) rfl at_459 rfl (fun T A => ?_)
                refine own_ite (fun hc462 => ?_) (fun hc462 => ?_)
                · refine own_ifY C A at_462 (Jvm.Free.XT.i0_eq_t hc462) (by decide) (q := 487) (by decide) ?_
                  refine own_iconst C A at_487 (v := 0) rfl rfl ?_
                  exact own_retN C A (t := .boolean) (by simp) at_488 rfl
                · refine own_ifN C A at_462 (Jvm.Free.XT.i0_eq_f hc462) rfl ?_
                  refine own_aload C A at_465 rfl rfl rfl ?_
                  refine own_bipush C A at_467 (v := 7) rfl rfl ?_
                  refine own_iload C A at_469 rfl rfl ?_
                  refine own_iload C A at_471 rfl rfl ?_
                  refine own_aload C A at_473 rfl rfl rfl ?_
                  refine own_iload C A at_475 rfl rfl ?_
                  refine own_callSI C A 0 [(.ref v11), (.int (7 : Int32)), (.int v8), (.int v7), (.ref v12), (.int v9)] [] (own_w C 7 rfl) (own_w C 8 rfl) (own_w C 9 rfl) (own_w C 10 rfl) (by decide) (rm2 l Z a0 C.2.2.2.2.2.2.2.2 [] v11 (7 : Int32) v8 v7 v12 v9 (f1_0 v8 v6 xs_v11).2 xs_v12 _ _ (own_size A) V_v11 V_v12 ⟨by decide, by decide⟩ hv8 hv7) rfl rfl (by decide) (by decide) (by decide) (by decide) own_pd1 rfl rfl rfl (Nat.le_of_eq rfl) rfl at_477 rfl (fun T A => ?_)
                  refine own_ite (fun hc480 => ?_) (fun hc480 => ?_)
                  · refine own_ifY C A at_480 (Jvm.Free.XT.i0_eq_t hc480) (by decide) (q := 487) (by decide) ?_
                    refine own_iconst C A at_487 (v := 0) rfl rfl ?_
                    exact own_retN C A (t := .boolean) (by simp) at_488 rfl
                  · refine own_ifN C A at_480 (Jvm.Free.XT.i0_eq_f hc480) rfl ?_
                    refine own_iconst C A at_483 (v := 1) rfl rfl ?_
                    refine own_goto C A at_484 (by decide) (q := 488) (by decide) ?_
                    exact own_retN C A (t := .boolean) (by simp) at_488 rfl
  · refine own_icmpN C A at_340 (Jvm.Free.XT.ii_eq_f hc340) rfl ?_
    refine own_iconst C A at_343 (v := 0) rfl rfl ?_
    exact own_retN C A (t := .boolean) (by simp) at_344 rfl
def f0_77 (v2 : Int32) (v3 : Int32) (v4 : Int32) (v6 : Int32) : Int32 := (if (v4 + (1 : Int32)) = (1 : Int32) then (f0_322 v6 (v4 + (1 : Int32)) (v2 &&& (3 : Int32)) (v3 &&& (255 : Int32)) [(((v3 &&& (255 : Int32)).toInt8.toInt32).toInt8.toInt32), (((v3 &&& (255 : Int32)).toInt8.toInt32).toInt8.toInt32), (((v3 &&& (255 : Int32)).toInt8.toInt32).toInt8.toInt32), (((v3 &&& (255 : Int32)).toInt8.toInt32).toInt8.toInt32), (((v3 &&& (255 : Int32)).toInt8.toInt32).toInt8.toInt32), (((v3 &&& (255 : Int32)).toInt8.toInt32).toInt8.toInt32), (((v3 &&& (255 : Int32)).toInt8.toInt32).toInt8.toInt32), (((v3 &&& (255 : Int32)).toInt8.toInt32).toInt8.toInt32)] [v6, 0, 0, 0]) else (if (v4 + (1 : Int32)) = (2 : Int32) then (f0_322 v6 (v4 + (1 : Int32)) (v2 &&& (3 : Int32)) (v3 &&& (255 : Int32)) [(((v3 &&& (255 : Int32)).toInt8.toInt32).toInt8.toInt32), (((v3 &&& (255 : Int32)).toInt8.toInt32).toInt8.toInt32), (((v3 &&& (255 : Int32)).toInt8.toInt32).toInt8.toInt32), (((v3 &&& (255 : Int32)).toInt8.toInt32).toInt8.toInt32), (((v3 &&& (255 : Int32)).toInt8.toInt32).toInt8.toInt32), (((v3 &&& (255 : Int32)).toInt8.toInt32).toInt8.toInt32), (((v3 &&& (255 : Int32)).toInt8.toInt32).toInt8.toInt32), (((v3 &&& (255 : Int32)).toInt8.toInt32).toInt8.toInt32)] [((192 : Int32) + (v6 / (64 : Int32))), ((128 : Int32) + (v6 % (64 : Int32))), 0, 0]) else (if (v4 + (1 : Int32)) = (3 : Int32) then (f0_322 v6 (v4 + (1 : Int32)) (v2 &&& (3 : Int32)) (v3 &&& (255 : Int32)) [(((v3 &&& (255 : Int32)).toInt8.toInt32).toInt8.toInt32), (((v3 &&& (255 : Int32)).toInt8.toInt32).toInt8.toInt32), (((v3 &&& (255 : Int32)).toInt8.toInt32).toInt8.toInt32), (((v3 &&& (255 : Int32)).toInt8.toInt32).toInt8.toInt32), (((v3 &&& (255 : Int32)).toInt8.toInt32).toInt8.toInt32), (((v3 &&& (255 : Int32)).toInt8.toInt32).toInt8.toInt32), (((v3 &&& (255 : Int32)).toInt8.toInt32).toInt8.toInt32), (((v3 &&& (255 : Int32)).toInt8.toInt32).toInt8.toInt32)] [((224 : Int32) + (v6 / (4096 : Int32))), ((128 : Int32) + ((v6 / (64 : Int32)) % (64 : Int32))), ((128 : Int32) + (v6 % (64 : Int32))), 0]) else (f0_322 v6 (v4 + (1 : Int32)) (v2 &&& (3 : Int32)) (v3 &&& (255 : Int32)) [(((v3 &&& (255 : Int32)).toInt8.toInt32).toInt8.toInt32), (((v3 &&& (255 : Int32)).toInt8.toInt32).toInt8.toInt32), (((v3 &&& (255 : Int32)).toInt8.toInt32).toInt8.toInt32), (((v3 &&& (255 : Int32)).toInt8.toInt32).toInt8.toInt32), (((v3 &&& (255 : Int32)).toInt8.toInt32).toInt8.toInt32), (((v3 &&& (255 : Int32)).toInt8.toInt32).toInt8.toInt32), (((v3 &&& (255 : Int32)).toInt8.toInt32).toInt8.toInt32), (((v3 &&& (255 : Int32)).toInt8.toInt32).toInt8.toInt32)] [((240 : Int32) + (v6 / (262144 : Int32))), ((128 : Int32) + ((v6 / (4096 : Int32)) % (64 : Int32))), ((128 : Int32) + ((v6 / (64 : Int32)) % (64 : Int32))), ((128 : Int32) + (v6 % (64 : Int32)))]))))
set_option maxRecDepth 65536 in
set_option maxHeartbeats 4000000 in
theorem w0_77 {Z : State} {a0 : Array Value} {p : Program} {l : Launch} {e : Env} {s : State} {m : MethodId} {args : Array Value} {below : List Frame} {meth : Method} {c : Code} {T : State} {h : Heap} {n0 : Nat} {u0 : Int32} {u1 : Int32} {u5 : Int32} (C : own_Cx Z a0 p l e room_1 s m args below meth c "com/example/prim_json/primjson/Utf8PutPinLaw" "law" code maxLocals ret) (A : own_At p l e room_1 s m args below meth c T h n0 0 0) (v2 : Int32) (v3 : Int32) (v4 : Int32) (v6 : Int32) (hv4 : ¬ v4 < 0 ∧ v4 < 4) :
    own_Go p.tables e below (T.setTop (mkF m 77 #[.val (.int u0), .val (.int u1), .val (.int v2), .val (.int v3), .val (.int v4), .val (.int u5), .val (.int v6), .unset, .unset, .unset, .unset, .unset, .unset, .unset] [])) (own_QR s n0 2 12 (own_RV (f0_77 v2 v3 v4 v6))) := by
  unfold f0_77
  refine own_iload C A at_77 rfl rfl ?_
  refine own_iconst C A at_79 (v := 1) rfl rfl ?_
  refine own_iadd C A at_80 rfl ?_
  refine own_istore C A at_81 (l' := #[.val (.int u0), .val (.int u1), .val (.int v2), .val (.int v3), .val (.int v4), .val (.int u5), .val (.int v6), .val (.int (v4 + (1 : Int32))), .unset, .unset, .unset, .unset, .unset, .unset]) rfl rfl ?_
  refine own_iloadN C A at_83 rfl rfl ?_
  refine own_iconst C A at_84 (v := 3) rfl rfl ?_
  refine own_iand C A at_85 rfl ?_
  refine own_istore C A at_86 (l' := #[.val (.int u0), .val (.int u1), .val (.int v2), .val (.int v3), .val (.int v4), .val (.int u5), .val (.int v6), .val (.int (v4 + (1 : Int32))), .val (.int (v2 &&& (3 : Int32))), .unset, .unset, .unset, .unset, .unset]) rfl rfl ?_
  refine own_iloadN C A at_88 rfl rfl ?_
  refine own_sipush C A at_89 (v := 255) rfl rfl ?_
  refine own_iand C A at_92 rfl ?_
  refine own_istore C A at_93 (l' := #[.val (.int u0), .val (.int u1), .val (.int v2), .val (.int v3), .val (.int v4), .val (.int u5), .val (.int v6), .val (.int (v4 + (1 : Int32))), .val (.int (v2 &&& (3 : Int32))), .val (.int (v3 &&& (255 : Int32))), .unset, .unset, .unset, .unset]) rfl rfl ?_
  refine own_iload C A at_95 rfl rfl ?_
  refine own_i2b C A at_97 rfl ?_
  refine own_istore C A at_98 (l' := #[.val (.int u0), .val (.int u1), .val (.int v2), .val (.int v3), .val (.int v4), .val (.int u5), .val (.int v6), .val (.int (v4 + (1 : Int32))), .val (.int (v2 &&& (3 : Int32))), .val (.int (v3 &&& (255 : Int32))), .val (.int ((v3 &&& (255 : Int32)).toInt8.toInt32)), .unset, .unset, .unset]) rfl rfl ?_
  refine own_bipush C A at_100 (v := 8) rfl rfl ?_
  refine own_newP C A 8 (own_w C 1 rfl) (by decide) (xs := [0, 0, 0, 0, 0, 0, 0, 0]) rfl (by decide) (by decide) rfl at_102 rfl (by decide) (by decide) (fun T h b102 e_b102 X_b102 V_b102 g_b102 A => ?_)
  refine own_astore C A at_104 rfl (l' := #[.val (.int u0), .val (.int u1), .val (.int v2), .val (.int v3), .val (.int v4), .val (.int u5), .val (.int v6), .val (.int (v4 + (1 : Int32))), .val (.int (v2 &&& (3 : Int32))), .val (.int (v3 &&& (255 : Int32))), .val (.int ((v3 &&& (255 : Int32)).toInt8.toInt32)), .val (.ref b102), .unset, .unset]) rfl rfl ?_
  refine own_aload C A at_106 rfl rfl rfl ?_
  refine own_iconst C A at_108 (v := 0) rfl rfl ?_
  refine own_iload C A at_109 rfl rfl ?_
  refine own_bastore C A V_b102 ⟨by decide, by decide⟩ (ys := [(((v3 &&& (255 : Int32)).toInt8.toInt32).toInt8.toInt32), 0, 0, 0, 0, 0, 0, 0]) rfl g_b102 at_111 rfl (fun T h Kw V_b102 A => ?_)
  refine own_aload C A at_112 rfl rfl rfl ?_
  refine own_iconst C A at_114 (v := 1) rfl rfl ?_
  refine own_iload C A at_115 rfl rfl ?_
  refine own_bastore C A V_b102 ⟨by decide, by decide⟩ (ys := [(((v3 &&& (255 : Int32)).toInt8.toInt32).toInt8.toInt32), (((v3 &&& (255 : Int32)).toInt8.toInt32).toInt8.toInt32), 0, 0, 0, 0, 0, 0]) rfl g_b102 at_117 rfl (fun T h Kw V_b102 A => ?_)
  refine own_aload C A at_118 rfl rfl rfl ?_
  refine own_iconst C A at_120 (v := 2) rfl rfl ?_
  refine own_iload C A at_121 rfl rfl ?_
  refine own_bastore C A V_b102 ⟨by decide, by decide⟩ (ys := [(((v3 &&& (255 : Int32)).toInt8.toInt32).toInt8.toInt32), (((v3 &&& (255 : Int32)).toInt8.toInt32).toInt8.toInt32), (((v3 &&& (255 : Int32)).toInt8.toInt32).toInt8.toInt32), 0, 0, 0, 0, 0]) rfl g_b102 at_123 rfl (fun T h Kw V_b102 A => ?_)
  refine own_aload C A at_124 rfl rfl rfl ?_
  refine own_iconst C A at_126 (v := 3) rfl rfl ?_
  refine own_iload C A at_127 rfl rfl ?_
  refine own_bastore C A V_b102 ⟨by decide, by decide⟩ (ys := [(((v3 &&& (255 : Int32)).toInt8.toInt32).toInt8.toInt32), (((v3 &&& (255 : Int32)).toInt8.toInt32).toInt8.toInt32), (((v3 &&& (255 : Int32)).toInt8.toInt32).toInt8.toInt32), (((v3 &&& (255 : Int32)).toInt8.toInt32).toInt8.toInt32), 0, 0, 0, 0]) rfl g_b102 at_129 rfl (fun T h Kw V_b102 A => ?_)
  refine own_aload C A at_130 rfl rfl rfl ?_
  refine own_iconst C A at_132 (v := 4) rfl rfl ?_
  refine own_iload C A at_133 rfl rfl ?_
  refine own_bastore C A V_b102 ⟨by decide, by decide⟩ (ys := [(((v3 &&& (255 : Int32)).toInt8.toInt32).toInt8.toInt32), (((v3 &&& (255 : Int32)).toInt8.toInt32).toInt8.toInt32), (((v3 &&& (255 : Int32)).toInt8.toInt32).toInt8.toInt32), (((v3 &&& (255 : Int32)).toInt8.toInt32).toInt8.toInt32), (((v3 &&& (255 : Int32)).toInt8.toInt32).toInt8.toInt32), 0, 0, 0]) rfl g_b102 at_135 rfl (fun T h Kw V_b102 A => ?_)
  refine own_aload C A at_136 rfl rfl rfl ?_
  refine own_iconst C A at_138 (v := 5) rfl rfl ?_
  refine own_iload C A at_139 rfl rfl ?_
  refine own_bastore C A V_b102 ⟨by decide, by decide⟩ (ys := [(((v3 &&& (255 : Int32)).toInt8.toInt32).toInt8.toInt32), (((v3 &&& (255 : Int32)).toInt8.toInt32).toInt8.toInt32), (((v3 &&& (255 : Int32)).toInt8.toInt32).toInt8.toInt32), (((v3 &&& (255 : Int32)).toInt8.toInt32).toInt8.toInt32), (((v3 &&& (255 : Int32)).toInt8.toInt32).toInt8.toInt32), (((v3 &&& (255 : Int32)).toInt8.toInt32).toInt8.toInt32), 0, 0]) rfl g_b102 at_141 rfl (fun T h Kw V_b102 A => ?_)
  refine own_aload C A at_142 rfl rfl rfl ?_
  refine own_bipush C A at_144 (v := 6) rfl rfl ?_
  refine own_iload C A at_146 rfl rfl ?_
  refine own_bastore C A V_b102 ⟨by decide, by decide⟩ (ys := [(((v3 &&& (255 : Int32)).toInt8.toInt32).toInt8.toInt32), (((v3 &&& (255 : Int32)).toInt8.toInt32).toInt8.toInt32), (((v3 &&& (255 : Int32)).toInt8.toInt32).toInt8.toInt32), (((v3 &&& (255 : Int32)).toInt8.toInt32).toInt8.toInt32), (((v3 &&& (255 : Int32)).toInt8.toInt32).toInt8.toInt32), (((v3 &&& (255 : Int32)).toInt8.toInt32).toInt8.toInt32), (((v3 &&& (255 : Int32)).toInt8.toInt32).toInt8.toInt32), 0]) rfl g_b102 at_148 rfl (fun T h Kw V_b102 A => ?_)
  refine own_aload C A at_149 rfl rfl rfl ?_
  refine own_bipush C A at_151 (v := 7) rfl rfl ?_
  refine own_iload C A at_153 rfl rfl ?_
  refine own_bastore C A V_b102 ⟨by decide, by decide⟩ (ys := [(((v3 &&& (255 : Int32)).toInt8.toInt32).toInt8.toInt32), (((v3 &&& (255 : Int32)).toInt8.toInt32).toInt8.toInt32), (((v3 &&& (255 : Int32)).toInt8.toInt32).toInt8.toInt32), (((v3 &&& (255 : Int32)).toInt8.toInt32).toInt8.toInt32), (((v3 &&& (255 : Int32)).toInt8.toInt32).toInt8.toInt32), (((v3 &&& (255 : Int32)).toInt8.toInt32).toInt8.toInt32), (((v3 &&& (255 : Int32)).toInt8.toInt32).toInt8.toInt32), (((v3 &&& (255 : Int32)).toInt8.toInt32).toInt8.toInt32)]) rfl g_b102 at_155 rfl (fun T h Kw V_b102 A => ?_)
  refine own_iconst C A at_156 (v := 4) rfl rfl ?_
  refine own_newP C A 4 (own_w C 2 rfl) (by decide) (xs := [0, 0, 0, 0]) rfl (by decide) (by decide) rfl at_157 rfl (by decide) (by decide) (fun T h b157 e_b157 X_b157 V_b157 g_b157 A => ?_)
  have ne_b102_b157 : b102 ≠ b157 := Nat.ne_of_lt (Nat.lt_of_lt_of_eq (own_Ia.lt V_b102) e_b157.symm)
  have V_b102 := own_Ia.ext V_b102 X_b157
  refine own_astore C A at_159 rfl (l' := #[.val (.int u0), .val (.int u1), .val (.int v2), .val (.int v3), .val (.int v4), .val (.int u5), .val (.int v6), .val (.int (v4 + (1 : Int32))), .val (.int (v2 &&& (3 : Int32))), .val (.int (v3 &&& (255 : Int32))), .val (.int ((v3 &&& (255 : Int32)).toInt8.toInt32)), .val (.ref b102), .val (.ref b157), .unset]) rfl rfl ?_
  refine own_iload C A at_161 rfl rfl ?_
  refine own_iconst C A at_163 (v := 1) rfl rfl ?_
  refine own_ite (fun hc164 => ?_) (fun hc164 => ?_)
  · refine own_icmpN C A at_164 (Jvm.Free.XT.ii_ne_f hc164) rfl ?_
    refine own_aload C A at_167 rfl rfl rfl ?_
    refine own_iconst C A at_169 (v := 0) rfl rfl ?_
    refine own_iload C A at_170 rfl rfl ?_
    refine own_iastore C A V_b157 ⟨by decide, by decide⟩ (ys := [v6, 0, 0, 0]) rfl g_b157 at_172 rfl (fun T h Kw V_b157 A => ?_)
    have V_b102 := own_Ia.keep V_b102 Kw (ninS ne_b102_b157 nin0)
    refine own_goto C A at_173 (by decide) (q := 322) (by decide) ?_
    exact w0_322 C A v6 (v4 + (1 : Int32)) (v2 &&& (3 : Int32)) (v3 &&& (255 : Int32)) [(((v3 &&& (255 : Int32)).toInt8.toInt32).toInt8.toInt32), (((v3 &&& (255 : Int32)).toInt8.toInt32).toInt8.toInt32), (((v3 &&& (255 : Int32)).toInt8.toInt32).toInt8.toInt32), (((v3 &&& (255 : Int32)).toInt8.toInt32).toInt8.toInt32), (((v3 &&& (255 : Int32)).toInt8.toInt32).toInt8.toInt32), (((v3 &&& (255 : Int32)).toInt8.toInt32).toInt8.toInt32), (((v3 &&& (255 : Int32)).toInt8.toInt32).toInt8.toInt32), (((v3 &&& (255 : Int32)).toInt8.toInt32).toInt8.toInt32)] [v6, 0, 0, 0] V_b102 g_b102 V_b157 g_b157 ne_b102_b157 (own_n hv4) (own_and3 _)
  · refine own_icmpY C A at_164 (Jvm.Free.XT.ii_ne_t hc164) (by decide) (q := 176) (by decide) ?_
    refine own_iload C A at_176 rfl rfl ?_
    refine own_iconst C A at_178 (v := 2) rfl rfl ?_
    refine own_ite (fun hc179 => ?_) (fun hc179 => ?_)
    · refine own_icmpN C A at_179 (Jvm.Free.XT.ii_ne_f hc179) rfl ?_
      refine own_aload C A at_182 rfl rfl rfl ?_
      refine own_iconst C A at_184 (v := 0) rfl rfl ?_
      refine own_sipush C A at_185 (v := 192) rfl rfl ?_
      refine own_iload C A at_188 rfl rfl ?_
      refine own_bipush C A at_190 (v := 64) rfl rfl ?_
      refine own_idiv C A at_192 (by decide) rfl ?_
      refine own_iadd C A at_193 rfl ?_
      refine own_iastore C A V_b157 ⟨by decide, by decide⟩ (ys := [((192 : Int32) + (v6 / (64 : Int32))), 0, 0, 0]) rfl g_b157 at_194 rfl (fun T h Kw V_b157 A => ?_)
      have V_b102 := own_Ia.keep V_b102 Kw (ninS ne_b102_b157 nin0)
      refine own_aload C A at_195 rfl rfl rfl ?_
      refine own_iconst C A at_197 (v := 1) rfl rfl ?_
      refine own_sipush C A at_198 (v := 128) rfl rfl ?_
      refine own_iload C A at_201 rfl rfl ?_
      refine own_bipush C A at_203 (v := 64) rfl rfl ?_
      refine own_irem C A at_205 (by decide) rfl ?_
      refine own_iadd C A at_206 rfl ?_
      refine own_iastore C A V_b157 ⟨by decide, by decide⟩ (ys := [((192 : Int32) + (v6 / (64 : Int32))), ((128 : Int32) + (v6 % (64 : Int32))), 0, 0]) rfl g_b157 at_207 rfl (fun T h Kw V_b157 A => ?_)
      have V_b102 := own_Ia.keep V_b102 Kw (ninS ne_b102_b157 nin0)
      refine own_goto C A at_208 (by decide) (q := 322) (by decide) ?_
      exact w0_322 C A v6 (v4 + (1 : Int32)) (v2 &&& (3 : Int32)) (v3 &&& (255 : Int32)) [(((v3 &&& (255 : Int32)).toInt8.toInt32).toInt8.toInt32), (((v3 &&& (255 : Int32)).toInt8.toInt32).toInt8.toInt32), (((v3 &&& (255 : Int32)).toInt8.toInt32).toInt8.toInt32), (((v3 &&& (255 : Int32)).toInt8.toInt32).toInt8.toInt32), (((v3 &&& (255 : Int32)).toInt8.toInt32).toInt8.toInt32), (((v3 &&& (255 : Int32)).toInt8.toInt32).toInt8.toInt32), (((v3 &&& (255 : Int32)).toInt8.toInt32).toInt8.toInt32), (((v3 &&& (255 : Int32)).toInt8.toInt32).toInt8.toInt32)] [((192 : Int32) + (v6 / (64 : Int32))), ((128 : Int32) + (v6 % (64 : Int32))), 0, 0] V_b102 g_b102 V_b157 g_b157 ne_b102_b157 (own_n hv4) (own_and3 _)
    · refine own_icmpY C A at_179 (Jvm.Free.XT.ii_ne_t hc179) (by decide) (q := 211) (by decide) ?_
      refine own_iload C A at_211 rfl rfl ?_
      refine own_iconst C A at_213 (v := 3) rfl rfl ?_
      refine own_ite (fun hc214 => ?_) (fun hc214 => ?_)
      · refine own_icmpN C A at_214 (Jvm.Free.XT.ii_ne_f hc214) rfl ?_
        refine own_aload C A at_217 rfl rfl rfl ?_
        refine own_iconst C A at_219 (v := 0) rfl rfl ?_
        refine own_sipush C A at_220 (v := 224) rfl rfl ?_
        refine own_iload C A at_223 rfl rfl ?_
        refine own_sipush C A at_225 (v := 4096) rfl rfl ?_
        refine own_idiv C A at_228 (by decide) rfl ?_
        refine own_iadd C A at_229 rfl ?_
        refine own_iastore C A V_b157 ⟨by decide, by decide⟩ (ys := [((224 : Int32) + (v6 / (4096 : Int32))), 0, 0, 0]) rfl g_b157 at_230 rfl (fun T h Kw V_b157 A => ?_)
        have V_b102 := own_Ia.keep V_b102 Kw (ninS ne_b102_b157 nin0)
        refine own_aload C A at_231 rfl rfl rfl ?_
        refine own_iconst C A at_233 (v := 1) rfl rfl ?_
        refine own_sipush C A at_234 (v := 128) rfl rfl ?_
        refine own_iload C A at_237 rfl rfl ?_
        refine own_bipush C A at_239 (v := 64) rfl rfl ?_
        refine own_idiv C A at_241 (by decide) rfl ?_
        refine own_bipush C A at_242 (v := 64) rfl rfl ?_
        refine own_irem C A at_244 (by decide) rfl ?_
        refine own_iadd C A at_245 rfl ?_
        refine own_iastore C A V_b157 ⟨by decide, by decide⟩ (ys := [((224 : Int32) + (v6 / (4096 : Int32))), ((128 : Int32) + ((v6 / (64 : Int32)) % (64 : Int32))), 0, 0]) rfl g_b157 at_246 rfl (fun T h Kw V_b157 A => ?_)
        have V_b102 := own_Ia.keep V_b102 Kw (ninS ne_b102_b157 nin0)
        refine own_aload C A at_247 rfl rfl rfl ?_
        refine own_iconst C A at_249 (v := 2) rfl rfl ?_
        refine own_sipush C A at_250 (v := 128) rfl rfl ?_
        refine own_iload C A at_253 rfl rfl ?_
        refine own_bipush C A at_255 (v := 64) rfl rfl ?_
        refine own_irem C A at_257 (by decide) rfl ?_
        refine own_iadd C A at_258 rfl ?_
        refine own_iastore C A V_b157 ⟨by decide, by decide⟩ (ys := [((224 : Int32) + (v6 / (4096 : Int32))), ((128 : Int32) + ((v6 / (64 : Int32)) % (64 : Int32))), ((128 : Int32) + (v6 % (64 : Int32))), 0]) rfl g_b157 at_259 rfl (fun T h Kw V_b157 A => ?_)
        have V_b102 := own_Ia.keep V_b102 Kw (ninS ne_b102_b157 nin0)
        refine own_goto C A at_260 (by decide) (q := 322) (by decide) ?_
        exact w0_322 C A v6 (v4 + (1 : Int32)) (v2 &&& (3 : Int32)) (v3 &&& (255 : Int32)) [(((v3 &&& (255 : Int32)).toInt8.toInt32).toInt8.toInt32), (((v3 &&& (255 : Int32)).toInt8.toInt32).toInt8.toInt32), (((v3 &&& (255 : Int32)).toInt8.toInt32).toInt8.toInt32), (((v3 &&& (255 : Int32)).toInt8.toInt32).toInt8.toInt32), (((v3 &&& (255 : Int32)).toInt8.toInt32).toInt8.toInt32), (((v3 &&& (255 : Int32)).toInt8.toInt32).toInt8.toInt32), (((v3 &&& (255 : Int32)).toInt8.toInt32).toInt8.toInt32), (((v3 &&& (255 : Int32)).toInt8.toInt32).toInt8.toInt32)] [((224 : Int32) + (v6 / (4096 : Int32))), ((128 : Int32) + ((v6 / (64 : Int32)) % (64 : Int32))), ((128 : Int32) + (v6 % (64 : Int32))), 0] V_b102 g_b102 V_b157 g_b157 ne_b102_b157 (own_n hv4) (own_and3 _)
      · refine own_icmpY C A at_214 (Jvm.Free.XT.ii_ne_t hc214) (by decide) (q := 263) (by decide) ?_
        refine own_aload C A at_263 rfl rfl rfl ?_
        refine own_iconst C A at_265 (v := 0) rfl rfl ?_
        refine own_sipush C A at_266 (v := 240) rfl rfl ?_
        refine own_iload C A at_269 rfl rfl ?_
        refine own_ldcI C A (own_w C 13 rfl) at_271 rfl ?_
        refine own_idiv C A at_273 (by decide) rfl ?_
        refine own_iadd C A at_274 rfl ?_
        refine own_iastore C A V_b157 ⟨by decide, by decide⟩ (ys := [((240 : Int32) + (v6 / (262144 : Int32))), 0, 0, 0]) rfl g_b157 at_275 rfl (fun T h Kw V_b157 A => ?_)
        have V_b102 := own_Ia.keep V_b102 Kw (ninS ne_b102_b157 nin0)
        refine own_aload C A at_276 rfl rfl rfl ?_
        refine own_iconst C A at_278 (v := 1) rfl rfl ?_
        refine own_sipush C A at_279 (v := 128) rfl rfl ?_
        refine own_iload C A at_282 rfl rfl ?_
        refine own_sipush C A at_284 (v := 4096) rfl rfl ?_
        refine own_idiv C A at_287 (by decide) rfl ?_
        refine own_bipush C A at_288 (v := 64) rfl rfl ?_
        refine own_irem C A at_290 (by decide) rfl ?_
        refine own_iadd C A at_291 rfl ?_
        refine own_iastore C A V_b157 ⟨by decide, by decide⟩ (ys := [((240 : Int32) + (v6 / (262144 : Int32))), ((128 : Int32) + ((v6 / (4096 : Int32)) % (64 : Int32))), 0, 0]) rfl g_b157 at_292 rfl (fun T h Kw V_b157 A => ?_)
        have V_b102 := own_Ia.keep V_b102 Kw (ninS ne_b102_b157 nin0)
        refine own_aload C A at_293 rfl rfl rfl ?_
        refine own_iconst C A at_295 (v := 2) rfl rfl ?_
        refine own_sipush C A at_296 (v := 128) rfl rfl ?_
        refine own_iload C A at_299 rfl rfl ?_
        refine own_bipush C A at_301 (v := 64) rfl rfl ?_
        refine own_idiv C A at_303 (by decide) rfl ?_
        refine own_bipush C A at_304 (v := 64) rfl rfl ?_
        refine own_irem C A at_306 (by decide) rfl ?_
        refine own_iadd C A at_307 rfl ?_
        refine own_iastore C A V_b157 ⟨by decide, by decide⟩ (ys := [((240 : Int32) + (v6 / (262144 : Int32))), ((128 : Int32) + ((v6 / (4096 : Int32)) % (64 : Int32))), ((128 : Int32) + ((v6 / (64 : Int32)) % (64 : Int32))), 0]) rfl g_b157 at_308 rfl (fun T h Kw V_b157 A => ?_)
        have V_b102 := own_Ia.keep V_b102 Kw (ninS ne_b102_b157 nin0)
        refine own_aload C A at_309 rfl rfl rfl ?_
        refine own_iconst C A at_311 (v := 3) rfl rfl ?_
        refine own_sipush C A at_312 (v := 128) rfl rfl ?_
        refine own_iload C A at_315 rfl rfl ?_
        refine own_bipush C A at_317 (v := 64) rfl rfl ?_
        refine own_irem C A at_319 (by decide) rfl ?_
        refine own_iadd C A at_320 rfl ?_
        refine own_iastore C A V_b157 ⟨by decide, by decide⟩ (ys := [((240 : Int32) + (v6 / (262144 : Int32))), ((128 : Int32) + ((v6 / (4096 : Int32)) % (64 : Int32))), ((128 : Int32) + ((v6 / (64 : Int32)) % (64 : Int32))), ((128 : Int32) + (v6 % (64 : Int32)))]) rfl g_b157 at_321 rfl (fun T h Kw V_b157 A => ?_)
        have V_b102 := own_Ia.keep V_b102 Kw (ninS ne_b102_b157 nin0)
        exact w0_322 C A v6 (v4 + (1 : Int32)) (v2 &&& (3 : Int32)) (v3 &&& (255 : Int32)) [(((v3 &&& (255 : Int32)).toInt8.toInt32).toInt8.toInt32), (((v3 &&& (255 : Int32)).toInt8.toInt32).toInt8.toInt32), (((v3 &&& (255 : Int32)).toInt8.toInt32).toInt8.toInt32), (((v3 &&& (255 : Int32)).toInt8.toInt32).toInt8.toInt32), (((v3 &&& (255 : Int32)).toInt8.toInt32).toInt8.toInt32), (((v3 &&& (255 : Int32)).toInt8.toInt32).toInt8.toInt32), (((v3 &&& (255 : Int32)).toInt8.toInt32).toInt8.toInt32), (((v3 &&& (255 : Int32)).toInt8.toInt32).toInt8.toInt32)] [((240 : Int32) + (v6 / (262144 : Int32))), ((128 : Int32) + ((v6 / (4096 : Int32)) % (64 : Int32))), ((128 : Int32) + ((v6 / (64 : Int32)) % (64 : Int32))), ((128 : Int32) + (v6 % (64 : Int32)))] V_b102 g_b102 V_b157 g_b157 ne_b102_b157 (own_n hv4) (own_and3 _)
def f0_0 (v0 : Int32) (v1 : Int32) (v2 : Int32) (v3 : Int32) : Int32 := (if (v0 &&& (3 : Int32)) = (0 : Int32) then (f0_77 v2 v3 (v0 &&& (3 : Int32)) ((v1 &&& (2147483647 : Int32)) &&& (127 : Int32))) else (if (v0 &&& (3 : Int32)) = (1 : Int32) then (f0_77 v2 v3 (v0 &&& (3 : Int32)) ((128 : Int32) + ((v1 &&& (2147483647 : Int32)) % (1920 : Int32)))) else (if (v0 &&& (3 : Int32)) = (2 : Int32) then (f0_77 v2 v3 (v0 &&& (3 : Int32)) ((2048 : Int32) + ((v1 &&& (2147483647 : Int32)) % (63488 : Int32)))) else (f0_77 v2 v3 (v0 &&& (3 : Int32)) ((65536 : Int32) + ((v1 &&& (2147483647 : Int32)) % (1048576 : Int32)))))))
set_option maxRecDepth 65536 in
set_option maxHeartbeats 4000000 in
theorem w0_0 {Z : State} {a0 : Array Value} {p : Program} {l : Launch} {e : Env} {s : State} {m : MethodId} {args : Array Value} {below : List Frame} {meth : Method} {c : Code} {T : State} {h : Heap} {n0 : Nat}  (C : own_Cx Z a0 p l e room_1 s m args below meth c "com/example/prim_json/primjson/Utf8PutPinLaw" "law" code maxLocals ret) (A : own_At p l e room_1 s m args below meth c T h n0 0 0) (v0 : Int32) (v1 : Int32) (v2 : Int32) (v3 : Int32) :
    own_Go p.tables e below (T.setTop (mkF m 0 #[.val (.int v0), .val (.int v1), .val (.int v2), .val (.int v3), .unset, .unset, .unset, .unset, .unset, .unset, .unset, .unset, .unset, .unset] [])) (own_QR s n0 2 12 (own_RV (f0_0 v0 v1 v2 v3))) := by
  unfold f0_0
  refine own_iloadN C A at_0 rfl rfl ?_
  refine own_iconst C A at_1 (v := 3) rfl rfl ?_
  refine own_iand C A at_2 rfl ?_
  refine own_istore C A at_3 (l' := #[.val (.int v0), .val (.int v1), .val (.int v2), .val (.int v3), .val (.int (v0 &&& (3 : Int32))), .unset, .unset, .unset, .unset, .unset, .unset, .unset, .unset, .unset]) rfl rfl ?_
  refine own_iloadN C A at_5 rfl rfl ?_
  refine own_ldcI C A (own_w C 0 rfl) at_6 rfl ?_
  refine own_iand C A at_8 rfl ?_
  refine own_istore C A at_9 (l' := #[.val (.int v0), .val (.int v1), .val (.int v2), .val (.int v3), .val (.int (v0 &&& (3 : Int32))), .val (.int (v1 &&& (2147483647 : Int32))), .unset, .unset, .unset, .unset, .unset, .unset, .unset, .unset]) rfl rfl ?_
  refine own_iload C A at_11 rfl rfl ?_
  refine own_ite (fun hc13 => ?_) (fun hc13 => ?_)
  · refine own_ifN C A at_13 (Jvm.Free.XT.i0_ne_f hc13) rfl ?_
    refine own_iload C A at_16 rfl rfl ?_
    refine own_bipush C A at_18 (v := 127) rfl rfl ?_
    refine own_iand C A at_20 rfl ?_
    refine own_istore C A at_21 (l' := #[.val (.int v0), .val (.int v1), .val (.int v2), .val (.int v3), .val (.int (v0 &&& (3 : Int32))), .val (.int (v1 &&& (2147483647 : Int32))), .val (.int ((v1 &&& (2147483647 : Int32)) &&& (127 : Int32))), .unset, .unset, .unset, .unset, .unset, .unset, .unset]) rfl rfl ?_
    refine own_goto C A at_23 (by decide) (q := 77) (by decide) ?_
    exact w0_77 C A v2 v3 (v0 &&& (3 : Int32)) ((v1 &&& (2147483647 : Int32)) &&& (127 : Int32)) (own_and3 _)
  · refine own_ifY C A at_13 (Jvm.Free.XT.i0_ne_t hc13) (by decide) (q := 26) (by decide) ?_
    refine own_iload C A at_26 rfl rfl ?_
    refine own_iconst C A at_28 (v := 1) rfl rfl ?_
    refine own_ite (fun hc29 => ?_) (fun hc29 => ?_)
    · refine own_icmpN C A at_29 (Jvm.Free.XT.ii_ne_f hc29) rfl ?_
      refine own_sipush C A at_32 (v := 128) rfl rfl ?_
      refine own_iload C A at_35 rfl rfl ?_
      refine own_sipush C A at_37 (v := 1920) rfl rfl ?_
      refine own_irem C A at_40 (by decide) rfl ?_
      refine own_iadd C A at_41 rfl ?_
      refine own_istore C A at_42 (l' := #[.val (.int v0), .val (.int v1), .val (.int v2), .val (.int v3), .val (.int (v0 &&& (3 : Int32))), .val (.int (v1 &&& (2147483647 : Int32))), .val (.int ((128 : Int32) + ((v1 &&& (2147483647 : Int32)) % (1920 : Int32)))), .unset, .unset, .unset, .unset, .unset, .unset, .unset]) rfl rfl ?_
      refine own_goto C A at_44 (by decide) (q := 77) (by decide) ?_
      exact w0_77 C A v2 v3 (v0 &&& (3 : Int32)) ((128 : Int32) + ((v1 &&& (2147483647 : Int32)) % (1920 : Int32))) (own_and3 _)
    · refine own_icmpY C A at_29 (Jvm.Free.XT.ii_ne_t hc29) (by decide) (q := 47) (by decide) ?_
      refine own_iload C A at_47 rfl rfl ?_
      refine own_iconst C A at_49 (v := 2) rfl rfl ?_
      refine own_ite (fun hc50 => ?_) (fun hc50 => ?_)
      · refine own_icmpN C A at_50 (Jvm.Free.XT.ii_ne_f hc50) rfl ?_
        refine own_sipush C A at_53 (v := 2048) rfl rfl ?_
        refine own_iload C A at_56 rfl rfl ?_
        refine own_ldcI C A (own_w C 15 rfl) at_58 rfl ?_
        refine own_irem C A at_60 (by decide) rfl ?_
        refine own_iadd C A at_61 rfl ?_
        refine own_istore C A at_62 (l' := #[.val (.int v0), .val (.int v1), .val (.int v2), .val (.int v3), .val (.int (v0 &&& (3 : Int32))), .val (.int (v1 &&& (2147483647 : Int32))), .val (.int ((2048 : Int32) + ((v1 &&& (2147483647 : Int32)) % (63488 : Int32)))), .unset, .unset, .unset, .unset, .unset, .unset, .unset]) rfl rfl ?_
        refine own_goto C A at_64 (by decide) (q := 77) (by decide) ?_
        exact w0_77 C A v2 v3 (v0 &&& (3 : Int32)) ((2048 : Int32) + ((v1 &&& (2147483647 : Int32)) % (63488 : Int32))) (own_and3 _)
      · refine own_icmpY C A at_50 (Jvm.Free.XT.ii_ne_t hc50) (by decide) (q := 67) (by decide) ?_
        refine own_ldcI C A (own_w C 11 rfl) at_67 rfl ?_
        refine own_iload C A at_69 rfl rfl ?_
        refine own_ldcI C A (own_w C 12 rfl) at_71 rfl ?_
        refine own_irem C A at_73 (by decide) rfl ?_
        refine own_iadd C A at_74 rfl ?_
        refine own_istore C A at_75 (l' := #[.val (.int v0), .val (.int v1), .val (.int v2), .val (.int v3), .val (.int (v0 &&& (3 : Int32))), .val (.int (v1 &&& (2147483647 : Int32))), .val (.int ((65536 : Int32) + ((v1 &&& (2147483647 : Int32)) % (1048576 : Int32)))), .unset, .unset, .unset, .unset, .unset, .unset, .unset]) rfl rfl ?_
        exact w0_77 C A v2 v3 (v0 &&& (3 : Int32)) ((65536 : Int32) + ((v1 &&& (2147483647 : Int32)) % (1048576 : Int32))) (own_and3 _)
theorem own_ef0 (m : MethodId) (v0 : Int32) (v1 : Int32) (v2 : Int32) (v3 : Int32) : entryFrame m #[(.int v0), (.int v1), (.int v2), (.int v3)] maxLocals = mkF m 0 #[.val (.int v0), .val (.int v1), .val (.int v2), .val (.int v3), .unset, .unset, .unset, .unset, .unset, .unset, .unset, .unset, .unset, .unset] [] := by first | (simp [entryFrame, mkF, argsToLocals, Value.category, maxLocals]; done) | rfl
theorem rm0 (l : Launch) (Z : State) (a0 : Array Value) (hw : ∀ d ∈ tables_1, d.before a0 Z = true) (ws : List Jvm.Cond) (v0 : Int32) (v1 : Int32) (v2 : Int32) (v3 : Int32) (h : Heap) (n0 : Nat) (hn : n0 ≤ h.size) :
    MetFree l x (head1 (Jvm.Cond.code x code maxLocals ret :: ws) room_1) (fun a U => a = #[(.int v0), (.int v1), (.int v2), (.int v3)] ∧ Z.Warmed39 U.vm ∧ U.heap = h) (fun _ _ _ _ _ => True) (fun _ U o U' => own_QR U n0 2 12 (own_RV (f0_0 v0 v1 v2 v3)) o U') :=
  own_met (plainFor_of_name (by first | (simp [plainName, overriddenIn, x]; done) | decide +kernel)) hw hn (fun m => own_ef0 m v0 v1 v2 v3) (fun p e s m below meth c T C A => w0_0 C A v0 v1 v2 v3)
theorem own_byte (y : Int32) : ((y.toInt8.toInt32).toInt8.toInt32 &&& 255).toInt = y.toInt % 256 := by
  have h1 := c_mask ((y.toInt8.toInt32).toInt8.toInt32) 255 8 (by decide) (by decide)
  have h2 := c_i2b y
  have h3 := c_i2b (y.toInt8.toInt32)
  rw [h1]
  omega
theorem own_enc {y z : Int32} (h : y.toInt % 256 = z.toInt) : ((y.toInt8.toInt32).toInt8.toInt32 &&& 255) = z := Int32.toInt_inj.mp ((own_byte y).trans h)
theorem own_or (A b : Int32) (k : Nat) (hk : k ≤ 31) (P : Int) (hP : P = (2 ^ k : Nat)) (h1 : A.toInt % P = 0) (h2 : 0 ≤ b.toInt) (h3 : b.toInt < P) (h4 : 0 ≤ A.toInt) (h5 : A.toInt < 1000) (h6 : P ≤ 1000) : (A ||| b).toInt = A.toInt + b.toInt := by
  have c := c_or A b k hk P hP h1 h2 h3
  have r := rng32 (A ||| b)
  omega
theorem own_ok1 {i at_ n F : Int32} {xs exp : List Int32} (h : ((i < at_ ∨ ¬ i < at_ + n) ∧ (xs.getD i.toNatClampNeg 0 &&& 255) = F) ∨ ((¬ i < at_ ∧ i < at_ + n) ∧ (xs.getD i.toNatClampNeg 0 &&& 255) = exp.getD (i - at_).toNatClampNeg 0)) : f2_0 i at_ n F xs exp = 1 := by
  unfold f2_0 f2_12 f2_27
  rcases h with ⟨h1, h2⟩ | ⟨h1, h2⟩
  · rw [if_pos h2]
    by_cases q : i < at_
    · rw [if_pos q]
    · rw [if_neg q, if_neg (h1.resolve_left q)]
  · rw [if_neg h1.1, if_pos h1.2, if_pos h2]
theorem own_322 {cp n at_ F : Int32} {xs exp ys : List Int32} (e : f1_0 at_ cp xs = (at_ + n, ys)) (h : ∀ i : Int32, i = 0 ∨ i = 1 ∨ i = 2 ∨ i = 3 ∨ i = 4 ∨ i = 5 ∨ i = 6 ∨ i = 7 → f2_0 i at_ n F ys exp = 1) : f0_322 cp n at_ F xs exp = 1 := by
  have n1 : ¬ (1 : Int32) = 0 := by decide
  unfold f0_322
  rw [e]
  dsimp only
  rw [if_pos rfl, h 0 (by simp), h 1 (by simp), h 2 (by simp), h 3 (by simp), h 4 (by simp), h 5 (by simp), h 6 (by simp), h 7 (by simp)]
  simp only [n1, if_false]
theorem own_four (a : Int32) : (a &&& 3) = 0 ∨ (a &&& 3) = 1 ∨ (a &&& 3) = 2 ∨ (a &&& 3) = 3 := by
  have l0 : (0 : Int32).toInt = 0 := rfl
  have l1 : (1 : Int32).toInt = 1 := rfl
  have l2 : (2 : Int32).toInt = 2 := rfl
  have l3 : (3 : Int32).toInt = 3 := rfl
  have := c_mask a 3 2 (by decide) (by decide)
  simp only [← Int32.toInt_inj, l0, l1, l2, l3]
  omega
theorem own_fill (f : Int32) : ((((f &&& 255).toInt8.toInt32).toInt8.toInt32) &&& 255) = (f &&& 255) := by
  have := c_mask f 255 8 (by decide) (by decide)
  exact own_enc (by omega)
theorem own_shr (cp q : Int32) (k : Nat) (hk : q.toBitVec.toNat % 32 = k) (K : Int) (hK : K = (2 ^ k : Nat)) : (cp >>> (q &&& 31)).toInt = cp.toInt / K := by rw [c_ishr cp q k hk, hK]
theorem own_div (cp q : Int32) (K : Int) (hq : q.toInt = K) (hn : q ≠ -1) (h : 0 ≤ cp.toInt) : (cp / q).toInt = cp.toInt / K := (c_idiv cp q K hq hn).1 h
theorem own_rem (cp q : Int32) (K : Int) (hq : q.toInt = K) (h : 0 ≤ cp.toInt) : (cp % q).toInt = cp.toInt % K := (c_irem cp q K hq).1 h
theorem own_sum (A b : Int32) (h1 : 0 ≤ A.toInt) (h2 : A.toInt < 1000) (h3 : 0 ≤ b.toInt) (h4 : b.toInt < 3000000) : (A + b).toInt = A.toInt + b.toInt := by
  have c := c_iadd A b
  have r := rng32 (A + b)
  omega
/-- a continuation byte of any shifted code point -/
theorem own_cont (x w : Int32) (h : 0 ≤ x.toInt) (hw : w.toInt = x.toInt % 64) : ((((128 : Int32) ||| (x &&& (63 : Int32))).toInt8.toInt32).toInt8.toInt32 &&& 255) = (128 : Int32) + w := by
  have l : (128 : Int32).toInt = 128 := rfl
  have m := c_mask x 63 6 (by decide) (by decide)
  have o := own_or 128 (x &&& 63) 6 (by decide) 64 (by decide) (by rw [l]; rfl) (by omega) (by omega) (by rw [l]; omega) (by rw [l]; omega) (by omega)
  have s := own_sum 128 w (by rw [l]; omega) (by rw [l]; omega) (by omega) (by omega)
  exact own_enc (by rw [o, s, l]; omega)
theorem own_77 (a f v cp : Int32) (h : (v = 0 ∧ 0 ≤ cp.toInt ∧ cp.toInt < 128) ∨ (v = 1 ∧ 128 ≤ cp.toInt ∧ cp.toInt < 2048) ∨ (v = 2 ∧ 2048 ≤ cp.toInt ∧ cp.toInt < 65536) ∨ (v = 3 ∧ 65536 ≤ cp.toInt ∧ cp.toInt < 1114112)) : f0_77 a f v cp = 1 := by
  have hF := own_fill f
  have l128 : (128 : Int32).toInt = 128 := rfl
  have l2048 : (2048 : Int32).toInt = 2048 := rfl
  have l65536 : (65536 : Int32).toInt = 65536 := rfl
  unfold f0_77
  generalize hfb : (((f &&& (255 : Int32)).toInt8.toInt32).toInt8.toInt32) = fb at *
  generalize hFF : (f &&& (255 : Int32)) = F at *
  rcases h with ⟨rfl, h1, h2⟩ | ⟨rfl, h1, h2⟩ | ⟨rfl, h1, h2⟩ | ⟨rfl, h1, h2⟩
  · have b0 : ((cp.toInt8.toInt32).toInt8.toInt32 &&& 255) = cp := own_enc (by omega)
    have q1 : cp < 128 := by rw [Int32.lt_iff_toInt_lt]; omega
    rw [if_pos (by decide)]
    rcases own_four a with h | h | h | h <;> rw [h]
    all_goals
      refine own_322 (by unfold f1_0; rw [if_pos q1]; rfl) (fun i hi => ?_)
      rcases hi with rfl | rfl | rfl | rfl | rfl | rfl | rfl | rfl
      all_goals first | exact own_ok1 (Or.inl ⟨by decide, hF⟩) | exact own_ok1 (Or.inr ⟨by decide, b0⟩)
  · have q1 : ¬ cp < 128 := by rw [Int32.lt_iff_toInt_lt]; omega
    have q2 : cp < 2048 := by rw [Int32.lt_iff_toInt_lt]; omega
    have s1 := own_shr cp 6 6 (by decide) 64 (by decide)
    have d1 := own_div cp 64 64 rfl (by decide) (by omega)
    have r1 := own_rem cp 64 64 rfl (by omega)
    have l192 : (192 : Int32).toInt = 192 := rfl
    have b0 : ((((192 : Int32) ||| (cp >>> ((6 : Int32) &&& 31))).toInt8.toInt32).toInt8.toInt32 &&& 255) = (192 : Int32) + (cp / 64) := by
      have o := own_or 192 (cp >>> ((6 : Int32) &&& 31)) 6 (by decide) 64 (by decide) (by rw [l192]; rfl) (by omega) (by omega) (by rw [l192]; omega) (by rw [l192]; omega) (by omega)
      have s := own_sum 192 (cp / 64) (by rw [l192]; omega) (by rw [l192]; omega) (by omega) (by omega)
      exact own_enc (by rw [o, s, l192]; omega)
    have b1 := own_cont cp (cp % 64) (by omega) r1
    rw [if_neg (by decide), if_pos (by decide)]
    rcases own_four a with h | h | h | h <;> rw [h]
    all_goals
      refine own_322 (by unfold f1_0; rw [if_neg q1, if_pos q2]; rfl) (fun i hi => ?_)
      rcases hi with rfl | rfl | rfl | rfl | rfl | rfl | rfl | rfl
      all_goals first | exact own_ok1 (Or.inl ⟨by decide, hF⟩) | exact own_ok1 (Or.inr ⟨by decide, b0⟩) | exact own_ok1 (Or.inr ⟨by decide, b1⟩)
  · have q1 : ¬ cp < 128 := by rw [Int32.lt_iff_toInt_lt]; omega
    have q2 : ¬ cp < 2048 := by rw [Int32.lt_iff_toInt_lt]; omega
    have q3 : cp < 65536 := by rw [Int32.lt_iff_toInt_lt]; omega
    have s1 := own_shr cp 6 6 (by decide) 64 (by decide)
    have s2 := own_shr cp 12 12 (by decide) 4096 (by decide)
    have d1 := own_div cp 64 64 rfl (by decide) (by omega)
    have d2 := own_div cp 4096 4096 rfl (by decide) (by omega)
    have r0 := own_rem cp 64 64 rfl (by omega)
    have r1 := own_rem (cp / 64) 64 64 rfl (by omega)
    have l224 : (224 : Int32).toInt = 224 := rfl
    have b0 : ((((224 : Int32) ||| (cp >>> ((12 : Int32) &&& 31))).toInt8.toInt32).toInt8.toInt32 &&& 255) = (224 : Int32) + (cp / 4096) := by
      have o := own_or 224 (cp >>> ((12 : Int32) &&& 31)) 5 (by decide) 32 (by decide) (by rw [l224]; rfl) (by omega) (by omega) (by rw [l224]; omega) (by rw [l224]; omega) (by omega)
      have s := own_sum 224 (cp / 4096) (by rw [l224]; omega) (by rw [l224]; omega) (by omega) (by omega)
      exact own_enc (by rw [o, s, l224]; omega)
    have b1 := own_cont (cp >>> ((6 : Int32) &&& 31)) ((cp / 64) % 64) (by omega) (by omega)
    have b2 := own_cont cp (cp % 64) (by omega) r0
    rw [if_neg (by decide), if_neg (by decide), if_pos (by decide)]
    rcases own_four a with h | h | h | h <;> rw [h]
    all_goals
      refine own_322 (by unfold f1_0; rw [if_neg q1, if_neg q2, if_pos q3]; rfl) (fun i hi => ?_)
      rcases hi with rfl | rfl | rfl | rfl | rfl | rfl | rfl | rfl
      all_goals first | exact own_ok1 (Or.inl ⟨by decide, hF⟩) | exact own_ok1 (Or.inr ⟨by decide, b0⟩) | exact own_ok1 (Or.inr ⟨by decide, b1⟩) | exact own_ok1 (Or.inr ⟨by decide, b2⟩)
  · have q1 : ¬ cp < 128 := by rw [Int32.lt_iff_toInt_lt]; omega
    have q2 : ¬ cp < 2048 := by rw [Int32.lt_iff_toInt_lt]; omega
    have q3 : ¬ cp < 65536 := by rw [Int32.lt_iff_toInt_lt]; omega
    have s1 := own_shr cp 6 6 (by decide) 64 (by decide)
    have s2 := own_shr cp 12 12 (by decide) 4096 (by decide)
    have s3 := own_shr cp 18 18 (by decide) 262144 (by decide)
    have d1 := own_div cp 64 64 rfl (by decide) (by omega)
    have d2 := own_div cp 4096 4096 rfl (by decide) (by omega)
    have d3 := own_div cp 262144 262144 rfl (by decide) (by omega)
    have r0 := own_rem cp 64 64 rfl (by omega)
    have r1 := own_rem (cp / 64) 64 64 rfl (by omega)
    have r2 := own_rem (cp / 4096) 64 64 rfl (by omega)
    have l240 : (240 : Int32).toInt = 240 := rfl
    have b0 : ((((240 : Int32) ||| (cp >>> ((18 : Int32) &&& 31))).toInt8.toInt32).toInt8.toInt32 &&& 255) = (240 : Int32) + (cp / 262144) := by
      have o := own_or 240 (cp >>> ((18 : Int32) &&& 31)) 4 (by decide) 16 (by decide) (by rw [l240]; rfl) (by omega) (by omega) (by rw [l240]; omega) (by rw [l240]; omega) (by omega)
      have s := own_sum 240 (cp / 262144) (by rw [l240]; omega) (by rw [l240]; omega) (by omega) (by omega)
      exact own_enc (by rw [o, s, l240]; omega)
    have b1 := own_cont (cp >>> ((12 : Int32) &&& 31)) ((cp / 4096) % 64) (by omega) (by omega)
    have b2 := own_cont (cp >>> ((6 : Int32) &&& 31)) ((cp / 64) % 64) (by omega) (by omega)
    have b3 := own_cont cp (cp % 64) (by omega) r0
    rw [if_neg (by decide), if_neg (by decide), if_neg (by decide)]
    rcases own_four a with h | h | h | h <;> rw [h]
    all_goals
      refine own_322 (by unfold f1_0; rw [if_neg q1, if_neg q2, if_neg q3]; rfl) (fun i hi => ?_)
      rcases hi with rfl | rfl | rfl | rfl | rfl | rfl | rfl | rfl
      all_goals first | exact own_ok1 (Or.inl ⟨by decide, hF⟩) | exact own_ok1 (Or.inr ⟨by decide, b0⟩) | exact own_ok1 (Or.inr ⟨by decide, b1⟩) | exact own_ok1 (Or.inr ⟨by decide, b2⟩) | exact own_ok1 (Or.inr ⟨by decide, b3⟩)
theorem own_rng (A x q : Int32) (a b : Int) (hA : A.toInt = a) (hq : q.toInt = b) (h1 : 0 ≤ a) (h2 : a < 100000) (h3 : 0 < b) (h4 : b < 3000000) : a ≤ (A + ((x &&& (2147483647 : Int32)) % q)).toInt ∧ (A + ((x &&& (2147483647 : Int32)) % q)).toInt < a + b := by
  have m := c_mask x 2147483647 31 (by decide) (by decide)
  have r := (c_irem (x &&& 2147483647) q b hq).1 (by omega)
  have n1 := Int.emod_nonneg (x &&& (2147483647 : Int32)).toInt (show b ≠ 0 by omega)
  have n2 := Int.emod_lt_of_pos (x &&& (2147483647 : Int32)).toInt h3
  have c := c_iadd A ((x &&& (2147483647 : Int32)) % q)
  have rr := rng32 (A + ((x &&& (2147483647 : Int32)) % q))
  rw [r, hA] at c
  generalize (x &&& (2147483647 : Int32)).toInt % b = M at *
  omega
theorem own_plain (s x a f : Int32) : f0_0 s x a f = 1 := by
  unfold f0_0
  have m := c_mask (x &&& 2147483647) 127 7 (by decide) (by decide)
  have g1 := own_rng 128 x 1920 128 1920 rfl rfl (by omega) (by omega) (by omega) (by omega)
  have g2 := own_rng 2048 x 63488 2048 63488 rfl rfl (by omega) (by omega) (by omega) (by omega)
  have g3 := own_rng 65536 x 1048576 65536 1048576 rfl rfl (by omega) (by omega) (by omega) (by omega)
  rcases own_four s with h | h | h | h <;> rw [h]
  · rw [if_pos (by decide)]; exact own_77 _ _ _ _ (Or.inl ⟨rfl, by omega, by omega⟩)
  · rw [if_neg (by decide), if_pos (by decide)]; exact own_77 _ _ _ _ (Or.inr (Or.inl ⟨rfl, by omega, by omega⟩))
  · rw [if_neg (by decide), if_neg (by decide), if_pos (by decide)]; exact own_77 _ _ _ _ (Or.inr (Or.inr (Or.inl ⟨rfl, by omega, by omega⟩)))
  · rw [if_neg (by decide), if_neg (by decide), if_neg (by decide)]; exact own_77 _ _ _ _ (Or.inr (Or.inr (Or.inr ⟨rfl, by omega, by omega⟩)))

set_option maxRecDepth 65536 in
set_option maxHeartbeats 40000000 in
theorem own_comes {Post : Tables → Env → Array Value → State → Outcome → State → Prop} (hpost : ∀ tb e args s v u, (limb_1_1.after args s (.returned v) u = true ∧ limb_1_2.after args s (.returned v) u = true ∧ True) → FrameEnd s (.returned v) u (Jvm.fieldLocs frame_1_writes args s ++ Jvm.arrayLocs frame_1_arrays args s ++ Jvm.staticLocs frame_1_statics s) 16 128 → Post tb e args s (.returned v) u) :
    ArmFor flags0 classFile x code maxLocals ret World_1 tables_1 room_1 Calls_1 rest_1 Pre_1 Post := by
  intro l hfl _ _ p e ha hc hk s m args below hf hA hF happ hP
  obtain ⟨hcalls, hrest, hpre⟩ := hP
  obtain ⟨-, -, -, hnamed, -, -, -, hat⟩ := (Spec.applies_iff hf).mp happ
  obtain ⟨hg, hn⟩ := and_e (Cond.before_iff.mp (show (Jvm.Cond.and given_1 narrow_1).before args s = true from hpre))
  obtain ⟨h1, g0⟩ := and_e hg
  obtain ⟨k0, g1⟩ := and_e g0
  obtain ⟨k1, g2⟩ := and_e g1
  obtain ⟨k2, g3⟩ := and_e g2
  obtain ⟨w0, w1, w2, w3, rfl⟩ : ∃ w0 w1 w2 w3 : Value, args = #[w0, w1, w2, w3] := by
    have hs : args.size = 4 := by simpa [Cond.value, given_1] using h1
    obtain ⟨L⟩ := args
    match L, hs with
    | [w0, w1, w2, w3], _ => exact ⟨w0, w1, w2, w3, rfl⟩
  have hw := fun d (hd : d ∈ tables_1) => atoms_spec (ws := Jvm.Cond.code x code maxLocals ret :: tables_1) hat d (List.mem_cons_of_mem _ hd)
  obtain ⟨i0, e0⟩ := is_v k0
  obtain rfl : w0 = (.int i0) := Option.some.inj e0
  obtain ⟨i1, e1⟩ := is_v k1
  obtain rfl : w1 = (.int i1) := Option.some.inj e1
  obtain ⟨i2, e2⟩ := is_v k2
  obtain rfl : w2 = (.int i2) := Option.some.inj e2
  obtain ⟨i3, e3⟩ := is_v g3
  obtain rfl : w3 = (.int i3) := Option.some.inj e3
  obtain ⟨n, o, h1, h2, h3, _, L, rfl, ⟨hv, N⟩, hq⟩ := rm0 l s _ hw tables_1 i0 i1 i2 i3 s.heap s.heap.size (Nat.le_refl _) p e ha hc hk s m _ below hf ((Spec.applies_iff_loose hf).mp happ).1 ⟨rfl, State.Warmed39.refl s, rfl⟩ trivial
  have hv' := Eq.trans hv (congrArg (fun z => some (Value.int z)) (own_plain i0 i1 i2 i3))
  subst hv'
  refine ⟨n, _, h1, h2, h3, hpost _ _ _ _ _ _ ⟨Cond.after_iff.mpr rfl, Cond.after_iff.mpr (eq_i res_at (Term.int_eval (1)) rfl), trivial⟩ ⟨hq.1, hq.2.1, (hq.2.2.sift fun y hy => Or.inr (N y hy)).mono (by decide) (by decide)⟩⟩
theorem main_1_1 : Claimed_1_1 := own_comes fun _ _ _ _ _ _ h hF => ⟨h.1, hF⟩
theorem main_1_2 : Claimed_1_2 := own_comes fun _ _ _ _ _ _ h hF => ⟨h.2.1, hF⟩
end Jvm.Pilot.@@N@@
namespace Jvm.Pilot.@@N@@
open Jvm Jvm.ClassFile Sem Op Lib Jvm.Free Jvm.Stand Jvm.Pilot.@@N@@.Jvm.D
/-! MADE BY PROGRAM (witnessworld.py) out of the Statement's table words and the real class files: 9 classes; the members and pool entries that the words name. The judged class is class 1, her method 1. -/
namespace start1
open Jvm.ClassFile
def u (s : String) : CpInfo := .utf8 (stringToUtf16 s)
/-- a pool by its gaps: so many unusable entries, then the entry; so many at the end -/
def gap : Nat → List CpInfo → List CpInfo
  | 0, r => r
  | n + 1, r => .unusable :: gap n r
def poolList (es : List (Nat × CpInfo)) (last : Nat) : List CpInfo := es.foldr (fun e r => gap e.1 (e.2 :: r)) (gap last [])
def pool (es : List (Nat × CpInfo)) (last : Nat) : Array CpInfo := ⟨poolList es last⟩
def fileOf (pool : Array CpInfo) (this : Nat) (attrs : Array Attribute := #[]) (ms : Array MethodInfo := #[]) (fl : Nat := 33) (sup : Nat := 0) (ifs : Array Nat := #[]) (fds : Array FieldInfo := #[]) : ClassFile where
  minorVersion := 0
  majorVersion := 65
  constantPool := pool
  accessFlags := fl
  thisClass := this
  superClass := sup
  interfaces := ifs
  fields := fds
  methods := ms
  attributes := attrs
def plain (name : String) (sup : Option ClassId) : Class where
  name := name
  kind := .ordinary
  loader := none
  accessFlags := 33
  super := sup
  interfaces := #[]
  cf := none
  fields := #[]
  methods := #[]
  instanceTypes := #[]
  staticTypes := #[]
  resolved := #[]
  callSites := []
  init := .initialized
  statics := none
  mirror := none

def pool0 : Array CpInfo := pool [(5, u "<init>"), (0, u "()V"), (1, .class_ 10), (1, u "java/lang/Object")] 113

def k0m0 : Method := { name := "<init>", desc := "()V", sig := { parameters := [], returnType := none }, accessFlags := 1, code := none }
/-- java/lang/Object -/
def k0 : Class := { plain "java/lang/Object" none with
  accessFlags := 33
  interfaces := #[]
  cf := some (fileOf pool0 8 #[] #[{ accessFlags := 1, nameIndex := 5, descriptorIndex := 6, attributes := #[] }] 33 0 #[] #[])
  fields := #[]
  methods := #[k0m0]
  instanceTypes := #[]
  staticTypes := #[]
  resolved := Array.replicate 124 none
  statics := none }

def pool1 : Array CpInfo := pool [(2, .class_ 4), (1, u "java/lang/Object"), (0, u "<init>"), (0, u "()V"), (0, .integer 2147483647), (0, .integer 63488), (0, .integer 65536), (0, .integer 1048576), (0, .integer 262144), (0, .methodref 13 14), (0, .class_ 15), (0, .nameAndType 16 17), (0, u "com/example/prim_json/primjson/Utf8"), (0, u "put"), (0, u "([BII)I"), (0, .methodref 19 20), (0, .class_ 21), (0, .nameAndType 22 23), (0, u "com/example/prim_json/primjson/Utf8PutPinLaw"), (0, u "ok"), (0, u "([BIII[II)Z"), (2, u "law"), (0, u "(IIII)Z")] 7

def k1m0 : Method := { name := "<init>", desc := "()V", sig := { parameters := [], returnType := none }, accessFlags := 1, code := none }
def k1c1 : Code := { maxStack := 6, maxLocals := 14, code := code, exceptionTable := #[], attributes := #[] }
def k1m1 : Method := { name := "law", desc := "(IIII)Z", sig := { parameters := [.int, .int, .int, .int], returnType := some .boolean }, accessFlags := 9, code := some k1c1 }
def k1c2 : Code := { maxStack := 3, maxLocals := 7, code := method_3_code, exceptionTable := #[], attributes := #[] }
def k1m2 : Method := { name := "ok", desc := "([BIII[II)Z", sig := { parameters := [(.array .byte), .int, .int, .int, (.array .int), .int], returnType := some .boolean }, accessFlags := 10, code := some k1c2 }
/-- com/example/prim_json/primjson/Utf8PutPinLaw -/
def k1 : Class := { plain "com/example/prim_json/primjson/Utf8PutPinLaw" (some 0) with
  accessFlags := 49
  interfaces := #[]
  cf := some (fileOf pool1 19 #[] #[{ accessFlags := 1, nameIndex := 5, descriptorIndex := 6, attributes := #[] }, { accessFlags := 9, nameIndex := 26, descriptorIndex := 27, attributes := #[] }, { accessFlags := 10, nameIndex := 22, descriptorIndex := 23, attributes := #[] }] 49 2 #[] #[])
  fields := #[]
  methods := #[k1m0, k1m1, k1m2]
  instanceTypes := #[]
  staticTypes := #[]
  resolved := Array.replicate 35 none
  statics := none }

def pool2 : Array CpInfo := pool [(1, .class_ 2), (0, u "com/example/prim_json/primjson/Utf8"), (1, .class_ 6), (1, u "java/lang/Object"), (0, u "<init>"), (0, u "()V"), (15, u "([BII)I"), (75, .integer 65536), (6, u "SIZE_SHIFT"), (0, u "I"), (2, u "CODE_POINT_MASK"), (12, u "put")] 2

def k2m0 : Method := { name := "<init>", desc := "()V", sig := { parameters := [], returnType := none }, accessFlags := 2, code := none }
def k2c1 : Code := { maxStack := 5, maxLocals := 4, code := prog_55_method_17_code, exceptionTable := #[], attributes := #[] }
def k2m1 : Method := { name := "put", desc := "([BII)I", sig := { parameters := [(.array .byte), .int, .int], returnType := some .int }, accessFlags := 8, code := some k2c1 }
/-- com/example/prim_json/primjson/Utf8 -/
def k2 : Class := { plain "com/example/prim_json/primjson/Utf8" (some 0) with
  accessFlags := 48
  interfaces := #[]
  cf := some (fileOf pool2 1 #[] #[{ accessFlags := 2, nameIndex := 7, descriptorIndex := 8, attributes := #[] }, { accessFlags := 8, nameIndex := 124, descriptorIndex := 24, attributes := #[] }] 48 4 #[] #[{ accessFlags := 26, nameIndex := 107, descriptorIndex := 108, attributes := #[] }, { accessFlags := 26, nameIndex := 111, descriptorIndex := 108, attributes := #[] }])
  fields := #[{ name := "SIZE_SHIFT", type := .int, accessFlags := 26, slot := 0, constantValue := 0 }, { name := "CODE_POINT_MASK", type := .int, accessFlags := 26, slot := 1, constantValue := 0 }]
  methods := #[k2m0, k2m1]
  instanceTypes := #[]
  staticTypes := #[.int, .int]
  resolved := Array.replicate 127 none
  statics := none }

def pool3 : Array CpInfo := pool [(1, u "java/lang/Cloneable"), (0, .class_ 1), (0, u "java/lang/Object"), (0, .class_ 3)] 3

/-- java/lang/Cloneable -/
def k3 : Class := { plain "java/lang/Cloneable" (some 0) with
  accessFlags := 1537
  interfaces := #[]
  cf := some (fileOf pool3 2 #[] #[] 1537 4 #[] #[])
  fields := #[]
  methods := #[]
  instanceTypes := #[]
  staticTypes := #[]
  resolved := Array.replicate 8 none
  statics := none }

def pool4 : Array CpInfo := pool [(1, u "java/io/Serializable"), (0, .class_ 1), (0, u "java/lang/Object"), (0, .class_ 3)] 3

/-- java/io/Serializable -/
def k4 : Class := { plain "java/io/Serializable" (some 0) with
  accessFlags := 1537
  interfaces := #[]
  cf := some (fileOf pool4 2 #[] #[] 1537 4 #[] #[])
  fields := #[]
  methods := #[]
  instanceTypes := #[]
  staticTypes := #[]
  resolved := Array.replicate 8 none
  statics := none }

/-- the primitive byte -/
def k5 : Class := { plain "byte" none with kind := .primitive 'B', accessFlags := 0x411 }
/-- [B -/
def k6 : Class := { plain "[B" (some 0) with kind := .array 5 .byte, interfaces := #[3, 4], accessFlags := 1041 }

/-- the primitive int -/
def k7 : Class := { plain "int" none with kind := .primitive 'I', accessFlags := 0x411 }
/-- [I -/
def k8 : Class := { plain "[I" (some 0) with kind := .array 7 .int, interfaces := #[3, 4], accessFlags := 1041 }

def heap : Heap := #[]
def classes : Array Class := #[k0, k1, k2, k3, k4, k5, k6, k7, k8]
def interned : List (Array UInt16 × Addr) := []
def slotsUsed : Nat := 0
def theMethod : MethodId := ⟨1, 1⟩
def args0 : Array Value := #[.int 1, .int 7, .int 9, .int 3]
def aboutOver (below : List Frame) : State where
  vm := { classes := classes, interned := interned.toArray }
  heap := heap
  slotsUsed := slotsUsed
  threads := #[{ frames := .invoking theMethod args0 :: below }]
def below0 : List Frame := [.native { method := ⟨0, 0⟩, args := #[] }]
def about1 : State := aboutOver below0
def p0 : Program := .bare "" "" ""
def e0 : Env := launch0.env 0 0 0
theorem w_frames : about1.frames = Frame.invoking theMethod args0 :: below0 := rfl
set_option maxRecDepth 65536 in
theorem w_args : argsFit about1.vm theMethod args0 = true := by decide +kernel
set_option maxRecDepth 65536 in
theorem w_heap : heapFits about1 = true := by decide +kernel
set_option maxRecDepth 65536 in
theorem w_runnable : about1.curStatus? = some .runnable := by decide +kernel
set_option maxRecDepth 65536 in
theorem w_alone : about1.alone = true := by decide +kernel
set_option maxRecDepth 65536 in
theorem w_named : about1.methodNamed? x = some theMethod := by decide +kernel
set_option maxRecDepth 65536 in
theorem w_hears : about1.hears theMethod below0 = true := by decide +kernel
set_option maxRecDepth 65536 in
theorem w_ripe : about1.ripe theMethod args0 below0 = true := by decide +kernel
theorem w_running : about1.status = .running := rfl
set_option maxRecDepth 65536 in
theorem w_room : about1.hasRoom e0.platform room_1 = true :=
  launch0.hasRoom_least _ room_1 (by decide +kernel) (by decide +kernel) (by decide +kernel) (by decide +kernel) (by decide +kernel) (by decide +kernel)
theorem allAtoms_all (ts : List Jvm.Cond) (a : Array Jvm.Value) (st : Jvm.State) : (allAtoms ts).before a st = ts.all (fun c => c.before a st) := by
  induction ts with
  | nil => rfl
  | cons c t ih =>
    show (Jvm.Cond.and c (allAtoms t)).before a st = _
    rw [Jvm.Cond.before_and, ih, List.all_cons]
def words1 : List Jvm.Cond := Jvm.Cond.code x code maxLocals ret :: tables_1
/-- a 'code' word, met by the world's own term for the bytes: nothing is compared byte by byte -/
theorem code_word {y : MethodName} {bytes : ByteArray} {mx : Nat} {rt : Option FieldType} {a : Array Value} {s : State} {m : MethodId} {meth : Method} {c : Code} (h1 : s.methodNamed? y = some m) (h2 : s.vm.method? m = some meth) (h3 : meth.code = some c) (h4 : c.code = bytes)
    (h5 : (c.maxLocals == mx && c.exceptionTable.isEmpty && decide (c.maxStack ≤ mostOperands) && decide (meth.sig.returnType = rt) && !meth.locks && decide (parseMethodDescriptor y.desc = some meth.sig)) = true) : (Jvm.Cond.code y bytes mx rt).before a s = true := by
  simp only [Bool.and_eq_true, beq_iff_eq, Bool.not_eq_true', decide_eq_true_eq] at h5
  obtain ⟨⟨⟨⟨⟨g1, g2⟩, g3⟩, g4⟩, g5⟩, g6⟩ := h5
  simp [Cond.before, Cond.holds, Cond.value, h1, h2, h3, h4, g1, g2, g3, g4, g5, g6]
def isCode : Jvm.Cond → Bool
  | .code _ _ _ _ => true
  | _ => false
theorem all_split {L : List Jvm.Cond} {P : Jvm.Cond → Bool} (h1 : L.all (fun c => isCode c || P c) = true) (h2 : ∀ c ∈ L.filter isCode, P c = true) : L.all P = true := by
  refine List.all_eq_true.mpr fun c hc => ?_
  have h := List.all_eq_true.mp h1 c hc
  rcases Bool.eq_false_or_eq_true (isCode c) with hi | hi
  · exact h2 c (List.mem_filter.mpr ⟨hc, hi⟩)
  · simpa [hi] using h
set_option maxRecDepth 65536 in
theorem w_c0 : (Jvm.Cond.code x code maxLocals ret).before args0 about1 = true := code_word (m := ⟨1, 1⟩) (meth := k1m1) (c := k1c1) (by decide +kernel) rfl rfl rfl (by decide +kernel)
set_option maxRecDepth 65536 in
theorem w_c1 : (Jvm.Cond.code ({ cls := "com/example/prim_json/primjson/Utf8", name := "put", desc := "([BII)I" } : Jvm.MethodName) prog_55_method_17_code (4 : Nat) (Option.some Jvm.ClassFile.FieldType.int)).before args0 about1 = true := code_word (m := ⟨2, 1⟩) (meth := k2m1) (c := k2c1) (by decide +kernel) rfl rfl rfl (by decide +kernel)
set_option maxRecDepth 65536 in
theorem w_c2 : (Jvm.Cond.code ({ cls := "com/example/prim_json/primjson/Utf8PutPinLaw", name := "ok", desc := "([BIII[II)Z" } : Jvm.MethodName) method_3_code (7 : Nat) (Option.some Jvm.ClassFile.FieldType.boolean)).before args0 about1 = true := code_word (m := ⟨1, 2⟩) (meth := k1m2) (c := k1c2) (by decide +kernel) rfl rfl rfl (by decide +kernel)
def codes1 : List Jvm.Cond := [Jvm.Cond.code x code maxLocals ret, Jvm.Cond.code ({ cls := "com/example/prim_json/primjson/Utf8", name := "put", desc := "([BII)I" } : Jvm.MethodName) prog_55_method_17_code (4 : Nat) (Option.some Jvm.ClassFile.FieldType.int), Jvm.Cond.code ({ cls := "com/example/prim_json/primjson/Utf8PutPinLaw", name := "ok", desc := "([BIII[II)Z" } : Jvm.MethodName) method_3_code (7 : Nat) (Option.some Jvm.ClassFile.FieldType.boolean)]
set_option maxRecDepth 65536 in
theorem codes_eq : words1.filter isCode = codes1 := rfl
theorem w_codes : ∀ c ∈ words1.filter isCode, c.before args0 about1 = true := by
  rw [codes_eq]
  intro c hc
  simp only [codes1, List.mem_cons, List.not_mem_nil, or_false] at hc
  rcases hc with rfl | rfl | rfl
  · exact w_c0
  · exact w_c1
  · exact w_c2
set_option maxRecDepth 65536 in
theorem w_t1 : words1.all (fun c => isCode c || c.before args0 about1) = true := by decide +kernel
theorem w_tables : (allAtoms (Jvm.Cond.code x code maxLocals ret :: tables_1)).before args0 about1 = true := by
  rw [allAtoms_all]
  show words1.all (fun c => c.before args0 about1) = true
  refine all_split ?_ w_codes
  rw [w_t1]
set_option maxRecDepth 65536 in
theorem w_case : (Jvm.Cond.and given_1 narrow_1).before args0 about1 = true := by decide +kernel
theorem w_applies : (headSpec (Jvm.Cond.code x code maxLocals ret :: tables_1) room_1).applies x e0.platform about1 = true :=
  (Spec.applies_iff w_frames).mpr ⟨w_running, w_runnable, w_alone, w_named, w_hears, w_ripe, w_room, w_tables⟩
theorem atStart : AtStart classFile x code maxLocals ret World_1 tables_1 room_1 Calls_1 rest_1 Pre_1 launch0 p0 e0 about1 theMethod args0 below0 :=
  ⟨lists_1, trivial, launch0.admits_env _ _ _, launch0.least_env, fairChoices_fair.cas, fairChoices_fair.clock, w_frames, w_args, w_heap, w_applies, trivial, trivial, w_case⟩
end start1
theorem witness_1 : WitnessClaimed_1 := ⟨start1.p0, start1.e0, start1.about1, start1.theMethod, start1.args0, start1.below0, start1.atStart⟩
end Jvm.Pilot.@@N@@
