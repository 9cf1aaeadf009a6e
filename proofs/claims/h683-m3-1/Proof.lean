import JvmDerived
import JvmDerived.Pilot.@@N@@Statement
import JvmDerived.Pilot.@@N@@Code
set_option linter.unusedVariables false
set_option linter.unusedSimpArgs false
set_option maxHeartbeats 4000000
namespace Jvm.Pilot.@@N@@
open Jvm Jvm.ClassFile Sem Op Lib Jvm.Free Jvm.Stand Jvm.LawKit Jvm.RoadKit Bundle Jvm.Pilot.@@N@@.Jvm.D

def own_Go (tb : Tables) (e : Env) (below : List Frame) (U : State) (Q : Outcome → State → Prop) : Prop :=
  ∃ s₂ o, Steps tb e below U s₂ ∧ s₂.status = .running ∧ Ended s₂ below o ∧ Q o s₂
def own_QR (s : State) (n0 kc ks : Nat) (P : Option Value → Heap → Prop) (o : Outcome) (u : State) : Prop :=
  ∃ v L, o = .returned v ∧ (P v u.heap ∧ Fr n0 L) ∧ FrameEnd s o u L kc ks
def own_RI (h : Heap) (r : Int32) (v : Option Value) (h' : Heap) : Prop := v = some (.int r) ∧ h = h'
def own_RV (r : Int32) (v : Option Value) (h' : Heap) : Prop := v = some (.int r)
def own_R0 (h : Heap) (r : Unit) (v : Option Value) (h' : Heap) : Prop := v = none ∧ h = h'
def own_RJ (h : Heap) (r : Int64) (v : Option Value) (h' : Heap) : Prop := v = some (.long r) ∧ h = h'
def own_Cx (Z : State) (a0 : Array Value) (p : Program) (l : Launch) (e : Env) (R : Room) (s : State) (m : MethodId) (args : Array Value) (below : List Frame) (meth : Method) (c : Code) (own nm : String) (bytes : ByteArray) (mx : Nat) (ret : Option FieldType) : Prop :=
  p.tables.exec = Jvm.exec ∧ c.code = bytes ∧ c.maxLocals = mx ∧ s.vm.findClass own = some m.cls ∧ Z.Warmed39 s.vm ∧ meth.name = nm ∧ meth.sig.returnType = ret ∧ meth.locks = false ∧ ∀ d ∈ tables_1, d.before a0 Z = true
def own_At (p : Program) (l : Launch) (e : Env) (R : Room) (s : State) (m : MethodId) (args : Array Value) (below : List Frame) (meth : Method) (c : Code) (T : State) (h : Heap) (n0 kc ks : Nat) : Prop :=
  ∃ locs cells slots, Stand p l e R s m args below meth c T locs cells slots ∧ T.heap = h ∧ Fr n0 locs ∧ cells ≤ kc ∧ slots ≤ ks ∧ n0 ≤ h.size
theorem own_go {tb : Tables} {e : Env} {below : List Frame} {U U' : State} {Q : Outcome → State → Prop} (h : ∀ t, Steps tb e below U' t → Steps tb e below U t) (k : own_Go tb e below U' Q) : own_Go tb e below U Q := by
  obtain ⟨s2, o, h1, h2⟩ := k
  exact ⟨s2, o, h _ h1, h2⟩
theorem own_ite {tb : Tables} {e : Env} {below : List Frame} {U s : State} {n0 kc ks : Nat} {β : Type} {P : β → Option Value → Heap → Prop} {cnd : Prop} [Decidable cnd] {A B : β} (h1 : cnd → own_Go tb e below U (own_QR s n0 kc ks (P A))) (h2 : ¬ cnd → own_Go tb e below U (own_QR s n0 kc ks (P B))) :
    own_Go tb e below U (own_QR s n0 kc ks (P (if cnd then A else B))) := by
  by_cases hc : cnd
  · rw [if_pos hc]; exact h1 hc
  · rw [if_neg hc]; exact h2 hc

section OwnKit
variable {Z : State} {a0 : Array Value} {p : Program} {l : Launch} {e : Env} {R : Room} {s : State} {m : MethodId} {args : Array Value} {below : List Frame} {meth : Method} {c : Code} {own nm : String} {bytes : ByteArray} {mx : Nat} {ret : Option FieldType} {T : State} {h : Heap} {n0 kc ks : Nat} {Q : Outcome → State → Prop} {pc q : Nat} {Ls : Array Slot} {st : List Value}
theorem own_here (A : own_At p l e R s m args below meth c T h n0 kc ks) : At T m c below := by obtain ⟨_, _, _, X, _⟩ := A; exact X.here
theorem own_w (C : own_Cx Z a0 p l e R s m args below meth c own nm bytes mx ret) (i : Nat) {d : Jvm.Cond} (hi : tables_1[i]? = some d) : d.before a0 Z = true := C.2.2.2.2.2.2.2.2 d (List.mem_of_getElem? hi)
theorem own_size (A : own_At p l e R s m args below meth c T h n0 kc ks) : n0 ≤ h.size := by obtain ⟨_, _, _, _, _, _, _, _, hn⟩ := A; exact hn
theorem own_more {kc' ks' : Nat} (A : own_At p l e R s m args below meth c T h n0 kc ks) (h1 : kc ≤ kc') (h2 : ks ≤ ks') : own_At p l e R s m args below meth c T h n0 kc' ks' := by obtain ⟨locs, cells, slots, X, eT, N, hc, hs, hn⟩ := A; exact ⟨locs, cells, slots, X, eT, N, Nat.le_trans hc h1, Nat.le_trans hs h2, hn⟩
theorem own_iloadN (C : own_Cx Z a0 p l e R s m args below meth c own nm bytes mx ret) (A : own_At p l e R s m args below meth c T h n0 kc ks) {k : Fin 4} {v : Int32} (hd : decode bytes pc = .ok (.iload_n k, 1)) (hl : Ls[k.val]? = some (.val (.int v))) (hq : pc + 1 = q) (k : own_Go p.tables e below (T.setTop (mkF m q Ls (.int v :: st))) Q) :
    own_Go p.tables e below (T.setTop (mkF m pc Ls st)) Q := by
  subst hq
  exact own_go (fun t => XS.iloadN (own_here A) C.1 rfl (hb C.2.1 hd) hl) k
theorem own_lloadN (C : own_Cx Z a0 p l e R s m args below meth c own nm bytes mx ret) (A : own_At p l e R s m args below meth c T h n0 kc ks) {k : Fin 4} {v : Int64} (hd : decode bytes pc = .ok (.lload_n k, 1)) (hl : Ls[k.val]? = some (.val (.long v))) (hq : pc + 1 = q) (k : own_Go p.tables e below (T.setTop (mkF m q Ls (.long v :: st))) Q) :
    own_Go p.tables e below (T.setTop (mkF m pc Ls st)) Q := by
  subst hq
  exact own_go (fun t => XS.lloadN (own_here A) C.1 rfl (hb C.2.1 hd) hl) k
theorem own_aloadN (C : own_Cx Z a0 p l e R s m args below meth c own nm bytes mx ret) (A : own_At p l e R s m args below meth c T h n0 kc ks) {k : Fin 4} {v : Value} (hd : decode bytes pc = .ok (.aload_n k, 1)) (hl : Ls[k.val]? = some (.val v)) (hv : v.isRef = true) (hq : pc + 1 = q) (k : own_Go p.tables e below (T.setTop (mkF m q Ls (v :: st))) Q) :
    own_Go p.tables e below (T.setTop (mkF m pc Ls st)) Q := by
  subst hq
  exact own_go (fun t => XS.aloadN (own_here A) C.1 rfl (hb C.2.1 hd) hl hv) k
theorem own_istoreN (C : own_Cx Z a0 p l e R s m args below meth c own nm bytes mx ret) (A : own_At p l e R s m args below meth c T h n0 kc ks) {k : Fin 4} {x : Int32} {l' : Array Slot} (hd : decode bytes pc = .ok (.istore_n k, 1)) (hl : storeLocals Ls k.val (.int x) = some l') (hq : pc + 1 = q) (k : own_Go p.tables e below (T.setTop (mkF m q l' st)) Q) :
    own_Go p.tables e below (T.setTop (mkF m pc Ls (.int x :: st))) Q := by
  subst hq
  exact own_go (fun t => XS.istoreN (own_here A) C.1 rfl (hb C.2.1 hd) rfl hl) k
theorem own_lstoreN (C : own_Cx Z a0 p l e R s m args below meth c own nm bytes mx ret) (A : own_At p l e R s m args below meth c T h n0 kc ks) {k : Fin 4} {x : Int64} {l' : Array Slot} (hd : decode bytes pc = .ok (.lstore_n k, 1)) (hl : storeLocals Ls k.val (.long x) = some l') (hq : pc + 1 = q) (k : own_Go p.tables e below (T.setTop (mkF m q l' st)) Q) :
    own_Go p.tables e below (T.setTop (mkF m pc Ls (.long x :: st))) Q := by
  subst hq
  exact own_go (fun t => XS.lstoreN (own_here A) C.1 rfl (hb C.2.1 hd) rfl hl) k
theorem own_astoreN (C : own_Cx Z a0 p l e R s m args below meth c own nm bytes mx ret) (A : own_At p l e R s m args below meth c T h n0 kc ks) {k : Fin 4} {x : Value} {l' : Array Slot} (hd : decode bytes pc = .ok (.astore_n k, 1)) (hv : x.isRef = true) (hl : storeLocals Ls k.val x = some l') (hq : pc + 1 = q) (k : own_Go p.tables e below (T.setTop (mkF m q l' st)) Q) :
    own_Go p.tables e below (T.setTop (mkF m pc Ls (x :: st))) Q := by
  subst hq
  exact own_go (fun t => XS.astoreN (own_here A) C.1 rfl (hb C.2.1 hd) rfl hv hl) k
theorem own_iload (C : own_Cx Z a0 p l e R s m args below meth c own nm bytes mx ret) (A : own_At p l e R s m args below meth c T h n0 kc ks) {k : Nat} {v : Int32} (hd : decode bytes pc = .ok (.iload k, 2)) (hl : Ls[k]? = some (.val (.int v))) (hq : pc + 2 = q) (k : own_Go p.tables e below (T.setTop (mkF m q Ls (.int v :: st))) Q) :
    own_Go p.tables e below (T.setTop (mkF m pc Ls st)) Q := by
  subst hq
  exact own_go (fun t => XS.iload (own_here A) C.1 rfl (hb C.2.1 hd) hl) k
theorem own_lload (C : own_Cx Z a0 p l e R s m args below meth c own nm bytes mx ret) (A : own_At p l e R s m args below meth c T h n0 kc ks) {k : Nat} {v : Int64} (hd : decode bytes pc = .ok (.lload k, 2)) (hl : Ls[k]? = some (.val (.long v))) (hq : pc + 2 = q) (k : own_Go p.tables e below (T.setTop (mkF m q Ls (.long v :: st))) Q) :
    own_Go p.tables e below (T.setTop (mkF m pc Ls st)) Q := by
  subst hq
  exact own_go (fun t => XS.lload (own_here A) C.1 rfl (hb C.2.1 hd) hl) k
theorem own_aload (C : own_Cx Z a0 p l e R s m args below meth c own nm bytes mx ret) (A : own_At p l e R s m args below meth c T h n0 kc ks) {k : Nat} {v : Value} (hd : decode bytes pc = .ok (.aload k, 2)) (hl : Ls[k]? = some (.val v)) (hv : v.isRef = true) (hq : pc + 2 = q) (k : own_Go p.tables e below (T.setTop (mkF m q Ls (v :: st))) Q) :
    own_Go p.tables e below (T.setTop (mkF m pc Ls st)) Q := by
  subst hq
  exact own_go (fun t => XS.aload (own_here A) C.1 rfl (hb C.2.1 hd) hl hv) k
theorem own_istore (C : own_Cx Z a0 p l e R s m args below meth c own nm bytes mx ret) (A : own_At p l e R s m args below meth c T h n0 kc ks) {k : Nat} {x : Int32} {l' : Array Slot} (hd : decode bytes pc = .ok (.istore k, 2)) (hl : storeLocals Ls k (.int x) = some l') (hq : pc + 2 = q) (k : own_Go p.tables e below (T.setTop (mkF m q l' st)) Q) :
    own_Go p.tables e below (T.setTop (mkF m pc Ls (.int x :: st))) Q := by
  subst hq
  exact own_go (fun t => XS.istore (own_here A) C.1 rfl (hb C.2.1 hd) rfl hl) k
theorem own_lstore (C : own_Cx Z a0 p l e R s m args below meth c own nm bytes mx ret) (A : own_At p l e R s m args below meth c T h n0 kc ks) {k : Nat} {x : Int64} {l' : Array Slot} (hd : decode bytes pc = .ok (.lstore k, 2)) (hl : storeLocals Ls k (.long x) = some l') (hq : pc + 2 = q) (k : own_Go p.tables e below (T.setTop (mkF m q l' st)) Q) :
    own_Go p.tables e below (T.setTop (mkF m pc Ls (.long x :: st))) Q := by
  subst hq
  exact own_go (fun t => XS.lstore (own_here A) C.1 rfl (hb C.2.1 hd) rfl hl) k
theorem own_astore (C : own_Cx Z a0 p l e R s m args below meth c own nm bytes mx ret) (A : own_At p l e R s m args below meth c T h n0 kc ks) {k : Nat} {x : Value} {l' : Array Slot} (hd : decode bytes pc = .ok (.astore k, 2)) (hv : x.isRef = true) (hl : storeLocals Ls k x = some l') (hq : pc + 2 = q) (k : own_Go p.tables e below (T.setTop (mkF m q l' st)) Q) :
    own_Go p.tables e below (T.setTop (mkF m pc Ls (x :: st))) Q := by
  subst hq
  exact own_go (fun t => XS.astore (own_here A) C.1 rfl (hb C.2.1 hd) rfl hv hl) k
theorem own_iconst (C : own_Cx Z a0 p l e R s m args below meth c own nm bytes mx ret) (A : own_At p l e R s m args below meth c T h n0 kc ks) {i : Int} {v : Int32} (hd : decode bytes pc = .ok (.iconst i, 1)) (hv : Int32.ofInt i = v) (hq : pc + 1 = q) (k : own_Go p.tables e below (T.setTop (mkF m q Ls (.int v :: st))) Q) :
    own_Go p.tables e below (T.setTop (mkF m pc Ls st)) Q := by
  subst hq hv
  exact own_go (fun t => XS.iconst (own_here A) C.1 rfl (hb C.2.1 hd)) k
theorem own_bipush (C : own_Cx Z a0 p l e R s m args below meth c own nm bytes mx ret) (A : own_At p l e R s m args below meth c T h n0 kc ks) {i : Int} {v : Int32} (hd : decode bytes pc = .ok (.bipush i, 2)) (hv : (Int8.ofInt i).toInt32 = v) (hq : pc + 2 = q) (k : own_Go p.tables e below (T.setTop (mkF m q Ls (.int v :: st))) Q) :
    own_Go p.tables e below (T.setTop (mkF m pc Ls st)) Q := by
  subst hq hv
  exact own_go (fun t => XS.bipush (own_here A) C.1 rfl (hb C.2.1 hd)) k
theorem own_sipush (C : own_Cx Z a0 p l e R s m args below meth c own nm bytes mx ret) (A : own_At p l e R s m args below meth c T h n0 kc ks) {i : Int} {v : Int32} (hd : decode bytes pc = .ok (.sipush i, 3)) (hv : (Int16.ofInt i).toInt32 = v) (hq : pc + 3 = q) (k : own_Go p.tables e below (T.setTop (mkF m q Ls (.int v :: st))) Q) :
    own_Go p.tables e below (T.setTop (mkF m pc Ls st)) Q := by
  subst hq hv
  exact own_go (fun t => XS.sipush (own_here A) C.1 rfl (hb C.2.1 hd)) k
theorem own_lconst (C : own_Cx Z a0 p l e R s m args below meth c own nm bytes mx ret) (A : own_At p l e R s m args below meth c T h n0 kc ks) {k' : Fin 2} {v : Int64} (hd : decode bytes pc = .ok (.lconst k', 1)) (hv : Int64.ofNat k' = v) (hq : pc + 1 = q) (k : own_Go p.tables e below (T.setTop (mkF m q Ls (.long v :: st))) Q) :
    own_Go p.tables e below (T.setTop (mkF m pc Ls st)) Q := by
  subst hq hv
  exact own_go (fun t => XS.lconst (own_here A) C.1 rfl (hb C.2.1 hd)) k
theorem own_aconstNull (C : own_Cx Z a0 p l e R s m args below meth c own nm bytes mx ret) (A : own_At p l e R s m args below meth c T h n0 kc ks)  (hd : decode bytes pc = .ok (.aconst_null, 1))  (hq : pc + 1 = q) (k : own_Go p.tables e below (T.setTop (mkF m q Ls (.null :: st))) Q) :
    own_Go p.tables e below (T.setTop (mkF m pc Ls st)) Q := by
  subst hq
  exact own_go (fun t => XS.aconstNull (own_here A) C.1 rfl (hb C.2.1 hd) ) k
theorem own_iadd (C : own_Cx Z a0 p l e R s m args below meth c own nm bytes mx ret) (A : own_At p l e R s m args below meth c T h n0 kc ks) {x y : Int32} (hd : decode bytes pc = .ok (.iadd, 1))  (hq : pc + 1 = q) (k : own_Go p.tables e below (T.setTop (mkF m q Ls (.int (x + y) :: st))) Q) :
    own_Go p.tables e below (T.setTop (mkF m pc Ls (.int y :: .int x :: st))) Q := by
  subst hq
  exact own_go (fun t => XS.iadd (own_here A) C.1 rfl (hb C.2.1 hd) rfl) k
theorem own_isub (C : own_Cx Z a0 p l e R s m args below meth c own nm bytes mx ret) (A : own_At p l e R s m args below meth c T h n0 kc ks) {x y : Int32} (hd : decode bytes pc = .ok (.isub, 1))  (hq : pc + 1 = q) (k : own_Go p.tables e below (T.setTop (mkF m q Ls (.int (x - y) :: st))) Q) :
    own_Go p.tables e below (T.setTop (mkF m pc Ls (.int y :: .int x :: st))) Q := by
  subst hq
  exact own_go (fun t => XS.isub (own_here A) C.1 rfl (hb C.2.1 hd) rfl) k
theorem own_imul (C : own_Cx Z a0 p l e R s m args below meth c own nm bytes mx ret) (A : own_At p l e R s m args below meth c T h n0 kc ks) {x y : Int32} (hd : decode bytes pc = .ok (.imul, 1))  (hq : pc + 1 = q) (k : own_Go p.tables e below (T.setTop (mkF m q Ls (.int (x * y) :: st))) Q) :
    own_Go p.tables e below (T.setTop (mkF m pc Ls (.int y :: .int x :: st))) Q := by
  subst hq
  exact own_go (fun t => XS.imul (own_here A) C.1 rfl (hb C.2.1 hd) rfl) k
theorem own_iand (C : own_Cx Z a0 p l e R s m args below meth c own nm bytes mx ret) (A : own_At p l e R s m args below meth c T h n0 kc ks) {x y : Int32} (hd : decode bytes pc = .ok (.iand, 1))  (hq : pc + 1 = q) (k : own_Go p.tables e below (T.setTop (mkF m q Ls (.int (x &&& y) :: st))) Q) :
    own_Go p.tables e below (T.setTop (mkF m pc Ls (.int y :: .int x :: st))) Q := by
  subst hq
  exact own_go (fun t => XS.iand (own_here A) C.1 rfl (hb C.2.1 hd) rfl) k
theorem own_ior (C : own_Cx Z a0 p l e R s m args below meth c own nm bytes mx ret) (A : own_At p l e R s m args below meth c T h n0 kc ks) {x y : Int32} (hd : decode bytes pc = .ok (.ior, 1))  (hq : pc + 1 = q) (k : own_Go p.tables e below (T.setTop (mkF m q Ls (.int (x ||| y) :: st))) Q) :
    own_Go p.tables e below (T.setTop (mkF m pc Ls (.int y :: .int x :: st))) Q := by
  subst hq
  exact own_go (fun t => XS.ior (own_here A) C.1 rfl (hb C.2.1 hd) rfl) k
theorem own_ixor (C : own_Cx Z a0 p l e R s m args below meth c own nm bytes mx ret) (A : own_At p l e R s m args below meth c T h n0 kc ks) {x y : Int32} (hd : decode bytes pc = .ok (.ixor, 1))  (hq : pc + 1 = q) (k : own_Go p.tables e below (T.setTop (mkF m q Ls (.int (x ^^^ y) :: st))) Q) :
    own_Go p.tables e below (T.setTop (mkF m pc Ls (.int y :: .int x :: st))) Q := by
  subst hq
  exact own_go (fun t => XS.ixor (own_here A) C.1 rfl (hb C.2.1 hd) rfl) k
theorem own_ishl (C : own_Cx Z a0 p l e R s m args below meth c own nm bytes mx ret) (A : own_At p l e R s m args below meth c T h n0 kc ks) {x y : Int32} (hd : decode bytes pc = .ok (.ishl, 1))  (hq : pc + 1 = q) (k : own_Go p.tables e below (T.setTop (mkF m q Ls (.int (x <<< (y &&& 31)) :: st))) Q) :
    own_Go p.tables e below (T.setTop (mkF m pc Ls (.int y :: .int x :: st))) Q := by
  subst hq
  exact own_go (fun t => XS.ishl (own_here A) C.1 rfl (hb C.2.1 hd) rfl) k
theorem own_ishr (C : own_Cx Z a0 p l e R s m args below meth c own nm bytes mx ret) (A : own_At p l e R s m args below meth c T h n0 kc ks) {x y : Int32} (hd : decode bytes pc = .ok (.ishr, 1))  (hq : pc + 1 = q) (k : own_Go p.tables e below (T.setTop (mkF m q Ls (.int (x >>> (y &&& 31)) :: st))) Q) :
    own_Go p.tables e below (T.setTop (mkF m pc Ls (.int y :: .int x :: st))) Q := by
  subst hq
  exact own_go (fun t => XS.ishr (own_here A) C.1 rfl (hb C.2.1 hd) rfl) k
theorem own_iushr (C : own_Cx Z a0 p l e R s m args below meth c own nm bytes mx ret) (A : own_At p l e R s m args below meth c T h n0 kc ks) {x y : Int32} (hd : decode bytes pc = .ok (.iushr, 1))  (hq : pc + 1 = q) (k : own_Go p.tables e below (T.setTop (mkF m q Ls (.int ((x.toUInt32 >>> (y &&& 31).toUInt32).toInt32) :: st))) Q) :
    own_Go p.tables e below (T.setTop (mkF m pc Ls (.int y :: .int x :: st))) Q := by
  subst hq
  exact own_go (fun t => XS.iushr (own_here A) C.1 rfl (hb C.2.1 hd) rfl) k
theorem own_ladd (C : own_Cx Z a0 p l e R s m args below meth c own nm bytes mx ret) (A : own_At p l e R s m args below meth c T h n0 kc ks) {x y : Int64} (hd : decode bytes pc = .ok (.ladd, 1))  (hq : pc + 1 = q) (k : own_Go p.tables e below (T.setTop (mkF m q Ls (.long (x + y) :: st))) Q) :
    own_Go p.tables e below (T.setTop (mkF m pc Ls (.long y :: .long x :: st))) Q := by
  subst hq
  exact own_go (fun t => XS.ladd (own_here A) C.1 rfl (hb C.2.1 hd) rfl) k
theorem own_lsub (C : own_Cx Z a0 p l e R s m args below meth c own nm bytes mx ret) (A : own_At p l e R s m args below meth c T h n0 kc ks) {x y : Int64} (hd : decode bytes pc = .ok (.lsub, 1))  (hq : pc + 1 = q) (k : own_Go p.tables e below (T.setTop (mkF m q Ls (.long (x - y) :: st))) Q) :
    own_Go p.tables e below (T.setTop (mkF m pc Ls (.long y :: .long x :: st))) Q := by
  subst hq
  exact own_go (fun t => XS.lsub (own_here A) C.1 rfl (hb C.2.1 hd) rfl) k
theorem own_lmul (C : own_Cx Z a0 p l e R s m args below meth c own nm bytes mx ret) (A : own_At p l e R s m args below meth c T h n0 kc ks) {x y : Int64} (hd : decode bytes pc = .ok (.lmul, 1))  (hq : pc + 1 = q) (k : own_Go p.tables e below (T.setTop (mkF m q Ls (.long (x * y) :: st))) Q) :
    own_Go p.tables e below (T.setTop (mkF m pc Ls (.long y :: .long x :: st))) Q := by
  subst hq
  exact own_go (fun t => XS.lmul (own_here A) C.1 rfl (hb C.2.1 hd) rfl) k
theorem own_land (C : own_Cx Z a0 p l e R s m args below meth c own nm bytes mx ret) (A : own_At p l e R s m args below meth c T h n0 kc ks) {x y : Int64} (hd : decode bytes pc = .ok (.land, 1))  (hq : pc + 1 = q) (k : own_Go p.tables e below (T.setTop (mkF m q Ls (.long (x &&& y) :: st))) Q) :
    own_Go p.tables e below (T.setTop (mkF m pc Ls (.long y :: .long x :: st))) Q := by
  subst hq
  exact own_go (fun t => XS.land (own_here A) C.1 rfl (hb C.2.1 hd) rfl) k
theorem own_lor (C : own_Cx Z a0 p l e R s m args below meth c own nm bytes mx ret) (A : own_At p l e R s m args below meth c T h n0 kc ks) {x y : Int64} (hd : decode bytes pc = .ok (.lor, 1))  (hq : pc + 1 = q) (k : own_Go p.tables e below (T.setTop (mkF m q Ls (.long (x ||| y) :: st))) Q) :
    own_Go p.tables e below (T.setTop (mkF m pc Ls (.long y :: .long x :: st))) Q := by
  subst hq
  exact own_go (fun t => XS.lor (own_here A) C.1 rfl (hb C.2.1 hd) rfl) k
theorem own_lxor (C : own_Cx Z a0 p l e R s m args below meth c own nm bytes mx ret) (A : own_At p l e R s m args below meth c T h n0 kc ks) {x y : Int64} (hd : decode bytes pc = .ok (.lxor, 1))  (hq : pc + 1 = q) (k : own_Go p.tables e below (T.setTop (mkF m q Ls (.long (x ^^^ y) :: st))) Q) :
    own_Go p.tables e below (T.setTop (mkF m pc Ls (.long y :: .long x :: st))) Q := by
  subst hq
  exact own_go (fun t => XS.lxor (own_here A) C.1 rfl (hb C.2.1 hd) rfl) k
theorem own_lshl (C : own_Cx Z a0 p l e R s m args below meth c own nm bytes mx ret) (A : own_At p l e R s m args below meth c T h n0 kc ks) {x : Int64} {y : Int32} (hd : decode bytes pc = .ok (.lshl, 1))  (hq : pc + 1 = q) (k : own_Go p.tables e below (T.setTop (mkF m q Ls (.long (x <<< (y &&& 0x3f).toInt64) :: st))) Q) :
    own_Go p.tables e below (T.setTop (mkF m pc Ls (.int y :: .long x :: st))) Q := by
  subst hq
  exact own_go (fun t => XS.lshl (own_here A) C.1 rfl (hb C.2.1 hd) rfl) k
theorem own_lshr (C : own_Cx Z a0 p l e R s m args below meth c own nm bytes mx ret) (A : own_At p l e R s m args below meth c T h n0 kc ks) {x : Int64} {y : Int32} (hd : decode bytes pc = .ok (.lshr, 1))  (hq : pc + 1 = q) (k : own_Go p.tables e below (T.setTop (mkF m q Ls (.long (x >>> (y &&& 0x3f).toInt64) :: st))) Q) :
    own_Go p.tables e below (T.setTop (mkF m pc Ls (.int y :: .long x :: st))) Q := by
  subst hq
  exact own_go (fun t => XS.lshr (own_here A) C.1 rfl (hb C.2.1 hd) rfl) k
theorem own_lushr (C : own_Cx Z a0 p l e R s m args below meth c own nm bytes mx ret) (A : own_At p l e R s m args below meth c T h n0 kc ks) {x : Int64} {y : Int32} (hd : decode bytes pc = .ok (.lushr, 1))  (hq : pc + 1 = q) (k : own_Go p.tables e below (T.setTop (mkF m q Ls (.long ((x.toUInt64 >>> (y &&& 0x3f).toInt64.toUInt64).toInt64) :: st))) Q) :
    own_Go p.tables e below (T.setTop (mkF m pc Ls (.int y :: .long x :: st))) Q := by
  subst hq
  exact own_go (fun t => XS.lushr (own_here A) C.1 rfl (hb C.2.1 hd) rfl) k
theorem own_irem (C : own_Cx Z a0 p l e R s m args below meth c own nm bytes mx ret) (A : own_At p l e R s m args below meth c T h n0 kc ks) {x y : Int32} (hd : decode bytes pc = .ok (.irem, 1)) (hy : y ≠ 0) (hq : pc + 1 = q) (k : own_Go p.tables e below (T.setTop (mkF m q Ls (.int (x % y) :: st))) Q) :
    own_Go p.tables e below (T.setTop (mkF m pc Ls (.int y :: .int x :: st))) Q := by
  obtain ⟨_, _, _, X, _⟩ := A
  subst hq
  exact own_go (fun t => iremM (g := mkF m pc Ls (.int y :: .int x :: st)) X C.1 rfl (hb C.2.1 hd) rfl hy) k
theorem own_lrem (C : own_Cx Z a0 p l e R s m args below meth c own nm bytes mx ret) (A : own_At p l e R s m args below meth c T h n0 kc ks) {x y : Int64} (hd : decode bytes pc = .ok (.lrem, 1)) (hy : y ≠ 0) (hq : pc + 1 = q) (k : own_Go p.tables e below (T.setTop (mkF m q Ls (.long (x % y) :: st))) Q) :
    own_Go p.tables e below (T.setTop (mkF m pc Ls (.long y :: .long x :: st))) Q := by
  subst hq
  rw [← lrem_mod x y] at k
  exact own_go (fun t => XS.lrem (own_here A) C.1 rfl (hb C.2.1 hd) rfl hy) k
theorem own_idiv (C : own_Cx Z a0 p l e R s m args below meth c own nm bytes mx ret) (A : own_At p l e R s m args below meth c T h n0 kc ks) {x y : Int32} (hd : decode bytes pc = .ok (.idiv, 1)) (hy : y ≠ 0) (hq : pc + 1 = q) (k : own_Go p.tables e below (T.setTop (mkF m q Ls (.int (x / y) :: st))) Q) :
    own_Go p.tables e below (T.setTop (mkF m pc Ls (.int y :: .int x :: st))) Q := by
  subst hq
  exact own_go (fun t => XS.idiv (own_here A) C.1 rfl (hb C.2.1 hd) rfl hy) k
theorem own_ldiv (C : own_Cx Z a0 p l e R s m args below meth c own nm bytes mx ret) (A : own_At p l e R s m args below meth c T h n0 kc ks) {x y : Int64} (hd : decode bytes pc = .ok (.ldiv, 1)) (hy : y ≠ 0) (hq : pc + 1 = q) (k : own_Go p.tables e below (T.setTop (mkF m q Ls (.long (x / y) :: st))) Q) :
    own_Go p.tables e below (T.setTop (mkF m pc Ls (.long y :: .long x :: st))) Q := by
  subst hq
  exact own_go (fun t => XS.ldiv (own_here A) C.1 rfl (hb C.2.1 hd) rfl hy) k
theorem own_ineg (C : own_Cx Z a0 p l e R s m args below meth c own nm bytes mx ret) (A : own_At p l e R s m args below meth c T h n0 kc ks) {x : Int32} (hd : decode bytes pc = .ok (.ineg, 1))  (hq : pc + 1 = q) (k : own_Go p.tables e below (T.setTop (mkF m q Ls (.int (-x) :: st))) Q) :
    own_Go p.tables e below (T.setTop (mkF m pc Ls (.int x :: st))) Q := by
  subst hq
  exact own_go (fun t => XS.ineg (own_here A) C.1 rfl (hb C.2.1 hd) rfl) k
theorem own_lneg (C : own_Cx Z a0 p l e R s m args below meth c own nm bytes mx ret) (A : own_At p l e R s m args below meth c T h n0 kc ks) {x : Int64} (hd : decode bytes pc = .ok (.lneg, 1))  (hq : pc + 1 = q) (k : own_Go p.tables e below (T.setTop (mkF m q Ls (.long (-x) :: st))) Q) :
    own_Go p.tables e below (T.setTop (mkF m pc Ls (.long x :: st))) Q := by
  subst hq
  exact own_go (fun t => XS.lneg (own_here A) C.1 rfl (hb C.2.1 hd) rfl) k
theorem own_i2b (C : own_Cx Z a0 p l e R s m args below meth c own nm bytes mx ret) (A : own_At p l e R s m args below meth c T h n0 kc ks) {x : Int32} (hd : decode bytes pc = .ok (.i2b, 1))  (hq : pc + 1 = q) (k : own_Go p.tables e below (T.setTop (mkF m q Ls (.int (x.toInt8.toInt32) :: st))) Q) :
    own_Go p.tables e below (T.setTop (mkF m pc Ls (.int x :: st))) Q := by
  subst hq
  exact own_go (fun t => XS.i2b (own_here A) C.1 rfl (hb C.2.1 hd) rfl) k
theorem own_i2c (C : own_Cx Z a0 p l e R s m args below meth c own nm bytes mx ret) (A : own_At p l e R s m args below meth c T h n0 kc ks) {x : Int32} (hd : decode bytes pc = .ok (.i2c, 1))  (hq : pc + 1 = q) (k : own_Go p.tables e below (T.setTop (mkF m q Ls (.int (x.toUInt32.toUInt16.toUInt32.toInt32) :: st))) Q) :
    own_Go p.tables e below (T.setTop (mkF m pc Ls (.int x :: st))) Q := by
  subst hq
  exact own_go (fun t => XS.i2c (own_here A) C.1 rfl (hb C.2.1 hd) rfl) k
theorem own_i2s (C : own_Cx Z a0 p l e R s m args below meth c own nm bytes mx ret) (A : own_At p l e R s m args below meth c T h n0 kc ks) {x : Int32} (hd : decode bytes pc = .ok (.i2s, 1))  (hq : pc + 1 = q) (k : own_Go p.tables e below (T.setTop (mkF m q Ls (.int (x.toInt16.toInt32) :: st))) Q) :
    own_Go p.tables e below (T.setTop (mkF m pc Ls (.int x :: st))) Q := by
  subst hq
  exact own_go (fun t => XS.i2s (own_here A) C.1 rfl (hb C.2.1 hd) rfl) k
theorem own_i2l (C : own_Cx Z a0 p l e R s m args below meth c own nm bytes mx ret) (A : own_At p l e R s m args below meth c T h n0 kc ks) {x : Int32} (hd : decode bytes pc = .ok (.i2l, 1))  (hq : pc + 1 = q) (k : own_Go p.tables e below (T.setTop (mkF m q Ls (.long x.toInt64 :: st))) Q) :
    own_Go p.tables e below (T.setTop (mkF m pc Ls (.int x :: st))) Q := by
  subst hq
  exact own_go (fun t => XS.i2l (own_here A) C.1 rfl (hb C.2.1 hd) rfl) k
theorem own_l2i (C : own_Cx Z a0 p l e R s m args below meth c own nm bytes mx ret) (A : own_At p l e R s m args below meth c T h n0 kc ks) {x : Int64} (hd : decode bytes pc = .ok (.l2i, 1))  (hq : pc + 1 = q) (k : own_Go p.tables e below (T.setTop (mkF m q Ls (.int x.toInt32 :: st))) Q) :
    own_Go p.tables e below (T.setTop (mkF m pc Ls (.long x :: st))) Q := by
  subst hq
  exact own_go (fun t => XS.l2i (own_here A) C.1 rfl (hb C.2.1 hd) rfl) k
theorem own_lcmp (C : own_Cx Z a0 p l e R s m args below meth c own nm bytes mx ret) (A : own_At p l e R s m args below meth c T h n0 kc ks) {x y : Int64} (hd : decode bytes pc = .ok (.lcmp, 1))  (hq : pc + 1 = q) (k : own_Go p.tables e below (T.setTop (mkF m q Ls (.int (Jvm.Free.XT.cmpL x y) :: st))) Q) :
    own_Go p.tables e below (T.setTop (mkF m pc Ls (.long y :: .long x :: st))) Q := by
  subst hq
  exact own_go (fun t => Jvm.Free.XT.lcmp (own_here A) C.1 rfl (hb C.2.1 hd) rfl) k
theorem own_iinc (C : own_Cx Z a0 p l e R s m args below meth c own nm bytes mx ret) (A : own_At p l e R s m args below meth c T h n0 kc ks) {k' : Nat} {i : Int} {x : Int32} {l' : Array Slot} (hd : decode bytes pc = .ok (.iinc k' i, 3)) (hl : Ls[k']? = some (.val (.int x))) (hl' : storeLocals Ls k' (.int (x + Int32.ofInt i)) = some l') (hq : pc + 3 = q) (k : own_Go p.tables e below (T.setTop (mkF m q l' st)) Q) :
    own_Go p.tables e below (T.setTop (mkF m pc Ls st)) Q := by
  subst hq
  exact own_go (fun t => XS.iinc (own_here A) C.1 rfl (hb C.2.1 hd) hl hl') k
theorem own_istoreX (C : own_Cx Z a0 p l e R s m args below meth c own nm bytes mx ret) (A : own_At p l e R s m args below meth c T h n0 kc ks) {k' : Nat} {x : Int32} {o : Slot} {l' : Array Slot} (hd : decode bytes pc = .ok (.istore k', 2)) (hold : Ls[k']? = some o) (ho : One o) (hl : Ls.setIfInBounds k' (.val (.int x)) = l') (hq : pc + 2 = q) (k : own_Go p.tables e below (T.setTop (mkF m q l' st)) Q) :
    own_Go p.tables e below (T.setTop (mkF m pc Ls (.int x :: st))) Q := by
  subst hq hl
  exact own_go (fun t => XS.istoreS (own_here A) C.1 rfl (hb C.2.1 hd) rfl hold ho) k
theorem own_pop (C : own_Cx Z a0 p l e R s m args below meth c own nm bytes mx ret) (A : own_At p l e R s m args below meth c T h n0 kc ks) {x : Value} (hd : decode bytes pc = .ok (.pop, 1)) (hc : x.category = 1) (hq : pc + 1 = q) (k : own_Go p.tables e below (T.setTop (mkF m q Ls st)) Q) :
    own_Go p.tables e below (T.setTop (mkF m pc Ls (x :: st))) Q := by
  subst hq
  exact own_go (fun t => XS.pop (own_here A) C.1 rfl (hb C.2.1 hd) rfl hc) k
theorem own_dup (C : own_Cx Z a0 p l e R s m args below meth c own nm bytes mx ret) (A : own_At p l e R s m args below meth c T h n0 kc ks) {x : Value} (hd : decode bytes pc = .ok (.dup, 1)) (hc : x.category = 1) (hq : pc + 1 = q) (k : own_Go p.tables e below (T.setTop (mkF m q Ls (x :: x :: st))) Q) :
    own_Go p.tables e below (T.setTop (mkF m pc Ls (x :: st))) Q := by
  subst hq
  exact own_go (fun t => XS.dup (own_here A) C.1 rfl (hb C.2.1 hd) rfl hc) k
theorem own_dupX1 (C : own_Cx Z a0 p l e R s m args below meth c own nm bytes mx ret) (A : own_At p l e R s m args below meth c T h n0 kc ks) {x y : Value} (hd : decode bytes pc = .ok (.dup_x1, 1)) (hc : x.category = 1) (hc' : y.category = 1) (hq : pc + 1 = q) (k : own_Go p.tables e below (T.setTop (mkF m q Ls (x :: y :: x :: st))) Q) :
    own_Go p.tables e below (T.setTop (mkF m pc Ls (x :: y :: st))) Q := by
  subst hq
  exact own_go (fun t => XS.dupX1 (own_here A) C.1 rfl (hb C.2.1 hd) rfl hc hc') k
theorem own_dup2L (C : own_Cx Z a0 p l e R s m args below meth c own nm bytes mx ret) (A : own_At p l e R s m args below meth c T h n0 kc ks) {x : Int64} (hd : decode bytes pc = .ok (.dup2, 1))  (hq : pc + 1 = q) (k : own_Go p.tables e below (T.setTop (mkF m q Ls (.long x :: .long x :: st))) Q) :
    own_Go p.tables e below (T.setTop (mkF m pc Ls (.long x :: st))) Q := by
  subst hq
  exact own_go (fun t => Jvm.Free.XT.dup2L (own_here A) C.1 rfl (hb C.2.1 hd) rfl) k
theorem own_dup2 (C : own_Cx Z a0 p l e R s m args below meth c own nm bytes mx ret) (A : own_At p l e R s m args below meth c T h n0 kc ks) {x y : Value} (hd : decode bytes pc = .ok (.dup2, 1)) (hc : x.category = 1) (hc' : y.category = 1) (hq : pc + 1 = q) (k : own_Go p.tables e below (T.setTop (mkF m q Ls (x :: y :: x :: y :: st))) Q) :
    own_Go p.tables e below (T.setTop (mkF m pc Ls (x :: y :: st))) Q := by
  subst hq
  exact own_go (fun t => Jvm.Free.XT.dup2 (own_here A) C.1 rfl (hb C.2.1 hd) rfl hc hc') k
theorem own_goto (C : own_Cx Z a0 p l e R s m args below meth c own nm bytes mx ret) (A : own_At p l e R s m args below meth c T h n0 kc ks) {i : Int} (hd : decode bytes pc = .ok (.goto i, 3)) (ho : 0 ≤ (pc : Int) + i) (hq : ((pc : Int) + i).toNat = q) (k : own_Go p.tables e below (T.setTop (mkF m q Ls st)) Q) :
    own_Go p.tables e below (T.setTop (mkF m pc Ls st)) Q := own_go (fun t => XS.goto (own_here A) C.1 rfl rfl (hb C.2.1 hd) ho hq) k
theorem own_icmpY (C : own_Cx Z a0 p l e R s m args below meth c own nm bytes mx ret) (A : own_At p l e R s m args below meth c T h n0 kc ks) {cd : ClassFile.Cond} {i : Int} {x y : Int32} (hd : decode bytes pc = .ok (.if_icmp cd i, 3)) (hc : if_icmp.holds cd x y = true) (ho : 0 ≤ (pc : Int) + i) (hq : ((pc : Int) + i).toNat = q) (k : own_Go p.tables e below (T.setTop (mkF m q Ls st)) Q) :
    own_Go p.tables e below (T.setTop (mkF m pc Ls (.int y :: .int x :: st))) Q := own_go (fun t => XS.icmpYes (own_here A) C.1 rfl rfl (hb C.2.1 hd) rfl hc ho hq) k
theorem own_icmpN (C : own_Cx Z a0 p l e R s m args below meth c own nm bytes mx ret) (A : own_At p l e R s m args below meth c T h n0 kc ks) {cd : ClassFile.Cond} {i : Int} {x y : Int32} (hd : decode bytes pc = .ok (.if_icmp cd i, 3)) (hc : if_icmp.holds cd x y = false) (hq : pc + 3 = q) (k : own_Go p.tables e below (T.setTop (mkF m q Ls st)) Q) :
    own_Go p.tables e below (T.setTop (mkF m pc Ls (.int y :: .int x :: st))) Q := by
  subst hq
  exact own_go (fun t => XS.icmpNo (own_here A) C.1 rfl (hb C.2.1 hd) rfl hc) k
theorem own_ifY (C : own_Cx Z a0 p l e R s m args below meth c own nm bytes mx ret) (A : own_At p l e R s m args below meth c T h n0 kc ks) {cd : ClassFile.Cond} {i : Int} {x : Int32} (hd : decode bytes pc = .ok (.ifCond cd i, 3)) (hc : ifCond.holds cd x = true) (ho : 0 ≤ (pc : Int) + i) (hq : ((pc : Int) + i).toNat = q) (k : own_Go p.tables e below (T.setTop (mkF m q Ls st)) Q) :
    own_Go p.tables e below (T.setTop (mkF m pc Ls (.int x :: st))) Q := own_go (fun t => XS.ifYes (own_here A) C.1 rfl rfl (hb C.2.1 hd) rfl hc ho hq) k
theorem own_ifN (C : own_Cx Z a0 p l e R s m args below meth c own nm bytes mx ret) (A : own_At p l e R s m args below meth c T h n0 kc ks) {cd : ClassFile.Cond} {i : Int} {x : Int32} (hd : decode bytes pc = .ok (.ifCond cd i, 3)) (hc : ifCond.holds cd x = false) (hq : pc + 3 = q) (k : own_Go p.tables e below (T.setTop (mkF m q Ls st)) Q) :
    own_Go p.tables e below (T.setTop (mkF m pc Ls (.int x :: st))) Q := by
  subst hq
  exact own_go (fun t => XS.ifNo (own_here A) C.1 rfl (hb C.2.1 hd) rfl hc) k
theorem own_ldcI (C : own_Cx Z a0 p l e R s m args below meth c own nm bytes mx ret) (A : own_At p l e R s m args below meth c T h n0 kc ks) {i : Nat} {v : Int32} (w : (Jvm.Cond.constant own i v).before a0 Z = true) (hd : decode bytes pc = .ok (.ldc i, 2)) (hq : pc + 2 = q) (k : own_Go p.tables e below (T.setTop (mkF m q Ls (.int v :: st))) Q) :
    own_Go p.tables e below (T.setTop (mkF m pc Ls st)) Q := by
  obtain ⟨_, _, _, X, _⟩ := A
  subst hq
  exact own_go (X.ldcInt C.1 C.2.2.2.1 (mvT C.2.2.2.2.1 w) (g := mkF m pc Ls st) rfl (hb C.2.1 hd)) k
theorem own_ldcJ (C : own_Cx Z a0 p l e R s m args below meth c own nm bytes mx ret) (A : own_At p l e R s m args below meth c T h n0 kc ks) {i : Nat} {v : Int64} (w : (Jvm.Cond.constantLong own i v).before a0 Z = true) (hd : decode bytes pc = .ok (.ldc2_w i, 3)) (hq : pc + 3 = q) (k : own_Go p.tables e below (T.setTop (mkF m q Ls (.long v :: st))) Q) :
    own_Go p.tables e below (T.setTop (mkF m pc Ls st)) Q := by
  obtain ⟨_, _, _, X, _⟩ := A
  subst hq
  exact own_go (X.ldc2Long C.1 C.2.2.2.1 (mvT C.2.2.2.2.1 w) (g := mkF m pc Ls st) rfl (hb C.2.1 hd)) k
theorem own_retI {z : Int32} (C : own_Cx Z a0 p l e R s m args below meth c own nm bytes mx (some .int)) (A : own_At p l e R s m args below meth c T h n0 kc ks) {P : Option Value → Heap → Prop}  (hd : decode bytes pc = .ok (.ireturn, 1)) (hP : P (some (.int z)) h) :
    own_Go p.tables e below (T.setTop (mkF m pc Ls [.int z])) (own_QR s n0 kc ks P) := by
  obtain ⟨locs, cells, slots, X, eT, N, hc, hs, hn⟩ := A
  have hr' := C.2.2.2.2.2.2.1
  obtain ⟨fs, hr, hrun, hended, hW, hsame⟩ := X.leave (v := (some (.int z))) (fun hh => by first | rfl | (rw [hr'] at hh; cases hh)) C.2.2.2.2.2.2.2.1
  have eF : (T.setFrames fs).heap = h := eT
  exact ⟨_, _, X.ireturnOut C.1 hr' rfl (Or.inl rfl) (hb C.2.1 hd) hr, hrun, hended, _, locs, rfl, ⟨by rw [eF]; exact hP, N⟩, ⟨_, rfl⟩, hW, hsame.mono hc hs⟩
theorem own_retJ {z : Int64} (C : own_Cx Z a0 p l e R s m args below meth c own nm bytes mx (some .long)) (A : own_At p l e R s m args below meth c T h n0 kc ks) {P : Option Value → Heap → Prop}  (hd : decode bytes pc = .ok (.lreturn, 1)) (hP : P (some (.long z)) h) :
    own_Go p.tables e below (T.setTop (mkF m pc Ls [.long z])) (own_QR s n0 kc ks P) := by
  obtain ⟨locs, cells, slots, X, eT, N, hc, hs, hn⟩ := A
  have hr' := C.2.2.2.2.2.2.1
  obtain ⟨fs, hr, hrun, hended, hW, hsame⟩ := X.leave (v := (some (.long z))) (fun hh => by first | rfl | (rw [hr'] at hh; cases hh)) C.2.2.2.2.2.2.2.1
  have eF : (T.setFrames fs).heap = h := eT
  exact ⟨_, _, X.lreturnOut C.1 hr' (hb C.2.1 hd) hr, hrun, hended, _, locs, rfl, ⟨by rw [eF]; exact hP, N⟩, ⟨_, rfl⟩, hW, hsame.mono hc hs⟩
theorem own_retA {a : Addr} {t : FieldType} (C : own_Cx Z a0 p l e R s m args below meth c own nm bytes mx (some t)) (A : own_At p l e R s m args below meth c T h n0 kc ks) {P : Option Value → Heap → Prop} (hta : t.isReference = true) (hna : narrow t (.ref a) = .ref a) (hd : decode bytes pc = .ok (.areturn, 1)) (hP : P (some (.ref a)) h) :
    own_Go p.tables e below (T.setTop (mkF m pc Ls (.ref a :: st))) (own_QR s n0 kc ks P) := by
  obtain ⟨locs, cells, slots, X, eT, N, hc, hs, hn⟩ := A
  have hr' := C.2.2.2.2.2.2.1
  obtain ⟨fs, hr, hrun, hended, hW, hsame⟩ := X.leave (v := (some (.ref a))) (fun hh => by first | rfl | (rw [hr'] at hh; cases hh)) C.2.2.2.2.2.2.2.1
  have eF : (T.setFrames fs).heap = h := eT
  exact ⟨_, _, retOut X C.1 hr' hna (Or.inr (Or.inr (Or.inr (Or.inr ⟨rfl, hta, rfl⟩)))) (hb C.2.1 hd) hr, hrun, hended, _, locs, rfl, ⟨by rw [eF]; exact hP, N⟩, ⟨_, rfl⟩, hW, hsame.mono hc hs⟩
theorem own_ret0  (C : own_Cx Z a0 p l e R s m args below meth c own nm bytes mx none) (A : own_At p l e R s m args below meth c T h n0 kc ks) {P : Option Value → Heap → Prop}  (hd : decode bytes pc = .ok (.return_, 1)) (hP : P none h) :
    own_Go p.tables e below (T.setTop (mkF m pc Ls [])) (own_QR s n0 kc ks P) := by
  obtain ⟨locs, cells, slots, X, eT, N, hc, hs, hn⟩ := A
  have hr' := C.2.2.2.2.2.2.1
  obtain ⟨fs, hr, hrun, hended, hW, hsame⟩ := X.leave (v := none) (fun hh => by first | rfl | (rw [hr'] at hh; cases hh)) C.2.2.2.2.2.2.2.1
  have eF : (T.setFrames fs).heap = h := eT
  exact ⟨_, _, X.returnOut C.1 hr' (hb C.2.1 hd) hr, hrun, hended, _, locs, rfl, ⟨by rw [eF]; exact hP, N⟩, ⟨_, rfl⟩, hW, hsame.mono hc hs⟩
theorem own_retN {z : Int32} {t : FieldType} (C : own_Cx Z a0 p l e R s m args below meth c own nm bytes mx (some t)) (A : own_At p l e R s m args below meth c T h n0 kc ks) {P : Option Value → Heap → Prop} (ht : t = .boolean ∨ t = .byte ∨ t = .char ∨ t = .short) (hd : decode bytes pc = .ok (.ireturn, 1)) (hP : P (some (.int (nar t z))) h) :
    own_Go p.tables e below (T.setTop (mkF m pc Ls (.int z :: st))) (own_QR s n0 kc ks P) := by
  obtain ⟨locs, cells, slots, X, eT, N, hc, hs, hn⟩ := A
  have hr' := C.2.2.2.2.2.2.1
  obtain ⟨fs, hr, hrun, hended, hW, hsame⟩ := X.leave (v := (some (.int (nar t z)))) (fun hh => by first | rfl | (rw [hr'] at hh; cases hh)) C.2.2.2.2.2.2.2.1
  have eF : (T.setFrames fs).heap = h := eT
  exact ⟨_, _, retN X C.1 hr' ht (hb C.2.1 hd) hr, hrun, hended, _, locs, rfl, ⟨by rw [eF]; exact hP, N⟩, ⟨_, rfl⟩, hW, hsame.mono hc hs⟩
theorem own_met {y : MethodName} {ws : List Jvm.Cond} {as' : Array Value} {P : Option Value → Heap → Prop} (hpl : plainFor y = true) (hw : ∀ d ∈ tables_1, d.before a0 Z = true) (hn : n0 ≤ h.size) (hef : ∀ m, entryFrame m as' mx = mkF m 0 Ls [])
    (body : ∀ p e s m below meth c T, own_Cx Z a0 p l e R s m as' below meth c y.cls y.name bytes mx ret → own_At p l e R s m as' below meth c T h n0 0 0 → own_Go p.tables e below (T.setTop (mkF m 0 Ls [])) (own_QR s n0 kc ks P)) :
    MetFree l y (head1 (Jvm.Cond.code y bytes mx ret :: ws) R) (fun a U => a = as' ∧ Z.Warmed39 U.vm ∧ U.heap = h) (fun _ _ _ _ _ => True) (fun _ U o U' => own_QR U n0 kc ks P o U') := by
  refine MetFree.of_bodySF hpl hisR ?_
  intro p e s m args below meth c s₁ Bd hml0 hP hK
  obtain ⟨rfl, hZ, hh⟩ := hP
  have C : own_Cx Z a0 p l e R s m args below meth c y.cls y.name bytes mx ret := ⟨Bd.exec, Bd.bytes, hml0, findClass_of_methodNamed Bd.named, hZ, (name_of_methodNamed Bd.named Bd.method).1, Bd.returns, Bd.notSynchronized, hw⟩
  have A : own_At p l e R s m args below meth c s₁ h n0 0 0 := ⟨[], 0, 0, Stand.of_body Bd, by rw [← hh, Bd.state]; rfl, Fr.nil n0, Nat.le_refl _, Nat.le_refl _, hn⟩
  have k := body p e s m below meth c s₁ C A
  rw [← hef m] at k
  exact k
theorem own_backQ {y : MethodName} {by' : ByteArray} {mx' : Nat} {rt : Option FieldType} {rm : Room} {as' : Array Value} {P : Option Value → Heap → Prop} (hM : MetFree l y (head1 [Jvm.Cond.code y by' mx' rt] rm) (fun a U => a = as' ∧ Z.Warmed39 U.vm ∧ U.heap = h) (fun _ _ _ _ _ => True) (fun _ U o U' => own_QR U n0 rm.cells rm.slots P o U')) :
    MetFree l y (head1 [Jvm.Cond.code y by' mx' rt] rm) (fun a U => a = as' ∧ Z.Warmed39 U.vm ∧ U.heap = h) (fun _ _ _ _ _ => True) (fun _ U o U' => ∃ v L, o = .returned v ∧ (P v U'.heap ∧ Fr n0 L ∧ h.size ≤ U'.heap.size) ∧ FrameEnd U o U' L rm.cells rm.slots) := by
  intro p e ha hc hk s m args below hf happ hP hK
  obtain ⟨n, o, h1, h2, h3, v, L, e1, ⟨hp, hl⟩, hF⟩ := hM p e ha hc hk s m args below hf happ hP hK
  refine ⟨n, o, h1, h2, h3, v, L, e1, ⟨hp, hl, ?_⟩, hF⟩
  have := hF.2.2.2.1
  rw [← hP.2.2]
  exact this
theorem own_callS (C : own_Cx Z a0 p l e R s m args below meth c own nm bytes mx ret) (A : own_At p l e R s m args below meth c T h n0 kc ks) {i : Nat} {y : MethodName} {by' : ByteArray} {mx' : Nat} {rt : Option FieldType} {rm : Room} (W : Nat) {as' : Array Value} (argsL rest : List Value) {P : Option Value → Heap → Prop} (w1 : (Jvm.Cond.methodLink own i y).before a0 Z = true) (w2 : (Jvm.Cond.static y).before a0 Z = true) (w3 : (Jvm.Cond.initialized y.cls).before a0 Z = true) (w4 : (Jvm.Cond.code y by' mx' rt).before a0 Z = true) (hy : y.cls ≠ "java/lang/invoke/MethodHandle" ∧ y.cls ≠ "java/lang/invoke/VarHandle")
    (hM : MetFree l y (head1 [Jvm.Cond.code y by' mx' rt] rm) (fun a U => a = as' ∧ Z.Warmed39 U.vm ∧ U.heap = h) (fun _ _ _ _ _ => True) (fun _ U o U' => own_QR U n0 rm.cells rm.slots P o U'))
    (hf : rm.frames + 1 ≤ R.frames) (hl : W + (mx' + 11) + rm.locals ≤ R.locals) (hc : kc + rm.cells ≤ R.cells) (hs : ks + rm.slots ≤ R.slots) {ps : List FieldType} (hpd : parseMethodDescriptor y.desc = some ⟨ps, rt⟩) (hlen : argsL.length = ps.length) (has : argsL.toArray = as') (hst : st = argsL.reverse ++ rest) (hW : (rest.map fun v => v.category).sum ≤ W) (hsz : Ls.size = mx) (hd : decode bytes pc = .ok (.invokestatic i, 3)) (hq : pc + 3 = q)
    (k : ∀ v T' h', P v h' → own_At p l e R s m args below meth c T' h' n0 (kc + rm.cells) (ks + rm.slots) → own_Go p.tables e below (T'.setTop (mkF m q Ls (v.toList ++ rest))) Q) :
    own_Go p.tables e below (T.setTop (mkF m pc Ls st)) Q := by
  obtain ⟨locs, cells, slots, X, eT, N, hc', hs', hn⟩ := A
  obtain ⟨v, _, ⟨T', L', k', n'⟩, -, X', ⟨Lc, hQ, hB1, hB2, hB3⟩, st'⟩ := Jvm.LawKit.callS X C.1 (y := y) C.2.2.2.1 (mvT C.2.2.2.2.1 w1) (mvT C.2.2.2.2.1 w2) (mvT C.2.2.2.2.1 w3) (mvT C.2.2.2.2.1 w4) hy (backOf (W := W) (Q := fun v h' L => P v h' ∧ Fr n0 L ∧ h.size ≤ h'.size) (own_backQ hM) C.2.2.2.2.1 w4 w3 hf hl) (g := mkF m pc Ls st) rfl (by rw [C.2.2.1]; exact hsz) (argsL := argsL) (rest := rest) (lenOf hpd hlen) hst (by show 2 * 0 + _ ≤ _; omega) (hb C.2.1 hd) (fun _ _ => ⟨has, eT, Nat.le_trans (Nat.add_le_add_right hc' _) hc, Nat.le_trans (Nat.add_le_add_right hs' _) hs⟩)
  dsimp only [Pt.U, Pt.locs, Pt.cells, Pt.slots] at X' hB1 hB2 hB3 st' hQ
  subst hq hB1 hB2 hB3
  exact own_go st' (k v T' T'.heap hQ.1 ⟨_, _, _, X', rfl, N.app hQ.2.1, by omega, by omega, Nat.le_trans hn hQ.2.2⟩)
theorem own_callC (C : own_Cx Z a0 p l e R s m args below meth c own nm bytes mx ret) (A : own_At p l e R s m args below meth c T h n0 kc ks) {i : Nat} {y : MethodName} {by' : ByteArray} {mx' : Nat} {rm : Room} (W : Nat) {as' : Array Value} (argsL rest : List Value) {P : Option Value → Heap → Prop} {a : Addr} (hy1 : y.name = "<init>") (w1 : (Jvm.Cond.methodLink own i y).before a0 Z = true) (w2 : (Jvm.Cond.instanceMethod y).before a0 Z = true) (w3 : (Jvm.Cond.initialized y.cls).before a0 Z = true) (w4 : (Jvm.Cond.code y by' mx' none).before a0 Z = true) (hy : y.cls ≠ "java/lang/invoke/MethodHandle" ∧ y.cls ≠ "java/lang/invoke/VarHandle")
    (hM : MetFree l y (head1 [Jvm.Cond.code y by' mx' none] rm) (fun a U => a = as' ∧ Z.Warmed39 U.vm ∧ U.heap = h) (fun _ _ _ _ _ => True) (fun _ U o U' => own_QR U n0 rm.cells rm.slots P o U'))
    (hf : rm.frames + 1 ≤ R.frames) (hl : W + (mx' + 11) + rm.locals ≤ R.locals) (hc : kc + rm.cells ≤ R.cells) (hs : ks + rm.slots ≤ R.slots) {ps : List FieldType} (hpd : parseMethodDescriptor y.desc = some ⟨ps, none⟩) (hlen : argsL.length = ps.length) (has : (Value.ref a :: argsL).toArray = as') (hst : st = argsL.reverse ++ .ref a :: rest) (hW : (rest.map fun v => v.category).sum ≤ W) (hsz : Ls.size = mx) (hd : decode bytes pc = .ok (.invokespecial i, 3)) (hq : pc + 3 = q)
    (k : ∀ v T' h', P v h' → own_At p l e R s m args below meth c T' h' n0 (kc + rm.cells) (ks + rm.slots) → own_Go p.tables e below (T'.setTop (mkF m q Ls (v.toList ++ rest))) Q) :
    own_Go p.tables e below (T.setTop (mkF m pc Ls st)) Q := by
  obtain ⟨locs, cells, slots, X, eT, N, hc', hs', hn⟩ := A
  obtain ⟨v, _, ⟨T', L', k', n'⟩, -, X', ⟨Lc, hQ, hB1, hB2, hB3⟩, st'⟩ := X.specialBack C.1 (y := y) hy1 C.2.2.2.1 (mvT C.2.2.2.2.1 w1) (mvT C.2.2.2.2.1 w2) (mvT C.2.2.2.2.1 w4) hy (backOf (W := W) (Q := fun v h' L => P v h' ∧ Fr n0 L ∧ h.size ≤ h'.size) (own_backQ hM) C.2.2.2.2.1 w4 w3 hf hl) (g := mkF m pc Ls st) rfl (by rw [C.2.2.1]; exact hsz) (Steps.refl _) (a := a) (argsL := argsL) (rest := rest) (lenOf hpd hlen) hst (by show 2 * 0 + _ ≤ _; omega) (hb C.2.1 hd) (fun _ _ => ⟨has, eT, Nat.le_trans (Nat.add_le_add_right hc' _) hc, Nat.le_trans (Nat.add_le_add_right hs' _) hs⟩)
  dsimp only [Pt.U, Pt.locs, Pt.cells, Pt.slots] at X' hB1 hB2 hB3 st' hQ
  subst hq hB1 hB2 hB3
  exact own_go (fun t ht => st'.trans ht) (k v T' T'.heap hQ.1 ⟨_, _, _, X', rfl, N.app hQ.2.1, by omega, by omega, Nat.le_trans hn hQ.2.2⟩)
theorem own_callV (C : own_Cx Z a0 p l e R s m args below meth c own nm bytes mx ret) (A : own_At p l e R s m args below meth c T h n0 kc ks) {i : Nat} {y : MethodName} {by' : ByteArray} {mx' : Nat} {rt : Option FieldType} {rm : Room} (W : Nat) {as' : Array Value} (argsL rest : List Value) {P : Option Value → Heap → Prop} {a : Addr} {B : String} (w1 : (Jvm.Cond.methodLink own i y).before a0 Z = true) (w2 : (Jvm.Cond.declares y).before a0 Z = true) (w5 : (Jvm.Cond.selects B y y).before a0 Z = true) (w6 : (Jvm.Cond.instanceMethod y).before a0 Z = true) (w3 : (Jvm.Cond.initialized y.cls).before a0 Z = true) (w4 : (Jvm.Cond.code y by' mx' rt).before a0 Z = true) (hy : y.cls ≠ "java/lang/invoke/MethodHandle" ∧ y.cls ≠ "java/lang/invoke/VarHandle") (hBy : y.cls = B) (E : Exa Z h a B)
    (hM : MetFree l y (head1 [Jvm.Cond.code y by' mx' rt] rm) (fun a U => a = as' ∧ Z.Warmed39 U.vm ∧ U.heap = h) (fun _ _ _ _ _ => True) (fun _ U o U' => own_QR U n0 rm.cells rm.slots P o U'))
    (hf : rm.frames + 1 ≤ R.frames) (hl : W + (mx' + 11) + rm.locals ≤ R.locals) (hc : kc + rm.cells ≤ R.cells) (hs : ks + rm.slots ≤ R.slots) {ps : List FieldType} (hpd : parseMethodDescriptor y.desc = some ⟨ps, rt⟩) (hlen : argsL.length = ps.length) (has : (Value.ref a :: argsL).toArray = as') (hst : st = argsL.reverse ++ .ref a :: rest) (hW : (rest.map fun v => v.category).sum ≤ W) (hsz : Ls.size = mx) (hd : decode bytes pc = .ok (.invokevirtual i, 3)) (hq : pc + 3 = q)
    (k : ∀ v T' h', P v h' → own_At p l e R s m args below meth c T' h' n0 (kc + rm.cells) (ks + rm.slots) → own_Go p.tables e below (T'.setTop (mkF m q Ls (v.toList ++ rest))) Q) :
    own_Go p.tables e below (T.setTop (mkF m pc Ls st)) Q := by
  obtain ⟨locs, cells, slots, X, eT, N, hc', hs', hn⟩ := A
  subst hBy
  obtain ⟨cB, kB, qa, qb, qc⟩ := isOf (T := T) C.2.2.2.2.1 eT E
  obtain ⟨v, _, ⟨T', L', k', n'⟩, -, X', ⟨Lc, hQ, hB1, hB2, hB3⟩, st'⟩ := X.virtualBack C.1 (y := y) (z := y) C.2.2.2.1 (mvT C.2.2.2.2.1 w1) (mvT C.2.2.2.2.1 w2) (notFace_of_selects (args := #[]) (mvT C.2.2.2.2.1 w5)) (mvT C.2.2.2.2.1 w5) (mvT C.2.2.2.2.1 w6) hy (backOf (W := W) (Q := fun v h' L => P v h' ∧ Fr n0 L ∧ h.size ≤ h'.size) (own_backQ hM) C.2.2.2.2.1 w4 w3 hf hl) qa qc (g := mkF m pc Ls st) rfl (by rw [C.2.2.1]; exact hsz) (Steps.refl _) (argsL := argsL) (rest := rest) (lenOf hpd hlen) hst (by show 2 * 0 + _ ≤ _; omega) (hb C.2.1 hd) (fun _ _ => ⟨has, eT, Nat.le_trans (Nat.add_le_add_right hc' _) hc, Nat.le_trans (Nat.add_le_add_right hs' _) hs⟩)
  dsimp only [Pt.U, Pt.locs, Pt.cells, Pt.slots] at X' hB1 hB2 hB3 st' hQ
  subst hq hB1 hB2 hB3
  exact own_go (fun t ht => st'.trans ht) (k v T' T'.heap hQ.1 ⟨_, _, _, X', rfl, N.app hQ.2.1, by omega, by omega, Nat.le_trans hn hQ.2.2⟩)
theorem own_callP (C : own_Cx Z a0 p l e R s m args below meth c own nm bytes mx ret) (A : own_At p l e R s m args below meth c T h n0 kc ks) {i : Nat} {y : MethodName} {by' : ByteArray} {mx' : Nat} {rt : Option FieldType} {rm : Room} (W : Nat) {as' : Array Value} (argsL rest : List Value) {P : Option Value → Heap → Prop} {a : Addr} {B : String} {kk : Nat} (w1 : (Jvm.Cond.methodLink own i y).before a0 Z = true) (w6 : (Jvm.Cond.instanceMethod y).before a0 Z = true) (wp : (Jvm.Cond.privateMethod y).before a0 Z = true) (wi : (Jvm.Cond.instantiable y.cls kk).before a0 Z = true) (w3 : (Jvm.Cond.initialized y.cls).before a0 Z = true) (w4 : (Jvm.Cond.code y by' mx' rt).before a0 Z = true) (hy : y.cls ≠ "java/lang/invoke/MethodHandle" ∧ y.cls ≠ "java/lang/invoke/VarHandle") (E : Exa Z h a B)
    (hM : MetFree l y (head1 [Jvm.Cond.code y by' mx' rt] rm) (fun a U => a = as' ∧ Z.Warmed39 U.vm ∧ U.heap = h) (fun _ _ _ _ _ => True) (fun _ U o U' => own_QR U n0 rm.cells rm.slots P o U'))
    (hf : rm.frames + 1 ≤ R.frames) (hl : W + (mx' + 11) + rm.locals ≤ R.locals) (hc : kc + rm.cells ≤ R.cells) (hs : ks + rm.slots ≤ R.slots) {ps : List FieldType} (hpd : parseMethodDescriptor y.desc = some ⟨ps, rt⟩) (hlen : argsL.length = ps.length) (has : (Value.ref a :: argsL).toArray = as') (hst : st = argsL.reverse ++ .ref a :: rest) (hW : (rest.map fun v => v.category).sum ≤ W) (hsz : Ls.size = mx) (hd : decode bytes pc = .ok (.invokevirtual i, 3)) (hq : pc + 3 = q)
    (k : ∀ v T' h', P v h' → own_At p l e R s m args below meth c T' h' n0 (kc + rm.cells) (ks + rm.slots) → own_Go p.tables e below (T'.setTop (mkF m q Ls (v.toList ++ rest))) Q) :
    own_Go p.tables e below (T.setTop (mkF m pc Ls st)) Q := by
  obtain ⟨locs, cells, slots, X, eT, N, hc', hs', hn⟩ := A
  obtain ⟨cl, hcell, hobj⟩ := Exa.cell E
  have hpr : s.PrivateAt y := Cond.privateMethod_at (mvP C.2.2.2.2.1 wp (args := #[]))
  have wi' : (Jvm.Cond.instantiable y.cls kk).before args s = true := mvT C.2.2.2.2.1 wi
  have w6' : (Jvm.Cond.instanceMethod y).before args s = true := mvT C.2.2.2.2.1 w6
  obtain ⟨cc, kc', q1, q2, -, q4, -⟩ := Cond.instantiable_spec wi'
  have hsel : (Jvm.Cond.selects y.cls y y).before args s = true := Jvm.Stand.selects_self_of_private q1 q2 (Bool.or_eq_false_iff.mp q4).1 hpr w6' hy
  obtain ⟨v, _, ⟨T', L', k', n'⟩, -, X', ⟨Lc, hQ, hB1, hB2, hB3⟩, st'⟩ := X.privateBack C.1 (y := y) C.2.2.2.1 (mvT C.2.2.2.2.1 w1) w6' hsel hpr (mvT C.2.2.2.2.1 w4) hy (backOf (W := W) (Q := fun v h' L => P v h' ∧ Fr n0 L ∧ h.size ≤ h'.size) (own_backQ hM) C.2.2.2.2.1 w4 w3 hf hl) (g := mkF m pc Ls st) rfl (by rw [C.2.2.1]; exact hsz) (Steps.refl _) (a := a) (by rw [eT]; exact hcell) hobj (argsL := argsL) (rest := rest) (lenOf hpd hlen) hst (by show 2 * 0 + _ ≤ _; omega) (hb C.2.1 hd) (fun _ _ => ⟨has, eT, Nat.le_trans (Nat.add_le_add_right hc' _) hc, Nat.le_trans (Nat.add_le_add_right hs' _) hs⟩)
  dsimp only [Pt.U, Pt.locs, Pt.cells, Pt.slots] at X' hB1 hB2 hB3 st' hQ
  subst hq hB1 hB2 hB3
  exact own_go (fun t ht => st'.trans ht) (k v T' T'.heap hQ.1 ⟨_, _, _, X', rfl, N.app hQ.2.1, by omega, by omega, Nat.le_trans hn hQ.2.2⟩)
theorem own_callSI (C : own_Cx Z a0 p l e R s m args below meth c own nm bytes mx ret) (A : own_At p l e R s m args below meth c T h n0 kc ks) {i : Nat} {y : MethodName} {by' : ByteArray} {mx' : Nat} {rt : Option FieldType} {rm : Room} (W : Nat) {as' : Array Value} (argsL rest : List Value) {r : Int32} (w1 : (Jvm.Cond.methodLink own i y).before a0 Z = true) (w2 : (Jvm.Cond.static y).before a0 Z = true) (w3 : (Jvm.Cond.initialized y.cls).before a0 Z = true) (w4 : (Jvm.Cond.code y by' mx' rt).before a0 Z = true) (hy : y.cls ≠ "java/lang/invoke/MethodHandle" ∧ y.cls ≠ "java/lang/invoke/VarHandle")
    (hM : MetFree l y (head1 [Jvm.Cond.code y by' mx' rt] rm) (fun a U => a = as' ∧ Z.Warmed39 U.vm ∧ U.heap = h) (fun _ _ _ _ _ => True) (fun _ U o U' => own_QR U n0 rm.cells rm.slots (own_RI h r) o U'))
    (h0c : rm.cells = 0) (h0s : rm.slots = 0) (hf : rm.frames + 1 ≤ R.frames) (hl : W + (mx' + 11) + rm.locals ≤ R.locals) (hc : kc + rm.cells ≤ R.cells) (hs : ks + rm.slots ≤ R.slots) {ps : List FieldType} (hpd : parseMethodDescriptor y.desc = some ⟨ps, rt⟩) (hlen : argsL.length = ps.length) (has : argsL.toArray = as') (hst : st = argsL.reverse ++ rest) (hW : (rest.map fun v => v.category).sum ≤ W) (hsz : Ls.size = mx) (hd : decode bytes pc = .ok (.invokestatic i, 3)) (hq : pc + 3 = q)
    (k : ∀ T', own_At p l e R s m args below meth c T' h n0 kc ks → own_Go p.tables e below (T'.setTop (mkF m q Ls (.int r :: rest))) Q) :
    own_Go p.tables e below (T.setTop (mkF m pc Ls st)) Q := by
  refine own_callS C A W argsL rest w1 w2 w3 w4 hy hM hf hl hc hs hpd hlen has hst hW hsz hd hq (fun v T' h' hP A' => ?_)
  obtain ⟨rfl, rfl⟩ := hP
  rw [h0c, h0s] at A'
  exact k T' A'
theorem own_callSJ (C : own_Cx Z a0 p l e R s m args below meth c own nm bytes mx ret) (A : own_At p l e R s m args below meth c T h n0 kc ks) {i : Nat} {y : MethodName} {by' : ByteArray} {mx' : Nat} {rt : Option FieldType} {rm : Room} (W : Nat) {as' : Array Value} (argsL rest : List Value) {r : Int64} (w1 : (Jvm.Cond.methodLink own i y).before a0 Z = true) (w2 : (Jvm.Cond.static y).before a0 Z = true) (w3 : (Jvm.Cond.initialized y.cls).before a0 Z = true) (w4 : (Jvm.Cond.code y by' mx' rt).before a0 Z = true) (hy : y.cls ≠ "java/lang/invoke/MethodHandle" ∧ y.cls ≠ "java/lang/invoke/VarHandle")
    (hM : MetFree l y (head1 [Jvm.Cond.code y by' mx' rt] rm) (fun a U => a = as' ∧ Z.Warmed39 U.vm ∧ U.heap = h) (fun _ _ _ _ _ => True) (fun _ U o U' => own_QR U n0 rm.cells rm.slots (own_RJ h r) o U'))
    (h0c : rm.cells = 0) (h0s : rm.slots = 0) (hf : rm.frames + 1 ≤ R.frames) (hl : W + (mx' + 11) + rm.locals ≤ R.locals) (hc : kc + rm.cells ≤ R.cells) (hs : ks + rm.slots ≤ R.slots) {ps : List FieldType} (hpd : parseMethodDescriptor y.desc = some ⟨ps, rt⟩) (hlen : argsL.length = ps.length) (has : argsL.toArray = as') (hst : st = argsL.reverse ++ rest) (hW : (rest.map fun v => v.category).sum ≤ W) (hsz : Ls.size = mx) (hd : decode bytes pc = .ok (.invokestatic i, 3)) (hq : pc + 3 = q)
    (k : ∀ T', own_At p l e R s m args below meth c T' h n0 kc ks → own_Go p.tables e below (T'.setTop (mkF m q Ls (.long r :: rest))) Q) :
    own_Go p.tables e below (T.setTop (mkF m pc Ls st)) Q := by
  refine own_callS C A W argsL rest w1 w2 w3 w4 hy hM hf hl hc hs hpd hlen has hst hW hsz hd hq (fun v T' h' hP A' => ?_)
  obtain ⟨rfl, rfl⟩ := hP
  rw [h0c, h0s] at A'
  exact k T' A'
theorem own_callVI (C : own_Cx Z a0 p l e R s m args below meth c own nm bytes mx ret) (A : own_At p l e R s m args below meth c T h n0 kc ks) {i : Nat} {y : MethodName} {by' : ByteArray} {mx' : Nat} {rt : Option FieldType} {rm : Room} (W : Nat) {as' : Array Value} (argsL rest : List Value) {r : Int32} {a : Addr} {B : String} (w1 : (Jvm.Cond.methodLink own i y).before a0 Z = true) (w2 : (Jvm.Cond.declares y).before a0 Z = true) (w5 : (Jvm.Cond.selects B y y).before a0 Z = true) (w6 : (Jvm.Cond.instanceMethod y).before a0 Z = true) (w3 : (Jvm.Cond.initialized y.cls).before a0 Z = true) (w4 : (Jvm.Cond.code y by' mx' rt).before a0 Z = true) (hy : y.cls ≠ "java/lang/invoke/MethodHandle" ∧ y.cls ≠ "java/lang/invoke/VarHandle") (hBy : y.cls = B) (E : Exa Z h a B)
    (hM : MetFree l y (head1 [Jvm.Cond.code y by' mx' rt] rm) (fun a U => a = as' ∧ Z.Warmed39 U.vm ∧ U.heap = h) (fun _ _ _ _ _ => True) (fun _ U o U' => own_QR U n0 rm.cells rm.slots (own_RI h r) o U'))
    (h0c : rm.cells = 0) (h0s : rm.slots = 0) (hf : rm.frames + 1 ≤ R.frames) (hl : W + (mx' + 11) + rm.locals ≤ R.locals) (hc : kc + rm.cells ≤ R.cells) (hs : ks + rm.slots ≤ R.slots) {ps : List FieldType} (hpd : parseMethodDescriptor y.desc = some ⟨ps, rt⟩) (hlen : argsL.length = ps.length) (has : (Value.ref a :: argsL).toArray = as') (hst : st = argsL.reverse ++ .ref a :: rest) (hW : (rest.map fun v => v.category).sum ≤ W) (hsz : Ls.size = mx) (hd : decode bytes pc = .ok (.invokevirtual i, 3)) (hq : pc + 3 = q)
    (k : ∀ T', own_At p l e R s m args below meth c T' h n0 kc ks → own_Go p.tables e below (T'.setTop (mkF m q Ls (.int r :: rest))) Q) :
    own_Go p.tables e below (T.setTop (mkF m pc Ls st)) Q := by
  refine own_callV C A W argsL rest w1 w2 w5 w6 w3 w4 hy hBy E hM hf hl hc hs hpd hlen has hst hW hsz hd hq (fun v T' h' hP A' => ?_)
  obtain ⟨rfl, rfl⟩ := hP
  rw [h0c, h0s] at A'
  exact k T' A'
theorem own_callVJ (C : own_Cx Z a0 p l e R s m args below meth c own nm bytes mx ret) (A : own_At p l e R s m args below meth c T h n0 kc ks) {i : Nat} {y : MethodName} {by' : ByteArray} {mx' : Nat} {rt : Option FieldType} {rm : Room} (W : Nat) {as' : Array Value} (argsL rest : List Value) {r : Int64} {a : Addr} {B : String} (w1 : (Jvm.Cond.methodLink own i y).before a0 Z = true) (w2 : (Jvm.Cond.declares y).before a0 Z = true) (w5 : (Jvm.Cond.selects B y y).before a0 Z = true) (w6 : (Jvm.Cond.instanceMethod y).before a0 Z = true) (w3 : (Jvm.Cond.initialized y.cls).before a0 Z = true) (w4 : (Jvm.Cond.code y by' mx' rt).before a0 Z = true) (hy : y.cls ≠ "java/lang/invoke/MethodHandle" ∧ y.cls ≠ "java/lang/invoke/VarHandle") (hBy : y.cls = B) (E : Exa Z h a B)
    (hM : MetFree l y (head1 [Jvm.Cond.code y by' mx' rt] rm) (fun a U => a = as' ∧ Z.Warmed39 U.vm ∧ U.heap = h) (fun _ _ _ _ _ => True) (fun _ U o U' => own_QR U n0 rm.cells rm.slots (own_RJ h r) o U'))
    (h0c : rm.cells = 0) (h0s : rm.slots = 0) (hf : rm.frames + 1 ≤ R.frames) (hl : W + (mx' + 11) + rm.locals ≤ R.locals) (hc : kc + rm.cells ≤ R.cells) (hs : ks + rm.slots ≤ R.slots) {ps : List FieldType} (hpd : parseMethodDescriptor y.desc = some ⟨ps, rt⟩) (hlen : argsL.length = ps.length) (has : (Value.ref a :: argsL).toArray = as') (hst : st = argsL.reverse ++ .ref a :: rest) (hW : (rest.map fun v => v.category).sum ≤ W) (hsz : Ls.size = mx) (hd : decode bytes pc = .ok (.invokevirtual i, 3)) (hq : pc + 3 = q)
    (k : ∀ T', own_At p l e R s m args below meth c T' h n0 kc ks → own_Go p.tables e below (T'.setTop (mkF m q Ls (.long r :: rest))) Q) :
    own_Go p.tables e below (T.setTop (mkF m pc Ls st)) Q := by
  refine own_callV C A W argsL rest w1 w2 w5 w6 w3 w4 hy hBy E hM hf hl hc hs hpd hlen has hst hW hsz hd hq (fun v T' h' hP A' => ?_)
  obtain ⟨rfl, rfl⟩ := hP
  rw [h0c, h0s] at A'
  exact k T' A'
theorem own_callPI (C : own_Cx Z a0 p l e R s m args below meth c own nm bytes mx ret) (A : own_At p l e R s m args below meth c T h n0 kc ks) {i : Nat} {y : MethodName} {by' : ByteArray} {mx' : Nat} {rt : Option FieldType} {rm : Room} (W : Nat) {as' : Array Value} (argsL rest : List Value) {r : Int32} {a : Addr} {B : String} {kk : Nat} (w1 : (Jvm.Cond.methodLink own i y).before a0 Z = true) (w6 : (Jvm.Cond.instanceMethod y).before a0 Z = true) (wp : (Jvm.Cond.privateMethod y).before a0 Z = true) (wi : (Jvm.Cond.instantiable y.cls kk).before a0 Z = true) (w3 : (Jvm.Cond.initialized y.cls).before a0 Z = true) (w4 : (Jvm.Cond.code y by' mx' rt).before a0 Z = true) (hy : y.cls ≠ "java/lang/invoke/MethodHandle" ∧ y.cls ≠ "java/lang/invoke/VarHandle") (E : Exa Z h a B)
    (hM : MetFree l y (head1 [Jvm.Cond.code y by' mx' rt] rm) (fun a U => a = as' ∧ Z.Warmed39 U.vm ∧ U.heap = h) (fun _ _ _ _ _ => True) (fun _ U o U' => own_QR U n0 rm.cells rm.slots (own_RI h r) o U'))
    (h0c : rm.cells = 0) (h0s : rm.slots = 0) (hf : rm.frames + 1 ≤ R.frames) (hl : W + (mx' + 11) + rm.locals ≤ R.locals) (hc : kc + rm.cells ≤ R.cells) (hs : ks + rm.slots ≤ R.slots) {ps : List FieldType} (hpd : parseMethodDescriptor y.desc = some ⟨ps, rt⟩) (hlen : argsL.length = ps.length) (has : (Value.ref a :: argsL).toArray = as') (hst : st = argsL.reverse ++ .ref a :: rest) (hW : (rest.map fun v => v.category).sum ≤ W) (hsz : Ls.size = mx) (hd : decode bytes pc = .ok (.invokevirtual i, 3)) (hq : pc + 3 = q)
    (k : ∀ T', own_At p l e R s m args below meth c T' h n0 kc ks → own_Go p.tables e below (T'.setTop (mkF m q Ls (.int r :: rest))) Q) :
    own_Go p.tables e below (T.setTop (mkF m pc Ls st)) Q := by
  refine own_callP C A W argsL rest w1 w6 wp wi w3 w4 hy E hM hf hl hc hs hpd hlen has hst hW hsz hd hq (fun v T' h' hP A' => ?_)
  obtain ⟨rfl, rfl⟩ := hP
  rw [h0c, h0s] at A'
  exact k T' A'
theorem own_callC0 (C : own_Cx Z a0 p l e R s m args below meth c own nm bytes mx ret) (A : own_At p l e R s m args below meth c T h n0 kc ks) {i : Nat} {y : MethodName} {by' : ByteArray} {mx' : Nat} {rm : Room} (W : Nat) {as' : Array Value} (argsL rest : List Value)  {a : Addr} (hy1 : y.name = "<init>") (w1 : (Jvm.Cond.methodLink own i y).before a0 Z = true) (w2 : (Jvm.Cond.instanceMethod y).before a0 Z = true) (w3 : (Jvm.Cond.initialized y.cls).before a0 Z = true) (w4 : (Jvm.Cond.code y by' mx' none).before a0 Z = true) (hy : y.cls ≠ "java/lang/invoke/MethodHandle" ∧ y.cls ≠ "java/lang/invoke/VarHandle")
    (hM : MetFree l y (head1 [Jvm.Cond.code y by' mx' none] rm) (fun a U => a = as' ∧ Z.Warmed39 U.vm ∧ U.heap = h) (fun _ _ _ _ _ => True) (fun _ U o U' => own_QR U n0 rm.cells rm.slots (own_R0 h ()) o U'))
    (h0c : rm.cells = 0) (h0s : rm.slots = 0) (hf : rm.frames + 1 ≤ R.frames) (hl : W + (mx' + 11) + rm.locals ≤ R.locals) (hc : kc + rm.cells ≤ R.cells) (hs : ks + rm.slots ≤ R.slots) {ps : List FieldType} (hpd : parseMethodDescriptor y.desc = some ⟨ps, none⟩) (hlen : argsL.length = ps.length) (has : (Value.ref a :: argsL).toArray = as') (hst : st = argsL.reverse ++ .ref a :: rest) (hW : (rest.map fun v => v.category).sum ≤ W) (hsz : Ls.size = mx) (hd : decode bytes pc = .ok (.invokespecial i, 3)) (hq : pc + 3 = q)
    (k : ∀ T', own_At p l e R s m args below meth c T' h n0 kc ks → own_Go p.tables e below (T'.setTop (mkF m q Ls rest)) Q) :
    own_Go p.tables e below (T.setTop (mkF m pc Ls st)) Q := by
  refine own_callC C A W argsL rest hy1 w1 w2 w3 w4 hy hM hf hl hc hs hpd hlen has hst hW hsz hd hq (fun v T' h' hP A' => ?_)
  obtain ⟨rfl, rfl⟩ := hP
  rw [h0c, h0s] at A'
  exact k T' A'
theorem own_initO (C : own_Cx Z a0 p l e R s m args below meth c own nm bytes mx ret) (A : own_At p l e R s m args below meth c T h n0 kc ks) {i : Nat} {a : Addr} (W : Nat) (w1 : (Jvm.Cond.methodLink own i Lib.objectInit).before a0 Z = true) (w2 : (Jvm.Cond.instanceMethod Lib.objectInit).before a0 Z = true) (w3 : (Jvm.Cond.code Lib.objectInit ⟨#[0xb1]⟩ 1 none).before a0 Z = true) (hsz : Ls.size = mx) (hd : decode bytes pc = .ok (.invokespecial i, 3)) (hq : pc + 3 = q) (hf : 1 ≤ R.frames) (hW : (st.map fun v => v.category).sum ≤ W) (hl : W + 12 ≤ R.locals)
    (k : ∀ T', own_At p l e R s m args below meth c T' h n0 kc ks → own_Go p.tables e below (T'.setTop (mkF m q Ls st)) Q) :
    own_Go p.tables e below (T.setTop (mkF m pc Ls (.ref a :: st))) Q := by
  obtain ⟨locs, cells, slots, X, eT, N, hc', hs', hn⟩ := A
  obtain ⟨T', X', e', st'⟩ := initO X C.1 C.2.2.2.2.1 C.2.2.2.1 w1 w2 w3 eT (g := mkF m pc Ls (.ref a :: st)) rfl (by rw [C.2.2.1]; exact hsz) rfl (hb C.2.1 hd) hf (W := W) (by show 2 * 0 + _ ≤ _; omega) hl
  subst hq
  exact own_go st' (k T' ⟨locs, cells, slots, X', e', N, hc', hs', hn⟩)
theorem own_getF (C : own_Cx Z a0 p l e R s m args below meth c own nm bytes mx ret) (A : own_At p l e R s m args below meth c T h n0 kc ks) {O n d : String} {i : Nat} {a : Addr} {v : Value} (w : (Jvm.Cond.fieldLink own i O n d).before a0 Z = true) (F : Fld Z h a O n d v) (hd : decode bytes pc = .ok (.getfield i, 3)) (hq : pc + 3 = q) (k : ∀ T', own_At p l e R s m args below meth c T' h n0 kc ks → own_Go p.tables e below (T'.setTop (mkF m q Ls (v :: st))) Q) :
    own_Go p.tables e below (T.setTop (mkF m pc Ls (.ref a :: st))) Q := by
  obtain ⟨locs, cells, slots, X, eT, N, hc', hs', hn⟩ := A
  obtain ⟨T', X', e', st'⟩ := getF X C.1 C.2.2.2.2.1 C.2.2.2.1 (host := "") (Or.inl w) Via.refl eT F (g := mkF m pc Ls (.ref a :: st)) rfl rfl (hb C.2.1 hd)
  subst hq
  exact own_go st' (k T' ⟨locs, cells, slots, X', e', N, hc', hs', hn⟩)
theorem own_putF (C : own_Cx Z a0 p l e R s m args below meth c own nm bytes mx ret) (A : own_At p l e R s m args below meth c T h n0 kc ks) {O n d B : String} {i kk : Nat} {a : Addr} {v old : Value} (ty : FieldType) (w : (Jvm.Cond.fieldLink own i O n d).before a0 Z = true) (F : Fld Z h a O n d old) (E : Exa Z h a B) (Ly : (Jvm.Cond.lays B O n d).before a0 Z = true ∨ ((Jvm.Cond.laysFinal B O n d).before a0 Z = true ∧ own = O ∧ nm = "<init>")) (wi : (Jvm.Cond.instantiable B kk).before a0 Z = true) (hty : parseFieldDescriptor d = some ty) (hnr : narrow ty v = v) (hft : fits ty v = true) (ga : n0 ≤ a) (hd : decode bytes pc = .ok (.putfield i, 3)) (hq : pc + 3 = q)
    (k : ∀ T' h', Wr h h' a (Jvm.RoadKit.slotOf Z O n d) v → own_At p l e R s m args below meth c T' h' n0 kc ks → own_Go p.tables e below (T'.setTop (mkF m q Ls st)) Q) :
    own_Go p.tables e below (T.setTop (mkF m pc Ls (v :: .ref a :: st))) Q := by
  obtain ⟨locs, cells, slots, X, eT, N, hc', hs', hn⟩ := A
  obtain ⟨T', h', X', e', W', st'⟩ := putF X C.1 C.2.2.2.2.1 C.2.2.2.1 (host := "") (Or.inl w) Via.refl eT F E (Ly.imp id fun z => ⟨z.1, z.2.1, by rw [C.2.2.2.2.2.1]; exact z.2.2⟩) wi hty hnr hft (g := mkF m pc Ls (v :: .ref a :: st)) rfl rfl (hb C.2.1 hd)
  subst hq
  exact own_go st' (k T' h' W' ⟨_, cells, slots, X', e', Fr.snoc X' N ga, hc', hs', by rw [W'.size]; exact hn⟩)
theorem own_newO (C : own_Cx Z a0 p l e R s m args below meth c own nm bytes mx ret) (A : own_At p l e R s m args below meth c T h n0 kc ks) {B : String} {i n : Nat} (w : (Jvm.Cond.classLink own i B).before a0 Z = true) (wi : (Jvm.Cond.instantiable B n).before a0 Z = true) (wz : (Jvm.Cond.initialized B).before a0 Z = true) (hd : decode bytes pc = .ok (.new i, 3)) (hq : pc + 3 = q) (hc : kc + 1 ≤ R.cells) (hs : ks + n ≤ R.slots)
    (k : ∀ T' h' a, a = h.size → Ext h h' → Exa Z h' a B → (∀ {O nm d : String} {ty : FieldType}, Laid Z a0 B O nm d → parseFieldDescriptor d = some ty → Fld Z h' a O nm d (defaultValue ty)) → n0 ≤ a → own_At p l e R s m args below meth c T' h' n0 (kc + 1) (ks + n) → own_Go p.tables e below (T'.setTop (mkF m q Ls (.ref a :: st))) Q) :
    own_Go p.tables e below (T.setTop (mkF m pc Ls st)) Q := by
  obtain ⟨locs, cells, slots, X, eT, N, hc', hs', hn⟩ := A
  obtain ⟨T', h', X', e', E', A', D', -, st'⟩ := newO X C.1 C.2.2.2.2.1 C.2.2.2.1 w wi wz eT (g := mkF m pc Ls st) rfl (hb C.2.1 hd) (by omega) (by omega)
  subst hq
  exact own_go st' (k T' h' h.size rfl E' A' D' hn ⟨locs, _, _, X', e', N, by omega, by omega, Nat.le_trans hn E'.1⟩)
theorem own_instY (C : own_Cx Z a0 p l e R s m args below meth c own nm bytes mx ret) (A : own_At p l e R s m args below meth c T h n0 kc ks) {B : String} {i : Nat} {a : Addr} (w : (Jvm.Cond.classLink own i B).before a0 Z = true) (F : Ins Z h a B true) (hd : decode bytes pc = .ok (.instanceof i, 3)) (hq : pc + 3 = q) (k : ∀ T', own_At p l e R s m args below meth c T' h n0 kc ks → own_Go p.tables e below (T'.setTop (mkF m q Ls (.int 1 :: st))) Q) :
    own_Go p.tables e below (T.setTop (mkF m pc Ls (.ref a :: st))) Q := by
  obtain ⟨locs, cells, slots, X, eT, N, hc', hs', hn⟩ := A
  obtain ⟨T', X', e', st'⟩ := instY X C.1 C.2.2.2.2.1 C.2.2.2.1 w eT F (g := mkF m pc Ls (.ref a :: st)) rfl rfl (hb C.2.1 hd)
  subst hq
  exact own_go st' (k T' ⟨locs, cells, slots, X', e', N, hc', hs', hn⟩)
theorem own_castY (C : own_Cx Z a0 p l e R s m args below meth c own nm bytes mx ret) (A : own_At p l e R s m args below meth c T h n0 kc ks) {B : String} {i : Nat} {a : Addr} (w : (Jvm.Cond.classLink own i B).before a0 Z = true) (F : Ins Z h a B true) (hd : decode bytes pc = .ok (.checkcast i, 3)) (hq : pc + 3 = q) (k : ∀ T', own_At p l e R s m args below meth c T' h n0 kc ks → own_Go p.tables e below (T'.setTop (mkF m q Ls (.ref a :: st))) Q) :
    own_Go p.tables e below (T.setTop (mkF m pc Ls (.ref a :: st))) Q := by
  obtain ⟨locs, cells, slots, X, eT, N, hc', hs', hn⟩ := A
  obtain ⟨T', X', e', st'⟩ := castY X C.1 C.2.2.2.2.1 C.2.2.2.1 w eT F (g := mkF m pc Ls (.ref a :: st)) rfl rfl (hb C.2.1 hd)
  subst hq
  exact own_go st' (k T' ⟨locs, cells, slots, X', e', N, hc', hs', hn⟩)
theorem own_instNo (C : own_Cx Z a0 p l e R s m args below meth c own nm bytes mx ret) (A : own_At p l e R s m args below meth c T h n0 kc ks) {B D : String} {i : Nat} {a : Addr} (w : (Jvm.Cond.classLink own i B).before a0 Z = true) (E : Exa Z h a D) (F : ∃ c t, Z.vm.findClass D = some c ∧ Z.vm.findClass B = some t ∧ Z.vm.assignable c t = false) (hd : decode bytes pc = .ok (.instanceof i, 3)) (hq : pc + 3 = q) (k : ∀ T', own_At p l e R s m args below meth c T' h n0 kc ks → own_Go p.tables e below (T'.setTop (mkF m q Ls (.int 0 :: st))) Q) :
    own_Go p.tables e below (T.setTop (mkF m pc Ls (.ref a :: st))) Q := by
  obtain ⟨locs, cells, slots, X, eT, N, hc', hs', hn⟩ := A
  obtain ⟨T', X', e', st'⟩ := instNo X C.1 C.2.2.2.2.1 C.2.2.2.1 w eT E F (g := mkF m pc Ls (.ref a :: st)) rfl rfl (hb C.2.1 hd)
  subst hq
  exact own_go st' (k T' ⟨locs, cells, slots, X', e', N, hc', hs', hn⟩)
theorem own_instNull (C : own_Cx Z a0 p l e R s m args below meth c own nm bytes mx ret) (A : own_At p l e R s m args below meth c T h n0 kc ks) {i : Nat} (hd : decode bytes pc = .ok (.instanceof i, 3)) (hq : pc + 3 = q) (k : own_Go p.tables e below (T.setTop (mkF m q Ls (.int 0 :: st))) Q) :
    own_Go p.tables e below (T.setTop (mkF m pc Ls (.null :: st))) Q := by
  obtain ⟨_, _, _, X, _⟩ := A
  subst hq
  exact own_go (X.instanceofNull C.1 (g := mkF m pc Ls (.null :: st)) rfl rfl (hb C.2.1 hd)) k
def own_Ia (Z : State) (h : Heap) (a : Addr) (ty : FieldType) (n : Int32) (xs : List Int32) : Prop := ∃ k, Arv Z h a k ty n (xs.map .int) (.int 0) ∧ xs.length = n.toNatClampNeg
theorem own_Ia.lt {a : Addr} {ty : FieldType} {n : Int32} {xs : List Int32} (F : own_Ia Z h a ty n xs) : a < h.size := by obtain ⟨k, V, -⟩ := F; exact V.lt
theorem own_Ia.ext {h' : Heap} {a : Addr} {ty : FieldType} {n : Int32} {xs : List Int32} (F : own_Ia Z h a ty n xs) (E : Ext h h') : own_Ia Z h' a ty n xs := by obtain ⟨k, V, hl⟩ := F; exact ⟨k, V.ext E, hl⟩
theorem own_Ia.keep {h' : Heap} {ws : List Addr} {a : Addr} {ty : FieldType} {n : Int32} {xs : List Int32} (F : own_Ia Z h a ty n xs) (K : Keep h h' ws) (q : a ∉ ws) : own_Ia Z h' a ty n xs := by obtain ⟨k, V, hl⟩ := F; exact ⟨k, V.keep K q, hl⟩
theorem own_Ia.other {h' : Heap} {a b : Addr} {sl : Nat} {v : Value} {ty : FieldType} {n : Int32} {xs : List Int32} (F : own_Ia Z h b ty n xs) (W : Wr h h' a sl v) (q : b ≠ a) : own_Ia Z h' b ty n xs := by obtain ⟨k, V, hl⟩ := F; exact ⟨k, V.other W q, hl⟩
theorem own_getD_map (xs : List Int32) (i : Nat) : (xs.map Value.int).getD i (.int 0) = .int (xs.getD i 0) := by
  induction xs generalizing i with
  | nil => rfl
  | cons x t ih => cases i with
    | zero => rfl
    | succ i => simpa using ih i
theorem own_newP (C : own_Cx Z a0 p l e R s m args below meth c own nm bytes mx ret) (A : own_At p l e R s m args below meth c T h n0 kc ks) {aty : ArrayType} {n : Int32} (cap : Nat) {xs : List Int32} (w : (Jvm.Cond.arrayClass (newarray.typeOf aty)).before a0 Z = true) (hn' : ¬ n < 0) (hxs : List.replicate n.toNatClampNeg 0 = xs) (hcap : n.toNatClampNeg ≤ cap) (hcb : cap * 8 ≤ 536870912) (hdv : defaultValue (newarray.typeOf aty) = .int 0) (hd : decode bytes pc = .ok (.newarray aty, 2)) (hq : pc + 2 = q) (hc : kc + 1 ≤ R.cells) (hs : ks + cap ≤ R.slots)
    (k : ∀ T' h' a, a = h.size → Ext h h' → own_Ia Z h' a (newarray.typeOf aty) n xs → n0 ≤ a → own_At p l e R s m args below meth c T' h' n0 (kc + 1) (ks + cap) → own_Go p.tables e below (T'.setTop (mkF m q Ls (.ref a :: st))) Q) :
    own_Go p.tables e below (T.setTop (mkF m pc Ls (.int n :: st))) Q := by
  obtain ⟨locs, cells, slots, X, eT, N, hc', hs', hn⟩ := A
  obtain ⟨T', h', cA, X', e', E', A', st'⟩ := newP X C.1 C.2.2.2.2.1 w eT (g := mkF m pc Ls (.int n :: st)) rfl (hb C.2.1 hd) rfl hn' (cap := cap) hcap hcb (by omega) (by omega)
  subst hq hxs
  have V := Arv.new A' hn'
  rw [hdv] at V
  have V' := V.pad (pad_rep [] (.int 0) n.toNatClampNeg)
  refine own_go st' (k T' h' h.size rfl E' ⟨cA, ?_, by simp⟩ hn ⟨locs, _, _, X', e', N, by omega, by omega, Nat.le_trans hn E'.1⟩)
  simpa using V'
theorem own_newX (C : own_Cx Z a0 p l e R s m args below meth c own nm bytes mx ret) (A : own_At p l e R s m args below meth c T h n0 kc ks) {aty : ArrayType} {n : Int32} (cap : Nat) (w : (Jvm.Cond.arrayClass (newarray.typeOf aty)).before a0 Z = true) (hn' : ¬ n < 0) (hcap : n.toNatClampNeg ≤ cap) (hcb : cap * 8 ≤ 536870912) (hd : decode bytes pc = .ok (.newarray aty, 2)) (hq : pc + 2 = q) (hc : kc + 1 ≤ R.cells) (hs : ks + cap ≤ R.slots)
    (k : ∀ T' h' a, a = h.size → Ext h h' → n0 ≤ a → own_At p l e R s m args below meth c T' h' n0 (kc + 1) (ks + cap) → own_Go p.tables e below (T'.setTop (mkF m q Ls (.ref a :: st))) Q) :
    own_Go p.tables e below (T.setTop (mkF m pc Ls (.int n :: st))) Q := by
  obtain ⟨locs, cells, slots, X, eT, N, hc', hs', hn⟩ := A
  obtain ⟨T', h', cA, X', e', E', A', st'⟩ := newP X C.1 C.2.2.2.2.1 w eT (g := mkF m pc Ls (.int n :: st)) rfl (hb C.2.1 hd) rfl hn' (cap := cap) hcap hcb (by omega) (by omega)
  subst hq
  exact own_go st' (k T' h' h.size rfl E' hn ⟨locs, _, _, X', e', N, by omega, by omega, Nat.le_trans hn E'.1⟩)
def own_PN (Z : State) (n0 : Nat) (ty : FieldType) (h : Heap) (r : Int32 × List Int32) (v : Option Value) (h' : Heap) : Prop := ∃ a, v = some (.ref a) ∧ n0 ≤ a ∧ h.size ≤ a ∧ Keep h h' [] ∧ own_Ia Z h' a ty r.1 r.2
theorem own_iastore (C : own_Cx Z a0 p l e R s m args below meth c own nm bytes mx ret) (A : own_At p l e R s m args below meth c T h n0 kc ks) {a : Addr} {j x n : Int32} {xs ys : List Int32} (V : own_Ia Z h a .int n xs) (hj : ¬ j < 0 ∧ j < n) (hys : xs.set j.toNatClampNeg (x) = ys) (ga : n0 ≤ a) (hd : decode bytes pc = .ok (.iastore, 1)) (hq : pc + 1 = q)
    (k : ∀ T' h', Keep h h' [a] → own_Ia Z h' a .int n ys → own_At p l e R s m args below meth c T' h' n0 kc ks → own_Go p.tables e below (T'.setTop (mkF m q Ls st)) Q) :
    own_Go p.tables e below (T.setTop (mkF m pc Ls (.int x :: .int j :: .ref a :: st))) Q := by
  obtain ⟨locs, cells, slots, X, eT, N, hc', hs', hn⟩ := A
  obtain ⟨kk, ⟨cl, Ar, q1, S, q3, H, G⟩, hlen⟩ := V
  have hin := inb_of S hj
  obtain ⟨T', h', X', e', W', st'⟩ := stI X C.1 C.2.2.2.2.1 eT Ar hin (g := mkF m pc Ls (.int x :: .int j :: .ref a :: st)) rfl rfl (hb C.2.1 hd)
  subst hq hys
  have hlt : j.toNatClampNeg < (xs.map Value.int).length := by
    have := Nat.lt_of_not_le fun z => hin (Or.inr z)
    rw [S] at this; simpa [hlen] using this
  have V' := Arv.set Ar q1 S q3 H G rfl W' j.toNatClampNeg rfl hlt
  refine own_go st' (k T' h' (Keep.of_wr W') ⟨kk, ?_, by simpa using hlen⟩ ⟨_, cells, slots, X', e', Fr.snoc X' N ga, hc', hs', by rw [W'.size]; exact hn⟩)
  rw [List.map_set]
  exact V'
theorem own_bastore (C : own_Cx Z a0 p l e R s m args below meth c own nm bytes mx ret) (A : own_At p l e R s m args below meth c T h n0 kc ks) {a : Addr} {j x n : Int32} {xs ys : List Int32} (V : own_Ia Z h a .byte n xs) (hj : ¬ j < 0 ∧ j < n) (hys : xs.set j.toNatClampNeg (x.toInt8.toInt32) = ys) (ga : n0 ≤ a) (hd : decode bytes pc = .ok (.bastore, 1)) (hq : pc + 1 = q)
    (k : ∀ T' h', Keep h h' [a] → own_Ia Z h' a .byte n ys → own_At p l e R s m args below meth c T' h' n0 kc ks → own_Go p.tables e below (T'.setTop (mkF m q Ls st)) Q) :
    own_Go p.tables e below (T.setTop (mkF m pc Ls (.int x :: .int j :: .ref a :: st))) Q := by
  obtain ⟨locs, cells, slots, X, eT, N, hc', hs', hn⟩ := A
  obtain ⟨kk, ⟨cl, Ar, q1, S, q3, H, G⟩, hlen⟩ := V
  have hin := inb_of S hj
  obtain ⟨T', h', X', e', W', st'⟩ := stB X C.1 C.2.2.2.2.1 eT Ar hin (g := mkF m pc Ls (.int x :: .int j :: .ref a :: st)) rfl rfl (hb C.2.1 hd)
  subst hq hys
  have hlt : j.toNatClampNeg < (xs.map Value.int).length := by
    have := Nat.lt_of_not_le fun z => hin (Or.inr z)
    rw [S] at this; simpa [hlen] using this
  have V' := Arv.set Ar q1 S q3 H G (fits_nar_byte x) W' j.toNatClampNeg rfl hlt
  refine own_go st' (k T' h' (Keep.of_wr W') ⟨kk, ?_, by simpa using hlen⟩ ⟨_, cells, slots, X', e', Fr.snoc X' N ga, hc', hs', by rw [W'.size]; exact hn⟩)
  rw [List.map_set]
  exact V'
theorem own_castore (C : own_Cx Z a0 p l e R s m args below meth c own nm bytes mx ret) (A : own_At p l e R s m args below meth c T h n0 kc ks) {a : Addr} {j x n : Int32} {xs ys : List Int32} (V : own_Ia Z h a .char n xs) (hj : ¬ j < 0 ∧ j < n) (hys : xs.set j.toNatClampNeg (x.toUInt32.toUInt16.toUInt32.toInt32) = ys) (ga : n0 ≤ a) (hd : decode bytes pc = .ok (.castore, 1)) (hq : pc + 1 = q)
    (k : ∀ T' h', Keep h h' [a] → own_Ia Z h' a .char n ys → own_At p l e R s m args below meth c T' h' n0 kc ks → own_Go p.tables e below (T'.setTop (mkF m q Ls st)) Q) :
    own_Go p.tables e below (T.setTop (mkF m pc Ls (.int x :: .int j :: .ref a :: st))) Q := by
  obtain ⟨locs, cells, slots, X, eT, N, hc', hs', hn⟩ := A
  obtain ⟨kk, ⟨cl, Ar, q1, S, q3, H, G⟩, hlen⟩ := V
  have hin := inb_of S hj
  obtain ⟨T', h', X', e', W', st'⟩ := stC X C.1 C.2.2.2.2.1 eT Ar hin (g := mkF m pc Ls (.int x :: .int j :: .ref a :: st)) rfl rfl (hb C.2.1 hd)
  subst hq hys
  have hlt : j.toNatClampNeg < (xs.map Value.int).length := by
    have := Nat.lt_of_not_le fun z => hin (Or.inr z)
    rw [S] at this; simpa [hlen] using this
  have V' := Arv.set Ar q1 S q3 H G (fits_nar_char x) W' j.toNatClampNeg rfl hlt
  refine own_go st' (k T' h' (Keep.of_wr W') ⟨kk, ?_, by simpa using hlen⟩ ⟨_, cells, slots, X', e', Fr.snoc X' N ga, hc', hs', by rw [W'.size]; exact hn⟩)
  rw [List.map_set]
  exact V'
theorem own_iaload (C : own_Cx Z a0 p l e R s m args below meth c own nm bytes mx ret) (A : own_At p l e R s m args below meth c T h n0 kc ks) {a : Addr} {j n v : Int32} {xs : List Int32} (V : own_Ia Z h a .int n xs) (hj : ¬ j < 0 ∧ j < n) (hv : xs.getD j.toNatClampNeg 0 = v) (hd : decode bytes pc = .ok (.iaload, 1)) (hq : pc + 1 = q) (k : own_Go p.tables e below (T.setTop (mkF m q Ls (.int v :: st))) Q) :
    own_Go p.tables e below (T.setTop (mkF m pc Ls (.int j :: .ref a :: st))) Q := by
  obtain ⟨locs, cells, slots, X, eT, N, hc', hs', hn⟩ := A
  obtain ⟨kk, ⟨cl, Ar, q1, S, q3, H, G⟩, hlen⟩ := V
  have hin := inb_of S hj
  subst hq hv
  exact own_go (fun t => X.iaload C.1 (by rw [eT]; exact Ar.1) (State.isArrayOf_alike C.2.2.2.2.1.alike Ar.2.1) Ar.2.2 hin (H.at hin (own_getD_map xs _)) (g := mkF m pc Ls (.int j :: .ref a :: st)) rfl rfl (hb C.2.1 hd) t) k
theorem own_baload (C : own_Cx Z a0 p l e R s m args below meth c own nm bytes mx ret) (A : own_At p l e R s m args below meth c T h n0 kc ks) {a : Addr} {j n v : Int32} {xs : List Int32} (V : own_Ia Z h a .byte n xs) (hj : ¬ j < 0 ∧ j < n) (hv : xs.getD j.toNatClampNeg 0 = v) (hd : decode bytes pc = .ok (.baload, 1)) (hq : pc + 1 = q) (k : own_Go p.tables e below (T.setTop (mkF m q Ls (.int v :: st))) Q) :
    own_Go p.tables e below (T.setTop (mkF m pc Ls (.int j :: .ref a :: st))) Q := by
  obtain ⟨locs, cells, slots, X, eT, N, hc', hs', hn⟩ := A
  obtain ⟨kk, ⟨cl, Ar, q1, S, q3, H, G⟩, hlen⟩ := V
  have hin := inb_of S hj
  subst hq hv
  exact own_go (fun t => X.baloadBytes C.1 (by rw [eT]; exact Ar.1) (State.isArrayOf_alike C.2.2.2.2.1.alike Ar.2.1) Ar.2.2 hin (H.at hin (own_getD_map xs _)) (g := mkF m pc Ls (.int j :: .ref a :: st)) rfl rfl (hb C.2.1 hd) t) k
theorem own_caload (C : own_Cx Z a0 p l e R s m args below meth c own nm bytes mx ret) (A : own_At p l e R s m args below meth c T h n0 kc ks) {a : Addr} {j n v : Int32} {xs : List Int32} (V : own_Ia Z h a .char n xs) (hj : ¬ j < 0 ∧ j < n) (hv : xs.getD j.toNatClampNeg 0 = v) (hd : decode bytes pc = .ok (.caload, 1)) (hq : pc + 1 = q) (k : own_Go p.tables e below (T.setTop (mkF m q Ls (.int v :: st))) Q) :
    own_Go p.tables e below (T.setTop (mkF m pc Ls (.int j :: .ref a :: st))) Q := by
  obtain ⟨locs, cells, slots, X, eT, N, hc', hs', hn⟩ := A
  obtain ⟨kk, ⟨cl, Ar, q1, S, q3, H, G⟩, hlen⟩ := V
  have hin := inb_of S hj
  subst hq hv
  exact own_go (fun t => X.caload C.1 (by rw [eT]; exact Ar.1) (State.isArrayOf_alike C.2.2.2.2.1.alike Ar.2.1) Ar.2.2 hin (H.at hin (own_getD_map xs _)) (g := mkF m pc Ls (.int j :: .ref a :: st)) rfl rfl (hb C.2.1 hd) t) k
theorem own_alen (C : own_Cx Z a0 p l e R s m args below meth c own nm bytes mx ret) (A : own_At p l e R s m args below meth c T h n0 kc ks) {a : Addr} {n : Int32} {ty : FieldType} {xs : List Int32} (V : own_Ia Z h a ty n xs) (hd : decode bytes pc = .ok (.arraylength, 1)) (hq : pc + 1 = q) (k : own_Go p.tables e below (T.setTop (mkF m q Ls (.int n :: st))) Q) :
    own_Go p.tables e below (T.setTop (mkF m pc Ls (.ref a :: st))) Q := by
  obtain ⟨locs, cells, slots, X, eT, N, hc', hs', hn⟩ := A
  obtain ⟨kk, ⟨cl, Ar, q1, S, q3, H, G⟩, hlen⟩ := V
  subst hq
  rw [← len_of S q3] at k
  exact own_go (fun t => X.arraylength C.1 (by rw [eT]; exact Ar.1) (State.isArrayOf_alike C.2.2.2.2.1.alike Ar.2.1) (g := mkF m pc Ls (.ref a :: st)) rfl rfl (hb C.2.1 hd) t) k
end OwnKit
theorem own_pd0 : parseMethodDescriptor "([BII)V" = some ⟨[(.array .byte), .int, .int], none⟩ := by decide +kernel
theorem own_pd1 : parseMethodDescriptor "([BIIJ)Z" = some ⟨[(.array .byte), .int, .int, .long], some .boolean⟩ := by decide +kernel
theorem own_off (o : Int32) : ¬ ((o &&& (2147483647 : Int32)) % (5 : Int32)) < 0 ∧ ((o &&& (2147483647 : Int32)) % (5 : Int32)) < 5 := by
  have h1 := c_mask o 2147483647 31 (by decide) (by decide)
  have h2 := (c_irem (o &&& 2147483647) 5 5 rfl).1 (by omega)
  have l0 : (0 : Int32).toInt = 0 := rfl
  have l5 : (5 : Int32).toInt = 5 := rfl
  rw [Int32.lt_iff_toInt_lt, Int32.lt_iff_toInt_lt, h2, l0, l5]
  omega
theorem own_ink {v k : Int32} (K : Int) (hk : k.toInt = K) (h0 : 0 ≤ K) (h1 : K ≤ 3) (h : ¬ v < 0 ∧ v < 5) : ¬ (v + k) < 0 ∧ (v + k) < 8 := by
  have l0 : (0 : Int32).toInt = 0 := rfl
  have l5 : (5 : Int32).toInt = 5 := rfl
  have l8 : (8 : Int32).toInt = 8 := rfl
  have c1 := c_iadd v k
  have r1 := rng32 (v + k)
  simp only [Int32.lt_iff_toInt_lt, l0, l5, l8] at h ⊢
  rw [hk] at c1
  omega
theorem own_in0 {v : Int32} (h : ¬ v < 0 ∧ v < 5) : ¬ v < 0 ∧ v < 8 := by
  have l0 : (0 : Int32).toInt = 0 := rfl
  have l5 : (5 : Int32).toInt = 5 := rfl
  have l8 : (8 : Int32).toInt = 8 := rfl
  simp only [Int32.lt_iff_toInt_lt, l0, l5, l8] at h ⊢
  omega
theorem own_in1 {v : Int32} (h : ¬ v < 0 ∧ v < 5) : ¬ (v + (1 : Int32)) < 0 ∧ (v + (1 : Int32)) < 8 := own_ink 1 rfl (by omega) (by omega) h
theorem own_in2 {v : Int32} (h : ¬ v < 0 ∧ v < 5) : ¬ (v + (2 : Int32)) < 0 ∧ (v + (2 : Int32)) < 8 := own_ink 2 rfl (by omega) (by omega) h
theorem own_in3 {v : Int32} (h : ¬ v < 0 ∧ v < 5) : ¬ (v + (3 : Int32)) < 0 ∧ (v + (3 : Int32)) < 8 := own_ink 3 rfl (by omega) (by omega) h
theorem own_five {v : Int32} (h : ¬ v < 0 ∧ v < 5) : v = 0 ∨ v = 1 ∨ v = 2 ∨ v = 3 ∨ v = 4 := by
  have l0 : (0 : Int32).toInt = 0 := rfl
  have l1 : (1 : Int32).toInt = 1 := rfl
  have l2 : (2 : Int32).toInt = 2 := rfl
  have l3 : (3 : Int32).toInt = 3 := rfl
  have l4 : (4 : Int32).toInt = 4 := rfl
  have l5 : (5 : Int32).toInt = 5 := rfl
  simp only [Int32.lt_iff_toInt_lt, ← Int32.toInt_inj, l0, l1, l2, l3, l4, l5] at h ⊢
  omega
theorem own_byte (y : Int32) : ((y.toInt8.toInt32).toInt8.toInt32 &&& 255).toInt = y.toInt % 256 := by
  have h1 := c_mask ((y.toInt8.toInt32).toInt8.toInt32) 255 8 (by decide) (by decide)
  have h2 := c_i2b y
  have h3 := c_i2b (y.toInt8.toInt32)
  rw [h1]
  omega
/-! Fields.putInt -/
theorem own_d1_0 : decode prog_30_method_11_code 0 = .ok (.aload_n 0, 1) := by decide +kernel
theorem own_d1_1 : decode prog_30_method_11_code 1 = .ok (.iload_n 1, 1) := by decide +kernel
theorem own_d1_2 : decode prog_30_method_11_code 2 = .ok (.iload_n 2, 1) := by decide +kernel
theorem own_d1_3 : decode prog_30_method_11_code 3 = .ok (.bipush 24, 2) := by decide +kernel
theorem own_d1_5 : decode prog_30_method_11_code 5 = .ok (.iushr, 1) := by decide +kernel
theorem own_d1_6 : decode prog_30_method_11_code 6 = .ok (.i2b, 1) := by decide +kernel
theorem own_d1_7 : decode prog_30_method_11_code 7 = .ok (.bastore, 1) := by decide +kernel
theorem own_d1_8 : decode prog_30_method_11_code 8 = .ok (.aload_n 0, 1) := by decide +kernel
theorem own_d1_9 : decode prog_30_method_11_code 9 = .ok (.iload_n 1, 1) := by decide +kernel
theorem own_d1_10 : decode prog_30_method_11_code 10 = .ok (.iconst 1, 1) := by decide +kernel
theorem own_d1_11 : decode prog_30_method_11_code 11 = .ok (.iadd, 1) := by decide +kernel
theorem own_d1_12 : decode prog_30_method_11_code 12 = .ok (.iload_n 2, 1) := by decide +kernel
theorem own_d1_13 : decode prog_30_method_11_code 13 = .ok (.bipush 16, 2) := by decide +kernel
theorem own_d1_15 : decode prog_30_method_11_code 15 = .ok (.iushr, 1) := by decide +kernel
theorem own_d1_16 : decode prog_30_method_11_code 16 = .ok (.i2b, 1) := by decide +kernel
theorem own_d1_17 : decode prog_30_method_11_code 17 = .ok (.bastore, 1) := by decide +kernel
theorem own_d1_18 : decode prog_30_method_11_code 18 = .ok (.aload_n 0, 1) := by decide +kernel
theorem own_d1_19 : decode prog_30_method_11_code 19 = .ok (.iload_n 1, 1) := by decide +kernel
theorem own_d1_20 : decode prog_30_method_11_code 20 = .ok (.iconst 2, 1) := by decide +kernel
theorem own_d1_21 : decode prog_30_method_11_code 21 = .ok (.iadd, 1) := by decide +kernel
theorem own_d1_22 : decode prog_30_method_11_code 22 = .ok (.iload_n 2, 1) := by decide +kernel
theorem own_d1_23 : decode prog_30_method_11_code 23 = .ok (.bipush 8, 2) := by decide +kernel
theorem own_d1_25 : decode prog_30_method_11_code 25 = .ok (.iushr, 1) := by decide +kernel
theorem own_d1_26 : decode prog_30_method_11_code 26 = .ok (.i2b, 1) := by decide +kernel
theorem own_d1_27 : decode prog_30_method_11_code 27 = .ok (.bastore, 1) := by decide +kernel
theorem own_d1_28 : decode prog_30_method_11_code 28 = .ok (.aload_n 0, 1) := by decide +kernel
theorem own_d1_29 : decode prog_30_method_11_code 29 = .ok (.iload_n 1, 1) := by decide +kernel
theorem own_d1_30 : decode prog_30_method_11_code 30 = .ok (.iconst 3, 1) := by decide +kernel
theorem own_d1_31 : decode prog_30_method_11_code 31 = .ok (.iadd, 1) := by decide +kernel
theorem own_d1_32 : decode prog_30_method_11_code 32 = .ok (.iload_n 2, 1) := by decide +kernel
theorem own_d1_33 : decode prog_30_method_11_code 33 = .ok (.i2b, 1) := by decide +kernel
theorem own_d1_34 : decode prog_30_method_11_code 34 = .ok (.bastore, 1) := by decide +kernel
theorem own_d1_35 : decode prog_30_method_11_code 35 = .ok (.return_, 1) := by decide +kernel
def own_R1 : Room := { frames := 0, cells := 0, slots := 0, locals := 0 }
def own_P1 (Z : State) (h : Heap) (v0 : Addr) (r : List Int32) (v : Option Value) (h' : Heap) : Prop := v = none ∧ Keep h h' [v0] ∧ own_Ia Z h' v0 .byte (8 : Int32) r
def f1_0 (v1 : Int32) (v2 : Int32) (xs_v0 : List Int32) : List Int32 := (((((xs_v0.set (v1).toNatClampNeg ((((v2.toUInt32 >>> ((24 : Int32) &&& 31).toUInt32).toInt32).toInt8.toInt32).toInt8.toInt32)).set ((v1 + (1 : Int32))).toNatClampNeg ((((v2.toUInt32 >>> ((16 : Int32) &&& 31).toUInt32).toInt32).toInt8.toInt32).toInt8.toInt32)).set ((v1 + (2 : Int32))).toNatClampNeg ((((v2.toUInt32 >>> ((8 : Int32) &&& 31).toUInt32).toInt32).toInt8.toInt32).toInt8.toInt32)).set ((v1 + (3 : Int32))).toNatClampNeg ((v2.toInt8.toInt32).toInt8.toInt32)))
set_option maxRecDepth 65536 in
set_option maxHeartbeats 4000000 in
theorem w1_0 {Z : State} {a0 : Array Value} {p : Program} {l : Launch} {e : Env} {s : State} {m : MethodId} {args : Array Value} {below : List Frame} {meth : Method} {c : Code} {T : State} {h : Heap} {n0 : Nat} {hE : Heap} {v0 : Addr} (C : own_Cx Z a0 p l e own_R1 s m args below meth c "com/example/baler/baler/io/Fields" "putInt" prog_30_method_11_code 3 none) (A : own_At p l e own_R1 s m args below meth c T h n0 0 0) (v1 : Int32) (v2 : Int32) (xs_v0 : List Int32) (V_v0 : own_Ia Z h v0 .byte (8 : Int32) xs_v0) (g_v0 : n0 ≤ v0) (K : Keep hE h [v0]) (hv1 : ¬ v1 < 0 ∧ v1 < 5) :
    own_Go p.tables e below (T.setTop (mkF m 0 #[.val (.ref v0), .val (.int v1), .val (.int v2)] [])) (own_QR s n0 0 0 (own_P1 Z hE v0 (f1_0 v1 v2 xs_v0))) := by
  unfold f1_0
  refine own_aloadN C A own_d1_0 rfl rfl rfl ?_
  refine own_iloadN C A own_d1_1 rfl rfl ?_
  refine own_iloadN C A own_d1_2 rfl rfl ?_
  refine own_bipush C A own_d1_3 (v := 24) rfl rfl ?_
  refine own_iushr C A own_d1_5 rfl ?_
  refine own_i2b C A own_d1_6 rfl ?_
  refine own_bastore C A V_v0 (own_in0 hv1) (ys := (xs_v0.set (v1).toNatClampNeg ((((v2.toUInt32 >>> ((24 : Int32) &&& 31).toUInt32).toInt32).toInt8.toInt32).toInt8.toInt32))) rfl g_v0 own_d1_7 rfl (fun T h Kw V_v0 A => ?_)
  have K := K.trans Kw (allS (Or.inl (List.mem_of_getElem? (i := 0) rfl)) all0)
  refine own_aloadN C A own_d1_8 rfl rfl rfl ?_
  refine own_iloadN C A own_d1_9 rfl rfl ?_
  refine own_iconst C A own_d1_10 (v := 1) rfl rfl ?_
  refine own_iadd C A own_d1_11 rfl ?_
  refine own_iloadN C A own_d1_12 rfl rfl ?_
  refine own_bipush C A own_d1_13 (v := 16) rfl rfl ?_
  refine own_iushr C A own_d1_15 rfl ?_
  refine own_i2b C A own_d1_16 rfl ?_
  refine own_bastore C A V_v0 (own_in1 hv1) (ys := ((xs_v0.set (v1).toNatClampNeg ((((v2.toUInt32 >>> ((24 : Int32) &&& 31).toUInt32).toInt32).toInt8.toInt32).toInt8.toInt32)).set ((v1 + (1 : Int32))).toNatClampNeg ((((v2.toUInt32 >>> ((16 : Int32) &&& 31).toUInt32).toInt32).toInt8.toInt32).toInt8.toInt32))) rfl g_v0 own_d1_17 rfl (fun T h Kw V_v0 A => ?_)
  have K := K.trans Kw (allS (Or.inl (List.mem_of_getElem? (i := 0) rfl)) all0)
  refine own_aloadN C A own_d1_18 rfl rfl rfl ?_
  refine own_iloadN C A own_d1_19 rfl rfl ?_
  refine own_iconst C A own_d1_20 (v := 2) rfl rfl ?_
  refine own_iadd C A own_d1_21 rfl ?_
  refine own_iloadN C A own_d1_22 rfl rfl ?_
  refine own_bipush C A own_d1_23 (v := 8) rfl rfl ?_
  refine own_iushr C A own_d1_25 rfl ?_
  refine own_i2b C A own_d1_26 rfl ?_
  refine own_bastore C A V_v0 (own_in2 hv1) (ys := (((xs_v0.set (v1).toNatClampNeg ((((v2.toUInt32 >>> ((24 : Int32) &&& 31).toUInt32).toInt32).toInt8.toInt32).toInt8.toInt32)).set ((v1 + (1 : Int32))).toNatClampNeg ((((v2.toUInt32 >>> ((16 : Int32) &&& 31).toUInt32).toInt32).toInt8.toInt32).toInt8.toInt32)).set ((v1 + (2 : Int32))).toNatClampNeg ((((v2.toUInt32 >>> ((8 : Int32) &&& 31).toUInt32).toInt32).toInt8.toInt32).toInt8.toInt32))) rfl g_v0 own_d1_27 rfl (fun T h Kw V_v0 A => ?_)
  have K := K.trans Kw (allS (Or.inl (List.mem_of_getElem? (i := 0) rfl)) all0)
  refine own_aloadN C A own_d1_28 rfl rfl rfl ?_
  refine own_iloadN C A own_d1_29 rfl rfl ?_
  refine own_iconst C A own_d1_30 (v := 3) rfl rfl ?_
  refine own_iadd C A own_d1_31 rfl ?_
  refine own_iloadN C A own_d1_32 rfl rfl ?_
  refine own_i2b C A own_d1_33 rfl ?_
  refine own_bastore C A V_v0 (own_in3 hv1) (ys := ((((xs_v0.set (v1).toNatClampNeg ((((v2.toUInt32 >>> ((24 : Int32) &&& 31).toUInt32).toInt32).toInt8.toInt32).toInt8.toInt32)).set ((v1 + (1 : Int32))).toNatClampNeg ((((v2.toUInt32 >>> ((16 : Int32) &&& 31).toUInt32).toInt32).toInt8.toInt32).toInt8.toInt32)).set ((v1 + (2 : Int32))).toNatClampNeg ((((v2.toUInt32 >>> ((8 : Int32) &&& 31).toUInt32).toInt32).toInt8.toInt32).toInt8.toInt32)).set ((v1 + (3 : Int32))).toNatClampNeg ((v2.toInt8.toInt32).toInt8.toInt32))) rfl g_v0 own_d1_34 rfl (fun T h Kw V_v0 A => ?_)
  have K := K.trans Kw (allS (Or.inl (List.mem_of_getElem? (i := 0) rfl)) all0)
  exact own_ret0 C A own_d1_35 ⟨rfl, K, V_v0⟩
theorem own_ef1 (m : MethodId) (v0 : Addr) (v1 : Int32) (v2 : Int32) : entryFrame m #[(.ref v0), (.int v1), (.int v2)] 3 = mkF m 0 #[.val (.ref v0), .val (.int v1), .val (.int v2)] [] := by first | (simp [entryFrame, mkF, argsToLocals, Value.category]; done) | rfl
theorem rm1 (l : Launch) (Z : State) (a0 : Array Value) (hw : ∀ d ∈ tables_1, d.before a0 Z = true) (ws : List Jvm.Cond) (v0 : Addr) (v1 : Int32) (v2 : Int32) (xs_v0 : List Int32) (h : Heap) (n0 : Nat) (hn : n0 ≤ h.size) (V_v0 : own_Ia Z h v0 .byte (8 : Int32) xs_v0) (g_v0 : n0 ≤ v0) (hv1 : ¬ v1 < 0 ∧ v1 < 5) :
    MetFree l (⟨"com/example/baler/baler/io/Fields", "putInt", "([BII)V"⟩ : MethodName) (head1 (Jvm.Cond.code (⟨"com/example/baler/baler/io/Fields", "putInt", "([BII)V"⟩ : MethodName) prog_30_method_11_code 3 none :: ws) own_R1) (fun a U => a = #[(.ref v0), (.int v1), (.int v2)] ∧ Z.Warmed39 U.vm ∧ U.heap = h) (fun _ _ _ _ _ => True) (fun _ U o U' => own_QR U n0 0 0 (own_P1 Z h v0 (f1_0 v1 v2 xs_v0)) o U') :=
  own_met (plainFor_of_name (by first | (simp [plainName, overriddenIn]; done) | decide +kernel)) hw hn (fun m => own_ef1 m v0 v1 v2) (fun p e s m below meth c T C A => w1_0 C A v1 v2 xs_v0 V_v0 g_v0 (Keep.refl h _) hv1)
/-! FieldsPutIntPinLaw.keep -/
theorem own_d2_0 : decode method_3_code 0 = .ok (.iload_n 1, 1) := by decide +kernel
theorem own_d2_1 : decode method_3_code 1 = .ok (.iload_n 2, 1) := by decide +kernel
theorem own_d2_2 : decode method_3_code 2 = .ok (.if_icmp .lt 10, 3) := by decide +kernel
theorem own_d2_5 : decode method_3_code 5 = .ok (.iload_n 1, 1) := by decide +kernel
theorem own_d2_6 : decode method_3_code 6 = .ok (.iload_n 2, 1) := by decide +kernel
theorem own_d2_7 : decode method_3_code 7 = .ok (.iconst 4, 1) := by decide +kernel
theorem own_d2_8 : decode method_3_code 8 = .ok (.iadd, 1) := by decide +kernel
theorem own_d2_9 : decode method_3_code 9 = .ok (.if_icmp .lt 17, 3) := by decide +kernel
theorem own_d2_12 : decode method_3_code 12 = .ok (.aload_n 0, 1) := by decide +kernel
theorem own_d2_13 : decode method_3_code 13 = .ok (.iload_n 1, 1) := by decide +kernel
theorem own_d2_14 : decode method_3_code 14 = .ok (.baload, 1) := by decide +kernel
theorem own_d2_15 : decode method_3_code 15 = .ok (.lload_n 3, 1) := by decide +kernel
theorem own_d2_16 : decode method_3_code 16 = .ok (.bipush 8, 2) := by decide +kernel
theorem own_d2_18 : decode method_3_code 18 = .ok (.iload_n 1, 1) := by decide +kernel
theorem own_d2_19 : decode method_3_code 19 = .ok (.imul, 1) := by decide +kernel
theorem own_d2_20 : decode method_3_code 20 = .ok (.lushr, 1) := by decide +kernel
theorem own_d2_21 : decode method_3_code 21 = .ok (.l2i, 1) := by decide +kernel
theorem own_d2_22 : decode method_3_code 22 = .ok (.i2b, 1) := by decide +kernel
theorem own_d2_23 : decode method_3_code 23 = .ok (.if_icmp .ne 7, 3) := by decide +kernel
theorem own_d2_26 : decode method_3_code 26 = .ok (.iconst 1, 1) := by decide +kernel
theorem own_d2_27 : decode method_3_code 27 = .ok (.goto 4, 3) := by decide +kernel
theorem own_d2_30 : decode method_3_code 30 = .ok (.iconst 0, 1) := by decide +kernel
theorem own_d2_31 : decode method_3_code 31 = .ok (.ireturn, 1) := by decide +kernel
def own_R2 : Room := { frames := 0, cells := 0, slots := 0, locals := 0 }
def f2_26  : Int32 := (1 : Int32)
set_option maxRecDepth 65536 in
set_option maxHeartbeats 4000000 in
theorem w2_26 {Z : State} {a0 : Array Value} {p : Program} {l : Launch} {e : Env} {s : State} {m : MethodId} {args : Array Value} {below : List Frame} {meth : Method} {c : Code} {T : State} {h : Heap} {n0 : Nat} {v0 : Addr} {u1 : Int32} {u2 : Int32} {u3 : Int64} (C : own_Cx Z a0 p l e own_R2 s m args below meth c "com/example/baler/baler/io/FieldsPutIntPinLaw" "keep" method_3_code 5 (some .boolean)) (A : own_At p l e own_R2 s m args below meth c T h n0 0 0) :
    own_Go p.tables e below (T.setTop (mkF m 26 #[.val (.ref v0), .val (.int u1), .val (.int u2), .val (.long u3), .second] [])) (own_QR s n0 0 0 (own_RI h (f2_26))) := by
  unfold f2_26
  refine own_iconst C A own_d2_26 (v := 1) rfl rfl ?_
  refine own_goto C A own_d2_27 (by decide) (q := 31) (by decide) ?_
  exact own_retN C A (t := .boolean) (by simp) own_d2_31 ⟨rfl, rfl⟩
def f2_12 (v1 : Int32) (v3 : Int64) (xs_v0 : List Int32) : Int32 := (if (xs_v0.getD (v1).toNatClampNeg 0) = ((((v3.toUInt64 >>> (((8 : Int32) * v1) &&& 0x3f).toInt64.toUInt64).toInt64).toInt32).toInt8.toInt32) then (f2_26) else (0 : Int32))
set_option maxRecDepth 65536 in
set_option maxHeartbeats 4000000 in
theorem w2_12 {Z : State} {a0 : Array Value} {p : Program} {l : Launch} {e : Env} {s : State} {m : MethodId} {args : Array Value} {below : List Frame} {meth : Method} {c : Code} {T : State} {h : Heap} {n0 : Nat} {v0 : Addr} {u2 : Int32} (C : own_Cx Z a0 p l e own_R2 s m args below meth c "com/example/baler/baler/io/FieldsPutIntPinLaw" "keep" method_3_code 5 (some .boolean)) (A : own_At p l e own_R2 s m args below meth c T h n0 0 0) (v1 : Int32) (v3 : Int64) (xs_v0 : List Int32) (V_v0 : own_Ia Z h v0 .byte (8 : Int32) xs_v0) (hv1 : ¬ v1 < 0 ∧ v1 < 8) :
    own_Go p.tables e below (T.setTop (mkF m 12 #[.val (.ref v0), .val (.int v1), .val (.int u2), .val (.long v3), .second] [])) (own_QR s n0 0 0 (own_RI h (f2_12 v1 v3 xs_v0))) := by
  unfold f2_12
  refine own_aloadN C A own_d2_12 rfl rfl rfl ?_
  refine own_iloadN C A own_d2_13 rfl rfl ?_
  refine own_baload C A V_v0 hv1 (v := (xs_v0.getD (v1).toNatClampNeg 0)) rfl own_d2_14 rfl ?_
  refine own_lloadN C A own_d2_15 rfl rfl ?_
  refine own_bipush C A own_d2_16 (v := 8) rfl rfl ?_
  refine own_iloadN C A own_d2_18 rfl rfl ?_
  refine own_imul C A own_d2_19 rfl ?_
  refine own_lushr C A own_d2_20 rfl ?_
  refine own_l2i C A own_d2_21 rfl ?_
  refine own_i2b C A own_d2_22 rfl ?_
  refine own_ite (fun hc23 => ?_) (fun hc23 => ?_)
  · refine own_icmpN C A own_d2_23 (Jvm.Free.XT.ii_ne_f hc23) rfl ?_
    exact w2_26 C A
  · refine own_icmpY C A own_d2_23 (Jvm.Free.XT.ii_ne_t hc23) (by decide) (q := 30) (by decide) ?_
    refine own_iconst C A own_d2_30 (v := 0) rfl rfl ?_
    exact own_retN C A (t := .boolean) (by simp) own_d2_31 ⟨rfl, rfl⟩
def f2_0 (v1 : Int32) (v2 : Int32) (v3 : Int64) (xs_v0 : List Int32) : Int32 := (if v1 < v2 then (f2_12 v1 v3 xs_v0) else (if v1 < (v2 + (4 : Int32)) then (f2_26) else (f2_12 v1 v3 xs_v0)))
set_option maxRecDepth 65536 in
set_option maxHeartbeats 4000000 in
theorem w2_0 {Z : State} {a0 : Array Value} {p : Program} {l : Launch} {e : Env} {s : State} {m : MethodId} {args : Array Value} {below : List Frame} {meth : Method} {c : Code} {T : State} {h : Heap} {n0 : Nat} {v0 : Addr} (C : own_Cx Z a0 p l e own_R2 s m args below meth c "com/example/baler/baler/io/FieldsPutIntPinLaw" "keep" method_3_code 5 (some .boolean)) (A : own_At p l e own_R2 s m args below meth c T h n0 0 0) (v1 : Int32) (v2 : Int32) (v3 : Int64) (xs_v0 : List Int32) (V_v0 : own_Ia Z h v0 .byte (8 : Int32) xs_v0) (hv1 : ¬ v1 < 0 ∧ v1 < 8) :
    own_Go p.tables e below (T.setTop (mkF m 0 #[.val (.ref v0), .val (.int v1), .val (.int v2), .val (.long v3), .second] [])) (own_QR s n0 0 0 (own_RI h (f2_0 v1 v2 v3 xs_v0))) := by
  unfold f2_0
  refine own_iloadN C A own_d2_0 rfl rfl ?_
  refine own_iloadN C A own_d2_1 rfl rfl ?_
  refine own_ite (fun hc2 => ?_) (fun hc2 => ?_)
  · refine own_icmpY C A own_d2_2 (Jvm.Free.XT.ii_lt_t hc2) (by decide) (q := 12) (by decide) ?_
    exact w2_12 C A v1 v3 xs_v0 V_v0 hv1
  · refine own_icmpN C A own_d2_2 (Jvm.Free.XT.ii_lt_f hc2) rfl ?_
    refine own_iloadN C A own_d2_5 rfl rfl ?_
    refine own_iloadN C A own_d2_6 rfl rfl ?_
    refine own_iconst C A own_d2_7 (v := 4) rfl rfl ?_
    refine own_iadd C A own_d2_8 rfl ?_
    refine own_ite (fun hc9 => ?_) (fun hc9 => ?_)
    · refine own_icmpY C A own_d2_9 (Jvm.Free.XT.ii_lt_t hc9) (by decide) (q := 26) (by decide) ?_
      exact w2_26 C A
    · refine own_icmpN C A own_d2_9 (Jvm.Free.XT.ii_lt_f hc9) rfl ?_
      exact w2_12 C A v1 v3 xs_v0 V_v0 hv1
theorem own_ef2 (m : MethodId) (v0 : Addr) (v1 : Int32) (v2 : Int32) (v3 : Int64) : entryFrame m #[(.ref v0), (.int v1), (.int v2), (.long v3)] 5 = mkF m 0 #[.val (.ref v0), .val (.int v1), .val (.int v2), .val (.long v3), .second] [] := by first | (simp [entryFrame, mkF, argsToLocals, Value.category]; done) | rfl
theorem rm2 (l : Launch) (Z : State) (a0 : Array Value) (hw : ∀ d ∈ tables_1, d.before a0 Z = true) (ws : List Jvm.Cond) (v0 : Addr) (v1 : Int32) (v2 : Int32) (v3 : Int64) (xs_v0 : List Int32) (h : Heap) (n0 : Nat) (hn : n0 ≤ h.size) (V_v0 : own_Ia Z h v0 .byte (8 : Int32) xs_v0) (hv1 : ¬ v1 < 0 ∧ v1 < 8) :
    MetFree l (⟨"com/example/baler/baler/io/FieldsPutIntPinLaw", "keep", "([BIIJ)Z"⟩ : MethodName) (head1 (Jvm.Cond.code (⟨"com/example/baler/baler/io/FieldsPutIntPinLaw", "keep", "([BIIJ)Z"⟩ : MethodName) method_3_code 5 (some .boolean) :: ws) own_R2) (fun a U => a = #[(.ref v0), (.int v1), (.int v2), (.long v3)] ∧ Z.Warmed39 U.vm ∧ U.heap = h) (fun _ _ _ _ _ => True) (fun _ U o U' => own_QR U n0 0 0 (own_RI h (f2_0 v1 v2 v3 xs_v0)) o U') :=
  own_met (plainFor_of_name (by first | (simp [plainName, overriddenIn]; done) | decide +kernel)) hw hn (fun m => own_ef2 m v0 v1 v2 v3) (fun p e s m below meth c T C A => w2_0 C A v1 v2 v3 xs_v0 V_v0 hv1)

/-! FieldsPutIntPinLaw.law -/
def f0_369 (v8 : Int32) : Int32 := (nar .boolean v8)
set_option maxRecDepth 65536 in
set_option maxHeartbeats 4000000 in
theorem w0_369 {Z : State} {a0 : Array Value} {p : Program} {l : Launch} {e : Env} {s : State} {m : MethodId} {args : Array Value} {below : List Frame} {meth : Method} {c : Code} {T : State} {h : Heap} {n0 : Nat} {u0 : Int32} {u1 : Int32} {u2 : Int64} {u4 : Int32} {v5 : Addr} {u6 : Int64} (C : own_Cx Z a0 p l e room_1 s m args below meth c "com/example/baler/baler/io/FieldsPutIntPinLaw" "law" code maxLocals ret) (A : own_At p l e room_1 s m args below meth c T h n0 1 8) (v8 : Int32) :
    own_Go p.tables e below (T.setTop (mkF m 369 #[.val (.int u0), .val (.int u1), .val (.long u2), .second, .val (.int u4), .val (.ref v5), .val (.long u6), .second, .val (.int v8)] [])) (own_QR s n0 1 8 (own_RV (f0_369 v8))) := by
  unfold f0_369
  refine own_iload C A at_369 rfl rfl ?_
  exact own_retN C A (t := .boolean) (by simp) at_371 rfl
def f0_367 (s0 : Int32) : Int32 := (f0_369 s0)
set_option maxRecDepth 65536 in
set_option maxHeartbeats 4000000 in
theorem w0_367 {Z : State} {a0 : Array Value} {p : Program} {l : Launch} {e : Env} {s : State} {m : MethodId} {args : Array Value} {below : List Frame} {meth : Method} {c : Code} {T : State} {h : Heap} {n0 : Nat} {u0 : Int32} {u1 : Int32} {u2 : Int64} {u4 : Int32} {v5 : Addr} {u6 : Int64} {u8 : Int32} (C : own_Cx Z a0 p l e room_1 s m args below meth c "com/example/baler/baler/io/FieldsPutIntPinLaw" "law" code maxLocals ret) (A : own_At p l e room_1 s m args below meth c T h n0 1 8) (s0 : Int32) :
    own_Go p.tables e below (T.setTop (mkF m 367 #[.val (.int u0), .val (.int u1), .val (.long u2), .second, .val (.int u4), .val (.ref v5), .val (.long u6), .second, .val (.int u8)] [(.int s0)])) (own_QR s n0 1 8 (own_RV (f0_367 s0))) := by
  unfold f0_367
  refine own_istore C A at_367 (l' := #[.val (.int u0), .val (.int u1), .val (.long u2), .second, .val (.int u4), .val (.ref v5), .val (.long u6), .second, .val (.int s0)]) rfl rfl ?_
  exact w0_369 C A s0
def f0_366  : Int32 := (f0_367 (0 : Int32))
set_option maxRecDepth 65536 in
set_option maxHeartbeats 4000000 in
theorem w0_366 {Z : State} {a0 : Array Value} {p : Program} {l : Launch} {e : Env} {s : State} {m : MethodId} {args : Array Value} {below : List Frame} {meth : Method} {c : Code} {T : State} {h : Heap} {n0 : Nat} {u0 : Int32} {u1 : Int32} {u2 : Int64} {u4 : Int32} {v5 : Addr} {u6 : Int64} {u8 : Int32} (C : own_Cx Z a0 p l e room_1 s m args below meth c "com/example/baler/baler/io/FieldsPutIntPinLaw" "law" code maxLocals ret) (A : own_At p l e room_1 s m args below meth c T h n0 1 8) :
    own_Go p.tables e below (T.setTop (mkF m 366 #[.val (.int u0), .val (.int u1), .val (.long u2), .second, .val (.int u4), .val (.ref v5), .val (.long u6), .second, .val (.int u8)] [])) (own_QR s n0 1 8 (own_RV (f0_366))) := by
  unfold f0_366
  refine own_iconst C A at_366 (v := 0) rfl rfl ?_
  exact w0_367 C A (0 : Int32)
def f0_344 (v2 : Int64) (v4 : Int32) (v8 : Int32) (xs_v5 : List Int32) : Int32 := (if v8 = (0 : Int32) then (f0_366) else (if (f2_0 (7 : Int32) v4 v2 xs_v5) = (0 : Int32) then (f0_366) else (f0_367 (1 : Int32))))
set_option maxRecDepth 65536 in
set_option maxHeartbeats 4000000 in
theorem w0_344 {Z : State} {a0 : Array Value} {p : Program} {l : Launch} {e : Env} {s : State} {m : MethodId} {args : Array Value} {below : List Frame} {meth : Method} {c : Code} {T : State} {h : Heap} {n0 : Nat} {u0 : Int32} {u1 : Int32} {v5 : Addr} {u6 : Int64} (C : own_Cx Z a0 p l e room_1 s m args below meth c "com/example/baler/baler/io/FieldsPutIntPinLaw" "law" code maxLocals ret) (A : own_At p l e room_1 s m args below meth c T h n0 1 8) (v2 : Int64) (v4 : Int32) (v8 : Int32) (xs_v5 : List Int32) (V_v5 : own_Ia Z h v5 .byte (8 : Int32) xs_v5) (g_v5 : n0 ≤ v5) :
    own_Go p.tables e below (T.setTop (mkF m 344 #[.val (.int u0), .val (.int u1), .val (.long v2), .second, .val (.int v4), .val (.ref v5), .val (.long u6), .second, .val (.int v8)] [])) (own_QR s n0 1 8 (own_RV (f0_344 v2 v4 v8 xs_v5))) := by
  unfold f0_344
  refine own_iload C A at_344 rfl rfl ?_
  refine own_ite (fun hc346 => ?_) (fun hc346 => ?_)
  · refine own_ifY C A at_346 (Jvm.Free.XT.i0_eq_t hc346) (by decide) (q := 366) (by decide) ?_
    exact w0_366 C A
  · refine own_ifN C A at_346 (Jvm.Free.XT.i0_eq_f hc346) rfl ?_
    refine own_aload C A at_349 rfl rfl rfl ?_
    refine own_bipush C A at_351 (v := 7) rfl rfl ?_
    refine own_iload C A at_353 rfl rfl ?_
    refine own_lloadN C A at_355 rfl rfl ?_
    refine own_callSI C A 0 [(.ref v5), (.int (7 : Int32)), (.int v4), (.long v2)] [] (own_w C 9 rfl) (own_w C 10 rfl) (own_w C 11 rfl) (own_w C 12 rfl) (by decide) (rm2 l Z a0 C.2.2.2.2.2.2.2.2 [] v5 (7 : Int32) v4 v2 xs_v5 _ _ (own_size A) V_v5 ⟨by decide, by decide⟩) rfl rfl (by decide) (by decide) (by decide) (by decide) own_pd1 rfl rfl rfl (Nat.le_of_eq rfl) rfl at_356 rfl (fun T A => ?_)
    refine own_ite (fun hc359 => ?_) (fun hc359 => ?_)
    · refine own_ifY C A at_359 (Jvm.Free.XT.i0_eq_t hc359) (by decide) (q := 366) (by decide) ?_
      exact w0_366 C A
    · refine own_ifN C A at_359 (Jvm.Free.XT.i0_eq_f hc359) rfl ?_
      refine own_iconst C A at_362 (v := 1) rfl rfl ?_
      refine own_goto C A at_363 (by decide) (q := 367) (by decide) ?_
      exact w0_367 C A (1 : Int32)
def f0_342 (v2 : Int64) (v4 : Int32) (s0 : Int32) (xs_v5 : List Int32) : Int32 := (f0_344 v2 v4 s0 xs_v5)
set_option maxRecDepth 65536 in
set_option maxHeartbeats 4000000 in
theorem w0_342 {Z : State} {a0 : Array Value} {p : Program} {l : Launch} {e : Env} {s : State} {m : MethodId} {args : Array Value} {below : List Frame} {meth : Method} {c : Code} {T : State} {h : Heap} {n0 : Nat} {u0 : Int32} {u1 : Int32} {v5 : Addr} {u6 : Int64} {u8 : Int32} (C : own_Cx Z a0 p l e room_1 s m args below meth c "com/example/baler/baler/io/FieldsPutIntPinLaw" "law" code maxLocals ret) (A : own_At p l e room_1 s m args below meth c T h n0 1 8) (v2 : Int64) (v4 : Int32) (s0 : Int32) (xs_v5 : List Int32) (V_v5 : own_Ia Z h v5 .byte (8 : Int32) xs_v5) (g_v5 : n0 ≤ v5) :
    own_Go p.tables e below (T.setTop (mkF m 342 #[.val (.int u0), .val (.int u1), .val (.long v2), .second, .val (.int v4), .val (.ref v5), .val (.long u6), .second, .val (.int u8)] [(.int s0)])) (own_QR s n0 1 8 (own_RV (f0_342 v2 v4 s0 xs_v5))) := by
  unfold f0_342
  refine own_istore C A at_342 (l' := #[.val (.int u0), .val (.int u1), .val (.long v2), .second, .val (.int v4), .val (.ref v5), .val (.long u6), .second, .val (.int s0)]) rfl rfl ?_
  exact w0_344 C A v2 v4 s0 xs_v5 V_v5 g_v5
def f0_341 (v2 : Int64) (v4 : Int32) (xs_v5 : List Int32) : Int32 := (f0_342 v2 v4 (0 : Int32) xs_v5)
set_option maxRecDepth 65536 in
set_option maxHeartbeats 4000000 in
theorem w0_341 {Z : State} {a0 : Array Value} {p : Program} {l : Launch} {e : Env} {s : State} {m : MethodId} {args : Array Value} {below : List Frame} {meth : Method} {c : Code} {T : State} {h : Heap} {n0 : Nat} {u0 : Int32} {u1 : Int32} {v5 : Addr} {u6 : Int64} {u8 : Int32} (C : own_Cx Z a0 p l e room_1 s m args below meth c "com/example/baler/baler/io/FieldsPutIntPinLaw" "law" code maxLocals ret) (A : own_At p l e room_1 s m args below meth c T h n0 1 8) (v2 : Int64) (v4 : Int32) (xs_v5 : List Int32) (V_v5 : own_Ia Z h v5 .byte (8 : Int32) xs_v5) (g_v5 : n0 ≤ v5) :
    own_Go p.tables e below (T.setTop (mkF m 341 #[.val (.int u0), .val (.int u1), .val (.long v2), .second, .val (.int v4), .val (.ref v5), .val (.long u6), .second, .val (.int u8)] [])) (own_QR s n0 1 8 (own_RV (f0_341 v2 v4 xs_v5))) := by
  unfold f0_341
  refine own_iconst C A at_341 (v := 0) rfl rfl ?_
  exact w0_342 C A v2 v4 (0 : Int32) xs_v5 V_v5 g_v5
def f0_319 (v2 : Int64) (v4 : Int32) (v8 : Int32) (xs_v5 : List Int32) : Int32 := (if v8 = (0 : Int32) then (f0_341 v2 v4 xs_v5) else (if (f2_0 (6 : Int32) v4 v2 xs_v5) = (0 : Int32) then (f0_341 v2 v4 xs_v5) else (f0_342 v2 v4 (1 : Int32) xs_v5)))
set_option maxRecDepth 65536 in
set_option maxHeartbeats 4000000 in
theorem w0_319 {Z : State} {a0 : Array Value} {p : Program} {l : Launch} {e : Env} {s : State} {m : MethodId} {args : Array Value} {below : List Frame} {meth : Method} {c : Code} {T : State} {h : Heap} {n0 : Nat} {u0 : Int32} {u1 : Int32} {v5 : Addr} {u6 : Int64} (C : own_Cx Z a0 p l e room_1 s m args below meth c "com/example/baler/baler/io/FieldsPutIntPinLaw" "law" code maxLocals ret) (A : own_At p l e room_1 s m args below meth c T h n0 1 8) (v2 : Int64) (v4 : Int32) (v8 : Int32) (xs_v5 : List Int32) (V_v5 : own_Ia Z h v5 .byte (8 : Int32) xs_v5) (g_v5 : n0 ≤ v5) :
    own_Go p.tables e below (T.setTop (mkF m 319 #[.val (.int u0), .val (.int u1), .val (.long v2), .second, .val (.int v4), .val (.ref v5), .val (.long u6), .second, .val (.int v8)] [])) (own_QR s n0 1 8 (own_RV (f0_319 v2 v4 v8 xs_v5))) := by
  unfold f0_319
  refine own_iload C A at_319 rfl rfl ?_
  refine own_ite (fun hc321 => ?_) (fun hc321 => ?_)
  · refine own_ifY C A at_321 (Jvm.Free.XT.i0_eq_t hc321) (by decide) (q := 341) (by decide) ?_
    exact w0_341 C A v2 v4 xs_v5 V_v5 g_v5
  · refine own_ifN C A at_321 (Jvm.Free.XT.i0_eq_f hc321) rfl ?_
    refine own_aload C A at_324 rfl rfl rfl ?_
    refine own_bipush C A at_326 (v := 6) rfl rfl ?_
    refine own_iload C A at_328 rfl rfl ?_
    refine own_lloadN C A at_330 rfl rfl ?_
    refine own_callSI C A 0 [(.ref v5), (.int (6 : Int32)), (.int v4), (.long v2)] [] (own_w C 9 rfl) (own_w C 10 rfl) (own_w C 11 rfl) (own_w C 12 rfl) (by decide) (rm2 l Z a0 C.2.2.2.2.2.2.2.2 [] v5 (6 : Int32) v4 v2 xs_v5 _ _ (own_size A) V_v5 ⟨by decide, by decide⟩) rfl rfl (by decide) (by decide) (by decide) (by decide) own_pd1 rfl rfl rfl (Nat.le_of_eq rfl) rfl at_331 rfl (fun T A => ?_)
    refine own_ite (fun hc334 => ?_) (fun hc334 => ?_)
    · refine own_ifY C A at_334 (Jvm.Free.XT.i0_eq_t hc334) (by decide) (q := 341) (by decide) ?_
      exact w0_341 C A v2 v4 xs_v5 V_v5 g_v5
    · refine own_ifN C A at_334 (Jvm.Free.XT.i0_eq_f hc334) rfl ?_
      refine own_iconst C A at_337 (v := 1) rfl rfl ?_
      refine own_goto C A at_338 (by decide) (q := 342) (by decide) ?_
      exact w0_342 C A v2 v4 (1 : Int32) xs_v5 V_v5 g_v5
def f0_317 (v2 : Int64) (v4 : Int32) (s0 : Int32) (xs_v5 : List Int32) : Int32 := (f0_319 v2 v4 s0 xs_v5)
set_option maxRecDepth 65536 in
set_option maxHeartbeats 4000000 in
theorem w0_317 {Z : State} {a0 : Array Value} {p : Program} {l : Launch} {e : Env} {s : State} {m : MethodId} {args : Array Value} {below : List Frame} {meth : Method} {c : Code} {T : State} {h : Heap} {n0 : Nat} {u0 : Int32} {u1 : Int32} {v5 : Addr} {u6 : Int64} {u8 : Int32} (C : own_Cx Z a0 p l e room_1 s m args below meth c "com/example/baler/baler/io/FieldsPutIntPinLaw" "law" code maxLocals ret) (A : own_At p l e room_1 s m args below meth c T h n0 1 8) (v2 : Int64) (v4 : Int32) (s0 : Int32) (xs_v5 : List Int32) (V_v5 : own_Ia Z h v5 .byte (8 : Int32) xs_v5) (g_v5 : n0 ≤ v5) :
    own_Go p.tables e below (T.setTop (mkF m 317 #[.val (.int u0), .val (.int u1), .val (.long v2), .second, .val (.int v4), .val (.ref v5), .val (.long u6), .second, .val (.int u8)] [(.int s0)])) (own_QR s n0 1 8 (own_RV (f0_317 v2 v4 s0 xs_v5))) := by
  unfold f0_317
  refine own_istore C A at_317 (l' := #[.val (.int u0), .val (.int u1), .val (.long v2), .second, .val (.int v4), .val (.ref v5), .val (.long u6), .second, .val (.int s0)]) rfl rfl ?_
  exact w0_319 C A v2 v4 s0 xs_v5 V_v5 g_v5
def f0_316 (v2 : Int64) (v4 : Int32) (xs_v5 : List Int32) : Int32 := (f0_317 v2 v4 (0 : Int32) xs_v5)
set_option maxRecDepth 65536 in
set_option maxHeartbeats 4000000 in
theorem w0_316 {Z : State} {a0 : Array Value} {p : Program} {l : Launch} {e : Env} {s : State} {m : MethodId} {args : Array Value} {below : List Frame} {meth : Method} {c : Code} {T : State} {h : Heap} {n0 : Nat} {u0 : Int32} {u1 : Int32} {v5 : Addr} {u6 : Int64} {u8 : Int32} (C : own_Cx Z a0 p l e room_1 s m args below meth c "com/example/baler/baler/io/FieldsPutIntPinLaw" "law" code maxLocals ret) (A : own_At p l e room_1 s m args below meth c T h n0 1 8) (v2 : Int64) (v4 : Int32) (xs_v5 : List Int32) (V_v5 : own_Ia Z h v5 .byte (8 : Int32) xs_v5) (g_v5 : n0 ≤ v5) :
    own_Go p.tables e below (T.setTop (mkF m 316 #[.val (.int u0), .val (.int u1), .val (.long v2), .second, .val (.int v4), .val (.ref v5), .val (.long u6), .second, .val (.int u8)] [])) (own_QR s n0 1 8 (own_RV (f0_316 v2 v4 xs_v5))) := by
  unfold f0_316
  refine own_iconst C A at_316 (v := 0) rfl rfl ?_
  exact w0_317 C A v2 v4 (0 : Int32) xs_v5 V_v5 g_v5
def f0_295 (v2 : Int64) (v4 : Int32) (v8 : Int32) (xs_v5 : List Int32) : Int32 := (if v8 = (0 : Int32) then (f0_316 v2 v4 xs_v5) else (if (f2_0 (5 : Int32) v4 v2 xs_v5) = (0 : Int32) then (f0_316 v2 v4 xs_v5) else (f0_317 v2 v4 (1 : Int32) xs_v5)))
set_option maxRecDepth 65536 in
set_option maxHeartbeats 4000000 in
theorem w0_295 {Z : State} {a0 : Array Value} {p : Program} {l : Launch} {e : Env} {s : State} {m : MethodId} {args : Array Value} {below : List Frame} {meth : Method} {c : Code} {T : State} {h : Heap} {n0 : Nat} {u0 : Int32} {u1 : Int32} {v5 : Addr} {u6 : Int64} (C : own_Cx Z a0 p l e room_1 s m args below meth c "com/example/baler/baler/io/FieldsPutIntPinLaw" "law" code maxLocals ret) (A : own_At p l e room_1 s m args below meth c T h n0 1 8) (v2 : Int64) (v4 : Int32) (v8 : Int32) (xs_v5 : List Int32) (V_v5 : own_Ia Z h v5 .byte (8 : Int32) xs_v5) (g_v5 : n0 ≤ v5) :
    own_Go p.tables e below (T.setTop (mkF m 295 #[.val (.int u0), .val (.int u1), .val (.long v2), .second, .val (.int v4), .val (.ref v5), .val (.long u6), .second, .val (.int v8)] [])) (own_QR s n0 1 8 (own_RV (f0_295 v2 v4 v8 xs_v5))) := by
  unfold f0_295
  refine own_iload C A at_295 rfl rfl ?_
  refine own_ite (fun hc297 => ?_) (fun hc297 => ?_)
  · refine own_ifY C A at_297 (Jvm.Free.XT.i0_eq_t hc297) (by decide) (q := 316) (by decide) ?_
    exact w0_316 C A v2 v4 xs_v5 V_v5 g_v5
  · refine own_ifN C A at_297 (Jvm.Free.XT.i0_eq_f hc297) rfl ?_
    refine own_aload C A at_300 rfl rfl rfl ?_
    refine own_iconst C A at_302 (v := 5) rfl rfl ?_
    refine own_iload C A at_303 rfl rfl ?_
    refine own_lloadN C A at_305 rfl rfl ?_
    refine own_callSI C A 0 [(.ref v5), (.int (5 : Int32)), (.int v4), (.long v2)] [] (own_w C 9 rfl) (own_w C 10 rfl) (own_w C 11 rfl) (own_w C 12 rfl) (by decide) (rm2 l Z a0 C.2.2.2.2.2.2.2.2 [] v5 (5 : Int32) v4 v2 xs_v5 _ _ (own_size A) V_v5 ⟨by decide, by decide⟩) rfl rfl (by decide) (by decide) (by decide) (by decide) own_pd1 rfl rfl rfl (Nat.le_of_eq rfl) rfl at_306 rfl (fun T A => ?_)
    refine own_ite (fun hc309 => ?_) (fun hc309 => ?_)
    · refine own_ifY C A at_309 (Jvm.Free.XT.i0_eq_t hc309) (by decide) (q := 316) (by decide) ?_
      exact w0_316 C A v2 v4 xs_v5 V_v5 g_v5
    · refine own_ifN C A at_309 (Jvm.Free.XT.i0_eq_f hc309) rfl ?_
      refine own_iconst C A at_312 (v := 1) rfl rfl ?_
      refine own_goto C A at_313 (by decide) (q := 317) (by decide) ?_
      exact w0_317 C A v2 v4 (1 : Int32) xs_v5 V_v5 g_v5
def f0_293 (v2 : Int64) (v4 : Int32) (s0 : Int32) (xs_v5 : List Int32) : Int32 := (f0_295 v2 v4 s0 xs_v5)
set_option maxRecDepth 65536 in
set_option maxHeartbeats 4000000 in
theorem w0_293 {Z : State} {a0 : Array Value} {p : Program} {l : Launch} {e : Env} {s : State} {m : MethodId} {args : Array Value} {below : List Frame} {meth : Method} {c : Code} {T : State} {h : Heap} {n0 : Nat} {u0 : Int32} {u1 : Int32} {v5 : Addr} {u6 : Int64} {u8 : Int32} (C : own_Cx Z a0 p l e room_1 s m args below meth c "com/example/baler/baler/io/FieldsPutIntPinLaw" "law" code maxLocals ret) (A : own_At p l e room_1 s m args below meth c T h n0 1 8) (v2 : Int64) (v4 : Int32) (s0 : Int32) (xs_v5 : List Int32) (V_v5 : own_Ia Z h v5 .byte (8 : Int32) xs_v5) (g_v5 : n0 ≤ v5) :
    own_Go p.tables e below (T.setTop (mkF m 293 #[.val (.int u0), .val (.int u1), .val (.long v2), .second, .val (.int v4), .val (.ref v5), .val (.long u6), .second, .val (.int u8)] [(.int s0)])) (own_QR s n0 1 8 (own_RV (f0_293 v2 v4 s0 xs_v5))) := by
  unfold f0_293
  refine own_istore C A at_293 (l' := #[.val (.int u0), .val (.int u1), .val (.long v2), .second, .val (.int v4), .val (.ref v5), .val (.long u6), .second, .val (.int s0)]) rfl rfl ?_
  exact w0_295 C A v2 v4 s0 xs_v5 V_v5 g_v5
def f0_292 (v2 : Int64) (v4 : Int32) (xs_v5 : List Int32) : Int32 := (f0_293 v2 v4 (0 : Int32) xs_v5)
set_option maxRecDepth 65536 in
set_option maxHeartbeats 4000000 in
theorem w0_292 {Z : State} {a0 : Array Value} {p : Program} {l : Launch} {e : Env} {s : State} {m : MethodId} {args : Array Value} {below : List Frame} {meth : Method} {c : Code} {T : State} {h : Heap} {n0 : Nat} {u0 : Int32} {u1 : Int32} {v5 : Addr} {u6 : Int64} {u8 : Int32} (C : own_Cx Z a0 p l e room_1 s m args below meth c "com/example/baler/baler/io/FieldsPutIntPinLaw" "law" code maxLocals ret) (A : own_At p l e room_1 s m args below meth c T h n0 1 8) (v2 : Int64) (v4 : Int32) (xs_v5 : List Int32) (V_v5 : own_Ia Z h v5 .byte (8 : Int32) xs_v5) (g_v5 : n0 ≤ v5) :
    own_Go p.tables e below (T.setTop (mkF m 292 #[.val (.int u0), .val (.int u1), .val (.long v2), .second, .val (.int v4), .val (.ref v5), .val (.long u6), .second, .val (.int u8)] [])) (own_QR s n0 1 8 (own_RV (f0_292 v2 v4 xs_v5))) := by
  unfold f0_292
  refine own_iconst C A at_292 (v := 0) rfl rfl ?_
  exact w0_293 C A v2 v4 (0 : Int32) xs_v5 V_v5 g_v5
def f0_271 (v2 : Int64) (v4 : Int32) (v8 : Int32) (xs_v5 : List Int32) : Int32 := (if v8 = (0 : Int32) then (f0_292 v2 v4 xs_v5) else (if (f2_0 (4 : Int32) v4 v2 xs_v5) = (0 : Int32) then (f0_292 v2 v4 xs_v5) else (f0_293 v2 v4 (1 : Int32) xs_v5)))
set_option maxRecDepth 65536 in
set_option maxHeartbeats 4000000 in
theorem w0_271 {Z : State} {a0 : Array Value} {p : Program} {l : Launch} {e : Env} {s : State} {m : MethodId} {args : Array Value} {below : List Frame} {meth : Method} {c : Code} {T : State} {h : Heap} {n0 : Nat} {u0 : Int32} {u1 : Int32} {v5 : Addr} {u6 : Int64} (C : own_Cx Z a0 p l e room_1 s m args below meth c "com/example/baler/baler/io/FieldsPutIntPinLaw" "law" code maxLocals ret) (A : own_At p l e room_1 s m args below meth c T h n0 1 8) (v2 : Int64) (v4 : Int32) (v8 : Int32) (xs_v5 : List Int32) (V_v5 : own_Ia Z h v5 .byte (8 : Int32) xs_v5) (g_v5 : n0 ≤ v5) :
    own_Go p.tables e below (T.setTop (mkF m 271 #[.val (.int u0), .val (.int u1), .val (.long v2), .second, .val (.int v4), .val (.ref v5), .val (.long u6), .second, .val (.int v8)] [])) (own_QR s n0 1 8 (own_RV (f0_271 v2 v4 v8 xs_v5))) := by
  unfold f0_271
  refine own_iload C A at_271 rfl rfl ?_
  refine own_ite (fun hc273 => ?_) (fun hc273 => ?_)
  · refine own_ifY C A at_273 (Jvm.Free.XT.i0_eq_t hc273) (by decide) (q := 292) (by decide) ?_
    exact w0_292 C A v2 v4 xs_v5 V_v5 g_v5
  · refine own_ifN C A at_273 (Jvm.Free.XT.i0_eq_f hc273) rfl ?_
    refine own_aload C A at_276 rfl rfl rfl ?_
    refine own_iconst C A at_278 (v := 4) rfl rfl ?_
    refine own_iload C A at_279 rfl rfl ?_
    refine own_lloadN C A at_281 rfl rfl ?_
    refine own_callSI C A 0 [(.ref v5), (.int (4 : Int32)), (.int v4), (.long v2)] [] (own_w C 9 rfl) (own_w C 10 rfl) (own_w C 11 rfl) (own_w C 12 rfl) (by decide) (rm2 l Z a0 C.2.2.2.2.2.2.2.2 [] v5 (4 : Int32) v4 v2 xs_v5 _ _ (own_size A) V_v5 ⟨by decide, by decide⟩) rfl rfl (by decide) (by decide) (by decide) (by decide) own_pd1 rfl rfl rfl (Nat.le_of_eq rfl) rfl at_282 rfl (fun T A => ?_)
    refine own_ite (fun hc285 => ?_) (fun hc285 => ?_)
    · refine own_ifY C A at_285 (Jvm.Free.XT.i0_eq_t hc285) (by decide) (q := 292) (by decide) ?_
      exact w0_292 C A v2 v4 xs_v5 V_v5 g_v5
    · refine own_ifN C A at_285 (Jvm.Free.XT.i0_eq_f hc285) rfl ?_
      refine own_iconst C A at_288 (v := 1) rfl rfl ?_
      refine own_goto C A at_289 (by decide) (q := 293) (by decide) ?_
      exact w0_293 C A v2 v4 (1 : Int32) xs_v5 V_v5 g_v5
def f0_269 (v2 : Int64) (v4 : Int32) (s0 : Int32) (xs_v5 : List Int32) : Int32 := (f0_271 v2 v4 s0 xs_v5)
set_option maxRecDepth 65536 in
set_option maxHeartbeats 4000000 in
theorem w0_269 {Z : State} {a0 : Array Value} {p : Program} {l : Launch} {e : Env} {s : State} {m : MethodId} {args : Array Value} {below : List Frame} {meth : Method} {c : Code} {T : State} {h : Heap} {n0 : Nat} {u0 : Int32} {u1 : Int32} {v5 : Addr} {u6 : Int64} {u8 : Int32} (C : own_Cx Z a0 p l e room_1 s m args below meth c "com/example/baler/baler/io/FieldsPutIntPinLaw" "law" code maxLocals ret) (A : own_At p l e room_1 s m args below meth c T h n0 1 8) (v2 : Int64) (v4 : Int32) (s0 : Int32) (xs_v5 : List Int32) (V_v5 : own_Ia Z h v5 .byte (8 : Int32) xs_v5) (g_v5 : n0 ≤ v5) :
    own_Go p.tables e below (T.setTop (mkF m 269 #[.val (.int u0), .val (.int u1), .val (.long v2), .second, .val (.int v4), .val (.ref v5), .val (.long u6), .second, .val (.int u8)] [(.int s0)])) (own_QR s n0 1 8 (own_RV (f0_269 v2 v4 s0 xs_v5))) := by
  unfold f0_269
  refine own_istore C A at_269 (l' := #[.val (.int u0), .val (.int u1), .val (.long v2), .second, .val (.int v4), .val (.ref v5), .val (.long u6), .second, .val (.int s0)]) rfl rfl ?_
  exact w0_271 C A v2 v4 s0 xs_v5 V_v5 g_v5
def f0_268 (v2 : Int64) (v4 : Int32) (xs_v5 : List Int32) : Int32 := (f0_269 v2 v4 (0 : Int32) xs_v5)
set_option maxRecDepth 65536 in
set_option maxHeartbeats 4000000 in
theorem w0_268 {Z : State} {a0 : Array Value} {p : Program} {l : Launch} {e : Env} {s : State} {m : MethodId} {args : Array Value} {below : List Frame} {meth : Method} {c : Code} {T : State} {h : Heap} {n0 : Nat} {u0 : Int32} {u1 : Int32} {v5 : Addr} {u6 : Int64} {u8 : Int32} (C : own_Cx Z a0 p l e room_1 s m args below meth c "com/example/baler/baler/io/FieldsPutIntPinLaw" "law" code maxLocals ret) (A : own_At p l e room_1 s m args below meth c T h n0 1 8) (v2 : Int64) (v4 : Int32) (xs_v5 : List Int32) (V_v5 : own_Ia Z h v5 .byte (8 : Int32) xs_v5) (g_v5 : n0 ≤ v5) :
    own_Go p.tables e below (T.setTop (mkF m 268 #[.val (.int u0), .val (.int u1), .val (.long v2), .second, .val (.int v4), .val (.ref v5), .val (.long u6), .second, .val (.int u8)] [])) (own_QR s n0 1 8 (own_RV (f0_268 v2 v4 xs_v5))) := by
  unfold f0_268
  refine own_iconst C A at_268 (v := 0) rfl rfl ?_
  exact w0_269 C A v2 v4 (0 : Int32) xs_v5 V_v5 g_v5
def f0_247 (v2 : Int64) (v4 : Int32) (v8 : Int32) (xs_v5 : List Int32) : Int32 := (if v8 = (0 : Int32) then (f0_268 v2 v4 xs_v5) else (if (f2_0 (3 : Int32) v4 v2 xs_v5) = (0 : Int32) then (f0_268 v2 v4 xs_v5) else (f0_269 v2 v4 (1 : Int32) xs_v5)))
set_option maxRecDepth 65536 in
set_option maxHeartbeats 4000000 in
theorem w0_247 {Z : State} {a0 : Array Value} {p : Program} {l : Launch} {e : Env} {s : State} {m : MethodId} {args : Array Value} {below : List Frame} {meth : Method} {c : Code} {T : State} {h : Heap} {n0 : Nat} {u0 : Int32} {u1 : Int32} {v5 : Addr} {u6 : Int64} (C : own_Cx Z a0 p l e room_1 s m args below meth c "com/example/baler/baler/io/FieldsPutIntPinLaw" "law" code maxLocals ret) (A : own_At p l e room_1 s m args below meth c T h n0 1 8) (v2 : Int64) (v4 : Int32) (v8 : Int32) (xs_v5 : List Int32) (V_v5 : own_Ia Z h v5 .byte (8 : Int32) xs_v5) (g_v5 : n0 ≤ v5) :
    own_Go p.tables e below (T.setTop (mkF m 247 #[.val (.int u0), .val (.int u1), .val (.long v2), .second, .val (.int v4), .val (.ref v5), .val (.long u6), .second, .val (.int v8)] [])) (own_QR s n0 1 8 (own_RV (f0_247 v2 v4 v8 xs_v5))) := by
  unfold f0_247
  refine own_iload C A at_247 rfl rfl ?_
  refine own_ite (fun hc249 => ?_) (fun hc249 => ?_)
  · refine own_ifY C A at_249 (Jvm.Free.XT.i0_eq_t hc249) (by decide) (q := 268) (by decide) ?_
    exact w0_268 C A v2 v4 xs_v5 V_v5 g_v5
  · refine own_ifN C A at_249 (Jvm.Free.XT.i0_eq_f hc249) rfl ?_
    refine own_aload C A at_252 rfl rfl rfl ?_
    refine own_iconst C A at_254 (v := 3) rfl rfl ?_
    refine own_iload C A at_255 rfl rfl ?_
    refine own_lloadN C A at_257 rfl rfl ?_
    refine own_callSI C A 0 [(.ref v5), (.int (3 : Int32)), (.int v4), (.long v2)] [] (own_w C 9 rfl) (own_w C 10 rfl) (own_w C 11 rfl) (own_w C 12 rfl) (by decide) (rm2 l Z a0 C.2.2.2.2.2.2.2.2 [] v5 (3 : Int32) v4 v2 xs_v5 _ _ (own_size A) V_v5 ⟨by decide, by decide⟩) rfl rfl (by decide) (by decide) (by decide) (by decide) own_pd1 rfl rfl rfl (Nat.le_of_eq rfl) rfl at_258 rfl (fun T A => ?_)
    refine own_ite (fun hc261 => ?_) (fun hc261 => ?_)
    · refine own_ifY C A at_261 (Jvm.Free.XT.i0_eq_t hc261) (by decide) (q := 268) (by decide) ?_
      exact w0_268 C A v2 v4 xs_v5 V_v5 g_v5
    · refine own_ifN C A at_261 (Jvm.Free.XT.i0_eq_f hc261) rfl ?_
      refine own_iconst C A at_264 (v := 1) rfl rfl ?_
      refine own_goto C A at_265 (by decide) (q := 269) (by decide) ?_
      exact w0_269 C A v2 v4 (1 : Int32) xs_v5 V_v5 g_v5
def f0_245 (v2 : Int64) (v4 : Int32) (s0 : Int32) (xs_v5 : List Int32) : Int32 := (f0_247 v2 v4 s0 xs_v5)
set_option maxRecDepth 65536 in
set_option maxHeartbeats 4000000 in
theorem w0_245 {Z : State} {a0 : Array Value} {p : Program} {l : Launch} {e : Env} {s : State} {m : MethodId} {args : Array Value} {below : List Frame} {meth : Method} {c : Code} {T : State} {h : Heap} {n0 : Nat} {u0 : Int32} {u1 : Int32} {v5 : Addr} {u6 : Int64} {u8 : Int32} (C : own_Cx Z a0 p l e room_1 s m args below meth c "com/example/baler/baler/io/FieldsPutIntPinLaw" "law" code maxLocals ret) (A : own_At p l e room_1 s m args below meth c T h n0 1 8) (v2 : Int64) (v4 : Int32) (s0 : Int32) (xs_v5 : List Int32) (V_v5 : own_Ia Z h v5 .byte (8 : Int32) xs_v5) (g_v5 : n0 ≤ v5) :
    own_Go p.tables e below (T.setTop (mkF m 245 #[.val (.int u0), .val (.int u1), .val (.long v2), .second, .val (.int v4), .val (.ref v5), .val (.long u6), .second, .val (.int u8)] [(.int s0)])) (own_QR s n0 1 8 (own_RV (f0_245 v2 v4 s0 xs_v5))) := by
  unfold f0_245
  refine own_istore C A at_245 (l' := #[.val (.int u0), .val (.int u1), .val (.long v2), .second, .val (.int v4), .val (.ref v5), .val (.long u6), .second, .val (.int s0)]) rfl rfl ?_
  exact w0_247 C A v2 v4 s0 xs_v5 V_v5 g_v5
def f0_244 (v2 : Int64) (v4 : Int32) (xs_v5 : List Int32) : Int32 := (f0_245 v2 v4 (0 : Int32) xs_v5)
set_option maxRecDepth 65536 in
set_option maxHeartbeats 4000000 in
theorem w0_244 {Z : State} {a0 : Array Value} {p : Program} {l : Launch} {e : Env} {s : State} {m : MethodId} {args : Array Value} {below : List Frame} {meth : Method} {c : Code} {T : State} {h : Heap} {n0 : Nat} {u0 : Int32} {u1 : Int32} {v5 : Addr} {u6 : Int64} {u8 : Int32} (C : own_Cx Z a0 p l e room_1 s m args below meth c "com/example/baler/baler/io/FieldsPutIntPinLaw" "law" code maxLocals ret) (A : own_At p l e room_1 s m args below meth c T h n0 1 8) (v2 : Int64) (v4 : Int32) (xs_v5 : List Int32) (V_v5 : own_Ia Z h v5 .byte (8 : Int32) xs_v5) (g_v5 : n0 ≤ v5) :
    own_Go p.tables e below (T.setTop (mkF m 244 #[.val (.int u0), .val (.int u1), .val (.long v2), .second, .val (.int v4), .val (.ref v5), .val (.long u6), .second, .val (.int u8)] [])) (own_QR s n0 1 8 (own_RV (f0_244 v2 v4 xs_v5))) := by
  unfold f0_244
  refine own_iconst C A at_244 (v := 0) rfl rfl ?_
  exact w0_245 C A v2 v4 (0 : Int32) xs_v5 V_v5 g_v5
def f0_223 (v2 : Int64) (v4 : Int32) (v8 : Int32) (xs_v5 : List Int32) : Int32 := (if v8 = (0 : Int32) then (f0_244 v2 v4 xs_v5) else (if (f2_0 (2 : Int32) v4 v2 xs_v5) = (0 : Int32) then (f0_244 v2 v4 xs_v5) else (f0_245 v2 v4 (1 : Int32) xs_v5)))
set_option maxRecDepth 65536 in
set_option maxHeartbeats 4000000 in
theorem w0_223 {Z : State} {a0 : Array Value} {p : Program} {l : Launch} {e : Env} {s : State} {m : MethodId} {args : Array Value} {below : List Frame} {meth : Method} {c : Code} {T : State} {h : Heap} {n0 : Nat} {u0 : Int32} {u1 : Int32} {v5 : Addr} {u6 : Int64} (C : own_Cx Z a0 p l e room_1 s m args below meth c "com/example/baler/baler/io/FieldsPutIntPinLaw" "law" code maxLocals ret) (A : own_At p l e room_1 s m args below meth c T h n0 1 8) (v2 : Int64) (v4 : Int32) (v8 : Int32) (xs_v5 : List Int32) (V_v5 : own_Ia Z h v5 .byte (8 : Int32) xs_v5) (g_v5 : n0 ≤ v5) :
    own_Go p.tables e below (T.setTop (mkF m 223 #[.val (.int u0), .val (.int u1), .val (.long v2), .second, .val (.int v4), .val (.ref v5), .val (.long u6), .second, .val (.int v8)] [])) (own_QR s n0 1 8 (own_RV (f0_223 v2 v4 v8 xs_v5))) := by
  unfold f0_223
  refine own_iload C A at_223 rfl rfl ?_
  refine own_ite (fun hc225 => ?_) (fun hc225 => ?_)
  · refine own_ifY C A at_225 (Jvm.Free.XT.i0_eq_t hc225) (by decide) (q := 244) (by decide) ?_
    exact w0_244 C A v2 v4 xs_v5 V_v5 g_v5
  · refine own_ifN C A at_225 (Jvm.Free.XT.i0_eq_f hc225) rfl ?_
    refine own_aload C A at_228 rfl rfl rfl ?_
    refine own_iconst C A at_230 (v := 2) rfl rfl ?_
    refine own_iload C A at_231 rfl rfl ?_
    refine own_lloadN C A at_233 rfl rfl ?_
    refine own_callSI C A 0 [(.ref v5), (.int (2 : Int32)), (.int v4), (.long v2)] [] (own_w C 9 rfl) (own_w C 10 rfl) (own_w C 11 rfl) (own_w C 12 rfl) (by decide) (rm2 l Z a0 C.2.2.2.2.2.2.2.2 [] v5 (2 : Int32) v4 v2 xs_v5 _ _ (own_size A) V_v5 ⟨by decide, by decide⟩) rfl rfl (by decide) (by decide) (by decide) (by decide) own_pd1 rfl rfl rfl (Nat.le_of_eq rfl) rfl at_234 rfl (fun T A => ?_)
    refine own_ite (fun hc237 => ?_) (fun hc237 => ?_)
    · refine own_ifY C A at_237 (Jvm.Free.XT.i0_eq_t hc237) (by decide) (q := 244) (by decide) ?_
      exact w0_244 C A v2 v4 xs_v5 V_v5 g_v5
    · refine own_ifN C A at_237 (Jvm.Free.XT.i0_eq_f hc237) rfl ?_
      refine own_iconst C A at_240 (v := 1) rfl rfl ?_
      refine own_goto C A at_241 (by decide) (q := 245) (by decide) ?_
      exact w0_245 C A v2 v4 (1 : Int32) xs_v5 V_v5 g_v5
def f0_221 (v2 : Int64) (v4 : Int32) (s0 : Int32) (xs_v5 : List Int32) : Int32 := (f0_223 v2 v4 s0 xs_v5)
set_option maxRecDepth 65536 in
set_option maxHeartbeats 4000000 in
theorem w0_221 {Z : State} {a0 : Array Value} {p : Program} {l : Launch} {e : Env} {s : State} {m : MethodId} {args : Array Value} {below : List Frame} {meth : Method} {c : Code} {T : State} {h : Heap} {n0 : Nat} {u0 : Int32} {u1 : Int32} {v5 : Addr} {u6 : Int64} {u8 : Int32} (C : own_Cx Z a0 p l e room_1 s m args below meth c "com/example/baler/baler/io/FieldsPutIntPinLaw" "law" code maxLocals ret) (A : own_At p l e room_1 s m args below meth c T h n0 1 8) (v2 : Int64) (v4 : Int32) (s0 : Int32) (xs_v5 : List Int32) (V_v5 : own_Ia Z h v5 .byte (8 : Int32) xs_v5) (g_v5 : n0 ≤ v5) :
    own_Go p.tables e below (T.setTop (mkF m 221 #[.val (.int u0), .val (.int u1), .val (.long v2), .second, .val (.int v4), .val (.ref v5), .val (.long u6), .second, .val (.int u8)] [(.int s0)])) (own_QR s n0 1 8 (own_RV (f0_221 v2 v4 s0 xs_v5))) := by
  unfold f0_221
  refine own_istore C A at_221 (l' := #[.val (.int u0), .val (.int u1), .val (.long v2), .second, .val (.int v4), .val (.ref v5), .val (.long u6), .second, .val (.int s0)]) rfl rfl ?_
  exact w0_223 C A v2 v4 s0 xs_v5 V_v5 g_v5
def f0_220 (v2 : Int64) (v4 : Int32) (xs_v5 : List Int32) : Int32 := (f0_221 v2 v4 (0 : Int32) xs_v5)
set_option maxRecDepth 65536 in
set_option maxHeartbeats 4000000 in
theorem w0_220 {Z : State} {a0 : Array Value} {p : Program} {l : Launch} {e : Env} {s : State} {m : MethodId} {args : Array Value} {below : List Frame} {meth : Method} {c : Code} {T : State} {h : Heap} {n0 : Nat} {u0 : Int32} {u1 : Int32} {v5 : Addr} {u6 : Int64} {u8 : Int32} (C : own_Cx Z a0 p l e room_1 s m args below meth c "com/example/baler/baler/io/FieldsPutIntPinLaw" "law" code maxLocals ret) (A : own_At p l e room_1 s m args below meth c T h n0 1 8) (v2 : Int64) (v4 : Int32) (xs_v5 : List Int32) (V_v5 : own_Ia Z h v5 .byte (8 : Int32) xs_v5) (g_v5 : n0 ≤ v5) :
    own_Go p.tables e below (T.setTop (mkF m 220 #[.val (.int u0), .val (.int u1), .val (.long v2), .second, .val (.int v4), .val (.ref v5), .val (.long u6), .second, .val (.int u8)] [])) (own_QR s n0 1 8 (own_RV (f0_220 v2 v4 xs_v5))) := by
  unfold f0_220
  refine own_iconst C A at_220 (v := 0) rfl rfl ?_
  exact w0_221 C A v2 v4 (0 : Int32) xs_v5 V_v5 g_v5
def f0_199 (v2 : Int64) (v4 : Int32) (v8 : Int32) (xs_v5 : List Int32) : Int32 := (if v8 = (0 : Int32) then (f0_220 v2 v4 xs_v5) else (if (f2_0 (1 : Int32) v4 v2 xs_v5) = (0 : Int32) then (f0_220 v2 v4 xs_v5) else (f0_221 v2 v4 (1 : Int32) xs_v5)))
set_option maxRecDepth 65536 in
set_option maxHeartbeats 4000000 in
theorem w0_199 {Z : State} {a0 : Array Value} {p : Program} {l : Launch} {e : Env} {s : State} {m : MethodId} {args : Array Value} {below : List Frame} {meth : Method} {c : Code} {T : State} {h : Heap} {n0 : Nat} {u0 : Int32} {u1 : Int32} {v5 : Addr} {u6 : Int64} (C : own_Cx Z a0 p l e room_1 s m args below meth c "com/example/baler/baler/io/FieldsPutIntPinLaw" "law" code maxLocals ret) (A : own_At p l e room_1 s m args below meth c T h n0 1 8) (v2 : Int64) (v4 : Int32) (v8 : Int32) (xs_v5 : List Int32) (V_v5 : own_Ia Z h v5 .byte (8 : Int32) xs_v5) (g_v5 : n0 ≤ v5) :
    own_Go p.tables e below (T.setTop (mkF m 199 #[.val (.int u0), .val (.int u1), .val (.long v2), .second, .val (.int v4), .val (.ref v5), .val (.long u6), .second, .val (.int v8)] [])) (own_QR s n0 1 8 (own_RV (f0_199 v2 v4 v8 xs_v5))) := by
  unfold f0_199
  refine own_iload C A at_199 rfl rfl ?_
  refine own_ite (fun hc201 => ?_) (fun hc201 => ?_)
  · refine own_ifY C A at_201 (Jvm.Free.XT.i0_eq_t hc201) (by decide) (q := 220) (by decide) ?_
    exact w0_220 C A v2 v4 xs_v5 V_v5 g_v5
  · refine own_ifN C A at_201 (Jvm.Free.XT.i0_eq_f hc201) rfl ?_
    refine own_aload C A at_204 rfl rfl rfl ?_
    refine own_iconst C A at_206 (v := 1) rfl rfl ?_
    refine own_iload C A at_207 rfl rfl ?_
    refine own_lloadN C A at_209 rfl rfl ?_
    refine own_callSI C A 0 [(.ref v5), (.int (1 : Int32)), (.int v4), (.long v2)] [] (own_w C 9 rfl) (own_w C 10 rfl) (own_w C 11 rfl) (own_w C 12 rfl) (by decide) (rm2 l Z a0 C.2.2.2.2.2.2.2.2 [] v5 (1 : Int32) v4 v2 xs_v5 _ _ (own_size A) V_v5 ⟨by decide, by decide⟩) rfl rfl (by decide) (by decide) (by decide) (by decide) own_pd1 rfl rfl rfl (Nat.le_of_eq rfl) rfl at_210 rfl (fun T A => ?_)
    refine own_ite (fun hc213 => ?_) (fun hc213 => ?_)
    · refine own_ifY C A at_213 (Jvm.Free.XT.i0_eq_t hc213) (by decide) (q := 220) (by decide) ?_
      exact w0_220 C A v2 v4 xs_v5 V_v5 g_v5
    · refine own_ifN C A at_213 (Jvm.Free.XT.i0_eq_f hc213) rfl ?_
      refine own_iconst C A at_216 (v := 1) rfl rfl ?_
      refine own_goto C A at_217 (by decide) (q := 221) (by decide) ?_
      exact w0_221 C A v2 v4 (1 : Int32) xs_v5 V_v5 g_v5
def f0_197 (v2 : Int64) (v4 : Int32) (s0 : Int32) (xs_v5 : List Int32) : Int32 := (f0_199 v2 v4 s0 xs_v5)
set_option maxRecDepth 65536 in
set_option maxHeartbeats 4000000 in
theorem w0_197 {Z : State} {a0 : Array Value} {p : Program} {l : Launch} {e : Env} {s : State} {m : MethodId} {args : Array Value} {below : List Frame} {meth : Method} {c : Code} {T : State} {h : Heap} {n0 : Nat} {u0 : Int32} {u1 : Int32} {v5 : Addr} {u6 : Int64} {u8 : Int32} (C : own_Cx Z a0 p l e room_1 s m args below meth c "com/example/baler/baler/io/FieldsPutIntPinLaw" "law" code maxLocals ret) (A : own_At p l e room_1 s m args below meth c T h n0 1 8) (v2 : Int64) (v4 : Int32) (s0 : Int32) (xs_v5 : List Int32) (V_v5 : own_Ia Z h v5 .byte (8 : Int32) xs_v5) (g_v5 : n0 ≤ v5) :
    own_Go p.tables e below (T.setTop (mkF m 197 #[.val (.int u0), .val (.int u1), .val (.long v2), .second, .val (.int v4), .val (.ref v5), .val (.long u6), .second, .val (.int u8)] [(.int s0)])) (own_QR s n0 1 8 (own_RV (f0_197 v2 v4 s0 xs_v5))) := by
  unfold f0_197
  refine own_istore C A at_197 (l' := #[.val (.int u0), .val (.int u1), .val (.long v2), .second, .val (.int v4), .val (.ref v5), .val (.long u6), .second, .val (.int s0)]) rfl rfl ?_
  exact w0_199 C A v2 v4 s0 xs_v5 V_v5 g_v5
def f0_196 (v2 : Int64) (v4 : Int32) (xs_v5 : List Int32) : Int32 := (f0_197 v2 v4 (0 : Int32) xs_v5)
set_option maxRecDepth 65536 in
set_option maxHeartbeats 4000000 in
theorem w0_196 {Z : State} {a0 : Array Value} {p : Program} {l : Launch} {e : Env} {s : State} {m : MethodId} {args : Array Value} {below : List Frame} {meth : Method} {c : Code} {T : State} {h : Heap} {n0 : Nat} {u0 : Int32} {u1 : Int32} {v5 : Addr} {u6 : Int64} {u8 : Int32} (C : own_Cx Z a0 p l e room_1 s m args below meth c "com/example/baler/baler/io/FieldsPutIntPinLaw" "law" code maxLocals ret) (A : own_At p l e room_1 s m args below meth c T h n0 1 8) (v2 : Int64) (v4 : Int32) (xs_v5 : List Int32) (V_v5 : own_Ia Z h v5 .byte (8 : Int32) xs_v5) (g_v5 : n0 ≤ v5) :
    own_Go p.tables e below (T.setTop (mkF m 196 #[.val (.int u0), .val (.int u1), .val (.long v2), .second, .val (.int v4), .val (.ref v5), .val (.long u6), .second, .val (.int u8)] [])) (own_QR s n0 1 8 (own_RV (f0_196 v2 v4 xs_v5))) := by
  unfold f0_196
  refine own_iconst C A at_196 (v := 0) rfl rfl ?_
  exact w0_197 C A v2 v4 (0 : Int32) xs_v5 V_v5 g_v5
def f0_175 (v2 : Int64) (v4 : Int32) (v8 : Int32) (xs_v5 : List Int32) : Int32 := (if v8 = (0 : Int32) then (f0_196 v2 v4 xs_v5) else (if (f2_0 (0 : Int32) v4 v2 xs_v5) = (0 : Int32) then (f0_196 v2 v4 xs_v5) else (f0_197 v2 v4 (1 : Int32) xs_v5)))
set_option maxRecDepth 65536 in
set_option maxHeartbeats 4000000 in
theorem w0_175 {Z : State} {a0 : Array Value} {p : Program} {l : Launch} {e : Env} {s : State} {m : MethodId} {args : Array Value} {below : List Frame} {meth : Method} {c : Code} {T : State} {h : Heap} {n0 : Nat} {u0 : Int32} {u1 : Int32} {v5 : Addr} {u6 : Int64} (C : own_Cx Z a0 p l e room_1 s m args below meth c "com/example/baler/baler/io/FieldsPutIntPinLaw" "law" code maxLocals ret) (A : own_At p l e room_1 s m args below meth c T h n0 1 8) (v2 : Int64) (v4 : Int32) (v8 : Int32) (xs_v5 : List Int32) (V_v5 : own_Ia Z h v5 .byte (8 : Int32) xs_v5) (g_v5 : n0 ≤ v5) :
    own_Go p.tables e below (T.setTop (mkF m 175 #[.val (.int u0), .val (.int u1), .val (.long v2), .second, .val (.int v4), .val (.ref v5), .val (.long u6), .second, .val (.int v8)] [])) (own_QR s n0 1 8 (own_RV (f0_175 v2 v4 v8 xs_v5))) := by
  unfold f0_175
  refine own_iload C A at_175 rfl rfl ?_
  refine own_ite (fun hc177 => ?_) (fun hc177 => ?_)
  · refine own_ifY C A at_177 (Jvm.Free.XT.i0_eq_t hc177) (by decide) (q := 196) (by decide) ?_
    exact w0_196 C A v2 v4 xs_v5 V_v5 g_v5
  · refine own_ifN C A at_177 (Jvm.Free.XT.i0_eq_f hc177) rfl ?_
    refine own_aload C A at_180 rfl rfl rfl ?_
    refine own_iconst C A at_182 (v := 0) rfl rfl ?_
    refine own_iload C A at_183 rfl rfl ?_
    refine own_lloadN C A at_185 rfl rfl ?_
    refine own_callSI C A 0 [(.ref v5), (.int (0 : Int32)), (.int v4), (.long v2)] [] (own_w C 9 rfl) (own_w C 10 rfl) (own_w C 11 rfl) (own_w C 12 rfl) (by decide) (rm2 l Z a0 C.2.2.2.2.2.2.2.2 [] v5 (0 : Int32) v4 v2 xs_v5 _ _ (own_size A) V_v5 ⟨by decide, by decide⟩) rfl rfl (by decide) (by decide) (by decide) (by decide) own_pd1 rfl rfl rfl (Nat.le_of_eq rfl) rfl at_186 rfl (fun T A => ?_)
    refine own_ite (fun hc189 => ?_) (fun hc189 => ?_)
    · refine own_ifY C A at_189 (Jvm.Free.XT.i0_eq_t hc189) (by decide) (q := 196) (by decide) ?_
      exact w0_196 C A v2 v4 xs_v5 V_v5 g_v5
    · refine own_ifN C A at_189 (Jvm.Free.XT.i0_eq_f hc189) rfl ?_
      refine own_iconst C A at_192 (v := 1) rfl rfl ?_
      refine own_goto C A at_193 (by decide) (q := 197) (by decide) ?_
      exact w0_197 C A v2 v4 (1 : Int32) xs_v5 V_v5 g_v5
def f0_173 (v2 : Int64) (v4 : Int32) (s0 : Int32) (xs_v5 : List Int32) : Int32 := (f0_175 v2 v4 s0 xs_v5)
set_option maxRecDepth 65536 in
set_option maxHeartbeats 4000000 in
theorem w0_173 {Z : State} {a0 : Array Value} {p : Program} {l : Launch} {e : Env} {s : State} {m : MethodId} {args : Array Value} {below : List Frame} {meth : Method} {c : Code} {T : State} {h : Heap} {n0 : Nat} {u0 : Int32} {u1 : Int32} {v5 : Addr} {u6 : Int64} (C : own_Cx Z a0 p l e room_1 s m args below meth c "com/example/baler/baler/io/FieldsPutIntPinLaw" "law" code maxLocals ret) (A : own_At p l e room_1 s m args below meth c T h n0 1 8) (v2 : Int64) (v4 : Int32) (s0 : Int32) (xs_v5 : List Int32) (V_v5 : own_Ia Z h v5 .byte (8 : Int32) xs_v5) (g_v5 : n0 ≤ v5) :
    own_Go p.tables e below (T.setTop (mkF m 173 #[.val (.int u0), .val (.int u1), .val (.long v2), .second, .val (.int v4), .val (.ref v5), .val (.long u6), .second, .unset] [(.int s0)])) (own_QR s n0 1 8 (own_RV (f0_173 v2 v4 s0 xs_v5))) := by
  unfold f0_173
  refine own_istore C A at_173 (l' := #[.val (.int u0), .val (.int u1), .val (.long v2), .second, .val (.int v4), .val (.ref v5), .val (.long u6), .second, .val (.int s0)]) rfl rfl ?_
  exact w0_175 C A v2 v4 s0 xs_v5 V_v5 g_v5
def f0_101 (v0 : Int32) (v2 : Int64) (v4 : Int32) (xs_v5 : List Int32) : Int32 := (if ((((((xs_v5.getD (v4).toNatClampNeg 0).toInt64) * (16777216 : Int64)) + ((((xs_v5.getD ((v4 + (1 : Int32))).toNatClampNeg 0) &&& (255 : Int32)).toInt64) * (65536 : Int64))) + ((((xs_v5.getD ((v4 + (2 : Int32))).toNatClampNeg 0) &&& (255 : Int32)).toInt64) * (256 : Int64))) + (((xs_v5.getD ((v4 + (3 : Int32))).toNatClampNeg 0) &&& (255 : Int32)).toInt64)) = (v0.toInt64) then (f0_173 v2 v4 (1 : Int32) xs_v5) else (f0_173 v2 v4 (0 : Int32) xs_v5))
set_option maxRecDepth 65536 in
set_option maxHeartbeats 4000000 in
theorem w0_101 {Z : State} {a0 : Array Value} {p : Program} {l : Launch} {e : Env} {s : State} {m : MethodId} {args : Array Value} {below : List Frame} {meth : Method} {c : Code} {T : State} {h : Heap} {n0 : Nat} {u1 : Int32} {v5 : Addr} (C : own_Cx Z a0 p l e room_1 s m args below meth c "com/example/baler/baler/io/FieldsPutIntPinLaw" "law" code maxLocals ret) (A : own_At p l e room_1 s m args below meth c T h n0 1 8) (v0 : Int32) (v2 : Int64) (v4 : Int32) (xs_v5 : List Int32) (V_v5 : own_Ia Z h v5 .byte (8 : Int32) xs_v5) (g_v5 : n0 ≤ v5) (hv4 : ¬ v4 < 0 ∧ v4 < 5) :
    own_Go p.tables e below (T.setTop (mkF m 101 #[.val (.int v0), .val (.int u1), .val (.long v2), .second, .val (.int v4), .val (.ref v5), .unset, .unset, .unset] [])) (own_QR s n0 1 8 (own_RV (f0_101 v0 v2 v4 xs_v5))) := by
  unfold f0_101
  refine own_aload C A at_101 rfl rfl rfl ?_
  refine own_iload C A at_103 rfl rfl ?_
  refine own_baload C A V_v5 (own_in0 hv4) (v := (xs_v5.getD (v4).toNatClampNeg 0)) rfl at_105 rfl ?_
  refine own_i2l C A at_106 rfl ?_
  refine own_ldcJ C A (own_w C 6 rfl) at_107 rfl ?_
  refine own_lmul C A at_110 rfl ?_
  refine own_aload C A at_111 rfl rfl rfl ?_
  refine own_iload C A at_113 rfl rfl ?_
  refine own_iconst C A at_115 (v := 1) rfl rfl ?_
  refine own_iadd C A at_116 rfl ?_
  refine own_baload C A V_v5 (own_in1 hv4) (v := (xs_v5.getD ((v4 + (1 : Int32))).toNatClampNeg 0)) rfl at_117 rfl ?_
  refine own_sipush C A at_118 (v := 255) rfl rfl ?_
  refine own_iand C A at_121 rfl ?_
  refine own_i2l C A at_122 rfl ?_
  refine own_ldcJ C A (own_w C 7 rfl) at_123 rfl ?_
  refine own_lmul C A at_126 rfl ?_
  refine own_ladd C A at_127 rfl ?_
  refine own_aload C A at_128 rfl rfl rfl ?_
  refine own_iload C A at_130 rfl rfl ?_
  refine own_iconst C A at_132 (v := 2) rfl rfl ?_
  refine own_iadd C A at_133 rfl ?_
  refine own_baload C A V_v5 (own_in2 hv4) (v := (xs_v5.getD ((v4 + (2 : Int32))).toNatClampNeg 0)) rfl at_134 rfl ?_
  refine own_sipush C A at_135 (v := 255) rfl rfl ?_
  refine own_iand C A at_138 rfl ?_
  refine own_i2l C A at_139 rfl ?_
  refine own_ldcJ C A (own_w C 8 rfl) at_140 rfl ?_
  refine own_lmul C A at_143 rfl ?_
  refine own_ladd C A at_144 rfl ?_
  refine own_aload C A at_145 rfl rfl rfl ?_
  refine own_iload C A at_147 rfl rfl ?_
  refine own_iconst C A at_149 (v := 3) rfl rfl ?_
  refine own_iadd C A at_150 rfl ?_
  refine own_baload C A V_v5 (own_in3 hv4) (v := (xs_v5.getD ((v4 + (3 : Int32))).toNatClampNeg 0)) rfl at_151 rfl ?_
  refine own_sipush C A at_152 (v := 255) rfl rfl ?_
  refine own_iand C A at_155 rfl ?_
  refine own_i2l C A at_156 rfl ?_
  refine own_ladd C A at_157 rfl ?_
  refine own_lstore C A at_158 (l' := #[.val (.int v0), .val (.int u1), .val (.long v2), .second, .val (.int v4), .val (.ref v5), .val (.long ((((((xs_v5.getD (v4).toNatClampNeg 0).toInt64) * (16777216 : Int64)) + ((((xs_v5.getD ((v4 + (1 : Int32))).toNatClampNeg 0) &&& (255 : Int32)).toInt64) * (65536 : Int64))) + ((((xs_v5.getD ((v4 + (2 : Int32))).toNatClampNeg 0) &&& (255 : Int32)).toInt64) * (256 : Int64))) + (((xs_v5.getD ((v4 + (3 : Int32))).toNatClampNeg 0) &&& (255 : Int32)).toInt64))), .second, .unset]) rfl rfl ?_
  refine own_lload C A at_160 rfl rfl ?_
  refine own_iloadN C A at_162 rfl rfl ?_
  refine own_i2l C A at_163 rfl ?_
  refine own_lcmp C A at_164 rfl ?_
  refine own_ite (fun hc165 => ?_) (fun hc165 => ?_)
  · refine own_ifN C A at_165 (Jvm.Free.XT.ll_ne_f hc165) rfl ?_
    refine own_iconst C A at_168 (v := 1) rfl rfl ?_
    refine own_goto C A at_169 (by decide) (q := 173) (by decide) ?_
    exact w0_173 C A v2 v4 (1 : Int32) xs_v5 V_v5 g_v5
  · refine own_ifY C A at_165 (Jvm.Free.XT.ll_ne_t hc165) (by decide) (q := 172) (by decide) ?_
    refine own_iconst C A at_172 (v := 0) rfl rfl ?_
    exact w0_173 C A v2 v4 (0 : Int32) xs_v5 V_v5 g_v5
def f0_0 (v0 : Int32) (v1 : Int32) (v2 : Int64) : Int32 := (f0_101 v0 v2 ((v1 &&& (2147483647 : Int32)) % (5 : Int32)) (f1_0 ((v1 &&& (2147483647 : Int32)) % (5 : Int32)) v0 [(((v2.toInt32).toInt8.toInt32).toInt8.toInt32), (((((v2.toUInt64 >>> ((8 : Int32) &&& 0x3f).toInt64.toUInt64).toInt64).toInt32).toInt8.toInt32).toInt8.toInt32), (((((v2.toUInt64 >>> ((16 : Int32) &&& 0x3f).toInt64.toUInt64).toInt64).toInt32).toInt8.toInt32).toInt8.toInt32), (((((v2.toUInt64 >>> ((24 : Int32) &&& 0x3f).toInt64.toUInt64).toInt64).toInt32).toInt8.toInt32).toInt8.toInt32), (((((v2.toUInt64 >>> ((32 : Int32) &&& 0x3f).toInt64.toUInt64).toInt64).toInt32).toInt8.toInt32).toInt8.toInt32), (((((v2.toUInt64 >>> ((40 : Int32) &&& 0x3f).toInt64.toUInt64).toInt64).toInt32).toInt8.toInt32).toInt8.toInt32), (((((v2.toUInt64 >>> ((48 : Int32) &&& 0x3f).toInt64.toUInt64).toInt64).toInt32).toInt8.toInt32).toInt8.toInt32), (((((v2.toUInt64 >>> ((56 : Int32) &&& 0x3f).toInt64.toUInt64).toInt64).toInt32).toInt8.toInt32).toInt8.toInt32)]))
set_option maxRecDepth 65536 in
set_option maxHeartbeats 4000000 in
theorem w0_0 {Z : State} {a0 : Array Value} {p : Program} {l : Launch} {e : Env} {s : State} {m : MethodId} {args : Array Value} {below : List Frame} {meth : Method} {c : Code} {T : State} {h : Heap} {n0 : Nat}  (C : own_Cx Z a0 p l e room_1 s m args below meth c "com/example/baler/baler/io/FieldsPutIntPinLaw" "law" code maxLocals ret) (A : own_At p l e room_1 s m args below meth c T h n0 0 0) (v0 : Int32) (v1 : Int32) (v2 : Int64) :
    own_Go p.tables e below (T.setTop (mkF m 0 #[.val (.int v0), .val (.int v1), .val (.long v2), .second, .unset, .unset, .unset, .unset, .unset] [])) (own_QR s n0 1 8 (own_RV (f0_0 v0 v1 v2))) := by
  unfold f0_0
  refine own_iloadN C A at_0 rfl rfl ?_
  refine own_ldcI C A (own_w C 0 rfl) at_1 rfl ?_
  refine own_iand C A at_3 rfl ?_
  refine own_iconst C A at_4 (v := 5) rfl rfl ?_
  refine own_irem C A at_5 (by decide) rfl ?_
  refine own_istore C A at_6 (l' := #[.val (.int v0), .val (.int v1), .val (.long v2), .second, .val (.int ((v1 &&& (2147483647 : Int32)) % (5 : Int32))), .unset, .unset, .unset, .unset]) rfl rfl ?_
  refine own_bipush C A at_8 (v := 8) rfl rfl ?_
  refine own_newP C A 8 (own_w C 1 rfl) (by decide) (xs := [0, 0, 0, 0, 0, 0, 0, 0]) rfl (by decide) (by decide) rfl at_10 rfl (by decide) (by decide) (fun T h b10 e_b10 X_b10 V_b10 g_b10 A => ?_)
  refine own_astore C A at_12 rfl (l' := #[.val (.int v0), .val (.int v1), .val (.long v2), .second, .val (.int ((v1 &&& (2147483647 : Int32)) % (5 : Int32))), .val (.ref b10), .unset, .unset, .unset]) rfl rfl ?_
  refine own_aload C A at_14 rfl rfl rfl ?_
  refine own_iconst C A at_16 (v := 0) rfl rfl ?_
  refine own_lloadN C A at_17 rfl rfl ?_
  refine own_l2i C A at_18 rfl ?_
  refine own_i2b C A at_19 rfl ?_
  refine own_bastore C A V_b10 ⟨by decide, by decide⟩ (ys := [(((v2.toInt32).toInt8.toInt32).toInt8.toInt32), 0, 0, 0, 0, 0, 0, 0]) rfl g_b10 at_20 rfl (fun T h Kw V_b10 A => ?_)
  refine own_aload C A at_21 rfl rfl rfl ?_
  refine own_iconst C A at_23 (v := 1) rfl rfl ?_
  refine own_lloadN C A at_24 rfl rfl ?_
  refine own_bipush C A at_25 (v := 8) rfl rfl ?_
  refine own_lushr C A at_27 rfl ?_
  refine own_l2i C A at_28 rfl ?_
  refine own_i2b C A at_29 rfl ?_
  refine own_bastore C A V_b10 ⟨by decide, by decide⟩ (ys := [(((v2.toInt32).toInt8.toInt32).toInt8.toInt32), (((((v2.toUInt64 >>> ((8 : Int32) &&& 0x3f).toInt64.toUInt64).toInt64).toInt32).toInt8.toInt32).toInt8.toInt32), 0, 0, 0, 0, 0, 0]) rfl g_b10 at_30 rfl (fun T h Kw V_b10 A => ?_)
  refine own_aload C A at_31 rfl rfl rfl ?_
  refine own_iconst C A at_33 (v := 2) rfl rfl ?_
  refine own_lloadN C A at_34 rfl rfl ?_
  refine own_bipush C A at_35 (v := 16) rfl rfl ?_
  refine own_lushr C A at_37 rfl ?_
  refine own_l2i C A at_38 rfl ?_
  refine own_i2b C A at_39 rfl ?_
  refine own_bastore C A V_b10 ⟨by decide, by decide⟩ (ys := [(((v2.toInt32).toInt8.toInt32).toInt8.toInt32), (((((v2.toUInt64 >>> ((8 : Int32) &&& 0x3f).toInt64.toUInt64).toInt64).toInt32).toInt8.toInt32).toInt8.toInt32), (((((v2.toUInt64 >>> ((16 : Int32) &&& 0x3f).toInt64.toUInt64).toInt64).toInt32).toInt8.toInt32).toInt8.toInt32), 0, 0, 0, 0, 0]) rfl g_b10 at_40 rfl (fun T h Kw V_b10 A => ?_)
  refine own_aload C A at_41 rfl rfl rfl ?_
  refine own_iconst C A at_43 (v := 3) rfl rfl ?_
  refine own_lloadN C A at_44 rfl rfl ?_
  refine own_bipush C A at_45 (v := 24) rfl rfl ?_
  refine own_lushr C A at_47 rfl ?_
  refine own_l2i C A at_48 rfl ?_
  refine own_i2b C A at_49 rfl ?_
  refine own_bastore C A V_b10 ⟨by decide, by decide⟩ (ys := [(((v2.toInt32).toInt8.toInt32).toInt8.toInt32), (((((v2.toUInt64 >>> ((8 : Int32) &&& 0x3f).toInt64.toUInt64).toInt64).toInt32).toInt8.toInt32).toInt8.toInt32), (((((v2.toUInt64 >>> ((16 : Int32) &&& 0x3f).toInt64.toUInt64).toInt64).toInt32).toInt8.toInt32).toInt8.toInt32), (((((v2.toUInt64 >>> ((24 : Int32) &&& 0x3f).toInt64.toUInt64).toInt64).toInt32).toInt8.toInt32).toInt8.toInt32), 0, 0, 0, 0]) rfl g_b10 at_50 rfl (fun T h Kw V_b10 A => ?_)
  refine own_aload C A at_51 rfl rfl rfl ?_
  refine own_iconst C A at_53 (v := 4) rfl rfl ?_
  refine own_lloadN C A at_54 rfl rfl ?_
  refine own_bipush C A at_55 (v := 32) rfl rfl ?_
  refine own_lushr C A at_57 rfl ?_
  refine own_l2i C A at_58 rfl ?_
  refine own_i2b C A at_59 rfl ?_
  refine own_bastore C A V_b10 ⟨by decide, by decide⟩ (ys := [(((v2.toInt32).toInt8.toInt32).toInt8.toInt32), (((((v2.toUInt64 >>> ((8 : Int32) &&& 0x3f).toInt64.toUInt64).toInt64).toInt32).toInt8.toInt32).toInt8.toInt32), (((((v2.toUInt64 >>> ((16 : Int32) &&& 0x3f).toInt64.toUInt64).toInt64).toInt32).toInt8.toInt32).toInt8.toInt32), (((((v2.toUInt64 >>> ((24 : Int32) &&& 0x3f).toInt64.toUInt64).toInt64).toInt32).toInt8.toInt32).toInt8.toInt32), (((((v2.toUInt64 >>> ((32 : Int32) &&& 0x3f).toInt64.toUInt64).toInt64).toInt32).toInt8.toInt32).toInt8.toInt32), 0, 0, 0]) rfl g_b10 at_60 rfl (fun T h Kw V_b10 A => ?_)
  refine own_aload C A at_61 rfl rfl rfl ?_
  refine own_iconst C A at_63 (v := 5) rfl rfl ?_
  refine own_lloadN C A at_64 rfl rfl ?_
  refine own_bipush C A at_65 (v := 40) rfl rfl ?_
  refine own_lushr C A at_67 rfl ?_
  refine own_l2i C A at_68 rfl ?_
  refine own_i2b C A at_69 rfl ?_
  refine own_bastore C A V_b10 ⟨by decide, by decide⟩ (ys := [(((v2.toInt32).toInt8.toInt32).toInt8.toInt32), (((((v2.toUInt64 >>> ((8 : Int32) &&& 0x3f).toInt64.toUInt64).toInt64).toInt32).toInt8.toInt32).toInt8.toInt32), (((((v2.toUInt64 >>> ((16 : Int32) &&& 0x3f).toInt64.toUInt64).toInt64).toInt32).toInt8.toInt32).toInt8.toInt32), (((((v2.toUInt64 >>> ((24 : Int32) &&& 0x3f).toInt64.toUInt64).toInt64).toInt32).toInt8.toInt32).toInt8.toInt32), (((((v2.toUInt64 >>> ((32 : Int32) &&& 0x3f).toInt64.toUInt64).toInt64).toInt32).toInt8.toInt32).toInt8.toInt32), (((((v2.toUInt64 >>> ((40 : Int32) &&& 0x3f).toInt64.toUInt64).toInt64).toInt32).toInt8.toInt32).toInt8.toInt32), 0, 0]) rfl g_b10 at_70 rfl (fun T h Kw V_b10 A => ?_)
  refine own_aload C A at_71 rfl rfl rfl ?_
  refine own_bipush C A at_73 (v := 6) rfl rfl ?_
  refine own_lloadN C A at_75 rfl rfl ?_
  refine own_bipush C A at_76 (v := 48) rfl rfl ?_
  refine own_lushr C A at_78 rfl ?_
  refine own_l2i C A at_79 rfl ?_
  refine own_i2b C A at_80 rfl ?_
  refine own_bastore C A V_b10 ⟨by decide, by decide⟩ (ys := [(((v2.toInt32).toInt8.toInt32).toInt8.toInt32), (((((v2.toUInt64 >>> ((8 : Int32) &&& 0x3f).toInt64.toUInt64).toInt64).toInt32).toInt8.toInt32).toInt8.toInt32), (((((v2.toUInt64 >>> ((16 : Int32) &&& 0x3f).toInt64.toUInt64).toInt64).toInt32).toInt8.toInt32).toInt8.toInt32), (((((v2.toUInt64 >>> ((24 : Int32) &&& 0x3f).toInt64.toUInt64).toInt64).toInt32).toInt8.toInt32).toInt8.toInt32), (((((v2.toUInt64 >>> ((32 : Int32) &&& 0x3f).toInt64.toUInt64).toInt64).toInt32).toInt8.toInt32).toInt8.toInt32), (((((v2.toUInt64 >>> ((40 : Int32) &&& 0x3f).toInt64.toUInt64).toInt64).toInt32).toInt8.toInt32).toInt8.toInt32), (((((v2.toUInt64 >>> ((48 : Int32) &&& 0x3f).toInt64.toUInt64).toInt64).toInt32).toInt8.toInt32).toInt8.toInt32), 0]) rfl g_b10 at_81 rfl (fun T h Kw V_b10 A => ?_)
  refine own_aload C A at_82 rfl rfl rfl ?_
  refine own_bipush C A at_84 (v := 7) rfl rfl ?_
  refine own_lloadN C A at_86 rfl rfl ?_
  refine own_bipush C A at_87 (v := 56) rfl rfl ?_
  refine own_lushr C A at_89 rfl ?_
  refine own_l2i C A at_90 rfl ?_
  refine own_i2b C A at_91 rfl ?_
  refine own_bastore C A V_b10 ⟨by decide, by decide⟩ (ys := [(((v2.toInt32).toInt8.toInt32).toInt8.toInt32), (((((v2.toUInt64 >>> ((8 : Int32) &&& 0x3f).toInt64.toUInt64).toInt64).toInt32).toInt8.toInt32).toInt8.toInt32), (((((v2.toUInt64 >>> ((16 : Int32) &&& 0x3f).toInt64.toUInt64).toInt64).toInt32).toInt8.toInt32).toInt8.toInt32), (((((v2.toUInt64 >>> ((24 : Int32) &&& 0x3f).toInt64.toUInt64).toInt64).toInt32).toInt8.toInt32).toInt8.toInt32), (((((v2.toUInt64 >>> ((32 : Int32) &&& 0x3f).toInt64.toUInt64).toInt64).toInt32).toInt8.toInt32).toInt8.toInt32), (((((v2.toUInt64 >>> ((40 : Int32) &&& 0x3f).toInt64.toUInt64).toInt64).toInt32).toInt8.toInt32).toInt8.toInt32), (((((v2.toUInt64 >>> ((48 : Int32) &&& 0x3f).toInt64.toUInt64).toInt64).toInt32).toInt8.toInt32).toInt8.toInt32), (((((v2.toUInt64 >>> ((56 : Int32) &&& 0x3f).toInt64.toUInt64).toInt64).toInt32).toInt8.toInt32).toInt8.toInt32)]) rfl g_b10 at_92 rfl (fun T h Kw V_b10 A => ?_)
  refine own_aload C A at_93 rfl rfl rfl ?_
  refine own_iload C A at_95 rfl rfl ?_
  refine own_iloadN C A at_97 rfl rfl ?_
  refine own_callS C A 0 [(.ref b10), (.int ((v1 &&& (2147483647 : Int32)) % (5 : Int32))), (.int v0)] [] (own_w C 2 rfl) (own_w C 3 rfl) (own_w C 4 rfl) (own_w C 5 rfl) (by decide) (rm1 l Z a0 C.2.2.2.2.2.2.2.2 [] b10 ((v1 &&& (2147483647 : Int32)) % (5 : Int32)) v0 [(((v2.toInt32).toInt8.toInt32).toInt8.toInt32), (((((v2.toUInt64 >>> ((8 : Int32) &&& 0x3f).toInt64.toUInt64).toInt64).toInt32).toInt8.toInt32).toInt8.toInt32), (((((v2.toUInt64 >>> ((16 : Int32) &&& 0x3f).toInt64.toUInt64).toInt64).toInt32).toInt8.toInt32).toInt8.toInt32), (((((v2.toUInt64 >>> ((24 : Int32) &&& 0x3f).toInt64.toUInt64).toInt64).toInt32).toInt8.toInt32).toInt8.toInt32), (((((v2.toUInt64 >>> ((32 : Int32) &&& 0x3f).toInt64.toUInt64).toInt64).toInt32).toInt8.toInt32).toInt8.toInt32), (((((v2.toUInt64 >>> ((40 : Int32) &&& 0x3f).toInt64.toUInt64).toInt64).toInt32).toInt8.toInt32).toInt8.toInt32), (((((v2.toUInt64 >>> ((48 : Int32) &&& 0x3f).toInt64.toUInt64).toInt64).toInt32).toInt8.toInt32).toInt8.toInt32), (((((v2.toUInt64 >>> ((56 : Int32) &&& 0x3f).toInt64.toUInt64).toInt64).toInt32).toInt8.toInt32).toInt8.toInt32)] _ _ (own_size A) V_b10 g_b10 (own_off _)) (by decide) (by decide) (by decide) (by decide) own_pd0 rfl rfl rfl (Nat.le_of_eq rfl) rfl at_98 rfl (fun v T h hP A => ?_)
  replace A := own_more A (kc' := 1) (ks' := 8) (by decide) (by decide)
  obtain ⟨rfl, Kc, V_b10⟩ := hP
  show own_Go p.tables e below (T.setTop (mkF m 101 #[.val (.int v0), .val (.int v1), .val (.long v2), .second, .val (.int ((v1 &&& (2147483647 : Int32)) % (5 : Int32))), .val (.ref b10), .unset, .unset, .unset] [])) _
  exact w0_101 C A v0 v2 ((v1 &&& (2147483647 : Int32)) % (5 : Int32)) (f1_0 ((v1 &&& (2147483647 : Int32)) % (5 : Int32)) v0 [(((v2.toInt32).toInt8.toInt32).toInt8.toInt32), (((((v2.toUInt64 >>> ((8 : Int32) &&& 0x3f).toInt64.toUInt64).toInt64).toInt32).toInt8.toInt32).toInt8.toInt32), (((((v2.toUInt64 >>> ((16 : Int32) &&& 0x3f).toInt64.toUInt64).toInt64).toInt32).toInt8.toInt32).toInt8.toInt32), (((((v2.toUInt64 >>> ((24 : Int32) &&& 0x3f).toInt64.toUInt64).toInt64).toInt32).toInt8.toInt32).toInt8.toInt32), (((((v2.toUInt64 >>> ((32 : Int32) &&& 0x3f).toInt64.toUInt64).toInt64).toInt32).toInt8.toInt32).toInt8.toInt32), (((((v2.toUInt64 >>> ((40 : Int32) &&& 0x3f).toInt64.toUInt64).toInt64).toInt32).toInt8.toInt32).toInt8.toInt32), (((((v2.toUInt64 >>> ((48 : Int32) &&& 0x3f).toInt64.toUInt64).toInt64).toInt32).toInt8.toInt32).toInt8.toInt32), (((((v2.toUInt64 >>> ((56 : Int32) &&& 0x3f).toInt64.toUInt64).toInt64).toInt32).toInt8.toInt32).toInt8.toInt32)]) V_b10 g_b10 (own_off _)
theorem own_ef0 (m : MethodId) (v0 : Int32) (v1 : Int32) (v2 : Int64) : entryFrame m #[(.int v0), (.int v1), (.long v2)] maxLocals = mkF m 0 #[.val (.int v0), .val (.int v1), .val (.long v2), .second, .unset, .unset, .unset, .unset, .unset] [] := by first | (simp [entryFrame, mkF, argsToLocals, Value.category, maxLocals]; done) | rfl
theorem rm0 (l : Launch) (Z : State) (a0 : Array Value) (hw : ∀ d ∈ tables_1, d.before a0 Z = true) (ws : List Jvm.Cond) (v0 : Int32) (v1 : Int32) (v2 : Int64) (h : Heap) (n0 : Nat) (hn : n0 ≤ h.size) :
    MetFree l x (head1 (Jvm.Cond.code x code maxLocals ret :: ws) room_1) (fun a U => a = #[(.int v0), (.int v1), (.long v2)] ∧ Z.Warmed39 U.vm ∧ U.heap = h) (fun _ _ _ _ _ => True) (fun _ U o U' => own_QR U n0 1 8 (own_RV (f0_0 v0 v1 v2)) o U') :=
  own_met (plainFor_of_name (by first | (simp [plainName, overriddenIn, x]; done) | decide +kernel)) hw hn (fun m => own_ef0 m v0 v1 v2) (fun p e s m below meth c T C A => w0_0 C A v0 v1 v2)
theorem own_idem (y : Int32) : (y.toInt8.toInt32).toInt8.toInt32 = y.toInt8.toInt32 := by simp
theorem own_keep (i off : Int32) (f : Int64) (xs : List Int32) (h : (¬ i < off ∧ i < off + 4) ∨ xs.getD i.toNatClampNeg 0 = (((f.toUInt64 >>> (((8 : Int32) * i) &&& 0x3f).toInt64.toUInt64).toInt64).toInt32).toInt8.toInt32) : f2_0 i off f xs = 1 := by
  unfold f2_0 f2_12 f2_26
  rcases h with ⟨h1, h2⟩ | h
  · rw [if_neg h1, if_pos h2]
  · rw [if_pos h]
    split
    · rfl
    · split <;> rfl
theorem own_chain (f : Int64) (off : Int32) (xs : List Int32) (h : ∀ i : Int32, i = 0 ∨ i = 1 ∨ i = 2 ∨ i = 3 ∨ i = 4 ∨ i = 5 ∨ i = 6 ∨ i = 7 → f2_0 i off f xs = 1) : f0_173 f off 1 xs = 1 := by
  have n1 : ¬ (1 : Int32) = 0 := by decide
  unfold f0_173 f0_175 f0_196 f0_197 f0_199 f0_220 f0_221 f0_223 f0_244 f0_245 f0_247 f0_268 f0_269 f0_271 f0_292 f0_293 f0_295 f0_316 f0_317 f0_319 f0_341 f0_342 f0_344 f0_366 f0_367 f0_369
  rw [h 0 (by simp), h 1 (by simp), h 2 (by simp), h 3 (by simp), h 4 (by simp), h 5 (by simp), h 6 (by simp), h 7 (by simp)]
  simp only [n1, if_false]
  rfl
theorem own_mulx (z : Int32) (k : Int64) (K : Int) (hk : k.toInt = K) (h1 : -256 ≤ z.toInt) (h2 : z.toInt ≤ 255) (h3 : 0 < K) (h4 : K ≤ 16777216) : (z.toInt64 * k).toInt = z.toInt * K := by
  have m := c_lmul z.toInt64 k
  have r := rng64 (z.toInt64 * k)
  rw [c_i2l, hk] at m
  have b1 : -256 * K ≤ z.toInt * K := Int.mul_le_mul_of_nonneg_right h1 (by omega)
  have b2 : z.toInt * K ≤ 255 * K := Int.mul_le_mul_of_nonneg_right h2 (by omega)
  generalize z.toInt * K = M at *
  omega
theorem own_addx (a b : Int64) (h1 : -10000000000 ≤ a.toInt) (h2 : a.toInt ≤ 10000000000) (h3 : -10000000000 ≤ b.toInt) (h4 : b.toInt ≤ 10000000000) : (a + b).toInt = a.toInt + b.toInt := by
  have m := c_ladd a b
  have r := rng64 (a + b)
  omega
theorem own_re (v z0 z1 z2 z3 : Int32) (h0 : -128 ≤ z0.toInt ∧ z0.toInt < 128) (h1 : 0 ≤ z1.toInt ∧ z1.toInt < 256) (h2 : 0 ≤ z2.toInt ∧ z2.toInt < 256) (h3 : 0 ≤ z3.toInt ∧ z3.toInt < 256) (hv : z0.toInt * 16777216 + z1.toInt * 65536 + z2.toInt * 256 + z3.toInt = v.toInt) :
    (((z0.toInt64 * (16777216 : Int64)) + (z1.toInt64 * (65536 : Int64))) + (z2.toInt64 * (256 : Int64))) + z3.toInt64 = v.toInt64 := by
  have m0 := own_mulx z0 16777216 16777216 rfl (by omega) (by omega) (by omega) (by omega)
  have m1 := own_mulx z1 65536 65536 rfl (by omega) (by omega) (by omega) (by omega)
  have m2 := own_mulx z2 256 256 rfl (by omega) (by omega) (by omega) (by omega)
  have p1 := own_addx (z0.toInt64 * 16777216) (z1.toInt64 * 65536) (by omega) (by omega) (by omega) (by omega)
  have p2 := own_addx (z0.toInt64 * 16777216 + z1.toInt64 * 65536) (z2.toInt64 * 256) (by omega) (by omega) (by omega) (by omega)
  have i3 := c_i2l z3
  have p3 := own_addx (z0.toInt64 * 16777216 + z1.toInt64 * 65536 + z2.toInt64 * 256) z3.toInt64 (by omega) (by omega) (by omega) (by omega)
  apply Int64.toInt_inj.mp
  rw [p3, p2, p1, m0, m1, m2, i3, c_i2l]
  exact hv
theorem own_dig (V z0 z1 z2 z3 : Int) (hV : -2147483648 ≤ V ∧ V < 2147483648) (h0 : (z0 - V % 4294967296 / 16777216) % 256 = 0) (h0' : -128 ≤ z0 ∧ z0 < 128) (h1 : z1 = V % 4294967296 / 65536 % 256) (h2 : z2 = V % 4294967296 / 256 % 256) (h3 : z3 = V % 256) : z0 * 16777216 + z1 * 65536 + z2 * 256 + z3 = V := by
  omega
theorem own_top (v : Int32) : ((((((v.toUInt32 >>> ((24 : Int32) &&& 31).toUInt32).toInt32).toInt8.toInt32).toInt8.toInt32).toInt - v.toInt % 4294967296 / 16777216) % 256 = 0) ∧ -128 ≤ (((((v.toUInt32 >>> ((24 : Int32) &&& 31).toUInt32).toInt32).toInt8.toInt32).toInt8.toInt32).toInt) ∧ (((((v.toUInt32 >>> ((24 : Int32) &&& 31).toUInt32).toInt32).toInt8.toInt32).toInt8.toInt32).toInt) < 128 := by
  have a0 : ((v.toUInt32 >>> ((24 : Int32) &&& 31).toUInt32).toInt32).toInt = v.toInt % 4294967296 / 16777216 := c_iushr v 24 24 (by decide) (by decide)
  have b0 := c_i2b ((v.toUInt32 >>> ((24 : Int32) &&& 31).toUInt32).toInt32)
  have b1 := c_i2b (((v.toUInt32 >>> ((24 : Int32) &&& 31).toUInt32).toInt32).toInt8.toInt32)
  rw [a0] at b0
  generalize v.toInt % 4294967296 / 16777216 = M at *
  omega
theorem own_mid (v q : Int32) (k : Nat) (hk : q.toBitVec.toNat % 32 = k) (h0 : 0 < k) (K : Int) (hK : ((2 ^ k : Nat) : Int) = K) : (((((v.toUInt32 >>> (q &&& 31).toUInt32).toInt32).toInt8.toInt32).toInt8.toInt32) &&& 255).toInt = v.toInt % 4294967296 / K % 256 := by
  have a := c_iushr v q k hk h0
  have b := own_byte ((v.toUInt32 >>> (q &&& 31).toUInt32).toInt32)
  rw [b, a, hK]
theorem own_rb (x : Int32) : 0 ≤ (x &&& 255).toInt ∧ (x &&& 255).toInt < 256 := by
  have := c_mask x 255 8 (by decide) (by decide)
  omega
theorem own_sum (v : Int32) : ((((((((((v.toUInt32 >>> ((24 : Int32) &&& 31).toUInt32).toInt32).toInt8.toInt32).toInt8.toInt32).toInt64) * (16777216 : Int64)) + (((((((v.toUInt32 >>> ((16 : Int32) &&& 31).toUInt32).toInt32).toInt8.toInt32).toInt8.toInt32) &&& (255 : Int32)).toInt64) * (65536 : Int64))) + (((((((v.toUInt32 >>> ((8 : Int32) &&& 31).toUInt32).toInt32).toInt8.toInt32).toInt8.toInt32) &&& (255 : Int32)).toInt64) * (256 : Int64))) + ((((v.toInt8.toInt32).toInt8.toInt32) &&& (255 : Int32)).toInt64))) = (v.toInt64) := by
  refine own_re v _ _ _ _ (own_top v).2 (own_rb _) (own_rb _) (own_rb _) ?_
  exact own_dig v.toInt _ _ _ _ (rng32 v) (own_top v).1 (own_top v).2 (own_mid v 16 16 (by decide) (by decide) 65536 (by decide)) (own_mid v 8 8 (by decide) (by decide) 256 (by decide)) (own_byte v)
theorem own_sh0 (p : Int64) : ((p.toUInt64 >>> (((8 : Int32) * 0) &&& 0x3f).toInt64.toUInt64).toInt64) = p := by
  apply Int64.toBitVec_inj.mp
  simp
theorem own_plain (v o : Int32) (f : Int64) : f0_0 v o f = 1 := by
  unfold f0_0
  generalize hq : ((o &&& (2147483647 : Int32)) % (5 : Int32)) = q
  have h5 := own_five (hq ▸ own_off o)
  have hs := own_sum v
  simp only [own_idem] at hs ⊢
  unfold f0_101
  rcases h5 with rfl | rfl | rfl | rfl | rfl
  all_goals
    rw [if_pos (by unfold f1_0; simp only [own_idem]; exact hs)]
    apply own_chain
    intro i hi
    apply own_keep
    rcases hi with rfl | rfl | rfl | rfl | rfl | rfl | rfl | rfl
    all_goals first | exact Or.inl (by decide) | exact Or.inr (by unfold f1_0; simp only [own_idem]; rfl) | exact Or.inr (by unfold f1_0; simp only [own_idem]; rw [own_sh0]; rfl)

set_option maxRecDepth 65536 in
set_option maxHeartbeats 40000000 in
theorem own_comes {Post : Tables → Env → Array Value → State → Outcome → State → Prop} (hpost : ∀ tb e args s v u, (limb_1_1.after args s (.returned v) u = true ∧ limb_1_2.after args s (.returned v) u = true ∧ True) → FrameEnd s (.returned v) u (Jvm.fieldLocs frame_1_writes args s ++ Jvm.arrayLocs frame_1_arrays args s ++ Jvm.staticLocs frame_1_statics s) 16 128 → Post tb e args s (.returned v) u) :
    ArmFor flags0 classFile x code maxLocals ret World_1 tables_1 room_1 Calls_1 rest_1 Pre_1 Post := by
  intro l hfl _ _ p e ha hc hk s m args below hf hA hF happ hP
  obtain ⟨hcalls, hrest, hpre⟩ := hP
  obtain ⟨-, -, -, hnamed, -, -, -, hat⟩ := (Spec.applies_iff hf).mp happ
  obtain ⟨hg, hn⟩ := and_e (Cond.before_iff.mp (show (Jvm.Cond.and given_1 narrow_1).before args s = true from hpre))
  obtain ⟨h1, g0⟩ := and_e hg
  obtain ⟨k0, g1⟩ := and_e g0
  obtain ⟨k1, g2⟩ := and_e g1
  obtain ⟨w0, w1, w2, rfl⟩ : ∃ w0 w1 w2 : Value, args = #[w0, w1, w2] := by
    have hs : args.size = 3 := by simpa [Cond.value, given_1] using h1
    obtain ⟨L⟩ := args
    match L, hs with
    | [w0, w1, w2], _ => exact ⟨w0, w1, w2, rfl⟩
  have hw := fun d (hd : d ∈ tables_1) => atoms_spec (ws := Jvm.Cond.code x code maxLocals ret :: tables_1) hat d (List.mem_cons_of_mem _ hd)
  obtain ⟨i0, e0⟩ := is_v k0
  obtain rfl : w0 = (.int i0) := Option.some.inj e0
  obtain ⟨i1, e1⟩ := is_v k1
  obtain rfl : w1 = (.int i1) := Option.some.inj e1
  obtain ⟨i2, e2⟩ := isL_v g2
  obtain rfl : w2 = (.long i2) := Option.some.inj e2
  obtain ⟨n, o, h1, h2, h3, _, L, rfl, ⟨hv, N⟩, hq⟩ := rm0 l s _ hw tables_1 i0 i1 i2 s.heap s.heap.size (Nat.le_refl _) p e ha hc hk s m _ below hf ((Spec.applies_iff_loose hf).mp happ).1 ⟨rfl, State.Warmed39.refl s, rfl⟩ trivial
  have hv' := Eq.trans hv (congrArg (fun z => some (Value.int z)) (own_plain i0 i1 i2))
  subst hv'
  refine ⟨n, _, h1, h2, h3, hpost _ _ _ _ _ _ ⟨Cond.after_iff.mpr rfl, Cond.after_iff.mpr (eq_i res_at (Term.int_eval (1)) rfl), trivial⟩ ⟨hq.1, hq.2.1, (hq.2.2.sift fun y hy => Or.inr (N y hy)).mono (by decide) (by decide)⟩⟩
theorem main_1_1 : Claimed_1_1 := own_comes fun _ _ _ _ _ _ h hF => ⟨h.1, hF⟩
theorem main_1_2 : Claimed_1_2 := own_comes fun _ _ _ _ _ _ h hF => ⟨h.2.1, hF⟩
end Jvm.Pilot.@@N@@
namespace Jvm.Pilot.@@N@@
open Jvm Jvm.ClassFile Sem Op Lib Jvm.Free Jvm.Stand Jvm.Pilot.@@N@@.Jvm.D
/-! MADE BY PROGRAM (witnessworld.py) out of the Statement's table words and the real class files: 9 classes; the members and pool entries that the words name. The judged class is class 1, her method 1. -/
namespace start1
open Jvm.ClassFile
def u (s : String) : CpInfo := .utf8 (stringToUtf16 s)
/-- a pool by its gaps: so many unusable entries, then the entry; so many at the end -/
def gap : Nat → List CpInfo → List CpInfo
  | 0, r => r
  | n + 1, r => .unusable :: gap n r
def poolList (es : List (Nat × CpInfo)) (last : Nat) : List CpInfo := es.foldr (fun e r => gap e.1 (e.2 :: r)) (gap last [])
def pool (es : List (Nat × CpInfo)) (last : Nat) : Array CpInfo := ⟨poolList es last⟩
def fileOf (pool : Array CpInfo) (this : Nat) (attrs : Array Attribute := #[]) (ms : Array MethodInfo := #[]) (fl : Nat := 33) (sup : Nat := 0) (ifs : Array Nat := #[]) (fds : Array FieldInfo := #[]) : ClassFile where
  minorVersion := 0
  majorVersion := 65
  constantPool := pool
  accessFlags := fl
  thisClass := this
  superClass := sup
  interfaces := ifs
  fields := fds
  methods := ms
  attributes := attrs
def plain (name : String) (sup : Option ClassId) : Class where
  name := name
  kind := .ordinary
  loader := none
  accessFlags := 33
  super := sup
  interfaces := #[]
  cf := none
  fields := #[]
  methods := #[]
  instanceTypes := #[]
  staticTypes := #[]
  resolved := #[]
  callSites := []
  init := .initialized
  statics := none
  mirror := none

def pool0 : Array CpInfo := pool [(5, u "<init>"), (0, u "()V"), (1, .class_ 10), (1, u "java/lang/Object")] 113

def k0m0 : Method := { name := "<init>", desc := "()V", sig := { parameters := [], returnType := none }, accessFlags := 1, code := none }
/-- java/lang/Object -/
def k0 : Class := { plain "java/lang/Object" none with
  accessFlags := 33
  interfaces := #[]
  cf := some (fileOf pool0 8 #[] #[{ accessFlags := 1, nameIndex := 5, descriptorIndex := 6, attributes := #[] }] 33 0 #[] #[])
  fields := #[]
  methods := #[k0m0]
  instanceTypes := #[]
  staticTypes := #[]
  resolved := Array.replicate 124 none
  statics := none }

def pool1 : Array CpInfo := pool [(2, .class_ 4), (1, u "java/lang/Object"), (0, u "<init>"), (0, u "()V"), (0, .integer 2147483647), (0, .methodref 9 10), (0, .class_ 11), (0, .nameAndType 12 13), (0, u "com/example/baler/baler/io/Fields"), (0, u "putInt"), (0, u "([BII)V"), (0, .long 16777216), (1, .long 65536), (1, .long 256), (1, .methodref 21 22), (0, .class_ 23), (0, .nameAndType 24 25), (0, u "com/example/baler/baler/io/FieldsPutIntPinLaw"), (0, u "keep"), (0, u "([BIIJ)Z"), (2, u "law"), (0, u "(IIJ)Z")] 5

def k1m0 : Method := { name := "<init>", desc := "()V", sig := { parameters := [], returnType := none }, accessFlags := 1, code := none }
def k1c1 : Code := { maxStack := 6, maxLocals := 9, code := code, exceptionTable := #[], attributes := #[] }
def k1m1 : Method := { name := "law", desc := "(IIJ)Z", sig := { parameters := [.int, .int, .long], returnType := some .boolean }, accessFlags := 9, code := some k1c1 }
def k1c2 : Code := { maxStack := 5, maxLocals := 5, code := method_3_code, exceptionTable := #[], attributes := #[] }
def k1m2 : Method := { name := "keep", desc := "([BIIJ)Z", sig := { parameters := [(.array .byte), .int, .int, .long], returnType := some .boolean }, accessFlags := 10, code := some k1c2 }
/-- com/example/baler/baler/io/FieldsPutIntPinLaw -/
def k1 : Class := { plain "com/example/baler/baler/io/FieldsPutIntPinLaw" (some 0) with
  accessFlags := 49
  interfaces := #[]
  cf := some (fileOf pool1 21 #[] #[{ accessFlags := 1, nameIndex := 5, descriptorIndex := 6, attributes := #[] }, { accessFlags := 9, nameIndex := 28, descriptorIndex := 29, attributes := #[] }, { accessFlags := 10, nameIndex := 24, descriptorIndex := 25, attributes := #[] }] 49 2 #[] #[])
  fields := #[]
  methods := #[k1m0, k1m1, k1m2]
  instanceTypes := #[]
  staticTypes := #[]
  resolved := Array.replicate 35 none
  statics := none }

def pool2 : Array CpInfo := pool [(2, .class_ 4), (1, u "java/lang/Object"), (3, .class_ 10), (1, u "com/example/baler/baler/io/Fields"), (0, u "bytes"), (0, u "[B"), (2, u "position"), (0, u "I"), (2, u "putInt"), (0, u "([BII)V")] 34

def k2c0 : Code := { maxStack := 4, maxLocals := 3, code := prog_30_method_11_code, exceptionTable := #[], attributes := #[] }
def k2m0 : Method := { name := "putInt", desc := "([BII)V", sig := { parameters := [(.array .byte), .int, .int], returnType := none }, accessFlags := 8, code := some k2c0 }
/-- com/example/baler/baler/io/Fields -/
def k2 : Class := { plain "com/example/baler/baler/io/Fields" (some 0) with
  accessFlags := 48
  interfaces := #[]
  cf := some (fileOf pool2 8 #[] #[{ accessFlags := 8, nameIndex := 19, descriptorIndex := 20, attributes := #[] }] 48 2 #[] #[{ accessFlags := 18, nameIndex := 11, descriptorIndex := 12, attributes := #[] }, { accessFlags := 2, nameIndex := 15, descriptorIndex := 16, attributes := #[] }])
  fields := #[{ name := "bytes", type := (.array .byte), accessFlags := 18, slot := 0, constantValue := 0 }, { name := "position", type := .int, accessFlags := 2, slot := 1, constantValue := 0 }]
  methods := #[k2m0]
  instanceTypes := #[(.array .byte), .int]
  staticTypes := #[]
  resolved := Array.replicate 55 none
  statics := none }

def pool3 : Array CpInfo := pool [(1, u "java/lang/Cloneable"), (0, .class_ 1), (0, u "java/lang/Object"), (0, .class_ 3)] 3

/-- java/lang/Cloneable -/
def k3 : Class := { plain "java/lang/Cloneable" (some 0) with
  accessFlags := 1537
  interfaces := #[]
  cf := some (fileOf pool3 2 #[] #[] 1537 4 #[] #[])
  fields := #[]
  methods := #[]
  instanceTypes := #[]
  staticTypes := #[]
  resolved := Array.replicate 8 none
  statics := none }

def pool4 : Array CpInfo := pool [(1, u "java/io/Serializable"), (0, .class_ 1), (0, u "java/lang/Object"), (0, .class_ 3)] 3

/-- java/io/Serializable -/
def k4 : Class := { plain "java/io/Serializable" (some 0) with
  accessFlags := 1537
  interfaces := #[]
  cf := some (fileOf pool4 2 #[] #[] 1537 4 #[] #[])
  fields := #[]
  methods := #[]
  instanceTypes := #[]
  staticTypes := #[]
  resolved := Array.replicate 8 none
  statics := none }

/-- the primitive byte -/
def k5 : Class := { plain "byte" none with kind := .primitive 'B', accessFlags := 0x411 }
/-- [B -/
def k6 : Class := { plain "[B" (some 0) with kind := .array 5 .byte, interfaces := #[3, 4], accessFlags := 1041 }

/-- the primitive int -/
def k7 : Class := { plain "int" none with kind := .primitive 'I', accessFlags := 0x411 }
/-- [I -/
def k8 : Class := { plain "[I" (some 0) with kind := .array 7 .int, interfaces := #[3, 4], accessFlags := 1041 }

def heap : Heap := #[]
def classes : Array Class := #[k0, k1, k2, k3, k4, k5, k6, k7, k8]
def interned : List (Array UInt16 × Addr) := []
def slotsUsed : Nat := 0
def theMethod : MethodId := ⟨1, 1⟩
def args0 : Array Value := #[.int 5, .int 7, .long 9]
def aboutOver (below : List Frame) : State where
  vm := { classes := classes, interned := interned.toArray }
  heap := heap
  slotsUsed := slotsUsed
  threads := #[{ frames := .invoking theMethod args0 :: below }]
def below0 : List Frame := [.native { method := ⟨0, 0⟩, args := #[] }]
def about1 : State := aboutOver below0
def p0 : Program := .bare "" "" ""
def e0 : Env := launch0.env 0 0 0
theorem w_frames : about1.frames = Frame.invoking theMethod args0 :: below0 := rfl
set_option maxRecDepth 65536 in
theorem w_args : argsFit about1.vm theMethod args0 = true := by decide +kernel
set_option maxRecDepth 65536 in
theorem w_heap : heapFits about1 = true := by decide +kernel
set_option maxRecDepth 65536 in
theorem w_runnable : about1.curStatus? = some .runnable := by decide +kernel
set_option maxRecDepth 65536 in
theorem w_alone : about1.alone = true := by decide +kernel
set_option maxRecDepth 65536 in
theorem w_named : about1.methodNamed? x = some theMethod := by decide +kernel
set_option maxRecDepth 65536 in
theorem w_hears : about1.hears theMethod below0 = true := by decide +kernel
set_option maxRecDepth 65536 in
theorem w_ripe : about1.ripe theMethod args0 below0 = true := by decide +kernel
theorem w_running : about1.status = .running := rfl
set_option maxRecDepth 65536 in
theorem w_room : about1.hasRoom e0.platform room_1 = true :=
  launch0.hasRoom_least _ room_1 (by decide +kernel) (by decide +kernel) (by decide +kernel) (by decide +kernel) (by decide +kernel) (by decide +kernel)
theorem allAtoms_all (ts : List Jvm.Cond) (a : Array Jvm.Value) (st : Jvm.State) : (allAtoms ts).before a st = ts.all (fun c => c.before a st) := by
  induction ts with
  | nil => rfl
  | cons c t ih =>
    show (Jvm.Cond.and c (allAtoms t)).before a st = _
    rw [Jvm.Cond.before_and, ih, List.all_cons]
def words1 : List Jvm.Cond := Jvm.Cond.code x code maxLocals ret :: tables_1
/-- a 'code' word, met by the world's own term for the bytes: nothing is compared byte by byte -/
theorem code_word {y : MethodName} {bytes : ByteArray} {mx : Nat} {rt : Option FieldType} {a : Array Value} {s : State} {m : MethodId} {meth : Method} {c : Code} (h1 : s.methodNamed? y = some m) (h2 : s.vm.method? m = some meth) (h3 : meth.code = some c) (h4 : c.code = bytes)
    (h5 : (c.maxLocals == mx && c.exceptionTable.isEmpty && decide (c.maxStack ≤ mostOperands) && decide (meth.sig.returnType = rt) && !meth.locks && decide (parseMethodDescriptor y.desc = some meth.sig)) = true) : (Jvm.Cond.code y bytes mx rt).before a s = true := by
  simp only [Bool.and_eq_true, beq_iff_eq, Bool.not_eq_true', decide_eq_true_eq] at h5
  obtain ⟨⟨⟨⟨⟨g1, g2⟩, g3⟩, g4⟩, g5⟩, g6⟩ := h5
  simp [Cond.before, Cond.holds, Cond.value, h1, h2, h3, h4, g1, g2, g3, g4, g5, g6]
def isCode : Jvm.Cond → Bool
  | .code _ _ _ _ => true
  | _ => false
theorem all_split {L : List Jvm.Cond} {P : Jvm.Cond → Bool} (h1 : L.all (fun c => isCode c || P c) = true) (h2 : ∀ c ∈ L.filter isCode, P c = true) : L.all P = true := by
  refine List.all_eq_true.mpr fun c hc => ?_
  have h := List.all_eq_true.mp h1 c hc
  rcases Bool.eq_false_or_eq_true (isCode c) with hi | hi
  · exact h2 c (List.mem_filter.mpr ⟨hc, hi⟩)
  · simpa [hi] using h
set_option maxRecDepth 65536 in
theorem w_c0 : (Jvm.Cond.code x code maxLocals ret).before args0 about1 = true := code_word (m := ⟨1, 1⟩) (meth := k1m1) (c := k1c1) (by decide +kernel) rfl rfl rfl (by decide +kernel)
set_option maxRecDepth 65536 in
theorem w_c1 : (Jvm.Cond.code ({ cls := "com/example/baler/baler/io/Fields", name := "putInt", desc := "([BII)V" } : Jvm.MethodName) prog_30_method_11_code (3 : Nat) (Option.none : Option Jvm.ClassFile.FieldType)).before args0 about1 = true := code_word (m := ⟨2, 0⟩) (meth := k2m0) (c := k2c0) (by decide +kernel) rfl rfl rfl (by decide +kernel)
set_option maxRecDepth 65536 in
theorem w_c2 : (Jvm.Cond.code ({ cls := "com/example/baler/baler/io/FieldsPutIntPinLaw", name := "keep", desc := "([BIIJ)Z" } : Jvm.MethodName) method_3_code (5 : Nat) (Option.some Jvm.ClassFile.FieldType.boolean)).before args0 about1 = true := code_word (m := ⟨1, 2⟩) (meth := k1m2) (c := k1c2) (by decide +kernel) rfl rfl rfl (by decide +kernel)
def codes1 : List Jvm.Cond := [Jvm.Cond.code x code maxLocals ret, Jvm.Cond.code ({ cls := "com/example/baler/baler/io/Fields", name := "putInt", desc := "([BII)V" } : Jvm.MethodName) prog_30_method_11_code (3 : Nat) (Option.none : Option Jvm.ClassFile.FieldType), Jvm.Cond.code ({ cls := "com/example/baler/baler/io/FieldsPutIntPinLaw", name := "keep", desc := "([BIIJ)Z" } : Jvm.MethodName) method_3_code (5 : Nat) (Option.some Jvm.ClassFile.FieldType.boolean)]
set_option maxRecDepth 65536 in
theorem codes_eq : words1.filter isCode = codes1 := rfl
theorem w_codes : ∀ c ∈ words1.filter isCode, c.before args0 about1 = true := by
  rw [codes_eq]
  intro c hc
  simp only [codes1, List.mem_cons, List.not_mem_nil, or_false] at hc
  rcases hc with rfl | rfl | rfl
  · exact w_c0
  · exact w_c1
  · exact w_c2
set_option maxRecDepth 65536 in
theorem w_t1 : words1.all (fun c => isCode c || c.before args0 about1) = true := by decide +kernel
theorem w_tables : (allAtoms (Jvm.Cond.code x code maxLocals ret :: tables_1)).before args0 about1 = true := by
  rw [allAtoms_all]
  show words1.all (fun c => c.before args0 about1) = true
  refine all_split ?_ w_codes
  rw [w_t1]
set_option maxRecDepth 65536 in
theorem w_case : (Jvm.Cond.and given_1 narrow_1).before args0 about1 = true := by decide +kernel
theorem w_applies : (headSpec (Jvm.Cond.code x code maxLocals ret :: tables_1) room_1).applies x e0.platform about1 = true :=
  (Spec.applies_iff w_frames).mpr ⟨w_running, w_runnable, w_alone, w_named, w_hears, w_ripe, w_room, w_tables⟩
theorem atStart : AtStart classFile x code maxLocals ret World_1 tables_1 room_1 Calls_1 rest_1 Pre_1 launch0 p0 e0 about1 theMethod args0 below0 :=
  ⟨lists_1, trivial, launch0.admits_env _ _ _, launch0.least_env, fairChoices_fair.cas, fairChoices_fair.clock, w_frames, w_args, w_heap, w_applies, trivial, trivial, w_case⟩
end start1
theorem witness_1 : WitnessClaimed_1 := ⟨start1.p0, start1.e0, start1.about1, start1.theMethod, start1.args0, start1.below0, start1.atStart⟩
end Jvm.Pilot.@@N@@
