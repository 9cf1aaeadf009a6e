import JvmDerived
import JvmDerived.Pilot.@@N@@Statement
import JvmDerived.Pilot.@@N@@Code
set_option linter.unusedVariables false
set_option linter.unusedSimpArgs false
set_option maxHeartbeats 4000000
namespace Jvm.Pilot.@@N@@
open Jvm Jvm.ClassFile Sem Op Lib Jvm.Free Jvm.Stand Jvm.LawKit Jvm.RoadKit Bundle Jvm.Pilot.@@N@@.Jvm.D

def own_Go (tb : Tables) (e : Env) (below : List Frame) (U : State) (Q : Outcome → State → Prop) : Prop :=
  ∃ s₂ o, Steps tb e below U s₂ ∧ s₂.status = .running ∧ Ended s₂ below o ∧ Q o s₂
def own_QR (s : State) (n0 kc ks : Nat) (P : Option Value → Heap → Prop) (o : Outcome) (u : State) : Prop :=
  ∃ v L, o = .returned v ∧ (P v u.heap ∧ Fr n0 L) ∧ FrameEnd s o u L kc ks
def own_RI (h : Heap) (r : Int32) (v : Option Value) (h' : Heap) : Prop := v = some (.int r) ∧ h = h'
def own_RV (r : Int32) (v : Option Value) (h' : Heap) : Prop := v = some (.int r)
def own_R0 (h : Heap) (r : Unit) (v : Option Value) (h' : Heap) : Prop := v = none ∧ h = h'
def own_RJ (h : Heap) (r : Int64) (v : Option Value) (h' : Heap) : Prop := v = some (.long r) ∧ h = h'
def own_Cx (Z : State) (a0 : Array Value) (p : Program) (l : Launch) (e : Env) (R : Room) (s : State) (m : MethodId) (args : Array Value) (below : List Frame) (meth : Method) (c : Code) (own nm : String) (bytes : ByteArray) (mx : Nat) (ret : Option FieldType) : Prop :=
  p.tables.exec = Jvm.exec ∧ c.code = bytes ∧ c.maxLocals = mx ∧ s.vm.findClass own = some m.cls ∧ Z.Warmed39 s.vm ∧ meth.name = nm ∧ meth.sig.returnType = ret ∧ meth.locks = false ∧ ∀ d ∈ tables_1, d.before a0 Z = true
def own_At (p : Program) (l : Launch) (e : Env) (R : Room) (s : State) (m : MethodId) (args : Array Value) (below : List Frame) (meth : Method) (c : Code) (T : State) (h : Heap) (n0 kc ks : Nat) : Prop :=
  ∃ locs cells slots, Stand p l e R s m args below meth c T locs cells slots ∧ T.heap = h ∧ Fr n0 locs ∧ cells ≤ kc ∧ slots ≤ ks ∧ n0 ≤ h.size
theorem own_go {tb : Tables} {e : Env} {below : List Frame} {U U' : State} {Q : Outcome → State → Prop} (h : ∀ t, Steps tb e below U' t → Steps tb e below U t) (k : own_Go tb e below U' Q) : own_Go tb e below U Q := by
  obtain ⟨s2, o, h1, h2⟩ := k
  exact ⟨s2, o, h _ h1, h2⟩
theorem own_ite {tb : Tables} {e : Env} {below : List Frame} {U s : State} {n0 kc ks : Nat} {β : Type} {P : β → Option Value → Heap → Prop} {cnd : Prop} [Decidable cnd] {A B : β} (h1 : cnd → own_Go tb e below U (own_QR s n0 kc ks (P A))) (h2 : ¬ cnd → own_Go tb e below U (own_QR s n0 kc ks (P B))) :
    own_Go tb e below U (own_QR s n0 kc ks (P (if cnd then A else B))) := by
  by_cases hc : cnd
  · rw [if_pos hc]; exact h1 hc
  · rw [if_neg hc]; exact h2 hc

section OwnKit
variable {Z : State} {a0 : Array Value} {p : Program} {l : Launch} {e : Env} {R : Room} {s : State} {m : MethodId} {args : Array Value} {below : List Frame} {meth : Method} {c : Code} {own nm : String} {bytes : ByteArray} {mx : Nat} {ret : Option FieldType} {T : State} {h : Heap} {n0 kc ks : Nat} {Q : Outcome → State → Prop} {pc q : Nat} {Ls : Array Slot} {st : List Value}
theorem own_here (A : own_At p l e R s m args below meth c T h n0 kc ks) : At T m c below := by obtain ⟨_, _, _, X, _⟩ := A; exact X.here
theorem own_w (C : own_Cx Z a0 p l e R s m args below meth c own nm bytes mx ret) (i : Nat) {d : Jvm.Cond} (hi : tables_1[i]? = some d) : d.before a0 Z = true := C.2.2.2.2.2.2.2.2 d (List.mem_of_getElem? hi)
theorem own_size (A : own_At p l e R s m args below meth c T h n0 kc ks) : n0 ≤ h.size := by obtain ⟨_, _, _, _, _, _, _, _, hn⟩ := A; exact hn
theorem own_more {kc' ks' : Nat} (A : own_At p l e R s m args below meth c T h n0 kc ks) (h1 : kc ≤ kc') (h2 : ks ≤ ks') : own_At p l e R s m args below meth c T h n0 kc' ks' := by obtain ⟨locs, cells, slots, X, eT, N, hc, hs, hn⟩ := A; exact ⟨locs, cells, slots, X, eT, N, Nat.le_trans hc h1, Nat.le_trans hs h2, hn⟩
theorem own_iloadN (C : own_Cx Z a0 p l e R s m args below meth c own nm bytes mx ret) (A : own_At p l e R s m args below meth c T h n0 kc ks) {k : Fin 4} {v : Int32} (hd : decode bytes pc = .ok (.iload_n k, 1)) (hl : Ls[k.val]? = some (.val (.int v))) (hq : pc + 1 = q) (k : own_Go p.tables e below (T.setTop (mkF m q Ls (.int v :: st))) Q) :
    own_Go p.tables e below (T.setTop (mkF m pc Ls st)) Q := by
  subst hq
  exact own_go (fun t => XS.iloadN (own_here A) C.1 rfl (hb C.2.1 hd) hl) k
theorem own_lloadN (C : own_Cx Z a0 p l e R s m args below meth c own nm bytes mx ret) (A : own_At p l e R s m args below meth c T h n0 kc ks) {k : Fin 4} {v : Int64} (hd : decode bytes pc = .ok (.lload_n k, 1)) (hl : Ls[k.val]? = some (.val (.long v))) (hq : pc + 1 = q) (k : own_Go p.tables e below (T.setTop (mkF m q Ls (.long v :: st))) Q) :
    own_Go p.tables e below (T.setTop (mkF m pc Ls st)) Q := by
  subst hq
  exact own_go (fun t => XS.lloadN (own_here A) C.1 rfl (hb C.2.1 hd) hl) k
theorem own_aloadN (C : own_Cx Z a0 p l e R s m args below meth c own nm bytes mx ret) (A : own_At p l e R s m args below meth c T h n0 kc ks) {k : Fin 4} {v : Value} (hd : decode bytes pc = .ok (.aload_n k, 1)) (hl : Ls[k.val]? = some (.val v)) (hv : v.isRef = true) (hq : pc + 1 = q) (k : own_Go p.tables e below (T.setTop (mkF m q Ls (v :: st))) Q) :
    own_Go p.tables e below (T.setTop (mkF m pc Ls st)) Q := by
  subst hq
  exact own_go (fun t => XS.aloadN (own_here A) C.1 rfl (hb C.2.1 hd) hl hv) k
theorem own_istoreN (C : own_Cx Z a0 p l e R s m args below meth c own nm bytes mx ret) (A : own_At p l e R s m args below meth c T h n0 kc ks) {k : Fin 4} {x : Int32} {l' : Array Slot} (hd : decode bytes pc = .ok (.istore_n k, 1)) (hl : storeLocals Ls k.val (.int x) = some l') (hq : pc + 1 = q) (k : own_Go p.tables e below (T.setTop (mkF m q l' st)) Q) :
    own_Go p.tables e below (T.setTop (mkF m pc Ls (.int x :: st))) Q := by
  subst hq
  exact own_go (fun t => XS.istoreN (own_here A) C.1 rfl (hb C.2.1 hd) rfl hl) k
theorem own_lstoreN (C : own_Cx Z a0 p l e R s m args below meth c own nm bytes mx ret) (A : own_At p l e R s m args below meth c T h n0 kc ks) {k : Fin 4} {x : Int64} {l' : Array Slot} (hd : decode bytes pc = .ok (.lstore_n k, 1)) (hl : storeLocals Ls k.val (.long x) = some l') (hq : pc + 1 = q) (k : own_Go p.tables e below (T.setTop (mkF m q l' st)) Q) :
    own_Go p.tables e below (T.setTop (mkF m pc Ls (.long x :: st))) Q := by
  subst hq
  exact own_go (fun t => XS.lstoreN (own_here A) C.1 rfl (hb C.2.1 hd) rfl hl) k
theorem own_astoreN (C : own_Cx Z a0 p l e R s m args below meth c own nm bytes mx ret) (A : own_At p l e R s m args below meth c T h n0 kc ks) {k : Fin 4} {x : Value} {l' : Array Slot} (hd : decode bytes pc = .ok (.astore_n k, 1)) (hv : x.isRef = true) (hl : storeLocals Ls k.val x = some l') (hq : pc + 1 = q) (k : own_Go p.tables e below (T.setTop (mkF m q l' st)) Q) :
    own_Go p.tables e below (T.setTop (mkF m pc Ls (x :: st))) Q := by
  subst hq
  exact own_go (fun t => XS.astoreN (own_here A) C.1 rfl (hb C.2.1 hd) rfl hv hl) k
theorem own_iload (C : own_Cx Z a0 p l e R s m args below meth c own nm bytes mx ret) (A : own_At p l e R s m args below meth c T h n0 kc ks) {k : Nat} {v : Int32} (hd : decode bytes pc = .ok (.iload k, 2)) (hl : Ls[k]? = some (.val (.int v))) (hq : pc + 2 = q) (k : own_Go p.tables e below (T.setTop (mkF m q Ls (.int v :: st))) Q) :
    own_Go p.tables e below (T.setTop (mkF m pc Ls st)) Q := by
  subst hq
  exact own_go (fun t => XS.iload (own_here A) C.1 rfl (hb C.2.1 hd) hl) k
theorem own_lload (C : own_Cx Z a0 p l e R s m args below meth c own nm bytes mx ret) (A : own_At p l e R s m args below meth c T h n0 kc ks) {k : Nat} {v : Int64} (hd : decode bytes pc = .ok (.lload k, 2)) (hl : Ls[k]? = some (.val (.long v))) (hq : pc + 2 = q) (k : own_Go p.tables e below (T.setTop (mkF m q Ls (.long v :: st))) Q) :
    own_Go p.tables e below (T.setTop (mkF m pc Ls st)) Q := by
  subst hq
  exact own_go (fun t => XS.lload (own_here A) C.1 rfl (hb C.2.1 hd) hl) k
theorem own_aload (C : own_Cx Z a0 p l e R s m args below meth c own nm bytes mx ret) (A : own_At p l e R s m args below meth c T h n0 kc ks) {k : Nat} {v : Value} (hd : decode bytes pc = .ok (.aload k, 2)) (hl : Ls[k]? = some (.val v)) (hv : v.isRef = true) (hq : pc + 2 = q) (k : own_Go p.tables e below (T.setTop (mkF m q Ls (v :: st))) Q) :
    own_Go p.tables e below (T.setTop (mkF m pc Ls st)) Q := by
  subst hq
  exact own_go (fun t => XS.aload (own_here A) C.1 rfl (hb C.2.1 hd) hl hv) k
theorem own_istore (C : own_Cx Z a0 p l e R s m args below meth c own nm bytes mx ret) (A : own_At p l e R s m args below meth c T h n0 kc ks) {k : Nat} {x : Int32} {l' : Array Slot} (hd : decode bytes pc = .ok (.istore k, 2)) (hl : storeLocals Ls k (.int x) = some l') (hq : pc + 2 = q) (k : own_Go p.tables e below (T.setTop (mkF m q l' st)) Q) :
    own_Go p.tables e below (T.setTop (mkF m pc Ls (.int x :: st))) Q := by
  subst hq
  exact own_go (fun t => XS.istore (own_here A) C.1 rfl (hb C.2.1 hd) rfl hl) k
theorem own_lstore (C : own_Cx Z a0 p l e R s m args below meth c own nm bytes mx ret) (A : own_At p l e R s m args below meth c T h n0 kc ks) {k : Nat} {x : Int64} {l' : Array Slot} (hd : decode bytes pc = .ok (.lstore k, 2)) (hl : storeLocals Ls k (.long x) = some l') (hq : pc + 2 = q) (k : own_Go p.tables e below (T.setTop (mkF m q l' st)) Q) :
    own_Go p.tables e below (T.setTop (mkF m pc Ls (.long x :: st))) Q := by
  subst hq
  exact own_go (fun t => XS.lstore (own_here A) C.1 rfl (hb C.2.1 hd) rfl hl) k
theorem own_astore (C : own_Cx Z a0 p l e R s m args below meth c own nm bytes mx ret) (A : own_At p l e R s m args below meth c T h n0 kc ks) {k : Nat} {x : Value} {l' : Array Slot} (hd : decode bytes pc = .ok (.astore k, 2)) (hv : x.isRef = true) (hl : storeLocals Ls k x = some l') (hq : pc + 2 = q) (k : own_Go p.tables e below (T.setTop (mkF m q l' st)) Q) :
    own_Go p.tables e below (T.setTop (mkF m pc Ls (x :: st))) Q := by
  subst hq
  exact own_go (fun t => XS.astore (own_here A) C.1 rfl (hb C.2.1 hd) rfl hv hl) k
theorem own_iconst (C : own_Cx Z a0 p l e R s m args below meth c own nm bytes mx ret) (A : own_At p l e R s m args below meth c T h n0 kc ks) {i : Int} {v : Int32} (hd : decode bytes pc = .ok (.iconst i, 1)) (hv : Int32.ofInt i = v) (hq : pc + 1 = q) (k : own_Go p.tables e below (T.setTop (mkF m q Ls (.int v :: st))) Q) :
    own_Go p.tables e below (T.setTop (mkF m pc Ls st)) Q := by
  subst hq hv
  exact own_go (fun t => XS.iconst (own_here A) C.1 rfl (hb C.2.1 hd)) k
theorem own_bipush (C : own_Cx Z a0 p l e R s m args below meth c own nm bytes mx ret) (A : own_At p l e R s m args below meth c T h n0 kc ks) {i : Int} {v : Int32} (hd : decode bytes pc = .ok (.bipush i, 2)) (hv : (Int8.ofInt i).toInt32 = v) (hq : pc + 2 = q) (k : own_Go p.tables e below (T.setTop (mkF m q Ls (.int v :: st))) Q) :
    own_Go p.tables e below (T.setTop (mkF m pc Ls st)) Q := by
  subst hq hv
  exact own_go (fun t => XS.bipush (own_here A) C.1 rfl (hb C.2.1 hd)) k
theorem own_sipush (C : own_Cx Z a0 p l e R s m args below meth c own nm bytes mx ret) (A : own_At p l e R s m args below meth c T h n0 kc ks) {i : Int} {v : Int32} (hd : decode bytes pc = .ok (.sipush i, 3)) (hv : (Int16.ofInt i).toInt32 = v) (hq : pc + 3 = q) (k : own_Go p.tables e below (T.setTop (mkF m q Ls (.int v :: st))) Q) :
    own_Go p.tables e below (T.setTop (mkF m pc Ls st)) Q := by
  subst hq hv
  exact own_go (fun t => XS.sipush (own_here A) C.1 rfl (hb C.2.1 hd)) k
theorem own_lconst (C : own_Cx Z a0 p l e R s m args below meth c own nm bytes mx ret) (A : own_At p l e R s m args below meth c T h n0 kc ks) {k' : Fin 2} {v : Int64} (hd : decode bytes pc = .ok (.lconst k', 1)) (hv : Int64.ofNat k' = v) (hq : pc + 1 = q) (k : own_Go p.tables e below (T.setTop (mkF m q Ls (.long v :: st))) Q) :
    own_Go p.tables e below (T.setTop (mkF m pc Ls st)) Q := by
  subst hq hv
  exact own_go (fun t => XS.lconst (own_here A) C.1 rfl (hb C.2.1 hd)) k
theorem own_aconstNull (C : own_Cx Z a0 p l e R s m args below meth c own nm bytes mx ret) (A : own_At p l e R s m args below meth c T h n0 kc ks)  (hd : decode bytes pc = .ok (.aconst_null, 1))  (hq : pc + 1 = q) (k : own_Go p.tables e below (T.setTop (mkF m q Ls (.null :: st))) Q) :
    own_Go p.tables e below (T.setTop (mkF m pc Ls st)) Q := by
  subst hq
  exact own_go (fun t => XS.aconstNull (own_here A) C.1 rfl (hb C.2.1 hd) ) k
theorem own_iadd (C : own_Cx Z a0 p l e R s m args below meth c own nm bytes mx ret) (A : own_At p l e R s m args below meth c T h n0 kc ks) {x y : Int32} (hd : decode bytes pc = .ok (.iadd, 1))  (hq : pc + 1 = q) (k : own_Go p.tables e below (T.setTop (mkF m q Ls (.int (x + y) :: st))) Q) :
    own_Go p.tables e below (T.setTop (mkF m pc Ls (.int y :: .int x :: st))) Q := by
  subst hq
  exact own_go (fun t => XS.iadd (own_here A) C.1 rfl (hb C.2.1 hd) rfl) k
theorem own_isub (C : own_Cx Z a0 p l e R s m args below meth c own nm bytes mx ret) (A : own_At p l e R s m args below meth c T h n0 kc ks) {x y : Int32} (hd : decode bytes pc = .ok (.isub, 1))  (hq : pc + 1 = q) (k : own_Go p.tables e below (T.setTop (mkF m q Ls (.int (x - y) :: st))) Q) :
    own_Go p.tables e below (T.setTop (mkF m pc Ls (.int y :: .int x :: st))) Q := by
  subst hq
  exact own_go (fun t => XS.isub (own_here A) C.1 rfl (hb C.2.1 hd) rfl) k
theorem own_imul (C : own_Cx Z a0 p l e R s m args below meth c own nm bytes mx ret) (A : own_At p l e R s m args below meth c T h n0 kc ks) {x y : Int32} (hd : decode bytes pc = .ok (.imul, 1))  (hq : pc + 1 = q) (k : own_Go p.tables e below (T.setTop (mkF m q Ls (.int (x * y) :: st))) Q) :
    own_Go p.tables e below (T.setTop (mkF m pc Ls (.int y :: .int x :: st))) Q := by
  subst hq
  exact own_go (fun t => XS.imul (own_here A) C.1 rfl (hb C.2.1 hd) rfl) k
theorem own_iand (C : own_Cx Z a0 p l e R s m args below meth c own nm bytes mx ret) (A : own_At p l e R s m args below meth c T h n0 kc ks) {x y : Int32} (hd : decode bytes pc = .ok (.iand, 1))  (hq : pc + 1 = q) (k : own_Go p.tables e below (T.setTop (mkF m q Ls (.int (x &&& y) :: st))) Q) :
    own_Go p.tables e below (T.setTop (mkF m pc Ls (.int y :: .int x :: st))) Q := by
  subst hq
  exact own_go (fun t => XS.iand (own_here A) C.1 rfl (hb C.2.1 hd) rfl) k
theorem own_ior (C : own_Cx Z a0 p l e R s m args below meth c own nm bytes mx ret) (A : own_At p l e R s m args below meth c T h n0 kc ks) {x y : Int32} (hd : decode bytes pc = .ok (.ior, 1))  (hq : pc + 1 = q) (k : own_Go p.tables e below (T.setTop (mkF m q Ls (.int (x ||| y) :: st))) Q) :
    own_Go p.tables e below (T.setTop (mkF m pc Ls (.int y :: .int x :: st))) Q := by
  subst hq
  exact own_go (fun t => XS.ior (own_here A) C.1 rfl (hb C.2.1 hd) rfl) k
theorem own_ixor (C : own_Cx Z a0 p l e R s m args below meth c own nm bytes mx ret) (A : own_At p l e R s m args below meth c T h n0 kc ks) {x y : Int32} (hd : decode bytes pc = .ok (.ixor, 1))  (hq : pc + 1 = q) (k : own_Go p.tables e below (T.setTop (mkF m q Ls (.int (x ^^^ y) :: st))) Q) :
    own_Go p.tables e below (T.setTop (mkF m pc Ls (.int y :: .int x :: st))) Q := by
  subst hq
  exact own_go (fun t => XS.ixor (own_here A) C.1 rfl (hb C.2.1 hd) rfl) k
theorem own_ishl (C : own_Cx Z a0 p l e R s m args below meth c own nm bytes mx ret) (A : own_At p l e R s m args below meth c T h n0 kc ks) {x y : Int32} (hd : decode bytes pc = .ok (.ishl, 1))  (hq : pc + 1 = q) (k : own_Go p.tables e below (T.setTop (mkF m q Ls (.int (x <<< (y &&& 31)) :: st))) Q) :
    own_Go p.tables e below (T.setTop (mkF m pc Ls (.int y :: .int x :: st))) Q := by
  subst hq
  exact own_go (fun t => XS.ishl (own_here A) C.1 rfl (hb C.2.1 hd) rfl) k
theorem own_ishr (C : own_Cx Z a0 p l e R s m args below meth c own nm bytes mx ret) (A : own_At p l e R s m args below meth c T h n0 kc ks) {x y : Int32} (hd : decode bytes pc = .ok (.ishr, 1))  (hq : pc + 1 = q) (k : own_Go p.tables e below (T.setTop (mkF m q Ls (.int (x >>> (y &&& 31)) :: st))) Q) :
    own_Go p.tables e below (T.setTop (mkF m pc Ls (.int y :: .int x :: st))) Q := by
  subst hq
  exact own_go (fun t => XS.ishr (own_here A) C.1 rfl (hb C.2.1 hd) rfl) k
theorem own_iushr (C : own_Cx Z a0 p l e R s m args below meth c own nm bytes mx ret) (A : own_At p l e R s m args below meth c T h n0 kc ks) {x y : Int32} (hd : decode bytes pc = .ok (.iushr, 1))  (hq : pc + 1 = q) (k : own_Go p.tables e below (T.setTop (mkF m q Ls (.int ((x.toUInt32 >>> (y &&& 31).toUInt32).toInt32) :: st))) Q) :
    own_Go p.tables e below (T.setTop (mkF m pc Ls (.int y :: .int x :: st))) Q := by
  subst hq
  exact own_go (fun t => XS.iushr (own_here A) C.1 rfl (hb C.2.1 hd) rfl) k
theorem own_ladd (C : own_Cx Z a0 p l e R s m args below meth c own nm bytes mx ret) (A : own_At p l e R s m args below meth c T h n0 kc ks) {x y : Int64} (hd : decode bytes pc = .ok (.ladd, 1))  (hq : pc + 1 = q) (k : own_Go p.tables e below (T.setTop (mkF m q Ls (.long (x + y) :: st))) Q) :
    own_Go p.tables e below (T.setTop (mkF m pc Ls (.long y :: .long x :: st))) Q := by
  subst hq
  exact own_go (fun t => XS.ladd (own_here A) C.1 rfl (hb C.2.1 hd) rfl) k
theorem own_lsub (C : own_Cx Z a0 p l e R s m args below meth c own nm bytes mx ret) (A : own_At p l e R s m args below meth c T h n0 kc ks) {x y : Int64} (hd : decode bytes pc = .ok (.lsub, 1))  (hq : pc + 1 = q) (k : own_Go p.tables e below (T.setTop (mkF m q Ls (.long (x - y) :: st))) Q) :
    own_Go p.tables e below (T.setTop (mkF m pc Ls (.long y :: .long x :: st))) Q := by
  subst hq
  exact own_go (fun t => XS.lsub (own_here A) C.1 rfl (hb C.2.1 hd) rfl) k
theorem own_lmul (C : own_Cx Z a0 p l e R s m args below meth c own nm bytes mx ret) (A : own_At p l e R s m args below meth c T h n0 kc ks) {x y : Int64} (hd : decode bytes pc = .ok (.lmul, 1))  (hq : pc + 1 = q) (k : own_Go p.tables e below (T.setTop (mkF m q Ls (.long (x * y) :: st))) Q) :
    own_Go p.tables e below (T.setTop (mkF m pc Ls (.long y :: .long x :: st))) Q := by
  subst hq
  exact own_go (fun t => XS.lmul (own_here A) C.1 rfl (hb C.2.1 hd) rfl) k
theorem own_land (C : own_Cx Z a0 p l e R s m args below meth c own nm bytes mx ret) (A : own_At p l e R s m args below meth c T h n0 kc ks) {x y : Int64} (hd : decode bytes pc = .ok (.land, 1))  (hq : pc + 1 = q) (k : own_Go p.tables e below (T.setTop (mkF m q Ls (.long (x &&& y) :: st))) Q) :
    own_Go p.tables e below (T.setTop (mkF m pc Ls (.long y :: .long x :: st))) Q := by
  subst hq
  exact own_go (fun t => XS.land (own_here A) C.1 rfl (hb C.2.1 hd) rfl) k
theorem own_lor (C : own_Cx Z a0 p l e R s m args below meth c own nm bytes mx ret) (A : own_At p l e R s m args below meth c T h n0 kc ks) {x y : Int64} (hd : decode bytes pc = .ok (.lor, 1))  (hq : pc + 1 = q) (k : own_Go p.tables e below (T.setTop (mkF m q Ls (.long (x ||| y) :: st))) Q) :
    own_Go p.tables e below (T.setTop (mkF m pc Ls (.long y :: .long x :: st))) Q := by
  subst hq
  exact own_go (fun t => XS.lor (own_here A) C.1 rfl (hb C.2.1 hd) rfl) k
theorem own_lxor (C : own_Cx Z a0 p l e R s m args below meth c own nm bytes mx ret) (A : own_At p l e R s m args below meth c T h n0 kc ks) {x y : Int64} (hd : decode bytes pc = .ok (.lxor, 1))  (hq : pc + 1 = q) (k : own_Go p.tables e below (T.setTop (mkF m q Ls (.long (x ^^^ y) :: st))) Q) :
    own_Go p.tables e below (T.setTop (mkF m pc Ls (.long y :: .long x :: st))) Q := by
  subst hq
  exact own_go (fun t => XS.lxor (own_here A) C.1 rfl (hb C.2.1 hd) rfl) k
theorem own_lshl (C : own_Cx Z a0 p l e R s m args below meth c own nm bytes mx ret) (A : own_At p l e R s m args below meth c T h n0 kc ks) {x : Int64} {y : Int32} (hd : decode bytes pc = .ok (.lshl, 1))  (hq : pc + 1 = q) (k : own_Go p.tables e below (T.setTop (mkF m q Ls (.long (x <<< (y &&& 0x3f).toInt64) :: st))) Q) :
    own_Go p.tables e below (T.setTop (mkF m pc Ls (.int y :: .long x :: st))) Q := by
  subst hq
  exact own_go (fun t => XS.lshl (own_here A) C.1 rfl (hb C.2.1 hd) rfl) k
theorem own_lshr (C : own_Cx Z a0 p l e R s m args below meth c own nm bytes mx ret) (A : own_At p l e R s m args below meth c T h n0 kc ks) {x : Int64} {y : Int32} (hd : decode bytes pc = .ok (.lshr, 1))  (hq : pc + 1 = q) (k : own_Go p.tables e below (T.setTop (mkF m q Ls (.long (x >>> (y &&& 0x3f).toInt64) :: st))) Q) :
    own_Go p.tables e below (T.setTop (mkF m pc Ls (.int y :: .long x :: st))) Q := by
  subst hq
  exact own_go (fun t => XS.lshr (own_here A) C.1 rfl (hb C.2.1 hd) rfl) k
theorem own_lushr (C : own_Cx Z a0 p l e R s m args below meth c own nm bytes mx ret) (A : own_At p l e R s m args below meth c T h n0 kc ks) {x : Int64} {y : Int32} (hd : decode bytes pc = .ok (.lushr, 1))  (hq : pc + 1 = q) (k : own_Go p.tables e below (T.setTop (mkF m q Ls (.long ((x.toUInt64 >>> (y &&& 0x3f).toInt64.toUInt64).toInt64) :: st))) Q) :
    own_Go p.tables e below (T.setTop (mkF m pc Ls (.int y :: .long x :: st))) Q := by
  subst hq
  exact own_go (fun t => XS.lushr (own_here A) C.1 rfl (hb C.2.1 hd) rfl) k
theorem own_irem (C : own_Cx Z a0 p l e R s m args below meth c own nm bytes mx ret) (A : own_At p l e R s m args below meth c T h n0 kc ks) {x y : Int32} (hd : decode bytes pc = .ok (.irem, 1)) (hy : y ≠ 0) (hq : pc + 1 = q) (k : own_Go p.tables e below (T.setTop (mkF m q Ls (.int (x % y) :: st))) Q) :
    own_Go p.tables e below (T.setTop (mkF m pc Ls (.int y :: .int x :: st))) Q := by
  obtain ⟨_, _, _, X, _⟩ := A
  subst hq
  exact own_go (fun t => iremM (g := mkF m pc Ls (.int y :: .int x :: st)) X C.1 rfl (hb C.2.1 hd) rfl hy) k
theorem own_lrem (C : own_Cx Z a0 p l e R s m args below meth c own nm bytes mx ret) (A : own_At p l e R s m args below meth c T h n0 kc ks) {x y : Int64} (hd : decode bytes pc = .ok (.lrem, 1)) (hy : y ≠ 0) (hq : pc + 1 = q) (k : own_Go p.tables e below (T.setTop (mkF m q Ls (.long (x % y) :: st))) Q) :
    own_Go p.tables e below (T.setTop (mkF m pc Ls (.long y :: .long x :: st))) Q := by
  subst hq
  rw [← lrem_mod x y] at k
  exact own_go (fun t => XS.lrem (own_here A) C.1 rfl (hb C.2.1 hd) rfl hy) k
theorem own_idiv (C : own_Cx Z a0 p l e R s m args below meth c own nm bytes mx ret) (A : own_At p l e R s m args below meth c T h n0 kc ks) {x y : Int32} (hd : decode bytes pc = .ok (.idiv, 1)) (hy : y ≠ 0) (hq : pc + 1 = q) (k : own_Go p.tables e below (T.setTop (mkF m q Ls (.int (x / y) :: st))) Q) :
    own_Go p.tables e below (T.setTop (mkF m pc Ls (.int y :: .int x :: st))) Q := by
  subst hq
  exact own_go (fun t => XS.idiv (own_here A) C.1 rfl (hb C.2.1 hd) rfl hy) k
theorem own_ldiv (C : own_Cx Z a0 p l e R s m args below meth c own nm bytes mx ret) (A : own_At p l e R s m args below meth c T h n0 kc ks) {x y : Int64} (hd : decode bytes pc = .ok (.ldiv, 1)) (hy : y ≠ 0) (hq : pc + 1 = q) (k : own_Go p.tables e below (T.setTop (mkF m q Ls (.long (x / y) :: st))) Q) :
    own_Go p.tables e below (T.setTop (mkF m pc Ls (.long y :: .long x :: st))) Q := by
  subst hq
  exact own_go (fun t => XS.ldiv (own_here A) C.1 rfl (hb C.2.1 hd) rfl hy) k
theorem own_ineg (C : own_Cx Z a0 p l e R s m args below meth c own nm bytes mx ret) (A : own_At p l e R s m args below meth c T h n0 kc ks) {x : Int32} (hd : decode bytes pc = .ok (.ineg, 1))  (hq : pc + 1 = q) (k : own_Go p.tables e below (T.setTop (mkF m q Ls (.int (-x) :: st))) Q) :
    own_Go p.tables e below (T.setTop (mkF m pc Ls (.int x :: st))) Q := by
  subst hq
  exact own_go (fun t => XS.ineg (own_here A) C.1 rfl (hb C.2.1 hd) rfl) k
theorem own_lneg (C : own_Cx Z a0 p l e R s m args below meth c own nm bytes mx ret) (A : own_At p l e R s m args below meth c T h n0 kc ks) {x : Int64} (hd : decode bytes pc = .ok (.lneg, 1))  (hq : pc + 1 = q) (k : own_Go p.tables e below (T.setTop (mkF m q Ls (.long (-x) :: st))) Q) :
    own_Go p.tables e below (T.setTop (mkF m pc Ls (.long x :: st))) Q := by
  subst hq
  exact own_go (fun t => XS.lneg (own_here A) C.1 rfl (hb C.2.1 hd) rfl) k
theorem own_i2b (C : own_Cx Z a0 p l e R s m args below meth c own nm bytes mx ret) (A : own_At p l e R s m args below meth c T h n0 kc ks) {x : Int32} (hd : decode bytes pc = .ok (.i2b, 1))  (hq : pc + 1 = q) (k : own_Go p.tables e below (T.setTop (mkF m q Ls (.int (x.toInt8.toInt32) :: st))) Q) :
    own_Go p.tables e below (T.setTop (mkF m pc Ls (.int x :: st))) Q := by
  subst hq
  exact own_go (fun t => XS.i2b (own_here A) C.1 rfl (hb C.2.1 hd) rfl) k
theorem own_i2c (C : own_Cx Z a0 p l e R s m args below meth c own nm bytes mx ret) (A : own_At p l e R s m args below meth c T h n0 kc ks) {x : Int32} (hd : decode bytes pc = .ok (.i2c, 1))  (hq : pc + 1 = q) (k : own_Go p.tables e below (T.setTop (mkF m q Ls (.int (x.toUInt32.toUInt16.toUInt32.toInt32) :: st))) Q) :
    own_Go p.tables e below (T.setTop (mkF m pc Ls (.int x :: st))) Q := by
  subst hq
  exact own_go (fun t => XS.i2c (own_here A) C.1 rfl (hb C.2.1 hd) rfl) k
theorem own_i2s (C : own_Cx Z a0 p l e R s m args below meth c own nm bytes mx ret) (A : own_At p l e R s m args below meth c T h n0 kc ks) {x : Int32} (hd : decode bytes pc = .ok (.i2s, 1))  (hq : pc + 1 = q) (k : own_Go p.tables e below (T.setTop (mkF m q Ls (.int (x.toInt16.toInt32) :: st))) Q) :
    own_Go p.tables e below (T.setTop (mkF m pc Ls (.int x :: st))) Q := by
  subst hq
  exact own_go (fun t => XS.i2s (own_here A) C.1 rfl (hb C.2.1 hd) rfl) k
theorem own_i2l (C : own_Cx Z a0 p l e R s m args below meth c own nm bytes mx ret) (A : own_At p l e R s m args below meth c T h n0 kc ks) {x : Int32} (hd : decode bytes pc = .ok (.i2l, 1))  (hq : pc + 1 = q) (k : own_Go p.tables e below (T.setTop (mkF m q Ls (.long x.toInt64 :: st))) Q) :
    own_Go p.tables e below (T.setTop (mkF m pc Ls (.int x :: st))) Q := by
  subst hq
  exact own_go (fun t => XS.i2l (own_here A) C.1 rfl (hb C.2.1 hd) rfl) k
theorem own_l2i (C : own_Cx Z a0 p l e R s m args below meth c own nm bytes mx ret) (A : own_At p l e R s m args below meth c T h n0 kc ks) {x : Int64} (hd : decode bytes pc = .ok (.l2i, 1))  (hq : pc + 1 = q) (k : own_Go p.tables e below (T.setTop (mkF m q Ls (.int x.toInt32 :: st))) Q) :
    own_Go p.tables e below (T.setTop (mkF m pc Ls (.long x :: st))) Q := by
  subst hq
  exact own_go (fun t => XS.l2i (own_here A) C.1 rfl (hb C.2.1 hd) rfl) k
theorem own_lcmp (C : own_Cx Z a0 p l e R s m args below meth c own nm bytes mx ret) (A : own_At p l e R s m args below meth c T h n0 kc ks) {x y : Int64} (hd : decode bytes pc = .ok (.lcmp, 1))  (hq : pc + 1 = q) (k : own_Go p.tables e below (T.setTop (mkF m q Ls (.int (Jvm.Free.XT.cmpL x y) :: st))) Q) :
    own_Go p.tables e below (T.setTop (mkF m pc Ls (.long y :: .long x :: st))) Q := by
  subst hq
  exact own_go (fun t => Jvm.Free.XT.lcmp (own_here A) C.1 rfl (hb C.2.1 hd) rfl) k
theorem own_iinc (C : own_Cx Z a0 p l e R s m args below meth c own nm bytes mx ret) (A : own_At p l e R s m args below meth c T h n0 kc ks) {k' : Nat} {i : Int} {x : Int32} {l' : Array Slot} (hd : decode bytes pc = .ok (.iinc k' i, 3)) (hl : Ls[k']? = some (.val (.int x))) (hl' : storeLocals Ls k' (.int (x + Int32.ofInt i)) = some l') (hq : pc + 3 = q) (k : own_Go p.tables e below (T.setTop (mkF m q l' st)) Q) :
    own_Go p.tables e below (T.setTop (mkF m pc Ls st)) Q := by
  subst hq
  exact own_go (fun t => XS.iinc (own_here A) C.1 rfl (hb C.2.1 hd) hl hl') k
theorem own_istoreX (C : own_Cx Z a0 p l e R s m args below meth c own nm bytes mx ret) (A : own_At p l e R s m args below meth c T h n0 kc ks) {k' : Nat} {x : Int32} {o : Slot} {l' : Array Slot} (hd : decode bytes pc = .ok (.istore k', 2)) (hold : Ls[k']? = some o) (ho : One o) (hl : Ls.setIfInBounds k' (.val (.int x)) = l') (hq : pc + 2 = q) (k : own_Go p.tables e below (T.setTop (mkF m q l' st)) Q) :
    own_Go p.tables e below (T.setTop (mkF m pc Ls (.int x :: st))) Q := by
  subst hq hl
  exact own_go (fun t => XS.istoreS (own_here A) C.1 rfl (hb C.2.1 hd) rfl hold ho) k
theorem own_pop (C : own_Cx Z a0 p l e R s m args below meth c own nm bytes mx ret) (A : own_At p l e R s m args below meth c T h n0 kc ks) {x : Value} (hd : decode bytes pc = .ok (.pop, 1)) (hc : x.category = 1) (hq : pc + 1 = q) (k : own_Go p.tables e below (T.setTop (mkF m q Ls st)) Q) :
    own_Go p.tables e below (T.setTop (mkF m pc Ls (x :: st))) Q := by
  subst hq
  exact own_go (fun t => XS.pop (own_here A) C.1 rfl (hb C.2.1 hd) rfl hc) k
theorem own_dup (C : own_Cx Z a0 p l e R s m args below meth c own nm bytes mx ret) (A : own_At p l e R s m args below meth c T h n0 kc ks) {x : Value} (hd : decode bytes pc = .ok (.dup, 1)) (hc : x.category = 1) (hq : pc + 1 = q) (k : own_Go p.tables e below (T.setTop (mkF m q Ls (x :: x :: st))) Q) :
    own_Go p.tables e below (T.setTop (mkF m pc Ls (x :: st))) Q := by
  subst hq
  exact own_go (fun t => XS.dup (own_here A) C.1 rfl (hb C.2.1 hd) rfl hc) k
theorem own_dupX1 (C : own_Cx Z a0 p l e R s m args below meth c own nm bytes mx ret) (A : own_At p l e R s m args below meth c T h n0 kc ks) {x y : Value} (hd : decode bytes pc = .ok (.dup_x1, 1)) (hc : x.category = 1) (hc' : y.category = 1) (hq : pc + 1 = q) (k : own_Go p.tables e below (T.setTop (mkF m q Ls (x :: y :: x :: st))) Q) :
    own_Go p.tables e below (T.setTop (mkF m pc Ls (x :: y :: st))) Q := by
  subst hq
  exact own_go (fun t => XS.dupX1 (own_here A) C.1 rfl (hb C.2.1 hd) rfl hc hc') k
theorem own_dup2L (C : own_Cx Z a0 p l e R s m args below meth c own nm bytes mx ret) (A : own_At p l e R s m args below meth c T h n0 kc ks) {x : Int64} (hd : decode bytes pc = .ok (.dup2, 1))  (hq : pc + 1 = q) (k : own_Go p.tables e below (T.setTop (mkF m q Ls (.long x :: .long x :: st))) Q) :
    own_Go p.tables e below (T.setTop (mkF m pc Ls (.long x :: st))) Q := by
  subst hq
  exact own_go (fun t => Jvm.Free.XT.dup2L (own_here A) C.1 rfl (hb C.2.1 hd) rfl) k
theorem own_dup2 (C : own_Cx Z a0 p l e R s m args below meth c own nm bytes mx ret) (A : own_At p l e R s m args below meth c T h n0 kc ks) {x y : Value} (hd : decode bytes pc = .ok (.dup2, 1)) (hc : x.category = 1) (hc' : y.category = 1) (hq : pc + 1 = q) (k : own_Go p.tables e below (T.setTop (mkF m q Ls (x :: y :: x :: y :: st))) Q) :
    own_Go p.tables e below (T.setTop (mkF m pc Ls (x :: y :: st))) Q := by
  subst hq
  exact own_go (fun t => Jvm.Free.XT.dup2 (own_here A) C.1 rfl (hb C.2.1 hd) rfl hc hc') k
theorem own_goto (C : own_Cx Z a0 p l e R s m args below meth c own nm bytes mx ret) (A : own_At p l e R s m args below meth c T h n0 kc ks) {i : Int} (hd : decode bytes pc = .ok (.goto i, 3)) (ho : 0 ≤ (pc : Int) + i) (hq : ((pc : Int) + i).toNat = q) (k : own_Go p.tables e below (T.setTop (mkF m q Ls st)) Q) :
    own_Go p.tables e below (T.setTop (mkF m pc Ls st)) Q := own_go (fun t => XS.goto (own_here A) C.1 rfl rfl (hb C.2.1 hd) ho hq) k
theorem own_icmpY (C : own_Cx Z a0 p l e R s m args below meth c own nm bytes mx ret) (A : own_At p l e R s m args below meth c T h n0 kc ks) {cd : ClassFile.Cond} {i : Int} {x y : Int32} (hd : decode bytes pc = .ok (.if_icmp cd i, 3)) (hc : if_icmp.holds cd x y = true) (ho : 0 ≤ (pc : Int) + i) (hq : ((pc : Int) + i).toNat = q) (k : own_Go p.tables e below (T.setTop (mkF m q Ls st)) Q) :
    own_Go p.tables e below (T.setTop (mkF m pc Ls (.int y :: .int x :: st))) Q := own_go (fun t => XS.icmpYes (own_here A) C.1 rfl rfl (hb C.2.1 hd) rfl hc ho hq) k
theorem own_icmpN (C : own_Cx Z a0 p l e R s m args below meth c own nm bytes mx ret) (A : own_At p l e R s m args below meth c T h n0 kc ks) {cd : ClassFile.Cond} {i : Int} {x y : Int32} (hd : decode bytes pc = .ok (.if_icmp cd i, 3)) (hc : if_icmp.holds cd x y = false) (hq : pc + 3 = q) (k : own_Go p.tables e below (T.setTop (mkF m q Ls st)) Q) :
    own_Go p.tables e below (T.setTop (mkF m pc Ls (.int y :: .int x :: st))) Q := by
  subst hq
  exact own_go (fun t => XS.icmpNo (own_here A) C.1 rfl (hb C.2.1 hd) rfl hc) k
theorem own_ifY (C : own_Cx Z a0 p l e R s m args below meth c own nm bytes mx ret) (A : own_At p l e R s m args below meth c T h n0 kc ks) {cd : ClassFile.Cond} {i : Int} {x : Int32} (hd : decode bytes pc = .ok (.ifCond cd i, 3)) (hc : ifCond.holds cd x = true) (ho : 0 ≤ (pc : Int) + i) (hq : ((pc : Int) + i).toNat = q) (k : own_Go p.tables e below (T.setTop (mkF m q Ls st)) Q) :
    own_Go p.tables e below (T.setTop (mkF m pc Ls (.int x :: st))) Q := own_go (fun t => XS.ifYes (own_here A) C.1 rfl rfl (hb C.2.1 hd) rfl hc ho hq) k
theorem own_ifN (C : own_Cx Z a0 p l e R s m args below meth c own nm bytes mx ret) (A : own_At p l e R s m args below meth c T h n0 kc ks) {cd : ClassFile.Cond} {i : Int} {x : Int32} (hd : decode bytes pc = .ok (.ifCond cd i, 3)) (hc : ifCond.holds cd x = false) (hq : pc + 3 = q) (k : own_Go p.tables e below (T.setTop (mkF m q Ls st)) Q) :
    own_Go p.tables e below (T.setTop (mkF m pc Ls (.int x :: st))) Q := by
  subst hq
  exact own_go (fun t => XS.ifNo (own_here A) C.1 rfl (hb C.2.1 hd) rfl hc) k
theorem own_ldcI (C : own_Cx Z a0 p l e R s m args below meth c own nm bytes mx ret) (A : own_At p l e R s m args below meth c T h n0 kc ks) {i : Nat} {v : Int32} (w : (Jvm.Cond.constant own i v).before a0 Z = true) (hd : decode bytes pc = .ok (.ldc i, 2)) (hq : pc + 2 = q) (k : own_Go p.tables e below (T.setTop (mkF m q Ls (.int v :: st))) Q) :
    own_Go p.tables e below (T.setTop (mkF m pc Ls st)) Q := by
  obtain ⟨_, _, _, X, _⟩ := A
  subst hq
  exact own_go (X.ldcInt C.1 C.2.2.2.1 (mvT C.2.2.2.2.1 w) (g := mkF m pc Ls st) rfl (hb C.2.1 hd)) k
theorem own_ldcJ (C : own_Cx Z a0 p l e R s m args below meth c own nm bytes mx ret) (A : own_At p l e R s m args below meth c T h n0 kc ks) {i : Nat} {v : Int64} (w : (Jvm.Cond.constantLong own i v).before a0 Z = true) (hd : decode bytes pc = .ok (.ldc2_w i, 3)) (hq : pc + 3 = q) (k : own_Go p.tables e below (T.setTop (mkF m q Ls (.long v :: st))) Q) :
    own_Go p.tables e below (T.setTop (mkF m pc Ls st)) Q := by
  obtain ⟨_, _, _, X, _⟩ := A
  subst hq
  exact own_go (X.ldc2Long C.1 C.2.2.2.1 (mvT C.2.2.2.2.1 w) (g := mkF m pc Ls st) rfl (hb C.2.1 hd)) k
theorem own_retI {z : Int32} (C : own_Cx Z a0 p l e R s m args below meth c own nm bytes mx (some .int)) (A : own_At p l e R s m args below meth c T h n0 kc ks) {P : Option Value → Heap → Prop}  (hd : decode bytes pc = .ok (.ireturn, 1)) (hP : P (some (.int z)) h) :
    own_Go p.tables e below (T.setTop (mkF m pc Ls [.int z])) (own_QR s n0 kc ks P) := by
  obtain ⟨locs, cells, slots, X, eT, N, hc, hs, hn⟩ := A
  have hr' := C.2.2.2.2.2.2.1
  obtain ⟨fs, hr, hrun, hended, hW, hsame⟩ := X.leave (v := (some (.int z))) (fun hh => by first | rfl | (rw [hr'] at hh; cases hh)) C.2.2.2.2.2.2.2.1
  have eF : (T.setFrames fs).heap = h := eT
  exact ⟨_, _, X.ireturnOut C.1 hr' rfl (Or.inl rfl) (hb C.2.1 hd) hr, hrun, hended, _, locs, rfl, ⟨by rw [eF]; exact hP, N⟩, ⟨_, rfl⟩, hW, hsame.mono hc hs⟩
theorem own_retJ {z : Int64} (C : own_Cx Z a0 p l e R s m args below meth c own nm bytes mx (some .long)) (A : own_At p l e R s m args below meth c T h n0 kc ks) {P : Option Value → Heap → Prop}  (hd : decode bytes pc = .ok (.lreturn, 1)) (hP : P (some (.long z)) h) :
    own_Go p.tables e below (T.setTop (mkF m pc Ls [.long z])) (own_QR s n0 kc ks P) := by
  obtain ⟨locs, cells, slots, X, eT, N, hc, hs, hn⟩ := A
  have hr' := C.2.2.2.2.2.2.1
  obtain ⟨fs, hr, hrun, hended, hW, hsame⟩ := X.leave (v := (some (.long z))) (fun hh => by first | rfl | (rw [hr'] at hh; cases hh)) C.2.2.2.2.2.2.2.1
  have eF : (T.setFrames fs).heap = h := eT
  exact ⟨_, _, X.lreturnOut C.1 hr' (hb C.2.1 hd) hr, hrun, hended, _, locs, rfl, ⟨by rw [eF]; exact hP, N⟩, ⟨_, rfl⟩, hW, hsame.mono hc hs⟩
theorem own_retA {a : Addr} {t : FieldType} (C : own_Cx Z a0 p l e R s m args below meth c own nm bytes mx (some t)) (A : own_At p l e R s m args below meth c T h n0 kc ks) {P : Option Value → Heap → Prop} (hta : t.isReference = true) (hna : narrow t (.ref a) = .ref a) (hd : decode bytes pc = .ok (.areturn, 1)) (hP : P (some (.ref a)) h) :
    own_Go p.tables e below (T.setTop (mkF m pc Ls (.ref a :: st))) (own_QR s n0 kc ks P) := by
  obtain ⟨locs, cells, slots, X, eT, N, hc, hs, hn⟩ := A
  have hr' := C.2.2.2.2.2.2.1
  obtain ⟨fs, hr, hrun, hended, hW, hsame⟩ := X.leave (v := (some (.ref a))) (fun hh => by first | rfl | (rw [hr'] at hh; cases hh)) C.2.2.2.2.2.2.2.1
  have eF : (T.setFrames fs).heap = h := eT
  exact ⟨_, _, retOut X C.1 hr' hna (Or.inr (Or.inr (Or.inr (Or.inr ⟨rfl, hta, rfl⟩)))) (hb C.2.1 hd) hr, hrun, hended, _, locs, rfl, ⟨by rw [eF]; exact hP, N⟩, ⟨_, rfl⟩, hW, hsame.mono hc hs⟩
theorem own_ret0  (C : own_Cx Z a0 p l e R s m args below meth c own nm bytes mx none) (A : own_At p l e R s m args below meth c T h n0 kc ks) {P : Option Value → Heap → Prop}  (hd : decode bytes pc = .ok (.return_, 1)) (hP : P none h) :
    own_Go p.tables e below (T.setTop (mkF m pc Ls [])) (own_QR s n0 kc ks P) := by
  obtain ⟨locs, cells, slots, X, eT, N, hc, hs, hn⟩ := A
  have hr' := C.2.2.2.2.2.2.1
  obtain ⟨fs, hr, hrun, hended, hW, hsame⟩ := X.leave (v := none) (fun hh => by first | rfl | (rw [hr'] at hh; cases hh)) C.2.2.2.2.2.2.2.1
  have eF : (T.setFrames fs).heap = h := eT
  exact ⟨_, _, X.returnOut C.1 hr' (hb C.2.1 hd) hr, hrun, hended, _, locs, rfl, ⟨by rw [eF]; exact hP, N⟩, ⟨_, rfl⟩, hW, hsame.mono hc hs⟩
theorem own_retN {z : Int32} {t : FieldType} (C : own_Cx Z a0 p l e R s m args below meth c own nm bytes mx (some t)) (A : own_At p l e R s m args below meth c T h n0 kc ks) {P : Option Value → Heap → Prop} (ht : t = .boolean ∨ t = .byte ∨ t = .char ∨ t = .short) (hd : decode bytes pc = .ok (.ireturn, 1)) (hP : P (some (.int (nar t z))) h) :
    own_Go p.tables e below (T.setTop (mkF m pc Ls (.int z :: st))) (own_QR s n0 kc ks P) := by
  obtain ⟨locs, cells, slots, X, eT, N, hc, hs, hn⟩ := A
  have hr' := C.2.2.2.2.2.2.1
  obtain ⟨fs, hr, hrun, hended, hW, hsame⟩ := X.leave (v := (some (.int (nar t z)))) (fun hh => by first | rfl | (rw [hr'] at hh; cases hh)) C.2.2.2.2.2.2.2.1
  have eF : (T.setFrames fs).heap = h := eT
  exact ⟨_, _, retN X C.1 hr' ht (hb C.2.1 hd) hr, hrun, hended, _, locs, rfl, ⟨by rw [eF]; exact hP, N⟩, ⟨_, rfl⟩, hW, hsame.mono hc hs⟩
theorem own_met {y : MethodName} {ws : List Jvm.Cond} {as' : Array Value} {P : Option Value → Heap → Prop} (hpl : plainFor y = true) (hw : ∀ d ∈ tables_1, d.before a0 Z = true) (hn : n0 ≤ h.size) (hef : ∀ m, entryFrame m as' mx = mkF m 0 Ls [])
    (body : ∀ p e s m below meth c T, own_Cx Z a0 p l e R s m as' below meth c y.cls y.name bytes mx ret → own_At p l e R s m as' below meth c T h n0 0 0 → own_Go p.tables e below (T.setTop (mkF m 0 Ls [])) (own_QR s n0 kc ks P)) :
    MetFree l y (head1 (Jvm.Cond.code y bytes mx ret :: ws) R) (fun a U => a = as' ∧ Z.Warmed39 U.vm ∧ U.heap = h) (fun _ _ _ _ _ => True) (fun _ U o U' => own_QR U n0 kc ks P o U') := by
  refine MetFree.of_bodySF hpl hisR ?_
  intro p e s m args below meth c s₁ Bd hml0 hP hK
  obtain ⟨rfl, hZ, hh⟩ := hP
  have C : own_Cx Z a0 p l e R s m args below meth c y.cls y.name bytes mx ret := ⟨Bd.exec, Bd.bytes, hml0, findClass_of_methodNamed Bd.named, hZ, (name_of_methodNamed Bd.named Bd.method).1, Bd.returns, Bd.notSynchronized, hw⟩
  have A : own_At p l e R s m args below meth c s₁ h n0 0 0 := ⟨[], 0, 0, Stand.of_body Bd, by rw [← hh, Bd.state]; rfl, Fr.nil n0, Nat.le_refl _, Nat.le_refl _, hn⟩
  have k := body p e s m below meth c s₁ C A
  rw [← hef m] at k
  exact k
theorem own_backQ {y : MethodName} {by' : ByteArray} {mx' : Nat} {rt : Option FieldType} {rm : Room} {as' : Array Value} {P : Option Value → Heap → Prop} (hM : MetFree l y (head1 [Jvm.Cond.code y by' mx' rt] rm) (fun a U => a = as' ∧ Z.Warmed39 U.vm ∧ U.heap = h) (fun _ _ _ _ _ => True) (fun _ U o U' => own_QR U n0 rm.cells rm.slots P o U')) :
    MetFree l y (head1 [Jvm.Cond.code y by' mx' rt] rm) (fun a U => a = as' ∧ Z.Warmed39 U.vm ∧ U.heap = h) (fun _ _ _ _ _ => True) (fun _ U o U' => ∃ v L, o = .returned v ∧ (P v U'.heap ∧ Fr n0 L ∧ h.size ≤ U'.heap.size) ∧ FrameEnd U o U' L rm.cells rm.slots) := by
  intro p e ha hc hk s m args below hf happ hP hK
  obtain ⟨n, o, h1, h2, h3, v, L, e1, ⟨hp, hl⟩, hF⟩ := hM p e ha hc hk s m args below hf happ hP hK
  refine ⟨n, o, h1, h2, h3, v, L, e1, ⟨hp, hl, ?_⟩, hF⟩
  have := hF.2.2.2.1
  rw [← hP.2.2]
  exact this
theorem own_callS (C : own_Cx Z a0 p l e R s m args below meth c own nm bytes mx ret) (A : own_At p l e R s m args below meth c T h n0 kc ks) {i : Nat} {y : MethodName} {by' : ByteArray} {mx' : Nat} {rt : Option FieldType} {rm : Room} (W : Nat) {as' : Array Value} (argsL rest : List Value) {P : Option Value → Heap → Prop} (w1 : (Jvm.Cond.methodLink own i y).before a0 Z = true) (w2 : (Jvm.Cond.static y).before a0 Z = true) (w3 : (Jvm.Cond.initialized y.cls).before a0 Z = true) (w4 : (Jvm.Cond.code y by' mx' rt).before a0 Z = true) (hy : y.cls ≠ "java/lang/invoke/MethodHandle" ∧ y.cls ≠ "java/lang/invoke/VarHandle")
    (hM : MetFree l y (head1 [Jvm.Cond.code y by' mx' rt] rm) (fun a U => a = as' ∧ Z.Warmed39 U.vm ∧ U.heap = h) (fun _ _ _ _ _ => True) (fun _ U o U' => own_QR U n0 rm.cells rm.slots P o U'))
    (hf : rm.frames + 1 ≤ R.frames) (hl : W + (mx' + 11) + rm.locals ≤ R.locals) (hc : kc + rm.cells ≤ R.cells) (hs : ks + rm.slots ≤ R.slots) {ps : List FieldType} (hpd : parseMethodDescriptor y.desc = some ⟨ps, rt⟩) (hlen : argsL.length = ps.length) (has : argsL.toArray = as') (hst : st = argsL.reverse ++ rest) (hW : (rest.map fun v => v.category).sum ≤ W) (hsz : Ls.size = mx) (hd : decode bytes pc = .ok (.invokestatic i, 3)) (hq : pc + 3 = q)
    (k : ∀ v T' h', P v h' → own_At p l e R s m args below meth c T' h' n0 (kc + rm.cells) (ks + rm.slots) → own_Go p.tables e below (T'.setTop (mkF m q Ls (v.toList ++ rest))) Q) :
    own_Go p.tables e below (T.setTop (mkF m pc Ls st)) Q := by
  obtain ⟨locs, cells, slots, X, eT, N, hc', hs', hn⟩ := A
  obtain ⟨v, _, ⟨T', L', k', n'⟩, -, X', ⟨Lc, hQ, hB1, hB2, hB3⟩, st'⟩ := Jvm.LawKit.callS X C.1 (y := y) C.2.2.2.1 (mvT C.2.2.2.2.1 w1) (mvT C.2.2.2.2.1 w2) (mvT C.2.2.2.2.1 w3) (mvT C.2.2.2.2.1 w4) hy (backOf (W := W) (Q := fun v h' L => P v h' ∧ Fr n0 L ∧ h.size ≤ h'.size) (own_backQ hM) C.2.2.2.2.1 w4 w3 hf hl) (g := mkF m pc Ls st) rfl (by rw [C.2.2.1]; exact hsz) (argsL := argsL) (rest := rest) (lenOf hpd hlen) hst (by show 2 * 0 + _ ≤ _; omega) (hb C.2.1 hd) (fun _ _ => ⟨has, eT, Nat.le_trans (Nat.add_le_add_right hc' _) hc, Nat.le_trans (Nat.add_le_add_right hs' _) hs⟩)
  dsimp only [Pt.U, Pt.locs, Pt.cells, Pt.slots] at X' hB1 hB2 hB3 st' hQ
  subst hq hB1 hB2 hB3
  exact own_go st' (k v T' T'.heap hQ.1 ⟨_, _, _, X', rfl, N.app hQ.2.1, by omega, by omega, Nat.le_trans hn hQ.2.2⟩)
theorem own_callC (C : own_Cx Z a0 p l e R s m args below meth c own nm bytes mx ret) (A : own_At p l e R s m args below meth c T h n0 kc ks) {i : Nat} {y : MethodName} {by' : ByteArray} {mx' : Nat} {rm : Room} (W : Nat) {as' : Array Value} (argsL rest : List Value) {P : Option Value → Heap → Prop} {a : Addr} (hy1 : y.name = "<init>") (w1 : (Jvm.Cond.methodLink own i y).before a0 Z = true) (w2 : (Jvm.Cond.instanceMethod y).before a0 Z = true) (w3 : (Jvm.Cond.initialized y.cls).before a0 Z = true) (w4 : (Jvm.Cond.code y by' mx' none).before a0 Z = true) (hy : y.cls ≠ "java/lang/invoke/MethodHandle" ∧ y.cls ≠ "java/lang/invoke/VarHandle")
    (hM : MetFree l y (head1 [Jvm.Cond.code y by' mx' none] rm) (fun a U => a = as' ∧ Z.Warmed39 U.vm ∧ U.heap = h) (fun _ _ _ _ _ => True) (fun _ U o U' => own_QR U n0 rm.cells rm.slots P o U'))
    (hf : rm.frames + 1 ≤ R.frames) (hl : W + (mx' + 11) + rm.locals ≤ R.locals) (hc : kc + rm.cells ≤ R.cells) (hs : ks + rm.slots ≤ R.slots) {ps : List FieldType} (hpd : parseMethodDescriptor y.desc = some ⟨ps, none⟩) (hlen : argsL.length = ps.length) (has : (Value.ref a :: argsL).toArray = as') (hst : st = argsL.reverse ++ .ref a :: rest) (hW : (rest.map fun v => v.category).sum ≤ W) (hsz : Ls.size = mx) (hd : decode bytes pc = .ok (.invokespecial i, 3)) (hq : pc + 3 = q)
    (k : ∀ v T' h', P v h' → own_At p l e R s m args below meth c T' h' n0 (kc + rm.cells) (ks + rm.slots) → own_Go p.tables e below (T'.setTop (mkF m q Ls (v.toList ++ rest))) Q) :
    own_Go p.tables e below (T.setTop (mkF m pc Ls st)) Q := by
  obtain ⟨locs, cells, slots, X, eT, N, hc', hs', hn⟩ := A
  obtain ⟨v, _, ⟨T', L', k', n'⟩, -, X', ⟨Lc, hQ, hB1, hB2, hB3⟩, st'⟩ := X.specialBack C.1 (y := y) hy1 C.2.2.2.1 (mvT C.2.2.2.2.1 w1) (mvT C.2.2.2.2.1 w2) (mvT C.2.2.2.2.1 w4) hy (backOf (W := W) (Q := fun v h' L => P v h' ∧ Fr n0 L ∧ h.size ≤ h'.size) (own_backQ hM) C.2.2.2.2.1 w4 w3 hf hl) (g := mkF m pc Ls st) rfl (by rw [C.2.2.1]; exact hsz) (Steps.refl _) (a := a) (argsL := argsL) (rest := rest) (lenOf hpd hlen) hst (by show 2 * 0 + _ ≤ _; omega) (hb C.2.1 hd) (fun _ _ => ⟨has, eT, Nat.le_trans (Nat.add_le_add_right hc' _) hc, Nat.le_trans (Nat.add_le_add_right hs' _) hs⟩)
  dsimp only [Pt.U, Pt.locs, Pt.cells, Pt.slots] at X' hB1 hB2 hB3 st' hQ
  subst hq hB1 hB2 hB3
  exact own_go (fun t ht => st'.trans ht) (k v T' T'.heap hQ.1 ⟨_, _, _, X', rfl, N.app hQ.2.1, by omega, by omega, Nat.le_trans hn hQ.2.2⟩)
theorem own_callV (C : own_Cx Z a0 p l e R s m args below meth c own nm bytes mx ret) (A : own_At p l e R s m args below meth c T h n0 kc ks) {i : Nat} {y : MethodName} {by' : ByteArray} {mx' : Nat} {rt : Option FieldType} {rm : Room} (W : Nat) {as' : Array Value} (argsL rest : List Value) {P : Option Value → Heap → Prop} {a : Addr} {B : String} (w1 : (Jvm.Cond.methodLink own i y).before a0 Z = true) (w2 : (Jvm.Cond.declares y).before a0 Z = true) (w5 : (Jvm.Cond.selects B y y).before a0 Z = true) (w6 : (Jvm.Cond.instanceMethod y).before a0 Z = true) (w3 : (Jvm.Cond.initialized y.cls).before a0 Z = true) (w4 : (Jvm.Cond.code y by' mx' rt).before a0 Z = true) (hy : y.cls ≠ "java/lang/invoke/MethodHandle" ∧ y.cls ≠ "java/lang/invoke/VarHandle") (hBy : y.cls = B) (E : Exa Z h a B)
    (hM : MetFree l y (head1 [Jvm.Cond.code y by' mx' rt] rm) (fun a U => a = as' ∧ Z.Warmed39 U.vm ∧ U.heap = h) (fun _ _ _ _ _ => True) (fun _ U o U' => own_QR U n0 rm.cells rm.slots P o U'))
    (hf : rm.frames + 1 ≤ R.frames) (hl : W + (mx' + 11) + rm.locals ≤ R.locals) (hc : kc + rm.cells ≤ R.cells) (hs : ks + rm.slots ≤ R.slots) {ps : List FieldType} (hpd : parseMethodDescriptor y.desc = some ⟨ps, rt⟩) (hlen : argsL.length = ps.length) (has : (Value.ref a :: argsL).toArray = as') (hst : st = argsL.reverse ++ .ref a :: rest) (hW : (rest.map fun v => v.category).sum ≤ W) (hsz : Ls.size = mx) (hd : decode bytes pc = .ok (.invokevirtual i, 3)) (hq : pc + 3 = q)
    (k : ∀ v T' h', P v h' → own_At p l e R s m args below meth c T' h' n0 (kc + rm.cells) (ks + rm.slots) → own_Go p.tables e below (T'.setTop (mkF m q Ls (v.toList ++ rest))) Q) :
    own_Go p.tables e below (T.setTop (mkF m pc Ls st)) Q := by
  obtain ⟨locs, cells, slots, X, eT, N, hc', hs', hn⟩ := A
  subst hBy
  obtain ⟨cB, kB, qa, qb, qc⟩ := isOf (T := T) C.2.2.2.2.1 eT E
  obtain ⟨v, _, ⟨T', L', k', n'⟩, -, X', ⟨Lc, hQ, hB1, hB2, hB3⟩, st'⟩ := X.virtualBack C.1 (y := y) (z := y) C.2.2.2.1 (mvT C.2.2.2.2.1 w1) (mvT C.2.2.2.2.1 w2) (notFace_of_selects (args := #[]) (mvT C.2.2.2.2.1 w5)) (mvT C.2.2.2.2.1 w5) (mvT C.2.2.2.2.1 w6) hy (backOf (W := W) (Q := fun v h' L => P v h' ∧ Fr n0 L ∧ h.size ≤ h'.size) (own_backQ hM) C.2.2.2.2.1 w4 w3 hf hl) qa qc (g := mkF m pc Ls st) rfl (by rw [C.2.2.1]; exact hsz) (Steps.refl _) (argsL := argsL) (rest := rest) (lenOf hpd hlen) hst (by show 2 * 0 + _ ≤ _; omega) (hb C.2.1 hd) (fun _ _ => ⟨has, eT, Nat.le_trans (Nat.add_le_add_right hc' _) hc, Nat.le_trans (Nat.add_le_add_right hs' _) hs⟩)
  dsimp only [Pt.U, Pt.locs, Pt.cells, Pt.slots] at X' hB1 hB2 hB3 st' hQ
  subst hq hB1 hB2 hB3
  exact own_go (fun t ht => st'.trans ht) (k v T' T'.heap hQ.1 ⟨_, _, _, X', rfl, N.app hQ.2.1, by omega, by omega, Nat.le_trans hn hQ.2.2⟩)
theorem own_callP (C : own_Cx Z a0 p l e R s m args below meth c own nm bytes mx ret) (A : own_At p l e R s m args below meth c T h n0 kc ks) {i : Nat} {y : MethodName} {by' : ByteArray} {mx' : Nat} {rt : Option FieldType} {rm : Room} (W : Nat) {as' : Array Value} (argsL rest : List Value) {P : Option Value → Heap → Prop} {a : Addr} {B : String} {kk : Nat} (w1 : (Jvm.Cond.methodLink own i y).before a0 Z = true) (w6 : (Jvm.Cond.instanceMethod y).before a0 Z = true) (wp : (Jvm.Cond.privateMethod y).before a0 Z = true) (wi : (Jvm.Cond.instantiable y.cls kk).before a0 Z = true) (w3 : (Jvm.Cond.initialized y.cls).before a0 Z = true) (w4 : (Jvm.Cond.code y by' mx' rt).before a0 Z = true) (hy : y.cls ≠ "java/lang/invoke/MethodHandle" ∧ y.cls ≠ "java/lang/invoke/VarHandle") (E : Exa Z h a B)
    (hM : MetFree l y (head1 [Jvm.Cond.code y by' mx' rt] rm) (fun a U => a = as' ∧ Z.Warmed39 U.vm ∧ U.heap = h) (fun _ _ _ _ _ => True) (fun _ U o U' => own_QR U n0 rm.cells rm.slots P o U'))
    (hf : rm.frames + 1 ≤ R.frames) (hl : W + (mx' + 11) + rm.locals ≤ R.locals) (hc : kc + rm.cells ≤ R.cells) (hs : ks + rm.slots ≤ R.slots) {ps : List FieldType} (hpd : parseMethodDescriptor y.desc = some ⟨ps, rt⟩) (hlen : argsL.length = ps.length) (has : (Value.ref a :: argsL).toArray = as') (hst : st = argsL.reverse ++ .ref a :: rest) (hW : (rest.map fun v => v.category).sum ≤ W) (hsz : Ls.size = mx) (hd : decode bytes pc = .ok (.invokevirtual i, 3)) (hq : pc + 3 = q)
    (k : ∀ v T' h', P v h' → own_At p l e R s m args below meth c T' h' n0 (kc + rm.cells) (ks + rm.slots) → own_Go p.tables e below (T'.setTop (mkF m q Ls (v.toList ++ rest))) Q) :
    own_Go p.tables e below (T.setTop (mkF m pc Ls st)) Q := by
  obtain ⟨locs, cells, slots, X, eT, N, hc', hs', hn⟩ := A
  obtain ⟨cl, hcell, hobj⟩ := Exa.cell E
  have hpr : s.PrivateAt y := Cond.privateMethod_at (mvP C.2.2.2.2.1 wp (args := #[]))
  have wi' : (Jvm.Cond.instantiable y.cls kk).before args s = true := mvT C.2.2.2.2.1 wi
  have w6' : (Jvm.Cond.instanceMethod y).before args s = true := mvT C.2.2.2.2.1 w6
  obtain ⟨cc, kc', q1, q2, -, q4, -⟩ := Cond.instantiable_spec wi'
  have hsel : (Jvm.Cond.selects y.cls y y).before args s = true := Jvm.Stand.selects_self_of_private q1 q2 (Bool.or_eq_false_iff.mp q4).1 hpr w6' hy
  obtain ⟨v, _, ⟨T', L', k', n'⟩, -, X', ⟨Lc, hQ, hB1, hB2, hB3⟩, st'⟩ := X.privateBack C.1 (y := y) C.2.2.2.1 (mvT C.2.2.2.2.1 w1) w6' hsel hpr (mvT C.2.2.2.2.1 w4) hy (backOf (W := W) (Q := fun v h' L => P v h' ∧ Fr n0 L ∧ h.size ≤ h'.size) (own_backQ hM) C.2.2.2.2.1 w4 w3 hf hl) (g := mkF m pc Ls st) rfl (by rw [C.2.2.1]; exact hsz) (Steps.refl _) (a := a) (by rw [eT]; exact hcell) hobj (argsL := argsL) (rest := rest) (lenOf hpd hlen) hst (by show 2 * 0 + _ ≤ _; omega) (hb C.2.1 hd) (fun _ _ => ⟨has, eT, Nat.le_trans (Nat.add_le_add_right hc' _) hc, Nat.le_trans (Nat.add_le_add_right hs' _) hs⟩)
  dsimp only [Pt.U, Pt.locs, Pt.cells, Pt.slots] at X' hB1 hB2 hB3 st' hQ
  subst hq hB1 hB2 hB3
  exact own_go (fun t ht => st'.trans ht) (k v T' T'.heap hQ.1 ⟨_, _, _, X', rfl, N.app hQ.2.1, by omega, by omega, Nat.le_trans hn hQ.2.2⟩)
theorem own_callSI (C : own_Cx Z a0 p l e R s m args below meth c own nm bytes mx ret) (A : own_At p l e R s m args below meth c T h n0 kc ks) {i : Nat} {y : MethodName} {by' : ByteArray} {mx' : Nat} {rt : Option FieldType} {rm : Room} (W : Nat) {as' : Array Value} (argsL rest : List Value) {r : Int32} (w1 : (Jvm.Cond.methodLink own i y).before a0 Z = true) (w2 : (Jvm.Cond.static y).before a0 Z = true) (w3 : (Jvm.Cond.initialized y.cls).before a0 Z = true) (w4 : (Jvm.Cond.code y by' mx' rt).before a0 Z = true) (hy : y.cls ≠ "java/lang/invoke/MethodHandle" ∧ y.cls ≠ "java/lang/invoke/VarHandle")
    (hM : MetFree l y (head1 [Jvm.Cond.code y by' mx' rt] rm) (fun a U => a = as' ∧ Z.Warmed39 U.vm ∧ U.heap = h) (fun _ _ _ _ _ => True) (fun _ U o U' => own_QR U n0 rm.cells rm.slots (own_RI h r) o U'))
    (h0c : rm.cells = 0) (h0s : rm.slots = 0) (hf : rm.frames + 1 ≤ R.frames) (hl : W + (mx' + 11) + rm.locals ≤ R.locals) (hc : kc + rm.cells ≤ R.cells) (hs : ks + rm.slots ≤ R.slots) {ps : List FieldType} (hpd : parseMethodDescriptor y.desc = some ⟨ps, rt⟩) (hlen : argsL.length = ps.length) (has : argsL.toArray = as') (hst : st = argsL.reverse ++ rest) (hW : (rest.map fun v => v.category).sum ≤ W) (hsz : Ls.size = mx) (hd : decode bytes pc = .ok (.invokestatic i, 3)) (hq : pc + 3 = q)
    (k : ∀ T', own_At p l e R s m args below meth c T' h n0 kc ks → own_Go p.tables e below (T'.setTop (mkF m q Ls (.int r :: rest))) Q) :
    own_Go p.tables e below (T.setTop (mkF m pc Ls st)) Q := by
  refine own_callS C A W argsL rest w1 w2 w3 w4 hy hM hf hl hc hs hpd hlen has hst hW hsz hd hq (fun v T' h' hP A' => ?_)
  obtain ⟨rfl, rfl⟩ := hP
  rw [h0c, h0s] at A'
  exact k T' A'
theorem own_callSJ (C : own_Cx Z a0 p l e R s m args below meth c own nm bytes mx ret) (A : own_At p l e R s m args below meth c T h n0 kc ks) {i : Nat} {y : MethodName} {by' : ByteArray} {mx' : Nat} {rt : Option FieldType} {rm : Room} (W : Nat) {as' : Array Value} (argsL rest : List Value) {r : Int64} (w1 : (Jvm.Cond.methodLink own i y).before a0 Z = true) (w2 : (Jvm.Cond.static y).before a0 Z = true) (w3 : (Jvm.Cond.initialized y.cls).before a0 Z = true) (w4 : (Jvm.Cond.code y by' mx' rt).before a0 Z = true) (hy : y.cls ≠ "java/lang/invoke/MethodHandle" ∧ y.cls ≠ "java/lang/invoke/VarHandle")
    (hM : MetFree l y (head1 [Jvm.Cond.code y by' mx' rt] rm) (fun a U => a = as' ∧ Z.Warmed39 U.vm ∧ U.heap = h) (fun _ _ _ _ _ => True) (fun _ U o U' => own_QR U n0 rm.cells rm.slots (own_RJ h r) o U'))
    (h0c : rm.cells = 0) (h0s : rm.slots = 0) (hf : rm.frames + 1 ≤ R.frames) (hl : W + (mx' + 11) + rm.locals ≤ R.locals) (hc : kc + rm.cells ≤ R.cells) (hs : ks + rm.slots ≤ R.slots) {ps : List FieldType} (hpd : parseMethodDescriptor y.desc = some ⟨ps, rt⟩) (hlen : argsL.length = ps.length) (has : argsL.toArray = as') (hst : st = argsL.reverse ++ rest) (hW : (rest.map fun v => v.category).sum ≤ W) (hsz : Ls.size = mx) (hd : decode bytes pc = .ok (.invokestatic i, 3)) (hq : pc + 3 = q)
    (k : ∀ T', own_At p l e R s m args below meth c T' h n0 kc ks → own_Go p.tables e below (T'.setTop (mkF m q Ls (.long r :: rest))) Q) :
    own_Go p.tables e below (T.setTop (mkF m pc Ls st)) Q := by
  refine own_callS C A W argsL rest w1 w2 w3 w4 hy hM hf hl hc hs hpd hlen has hst hW hsz hd hq (fun v T' h' hP A' => ?_)
  obtain ⟨rfl, rfl⟩ := hP
  rw [h0c, h0s] at A'
  exact k T' A'
theorem own_callVI (C : own_Cx Z a0 p l e R s m args below meth c own nm bytes mx ret) (A : own_At p l e R s m args below meth c T h n0 kc ks) {i : Nat} {y : MethodName} {by' : ByteArray} {mx' : Nat} {rt : Option FieldType} {rm : Room} (W : Nat) {as' : Array Value} (argsL rest : List Value) {r : Int32} {a : Addr} {B : String} (w1 : (Jvm.Cond.methodLink own i y).before a0 Z = true) (w2 : (Jvm.Cond.declares y).before a0 Z = true) (w5 : (Jvm.Cond.selects B y y).before a0 Z = true) (w6 : (Jvm.Cond.instanceMethod y).before a0 Z = true) (w3 : (Jvm.Cond.initialized y.cls).before a0 Z = true) (w4 : (Jvm.Cond.code y by' mx' rt).before a0 Z = true) (hy : y.cls ≠ "java/lang/invoke/MethodHandle" ∧ y.cls ≠ "java/lang/invoke/VarHandle") (hBy : y.cls = B) (E : Exa Z h a B)
    (hM : MetFree l y (head1 [Jvm.Cond.code y by' mx' rt] rm) (fun a U => a = as' ∧ Z.Warmed39 U.vm ∧ U.heap = h) (fun _ _ _ _ _ => True) (fun _ U o U' => own_QR U n0 rm.cells rm.slots (own_RI h r) o U'))
    (h0c : rm.cells = 0) (h0s : rm.slots = 0) (hf : rm.frames + 1 ≤ R.frames) (hl : W + (mx' + 11) + rm.locals ≤ R.locals) (hc : kc + rm.cells ≤ R.cells) (hs : ks + rm.slots ≤ R.slots) {ps : List FieldType} (hpd : parseMethodDescriptor y.desc = some ⟨ps, rt⟩) (hlen : argsL.length = ps.length) (has : (Value.ref a :: argsL).toArray = as') (hst : st = argsL.reverse ++ .ref a :: rest) (hW : (rest.map fun v => v.category).sum ≤ W) (hsz : Ls.size = mx) (hd : decode bytes pc = .ok (.invokevirtual i, 3)) (hq : pc + 3 = q)
    (k : ∀ T', own_At p l e R s m args below meth c T' h n0 kc ks → own_Go p.tables e below (T'.setTop (mkF m q Ls (.int r :: rest))) Q) :
    own_Go p.tables e below (T.setTop (mkF m pc Ls st)) Q := by
  refine own_callV C A W argsL rest w1 w2 w5 w6 w3 w4 hy hBy E hM hf hl hc hs hpd hlen has hst hW hsz hd hq (fun v T' h' hP A' => ?_)
  obtain ⟨rfl, rfl⟩ := hP
  rw [h0c, h0s] at A'
  exact k T' A'
theorem own_callVJ (C : own_Cx Z a0 p l e R s m args below meth c own nm bytes mx ret) (A : own_At p l e R s m args below meth c T h n0 kc ks) {i : Nat} {y : MethodName} {by' : ByteArray} {mx' : Nat} {rt : Option FieldType} {rm : Room} (W : Nat) {as' : Array Value} (argsL rest : List Value) {r : Int64} {a : Addr} {B : String} (w1 : (Jvm.Cond.methodLink own i y).before a0 Z = true) (w2 : (Jvm.Cond.declares y).before a0 Z = true) (w5 : (Jvm.Cond.selects B y y).before a0 Z = true) (w6 : (Jvm.Cond.instanceMethod y).before a0 Z = true) (w3 : (Jvm.Cond.initialized y.cls).before a0 Z = true) (w4 : (Jvm.Cond.code y by' mx' rt).before a0 Z = true) (hy : y.cls ≠ "java/lang/invoke/MethodHandle" ∧ y.cls ≠ "java/lang/invoke/VarHandle") (hBy : y.cls = B) (E : Exa Z h a B)
    (hM : MetFree l y (head1 [Jvm.Cond.code y by' mx' rt] rm) (fun a U => a = as' ∧ Z.Warmed39 U.vm ∧ U.heap = h) (fun _ _ _ _ _ => True) (fun _ U o U' => own_QR U n0 rm.cells rm.slots (own_RJ h r) o U'))
    (h0c : rm.cells = 0) (h0s : rm.slots = 0) (hf : rm.frames + 1 ≤ R.frames) (hl : W + (mx' + 11) + rm.locals ≤ R.locals) (hc : kc + rm.cells ≤ R.cells) (hs : ks + rm.slots ≤ R.slots) {ps : List FieldType} (hpd : parseMethodDescriptor y.desc = some ⟨ps, rt⟩) (hlen : argsL.length = ps.length) (has : (Value.ref a :: argsL).toArray = as') (hst : st = argsL.reverse ++ .ref a :: rest) (hW : (rest.map fun v => v.category).sum ≤ W) (hsz : Ls.size = mx) (hd : decode bytes pc = .ok (.invokevirtual i, 3)) (hq : pc + 3 = q)
    (k : ∀ T', own_At p l e R s m args below meth c T' h n0 kc ks → own_Go p.tables e below (T'.setTop (mkF m q Ls (.long r :: rest))) Q) :
    own_Go p.tables e below (T.setTop (mkF m pc Ls st)) Q := by
  refine own_callV C A W argsL rest w1 w2 w5 w6 w3 w4 hy hBy E hM hf hl hc hs hpd hlen has hst hW hsz hd hq (fun v T' h' hP A' => ?_)
  obtain ⟨rfl, rfl⟩ := hP
  rw [h0c, h0s] at A'
  exact k T' A'
theorem own_callPI (C : own_Cx Z a0 p l e R s m args below meth c own nm bytes mx ret) (A : own_At p l e R s m args below meth c T h n0 kc ks) {i : Nat} {y : MethodName} {by' : ByteArray} {mx' : Nat} {rt : Option FieldType} {rm : Room} (W : Nat) {as' : Array Value} (argsL rest : List Value) {r : Int32} {a : Addr} {B : String} {kk : Nat} (w1 : (Jvm.Cond.methodLink own i y).before a0 Z = true) (w6 : (Jvm.Cond.instanceMethod y).before a0 Z = true) (wp : (Jvm.Cond.privateMethod y).before a0 Z = true) (wi : (Jvm.Cond.instantiable y.cls kk).before a0 Z = true) (w3 : (Jvm.Cond.initialized y.cls).before a0 Z = true) (w4 : (Jvm.Cond.code y by' mx' rt).before a0 Z = true) (hy : y.cls ≠ "java/lang/invoke/MethodHandle" ∧ y.cls ≠ "java/lang/invoke/VarHandle") (E : Exa Z h a B)
    (hM : MetFree l y (head1 [Jvm.Cond.code y by' mx' rt] rm) (fun a U => a = as' ∧ Z.Warmed39 U.vm ∧ U.heap = h) (fun _ _ _ _ _ => True) (fun _ U o U' => own_QR U n0 rm.cells rm.slots (own_RI h r) o U'))
    (h0c : rm.cells = 0) (h0s : rm.slots = 0) (hf : rm.frames + 1 ≤ R.frames) (hl : W + (mx' + 11) + rm.locals ≤ R.locals) (hc : kc + rm.cells ≤ R.cells) (hs : ks + rm.slots ≤ R.slots) {ps : List FieldType} (hpd : parseMethodDescriptor y.desc = some ⟨ps, rt⟩) (hlen : argsL.length = ps.length) (has : (Value.ref a :: argsL).toArray = as') (hst : st = argsL.reverse ++ .ref a :: rest) (hW : (rest.map fun v => v.category).sum ≤ W) (hsz : Ls.size = mx) (hd : decode bytes pc = .ok (.invokevirtual i, 3)) (hq : pc + 3 = q)
    (k : ∀ T', own_At p l e R s m args below meth c T' h n0 kc ks → own_Go p.tables e below (T'.setTop (mkF m q Ls (.int r :: rest))) Q) :
    own_Go p.tables e below (T.setTop (mkF m pc Ls st)) Q := by
  refine own_callP C A W argsL rest w1 w6 wp wi w3 w4 hy E hM hf hl hc hs hpd hlen has hst hW hsz hd hq (fun v T' h' hP A' => ?_)
  obtain ⟨rfl, rfl⟩ := hP
  rw [h0c, h0s] at A'
  exact k T' A'
theorem own_callS0 (C : own_Cx Z a0 p l e R s m args below meth c own nm bytes mx ret) (A : own_At p l e R s m args below meth c T h n0 kc ks) {i : Nat} {y : MethodName} {by' : ByteArray} {mx' : Nat} {rt : Option FieldType} {rm : Room} (W : Nat) {as' : Array Value} (argsL rest : List Value)  (w1 : (Jvm.Cond.methodLink own i y).before a0 Z = true) (w2 : (Jvm.Cond.static y).before a0 Z = true) (w3 : (Jvm.Cond.initialized y.cls).before a0 Z = true) (w4 : (Jvm.Cond.code y by' mx' rt).before a0 Z = true) (hy : y.cls ≠ "java/lang/invoke/MethodHandle" ∧ y.cls ≠ "java/lang/invoke/VarHandle")
    (hM : MetFree l y (head1 [Jvm.Cond.code y by' mx' rt] rm) (fun a U => a = as' ∧ Z.Warmed39 U.vm ∧ U.heap = h) (fun _ _ _ _ _ => True) (fun _ U o U' => own_QR U n0 rm.cells rm.slots (own_R0 h ()) o U'))
    (h0c : rm.cells = 0) (h0s : rm.slots = 0) (hf : rm.frames + 1 ≤ R.frames) (hl : W + (mx' + 11) + rm.locals ≤ R.locals) (hc : kc + rm.cells ≤ R.cells) (hs : ks + rm.slots ≤ R.slots) {ps : List FieldType} (hpd : parseMethodDescriptor y.desc = some ⟨ps, rt⟩) (hlen : argsL.length = ps.length) (has : argsL.toArray = as') (hst : st = argsL.reverse ++ rest) (hW : (rest.map fun v => v.category).sum ≤ W) (hsz : Ls.size = mx) (hd : decode bytes pc = .ok (.invokestatic i, 3)) (hq : pc + 3 = q)
    (k : ∀ T', own_At p l e R s m args below meth c T' h n0 kc ks → own_Go p.tables e below (T'.setTop (mkF m q Ls rest)) Q) :
    own_Go p.tables e below (T.setTop (mkF m pc Ls st)) Q := by
  refine own_callS C A W argsL rest w1 w2 w3 w4 hy hM hf hl hc hs hpd hlen has hst hW hsz hd hq (fun v T' h' hP A' => ?_)
  obtain ⟨rfl, rfl⟩ := hP
  rw [h0c, h0s] at A'
  exact k T' A'
theorem own_callC0 (C : own_Cx Z a0 p l e R s m args below meth c own nm bytes mx ret) (A : own_At p l e R s m args below meth c T h n0 kc ks) {i : Nat} {y : MethodName} {by' : ByteArray} {mx' : Nat} {rm : Room} (W : Nat) {as' : Array Value} (argsL rest : List Value)  {a : Addr} (hy1 : y.name = "<init>") (w1 : (Jvm.Cond.methodLink own i y).before a0 Z = true) (w2 : (Jvm.Cond.instanceMethod y).before a0 Z = true) (w3 : (Jvm.Cond.initialized y.cls).before a0 Z = true) (w4 : (Jvm.Cond.code y by' mx' none).before a0 Z = true) (hy : y.cls ≠ "java/lang/invoke/MethodHandle" ∧ y.cls ≠ "java/lang/invoke/VarHandle")
    (hM : MetFree l y (head1 [Jvm.Cond.code y by' mx' none] rm) (fun a U => a = as' ∧ Z.Warmed39 U.vm ∧ U.heap = h) (fun _ _ _ _ _ => True) (fun _ U o U' => own_QR U n0 rm.cells rm.slots (own_R0 h ()) o U'))
    (h0c : rm.cells = 0) (h0s : rm.slots = 0) (hf : rm.frames + 1 ≤ R.frames) (hl : W + (mx' + 11) + rm.locals ≤ R.locals) (hc : kc + rm.cells ≤ R.cells) (hs : ks + rm.slots ≤ R.slots) {ps : List FieldType} (hpd : parseMethodDescriptor y.desc = some ⟨ps, none⟩) (hlen : argsL.length = ps.length) (has : (Value.ref a :: argsL).toArray = as') (hst : st = argsL.reverse ++ .ref a :: rest) (hW : (rest.map fun v => v.category).sum ≤ W) (hsz : Ls.size = mx) (hd : decode bytes pc = .ok (.invokespecial i, 3)) (hq : pc + 3 = q)
    (k : ∀ T', own_At p l e R s m args below meth c T' h n0 kc ks → own_Go p.tables e below (T'.setTop (mkF m q Ls rest)) Q) :
    own_Go p.tables e below (T.setTop (mkF m pc Ls st)) Q := by
  refine own_callC C A W argsL rest hy1 w1 w2 w3 w4 hy hM hf hl hc hs hpd hlen has hst hW hsz hd hq (fun v T' h' hP A' => ?_)
  obtain ⟨rfl, rfl⟩ := hP
  rw [h0c, h0s] at A'
  exact k T' A'
theorem own_initO (C : own_Cx Z a0 p l e R s m args below meth c own nm bytes mx ret) (A : own_At p l e R s m args below meth c T h n0 kc ks) {i : Nat} {a : Addr} (W : Nat) (w1 : (Jvm.Cond.methodLink own i Lib.objectInit).before a0 Z = true) (w2 : (Jvm.Cond.instanceMethod Lib.objectInit).before a0 Z = true) (w3 : (Jvm.Cond.code Lib.objectInit ⟨#[0xb1]⟩ 1 none).before a0 Z = true) (hsz : Ls.size = mx) (hd : decode bytes pc = .ok (.invokespecial i, 3)) (hq : pc + 3 = q) (hf : 1 ≤ R.frames) (hW : (st.map fun v => v.category).sum ≤ W) (hl : W + 12 ≤ R.locals)
    (k : ∀ T', own_At p l e R s m args below meth c T' h n0 kc ks → own_Go p.tables e below (T'.setTop (mkF m q Ls st)) Q) :
    own_Go p.tables e below (T.setTop (mkF m pc Ls (.ref a :: st))) Q := by
  obtain ⟨locs, cells, slots, X, eT, N, hc', hs', hn⟩ := A
  obtain ⟨T', X', e', st'⟩ := initO X C.1 C.2.2.2.2.1 C.2.2.2.1 w1 w2 w3 eT (g := mkF m pc Ls (.ref a :: st)) rfl (by rw [C.2.2.1]; exact hsz) rfl (hb C.2.1 hd) hf (W := W) (by show 2 * 0 + _ ≤ _; omega) hl
  subst hq
  exact own_go st' (k T' ⟨locs, cells, slots, X', e', N, hc', hs', hn⟩)
theorem own_getF (C : own_Cx Z a0 p l e R s m args below meth c own nm bytes mx ret) (A : own_At p l e R s m args below meth c T h n0 kc ks) {O n d : String} {i : Nat} {a : Addr} {v : Value} (w : (Jvm.Cond.fieldLink own i O n d).before a0 Z = true) (F : Fld Z h a O n d v) (hd : decode bytes pc = .ok (.getfield i, 3)) (hq : pc + 3 = q) (k : ∀ T', own_At p l e R s m args below meth c T' h n0 kc ks → own_Go p.tables e below (T'.setTop (mkF m q Ls (v :: st))) Q) :
    own_Go p.tables e below (T.setTop (mkF m pc Ls (.ref a :: st))) Q := by
  obtain ⟨locs, cells, slots, X, eT, N, hc', hs', hn⟩ := A
  obtain ⟨T', X', e', st'⟩ := getF X C.1 C.2.2.2.2.1 C.2.2.2.1 (host := "") (Or.inl w) Via.refl eT F (g := mkF m pc Ls (.ref a :: st)) rfl rfl (hb C.2.1 hd)
  subst hq
  exact own_go st' (k T' ⟨locs, cells, slots, X', e', N, hc', hs', hn⟩)
theorem own_putF (C : own_Cx Z a0 p l e R s m args below meth c own nm bytes mx ret) (A : own_At p l e R s m args below meth c T h n0 kc ks) {O n d B : String} {i kk : Nat} {a : Addr} {v old : Value} (ty : FieldType) (w : (Jvm.Cond.fieldLink own i O n d).before a0 Z = true) (F : Fld Z h a O n d old) (E : Exa Z h a B) (Ly : (Jvm.Cond.lays B O n d).before a0 Z = true ∨ ((Jvm.Cond.laysFinal B O n d).before a0 Z = true ∧ own = O ∧ nm = "<init>")) (wi : (Jvm.Cond.instantiable B kk).before a0 Z = true) (hty : parseFieldDescriptor d = some ty) (hnr : narrow ty v = v) (hft : fits ty v = true) (ga : n0 ≤ a) (hd : decode bytes pc = .ok (.putfield i, 3)) (hq : pc + 3 = q)
    (k : ∀ T' h', Wr h h' a (Jvm.RoadKit.slotOf Z O n d) v → own_At p l e R s m args below meth c T' h' n0 kc ks → own_Go p.tables e below (T'.setTop (mkF m q Ls st)) Q) :
    own_Go p.tables e below (T.setTop (mkF m pc Ls (v :: .ref a :: st))) Q := by
  obtain ⟨locs, cells, slots, X, eT, N, hc', hs', hn⟩ := A
  obtain ⟨T', h', X', e', W', st'⟩ := putF X C.1 C.2.2.2.2.1 C.2.2.2.1 (host := "") (Or.inl w) Via.refl eT F E (Ly.imp id fun z => ⟨z.1, z.2.1, by rw [C.2.2.2.2.2.1]; exact z.2.2⟩) wi hty hnr hft (g := mkF m pc Ls (v :: .ref a :: st)) rfl rfl (hb C.2.1 hd)
  subst hq
  exact own_go st' (k T' h' W' ⟨_, cells, slots, X', e', Fr.snoc X' N ga, hc', hs', by rw [W'.size]; exact hn⟩)
theorem own_newO (C : own_Cx Z a0 p l e R s m args below meth c own nm bytes mx ret) (A : own_At p l e R s m args below meth c T h n0 kc ks) {B : String} {i n : Nat} (w : (Jvm.Cond.classLink own i B).before a0 Z = true) (wi : (Jvm.Cond.instantiable B n).before a0 Z = true) (wz : (Jvm.Cond.initialized B).before a0 Z = true) (hd : decode bytes pc = .ok (.new i, 3)) (hq : pc + 3 = q) (hc : kc + 1 ≤ R.cells) (hs : ks + n ≤ R.slots)
    (k : ∀ T' h' a, a = h.size → Ext h h' → Exa Z h' a B → (∀ {O nm d : String} {ty : FieldType}, Laid Z a0 B O nm d → parseFieldDescriptor d = some ty → Fld Z h' a O nm d (defaultValue ty)) → n0 ≤ a → own_At p l e R s m args below meth c T' h' n0 (kc + 1) (ks + n) → own_Go p.tables e below (T'.setTop (mkF m q Ls (.ref a :: st))) Q) :
    own_Go p.tables e below (T.setTop (mkF m pc Ls st)) Q := by
  obtain ⟨locs, cells, slots, X, eT, N, hc', hs', hn⟩ := A
  obtain ⟨T', h', X', e', E', A', D', -, st'⟩ := newO X C.1 C.2.2.2.2.1 C.2.2.2.1 w wi wz eT (g := mkF m pc Ls st) rfl (hb C.2.1 hd) (by omega) (by omega)
  subst hq
  exact own_go st' (k T' h' h.size rfl E' A' D' hn ⟨locs, _, _, X', e', N, by omega, by omega, Nat.le_trans hn E'.1⟩)
theorem own_instY (C : own_Cx Z a0 p l e R s m args below meth c own nm bytes mx ret) (A : own_At p l e R s m args below meth c T h n0 kc ks) {B : String} {i : Nat} {a : Addr} (w : (Jvm.Cond.classLink own i B).before a0 Z = true) (F : Ins Z h a B true) (hd : decode bytes pc = .ok (.instanceof i, 3)) (hq : pc + 3 = q) (k : ∀ T', own_At p l e R s m args below meth c T' h n0 kc ks → own_Go p.tables e below (T'.setTop (mkF m q Ls (.int 1 :: st))) Q) :
    own_Go p.tables e below (T.setTop (mkF m pc Ls (.ref a :: st))) Q := by
  obtain ⟨locs, cells, slots, X, eT, N, hc', hs', hn⟩ := A
  obtain ⟨T', X', e', st'⟩ := instY X C.1 C.2.2.2.2.1 C.2.2.2.1 w eT F (g := mkF m pc Ls (.ref a :: st)) rfl rfl (hb C.2.1 hd)
  subst hq
  exact own_go st' (k T' ⟨locs, cells, slots, X', e', N, hc', hs', hn⟩)
theorem own_castY (C : own_Cx Z a0 p l e R s m args below meth c own nm bytes mx ret) (A : own_At p l e R s m args below meth c T h n0 kc ks) {B : String} {i : Nat} {a : Addr} (w : (Jvm.Cond.classLink own i B).before a0 Z = true) (F : Ins Z h a B true) (hd : decode bytes pc = .ok (.checkcast i, 3)) (hq : pc + 3 = q) (k : ∀ T', own_At p l e R s m args below meth c T' h n0 kc ks → own_Go p.tables e below (T'.setTop (mkF m q Ls (.ref a :: st))) Q) :
    own_Go p.tables e below (T.setTop (mkF m pc Ls (.ref a :: st))) Q := by
  obtain ⟨locs, cells, slots, X, eT, N, hc', hs', hn⟩ := A
  obtain ⟨T', X', e', st'⟩ := castY X C.1 C.2.2.2.2.1 C.2.2.2.1 w eT F (g := mkF m pc Ls (.ref a :: st)) rfl rfl (hb C.2.1 hd)
  subst hq
  exact own_go st' (k T' ⟨locs, cells, slots, X', e', N, hc', hs', hn⟩)
theorem own_instNo (C : own_Cx Z a0 p l e R s m args below meth c own nm bytes mx ret) (A : own_At p l e R s m args below meth c T h n0 kc ks) {B D : String} {i : Nat} {a : Addr} (w : (Jvm.Cond.classLink own i B).before a0 Z = true) (E : Exa Z h a D) (F : ∃ c t, Z.vm.findClass D = some c ∧ Z.vm.findClass B = some t ∧ Z.vm.assignable c t = false) (hd : decode bytes pc = .ok (.instanceof i, 3)) (hq : pc + 3 = q) (k : ∀ T', own_At p l e R s m args below meth c T' h n0 kc ks → own_Go p.tables e below (T'.setTop (mkF m q Ls (.int 0 :: st))) Q) :
    own_Go p.tables e below (T.setTop (mkF m pc Ls (.ref a :: st))) Q := by
  obtain ⟨locs, cells, slots, X, eT, N, hc', hs', hn⟩ := A
  obtain ⟨T', X', e', st'⟩ := instNo X C.1 C.2.2.2.2.1 C.2.2.2.1 w eT E F (g := mkF m pc Ls (.ref a :: st)) rfl rfl (hb C.2.1 hd)
  subst hq
  exact own_go st' (k T' ⟨locs, cells, slots, X', e', N, hc', hs', hn⟩)
theorem own_instNull (C : own_Cx Z a0 p l e R s m args below meth c own nm bytes mx ret) (A : own_At p l e R s m args below meth c T h n0 kc ks) {i : Nat} (hd : decode bytes pc = .ok (.instanceof i, 3)) (hq : pc + 3 = q) (k : own_Go p.tables e below (T.setTop (mkF m q Ls (.int 0 :: st))) Q) :
    own_Go p.tables e below (T.setTop (mkF m pc Ls (.null :: st))) Q := by
  obtain ⟨_, _, _, X, _⟩ := A
  subst hq
  exact own_go (X.instanceofNull C.1 (g := mkF m pc Ls (.null :: st)) rfl rfl (hb C.2.1 hd)) k
def own_Ia (Z : State) (h : Heap) (a : Addr) (ty : FieldType) (n : Int32) (xs : List Int32) : Prop := ∃ k, Arv Z h a k ty n (xs.map .int) (.int 0) ∧ xs.length = n.toNatClampNeg
theorem own_Ia.lt {a : Addr} {ty : FieldType} {n : Int32} {xs : List Int32} (F : own_Ia Z h a ty n xs) : a < h.size := by obtain ⟨k, V, -⟩ := F; exact V.lt
theorem own_Ia.ext {h' : Heap} {a : Addr} {ty : FieldType} {n : Int32} {xs : List Int32} (F : own_Ia Z h a ty n xs) (E : Ext h h') : own_Ia Z h' a ty n xs := by obtain ⟨k, V, hl⟩ := F; exact ⟨k, V.ext E, hl⟩
theorem own_Ia.keep {h' : Heap} {ws : List Addr} {a : Addr} {ty : FieldType} {n : Int32} {xs : List Int32} (F : own_Ia Z h a ty n xs) (K : Keep h h' ws) (q : a ∉ ws) : own_Ia Z h' a ty n xs := by obtain ⟨k, V, hl⟩ := F; exact ⟨k, V.keep K q, hl⟩
theorem own_Ia.other {h' : Heap} {a b : Addr} {sl : Nat} {v : Value} {ty : FieldType} {n : Int32} {xs : List Int32} (F : own_Ia Z h b ty n xs) (W : Wr h h' a sl v) (q : b ≠ a) : own_Ia Z h' b ty n xs := by obtain ⟨k, V, hl⟩ := F; exact ⟨k, V.other W q, hl⟩
theorem own_getD_map (xs : List Int32) (i : Nat) : (xs.map Value.int).getD i (.int 0) = .int (xs.getD i 0) := by
  induction xs generalizing i with
  | nil => rfl
  | cons x t ih => cases i with
    | zero => rfl
    | succ i => simpa using ih i
theorem own_newP (C : own_Cx Z a0 p l e R s m args below meth c own nm bytes mx ret) (A : own_At p l e R s m args below meth c T h n0 kc ks) {aty : ArrayType} {n : Int32} (cap : Nat) {xs : List Int32} (w : (Jvm.Cond.arrayClass (newarray.typeOf aty)).before a0 Z = true) (hn' : ¬ n < 0) (hxs : List.replicate n.toNatClampNeg 0 = xs) (hcap : n.toNatClampNeg ≤ cap) (hcb : cap * 8 ≤ 536870912) (hdv : defaultValue (newarray.typeOf aty) = .int 0) (hd : decode bytes pc = .ok (.newarray aty, 2)) (hq : pc + 2 = q) (hc : kc + 1 ≤ R.cells) (hs : ks + cap ≤ R.slots)
    (k : ∀ T' h' a, a = h.size → Ext h h' → own_Ia Z h' a (newarray.typeOf aty) n xs → n0 ≤ a → own_At p l e R s m args below meth c T' h' n0 (kc + 1) (ks + cap) → own_Go p.tables e below (T'.setTop (mkF m q Ls (.ref a :: st))) Q) :
    own_Go p.tables e below (T.setTop (mkF m pc Ls (.int n :: st))) Q := by
  obtain ⟨locs, cells, slots, X, eT, N, hc', hs', hn⟩ := A
  obtain ⟨T', h', cA, X', e', E', A', st'⟩ := newP X C.1 C.2.2.2.2.1 w eT (g := mkF m pc Ls (.int n :: st)) rfl (hb C.2.1 hd) rfl hn' (cap := cap) hcap hcb (by omega) (by omega)
  subst hq hxs
  have V := Arv.new A' hn'
  rw [hdv] at V
  have V' := V.pad (pad_rep [] (.int 0) n.toNatClampNeg)
  refine own_go st' (k T' h' h.size rfl E' ⟨cA, ?_, by simp⟩ hn ⟨locs, _, _, X', e', N, by omega, by omega, Nat.le_trans hn E'.1⟩)
  simpa using V'
theorem own_newX (C : own_Cx Z a0 p l e R s m args below meth c own nm bytes mx ret) (A : own_At p l e R s m args below meth c T h n0 kc ks) {aty : ArrayType} {n : Int32} (cap : Nat) (w : (Jvm.Cond.arrayClass (newarray.typeOf aty)).before a0 Z = true) (hn' : ¬ n < 0) (hcap : n.toNatClampNeg ≤ cap) (hcb : cap * 8 ≤ 536870912) (hd : decode bytes pc = .ok (.newarray aty, 2)) (hq : pc + 2 = q) (hc : kc + 1 ≤ R.cells) (hs : ks + cap ≤ R.slots)
    (k : ∀ T' h' a, a = h.size → Ext h h' → n0 ≤ a → own_At p l e R s m args below meth c T' h' n0 (kc + 1) (ks + cap) → own_Go p.tables e below (T'.setTop (mkF m q Ls (.ref a :: st))) Q) :
    own_Go p.tables e below (T.setTop (mkF m pc Ls (.int n :: st))) Q := by
  obtain ⟨locs, cells, slots, X, eT, N, hc', hs', hn⟩ := A
  obtain ⟨T', h', cA, X', e', E', A', st'⟩ := newP X C.1 C.2.2.2.2.1 w eT (g := mkF m pc Ls (.int n :: st)) rfl (hb C.2.1 hd) rfl hn' (cap := cap) hcap hcb (by omega) (by omega)
  subst hq
  exact own_go st' (k T' h' h.size rfl E' hn ⟨locs, _, _, X', e', N, by omega, by omega, Nat.le_trans hn E'.1⟩)
def own_PN (Z : State) (n0 : Nat) (ty : FieldType) (h : Heap) (r : Int32 × List Int32) (v : Option Value) (h' : Heap) : Prop := ∃ a, v = some (.ref a) ∧ n0 ≤ a ∧ h.size ≤ a ∧ Keep h h' [] ∧ own_Ia Z h' a ty r.1 r.2
theorem own_iastore (C : own_Cx Z a0 p l e R s m args below meth c own nm bytes mx ret) (A : own_At p l e R s m args below meth c T h n0 kc ks) {a : Addr} {j x n : Int32} {xs ys : List Int32} (V : own_Ia Z h a .int n xs) (hj : ¬ j < 0 ∧ j < n) (hys : xs.set j.toNatClampNeg (x) = ys) (ga : n0 ≤ a) (hd : decode bytes pc = .ok (.iastore, 1)) (hq : pc + 1 = q)
    (k : ∀ T' h', Keep h h' [a] → own_Ia Z h' a .int n ys → own_At p l e R s m args below meth c T' h' n0 kc ks → own_Go p.tables e below (T'.setTop (mkF m q Ls st)) Q) :
    own_Go p.tables e below (T.setTop (mkF m pc Ls (.int x :: .int j :: .ref a :: st))) Q := by
  obtain ⟨locs, cells, slots, X, eT, N, hc', hs', hn⟩ := A
  obtain ⟨kk, ⟨cl, Ar, q1, S, q3, H, G⟩, hlen⟩ := V
  have hin := inb_of S hj
  obtain ⟨T', h', X', e', W', st'⟩ := stI X C.1 C.2.2.2.2.1 eT Ar hin (g := mkF m pc Ls (.int x :: .int j :: .ref a :: st)) rfl rfl (hb C.2.1 hd)
  subst hq hys
  have hlt : j.toNatClampNeg < (xs.map Value.int).length := by
    have := Nat.lt_of_not_le fun z => hin (Or.inr z)
    rw [S] at this; simpa [hlen] using this
  have V' := Arv.set Ar q1 S q3 H G rfl W' j.toNatClampNeg rfl hlt
  refine own_go st' (k T' h' (Keep.of_wr W') ⟨kk, ?_, by simpa using hlen⟩ ⟨_, cells, slots, X', e', Fr.snoc X' N ga, hc', hs', by rw [W'.size]; exact hn⟩)
  rw [List.map_set]
  exact V'
theorem own_bastore (C : own_Cx Z a0 p l e R s m args below meth c own nm bytes mx ret) (A : own_At p l e R s m args below meth c T h n0 kc ks) {a : Addr} {j x n : Int32} {xs ys : List Int32} (V : own_Ia Z h a .byte n xs) (hj : ¬ j < 0 ∧ j < n) (hys : xs.set j.toNatClampNeg (x.toInt8.toInt32) = ys) (ga : n0 ≤ a) (hd : decode bytes pc = .ok (.bastore, 1)) (hq : pc + 1 = q)
    (k : ∀ T' h', Keep h h' [a] → own_Ia Z h' a .byte n ys → own_At p l e R s m args below meth c T' h' n0 kc ks → own_Go p.tables e below (T'.setTop (mkF m q Ls st)) Q) :
    own_Go p.tables e below (T.setTop (mkF m pc Ls (.int x :: .int j :: .ref a :: st))) Q := by
  obtain ⟨locs, cells, slots, X, eT, N, hc', hs', hn⟩ := A
  obtain ⟨kk, ⟨cl, Ar, q1, S, q3, H, G⟩, hlen⟩ := V
  have hin := inb_of S hj
  obtain ⟨T', h', X', e', W', st'⟩ := stB X C.1 C.2.2.2.2.1 eT Ar hin (g := mkF m pc Ls (.int x :: .int j :: .ref a :: st)) rfl rfl (hb C.2.1 hd)
  subst hq hys
  have hlt : j.toNatClampNeg < (xs.map Value.int).length := by
    have := Nat.lt_of_not_le fun z => hin (Or.inr z)
    rw [S] at this; simpa [hlen] using this
  have V' := Arv.set Ar q1 S q3 H G (fits_nar_byte x) W' j.toNatClampNeg rfl hlt
  refine own_go st' (k T' h' (Keep.of_wr W') ⟨kk, ?_, by simpa using hlen⟩ ⟨_, cells, slots, X', e', Fr.snoc X' N ga, hc', hs', by rw [W'.size]; exact hn⟩)
  rw [List.map_set]
  exact V'
theorem own_castore (C : own_Cx Z a0 p l e R s m args below meth c own nm bytes mx ret) (A : own_At p l e R s m args below meth c T h n0 kc ks) {a : Addr} {j x n : Int32} {xs ys : List Int32} (V : own_Ia Z h a .char n xs) (hj : ¬ j < 0 ∧ j < n) (hys : xs.set j.toNatClampNeg (x.toUInt32.toUInt16.toUInt32.toInt32) = ys) (ga : n0 ≤ a) (hd : decode bytes pc = .ok (.castore, 1)) (hq : pc + 1 = q)
    (k : ∀ T' h', Keep h h' [a] → own_Ia Z h' a .char n ys → own_At p l e R s m args below meth c T' h' n0 kc ks → own_Go p.tables e below (T'.setTop (mkF m q Ls st)) Q) :
    own_Go p.tables e below (T.setTop (mkF m pc Ls (.int x :: .int j :: .ref a :: st))) Q := by
  obtain ⟨locs, cells, slots, X, eT, N, hc', hs', hn⟩ := A
  obtain ⟨kk, ⟨cl, Ar, q1, S, q3, H, G⟩, hlen⟩ := V
  have hin := inb_of S hj
  obtain ⟨T', h', X', e', W', st'⟩ := stC X C.1 C.2.2.2.2.1 eT Ar hin (g := mkF m pc Ls (.int x :: .int j :: .ref a :: st)) rfl rfl (hb C.2.1 hd)
  subst hq hys
  have hlt : j.toNatClampNeg < (xs.map Value.int).length := by
    have := Nat.lt_of_not_le fun z => hin (Or.inr z)
    rw [S] at this; simpa [hlen] using this
  have V' := Arv.set Ar q1 S q3 H G (fits_nar_char x) W' j.toNatClampNeg rfl hlt
  refine own_go st' (k T' h' (Keep.of_wr W') ⟨kk, ?_, by simpa using hlen⟩ ⟨_, cells, slots, X', e', Fr.snoc X' N ga, hc', hs', by rw [W'.size]; exact hn⟩)
  rw [List.map_set]
  exact V'
theorem own_iaload (C : own_Cx Z a0 p l e R s m args below meth c own nm bytes mx ret) (A : own_At p l e R s m args below meth c T h n0 kc ks) {a : Addr} {j n v : Int32} {xs : List Int32} (V : own_Ia Z h a .int n xs) (hj : ¬ j < 0 ∧ j < n) (hv : xs.getD j.toNatClampNeg 0 = v) (hd : decode bytes pc = .ok (.iaload, 1)) (hq : pc + 1 = q) (k : own_Go p.tables e below (T.setTop (mkF m q Ls (.int v :: st))) Q) :
    own_Go p.tables e below (T.setTop (mkF m pc Ls (.int j :: .ref a :: st))) Q := by
  obtain ⟨locs, cells, slots, X, eT, N, hc', hs', hn⟩ := A
  obtain ⟨kk, ⟨cl, Ar, q1, S, q3, H, G⟩, hlen⟩ := V
  have hin := inb_of S hj
  subst hq hv
  exact own_go (fun t => X.iaload C.1 (by rw [eT]; exact Ar.1) (State.isArrayOf_alike C.2.2.2.2.1.alike Ar.2.1) Ar.2.2 hin (H.at hin (own_getD_map xs _)) (g := mkF m pc Ls (.int j :: .ref a :: st)) rfl rfl (hb C.2.1 hd) t) k
theorem own_baload (C : own_Cx Z a0 p l e R s m args below meth c own nm bytes mx ret) (A : own_At p l e R s m args below meth c T h n0 kc ks) {a : Addr} {j n v : Int32} {xs : List Int32} (V : own_Ia Z h a .byte n xs) (hj : ¬ j < 0 ∧ j < n) (hv : xs.getD j.toNatClampNeg 0 = v) (hd : decode bytes pc = .ok (.baload, 1)) (hq : pc + 1 = q) (k : own_Go p.tables e below (T.setTop (mkF m q Ls (.int v :: st))) Q) :
    own_Go p.tables e below (T.setTop (mkF m pc Ls (.int j :: .ref a :: st))) Q := by
  obtain ⟨locs, cells, slots, X, eT, N, hc', hs', hn⟩ := A
  obtain ⟨kk, ⟨cl, Ar, q1, S, q3, H, G⟩, hlen⟩ := V
  have hin := inb_of S hj
  subst hq hv
  exact own_go (fun t => X.baloadBytes C.1 (by rw [eT]; exact Ar.1) (State.isArrayOf_alike C.2.2.2.2.1.alike Ar.2.1) Ar.2.2 hin (H.at hin (own_getD_map xs _)) (g := mkF m pc Ls (.int j :: .ref a :: st)) rfl rfl (hb C.2.1 hd) t) k
theorem own_caload (C : own_Cx Z a0 p l e R s m args below meth c own nm bytes mx ret) (A : own_At p l e R s m args below meth c T h n0 kc ks) {a : Addr} {j n v : Int32} {xs : List Int32} (V : own_Ia Z h a .char n xs) (hj : ¬ j < 0 ∧ j < n) (hv : xs.getD j.toNatClampNeg 0 = v) (hd : decode bytes pc = .ok (.caload, 1)) (hq : pc + 1 = q) (k : own_Go p.tables e below (T.setTop (mkF m q Ls (.int v :: st))) Q) :
    own_Go p.tables e below (T.setTop (mkF m pc Ls (.int j :: .ref a :: st))) Q := by
  obtain ⟨locs, cells, slots, X, eT, N, hc', hs', hn⟩ := A
  obtain ⟨kk, ⟨cl, Ar, q1, S, q3, H, G⟩, hlen⟩ := V
  have hin := inb_of S hj
  subst hq hv
  exact own_go (fun t => X.caload C.1 (by rw [eT]; exact Ar.1) (State.isArrayOf_alike C.2.2.2.2.1.alike Ar.2.1) Ar.2.2 hin (H.at hin (own_getD_map xs _)) (g := mkF m pc Ls (.int j :: .ref a :: st)) rfl rfl (hb C.2.1 hd) t) k
theorem own_alen (C : own_Cx Z a0 p l e R s m args below meth c own nm bytes mx ret) (A : own_At p l e R s m args below meth c T h n0 kc ks) {a : Addr} {n : Int32} {ty : FieldType} {xs : List Int32} (V : own_Ia Z h a ty n xs) (hd : decode bytes pc = .ok (.arraylength, 1)) (hq : pc + 1 = q) (k : own_Go p.tables e below (T.setTop (mkF m q Ls (.int n :: st))) Q) :
    own_Go p.tables e below (T.setTop (mkF m pc Ls (.ref a :: st))) Q := by
  obtain ⟨locs, cells, slots, X, eT, N, hc', hs', hn⟩ := A
  obtain ⟨kk, ⟨cl, Ar, q1, S, q3, H, G⟩, hlen⟩ := V
  subst hq
  rw [← len_of S q3] at k
  exact own_go (fun t => X.arraylength C.1 (by rw [eT]; exact Ar.1) (State.isArrayOf_alike C.2.2.2.2.1.alike Ar.2.1) (g := mkF m pc Ls (.ref a :: st)) rfl rfl (hb C.2.1 hd) t) k
theorem own_getS (C : own_Cx Z a0 p l e R s m args below meth c own nm bytes mx ret) (A : own_At p l e R s m args below meth c T h n0 kc ks) {O n d : String} {i : Nat} {v : Value} (w : (Jvm.Cond.fieldLink own i O n d).before a0 Z = true) (F : Sta Z h O n d v) (hd : decode bytes pc = .ok (.getstatic i, 3)) (hq : pc + 3 = q) (k : ∀ T', own_At p l e R s m args below meth c T' h n0 kc ks → own_Go p.tables e below (T'.setTop (mkF m q Ls (v :: st))) Q) :
    own_Go p.tables e below (T.setTop (mkF m pc Ls st)) Q := by
  obtain ⟨locs, cells, slots, X, eT, N, hc', hs', hn⟩ := A
  obtain ⟨T', X', e', st'⟩ := getS (host := "") X C.1 C.2.2.2.2.1 C.2.2.2.1 w Via.refl eT F (g := mkF m pc Ls st) rfl (hb C.2.1 hd)
  subst hq
  exact own_go st' (k T' ⟨locs, cells, slots, X', e', N, hc', hs', hn⟩)
end OwnKit
theorem own_pd0 : parseMethodDescriptor "(I)B" = some ⟨[.int], some .byte⟩ := by decide +kernel
theorem own_pd1 : parseMethodDescriptor "(III)I" = some ⟨[.int, .int, .int], some .int⟩ := by decide +kernel
theorem own_pd2 : parseMethodDescriptor "(I)I" = some ⟨[.int], some .int⟩ := by decide +kernel
theorem own_pd3 : parseMethodDescriptor "(II)I" = some ⟨[.int, .int], some .int⟩ := by decide +kernel
theorem own_pd4 : parseMethodDescriptor "(IIC)Z" = some ⟨[.int, .int, .char], some .boolean⟩ := by decide +kernel
theorem own_pd5 : parseMethodDescriptor "([BII)Z" = some ⟨[(.array .byte), .int, .int], some .boolean⟩ := by decide +kernel
theorem own_pd6 : parseMethodDescriptor "([BII)I" = some ⟨[(.array .byte), .int, .int], some .int⟩ := by decide +kernel
theorem own_pd7 : parseMethodDescriptor "()V" = some ⟨[], none⟩ := by decide +kernel
theorem own_pd8 : parseMethodDescriptor "()I" = some ⟨[], some .int⟩ := by decide +kernel
theorem own_pk {v b b' : Int32} (k : Nat) (h : ¬ v < 0 ∧ v < b) (hb : b.toInt + k ≤ b'.toInt ∧ b'.toInt ≤ 1000) {w : Int32} (hw : w = v + Int32.ofNat k) : ¬ w < 0 ∧ w < b' := by
  subst hw
  simp only [Int32.lt_iff_toInt_lt] at *
  have l0 : (0 : Int32).toInt = 0 := rfl
  have r := rng32 v
  have hk : (Int32.ofNat k).toInt = k := Int32.toInt_ofNat_small (by omega)
  have c1 := c_iadd v (Int32.ofNat k)
  have r1 := rng32 (v + Int32.ofNat k)
  rw [hk] at c1
  omega
theorem own_p0 {v b b' : Int32} (h : ¬ v < 0 ∧ v < b) (hb : b.toInt + (0 : Nat) ≤ b'.toInt ∧ b'.toInt ≤ 1000) : ¬ v < 0 ∧ v < b' := own_pk 0 h hb (by simp)
theorem own_p1 {v b b' : Int32} (h : ¬ v < 0 ∧ v < b) (hb : b.toInt + (1 : Nat) ≤ b'.toInt ∧ b'.toInt ≤ 1000) : ¬ (v + (1 : Int32)) < 0 ∧ (v + (1 : Int32)) < b' := own_pk 1 h hb rfl
theorem own_p2 {v b b' : Int32} (h : ¬ v < 0 ∧ v < b) (hb : b.toInt + (2 : Nat) ≤ b'.toInt ∧ b'.toInt ≤ 1000) : ¬ ((v + (1 : Int32)) + (1 : Int32)) < 0 ∧ ((v + (1 : Int32)) + (1 : Int32)) < b' := own_pk 2 h hb (by rw [Int32.add_assoc]; rfl)
theorem own_p3 {v b b' : Int32} (h : ¬ v < 0 ∧ v < b) (hb : b.toInt + (3 : Nat) ≤ b'.toInt ∧ b'.toInt ≤ 1000) : ¬ (((v + (1 : Int32)) + (1 : Int32)) + (1 : Int32)) < 0 ∧ (((v + (1 : Int32)) + (1 : Int32)) + (1 : Int32)) < b' := own_pk 3 h hb (by simp only [Int32.add_assoc]; rfl)
theorem own_p4 {v b b' : Int32} (h : ¬ v < 0 ∧ v < b) (hb : b.toInt + (4 : Nat) ≤ b'.toInt ∧ b'.toInt ≤ 1000) : ¬ ((((v + (1 : Int32)) + (1 : Int32)) + (1 : Int32)) + (1 : Int32)) < 0 ∧ ((((v + (1 : Int32)) + (1 : Int32)) + (1 : Int32)) + (1 : Int32)) < b' := own_pk 4 h hb (by simp only [Int32.add_assoc]; rfl)
theorem own_p5 {v b b' : Int32} (h : ¬ v < 0 ∧ v < b) (hb : b.toInt + (5 : Nat) ≤ b'.toInt ∧ b'.toInt ≤ 1000) : ¬ (((((v + (1 : Int32)) + (1 : Int32)) + (1 : Int32)) + (1 : Int32)) + (1 : Int32)) < 0 ∧ (((((v + (1 : Int32)) + (1 : Int32)) + (1 : Int32)) + (1 : Int32)) + (1 : Int32)) < b' := own_pk 5 h hb (by simp only [Int32.add_assoc]; rfl)
theorem own_p6 {v b b' : Int32} (h : ¬ v < 0 ∧ v < b) (hb : b.toInt + (6 : Nat) ≤ b'.toInt ∧ b'.toInt ≤ 1000) : ¬ ((((((v + (1 : Int32)) + (1 : Int32)) + (1 : Int32)) + (1 : Int32)) + (1 : Int32)) + (1 : Int32)) < 0 ∧ ((((((v + (1 : Int32)) + (1 : Int32)) + (1 : Int32)) + (1 : Int32)) + (1 : Int32)) + (1 : Int32)) < b' := own_pk 6 h hb (by simp only [Int32.add_assoc]; rfl)
theorem own_q0 {v b b' : Int32} (h : ¬ v < 0 ∧ v < b) (hb : b.toInt + (0 : Nat) ≤ b'.toInt ∧ b'.toInt ≤ 1000) : ¬ v < 0 ∧ v < b' := own_p0 h hb
theorem own_q1 {v b b' : Int32} (h : ¬ v < 0 ∧ v < b) (hb : b.toInt + (1 : Nat) ≤ b'.toInt ∧ b'.toInt ≤ 1000) : ¬ (v + (1 : Int32)) < 0 ∧ (v + (1 : Int32)) < b' := own_p1 h hb
theorem own_at {v1 v2 : Int32} (ha : ¬ v1 < 0) (he : ¬ (40 : Int32) < v2) (hc : v1 < v2) : ¬ v1 < 0 ∧ v1 < 40 := by
  refine ⟨ha, ?_⟩
  simp only [Int32.lt_iff_toInt_lt] at *
  omega
theorem own_ha {v4 v2 : Int32} (ha : ¬ v4 < 0) (hc : v4 < v2) : ¬ (v4 + (1 : Int32)) < 0 := by
  have l0 : (0 : Int32).toInt = 0 := rfl
  have l1 : (1 : Int32).toInt = 1 := rfl
  simp only [Int32.lt_iff_toInt_lt] at *
  have c1 := c_iadd v4 1
  have r1 := rng32 (v4 + 1)
  have r2 := rng32 v2
  rw [l1] at c1
  omega
theorem own_h1 {v4 v2 : Int32} (ha : ¬ v4 < 0) (hc : v4 < v2) : ¬ (v4 + (1 : Int32)) < 0 := own_ha ha hc
theorem own_is {v1 v2 g c : Int32} (h : ¬ (if v1 < v2 then (if g = c then (1 : Int32) else (0 : Int32)) else (0 : Int32)) = 0) : v1 < v2 := by
  by_cases q : v1 < v2
  · exact q
  · rw [if_neg q] at h; exact absurd rfl h
theorem own_enter {v1 v2 : Int32} (ha : ¬ v1 < 0) (he : ¬ (40 : Int32) < v2) : (v2.toInt - v1.toInt).toNat < 42 := by
  have l0 : (0 : Int32).toInt = 0 := rfl
  have l1 : (40 : Int32).toInt = 40 := rfl
  simp only [Int32.lt_iff_toInt_lt] at *
  omega
theorem own_enter1 {v1 v2 : Int32} (ha : ¬ v1 < 0) (he : ¬ (40 : Int32) < v2) (hc : v1 < v2) : (v2.toInt - (v1 + (1 : Int32)).toInt).toNat < 42 := own_enter (own_ha ha hc) he
theorem own_dec {v4 v2 : Int32} {fuel : Nat} (ha : ¬ v4 < 0) (hc : v4 < v2) (hm : (v2.toInt - v4.toInt).toNat < fuel + 1) : (v2.toInt - (v4 + (1 : Int32)).toInt).toNat < fuel := by
  have l0 : (0 : Int32).toInt = 0 := rfl
  have l1 : (1 : Int32).toInt = 1 := rfl
  simp only [Int32.lt_iff_toInt_lt] at *
  have c1 := c_iadd v4 1
  have r1 := rng32 (v4 + 1)
  have r2 := rng32 v2
  rw [l1] at c1
  omega
theorem own_he {v5 v2 : Int32} (he : ¬ (40 : Int32) < v2) (hc : v5 < v2) : ¬ (40 : Int32) < v5 := by
  simp only [Int32.lt_iff_toInt_lt] at *
  omega
theorem own_refl (v : Int32) : ¬ v < v := by
  simp only [Int32.lt_iff_toInt_lt]; omega
theorem own_h3 {v3 v4 v2 : Int32} (h3 : ¬ v3 < 0 ∧ ¬ v4 < v3 ∧ (v4 = v3 ∨ ¬ v2 < v4)) (ha : ¬ v4 < 0) (hc : v4 < v2) : ¬ v3 < 0 ∧ ¬ (v4 + (1 : Int32)) < v3 ∧ ((v4 + (1 : Int32)) = v3 ∨ ¬ v2 < (v4 + (1 : Int32))) := by
  have l0 : (0 : Int32).toInt = 0 := rfl
  have l1 : (1 : Int32).toInt = 1 := rfl
  obtain ⟨a, b, -⟩ := h3
  simp only [Int32.lt_iff_toInt_lt] at *
  have c1 := c_iadd v4 1
  have r1 := rng32 (v4 + 1)
  have r2 := rng32 v2
  rw [l1] at c1
  exact ⟨a, by omega, Or.inr (by omega)⟩
theorem own_fst {v3 v4 v2 : Int32} (h3 : ¬ v3 < 0 ∧ ¬ v4 < v3 ∧ (v4 = v3 ∨ ¬ v2 < v4)) (he : ¬ (40 : Int32) < v2) (hc : (1 : Int32) < (v4 - v3)) : ¬ v3 < 0 ∧ v3 < 40 := by
  have l0 : (0 : Int32).toInt = 0 := rfl
  have l1 : (1 : Int32).toInt = 1 := rfl
  have l4 : (40 : Int32).toInt = 40 := rfl
  obtain ⟨a, b, c⟩ := h3
  refine ⟨a, ?_⟩
  have c1 := c_isub v4 v3
  have r1 := rng32 (v4 - v3)
  rcases c with c | c
  · subst c
    rw [show v4 - v4 = 0 from Int32.sub_self v4] at hc
    exact absurd hc (by decide)
  · by_cases q : v4 = v3
    · subst q
      rw [show v4 - v4 = 0 from Int32.sub_self v4] at hc
      exact absurd hc (by decide)
    · rw [← Int32.toInt_inj] at q
      simp only [Int32.lt_iff_toInt_lt] at *
      omega
/-! PlainLineNameLengthPinLaw.expected -/
theorem own_d1_0 : decode method_3_code 0 = .ok (.iload_n 0, 1) := by decide +kernel
theorem own_d1_1 : decode method_3_code 1 = .ok (.iconst 3, 1) := by decide +kernel
theorem own_d1_2 : decode method_3_code 2 = .ok (.iand, 1) := by decide +kernel
theorem own_d1_3 : decode method_3_code 3 = .ok (.iload_n 0, 1) := by decide +kernel
theorem own_d1_4 : decode method_3_code 4 = .ok (.iconst 2, 1) := by decide +kernel
theorem own_d1_5 : decode method_3_code 5 = .ok (.iushr, 1) := by decide +kernel
theorem own_d1_6 : decode method_3_code 6 = .ok (.iconst 1, 1) := by decide +kernel
theorem own_d1_7 : decode method_3_code 7 = .ok (.iand, 1) := by decide +kernel
theorem own_d1_8 : decode method_3_code 8 = .ok (.ifCond .eq 7, 3) := by decide +kernel
theorem own_d1_11 : decode method_3_code 11 = .ok (.iconst 2, 1) := by decide +kernel
theorem own_d1_12 : decode method_3_code 12 = .ok (.goto 4, 3) := by decide +kernel
theorem own_d1_15 : decode method_3_code 15 = .ok (.iconst 0, 1) := by decide +kernel
theorem own_d1_16 : decode method_3_code 16 = .ok (.iadd, 1) := by decide +kernel
theorem own_d1_17 : decode method_3_code 17 = .ok (.ireturn, 1) := by decide +kernel
def own_R1 : Room := { frames := 0, cells := 0, slots := 0, locals := 0 }
def f1_0 (v0 : Int32) : Int32 := (if (((v0.toUInt32 >>> ((2 : Int32) &&& 31).toUInt32).toInt32) &&& (1 : Int32)) = (0 : Int32) then ((v0 &&& (3 : Int32)) + (0 : Int32)) else ((v0 &&& (3 : Int32)) + (2 : Int32)))
set_option maxRecDepth 65536 in
set_option maxHeartbeats 4000000 in
theorem w1_0 {Z : State} {a0 : Array Value} {p : Program} {l : Launch} {e : Env} {s : State} {m : MethodId} {args : Array Value} {below : List Frame} {meth : Method} {c : Code} {T : State} {h : Heap} {n0 : Nat}  (C : own_Cx Z a0 p l e own_R1 s m args below meth c "com/example/tidemark/tidemark/table/PlainLineNameLengthPinLaw" "expected" method_3_code 1 (some .int)) (A : own_At p l e own_R1 s m args below meth c T h n0 0 0) (v0 : Int32) :
    own_Go p.tables e below (T.setTop (mkF m 0 #[.val (.int v0)] [])) (own_QR s n0 0 0 (own_RI h (f1_0 v0))) := by
  unfold f1_0
  refine own_iloadN C A own_d1_0 rfl rfl ?_
  refine own_iconst C A own_d1_1 (v := 3) rfl rfl ?_
  refine own_iand C A own_d1_2 rfl ?_
  refine own_iloadN C A own_d1_3 rfl rfl ?_
  refine own_iconst C A own_d1_4 (v := 2) rfl rfl ?_
  refine own_iushr C A own_d1_5 rfl ?_
  refine own_iconst C A own_d1_6 (v := 1) rfl rfl ?_
  refine own_iand C A own_d1_7 rfl ?_
  refine own_ite (fun hc8 => ?_) (fun hc8 => ?_)
  · refine own_ifY C A own_d1_8 (Jvm.Free.XT.i0_eq_t hc8) (by decide) (q := 15) (by decide) ?_
    refine own_iconst C A own_d1_15 (v := 0) rfl rfl ?_
    refine own_iadd C A own_d1_16 rfl ?_
    exact own_retI C A own_d1_17 ⟨rfl, rfl⟩
  · refine own_ifN C A own_d1_8 (Jvm.Free.XT.i0_eq_f hc8) rfl ?_
    refine own_iconst C A own_d1_11 (v := 2) rfl rfl ?_
    refine own_goto C A own_d1_12 (by decide) (q := 16) (by decide) ?_
    refine own_iadd C A own_d1_16 rfl ?_
    exact own_retI C A own_d1_17 ⟨rfl, rfl⟩
theorem own_ef1 (m : MethodId) (v0 : Int32) : entryFrame m #[(.int v0)] 1 = mkF m 0 #[.val (.int v0)] [] := by first | (simp [entryFrame, mkF, argsToLocals, Value.category]; done) | rfl
theorem rm1 (l : Launch) (Z : State) (a0 : Array Value) (hw : ∀ d ∈ tables_1, d.before a0 Z = true) (ws : List Jvm.Cond) (v0 : Int32) (h : Heap) (n0 : Nat) (hn : n0 ≤ h.size) :
    MetFree l (⟨"com/example/tidemark/tidemark/table/PlainLineNameLengthPinLaw", "expected", "(I)I"⟩ : MethodName) (head1 (Jvm.Cond.code (⟨"com/example/tidemark/tidemark/table/PlainLineNameLengthPinLaw", "expected", "(I)I"⟩ : MethodName) method_3_code 1 (some .int) :: ws) own_R1) (fun a U => a = #[(.int v0)] ∧ Z.Warmed39 U.vm ∧ U.heap = h) (fun _ _ _ _ _ => True) (fun _ U o U' => own_QR U n0 0 0 (own_RI h (f1_0 v0)) o U') :=
  own_met (plainFor_of_name (by first | (simp [plainName, overriddenIn]; done) | decide +kernel)) hw hn (fun m => own_ef1 m v0) (fun p e s m below meth c T C A => w1_0 C A v0)
/-! PlainLineNameLengthPinLaw.ch -/
theorem own_d2_0 : decode method_5_code 0 = .ok (.iload_n 0, 1) := by decide +kernel
theorem own_d2_1 : decode method_5_code 1 = .ok (.bipush 63, 2) := by decide +kernel
theorem own_d2_3 : decode method_5_code 3 = .ok (.iand, 1) := by decide +kernel
theorem own_d2_4 : decode method_5_code 4 = .ok (.istore_n 1, 1) := by decide +kernel
theorem own_d2_5 : decode method_5_code 5 = .ok (.iload_n 1, 1) := by decide +kernel
theorem own_d2_6 : decode method_5_code 6 = .ok (.bipush 26, 2) := by decide +kernel
theorem own_d2_8 : decode method_5_code 8 = .ok (.if_icmp .ge 9, 3) := by decide +kernel
theorem own_d2_11 : decode method_5_code 11 = .ok (.bipush 97, 2) := by decide +kernel
theorem own_d2_13 : decode method_5_code 13 = .ok (.iload_n 1, 1) := by decide +kernel
theorem own_d2_14 : decode method_5_code 14 = .ok (.iadd, 1) := by decide +kernel
theorem own_d2_15 : decode method_5_code 15 = .ok (.i2b, 1) := by decide +kernel
theorem own_d2_16 : decode method_5_code 16 = .ok (.ireturn, 1) := by decide +kernel
theorem own_d2_17 : decode method_5_code 17 = .ok (.iload_n 1, 1) := by decide +kernel
theorem own_d2_18 : decode method_5_code 18 = .ok (.bipush 52, 2) := by decide +kernel
theorem own_d2_20 : decode method_5_code 20 = .ok (.if_icmp .ge 12, 3) := by decide +kernel
theorem own_d2_23 : decode method_5_code 23 = .ok (.bipush 65, 2) := by decide +kernel
theorem own_d2_25 : decode method_5_code 25 = .ok (.iload_n 1, 1) := by decide +kernel
theorem own_d2_26 : decode method_5_code 26 = .ok (.iadd, 1) := by decide +kernel
theorem own_d2_27 : decode method_5_code 27 = .ok (.bipush 26, 2) := by decide +kernel
theorem own_d2_29 : decode method_5_code 29 = .ok (.isub, 1) := by decide +kernel
theorem own_d2_30 : decode method_5_code 30 = .ok (.i2b, 1) := by decide +kernel
theorem own_d2_31 : decode method_5_code 31 = .ok (.ireturn, 1) := by decide +kernel
theorem own_d2_32 : decode method_5_code 32 = .ok (.iload_n 1, 1) := by decide +kernel
theorem own_d2_33 : decode method_5_code 33 = .ok (.bipush 62, 2) := by decide +kernel
theorem own_d2_35 : decode method_5_code 35 = .ok (.if_icmp .ge 12, 3) := by decide +kernel
theorem own_d2_38 : decode method_5_code 38 = .ok (.bipush 48, 2) := by decide +kernel
theorem own_d2_40 : decode method_5_code 40 = .ok (.iload_n 1, 1) := by decide +kernel
theorem own_d2_41 : decode method_5_code 41 = .ok (.iadd, 1) := by decide +kernel
theorem own_d2_42 : decode method_5_code 42 = .ok (.bipush 52, 2) := by decide +kernel
theorem own_d2_44 : decode method_5_code 44 = .ok (.isub, 1) := by decide +kernel
theorem own_d2_45 : decode method_5_code 45 = .ok (.i2b, 1) := by decide +kernel
theorem own_d2_46 : decode method_5_code 46 = .ok (.ireturn, 1) := by decide +kernel
theorem own_d2_47 : decode method_5_code 47 = .ok (.iload_n 1, 1) := by decide +kernel
theorem own_d2_48 : decode method_5_code 48 = .ok (.bipush 62, 2) := by decide +kernel
theorem own_d2_50 : decode method_5_code 50 = .ok (.if_icmp .ne 6, 3) := by decide +kernel
theorem own_d2_53 : decode method_5_code 53 = .ok (.bipush 32, 2) := by decide +kernel
theorem own_d2_55 : decode method_5_code 55 = .ok (.ireturn, 1) := by decide +kernel
theorem own_d2_56 : decode method_5_code 56 = .ok (.bipush 33, 2) := by decide +kernel
theorem own_d2_58 : decode method_5_code 58 = .ok (.ireturn, 1) := by decide +kernel
def own_R2 : Room := { frames := 0, cells := 0, slots := 0, locals := 0 }
def f2_0 (v0 : Int32) : Int32 := (if (v0 &&& (63 : Int32)) < (26 : Int32) then (nar .byte (((97 : Int32) + (v0 &&& (63 : Int32))).toInt8.toInt32)) else (if (v0 &&& (63 : Int32)) < (52 : Int32) then (nar .byte ((((65 : Int32) + (v0 &&& (63 : Int32))) - (26 : Int32)).toInt8.toInt32)) else (if (v0 &&& (63 : Int32)) < (62 : Int32) then (nar .byte ((((48 : Int32) + (v0 &&& (63 : Int32))) - (52 : Int32)).toInt8.toInt32)) else (if (v0 &&& (63 : Int32)) = (62 : Int32) then (nar .byte (32 : Int32)) else (nar .byte (33 : Int32))))))
set_option maxRecDepth 65536 in
set_option maxHeartbeats 4000000 in
theorem w2_0 {Z : State} {a0 : Array Value} {p : Program} {l : Launch} {e : Env} {s : State} {m : MethodId} {args : Array Value} {below : List Frame} {meth : Method} {c : Code} {T : State} {h : Heap} {n0 : Nat}  (C : own_Cx Z a0 p l e own_R2 s m args below meth c "com/example/tidemark/tidemark/table/PlainLineNameLengthPinLaw" "ch" method_5_code 2 (some .byte)) (A : own_At p l e own_R2 s m args below meth c T h n0 0 0) (v0 : Int32) :
    own_Go p.tables e below (T.setTop (mkF m 0 #[.val (.int v0), .unset] [])) (own_QR s n0 0 0 (own_RI h (f2_0 v0))) := by
  unfold f2_0
  refine own_iloadN C A own_d2_0 rfl rfl ?_
  refine own_bipush C A own_d2_1 (v := 63) rfl rfl ?_
  refine own_iand C A own_d2_3 rfl ?_
  refine own_istoreN C A own_d2_4 (l' := #[.val (.int v0), .val (.int (v0 &&& (63 : Int32)))]) rfl rfl ?_
  refine own_iloadN C A own_d2_5 rfl rfl ?_
  refine own_bipush C A own_d2_6 (v := 26) rfl rfl ?_
  refine own_ite (fun hc8 => ?_) (fun hc8 => ?_)
  · refine own_icmpN C A own_d2_8 (Jvm.Free.XT.ii_ge_f hc8) rfl ?_
    refine own_bipush C A own_d2_11 (v := 97) rfl rfl ?_
    refine own_iloadN C A own_d2_13 rfl rfl ?_
    refine own_iadd C A own_d2_14 rfl ?_
    refine own_i2b C A own_d2_15 rfl ?_
    exact own_retN C A (t := .byte) (by simp) own_d2_16 ⟨rfl, rfl⟩
  · refine own_icmpY C A own_d2_8 (Jvm.Free.XT.ii_ge_t hc8) (by decide) (q := 17) (by decide) ?_
    refine own_iloadN C A own_d2_17 rfl rfl ?_
    refine own_bipush C A own_d2_18 (v := 52) rfl rfl ?_
    refine own_ite (fun hc20 => ?_) (fun hc20 => ?_)
    · refine own_icmpN C A own_d2_20 (Jvm.Free.XT.ii_ge_f hc20) rfl ?_
      refine own_bipush C A own_d2_23 (v := 65) rfl rfl ?_
      refine own_iloadN C A own_d2_25 rfl rfl ?_
      refine own_iadd C A own_d2_26 rfl ?_
      refine own_bipush C A own_d2_27 (v := 26) rfl rfl ?_
      refine own_isub C A own_d2_29 rfl ?_
      refine own_i2b C A own_d2_30 rfl ?_
      exact own_retN C A (t := .byte) (by simp) own_d2_31 ⟨rfl, rfl⟩
    · refine own_icmpY C A own_d2_20 (Jvm.Free.XT.ii_ge_t hc20) (by decide) (q := 32) (by decide) ?_
      refine own_iloadN C A own_d2_32 rfl rfl ?_
      refine own_bipush C A own_d2_33 (v := 62) rfl rfl ?_
      refine own_ite (fun hc35 => ?_) (fun hc35 => ?_)
      · refine own_icmpN C A own_d2_35 (Jvm.Free.XT.ii_ge_f hc35) rfl ?_
        refine own_bipush C A own_d2_38 (v := 48) rfl rfl ?_
        refine own_iloadN C A own_d2_40 rfl rfl ?_
        refine own_iadd C A own_d2_41 rfl ?_
        refine own_bipush C A own_d2_42 (v := 52) rfl rfl ?_
        refine own_isub C A own_d2_44 rfl ?_
        refine own_i2b C A own_d2_45 rfl ?_
        exact own_retN C A (t := .byte) (by simp) own_d2_46 ⟨rfl, rfl⟩
      · refine own_icmpY C A own_d2_35 (Jvm.Free.XT.ii_ge_t hc35) (by decide) (q := 47) (by decide) ?_
        refine own_iloadN C A own_d2_47 rfl rfl ?_
        refine own_bipush C A own_d2_48 (v := 62) rfl rfl ?_
        refine own_ite (fun hc50 => ?_) (fun hc50 => ?_)
        · refine own_icmpN C A own_d2_50 (Jvm.Free.XT.ii_ne_f hc50) rfl ?_
          refine own_bipush C A own_d2_53 (v := 32) rfl rfl ?_
          exact own_retN C A (t := .byte) (by simp) own_d2_55 ⟨rfl, rfl⟩
        · refine own_icmpY C A own_d2_50 (Jvm.Free.XT.ii_ne_t hc50) (by decide) (q := 56) (by decide) ?_
          refine own_bipush C A own_d2_56 (v := 33) rfl rfl ?_
          exact own_retN C A (t := .byte) (by simp) own_d2_58 ⟨rfl, rfl⟩
theorem own_ef2 (m : MethodId) (v0 : Int32) : entryFrame m #[(.int v0)] 2 = mkF m 0 #[.val (.int v0), .unset] [] := by first | (simp [entryFrame, mkF, argsToLocals, Value.category]; done) | rfl
theorem rm2 (l : Launch) (Z : State) (a0 : Array Value) (hw : ∀ d ∈ tables_1, d.before a0 Z = true) (ws : List Jvm.Cond) (v0 : Int32) (h : Heap) (n0 : Nat) (hn : n0 ≤ h.size) :
    MetFree l (⟨"com/example/tidemark/tidemark/table/PlainLineNameLengthPinLaw", "ch", "(I)B"⟩ : MethodName) (head1 (Jvm.Cond.code (⟨"com/example/tidemark/tidemark/table/PlainLineNameLengthPinLaw", "ch", "(I)B"⟩ : MethodName) method_5_code 2 (some .byte) :: ws) own_R2) (fun a U => a = #[(.int v0)] ∧ Z.Warmed39 U.vm ∧ U.heap = h) (fun _ _ _ _ _ => True) (fun _ U o U' => own_QR U n0 0 0 (own_RI h (f2_0 v0)) o U') :=
  own_met (plainFor_of_name (by first | (simp [plainName, overriddenIn]; done) | decide +kernel)) hw hn (fun m => own_ef2 m v0) (fun p e s m below meth c T C A => w2_0 C A v0)
/-! PlainLineNameLengthPinLaw.name -/
theorem own_d3_0 : decode method_4_code 0 = .ok (.iload_n 2, 1) := by decide +kernel
theorem own_d3_1 : decode method_4_code 1 = .ok (.iconst 3, 1) := by decide +kernel
theorem own_d3_2 : decode method_4_code 2 = .ok (.iand, 1) := by decide +kernel
theorem own_d3_3 : decode method_4_code 3 = .ok (.istore_n 3, 1) := by decide +kernel
theorem own_d3_4 : decode method_4_code 4 = .ok (.iload_n 2, 1) := by decide +kernel
theorem own_d3_5 : decode method_4_code 5 = .ok (.iconst 2, 1) := by decide +kernel
theorem own_d3_6 : decode method_4_code 6 = .ok (.iushr, 1) := by decide +kernel
theorem own_d3_7 : decode method_4_code 7 = .ok (.iconst 1, 1) := by decide +kernel
theorem own_d3_8 : decode method_4_code 8 = .ok (.iand, 1) := by decide +kernel
theorem own_d3_9 : decode method_4_code 9 = .ok (.ifCond .eq 7, 3) := by decide +kernel
theorem own_d3_12 : decode method_4_code 12 = .ok (.iconst 1, 1) := by decide +kernel
theorem own_d3_13 : decode method_4_code 13 = .ok (.goto 4, 3) := by decide +kernel
theorem own_d3_16 : decode method_4_code 16 = .ok (.iconst 0, 1) := by decide +kernel
theorem own_d3_17 : decode method_4_code 17 = .ok (.istore 4, 2) := by decide +kernel
theorem own_d3_19 : decode method_4_code 19 = .ok (.aload_n 0, 1) := by decide +kernel
theorem own_d3_20 : decode method_4_code 20 = .ok (.iload_n 1, 1) := by decide +kernel
theorem own_d3_21 : decode method_4_code 21 = .ok (.iinc 1 1, 3) := by decide +kernel
theorem own_d3_24 : decode method_4_code 24 = .ok (.bipush 34, 2) := by decide +kernel
theorem own_d3_26 : decode method_4_code 26 = .ok (.bastore, 1) := by decide +kernel
theorem own_d3_27 : decode method_4_code 27 = .ok (.iload_n 3, 1) := by decide +kernel
theorem own_d3_28 : decode method_4_code 28 = .ok (.ifCond .le 16, 3) := by decide +kernel
theorem own_d3_31 : decode method_4_code 31 = .ok (.aload_n 0, 1) := by decide +kernel
theorem own_d3_32 : decode method_4_code 32 = .ok (.iload_n 1, 1) := by decide +kernel
theorem own_d3_33 : decode method_4_code 33 = .ok (.iinc 1 1, 3) := by decide +kernel
theorem own_d3_36 : decode method_4_code 36 = .ok (.iload_n 2, 1) := by decide +kernel
theorem own_d3_37 : decode method_4_code 37 = .ok (.bipush 8, 2) := by decide +kernel
theorem own_d3_39 : decode method_4_code 39 = .ok (.iushr, 1) := by decide +kernel
theorem own_d3_40 : decode method_4_code 40 = .ok (.invokestatic 31, 3) := by decide +kernel
theorem own_d3_43 : decode method_4_code 43 = .ok (.bastore, 1) := by decide +kernel
theorem own_d3_44 : decode method_4_code 44 = .ok (.iload_n 3, 1) := by decide +kernel
theorem own_d3_45 : decode method_4_code 45 = .ok (.iconst 1, 1) := by decide +kernel
theorem own_d3_46 : decode method_4_code 46 = .ok (.if_icmp .le 16, 3) := by decide +kernel
theorem own_d3_49 : decode method_4_code 49 = .ok (.aload_n 0, 1) := by decide +kernel
theorem own_d3_50 : decode method_4_code 50 = .ok (.iload_n 1, 1) := by decide +kernel
theorem own_d3_51 : decode method_4_code 51 = .ok (.iinc 1 1, 3) := by decide +kernel
theorem own_d3_54 : decode method_4_code 54 = .ok (.iload_n 2, 1) := by decide +kernel
theorem own_d3_55 : decode method_4_code 55 = .ok (.bipush 14, 2) := by decide +kernel
theorem own_d3_57 : decode method_4_code 57 = .ok (.iushr, 1) := by decide +kernel
theorem own_d3_58 : decode method_4_code 58 = .ok (.invokestatic 31, 3) := by decide +kernel
theorem own_d3_61 : decode method_4_code 61 = .ok (.bastore, 1) := by decide +kernel
theorem own_d3_62 : decode method_4_code 62 = .ok (.iload_n 3, 1) := by decide +kernel
theorem own_d3_63 : decode method_4_code 63 = .ok (.iconst 2, 1) := by decide +kernel
theorem own_d3_64 : decode method_4_code 64 = .ok (.if_icmp .le 16, 3) := by decide +kernel
theorem own_d3_67 : decode method_4_code 67 = .ok (.aload_n 0, 1) := by decide +kernel
theorem own_d3_68 : decode method_4_code 68 = .ok (.iload_n 1, 1) := by decide +kernel
theorem own_d3_69 : decode method_4_code 69 = .ok (.iinc 1 1, 3) := by decide +kernel
theorem own_d3_72 : decode method_4_code 72 = .ok (.iload_n 2, 1) := by decide +kernel
theorem own_d3_73 : decode method_4_code 73 = .ok (.bipush 20, 2) := by decide +kernel
theorem own_d3_75 : decode method_4_code 75 = .ok (.iushr, 1) := by decide +kernel
theorem own_d3_76 : decode method_4_code 76 = .ok (.invokestatic 31, 3) := by decide +kernel
theorem own_d3_79 : decode method_4_code 79 = .ok (.bastore, 1) := by decide +kernel
theorem own_d3_80 : decode method_4_code 80 = .ok (.iload 4, 2) := by decide +kernel
theorem own_d3_82 : decode method_4_code 82 = .ok (.ifCond .eq 19, 3) := by decide +kernel
theorem own_d3_85 : decode method_4_code 85 = .ok (.aload_n 0, 1) := by decide +kernel
theorem own_d3_86 : decode method_4_code 86 = .ok (.iload_n 1, 1) := by decide +kernel
theorem own_d3_87 : decode method_4_code 87 = .ok (.iinc 1 1, 3) := by decide +kernel
theorem own_d3_90 : decode method_4_code 90 = .ok (.bipush (-61), 2) := by decide +kernel
theorem own_d3_92 : decode method_4_code 92 = .ok (.bastore, 1) := by decide +kernel
theorem own_d3_93 : decode method_4_code 93 = .ok (.aload_n 0, 1) := by decide +kernel
theorem own_d3_94 : decode method_4_code 94 = .ok (.iload_n 1, 1) := by decide +kernel
theorem own_d3_95 : decode method_4_code 95 = .ok (.iinc 1 1, 3) := by decide +kernel
theorem own_d3_98 : decode method_4_code 98 = .ok (.bipush (-87), 2) := by decide +kernel
theorem own_d3_100 : decode method_4_code 100 = .ok (.bastore, 1) := by decide +kernel
theorem own_d3_101 : decode method_4_code 101 = .ok (.aload_n 0, 1) := by decide +kernel
theorem own_d3_102 : decode method_4_code 102 = .ok (.iload_n 1, 1) := by decide +kernel
theorem own_d3_103 : decode method_4_code 103 = .ok (.iinc 1 1, 3) := by decide +kernel
theorem own_d3_106 : decode method_4_code 106 = .ok (.bipush 34, 2) := by decide +kernel
theorem own_d3_108 : decode method_4_code 108 = .ok (.bastore, 1) := by decide +kernel
theorem own_d3_109 : decode method_4_code 109 = .ok (.iload_n 1, 1) := by decide +kernel
theorem own_d3_110 : decode method_4_code 110 = .ok (.ireturn, 1) := by decide +kernel
def own_R3 : Room := { frames := 1, cells := 0, slots := 0, locals := 15 }
def own_P3 (Z : State) (h : Heap) (v0 : Addr) (r : Int32 × List Int32) (v : Option Value) (h' : Heap) : Prop := v = some (.int r.1) ∧ Keep h h' [v0] ∧ own_Ia Z h' v0 .byte (40 : Int32) r.2
def f3_101 (v1 : Int32) (xs_v0 : List Int32) : Int32 × List Int32 := ((v1 + (1 : Int32)), (xs_v0.set (v1).toNatClampNeg ((34 : Int32).toInt8.toInt32)))
set_option maxRecDepth 65536 in
set_option maxHeartbeats 4000000 in
theorem w3_101 {Z : State} {a0 : Array Value} {p : Program} {l : Launch} {e : Env} {s : State} {m : MethodId} {args : Array Value} {below : List Frame} {meth : Method} {c : Code} {T : State} {h : Heap} {n0 : Nat} {hE : Heap} {v0 : Addr} {u2 : Int32} {u3 : Int32} {u4 : Int32} (C : own_Cx Z a0 p l e own_R3 s m args below meth c "com/example/tidemark/tidemark/table/PlainLineNameLengthPinLaw" "name" method_4_code 5 (some .int)) (A : own_At p l e own_R3 s m args below meth c T h n0 0 0) (v1 : Int32) (xs_v0 : List Int32) (V_v0 : own_Ia Z h v0 .byte (40 : Int32) xs_v0) (g_v0 : n0 ≤ v0) (K : Keep hE h [v0]) (hv1 : ¬ v1 < 0 ∧ v1 < 36) :
    own_Go p.tables e below (T.setTop (mkF m 101 #[.val (.ref v0), .val (.int v1), .val (.int u2), .val (.int u3), .val (.int u4)] [])) (own_QR s n0 0 0 (own_P3 Z hE v0 (f3_101 v1 xs_v0))) := by
  unfold f3_101
  refine own_aloadN C A own_d3_101 rfl rfl rfl ?_
  refine own_iloadN C A own_d3_102 rfl rfl ?_
  refine own_iinc C A own_d3_103 rfl (l' := #[.val (.ref v0), .val (.int (v1 + (1 : Int32))), .val (.int u2), .val (.int u3), .val (.int u4)]) rfl rfl ?_
  refine own_bipush C A own_d3_106 (v := 34) rfl rfl ?_
  refine own_bastore C A V_v0 (own_q0 hv1 (by decide)) (ys := (xs_v0.set (v1).toNatClampNeg ((34 : Int32).toInt8.toInt32))) rfl g_v0 own_d3_108 rfl (fun T h Kw V_v0 A => ?_)
  have K := K.trans Kw (allS (Or.inl (List.mem_of_getElem? (i := 0) rfl)) all0)
  refine own_iloadN C A own_d3_109 rfl rfl ?_
  exact own_retI C A own_d3_110 ⟨rfl, K, V_v0⟩
def f3_80 (v1 : Int32) (v4 : Int32) (xs_v0 : List Int32) : Int32 × List Int32 := (if v4 = (0 : Int32) then (f3_101 v1 xs_v0) else (f3_101 ((v1 + (1 : Int32)) + (1 : Int32)) ((xs_v0.set (v1).toNatClampNeg ((-61 : Int32).toInt8.toInt32)).set ((v1 + (1 : Int32))).toNatClampNeg ((-87 : Int32).toInt8.toInt32))))
set_option maxRecDepth 65536 in
set_option maxHeartbeats 4000000 in
theorem w3_80 {Z : State} {a0 : Array Value} {p : Program} {l : Launch} {e : Env} {s : State} {m : MethodId} {args : Array Value} {below : List Frame} {meth : Method} {c : Code} {T : State} {h : Heap} {n0 : Nat} {hE : Heap} {v0 : Addr} {u2 : Int32} {u3 : Int32} (C : own_Cx Z a0 p l e own_R3 s m args below meth c "com/example/tidemark/tidemark/table/PlainLineNameLengthPinLaw" "name" method_4_code 5 (some .int)) (A : own_At p l e own_R3 s m args below meth c T h n0 0 0) (v1 : Int32) (v4 : Int32) (xs_v0 : List Int32) (V_v0 : own_Ia Z h v0 .byte (40 : Int32) xs_v0) (g_v0 : n0 ≤ v0) (K : Keep hE h [v0]) (hv1 : ¬ v1 < 0 ∧ v1 < 34) :
    own_Go p.tables e below (T.setTop (mkF m 80 #[.val (.ref v0), .val (.int v1), .val (.int u2), .val (.int u3), .val (.int v4)] [])) (own_QR s n0 0 0 (own_P3 Z hE v0 (f3_80 v1 v4 xs_v0))) := by
  unfold f3_80
  refine own_iload C A own_d3_80 rfl rfl ?_
  refine own_ite (fun hc82 => ?_) (fun hc82 => ?_)
  · refine own_ifY C A own_d3_82 (Jvm.Free.XT.i0_eq_t hc82) (by decide) (q := 101) (by decide) ?_
    exact w3_101 C A v1 xs_v0 V_v0 g_v0 K (own_p0 hv1 (by decide))
  · refine own_ifN C A own_d3_82 (Jvm.Free.XT.i0_eq_f hc82) rfl ?_
    refine own_aloadN C A own_d3_85 rfl rfl rfl ?_
    refine own_iloadN C A own_d3_86 rfl rfl ?_
    refine own_iinc C A own_d3_87 rfl (l' := #[.val (.ref v0), .val (.int (v1 + (1 : Int32))), .val (.int u2), .val (.int u3), .val (.int v4)]) rfl rfl ?_
    refine own_bipush C A own_d3_90 (v := -61) rfl rfl ?_
    refine own_bastore C A V_v0 (own_q0 hv1 (by decide)) (ys := (xs_v0.set (v1).toNatClampNeg ((-61 : Int32).toInt8.toInt32))) rfl g_v0 own_d3_92 rfl (fun T h Kw V_v0 A => ?_)
    have K := K.trans Kw (allS (Or.inl (List.mem_of_getElem? (i := 0) rfl)) all0)
    refine own_aloadN C A own_d3_93 rfl rfl rfl ?_
    refine own_iloadN C A own_d3_94 rfl rfl ?_
    refine own_iinc C A own_d3_95 rfl (l' := #[.val (.ref v0), .val (.int ((v1 + (1 : Int32)) + (1 : Int32))), .val (.int u2), .val (.int u3), .val (.int v4)]) rfl rfl ?_
    refine own_bipush C A own_d3_98 (v := -87) rfl rfl ?_
    refine own_bastore C A V_v0 (own_q1 hv1 (by decide)) (ys := ((xs_v0.set (v1).toNatClampNeg ((-61 : Int32).toInt8.toInt32)).set ((v1 + (1 : Int32))).toNatClampNeg ((-87 : Int32).toInt8.toInt32))) rfl g_v0 own_d3_100 rfl (fun T h Kw V_v0 A => ?_)
    have K := K.trans Kw (allS (Or.inl (List.mem_of_getElem? (i := 0) rfl)) all0)
    exact w3_101 C A ((v1 + (1 : Int32)) + (1 : Int32)) ((xs_v0.set (v1).toNatClampNeg ((-61 : Int32).toInt8.toInt32)).set ((v1 + (1 : Int32))).toNatClampNeg ((-87 : Int32).toInt8.toInt32)) V_v0 g_v0 K (own_p2 hv1 (by decide))
def f3_62 (v1 : Int32) (v2 : Int32) (v3 : Int32) (v4 : Int32) (xs_v0 : List Int32) : Int32 × List Int32 := (if (2 : Int32) < v3 then (f3_80 (v1 + (1 : Int32)) v4 (xs_v0.set (v1).toNatClampNeg ((f2_0 ((v2.toUInt32 >>> ((20 : Int32) &&& 31).toUInt32).toInt32)).toInt8.toInt32))) else (f3_80 v1 v4 xs_v0))
set_option maxRecDepth 65536 in
set_option maxHeartbeats 4000000 in
theorem w3_62 {Z : State} {a0 : Array Value} {p : Program} {l : Launch} {e : Env} {s : State} {m : MethodId} {args : Array Value} {below : List Frame} {meth : Method} {c : Code} {T : State} {h : Heap} {n0 : Nat} {hE : Heap} {v0 : Addr} (C : own_Cx Z a0 p l e own_R3 s m args below meth c "com/example/tidemark/tidemark/table/PlainLineNameLengthPinLaw" "name" method_4_code 5 (some .int)) (A : own_At p l e own_R3 s m args below meth c T h n0 0 0) (v1 : Int32) (v2 : Int32) (v3 : Int32) (v4 : Int32) (xs_v0 : List Int32) (V_v0 : own_Ia Z h v0 .byte (40 : Int32) xs_v0) (g_v0 : n0 ≤ v0) (K : Keep hE h [v0]) (hv1 : ¬ v1 < 0 ∧ v1 < 33) :
    own_Go p.tables e below (T.setTop (mkF m 62 #[.val (.ref v0), .val (.int v1), .val (.int v2), .val (.int v3), .val (.int v4)] [])) (own_QR s n0 0 0 (own_P3 Z hE v0 (f3_62 v1 v2 v3 v4 xs_v0))) := by
  unfold f3_62
  refine own_iloadN C A own_d3_62 rfl rfl ?_
  refine own_iconst C A own_d3_63 (v := 2) rfl rfl ?_
  refine own_ite (fun hc64 => ?_) (fun hc64 => ?_)
  · refine own_icmpN C A own_d3_64 (Jvm.Free.XT.ii_le_f hc64) rfl ?_
    refine own_aloadN C A own_d3_67 rfl rfl rfl ?_
    refine own_iloadN C A own_d3_68 rfl rfl ?_
    refine own_iinc C A own_d3_69 rfl (l' := #[.val (.ref v0), .val (.int (v1 + (1 : Int32))), .val (.int v2), .val (.int v3), .val (.int v4)]) rfl rfl ?_
    refine own_iloadN C A own_d3_72 rfl rfl ?_
    refine own_bipush C A own_d3_73 (v := 20) rfl rfl ?_
    refine own_iushr C A own_d3_75 rfl ?_
    refine own_callSI C A 2 [(.int ((v2.toUInt32 >>> ((20 : Int32) &&& 31).toUInt32).toInt32))] [(.int v1), (.ref v0)] (own_w C 5 rfl) (own_w C 6 rfl) (own_w C 3 rfl) (own_w C 7 rfl) (by decide) (rm2 l Z a0 C.2.2.2.2.2.2.2.2 [] ((v2.toUInt32 >>> ((20 : Int32) &&& 31).toUInt32).toInt32) _ _ (own_size A)) rfl rfl (by decide) (by decide) (by decide) (by decide) own_pd0 rfl rfl rfl (Nat.le_of_eq rfl) rfl own_d3_76 rfl (fun T A => ?_)
    refine own_bastore C A V_v0 (own_q0 hv1 (by decide)) (ys := (xs_v0.set (v1).toNatClampNeg ((f2_0 ((v2.toUInt32 >>> ((20 : Int32) &&& 31).toUInt32).toInt32)).toInt8.toInt32))) rfl g_v0 own_d3_79 rfl (fun T h Kw V_v0 A => ?_)
    have K := K.trans Kw (allS (Or.inl (List.mem_of_getElem? (i := 0) rfl)) all0)
    exact w3_80 C A (v1 + (1 : Int32)) v4 (xs_v0.set (v1).toNatClampNeg ((f2_0 ((v2.toUInt32 >>> ((20 : Int32) &&& 31).toUInt32).toInt32)).toInt8.toInt32)) V_v0 g_v0 K (own_p1 hv1 (by decide))
  · refine own_icmpY C A own_d3_64 (Jvm.Free.XT.ii_le_t hc64) (by decide) (q := 80) (by decide) ?_
    exact w3_80 C A v1 v4 xs_v0 V_v0 g_v0 K (own_p0 hv1 (by decide))
def f3_44 (v1 : Int32) (v2 : Int32) (v3 : Int32) (v4 : Int32) (xs_v0 : List Int32) : Int32 × List Int32 := (if (1 : Int32) < v3 then (f3_62 (v1 + (1 : Int32)) v2 v3 v4 (xs_v0.set (v1).toNatClampNeg ((f2_0 ((v2.toUInt32 >>> ((14 : Int32) &&& 31).toUInt32).toInt32)).toInt8.toInt32))) else (f3_62 v1 v2 v3 v4 xs_v0))
set_option maxRecDepth 65536 in
set_option maxHeartbeats 4000000 in
theorem w3_44 {Z : State} {a0 : Array Value} {p : Program} {l : Launch} {e : Env} {s : State} {m : MethodId} {args : Array Value} {below : List Frame} {meth : Method} {c : Code} {T : State} {h : Heap} {n0 : Nat} {hE : Heap} {v0 : Addr} (C : own_Cx Z a0 p l e own_R3 s m args below meth c "com/example/tidemark/tidemark/table/PlainLineNameLengthPinLaw" "name" method_4_code 5 (some .int)) (A : own_At p l e own_R3 s m args below meth c T h n0 0 0) (v1 : Int32) (v2 : Int32) (v3 : Int32) (v4 : Int32) (xs_v0 : List Int32) (V_v0 : own_Ia Z h v0 .byte (40 : Int32) xs_v0) (g_v0 : n0 ≤ v0) (K : Keep hE h [v0]) (hv1 : ¬ v1 < 0 ∧ v1 < 32) :
    own_Go p.tables e below (T.setTop (mkF m 44 #[.val (.ref v0), .val (.int v1), .val (.int v2), .val (.int v3), .val (.int v4)] [])) (own_QR s n0 0 0 (own_P3 Z hE v0 (f3_44 v1 v2 v3 v4 xs_v0))) := by
  unfold f3_44
  refine own_iloadN C A own_d3_44 rfl rfl ?_
  refine own_iconst C A own_d3_45 (v := 1) rfl rfl ?_
  refine own_ite (fun hc46 => ?_) (fun hc46 => ?_)
  · refine own_icmpN C A own_d3_46 (Jvm.Free.XT.ii_le_f hc46) rfl ?_
    refine own_aloadN C A own_d3_49 rfl rfl rfl ?_
    refine own_iloadN C A own_d3_50 rfl rfl ?_
    refine own_iinc C A own_d3_51 rfl (l' := #[.val (.ref v0), .val (.int (v1 + (1 : Int32))), .val (.int v2), .val (.int v3), .val (.int v4)]) rfl rfl ?_
    refine own_iloadN C A own_d3_54 rfl rfl ?_
    refine own_bipush C A own_d3_55 (v := 14) rfl rfl ?_
    refine own_iushr C A own_d3_57 rfl ?_
    refine own_callSI C A 2 [(.int ((v2.toUInt32 >>> ((14 : Int32) &&& 31).toUInt32).toInt32))] [(.int v1), (.ref v0)] (own_w C 5 rfl) (own_w C 6 rfl) (own_w C 3 rfl) (own_w C 7 rfl) (by decide) (rm2 l Z a0 C.2.2.2.2.2.2.2.2 [] ((v2.toUInt32 >>> ((14 : Int32) &&& 31).toUInt32).toInt32) _ _ (own_size A)) rfl rfl (by decide) (by decide) (by decide) (by decide) own_pd0 rfl rfl rfl (Nat.le_of_eq rfl) rfl own_d3_58 rfl (fun T A => ?_)
    refine own_bastore C A V_v0 (own_q0 hv1 (by decide)) (ys := (xs_v0.set (v1).toNatClampNeg ((f2_0 ((v2.toUInt32 >>> ((14 : Int32) &&& 31).toUInt32).toInt32)).toInt8.toInt32))) rfl g_v0 own_d3_61 rfl (fun T h Kw V_v0 A => ?_)
    have K := K.trans Kw (allS (Or.inl (List.mem_of_getElem? (i := 0) rfl)) all0)
    exact w3_62 C A (v1 + (1 : Int32)) v2 v3 v4 (xs_v0.set (v1).toNatClampNeg ((f2_0 ((v2.toUInt32 >>> ((14 : Int32) &&& 31).toUInt32).toInt32)).toInt8.toInt32)) V_v0 g_v0 K (own_p1 hv1 (by decide))
  · refine own_icmpY C A own_d3_46 (Jvm.Free.XT.ii_le_t hc46) (by decide) (q := 62) (by decide) ?_
    exact w3_62 C A v1 v2 v3 v4 xs_v0 V_v0 g_v0 K (own_p0 hv1 (by decide))
def f3_17 (v1 : Int32) (v2 : Int32) (v3 : Int32) (s0 : Int32) (xs_v0 : List Int32) : Int32 × List Int32 := (if (0 : Int32) < v3 then (f3_44 ((v1 + (1 : Int32)) + (1 : Int32)) v2 v3 s0 ((xs_v0.set (v1).toNatClampNeg ((34 : Int32).toInt8.toInt32)).set ((v1 + (1 : Int32))).toNatClampNeg ((f2_0 ((v2.toUInt32 >>> ((8 : Int32) &&& 31).toUInt32).toInt32)).toInt8.toInt32))) else (f3_44 (v1 + (1 : Int32)) v2 v3 s0 (xs_v0.set (v1).toNatClampNeg ((34 : Int32).toInt8.toInt32))))
set_option maxRecDepth 65536 in
set_option maxHeartbeats 4000000 in
theorem w3_17 {Z : State} {a0 : Array Value} {p : Program} {l : Launch} {e : Env} {s : State} {m : MethodId} {args : Array Value} {below : List Frame} {meth : Method} {c : Code} {T : State} {h : Heap} {n0 : Nat} {hE : Heap} {v0 : Addr} (C : own_Cx Z a0 p l e own_R3 s m args below meth c "com/example/tidemark/tidemark/table/PlainLineNameLengthPinLaw" "name" method_4_code 5 (some .int)) (A : own_At p l e own_R3 s m args below meth c T h n0 0 0) (v1 : Int32) (v2 : Int32) (v3 : Int32) (s0 : Int32) (xs_v0 : List Int32) (V_v0 : own_Ia Z h v0 .byte (40 : Int32) xs_v0) (g_v0 : n0 ≤ v0) (K : Keep hE h [v0]) (hv1 : ¬ v1 < 0 ∧ v1 < 30) :
    own_Go p.tables e below (T.setTop (mkF m 17 #[.val (.ref v0), .val (.int v1), .val (.int v2), .val (.int v3), .unset] [(.int s0)])) (own_QR s n0 0 0 (own_P3 Z hE v0 (f3_17 v1 v2 v3 s0 xs_v0))) := by
  unfold f3_17
  refine own_istore C A own_d3_17 (l' := #[.val (.ref v0), .val (.int v1), .val (.int v2), .val (.int v3), .val (.int s0)]) rfl rfl ?_
  refine own_aloadN C A own_d3_19 rfl rfl rfl ?_
  refine own_iloadN C A own_d3_20 rfl rfl ?_
  refine own_iinc C A own_d3_21 rfl (l' := #[.val (.ref v0), .val (.int (v1 + (1 : Int32))), .val (.int v2), .val (.int v3), .val (.int s0)]) rfl rfl ?_
  refine own_bipush C A own_d3_24 (v := 34) rfl rfl ?_
  refine own_bastore C A V_v0 (own_q0 hv1 (by decide)) (ys := (xs_v0.set (v1).toNatClampNeg ((34 : Int32).toInt8.toInt32))) rfl g_v0 own_d3_26 rfl (fun T h Kw V_v0 A => ?_)
  have K := K.trans Kw (allS (Or.inl (List.mem_of_getElem? (i := 0) rfl)) all0)
  refine own_iloadN C A own_d3_27 rfl rfl ?_
  refine own_ite (fun hc28 => ?_) (fun hc28 => ?_)
  · refine own_ifN C A own_d3_28 (Jvm.Free.XT.i0_le_f hc28) rfl ?_
    refine own_aloadN C A own_d3_31 rfl rfl rfl ?_
    refine own_iloadN C A own_d3_32 rfl rfl ?_
    refine own_iinc C A own_d3_33 rfl (l' := #[.val (.ref v0), .val (.int ((v1 + (1 : Int32)) + (1 : Int32))), .val (.int v2), .val (.int v3), .val (.int s0)]) rfl rfl ?_
    refine own_iloadN C A own_d3_36 rfl rfl ?_
    refine own_bipush C A own_d3_37 (v := 8) rfl rfl ?_
    refine own_iushr C A own_d3_39 rfl ?_
    refine own_callSI C A 2 [(.int ((v2.toUInt32 >>> ((8 : Int32) &&& 31).toUInt32).toInt32))] [(.int (v1 + (1 : Int32))), (.ref v0)] (own_w C 5 rfl) (own_w C 6 rfl) (own_w C 3 rfl) (own_w C 7 rfl) (by decide) (rm2 l Z a0 C.2.2.2.2.2.2.2.2 [] ((v2.toUInt32 >>> ((8 : Int32) &&& 31).toUInt32).toInt32) _ _ (own_size A)) rfl rfl (by decide) (by decide) (by decide) (by decide) own_pd0 rfl rfl rfl (Nat.le_of_eq rfl) rfl own_d3_40 rfl (fun T A => ?_)
    refine own_bastore C A V_v0 (own_q1 hv1 (by decide)) (ys := ((xs_v0.set (v1).toNatClampNeg ((34 : Int32).toInt8.toInt32)).set ((v1 + (1 : Int32))).toNatClampNeg ((f2_0 ((v2.toUInt32 >>> ((8 : Int32) &&& 31).toUInt32).toInt32)).toInt8.toInt32))) rfl g_v0 own_d3_43 rfl (fun T h Kw V_v0 A => ?_)
    have K := K.trans Kw (allS (Or.inl (List.mem_of_getElem? (i := 0) rfl)) all0)
    exact w3_44 C A ((v1 + (1 : Int32)) + (1 : Int32)) v2 v3 s0 ((xs_v0.set (v1).toNatClampNeg ((34 : Int32).toInt8.toInt32)).set ((v1 + (1 : Int32))).toNatClampNeg ((f2_0 ((v2.toUInt32 >>> ((8 : Int32) &&& 31).toUInt32).toInt32)).toInt8.toInt32)) V_v0 g_v0 K (own_p2 hv1 (by decide))
  · refine own_ifY C A own_d3_28 (Jvm.Free.XT.i0_le_t hc28) (by decide) (q := 44) (by decide) ?_
    exact w3_44 C A (v1 + (1 : Int32)) v2 v3 s0 (xs_v0.set (v1).toNatClampNeg ((34 : Int32).toInt8.toInt32)) V_v0 g_v0 K (own_p1 hv1 (by decide))
def f3_0 (v1 : Int32) (v2 : Int32) (xs_v0 : List Int32) : Int32 × List Int32 := (if (((v2.toUInt32 >>> ((2 : Int32) &&& 31).toUInt32).toInt32) &&& (1 : Int32)) = (0 : Int32) then (f3_17 v1 v2 (v2 &&& (3 : Int32)) (0 : Int32) xs_v0) else (f3_17 v1 v2 (v2 &&& (3 : Int32)) (1 : Int32) xs_v0))
set_option maxRecDepth 65536 in
set_option maxHeartbeats 4000000 in
theorem w3_0 {Z : State} {a0 : Array Value} {p : Program} {l : Launch} {e : Env} {s : State} {m : MethodId} {args : Array Value} {below : List Frame} {meth : Method} {c : Code} {T : State} {h : Heap} {n0 : Nat} {hE : Heap} {v0 : Addr} (C : own_Cx Z a0 p l e own_R3 s m args below meth c "com/example/tidemark/tidemark/table/PlainLineNameLengthPinLaw" "name" method_4_code 5 (some .int)) (A : own_At p l e own_R3 s m args below meth c T h n0 0 0) (v1 : Int32) (v2 : Int32) (xs_v0 : List Int32) (V_v0 : own_Ia Z h v0 .byte (40 : Int32) xs_v0) (g_v0 : n0 ≤ v0) (K : Keep hE h [v0]) (hv1 : ¬ v1 < 0 ∧ v1 < 30) :
    own_Go p.tables e below (T.setTop (mkF m 0 #[.val (.ref v0), .val (.int v1), .val (.int v2), .unset, .unset] [])) (own_QR s n0 0 0 (own_P3 Z hE v0 (f3_0 v1 v2 xs_v0))) := by
  unfold f3_0
  refine own_iloadN C A own_d3_0 rfl rfl ?_
  refine own_iconst C A own_d3_1 (v := 3) rfl rfl ?_
  refine own_iand C A own_d3_2 rfl ?_
  refine own_istoreN C A own_d3_3 (l' := #[.val (.ref v0), .val (.int v1), .val (.int v2), .val (.int (v2 &&& (3 : Int32))), .unset]) rfl rfl ?_
  refine own_iloadN C A own_d3_4 rfl rfl ?_
  refine own_iconst C A own_d3_5 (v := 2) rfl rfl ?_
  refine own_iushr C A own_d3_6 rfl ?_
  refine own_iconst C A own_d3_7 (v := 1) rfl rfl ?_
  refine own_iand C A own_d3_8 rfl ?_
  refine own_ite (fun hc9 => ?_) (fun hc9 => ?_)
  · refine own_ifY C A own_d3_9 (Jvm.Free.XT.i0_eq_t hc9) (by decide) (q := 16) (by decide) ?_
    refine own_iconst C A own_d3_16 (v := 0) rfl rfl ?_
    exact w3_17 C A v1 v2 (v2 &&& (3 : Int32)) (0 : Int32) xs_v0 V_v0 g_v0 K (own_p0 hv1 (by decide))
  · refine own_ifN C A own_d3_9 (Jvm.Free.XT.i0_eq_f hc9) rfl ?_
    refine own_iconst C A own_d3_12 (v := 1) rfl rfl ?_
    refine own_goto C A own_d3_13 (by decide) (q := 17) (by decide) ?_
    exact w3_17 C A v1 v2 (v2 &&& (3 : Int32)) (1 : Int32) xs_v0 V_v0 g_v0 K (own_p0 hv1 (by decide))
theorem own_ef3 (m : MethodId) (v0 : Addr) (v1 : Int32) (v2 : Int32) : entryFrame m #[(.ref v0), (.int v1), (.int v2)] 5 = mkF m 0 #[.val (.ref v0), .val (.int v1), .val (.int v2), .unset, .unset] [] := by first | (simp [entryFrame, mkF, argsToLocals, Value.category]; done) | rfl
theorem rm3 (l : Launch) (Z : State) (a0 : Array Value) (hw : ∀ d ∈ tables_1, d.before a0 Z = true) (ws : List Jvm.Cond) (v0 : Addr) (v1 : Int32) (v2 : Int32) (xs_v0 : List Int32) (h : Heap) (n0 : Nat) (hn : n0 ≤ h.size) (V_v0 : own_Ia Z h v0 .byte (40 : Int32) xs_v0) (g_v0 : n0 ≤ v0) (hv1 : ¬ v1 < 0 ∧ v1 < 30) :
    MetFree l (⟨"com/example/tidemark/tidemark/table/PlainLineNameLengthPinLaw", "name", "([BII)I"⟩ : MethodName) (head1 (Jvm.Cond.code (⟨"com/example/tidemark/tidemark/table/PlainLineNameLengthPinLaw", "name", "([BII)I"⟩ : MethodName) method_4_code 5 (some .int) :: ws) own_R3) (fun a U => a = #[(.ref v0), (.int v1), (.int v2)] ∧ Z.Warmed39 U.vm ∧ U.heap = h) (fun _ _ _ _ _ => True) (fun _ U o U' => own_QR U n0 0 0 (own_P3 Z h v0 (f3_0 v1 v2 xs_v0)) o U') :=
  own_met (plainFor_of_name (by first | (simp [plainName, overriddenIn]; done) | decide +kernel)) hw hn (fun m => own_ef3 m v0 v1 v2) (fun p e s m below meth c T C A => w3_0 C A v1 v2 xs_v0 V_v0 g_v0 (Keep.refl h _) hv1)
/-! PlainLine.ctor -/
theorem own_d4_0 : decode prog_87_method_1_code 0 = .ok (.aload_n 0, 1) := by decide +kernel
theorem own_d4_1 : decode prog_87_method_1_code 1 = .ok (.invokespecial 1, 3) := by decide +kernel
theorem own_d4_4 : decode prog_87_method_1_code 4 = .ok (.aload_n 0, 1) := by decide +kernel
theorem own_d4_5 : decode prog_87_method_1_code 5 = .ok (.bipush 16, 2) := by decide +kernel
theorem own_d4_7 : decode prog_87_method_1_code 7 = .ok (.newarray .int, 2) := by decide +kernel
theorem own_d4_9 : decode prog_87_method_1_code 9 = .ok (.putfield 7, 3) := by decide +kernel
theorem own_d4_12 : decode prog_87_method_1_code 12 = .ok (.return_, 1) := by decide +kernel
def own_R4 : Room := { frames := 1, cells := 1, slots := 16, locals := 12 }
def own_P4 (Z : State) (n0 : Nat) (h : Heap) (v0 : Addr) (r : Unit) (v : Option Value) (h' : Heap) : Prop := ∃ t, v = none ∧ Keep h h' [v0] ∧ n0 ≤ t ∧ h.size ≤ t ∧ own_Ia Z h' t .int (16 : Int32) [0, 0, 0, 0, 0, 0, 0, 0, 0, 0, 0, 0, 0, 0, 0, 0] ∧ Exa Z h' v0 "com/example/tidemark/tidemark/table/PlainLine" ∧ Fld Z h' v0 "com/example/tidemark/tidemark/table/PlainLine" "bytes" "[B" .null ∧ Fld Z h' v0 "com/example/tidemark/tidemark/table/PlainLine" "typeFrom" "I" (.int (0 : Int32)) ∧ Fld Z h' v0 "com/example/tidemark/tidemark/table/PlainLine" "typeTo" "I" (.int (0 : Int32)) ∧ Fld Z h' v0 "com/example/tidemark/tidemark/table/PlainLine" "tokens" "[I" (.ref t) ∧ Fld Z h' v0 "com/example/tidemark/tidemark/table/PlainLine" "count" "I" (.int (0 : Int32))
def f4_0  : Unit := ()
set_option maxRecDepth 65536 in
set_option maxHeartbeats 4000000 in
theorem w4_0 {Z : State} {a0 : Array Value} {p : Program} {l : Launch} {e : Env} {s : State} {m : MethodId} {args : Array Value} {below : List Frame} {meth : Method} {c : Code} {T : State} {h : Heap} {n0 : Nat} {hE : Heap} {v0 : Addr} (C : own_Cx Z a0 p l e own_R4 s m args below meth c "com/example/tidemark/tidemark/table/PlainLine" "<init>" prog_87_method_1_code 1 none) (A : own_At p l e own_R4 s m args below meth c T h n0 0 0) (F_bytes_v0 : Fld Z h v0 "com/example/tidemark/tidemark/table/PlainLine" "bytes" "[B" .null) (F_typeFrom_v0 : Fld Z h v0 "com/example/tidemark/tidemark/table/PlainLine" "typeFrom" "I" (.int (0 : Int32))) (F_typeTo_v0 : Fld Z h v0 "com/example/tidemark/tidemark/table/PlainLine" "typeTo" "I" (.int (0 : Int32))) (F_tokens_v0 : Fld Z h v0 "com/example/tidemark/tidemark/table/PlainLine" "tokens" "[I" .null) (F_count_v0 : Fld Z h v0 "com/example/tidemark/tidemark/table/PlainLine" "count" "I" (.int (0 : Int32))) (E_v0 : Exa Z h v0 "com/example/tidemark/tidemark/table/PlainLine") (g_v0 : n0 ≤ v0) (K : Keep hE h [v0]) :
    own_Go p.tables e below (T.setTop (mkF m 0 #[.val (.ref v0)] [])) (own_QR s n0 1 16 (own_P4 Z n0 hE v0 (f4_0))) := by
  unfold f4_0
  refine own_aloadN C A own_d4_0 rfl rfl rfl ?_
  refine own_initO C A 0 (own_w C 14 rfl) (own_w C 15 rfl) (own_w C 16 rfl) rfl own_d4_1 rfl (by decide) (Nat.le_of_eq rfl) (by decide) (fun T A => ?_)
  refine own_aloadN C A own_d4_4 rfl rfl rfl ?_
  refine own_bipush C A own_d4_5 (v := 16) rfl rfl ?_
  refine own_newP C A 16 (own_w C 17 rfl) (by decide) (xs := [0, 0, 0, 0, 0, 0, 0, 0, 0, 0, 0, 0, 0, 0, 0, 0]) rfl (by decide) (by decide) rfl own_d4_7 rfl (by decide) (by decide) (fun T h b7 e_b7 X_b7 V_b7 g_b7 A => ?_)
  have ne_v0_b7 : v0 ≠ b7 := Nat.ne_of_lt (Nat.lt_of_lt_of_eq (Exa.lt E_v0) e_b7.symm)
  have sz_b7 : hE.size ≤ b7 := Nat.le_trans K.1 (Nat.le_of_eq e_b7.symm)
  have F_bytes_v0 := Fld.ext X_b7 F_bytes_v0
  have F_typeFrom_v0 := Fld.ext X_b7 F_typeFrom_v0
  have F_typeTo_v0 := Fld.ext X_b7 F_typeTo_v0
  have F_tokens_v0 := Fld.ext X_b7 F_tokens_v0
  have F_count_v0 := Fld.ext X_b7 F_count_v0
  have E_v0 := Exa.ext X_b7 E_v0
  have K := K.ext X_b7
  refine own_putF C A (.array .int) (own_w C 18 rfl) F_tokens_v0 E_v0 (Or.inl (own_w C 19 rfl)) (own_w C 9 rfl) (by decide) rfl rfl g_v0 own_d4_9 rfl (fun T h W A => ?_)
  have F_bytes_v0 := Fld.other W F_bytes_v0 (Or.inr (slot_ne (Or.inl (own_w C 26 rfl)) (Or.inl (own_w C 19 rfl)) (by decide) (by decide : parseFieldDescriptor _ = some (.array .byte)) (by decide : parseFieldDescriptor _ = some (.array .int))))
  have F_typeFrom_v0 := Fld.other W F_typeFrom_v0 (Or.inr (slot_ne (Or.inl (own_w C 30 rfl)) (Or.inl (own_w C 19 rfl)) (by decide) (by decide : parseFieldDescriptor _ = some .int) (by decide : parseFieldDescriptor _ = some (.array .int))))
  have F_typeTo_v0 := Fld.other W F_typeTo_v0 (Or.inr (slot_ne (Or.inl (own_w C 40 rfl)) (Or.inl (own_w C 19 rfl)) (by decide) (by decide : parseFieldDescriptor _ = some .int) (by decide : parseFieldDescriptor _ = some (.array .int))))
  have F_tokens_v0 := Fld.same W F_tokens_v0
  have F_count_v0 := Fld.other W F_count_v0 (Or.inr (slot_ne (Or.inl (own_w C 28 rfl)) (Or.inl (own_w C 19 rfl)) (by decide) (by decide : parseFieldDescriptor _ = some .int) (by decide : parseFieldDescriptor _ = some (.array .int))))
  have E_v0 := Exa.wr W E_v0
  have V_b7 := own_Ia.other V_b7 W (Ne.symm ne_v0_b7)
  have K := K.wr W (Or.inl (List.mem_of_getElem? (i := 0) rfl))
  exact own_ret0 C A own_d4_12 ⟨b7, rfl, K, g_b7, sz_b7, V_b7, E_v0, F_bytes_v0, F_typeFrom_v0, F_typeTo_v0, F_tokens_v0, F_count_v0⟩
theorem own_ef4 (m : MethodId) (v0 : Addr) : entryFrame m #[(.ref v0)] 1 = mkF m 0 #[.val (.ref v0)] [] := by first | (simp [entryFrame, mkF, argsToLocals, Value.category]; done) | rfl
theorem rm4 (l : Launch) (Z : State) (a0 : Array Value) (hw : ∀ d ∈ tables_1, d.before a0 Z = true) (ws : List Jvm.Cond) (v0 : Addr) (h : Heap) (n0 : Nat) (hn : n0 ≤ h.size) (F_bytes_v0 : Fld Z h v0 "com/example/tidemark/tidemark/table/PlainLine" "bytes" "[B" .null) (F_typeFrom_v0 : Fld Z h v0 "com/example/tidemark/tidemark/table/PlainLine" "typeFrom" "I" (.int (0 : Int32))) (F_typeTo_v0 : Fld Z h v0 "com/example/tidemark/tidemark/table/PlainLine" "typeTo" "I" (.int (0 : Int32))) (F_tokens_v0 : Fld Z h v0 "com/example/tidemark/tidemark/table/PlainLine" "tokens" "[I" .null) (F_count_v0 : Fld Z h v0 "com/example/tidemark/tidemark/table/PlainLine" "count" "I" (.int (0 : Int32))) (E_v0 : Exa Z h v0 "com/example/tidemark/tidemark/table/PlainLine") (g_v0 : n0 ≤ v0) :
    MetFree l (⟨"com/example/tidemark/tidemark/table/PlainLine", "<init>", "()V"⟩ : MethodName) (head1 (Jvm.Cond.code (⟨"com/example/tidemark/tidemark/table/PlainLine", "<init>", "()V"⟩ : MethodName) prog_87_method_1_code 1 none :: ws) own_R4) (fun a U => a = #[(.ref v0)] ∧ Z.Warmed39 U.vm ∧ U.heap = h) (fun _ _ _ _ _ => True) (fun _ U o U' => own_QR U n0 1 16 (own_P4 Z n0 h v0 (f4_0)) o U') :=
  own_met (plainFor_of_name (by first | (simp [plainName, overriddenIn]; done) | decide +kernel)) hw hn (fun m => own_ef4 m v0) (fun p e s m below meth c T C A => w4_0 C A F_bytes_v0 F_typeFrom_v0 F_typeTo_v0 F_tokens_v0 F_count_v0 E_v0 g_v0 (Keep.refl h _))
/-! PlainLine.isAt -/
theorem own_d5_0 : decode prog_87_method_4_code 0 = .ok (.iload_n 1, 1) := by decide +kernel
theorem own_d5_1 : decode prog_87_method_4_code 1 = .ok (.iload_n 2, 1) := by decide +kernel
theorem own_d5_2 : decode prog_87_method_4_code 2 = .ok (.if_icmp .ge 17, 3) := by decide +kernel
theorem own_d5_5 : decode prog_87_method_4_code 5 = .ok (.aload_n 0, 1) := by decide +kernel
theorem own_d5_6 : decode prog_87_method_4_code 6 = .ok (.getfield 13, 3) := by decide +kernel
theorem own_d5_9 : decode prog_87_method_4_code 9 = .ok (.iload_n 1, 1) := by decide +kernel
theorem own_d5_10 : decode prog_87_method_4_code 10 = .ok (.baload, 1) := by decide +kernel
theorem own_d5_11 : decode prog_87_method_4_code 11 = .ok (.iload_n 3, 1) := by decide +kernel
theorem own_d5_12 : decode prog_87_method_4_code 12 = .ok (.if_icmp .ne 7, 3) := by decide +kernel
theorem own_d5_15 : decode prog_87_method_4_code 15 = .ok (.iconst 1, 1) := by decide +kernel
theorem own_d5_16 : decode prog_87_method_4_code 16 = .ok (.goto 4, 3) := by decide +kernel
theorem own_d5_19 : decode prog_87_method_4_code 19 = .ok (.iconst 0, 1) := by decide +kernel
theorem own_d5_20 : decode prog_87_method_4_code 20 = .ok (.ireturn, 1) := by decide +kernel
def own_R5 : Room := { frames := 0, cells := 0, slots := 0, locals := 0 }
def f5_0 (v1 : Int32) (v2 : Int32) (v3 : Int32) (xs_r_bytes_v0 : List Int32) : Int32 := (if v1 < v2 then (if (xs_r_bytes_v0.getD (v1).toNatClampNeg 0) = v3 then (1 : Int32) else (0 : Int32)) else (0 : Int32))
set_option maxRecDepth 65536 in
set_option maxHeartbeats 4000000 in
theorem w5_0 {Z : State} {a0 : Array Value} {p : Program} {l : Launch} {e : Env} {s : State} {m : MethodId} {args : Array Value} {below : List Frame} {meth : Method} {c : Code} {T : State} {h : Heap} {n0 : Nat} {v0 : Addr} {r_bytes_v0 : Addr} (C : own_Cx Z a0 p l e own_R5 s m args below meth c "com/example/tidemark/tidemark/table/PlainLine" "isAt" prog_87_method_4_code 4 (some .boolean)) (A : own_At p l e own_R5 s m args below meth c T h n0 0 0) (v1 : Int32) (v2 : Int32) (v3 : Int32) (xs_r_bytes_v0 : List Int32) (F_bytes_v0 : Fld Z h v0 "com/example/tidemark/tidemark/table/PlainLine" "bytes" "[B" (.ref r_bytes_v0)) (E_v0 : Exa Z h v0 "com/example/tidemark/tidemark/table/PlainLine") (V_r_bytes_v0 : own_Ia Z h r_bytes_v0 .byte (40 : Int32) xs_r_bytes_v0) (ha : ¬ v1 < 0) (he : ¬ 40 < v2) :
    own_Go p.tables e below (T.setTop (mkF m 0 #[.val (.ref v0), .val (.int v1), .val (.int v2), .val (.int v3)] [])) (own_QR s n0 0 0 (own_RI h (f5_0 v1 v2 v3 xs_r_bytes_v0))) := by
  unfold f5_0
  refine own_iloadN C A own_d5_0 rfl rfl ?_
  refine own_iloadN C A own_d5_1 rfl rfl ?_
  refine own_ite (fun hc2 => ?_) (fun hc2 => ?_)
  · refine own_icmpN C A own_d5_2 (Jvm.Free.XT.ii_ge_f hc2) rfl ?_
    refine own_aloadN C A own_d5_5 rfl rfl rfl ?_
    refine own_getF C A (own_w C 25 rfl) F_bytes_v0 own_d5_6 rfl (fun T A => ?_)
    refine own_iloadN C A own_d5_9 rfl rfl ?_
    refine own_baload C A V_r_bytes_v0 (own_at ha he hc2) (v := (xs_r_bytes_v0.getD (v1).toNatClampNeg 0)) rfl own_d5_10 rfl ?_
    refine own_iloadN C A own_d5_11 rfl rfl ?_
    refine own_ite (fun hc12 => ?_) (fun hc12 => ?_)
    · refine own_icmpN C A own_d5_12 (Jvm.Free.XT.ii_ne_f hc12) rfl ?_
      refine own_iconst C A own_d5_15 (v := 1) rfl rfl ?_
      refine own_goto C A own_d5_16 (by decide) (q := 20) (by decide) ?_
      exact own_retN C A (t := .boolean) (by simp) own_d5_20 ⟨rfl, rfl⟩
    · refine own_icmpY C A own_d5_12 (Jvm.Free.XT.ii_ne_t hc12) (by decide) (q := 19) (by decide) ?_
      refine own_iconst C A own_d5_19 (v := 0) rfl rfl ?_
      exact own_retN C A (t := .boolean) (by simp) own_d5_20 ⟨rfl, rfl⟩
  · refine own_icmpY C A own_d5_2 (Jvm.Free.XT.ii_ge_t hc2) (by decide) (q := 19) (by decide) ?_
    refine own_iconst C A own_d5_19 (v := 0) rfl rfl ?_
    exact own_retN C A (t := .boolean) (by simp) own_d5_20 ⟨rfl, rfl⟩
theorem own_ef5 (m : MethodId) (v0 : Addr) (v1 : Int32) (v2 : Int32) (v3 : Int32) : entryFrame m #[(.ref v0), (.int v1), (.int v2), (.int v3)] 4 = mkF m 0 #[.val (.ref v0), .val (.int v1), .val (.int v2), .val (.int v3)] [] := by first | (simp [entryFrame, mkF, argsToLocals, Value.category]; done) | rfl
theorem rm5 (l : Launch) (Z : State) (a0 : Array Value) (hw : ∀ d ∈ tables_1, d.before a0 Z = true) (ws : List Jvm.Cond) (v0 : Addr) (v1 : Int32) (v2 : Int32) (v3 : Int32) (xs_r_bytes_v0 : List Int32) (r_bytes_v0 : Addr) (h : Heap) (n0 : Nat) (hn : n0 ≤ h.size) (F_bytes_v0 : Fld Z h v0 "com/example/tidemark/tidemark/table/PlainLine" "bytes" "[B" (.ref r_bytes_v0)) (E_v0 : Exa Z h v0 "com/example/tidemark/tidemark/table/PlainLine") (V_r_bytes_v0 : own_Ia Z h r_bytes_v0 .byte (40 : Int32) xs_r_bytes_v0) (ha : ¬ v1 < 0) (he : ¬ 40 < v2) :
    MetFree l (⟨"com/example/tidemark/tidemark/table/PlainLine", "isAt", "(IIC)Z"⟩ : MethodName) (head1 (Jvm.Cond.code (⟨"com/example/tidemark/tidemark/table/PlainLine", "isAt", "(IIC)Z"⟩ : MethodName) prog_87_method_4_code 4 (some .boolean) :: ws) own_R5) (fun a U => a = #[(.ref v0), (.int v1), (.int v2), (.int v3)] ∧ Z.Warmed39 U.vm ∧ U.heap = h) (fun _ _ _ _ _ => True) (fun _ U o U' => own_QR U n0 0 0 (own_RI h (f5_0 v1 v2 v3 xs_r_bytes_v0)) o U') :=
  own_met (plainFor_of_name (by first | (simp [plainName, overriddenIn]; done) | decide +kernel)) hw hn (fun m => own_ef5 m v0 v1 v2 v3) (fun p e s m below meth c T C A => w5_0 C A v1 v2 v3 xs_r_bytes_v0 F_bytes_v0 E_v0 V_r_bytes_v0 ha he)
/-! Utf8.continuing -/
theorem own_d6_0 : decode prog_129_method_8_code 0 = .ok (.iload_n 0, 1) := by decide +kernel
theorem own_d6_1 : decode prog_129_method_8_code 1 = .ok (.bipush 16, 2) := by decide +kernel
theorem own_d6_3 : decode prog_129_method_8_code 3 = .ok (.ishl, 1) := by decide +kernel
theorem own_d6_4 : decode prog_129_method_8_code 4 = .ok (.iload_n 1, 1) := by decide +kernel
theorem own_d6_5 : decode prog_129_method_8_code 5 = .ok (.bipush 8, 2) := by decide +kernel
theorem own_d6_7 : decode prog_129_method_8_code 7 = .ok (.ishl, 1) := by decide +kernel
theorem own_d6_8 : decode prog_129_method_8_code 8 = .ok (.ior, 1) := by decide +kernel
theorem own_d6_9 : decode prog_129_method_8_code 9 = .ok (.iload_n 2, 1) := by decide +kernel
theorem own_d6_10 : decode prog_129_method_8_code 10 = .ok (.ior, 1) := by decide +kernel
theorem own_d6_11 : decode prog_129_method_8_code 11 = .ok (.ireturn, 1) := by decide +kernel
def own_R6 : Room := { frames := 0, cells := 0, slots := 0, locals := 0 }
def f6_0 (v0 : Int32) (v1 : Int32) (v2 : Int32) : Int32 := (((v0 <<< ((16 : Int32) &&& 31)) ||| (v1 <<< ((8 : Int32) &&& 31))) ||| v2)
set_option maxRecDepth 65536 in
set_option maxHeartbeats 4000000 in
theorem w6_0 {Z : State} {a0 : Array Value} {p : Program} {l : Launch} {e : Env} {s : State} {m : MethodId} {args : Array Value} {below : List Frame} {meth : Method} {c : Code} {T : State} {h : Heap} {n0 : Nat}  (C : own_Cx Z a0 p l e own_R6 s m args below meth c "com/example/tidemark/tidemark/table/Utf8" "continuing" prog_129_method_8_code 3 (some .int)) (A : own_At p l e own_R6 s m args below meth c T h n0 0 0) (v0 : Int32) (v1 : Int32) (v2 : Int32) :
    own_Go p.tables e below (T.setTop (mkF m 0 #[.val (.int v0), .val (.int v1), .val (.int v2)] [])) (own_QR s n0 0 0 (own_RI h (f6_0 v0 v1 v2))) := by
  unfold f6_0
  refine own_iloadN C A own_d6_0 rfl rfl ?_
  refine own_bipush C A own_d6_1 (v := 16) rfl rfl ?_
  refine own_ishl C A own_d6_3 rfl ?_
  refine own_iloadN C A own_d6_4 rfl rfl ?_
  refine own_bipush C A own_d6_5 (v := 8) rfl rfl ?_
  refine own_ishl C A own_d6_7 rfl ?_
  refine own_ior C A own_d6_8 rfl ?_
  refine own_iloadN C A own_d6_9 rfl rfl ?_
  refine own_ior C A own_d6_10 rfl ?_
  exact own_retI C A own_d6_11 ⟨rfl, rfl⟩
theorem own_ef6 (m : MethodId) (v0 : Int32) (v1 : Int32) (v2 : Int32) : entryFrame m #[(.int v0), (.int v1), (.int v2)] 3 = mkF m 0 #[.val (.int v0), .val (.int v1), .val (.int v2)] [] := by first | (simp [entryFrame, mkF, argsToLocals, Value.category]; done) | rfl
theorem rm6 (l : Launch) (Z : State) (a0 : Array Value) (hw : ∀ d ∈ tables_1, d.before a0 Z = true) (ws : List Jvm.Cond) (v0 : Int32) (v1 : Int32) (v2 : Int32) (h : Heap) (n0 : Nat) (hn : n0 ≤ h.size) :
    MetFree l (⟨"com/example/tidemark/tidemark/table/Utf8", "continuing", "(III)I"⟩ : MethodName) (head1 (Jvm.Cond.code (⟨"com/example/tidemark/tidemark/table/Utf8", "continuing", "(III)I"⟩ : MethodName) prog_129_method_8_code 3 (some .int) :: ws) own_R6) (fun a U => a = #[(.int v0), (.int v1), (.int v2)] ∧ Z.Warmed39 U.vm ∧ U.heap = h) (fun _ _ _ _ _ => True) (fun _ U o U' => own_QR U n0 0 0 (own_RI h (f6_0 v0 v1 v2)) o U') :=
  own_met (plainFor_of_name (by first | (simp [plainName, overriddenIn]; done) | decide +kernel)) hw hn (fun m => own_ef6 m v0 v1 v2) (fun p e s m below meth c T C A => w6_0 C A v0 v1 v2)
/-! Utf8.afterLead -/
theorem own_d7_0 : decode prog_129_method_7_code 0 = .ok (.iload_n 0, 1) := by decide +kernel
theorem own_d7_1 : decode prog_129_method_7_code 1 = .ok (.sipush 128, 3) := by decide +kernel
theorem own_d7_4 : decode prog_129_method_7_code 4 = .ok (.if_icmp .ge 5, 3) := by decide +kernel
theorem own_d7_7 : decode prog_129_method_7_code 7 = .ok (.iconst 0, 1) := by decide +kernel
theorem own_d7_8 : decode prog_129_method_7_code 8 = .ok (.ireturn, 1) := by decide +kernel
theorem own_d7_9 : decode prog_129_method_7_code 9 = .ok (.iload_n 0, 1) := by decide +kernel
theorem own_d7_10 : decode prog_129_method_7_code 10 = .ok (.sipush 194, 3) := by decide +kernel
theorem own_d7_13 : decode prog_129_method_7_code 13 = .ok (.if_icmp .lt 21, 3) := by decide +kernel
theorem own_d7_16 : decode prog_129_method_7_code 16 = .ok (.iload_n 0, 1) := by decide +kernel
theorem own_d7_17 : decode prog_129_method_7_code 17 = .ok (.sipush 223, 3) := by decide +kernel
theorem own_d7_20 : decode prog_129_method_7_code 20 = .ok (.if_icmp .gt 14, 3) := by decide +kernel
theorem own_d7_23 : decode prog_129_method_7_code 23 = .ok (.iconst 1, 1) := by decide +kernel
theorem own_d7_24 : decode prog_129_method_7_code 24 = .ok (.sipush 128, 3) := by decide +kernel
theorem own_d7_27 : decode prog_129_method_7_code 27 = .ok (.sipush 191, 3) := by decide +kernel
theorem own_d7_30 : decode prog_129_method_7_code 30 = .ok (.invokestatic 83, 3) := by decide +kernel
theorem own_d7_33 : decode prog_129_method_7_code 33 = .ok (.ireturn, 1) := by decide +kernel
theorem own_d7_34 : decode prog_129_method_7_code 34 = .ok (.iload_n 0, 1) := by decide +kernel
theorem own_d7_35 : decode prog_129_method_7_code 35 = .ok (.sipush 224, 3) := by decide +kernel
theorem own_d7_38 : decode prog_129_method_7_code 38 = .ok (.if_icmp .lt 47, 3) := by decide +kernel
theorem own_d7_41 : decode prog_129_method_7_code 41 = .ok (.iload_n 0, 1) := by decide +kernel
theorem own_d7_42 : decode prog_129_method_7_code 42 = .ok (.sipush 239, 3) := by decide +kernel
theorem own_d7_45 : decode prog_129_method_7_code 45 = .ok (.if_icmp .gt 40, 3) := by decide +kernel
theorem own_d7_48 : decode prog_129_method_7_code 48 = .ok (.iconst 2, 1) := by decide +kernel
theorem own_d7_49 : decode prog_129_method_7_code 49 = .ok (.iload_n 0, 1) := by decide +kernel
theorem own_d7_50 : decode prog_129_method_7_code 50 = .ok (.sipush 224, 3) := by decide +kernel
theorem own_d7_53 : decode prog_129_method_7_code 53 = .ok (.if_icmp .ne 9, 3) := by decide +kernel
theorem own_d7_56 : decode prog_129_method_7_code 56 = .ok (.sipush 160, 3) := by decide +kernel
theorem own_d7_59 : decode prog_129_method_7_code 59 = .ok (.goto 6, 3) := by decide +kernel
theorem own_d7_62 : decode prog_129_method_7_code 62 = .ok (.sipush 128, 3) := by decide +kernel
theorem own_d7_65 : decode prog_129_method_7_code 65 = .ok (.iload_n 0, 1) := by decide +kernel
theorem own_d7_66 : decode prog_129_method_7_code 66 = .ok (.sipush 237, 3) := by decide +kernel
theorem own_d7_69 : decode prog_129_method_7_code 69 = .ok (.if_icmp .ne 9, 3) := by decide +kernel
theorem own_d7_72 : decode prog_129_method_7_code 72 = .ok (.sipush 159, 3) := by decide +kernel
theorem own_d7_75 : decode prog_129_method_7_code 75 = .ok (.goto 6, 3) := by decide +kernel
theorem own_d7_78 : decode prog_129_method_7_code 78 = .ok (.sipush 191, 3) := by decide +kernel
theorem own_d7_81 : decode prog_129_method_7_code 81 = .ok (.invokestatic 83, 3) := by decide +kernel
theorem own_d7_84 : decode prog_129_method_7_code 84 = .ok (.ireturn, 1) := by decide +kernel
theorem own_d7_85 : decode prog_129_method_7_code 85 = .ok (.iload_n 0, 1) := by decide +kernel
theorem own_d7_86 : decode prog_129_method_7_code 86 = .ok (.sipush 240, 3) := by decide +kernel
theorem own_d7_89 : decode prog_129_method_7_code 89 = .ok (.if_icmp .lt 47, 3) := by decide +kernel
theorem own_d7_92 : decode prog_129_method_7_code 92 = .ok (.iload_n 0, 1) := by decide +kernel
theorem own_d7_93 : decode prog_129_method_7_code 93 = .ok (.sipush 244, 3) := by decide +kernel
theorem own_d7_96 : decode prog_129_method_7_code 96 = .ok (.if_icmp .gt 40, 3) := by decide +kernel
theorem own_d7_99 : decode prog_129_method_7_code 99 = .ok (.iconst 3, 1) := by decide +kernel
theorem own_d7_100 : decode prog_129_method_7_code 100 = .ok (.iload_n 0, 1) := by decide +kernel
theorem own_d7_101 : decode prog_129_method_7_code 101 = .ok (.sipush 240, 3) := by decide +kernel
theorem own_d7_104 : decode prog_129_method_7_code 104 = .ok (.if_icmp .ne 9, 3) := by decide +kernel
theorem own_d7_107 : decode prog_129_method_7_code 107 = .ok (.sipush 144, 3) := by decide +kernel
theorem own_d7_110 : decode prog_129_method_7_code 110 = .ok (.goto 6, 3) := by decide +kernel
theorem own_d7_113 : decode prog_129_method_7_code 113 = .ok (.sipush 128, 3) := by decide +kernel
theorem own_d7_116 : decode prog_129_method_7_code 116 = .ok (.iload_n 0, 1) := by decide +kernel
theorem own_d7_117 : decode prog_129_method_7_code 117 = .ok (.sipush 244, 3) := by decide +kernel
theorem own_d7_120 : decode prog_129_method_7_code 120 = .ok (.if_icmp .ne 9, 3) := by decide +kernel
theorem own_d7_123 : decode prog_129_method_7_code 123 = .ok (.sipush 143, 3) := by decide +kernel
theorem own_d7_126 : decode prog_129_method_7_code 126 = .ok (.goto 6, 3) := by decide +kernel
theorem own_d7_129 : decode prog_129_method_7_code 129 = .ok (.sipush 191, 3) := by decide +kernel
theorem own_d7_132 : decode prog_129_method_7_code 132 = .ok (.invokestatic 83, 3) := by decide +kernel
theorem own_d7_135 : decode prog_129_method_7_code 135 = .ok (.ireturn, 1) := by decide +kernel
theorem own_d7_136 : decode prog_129_method_7_code 136 = .ok (.iconst (-1), 1) := by decide +kernel
theorem own_d7_137 : decode prog_129_method_7_code 137 = .ok (.ireturn, 1) := by decide +kernel
def own_R7 : Room := { frames := 1, cells := 0, slots := 0, locals := 14 }
def f7_132 (s0 : Int32) (s1 : Int32) (s2 : Int32) : Int32 := (f6_0 s0 s1 s2)
set_option maxRecDepth 65536 in
set_option maxHeartbeats 4000000 in
theorem w7_132 {Z : State} {a0 : Array Value} {p : Program} {l : Launch} {e : Env} {s : State} {m : MethodId} {args : Array Value} {below : List Frame} {meth : Method} {c : Code} {T : State} {h : Heap} {n0 : Nat} {u0 : Int32} (C : own_Cx Z a0 p l e own_R7 s m args below meth c "com/example/tidemark/tidemark/table/Utf8" "afterLead" prog_129_method_7_code 1 (some .int)) (A : own_At p l e own_R7 s m args below meth c T h n0 0 0) (s0 : Int32) (s1 : Int32) (s2 : Int32) :
    own_Go p.tables e below (T.setTop (mkF m 132 #[.val (.int u0)] [(.int s2), (.int s1), (.int s0)])) (own_QR s n0 0 0 (own_RI h (f7_132 s0 s1 s2))) := by
  unfold f7_132
  refine own_callSI C A 0 [(.int s0), (.int s1), (.int s2)] [] (own_w C 68 rfl) (own_w C 69 rfl) (own_w C 60 rfl) (own_w C 70 rfl) (by decide) (rm6 l Z a0 C.2.2.2.2.2.2.2.2 [] s0 s1 s2 _ _ (own_size A)) rfl rfl (by decide) (by decide) (by decide) (by decide) own_pd1 rfl rfl rfl (Nat.le_of_eq rfl) rfl own_d7_132 rfl (fun T A => ?_)
  exact own_retI C A own_d7_135 ⟨rfl, rfl⟩
def f7_116 (v0 : Int32) (s0 : Int32) (s1 : Int32) : Int32 := (if v0 = (244 : Int32) then (f7_132 s0 s1 (143 : Int32)) else (f7_132 s0 s1 (191 : Int32)))
set_option maxRecDepth 65536 in
set_option maxHeartbeats 4000000 in
theorem w7_116 {Z : State} {a0 : Array Value} {p : Program} {l : Launch} {e : Env} {s : State} {m : MethodId} {args : Array Value} {below : List Frame} {meth : Method} {c : Code} {T : State} {h : Heap} {n0 : Nat}  (C : own_Cx Z a0 p l e own_R7 s m args below meth c "com/example/tidemark/tidemark/table/Utf8" "afterLead" prog_129_method_7_code 1 (some .int)) (A : own_At p l e own_R7 s m args below meth c T h n0 0 0) (v0 : Int32) (s0 : Int32) (s1 : Int32) :
    own_Go p.tables e below (T.setTop (mkF m 116 #[.val (.int v0)] [(.int s1), (.int s0)])) (own_QR s n0 0 0 (own_RI h (f7_116 v0 s0 s1))) := by
  unfold f7_116
  refine own_iloadN C A own_d7_116 rfl rfl ?_
  refine own_sipush C A own_d7_117 (v := 244) rfl rfl ?_
  refine own_ite (fun hc120 => ?_) (fun hc120 => ?_)
  · refine own_icmpN C A own_d7_120 (Jvm.Free.XT.ii_ne_f hc120) rfl ?_
    refine own_sipush C A own_d7_123 (v := 143) rfl rfl ?_
    refine own_goto C A own_d7_126 (by decide) (q := 132) (by decide) ?_
    exact w7_132 C A s0 s1 (143 : Int32)
  · refine own_icmpY C A own_d7_120 (Jvm.Free.XT.ii_ne_t hc120) (by decide) (q := 129) (by decide) ?_
    refine own_sipush C A own_d7_129 (v := 191) rfl rfl ?_
    exact w7_132 C A s0 s1 (191 : Int32)
def f7_85 (v0 : Int32) : Int32 := (if v0 < (240 : Int32) then (-1 : Int32) else (if (244 : Int32) < v0 then (-1 : Int32) else (if v0 = (240 : Int32) then (f7_116 v0 (3 : Int32) (144 : Int32)) else (f7_116 v0 (3 : Int32) (128 : Int32)))))
set_option maxRecDepth 65536 in
set_option maxHeartbeats 4000000 in
theorem w7_85 {Z : State} {a0 : Array Value} {p : Program} {l : Launch} {e : Env} {s : State} {m : MethodId} {args : Array Value} {below : List Frame} {meth : Method} {c : Code} {T : State} {h : Heap} {n0 : Nat}  (C : own_Cx Z a0 p l e own_R7 s m args below meth c "com/example/tidemark/tidemark/table/Utf8" "afterLead" prog_129_method_7_code 1 (some .int)) (A : own_At p l e own_R7 s m args below meth c T h n0 0 0) (v0 : Int32) :
    own_Go p.tables e below (T.setTop (mkF m 85 #[.val (.int v0)] [])) (own_QR s n0 0 0 (own_RI h (f7_85 v0))) := by
  unfold f7_85
  refine own_iloadN C A own_d7_85 rfl rfl ?_
  refine own_sipush C A own_d7_86 (v := 240) rfl rfl ?_
  refine own_ite (fun hc89 => ?_) (fun hc89 => ?_)
  · refine own_icmpY C A own_d7_89 (Jvm.Free.XT.ii_lt_t hc89) (by decide) (q := 136) (by decide) ?_
    refine own_iconst C A own_d7_136 (v := -1) rfl rfl ?_
    exact own_retI C A own_d7_137 ⟨rfl, rfl⟩
  · refine own_icmpN C A own_d7_89 (Jvm.Free.XT.ii_lt_f hc89) rfl ?_
    refine own_iloadN C A own_d7_92 rfl rfl ?_
    refine own_sipush C A own_d7_93 (v := 244) rfl rfl ?_
    refine own_ite (fun hc96 => ?_) (fun hc96 => ?_)
    · refine own_icmpY C A own_d7_96 (Jvm.Free.XT.ii_gt_t hc96) (by decide) (q := 136) (by decide) ?_
      refine own_iconst C A own_d7_136 (v := -1) rfl rfl ?_
      exact own_retI C A own_d7_137 ⟨rfl, rfl⟩
    · refine own_icmpN C A own_d7_96 (Jvm.Free.XT.ii_gt_f hc96) rfl ?_
      refine own_iconst C A own_d7_99 (v := 3) rfl rfl ?_
      refine own_iloadN C A own_d7_100 rfl rfl ?_
      refine own_sipush C A own_d7_101 (v := 240) rfl rfl ?_
      refine own_ite (fun hc104 => ?_) (fun hc104 => ?_)
      · refine own_icmpN C A own_d7_104 (Jvm.Free.XT.ii_ne_f hc104) rfl ?_
        refine own_sipush C A own_d7_107 (v := 144) rfl rfl ?_
        refine own_goto C A own_d7_110 (by decide) (q := 116) (by decide) ?_
        exact w7_116 C A v0 (3 : Int32) (144 : Int32)
      · refine own_icmpY C A own_d7_104 (Jvm.Free.XT.ii_ne_t hc104) (by decide) (q := 113) (by decide) ?_
        refine own_sipush C A own_d7_113 (v := 128) rfl rfl ?_
        exact w7_116 C A v0 (3 : Int32) (128 : Int32)
def f7_81 (s0 : Int32) (s1 : Int32) (s2 : Int32) : Int32 := (f6_0 s0 s1 s2)
set_option maxRecDepth 65536 in
set_option maxHeartbeats 4000000 in
theorem w7_81 {Z : State} {a0 : Array Value} {p : Program} {l : Launch} {e : Env} {s : State} {m : MethodId} {args : Array Value} {below : List Frame} {meth : Method} {c : Code} {T : State} {h : Heap} {n0 : Nat} {u0 : Int32} (C : own_Cx Z a0 p l e own_R7 s m args below meth c "com/example/tidemark/tidemark/table/Utf8" "afterLead" prog_129_method_7_code 1 (some .int)) (A : own_At p l e own_R7 s m args below meth c T h n0 0 0) (s0 : Int32) (s1 : Int32) (s2 : Int32) :
    own_Go p.tables e below (T.setTop (mkF m 81 #[.val (.int u0)] [(.int s2), (.int s1), (.int s0)])) (own_QR s n0 0 0 (own_RI h (f7_81 s0 s1 s2))) := by
  unfold f7_81
  refine own_callSI C A 0 [(.int s0), (.int s1), (.int s2)] [] (own_w C 68 rfl) (own_w C 69 rfl) (own_w C 60 rfl) (own_w C 70 rfl) (by decide) (rm6 l Z a0 C.2.2.2.2.2.2.2.2 [] s0 s1 s2 _ _ (own_size A)) rfl rfl (by decide) (by decide) (by decide) (by decide) own_pd1 rfl rfl rfl (Nat.le_of_eq rfl) rfl own_d7_81 rfl (fun T A => ?_)
  exact own_retI C A own_d7_84 ⟨rfl, rfl⟩
def f7_65 (v0 : Int32) (s0 : Int32) (s1 : Int32) : Int32 := (if v0 = (237 : Int32) then (f7_81 s0 s1 (159 : Int32)) else (f7_81 s0 s1 (191 : Int32)))
set_option maxRecDepth 65536 in
set_option maxHeartbeats 4000000 in
theorem w7_65 {Z : State} {a0 : Array Value} {p : Program} {l : Launch} {e : Env} {s : State} {m : MethodId} {args : Array Value} {below : List Frame} {meth : Method} {c : Code} {T : State} {h : Heap} {n0 : Nat}  (C : own_Cx Z a0 p l e own_R7 s m args below meth c "com/example/tidemark/tidemark/table/Utf8" "afterLead" prog_129_method_7_code 1 (some .int)) (A : own_At p l e own_R7 s m args below meth c T h n0 0 0) (v0 : Int32) (s0 : Int32) (s1 : Int32) :
    own_Go p.tables e below (T.setTop (mkF m 65 #[.val (.int v0)] [(.int s1), (.int s0)])) (own_QR s n0 0 0 (own_RI h (f7_65 v0 s0 s1))) := by
  unfold f7_65
  refine own_iloadN C A own_d7_65 rfl rfl ?_
  refine own_sipush C A own_d7_66 (v := 237) rfl rfl ?_
  refine own_ite (fun hc69 => ?_) (fun hc69 => ?_)
  · refine own_icmpN C A own_d7_69 (Jvm.Free.XT.ii_ne_f hc69) rfl ?_
    refine own_sipush C A own_d7_72 (v := 159) rfl rfl ?_
    refine own_goto C A own_d7_75 (by decide) (q := 81) (by decide) ?_
    exact w7_81 C A s0 s1 (159 : Int32)
  · refine own_icmpY C A own_d7_69 (Jvm.Free.XT.ii_ne_t hc69) (by decide) (q := 78) (by decide) ?_
    refine own_sipush C A own_d7_78 (v := 191) rfl rfl ?_
    exact w7_81 C A s0 s1 (191 : Int32)
def f7_34 (v0 : Int32) : Int32 := (if v0 < (224 : Int32) then (f7_85 v0) else (if (239 : Int32) < v0 then (f7_85 v0) else (if v0 = (224 : Int32) then (f7_65 v0 (2 : Int32) (160 : Int32)) else (f7_65 v0 (2 : Int32) (128 : Int32)))))
set_option maxRecDepth 65536 in
set_option maxHeartbeats 4000000 in
theorem w7_34 {Z : State} {a0 : Array Value} {p : Program} {l : Launch} {e : Env} {s : State} {m : MethodId} {args : Array Value} {below : List Frame} {meth : Method} {c : Code} {T : State} {h : Heap} {n0 : Nat}  (C : own_Cx Z a0 p l e own_R7 s m args below meth c "com/example/tidemark/tidemark/table/Utf8" "afterLead" prog_129_method_7_code 1 (some .int)) (A : own_At p l e own_R7 s m args below meth c T h n0 0 0) (v0 : Int32) :
    own_Go p.tables e below (T.setTop (mkF m 34 #[.val (.int v0)] [])) (own_QR s n0 0 0 (own_RI h (f7_34 v0))) := by
  unfold f7_34
  refine own_iloadN C A own_d7_34 rfl rfl ?_
  refine own_sipush C A own_d7_35 (v := 224) rfl rfl ?_
  refine own_ite (fun hc38 => ?_) (fun hc38 => ?_)
  · refine own_icmpY C A own_d7_38 (Jvm.Free.XT.ii_lt_t hc38) (by decide) (q := 85) (by decide) ?_
    exact w7_85 C A v0
  · refine own_icmpN C A own_d7_38 (Jvm.Free.XT.ii_lt_f hc38) rfl ?_
    refine own_iloadN C A own_d7_41 rfl rfl ?_
    refine own_sipush C A own_d7_42 (v := 239) rfl rfl ?_
    refine own_ite (fun hc45 => ?_) (fun hc45 => ?_)
    · refine own_icmpY C A own_d7_45 (Jvm.Free.XT.ii_gt_t hc45) (by decide) (q := 85) (by decide) ?_
      exact w7_85 C A v0
    · refine own_icmpN C A own_d7_45 (Jvm.Free.XT.ii_gt_f hc45) rfl ?_
      refine own_iconst C A own_d7_48 (v := 2) rfl rfl ?_
      refine own_iloadN C A own_d7_49 rfl rfl ?_
      refine own_sipush C A own_d7_50 (v := 224) rfl rfl ?_
      refine own_ite (fun hc53 => ?_) (fun hc53 => ?_)
      · refine own_icmpN C A own_d7_53 (Jvm.Free.XT.ii_ne_f hc53) rfl ?_
        refine own_sipush C A own_d7_56 (v := 160) rfl rfl ?_
        refine own_goto C A own_d7_59 (by decide) (q := 65) (by decide) ?_
        exact w7_65 C A v0 (2 : Int32) (160 : Int32)
      · refine own_icmpY C A own_d7_53 (Jvm.Free.XT.ii_ne_t hc53) (by decide) (q := 62) (by decide) ?_
        refine own_sipush C A own_d7_62 (v := 128) rfl rfl ?_
        exact w7_65 C A v0 (2 : Int32) (128 : Int32)
def f7_0 (v0 : Int32) : Int32 := (if v0 < (128 : Int32) then (0 : Int32) else (if v0 < (194 : Int32) then (f7_34 v0) else (if (223 : Int32) < v0 then (f7_34 v0) else (f6_0 (1 : Int32) (128 : Int32) (191 : Int32)))))
set_option maxRecDepth 65536 in
set_option maxHeartbeats 4000000 in
theorem w7_0 {Z : State} {a0 : Array Value} {p : Program} {l : Launch} {e : Env} {s : State} {m : MethodId} {args : Array Value} {below : List Frame} {meth : Method} {c : Code} {T : State} {h : Heap} {n0 : Nat}  (C : own_Cx Z a0 p l e own_R7 s m args below meth c "com/example/tidemark/tidemark/table/Utf8" "afterLead" prog_129_method_7_code 1 (some .int)) (A : own_At p l e own_R7 s m args below meth c T h n0 0 0) (v0 : Int32) :
    own_Go p.tables e below (T.setTop (mkF m 0 #[.val (.int v0)] [])) (own_QR s n0 0 0 (own_RI h (f7_0 v0))) := by
  unfold f7_0
  refine own_iloadN C A own_d7_0 rfl rfl ?_
  refine own_sipush C A own_d7_1 (v := 128) rfl rfl ?_
  refine own_ite (fun hc4 => ?_) (fun hc4 => ?_)
  · refine own_icmpN C A own_d7_4 (Jvm.Free.XT.ii_ge_f hc4) rfl ?_
    refine own_iconst C A own_d7_7 (v := 0) rfl rfl ?_
    exact own_retI C A own_d7_8 ⟨rfl, rfl⟩
  · refine own_icmpY C A own_d7_4 (Jvm.Free.XT.ii_ge_t hc4) (by decide) (q := 9) (by decide) ?_
    refine own_iloadN C A own_d7_9 rfl rfl ?_
    refine own_sipush C A own_d7_10 (v := 194) rfl rfl ?_
    refine own_ite (fun hc13 => ?_) (fun hc13 => ?_)
    · refine own_icmpY C A own_d7_13 (Jvm.Free.XT.ii_lt_t hc13) (by decide) (q := 34) (by decide) ?_
      exact w7_34 C A v0
    · refine own_icmpN C A own_d7_13 (Jvm.Free.XT.ii_lt_f hc13) rfl ?_
      refine own_iloadN C A own_d7_16 rfl rfl ?_
      refine own_sipush C A own_d7_17 (v := 223) rfl rfl ?_
      refine own_ite (fun hc20 => ?_) (fun hc20 => ?_)
      · refine own_icmpY C A own_d7_20 (Jvm.Free.XT.ii_gt_t hc20) (by decide) (q := 34) (by decide) ?_
        exact w7_34 C A v0
      · refine own_icmpN C A own_d7_20 (Jvm.Free.XT.ii_gt_f hc20) rfl ?_
        refine own_iconst C A own_d7_23 (v := 1) rfl rfl ?_
        refine own_sipush C A own_d7_24 (v := 128) rfl rfl ?_
        refine own_sipush C A own_d7_27 (v := 191) rfl rfl ?_
        refine own_callSI C A 0 [(.int (1 : Int32)), (.int (128 : Int32)), (.int (191 : Int32))] [] (own_w C 68 rfl) (own_w C 69 rfl) (own_w C 60 rfl) (own_w C 70 rfl) (by decide) (rm6 l Z a0 C.2.2.2.2.2.2.2.2 [] (1 : Int32) (128 : Int32) (191 : Int32) _ _ (own_size A)) rfl rfl (by decide) (by decide) (by decide) (by decide) own_pd1 rfl rfl rfl (Nat.le_of_eq rfl) rfl own_d7_30 rfl (fun T A => ?_)
        exact own_retI C A own_d7_33 ⟨rfl, rfl⟩
theorem own_ef7 (m : MethodId) (v0 : Int32) : entryFrame m #[(.int v0)] 1 = mkF m 0 #[.val (.int v0)] [] := by first | (simp [entryFrame, mkF, argsToLocals, Value.category]; done) | rfl
theorem rm7 (l : Launch) (Z : State) (a0 : Array Value) (hw : ∀ d ∈ tables_1, d.before a0 Z = true) (ws : List Jvm.Cond) (v0 : Int32) (h : Heap) (n0 : Nat) (hn : n0 ≤ h.size) :
    MetFree l (⟨"com/example/tidemark/tidemark/table/Utf8", "afterLead", "(I)I"⟩ : MethodName) (head1 (Jvm.Cond.code (⟨"com/example/tidemark/tidemark/table/Utf8", "afterLead", "(I)I"⟩ : MethodName) prog_129_method_7_code 1 (some .int) :: ws) own_R7) (fun a U => a = #[(.int v0)] ∧ Z.Warmed39 U.vm ∧ U.heap = h) (fun _ _ _ _ _ => True) (fun _ U o U' => own_QR U n0 0 0 (own_RI h (f7_0 v0)) o U') :=
  own_met (plainFor_of_name (by first | (simp [plainName, overriddenIn]; done) | decide +kernel)) hw hn (fun m => own_ef7 m v0) (fun p e s m below meth c T C A => w7_0 C A v0)
/-! Utf8.next -/
theorem own_d8_0 : decode prog_129_method_6_code 0 = .ok (.iload_n 0, 1) := by decide +kernel
theorem own_d8_1 : decode prog_129_method_6_code 1 = .ok (.ifCond .ne 8, 3) := by decide +kernel
theorem own_d8_4 : decode prog_129_method_6_code 4 = .ok (.iload_n 1, 1) := by decide +kernel
theorem own_d8_5 : decode prog_129_method_6_code 5 = .ok (.invokestatic 80, 3) := by decide +kernel
theorem own_d8_8 : decode prog_129_method_6_code 8 = .ok (.ireturn, 1) := by decide +kernel
theorem own_d8_9 : decode prog_129_method_6_code 9 = .ok (.iload_n 0, 1) := by decide +kernel
theorem own_d8_10 : decode prog_129_method_6_code 10 = .ok (.bipush 8, 2) := by decide +kernel
theorem own_d8_12 : decode prog_129_method_6_code 12 = .ok (.ishr, 1) := by decide +kernel
theorem own_d8_13 : decode prog_129_method_6_code 13 = .ok (.sipush 255, 3) := by decide +kernel
theorem own_d8_16 : decode prog_129_method_6_code 16 = .ok (.iand, 1) := by decide +kernel
theorem own_d8_17 : decode prog_129_method_6_code 17 = .ok (.istore_n 2, 1) := by decide +kernel
theorem own_d8_18 : decode prog_129_method_6_code 18 = .ok (.iload_n 0, 1) := by decide +kernel
theorem own_d8_19 : decode prog_129_method_6_code 19 = .ok (.sipush 255, 3) := by decide +kernel
theorem own_d8_22 : decode prog_129_method_6_code 22 = .ok (.iand, 1) := by decide +kernel
theorem own_d8_23 : decode prog_129_method_6_code 23 = .ok (.istore_n 3, 1) := by decide +kernel
theorem own_d8_24 : decode prog_129_method_6_code 24 = .ok (.iload_n 1, 1) := by decide +kernel
theorem own_d8_25 : decode prog_129_method_6_code 25 = .ok (.iload_n 2, 1) := by decide +kernel
theorem own_d8_26 : decode prog_129_method_6_code 26 = .ok (.if_icmp .lt 8, 3) := by decide +kernel
theorem own_d8_29 : decode prog_129_method_6_code 29 = .ok (.iload_n 1, 1) := by decide +kernel
theorem own_d8_30 : decode prog_129_method_6_code 30 = .ok (.iload_n 3, 1) := by decide +kernel
theorem own_d8_31 : decode prog_129_method_6_code 31 = .ok (.if_icmp .le 5, 3) := by decide +kernel
theorem own_d8_34 : decode prog_129_method_6_code 34 = .ok (.iconst (-1), 1) := by decide +kernel
theorem own_d8_35 : decode prog_129_method_6_code 35 = .ok (.ireturn, 1) := by decide +kernel
theorem own_d8_36 : decode prog_129_method_6_code 36 = .ok (.iload_n 0, 1) := by decide +kernel
theorem own_d8_37 : decode prog_129_method_6_code 37 = .ok (.bipush 16, 2) := by decide +kernel
theorem own_d8_39 : decode prog_129_method_6_code 39 = .ok (.ishr, 1) := by decide +kernel
theorem own_d8_40 : decode prog_129_method_6_code 40 = .ok (.istore 4, 2) := by decide +kernel
theorem own_d8_42 : decode prog_129_method_6_code 42 = .ok (.iload 4, 2) := by decide +kernel
theorem own_d8_44 : decode prog_129_method_6_code 44 = .ok (.iconst 1, 1) := by decide +kernel
theorem own_d8_45 : decode prog_129_method_6_code 45 = .ok (.if_icmp .ne 7, 3) := by decide +kernel
theorem own_d8_48 : decode prog_129_method_6_code 48 = .ok (.iconst 0, 1) := by decide +kernel
theorem own_d8_49 : decode prog_129_method_6_code 49 = .ok (.goto 16, 3) := by decide +kernel
theorem own_d8_52 : decode prog_129_method_6_code 52 = .ok (.iload 4, 2) := by decide +kernel
theorem own_d8_54 : decode prog_129_method_6_code 54 = .ok (.iconst 1, 1) := by decide +kernel
theorem own_d8_55 : decode prog_129_method_6_code 55 = .ok (.isub, 1) := by decide +kernel
theorem own_d8_56 : decode prog_129_method_6_code 56 = .ok (.sipush 128, 3) := by decide +kernel
theorem own_d8_59 : decode prog_129_method_6_code 59 = .ok (.sipush 191, 3) := by decide +kernel
theorem own_d8_62 : decode prog_129_method_6_code 62 = .ok (.invokestatic 83, 3) := by decide +kernel
theorem own_d8_65 : decode prog_129_method_6_code 65 = .ok (.ireturn, 1) := by decide +kernel
def own_R8 : Room := { frames := 2, cells := 0, slots := 0, locals := 26 }
def f8_0 (v0 : Int32) (v1 : Int32) : Int32 := (if v0 = (0 : Int32) then (f7_0 v1) else (if v1 < ((v0 >>> ((8 : Int32) &&& 31)) &&& (255 : Int32)) then (-1 : Int32) else (if (v0 &&& (255 : Int32)) < v1 then (-1 : Int32) else (if (v0 >>> ((16 : Int32) &&& 31)) = (1 : Int32) then (0 : Int32) else (f6_0 ((v0 >>> ((16 : Int32) &&& 31)) - (1 : Int32)) (128 : Int32) (191 : Int32))))))
set_option maxRecDepth 65536 in
set_option maxHeartbeats 4000000 in
theorem w8_0 {Z : State} {a0 : Array Value} {p : Program} {l : Launch} {e : Env} {s : State} {m : MethodId} {args : Array Value} {below : List Frame} {meth : Method} {c : Code} {T : State} {h : Heap} {n0 : Nat}  (C : own_Cx Z a0 p l e own_R8 s m args below meth c "com/example/tidemark/tidemark/table/Utf8" "next" prog_129_method_6_code 5 (some .int)) (A : own_At p l e own_R8 s m args below meth c T h n0 0 0) (v0 : Int32) (v1 : Int32) :
    own_Go p.tables e below (T.setTop (mkF m 0 #[.val (.int v0), .val (.int v1), .unset, .unset, .unset] [])) (own_QR s n0 0 0 (own_RI h (f8_0 v0 v1))) := by
  unfold f8_0
  refine own_iloadN C A own_d8_0 rfl rfl ?_
  refine own_ite (fun hc1 => ?_) (fun hc1 => ?_)
  · refine own_ifN C A own_d8_1 (Jvm.Free.XT.i0_ne_f hc1) rfl ?_
    refine own_iloadN C A own_d8_4 rfl rfl ?_
    refine own_callSI C A 0 [(.int v1)] [] (own_w C 65 rfl) (own_w C 66 rfl) (own_w C 60 rfl) (own_w C 67 rfl) (by decide) (rm7 l Z a0 C.2.2.2.2.2.2.2.2 [] v1 _ _ (own_size A)) rfl rfl (by decide) (by decide) (by decide) (by decide) own_pd2 rfl rfl rfl (Nat.le_of_eq rfl) rfl own_d8_5 rfl (fun T A => ?_)
    exact own_retI C A own_d8_8 ⟨rfl, rfl⟩
  · refine own_ifY C A own_d8_1 (Jvm.Free.XT.i0_ne_t hc1) (by decide) (q := 9) (by decide) ?_
    refine own_iloadN C A own_d8_9 rfl rfl ?_
    refine own_bipush C A own_d8_10 (v := 8) rfl rfl ?_
    refine own_ishr C A own_d8_12 rfl ?_
    refine own_sipush C A own_d8_13 (v := 255) rfl rfl ?_
    refine own_iand C A own_d8_16 rfl ?_
    refine own_istoreN C A own_d8_17 (l' := #[.val (.int v0), .val (.int v1), .val (.int ((v0 >>> ((8 : Int32) &&& 31)) &&& (255 : Int32))), .unset, .unset]) rfl rfl ?_
    refine own_iloadN C A own_d8_18 rfl rfl ?_
    refine own_sipush C A own_d8_19 (v := 255) rfl rfl ?_
    refine own_iand C A own_d8_22 rfl ?_
    refine own_istoreN C A own_d8_23 (l' := #[.val (.int v0), .val (.int v1), .val (.int ((v0 >>> ((8 : Int32) &&& 31)) &&& (255 : Int32))), .val (.int (v0 &&& (255 : Int32))), .unset]) rfl rfl ?_
    refine own_iloadN C A own_d8_24 rfl rfl ?_
    refine own_iloadN C A own_d8_25 rfl rfl ?_
    refine own_ite (fun hc26 => ?_) (fun hc26 => ?_)
    · refine own_icmpY C A own_d8_26 (Jvm.Free.XT.ii_lt_t hc26) (by decide) (q := 34) (by decide) ?_
      refine own_iconst C A own_d8_34 (v := -1) rfl rfl ?_
      exact own_retI C A own_d8_35 ⟨rfl, rfl⟩
    · refine own_icmpN C A own_d8_26 (Jvm.Free.XT.ii_lt_f hc26) rfl ?_
      refine own_iloadN C A own_d8_29 rfl rfl ?_
      refine own_iloadN C A own_d8_30 rfl rfl ?_
      refine own_ite (fun hc31 => ?_) (fun hc31 => ?_)
      · refine own_icmpN C A own_d8_31 (Jvm.Free.XT.ii_le_f hc31) rfl ?_
        refine own_iconst C A own_d8_34 (v := -1) rfl rfl ?_
        exact own_retI C A own_d8_35 ⟨rfl, rfl⟩
      · refine own_icmpY C A own_d8_31 (Jvm.Free.XT.ii_le_t hc31) (by decide) (q := 36) (by decide) ?_
        refine own_iloadN C A own_d8_36 rfl rfl ?_
        refine own_bipush C A own_d8_37 (v := 16) rfl rfl ?_
        refine own_ishr C A own_d8_39 rfl ?_
        refine own_istore C A own_d8_40 (l' := #[.val (.int v0), .val (.int v1), .val (.int ((v0 >>> ((8 : Int32) &&& 31)) &&& (255 : Int32))), .val (.int (v0 &&& (255 : Int32))), .val (.int (v0 >>> ((16 : Int32) &&& 31)))]) rfl rfl ?_
        refine own_iload C A own_d8_42 rfl rfl ?_
        refine own_iconst C A own_d8_44 (v := 1) rfl rfl ?_
        refine own_ite (fun hc45 => ?_) (fun hc45 => ?_)
        · refine own_icmpN C A own_d8_45 (Jvm.Free.XT.ii_ne_f hc45) rfl ?_
          refine own_iconst C A own_d8_48 (v := 0) rfl rfl ?_
          refine own_goto C A own_d8_49 (by decide) (q := 65) (by decide) ?_
          exact own_retI C A own_d8_65 ⟨rfl, rfl⟩
        · refine own_icmpY C A own_d8_45 (Jvm.Free.XT.ii_ne_t hc45) (by decide) (q := 52) (by decide) ?_
          refine own_iload C A own_d8_52 rfl rfl ?_
          refine own_iconst C A own_d8_54 (v := 1) rfl rfl ?_
          refine own_isub C A own_d8_55 rfl ?_
          refine own_sipush C A own_d8_56 (v := 128) rfl rfl ?_
          refine own_sipush C A own_d8_59 (v := 191) rfl rfl ?_
          refine own_callSI C A 0 [(.int ((v0 >>> ((16 : Int32) &&& 31)) - (1 : Int32))), (.int (128 : Int32)), (.int (191 : Int32))] [] (own_w C 68 rfl) (own_w C 69 rfl) (own_w C 60 rfl) (own_w C 70 rfl) (by decide) (rm6 l Z a0 C.2.2.2.2.2.2.2.2 [] ((v0 >>> ((16 : Int32) &&& 31)) - (1 : Int32)) (128 : Int32) (191 : Int32) _ _ (own_size A)) rfl rfl (by decide) (by decide) (by decide) (by decide) own_pd1 rfl rfl rfl (Nat.le_of_eq rfl) rfl own_d8_62 rfl (fun T A => ?_)
          exact own_retI C A own_d8_65 ⟨rfl, rfl⟩
theorem own_ef8 (m : MethodId) (v0 : Int32) (v1 : Int32) : entryFrame m #[(.int v0), (.int v1)] 5 = mkF m 0 #[.val (.int v0), .val (.int v1), .unset, .unset, .unset] [] := by first | (simp [entryFrame, mkF, argsToLocals, Value.category]; done) | rfl
theorem rm8 (l : Launch) (Z : State) (a0 : Array Value) (hw : ∀ d ∈ tables_1, d.before a0 Z = true) (ws : List Jvm.Cond) (v0 : Int32) (v1 : Int32) (h : Heap) (n0 : Nat) (hn : n0 ≤ h.size) :
    MetFree l (⟨"com/example/tidemark/tidemark/table/Utf8", "next", "(II)I"⟩ : MethodName) (head1 (Jvm.Cond.code (⟨"com/example/tidemark/tidemark/table/Utf8", "next", "(II)I"⟩ : MethodName) prog_129_method_6_code 5 (some .int) :: ws) own_R8) (fun a U => a = #[(.int v0), (.int v1)] ∧ Z.Warmed39 U.vm ∧ U.heap = h) (fun _ _ _ _ _ => True) (fun _ U o U' => own_QR U n0 0 0 (own_RI h (f8_0 v0 v1)) o U') :=
  own_met (plainFor_of_name (by first | (simp [plainName, overriddenIn]; done) | decide +kernel)) hw hn (fun m => own_ef8 m v0 v1) (fun p e s m below meth c T C A => w8_0 C A v0 v1)
/-! Utf8.isWellFormed -/
theorem own_d9_0 : decode prog_129_method_5_code 0 = .ok (.iconst 0, 1) := by decide +kernel
theorem own_d9_1 : decode prog_129_method_5_code 1 = .ok (.istore_n 3, 1) := by decide +kernel
theorem own_d9_2 : decode prog_129_method_5_code 2 = .ok (.iload_n 1, 1) := by decide +kernel
theorem own_d9_3 : decode prog_129_method_5_code 3 = .ok (.istore 4, 2) := by decide +kernel
theorem own_d9_5 : decode prog_129_method_5_code 5 = .ok (.iload 4, 2) := by decide +kernel
theorem own_d9_7 : decode prog_129_method_5_code 7 = .ok (.iload_n 2, 1) := by decide +kernel
theorem own_d9_8 : decode prog_129_method_5_code 8 = .ok (.if_icmp .ge 27, 3) := by decide +kernel
theorem own_d9_11 : decode prog_129_method_5_code 11 = .ok (.iload_n 3, 1) := by decide +kernel
theorem own_d9_12 : decode prog_129_method_5_code 12 = .ok (.iconst (-1), 1) := by decide +kernel
theorem own_d9_13 : decode prog_129_method_5_code 13 = .ok (.if_icmp .eq 22, 3) := by decide +kernel
theorem own_d9_16 : decode prog_129_method_5_code 16 = .ok (.iload_n 3, 1) := by decide +kernel
theorem own_d9_17 : decode prog_129_method_5_code 17 = .ok (.aload_n 0, 1) := by decide +kernel
theorem own_d9_18 : decode prog_129_method_5_code 18 = .ok (.iload 4, 2) := by decide +kernel
theorem own_d9_20 : decode prog_129_method_5_code 20 = .ok (.baload, 1) := by decide +kernel
theorem own_d9_21 : decode prog_129_method_5_code 21 = .ok (.sipush 255, 3) := by decide +kernel
theorem own_d9_24 : decode prog_129_method_5_code 24 = .ok (.iand, 1) := by decide +kernel
theorem own_d9_25 : decode prog_129_method_5_code 25 = .ok (.invokestatic 76, 3) := by decide +kernel
theorem own_d9_28 : decode prog_129_method_5_code 28 = .ok (.istore_n 3, 1) := by decide +kernel
theorem own_d9_29 : decode prog_129_method_5_code 29 = .ok (.iinc 4 1, 3) := by decide +kernel
theorem own_d9_32 : decode prog_129_method_5_code 32 = .ok (.goto (-27), 3) := by decide +kernel
theorem own_d9_35 : decode prog_129_method_5_code 35 = .ok (.iload_n 3, 1) := by decide +kernel
theorem own_d9_36 : decode prog_129_method_5_code 36 = .ok (.ifCond .ne 7, 3) := by decide +kernel
theorem own_d9_39 : decode prog_129_method_5_code 39 = .ok (.iconst 1, 1) := by decide +kernel
theorem own_d9_40 : decode prog_129_method_5_code 40 = .ok (.goto 4, 3) := by decide +kernel
theorem own_d9_43 : decode prog_129_method_5_code 43 = .ok (.iconst 0, 1) := by decide +kernel
theorem own_d9_44 : decode prog_129_method_5_code 44 = .ok (.ireturn, 1) := by decide +kernel
def own_R9 : Room := { frames := 3, cells := 0, slots := 0, locals := 42 }
def f9_35 (v3 : Int32) : Int32 := (if v3 = (0 : Int32) then (1 : Int32) else (0 : Int32))
set_option maxRecDepth 65536 in
set_option maxHeartbeats 4000000 in
theorem w9_35 {Z : State} {a0 : Array Value} {p : Program} {l : Launch} {e : Env} {s : State} {m : MethodId} {args : Array Value} {below : List Frame} {meth : Method} {c : Code} {T : State} {h : Heap} {n0 : Nat} {v0 : Addr} {u1 : Int32} {u2 : Int32} {u4 : Int32} (C : own_Cx Z a0 p l e own_R9 s m args below meth c "com/example/tidemark/tidemark/table/Utf8" "isWellFormed" prog_129_method_5_code 5 (some .boolean)) (A : own_At p l e own_R9 s m args below meth c T h n0 0 0) (v3 : Int32) :
    own_Go p.tables e below (T.setTop (mkF m 35 #[.val (.ref v0), .val (.int u1), .val (.int u2), .val (.int v3), .val (.int u4)] [])) (own_QR s n0 0 0 (own_RI h (f9_35 v3))) := by
  unfold f9_35
  refine own_iloadN C A own_d9_35 rfl rfl ?_
  refine own_ite (fun hc36 => ?_) (fun hc36 => ?_)
  · refine own_ifN C A own_d9_36 (Jvm.Free.XT.i0_ne_f hc36) rfl ?_
    refine own_iconst C A own_d9_39 (v := 1) rfl rfl ?_
    refine own_goto C A own_d9_40 (by decide) (q := 44) (by decide) ?_
    exact own_retN C A (t := .boolean) (by simp) own_d9_44 ⟨rfl, rfl⟩
  · refine own_ifY C A own_d9_36 (Jvm.Free.XT.i0_ne_t hc36) (by decide) (q := 43) (by decide) ?_
    refine own_iconst C A own_d9_43 (v := 0) rfl rfl ?_
    exact own_retN C A (t := .boolean) (by simp) own_d9_44 ⟨rfl, rfl⟩
def f9_5 (fuel : Nat) (v2 : Int32) (v3 : Int32) (v4 : Int32) (xs_v0 : List Int32) : Int32 := match fuel with
  | 0 => 0
  | fuel + 1 => (if v4 < v2 then (if v3 = (-1 : Int32) then (f9_35 v3) else (f9_5 fuel v2 (f8_0 v3 ((xs_v0.getD (v4).toNatClampNeg 0) &&& (255 : Int32))) (v4 + (1 : Int32)) xs_v0)) else (f9_35 v3))
theorem f9_5_succ (fuel : Nat) (v2 : Int32) (v3 : Int32) (v4 : Int32) (xs_v0 : List Int32) : f9_5 (fuel + 1) v2 v3 v4 xs_v0 = (if v4 < v2 then (if v3 = (-1 : Int32) then (f9_35 v3) else (f9_5 fuel v2 (f8_0 v3 ((xs_v0.getD (v4).toNatClampNeg 0) &&& (255 : Int32))) (v4 + (1 : Int32)) xs_v0)) else (f9_35 v3)) := rfl
set_option maxRecDepth 65536 in
set_option maxHeartbeats 4000000 in
theorem w9_5 {Z : State} {a0 : Array Value} {p : Program} {l : Launch} {e : Env} {s : State} {m : MethodId} {args : Array Value} {below : List Frame} {meth : Method} {c : Code} {n0 : Nat} (C : own_Cx Z a0 p l e own_R9 s m args below meth c "com/example/tidemark/tidemark/table/Utf8" "isWellFormed" prog_129_method_5_code 5 (some .boolean)) (fuel : Nat) : ∀ {T : State} {h : Heap} {v0 : Addr} {u1 : Int32} (A : own_At p l e own_R9 s m args below meth c T h n0 0 0) (v2 : Int32) (v3 : Int32) (v4 : Int32) (xs_v0 : List Int32) (V_v0 : own_Ia Z h v0 .byte (40 : Int32) xs_v0) (ha : ¬ v4 < 0) (he : ¬ 40 < v2) (hm : (v2.toInt - v4.toInt).toNat < fuel),
    own_Go p.tables e below (T.setTop (mkF m 5 #[.val (.ref v0), .val (.int u1), .val (.int v2), .val (.int v3), .val (.int v4)] [])) (own_QR s n0 0 0 (own_RI h (f9_5 fuel v2 v3 v4 xs_v0))) := by
  induction fuel with
  | zero => intro T h v0 u1 A v2 v3 v4 xs_v0 V_v0 ha he hm; exact absurd hm (by omega)
  | succ fuel ih =>
    intro T h v0 u1 A v2 v3 v4 xs_v0 V_v0 ha he hm
    rw [f9_5_succ]
    refine own_iload C A own_d9_5 rfl rfl ?_
    refine own_iloadN C A own_d9_7 rfl rfl ?_
    refine own_ite (fun hc8 => ?_) (fun hc8 => ?_)
    · refine own_icmpN C A own_d9_8 (Jvm.Free.XT.ii_ge_f hc8) rfl ?_
      refine own_iloadN C A own_d9_11 rfl rfl ?_
      refine own_iconst C A own_d9_12 (v := -1) rfl rfl ?_
      refine own_ite (fun hc13 => ?_) (fun hc13 => ?_)
      · refine own_icmpY C A own_d9_13 (Jvm.Free.XT.ii_eq_t hc13) (by decide) (q := 35) (by decide) ?_
        exact w9_35 C A v3
      · refine own_icmpN C A own_d9_13 (Jvm.Free.XT.ii_eq_f hc13) rfl ?_
        refine own_iloadN C A own_d9_16 rfl rfl ?_
        refine own_aloadN C A own_d9_17 rfl rfl rfl ?_
        refine own_iload C A own_d9_18 rfl rfl ?_
        refine own_baload C A V_v0 (own_at ha he hc8) (v := (xs_v0.getD (v4).toNatClampNeg 0)) rfl own_d9_20 rfl ?_
        refine own_sipush C A own_d9_21 (v := 255) rfl rfl ?_
        refine own_iand C A own_d9_24 rfl ?_
        refine own_callSI C A 0 [(.int v3), (.int ((xs_v0.getD (v4).toNatClampNeg 0) &&& (255 : Int32)))] [] (own_w C 62 rfl) (own_w C 63 rfl) (own_w C 60 rfl) (own_w C 64 rfl) (by decide) (rm8 l Z a0 C.2.2.2.2.2.2.2.2 [] v3 ((xs_v0.getD (v4).toNatClampNeg 0) &&& (255 : Int32)) _ _ (own_size A)) rfl rfl (by decide) (by decide) (by decide) (by decide) own_pd3 rfl rfl rfl (Nat.le_of_eq rfl) rfl own_d9_25 rfl (fun T A => ?_)
        refine own_istoreN C A own_d9_28 (l' := #[.val (.ref v0), .val (.int u1), .val (.int v2), .val (.int (f8_0 v3 ((xs_v0.getD (v4).toNatClampNeg 0) &&& (255 : Int32)))), .val (.int v4)]) rfl rfl ?_
        refine own_iinc C A own_d9_29 rfl (l' := #[.val (.ref v0), .val (.int u1), .val (.int v2), .val (.int (f8_0 v3 ((xs_v0.getD (v4).toNatClampNeg 0) &&& (255 : Int32)))), .val (.int (v4 + (1 : Int32)))]) rfl rfl ?_
        refine own_goto C A own_d9_32 (by decide) (q := 5) (by decide) ?_
        exact ih A v2 (f8_0 v3 ((xs_v0.getD (v4).toNatClampNeg 0) &&& (255 : Int32))) (v4 + (1 : Int32)) xs_v0 V_v0 (own_ha ha hc8) he (own_dec ha hc8 hm)
    · refine own_icmpY C A own_d9_8 (Jvm.Free.XT.ii_ge_t hc8) (by decide) (q := 35) (by decide) ?_
      exact w9_35 C A v3
def f9_0 (v1 : Int32) (v2 : Int32) (xs_v0 : List Int32) : Int32 := (f9_5 42 v2 (0 : Int32) v1 xs_v0)
set_option maxRecDepth 65536 in
set_option maxHeartbeats 4000000 in
theorem w9_0 {Z : State} {a0 : Array Value} {p : Program} {l : Launch} {e : Env} {s : State} {m : MethodId} {args : Array Value} {below : List Frame} {meth : Method} {c : Code} {T : State} {h : Heap} {n0 : Nat} {v0 : Addr} (C : own_Cx Z a0 p l e own_R9 s m args below meth c "com/example/tidemark/tidemark/table/Utf8" "isWellFormed" prog_129_method_5_code 5 (some .boolean)) (A : own_At p l e own_R9 s m args below meth c T h n0 0 0) (v1 : Int32) (v2 : Int32) (xs_v0 : List Int32) (V_v0 : own_Ia Z h v0 .byte (40 : Int32) xs_v0) (ha : ¬ v1 < 0) (he : ¬ 40 < v2) :
    own_Go p.tables e below (T.setTop (mkF m 0 #[.val (.ref v0), .val (.int v1), .val (.int v2), .unset, .unset] [])) (own_QR s n0 0 0 (own_RI h (f9_0 v1 v2 xs_v0))) := by
  unfold f9_0
  refine own_iconst C A own_d9_0 (v := 0) rfl rfl ?_
  refine own_istoreN C A own_d9_1 (l' := #[.val (.ref v0), .val (.int v1), .val (.int v2), .val (.int (0 : Int32)), .unset]) rfl rfl ?_
  refine own_iloadN C A own_d9_2 rfl rfl ?_
  refine own_istore C A own_d9_3 (l' := #[.val (.ref v0), .val (.int v1), .val (.int v2), .val (.int (0 : Int32)), .val (.int v1)]) rfl rfl ?_
  exact w9_5 C 42 A v2 (0 : Int32) v1 xs_v0 V_v0 ha he (own_enter ha he)
theorem own_ef9 (m : MethodId) (v0 : Addr) (v1 : Int32) (v2 : Int32) : entryFrame m #[(.ref v0), (.int v1), (.int v2)] 5 = mkF m 0 #[.val (.ref v0), .val (.int v1), .val (.int v2), .unset, .unset] [] := by first | (simp [entryFrame, mkF, argsToLocals, Value.category]; done) | rfl
theorem rm9 (l : Launch) (Z : State) (a0 : Array Value) (hw : ∀ d ∈ tables_1, d.before a0 Z = true) (ws : List Jvm.Cond) (v0 : Addr) (v1 : Int32) (v2 : Int32) (xs_v0 : List Int32) (h : Heap) (n0 : Nat) (hn : n0 ≤ h.size) (V_v0 : own_Ia Z h v0 .byte (40 : Int32) xs_v0) (ha : ¬ v1 < 0) (he : ¬ 40 < v2) :
    MetFree l (⟨"com/example/tidemark/tidemark/table/Utf8", "isWellFormed", "([BII)Z"⟩ : MethodName) (head1 (Jvm.Cond.code (⟨"com/example/tidemark/tidemark/table/Utf8", "isWellFormed", "([BII)Z"⟩ : MethodName) prog_129_method_5_code 5 (some .boolean) :: ws) own_R9) (fun a U => a = #[(.ref v0), (.int v1), (.int v2)] ∧ Z.Warmed39 U.vm ∧ U.heap = h) (fun _ _ _ _ _ => True) (fun _ U o U' => own_QR U n0 0 0 (own_RI h (f9_0 v1 v2 xs_v0)) o U') :=
  own_met (plainFor_of_name (by first | (simp [plainName, overriddenIn]; done) | decide +kernel)) hw hn (fun m => own_ef9 m v0 v1 v2) (fun p e s m below meth c T C A => w9_0 C A v1 v2 xs_v0 V_v0 ha he)
/-! PlainLine.textEnd -/
theorem own_d10_0 : decode prog_87_method_5_code 0 = .ok (.aload_n 0, 1) := by decide +kernel
theorem own_d10_1 : decode prog_87_method_5_code 1 = .ok (.iload_n 1, 1) := by decide +kernel
theorem own_d10_2 : decode prog_87_method_5_code 2 = .ok (.iload_n 2, 1) := by decide +kernel
theorem own_d10_3 : decode prog_87_method_5_code 3 = .ok (.bipush 34, 2) := by decide +kernel
theorem own_d10_5 : decode prog_87_method_5_code 5 = .ok (.invokevirtual 31, 3) := by decide +kernel
theorem own_d10_8 : decode prog_87_method_5_code 8 = .ok (.ifCond .ne 5, 3) := by decide +kernel
theorem own_d10_11 : decode prog_87_method_5_code 11 = .ok (.iconst (-1), 1) := by decide +kernel
theorem own_d10_12 : decode prog_87_method_5_code 12 = .ok (.ireturn, 1) := by decide +kernel
theorem own_d10_13 : decode prog_87_method_5_code 13 = .ok (.aload_n 0, 1) := by decide +kernel
theorem own_d10_14 : decode prog_87_method_5_code 14 = .ok (.getfield 13, 3) := by decide +kernel
theorem own_d10_17 : decode prog_87_method_5_code 17 = .ok (.astore_n 3, 1) := by decide +kernel
theorem own_d10_18 : decode prog_87_method_5_code 18 = .ok (.iload_n 1, 1) := by decide +kernel
theorem own_d10_19 : decode prog_87_method_5_code 19 = .ok (.iconst 1, 1) := by decide +kernel
theorem own_d10_20 : decode prog_87_method_5_code 20 = .ok (.iadd, 1) := by decide +kernel
theorem own_d10_21 : decode prog_87_method_5_code 21 = .ok (.istore 4, 2) := by decide +kernel
theorem own_d10_23 : decode prog_87_method_5_code 23 = .ok (.iload 4, 2) := by decide +kernel
theorem own_d10_25 : decode prog_87_method_5_code 25 = .ok (.istore 5, 2) := by decide +kernel
theorem own_d10_27 : decode prog_87_method_5_code 27 = .ok (.iconst 1, 1) := by decide +kernel
theorem own_d10_28 : decode prog_87_method_5_code 28 = .ok (.istore 6, 2) := by decide +kernel
theorem own_d10_30 : decode prog_87_method_5_code 30 = .ok (.iload 5, 2) := by decide +kernel
theorem own_d10_32 : decode prog_87_method_5_code 32 = .ok (.iload_n 2, 1) := by decide +kernel
theorem own_d10_33 : decode prog_87_method_5_code 33 = .ok (.if_icmp .ge 78, 3) := by decide +kernel
theorem own_d10_36 : decode prog_87_method_5_code 36 = .ok (.aload_n 3, 1) := by decide +kernel
theorem own_d10_37 : decode prog_87_method_5_code 37 = .ok (.iload 5, 2) := by decide +kernel
theorem own_d10_39 : decode prog_87_method_5_code 39 = .ok (.baload, 1) := by decide +kernel
theorem own_d10_40 : decode prog_87_method_5_code 40 = .ok (.istore 7, 2) := by decide +kernel
theorem own_d10_42 : decode prog_87_method_5_code 42 = .ok (.iload 7, 2) := by decide +kernel
theorem own_d10_44 : decode prog_87_method_5_code 44 = .ok (.bipush 34, 2) := by decide +kernel
theorem own_d10_46 : decode prog_87_method_5_code 46 = .ok (.if_icmp .le 13, 3) := by decide +kernel
theorem own_d10_49 : decode prog_87_method_5_code 49 = .ok (.iload 7, 2) := by decide +kernel
theorem own_d10_51 : decode prog_87_method_5_code 51 = .ok (.bipush 92, 2) := by decide +kernel
theorem own_d10_53 : decode prog_87_method_5_code 53 = .ok (.if_icmp .eq 6, 3) := by decide +kernel
theorem own_d10_56 : decode prog_87_method_5_code 56 = .ok (.goto 49, 3) := by decide +kernel
theorem own_d10_59 : decode prog_87_method_5_code 59 = .ok (.iload 7, 2) := by decide +kernel
theorem own_d10_61 : decode prog_87_method_5_code 61 = .ok (.bipush 34, 2) := by decide +kernel
theorem own_d10_63 : decode prog_87_method_5_code 63 = .ok (.if_icmp .ne 6, 3) := by decide +kernel
theorem own_d10_66 : decode prog_87_method_5_code 66 = .ok (.goto 45, 3) := by decide +kernel
theorem own_d10_69 : decode prog_87_method_5_code 69 = .ok (.iload 7, 2) := by decide +kernel
theorem own_d10_71 : decode prog_87_method_5_code 71 = .ok (.ifCond .lt 10, 3) := by decide +kernel
theorem own_d10_74 : decode prog_87_method_5_code 74 = .ok (.iload 7, 2) := by decide +kernel
theorem own_d10_76 : decode prog_87_method_5_code 76 = .ok (.bipush 32, 2) := by decide +kernel
theorem own_d10_78 : decode prog_87_method_5_code 78 = .ok (.if_icmp .lt 10, 3) := by decide +kernel
theorem own_d10_81 : decode prog_87_method_5_code 81 = .ok (.iload 7, 2) := by decide +kernel
theorem own_d10_83 : decode prog_87_method_5_code 83 = .ok (.bipush 92, 2) := by decide +kernel
theorem own_d10_85 : decode prog_87_method_5_code 85 = .ok (.if_icmp .ne 5, 3) := by decide +kernel
theorem own_d10_88 : decode prog_87_method_5_code 88 = .ok (.iconst (-1), 1) := by decide +kernel
theorem own_d10_89 : decode prog_87_method_5_code 89 = .ok (.ireturn, 1) := by decide +kernel
theorem own_d10_90 : decode prog_87_method_5_code 90 = .ok (.iload 6, 2) := by decide +kernel
theorem own_d10_92 : decode prog_87_method_5_code 92 = .ok (.iload 7, 2) := by decide +kernel
theorem own_d10_94 : decode prog_87_method_5_code 94 = .ok (.ifCond .lt 7, 3) := by decide +kernel
theorem own_d10_97 : decode prog_87_method_5_code 97 = .ok (.iconst 1, 1) := by decide +kernel
theorem own_d10_98 : decode prog_87_method_5_code 98 = .ok (.goto 4, 3) := by decide +kernel
theorem own_d10_101 : decode prog_87_method_5_code 101 = .ok (.iconst 0, 1) := by decide +kernel
theorem own_d10_102 : decode prog_87_method_5_code 102 = .ok (.iand, 1) := by decide +kernel
theorem own_d10_103 : decode prog_87_method_5_code 103 = .ok (.istore 6, 2) := by decide +kernel
theorem own_d10_105 : decode prog_87_method_5_code 105 = .ok (.iinc 5 1, 3) := by decide +kernel
theorem own_d10_108 : decode prog_87_method_5_code 108 = .ok (.goto (-78), 3) := by decide +kernel
theorem own_d10_111 : decode prog_87_method_5_code 111 = .ok (.iload 5, 2) := by decide +kernel
theorem own_d10_113 : decode prog_87_method_5_code 113 = .ok (.iload_n 2, 1) := by decide +kernel
theorem own_d10_114 : decode prog_87_method_5_code 114 = .ok (.if_icmp .ge 23, 3) := by decide +kernel
theorem own_d10_117 : decode prog_87_method_5_code 117 = .ok (.iload 6, 2) := by decide +kernel
theorem own_d10_119 : decode prog_87_method_5_code 119 = .ok (.ifCond .ne 14, 3) := by decide +kernel
theorem own_d10_122 : decode prog_87_method_5_code 122 = .ok (.aload_n 3, 1) := by decide +kernel
theorem own_d10_123 : decode prog_87_method_5_code 123 = .ok (.iload 4, 2) := by decide +kernel
theorem own_d10_125 : decode prog_87_method_5_code 125 = .ok (.iload 5, 2) := by decide +kernel
theorem own_d10_127 : decode prog_87_method_5_code 127 = .ok (.invokestatic 65, 3) := by decide +kernel
theorem own_d10_130 : decode prog_87_method_5_code 130 = .ok (.ifCond .eq 7, 3) := by decide +kernel
theorem own_d10_133 : decode prog_87_method_5_code 133 = .ok (.iconst 1, 1) := by decide +kernel
theorem own_d10_134 : decode prog_87_method_5_code 134 = .ok (.goto 4, 3) := by decide +kernel
theorem own_d10_137 : decode prog_87_method_5_code 137 = .ok (.iconst 0, 1) := by decide +kernel
theorem own_d10_138 : decode prog_87_method_5_code 138 = .ok (.istore 7, 2) := by decide +kernel
theorem own_d10_140 : decode prog_87_method_5_code 140 = .ok (.iload 7, 2) := by decide +kernel
theorem own_d10_142 : decode prog_87_method_5_code 142 = .ok (.ifCond .eq 10, 3) := by decide +kernel
theorem own_d10_145 : decode prog_87_method_5_code 145 = .ok (.iload 5, 2) := by decide +kernel
theorem own_d10_147 : decode prog_87_method_5_code 147 = .ok (.iconst 1, 1) := by decide +kernel
theorem own_d10_148 : decode prog_87_method_5_code 148 = .ok (.iadd, 1) := by decide +kernel
theorem own_d10_149 : decode prog_87_method_5_code 149 = .ok (.goto 4, 3) := by decide +kernel
theorem own_d10_152 : decode prog_87_method_5_code 152 = .ok (.iconst (-1), 1) := by decide +kernel
theorem own_d10_153 : decode prog_87_method_5_code 153 = .ok (.ireturn, 1) := by decide +kernel
def own_R10 : Room := { frames := 4, cells := 0, slots := 0, locals := 58 }
def f10_138 (v5 : Int32) (s0 : Int32) : Int32 := (if s0 = (0 : Int32) then (-1 : Int32) else (v5 + (1 : Int32)))
set_option maxRecDepth 65536 in
set_option maxHeartbeats 4000000 in
theorem w10_138 {Z : State} {a0 : Array Value} {p : Program} {l : Launch} {e : Env} {s : State} {m : MethodId} {args : Array Value} {below : List Frame} {meth : Method} {c : Code} {T : State} {h : Heap} {n0 : Nat} {v0 : Addr} {u1 : Int32} {u2 : Int32} {v3 : Addr} {u4 : Int32} {u6 : Int32} {u7 : Slot} (C : own_Cx Z a0 p l e own_R10 s m args below meth c "com/example/tidemark/tidemark/table/PlainLine" "textEnd" prog_87_method_5_code 8 (some .int)) (A : own_At p l e own_R10 s m args below meth c T h n0 0 0) (v5 : Int32) (s0 : Int32) (hX7 : One u7) :
    own_Go p.tables e below (T.setTop (mkF m 138 #[.val (.ref v0), .val (.int u1), .val (.int u2), .val (.ref v3), .val (.int u4), .val (.int v5), .val (.int u6), u7] [(.int s0)])) (own_QR s n0 0 0 (own_RI h (f10_138 v5 s0))) := by
  unfold f10_138
  refine own_istoreX C A own_d10_138 rfl hX7 (l' := #[.val (.ref v0), .val (.int u1), .val (.int u2), .val (.ref v3), .val (.int u4), .val (.int v5), .val (.int u6), .val (.int s0)]) rfl rfl ?_
  refine own_iload C A own_d10_140 rfl rfl ?_
  refine own_ite (fun hc142 => ?_) (fun hc142 => ?_)
  · refine own_ifY C A own_d10_142 (Jvm.Free.XT.i0_eq_t hc142) (by decide) (q := 152) (by decide) ?_
    refine own_iconst C A own_d10_152 (v := -1) rfl rfl ?_
    exact own_retI C A own_d10_153 ⟨rfl, rfl⟩
  · refine own_ifN C A own_d10_142 (Jvm.Free.XT.i0_eq_f hc142) rfl ?_
    refine own_iload C A own_d10_145 rfl rfl ?_
    refine own_iconst C A own_d10_147 (v := 1) rfl rfl ?_
    refine own_iadd C A own_d10_148 rfl ?_
    refine own_goto C A own_d10_149 (by decide) (q := 153) (by decide) ?_
    exact own_retI C A own_d10_153 ⟨rfl, rfl⟩
def f10_137 (v5 : Int32) : Int32 := (f10_138 v5 (0 : Int32))
set_option maxRecDepth 65536 in
set_option maxHeartbeats 4000000 in
theorem w10_137 {Z : State} {a0 : Array Value} {p : Program} {l : Launch} {e : Env} {s : State} {m : MethodId} {args : Array Value} {below : List Frame} {meth : Method} {c : Code} {T : State} {h : Heap} {n0 : Nat} {v0 : Addr} {u1 : Int32} {u2 : Int32} {v3 : Addr} {u4 : Int32} {u6 : Int32} {u7 : Slot} (C : own_Cx Z a0 p l e own_R10 s m args below meth c "com/example/tidemark/tidemark/table/PlainLine" "textEnd" prog_87_method_5_code 8 (some .int)) (A : own_At p l e own_R10 s m args below meth c T h n0 0 0) (v5 : Int32) (hX7 : One u7) :
    own_Go p.tables e below (T.setTop (mkF m 137 #[.val (.ref v0), .val (.int u1), .val (.int u2), .val (.ref v3), .val (.int u4), .val (.int v5), .val (.int u6), u7] [])) (own_QR s n0 0 0 (own_RI h (f10_137 v5))) := by
  unfold f10_137
  refine own_iconst C A own_d10_137 (v := 0) rfl rfl ?_
  exact w10_138 C A v5 (0 : Int32) hX7
def f10_133 (v5 : Int32) : Int32 := (f10_138 v5 (1 : Int32))
set_option maxRecDepth 65536 in
set_option maxHeartbeats 4000000 in
theorem w10_133 {Z : State} {a0 : Array Value} {p : Program} {l : Launch} {e : Env} {s : State} {m : MethodId} {args : Array Value} {below : List Frame} {meth : Method} {c : Code} {T : State} {h : Heap} {n0 : Nat} {v0 : Addr} {u1 : Int32} {u2 : Int32} {v3 : Addr} {u4 : Int32} {u6 : Int32} {u7 : Slot} (C : own_Cx Z a0 p l e own_R10 s m args below meth c "com/example/tidemark/tidemark/table/PlainLine" "textEnd" prog_87_method_5_code 8 (some .int)) (A : own_At p l e own_R10 s m args below meth c T h n0 0 0) (v5 : Int32) (hX7 : One u7) :
    own_Go p.tables e below (T.setTop (mkF m 133 #[.val (.ref v0), .val (.int u1), .val (.int u2), .val (.ref v3), .val (.int u4), .val (.int v5), .val (.int u6), u7] [])) (own_QR s n0 0 0 (own_RI h (f10_133 v5))) := by
  unfold f10_133
  refine own_iconst C A own_d10_133 (v := 1) rfl rfl ?_
  refine own_goto C A own_d10_134 (by decide) (q := 138) (by decide) ?_
  exact w10_138 C A v5 (1 : Int32) hX7
def f10_111 (v2 : Int32) (v4 : Int32) (v5 : Int32) (v6 : Int32) (xs_v3 : List Int32) : Int32 := (if v5 < v2 then (if v6 = (0 : Int32) then (if (f9_0 v4 v5 xs_v3) = (0 : Int32) then (f10_137 v5) else (f10_133 v5)) else (f10_133 v5)) else (f10_137 v5))
set_option maxRecDepth 65536 in
set_option maxHeartbeats 4000000 in
theorem w10_111 {Z : State} {a0 : Array Value} {p : Program} {l : Launch} {e : Env} {s : State} {m : MethodId} {args : Array Value} {below : List Frame} {meth : Method} {c : Code} {T : State} {h : Heap} {n0 : Nat} {v0 : Addr} {u1 : Int32} {v3 : Addr} {u7 : Slot} (C : own_Cx Z a0 p l e own_R10 s m args below meth c "com/example/tidemark/tidemark/table/PlainLine" "textEnd" prog_87_method_5_code 8 (some .int)) (A : own_At p l e own_R10 s m args below meth c T h n0 0 0) (v2 : Int32) (v4 : Int32) (v5 : Int32) (v6 : Int32) (xs_v3 : List Int32) (hX7 : One u7) (V_v3 : own_Ia Z h v3 .byte (40 : Int32) xs_v3) (he : ¬ 40 < v2) (h4 : ¬ v4 < 0) :
    own_Go p.tables e below (T.setTop (mkF m 111 #[.val (.ref v0), .val (.int u1), .val (.int v2), .val (.ref v3), .val (.int v4), .val (.int v5), .val (.int v6), u7] [])) (own_QR s n0 0 0 (own_RI h (f10_111 v2 v4 v5 v6 xs_v3))) := by
  unfold f10_111
  refine own_iload C A own_d10_111 rfl rfl ?_
  refine own_iloadN C A own_d10_113 rfl rfl ?_
  refine own_ite (fun hc114 => ?_) (fun hc114 => ?_)
  · refine own_icmpN C A own_d10_114 (Jvm.Free.XT.ii_ge_f hc114) rfl ?_
    refine own_iload C A own_d10_117 rfl rfl ?_
    refine own_ite (fun hc119 => ?_) (fun hc119 => ?_)
    · refine own_ifN C A own_d10_119 (Jvm.Free.XT.i0_ne_f hc119) rfl ?_
      refine own_aloadN C A own_d10_122 rfl rfl rfl ?_
      refine own_iload C A own_d10_123 rfl rfl ?_
      refine own_iload C A own_d10_125 rfl rfl ?_
      refine own_callSI C A 0 [(.ref v3), (.int v4), (.int v5)] [] (own_w C 58 rfl) (own_w C 59 rfl) (own_w C 60 rfl) (own_w C 61 rfl) (by decide) (rm9 l Z a0 C.2.2.2.2.2.2.2.2 [] v3 v4 v5 xs_v3 _ _ (own_size A) V_v3 h4 (own_he he hc114)) rfl rfl (by decide) (by decide) (by decide) (by decide) own_pd5 rfl rfl rfl (Nat.le_of_eq rfl) rfl own_d10_127 rfl (fun T A => ?_)
      refine own_ite (fun hc130 => ?_) (fun hc130 => ?_)
      · refine own_ifY C A own_d10_130 (Jvm.Free.XT.i0_eq_t hc130) (by decide) (q := 137) (by decide) ?_
        exact w10_137 C A v5 hX7
      · refine own_ifN C A own_d10_130 (Jvm.Free.XT.i0_eq_f hc130) rfl ?_
        exact w10_133 C A v5 hX7
    · refine own_ifY C A own_d10_119 (Jvm.Free.XT.i0_ne_t hc119) (by decide) (q := 133) (by decide) ?_
      exact w10_133 C A v5 hX7
  · refine own_icmpY C A own_d10_114 (Jvm.Free.XT.ii_ge_t hc114) (by decide) (q := 137) (by decide) ?_
    exact w10_137 C A v5 hX7
def f10_30 (fuel : Nat) (v2 : Int32) (v4 : Int32) (v5 : Int32) (v6 : Int32) (xs_v3 : List Int32) : Int32 := match fuel with
  | 0 => 0
  | fuel + 1 => (if v5 < v2 then (if (34 : Int32) < (xs_v3.getD (v5).toNatClampNeg 0) then (if (xs_v3.getD (v5).toNatClampNeg 0) = (92 : Int32) then (if (xs_v3.getD (v5).toNatClampNeg 0) = (34 : Int32) then (f10_111 v2 v4 v5 v6 xs_v3) else (if (xs_v3.getD (v5).toNatClampNeg 0) < (0 : Int32) then (if (xs_v3.getD (v5).toNatClampNeg 0) = (92 : Int32) then (-1 : Int32) else (if (xs_v3.getD (v5).toNatClampNeg 0) < (0 : Int32) then (f10_30 fuel v2 v4 (v5 + (1 : Int32)) (v6 &&& (0 : Int32)) xs_v3) else (f10_30 fuel v2 v4 (v5 + (1 : Int32)) (v6 &&& (1 : Int32)) xs_v3))) else (if (xs_v3.getD (v5).toNatClampNeg 0) < (32 : Int32) then (-1 : Int32) else (if (xs_v3.getD (v5).toNatClampNeg 0) = (92 : Int32) then (-1 : Int32) else (if (xs_v3.getD (v5).toNatClampNeg 0) < (0 : Int32) then (f10_30 fuel v2 v4 (v5 + (1 : Int32)) (v6 &&& (0 : Int32)) xs_v3) else (f10_30 fuel v2 v4 (v5 + (1 : Int32)) (v6 &&& (1 : Int32)) xs_v3)))))) else (f10_30 fuel v2 v4 (v5 + (1 : Int32)) v6 xs_v3)) else (if (xs_v3.getD (v5).toNatClampNeg 0) = (34 : Int32) then (f10_111 v2 v4 v5 v6 xs_v3) else (if (xs_v3.getD (v5).toNatClampNeg 0) < (0 : Int32) then (if (xs_v3.getD (v5).toNatClampNeg 0) = (92 : Int32) then (-1 : Int32) else (if (xs_v3.getD (v5).toNatClampNeg 0) < (0 : Int32) then (f10_30 fuel v2 v4 (v5 + (1 : Int32)) (v6 &&& (0 : Int32)) xs_v3) else (f10_30 fuel v2 v4 (v5 + (1 : Int32)) (v6 &&& (1 : Int32)) xs_v3))) else (if (xs_v3.getD (v5).toNatClampNeg 0) < (32 : Int32) then (-1 : Int32) else (if (xs_v3.getD (v5).toNatClampNeg 0) = (92 : Int32) then (-1 : Int32) else (if (xs_v3.getD (v5).toNatClampNeg 0) < (0 : Int32) then (f10_30 fuel v2 v4 (v5 + (1 : Int32)) (v6 &&& (0 : Int32)) xs_v3) else (f10_30 fuel v2 v4 (v5 + (1 : Int32)) (v6 &&& (1 : Int32)) xs_v3))))))) else (f10_111 v2 v4 v5 v6 xs_v3))
theorem f10_30_succ (fuel : Nat) (v2 : Int32) (v4 : Int32) (v5 : Int32) (v6 : Int32) (xs_v3 : List Int32) : f10_30 (fuel + 1) v2 v4 v5 v6 xs_v3 = (if v5 < v2 then (if (34 : Int32) < (xs_v3.getD (v5).toNatClampNeg 0) then (if (xs_v3.getD (v5).toNatClampNeg 0) = (92 : Int32) then (if (xs_v3.getD (v5).toNatClampNeg 0) = (34 : Int32) then (f10_111 v2 v4 v5 v6 xs_v3) else (if (xs_v3.getD (v5).toNatClampNeg 0) < (0 : Int32) then (if (xs_v3.getD (v5).toNatClampNeg 0) = (92 : Int32) then (-1 : Int32) else (if (xs_v3.getD (v5).toNatClampNeg 0) < (0 : Int32) then (f10_30 fuel v2 v4 (v5 + (1 : Int32)) (v6 &&& (0 : Int32)) xs_v3) else (f10_30 fuel v2 v4 (v5 + (1 : Int32)) (v6 &&& (1 : Int32)) xs_v3))) else (if (xs_v3.getD (v5).toNatClampNeg 0) < (32 : Int32) then (-1 : Int32) else (if (xs_v3.getD (v5).toNatClampNeg 0) = (92 : Int32) then (-1 : Int32) else (if (xs_v3.getD (v5).toNatClampNeg 0) < (0 : Int32) then (f10_30 fuel v2 v4 (v5 + (1 : Int32)) (v6 &&& (0 : Int32)) xs_v3) else (f10_30 fuel v2 v4 (v5 + (1 : Int32)) (v6 &&& (1 : Int32)) xs_v3)))))) else (f10_30 fuel v2 v4 (v5 + (1 : Int32)) v6 xs_v3)) else (if (xs_v3.getD (v5).toNatClampNeg 0) = (34 : Int32) then (f10_111 v2 v4 v5 v6 xs_v3) else (if (xs_v3.getD (v5).toNatClampNeg 0) < (0 : Int32) then (if (xs_v3.getD (v5).toNatClampNeg 0) = (92 : Int32) then (-1 : Int32) else (if (xs_v3.getD (v5).toNatClampNeg 0) < (0 : Int32) then (f10_30 fuel v2 v4 (v5 + (1 : Int32)) (v6 &&& (0 : Int32)) xs_v3) else (f10_30 fuel v2 v4 (v5 + (1 : Int32)) (v6 &&& (1 : Int32)) xs_v3))) else (if (xs_v3.getD (v5).toNatClampNeg 0) < (32 : Int32) then (-1 : Int32) else (if (xs_v3.getD (v5).toNatClampNeg 0) = (92 : Int32) then (-1 : Int32) else (if (xs_v3.getD (v5).toNatClampNeg 0) < (0 : Int32) then (f10_30 fuel v2 v4 (v5 + (1 : Int32)) (v6 &&& (0 : Int32)) xs_v3) else (f10_30 fuel v2 v4 (v5 + (1 : Int32)) (v6 &&& (1 : Int32)) xs_v3))))))) else (f10_111 v2 v4 v5 v6 xs_v3)) := rfl
set_option maxRecDepth 65536 in
set_option maxHeartbeats 4000000 in
theorem w10_30 {Z : State} {a0 : Array Value} {p : Program} {l : Launch} {e : Env} {s : State} {m : MethodId} {args : Array Value} {below : List Frame} {meth : Method} {c : Code} {n0 : Nat} (C : own_Cx Z a0 p l e own_R10 s m args below meth c "com/example/tidemark/tidemark/table/PlainLine" "textEnd" prog_87_method_5_code 8 (some .int)) (fuel : Nat) : ∀ {T : State} {h : Heap} {v0 : Addr} {u1 : Int32} {v3 : Addr} {u7 : Slot} (A : own_At p l e own_R10 s m args below meth c T h n0 0 0) (v2 : Int32) (v4 : Int32) (v5 : Int32) (v6 : Int32) (xs_v3 : List Int32) (hX7 : One u7) (V_v3 : own_Ia Z h v3 .byte (40 : Int32) xs_v3) (ha : ¬ v5 < 0) (he : ¬ 40 < v2) (h4 : ¬ v4 < 0) (hm : (v2.toInt - v5.toInt).toNat < fuel),
    own_Go p.tables e below (T.setTop (mkF m 30 #[.val (.ref v0), .val (.int u1), .val (.int v2), .val (.ref v3), .val (.int v4), .val (.int v5), .val (.int v6), u7] [])) (own_QR s n0 0 0 (own_RI h (f10_30 fuel v2 v4 v5 v6 xs_v3))) := by
  induction fuel with
  | zero => intro T h v0 u1 v3 u7 A v2 v4 v5 v6 xs_v3 hX7 V_v3 ha he h4 hm; exact absurd hm (by omega)
  | succ fuel ih =>
    intro T h v0 u1 v3 u7 A v2 v4 v5 v6 xs_v3 hX7 V_v3 ha he h4 hm
    rw [f10_30_succ]
    refine own_iload C A own_d10_30 rfl rfl ?_
    refine own_iloadN C A own_d10_32 rfl rfl ?_
    refine own_ite (fun hc33 => ?_) (fun hc33 => ?_)
    · refine own_icmpN C A own_d10_33 (Jvm.Free.XT.ii_ge_f hc33) rfl ?_
      refine own_aloadN C A own_d10_36 rfl rfl rfl ?_
      refine own_iload C A own_d10_37 rfl rfl ?_
      refine own_baload C A V_v3 (own_at ha he hc33) (v := (xs_v3.getD (v5).toNatClampNeg 0)) rfl own_d10_39 rfl ?_
      refine own_istoreX C A own_d10_40 rfl hX7 (l' := #[.val (.ref v0), .val (.int u1), .val (.int v2), .val (.ref v3), .val (.int v4), .val (.int v5), .val (.int v6), .val (.int (xs_v3.getD (v5).toNatClampNeg 0))]) rfl rfl ?_
      refine own_iload C A own_d10_42 rfl rfl ?_
      refine own_bipush C A own_d10_44 (v := 34) rfl rfl ?_
      refine own_ite (fun hc46 => ?_) (fun hc46 => ?_)
      · refine own_icmpN C A own_d10_46 (Jvm.Free.XT.ii_le_f hc46) rfl ?_
        refine own_iload C A own_d10_49 rfl rfl ?_
        refine own_bipush C A own_d10_51 (v := 92) rfl rfl ?_
        refine own_ite (fun hc53 => ?_) (fun hc53 => ?_)
        · refine own_icmpY C A own_d10_53 (Jvm.Free.XT.ii_eq_t hc53) (by decide) (q := 59) (by decide) ?_
          refine own_iload C A own_d10_59 rfl rfl ?_
          refine own_bipush C A own_d10_61 (v := 34) rfl rfl ?_
          refine own_ite (fun hc63 => ?_) (fun hc63 => ?_)
          · refine own_icmpN C A own_d10_63 (Jvm.Free.XT.ii_ne_f hc63) rfl ?_
            refine own_goto C A own_d10_66 (by decide) (q := 111) (by decide) ?_
            exact w10_111 C A v2 v4 v5 v6 xs_v3 (One.val rfl) V_v3 he h4
          · refine own_icmpY C A own_d10_63 (Jvm.Free.XT.ii_ne_t hc63) (by decide) (q := 69) (by decide) ?_
            refine own_iload C A own_d10_69 rfl rfl ?_
            refine own_ite (fun hc71 => ?_) (fun hc71 => ?_)
            · refine own_ifY C A own_d10_71 (Jvm.Free.XT.i0_lt_t hc71) (by decide) (q := 81) (by decide) ?_
              refine own_iload C A own_d10_81 rfl rfl ?_
              refine own_bipush C A own_d10_83 (v := 92) rfl rfl ?_
              refine own_ite (fun hc85 => ?_) (fun hc85 => ?_)
              · refine own_icmpN C A own_d10_85 (Jvm.Free.XT.ii_ne_f hc85) rfl ?_
                refine own_iconst C A own_d10_88 (v := -1) rfl rfl ?_
                exact own_retI C A own_d10_89 ⟨rfl, rfl⟩
              · refine own_icmpY C A own_d10_85 (Jvm.Free.XT.ii_ne_t hc85) (by decide) (q := 90) (by decide) ?_
                refine own_iload C A own_d10_90 rfl rfl ?_
                refine own_iload C A own_d10_92 rfl rfl ?_
                refine own_ite (fun hc94 => ?_) (fun hc94 => ?_)
                · refine own_ifY C A own_d10_94 (Jvm.Free.XT.i0_lt_t hc94) (by decide) (q := 101) (by decide) ?_
                  refine own_iconst C A own_d10_101 (v := 0) rfl rfl ?_
                  refine own_iand C A own_d10_102 rfl ?_
                  refine own_istore C A own_d10_103 (l' := #[.val (.ref v0), .val (.int u1), .val (.int v2), .val (.ref v3), .val (.int v4), .val (.int v5), .val (.int (v6 &&& (0 : Int32))), .val (.int (xs_v3.getD (v5).toNatClampNeg 0))]) rfl rfl ?_
                  refine own_iinc C A own_d10_105 rfl (l' := #[.val (.ref v0), .val (.int u1), .val (.int v2), .val (.ref v3), .val (.int v4), .val (.int (v5 + (1 : Int32))), .val (.int (v6 &&& (0 : Int32))), .val (.int (xs_v3.getD (v5).toNatClampNeg 0))]) rfl rfl ?_
                  refine own_goto C A own_d10_108 (by decide) (q := 30) (by decide) ?_
                  exact ih A v2 v4 (v5 + (1 : Int32)) (v6 &&& (0 : Int32)) xs_v3 (One.val rfl) V_v3 (own_ha ha hc33) he h4 (own_dec ha hc33 hm)
                · refine own_ifN C A own_d10_94 (Jvm.Free.XT.i0_lt_f hc94) rfl ?_
                  refine own_iconst C A own_d10_97 (v := 1) rfl rfl ?_
                  refine own_goto C A own_d10_98 (by decide) (q := 102) (by decide) ?_
                  refine own_iand C A own_d10_102 rfl ?_
                  refine own_istore C A own_d10_103 (l' := #[.val (.ref v0), .val (.int u1), .val (.int v2), .val (.ref v3), .val (.int v4), .val (.int v5), .val (.int (v6 &&& (1 : Int32))), .val (.int (xs_v3.getD (v5).toNatClampNeg 0))]) rfl rfl ?_
                  refine own_iinc C A own_d10_105 rfl (l' := #[.val (.ref v0), .val (.int u1), .val (.int v2), .val (.ref v3), .val (.int v4), .val (.int (v5 + (1 : Int32))), .val (.int (v6 &&& (1 : Int32))), .val (.int (xs_v3.getD (v5).toNatClampNeg 0))]) rfl rfl ?_
                  refine own_goto C A own_d10_108 (by decide) (q := 30) (by decide) ?_
                  exact ih A v2 v4 (v5 + (1 : Int32)) (v6 &&& (1 : Int32)) xs_v3 (One.val rfl) V_v3 (own_ha ha hc33) he h4 (own_dec ha hc33 hm)
            · refine own_ifN C A own_d10_71 (Jvm.Free.XT.i0_lt_f hc71) rfl ?_
              refine own_iload C A own_d10_74 rfl rfl ?_
              refine own_bipush C A own_d10_76 (v := 32) rfl rfl ?_
              refine own_ite (fun hc78 => ?_) (fun hc78 => ?_)
              · refine own_icmpY C A own_d10_78 (Jvm.Free.XT.ii_lt_t hc78) (by decide) (q := 88) (by decide) ?_
                refine own_iconst C A own_d10_88 (v := -1) rfl rfl ?_
                exact own_retI C A own_d10_89 ⟨rfl, rfl⟩
              · refine own_icmpN C A own_d10_78 (Jvm.Free.XT.ii_lt_f hc78) rfl ?_
                refine own_iload C A own_d10_81 rfl rfl ?_
                refine own_bipush C A own_d10_83 (v := 92) rfl rfl ?_
                refine own_ite (fun hc85 => ?_) (fun hc85 => ?_)
                · refine own_icmpN C A own_d10_85 (Jvm.Free.XT.ii_ne_f hc85) rfl ?_
                  refine own_iconst C A own_d10_88 (v := -1) rfl rfl ?_
                  exact own_retI C A own_d10_89 ⟨rfl, rfl⟩
                · refine own_icmpY C A own_d10_85 (Jvm.Free.XT.ii_ne_t hc85) (by decide) (q := 90) (by decide) ?_
                  refine own_iload C A own_d10_90 rfl rfl ?_
                  refine own_iload C A own_d10_92 rfl rfl ?_
                  refine own_ite (fun hc94 => ?_) (fun hc94 => ?_)
                  · refine own_ifY C A own_d10_94 (Jvm.Free.XT.i0_lt_t hc94) (by decide) (q := 101) (by decide) ?_
                    refine own_iconst C A own_d10_101 (v := 0) rfl rfl ?_
                    refine own_iand C A own_d10_102 rfl ?_
                    refine own_istore C A own_d10_103 (l' := #[.val (.ref v0), .val (.int u1), .val (.int v2), .val (.ref v3), .val (.int v4), .val (.int v5), .val (.int (v6 &&& (0 : Int32))), .val (.int (xs_v3.getD (v5).toNatClampNeg 0))]) rfl rfl ?_
                    refine own_iinc C A own_d10_105 rfl (l' := #[.val (.ref v0), .val (.int u1), .val (.int v2), .val (.ref v3), .val (.int v4), .val (.int (v5 + (1 : Int32))), .val (.int (v6 &&& (0 : Int32))), .val (.int (xs_v3.getD (v5).toNatClampNeg 0))]) rfl rfl ?_
                    refine own_goto C A own_d10_108 (by decide) (q := 30) (by decide) ?_
                    exact ih A v2 v4 (v5 + (1 : Int32)) (v6 &&& (0 : Int32)) xs_v3 (One.val rfl) V_v3 (own_ha ha hc33) he h4 (own_dec ha hc33 hm)
                  · refine own_ifN C A own_d10_94 (Jvm.Free.XT.i0_lt_f hc94) rfl ?_
                    refine own_iconst C A own_d10_97 (v := 1) rfl rfl ?_
                    refine own_goto C A own_d10_98 (by decide) (q := 102) (by decide) ?_
                    refine own_iand C A own_d10_102 rfl ?_
                    refine own_istore C A own_d10_103 (l' := #[.val (.ref v0), .val (.int u1), .val (.int v2), .val (.ref v3), .val (.int v4), .val (.int v5), .val (.int (v6 &&& (1 : Int32))), .val (.int (xs_v3.getD (v5).toNatClampNeg 0))]) rfl rfl ?_
                    refine own_iinc C A own_d10_105 rfl (l' := #[.val (.ref v0), .val (.int u1), .val (.int v2), .val (.ref v3), .val (.int v4), .val (.int (v5 + (1 : Int32))), .val (.int (v6 &&& (1 : Int32))), .val (.int (xs_v3.getD (v5).toNatClampNeg 0))]) rfl rfl ?_
                    refine own_goto C A own_d10_108 (by decide) (q := 30) (by decide) ?_
                    exact ih A v2 v4 (v5 + (1 : Int32)) (v6 &&& (1 : Int32)) xs_v3 (One.val rfl) V_v3 (own_ha ha hc33) he h4 (own_dec ha hc33 hm)
        · refine own_icmpN C A own_d10_53 (Jvm.Free.XT.ii_eq_f hc53) rfl ?_
          refine own_goto C A own_d10_56 (by decide) (q := 105) (by decide) ?_
          refine own_iinc C A own_d10_105 rfl (l' := #[.val (.ref v0), .val (.int u1), .val (.int v2), .val (.ref v3), .val (.int v4), .val (.int (v5 + (1 : Int32))), .val (.int v6), .val (.int (xs_v3.getD (v5).toNatClampNeg 0))]) rfl rfl ?_
          refine own_goto C A own_d10_108 (by decide) (q := 30) (by decide) ?_
          exact ih A v2 v4 (v5 + (1 : Int32)) v6 xs_v3 (One.val rfl) V_v3 (own_ha ha hc33) he h4 (own_dec ha hc33 hm)
      · refine own_icmpY C A own_d10_46 (Jvm.Free.XT.ii_le_t hc46) (by decide) (q := 59) (by decide) ?_
        refine own_iload C A own_d10_59 rfl rfl ?_
        refine own_bipush C A own_d10_61 (v := 34) rfl rfl ?_
        refine own_ite (fun hc63 => ?_) (fun hc63 => ?_)
        · refine own_icmpN C A own_d10_63 (Jvm.Free.XT.ii_ne_f hc63) rfl ?_
          refine own_goto C A own_d10_66 (by decide) (q := 111) (by decide) ?_
          exact w10_111 C A v2 v4 v5 v6 xs_v3 (One.val rfl) V_v3 he h4
        · refine own_icmpY C A own_d10_63 (Jvm.Free.XT.ii_ne_t hc63) (by decide) (q := 69) (by decide) ?_
          refine own_iload C A own_d10_69 rfl rfl ?_
          refine own_ite (fun hc71 => ?_) (fun hc71 => ?_)
          · refine own_ifY C A own_d10_71 (Jvm.Free.XT.i0_lt_t hc71) (by decide) (q := 81) (by decide) ?_
            refine own_iload C A own_d10_81 rfl rfl ?_
            refine own_bipush C A own_d10_83 (v := 92) rfl rfl ?_
            refine own_ite (fun hc85 => ?_) (fun hc85 => ?_)
            · refine own_icmpN C A own_d10_85 (Jvm.Free.XT.ii_ne_f hc85) rfl ?_
              refine own_iconst C A own_d10_88 (v := -1) rfl rfl ?_
              exact own_retI C A own_d10_89 ⟨rfl, rfl⟩
            · refine own_icmpY C A own_d10_85 (Jvm.Free.XT.ii_ne_t hc85) (by decide) (q := 90) (by decide) ?_
              refine own_iload C A own_d10_90 rfl rfl ?_
              refine own_iload C A own_d10_92 rfl rfl ?_
              refine own_ite (fun hc94 => ?_) (fun hc94 => ?_)
              · refine own_ifY C A own_d10_94 (Jvm.Free.XT.i0_lt_t hc94) (by decide) (q := 101) (by decide) ?_
                refine own_iconst C A own_d10_101 (v := 0) rfl rfl ?_
                refine own_iand C A own_d10_102 rfl ?_
                refine own_istore C A own_d10_103 (l' := #[.val (.ref v0), .val (.int u1), .val (.int v2), .val (.ref v3), .val (.int v4), .val (.int v5), .val (.int (v6 &&& (0 : Int32))), .val (.int (xs_v3.getD (v5).toNatClampNeg 0))]) rfl rfl ?_
                refine own_iinc C A own_d10_105 rfl (l' := #[.val (.ref v0), .val (.int u1), .val (.int v2), .val (.ref v3), .val (.int v4), .val (.int (v5 + (1 : Int32))), .val (.int (v6 &&& (0 : Int32))), .val (.int (xs_v3.getD (v5).toNatClampNeg 0))]) rfl rfl ?_
                refine own_goto C A own_d10_108 (by decide) (q := 30) (by decide) ?_
                exact ih A v2 v4 (v5 + (1 : Int32)) (v6 &&& (0 : Int32)) xs_v3 (One.val rfl) V_v3 (own_ha ha hc33) he h4 (own_dec ha hc33 hm)
              · refine own_ifN C A own_d10_94 (Jvm.Free.XT.i0_lt_f hc94) rfl ?_
                refine own_iconst C A own_d10_97 (v := 1) rfl rfl ?_
                refine own_goto C A own_d10_98 (by decide) (q := 102) (by decide) ?_
                refine own_iand C A own_d10_102 rfl ?_
                refine own_istore C A own_d10_103 (l' := #[.val (.ref v0), .val (.int u1), .val (.int v2), .val (.ref v3), .val (.int v4), .val (.int v5), .val (.int (v6 &&& (1 : Int32))), .val (.int (xs_v3.getD (v5).toNatClampNeg 0))]) rfl rfl ?_
                refine own_iinc C A own_d10_105 rfl (l' := #[.val (.ref v0), .val (.int u1), .val (.int v2), .val (.ref v3), .val (.int v4), .val (.int (v5 + (1 : Int32))), .val (.int (v6 &&& (1 : Int32))), .val (.int (xs_v3.getD (v5).toNatClampNeg 0))]) rfl rfl ?_
                refine own_goto C A own_d10_108 (by decide) (q := 30) (by decide) ?_
                exact ih A v2 v4 (v5 + (1 : Int32)) (v6 &&& (1 : Int32)) xs_v3 (One.val rfl) V_v3 (own_ha ha hc33) he h4 (own_dec ha hc33 hm)
          · refine own_ifN C A own_d10_71 (Jvm.Free.XT.i0_lt_f hc71) rfl ?_
            refine own_iload C A own_d10_74 rfl rfl ?_
            refine own_bipush C A own_d10_76 (v := 32) rfl rfl ?_
            refine own_ite (fun hc78 => ?_) (fun hc78 => ?_)
            · refine own_icmpY C A own_d10_78 (Jvm.Free.XT.ii_lt_t hc78) (by decide) (q := 88) (by decide) ?_
              refine own_iconst C A own_d10_88 (v := -1) rfl rfl ?_
              exact own_retI C A own_d10_89 ⟨rfl, rfl⟩
            · refine own_icmpN C A own_d10_78 (Jvm.Free.XT.ii_lt_f hc78) rfl ?_
              refine own_iload C A own_d10_81 rfl rfl ?_
              refine own_bipush C A own_d10_83 (v := 92) rfl rfl ?_
              refine own_ite (fun hc85 => ?_) (fun hc85 => ?_)
              · refine own_icmpN C A own_d10_85 (Jvm.Free.XT.ii_ne_f hc85) rfl ?_
                refine own_iconst C A own_d10_88 (v := -1) rfl rfl ?_
                exact own_retI C A own_d10_89 ⟨rfl, rfl⟩
              · refine own_icmpY C A own_d10_85 (Jvm.Free.XT.ii_ne_t hc85) (by decide) (q := 90) (by decide) ?_
                refine own_iload C A own_d10_90 rfl rfl ?_
                refine own_iload C A own_d10_92 rfl rfl ?_
                refine own_ite (fun hc94 => ?_) (fun hc94 => ?_)
                · refine own_ifY C A own_d10_94 (Jvm.Free.XT.i0_lt_t hc94) (by decide) (q := 101) (by decide) ?_
                  refine own_iconst C A own_d10_101 (v := 0) rfl rfl ?_
                  refine own_iand C A own_d10_102 rfl ?_
                  refine own_istore C A own_d10_103 (l' := #[.val (.ref v0), .val (.int u1), .val (.int v2), .val (.ref v3), .val (.int v4), .val (.int v5), .val (.int (v6 &&& (0 : Int32))), .val (.int (xs_v3.getD (v5).toNatClampNeg 0))]) rfl rfl ?_
                  refine own_iinc C A own_d10_105 rfl (l' := #[.val (.ref v0), .val (.int u1), .val (.int v2), .val (.ref v3), .val (.int v4), .val (.int (v5 + (1 : Int32))), .val (.int (v6 &&& (0 : Int32))), .val (.int (xs_v3.getD (v5).toNatClampNeg 0))]) rfl rfl ?_
                  refine own_goto C A own_d10_108 (by decide) (q := 30) (by decide) ?_
                  exact ih A v2 v4 (v5 + (1 : Int32)) (v6 &&& (0 : Int32)) xs_v3 (One.val rfl) V_v3 (own_ha ha hc33) he h4 (own_dec ha hc33 hm)
                · refine own_ifN C A own_d10_94 (Jvm.Free.XT.i0_lt_f hc94) rfl ?_
                  refine own_iconst C A own_d10_97 (v := 1) rfl rfl ?_
                  refine own_goto C A own_d10_98 (by decide) (q := 102) (by decide) ?_
                  refine own_iand C A own_d10_102 rfl ?_
                  refine own_istore C A own_d10_103 (l' := #[.val (.ref v0), .val (.int u1), .val (.int v2), .val (.ref v3), .val (.int v4), .val (.int v5), .val (.int (v6 &&& (1 : Int32))), .val (.int (xs_v3.getD (v5).toNatClampNeg 0))]) rfl rfl ?_
                  refine own_iinc C A own_d10_105 rfl (l' := #[.val (.ref v0), .val (.int u1), .val (.int v2), .val (.ref v3), .val (.int v4), .val (.int (v5 + (1 : Int32))), .val (.int (v6 &&& (1 : Int32))), .val (.int (xs_v3.getD (v5).toNatClampNeg 0))]) rfl rfl ?_
                  refine own_goto C A own_d10_108 (by decide) (q := 30) (by decide) ?_
                  exact ih A v2 v4 (v5 + (1 : Int32)) (v6 &&& (1 : Int32)) xs_v3 (One.val rfl) V_v3 (own_ha ha hc33) he h4 (own_dec ha hc33 hm)
    · refine own_icmpY C A own_d10_33 (Jvm.Free.XT.ii_ge_t hc33) (by decide) (q := 111) (by decide) ?_
      exact w10_111 C A v2 v4 v5 v6 xs_v3 hX7 V_v3 he h4
def f10_0 (v1 : Int32) (v2 : Int32) (xs_r_bytes_v0 : List Int32) : Int32 := (if (f5_0 v1 v2 (34 : Int32) xs_r_bytes_v0) = (0 : Int32) then (-1 : Int32) else (f10_30 42 v2 (v1 + (1 : Int32)) (v1 + (1 : Int32)) (1 : Int32) xs_r_bytes_v0))
set_option maxRecDepth 65536 in
set_option maxHeartbeats 4000000 in
theorem w10_0 {Z : State} {a0 : Array Value} {p : Program} {l : Launch} {e : Env} {s : State} {m : MethodId} {args : Array Value} {below : List Frame} {meth : Method} {c : Code} {T : State} {h : Heap} {n0 : Nat} {v0 : Addr} {r_bytes_v0 : Addr} (C : own_Cx Z a0 p l e own_R10 s m args below meth c "com/example/tidemark/tidemark/table/PlainLine" "textEnd" prog_87_method_5_code 8 (some .int)) (A : own_At p l e own_R10 s m args below meth c T h n0 0 0) (v1 : Int32) (v2 : Int32) (xs_r_bytes_v0 : List Int32) (F_bytes_v0 : Fld Z h v0 "com/example/tidemark/tidemark/table/PlainLine" "bytes" "[B" (.ref r_bytes_v0)) (E_v0 : Exa Z h v0 "com/example/tidemark/tidemark/table/PlainLine") (V_r_bytes_v0 : own_Ia Z h r_bytes_v0 .byte (40 : Int32) xs_r_bytes_v0) (ha : ¬ v1 < 0) (he : ¬ 40 < v2) :
    own_Go p.tables e below (T.setTop (mkF m 0 #[.val (.ref v0), .val (.int v1), .val (.int v2), .unset, .unset, .unset, .unset, .unset] [])) (own_QR s n0 0 0 (own_RI h (f10_0 v1 v2 xs_r_bytes_v0))) := by
  unfold f10_0
  refine own_aloadN C A own_d10_0 rfl rfl rfl ?_
  refine own_iloadN C A own_d10_1 rfl rfl ?_
  refine own_iloadN C A own_d10_2 rfl rfl ?_
  refine own_bipush C A own_d10_3 (v := 34) rfl rfl ?_
  refine own_callPI C A 0 [(.int v1), (.int v2), (.int (34 : Int32))] [] (own_w C 35 rfl) (own_w C 36 rfl) (own_w C 37 rfl) (own_w C 9 rfl) (own_w C 10 rfl) (own_w C 38 rfl) (by decide) E_v0 (rm5 l Z a0 C.2.2.2.2.2.2.2.2 [] v0 v1 v2 (34 : Int32) xs_r_bytes_v0 r_bytes_v0 _ _ (own_size A) F_bytes_v0 E_v0 V_r_bytes_v0 ha he) rfl rfl (by decide) (by decide) (by decide) (by decide) own_pd4 rfl rfl rfl (Nat.le_of_eq rfl) rfl own_d10_5 rfl (fun T A => ?_)
  refine own_ite (fun hc8 => ?_) (fun hc8 => ?_)
  · refine own_ifN C A own_d10_8 (Jvm.Free.XT.i0_ne_f hc8) rfl ?_
    refine own_iconst C A own_d10_11 (v := -1) rfl rfl ?_
    exact own_retI C A own_d10_12 ⟨rfl, rfl⟩
  · refine own_ifY C A own_d10_8 (Jvm.Free.XT.i0_ne_t hc8) (by decide) (q := 13) (by decide) ?_
    refine own_aloadN C A own_d10_13 rfl rfl rfl ?_
    refine own_getF C A (own_w C 25 rfl) F_bytes_v0 own_d10_14 rfl (fun T A => ?_)
    refine own_astoreN C A own_d10_17 rfl (l' := #[.val (.ref v0), .val (.int v1), .val (.int v2), .val (.ref r_bytes_v0), .unset, .unset, .unset, .unset]) rfl rfl ?_
    refine own_iloadN C A own_d10_18 rfl rfl ?_
    refine own_iconst C A own_d10_19 (v := 1) rfl rfl ?_
    refine own_iadd C A own_d10_20 rfl ?_
    refine own_istore C A own_d10_21 (l' := #[.val (.ref v0), .val (.int v1), .val (.int v2), .val (.ref r_bytes_v0), .val (.int (v1 + (1 : Int32))), .unset, .unset, .unset]) rfl rfl ?_
    refine own_iload C A own_d10_23 rfl rfl ?_
    refine own_istore C A own_d10_25 (l' := #[.val (.ref v0), .val (.int v1), .val (.int v2), .val (.ref r_bytes_v0), .val (.int (v1 + (1 : Int32))), .val (.int (v1 + (1 : Int32))), .unset, .unset]) rfl rfl ?_
    refine own_iconst C A own_d10_27 (v := 1) rfl rfl ?_
    refine own_istore C A own_d10_28 (l' := #[.val (.ref v0), .val (.int v1), .val (.int v2), .val (.ref r_bytes_v0), .val (.int (v1 + (1 : Int32))), .val (.int (v1 + (1 : Int32))), .val (.int (1 : Int32)), .unset]) rfl rfl ?_
    exact w10_30 C 42 A v2 (v1 + (1 : Int32)) (v1 + (1 : Int32)) (1 : Int32) xs_r_bytes_v0 One.u V_r_bytes_v0 (own_h1 ha (own_is hc8)) he (own_h1 ha (own_is hc8)) (own_enter1 ha he (own_is hc8))
theorem own_ef10 (m : MethodId) (v0 : Addr) (v1 : Int32) (v2 : Int32) : entryFrame m #[(.ref v0), (.int v1), (.int v2)] 8 = mkF m 0 #[.val (.ref v0), .val (.int v1), .val (.int v2), .unset, .unset, .unset, .unset, .unset] [] := by first | (simp [entryFrame, mkF, argsToLocals, Value.category]; done) | rfl
theorem rm10 (l : Launch) (Z : State) (a0 : Array Value) (hw : ∀ d ∈ tables_1, d.before a0 Z = true) (ws : List Jvm.Cond) (v0 : Addr) (v1 : Int32) (v2 : Int32) (xs_r_bytes_v0 : List Int32) (r_bytes_v0 : Addr) (h : Heap) (n0 : Nat) (hn : n0 ≤ h.size) (F_bytes_v0 : Fld Z h v0 "com/example/tidemark/tidemark/table/PlainLine" "bytes" "[B" (.ref r_bytes_v0)) (E_v0 : Exa Z h v0 "com/example/tidemark/tidemark/table/PlainLine") (V_r_bytes_v0 : own_Ia Z h r_bytes_v0 .byte (40 : Int32) xs_r_bytes_v0) (ha : ¬ v1 < 0) (he : ¬ 40 < v2) :
    MetFree l (⟨"com/example/tidemark/tidemark/table/PlainLine", "textEnd", "(II)I"⟩ : MethodName) (head1 (Jvm.Cond.code (⟨"com/example/tidemark/tidemark/table/PlainLine", "textEnd", "(II)I"⟩ : MethodName) prog_87_method_5_code 8 (some .int) :: ws) own_R10) (fun a U => a = #[(.ref v0), (.int v1), (.int v2)] ∧ Z.Warmed39 U.vm ∧ U.heap = h) (fun _ _ _ _ _ => True) (fun _ U o U' => own_QR U n0 0 0 (own_RI h (f10_0 v1 v2 xs_r_bytes_v0)) o U') :=
  own_met (plainFor_of_name (by first | (simp [plainName, overriddenIn]; done) | decide +kernel)) hw hn (fun m => own_ef10 m v0 v1 v2) (fun p e s m below meth c T C A => w10_0 C A v1 v2 xs_r_bytes_v0 F_bytes_v0 E_v0 V_r_bytes_v0 ha he)
/-! PlainLine.numberEnd -/
theorem own_d11_0 : decode prog_87_method_6_code 0 = .ok (.aload_n 0, 1) := by decide +kernel
theorem own_d11_1 : decode prog_87_method_6_code 1 = .ok (.iload_n 1, 1) := by decide +kernel
theorem own_d11_2 : decode prog_87_method_6_code 2 = .ok (.iload_n 2, 1) := by decide +kernel
theorem own_d11_3 : decode prog_87_method_6_code 3 = .ok (.bipush 45, 2) := by decide +kernel
theorem own_d11_5 : decode prog_87_method_6_code 5 = .ok (.invokevirtual 31, 3) := by decide +kernel
theorem own_d11_8 : decode prog_87_method_6_code 8 = .ok (.ifCond .eq 9, 3) := by decide +kernel
theorem own_d11_11 : decode prog_87_method_6_code 11 = .ok (.iload_n 1, 1) := by decide +kernel
theorem own_d11_12 : decode prog_87_method_6_code 12 = .ok (.iconst 1, 1) := by decide +kernel
theorem own_d11_13 : decode prog_87_method_6_code 13 = .ok (.iadd, 1) := by decide +kernel
theorem own_d11_14 : decode prog_87_method_6_code 14 = .ok (.goto 4, 3) := by decide +kernel
theorem own_d11_17 : decode prog_87_method_6_code 17 = .ok (.iload_n 1, 1) := by decide +kernel
theorem own_d11_18 : decode prog_87_method_6_code 18 = .ok (.istore_n 3, 1) := by decide +kernel
theorem own_d11_19 : decode prog_87_method_6_code 19 = .ok (.iload_n 3, 1) := by decide +kernel
theorem own_d11_20 : decode prog_87_method_6_code 20 = .ok (.istore 4, 2) := by decide +kernel
theorem own_d11_22 : decode prog_87_method_6_code 22 = .ok (.iload 4, 2) := by decide +kernel
theorem own_d11_24 : decode prog_87_method_6_code 24 = .ok (.iload_n 2, 1) := by decide +kernel
theorem own_d11_25 : decode prog_87_method_6_code 25 = .ok (.if_icmp .ge 33, 3) := by decide +kernel
theorem own_d11_28 : decode prog_87_method_6_code 28 = .ok (.aload_n 0, 1) := by decide +kernel
theorem own_d11_29 : decode prog_87_method_6_code 29 = .ok (.getfield 13, 3) := by decide +kernel
theorem own_d11_32 : decode prog_87_method_6_code 32 = .ok (.iload 4, 2) := by decide +kernel
theorem own_d11_34 : decode prog_87_method_6_code 34 = .ok (.baload, 1) := by decide +kernel
theorem own_d11_35 : decode prog_87_method_6_code 35 = .ok (.bipush 48, 2) := by decide +kernel
theorem own_d11_37 : decode prog_87_method_6_code 37 = .ok (.if_icmp .lt 21, 3) := by decide +kernel
theorem own_d11_40 : decode prog_87_method_6_code 40 = .ok (.aload_n 0, 1) := by decide +kernel
theorem own_d11_41 : decode prog_87_method_6_code 41 = .ok (.getfield 13, 3) := by decide +kernel
theorem own_d11_44 : decode prog_87_method_6_code 44 = .ok (.iload 4, 2) := by decide +kernel
theorem own_d11_46 : decode prog_87_method_6_code 46 = .ok (.baload, 1) := by decide +kernel
theorem own_d11_47 : decode prog_87_method_6_code 47 = .ok (.bipush 57, 2) := by decide +kernel
theorem own_d11_49 : decode prog_87_method_6_code 49 = .ok (.if_icmp .gt 9, 3) := by decide +kernel
theorem own_d11_52 : decode prog_87_method_6_code 52 = .ok (.iinc 4 1, 3) := by decide +kernel
theorem own_d11_55 : decode prog_87_method_6_code 55 = .ok (.goto (-33), 3) := by decide +kernel
theorem own_d11_58 : decode prog_87_method_6_code 58 = .ok (.iload 4, 2) := by decide +kernel
theorem own_d11_60 : decode prog_87_method_6_code 60 = .ok (.iload_n 3, 1) := by decide +kernel
theorem own_d11_61 : decode prog_87_method_6_code 61 = .ok (.isub, 1) := by decide +kernel
theorem own_d11_62 : decode prog_87_method_6_code 62 = .ok (.iconst 1, 1) := by decide +kernel
theorem own_d11_63 : decode prog_87_method_6_code 63 = .ok (.if_icmp .le 18, 3) := by decide +kernel
theorem own_d11_66 : decode prog_87_method_6_code 66 = .ok (.aload_n 0, 1) := by decide +kernel
theorem own_d11_67 : decode prog_87_method_6_code 67 = .ok (.getfield 13, 3) := by decide +kernel
theorem own_d11_70 : decode prog_87_method_6_code 70 = .ok (.iload_n 3, 1) := by decide +kernel
theorem own_d11_71 : decode prog_87_method_6_code 71 = .ok (.baload, 1) := by decide +kernel
theorem own_d11_72 : decode prog_87_method_6_code 72 = .ok (.bipush 48, 2) := by decide +kernel
theorem own_d11_74 : decode prog_87_method_6_code 74 = .ok (.if_icmp .ne 7, 3) := by decide +kernel
theorem own_d11_77 : decode prog_87_method_6_code 77 = .ok (.iconst 1, 1) := by decide +kernel
theorem own_d11_78 : decode prog_87_method_6_code 78 = .ok (.goto 4, 3) := by decide +kernel
theorem own_d11_81 : decode prog_87_method_6_code 81 = .ok (.iconst 0, 1) := by decide +kernel
theorem own_d11_82 : decode prog_87_method_6_code 82 = .ok (.istore 5, 2) := by decide +kernel
theorem own_d11_84 : decode prog_87_method_6_code 84 = .ok (.iload 4, 2) := by decide +kernel
theorem own_d11_86 : decode prog_87_method_6_code 86 = .ok (.iload_n 3, 1) := by decide +kernel
theorem own_d11_87 : decode prog_87_method_6_code 87 = .ok (.if_icmp .le 13, 3) := by decide +kernel
theorem own_d11_90 : decode prog_87_method_6_code 90 = .ok (.iload 5, 2) := by decide +kernel
theorem own_d11_92 : decode prog_87_method_6_code 92 = .ok (.ifCond .ne 8, 3) := by decide +kernel
theorem own_d11_95 : decode prog_87_method_6_code 95 = .ok (.iload 4, 2) := by decide +kernel
theorem own_d11_97 : decode prog_87_method_6_code 97 = .ok (.goto 4, 3) := by decide +kernel
theorem own_d11_100 : decode prog_87_method_6_code 100 = .ok (.iconst (-1), 1) := by decide +kernel
theorem own_d11_101 : decode prog_87_method_6_code 101 = .ok (.ireturn, 1) := by decide +kernel
def own_R11 : Room := { frames := 1, cells := 0, slots := 0, locals := 15 }
def f11_82 (v3 : Int32) (v4 : Int32) (s0 : Int32) : Int32 := (if v3 < v4 then (if s0 = (0 : Int32) then v4 else (-1 : Int32)) else (-1 : Int32))
set_option maxRecDepth 65536 in
set_option maxHeartbeats 4000000 in
theorem w11_82 {Z : State} {a0 : Array Value} {p : Program} {l : Launch} {e : Env} {s : State} {m : MethodId} {args : Array Value} {below : List Frame} {meth : Method} {c : Code} {T : State} {h : Heap} {n0 : Nat} {v0 : Addr} {u1 : Int32} {u2 : Int32} (C : own_Cx Z a0 p l e own_R11 s m args below meth c "com/example/tidemark/tidemark/table/PlainLine" "numberEnd" prog_87_method_6_code 6 (some .int)) (A : own_At p l e own_R11 s m args below meth c T h n0 0 0) (v3 : Int32) (v4 : Int32) (s0 : Int32) :
    own_Go p.tables e below (T.setTop (mkF m 82 #[.val (.ref v0), .val (.int u1), .val (.int u2), .val (.int v3), .val (.int v4), .unset] [(.int s0)])) (own_QR s n0 0 0 (own_RI h (f11_82 v3 v4 s0))) := by
  unfold f11_82
  refine own_istore C A own_d11_82 (l' := #[.val (.ref v0), .val (.int u1), .val (.int u2), .val (.int v3), .val (.int v4), .val (.int s0)]) rfl rfl ?_
  refine own_iload C A own_d11_84 rfl rfl ?_
  refine own_iloadN C A own_d11_86 rfl rfl ?_
  refine own_ite (fun hc87 => ?_) (fun hc87 => ?_)
  · refine own_icmpN C A own_d11_87 (Jvm.Free.XT.ii_le_f hc87) rfl ?_
    refine own_iload C A own_d11_90 rfl rfl ?_
    refine own_ite (fun hc92 => ?_) (fun hc92 => ?_)
    · refine own_ifN C A own_d11_92 (Jvm.Free.XT.i0_ne_f hc92) rfl ?_
      refine own_iload C A own_d11_95 rfl rfl ?_
      refine own_goto C A own_d11_97 (by decide) (q := 101) (by decide) ?_
      exact own_retI C A own_d11_101 ⟨rfl, rfl⟩
    · refine own_ifY C A own_d11_92 (Jvm.Free.XT.i0_ne_t hc92) (by decide) (q := 100) (by decide) ?_
      refine own_iconst C A own_d11_100 (v := -1) rfl rfl ?_
      exact own_retI C A own_d11_101 ⟨rfl, rfl⟩
  · refine own_icmpY C A own_d11_87 (Jvm.Free.XT.ii_le_t hc87) (by decide) (q := 100) (by decide) ?_
    refine own_iconst C A own_d11_100 (v := -1) rfl rfl ?_
    exact own_retI C A own_d11_101 ⟨rfl, rfl⟩
def f11_81 (v3 : Int32) (v4 : Int32) : Int32 := (f11_82 v3 v4 (0 : Int32))
set_option maxRecDepth 65536 in
set_option maxHeartbeats 4000000 in
theorem w11_81 {Z : State} {a0 : Array Value} {p : Program} {l : Launch} {e : Env} {s : State} {m : MethodId} {args : Array Value} {below : List Frame} {meth : Method} {c : Code} {T : State} {h : Heap} {n0 : Nat} {v0 : Addr} {u1 : Int32} {u2 : Int32} (C : own_Cx Z a0 p l e own_R11 s m args below meth c "com/example/tidemark/tidemark/table/PlainLine" "numberEnd" prog_87_method_6_code 6 (some .int)) (A : own_At p l e own_R11 s m args below meth c T h n0 0 0) (v3 : Int32) (v4 : Int32) :
    own_Go p.tables e below (T.setTop (mkF m 81 #[.val (.ref v0), .val (.int u1), .val (.int u2), .val (.int v3), .val (.int v4), .unset] [])) (own_QR s n0 0 0 (own_RI h (f11_81 v3 v4))) := by
  unfold f11_81
  refine own_iconst C A own_d11_81 (v := 0) rfl rfl ?_
  exact w11_82 C A v3 v4 (0 : Int32)
def f11_58 (v3 : Int32) (v4 : Int32) (xs_r_bytes_v0 : List Int32) : Int32 := (if (1 : Int32) < (v4 - v3) then (if (xs_r_bytes_v0.getD (v3).toNatClampNeg 0) = (48 : Int32) then (f11_82 v3 v4 (1 : Int32)) else (f11_81 v3 v4)) else (f11_81 v3 v4))
set_option maxRecDepth 65536 in
set_option maxHeartbeats 4000000 in
theorem w11_58 {Z : State} {a0 : Array Value} {p : Program} {l : Launch} {e : Env} {s : State} {m : MethodId} {args : Array Value} {below : List Frame} {meth : Method} {c : Code} {T : State} {h : Heap} {n0 : Nat} {v0 : Addr} {u1 : Int32} {u2 : Int32} {r_bytes_v0 : Addr} (C : own_Cx Z a0 p l e own_R11 s m args below meth c "com/example/tidemark/tidemark/table/PlainLine" "numberEnd" prog_87_method_6_code 6 (some .int)) (A : own_At p l e own_R11 s m args below meth c T h n0 0 0) (v3 : Int32) (v4 : Int32) (xs_r_bytes_v0 : List Int32) (F_bytes_v0 : Fld Z h v0 "com/example/tidemark/tidemark/table/PlainLine" "bytes" "[B" (.ref r_bytes_v0)) (E_v0 : Exa Z h v0 "com/example/tidemark/tidemark/table/PlainLine") (V_r_bytes_v0 : own_Ia Z h r_bytes_v0 .byte (40 : Int32) xs_r_bytes_v0) (ha : ¬ v4 < 0) (he : ¬ 40 < v2) (h3 : ¬ v3 < 0 ∧ ¬ v4 < v3 ∧ (v4 = v3 ∨ ¬ v2 < v4)) :
    own_Go p.tables e below (T.setTop (mkF m 58 #[.val (.ref v0), .val (.int u1), .val (.int u2), .val (.int v3), .val (.int v4), .unset] [])) (own_QR s n0 0 0 (own_RI h (f11_58 v3 v4 xs_r_bytes_v0))) := by
  unfold f11_58
  refine own_iload C A own_d11_58 rfl rfl ?_
  refine own_iloadN C A own_d11_60 rfl rfl ?_
  refine own_isub C A own_d11_61 rfl ?_
  refine own_iconst C A own_d11_62 (v := 1) rfl rfl ?_
  refine own_ite (fun hc63 => ?_) (fun hc63 => ?_)
  · refine own_icmpN C A own_d11_63 (Jvm.Free.XT.ii_le_f hc63) rfl ?_
    refine own_aloadN C A own_d11_66 rfl rfl rfl ?_
    refine own_getF C A (own_w C 25 rfl) F_bytes_v0 own_d11_67 rfl (fun T A => ?_)
    refine own_iloadN C A own_d11_70 rfl rfl ?_
    refine own_baload C A V_r_bytes_v0 (own_fst h3 he hc63) (v := (xs_r_bytes_v0.getD (v3).toNatClampNeg 0)) rfl own_d11_71 rfl ?_
    refine own_bipush C A own_d11_72 (v := 48) rfl rfl ?_
    refine own_ite (fun hc74 => ?_) (fun hc74 => ?_)
    · refine own_icmpN C A own_d11_74 (Jvm.Free.XT.ii_ne_f hc74) rfl ?_
      refine own_iconst C A own_d11_77 (v := 1) rfl rfl ?_
      refine own_goto C A own_d11_78 (by decide) (q := 82) (by decide) ?_
      exact w11_82 C A v3 v4 (1 : Int32)
    · refine own_icmpY C A own_d11_74 (Jvm.Free.XT.ii_ne_t hc74) (by decide) (q := 81) (by decide) ?_
      exact w11_81 C A v3 v4
  · refine own_icmpY C A own_d11_63 (Jvm.Free.XT.ii_le_t hc63) (by decide) (q := 81) (by decide) ?_
    exact w11_81 C A v3 v4
def f11_22 (fuel : Nat) (v2 : Int32) (v3 : Int32) (v4 : Int32) (xs_r_bytes_v0 : List Int32) : Int32 := match fuel with
  | 0 => 0
  | fuel + 1 => (if v4 < v2 then (if (xs_r_bytes_v0.getD (v4).toNatClampNeg 0) < (48 : Int32) then (f11_58 v3 v4 xs_r_bytes_v0) else (if (57 : Int32) < (xs_r_bytes_v0.getD (v4).toNatClampNeg 0) then (f11_58 v3 v4 xs_r_bytes_v0) else (f11_22 fuel v2 v3 (v4 + (1 : Int32)) xs_r_bytes_v0))) else (f11_58 v3 v4 xs_r_bytes_v0))
theorem f11_22_succ (fuel : Nat) (v2 : Int32) (v3 : Int32) (v4 : Int32) (xs_r_bytes_v0 : List Int32) : f11_22 (fuel + 1) v2 v3 v4 xs_r_bytes_v0 = (if v4 < v2 then (if (xs_r_bytes_v0.getD (v4).toNatClampNeg 0) < (48 : Int32) then (f11_58 v3 v4 xs_r_bytes_v0) else (if (57 : Int32) < (xs_r_bytes_v0.getD (v4).toNatClampNeg 0) then (f11_58 v3 v4 xs_r_bytes_v0) else (f11_22 fuel v2 v3 (v4 + (1 : Int32)) xs_r_bytes_v0))) else (f11_58 v3 v4 xs_r_bytes_v0)) := rfl
set_option maxRecDepth 65536 in
set_option maxHeartbeats 4000000 in
theorem w11_22 {Z : State} {a0 : Array Value} {p : Program} {l : Launch} {e : Env} {s : State} {m : MethodId} {args : Array Value} {below : List Frame} {meth : Method} {c : Code} {n0 : Nat} (C : own_Cx Z a0 p l e own_R11 s m args below meth c "com/example/tidemark/tidemark/table/PlainLine" "numberEnd" prog_87_method_6_code 6 (some .int)) (fuel : Nat) : ∀ {T : State} {h : Heap} {v0 : Addr} {u1 : Int32} {r_bytes_v0 : Addr} (A : own_At p l e own_R11 s m args below meth c T h n0 0 0) (v2 : Int32) (v3 : Int32) (v4 : Int32) (xs_r_bytes_v0 : List Int32) (F_bytes_v0 : Fld Z h v0 "com/example/tidemark/tidemark/table/PlainLine" "bytes" "[B" (.ref r_bytes_v0)) (E_v0 : Exa Z h v0 "com/example/tidemark/tidemark/table/PlainLine") (V_r_bytes_v0 : own_Ia Z h r_bytes_v0 .byte (40 : Int32) xs_r_bytes_v0) (ha : ¬ v4 < 0) (he : ¬ 40 < v2) (h3 : ¬ v3 < 0 ∧ ¬ v4 < v3 ∧ (v4 = v3 ∨ ¬ v2 < v4)) (hm : (v2.toInt - v4.toInt).toNat < fuel),
    own_Go p.tables e below (T.setTop (mkF m 22 #[.val (.ref v0), .val (.int u1), .val (.int v2), .val (.int v3), .val (.int v4), .unset] [])) (own_QR s n0 0 0 (own_RI h (f11_22 fuel v2 v3 v4 xs_r_bytes_v0))) := by
  induction fuel with
  | zero => intro T h v0 u1 r_bytes_v0 A v2 v3 v4 xs_r_bytes_v0 F_bytes_v0 E_v0 V_r_bytes_v0 ha he h3 hm; exact absurd hm (by omega)
  | succ fuel ih =>
    intro T h v0 u1 r_bytes_v0 A v2 v3 v4 xs_r_bytes_v0 F_bytes_v0 E_v0 V_r_bytes_v0 ha he h3 hm
    rw [f11_22_succ]
    refine own_iload C A own_d11_22 rfl rfl ?_
    refine own_iloadN C A own_d11_24 rfl rfl ?_
    refine own_ite (fun hc25 => ?_) (fun hc25 => ?_)
    · refine own_icmpN C A own_d11_25 (Jvm.Free.XT.ii_ge_f hc25) rfl ?_
      refine own_aloadN C A own_d11_28 rfl rfl rfl ?_
      refine own_getF C A (own_w C 25 rfl) F_bytes_v0 own_d11_29 rfl (fun T A => ?_)
      refine own_iload C A own_d11_32 rfl rfl ?_
      refine own_baload C A V_r_bytes_v0 (own_at ha he hc25) (v := (xs_r_bytes_v0.getD (v4).toNatClampNeg 0)) rfl own_d11_34 rfl ?_
      refine own_bipush C A own_d11_35 (v := 48) rfl rfl ?_
      refine own_ite (fun hc37 => ?_) (fun hc37 => ?_)
      · refine own_icmpY C A own_d11_37 (Jvm.Free.XT.ii_lt_t hc37) (by decide) (q := 58) (by decide) ?_
        exact w11_58 C A v3 v4 xs_r_bytes_v0 F_bytes_v0 E_v0 V_r_bytes_v0 ha he h3
      · refine own_icmpN C A own_d11_37 (Jvm.Free.XT.ii_lt_f hc37) rfl ?_
        refine own_aloadN C A own_d11_40 rfl rfl rfl ?_
        refine own_getF C A (own_w C 25 rfl) F_bytes_v0 own_d11_41 rfl (fun T A => ?_)
        refine own_iload C A own_d11_44 rfl rfl ?_
        refine own_baload C A V_r_bytes_v0 (own_at ha he hc25) (v := (xs_r_bytes_v0.getD (v4).toNatClampNeg 0)) rfl own_d11_46 rfl ?_
        refine own_bipush C A own_d11_47 (v := 57) rfl rfl ?_
        refine own_ite (fun hc49 => ?_) (fun hc49 => ?_)
        · refine own_icmpY C A own_d11_49 (Jvm.Free.XT.ii_gt_t hc49) (by decide) (q := 58) (by decide) ?_
          exact w11_58 C A v3 v4 xs_r_bytes_v0 F_bytes_v0 E_v0 V_r_bytes_v0 ha he h3
        · refine own_icmpN C A own_d11_49 (Jvm.Free.XT.ii_gt_f hc49) rfl ?_
          refine own_iinc C A own_d11_52 rfl (l' := #[.val (.ref v0), .val (.int u1), .val (.int v2), .val (.int v3), .val (.int (v4 + (1 : Int32))), .unset]) rfl rfl ?_
          refine own_goto C A own_d11_55 (by decide) (q := 22) (by decide) ?_
          exact ih A v2 v3 (v4 + (1 : Int32)) xs_r_bytes_v0 F_bytes_v0 E_v0 V_r_bytes_v0 (own_ha ha hc25) he (own_h3 h3 ha hc25) (own_dec ha hc25 hm)
    · refine own_icmpY C A own_d11_25 (Jvm.Free.XT.ii_ge_t hc25) (by decide) (q := 58) (by decide) ?_
      exact w11_58 C A v3 v4 xs_r_bytes_v0 F_bytes_v0 E_v0 V_r_bytes_v0 ha he h3
def f11_18 (v2 : Int32) (s0 : Int32) (xs_r_bytes_v0 : List Int32) : Int32 := (f11_22 42 v2 s0 s0 xs_r_bytes_v0)
set_option maxRecDepth 65536 in
set_option maxHeartbeats 4000000 in
theorem w11_18 {Z : State} {a0 : Array Value} {p : Program} {l : Launch} {e : Env} {s : State} {m : MethodId} {args : Array Value} {below : List Frame} {meth : Method} {c : Code} {T : State} {h : Heap} {n0 : Nat} {v0 : Addr} {u1 : Int32} {r_bytes_v0 : Addr} (C : own_Cx Z a0 p l e own_R11 s m args below meth c "com/example/tidemark/tidemark/table/PlainLine" "numberEnd" prog_87_method_6_code 6 (some .int)) (A : own_At p l e own_R11 s m args below meth c T h n0 0 0) (v2 : Int32) (s0 : Int32) (xs_r_bytes_v0 : List Int32) (F_bytes_v0 : Fld Z h v0 "com/example/tidemark/tidemark/table/PlainLine" "bytes" "[B" (.ref r_bytes_v0)) (E_v0 : Exa Z h v0 "com/example/tidemark/tidemark/table/PlainLine") (V_r_bytes_v0 : own_Ia Z h r_bytes_v0 .byte (40 : Int32) xs_r_bytes_v0) (hs : ¬ s0 < 0) (he : ¬ 40 < v2) :
    own_Go p.tables e below (T.setTop (mkF m 18 #[.val (.ref v0), .val (.int u1), .val (.int v2), .unset, .unset, .unset] [(.int s0)])) (own_QR s n0 0 0 (own_RI h (f11_18 v2 s0 xs_r_bytes_v0))) := by
  unfold f11_18
  refine own_istoreN C A own_d11_18 (l' := #[.val (.ref v0), .val (.int u1), .val (.int v2), .val (.int s0), .unset, .unset]) rfl rfl ?_
  refine own_iloadN C A own_d11_19 rfl rfl ?_
  refine own_istore C A own_d11_20 (l' := #[.val (.ref v0), .val (.int u1), .val (.int v2), .val (.int s0), .val (.int s0), .unset]) rfl rfl ?_
  exact w11_22 C 42 A v2 s0 s0 xs_r_bytes_v0 F_bytes_v0 E_v0 V_r_bytes_v0 hs he ⟨hs, own_refl _, Or.inl rfl⟩ (own_enter hs he)
def f11_0 (v1 : Int32) (v2 : Int32) (xs_r_bytes_v0 : List Int32) : Int32 := (if (f5_0 v1 v2 (45 : Int32) xs_r_bytes_v0) = (0 : Int32) then (f11_18 v2 v1 xs_r_bytes_v0) else (f11_18 v2 (v1 + (1 : Int32)) xs_r_bytes_v0))
set_option maxRecDepth 65536 in
set_option maxHeartbeats 4000000 in
theorem w11_0 {Z : State} {a0 : Array Value} {p : Program} {l : Launch} {e : Env} {s : State} {m : MethodId} {args : Array Value} {below : List Frame} {meth : Method} {c : Code} {T : State} {h : Heap} {n0 : Nat} {v0 : Addr} {r_bytes_v0 : Addr} (C : own_Cx Z a0 p l e own_R11 s m args below meth c "com/example/tidemark/tidemark/table/PlainLine" "numberEnd" prog_87_method_6_code 6 (some .int)) (A : own_At p l e own_R11 s m args below meth c T h n0 0 0) (v1 : Int32) (v2 : Int32) (xs_r_bytes_v0 : List Int32) (F_bytes_v0 : Fld Z h v0 "com/example/tidemark/tidemark/table/PlainLine" "bytes" "[B" (.ref r_bytes_v0)) (E_v0 : Exa Z h v0 "com/example/tidemark/tidemark/table/PlainLine") (V_r_bytes_v0 : own_Ia Z h r_bytes_v0 .byte (40 : Int32) xs_r_bytes_v0) (ha : ¬ v1 < 0) (he : ¬ 40 < v2) :
    own_Go p.tables e below (T.setTop (mkF m 0 #[.val (.ref v0), .val (.int v1), .val (.int v2), .unset, .unset, .unset] [])) (own_QR s n0 0 0 (own_RI h (f11_0 v1 v2 xs_r_bytes_v0))) := by
  unfold f11_0
  refine own_aloadN C A own_d11_0 rfl rfl rfl ?_
  refine own_iloadN C A own_d11_1 rfl rfl ?_
  refine own_iloadN C A own_d11_2 rfl rfl ?_
  refine own_bipush C A own_d11_3 (v := 45) rfl rfl ?_
  refine own_callPI C A 0 [(.int v1), (.int v2), (.int (45 : Int32))] [] (own_w C 35 rfl) (own_w C 36 rfl) (own_w C 37 rfl) (own_w C 9 rfl) (own_w C 10 rfl) (own_w C 38 rfl) (by decide) E_v0 (rm5 l Z a0 C.2.2.2.2.2.2.2.2 [] v0 v1 v2 (45 : Int32) xs_r_bytes_v0 r_bytes_v0 _ _ (own_size A) F_bytes_v0 E_v0 V_r_bytes_v0 ha he) rfl rfl (by decide) (by decide) (by decide) (by decide) own_pd4 rfl rfl rfl (Nat.le_of_eq rfl) rfl own_d11_5 rfl (fun T A => ?_)
  refine own_ite (fun hc8 => ?_) (fun hc8 => ?_)
  · refine own_ifY C A own_d11_8 (Jvm.Free.XT.i0_eq_t hc8) (by decide) (q := 17) (by decide) ?_
    refine own_iloadN C A own_d11_17 rfl rfl ?_
    exact w11_18 C A v2 v1 xs_r_bytes_v0 F_bytes_v0 E_v0 V_r_bytes_v0 ha he
  · refine own_ifN C A own_d11_8 (Jvm.Free.XT.i0_eq_f hc8) rfl ?_
    refine own_iloadN C A own_d11_11 rfl rfl ?_
    refine own_iconst C A own_d11_12 (v := 1) rfl rfl ?_
    refine own_iadd C A own_d11_13 rfl ?_
    refine own_goto C A own_d11_14 (by decide) (q := 18) (by decide) ?_
    exact w11_18 C A v2 (v1 + (1 : Int32)) xs_r_bytes_v0 F_bytes_v0 E_v0 V_r_bytes_v0 (own_h1 ha (own_is hc8)) he
theorem own_ef11 (m : MethodId) (v0 : Addr) (v1 : Int32) (v2 : Int32) : entryFrame m #[(.ref v0), (.int v1), (.int v2)] 6 = mkF m 0 #[.val (.ref v0), .val (.int v1), .val (.int v2), .unset, .unset, .unset] [] := by first | (simp [entryFrame, mkF, argsToLocals, Value.category]; done) | rfl
theorem rm11 (l : Launch) (Z : State) (a0 : Array Value) (hw : ∀ d ∈ tables_1, d.before a0 Z = true) (ws : List Jvm.Cond) (v0 : Addr) (v1 : Int32) (v2 : Int32) (xs_r_bytes_v0 : List Int32) (r_bytes_v0 : Addr) (h : Heap) (n0 : Nat) (hn : n0 ≤ h.size) (F_bytes_v0 : Fld Z h v0 "com/example/tidemark/tidemark/table/PlainLine" "bytes" "[B" (.ref r_bytes_v0)) (E_v0 : Exa Z h v0 "com/example/tidemark/tidemark/table/PlainLine") (V_r_bytes_v0 : own_Ia Z h r_bytes_v0 .byte (40 : Int32) xs_r_bytes_v0) (ha : ¬ v1 < 0) (he : ¬ 40 < v2) :
    MetFree l (⟨"com/example/tidemark/tidemark/table/PlainLine", "numberEnd", "(II)I"⟩ : MethodName) (head1 (Jvm.Cond.code (⟨"com/example/tidemark/tidemark/table/PlainLine", "numberEnd", "(II)I"⟩ : MethodName) prog_87_method_6_code 6 (some .int) :: ws) own_R11) (fun a U => a = #[(.ref v0), (.int v1), (.int v2)] ∧ Z.Warmed39 U.vm ∧ U.heap = h) (fun _ _ _ _ _ => True) (fun _ U o U' => own_QR U n0 0 0 (own_RI h (f11_0 v1 v2 xs_r_bytes_v0)) o U') :=
  own_met (plainFor_of_name (by first | (simp [plainName, overriddenIn]; done) | decide +kernel)) hw hn (fun m => own_ef11 m v0 v1 v2) (fun p e s m below meth c T C A => w11_0 C A v1 v2 xs_r_bytes_v0 F_bytes_v0 E_v0 V_r_bytes_v0 ha he)
/-! PlainLine.count -/
theorem own_d12_0 : decode prog_87_method_8_code 0 = .ok (.aload_n 0, 1) := by decide +kernel
theorem own_d12_1 : decode prog_87_method_8_code 1 = .ok (.getfield 17, 3) := by decide +kernel
theorem own_d12_4 : decode prog_87_method_8_code 4 = .ok (.ireturn, 1) := by decide +kernel
def own_R12 : Room := { frames := 0, cells := 0, slots := 0, locals := 0 }
def f12_0 (count_v0 : Int32) : Int32 := count_v0
set_option maxRecDepth 65536 in
set_option maxHeartbeats 4000000 in
theorem w12_0 {Z : State} {a0 : Array Value} {p : Program} {l : Launch} {e : Env} {s : State} {m : MethodId} {args : Array Value} {below : List Frame} {meth : Method} {c : Code} {T : State} {h : Heap} {n0 : Nat} {v0 : Addr} (C : own_Cx Z a0 p l e own_R12 s m args below meth c "com/example/tidemark/tidemark/table/PlainLine" "count" prog_87_method_8_code 1 (some .int)) (A : own_At p l e own_R12 s m args below meth c T h n0 0 0) (count_v0 : Int32) (F_count_v0 : Fld Z h v0 "com/example/tidemark/tidemark/table/PlainLine" "count" "I" (.int count_v0)) (E_v0 : Exa Z h v0 "com/example/tidemark/tidemark/table/PlainLine") :
    own_Go p.tables e below (T.setTop (mkF m 0 #[.val (.ref v0)] [])) (own_QR s n0 0 0 (own_RI h (f12_0 count_v0))) := by
  unfold f12_0
  refine own_aloadN C A own_d12_0 rfl rfl rfl ?_
  refine own_getF C A (own_w C 27 rfl) F_count_v0 own_d12_1 rfl (fun T A => ?_)
  exact own_retI C A own_d12_4 ⟨rfl, rfl⟩
theorem own_ef12 (m : MethodId) (v0 : Addr) : entryFrame m #[(.ref v0)] 1 = mkF m 0 #[.val (.ref v0)] [] := by first | (simp [entryFrame, mkF, argsToLocals, Value.category]; done) | rfl
theorem rm12 (l : Launch) (Z : State) (a0 : Array Value) (hw : ∀ d ∈ tables_1, d.before a0 Z = true) (ws : List Jvm.Cond) (v0 : Addr) (count_v0 : Int32) (h : Heap) (n0 : Nat) (hn : n0 ≤ h.size) (F_count_v0 : Fld Z h v0 "com/example/tidemark/tidemark/table/PlainLine" "count" "I" (.int count_v0)) (E_v0 : Exa Z h v0 "com/example/tidemark/tidemark/table/PlainLine") :
    MetFree l (⟨"com/example/tidemark/tidemark/table/PlainLine", "count", "()I"⟩ : MethodName) (head1 (Jvm.Cond.code (⟨"com/example/tidemark/tidemark/table/PlainLine", "count", "()I"⟩ : MethodName) prog_87_method_8_code 1 (some .int) :: ws) own_R12) (fun a U => a = #[(.ref v0)] ∧ Z.Warmed39 U.vm ∧ U.heap = h) (fun _ _ _ _ _ => True) (fun _ U o U' => own_QR U n0 0 0 (own_RI h (f12_0 count_v0)) o U') :=
  own_met (plainFor_of_name (by first | (simp [plainName, overriddenIn]; done) | decide +kernel)) hw hn (fun m => own_ef12 m v0) (fun p e s m below meth c T C A => w12_0 C A count_v0 F_count_v0 E_v0)
/-! PlainLine.nameLength -/
theorem own_d13_0 : decode prog_87_method_10_code 0 = .ok (.aload_n 0, 1) := by decide +kernel
theorem own_d13_1 : decode prog_87_method_10_code 1 = .ok (.getfield 7, 3) := by decide +kernel
theorem own_d13_4 : decode prog_87_method_10_code 4 = .ok (.iload_n 1, 1) := by decide +kernel
theorem own_d13_5 : decode prog_87_method_10_code 5 = .ok (.iconst 4, 1) := by decide +kernel
theorem own_d13_6 : decode prog_87_method_10_code 6 = .ok (.imul, 1) := by decide +kernel
theorem own_d13_7 : decode prog_87_method_10_code 7 = .ok (.iconst 1, 1) := by decide +kernel
theorem own_d13_8 : decode prog_87_method_10_code 8 = .ok (.iadd, 1) := by decide +kernel
theorem own_d13_9 : decode prog_87_method_10_code 9 = .ok (.iaload, 1) := by decide +kernel
theorem own_d13_10 : decode prog_87_method_10_code 10 = .ok (.aload_n 0, 1) := by decide +kernel
theorem own_d13_11 : decode prog_87_method_10_code 11 = .ok (.getfield 7, 3) := by decide +kernel
theorem own_d13_14 : decode prog_87_method_10_code 14 = .ok (.iload_n 1, 1) := by decide +kernel
theorem own_d13_15 : decode prog_87_method_10_code 15 = .ok (.iconst 4, 1) := by decide +kernel
theorem own_d13_16 : decode prog_87_method_10_code 16 = .ok (.imul, 1) := by decide +kernel
theorem own_d13_17 : decode prog_87_method_10_code 17 = .ok (.iaload, 1) := by decide +kernel
theorem own_d13_18 : decode prog_87_method_10_code 18 = .ok (.isub, 1) := by decide +kernel
theorem own_d13_19 : decode prog_87_method_10_code 19 = .ok (.ireturn, 1) := by decide +kernel
def own_R13 : Room := { frames := 0, cells := 0, slots := 0, locals := 0 }
def f13_0 (v1 : Int32) (xs_r_tokens_v0 : List Int32) : Int32 := ((xs_r_tokens_v0.getD (((v1 * (4 : Int32)) + (1 : Int32))).toNatClampNeg 0) - (xs_r_tokens_v0.getD ((v1 * (4 : Int32))).toNatClampNeg 0))
set_option maxRecDepth 65536 in
set_option maxHeartbeats 4000000 in
theorem w13_0 {Z : State} {a0 : Array Value} {p : Program} {l : Launch} {e : Env} {s : State} {m : MethodId} {args : Array Value} {below : List Frame} {meth : Method} {c : Code} {T : State} {h : Heap} {n0 : Nat} {v0 : Addr} {r_tokens_v0 : Addr} (C : own_Cx Z a0 p l e own_R13 s m args below meth c "com/example/tidemark/tidemark/table/PlainLine" "nameLength" prog_87_method_10_code 2 (some .int)) (A : own_At p l e own_R13 s m args below meth c T h n0 0 0) (v1 : Int32) (xs_r_tokens_v0 : List Int32) (F_tokens_v0 : Fld Z h v0 "com/example/tidemark/tidemark/table/PlainLine" "tokens" "[I" (.ref r_tokens_v0)) (E_v0 : Exa Z h v0 "com/example/tidemark/tidemark/table/PlainLine") (V_r_tokens_v0 : own_Ia Z h r_tokens_v0 .int (16 : Int32) xs_r_tokens_v0) (h1 : ¬ ((v1 * (4 : Int32)) + (1 : Int32)) < 0 ∧ ((v1 * (4 : Int32)) + (1 : Int32)) < 16) (h2 : ¬ (v1 * (4 : Int32)) < 0 ∧ (v1 * (4 : Int32)) < 16) :
    own_Go p.tables e below (T.setTop (mkF m 0 #[.val (.ref v0), .val (.int v1)] [])) (own_QR s n0 0 0 (own_RI h (f13_0 v1 xs_r_tokens_v0))) := by
  unfold f13_0
  refine own_aloadN C A own_d13_0 rfl rfl rfl ?_
  refine own_getF C A (own_w C 18 rfl) F_tokens_v0 own_d13_1 rfl (fun T A => ?_)
  refine own_iloadN C A own_d13_4 rfl rfl ?_
  refine own_iconst C A own_d13_5 (v := 4) rfl rfl ?_
  refine own_imul C A own_d13_6 rfl ?_
  refine own_iconst C A own_d13_7 (v := 1) rfl rfl ?_
  refine own_iadd C A own_d13_8 rfl ?_
  refine own_iaload C A V_r_tokens_v0 h1 (v := (xs_r_tokens_v0.getD (((v1 * (4 : Int32)) + (1 : Int32))).toNatClampNeg 0)) rfl own_d13_9 rfl ?_
  refine own_aloadN C A own_d13_10 rfl rfl rfl ?_
  refine own_getF C A (own_w C 18 rfl) F_tokens_v0 own_d13_11 rfl (fun T A => ?_)
  refine own_iloadN C A own_d13_14 rfl rfl ?_
  refine own_iconst C A own_d13_15 (v := 4) rfl rfl ?_
  refine own_imul C A own_d13_16 rfl ?_
  refine own_iaload C A V_r_tokens_v0 h2 (v := (xs_r_tokens_v0.getD ((v1 * (4 : Int32))).toNatClampNeg 0)) rfl own_d13_17 rfl ?_
  refine own_isub C A own_d13_18 rfl ?_
  exact own_retI C A own_d13_19 ⟨rfl, rfl⟩
theorem own_ef13 (m : MethodId) (v0 : Addr) (v1 : Int32) : entryFrame m #[(.ref v0), (.int v1)] 2 = mkF m 0 #[.val (.ref v0), .val (.int v1)] [] := by first | (simp [entryFrame, mkF, argsToLocals, Value.category]; done) | rfl
theorem rm13 (l : Launch) (Z : State) (a0 : Array Value) (hw : ∀ d ∈ tables_1, d.before a0 Z = true) (ws : List Jvm.Cond) (v0 : Addr) (v1 : Int32) (xs_r_tokens_v0 : List Int32) (r_tokens_v0 : Addr) (h : Heap) (n0 : Nat) (hn : n0 ≤ h.size) (F_tokens_v0 : Fld Z h v0 "com/example/tidemark/tidemark/table/PlainLine" "tokens" "[I" (.ref r_tokens_v0)) (E_v0 : Exa Z h v0 "com/example/tidemark/tidemark/table/PlainLine") (V_r_tokens_v0 : own_Ia Z h r_tokens_v0 .int (16 : Int32) xs_r_tokens_v0) (h1 : ¬ ((v1 * (4 : Int32)) + (1 : Int32)) < 0 ∧ ((v1 * (4 : Int32)) + (1 : Int32)) < 16) (h2 : ¬ (v1 * (4 : Int32)) < 0 ∧ (v1 * (4 : Int32)) < 16) :
    MetFree l (⟨"com/example/tidemark/tidemark/table/PlainLine", "nameLength", "(I)I"⟩ : MethodName) (head1 (Jvm.Cond.code (⟨"com/example/tidemark/tidemark/table/PlainLine", "nameLength", "(I)I"⟩ : MethodName) prog_87_method_10_code 2 (some .int) :: ws) own_R13) (fun a U => a = #[(.ref v0), (.int v1)] ∧ Z.Warmed39 U.vm ∧ U.heap = h) (fun _ _ _ _ _ => True) (fun _ U o U' => own_QR U n0 0 0 (own_RI h (f13_0 v1 xs_r_tokens_v0)) o U') :=
  own_met (plainFor_of_name (by first | (simp [plainName, overriddenIn]; done) | decide +kernel)) hw hn (fun m => own_ef13 m v0 v1) (fun p e s m below meth c T C A => w13_0 C A v1 xs_r_tokens_v0 F_tokens_v0 E_v0 V_r_tokens_v0 h1 h2)
/-! PlainLine.find -/
theorem own_d14_0 : decode prog_87_method_2_code 0 = .ok (.aload_n 0, 1) := by decide +kernel
theorem own_d14_1 : decode prog_87_method_2_code 1 = .ok (.aload_n 1, 1) := by decide +kernel
theorem own_d14_2 : decode prog_87_method_2_code 2 = .ok (.putfield 13, 3) := by decide +kernel
theorem own_d14_5 : decode prog_87_method_2_code 5 = .ok (.aload_n 0, 1) := by decide +kernel
theorem own_d14_6 : decode prog_87_method_2_code 6 = .ok (.iconst 0, 1) := by decide +kernel
theorem own_d14_7 : decode prog_87_method_2_code 7 = .ok (.putfield 17, 3) := by decide +kernel
theorem own_d14_10 : decode prog_87_method_2_code 10 = .ok (.iload_n 2, 1) := by decide +kernel
theorem own_d14_11 : decode prog_87_method_2_code 11 = .ok (.iload_n 3, 1) := by decide +kernel
theorem own_d14_12 : decode prog_87_method_2_code 12 = .ok (.iadd, 1) := by decide +kernel
theorem own_d14_13 : decode prog_87_method_2_code 13 = .ok (.istore 4, 2) := by decide +kernel
theorem own_d14_15 : decode prog_87_method_2_code 15 = .ok (.iload_n 2, 1) := by decide +kernel
theorem own_d14_16 : decode prog_87_method_2_code 16 = .ok (.istore 5, 2) := by decide +kernel
theorem own_d14_18 : decode prog_87_method_2_code 18 = .ok (.iload 5, 2) := by decide +kernel
theorem own_d14_20 : decode prog_87_method_2_code 20 = .ok (.iload 4, 2) := by decide +kernel
theorem own_d14_22 : decode prog_87_method_2_code 22 = .ok (.if_icmp .eq 15, 3) := by decide +kernel
theorem own_d14_25 : decode prog_87_method_2_code 25 = .ok (.aload_n 1, 1) := by decide +kernel
theorem own_d14_26 : decode prog_87_method_2_code 26 = .ok (.iload 5, 2) := by decide +kernel
theorem own_d14_28 : decode prog_87_method_2_code 28 = .ok (.iinc 5 1, 3) := by decide +kernel
theorem own_d14_31 : decode prog_87_method_2_code 31 = .ok (.baload, 1) := by decide +kernel
theorem own_d14_32 : decode prog_87_method_2_code 32 = .ok (.bipush 123, 2) := by decide +kernel
theorem own_d14_34 : decode prog_87_method_2_code 34 = .ok (.if_icmp .eq 5, 3) := by decide +kernel
theorem own_d14_39 : decode prog_87_method_2_code 39 = .ok (.aload_n 0, 1) := by decide +kernel
theorem own_d14_40 : decode prog_87_method_2_code 40 = .ok (.iload 5, 2) := by decide +kernel
theorem own_d14_42 : decode prog_87_method_2_code 42 = .ok (.iconst 1, 1) := by decide +kernel
theorem own_d14_43 : decode prog_87_method_2_code 43 = .ok (.iadd, 1) := by decide +kernel
theorem own_d14_44 : decode prog_87_method_2_code 44 = .ok (.putfield 21, 3) := by decide +kernel
theorem own_d14_47 : decode prog_87_method_2_code 47 = .ok (.aload_n 0, 1) := by decide +kernel
theorem own_d14_48 : decode prog_87_method_2_code 48 = .ok (.iload 5, 2) := by decide +kernel
theorem own_d14_50 : decode prog_87_method_2_code 50 = .ok (.iload 4, 2) := by decide +kernel
theorem own_d14_52 : decode prog_87_method_2_code 52 = .ok (.invokevirtual 24, 3) := by decide +kernel
theorem own_d14_55 : decode prog_87_method_2_code 55 = .ok (.istore 5, 2) := by decide +kernel
theorem own_d14_57 : decode prog_87_method_2_code 57 = .ok (.aload_n 0, 1) := by decide +kernel
theorem own_d14_58 : decode prog_87_method_2_code 58 = .ok (.iload 5, 2) := by decide +kernel
theorem own_d14_60 : decode prog_87_method_2_code 60 = .ok (.iconst 1, 1) := by decide +kernel
theorem own_d14_61 : decode prog_87_method_2_code 61 = .ok (.isub, 1) := by decide +kernel
theorem own_d14_62 : decode prog_87_method_2_code 62 = .ok (.putfield 28, 3) := by decide +kernel
theorem own_d14_65 : decode prog_87_method_2_code 65 = .ok (.iload 5, 2) := by decide +kernel
theorem own_d14_67 : decode prog_87_method_2_code 67 = .ok (.ifCond .lt 31, 3) := by decide +kernel
theorem own_d14_70 : decode prog_87_method_2_code 70 = .ok (.aload_n 0, 1) := by decide +kernel
theorem own_d14_71 : decode prog_87_method_2_code 71 = .ok (.iload 5, 2) := by decide +kernel
theorem own_d14_73 : decode prog_87_method_2_code 73 = .ok (.iload 4, 2) := by decide +kernel
theorem own_d14_75 : decode prog_87_method_2_code 75 = .ok (.bipush 58, 2) := by decide +kernel
theorem own_d14_77 : decode prog_87_method_2_code 77 = .ok (.invokevirtual 31, 3) := by decide +kernel
theorem own_d14_80 : decode prog_87_method_2_code 80 = .ok (.ifCond .eq 18, 3) := by decide +kernel
theorem own_d14_83 : decode prog_87_method_2_code 83 = .ok (.aload_n 0, 1) := by decide +kernel
theorem own_d14_84 : decode prog_87_method_2_code 84 = .ok (.iload 5, 2) := by decide +kernel
theorem own_d14_86 : decode prog_87_method_2_code 86 = .ok (.iconst 1, 1) := by decide +kernel
theorem own_d14_87 : decode prog_87_method_2_code 87 = .ok (.iadd, 1) := by decide +kernel
theorem own_d14_88 : decode prog_87_method_2_code 88 = .ok (.iload 4, 2) := by decide +kernel
theorem own_d14_90 : decode prog_87_method_2_code 90 = .ok (.bipush 123, 2) := by decide +kernel
theorem own_d14_92 : decode prog_87_method_2_code 92 = .ok (.invokevirtual 31, 3) := by decide +kernel
theorem own_d14_95 : decode prog_87_method_2_code 95 = .ok (.ifCond .ne 5, 3) := by decide +kernel
theorem own_d14_100 : decode prog_87_method_2_code 100 = .ok (.iinc 5 2, 3) := by decide +kernel
theorem own_d14_103 : decode prog_87_method_2_code 103 = .ok (.aload_n 0, 1) := by decide +kernel
theorem own_d14_104 : decode prog_87_method_2_code 104 = .ok (.iload 5, 2) := by decide +kernel
theorem own_d14_106 : decode prog_87_method_2_code 106 = .ok (.iload 4, 2) := by decide +kernel
theorem own_d14_108 : decode prog_87_method_2_code 108 = .ok (.bipush 125, 2) := by decide +kernel
theorem own_d14_110 : decode prog_87_method_2_code 110 = .ok (.invokevirtual 31, 3) := by decide +kernel
theorem own_d14_113 : decode prog_87_method_2_code 113 = .ok (.ifCond .eq 9, 3) := by decide +kernel
theorem own_d14_122 : decode prog_87_method_2_code 122 = .ok (.aload_n 0, 1) := by decide +kernel
theorem own_d14_123 : decode prog_87_method_2_code 123 = .ok (.getfield 17, 3) := by decide +kernel
theorem own_d14_126 : decode prog_87_method_2_code 126 = .ok (.iconst 4, 1) := by decide +kernel
theorem own_d14_127 : decode prog_87_method_2_code 127 = .ok (.imul, 1) := by decide +kernel
theorem own_d14_128 : decode prog_87_method_2_code 128 = .ok (.aload_n 0, 1) := by decide +kernel
theorem own_d14_129 : decode prog_87_method_2_code 129 = .ok (.getfield 7, 3) := by decide +kernel
theorem own_d14_132 : decode prog_87_method_2_code 132 = .ok (.arraylength, 1) := by decide +kernel
theorem own_d14_133 : decode prog_87_method_2_code 133 = .ok (.if_icmp .ne 21, 3) := by decide +kernel
theorem own_d14_136 : decode prog_87_method_2_code 136 = .ok (.aload_n 0, 1) := by decide +kernel
theorem own_d14_137 : decode prog_87_method_2_code 137 = .ok (.aload_n 0, 1) := by decide +kernel
theorem own_d14_138 : decode prog_87_method_2_code 138 = .ok (.getfield 7, 3) := by decide +kernel
theorem own_d14_141 : decode prog_87_method_2_code 141 = .ok (.iconst 2, 1) := by decide +kernel
theorem own_d14_142 : decode prog_87_method_2_code 142 = .ok (.aload_n 0, 1) := by decide +kernel
theorem own_d14_143 : decode prog_87_method_2_code 143 = .ok (.getfield 7, 3) := by decide +kernel
theorem own_d14_146 : decode prog_87_method_2_code 146 = .ok (.arraylength, 1) := by decide +kernel
theorem own_d14_147 : decode prog_87_method_2_code 147 = .ok (.imul, 1) := by decide +kernel
theorem own_d14_148 : decode prog_87_method_2_code 148 = .ok (.invokestatic 35, 3) := by decide +kernel
theorem own_d14_151 : decode prog_87_method_2_code 151 = .ok (.putfield 7, 3) := by decide +kernel
theorem own_d14_154 : decode prog_87_method_2_code 154 = .ok (.aload_n 0, 1) := by decide +kernel
theorem own_d14_155 : decode prog_87_method_2_code 155 = .ok (.getfield 17, 3) := by decide +kernel
theorem own_d14_158 : decode prog_87_method_2_code 158 = .ok (.iconst 4, 1) := by decide +kernel
theorem own_d14_159 : decode prog_87_method_2_code 159 = .ok (.imul, 1) := by decide +kernel
theorem own_d14_160 : decode prog_87_method_2_code 160 = .ok (.istore 6, 2) := by decide +kernel
theorem own_d14_162 : decode prog_87_method_2_code 162 = .ok (.aload_n 0, 1) := by decide +kernel
theorem own_d14_163 : decode prog_87_method_2_code 163 = .ok (.getfield 7, 3) := by decide +kernel
theorem own_d14_166 : decode prog_87_method_2_code 166 = .ok (.iload 6, 2) := by decide +kernel
theorem own_d14_168 : decode prog_87_method_2_code 168 = .ok (.iload 5, 2) := by decide +kernel
theorem own_d14_170 : decode prog_87_method_2_code 170 = .ok (.iconst 1, 1) := by decide +kernel
theorem own_d14_171 : decode prog_87_method_2_code 171 = .ok (.iadd, 1) := by decide +kernel
theorem own_d14_172 : decode prog_87_method_2_code 172 = .ok (.iastore, 1) := by decide +kernel
theorem own_d14_173 : decode prog_87_method_2_code 173 = .ok (.aload_n 0, 1) := by decide +kernel
theorem own_d14_174 : decode prog_87_method_2_code 174 = .ok (.iload 5, 2) := by decide +kernel
theorem own_d14_176 : decode prog_87_method_2_code 176 = .ok (.iload 4, 2) := by decide +kernel
theorem own_d14_178 : decode prog_87_method_2_code 178 = .ok (.invokevirtual 24, 3) := by decide +kernel
theorem own_d14_181 : decode prog_87_method_2_code 181 = .ok (.istore 5, 2) := by decide +kernel
theorem own_d14_183 : decode prog_87_method_2_code 183 = .ok (.iload 5, 2) := by decide +kernel
theorem own_d14_185 : decode prog_87_method_2_code 185 = .ok (.ifCond .lt 16, 3) := by decide +kernel
theorem own_d14_188 : decode prog_87_method_2_code 188 = .ok (.aload_n 0, 1) := by decide +kernel
theorem own_d14_189 : decode prog_87_method_2_code 189 = .ok (.iload 5, 2) := by decide +kernel
theorem own_d14_191 : decode prog_87_method_2_code 191 = .ok (.iload 4, 2) := by decide +kernel
theorem own_d14_193 : decode prog_87_method_2_code 193 = .ok (.bipush 58, 2) := by decide +kernel
theorem own_d14_195 : decode prog_87_method_2_code 195 = .ok (.invokevirtual 31, 3) := by decide +kernel
theorem own_d14_198 : decode prog_87_method_2_code 198 = .ok (.ifCond .ne 5, 3) := by decide +kernel
theorem own_d14_203 : decode prog_87_method_2_code 203 = .ok (.aload_n 0, 1) := by decide +kernel
theorem own_d14_204 : decode prog_87_method_2_code 204 = .ok (.getfield 7, 3) := by decide +kernel
theorem own_d14_207 : decode prog_87_method_2_code 207 = .ok (.iload 6, 2) := by decide +kernel
theorem own_d14_209 : decode prog_87_method_2_code 209 = .ok (.iconst 1, 1) := by decide +kernel
theorem own_d14_210 : decode prog_87_method_2_code 210 = .ok (.iadd, 1) := by decide +kernel
theorem own_d14_211 : decode prog_87_method_2_code 211 = .ok (.iload 5, 2) := by decide +kernel
theorem own_d14_213 : decode prog_87_method_2_code 213 = .ok (.iconst 1, 1) := by decide +kernel
theorem own_d14_214 : decode prog_87_method_2_code 214 = .ok (.isub, 1) := by decide +kernel
theorem own_d14_215 : decode prog_87_method_2_code 215 = .ok (.iastore, 1) := by decide +kernel
theorem own_d14_216 : decode prog_87_method_2_code 216 = .ok (.iinc 5 1, 3) := by decide +kernel
theorem own_d14_219 : decode prog_87_method_2_code 219 = .ok (.aload_n 0, 1) := by decide +kernel
theorem own_d14_220 : decode prog_87_method_2_code 220 = .ok (.iload 5, 2) := by decide +kernel
theorem own_d14_222 : decode prog_87_method_2_code 222 = .ok (.iload 4, 2) := by decide +kernel
theorem own_d14_224 : decode prog_87_method_2_code 224 = .ok (.bipush 34, 2) := by decide +kernel
theorem own_d14_226 : decode prog_87_method_2_code 226 = .ok (.invokevirtual 31, 3) := by decide +kernel
theorem own_d14_229 : decode prog_87_method_2_code 229 = .ok (.istore 7, 2) := by decide +kernel
theorem own_d14_231 : decode prog_87_method_2_code 231 = .ok (.iload 7, 2) := by decide +kernel
theorem own_d14_233 : decode prog_87_method_2_code 233 = .ok (.ifCond .eq 14, 3) := by decide +kernel
theorem own_d14_236 : decode prog_87_method_2_code 236 = .ok (.aload_n 0, 1) := by decide +kernel
theorem own_d14_237 : decode prog_87_method_2_code 237 = .ok (.iload 5, 2) := by decide +kernel
theorem own_d14_239 : decode prog_87_method_2_code 239 = .ok (.iload 4, 2) := by decide +kernel
theorem own_d14_241 : decode prog_87_method_2_code 241 = .ok (.invokevirtual 24, 3) := by decide +kernel
theorem own_d14_244 : decode prog_87_method_2_code 244 = .ok (.goto 11, 3) := by decide +kernel
theorem own_d14_247 : decode prog_87_method_2_code 247 = .ok (.aload_n 0, 1) := by decide +kernel
theorem own_d14_248 : decode prog_87_method_2_code 248 = .ok (.iload 5, 2) := by decide +kernel
theorem own_d14_250 : decode prog_87_method_2_code 250 = .ok (.iload 4, 2) := by decide +kernel
theorem own_d14_252 : decode prog_87_method_2_code 252 = .ok (.invokevirtual 41, 3) := by decide +kernel
theorem own_d14_255 : decode prog_87_method_2_code 255 = .ok (.istore 8, 2) := by decide +kernel
theorem own_d14_257 : decode prog_87_method_2_code 257 = .ok (.iload 8, 2) := by decide +kernel
theorem own_d14_259 : decode prog_87_method_2_code 259 = .ok (.ifCond .ge 5, 3) := by decide +kernel
theorem own_d14_264 : decode prog_87_method_2_code 264 = .ok (.aload_n 0, 1) := by decide +kernel
theorem own_d14_265 : decode prog_87_method_2_code 265 = .ok (.getfield 7, 3) := by decide +kernel
theorem own_d14_268 : decode prog_87_method_2_code 268 = .ok (.iload 6, 2) := by decide +kernel
theorem own_d14_270 : decode prog_87_method_2_code 270 = .ok (.iconst 2, 1) := by decide +kernel
theorem own_d14_271 : decode prog_87_method_2_code 271 = .ok (.iadd, 1) := by decide +kernel
theorem own_d14_272 : decode prog_87_method_2_code 272 = .ok (.iload 7, 2) := by decide +kernel
theorem own_d14_274 : decode prog_87_method_2_code 274 = .ok (.ifCond .eq 10, 3) := by decide +kernel
theorem own_d14_277 : decode prog_87_method_2_code 277 = .ok (.iload 5, 2) := by decide +kernel
theorem own_d14_279 : decode prog_87_method_2_code 279 = .ok (.iconst 1, 1) := by decide +kernel
theorem own_d14_280 : decode prog_87_method_2_code 280 = .ok (.iadd, 1) := by decide +kernel
theorem own_d14_281 : decode prog_87_method_2_code 281 = .ok (.goto 5, 3) := by decide +kernel
theorem own_d14_284 : decode prog_87_method_2_code 284 = .ok (.iload 5, 2) := by decide +kernel
theorem own_d14_286 : decode prog_87_method_2_code 286 = .ok (.iastore, 1) := by decide +kernel
theorem own_d14_287 : decode prog_87_method_2_code 287 = .ok (.aload_n 0, 1) := by decide +kernel
theorem own_d14_288 : decode prog_87_method_2_code 288 = .ok (.getfield 7, 3) := by decide +kernel
theorem own_d14_291 : decode prog_87_method_2_code 291 = .ok (.iload 6, 2) := by decide +kernel
theorem own_d14_293 : decode prog_87_method_2_code 293 = .ok (.iconst 3, 1) := by decide +kernel
theorem own_d14_294 : decode prog_87_method_2_code 294 = .ok (.iadd, 1) := by decide +kernel
theorem own_d14_295 : decode prog_87_method_2_code 295 = .ok (.iload 7, 2) := by decide +kernel
theorem own_d14_297 : decode prog_87_method_2_code 297 = .ok (.ifCond .eq 10, 3) := by decide +kernel
theorem own_d14_300 : decode prog_87_method_2_code 300 = .ok (.iload 8, 2) := by decide +kernel
theorem own_d14_302 : decode prog_87_method_2_code 302 = .ok (.iconst 1, 1) := by decide +kernel
theorem own_d14_303 : decode prog_87_method_2_code 303 = .ok (.isub, 1) := by decide +kernel
theorem own_d14_304 : decode prog_87_method_2_code 304 = .ok (.goto 5, 3) := by decide +kernel
theorem own_d14_307 : decode prog_87_method_2_code 307 = .ok (.iload 8, 2) := by decide +kernel
theorem own_d14_309 : decode prog_87_method_2_code 309 = .ok (.iastore, 1) := by decide +kernel
theorem own_d14_310 : decode prog_87_method_2_code 310 = .ok (.aload_n 0, 1) := by decide +kernel
theorem own_d14_311 : decode prog_87_method_2_code 311 = .ok (.dup, 1) := by decide +kernel
theorem own_d14_312 : decode prog_87_method_2_code 312 = .ok (.getfield 17, 3) := by decide +kernel
theorem own_d14_315 : decode prog_87_method_2_code 315 = .ok (.iconst 1, 1) := by decide +kernel
theorem own_d14_316 : decode prog_87_method_2_code 316 = .ok (.iadd, 1) := by decide +kernel
theorem own_d14_317 : decode prog_87_method_2_code 317 = .ok (.putfield 17, 3) := by decide +kernel
theorem own_d14_320 : decode prog_87_method_2_code 320 = .ok (.iload 8, 2) := by decide +kernel
theorem own_d14_322 : decode prog_87_method_2_code 322 = .ok (.istore 5, 2) := by decide +kernel
theorem own_d14_324 : decode prog_87_method_2_code 324 = .ok (.aload_n 0, 1) := by decide +kernel
theorem own_d14_325 : decode prog_87_method_2_code 325 = .ok (.iload 5, 2) := by decide +kernel
theorem own_d14_327 : decode prog_87_method_2_code 327 = .ok (.iload 4, 2) := by decide +kernel
theorem own_d14_329 : decode prog_87_method_2_code 329 = .ok (.bipush 44, 2) := by decide +kernel
theorem own_d14_331 : decode prog_87_method_2_code 331 = .ok (.invokevirtual 31, 3) := by decide +kernel
theorem own_d14_334 : decode prog_87_method_2_code 334 = .ok (.ifCond .ne 6, 3) := by decide +kernel
theorem own_d14_337 : decode prog_87_method_2_code 337 = .ok (.goto 9, 3) := by decide +kernel
theorem own_d14_340 : decode prog_87_method_2_code 340 = .ok (.iinc 5 1, 3) := by decide +kernel
theorem own_d14_343 : decode prog_87_method_2_code 343 = .ok (.goto (-221), 3) := by decide +kernel
theorem own_d14_346 : decode prog_87_method_2_code 346 = .ok (.aload_n 0, 1) := by decide +kernel
theorem own_d14_347 : decode prog_87_method_2_code 347 = .ok (.iload 5, 2) := by decide +kernel
theorem own_d14_349 : decode prog_87_method_2_code 349 = .ok (.iload 4, 2) := by decide +kernel
theorem own_d14_351 : decode prog_87_method_2_code 351 = .ok (.bipush 125, 2) := by decide +kernel
theorem own_d14_353 : decode prog_87_method_2_code 353 = .ok (.invokevirtual 31, 3) := by decide +kernel
theorem own_d14_356 : decode prog_87_method_2_code 356 = .ok (.ifCond .ne 5, 3) := by decide +kernel
theorem own_d14_361 : decode prog_87_method_2_code 361 = .ok (.iinc 5 1, 3) := by decide +kernel
theorem own_d14_364 : decode prog_87_method_2_code 364 = .ok (.aload_n 0, 1) := by decide +kernel
theorem own_d14_365 : decode prog_87_method_2_code 365 = .ok (.iload 5, 2) := by decide +kernel
theorem own_d14_367 : decode prog_87_method_2_code 367 = .ok (.iload 4, 2) := by decide +kernel
theorem own_d14_369 : decode prog_87_method_2_code 369 = .ok (.bipush 125, 2) := by decide +kernel
theorem own_d14_371 : decode prog_87_method_2_code 371 = .ok (.invokevirtual 31, 3) := by decide +kernel
theorem own_d14_374 : decode prog_87_method_2_code 374 = .ok (.ifCond .eq 16, 3) := by decide +kernel
theorem own_d14_377 : decode prog_87_method_2_code 377 = .ok (.iload 5, 2) := by decide +kernel
theorem own_d14_379 : decode prog_87_method_2_code 379 = .ok (.iconst 1, 1) := by decide +kernel
theorem own_d14_380 : decode prog_87_method_2_code 380 = .ok (.iadd, 1) := by decide +kernel
theorem own_d14_381 : decode prog_87_method_2_code 381 = .ok (.iload 4, 2) := by decide +kernel
theorem own_d14_383 : decode prog_87_method_2_code 383 = .ok (.if_icmp .ne 7, 3) := by decide +kernel
theorem own_d14_386 : decode prog_87_method_2_code 386 = .ok (.iconst 1, 1) := by decide +kernel
theorem own_d14_387 : decode prog_87_method_2_code 387 = .ok (.goto 4, 3) := by decide +kernel
theorem own_d14_391 : decode prog_87_method_2_code 391 = .ok (.ireturn, 1) := by decide +kernel
def own_R14 : Room := { frames := 5, cells := 0, slots := 0, locals := 77 }
def own_P14 (Z : State) (h : Heap) (v0 : Addr) (r_tokens_v0 : Addr) (v1 : Addr) (r : Int32 × Int32 × Int32 × Int32 × List Int32) (v : Option Value) (h' : Heap) : Prop := v = some (.int r.1) ∧ Keep h h' [v0, r_tokens_v0] ∧ Exa Z h' v0 "com/example/tidemark/tidemark/table/PlainLine" ∧ Fld Z h' v0 "com/example/tidemark/tidemark/table/PlainLine" "bytes" "[B" (.ref v1) ∧ Fld Z h' v0 "com/example/tidemark/tidemark/table/PlainLine" "typeFrom" "I" (.int r.2.1) ∧ Fld Z h' v0 "com/example/tidemark/tidemark/table/PlainLine" "typeTo" "I" (.int r.2.2.1) ∧ Fld Z h' v0 "com/example/tidemark/tidemark/table/PlainLine" "tokens" "[I" (.ref r_tokens_v0) ∧ Fld Z h' v0 "com/example/tidemark/tidemark/table/PlainLine" "count" "I" (.int r.2.2.2.1) ∧ own_Ia Z h' r_tokens_v0 .int (16 : Int32) r.2.2.2.2
def own_Road14 (v2 : Int32) (v3 : Int32) (xs_r_tokens_v0 : List Int32) (xs_v1 : List Int32) : Prop := (¬ v2 = (v2 + v3)) ∧ (¬ v2 < 0 ∧ v2 < 40) ∧ ((xs_v1.getD (v2).toNatClampNeg 0) = (123 : Int32)) ∧ (¬ (v2 + (1 : Int32)) < 0) ∧ (¬ 40 < (v2 + v3)) ∧ (¬ (f10_0 (v2 + (1 : Int32)) (v2 + v3) xs_v1) < (0 : Int32)) ∧ (¬ (f10_0 (v2 + (1 : Int32)) (v2 + v3) xs_v1) < 0) ∧ (¬ (f5_0 (f10_0 (v2 + (1 : Int32)) (v2 + v3) xs_v1) (v2 + v3) (58 : Int32) xs_v1) = (0 : Int32)) ∧ (¬ ((f10_0 (v2 + (1 : Int32)) (v2 + v3) xs_v1) + (1 : Int32)) < 0) ∧ (¬ (f5_0 ((f10_0 (v2 + (1 : Int32)) (v2 + v3) xs_v1) + (1 : Int32)) (v2 + v3) (123 : Int32) xs_v1) = (0 : Int32)) ∧ (¬ ((f10_0 (v2 + (1 : Int32)) (v2 + v3) xs_v1) + (2 : Int32)) < 0) ∧ ((f5_0 ((f10_0 (v2 + (1 : Int32)) (v2 + v3) xs_v1) + (2 : Int32)) (v2 + v3) (125 : Int32) xs_v1) = (0 : Int32)) ∧ (¬ (f10_0 ((f10_0 (v2 + (1 : Int32)) (v2 + v3) xs_v1) + (2 : Int32)) (v2 + v3) xs_v1) < (0 : Int32)) ∧ (¬ (f10_0 ((f10_0 (v2 + (1 : Int32)) (v2 + v3) xs_v1) + (2 : Int32)) (v2 + v3) xs_v1) < 0) ∧ (¬ (f5_0 (f10_0 ((f10_0 (v2 + (1 : Int32)) (v2 + v3) xs_v1) + (2 : Int32)) (v2 + v3) xs_v1) (v2 + v3) (58 : Int32) xs_v1) = (0 : Int32)) ∧ (¬ ((f10_0 ((f10_0 (v2 + (1 : Int32)) (v2 + v3) xs_v1) + (2 : Int32)) (v2 + v3) xs_v1) + (1 : Int32)) < 0) ∧ ((f5_0 ((f10_0 ((f10_0 (v2 + (1 : Int32)) (v2 + v3) xs_v1) + (2 : Int32)) (v2 + v3) xs_v1) + (1 : Int32)) (v2 + v3) (34 : Int32) xs_v1) = (0 : Int32)) ∧ (¬ (f11_0 ((f10_0 ((f10_0 (v2 + (1 : Int32)) (v2 + v3) xs_v1) + (2 : Int32)) (v2 + v3) xs_v1) + (1 : Int32)) (v2 + v3) xs_v1) < (0 : Int32)) ∧ ((f5_0 ((f10_0 ((f10_0 (v2 + (1 : Int32)) (v2 + v3) xs_v1) + (2 : Int32)) (v2 + v3) xs_v1) + (1 : Int32)) (v2 + v3) (34 : Int32) xs_v1) = (0 : Int32)) ∧ ((f5_0 ((f10_0 ((f10_0 (v2 + (1 : Int32)) (v2 + v3) xs_v1) + (2 : Int32)) (v2 + v3) xs_v1) + (1 : Int32)) (v2 + v3) (34 : Int32) xs_v1) = (0 : Int32)) ∧ (¬ (f11_0 ((f10_0 ((f10_0 (v2 + (1 : Int32)) (v2 + v3) xs_v1) + (2 : Int32)) (v2 + v3) xs_v1) + (1 : Int32)) (v2 + v3) xs_v1) < 0) ∧ (¬ (f5_0 (f11_0 ((f10_0 ((f10_0 (v2 + (1 : Int32)) (v2 + v3) xs_v1) + (2 : Int32)) (v2 + v3) xs_v1) + (1 : Int32)) (v2 + v3) xs_v1) (v2 + v3) (44 : Int32) xs_v1) = (0 : Int32)) ∧ (¬ ((f11_0 ((f10_0 ((f10_0 (v2 + (1 : Int32)) (v2 + v3) xs_v1) + (2 : Int32)) (v2 + v3) xs_v1) + (1 : Int32)) (v2 + v3) xs_v1) + (1 : Int32)) < 0) ∧ (¬ (f10_0 ((f11_0 ((f10_0 ((f10_0 (v2 + (1 : Int32)) (v2 + v3) xs_v1) + (2 : Int32)) (v2 + v3) xs_v1) + (1 : Int32)) (v2 + v3) xs_v1) + (1 : Int32)) (v2 + v3) xs_v1) < (0 : Int32)) ∧ (¬ (f10_0 ((f11_0 ((f10_0 ((f10_0 (v2 + (1 : Int32)) (v2 + v3) xs_v1) + (2 : Int32)) (v2 + v3) xs_v1) + (1 : Int32)) (v2 + v3) xs_v1) + (1 : Int32)) (v2 + v3) xs_v1) < 0) ∧ (¬ (f5_0 (f10_0 ((f11_0 ((f10_0 ((f10_0 (v2 + (1 : Int32)) (v2 + v3) xs_v1) + (2 : Int32)) (v2 + v3) xs_v1) + (1 : Int32)) (v2 + v3) xs_v1) + (1 : Int32)) (v2 + v3) xs_v1) (v2 + v3) (58 : Int32) xs_v1) = (0 : Int32)) ∧ (¬ ((f10_0 ((f11_0 ((f10_0 ((f10_0 (v2 + (1 : Int32)) (v2 + v3) xs_v1) + (2 : Int32)) (v2 + v3) xs_v1) + (1 : Int32)) (v2 + v3) xs_v1) + (1 : Int32)) (v2 + v3) xs_v1) + (1 : Int32)) < 0) ∧ (¬ (f5_0 ((f10_0 ((f11_0 ((f10_0 ((f10_0 (v2 + (1 : Int32)) (v2 + v3) xs_v1) + (2 : Int32)) (v2 + v3) xs_v1) + (1 : Int32)) (v2 + v3) xs_v1) + (1 : Int32)) (v2 + v3) xs_v1) + (1 : Int32)) (v2 + v3) (34 : Int32) xs_v1) = (0 : Int32)) ∧ (¬ (f10_0 ((f10_0 ((f11_0 ((f10_0 ((f10_0 (v2 + (1 : Int32)) (v2 + v3) xs_v1) + (2 : Int32)) (v2 + v3) xs_v1) + (1 : Int32)) (v2 + v3) xs_v1) + (1 : Int32)) (v2 + v3) xs_v1) + (1 : Int32)) (v2 + v3) xs_v1) < (0 : Int32)) ∧ (¬ (f5_0 ((f10_0 ((f11_0 ((f10_0 ((f10_0 (v2 + (1 : Int32)) (v2 + v3) xs_v1) + (2 : Int32)) (v2 + v3) xs_v1) + (1 : Int32)) (v2 + v3) xs_v1) + (1 : Int32)) (v2 + v3) xs_v1) + (1 : Int32)) (v2 + v3) (34 : Int32) xs_v1) = (0 : Int32)) ∧ (¬ (f5_0 ((f10_0 ((f11_0 ((f10_0 ((f10_0 (v2 + (1 : Int32)) (v2 + v3) xs_v1) + (2 : Int32)) (v2 + v3) xs_v1) + (1 : Int32)) (v2 + v3) xs_v1) + (1 : Int32)) (v2 + v3) xs_v1) + (1 : Int32)) (v2 + v3) (34 : Int32) xs_v1) = (0 : Int32)) ∧ (¬ (f10_0 ((f10_0 ((f11_0 ((f10_0 ((f10_0 (v2 + (1 : Int32)) (v2 + v3) xs_v1) + (2 : Int32)) (v2 + v3) xs_v1) + (1 : Int32)) (v2 + v3) xs_v1) + (1 : Int32)) (v2 + v3) xs_v1) + (1 : Int32)) (v2 + v3) xs_v1) < 0) ∧ ((f5_0 (f10_0 ((f10_0 ((f11_0 ((f10_0 ((f10_0 (v2 + (1 : Int32)) (v2 + v3) xs_v1) + (2 : Int32)) (v2 + v3) xs_v1) + (1 : Int32)) (v2 + v3) xs_v1) + (1 : Int32)) (v2 + v3) xs_v1) + (1 : Int32)) (v2 + v3) xs_v1) (v2 + v3) (44 : Int32) xs_v1) = (0 : Int32)) ∧ (¬ (f5_0 (f10_0 ((f10_0 ((f11_0 ((f10_0 ((f10_0 (v2 + (1 : Int32)) (v2 + v3) xs_v1) + (2 : Int32)) (v2 + v3) xs_v1) + (1 : Int32)) (v2 + v3) xs_v1) + (1 : Int32)) (v2 + v3) xs_v1) + (1 : Int32)) (v2 + v3) xs_v1) (v2 + v3) (125 : Int32) xs_v1) = (0 : Int32)) ∧ (¬ ((f10_0 ((f10_0 ((f11_0 ((f10_0 ((f10_0 (v2 + (1 : Int32)) (v2 + v3) xs_v1) + (2 : Int32)) (v2 + v3) xs_v1) + (1 : Int32)) (v2 + v3) xs_v1) + (1 : Int32)) (v2 + v3) xs_v1) + (1 : Int32)) (v2 + v3) xs_v1) + (1 : Int32)) < 0) ∧ (¬ (f5_0 ((f10_0 ((f10_0 ((f11_0 ((f10_0 ((f10_0 (v2 + (1 : Int32)) (v2 + v3) xs_v1) + (2 : Int32)) (v2 + v3) xs_v1) + (1 : Int32)) (v2 + v3) xs_v1) + (1 : Int32)) (v2 + v3) xs_v1) + (1 : Int32)) (v2 + v3) xs_v1) + (1 : Int32)) (v2 + v3) (125 : Int32) xs_v1) = (0 : Int32)) ∧ ((((f10_0 ((f10_0 ((f11_0 ((f10_0 ((f10_0 (v2 + (1 : Int32)) (v2 + v3) xs_v1) + (2 : Int32)) (v2 + v3) xs_v1) + (1 : Int32)) (v2 + v3) xs_v1) + (1 : Int32)) (v2 + v3) xs_v1) + (1 : Int32)) (v2 + v3) xs_v1) + (1 : Int32)) + (1 : Int32)) = (v2 + v3))
def f14_0 (v2 : Int32) (v3 : Int32) (xs_r_tokens_v0 : List Int32) (xs_v1 : List Int32) : Int32 × Int32 × Int32 × Int32 × List Int32 := ((1 : Int32), ((v2 + (1 : Int32)) + (1 : Int32)), ((f10_0 (v2 + (1 : Int32)) (v2 + v3) xs_v1) - (1 : Int32)), (((0 : Int32) + (1 : Int32)) + (1 : Int32)), ((((((((xs_r_tokens_v0.set (((0 : Int32) * (4 : Int32))).toNatClampNeg (((f10_0 (v2 + (1 : Int32)) (v2 + v3) xs_v1) + (2 : Int32)) + (1 : Int32))).set ((((0 : Int32) * (4 : Int32)) + (1 : Int32))).toNatClampNeg ((f10_0 ((f10_0 (v2 + (1 : Int32)) (v2 + v3) xs_v1) + (2 : Int32)) (v2 + v3) xs_v1) - (1 : Int32))).set ((((0 : Int32) * (4 : Int32)) + (2 : Int32))).toNatClampNeg ((f10_0 ((f10_0 (v2 + (1 : Int32)) (v2 + v3) xs_v1) + (2 : Int32)) (v2 + v3) xs_v1) + (1 : Int32))).set ((((0 : Int32) * (4 : Int32)) + (3 : Int32))).toNatClampNeg (f11_0 ((f10_0 ((f10_0 (v2 + (1 : Int32)) (v2 + v3) xs_v1) + (2 : Int32)) (v2 + v3) xs_v1) + (1 : Int32)) (v2 + v3) xs_v1)).set ((((0 : Int32) + (1 : Int32)) * (4 : Int32))).toNatClampNeg (((f11_0 ((f10_0 ((f10_0 (v2 + (1 : Int32)) (v2 + v3) xs_v1) + (2 : Int32)) (v2 + v3) xs_v1) + (1 : Int32)) (v2 + v3) xs_v1) + (1 : Int32)) + (1 : Int32))).set (((((0 : Int32) + (1 : Int32)) * (4 : Int32)) + (1 : Int32))).toNatClampNeg ((f10_0 ((f11_0 ((f10_0 ((f10_0 (v2 + (1 : Int32)) (v2 + v3) xs_v1) + (2 : Int32)) (v2 + v3) xs_v1) + (1 : Int32)) (v2 + v3) xs_v1) + (1 : Int32)) (v2 + v3) xs_v1) - (1 : Int32))).set (((((0 : Int32) + (1 : Int32)) * (4 : Int32)) + (2 : Int32))).toNatClampNeg (((f10_0 ((f11_0 ((f10_0 ((f10_0 (v2 + (1 : Int32)) (v2 + v3) xs_v1) + (2 : Int32)) (v2 + v3) xs_v1) + (1 : Int32)) (v2 + v3) xs_v1) + (1 : Int32)) (v2 + v3) xs_v1) + (1 : Int32)) + (1 : Int32))).set (((((0 : Int32) + (1 : Int32)) * (4 : Int32)) + (3 : Int32))).toNatClampNeg ((f10_0 ((f10_0 ((f11_0 ((f10_0 ((f10_0 (v2 + (1 : Int32)) (v2 + v3) xs_v1) + (2 : Int32)) (v2 + v3) xs_v1) + (1 : Int32)) (v2 + v3) xs_v1) + (1 : Int32)) (v2 + v3) xs_v1) + (1 : Int32)) (v2 + v3) xs_v1) - (1 : Int32))))
set_option maxRecDepth 65536 in
set_option maxHeartbeats 4000000 in
theorem w14_0 {Z : State} {a0 : Array Value} {p : Program} {l : Launch} {e : Env} {s : State} {m : MethodId} {args : Array Value} {below : List Frame} {meth : Method} {c : Code} {T : State} {h : Heap} {n0 : Nat} {hE : Heap} {v0 : Addr} {v1 : Addr} {o_bytes_v0 : Value} {o_typeFrom_v0 : Value} {o_typeTo_v0 : Value} {r_tokens_v0 : Addr} {o_count_v0 : Value} (C : own_Cx Z a0 p l e own_R14 s m args below meth c "com/example/tidemark/tidemark/table/PlainLine" "find" prog_87_method_2_code 9 (some .boolean)) (A : own_At p l e own_R14 s m args below meth c T h n0 0 0) (v2 : Int32) (v3 : Int32) (xs_r_tokens_v0 : List Int32) (xs_v1 : List Int32) (F_bytes_v0 : Fld Z h v0 "com/example/tidemark/tidemark/table/PlainLine" "bytes" "[B" o_bytes_v0) (F_typeFrom_v0 : Fld Z h v0 "com/example/tidemark/tidemark/table/PlainLine" "typeFrom" "I" o_typeFrom_v0) (F_typeTo_v0 : Fld Z h v0 "com/example/tidemark/tidemark/table/PlainLine" "typeTo" "I" o_typeTo_v0) (F_tokens_v0 : Fld Z h v0 "com/example/tidemark/tidemark/table/PlainLine" "tokens" "[I" (.ref r_tokens_v0)) (F_count_v0 : Fld Z h v0 "com/example/tidemark/tidemark/table/PlainLine" "count" "I" o_count_v0) (E_v0 : Exa Z h v0 "com/example/tidemark/tidemark/table/PlainLine") (g_v0 : n0 ≤ v0) (V_r_tokens_v0 : own_Ia Z h r_tokens_v0 .int (16 : Int32) xs_r_tokens_v0) (g_r_tokens_v0 : n0 ≤ r_tokens_v0) (V_v1 : own_Ia Z h v1 .byte (40 : Int32) xs_v1) (ne_a : v0 ≠ r_tokens_v0) (ne_b : v0 ≠ v1) (ne_c : r_tokens_v0 ≠ v1) (K : Keep hE h [v0, r_tokens_v0]) (hF : own_Road14 v2 v3 xs_r_tokens_v0 xs_v1) :
    own_Go p.tables e below (T.setTop (mkF m 0 #[.val (.ref v0), .val (.ref v1), .val (.int v2), .val (.int v3), .unset, .unset, .unset, .unset, .unset] [])) (own_QR s n0 0 0 (own_P14 Z hE v0 r_tokens_v0 v1 (f14_0 v2 v3 xs_r_tokens_v0 xs_v1))) := by
  unfold f14_0
  obtain ⟨hp_22_0, hq_1, hp_34_0, hq_3, hq_4, hp_67_0, hq_6, hp_80_0, hq_8, hp_95_0, hq_10, hp_113_0, hp_185_0, hq_13, hp_198_0, hq_15, hp_233_0, hp_259_0, hp_274_0, hp_297_0, hq_20, hp_334_0, hq_22, hp_185_1, hq_24, hp_198_1, hq_26, hp_233_1, hp_259_1, hp_274_1, hp_297_1, hq_31, hp_334_1, hp_356_0, hq_34, hp_374_0, hp_383_0⟩ := hF
  refine own_aloadN C A own_d14_0 rfl rfl rfl ?_
  refine own_aloadN C A own_d14_1 rfl rfl rfl ?_
  refine own_putF C A (.array .byte) (own_w C 25 rfl) F_bytes_v0 E_v0 (Or.inl (own_w C 26 rfl)) (own_w C 9 rfl) (by decide) rfl rfl g_v0 own_d14_2 rfl (fun T h W A => ?_)
  have F_bytes_v0 := Fld.same W F_bytes_v0
  have F_typeFrom_v0 := Fld.other W F_typeFrom_v0 (Or.inr (slot_ne (Or.inl (own_w C 30 rfl)) (Or.inl (own_w C 26 rfl)) (by decide) (by decide : parseFieldDescriptor _ = some .int) (by decide : parseFieldDescriptor _ = some (.array .byte))))
  have F_typeTo_v0 := Fld.other W F_typeTo_v0 (Or.inr (slot_ne (Or.inl (own_w C 40 rfl)) (Or.inl (own_w C 26 rfl)) (by decide) (by decide : parseFieldDescriptor _ = some .int) (by decide : parseFieldDescriptor _ = some (.array .byte))))
  have F_tokens_v0 := Fld.other W F_tokens_v0 (Or.inr (slot_ne (Or.inl (own_w C 19 rfl)) (Or.inl (own_w C 26 rfl)) (by decide) (by decide : parseFieldDescriptor _ = some (.array .int)) (by decide : parseFieldDescriptor _ = some (.array .byte))))
  have F_count_v0 := Fld.other W F_count_v0 (Or.inr (slot_ne (Or.inl (own_w C 28 rfl)) (Or.inl (own_w C 26 rfl)) (by decide) (by decide : parseFieldDescriptor _ = some .int) (by decide : parseFieldDescriptor _ = some (.array .byte))))
  have E_v0 := Exa.wr W E_v0
  have V_r_tokens_v0 := own_Ia.other V_r_tokens_v0 W (Ne.symm ne_a)
  have V_v1 := own_Ia.other V_v1 W (Ne.symm ne_b)
  have K := K.wr W (Or.inl (List.mem_of_getElem? (i := 0) rfl))
  refine own_aloadN C A own_d14_5 rfl rfl rfl ?_
  refine own_iconst C A own_d14_6 (v := 0) rfl rfl ?_
  refine own_putF C A .int (own_w C 27 rfl) F_count_v0 E_v0 (Or.inl (own_w C 28 rfl)) (own_w C 9 rfl) (by decide) rfl rfl g_v0 own_d14_7 rfl (fun T h W A => ?_)
  have F_bytes_v0 := Fld.other W F_bytes_v0 (Or.inr (slot_ne (Or.inl (own_w C 26 rfl)) (Or.inl (own_w C 28 rfl)) (by decide) (by decide : parseFieldDescriptor _ = some (.array .byte)) (by decide : parseFieldDescriptor _ = some .int)))
  have F_typeFrom_v0 := Fld.other W F_typeFrom_v0 (Or.inr (slot_ne (Or.inl (own_w C 30 rfl)) (Or.inl (own_w C 28 rfl)) (by decide) (by decide : parseFieldDescriptor _ = some .int) (by decide : parseFieldDescriptor _ = some .int)))
  have F_typeTo_v0 := Fld.other W F_typeTo_v0 (Or.inr (slot_ne (Or.inl (own_w C 40 rfl)) (Or.inl (own_w C 28 rfl)) (by decide) (by decide : parseFieldDescriptor _ = some .int) (by decide : parseFieldDescriptor _ = some .int)))
  have F_tokens_v0 := Fld.other W F_tokens_v0 (Or.inr (slot_ne (Or.inl (own_w C 19 rfl)) (Or.inl (own_w C 28 rfl)) (by decide) (by decide : parseFieldDescriptor _ = some (.array .int)) (by decide : parseFieldDescriptor _ = some .int)))
  have F_count_v0 := Fld.same W F_count_v0
  have E_v0 := Exa.wr W E_v0
  have V_r_tokens_v0 := own_Ia.other V_r_tokens_v0 W (Ne.symm ne_a)
  have V_v1 := own_Ia.other V_v1 W (Ne.symm ne_b)
  have K := K.wr W (Or.inl (List.mem_of_getElem? (i := 0) rfl))
  refine own_iloadN C A own_d14_10 rfl rfl ?_
  refine own_iloadN C A own_d14_11 rfl rfl ?_
  refine own_iadd C A own_d14_12 rfl ?_
  refine own_istore C A own_d14_13 (l' := #[.val (.ref v0), .val (.ref v1), .val (.int v2), .val (.int v3), .val (.int (v2 + v3)), .unset, .unset, .unset, .unset]) rfl rfl ?_
  refine own_iloadN C A own_d14_15 rfl rfl ?_
  refine own_istore C A own_d14_16 (l' := #[.val (.ref v0), .val (.ref v1), .val (.int v2), .val (.int v3), .val (.int (v2 + v3)), .val (.int v2), .unset, .unset, .unset]) rfl rfl ?_
  refine own_iload C A own_d14_18 rfl rfl ?_
  refine own_iload C A own_d14_20 rfl rfl ?_
  refine own_icmpN C A own_d14_22 (Jvm.Free.XT.ii_eq_f hp_22_0) rfl ?_
  refine own_aloadN C A own_d14_25 rfl rfl rfl ?_
  refine own_iload C A own_d14_26 rfl rfl ?_
  refine own_iinc C A own_d14_28 rfl (l' := #[.val (.ref v0), .val (.ref v1), .val (.int v2), .val (.int v3), .val (.int (v2 + v3)), .val (.int (v2 + (1 : Int32))), .unset, .unset, .unset]) rfl rfl ?_
  refine own_baload C A V_v1 hq_1 (v := (xs_v1.getD (v2).toNatClampNeg 0)) rfl own_d14_31 rfl ?_
  refine own_bipush C A own_d14_32 (v := 123) rfl rfl ?_
  refine own_icmpY C A own_d14_34 (Jvm.Free.XT.ii_eq_t hp_34_0) (by decide) (q := 39) (by decide) ?_
  refine own_aloadN C A own_d14_39 rfl rfl rfl ?_
  refine own_iload C A own_d14_40 rfl rfl ?_
  refine own_iconst C A own_d14_42 (v := 1) rfl rfl ?_
  refine own_iadd C A own_d14_43 rfl ?_
  refine own_putF C A .int (own_w C 29 rfl) F_typeFrom_v0 E_v0 (Or.inl (own_w C 30 rfl)) (own_w C 9 rfl) (by decide) rfl rfl g_v0 own_d14_44 rfl (fun T h W A => ?_)
  have F_bytes_v0 := Fld.other W F_bytes_v0 (Or.inr (slot_ne (Or.inl (own_w C 26 rfl)) (Or.inl (own_w C 30 rfl)) (by decide) (by decide : parseFieldDescriptor _ = some (.array .byte)) (by decide : parseFieldDescriptor _ = some .int)))
  have F_typeFrom_v0 := Fld.same W F_typeFrom_v0
  have F_typeTo_v0 := Fld.other W F_typeTo_v0 (Or.inr (slot_ne (Or.inl (own_w C 40 rfl)) (Or.inl (own_w C 30 rfl)) (by decide) (by decide : parseFieldDescriptor _ = some .int) (by decide : parseFieldDescriptor _ = some .int)))
  have F_tokens_v0 := Fld.other W F_tokens_v0 (Or.inr (slot_ne (Or.inl (own_w C 19 rfl)) (Or.inl (own_w C 30 rfl)) (by decide) (by decide : parseFieldDescriptor _ = some (.array .int)) (by decide : parseFieldDescriptor _ = some .int)))
  have F_count_v0 := Fld.other W F_count_v0 (Or.inr (slot_ne (Or.inl (own_w C 28 rfl)) (Or.inl (own_w C 30 rfl)) (by decide) (by decide : parseFieldDescriptor _ = some .int) (by decide : parseFieldDescriptor _ = some .int)))
  have E_v0 := Exa.wr W E_v0
  have V_r_tokens_v0 := own_Ia.other V_r_tokens_v0 W (Ne.symm ne_a)
  have V_v1 := own_Ia.other V_v1 W (Ne.symm ne_b)
  have K := K.wr W (Or.inl (List.mem_of_getElem? (i := 0) rfl))
  refine own_aloadN C A own_d14_47 rfl rfl rfl ?_
  refine own_iload C A own_d14_48 rfl rfl ?_
  refine own_iload C A own_d14_50 rfl rfl ?_
  refine own_callPI C A 0 [(.int (v2 + (1 : Int32))), (.int (v2 + v3))] [] (own_w C 31 rfl) (own_w C 32 rfl) (own_w C 33 rfl) (own_w C 9 rfl) (own_w C 10 rfl) (own_w C 34 rfl) (by decide) E_v0 (rm10 l Z a0 C.2.2.2.2.2.2.2.2 [] v0 (v2 + (1 : Int32)) (v2 + v3) xs_v1 v1 _ _ (own_size A) F_bytes_v0 E_v0 V_v1 hq_3 hq_4) rfl rfl (by decide) (by decide) (by decide) (by decide) own_pd3 rfl rfl rfl (Nat.le_of_eq rfl) rfl own_d14_52 rfl (fun T A => ?_)
  refine own_istore C A own_d14_55 (l' := #[.val (.ref v0), .val (.ref v1), .val (.int v2), .val (.int v3), .val (.int (v2 + v3)), .val (.int (f10_0 (v2 + (1 : Int32)) (v2 + v3) xs_v1)), .unset, .unset, .unset]) rfl rfl ?_
  refine own_aloadN C A own_d14_57 rfl rfl rfl ?_
  refine own_iload C A own_d14_58 rfl rfl ?_
  refine own_iconst C A own_d14_60 (v := 1) rfl rfl ?_
  refine own_isub C A own_d14_61 rfl ?_
  refine own_putF C A .int (own_w C 39 rfl) F_typeTo_v0 E_v0 (Or.inl (own_w C 40 rfl)) (own_w C 9 rfl) (by decide) rfl rfl g_v0 own_d14_62 rfl (fun T h W A => ?_)
  have F_bytes_v0 := Fld.other W F_bytes_v0 (Or.inr (slot_ne (Or.inl (own_w C 26 rfl)) (Or.inl (own_w C 40 rfl)) (by decide) (by decide : parseFieldDescriptor _ = some (.array .byte)) (by decide : parseFieldDescriptor _ = some .int)))
  have F_typeFrom_v0 := Fld.other W F_typeFrom_v0 (Or.inr (slot_ne (Or.inl (own_w C 30 rfl)) (Or.inl (own_w C 40 rfl)) (by decide) (by decide : parseFieldDescriptor _ = some .int) (by decide : parseFieldDescriptor _ = some .int)))
  have F_typeTo_v0 := Fld.same W F_typeTo_v0
  have F_tokens_v0 := Fld.other W F_tokens_v0 (Or.inr (slot_ne (Or.inl (own_w C 19 rfl)) (Or.inl (own_w C 40 rfl)) (by decide) (by decide : parseFieldDescriptor _ = some (.array .int)) (by decide : parseFieldDescriptor _ = some .int)))
  have F_count_v0 := Fld.other W F_count_v0 (Or.inr (slot_ne (Or.inl (own_w C 28 rfl)) (Or.inl (own_w C 40 rfl)) (by decide) (by decide : parseFieldDescriptor _ = some .int) (by decide : parseFieldDescriptor _ = some .int)))
  have E_v0 := Exa.wr W E_v0
  have V_r_tokens_v0 := own_Ia.other V_r_tokens_v0 W (Ne.symm ne_a)
  have V_v1 := own_Ia.other V_v1 W (Ne.symm ne_b)
  have K := K.wr W (Or.inl (List.mem_of_getElem? (i := 0) rfl))
  refine own_iload C A own_d14_65 rfl rfl ?_
  refine own_ifN C A own_d14_67 (Jvm.Free.XT.i0_lt_f hp_67_0) rfl ?_
  refine own_aloadN C A own_d14_70 rfl rfl rfl ?_
  refine own_iload C A own_d14_71 rfl rfl ?_
  refine own_iload C A own_d14_73 rfl rfl ?_
  refine own_bipush C A own_d14_75 (v := 58) rfl rfl ?_
  refine own_callPI C A 0 [(.int (f10_0 (v2 + (1 : Int32)) (v2 + v3) xs_v1)), (.int (v2 + v3)), (.int (58 : Int32))] [] (own_w C 35 rfl) (own_w C 36 rfl) (own_w C 37 rfl) (own_w C 9 rfl) (own_w C 10 rfl) (own_w C 38 rfl) (by decide) E_v0 (rm5 l Z a0 C.2.2.2.2.2.2.2.2 [] v0 (f10_0 (v2 + (1 : Int32)) (v2 + v3) xs_v1) (v2 + v3) (58 : Int32) xs_v1 v1 _ _ (own_size A) F_bytes_v0 E_v0 V_v1 hq_6 hq_4) rfl rfl (by decide) (by decide) (by decide) (by decide) own_pd4 rfl rfl rfl (Nat.le_of_eq rfl) rfl own_d14_77 rfl (fun T A => ?_)
  refine own_ifN C A own_d14_80 (Jvm.Free.XT.i0_eq_f hp_80_0) rfl ?_
  refine own_aloadN C A own_d14_83 rfl rfl rfl ?_
  refine own_iload C A own_d14_84 rfl rfl ?_
  refine own_iconst C A own_d14_86 (v := 1) rfl rfl ?_
  refine own_iadd C A own_d14_87 rfl ?_
  refine own_iload C A own_d14_88 rfl rfl ?_
  refine own_bipush C A own_d14_90 (v := 123) rfl rfl ?_
  refine own_callPI C A 0 [(.int ((f10_0 (v2 + (1 : Int32)) (v2 + v3) xs_v1) + (1 : Int32))), (.int (v2 + v3)), (.int (123 : Int32))] [] (own_w C 35 rfl) (own_w C 36 rfl) (own_w C 37 rfl) (own_w C 9 rfl) (own_w C 10 rfl) (own_w C 38 rfl) (by decide) E_v0 (rm5 l Z a0 C.2.2.2.2.2.2.2.2 [] v0 ((f10_0 (v2 + (1 : Int32)) (v2 + v3) xs_v1) + (1 : Int32)) (v2 + v3) (123 : Int32) xs_v1 v1 _ _ (own_size A) F_bytes_v0 E_v0 V_v1 hq_8 hq_4) rfl rfl (by decide) (by decide) (by decide) (by decide) own_pd4 rfl rfl rfl (Nat.le_of_eq rfl) rfl own_d14_92 rfl (fun T A => ?_)
  refine own_ifY C A own_d14_95 (Jvm.Free.XT.i0_ne_t hp_95_0) (by decide) (q := 100) (by decide) ?_
  refine own_iinc C A own_d14_100 rfl (l' := #[.val (.ref v0), .val (.ref v1), .val (.int v2), .val (.int v3), .val (.int (v2 + v3)), .val (.int ((f10_0 (v2 + (1 : Int32)) (v2 + v3) xs_v1) + (2 : Int32))), .unset, .unset, .unset]) rfl rfl ?_
  refine own_aloadN C A own_d14_103 rfl rfl rfl ?_
  refine own_iload C A own_d14_104 rfl rfl ?_
  refine own_iload C A own_d14_106 rfl rfl ?_
  refine own_bipush C A own_d14_108 (v := 125) rfl rfl ?_
  refine own_callPI C A 0 [(.int ((f10_0 (v2 + (1 : Int32)) (v2 + v3) xs_v1) + (2 : Int32))), (.int (v2 + v3)), (.int (125 : Int32))] [] (own_w C 35 rfl) (own_w C 36 rfl) (own_w C 37 rfl) (own_w C 9 rfl) (own_w C 10 rfl) (own_w C 38 rfl) (by decide) E_v0 (rm5 l Z a0 C.2.2.2.2.2.2.2.2 [] v0 ((f10_0 (v2 + (1 : Int32)) (v2 + v3) xs_v1) + (2 : Int32)) (v2 + v3) (125 : Int32) xs_v1 v1 _ _ (own_size A) F_bytes_v0 E_v0 V_v1 hq_10 hq_4) rfl rfl (by decide) (by decide) (by decide) (by decide) own_pd4 rfl rfl rfl (Nat.le_of_eq rfl) rfl own_d14_110 rfl (fun T A => ?_)
  refine own_ifY C A own_d14_113 (Jvm.Free.XT.i0_eq_t hp_113_0) (by decide) (q := 122) (by decide) ?_
  refine own_aloadN C A own_d14_122 rfl rfl rfl ?_
  refine own_getF C A (own_w C 27 rfl) F_count_v0 own_d14_123 rfl (fun T A => ?_)
  refine own_iconst C A own_d14_126 (v := 4) rfl rfl ?_
  refine own_imul C A own_d14_127 rfl ?_
  refine own_aloadN C A own_d14_128 rfl rfl rfl ?_
  refine own_getF C A (own_w C 18 rfl) F_tokens_v0 own_d14_129 rfl (fun T A => ?_)
  refine own_alen C A V_r_tokens_v0 own_d14_132 rfl ?_
  refine own_icmpY C A own_d14_133 (Jvm.Free.XT.ii_ne_t (by decide)) (by decide) (q := 154) (by decide) ?_
  refine own_aloadN C A own_d14_154 rfl rfl rfl ?_
  refine own_getF C A (own_w C 27 rfl) F_count_v0 own_d14_155 rfl (fun T A => ?_)
  refine own_iconst C A own_d14_158 (v := 4) rfl rfl ?_
  refine own_imul C A own_d14_159 rfl ?_
  refine own_istore C A own_d14_160 (l' := #[.val (.ref v0), .val (.ref v1), .val (.int v2), .val (.int v3), .val (.int (v2 + v3)), .val (.int ((f10_0 (v2 + (1 : Int32)) (v2 + v3) xs_v1) + (2 : Int32))), .val (.int ((0 : Int32) * (4 : Int32))), .unset, .unset]) rfl rfl ?_
  refine own_aloadN C A own_d14_162 rfl rfl rfl ?_
  refine own_getF C A (own_w C 18 rfl) F_tokens_v0 own_d14_163 rfl (fun T A => ?_)
  refine own_iload C A own_d14_166 rfl rfl ?_
  refine own_iload C A own_d14_168 rfl rfl ?_
  refine own_iconst C A own_d14_170 (v := 1) rfl rfl ?_
  refine own_iadd C A own_d14_171 rfl ?_
  refine own_iastore C A V_r_tokens_v0 ⟨by decide, by decide⟩ (ys := (xs_r_tokens_v0.set (((0 : Int32) * (4 : Int32))).toNatClampNeg (((f10_0 (v2 + (1 : Int32)) (v2 + v3) xs_v1) + (2 : Int32)) + (1 : Int32)))) rfl g_r_tokens_v0 own_d14_172 rfl (fun T h Kw V_r_tokens_v0 A => ?_)
  have F_bytes_v0 := Fld.keep F_bytes_v0 Kw (ninS ne_a nin0)
  have F_typeFrom_v0 := Fld.keep F_typeFrom_v0 Kw (ninS ne_a nin0)
  have F_typeTo_v0 := Fld.keep F_typeTo_v0 Kw (ninS ne_a nin0)
  have F_tokens_v0 := Fld.keep F_tokens_v0 Kw (ninS ne_a nin0)
  have F_count_v0 := Fld.keep F_count_v0 Kw (ninS ne_a nin0)
  have E_v0 := Exa.keep E_v0 Kw
  have V_v1 := own_Ia.keep V_v1 Kw (ninS (Ne.symm ne_c) nin0)
  have K := K.trans Kw (allS (Or.inl (List.mem_of_getElem? (i := 1) rfl)) all0)
  refine own_aloadN C A own_d14_173 rfl rfl rfl ?_
  refine own_iload C A own_d14_174 rfl rfl ?_
  refine own_iload C A own_d14_176 rfl rfl ?_
  refine own_callPI C A 0 [(.int ((f10_0 (v2 + (1 : Int32)) (v2 + v3) xs_v1) + (2 : Int32))), (.int (v2 + v3))] [] (own_w C 31 rfl) (own_w C 32 rfl) (own_w C 33 rfl) (own_w C 9 rfl) (own_w C 10 rfl) (own_w C 34 rfl) (by decide) E_v0 (rm10 l Z a0 C.2.2.2.2.2.2.2.2 [] v0 ((f10_0 (v2 + (1 : Int32)) (v2 + v3) xs_v1) + (2 : Int32)) (v2 + v3) xs_v1 v1 _ _ (own_size A) F_bytes_v0 E_v0 V_v1 hq_10 hq_4) rfl rfl (by decide) (by decide) (by decide) (by decide) own_pd3 rfl rfl rfl (Nat.le_of_eq rfl) rfl own_d14_178 rfl (fun T A => ?_)
  refine own_istore C A own_d14_181 (l' := #[.val (.ref v0), .val (.ref v1), .val (.int v2), .val (.int v3), .val (.int (v2 + v3)), .val (.int (f10_0 ((f10_0 (v2 + (1 : Int32)) (v2 + v3) xs_v1) + (2 : Int32)) (v2 + v3) xs_v1)), .val (.int ((0 : Int32) * (4 : Int32))), .unset, .unset]) rfl rfl ?_
  refine own_iload C A own_d14_183 rfl rfl ?_
  refine own_ifN C A own_d14_185 (Jvm.Free.XT.i0_lt_f hp_185_0) rfl ?_
  refine own_aloadN C A own_d14_188 rfl rfl rfl ?_
  refine own_iload C A own_d14_189 rfl rfl ?_
  refine own_iload C A own_d14_191 rfl rfl ?_
  refine own_bipush C A own_d14_193 (v := 58) rfl rfl ?_
  refine own_callPI C A 0 [(.int (f10_0 ((f10_0 (v2 + (1 : Int32)) (v2 + v3) xs_v1) + (2 : Int32)) (v2 + v3) xs_v1)), (.int (v2 + v3)), (.int (58 : Int32))] [] (own_w C 35 rfl) (own_w C 36 rfl) (own_w C 37 rfl) (own_w C 9 rfl) (own_w C 10 rfl) (own_w C 38 rfl) (by decide) E_v0 (rm5 l Z a0 C.2.2.2.2.2.2.2.2 [] v0 (f10_0 ((f10_0 (v2 + (1 : Int32)) (v2 + v3) xs_v1) + (2 : Int32)) (v2 + v3) xs_v1) (v2 + v3) (58 : Int32) xs_v1 v1 _ _ (own_size A) F_bytes_v0 E_v0 V_v1 hq_13 hq_4) rfl rfl (by decide) (by decide) (by decide) (by decide) own_pd4 rfl rfl rfl (Nat.le_of_eq rfl) rfl own_d14_195 rfl (fun T A => ?_)
  refine own_ifY C A own_d14_198 (Jvm.Free.XT.i0_ne_t hp_198_0) (by decide) (q := 203) (by decide) ?_
  refine own_aloadN C A own_d14_203 rfl rfl rfl ?_
  refine own_getF C A (own_w C 18 rfl) F_tokens_v0 own_d14_204 rfl (fun T A => ?_)
  refine own_iload C A own_d14_207 rfl rfl ?_
  refine own_iconst C A own_d14_209 (v := 1) rfl rfl ?_
  refine own_iadd C A own_d14_210 rfl ?_
  refine own_iload C A own_d14_211 rfl rfl ?_
  refine own_iconst C A own_d14_213 (v := 1) rfl rfl ?_
  refine own_isub C A own_d14_214 rfl ?_
  refine own_iastore C A V_r_tokens_v0 ⟨by decide, by decide⟩ (ys := ((xs_r_tokens_v0.set (((0 : Int32) * (4 : Int32))).toNatClampNeg (((f10_0 (v2 + (1 : Int32)) (v2 + v3) xs_v1) + (2 : Int32)) + (1 : Int32))).set ((((0 : Int32) * (4 : Int32)) + (1 : Int32))).toNatClampNeg ((f10_0 ((f10_0 (v2 + (1 : Int32)) (v2 + v3) xs_v1) + (2 : Int32)) (v2 + v3) xs_v1) - (1 : Int32)))) rfl g_r_tokens_v0 own_d14_215 rfl (fun T h Kw V_r_tokens_v0 A => ?_)
  have F_bytes_v0 := Fld.keep F_bytes_v0 Kw (ninS ne_a nin0)
  have F_typeFrom_v0 := Fld.keep F_typeFrom_v0 Kw (ninS ne_a nin0)
  have F_typeTo_v0 := Fld.keep F_typeTo_v0 Kw (ninS ne_a nin0)
  have F_tokens_v0 := Fld.keep F_tokens_v0 Kw (ninS ne_a nin0)
  have F_count_v0 := Fld.keep F_count_v0 Kw (ninS ne_a nin0)
  have E_v0 := Exa.keep E_v0 Kw
  have V_v1 := own_Ia.keep V_v1 Kw (ninS (Ne.symm ne_c) nin0)
  have K := K.trans Kw (allS (Or.inl (List.mem_of_getElem? (i := 1) rfl)) all0)
  refine own_iinc C A own_d14_216 rfl (l' := #[.val (.ref v0), .val (.ref v1), .val (.int v2), .val (.int v3), .val (.int (v2 + v3)), .val (.int ((f10_0 ((f10_0 (v2 + (1 : Int32)) (v2 + v3) xs_v1) + (2 : Int32)) (v2 + v3) xs_v1) + (1 : Int32))), .val (.int ((0 : Int32) * (4 : Int32))), .unset, .unset]) rfl rfl ?_
  refine own_aloadN C A own_d14_219 rfl rfl rfl ?_
  refine own_iload C A own_d14_220 rfl rfl ?_
  refine own_iload C A own_d14_222 rfl rfl ?_
  refine own_bipush C A own_d14_224 (v := 34) rfl rfl ?_
  refine own_callPI C A 0 [(.int ((f10_0 ((f10_0 (v2 + (1 : Int32)) (v2 + v3) xs_v1) + (2 : Int32)) (v2 + v3) xs_v1) + (1 : Int32))), (.int (v2 + v3)), (.int (34 : Int32))] [] (own_w C 35 rfl) (own_w C 36 rfl) (own_w C 37 rfl) (own_w C 9 rfl) (own_w C 10 rfl) (own_w C 38 rfl) (by decide) E_v0 (rm5 l Z a0 C.2.2.2.2.2.2.2.2 [] v0 ((f10_0 ((f10_0 (v2 + (1 : Int32)) (v2 + v3) xs_v1) + (2 : Int32)) (v2 + v3) xs_v1) + (1 : Int32)) (v2 + v3) (34 : Int32) xs_v1 v1 _ _ (own_size A) F_bytes_v0 E_v0 V_v1 hq_15 hq_4) rfl rfl (by decide) (by decide) (by decide) (by decide) own_pd4 rfl rfl rfl (Nat.le_of_eq rfl) rfl own_d14_226 rfl (fun T A => ?_)
  refine own_istore C A own_d14_229 (l' := #[.val (.ref v0), .val (.ref v1), .val (.int v2), .val (.int v3), .val (.int (v2 + v3)), .val (.int ((f10_0 ((f10_0 (v2 + (1 : Int32)) (v2 + v3) xs_v1) + (2 : Int32)) (v2 + v3) xs_v1) + (1 : Int32))), .val (.int ((0 : Int32) * (4 : Int32))), .val (.int (f5_0 ((f10_0 ((f10_0 (v2 + (1 : Int32)) (v2 + v3) xs_v1) + (2 : Int32)) (v2 + v3) xs_v1) + (1 : Int32)) (v2 + v3) (34 : Int32) xs_v1)), .unset]) rfl rfl ?_
  refine own_iload C A own_d14_231 rfl rfl ?_
  refine own_ifY C A own_d14_233 (Jvm.Free.XT.i0_eq_t hp_233_0) (by decide) (q := 247) (by decide) ?_
  refine own_aloadN C A own_d14_247 rfl rfl rfl ?_
  refine own_iload C A own_d14_248 rfl rfl ?_
  refine own_iload C A own_d14_250 rfl rfl ?_
  refine own_callPI C A 0 [(.int ((f10_0 ((f10_0 (v2 + (1 : Int32)) (v2 + v3) xs_v1) + (2 : Int32)) (v2 + v3) xs_v1) + (1 : Int32))), (.int (v2 + v3))] [] (own_w C 41 rfl) (own_w C 42 rfl) (own_w C 43 rfl) (own_w C 9 rfl) (own_w C 10 rfl) (own_w C 44 rfl) (by decide) E_v0 (rm11 l Z a0 C.2.2.2.2.2.2.2.2 [] v0 ((f10_0 ((f10_0 (v2 + (1 : Int32)) (v2 + v3) xs_v1) + (2 : Int32)) (v2 + v3) xs_v1) + (1 : Int32)) (v2 + v3) xs_v1 v1 _ _ (own_size A) F_bytes_v0 E_v0 V_v1 hq_15 hq_4) rfl rfl (by decide) (by decide) (by decide) (by decide) own_pd3 rfl rfl rfl (Nat.le_of_eq rfl) rfl own_d14_252 rfl (fun T A => ?_)
  refine own_istore C A own_d14_255 (l' := #[.val (.ref v0), .val (.ref v1), .val (.int v2), .val (.int v3), .val (.int (v2 + v3)), .val (.int ((f10_0 ((f10_0 (v2 + (1 : Int32)) (v2 + v3) xs_v1) + (2 : Int32)) (v2 + v3) xs_v1) + (1 : Int32))), .val (.int ((0 : Int32) * (4 : Int32))), .val (.int (f5_0 ((f10_0 ((f10_0 (v2 + (1 : Int32)) (v2 + v3) xs_v1) + (2 : Int32)) (v2 + v3) xs_v1) + (1 : Int32)) (v2 + v3) (34 : Int32) xs_v1)), .val (.int (f11_0 ((f10_0 ((f10_0 (v2 + (1 : Int32)) (v2 + v3) xs_v1) + (2 : Int32)) (v2 + v3) xs_v1) + (1 : Int32)) (v2 + v3) xs_v1))]) rfl rfl ?_
  refine own_iload C A own_d14_257 rfl rfl ?_
  refine own_ifY C A own_d14_259 (Jvm.Free.XT.i0_ge_t hp_259_0) (by decide) (q := 264) (by decide) ?_
  refine own_aloadN C A own_d14_264 rfl rfl rfl ?_
  refine own_getF C A (own_w C 18 rfl) F_tokens_v0 own_d14_265 rfl (fun T A => ?_)
  refine own_iload C A own_d14_268 rfl rfl ?_
  refine own_iconst C A own_d14_270 (v := 2) rfl rfl ?_
  refine own_iadd C A own_d14_271 rfl ?_
  refine own_iload C A own_d14_272 rfl rfl ?_
  refine own_ifY C A own_d14_274 (Jvm.Free.XT.i0_eq_t hp_274_0) (by decide) (q := 284) (by decide) ?_
  refine own_iload C A own_d14_284 rfl rfl ?_
  refine own_iastore C A V_r_tokens_v0 ⟨by decide, by decide⟩ (ys := (((xs_r_tokens_v0.set (((0 : Int32) * (4 : Int32))).toNatClampNeg (((f10_0 (v2 + (1 : Int32)) (v2 + v3) xs_v1) + (2 : Int32)) + (1 : Int32))).set ((((0 : Int32) * (4 : Int32)) + (1 : Int32))).toNatClampNeg ((f10_0 ((f10_0 (v2 + (1 : Int32)) (v2 + v3) xs_v1) + (2 : Int32)) (v2 + v3) xs_v1) - (1 : Int32))).set ((((0 : Int32) * (4 : Int32)) + (2 : Int32))).toNatClampNeg ((f10_0 ((f10_0 (v2 + (1 : Int32)) (v2 + v3) xs_v1) + (2 : Int32)) (v2 + v3) xs_v1) + (1 : Int32)))) rfl g_r_tokens_v0 own_d14_286 rfl (fun T h Kw V_r_tokens_v0 A => ?_)
  have F_bytes_v0 := Fld.keep F_bytes_v0 Kw (ninS ne_a nin0)
  have F_typeFrom_v0 := Fld.keep F_typeFrom_v0 Kw (ninS ne_a nin0)
  have F_typeTo_v0 := Fld.keep F_typeTo_v0 Kw (ninS ne_a nin0)
  have F_tokens_v0 := Fld.keep F_tokens_v0 Kw (ninS ne_a nin0)
  have F_count_v0 := Fld.keep F_count_v0 Kw (ninS ne_a nin0)
  have E_v0 := Exa.keep E_v0 Kw
  have V_v1 := own_Ia.keep V_v1 Kw (ninS (Ne.symm ne_c) nin0)
  have K := K.trans Kw (allS (Or.inl (List.mem_of_getElem? (i := 1) rfl)) all0)
  refine own_aloadN C A own_d14_287 rfl rfl rfl ?_
  refine own_getF C A (own_w C 18 rfl) F_tokens_v0 own_d14_288 rfl (fun T A => ?_)
  refine own_iload C A own_d14_291 rfl rfl ?_
  refine own_iconst C A own_d14_293 (v := 3) rfl rfl ?_
  refine own_iadd C A own_d14_294 rfl ?_
  refine own_iload C A own_d14_295 rfl rfl ?_
  refine own_ifY C A own_d14_297 (Jvm.Free.XT.i0_eq_t hp_297_0) (by decide) (q := 307) (by decide) ?_
  refine own_iload C A own_d14_307 rfl rfl ?_
  refine own_iastore C A V_r_tokens_v0 ⟨by decide, by decide⟩ (ys := ((((xs_r_tokens_v0.set (((0 : Int32) * (4 : Int32))).toNatClampNeg (((f10_0 (v2 + (1 : Int32)) (v2 + v3) xs_v1) + (2 : Int32)) + (1 : Int32))).set ((((0 : Int32) * (4 : Int32)) + (1 : Int32))).toNatClampNeg ((f10_0 ((f10_0 (v2 + (1 : Int32)) (v2 + v3) xs_v1) + (2 : Int32)) (v2 + v3) xs_v1) - (1 : Int32))).set ((((0 : Int32) * (4 : Int32)) + (2 : Int32))).toNatClampNeg ((f10_0 ((f10_0 (v2 + (1 : Int32)) (v2 + v3) xs_v1) + (2 : Int32)) (v2 + v3) xs_v1) + (1 : Int32))).set ((((0 : Int32) * (4 : Int32)) + (3 : Int32))).toNatClampNeg (f11_0 ((f10_0 ((f10_0 (v2 + (1 : Int32)) (v2 + v3) xs_v1) + (2 : Int32)) (v2 + v3) xs_v1) + (1 : Int32)) (v2 + v3) xs_v1))) rfl g_r_tokens_v0 own_d14_309 rfl (fun T h Kw V_r_tokens_v0 A => ?_)
  have F_bytes_v0 := Fld.keep F_bytes_v0 Kw (ninS ne_a nin0)
  have F_typeFrom_v0 := Fld.keep F_typeFrom_v0 Kw (ninS ne_a nin0)
  have F_typeTo_v0 := Fld.keep F_typeTo_v0 Kw (ninS ne_a nin0)
  have F_tokens_v0 := Fld.keep F_tokens_v0 Kw (ninS ne_a nin0)
  have F_count_v0 := Fld.keep F_count_v0 Kw (ninS ne_a nin0)
  have E_v0 := Exa.keep E_v0 Kw
  have V_v1 := own_Ia.keep V_v1 Kw (ninS (Ne.symm ne_c) nin0)
  have K := K.trans Kw (allS (Or.inl (List.mem_of_getElem? (i := 1) rfl)) all0)
  refine own_aloadN C A own_d14_310 rfl rfl rfl ?_
  refine own_dup C A own_d14_311 rfl rfl ?_
  refine own_getF C A (own_w C 27 rfl) F_count_v0 own_d14_312 rfl (fun T A => ?_)
  refine own_iconst C A own_d14_315 (v := 1) rfl rfl ?_
  refine own_iadd C A own_d14_316 rfl ?_
  refine own_putF C A .int (own_w C 27 rfl) F_count_v0 E_v0 (Or.inl (own_w C 28 rfl)) (own_w C 9 rfl) (by decide) rfl rfl g_v0 own_d14_317 rfl (fun T h W A => ?_)
  have F_bytes_v0 := Fld.other W F_bytes_v0 (Or.inr (slot_ne (Or.inl (own_w C 26 rfl)) (Or.inl (own_w C 28 rfl)) (by decide) (by decide : parseFieldDescriptor _ = some (.array .byte)) (by decide : parseFieldDescriptor _ = some .int)))
  have F_typeFrom_v0 := Fld.other W F_typeFrom_v0 (Or.inr (slot_ne (Or.inl (own_w C 30 rfl)) (Or.inl (own_w C 28 rfl)) (by decide) (by decide : parseFieldDescriptor _ = some .int) (by decide : parseFieldDescriptor _ = some .int)))
  have F_typeTo_v0 := Fld.other W F_typeTo_v0 (Or.inr (slot_ne (Or.inl (own_w C 40 rfl)) (Or.inl (own_w C 28 rfl)) (by decide) (by decide : parseFieldDescriptor _ = some .int) (by decide : parseFieldDescriptor _ = some .int)))
  have F_tokens_v0 := Fld.other W F_tokens_v0 (Or.inr (slot_ne (Or.inl (own_w C 19 rfl)) (Or.inl (own_w C 28 rfl)) (by decide) (by decide : parseFieldDescriptor _ = some (.array .int)) (by decide : parseFieldDescriptor _ = some .int)))
  have F_count_v0 := Fld.same W F_count_v0
  have E_v0 := Exa.wr W E_v0
  have V_r_tokens_v0 := own_Ia.other V_r_tokens_v0 W (Ne.symm ne_a)
  have V_v1 := own_Ia.other V_v1 W (Ne.symm ne_b)
  have K := K.wr W (Or.inl (List.mem_of_getElem? (i := 0) rfl))
  refine own_iload C A own_d14_320 rfl rfl ?_
  refine own_istore C A own_d14_322 (l' := #[.val (.ref v0), .val (.ref v1), .val (.int v2), .val (.int v3), .val (.int (v2 + v3)), .val (.int (f11_0 ((f10_0 ((f10_0 (v2 + (1 : Int32)) (v2 + v3) xs_v1) + (2 : Int32)) (v2 + v3) xs_v1) + (1 : Int32)) (v2 + v3) xs_v1)), .val (.int ((0 : Int32) * (4 : Int32))), .val (.int (f5_0 ((f10_0 ((f10_0 (v2 + (1 : Int32)) (v2 + v3) xs_v1) + (2 : Int32)) (v2 + v3) xs_v1) + (1 : Int32)) (v2 + v3) (34 : Int32) xs_v1)), .val (.int (f11_0 ((f10_0 ((f10_0 (v2 + (1 : Int32)) (v2 + v3) xs_v1) + (2 : Int32)) (v2 + v3) xs_v1) + (1 : Int32)) (v2 + v3) xs_v1))]) rfl rfl ?_
  refine own_aloadN C A own_d14_324 rfl rfl rfl ?_
  refine own_iload C A own_d14_325 rfl rfl ?_
  refine own_iload C A own_d14_327 rfl rfl ?_
  refine own_bipush C A own_d14_329 (v := 44) rfl rfl ?_
  refine own_callPI C A 0 [(.int (f11_0 ((f10_0 ((f10_0 (v2 + (1 : Int32)) (v2 + v3) xs_v1) + (2 : Int32)) (v2 + v3) xs_v1) + (1 : Int32)) (v2 + v3) xs_v1)), (.int (v2 + v3)), (.int (44 : Int32))] [] (own_w C 35 rfl) (own_w C 36 rfl) (own_w C 37 rfl) (own_w C 9 rfl) (own_w C 10 rfl) (own_w C 38 rfl) (by decide) E_v0 (rm5 l Z a0 C.2.2.2.2.2.2.2.2 [] v0 (f11_0 ((f10_0 ((f10_0 (v2 + (1 : Int32)) (v2 + v3) xs_v1) + (2 : Int32)) (v2 + v3) xs_v1) + (1 : Int32)) (v2 + v3) xs_v1) (v2 + v3) (44 : Int32) xs_v1 v1 _ _ (own_size A) F_bytes_v0 E_v0 V_v1 hq_20 hq_4) rfl rfl (by decide) (by decide) (by decide) (by decide) own_pd4 rfl rfl rfl (Nat.le_of_eq rfl) rfl own_d14_331 rfl (fun T A => ?_)
  refine own_ifY C A own_d14_334 (Jvm.Free.XT.i0_ne_t hp_334_0) (by decide) (q := 340) (by decide) ?_
  refine own_iinc C A own_d14_340 rfl (l' := #[.val (.ref v0), .val (.ref v1), .val (.int v2), .val (.int v3), .val (.int (v2 + v3)), .val (.int ((f11_0 ((f10_0 ((f10_0 (v2 + (1 : Int32)) (v2 + v3) xs_v1) + (2 : Int32)) (v2 + v3) xs_v1) + (1 : Int32)) (v2 + v3) xs_v1) + (1 : Int32))), .val (.int ((0 : Int32) * (4 : Int32))), .val (.int (f5_0 ((f10_0 ((f10_0 (v2 + (1 : Int32)) (v2 + v3) xs_v1) + (2 : Int32)) (v2 + v3) xs_v1) + (1 : Int32)) (v2 + v3) (34 : Int32) xs_v1)), .val (.int (f11_0 ((f10_0 ((f10_0 (v2 + (1 : Int32)) (v2 + v3) xs_v1) + (2 : Int32)) (v2 + v3) xs_v1) + (1 : Int32)) (v2 + v3) xs_v1))]) rfl rfl ?_
  refine own_goto C A own_d14_343 (by decide) (q := 122) (by decide) ?_
  refine own_aloadN C A own_d14_122 rfl rfl rfl ?_
  refine own_getF C A (own_w C 27 rfl) F_count_v0 own_d14_123 rfl (fun T A => ?_)
  refine own_iconst C A own_d14_126 (v := 4) rfl rfl ?_
  refine own_imul C A own_d14_127 rfl ?_
  refine own_aloadN C A own_d14_128 rfl rfl rfl ?_
  refine own_getF C A (own_w C 18 rfl) F_tokens_v0 own_d14_129 rfl (fun T A => ?_)
  refine own_alen C A V_r_tokens_v0 own_d14_132 rfl ?_
  refine own_icmpY C A own_d14_133 (Jvm.Free.XT.ii_ne_t (by decide)) (by decide) (q := 154) (by decide) ?_
  refine own_aloadN C A own_d14_154 rfl rfl rfl ?_
  refine own_getF C A (own_w C 27 rfl) F_count_v0 own_d14_155 rfl (fun T A => ?_)
  refine own_iconst C A own_d14_158 (v := 4) rfl rfl ?_
  refine own_imul C A own_d14_159 rfl ?_
  refine own_istore C A own_d14_160 (l' := #[.val (.ref v0), .val (.ref v1), .val (.int v2), .val (.int v3), .val (.int (v2 + v3)), .val (.int ((f11_0 ((f10_0 ((f10_0 (v2 + (1 : Int32)) (v2 + v3) xs_v1) + (2 : Int32)) (v2 + v3) xs_v1) + (1 : Int32)) (v2 + v3) xs_v1) + (1 : Int32))), .val (.int (((0 : Int32) + (1 : Int32)) * (4 : Int32))), .val (.int (f5_0 ((f10_0 ((f10_0 (v2 + (1 : Int32)) (v2 + v3) xs_v1) + (2 : Int32)) (v2 + v3) xs_v1) + (1 : Int32)) (v2 + v3) (34 : Int32) xs_v1)), .val (.int (f11_0 ((f10_0 ((f10_0 (v2 + (1 : Int32)) (v2 + v3) xs_v1) + (2 : Int32)) (v2 + v3) xs_v1) + (1 : Int32)) (v2 + v3) xs_v1))]) rfl rfl ?_
  refine own_aloadN C A own_d14_162 rfl rfl rfl ?_
  refine own_getF C A (own_w C 18 rfl) F_tokens_v0 own_d14_163 rfl (fun T A => ?_)
  refine own_iload C A own_d14_166 rfl rfl ?_
  refine own_iload C A own_d14_168 rfl rfl ?_
  refine own_iconst C A own_d14_170 (v := 1) rfl rfl ?_
  refine own_iadd C A own_d14_171 rfl ?_
  refine own_iastore C A V_r_tokens_v0 ⟨by decide, by decide⟩ (ys := (((((xs_r_tokens_v0.set (((0 : Int32) * (4 : Int32))).toNatClampNeg (((f10_0 (v2 + (1 : Int32)) (v2 + v3) xs_v1) + (2 : Int32)) + (1 : Int32))).set ((((0 : Int32) * (4 : Int32)) + (1 : Int32))).toNatClampNeg ((f10_0 ((f10_0 (v2 + (1 : Int32)) (v2 + v3) xs_v1) + (2 : Int32)) (v2 + v3) xs_v1) - (1 : Int32))).set ((((0 : Int32) * (4 : Int32)) + (2 : Int32))).toNatClampNeg ((f10_0 ((f10_0 (v2 + (1 : Int32)) (v2 + v3) xs_v1) + (2 : Int32)) (v2 + v3) xs_v1) + (1 : Int32))).set ((((0 : Int32) * (4 : Int32)) + (3 : Int32))).toNatClampNeg (f11_0 ((f10_0 ((f10_0 (v2 + (1 : Int32)) (v2 + v3) xs_v1) + (2 : Int32)) (v2 + v3) xs_v1) + (1 : Int32)) (v2 + v3) xs_v1)).set ((((0 : Int32) + (1 : Int32)) * (4 : Int32))).toNatClampNeg (((f11_0 ((f10_0 ((f10_0 (v2 + (1 : Int32)) (v2 + v3) xs_v1) + (2 : Int32)) (v2 + v3) xs_v1) + (1 : Int32)) (v2 + v3) xs_v1) + (1 : Int32)) + (1 : Int32)))) rfl g_r_tokens_v0 own_d14_172 rfl (fun T h Kw V_r_tokens_v0 A => ?_)
  have F_bytes_v0 := Fld.keep F_bytes_v0 Kw (ninS ne_a nin0)
  have F_typeFrom_v0 := Fld.keep F_typeFrom_v0 Kw (ninS ne_a nin0)
  have F_typeTo_v0 := Fld.keep F_typeTo_v0 Kw (ninS ne_a nin0)
  have F_tokens_v0 := Fld.keep F_tokens_v0 Kw (ninS ne_a nin0)
  have F_count_v0 := Fld.keep F_count_v0 Kw (ninS ne_a nin0)
  have E_v0 := Exa.keep E_v0 Kw
  have V_v1 := own_Ia.keep V_v1 Kw (ninS (Ne.symm ne_c) nin0)
  have K := K.trans Kw (allS (Or.inl (List.mem_of_getElem? (i := 1) rfl)) all0)
  refine own_aloadN C A own_d14_173 rfl rfl rfl ?_
  refine own_iload C A own_d14_174 rfl rfl ?_
  refine own_iload C A own_d14_176 rfl rfl ?_
  refine own_callPI C A 0 [(.int ((f11_0 ((f10_0 ((f10_0 (v2 + (1 : Int32)) (v2 + v3) xs_v1) + (2 : Int32)) (v2 + v3) xs_v1) + (1 : Int32)) (v2 + v3) xs_v1) + (1 : Int32))), (.int (v2 + v3))] [] (own_w C 31 rfl) (own_w C 32 rfl) (own_w C 33 rfl) (own_w C 9 rfl) (own_w C 10 rfl) (own_w C 34 rfl) (by decide) E_v0 (rm10 l Z a0 C.2.2.2.2.2.2.2.2 [] v0 ((f11_0 ((f10_0 ((f10_0 (v2 + (1 : Int32)) (v2 + v3) xs_v1) + (2 : Int32)) (v2 + v3) xs_v1) + (1 : Int32)) (v2 + v3) xs_v1) + (1 : Int32)) (v2 + v3) xs_v1 v1 _ _ (own_size A) F_bytes_v0 E_v0 V_v1 hq_22 hq_4) rfl rfl (by decide) (by decide) (by decide) (by decide) own_pd3 rfl rfl rfl (Nat.le_of_eq rfl) rfl own_d14_178 rfl (fun T A => ?_)
  refine own_istore C A own_d14_181 (l' := #[.val (.ref v0), .val (.ref v1), .val (.int v2), .val (.int v3), .val (.int (v2 + v3)), .val (.int (f10_0 ((f11_0 ((f10_0 ((f10_0 (v2 + (1 : Int32)) (v2 + v3) xs_v1) + (2 : Int32)) (v2 + v3) xs_v1) + (1 : Int32)) (v2 + v3) xs_v1) + (1 : Int32)) (v2 + v3) xs_v1)), .val (.int (((0 : Int32) + (1 : Int32)) * (4 : Int32))), .val (.int (f5_0 ((f10_0 ((f10_0 (v2 + (1 : Int32)) (v2 + v3) xs_v1) + (2 : Int32)) (v2 + v3) xs_v1) + (1 : Int32)) (v2 + v3) (34 : Int32) xs_v1)), .val (.int (f11_0 ((f10_0 ((f10_0 (v2 + (1 : Int32)) (v2 + v3) xs_v1) + (2 : Int32)) (v2 + v3) xs_v1) + (1 : Int32)) (v2 + v3) xs_v1))]) rfl rfl ?_
  refine own_iload C A own_d14_183 rfl rfl ?_
  refine own_ifN C A own_d14_185 (Jvm.Free.XT.i0_lt_f hp_185_1) rfl ?_
  refine own_aloadN C A own_d14_188 rfl rfl rfl ?_
  refine own_iload C A own_d14_189 rfl rfl ?_
  refine own_iload C A own_d14_191 rfl rfl ?_
  refine own_bipush C A own_d14_193 (v := 58) rfl rfl ?_
  refine own_callPI C A 0 [(.int (f10_0 ((f11_0 ((f10_0 ((f10_0 (v2 + (1 : Int32)) (v2 + v3) xs_v1) + (2 : Int32)) (v2 + v3) xs_v1) + (1 : Int32)) (v2 + v3) xs_v1) + (1 : Int32)) (v2 + v3) xs_v1)), (.int (v2 + v3)), (.int (58 : Int32))] [] (own_w C 35 rfl) (own_w C 36 rfl) (own_w C 37 rfl) (own_w C 9 rfl) (own_w C 10 rfl) (own_w C 38 rfl) (by decide) E_v0 (rm5 l Z a0 C.2.2.2.2.2.2.2.2 [] v0 (f10_0 ((f11_0 ((f10_0 ((f10_0 (v2 + (1 : Int32)) (v2 + v3) xs_v1) + (2 : Int32)) (v2 + v3) xs_v1) + (1 : Int32)) (v2 + v3) xs_v1) + (1 : Int32)) (v2 + v3) xs_v1) (v2 + v3) (58 : Int32) xs_v1 v1 _ _ (own_size A) F_bytes_v0 E_v0 V_v1 hq_24 hq_4) rfl rfl (by decide) (by decide) (by decide) (by decide) own_pd4 rfl rfl rfl (Nat.le_of_eq rfl) rfl own_d14_195 rfl (fun T A => ?_)
  refine own_ifY C A own_d14_198 (Jvm.Free.XT.i0_ne_t hp_198_1) (by decide) (q := 203) (by decide) ?_
  refine own_aloadN C A own_d14_203 rfl rfl rfl ?_
  refine own_getF C A (own_w C 18 rfl) F_tokens_v0 own_d14_204 rfl (fun T A => ?_)
  refine own_iload C A own_d14_207 rfl rfl ?_
  refine own_iconst C A own_d14_209 (v := 1) rfl rfl ?_
  refine own_iadd C A own_d14_210 rfl ?_
  refine own_iload C A own_d14_211 rfl rfl ?_
  refine own_iconst C A own_d14_213 (v := 1) rfl rfl ?_
  refine own_isub C A own_d14_214 rfl ?_
  refine own_iastore C A V_r_tokens_v0 ⟨by decide, by decide⟩ (ys := ((((((xs_r_tokens_v0.set (((0 : Int32) * (4 : Int32))).toNatClampNeg (((f10_0 (v2 + (1 : Int32)) (v2 + v3) xs_v1) + (2 : Int32)) + (1 : Int32))).set ((((0 : Int32) * (4 : Int32)) + (1 : Int32))).toNatClampNeg ((f10_0 ((f10_0 (v2 + (1 : Int32)) (v2 + v3) xs_v1) + (2 : Int32)) (v2 + v3) xs_v1) - (1 : Int32))).set ((((0 : Int32) * (4 : Int32)) + (2 : Int32))).toNatClampNeg ((f10_0 ((f10_0 (v2 + (1 : Int32)) (v2 + v3) xs_v1) + (2 : Int32)) (v2 + v3) xs_v1) + (1 : Int32))).set ((((0 : Int32) * (4 : Int32)) + (3 : Int32))).toNatClampNeg (f11_0 ((f10_0 ((f10_0 (v2 + (1 : Int32)) (v2 + v3) xs_v1) + (2 : Int32)) (v2 + v3) xs_v1) + (1 : Int32)) (v2 + v3) xs_v1)).set ((((0 : Int32) + (1 : Int32)) * (4 : Int32))).toNatClampNeg (((f11_0 ((f10_0 ((f10_0 (v2 + (1 : Int32)) (v2 + v3) xs_v1) + (2 : Int32)) (v2 + v3) xs_v1) + (1 : Int32)) (v2 + v3) xs_v1) + (1 : Int32)) + (1 : Int32))).set (((((0 : Int32) + (1 : Int32)) * (4 : Int32)) + (1 : Int32))).toNatClampNeg ((f10_0 ((f11_0 ((f10_0 ((f10_0 (v2 + (1 : Int32)) (v2 + v3) xs_v1) + (2 : Int32)) (v2 + v3) xs_v1) + (1 : Int32)) (v2 + v3) xs_v1) + (1 : Int32)) (v2 + v3) xs_v1) - (1 : Int32)))) rfl g_r_tokens_v0 own_d14_215 rfl (fun T h Kw V_r_tokens_v0 A => ?_)
  have F_bytes_v0 := Fld.keep F_bytes_v0 Kw (ninS ne_a nin0)
  have F_typeFrom_v0 := Fld.keep F_typeFrom_v0 Kw (ninS ne_a nin0)
  have F_typeTo_v0 := Fld.keep F_typeTo_v0 Kw (ninS ne_a nin0)
  have F_tokens_v0 := Fld.keep F_tokens_v0 Kw (ninS ne_a nin0)
  have F_count_v0 := Fld.keep F_count_v0 Kw (ninS ne_a nin0)
  have E_v0 := Exa.keep E_v0 Kw
  have V_v1 := own_Ia.keep V_v1 Kw (ninS (Ne.symm ne_c) nin0)
  have K := K.trans Kw (allS (Or.inl (List.mem_of_getElem? (i := 1) rfl)) all0)
  refine own_iinc C A own_d14_216 rfl (l' := #[.val (.ref v0), .val (.ref v1), .val (.int v2), .val (.int v3), .val (.int (v2 + v3)), .val (.int ((f10_0 ((f11_0 ((f10_0 ((f10_0 (v2 + (1 : Int32)) (v2 + v3) xs_v1) + (2 : Int32)) (v2 + v3) xs_v1) + (1 : Int32)) (v2 + v3) xs_v1) + (1 : Int32)) (v2 + v3) xs_v1) + (1 : Int32))), .val (.int (((0 : Int32) + (1 : Int32)) * (4 : Int32))), .val (.int (f5_0 ((f10_0 ((f10_0 (v2 + (1 : Int32)) (v2 + v3) xs_v1) + (2 : Int32)) (v2 + v3) xs_v1) + (1 : Int32)) (v2 + v3) (34 : Int32) xs_v1)), .val (.int (f11_0 ((f10_0 ((f10_0 (v2 + (1 : Int32)) (v2 + v3) xs_v1) + (2 : Int32)) (v2 + v3) xs_v1) + (1 : Int32)) (v2 + v3) xs_v1))]) rfl rfl ?_
  refine own_aloadN C A own_d14_219 rfl rfl rfl ?_
  refine own_iload C A own_d14_220 rfl rfl ?_
  refine own_iload C A own_d14_222 rfl rfl ?_
  refine own_bipush C A own_d14_224 (v := 34) rfl rfl ?_
  refine own_callPI C A 0 [(.int ((f10_0 ((f11_0 ((f10_0 ((f10_0 (v2 + (1 : Int32)) (v2 + v3) xs_v1) + (2 : Int32)) (v2 + v3) xs_v1) + (1 : Int32)) (v2 + v3) xs_v1) + (1 : Int32)) (v2 + v3) xs_v1) + (1 : Int32))), (.int (v2 + v3)), (.int (34 : Int32))] [] (own_w C 35 rfl) (own_w C 36 rfl) (own_w C 37 rfl) (own_w C 9 rfl) (own_w C 10 rfl) (own_w C 38 rfl) (by decide) E_v0 (rm5 l Z a0 C.2.2.2.2.2.2.2.2 [] v0 ((f10_0 ((f11_0 ((f10_0 ((f10_0 (v2 + (1 : Int32)) (v2 + v3) xs_v1) + (2 : Int32)) (v2 + v3) xs_v1) + (1 : Int32)) (v2 + v3) xs_v1) + (1 : Int32)) (v2 + v3) xs_v1) + (1 : Int32)) (v2 + v3) (34 : Int32) xs_v1 v1 _ _ (own_size A) F_bytes_v0 E_v0 V_v1 hq_26 hq_4) rfl rfl (by decide) (by decide) (by decide) (by decide) own_pd4 rfl rfl rfl (Nat.le_of_eq rfl) rfl own_d14_226 rfl (fun T A => ?_)
  refine own_istore C A own_d14_229 (l' := #[.val (.ref v0), .val (.ref v1), .val (.int v2), .val (.int v3), .val (.int (v2 + v3)), .val (.int ((f10_0 ((f11_0 ((f10_0 ((f10_0 (v2 + (1 : Int32)) (v2 + v3) xs_v1) + (2 : Int32)) (v2 + v3) xs_v1) + (1 : Int32)) (v2 + v3) xs_v1) + (1 : Int32)) (v2 + v3) xs_v1) + (1 : Int32))), .val (.int (((0 : Int32) + (1 : Int32)) * (4 : Int32))), .val (.int (f5_0 ((f10_0 ((f11_0 ((f10_0 ((f10_0 (v2 + (1 : Int32)) (v2 + v3) xs_v1) + (2 : Int32)) (v2 + v3) xs_v1) + (1 : Int32)) (v2 + v3) xs_v1) + (1 : Int32)) (v2 + v3) xs_v1) + (1 : Int32)) (v2 + v3) (34 : Int32) xs_v1)), .val (.int (f11_0 ((f10_0 ((f10_0 (v2 + (1 : Int32)) (v2 + v3) xs_v1) + (2 : Int32)) (v2 + v3) xs_v1) + (1 : Int32)) (v2 + v3) xs_v1))]) rfl rfl ?_
  refine own_iload C A own_d14_231 rfl rfl ?_
  refine own_ifN C A own_d14_233 (Jvm.Free.XT.i0_eq_f hp_233_1) rfl ?_
  refine own_aloadN C A own_d14_236 rfl rfl rfl ?_
  refine own_iload C A own_d14_237 rfl rfl ?_
  refine own_iload C A own_d14_239 rfl rfl ?_
  refine own_callPI C A 0 [(.int ((f10_0 ((f11_0 ((f10_0 ((f10_0 (v2 + (1 : Int32)) (v2 + v3) xs_v1) + (2 : Int32)) (v2 + v3) xs_v1) + (1 : Int32)) (v2 + v3) xs_v1) + (1 : Int32)) (v2 + v3) xs_v1) + (1 : Int32))), (.int (v2 + v3))] [] (own_w C 31 rfl) (own_w C 32 rfl) (own_w C 33 rfl) (own_w C 9 rfl) (own_w C 10 rfl) (own_w C 34 rfl) (by decide) E_v0 (rm10 l Z a0 C.2.2.2.2.2.2.2.2 [] v0 ((f10_0 ((f11_0 ((f10_0 ((f10_0 (v2 + (1 : Int32)) (v2 + v3) xs_v1) + (2 : Int32)) (v2 + v3) xs_v1) + (1 : Int32)) (v2 + v3) xs_v1) + (1 : Int32)) (v2 + v3) xs_v1) + (1 : Int32)) (v2 + v3) xs_v1 v1 _ _ (own_size A) F_bytes_v0 E_v0 V_v1 hq_26 hq_4) rfl rfl (by decide) (by decide) (by decide) (by decide) own_pd3 rfl rfl rfl (Nat.le_of_eq rfl) rfl own_d14_241 rfl (fun T A => ?_)
  refine own_goto C A own_d14_244 (by decide) (q := 255) (by decide) ?_
  refine own_istore C A own_d14_255 (l' := #[.val (.ref v0), .val (.ref v1), .val (.int v2), .val (.int v3), .val (.int (v2 + v3)), .val (.int ((f10_0 ((f11_0 ((f10_0 ((f10_0 (v2 + (1 : Int32)) (v2 + v3) xs_v1) + (2 : Int32)) (v2 + v3) xs_v1) + (1 : Int32)) (v2 + v3) xs_v1) + (1 : Int32)) (v2 + v3) xs_v1) + (1 : Int32))), .val (.int (((0 : Int32) + (1 : Int32)) * (4 : Int32))), .val (.int (f5_0 ((f10_0 ((f11_0 ((f10_0 ((f10_0 (v2 + (1 : Int32)) (v2 + v3) xs_v1) + (2 : Int32)) (v2 + v3) xs_v1) + (1 : Int32)) (v2 + v3) xs_v1) + (1 : Int32)) (v2 + v3) xs_v1) + (1 : Int32)) (v2 + v3) (34 : Int32) xs_v1)), .val (.int (f10_0 ((f10_0 ((f11_0 ((f10_0 ((f10_0 (v2 + (1 : Int32)) (v2 + v3) xs_v1) + (2 : Int32)) (v2 + v3) xs_v1) + (1 : Int32)) (v2 + v3) xs_v1) + (1 : Int32)) (v2 + v3) xs_v1) + (1 : Int32)) (v2 + v3) xs_v1))]) rfl rfl ?_
  refine own_iload C A own_d14_257 rfl rfl ?_
  refine own_ifY C A own_d14_259 (Jvm.Free.XT.i0_ge_t hp_259_1) (by decide) (q := 264) (by decide) ?_
  refine own_aloadN C A own_d14_264 rfl rfl rfl ?_
  refine own_getF C A (own_w C 18 rfl) F_tokens_v0 own_d14_265 rfl (fun T A => ?_)
  refine own_iload C A own_d14_268 rfl rfl ?_
  refine own_iconst C A own_d14_270 (v := 2) rfl rfl ?_
  refine own_iadd C A own_d14_271 rfl ?_
  refine own_iload C A own_d14_272 rfl rfl ?_
  refine own_ifN C A own_d14_274 (Jvm.Free.XT.i0_eq_f hp_274_1) rfl ?_
  refine own_iload C A own_d14_277 rfl rfl ?_
  refine own_iconst C A own_d14_279 (v := 1) rfl rfl ?_
  refine own_iadd C A own_d14_280 rfl ?_
  refine own_goto C A own_d14_281 (by decide) (q := 286) (by decide) ?_
  refine own_iastore C A V_r_tokens_v0 ⟨by decide, by decide⟩ (ys := (((((((xs_r_tokens_v0.set (((0 : Int32) * (4 : Int32))).toNatClampNeg (((f10_0 (v2 + (1 : Int32)) (v2 + v3) xs_v1) + (2 : Int32)) + (1 : Int32))).set ((((0 : Int32) * (4 : Int32)) + (1 : Int32))).toNatClampNeg ((f10_0 ((f10_0 (v2 + (1 : Int32)) (v2 + v3) xs_v1) + (2 : Int32)) (v2 + v3) xs_v1) - (1 : Int32))).set ((((0 : Int32) * (4 : Int32)) + (2 : Int32))).toNatClampNeg ((f10_0 ((f10_0 (v2 + (1 : Int32)) (v2 + v3) xs_v1) + (2 : Int32)) (v2 + v3) xs_v1) + (1 : Int32))).set ((((0 : Int32) * (4 : Int32)) + (3 : Int32))).toNatClampNeg (f11_0 ((f10_0 ((f10_0 (v2 + (1 : Int32)) (v2 + v3) xs_v1) + (2 : Int32)) (v2 + v3) xs_v1) + (1 : Int32)) (v2 + v3) xs_v1)).set ((((0 : Int32) + (1 : Int32)) * (4 : Int32))).toNatClampNeg (((f11_0 ((f10_0 ((f10_0 (v2 + (1 : Int32)) (v2 + v3) xs_v1) + (2 : Int32)) (v2 + v3) xs_v1) + (1 : Int32)) (v2 + v3) xs_v1) + (1 : Int32)) + (1 : Int32))).set (((((0 : Int32) + (1 : Int32)) * (4 : Int32)) + (1 : Int32))).toNatClampNeg ((f10_0 ((f11_0 ((f10_0 ((f10_0 (v2 + (1 : Int32)) (v2 + v3) xs_v1) + (2 : Int32)) (v2 + v3) xs_v1) + (1 : Int32)) (v2 + v3) xs_v1) + (1 : Int32)) (v2 + v3) xs_v1) - (1 : Int32))).set (((((0 : Int32) + (1 : Int32)) * (4 : Int32)) + (2 : Int32))).toNatClampNeg (((f10_0 ((f11_0 ((f10_0 ((f10_0 (v2 + (1 : Int32)) (v2 + v3) xs_v1) + (2 : Int32)) (v2 + v3) xs_v1) + (1 : Int32)) (v2 + v3) xs_v1) + (1 : Int32)) (v2 + v3) xs_v1) + (1 : Int32)) + (1 : Int32)))) rfl g_r_tokens_v0 own_d14_286 rfl (fun T h Kw V_r_tokens_v0 A => ?_)
  have F_bytes_v0 := Fld.keep F_bytes_v0 Kw (ninS ne_a nin0)
  have F_typeFrom_v0 := Fld.keep F_typeFrom_v0 Kw (ninS ne_a nin0)
  have F_typeTo_v0 := Fld.keep F_typeTo_v0 Kw (ninS ne_a nin0)
  have F_tokens_v0 := Fld.keep F_tokens_v0 Kw (ninS ne_a nin0)
  have F_count_v0 := Fld.keep F_count_v0 Kw (ninS ne_a nin0)
  have E_v0 := Exa.keep E_v0 Kw
  have V_v1 := own_Ia.keep V_v1 Kw (ninS (Ne.symm ne_c) nin0)
  have K := K.trans Kw (allS (Or.inl (List.mem_of_getElem? (i := 1) rfl)) all0)
  refine own_aloadN C A own_d14_287 rfl rfl rfl ?_
  refine own_getF C A (own_w C 18 rfl) F_tokens_v0 own_d14_288 rfl (fun T A => ?_)
  refine own_iload C A own_d14_291 rfl rfl ?_
  refine own_iconst C A own_d14_293 (v := 3) rfl rfl ?_
  refine own_iadd C A own_d14_294 rfl ?_
  refine own_iload C A own_d14_295 rfl rfl ?_
  refine own_ifN C A own_d14_297 (Jvm.Free.XT.i0_eq_f hp_297_1) rfl ?_
  refine own_iload C A own_d14_300 rfl rfl ?_
  refine own_iconst C A own_d14_302 (v := 1) rfl rfl ?_
  refine own_isub C A own_d14_303 rfl ?_
  refine own_goto C A own_d14_304 (by decide) (q := 309) (by decide) ?_
  refine own_iastore C A V_r_tokens_v0 ⟨by decide, by decide⟩ (ys := ((((((((xs_r_tokens_v0.set (((0 : Int32) * (4 : Int32))).toNatClampNeg (((f10_0 (v2 + (1 : Int32)) (v2 + v3) xs_v1) + (2 : Int32)) + (1 : Int32))).set ((((0 : Int32) * (4 : Int32)) + (1 : Int32))).toNatClampNeg ((f10_0 ((f10_0 (v2 + (1 : Int32)) (v2 + v3) xs_v1) + (2 : Int32)) (v2 + v3) xs_v1) - (1 : Int32))).set ((((0 : Int32) * (4 : Int32)) + (2 : Int32))).toNatClampNeg ((f10_0 ((f10_0 (v2 + (1 : Int32)) (v2 + v3) xs_v1) + (2 : Int32)) (v2 + v3) xs_v1) + (1 : Int32))).set ((((0 : Int32) * (4 : Int32)) + (3 : Int32))).toNatClampNeg (f11_0 ((f10_0 ((f10_0 (v2 + (1 : Int32)) (v2 + v3) xs_v1) + (2 : Int32)) (v2 + v3) xs_v1) + (1 : Int32)) (v2 + v3) xs_v1)).set ((((0 : Int32) + (1 : Int32)) * (4 : Int32))).toNatClampNeg (((f11_0 ((f10_0 ((f10_0 (v2 + (1 : Int32)) (v2 + v3) xs_v1) + (2 : Int32)) (v2 + v3) xs_v1) + (1 : Int32)) (v2 + v3) xs_v1) + (1 : Int32)) + (1 : Int32))).set (((((0 : Int32) + (1 : Int32)) * (4 : Int32)) + (1 : Int32))).toNatClampNeg ((f10_0 ((f11_0 ((f10_0 ((f10_0 (v2 + (1 : Int32)) (v2 + v3) xs_v1) + (2 : Int32)) (v2 + v3) xs_v1) + (1 : Int32)) (v2 + v3) xs_v1) + (1 : Int32)) (v2 + v3) xs_v1) - (1 : Int32))).set (((((0 : Int32) + (1 : Int32)) * (4 : Int32)) + (2 : Int32))).toNatClampNeg (((f10_0 ((f11_0 ((f10_0 ((f10_0 (v2 + (1 : Int32)) (v2 + v3) xs_v1) + (2 : Int32)) (v2 + v3) xs_v1) + (1 : Int32)) (v2 + v3) xs_v1) + (1 : Int32)) (v2 + v3) xs_v1) + (1 : Int32)) + (1 : Int32))).set (((((0 : Int32) + (1 : Int32)) * (4 : Int32)) + (3 : Int32))).toNatClampNeg ((f10_0 ((f10_0 ((f11_0 ((f10_0 ((f10_0 (v2 + (1 : Int32)) (v2 + v3) xs_v1) + (2 : Int32)) (v2 + v3) xs_v1) + (1 : Int32)) (v2 + v3) xs_v1) + (1 : Int32)) (v2 + v3) xs_v1) + (1 : Int32)) (v2 + v3) xs_v1) - (1 : Int32)))) rfl g_r_tokens_v0 own_d14_309 rfl (fun T h Kw V_r_tokens_v0 A => ?_)
  have F_bytes_v0 := Fld.keep F_bytes_v0 Kw (ninS ne_a nin0)
  have F_typeFrom_v0 := Fld.keep F_typeFrom_v0 Kw (ninS ne_a nin0)
  have F_typeTo_v0 := Fld.keep F_typeTo_v0 Kw (ninS ne_a nin0)
  have F_tokens_v0 := Fld.keep F_tokens_v0 Kw (ninS ne_a nin0)
  have F_count_v0 := Fld.keep F_count_v0 Kw (ninS ne_a nin0)
  have E_v0 := Exa.keep E_v0 Kw
  have V_v1 := own_Ia.keep V_v1 Kw (ninS (Ne.symm ne_c) nin0)
  have K := K.trans Kw (allS (Or.inl (List.mem_of_getElem? (i := 1) rfl)) all0)
  refine own_aloadN C A own_d14_310 rfl rfl rfl ?_
  refine own_dup C A own_d14_311 rfl rfl ?_
  refine own_getF C A (own_w C 27 rfl) F_count_v0 own_d14_312 rfl (fun T A => ?_)
  refine own_iconst C A own_d14_315 (v := 1) rfl rfl ?_
  refine own_iadd C A own_d14_316 rfl ?_
  refine own_putF C A .int (own_w C 27 rfl) F_count_v0 E_v0 (Or.inl (own_w C 28 rfl)) (own_w C 9 rfl) (by decide) rfl rfl g_v0 own_d14_317 rfl (fun T h W A => ?_)
  have F_bytes_v0 := Fld.other W F_bytes_v0 (Or.inr (slot_ne (Or.inl (own_w C 26 rfl)) (Or.inl (own_w C 28 rfl)) (by decide) (by decide : parseFieldDescriptor _ = some (.array .byte)) (by decide : parseFieldDescriptor _ = some .int)))
  have F_typeFrom_v0 := Fld.other W F_typeFrom_v0 (Or.inr (slot_ne (Or.inl (own_w C 30 rfl)) (Or.inl (own_w C 28 rfl)) (by decide) (by decide : parseFieldDescriptor _ = some .int) (by decide : parseFieldDescriptor _ = some .int)))
  have F_typeTo_v0 := Fld.other W F_typeTo_v0 (Or.inr (slot_ne (Or.inl (own_w C 40 rfl)) (Or.inl (own_w C 28 rfl)) (by decide) (by decide : parseFieldDescriptor _ = some .int) (by decide : parseFieldDescriptor _ = some .int)))
  have F_tokens_v0 := Fld.other W F_tokens_v0 (Or.inr (slot_ne (Or.inl (own_w C 19 rfl)) (Or.inl (own_w C 28 rfl)) (by decide) (by decide : parseFieldDescriptor _ = some (.array .int)) (by decide : parseFieldDescriptor _ = some .int)))
  have F_count_v0 := Fld.same W F_count_v0
  have E_v0 := Exa.wr W E_v0
  have V_r_tokens_v0 := own_Ia.other V_r_tokens_v0 W (Ne.symm ne_a)
  have V_v1 := own_Ia.other V_v1 W (Ne.symm ne_b)
  have K := K.wr W (Or.inl (List.mem_of_getElem? (i := 0) rfl))
  refine own_iload C A own_d14_320 rfl rfl ?_
  refine own_istore C A own_d14_322 (l' := #[.val (.ref v0), .val (.ref v1), .val (.int v2), .val (.int v3), .val (.int (v2 + v3)), .val (.int (f10_0 ((f10_0 ((f11_0 ((f10_0 ((f10_0 (v2 + (1 : Int32)) (v2 + v3) xs_v1) + (2 : Int32)) (v2 + v3) xs_v1) + (1 : Int32)) (v2 + v3) xs_v1) + (1 : Int32)) (v2 + v3) xs_v1) + (1 : Int32)) (v2 + v3) xs_v1)), .val (.int (((0 : Int32) + (1 : Int32)) * (4 : Int32))), .val (.int (f5_0 ((f10_0 ((f11_0 ((f10_0 ((f10_0 (v2 + (1 : Int32)) (v2 + v3) xs_v1) + (2 : Int32)) (v2 + v3) xs_v1) + (1 : Int32)) (v2 + v3) xs_v1) + (1 : Int32)) (v2 + v3) xs_v1) + (1 : Int32)) (v2 + v3) (34 : Int32) xs_v1)), .val (.int (f10_0 ((f10_0 ((f11_0 ((f10_0 ((f10_0 (v2 + (1 : Int32)) (v2 + v3) xs_v1) + (2 : Int32)) (v2 + v3) xs_v1) + (1 : Int32)) (v2 + v3) xs_v1) + (1 : Int32)) (v2 + v3) xs_v1) + (1 : Int32)) (v2 + v3) xs_v1))]) rfl rfl ?_
  refine own_aloadN C A own_d14_324 rfl rfl rfl ?_
  refine own_iload C A own_d14_325 rfl rfl ?_
  refine own_iload C A own_d14_327 rfl rfl ?_
  refine own_bipush C A own_d14_329 (v := 44) rfl rfl ?_
  refine own_callPI C A 0 [(.int (f10_0 ((f10_0 ((f11_0 ((f10_0 ((f10_0 (v2 + (1 : Int32)) (v2 + v3) xs_v1) + (2 : Int32)) (v2 + v3) xs_v1) + (1 : Int32)) (v2 + v3) xs_v1) + (1 : Int32)) (v2 + v3) xs_v1) + (1 : Int32)) (v2 + v3) xs_v1)), (.int (v2 + v3)), (.int (44 : Int32))] [] (own_w C 35 rfl) (own_w C 36 rfl) (own_w C 37 rfl) (own_w C 9 rfl) (own_w C 10 rfl) (own_w C 38 rfl) (by decide) E_v0 (rm5 l Z a0 C.2.2.2.2.2.2.2.2 [] v0 (f10_0 ((f10_0 ((f11_0 ((f10_0 ((f10_0 (v2 + (1 : Int32)) (v2 + v3) xs_v1) + (2 : Int32)) (v2 + v3) xs_v1) + (1 : Int32)) (v2 + v3) xs_v1) + (1 : Int32)) (v2 + v3) xs_v1) + (1 : Int32)) (v2 + v3) xs_v1) (v2 + v3) (44 : Int32) xs_v1 v1 _ _ (own_size A) F_bytes_v0 E_v0 V_v1 hq_31 hq_4) rfl rfl (by decide) (by decide) (by decide) (by decide) own_pd4 rfl rfl rfl (Nat.le_of_eq rfl) rfl own_d14_331 rfl (fun T A => ?_)
  refine own_ifN C A own_d14_334 (Jvm.Free.XT.i0_ne_f hp_334_1) rfl ?_
  refine own_goto C A own_d14_337 (by decide) (q := 346) (by decide) ?_
  refine own_aloadN C A own_d14_346 rfl rfl rfl ?_
  refine own_iload C A own_d14_347 rfl rfl ?_
  refine own_iload C A own_d14_349 rfl rfl ?_
  refine own_bipush C A own_d14_351 (v := 125) rfl rfl ?_
  refine own_callPI C A 0 [(.int (f10_0 ((f10_0 ((f11_0 ((f10_0 ((f10_0 (v2 + (1 : Int32)) (v2 + v3) xs_v1) + (2 : Int32)) (v2 + v3) xs_v1) + (1 : Int32)) (v2 + v3) xs_v1) + (1 : Int32)) (v2 + v3) xs_v1) + (1 : Int32)) (v2 + v3) xs_v1)), (.int (v2 + v3)), (.int (125 : Int32))] [] (own_w C 35 rfl) (own_w C 36 rfl) (own_w C 37 rfl) (own_w C 9 rfl) (own_w C 10 rfl) (own_w C 38 rfl) (by decide) E_v0 (rm5 l Z a0 C.2.2.2.2.2.2.2.2 [] v0 (f10_0 ((f10_0 ((f11_0 ((f10_0 ((f10_0 (v2 + (1 : Int32)) (v2 + v3) xs_v1) + (2 : Int32)) (v2 + v3) xs_v1) + (1 : Int32)) (v2 + v3) xs_v1) + (1 : Int32)) (v2 + v3) xs_v1) + (1 : Int32)) (v2 + v3) xs_v1) (v2 + v3) (125 : Int32) xs_v1 v1 _ _ (own_size A) F_bytes_v0 E_v0 V_v1 hq_31 hq_4) rfl rfl (by decide) (by decide) (by decide) (by decide) own_pd4 rfl rfl rfl (Nat.le_of_eq rfl) rfl own_d14_353 rfl (fun T A => ?_)
  refine own_ifY C A own_d14_356 (Jvm.Free.XT.i0_ne_t hp_356_0) (by decide) (q := 361) (by decide) ?_
  refine own_iinc C A own_d14_361 rfl (l' := #[.val (.ref v0), .val (.ref v1), .val (.int v2), .val (.int v3), .val (.int (v2 + v3)), .val (.int ((f10_0 ((f10_0 ((f11_0 ((f10_0 ((f10_0 (v2 + (1 : Int32)) (v2 + v3) xs_v1) + (2 : Int32)) (v2 + v3) xs_v1) + (1 : Int32)) (v2 + v3) xs_v1) + (1 : Int32)) (v2 + v3) xs_v1) + (1 : Int32)) (v2 + v3) xs_v1) + (1 : Int32))), .val (.int (((0 : Int32) + (1 : Int32)) * (4 : Int32))), .val (.int (f5_0 ((f10_0 ((f11_0 ((f10_0 ((f10_0 (v2 + (1 : Int32)) (v2 + v3) xs_v1) + (2 : Int32)) (v2 + v3) xs_v1) + (1 : Int32)) (v2 + v3) xs_v1) + (1 : Int32)) (v2 + v3) xs_v1) + (1 : Int32)) (v2 + v3) (34 : Int32) xs_v1)), .val (.int (f10_0 ((f10_0 ((f11_0 ((f10_0 ((f10_0 (v2 + (1 : Int32)) (v2 + v3) xs_v1) + (2 : Int32)) (v2 + v3) xs_v1) + (1 : Int32)) (v2 + v3) xs_v1) + (1 : Int32)) (v2 + v3) xs_v1) + (1 : Int32)) (v2 + v3) xs_v1))]) rfl rfl ?_
  refine own_aloadN C A own_d14_364 rfl rfl rfl ?_
  refine own_iload C A own_d14_365 rfl rfl ?_
  refine own_iload C A own_d14_367 rfl rfl ?_
  refine own_bipush C A own_d14_369 (v := 125) rfl rfl ?_
  refine own_callPI C A 0 [(.int ((f10_0 ((f10_0 ((f11_0 ((f10_0 ((f10_0 (v2 + (1 : Int32)) (v2 + v3) xs_v1) + (2 : Int32)) (v2 + v3) xs_v1) + (1 : Int32)) (v2 + v3) xs_v1) + (1 : Int32)) (v2 + v3) xs_v1) + (1 : Int32)) (v2 + v3) xs_v1) + (1 : Int32))), (.int (v2 + v3)), (.int (125 : Int32))] [] (own_w C 35 rfl) (own_w C 36 rfl) (own_w C 37 rfl) (own_w C 9 rfl) (own_w C 10 rfl) (own_w C 38 rfl) (by decide) E_v0 (rm5 l Z a0 C.2.2.2.2.2.2.2.2 [] v0 ((f10_0 ((f10_0 ((f11_0 ((f10_0 ((f10_0 (v2 + (1 : Int32)) (v2 + v3) xs_v1) + (2 : Int32)) (v2 + v3) xs_v1) + (1 : Int32)) (v2 + v3) xs_v1) + (1 : Int32)) (v2 + v3) xs_v1) + (1 : Int32)) (v2 + v3) xs_v1) + (1 : Int32)) (v2 + v3) (125 : Int32) xs_v1 v1 _ _ (own_size A) F_bytes_v0 E_v0 V_v1 hq_34 hq_4) rfl rfl (by decide) (by decide) (by decide) (by decide) own_pd4 rfl rfl rfl (Nat.le_of_eq rfl) rfl own_d14_371 rfl (fun T A => ?_)
  refine own_ifN C A own_d14_374 (Jvm.Free.XT.i0_eq_f hp_374_0) rfl ?_
  refine own_iload C A own_d14_377 rfl rfl ?_
  refine own_iconst C A own_d14_379 (v := 1) rfl rfl ?_
  refine own_iadd C A own_d14_380 rfl ?_
  refine own_iload C A own_d14_381 rfl rfl ?_
  refine own_icmpN C A own_d14_383 (Jvm.Free.XT.ii_ne_f hp_383_0) rfl ?_
  refine own_iconst C A own_d14_386 (v := 1) rfl rfl ?_
  refine own_goto C A own_d14_387 (by decide) (q := 391) (by decide) ?_
  exact own_retN C A (t := .boolean) (by simp) own_d14_391 ⟨rfl, K, E_v0, F_bytes_v0, F_typeFrom_v0, F_typeTo_v0, F_tokens_v0, F_count_v0, V_r_tokens_v0⟩
theorem own_ef14 (m : MethodId) (v0 : Addr) (v1 : Addr) (v2 : Int32) (v3 : Int32) : entryFrame m #[(.ref v0), (.ref v1), (.int v2), (.int v3)] 9 = mkF m 0 #[.val (.ref v0), .val (.ref v1), .val (.int v2), .val (.int v3), .unset, .unset, .unset, .unset, .unset] [] := by first | (simp [entryFrame, mkF, argsToLocals, Value.category]; done) | rfl
theorem rm14 (l : Launch) (Z : State) (a0 : Array Value) (hw : ∀ d ∈ tables_1, d.before a0 Z = true) (ws : List Jvm.Cond) (v0 : Addr) (v1 : Addr) (v2 : Int32) (v3 : Int32) (xs_r_tokens_v0 : List Int32) (xs_v1 : List Int32) (o_bytes_v0 : Value) (o_typeFrom_v0 : Value) (o_typeTo_v0 : Value) (r_tokens_v0 : Addr) (o_count_v0 : Value) (h : Heap) (n0 : Nat) (hn : n0 ≤ h.size) (F_bytes_v0 : Fld Z h v0 "com/example/tidemark/tidemark/table/PlainLine" "bytes" "[B" o_bytes_v0) (F_typeFrom_v0 : Fld Z h v0 "com/example/tidemark/tidemark/table/PlainLine" "typeFrom" "I" o_typeFrom_v0) (F_typeTo_v0 : Fld Z h v0 "com/example/tidemark/tidemark/table/PlainLine" "typeTo" "I" o_typeTo_v0) (F_tokens_v0 : Fld Z h v0 "com/example/tidemark/tidemark/table/PlainLine" "tokens" "[I" (.ref r_tokens_v0)) (F_count_v0 : Fld Z h v0 "com/example/tidemark/tidemark/table/PlainLine" "count" "I" o_count_v0) (E_v0 : Exa Z h v0 "com/example/tidemark/tidemark/table/PlainLine") (g_v0 : n0 ≤ v0) (V_r_tokens_v0 : own_Ia Z h r_tokens_v0 .int (16 : Int32) xs_r_tokens_v0) (g_r_tokens_v0 : n0 ≤ r_tokens_v0) (V_v1 : own_Ia Z h v1 .byte (40 : Int32) xs_v1) (ne_a : v0 ≠ r_tokens_v0) (ne_b : v0 ≠ v1) (ne_c : r_tokens_v0 ≠ v1) (hF : own_Road14 v2 v3 xs_r_tokens_v0 xs_v1) :
    MetFree l (⟨"com/example/tidemark/tidemark/table/PlainLine", "find", "([BII)Z"⟩ : MethodName) (head1 (Jvm.Cond.code (⟨"com/example/tidemark/tidemark/table/PlainLine", "find", "([BII)Z"⟩ : MethodName) prog_87_method_2_code 9 (some .boolean) :: ws) own_R14) (fun a U => a = #[(.ref v0), (.ref v1), (.int v2), (.int v3)] ∧ Z.Warmed39 U.vm ∧ U.heap = h) (fun _ _ _ _ _ => True) (fun _ U o U' => own_QR U n0 0 0 (own_P14 Z h v0 r_tokens_v0 v1 (f14_0 v2 v3 xs_r_tokens_v0 xs_v1)) o U') :=
  own_met (plainFor_of_name (by first | (simp [plainName, overriddenIn]; done) | decide +kernel)) hw hn (fun m => own_ef14 m v0 v1 v2 v3) (fun p e s m below meth c T C A => w14_0 C A v2 v3 xs_r_tokens_v0 xs_v1 F_bytes_v0 F_typeFrom_v0 F_typeTo_v0 F_tokens_v0 F_count_v0 E_v0 g_v0 V_r_tokens_v0 g_r_tokens_v0 V_v1 ne_a ne_b ne_c (Keep.refl h _) hF)
theorem own_off (v : Int32) : ¬ (v &&& (1 : Int32)) < 0 ∧ (v &&& (1 : Int32)) < 2 := by
  have h1 := c_mask v 1 1 (by decide) (by decide)
  have l0 : (0 : Int32).toInt = 0 := rfl
  have l1 : (2 : Int32).toInt = 2 := rfl
  constructor
  · rw [Int32.lt_iff_toInt_lt]; omega
  · rw [Int32.lt_iff_toInt_lt]; omega
theorem own_p7 {v b b' : Int32} (h : ¬ v < 0 ∧ v < b) (hb : b.toInt + (7 : Nat) ≤ b'.toInt ∧ b'.toInt ≤ 1000) {k : Nat} (hk : k ≤ 7) : ¬ (v + Int32.ofNat k) < 0 ∧ (v + Int32.ofNat k) < b' := own_pk k h ⟨by omega, hb.2⟩ rfl
def own_I (k : Nat) : Int32 := Int32.ofNat k
theorem own_It {k : Nat} (hk : k < 1000) : (own_I k).toInt = k := Int32.toInt_ofNat_small (by omega)
theorem own_I1 (k : Nat) : own_I k + (1 : Int32) = own_I (k + 1) := (Int32.ofNat_add k 1).symm
theorem own_I2 (k : Nat) : own_I k + (2 : Int32) = own_I (k + 2) := (Int32.ofNat_add k 2).symm
theorem own_Ilt {k j : Nat} (hk : k < 1000) (hj : j < 1000) : own_I k < own_I j ↔ k < j := by
  rw [Int32.lt_iff_toInt_lt, own_It hk, own_It hj]; omega
theorem own_In0 {k : Nat} (hk : k < 1000) : ¬ own_I k < 0 := by
  rw [Int32.lt_iff_toInt_lt, own_It hk]
  have l0 : (0 : Int32).toInt = 0 := rfl
  omega
theorem own_Inat {k : Nat} (hk : k < 1000) : (own_I k).toNatClampNeg = k := by
  have e := own_It hk
  simp only [Int32.toNatClampNeg, e]; rfl
theorem own_Isub {k j : Nat} (h : j ≤ k) : own_I k - own_I j = own_I (k - j) := by
  have e : k = (k - j) + j := by omega
  have e2 : own_I k = own_I (k - j) + own_I j := by
    have q := Int32.ofNat_add (k - j) j
    rw [← e] at q; exact q
  rw [e2, Int32.add_sub_cancel]
def own_Rd (xs : List Int32) : Nat → List Int32 → Prop
  | _, [] => True
  | k, c :: l => xs.getD k 0 = c ∧ own_Rd xs (k + 1) l
theorem own_Rd_app {xs : List Int32} : ∀ (a b : List Int32) (k : Nat), own_Rd xs k (a ++ b) ↔ own_Rd xs k a ∧ own_Rd xs (k + a.length) b
  | [], b, k => by simp [own_Rd]
  | c :: a, b, k => by
    show (_ ∧ own_Rd xs (k + 1) (a ++ b)) ↔ (_ ∧ own_Rd xs (k + 1) a) ∧ own_Rd xs (k + (a.length + 1)) b
    rw [own_Rd_app a b (k + 1), show k + 1 + a.length = k + (a.length + 1) from by omega, and_assoc]
theorem own_Rd_set {xs : List Int32} {j : Nat} {c : Int32} : ∀ (bs : List Int32) (k : Nat), k + bs.length ≤ j → own_Rd xs k bs → own_Rd (xs.set j c) k bs
  | [], _, _, _ => trivial
  | d :: bs, k, hj, h => by
    simp only [List.length_cons] at hj
    refine ⟨?_, own_Rd_set bs (k + 1) (by omega) h.2⟩
    have e := h.1
    rw [List.getD_eq_getElem?_getD] at e ⊢
    rw [List.getElem?_set_ne (by omega)]
    exact e
def own_In (N o : Nat) (p : Int32) (xs bs : List Int32) : Prop := o ≤ 1 ∧ p = own_I (o + bs.length) ∧ xs.length = 40 ∧ bs.length ≤ N ∧ own_Rd xs o bs
theorem own_putI {N o : Nat} {p : Int32} {xs bs : List Int32} {c' c : Int32} (h : own_In N o p xs bs) (hN : N < 38) (hc : c' = c) : own_In (N + 1) o (p + (1 : Int32)) (xs.set p.toNatClampNeg c') (bs ++ [c]) := by
  subst hc
  obtain ⟨h1, rfl, h3, h4, h5⟩ := h
  have hk : o + bs.length < 1000 := by omega
  refine ⟨h1, ?_, by simpa using h3, by simp; omega, ?_⟩
  · rw [own_I1]; simp [Nat.add_assoc]
  · rw [own_Inat hk]
    rw [own_Rd_app]
    refine ⟨own_Rd_set bs o (Nat.le_refl _) h5, ?_, trivial⟩
    rw [List.getD_eq_getElem?_getD, List.getElem?_set_self (by omega)]
    rfl
def own_cs (n : Int32) : List Int32 := (if (0 : Int32) < (n &&& (3 : Int32)) then [(f2_0 ((n.toUInt32 >>> ((8 : Int32) &&& 31).toUInt32).toInt32)).toInt8.toInt32] else []) ++ (if (1 : Int32) < (n &&& (3 : Int32)) then [(f2_0 ((n.toUInt32 >>> ((14 : Int32) &&& 31).toUInt32).toInt32)).toInt8.toInt32] else []) ++ (if (2 : Int32) < (n &&& (3 : Int32)) then [(f2_0 ((n.toUInt32 >>> ((20 : Int32) &&& 31).toUInt32).toInt32)).toInt8.toInt32] else [])
def own_wd (n : Int32) : List Int32 := if (((n.toUInt32 >>> ((2 : Int32) &&& 31).toUInt32).toInt32) &&& (1 : Int32)) = (0 : Int32) then [] else [-61, -87]
def own_nm (n : Int32) : List Int32 := 34 :: ((own_cs n ++ own_wd n) ++ [34])
theorem own_mono {N M o : Nat} {p : Int32} {xs bs : List Int32} (h : own_In N o p xs bs) (hN : N ≤ M) : own_In M o p xs bs := by
  obtain ⟨h1, h2, h3, h4, h5⟩ := h
  exact ⟨h1, h2, h3, by omega, h5⟩
theorem own_n101 {N o : Nat} {p : Int32} {xs bs : List Int32} (h : own_In N o p xs bs) (hN : N < 38) : own_In (N + 1) o (f3_101 p xs).1 (f3_101 p xs).2 (bs ++ [34]) := own_putI h hN rfl
theorem own_n80 {N o : Nat} {p : Int32} {xs bs : List Int32} (h : own_In N o p xs bs) (hN : N < 36) (z : Int32) : own_In (N + 3) o (f3_80 p z xs).1 (f3_80 p z xs).2 (bs ++ (if z = 0 then [] else [-61, -87]) ++ [34]) := by
  unfold f3_80
  by_cases q : z = 0
  · rw [if_pos q, if_pos q, List.append_nil]
    exact own_mono (own_n101 h (by omega)) (by omega)
  · rw [if_neg q, if_neg q]
    have := own_n101 (own_putI (own_putI h (by omega) (by decide : ((-61 : Int32).toInt8.toInt32) = -61)) (by omega) (by decide : ((-87 : Int32).toInt8.toInt32) = -87)) (by omega)
    simpa [List.append_assoc] using this
theorem own_n62 {N o : Nat} {p : Int32} {xs bs : List Int32} (h : own_In N o p xs bs) (hN : N < 35) (n k z : Int32) : own_In (N + 4) o (f3_62 p n k z xs).1 (f3_62 p n k z xs).2 (bs ++ (if (2 : Int32) < k then [(f2_0 ((n.toUInt32 >>> ((20 : Int32) &&& 31).toUInt32).toInt32)).toInt8.toInt32] else []) ++ (if z = 0 then [] else [-61, -87]) ++ [34]) := by
  unfold f3_62
  by_cases q : (2 : Int32) < k
  · rw [if_pos q, if_pos q]
    exact own_n80 (own_putI h (by omega) rfl) (by omega) z
  · rw [if_neg q, if_neg q, List.append_nil]
    exact own_mono (own_n80 h (by omega) z) (by omega)
theorem own_n44 {N o : Nat} {p : Int32} {xs bs : List Int32} (h : own_In N o p xs bs) (hN : N < 34) (n k z : Int32) : own_In (N + 5) o (f3_44 p n k z xs).1 (f3_44 p n k z xs).2 (bs ++ (if (1 : Int32) < k then [(f2_0 ((n.toUInt32 >>> ((14 : Int32) &&& 31).toUInt32).toInt32)).toInt8.toInt32] else []) ++ (if (2 : Int32) < k then [(f2_0 ((n.toUInt32 >>> ((20 : Int32) &&& 31).toUInt32).toInt32)).toInt8.toInt32] else []) ++ (if z = 0 then [] else [-61, -87]) ++ [34]) := by
  unfold f3_44
  by_cases q : (1 : Int32) < k
  · rw [if_pos q, if_pos q]
    exact own_n62 (own_putI h (by omega) rfl) (by omega) n k z
  · rw [if_neg q, if_neg q, List.append_nil]
    exact own_mono (own_n62 h (by omega) n k z) (by omega)
theorem own_n17 {N o : Nat} {p : Int32} {xs bs : List Int32} (h : own_In N o p xs bs) (hN : N < 32) (n k z : Int32) : own_In (N + 7) o (f3_17 p n k z xs).1 (f3_17 p n k z xs).2 (bs ++ [34] ++ (if (0 : Int32) < k then [(f2_0 ((n.toUInt32 >>> ((8 : Int32) &&& 31).toUInt32).toInt32)).toInt8.toInt32] else []) ++ (if (1 : Int32) < k then [(f2_0 ((n.toUInt32 >>> ((14 : Int32) &&& 31).toUInt32).toInt32)).toInt8.toInt32] else []) ++ (if (2 : Int32) < k then [(f2_0 ((n.toUInt32 >>> ((20 : Int32) &&& 31).toUInt32).toInt32)).toInt8.toInt32] else []) ++ (if z = 0 then [] else [-61, -87]) ++ [34]) := by
  unfold f3_17
  by_cases q : (0 : Int32) < k
  · rw [if_pos q, if_pos q]
    exact own_n44 (own_putI (own_putI (c := 34) h (by omega) (by decide)) (by omega) rfl) (by omega) n k z
  · rw [if_neg q, if_neg q, List.append_nil]
    exact own_mono (own_n44 (own_putI (c := 34) h (by omega) (by decide)) (by omega) n k z) (by omega)
theorem own_nameI {N o : Nat} {p : Int32} {xs bs : List Int32} (h : own_In N o p xs bs) (hN : N < 32) (n : Int32) : own_In (N + 7) o (f3_0 p n xs).1 (f3_0 p n xs).2 (bs ++ own_nm n) := by
  unfold f3_0
  by_cases q : (((n.toUInt32 >>> ((2 : Int32) &&& 31).toUInt32).toInt32) &&& (1 : Int32)) = (0 : Int32)
  · rw [if_pos q]
    have := own_n17 h hN n (n &&& 3) 0
    rw [if_pos rfl] at this
    unfold own_nm own_cs own_wd
    rw [if_pos q]
    simpa [List.append_assoc] using this
  · rw [if_neg q]
    have := own_n17 h hN n (n &&& 3) 1
    rw [if_neg (show ¬ (1 : Int32) = 0 by decide)] at this
    unfold own_nm own_cs own_wd
    rw [if_neg q]
    simpa [List.append_assoc] using this
theorem own_n101B {p b : Int32} {xs : List Int32} (h : ¬ p < 0 ∧ p < b) (hb : b.toInt ≤ 100) : ¬ (f3_101 p xs).1 < 0 ∧ (f3_101 p xs).1.toInt ≤ p.toInt + 1 := by
  have l0 : (0 : Int32).toInt = 0 := rfl
  have l1 : (1 : Int32).toInt = 1 := rfl
  show ¬ (p + 1) < 0 ∧ (p + 1).toInt ≤ p.toInt + 1
  simp only [Int32.lt_iff_toInt_lt] at *
  have c1 := c_iadd p 1
  have r1 := rng32 (p + 1)
  rw [l1] at c1
  omega
def own_E (N : Nat) (v5 p : Int32) (xs bs : List Int32) : Prop := ∃ o, v5 = own_I o ∧ own_In N o p xs bs
theorem own_put {N : Nat} {v5 p : Int32} {xs bs : List Int32} (c : Int32) {c' : Int32} (h : own_E N v5 p xs bs) (hN : N < 38) (hc : c' = c) : own_E (N + 1) v5 (p + (1 : Int32)) (xs.set p.toNatClampNeg c') (bs ++ [c]) := by
  obtain ⟨o, e, h⟩ := h
  exact ⟨o, e, own_putI h hN hc⟩
theorem own_name {N : Nat} {v5 p : Int32} {xs bs : List Int32} (n : Int32) (h : own_E N v5 p xs bs) (hN : N < 32) : own_E (N + 7) v5 (f3_0 p n xs).1 (f3_0 p n xs).2 (bs ++ own_nm n) := by
  obtain ⟨o, e, h⟩ := h
  exact ⟨o, e, own_nameI h hN n⟩
theorem own_bnd {N : Nat} {v5 p b : Int32} {xs bs : List Int32} (h : own_E N v5 p xs bs) (hb : (N : Int) + 1 < b.toInt ∧ N < 100) : ¬ p < 0 ∧ p < b := by
  obtain ⟨o, -, h1, rfl, -, h4, -⟩ := h
  refine ⟨own_In0 (by omega), ?_⟩
  rw [Int32.lt_iff_toInt_lt, own_It (by omega)]
  omega
theorem own_st (v : Int32) : own_E 0 (v &&& (1 : Int32)) (v &&& (1 : Int32)) [0, 0, 0, 0, 0, 0, 0, 0, 0, 0, 0, 0, 0, 0, 0, 0, 0, 0, 0, 0, 0, 0, 0, 0, 0, 0, 0, 0, 0, 0, 0, 0, 0, 0, 0, 0, 0, 0, 0, 0] [] := by
  have h1 := c_mask v 1 1 (by decide) (by decide)
  have h : (v &&& 1) = 0 ∨ (v &&& 1) = 1 := by
    have l0 : (0 : Int32).toInt = 0 := rfl
    have l1 : (1 : Int32).toInt = 1 := rfl
    simp only [← Int32.toInt_inj, l0, l1]
    omega
  rcases h with h | h <;> rw [h]
  · exact ⟨0, rfl, by decide, rfl, rfl, by decide, trivial⟩
  · exact ⟨1, rfl, by decide, rfl, rfl, by decide, trivial⟩
def own_hd : List Int32 := [] ++ [123] ++ [34] ++ [116] ++ [34] ++ [58] ++ [123]
def own_B1 (v0 v5 v6 : Int32) (xs : List Int32) : Prop := ∃ sg, (sg = [] ∨ sg = [45]) ∧ own_E 15 v5 v6 xs (own_hd ++ own_nm v0 ++ [58] ++ sg)
def own_B2 (v0 v1 v5 v6 : Int32) (xs : List Int32) : Prop := ∃ (sg : List Int32) (d : Int32) (xx : List Int32), (sg = [] ∨ sg = [45]) ∧ (48 ≤ d.toInt ∧ d.toInt ≤ 55) ∧ (xx = [] ∨ xx = [120]) ∧ own_E 27 v5 v6 xs (own_hd ++ own_nm v0 ++ [58] ++ sg ++ [d] ++ [44] ++ own_nm v1 ++ [58] ++ [34] ++ xx)
theorem own_B1b {v0 v5 v6 : Int32} {xs : List Int32} (h : own_B1 v0 v5 v6 xs) : ¬ v6 < 0 ∧ v6 < 18 := by
  obtain ⟨_, _, h⟩ := h
  exact own_bnd h (by decide)
theorem own_B2b {v0 v1 v5 v6 : Int32} {xs : List Int32} (h : own_B2 v0 v1 v5 v6 xs) : ¬ v6 < 0 ∧ v6 < 30 := by
  obtain ⟨_, _, _, _, _, _, h⟩ := h
  exact own_bnd h (by decide)
theorem own_mkB1 {v0 v5 v6 : Int32} {xs : List Int32} (h : own_E 14 v5 v6 xs (own_hd ++ own_nm v0 ++ [58])) : own_B1 v0 v5 v6 xs ∧ own_B1 v0 v5 (v6 + (1 : Int32)) (xs.set v6.toNatClampNeg ((45 : Int32).toInt8.toInt32)) := by
  refine ⟨⟨[], Or.inl rfl, ?_⟩, ⟨[45], Or.inr rfl, own_put 45 h (by decide) (by decide)⟩⟩
  obtain ⟨o, e, h⟩ := h
  rw [List.append_nil]
  exact ⟨o, e, own_mono h (by decide)⟩
theorem own_dig (v : Int32) : ((((48 : Int32) + (v &&& (7 : Int32))).toInt8.toInt32).toInt8.toInt32) = (48 : Int32) + (v &&& (7 : Int32)) ∧ (48 ≤ ((48 : Int32) + (v &&& (7 : Int32))).toInt ∧ ((48 : Int32) + (v &&& (7 : Int32))).toInt ≤ 55) := by
  have h1 := c_mask v 7 3 (by decide) (by decide)
  have h : (v &&& 7) = 0 ∨ (v &&& 7) = 1 ∨ (v &&& 7) = 2 ∨ (v &&& 7) = 3 ∨ (v &&& 7) = 4 ∨ (v &&& 7) = 5 ∨ (v &&& 7) = 6 ∨ (v &&& 7) = 7 := by
    have l0 : (0 : Int32).toInt = 0 := rfl
    have l1 : (1 : Int32).toInt = 1 := rfl
    have l2 : (2 : Int32).toInt = 2 := rfl
    have l3 : (3 : Int32).toInt = 3 := rfl
    have l4 : (4 : Int32).toInt = 4 := rfl
    have l5 : (5 : Int32).toInt = 5 := rfl
    have l6 : (6 : Int32).toInt = 6 := rfl
    have l7 : (7 : Int32).toInt = 7 := rfl
    simp only [← Int32.toInt_inj, l0, l1, l2, l3, l4, l5, l6, l7]
    omega
  rcases h with h | h | h | h | h | h | h | h <;> rw [h] <;> decide +kernel
theorem own_mkB2 {v0 v5 v6 : Int32} {xs : List Int32} (v1 v2 : Int32) (hB : own_B1 v0 v5 v6 xs) {q : Int32 × List Int32} (hq : f3_0 ((v6 + (1 : Int32)) + (1 : Int32)) v1 ((xs.set (v6).toNatClampNeg ((((48 : Int32) + (v2 &&& (7 : Int32))).toInt8.toInt32).toInt8.toInt32)).set ((v6 + (1 : Int32))).toNatClampNeg ((44 : Int32).toInt8.toInt32)) = q) :
    own_B2 v0 v1 v5 ((q.1 + (1 : Int32)) + (1 : Int32)) ((q.2.set (q.1).toNatClampNeg ((58 : Int32).toInt8.toInt32)).set ((q.1 + (1 : Int32))).toNatClampNeg ((34 : Int32).toInt8.toInt32)) ∧
    own_B2 v0 v1 v5 (((q.1 + (1 : Int32)) + (1 : Int32)) + (1 : Int32)) (((q.2.set (q.1).toNatClampNeg ((58 : Int32).toInt8.toInt32)).set ((q.1 + (1 : Int32))).toNatClampNeg ((34 : Int32).toInt8.toInt32)).set (((q.1 + (1 : Int32)) + (1 : Int32))).toNatClampNeg ((120 : Int32).toInt8.toInt32)) := by
  subst hq
  obtain ⟨sg, hs, h⟩ := hB
  have e := own_put 34 (own_put 58 (own_name v1 (own_put 44 (own_put _ h (by decide) (own_dig v2).1) (by decide) (by decide : ((44 : Int32).toInt8.toInt32) = 44)) (by decide)) (by decide) (by decide : ((58 : Int32).toInt8.toInt32) = 58)) (by decide) (by decide : ((34 : Int32).toInt8.toInt32) = 34)
  refine ⟨⟨sg, _, [], hs, (own_dig v2).2, Or.inl rfl, ?_⟩, ⟨sg, _, [120], hs, (own_dig v2).2, Or.inr rfl, own_put 120 e (by decide) (by decide)⟩⟩
  obtain ⟨o, e1, h1⟩ := e
  rw [List.append_nil]
  exact ⟨o, e1, own_mono h1 (by decide)⟩
theorem own_nmB {p b b' n : Int32} {xs : List Int32} (h : ¬ p < 0 ∧ p < b) (hb : b.toInt + 7 ≤ b'.toInt ∧ b'.toInt ≤ 1000) : ¬ (f3_0 p n xs).1 < 0 ∧ (f3_0 p n xs).1 < b' := by
  have key : ∃ k : Nat, k ≤ 7 ∧ (f3_0 p n xs).1 = p + Int32.ofNat k := by
    unfold f3_0 f3_17 f3_44 f3_62 f3_80 f3_101
    repeat' split
    all_goals first
      | exact ⟨2, by decide, by simp only [Int32.add_assoc]; rfl⟩
      | exact ⟨3, by decide, by simp only [Int32.add_assoc]; rfl⟩
      | exact ⟨4, by decide, by simp only [Int32.add_assoc]; rfl⟩
      | exact ⟨5, by decide, by simp only [Int32.add_assoc]; rfl⟩
      | exact ⟨6, by decide, by simp only [Int32.add_assoc]; rfl⟩
      | exact ⟨7, by decide, by simp only [Int32.add_assoc]; rfl⟩
  obtain ⟨k, hk, e⟩ := key
  exact own_pk k h ⟨by omega, hb.2⟩ e
def own_good (c : Int32) : Prop := 32 ≤ c.toInt ∧ c.toInt ≤ 122 ∧ c ≠ 34 ∧ c ≠ 92
def own_f2 (y : Int32) : Int32 := (if y < (26 : Int32) then (nar .byte (((97 : Int32) + y).toInt8.toInt32)) else (if y < (52 : Int32) then (nar .byte ((((65 : Int32) + y) - (26 : Int32)).toInt8.toInt32)) else (if y < (62 : Int32) then (nar .byte ((((48 : Int32) + y) - (52 : Int32)).toInt8.toInt32)) else (if y = (62 : Int32) then (nar .byte (32 : Int32)) else (nar .byte (33 : Int32))))))
def own_chk (y : Int32) : Bool := decide (32 ≤ ((own_f2 y).toInt8.toInt32).toInt ∧ ((own_f2 y).toInt8.toInt32).toInt ≤ 122 ∧ (own_f2 y).toInt8.toInt32 ≠ 34 ∧ (own_f2 y).toInt8.toInt32 ≠ 92)
theorem own_all : (List.range 64).all (fun k => own_chk (Int32.ofNat k)) = true := by decide +kernel
theorem own_ch (x : Int32) : own_good ((f2_0 x).toInt8.toInt32) := by
  have h1 := c_mask x 63 6 (by decide) (by decide)
  obtain ⟨k, hk, e⟩ : ∃ k : Nat, k < 64 ∧ (x &&& 63) = Int32.ofNat k := by
    refine ⟨(x &&& 63).toInt.toNat, by omega, ?_⟩
    apply Int32.toInt_inj.mp
    rw [Int32.toInt_ofNat_small (by omega)]
    omega
  have h := List.all_eq_true.mp own_all k (List.mem_range.mpr hk)
  have h' : own_chk (x &&& 63) = true := by rw [e]; exact h
  exact of_decide_eq_true (p := 32 ≤ ((own_f2 (x &&& 63)).toInt8.toInt32).toInt ∧ ((own_f2 (x &&& 63)).toInt8.toInt32).toInt ≤ 122 ∧ (own_f2 (x &&& 63)).toInt8.toInt32 ≠ 34 ∧ (own_f2 (x &&& 63)).toInt8.toInt32 ≠ 92) h'
theorem own_csg (n : Int32) : ∀ c ∈ own_cs n, own_good c := by
  intro c hc
  unfold own_cs at hc
  simp only [List.mem_append] at hc
  rcases hc with (hc | hc) | hc
  all_goals
    split at hc
    · rw [List.mem_singleton] at hc; subst hc; exact own_ch _
    · exact absurd hc (List.not_mem_nil)
theorem own_four (n : Int32) : (n &&& (3 : Int32)) = 0 ∨ (n &&& (3 : Int32)) = 1 ∨ (n &&& (3 : Int32)) = 2 ∨ (n &&& (3 : Int32)) = 3 := by
  have h1 := c_mask n 3 2 (by decide) (by decide)
  have l0 : (0 : Int32).toInt = 0 := rfl
  have l1 : (1 : Int32).toInt = 1 := rfl
  have l2 : (2 : Int32).toInt = 2 := rfl
  have l3 : (3 : Int32).toInt = 3 := rfl
  simp only [← Int32.toInt_inj, l0, l1, l2, l3]
  omega
theorem own_csl (n : Int32) : (own_cs n).length ≤ 3 ∧ own_I (own_cs n).length = (n &&& (3 : Int32)) := by
  unfold own_cs
  rcases own_four n with h | h | h | h <;> rw [h] <;> exact ⟨Nat.le_of_ble_eq_true rfl, rfl⟩
theorem own_wl (n : Int32) : own_wd n = [] ∨ own_wd n = [-61, -87] := by
  unfold own_wd
  split
  · exact Or.inl rfl
  · exact Or.inr rfl
theorem own_len (n : Int32) : f1_0 n = own_I ((own_cs n ++ own_wd n).length) := by
  have h := (own_csl n).2
  unfold f1_0 own_wd
  split
  · rw [List.append_nil, h, Int32.add_zero]
  · rw [List.length_append, show ([-61, -87] : List Int32).length = 2 from rfl, ← own_I2, h]
/-! reading -/
theorem own_f5y {xs : List Int32} {k e : Nat} {c : Int32} (he : e ≤ 40) (hk : k < e) (h : xs.getD k 0 = c) : f5_0 (own_I k) (own_I e) c xs = 1 := by
  unfold f5_0
  rw [if_pos ((own_Ilt (by omega) (by omega)).mpr hk), own_Inat (by omega), if_pos h]
theorem own_f5n {xs : List Int32} {k e : Nat} {c d : Int32} (he : e ≤ 40) (hk : k < e) (h : xs.getD k 0 = d) (hd : d ≠ c) : f5_0 (own_I k) (own_I e) c xs = 0 := by
  unfold f5_0
  rw [if_pos ((own_Ilt (by omega) (by omega)).mpr hk), own_Inat (by omega), if_neg (by rw [h]; exact hd)]
/-! the text's end -/
theorem own_t1 {xs : List Int32} {p e : Nat} {A c v6 : Int32} (fuel : Nat) (he : e ≤ 40) (hp : p < e) (h : xs.getD p 0 = c) (hc : own_good c) (h6 : v6 = 1) : f10_30 (fuel + 1) (own_I e) A (own_I p) v6 xs = f10_30 fuel (own_I e) A (own_I (p + 1)) v6 xs := by
  subst h6
  obtain ⟨g1, g2, g3, g4⟩ := hc
  have l0 : (0 : Int32).toInt = 0 := rfl
  have l34 : (34 : Int32).toInt = 34 := rfl
  have l32 : (32 : Int32).toInt = 32 := rfl
  have q0 : ¬ c < 0 := by rw [Int32.lt_iff_toInt_lt]; omega
  have q32 : ¬ c < 32 := by rw [Int32.lt_iff_toInt_lt]; omega
  rw [f10_30_succ, if_pos ((own_Ilt (by omega) (by omega)).mpr hp), own_Inat (by omega), h, own_I1]
  by_cases q : (34 : Int32) < c
  · rw [if_pos q, if_neg g4]
  · rw [if_neg q, if_neg g3, if_neg q0, if_neg q32, if_neg g4, if_neg q0]
    rfl
theorem own_tl {xs : List Int32} {e : Nat} {A : Int32} (he : e ≤ 40) : ∀ (cs : List Int32) (p fuel : Nat), (∀ c ∈ cs, own_good c) → own_Rd xs p cs → p + cs.length ≤ e → f10_30 (fuel + cs.length) (own_I e) A (own_I p) 1 xs = f10_30 fuel (own_I e) A (own_I (p + cs.length)) 1 xs
  | [], p, fuel, _, _, _ => rfl
  | c :: cs, p, fuel, hg, hr, hl => by
    simp only [List.length_cons] at hl ⊢
    rw [show fuel + (cs.length + 1) = (fuel + cs.length) + 1 from rfl, own_t1 (fuel + cs.length) he (by omega) hr.1 (hg c List.mem_cons_self) rfl, own_tl he cs (p + 1) fuel (fun d hd => hg d (List.mem_cons_of_mem _ hd)) hr.2 (by omega), show p + 1 + cs.length = p + (cs.length + 1) from by omega]
theorem own_tn {xs : List Int32} {p e : Nat} {A c v6 : Int32} (fuel : Nat) (he : e ≤ 40) (hp : p < e) (h : xs.getD p 0 = c) (hc : c = -61 ∨ c = -87) : f10_30 (fuel + 1) (own_I e) A (own_I p) v6 xs = f10_30 fuel (own_I e) A (own_I (p + 1)) 0 xs := by
  have hz : v6 &&& (0 : Int32) = 0 := Int32.and_zero
  rw [f10_30_succ, if_pos ((own_Ilt (by omega) (by omega)).mpr hp), own_Inat (by omega), h, own_I1]
  rcases hc with rfl | rfl
  · rw [if_neg (show ¬ (34 : Int32) < -61 by decide), if_neg (show ¬ (-61 : Int32) = 34 by decide), if_pos (show (-61 : Int32) < 0 by decide), if_neg (show ¬ (-61 : Int32) = 92 by decide), if_pos (show (-61 : Int32) < 0 by decide), hz]
  · rw [if_neg (show ¬ (34 : Int32) < -87 by decide), if_neg (show ¬ (-87 : Int32) = 34 by decide), if_pos (show (-87 : Int32) < 0 by decide), if_neg (show ¬ (-87 : Int32) = 92 by decide), if_pos (show (-87 : Int32) < 0 by decide), hz]
theorem own_tq {xs : List Int32} {p e : Nat} {A v6 : Int32} (fuel : Nat) (he : e ≤ 40) (hp : p < e) (h : xs.getD p 0 = 34) (h6 : v6 = 0 → f9_0 A (own_I p) xs = 1) : f10_30 (fuel + 1) (own_I e) A (own_I p) v6 xs = own_I (p + 1) := by
  have hl := (own_Ilt (show p < 1000 by omega) (show e < 1000 by omega)).mpr hp
  rw [f10_30_succ, if_pos hl, own_Inat (by omega), h, if_neg (show ¬ (34 : Int32) < 34 by decide), if_pos rfl]
  unfold f10_111
  rw [if_pos hl]
  by_cases q : v6 = 0
  · rw [if_pos q, h6 q, if_neg (show ¬ (1 : Int32) = 0 by decide)]
    unfold f10_133 f10_138
    rw [if_neg (show ¬ (1 : Int32) = 0 by decide), own_I1]
  · rw [if_neg q]
    unfold f10_133 f10_138
    rw [if_neg (show ¬ (1 : Int32) = 0 by decide), own_I1]
theorem own_wf {xs : List Int32} {e : Nat} (he : e ≤ 40) : ∀ (cs : List Int32) (p fuel : Nat), (∀ c ∈ cs, own_good c) → own_Rd xs p cs → p + cs.length ≤ e → f9_5 (fuel + cs.length) (own_I e) 0 (own_I p) xs = f9_5 fuel (own_I e) 0 (own_I (p + cs.length)) xs
  | [], p, fuel, _, _, _ => rfl
  | c :: cs, p, fuel, hg, hr, hl => by
    simp only [List.length_cons] at hl ⊢
    have g := hg c List.mem_cons_self
    have h1 := c_mask c 255 8 (by decide) (by decide)
    have g1 := g.1
    have g2 := g.2.1
    have l128 : (128 : Int32).toInt = 128 := rfl
    have q : (c &&& 255) < (128 : Int32) := by rw [Int32.lt_iff_toInt_lt]; omega
    have e8 : f8_0 0 (c &&& 255) = 0 := by
      unfold f8_0
      rw [if_pos rfl]
      unfold f7_0
      rw [if_pos q]
    rw [show fuel + (cs.length + 1) = (fuel + cs.length) + 1 from rfl, f9_5_succ, if_pos ((own_Ilt (by omega) (by omega)).mpr (by omega)), if_neg (show ¬ (0 : Int32) = -1 by decide), own_Inat (by omega), hr.1, e8, own_I1,
      own_wf he cs (p + 1) fuel (fun d hd => hg d (List.mem_cons_of_mem _ hd)) hr.2 (by omega), show p + 1 + cs.length = p + (cs.length + 1) from by omega]
theorem own_wf2 {xs : List Int32} {p : Nat} (fuel : Nat) (hp : p + 2 ≤ 40) (h1 : xs.getD p 0 = -61) (h2 : xs.getD (p + 1) 0 = -87) : f9_5 (fuel + 3) (own_I (p + 2)) 0 (own_I p) xs = 1 := by
  rw [f9_5_succ, if_pos ((own_Ilt (by omega) (by omega)).mpr (by omega)), if_neg (show ¬ (0 : Int32) = -1 by decide), own_Inat (by omega), h1, own_I1, show f8_0 0 ((-61 : Int32) &&& 255) = 98495 from by decide +kernel]
  rw [f9_5_succ, if_pos ((own_Ilt (by omega) (by omega)).mpr (by omega)), if_neg (show ¬ (98495 : Int32) = -1 by decide), own_Inat (by omega), h2, own_I1, show f8_0 98495 ((-87 : Int32) &&& 255) = 0 from by decide +kernel]
  rw [f9_5_succ, if_neg (by rw [own_Ilt (by omega) (by omega)]; omega)]
  rfl
theorem own_te {xs : List Int32} {k e : Nat} (cs w : List Int32) (hg : ∀ c ∈ cs, own_good c) (hl : cs.length ≤ 3) (hw : w = [] ∨ w = [-61, -87]) (h : own_Rd xs k (34 :: ((cs ++ w) ++ [34]))) (he : e ≤ 40) (hk : k + (cs ++ w).length + 2 ≤ e) :
    f10_0 (own_I k) (own_I e) xs = own_I (k + (cs ++ w).length + 2) := by
  obtain ⟨h0, h⟩ := h
  rw [own_Rd_app, own_Rd_app] at h
  obtain ⟨⟨hc, hr⟩, hq⟩ := h
  have hq := hq.1
  rw [List.length_append] at hk hq ⊢
  unfold f10_0
  rw [own_f5y he (by omega) h0, if_neg (show ¬ (1 : Int32) = 0 by decide), own_I1]
  obtain ⟨f, hf⟩ : ∃ f, 42 = f + 3 + cs.length := ⟨39 - cs.length, by omega⟩
  rw [hf, own_tl he cs (k + 1) (f + 3) hg hc (by omega)]
  rcases hw with rfl | rfl
  · simp only [List.length_nil, Nat.add_zero] at hq hk ⊢
    rw [own_tq (v6 := 1) (f + 2) he (by omega) hq (fun q => absurd q (by decide))]
    congr 1; omega
  · simp only [List.length_cons, List.length_nil, Nat.zero_add] at hk hq ⊢
    obtain ⟨r1, r2, -⟩ := hr
    rw [own_tn (f + 2) he (by omega) r1 (Or.inl rfl), own_tn (f + 1) he (by omega) r2 (Or.inr rfl)]
    rw [own_tq f he (by omega) (by rw [show k + 1 + cs.length + 1 + 1 = k + 1 + (cs.length + (1 + 1)) from by omega]; exact hq) (fun _ => ?_)]
    · congr 1; omega
    · unfold f9_0
      rw [hf, own_wf (by omega) cs (k + 1) (f + 3) hg hc (by omega)]
      exact own_wf2 f (by omega) r1 r2
/-! the number's end -/
theorem own_ne2 {xs : List Int32} {s e : Nat} {d : Int32} (hd : 48 ≤ d.toInt ∧ d.toInt ≤ 55) (he : e ≤ 40) (hs : s + 2 ≤ e) (h1 : xs.getD s 0 = d) (h2 : xs.getD (s + 1) 0 = 44) : f11_18 (own_I e) (own_I s) xs = own_I (s + 1) := by
  have l48 : (48 : Int32).toInt = 48 := rfl
  have l57 : (57 : Int32).toInt = 57 := rfl
  unfold f11_18
  rw [show (42 : Nat) = 41 + 1 from rfl, f11_22_succ, if_pos ((own_Ilt (by omega) (by omega)).mpr (by omega)), own_Inat (by omega), h1, if_neg (by rw [Int32.lt_iff_toInt_lt]; omega), if_neg (by rw [Int32.lt_iff_toInt_lt]; omega), own_I1]
  rw [show (41 : Nat) = 40 + 1 from rfl, f11_22_succ, if_pos ((own_Ilt (by omega) (by omega)).mpr (by omega)), own_Inat (by omega), h2, if_pos (show (44 : Int32) < 48 by decide)]
  unfold f11_58
  rw [own_Isub (by omega), show s + 1 - s = 1 from by omega, if_neg (show ¬ (1 : Int32) < own_I 1 by decide)]
  unfold f11_81 f11_82
  rw [if_pos ((own_Ilt (by omega) (by omega)).mpr (by omega)), if_pos rfl]
theorem own_nu {xs : List Int32} {k e : Nat} {sg : List Int32} {d : Int32} (hs : sg = [] ∨ sg = [45]) (hd : 48 ≤ d.toInt ∧ d.toInt ≤ 55) (he : e ≤ 40) (hk : k + sg.length + 2 ≤ e) (h : own_Rd xs k (sg ++ [d] ++ [44])) : f11_0 (own_I k) (own_I e) xs = own_I (k + sg.length + 1) := by
  unfold f11_0
  have l45 : (45 : Int32).toInt = 45 := rfl
  rcases hs with rfl | rfl
  · obtain ⟨r1, r2, -⟩ := h
    rw [own_f5n he (by simp only [List.length_nil] at hk; omega) r1 (fun q => by rw [q, l45] at hd; omega), if_pos rfl]
    exact own_ne2 hd he (by simp only [List.length_nil] at hk; omega) r1 r2
  · obtain ⟨r0, r1, r2, -⟩ := h
    simp only [List.length_cons, List.length_nil, Nat.zero_add] at hk ⊢
    rw [own_f5y he (by omega) r0, if_neg (show ¬ (1 : Int32) = 0 by decide), own_I1]
    exact own_ne2 hd he (by omega) r1 r2
theorem own_nml (n : Int32) : (own_nm n).length = (own_cs n ++ own_wd n).length + 2 := by
  unfold own_nm
  rw [List.length_cons, List.length_append]
  rfl
theorem own_abl (n : Int32) : (own_cs n ++ own_wd n).length ≤ 5 := by
  have h := (own_csl n).1
  rw [List.length_append]
  rcases own_wl n with q | q <;> rw [q]
  · simp only [List.length_nil]; omega
  · simp only [List.length_cons, List.length_nil]; omega
theorem own_mv {xs : List Int32} {k k' : Nat} {l : List Int32} (h : own_Rd xs k l) (e : k = k') : own_Rd xs k' l := e ▸ h
def own_Pk (v0 v1 v5 v6 : Int32) (ys : List Int32) (A B : Nat) : Prop := ∃ o g x e : Nat, o ≤ 1 ∧ g ≤ 1 ∧ x ≤ 1 ∧ v5 = own_I o ∧ ((v6 + (1 : Int32)) + (1 : Int32)) + (1 : Int32) = own_I e ∧ e = o + 18 + A + g + B + x ∧ ys.getD o 0 = 123 ∧
  f10_0 (own_I (o + 1)) (own_I e) ys = own_I (o + 4) ∧ ys.getD (o + 4) 0 = 58 ∧ ys.getD (o + 4 + 1) 0 = 123 ∧ ys.getD (o + 4 + 2) 0 = 34 ∧
  f10_0 (own_I (o + 4 + 2)) (own_I e) ys = own_I (o + 8 + A) ∧ ys.getD (o + 8 + A) 0 = 58 ∧ (∃ c, ys.getD (o + 8 + A + 1) 0 = c ∧ c ≠ 34) ∧
  f11_0 (own_I (o + 8 + A + 1)) (own_I e) ys = own_I (o + 10 + A + g) ∧ ys.getD (o + 10 + A + g) 0 = 44 ∧
  f10_0 (own_I (o + 10 + A + g + 1)) (own_I e) ys = own_I (o + 13 + A + g + B) ∧ ys.getD (o + 13 + A + g + B) 0 = 58 ∧ ys.getD (o + 13 + A + g + B + 1) 0 = 34 ∧
  f10_0 (own_I (o + 13 + A + g + B + 1)) (own_I e) ys = own_I (o + 16 + A + g + B + x) ∧ ys.getD (o + 16 + A + g + B + x) 0 = 125 ∧ ys.getD (o + 16 + A + g + B + x + 1) 0 = 125
theorem own_pack {v0 v1 v5 v6 : Int32} {xs : List Int32} (hB : own_B2 v0 v1 v5 v6 xs) : own_Pk v0 v1 v5 v6 (((xs.set (v6).toNatClampNeg ((34 : Int32).toInt8.toInt32)).set ((v6 + (1 : Int32))).toNatClampNeg ((125 : Int32).toInt8.toInt32)).set (((v6 + (1 : Int32)) + (1 : Int32))).toNatClampNeg ((125 : Int32).toInt8.toInt32)) (own_cs v0 ++ own_wd v0).length (own_cs v1 ++ own_wd v1).length := by
  obtain ⟨sg, d, xx, hs, hd, hx, h⟩ := hB
  have h := own_put 125 (own_put 125 (own_put 34 h (by decide) (by decide : ((34 : Int32).toInt8.toInt32) = 34)) (by decide) (by decide : ((125 : Int32).toInt8.toInt32) = 125)) (by decide) (by decide : ((125 : Int32).toInt8.toInt32) = 125)
  obtain ⟨o, hv5, ho, hP, -, hN, h⟩ := h
  revert hP h hN
  generalize (((xs.set (v6).toNatClampNeg ((34 : Int32).toInt8.toInt32)).set ((v6 + (1 : Int32))).toNatClampNeg ((125 : Int32).toInt8.toInt32)).set (((v6 + (1 : Int32)) + (1 : Int32))).toNatClampNeg ((125 : Int32).toInt8.toInt32)) = ys
  intro hP hN h
  have la := own_abl v0
  have lb := own_abl v1
  have ma := own_nml v0
  have mb := own_nml v1
  obtain ⟨A, hA⟩ : ∃ A, A = (own_cs v0 ++ own_wd v0).length := ⟨_, rfl⟩
  obtain ⟨B, hBn⟩ : ∃ B, B = (own_cs v1 ++ own_wd v1).length := ⟨_, rfl⟩
  rw [← hA] at la ma ⊢
  rw [← hBn] at lb mb ⊢
  have lg : sg.length ≤ 1 := by rcases hs with rfl | rfl <;> decide
  have lx : xx.length ≤ 1 := by rcases hx with rfl | rfl <;> decide
  have eq : own_hd ++ own_nm v0 ++ [58] ++ sg ++ [d] ++ [44] ++ own_nm v1 ++ [58] ++ [34] ++ xx ++ [34] ++ [125] ++ [125] = [123] ++ (34 :: (([116] ++ []) ++ [34])) ++ [58] ++ [123] ++ own_nm v0 ++ [58] ++ (sg ++ [d] ++ [44]) ++ own_nm v1 ++ [58] ++ (34 :: ((xx ++ []) ++ [34])) ++ [125] ++ [125] := by
    simp [own_hd, List.append_assoc]
  rw [eq] at h hP
  obtain ⟨h, q12⟩ := (own_Rd_app _ _ _).mp h
  obtain ⟨h, q11⟩ := (own_Rd_app _ _ _).mp h
  obtain ⟨h, q10⟩ := (own_Rd_app _ _ _).mp h
  obtain ⟨h, q9⟩ := (own_Rd_app _ _ _).mp h
  obtain ⟨h, q8⟩ := (own_Rd_app _ _ _).mp h
  obtain ⟨h, q7⟩ := (own_Rd_app _ _ _).mp h
  obtain ⟨h, q6⟩ := (own_Rd_app _ _ _).mp h
  obtain ⟨h, q5⟩ := (own_Rd_app _ _ _).mp h
  obtain ⟨h, q4⟩ := (own_Rd_app _ _ _).mp h
  obtain ⟨h, q3⟩ := (own_Rd_app _ _ _).mp h
  obtain ⟨q1, q2⟩ := (own_Rd_app _ _ _).mp h
  have p2 := own_mv (k' := o + 1) q2 (by simp only [List.length_append, List.length_cons, List.length_nil, ma, mb] <;> omega)
  have p3 := own_mv (k' := o + 4) q3 (by simp only [List.length_append, List.length_cons, List.length_nil, ma, mb] <;> omega)
  have p4 := own_mv (k' := o + 4 + 1) q4 (by simp only [List.length_append, List.length_cons, List.length_nil, ma, mb] <;> omega)
  have p5 : own_Rd ys (o + 4 + 2) (34 :: ((own_cs v0 ++ own_wd v0) ++ [34])) := own_mv (l := own_nm v0) q5 (by simp only [List.length_append, List.length_cons, List.length_nil, ma, mb] <;> omega)
  have p6 := own_mv (k' := o + 8 + A) q6 (by simp only [List.length_append, List.length_cons, List.length_nil, ma, mb] <;> omega)
  have p7 := own_mv (k' := o + 8 + A + 1) q7 (by simp only [List.length_append, List.length_cons, List.length_nil, ma, mb] <;> omega)
  have p8 : own_Rd ys (o + 10 + A + sg.length + 1) (34 :: ((own_cs v1 ++ own_wd v1) ++ [34])) := own_mv (l := own_nm v1) q8 (by simp only [List.length_append, List.length_cons, List.length_nil, ma, mb] <;> omega)
  have p9 := own_mv (k' := o + 13 + A + sg.length + B) q9 (by simp only [List.length_append, List.length_cons, List.length_nil, ma, mb] <;> omega)
  have p10 := own_mv (k' := o + 13 + A + sg.length + B + 1) q10 (by simp only [List.length_append, List.length_cons, List.length_nil, ma, mb] <;> omega)
  have p11 := own_mv (k' := o + 16 + A + sg.length + B + xx.length) q11 (by simp only [List.length_append, List.length_cons, List.length_nil, ma, mb] <;> omega)
  have p12 := own_mv (k' := o + 16 + A + sg.length + B + xx.length + 1) q12 (by simp only [List.length_append, List.length_cons, List.length_nil, ma, mb] <;> omega)
  have he : o + 18 + A + sg.length + B + xx.length ≤ 40 := by omega
  have gt : ∀ c ∈ ([116] : List Int32), own_good c := fun c hc => by
    rw [List.mem_singleton] at hc; subst hc; exact ⟨by decide, by decide, by decide, by decide⟩
  have gx : ∀ c ∈ xx, own_good c := fun c hc => by
    rcases hx with rfl | rfl
    · exact absurd hc (List.not_mem_nil)
    · rw [List.mem_singleton] at hc; subst hc; exact ⟨by decide, by decide, by decide, by decide⟩
  have t1 := own_te (e := o + 18 + A + sg.length + B + xx.length) [116] [] gt (by decide) (Or.inl rfl) p2 he (by show o + 1 + 1 + 2 ≤ _; omega)
  have t2 := own_te (e := o + 18 + A + sg.length + B + xx.length) (own_cs v0) (own_wd v0) (own_csg v0) (own_csl v0).1 (own_wl v0) p5 he (by rw [← hA]; omega)
  have t3 := own_te (e := o + 18 + A + sg.length + B + xx.length) (own_cs v1) (own_wd v1) (own_csg v1) (own_csl v1).1 (own_wl v1) p8 he (by rw [← hBn]; omega)
  have t4 := own_te (e := o + 18 + A + sg.length + B + xx.length) xx [] gx (by omega) (Or.inl rfl) p10 he (by rw [List.append_nil]; omega)
  have n1 := own_nu (e := o + 18 + A + sg.length + B + xx.length) hs hd he (by omega) p7
  rw [← hA] at t2
  rw [← hBn] at t3
  rw [List.append_nil] at t4
  have p13 := own_mv (k' := o + 10 + A + sg.length) ((own_Rd_app _ _ _).mp p7).2 (by simp only [List.length_append, List.length_cons, List.length_nil, ma, mb] <;> omega)
  have r5 : ∃ c, ys.getD (o + 8 + A + 1) 0 = c ∧ c ≠ 34 := by
    have l34 : (34 : Int32).toInt = 34 := rfl
    rcases hs with rfl | rfl
    · exact ⟨d, p7.1, fun q => by rw [q, l34] at hd; omega⟩
    · exact ⟨45, p7.1, by decide⟩
  refine ⟨o, sg.length, xx.length, o + 18 + A + sg.length + B + xx.length, ho, lg, lx, hv5, hP.trans (congrArg own_I (by simp only [List.length_append, List.length_cons, List.length_nil, ma, mb] <;> omega)), rfl, q1.1, t1, p3.1, p4.1, p5.1, t2.trans (congrArg own_I (by omega)), p6.1, r5, n1.trans (congrArg own_I (by omega)), p13.1, t3.trans (congrArg own_I (by omega)), p9.1, p10.1, t4.trans (congrArg own_I (by omega)), p11.1, p12.1⟩
theorem own_hF {v0 v1 v5 v6 : Int32} {xs : List Int32} (hB : own_B2 v0 v1 v5 v6 xs) : own_Road14 v5 ((((v6 + (1 : Int32)) + (1 : Int32)) + (1 : Int32)) - v5) [0, 0, 0, 0, 0, 0, 0, 0, 0, 0, 0, 0, 0, 0, 0, 0] (((xs.set (v6).toNatClampNeg ((34 : Int32).toInt8.toInt32)).set ((v6 + (1 : Int32))).toNatClampNeg ((125 : Int32).toInt8.toInt32)).set (((v6 + (1 : Int32)) + (1 : Int32))).toNatClampNeg ((125 : Int32).toInt8.toInt32)) := by
  have hp := own_pack hB
  have la := own_abl v0
  have lb := own_abl v1
  revert hp
  generalize (((xs.set (v6).toNatClampNeg ((34 : Int32).toInt8.toInt32)).set ((v6 + (1 : Int32))).toNatClampNeg ((125 : Int32).toInt8.toInt32)).set (((v6 + (1 : Int32)) + (1 : Int32))).toNatClampNeg ((125 : Int32).toInt8.toInt32)) = ys
  generalize (own_cs v0 ++ own_wd v0).length = A at *
  generalize (own_cs v1 ++ own_wd v1).length = B at *
  rintro ⟨o, g, x, e, ho, hg, hx, hv5, hP, he, r0, t1, r1, r2, r3, t2, r4, ⟨c, r5, r5'⟩, n1, r6, t3, r7, r8, t4, r9, r10⟩
  have hsum : own_I o + (own_I e - own_I o) = own_I e := by rw [Int32.add_comm, Int32.sub_add_cancel]
  have he40 : e ≤ 40 := by omega
  unfold own_Road14
  rw [hP, hv5, hsum]
  simp only [own_I1, own_I2, t1, t2, n1, t3, t4]
  have nz : ¬ (1 : Int32) = 0 := by decide
  have i40 : (40 : Int32) = own_I 40 := rfl
  refine ⟨fun q => ?_, ⟨own_In0 (by omega), ?_⟩, ?_, own_In0 (by omega), ?_, own_In0 (by omega), own_In0 (by omega), ?_, own_In0 (by omega), ?_, own_In0 (by omega), own_f5n he40 (by omega) r3 (by decide), own_In0 (by omega), own_In0 (by omega), ?_, own_In0 (by omega), own_f5n he40 (by omega) r5 r5', own_In0 (by omega), own_f5n he40 (by omega) r5 r5', own_f5n he40 (by omega) r5 r5', own_In0 (by omega), ?_, own_In0 (by omega), own_In0 (by omega), own_In0 (by omega), ?_, own_In0 (by omega), ?_, own_In0 (by omega), ?_, ?_, own_In0 (by omega), own_f5n he40 (by omega) r9 (by decide), ?_, own_In0 (by omega), ?_, ?_⟩
  · have q1 := congrArg Int32.toInt q
    rw [own_It (by omega), own_It (by omega)] at q1
    omega
  · rw [i40, own_Ilt (by omega) (by omega)]; omega
  · rw [own_Inat (by omega)]; exact r0
  · rw [i40, own_Ilt (by omega) (by omega)]; omega
  · rw [own_f5y he40 (by omega) r1]; exact nz
  · rw [own_f5y he40 (by omega) r2]; exact nz
  · rw [own_f5y he40 (by omega) r4]; exact nz
  · rw [own_f5y he40 (by omega) r6]; exact nz
  · rw [own_f5y he40 (by omega) r7]; exact nz
  · rw [own_f5y he40 (by omega) r8]; exact nz
  · rw [own_f5y he40 (by omega) r8]; exact nz
  · rw [own_f5y he40 (by omega) r8]; exact nz
  · rw [own_f5y he40 (by omega) r9]; exact nz
  · rw [own_f5y he40 (by omega) r10]; exact nz
  · congr 1; omega

/-! PlainLineNameLengthPinLaw.law -/
def f0_187 (v0 : Int32) (v1 : Int32) (v5 : Int32) (v6 : Int32) (xs_v4 : List Int32) : Int32 := (if (f14_0 v5 ((((v6 + (1 : Int32)) + (1 : Int32)) + (1 : Int32)) - v5) [0, 0, 0, 0, 0, 0, 0, 0, 0, 0, 0, 0, 0, 0, 0, 0] (((xs_v4.set (v6).toNatClampNeg ((34 : Int32).toInt8.toInt32)).set ((v6 + (1 : Int32))).toNatClampNeg ((125 : Int32).toInt8.toInt32)).set (((v6 + (1 : Int32)) + (1 : Int32))).toNatClampNeg ((125 : Int32).toInt8.toInt32))).1 = (0 : Int32) then (0 : Int32) else (if (f12_0 (f14_0 v5 ((((v6 + (1 : Int32)) + (1 : Int32)) + (1 : Int32)) - v5) [0, 0, 0, 0, 0, 0, 0, 0, 0, 0, 0, 0, 0, 0, 0, 0] (((xs_v4.set (v6).toNatClampNeg ((34 : Int32).toInt8.toInt32)).set ((v6 + (1 : Int32))).toNatClampNeg ((125 : Int32).toInt8.toInt32)).set (((v6 + (1 : Int32)) + (1 : Int32))).toNatClampNeg ((125 : Int32).toInt8.toInt32))).2.2.2.1) = (2 : Int32) then (if (f13_0 (0 : Int32) (f14_0 v5 ((((v6 + (1 : Int32)) + (1 : Int32)) + (1 : Int32)) - v5) [0, 0, 0, 0, 0, 0, 0, 0, 0, 0, 0, 0, 0, 0, 0, 0] (((xs_v4.set (v6).toNatClampNeg ((34 : Int32).toInt8.toInt32)).set ((v6 + (1 : Int32))).toNatClampNeg ((125 : Int32).toInt8.toInt32)).set (((v6 + (1 : Int32)) + (1 : Int32))).toNatClampNeg ((125 : Int32).toInt8.toInt32))).2.2.2.2) = (f1_0 v0) then (if (f13_0 (1 : Int32) (f14_0 v5 ((((v6 + (1 : Int32)) + (1 : Int32)) + (1 : Int32)) - v5) [0, 0, 0, 0, 0, 0, 0, 0, 0, 0, 0, 0, 0, 0, 0, 0] (((xs_v4.set (v6).toNatClampNeg ((34 : Int32).toInt8.toInt32)).set ((v6 + (1 : Int32))).toNatClampNeg ((125 : Int32).toInt8.toInt32)).set (((v6 + (1 : Int32)) + (1 : Int32))).toNatClampNeg ((125 : Int32).toInt8.toInt32))).2.2.2.2) = (f1_0 v1) then (1 : Int32) else (0 : Int32)) else (0 : Int32)) else (0 : Int32)))
set_option maxRecDepth 65536 in
set_option maxHeartbeats 4000000 in
theorem w0_187 {Z : State} {a0 : Array Value} {p : Program} {l : Launch} {e : Env} {s : State} {m : MethodId} {args : Array Value} {below : List Frame} {meth : Method} {c : Code} {T : State} {h : Heap} {n0 : Nat} {u2 : Int32} {u3 : Int32} {v4 : Addr} (C : own_Cx Z a0 p l e room_1 s m args below meth c "com/example/tidemark/tidemark/table/PlainLineNameLengthPinLaw" "law" code maxLocals ret) (A : own_At p l e room_1 s m args below meth c T h n0 1 40) (v0 : Int32) (v1 : Int32) (v5 : Int32) (v6 : Int32) (xs_v4 : List Int32) (V_v4 : own_Ia Z h v4 .byte (40 : Int32) xs_v4) (g_v4 : n0 ≤ v4) (hB : own_B2 v0 v1 v5 v6 xs_v4) :
    own_Go p.tables e below (T.setTop (mkF m 187 #[.val (.int v0), .val (.int v1), .val (.int u2), .val (.int u3), .val (.ref v4), .val (.int v5), .val (.int v6), .unset, .unset] [])) (own_QR s n0 3 61 (own_RV (f0_187 v0 v1 v5 v6 xs_v4))) := by
  unfold f0_187
  refine own_aload C A at_187 rfl rfl rfl ?_
  refine own_iload C A at_189 rfl rfl ?_
  refine own_iinc C A at_191 rfl (l' := #[.val (.int v0), .val (.int v1), .val (.int u2), .val (.int u3), .val (.ref v4), .val (.int v5), .val (.int (v6 + (1 : Int32))), .unset, .unset]) rfl rfl ?_
  refine own_bipush C A at_194 (v := 34) rfl rfl ?_
  refine own_bastore C A V_v4 (own_p0 (own_B2b hB) (by decide)) (ys := (xs_v4.set (v6).toNatClampNeg ((34 : Int32).toInt8.toInt32))) rfl g_v4 at_196 rfl (fun T h Kw V_v4 A => ?_)
  refine own_aload C A at_197 rfl rfl rfl ?_
  refine own_iload C A at_199 rfl rfl ?_
  refine own_iinc C A at_201 rfl (l' := #[.val (.int v0), .val (.int v1), .val (.int u2), .val (.int u3), .val (.ref v4), .val (.int v5), .val (.int ((v6 + (1 : Int32)) + (1 : Int32))), .unset, .unset]) rfl rfl ?_
  refine own_bipush C A at_204 (v := 125) rfl rfl ?_
  refine own_bastore C A V_v4 (own_p1 (own_B2b hB) (by decide)) (ys := ((xs_v4.set (v6).toNatClampNeg ((34 : Int32).toInt8.toInt32)).set ((v6 + (1 : Int32))).toNatClampNeg ((125 : Int32).toInt8.toInt32))) rfl g_v4 at_206 rfl (fun T h Kw V_v4 A => ?_)
  refine own_aload C A at_207 rfl rfl rfl ?_
  refine own_iload C A at_209 rfl rfl ?_
  refine own_iinc C A at_211 rfl (l' := #[.val (.int v0), .val (.int v1), .val (.int u2), .val (.int u3), .val (.ref v4), .val (.int v5), .val (.int (((v6 + (1 : Int32)) + (1 : Int32)) + (1 : Int32))), .unset, .unset]) rfl rfl ?_
  refine own_bipush C A at_214 (v := 125) rfl rfl ?_
  refine own_bastore C A V_v4 (own_p2 (own_B2b hB) (by decide)) (ys := (((xs_v4.set (v6).toNatClampNeg ((34 : Int32).toInt8.toInt32)).set ((v6 + (1 : Int32))).toNatClampNeg ((125 : Int32).toInt8.toInt32)).set (((v6 + (1 : Int32)) + (1 : Int32))).toNatClampNeg ((125 : Int32).toInt8.toInt32))) rfl g_v4 at_216 rfl (fun T h Kw V_v4 A => ?_)
  refine own_newO C A (own_w C 8 rfl) (own_w C 9 rfl) (own_w C 10 rfl) at_217 rfl (by decide) (by decide) (fun T h b217 e_b217 X_b217 E_b217 D_b217 g_b217 A => ?_)
  have ne_v4_b217 : v4 ≠ b217 := Nat.ne_of_lt (Nat.lt_of_lt_of_eq (own_Ia.lt V_v4) e_b217.symm)
  have V_v4 := own_Ia.ext V_v4 X_b217
  have F_tokens_b217 : Fld Z h b217 "com/example/tidemark/tidemark/table/PlainLine" "tokens" "[I" .null := D_b217 (Or.inl (own_w C 19 rfl)) (ty := (.array .int)) (by decide)
  have F_bytes_b217 : Fld Z h b217 "com/example/tidemark/tidemark/table/PlainLine" "bytes" "[B" .null := D_b217 (Or.inl (own_w C 26 rfl)) (ty := (.array .byte)) (by decide)
  have F_count_b217 : Fld Z h b217 "com/example/tidemark/tidemark/table/PlainLine" "count" "I" (.int (0 : Int32)) := D_b217 (Or.inl (own_w C 28 rfl)) (ty := .int) (by decide)
  have F_typeFrom_b217 : Fld Z h b217 "com/example/tidemark/tidemark/table/PlainLine" "typeFrom" "I" (.int (0 : Int32)) := D_b217 (Or.inl (own_w C 30 rfl)) (ty := .int) (by decide)
  have F_typeTo_b217 : Fld Z h b217 "com/example/tidemark/tidemark/table/PlainLine" "typeTo" "I" (.int (0 : Int32)) := D_b217 (Or.inl (own_w C 40 rfl)) (ty := .int) (by decide)
  refine own_dup C A at_220 rfl rfl ?_
  refine own_callC C A 1 [] [(.ref b217)] rfl (own_w C 11 rfl) (own_w C 12 rfl) (own_w C 10 rfl) (own_w C 13 rfl) (by decide) (rm4 l Z a0 C.2.2.2.2.2.2.2.2 [] b217 _ _ (own_size A) F_bytes_b217 F_typeFrom_b217 F_typeTo_b217 F_tokens_b217 F_count_b217 E_b217 g_b217) (by decide) (by decide) (by decide) (by decide) own_pd7 rfl rfl rfl (Nat.le_of_eq rfl) rfl at_221 rfl (fun v T h hP A => ?_)
  replace A := own_more A (kc' := 3) (ks' := 61) (by decide) (by decide)
  obtain ⟨t221, rfl, Kc, g_t221, e_t221, V_t221, E_b217', F_bytes_b217', F_typeFrom_b217', F_typeTo_b217', F_tokens_b217', F_count_b217'⟩ := hP
  have ne_v4_t221 : v4 ≠ t221 := Nat.ne_of_lt (Nat.lt_of_lt_of_le (own_Ia.lt V_v4) e_t221)
  have ne_b217_t221 : b217 ≠ t221 := Nat.ne_of_lt (Nat.lt_of_lt_of_le (Exa.lt E_b217) e_t221)
  have V_v4 := own_Ia.keep V_v4 Kc (ninS ne_v4_b217 nin0)
  have E_b217 := E_b217'
  have F_bytes_b217 := F_bytes_b217'
  have F_typeFrom_b217 := F_typeFrom_b217'
  have F_typeTo_b217 := F_typeTo_b217'
  have F_tokens_b217 := F_tokens_b217'
  have F_count_b217 := F_count_b217'
  show own_Go p.tables e below (T.setTop (mkF m 224 #[.val (.int v0), .val (.int v1), .val (.int u2), .val (.int u3), .val (.ref v4), .val (.int v5), .val (.int (((v6 + (1 : Int32)) + (1 : Int32)) + (1 : Int32))), .unset, .unset] [(.ref b217)])) _
  refine own_astore C A at_224 rfl (l' := #[.val (.int v0), .val (.int v1), .val (.int u2), .val (.int u3), .val (.ref v4), .val (.int v5), .val (.int (((v6 + (1 : Int32)) + (1 : Int32)) + (1 : Int32))), .val (.ref b217), .unset]) rfl rfl ?_
  refine own_aload C A at_226 rfl rfl rfl ?_
  refine own_aload C A at_228 rfl rfl rfl ?_
  refine own_iload C A at_230 rfl rfl ?_
  refine own_iload C A at_232 rfl rfl ?_
  refine own_iload C A at_234 rfl rfl ?_
  refine own_isub C A at_236 rfl ?_
  refine own_callV C A 0 [(.ref v4), (.int v5), (.int ((((v6 + (1 : Int32)) + (1 : Int32)) + (1 : Int32)) - v5))] [] (own_w C 20 rfl) (own_w C 21 rfl) (own_w C 23 rfl) (own_w C 22 rfl) (own_w C 10 rfl) (own_w C 24 rfl) (by decide) rfl E_b217 (rm14 l Z a0 C.2.2.2.2.2.2.2.2 [] b217 v4 v5 ((((v6 + (1 : Int32)) + (1 : Int32)) + (1 : Int32)) - v5) [0, 0, 0, 0, 0, 0, 0, 0, 0, 0, 0, 0, 0, 0, 0, 0] (((xs_v4.set (v6).toNatClampNeg ((34 : Int32).toInt8.toInt32)).set ((v6 + (1 : Int32))).toNatClampNeg ((125 : Int32).toInt8.toInt32)).set (((v6 + (1 : Int32)) + (1 : Int32))).toNatClampNeg ((125 : Int32).toInt8.toInt32)) .null (.int (0 : Int32)) (.int (0 : Int32)) t221 (.int (0 : Int32)) _ _ (own_size A) F_bytes_b217 F_typeFrom_b217 F_typeTo_b217 F_tokens_b217 F_count_b217 E_b217 g_b217 V_t221 g_t221 V_v4 ne_b217_t221 (Ne.symm ne_v4_b217) (Ne.symm ne_v4_t221) (own_hF hB)) (by decide) (by decide) (by decide) (by decide) own_pd5 rfl rfl rfl (Nat.le_of_eq rfl) rfl at_237 rfl (fun v T h hP A => ?_)
  replace A := own_more A (kc' := 3) (ks' := 61) (by decide) (by decide)
  obtain ⟨rfl, Kc, E_b217, F_bytes_b217, F_typeFrom_b217, F_typeTo_b217, F_tokens_b217, F_count_b217, V_t221⟩ := hP
  have V_v4 := own_Ia.keep V_v4 Kc (ninS ne_v4_b217 (ninS ne_v4_t221 nin0))
  show own_Go p.tables e below (T.setTop (mkF m 240 #[.val (.int v0), .val (.int v1), .val (.int u2), .val (.int u3), .val (.ref v4), .val (.int v5), .val (.int (((v6 + (1 : Int32)) + (1 : Int32)) + (1 : Int32))), .val (.ref b217), .unset] [(.int (f14_0 v5 ((((v6 + (1 : Int32)) + (1 : Int32)) + (1 : Int32)) - v5) [0, 0, 0, 0, 0, 0, 0, 0, 0, 0, 0, 0, 0, 0, 0, 0] (((xs_v4.set (v6).toNatClampNeg ((34 : Int32).toInt8.toInt32)).set ((v6 + (1 : Int32))).toNatClampNeg ((125 : Int32).toInt8.toInt32)).set (((v6 + (1 : Int32)) + (1 : Int32))).toNatClampNeg ((125 : Int32).toInt8.toInt32))).1)])) _
  refine own_istore C A at_240 (l' := #[.val (.int v0), .val (.int v1), .val (.int u2), .val (.int u3), .val (.ref v4), .val (.int v5), .val (.int (((v6 + (1 : Int32)) + (1 : Int32)) + (1 : Int32))), .val (.ref b217), .val (.int (f14_0 v5 ((((v6 + (1 : Int32)) + (1 : Int32)) + (1 : Int32)) - v5) [0, 0, 0, 0, 0, 0, 0, 0, 0, 0, 0, 0, 0, 0, 0, 0] (((xs_v4.set (v6).toNatClampNeg ((34 : Int32).toInt8.toInt32)).set ((v6 + (1 : Int32))).toNatClampNeg ((125 : Int32).toInt8.toInt32)).set (((v6 + (1 : Int32)) + (1 : Int32))).toNatClampNeg ((125 : Int32).toInt8.toInt32))).1)]) rfl rfl ?_
  refine own_iload C A at_242 rfl rfl ?_
  refine own_ite (fun hc244 => ?_) (fun hc244 => ?_)
  · refine own_ifY C A at_244 (Jvm.Free.XT.i0_eq_t hc244) (by decide) (q := 286) (by decide) ?_
    refine own_iconst C A at_286 (v := 0) rfl rfl ?_
    exact own_retN C A (t := .boolean) (by simp) at_287 rfl
  · refine own_ifN C A at_244 (Jvm.Free.XT.i0_eq_f hc244) rfl ?_
    refine own_aload C A at_247 rfl rfl rfl ?_
    refine own_callVI C A 0 [] [] (own_w C 45 rfl) (own_w C 46 rfl) (own_w C 48 rfl) (own_w C 47 rfl) (own_w C 10 rfl) (own_w C 49 rfl) (by decide) rfl E_b217 (rm12 l Z a0 C.2.2.2.2.2.2.2.2 [] b217 (f14_0 v5 ((((v6 + (1 : Int32)) + (1 : Int32)) + (1 : Int32)) - v5) [0, 0, 0, 0, 0, 0, 0, 0, 0, 0, 0, 0, 0, 0, 0, 0] (((xs_v4.set (v6).toNatClampNeg ((34 : Int32).toInt8.toInt32)).set ((v6 + (1 : Int32))).toNatClampNeg ((125 : Int32).toInt8.toInt32)).set (((v6 + (1 : Int32)) + (1 : Int32))).toNatClampNeg ((125 : Int32).toInt8.toInt32))).2.2.2.1 _ _ (own_size A) F_count_b217 E_b217) rfl rfl (by decide) (by decide) (by decide) (by decide) own_pd8 rfl rfl rfl (Nat.le_of_eq rfl) rfl at_249 rfl (fun T A => ?_)
    refine own_iconst C A at_252 (v := 2) rfl rfl ?_
    refine own_ite (fun hc253 => ?_) (fun hc253 => ?_)
    · refine own_icmpN C A at_253 (Jvm.Free.XT.ii_ne_f hc253) rfl ?_
      refine own_aload C A at_256 rfl rfl rfl ?_
      refine own_iconst C A at_258 (v := 0) rfl rfl ?_
      refine own_callVI C A 0 [(.int (0 : Int32))] [] (own_w C 50 rfl) (own_w C 51 rfl) (own_w C 53 rfl) (own_w C 52 rfl) (own_w C 10 rfl) (own_w C 54 rfl) (by decide) rfl E_b217 (rm13 l Z a0 C.2.2.2.2.2.2.2.2 [] b217 (0 : Int32) (f14_0 v5 ((((v6 + (1 : Int32)) + (1 : Int32)) + (1 : Int32)) - v5) [0, 0, 0, 0, 0, 0, 0, 0, 0, 0, 0, 0, 0, 0, 0, 0] (((xs_v4.set (v6).toNatClampNeg ((34 : Int32).toInt8.toInt32)).set ((v6 + (1 : Int32))).toNatClampNeg ((125 : Int32).toInt8.toInt32)).set (((v6 + (1 : Int32)) + (1 : Int32))).toNatClampNeg ((125 : Int32).toInt8.toInt32))).2.2.2.2 t221 _ _ (own_size A) F_tokens_b217 E_b217 V_t221 ⟨by decide, by decide⟩ ⟨by decide, by decide⟩) rfl rfl (by decide) (by decide) (by decide) (by decide) own_pd2 rfl rfl rfl (Nat.le_of_eq rfl) rfl at_259 rfl (fun T A => ?_)
      refine own_iloadN C A at_262 rfl rfl ?_
      refine own_callSI C A 1 [(.int v0)] [(.int (f13_0 (0 : Int32) (f14_0 v5 ((((v6 + (1 : Int32)) + (1 : Int32)) + (1 : Int32)) - v5) [0, 0, 0, 0, 0, 0, 0, 0, 0, 0, 0, 0, 0, 0, 0, 0] (((xs_v4.set (v6).toNatClampNeg ((34 : Int32).toInt8.toInt32)).set ((v6 + (1 : Int32))).toNatClampNeg ((125 : Int32).toInt8.toInt32)).set (((v6 + (1 : Int32)) + (1 : Int32))).toNatClampNeg ((125 : Int32).toInt8.toInt32))).2.2.2.2))] (own_w C 55 rfl) (own_w C 56 rfl) (own_w C 3 rfl) (own_w C 57 rfl) (by decide) (rm1 l Z a0 C.2.2.2.2.2.2.2.2 [] v0 _ _ (own_size A)) rfl rfl (by decide) (by decide) (by decide) (by decide) own_pd2 rfl rfl rfl (Nat.le_of_eq rfl) rfl at_263 rfl (fun T A => ?_)
      refine own_ite (fun hc266 => ?_) (fun hc266 => ?_)
      · refine own_icmpN C A at_266 (Jvm.Free.XT.ii_ne_f hc266) rfl ?_
        refine own_aload C A at_269 rfl rfl rfl ?_
        refine own_iconst C A at_271 (v := 1) rfl rfl ?_
        refine own_callVI C A 0 [(.int (1 : Int32))] [] (own_w C 50 rfl) (own_w C 51 rfl) (own_w C 53 rfl) (own_w C 52 rfl) (own_w C 10 rfl) (own_w C 54 rfl) (by decide) rfl E_b217 (rm13 l Z a0 C.2.2.2.2.2.2.2.2 [] b217 (1 : Int32) (f14_0 v5 ((((v6 + (1 : Int32)) + (1 : Int32)) + (1 : Int32)) - v5) [0, 0, 0, 0, 0, 0, 0, 0, 0, 0, 0, 0, 0, 0, 0, 0] (((xs_v4.set (v6).toNatClampNeg ((34 : Int32).toInt8.toInt32)).set ((v6 + (1 : Int32))).toNatClampNeg ((125 : Int32).toInt8.toInt32)).set (((v6 + (1 : Int32)) + (1 : Int32))).toNatClampNeg ((125 : Int32).toInt8.toInt32))).2.2.2.2 t221 _ _ (own_size A) F_tokens_b217 E_b217 V_t221 ⟨by decide, by decide⟩ ⟨by decide, by decide⟩) rfl rfl (by decide) (by decide) (by decide) (by decide) own_pd2 rfl rfl rfl (Nat.le_of_eq rfl) rfl at_272 rfl (fun T A => ?_)
        refine own_iloadN C A at_275 rfl rfl ?_
        refine own_callSI C A 1 [(.int v1)] [(.int (f13_0 (1 : Int32) (f14_0 v5 ((((v6 + (1 : Int32)) + (1 : Int32)) + (1 : Int32)) - v5) [0, 0, 0, 0, 0, 0, 0, 0, 0, 0, 0, 0, 0, 0, 0, 0] (((xs_v4.set (v6).toNatClampNeg ((34 : Int32).toInt8.toInt32)).set ((v6 + (1 : Int32))).toNatClampNeg ((125 : Int32).toInt8.toInt32)).set (((v6 + (1 : Int32)) + (1 : Int32))).toNatClampNeg ((125 : Int32).toInt8.toInt32))).2.2.2.2))] (own_w C 55 rfl) (own_w C 56 rfl) (own_w C 3 rfl) (own_w C 57 rfl) (by decide) (rm1 l Z a0 C.2.2.2.2.2.2.2.2 [] v1 _ _ (own_size A)) rfl rfl (by decide) (by decide) (by decide) (by decide) own_pd2 rfl rfl rfl (Nat.le_of_eq rfl) rfl at_276 rfl (fun T A => ?_)
        refine own_ite (fun hc279 => ?_) (fun hc279 => ?_)
        · refine own_icmpN C A at_279 (Jvm.Free.XT.ii_ne_f hc279) rfl ?_
          refine own_iconst C A at_282 (v := 1) rfl rfl ?_
          refine own_goto C A at_283 (by decide) (q := 287) (by decide) ?_
          exact own_retN C A (t := .boolean) (by simp) at_287 rfl
        · refine own_icmpY C A at_279 (Jvm.Free.XT.ii_ne_t hc279) (by decide) (q := 286) (by decide) ?_
          refine own_iconst C A at_286 (v := 0) rfl rfl ?_
          exact own_retN C A (t := .boolean) (by simp) at_287 rfl
      · refine own_icmpY C A at_266 (Jvm.Free.XT.ii_ne_t hc266) (by decide) (q := 286) (by decide) ?_
        refine own_iconst C A at_286 (v := 0) rfl rfl ?_
        exact own_retN C A (t := .boolean) (by simp) at_287 rfl
    · refine own_icmpY C A at_253 (Jvm.Free.XT.ii_ne_t hc253) (by decide) (q := 286) (by decide) ?_
      refine own_iconst C A at_286 (v := 0) rfl rfl ?_
      exact own_retN C A (t := .boolean) (by simp) at_287 rfl
def f0_113 (v0 : Int32) (v1 : Int32) (v2 : Int32) (v5 : Int32) (v6 : Int32) (xs_v4 : List Int32) : Int32 := (if (((v2.toUInt32 >>> ((4 : Int32) &&& 31).toUInt32).toInt32) &&& (1 : Int32)) = (0 : Int32) then (f0_187 v0 v1 v5 (((f3_0 ((v6 + (1 : Int32)) + (1 : Int32)) v1 ((xs_v4.set (v6).toNatClampNeg ((((48 : Int32) + (v2 &&& (7 : Int32))).toInt8.toInt32).toInt8.toInt32)).set ((v6 + (1 : Int32))).toNatClampNeg ((44 : Int32).toInt8.toInt32))).1 + (1 : Int32)) + (1 : Int32)) (((f3_0 ((v6 + (1 : Int32)) + (1 : Int32)) v1 ((xs_v4.set (v6).toNatClampNeg ((((48 : Int32) + (v2 &&& (7 : Int32))).toInt8.toInt32).toInt8.toInt32)).set ((v6 + (1 : Int32))).toNatClampNeg ((44 : Int32).toInt8.toInt32))).2.set ((f3_0 ((v6 + (1 : Int32)) + (1 : Int32)) v1 ((xs_v4.set (v6).toNatClampNeg ((((48 : Int32) + (v2 &&& (7 : Int32))).toInt8.toInt32).toInt8.toInt32)).set ((v6 + (1 : Int32))).toNatClampNeg ((44 : Int32).toInt8.toInt32))).1).toNatClampNeg ((58 : Int32).toInt8.toInt32)).set (((f3_0 ((v6 + (1 : Int32)) + (1 : Int32)) v1 ((xs_v4.set (v6).toNatClampNeg ((((48 : Int32) + (v2 &&& (7 : Int32))).toInt8.toInt32).toInt8.toInt32)).set ((v6 + (1 : Int32))).toNatClampNeg ((44 : Int32).toInt8.toInt32))).1 + (1 : Int32))).toNatClampNeg ((34 : Int32).toInt8.toInt32))) else (f0_187 v0 v1 v5 ((((f3_0 ((v6 + (1 : Int32)) + (1 : Int32)) v1 ((xs_v4.set (v6).toNatClampNeg ((((48 : Int32) + (v2 &&& (7 : Int32))).toInt8.toInt32).toInt8.toInt32)).set ((v6 + (1 : Int32))).toNatClampNeg ((44 : Int32).toInt8.toInt32))).1 + (1 : Int32)) + (1 : Int32)) + (1 : Int32)) ((((f3_0 ((v6 + (1 : Int32)) + (1 : Int32)) v1 ((xs_v4.set (v6).toNatClampNeg ((((48 : Int32) + (v2 &&& (7 : Int32))).toInt8.toInt32).toInt8.toInt32)).set ((v6 + (1 : Int32))).toNatClampNeg ((44 : Int32).toInt8.toInt32))).2.set ((f3_0 ((v6 + (1 : Int32)) + (1 : Int32)) v1 ((xs_v4.set (v6).toNatClampNeg ((((48 : Int32) + (v2 &&& (7 : Int32))).toInt8.toInt32).toInt8.toInt32)).set ((v6 + (1 : Int32))).toNatClampNeg ((44 : Int32).toInt8.toInt32))).1).toNatClampNeg ((58 : Int32).toInt8.toInt32)).set (((f3_0 ((v6 + (1 : Int32)) + (1 : Int32)) v1 ((xs_v4.set (v6).toNatClampNeg ((((48 : Int32) + (v2 &&& (7 : Int32))).toInt8.toInt32).toInt8.toInt32)).set ((v6 + (1 : Int32))).toNatClampNeg ((44 : Int32).toInt8.toInt32))).1 + (1 : Int32))).toNatClampNeg ((34 : Int32).toInt8.toInt32)).set ((((f3_0 ((v6 + (1 : Int32)) + (1 : Int32)) v1 ((xs_v4.set (v6).toNatClampNeg ((((48 : Int32) + (v2 &&& (7 : Int32))).toInt8.toInt32).toInt8.toInt32)).set ((v6 + (1 : Int32))).toNatClampNeg ((44 : Int32).toInt8.toInt32))).1 + (1 : Int32)) + (1 : Int32))).toNatClampNeg ((120 : Int32).toInt8.toInt32))))
set_option maxRecDepth 65536 in
set_option maxHeartbeats 4000000 in
theorem w0_113 {Z : State} {a0 : Array Value} {p : Program} {l : Launch} {e : Env} {s : State} {m : MethodId} {args : Array Value} {below : List Frame} {meth : Method} {c : Code} {T : State} {h : Heap} {n0 : Nat} {u3 : Int32} {v4 : Addr} (C : own_Cx Z a0 p l e room_1 s m args below meth c "com/example/tidemark/tidemark/table/PlainLineNameLengthPinLaw" "law" code maxLocals ret) (A : own_At p l e room_1 s m args below meth c T h n0 1 40) (v0 : Int32) (v1 : Int32) (v2 : Int32) (v5 : Int32) (v6 : Int32) (xs_v4 : List Int32) (V_v4 : own_Ia Z h v4 .byte (40 : Int32) xs_v4) (g_v4 : n0 ≤ v4) (hB : own_B1 v0 v5 v6 xs_v4) :
    own_Go p.tables e below (T.setTop (mkF m 113 #[.val (.int v0), .val (.int v1), .val (.int v2), .val (.int u3), .val (.ref v4), .val (.int v5), .val (.int v6), .unset, .unset] [])) (own_QR s n0 3 61 (own_RV (f0_113 v0 v1 v2 v5 v6 xs_v4))) := by
  unfold f0_113
  refine own_aload C A at_113 rfl rfl rfl ?_
  refine own_iload C A at_115 rfl rfl ?_
  refine own_iinc C A at_117 rfl (l' := #[.val (.int v0), .val (.int v1), .val (.int v2), .val (.int u3), .val (.ref v4), .val (.int v5), .val (.int (v6 + (1 : Int32))), .unset, .unset]) rfl rfl ?_
  refine own_bipush C A at_120 (v := 48) rfl rfl ?_
  refine own_iloadN C A at_122 rfl rfl ?_
  refine own_bipush C A at_123 (v := 7) rfl rfl ?_
  refine own_iand C A at_125 rfl ?_
  refine own_iadd C A at_126 rfl ?_
  refine own_i2b C A at_127 rfl ?_
  refine own_bastore C A V_v4 (own_p0 (own_B1b hB) (by decide)) (ys := (xs_v4.set (v6).toNatClampNeg ((((48 : Int32) + (v2 &&& (7 : Int32))).toInt8.toInt32).toInt8.toInt32))) rfl g_v4 at_128 rfl (fun T h Kw V_v4 A => ?_)
  refine own_aload C A at_129 rfl rfl rfl ?_
  refine own_iload C A at_131 rfl rfl ?_
  refine own_iinc C A at_133 rfl (l' := #[.val (.int v0), .val (.int v1), .val (.int v2), .val (.int u3), .val (.ref v4), .val (.int v5), .val (.int ((v6 + (1 : Int32)) + (1 : Int32))), .unset, .unset]) rfl rfl ?_
  refine own_bipush C A at_136 (v := 44) rfl rfl ?_
  refine own_bastore C A V_v4 (own_p1 (own_B1b hB) (by decide)) (ys := ((xs_v4.set (v6).toNatClampNeg ((((48 : Int32) + (v2 &&& (7 : Int32))).toInt8.toInt32).toInt8.toInt32)).set ((v6 + (1 : Int32))).toNatClampNeg ((44 : Int32).toInt8.toInt32))) rfl g_v4 at_138 rfl (fun T h Kw V_v4 A => ?_)
  refine own_aload C A at_139 rfl rfl rfl ?_
  refine own_iload C A at_141 rfl rfl ?_
  refine own_iloadN C A at_143 rfl rfl ?_
  refine own_callS C A 0 [(.ref v4), (.int ((v6 + (1 : Int32)) + (1 : Int32))), (.int v1)] [] (own_w C 1 rfl) (own_w C 2 rfl) (own_w C 3 rfl) (own_w C 4 rfl) (by decide) (rm3 l Z a0 C.2.2.2.2.2.2.2.2 [] v4 ((v6 + (1 : Int32)) + (1 : Int32)) v1 ((xs_v4.set (v6).toNatClampNeg ((((48 : Int32) + (v2 &&& (7 : Int32))).toInt8.toInt32).toInt8.toInt32)).set ((v6 + (1 : Int32))).toNatClampNeg ((44 : Int32).toInt8.toInt32)) _ _ (own_size A) V_v4 g_v4 (own_p2 (own_B1b hB) (by decide))) (by decide) (by decide) (by decide) (by decide) own_pd6 rfl rfl rfl (Nat.le_of_eq rfl) rfl at_144 rfl (fun v T h hP A => ?_)
  replace A := own_more A (kc' := 1) (ks' := 40) (by decide) (by decide)
  obtain ⟨rfl, Kc, V_v4⟩ := hP
  show own_Go p.tables e below (T.setTop (mkF m 147 #[.val (.int v0), .val (.int v1), .val (.int v2), .val (.int u3), .val (.ref v4), .val (.int v5), .val (.int ((v6 + (1 : Int32)) + (1 : Int32))), .unset, .unset] [(.int (f3_0 ((v6 + (1 : Int32)) + (1 : Int32)) v1 ((xs_v4.set (v6).toNatClampNeg ((((48 : Int32) + (v2 &&& (7 : Int32))).toInt8.toInt32).toInt8.toInt32)).set ((v6 + (1 : Int32))).toNatClampNeg ((44 : Int32).toInt8.toInt32))).1)])) _
  refine own_istore C A at_147 (l' := #[.val (.int v0), .val (.int v1), .val (.int v2), .val (.int u3), .val (.ref v4), .val (.int v5), .val (.int (f3_0 ((v6 + (1 : Int32)) + (1 : Int32)) v1 ((xs_v4.set (v6).toNatClampNeg ((((48 : Int32) + (v2 &&& (7 : Int32))).toInt8.toInt32).toInt8.toInt32)).set ((v6 + (1 : Int32))).toNatClampNeg ((44 : Int32).toInt8.toInt32))).1), .unset, .unset]) rfl rfl ?_
  refine own_aload C A at_149 rfl rfl rfl ?_
  refine own_iload C A at_151 rfl rfl ?_
  refine own_iinc C A at_153 rfl (l' := #[.val (.int v0), .val (.int v1), .val (.int v2), .val (.int u3), .val (.ref v4), .val (.int v5), .val (.int ((f3_0 ((v6 + (1 : Int32)) + (1 : Int32)) v1 ((xs_v4.set (v6).toNatClampNeg ((((48 : Int32) + (v2 &&& (7 : Int32))).toInt8.toInt32).toInt8.toInt32)).set ((v6 + (1 : Int32))).toNatClampNeg ((44 : Int32).toInt8.toInt32))).1 + (1 : Int32))), .unset, .unset]) rfl rfl ?_
  refine own_bipush C A at_156 (v := 58) rfl rfl ?_
  refine own_bastore C A V_v4 (own_p0 (own_nmB (b' := 27) (own_p2 (b' := 20) (own_B1b hB) (by decide)) (by decide)) (by decide)) (ys := ((f3_0 ((v6 + (1 : Int32)) + (1 : Int32)) v1 ((xs_v4.set (v6).toNatClampNeg ((((48 : Int32) + (v2 &&& (7 : Int32))).toInt8.toInt32).toInt8.toInt32)).set ((v6 + (1 : Int32))).toNatClampNeg ((44 : Int32).toInt8.toInt32))).2.set ((f3_0 ((v6 + (1 : Int32)) + (1 : Int32)) v1 ((xs_v4.set (v6).toNatClampNeg ((((48 : Int32) + (v2 &&& (7 : Int32))).toInt8.toInt32).toInt8.toInt32)).set ((v6 + (1 : Int32))).toNatClampNeg ((44 : Int32).toInt8.toInt32))).1).toNatClampNeg ((58 : Int32).toInt8.toInt32))) rfl g_v4 at_158 rfl (fun T h Kw V_v4 A => ?_)
  refine own_aload C A at_159 rfl rfl rfl ?_
  refine own_iload C A at_161 rfl rfl ?_
  refine own_iinc C A at_163 rfl (l' := #[.val (.int v0), .val (.int v1), .val (.int v2), .val (.int u3), .val (.ref v4), .val (.int v5), .val (.int (((f3_0 ((v6 + (1 : Int32)) + (1 : Int32)) v1 ((xs_v4.set (v6).toNatClampNeg ((((48 : Int32) + (v2 &&& (7 : Int32))).toInt8.toInt32).toInt8.toInt32)).set ((v6 + (1 : Int32))).toNatClampNeg ((44 : Int32).toInt8.toInt32))).1 + (1 : Int32)) + (1 : Int32))), .unset, .unset]) rfl rfl ?_
  refine own_bipush C A at_166 (v := 34) rfl rfl ?_
  refine own_bastore C A V_v4 (own_p1 (own_nmB (b' := 27) (own_p2 (b' := 20) (own_B1b hB) (by decide)) (by decide)) (by decide)) (ys := (((f3_0 ((v6 + (1 : Int32)) + (1 : Int32)) v1 ((xs_v4.set (v6).toNatClampNeg ((((48 : Int32) + (v2 &&& (7 : Int32))).toInt8.toInt32).toInt8.toInt32)).set ((v6 + (1 : Int32))).toNatClampNeg ((44 : Int32).toInt8.toInt32))).2.set ((f3_0 ((v6 + (1 : Int32)) + (1 : Int32)) v1 ((xs_v4.set (v6).toNatClampNeg ((((48 : Int32) + (v2 &&& (7 : Int32))).toInt8.toInt32).toInt8.toInt32)).set ((v6 + (1 : Int32))).toNatClampNeg ((44 : Int32).toInt8.toInt32))).1).toNatClampNeg ((58 : Int32).toInt8.toInt32)).set (((f3_0 ((v6 + (1 : Int32)) + (1 : Int32)) v1 ((xs_v4.set (v6).toNatClampNeg ((((48 : Int32) + (v2 &&& (7 : Int32))).toInt8.toInt32).toInt8.toInt32)).set ((v6 + (1 : Int32))).toNatClampNeg ((44 : Int32).toInt8.toInt32))).1 + (1 : Int32))).toNatClampNeg ((34 : Int32).toInt8.toInt32))) rfl g_v4 at_168 rfl (fun T h Kw V_v4 A => ?_)
  refine own_iloadN C A at_169 rfl rfl ?_
  refine own_iconst C A at_170 (v := 4) rfl rfl ?_
  refine own_iushr C A at_171 rfl ?_
  refine own_iconst C A at_172 (v := 1) rfl rfl ?_
  refine own_iand C A at_173 rfl ?_
  refine own_ite (fun hc174 => ?_) (fun hc174 => ?_)
  · refine own_ifY C A at_174 (Jvm.Free.XT.i0_eq_t hc174) (by decide) (q := 187) (by decide) ?_
    exact w0_187 C A v0 v1 v5 (((f3_0 ((v6 + (1 : Int32)) + (1 : Int32)) v1 ((xs_v4.set (v6).toNatClampNeg ((((48 : Int32) + (v2 &&& (7 : Int32))).toInt8.toInt32).toInt8.toInt32)).set ((v6 + (1 : Int32))).toNatClampNeg ((44 : Int32).toInt8.toInt32))).1 + (1 : Int32)) + (1 : Int32)) (((f3_0 ((v6 + (1 : Int32)) + (1 : Int32)) v1 ((xs_v4.set (v6).toNatClampNeg ((((48 : Int32) + (v2 &&& (7 : Int32))).toInt8.toInt32).toInt8.toInt32)).set ((v6 + (1 : Int32))).toNatClampNeg ((44 : Int32).toInt8.toInt32))).2.set ((f3_0 ((v6 + (1 : Int32)) + (1 : Int32)) v1 ((xs_v4.set (v6).toNatClampNeg ((((48 : Int32) + (v2 &&& (7 : Int32))).toInt8.toInt32).toInt8.toInt32)).set ((v6 + (1 : Int32))).toNatClampNeg ((44 : Int32).toInt8.toInt32))).1).toNatClampNeg ((58 : Int32).toInt8.toInt32)).set (((f3_0 ((v6 + (1 : Int32)) + (1 : Int32)) v1 ((xs_v4.set (v6).toNatClampNeg ((((48 : Int32) + (v2 &&& (7 : Int32))).toInt8.toInt32).toInt8.toInt32)).set ((v6 + (1 : Int32))).toNatClampNeg ((44 : Int32).toInt8.toInt32))).1 + (1 : Int32))).toNatClampNeg ((34 : Int32).toInt8.toInt32)) V_v4 g_v4 (own_mkB2 v1 v2 hB rfl).1
  · refine own_ifN C A at_174 (Jvm.Free.XT.i0_eq_f hc174) rfl ?_
    refine own_aload C A at_177 rfl rfl rfl ?_
    refine own_iload C A at_179 rfl rfl ?_
    refine own_iinc C A at_181 rfl (l' := #[.val (.int v0), .val (.int v1), .val (.int v2), .val (.int u3), .val (.ref v4), .val (.int v5), .val (.int ((((f3_0 ((v6 + (1 : Int32)) + (1 : Int32)) v1 ((xs_v4.set (v6).toNatClampNeg ((((48 : Int32) + (v2 &&& (7 : Int32))).toInt8.toInt32).toInt8.toInt32)).set ((v6 + (1 : Int32))).toNatClampNeg ((44 : Int32).toInt8.toInt32))).1 + (1 : Int32)) + (1 : Int32)) + (1 : Int32))), .unset, .unset]) rfl rfl ?_
    refine own_bipush C A at_184 (v := 120) rfl rfl ?_
    refine own_bastore C A V_v4 (own_p2 (own_nmB (b' := 27) (own_p2 (b' := 20) (own_B1b hB) (by decide)) (by decide)) (by decide)) (ys := ((((f3_0 ((v6 + (1 : Int32)) + (1 : Int32)) v1 ((xs_v4.set (v6).toNatClampNeg ((((48 : Int32) + (v2 &&& (7 : Int32))).toInt8.toInt32).toInt8.toInt32)).set ((v6 + (1 : Int32))).toNatClampNeg ((44 : Int32).toInt8.toInt32))).2.set ((f3_0 ((v6 + (1 : Int32)) + (1 : Int32)) v1 ((xs_v4.set (v6).toNatClampNeg ((((48 : Int32) + (v2 &&& (7 : Int32))).toInt8.toInt32).toInt8.toInt32)).set ((v6 + (1 : Int32))).toNatClampNeg ((44 : Int32).toInt8.toInt32))).1).toNatClampNeg ((58 : Int32).toInt8.toInt32)).set (((f3_0 ((v6 + (1 : Int32)) + (1 : Int32)) v1 ((xs_v4.set (v6).toNatClampNeg ((((48 : Int32) + (v2 &&& (7 : Int32))).toInt8.toInt32).toInt8.toInt32)).set ((v6 + (1 : Int32))).toNatClampNeg ((44 : Int32).toInt8.toInt32))).1 + (1 : Int32))).toNatClampNeg ((34 : Int32).toInt8.toInt32)).set ((((f3_0 ((v6 + (1 : Int32)) + (1 : Int32)) v1 ((xs_v4.set (v6).toNatClampNeg ((((48 : Int32) + (v2 &&& (7 : Int32))).toInt8.toInt32).toInt8.toInt32)).set ((v6 + (1 : Int32))).toNatClampNeg ((44 : Int32).toInt8.toInt32))).1 + (1 : Int32)) + (1 : Int32))).toNatClampNeg ((120 : Int32).toInt8.toInt32))) rfl g_v4 at_186 rfl (fun T h Kw V_v4 A => ?_)
    exact w0_187 C A v0 v1 v5 ((((f3_0 ((v6 + (1 : Int32)) + (1 : Int32)) v1 ((xs_v4.set (v6).toNatClampNeg ((((48 : Int32) + (v2 &&& (7 : Int32))).toInt8.toInt32).toInt8.toInt32)).set ((v6 + (1 : Int32))).toNatClampNeg ((44 : Int32).toInt8.toInt32))).1 + (1 : Int32)) + (1 : Int32)) + (1 : Int32)) ((((f3_0 ((v6 + (1 : Int32)) + (1 : Int32)) v1 ((xs_v4.set (v6).toNatClampNeg ((((48 : Int32) + (v2 &&& (7 : Int32))).toInt8.toInt32).toInt8.toInt32)).set ((v6 + (1 : Int32))).toNatClampNeg ((44 : Int32).toInt8.toInt32))).2.set ((f3_0 ((v6 + (1 : Int32)) + (1 : Int32)) v1 ((xs_v4.set (v6).toNatClampNeg ((((48 : Int32) + (v2 &&& (7 : Int32))).toInt8.toInt32).toInt8.toInt32)).set ((v6 + (1 : Int32))).toNatClampNeg ((44 : Int32).toInt8.toInt32))).1).toNatClampNeg ((58 : Int32).toInt8.toInt32)).set (((f3_0 ((v6 + (1 : Int32)) + (1 : Int32)) v1 ((xs_v4.set (v6).toNatClampNeg ((((48 : Int32) + (v2 &&& (7 : Int32))).toInt8.toInt32).toInt8.toInt32)).set ((v6 + (1 : Int32))).toNatClampNeg ((44 : Int32).toInt8.toInt32))).1 + (1 : Int32))).toNatClampNeg ((34 : Int32).toInt8.toInt32)).set ((((f3_0 ((v6 + (1 : Int32)) + (1 : Int32)) v1 ((xs_v4.set (v6).toNatClampNeg ((((48 : Int32) + (v2 &&& (7 : Int32))).toInt8.toInt32).toInt8.toInt32)).set ((v6 + (1 : Int32))).toNatClampNeg ((44 : Int32).toInt8.toInt32))).1 + (1 : Int32)) + (1 : Int32))).toNatClampNeg ((120 : Int32).toInt8.toInt32)) V_v4 g_v4 (own_mkB2 v1 v2 hB rfl).2
def f0_0 (v0 : Int32) (v1 : Int32) (v2 : Int32) (v3 : Int32) : Int32 := (if (((v2.toUInt32 >>> ((3 : Int32) &&& 31).toUInt32).toInt32) &&& (1 : Int32)) = (0 : Int32) then (f0_113 v0 v1 v2 (v3 &&& (1 : Int32)) ((f3_0 (((((((v3 &&& (1 : Int32)) + (1 : Int32)) + (1 : Int32)) + (1 : Int32)) + (1 : Int32)) + (1 : Int32)) + (1 : Int32)) v0 (((((([0, 0, 0, 0, 0, 0, 0, 0, 0, 0, 0, 0, 0, 0, 0, 0, 0, 0, 0, 0, 0, 0, 0, 0, 0, 0, 0, 0, 0, 0, 0, 0, 0, 0, 0, 0, 0, 0, 0, 0].set ((v3 &&& (1 : Int32))).toNatClampNeg ((123 : Int32).toInt8.toInt32)).set (((v3 &&& (1 : Int32)) + (1 : Int32))).toNatClampNeg ((34 : Int32).toInt8.toInt32)).set ((((v3 &&& (1 : Int32)) + (1 : Int32)) + (1 : Int32))).toNatClampNeg ((116 : Int32).toInt8.toInt32)).set (((((v3 &&& (1 : Int32)) + (1 : Int32)) + (1 : Int32)) + (1 : Int32))).toNatClampNeg ((34 : Int32).toInt8.toInt32)).set ((((((v3 &&& (1 : Int32)) + (1 : Int32)) + (1 : Int32)) + (1 : Int32)) + (1 : Int32))).toNatClampNeg ((58 : Int32).toInt8.toInt32)).set (((((((v3 &&& (1 : Int32)) + (1 : Int32)) + (1 : Int32)) + (1 : Int32)) + (1 : Int32)) + (1 : Int32))).toNatClampNeg ((123 : Int32).toInt8.toInt32))).1 + (1 : Int32)) ((f3_0 (((((((v3 &&& (1 : Int32)) + (1 : Int32)) + (1 : Int32)) + (1 : Int32)) + (1 : Int32)) + (1 : Int32)) + (1 : Int32)) v0 (((((([0, 0, 0, 0, 0, 0, 0, 0, 0, 0, 0, 0, 0, 0, 0, 0, 0, 0, 0, 0, 0, 0, 0, 0, 0, 0, 0, 0, 0, 0, 0, 0, 0, 0, 0, 0, 0, 0, 0, 0].set ((v3 &&& (1 : Int32))).toNatClampNeg ((123 : Int32).toInt8.toInt32)).set (((v3 &&& (1 : Int32)) + (1 : Int32))).toNatClampNeg ((34 : Int32).toInt8.toInt32)).set ((((v3 &&& (1 : Int32)) + (1 : Int32)) + (1 : Int32))).toNatClampNeg ((116 : Int32).toInt8.toInt32)).set (((((v3 &&& (1 : Int32)) + (1 : Int32)) + (1 : Int32)) + (1 : Int32))).toNatClampNeg ((34 : Int32).toInt8.toInt32)).set ((((((v3 &&& (1 : Int32)) + (1 : Int32)) + (1 : Int32)) + (1 : Int32)) + (1 : Int32))).toNatClampNeg ((58 : Int32).toInt8.toInt32)).set (((((((v3 &&& (1 : Int32)) + (1 : Int32)) + (1 : Int32)) + (1 : Int32)) + (1 : Int32)) + (1 : Int32))).toNatClampNeg ((123 : Int32).toInt8.toInt32))).2.set ((f3_0 (((((((v3 &&& (1 : Int32)) + (1 : Int32)) + (1 : Int32)) + (1 : Int32)) + (1 : Int32)) + (1 : Int32)) + (1 : Int32)) v0 (((((([0, 0, 0, 0, 0, 0, 0, 0, 0, 0, 0, 0, 0, 0, 0, 0, 0, 0, 0, 0, 0, 0, 0, 0, 0, 0, 0, 0, 0, 0, 0, 0, 0, 0, 0, 0, 0, 0, 0, 0].set ((v3 &&& (1 : Int32))).toNatClampNeg ((123 : Int32).toInt8.toInt32)).set (((v3 &&& (1 : Int32)) + (1 : Int32))).toNatClampNeg ((34 : Int32).toInt8.toInt32)).set ((((v3 &&& (1 : Int32)) + (1 : Int32)) + (1 : Int32))).toNatClampNeg ((116 : Int32).toInt8.toInt32)).set (((((v3 &&& (1 : Int32)) + (1 : Int32)) + (1 : Int32)) + (1 : Int32))).toNatClampNeg ((34 : Int32).toInt8.toInt32)).set ((((((v3 &&& (1 : Int32)) + (1 : Int32)) + (1 : Int32)) + (1 : Int32)) + (1 : Int32))).toNatClampNeg ((58 : Int32).toInt8.toInt32)).set (((((((v3 &&& (1 : Int32)) + (1 : Int32)) + (1 : Int32)) + (1 : Int32)) + (1 : Int32)) + (1 : Int32))).toNatClampNeg ((123 : Int32).toInt8.toInt32))).1).toNatClampNeg ((58 : Int32).toInt8.toInt32))) else (f0_113 v0 v1 v2 (v3 &&& (1 : Int32)) (((f3_0 (((((((v3 &&& (1 : Int32)) + (1 : Int32)) + (1 : Int32)) + (1 : Int32)) + (1 : Int32)) + (1 : Int32)) + (1 : Int32)) v0 (((((([0, 0, 0, 0, 0, 0, 0, 0, 0, 0, 0, 0, 0, 0, 0, 0, 0, 0, 0, 0, 0, 0, 0, 0, 0, 0, 0, 0, 0, 0, 0, 0, 0, 0, 0, 0, 0, 0, 0, 0].set ((v3 &&& (1 : Int32))).toNatClampNeg ((123 : Int32).toInt8.toInt32)).set (((v3 &&& (1 : Int32)) + (1 : Int32))).toNatClampNeg ((34 : Int32).toInt8.toInt32)).set ((((v3 &&& (1 : Int32)) + (1 : Int32)) + (1 : Int32))).toNatClampNeg ((116 : Int32).toInt8.toInt32)).set (((((v3 &&& (1 : Int32)) + (1 : Int32)) + (1 : Int32)) + (1 : Int32))).toNatClampNeg ((34 : Int32).toInt8.toInt32)).set ((((((v3 &&& (1 : Int32)) + (1 : Int32)) + (1 : Int32)) + (1 : Int32)) + (1 : Int32))).toNatClampNeg ((58 : Int32).toInt8.toInt32)).set (((((((v3 &&& (1 : Int32)) + (1 : Int32)) + (1 : Int32)) + (1 : Int32)) + (1 : Int32)) + (1 : Int32))).toNatClampNeg ((123 : Int32).toInt8.toInt32))).1 + (1 : Int32)) + (1 : Int32)) (((f3_0 (((((((v3 &&& (1 : Int32)) + (1 : Int32)) + (1 : Int32)) + (1 : Int32)) + (1 : Int32)) + (1 : Int32)) + (1 : Int32)) v0 (((((([0, 0, 0, 0, 0, 0, 0, 0, 0, 0, 0, 0, 0, 0, 0, 0, 0, 0, 0, 0, 0, 0, 0, 0, 0, 0, 0, 0, 0, 0, 0, 0, 0, 0, 0, 0, 0, 0, 0, 0].set ((v3 &&& (1 : Int32))).toNatClampNeg ((123 : Int32).toInt8.toInt32)).set (((v3 &&& (1 : Int32)) + (1 : Int32))).toNatClampNeg ((34 : Int32).toInt8.toInt32)).set ((((v3 &&& (1 : Int32)) + (1 : Int32)) + (1 : Int32))).toNatClampNeg ((116 : Int32).toInt8.toInt32)).set (((((v3 &&& (1 : Int32)) + (1 : Int32)) + (1 : Int32)) + (1 : Int32))).toNatClampNeg ((34 : Int32).toInt8.toInt32)).set ((((((v3 &&& (1 : Int32)) + (1 : Int32)) + (1 : Int32)) + (1 : Int32)) + (1 : Int32))).toNatClampNeg ((58 : Int32).toInt8.toInt32)).set (((((((v3 &&& (1 : Int32)) + (1 : Int32)) + (1 : Int32)) + (1 : Int32)) + (1 : Int32)) + (1 : Int32))).toNatClampNeg ((123 : Int32).toInt8.toInt32))).2.set ((f3_0 (((((((v3 &&& (1 : Int32)) + (1 : Int32)) + (1 : Int32)) + (1 : Int32)) + (1 : Int32)) + (1 : Int32)) + (1 : Int32)) v0 (((((([0, 0, 0, 0, 0, 0, 0, 0, 0, 0, 0, 0, 0, 0, 0, 0, 0, 0, 0, 0, 0, 0, 0, 0, 0, 0, 0, 0, 0, 0, 0, 0, 0, 0, 0, 0, 0, 0, 0, 0].set ((v3 &&& (1 : Int32))).toNatClampNeg ((123 : Int32).toInt8.toInt32)).set (((v3 &&& (1 : Int32)) + (1 : Int32))).toNatClampNeg ((34 : Int32).toInt8.toInt32)).set ((((v3 &&& (1 : Int32)) + (1 : Int32)) + (1 : Int32))).toNatClampNeg ((116 : Int32).toInt8.toInt32)).set (((((v3 &&& (1 : Int32)) + (1 : Int32)) + (1 : Int32)) + (1 : Int32))).toNatClampNeg ((34 : Int32).toInt8.toInt32)).set ((((((v3 &&& (1 : Int32)) + (1 : Int32)) + (1 : Int32)) + (1 : Int32)) + (1 : Int32))).toNatClampNeg ((58 : Int32).toInt8.toInt32)).set (((((((v3 &&& (1 : Int32)) + (1 : Int32)) + (1 : Int32)) + (1 : Int32)) + (1 : Int32)) + (1 : Int32))).toNatClampNeg ((123 : Int32).toInt8.toInt32))).1).toNatClampNeg ((58 : Int32).toInt8.toInt32)).set (((f3_0 (((((((v3 &&& (1 : Int32)) + (1 : Int32)) + (1 : Int32)) + (1 : Int32)) + (1 : Int32)) + (1 : Int32)) + (1 : Int32)) v0 (((((([0, 0, 0, 0, 0, 0, 0, 0, 0, 0, 0, 0, 0, 0, 0, 0, 0, 0, 0, 0, 0, 0, 0, 0, 0, 0, 0, 0, 0, 0, 0, 0, 0, 0, 0, 0, 0, 0, 0, 0].set ((v3 &&& (1 : Int32))).toNatClampNeg ((123 : Int32).toInt8.toInt32)).set (((v3 &&& (1 : Int32)) + (1 : Int32))).toNatClampNeg ((34 : Int32).toInt8.toInt32)).set ((((v3 &&& (1 : Int32)) + (1 : Int32)) + (1 : Int32))).toNatClampNeg ((116 : Int32).toInt8.toInt32)).set (((((v3 &&& (1 : Int32)) + (1 : Int32)) + (1 : Int32)) + (1 : Int32))).toNatClampNeg ((34 : Int32).toInt8.toInt32)).set ((((((v3 &&& (1 : Int32)) + (1 : Int32)) + (1 : Int32)) + (1 : Int32)) + (1 : Int32))).toNatClampNeg ((58 : Int32).toInt8.toInt32)).set (((((((v3 &&& (1 : Int32)) + (1 : Int32)) + (1 : Int32)) + (1 : Int32)) + (1 : Int32)) + (1 : Int32))).toNatClampNeg ((123 : Int32).toInt8.toInt32))).1 + (1 : Int32))).toNatClampNeg ((45 : Int32).toInt8.toInt32))))
set_option maxRecDepth 65536 in
set_option maxHeartbeats 4000000 in
theorem w0_0 {Z : State} {a0 : Array Value} {p : Program} {l : Launch} {e : Env} {s : State} {m : MethodId} {args : Array Value} {below : List Frame} {meth : Method} {c : Code} {T : State} {h : Heap} {n0 : Nat}  (C : own_Cx Z a0 p l e room_1 s m args below meth c "com/example/tidemark/tidemark/table/PlainLineNameLengthPinLaw" "law" code maxLocals ret) (A : own_At p l e room_1 s m args below meth c T h n0 0 0) (v0 : Int32) (v1 : Int32) (v2 : Int32) (v3 : Int32) :
    own_Go p.tables e below (T.setTop (mkF m 0 #[.val (.int v0), .val (.int v1), .val (.int v2), .val (.int v3), .unset, .unset, .unset, .unset, .unset] [])) (own_QR s n0 3 61 (own_RV (f0_0 v0 v1 v2 v3))) := by
  unfold f0_0
  refine own_bipush C A at_0 (v := 40) rfl rfl ?_
  refine own_newP C A 40 (own_w C 0 rfl) (by decide) (xs := [0, 0, 0, 0, 0, 0, 0, 0, 0, 0, 0, 0, 0, 0, 0, 0, 0, 0, 0, 0, 0, 0, 0, 0, 0, 0, 0, 0, 0, 0, 0, 0, 0, 0, 0, 0, 0, 0, 0, 0]) rfl (by decide) (by decide) rfl at_2 rfl (by decide) (by decide) (fun T h b2 e_b2 X_b2 V_b2 g_b2 A => ?_)
  refine own_astore C A at_4 rfl (l' := #[.val (.int v0), .val (.int v1), .val (.int v2), .val (.int v3), .val (.ref b2), .unset, .unset, .unset, .unset]) rfl rfl ?_
  refine own_iloadN C A at_6 rfl rfl ?_
  refine own_iconst C A at_7 (v := 1) rfl rfl ?_
  refine own_iand C A at_8 rfl ?_
  refine own_istore C A at_9 (l' := #[.val (.int v0), .val (.int v1), .val (.int v2), .val (.int v3), .val (.ref b2), .val (.int (v3 &&& (1 : Int32))), .unset, .unset, .unset]) rfl rfl ?_
  refine own_iload C A at_11 rfl rfl ?_
  refine own_istore C A at_13 (l' := #[.val (.int v0), .val (.int v1), .val (.int v2), .val (.int v3), .val (.ref b2), .val (.int (v3 &&& (1 : Int32))), .val (.int (v3 &&& (1 : Int32))), .unset, .unset]) rfl rfl ?_
  refine own_aload C A at_15 rfl rfl rfl ?_
  refine own_iload C A at_17 rfl rfl ?_
  refine own_iinc C A at_19 rfl (l' := #[.val (.int v0), .val (.int v1), .val (.int v2), .val (.int v3), .val (.ref b2), .val (.int (v3 &&& (1 : Int32))), .val (.int ((v3 &&& (1 : Int32)) + (1 : Int32))), .unset, .unset]) rfl rfl ?_
  refine own_bipush C A at_22 (v := 123) rfl rfl ?_
  refine own_bastore C A V_b2 (own_p0 (own_off v3) (by decide)) (ys := ([0, 0, 0, 0, 0, 0, 0, 0, 0, 0, 0, 0, 0, 0, 0, 0, 0, 0, 0, 0, 0, 0, 0, 0, 0, 0, 0, 0, 0, 0, 0, 0, 0, 0, 0, 0, 0, 0, 0, 0].set ((v3 &&& (1 : Int32))).toNatClampNeg ((123 : Int32).toInt8.toInt32))) rfl g_b2 at_24 rfl (fun T h Kw V_b2 A => ?_)
  refine own_aload C A at_25 rfl rfl rfl ?_
  refine own_iload C A at_27 rfl rfl ?_
  refine own_iinc C A at_29 rfl (l' := #[.val (.int v0), .val (.int v1), .val (.int v2), .val (.int v3), .val (.ref b2), .val (.int (v3 &&& (1 : Int32))), .val (.int (((v3 &&& (1 : Int32)) + (1 : Int32)) + (1 : Int32))), .unset, .unset]) rfl rfl ?_
  refine own_bipush C A at_32 (v := 34) rfl rfl ?_
  refine own_bastore C A V_b2 (own_p1 (own_off v3) (by decide)) (ys := (([0, 0, 0, 0, 0, 0, 0, 0, 0, 0, 0, 0, 0, 0, 0, 0, 0, 0, 0, 0, 0, 0, 0, 0, 0, 0, 0, 0, 0, 0, 0, 0, 0, 0, 0, 0, 0, 0, 0, 0].set ((v3 &&& (1 : Int32))).toNatClampNeg ((123 : Int32).toInt8.toInt32)).set (((v3 &&& (1 : Int32)) + (1 : Int32))).toNatClampNeg ((34 : Int32).toInt8.toInt32))) rfl g_b2 at_34 rfl (fun T h Kw V_b2 A => ?_)
  refine own_aload C A at_35 rfl rfl rfl ?_
  refine own_iload C A at_37 rfl rfl ?_
  refine own_iinc C A at_39 rfl (l' := #[.val (.int v0), .val (.int v1), .val (.int v2), .val (.int v3), .val (.ref b2), .val (.int (v3 &&& (1 : Int32))), .val (.int ((((v3 &&& (1 : Int32)) + (1 : Int32)) + (1 : Int32)) + (1 : Int32))), .unset, .unset]) rfl rfl ?_
  refine own_bipush C A at_42 (v := 116) rfl rfl ?_
  refine own_bastore C A V_b2 (own_p2 (own_off v3) (by decide)) (ys := ((([0, 0, 0, 0, 0, 0, 0, 0, 0, 0, 0, 0, 0, 0, 0, 0, 0, 0, 0, 0, 0, 0, 0, 0, 0, 0, 0, 0, 0, 0, 0, 0, 0, 0, 0, 0, 0, 0, 0, 0].set ((v3 &&& (1 : Int32))).toNatClampNeg ((123 : Int32).toInt8.toInt32)).set (((v3 &&& (1 : Int32)) + (1 : Int32))).toNatClampNeg ((34 : Int32).toInt8.toInt32)).set ((((v3 &&& (1 : Int32)) + (1 : Int32)) + (1 : Int32))).toNatClampNeg ((116 : Int32).toInt8.toInt32))) rfl g_b2 at_44 rfl (fun T h Kw V_b2 A => ?_)
  refine own_aload C A at_45 rfl rfl rfl ?_
  refine own_iload C A at_47 rfl rfl ?_
  refine own_iinc C A at_49 rfl (l' := #[.val (.int v0), .val (.int v1), .val (.int v2), .val (.int v3), .val (.ref b2), .val (.int (v3 &&& (1 : Int32))), .val (.int (((((v3 &&& (1 : Int32)) + (1 : Int32)) + (1 : Int32)) + (1 : Int32)) + (1 : Int32))), .unset, .unset]) rfl rfl ?_
  refine own_bipush C A at_52 (v := 34) rfl rfl ?_
  refine own_bastore C A V_b2 (own_p3 (own_off v3) (by decide)) (ys := (((([0, 0, 0, 0, 0, 0, 0, 0, 0, 0, 0, 0, 0, 0, 0, 0, 0, 0, 0, 0, 0, 0, 0, 0, 0, 0, 0, 0, 0, 0, 0, 0, 0, 0, 0, 0, 0, 0, 0, 0].set ((v3 &&& (1 : Int32))).toNatClampNeg ((123 : Int32).toInt8.toInt32)).set (((v3 &&& (1 : Int32)) + (1 : Int32))).toNatClampNeg ((34 : Int32).toInt8.toInt32)).set ((((v3 &&& (1 : Int32)) + (1 : Int32)) + (1 : Int32))).toNatClampNeg ((116 : Int32).toInt8.toInt32)).set (((((v3 &&& (1 : Int32)) + (1 : Int32)) + (1 : Int32)) + (1 : Int32))).toNatClampNeg ((34 : Int32).toInt8.toInt32))) rfl g_b2 at_54 rfl (fun T h Kw V_b2 A => ?_)
  refine own_aload C A at_55 rfl rfl rfl ?_
  refine own_iload C A at_57 rfl rfl ?_
  refine own_iinc C A at_59 rfl (l' := #[.val (.int v0), .val (.int v1), .val (.int v2), .val (.int v3), .val (.ref b2), .val (.int (v3 &&& (1 : Int32))), .val (.int ((((((v3 &&& (1 : Int32)) + (1 : Int32)) + (1 : Int32)) + (1 : Int32)) + (1 : Int32)) + (1 : Int32))), .unset, .unset]) rfl rfl ?_
  refine own_bipush C A at_62 (v := 58) rfl rfl ?_
  refine own_bastore C A V_b2 (own_p4 (own_off v3) (by decide)) (ys := ((((([0, 0, 0, 0, 0, 0, 0, 0, 0, 0, 0, 0, 0, 0, 0, 0, 0, 0, 0, 0, 0, 0, 0, 0, 0, 0, 0, 0, 0, 0, 0, 0, 0, 0, 0, 0, 0, 0, 0, 0].set ((v3 &&& (1 : Int32))).toNatClampNeg ((123 : Int32).toInt8.toInt32)).set (((v3 &&& (1 : Int32)) + (1 : Int32))).toNatClampNeg ((34 : Int32).toInt8.toInt32)).set ((((v3 &&& (1 : Int32)) + (1 : Int32)) + (1 : Int32))).toNatClampNeg ((116 : Int32).toInt8.toInt32)).set (((((v3 &&& (1 : Int32)) + (1 : Int32)) + (1 : Int32)) + (1 : Int32))).toNatClampNeg ((34 : Int32).toInt8.toInt32)).set ((((((v3 &&& (1 : Int32)) + (1 : Int32)) + (1 : Int32)) + (1 : Int32)) + (1 : Int32))).toNatClampNeg ((58 : Int32).toInt8.toInt32))) rfl g_b2 at_64 rfl (fun T h Kw V_b2 A => ?_)
  refine own_aload C A at_65 rfl rfl rfl ?_
  refine own_iload C A at_67 rfl rfl ?_
  refine own_iinc C A at_69 rfl (l' := #[.val (.int v0), .val (.int v1), .val (.int v2), .val (.int v3), .val (.ref b2), .val (.int (v3 &&& (1 : Int32))), .val (.int (((((((v3 &&& (1 : Int32)) + (1 : Int32)) + (1 : Int32)) + (1 : Int32)) + (1 : Int32)) + (1 : Int32)) + (1 : Int32))), .unset, .unset]) rfl rfl ?_
  refine own_bipush C A at_72 (v := 123) rfl rfl ?_
  refine own_bastore C A V_b2 (own_p5 (own_off v3) (by decide)) (ys := (((((([0, 0, 0, 0, 0, 0, 0, 0, 0, 0, 0, 0, 0, 0, 0, 0, 0, 0, 0, 0, 0, 0, 0, 0, 0, 0, 0, 0, 0, 0, 0, 0, 0, 0, 0, 0, 0, 0, 0, 0].set ((v3 &&& (1 : Int32))).toNatClampNeg ((123 : Int32).toInt8.toInt32)).set (((v3 &&& (1 : Int32)) + (1 : Int32))).toNatClampNeg ((34 : Int32).toInt8.toInt32)).set ((((v3 &&& (1 : Int32)) + (1 : Int32)) + (1 : Int32))).toNatClampNeg ((116 : Int32).toInt8.toInt32)).set (((((v3 &&& (1 : Int32)) + (1 : Int32)) + (1 : Int32)) + (1 : Int32))).toNatClampNeg ((34 : Int32).toInt8.toInt32)).set ((((((v3 &&& (1 : Int32)) + (1 : Int32)) + (1 : Int32)) + (1 : Int32)) + (1 : Int32))).toNatClampNeg ((58 : Int32).toInt8.toInt32)).set (((((((v3 &&& (1 : Int32)) + (1 : Int32)) + (1 : Int32)) + (1 : Int32)) + (1 : Int32)) + (1 : Int32))).toNatClampNeg ((123 : Int32).toInt8.toInt32))) rfl g_b2 at_74 rfl (fun T h Kw V_b2 A => ?_)
  refine own_aload C A at_75 rfl rfl rfl ?_
  refine own_iload C A at_77 rfl rfl ?_
  refine own_iloadN C A at_79 rfl rfl ?_
  refine own_callS C A 0 [(.ref b2), (.int (((((((v3 &&& (1 : Int32)) + (1 : Int32)) + (1 : Int32)) + (1 : Int32)) + (1 : Int32)) + (1 : Int32)) + (1 : Int32))), (.int v0)] [] (own_w C 1 rfl) (own_w C 2 rfl) (own_w C 3 rfl) (own_w C 4 rfl) (by decide) (rm3 l Z a0 C.2.2.2.2.2.2.2.2 [] b2 (((((((v3 &&& (1 : Int32)) + (1 : Int32)) + (1 : Int32)) + (1 : Int32)) + (1 : Int32)) + (1 : Int32)) + (1 : Int32)) v0 (((((([0, 0, 0, 0, 0, 0, 0, 0, 0, 0, 0, 0, 0, 0, 0, 0, 0, 0, 0, 0, 0, 0, 0, 0, 0, 0, 0, 0, 0, 0, 0, 0, 0, 0, 0, 0, 0, 0, 0, 0].set ((v3 &&& (1 : Int32))).toNatClampNeg ((123 : Int32).toInt8.toInt32)).set (((v3 &&& (1 : Int32)) + (1 : Int32))).toNatClampNeg ((34 : Int32).toInt8.toInt32)).set ((((v3 &&& (1 : Int32)) + (1 : Int32)) + (1 : Int32))).toNatClampNeg ((116 : Int32).toInt8.toInt32)).set (((((v3 &&& (1 : Int32)) + (1 : Int32)) + (1 : Int32)) + (1 : Int32))).toNatClampNeg ((34 : Int32).toInt8.toInt32)).set ((((((v3 &&& (1 : Int32)) + (1 : Int32)) + (1 : Int32)) + (1 : Int32)) + (1 : Int32))).toNatClampNeg ((58 : Int32).toInt8.toInt32)).set (((((((v3 &&& (1 : Int32)) + (1 : Int32)) + (1 : Int32)) + (1 : Int32)) + (1 : Int32)) + (1 : Int32))).toNatClampNeg ((123 : Int32).toInt8.toInt32)) _ _ (own_size A) V_b2 g_b2 (own_p6 (own_off v3) (by decide))) (by decide) (by decide) (by decide) (by decide) own_pd6 rfl rfl rfl (Nat.le_of_eq rfl) rfl at_80 rfl (fun v T h hP A => ?_)
  replace A := own_more A (kc' := 1) (ks' := 40) (by decide) (by decide)
  obtain ⟨rfl, Kc, V_b2⟩ := hP
  show own_Go p.tables e below (T.setTop (mkF m 83 #[.val (.int v0), .val (.int v1), .val (.int v2), .val (.int v3), .val (.ref b2), .val (.int (v3 &&& (1 : Int32))), .val (.int (((((((v3 &&& (1 : Int32)) + (1 : Int32)) + (1 : Int32)) + (1 : Int32)) + (1 : Int32)) + (1 : Int32)) + (1 : Int32))), .unset, .unset] [(.int (f3_0 (((((((v3 &&& (1 : Int32)) + (1 : Int32)) + (1 : Int32)) + (1 : Int32)) + (1 : Int32)) + (1 : Int32)) + (1 : Int32)) v0 (((((([0, 0, 0, 0, 0, 0, 0, 0, 0, 0, 0, 0, 0, 0, 0, 0, 0, 0, 0, 0, 0, 0, 0, 0, 0, 0, 0, 0, 0, 0, 0, 0, 0, 0, 0, 0, 0, 0, 0, 0].set ((v3 &&& (1 : Int32))).toNatClampNeg ((123 : Int32).toInt8.toInt32)).set (((v3 &&& (1 : Int32)) + (1 : Int32))).toNatClampNeg ((34 : Int32).toInt8.toInt32)).set ((((v3 &&& (1 : Int32)) + (1 : Int32)) + (1 : Int32))).toNatClampNeg ((116 : Int32).toInt8.toInt32)).set (((((v3 &&& (1 : Int32)) + (1 : Int32)) + (1 : Int32)) + (1 : Int32))).toNatClampNeg ((34 : Int32).toInt8.toInt32)).set ((((((v3 &&& (1 : Int32)) + (1 : Int32)) + (1 : Int32)) + (1 : Int32)) + (1 : Int32))).toNatClampNeg ((58 : Int32).toInt8.toInt32)).set (((((((v3 &&& (1 : Int32)) + (1 : Int32)) + (1 : Int32)) + (1 : Int32)) + (1 : Int32)) + (1 : Int32))).toNatClampNeg ((123 : Int32).toInt8.toInt32))).1)])) _
  refine own_istore C A at_83 (l' := #[.val (.int v0), .val (.int v1), .val (.int v2), .val (.int v3), .val (.ref b2), .val (.int (v3 &&& (1 : Int32))), .val (.int (f3_0 (((((((v3 &&& (1 : Int32)) + (1 : Int32)) + (1 : Int32)) + (1 : Int32)) + (1 : Int32)) + (1 : Int32)) + (1 : Int32)) v0 (((((([0, 0, 0, 0, 0, 0, 0, 0, 0, 0, 0, 0, 0, 0, 0, 0, 0, 0, 0, 0, 0, 0, 0, 0, 0, 0, 0, 0, 0, 0, 0, 0, 0, 0, 0, 0, 0, 0, 0, 0].set ((v3 &&& (1 : Int32))).toNatClampNeg ((123 : Int32).toInt8.toInt32)).set (((v3 &&& (1 : Int32)) + (1 : Int32))).toNatClampNeg ((34 : Int32).toInt8.toInt32)).set ((((v3 &&& (1 : Int32)) + (1 : Int32)) + (1 : Int32))).toNatClampNeg ((116 : Int32).toInt8.toInt32)).set (((((v3 &&& (1 : Int32)) + (1 : Int32)) + (1 : Int32)) + (1 : Int32))).toNatClampNeg ((34 : Int32).toInt8.toInt32)).set ((((((v3 &&& (1 : Int32)) + (1 : Int32)) + (1 : Int32)) + (1 : Int32)) + (1 : Int32))).toNatClampNeg ((58 : Int32).toInt8.toInt32)).set (((((((v3 &&& (1 : Int32)) + (1 : Int32)) + (1 : Int32)) + (1 : Int32)) + (1 : Int32)) + (1 : Int32))).toNatClampNeg ((123 : Int32).toInt8.toInt32))).1), .unset, .unset]) rfl rfl ?_
  refine own_aload C A at_85 rfl rfl rfl ?_
  refine own_iload C A at_87 rfl rfl ?_
  refine own_iinc C A at_89 rfl (l' := #[.val (.int v0), .val (.int v1), .val (.int v2), .val (.int v3), .val (.ref b2), .val (.int (v3 &&& (1 : Int32))), .val (.int ((f3_0 (((((((v3 &&& (1 : Int32)) + (1 : Int32)) + (1 : Int32)) + (1 : Int32)) + (1 : Int32)) + (1 : Int32)) + (1 : Int32)) v0 (((((([0, 0, 0, 0, 0, 0, 0, 0, 0, 0, 0, 0, 0, 0, 0, 0, 0, 0, 0, 0, 0, 0, 0, 0, 0, 0, 0, 0, 0, 0, 0, 0, 0, 0, 0, 0, 0, 0, 0, 0].set ((v3 &&& (1 : Int32))).toNatClampNeg ((123 : Int32).toInt8.toInt32)).set (((v3 &&& (1 : Int32)) + (1 : Int32))).toNatClampNeg ((34 : Int32).toInt8.toInt32)).set ((((v3 &&& (1 : Int32)) + (1 : Int32)) + (1 : Int32))).toNatClampNeg ((116 : Int32).toInt8.toInt32)).set (((((v3 &&& (1 : Int32)) + (1 : Int32)) + (1 : Int32)) + (1 : Int32))).toNatClampNeg ((34 : Int32).toInt8.toInt32)).set ((((((v3 &&& (1 : Int32)) + (1 : Int32)) + (1 : Int32)) + (1 : Int32)) + (1 : Int32))).toNatClampNeg ((58 : Int32).toInt8.toInt32)).set (((((((v3 &&& (1 : Int32)) + (1 : Int32)) + (1 : Int32)) + (1 : Int32)) + (1 : Int32)) + (1 : Int32))).toNatClampNeg ((123 : Int32).toInt8.toInt32))).1 + (1 : Int32))), .unset, .unset]) rfl rfl ?_
  refine own_bipush C A at_92 (v := 58) rfl rfl ?_
  refine own_bastore C A V_b2 (own_p0 (own_nmB (b' := 15) (own_p6 (b' := 8) (own_off v3) (by decide)) (by decide)) (by decide)) (ys := ((f3_0 (((((((v3 &&& (1 : Int32)) + (1 : Int32)) + (1 : Int32)) + (1 : Int32)) + (1 : Int32)) + (1 : Int32)) + (1 : Int32)) v0 (((((([0, 0, 0, 0, 0, 0, 0, 0, 0, 0, 0, 0, 0, 0, 0, 0, 0, 0, 0, 0, 0, 0, 0, 0, 0, 0, 0, 0, 0, 0, 0, 0, 0, 0, 0, 0, 0, 0, 0, 0].set ((v3 &&& (1 : Int32))).toNatClampNeg ((123 : Int32).toInt8.toInt32)).set (((v3 &&& (1 : Int32)) + (1 : Int32))).toNatClampNeg ((34 : Int32).toInt8.toInt32)).set ((((v3 &&& (1 : Int32)) + (1 : Int32)) + (1 : Int32))).toNatClampNeg ((116 : Int32).toInt8.toInt32)).set (((((v3 &&& (1 : Int32)) + (1 : Int32)) + (1 : Int32)) + (1 : Int32))).toNatClampNeg ((34 : Int32).toInt8.toInt32)).set ((((((v3 &&& (1 : Int32)) + (1 : Int32)) + (1 : Int32)) + (1 : Int32)) + (1 : Int32))).toNatClampNeg ((58 : Int32).toInt8.toInt32)).set (((((((v3 &&& (1 : Int32)) + (1 : Int32)) + (1 : Int32)) + (1 : Int32)) + (1 : Int32)) + (1 : Int32))).toNatClampNeg ((123 : Int32).toInt8.toInt32))).2.set ((f3_0 (((((((v3 &&& (1 : Int32)) + (1 : Int32)) + (1 : Int32)) + (1 : Int32)) + (1 : Int32)) + (1 : Int32)) + (1 : Int32)) v0 (((((([0, 0, 0, 0, 0, 0, 0, 0, 0, 0, 0, 0, 0, 0, 0, 0, 0, 0, 0, 0, 0, 0, 0, 0, 0, 0, 0, 0, 0, 0, 0, 0, 0, 0, 0, 0, 0, 0, 0, 0].set ((v3 &&& (1 : Int32))).toNatClampNeg ((123 : Int32).toInt8.toInt32)).set (((v3 &&& (1 : Int32)) + (1 : Int32))).toNatClampNeg ((34 : Int32).toInt8.toInt32)).set ((((v3 &&& (1 : Int32)) + (1 : Int32)) + (1 : Int32))).toNatClampNeg ((116 : Int32).toInt8.toInt32)).set (((((v3 &&& (1 : Int32)) + (1 : Int32)) + (1 : Int32)) + (1 : Int32))).toNatClampNeg ((34 : Int32).toInt8.toInt32)).set ((((((v3 &&& (1 : Int32)) + (1 : Int32)) + (1 : Int32)) + (1 : Int32)) + (1 : Int32))).toNatClampNeg ((58 : Int32).toInt8.toInt32)).set (((((((v3 &&& (1 : Int32)) + (1 : Int32)) + (1 : Int32)) + (1 : Int32)) + (1 : Int32)) + (1 : Int32))).toNatClampNeg ((123 : Int32).toInt8.toInt32))).1).toNatClampNeg ((58 : Int32).toInt8.toInt32))) rfl g_b2 at_94 rfl (fun T h Kw V_b2 A => ?_)
  refine own_iloadN C A at_95 rfl rfl ?_
  refine own_iconst C A at_96 (v := 3) rfl rfl ?_
  refine own_iushr C A at_97 rfl ?_
  refine own_iconst C A at_98 (v := 1) rfl rfl ?_
  refine own_iand C A at_99 rfl ?_
  refine own_ite (fun hc100 => ?_) (fun hc100 => ?_)
  · refine own_ifY C A at_100 (Jvm.Free.XT.i0_eq_t hc100) (by decide) (q := 113) (by decide) ?_
    exact w0_113 C A v0 v1 v2 (v3 &&& (1 : Int32)) ((f3_0 (((((((v3 &&& (1 : Int32)) + (1 : Int32)) + (1 : Int32)) + (1 : Int32)) + (1 : Int32)) + (1 : Int32)) + (1 : Int32)) v0 (((((([0, 0, 0, 0, 0, 0, 0, 0, 0, 0, 0, 0, 0, 0, 0, 0, 0, 0, 0, 0, 0, 0, 0, 0, 0, 0, 0, 0, 0, 0, 0, 0, 0, 0, 0, 0, 0, 0, 0, 0].set ((v3 &&& (1 : Int32))).toNatClampNeg ((123 : Int32).toInt8.toInt32)).set (((v3 &&& (1 : Int32)) + (1 : Int32))).toNatClampNeg ((34 : Int32).toInt8.toInt32)).set ((((v3 &&& (1 : Int32)) + (1 : Int32)) + (1 : Int32))).toNatClampNeg ((116 : Int32).toInt8.toInt32)).set (((((v3 &&& (1 : Int32)) + (1 : Int32)) + (1 : Int32)) + (1 : Int32))).toNatClampNeg ((34 : Int32).toInt8.toInt32)).set ((((((v3 &&& (1 : Int32)) + (1 : Int32)) + (1 : Int32)) + (1 : Int32)) + (1 : Int32))).toNatClampNeg ((58 : Int32).toInt8.toInt32)).set (((((((v3 &&& (1 : Int32)) + (1 : Int32)) + (1 : Int32)) + (1 : Int32)) + (1 : Int32)) + (1 : Int32))).toNatClampNeg ((123 : Int32).toInt8.toInt32))).1 + (1 : Int32)) ((f3_0 (((((((v3 &&& (1 : Int32)) + (1 : Int32)) + (1 : Int32)) + (1 : Int32)) + (1 : Int32)) + (1 : Int32)) + (1 : Int32)) v0 (((((([0, 0, 0, 0, 0, 0, 0, 0, 0, 0, 0, 0, 0, 0, 0, 0, 0, 0, 0, 0, 0, 0, 0, 0, 0, 0, 0, 0, 0, 0, 0, 0, 0, 0, 0, 0, 0, 0, 0, 0].set ((v3 &&& (1 : Int32))).toNatClampNeg ((123 : Int32).toInt8.toInt32)).set (((v3 &&& (1 : Int32)) + (1 : Int32))).toNatClampNeg ((34 : Int32).toInt8.toInt32)).set ((((v3 &&& (1 : Int32)) + (1 : Int32)) + (1 : Int32))).toNatClampNeg ((116 : Int32).toInt8.toInt32)).set (((((v3 &&& (1 : Int32)) + (1 : Int32)) + (1 : Int32)) + (1 : Int32))).toNatClampNeg ((34 : Int32).toInt8.toInt32)).set ((((((v3 &&& (1 : Int32)) + (1 : Int32)) + (1 : Int32)) + (1 : Int32)) + (1 : Int32))).toNatClampNeg ((58 : Int32).toInt8.toInt32)).set (((((((v3 &&& (1 : Int32)) + (1 : Int32)) + (1 : Int32)) + (1 : Int32)) + (1 : Int32)) + (1 : Int32))).toNatClampNeg ((123 : Int32).toInt8.toInt32))).2.set ((f3_0 (((((((v3 &&& (1 : Int32)) + (1 : Int32)) + (1 : Int32)) + (1 : Int32)) + (1 : Int32)) + (1 : Int32)) + (1 : Int32)) v0 (((((([0, 0, 0, 0, 0, 0, 0, 0, 0, 0, 0, 0, 0, 0, 0, 0, 0, 0, 0, 0, 0, 0, 0, 0, 0, 0, 0, 0, 0, 0, 0, 0, 0, 0, 0, 0, 0, 0, 0, 0].set ((v3 &&& (1 : Int32))).toNatClampNeg ((123 : Int32).toInt8.toInt32)).set (((v3 &&& (1 : Int32)) + (1 : Int32))).toNatClampNeg ((34 : Int32).toInt8.toInt32)).set ((((v3 &&& (1 : Int32)) + (1 : Int32)) + (1 : Int32))).toNatClampNeg ((116 : Int32).toInt8.toInt32)).set (((((v3 &&& (1 : Int32)) + (1 : Int32)) + (1 : Int32)) + (1 : Int32))).toNatClampNeg ((34 : Int32).toInt8.toInt32)).set ((((((v3 &&& (1 : Int32)) + (1 : Int32)) + (1 : Int32)) + (1 : Int32)) + (1 : Int32))).toNatClampNeg ((58 : Int32).toInt8.toInt32)).set (((((((v3 &&& (1 : Int32)) + (1 : Int32)) + (1 : Int32)) + (1 : Int32)) + (1 : Int32)) + (1 : Int32))).toNatClampNeg ((123 : Int32).toInt8.toInt32))).1).toNatClampNeg ((58 : Int32).toInt8.toInt32)) V_b2 g_b2 (own_mkB1 (own_put 58 (own_name v0 (own_put 123 (own_put 58 (own_put 34 (own_put 116 (own_put 34 (own_put 123 (own_st v3) (by decide) (by decide)) (by decide) (by decide)) (by decide) (by decide)) (by decide) (by decide)) (by decide) (by decide)) (by decide) (by decide)) (by decide)) (by decide) (by decide))).1
  · refine own_ifN C A at_100 (Jvm.Free.XT.i0_eq_f hc100) rfl ?_
    refine own_aload C A at_103 rfl rfl rfl ?_
    refine own_iload C A at_105 rfl rfl ?_
    refine own_iinc C A at_107 rfl (l' := #[.val (.int v0), .val (.int v1), .val (.int v2), .val (.int v3), .val (.ref b2), .val (.int (v3 &&& (1 : Int32))), .val (.int (((f3_0 (((((((v3 &&& (1 : Int32)) + (1 : Int32)) + (1 : Int32)) + (1 : Int32)) + (1 : Int32)) + (1 : Int32)) + (1 : Int32)) v0 (((((([0, 0, 0, 0, 0, 0, 0, 0, 0, 0, 0, 0, 0, 0, 0, 0, 0, 0, 0, 0, 0, 0, 0, 0, 0, 0, 0, 0, 0, 0, 0, 0, 0, 0, 0, 0, 0, 0, 0, 0].set ((v3 &&& (1 : Int32))).toNatClampNeg ((123 : Int32).toInt8.toInt32)).set (((v3 &&& (1 : Int32)) + (1 : Int32))).toNatClampNeg ((34 : Int32).toInt8.toInt32)).set ((((v3 &&& (1 : Int32)) + (1 : Int32)) + (1 : Int32))).toNatClampNeg ((116 : Int32).toInt8.toInt32)).set (((((v3 &&& (1 : Int32)) + (1 : Int32)) + (1 : Int32)) + (1 : Int32))).toNatClampNeg ((34 : Int32).toInt8.toInt32)).set ((((((v3 &&& (1 : Int32)) + (1 : Int32)) + (1 : Int32)) + (1 : Int32)) + (1 : Int32))).toNatClampNeg ((58 : Int32).toInt8.toInt32)).set (((((((v3 &&& (1 : Int32)) + (1 : Int32)) + (1 : Int32)) + (1 : Int32)) + (1 : Int32)) + (1 : Int32))).toNatClampNeg ((123 : Int32).toInt8.toInt32))).1 + (1 : Int32)) + (1 : Int32))), .unset, .unset]) rfl rfl ?_
    refine own_bipush C A at_110 (v := 45) rfl rfl ?_
    refine own_bastore C A V_b2 (own_p1 (own_nmB (b' := 15) (own_p6 (b' := 8) (own_off v3) (by decide)) (by decide)) (by decide)) (ys := (((f3_0 (((((((v3 &&& (1 : Int32)) + (1 : Int32)) + (1 : Int32)) + (1 : Int32)) + (1 : Int32)) + (1 : Int32)) + (1 : Int32)) v0 (((((([0, 0, 0, 0, 0, 0, 0, 0, 0, 0, 0, 0, 0, 0, 0, 0, 0, 0, 0, 0, 0, 0, 0, 0, 0, 0, 0, 0, 0, 0, 0, 0, 0, 0, 0, 0, 0, 0, 0, 0].set ((v3 &&& (1 : Int32))).toNatClampNeg ((123 : Int32).toInt8.toInt32)).set (((v3 &&& (1 : Int32)) + (1 : Int32))).toNatClampNeg ((34 : Int32).toInt8.toInt32)).set ((((v3 &&& (1 : Int32)) + (1 : Int32)) + (1 : Int32))).toNatClampNeg ((116 : Int32).toInt8.toInt32)).set (((((v3 &&& (1 : Int32)) + (1 : Int32)) + (1 : Int32)) + (1 : Int32))).toNatClampNeg ((34 : Int32).toInt8.toInt32)).set ((((((v3 &&& (1 : Int32)) + (1 : Int32)) + (1 : Int32)) + (1 : Int32)) + (1 : Int32))).toNatClampNeg ((58 : Int32).toInt8.toInt32)).set (((((((v3 &&& (1 : Int32)) + (1 : Int32)) + (1 : Int32)) + (1 : Int32)) + (1 : Int32)) + (1 : Int32))).toNatClampNeg ((123 : Int32).toInt8.toInt32))).2.set ((f3_0 (((((((v3 &&& (1 : Int32)) + (1 : Int32)) + (1 : Int32)) + (1 : Int32)) + (1 : Int32)) + (1 : Int32)) + (1 : Int32)) v0 (((((([0, 0, 0, 0, 0, 0, 0, 0, 0, 0, 0, 0, 0, 0, 0, 0, 0, 0, 0, 0, 0, 0, 0, 0, 0, 0, 0, 0, 0, 0, 0, 0, 0, 0, 0, 0, 0, 0, 0, 0].set ((v3 &&& (1 : Int32))).toNatClampNeg ((123 : Int32).toInt8.toInt32)).set (((v3 &&& (1 : Int32)) + (1 : Int32))).toNatClampNeg ((34 : Int32).toInt8.toInt32)).set ((((v3 &&& (1 : Int32)) + (1 : Int32)) + (1 : Int32))).toNatClampNeg ((116 : Int32).toInt8.toInt32)).set (((((v3 &&& (1 : Int32)) + (1 : Int32)) + (1 : Int32)) + (1 : Int32))).toNatClampNeg ((34 : Int32).toInt8.toInt32)).set ((((((v3 &&& (1 : Int32)) + (1 : Int32)) + (1 : Int32)) + (1 : Int32)) + (1 : Int32))).toNatClampNeg ((58 : Int32).toInt8.toInt32)).set (((((((v3 &&& (1 : Int32)) + (1 : Int32)) + (1 : Int32)) + (1 : Int32)) + (1 : Int32)) + (1 : Int32))).toNatClampNeg ((123 : Int32).toInt8.toInt32))).1).toNatClampNeg ((58 : Int32).toInt8.toInt32)).set (((f3_0 (((((((v3 &&& (1 : Int32)) + (1 : Int32)) + (1 : Int32)) + (1 : Int32)) + (1 : Int32)) + (1 : Int32)) + (1 : Int32)) v0 (((((([0, 0, 0, 0, 0, 0, 0, 0, 0, 0, 0, 0, 0, 0, 0, 0, 0, 0, 0, 0, 0, 0, 0, 0, 0, 0, 0, 0, 0, 0, 0, 0, 0, 0, 0, 0, 0, 0, 0, 0].set ((v3 &&& (1 : Int32))).toNatClampNeg ((123 : Int32).toInt8.toInt32)).set (((v3 &&& (1 : Int32)) + (1 : Int32))).toNatClampNeg ((34 : Int32).toInt8.toInt32)).set ((((v3 &&& (1 : Int32)) + (1 : Int32)) + (1 : Int32))).toNatClampNeg ((116 : Int32).toInt8.toInt32)).set (((((v3 &&& (1 : Int32)) + (1 : Int32)) + (1 : Int32)) + (1 : Int32))).toNatClampNeg ((34 : Int32).toInt8.toInt32)).set ((((((v3 &&& (1 : Int32)) + (1 : Int32)) + (1 : Int32)) + (1 : Int32)) + (1 : Int32))).toNatClampNeg ((58 : Int32).toInt8.toInt32)).set (((((((v3 &&& (1 : Int32)) + (1 : Int32)) + (1 : Int32)) + (1 : Int32)) + (1 : Int32)) + (1 : Int32))).toNatClampNeg ((123 : Int32).toInt8.toInt32))).1 + (1 : Int32))).toNatClampNeg ((45 : Int32).toInt8.toInt32))) rfl g_b2 at_112 rfl (fun T h Kw V_b2 A => ?_)
    exact w0_113 C A v0 v1 v2 (v3 &&& (1 : Int32)) (((f3_0 (((((((v3 &&& (1 : Int32)) + (1 : Int32)) + (1 : Int32)) + (1 : Int32)) + (1 : Int32)) + (1 : Int32)) + (1 : Int32)) v0 (((((([0, 0, 0, 0, 0, 0, 0, 0, 0, 0, 0, 0, 0, 0, 0, 0, 0, 0, 0, 0, 0, 0, 0, 0, 0, 0, 0, 0, 0, 0, 0, 0, 0, 0, 0, 0, 0, 0, 0, 0].set ((v3 &&& (1 : Int32))).toNatClampNeg ((123 : Int32).toInt8.toInt32)).set (((v3 &&& (1 : Int32)) + (1 : Int32))).toNatClampNeg ((34 : Int32).toInt8.toInt32)).set ((((v3 &&& (1 : Int32)) + (1 : Int32)) + (1 : Int32))).toNatClampNeg ((116 : Int32).toInt8.toInt32)).set (((((v3 &&& (1 : Int32)) + (1 : Int32)) + (1 : Int32)) + (1 : Int32))).toNatClampNeg ((34 : Int32).toInt8.toInt32)).set ((((((v3 &&& (1 : Int32)) + (1 : Int32)) + (1 : Int32)) + (1 : Int32)) + (1 : Int32))).toNatClampNeg ((58 : Int32).toInt8.toInt32)).set (((((((v3 &&& (1 : Int32)) + (1 : Int32)) + (1 : Int32)) + (1 : Int32)) + (1 : Int32)) + (1 : Int32))).toNatClampNeg ((123 : Int32).toInt8.toInt32))).1 + (1 : Int32)) + (1 : Int32)) (((f3_0 (((((((v3 &&& (1 : Int32)) + (1 : Int32)) + (1 : Int32)) + (1 : Int32)) + (1 : Int32)) + (1 : Int32)) + (1 : Int32)) v0 (((((([0, 0, 0, 0, 0, 0, 0, 0, 0, 0, 0, 0, 0, 0, 0, 0, 0, 0, 0, 0, 0, 0, 0, 0, 0, 0, 0, 0, 0, 0, 0, 0, 0, 0, 0, 0, 0, 0, 0, 0].set ((v3 &&& (1 : Int32))).toNatClampNeg ((123 : Int32).toInt8.toInt32)).set (((v3 &&& (1 : Int32)) + (1 : Int32))).toNatClampNeg ((34 : Int32).toInt8.toInt32)).set ((((v3 &&& (1 : Int32)) + (1 : Int32)) + (1 : Int32))).toNatClampNeg ((116 : Int32).toInt8.toInt32)).set (((((v3 &&& (1 : Int32)) + (1 : Int32)) + (1 : Int32)) + (1 : Int32))).toNatClampNeg ((34 : Int32).toInt8.toInt32)).set ((((((v3 &&& (1 : Int32)) + (1 : Int32)) + (1 : Int32)) + (1 : Int32)) + (1 : Int32))).toNatClampNeg ((58 : Int32).toInt8.toInt32)).set (((((((v3 &&& (1 : Int32)) + (1 : Int32)) + (1 : Int32)) + (1 : Int32)) + (1 : Int32)) + (1 : Int32))).toNatClampNeg ((123 : Int32).toInt8.toInt32))).2.set ((f3_0 (((((((v3 &&& (1 : Int32)) + (1 : Int32)) + (1 : Int32)) + (1 : Int32)) + (1 : Int32)) + (1 : Int32)) + (1 : Int32)) v0 (((((([0, 0, 0, 0, 0, 0, 0, 0, 0, 0, 0, 0, 0, 0, 0, 0, 0, 0, 0, 0, 0, 0, 0, 0, 0, 0, 0, 0, 0, 0, 0, 0, 0, 0, 0, 0, 0, 0, 0, 0].set ((v3 &&& (1 : Int32))).toNatClampNeg ((123 : Int32).toInt8.toInt32)).set (((v3 &&& (1 : Int32)) + (1 : Int32))).toNatClampNeg ((34 : Int32).toInt8.toInt32)).set ((((v3 &&& (1 : Int32)) + (1 : Int32)) + (1 : Int32))).toNatClampNeg ((116 : Int32).toInt8.toInt32)).set (((((v3 &&& (1 : Int32)) + (1 : Int32)) + (1 : Int32)) + (1 : Int32))).toNatClampNeg ((34 : Int32).toInt8.toInt32)).set ((((((v3 &&& (1 : Int32)) + (1 : Int32)) + (1 : Int32)) + (1 : Int32)) + (1 : Int32))).toNatClampNeg ((58 : Int32).toInt8.toInt32)).set (((((((v3 &&& (1 : Int32)) + (1 : Int32)) + (1 : Int32)) + (1 : Int32)) + (1 : Int32)) + (1 : Int32))).toNatClampNeg ((123 : Int32).toInt8.toInt32))).1).toNatClampNeg ((58 : Int32).toInt8.toInt32)).set (((f3_0 (((((((v3 &&& (1 : Int32)) + (1 : Int32)) + (1 : Int32)) + (1 : Int32)) + (1 : Int32)) + (1 : Int32)) + (1 : Int32)) v0 (((((([0, 0, 0, 0, 0, 0, 0, 0, 0, 0, 0, 0, 0, 0, 0, 0, 0, 0, 0, 0, 0, 0, 0, 0, 0, 0, 0, 0, 0, 0, 0, 0, 0, 0, 0, 0, 0, 0, 0, 0].set ((v3 &&& (1 : Int32))).toNatClampNeg ((123 : Int32).toInt8.toInt32)).set (((v3 &&& (1 : Int32)) + (1 : Int32))).toNatClampNeg ((34 : Int32).toInt8.toInt32)).set ((((v3 &&& (1 : Int32)) + (1 : Int32)) + (1 : Int32))).toNatClampNeg ((116 : Int32).toInt8.toInt32)).set (((((v3 &&& (1 : Int32)) + (1 : Int32)) + (1 : Int32)) + (1 : Int32))).toNatClampNeg ((34 : Int32).toInt8.toInt32)).set ((((((v3 &&& (1 : Int32)) + (1 : Int32)) + (1 : Int32)) + (1 : Int32)) + (1 : Int32))).toNatClampNeg ((58 : Int32).toInt8.toInt32)).set (((((((v3 &&& (1 : Int32)) + (1 : Int32)) + (1 : Int32)) + (1 : Int32)) + (1 : Int32)) + (1 : Int32))).toNatClampNeg ((123 : Int32).toInt8.toInt32))).1 + (1 : Int32))).toNatClampNeg ((45 : Int32).toInt8.toInt32)) V_b2 g_b2 (own_mkB1 (own_put 58 (own_name v0 (own_put 123 (own_put 58 (own_put 34 (own_put 116 (own_put 34 (own_put 123 (own_st v3) (by decide) (by decide)) (by decide) (by decide)) (by decide) (by decide)) (by decide) (by decide)) (by decide) (by decide)) (by decide) (by decide)) (by decide)) (by decide) (by decide))).2
theorem own_ef0 (m : MethodId) (v0 : Int32) (v1 : Int32) (v2 : Int32) (v3 : Int32) : entryFrame m #[(.int v0), (.int v1), (.int v2), (.int v3)] maxLocals = mkF m 0 #[.val (.int v0), .val (.int v1), .val (.int v2), .val (.int v3), .unset, .unset, .unset, .unset, .unset] [] := by first | (simp [entryFrame, mkF, argsToLocals, Value.category, maxLocals]; done) | rfl
theorem rm0 (l : Launch) (Z : State) (a0 : Array Value) (hw : ∀ d ∈ tables_1, d.before a0 Z = true) (ws : List Jvm.Cond) (v0 : Int32) (v1 : Int32) (v2 : Int32) (v3 : Int32) (h : Heap) (n0 : Nat) (hn : n0 ≤ h.size) :
    MetFree l x (head1 (Jvm.Cond.code x code maxLocals ret :: ws) room_1) (fun a U => a = #[(.int v0), (.int v1), (.int v2), (.int v3)] ∧ Z.Warmed39 U.vm ∧ U.heap = h) (fun _ _ _ _ _ => True) (fun _ U o U' => own_QR U n0 3 61 (own_RV (f0_0 v0 v1 v2 v3)) o U') :=
  own_met (plainFor_of_name (by first | (simp [plainName, overriddenIn, x]; done) | decide +kernel)) hw hn (fun m => own_ef0 m v0 v1 v2 v3) (fun p e s m below meth c T C A => w0_0 C A v0 v1 v2 v3)
theorem own_187 {v0 v1 v5 v6 : Int32} {xs : List Int32} (hB : own_B2 v0 v1 v5 v6 xs) : f0_187 v0 v1 v5 v6 xs = 1 := by
  have hp := own_pack hB
  have la := own_abl v0
  have lb := own_abl v1
  unfold f0_187
  rw [own_len v0, own_len v1]
  revert hp
  generalize (((xs.set (v6).toNatClampNeg ((34 : Int32).toInt8.toInt32)).set ((v6 + (1 : Int32))).toNatClampNeg ((125 : Int32).toInt8.toInt32)).set (((v6 + (1 : Int32)) + (1 : Int32))).toNatClampNeg ((125 : Int32).toInt8.toInt32)) = ys
  generalize (own_cs v0 ++ own_wd v0).length = A at *
  generalize (own_cs v1 ++ own_wd v1).length = B at *
  rintro ⟨o, g, x, e, ho, hg, hx, hv5, hP, he, r0, t1, r1, r2, r3, t2, r4, ⟨c, r5, r5'⟩, n1, r6, t3, r7, r8, t4, r9, r10⟩
  have hsum : own_I o + (own_I e - own_I o) = own_I e := by rw [Int32.add_comm, Int32.sub_add_cancel]
  rw [hP, hv5]
  have a1 : (f14_0 (own_I o) (own_I e - own_I o) [0, 0, 0, 0, 0, 0, 0, 0, 0, 0, 0, 0, 0, 0, 0, 0] ys).1 = 1 := rfl
  have a2 : f12_0 (f14_0 (own_I o) (own_I e - own_I o) [0, 0, 0, 0, 0, 0, 0, 0, 0, 0, 0, 0, 0, 0, 0, 0] ys).2.2.2.1 = 2 := rfl
  have a3 : f13_0 0 (f14_0 (own_I o) (own_I e - own_I o) [0, 0, 0, 0, 0, 0, 0, 0, 0, 0, 0, 0, 0, 0, 0, 0] ys).2.2.2.2 = own_I A := by
    show ((f10_0 ((f10_0 (own_I o + (1 : Int32)) (own_I o + (own_I e - own_I o)) ys) + (2 : Int32)) (own_I o + (own_I e - own_I o)) ys) - (1 : Int32)) - (((f10_0 (own_I o + (1 : Int32)) (own_I o + (own_I e - own_I o)) ys) + (2 : Int32)) + (1 : Int32)) = own_I A
    simp only [hsum, own_I1, own_I2, t1, t2]
    rw [show (1 : Int32) = own_I 1 from rfl, own_Isub (by omega), own_Isub (by omega)]
    congr 1; omega
  have a4 : f13_0 1 (f14_0 (own_I o) (own_I e - own_I o) [0, 0, 0, 0, 0, 0, 0, 0, 0, 0, 0, 0, 0, 0, 0, 0] ys).2.2.2.2 = own_I B := by
    show ((f10_0 ((f11_0 ((f10_0 ((f10_0 (own_I o + (1 : Int32)) (own_I o + (own_I e - own_I o)) ys) + (2 : Int32)) (own_I o + (own_I e - own_I o)) ys) + (1 : Int32)) (own_I o + (own_I e - own_I o)) ys) + (1 : Int32)) (own_I o + (own_I e - own_I o)) ys) - (1 : Int32)) - (((f11_0 ((f10_0 ((f10_0 (own_I o + (1 : Int32)) (own_I o + (own_I e - own_I o)) ys) + (2 : Int32)) (own_I o + (own_I e - own_I o)) ys) + (1 : Int32)) (own_I o + (own_I e - own_I o)) ys) + (1 : Int32)) + (1 : Int32)) = own_I B
    simp only [hsum, own_I1, own_I2, t1, t2, n1, t3]
    rw [show (1 : Int32) = own_I 1 from rfl, own_Isub (by omega), own_Isub (by omega)]
    congr 1; omega
  rw [a1, if_neg (show ¬ (1 : Int32) = 0 by decide), a2, if_pos rfl, a3, if_pos rfl, a4, if_pos rfl]
theorem own_113 {v0 v1 v2 v5 v6 : Int32} {xs : List Int32} (hB : own_B1 v0 v5 v6 xs) : f0_113 v0 v1 v2 v5 v6 xs = 1 := by
  unfold f0_113
  split
  · exact own_187 (own_mkB2 v1 v2 hB rfl).1
  · exact own_187 (own_mkB2 v1 v2 hB rfl).2
theorem own_plain (a b c d : Int32) : f0_0 a b c d = 1 := by
  unfold f0_0
  split
  · exact own_113 (own_mkB1 (own_put 58 (own_name a (own_put 123 (own_put 58 (own_put 34 (own_put 116 (own_put 34 (own_put 123 (own_st d) (by decide) (by decide)) (by decide) (by decide)) (by decide) (by decide)) (by decide) (by decide)) (by decide) (by decide)) (by decide) (by decide)) (by decide)) (by decide) (by decide))).1
  · exact own_113 (own_mkB1 (own_put 58 (own_name a (own_put 123 (own_put 58 (own_put 34 (own_put 116 (own_put 34 (own_put 123 (own_st d) (by decide) (by decide)) (by decide) (by decide)) (by decide) (by decide)) (by decide) (by decide)) (by decide) (by decide)) (by decide) (by decide)) (by decide)) (by decide) (by decide))).2

set_option maxRecDepth 65536 in
set_option maxHeartbeats 40000000 in
theorem own_comes {Post : Tables → Env → Array Value → State → Outcome → State → Prop} (hpost : ∀ tb e args s v u, (limb_1_1.after args s (.returned v) u = true ∧ limb_1_2.after args s (.returned v) u = true ∧ True) → FrameEnd s (.returned v) u (Jvm.fieldLocs frame_1_writes args s ++ Jvm.arrayLocs frame_1_arrays args s ++ Jvm.staticLocs frame_1_statics s) 16 192 → Post tb e args s (.returned v) u) :
    ArmFor flags0 classFile x code maxLocals ret World_1 tables_1 room_1 Calls_1 rest_1 Pre_1 Post := by
  intro l hfl _ _ p e ha hc hk s m args below hf hA hF happ hP
  obtain ⟨hcalls, hrest, hpre⟩ := hP
  obtain ⟨-, -, -, hnamed, -, -, -, hat⟩ := (Spec.applies_iff hf).mp happ
  obtain ⟨hg, hn⟩ := and_e (Cond.before_iff.mp (show (Jvm.Cond.and given_1 narrow_1).before args s = true from hpre))
  obtain ⟨h1, g0⟩ := and_e hg
  obtain ⟨k0, g1⟩ := and_e g0
  obtain ⟨k1, g2⟩ := and_e g1
  obtain ⟨k2, g3⟩ := and_e g2
  obtain ⟨w0, w1, w2, w3, rfl⟩ : ∃ w0 w1 w2 w3 : Value, args = #[w0, w1, w2, w3] := by
    have hs : args.size = 4 := by simpa [Cond.value, given_1] using h1
    obtain ⟨L⟩ := args
    match L, hs with
    | [w0, w1, w2, w3], _ => exact ⟨w0, w1, w2, w3, rfl⟩
  have hw := fun d (hd : d ∈ tables_1) => atoms_spec (ws := Jvm.Cond.code x code maxLocals ret :: tables_1) hat d (List.mem_cons_of_mem _ hd)
  obtain ⟨i0, e0⟩ := is_v k0
  obtain rfl : w0 = (.int i0) := Option.some.inj e0
  obtain ⟨i1, e1⟩ := is_v k1
  obtain rfl : w1 = (.int i1) := Option.some.inj e1
  obtain ⟨i2, e2⟩ := is_v k2
  obtain rfl : w2 = (.int i2) := Option.some.inj e2
  obtain ⟨i3, e3⟩ := is_v g3
  obtain rfl : w3 = (.int i3) := Option.some.inj e3
  obtain ⟨n, o, h1, h2, h3, _, L, rfl, ⟨hv, N⟩, hq⟩ := rm0 l s _ hw tables_1 i0 i1 i2 i3 s.heap s.heap.size (Nat.le_refl _) p e ha hc hk s m _ below hf ((Spec.applies_iff_loose hf).mp happ).1 ⟨rfl, State.Warmed39.refl s, rfl⟩ trivial
  have hv' := Eq.trans hv (congrArg (fun z => some (Value.int z)) (own_plain i0 i1 i2 i3))
  subst hv'
  refine ⟨n, _, h1, h2, h3, hpost _ _ _ _ _ _ ⟨Cond.after_iff.mpr rfl, Cond.after_iff.mpr (eq_i res_at (Term.int_eval (1)) rfl), trivial⟩ ⟨hq.1, hq.2.1, (hq.2.2.sift fun y hy => Or.inr (N y hy)).mono (by decide) (by decide)⟩⟩
theorem main_1_1 : Claimed_1_1 := own_comes fun _ _ _ _ _ _ h hF => ⟨h.1, hF⟩
theorem main_1_2 : Claimed_1_2 := own_comes fun _ _ _ _ _ _ h hF => ⟨h.2.1, hF⟩
end Jvm.Pilot.@@N@@
namespace Jvm.Pilot.@@N@@
open Jvm Jvm.ClassFile Sem Op Lib Jvm.Free Jvm.Stand Jvm.Pilot.@@N@@.Jvm.D
/-! MADE BY PROGRAM (witnessworld.py) out of the Statement's table words and the real class files: 10 classes; the members and pool entries that the words name. The judged class is class 1, her method 1. -/
namespace start1
open Jvm.ClassFile
def u (s : String) : CpInfo := .utf8 (stringToUtf16 s)
/-- a pool by its gaps: so many unusable entries, then the entry; so many at the end -/
def gap : Nat → List CpInfo → List CpInfo
  | 0, r => r
  | n + 1, r => .unusable :: gap n r
def poolList (es : List (Nat × CpInfo)) (last : Nat) : List CpInfo := es.foldr (fun e r => gap e.1 (e.2 :: r)) (gap last [])
def pool (es : List (Nat × CpInfo)) (last : Nat) : Array CpInfo := ⟨poolList es last⟩
def fileOf (pool : Array CpInfo) (this : Nat) (attrs : Array Attribute := #[]) (ms : Array MethodInfo := #[]) (fl : Nat := 33) (sup : Nat := 0) (ifs : Array Nat := #[]) (fds : Array FieldInfo := #[]) : ClassFile where
  minorVersion := 0
  majorVersion := 65
  constantPool := pool
  accessFlags := fl
  thisClass := this
  superClass := sup
  interfaces := ifs
  fields := fds
  methods := ms
  attributes := attrs
def plain (name : String) (sup : Option ClassId) : Class where
  name := name
  kind := .ordinary
  loader := none
  accessFlags := 33
  super := sup
  interfaces := #[]
  cf := none
  fields := #[]
  methods := #[]
  instanceTypes := #[]
  staticTypes := #[]
  resolved := #[]
  callSites := []
  init := .initialized
  statics := none
  mirror := none

def pool0 : Array CpInfo := pool [(5, u "<init>"), (0, u "()V"), (1, .class_ 10), (1, u "java/lang/Object")] 113

def k0c0 : Code := { maxStack := 0, maxLocals := 1, code := object_method_1_code, exceptionTable := #[], attributes := #[] }
def k0m0 : Method := { name := "<init>", desc := "()V", sig := { parameters := [], returnType := none }, accessFlags := 1, code := some k0c0 }
/-- java/lang/Object -/
def k0 : Class := { plain "java/lang/Object" none with
  accessFlags := 33
  interfaces := #[]
  cf := some (fileOf pool0 8 #[] #[{ accessFlags := 1, nameIndex := 5, descriptorIndex := 6, attributes := #[] }] 33 0 #[] #[])
  fields := #[]
  methods := #[k0m0]
  instanceTypes := #[]
  staticTypes := #[]
  resolved := Array.replicate 124 none
  statics := none }

def pool1 : Array CpInfo := pool [(2, .class_ 4), (0, .nameAndType 5 6), (0, u "java/lang/Object"), (0, u "<init>"), (0, u "()V"), (0, .methodref 8 9), (0, .class_ 10), (0, .nameAndType 11 12), (0, u "com/example/tidemark/tidemark/table/PlainLineNameLengthPinLaw"), (0, u "name"), (0, u "([BII)I"), (0, .class_ 14), (0, u "com/example/tidemark/tidemark/table/PlainLine"), (0, .methodref 13 3), (0, .methodref 13 17), (0, .nameAndType 18 19), (0, u "find"), (0, u "([BII)Z"), (0, .methodref 13 21), (0, .nameAndType 22 23), (0, u "count"), (0, u "()I"), (0, .methodref 13 25), (0, .nameAndType 26 27), (0, u "nameLength"), (0, u "(I)I"), (0, .methodref 8 29), (0, .nameAndType 30 27), (0, u "expected"), (0, .methodref 8 32), (0, .nameAndType 33 34), (0, u "ch"), (0, u "(I)B"), (2, u "law"), (0, u "(IIII)Z")] 5

def k1m0 : Method := { name := "<init>", desc := "()V", sig := { parameters := [], returnType := none }, accessFlags := 1, code := none }
def k1c1 : Code := { maxStack := 5, maxLocals := 9, code := code, exceptionTable := #[], attributes := #[] }
def k1m1 : Method := { name := "law", desc := "(IIII)Z", sig := { parameters := [.int, .int, .int, .int], returnType := some .boolean }, accessFlags := 9, code := some k1c1 }
def k1c2 : Code := { maxStack := 3, maxLocals := 1, code := method_3_code, exceptionTable := #[], attributes := #[] }
def k1m2 : Method := { name := "expected", desc := "(I)I", sig := { parameters := [.int], returnType := some .int }, accessFlags := 10, code := some k1c2 }
def k1c3 : Code := { maxStack := 4, maxLocals := 5, code := method_4_code, exceptionTable := #[], attributes := #[] }
def k1m3 : Method := { name := "name", desc := "([BII)I", sig := { parameters := [(.array .byte), .int, .int], returnType := some .int }, accessFlags := 10, code := some k1c3 }
def k1c4 : Code := { maxStack := 2, maxLocals := 2, code := method_5_code, exceptionTable := #[], attributes := #[] }
def k1m4 : Method := { name := "ch", desc := "(I)B", sig := { parameters := [.int], returnType := some .byte }, accessFlags := 10, code := some k1c4 }
/-- com/example/tidemark/tidemark/table/PlainLineNameLengthPinLaw -/
def k1 : Class := { plain "com/example/tidemark/tidemark/table/PlainLineNameLengthPinLaw" (some 0) with
  accessFlags := 49
  interfaces := #[]
  cf := some (fileOf pool1 8 #[] #[{ accessFlags := 1, nameIndex := 5, descriptorIndex := 6, attributes := #[] }, { accessFlags := 9, nameIndex := 37, descriptorIndex := 38, attributes := #[] }, { accessFlags := 10, nameIndex := 30, descriptorIndex := 27, attributes := #[] }, { accessFlags := 10, nameIndex := 11, descriptorIndex := 12, attributes := #[] }, { accessFlags := 10, nameIndex := 33, descriptorIndex := 34, attributes := #[] }] 49 2 #[] #[])
  fields := #[]
  methods := #[k1m0, k1m1, k1m2, k1m3, k1m4]
  instanceTypes := #[]
  staticTypes := #[]
  resolved := Array.replicate 44 none
  statics := none }

def pool2 : Array CpInfo := pool [(1, .methodref 2 3), (0, .class_ 4), (0, .nameAndType 5 6), (0, u "java/lang/Object"), (0, u "<init>"), (0, u "()V"), (0, .fieldref 8 9), (0, .class_ 10), (0, .nameAndType 11 12), (0, u "com/example/tidemark/tidemark/table/PlainLine"), (0, u "tokens"), (0, u "[I"), (0, .fieldref 8 14), (0, .nameAndType 15 16), (0, u "bytes"), (0, u "[B"), (0, .fieldref 8 18), (0, .nameAndType 19 20), (0, u "count"), (0, u "I"), (0, .fieldref 8 22), (0, .nameAndType 23 20), (0, u "typeFrom"), (0, .methodref 8 25), (0, .nameAndType 26 27), (0, u "textEnd"), (0, u "(II)I"), (0, .fieldref 8 29), (0, .nameAndType 30 20), (0, u "typeTo"), (0, .methodref 8 32), (0, .nameAndType 33 34), (0, u "isAt"), (0, u "(IIC)Z"), (6, .methodref 8 42), (0, .nameAndType 43 27), (0, u "numberEnd"), (1, .class_ 47), (1, u "com/example/tidemark/tidemark/table/PlainLine$Shape"), (17, .methodref 66 67), (0, .class_ 68), (0, .nameAndType 69 70), (0, u "com/example/tidemark/tidemark/table/Utf8"), (0, u "isWellFormed"), (0, u "([BII)Z"), (6, u "(I)I"), (32, u "find"), (6, u "()I"), (2, u "nameLength")] 9

def k2c0 : Code := { maxStack := 2, maxLocals := 1, code := prog_87_method_1_code, exceptionTable := #[], attributes := #[] }
def k2m0 : Method := { name := "<init>", desc := "()V", sig := { parameters := [], returnType := none }, accessFlags := 0, code := some k2c0 }
def k2c1 : Code := { maxStack := 4, maxLocals := 9, code := prog_87_method_2_code, exceptionTable := #[], attributes := #[] }
def k2m1 : Method := { name := "find", desc := "([BII)Z", sig := { parameters := [(.array .byte), .int, .int], returnType := some .boolean }, accessFlags := 0, code := some k2c1 }
def k2c2 : Code := { maxStack := 2, maxLocals := 4, code := prog_87_method_4_code, exceptionTable := #[], attributes := #[] }
def k2m2 : Method := { name := "isAt", desc := "(IIC)Z", sig := { parameters := [.int, .int, .char], returnType := some .boolean }, accessFlags := 2, code := some k2c2 }
def k2c3 : Code := { maxStack := 4, maxLocals := 8, code := prog_87_method_5_code, exceptionTable := #[], attributes := #[] }
def k2m3 : Method := { name := "textEnd", desc := "(II)I", sig := { parameters := [.int, .int], returnType := some .int }, accessFlags := 2, code := some k2c3 }
def k2c4 : Code := { maxStack := 4, maxLocals := 6, code := prog_87_method_6_code, exceptionTable := #[], attributes := #[] }
def k2m4 : Method := { name := "numberEnd", desc := "(II)I", sig := { parameters := [.int, .int], returnType := some .int }, accessFlags := 2, code := some k2c4 }
def k2c5 : Code := { maxStack := 1, maxLocals := 1, code := prog_87_method_8_code, exceptionTable := #[], attributes := #[] }
def k2m5 : Method := { name := "count", desc := "()I", sig := { parameters := [], returnType := some .int }, accessFlags := 0, code := some k2c5 }
def k2c6 : Code := { maxStack := 4, maxLocals := 2, code := prog_87_method_10_code, exceptionTable := #[], attributes := #[] }
def k2m6 : Method := { name := "nameLength", desc := "(I)I", sig := { parameters := [.int], returnType := some .int }, accessFlags := 0, code := some k2c6 }
/-- com/example/tidemark/tidemark/table/PlainLine -/
def k2 : Class := { plain "com/example/tidemark/tidemark/table/PlainLine" (some 0) with
  accessFlags := 48
  interfaces := #[]
  cf := some (fileOf pool2 8 #[.nestMembers #[45]] #[{ accessFlags := 0, nameIndex := 5, descriptorIndex := 6, attributes := #[] }, { accessFlags := 0, nameIndex := 110, descriptorIndex := 70, attributes := #[] }, { accessFlags := 2, nameIndex := 33, descriptorIndex := 34, attributes := #[] }, { accessFlags := 2, nameIndex := 26, descriptorIndex := 27, attributes := #[] }, { accessFlags := 2, nameIndex := 43, descriptorIndex := 27, attributes := #[] }, { accessFlags := 0, nameIndex := 19, descriptorIndex := 117, attributes := #[] }, { accessFlags := 0, nameIndex := 120, descriptorIndex := 77, attributes := #[] }] 48 2 #[] #[{ accessFlags := 2, nameIndex := 15, descriptorIndex := 16, attributes := #[] }, { accessFlags := 2, nameIndex := 23, descriptorIndex := 20, attributes := #[] }, { accessFlags := 2, nameIndex := 30, descriptorIndex := 20, attributes := #[] }, { accessFlags := 2, nameIndex := 11, descriptorIndex := 12, attributes := #[] }, { accessFlags := 2, nameIndex := 19, descriptorIndex := 20, attributes := #[] }])
  fields := #[{ name := "bytes", type := (.array .byte), accessFlags := 2, slot := 0, constantValue := 0 }, { name := "typeFrom", type := .int, accessFlags := 2, slot := 1, constantValue := 0 }, { name := "typeTo", type := .int, accessFlags := 2, slot := 2, constantValue := 0 }, { name := "tokens", type := (.array .int), accessFlags := 2, slot := 3, constantValue := 0 }, { name := "count", type := .int, accessFlags := 2, slot := 4, constantValue := 0 }]
  methods := #[k2m0, k2m1, k2m2, k2m3, k2m4, k2m5, k2m6]
  instanceTypes := #[(.array .byte), .int, .int, (.array .int), .int]
  staticTypes := #[]
  resolved := Array.replicate 130 none
  statics := none }

def pool3 : Array CpInfo := pool [(2, .class_ 4), (1, u "java/lang/Object"), (0, u "<init>"), (0, u "()V"), (23, .class_ 32), (1, u "com/example/tidemark/tidemark/table/Utf8"), (20, u "(I)I"), (22, .methodref 30 77), (0, .nameAndType 78 79), (0, u "next"), (0, u "(II)I"), (0, .methodref 30 81), (0, .nameAndType 82 53), (0, u "afterLead"), (0, .methodref 30 84), (0, .nameAndType 85 86), (0, u "continuing"), (0, u "(III)I"), (16, u "BYTE_ORDER"), (0, u "Ljava/util/Comparator;"), (2, u "BETWEEN"), (0, u "I"), (2, u "NOT_UTF8"), (8, u "isWellFormed"), (0, u "([BII)Z"), (6, .class_ 129), (0, u "com/example/tidemark/tidemark/table/Utf8$Checked")] 21

def k3m0 : Method := { name := "<init>", desc := "()V", sig := { parameters := [], returnType := none }, accessFlags := 2, code := none }
def k3c1 : Code := { maxStack := 3, maxLocals := 5, code := prog_129_method_5_code, exceptionTable := #[], attributes := #[] }
def k3m1 : Method := { name := "isWellFormed", desc := "([BII)Z", sig := { parameters := [(.array .byte), .int, .int], returnType := some .boolean }, accessFlags := 8, code := some k3c1 }
def k3c2 : Code := { maxStack := 3, maxLocals := 5, code := prog_129_method_6_code, exceptionTable := #[], attributes := #[] }
def k3m2 : Method := { name := "next", desc := "(II)I", sig := { parameters := [.int, .int], returnType := some .int }, accessFlags := 10, code := some k3c2 }
def k3c3 : Code := { maxStack := 4, maxLocals := 1, code := prog_129_method_7_code, exceptionTable := #[], attributes := #[] }
def k3m3 : Method := { name := "afterLead", desc := "(I)I", sig := { parameters := [.int], returnType := some .int }, accessFlags := 10, code := some k3c3 }
def k3c4 : Code := { maxStack := 3, maxLocals := 3, code := prog_129_method_8_code, exceptionTable := #[], attributes := #[] }
def k3m4 : Method := { name := "continuing", desc := "(III)I", sig := { parameters := [.int, .int, .int], returnType := some .int }, accessFlags := 10, code := some k3c4 }
/-- com/example/tidemark/tidemark/table/Utf8 -/
def k3 : Class := { plain "com/example/tidemark/tidemark/table/Utf8" (some 0) with
  accessFlags := 48
  interfaces := #[]
  cf := some (fileOf pool3 30 #[.nestMembers #[128]] #[{ accessFlags := 2, nameIndex := 5, descriptorIndex := 6, attributes := #[] }, { accessFlags := 8, nameIndex := 120, descriptorIndex := 121, attributes := #[] }, { accessFlags := 10, nameIndex := 78, descriptorIndex := 79, attributes := #[] }, { accessFlags := 10, nameIndex := 82, descriptorIndex := 53, attributes := #[] }, { accessFlags := 10, nameIndex := 85, descriptorIndex := 86, attributes := #[] }] 48 2 #[] #[{ accessFlags := 24, nameIndex := 103, descriptorIndex := 104, attributes := #[] }, { accessFlags := 26, nameIndex := 107, descriptorIndex := 108, attributes := #[] }, { accessFlags := 26, nameIndex := 111, descriptorIndex := 108, attributes := #[] }])
  fields := #[{ name := "BYTE_ORDER", type := (.object "java/util/Comparator"), accessFlags := 24, slot := 0, constantValue := 0 }, { name := "BETWEEN", type := .int, accessFlags := 26, slot := 1, constantValue := 0 }, { name := "NOT_UTF8", type := .int, accessFlags := 26, slot := 2, constantValue := 0 }]
  methods := #[k3m0, k3m1, k3m2, k3m3, k3m4]
  instanceTypes := #[]
  staticTypes := #[(.object "java/util/Comparator"), .int, .int]
  resolved := Array.replicate 151 none
  statics := none }

def pool4 : Array CpInfo := pool [(1, u "java/lang/Cloneable"), (0, .class_ 1), (0, u "java/lang/Object"), (0, .class_ 3)] 3

/-- java/lang/Cloneable -/
def k4 : Class := { plain "java/lang/Cloneable" (some 0) with
  accessFlags := 1537
  interfaces := #[]
  cf := some (fileOf pool4 2 #[] #[] 1537 4 #[] #[])
  fields := #[]
  methods := #[]
  instanceTypes := #[]
  staticTypes := #[]
  resolved := Array.replicate 8 none
  statics := none }

def pool5 : Array CpInfo := pool [(1, u "java/io/Serializable"), (0, .class_ 1), (0, u "java/lang/Object"), (0, .class_ 3)] 3

/-- java/io/Serializable -/
def k5 : Class := { plain "java/io/Serializable" (some 0) with
  accessFlags := 1537
  interfaces := #[]
  cf := some (fileOf pool5 2 #[] #[] 1537 4 #[] #[])
  fields := #[]
  methods := #[]
  instanceTypes := #[]
  staticTypes := #[]
  resolved := Array.replicate 8 none
  statics := none }

/-- the primitive byte -/
def k6 : Class := { plain "byte" none with kind := .primitive 'B', accessFlags := 0x411 }
/-- [B -/
def k7 : Class := { plain "[B" (some 0) with kind := .array 6 .byte, interfaces := #[4, 5], accessFlags := 1041 }

/-- the primitive int -/
def k8 : Class := { plain "int" none with kind := .primitive 'I', accessFlags := 0x411 }
/-- [I -/
def k9 : Class := { plain "[I" (some 0) with kind := .array 8 .int, interfaces := #[4, 5], accessFlags := 1041 }

def heap : Heap := #[]
def classes : Array Class := #[k0, k1, k2, k3, k4, k5, k6, k7, k8, k9]
def interned : List (Array UInt16 × Addr) := []
def slotsUsed : Nat := 0
def theMethod : MethodId := ⟨1, 1⟩
def args0 : Array Value := #[.int 1, .int 7, .int 2, .int 3]
def aboutOver (below : List Frame) : State where
  vm := { classes := classes, interned := interned.toArray }
  heap := heap
  slotsUsed := slotsUsed
  threads := #[{ frames := .invoking theMethod args0 :: below }]
def below0 : List Frame := [.native { method := ⟨0, 0⟩, args := #[] }]
def about1 : State := aboutOver below0
def p0 : Program := .bare "" "" ""
def e0 : Env := launch0.env 0 0 0
theorem w_frames : about1.frames = Frame.invoking theMethod args0 :: below0 := rfl
set_option maxRecDepth 65536 in
theorem w_args : argsFit about1.vm theMethod args0 = true := by decide +kernel
set_option maxRecDepth 65536 in
theorem w_heap : heapFits about1 = true := by decide +kernel
set_option maxRecDepth 65536 in
theorem w_runnable : about1.curStatus? = some .runnable := by decide +kernel
set_option maxRecDepth 65536 in
theorem w_alone : about1.alone = true := by decide +kernel
set_option maxRecDepth 65536 in
theorem w_named : about1.methodNamed? x = some theMethod := by decide +kernel
set_option maxRecDepth 65536 in
theorem w_hears : about1.hears theMethod below0 = true := by decide +kernel
set_option maxRecDepth 65536 in
theorem w_ripe : about1.ripe theMethod args0 below0 = true := by decide +kernel
theorem w_running : about1.status = .running := rfl
set_option maxRecDepth 65536 in
theorem w_room : about1.hasRoom e0.platform room_1 = true :=
  launch0.hasRoom_least _ room_1 (by decide +kernel) (by decide +kernel) (by decide +kernel) (by decide +kernel) (by decide +kernel) (by decide +kernel)
theorem allAtoms_all (ts : List Jvm.Cond) (a : Array Jvm.Value) (st : Jvm.State) : (allAtoms ts).before a st = ts.all (fun c => c.before a st) := by
  induction ts with
  | nil => rfl
  | cons c t ih =>
    show (Jvm.Cond.and c (allAtoms t)).before a st = _
    rw [Jvm.Cond.before_and, ih, List.all_cons]
def words1 : List Jvm.Cond := Jvm.Cond.code x code maxLocals ret :: tables_1
/-- a 'code' word, met by the world's own term for the bytes: nothing is compared byte by byte -/
theorem code_word {y : MethodName} {bytes : ByteArray} {mx : Nat} {rt : Option FieldType} {a : Array Value} {s : State} {m : MethodId} {meth : Method} {c : Code} (h1 : s.methodNamed? y = some m) (h2 : s.vm.method? m = some meth) (h3 : meth.code = some c) (h4 : c.code = bytes)
    (h5 : (c.maxLocals == mx && c.exceptionTable.isEmpty && decide (c.maxStack ≤ mostOperands) && decide (meth.sig.returnType = rt) && !meth.locks && decide (parseMethodDescriptor y.desc = some meth.sig)) = true) : (Jvm.Cond.code y bytes mx rt).before a s = true := by
  simp only [Bool.and_eq_true, beq_iff_eq, Bool.not_eq_true', decide_eq_true_eq] at h5
  obtain ⟨⟨⟨⟨⟨g1, g2⟩, g3⟩, g4⟩, g5⟩, g6⟩ := h5
  simp [Cond.before, Cond.holds, Cond.value, h1, h2, h3, h4, g1, g2, g3, g4, g5, g6]
def isCode : Jvm.Cond → Bool
  | .code _ _ _ _ => true
  | _ => false
theorem all_split {L : List Jvm.Cond} {P : Jvm.Cond → Bool} (h1 : L.all (fun c => isCode c || P c) = true) (h2 : ∀ c ∈ L.filter isCode, P c = true) : L.all P = true := by
  refine List.all_eq_true.mpr fun c hc => ?_
  have h := List.all_eq_true.mp h1 c hc
  rcases Bool.eq_false_or_eq_true (isCode c) with hi | hi
  · exact h2 c (List.mem_filter.mpr ⟨hc, hi⟩)
  · simpa [hi] using h
set_option maxRecDepth 65536 in
theorem w_c0 : (Jvm.Cond.code x code maxLocals ret).before args0 about1 = true := code_word (m := ⟨1, 1⟩) (meth := k1m1) (c := k1c1) (by decide +kernel) rfl rfl rfl (by decide +kernel)
set_option maxRecDepth 65536 in
theorem w_c1 : (Jvm.Cond.code ({ cls := "com/example/tidemark/tidemark/table/PlainLineNameLengthPinLaw", name := "name", desc := "([BII)I" } : Jvm.MethodName) method_4_code (5 : Nat) (Option.some Jvm.ClassFile.FieldType.int)).before args0 about1 = true := code_word (m := ⟨1, 3⟩) (meth := k1m3) (c := k1c3) (by decide +kernel) rfl rfl rfl (by decide +kernel)
set_option maxRecDepth 65536 in
theorem w_c2 : (Jvm.Cond.code ({ cls := "com/example/tidemark/tidemark/table/PlainLineNameLengthPinLaw", name := "ch", desc := "(I)B" } : Jvm.MethodName) method_5_code (2 : Nat) (Option.some Jvm.ClassFile.FieldType.byte)).before args0 about1 = true := code_word (m := ⟨1, 4⟩) (meth := k1m4) (c := k1c4) (by decide +kernel) rfl rfl rfl (by decide +kernel)
set_option maxRecDepth 65536 in
theorem w_c3 : (Jvm.Cond.code ({ cls := "com/example/tidemark/tidemark/table/PlainLine", name := "<init>", desc := "()V" } : Jvm.MethodName) prog_87_method_1_code (1 : Nat) (Option.none : Option Jvm.ClassFile.FieldType)).before args0 about1 = true := code_word (m := ⟨2, 0⟩) (meth := k2m0) (c := k2c0) (by decide +kernel) rfl rfl rfl (by decide +kernel)
set_option maxRecDepth 65536 in
theorem w_c4 : (Jvm.Cond.code ({ cls := "java/lang/Object", name := "<init>", desc := "()V" } : Jvm.MethodName) object_method_1_code (1 : Nat) (Option.none : Option Jvm.ClassFile.FieldType)).before args0 about1 = true := code_word (m := ⟨0, 0⟩) (meth := k0m0) (c := k0c0) (by decide +kernel) rfl rfl rfl (by decide +kernel)
set_option maxRecDepth 65536 in
theorem w_c5 : (Jvm.Cond.code ({ cls := "com/example/tidemark/tidemark/table/PlainLine", name := "find", desc := "([BII)Z" } : Jvm.MethodName) prog_87_method_2_code (9 : Nat) (Option.some Jvm.ClassFile.FieldType.boolean)).before args0 about1 = true := code_word (m := ⟨2, 1⟩) (meth := k2m1) (c := k2c1) (by decide +kernel) rfl rfl rfl (by decide +kernel)
set_option maxRecDepth 65536 in
theorem w_c6 : (Jvm.Cond.code ({ cls := "com/example/tidemark/tidemark/table/PlainLine", name := "textEnd", desc := "(II)I" } : Jvm.MethodName) prog_87_method_5_code (8 : Nat) (Option.some Jvm.ClassFile.FieldType.int)).before args0 about1 = true := code_word (m := ⟨2, 3⟩) (meth := k2m3) (c := k2c3) (by decide +kernel) rfl rfl rfl (by decide +kernel)
set_option maxRecDepth 65536 in
theorem w_c7 : (Jvm.Cond.code ({ cls := "com/example/tidemark/tidemark/table/PlainLine", name := "isAt", desc := "(IIC)Z" } : Jvm.MethodName) prog_87_method_4_code (4 : Nat) (Option.some Jvm.ClassFile.FieldType.boolean)).before args0 about1 = true := code_word (m := ⟨2, 2⟩) (meth := k2m2) (c := k2c2) (by decide +kernel) rfl rfl rfl (by decide +kernel)
set_option maxRecDepth 65536 in
theorem w_c8 : (Jvm.Cond.code ({ cls := "com/example/tidemark/tidemark/table/PlainLine", name := "numberEnd", desc := "(II)I" } : Jvm.MethodName) prog_87_method_6_code (6 : Nat) (Option.some Jvm.ClassFile.FieldType.int)).before args0 about1 = true := code_word (m := ⟨2, 4⟩) (meth := k2m4) (c := k2c4) (by decide +kernel) rfl rfl rfl (by decide +kernel)
set_option maxRecDepth 65536 in
theorem w_c9 : (Jvm.Cond.code ({ cls := "com/example/tidemark/tidemark/table/PlainLine", name := "count", desc := "()I" } : Jvm.MethodName) prog_87_method_8_code (1 : Nat) (Option.some Jvm.ClassFile.FieldType.int)).before args0 about1 = true := code_word (m := ⟨2, 5⟩) (meth := k2m5) (c := k2c5) (by decide +kernel) rfl rfl rfl (by decide +kernel)
set_option maxRecDepth 65536 in
theorem w_c10 : (Jvm.Cond.code ({ cls := "com/example/tidemark/tidemark/table/PlainLine", name := "nameLength", desc := "(I)I" } : Jvm.MethodName) prog_87_method_10_code (2 : Nat) (Option.some Jvm.ClassFile.FieldType.int)).before args0 about1 = true := code_word (m := ⟨2, 6⟩) (meth := k2m6) (c := k2c6) (by decide +kernel) rfl rfl rfl (by decide +kernel)
set_option maxRecDepth 65536 in
theorem w_c11 : (Jvm.Cond.code ({ cls := "com/example/tidemark/tidemark/table/PlainLineNameLengthPinLaw", name := "expected", desc := "(I)I" } : Jvm.MethodName) method_3_code (1 : Nat) (Option.some Jvm.ClassFile.FieldType.int)).before args0 about1 = true := code_word (m := ⟨1, 2⟩) (meth := k1m2) (c := k1c2) (by decide +kernel) rfl rfl rfl (by decide +kernel)
set_option maxRecDepth 65536 in
theorem w_c12 : (Jvm.Cond.code ({ cls := "com/example/tidemark/tidemark/table/Utf8", name := "isWellFormed", desc := "([BII)Z" } : Jvm.MethodName) prog_129_method_5_code (5 : Nat) (Option.some Jvm.ClassFile.FieldType.boolean)).before args0 about1 = true := code_word (m := ⟨3, 1⟩) (meth := k3m1) (c := k3c1) (by decide +kernel) rfl rfl rfl (by decide +kernel)
set_option maxRecDepth 65536 in
theorem w_c13 : (Jvm.Cond.code ({ cls := "com/example/tidemark/tidemark/table/Utf8", name := "next", desc := "(II)I" } : Jvm.MethodName) prog_129_method_6_code (5 : Nat) (Option.some Jvm.ClassFile.FieldType.int)).before args0 about1 = true := code_word (m := ⟨3, 2⟩) (meth := k3m2) (c := k3c2) (by decide +kernel) rfl rfl rfl (by decide +kernel)
set_option maxRecDepth 65536 in
theorem w_c14 : (Jvm.Cond.code ({ cls := "com/example/tidemark/tidemark/table/Utf8", name := "afterLead", desc := "(I)I" } : Jvm.MethodName) prog_129_method_7_code (1 : Nat) (Option.some Jvm.ClassFile.FieldType.int)).before args0 about1 = true := code_word (m := ⟨3, 3⟩) (meth := k3m3) (c := k3c3) (by decide +kernel) rfl rfl rfl (by decide +kernel)
set_option maxRecDepth 65536 in
theorem w_c15 : (Jvm.Cond.code ({ cls := "com/example/tidemark/tidemark/table/Utf8", name := "continuing", desc := "(III)I" } : Jvm.MethodName) prog_129_method_8_code (3 : Nat) (Option.some Jvm.ClassFile.FieldType.int)).before args0 about1 = true := code_word (m := ⟨3, 4⟩) (meth := k3m4) (c := k3c4) (by decide +kernel) rfl rfl rfl (by decide +kernel)
def codes1 : List Jvm.Cond := [Jvm.Cond.code x code maxLocals ret, Jvm.Cond.code ({ cls := "com/example/tidemark/tidemark/table/PlainLineNameLengthPinLaw", name := "name", desc := "([BII)I" } : Jvm.MethodName) method_4_code (5 : Nat) (Option.some Jvm.ClassFile.FieldType.int), Jvm.Cond.code ({ cls := "com/example/tidemark/tidemark/table/PlainLineNameLengthPinLaw", name := "ch", desc := "(I)B" } : Jvm.MethodName) method_5_code (2 : Nat) (Option.some Jvm.ClassFile.FieldType.byte), Jvm.Cond.code ({ cls := "com/example/tidemark/tidemark/table/PlainLine", name := "<init>", desc := "()V" } : Jvm.MethodName) prog_87_method_1_code (1 : Nat) (Option.none : Option Jvm.ClassFile.FieldType), Jvm.Cond.code ({ cls := "java/lang/Object", name := "<init>", desc := "()V" } : Jvm.MethodName) object_method_1_code (1 : Nat) (Option.none : Option Jvm.ClassFile.FieldType), Jvm.Cond.code ({ cls := "com/example/tidemark/tidemark/table/PlainLine", name := "find", desc := "([BII)Z" } : Jvm.MethodName) prog_87_method_2_code (9 : Nat) (Option.some Jvm.ClassFile.FieldType.boolean), Jvm.Cond.code ({ cls := "com/example/tidemark/tidemark/table/PlainLine", name := "textEnd", desc := "(II)I" } : Jvm.MethodName) prog_87_method_5_code (8 : Nat) (Option.some Jvm.ClassFile.FieldType.int), Jvm.Cond.code ({ cls := "com/example/tidemark/tidemark/table/PlainLine", name := "isAt", desc := "(IIC)Z" } : Jvm.MethodName) prog_87_method_4_code (4 : Nat) (Option.some Jvm.ClassFile.FieldType.boolean), Jvm.Cond.code ({ cls := "com/example/tidemark/tidemark/table/PlainLine", name := "numberEnd", desc := "(II)I" } : Jvm.MethodName) prog_87_method_6_code (6 : Nat) (Option.some Jvm.ClassFile.FieldType.int), Jvm.Cond.code ({ cls := "com/example/tidemark/tidemark/table/PlainLine", name := "count", desc := "()I" } : Jvm.MethodName) prog_87_method_8_code (1 : Nat) (Option.some Jvm.ClassFile.FieldType.int), Jvm.Cond.code ({ cls := "com/example/tidemark/tidemark/table/PlainLine", name := "nameLength", desc := "(I)I" } : Jvm.MethodName) prog_87_method_10_code (2 : Nat) (Option.some Jvm.ClassFile.FieldType.int), Jvm.Cond.code ({ cls := "com/example/tidemark/tidemark/table/PlainLineNameLengthPinLaw", name := "expected", desc := "(I)I" } : Jvm.MethodName) method_3_code (1 : Nat) (Option.some Jvm.ClassFile.FieldType.int), Jvm.Cond.code ({ cls := "com/example/tidemark/tidemark/table/Utf8", name := "isWellFormed", desc := "([BII)Z" } : Jvm.MethodName) prog_129_method_5_code (5 : Nat) (Option.some Jvm.ClassFile.FieldType.boolean), Jvm.Cond.code ({ cls := "com/example/tidemark/tidemark/table/Utf8", name := "next", desc := "(II)I" } : Jvm.MethodName) prog_129_method_6_code (5 : Nat) (Option.some Jvm.ClassFile.FieldType.int), Jvm.Cond.code ({ cls := "com/example/tidemark/tidemark/table/Utf8", name := "afterLead", desc := "(I)I" } : Jvm.MethodName) prog_129_method_7_code (1 : Nat) (Option.some Jvm.ClassFile.FieldType.int), Jvm.Cond.code ({ cls := "com/example/tidemark/tidemark/table/Utf8", name := "continuing", desc := "(III)I" } : Jvm.MethodName) prog_129_method_8_code (3 : Nat) (Option.some Jvm.ClassFile.FieldType.int)]
set_option maxRecDepth 65536 in
theorem codes_eq : words1.filter isCode = codes1 := rfl
theorem w_codes : ∀ c ∈ words1.filter isCode, c.before args0 about1 = true := by
  rw [codes_eq]
  intro c hc
  simp only [codes1, List.mem_cons, List.not_mem_nil, or_false] at hc
  rcases hc with rfl | rfl | rfl | rfl | rfl | rfl | rfl | rfl | rfl | rfl | rfl | rfl | rfl | rfl | rfl | rfl
  · exact w_c0
  · exact w_c1
  · exact w_c2
  · exact w_c3
  · exact w_c4
  · exact w_c5
  · exact w_c6
  · exact w_c7
  · exact w_c8
  · exact w_c9
  · exact w_c10
  · exact w_c11
  · exact w_c12
  · exact w_c13
  · exact w_c14
  · exact w_c15
set_option maxRecDepth 65536 in
theorem w_t1 : (words1.take 24).all (fun c => isCode c || c.before args0 about1) = true := by decide +kernel
set_option maxRecDepth 65536 in
theorem w_t2 : ((words1.drop 24).take 24).all (fun c => isCode c || c.before args0 about1) = true := by decide +kernel
set_option maxRecDepth 65536 in
theorem w_t3 : ((words1.drop 24).drop 24).all (fun c => isCode c || c.before args0 about1) = true := by decide +kernel
theorem w_tables : (allAtoms (Jvm.Cond.code x code maxLocals ret :: tables_1)).before args0 about1 = true := by
  rw [allAtoms_all]
  show words1.all (fun c => c.before args0 about1) = true
  refine all_split ?_ w_codes
  rw [← List.take_append_drop 24 words1, List.all_append, w_t1, ← List.take_append_drop 24 (words1.drop 24), List.all_append, w_t2, w_t3]
  rfl
set_option maxRecDepth 65536 in
theorem w_case : (Jvm.Cond.and given_1 narrow_1).before args0 about1 = true := by decide +kernel
theorem w_applies : (headSpec (Jvm.Cond.code x code maxLocals ret :: tables_1) room_1).applies x e0.platform about1 = true :=
  (Spec.applies_iff w_frames).mpr ⟨w_running, w_runnable, w_alone, w_named, w_hears, w_ripe, w_room, w_tables⟩
theorem atStart : AtStart classFile x code maxLocals ret World_1 tables_1 room_1 Calls_1 rest_1 Pre_1 launch0 p0 e0 about1 theMethod args0 below0 :=
  ⟨lists_1, trivial, launch0.admits_env _ _ _, launch0.least_env, fairChoices_fair.cas, fairChoices_fair.clock, w_frames, w_args, w_heap, w_applies, trivial, trivial, w_case⟩
end start1
theorem witness_1 : WitnessClaimed_1 := ⟨start1.p0, start1.e0, start1.about1, start1.theMethod, start1.args0, start1.below0, start1.atStart⟩
end Jvm.Pilot.@@N@@
