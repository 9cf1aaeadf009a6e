import JvmDerived
import JvmDerived.Pilot.@@N@@Statement
import JvmDerived.Pilot.@@N@@Code
set_option linter.unusedVariables false
set_option linter.unusedSimpArgs false
namespace Jvm.Pilot.@@N@@
open Jvm Jvm.ClassFile Sem Op Lib Jvm.Free Jvm.Stand Jvm.LawKit Jvm.RoadKit Bundle Jvm.Pilot.@@N@@.Jvm.D

def own_Go (tb : Tables) (e : Env) (below : List Frame) (U : State) (Q : Outcome → State → Prop) : Prop :=
  ∃ s₂ o, Steps tb e below U s₂ ∧ s₂.status = .running ∧ Ended s₂ below o ∧ Q o s₂
def own_QR (s : State) (n0 kc ks : Nat) (P : Option Value → Heap → Prop) (o : Outcome) (u : State) : Prop :=
  ∃ v L, o = .returned v ∧ (P v u.heap ∧ Fr n0 L) ∧ FrameEnd s o u L kc ks
def own_RI (h : Heap) (r : Int32) (v : Option Value) (h' : Heap) : Prop := v = some (.int r) ∧ h = h'
def own_RV (r : Int32) (v : Option Value) (h' : Heap) : Prop := v = some (.int r)
def own_R0 (h : Heap) (r : Unit) (v : Option Value) (h' : Heap) : Prop := v = none ∧ h = h'
def own_RJ (h : Heap) (r : Int64) (v : Option Value) (h' : Heap) : Prop := v = some (.long r) ∧ h = h'
def own_Cx (Z : State) (a0 : Array Value) (p : Program) (l : Launch) (e : Env) (R : Room) (s : State) (m : MethodId) (args : Array Value) (below : List Frame) (meth : Method) (c : Code) (own nm : String) (bytes : ByteArray) (mx : Nat) (ret : Option FieldType) : Prop :=
  p.tables.exec = Jvm.exec ∧ c.code = bytes ∧ c.maxLocals = mx ∧ s.vm.findClass own = some m.cls ∧ Z.Warmed39 s.vm ∧ meth.name = nm ∧ meth.sig.returnType = ret ∧ meth.locks = false ∧ ∀ d ∈ tables_1, d.before a0 Z = true
def own_At (p : Program) (l : Launch) (e : Env) (R : Room) (s : State) (m : MethodId) (args : Array Value) (below : List Frame) (meth : Method) (c : Code) (T : State) (h : Heap) (n0 kc ks : Nat) : Prop :=
  ∃ locs cells slots, Stand p l e R s m args below meth c T locs cells slots ∧ T.heap = h ∧ Fr n0 locs ∧ cells ≤ kc ∧ slots ≤ ks ∧ n0 ≤ h.size
theorem own_go {tb : Tables} {e : Env} {below : List Frame} {U U' : State} {Q : Outcome → State → Prop} (h : ∀ t, Steps tb e below U' t → Steps tb e below U t) (k : own_Go tb e below U' Q) : own_Go tb e below U Q := by
  obtain ⟨s2, o, h1, h2⟩ := k
  exact ⟨s2, o, h _ h1, h2⟩
theorem own_ite {tb : Tables} {e : Env} {below : List Frame} {U s : State} {n0 kc ks : Nat} {β : Type} {P : β → Option Value → Heap → Prop} {cnd : Prop} [Decidable cnd] {A B : β} (h1 : cnd → own_Go tb e below U (own_QR s n0 kc ks (P A))) (h2 : ¬ cnd → own_Go tb e below U (own_QR s n0 kc ks (P B))) :
    own_Go tb e below U (own_QR s n0 kc ks (P (if cnd then A else B))) := by
  by_cases hc : cnd
  · rw [if_pos hc]; exact h1 hc
  · rw [if_neg hc]; exact h2 hc

section OwnKit
variable {Z : State} {a0 : Array Value} {p : Program} {l : Launch} {e : Env} {R : Room} {s : State} {m : MethodId} {args : Array Value} {below : List Frame} {meth : Method} {c : Code} {own nm : String} {bytes : ByteArray} {mx : Nat} {ret : Option FieldType} {T : State} {h : Heap} {n0 kc ks : Nat} {Q : Outcome → State → Prop} {pc q : Nat} {Ls : Array Slot} {st : List Value}
theorem own_here (A : own_At p l e R s m args below meth c T h n0 kc ks) : At T m c below := by obtain ⟨_, _, _, X, _⟩ := A; exact X.here
theorem own_w (C : own_Cx Z a0 p l e R s m args below meth c own nm bytes mx ret) (i : Nat) {d : Jvm.Cond} (hi : tables_1[i]? = some d) : d.before a0 Z = true := C.2.2.2.2.2.2.2.2 d (List.mem_of_getElem? hi)
theorem own_size (A : own_At p l e R s m args below meth c T h n0 kc ks) : n0 ≤ h.size := by obtain ⟨_, _, _, _, _, _, _, _, hn⟩ := A; exact hn
theorem own_more {kc' ks' : Nat} (A : own_At p l e R s m args below meth c T h n0 kc ks) (h1 : kc ≤ kc') (h2 : ks ≤ ks') : own_At p l e R s m args below meth c T h n0 kc' ks' := by obtain ⟨locs, cells, slots, X, eT, N, hc, hs, hn⟩ := A; exact ⟨locs, cells, slots, X, eT, N, Nat.le_trans hc h1, Nat.le_trans hs h2, hn⟩
theorem own_iloadN (C : own_Cx Z a0 p l e R s m args below meth c own nm bytes mx ret) (A : own_At p l e R s m args below meth c T h n0 kc ks) {k : Fin 4} {v : Int32} (hd : decode bytes pc = .ok (.iload_n k, 1)) (hl : Ls[k.val]? = some (.val (.int v))) (hq : pc + 1 = q) (k : own_Go p.tables e below (T.setTop (mkF m q Ls (.int v :: st))) Q) :
    own_Go p.tables e below (T.setTop (mkF m pc Ls st)) Q := by
  subst hq
  exact own_go (fun t => XS.iloadN (own_here A) C.1 rfl (hb C.2.1 hd) hl) k
theorem own_lloadN (C : own_Cx Z a0 p l e R s m args below meth c own nm bytes mx ret) (A : own_At p l e R s m args below meth c T h n0 kc ks) {k : Fin 4} {v : Int64} (hd : decode bytes pc = .ok (.lload_n k, 1)) (hl : Ls[k.val]? = some (.val (.long v))) (hq : pc + 1 = q) (k : own_Go p.tables e below (T.setTop (mkF m q Ls (.long v :: st))) Q) :
    own_Go p.tables e below (T.setTop (mkF m pc Ls st)) Q := by
  subst hq
  exact own_go (fun t => XS.lloadN (own_here A) C.1 rfl (hb C.2.1 hd) hl) k
theorem own_aloadN (C : own_Cx Z a0 p l e R s m args below meth c own nm bytes mx ret) (A : own_At p l e R s m args below meth c T h n0 kc ks) {k : Fin 4} {v : Value} (hd : decode bytes pc = .ok (.aload_n k, 1)) (hl : Ls[k.val]? = some (.val v)) (hv : v.isRef = true) (hq : pc + 1 = q) (k : own_Go p.tables e below (T.setTop (mkF m q Ls (v :: st))) Q) :
    own_Go p.tables e below (T.setTop (mkF m pc Ls st)) Q := by
  subst hq
  exact own_go (fun t => XS.aloadN (own_here A) C.1 rfl (hb C.2.1 hd) hl hv) k
theorem own_istoreN (C : own_Cx Z a0 p l e R s m args below meth c own nm bytes mx ret) (A : own_At p l e R s m args below meth c T h n0 kc ks) {k : Fin 4} {x : Int32} {l' : Array Slot} (hd : decode bytes pc = .ok (.istore_n k, 1)) (hl : storeLocals Ls k.val (.int x) = some l') (hq : pc + 1 = q) (k : own_Go p.tables e below (T.setTop (mkF m q l' st)) Q) :
    own_Go p.tables e below (T.setTop (mkF m pc Ls (.int x :: st))) Q := by
  subst hq
  exact own_go (fun t => XS.istoreN (own_here A) C.1 rfl (hb C.2.1 hd) rfl hl) k
theorem own_lstoreN (C : own_Cx Z a0 p l e R s m args below meth c own nm bytes mx ret) (A : own_At p l e R s m args below meth c T h n0 kc ks) {k : Fin 4} {x : Int64} {l' : Array Slot} (hd : decode bytes pc = .ok (.lstore_n k, 1)) (hl : storeLocals Ls k.val (.long x) = some l') (hq : pc + 1 = q) (k : own_Go p.tables e below (T.setTop (mkF m q l' st)) Q) :
    own_Go p.tables e below (T.setTop (mkF m pc Ls (.long x :: st))) Q := by
  subst hq
  exact own_go (fun t => XS.lstoreN (own_here A) C.1 rfl (hb C.2.1 hd) rfl hl) k
theorem own_astoreN (C : own_Cx Z a0 p l e R s m args below meth c own nm bytes mx ret) (A : own_At p l e R s m args below meth c T h n0 kc ks) {k : Fin 4} {x : Value} {l' : Array Slot} (hd : decode bytes pc = .ok (.astore_n k, 1)) (hv : x.isRef = true) (hl : storeLocals Ls k.val x = some l') (hq : pc + 1 = q) (k : own_Go p.tables e below (T.setTop (mkF m q l' st)) Q) :
    own_Go p.tables e below (T.setTop (mkF m pc Ls (x :: st))) Q := by
  subst hq
  exact own_go (fun t => XS.astoreN (own_here A) C.1 rfl (hb C.2.1 hd) rfl hv hl) k
theorem own_iload (C : own_Cx Z a0 p l e R s m args below meth c own nm bytes mx ret) (A : own_At p l e R s m args below meth c T h n0 kc ks) {k : Nat} {v : Int32} (hd : decode bytes pc = .ok (.iload k, 2)) (hl : Ls[k]? = some (.val (.int v))) (hq : pc + 2 = q) (k : own_Go p.tables e below (T.setTop (mkF m q Ls (.int v :: st))) Q) :
    own_Go p.tables e below (T.setTop (mkF m pc Ls st)) Q := by
  subst hq
  exact own_go (fun t => XS.iload (own_here A) C.1 rfl (hb C.2.1 hd) hl) k
theorem own_lload (C : own_Cx Z a0 p l e R s m args below meth c own nm bytes mx ret) (A : own_At p l e R s m args below meth c T h n0 kc ks) {k : Nat} {v : Int64} (hd : decode bytes pc = .ok (.lload k, 2)) (hl : Ls[k]? = some (.val (.long v))) (hq : pc + 2 = q) (k : own_Go p.tables e below (T.setTop (mkF m q Ls (.long v :: st))) Q) :
    own_Go p.tables e below (T.setTop (mkF m pc Ls st)) Q := by
  subst hq
  exact own_go (fun t => XS.lload (own_here A) C.1 rfl (hb C.2.1 hd) hl) k
theorem own_aload (C : own_Cx Z a0 p l e R s m args below meth c own nm bytes mx ret) (A : own_At p l e R s m args below meth c T h n0 kc ks) {k : Nat} {v : Value} (hd : decode bytes pc = .ok (.aload k, 2)) (hl : Ls[k]? = some (.val v)) (hv : v.isRef = true) (hq : pc + 2 = q) (k : own_Go p.tables e below (T.setTop (mkF m q Ls (v :: st))) Q) :
    own_Go p.tables e below (T.setTop (mkF m pc Ls st)) Q := by
  subst hq
  exact own_go (fun t => XS.aload (own_here A) C.1 rfl (hb C.2.1 hd) hl hv) k
theorem own_istore (C : own_Cx Z a0 p l e R s m args below meth c own nm bytes mx ret) (A : own_At p l e R s m args below meth c T h n0 kc ks) {k : Nat} {x : Int32} {l' : Array Slot} (hd : decode bytes pc = .ok (.istore k, 2)) (hl : storeLocals Ls k (.int x) = some l') (hq : pc + 2 = q) (k : own_Go p.tables e below (T.setTop (mkF m q l' st)) Q) :
    own_Go p.tables e below (T.setTop (mkF m pc Ls (.int x :: st))) Q := by
  subst hq
  exact own_go (fun t => XS.istore (own_here A) C.1 rfl (hb C.2.1 hd) rfl hl) k
theorem own_lstore (C : own_Cx Z a0 p l e R s m args below meth c own nm bytes mx ret) (A : own_At p l e R s m args below meth c T h n0 kc ks) {k : Nat} {x : Int64} {l' : Array Slot} (hd : decode bytes pc = .ok (.lstore k, 2)) (hl : storeLocals Ls k (.long x) = some l') (hq : pc + 2 = q) (k : own_Go p.tables e below (T.setTop (mkF m q l' st)) Q) :
    own_Go p.tables e below (T.setTop (mkF m pc Ls (.long x :: st))) Q := by
  subst hq
  exact own_go (fun t => XS.lstore (own_here A) C.1 rfl (hb C.2.1 hd) rfl hl) k
theorem own_astore (C : own_Cx Z a0 p l e R s m args below meth c own nm bytes mx ret) (A : own_At p l e R s m args below meth c T h n0 kc ks) {k : Nat} {x : Value} {l' : Array Slot} (hd : decode bytes pc = .ok (.astore k, 2)) (hv : x.isRef = true) (hl : storeLocals Ls k x = some l') (hq : pc + 2 = q) (k : own_Go p.tables e below (T.setTop (mkF m q l' st)) Q) :
    own_Go p.tables e below (T.setTop (mkF m pc Ls (x :: st))) Q := by
  subst hq
  exact own_go (fun t => XS.astore (own_here A) C.1 rfl (hb C.2.1 hd) rfl hv hl) k
theorem own_iconst (C : own_Cx Z a0 p l e R s m args below meth c own nm bytes mx ret) (A : own_At p l e R s m args below meth c T h n0 kc ks) {i : Int} {v : Int32} (hd : decode bytes pc = .ok (.iconst i, 1)) (hv : Int32.ofInt i = v) (hq : pc + 1 = q) (k : own_Go p.tables e below (T.setTop (mkF m q Ls (.int v :: st))) Q) :
    own_Go p.tables e below (T.setTop (mkF m pc Ls st)) Q := by
  subst hq hv
  exact own_go (fun t => XS.iconst (own_here A) C.1 rfl (hb C.2.1 hd)) k
theorem own_bipush (C : own_Cx Z a0 p l e R s m args below meth c own nm bytes mx ret) (A : own_At p l e R s m args below meth c T h n0 kc ks) {i : Int} {v : Int32} (hd : decode bytes pc = .ok (.bipush i, 2)) (hv : (Int8.ofInt i).toInt32 = v) (hq : pc + 2 = q) (k : own_Go p.tables e below (T.setTop (mkF m q Ls (.int v :: st))) Q) :
    own_Go p.tables e below (T.setTop (mkF m pc Ls st)) Q := by
  subst hq hv
  exact own_go (fun t => XS.bipush (own_here A) C.1 rfl (hb C.2.1 hd)) k
theorem own_sipush (C : own_Cx Z a0 p l e R s m args below meth c own nm bytes mx ret) (A : own_At p l e R s m args below meth c T h n0 kc ks) {i : Int} {v : Int32} (hd : decode bytes pc = .ok (.sipush i, 3)) (hv : (Int16.ofInt i).toInt32 = v) (hq : pc + 3 = q) (k : own_Go p.tables e below (T.setTop (mkF m q Ls (.int v :: st))) Q) :
    own_Go p.tables e below (T.setTop (mkF m pc Ls st)) Q := by
  subst hq hv
  exact own_go (fun t => XS.sipush (own_here A) C.1 rfl (hb C.2.1 hd)) k
theorem own_lconst (C : own_Cx Z a0 p l e R s m args below meth c own nm bytes mx ret) (A : own_At p l e R s m args below meth c T h n0 kc ks) {k' : Fin 2} {v : Int64} (hd : decode bytes pc = .ok (.lconst k', 1)) (hv : Int64.ofNat k' = v) (hq : pc + 1 = q) (k : own_Go p.tables e below (T.setTop (mkF m q Ls (.long v :: st))) Q) :
    own_Go p.tables e below (T.setTop (mkF m pc Ls st)) Q := by
  subst hq hv
  exact own_go (fun t => XS.lconst (own_here A) C.1 rfl (hb C.2.1 hd)) k
theorem own_aconstNull (C : own_Cx Z a0 p l e R s m args below meth c own nm bytes mx ret) (A : own_At p l e R s m args below meth c T h n0 kc ks)  (hd : decode bytes pc = .ok (.aconst_null, 1))  (hq : pc + 1 = q) (k : own_Go p.tables e below (T.setTop (mkF m q Ls (.null :: st))) Q) :
    own_Go p.tables e below (T.setTop (mkF m pc Ls st)) Q := by
  subst hq
  exact own_go (fun t => XS.aconstNull (own_here A) C.1 rfl (hb C.2.1 hd) ) k
theorem own_iadd (C : own_Cx Z a0 p l e R s m args below meth c own nm bytes mx ret) (A : own_At p l e R s m args below meth c T h n0 kc ks) {x y : Int32} (hd : decode bytes pc = .ok (.iadd, 1))  (hq : pc + 1 = q) (k : own_Go p.tables e below (T.setTop (mkF m q Ls (.int (x + y) :: st))) Q) :
    own_Go p.tables e below (T.setTop (mkF m pc Ls (.int y :: .int x :: st))) Q := by
  subst hq
  exact own_go (fun t => XS.iadd (own_here A) C.1 rfl (hb C.2.1 hd) rfl) k
theorem own_isub (C : own_Cx Z a0 p l e R s m args below meth c own nm bytes mx ret) (A : own_At p l e R s m args below meth c T h n0 kc ks) {x y : Int32} (hd : decode bytes pc = .ok (.isub, 1))  (hq : pc + 1 = q) (k : own_Go p.tables e below (T.setTop (mkF m q Ls (.int (x - y) :: st))) Q) :
    own_Go p.tables e below (T.setTop (mkF m pc Ls (.int y :: .int x :: st))) Q := by
  subst hq
  exact own_go (fun t => XS.isub (own_here A) C.1 rfl (hb C.2.1 hd) rfl) k
theorem own_imul (C : own_Cx Z a0 p l e R s m args below meth c own nm bytes mx ret) (A : own_At p l e R s m args below meth c T h n0 kc ks) {x y : Int32} (hd : decode bytes pc = .ok (.imul, 1))  (hq : pc + 1 = q) (k : own_Go p.tables e below (T.setTop (mkF m q Ls (.int (x * y) :: st))) Q) :
    own_Go p.tables e below (T.setTop (mkF m pc Ls (.int y :: .int x :: st))) Q := by
  subst hq
  exact own_go (fun t => XS.imul (own_here A) C.1 rfl (hb C.2.1 hd) rfl) k
theorem own_iand (C : own_Cx Z a0 p l e R s m args below meth c own nm bytes mx ret) (A : own_At p l e R s m args below meth c T h n0 kc ks) {x y : Int32} (hd : decode bytes pc = .ok (.iand, 1))  (hq : pc + 1 = q) (k : own_Go p.tables e below (T.setTop (mkF m q Ls (.int (x &&& y) :: st))) Q) :
    own_Go p.tables e below (T.setTop (mkF m pc Ls (.int y :: .int x :: st))) Q := by
  subst hq
  exact own_go (fun t => XS.iand (own_here A) C.1 rfl (hb C.2.1 hd) rfl) k
theorem own_ior (C : own_Cx Z a0 p l e R s m args below meth c own nm bytes mx ret) (A : own_At p l e R s m args below meth c T h n0 kc ks) {x y : Int32} (hd : decode bytes pc = .ok (.ior, 1))  (hq : pc + 1 = q) (k : own_Go p.tables e below (T.setTop (mkF m q Ls (.int (x ||| y) :: st))) Q) :
    own_Go p.tables e below (T.setTop (mkF m pc Ls (.int y :: .int x :: st))) Q := by
  subst hq
  exact own_go (fun t => XS.ior (own_here A) C.1 rfl (hb C.2.1 hd) rfl) k
theorem own_ixor (C : own_Cx Z a0 p l e R s m args below meth c own nm bytes mx ret) (A : own_At p l e R s m args below meth c T h n0 kc ks) {x y : Int32} (hd : decode bytes pc = .ok (.ixor, 1))  (hq : pc + 1 = q) (k : own_Go p.tables e below (T.setTop (mkF m q Ls (.int (x ^^^ y) :: st))) Q) :
    own_Go p.tables e below (T.setTop (mkF m pc Ls (.int y :: .int x :: st))) Q := by
  subst hq
  exact own_go (fun t => XS.ixor (own_here A) C.1 rfl (hb C.2.1 hd) rfl) k
theorem own_ishl (C : own_Cx Z a0 p l e R s m args below meth c own nm bytes mx ret) (A : own_At p l e R s m args below meth c T h n0 kc ks) {x y : Int32} (hd : decode bytes pc = .ok (.ishl, 1))  (hq : pc + 1 = q) (k : own_Go p.tables e below (T.setTop (mkF m q Ls (.int (x <<< (y &&& 31)) :: st))) Q) :
    own_Go p.tables e below (T.setTop (mkF m pc Ls (.int y :: .int x :: st))) Q := by
  subst hq
  exact own_go (fun t => XS.ishl (own_here A) C.1 rfl (hb C.2.1 hd) rfl) k
theorem own_ishr (C : own_Cx Z a0 p l e R s m args below meth c own nm bytes mx ret) (A : own_At p l e R s m args below meth c T h n0 kc ks) {x y : Int32} (hd : decode bytes pc = .ok (.ishr, 1))  (hq : pc + 1 = q) (k : own_Go p.tables e below (T.setTop (mkF m q Ls (.int (x >>> (y &&& 31)) :: st))) Q) :
    own_Go p.tables e below (T.setTop (mkF m pc Ls (.int y :: .int x :: st))) Q := by
  subst hq
  exact own_go (fun t => XS.ishr (own_here A) C.1 rfl (hb C.2.1 hd) rfl) k
theorem own_iushr (C : own_Cx Z a0 p l e R s m args below meth c own nm bytes mx ret) (A : own_At p l e R s m args below meth c T h n0 kc ks) {x y : Int32} (hd : decode bytes pc = .ok (.iushr, 1))  (hq : pc + 1 = q) (k : own_Go p.tables e below (T.setTop (mkF m q Ls (.int ((x.toUInt32 >>> (y &&& 31).toUInt32).toInt32) :: st))) Q) :
    own_Go p.tables e below (T.setTop (mkF m pc Ls (.int y :: .int x :: st))) Q := by
  subst hq
  exact own_go (fun t => XS.iushr (own_here A) C.1 rfl (hb C.2.1 hd) rfl) k
theorem own_ladd (C : own_Cx Z a0 p l e R s m args below meth c own nm bytes mx ret) (A : own_At p l e R s m args below meth c T h n0 kc ks) {x y : Int64} (hd : decode bytes pc = .ok (.ladd, 1))  (hq : pc + 1 = q) (k : own_Go p.tables e below (T.setTop (mkF m q Ls (.long (x + y) :: st))) Q) :
    own_Go p.tables e below (T.setTop (mkF m pc Ls (.long y :: .long x :: st))) Q := by
  subst hq
  exact own_go (fun t => XS.ladd (own_here A) C.1 rfl (hb C.2.1 hd) rfl) k
theorem own_lsub (C : own_Cx Z a0 p l e R s m args below meth c own nm bytes mx ret) (A : own_At p l e R s m args below meth c T h n0 kc ks) {x y : Int64} (hd : decode bytes pc = .ok (.lsub, 1))  (hq : pc + 1 = q) (k : own_Go p.tables e below (T.setTop (mkF m q Ls (.long (x - y) :: st))) Q) :
    own_Go p.tables e below (T.setTop (mkF m pc Ls (.long y :: .long x :: st))) Q := by
  subst hq
  exact own_go (fun t => XS.lsub (own_here A) C.1 rfl (hb C.2.1 hd) rfl) k
theorem own_lmul (C : own_Cx Z a0 p l e R s m args below meth c own nm bytes mx ret) (A : own_At p l e R s m args below meth c T h n0 kc ks) {x y : Int64} (hd : decode bytes pc = .ok (.lmul, 1))  (hq : pc + 1 = q) (k : own_Go p.tables e below (T.setTop (mkF m q Ls (.long (x * y) :: st))) Q) :
    own_Go p.tables e below (T.setTop (mkF m pc Ls (.long y :: .long x :: st))) Q := by
  subst hq
  exact own_go (fun t => XS.lmul (own_here A) C.1 rfl (hb C.2.1 hd) rfl) k
theorem own_land (C : own_Cx Z a0 p l e R s m args below meth c own nm bytes mx ret) (A : own_At p l e R s m args below meth c T h n0 kc ks) {x y : Int64} (hd : decode bytes pc = .ok (.land, 1))  (hq : pc + 1 = q) (k : own_Go p.tables e below (T.setTop (mkF m q Ls (.long (x &&& y) :: st))) Q) :
    own_Go p.tables e below (T.setTop (mkF m pc Ls (.long y :: .long x :: st))) Q := by
  subst hq
  exact own_go (fun t => XS.land (own_here A) C.1 rfl (hb C.2.1 hd) rfl) k
theorem own_lor (C : own_Cx Z a0 p l e R s m args below meth c own nm bytes mx ret) (A : own_At p l e R s m args below meth c T h n0 kc ks) {x y : Int64} (hd : decode bytes pc = .ok (.lor, 1))  (hq : pc + 1 = q) (k : own_Go p.tables e below (T.setTop (mkF m q Ls (.long (x ||| y) :: st))) Q) :
    own_Go p.tables e below (T.setTop (mkF m pc Ls (.long y :: .long x :: st))) Q := by
  subst hq
  exact own_go (fun t => XS.lor (own_here A) C.1 rfl (hb C.2.1 hd) rfl) k
theorem own_lxor (C : own_Cx Z a0 p l e R s m args below meth c own nm bytes mx ret) (A : own_At p l e R s m args below meth c T h n0 kc ks) {x y : Int64} (hd : decode bytes pc = .ok (.lxor, 1))  (hq : pc + 1 = q) (k : own_Go p.tables e below (T.setTop (mkF m q Ls (.long (x ^^^ y) :: st))) Q) :
    own_Go p.tables e below (T.setTop (mkF m pc Ls (.long y :: .long x :: st))) Q := by
  subst hq
  exact own_go (fun t => XS.lxor (own_here A) C.1 rfl (hb C.2.1 hd) rfl) k
theorem own_lshl (C : own_Cx Z a0 p l e R s m args below meth c own nm bytes mx ret) (A : own_At p l e R s m args below meth c T h n0 kc ks) {x : Int64} {y : Int32} (hd : decode bytes pc = .ok (.lshl, 1))  (hq : pc + 1 = q) (k : own_Go p.tables e below (T.setTop (mkF m q Ls (.long (x <<< (y &&& 0x3f).toInt64) :: st))) Q) :
    own_Go p.tables e below (T.setTop (mkF m pc Ls (.int y :: .long x :: st))) Q := by
  subst hq
  exact own_go (fun t => XS.lshl (own_here A) C.1 rfl (hb C.2.1 hd) rfl) k
theorem own_lshr (C : own_Cx Z a0 p l e R s m args below meth c own nm bytes mx ret) (A : own_At p l e R s m args below meth c T h n0 kc ks) {x : Int64} {y : Int32} (hd : decode bytes pc = .ok (.lshr, 1))  (hq : pc + 1 = q) (k : own_Go p.tables e below (T.setTop (mkF m q Ls (.long (x >>> (y &&& 0x3f).toInt64) :: st))) Q) :
    own_Go p.tables e below (T.setTop (mkF m pc Ls (.int y :: .long x :: st))) Q := by
  subst hq
  exact own_go (fun t => XS.lshr (own_here A) C.1 rfl (hb C.2.1 hd) rfl) k
theorem own_lushr (C : own_Cx Z a0 p l e R s m args below meth c own nm bytes mx ret) (A : own_At p l e R s m args below meth c T h n0 kc ks) {x : Int64} {y : Int32} (hd : decode bytes pc = .ok (.lushr, 1))  (hq : pc + 1 = q) (k : own_Go p.tables e below (T.setTop (mkF m q Ls (.long ((x.toUInt64 >>> (y &&& 0x3f).toInt64.toUInt64).toInt64) :: st))) Q) :
    own_Go p.tables e below (T.setTop (mkF m pc Ls (.int y :: .long x :: st))) Q := by
  subst hq
  exact own_go (fun t => XS.lushr (own_here A) C.1 rfl (hb C.2.1 hd) rfl) k
theorem own_irem (C : own_Cx Z a0 p l e R s m args below meth c own nm bytes mx ret) (A : own_At p l e R s m args below meth c T h n0 kc ks) {x y : Int32} (hd : decode bytes pc = .ok (.irem, 1)) (hy : y ≠ 0) (hq : pc + 1 = q) (k : own_Go p.tables e below (T.setTop (mkF m q Ls (.int (x % y) :: st))) Q) :
    own_Go p.tables e below (T.setTop (mkF m pc Ls (.int y :: .int x :: st))) Q := by
  obtain ⟨_, _, _, X, _⟩ := A
  subst hq
  exact own_go (fun t => iremM (g := mkF m pc Ls (.int y :: .int x :: st)) X C.1 rfl (hb C.2.1 hd) rfl hy) k
theorem own_lrem (C : own_Cx Z a0 p l e R s m args below meth c own nm bytes mx ret) (A : own_At p l e R s m args below meth c T h n0 kc ks) {x y : Int64} (hd : decode bytes pc = .ok (.lrem, 1)) (hy : y ≠ 0) (hq : pc + 1 = q) (k : own_Go p.tables e below (T.setTop (mkF m q Ls (.long (x % y) :: st))) Q) :
    own_Go p.tables e below (T.setTop (mkF m pc Ls (.long y :: .long x :: st))) Q := by
  subst hq
  rw [← lrem_mod x y] at k
  exact own_go (fun t => XS.lrem (own_here A) C.1 rfl (hb C.2.1 hd) rfl hy) k
theorem own_idiv (C : own_Cx Z a0 p l e R s m args below meth c own nm bytes mx ret) (A : own_At p l e R s m args below meth c T h n0 kc ks) {x y : Int32} (hd : decode bytes pc = .ok (.idiv, 1)) (hy : y ≠ 0) (hq : pc + 1 = q) (k : own_Go p.tables e below (T.setTop (mkF m q Ls (.int (x / y) :: st))) Q) :
    own_Go p.tables e below (T.setTop (mkF m pc Ls (.int y :: .int x :: st))) Q := by
  subst hq
  exact own_go (fun t => XS.idiv (own_here A) C.1 rfl (hb C.2.1 hd) rfl hy) k
theorem own_ldiv (C : own_Cx Z a0 p l e R s m args below meth c own nm bytes mx ret) (A : own_At p l e R s m args below meth c T h n0 kc ks) {x y : Int64} (hd : decode bytes pc = .ok (.ldiv, 1)) (hy : y ≠ 0) (hq : pc + 1 = q) (k : own_Go p.tables e below (T.setTop (mkF m q Ls (.long (x / y) :: st))) Q) :
    own_Go p.tables e below (T.setTop (mkF m pc Ls (.long y :: .long x :: st))) Q := by
  subst hq
  exact own_go (fun t => XS.ldiv (own_here A) C.1 rfl (hb C.2.1 hd) rfl hy) k
theorem own_ineg (C : own_Cx Z a0 p l e R s m args below meth c own nm bytes mx ret) (A : own_At p l e R s m args below meth c T h n0 kc ks) {x : Int32} (hd : decode bytes pc = .ok (.ineg, 1))  (hq : pc + 1 = q) (k : own_Go p.tables e below (T.setTop (mkF m q Ls (.int (-x) :: st))) Q) :
    own_Go p.tables e below (T.setTop (mkF m pc Ls (.int x :: st))) Q := by
  subst hq
  exact own_go (fun t => XS.ineg (own_here A) C.1 rfl (hb C.2.1 hd) rfl) k
theorem own_lneg (C : own_Cx Z a0 p l e R s m args below meth c own nm bytes mx ret) (A : own_At p l e R s m args below meth c T h n0 kc ks) {x : Int64} (hd : decode bytes pc = .ok (.lneg, 1))  (hq : pc + 1 = q) (k : own_Go p.tables e below (T.setTop (mkF m q Ls (.long (-x) :: st))) Q) :
    own_Go p.tables e below (T.setTop (mkF m pc Ls (.long x :: st))) Q := by
  subst hq
  exact own_go (fun t => XS.lneg (own_here A) C.1 rfl (hb C.2.1 hd) rfl) k
theorem own_i2b (C : own_Cx Z a0 p l e R s m args below meth c own nm bytes mx ret) (A : own_At p l e R s m args below meth c T h n0 kc ks) {x : Int32} (hd : decode bytes pc = .ok (.i2b, 1))  (hq : pc + 1 = q) (k : own_Go p.tables e below (T.setTop (mkF m q Ls (.int (x.toInt8.toInt32) :: st))) Q) :
    own_Go p.tables e below (T.setTop (mkF m pc Ls (.int x :: st))) Q := by
  subst hq
  exact own_go (fun t => XS.i2b (own_here A) C.1 rfl (hb C.2.1 hd) rfl) k
theorem own_i2c (C : own_Cx Z a0 p l e R s m args below meth c own nm bytes mx ret) (A : own_At p l e R s m args below meth c T h n0 kc ks) {x : Int32} (hd : decode bytes pc = .ok (.i2c, 1))  (hq : pc + 1 = q) (k : own_Go p.tables e below (T.setTop (mkF m q Ls (.int (x.toUInt32.toUInt16.toUInt32.toInt32) :: st))) Q) :
    own_Go p.tables e below (T.setTop (mkF m pc Ls (.int x :: st))) Q := by
  subst hq
  exact own_go (fun t => XS.i2c (own_here A) C.1 rfl (hb C.2.1 hd) rfl) k
theorem own_i2s (C : own_Cx Z a0 p l e R s m args below meth c own nm bytes mx ret) (A : own_At p l e R s m args below meth c T h n0 kc ks) {x : Int32} (hd : decode bytes pc = .ok (.i2s, 1))  (hq : pc + 1 = q) (k : own_Go p.tables e below (T.setTop (mkF m q Ls (.int (x.toInt16.toInt32) :: st))) Q) :
    own_Go p.tables e below (T.setTop (mkF m pc Ls (.int x :: st))) Q := by
  subst hq
  exact own_go (fun t => XS.i2s (own_here A) C.1 rfl (hb C.2.1 hd) rfl) k
theorem own_i2l (C : own_Cx Z a0 p l e R s m args below meth c own nm bytes mx ret) (A : own_At p l e R s m args below meth c T h n0 kc ks) {x : Int32} (hd : decode bytes pc = .ok (.i2l, 1))  (hq : pc + 1 = q) (k : own_Go p.tables e below (T.setTop (mkF m q Ls (.long x.toInt64 :: st))) Q) :
    own_Go p.tables e below (T.setTop (mkF m pc Ls (.int x :: st))) Q := by
  subst hq
  exact own_go (fun t => XS.i2l (own_here A) C.1 rfl (hb C.2.1 hd) rfl) k
theorem own_l2i (C : own_Cx Z a0 p l e R s m args below meth c own nm bytes mx ret) (A : own_At p l e R s m args below meth c T h n0 kc ks) {x : Int64} (hd : decode bytes pc = .ok (.l2i, 1))  (hq : pc + 1 = q) (k : own_Go p.tables e below (T.setTop (mkF m q Ls (.int x.toInt32 :: st))) Q) :
    own_Go p.tables e below (T.setTop (mkF m pc Ls (.long x :: st))) Q := by
  subst hq
  exact own_go (fun t => XS.l2i (own_here A) C.1 rfl (hb C.2.1 hd) rfl) k
theorem own_lcmp (C : own_Cx Z a0 p l e R s m args below meth c own nm bytes mx ret) (A : own_At p l e R s m args below meth c T h n0 kc ks) {x y : Int64} (hd : decode bytes pc = .ok (.lcmp, 1))  (hq : pc + 1 = q) (k : own_Go p.tables e below (T.setTop (mkF m q Ls (.int (Jvm.Free.XT.cmpL x y) :: st))) Q) :
    own_Go p.tables e below (T.setTop (mkF m pc Ls (.long y :: .long x :: st))) Q := by
  subst hq
  exact own_go (fun t => Jvm.Free.XT.lcmp (own_here A) C.1 rfl (hb C.2.1 hd) rfl) k
theorem own_iinc (C : own_Cx Z a0 p l e R s m args below meth c own nm bytes mx ret) (A : own_At p l e R s m args below meth c T h n0 kc ks) {k' : Nat} {i : Int} {x : Int32} {l' : Array Slot} (hd : decode bytes pc = .ok (.iinc k' i, 3)) (hl : Ls[k']? = some (.val (.int x))) (hl' : storeLocals Ls k' (.int (x + Int32.ofInt i)) = some l') (hq : pc + 3 = q) (k : own_Go p.tables e below (T.setTop (mkF m q l' st)) Q) :
    own_Go p.tables e below (T.setTop (mkF m pc Ls st)) Q := by
  subst hq
  exact own_go (fun t => XS.iinc (own_here A) C.1 rfl (hb C.2.1 hd) hl hl') k
theorem own_istoreX (C : own_Cx Z a0 p l e R s m args below meth c own nm bytes mx ret) (A : own_At p l e R s m args below meth c T h n0 kc ks) {k' : Nat} {x : Int32} {o : Slot} {l' : Array Slot} (hd : decode bytes pc = .ok (.istore k', 2)) (hold : Ls[k']? = some o) (ho : One o) (hl : Ls.setIfInBounds k' (.val (.int x)) = l') (hq : pc + 2 = q) (k : own_Go p.tables e below (T.setTop (mkF m q l' st)) Q) :
    own_Go p.tables e below (T.setTop (mkF m pc Ls (.int x :: st))) Q := by
  subst hq hl
  exact own_go (fun t => XS.istoreS (own_here A) C.1 rfl (hb C.2.1 hd) rfl hold ho) k
theorem own_pop (C : own_Cx Z a0 p l e R s m args below meth c own nm bytes mx ret) (A : own_At p l e R s m args below meth c T h n0 kc ks) {x : Value} (hd : decode bytes pc = .ok (.pop, 1)) (hc : x.category = 1) (hq : pc + 1 = q) (k : own_Go p.tables e below (T.setTop (mkF m q Ls st)) Q) :
    own_Go p.tables e below (T.setTop (mkF m pc Ls (x :: st))) Q := by
  subst hq
  exact own_go (fun t => XS.pop (own_here A) C.1 rfl (hb C.2.1 hd) rfl hc) k
theorem own_dup (C : own_Cx Z a0 p l e R s m args below meth c own nm bytes mx ret) (A : own_At p l e R s m args below meth c T h n0 kc ks) {x : Value} (hd : decode bytes pc = .ok (.dup, 1)) (hc : x.category = 1) (hq : pc + 1 = q) (k : own_Go p.tables e below (T.setTop (mkF m q Ls (x :: x :: st))) Q) :
    own_Go p.tables e below (T.setTop (mkF m pc Ls (x :: st))) Q := by
  subst hq
  exact own_go (fun t => XS.dup (own_here A) C.1 rfl (hb C.2.1 hd) rfl hc) k
theorem own_dupX1 (C : own_Cx Z a0 p l e R s m args below meth c own nm bytes mx ret) (A : own_At p l e R s m args below meth c T h n0 kc ks) {x y : Value} (hd : decode bytes pc = .ok (.dup_x1, 1)) (hc : x.category = 1) (hc' : y.category = 1) (hq : pc + 1 = q) (k : own_Go p.tables e below (T.setTop (mkF m q Ls (x :: y :: x :: st))) Q) :
    own_Go p.tables e below (T.setTop (mkF m pc Ls (x :: y :: st))) Q := by
  subst hq
  exact own_go (fun t => XS.dupX1 (own_here A) C.1 rfl (hb C.2.1 hd) rfl hc hc') k
theorem own_dup2L (C : own_Cx Z a0 p l e R s m args below meth c own nm bytes mx ret) (A : own_At p l e R s m args below meth c T h n0 kc ks) {x : Int64} (hd : decode bytes pc = .ok (.dup2, 1))  (hq : pc + 1 = q) (k : own_Go p.tables e below (T.setTop (mkF m q Ls (.long x :: .long x :: st))) Q) :
    own_Go p.tables e below (T.setTop (mkF m pc Ls (.long x :: st))) Q := by
  subst hq
  exact own_go (fun t => Jvm.Free.XT.dup2L (own_here A) C.1 rfl (hb C.2.1 hd) rfl) k
theorem own_dup2 (C : own_Cx Z a0 p l e R s m args below meth c own nm bytes mx ret) (A : own_At p l e R s m args below meth c T h n0 kc ks) {x y : Value} (hd : decode bytes pc = .ok (.dup2, 1)) (hc : x.category = 1) (hc' : y.category = 1) (hq : pc + 1 = q) (k : own_Go p.tables e below (T.setTop (mkF m q Ls (x :: y :: x :: y :: st))) Q) :
    own_Go p.tables e below (T.setTop (mkF m pc Ls (x :: y :: st))) Q := by
  subst hq
  exact own_go (fun t => Jvm.Free.XT.dup2 (own_here A) C.1 rfl (hb C.2.1 hd) rfl hc hc') k
theorem own_goto (C : own_Cx Z a0 p l e R s m args below meth c own nm bytes mx ret) (A : own_At p l e R s m args below meth c T h n0 kc ks) {i : Int} (hd : decode bytes pc = .ok (.goto i, 3)) (ho : 0 ≤ (pc : Int) + i) (hq : ((pc : Int) + i).toNat = q) (k : own_Go p.tables e below (T.setTop (mkF m q Ls st)) Q) :
    own_Go p.tables e below (T.setTop (mkF m pc Ls st)) Q := own_go (fun t => XS.goto (own_here A) C.1 rfl rfl (hb C.2.1 hd) ho hq) k
theorem own_icmpY (C : own_Cx Z a0 p l e R s m args below meth c own nm bytes mx ret) (A : own_At p l e R s m args below meth c T h n0 kc ks) {cd : ClassFile.Cond} {i : Int} {x y : Int32} (hd : decode bytes pc = .ok (.if_icmp cd i, 3)) (hc : if_icmp.holds cd x y = true) (ho : 0 ≤ (pc : Int) + i) (hq : ((pc : Int) + i).toNat = q) (k : own_Go p.tables e below (T.setTop (mkF m q Ls st)) Q) :
    own_Go p.tables e below (T.setTop (mkF m pc Ls (.int y :: .int x :: st))) Q := own_go (fun t => XS.icmpYes (own_here A) C.1 rfl rfl (hb C.2.1 hd) rfl hc ho hq) k
theorem own_icmpN (C : own_Cx Z a0 p l e R s m args below meth c own nm bytes mx ret) (A : own_At p l e R s m args below meth c T h n0 kc ks) {cd : ClassFile.Cond} {i : Int} {x y : Int32} (hd : decode bytes pc = .ok (.if_icmp cd i, 3)) (hc : if_icmp.holds cd x y = false) (hq : pc + 3 = q) (k : own_Go p.tables e below (T.setTop (mkF m q Ls st)) Q) :
    own_Go p.tables e below (T.setTop (mkF m pc Ls (.int y :: .int x :: st))) Q := by
  subst hq
  exact own_go (fun t => XS.icmpNo (own_here A) C.1 rfl (hb C.2.1 hd) rfl hc) k
theorem own_ifY (C : own_Cx Z a0 p l e R s m args below meth c own nm bytes mx ret) (A : own_At p l e R s m args below meth c T h n0 kc ks) {cd : ClassFile.Cond} {i : Int} {x : Int32} (hd : decode bytes pc = .ok (.ifCond cd i, 3)) (hc : ifCond.holds cd x = true) (ho : 0 ≤ (pc : Int) + i) (hq : ((pc : Int) + i).toNat = q) (k : own_Go p.tables e below (T.setTop (mkF m q Ls st)) Q) :
    own_Go p.tables e below (T.setTop (mkF m pc Ls (.int x :: st))) Q := own_go (fun t => XS.ifYes (own_here A) C.1 rfl rfl (hb C.2.1 hd) rfl hc ho hq) k
theorem own_ifN (C : own_Cx Z a0 p l e R s m args below meth c own nm bytes mx ret) (A : own_At p l e R s m args below meth c T h n0 kc ks) {cd : ClassFile.Cond} {i : Int} {x : Int32} (hd : decode bytes pc = .ok (.ifCond cd i, 3)) (hc : ifCond.holds cd x = false) (hq : pc + 3 = q) (k : own_Go p.tables e below (T.setTop (mkF m q Ls st)) Q) :
    own_Go p.tables e below (T.setTop (mkF m pc Ls (.int x :: st))) Q := by
  subst hq
  exact own_go (fun t => XS.ifNo (own_here A) C.1 rfl (hb C.2.1 hd) rfl hc) k
theorem own_ldcI (C : own_Cx Z a0 p l e R s m args below meth c own nm bytes mx ret) (A : own_At p l e R s m args below meth c T h n0 kc ks) {i : Nat} {v : Int32} (w : (Jvm.Cond.constant own i v).before a0 Z = true) (hd : decode bytes pc = .ok (.ldc i, 2)) (hq : pc + 2 = q) (k : own_Go p.tables e below (T.setTop (mkF m q Ls (.int v :: st))) Q) :
    own_Go p.tables e below (T.setTop (mkF m pc Ls st)) Q := by
  obtain ⟨_, _, _, X, _⟩ := A
  subst hq
  exact own_go (X.ldcInt C.1 C.2.2.2.1 (mvT C.2.2.2.2.1 w) (g := mkF m pc Ls st) rfl (hb C.2.1 hd)) k
theorem own_ldcJ (C : own_Cx Z a0 p l e R s m args below meth c own nm bytes mx ret) (A : own_At p l e R s m args below meth c T h n0 kc ks) {i : Nat} {v : Int64} (w : (Jvm.Cond.constantLong own i v).before a0 Z = true) (hd : decode bytes pc = .ok (.ldc2_w i, 3)) (hq : pc + 3 = q) (k : own_Go p.tables e below (T.setTop (mkF m q Ls (.long v :: st))) Q) :
    own_Go p.tables e below (T.setTop (mkF m pc Ls st)) Q := by
  obtain ⟨_, _, _, X, _⟩ := A
  subst hq
  exact own_go (X.ldc2Long C.1 C.2.2.2.1 (mvT C.2.2.2.2.1 w) (g := mkF m pc Ls st) rfl (hb C.2.1 hd)) k
theorem own_retI {z : Int32} (C : own_Cx Z a0 p l e R s m args below meth c own nm bytes mx (some .int)) (A : own_At p l e R s m args below meth c T h n0 kc ks) {P : Option Value → Heap → Prop}  (hd : decode bytes pc = .ok (.ireturn, 1)) (hP : P (some (.int z)) h) :
    own_Go p.tables e below (T.setTop (mkF m pc Ls [.int z])) (own_QR s n0 kc ks P) := by
  obtain ⟨locs, cells, slots, X, eT, N, hc, hs, hn⟩ := A
  have hr' := C.2.2.2.2.2.2.1
  obtain ⟨fs, hr, hrun, hended, hW, hsame⟩ := X.leave (v := (some (.int z))) (fun hh => by first | rfl | (rw [hr'] at hh; cases hh)) C.2.2.2.2.2.2.2.1
  have eF : (T.setFrames fs).heap = h := eT
  exact ⟨_, _, X.ireturnOut C.1 hr' rfl (Or.inl rfl) (hb C.2.1 hd) hr, hrun, hended, _, locs, rfl, ⟨by rw [eF]; exact hP, N⟩, ⟨_, rfl⟩, hW, hsame.mono hc hs⟩
theorem own_retJ {z : Int64} (C : own_Cx Z a0 p l e R s m args below meth c own nm bytes mx (some .long)) (A : own_At p l e R s m args below meth c T h n0 kc ks) {P : Option Value → Heap → Prop}  (hd : decode bytes pc = .ok (.lreturn, 1)) (hP : P (some (.long z)) h) :
    own_Go p.tables e below (T.setTop (mkF m pc Ls [.long z])) (own_QR s n0 kc ks P) := by
  obtain ⟨locs, cells, slots, X, eT, N, hc, hs, hn⟩ := A
  have hr' := C.2.2.2.2.2.2.1
  obtain ⟨fs, hr, hrun, hended, hW, hsame⟩ := X.leave (v := (some (.long z))) (fun hh => by first | rfl | (rw [hr'] at hh; cases hh)) C.2.2.2.2.2.2.2.1
  have eF : (T.setFrames fs).heap = h := eT
  exact ⟨_, _, X.lreturnOut C.1 hr' (hb C.2.1 hd) hr, hrun, hended, _, locs, rfl, ⟨by rw [eF]; exact hP, N⟩, ⟨_, rfl⟩, hW, hsame.mono hc hs⟩
theorem own_retA {a : Addr} {t : FieldType} (C : own_Cx Z a0 p l e R s m args below meth c own nm bytes mx (some t)) (A : own_At p l e R s m args below meth c T h n0 kc ks) {P : Option Value → Heap → Prop} (hta : t.isReference = true) (hna : narrow t (.ref a) = .ref a) (hd : decode bytes pc = .ok (.areturn, 1)) (hP : P (some (.ref a)) h) :
    own_Go p.tables e below (T.setTop (mkF m pc Ls (.ref a :: st))) (own_QR s n0 kc ks P) := by
  obtain ⟨locs, cells, slots, X, eT, N, hc, hs, hn⟩ := A
  have hr' := C.2.2.2.2.2.2.1
  obtain ⟨fs, hr, hrun, hended, hW, hsame⟩ := X.leave (v := (some (.ref a))) (fun hh => by first | rfl | (rw [hr'] at hh; cases hh)) C.2.2.2.2.2.2.2.1
  have eF : (T.setFrames fs).heap = h := eT
  exact ⟨_, _, retOut X C.1 hr' hna (Or.inr (Or.inr (Or.inr (Or.inr ⟨rfl, hta, rfl⟩)))) (hb C.2.1 hd) hr, hrun, hended, _, locs, rfl, ⟨by rw [eF]; exact hP, N⟩, ⟨_, rfl⟩, hW, hsame.mono hc hs⟩
theorem own_ret0  (C : own_Cx Z a0 p l e R s m args below meth c own nm bytes mx none) (A : own_At p l e R s m args below meth c T h n0 kc ks) {P : Option Value → Heap → Prop}  (hd : decode bytes pc = .ok (.return_, 1)) (hP : P none h) :
    own_Go p.tables e below (T.setTop (mkF m pc Ls [])) (own_QR s n0 kc ks P) := by
  obtain ⟨locs, cells, slots, X, eT, N, hc, hs, hn⟩ := A
  have hr' := C.2.2.2.2.2.2.1
  obtain ⟨fs, hr, hrun, hended, hW, hsame⟩ := X.leave (v := none) (fun hh => by first | rfl | (rw [hr'] at hh; cases hh)) C.2.2.2.2.2.2.2.1
  have eF : (T.setFrames fs).heap = h := eT
  exact ⟨_, _, X.returnOut C.1 hr' (hb C.2.1 hd) hr, hrun, hended, _, locs, rfl, ⟨by rw [eF]; exact hP, N⟩, ⟨_, rfl⟩, hW, hsame.mono hc hs⟩
theorem own_retN {z : Int32} {t : FieldType} (C : own_Cx Z a0 p l e R s m args below meth c own nm bytes mx (some t)) (A : own_At p l e R s m args below meth c T h n0 kc ks) {P : Option Value → Heap → Prop} (ht : t = .boolean ∨ t = .byte ∨ t = .char ∨ t = .short) (hd : decode bytes pc = .ok (.ireturn, 1)) (hP : P (some (.int (nar t z))) h) :
    own_Go p.tables e below (T.setTop (mkF m pc Ls (.int z :: st))) (own_QR s n0 kc ks P) := by
  obtain ⟨locs, cells, slots, X, eT, N, hc, hs, hn⟩ := A
  have hr' := C.2.2.2.2.2.2.1
  obtain ⟨fs, hr, hrun, hended, hW, hsame⟩ := X.leave (v := (some (.int (nar t z)))) (fun hh => by first | rfl | (rw [hr'] at hh; cases hh)) C.2.2.2.2.2.2.2.1
  have eF : (T.setFrames fs).heap = h := eT
  exact ⟨_, _, retN X C.1 hr' ht (hb C.2.1 hd) hr, hrun, hended, _, locs, rfl, ⟨by rw [eF]; exact hP, N⟩, ⟨_, rfl⟩, hW, hsame.mono hc hs⟩
theorem own_met {y : MethodName} {ws : List Jvm.Cond} {as' : Array Value} {P : Option Value → Heap → Prop} (hpl : plainFor y = true) (hw : ∀ d ∈ tables_1, d.before a0 Z = true) (hn : n0 ≤ h.size) (hef : ∀ m, entryFrame m as' mx = mkF m 0 Ls [])
    (body : ∀ p e s m below meth c T, own_Cx Z a0 p l e R s m as' below meth c y.cls y.name bytes mx ret → own_At p l e R s m as' below meth c T h n0 0 0 → own_Go p.tables e below (T.setTop (mkF m 0 Ls [])) (own_QR s n0 kc ks P)) :
    MetFree l y (head1 (Jvm.Cond.code y bytes mx ret :: ws) R) (fun a U => a = as' ∧ Z.Warmed39 U.vm ∧ U.heap = h) (fun _ _ _ _ _ => True) (fun _ U o U' => own_QR U n0 kc ks P o U') := by
  refine MetFree.of_bodySF hpl hisR ?_
  intro p e s m args below meth c s₁ Bd hml0 hP hK
  obtain ⟨rfl, hZ, hh⟩ := hP
  have C : own_Cx Z a0 p l e R s m args below meth c y.cls y.name bytes mx ret := ⟨Bd.exec, Bd.bytes, hml0, findClass_of_methodNamed Bd.named, hZ, (name_of_methodNamed Bd.named Bd.method).1, Bd.returns, Bd.notSynchronized, hw⟩
  have A : own_At p l e R s m args below meth c s₁ h n0 0 0 := ⟨[], 0, 0, Stand.of_body Bd, by rw [← hh, Bd.state]; rfl, Fr.nil n0, Nat.le_refl _, Nat.le_refl _, hn⟩
  have k := body p e s m below meth c s₁ C A
  rw [← hef m] at k
  exact k
theorem own_backQ {y : MethodName} {by' : ByteArray} {mx' : Nat} {rt : Option FieldType} {rm : Room} {as' : Array Value} {P : Option Value → Heap → Prop} (hM : MetFree l y (head1 [Jvm.Cond.code y by' mx' rt] rm) (fun a U => a = as' ∧ Z.Warmed39 U.vm ∧ U.heap = h) (fun _ _ _ _ _ => True) (fun _ U o U' => own_QR U n0 rm.cells rm.slots P o U')) :
    MetFree l y (head1 [Jvm.Cond.code y by' mx' rt] rm) (fun a U => a = as' ∧ Z.Warmed39 U.vm ∧ U.heap = h) (fun _ _ _ _ _ => True) (fun _ U o U' => ∃ v L, o = .returned v ∧ (P v U'.heap ∧ Fr n0 L ∧ h.size ≤ U'.heap.size) ∧ FrameEnd U o U' L rm.cells rm.slots) := by
  intro p e ha hc hk s m args below hf happ hP hK
  obtain ⟨n, o, h1, h2, h3, v, L, e1, ⟨hp, hl⟩, hF⟩ := hM p e ha hc hk s m args below hf happ hP hK
  refine ⟨n, o, h1, h2, h3, v, L, e1, ⟨hp, hl, ?_⟩, hF⟩
  have := hF.2.2.2.1
  rw [← hP.2.2]
  exact this
theorem own_callS (C : own_Cx Z a0 p l e R s m args below meth c own nm bytes mx ret) (A : own_At p l e R s m args below meth c T h n0 kc ks) {i : Nat} {y : MethodName} {by' : ByteArray} {mx' : Nat} {rt : Option FieldType} {rm : Room} (W : Nat) {as' : Array Value} (argsL rest : List Value) {P : Option Value → Heap → Prop} (w1 : (Jvm.Cond.methodLink own i y).before a0 Z = true) (w2 : (Jvm.Cond.static y).before a0 Z = true) (w3 : (Jvm.Cond.initialized y.cls).before a0 Z = true) (w4 : (Jvm.Cond.code y by' mx' rt).before a0 Z = true) (hy : y.cls ≠ "java/lang/invoke/MethodHandle" ∧ y.cls ≠ "java/lang/invoke/VarHandle")
    (hM : MetFree l y (head1 [Jvm.Cond.code y by' mx' rt] rm) (fun a U => a = as' ∧ Z.Warmed39 U.vm ∧ U.heap = h) (fun _ _ _ _ _ => True) (fun _ U o U' => own_QR U n0 rm.cells rm.slots P o U'))
    (hf : rm.frames + 1 ≤ R.frames) (hl : W + (mx' + 11) + rm.locals ≤ R.locals) (hc : kc + rm.cells ≤ R.cells) (hs : ks + rm.slots ≤ R.slots) {ps : List FieldType} (hpd : parseMethodDescriptor y.desc = some ⟨ps, rt⟩) (hlen : argsL.length = ps.length) (has : argsL.toArray = as') (hst : st = argsL.reverse ++ rest) (hW : (rest.map fun v => v.category).sum ≤ W) (hsz : Ls.size = mx) (hd : decode bytes pc = .ok (.invokestatic i, 3)) (hq : pc + 3 = q)
    (k : ∀ v T' h', P v h' → own_At p l e R s m args below meth c T' h' n0 (kc + rm.cells) (ks + rm.slots) → own_Go p.tables e below (T'.setTop (mkF m q Ls (v.toList ++ rest))) Q) :
    own_Go p.tables e below (T.setTop (mkF m pc Ls st)) Q := by
  obtain ⟨locs, cells, slots, X, eT, N, hc', hs', hn⟩ := A
  obtain ⟨v, _, ⟨T', L', k', n'⟩, -, X', ⟨Lc, hQ, hB1, hB2, hB3⟩, st'⟩ := Jvm.LawKit.callS X C.1 (y := y) C.2.2.2.1 (mvT C.2.2.2.2.1 w1) (mvT C.2.2.2.2.1 w2) (mvT C.2.2.2.2.1 w3) (mvT C.2.2.2.2.1 w4) hy (backOf (W := W) (Q := fun v h' L => P v h' ∧ Fr n0 L ∧ h.size ≤ h'.size) (own_backQ hM) C.2.2.2.2.1 w4 w3 hf hl) (g := mkF m pc Ls st) rfl (by rw [C.2.2.1]; exact hsz) (argsL := argsL) (rest := rest) (lenOf hpd hlen) hst (by show 2 * 0 + _ ≤ _; omega) (hb C.2.1 hd) (fun _ _ => ⟨has, eT, Nat.le_trans (Nat.add_le_add_right hc' _) hc, Nat.le_trans (Nat.add_le_add_right hs' _) hs⟩)
  dsimp only [Pt.U, Pt.locs, Pt.cells, Pt.slots] at X' hB1 hB2 hB3 st' hQ
  subst hq hB1 hB2 hB3
  exact own_go st' (k v T' T'.heap hQ.1 ⟨_, _, _, X', rfl, N.app hQ.2.1, by omega, by omega, Nat.le_trans hn hQ.2.2⟩)
theorem own_callC (C : own_Cx Z a0 p l e R s m args below meth c own nm bytes mx ret) (A : own_At p l e R s m args below meth c T h n0 kc ks) {i : Nat} {y : MethodName} {by' : ByteArray} {mx' : Nat} {rm : Room} (W : Nat) {as' : Array Value} (argsL rest : List Value) {P : Option Value → Heap → Prop} {a : Addr} (hy1 : y.name = "<init>") (w1 : (Jvm.Cond.methodLink own i y).before a0 Z = true) (w2 : (Jvm.Cond.instanceMethod y).before a0 Z = true) (w3 : (Jvm.Cond.initialized y.cls).before a0 Z = true) (w4 : (Jvm.Cond.code y by' mx' none).before a0 Z = true) (hy : y.cls ≠ "java/lang/invoke/MethodHandle" ∧ y.cls ≠ "java/lang/invoke/VarHandle")
    (hM : MetFree l y (head1 [Jvm.Cond.code y by' mx' none] rm) (fun a U => a = as' ∧ Z.Warmed39 U.vm ∧ U.heap = h) (fun _ _ _ _ _ => True) (fun _ U o U' => own_QR U n0 rm.cells rm.slots P o U'))
    (hf : rm.frames + 1 ≤ R.frames) (hl : W + (mx' + 11) + rm.locals ≤ R.locals) (hc : kc + rm.cells ≤ R.cells) (hs : ks + rm.slots ≤ R.slots) {ps : List FieldType} (hpd : parseMethodDescriptor y.desc = some ⟨ps, none⟩) (hlen : argsL.length = ps.length) (has : (Value.ref a :: argsL).toArray = as') (hst : st = argsL.reverse ++ .ref a :: rest) (hW : (rest.map fun v => v.category).sum ≤ W) (hsz : Ls.size = mx) (hd : decode bytes pc = .ok (.invokespecial i, 3)) (hq : pc + 3 = q)
    (k : ∀ v T' h', P v h' → own_At p l e R s m args below meth c T' h' n0 (kc + rm.cells) (ks + rm.slots) → own_Go p.tables e below (T'.setTop (mkF m q Ls (v.toList ++ rest))) Q) :
    own_Go p.tables e below (T.setTop (mkF m pc Ls st)) Q := by
  obtain ⟨locs, cells, slots, X, eT, N, hc', hs', hn⟩ := A
  obtain ⟨v, _, ⟨T', L', k', n'⟩, -, X', ⟨Lc, hQ, hB1, hB2, hB3⟩, st'⟩ := X.specialBack C.1 (y := y) hy1 C.2.2.2.1 (mvT C.2.2.2.2.1 w1) (mvT C.2.2.2.2.1 w2) (mvT C.2.2.2.2.1 w4) hy (backOf (W := W) (Q := fun v h' L => P v h' ∧ Fr n0 L ∧ h.size ≤ h'.size) (own_backQ hM) C.2.2.2.2.1 w4 w3 hf hl) (g := mkF m pc Ls st) rfl (by rw [C.2.2.1]; exact hsz) (Steps.refl _) (a := a) (argsL := argsL) (rest := rest) (lenOf hpd hlen) hst (by show 2 * 0 + _ ≤ _; omega) (hb C.2.1 hd) (fun _ _ => ⟨has, eT, Nat.le_trans (Nat.add_le_add_right hc' _) hc, Nat.le_trans (Nat.add_le_add_right hs' _) hs⟩)
  dsimp only [Pt.U, Pt.locs, Pt.cells, Pt.slots] at X' hB1 hB2 hB3 st' hQ
  subst hq hB1 hB2 hB3
  exact own_go (fun t ht => st'.trans ht) (k v T' T'.heap hQ.1 ⟨_, _, _, X', rfl, N.app hQ.2.1, by omega, by omega, Nat.le_trans hn hQ.2.2⟩)
theorem own_callV (C : own_Cx Z a0 p l e R s m args below meth c own nm bytes mx ret) (A : own_At p l e R s m args below meth c T h n0 kc ks) {i : Nat} {y : MethodName} {by' : ByteArray} {mx' : Nat} {rt : Option FieldType} {rm : Room} (W : Nat) {as' : Array Value} (argsL rest : List Value) {P : Option Value → Heap → Prop} {a : Addr} {B : String} (w1 : (Jvm.Cond.methodLink own i y).before a0 Z = true) (w2 : (Jvm.Cond.declares y).before a0 Z = true) (w5 : (Jvm.Cond.selects B y y).before a0 Z = true) (w6 : (Jvm.Cond.instanceMethod y).before a0 Z = true) (w3 : (Jvm.Cond.initialized y.cls).before a0 Z = true) (w4 : (Jvm.Cond.code y by' mx' rt).before a0 Z = true) (hy : y.cls ≠ "java/lang/invoke/MethodHandle" ∧ y.cls ≠ "java/lang/invoke/VarHandle") (hBy : y.cls = B) (E : Exa Z h a B)
    (hM : MetFree l y (head1 [Jvm.Cond.code y by' mx' rt] rm) (fun a U => a = as' ∧ Z.Warmed39 U.vm ∧ U.heap = h) (fun _ _ _ _ _ => True) (fun _ U o U' => own_QR U n0 rm.cells rm.slots P o U'))
    (hf : rm.frames + 1 ≤ R.frames) (hl : W + (mx' + 11) + rm.locals ≤ R.locals) (hc : kc + rm.cells ≤ R.cells) (hs : ks + rm.slots ≤ R.slots) {ps : List FieldType} (hpd : parseMethodDescriptor y.desc = some ⟨ps, rt⟩) (hlen : argsL.length = ps.length) (has : (Value.ref a :: argsL).toArray = as') (hst : st = argsL.reverse ++ .ref a :: rest) (hW : (rest.map fun v => v.category).sum ≤ W) (hsz : Ls.size = mx) (hd : decode bytes pc = .ok (.invokevirtual i, 3)) (hq : pc + 3 = q)
    (k : ∀ v T' h', P v h' → own_At p l e R s m args below meth c T' h' n0 (kc + rm.cells) (ks + rm.slots) → own_Go p.tables e below (T'.setTop (mkF m q Ls (v.toList ++ rest))) Q) :
    own_Go p.tables e below (T.setTop (mkF m pc Ls st)) Q := by
  obtain ⟨locs, cells, slots, X, eT, N, hc', hs', hn⟩ := A
  subst hBy
  obtain ⟨cB, kB, qa, qb, qc⟩ := isOf (T := T) C.2.2.2.2.1 eT E
  obtain ⟨v, _, ⟨T', L', k', n'⟩, -, X', ⟨Lc, hQ, hB1, hB2, hB3⟩, st'⟩ := X.virtualBack C.1 (y := y) (z := y) C.2.2.2.1 (mvT C.2.2.2.2.1 w1) (mvT C.2.2.2.2.1 w2) (notFace_of_selects (args := #[]) (mvT C.2.2.2.2.1 w5)) (mvT C.2.2.2.2.1 w5) (mvT C.2.2.2.2.1 w6) hy (backOf (W := W) (Q := fun v h' L => P v h' ∧ Fr n0 L ∧ h.size ≤ h'.size) (own_backQ hM) C.2.2.2.2.1 w4 w3 hf hl) qa qc (g := mkF m pc Ls st) rfl (by rw [C.2.2.1]; exact hsz) (Steps.refl _) (argsL := argsL) (rest := rest) (lenOf hpd hlen) hst (by show 2 * 0 + _ ≤ _; omega) (hb C.2.1 hd) (fun _ _ => ⟨has, eT, Nat.le_trans (Nat.add_le_add_right hc' _) hc, Nat.le_trans (Nat.add_le_add_right hs' _) hs⟩)
  dsimp only [Pt.U, Pt.locs, Pt.cells, Pt.slots] at X' hB1 hB2 hB3 st' hQ
  subst hq hB1 hB2 hB3
  exact own_go (fun t ht => st'.trans ht) (k v T' T'.heap hQ.1 ⟨_, _, _, X', rfl, N.app hQ.2.1, by omega, by omega, Nat.le_trans hn hQ.2.2⟩)
theorem own_callP (C : own_Cx Z a0 p l e R s m args below meth c own nm bytes mx ret) (A : own_At p l e R s m args below meth c T h n0 kc ks) {i : Nat} {y : MethodName} {by' : ByteArray} {mx' : Nat} {rt : Option FieldType} {rm : Room} (W : Nat) {as' : Array Value} (argsL rest : List Value) {P : Option Value → Heap → Prop} {a : Addr} {B : String} {kk : Nat} (w1 : (Jvm.Cond.methodLink own i y).before a0 Z = true) (w6 : (Jvm.Cond.instanceMethod y).before a0 Z = true) (wp : (Jvm.Cond.privateMethod y).before a0 Z = true) (wi : (Jvm.Cond.instantiable y.cls kk).before a0 Z = true) (w3 : (Jvm.Cond.initialized y.cls).before a0 Z = true) (w4 : (Jvm.Cond.code y by' mx' rt).before a0 Z = true) (hy : y.cls ≠ "java/lang/invoke/MethodHandle" ∧ y.cls ≠ "java/lang/invoke/VarHandle") (E : Exa Z h a B)
    (hM : MetFree l y (head1 [Jvm.Cond.code y by' mx' rt] rm) (fun a U => a = as' ∧ Z.Warmed39 U.vm ∧ U.heap = h) (fun _ _ _ _ _ => True) (fun _ U o U' => own_QR U n0 rm.cells rm.slots P o U'))
    (hf : rm.frames + 1 ≤ R.frames) (hl : W + (mx' + 11) + rm.locals ≤ R.locals) (hc : kc + rm.cells ≤ R.cells) (hs : ks + rm.slots ≤ R.slots) {ps : List FieldType} (hpd : parseMethodDescriptor y.desc = some ⟨ps, rt⟩) (hlen : argsL.length = ps.length) (has : (Value.ref a :: argsL).toArray = as') (hst : st = argsL.reverse ++ .ref a :: rest) (hW : (rest.map fun v => v.category).sum ≤ W) (hsz : Ls.size = mx) (hd : decode bytes pc = .ok (.invokevirtual i, 3)) (hq : pc + 3 = q)
    (k : ∀ v T' h', P v h' → own_At p l e R s m args below meth c T' h' n0 (kc + rm.cells) (ks + rm.slots) → own_Go p.tables e below (T'.setTop (mkF m q Ls (v.toList ++ rest))) Q) :
    own_Go p.tables e below (T.setTop (mkF m pc Ls st)) Q := by
  obtain ⟨locs, cells, slots, X, eT, N, hc', hs', hn⟩ := A
  obtain ⟨cl, hcell, hobj⟩ := Exa.cell E
  have hpr : s.PrivateAt y := Cond.privateMethod_at (mvP C.2.2.2.2.1 wp (args := #[]))
  have wi' : (Jvm.Cond.instantiable y.cls kk).before args s = true := mvT C.2.2.2.2.1 wi
  have w6' : (Jvm.Cond.instanceMethod y).before args s = true := mvT C.2.2.2.2.1 w6
  obtain ⟨cc, kc', q1, q2, -, q4, -⟩ := Cond.instantiable_spec wi'
  have hsel : (Jvm.Cond.selects y.cls y y).before args s = true := Jvm.Stand.selects_self_of_private q1 q2 (Bool.or_eq_false_iff.mp q4).1 hpr w6' hy
  obtain ⟨v, _, ⟨T', L', k', n'⟩, -, X', ⟨Lc, hQ, hB1, hB2, hB3⟩, st'⟩ := X.privateBack C.1 (y := y) C.2.2.2.1 (mvT C.2.2.2.2.1 w1) w6' hsel hpr (mvT C.2.2.2.2.1 w4) hy (backOf (W := W) (Q := fun v h' L => P v h' ∧ Fr n0 L ∧ h.size ≤ h'.size) (own_backQ hM) C.2.2.2.2.1 w4 w3 hf hl) (g := mkF m pc Ls st) rfl (by rw [C.2.2.1]; exact hsz) (Steps.refl _) (a := a) (by rw [eT]; exact hcell) hobj (argsL := argsL) (rest := rest) (lenOf hpd hlen) hst (by show 2 * 0 + _ ≤ _; omega) (hb C.2.1 hd) (fun _ _ => ⟨has, eT, Nat.le_trans (Nat.add_le_add_right hc' _) hc, Nat.le_trans (Nat.add_le_add_right hs' _) hs⟩)
  dsimp only [Pt.U, Pt.locs, Pt.cells, Pt.slots] at X' hB1 hB2 hB3 st' hQ
  subst hq hB1 hB2 hB3
  exact own_go (fun t ht => st'.trans ht) (k v T' T'.heap hQ.1 ⟨_, _, _, X', rfl, N.app hQ.2.1, by omega, by omega, Nat.le_trans hn hQ.2.2⟩)
theorem own_callSI (C : own_Cx Z a0 p l e R s m args below meth c own nm bytes mx ret) (A : own_At p l e R s m args below meth c T h n0 kc ks) {i : Nat} {y : MethodName} {by' : ByteArray} {mx' : Nat} {rt : Option FieldType} {rm : Room} (W : Nat) {as' : Array Value} (argsL rest : List Value) {r : Int32} (w1 : (Jvm.Cond.methodLink own i y).before a0 Z = true) (w2 : (Jvm.Cond.static y).before a0 Z = true) (w3 : (Jvm.Cond.initialized y.cls).before a0 Z = true) (w4 : (Jvm.Cond.code y by' mx' rt).before a0 Z = true) (hy : y.cls ≠ "java/lang/invoke/MethodHandle" ∧ y.cls ≠ "java/lang/invoke/VarHandle")
    (hM : MetFree l y (head1 [Jvm.Cond.code y by' mx' rt] rm) (fun a U => a = as' ∧ Z.Warmed39 U.vm ∧ U.heap = h) (fun _ _ _ _ _ => True) (fun _ U o U' => own_QR U n0 rm.cells rm.slots (own_RI h r) o U'))
    (h0c : rm.cells = 0) (h0s : rm.slots = 0) (hf : rm.frames + 1 ≤ R.frames) (hl : W + (mx' + 11) + rm.locals ≤ R.locals) (hc : kc + rm.cells ≤ R.cells) (hs : ks + rm.slots ≤ R.slots) {ps : List FieldType} (hpd : parseMethodDescriptor y.desc = some ⟨ps, rt⟩) (hlen : argsL.length = ps.length) (has : argsL.toArray = as') (hst : st = argsL.reverse ++ rest) (hW : (rest.map fun v => v.category).sum ≤ W) (hsz : Ls.size = mx) (hd : decode bytes pc = .ok (.invokestatic i, 3)) (hq : pc + 3 = q)
    (k : ∀ T', own_At p l e R s m args below meth c T' h n0 kc ks → own_Go p.tables e below (T'.setTop (mkF m q Ls (.int r :: rest))) Q) :
    own_Go p.tables e below (T.setTop (mkF m pc Ls st)) Q := by
  refine own_callS C A W argsL rest w1 w2 w3 w4 hy hM hf hl hc hs hpd hlen has hst hW hsz hd hq (fun v T' h' hP A' => ?_)
  obtain ⟨rfl, rfl⟩ := hP
  rw [h0c, h0s] at A'
  exact k T' A'
theorem own_callSJ (C : own_Cx Z a0 p l e R s m args below meth c own nm bytes mx ret) (A : own_At p l e R s m args below meth c T h n0 kc ks) {i : Nat} {y : MethodName} {by' : ByteArray} {mx' : Nat} {rt : Option FieldType} {rm : Room} (W : Nat) {as' : Array Value} (argsL rest : List Value) {r : Int64} (w1 : (Jvm.Cond.methodLink own i y).before a0 Z = true) (w2 : (Jvm.Cond.static y).before a0 Z = true) (w3 : (Jvm.Cond.initialized y.cls).before a0 Z = true) (w4 : (Jvm.Cond.code y by' mx' rt).before a0 Z = true) (hy : y.cls ≠ "java/lang/invoke/MethodHandle" ∧ y.cls ≠ "java/lang/invoke/VarHandle")
    (hM : MetFree l y (head1 [Jvm.Cond.code y by' mx' rt] rm) (fun a U => a = as' ∧ Z.Warmed39 U.vm ∧ U.heap = h) (fun _ _ _ _ _ => True) (fun _ U o U' => own_QR U n0 rm.cells rm.slots (own_RJ h r) o U'))
    (h0c : rm.cells = 0) (h0s : rm.slots = 0) (hf : rm.frames + 1 ≤ R.frames) (hl : W + (mx' + 11) + rm.locals ≤ R.locals) (hc : kc + rm.cells ≤ R.cells) (hs : ks + rm.slots ≤ R.slots) {ps : List FieldType} (hpd : parseMethodDescriptor y.desc = some ⟨ps, rt⟩) (hlen : argsL.length = ps.length) (has : argsL.toArray = as') (hst : st = argsL.reverse ++ rest) (hW : (rest.map fun v => v.category).sum ≤ W) (hsz : Ls.size = mx) (hd : decode bytes pc = .ok (.invokestatic i, 3)) (hq : pc + 3 = q)
    (k : ∀ T', own_At p l e R s m args below meth c T' h n0 kc ks → own_Go p.tables e below (T'.setTop (mkF m q Ls (.long r :: rest))) Q) :
    own_Go p.tables e below (T.setTop (mkF m pc Ls st)) Q := by
  refine own_callS C A W argsL rest w1 w2 w3 w4 hy hM hf hl hc hs hpd hlen has hst hW hsz hd hq (fun v T' h' hP A' => ?_)
  obtain ⟨rfl, rfl⟩ := hP
  rw [h0c, h0s] at A'
  exact k T' A'
theorem own_callVI (C : own_Cx Z a0 p l e R s m args below meth c own nm bytes mx ret) (A : own_At p l e R s m args below meth c T h n0 kc ks) {i : Nat} {y : MethodName} {by' : ByteArray} {mx' : Nat} {rt : Option FieldType} {rm : Room} (W : Nat) {as' : Array Value} (argsL rest : List Value) {r : Int32} {a : Addr} {B : String} (w1 : (Jvm.Cond.methodLink own i y).before a0 Z = true) (w2 : (Jvm.Cond.declares y).before a0 Z = true) (w5 : (Jvm.Cond.selects B y y).before a0 Z = true) (w6 : (Jvm.Cond.instanceMethod y).before a0 Z = true) (w3 : (Jvm.Cond.initialized y.cls).before a0 Z = true) (w4 : (Jvm.Cond.code y by' mx' rt).before a0 Z = true) (hy : y.cls ≠ "java/lang/invoke/MethodHandle" ∧ y.cls ≠ "java/lang/invoke/VarHandle") (hBy : y.cls = B) (E : Exa Z h a B)
    (hM : MetFree l y (head1 [Jvm.Cond.code y by' mx' rt] rm) (fun a U => a = as' ∧ Z.Warmed39 U.vm ∧ U.heap = h) (fun _ _ _ _ _ => True) (fun _ U o U' => own_QR U n0 rm.cells rm.slots (own_RI h r) o U'))
    (h0c : rm.cells = 0) (h0s : rm.slots = 0) (hf : rm.frames + 1 ≤ R.frames) (hl : W + (mx' + 11) + rm.locals ≤ R.locals) (hc : kc + rm.cells ≤ R.cells) (hs : ks + rm.slots ≤ R.slots) {ps : List FieldType} (hpd : parseMethodDescriptor y.desc = some ⟨ps, rt⟩) (hlen : argsL.length = ps.length) (has : (Value.ref a :: argsL).toArray = as') (hst : st = argsL.reverse ++ .ref a :: rest) (hW : (rest.map fun v => v.category).sum ≤ W) (hsz : Ls.size = mx) (hd : decode bytes pc = .ok (.invokevirtual i, 3)) (hq : pc + 3 = q)
    (k : ∀ T', own_At p l e R s m args below meth c T' h n0 kc ks → own_Go p.tables e below (T'.setTop (mkF m q Ls (.int r :: rest))) Q) :
    own_Go p.tables e below (T.setTop (mkF m pc Ls st)) Q := by
  refine own_callV C A W argsL rest w1 w2 w5 w6 w3 w4 hy hBy E hM hf hl hc hs hpd hlen has hst hW hsz hd hq (fun v T' h' hP A' => ?_)
  obtain ⟨rfl, rfl⟩ := hP
  rw [h0c, h0s] at A'
  exact k T' A'
theorem own_callVJ (C : own_Cx Z a0 p l e R s m args below meth c own nm bytes mx ret) (A : own_At p l e R s m args below meth c T h n0 kc ks) {i : Nat} {y : MethodName} {by' : ByteArray} {mx' : Nat} {rt : Option FieldType} {rm : Room} (W : Nat) {as' : Array Value} (argsL rest : List Value) {r : Int64} {a : Addr} {B : String} (w1 : (Jvm.Cond.methodLink own i y).before a0 Z = true) (w2 : (Jvm.Cond.declares y).before a0 Z = true) (w5 : (Jvm.Cond.selects B y y).before a0 Z = true) (w6 : (Jvm.Cond.instanceMethod y).before a0 Z = true) (w3 : (Jvm.Cond.initialized y.cls).before a0 Z = true) (w4 : (Jvm.Cond.code y by' mx' rt).before a0 Z = true) (hy : y.cls ≠ "java/lang/invoke/MethodHandle" ∧ y.cls ≠ "java/lang/invoke/VarHandle") (hBy : y.cls = B) (E : Exa Z h a B)
    (hM : MetFree l y (head1 [Jvm.Cond.code y by' mx' rt] rm) (fun a U => a = as' ∧ Z.Warmed39 U.vm ∧ U.heap = h) (fun _ _ _ _ _ => True) (fun _ U o U' => own_QR U n0 rm.cells rm.slots (own_RJ h r) o U'))
    (h0c : rm.cells = 0) (h0s : rm.slots = 0) (hf : rm.frames + 1 ≤ R.frames) (hl : W + (mx' + 11) + rm.locals ≤ R.locals) (hc : kc + rm.cells ≤ R.cells) (hs : ks + rm.slots ≤ R.slots) {ps : List FieldType} (hpd : parseMethodDescriptor y.desc = some ⟨ps, rt⟩) (hlen : argsL.length = ps.length) (has : (Value.ref a :: argsL).toArray = as') (hst : st = argsL.reverse ++ .ref a :: rest) (hW : (rest.map fun v => v.category).sum ≤ W) (hsz : Ls.size = mx) (hd : decode bytes pc = .ok (.invokevirtual i, 3)) (hq : pc + 3 = q)
    (k : ∀ T', own_At p l e R s m args below meth c T' h n0 kc ks → own_Go p.tables e below (T'.setTop (mkF m q Ls (.long r :: rest))) Q) :
    own_Go p.tables e below (T.setTop (mkF m pc Ls st)) Q := by
  refine own_callV C A W argsL rest w1 w2 w5 w6 w3 w4 hy hBy E hM hf hl hc hs hpd hlen has hst hW hsz hd hq (fun v T' h' hP A' => ?_)
  obtain ⟨rfl, rfl⟩ := hP
  rw [h0c, h0s] at A'
  exact k T' A'
theorem own_callPI (C : own_Cx Z a0 p l e R s m args below meth c own nm bytes mx ret) (A : own_At p l e R s m args below meth c T h n0 kc ks) {i : Nat} {y : MethodName} {by' : ByteArray} {mx' : Nat} {rt : Option FieldType} {rm : Room} (W : Nat) {as' : Array Value} (argsL rest : List Value) {r : Int32} {a : Addr} {B : String} {kk : Nat} (w1 : (Jvm.Cond.methodLink own i y).before a0 Z = true) (w6 : (Jvm.Cond.instanceMethod y).before a0 Z = true) (wp : (Jvm.Cond.privateMethod y).before a0 Z = true) (wi : (Jvm.Cond.instantiable y.cls kk).before a0 Z = true) (w3 : (Jvm.Cond.initialized y.cls).before a0 Z = true) (w4 : (Jvm.Cond.code y by' mx' rt).before a0 Z = true) (hy : y.cls ≠ "java/lang/invoke/MethodHandle" ∧ y.cls ≠ "java/lang/invoke/VarHandle") (E : Exa Z h a B)
    (hM : MetFree l y (head1 [Jvm.Cond.code y by' mx' rt] rm) (fun a U => a = as' ∧ Z.Warmed39 U.vm ∧ U.heap = h) (fun _ _ _ _ _ => True) (fun _ U o U' => own_QR U n0 rm.cells rm.slots (own_RI h r) o U'))
    (h0c : rm.cells = 0) (h0s : rm.slots = 0) (hf : rm.frames + 1 ≤ R.frames) (hl : W + (mx' + 11) + rm.locals ≤ R.locals) (hc : kc + rm.cells ≤ R.cells) (hs : ks + rm.slots ≤ R.slots) {ps : List FieldType} (hpd : parseMethodDescriptor y.desc = some ⟨ps, rt⟩) (hlen : argsL.length = ps.length) (has : (Value.ref a :: argsL).toArray = as') (hst : st = argsL.reverse ++ .ref a :: rest) (hW : (rest.map fun v => v.category).sum ≤ W) (hsz : Ls.size = mx) (hd : decode bytes pc = .ok (.invokevirtual i, 3)) (hq : pc + 3 = q)
    (k : ∀ T', own_At p l e R s m args below meth c T' h n0 kc ks → own_Go p.tables e below (T'.setTop (mkF m q Ls (.int r :: rest))) Q) :
    own_Go p.tables e below (T.setTop (mkF m pc Ls st)) Q := by
  refine own_callP C A W argsL rest w1 w6 wp wi w3 w4 hy E hM hf hl hc hs hpd hlen has hst hW hsz hd hq (fun v T' h' hP A' => ?_)
  obtain ⟨rfl, rfl⟩ := hP
  rw [h0c, h0s] at A'
  exact k T' A'
theorem own_callC0 (C : own_Cx Z a0 p l e R s m args below meth c own nm bytes mx ret) (A : own_At p l e R s m args below meth c T h n0 kc ks) {i : Nat} {y : MethodName} {by' : ByteArray} {mx' : Nat} {rm : Room} (W : Nat) {as' : Array Value} (argsL rest : List Value)  {a : Addr} (hy1 : y.name = "<init>") (w1 : (Jvm.Cond.methodLink own i y).before a0 Z = true) (w2 : (Jvm.Cond.instanceMethod y).before a0 Z = true) (w3 : (Jvm.Cond.initialized y.cls).before a0 Z = true) (w4 : (Jvm.Cond.code y by' mx' none).before a0 Z = true) (hy : y.cls ≠ "java/lang/invoke/MethodHandle" ∧ y.cls ≠ "java/lang/invoke/VarHandle")
    (hM : MetFree l y (head1 [Jvm.Cond.code y by' mx' none] rm) (fun a U => a = as' ∧ Z.Warmed39 U.vm ∧ U.heap = h) (fun _ _ _ _ _ => True) (fun _ U o U' => own_QR U n0 rm.cells rm.slots (own_R0 h ()) o U'))
    (h0c : rm.cells = 0) (h0s : rm.slots = 0) (hf : rm.frames + 1 ≤ R.frames) (hl : W + (mx' + 11) + rm.locals ≤ R.locals) (hc : kc + rm.cells ≤ R.cells) (hs : ks + rm.slots ≤ R.slots) {ps : List FieldType} (hpd : parseMethodDescriptor y.desc = some ⟨ps, none⟩) (hlen : argsL.length = ps.length) (has : (Value.ref a :: argsL).toArray = as') (hst : st = argsL.reverse ++ .ref a :: rest) (hW : (rest.map fun v => v.category).sum ≤ W) (hsz : Ls.size = mx) (hd : decode bytes pc = .ok (.invokespecial i, 3)) (hq : pc + 3 = q)
    (k : ∀ T', own_At p l e R s m args below meth c T' h n0 kc ks → own_Go p.tables e below (T'.setTop (mkF m q Ls rest)) Q) :
    own_Go p.tables e below (T.setTop (mkF m pc Ls st)) Q := by
  refine own_callC C A W argsL rest hy1 w1 w2 w3 w4 hy hM hf hl hc hs hpd hlen has hst hW hsz hd hq (fun v T' h' hP A' => ?_)
  obtain ⟨rfl, rfl⟩ := hP
  rw [h0c, h0s] at A'
  exact k T' A'
theorem own_initO (C : own_Cx Z a0 p l e R s m args below meth c own nm bytes mx ret) (A : own_At p l e R s m args below meth c T h n0 kc ks) {i : Nat} {a : Addr} (W : Nat) (w1 : (Jvm.Cond.methodLink own i Lib.objectInit).before a0 Z = true) (w2 : (Jvm.Cond.instanceMethod Lib.objectInit).before a0 Z = true) (w3 : (Jvm.Cond.code Lib.objectInit ⟨#[0xb1]⟩ 1 none).before a0 Z = true) (hsz : Ls.size = mx) (hd : decode bytes pc = .ok (.invokespecial i, 3)) (hq : pc + 3 = q) (hf : 1 ≤ R.frames) (hW : (st.map fun v => v.category).sum ≤ W) (hl : W + 12 ≤ R.locals)
    (k : ∀ T', own_At p l e R s m args below meth c T' h n0 kc ks → own_Go p.tables e below (T'.setTop (mkF m q Ls st)) Q) :
    own_Go p.tables e below (T.setTop (mkF m pc Ls (.ref a :: st))) Q := by
  obtain ⟨locs, cells, slots, X, eT, N, hc', hs', hn⟩ := A
  obtain ⟨T', X', e', st'⟩ := initO X C.1 C.2.2.2.2.1 C.2.2.2.1 w1 w2 w3 eT (g := mkF m pc Ls (.ref a :: st)) rfl (by rw [C.2.2.1]; exact hsz) rfl (hb C.2.1 hd) hf (W := W) (by show 2 * 0 + _ ≤ _; omega) hl
  subst hq
  exact own_go st' (k T' ⟨locs, cells, slots, X', e', N, hc', hs', hn⟩)
theorem own_getF (C : own_Cx Z a0 p l e R s m args below meth c own nm bytes mx ret) (A : own_At p l e R s m args below meth c T h n0 kc ks) {O n d : String} {i : Nat} {a : Addr} {v : Value} (w : (Jvm.Cond.fieldLink own i O n d).before a0 Z = true) (F : Fld Z h a O n d v) (hd : decode bytes pc = .ok (.getfield i, 3)) (hq : pc + 3 = q) (k : ∀ T', own_At p l e R s m args below meth c T' h n0 kc ks → own_Go p.tables e below (T'.setTop (mkF m q Ls (v :: st))) Q) :
    own_Go p.tables e below (T.setTop (mkF m pc Ls (.ref a :: st))) Q := by
  obtain ⟨locs, cells, slots, X, eT, N, hc', hs', hn⟩ := A
  obtain ⟨T', X', e', st'⟩ := getF X C.1 C.2.2.2.2.1 C.2.2.2.1 (host := "") (Or.inl w) Via.refl eT F (g := mkF m pc Ls (.ref a :: st)) rfl rfl (hb C.2.1 hd)
  subst hq
  exact own_go st' (k T' ⟨locs, cells, slots, X', e', N, hc', hs', hn⟩)
theorem own_putF (C : own_Cx Z a0 p l e R s m args below meth c own nm bytes mx ret) (A : own_At p l e R s m args below meth c T h n0 kc ks) {O n d B : String} {i kk : Nat} {a : Addr} {v old : Value} (ty : FieldType) (w : (Jvm.Cond.fieldLink own i O n d).before a0 Z = true) (F : Fld Z h a O n d old) (E : Exa Z h a B) (Ly : (Jvm.Cond.lays B O n d).before a0 Z = true ∨ ((Jvm.Cond.laysFinal B O n d).before a0 Z = true ∧ own = O ∧ nm = "<init>")) (wi : (Jvm.Cond.instantiable B kk).before a0 Z = true) (hty : parseFieldDescriptor d = some ty) (hnr : narrow ty v = v) (hft : fits ty v = true) (ga : n0 ≤ a) (hd : decode bytes pc = .ok (.putfield i, 3)) (hq : pc + 3 = q)
    (k : ∀ T' h', Wr h h' a (Jvm.RoadKit.slotOf Z O n d) v → own_At p l e R s m args below meth c T' h' n0 kc ks → own_Go p.tables e below (T'.setTop (mkF m q Ls st)) Q) :
    own_Go p.tables e below (T.setTop (mkF m pc Ls (v :: .ref a :: st))) Q := by
  obtain ⟨locs, cells, slots, X, eT, N, hc', hs', hn⟩ := A
  obtain ⟨T', h', X', e', W', st'⟩ := putF X C.1 C.2.2.2.2.1 C.2.2.2.1 (host := "") (Or.inl w) Via.refl eT F E (Ly.imp id fun z => ⟨z.1, z.2.1, by rw [C.2.2.2.2.2.1]; exact z.2.2⟩) wi hty hnr hft (g := mkF m pc Ls (v :: .ref a :: st)) rfl rfl (hb C.2.1 hd)
  subst hq
  exact own_go st' (k T' h' W' ⟨_, cells, slots, X', e', Fr.snoc X' N ga, hc', hs', by rw [W'.size]; exact hn⟩)
theorem own_newO (C : own_Cx Z a0 p l e R s m args below meth c own nm bytes mx ret) (A : own_At p l e R s m args below meth c T h n0 kc ks) {B : String} {i n : Nat} (w : (Jvm.Cond.classLink own i B).before a0 Z = true) (wi : (Jvm.Cond.instantiable B n).before a0 Z = true) (wz : (Jvm.Cond.initialized B).before a0 Z = true) (hd : decode bytes pc = .ok (.new i, 3)) (hq : pc + 3 = q) (hc : kc + 1 ≤ R.cells) (hs : ks + n ≤ R.slots)
    (k : ∀ T' h' a, a = h.size → Ext h h' → Exa Z h' a B → (∀ {O nm d : String} {ty : FieldType}, Laid Z a0 B O nm d → parseFieldDescriptor d = some ty → Fld Z h' a O nm d (defaultValue ty)) → n0 ≤ a → own_At p l e R s m args below meth c T' h' n0 (kc + 1) (ks + n) → own_Go p.tables e below (T'.setTop (mkF m q Ls (.ref a :: st))) Q) :
    own_Go p.tables e below (T.setTop (mkF m pc Ls st)) Q := by
  obtain ⟨locs, cells, slots, X, eT, N, hc', hs', hn⟩ := A
  obtain ⟨T', h', X', e', E', A', D', -, st'⟩ := newO X C.1 C.2.2.2.2.1 C.2.2.2.1 w wi wz eT (g := mkF m pc Ls st) rfl (hb C.2.1 hd) (by omega) (by omega)
  subst hq
  exact own_go st' (k T' h' h.size rfl E' A' D' hn ⟨locs, _, _, X', e', N, by omega, by omega, Nat.le_trans hn E'.1⟩)
theorem own_instY (C : own_Cx Z a0 p l e R s m args below meth c own nm bytes mx ret) (A : own_At p l e R s m args below meth c T h n0 kc ks) {B : String} {i : Nat} {a : Addr} (w : (Jvm.Cond.classLink own i B).before a0 Z = true) (F : Ins Z h a B true) (hd : decode bytes pc = .ok (.instanceof i, 3)) (hq : pc + 3 = q) (k : ∀ T', own_At p l e R s m args below meth c T' h n0 kc ks → own_Go p.tables e below (T'.setTop (mkF m q Ls (.int 1 :: st))) Q) :
    own_Go p.tables e below (T.setTop (mkF m pc Ls (.ref a :: st))) Q := by
  obtain ⟨locs, cells, slots, X, eT, N, hc', hs', hn⟩ := A
  obtain ⟨T', X', e', st'⟩ := instY X C.1 C.2.2.2.2.1 C.2.2.2.1 w eT F (g := mkF m pc Ls (.ref a :: st)) rfl rfl (hb C.2.1 hd)
  subst hq
  exact own_go st' (k T' ⟨locs, cells, slots, X', e', N, hc', hs', hn⟩)
theorem own_castY (C : own_Cx Z a0 p l e R s m args below meth c own nm bytes mx ret) (A : own_At p l e R s m args below meth c T h n0 kc ks) {B : String} {i : Nat} {a : Addr} (w : (Jvm.Cond.classLink own i B).before a0 Z = true) (F : Ins Z h a B true) (hd : decode bytes pc = .ok (.checkcast i, 3)) (hq : pc + 3 = q) (k : ∀ T', own_At p l e R s m args below meth c T' h n0 kc ks → own_Go p.tables e below (T'.setTop (mkF m q Ls (.ref a :: st))) Q) :
    own_Go p.tables e below (T.setTop (mkF m pc Ls (.ref a :: st))) Q := by
  obtain ⟨locs, cells, slots, X, eT, N, hc', hs', hn⟩ := A
  obtain ⟨T', X', e', st'⟩ := castY X C.1 C.2.2.2.2.1 C.2.2.2.1 w eT F (g := mkF m pc Ls (.ref a :: st)) rfl rfl (hb C.2.1 hd)
  subst hq
  exact own_go st' (k T' ⟨locs, cells, slots, X', e', N, hc', hs', hn⟩)
theorem own_instNo (C : own_Cx Z a0 p l e R s m args below meth c own nm bytes mx ret) (A : own_At p l e R s m args below meth c T h n0 kc ks) {B D : String} {i : Nat} {a : Addr} (w : (Jvm.Cond.classLink own i B).before a0 Z = true) (E : Exa Z h a D) (F : ∃ c t, Z.vm.findClass D = some c ∧ Z.vm.findClass B = some t ∧ Z.vm.assignable c t = false) (hd : decode bytes pc = .ok (.instanceof i, 3)) (hq : pc + 3 = q) (k : ∀ T', own_At p l e R s m args below meth c T' h n0 kc ks → own_Go p.tables e below (T'.setTop (mkF m q Ls (.int 0 :: st))) Q) :
    own_Go p.tables e below (T.setTop (mkF m pc Ls (.ref a :: st))) Q := by
  obtain ⟨locs, cells, slots, X, eT, N, hc', hs', hn⟩ := A
  obtain ⟨T', X', e', st'⟩ := instNo X C.1 C.2.2.2.2.1 C.2.2.2.1 w eT E F (g := mkF m pc Ls (.ref a :: st)) rfl rfl (hb C.2.1 hd)
  subst hq
  exact own_go st' (k T' ⟨locs, cells, slots, X', e', N, hc', hs', hn⟩)
theorem own_instNull (C : own_Cx Z a0 p l e R s m args below meth c own nm bytes mx ret) (A : own_At p l e R s m args below meth c T h n0 kc ks) {i : Nat} (hd : decode bytes pc = .ok (.instanceof i, 3)) (hq : pc + 3 = q) (k : own_Go p.tables e below (T.setTop (mkF m q Ls (.int 0 :: st))) Q) :
    own_Go p.tables e below (T.setTop (mkF m pc Ls (.null :: st))) Q := by
  obtain ⟨_, _, _, X, _⟩ := A
  subst hq
  exact own_go (X.instanceofNull C.1 (g := mkF m pc Ls (.null :: st)) rfl rfl (hb C.2.1 hd)) k
def own_Ia (Z : State) (h : Heap) (a : Addr) (ty : FieldType) (n : Int32) (xs : List Int32) : Prop := ∃ k, Arv Z h a k ty n (xs.map .int) (.int 0) ∧ xs.length = n.toNatClampNeg
theorem own_Ia.lt {a : Addr} {ty : FieldType} {n : Int32} {xs : List Int32} (F : own_Ia Z h a ty n xs) : a < h.size := by obtain ⟨k, V, -⟩ := F; exact V.lt
theorem own_Ia.ext {h' : Heap} {a : Addr} {ty : FieldType} {n : Int32} {xs : List Int32} (F : own_Ia Z h a ty n xs) (E : Ext h h') : own_Ia Z h' a ty n xs := by obtain ⟨k, V, hl⟩ := F; exact ⟨k, V.ext E, hl⟩
theorem own_Ia.keep {h' : Heap} {ws : List Addr} {a : Addr} {ty : FieldType} {n : Int32} {xs : List Int32} (F : own_Ia Z h a ty n xs) (K : Keep h h' ws) (q : a ∉ ws) : own_Ia Z h' a ty n xs := by obtain ⟨k, V, hl⟩ := F; exact ⟨k, V.keep K q, hl⟩
theorem own_Ia.other {h' : Heap} {a b : Addr} {sl : Nat} {v : Value} {ty : FieldType} {n : Int32} {xs : List Int32} (F : own_Ia Z h b ty n xs) (W : Wr h h' a sl v) (q : b ≠ a) : own_Ia Z h' b ty n xs := by obtain ⟨k, V, hl⟩ := F; exact ⟨k, V.other W q, hl⟩
theorem own_getD_map (xs : List Int32) (i : Nat) : (xs.map Value.int).getD i (.int 0) = .int (xs.getD i 0) := by
  induction xs generalizing i with
  | nil => rfl
  | cons x t ih => cases i with
    | zero => rfl
    | succ i => simpa using ih i
theorem own_newP (C : own_Cx Z a0 p l e R s m args below meth c own nm bytes mx ret) (A : own_At p l e R s m args below meth c T h n0 kc ks) {aty : ArrayType} {n : Int32} (cap : Nat) {xs : List Int32} (w : (Jvm.Cond.arrayClass (newarray.typeOf aty)).before a0 Z = true) (hn' : ¬ n < 0) (hxs : List.replicate n.toNatClampNeg 0 = xs) (hcap : n.toNatClampNeg ≤ cap) (hcb : cap * 8 ≤ 536870912) (hdv : defaultValue (newarray.typeOf aty) = .int 0) (hd : decode bytes pc = .ok (.newarray aty, 2)) (hq : pc + 2 = q) (hc : kc + 1 ≤ R.cells) (hs : ks + cap ≤ R.slots)
    (k : ∀ T' h' a, a = h.size → Ext h h' → own_Ia Z h' a (newarray.typeOf aty) n xs → n0 ≤ a → own_At p l e R s m args below meth c T' h' n0 (kc + 1) (ks + cap) → own_Go p.tables e below (T'.setTop (mkF m q Ls (.ref a :: st))) Q) :
    own_Go p.tables e below (T.setTop (mkF m pc Ls (.int n :: st))) Q := by
  obtain ⟨locs, cells, slots, X, eT, N, hc', hs', hn⟩ := A
  obtain ⟨T', h', cA, X', e', E', A', st'⟩ := newP X C.1 C.2.2.2.2.1 w eT (g := mkF m pc Ls (.int n :: st)) rfl (hb C.2.1 hd) rfl hn' (cap := cap) hcap hcb (by omega) (by omega)
  subst hq hxs
  have V := Arv.new A' hn'
  rw [hdv] at V
  have V' := V.pad (pad_rep [] (.int 0) n.toNatClampNeg)
  refine own_go st' (k T' h' h.size rfl E' ⟨cA, ?_, by simp⟩ hn ⟨locs, _, _, X', e', N, by omega, by omega, Nat.le_trans hn E'.1⟩)
  simpa using V'
theorem own_newX (C : own_Cx Z a0 p l e R s m args below meth c own nm bytes mx ret) (A : own_At p l e R s m args below meth c T h n0 kc ks) {aty : ArrayType} {n : Int32} (cap : Nat) (w : (Jvm.Cond.arrayClass (newarray.typeOf aty)).before a0 Z = true) (hn' : ¬ n < 0) (hcap : n.toNatClampNeg ≤ cap) (hcb : cap * 8 ≤ 536870912) (hd : decode bytes pc = .ok (.newarray aty, 2)) (hq : pc + 2 = q) (hc : kc + 1 ≤ R.cells) (hs : ks + cap ≤ R.slots)
    (k : ∀ T' h' a, a = h.size → Ext h h' → n0 ≤ a → own_At p l e R s m args below meth c T' h' n0 (kc + 1) (ks + cap) → own_Go p.tables e below (T'.setTop (mkF m q Ls (.ref a :: st))) Q) :
    own_Go p.tables e below (T.setTop (mkF m pc Ls (.int n :: st))) Q := by
  obtain ⟨locs, cells, slots, X, eT, N, hc', hs', hn⟩ := A
  obtain ⟨T', h', cA, X', e', E', A', st'⟩ := newP X C.1 C.2.2.2.2.1 w eT (g := mkF m pc Ls (.int n :: st)) rfl (hb C.2.1 hd) rfl hn' (cap := cap) hcap hcb (by omega) (by omega)
  subst hq
  exact own_go st' (k T' h' h.size rfl E' hn ⟨locs, _, _, X', e', N, by omega, by omega, Nat.le_trans hn E'.1⟩)
def own_PN (Z : State) (n0 : Nat) (ty : FieldType) (h : Heap) (r : Int32 × List Int32) (v : Option Value) (h' : Heap) : Prop := ∃ a, v = some (.ref a) ∧ n0 ≤ a ∧ h.size ≤ a ∧ Keep h h' [] ∧ own_Ia Z h' a ty r.1 r.2
theorem own_iastore (C : own_Cx Z a0 p l e R s m args below meth c own nm bytes mx ret) (A : own_At p l e R s m args below meth c T h n0 kc ks) {a : Addr} {j x n : Int32} {xs ys : List Int32} (V : own_Ia Z h a .int n xs) (hj : ¬ j < 0 ∧ j < n) (hys : xs.set j.toNatClampNeg (x) = ys) (ga : n0 ≤ a) (hd : decode bytes pc = .ok (.iastore, 1)) (hq : pc + 1 = q)
    (k : ∀ T' h', Keep h h' [a] → own_Ia Z h' a .int n ys → own_At p l e R s m args below meth c T' h' n0 kc ks → own_Go p.tables e below (T'.setTop (mkF m q Ls st)) Q) :
    own_Go p.tables e below (T.setTop (mkF m pc Ls (.int x :: .int j :: .ref a :: st))) Q := by
  obtain ⟨locs, cells, slots, X, eT, N, hc', hs', hn⟩ := A
  obtain ⟨kk, ⟨cl, Ar, q1, S, q3, H, G⟩, hlen⟩ := V
  have hin := inb_of S hj
  obtain ⟨T', h', X', e', W', st'⟩ := stI X C.1 C.2.2.2.2.1 eT Ar hin (g := mkF m pc Ls (.int x :: .int j :: .ref a :: st)) rfl rfl (hb C.2.1 hd)
  subst hq hys
  have hlt : j.toNatClampNeg < (xs.map Value.int).length := by
    have := Nat.lt_of_not_le fun z => hin (Or.inr z)
    rw [S] at this; simpa [hlen] using this
  have V' := Arv.set Ar q1 S q3 H G rfl W' j.toNatClampNeg rfl hlt
  refine own_go st' (k T' h' (Keep.of_wr W') ⟨kk, ?_, by simpa using hlen⟩ ⟨_, cells, slots, X', e', Fr.snoc X' N ga, hc', hs', by rw [W'.size]; exact hn⟩)
  rw [List.map_set]
  exact V'
theorem own_bastore (C : own_Cx Z a0 p l e R s m args below meth c own nm bytes mx ret) (A : own_At p l e R s m args below meth c T h n0 kc ks) {a : Addr} {j x n : Int32} {xs ys : List Int32} (V : own_Ia Z h a .byte n xs) (hj : ¬ j < 0 ∧ j < n) (hys : xs.set j.toNatClampNeg (x.toInt8.toInt32) = ys) (ga : n0 ≤ a) (hd : decode bytes pc = .ok (.bastore, 1)) (hq : pc + 1 = q)
    (k : ∀ T' h', Keep h h' [a] → own_Ia Z h' a .byte n ys → own_At p l e R s m args below meth c T' h' n0 kc ks → own_Go p.tables e below (T'.setTop (mkF m q Ls st)) Q) :
    own_Go p.tables e below (T.setTop (mkF m pc Ls (.int x :: .int j :: .ref a :: st))) Q := by
  obtain ⟨locs, cells, slots, X, eT, N, hc', hs', hn⟩ := A
  obtain ⟨kk, ⟨cl, Ar, q1, S, q3, H, G⟩, hlen⟩ := V
  have hin := inb_of S hj
  obtain ⟨T', h', X', e', W', st'⟩ := stB X C.1 C.2.2.2.2.1 eT Ar hin (g := mkF m pc Ls (.int x :: .int j :: .ref a :: st)) rfl rfl (hb C.2.1 hd)
  subst hq hys
  have hlt : j.toNatClampNeg < (xs.map Value.int).length := by
    have := Nat.lt_of_not_le fun z => hin (Or.inr z)
    rw [S] at this; simpa [hlen] using this
  have V' := Arv.set Ar q1 S q3 H G (fits_nar_byte x) W' j.toNatClampNeg rfl hlt
  refine own_go st' (k T' h' (Keep.of_wr W') ⟨kk, ?_, by simpa using hlen⟩ ⟨_, cells, slots, X', e', Fr.snoc X' N ga, hc', hs', by rw [W'.size]; exact hn⟩)
  rw [List.map_set]
  exact V'
theorem own_castore (C : own_Cx Z a0 p l e R s m args below meth c own nm bytes mx ret) (A : own_At p l e R s m args below meth c T h n0 kc ks) {a : Addr} {j x n : Int32} {xs ys : List Int32} (V : own_Ia Z h a .char n xs) (hj : ¬ j < 0 ∧ j < n) (hys : xs.set j.toNatClampNeg (x.toUInt32.toUInt16.toUInt32.toInt32) = ys) (ga : n0 ≤ a) (hd : decode bytes pc = .ok (.castore, 1)) (hq : pc + 1 = q)
    (k : ∀ T' h', Keep h h' [a] → own_Ia Z h' a .char n ys → own_At p l e R s m args below meth c T' h' n0 kc ks → own_Go p.tables e below (T'.setTop (mkF m q Ls st)) Q) :
    own_Go p.tables e below (T.setTop (mkF m pc Ls (.int x :: .int j :: .ref a :: st))) Q := by
  obtain ⟨locs, cells, slots, X, eT, N, hc', hs', hn⟩ := A
  obtain ⟨kk, ⟨cl, Ar, q1, S, q3, H, G⟩, hlen⟩ := V
  have hin := inb_of S hj
  obtain ⟨T', h', X', e', W', st'⟩ := stC X C.1 C.2.2.2.2.1 eT Ar hin (g := mkF m pc Ls (.int x :: .int j :: .ref a :: st)) rfl rfl (hb C.2.1 hd)
  subst hq hys
  have hlt : j.toNatClampNeg < (xs.map Value.int).length := by
    have := Nat.lt_of_not_le fun z => hin (Or.inr z)
    rw [S] at this; simpa [hlen] using this
  have V' := Arv.set Ar q1 S q3 H G (fits_nar_char x) W' j.toNatClampNeg rfl hlt
  refine own_go st' (k T' h' (Keep.of_wr W') ⟨kk, ?_, by simpa using hlen⟩ ⟨_, cells, slots, X', e', Fr.snoc X' N ga, hc', hs', by rw [W'.size]; exact hn⟩)
  rw [List.map_set]
  exact V'
theorem own_iaload (C : own_Cx Z a0 p l e R s m args below meth c own nm bytes mx ret) (A : own_At p l e R s m args below meth c T h n0 kc ks) {a : Addr} {j n v : Int32} {xs : List Int32} (V : own_Ia Z h a .int n xs) (hj : ¬ j < 0 ∧ j < n) (hv : xs.getD j.toNatClampNeg 0 = v) (hd : decode bytes pc = .ok (.iaload, 1)) (hq : pc + 1 = q) (k : own_Go p.tables e below (T.setTop (mkF m q Ls (.int v :: st))) Q) :
    own_Go p.tables e below (T.setTop (mkF m pc Ls (.int j :: .ref a :: st))) Q := by
  obtain ⟨locs, cells, slots, X, eT, N, hc', hs', hn⟩ := A
  obtain ⟨kk, ⟨cl, Ar, q1, S, q3, H, G⟩, hlen⟩ := V
  have hin := inb_of S hj
  subst hq hv
  exact own_go (fun t => X.iaload C.1 (by rw [eT]; exact Ar.1) (State.isArrayOf_alike C.2.2.2.2.1.alike Ar.2.1) Ar.2.2 hin (H.at hin (own_getD_map xs _)) (g := mkF m pc Ls (.int j :: .ref a :: st)) rfl rfl (hb C.2.1 hd) t) k
theorem own_baload (C : own_Cx Z a0 p l e R s m args below meth c own nm bytes mx ret) (A : own_At p l e R s m args below meth c T h n0 kc ks) {a : Addr} {j n v : Int32} {xs : List Int32} (V : own_Ia Z h a .byte n xs) (hj : ¬ j < 0 ∧ j < n) (hv : xs.getD j.toNatClampNeg 0 = v) (hd : decode bytes pc = .ok (.baload, 1)) (hq : pc + 1 = q) (k : own_Go p.tables e below (T.setTop (mkF m q Ls (.int v :: st))) Q) :
    own_Go p.tables e below (T.setTop (mkF m pc Ls (.int j :: .ref a :: st))) Q := by
  obtain ⟨locs, cells, slots, X, eT, N, hc', hs', hn⟩ := A
  obtain ⟨kk, ⟨cl, Ar, q1, S, q3, H, G⟩, hlen⟩ := V
  have hin := inb_of S hj
  subst hq hv
  exact own_go (fun t => X.baloadBytes C.1 (by rw [eT]; exact Ar.1) (State.isArrayOf_alike C.2.2.2.2.1.alike Ar.2.1) Ar.2.2 hin (H.at hin (own_getD_map xs _)) (g := mkF m pc Ls (.int j :: .ref a :: st)) rfl rfl (hb C.2.1 hd) t) k
theorem own_caload (C : own_Cx Z a0 p l e R s m args below meth c own nm bytes mx ret) (A : own_At p l e R s m args below meth c T h n0 kc ks) {a : Addr} {j n v : Int32} {xs : List Int32} (V : own_Ia Z h a .char n xs) (hj : ¬ j < 0 ∧ j < n) (hv : xs.getD j.toNatClampNeg 0 = v) (hd : decode bytes pc = .ok (.caload, 1)) (hq : pc + 1 = q) (k : own_Go p.tables e below (T.setTop (mkF m q Ls (.int v :: st))) Q) :
    own_Go p.tables e below (T.setTop (mkF m pc Ls (.int j :: .ref a :: st))) Q := by
  obtain ⟨locs, cells, slots, X, eT, N, hc', hs', hn⟩ := A
  obtain ⟨kk, ⟨cl, Ar, q1, S, q3, H, G⟩, hlen⟩ := V
  have hin := inb_of S hj
  subst hq hv
  exact own_go (fun t => X.caload C.1 (by rw [eT]; exact Ar.1) (State.isArrayOf_alike C.2.2.2.2.1.alike Ar.2.1) Ar.2.2 hin (H.at hin (own_getD_map xs _)) (g := mkF m pc Ls (.int j :: .ref a :: st)) rfl rfl (hb C.2.1 hd) t) k
theorem own_alen (C : own_Cx Z a0 p l e R s m args below meth c own nm bytes mx ret) (A : own_At p l e R s m args below meth c T h n0 kc ks) {a : Addr} {n : Int32} {ty : FieldType} {xs : List Int32} (V : own_Ia Z h a ty n xs) (hd : decode bytes pc = .ok (.arraylength, 1)) (hq : pc + 1 = q) (k : own_Go p.tables e below (T.setTop (mkF m q Ls (.int n :: st))) Q) :
    own_Go p.tables e below (T.setTop (mkF m pc Ls (.ref a :: st))) Q := by
  obtain ⟨locs, cells, slots, X, eT, N, hc', hs', hn⟩ := A
  obtain ⟨kk, ⟨cl, Ar, q1, S, q3, H, G⟩, hlen⟩ := V
  subst hq
  rw [← len_of S q3] at k
  exact own_go (fun t => X.arraylength C.1 (by rw [eT]; exact Ar.1) (State.isArrayOf_alike C.2.2.2.2.1.alike Ar.2.1) (g := mkF m pc Ls (.ref a :: st)) rfl rfl (hb C.2.1 hd) t) k
end OwnKit
theorem own_pd0 : parseMethodDescriptor "(C)J" = some ⟨[.char], some .long⟩ := by decide +kernel
theorem own_pd1 : parseMethodDescriptor "(JIII)J" = some ⟨[.long, .int, .int, .int], some .long⟩ := by decide +kernel
theorem own_pd2 : parseMethodDescriptor "(JJ)J" = some ⟨[.long, .long], some .long⟩ := by decide +kernel
theorem own_pd3 : parseMethodDescriptor "(JII)J" = some ⟨[.long, .int, .int], some .long⟩ := by decide +kernel
/-! ByteWords.repeated -/
theorem own_d1_0 : decode prog_1_method_2_code 0 = .ok (.ldc2_w 9, 3) := by decide +kernel
theorem own_d1_3 : decode prog_1_method_2_code 3 = .ok (.iload_n 0, 1) := by decide +kernel
theorem own_d1_4 : decode prog_1_method_2_code 4 = .ok (.i2l, 1) := by decide +kernel
theorem own_d1_5 : decode prog_1_method_2_code 5 = .ok (.lmul, 1) := by decide +kernel
theorem own_d1_6 : decode prog_1_method_2_code 6 = .ok (.lreturn, 1) := by decide +kernel
def own_R1 : Room := { frames := 0, cells := 0, slots := 0, locals := 0 }
def f1_0 (v0 : Int32) : Int64 := ((72340172838076673 : Int64) * (v0.toInt64))
set_option maxRecDepth 65536 in
set_option maxHeartbeats 4000000 in
theorem w1_0 {Z : State} {a0 : Array Value} {p : Program} {l : Launch} {e : Env} {s : State} {m : MethodId} {args : Array Value} {below : List Frame} {meth : Method} {c : Code} {T : State} {h : Heap} {n0 : Nat}  (C : own_Cx Z a0 p l e own_R1 s m args below meth c "com/example/prim_json/primjson/ByteWords" "repeated" prog_1_method_2_code 1 (some .long)) (A : own_At p l e own_R1 s m args below meth c T h n0 0 0) (v0 : Int32) :
    own_Go p.tables e below (T.setTop (mkF m 0 #[.val (.int v0)] [])) (own_QR s n0 0 0 (own_RJ h (f1_0 v0))) := by
  unfold f1_0
  refine own_ldcJ C A (own_w C 4 rfl) own_d1_0 rfl ?_
  refine own_iloadN C A own_d1_3 rfl rfl ?_
  refine own_i2l C A own_d1_4 rfl ?_
  refine own_lmul C A own_d1_5 rfl ?_
  exact own_retJ C A own_d1_6 ⟨rfl, rfl⟩
theorem own_ef1 (m : MethodId) (v0 : Int32) : entryFrame m #[(.int v0)] 1 = mkF m 0 #[.val (.int v0)] [] := by first | (simp [entryFrame, mkF, argsToLocals, Value.category]; done) | rfl
theorem rm1 (l : Launch) (Z : State) (a0 : Array Value) (hw : ∀ d ∈ tables_1, d.before a0 Z = true) (ws : List Jvm.Cond) (v0 : Int32) (h : Heap) (n0 : Nat) (hn : n0 ≤ h.size) :
    MetFree l (⟨"com/example/prim_json/primjson/ByteWords", "repeated", "(C)J"⟩ : MethodName) (head1 (Jvm.Cond.code (⟨"com/example/prim_json/primjson/ByteWords", "repeated", "(C)J"⟩ : MethodName) prog_1_method_2_code 1 (some .long) :: ws) own_R1) (fun a U => a = #[(.int v0)] ∧ Z.Warmed39 U.vm ∧ U.heap = h) (fun _ _ _ _ _ => True) (fun _ U o U' => own_QR U n0 0 0 (own_RJ h (f1_0 v0)) o U') :=
  own_met (plainFor_of_name (by first | (simp [plainName, overriddenIn]; done) | decide +kernel)) hw hn (fun m => own_ef1 m v0) (fun p e s m below meth c T C A => w1_0 C A v0)
/-! ByteWordsExactlyEqualBytesPinLaw.place -/
theorem own_d2_0 : decode method_2_code 0 = .ok (.iload_n 3, 1) := by decide +kernel
theorem own_d2_1 : decode method_2_code 1 = .ok (.iload 4, 2) := by decide +kernel
theorem own_d2_3 : decode method_2_code 3 = .ok (.iushr, 1) := by decide +kernel
theorem own_d2_4 : decode method_2_code 4 = .ok (.iconst 1, 1) := by decide +kernel
theorem own_d2_5 : decode method_2_code 5 = .ok (.iand, 1) := by decide +kernel
theorem own_d2_6 : decode method_2_code 6 = .ok (.ifCond .eq 28, 3) := by decide +kernel
theorem own_d2_9 : decode method_2_code 9 = .ok (.lload_n 0, 1) := by decide +kernel
theorem own_d2_10 : decode method_2_code 10 = .ok (.ldc2_w 7, 3) := by decide +kernel
theorem own_d2_13 : decode method_2_code 13 = .ok (.bipush 8, 2) := by decide +kernel
theorem own_d2_15 : decode method_2_code 15 = .ok (.iload 4, 2) := by decide +kernel
theorem own_d2_17 : decode method_2_code 17 = .ok (.imul, 1) := by decide +kernel
theorem own_d2_18 : decode method_2_code 18 = .ok (.lshl, 1) := by decide +kernel
theorem own_d2_19 : decode method_2_code 19 = .ok (.ldc2_w 9, 3) := by decide +kernel
theorem own_d2_22 : decode method_2_code 22 = .ok (.lxor, 1) := by decide +kernel
theorem own_d2_23 : decode method_2_code 23 = .ok (.land, 1) := by decide +kernel
theorem own_d2_24 : decode method_2_code 24 = .ok (.iload_n 2, 1) := by decide +kernel
theorem own_d2_25 : decode method_2_code 25 = .ok (.i2l, 1) := by decide +kernel
theorem own_d2_26 : decode method_2_code 26 = .ok (.bipush 8, 2) := by decide +kernel
theorem own_d2_28 : decode method_2_code 28 = .ok (.iload 4, 2) := by decide +kernel
theorem own_d2_30 : decode method_2_code 30 = .ok (.imul, 1) := by decide +kernel
theorem own_d2_31 : decode method_2_code 31 = .ok (.lshl, 1) := by decide +kernel
theorem own_d2_32 : decode method_2_code 32 = .ok (.lor, 1) := by decide +kernel
theorem own_d2_33 : decode method_2_code 33 = .ok (.lreturn, 1) := by decide +kernel
theorem own_d2_34 : decode method_2_code 34 = .ok (.lload_n 0, 1) := by decide +kernel
theorem own_d2_35 : decode method_2_code 35 = .ok (.lreturn, 1) := by decide +kernel
def own_R2 : Room := { frames := 0, cells := 0, slots := 0, locals := 0 }
def f2_0 (v0 : Int64) (v2 : Int32) (v3 : Int32) (v4 : Int32) : Int64 := (if (((v3.toUInt32 >>> (v4 &&& 31).toUInt32).toInt32) &&& (1 : Int32)) = (0 : Int32) then v0 else ((v0 &&& (((255 : Int64) <<< (((8 : Int32) * v4) &&& 0x3f).toInt64) ^^^ (-1 : Int64))) ||| ((v2.toInt64) <<< (((8 : Int32) * v4) &&& 0x3f).toInt64)))
set_option maxRecDepth 65536 in
set_option maxHeartbeats 4000000 in
theorem w2_0 {Z : State} {a0 : Array Value} {p : Program} {l : Launch} {e : Env} {s : State} {m : MethodId} {args : Array Value} {below : List Frame} {meth : Method} {c : Code} {T : State} {h : Heap} {n0 : Nat}  (C : own_Cx Z a0 p l e own_R2 s m args below meth c "com/example/prim_json/primjson/ByteWordsExactlyEqualBytesPinLaw" "place" method_2_code 5 (some .long)) (A : own_At p l e own_R2 s m args below meth c T h n0 0 0) (v0 : Int64) (v2 : Int32) (v3 : Int32) (v4 : Int32) :
    own_Go p.tables e below (T.setTop (mkF m 0 #[.val (.long v0), .second, .val (.int v2), .val (.int v3), .val (.int v4)] [])) (own_QR s n0 0 0 (own_RJ h (f2_0 v0 v2 v3 v4))) := by
  unfold f2_0
  refine own_iloadN C A own_d2_0 rfl rfl ?_
  refine own_iload C A own_d2_1 rfl rfl ?_
  refine own_iushr C A own_d2_3 rfl ?_
  refine own_iconst C A own_d2_4 (v := 1) rfl rfl ?_
  refine own_iand C A own_d2_5 rfl ?_
  refine own_ite (fun hc6 => ?_) (fun hc6 => ?_)
  · refine own_ifY C A own_d2_6 (Jvm.Free.XT.i0_eq_t hc6) (by decide) (q := 34) (by decide) ?_
    refine own_lloadN C A own_d2_34 rfl rfl ?_
    exact own_retJ C A own_d2_35 ⟨rfl, rfl⟩
  · refine own_ifN C A own_d2_6 (Jvm.Free.XT.i0_eq_f hc6) rfl ?_
    refine own_lloadN C A own_d2_9 rfl rfl ?_
    refine own_ldcJ C A (own_w C 9 rfl) own_d2_10 rfl ?_
    refine own_bipush C A own_d2_13 (v := 8) rfl rfl ?_
    refine own_iload C A own_d2_15 rfl rfl ?_
    refine own_imul C A own_d2_17 rfl ?_
    refine own_lshl C A own_d2_18 rfl ?_
    refine own_ldcJ C A (own_w C 10 rfl) own_d2_19 rfl ?_
    refine own_lxor C A own_d2_22 rfl ?_
    refine own_land C A own_d2_23 rfl ?_
    refine own_iloadN C A own_d2_24 rfl rfl ?_
    refine own_i2l C A own_d2_25 rfl ?_
    refine own_bipush C A own_d2_26 (v := 8) rfl rfl ?_
    refine own_iload C A own_d2_28 rfl rfl ?_
    refine own_imul C A own_d2_30 rfl ?_
    refine own_lshl C A own_d2_31 rfl ?_
    refine own_lor C A own_d2_32 rfl ?_
    exact own_retJ C A own_d2_33 ⟨rfl, rfl⟩
theorem own_ef2 (m : MethodId) (v0 : Int64) (v2 : Int32) (v3 : Int32) (v4 : Int32) : entryFrame m #[(.long v0), (.int v2), (.int v3), (.int v4)] 5 = mkF m 0 #[.val (.long v0), .second, .val (.int v2), .val (.int v3), .val (.int v4)] [] := by first | (simp [entryFrame, mkF, argsToLocals, Value.category]; done) | rfl
theorem rm2 (l : Launch) (Z : State) (a0 : Array Value) (hw : ∀ d ∈ tables_1, d.before a0 Z = true) (ws : List Jvm.Cond) (v0 : Int64) (v2 : Int32) (v3 : Int32) (v4 : Int32) (h : Heap) (n0 : Nat) (hn : n0 ≤ h.size) :
    MetFree l (⟨"com/example/prim_json/primjson/ByteWordsExactlyEqualBytesPinLaw", "place", "(JIII)J"⟩ : MethodName) (head1 (Jvm.Cond.code (⟨"com/example/prim_json/primjson/ByteWordsExactlyEqualBytesPinLaw", "place", "(JIII)J"⟩ : MethodName) method_2_code 5 (some .long) :: ws) own_R2) (fun a U => a = #[(.long v0), (.int v2), (.int v3), (.int v4)] ∧ Z.Warmed39 U.vm ∧ U.heap = h) (fun _ _ _ _ _ => True) (fun _ U o U' => own_QR U n0 0 0 (own_RJ h (f2_0 v0 v2 v3 v4)) o U') :=
  own_met (plainFor_of_name (by first | (simp [plainName, overriddenIn]; done) | decide +kernel)) hw hn (fun m => own_ef2 m v0 v2 v3 v4) (fun p e s m below meth c T C A => w2_0 C A v0 v2 v3 v4)
/-! ByteWords.exactlyEqualBytes -/
theorem own_d3_0 : decode prog_1_method_6_code 0 = .ok (.lload_n 0, 1) := by decide +kernel
theorem own_d3_1 : decode prog_1_method_6_code 1 = .ok (.lload_n 2, 1) := by decide +kernel
theorem own_d3_2 : decode prog_1_method_6_code 2 = .ok (.lxor, 1) := by decide +kernel
theorem own_d3_3 : decode prog_1_method_6_code 3 = .ok (.lstore 4, 2) := by decide +kernel
theorem own_d3_5 : decode prog_1_method_6_code 5 = .ok (.lload 4, 2) := by decide +kernel
theorem own_d3_7 : decode prog_1_method_6_code 7 = .ok (.ldc2_w 30, 3) := by decide +kernel
theorem own_d3_10 : decode prog_1_method_6_code 10 = .ok (.land, 1) := by decide +kernel
theorem own_d3_11 : decode prog_1_method_6_code 11 = .ok (.ldc2_w 30, 3) := by decide +kernel
theorem own_d3_14 : decode prog_1_method_6_code 14 = .ok (.ladd, 1) := by decide +kernel
theorem own_d3_15 : decode prog_1_method_6_code 15 = .ok (.lload 4, 2) := by decide +kernel
theorem own_d3_17 : decode prog_1_method_6_code 17 = .ok (.lor, 1) := by decide +kernel
theorem own_d3_18 : decode prog_1_method_6_code 18 = .ok (.ldc2_w 11, 3) := by decide +kernel
theorem own_d3_21 : decode prog_1_method_6_code 21 = .ok (.lxor, 1) := by decide +kernel
theorem own_d3_22 : decode prog_1_method_6_code 22 = .ok (.ldc2_w 32, 3) := by decide +kernel
theorem own_d3_25 : decode prog_1_method_6_code 25 = .ok (.land, 1) := by decide +kernel
theorem own_d3_26 : decode prog_1_method_6_code 26 = .ok (.lreturn, 1) := by decide +kernel
def own_R3 : Room := { frames := 0, cells := 0, slots := 0, locals := 0 }
def f3_0 (v0 : Int64) (v2 : Int64) : Int64 := ((((((v0 ^^^ v2) &&& (9187201950435737471 : Int64)) + (9187201950435737471 : Int64)) ||| (v0 ^^^ v2)) ^^^ (-1 : Int64)) &&& (-9187201950435737472 : Int64))
set_option maxRecDepth 65536 in
set_option maxHeartbeats 4000000 in
theorem w3_0 {Z : State} {a0 : Array Value} {p : Program} {l : Launch} {e : Env} {s : State} {m : MethodId} {args : Array Value} {below : List Frame} {meth : Method} {c : Code} {T : State} {h : Heap} {n0 : Nat}  (C : own_Cx Z a0 p l e own_R3 s m args below meth c "com/example/prim_json/primjson/ByteWords" "exactlyEqualBytes" prog_1_method_6_code 6 (some .long)) (A : own_At p l e own_R3 s m args below meth c T h n0 0 0) (v0 : Int64) (v2 : Int64) :
    own_Go p.tables e below (T.setTop (mkF m 0 #[.val (.long v0), .second, .val (.long v2), .second, .unset, .unset] [])) (own_QR s n0 0 0 (own_RJ h (f3_0 v0 v2))) := by
  unfold f3_0
  refine own_lloadN C A own_d3_0 rfl rfl ?_
  refine own_lloadN C A own_d3_1 rfl rfl ?_
  refine own_lxor C A own_d3_2 rfl ?_
  refine own_lstore C A own_d3_3 (l' := #[.val (.long v0), .second, .val (.long v2), .second, .val (.long (v0 ^^^ v2)), .second]) rfl rfl ?_
  refine own_lload C A own_d3_5 rfl rfl ?_
  refine own_ldcJ C A (own_w C 14 rfl) own_d3_7 rfl ?_
  refine own_land C A own_d3_10 rfl ?_
  refine own_ldcJ C A (own_w C 14 rfl) own_d3_11 rfl ?_
  refine own_ladd C A own_d3_14 rfl ?_
  refine own_lload C A own_d3_15 rfl rfl ?_
  refine own_lor C A own_d3_17 rfl ?_
  refine own_ldcJ C A (own_w C 15 rfl) own_d3_18 rfl ?_
  refine own_lxor C A own_d3_21 rfl ?_
  refine own_ldcJ C A (own_w C 16 rfl) own_d3_22 rfl ?_
  refine own_land C A own_d3_25 rfl ?_
  exact own_retJ C A own_d3_26 ⟨rfl, rfl⟩
theorem own_ef3 (m : MethodId) (v0 : Int64) (v2 : Int64) : entryFrame m #[(.long v0), (.long v2)] 6 = mkF m 0 #[.val (.long v0), .second, .val (.long v2), .second, .unset, .unset] [] := by first | (simp [entryFrame, mkF, argsToLocals, Value.category]; done) | rfl
theorem rm3 (l : Launch) (Z : State) (a0 : Array Value) (hw : ∀ d ∈ tables_1, d.before a0 Z = true) (ws : List Jvm.Cond) (v0 : Int64) (v2 : Int64) (h : Heap) (n0 : Nat) (hn : n0 ≤ h.size) :
    MetFree l (⟨"com/example/prim_json/primjson/ByteWords", "exactlyEqualBytes", "(JJ)J"⟩ : MethodName) (head1 (Jvm.Cond.code (⟨"com/example/prim_json/primjson/ByteWords", "exactlyEqualBytes", "(JJ)J"⟩ : MethodName) prog_1_method_6_code 6 (some .long) :: ws) own_R3) (fun a U => a = #[(.long v0), (.long v2)] ∧ Z.Warmed39 U.vm ∧ U.heap = h) (fun _ _ _ _ _ => True) (fun _ U o U' => own_QR U n0 0 0 (own_RJ h (f3_0 v0 v2)) o U') :=
  own_met (plainFor_of_name (by first | (simp [plainName, overriddenIn]; done) | decide +kernel)) hw hn (fun m => own_ef3 m v0 v2) (fun p e s m below meth c T C A => w3_0 C A v0 v2)
/-! ByteWordsExactlyEqualBytesPinLaw.bit -/
theorem own_d4_0 : decode method_3_code 0 = .ok (.lload_n 0, 1) := by decide +kernel
theorem own_d4_1 : decode method_3_code 1 = .ok (.bipush 8, 2) := by decide +kernel
theorem own_d4_3 : decode method_3_code 3 = .ok (.iload_n 3, 1) := by decide +kernel
theorem own_d4_4 : decode method_3_code 4 = .ok (.imul, 1) := by decide +kernel
theorem own_d4_5 : decode method_3_code 5 = .ok (.lushr, 1) := by decide +kernel
theorem own_d4_6 : decode method_3_code 6 = .ok (.ldc2_w 7, 3) := by decide +kernel
theorem own_d4_9 : decode method_3_code 9 = .ok (.land, 1) := by decide +kernel
theorem own_d4_10 : decode method_3_code 10 = .ok (.iload_n 2, 1) := by decide +kernel
theorem own_d4_11 : decode method_3_code 11 = .ok (.i2l, 1) := by decide +kernel
theorem own_d4_12 : decode method_3_code 12 = .ok (.lcmp, 1) := by decide +kernel
theorem own_d4_13 : decode method_3_code 13 = .ok (.ifCond .ne 12, 3) := by decide +kernel
theorem own_d4_16 : decode method_3_code 16 = .ok (.ldc2_w 11, 3) := by decide +kernel
theorem own_d4_19 : decode method_3_code 19 = .ok (.bipush 8, 2) := by decide +kernel
theorem own_d4_21 : decode method_3_code 21 = .ok (.iload_n 3, 1) := by decide +kernel
theorem own_d4_22 : decode method_3_code 22 = .ok (.imul, 1) := by decide +kernel
theorem own_d4_23 : decode method_3_code 23 = .ok (.lshl, 1) := by decide +kernel
theorem own_d4_24 : decode method_3_code 24 = .ok (.lreturn, 1) := by decide +kernel
theorem own_d4_25 : decode method_3_code 25 = .ok (.lconst 0, 1) := by decide +kernel
theorem own_d4_26 : decode method_3_code 26 = .ok (.lreturn, 1) := by decide +kernel
def own_R4 : Room := { frames := 0, cells := 0, slots := 0, locals := 0 }
def f4_0 (v0 : Int64) (v2 : Int32) (v3 : Int32) : Int64 := (if (((v0.toUInt64 >>> (((8 : Int32) * v3) &&& 0x3f).toInt64.toUInt64).toInt64) &&& (255 : Int64)) = (v2.toInt64) then ((128 : Int64) <<< (((8 : Int32) * v3) &&& 0x3f).toInt64) else (0 : Int64))
set_option maxRecDepth 65536 in
set_option maxHeartbeats 4000000 in
theorem w4_0 {Z : State} {a0 : Array Value} {p : Program} {l : Launch} {e : Env} {s : State} {m : MethodId} {args : Array Value} {below : List Frame} {meth : Method} {c : Code} {T : State} {h : Heap} {n0 : Nat}  (C : own_Cx Z a0 p l e own_R4 s m args below meth c "com/example/prim_json/primjson/ByteWordsExactlyEqualBytesPinLaw" "bit" method_3_code 4 (some .long)) (A : own_At p l e own_R4 s m args below meth c T h n0 0 0) (v0 : Int64) (v2 : Int32) (v3 : Int32) :
    own_Go p.tables e below (T.setTop (mkF m 0 #[.val (.long v0), .second, .val (.int v2), .val (.int v3)] [])) (own_QR s n0 0 0 (own_RJ h (f4_0 v0 v2 v3))) := by
  unfold f4_0
  refine own_lloadN C A own_d4_0 rfl rfl ?_
  refine own_bipush C A own_d4_1 (v := 8) rfl rfl ?_
  refine own_iloadN C A own_d4_3 rfl rfl ?_
  refine own_imul C A own_d4_4 rfl ?_
  refine own_lushr C A own_d4_5 rfl ?_
  refine own_ldcJ C A (own_w C 9 rfl) own_d4_6 rfl ?_
  refine own_land C A own_d4_9 rfl ?_
  refine own_iloadN C A own_d4_10 rfl rfl ?_
  refine own_i2l C A own_d4_11 rfl ?_
  refine own_lcmp C A own_d4_12 rfl ?_
  refine own_ite (fun hc13 => ?_) (fun hc13 => ?_)
  · refine own_ifN C A own_d4_13 (Jvm.Free.XT.ll_ne_f hc13) rfl ?_
    refine own_ldcJ C A (own_w C 20 rfl) own_d4_16 rfl ?_
    refine own_bipush C A own_d4_19 (v := 8) rfl rfl ?_
    refine own_iloadN C A own_d4_21 rfl rfl ?_
    refine own_imul C A own_d4_22 rfl ?_
    refine own_lshl C A own_d4_23 rfl ?_
    exact own_retJ C A own_d4_24 ⟨rfl, rfl⟩
  · refine own_ifY C A own_d4_13 (Jvm.Free.XT.ll_ne_t hc13) (by decide) (q := 25) (by decide) ?_
    refine own_lconst C A own_d4_25 (v := 0) rfl rfl ?_
    exact own_retJ C A own_d4_26 ⟨rfl, rfl⟩
theorem own_ef4 (m : MethodId) (v0 : Int64) (v2 : Int32) (v3 : Int32) : entryFrame m #[(.long v0), (.int v2), (.int v3)] 4 = mkF m 0 #[.val (.long v0), .second, .val (.int v2), .val (.int v3)] [] := by first | (simp [entryFrame, mkF, argsToLocals, Value.category]; done) | rfl
theorem rm4 (l : Launch) (Z : State) (a0 : Array Value) (hw : ∀ d ∈ tables_1, d.before a0 Z = true) (ws : List Jvm.Cond) (v0 : Int64) (v2 : Int32) (v3 : Int32) (h : Heap) (n0 : Nat) (hn : n0 ≤ h.size) :
    MetFree l (⟨"com/example/prim_json/primjson/ByteWordsExactlyEqualBytesPinLaw", "bit", "(JII)J"⟩ : MethodName) (head1 (Jvm.Cond.code (⟨"com/example/prim_json/primjson/ByteWordsExactlyEqualBytesPinLaw", "bit", "(JII)J"⟩ : MethodName) method_3_code 4 (some .long) :: ws) own_R4) (fun a U => a = #[(.long v0), (.int v2), (.int v3)] ∧ Z.Warmed39 U.vm ∧ U.heap = h) (fun _ _ _ _ _ => True) (fun _ U o U' => own_QR U n0 0 0 (own_RJ h (f4_0 v0 v2 v3)) o U') :=
  own_met (plainFor_of_name (by first | (simp [plainName, overriddenIn]; done) | decide +kernel)) hw hn (fun m => own_ef4 m v0 v2 v3) (fun p e s m below meth c T C A => w4_0 C A v0 v2 v3)

/-! ByteWordsExactlyEqualBytesPinLaw.law -/
def f0_117 (v4 : Int32) (v7 : Int64) (v9 : Int64) : Int32 := (if v9 = ((((((((f4_0 v7 v4 (0 : Int32)) ||| (f4_0 v7 v4 (1 : Int32))) ||| (f4_0 v7 v4 (2 : Int32))) ||| (f4_0 v7 v4 (3 : Int32))) ||| (f4_0 v7 v4 (4 : Int32))) ||| (f4_0 v7 v4 (5 : Int32))) ||| (f4_0 v7 v4 (6 : Int32))) ||| (f4_0 v7 v4 (7 : Int32))) then (1 : Int32) else (0 : Int32))
set_option maxRecDepth 65536 in
set_option maxHeartbeats 4000000 in
theorem w0_117 {Z : State} {a0 : Array Value} {p : Program} {l : Launch} {e : Env} {s : State} {m : MethodId} {args : Array Value} {below : List Frame} {meth : Method} {c : Code} {T : State} {h : Heap} {n0 : Nat} {u0 : Int64} {u2 : Int32} {u3 : Int32} {u5 : Int64} (C : own_Cx Z a0 p l e room_1 s m args below meth c "com/example/prim_json/primjson/ByteWordsExactlyEqualBytesPinLaw" "law" code maxLocals ret) (A : own_At p l e room_1 s m args below meth c T h n0 0 0) (v4 : Int32) (v7 : Int64) (v9 : Int64) :
    own_Go p.tables e below (T.setTop (mkF m 117 #[.val (.long u0), .second, .val (.int u2), .val (.int u3), .val (.int v4), .val (.long u5), .second, .val (.long v7), .second, .val (.long v9), .second, .unset, .unset] [])) (own_QR s n0 0 0 (own_RV (f0_117 v4 v7 v9))) := by
  unfold f0_117
  refine own_lload C A at_117 rfl rfl ?_
  refine own_iload C A at_119 rfl rfl ?_
  refine own_iconst C A at_121 (v := 0) rfl rfl ?_
  refine own_callSJ C A 0 [(.long v7), (.int v4), (.int (0 : Int32))] [] (own_w C 17 rfl) (own_w C 18 rfl) (own_w C 7 rfl) (own_w C 19 rfl) (by decide) (rm4 l Z a0 C.2.2.2.2.2.2.2.2 [] v7 v4 (0 : Int32) _ _ (own_size A)) rfl rfl (by decide) (by decide) (by decide) (by decide) own_pd3 rfl rfl rfl (Nat.le_of_eq rfl) rfl at_122 rfl (fun T A => ?_)
  refine own_lload C A at_125 rfl rfl ?_
  refine own_iload C A at_127 rfl rfl ?_
  refine own_iconst C A at_129 (v := 1) rfl rfl ?_
  refine own_callSJ C A 2 [(.long v7), (.int v4), (.int (1 : Int32))] [(.long (f4_0 v7 v4 (0 : Int32)))] (own_w C 17 rfl) (own_w C 18 rfl) (own_w C 7 rfl) (own_w C 19 rfl) (by decide) (rm4 l Z a0 C.2.2.2.2.2.2.2.2 [] v7 v4 (1 : Int32) _ _ (own_size A)) rfl rfl (by decide) (by decide) (by decide) (by decide) own_pd3 rfl rfl rfl (Nat.le_of_eq rfl) rfl at_130 rfl (fun T A => ?_)
  refine own_lor C A at_133 rfl ?_
  refine own_lload C A at_134 rfl rfl ?_
  refine own_iload C A at_136 rfl rfl ?_
  refine own_iconst C A at_138 (v := 2) rfl rfl ?_
  refine own_callSJ C A 2 [(.long v7), (.int v4), (.int (2 : Int32))] [(.long ((f4_0 v7 v4 (0 : Int32)) ||| (f4_0 v7 v4 (1 : Int32))))] (own_w C 17 rfl) (own_w C 18 rfl) (own_w C 7 rfl) (own_w C 19 rfl) (by decide) (rm4 l Z a0 C.2.2.2.2.2.2.2.2 [] v7 v4 (2 : Int32) _ _ (own_size A)) rfl rfl (by decide) (by decide) (by decide) (by decide) own_pd3 rfl rfl rfl (Nat.le_of_eq rfl) rfl at_139 rfl (fun T A => ?_)
  refine own_lor C A at_142 rfl ?_
  refine own_lload C A at_143 rfl rfl ?_
  refine own_iload C A at_145 rfl rfl ?_
  refine own_iconst C A at_147 (v := 3) rfl rfl ?_
  refine own_callSJ C A 2 [(.long v7), (.int v4), (.int (3 : Int32))] [(.long (((f4_0 v7 v4 (0 : Int32)) ||| (f4_0 v7 v4 (1 : Int32))) ||| (f4_0 v7 v4 (2 : Int32))))] (own_w C 17 rfl) (own_w C 18 rfl) (own_w C 7 rfl) (own_w C 19 rfl) (by decide) (rm4 l Z a0 C.2.2.2.2.2.2.2.2 [] v7 v4 (3 : Int32) _ _ (own_size A)) rfl rfl (by decide) (by decide) (by decide) (by decide) own_pd3 rfl rfl rfl (Nat.le_of_eq rfl) rfl at_148 rfl (fun T A => ?_)
  refine own_lor C A at_151 rfl ?_
  refine own_lload C A at_152 rfl rfl ?_
  refine own_iload C A at_154 rfl rfl ?_
  refine own_iconst C A at_156 (v := 4) rfl rfl ?_
  refine own_callSJ C A 2 [(.long v7), (.int v4), (.int (4 : Int32))] [(.long ((((f4_0 v7 v4 (0 : Int32)) ||| (f4_0 v7 v4 (1 : Int32))) ||| (f4_0 v7 v4 (2 : Int32))) ||| (f4_0 v7 v4 (3 : Int32))))] (own_w C 17 rfl) (own_w C 18 rfl) (own_w C 7 rfl) (own_w C 19 rfl) (by decide) (rm4 l Z a0 C.2.2.2.2.2.2.2.2 [] v7 v4 (4 : Int32) _ _ (own_size A)) rfl rfl (by decide) (by decide) (by decide) (by decide) own_pd3 rfl rfl rfl (Nat.le_of_eq rfl) rfl at_157 rfl (fun T A => ?_)
  refine own_lor C A at_160 rfl ?_
  refine own_lload C A at_161 rfl rfl ?_
  refine own_iload C A at_163 rfl rfl ?_
  refine own_iconst C A at_165 (v := 5) rfl rfl ?_
  refine own_callSJ C A 2 [(.long v7), (.int v4), (.int (5 : Int32))] [(.long (((((f4_0 v7 v4 (0 : Int32)) ||| (f4_0 v7 v4 (1 : Int32))) ||| (f4_0 v7 v4 (2 : Int32))) ||| (f4_0 v7 v4 (3 : Int32))) ||| (f4_0 v7 v4 (4 : Int32))))] (own_w C 17 rfl) (own_w C 18 rfl) (own_w C 7 rfl) (own_w C 19 rfl) (by decide) (rm4 l Z a0 C.2.2.2.2.2.2.2.2 [] v7 v4 (5 : Int32) _ _ (own_size A)) rfl rfl (by decide) (by decide) (by decide) (by decide) own_pd3 rfl rfl rfl (Nat.le_of_eq rfl) rfl at_166 rfl (fun T A => ?_)
  refine own_lor C A at_169 rfl ?_
  refine own_lload C A at_170 rfl rfl ?_
  refine own_iload C A at_172 rfl rfl ?_
  refine own_bipush C A at_174 (v := 6) rfl rfl ?_
  refine own_callSJ C A 2 [(.long v7), (.int v4), (.int (6 : Int32))] [(.long ((((((f4_0 v7 v4 (0 : Int32)) ||| (f4_0 v7 v4 (1 : Int32))) ||| (f4_0 v7 v4 (2 : Int32))) ||| (f4_0 v7 v4 (3 : Int32))) ||| (f4_0 v7 v4 (4 : Int32))) ||| (f4_0 v7 v4 (5 : Int32))))] (own_w C 17 rfl) (own_w C 18 rfl) (own_w C 7 rfl) (own_w C 19 rfl) (by decide) (rm4 l Z a0 C.2.2.2.2.2.2.2.2 [] v7 v4 (6 : Int32) _ _ (own_size A)) rfl rfl (by decide) (by decide) (by decide) (by decide) own_pd3 rfl rfl rfl (Nat.le_of_eq rfl) rfl at_176 rfl (fun T A => ?_)
  refine own_lor C A at_179 rfl ?_
  refine own_lload C A at_180 rfl rfl ?_
  refine own_iload C A at_182 rfl rfl ?_
  refine own_bipush C A at_184 (v := 7) rfl rfl ?_
  refine own_callSJ C A 2 [(.long v7), (.int v4), (.int (7 : Int32))] [(.long (((((((f4_0 v7 v4 (0 : Int32)) ||| (f4_0 v7 v4 (1 : Int32))) ||| (f4_0 v7 v4 (2 : Int32))) ||| (f4_0 v7 v4 (3 : Int32))) ||| (f4_0 v7 v4 (4 : Int32))) ||| (f4_0 v7 v4 (5 : Int32))) ||| (f4_0 v7 v4 (6 : Int32))))] (own_w C 17 rfl) (own_w C 18 rfl) (own_w C 7 rfl) (own_w C 19 rfl) (by decide) (rm4 l Z a0 C.2.2.2.2.2.2.2.2 [] v7 v4 (7 : Int32) _ _ (own_size A)) rfl rfl (by decide) (by decide) (by decide) (by decide) own_pd3 rfl rfl rfl (Nat.le_of_eq rfl) rfl at_186 rfl (fun T A => ?_)
  refine own_lor C A at_189 rfl ?_
  refine own_lstore C A at_190 (l' := #[.val (.long u0), .second, .val (.int u2), .val (.int u3), .val (.int v4), .val (.long u5), .second, .val (.long v7), .second, .val (.long v9), .second, .val (.long ((((((((f4_0 v7 v4 (0 : Int32)) ||| (f4_0 v7 v4 (1 : Int32))) ||| (f4_0 v7 v4 (2 : Int32))) ||| (f4_0 v7 v4 (3 : Int32))) ||| (f4_0 v7 v4 (4 : Int32))) ||| (f4_0 v7 v4 (5 : Int32))) ||| (f4_0 v7 v4 (6 : Int32))) ||| (f4_0 v7 v4 (7 : Int32)))), .second]) rfl rfl ?_
  refine own_lload C A at_192 rfl rfl ?_
  refine own_lload C A at_194 rfl rfl ?_
  refine own_lcmp C A at_196 rfl ?_
  refine own_ite (fun hc197 => ?_) (fun hc197 => ?_)
  · refine own_ifN C A at_197 (Jvm.Free.XT.ll_ne_f hc197) rfl ?_
    refine own_iconst C A at_200 (v := 1) rfl rfl ?_
    refine own_goto C A at_201 (by decide) (q := 205) (by decide) ?_
    exact own_retN C A (t := .boolean) (by simp) at_205 rfl
  · refine own_ifY C A at_197 (Jvm.Free.XT.ll_ne_t hc197) (by decide) (q := 204) (by decide) ?_
    refine own_iconst C A at_204 (v := 0) rfl rfl ?_
    exact own_retN C A (t := .boolean) (by simp) at_205 rfl
def f0_108 (v4 : Int32) (v5 : Int64) (v7 : Int64) : Int32 := (f0_117 v4 v7 (f3_0 v7 v5))
set_option maxRecDepth 65536 in
set_option maxHeartbeats 4000000 in
theorem w0_108 {Z : State} {a0 : Array Value} {p : Program} {l : Launch} {e : Env} {s : State} {m : MethodId} {args : Array Value} {below : List Frame} {meth : Method} {c : Code} {T : State} {h : Heap} {n0 : Nat} {u0 : Int64} {u2 : Int32} {u3 : Int32} (C : own_Cx Z a0 p l e room_1 s m args below meth c "com/example/prim_json/primjson/ByteWordsExactlyEqualBytesPinLaw" "law" code maxLocals ret) (A : own_At p l e room_1 s m args below meth c T h n0 0 0) (v4 : Int32) (v5 : Int64) (v7 : Int64) :
    own_Go p.tables e below (T.setTop (mkF m 108 #[.val (.long u0), .second, .val (.int u2), .val (.int u3), .val (.int v4), .val (.long v5), .second, .val (.long v7), .second, .unset, .unset, .unset, .unset] [])) (own_QR s n0 0 0 (own_RV (f0_108 v4 v5 v7))) := by
  unfold f0_108
  refine own_lload C A at_108 rfl rfl ?_
  refine own_lload C A at_110 rfl rfl ?_
  refine own_callSJ C A 0 [(.long v7), (.long v5)] [] (own_w C 11 rfl) (own_w C 12 rfl) (own_w C 2 rfl) (own_w C 13 rfl) (by decide) (rm3 l Z a0 C.2.2.2.2.2.2.2.2 [] v7 v5 _ _ (own_size A)) rfl rfl (by decide) (by decide) (by decide) (by decide) own_pd2 rfl rfl rfl (Nat.le_of_eq rfl) rfl at_112 rfl (fun T A => ?_)
  refine own_lstore C A at_115 (l' := #[.val (.long u0), .second, .val (.int u2), .val (.int u3), .val (.int v4), .val (.long v5), .second, .val (.long v7), .second, .val (.long (f3_0 v7 v5)), .second, .unset, .unset]) rfl rfl ?_
  exact w0_117 C A v4 v7 (f3_0 v7 v5)
def f0_96 (v3 : Int32) (v4 : Int32) (v5 : Int64) (v7 : Int64) : Int32 := (f0_108 v4 v5 (f2_0 v7 v4 v3 (7 : Int32)))
set_option maxRecDepth 65536 in
set_option maxHeartbeats 4000000 in
theorem w0_96 {Z : State} {a0 : Array Value} {p : Program} {l : Launch} {e : Env} {s : State} {m : MethodId} {args : Array Value} {below : List Frame} {meth : Method} {c : Code} {T : State} {h : Heap} {n0 : Nat} {u0 : Int64} {u2 : Int32} (C : own_Cx Z a0 p l e room_1 s m args below meth c "com/example/prim_json/primjson/ByteWordsExactlyEqualBytesPinLaw" "law" code maxLocals ret) (A : own_At p l e room_1 s m args below meth c T h n0 0 0) (v3 : Int32) (v4 : Int32) (v5 : Int64) (v7 : Int64) :
    own_Go p.tables e below (T.setTop (mkF m 96 #[.val (.long u0), .second, .val (.int u2), .val (.int v3), .val (.int v4), .val (.long v5), .second, .val (.long v7), .second, .unset, .unset, .unset, .unset] [])) (own_QR s n0 0 0 (own_RV (f0_96 v3 v4 v5 v7))) := by
  unfold f0_96
  refine own_lload C A at_96 rfl rfl ?_
  refine own_iload C A at_98 rfl rfl ?_
  refine own_iloadN C A at_100 rfl rfl ?_
  refine own_bipush C A at_101 (v := 7) rfl rfl ?_
  refine own_callSJ C A 0 [(.long v7), (.int v4), (.int v3), (.int (7 : Int32))] [] (own_w C 5 rfl) (own_w C 6 rfl) (own_w C 7 rfl) (own_w C 8 rfl) (by decide) (rm2 l Z a0 C.2.2.2.2.2.2.2.2 [] v7 v4 v3 (7 : Int32) _ _ (own_size A)) rfl rfl (by decide) (by decide) (by decide) (by decide) own_pd1 rfl rfl rfl (Nat.le_of_eq rfl) rfl at_103 rfl (fun T A => ?_)
  refine own_lstore C A at_106 (l' := #[.val (.long u0), .second, .val (.int u2), .val (.int v3), .val (.int v4), .val (.long v5), .second, .val (.long (f2_0 v7 v4 v3 (7 : Int32))), .second, .unset, .unset, .unset, .unset]) rfl rfl ?_
  exact w0_108 C A v4 v5 (f2_0 v7 v4 v3 (7 : Int32))
def f0_84 (v3 : Int32) (v4 : Int32) (v5 : Int64) (v7 : Int64) : Int32 := (f0_96 v3 v4 v5 (f2_0 v7 v4 v3 (6 : Int32)))
set_option maxRecDepth 65536 in
set_option maxHeartbeats 4000000 in
theorem w0_84 {Z : State} {a0 : Array Value} {p : Program} {l : Launch} {e : Env} {s : State} {m : MethodId} {args : Array Value} {below : List Frame} {meth : Method} {c : Code} {T : State} {h : Heap} {n0 : Nat} {u0 : Int64} {u2 : Int32} (C : own_Cx Z a0 p l e room_1 s m args below meth c "com/example/prim_json/primjson/ByteWordsExactlyEqualBytesPinLaw" "law" code maxLocals ret) (A : own_At p l e room_1 s m args below meth c T h n0 0 0) (v3 : Int32) (v4 : Int32) (v5 : Int64) (v7 : Int64) :
    own_Go p.tables e below (T.setTop (mkF m 84 #[.val (.long u0), .second, .val (.int u2), .val (.int v3), .val (.int v4), .val (.long v5), .second, .val (.long v7), .second, .unset, .unset, .unset, .unset] [])) (own_QR s n0 0 0 (own_RV (f0_84 v3 v4 v5 v7))) := by
  unfold f0_84
  refine own_lload C A at_84 rfl rfl ?_
  refine own_iload C A at_86 rfl rfl ?_
  refine own_iloadN C A at_88 rfl rfl ?_
  refine own_bipush C A at_89 (v := 6) rfl rfl ?_
  refine own_callSJ C A 0 [(.long v7), (.int v4), (.int v3), (.int (6 : Int32))] [] (own_w C 5 rfl) (own_w C 6 rfl) (own_w C 7 rfl) (own_w C 8 rfl) (by decide) (rm2 l Z a0 C.2.2.2.2.2.2.2.2 [] v7 v4 v3 (6 : Int32) _ _ (own_size A)) rfl rfl (by decide) (by decide) (by decide) (by decide) own_pd1 rfl rfl rfl (Nat.le_of_eq rfl) rfl at_91 rfl (fun T A => ?_)
  refine own_lstore C A at_94 (l' := #[.val (.long u0), .second, .val (.int u2), .val (.int v3), .val (.int v4), .val (.long v5), .second, .val (.long (f2_0 v7 v4 v3 (6 : Int32))), .second, .unset, .unset, .unset, .unset]) rfl rfl ?_
  exact w0_96 C A v3 v4 v5 (f2_0 v7 v4 v3 (6 : Int32))
def f0_73 (v3 : Int32) (v4 : Int32) (v5 : Int64) (v7 : Int64) : Int32 := (f0_84 v3 v4 v5 (f2_0 v7 v4 v3 (5 : Int32)))
set_option maxRecDepth 65536 in
set_option maxHeartbeats 4000000 in
theorem w0_73 {Z : State} {a0 : Array Value} {p : Program} {l : Launch} {e : Env} {s : State} {m : MethodId} {args : Array Value} {below : List Frame} {meth : Method} {c : Code} {T : State} {h : Heap} {n0 : Nat} {u0 : Int64} {u2 : Int32} (C : own_Cx Z a0 p l e room_1 s m args below meth c "com/example/prim_json/primjson/ByteWordsExactlyEqualBytesPinLaw" "law" code maxLocals ret) (A : own_At p l e room_1 s m args below meth c T h n0 0 0) (v3 : Int32) (v4 : Int32) (v5 : Int64) (v7 : Int64) :
    own_Go p.tables e below (T.setTop (mkF m 73 #[.val (.long u0), .second, .val (.int u2), .val (.int v3), .val (.int v4), .val (.long v5), .second, .val (.long v7), .second, .unset, .unset, .unset, .unset] [])) (own_QR s n0 0 0 (own_RV (f0_73 v3 v4 v5 v7))) := by
  unfold f0_73
  refine own_lload C A at_73 rfl rfl ?_
  refine own_iload C A at_75 rfl rfl ?_
  refine own_iloadN C A at_77 rfl rfl ?_
  refine own_iconst C A at_78 (v := 5) rfl rfl ?_
  refine own_callSJ C A 0 [(.long v7), (.int v4), (.int v3), (.int (5 : Int32))] [] (own_w C 5 rfl) (own_w C 6 rfl) (own_w C 7 rfl) (own_w C 8 rfl) (by decide) (rm2 l Z a0 C.2.2.2.2.2.2.2.2 [] v7 v4 v3 (5 : Int32) _ _ (own_size A)) rfl rfl (by decide) (by decide) (by decide) (by decide) own_pd1 rfl rfl rfl (Nat.le_of_eq rfl) rfl at_79 rfl (fun T A => ?_)
  refine own_lstore C A at_82 (l' := #[.val (.long u0), .second, .val (.int u2), .val (.int v3), .val (.int v4), .val (.long v5), .second, .val (.long (f2_0 v7 v4 v3 (5 : Int32))), .second, .unset, .unset, .unset, .unset]) rfl rfl ?_
  exact w0_84 C A v3 v4 v5 (f2_0 v7 v4 v3 (5 : Int32))
def f0_62 (v3 : Int32) (v4 : Int32) (v5 : Int64) (v7 : Int64) : Int32 := (f0_73 v3 v4 v5 (f2_0 v7 v4 v3 (4 : Int32)))
set_option maxRecDepth 65536 in
set_option maxHeartbeats 4000000 in
theorem w0_62 {Z : State} {a0 : Array Value} {p : Program} {l : Launch} {e : Env} {s : State} {m : MethodId} {args : Array Value} {below : List Frame} {meth : Method} {c : Code} {T : State} {h : Heap} {n0 : Nat} {u0 : Int64} {u2 : Int32} (C : own_Cx Z a0 p l e room_1 s m args below meth c "com/example/prim_json/primjson/ByteWordsExactlyEqualBytesPinLaw" "law" code maxLocals ret) (A : own_At p l e room_1 s m args below meth c T h n0 0 0) (v3 : Int32) (v4 : Int32) (v5 : Int64) (v7 : Int64) :
    own_Go p.tables e below (T.setTop (mkF m 62 #[.val (.long u0), .second, .val (.int u2), .val (.int v3), .val (.int v4), .val (.long v5), .second, .val (.long v7), .second, .unset, .unset, .unset, .unset] [])) (own_QR s n0 0 0 (own_RV (f0_62 v3 v4 v5 v7))) := by
  unfold f0_62
  refine own_lload C A at_62 rfl rfl ?_
  refine own_iload C A at_64 rfl rfl ?_
  refine own_iloadN C A at_66 rfl rfl ?_
  refine own_iconst C A at_67 (v := 4) rfl rfl ?_
  refine own_callSJ C A 0 [(.long v7), (.int v4), (.int v3), (.int (4 : Int32))] [] (own_w C 5 rfl) (own_w C 6 rfl) (own_w C 7 rfl) (own_w C 8 rfl) (by decide) (rm2 l Z a0 C.2.2.2.2.2.2.2.2 [] v7 v4 v3 (4 : Int32) _ _ (own_size A)) rfl rfl (by decide) (by decide) (by decide) (by decide) own_pd1 rfl rfl rfl (Nat.le_of_eq rfl) rfl at_68 rfl (fun T A => ?_)
  refine own_lstore C A at_71 (l' := #[.val (.long u0), .second, .val (.int u2), .val (.int v3), .val (.int v4), .val (.long v5), .second, .val (.long (f2_0 v7 v4 v3 (4 : Int32))), .second, .unset, .unset, .unset, .unset]) rfl rfl ?_
  exact w0_73 C A v3 v4 v5 (f2_0 v7 v4 v3 (4 : Int32))
def f0_51 (v3 : Int32) (v4 : Int32) (v5 : Int64) (v7 : Int64) : Int32 := (f0_62 v3 v4 v5 (f2_0 v7 v4 v3 (3 : Int32)))
set_option maxRecDepth 65536 in
set_option maxHeartbeats 4000000 in
theorem w0_51 {Z : State} {a0 : Array Value} {p : Program} {l : Launch} {e : Env} {s : State} {m : MethodId} {args : Array Value} {below : List Frame} {meth : Method} {c : Code} {T : State} {h : Heap} {n0 : Nat} {u0 : Int64} {u2 : Int32} (C : own_Cx Z a0 p l e room_1 s m args below meth c "com/example/prim_json/primjson/ByteWordsExactlyEqualBytesPinLaw" "law" code maxLocals ret) (A : own_At p l e room_1 s m args below meth c T h n0 0 0) (v3 : Int32) (v4 : Int32) (v5 : Int64) (v7 : Int64) :
    own_Go p.tables e below (T.setTop (mkF m 51 #[.val (.long u0), .second, .val (.int u2), .val (.int v3), .val (.int v4), .val (.long v5), .second, .val (.long v7), .second, .unset, .unset, .unset, .unset] [])) (own_QR s n0 0 0 (own_RV (f0_51 v3 v4 v5 v7))) := by
  unfold f0_51
  refine own_lload C A at_51 rfl rfl ?_
  refine own_iload C A at_53 rfl rfl ?_
  refine own_iloadN C A at_55 rfl rfl ?_
  refine own_iconst C A at_56 (v := 3) rfl rfl ?_
  refine own_callSJ C A 0 [(.long v7), (.int v4), (.int v3), (.int (3 : Int32))] [] (own_w C 5 rfl) (own_w C 6 rfl) (own_w C 7 rfl) (own_w C 8 rfl) (by decide) (rm2 l Z a0 C.2.2.2.2.2.2.2.2 [] v7 v4 v3 (3 : Int32) _ _ (own_size A)) rfl rfl (by decide) (by decide) (by decide) (by decide) own_pd1 rfl rfl rfl (Nat.le_of_eq rfl) rfl at_57 rfl (fun T A => ?_)
  refine own_lstore C A at_60 (l' := #[.val (.long u0), .second, .val (.int u2), .val (.int v3), .val (.int v4), .val (.long v5), .second, .val (.long (f2_0 v7 v4 v3 (3 : Int32))), .second, .unset, .unset, .unset, .unset]) rfl rfl ?_
  exact w0_62 C A v3 v4 v5 (f2_0 v7 v4 v3 (3 : Int32))
def f0_40 (v3 : Int32) (v4 : Int32) (v5 : Int64) (v7 : Int64) : Int32 := (f0_51 v3 v4 v5 (f2_0 v7 v4 v3 (2 : Int32)))
set_option maxRecDepth 65536 in
set_option maxHeartbeats 4000000 in
theorem w0_40 {Z : State} {a0 : Array Value} {p : Program} {l : Launch} {e : Env} {s : State} {m : MethodId} {args : Array Value} {below : List Frame} {meth : Method} {c : Code} {T : State} {h : Heap} {n0 : Nat} {u0 : Int64} {u2 : Int32} (C : own_Cx Z a0 p l e room_1 s m args below meth c "com/example/prim_json/primjson/ByteWordsExactlyEqualBytesPinLaw" "law" code maxLocals ret) (A : own_At p l e room_1 s m args below meth c T h n0 0 0) (v3 : Int32) (v4 : Int32) (v5 : Int64) (v7 : Int64) :
    own_Go p.tables e below (T.setTop (mkF m 40 #[.val (.long u0), .second, .val (.int u2), .val (.int v3), .val (.int v4), .val (.long v5), .second, .val (.long v7), .second, .unset, .unset, .unset, .unset] [])) (own_QR s n0 0 0 (own_RV (f0_40 v3 v4 v5 v7))) := by
  unfold f0_40
  refine own_lload C A at_40 rfl rfl ?_
  refine own_iload C A at_42 rfl rfl ?_
  refine own_iloadN C A at_44 rfl rfl ?_
  refine own_iconst C A at_45 (v := 2) rfl rfl ?_
  refine own_callSJ C A 0 [(.long v7), (.int v4), (.int v3), (.int (2 : Int32))] [] (own_w C 5 rfl) (own_w C 6 rfl) (own_w C 7 rfl) (own_w C 8 rfl) (by decide) (rm2 l Z a0 C.2.2.2.2.2.2.2.2 [] v7 v4 v3 (2 : Int32) _ _ (own_size A)) rfl rfl (by decide) (by decide) (by decide) (by decide) own_pd1 rfl rfl rfl (Nat.le_of_eq rfl) rfl at_46 rfl (fun T A => ?_)
  refine own_lstore C A at_49 (l' := #[.val (.long u0), .second, .val (.int u2), .val (.int v3), .val (.int v4), .val (.long v5), .second, .val (.long (f2_0 v7 v4 v3 (2 : Int32))), .second, .unset, .unset, .unset, .unset]) rfl rfl ?_
  exact w0_51 C A v3 v4 v5 (f2_0 v7 v4 v3 (2 : Int32))
def f0_29 (v3 : Int32) (v4 : Int32) (v5 : Int64) (v7 : Int64) : Int32 := (f0_40 v3 v4 v5 (f2_0 v7 v4 v3 (1 : Int32)))
set_option maxRecDepth 65536 in
set_option maxHeartbeats 4000000 in
theorem w0_29 {Z : State} {a0 : Array Value} {p : Program} {l : Launch} {e : Env} {s : State} {m : MethodId} {args : Array Value} {below : List Frame} {meth : Method} {c : Code} {T : State} {h : Heap} {n0 : Nat} {u0 : Int64} {u2 : Int32} (C : own_Cx Z a0 p l e room_1 s m args below meth c "com/example/prim_json/primjson/ByteWordsExactlyEqualBytesPinLaw" "law" code maxLocals ret) (A : own_At p l e room_1 s m args below meth c T h n0 0 0) (v3 : Int32) (v4 : Int32) (v5 : Int64) (v7 : Int64) :
    own_Go p.tables e below (T.setTop (mkF m 29 #[.val (.long u0), .second, .val (.int u2), .val (.int v3), .val (.int v4), .val (.long v5), .second, .val (.long v7), .second, .unset, .unset, .unset, .unset] [])) (own_QR s n0 0 0 (own_RV (f0_29 v3 v4 v5 v7))) := by
  unfold f0_29
  refine own_lload C A at_29 rfl rfl ?_
  refine own_iload C A at_31 rfl rfl ?_
  refine own_iloadN C A at_33 rfl rfl ?_
  refine own_iconst C A at_34 (v := 1) rfl rfl ?_
  refine own_callSJ C A 0 [(.long v7), (.int v4), (.int v3), (.int (1 : Int32))] [] (own_w C 5 rfl) (own_w C 6 rfl) (own_w C 7 rfl) (own_w C 8 rfl) (by decide) (rm2 l Z a0 C.2.2.2.2.2.2.2.2 [] v7 v4 v3 (1 : Int32) _ _ (own_size A)) rfl rfl (by decide) (by decide) (by decide) (by decide) own_pd1 rfl rfl rfl (Nat.le_of_eq rfl) rfl at_35 rfl (fun T A => ?_)
  refine own_lstore C A at_38 (l' := #[.val (.long u0), .second, .val (.int u2), .val (.int v3), .val (.int v4), .val (.long v5), .second, .val (.long (f2_0 v7 v4 v3 (1 : Int32))), .second, .unset, .unset, .unset, .unset]) rfl rfl ?_
  exact w0_40 C A v3 v4 v5 (f2_0 v7 v4 v3 (1 : Int32))
def f0_15 (v0 : Int64) (v3 : Int32) (v4 : Int32) (v5 : Int64) : Int32 := (f0_29 v3 v4 v5 (f2_0 v0 v4 v3 (0 : Int32)))
set_option maxRecDepth 65536 in
set_option maxHeartbeats 4000000 in
theorem w0_15 {Z : State} {a0 : Array Value} {p : Program} {l : Launch} {e : Env} {s : State} {m : MethodId} {args : Array Value} {below : List Frame} {meth : Method} {c : Code} {T : State} {h : Heap} {n0 : Nat} {u2 : Int32} (C : own_Cx Z a0 p l e room_1 s m args below meth c "com/example/prim_json/primjson/ByteWordsExactlyEqualBytesPinLaw" "law" code maxLocals ret) (A : own_At p l e room_1 s m args below meth c T h n0 0 0) (v0 : Int64) (v3 : Int32) (v4 : Int32) (v5 : Int64) :
    own_Go p.tables e below (T.setTop (mkF m 15 #[.val (.long v0), .second, .val (.int u2), .val (.int v3), .val (.int v4), .val (.long v5), .second, .unset, .unset, .unset, .unset, .unset, .unset] [])) (own_QR s n0 0 0 (own_RV (f0_15 v0 v3 v4 v5))) := by
  unfold f0_15
  refine own_lloadN C A at_15 rfl rfl ?_
  refine own_lstore C A at_16 (l' := #[.val (.long v0), .second, .val (.int u2), .val (.int v3), .val (.int v4), .val (.long v5), .second, .val (.long v0), .second, .unset, .unset, .unset, .unset]) rfl rfl ?_
  refine own_lload C A at_18 rfl rfl ?_
  refine own_iload C A at_20 rfl rfl ?_
  refine own_iloadN C A at_22 rfl rfl ?_
  refine own_iconst C A at_23 (v := 0) rfl rfl ?_
  refine own_callSJ C A 0 [(.long v0), (.int v4), (.int v3), (.int (0 : Int32))] [] (own_w C 5 rfl) (own_w C 6 rfl) (own_w C 7 rfl) (own_w C 8 rfl) (by decide) (rm2 l Z a0 C.2.2.2.2.2.2.2.2 [] v0 v4 v3 (0 : Int32) _ _ (own_size A)) rfl rfl (by decide) (by decide) (by decide) (by decide) own_pd1 rfl rfl rfl (Nat.le_of_eq rfl) rfl at_24 rfl (fun T A => ?_)
  refine own_lstore C A at_27 (l' := #[.val (.long v0), .second, .val (.int u2), .val (.int v3), .val (.int v4), .val (.long v5), .second, .val (.long (f2_0 v0 v4 v3 (0 : Int32))), .second, .unset, .unset, .unset, .unset]) rfl rfl ?_
  exact w0_29 C A v3 v4 v5 (f2_0 v0 v4 v3 (0 : Int32))
def f0_0 (v0 : Int64) (v2 : Int32) (v3 : Int32) : Int32 := (f0_15 v0 v3 (v2 &&& (255 : Int32)) (f1_0 ((v2 &&& (255 : Int32)).toUInt32.toUInt16.toUInt32.toInt32)))
set_option maxRecDepth 65536 in
set_option maxHeartbeats 4000000 in
theorem w0_0 {Z : State} {a0 : Array Value} {p : Program} {l : Launch} {e : Env} {s : State} {m : MethodId} {args : Array Value} {below : List Frame} {meth : Method} {c : Code} {T : State} {h : Heap} {n0 : Nat}  (C : own_Cx Z a0 p l e room_1 s m args below meth c "com/example/prim_json/primjson/ByteWordsExactlyEqualBytesPinLaw" "law" code maxLocals ret) (A : own_At p l e room_1 s m args below meth c T h n0 0 0) (v0 : Int64) (v2 : Int32) (v3 : Int32) :
    own_Go p.tables e below (T.setTop (mkF m 0 #[.val (.long v0), .second, .val (.int v2), .val (.int v3), .unset, .unset, .unset, .unset, .unset, .unset, .unset, .unset, .unset] [])) (own_QR s n0 0 0 (own_RV (f0_0 v0 v2 v3))) := by
  unfold f0_0
  refine own_iloadN C A at_0 rfl rfl ?_
  refine own_sipush C A at_1 (v := 255) rfl rfl ?_
  refine own_iand C A at_4 rfl ?_
  refine own_istore C A at_5 (l' := #[.val (.long v0), .second, .val (.int v2), .val (.int v3), .val (.int (v2 &&& (255 : Int32))), .unset, .unset, .unset, .unset, .unset, .unset, .unset, .unset]) rfl rfl ?_
  refine own_iload C A at_7 rfl rfl ?_
  refine own_i2c C A at_9 rfl ?_
  refine own_callSJ C A 0 [(.int ((v2 &&& (255 : Int32)).toUInt32.toUInt16.toUInt32.toInt32))] [] (own_w C 0 rfl) (own_w C 1 rfl) (own_w C 2 rfl) (own_w C 3 rfl) (by decide) (rm1 l Z a0 C.2.2.2.2.2.2.2.2 [] ((v2 &&& (255 : Int32)).toUInt32.toUInt16.toUInt32.toInt32) _ _ (own_size A)) rfl rfl (by decide) (by decide) (by decide) (by decide) own_pd0 rfl rfl rfl (Nat.le_of_eq rfl) rfl at_10 rfl (fun T A => ?_)
  refine own_lstore C A at_13 (l' := #[.val (.long v0), .second, .val (.int v2), .val (.int v3), .val (.int (v2 &&& (255 : Int32))), .val (.long (f1_0 ((v2 &&& (255 : Int32)).toUInt32.toUInt16.toUInt32.toInt32))), .second, .unset, .unset, .unset, .unset, .unset, .unset]) rfl rfl ?_
  exact w0_15 C A v0 v3 (v2 &&& (255 : Int32)) (f1_0 ((v2 &&& (255 : Int32)).toUInt32.toUInt16.toUInt32.toInt32))
theorem own_ef0 (m : MethodId) (v0 : Int64) (v2 : Int32) (v3 : Int32) : entryFrame m #[(.long v0), (.int v2), (.int v3)] maxLocals = mkF m 0 #[.val (.long v0), .second, .val (.int v2), .val (.int v3), .unset, .unset, .unset, .unset, .unset, .unset, .unset, .unset, .unset] [] := by first | (simp [entryFrame, mkF, argsToLocals, Value.category, maxLocals]; done) | rfl
theorem rm0 (l : Launch) (Z : State) (a0 : Array Value) (hw : ∀ d ∈ tables_1, d.before a0 Z = true) (ws : List Jvm.Cond) (v0 : Int64) (v2 : Int32) (v3 : Int32) (h : Heap) (n0 : Nat) (hn : n0 ≤ h.size) :
    MetFree l x (head1 (Jvm.Cond.code x code maxLocals ret :: ws) room_1) (fun a U => a = #[(.long v0), (.int v2), (.int v3)] ∧ Z.Warmed39 U.vm ∧ U.heap = h) (fun _ _ _ _ _ => True) (fun _ U o U' => own_QR U n0 0 0 (own_RV (f0_0 v0 v2 v3)) o U') :=
  own_met (plainFor_of_name (by first | (simp [plainName, overriddenIn, x]; done) | decide +kernel)) hw hn (fun m => own_ef0 m v0 v2 v3) (fun p e s m below meth c T C A => w0_0 C A v0 v2 v3)
def own_cat (b7 b6 b5 b4 b3 b2 b1 b0 : BitVec 8) : BitVec 64 := b7 ++ (b6 ++ (b5 ++ (b4 ++ (b3 ++ (b2 ++ (b1 ++ b0))))))
theorem own_sp1 (n : Nat) (w : BitVec (8 + n)) : w = (w.extractLsb' n 8) ++ (w.setWidth n) := by
  apply BitVec.eq_of_getLsbD_eq
  intro i hi
  rw [BitVec.getLsbD_append]
  by_cases h : i < n
  · simp [h, BitVec.getLsbD_setWidth]
  · have h8 : i - n < 8 := by omega
    have e : n + (i - n) = i := by omega
    simp [h, BitVec.getLsbD_extractLsb', h8, e]
theorem own_sp2 (n m s : Nat) (w : BitVec m) (h : s + 8 ≤ n) : (w.setWidth n).extractLsb' s 8 = w.extractLsb' s 8 := by
  apply BitVec.eq_of_getLsbD_eq
  intro i hi
  have : s + i < n := by omega
  simp [BitVec.getLsbD_extractLsb', BitVec.getLsbD_setWidth, this]
theorem own_sp3 (n m k : Nat) (w : BitVec m) (h : k ≤ n) : (w.setWidth n).setWidth k = w.setWidth k := by
  apply BitVec.eq_of_getLsbD_eq
  intro i hi
  have : i < n := by omega
  simp [BitVec.getLsbD_setWidth, this]
theorem own_split (w : BitVec 64) : w = own_cat (w.extractLsb' 56 8) (w.extractLsb' 48 8) (w.extractLsb' 40 8) (w.extractLsb' 32 8) (w.extractLsb' 24 8) (w.extractLsb' 16 8) (w.extractLsb' 8 8) (w.extractLsb' 0 8) := by
  have e1 := own_sp1 56 w
  have e2 := own_sp1 48 (w.setWidth 56)
  have e3 := own_sp1 40 (w.setWidth 48)
  have e4 := own_sp1 32 (w.setWidth 40)
  have e5 := own_sp1 24 (w.setWidth 32)
  have e6 := own_sp1 16 (w.setWidth 24)
  have e7 := own_sp1 8 (w.setWidth 16)
  have e8 : (w.setWidth 8) = w.extractLsb' 0 8 := by
    apply BitVec.eq_of_getLsbD_eq
    intro i hi
    simp [BitVec.getLsbD_extractLsb', BitVec.getLsbD_setWidth, hi]
  rw [own_sp2 56 64 48 w (by omega), own_sp3 56 64 48 w (by omega)] at e2
  rw [own_sp2 48 64 40 w (by omega), own_sp3 48 64 40 w (by omega)] at e3
  rw [own_sp2 40 64 32 w (by omega), own_sp3 40 64 32 w (by omega)] at e4
  rw [own_sp2 32 64 24 w (by omega), own_sp3 32 64 24 w (by omega)] at e5
  rw [own_sp2 24 64 16 w (by omega), own_sp3 24 64 16 w (by omega)] at e6
  rw [own_sp2 16 64 8 w (by omega), own_sp3 16 64 8 w (by omega), e8] at e7
  unfold own_cat
  rw [← e7, ← e6, ← e5, ← e4, ← e3, ← e2]
  exact e1
theorem own_apNat {w v : Nat} (x : BitVec w) (y : BitVec v) : (x ++ y).toNat = x.toNat * 2 ^ v + y.toNat := by
  rw [BitVec.toNat_append, ← Nat.shiftLeft_add_eq_or_of_lt y.isLt, Nat.shiftLeft_eq]
theorem own_addA {w v : Nat} (x1 x2 : BitVec w) (y1 y2 : BitVec v) (h : y1.toNat + y2.toNat < 2 ^ v) : (x1 ++ y1) + (x2 ++ y2) = (x1 + x2) ++ (y1 + y2) := by
  apply BitVec.eq_of_toNat_eq
  rw [BitVec.toNat_add, own_apNat, own_apNat, own_apNat, BitVec.toNat_add, BitVec.toNat_add, Nat.mod_eq_of_lt h]
  have e : x1.toNat * 2 ^ v + y1.toNat + (x2.toNat * 2 ^ v + y2.toNat) = (y1.toNat + y2.toNat) + 2 ^ v * (x1.toNat + x2.toNat) := by
    rw [Nat.mul_comm (2 ^ v), Nat.add_mul]; omega
  rw [e, Nat.pow_add, Nat.mul_comm (2 ^ w), Nat.mod_mul, Nat.add_mul_mod_self_left, Nat.mod_eq_of_lt h, Nat.add_mul_div_left _ _ (Nat.two_pow_pos v), Nat.div_eq_of_lt h, Nat.zero_add]
  rw [Nat.mul_comm (2 ^ v)]
  omega
theorem own_bnd {w v : Nat} (x1 x2 : BitVec w) (y1 y2 : BitVec v) (hx : x1.toNat + x2.toNat < 2 ^ w) (hy : y1.toNat + y2.toNat < 2 ^ v) : (x1 ++ y1).toNat + (x2 ++ y2).toNat < 2 ^ (w + v) := by
  rw [own_apNat, own_apNat, Nat.pow_add]
  have e : x1.toNat * 2 ^ v + y1.toNat + (x2.toNat * 2 ^ v + y2.toNat) = (x1.toNat + x2.toNat) * 2 ^ v + (y1.toNat + y2.toNat) := by
    rw [Nat.add_mul]; omega
  rw [e]
  have h1 : (x1.toNat + x2.toNat + 1) * 2 ^ v ≤ 2 ^ w * 2 ^ v := Nat.mul_le_mul_right _ hx
  rw [Nat.add_mul, Nat.one_mul] at h1
  omega
theorem own_b8 (d : BitVec 8) : (d &&& 127#8).toNat + (127#8).toNat < 2 ^ 8 := by
  have h : (d &&& 127#8).toNat ≤ 127 := by rw [BitVec.toNat_and]; exact Nat.and_le_right
  have e : (127#8).toNat = 127 := rfl
  omega
theorem own_sum (d7 d6 d5 d4 d3 d2 d1 d0 : BitVec 8) : own_cat (d7 &&& 127#8) (d6 &&& 127#8) (d5 &&& 127#8) (d4 &&& 127#8) (d3 &&& 127#8) (d2 &&& 127#8) (d1 &&& 127#8) (d0 &&& 127#8) + own_cat 127#8 127#8 127#8 127#8 127#8 127#8 127#8 127#8 = own_cat ((d7 &&& 127#8) + 127#8) ((d6 &&& 127#8) + 127#8) ((d5 &&& 127#8) + 127#8) ((d4 &&& 127#8) + 127#8) ((d3 &&& 127#8) + 127#8) ((d2 &&& 127#8) + 127#8) ((d1 &&& 127#8) + 127#8) ((d0 &&& 127#8) + 127#8) := by
  unfold own_cat
  have h0 := own_b8 d0
  have h1 := own_bnd _ _ _ _ (own_b8 d1) h0
  have h2 := own_bnd _ _ _ _ (own_b8 d2) h1
  have h3 := own_bnd _ _ _ _ (own_b8 d3) h2
  have h4 := own_bnd _ _ _ _ (own_b8 d4) h3
  have h5 := own_bnd _ _ _ _ (own_b8 d5) h4
  have h6 := own_bnd _ _ _ _ (own_b8 d6) h5
  rw [own_addA _ _ _ _ h6, own_addA _ _ _ _ h5, own_addA _ _ _ _ h4, own_addA _ _ _ _ h3, own_addA _ _ _ _ h2, own_addA _ _ _ _ h1, own_addA _ _ _ _ h0]
theorem own_xorC (a7 a6 a5 a4 a3 a2 a1 a0 b7 b6 b5 b4 b3 b2 b1 b0 : BitVec 8) : own_cat a7 a6 a5 a4 a3 a2 a1 a0 ^^^ own_cat b7 b6 b5 b4 b3 b2 b1 b0 = own_cat (a7 ^^^ b7) (a6 ^^^ b6) (a5 ^^^ b5) (a4 ^^^ b4) (a3 ^^^ b3) (a2 ^^^ b2) (a1 ^^^ b1) (a0 ^^^ b0) := by
  unfold own_cat
  rw [BitVec.xor_append, BitVec.xor_append, BitVec.xor_append, BitVec.xor_append, BitVec.xor_append, BitVec.xor_append, BitVec.xor_append]
theorem own_andC (a7 a6 a5 a4 a3 a2 a1 a0 b7 b6 b5 b4 b3 b2 b1 b0 : BitVec 8) : own_cat a7 a6 a5 a4 a3 a2 a1 a0 &&& own_cat b7 b6 b5 b4 b3 b2 b1 b0 = own_cat (a7 &&& b7) (a6 &&& b6) (a5 &&& b5) (a4 &&& b4) (a3 &&& b3) (a2 &&& b2) (a1 &&& b1) (a0 &&& b0) := by
  unfold own_cat
  rw [BitVec.and_append, BitVec.and_append, BitVec.and_append, BitVec.and_append, BitVec.and_append, BitVec.and_append, BitVec.and_append]
theorem own_orC (a7 a6 a5 a4 a3 a2 a1 a0 b7 b6 b5 b4 b3 b2 b1 b0 : BitVec 8) : own_cat a7 a6 a5 a4 a3 a2 a1 a0 ||| own_cat b7 b6 b5 b4 b3 b2 b1 b0 = own_cat (a7 ||| b7) (a6 ||| b6) (a5 ||| b5) (a4 ||| b4) (a3 ||| b3) (a2 ||| b2) (a1 ||| b1) (a0 ||| b0) := by
  unfold own_cat
  rw [BitVec.or_append, BitVec.or_append, BitVec.or_append, BitVec.or_append, BitVec.or_append, BitVec.or_append, BitVec.or_append]
def own_g (d : BitVec 8) : BitVec 8 := ((((d &&& 127#8) + 127#8) ||| d) ^^^ 255#8) &&& 128#8
theorem own_g1 : ∀ d c : BitVec 8, own_g (d ^^^ c) = if d = c then 128#8 else 0#8 := by
  have h : ∀ e : BitVec 8, own_g e = if e = 0#8 then 128#8 else 0#8 := by decide
  intro d c
  rw [h]
  by_cases q : d = c
  · subst q; simp
  · have : ¬ d ^^^ c = 0#8 := fun e => q (BitVec.xor_eq_zero_iff.mp e)
    rw [if_neg this, if_neg q]
/-- the method on bytes -/
theorem own_eq (w : BitVec 64) (c : BitVec 8) : ((((((w ^^^ own_cat c c c c c c c c) &&& 9187201950435737471#64) + 9187201950435737471#64) ||| (w ^^^ own_cat c c c c c c c c)) ^^^ 18446744073709551615#64) &&& 9259542123273814144#64) =
    own_cat (if w.extractLsb' 56 8 = c then 128#8 else 0#8) (if w.extractLsb' 48 8 = c then 128#8 else 0#8) (if w.extractLsb' 40 8 = c then 128#8 else 0#8) (if w.extractLsb' 32 8 = c then 128#8 else 0#8) (if w.extractLsb' 24 8 = c then 128#8 else 0#8) (if w.extractLsb' 16 8 = c then 128#8 else 0#8) (if w.extractLsb' 8 8 = c then 128#8 else 0#8) (if w.extractLsb' 0 8 = c then 128#8 else 0#8) := by
  have k1 : 9187201950435737471#64 = own_cat 127#8 127#8 127#8 127#8 127#8 127#8 127#8 127#8 := by decide
  have k2 : 18446744073709551615#64 = own_cat 255#8 255#8 255#8 255#8 255#8 255#8 255#8 255#8 := by decide
  have k3 : 9259542123273814144#64 = own_cat 128#8 128#8 128#8 128#8 128#8 128#8 128#8 128#8 := by decide
  have hw := own_split w
  simp only [← own_g1]
  generalize w.extractLsb' 56 8 = b7 at *
  generalize w.extractLsb' 48 8 = b6 at *
  generalize w.extractLsb' 40 8 = b5 at *
  generalize w.extractLsb' 32 8 = b4 at *
  generalize w.extractLsb' 24 8 = b3 at *
  generalize w.extractLsb' 16 8 = b2 at *
  generalize w.extractLsb' 8 8 = b1 at *
  generalize w.extractLsb' 0 8 = b0 at *
  subst hw
  rw [k1, k2, k3, own_xorC, own_andC, own_sum, own_orC, own_xorC, own_andC]
  rfl
theorem own_and255 (x : BitVec 64) : x &&& 255#64 = (x.setWidth 8).setWidth 64 := by
  apply BitVec.eq_of_getLsbD_eq
  intro i hi
  have e : (255#64).getLsbD i = decide (i < 8) := by
    rw [BitVec.getLsbD_ofNat, show (255 : Nat) = 2 ^ 8 - 1 from rfl, Nat.testBit_two_pow_sub_one]
    simp [hi]
  rw [BitVec.getLsbD_and, e, BitVec.getLsbD_setWidth, BitVec.getLsbD_setWidth]
  by_cases h : i < 8 <;> simp [h, hi]
theorem own_ext (w : BitVec 64) (s : Nat) : (w >>> s) &&& 255#64 = (w.extractLsb' s 8).setWidth 64 := by
  rw [own_and255]
  apply congrArg
  apply BitVec.eq_of_getLsbD_eq
  intro i hi
  rw [BitVec.getLsbD_setWidth, BitVec.getLsbD_ushiftRight, BitVec.getLsbD_extractLsb']
theorem own_inj (a b : BitVec 8) : a.setWidth 64 = b.setWidth 64 ↔ a = b := by
  constructor
  · intro h
    apply BitVec.eq_of_toNat_eq
    have h2 := congrArg BitVec.toNat h
    rw [BitVec.toNat_setWidth, BitVec.toNat_setWidth] at h2
    have := a.isLt
    have := b.isLt
    omega
  · intro h; rw [h]
theorem own_c32 (b : Int32) : (b &&& 255).toBitVec = (b.toBitVec.setWidth 8).setWidth 32 := by
  rw [Int32.toBitVec_and]
  apply BitVec.eq_of_getLsbD_eq
  intro i hi
  have e : (255 : Int32).toBitVec.getLsbD i = decide (i < 8) := by
    show (255#32).getLsbD i = decide (i < 8)
    rw [BitVec.getLsbD_ofNat, show (255 : Nat) = 2 ^ 8 - 1 from rfl, Nat.testBit_two_pow_sub_one]
    simp [hi]
  rw [BitVec.getLsbD_and, e, BitVec.getLsbD_setWidth, BitVec.getLsbD_setWidth]
  by_cases h : i < 8 <;> simp [h, hi]
theorem own_c64 (b : Int32) : (b &&& 255).toInt64.toBitVec = (b.toBitVec.setWidth 8).setWidth 64 := by
  have h : ∀ q : BitVec 8, (q.setWidth 32).signExtend 64 = q.setWidth 64 := by decide
  rw [Int32.toBitVec_toInt64, own_c32, h]
theorem own_bit (w : Int64) (b k : Int32) (s : Nat) (hs : ((w.toUInt64 >>> (((8 : Int32) * k) &&& 0x3f).toInt64.toUInt64).toInt64).toBitVec = w.toBitVec >>> s) : (f4_0 w (b &&& 255) k).toBitVec = if w.toBitVec.extractLsb' s 8 = b.toBitVec.setWidth 8 then ((128 : Int64) <<< (((8 : Int32) * k) &&& 0x3f).toInt64).toBitVec else 0#64 := by
  unfold f4_0
  have hc : ((((w.toUInt64 >>> (((8 : Int32) * k) &&& 0x3f).toInt64.toUInt64).toInt64) &&& (255 : Int64)) = (b &&& 255).toInt64) ↔ w.toBitVec.extractLsb' s 8 = b.toBitVec.setWidth 8 := by
    rw [← Int64.toBitVec_inj, Int64.toBitVec_and, hs, own_c64]
    show (w.toBitVec >>> s) &&& 255#64 = _ ↔ _
    rw [own_ext, own_inj]
  by_cases h : w.toBitVec.extractLsb' s 8 = b.toBitVec.setWidth 8
  · rw [if_pos (hc.mpr h), if_pos h]
  · rw [if_neg (fun e => h (hc.mp e)), if_neg h]; rfl
theorem own_rep (b : Int32) : (f1_0 ((b &&& 255).toUInt32.toUInt16.toUInt32.toInt32)).toBitVec = own_cat (b.toBitVec.setWidth 8) (b.toBitVec.setWidth 8) (b.toBitVec.setWidth 8) (b.toBitVec.setWidth 8) (b.toBitVec.setWidth 8) (b.toBitVec.setWidth 8) (b.toBitVec.setWidth 8) (b.toBitVec.setWidth 8) := by
  have h : ∀ c : BitVec 8, 72340172838076673#64 * c.setWidth 64 = own_cat c c c c c c c c := by decide
  unfold f1_0
  rw [i2c_mask, Int64.toBitVec_mul, own_c64]
  exact h _
theorem own_one (p : Prop) [Decidable p] (x : BitVec 64) (f : BitVec 8 → BitVec 64) (h1 : x = f 128#8) (h0 : f 0#8 = 0#64) : (if p then x else 0#64) = f (if p then 128#8 else 0#8) := by
  by_cases h : p
  · rw [if_pos h, if_pos h, h1]
  · rw [if_neg h, if_neg h, h0]
theorem own_key (w : Int64) (b : Int32) : f0_108 (b &&& 255) (f1_0 ((b &&& 255).toUInt32.toUInt16.toUInt32.toInt32)) w = 1 := by
  unfold f0_108 f0_117
  rw [if_pos]
  apply Int64.toBitVec_inj.mp
  have e := own_eq w.toBitVec (b.toBitVec.setWidth 8)
  have b0 := own_bit w b 0 0 rfl
  have b1 := own_bit w b 1 8 rfl
  have b2 := own_bit w b 2 16 rfl
  have b3 := own_bit w b 3 24 rfl
  have b4 := own_bit w b 4 32 rfl
  have b5 := own_bit w b 5 40 rfl
  have b6 := own_bit w b 6 48 rfl
  have b7 := own_bit w b 7 56 rfl
  rw [own_one _ _ (fun z => own_cat 0#8 0#8 0#8 0#8 0#8 0#8 0#8 z) (by decide) (by decide)] at b0
  rw [own_one _ _ (fun z => own_cat 0#8 0#8 0#8 0#8 0#8 0#8 z 0#8) (by decide) (by decide)] at b1
  rw [own_one _ _ (fun z => own_cat 0#8 0#8 0#8 0#8 0#8 z 0#8 0#8) (by decide) (by decide)] at b2
  rw [own_one _ _ (fun z => own_cat 0#8 0#8 0#8 0#8 z 0#8 0#8 0#8) (by decide) (by decide)] at b3
  rw [own_one _ _ (fun z => own_cat 0#8 0#8 0#8 z 0#8 0#8 0#8 0#8) (by decide) (by decide)] at b4
  rw [own_one _ _ (fun z => own_cat 0#8 0#8 z 0#8 0#8 0#8 0#8 0#8) (by decide) (by decide)] at b5
  rw [own_one _ _ (fun z => own_cat 0#8 z 0#8 0#8 0#8 0#8 0#8 0#8) (by decide) (by decide)] at b6
  rw [own_one _ _ (fun z => own_cat z 0#8 0#8 0#8 0#8 0#8 0#8 0#8) (by decide) (by decide)] at b7
  simp only [Int64.toBitVec_or, b0, b1, b2, b3, b4, b5, b6, b7, own_orC, BitVec.or_zero, BitVec.zero_or]
  rw [← e]
  unfold f3_0
  simp only [Int64.toBitVec_and, Int64.toBitVec_xor, Int64.toBitVec_or, Int64.toBitVec_add, own_rep]
  rfl
theorem own_plain (w : Int64) (b m : Int32) : f0_0 w b m = 1 := own_key _ _

set_option maxRecDepth 65536 in
set_option maxHeartbeats 40000000 in
theorem own_comes {Post : Tables → Env → Array Value → State → Outcome → State → Prop} (hpost : ∀ tb e args s v u, (limb_1_1.after args s (.returned v) u = true ∧ limb_1_2.after args s (.returned v) u = true ∧ True) → FrameEnd s (.returned v) u (Jvm.fieldLocs frame_1_writes args s ++ Jvm.arrayLocs frame_1_arrays args s ++ Jvm.staticLocs frame_1_statics s) 0 0 → Post tb e args s (.returned v) u) :
    ArmFor flags0 classFile x code maxLocals ret World_1 tables_1 room_1 Calls_1 rest_1 Pre_1 Post := by
  intro l hfl _ _ p e ha hc hk s m args below hf hA hF happ hP
  obtain ⟨hcalls, hrest, hpre⟩ := hP
  obtain ⟨-, -, -, hnamed, -, -, -, hat⟩ := (Spec.applies_iff hf).mp happ
  obtain ⟨hg, hn⟩ := and_e (Cond.before_iff.mp (show (Jvm.Cond.and given_1 narrow_1).before args s = true from hpre))
  obtain ⟨h1, g0⟩ := and_e hg
  obtain ⟨k0, g1⟩ := and_e g0
  obtain ⟨k1, g2⟩ := and_e g1
  obtain ⟨w0, w1, w2, rfl⟩ : ∃ w0 w1 w2 : Value, args = #[w0, w1, w2] := by
    have hs : args.size = 3 := by simpa [Cond.value, given_1] using h1
    obtain ⟨L⟩ := args
    match L, hs with
    | [w0, w1, w2], _ => exact ⟨w0, w1, w2, rfl⟩
  have hw := fun d (hd : d ∈ tables_1) => atoms_spec (ws := Jvm.Cond.code x code maxLocals ret :: tables_1) hat d (List.mem_cons_of_mem _ hd)
  obtain ⟨i0, e0⟩ := isL_v k0
  obtain rfl : w0 = (.long i0) := Option.some.inj e0
  obtain ⟨i1, e1⟩ := is_v k1
  obtain rfl : w1 = (.int i1) := Option.some.inj e1
  obtain ⟨i2, e2⟩ := is_v g2
  obtain rfl : w2 = (.int i2) := Option.some.inj e2
  obtain ⟨n, o, h1, h2, h3, _, L, rfl, ⟨hv, N⟩, hq⟩ := rm0 l s _ hw tables_1 i0 i1 i2 s.heap s.heap.size (Nat.le_refl _) p e ha hc hk s m _ below hf ((Spec.applies_iff_loose hf).mp happ).1 ⟨rfl, State.Warmed39.refl s, rfl⟩ trivial
  have hv' := Eq.trans hv (congrArg (fun z => some (Value.int z)) (own_plain i0 i1 i2))
  subst hv'
  refine ⟨n, _, h1, h2, h3, hpost _ _ _ _ _ _ ⟨Cond.after_iff.mpr rfl, Cond.after_iff.mpr (eq_i res_at (Term.int_eval (1)) rfl), trivial⟩ ⟨hq.1, hq.2.1, (hq.2.2.sift fun y hy => Or.inr (N y hy)).mono (by decide) (by decide)⟩⟩
theorem main_1_1 : Claimed_1_1 := own_comes fun _ _ _ _ _ _ h hF => ⟨h.1, hF⟩
theorem main_1_2 : Claimed_1_2 := own_comes fun _ _ _ _ _ _ h hF => ⟨h.2.1, hF⟩
end Jvm.Pilot.@@N@@
namespace Jvm.Pilot.@@N@@
open Jvm Jvm.ClassFile Sem Op Lib Jvm.Free Jvm.Stand Jvm.Pilot.@@N@@.Jvm.D
/-! MADE BY PROGRAM (witnessworld.py) out of the Statement's table words and the real class files: 9 classes; the members and pool entries that the words name. The judged class is class 1, her method 3. -/
namespace start1
open Jvm.ClassFile
def u (s : String) : CpInfo := .utf8 (stringToUtf16 s)
/-- a pool by its gaps: so many unusable entries, then the entry; so many at the end -/
def gap : Nat → List CpInfo → List CpInfo
  | 0, r => r
  | n + 1, r => .unusable :: gap n r
def poolList (es : List (Nat × CpInfo)) (last : Nat) : List CpInfo := es.foldr (fun e r => gap e.1 (e.2 :: r)) (gap last [])
def pool (es : List (Nat × CpInfo)) (last : Nat) : Array CpInfo := ⟨poolList es last⟩
def fileOf (pool : Array CpInfo) (this : Nat) (attrs : Array Attribute := #[]) (ms : Array MethodInfo := #[]) (fl : Nat := 33) (sup : Nat := 0) (ifs : Array Nat := #[]) (fds : Array FieldInfo := #[]) : ClassFile where
  minorVersion := 0
  majorVersion := 65
  constantPool := pool
  accessFlags := fl
  thisClass := this
  superClass := sup
  interfaces := ifs
  fields := fds
  methods := ms
  attributes := attrs
def plain (name : String) (sup : Option ClassId) : Class where
  name := name
  kind := .ordinary
  loader := none
  accessFlags := 33
  super := sup
  interfaces := #[]
  cf := none
  fields := #[]
  methods := #[]
  instanceTypes := #[]
  staticTypes := #[]
  resolved := #[]
  callSites := []
  init := .initialized
  statics := none
  mirror := none

def pool0 : Array CpInfo := pool [(5, u "<init>"), (0, u "()V"), (1, .class_ 10), (1, u "java/lang/Object")] 113

def k0m0 : Method := { name := "<init>", desc := "()V", sig := { parameters := [], returnType := none }, accessFlags := 1, code := none }
/-- java/lang/Object -/
def k0 : Class := { plain "java/lang/Object" none with
  accessFlags := 33
  interfaces := #[]
  cf := some (fileOf pool0 8 #[] #[{ accessFlags := 1, nameIndex := 5, descriptorIndex := 6, attributes := #[] }] 33 0 #[] #[])
  fields := #[]
  methods := #[k0m0]
  instanceTypes := #[]
  staticTypes := #[]
  resolved := Array.replicate 124 none
  statics := none }

def pool1 : Array CpInfo := pool [(2, .class_ 4), (1, u "java/lang/Object"), (0, u "<init>"), (0, u "()V"), (0, .long 255), (1, .long 18446744073709551615), (1, .long 128), (1, .methodref 14 15), (0, .class_ 16), (0, .nameAndType 17 18), (0, u "com/example/prim_json/primjson/ByteWords"), (0, u "repeated"), (0, u "(C)J"), (0, .methodref 20 21), (0, .class_ 22), (0, .nameAndType 23 24), (0, u "com/example/prim_json/primjson/ByteWordsExactlyEqualBytesPinLaw"), (0, u "place"), (0, u "(JIII)J"), (0, .methodref 14 26), (0, .nameAndType 27 28), (0, u "exactlyEqualBytes"), (0, u "(JJ)J"), (0, .methodref 20 30), (0, .nameAndType 31 32), (0, u "bit"), (0, u "(JII)J"), (3, u "law"), (0, u "(JII)Z")] 2

def k1m0 : Method := { name := "<init>", desc := "()V", sig := { parameters := [], returnType := none }, accessFlags := 2, code := none }
def k1c1 : Code := { maxStack := 6, maxLocals := 5, code := method_2_code, exceptionTable := #[], attributes := #[] }
def k1m1 : Method := { name := "place", desc := "(JIII)J", sig := { parameters := [.long, .int, .int, .int], returnType := some .long }, accessFlags := 10, code := some k1c1 }
def k1c2 : Code := { maxStack := 4, maxLocals := 4, code := method_3_code, exceptionTable := #[], attributes := #[] }
def k1m2 : Method := { name := "bit", desc := "(JII)J", sig := { parameters := [.long, .int, .int], returnType := some .long }, accessFlags := 10, code := some k1c2 }
def k1c3 : Code := { maxStack := 6, maxLocals := 13, code := code, exceptionTable := #[], attributes := #[] }
def k1m3 : Method := { name := "law", desc := "(JII)Z", sig := { parameters := [.long, .int, .int], returnType := some .boolean }, accessFlags := 9, code := some k1c3 }
/-- com/example/prim_json/primjson/ByteWordsExactlyEqualBytesPinLaw -/
def k1 : Class := { plain "com/example/prim_json/primjson/ByteWordsExactlyEqualBytesPinLaw" (some 0) with
  accessFlags := 49
  interfaces := #[]
  cf := some (fileOf pool1 20 #[] #[{ accessFlags := 2, nameIndex := 5, descriptorIndex := 6, attributes := #[] }, { accessFlags := 10, nameIndex := 23, descriptorIndex := 24, attributes := #[] }, { accessFlags := 10, nameIndex := 31, descriptorIndex := 32, attributes := #[] }, { accessFlags := 9, nameIndex := 36, descriptorIndex := 37, attributes := #[] }] 49 2 #[] #[])
  fields := #[]
  methods := #[k1m0, k1m1, k1m2, k1m3]
  instanceTypes := #[]
  staticTypes := #[]
  resolved := Array.replicate 40 none
  statics := none }

def pool2 : Array CpInfo := pool [(2, .class_ 4), (1, u "java/lang/Object"), (0, u "<init>"), (0, u "()V"), (0, .class_ 8), (0, u "com/example/prim_json/primjson/ByteWords"), (0, .long 72340172838076673), (1, .long 18446744073709551615), (5, u "QUOTES"), (0, u "J"), (3, u "(JJ)J"), (2, u "BACKSLASHES"), (4, .long 9187201950435737471), (1, .long 9259542123273814144), (3, u "LONGS"), (0, u "Ljava/lang/invoke/VarHandle;"), (35, u "repeated"), (0, u "(C)J"), (0, u "HIGH_BITS"), (1, u "ONES"), (0, u "LOW_BITS"), (3, u "exactlyEqualBytes")] 9

def k2m0 : Method := { name := "<init>", desc := "()V", sig := { parameters := [], returnType := none }, accessFlags := 2, code := none }
def k2c1 : Code := { maxStack := 4, maxLocals := 1, code := prog_1_method_2_code, exceptionTable := #[], attributes := #[] }
def k2m1 : Method := { name := "repeated", desc := "(C)J", sig := { parameters := [.char], returnType := some .long }, accessFlags := 8, code := some k2c1 }
def k2c2 : Code := { maxStack := 4, maxLocals := 6, code := prog_1_method_6_code, exceptionTable := #[], attributes := #[] }
def k2m2 : Method := { name := "exactlyEqualBytes", desc := "(JJ)J", sig := { parameters := [.long, .long], returnType := some .long }, accessFlags := 8, code := some k2c2 }
/-- com/example/prim_json/primjson/ByteWords -/
def k2 : Class := { plain "com/example/prim_json/primjson/ByteWords" (some 0) with
  accessFlags := 48
  interfaces := #[]
  cf := some (fileOf pool2 7 #[] #[{ accessFlags := 2, nameIndex := 5, descriptorIndex := 6, attributes := #[] }, { accessFlags := 8, nameIndex := 73, descriptorIndex := 74, attributes := #[] }, { accessFlags := 8, nameIndex := 82, descriptorIndex := 22, attributes := #[] }] 48 2 #[] #[{ accessFlags := 26, nameIndex := 36, descriptorIndex := 37, attributes := #[] }, { accessFlags := 26, nameIndex := 75, descriptorIndex := 18, attributes := #[] }, { accessFlags := 26, nameIndex := 77, descriptorIndex := 18, attributes := #[] }, { accessFlags := 26, nameIndex := 78, descriptorIndex := 18, attributes := #[] }, { accessFlags := 26, nameIndex := 17, descriptorIndex := 18, attributes := #[] }, { accessFlags := 26, nameIndex := 25, descriptorIndex := 18, attributes := #[] }])
  fields := #[{ name := "LONGS", type := (.object "java/lang/invoke/VarHandle"), accessFlags := 26, slot := 0, constantValue := 0 }, { name := "HIGH_BITS", type := .long, accessFlags := 26, slot := 1, constantValue := 0 }, { name := "ONES", type := .long, accessFlags := 26, slot := 2, constantValue := 0 }, { name := "LOW_BITS", type := .long, accessFlags := 26, slot := 3, constantValue := 0 }, { name := "QUOTES", type := .long, accessFlags := 26, slot := 4, constantValue := 0 }, { name := "BACKSLASHES", type := .long, accessFlags := 26, slot := 5, constantValue := 0 }]
  methods := #[k2m0, k2m1, k2m2]
  instanceTypes := #[]
  staticTypes := #[(.object "java/lang/invoke/VarHandle"), .long, .long, .long, .long, .long]
  resolved := Array.replicate 92 none
  statics := none }

def pool3 : Array CpInfo := pool [(1, u "java/lang/Cloneable"), (0, .class_ 1), (0, u "java/lang/Object"), (0, .class_ 3)] 3

/-- java/lang/Cloneable -/
def k3 : Class := { plain "java/lang/Cloneable" (some 0) with
  accessFlags := 1537
  interfaces := #[]
  cf := some (fileOf pool3 2 #[] #[] 1537 4 #[] #[])
  fields := #[]
  methods := #[]
  instanceTypes := #[]
  staticTypes := #[]
  resolved := Array.replicate 8 none
  statics := none }

def pool4 : Array CpInfo := pool [(1, u "java/io/Serializable"), (0, .class_ 1), (0, u "java/lang/Object"), (0, .class_ 3)] 3

/-- java/io/Serializable -/
def k4 : Class := { plain "java/io/Serializable" (some 0) with
  accessFlags := 1537
  interfaces := #[]
  cf := some (fileOf pool4 2 #[] #[] 1537 4 #[] #[])
  fields := #[]
  methods := #[]
  instanceTypes := #[]
  staticTypes := #[]
  resolved := Array.replicate 8 none
  statics := none }

/-- the primitive byte -/
def k5 : Class := { plain "byte" none with kind := .primitive 'B', accessFlags := 0x411 }
/-- [B -/
def k6 : Class := { plain "[B" (some 0) with kind := .array 5 .byte, interfaces := #[3, 4], accessFlags := 1041 }

/-- the primitive int -/
def k7 : Class := { plain "int" none with kind := .primitive 'I', accessFlags := 0x411 }
/-- [I -/
def k8 : Class := { plain "[I" (some 0) with kind := .array 7 .int, interfaces := #[3, 4], accessFlags := 1041 }

def heap : Heap := #[]
def classes : Array Class := #[k0, k1, k2, k3, k4, k5, k6, k7, k8]
def interned : List (Array UInt16 × Addr) := []
def slotsUsed : Nat := 0
def theMethod : MethodId := ⟨1, 3⟩
def args0 : Array Value := #[.long 5, .int 7, .int 3]
def aboutOver (below : List Frame) : State where
  vm := { classes := classes, interned := interned.toArray }
  heap := heap
  slotsUsed := slotsUsed
  threads := #[{ frames := .invoking theMethod args0 :: below }]
def below0 : List Frame := [.native { method := ⟨0, 0⟩, args := #[] }]
def about1 : State := aboutOver below0
def p0 : Program := .bare "" "" ""
def e0 : Env := launch0.env 0 0 0
theorem w_frames : about1.frames = Frame.invoking theMethod args0 :: below0 := rfl
set_option maxRecDepth 65536 in
theorem w_args : argsFit about1.vm theMethod args0 = true := by decide +kernel
set_option maxRecDepth 65536 in
theorem w_heap : heapFits about1 = true := by decide +kernel
set_option maxRecDepth 65536 in
theorem w_runnable : about1.curStatus? = some .runnable := by decide +kernel
set_option maxRecDepth 65536 in
theorem w_alone : about1.alone = true := by decide +kernel
set_option maxRecDepth 65536 in
theorem w_named : about1.methodNamed? x = some theMethod := by decide +kernel
set_option maxRecDepth 65536 in
theorem w_hears : about1.hears theMethod below0 = true := by decide +kernel
set_option maxRecDepth 65536 in
theorem w_ripe : about1.ripe theMethod args0 below0 = true := by decide +kernel
theorem w_running : about1.status = .running := rfl
set_option maxRecDepth 65536 in
theorem w_room : about1.hasRoom e0.platform room_1 = true :=
  launch0.hasRoom_least _ room_1 (by decide +kernel) (by decide +kernel) (by decide +kernel) (by decide +kernel) (by decide +kernel) (by decide +kernel)
theorem allAtoms_all (ts : List Jvm.Cond) (a : Array Jvm.Value) (st : Jvm.State) : (allAtoms ts).before a st = ts.all (fun c => c.before a st) := by
  induction ts with
  | nil => rfl
  | cons c t ih =>
    show (Jvm.Cond.and c (allAtoms t)).before a st = _
    rw [Jvm.Cond.before_and, ih, List.all_cons]
def words1 : List Jvm.Cond := Jvm.Cond.code x code maxLocals ret :: tables_1
/-- a 'code' word, met by the world's own term for the bytes: nothing is compared byte by byte -/
theorem code_word {y : MethodName} {bytes : ByteArray} {mx : Nat} {rt : Option FieldType} {a : Array Value} {s : State} {m : MethodId} {meth : Method} {c : Code} (h1 : s.methodNamed? y = some m) (h2 : s.vm.method? m = some meth) (h3 : meth.code = some c) (h4 : c.code = bytes)
    (h5 : (c.maxLocals == mx && c.exceptionTable.isEmpty && decide (c.maxStack ≤ mostOperands) && decide (meth.sig.returnType = rt) && !meth.locks && decide (parseMethodDescriptor y.desc = some meth.sig)) = true) : (Jvm.Cond.code y bytes mx rt).before a s = true := by
  simp only [Bool.and_eq_true, beq_iff_eq, Bool.not_eq_true', decide_eq_true_eq] at h5
  obtain ⟨⟨⟨⟨⟨g1, g2⟩, g3⟩, g4⟩, g5⟩, g6⟩ := h5
  simp [Cond.before, Cond.holds, Cond.value, h1, h2, h3, h4, g1, g2, g3, g4, g5, g6]
def isCode : Jvm.Cond → Bool
  | .code _ _ _ _ => true
  | _ => false
theorem all_split {L : List Jvm.Cond} {P : Jvm.Cond → Bool} (h1 : L.all (fun c => isCode c || P c) = true) (h2 : ∀ c ∈ L.filter isCode, P c = true) : L.all P = true := by
  refine List.all_eq_true.mpr fun c hc => ?_
  have h := List.all_eq_true.mp h1 c hc
  rcases Bool.eq_false_or_eq_true (isCode c) with hi | hi
  · exact h2 c (List.mem_filter.mpr ⟨hc, hi⟩)
  · simpa [hi] using h
set_option maxRecDepth 65536 in
theorem w_c0 : (Jvm.Cond.code x code maxLocals ret).before args0 about1 = true := code_word (m := ⟨1, 3⟩) (meth := k1m3) (c := k1c3) (by decide +kernel) rfl rfl rfl (by decide +kernel)
set_option maxRecDepth 65536 in
theorem w_c1 : (Jvm.Cond.code ({ cls := "com/example/prim_json/primjson/ByteWords", name := "repeated", desc := "(C)J" } : Jvm.MethodName) prog_1_method_2_code (1 : Nat) (Option.some Jvm.ClassFile.FieldType.long)).before args0 about1 = true := code_word (m := ⟨2, 1⟩) (meth := k2m1) (c := k2c1) (by decide +kernel) rfl rfl rfl (by decide +kernel)
set_option maxRecDepth 65536 in
theorem w_c2 : (Jvm.Cond.code ({ cls := "com/example/prim_json/primjson/ByteWordsExactlyEqualBytesPinLaw", name := "place", desc := "(JIII)J" } : Jvm.MethodName) method_2_code (5 : Nat) (Option.some Jvm.ClassFile.FieldType.long)).before args0 about1 = true := code_word (m := ⟨1, 1⟩) (meth := k1m1) (c := k1c1) (by decide +kernel) rfl rfl rfl (by decide +kernel)
set_option maxRecDepth 65536 in
theorem w_c3 : (Jvm.Cond.code ({ cls := "com/example/prim_json/primjson/ByteWords", name := "exactlyEqualBytes", desc := "(JJ)J" } : Jvm.MethodName) prog_1_method_6_code (6 : Nat) (Option.some Jvm.ClassFile.FieldType.long)).before args0 about1 = true := code_word (m := ⟨2, 2⟩) (meth := k2m2) (c := k2c2) (by decide +kernel) rfl rfl rfl (by decide +kernel)
set_option maxRecDepth 65536 in
theorem w_c4 : (Jvm.Cond.code ({ cls := "com/example/prim_json/primjson/ByteWordsExactlyEqualBytesPinLaw", name := "bit", desc := "(JII)J" } : Jvm.MethodName) method_3_code (4 : Nat) (Option.some Jvm.ClassFile.FieldType.long)).before args0 about1 = true := code_word (m := ⟨1, 2⟩) (meth := k1m2) (c := k1c2) (by decide +kernel) rfl rfl rfl (by decide +kernel)
def codes1 : List Jvm.Cond := [Jvm.Cond.code x code maxLocals ret, Jvm.Cond.code ({ cls := "com/example/prim_json/primjson/ByteWords", name := "repeated", desc := "(C)J" } : Jvm.MethodName) prog_1_method_2_code (1 : Nat) (Option.some Jvm.ClassFile.FieldType.long), Jvm.Cond.code ({ cls := "com/example/prim_json/primjson/ByteWordsExactlyEqualBytesPinLaw", name := "place", desc := "(JIII)J" } : Jvm.MethodName) method_2_code (5 : Nat) (Option.some Jvm.ClassFile.FieldType.long), Jvm.Cond.code ({ cls := "com/example/prim_json/primjson/ByteWords", name := "exactlyEqualBytes", desc := "(JJ)J" } : Jvm.MethodName) prog_1_method_6_code (6 : Nat) (Option.some Jvm.ClassFile.FieldType.long), Jvm.Cond.code ({ cls := "com/example/prim_json/primjson/ByteWordsExactlyEqualBytesPinLaw", name := "bit", desc := "(JII)J" } : Jvm.MethodName) method_3_code (4 : Nat) (Option.some Jvm.ClassFile.FieldType.long)]
set_option maxRecDepth 65536 in
theorem codes_eq : words1.filter isCode = codes1 := rfl
theorem w_codes : ∀ c ∈ words1.filter isCode, c.before args0 about1 = true := by
  rw [codes_eq]
  intro c hc
  simp only [codes1, List.mem_cons, List.not_mem_nil, or_false] at hc
  rcases hc with rfl | rfl | rfl | rfl | rfl
  · exact w_c0
  · exact w_c1
  · exact w_c2
  · exact w_c3
  · exact w_c4
set_option maxRecDepth 65536 in
theorem w_t1 : words1.all (fun c => isCode c || c.before args0 about1) = true := by decide +kernel
theorem w_tables : (allAtoms (Jvm.Cond.code x code maxLocals ret :: tables_1)).before args0 about1 = true := by
  rw [allAtoms_all]
  show words1.all (fun c => c.before args0 about1) = true
  refine all_split ?_ w_codes
  rw [w_t1]
set_option maxRecDepth 65536 in
theorem w_case : (Jvm.Cond.and given_1 narrow_1).before args0 about1 = true := by decide +kernel
theorem w_applies : (headSpec (Jvm.Cond.code x code maxLocals ret :: tables_1) room_1).applies x e0.platform about1 = true :=
  (Spec.applies_iff w_frames).mpr ⟨w_running, w_runnable, w_alone, w_named, w_hears, w_ripe, w_room, w_tables⟩
theorem atStart : AtStart classFile x code maxLocals ret World_1 tables_1 room_1 Calls_1 rest_1 Pre_1 launch0 p0 e0 about1 theMethod args0 below0 :=
  ⟨lists_1, trivial, launch0.admits_env _ _ _, launch0.least_env, fairChoices_fair.cas, fairChoices_fair.clock, w_frames, w_args, w_heap, w_applies, trivial, trivial, w_case⟩
end start1
theorem witness_1 : WitnessClaimed_1 := ⟨start1.p0, start1.e0, start1.about1, start1.theMethod, start1.args0, start1.below0, start1.atStart⟩
end Jvm.Pilot.@@N@@
