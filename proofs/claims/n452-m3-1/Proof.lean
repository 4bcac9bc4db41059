import JvmDerived
import JvmDerived.Pilot.@@N@@Statement
import JvmDerived.Pilot.@@N@@Code
set_option linter.unusedVariables false
set_option maxRecDepth 65536
set_option maxHeartbeats 40000000
set_option linter.unusedSimpArgs false
namespace Jvm.RoadKit
open Sem ClassFile Op Lib Jvm.Stand Jvm.Free Jvm.LawKit
section New
variable {p : Program} {l : Launch} {e : Env} {R : Room} {s : State} {m : MethodId} {args : Array Value} {below : List Frame} {meth : Method} {c : Code} {T : State} {locs : List Loc} {cells slots : Nat}
theorem retI (X : Stand p l e R s m args below meth c T locs cells slots) (hx : p.tables.exec = Jvm.exec) {pc : Nat} {Ls : Array Slot} {z : Int32} {rest : List Value} (hret : meth.sig.returnType = some .int) (hd : decode c.code pc = .ok (.ireturn, 1)) {fs : List Frame}
    (hl : ∀ (f : JFrame) (acts : List Action), f.method = m → f.locked = none → f.entered = [] → (doReturn e (T.setTop f) acts (some (.int z))).1 = T.setFrames fs) : Steps p.tables e below (T.setTop (mkF m pc Ls (.int z :: rest))) (T.setFrames fs) := by
  have hm' : T.vm.method? m = some meth := X.method'
  have hn : narrow .int (.int z) = .int z := rfl
  show Steps p.tables e below (T.setTop { method := m, pc := pc, locals := Ls, stack := _ :: rest, locked := none }) _
  jvm_step X.here [X.here.top, hx, hd, hm', hret, hn]
  first | (intro acts; rw [hl _ acts rfl rfl rfl]) | rw [hl _ _ rfl rfl rfl]
  exact Steps.refl _
end New
end Jvm.RoadKit
namespace Jvm.Pilot.@@N@@
open Jvm Jvm.ClassFile Sem Op Lib Jvm.Free Jvm.Stand Jvm.LawKit Jvm.RoadKit Bundle Jvm.Pilot.@@N@@.Jvm.D
/-! own: the rest of a run, told backwards; the contract of a body; steps and calls -/
section OwnBase
variable {p : Program} {l : Launch} {e : Env} {R : Room} {s : State} {m : MethodId} {args : Array Value} {below : List Frame} {meth : Method} {c : Code} {T : State} {locs : List Loc} {cells slots : Nat} {Z : State} {a0 : Array Value} {h : Heap} {bs : ByteArray} {pc q : Nat} {Ls : Array Slot} {S : List Value} {G : State → Prop}
abbrev PQ := Option Value → Heap → List Loc → Prop
def Cl (p : Program) (e : Env) (below : List Frame) (G : State → Prop) : Prop := ∀ (A B : State), (∀ t, Steps p.tables e below B t → Steps p.tables e below A t) → G B → G A
def Go (p : Program) (e : Env) (below : List Frame) (s : State) (C N : Nat) (Q : PQ) (A : State) : Prop :=
  ∃ s₂ o, Steps p.tables e below A s₂ ∧ s₂.status = .running ∧ Ended s₂ below o ∧ ∃ v L, o = .returned v ∧ Q v s₂.heap L ∧ FrameEnd s o s₂ L C N
theorem Go.cl {C N : Nat} {Q : PQ} : Cl p e below (Go p e below s C N Q) := fun A B k ⟨s2, o, h1, r⟩ => ⟨s2, o, k _ h1, r⟩
theorem Go.with {C N : Nat} {Q : PQ} {A : State} (k : Cl p e below (Go p e below s C N Q) → Go p e below s C N Q A) : Go p e below s C N Q A := k Go.cl
theorem Go.leave (X : Stand p l e R s m args below meth c T locs cells slots) {v : Option Value} (hv : meth.sig.returnType = none → v = none) (hlk : meth.locks = false) {C N : Nat} {Q : PQ} (hc : cells ≤ C) (hn : slots ≤ N) (q : Q v T.heap locs) {A : State}
    (k : ∀ fs, (∀ (f : JFrame) (acts : List Action), f.method = m → f.locked = none → f.entered = [] → (doReturn e (T.setTop f) acts v).1 = T.setFrames fs) → Steps p.tables e below A (T.setFrames fs)) : Go p e below s C N Q A := by
  obtain ⟨fs, hr, hrun, hended, hW, hsame⟩ := X.leave hv hlk
  exact ⟨_, _, k fs hr, hrun, hended, _, _, rfl, q, ⟨_, rfl⟩, hW, hsame.mono hc hn⟩
theorem Go.retI (X : Stand p l e R s m args below meth c T locs cells slots) (hx : p.tables.exec = Jvm.exec) (hby : c.code = bs) (hlk : meth.locks = false) {z : Int32} (hret : meth.sig.returnType = some .int) (hd : decode bs pc = .ok (.ireturn, 1)) {C N : Nat} {Q : PQ} (hc : cells ≤ C) (hn : slots ≤ N) (q : Q (some (.int z)) T.heap locs) :
    Go p e below s C N Q (T.setTop (mkF m pc Ls (.int z :: S))) :=
  Go.leave X (fun h => by rw [hret] at h; cases h) hlk hc hn q fun _ hr => Jvm.RoadKit.retI X hx hret (hb hby hd) hr
theorem Go.retN (X : Stand p l e R s m args below meth c T locs cells slots) (hx : p.tables.exec = Jvm.exec) (hby : c.code = bs) (hlk : meth.locks = false) {z : Int32} {t : FieldType} (hret : meth.sig.returnType = some t) (ht : t = .boolean ∨ t = .byte ∨ t = .char ∨ t = .short) (hd : decode bs pc = .ok (.ireturn, 1)) {C N : Nat} {Q : PQ} (hc : cells ≤ C) (hn : slots ≤ N) (hz : nar t z = z) (q : Q (some (.int z)) T.heap locs) :
    Go p e below s C N Q (T.setTop (mkF m pc Ls (.int z :: S))) :=
  Go.leave X (fun h => by rw [hret] at h; cases h) hlk hc hn q fun _ hr => Jvm.RoadKit.retN X hx hret ht (hb hby hd) (by rw [hz]; exact hr)
theorem Go.retV (X : Stand p l e R s m args below meth c T locs cells slots) (hx : p.tables.exec = Jvm.exec) (hby : c.code = bs) (hlk : meth.locks = false) (hret : meth.sig.returnType = none) (hd : decode bs pc = .ok (.return_, 1)) {C N : Nat} {Q : PQ} (hc : cells ≤ C) (hn : slots ≤ N) (q : Q none T.heap locs) :
    Go p e below s C N Q (T.setTop (mkF m pc Ls [])) :=
  Go.leave X (fun _ => rfl) hlk hc hn q fun _ hr => X.returnOut hx hret (hb hby hd) hr
theorem Go.retO (X : Stand p l e R s m args below meth c T locs cells slots) (hx : p.tables.exec = Jvm.exec) (hby : c.code = bs) (hlk : meth.locks = false) {w : Value} {t : FieldType} {i : Instr} (hret : meth.sig.returnType = some t) (hnw : narrow t w = w)
    (hi : (i = .ireturn ∧ (t = .int ∨ t = .boolean ∨ t = .byte ∨ t = .char ∨ t = .short) ∧ ∃ z, w = .int z) ∨ (i = .lreturn ∧ t = .long ∧ ∃ z, w = .long z) ∨ (i = .dreturn ∧ t = .double ∧ ∃ z, w = .double z) ∨ (i = .freturn ∧ t = .float ∧ ∃ z, w = .float z) ∨ (i = .areturn ∧ t.isReference = true ∧ w.isRef = true))
    (hd : decode bs pc = .ok (i, 1)) {C N : Nat} {Q : PQ} (hc : cells ≤ C) (hn : slots ≤ N) (q : Q (some w) T.heap locs) :
    Go p e below s C N Q (T.setTop (mkF m pc Ls (w :: S))) :=
  Go.leave X (fun h => by rw [hret] at h; cases h) hlk hc hn q fun _ hr => Jvm.RoadKit.retOut X hx hret hnw hi (hb hby hd) hr
/-- two roads meet: at a state like X's, at the heap h, with the frame g' -/
def Mx (X : Stand p l e R s m args below meth c T locs cells slots) (h : Heap) (g' : JFrame) (A : State) : Prop := ∃ T', Stand p l e R s m args below meth c T' locs cells slots ∧ T'.heap = h ∧ ∀ t, Steps p.tables e below (T'.setTop g') t → Steps p.tables e below A t
theorem Mx.cl {X : Stand p l e R s m args below meth c T locs cells slots} {g' : JFrame} : Cl p e below (Mx X h g') := fun A B k ⟨T', X', e', st⟩ => ⟨T', X', e', fun t r => k _ (st t r)⟩
theorem Mx.with {X : Stand p l e R s m args below meth c T locs cells slots} {g' : JFrame} {A : State} (k : Cl p e below (Mx X h g') → Mx X h g' A) : Mx X h g' A := k Mx.cl
theorem Mx.here {X : Stand p l e R s m args below meth c T locs cells slots} {g' : JFrame} {T' : State} (X' : Stand p l e R s m args below meth c T' locs cells slots) (e' : T'.heap = h) : Mx X h g' (T'.setTop g') := ⟨T', X', e', fun _ k => k⟩
theorem own_nar01 {z : Int32} (h : z = 0 ∨ z = 1) : nar .boolean z = z := by rcases h with rfl | rfl <;> rfl
theorem own_px (X : Stand p l e R s m args below meth c T (locs ++ []) (cells + 0) (slots + 0)) : Stand p l e R s m args below meth c T locs cells slots := by rw [List.append_nil] at X; exact X
theorem k_go (K : Cl p e below G) {A B : State} (st : ∀ t, Steps p.tables e below B t → Steps p.tables e below A t) (hr : G B) : G A := K A B st hr
theorem k_some (K : Cl p e below G) {w : Value} (hr : G (T.setTop (mkF m q Ls (w :: S)))) : G (T.setTop (mkF m q Ls ((some w).toList ++ S))) := hr
theorem k_none (K : Cl p e below G) (hr : G (T.setTop (mkF m q Ls S))) : G (T.setTop (mkF m q Ls ((none : Option Value).toList ++ S))) := hr
theorem own_irem (x y : Int32) : x - (x / y) * y = x % y := by
  apply Int32.toInt_inj.mp
  have h1 := Int32.le_toInt (x % y)
  have h2 := Int32.toInt_lt (x % y)
  rw [Int32.toInt_sub, Int32.toInt_mul, Int32.toInt_div, Int.bmod_mul_bmod, Int.sub_bmod_bmod, Int.mul_comm (x.toInt.tdiv y.toInt), ← Int.tmod_def, ← Int32.toInt_mod]
  exact Int.bmod_eq_of_le_mul_two (by omega) (by omega)
theorem mI (K : Cl p e below G) (h : At T m c below) (hx : p.tables.exec = Jvm.exec) (hby : c.code = bs) {k : Nat} {v : Int32} (hd : decode bs pc = .ok (.iload k, 2)) (hl : Ls[k]? = some (.val (.int v))) (hq : pc + 2 = q) (hr : G (T.setTop (mkF m q Ls (.int v :: S)))) : G (T.setTop (mkF m pc Ls S)) := by subst hq; exact K _ _ (fun t k => Jvm.Free.XS.iload h hx rfl (hb hby hd) hl k) hr
theorem mIN (K : Cl p e below G) (h : At T m c below) (hx : p.tables.exec = Jvm.exec) (hby : c.code = bs) {k : Fin 4} {v : Int32} (hd : decode bs pc = .ok (.iload_n k, 1)) (hl : Ls[k.val]? = some (.val (.int v))) (hq : pc + 1 = q) (hr : G (T.setTop (mkF m q Ls (.int v :: S)))) : G (T.setTop (mkF m pc Ls S)) := by subst hq; exact K _ _ (fun t k => Jvm.Free.XS.iloadN h hx rfl (hb hby hd) hl k) hr
theorem mS (K : Cl p e below G) (h : At T m c below) (hx : p.tables.exec = Jvm.exec) (hby : c.code = bs) {k : Nat} {v : Int32} (l' : Array Slot) (hd : decode bs pc = .ok (.istore k, 2)) (hl : storeLocals Ls k (.int v) = some l') (hq : pc + 2 = q) (hr : G (T.setTop (mkF m q l' S))) : G (T.setTop (mkF m pc Ls (.int v :: S))) := by subst hq; exact K _ _ (fun t k => Jvm.Free.XS.istore h hx rfl (hb hby hd) rfl hl k) hr
theorem m_istoreN (K : Cl p e below G) (h : At T m c below) (hx : p.tables.exec = Jvm.exec) (hby : c.code = bs) {k : Fin 4} {v : Int32} (l' : Array Slot) (hd : decode bs pc = .ok (.istore_n k, 1)) (hl : storeLocals Ls k.val (.int v) = some l') (hq : pc + 1 = q) (hr : G (T.setTop (mkF m q l' S))) : G (T.setTop (mkF m pc Ls (.int v :: S))) := by subst hq; exact K _ _ (fun t k => Jvm.Free.XS.istoreN h hx rfl (hb hby hd) rfl hl k) hr
theorem m_lload (K : Cl p e below G) (h : At T m c below) (hx : p.tables.exec = Jvm.exec) (hby : c.code = bs) {k : Nat} {v : Int64} (hd : decode bs pc = .ok (.lload k, 2)) (hl : Ls[k]? = some (.val (.long v))) (hq : pc + 2 = q) (hr : G (T.setTop (mkF m q Ls (.long v :: S)))) : G (T.setTop (mkF m pc Ls S)) := by subst hq; exact K _ _ (fun t k => Jvm.Free.XS.lload h hx rfl (hb hby hd) hl k) hr
theorem m_lloadN (K : Cl p e below G) (h : At T m c below) (hx : p.tables.exec = Jvm.exec) (hby : c.code = bs) {k : Fin 4} {v : Int64} (hd : decode bs pc = .ok (.lload_n k, 1)) (hl : Ls[k.val]? = some (.val (.long v))) (hq : pc + 1 = q) (hr : G (T.setTop (mkF m q Ls (.long v :: S)))) : G (T.setTop (mkF m pc Ls S)) := by subst hq; exact K _ _ (fun t k => Jvm.Free.XS.lloadN h hx rfl (hb hby hd) hl k) hr
theorem m_lstore (K : Cl p e below G) (h : At T m c below) (hx : p.tables.exec = Jvm.exec) (hby : c.code = bs) {k : Nat} {v : Int64} (l' : Array Slot) (hd : decode bs pc = .ok (.lstore k, 2)) (hl : storeLocals Ls k (.long v) = some l') (hq : pc + 2 = q) (hr : G (T.setTop (mkF m q l' S))) : G (T.setTop (mkF m pc Ls (.long v :: S))) := by subst hq; exact K _ _ (fun t k => Jvm.Free.XS.lstore h hx rfl (hb hby hd) rfl hl k) hr
theorem m_lstoreN (K : Cl p e below G) (h : At T m c below) (hx : p.tables.exec = Jvm.exec) (hby : c.code = bs) {k : Fin 4} {v : Int64} (l' : Array Slot) (hd : decode bs pc = .ok (.lstore_n k, 1)) (hl : storeLocals Ls k.val (.long v) = some l') (hq : pc + 1 = q) (hr : G (T.setTop (mkF m q l' S))) : G (T.setTop (mkF m pc Ls (.long v :: S))) := by subst hq; exact K _ _ (fun t k => Jvm.Free.XS.lstoreN h hx rfl (hb hby hd) rfl hl k) hr
theorem m_dload (K : Cl p e below G) (h : At T m c below) (hx : p.tables.exec = Jvm.exec) (hby : c.code = bs) {k : Nat} {v : UInt64} (hd : decode bs pc = .ok (.dload k, 2)) (hl : Ls[k]? = some (.val (.double v))) (hq : pc + 2 = q) (hr : G (T.setTop (mkF m q Ls (.double v :: S)))) : G (T.setTop (mkF m pc Ls S)) := by subst hq; exact K _ _ (fun t k => Jvm.Free.XS.dload h hx rfl (hb hby hd) hl k) hr
theorem m_dloadN (K : Cl p e below G) (h : At T m c below) (hx : p.tables.exec = Jvm.exec) (hby : c.code = bs) {k : Fin 4} {v : UInt64} (hd : decode bs pc = .ok (.dload_n k, 1)) (hl : Ls[k.val]? = some (.val (.double v))) (hq : pc + 1 = q) (hr : G (T.setTop (mkF m q Ls (.double v :: S)))) : G (T.setTop (mkF m pc Ls S)) := by subst hq; exact K _ _ (fun t k => Jvm.Free.XS.dloadN h hx rfl (hb hby hd) hl k) hr
theorem m_dstore (K : Cl p e below G) (h : At T m c below) (hx : p.tables.exec = Jvm.exec) (hby : c.code = bs) {k : Nat} {v : UInt64} (l' : Array Slot) (hd : decode bs pc = .ok (.dstore k, 2)) (hl : storeLocals Ls k (.double v) = some l') (hq : pc + 2 = q) (hr : G (T.setTop (mkF m q l' S))) : G (T.setTop (mkF m pc Ls (.double v :: S))) := by subst hq; exact K _ _ (fun t k => Jvm.Free.XS.dstore h hx rfl (hb hby hd) rfl hl k) hr
theorem m_dstoreN (K : Cl p e below G) (h : At T m c below) (hx : p.tables.exec = Jvm.exec) (hby : c.code = bs) {k : Fin 4} {v : UInt64} (l' : Array Slot) (hd : decode bs pc = .ok (.dstore_n k, 1)) (hl : storeLocals Ls k.val (.double v) = some l') (hq : pc + 1 = q) (hr : G (T.setTop (mkF m q l' S))) : G (T.setTop (mkF m pc Ls (.double v :: S))) := by subst hq; exact K _ _ (fun t k => Jvm.Free.XS.dstoreN h hx rfl (hb hby hd) rfl hl k) hr
theorem mA (K : Cl p e below G) (h : At T m c below) (hx : p.tables.exec = Jvm.exec) (hby : c.code = bs) {k : Nat} {v : Value} (hd : decode bs pc = .ok (.aload k, 2)) (hl : Ls[k]? = some (.val v)) (hv : v.isRef = true) (hq : pc + 2 = q) (hr : G (T.setTop (mkF m q Ls (v :: S)))) : G (T.setTop (mkF m pc Ls S)) := by subst hq; exact K _ _ (fun t k => Jvm.Free.XS.aload h hx rfl (hb hby hd) hl hv k) hr
theorem mAN (K : Cl p e below G) (h : At T m c below) (hx : p.tables.exec = Jvm.exec) (hby : c.code = bs) {k : Fin 4} {v : Value} (hd : decode bs pc = .ok (.aload_n k, 1)) (hl : Ls[k.val]? = some (.val v)) (hv : v.isRef = true) (hq : pc + 1 = q) (hr : G (T.setTop (mkF m q Ls (v :: S)))) : G (T.setTop (mkF m pc Ls S)) := by subst hq; exact K _ _ (fun t k => Jvm.Free.XS.aloadN h hx rfl (hb hby hd) hl hv k) hr
theorem m_astore (K : Cl p e below G) (h : At T m c below) (hx : p.tables.exec = Jvm.exec) (hby : c.code = bs) {k : Nat} {v : Value} (l' : Array Slot) (hd : decode bs pc = .ok (.astore k, 2)) (hv : v.isRef = true) (hl : storeLocals Ls k v = some l') (hq : pc + 2 = q) (hr : G (T.setTop (mkF m q l' S))) : G (T.setTop (mkF m pc Ls (v :: S))) := by subst hq; exact K _ _ (fun t k => Jvm.Free.XS.astore h hx rfl (hb hby hd) rfl hv hl k) hr
theorem m_astoreN (K : Cl p e below G) (h : At T m c below) (hx : p.tables.exec = Jvm.exec) (hby : c.code = bs) {k : Fin 4} {v : Value} (l' : Array Slot) (hd : decode bs pc = .ok (.astore_n k, 1)) (hv : v.isRef = true) (hl : storeLocals Ls k.val v = some l') (hq : pc + 1 = q) (hr : G (T.setTop (mkF m q l' S))) : G (T.setTop (mkF m pc Ls (v :: S))) := by subst hq; exact K _ _ (fun t k => Jvm.Free.XS.astoreN h hx rfl (hb hby hd) rfl hv hl k) hr
theorem mC (K : Cl p e below G) (h : At T m c below) (hx : p.tables.exec = Jvm.exec) (hby : c.code = bs) {i : Int} (z : Int32) (hd : decode bs pc = .ok (.iconst i, 1)) (hz : Int32.ofInt i = z) (hq : pc + 1 = q) (hr : G (T.setTop (mkF m q Ls (.int z :: S)))) : G (T.setTop (mkF m pc Ls S)) := by subst hq; subst hz; exact K _ _ (fun t k => Jvm.Free.XS.iconst h hx rfl (hb hby hd) k) hr
theorem mB (K : Cl p e below G) (h : At T m c below) (hx : p.tables.exec = Jvm.exec) (hby : c.code = bs) {i : Int} (z : Int32) (hd : decode bs pc = .ok (.bipush i, 2)) (hz : (Int8.ofInt i).toInt32 = z) (hq : pc + 2 = q) (hr : G (T.setTop (mkF m q Ls (.int z :: S)))) : G (T.setTop (mkF m pc Ls S)) := by subst hq; subst hz; exact K _ _ (fun t k => Jvm.Free.XS.bipush h hx rfl (hb hby hd) k) hr
theorem mP (K : Cl p e below G) (h : At T m c below) (hx : p.tables.exec = Jvm.exec) (hby : c.code = bs) {i : Int} (z : Int32) (hd : decode bs pc = .ok (.sipush i, 3)) (hz : (Int16.ofInt i).toInt32 = z) (hq : pc + 3 = q) (hr : G (T.setTop (mkF m q Ls (.int z :: S)))) : G (T.setTop (mkF m pc Ls S)) := by subst hq; subst hz; exact K _ _ (fun t k => Jvm.Free.XS.sipush h hx rfl (hb hby hd) k) hr
theorem m_lconst (K : Cl p e below G) (h : At T m c below) (hx : p.tables.exec = Jvm.exec) (hby : c.code = bs) {k : Fin 2} (z : Int64) (hd : decode bs pc = .ok (.lconst k, 1)) (hz : Int64.ofNat k.val = z) (hq : pc + 1 = q) (hr : G (T.setTop (mkF m q Ls (.long z :: S)))) : G (T.setTop (mkF m pc Ls S)) := by subst hq; subst hz; exact K _ _ (fun t k => Jvm.Free.XS.lconst h hx rfl (hb hby hd) k) hr
theorem m_null (K : Cl p e below G) (h : At T m c below) (hx : p.tables.exec = Jvm.exec) (hby : c.code = bs)  (hd : decode bs pc = .ok (.aconst_null, 1)) (hq : pc + 1 = q) (hr : G (T.setTop (mkF m q Ls (.null :: S)))) : G (T.setTop (mkF m pc Ls S)) := by subst hq; exact K _ _ (fun t k => Jvm.Free.XS.aconstNull h hx rfl (hb hby hd) k) hr
theorem m_iadd (K : Cl p e below G) (h : At T m c below) (hx : p.tables.exec = Jvm.exec) (hby : c.code = bs) {x y : Int32} (z : Int32) (hd : decode bs pc = .ok (.iadd, 1)) (hz : x + y = z) (hq : pc + 1 = q) (hr : G (T.setTop (mkF m q Ls (.int z :: S)))) : G (T.setTop (mkF m pc Ls (.int y :: .int x :: S))) := by subst hq; subst hz; exact K _ _ (fun t k => Jvm.Free.XS.iadd h hx rfl (hb hby hd) rfl k) hr
theorem m_isub (K : Cl p e below G) (h : At T m c below) (hx : p.tables.exec = Jvm.exec) (hby : c.code = bs) {x y : Int32} (z : Int32) (hd : decode bs pc = .ok (.isub, 1)) (hz : x - y = z) (hq : pc + 1 = q) (hr : G (T.setTop (mkF m q Ls (.int z :: S)))) : G (T.setTop (mkF m pc Ls (.int y :: .int x :: S))) := by subst hq; subst hz; exact K _ _ (fun t k => Jvm.Free.XS.isub h hx rfl (hb hby hd) rfl k) hr
theorem m_imul (K : Cl p e below G) (h : At T m c below) (hx : p.tables.exec = Jvm.exec) (hby : c.code = bs) {x y : Int32} (z : Int32) (hd : decode bs pc = .ok (.imul, 1)) (hz : x * y = z) (hq : pc + 1 = q) (hr : G (T.setTop (mkF m q Ls (.int z :: S)))) : G (T.setTop (mkF m pc Ls (.int y :: .int x :: S))) := by subst hq; subst hz; exact K _ _ (fun t k => Jvm.Free.XS.imul h hx rfl (hb hby hd) rfl k) hr
theorem m_iand (K : Cl p e below G) (h : At T m c below) (hx : p.tables.exec = Jvm.exec) (hby : c.code = bs) {x y : Int32} (z : Int32) (hd : decode bs pc = .ok (.iand, 1)) (hz : x &&& y = z) (hq : pc + 1 = q) (hr : G (T.setTop (mkF m q Ls (.int z :: S)))) : G (T.setTop (mkF m pc Ls (.int y :: .int x :: S))) := by subst hq; subst hz; exact K _ _ (fun t k => Jvm.Free.XS.iand h hx rfl (hb hby hd) rfl k) hr
theorem m_ior (K : Cl p e below G) (h : At T m c below) (hx : p.tables.exec = Jvm.exec) (hby : c.code = bs) {x y : Int32} (z : Int32) (hd : decode bs pc = .ok (.ior, 1)) (hz : x ||| y = z) (hq : pc + 1 = q) (hr : G (T.setTop (mkF m q Ls (.int z :: S)))) : G (T.setTop (mkF m pc Ls (.int y :: .int x :: S))) := by subst hq; subst hz; exact K _ _ (fun t k => Jvm.Free.XS.ior h hx rfl (hb hby hd) rfl k) hr
theorem m_ixor (K : Cl p e below G) (h : At T m c below) (hx : p.tables.exec = Jvm.exec) (hby : c.code = bs) {x y : Int32} (z : Int32) (hd : decode bs pc = .ok (.ixor, 1)) (hz : x ^^^ y = z) (hq : pc + 1 = q) (hr : G (T.setTop (mkF m q Ls (.int z :: S)))) : G (T.setTop (mkF m pc Ls (.int y :: .int x :: S))) := by subst hq; subst hz; exact K _ _ (fun t k => Jvm.Free.XS.ixor h hx rfl (hb hby hd) rfl k) hr
theorem m_idiv (K : Cl p e below G) (h : At T m c below) (hx : p.tables.exec = Jvm.exec) (hby : c.code = bs) {x y : Int32} (z : Int32) (hd : decode bs pc = .ok (.idiv, 1)) (hy : y ≠ 0) (hz : x / y = z) (hq : pc + 1 = q) (hr : G (T.setTop (mkF m q Ls (.int z :: S)))) : G (T.setTop (mkF m pc Ls (.int y :: .int x :: S))) := by subst hq; subst hz; exact K _ _ (fun t k => Jvm.Free.XS.idiv h hx rfl (hb hby hd) rfl hy k) hr
theorem m_ladd (K : Cl p e below G) (h : At T m c below) (hx : p.tables.exec = Jvm.exec) (hby : c.code = bs) {x y : Int64} (z : Int64) (hd : decode bs pc = .ok (.ladd, 1)) (hz : x + y = z) (hq : pc + 1 = q) (hr : G (T.setTop (mkF m q Ls (.long z :: S)))) : G (T.setTop (mkF m pc Ls (.long y :: .long x :: S))) := by subst hq; subst hz; exact K _ _ (fun t k => Jvm.Free.XS.ladd h hx rfl (hb hby hd) rfl k) hr
theorem m_lsub (K : Cl p e below G) (h : At T m c below) (hx : p.tables.exec = Jvm.exec) (hby : c.code = bs) {x y : Int64} (z : Int64) (hd : decode bs pc = .ok (.lsub, 1)) (hz : x - y = z) (hq : pc + 1 = q) (hr : G (T.setTop (mkF m q Ls (.long z :: S)))) : G (T.setTop (mkF m pc Ls (.long y :: .long x :: S))) := by subst hq; subst hz; exact K _ _ (fun t k => Jvm.Free.XS.lsub h hx rfl (hb hby hd) rfl k) hr
theorem m_lmul (K : Cl p e below G) (h : At T m c below) (hx : p.tables.exec = Jvm.exec) (hby : c.code = bs) {x y : Int64} (z : Int64) (hd : decode bs pc = .ok (.lmul, 1)) (hz : x * y = z) (hq : pc + 1 = q) (hr : G (T.setTop (mkF m q Ls (.long z :: S)))) : G (T.setTop (mkF m pc Ls (.long y :: .long x :: S))) := by subst hq; subst hz; exact K _ _ (fun t k => Jvm.Free.XS.lmul h hx rfl (hb hby hd) rfl k) hr
theorem m_land (K : Cl p e below G) (h : At T m c below) (hx : p.tables.exec = Jvm.exec) (hby : c.code = bs) {x y : Int64} (z : Int64) (hd : decode bs pc = .ok (.land, 1)) (hz : x &&& y = z) (hq : pc + 1 = q) (hr : G (T.setTop (mkF m q Ls (.long z :: S)))) : G (T.setTop (mkF m pc Ls (.long y :: .long x :: S))) := by subst hq; subst hz; exact K _ _ (fun t k => Jvm.Free.XS.land h hx rfl (hb hby hd) rfl k) hr
theorem m_lor (K : Cl p e below G) (h : At T m c below) (hx : p.tables.exec = Jvm.exec) (hby : c.code = bs) {x y : Int64} (z : Int64) (hd : decode bs pc = .ok (.lor, 1)) (hz : x ||| y = z) (hq : pc + 1 = q) (hr : G (T.setTop (mkF m q Ls (.long z :: S)))) : G (T.setTop (mkF m pc Ls (.long y :: .long x :: S))) := by subst hq; subst hz; exact K _ _ (fun t k => Jvm.Free.XS.lor h hx rfl (hb hby hd) rfl k) hr
theorem m_lxor (K : Cl p e below G) (h : At T m c below) (hx : p.tables.exec = Jvm.exec) (hby : c.code = bs) {x y : Int64} (z : Int64) (hd : decode bs pc = .ok (.lxor, 1)) (hz : x ^^^ y = z) (hq : pc + 1 = q) (hr : G (T.setTop (mkF m q Ls (.long z :: S)))) : G (T.setTop (mkF m pc Ls (.long y :: .long x :: S))) := by subst hq; subst hz; exact K _ _ (fun t k => Jvm.Free.XS.lxor h hx rfl (hb hby hd) rfl k) hr
theorem m_ldiv (K : Cl p e below G) (h : At T m c below) (hx : p.tables.exec = Jvm.exec) (hby : c.code = bs) {x y : Int64} (z : Int64) (hd : decode bs pc = .ok (.ldiv, 1)) (hy : y ≠ 0) (hz : x / y = z) (hq : pc + 1 = q) (hr : G (T.setTop (mkF m q Ls (.long z :: S)))) : G (T.setTop (mkF m pc Ls (.long y :: .long x :: S))) := by subst hq; subst hz; exact K _ _ (fun t k => Jvm.Free.XS.ldiv h hx rfl (hb hby hd) rfl hy k) hr
theorem m_irem (K : Cl p e below G) (h : At T m c below) (hx : p.tables.exec = Jvm.exec) (hby : c.code = bs) {x y : Int32} (z : Int32) (hd : decode bs pc = .ok (.irem, 1)) (hy : y ≠ 0) (hz : x % y = z) (hq : pc + 1 = q) (hr : G (T.setTop (mkF m q Ls (.int z :: S)))) : G (T.setTop (mkF m pc Ls (.int y :: .int x :: S))) := by subst hq; subst hz; rw [← own_irem] at hr; exact K _ _ (fun t k => Jvm.Free.XS.irem h hx rfl (hb hby hd) rfl hy k) hr
theorem m_lrem (K : Cl p e below G) (h : At T m c below) (hx : p.tables.exec = Jvm.exec) (hby : c.code = bs) {x y : Int64} (z : Int64) (hd : decode bs pc = .ok (.lrem, 1)) (hy : y ≠ 0) (hz : x - (x / y) * y = z) (hq : pc + 1 = q) (hr : G (T.setTop (mkF m q Ls (.long z :: S)))) : G (T.setTop (mkF m pc Ls (.long y :: .long x :: S))) := by subst hq; subst hz; exact K _ _ (fun t k => Jvm.Free.XS.lrem h hx rfl (hb hby hd) rfl hy k) hr
theorem m_ishl (K : Cl p e below G) (h : At T m c below) (hx : p.tables.exec = Jvm.exec) (hby : c.code = bs) {x : Int32} {y : Int32} (z : Int32) (hd : decode bs pc = .ok (.ishl, 1)) (hz : x <<< (y &&& 31) = z) (hq : pc + 1 = q) (hr : G (T.setTop (mkF m q Ls (.int z :: S)))) : G (T.setTop (mkF m pc Ls (.int y :: .int x :: S))) := by subst hq; subst hz; exact K _ _ (fun t k => Jvm.Free.XS.ishl h hx rfl (hb hby hd) rfl k) hr
theorem m_ishr (K : Cl p e below G) (h : At T m c below) (hx : p.tables.exec = Jvm.exec) (hby : c.code = bs) {x : Int32} {y : Int32} (z : Int32) (hd : decode bs pc = .ok (.ishr, 1)) (hz : x >>> (y &&& 31) = z) (hq : pc + 1 = q) (hr : G (T.setTop (mkF m q Ls (.int z :: S)))) : G (T.setTop (mkF m pc Ls (.int y :: .int x :: S))) := by subst hq; subst hz; exact K _ _ (fun t k => Jvm.Free.XS.ishr h hx rfl (hb hby hd) rfl k) hr
theorem m_iushr (K : Cl p e below G) (h : At T m c below) (hx : p.tables.exec = Jvm.exec) (hby : c.code = bs) {x : Int32} {y : Int32} (z : Int32) (hd : decode bs pc = .ok (.iushr, 1)) (hz : (x.toUInt32 >>> (y &&& 31).toUInt32).toInt32 = z) (hq : pc + 1 = q) (hr : G (T.setTop (mkF m q Ls (.int z :: S)))) : G (T.setTop (mkF m pc Ls (.int y :: .int x :: S))) := by subst hq; subst hz; exact K _ _ (fun t k => Jvm.Free.XS.iushr h hx rfl (hb hby hd) rfl k) hr
theorem m_lshl (K : Cl p e below G) (h : At T m c below) (hx : p.tables.exec = Jvm.exec) (hby : c.code = bs) {x : Int64} {y : Int32} (z : Int64) (hd : decode bs pc = .ok (.lshl, 1)) (hz : x <<< (y &&& 0x3f).toInt64 = z) (hq : pc + 1 = q) (hr : G (T.setTop (mkF m q Ls (.long z :: S)))) : G (T.setTop (mkF m pc Ls (.int y :: .long x :: S))) := by subst hq; subst hz; exact K _ _ (fun t k => Jvm.Free.XS.lshl h hx rfl (hb hby hd) rfl k) hr
theorem m_lshr (K : Cl p e below G) (h : At T m c below) (hx : p.tables.exec = Jvm.exec) (hby : c.code = bs) {x : Int64} {y : Int32} (z : Int64) (hd : decode bs pc = .ok (.lshr, 1)) (hz : x >>> (y &&& 0x3f).toInt64 = z) (hq : pc + 1 = q) (hr : G (T.setTop (mkF m q Ls (.long z :: S)))) : G (T.setTop (mkF m pc Ls (.int y :: .long x :: S))) := by subst hq; subst hz; exact K _ _ (fun t k => Jvm.Free.XS.lshr h hx rfl (hb hby hd) rfl k) hr
theorem m_lushr (K : Cl p e below G) (h : At T m c below) (hx : p.tables.exec = Jvm.exec) (hby : c.code = bs) {x : Int64} {y : Int32} (z : Int64) (hd : decode bs pc = .ok (.lushr, 1)) (hz : (x.toUInt64 >>> (y &&& 0x3f).toInt64.toUInt64).toInt64 = z) (hq : pc + 1 = q) (hr : G (T.setTop (mkF m q Ls (.long z :: S)))) : G (T.setTop (mkF m pc Ls (.int y :: .long x :: S))) := by subst hq; subst hz; exact K _ _ (fun t k => Jvm.Free.XS.lushr h hx rfl (hb hby hd) rfl k) hr
theorem m_ineg (K : Cl p e below G) (h : At T m c below) (hx : p.tables.exec = Jvm.exec) (hby : c.code = bs) {x : Int32} (z : Int32) (hd : decode bs pc = .ok (.ineg, 1)) (hz : -x = z) (hq : pc + 1 = q) (hr : G (T.setTop (mkF m q Ls (.int z :: S)))) : G (T.setTop (mkF m pc Ls (.int x :: S))) := by subst hq; subst hz; exact K _ _ (fun t k => Jvm.Free.XS.ineg h hx rfl (hb hby hd) rfl k) hr
theorem m_lneg (K : Cl p e below G) (h : At T m c below) (hx : p.tables.exec = Jvm.exec) (hby : c.code = bs) {x : Int64} (z : Int64) (hd : decode bs pc = .ok (.lneg, 1)) (hz : -x = z) (hq : pc + 1 = q) (hr : G (T.setTop (mkF m q Ls (.long z :: S)))) : G (T.setTop (mkF m pc Ls (.long x :: S))) := by subst hq; subst hz; exact K _ _ (fun t k => Jvm.Free.XS.lneg h hx rfl (hb hby hd) rfl k) hr
theorem m_i2l (K : Cl p e below G) (h : At T m c below) (hx : p.tables.exec = Jvm.exec) (hby : c.code = bs) {x : Int32} (z : Int64) (hd : decode bs pc = .ok (.i2l, 1)) (hz : x.toInt64 = z) (hq : pc + 1 = q) (hr : G (T.setTop (mkF m q Ls (.long z :: S)))) : G (T.setTop (mkF m pc Ls (.int x :: S))) := by subst hq; subst hz; exact K _ _ (fun t k => Jvm.Free.XS.i2l h hx rfl (hb hby hd) rfl k) hr
theorem m_l2i (K : Cl p e below G) (h : At T m c below) (hx : p.tables.exec = Jvm.exec) (hby : c.code = bs) {x : Int64} (z : Int32) (hd : decode bs pc = .ok (.l2i, 1)) (hz : x.toInt32 = z) (hq : pc + 1 = q) (hr : G (T.setTop (mkF m q Ls (.int z :: S)))) : G (T.setTop (mkF m pc Ls (.long x :: S))) := by subst hq; subst hz; exact K _ _ (fun t k => Jvm.Free.XS.l2i h hx rfl (hb hby hd) rfl k) hr
theorem m_i2b (K : Cl p e below G) (h : At T m c below) (hx : p.tables.exec = Jvm.exec) (hby : c.code = bs) {x : Int32} (z : Int32) (hd : decode bs pc = .ok (.i2b, 1)) (hz : x.toInt8.toInt32 = z) (hq : pc + 1 = q) (hr : G (T.setTop (mkF m q Ls (.int z :: S)))) : G (T.setTop (mkF m pc Ls (.int x :: S))) := by subst hq; subst hz; exact K _ _ (fun t k => Jvm.Free.XS.i2b h hx rfl (hb hby hd) rfl k) hr
theorem m_i2s (K : Cl p e below G) (h : At T m c below) (hx : p.tables.exec = Jvm.exec) (hby : c.code = bs) {x : Int32} (z : Int32) (hd : decode bs pc = .ok (.i2s, 1)) (hz : x.toInt16.toInt32 = z) (hq : pc + 1 = q) (hr : G (T.setTop (mkF m q Ls (.int z :: S)))) : G (T.setTop (mkF m pc Ls (.int x :: S))) := by subst hq; subst hz; exact K _ _ (fun t k => Jvm.Free.XS.i2s h hx rfl (hb hby hd) rfl k) hr
theorem m_i2c (K : Cl p e below G) (h : At T m c below) (hx : p.tables.exec = Jvm.exec) (hby : c.code = bs) {x : Int32} (z : Int32) (hd : decode bs pc = .ok (.i2c, 1)) (hz : x.toUInt32.toUInt16.toUInt32.toInt32 = z) (hq : pc + 1 = q) (hr : G (T.setTop (mkF m q Ls (.int z :: S)))) : G (T.setTop (mkF m pc Ls (.int x :: S))) := by subst hq; subst hz; exact K _ _ (fun t k => Jvm.Free.XS.i2c h hx rfl (hb hby hd) rfl k) hr
theorem m_lcmp (K : Cl p e below G) (h : At T m c below) (hx : p.tables.exec = Jvm.exec) (hby : c.code = bs) {x y : Int64} (z : Int32) (hd : decode bs pc = .ok (.lcmp, 1)) (hz : lcmpW x y = z) (hq : pc + 1 = q) (hr : G (T.setTop (mkF m q Ls (.int z :: S)))) : G (T.setTop (mkF m pc Ls (.long y :: .long x :: S))) := by subst hq; subst hz; exact K _ _ (fun t k => Jvm.Free.XS.lcmp h hx rfl (hb hby hd) rfl k) hr
theorem mJ (K : Cl p e below G) (h : At T m c below) (hx : p.tables.exec = Jvm.exec) (hby : c.code = bs) {k : Nat} {i : Int} {x : Int32} (l' : Array Slot) (hd : decode bs pc = .ok (.iinc k i, 3)) (hl : Ls[k]? = some (.val (.int x))) (hl' : storeLocals Ls k (.int (x + Int32.ofInt i)) = some l') (hq : pc + 3 = q) (hr : G (T.setTop (mkF m q l' S))) : G (T.setTop (mkF m pc Ls S)) := by subst hq; exact K _ _ (fun t k => Jvm.Free.XS.iinc h hx rfl (hb hby hd) hl hl' k) hr
theorem m_dup (K : Cl p e below G) (h : At T m c below) (hx : p.tables.exec = Jvm.exec) (hby : c.code = bs) {v : Value} (hd : decode bs pc = .ok (.dup, 1)) (hv : v.category = 1) (hq : pc + 1 = q) (hr : G (T.setTop (mkF m q Ls (v :: v :: S)))) : G (T.setTop (mkF m pc Ls (v :: S))) := by subst hq; exact K _ _ (fun t k => Jvm.Free.XS.dup h hx rfl (hb hby hd) rfl hv k) hr
theorem m_dupX1 (K : Cl p e below G) (h : At T m c below) (hx : p.tables.exec = Jvm.exec) (hby : c.code = bs) {v w : Value} (hd : decode bs pc = .ok (.dup_x1, 1)) (hv : v.category = 1) (hw : w.category = 1) (hq : pc + 1 = q) (hr : G (T.setTop (mkF m q Ls (v :: w :: v :: S)))) : G (T.setTop (mkF m pc Ls (v :: w :: S))) := by subst hq; exact K _ _ (fun t k => Jvm.Free.XS.dupX1 h hx rfl (hb hby hd) rfl hv hw k) hr
theorem m_dup2 (K : Cl p e below G) (h : At T m c below) (hx : p.tables.exec = Jvm.exec) (hby : c.code = bs) {v w : Value} (hd : decode bs pc = .ok (.dup2, 1)) (hv : v.category = 1) (hw : w.category = 1) (hq : pc + 1 = q) (hr : G (T.setTop (mkF m q Ls (v :: w :: v :: w :: S)))) : G (T.setTop (mkF m pc Ls (v :: w :: S))) := by subst hq; refine K _ _ (fun t k => ?_) hr; cases v <;> cases w <;> simp [Value.category] at hv hw <;> (jvm_step h [h.top, hx, hb hby hd, Value.category]; exact k)
theorem m_dup2L (K : Cl p e below G) (h : At T m c below) (hx : p.tables.exec = Jvm.exec) (hby : c.code = bs) {v : Int64} (hd : decode bs pc = .ok (.dup2, 1)) (hq : pc + 1 = q) (hr : G (T.setTop (mkF m q Ls (.long v :: .long v :: S)))) : G (T.setTop (mkF m pc Ls (.long v :: S))) := by subst hq; refine K _ _ (fun t k => ?_) hr; jvm_step h [h.top, hx, hb hby hd, Value.category]; exact k
theorem m_pop (K : Cl p e below G) (h : At T m c below) (hx : p.tables.exec = Jvm.exec) (hby : c.code = bs) {v : Value} (hd : decode bs pc = .ok (.pop, 1)) (hv : v.category = 1) (hq : pc + 1 = q) (hr : G (T.setTop (mkF m q Ls S))) : G (T.setTop (mkF m pc Ls (v :: S))) := by subst hq; exact K _ _ (fun t k => Jvm.Free.XS.pop h hx rfl (hb hby hd) rfl hv k) hr
theorem m_l2d (K : Cl p e below G) (h : At T m c below) (hx : p.tables.exec = Jvm.exec) (hby : c.code = bs) {x : Int64} (v : UInt64) (hd : decode bs pc = .ok (.l2d, 1)) (hv : FP.l2d x = v) (hq : pc + 1 = q) (hr : G (T.setTop (mkF m q Ls (.double v :: S)))) : G (T.setTop (mkF m pc Ls (.long x :: S))) := by subst hq; exact K _ _ (fun t k => Jvm.Free.XS.l2dS h hx rfl (hb hby hd) rfl hv k) hr
theorem m_i2d (K : Cl p e below G) (h : At T m c below) (hx : p.tables.exec = Jvm.exec) (hby : c.code = bs) {x : Int32} (v : UInt64) (hd : decode bs pc = .ok (.i2d, 1)) (hv : FP.i2d x = v) (hq : pc + 1 = q) (hr : G (T.setTop (mkF m q Ls (.double v :: S)))) : G (T.setTop (mkF m pc Ls (.int x :: S))) := by subst hq; exact K _ _ (fun t k => Jvm.Free.XS.i2dS h hx rfl (hb hby hd) rfl hv k) hr
theorem m_dconst0 (K : Cl p e below G) (h : At T m c below) (hx : p.tables.exec = Jvm.exec) (hby : c.code = bs) (v : UInt64) (hd : decode bs pc = .ok (.dconst 0, 1)) (hv : FP.dconst0 = v) (hq : pc + 1 = q) (hr : G (T.setTop (mkF m q Ls (.double v :: S)))) : G (T.setTop (mkF m pc Ls S)) := by subst hq; exact K _ _ (fun t k => Jvm.Free.XS.dconst0 h hx rfl (hb hby hd) hv k) hr
theorem m_dneg (K : Cl p e below G) (h : At T m c below) (hx : p.tables.exec = Jvm.exec) (hby : c.code = bs) {x : UInt64} (v : UInt64) (hd : decode bs pc = .ok (.dneg, 1)) (hv : FP.dneg x = v) (hq : pc + 1 = q) (hr : G (T.setTop (mkF m q Ls (.double v :: S)))) : G (T.setTop (mkF m pc Ls (.double x :: S))) := by subst hq; exact K _ _ (fun t k => Jvm.Free.XS.dnegS h hx rfl (hb hby hd) rfl hv k) hr
theorem m_dcmp (K : Cl p e below G) (h : At T m c below) (hx : p.tables.exec = Jvm.exec) (hby : c.code = bs) {o : CmpOp} {x y : UInt64} (v : Int32) (hd : decode bs pc = .ok (.dcmp o, 1)) (hv : cmpValue (FP.dcmp x y) o = v) (hq : pc + 1 = q) (hr : G (T.setTop (mkF m q Ls (.int v :: S)))) : G (T.setTop (mkF m pc Ls (.double y :: .double x :: S))) := by subst hq; exact K _ _ (fun t k => Jvm.Free.XS.dcmpS h hx rfl (hb hby hd) rfl hv k) hr
theorem m_dadd (K : Cl p e below G) (h : At T m c below) (hx : p.tables.exec = Jvm.exec) (hby : c.code = bs) {x y : UInt64} (v : UInt64) (hd : decode bs pc = .ok (.dadd, 1)) (hn : Jvm.Free.Fl.NoNaN64 (FP.dadd x y)) (hv : FP.dadd x y = v) (hq : pc + 1 = q) (hr : G (T.setTop (mkF m q Ls (.double v :: S)))) : G (T.setTop (mkF m pc Ls (.double y :: .double x :: S))) := by subst hq; exact K _ _ (fun t k => Jvm.Free.XS.daddS h hx rfl (hb hby hd) rfl hn hv k) hr
theorem m_dsub (K : Cl p e below G) (h : At T m c below) (hx : p.tables.exec = Jvm.exec) (hby : c.code = bs) {x y : UInt64} (v : UInt64) (hd : decode bs pc = .ok (.dsub, 1)) (hn : Jvm.Free.Fl.NoNaN64 (FP.dsub x y)) (hv : FP.dsub x y = v) (hq : pc + 1 = q) (hr : G (T.setTop (mkF m q Ls (.double v :: S)))) : G (T.setTop (mkF m pc Ls (.double y :: .double x :: S))) := by subst hq; exact K _ _ (fun t k => Jvm.Free.XS.dsubS h hx rfl (hb hby hd) rfl hn hv k) hr
theorem m_dmul (K : Cl p e below G) (h : At T m c below) (hx : p.tables.exec = Jvm.exec) (hby : c.code = bs) {x y : UInt64} (v : UInt64) (hd : decode bs pc = .ok (.dmul, 1)) (hn : Jvm.Free.Fl.NoNaN64 (FP.dmul x y)) (hv : FP.dmul x y = v) (hq : pc + 1 = q) (hr : G (T.setTop (mkF m q Ls (.double v :: S)))) : G (T.setTop (mkF m pc Ls (.double y :: .double x :: S))) := by subst hq; exact K _ _ (fun t k => Jvm.Free.XS.dmulS h hx rfl (hb hby hd) rfl hn hv k) hr
theorem m_ddiv (K : Cl p e below G) (h : At T m c below) (hx : p.tables.exec = Jvm.exec) (hby : c.code = bs) {x y : UInt64} (v : UInt64) (hd : decode bs pc = .ok (.ddiv, 1)) (hn : Jvm.Free.Fl.NoNaN64 (FP.ddiv x y)) (hv : FP.ddiv x y = v) (hq : pc + 1 = q) (hr : G (T.setTop (mkF m q Ls (.double v :: S)))) : G (T.setTop (mkF m pc Ls (.double y :: .double x :: S))) := by subst hq; exact K _ _ (fun t k => Jvm.Free.XS.ddivS h hx rfl (hb hby hd) rfl hn hv k) hr
theorem m_goto (K : Cl p e below G) (h : At T m c below) (hx : p.tables.exec = Jvm.exec) (hby : c.code = bs)  {o : Int} (hd : decode bs pc = .ok (.goto o, 3)) (ho : 0 ≤ (pc : Int) + o) (hq : ((pc : Int) + o).toNat = q) (hr : G (T.setTop (mkF m q Ls S))) : G (T.setTop (mkF m pc Ls S)) := by exact K _ _ (fun t k => Jvm.Free.XS.goto h hx rfl rfl (hb hby hd) ho hq k) hr
theorem m_ifY (K : Cl p e below G) (h : At T m c below) (hx : p.tables.exec = Jvm.exec) (hby : c.code = bs) {cd : ClassFile.Cond} {x : Int32} {o : Int} (hd : decode bs pc = .ok (.ifCond cd o, 3)) (hc : ifCond.holds cd x = true) (ho : 0 ≤ (pc : Int) + o) (hq : ((pc : Int) + o).toNat = q) (hr : G (T.setTop (mkF m q Ls S))) : G (T.setTop (mkF m pc Ls (.int x :: S))) := by exact K _ _ (fun t k => Jvm.Free.XS.ifYes h hx rfl rfl (hb hby hd) rfl hc ho hq k) hr
theorem m_icmpY (K : Cl p e below G) (h : At T m c below) (hx : p.tables.exec = Jvm.exec) (hby : c.code = bs) {cd : ClassFile.Cond} {x y : Int32} {o : Int} (hd : decode bs pc = .ok (.if_icmp cd o, 3)) (hc : if_icmp.holds cd x y = true) (ho : 0 ≤ (pc : Int) + o) (hq : ((pc : Int) + o).toNat = q) (hr : G (T.setTop (mkF m q Ls S))) : G (T.setTop (mkF m pc Ls (.int y :: .int x :: S))) := by exact K _ _ (fun t k => Jvm.Free.XS.icmpYes h hx rfl rfl (hb hby hd) rfl hc ho hq k) hr
theorem m_nullY (K : Cl p e below G) (h : At T m c below) (hx : p.tables.exec = Jvm.exec) (hby : c.code = bs)  {o : Int} (hd : decode bs pc = .ok (.ifnull o, 3)) (ho : 0 ≤ (pc : Int) + o) (hq : ((pc : Int) + o).toNat = q) (hr : G (T.setTop (mkF m q Ls S))) : G (T.setTop (mkF m pc Ls (.null :: S))) := by exact K _ _ (fun t k => Jvm.Free.XS.ifnullYes h hx rfl rfl (hb hby hd) rfl ho hq k) hr
theorem m_nnY (K : Cl p e below G) (h : At T m c below) (hx : p.tables.exec = Jvm.exec) (hby : c.code = bs) {a : Addr} {o : Int} (hd : decode bs pc = .ok (.ifnonnull o, 3)) (ho : 0 ≤ (pc : Int) + o) (hq : ((pc : Int) + o).toNat = q) (hr : G (T.setTop (mkF m q Ls S))) : G (T.setTop (mkF m pc Ls (.ref a :: S))) := by exact K _ _ (fun t k => Jvm.Free.XS.ifnonnullYes h hx rfl rfl (hb hby hd) rfl ho hq k) hr
theorem m_ifN (K : Cl p e below G) (h : At T m c below) (hx : p.tables.exec = Jvm.exec) (hby : c.code = bs) {cd : ClassFile.Cond} {o : Int} {x : Int32} (hd : decode bs pc = .ok (.ifCond cd o, 3)) (hc : ifCond.holds cd x = false) (hq : pc + 3 = q) (hr : G (T.setTop (mkF m q Ls S))) : G (T.setTop (mkF m pc Ls (.int x :: S))) := by subst hq; exact K _ _ (fun t k => Jvm.Free.XS.ifNo h hx rfl (hb hby hd) rfl hc k) hr
theorem m_icmpN (K : Cl p e below G) (h : At T m c below) (hx : p.tables.exec = Jvm.exec) (hby : c.code = bs) {cd : ClassFile.Cond} {o : Int} {x y : Int32} (hd : decode bs pc = .ok (.if_icmp cd o, 3)) (hc : if_icmp.holds cd x y = false) (hq : pc + 3 = q) (hr : G (T.setTop (mkF m q Ls S))) : G (T.setTop (mkF m pc Ls (.int y :: .int x :: S))) := by subst hq; exact K _ _ (fun t k => Jvm.Free.XS.icmpNo h hx rfl (hb hby hd) rfl hc k) hr
theorem m_nullN (K : Cl p e below G) (h : At T m c below) (hx : p.tables.exec = Jvm.exec) (hby : c.code = bs) {o : Int} {a : Addr} (hd : decode bs pc = .ok (.ifnull o, 3)) (hq : pc + 3 = q) (hr : G (T.setTop (mkF m q Ls S))) : G (T.setTop (mkF m pc Ls (.ref a :: S))) := by subst hq; exact K _ _ (fun t k => Jvm.Free.XS.ifnullNo h hx rfl (hb hby hd) rfl k) hr
theorem m_nnN (K : Cl p e below G) (h : At T m c below) (hx : p.tables.exec = Jvm.exec) (hby : c.code = bs) {o : Int} (hd : decode bs pc = .ok (.ifnonnull o, 3)) (hq : pc + 3 = q) (hr : G (T.setTop (mkF m q Ls S))) : G (T.setTop (mkF m pc Ls (.null :: S))) := by subst hq; exact K _ _ (fun t k => Jvm.Free.XS.ifnonnullNo h hx rfl (hb hby hd) rfl k) hr
theorem m_acmp (K : Cl p e below G) (X : Stand p l e R s m args below meth c T locs cells slots) (hx : p.tables.exec = Jvm.exec) (hby : c.code = bs) {cd : ACond} {x y : Value} {o : Int} (same : Bool) (hd : decode bs pc = .ok (.if_acmp cd o, 3)) (h1 : x.isRef = true) (h2 : y.isRef = true) (hs : decide (x = y) = same) (ho : 0 ≤ (pc : Int) + o) (hq : q = if acV cd same = true then ((pc : Int) + o).toNat else pc + 3) (hr : G (T.setTop (mkF m q Ls S))) : G (T.setTop (mkF m pc Ls (y :: x :: S))) := K _ _ (fun t k => Jvm.RoadKit.acmp (g := mkF m pc Ls (y :: x :: S)) X hx rfl h1 h2 rfl (hb hby hd) rfl hs ho hq k) hr
theorem m_ldc (K : Cl p e below G) (X : Stand p l e R s m args below meth c T locs cells slots) (hx : p.tables.exec = Jvm.exec) (hby : c.code = bs) (hZ : Z.Warmed39 s.vm) {own : String} {i : Nat} {v : Int32} (hown : s.vm.findClass own = some m.cls) (w : (Jvm.Cond.constant own i v).before a0 Z = true) (hd : decode bs pc = .ok (.ldc i, 2)) (hq : pc + 2 = q) (hr : G (T.setTop (mkF m q Ls (.int v :: S)))) : G (T.setTop (mkF m pc Ls S)) := by subst hq; exact K _ _ (fun t k => X.ldcInt hx hown (mvT hZ w) (g := mkF m pc Ls S) rfl (hb hby hd) _ k) hr
theorem m_ldcw (K : Cl p e below G) (X : Stand p l e R s m args below meth c T locs cells slots) (hx : p.tables.exec = Jvm.exec) (hby : c.code = bs) (hZ : Z.Warmed39 s.vm) {own : String} {i : Nat} {v : Int32} (hown : s.vm.findClass own = some m.cls) (w : (Jvm.Cond.constant own i v).before a0 Z = true) (hd : decode bs pc = .ok (.ldc_w i, 3)) (hq : pc + 3 = q) (hr : G (T.setTop (mkF m q Ls (.int v :: S)))) : G (T.setTop (mkF m pc Ls S)) := by subst hq; exact K _ _ (fun t k => X.ldcwInt hx hown (mvT hZ w) (g := mkF m pc Ls S) rfl (hb hby hd) _ k) hr
theorem m_ldc2 (K : Cl p e below G) (X : Stand p l e R s m args below meth c T locs cells slots) (hx : p.tables.exec = Jvm.exec) (hby : c.code = bs) (hZ : Z.Warmed39 s.vm) {own : String} {i : Nat} {v : Int64} (hown : s.vm.findClass own = some m.cls) (w : (Jvm.Cond.constantLong own i v).before a0 Z = true) (hd : decode bs pc = .ok (.ldc2_w i, 3)) (hq : pc + 3 = q) (hr : G (T.setTop (mkF m q Ls (.long v :: S)))) : G (T.setTop (mkF m pc Ls S)) := by subst hq; exact K _ _ (fun t k => X.ldc2Long hx hown (mvT hZ w) (g := mkF m pc Ls S) rfl (hb hby hd) _ k) hr
theorem m_ldc2D (K : Cl p e below G) (X : Stand p l e R s m args below meth c T locs cells slots) (hx : p.tables.exec = Jvm.exec) (hby : c.code = bs) (hZ : Z.Warmed39 s.vm) {own : String} {i : Nat} {v : UInt64} (hown : s.vm.findClass own = some m.cls) (w : (Jvm.Cond.constantDouble own i v).before a0 Z = true) (hd : decode bs pc = .ok (.ldc2_w i, 3)) (hq : pc + 3 = q) (hr : G (T.setTop (mkF m q Ls (.double v :: S)))) : G (T.setTop (mkF m pc Ls S)) := by subst hq; exact K _ _ (fun t k => X.ldc2DoubleC hx hown (mvT hZ w) (g := mkF m pc Ls S) rfl (hb hby hd) _ k) hr
theorem k_getF (K : Cl p e below G) (X : Stand p l e R s m args below meth c T locs cells slots) (hx : p.tables.exec = Jvm.exec) (hby : c.code = bs) (hZ : Z.Warmed39 s.vm) {own R0 O n d host : String} {i : Nat} (hown : s.vm.findClass own = some m.cls) (w : (Jvm.Cond.fieldLink own i R0 n d).before a0 Z = true ∨ (Jvm.Cond.fieldLinkNest own i R0 n d host).before a0 Z = true) (via : Via Z R0 O n d) (eT : T.heap = h) {a : Addr} {v : Value} (F : Fld Z h a O n d v) (hd : decode bs pc = .ok (.getfield i, 3)) (hq : pc + 3 = q) (k : ∀ T', Stand p l e R s m args below meth c T' locs cells slots → T'.heap = h → G (T'.setTop (mkF m q Ls (v :: S)))) : G (T.setTop (mkF m pc Ls (.ref a :: S))) := by
  subst hq
  obtain ⟨T', X', e', st⟩ := getF X hx hZ hown w via eT F (g := mkF m pc Ls (.ref a :: S)) rfl rfl (hb hby hd)
  exact K _ _ st (k T' X' e')
theorem k_getS (K : Cl p e below G) (X : Stand p l e R s m args below meth c T locs cells slots) (hx : p.tables.exec = Jvm.exec) (hby : c.code = bs) (hZ : Z.Warmed39 s.vm) {own R0 O n d host : String} {i : Nat} (hown : s.vm.findClass own = some m.cls) (w : (Jvm.Cond.fieldLink own i R0 n d).before a0 Z = true ∨ (Jvm.Cond.fieldLinkNest own i R0 n d host).before a0 Z = true) (via : Via Z R0 O n d) (eT : T.heap = h) {v : Value} (F : Sta Z h O n d v) (hd : decode bs pc = .ok (.getstatic i, 3)) (hq : pc + 3 = q) (k : ∀ T', Stand p l e R s m args below meth c T' locs cells slots → T'.heap = h → G (T'.setTop (mkF m q Ls (v :: S)))) : G (T.setTop (mkF m pc Ls S)) := by
  subst hq
  obtain ⟨T', X', e', st⟩ := getS2 X hx hZ hown w via eT F (g := mkF m pc Ls S) rfl (hb hby hd)
  exact K _ _ st (k T' X' e')
theorem k_putF (K : Cl p e below G) (X : Stand p l e R s m args below meth c T locs cells slots) (hx : p.tables.exec = Jvm.exec) (hby : c.code = bs) (hZ : Z.Warmed39 s.vm) {own R0 O n d host C : String} {i kk : Nat} {ty : FieldType} (hown : s.vm.findClass own = some m.cls) (w : (Jvm.Cond.fieldLink own i R0 n d).before a0 Z = true ∨ (Jvm.Cond.fieldLinkNest own i R0 n d host).before a0 Z = true) (via : Via Z R0 O n d) (eT : T.heap = h) {a : Addr} {v old : Value} (F : Fld Z h a O n d old) (E : Exa Z h a C) (L : (Jvm.Cond.lays C O n d).before a0 Z = true ∨ ((Jvm.Cond.laysFinal C O n d).before a0 Z = true ∧ own = O ∧ meth.name = "<init>")) (wi : (Jvm.Cond.instantiable C kk).before a0 Z = true) (hty : parseFieldDescriptor d = some ty) (hn : narrow ty v = v) (hf : fits ty v = true) (hd : decode bs pc = .ok (.putfield i, 3)) (hq : pc + 3 = q)
    (k : ∀ T' h', Stand p l e R s m args below meth c T' (locs ++ [⟨a, Jvm.RoadKit.slotOf Z O n d⟩]) cells slots → T'.heap = h' → Wr h h' a (Jvm.RoadKit.slotOf Z O n d) v → G (T'.setTop (mkF m q Ls S))) : G (T.setTop (mkF m pc Ls (v :: .ref a :: S))) := by
  subst hq
  obtain ⟨T', h', X', e', W', st⟩ := putF X hx hZ hown w via eT F E L wi hty hn hf (g := mkF m pc Ls (v :: .ref a :: S)) rfl rfl (hb hby hd)
  exact K _ _ st (k T' h' X' e' W')
theorem k_newO (K : Cl p e below G) (X : Stand p l e R s m args below meth c T locs cells slots) (hx : p.tables.exec = Jvm.exec) (hby : c.code = bs) (hZ : Z.Warmed39 s.vm) {own C : String} {i n : Nat} (hown : s.vm.findClass own = some m.cls) (w : (Jvm.Cond.classLink own i C).before a0 Z = true) (wi : (Jvm.Cond.instantiable C n).before a0 Z = true) (wz : (Jvm.Cond.initialized C).before a0 Z = true) (eT : T.heap = h) (hd : decode bs pc = .ok (.new i, 3)) (hq : pc + 3 = q) (hc : cells + 1 ≤ R.cells) (hl : slots + n ≤ R.slots)
    (k : ∀ T' h' b, Stand p l e R s m args below meth c T' locs (cells + 1) (slots + n) → T'.heap = h' → Ext h h' → b = h.size → Exa Z h' b C → (∀ {O nm d : String} {ty : FieldType}, Laid Z a0 C O nm d → parseFieldDescriptor d = some ty → Fld Z h' b O nm d (defaultValue ty)) → G (T'.setTop (mkF m q Ls (.ref b :: S)))) : G (T.setTop (mkF m pc Ls S)) := by
  subst hq
  obtain ⟨T', h', X', e', E', A', D', -, st⟩ := newO X hx hZ hown w wi wz eT (g := mkF m pc Ls S) rfl (hb hby hd) hc hl
  exact K _ _ st (k T' h' _ X' e' E' rfl A' D')
theorem k_initO (K : Cl p e below G) (X : Stand p l e R s m args below meth c T locs cells slots) (hx : p.tables.exec = Jvm.exec) (hby : c.code = bs) (hZ : Z.Warmed39 s.vm) {own : String} {i : Nat} (hown : s.vm.findClass own = some m.cls) (w1 : (Jvm.Cond.methodLink own i ⟨"java/lang/Object", "<init>", "()V"⟩).before a0 Z = true) (w2 : (Jvm.Cond.instanceMethod ⟨"java/lang/Object", "<init>", "()V"⟩).before a0 Z = true) (w3 : (Jvm.Cond.code ⟨"java/lang/Object", "<init>", "()V"⟩ object_method_1_code 1 none).before a0 Z = true) (eT : T.heap = h) {a : Addr} (hd : decode bs pc = .ok (.invokespecial i, 3)) (hsz : Ls.size = c.maxLocals) (hq : pc + 3 = q) (hf : 1 ≤ R.frames) (hlo : (S.map fun v => v.category).sum + 12 ≤ R.locals)
    (k : ∀ T', Stand p l e R s m args below meth c T' locs cells slots → T'.heap = h → G (T'.setTop (mkF m q Ls S))) : G (T.setTop (mkF m pc Ls (.ref a :: S))) := by
  subst hq
  obtain ⟨T', X', e', st⟩ := initO X hx hZ hown w1 w2 w3 eT (g := mkF m pc Ls (.ref a :: S)) rfl hsz rfl (hb hby hd) hf (W := (S.map fun v => v.category).sum) (by show 2 * 0 + _ ≤ _; exact Nat.le_of_eq (Nat.zero_add _)) hlo
  exact K _ _ st (k T' X' e')
theorem k_cast (K : Cl p e below G) (X : Stand p l e R s m args below meth c T locs cells slots) (hx : p.tables.exec = Jvm.exec) (hby : c.code = bs) (hZ : Z.Warmed39 s.vm) {own C : String} {i : Nat} (hown : s.vm.findClass own = some m.cls) (w : (Jvm.Cond.classLink own i C).before a0 Z = true) (eT : T.heap = h) {a : Addr} (I : Ins Z h a C true) (hd : decode bs pc = .ok (.checkcast i, 3)) (hq : pc + 3 = q) (k : ∀ T', Stand p l e R s m args below meth c T' locs cells slots → T'.heap = h → G (T'.setTop (mkF m q Ls (.ref a :: S)))) : G (T.setTop (mkF m pc Ls (.ref a :: S))) := by
  subst hq
  obtain ⟨T', X', e', st⟩ := castY X hx hZ hown w eT I (g := mkF m pc Ls (.ref a :: S)) rfl rfl (hb hby hd)
  exact K _ _ st (k T' X' e')
def Con (l : Launch) (Z : State) (y : MethodName) (bytes : ByteArray) (maxL : Nat) (ret : Option FieldType) (rm : Room) (ws : List Jvm.Cond) (as' : Array Value) (h : Heap) (Q : PQ) : Prop :=
  MetFree l y (head1 (Jvm.Cond.code y bytes maxL ret :: ws) rm) (fun a U => a = as' ∧ Z.Warmed39 U.vm ∧ U.heap = h) (fun _ _ _ _ _ => True) (fun _ U o U' => ∃ v L, o = .returned v ∧ Q v U'.heap L ∧ FrameEnd U o U' L rm.cells rm.slots)
theorem Con.of {y : MethodName} {bytes : ByteArray} {maxL : Nat} {ret : Option FieldType} {rm : Room} {ws : List Jvm.Cond} {as' : Array Value} {Q : PQ} (hpl : plainFor y = true) (Ls : Array Slot) (hef : ∀ m, entryFrame m as' maxL = mkF m 0 Ls [])
    (body : ∀ p e s m below meth c s₁, Cl p e below (Go p e below s rm.cells rm.slots Q) → p.tables.exec = Jvm.exec → c.code = bytes → c.maxLocals = maxL → s.vm.findClass y.cls = some m.cls → meth.name = y.name → meth.sig.returnType = ret → meth.locks = false → Z.Warmed39 s.vm → Stand p l e rm s m as' below meth c s₁ [] 0 0 → s₁.heap = h →
      Go p e below s rm.cells rm.slots Q (s₁.setTop (mkF m 0 Ls []))) : Con l Z y bytes maxL ret rm ws as' h Q := by
  refine MetFree.of_bodySF hpl hisR ?_
  intro p e s m args below meth c s₁ Bd hml0 hP hK
  obtain ⟨rfl, hZ, hh⟩ := hP
  have r := body p e s m below meth c s₁ Go.cl Bd.exec Bd.bytes hml0 (findClass_of_methodNamed Bd.named) (name_of_methodNamed Bd.named Bd.method).1 Bd.returns Bd.notSynchronized hZ (Stand.of_body Bd) (by rw [← hh, Bd.state]; rfl)
  rw [← hef m] at r
  exact r
theorem Con.back {y : MethodName} {bytes : ByteArray} {maxL : Nat} {ret : Option FieldType} {rm : Room} {as' : Array Value} {Q : PQ} {len W : Nat} (K : Con l Z y bytes maxL ret rm [] as' h Q)
    (hZ : Z.Warmed39 s.vm) (wc : (Jvm.Cond.code y bytes maxL ret).before a0 Z = true) (wz : (Jvm.Cond.initialized y.cls).before a0 Z = true) (hf : rm.frames + 1 ≤ R.frames) (hl : W + (maxL + 11) + rm.locals ≤ R.locals) :
    Back l R p e below s args y len W (fun A a => a = as' ∧ A.U.heap = h ∧ A.cells + rm.cells ≤ R.cells ∧ A.slots + rm.slots ≤ R.slots)
      (fun A _ v B => ∃ L, Q v B.U.heap L ∧ B.locs = A.locs ++ L ∧ B.cells = A.cells + rm.cells ∧ B.slots = A.slots + rm.slots) := backOf K hZ wc wz hf hl
theorem k_callS (K : Cl p e below G) (X : Stand p l e R s m args below meth c T locs cells slots) (hx : p.tables.exec = Jvm.exec) (hby : c.code = bs) (hZ : Z.Warmed39 s.vm) {own : String} {i : Nat} {y : MethodName} {bytes : ByteArray} {maxL : Nat} {ret : Option FieldType} {rm : Room} {Q : PQ} {as' : Array Value} {ps : List FieldType} {r : Option FieldType} (argsL rest : List Value) (hown : s.vm.findClass own = some m.cls) (w1 : (Jvm.Cond.methodLink own i y).before a0 Z = true) (w2 : (Jvm.Cond.static y).before a0 Z = true) (w3 : (Jvm.Cond.initialized y.cls).before a0 Z = true) (w4 : (Jvm.Cond.code y bytes maxL ret).before a0 Z = true)
    (C : Con l Z y bytes maxL ret rm [] as' h Q) (eT : T.heap = h) (has : argsL.toArray = as') (hs : S = argsL.reverse ++ rest) (hps : parseMethodDescriptor y.desc = some ⟨ps, r⟩) (hl : argsL.length = ps.length) (hd : decode bs pc = .ok (.invokestatic i, 3)) (hsz : Ls.size = c.maxLocals) (hq : pc + 3 = q) (hy : y.cls ≠ "java/lang/invoke/MethodHandle" ∧ y.cls ≠ "java/lang/invoke/VarHandle") (hf : rm.frames + 1 ≤ R.frames) (hlo : (rest.map fun v => v.category).sum + (maxL + 11) + rm.locals ≤ R.locals) (hc : cells + rm.cells ≤ R.cells) (hn : slots + rm.slots ≤ R.slots)
    (k : ∀ v T' L, Stand p l e R s m args below meth c T' (locs ++ L) (cells + rm.cells) (slots + rm.slots) → Q v T'.heap L → G (T'.setTop (mkF m q Ls (v.toList ++ rest)))) : G (T.setTop (mkF m pc Ls S)) := by
  subst has hs hq
  obtain ⟨v, _, ⟨T', L', k', n'⟩, -, X', ⟨Lc, hQ, l1, y1, z1⟩, st⟩ := Jvm.LawKit.callS X hx (y := y) hown (mvT hZ w1) (mvT hZ w2) (mvT hZ w3) (mvT hZ w4) hy (C.back (W := (rest.map fun v => v.category).sum) hZ w4 w3 hf hlo) (g := mkF m pc Ls (argsL.reverse ++ rest)) rfl hsz (argsL := argsL) (rest := rest) (lenOf hps hl) rfl (by show 2 * 0 + _ ≤ _; exact Nat.le_of_eq (Nat.zero_add _)) (hb hby hd) (fun _ _ => ⟨rfl, eT, hc, hn⟩)
  dsimp only at X' l1 y1 z1 st hQ
  subst l1 y1 z1
  exact K _ _ st (k v T' Lc X' hQ)
theorem k_callP (K : Cl p e below G) (X : Stand p l e R s m args below meth c T locs cells slots) (hx : p.tables.exec = Jvm.exec) (hby : c.code = bs) (hZ : Z.Warmed39 s.vm) {own : String} {i : Nat} {y : MethodName} {bytes : ByteArray} {maxL : Nat} {rm : Room} {Q : PQ} {as' : Array Value} {ps : List FieldType} {r : Option FieldType} (a : Addr) (argsL rest : List Value) (hown : s.vm.findClass own = some m.cls) (w1 : (Jvm.Cond.methodLink own i y).before a0 Z = true) (w2 : (Jvm.Cond.instanceMethod y).before a0 Z = true) (w3 : (Jvm.Cond.initialized y.cls).before a0 Z = true) (w4 : (Jvm.Cond.code y bytes maxL none).before a0 Z = true) (hy1 : y.name = "<init>")
    (C : Con l Z y bytes maxL none rm [] as' h Q) (eT : T.heap = h) (has : (.ref a :: argsL).toArray = as') (hs : S = argsL.reverse ++ .ref a :: rest) (hps : parseMethodDescriptor y.desc = some ⟨ps, r⟩) (hl : argsL.length = ps.length) (hd : decode bs pc = .ok (.invokespecial i, 3)) (hsz : Ls.size = c.maxLocals) (hq : pc + 3 = q) (hy : y.cls ≠ "java/lang/invoke/MethodHandle" ∧ y.cls ≠ "java/lang/invoke/VarHandle") (hf : rm.frames + 1 ≤ R.frames) (hlo : (rest.map fun v => v.category).sum + (maxL + 11) + rm.locals ≤ R.locals) (hc : cells + rm.cells ≤ R.cells) (hn : slots + rm.slots ≤ R.slots)
    (k : ∀ v T' L, Stand p l e R s m args below meth c T' (locs ++ L) (cells + rm.cells) (slots + rm.slots) → Q v T'.heap L → G (T'.setTop (mkF m q Ls (v.toList ++ rest)))) : G (T.setTop (mkF m pc Ls S)) := by
  subst has hs hq
  obtain ⟨v, _, ⟨T', L', k', n'⟩, -, X', ⟨Lc, hQ, l1, y1, z1⟩, st⟩ := X.specialBack hx (y := y) hy1 hown (mvT hZ w1) (mvT hZ w2) (mvT hZ w4) hy (C.back (W := (rest.map fun v => v.category).sum) hZ w4 w3 hf hlo) (g := mkF m pc Ls (argsL.reverse ++ .ref a :: rest)) rfl hsz (Steps.refl _) (a := a) (argsL := argsL) (rest := rest) (lenOf hps hl) rfl (by show 2 * 0 + _ ≤ _; exact Nat.le_of_eq (Nat.zero_add _)) (hb hby hd) (fun _ _ => ⟨rfl, eT, hc, hn⟩)
  dsimp only at X' l1 y1 z1 st hQ
  subst l1 y1 z1
  exact K _ _ (fun t k => st.trans k) (k v T' Lc X' hQ)
theorem k_callV (K : Cl p e below G) (X : Stand p l e R s m args below meth c T locs cells slots) (hx : p.tables.exec = Jvm.exec) (hby : c.code = bs) (hZ : Z.Warmed39 s.vm) {own : String} {i : Nat} {y : MethodName} {bytes : ByteArray} {maxL : Nat} {ret : Option FieldType} {rm : Room} {Q : PQ} {as' : Array Value} {ps : List FieldType} {r : Option FieldType} {z : MethodName} {C0 : String} (a : Addr) (argsL rest : List Value) (hown : s.vm.findClass own = some m.cls) (w1 : (Jvm.Cond.methodLink own i y).before a0 Z = true) (w2 : (Jvm.Cond.declares y).before a0 Z = true) (hnf : NotFace s y) (w5 : (Jvm.Cond.selects C0 y z).before a0 Z = true) (w6 : (Jvm.Cond.instanceMethod z).before a0 Z = true) (w3 : (Jvm.Cond.initialized z.cls).before a0 Z = true) (w4 : (Jvm.Cond.code z bytes maxL ret).before a0 Z = true)
    (C : Con l Z z bytes maxL ret rm [] as' h Q) (eT : T.heap = h) (E : Exa Z h a C0) (has : (.ref a :: argsL).toArray = as') (hs : S = argsL.reverse ++ .ref a :: rest) (hps : parseMethodDescriptor y.desc = some ⟨ps, r⟩) (hl : argsL.length = ps.length) (hd : decode bs pc = .ok (.invokevirtual i, 3)) (hsz : Ls.size = c.maxLocals) (hq : pc + 3 = q) (hy : y.cls ≠ "java/lang/invoke/MethodHandle" ∧ y.cls ≠ "java/lang/invoke/VarHandle") (hf : rm.frames + 1 ≤ R.frames) (hlo : (rest.map fun v => v.category).sum + (maxL + 11) + rm.locals ≤ R.locals) (hc : cells + rm.cells ≤ R.cells) (hn : slots + rm.slots ≤ R.slots)
    (k : ∀ v T' L, Stand p l e R s m args below meth c T' (locs ++ L) (cells + rm.cells) (slots + rm.slots) → Q v T'.heap L → G (T'.setTop (mkF m q Ls (v.toList ++ rest)))) : G (T.setTop (mkF m pc Ls S)) := by
  subst has hs hq
  obtain ⟨cq, kq, qa, qb, qc⟩ := isOf hZ eT E
  obtain ⟨v, _, ⟨T', L', k', n'⟩, -, X', ⟨Lc, hQ, l1, y1, z1⟩, st⟩ := X.virtualBack hx (y := y) (z := z) hown (mvT hZ w1) (mvT hZ w2) hnf (mvT hZ w5) (mvT hZ w6) hy (C.back (W := (rest.map fun v => v.category).sum) hZ w4 w3 hf hlo) qa qc (g := mkF m pc Ls (argsL.reverse ++ .ref a :: rest)) rfl hsz (Steps.refl _) (argsL := argsL) (rest := rest) (lenOf hps hl) rfl (by show 2 * 0 + _ ≤ _; exact Nat.le_of_eq (Nat.zero_add _)) (hb hby hd) (fun _ _ => ⟨rfl, eT, hc, hn⟩)
  dsimp only at X' l1 y1 z1 st hQ
  subst l1 y1 z1
  exact K _ _ (fun t k => st.trans k) (k v T' Lc X' hQ)
theorem k_callR (K : Cl p e below G) (X : Stand p l e R s m args below meth c T locs cells slots) (hx : p.tables.exec = Jvm.exec) (hby : c.code = bs) (hZ : Z.Warmed39 s.vm) {own : String} {i : Nat} {y : MethodName} {bytes : ByteArray} {maxL : Nat} {ret : Option FieldType} {rm : Room} {Q : PQ} {as' : Array Value} {ps : List FieldType} {r : Option FieldType} (a : Addr) (argsL rest : List Value) (hown : s.vm.findClass own = some m.cls) (w1 : (Jvm.Cond.methodLink own i y).before a0 Z = true) (w2 : (Jvm.Cond.instanceMethod y).before a0 Z = true) (w5 : (Jvm.Cond.selects y.cls y y).before a0 Z = true) (w6 : (Jvm.Cond.privateMethod y).before a0 Z = true) (w3 : (Jvm.Cond.initialized y.cls).before a0 Z = true) (w4 : (Jvm.Cond.code y bytes maxL ret).before a0 Z = true)
    (C : Con l Z y bytes maxL ret rm [] as' h Q) (eT : T.heap = h) {C0 : String} (E : Exa Z h a C0) (has : (.ref a :: argsL).toArray = as') (hs : S = argsL.reverse ++ .ref a :: rest) (hps : parseMethodDescriptor y.desc = some ⟨ps, r⟩) (hl : argsL.length = ps.length) (hd : decode bs pc = .ok (.invokevirtual i, 3)) (hsz : Ls.size = c.maxLocals) (hq : pc + 3 = q) (hy : y.cls ≠ "java/lang/invoke/MethodHandle" ∧ y.cls ≠ "java/lang/invoke/VarHandle") (hf : rm.frames + 1 ≤ R.frames) (hlo : (rest.map fun v => v.category).sum + (maxL + 11) + rm.locals ≤ R.locals) (hc : cells + rm.cells ≤ R.cells) (hn : slots + rm.slots ≤ R.slots)
    (k : ∀ v T' L, Stand p l e R s m args below meth c T' (locs ++ L) (cells + rm.cells) (slots + rm.slots) → Q v T'.heap L → G (T'.setTop (mkF m q Ls (v.toList ++ rest)))) : G (T.setTop (mkF m pc Ls S)) := by
  subst has hs hq
  obtain ⟨cq, qa, qc⟩ := E.cell
  obtain ⟨v, _, ⟨T', L', k', n'⟩, -, X', ⟨Lc, hQ, l1, y1, z1⟩, st⟩ := X.privateBack hx (y := y) hown (mvT hZ w1) (mvT hZ w2) (mvT hZ w5) (Cond.privateMethod_at (args := #[]) (mvP hZ w6)) (mvT hZ w4) hy (C.back (W := (rest.map fun v => v.category).sum) hZ w4 w3 hf hlo) (g := mkF m pc Ls (argsL.reverse ++ .ref a :: rest)) rfl hsz (Steps.refl _) (a := a) (by rw [eT]; exact qa) qc (argsL := argsL) (rest := rest) (lenOf hps hl) rfl (by show 2 * 0 + _ ≤ _; exact Nat.le_of_eq (Nat.zero_add _)) (hb hby hd) (fun _ _ => ⟨rfl, eT, hc, hn⟩)
  dsimp only at X' l1 y1 z1 st hQ
  subst l1 y1 z1
  exact K _ _ (fun t k => st.trans k) (k v T' Lc X' hQ)
theorem k_callSU (K : Cl p e below G) (X : Stand p l e R s m args below meth c T locs cells slots) (hx : p.tables.exec = Jvm.exec) (hby : c.code = bs) (hZ : Z.Warmed39 s.vm) {own : String} {i : Nat} {y : MethodName} {bytes : ByteArray} {maxL : Nat} {ret : Option FieldType} {rm : Room} {Q : PQ} {as' : Array Value} {ps : List FieldType} {r : Option FieldType} {ow : String} (argsL rest : List Value) (hown : s.vm.findClass own = some m.cls) (w1 : (Jvm.Cond.methodLink own i y).before a0 Z = true) (w5 : (Jvm.Cond.sameMethod y.cls ow y.name y.desc).before a0 Z = true) (w2 : (Jvm.Cond.static ⟨ow, y.name, y.desc⟩).before a0 Z = true) (w3 : (Jvm.Cond.initialized ow).before a0 Z = true) (w4 : (Jvm.Cond.code ⟨ow, y.name, y.desc⟩ bytes maxL ret).before a0 Z = true)
    (C : Con l Z ⟨ow, y.name, y.desc⟩ bytes maxL ret rm [] as' h Q) (eT : T.heap = h) (has : argsL.toArray = as') (hs : S = argsL.reverse ++ rest) (hps : parseMethodDescriptor y.desc = some ⟨ps, r⟩) (hl : argsL.length = ps.length) (hd : decode bs pc = .ok (.invokestatic i, 3)) (hsz : Ls.size = c.maxLocals) (hq : pc + 3 = q) (hy : ow ≠ "java/lang/invoke/MethodHandle" ∧ ow ≠ "java/lang/invoke/VarHandle") (hf : rm.frames + 1 ≤ R.frames) (hlo : (rest.map fun v => v.category).sum + (maxL + 11) + rm.locals ≤ R.locals) (hc : cells + rm.cells ≤ R.cells) (hn : slots + rm.slots ≤ R.slots)
    (k : ∀ v T' L, Stand p l e R s m args below meth c T' (locs ++ L) (cells + rm.cells) (slots + rm.slots) → Q v T'.heap L → G (T'.setTop (mkF m q Ls (v.toList ++ rest)))) : G (T.setTop (mkF m pc Ls S)) := by
  subst has hs hq
  have wc := mvT (args := args) hZ w4
  obtain ⟨mk, hnamed⟩ := Cond.code_named wc
  obtain ⟨methM, cM, hmethM, -, -, -, -, -, -, hsigM⟩ := Cond.code_spec hnamed wc
  obtain ⟨v, _, ⟨T', L', k', n'⟩, -, X', ⟨Lc, hQ, l1, y1, z1⟩, st⟩ := X.staticBackUp hx (x := y) (owner := ow) hown (mvT hZ w1) (mvT hZ w5) (mvT hZ w2) (mvT hZ w3) hnamed hmethM hsigM hy (C.back (W := (rest.map fun v => v.category).sum) hZ w4 w3 hf hlo) (g := mkF m pc Ls (argsL.reverse ++ rest)) rfl hsz (Steps.refl _) (argsL := argsL) (rest := rest) (lenOf hps hl) rfl (by show 2 * 0 + _ ≤ _; exact Nat.le_of_eq (Nat.zero_add _)) (hb hby hd) (fun _ _ => ⟨rfl, eT, hc, hn⟩)
  dsimp only at X' l1 y1 z1 st hQ
  subst l1 y1 z1
  exact K _ _ (fun t k => st.trans k) (k v T' Lc X' hQ)
theorem k_callI (K : Cl p e below G) (X : Stand p l e R s m args below meth c T locs cells slots) (hx : p.tables.exec = Jvm.exec) (hby : c.code = bs) (hZ : Z.Warmed39 s.vm) {own : String} {i : Nat} {y : MethodName} {bytes : ByteArray} {maxL : Nat} {ret : Option FieldType} {rm : Room} {Q : PQ} {as' : Array Value} {ps : List FieldType} {r : Option FieldType} {z : MethodName} {C0 : String} {cnt : Nat} (a : Addr) (argsL rest : List Value) (hown : s.vm.findClass own = some m.cls) (w1 : (Jvm.Cond.methodLink own i y).before a0 Z = true) (w2 : (Jvm.Cond.declares y).before a0 Z = true) (w7 : (Jvm.Cond.interfaceMethod y.cls y.cls y.name y.desc).before args s = true) (w5 : (Jvm.Cond.selects C0 y z).before a0 Z = true) (w6 : (Jvm.Cond.instanceMethod z).before a0 Z = true) (w8 : (Jvm.Cond.publicMethod z).before a0 Z = true) (w9 : (Jvm.Cond.unhidden C0 y.name y.desc).before a0 Z = true) (wa : (Jvm.Cond.castable C0 y.cls).before a0 Z = true) (w3 : (Jvm.Cond.initialized z.cls).before a0 Z = true) (w4 : (Jvm.Cond.code z bytes maxL ret).before a0 Z = true)
    (C : Con l Z z bytes maxL ret rm [] as' h Q) (eT : T.heap = h) (E : Exa Z h a C0) (has : (.ref a :: argsL).toArray = as') (hs : S = argsL.reverse ++ .ref a :: rest) (hps : parseMethodDescriptor y.desc = some ⟨ps, r⟩) (hl : argsL.length = ps.length) (hd : decode bs pc = .ok (.invokeinterface i cnt, 5)) (hsz : Ls.size = c.maxLocals) (hq : pc + 5 = q) (hy : y.cls ≠ "java/lang/invoke/MethodHandle" ∧ y.cls ≠ "java/lang/invoke/VarHandle") (hf : rm.frames + 1 ≤ R.frames) (hlo : (rest.map fun v => v.category).sum + (maxL + 11) + rm.locals ≤ R.locals) (hc : cells + rm.cells ≤ R.cells) (hn : slots + rm.slots ≤ R.slots)
    (k : ∀ v T' L, Stand p l e R s m args below meth c T' (locs ++ L) (cells + rm.cells) (slots + rm.slots) → Q v T'.heap L → G (T'.setTop (mkF m q Ls (v.toList ++ rest)))) : G (T.setTop (mkF m pc Ls S)) := by
  subst has hs hq
  obtain ⟨cq, kq, qa, qb, qc⟩ := isOf hZ eT E
  obtain ⟨v, _, ⟨T', L', k', n'⟩, -, X', ⟨Lc, hQ, l1, y1, z1⟩, st⟩ := X.interfaceBack hx (xi := y) (y := z) hown (mvT hZ w1) (mvT hZ w2) w7 (mvT hZ w5) (mvT hZ w6) (mvT hZ w8) (mvT hZ w9) (mvT hZ wa) hy (C.back (W := (rest.map fun v => v.category).sum) hZ w4 w3 hf hlo) qa qb qc (g := mkF m pc Ls (argsL.reverse ++ .ref a :: rest)) rfl hsz (Steps.refl _) (argsL := argsL) (rest := rest) (lenOf hps hl) rfl (by show 2 * 0 + _ ≤ _; exact Nat.le_of_eq (Nat.zero_add _)) (hb hby hd) (fun _ _ => ⟨rfl, eT, hc, hn⟩)
  dsimp only at X' l1 y1 z1 st hQ
  subst l1 y1 z1
  exact K _ _ (fun t k => st.trans k) (k v T' Lc X' hQ)
end OwnBase
section OwnArr
variable {p : Program} {l : Launch} {e : Env} {R : Room} {s : State} {m : MethodId} {args : Array Value} {below : List Frame} {meth : Method} {c : Code} {T : State} {locs : List Loc} {cells slots : Nat} {Z : State} {a0 : Array Value} {h h' : Heap} {a b : Addr} {ty : FieldType} {vs : List Value} {v : Value} {sl : Nat} {ws : List Addr} {bs : ByteArray} {pc q : Nat} {Ls : Array Slot} {S : List Value} {G : State → Prop}
def Av (Z : State) (h : Heap) (a : Addr) (ty : FieldType) (vs : List Value) : Prop := ∃ cl : Cell, Arr Z h a cl ty ∧ cl.slots = vs.toArray
theorem Av.lt (F : Av Z h a ty vs) : a < h.size := by obtain ⟨_, A, -⟩ := F; exact A.lt
theorem Av.ext (F : Av Z h a ty vs) (E : Ext h h') : Av Z h' a ty vs := by obtain ⟨c, A, r⟩ := F; exact ⟨c, A.ext E, r⟩
theorem Av.other (F : Av Z h b ty vs) (W : Wr h h' a sl v) (q : b ≠ a) : Av Z h' b ty vs := by obtain ⟨c, A, r⟩ := F; exact ⟨c, A.other W q, r⟩
theorem Av.keep (F : Av Z h a ty vs) (K : Keep h h' ws) (q : a ∉ ws) : Av Z h' a ty vs := by obtain ⟨c, A, r⟩ := F; exact ⟨c, ⟨K.2.1 a c A.1 q, A.2⟩, r⟩
theorem Av.new {k : ClassId} {z : Int32} {n : Nat} (A : Arr Z h a (newA k ty z) ty) (hn : z.toNatClampNeg = n) : Av Z h a ty (List.replicate n (defaultValue ty)) := ⟨_, A, by subst hn; simp [newA]⟩
theorem Av.set (F : Av Z h a ty vs) (W : Wr h h' a sl v) : Av Z h' a ty (vs.set sl v) := by
  obtain ⟨c, A, r⟩ := F
  exact ⟨_, A.same W, by simp [Cell.setSlot, r]⟩
theorem Av.ofArv {k : ClassId} {z : Int32} {d : Value} (A : Arv Z h a k ty z vs d) (hl : z.toNatClampNeg = vs.length) : Av Z h a ty vs := by
  obtain ⟨cl, A, -, S, -, H, -⟩ := A
  refine ⟨cl, A, Array.ext_getElem? fun i => ?_⟩
  by_cases q : i < vs.length
  · have := H i (by omega)
    rw [this]
    simp [q]
  · rw [Array.getElem?_eq_none (by omega), List.getElem?_toArray, List.getElem?_eq_none (by omega)]
theorem own_in {cl : Cell} {j : Int32} (r : cl.slots = vs.toArray) (h0 : ¬ j < 0) (h1 : j.toNatClampNeg < vs.length) : ¬ (j < 0 ∨ cl.slots.size ≤ j.toNatClampNeg) := by
  rintro (q | q)
  · exact h0 q
  · rw [r, List.size_toArray] at q; omega
theorem own_at {cl : Cell} {i : Nat} (r : cl.slots = vs.toArray) (hv : vs[i]? = some v) : cl.slots[i]? = some v := by rw [r]; simpa using hv
theorem own_ltl0 {i : Nat} (hv : vs[i]? = some v) : i < vs.length := (List.getElem?_eq_some_iff.mp hv).1
theorem k_ldI (K : Cl p e below G) (X : Stand p l e R s m args below meth c T locs cells slots) (hx : p.tables.exec = Jvm.exec) (hby : c.code = bs) (hZ : Z.Warmed39 s.vm) (eT : T.heap = h) (F : Av Z h a .int vs) {j : Int32} (h0 : ¬ j < 0) (hv : vs[j.toNatClampNeg]? = some v) (hd : decode bs pc = .ok (.iaload, 1)) (hq : pc + 1 = q) (hr : G (T.setTop (mkF m q Ls (v :: S)))) : G (T.setTop (mkF m pc Ls (.int j :: .ref a :: S))) := by
  subst hq
  obtain ⟨cl, A, r⟩ := F
  exact K _ _ (X.iaload hx (j := j) (v := v) (by rw [eT]; exact A.1) (State.isArrayOf_alike hZ.alike A.2.1) A.2.2 (own_in r h0 (own_ltl0 hv)) (own_at r hv) (g := mkF m pc Ls (.int j :: .ref a :: S)) rfl rfl (hb hby hd)) hr
theorem k_ldJ (K : Cl p e below G) (X : Stand p l e R s m args below meth c T locs cells slots) (hx : p.tables.exec = Jvm.exec) (hby : c.code = bs) (hZ : Z.Warmed39 s.vm) (eT : T.heap = h) (F : Av Z h a .long vs) {j : Int32} (h0 : ¬ j < 0) (hv : vs[j.toNatClampNeg]? = some v) (hd : decode bs pc = .ok (.laload, 1)) (hq : pc + 1 = q) (hr : G (T.setTop (mkF m q Ls (v :: S)))) : G (T.setTop (mkF m pc Ls (.int j :: .ref a :: S))) := by
  subst hq
  obtain ⟨cl, A, r⟩ := F
  exact K _ _ (X.laload hx (j := j) (v := v) (by rw [eT]; exact A.1) (State.isArrayOf_alike hZ.alike A.2.1) A.2.2 (own_in r h0 (own_ltl0 hv)) (own_at r hv) (g := mkF m pc Ls (.int j :: .ref a :: S)) rfl rfl (hb hby hd)) hr
theorem k_ldC (K : Cl p e below G) (X : Stand p l e R s m args below meth c T locs cells slots) (hx : p.tables.exec = Jvm.exec) (hby : c.code = bs) (hZ : Z.Warmed39 s.vm) (eT : T.heap = h) (F : Av Z h a .char vs) {j : Int32} (h0 : ¬ j < 0) (hv : vs[j.toNatClampNeg]? = some v) (hd : decode bs pc = .ok (.caload, 1)) (hq : pc + 1 = q) (hr : G (T.setTop (mkF m q Ls (v :: S)))) : G (T.setTop (mkF m pc Ls (.int j :: .ref a :: S))) := by
  subst hq
  obtain ⟨cl, A, r⟩ := F
  exact K _ _ (X.caload hx (j := j) (v := v) (by rw [eT]; exact A.1) (State.isArrayOf_alike hZ.alike A.2.1) A.2.2 (own_in r h0 (own_ltl0 hv)) (own_at r hv) (g := mkF m pc Ls (.int j :: .ref a :: S)) rfl rfl (hb hby hd)) hr
theorem k_ldB (K : Cl p e below G) (X : Stand p l e R s m args below meth c T locs cells slots) (hx : p.tables.exec = Jvm.exec) (hby : c.code = bs) (hZ : Z.Warmed39 s.vm) (eT : T.heap = h) (F : Av Z h a .byte vs) {j : Int32} (h0 : ¬ j < 0) (hv : vs[j.toNatClampNeg]? = some v) (hd : decode bs pc = .ok (.baload, 1)) (hq : pc + 1 = q) (hr : G (T.setTop (mkF m q Ls (v :: S)))) : G (T.setTop (mkF m pc Ls (.int j :: .ref a :: S))) := by
  subst hq
  obtain ⟨cl, A, r⟩ := F
  exact K _ _ (X.baloadBytes hx (j := j) (v := v) (by rw [eT]; exact A.1) (State.isArrayOf_alike hZ.alike A.2.1) A.2.2 (own_in r h0 (own_ltl0 hv)) (own_at r hv) (g := mkF m pc Ls (.int j :: .ref a :: S)) rfl rfl (hb hby hd)) hr
theorem k_ldZ (K : Cl p e below G) (X : Stand p l e R s m args below meth c T locs cells slots) (hx : p.tables.exec = Jvm.exec) (hby : c.code = bs) (hZ : Z.Warmed39 s.vm) (eT : T.heap = h) (F : Av Z h a .boolean vs) {j : Int32} (h0 : ¬ j < 0) (hv : vs[j.toNatClampNeg]? = some v) (hd : decode bs pc = .ok (.baload, 1)) (hq : pc + 1 = q) (hr : G (T.setTop (mkF m q Ls (v :: S)))) : G (T.setTop (mkF m pc Ls (.int j :: .ref a :: S))) := by
  subst hq
  obtain ⟨cl, A, r⟩ := F
  exact K _ _ (X.baloadBooleans hx (j := j) (v := v) (by rw [eT]; exact A.1) (State.isArrayOf_alike hZ.alike A.2.1) A.2.2 (own_in r h0 (own_ltl0 hv)) (own_at r hv) (g := mkF m pc Ls (.int j :: .ref a :: S)) rfl rfl (hb hby hd)) hr
theorem k_ldD (K : Cl p e below G) (X : Stand p l e R s m args below meth c T locs cells slots) (hx : p.tables.exec = Jvm.exec) (hby : c.code = bs) (hZ : Z.Warmed39 s.vm) (eT : T.heap = h) (F : Av Z h a .double vs) {j : Int32} (h0 : ¬ j < 0) (hv : vs[j.toNatClampNeg]? = some v) (hd : decode bs pc = .ok (.daload, 1)) (hq : pc + 1 = q) (hr : G (T.setTop (mkF m q Ls (v :: S)))) : G (T.setTop (mkF m pc Ls (.int j :: .ref a :: S))) := by
  subst hq
  obtain ⟨cl, A, r⟩ := F
  exact K _ _ (X.daload hx (j := j) (v := v) (by rw [eT]; exact A.1) (State.isArrayOf_alike hZ.alike A.2.1) A.2.2 (own_in r h0 (own_ltl0 hv)) (own_at r hv) (g := mkF m pc Ls (.int j :: .ref a :: S)) rfl rfl (hb hby hd)) hr
theorem k_ldR (K : Cl p e below G) (X : Stand p l e R s m args below meth c T locs cells slots) (hx : p.tables.exec = Jvm.exec) (hby : c.code = bs) (hZ : Z.Warmed39 s.vm) (eT : T.heap = h) (hty : ty.isReference = true) (F : Av Z h a ty vs) {j : Int32} (h0 : ¬ j < 0) (hv : vs[j.toNatClampNeg]? = some v) (hd : decode bs pc = .ok (.aaload, 1)) (hq : pc + 1 = q) (hr : G (T.setTop (mkF m q Ls (v :: S)))) : G (T.setTop (mkF m pc Ls (.int j :: .ref a :: S))) := by
  subst hq
  obtain ⟨cl, A, r⟩ := F
  exact K _ _ (X.aaload hx (j := j) (v := v) (by rw [eT]; exact A.1) (State.isArrayOf_alike hZ.alike A.2.1) hty A.2.2 (own_in r h0 (own_ltl0 hv)) (own_at r hv) (g := mkF m pc Ls (.int j :: .ref a :: S)) rfl rfl (hb hby hd)) hr
theorem k_len (K : Cl p e below G) (X : Stand p l e R s m args below meth c T locs cells slots) (hx : p.tables.exec = Jvm.exec) (hby : c.code = bs) (hZ : Z.Warmed39 s.vm) (z : Int32) (eT : T.heap = h) (F : Av Z h a ty vs) (hz : Int32.ofNat vs.length = z) (hd : decode bs pc = .ok (.arraylength, 1)) (hq : pc + 1 = q) (hr : G (T.setTop (mkF m q Ls (.int z :: S)))) : G (T.setTop (mkF m pc Ls (.ref a :: S))) := by
  subst hq
  obtain ⟨cl, A, r⟩ := F
  have hl : cl.slots.size.toInt32 = z := by rw [r, List.size_toArray]; exact hz
  have st := X.arraylength hx (by rw [eT]; exact A.1) (State.isArrayOf_alike hZ.alike A.2.1) (g := mkF m pc Ls (.ref a :: S)) rfl rfl (hb hby hd)
  rw [hl] at st
  exact K _ _ st hr
theorem k_stI (K : Cl p e below G) (X : Stand p l e R s m args below meth c T locs cells slots) (hx : p.tables.exec = Jvm.exec) (hby : c.code = bs) (hZ : Z.Warmed39 s.vm) (eT : T.heap = h) (F : Av Z h a .int vs) {j : Int32} {x : Int32} (h0 : ¬ j < 0) (h1 : j.toNatClampNeg < vs.length) (hd : decode bs pc = .ok (.iastore, 1)) (hq : pc + 1 = q) (k : ∀ T' h', Stand p l e R s m args below meth c T' (locs ++ [⟨a, j.toNatClampNeg⟩]) cells slots → T'.heap = h' → Wr h h' a j.toNatClampNeg (.int x) → Av Z h' a .int (vs.set j.toNatClampNeg (.int x)) → G (T'.setTop (mkF m q Ls S))) : G (T.setTop (mkF m pc Ls (.int x :: .int j :: .ref a :: S))) := by
  subst hq
  obtain ⟨cl, A, r⟩ := F
  obtain ⟨T', h', X', e', W', st⟩ := stI X hx hZ eT A (j := j) (own_in r h0 h1) (g := mkF m pc Ls (.int x :: .int j :: .ref a :: S)) rfl rfl (hb hby hd)
  exact K _ _ st (k T' h' X' e' W' (Av.set ⟨cl, A, r⟩ W'))
theorem k_stJ (K : Cl p e below G) (X : Stand p l e R s m args below meth c T locs cells slots) (hx : p.tables.exec = Jvm.exec) (hby : c.code = bs) (hZ : Z.Warmed39 s.vm) (eT : T.heap = h) (F : Av Z h a .long vs) {j : Int32} {x : Int64} (h0 : ¬ j < 0) (h1 : j.toNatClampNeg < vs.length) (hd : decode bs pc = .ok (.lastore, 1)) (hq : pc + 1 = q) (k : ∀ T' h', Stand p l e R s m args below meth c T' (locs ++ [⟨a, j.toNatClampNeg⟩]) cells slots → T'.heap = h' → Wr h h' a j.toNatClampNeg (.long x) → Av Z h' a .long (vs.set j.toNatClampNeg (.long x)) → G (T'.setTop (mkF m q Ls S))) : G (T.setTop (mkF m pc Ls (.long x :: .int j :: .ref a :: S))) := by
  subst hq
  obtain ⟨cl, A, r⟩ := F
  obtain ⟨T', h', X', e', W', st⟩ := stJ X hx hZ eT A (j := j) (own_in r h0 h1) (g := mkF m pc Ls (.long x :: .int j :: .ref a :: S)) rfl rfl (hb hby hd)
  exact K _ _ st (k T' h' X' e' W' (Av.set ⟨cl, A, r⟩ W'))
theorem k_stC (K : Cl p e below G) (X : Stand p l e R s m args below meth c T locs cells slots) (hx : p.tables.exec = Jvm.exec) (hby : c.code = bs) (hZ : Z.Warmed39 s.vm) (eT : T.heap = h) (F : Av Z h a .char vs) {j : Int32} {x : Int32} (h0 : ¬ j < 0) (h1 : j.toNatClampNeg < vs.length) (hd : decode bs pc = .ok (.castore, 1)) (hq : pc + 1 = q) (k : ∀ T' h', Stand p l e R s m args below meth c T' (locs ++ [⟨a, j.toNatClampNeg⟩]) cells slots → T'.heap = h' → Wr h h' a j.toNatClampNeg (.int (nar .char x)) → Av Z h' a .char (vs.set j.toNatClampNeg (.int (nar .char x))) → G (T'.setTop (mkF m q Ls S))) : G (T.setTop (mkF m pc Ls (.int x :: .int j :: .ref a :: S))) := by
  subst hq
  obtain ⟨cl, A, r⟩ := F
  obtain ⟨T', h', X', e', W', st⟩ := stC X hx hZ eT A (j := j) (own_in r h0 h1) (g := mkF m pc Ls (.int x :: .int j :: .ref a :: S)) rfl rfl (hb hby hd)
  exact K _ _ st (k T' h' X' e' W' (Av.set ⟨cl, A, r⟩ W'))
theorem k_stB (K : Cl p e below G) (X : Stand p l e R s m args below meth c T locs cells slots) (hx : p.tables.exec = Jvm.exec) (hby : c.code = bs) (hZ : Z.Warmed39 s.vm) (eT : T.heap = h) (F : Av Z h a .byte vs) {j : Int32} {x : Int32} (h0 : ¬ j < 0) (h1 : j.toNatClampNeg < vs.length) (hd : decode bs pc = .ok (.bastore, 1)) (hq : pc + 1 = q) (k : ∀ T' h', Stand p l e R s m args below meth c T' (locs ++ [⟨a, j.toNatClampNeg⟩]) cells slots → T'.heap = h' → Wr h h' a j.toNatClampNeg (.int (nar .byte x)) → Av Z h' a .byte (vs.set j.toNatClampNeg (.int (nar .byte x))) → G (T'.setTop (mkF m q Ls S))) : G (T.setTop (mkF m pc Ls (.int x :: .int j :: .ref a :: S))) := by
  subst hq
  obtain ⟨cl, A, r⟩ := F
  obtain ⟨T', h', X', e', W', st⟩ := stB X hx hZ eT A (j := j) (own_in r h0 h1) (g := mkF m pc Ls (.int x :: .int j :: .ref a :: S)) rfl rfl (hb hby hd)
  exact K _ _ st (k T' h' X' e' W' (Av.set ⟨cl, A, r⟩ W'))
theorem k_stZ (K : Cl p e below G) (X : Stand p l e R s m args below meth c T locs cells slots) (hx : p.tables.exec = Jvm.exec) (hby : c.code = bs) (hZ : Z.Warmed39 s.vm) (eT : T.heap = h) (F : Av Z h a .boolean vs) {j : Int32} {x : Int32} (h0 : ¬ j < 0) (h1 : j.toNatClampNeg < vs.length) (hd : decode bs pc = .ok (.bastore, 1)) (hq : pc + 1 = q) (k : ∀ T' h', Stand p l e R s m args below meth c T' (locs ++ [⟨a, j.toNatClampNeg⟩]) cells slots → T'.heap = h' → Wr h h' a j.toNatClampNeg (.int (nar .boolean x)) → Av Z h' a .boolean (vs.set j.toNatClampNeg (.int (nar .boolean x))) → G (T'.setTop (mkF m q Ls S))) : G (T.setTop (mkF m pc Ls (.int x :: .int j :: .ref a :: S))) := by
  subst hq
  obtain ⟨cl, A, r⟩ := F
  obtain ⟨T', h', X', e', W', st⟩ := stZ X hx hZ eT A (j := j) (own_in r h0 h1) (g := mkF m pc Ls (.int x :: .int j :: .ref a :: S)) rfl rfl (hb hby hd)
  exact K _ _ st (k T' h' X' e' W' (Av.set ⟨cl, A, r⟩ W'))
theorem k_stD (K : Cl p e below G) (X : Stand p l e R s m args below meth c T locs cells slots) (hx : p.tables.exec = Jvm.exec) (hby : c.code = bs) (hZ : Z.Warmed39 s.vm) (eT : T.heap = h) (F : Av Z h a .double vs) {j : Int32} {x : UInt64} (h0 : ¬ j < 0) (h1 : j.toNatClampNeg < vs.length) (hd : decode bs pc = .ok (.dastore, 1)) (hq : pc + 1 = q) (k : ∀ T' h', Stand p l e R s m args below meth c T' (locs ++ [⟨a, j.toNatClampNeg⟩]) cells slots → T'.heap = h' → Wr h h' a j.toNatClampNeg (.double x) → Av Z h' a .double (vs.set j.toNatClampNeg (.double x)) → G (T'.setTop (mkF m q Ls S))) : G (T.setTop (mkF m pc Ls (.double x :: .int j :: .ref a :: S))) := by
  subst hq
  obtain ⟨cl, A, r⟩ := F
  obtain ⟨T', h', X', e', W', st⟩ := stD X hx hZ eT A (j := j) (own_in r h0 h1) (g := mkF m pc Ls (.double x :: .int j :: .ref a :: S)) rfl rfl (hb hby hd)
  exact K _ _ st (k T' h' X' e' W' (Av.set ⟨cl, A, r⟩ W'))
def Avr (Z : State) (h : Heap) (a : Addr) (C : String) (vs : List Value) : Prop := ∃ cl : Cell, Arr Z h a cl (.object C) ∧ cl.slots = vs.toArray ∧ Ovr Z cl.cls C
variable {C : String}
theorem Avr.av (F : Avr Z h a C vs) : Av Z h a (.object C) vs := by obtain ⟨c, A, r, -⟩ := F; exact ⟨c, A, r⟩
theorem Avr.lt (F : Avr Z h a C vs) : a < h.size := F.av.lt
theorem Avr.ext (F : Avr Z h a C vs) (E : Ext h h') : Avr Z h' a C vs := by obtain ⟨c, A, r⟩ := F; exact ⟨c, A.ext E, r⟩
theorem Avr.other (F : Avr Z h b C vs) (W : Wr h h' a sl v) (q : b ≠ a) : Avr Z h' b C vs := by obtain ⟨c, A, r⟩ := F; exact ⟨c, A.other W q, r⟩
theorem Avr.keep (F : Avr Z h a C vs) (K : Keep h h' ws) (q : a ∉ ws) : Avr Z h' a C vs := by obtain ⟨c, A, r⟩ := F; exact ⟨c, ⟨K.2.1 a c A.1 q, A.2⟩, r⟩
theorem Avr.new {k : ClassId} {z : Int32} {n : Nat} (A : Arr Z h a (newA k (.object C) z) (.object C)) (O : Ovr Z k C) (hn : z.toNatClampNeg = n) : Avr Z h a C (List.replicate n .null) := ⟨_, A, by subst hn; simp [newA, defaultValue], O⟩
theorem Avr.set (F : Avr Z h a C vs) (W : Wr h h' a sl v) : Avr Z h' a C (vs.set sl v) := by
  obtain ⟨c, A, r, O⟩ := F
  exact ⟨_, A.same W, by simp [Cell.setSlot, r], O⟩
theorem k_stR (K : Cl p e below G) (X : Stand p l e R s m args below meth c T locs cells slots) (hx : p.tables.exec = Jvm.exec) (hby : c.code = bs) (hZ : Z.Warmed39 s.vm) (eT : T.heap = h) (F : Avr Z h a C vs) {j : Int32} (h0 : ¬ j < 0) (h1 : j.toNatClampNeg < vs.length) (hv : v = .null ∨ ∃ y, v = .ref y ∧ Ins Z h y C true) (hd : decode bs pc = .ok (.aastore, 1)) (hq : pc + 1 = q) (k : ∀ T' h', Stand p l e R s m args below meth c T' (locs ++ [⟨a, j.toNatClampNeg⟩]) cells slots → T'.heap = h' → Wr h h' a j.toNatClampNeg v → Avr Z h' a C (vs.set j.toNatClampNeg v) → G (T'.setTop (mkF m q Ls S))) : G (T.setTop (mkF m pc Ls (v :: .int j :: .ref a :: S))) := by
  subst hq
  obtain ⟨cl, A, r, O⟩ := F
  have St : Sto Z h a v := by
    rcases hv with rfl | ⟨y, rfl, I⟩
    · exact Or.inl rfl
    · exact Sto.of A O I
  obtain ⟨T', h', X', e', W', st⟩ := stR X hx hZ eT A (j := j) (own_in r h0 h1) rfl St (g := mkF m pc Ls (v :: .int j :: .ref a :: S)) rfl rfl (hb hby hd)
  exact K _ _ st (k T' h' X' e' W' (Avr.set ⟨cl, A, r, O⟩ W'))
theorem k_newP (K : Cl p e below G) (X : Stand p l e R s m args below meth c T locs cells slots) (hx : p.tables.exec = Jvm.exec) (hby : c.code = bs) (hZ : Z.Warmed39 s.vm) {aty : ArrayType} {n : Int32} (N cap : Nat) (w : (Jvm.Cond.arrayClass (newarray.typeOf aty)).before a0 Z = true) (eT : T.heap = h) (hd : decode bs pc = .ok (.newarray aty, 2)) (hq : pc + 2 = q) (hn : ¬ n < 0) (hN : n.toNatClampNeg = N) (hcap : N ≤ cap) (hcb : cap * 8 ≤ 536870912) (hc : cells + 1 ≤ R.cells) (hl : slots + cap ≤ R.slots)
    (k : ∀ T' h' b, Stand p l e R s m args below meth c T' locs (cells + 1) (slots + cap) → T'.heap = h' → Ext h h' → b = h.size → Av Z h' b (newarray.typeOf aty) (List.replicate N (defaultValue (newarray.typeOf aty))) → G (T'.setTop (mkF m q Ls (.ref b :: S)))) : G (T.setTop (mkF m pc Ls (.int n :: S))) := by
  subst hq hN
  obtain ⟨T', h', kA, X', e', E', A', st⟩ := newP X hx hZ w eT (g := mkF m pc Ls (.int n :: S)) rfl (hb hby hd) rfl hn hcap hcb hc hl
  exact K _ _ st (k T' h' _ X' e' E' rfl (Av.new A' rfl))
theorem k_newR (K : Cl p e below G) (X : Stand p l e R s m args below meth c T locs cells slots) (hx : p.tables.exec = Jvm.exec) (hby : c.code = bs) (hZ : Z.Warmed39 s.vm) {own : String} {i : Nat} {n : Int32} (N cap : Nat) (hown : s.vm.findClass own = some m.cls) (w1 : (Jvm.Cond.classLink own i C).before a0 Z = true) (w2 : (Jvm.Cond.arrayOver (.object C)).before a0 Z = true) (eT : T.heap = h) (hd : decode bs pc = .ok (.anewarray i, 3)) (hq : pc + 3 = q) (hn : ¬ n < 0) (hN : n.toNatClampNeg = N) (hcap : N ≤ cap) (hcb : cap * 8 ≤ 536870912) (hc : cells + 1 ≤ R.cells) (hl : slots + cap ≤ R.slots)
    (k : ∀ T' h' b, Stand p l e R s m args below meth c T' locs (cells + 1) (slots + cap) → T'.heap = h' → Ext h h' → b = h.size → Avr Z h' b C (List.replicate N .null) → G (T'.setTop (mkF m q Ls (.ref b :: S)))) : G (T.setTop (mkF m pc Ls (.int n :: S))) := by
  subst hq hN
  obtain ⟨T', h', kA, X', e', E', A', O', st⟩ := newR X hx hZ hown w1 w2 eT (g := mkF m pc Ls (.int n :: S)) rfl (hb hby hd) rfl hn hcap hcb hc hl
  exact K _ _ st (k T' h' _ X' e' E' rfl (Avr.new A' O' rfl))
theorem own_ge {H : Heap} {b c : Addr} {j : Nat} (g : b = H.size) (q : c = b + 1 + j) : H.size ≤ c := by subst g q; exact Nat.le_trans (Nat.le_add_right _ _) (Nat.le_add_right _ _)
theorem own_le {b c : Addr} {j : Nat} (q : c = b + 1 + j) : b ≤ c := by subst q; exact Nat.le_trans (Nat.le_add_right _ _) (Nat.le_add_right _ _)
theorem own_ne {b c : Addr} {j : Nat} (q : c = b + 1 + j) : b ≠ c := by subst q; exact Nat.ne_of_lt (Nat.lt_of_lt_of_le (Nat.lt_succ_self _) (Nat.le_add_right _ _))
theorem own_ne2 {b c d : Addr} {i j : Nat} (q : c = b + 1 + i) (r : d = b + 1 + j) (h : i ≠ j) : c ≠ d := by subst q r; exact fun e => h (Nat.add_left_cancel e)
end OwnArr
theorem LB {n m : Nat} (h : Nat.ble n m = true) : n ≤ m := Nat.le_of_ble_eq_true h
theorem W {Z : State} {a0 : Array Value} (hw : ∀ d ∈ tables_1, d.before a0 Z = true) (i : Nat) {d : Jvm.Cond} (h : tables_1[i]? = some d) : d.before a0 Z = true := hw _ (List.mem_of_getElem? h)
section OwnWide
variable {p : Program} {l : Launch} {e : Env} {R : Room} {s : State} {m : MethodId} {args : Array Value} {below : List Frame} {meth : Method} {c : Code} {T : State} {locs : List Loc} {cells slots : Nat} {Z : State} {a0 : Array Value} {h h' : Heap} {a b : Addr} {ty : FieldType} {vs : List Value} {v : Value} {sl : Nat} {ws : List Addr} {bs : ByteArray} {pc q : Nat} {Ls : Array Slot} {S : List Value} {G : State → Prop}
variable {vm0 : Vm} {k0 : Nat}
def GoW (p : Program) (e : Env) (below : List Frame) (s : State) (C N : Nat) (Q : PQ) (A : State) : Prop :=
  ∃ s₂ o, Steps p.tables e below A s₂ ∧ s₂.status = .running ∧ Ended s₂ below o ∧ ∃ v L, o = .returned v ∧ Q v s₂.heap L ∧ ReturnedEndW s o s₂ L C N
theorem GoW.cl {C N : Nat} {Q : PQ} : Cl p e below (GoW p e below s C N Q) := fun A B k ⟨s2, o, h1, r⟩ => ⟨s2, o, k _ h1, r⟩
theorem GoW.of_go {C N : Nat} {Q : PQ} {A : State} (g : Go p e below s C N Q A) : GoW p e below s C N Q A := by
  obtain ⟨s2, o, h1, h2, h3, v, L, h4, h5, h6⟩ := g
  exact ⟨s2, o, h1, h2, h3, v, L, h4, h5, ReturnedEndW.of_narrow h6.1 h6.2.1 h6.2.2⟩
theorem GoW.of_since {C N : Nat} {Q : PQ} {A : State} (hS : s.Since vm0 k0) (g : Go p e below (s.setVm vm0) C N (fun v h L => Q v h L ∧ k0 ≤ h.size) A) : GoW p e below s C N Q A := by
  obtain ⟨s2, o, h1, h2, h3, v, L, h4, ⟨h5, h5'⟩, h6⟩ := g
  obtain ⟨a, b, c⟩ := hS.ended h6.2.1 h5' h6.2.2
  exact ⟨s2, o, h1, h2, h3, v, L, h4, h5, h6.1, a, b, c⟩
def ConW (l : Launch) (Z : State) (y : MethodName) (bytes : ByteArray) (maxL : Nat) (ret : Option FieldType) (rm : Room) (ws : List Jvm.Cond) (as' : Array Value) (h : Heap) (Q : PQ) : Prop :=
  MetFree l y (head1 (Jvm.Cond.code y bytes maxL ret :: ws) rm) (fun a U => a = as' ∧ Z.Warmed39 U.vm ∧ U.heap = h ∧ U.vm.interned = Z.vm.interned) (fun _ _ _ _ _ => True) (fun _ U o U' => ∃ v L, o = .returned v ∧ Q v U'.heap L ∧ ReturnedEndW U o U' L rm.cells rm.slots)
theorem ConW.of {y : MethodName} {bytes : ByteArray} {maxL : Nat} {ret : Option FieldType} {rm : Room} {ws : List Jvm.Cond} {as' : Array Value} {Q : PQ} (hpl : plainFor y = true) (Ls : Array Slot) (hef : ∀ m, entryFrame m as' maxL = mkF m 0 Ls [])
    (body : ∀ p e s m below meth c s₁, Cl p e below (GoW p e below s rm.cells rm.slots Q) → p.tables.exec = Jvm.exec → c.code = bytes → c.maxLocals = maxL → s.vm.findClass y.cls = some m.cls → meth.name = y.name → meth.sig.returnType = ret → meth.locks = false → Z.Warmed39 s.vm → Stand p l e rm s m as' below meth c s₁ [] 0 0 → s₁.heap = h → s.heap = h → s.vm.interned = Z.vm.interned →
      GoW p e below s rm.cells rm.slots Q (s₁.setTop (mkF m 0 Ls []))) : ConW l Z y bytes maxL ret rm ws as' h Q := by
  refine MetFree.of_bodySF hpl hisR ?_
  intro p e s m args below meth c s₁ Bd hml0 hP hK
  obtain ⟨rfl, hZ, hh, hI⟩ := hP
  have r := body p e s m below meth c s₁ GoW.cl Bd.exec Bd.bytes hml0 (findClass_of_methodNamed Bd.named) (name_of_methodNamed Bd.named Bd.method).1 Bd.returns Bd.notSynchronized hZ (Stand.of_body Bd) (by rw [← hh, Bd.state]; rfl) hh hI
  rw [← hef m] at r
  exact r
theorem ConW.back {y : MethodName} {bytes : ByteArray} {maxL : Nat} {ret : Option FieldType} {rm : Room} {as' : Array Value} {Q : PQ} {len W : Nat} (K : ConW l Z y bytes maxL ret rm [] as' h Q)
    (hZ : Z.Warmed39 s.vm) (hI : s.vm.interned = Z.vm.interned) (wc : (Jvm.Cond.code y bytes maxL ret).before a0 Z = true) (wz : (Jvm.Cond.initialized y.cls).before a0 Z = true) (hf : rm.frames + 1 ≤ R.frames) (hl : W + (maxL + 11) + rm.locals ≤ R.locals) :
    BackS l R p e below s args y len W (fun A a => a = as' ∧ A.U.heap = h ∧ A.cells + rm.cells ≤ R.cells ∧ A.slots + rm.slots ≤ R.slots)
      (fun A _ v B => ∃ L, Q v B.U.heap L ∧ B.locs = A.locs ++ L ∧ B.cells = A.cells + rm.cells ∧ B.slots = A.slots + rm.slots) :=
  BackS.of_freeW (bytes := bytes) (maxL := maxL) (ret := ret) (E := fun _ _ o t L k n => k = rm.cells ∧ n = rm.slots ∧ ∃ v, o = .returned v ∧ Q v t.heap L) K hf hl
    (fun m meth c A a Y hp => have hU : Z.Warmed39 A.U.vm := wtrans hZ Y.warmed
      ⟨by show (Cond.and _ .tt).before a A.U = true; rw [Cond.before_and, mv hU wc]; rfl, mv hU wc, mv hU wz, hp.2.2.1, hp.2.2.2⟩)
    (fun m meth c A a g mk Y hp => ⟨hp.1, wtrans hZ Y.warmed, hp.2.1, Y.warmed.interned_eq.trans hI⟩) (fun _ _ _ _ _ _ _ _ _ => trivial)
    (fun _ _ _ _ ⟨v, L, h1, h2, h3⟩ => ⟨L, _, _, h3, rfl, rfl, v, h1, h2⟩)
    (fun m meth c A a g mk v t L k n Y hp _ _ ⟨e1, e2, v', e3, e4⟩ => by cases e3; subst e1 e2; exact ⟨L, e4, rfl, rfl, rfl⟩)
theorem k_callPW (K : Cl p e below G) (X : Stand p l e R s m args below meth c T locs cells slots) (hx : p.tables.exec = Jvm.exec) (hby : c.code = bs) (hZ : Z.Warmed39 s.vm) (hI : s.vm.interned = Z.vm.interned) {own : String} {i : Nat} {y : MethodName} {bytes : ByteArray} {maxL : Nat} {rm : Room} {Q : PQ} {as' : Array Value} {ps : List FieldType} {r : Option FieldType} (a : Addr) (argsL rest : List Value) (hown : s.vm.findClass own = some m.cls) (w1 : (Jvm.Cond.methodLink own i y).before a0 Z = true) (w2 : (Jvm.Cond.instanceMethod y).before a0 Z = true) (w3 : (Jvm.Cond.initialized y.cls).before a0 Z = true) (w4 : (Jvm.Cond.code y bytes maxL none).before a0 Z = true) (hy1 : y.name = "<init>")
    (C : ConW l Z y bytes maxL none rm [] as' h Q) (eT : T.heap = h) (has : (.ref a :: argsL).toArray = as') (hs : S = argsL.reverse ++ .ref a :: rest) (hps : parseMethodDescriptor y.desc = some ⟨ps, r⟩) (hl : argsL.length = ps.length) (hd : decode bs pc = .ok (.invokespecial i, 3)) (hsz : Ls.size = c.maxLocals) (hq : pc + 3 = q) (hy : y.cls ≠ "java/lang/invoke/MethodHandle" ∧ y.cls ≠ "java/lang/invoke/VarHandle") (hf : rm.frames + 1 ≤ R.frames) (hlo : (rest.map fun v => v.category).sum + (maxL + 11) + rm.locals ≤ R.locals) (hc : cells + rm.cells ≤ R.cells) (hn : slots + rm.slots ≤ R.slots)
    (k : ∀ v T' L, Stand p l e R (s.setVm T'.vm) m args below meth c T' (locs ++ L) (cells + rm.cells) (slots + rm.slots) → Q v T'.heap L → s.Since T'.vm T'.heap.size → Z.Warmed39 (s.setVm T'.vm).vm → (s.setVm T'.vm).vm.findClass own = some m.cls → G (T'.setTop (mkF m q Ls (v.toList ++ rest)))) : G (T.setTop (mkF m pc Ls S)) := by
  subst has hs hq
  obtain ⟨v, _, ⟨T', L', k', n'⟩, -, X', hS, -, ⟨Lc, hQ, l1, y1, z1⟩, st⟩ := X.specialBackS hx (y := y) hy1 hown (mvT hZ w1) (mvT hZ w2) (mvT hZ w4) hy (C.back (W := (rest.map fun v => v.category).sum) hZ hI w4 w3 hf hlo) (g := mkF m pc Ls (argsL.reverse ++ .ref a :: rest)) rfl hsz (Steps.refl _) (a := a) (argsL := argsL) (rest := rest) (lenOf hps hl) rfl (by show 2 * 0 + _ ≤ _; exact Nat.le_of_eq (Nat.zero_add _)) (hb hby hd) (fun _ _ => ⟨rfl, eT, hc, hn⟩)
  dsimp only at X' l1 y1 z1 st hQ hS
  subst l1 y1 z1
  exact K _ _ (fun t k => st.trans k) (k v T' Lc X' hQ hS (State.Warmed39.trans (t := s) hZ hS.1) ((hS.1.alike.findClass _ _).trans hown))
theorem k_callSW (K : Cl p e below G) (X : Stand p l e R s m args below meth c T locs cells slots) (hx : p.tables.exec = Jvm.exec) (hby : c.code = bs) (hZ : Z.Warmed39 s.vm) (hI : s.vm.interned = Z.vm.interned) {own : String} {i : Nat} {y : MethodName} {bytes : ByteArray} {maxL : Nat} {ret : Option FieldType} {rm : Room} {Q : PQ} {as' : Array Value} {ps : List FieldType} {r : Option FieldType} (argsL rest : List Value) (hown : s.vm.findClass own = some m.cls) (w1 : (Jvm.Cond.methodLink own i y).before a0 Z = true) (w2 : (Jvm.Cond.static y).before a0 Z = true) (w3 : (Jvm.Cond.initialized y.cls).before a0 Z = true) (w4 : (Jvm.Cond.code y bytes maxL ret).before a0 Z = true)
    (C : ConW l Z y bytes maxL ret rm [] as' h Q) (eT : T.heap = h) (has : argsL.toArray = as') (hs : S = argsL.reverse ++ rest) (hps : parseMethodDescriptor y.desc = some ⟨ps, r⟩) (hl : argsL.length = ps.length) (hd : decode bs pc = .ok (.invokestatic i, 3)) (hsz : Ls.size = c.maxLocals) (hq : pc + 3 = q) (hy : y.cls ≠ "java/lang/invoke/MethodHandle" ∧ y.cls ≠ "java/lang/invoke/VarHandle") (hf : rm.frames + 1 ≤ R.frames) (hlo : (rest.map fun v => v.category).sum + (maxL + 11) + rm.locals ≤ R.locals) (hc : cells + rm.cells ≤ R.cells) (hn : slots + rm.slots ≤ R.slots)
    (k : ∀ v T' L, Stand p l e R (s.setVm T'.vm) m args below meth c T' (locs ++ L) (cells + rm.cells) (slots + rm.slots) → Q v T'.heap L → s.Since T'.vm T'.heap.size → Z.Warmed39 (s.setVm T'.vm).vm → (s.setVm T'.vm).vm.findClass own = some m.cls → G (T'.setTop (mkF m q Ls (v.toList ++ rest)))) : G (T.setTop (mkF m pc Ls S)) := by
  subst has hs hq
  obtain ⟨v, _, ⟨T', L', k', n'⟩, -, X', hS, -, ⟨Lc, hQ, l1, y1, z1⟩, st⟩ := Jvm.RoadKit.callSS X hx (y := y) hown (mvT hZ w1) (mvT hZ w2) (mvT hZ w3) (mvT hZ w4) hy (C.back (W := (rest.map fun v => v.category).sum) hZ hI w4 w3 hf hlo) (g := mkF m pc Ls (argsL.reverse ++ rest)) rfl hsz (argsL := argsL) (rest := rest) (lenOf hps hl) rfl (by show 2 * 0 + _ ≤ _; exact Nat.le_of_eq (Nat.zero_add _)) (hb hby hd) (fun _ _ => ⟨rfl, eT, hc, hn⟩)
  dsimp only at X' l1 y1 z1 st hQ hS
  subst l1 y1 z1
  exact K _ _ (fun t k => st.trans k) (k v T' Lc X' hQ hS (State.Warmed39.trans (t := s) hZ hS.1) ((hS.1.alike.findClass _ _).trans hown))
theorem k_ldcS (K : Cl p e below G) (X : Stand p l e R s m args below meth c T locs cells slots) (hx : p.tables.exec = Jvm.exec) (hby : c.code = bs) (hZ : Z.Warmed39 s.vm) (hI : s.vm.interned = Z.vm.interned) {own text : String} {i : Nat} (hown : s.vm.findClass own = some m.cls) (w : (Jvm.Cond.stringLink own i text).before a0 Z = true) (wS : ∀ a ∈ Bundle.stringAtoms, a.before a0 Z = true)
    (eT : T.heap = h) (N : Fr s.heap.size locs) (hkeep : ∀ (b : Addr) (cl : Cell), Z.heap[b]? = some cl → s.heap[b]? = some cl) (hh : Jvm.Lit.constHeld Z own i) (hcw : Jvm.Lit.compactW.before a0 Z = true)
    {vs : List Value} (z : Int32) (ht : (∀ c ∈ text.toList, c.toNat < 256) ∧ text.toList.map (fun c => Value.int (Jvm.Lit.byteI c.toNat.toUInt16)) = vs) (hz : ¬ z < 0) (hl : z.toNatClampNeg = vs.length) (hd : decode bs pc = .ok (.ldc i, 2)) (hq : pc + 2 = q) (n : Nat) (hn : 4 * text.toList.length ≤ n) (hbig : n ≤ 536870912) (hc : cells + 2 ≤ R.cells) (hl' : slots + (n + 4) ≤ R.slots)
    (k : ∀ a T' h' k1 b, Stand p l e R (s.setVm T'.vm) m args below meth c T' locs (cells + 2) (slots + (n + 4)) → T'.heap = h' → Ext h h' → s.Since T'.vm k1 → k1 ≤ h'.size → Z.Warmed39 (s.setVm T'.vm).vm → (s.setVm T'.vm).vm.findClass own = some m.cls →
      Exa Z h' a "java/lang/String" → Fld Z h' a "java/lang/String" "coder" "B" (.int 0) → Fld Z h' a "java/lang/String" "value" "[B" (.ref b) → Av Z h' b .byte vs → Lit (s.setVm T'.vm) own i a → G (T'.setTop (mkF m q Ls (.ref a :: S)))) : G (T.setTop (mkF m pc Ls S)) := by
  subst hq
  obtain ⟨a, T', h', k1, b, kk, r1, r2, r3, r4, r5, r6, r7, r8, r9, r10, r11, -, -, -, r15, st⟩ := ldcSVL (s := s) (vm0 := s.vm) (Ts := []) (z := z) (show Stand p l e R (s.setVm s.vm) m args below meth c T locs cells slots from X) hx hZ hown w wS eT (k0 := 0) ((State.WarmedH.refl s).since 0) (Nat.zero_le _) N hkeep ⟨#[], by rw [hI]; simp, fun q hq => by simp at hq⟩ (by simp) hh hcw ht hz hl (g := mkF m pc Ls S) rfl (hb hby hd) hn hbig hc hl'
  exact K _ _ st (k a T' h' k1 b r1 r2 r3 r4 r5 r6 r7 r8 r9 r10 (Av.ofArv r11 hl) r15)
theorem k_ldcA (K : Cl p e below G) (X : Stand p l e R (s.setVm vm0) m args below meth c T locs cells slots) (hx : p.tables.exec = Jvm.exec) (hby : c.code = bs) (hZ : Z.Warmed39 (s.setVm vm0).vm) {own text : String} {i : Nat} (hown : (s.setVm vm0).vm.findClass own = some m.cls) (w : (Jvm.Cond.stringLink own i text).before a0 Z = true) {x : Addr} (L : Lit (s.setVm vm0) own i x)
    (hd : decode bs pc = .ok (.ldc i, 2)) (hq : pc + 2 = q) (hr : G (T.setTop (mkF m q Ls (.ref x :: S)))) : G (T.setTop (mkF m pc Ls S)) := by
  subst hq
  exact K _ _ (ldcAgain (s := s) (vm0 := vm0) X hx hZ hown w L (g := mkF m pc Ls S) rfl (hb hby hd)) hr
theorem own_objArr {C : String} {n : Nat} (E : Exa Z h a C) (F : Av Z h b ty vs) (w : (Jvm.Cond.instantiable C n).before a0 Z = true) : a ≠ b := fun q => by
  obtain ⟨cl, A, -⟩ := F
  subst q
  obtain ⟨cell, k, h1, h2, h3, -, -⟩ := E
  cases h1.symm.trans A.1
  obtain ⟨c0, k0, g1, g2, g3⟩ := Cond.instantiable_spec w
  cases h2.symm.trans g1
  obtain ⟨-, k9, e1, comp, e2⟩ := A.2.1
  cases e1.symm.trans g2
  simp_all
end OwnWide
section OwnX
variable {p : Program} {l : Launch} {e : Env} {R : Room} {s : State} {m : MethodId} {args : Array Value} {below : List Frame} {meth : Method} {c : Code} {T : State} {locs : List Loc} {cells slots : Nat} {Z : State} {a0 : Array Value} {h h' : Heap} {a b : Addr} {ty : FieldType} {vs : List Value} {v : Value} {sl : Nat} {ws : List Addr} {bs : ByteArray} {pc q : Nat} {Ls : Array Slot} {S : List Value} {G : State → Prop}
variable {vm0 : Vm} {k0 : Nat}
theorem own_wiinc {tb : Tables} [Ours tb] {e : Env} {below : List Frame} {T target : State} {m : MethodId} {c : Code} {g : JFrame} (h : At T m c below) (hx : tb.exec = Jvm.exec) (hg : g.method = m) {k : Nat} {cst : Int} {x : Int32} {l' : Array Slot} (hd : decode c.code g.pc = .ok (.iinc k cst, 6)) (hl : g.locals[k]? = some (.val (.int x))) (hl' : storeLocals g.locals k (.int (x + Int32.ofInt cst)) = some l') (hr : Steps tb e below (T.setTop { g with pc := g.pc + 6, locals := l' }) target) : Steps tb e below (T.setTop g) target := by
  subst hg
  jvm_step h [h.top, hx, hd, hl, hl']
  exact hr
theorem m_wiinc (K : Cl p e below G) (h : At T m c below) (hx : p.tables.exec = Jvm.exec) (hby : c.code = bs) {k : Nat} {i : Int} {x : Int32} (l' : Array Slot) (hd : decode bs pc = .ok (.iinc k i, 6)) (hl : Ls[k]? = some (.val (.int x))) (hl' : storeLocals Ls k (.int (x + Int32.ofInt i)) = some l') (hq : pc + 6 = q) (hr : G (T.setTop (mkF m q l' S))) : G (T.setTop (mkF m pc Ls S)) := by subst hq; exact K _ _ (fun t k => own_wiinc (g := mkF m pc Ls S) h hx rfl (hb hby hd) hl hl' k) hr
/-- what is known of the constant "": not loaded since the start; or loaded, and there it is -/
def LS (Z : State) (u : Vm) (h : Heap) : Prop := u.interned = Z.vm.interned ∨ ∃ x bb, Lit (Z.setVm u) "java/lang/String" 7 x ∧ Exa Z h x "java/lang/String" ∧ Fld Z h x "java/lang/String" "coder" "B" (.int 0) ∧ Fld Z h x "java/lang/String" "value" "[B" (.ref bb) ∧ Av Z h bb .byte []
theorem LS.ext {u : Vm} (F : LS Z u h) (E : Ext h h') : LS Z u h' := by
  rcases F with q | ⟨x, bb, a, b, c, d, e⟩
  · exact Or.inl q
  · exact Or.inr ⟨x, bb, a, b.ext E, c.ext E, d.ext E, e.ext E⟩
theorem LS.warm {u : Vm} (hW : s.WarmedH u) (F : LS Z s.vm h) : LS Z u h := by
  rcases F with q | ⟨x, bb, a, r⟩
  · exact Or.inl (hW.interned_eq.trans q)
  · exact Or.inr ⟨x, bb, show (s.setVm u).resolvedAt? _ _ = _ from State.resolvedAt?_warmed39 (s := s) hW.wide a, r⟩
def GoX (Z : State) (p : Program) (e : Env) (below : List Frame) (s : State) (C N : Nat) (Q : PQ) (A : State) : Prop :=
  ∃ s₂ o, Steps p.tables e below A s₂ ∧ s₂.status = .running ∧ Ended s₂ below o ∧ ∃ v L, o = .returned v ∧ (Q v s₂.heap L ∧ LS Z s₂.vm s₂.heap) ∧ ReturnedEndW s o s₂ L C N
theorem GoX.cl {C N : Nat} {Q : PQ} : Cl p e below (GoX Z p e below s C N Q) := fun A B k ⟨s2, o, h1, r⟩ => ⟨s2, o, k _ h1, r⟩
theorem GoX.of_since {C N : Nat} {Q : PQ} {A : State} (hS : s.Since vm0 k0) (g : Go p e below (s.setVm vm0) C N (fun v h L => Q v h L ∧ k0 ≤ h.size ∧ LS Z vm0 h) A) : GoX Z p e below s C N Q A := by
  obtain ⟨s2, o, h1, h2, h3, v, L, h4, ⟨h5, h5', h7⟩, h6⟩ := g
  obtain ⟨a, b, c⟩ := hS.ended h6.2.1 h5' h6.2.2
  exact ⟨s2, o, h1, h2, h3, v, L, h4, ⟨h5, LS.warm (s := s.setVm vm0) h6.2.1 h7⟩, h6.1, a, b, c⟩
def ConX (l : Launch) (Z : State) (y : MethodName) (bytes : ByteArray) (maxL : Nat) (ret : Option FieldType) (rm : Room) (ws : List Jvm.Cond) (as' : Array Value) (h : Heap) (Q : PQ) : Prop :=
  MetFree l y (head1 (Jvm.Cond.code y bytes maxL ret :: ws) rm) (fun a U => a = as' ∧ Z.Warmed39 U.vm ∧ U.heap = h ∧ LS Z U.vm h) (fun _ _ _ _ _ => True) (fun _ U o U' => ∃ v L, o = .returned v ∧ (Q v U'.heap L ∧ LS Z U'.vm U'.heap) ∧ ReturnedEndW U o U' L rm.cells rm.slots)
theorem ConX.of {y : MethodName} {bytes : ByteArray} {maxL : Nat} {ret : Option FieldType} {rm : Room} {ws : List Jvm.Cond} {as' : Array Value} {Q : PQ} (hpl : plainFor y = true) (Ls : Array Slot) (hef : ∀ m, entryFrame m as' maxL = mkF m 0 Ls [])
    (body : ∀ p e s m below meth c s₁, Cl p e below (GoX Z p e below s rm.cells rm.slots Q) → p.tables.exec = Jvm.exec → c.code = bytes → c.maxLocals = maxL → s.vm.findClass y.cls = some m.cls → meth.name = y.name → meth.sig.returnType = ret → meth.locks = false → Z.Warmed39 s.vm → Stand p l e rm (s.setVm s.vm) m as' below meth c s₁ [] 0 0 → s₁.heap = h → s.heap = h → LS Z s.vm h → s.Since s.vm 0 →
      GoX Z p e below s rm.cells rm.slots Q (s₁.setTop (mkF m 0 Ls []))) : ConX l Z y bytes maxL ret rm ws as' h Q := by
  refine MetFree.of_bodySF hpl hisR ?_
  intro p e s m args below meth c s₁ Bd hml0 hP hK
  obtain ⟨rfl, hZ, hh, hI⟩ := hP
  have r := body p e s m below meth c s₁ GoX.cl Bd.exec Bd.bytes hml0 (findClass_of_methodNamed Bd.named) (name_of_methodNamed Bd.named Bd.method).1 Bd.returns Bd.notSynchronized hZ (Stand.of_body Bd) (by rw [← hh, Bd.state]; rfl) hh hI ((State.WarmedH.refl s).since 0)
  rw [← hef m] at r
  exact r
theorem ConX.back {y : MethodName} {bytes : ByteArray} {maxL : Nat} {ret : Option FieldType} {rm : Room} {as' : Array Value} {Q : PQ} {len W : Nat} (K : ConX l Z y bytes maxL ret rm [] as' h Q)
    (hZ : Z.Warmed39 s.vm) (hI : LS Z s.vm h) (wc : (Jvm.Cond.code y bytes maxL ret).before a0 Z = true) (wz : (Jvm.Cond.initialized y.cls).before a0 Z = true) (hf : rm.frames + 1 ≤ R.frames) (hl : W + (maxL + 11) + rm.locals ≤ R.locals) :
    BackS l R p e below s args y len W (fun A a => a = as' ∧ A.U.heap = h ∧ A.cells + rm.cells ≤ R.cells ∧ A.slots + rm.slots ≤ R.slots)
      (fun A _ v B => ∃ L, (Q v B.U.heap L ∧ LS Z B.U.vm B.U.heap) ∧ B.locs = A.locs ++ L ∧ B.cells = A.cells + rm.cells ∧ B.slots = A.slots + rm.slots) :=
  BackS.of_freeW (bytes := bytes) (maxL := maxL) (ret := ret) (E := fun _ _ o t L k n => k = rm.cells ∧ n = rm.slots ∧ ∃ v, o = .returned v ∧ (Q v t.heap L ∧ LS Z t.vm t.heap)) K hf hl
    (fun m meth c A a Y hp => have hU : Z.Warmed39 A.U.vm := wtrans hZ Y.warmed
      ⟨by show (Cond.and _ .tt).before a A.U = true; rw [Cond.before_and, mv hU wc]; rfl, mv hU wc, mv hU wz, hp.2.2.1, hp.2.2.2⟩)
    (fun m meth c A a g mk Y hp => ⟨hp.1, wtrans hZ Y.warmed, hp.2.1, LS.warm Y.warmed hI⟩) (fun _ _ _ _ _ _ _ _ _ => trivial)
    (fun _ _ _ _ ⟨v, L, h1, h2, h3⟩ => ⟨L, _, _, h3, rfl, rfl, v, h1, h2⟩)
    (fun m meth c A a g mk v t L k n Y hp _ _ ⟨e1, e2, v', e3, e4⟩ => by cases e3; subst e1 e2; exact ⟨L, e4, rfl, rfl, rfl⟩)
theorem k_callPX (K : Cl p e below G) (X : Stand p l e R (s.setVm vm0) m args below meth c T locs cells slots) (hx : p.tables.exec = Jvm.exec) (hby : c.code = bs) (hZ : Z.Warmed39 (s.setVm vm0).vm) (hS : s.Since vm0 k0) (hk : k0 ≤ h.size) (hI : LS Z vm0 h) {own : String} {i : Nat} {y : MethodName} {bytes : ByteArray} {maxL : Nat} {rm : Room} {Q : PQ} {as' : Array Value} {ps : List FieldType} {r : Option FieldType} (a : Addr) (argsL rest : List Value) (hown : (s.setVm vm0).vm.findClass own = some m.cls) (w1 : (Jvm.Cond.methodLink own i y).before a0 Z = true) (w2 : (Jvm.Cond.instanceMethod y).before a0 Z = true) (w3 : (Jvm.Cond.initialized y.cls).before a0 Z = true) (w4 : (Jvm.Cond.code y bytes maxL none).before a0 Z = true) (hy1 : y.name = "<init>")
    (C : ConX l Z y bytes maxL none rm [] as' h Q) (eT : T.heap = h) (has : (.ref a :: argsL).toArray = as') (hs : S = argsL.reverse ++ .ref a :: rest) (hps : parseMethodDescriptor y.desc = some ⟨ps, r⟩) (hl : argsL.length = ps.length) (hd : decode bs pc = .ok (.invokespecial i, 3)) (hsz : Ls.size = c.maxLocals) (hq : pc + 3 = q) (hy : y.cls ≠ "java/lang/invoke/MethodHandle" ∧ y.cls ≠ "java/lang/invoke/VarHandle") (hf : rm.frames + 1 ≤ R.frames) (hlo : (rest.map fun v => v.category).sum + (maxL + 11) + rm.locals ≤ R.locals) (hc : cells + rm.cells ≤ R.cells) (hn : slots + rm.slots ≤ R.slots)
    (k : ∀ v T' L, Stand p l e R (s.setVm T'.vm) m args below meth c T' (locs ++ L) (cells + rm.cells) (slots + rm.slots) → Q v T'.heap L → s.Since T'.vm T'.heap.size → LS Z T'.vm T'.heap → Z.Warmed39 (s.setVm T'.vm).vm → (s.setVm T'.vm).vm.findClass own = some m.cls → G (T'.setTop (mkF m q Ls (v.toList ++ rest)))) : G (T.setTop (mkF m pc Ls S)) := by
  subst has hs hq
  obtain ⟨v, _, ⟨T', L', k', n'⟩, -, X', hS2, hg, ⟨Lc, hQ, l1, y1, z1⟩, st⟩ := X.specialBackS hx (y := y) hy1 hown (mvT hZ w1) (mvT hZ w2) (mvT hZ w4) hy (C.back (W := (rest.map fun v => v.category).sum) hZ hI w4 w3 hf hlo) (g := mkF m pc Ls (argsL.reverse ++ .ref a :: rest)) rfl hsz (Steps.refl _) (a := a) (argsL := argsL) (rest := rest) (lenOf hps hl) rfl (by show 2 * 0 + _ ≤ _; exact Nat.le_of_eq (Nat.zero_add _)) (hb hby hd) (fun _ _ => ⟨rfl, eT, hc, hn⟩)
  dsimp only at X' l1 y1 z1 st hQ hS2 hg
  subst l1 y1 z1
  exact K _ _ (fun t k => st.trans k) (k v T' Lc X' hQ.1 (hS.trans hS2 (Nat.le_trans hk (by rw [← eT]; exact hg))) hQ.2 (State.Warmed39.trans (t := s.setVm vm0) hZ hS2.1) ((hS2.1.alike.findClass _ _).trans hown))
theorem k_callSX (K : Cl p e below G) (X : Stand p l e R (s.setVm vm0) m args below meth c T locs cells slots) (hx : p.tables.exec = Jvm.exec) (hby : c.code = bs) (hZ : Z.Warmed39 (s.setVm vm0).vm) (hS : s.Since vm0 k0) (hk : k0 ≤ h.size) (hI : LS Z vm0 h) {own : String} {i : Nat} {y : MethodName} {bytes : ByteArray} {maxL : Nat} {ret : Option FieldType} {rm : Room} {Q : PQ} {as' : Array Value} {ps : List FieldType} {r : Option FieldType} (argsL rest : List Value) (hown : (s.setVm vm0).vm.findClass own = some m.cls) (w1 : (Jvm.Cond.methodLink own i y).before a0 Z = true) (w2 : (Jvm.Cond.static y).before a0 Z = true) (w3 : (Jvm.Cond.initialized y.cls).before a0 Z = true) (w4 : (Jvm.Cond.code y bytes maxL ret).before a0 Z = true)
    (C : ConX l Z y bytes maxL ret rm [] as' h Q) (eT : T.heap = h) (has : argsL.toArray = as') (hs : S = argsL.reverse ++ rest) (hps : parseMethodDescriptor y.desc = some ⟨ps, r⟩) (hl : argsL.length = ps.length) (hd : decode bs pc = .ok (.invokestatic i, 3)) (hsz : Ls.size = c.maxLocals) (hq : pc + 3 = q) (hy : y.cls ≠ "java/lang/invoke/MethodHandle" ∧ y.cls ≠ "java/lang/invoke/VarHandle") (hf : rm.frames + 1 ≤ R.frames) (hlo : (rest.map fun v => v.category).sum + (maxL + 11) + rm.locals ≤ R.locals) (hc : cells + rm.cells ≤ R.cells) (hn : slots + rm.slots ≤ R.slots)
    (k : ∀ v T' L, Stand p l e R (s.setVm T'.vm) m args below meth c T' (locs ++ L) (cells + rm.cells) (slots + rm.slots) → Q v T'.heap L → s.Since T'.vm T'.heap.size → LS Z T'.vm T'.heap → Z.Warmed39 (s.setVm T'.vm).vm → (s.setVm T'.vm).vm.findClass own = some m.cls → G (T'.setTop (mkF m q Ls (v.toList ++ rest)))) : G (T.setTop (mkF m pc Ls S)) := by
  subst has hs hq
  obtain ⟨v, _, ⟨T', L', k', n'⟩, -, X', hS2, hg, ⟨Lc, hQ, l1, y1, z1⟩, st⟩ := Jvm.RoadKit.callSS X hx (y := y) hown (mvT hZ w1) (mvT hZ w2) (mvT hZ w3) (mvT hZ w4) hy (C.back (W := (rest.map fun v => v.category).sum) hZ hI w4 w3 hf hlo) (g := mkF m pc Ls (argsL.reverse ++ rest)) rfl hsz (argsL := argsL) (rest := rest) (lenOf hps hl) rfl (by show 2 * 0 + _ ≤ _; exact Nat.le_of_eq (Nat.zero_add _)) (hb hby hd) (fun _ _ => ⟨rfl, eT, hc, hn⟩)
  dsimp only at X' l1 y1 z1 st hQ hS2 hg
  subst l1 y1 z1
  exact K _ _ (fun t k => st.trans k) (k v T' Lc X' hQ.1 (hS.trans hS2 (Nat.le_trans hk (by rw [← eT]; exact hg))) hQ.2 (State.Warmed39.trans (t := s.setVm vm0) hZ hS2.1) ((hS2.1.alike.findClass _ _).trans hown))
theorem LS.keep0 {u : Vm} (F : LS Z u h) (K : Keep h h' []) : LS Z u h' := by
  rcases F with q | ⟨x, bb, a, b, c, d, e⟩
  · exact Or.inl q
  · exact Or.inr ⟨x, bb, a, b.keep K, c.keep K nin0, d.keep K nin0, e.keep K nin0⟩
theorem ConX.of_con {y : MethodName} {bytes : ByteArray} {maxL : Nat} {ret : Option FieldType} {rm : Room} {ws : List Jvm.Cond} {as' : Array Value} {Q : PQ} (K : Con l Z y bytes maxL ret rm ws as' h Q) (f : ∀ v h' L, Q v h' L → Keep h h' []) : ConX l Z y bytes maxL ret rm ws as' h Q := by
  intro p e ha hc hk s m args below hf happ hP hK
  obtain ⟨n, o, h1, h2, h3, v, L, h4, h5, h6⟩ := K p e ha hc hk s m args below hf happ ⟨hP.1, hP.2.1, hP.2.2.1⟩ hK
  exact ⟨n, o, h1, h2, h3, v, L, h4, ⟨h5, (LS.warm h6.2.1 hP.2.2.2).keep0 (f _ _ _ h5)⟩, ReturnedEndW.of_narrow h6.1 h6.2.1 h6.2.2⟩
theorem ConX.mono {y : MethodName} {bytes : ByteArray} {maxL : Nat} {ret : Option FieldType} {rm : Room} {ws : List Jvm.Cond} {as' : Array Value} {Q Q' : PQ} (K : ConX l Z y bytes maxL ret rm ws as' h Q) (f : ∀ v h' L, Q v h' L → Q' v h' L) : ConX l Z y bytes maxL ret rm ws as' h Q' := by
  intro p e ha hc hk s m args below hf happ hP hK
  obtain ⟨n, o, h1, h2, h3, v, L, h4, h5, h6⟩ := K p e ha hc hk s m args below hf happ hP hK
  exact ⟨n, o, h1, h2, h3, v, L, h4, ⟨f _ _ _ h5.1, h5.2⟩, h6⟩
end OwnX
def BLO (c : Int32) : Int32 := nar .byte ((c >>> ((0 : Int32) &&& 31)).toInt8.toInt32)
def BHI (c : Int32) : Int32 := nar .byte ((c >>> ((8 : Int32) &&& 31)).toInt8.toInt32)
def GCH (x y : Int32) : Int32 := (((x &&& (255 : Int32)) <<< ((0 : Int32) &&& 31)) ||| ((y &&& (255 : Int32)) <<< ((8 : Int32) &&& 31))).toUInt32.toUInt16.toUInt32.toInt32
def LCH (x : Int32) : Int32 := (x &&& (255 : Int32)).toUInt32.toUInt16.toUInt32.toInt32
theorem own_nc (x : Int32) : nar .char (x.toUInt32.toUInt16.toUInt32.toInt32) = x.toUInt32.toUInt16.toUInt32.toInt32 := by
  show (x.toUInt32.toUInt16.toUInt32.toInt32).toUInt32.toUInt16.toUInt32.toInt32 = _
  have e : (x.toUInt32.toUInt16.toUInt32.toInt32).toUInt32.toUInt16 = x.toUInt32.toUInt16 := by
    rw [UInt32.toUInt32_toInt32]; exact UInt16.toUInt16_toUInt32 _
  rw [e]
theorem own_e (c : Int32) (h : nar .char c = c) : c = Int32.ofNat (c.toUInt32.toUInt16.toNat) := by
  have h' : c.toUInt32.toUInt16.toUInt32.toInt32 = c := h
  generalize c.toUInt32.toUInt16 = u at h'
  subst h'
  have hb := u.toNat_lt
  apply Int32.toBitVec_inj.mp
  apply BitVec.eq_of_toNat_eq
  simp
theorem own_lch (x : Int32) : ¬ ((255 : Int32) < LCH x) := by
  have hm := c_mask x (255 : Int32) 8 (by decide) (by decide)
  have h0 : 0 ≤ (x &&& (255 : Int32)).toInt ∧ (x &&& (255 : Int32)).toInt < 256 := by omega
  have e : LCH x = x &&& (255 : Int32) := by
    unfold LCH
    generalize x &&& (255 : Int32) = y at h0
    obtain ⟨n, hn, rfl⟩ : ∃ n : Nat, n < 256 ∧ y = Int32.ofNat n := ⟨y.toInt.toNat, by omega, Int32.toInt_inj.mp (by rw [Int32.toInt_ofNat_small (by omega)]; omega)⟩
    have : ∀ n : Fin 256, (Int32.ofNat n.val).toUInt32.toUInt16.toUInt32.toInt32 = Int32.ofNat n.val := by decide +kernel
    exact this ⟨n, hn⟩
  rw [e, Int32.lt_iff_toInt_lt]
  have e1 : (255 : Int32).toInt = 255 := rfl
  omega
theorem own_rec (c : Int32) (h : nar .char c = c) : GCH (BLO c) (BHI c) = c := by
  have h' : c.toUInt32.toUInt16.toUInt32.toInt32 = c := h
  have hc := c_i2c c
  rw [h'] at hc
  apply Int32.toInt_inj.mp
  have s0 := c_ishr c (0 : Int32) 0 (by decide)
  have s8 := c_ishr c (8 : Int32) 8 (by decide)
  have eL : BLO c = ((c >>> ((0 : Int32) &&& 31)).toInt8.toInt32).toInt8.toInt32 := rfl
  have eH : BHI c = ((c >>> ((8 : Int32) &&& 31)).toInt8.toInt32).toInt8.toInt32 := rfl
  have l1 := c_i2b (c >>> ((0 : Int32) &&& 31))
  have l2 := c_i2b ((c >>> ((0 : Int32) &&& 31)).toInt8.toInt32)
  have h1 := c_i2b (c >>> ((8 : Int32) &&& 31))
  have h2 := c_i2b ((c >>> ((8 : Int32) &&& 31)).toInt8.toInt32)
  rw [← eL] at l2
  rw [← eH] at h2
  have mL := c_mask (BLO c) (255 : Int32) 8 (by decide) (by decide)
  have mH := c_mask (BHI c) (255 : Int32) 8 (by decide) (by decide)
  have xL := c_ishl (BLO c &&& (255 : Int32)) (0 : Int32) 0 (by decide)
  have xH := c_ishl (BHI c &&& (255 : Int32)) (8 : Int32) 8 (by decide)
  have rL := rng32 ((BLO c &&& (255 : Int32)) <<< ((0 : Int32) &&& 31))
  have rH := rng32 ((BHI c &&& (255 : Int32)) <<< ((8 : Int32) &&& 31))
  have o1 := c_or' ((BLO c &&& (255 : Int32)) <<< ((0 : Int32) &&& 31)) ((BHI c &&& (255 : Int32)) <<< ((8 : Int32) &&& 31)) 8 (by decide) 256 (by decide)
  have ro := rng32 (((BLO c &&& (255 : Int32)) <<< ((0 : Int32) &&& 31)) ||| ((BHI c &&& (255 : Int32)) <<< ((8 : Int32) &&& 31)))
  have i1 := c_i2c (((BLO c &&& (255 : Int32)) <<< ((0 : Int32) &&& 31)) ||| ((BHI c &&& (255 : Int32)) <<< ((8 : Int32) &&& 31)))
  unfold GCH
  generalize ((BLO c &&& (255 : Int32)) <<< ((0 : Int32) &&& 31)) ||| ((BHI c &&& (255 : Int32)) <<< ((8 : Int32) &&& 31)) = o at *
  omega
theorem own_rgt (c : Int32) (h : nar .char c = c) (g : (255 : Int32) < c) : (255 : Int32) < GCH (BLO c) (BHI c) := by rw [own_rec c h]; exact g
theorem own_rle (c : Int32) (h : nar .char c = c) (g : ¬ ((255 : Int32) < c)) : ¬ ((255 : Int32) < GCH (BLO c) (BHI c)) := by rw [own_rec c h]; exact g
def SSt (Z : State) (cz : Int32) (vf : Value) : Prop := Sta Z Z.heap "java/lang/String" "COMPACT_STRINGS" "Z" (.int cz) ∧ Sta Z Z.heap "jdk/internal/util/Preconditions" "SIOOBE_FORMATTER" "Ljava/util/function/BiFunction;" vf ∧ Sta Z Z.heap "java/lang/StringUTF16" "$assertionsDisabled" "Z" (.int (1 : Int32)) ∧ Sta Z Z.heap "java/lang/StringUTF16" "HI_BYTE_SHIFT" "I" (.int (0 : Int32)) ∧ Sta Z Z.heap "java/lang/StringUTF16" "LO_BYTE_SHIFT" "I" (.int (8 : Int32)) ∧ ¬ (cz = (0 : Int32)) ∧ vf.isRef = true
theorem SSt.cs {Z : State} {cz : Int32} {vf : Value} (h : SSt Z cz vf) : Sta Z Z.heap "java/lang/String" "COMPACT_STRINGS" "Z" (.int cz) := h.1
theorem SSt.si {Z : State} {cz : Int32} {vf : Value} (h : SSt Z cz vf) : Sta Z Z.heap "jdk/internal/util/Preconditions" "SIOOBE_FORMATTER" "Ljava/util/function/BiFunction;" vf := h.2.1
theorem SSt.ad {Z : State} {cz : Int32} {vf : Value} (h : SSt Z cz vf) : Sta Z Z.heap "java/lang/StringUTF16" "$assertionsDisabled" "Z" (.int (1 : Int32)) := h.2.2.1
theorem SSt.hi {Z : State} {cz : Int32} {vf : Value} (h : SSt Z cz vf) : Sta Z Z.heap "java/lang/StringUTF16" "HI_BYTE_SHIFT" "I" (.int (0 : Int32)) := h.2.2.2.1
theorem SSt.lo {Z : State} {cz : Int32} {vf : Value} (h : SSt Z cz vf) : Sta Z Z.heap "java/lang/StringUTF16" "LO_BYTE_SHIFT" "I" (.int (8 : Int32)) := h.2.2.2.2.1
theorem SSt.cz {Z : State} {cz : Int32} {vf : Value} (h : SSt Z cz vf) : ¬ (cz = (0 : Int32)) := h.2.2.2.2.2.1
theorem SSt.rf {Z : State} {cz : Int32} {vf : Value} (h : SSt Z cz vf) : vf.isRef = true := h.2.2.2.2.2.2
theorem own_wS {Z : State} {a0 : Array Value} (hw : ∀ d ∈ tables_1, d.before a0 Z = true) : ∀ a ∈ Bundle.stringAtoms, a.before a0 Z = true := by
  intro a ha
  simp only [Bundle.stringAtoms, Bundle.sN, List.mem_cons, List.not_mem_nil, or_false] at ha
  rcases ha with rfl | rfl | rfl | rfl | rfl | rfl | rfl
  · exact (W hw 12 rfl)
  · exact (W hw 11 rfl)
  · exact (W hw 25 rfl)
  · exact (W hw 26 rfl)
  · exact (W hw 27 rfl)
  · exact (W hw 28 rfl)
  · exact (W hw 29 rfl)
theorem dj41_11_0 : decode jdk_41_method_11_code 0 = .ok (.iload_n 0, 1) := by decide +kernel
theorem dj41_11_1 : decode jdk_41_method_11_code 1 = .ok (.ifCond .lt 8, 3) := by decide +kernel
theorem dj41_11_4 : decode jdk_41_method_11_code 4 = .ok (.iload_n 0, 1) := by decide +kernel
theorem dj41_11_5 : decode jdk_41_method_11_code 5 = .ok (.iload_n 1, 1) := by decide +kernel
theorem dj41_11_6 : decode jdk_41_method_11_code 6 = .ok (.if_icmp .lt 10, 3) := by decide +kernel
theorem dj41_11_16 : decode jdk_41_method_11_code 16 = .ok (.iload_n 0, 1) := by decide +kernel
theorem dj41_11_17 : decode jdk_41_method_11_code 17 = .ok (.ireturn, 1) := by decide +kernel
theorem pn_jdk_internal_util_Preconditions : plainName "jdk/internal/util/Preconditions" = true := by first | (simp [plainName, overriddenIn]; done) | decide +kernel
theorem efpin (m : MethodId) (x0 x1 : Int32) : entryFrame m #[(.int x0), (.int x1), .null] 3 = mkF m 0 #[.val (.int x0), .val (.int x1), .val .null] [] := by first | (simp [entryFrame, mkF, argsToLocals, Value.category]; done) | rfl
theorem cpin (l : Launch) (Z : State) (a0 : Array Value) (hw : ∀ d ∈ tables_1, d.before a0 Z = true) (p1 p2 : Int32) (h0 : Heap) (n0 : Nat) (Z0 : n0 ≤ h0.size) (g0 : ¬ (p1 < (0 : Int32))) (g1 : p1 < p2) :
    Con l Z (⟨"jdk/internal/util/Preconditions", "checkIndex", "(IILjava/util/function/BiFunction;)I"⟩ : MethodName) jdk_41_method_11_code 3 (some .int) ({ frames := 0, cells := 0, slots := 0, locals := 0 } : Room) [] #[(.int p1), (.int p2), .null] h0 (fun v h L => v = some (.int p1) ∧ h = h0 ∧ L = []) := by
  refine Con.of (plainFor_of_name pn_jdk_internal_util_Preconditions) #[.val (.int p1), .val (.int p2), .val .null] (fun m => efpin m p1 p2) ?_
  intro p e s m below meth c s₁ K hx hby hml hown hnm hret hlk hZ X0 e0
  have N0 := Fr.nil n0
  refine mIN K X0.here hx hby dj41_11_0 rfl rfl ?_
  refine m_ifN K X0.here hx hby (q := 4) dj41_11_1 ((if0 _ _).trans (flt g0).1) rfl ?_
  refine mIN K X0.here hx hby dj41_11_4 rfl rfl ?_
  refine mIN K X0.here hx hby dj41_11_5 rfl rfl ?_
  refine m_icmpY K X0.here hx hby (q := 16) dj41_11_6 (tlt g1).1 (by decide) rfl ?_
  refine mIN K X0.here hx hby dj41_11_16 rfl rfl ?_
  exact Go.retI X0 hx hby hlk hret dj41_11_17 (by decide) (by decide) (⟨rfl, e0, rfl⟩)
theorem dj42_155_0 : decode jdk_42_method_155_code 0 = .ok (.iload_n 0, 1) := by decide +kernel
theorem dj42_155_1 : decode jdk_42_method_155_code 1 = .ok (.iload_n 1, 1) := by decide +kernel
theorem dj42_155_2 : decode jdk_42_method_155_code 2 = .ok (.getstatic 1053, 3) := by decide +kernel
theorem dj42_155_5 : decode jdk_42_method_155_code 5 = .ok (.invokestatic 1059, 3) := by decide +kernel
theorem dj42_155_8 : decode jdk_42_method_155_code 8 = .ok (.pop, 1) := by decide +kernel
theorem dj42_155_9 : decode jdk_42_method_155_code 9 = .ok (.return_, 1) := by decide +kernel
theorem pn_java_lang_String : plainName "java/lang/String" = true := by first | (simp [plainName, overriddenIn]; done) | decide +kernel
theorem pd_0 : parseMethodDescriptor "(IILjava/util/function/BiFunction;)I" = some ⟨[.int, .int, (.object "java/util/function/BiFunction")], some .int⟩ := by decide +kernel
theorem efckn (m : MethodId) (x0 x1 : Int32) : entryFrame m #[(.int x0), (.int x1)] 2 = mkF m 0 #[.val (.int x0), .val (.int x1)] [] := by first | (simp [entryFrame, mkF, argsToLocals, Value.category]; done) | rfl
theorem cckn (l : Launch) (Z : State) (a0 : Array Value) (hw : ∀ d ∈ tables_1, d.before a0 Z = true) (p1 p2 : Int32) (h0 : Heap) (n0 : Nat) (Z0 : n0 ≤ h0.size) (S_Preconditions_SIOOBE_FORMATTER : Sta Z Z.heap "jdk/internal/util/Preconditions" "SIOOBE_FORMATTER" "Ljava/util/function/BiFunction;" .null) (O0 : Old Z n0 h0) (g0 : ¬ (p1 < (0 : Int32))) (g1 : p1 < p2) :
    Con l Z (⟨"java/lang/String", "checkIndex", "(II)V"⟩ : MethodName) jdk_42_method_155_code 2 none ({ frames := 1, cells := 0, slots := 0, locals := 14 } : Room) [] #[(.int p1), (.int p2)] h0 (fun v h L => v = none ∧ h = h0 ∧ L = []) := by
  refine Con.of (plainFor_of_name pn_java_lang_String) #[.val (.int p1), .val (.int p2)] (fun m => efckn m p1 p2) ?_
  intro p e s m below meth c s₁ K hx hby hml hown hnm hret hlk hZ X0 e0
  have N0 := Fr.nil n0
  refine mIN K X0.here hx hby dj42_155_0 rfl rfl ?_
  refine mIN K X0.here hx hby dj42_155_1 rfl rfl ?_
  refine k_getS K X0 hx hby hZ hown (host := "") (Or.inl (W hw 99 rfl)) Via.refl e0 (S_Preconditions_SIOOBE_FORMATTER.ext O0.2) dj42_155_2 rfl fun T1 X1 e1 => ?_
  refine k_callS K X1 hx hby hZ [(.int p1), (.int p2), .null] [] hown (W hw 101 rfl) (W hw 102 rfl) (W hw 100 rfl) (W hw 103 rfl) (cpin l Z a0 hw p1 p2 h0 n0 Z0 g0 g1) e1 rfl rfl pd_0 rfl dj42_155_5 (by rw [hml]; rfl) rfl (by decide) (by decide) (LB rfl) (by decide) (by decide) fun v2 T2 L2 X2 q2 => ?_
  obtain ⟨rfl, e2, rfl⟩ := q2
  replace X2 := own_px X2
  refine k_some K (w := (.int p1)) ?_
  refine m_pop K X2.here hx hby dj42_155_8 rfl rfl ?_
  exact Go.retV X2 hx hby hlk hret dj42_155_9 (by decide) (by decide) (⟨rfl, e2, rfl⟩)
theorem efpir (m : MethodId) (x0 x1 : Int32) (x2 : Addr) : entryFrame m #[(.int x0), (.int x1), (.ref x2)] 3 = mkF m 0 #[.val (.int x0), .val (.int x1), .val (.ref x2)] [] := by first | (simp [entryFrame, mkF, argsToLocals, Value.category]; done) | rfl
theorem cpir (l : Launch) (Z : State) (a0 : Array Value) (hw : ∀ d ∈ tables_1, d.before a0 Z = true) (p1 p2 : Int32) (f1 : Addr) (h0 : Heap) (n0 : Nat) (Z0 : n0 ≤ h0.size) (g0 : ¬ (p1 < (0 : Int32))) (g1 : p1 < p2) :
    Con l Z (⟨"jdk/internal/util/Preconditions", "checkIndex", "(IILjava/util/function/BiFunction;)I"⟩ : MethodName) jdk_41_method_11_code 3 (some .int) ({ frames := 0, cells := 0, slots := 0, locals := 0 } : Room) [] #[(.int p1), (.int p2), (.ref f1)] h0 (fun v h L => v = some (.int p1) ∧ h = h0 ∧ L = []) := by
  refine Con.of (plainFor_of_name pn_jdk_internal_util_Preconditions) #[.val (.int p1), .val (.int p2), .val (.ref f1)] (fun m => efpir m p1 p2 f1) ?_
  intro p e s m below meth c s₁ K hx hby hml hown hnm hret hlk hZ X0 e0
  have N0 := Fr.nil n0
  refine mIN K X0.here hx hby dj41_11_0 rfl rfl ?_
  refine m_ifN K X0.here hx hby (q := 4) dj41_11_1 ((if0 _ _).trans (flt g0).1) rfl ?_
  refine mIN K X0.here hx hby dj41_11_4 rfl rfl ?_
  refine mIN K X0.here hx hby dj41_11_5 rfl rfl ?_
  refine m_icmpY K X0.here hx hby (q := 16) dj41_11_6 (tlt g1).1 (by decide) rfl ?_
  refine mIN K X0.here hx hby dj41_11_16 rfl rfl ?_
  exact Go.retI X0 hx hby hlk hret dj41_11_17 (by decide) (by decide) (⟨rfl, e0, rfl⟩)
theorem efckr (m : MethodId) (x0 x1 : Int32) : entryFrame m #[(.int x0), (.int x1)] 2 = mkF m 0 #[.val (.int x0), .val (.int x1)] [] := by first | (simp [entryFrame, mkF, argsToLocals, Value.category]; done) | rfl
theorem cckr (l : Launch) (Z : State) (a0 : Array Value) (hw : ∀ d ∈ tables_1, d.before a0 Z = true) (p1 p2 : Int32) (f1 : Addr) (h0 : Heap) (n0 : Nat) (Z0 : n0 ≤ h0.size) (S_Preconditions_SIOOBE_FORMATTER : Sta Z Z.heap "jdk/internal/util/Preconditions" "SIOOBE_FORMATTER" "Ljava/util/function/BiFunction;" (.ref f1)) (O0 : Old Z n0 h0) (g0 : ¬ (p1 < (0 : Int32))) (g1 : p1 < p2) :
    Con l Z (⟨"java/lang/String", "checkIndex", "(II)V"⟩ : MethodName) jdk_42_method_155_code 2 none ({ frames := 1, cells := 0, slots := 0, locals := 14 } : Room) [] #[(.int p1), (.int p2)] h0 (fun v h L => v = none ∧ h = h0 ∧ L = []) := by
  refine Con.of (plainFor_of_name pn_java_lang_String) #[.val (.int p1), .val (.int p2)] (fun m => efckr m p1 p2) ?_
  intro p e s m below meth c s₁ K hx hby hml hown hnm hret hlk hZ X0 e0
  have N0 := Fr.nil n0
  refine mIN K X0.here hx hby dj42_155_0 rfl rfl ?_
  refine mIN K X0.here hx hby dj42_155_1 rfl rfl ?_
  refine k_getS K X0 hx hby hZ hown (host := "") (Or.inl (W hw 99 rfl)) Via.refl e0 (S_Preconditions_SIOOBE_FORMATTER.ext O0.2) dj42_155_2 rfl fun T1 X1 e1 => ?_
  refine k_callS K X1 hx hby hZ [(.int p1), (.int p2), (.ref f1)] [] hown (W hw 101 rfl) (W hw 102 rfl) (W hw 100 rfl) (W hw 103 rfl) (cpir l Z a0 hw p1 p2 f1 h0 n0 Z0 g0 g1) e1 rfl rfl pd_0 rfl dj42_155_5 (by rw [hml]; rfl) rfl (by decide) (by decide) (LB rfl) (by decide) (by decide) fun v2 T2 L2 X2 q2 => ?_
  obtain ⟨rfl, e2, rfl⟩ := q2
  replace X2 := own_px X2
  refine k_some K (w := (.int p1)) ?_
  refine m_pop K X2.here hx hby dj42_155_8 rfl rfl ?_
  exact Go.retV X2 hx hby hlk hret dj42_155_9 (by decide) (by decide) (⟨rfl, e2, rfl⟩)
theorem cck (l : Launch) (Z : State) (a0 : Array Value) (hw : ∀ d ∈ tables_1, d.before a0 Z = true) (p1 p2 cz : Int32) (vf : Value) (h0 : Heap) (n0 : Nat) (Z0 : n0 ≤ h0.size) (O0 : Old Z n0 h0) (SS : SSt Z cz vf) (g0 : ¬ (p1 < (0 : Int32))) (g1 : p1 < p2) :
    Con l Z (⟨"java/lang/String", "checkIndex", "(II)V"⟩ : MethodName) jdk_42_method_155_code 2 none ({ frames := 1, cells := 0, slots := 0, locals := 14 } : Room) [] #[.int p1, .int p2] h0 (fun v h L => v = none ∧ h = h0 ∧ L = []) := by
  rcases ref_cases SS.rf with rfl | ⟨f1, rfl⟩
  · exact cckn l Z a0 hw p1 p2 h0 n0 Z0 SS.si O0 g0 g1
  · exact cckr l Z a0 hw p1 p2 f1 h0 n0 Z0 SS.si O0 g0 g1
theorem dj42_152_0 : decode jdk_42_method_152_code 0 = .ok (.getstatic 38, 3) := by decide +kernel
theorem dj42_152_3 : decode jdk_42_method_152_code 3 = .ok (.ifCond .eq 10, 3) := by decide +kernel
theorem dj42_152_6 : decode jdk_42_method_152_code 6 = .ok (.aload_n 0, 1) := by decide +kernel
theorem dj42_152_7 : decode jdk_42_method_152_code 7 = .ok (.getfield 15, 3) := by decide +kernel
theorem dj42_152_10 : decode jdk_42_method_152_code 10 = .ok (.goto 4, 3) := by decide +kernel
theorem dj42_152_14 : decode jdk_42_method_152_code 14 = .ok (.ireturn, 1) := by decide +kernel
theorem efco0 (m : MethodId) (x0 : Addr) : entryFrame m #[(.ref x0)] 1 = mkF m 0 #[.val (.ref x0)] [] := by first | (simp [entryFrame, mkF, argsToLocals, Value.category]; done) | rfl
theorem cco0 (l : Launch) (Z : State) (a0 : Array Value) (hw : ∀ d ∈ tables_1, d.before a0 Z = true) (a1 : Addr) (cz : Int32) (vf : Value) (h0 : Heap) (n0 : Nat) (Z0 : n0 ≤ h0.size) (F_coder_a1 : Fld Z h0 a1 "java/lang/String" "coder" "B" (.int (0 : Int32))) (O0 : Old Z n0 h0) (SS : SSt Z cz vf) :
    Con l Z (⟨"java/lang/String", "coder", "()B"⟩ : MethodName) jdk_42_method_152_code 1 (some .byte) ({ frames := 0, cells := 0, slots := 0, locals := 0 } : Room) [] #[(.ref a1)] h0 (fun v h L => v = some (.int (0 : Int32)) ∧ h = h0 ∧ L = []) := by
  refine Con.of (plainFor_of_name pn_java_lang_String) #[.val (.ref a1)] (fun m => efco0 m a1) ?_
  intro p e s m below meth c s₁ K hx hby hml hown hnm hret hlk hZ X0 e0
  have N0 := Fr.nil n0
  refine k_getS K X0 hx hby hZ hown (host := "") (Or.inl (W hw 46 rfl)) Via.refl e0 (SS.cs.ext O0.2) dj42_152_0 rfl fun T1 X1 e1 => ?_
  refine m_ifN K X1.here hx hby (q := 6) dj42_152_3 ((if0 _ _).trans (feq SS.cz).1) rfl ?_
  refine mAN K X1.here hx hby dj42_152_6 rfl rfl rfl ?_
  refine k_getF K X1 hx hby hZ hown (host := "") (Or.inl (W hw 31 rfl)) Via.refl e1 F_coder_a1 dj42_152_7 rfl fun T2 X2 e2 => ?_
  refine m_goto K X2.here hx hby (q := 14) dj42_152_10 (by decide) rfl ?_
  exact Go.retN X2 hx hby hlk hret (by simp) dj42_152_14 (by decide) (by decide) (by decide) (⟨rfl, e2, rfl⟩)
theorem dj42_154_0 : decode jdk_42_method_154_code 0 = .ok (.getstatic 38, 3) := by decide +kernel
theorem dj42_154_3 : decode jdk_42_method_154_code 3 = .ok (.ifCond .eq 14, 3) := by decide +kernel
theorem dj42_154_6 : decode jdk_42_method_154_code 6 = .ok (.aload_n 0, 1) := by decide +kernel
theorem dj42_154_7 : decode jdk_42_method_154_code 7 = .ok (.getfield 15, 3) := by decide +kernel
theorem dj42_154_10 : decode jdk_42_method_154_code 10 = .ok (.ifCond .ne 7, 3) := by decide +kernel
theorem dj42_154_13 : decode jdk_42_method_154_code 13 = .ok (.iconst 1, 1) := by decide +kernel
theorem dj42_154_14 : decode jdk_42_method_154_code 14 = .ok (.goto 4, 3) := by decide +kernel
theorem dj42_154_18 : decode jdk_42_method_154_code 18 = .ok (.ireturn, 1) := by decide +kernel
theorem efil0 (m : MethodId) (x0 : Addr) : entryFrame m #[(.ref x0)] 1 = mkF m 0 #[.val (.ref x0)] [] := by first | (simp [entryFrame, mkF, argsToLocals, Value.category]; done) | rfl
theorem cil0 (l : Launch) (Z : State) (a0 : Array Value) (hw : ∀ d ∈ tables_1, d.before a0 Z = true) (a1 : Addr) (cz : Int32) (vf : Value) (h0 : Heap) (n0 : Nat) (Z0 : n0 ≤ h0.size) (F_coder_a1 : Fld Z h0 a1 "java/lang/String" "coder" "B" (.int (0 : Int32))) (O0 : Old Z n0 h0) (SS : SSt Z cz vf) :
    Con l Z (⟨"java/lang/String", "isLatin1", "()Z"⟩ : MethodName) jdk_42_method_154_code 1 (some .boolean) ({ frames := 0, cells := 0, slots := 0, locals := 0 } : Room) [] #[(.ref a1)] h0 (fun v h L => v = some (.int (1 : Int32)) ∧ h = h0 ∧ L = []) := by
  refine Con.of (plainFor_of_name pn_java_lang_String) #[.val (.ref a1)] (fun m => efil0 m a1) ?_
  intro p e s m below meth c s₁ K hx hby hml hown hnm hret hlk hZ X0 e0
  have N0 := Fr.nil n0
  refine k_getS K X0 hx hby hZ hown (host := "") (Or.inl (W hw 46 rfl)) Via.refl e0 (SS.cs.ext O0.2) dj42_154_0 rfl fun T1 X1 e1 => ?_
  refine m_ifN K X1.here hx hby (q := 6) dj42_154_3 ((if0 _ _).trans (feq SS.cz).1) rfl ?_
  refine mAN K X1.here hx hby dj42_154_6 rfl rfl rfl ?_
  refine k_getF K X1 hx hby hZ hown (host := "") (Or.inl (W hw 31 rfl)) Via.refl e1 F_coder_a1 dj42_154_7 rfl fun T2 X2 e2 => ?_
  refine m_ifN K X2.here hx hby (q := 13) dj42_154_10 ((if0 _ _).trans (teq (by decide : (0 : Int32) = (0 : Int32))).2) rfl ?_
  refine mC K X2.here hx hby (1 : Int32) dj42_154_13 rfl rfl ?_
  refine m_goto K X2.here hx hby (q := 18) dj42_154_14 (by decide) rfl ?_
  exact Go.retN X2 hx hby hlk hret (by simp) dj42_154_18 (by decide) (by decide) (by decide) (⟨rfl, e2, rfl⟩)
theorem efco1 (m : MethodId) (x0 : Addr) : entryFrame m #[(.ref x0)] 1 = mkF m 0 #[.val (.ref x0)] [] := by first | (simp [entryFrame, mkF, argsToLocals, Value.category]; done) | rfl
theorem cco1 (l : Launch) (Z : State) (a0 : Array Value) (hw : ∀ d ∈ tables_1, d.before a0 Z = true) (a1 : Addr) (cz : Int32) (vf : Value) (h0 : Heap) (n0 : Nat) (Z0 : n0 ≤ h0.size) (F_coder_a1 : Fld Z h0 a1 "java/lang/String" "coder" "B" (.int (1 : Int32))) (O0 : Old Z n0 h0) (SS : SSt Z cz vf) :
    Con l Z (⟨"java/lang/String", "coder", "()B"⟩ : MethodName) jdk_42_method_152_code 1 (some .byte) ({ frames := 0, cells := 0, slots := 0, locals := 0 } : Room) [] #[(.ref a1)] h0 (fun v h L => v = some (.int (1 : Int32)) ∧ h = h0 ∧ L = []) := by
  refine Con.of (plainFor_of_name pn_java_lang_String) #[.val (.ref a1)] (fun m => efco1 m a1) ?_
  intro p e s m below meth c s₁ K hx hby hml hown hnm hret hlk hZ X0 e0
  have N0 := Fr.nil n0
  refine k_getS K X0 hx hby hZ hown (host := "") (Or.inl (W hw 46 rfl)) Via.refl e0 (SS.cs.ext O0.2) dj42_152_0 rfl fun T1 X1 e1 => ?_
  refine m_ifN K X1.here hx hby (q := 6) dj42_152_3 ((if0 _ _).trans (feq SS.cz).1) rfl ?_
  refine mAN K X1.here hx hby dj42_152_6 rfl rfl rfl ?_
  refine k_getF K X1 hx hby hZ hown (host := "") (Or.inl (W hw 31 rfl)) Via.refl e1 F_coder_a1 dj42_152_7 rfl fun T2 X2 e2 => ?_
  refine m_goto K X2.here hx hby (q := 14) dj42_152_10 (by decide) rfl ?_
  exact Go.retN X2 hx hby hlk hret (by simp) dj42_152_14 (by decide) (by decide) (by decide) (⟨rfl, e2, rfl⟩)
theorem dj42_154_17 : decode jdk_42_method_154_code 17 = .ok (.iconst 0, 1) := by decide +kernel
theorem efil1 (m : MethodId) (x0 : Addr) : entryFrame m #[(.ref x0)] 1 = mkF m 0 #[.val (.ref x0)] [] := by first | (simp [entryFrame, mkF, argsToLocals, Value.category]; done) | rfl
theorem cil1 (l : Launch) (Z : State) (a0 : Array Value) (hw : ∀ d ∈ tables_1, d.before a0 Z = true) (a1 : Addr) (cz : Int32) (vf : Value) (h0 : Heap) (n0 : Nat) (Z0 : n0 ≤ h0.size) (F_coder_a1 : Fld Z h0 a1 "java/lang/String" "coder" "B" (.int (1 : Int32))) (O0 : Old Z n0 h0) (SS : SSt Z cz vf) :
    Con l Z (⟨"java/lang/String", "isLatin1", "()Z"⟩ : MethodName) jdk_42_method_154_code 1 (some .boolean) ({ frames := 0, cells := 0, slots := 0, locals := 0 } : Room) [] #[(.ref a1)] h0 (fun v h L => v = some (.int (0 : Int32)) ∧ h = h0 ∧ L = []) := by
  refine Con.of (plainFor_of_name pn_java_lang_String) #[.val (.ref a1)] (fun m => efil1 m a1) ?_
  intro p e s m below meth c s₁ K hx hby hml hown hnm hret hlk hZ X0 e0
  have N0 := Fr.nil n0
  refine k_getS K X0 hx hby hZ hown (host := "") (Or.inl (W hw 46 rfl)) Via.refl e0 (SS.cs.ext O0.2) dj42_154_0 rfl fun T1 X1 e1 => ?_
  refine m_ifN K X1.here hx hby (q := 6) dj42_154_3 ((if0 _ _).trans (feq SS.cz).1) rfl ?_
  refine mAN K X1.here hx hby dj42_154_6 rfl rfl rfl ?_
  refine k_getF K X1 hx hby hZ hown (host := "") (Or.inl (W hw 31 rfl)) Via.refl e1 F_coder_a1 dj42_154_7 rfl fun T2 X2 e2 => ?_
  refine m_ifY K X2.here hx hby (q := 17) dj42_154_10 ((if0 _ _).trans (feq (by decide : ¬ ((1 : Int32) = (0 : Int32)))).2) (by decide) rfl ?_
  refine mC K X2.here hx hby (0 : Int32) dj42_154_17 rfl rfl ?_
  exact Go.retN X2 hx hby hlk hret (by simp) dj42_154_18 (by decide) (by decide) (by decide) (⟨rfl, e2, rfl⟩)
theorem dj52_3_0 : decode jdk_52_method_3_code 0 = .ok (.iload_n 0, 1) := by decide +kernel
theorem dj52_3_1 : decode jdk_52_method_3_code 1 = .ok (.ifCond .ge 11, 3) := by decide +kernel
theorem dj52_3_12 : decode jdk_52_method_3_code 12 = .ok (.iload_n 0, 1) := by decide +kernel
theorem dj52_3_13 : decode jdk_52_method_3_code 13 = .ok (.ldc 20, 2) := by decide +kernel
theorem dj52_3_15 : decode jdk_52_method_3_code 15 = .ok (.if_icmp .lt 40, 3) := by decide +kernel
theorem dj52_3_55 : decode jdk_52_method_3_code 55 = .ok (.iload_n 0, 1) := by decide +kernel
theorem dj52_3_56 : decode jdk_52_method_3_code 56 = .ok (.iconst 1, 1) := by decide +kernel
theorem dj52_3_57 : decode jdk_52_method_3_code 57 = .ok (.ishl, 1) := by decide +kernel
theorem dj52_3_58 : decode jdk_52_method_3_code 58 = .ok (.ireturn, 1) := by decide +kernel
theorem pn_java_lang_StringUTF16 : plainName "java/lang/StringUTF16" = true := by first | (simp [plainName, overriddenIn]; done) | decide +kernel
theorem efnl1 (m : MethodId) (x0 : Int32) : entryFrame m #[(.int x0)] 1 = mkF m 0 #[.val (.int x0)] [] := by first | (simp [entryFrame, mkF, argsToLocals, Value.category]; done) | rfl
theorem cnl1 (l : Launch) (Z : State) (a0 : Array Value) (hw : ∀ d ∈ tables_1, d.before a0 Z = true) (cz : Int32) (vf : Value) (h0 : Heap) (n0 : Nat) (Z0 : n0 ≤ h0.size) (O0 : Old Z n0 h0) (SS : SSt Z cz vf) :
    Con l Z (⟨"java/lang/StringUTF16", "newBytesLength", "(I)I"⟩ : MethodName) jdk_52_method_3_code 1 (some .int) ({ frames := 0, cells := 0, slots := 0, locals := 0 } : Room) [] #[(.int (1 : Int32))] h0 (fun v h L => v = some (.int (2 : Int32)) ∧ h = h0 ∧ L = []) := by
  refine Con.of (plainFor_of_name pn_java_lang_StringUTF16) #[.val (.int (1 : Int32))] (fun m => efnl1 m (1 : Int32)) ?_
  intro p e s m below meth c s₁ K hx hby hml hown hnm hret hlk hZ X0 e0
  have N0 := Fr.nil n0
  refine mIN K X0.here hx hby dj52_3_0 rfl rfl ?_
  refine m_ifY K X0.here hx hby (q := 12) dj52_3_1 ((if0 _ _).trans (flt (by decide : ¬ ((1 : Int32) < (0 : Int32)))).2.1) (by decide) rfl ?_
  refine mIN K X0.here hx hby dj52_3_12 rfl rfl ?_
  refine m_ldc K X0 hx hby hZ hown (W hw 118 rfl) dj52_3_13 rfl ?_
  refine m_icmpY K X0.here hx hby (q := 55) dj52_3_15 (tlt (by decide : (1 : Int32) < (1073741823 : Int32))).1 (by decide) rfl ?_
  refine mIN K X0.here hx hby dj52_3_55 rfl rfl ?_
  refine mC K X0.here hx hby (1 : Int32) dj52_3_56 rfl rfl ?_
  refine m_ishl K X0.here hx hby (2 : Int32) dj52_3_57 rfl rfl ?_
  exact Go.retI X0 hx hby hlk hret dj52_3_58 (by decide) (by decide) (⟨rfl, e0, rfl⟩)
theorem dj52_2_0 : decode jdk_52_method_2_code 0 = .ok (.iload_n 0, 1) := by decide +kernel
theorem dj52_2_1 : decode jdk_52_method_2_code 1 = .ok (.invokestatic 11, 3) := by decide +kernel
theorem dj52_2_4 : decode jdk_52_method_2_code 4 = .ok (.newarray .byte, 2) := by decide +kernel
theorem dj52_2_6 : decode jdk_52_method_2_code 6 = .ok (.areturn, 1) := by decide +kernel
theorem pd_1 : parseMethodDescriptor "(I)I" = some ⟨[.int], some .int⟩ := by decide +kernel
theorem efnf1 (m : MethodId) (x0 : Int32) : entryFrame m #[(.int x0)] 1 = mkF m 0 #[.val (.int x0)] [] := by first | (simp [entryFrame, mkF, argsToLocals, Value.category]; done) | rfl
theorem cnf1 (l : Launch) (Z : State) (a0 : Array Value) (hw : ∀ d ∈ tables_1, d.before a0 Z = true) (cz : Int32) (vf : Value) (h0 : Heap) (n0 : Nat) (Z0 : n0 ≤ h0.size) (O0 : Old Z n0 h0) (SS : SSt Z cz vf) :
    Con l Z (⟨"java/lang/StringUTF16", "newBytesFor", "(I)[B"⟩ : MethodName) jdk_52_method_2_code 1 (some (.array .byte)) ({ frames := 1, cells := 1, slots := 2, locals := 12 } : Room) [] #[(.int (1 : Int32))] h0 (fun v h L => ∃ bv : Addr, v = some (.ref bv) ∧ Fr n0 L ∧ Keep h0 h [] ∧ h0.size ≤ bv ∧ Av Z h bv .byte [(.int (0 : Int32)), (.int (0 : Int32))]) := by
  refine Con.of (plainFor_of_name pn_java_lang_StringUTF16) #[.val (.int (1 : Int32))] (fun m => efnf1 m (1 : Int32)) ?_
  intro p e s m below meth c s₁ K hx hby hml hown hnm hret hlk hZ X0 e0
  have N0 := Fr.nil n0
  refine mIN K X0.here hx hby dj52_2_0 rfl rfl ?_
  refine k_callS K X0 hx hby hZ [(.int (1 : Int32))] [] hown (W hw 115 rfl) (W hw 116 rfl) (W hw 74 rfl) (W hw 117 rfl) (cnl1 l Z a0 hw cz vf h0 n0 Z0 O0 SS) e0 rfl rfl pd_1 rfl dj52_2_1 (by rw [hml]; rfl) rfl (by decide) (by decide) (LB rfl) (by decide) (by decide) fun v1 T1 L1 X1 q1 => ?_
  obtain ⟨rfl, e1, rfl⟩ := q1
  replace X1 := own_px X1
  refine k_some K (w := (.int (2 : Int32))) ?_
  refine k_newP K X1 hx hby hZ 2 2 (W hw 25 rfl) e1 dj52_2_4 rfl (by decide) rfl (by decide) (by decide) (by decide) (by decide) fun T2 h2 b2 X2 e2 E2 g2 V_b2 => ?_
  have sz_b2 : h0.size ≤ b2 := Nat.le_trans (Nat.le_refl _) (Nat.le_of_eq g2.symm)
  have g_b2 : n0 ≤ b2 := Nat.le_trans Z0 sz_b2
  replace V_b2 : Av Z h2 b2 .byte [(.int (0 : Int32)), (.int (0 : Int32))] := V_b2
  exact Go.retO X2 hx hby hlk hret rfl (Or.inr (Or.inr (Or.inr (Or.inr ⟨rfl, rfl, rfl⟩)))) dj52_2_6 (by decide) (by decide) (by rw [e2]; exact ⟨b2, rfl, N0, ((Keep.refl h0 []).ext E2), sz_b2, V_b2⟩)
theorem dj52_6_0 : decode jdk_52_method_6_code 0 = .ok (.aload_n 0, 1) := by decide +kernel
theorem dj52_6_1 : decode jdk_52_method_6_code 1 = .ok (.arraylength, 1) := by decide +kernel
theorem dj52_6_2 : decode jdk_52_method_6_code 2 = .ok (.iconst 1, 1) := by decide +kernel
theorem dj52_6_3 : decode jdk_52_method_6_code 3 = .ok (.ishr, 1) := by decide +kernel
theorem dj52_6_4 : decode jdk_52_method_6_code 4 = .ok (.ireturn, 1) := by decide +kernel
theorem eful1 (m : MethodId) (x0 : Addr) : entryFrame m #[(.ref x0)] 1 = mkF m 0 #[.val (.ref x0)] [] := by first | (simp [entryFrame, mkF, argsToLocals, Value.category]; done) | rfl
theorem cul1 (l : Launch) (Z : State) (a0 : Array Value) (hw : ∀ d ∈ tables_1, d.before a0 Z = true) (a1 : Addr) (cz : Int32) (vf : Value) (y0 y1 : Int32) (h0 : Heap) (n0 : Nat) (Z0 : n0 ≤ h0.size) (A_a1 : Av Z h0 a1 .byte [(.int y0), (.int y1)]) (O0 : Old Z n0 h0) (SS : SSt Z cz vf) :
    Con l Z (⟨"java/lang/StringUTF16", "length", "([B)I"⟩ : MethodName) jdk_52_method_6_code 1 (some .int) ({ frames := 0, cells := 0, slots := 0, locals := 0 } : Room) [] #[(.ref a1)] h0 (fun v h L => v = some (.int (1 : Int32)) ∧ h = h0 ∧ L = []) := by
  refine Con.of (plainFor_of_name pn_java_lang_StringUTF16) #[.val (.ref a1)] (fun m => eful1 m a1) ?_
  intro p e s m below meth c s₁ K hx hby hml hown hnm hret hlk hZ X0 e0
  have N0 := Fr.nil n0
  refine mAN K X0.here hx hby dj52_6_0 rfl rfl rfl ?_
  refine k_len K X0 hx hby hZ (2 : Int32) e0 A_a1 rfl dj52_6_1 rfl ?_
  refine mC K X0.here hx hby (1 : Int32) dj52_6_2 rfl rfl ?_
  refine m_ishr K X0.here hx hby (1 : Int32) dj52_6_3 rfl rfl ?_
  exact Go.retI X0 hx hby hlk hret dj52_6_4 (by decide) (by decide) (⟨rfl, e0, rfl⟩)
theorem dj52_91_0 : decode jdk_52_method_91_code 0 = .ok (.iload_n 0, 1) := by decide +kernel
theorem dj52_91_1 : decode jdk_52_method_91_code 1 = .ok (.aload_n 1, 1) := by decide +kernel
theorem dj52_91_2 : decode jdk_52_method_91_code 2 = .ok (.invokestatic 48, 3) := by decide +kernel
theorem dj52_91_5 : decode jdk_52_method_91_code 5 = .ok (.invokestatic 414, 3) := by decide +kernel
theorem dj52_91_8 : decode jdk_52_method_91_code 8 = .ok (.return_, 1) := by decide +kernel
theorem pd_2 : parseMethodDescriptor "([B)I" = some ⟨[(.array .byte)], some .int⟩ := by decide +kernel
theorem pd_3 : parseMethodDescriptor "(II)V" = some ⟨[.int, .int], none⟩ := by decide +kernel
theorem efuk1 (m : MethodId) (x0 : Int32) (x1 : Addr) : entryFrame m #[(.int x0), (.ref x1)] 2 = mkF m 0 #[.val (.int x0), .val (.ref x1)] [] := by first | (simp [entryFrame, mkF, argsToLocals, Value.category]; done) | rfl
theorem cuk1 (l : Launch) (Z : State) (a0 : Array Value) (hw : ∀ d ∈ tables_1, d.before a0 Z = true) (p1 : Int32) (a1 : Addr) (cz : Int32) (vf : Value) (y0 y1 : Int32) (h0 : Heap) (n0 : Nat) (Z0 : n0 ≤ h0.size) (A_a1 : Av Z h0 a1 .byte [(.int y0), (.int y1)]) (O0 : Old Z n0 h0) (SS : SSt Z cz vf) (g0 : ¬ (p1 < (0 : Int32))) (g1 : p1 < (1 : Int32)) :
    Con l Z (⟨"java/lang/StringUTF16", "checkIndex", "(I[B)V"⟩ : MethodName) jdk_52_method_91_code 2 none ({ frames := 2, cells := 0, slots := 0, locals := 27 } : Room) [] #[(.int p1), (.ref a1)] h0 (fun v h L => v = none ∧ h = h0 ∧ L = []) := by
  refine Con.of (plainFor_of_name pn_java_lang_StringUTF16) #[.val (.int p1), .val (.ref a1)] (fun m => efuk1 m p1 a1) ?_
  intro p e s m below meth c s₁ K hx hby hml hown hnm hret hlk hZ X0 e0
  have N0 := Fr.nil n0
  refine mIN K X0.here hx hby dj52_91_0 rfl rfl ?_
  refine mAN K X0.here hx hby dj52_91_1 rfl rfl rfl ?_
  refine k_callS K X0 hx hby hZ [(.ref a1)] [(.int p1)] hown (W hw 134 rfl) (W hw 135 rfl) (W hw 74 rfl) (W hw 136 rfl) (cul1 l Z a0 hw a1 cz vf y0 y1 h0 n0 Z0 A_a1 O0 SS) e0 rfl rfl pd_2 rfl dj52_91_2 (by rw [hml]; rfl) rfl (by decide) (by decide) (LB rfl) (by decide) (by decide) fun v1 T1 L1 X1 q1 => ?_
  obtain ⟨rfl, e1, rfl⟩ := q1
  replace X1 := own_px X1
  refine k_some K (w := (.int (1 : Int32))) ?_
  refine k_callS K X1 hx hby hZ [(.int p1), (.int (1 : Int32))] [] hown (W hw 137 rfl) (W hw 97 rfl) (W hw 12 rfl) (W hw 98 rfl) (cck l Z a0 hw p1 (1 : Int32) cz vf h0 n0 Z0 O0 SS g0 g1) e1 rfl rfl pd_3 rfl dj52_91_5 (by rw [hml]; rfl) rfl (by decide) (by decide) (LB rfl) (by decide) (by decide) fun v2 T2 L2 X2 q2 => ?_
  obtain ⟨rfl, e2, rfl⟩ := q2
  replace X2 := own_px X2
  refine k_none K ?_
  exact Go.retV X2 hx hby hlk hret dj52_91_8 (by decide) (by decide) (⟨rfl, e2, rfl⟩)
def wpc1_0_1 (p3 : Int32) : Int32 := ((p3 >>> ((0 : Int32) &&& 31)).toInt8.toInt32)
def wpc1_0_2 (p3 : Int32) : Int32 := ((p3 >>> ((8 : Int32) &&& 31)).toInt8.toInt32)
theorem dj52_4_0 : decode jdk_52_method_4_code 0 = .ok (.getstatic 44, 3) := by decide +kernel
theorem dj52_4_3 : decode jdk_52_method_4_code 3 = .ok (.ifCond .ne 25, 3) := by decide +kernel
theorem dj52_4_28 : decode jdk_52_method_4_code 28 = .ok (.iload_n 1, 1) := by decide +kernel
theorem dj52_4_29 : decode jdk_52_method_4_code 29 = .ok (.iconst 1, 1) := by decide +kernel
theorem dj52_4_30 : decode jdk_52_method_4_code 30 = .ok (.ishl, 1) := by decide +kernel
theorem dj52_4_31 : decode jdk_52_method_4_code 31 = .ok (.istore_n 1, 1) := by decide +kernel
theorem dj52_4_32 : decode jdk_52_method_4_code 32 = .ok (.aload_n 0, 1) := by decide +kernel
theorem dj52_4_33 : decode jdk_52_method_4_code 33 = .ok (.iload_n 1, 1) := by decide +kernel
theorem dj52_4_34 : decode jdk_52_method_4_code 34 = .ok (.iinc 1 1, 3) := by decide +kernel
theorem dj52_4_37 : decode jdk_52_method_4_code 37 = .ok (.iload_n 2, 1) := by decide +kernel
theorem dj52_4_38 : decode jdk_52_method_4_code 38 = .ok (.getstatic 59, 3) := by decide +kernel
theorem dj52_4_41 : decode jdk_52_method_4_code 41 = .ok (.ishr, 1) := by decide +kernel
theorem dj52_4_42 : decode jdk_52_method_4_code 42 = .ok (.i2b, 1) := by decide +kernel
theorem dj52_4_43 : decode jdk_52_method_4_code 43 = .ok (.bastore, 1) := by decide +kernel
theorem dj52_4_44 : decode jdk_52_method_4_code 44 = .ok (.aload_n 0, 1) := by decide +kernel
theorem dj52_4_45 : decode jdk_52_method_4_code 45 = .ok (.iload_n 1, 1) := by decide +kernel
theorem dj52_4_46 : decode jdk_52_method_4_code 46 = .ok (.iload_n 2, 1) := by decide +kernel
theorem dj52_4_47 : decode jdk_52_method_4_code 47 = .ok (.getstatic 63, 3) := by decide +kernel
theorem dj52_4_50 : decode jdk_52_method_4_code 50 = .ok (.ishr, 1) := by decide +kernel
theorem dj52_4_51 : decode jdk_52_method_4_code 51 = .ok (.i2b, 1) := by decide +kernel
theorem dj52_4_52 : decode jdk_52_method_4_code 52 = .ok (.bastore, 1) := by decide +kernel
theorem dj52_4_53 : decode jdk_52_method_4_code 53 = .ok (.return_, 1) := by decide +kernel
theorem efpc1_0 (m : MethodId) (x0 : Addr) (x1 x2 : Int32) : entryFrame m #[(.ref x0), (.int x1), (.int x2)] 3 = mkF m 0 #[.val (.ref x0), .val (.int x1), .val (.int x2)] [] := by first | (simp [entryFrame, mkF, argsToLocals, Value.category]; done) | rfl
theorem cpc1_0 (l : Launch) (Z : State) (a0 : Array Value) (hw : ∀ d ∈ tables_1, d.before a0 Z = true) (a1 : Addr) (p3 cz : Int32) (vf : Value) (y0 y1 : Int32) (h0 : Heap) (n0 : Nat) (Z0 : n0 ≤ h0.size) (A_a1 : Av Z h0 a1 .byte [(.int y0), (.int y1)]) (O0 : Old Z n0 h0) (g_a1 : n0 ≤ a1) (SS : SSt Z cz vf) :
    Con l Z (⟨"java/lang/StringUTF16", "putChar", "([BII)V"⟩ : MethodName) jdk_52_method_4_code 3 none ({ frames := 0, cells := 0, slots := 0, locals := 0 } : Room) [] #[(.ref a1), (.int (0 : Int32)), (.int p3)] h0 (fun v h L => v = none ∧ Fr n0 L ∧ Keep h0 h [a1] ∧ Av Z h a1 .byte [(.int (BLO p3)), (.int (BHI p3))]) := by
  refine Con.of (plainFor_of_name pn_java_lang_StringUTF16) #[.val (.ref a1), .val (.int (0 : Int32)), .val (.int p3)] (fun m => efpc1_0 m a1 (0 : Int32) p3) ?_
  intro p e s m below meth c s₁ K hx hby hml hown hnm hret hlk hZ X0 e0
  have N0 := Fr.nil n0
  refine k_getS K X0 hx hby hZ hown (host := "") (Or.inl (W hw 122 rfl)) Via.refl e0 (SS.ad.ext O0.2) dj52_4_0 rfl fun T1 X1 e1 => ?_
  refine m_ifY K X1.here hx hby (q := 28) dj52_4_3 ((if0 _ _).trans (feq (by decide : ¬ ((1 : Int32) = (0 : Int32)))).2) (by decide) rfl ?_
  refine mIN K X1.here hx hby dj52_4_28 rfl rfl ?_
  refine mC K X1.here hx hby (1 : Int32) dj52_4_29 rfl rfl ?_
  refine m_ishl K X1.here hx hby (0 : Int32) dj52_4_30 rfl rfl ?_
  refine m_istoreN K X1.here hx hby #[.val (.ref a1), .val (.int (0 : Int32)), .val (.int p3)] dj52_4_31 rfl rfl ?_
  refine mAN K X1.here hx hby dj52_4_32 rfl rfl rfl ?_
  refine mIN K X1.here hx hby dj52_4_33 rfl rfl ?_
  refine mJ K X1.here hx hby #[.val (.ref a1), .val (.int (1 : Int32)), .val (.int p3)] dj52_4_34 rfl rfl rfl ?_
  refine mIN K X1.here hx hby dj52_4_37 rfl rfl ?_
  refine k_getS K X1 hx hby hZ hown (host := "") (Or.inl (W hw 123 rfl)) Via.refl e1 (SS.hi.ext O0.2) dj52_4_38 rfl fun T2 X2 e2 => ?_
  refine m_ishr K X2.here hx hby (p3 >>> ((0 : Int32) &&& 31)) dj52_4_41 rfl rfl ?_
  refine m_i2b K X2.here hx hby (wpc1_0_1 p3) dj52_4_42 rfl rfl ?_
  refine k_stB K X2 hx hby hZ e2 A_a1 (by decide) (LB rfl) dj52_4_43 rfl fun T3 h3 X3 e3 W3 V3 => ?_
  replace V3 : Av Z h3 a1 .byte [(.int (nar .byte (wpc1_0_1 p3))), (.int y1)] := V3
  have N3 := Fr.snoc X3 N0 g_a1
  refine mAN K X3.here hx hby dj52_4_44 rfl rfl rfl ?_
  refine mIN K X3.here hx hby dj52_4_45 rfl rfl ?_
  refine mIN K X3.here hx hby dj52_4_46 rfl rfl ?_
  refine k_getS K X3 hx hby hZ hown (host := "") (Or.inl (W hw 124 rfl)) Via.refl e3 (SS.lo.ext (O0.wr W3 g_a1).2) dj52_4_47 rfl fun T4 X4 e4 => ?_
  refine m_ishr K X4.here hx hby (p3 >>> ((8 : Int32) &&& 31)) dj52_4_50 rfl rfl ?_
  refine m_i2b K X4.here hx hby (wpc1_0_2 p3) dj52_4_51 rfl rfl ?_
  refine k_stB K X4 hx hby hZ e4 V3 (by decide) (LB rfl) dj52_4_52 rfl fun T5 h5 X5 e5 W5 V5 => ?_
  replace V5 : Av Z h5 a1 .byte [(.int (nar .byte (wpc1_0_1 p3))), (.int (nar .byte (wpc1_0_2 p3)))] := V5
  have N5 := Fr.snoc X5 N3 g_a1
  exact Go.retV X5 hx hby hlk hret dj52_4_53 (by decide) (by decide) (by rw [e5]; exact ⟨rfl, N5, (((Keep.refl h0 [a1]).wr W3 (Or.inl (by simp))).wr W5 (Or.inl (by simp))), V5⟩)
def wgc1_0_1 (y0 : Int32) : Int32 := ((y0 &&& (255 : Int32)) <<< ((0 : Int32) &&& 31))
def wgc1_0_2 (y1 : Int32) : Int32 := ((y1 &&& (255 : Int32)) <<< ((8 : Int32) &&& 31))
def wgc1_0_3 (y0 y1 : Int32) : Int32 := (((wgc1_0_1 y0) ||| (wgc1_0_2 y1)).toUInt32.toUInt16.toUInt32.toInt32)
theorem dj52_5_0 : decode jdk_52_method_5_code 0 = .ok (.getstatic 44, 3) := by decide +kernel
theorem dj52_5_3 : decode jdk_52_method_5_code 3 = .ok (.ifCond .ne 25, 3) := by decide +kernel
theorem dj52_5_28 : decode jdk_52_method_5_code 28 = .ok (.iload_n 1, 1) := by decide +kernel
theorem dj52_5_29 : decode jdk_52_method_5_code 29 = .ok (.iconst 1, 1) := by decide +kernel
theorem dj52_5_30 : decode jdk_52_method_5_code 30 = .ok (.ishl, 1) := by decide +kernel
theorem dj52_5_31 : decode jdk_52_method_5_code 31 = .ok (.istore_n 1, 1) := by decide +kernel
theorem dj52_5_32 : decode jdk_52_method_5_code 32 = .ok (.aload_n 0, 1) := by decide +kernel
theorem dj52_5_33 : decode jdk_52_method_5_code 33 = .ok (.iload_n 1, 1) := by decide +kernel
theorem dj52_5_34 : decode jdk_52_method_5_code 34 = .ok (.iinc 1 1, 3) := by decide +kernel
theorem dj52_5_37 : decode jdk_52_method_5_code 37 = .ok (.baload, 1) := by decide +kernel
theorem dj52_5_38 : decode jdk_52_method_5_code 38 = .ok (.sipush 255, 3) := by decide +kernel
theorem dj52_5_41 : decode jdk_52_method_5_code 41 = .ok (.iand, 1) := by decide +kernel
theorem dj52_5_42 : decode jdk_52_method_5_code 42 = .ok (.getstatic 59, 3) := by decide +kernel
theorem dj52_5_45 : decode jdk_52_method_5_code 45 = .ok (.ishl, 1) := by decide +kernel
theorem dj52_5_46 : decode jdk_52_method_5_code 46 = .ok (.aload_n 0, 1) := by decide +kernel
theorem dj52_5_47 : decode jdk_52_method_5_code 47 = .ok (.iload_n 1, 1) := by decide +kernel
theorem dj52_5_48 : decode jdk_52_method_5_code 48 = .ok (.baload, 1) := by decide +kernel
theorem dj52_5_49 : decode jdk_52_method_5_code 49 = .ok (.sipush 255, 3) := by decide +kernel
theorem dj52_5_52 : decode jdk_52_method_5_code 52 = .ok (.iand, 1) := by decide +kernel
theorem dj52_5_53 : decode jdk_52_method_5_code 53 = .ok (.getstatic 63, 3) := by decide +kernel
theorem dj52_5_56 : decode jdk_52_method_5_code 56 = .ok (.ishl, 1) := by decide +kernel
theorem dj52_5_57 : decode jdk_52_method_5_code 57 = .ok (.ior, 1) := by decide +kernel
theorem dj52_5_58 : decode jdk_52_method_5_code 58 = .ok (.i2c, 1) := by decide +kernel
theorem dj52_5_59 : decode jdk_52_method_5_code 59 = .ok (.ireturn, 1) := by decide +kernel
theorem efgc1_0 (m : MethodId) (x0 : Addr) (x1 : Int32) : entryFrame m #[(.ref x0), (.int x1)] 2 = mkF m 0 #[.val (.ref x0), .val (.int x1)] [] := by first | (simp [entryFrame, mkF, argsToLocals, Value.category]; done) | rfl
theorem cgc1_0 (l : Launch) (Z : State) (a0 : Array Value) (hw : ∀ d ∈ tables_1, d.before a0 Z = true) (a1 : Addr) (cz : Int32) (vf : Value) (y0 y1 : Int32) (h0 : Heap) (n0 : Nat) (Z0 : n0 ≤ h0.size) (A_a1 : Av Z h0 a1 .byte [(.int y0), (.int y1)]) (O0 : Old Z n0 h0) (SS : SSt Z cz vf) :
    Con l Z (⟨"java/lang/StringUTF16", "getChar", "([BI)C"⟩ : MethodName) jdk_52_method_5_code 2 (some .char) ({ frames := 0, cells := 0, slots := 0, locals := 0 } : Room) [] #[(.ref a1), (.int (0 : Int32))] h0 (fun v h L => v = some (.int (GCH y0 y1)) ∧ h = h0 ∧ L = []) := by
  refine Con.of (plainFor_of_name pn_java_lang_StringUTF16) #[.val (.ref a1), .val (.int (0 : Int32))] (fun m => efgc1_0 m a1 (0 : Int32)) ?_
  intro p e s m below meth c s₁ K hx hby hml hown hnm hret hlk hZ X0 e0
  have N0 := Fr.nil n0
  refine k_getS K X0 hx hby hZ hown (host := "") (Or.inl (W hw 122 rfl)) Via.refl e0 (SS.ad.ext O0.2) dj52_5_0 rfl fun T1 X1 e1 => ?_
  refine m_ifY K X1.here hx hby (q := 28) dj52_5_3 ((if0 _ _).trans (feq (by decide : ¬ ((1 : Int32) = (0 : Int32)))).2) (by decide) rfl ?_
  refine mIN K X1.here hx hby dj52_5_28 rfl rfl ?_
  refine mC K X1.here hx hby (1 : Int32) dj52_5_29 rfl rfl ?_
  refine m_ishl K X1.here hx hby (0 : Int32) dj52_5_30 rfl rfl ?_
  refine m_istoreN K X1.here hx hby #[.val (.ref a1), .val (.int (0 : Int32))] dj52_5_31 rfl rfl ?_
  refine mAN K X1.here hx hby dj52_5_32 rfl rfl rfl ?_
  refine mIN K X1.here hx hby dj52_5_33 rfl rfl ?_
  refine mJ K X1.here hx hby #[.val (.ref a1), .val (.int (1 : Int32))] dj52_5_34 rfl rfl rfl ?_
  refine k_ldB K X1 hx hby hZ e1 A_a1 (v := (.int y0)) (by decide) rfl dj52_5_37 rfl ?_
  refine mP K X1.here hx hby (255 : Int32) dj52_5_38 rfl rfl ?_
  refine m_iand K X1.here hx hby (y0 &&& (255 : Int32)) dj52_5_41 rfl rfl ?_
  refine k_getS K X1 hx hby hZ hown (host := "") (Or.inl (W hw 123 rfl)) Via.refl e1 (SS.hi.ext O0.2) dj52_5_42 rfl fun T2 X2 e2 => ?_
  refine m_ishl K X2.here hx hby (wgc1_0_1 y0) dj52_5_45 rfl rfl ?_
  refine mAN K X2.here hx hby dj52_5_46 rfl rfl rfl ?_
  refine mIN K X2.here hx hby dj52_5_47 rfl rfl ?_
  refine k_ldB K X2 hx hby hZ e2 A_a1 (v := (.int y1)) (by decide) rfl dj52_5_48 rfl ?_
  refine mP K X2.here hx hby (255 : Int32) dj52_5_49 rfl rfl ?_
  refine m_iand K X2.here hx hby (y1 &&& (255 : Int32)) dj52_5_52 rfl rfl ?_
  refine k_getS K X2 hx hby hZ hown (host := "") (Or.inl (W hw 124 rfl)) Via.refl e2 (SS.lo.ext O0.2) dj52_5_53 rfl fun T3 X3 e3 => ?_
  refine m_ishl K X3.here hx hby (wgc1_0_2 y1) dj52_5_56 rfl rfl ?_
  refine m_ior K X3.here hx hby ((wgc1_0_1 y0) ||| (wgc1_0_2 y1)) dj52_5_57 rfl rfl ?_
  refine m_i2c K X3.here hx hby (wgc1_0_3 y0 y1) dj52_5_58 rfl rfl ?_
  exact Go.retN X3 hx hby hlk hret (by simp) dj52_5_59 (by decide) (by decide) (own_nc _) (⟨rfl, e3, rfl⟩)
theorem dj52_83_0 : decode jdk_52_method_83_code 0 = .ok (.iload_n 1, 1) := by decide +kernel
theorem dj52_83_1 : decode jdk_52_method_83_code 1 = .ok (.aload_n 0, 1) := by decide +kernel
theorem dj52_83_2 : decode jdk_52_method_83_code 2 = .ok (.invokestatic 67, 3) := by decide +kernel
theorem dj52_83_5 : decode jdk_52_method_83_code 5 = .ok (.aload_n 0, 1) := by decide +kernel
theorem dj52_83_6 : decode jdk_52_method_83_code 6 = .ok (.iload_n 1, 1) := by decide +kernel
theorem dj52_83_7 : decode jdk_52_method_83_code 7 = .ok (.invokestatic 71, 3) := by decide +kernel
theorem dj52_83_10 : decode jdk_52_method_83_code 10 = .ok (.ireturn, 1) := by decide +kernel
theorem pd_4 : parseMethodDescriptor "(I[B)V" = some ⟨[.int, (.array .byte)], none⟩ := by decide +kernel
theorem pd_5 : parseMethodDescriptor "([BI)C" = some ⟨[(.array .byte), .int], some .char⟩ := by decide +kernel
theorem efuc1_0 (m : MethodId) (x0 : Addr) (x1 : Int32) : entryFrame m #[(.ref x0), (.int x1)] 2 = mkF m 0 #[.val (.ref x0), .val (.int x1)] [] := by first | (simp [entryFrame, mkF, argsToLocals, Value.category]; done) | rfl
theorem cuc1_0 (l : Launch) (Z : State) (a0 : Array Value) (hw : ∀ d ∈ tables_1, d.before a0 Z = true) (a1 : Addr) (cz : Int32) (vf : Value) (y0 y1 : Int32) (h0 : Heap) (n0 : Nat) (Z0 : n0 ≤ h0.size) (A_a1 : Av Z h0 a1 .byte [(.int y0), (.int y1)]) (O0 : Old Z n0 h0) (SS : SSt Z cz vf) :
    Con l Z (⟨"java/lang/StringUTF16", "charAt", "([BI)C"⟩ : MethodName) jdk_52_method_83_code 2 (some .char) ({ frames := 3, cells := 0, slots := 0, locals := 40 } : Room) [] #[(.ref a1), (.int (0 : Int32))] h0 (fun v h L => v = some (.int (GCH y0 y1)) ∧ h = h0 ∧ L = []) := by
  refine Con.of (plainFor_of_name pn_java_lang_StringUTF16) #[.val (.ref a1), .val (.int (0 : Int32))] (fun m => efuc1_0 m a1 (0 : Int32)) ?_
  intro p e s m below meth c s₁ K hx hby hml hown hnm hret hlk hZ X0 e0
  have N0 := Fr.nil n0
  refine mIN K X0.here hx hby dj52_83_0 rfl rfl ?_
  refine mAN K X0.here hx hby dj52_83_1 rfl rfl rfl ?_
  refine k_callS K X0 hx hby hZ [(.int (0 : Int32)), (.ref a1)] [] hown (W hw 131 rfl) (W hw 132 rfl) (W hw 74 rfl) (W hw 133 rfl) (cuk1 l Z a0 hw (0 : Int32) a1 cz vf y0 y1 h0 n0 Z0 A_a1 O0 SS (by first | decide | omega) (by first | decide | omega)) e0 rfl rfl pd_4 rfl dj52_83_2 (by rw [hml]; rfl) rfl (by decide) (by decide) (LB rfl) (by decide) (by decide) fun v1 T1 L1 X1 q1 => ?_
  obtain ⟨rfl, e1, rfl⟩ := q1
  replace X1 := own_px X1
  refine k_none K ?_
  refine mAN K X1.here hx hby dj52_83_5 rfl rfl rfl ?_
  refine mIN K X1.here hx hby dj52_83_6 rfl rfl ?_
  refine k_callS K X1 hx hby hZ [(.ref a1), (.int (0 : Int32))] [] hown (W hw 125 rfl) (W hw 126 rfl) (W hw 74 rfl) (W hw 127 rfl) (cgc1_0 l Z a0 hw a1 cz vf y0 y1 h0 n0 Z0 A_a1 O0 SS) e1 rfl rfl pd_5 rfl dj52_83_7 (by rw [hml]; rfl) rfl (by decide) (by decide) (LB rfl) (by decide) (by decide) fun v2 T2 L2 X2 q2 => ?_
  obtain ⟨rfl, e2, rfl⟩ := q2
  replace X2 := own_px X2
  refine k_some K (w := (.int (GCH y0 y1))) ?_
  exact Go.retN X2 hx hby hlk hret (by simp) dj52_83_10 (by decide) (by decide) (own_nc _) (⟨rfl, e2, rfl⟩)
theorem dj42_56_0 : decode jdk_42_method_56_code 0 = .ok (.aload_n 0, 1) := by decide +kernel
theorem dj42_56_1 : decode jdk_42_method_56_code 1 = .ok (.invokevirtual 492, 3) := by decide +kernel
theorem dj42_56_4 : decode jdk_42_method_56_code 4 = .ok (.ifCond .eq 12, 3) := by decide +kernel
theorem dj42_56_16 : decode jdk_42_method_56_code 16 = .ok (.aload_n 0, 1) := by decide +kernel
theorem dj42_56_17 : decode jdk_42_method_56_code 17 = .ok (.getfield 9, 3) := by decide +kernel
theorem dj42_56_20 : decode jdk_42_method_56_code 20 = .ok (.iload_n 1, 1) := by decide +kernel
theorem dj42_56_21 : decode jdk_42_method_56_code 21 = .ok (.invokestatic 498, 3) := by decide +kernel
theorem dj42_56_24 : decode jdk_42_method_56_code 24 = .ok (.ireturn, 1) := by decide +kernel
theorem pd_6 : parseMethodDescriptor "()Z" = some ⟨[], some .boolean⟩ := by decide +kernel
theorem efcu1_0 (m : MethodId) (x0 : Addr) (x1 : Int32) : entryFrame m #[(.ref x0), (.int x1)] 2 = mkF m 0 #[.val (.ref x0), .val (.int x1)] [] := by first | (simp [entryFrame, mkF, argsToLocals, Value.category]; done) | rfl
theorem ccu1_0 (l : Launch) (Z : State) (a0 : Array Value) (hw : ∀ d ∈ tables_1, d.before a0 Z = true) (a1 : Addr) (cz : Int32) (vf : Value) (a2 : Addr) (y0 y1 : Int32) (h0 : Heap) (n0 : Nat) (Z0 : n0 ≤ h0.size) (E_a1 : Exa Z h0 a1 "java/lang/String") (F_value_a1 : Fld Z h0 a1 "java/lang/String" "value" "[B" (.ref a2)) (F_coder_a1 : Fld Z h0 a1 "java/lang/String" "coder" "B" (.int (1 : Int32))) (A_a2 : Av Z h0 a2 .byte [(.int y0), (.int y1)]) (O0 : Old Z n0 h0) (SS : SSt Z cz vf) :
    Con l Z (⟨"java/lang/String", "charAt", "(I)C"⟩ : MethodName) jdk_42_method_56_code 2 (some .char) ({ frames := 4, cells := 0, slots := 0, locals := 53 } : Room) [] #[(.ref a1), (.int (0 : Int32))] h0 (fun v h L => v = some (.int (GCH y0 y1)) ∧ h = h0 ∧ L = []) := by
  refine Con.of (plainFor_of_name pn_java_lang_String) #[.val (.ref a1), .val (.int (0 : Int32))] (fun m => efcu1_0 m a1 (0 : Int32)) ?_
  intro p e s m below meth c s₁ K hx hby hml hown hnm hret hlk hZ X0 e0
  have N0 := Fr.nil n0
  refine mAN K X0.here hx hby dj42_56_0 rfl rfl rfl ?_
  refine k_callV K X0 hx hby hZ a1 [] [] hown (W hw 87 rfl) (W hw 88 rfl) (notFace_of_selects (args := #[]) (mvT hZ (W hw 90 rfl))) (W hw 90 rfl) (W hw 89 rfl) (W hw 12 rfl) (W hw 91 rfl) (cil1 l Z a0 hw a1 cz vf h0 n0 Z0 F_coder_a1 O0 SS) e0 E_a1 rfl rfl pd_6 rfl dj42_56_1 (by rw [hml]; rfl) rfl (by decide) (by decide) (LB rfl) (by decide) (by decide) fun v1 T1 L1 X1 q1 => ?_
  obtain ⟨rfl, e1, rfl⟩ := q1
  replace X1 := own_px X1
  refine k_some K (w := (.int (0 : Int32))) ?_
  refine m_ifY K X1.here hx hby (q := 16) dj42_56_4 ((if0 _ _).trans (teq (by decide : (0 : Int32) = (0 : Int32))).1) (by decide) rfl ?_
  refine mAN K X1.here hx hby dj42_56_16 rfl rfl rfl ?_
  refine k_getF K X1 hx hby hZ hown (host := "") (Or.inl (W hw 30 rfl)) Via.refl e1 F_value_a1 dj42_56_17 rfl fun T2 X2 e2 => ?_
  refine mIN K X2.here hx hby dj42_56_20 rfl rfl ?_
  refine k_callS K X2 hx hby hZ [(.ref a2), (.int (0 : Int32))] [] hown (W hw 128 rfl) (W hw 129 rfl) (W hw 74 rfl) (W hw 130 rfl) (cuc1_0 l Z a0 hw a2 cz vf y0 y1 h0 n0 Z0 A_a2 O0 SS) e2 rfl rfl pd_5 rfl dj42_56_21 (by rw [hml]; rfl) rfl (by decide) (by decide) (LB rfl) (by decide) (by decide) fun v3 T3 L3 X3 q3 => ?_
  obtain ⟨rfl, e3, rfl⟩ := q3
  replace X3 := own_px X3
  refine k_some K (w := (.int (GCH y0 y1))) ?_
  exact Go.retN X3 hx hby hlk hret (by simp) dj42_56_24 (by decide) (by decide) (own_nc _) (⟨rfl, e3, rfl⟩)
theorem dj52_14_0 : decode jdk_52_method_14_code 0 = .ok (.iload_n 2, 1) := by decide +kernel
theorem dj52_14_1 : decode jdk_52_method_14_code 1 = .ok (.invokestatic 107, 3) := by decide +kernel
theorem dj52_14_4 : decode jdk_52_method_14_code 4 = .ok (.astore_n 3, 1) := by decide +kernel
theorem dj52_14_5 : decode jdk_52_method_14_code 5 = .ok (.iconst 0, 1) := by decide +kernel
theorem dj52_14_6 : decode jdk_52_method_14_code 6 = .ok (.istore 4, 2) := by decide +kernel
theorem dj52_14_8 : decode jdk_52_method_14_code 8 = .ok (.iload 4, 2) := by decide +kernel
theorem dj52_14_10 : decode jdk_52_method_14_code 10 = .ok (.iload_n 2, 1) := by decide +kernel
theorem dj52_14_11 : decode jdk_52_method_14_code 11 = .ok (.if_icmp .ge 21, 3) := by decide +kernel
theorem dj52_14_14 : decode jdk_52_method_14_code 14 = .ok (.aload_n 3, 1) := by decide +kernel
theorem dj52_14_15 : decode jdk_52_method_14_code 15 = .ok (.iload 4, 2) := by decide +kernel
theorem dj52_14_17 : decode jdk_52_method_14_code 17 = .ok (.aload_n 0, 1) := by decide +kernel
theorem dj52_14_18 : decode jdk_52_method_14_code 18 = .ok (.iload_n 1, 1) := by decide +kernel
theorem dj52_14_19 : decode jdk_52_method_14_code 19 = .ok (.caload, 1) := by decide +kernel
theorem dj52_14_20 : decode jdk_52_method_14_code 20 = .ok (.invokestatic 111, 3) := by decide +kernel
theorem dj52_14_23 : decode jdk_52_method_14_code 23 = .ok (.iinc 1 1, 3) := by decide +kernel
theorem dj52_14_26 : decode jdk_52_method_14_code 26 = .ok (.iinc 4 1, 3) := by decide +kernel
theorem dj52_14_29 : decode jdk_52_method_14_code 29 = .ok (.goto (-21), 3) := by decide +kernel
theorem dj52_14_32 : decode jdk_52_method_14_code 32 = .ok (.aload_n 3, 1) := by decide +kernel
theorem dj52_14_33 : decode jdk_52_method_14_code 33 = .ok (.areturn, 1) := by decide +kernel
theorem pd_7 : parseMethodDescriptor "(I)[B" = some ⟨[.int], some (.array .byte)⟩ := by decide +kernel
theorem pd_8 : parseMethodDescriptor "([BII)V" = some ⟨[(.array .byte), .int, .int], none⟩ := by decide +kernel
theorem eftb1 (m : MethodId) (x0 : Addr) (x1 x2 : Int32) : entryFrame m #[(.ref x0), (.int x1), (.int x2)] 5 = mkF m 0 #[.val (.ref x0), .val (.int x1), .val (.int x2), .unset, .unset] [] := by first | (simp [entryFrame, mkF, argsToLocals, Value.category]; done) | rfl
theorem ctb1 (l : Launch) (Z : State) (a0 : Array Value) (hw : ∀ d ∈ tables_1, d.before a0 Z = true) (a1 : Addr) (cz : Int32) (vf : Value) (c0 : Int32) (h0 : Heap) (n0 : Nat) (Z0 : n0 ≤ h0.size) (A_a1 : Av Z h0 a1 .char [(.int c0)]) (O0 : Old Z n0 h0) (SS : SSt Z cz vf) :
    Con l Z (⟨"java/lang/StringUTF16", "toBytes", "([CII)[B"⟩ : MethodName) jdk_52_method_14_code 5 (some (.array .byte)) ({ frames := 2, cells := 1, slots := 2, locals := 24 } : Room) [] #[(.ref a1), (.int (0 : Int32)), (.int (1 : Int32))] h0 (fun v h L => ∃ bv : Addr, v = some (.ref bv) ∧ Fr n0 L ∧ Keep h0 h [] ∧ h0.size ≤ bv ∧ Av Z h bv .byte [(.int (BLO c0)), (.int (BHI c0))]) := by
  refine Con.of (plainFor_of_name pn_java_lang_StringUTF16) #[.val (.ref a1), .val (.int (0 : Int32)), .val (.int (1 : Int32)), .unset, .unset] (fun m => eftb1 m a1 (0 : Int32) (1 : Int32)) ?_
  intro p e s m below meth c s₁ K hx hby hml hown hnm hret hlk hZ X0 e0
  have N0 := Fr.nil n0
  refine mIN K X0.here hx hby dj52_14_0 rfl rfl ?_
  refine k_callS K X0 hx hby hZ [(.int (1 : Int32))] [] hown (W hw 112 rfl) (W hw 113 rfl) (W hw 74 rfl) (W hw 114 rfl) (cnf1 l Z a0 hw cz vf h0 n0 Z0 O0 SS) e0 rfl rfl pd_7 rfl dj52_14_1 (by rw [hml]; rfl) rfl (by decide) (by decide) (LB rfl) (by decide) (by decide) fun v1 T1 L1 X1 q1 => ?_
  obtain ⟨b1_bv, rfl, Nq1, K1, sq_b1_bv, Ap1_0⟩ := q1
  have N1 := Fr.app N0 Nq1
  have sz_b1_bv : h0.size ≤ b1_bv := Nat.le_trans (Nat.le_refl _) sq_b1_bv
  have g_b1_bv : n0 ≤ b1_bv := Nat.le_trans Z0 sz_b1_bv
  refine k_some K (w := (.ref b1_bv)) ?_
  refine m_astoreN K X1.here hx hby #[.val (.ref a1), .val (.int (0 : Int32)), .val (.int (1 : Int32)), .val (.ref b1_bv), .unset] dj52_14_4 rfl rfl rfl ?_
  refine mC K X1.here hx hby (0 : Int32) dj52_14_5 rfl rfl ?_
  refine mS K X1.here hx hby #[.val (.ref a1), .val (.int (0 : Int32)), .val (.int (1 : Int32)), .val (.ref b1_bv), .val (.int (0 : Int32))] dj52_14_6 rfl rfl ?_
  refine mI K X1.here hx hby dj52_14_8 rfl rfl ?_
  refine mIN K X1.here hx hby dj52_14_10 rfl rfl ?_
  refine m_icmpN K X1.here hx hby (q := 14) dj52_14_11 (tlt (by decide : (0 : Int32) < (1 : Int32))).2.1 rfl ?_
  refine mAN K X1.here hx hby dj52_14_14 rfl rfl rfl ?_
  refine mI K X1.here hx hby dj52_14_15 rfl rfl ?_
  refine mAN K X1.here hx hby dj52_14_17 rfl rfl rfl ?_
  refine mIN K X1.here hx hby dj52_14_18 rfl rfl ?_
  refine k_ldC K X1 hx hby hZ rfl (A_a1.keep K1 nin0) (v := (.int c0)) (by decide) rfl dj52_14_19 rfl ?_
  refine k_callS K X1 hx hby hZ [(.ref b1_bv), (.int (0 : Int32)), (.int c0)] [] hown (W hw 119 rfl) (W hw 120 rfl) (W hw 74 rfl) (W hw 121 rfl) (cpc1_0 l Z a0 hw b1_bv c0 cz vf (0 : Int32) (0 : Int32) T1.heap n0 (Nat.le_trans Z0 (Nat.le_trans (Nat.le_refl _) K1.1)) Ap1_0 (O0.keep K1 all0) g_b1_bv SS) rfl rfl rfl pd_8 rfl dj52_14_20 (by rw [hml]; rfl) rfl (by decide) (by decide) (LB rfl) (by decide) (by decide) fun v2 T2 L2 X2 q2 => ?_
  obtain ⟨rfl, Nq2, K2, Ap2_0⟩ := q2
  have N2 := Fr.app N1 Nq2
  refine k_none K ?_
  refine mJ K X2.here hx hby #[.val (.ref a1), .val (.int (1 : Int32)), .val (.int (1 : Int32)), .val (.ref b1_bv), .val (.int (0 : Int32))] dj52_14_23 rfl rfl rfl ?_
  refine mJ K X2.here hx hby #[.val (.ref a1), .val (.int (1 : Int32)), .val (.int (1 : Int32)), .val (.ref b1_bv), .val (.int (1 : Int32))] dj52_14_26 rfl rfl rfl ?_
  refine m_goto K X2.here hx hby (q := 8) dj52_14_29 (by decide) rfl ?_
  refine mI K X2.here hx hby dj52_14_8 rfl rfl ?_
  refine mIN K X2.here hx hby dj52_14_10 rfl rfl ?_
  refine m_icmpY K X2.here hx hby (q := 32) dj52_14_11 (flt (by decide : ¬ ((1 : Int32) < (1 : Int32)))).2.1 (by decide) rfl ?_
  refine mAN K X2.here hx hby dj52_14_32 rfl rfl rfl ?_
  exact Go.retO X2 hx hby hlk hret rfl (Or.inr (Or.inr (Or.inr (Or.inr ⟨rfl, rfl, rfl⟩)))) dj52_14_33 (by decide) (by decide) (⟨b1_bv, rfl, N2, (((Keep.refl h0 []).trans K1 all0).trans K2 (allS (Or.inr sz_b1_bv) all0)), sz_b1_bv, Ap2_0⟩)
theorem dj42_54_0 : decode jdk_42_method_54_code 0 = .ok (.aload_n 0, 1) := by decide +kernel
theorem dj42_54_1 : decode jdk_42_method_54_code 1 = .ok (.getfield 9, 3) := by decide +kernel
theorem dj42_54_4 : decode jdk_42_method_54_code 4 = .ok (.arraylength, 1) := by decide +kernel
theorem dj42_54_5 : decode jdk_42_method_54_code 5 = .ok (.aload_n 0, 1) := by decide +kernel
theorem dj42_54_6 : decode jdk_42_method_54_code 6 = .ok (.invokevirtual 335, 3) := by decide +kernel
theorem dj42_54_9 : decode jdk_42_method_54_code 9 = .ok (.ishr, 1) := by decide +kernel
theorem dj42_54_10 : decode jdk_42_method_54_code 10 = .ok (.ireturn, 1) := by decide +kernel
theorem pd_9 : parseMethodDescriptor "()B" = some ⟨[], some .byte⟩ := by decide +kernel
theorem eflu1 (m : MethodId) (x0 : Addr) : entryFrame m #[(.ref x0)] 1 = mkF m 0 #[.val (.ref x0)] [] := by first | (simp [entryFrame, mkF, argsToLocals, Value.category]; done) | rfl
theorem clu1 (l : Launch) (Z : State) (a0 : Array Value) (hw : ∀ d ∈ tables_1, d.before a0 Z = true) (a1 : Addr) (cz : Int32) (vf : Value) (a2 : Addr) (y0 y1 : Int32) (h0 : Heap) (n0 : Nat) (Z0 : n0 ≤ h0.size) (E_a1 : Exa Z h0 a1 "java/lang/String") (F_value_a1 : Fld Z h0 a1 "java/lang/String" "value" "[B" (.ref a2)) (F_coder_a1 : Fld Z h0 a1 "java/lang/String" "coder" "B" (.int (1 : Int32))) (A_a2 : Av Z h0 a2 .byte [(.int y0), (.int y1)]) (O0 : Old Z n0 h0) (SS : SSt Z cz vf) :
    Con l Z (⟨"java/lang/String", "length", "()I"⟩ : MethodName) jdk_42_method_54_code 1 (some .int) ({ frames := 1, cells := 0, slots := 0, locals := 13 } : Room) [] #[(.ref a1)] h0 (fun v h L => v = some (.int (1 : Int32)) ∧ h = h0 ∧ L = []) := by
  refine Con.of (plainFor_of_name pn_java_lang_String) #[.val (.ref a1)] (fun m => eflu1 m a1) ?_
  intro p e s m below meth c s₁ K hx hby hml hown hnm hret hlk hZ X0 e0
  have N0 := Fr.nil n0
  refine mAN K X0.here hx hby dj42_54_0 rfl rfl rfl ?_
  refine k_getF K X0 hx hby hZ hown (host := "") (Or.inl (W hw 30 rfl)) Via.refl e0 F_value_a1 dj42_54_1 rfl fun T1 X1 e1 => ?_
  refine k_len K X1 hx hby hZ (2 : Int32) e1 A_a2 rfl dj42_54_4 rfl ?_
  refine mAN K X1.here hx hby dj42_54_5 rfl rfl rfl ?_
  refine k_callV K X1 hx hby hZ a1 [] [(.int (2 : Int32))] hown (W hw 41 rfl) (W hw 42 rfl) (notFace_of_selects (args := #[]) (mvT hZ (W hw 44 rfl))) (W hw 44 rfl) (W hw 43 rfl) (W hw 12 rfl) (W hw 45 rfl) (cco1 l Z a0 hw a1 cz vf h0 n0 Z0 F_coder_a1 O0 SS) e1 E_a1 rfl rfl pd_9 rfl dj42_54_6 (by rw [hml]; rfl) rfl (by decide) (by decide) (LB rfl) (by decide) (by decide) fun v2 T2 L2 X2 q2 => ?_
  obtain ⟨rfl, e2, rfl⟩ := q2
  replace X2 := own_px X2
  refine k_some K (w := (.int (1 : Int32))) ?_
  refine m_ishr K X2.here hx hby (1 : Int32) dj42_54_9 rfl rfl ?_
  exact Go.retI X2 hx hby hlk hret dj42_54_10 (by decide) (by decide) (⟨rfl, e2, rfl⟩)
theorem efnl2 (m : MethodId) (x0 : Int32) : entryFrame m #[(.int x0)] 1 = mkF m 0 #[.val (.int x0)] [] := by first | (simp [entryFrame, mkF, argsToLocals, Value.category]; done) | rfl
theorem cnl2 (l : Launch) (Z : State) (a0 : Array Value) (hw : ∀ d ∈ tables_1, d.before a0 Z = true) (cz : Int32) (vf : Value) (h0 : Heap) (n0 : Nat) (Z0 : n0 ≤ h0.size) (O0 : Old Z n0 h0) (SS : SSt Z cz vf) :
    Con l Z (⟨"java/lang/StringUTF16", "newBytesLength", "(I)I"⟩ : MethodName) jdk_52_method_3_code 1 (some .int) ({ frames := 0, cells := 0, slots := 0, locals := 0 } : Room) [] #[(.int (2 : Int32))] h0 (fun v h L => v = some (.int (4 : Int32)) ∧ h = h0 ∧ L = []) := by
  refine Con.of (plainFor_of_name pn_java_lang_StringUTF16) #[.val (.int (2 : Int32))] (fun m => efnl2 m (2 : Int32)) ?_
  intro p e s m below meth c s₁ K hx hby hml hown hnm hret hlk hZ X0 e0
  have N0 := Fr.nil n0
  refine mIN K X0.here hx hby dj52_3_0 rfl rfl ?_
  refine m_ifY K X0.here hx hby (q := 12) dj52_3_1 ((if0 _ _).trans (flt (by decide : ¬ ((2 : Int32) < (0 : Int32)))).2.1) (by decide) rfl ?_
  refine mIN K X0.here hx hby dj52_3_12 rfl rfl ?_
  refine m_ldc K X0 hx hby hZ hown (W hw 118 rfl) dj52_3_13 rfl ?_
  refine m_icmpY K X0.here hx hby (q := 55) dj52_3_15 (tlt (by decide : (2 : Int32) < (1073741823 : Int32))).1 (by decide) rfl ?_
  refine mIN K X0.here hx hby dj52_3_55 rfl rfl ?_
  refine mC K X0.here hx hby (1 : Int32) dj52_3_56 rfl rfl ?_
  refine m_ishl K X0.here hx hby (4 : Int32) dj52_3_57 rfl rfl ?_
  exact Go.retI X0 hx hby hlk hret dj52_3_58 (by decide) (by decide) (⟨rfl, e0, rfl⟩)
theorem efnf2 (m : MethodId) (x0 : Int32) : entryFrame m #[(.int x0)] 1 = mkF m 0 #[.val (.int x0)] [] := by first | (simp [entryFrame, mkF, argsToLocals, Value.category]; done) | rfl
theorem cnf2 (l : Launch) (Z : State) (a0 : Array Value) (hw : ∀ d ∈ tables_1, d.before a0 Z = true) (cz : Int32) (vf : Value) (h0 : Heap) (n0 : Nat) (Z0 : n0 ≤ h0.size) (O0 : Old Z n0 h0) (SS : SSt Z cz vf) :
    Con l Z (⟨"java/lang/StringUTF16", "newBytesFor", "(I)[B"⟩ : MethodName) jdk_52_method_2_code 1 (some (.array .byte)) ({ frames := 1, cells := 1, slots := 4, locals := 12 } : Room) [] #[(.int (2 : Int32))] h0 (fun v h L => ∃ bv : Addr, v = some (.ref bv) ∧ Fr n0 L ∧ Keep h0 h [] ∧ h0.size ≤ bv ∧ Av Z h bv .byte [(.int (0 : Int32)), (.int (0 : Int32)), (.int (0 : Int32)), (.int (0 : Int32))]) := by
  refine Con.of (plainFor_of_name pn_java_lang_StringUTF16) #[.val (.int (2 : Int32))] (fun m => efnf2 m (2 : Int32)) ?_
  intro p e s m below meth c s₁ K hx hby hml hown hnm hret hlk hZ X0 e0
  have N0 := Fr.nil n0
  refine mIN K X0.here hx hby dj52_2_0 rfl rfl ?_
  refine k_callS K X0 hx hby hZ [(.int (2 : Int32))] [] hown (W hw 115 rfl) (W hw 116 rfl) (W hw 74 rfl) (W hw 117 rfl) (cnl2 l Z a0 hw cz vf h0 n0 Z0 O0 SS) e0 rfl rfl pd_1 rfl dj52_2_1 (by rw [hml]; rfl) rfl (by decide) (by decide) (LB rfl) (by decide) (by decide) fun v1 T1 L1 X1 q1 => ?_
  obtain ⟨rfl, e1, rfl⟩ := q1
  replace X1 := own_px X1
  refine k_some K (w := (.int (4 : Int32))) ?_
  refine k_newP K X1 hx hby hZ 4 4 (W hw 25 rfl) e1 dj52_2_4 rfl (by decide) rfl (by decide) (by decide) (by decide) (by decide) fun T2 h2 b2 X2 e2 E2 g2 V_b2 => ?_
  have sz_b2 : h0.size ≤ b2 := Nat.le_trans (Nat.le_refl _) (Nat.le_of_eq g2.symm)
  have g_b2 : n0 ≤ b2 := Nat.le_trans Z0 sz_b2
  replace V_b2 : Av Z h2 b2 .byte [(.int (0 : Int32)), (.int (0 : Int32)), (.int (0 : Int32)), (.int (0 : Int32))] := V_b2
  exact Go.retO X2 hx hby hlk hret rfl (Or.inr (Or.inr (Or.inr (Or.inr ⟨rfl, rfl, rfl⟩)))) dj52_2_6 (by decide) (by decide) (by rw [e2]; exact ⟨b2, rfl, N0, ((Keep.refl h0 []).ext E2), sz_b2, V_b2⟩)
theorem eful2 (m : MethodId) (x0 : Addr) : entryFrame m #[(.ref x0)] 1 = mkF m 0 #[.val (.ref x0)] [] := by first | (simp [entryFrame, mkF, argsToLocals, Value.category]; done) | rfl
theorem cul2 (l : Launch) (Z : State) (a0 : Array Value) (hw : ∀ d ∈ tables_1, d.before a0 Z = true) (a1 : Addr) (cz : Int32) (vf : Value) (y0 y1 : Int32) (y2 y3 : Int32) (h0 : Heap) (n0 : Nat) (Z0 : n0 ≤ h0.size) (A_a1 : Av Z h0 a1 .byte [(.int y0), (.int y1), (.int y2), (.int y3)]) (O0 : Old Z n0 h0) (SS : SSt Z cz vf) :
    Con l Z (⟨"java/lang/StringUTF16", "length", "([B)I"⟩ : MethodName) jdk_52_method_6_code 1 (some .int) ({ frames := 0, cells := 0, slots := 0, locals := 0 } : Room) [] #[(.ref a1)] h0 (fun v h L => v = some (.int (2 : Int32)) ∧ h = h0 ∧ L = []) := by
  refine Con.of (plainFor_of_name pn_java_lang_StringUTF16) #[.val (.ref a1)] (fun m => eful2 m a1) ?_
  intro p e s m below meth c s₁ K hx hby hml hown hnm hret hlk hZ X0 e0
  have N0 := Fr.nil n0
  refine mAN K X0.here hx hby dj52_6_0 rfl rfl rfl ?_
  refine k_len K X0 hx hby hZ (4 : Int32) e0 A_a1 rfl dj52_6_1 rfl ?_
  refine mC K X0.here hx hby (1 : Int32) dj52_6_2 rfl rfl ?_
  refine m_ishr K X0.here hx hby (2 : Int32) dj52_6_3 rfl rfl ?_
  exact Go.retI X0 hx hby hlk hret dj52_6_4 (by decide) (by decide) (⟨rfl, e0, rfl⟩)
theorem efuk2 (m : MethodId) (x0 : Int32) (x1 : Addr) : entryFrame m #[(.int x0), (.ref x1)] 2 = mkF m 0 #[.val (.int x0), .val (.ref x1)] [] := by first | (simp [entryFrame, mkF, argsToLocals, Value.category]; done) | rfl
theorem cuk2 (l : Launch) (Z : State) (a0 : Array Value) (hw : ∀ d ∈ tables_1, d.before a0 Z = true) (p1 : Int32) (a1 : Addr) (cz : Int32) (vf : Value) (y0 y1 : Int32) (y2 y3 : Int32) (h0 : Heap) (n0 : Nat) (Z0 : n0 ≤ h0.size) (A_a1 : Av Z h0 a1 .byte [(.int y0), (.int y1), (.int y2), (.int y3)]) (O0 : Old Z n0 h0) (SS : SSt Z cz vf) (g0 : ¬ (p1 < (0 : Int32))) (g1 : p1 < (2 : Int32)) :
    Con l Z (⟨"java/lang/StringUTF16", "checkIndex", "(I[B)V"⟩ : MethodName) jdk_52_method_91_code 2 none ({ frames := 2, cells := 0, slots := 0, locals := 27 } : Room) [] #[(.int p1), (.ref a1)] h0 (fun v h L => v = none ∧ h = h0 ∧ L = []) := by
  refine Con.of (plainFor_of_name pn_java_lang_StringUTF16) #[.val (.int p1), .val (.ref a1)] (fun m => efuk2 m p1 a1) ?_
  intro p e s m below meth c s₁ K hx hby hml hown hnm hret hlk hZ X0 e0
  have N0 := Fr.nil n0
  refine mIN K X0.here hx hby dj52_91_0 rfl rfl ?_
  refine mAN K X0.here hx hby dj52_91_1 rfl rfl rfl ?_
  refine k_callS K X0 hx hby hZ [(.ref a1)] [(.int p1)] hown (W hw 134 rfl) (W hw 135 rfl) (W hw 74 rfl) (W hw 136 rfl) (cul2 l Z a0 hw a1 cz vf y0 y1 y2 y3 h0 n0 Z0 A_a1 O0 SS) e0 rfl rfl pd_2 rfl dj52_91_2 (by rw [hml]; rfl) rfl (by decide) (by decide) (LB rfl) (by decide) (by decide) fun v1 T1 L1 X1 q1 => ?_
  obtain ⟨rfl, e1, rfl⟩ := q1
  replace X1 := own_px X1
  refine k_some K (w := (.int (2 : Int32))) ?_
  refine k_callS K X1 hx hby hZ [(.int p1), (.int (2 : Int32))] [] hown (W hw 137 rfl) (W hw 97 rfl) (W hw 12 rfl) (W hw 98 rfl) (cck l Z a0 hw p1 (2 : Int32) cz vf h0 n0 Z0 O0 SS g0 g1) e1 rfl rfl pd_3 rfl dj52_91_5 (by rw [hml]; rfl) rfl (by decide) (by decide) (LB rfl) (by decide) (by decide) fun v2 T2 L2 X2 q2 => ?_
  obtain ⟨rfl, e2, rfl⟩ := q2
  replace X2 := own_px X2
  refine k_none K ?_
  exact Go.retV X2 hx hby hlk hret dj52_91_8 (by decide) (by decide) (⟨rfl, e2, rfl⟩)
def wpc2_0_1 (p3 : Int32) : Int32 := ((p3 >>> ((0 : Int32) &&& 31)).toInt8.toInt32)
def wpc2_0_2 (p3 : Int32) : Int32 := ((p3 >>> ((8 : Int32) &&& 31)).toInt8.toInt32)
theorem efpc2_0 (m : MethodId) (x0 : Addr) (x1 x2 : Int32) : entryFrame m #[(.ref x0), (.int x1), (.int x2)] 3 = mkF m 0 #[.val (.ref x0), .val (.int x1), .val (.int x2)] [] := by first | (simp [entryFrame, mkF, argsToLocals, Value.category]; done) | rfl
theorem cpc2_0 (l : Launch) (Z : State) (a0 : Array Value) (hw : ∀ d ∈ tables_1, d.before a0 Z = true) (a1 : Addr) (p3 cz : Int32) (vf : Value) (y0 y1 : Int32) (y2 y3 : Int32) (h0 : Heap) (n0 : Nat) (Z0 : n0 ≤ h0.size) (A_a1 : Av Z h0 a1 .byte [(.int y0), (.int y1), (.int y2), (.int y3)]) (O0 : Old Z n0 h0) (g_a1 : n0 ≤ a1) (SS : SSt Z cz vf) :
    Con l Z (⟨"java/lang/StringUTF16", "putChar", "([BII)V"⟩ : MethodName) jdk_52_method_4_code 3 none ({ frames := 0, cells := 0, slots := 0, locals := 0 } : Room) [] #[(.ref a1), (.int (0 : Int32)), (.int p3)] h0 (fun v h L => v = none ∧ Fr n0 L ∧ Keep h0 h [a1] ∧ Av Z h a1 .byte [(.int (BLO p3)), (.int (BHI p3)), (.int y2), (.int y3)]) := by
  refine Con.of (plainFor_of_name pn_java_lang_StringUTF16) #[.val (.ref a1), .val (.int (0 : Int32)), .val (.int p3)] (fun m => efpc2_0 m a1 (0 : Int32) p3) ?_
  intro p e s m below meth c s₁ K hx hby hml hown hnm hret hlk hZ X0 e0
  have N0 := Fr.nil n0
  refine k_getS K X0 hx hby hZ hown (host := "") (Or.inl (W hw 122 rfl)) Via.refl e0 (SS.ad.ext O0.2) dj52_4_0 rfl fun T1 X1 e1 => ?_
  refine m_ifY K X1.here hx hby (q := 28) dj52_4_3 ((if0 _ _).trans (feq (by decide : ¬ ((1 : Int32) = (0 : Int32)))).2) (by decide) rfl ?_
  refine mIN K X1.here hx hby dj52_4_28 rfl rfl ?_
  refine mC K X1.here hx hby (1 : Int32) dj52_4_29 rfl rfl ?_
  refine m_ishl K X1.here hx hby (0 : Int32) dj52_4_30 rfl rfl ?_
  refine m_istoreN K X1.here hx hby #[.val (.ref a1), .val (.int (0 : Int32)), .val (.int p3)] dj52_4_31 rfl rfl ?_
  refine mAN K X1.here hx hby dj52_4_32 rfl rfl rfl ?_
  refine mIN K X1.here hx hby dj52_4_33 rfl rfl ?_
  refine mJ K X1.here hx hby #[.val (.ref a1), .val (.int (1 : Int32)), .val (.int p3)] dj52_4_34 rfl rfl rfl ?_
  refine mIN K X1.here hx hby dj52_4_37 rfl rfl ?_
  refine k_getS K X1 hx hby hZ hown (host := "") (Or.inl (W hw 123 rfl)) Via.refl e1 (SS.hi.ext O0.2) dj52_4_38 rfl fun T2 X2 e2 => ?_
  refine m_ishr K X2.here hx hby (p3 >>> ((0 : Int32) &&& 31)) dj52_4_41 rfl rfl ?_
  refine m_i2b K X2.here hx hby (wpc2_0_1 p3) dj52_4_42 rfl rfl ?_
  refine k_stB K X2 hx hby hZ e2 A_a1 (by decide) (LB rfl) dj52_4_43 rfl fun T3 h3 X3 e3 W3 V3 => ?_
  replace V3 : Av Z h3 a1 .byte [(.int (nar .byte (wpc2_0_1 p3))), (.int y1), (.int y2), (.int y3)] := V3
  have N3 := Fr.snoc X3 N0 g_a1
  refine mAN K X3.here hx hby dj52_4_44 rfl rfl rfl ?_
  refine mIN K X3.here hx hby dj52_4_45 rfl rfl ?_
  refine mIN K X3.here hx hby dj52_4_46 rfl rfl ?_
  refine k_getS K X3 hx hby hZ hown (host := "") (Or.inl (W hw 124 rfl)) Via.refl e3 (SS.lo.ext (O0.wr W3 g_a1).2) dj52_4_47 rfl fun T4 X4 e4 => ?_
  refine m_ishr K X4.here hx hby (p3 >>> ((8 : Int32) &&& 31)) dj52_4_50 rfl rfl ?_
  refine m_i2b K X4.here hx hby (wpc2_0_2 p3) dj52_4_51 rfl rfl ?_
  refine k_stB K X4 hx hby hZ e4 V3 (by decide) (LB rfl) dj52_4_52 rfl fun T5 h5 X5 e5 W5 V5 => ?_
  replace V5 : Av Z h5 a1 .byte [(.int (nar .byte (wpc2_0_1 p3))), (.int (nar .byte (wpc2_0_2 p3))), (.int y2), (.int y3)] := V5
  have N5 := Fr.snoc X5 N3 g_a1
  exact Go.retV X5 hx hby hlk hret dj52_4_53 (by decide) (by decide) (by rw [e5]; exact ⟨rfl, N5, (((Keep.refl h0 [a1]).wr W3 (Or.inl (by simp))).wr W5 (Or.inl (by simp))), V5⟩)
def wgc2_0_1 (y0 : Int32) : Int32 := ((y0 &&& (255 : Int32)) <<< ((0 : Int32) &&& 31))
def wgc2_0_2 (y1 : Int32) : Int32 := ((y1 &&& (255 : Int32)) <<< ((8 : Int32) &&& 31))
def wgc2_0_3 (y0 y1 : Int32) : Int32 := (((wgc2_0_1 y0) ||| (wgc2_0_2 y1)).toUInt32.toUInt16.toUInt32.toInt32)
theorem efgc2_0 (m : MethodId) (x0 : Addr) (x1 : Int32) : entryFrame m #[(.ref x0), (.int x1)] 2 = mkF m 0 #[.val (.ref x0), .val (.int x1)] [] := by first | (simp [entryFrame, mkF, argsToLocals, Value.category]; done) | rfl
theorem cgc2_0 (l : Launch) (Z : State) (a0 : Array Value) (hw : ∀ d ∈ tables_1, d.before a0 Z = true) (a1 : Addr) (cz : Int32) (vf : Value) (y0 y1 : Int32) (y2 y3 : Int32) (h0 : Heap) (n0 : Nat) (Z0 : n0 ≤ h0.size) (A_a1 : Av Z h0 a1 .byte [(.int y0), (.int y1), (.int y2), (.int y3)]) (O0 : Old Z n0 h0) (SS : SSt Z cz vf) :
    Con l Z (⟨"java/lang/StringUTF16", "getChar", "([BI)C"⟩ : MethodName) jdk_52_method_5_code 2 (some .char) ({ frames := 0, cells := 0, slots := 0, locals := 0 } : Room) [] #[(.ref a1), (.int (0 : Int32))] h0 (fun v h L => v = some (.int (GCH y0 y1)) ∧ h = h0 ∧ L = []) := by
  refine Con.of (plainFor_of_name pn_java_lang_StringUTF16) #[.val (.ref a1), .val (.int (0 : Int32))] (fun m => efgc2_0 m a1 (0 : Int32)) ?_
  intro p e s m below meth c s₁ K hx hby hml hown hnm hret hlk hZ X0 e0
  have N0 := Fr.nil n0
  refine k_getS K X0 hx hby hZ hown (host := "") (Or.inl (W hw 122 rfl)) Via.refl e0 (SS.ad.ext O0.2) dj52_5_0 rfl fun T1 X1 e1 => ?_
  refine m_ifY K X1.here hx hby (q := 28) dj52_5_3 ((if0 _ _).trans (feq (by decide : ¬ ((1 : Int32) = (0 : Int32)))).2) (by decide) rfl ?_
  refine mIN K X1.here hx hby dj52_5_28 rfl rfl ?_
  refine mC K X1.here hx hby (1 : Int32) dj52_5_29 rfl rfl ?_
  refine m_ishl K X1.here hx hby (0 : Int32) dj52_5_30 rfl rfl ?_
  refine m_istoreN K X1.here hx hby #[.val (.ref a1), .val (.int (0 : Int32))] dj52_5_31 rfl rfl ?_
  refine mAN K X1.here hx hby dj52_5_32 rfl rfl rfl ?_
  refine mIN K X1.here hx hby dj52_5_33 rfl rfl ?_
  refine mJ K X1.here hx hby #[.val (.ref a1), .val (.int (1 : Int32))] dj52_5_34 rfl rfl rfl ?_
  refine k_ldB K X1 hx hby hZ e1 A_a1 (v := (.int y0)) (by decide) rfl dj52_5_37 rfl ?_
  refine mP K X1.here hx hby (255 : Int32) dj52_5_38 rfl rfl ?_
  refine m_iand K X1.here hx hby (y0 &&& (255 : Int32)) dj52_5_41 rfl rfl ?_
  refine k_getS K X1 hx hby hZ hown (host := "") (Or.inl (W hw 123 rfl)) Via.refl e1 (SS.hi.ext O0.2) dj52_5_42 rfl fun T2 X2 e2 => ?_
  refine m_ishl K X2.here hx hby (wgc2_0_1 y0) dj52_5_45 rfl rfl ?_
  refine mAN K X2.here hx hby dj52_5_46 rfl rfl rfl ?_
  refine mIN K X2.here hx hby dj52_5_47 rfl rfl ?_
  refine k_ldB K X2 hx hby hZ e2 A_a1 (v := (.int y1)) (by decide) rfl dj52_5_48 rfl ?_
  refine mP K X2.here hx hby (255 : Int32) dj52_5_49 rfl rfl ?_
  refine m_iand K X2.here hx hby (y1 &&& (255 : Int32)) dj52_5_52 rfl rfl ?_
  refine k_getS K X2 hx hby hZ hown (host := "") (Or.inl (W hw 124 rfl)) Via.refl e2 (SS.lo.ext O0.2) dj52_5_53 rfl fun T3 X3 e3 => ?_
  refine m_ishl K X3.here hx hby (wgc2_0_2 y1) dj52_5_56 rfl rfl ?_
  refine m_ior K X3.here hx hby ((wgc2_0_1 y0) ||| (wgc2_0_2 y1)) dj52_5_57 rfl rfl ?_
  refine m_i2c K X3.here hx hby (wgc2_0_3 y0 y1) dj52_5_58 rfl rfl ?_
  exact Go.retN X3 hx hby hlk hret (by simp) dj52_5_59 (by decide) (by decide) (own_nc _) (⟨rfl, e3, rfl⟩)
theorem efuc2_0 (m : MethodId) (x0 : Addr) (x1 : Int32) : entryFrame m #[(.ref x0), (.int x1)] 2 = mkF m 0 #[.val (.ref x0), .val (.int x1)] [] := by first | (simp [entryFrame, mkF, argsToLocals, Value.category]; done) | rfl
theorem cuc2_0 (l : Launch) (Z : State) (a0 : Array Value) (hw : ∀ d ∈ tables_1, d.before a0 Z = true) (a1 : Addr) (cz : Int32) (vf : Value) (y0 y1 : Int32) (y2 y3 : Int32) (h0 : Heap) (n0 : Nat) (Z0 : n0 ≤ h0.size) (A_a1 : Av Z h0 a1 .byte [(.int y0), (.int y1), (.int y2), (.int y3)]) (O0 : Old Z n0 h0) (SS : SSt Z cz vf) :
    Con l Z (⟨"java/lang/StringUTF16", "charAt", "([BI)C"⟩ : MethodName) jdk_52_method_83_code 2 (some .char) ({ frames := 3, cells := 0, slots := 0, locals := 40 } : Room) [] #[(.ref a1), (.int (0 : Int32))] h0 (fun v h L => v = some (.int (GCH y0 y1)) ∧ h = h0 ∧ L = []) := by
  refine Con.of (plainFor_of_name pn_java_lang_StringUTF16) #[.val (.ref a1), .val (.int (0 : Int32))] (fun m => efuc2_0 m a1 (0 : Int32)) ?_
  intro p e s m below meth c s₁ K hx hby hml hown hnm hret hlk hZ X0 e0
  have N0 := Fr.nil n0
  refine mIN K X0.here hx hby dj52_83_0 rfl rfl ?_
  refine mAN K X0.here hx hby dj52_83_1 rfl rfl rfl ?_
  refine k_callS K X0 hx hby hZ [(.int (0 : Int32)), (.ref a1)] [] hown (W hw 131 rfl) (W hw 132 rfl) (W hw 74 rfl) (W hw 133 rfl) (cuk2 l Z a0 hw (0 : Int32) a1 cz vf y0 y1 y2 y3 h0 n0 Z0 A_a1 O0 SS (by first | decide | omega) (by first | decide | omega)) e0 rfl rfl pd_4 rfl dj52_83_2 (by rw [hml]; rfl) rfl (by decide) (by decide) (LB rfl) (by decide) (by decide) fun v1 T1 L1 X1 q1 => ?_
  obtain ⟨rfl, e1, rfl⟩ := q1
  replace X1 := own_px X1
  refine k_none K ?_
  refine mAN K X1.here hx hby dj52_83_5 rfl rfl rfl ?_
  refine mIN K X1.here hx hby dj52_83_6 rfl rfl ?_
  refine k_callS K X1 hx hby hZ [(.ref a1), (.int (0 : Int32))] [] hown (W hw 125 rfl) (W hw 126 rfl) (W hw 74 rfl) (W hw 127 rfl) (cgc2_0 l Z a0 hw a1 cz vf y0 y1 y2 y3 h0 n0 Z0 A_a1 O0 SS) e1 rfl rfl pd_5 rfl dj52_83_7 (by rw [hml]; rfl) rfl (by decide) (by decide) (LB rfl) (by decide) (by decide) fun v2 T2 L2 X2 q2 => ?_
  obtain ⟨rfl, e2, rfl⟩ := q2
  replace X2 := own_px X2
  refine k_some K (w := (.int (GCH y0 y1))) ?_
  exact Go.retN X2 hx hby hlk hret (by simp) dj52_83_10 (by decide) (by decide) (own_nc _) (⟨rfl, e2, rfl⟩)
theorem efcu2_0 (m : MethodId) (x0 : Addr) (x1 : Int32) : entryFrame m #[(.ref x0), (.int x1)] 2 = mkF m 0 #[.val (.ref x0), .val (.int x1)] [] := by first | (simp [entryFrame, mkF, argsToLocals, Value.category]; done) | rfl
theorem ccu2_0 (l : Launch) (Z : State) (a0 : Array Value) (hw : ∀ d ∈ tables_1, d.before a0 Z = true) (a1 : Addr) (cz : Int32) (vf : Value) (a2 : Addr) (y0 y1 : Int32) (y2 y3 : Int32) (h0 : Heap) (n0 : Nat) (Z0 : n0 ≤ h0.size) (E_a1 : Exa Z h0 a1 "java/lang/String") (F_value_a1 : Fld Z h0 a1 "java/lang/String" "value" "[B" (.ref a2)) (F_coder_a1 : Fld Z h0 a1 "java/lang/String" "coder" "B" (.int (1 : Int32))) (A_a2 : Av Z h0 a2 .byte [(.int y0), (.int y1), (.int y2), (.int y3)]) (O0 : Old Z n0 h0) (SS : SSt Z cz vf) :
    Con l Z (⟨"java/lang/String", "charAt", "(I)C"⟩ : MethodName) jdk_42_method_56_code 2 (some .char) ({ frames := 4, cells := 0, slots := 0, locals := 53 } : Room) [] #[(.ref a1), (.int (0 : Int32))] h0 (fun v h L => v = some (.int (GCH y0 y1)) ∧ h = h0 ∧ L = []) := by
  refine Con.of (plainFor_of_name pn_java_lang_String) #[.val (.ref a1), .val (.int (0 : Int32))] (fun m => efcu2_0 m a1 (0 : Int32)) ?_
  intro p e s m below meth c s₁ K hx hby hml hown hnm hret hlk hZ X0 e0
  have N0 := Fr.nil n0
  refine mAN K X0.here hx hby dj42_56_0 rfl rfl rfl ?_
  refine k_callV K X0 hx hby hZ a1 [] [] hown (W hw 87 rfl) (W hw 88 rfl) (notFace_of_selects (args := #[]) (mvT hZ (W hw 90 rfl))) (W hw 90 rfl) (W hw 89 rfl) (W hw 12 rfl) (W hw 91 rfl) (cil1 l Z a0 hw a1 cz vf h0 n0 Z0 F_coder_a1 O0 SS) e0 E_a1 rfl rfl pd_6 rfl dj42_56_1 (by rw [hml]; rfl) rfl (by decide) (by decide) (LB rfl) (by decide) (by decide) fun v1 T1 L1 X1 q1 => ?_
  obtain ⟨rfl, e1, rfl⟩ := q1
  replace X1 := own_px X1
  refine k_some K (w := (.int (0 : Int32))) ?_
  refine m_ifY K X1.here hx hby (q := 16) dj42_56_4 ((if0 _ _).trans (teq (by decide : (0 : Int32) = (0 : Int32))).1) (by decide) rfl ?_
  refine mAN K X1.here hx hby dj42_56_16 rfl rfl rfl ?_
  refine k_getF K X1 hx hby hZ hown (host := "") (Or.inl (W hw 30 rfl)) Via.refl e1 F_value_a1 dj42_56_17 rfl fun T2 X2 e2 => ?_
  refine mIN K X2.here hx hby dj42_56_20 rfl rfl ?_
  refine k_callS K X2 hx hby hZ [(.ref a2), (.int (0 : Int32))] [] hown (W hw 128 rfl) (W hw 129 rfl) (W hw 74 rfl) (W hw 130 rfl) (cuc2_0 l Z a0 hw a2 cz vf y0 y1 y2 y3 h0 n0 Z0 A_a2 O0 SS) e2 rfl rfl pd_5 rfl dj42_56_21 (by rw [hml]; rfl) rfl (by decide) (by decide) (LB rfl) (by decide) (by decide) fun v3 T3 L3 X3 q3 => ?_
  obtain ⟨rfl, e3, rfl⟩ := q3
  replace X3 := own_px X3
  refine k_some K (w := (.int (GCH y0 y1))) ?_
  exact Go.retN X3 hx hby hlk hret (by simp) dj42_56_24 (by decide) (by decide) (own_nc _) (⟨rfl, e3, rfl⟩)
def wpc2_1_1 (p3 : Int32) : Int32 := ((p3 >>> ((0 : Int32) &&& 31)).toInt8.toInt32)
def wpc2_1_2 (p3 : Int32) : Int32 := ((p3 >>> ((8 : Int32) &&& 31)).toInt8.toInt32)
theorem efpc2_1 (m : MethodId) (x0 : Addr) (x1 x2 : Int32) : entryFrame m #[(.ref x0), (.int x1), (.int x2)] 3 = mkF m 0 #[.val (.ref x0), .val (.int x1), .val (.int x2)] [] := by first | (simp [entryFrame, mkF, argsToLocals, Value.category]; done) | rfl
theorem cpc2_1 (l : Launch) (Z : State) (a0 : Array Value) (hw : ∀ d ∈ tables_1, d.before a0 Z = true) (a1 : Addr) (p3 cz : Int32) (vf : Value) (y0 y1 : Int32) (y2 y3 : Int32) (h0 : Heap) (n0 : Nat) (Z0 : n0 ≤ h0.size) (A_a1 : Av Z h0 a1 .byte [(.int y0), (.int y1), (.int y2), (.int y3)]) (O0 : Old Z n0 h0) (g_a1 : n0 ≤ a1) (SS : SSt Z cz vf) :
    Con l Z (⟨"java/lang/StringUTF16", "putChar", "([BII)V"⟩ : MethodName) jdk_52_method_4_code 3 none ({ frames := 0, cells := 0, slots := 0, locals := 0 } : Room) [] #[(.ref a1), (.int (1 : Int32)), (.int p3)] h0 (fun v h L => v = none ∧ Fr n0 L ∧ Keep h0 h [a1] ∧ Av Z h a1 .byte [(.int y0), (.int y1), (.int (BLO p3)), (.int (BHI p3))]) := by
  refine Con.of (plainFor_of_name pn_java_lang_StringUTF16) #[.val (.ref a1), .val (.int (1 : Int32)), .val (.int p3)] (fun m => efpc2_1 m a1 (1 : Int32) p3) ?_
  intro p e s m below meth c s₁ K hx hby hml hown hnm hret hlk hZ X0 e0
  have N0 := Fr.nil n0
  refine k_getS K X0 hx hby hZ hown (host := "") (Or.inl (W hw 122 rfl)) Via.refl e0 (SS.ad.ext O0.2) dj52_4_0 rfl fun T1 X1 e1 => ?_
  refine m_ifY K X1.here hx hby (q := 28) dj52_4_3 ((if0 _ _).trans (feq (by decide : ¬ ((1 : Int32) = (0 : Int32)))).2) (by decide) rfl ?_
  refine mIN K X1.here hx hby dj52_4_28 rfl rfl ?_
  refine mC K X1.here hx hby (1 : Int32) dj52_4_29 rfl rfl ?_
  refine m_ishl K X1.here hx hby (2 : Int32) dj52_4_30 rfl rfl ?_
  refine m_istoreN K X1.here hx hby #[.val (.ref a1), .val (.int (2 : Int32)), .val (.int p3)] dj52_4_31 rfl rfl ?_
  refine mAN K X1.here hx hby dj52_4_32 rfl rfl rfl ?_
  refine mIN K X1.here hx hby dj52_4_33 rfl rfl ?_
  refine mJ K X1.here hx hby #[.val (.ref a1), .val (.int (3 : Int32)), .val (.int p3)] dj52_4_34 rfl rfl rfl ?_
  refine mIN K X1.here hx hby dj52_4_37 rfl rfl ?_
  refine k_getS K X1 hx hby hZ hown (host := "") (Or.inl (W hw 123 rfl)) Via.refl e1 (SS.hi.ext O0.2) dj52_4_38 rfl fun T2 X2 e2 => ?_
  refine m_ishr K X2.here hx hby (p3 >>> ((0 : Int32) &&& 31)) dj52_4_41 rfl rfl ?_
  refine m_i2b K X2.here hx hby (wpc2_1_1 p3) dj52_4_42 rfl rfl ?_
  refine k_stB K X2 hx hby hZ e2 A_a1 (by decide) (LB rfl) dj52_4_43 rfl fun T3 h3 X3 e3 W3 V3 => ?_
  replace V3 : Av Z h3 a1 .byte [(.int y0), (.int y1), (.int (nar .byte (wpc2_1_1 p3))), (.int y3)] := V3
  have N3 := Fr.snoc X3 N0 g_a1
  refine mAN K X3.here hx hby dj52_4_44 rfl rfl rfl ?_
  refine mIN K X3.here hx hby dj52_4_45 rfl rfl ?_
  refine mIN K X3.here hx hby dj52_4_46 rfl rfl ?_
  refine k_getS K X3 hx hby hZ hown (host := "") (Or.inl (W hw 124 rfl)) Via.refl e3 (SS.lo.ext (O0.wr W3 g_a1).2) dj52_4_47 rfl fun T4 X4 e4 => ?_
  refine m_ishr K X4.here hx hby (p3 >>> ((8 : Int32) &&& 31)) dj52_4_50 rfl rfl ?_
  refine m_i2b K X4.here hx hby (wpc2_1_2 p3) dj52_4_51 rfl rfl ?_
  refine k_stB K X4 hx hby hZ e4 V3 (by decide) (LB rfl) dj52_4_52 rfl fun T5 h5 X5 e5 W5 V5 => ?_
  replace V5 : Av Z h5 a1 .byte [(.int y0), (.int y1), (.int (nar .byte (wpc2_1_1 p3))), (.int (nar .byte (wpc2_1_2 p3)))] := V5
  have N5 := Fr.snoc X5 N3 g_a1
  exact Go.retV X5 hx hby hlk hret dj52_4_53 (by decide) (by decide) (by rw [e5]; exact ⟨rfl, N5, (((Keep.refl h0 [a1]).wr W3 (Or.inl (by simp))).wr W5 (Or.inl (by simp))), V5⟩)
def wgc2_1_1 (y2 : Int32) : Int32 := ((y2 &&& (255 : Int32)) <<< ((0 : Int32) &&& 31))
def wgc2_1_2 (y3 : Int32) : Int32 := ((y3 &&& (255 : Int32)) <<< ((8 : Int32) &&& 31))
def wgc2_1_3 (y2 y3 : Int32) : Int32 := (((wgc2_1_1 y2) ||| (wgc2_1_2 y3)).toUInt32.toUInt16.toUInt32.toInt32)
theorem efgc2_1 (m : MethodId) (x0 : Addr) (x1 : Int32) : entryFrame m #[(.ref x0), (.int x1)] 2 = mkF m 0 #[.val (.ref x0), .val (.int x1)] [] := by first | (simp [entryFrame, mkF, argsToLocals, Value.category]; done) | rfl
theorem cgc2_1 (l : Launch) (Z : State) (a0 : Array Value) (hw : ∀ d ∈ tables_1, d.before a0 Z = true) (a1 : Addr) (cz : Int32) (vf : Value) (y0 y1 : Int32) (y2 y3 : Int32) (h0 : Heap) (n0 : Nat) (Z0 : n0 ≤ h0.size) (A_a1 : Av Z h0 a1 .byte [(.int y0), (.int y1), (.int y2), (.int y3)]) (O0 : Old Z n0 h0) (SS : SSt Z cz vf) :
    Con l Z (⟨"java/lang/StringUTF16", "getChar", "([BI)C"⟩ : MethodName) jdk_52_method_5_code 2 (some .char) ({ frames := 0, cells := 0, slots := 0, locals := 0 } : Room) [] #[(.ref a1), (.int (1 : Int32))] h0 (fun v h L => v = some (.int (GCH y2 y3)) ∧ h = h0 ∧ L = []) := by
  refine Con.of (plainFor_of_name pn_java_lang_StringUTF16) #[.val (.ref a1), .val (.int (1 : Int32))] (fun m => efgc2_1 m a1 (1 : Int32)) ?_
  intro p e s m below meth c s₁ K hx hby hml hown hnm hret hlk hZ X0 e0
  have N0 := Fr.nil n0
  refine k_getS K X0 hx hby hZ hown (host := "") (Or.inl (W hw 122 rfl)) Via.refl e0 (SS.ad.ext O0.2) dj52_5_0 rfl fun T1 X1 e1 => ?_
  refine m_ifY K X1.here hx hby (q := 28) dj52_5_3 ((if0 _ _).trans (feq (by decide : ¬ ((1 : Int32) = (0 : Int32)))).2) (by decide) rfl ?_
  refine mIN K X1.here hx hby dj52_5_28 rfl rfl ?_
  refine mC K X1.here hx hby (1 : Int32) dj52_5_29 rfl rfl ?_
  refine m_ishl K X1.here hx hby (2 : Int32) dj52_5_30 rfl rfl ?_
  refine m_istoreN K X1.here hx hby #[.val (.ref a1), .val (.int (2 : Int32))] dj52_5_31 rfl rfl ?_
  refine mAN K X1.here hx hby dj52_5_32 rfl rfl rfl ?_
  refine mIN K X1.here hx hby dj52_5_33 rfl rfl ?_
  refine mJ K X1.here hx hby #[.val (.ref a1), .val (.int (3 : Int32))] dj52_5_34 rfl rfl rfl ?_
  refine k_ldB K X1 hx hby hZ e1 A_a1 (v := (.int y2)) (by decide) rfl dj52_5_37 rfl ?_
  refine mP K X1.here hx hby (255 : Int32) dj52_5_38 rfl rfl ?_
  refine m_iand K X1.here hx hby (y2 &&& (255 : Int32)) dj52_5_41 rfl rfl ?_
  refine k_getS K X1 hx hby hZ hown (host := "") (Or.inl (W hw 123 rfl)) Via.refl e1 (SS.hi.ext O0.2) dj52_5_42 rfl fun T2 X2 e2 => ?_
  refine m_ishl K X2.here hx hby (wgc2_1_1 y2) dj52_5_45 rfl rfl ?_
  refine mAN K X2.here hx hby dj52_5_46 rfl rfl rfl ?_
  refine mIN K X2.here hx hby dj52_5_47 rfl rfl ?_
  refine k_ldB K X2 hx hby hZ e2 A_a1 (v := (.int y3)) (by decide) rfl dj52_5_48 rfl ?_
  refine mP K X2.here hx hby (255 : Int32) dj52_5_49 rfl rfl ?_
  refine m_iand K X2.here hx hby (y3 &&& (255 : Int32)) dj52_5_52 rfl rfl ?_
  refine k_getS K X2 hx hby hZ hown (host := "") (Or.inl (W hw 124 rfl)) Via.refl e2 (SS.lo.ext O0.2) dj52_5_53 rfl fun T3 X3 e3 => ?_
  refine m_ishl K X3.here hx hby (wgc2_1_2 y3) dj52_5_56 rfl rfl ?_
  refine m_ior K X3.here hx hby ((wgc2_1_1 y2) ||| (wgc2_1_2 y3)) dj52_5_57 rfl rfl ?_
  refine m_i2c K X3.here hx hby (wgc2_1_3 y2 y3) dj52_5_58 rfl rfl ?_
  exact Go.retN X3 hx hby hlk hret (by simp) dj52_5_59 (by decide) (by decide) (own_nc _) (⟨rfl, e3, rfl⟩)
theorem efuc2_1 (m : MethodId) (x0 : Addr) (x1 : Int32) : entryFrame m #[(.ref x0), (.int x1)] 2 = mkF m 0 #[.val (.ref x0), .val (.int x1)] [] := by first | (simp [entryFrame, mkF, argsToLocals, Value.category]; done) | rfl
theorem cuc2_1 (l : Launch) (Z : State) (a0 : Array Value) (hw : ∀ d ∈ tables_1, d.before a0 Z = true) (a1 : Addr) (cz : Int32) (vf : Value) (y0 y1 : Int32) (y2 y3 : Int32) (h0 : Heap) (n0 : Nat) (Z0 : n0 ≤ h0.size) (A_a1 : Av Z h0 a1 .byte [(.int y0), (.int y1), (.int y2), (.int y3)]) (O0 : Old Z n0 h0) (SS : SSt Z cz vf) :
    Con l Z (⟨"java/lang/StringUTF16", "charAt", "([BI)C"⟩ : MethodName) jdk_52_method_83_code 2 (some .char) ({ frames := 3, cells := 0, slots := 0, locals := 40 } : Room) [] #[(.ref a1), (.int (1 : Int32))] h0 (fun v h L => v = some (.int (GCH y2 y3)) ∧ h = h0 ∧ L = []) := by
  refine Con.of (plainFor_of_name pn_java_lang_StringUTF16) #[.val (.ref a1), .val (.int (1 : Int32))] (fun m => efuc2_1 m a1 (1 : Int32)) ?_
  intro p e s m below meth c s₁ K hx hby hml hown hnm hret hlk hZ X0 e0
  have N0 := Fr.nil n0
  refine mIN K X0.here hx hby dj52_83_0 rfl rfl ?_
  refine mAN K X0.here hx hby dj52_83_1 rfl rfl rfl ?_
  refine k_callS K X0 hx hby hZ [(.int (1 : Int32)), (.ref a1)] [] hown (W hw 131 rfl) (W hw 132 rfl) (W hw 74 rfl) (W hw 133 rfl) (cuk2 l Z a0 hw (1 : Int32) a1 cz vf y0 y1 y2 y3 h0 n0 Z0 A_a1 O0 SS (by first | decide | omega) (by first | decide | omega)) e0 rfl rfl pd_4 rfl dj52_83_2 (by rw [hml]; rfl) rfl (by decide) (by decide) (LB rfl) (by decide) (by decide) fun v1 T1 L1 X1 q1 => ?_
  obtain ⟨rfl, e1, rfl⟩ := q1
  replace X1 := own_px X1
  refine k_none K ?_
  refine mAN K X1.here hx hby dj52_83_5 rfl rfl rfl ?_
  refine mIN K X1.here hx hby dj52_83_6 rfl rfl ?_
  refine k_callS K X1 hx hby hZ [(.ref a1), (.int (1 : Int32))] [] hown (W hw 125 rfl) (W hw 126 rfl) (W hw 74 rfl) (W hw 127 rfl) (cgc2_1 l Z a0 hw a1 cz vf y0 y1 y2 y3 h0 n0 Z0 A_a1 O0 SS) e1 rfl rfl pd_5 rfl dj52_83_7 (by rw [hml]; rfl) rfl (by decide) (by decide) (LB rfl) (by decide) (by decide) fun v2 T2 L2 X2 q2 => ?_
  obtain ⟨rfl, e2, rfl⟩ := q2
  replace X2 := own_px X2
  refine k_some K (w := (.int (GCH y2 y3))) ?_
  exact Go.retN X2 hx hby hlk hret (by simp) dj52_83_10 (by decide) (by decide) (own_nc _) (⟨rfl, e2, rfl⟩)
theorem efcu2_1 (m : MethodId) (x0 : Addr) (x1 : Int32) : entryFrame m #[(.ref x0), (.int x1)] 2 = mkF m 0 #[.val (.ref x0), .val (.int x1)] [] := by first | (simp [entryFrame, mkF, argsToLocals, Value.category]; done) | rfl
theorem ccu2_1 (l : Launch) (Z : State) (a0 : Array Value) (hw : ∀ d ∈ tables_1, d.before a0 Z = true) (a1 : Addr) (cz : Int32) (vf : Value) (a2 : Addr) (y0 y1 : Int32) (y2 y3 : Int32) (h0 : Heap) (n0 : Nat) (Z0 : n0 ≤ h0.size) (E_a1 : Exa Z h0 a1 "java/lang/String") (F_value_a1 : Fld Z h0 a1 "java/lang/String" "value" "[B" (.ref a2)) (F_coder_a1 : Fld Z h0 a1 "java/lang/String" "coder" "B" (.int (1 : Int32))) (A_a2 : Av Z h0 a2 .byte [(.int y0), (.int y1), (.int y2), (.int y3)]) (O0 : Old Z n0 h0) (SS : SSt Z cz vf) :
    Con l Z (⟨"java/lang/String", "charAt", "(I)C"⟩ : MethodName) jdk_42_method_56_code 2 (some .char) ({ frames := 4, cells := 0, slots := 0, locals := 53 } : Room) [] #[(.ref a1), (.int (1 : Int32))] h0 (fun v h L => v = some (.int (GCH y2 y3)) ∧ h = h0 ∧ L = []) := by
  refine Con.of (plainFor_of_name pn_java_lang_String) #[.val (.ref a1), .val (.int (1 : Int32))] (fun m => efcu2_1 m a1 (1 : Int32)) ?_
  intro p e s m below meth c s₁ K hx hby hml hown hnm hret hlk hZ X0 e0
  have N0 := Fr.nil n0
  refine mAN K X0.here hx hby dj42_56_0 rfl rfl rfl ?_
  refine k_callV K X0 hx hby hZ a1 [] [] hown (W hw 87 rfl) (W hw 88 rfl) (notFace_of_selects (args := #[]) (mvT hZ (W hw 90 rfl))) (W hw 90 rfl) (W hw 89 rfl) (W hw 12 rfl) (W hw 91 rfl) (cil1 l Z a0 hw a1 cz vf h0 n0 Z0 F_coder_a1 O0 SS) e0 E_a1 rfl rfl pd_6 rfl dj42_56_1 (by rw [hml]; rfl) rfl (by decide) (by decide) (LB rfl) (by decide) (by decide) fun v1 T1 L1 X1 q1 => ?_
  obtain ⟨rfl, e1, rfl⟩ := q1
  replace X1 := own_px X1
  refine k_some K (w := (.int (0 : Int32))) ?_
  refine m_ifY K X1.here hx hby (q := 16) dj42_56_4 ((if0 _ _).trans (teq (by decide : (0 : Int32) = (0 : Int32))).1) (by decide) rfl ?_
  refine mAN K X1.here hx hby dj42_56_16 rfl rfl rfl ?_
  refine k_getF K X1 hx hby hZ hown (host := "") (Or.inl (W hw 30 rfl)) Via.refl e1 F_value_a1 dj42_56_17 rfl fun T2 X2 e2 => ?_
  refine mIN K X2.here hx hby dj42_56_20 rfl rfl ?_
  refine k_callS K X2 hx hby hZ [(.ref a2), (.int (1 : Int32))] [] hown (W hw 128 rfl) (W hw 129 rfl) (W hw 74 rfl) (W hw 130 rfl) (cuc2_1 l Z a0 hw a2 cz vf y0 y1 y2 y3 h0 n0 Z0 A_a2 O0 SS) e2 rfl rfl pd_5 rfl dj42_56_21 (by rw [hml]; rfl) rfl (by decide) (by decide) (LB rfl) (by decide) (by decide) fun v3 T3 L3 X3 q3 => ?_
  obtain ⟨rfl, e3, rfl⟩ := q3
  replace X3 := own_px X3
  refine k_some K (w := (.int (GCH y2 y3))) ?_
  exact Go.retN X3 hx hby hlk hret (by simp) dj42_56_24 (by decide) (by decide) (own_nc _) (⟨rfl, e3, rfl⟩)
theorem eftb2 (m : MethodId) (x0 : Addr) (x1 x2 : Int32) : entryFrame m #[(.ref x0), (.int x1), (.int x2)] 5 = mkF m 0 #[.val (.ref x0), .val (.int x1), .val (.int x2), .unset, .unset] [] := by first | (simp [entryFrame, mkF, argsToLocals, Value.category]; done) | rfl
theorem ctb2 (l : Launch) (Z : State) (a0 : Array Value) (hw : ∀ d ∈ tables_1, d.before a0 Z = true) (a1 : Addr) (cz : Int32) (vf : Value) (c0 c1 : Int32) (h0 : Heap) (n0 : Nat) (Z0 : n0 ≤ h0.size) (A_a1 : Av Z h0 a1 .char [(.int c0), (.int c1)]) (O0 : Old Z n0 h0) (SS : SSt Z cz vf) :
    Con l Z (⟨"java/lang/StringUTF16", "toBytes", "([CII)[B"⟩ : MethodName) jdk_52_method_14_code 5 (some (.array .byte)) ({ frames := 2, cells := 1, slots := 4, locals := 24 } : Room) [] #[(.ref a1), (.int (0 : Int32)), (.int (2 : Int32))] h0 (fun v h L => ∃ bv : Addr, v = some (.ref bv) ∧ Fr n0 L ∧ Keep h0 h [] ∧ h0.size ≤ bv ∧ Av Z h bv .byte [(.int (BLO c0)), (.int (BHI c0)), (.int (BLO c1)), (.int (BHI c1))]) := by
  refine Con.of (plainFor_of_name pn_java_lang_StringUTF16) #[.val (.ref a1), .val (.int (0 : Int32)), .val (.int (2 : Int32)), .unset, .unset] (fun m => eftb2 m a1 (0 : Int32) (2 : Int32)) ?_
  intro p e s m below meth c s₁ K hx hby hml hown hnm hret hlk hZ X0 e0
  have N0 := Fr.nil n0
  refine mIN K X0.here hx hby dj52_14_0 rfl rfl ?_
  refine k_callS K X0 hx hby hZ [(.int (2 : Int32))] [] hown (W hw 112 rfl) (W hw 113 rfl) (W hw 74 rfl) (W hw 114 rfl) (cnf2 l Z a0 hw cz vf h0 n0 Z0 O0 SS) e0 rfl rfl pd_7 rfl dj52_14_1 (by rw [hml]; rfl) rfl (by decide) (by decide) (LB rfl) (by decide) (by decide) fun v1 T1 L1 X1 q1 => ?_
  obtain ⟨b1_bv, rfl, Nq1, K1, sq_b1_bv, Ap1_0⟩ := q1
  have N1 := Fr.app N0 Nq1
  have sz_b1_bv : h0.size ≤ b1_bv := Nat.le_trans (Nat.le_refl _) sq_b1_bv
  have g_b1_bv : n0 ≤ b1_bv := Nat.le_trans Z0 sz_b1_bv
  refine k_some K (w := (.ref b1_bv)) ?_
  refine m_astoreN K X1.here hx hby #[.val (.ref a1), .val (.int (0 : Int32)), .val (.int (2 : Int32)), .val (.ref b1_bv), .unset] dj52_14_4 rfl rfl rfl ?_
  refine mC K X1.here hx hby (0 : Int32) dj52_14_5 rfl rfl ?_
  refine mS K X1.here hx hby #[.val (.ref a1), .val (.int (0 : Int32)), .val (.int (2 : Int32)), .val (.ref b1_bv), .val (.int (0 : Int32))] dj52_14_6 rfl rfl ?_
  refine mI K X1.here hx hby dj52_14_8 rfl rfl ?_
  refine mIN K X1.here hx hby dj52_14_10 rfl rfl ?_
  refine m_icmpN K X1.here hx hby (q := 14) dj52_14_11 (tlt (by decide : (0 : Int32) < (2 : Int32))).2.1 rfl ?_
  refine mAN K X1.here hx hby dj52_14_14 rfl rfl rfl ?_
  refine mI K X1.here hx hby dj52_14_15 rfl rfl ?_
  refine mAN K X1.here hx hby dj52_14_17 rfl rfl rfl ?_
  refine mIN K X1.here hx hby dj52_14_18 rfl rfl ?_
  refine k_ldC K X1 hx hby hZ rfl (A_a1.keep K1 nin0) (v := (.int c0)) (by decide) rfl dj52_14_19 rfl ?_
  refine k_callS K X1 hx hby hZ [(.ref b1_bv), (.int (0 : Int32)), (.int c0)] [] hown (W hw 119 rfl) (W hw 120 rfl) (W hw 74 rfl) (W hw 121 rfl) (cpc2_0 l Z a0 hw b1_bv c0 cz vf (0 : Int32) (0 : Int32) (0 : Int32) (0 : Int32) T1.heap n0 (Nat.le_trans Z0 (Nat.le_trans (Nat.le_refl _) K1.1)) Ap1_0 (O0.keep K1 all0) g_b1_bv SS) rfl rfl rfl pd_8 rfl dj52_14_20 (by rw [hml]; rfl) rfl (by decide) (by decide) (LB rfl) (by decide) (by decide) fun v2 T2 L2 X2 q2 => ?_
  obtain ⟨rfl, Nq2, K2, Ap2_0⟩ := q2
  have N2 := Fr.app N1 Nq2
  refine k_none K ?_
  refine mJ K X2.here hx hby #[.val (.ref a1), .val (.int (1 : Int32)), .val (.int (2 : Int32)), .val (.ref b1_bv), .val (.int (0 : Int32))] dj52_14_23 rfl rfl rfl ?_
  refine mJ K X2.here hx hby #[.val (.ref a1), .val (.int (1 : Int32)), .val (.int (2 : Int32)), .val (.ref b1_bv), .val (.int (1 : Int32))] dj52_14_26 rfl rfl rfl ?_
  refine m_goto K X2.here hx hby (q := 8) dj52_14_29 (by decide) rfl ?_
  refine mI K X2.here hx hby dj52_14_8 rfl rfl ?_
  refine mIN K X2.here hx hby dj52_14_10 rfl rfl ?_
  refine m_icmpN K X2.here hx hby (q := 14) dj52_14_11 (tlt (by decide : (1 : Int32) < (2 : Int32))).2.1 rfl ?_
  refine mAN K X2.here hx hby dj52_14_14 rfl rfl rfl ?_
  refine mI K X2.here hx hby dj52_14_15 rfl rfl ?_
  refine mAN K X2.here hx hby dj52_14_17 rfl rfl rfl ?_
  refine mIN K X2.here hx hby dj52_14_18 rfl rfl ?_
  refine k_ldC K X2 hx hby hZ rfl ((A_a1.keep K1 nin0).keep K2 (ninS (Nat.ne_of_lt (Nat.lt_of_lt_of_le (Nat.lt_of_lt_of_le A_a1.lt (Nat.le_refl _)) sq_b1_bv)) nin0)) (v := (.int c1)) (by decide) rfl dj52_14_19 rfl ?_
  refine k_callS K X2 hx hby hZ [(.ref b1_bv), (.int (1 : Int32)), (.int c1)] [] hown (W hw 119 rfl) (W hw 120 rfl) (W hw 74 rfl) (W hw 121 rfl) (cpc2_1 l Z a0 hw b1_bv c1 cz vf (BLO c0) (BHI c0) (0 : Int32) (0 : Int32) T2.heap n0 (Nat.le_trans Z0 (Nat.le_trans (Nat.le_trans (Nat.le_refl _) K1.1) K2.1)) Ap2_0 ((O0.keep K1 all0).keep K2 (allS g_b1_bv all0)) g_b1_bv SS) rfl rfl rfl pd_8 rfl dj52_14_20 (by rw [hml]; rfl) rfl (by decide) (by decide) (LB rfl) (by decide) (by decide) fun v3 T3 L3 X3 q3 => ?_
  obtain ⟨rfl, Nq3, K3, Ap3_0⟩ := q3
  have N3 := Fr.app N2 Nq3
  refine k_none K ?_
  refine mJ K X3.here hx hby #[.val (.ref a1), .val (.int (2 : Int32)), .val (.int (2 : Int32)), .val (.ref b1_bv), .val (.int (1 : Int32))] dj52_14_23 rfl rfl rfl ?_
  refine mJ K X3.here hx hby #[.val (.ref a1), .val (.int (2 : Int32)), .val (.int (2 : Int32)), .val (.ref b1_bv), .val (.int (2 : Int32))] dj52_14_26 rfl rfl rfl ?_
  refine m_goto K X3.here hx hby (q := 8) dj52_14_29 (by decide) rfl ?_
  refine mI K X3.here hx hby dj52_14_8 rfl rfl ?_
  refine mIN K X3.here hx hby dj52_14_10 rfl rfl ?_
  refine m_icmpY K X3.here hx hby (q := 32) dj52_14_11 (flt (by decide : ¬ ((2 : Int32) < (2 : Int32)))).2.1 (by decide) rfl ?_
  refine mAN K X3.here hx hby dj52_14_32 rfl rfl rfl ?_
  exact Go.retO X3 hx hby hlk hret rfl (Or.inr (Or.inr (Or.inr (Or.inr ⟨rfl, rfl, rfl⟩)))) dj52_14_33 (by decide) (by decide) (⟨b1_bv, rfl, N3, ((((Keep.refl h0 []).trans K1 all0).trans K2 (allS (Or.inr sz_b1_bv) all0)).trans K3 (allS (Or.inr sz_b1_bv) all0)), sz_b1_bv, Ap3_0⟩)
theorem eflu2 (m : MethodId) (x0 : Addr) : entryFrame m #[(.ref x0)] 1 = mkF m 0 #[.val (.ref x0)] [] := by first | (simp [entryFrame, mkF, argsToLocals, Value.category]; done) | rfl
theorem clu2 (l : Launch) (Z : State) (a0 : Array Value) (hw : ∀ d ∈ tables_1, d.before a0 Z = true) (a1 : Addr) (cz : Int32) (vf : Value) (a2 : Addr) (y0 y1 : Int32) (y2 y3 : Int32) (h0 : Heap) (n0 : Nat) (Z0 : n0 ≤ h0.size) (E_a1 : Exa Z h0 a1 "java/lang/String") (F_value_a1 : Fld Z h0 a1 "java/lang/String" "value" "[B" (.ref a2)) (F_coder_a1 : Fld Z h0 a1 "java/lang/String" "coder" "B" (.int (1 : Int32))) (A_a2 : Av Z h0 a2 .byte [(.int y0), (.int y1), (.int y2), (.int y3)]) (O0 : Old Z n0 h0) (SS : SSt Z cz vf) :
    Con l Z (⟨"java/lang/String", "length", "()I"⟩ : MethodName) jdk_42_method_54_code 1 (some .int) ({ frames := 1, cells := 0, slots := 0, locals := 13 } : Room) [] #[(.ref a1)] h0 (fun v h L => v = some (.int (2 : Int32)) ∧ h = h0 ∧ L = []) := by
  refine Con.of (plainFor_of_name pn_java_lang_String) #[.val (.ref a1)] (fun m => eflu2 m a1) ?_
  intro p e s m below meth c s₁ K hx hby hml hown hnm hret hlk hZ X0 e0
  have N0 := Fr.nil n0
  refine mAN K X0.here hx hby dj42_54_0 rfl rfl rfl ?_
  refine k_getF K X0 hx hby hZ hown (host := "") (Or.inl (W hw 30 rfl)) Via.refl e0 F_value_a1 dj42_54_1 rfl fun T1 X1 e1 => ?_
  refine k_len K X1 hx hby hZ (4 : Int32) e1 A_a2 rfl dj42_54_4 rfl ?_
  refine mAN K X1.here hx hby dj42_54_5 rfl rfl rfl ?_
  refine k_callV K X1 hx hby hZ a1 [] [(.int (4 : Int32))] hown (W hw 41 rfl) (W hw 42 rfl) (notFace_of_selects (args := #[]) (mvT hZ (W hw 44 rfl))) (W hw 44 rfl) (W hw 43 rfl) (W hw 12 rfl) (W hw 45 rfl) (cco1 l Z a0 hw a1 cz vf h0 n0 Z0 F_coder_a1 O0 SS) e1 E_a1 rfl rfl pd_9 rfl dj42_54_6 (by rw [hml]; rfl) rfl (by decide) (by decide) (LB rfl) (by decide) (by decide) fun v2 T2 L2 X2 q2 => ?_
  obtain ⟨rfl, e2, rfl⟩ := q2
  replace X2 := own_px X2
  refine k_some K (w := (.int (1 : Int32))) ?_
  refine m_ishr K X2.here hx hby (2 : Int32) dj42_54_9 rfl rfl ?_
  exact Go.retI X2 hx hby hlk hret dj42_54_10 (by decide) (by decide) (⟨rfl, e2, rfl⟩)
theorem efnl3 (m : MethodId) (x0 : Int32) : entryFrame m #[(.int x0)] 1 = mkF m 0 #[.val (.int x0)] [] := by first | (simp [entryFrame, mkF, argsToLocals, Value.category]; done) | rfl
theorem cnl3 (l : Launch) (Z : State) (a0 : Array Value) (hw : ∀ d ∈ tables_1, d.before a0 Z = true) (cz : Int32) (vf : Value) (h0 : Heap) (n0 : Nat) (Z0 : n0 ≤ h0.size) (O0 : Old Z n0 h0) (SS : SSt Z cz vf) :
    Con l Z (⟨"java/lang/StringUTF16", "newBytesLength", "(I)I"⟩ : MethodName) jdk_52_method_3_code 1 (some .int) ({ frames := 0, cells := 0, slots := 0, locals := 0 } : Room) [] #[(.int (3 : Int32))] h0 (fun v h L => v = some (.int (6 : Int32)) ∧ h = h0 ∧ L = []) := by
  refine Con.of (plainFor_of_name pn_java_lang_StringUTF16) #[.val (.int (3 : Int32))] (fun m => efnl3 m (3 : Int32)) ?_
  intro p e s m below meth c s₁ K hx hby hml hown hnm hret hlk hZ X0 e0
  have N0 := Fr.nil n0
  refine mIN K X0.here hx hby dj52_3_0 rfl rfl ?_
  refine m_ifY K X0.here hx hby (q := 12) dj52_3_1 ((if0 _ _).trans (flt (by decide : ¬ ((3 : Int32) < (0 : Int32)))).2.1) (by decide) rfl ?_
  refine mIN K X0.here hx hby dj52_3_12 rfl rfl ?_
  refine m_ldc K X0 hx hby hZ hown (W hw 118 rfl) dj52_3_13 rfl ?_
  refine m_icmpY K X0.here hx hby (q := 55) dj52_3_15 (tlt (by decide : (3 : Int32) < (1073741823 : Int32))).1 (by decide) rfl ?_
  refine mIN K X0.here hx hby dj52_3_55 rfl rfl ?_
  refine mC K X0.here hx hby (1 : Int32) dj52_3_56 rfl rfl ?_
  refine m_ishl K X0.here hx hby (6 : Int32) dj52_3_57 rfl rfl ?_
  exact Go.retI X0 hx hby hlk hret dj52_3_58 (by decide) (by decide) (⟨rfl, e0, rfl⟩)
theorem efnf3 (m : MethodId) (x0 : Int32) : entryFrame m #[(.int x0)] 1 = mkF m 0 #[.val (.int x0)] [] := by first | (simp [entryFrame, mkF, argsToLocals, Value.category]; done) | rfl
theorem cnf3 (l : Launch) (Z : State) (a0 : Array Value) (hw : ∀ d ∈ tables_1, d.before a0 Z = true) (cz : Int32) (vf : Value) (h0 : Heap) (n0 : Nat) (Z0 : n0 ≤ h0.size) (O0 : Old Z n0 h0) (SS : SSt Z cz vf) :
    Con l Z (⟨"java/lang/StringUTF16", "newBytesFor", "(I)[B"⟩ : MethodName) jdk_52_method_2_code 1 (some (.array .byte)) ({ frames := 1, cells := 1, slots := 6, locals := 12 } : Room) [] #[(.int (3 : Int32))] h0 (fun v h L => ∃ bv : Addr, v = some (.ref bv) ∧ Fr n0 L ∧ Keep h0 h [] ∧ h0.size ≤ bv ∧ Av Z h bv .byte [(.int (0 : Int32)), (.int (0 : Int32)), (.int (0 : Int32)), (.int (0 : Int32)), (.int (0 : Int32)), (.int (0 : Int32))]) := by
  refine Con.of (plainFor_of_name pn_java_lang_StringUTF16) #[.val (.int (3 : Int32))] (fun m => efnf3 m (3 : Int32)) ?_
  intro p e s m below meth c s₁ K hx hby hml hown hnm hret hlk hZ X0 e0
  have N0 := Fr.nil n0
  refine mIN K X0.here hx hby dj52_2_0 rfl rfl ?_
  refine k_callS K X0 hx hby hZ [(.int (3 : Int32))] [] hown (W hw 115 rfl) (W hw 116 rfl) (W hw 74 rfl) (W hw 117 rfl) (cnl3 l Z a0 hw cz vf h0 n0 Z0 O0 SS) e0 rfl rfl pd_1 rfl dj52_2_1 (by rw [hml]; rfl) rfl (by decide) (by decide) (LB rfl) (by decide) (by decide) fun v1 T1 L1 X1 q1 => ?_
  obtain ⟨rfl, e1, rfl⟩ := q1
  replace X1 := own_px X1
  refine k_some K (w := (.int (6 : Int32))) ?_
  refine k_newP K X1 hx hby hZ 6 6 (W hw 25 rfl) e1 dj52_2_4 rfl (by decide) rfl (by decide) (by decide) (by decide) (by decide) fun T2 h2 b2 X2 e2 E2 g2 V_b2 => ?_
  have sz_b2 : h0.size ≤ b2 := Nat.le_trans (Nat.le_refl _) (Nat.le_of_eq g2.symm)
  have g_b2 : n0 ≤ b2 := Nat.le_trans Z0 sz_b2
  replace V_b2 : Av Z h2 b2 .byte [(.int (0 : Int32)), (.int (0 : Int32)), (.int (0 : Int32)), (.int (0 : Int32)), (.int (0 : Int32)), (.int (0 : Int32))] := V_b2
  exact Go.retO X2 hx hby hlk hret rfl (Or.inr (Or.inr (Or.inr (Or.inr ⟨rfl, rfl, rfl⟩)))) dj52_2_6 (by decide) (by decide) (by rw [e2]; exact ⟨b2, rfl, N0, ((Keep.refl h0 []).ext E2), sz_b2, V_b2⟩)
theorem eful3 (m : MethodId) (x0 : Addr) : entryFrame m #[(.ref x0)] 1 = mkF m 0 #[.val (.ref x0)] [] := by first | (simp [entryFrame, mkF, argsToLocals, Value.category]; done) | rfl
theorem cul3 (l : Launch) (Z : State) (a0 : Array Value) (hw : ∀ d ∈ tables_1, d.before a0 Z = true) (a1 : Addr) (cz : Int32) (vf : Value) (y0 y1 : Int32) (y2 y3 : Int32) (y4 y5 : Int32) (h0 : Heap) (n0 : Nat) (Z0 : n0 ≤ h0.size) (A_a1 : Av Z h0 a1 .byte [(.int y0), (.int y1), (.int y2), (.int y3), (.int y4), (.int y5)]) (O0 : Old Z n0 h0) (SS : SSt Z cz vf) :
    Con l Z (⟨"java/lang/StringUTF16", "length", "([B)I"⟩ : MethodName) jdk_52_method_6_code 1 (some .int) ({ frames := 0, cells := 0, slots := 0, locals := 0 } : Room) [] #[(.ref a1)] h0 (fun v h L => v = some (.int (3 : Int32)) ∧ h = h0 ∧ L = []) := by
  refine Con.of (plainFor_of_name pn_java_lang_StringUTF16) #[.val (.ref a1)] (fun m => eful3 m a1) ?_
  intro p e s m below meth c s₁ K hx hby hml hown hnm hret hlk hZ X0 e0
  have N0 := Fr.nil n0
  refine mAN K X0.here hx hby dj52_6_0 rfl rfl rfl ?_
  refine k_len K X0 hx hby hZ (6 : Int32) e0 A_a1 rfl dj52_6_1 rfl ?_
  refine mC K X0.here hx hby (1 : Int32) dj52_6_2 rfl rfl ?_
  refine m_ishr K X0.here hx hby (3 : Int32) dj52_6_3 rfl rfl ?_
  exact Go.retI X0 hx hby hlk hret dj52_6_4 (by decide) (by decide) (⟨rfl, e0, rfl⟩)
theorem efuk3 (m : MethodId) (x0 : Int32) (x1 : Addr) : entryFrame m #[(.int x0), (.ref x1)] 2 = mkF m 0 #[.val (.int x0), .val (.ref x1)] [] := by first | (simp [entryFrame, mkF, argsToLocals, Value.category]; done) | rfl
theorem cuk3 (l : Launch) (Z : State) (a0 : Array Value) (hw : ∀ d ∈ tables_1, d.before a0 Z = true) (p1 : Int32) (a1 : Addr) (cz : Int32) (vf : Value) (y0 y1 : Int32) (y2 y3 : Int32) (y4 y5 : Int32) (h0 : Heap) (n0 : Nat) (Z0 : n0 ≤ h0.size) (A_a1 : Av Z h0 a1 .byte [(.int y0), (.int y1), (.int y2), (.int y3), (.int y4), (.int y5)]) (O0 : Old Z n0 h0) (SS : SSt Z cz vf) (g0 : ¬ (p1 < (0 : Int32))) (g1 : p1 < (3 : Int32)) :
    Con l Z (⟨"java/lang/StringUTF16", "checkIndex", "(I[B)V"⟩ : MethodName) jdk_52_method_91_code 2 none ({ frames := 2, cells := 0, slots := 0, locals := 27 } : Room) [] #[(.int p1), (.ref a1)] h0 (fun v h L => v = none ∧ h = h0 ∧ L = []) := by
  refine Con.of (plainFor_of_name pn_java_lang_StringUTF16) #[.val (.int p1), .val (.ref a1)] (fun m => efuk3 m p1 a1) ?_
  intro p e s m below meth c s₁ K hx hby hml hown hnm hret hlk hZ X0 e0
  have N0 := Fr.nil n0
  refine mIN K X0.here hx hby dj52_91_0 rfl rfl ?_
  refine mAN K X0.here hx hby dj52_91_1 rfl rfl rfl ?_
  refine k_callS K X0 hx hby hZ [(.ref a1)] [(.int p1)] hown (W hw 134 rfl) (W hw 135 rfl) (W hw 74 rfl) (W hw 136 rfl) (cul3 l Z a0 hw a1 cz vf y0 y1 y2 y3 y4 y5 h0 n0 Z0 A_a1 O0 SS) e0 rfl rfl pd_2 rfl dj52_91_2 (by rw [hml]; rfl) rfl (by decide) (by decide) (LB rfl) (by decide) (by decide) fun v1 T1 L1 X1 q1 => ?_
  obtain ⟨rfl, e1, rfl⟩ := q1
  replace X1 := own_px X1
  refine k_some K (w := (.int (3 : Int32))) ?_
  refine k_callS K X1 hx hby hZ [(.int p1), (.int (3 : Int32))] [] hown (W hw 137 rfl) (W hw 97 rfl) (W hw 12 rfl) (W hw 98 rfl) (cck l Z a0 hw p1 (3 : Int32) cz vf h0 n0 Z0 O0 SS g0 g1) e1 rfl rfl pd_3 rfl dj52_91_5 (by rw [hml]; rfl) rfl (by decide) (by decide) (LB rfl) (by decide) (by decide) fun v2 T2 L2 X2 q2 => ?_
  obtain ⟨rfl, e2, rfl⟩ := q2
  replace X2 := own_px X2
  refine k_none K ?_
  exact Go.retV X2 hx hby hlk hret dj52_91_8 (by decide) (by decide) (⟨rfl, e2, rfl⟩)
def wpc3_0_1 (p3 : Int32) : Int32 := ((p3 >>> ((0 : Int32) &&& 31)).toInt8.toInt32)
def wpc3_0_2 (p3 : Int32) : Int32 := ((p3 >>> ((8 : Int32) &&& 31)).toInt8.toInt32)
theorem efpc3_0 (m : MethodId) (x0 : Addr) (x1 x2 : Int32) : entryFrame m #[(.ref x0), (.int x1), (.int x2)] 3 = mkF m 0 #[.val (.ref x0), .val (.int x1), .val (.int x2)] [] := by first | (simp [entryFrame, mkF, argsToLocals, Value.category]; done) | rfl
theorem cpc3_0 (l : Launch) (Z : State) (a0 : Array Value) (hw : ∀ d ∈ tables_1, d.before a0 Z = true) (a1 : Addr) (p3 cz : Int32) (vf : Value) (y0 y1 : Int32) (y2 y3 : Int32) (y4 y5 : Int32) (h0 : Heap) (n0 : Nat) (Z0 : n0 ≤ h0.size) (A_a1 : Av Z h0 a1 .byte [(.int y0), (.int y1), (.int y2), (.int y3), (.int y4), (.int y5)]) (O0 : Old Z n0 h0) (g_a1 : n0 ≤ a1) (SS : SSt Z cz vf) :
    Con l Z (⟨"java/lang/StringUTF16", "putChar", "([BII)V"⟩ : MethodName) jdk_52_method_4_code 3 none ({ frames := 0, cells := 0, slots := 0, locals := 0 } : Room) [] #[(.ref a1), (.int (0 : Int32)), (.int p3)] h0 (fun v h L => v = none ∧ Fr n0 L ∧ Keep h0 h [a1] ∧ Av Z h a1 .byte [(.int (BLO p3)), (.int (BHI p3)), (.int y2), (.int y3), (.int y4), (.int y5)]) := by
  refine Con.of (plainFor_of_name pn_java_lang_StringUTF16) #[.val (.ref a1), .val (.int (0 : Int32)), .val (.int p3)] (fun m => efpc3_0 m a1 (0 : Int32) p3) ?_
  intro p e s m below meth c s₁ K hx hby hml hown hnm hret hlk hZ X0 e0
  have N0 := Fr.nil n0
  refine k_getS K X0 hx hby hZ hown (host := "") (Or.inl (W hw 122 rfl)) Via.refl e0 (SS.ad.ext O0.2) dj52_4_0 rfl fun T1 X1 e1 => ?_
  refine m_ifY K X1.here hx hby (q := 28) dj52_4_3 ((if0 _ _).trans (feq (by decide : ¬ ((1 : Int32) = (0 : Int32)))).2) (by decide) rfl ?_
  refine mIN K X1.here hx hby dj52_4_28 rfl rfl ?_
  refine mC K X1.here hx hby (1 : Int32) dj52_4_29 rfl rfl ?_
  refine m_ishl K X1.here hx hby (0 : Int32) dj52_4_30 rfl rfl ?_
  refine m_istoreN K X1.here hx hby #[.val (.ref a1), .val (.int (0 : Int32)), .val (.int p3)] dj52_4_31 rfl rfl ?_
  refine mAN K X1.here hx hby dj52_4_32 rfl rfl rfl ?_
  refine mIN K X1.here hx hby dj52_4_33 rfl rfl ?_
  refine mJ K X1.here hx hby #[.val (.ref a1), .val (.int (1 : Int32)), .val (.int p3)] dj52_4_34 rfl rfl rfl ?_
  refine mIN K X1.here hx hby dj52_4_37 rfl rfl ?_
  refine k_getS K X1 hx hby hZ hown (host := "") (Or.inl (W hw 123 rfl)) Via.refl e1 (SS.hi.ext O0.2) dj52_4_38 rfl fun T2 X2 e2 => ?_
  refine m_ishr K X2.here hx hby (p3 >>> ((0 : Int32) &&& 31)) dj52_4_41 rfl rfl ?_
  refine m_i2b K X2.here hx hby (wpc3_0_1 p3) dj52_4_42 rfl rfl ?_
  refine k_stB K X2 hx hby hZ e2 A_a1 (by decide) (LB rfl) dj52_4_43 rfl fun T3 h3 X3 e3 W3 V3 => ?_
  replace V3 : Av Z h3 a1 .byte [(.int (nar .byte (wpc3_0_1 p3))), (.int y1), (.int y2), (.int y3), (.int y4), (.int y5)] := V3
  have N3 := Fr.snoc X3 N0 g_a1
  refine mAN K X3.here hx hby dj52_4_44 rfl rfl rfl ?_
  refine mIN K X3.here hx hby dj52_4_45 rfl rfl ?_
  refine mIN K X3.here hx hby dj52_4_46 rfl rfl ?_
  refine k_getS K X3 hx hby hZ hown (host := "") (Or.inl (W hw 124 rfl)) Via.refl e3 (SS.lo.ext (O0.wr W3 g_a1).2) dj52_4_47 rfl fun T4 X4 e4 => ?_
  refine m_ishr K X4.here hx hby (p3 >>> ((8 : Int32) &&& 31)) dj52_4_50 rfl rfl ?_
  refine m_i2b K X4.here hx hby (wpc3_0_2 p3) dj52_4_51 rfl rfl ?_
  refine k_stB K X4 hx hby hZ e4 V3 (by decide) (LB rfl) dj52_4_52 rfl fun T5 h5 X5 e5 W5 V5 => ?_
  replace V5 : Av Z h5 a1 .byte [(.int (nar .byte (wpc3_0_1 p3))), (.int (nar .byte (wpc3_0_2 p3))), (.int y2), (.int y3), (.int y4), (.int y5)] := V5
  have N5 := Fr.snoc X5 N3 g_a1
  exact Go.retV X5 hx hby hlk hret dj52_4_53 (by decide) (by decide) (by rw [e5]; exact ⟨rfl, N5, (((Keep.refl h0 [a1]).wr W3 (Or.inl (by simp))).wr W5 (Or.inl (by simp))), V5⟩)
def wgc3_0_1 (y0 : Int32) : Int32 := ((y0 &&& (255 : Int32)) <<< ((0 : Int32) &&& 31))
def wgc3_0_2 (y1 : Int32) : Int32 := ((y1 &&& (255 : Int32)) <<< ((8 : Int32) &&& 31))
def wgc3_0_3 (y0 y1 : Int32) : Int32 := (((wgc3_0_1 y0) ||| (wgc3_0_2 y1)).toUInt32.toUInt16.toUInt32.toInt32)
theorem efgc3_0 (m : MethodId) (x0 : Addr) (x1 : Int32) : entryFrame m #[(.ref x0), (.int x1)] 2 = mkF m 0 #[.val (.ref x0), .val (.int x1)] [] := by first | (simp [entryFrame, mkF, argsToLocals, Value.category]; done) | rfl
theorem cgc3_0 (l : Launch) (Z : State) (a0 : Array Value) (hw : ∀ d ∈ tables_1, d.before a0 Z = true) (a1 : Addr) (cz : Int32) (vf : Value) (y0 y1 : Int32) (y2 y3 : Int32) (y4 y5 : Int32) (h0 : Heap) (n0 : Nat) (Z0 : n0 ≤ h0.size) (A_a1 : Av Z h0 a1 .byte [(.int y0), (.int y1), (.int y2), (.int y3), (.int y4), (.int y5)]) (O0 : Old Z n0 h0) (SS : SSt Z cz vf) :
    Con l Z (⟨"java/lang/StringUTF16", "getChar", "([BI)C"⟩ : MethodName) jdk_52_method_5_code 2 (some .char) ({ frames := 0, cells := 0, slots := 0, locals := 0 } : Room) [] #[(.ref a1), (.int (0 : Int32))] h0 (fun v h L => v = some (.int (GCH y0 y1)) ∧ h = h0 ∧ L = []) := by
  refine Con.of (plainFor_of_name pn_java_lang_StringUTF16) #[.val (.ref a1), .val (.int (0 : Int32))] (fun m => efgc3_0 m a1 (0 : Int32)) ?_
  intro p e s m below meth c s₁ K hx hby hml hown hnm hret hlk hZ X0 e0
  have N0 := Fr.nil n0
  refine k_getS K X0 hx hby hZ hown (host := "") (Or.inl (W hw 122 rfl)) Via.refl e0 (SS.ad.ext O0.2) dj52_5_0 rfl fun T1 X1 e1 => ?_
  refine m_ifY K X1.here hx hby (q := 28) dj52_5_3 ((if0 _ _).trans (feq (by decide : ¬ ((1 : Int32) = (0 : Int32)))).2) (by decide) rfl ?_
  refine mIN K X1.here hx hby dj52_5_28 rfl rfl ?_
  refine mC K X1.here hx hby (1 : Int32) dj52_5_29 rfl rfl ?_
  refine m_ishl K X1.here hx hby (0 : Int32) dj52_5_30 rfl rfl ?_
  refine m_istoreN K X1.here hx hby #[.val (.ref a1), .val (.int (0 : Int32))] dj52_5_31 rfl rfl ?_
  refine mAN K X1.here hx hby dj52_5_32 rfl rfl rfl ?_
  refine mIN K X1.here hx hby dj52_5_33 rfl rfl ?_
  refine mJ K X1.here hx hby #[.val (.ref a1), .val (.int (1 : Int32))] dj52_5_34 rfl rfl rfl ?_
  refine k_ldB K X1 hx hby hZ e1 A_a1 (v := (.int y0)) (by decide) rfl dj52_5_37 rfl ?_
  refine mP K X1.here hx hby (255 : Int32) dj52_5_38 rfl rfl ?_
  refine m_iand K X1.here hx hby (y0 &&& (255 : Int32)) dj52_5_41 rfl rfl ?_
  refine k_getS K X1 hx hby hZ hown (host := "") (Or.inl (W hw 123 rfl)) Via.refl e1 (SS.hi.ext O0.2) dj52_5_42 rfl fun T2 X2 e2 => ?_
  refine m_ishl K X2.here hx hby (wgc3_0_1 y0) dj52_5_45 rfl rfl ?_
  refine mAN K X2.here hx hby dj52_5_46 rfl rfl rfl ?_
  refine mIN K X2.here hx hby dj52_5_47 rfl rfl ?_
  refine k_ldB K X2 hx hby hZ e2 A_a1 (v := (.int y1)) (by decide) rfl dj52_5_48 rfl ?_
  refine mP K X2.here hx hby (255 : Int32) dj52_5_49 rfl rfl ?_
  refine m_iand K X2.here hx hby (y1 &&& (255 : Int32)) dj52_5_52 rfl rfl ?_
  refine k_getS K X2 hx hby hZ hown (host := "") (Or.inl (W hw 124 rfl)) Via.refl e2 (SS.lo.ext O0.2) dj52_5_53 rfl fun T3 X3 e3 => ?_
  refine m_ishl K X3.here hx hby (wgc3_0_2 y1) dj52_5_56 rfl rfl ?_
  refine m_ior K X3.here hx hby ((wgc3_0_1 y0) ||| (wgc3_0_2 y1)) dj52_5_57 rfl rfl ?_
  refine m_i2c K X3.here hx hby (wgc3_0_3 y0 y1) dj52_5_58 rfl rfl ?_
  exact Go.retN X3 hx hby hlk hret (by simp) dj52_5_59 (by decide) (by decide) (own_nc _) (⟨rfl, e3, rfl⟩)
theorem efuc3_0 (m : MethodId) (x0 : Addr) (x1 : Int32) : entryFrame m #[(.ref x0), (.int x1)] 2 = mkF m 0 #[.val (.ref x0), .val (.int x1)] [] := by first | (simp [entryFrame, mkF, argsToLocals, Value.category]; done) | rfl
theorem cuc3_0 (l : Launch) (Z : State) (a0 : Array Value) (hw : ∀ d ∈ tables_1, d.before a0 Z = true) (a1 : Addr) (cz : Int32) (vf : Value) (y0 y1 : Int32) (y2 y3 : Int32) (y4 y5 : Int32) (h0 : Heap) (n0 : Nat) (Z0 : n0 ≤ h0.size) (A_a1 : Av Z h0 a1 .byte [(.int y0), (.int y1), (.int y2), (.int y3), (.int y4), (.int y5)]) (O0 : Old Z n0 h0) (SS : SSt Z cz vf) :
    Con l Z (⟨"java/lang/StringUTF16", "charAt", "([BI)C"⟩ : MethodName) jdk_52_method_83_code 2 (some .char) ({ frames := 3, cells := 0, slots := 0, locals := 40 } : Room) [] #[(.ref a1), (.int (0 : Int32))] h0 (fun v h L => v = some (.int (GCH y0 y1)) ∧ h = h0 ∧ L = []) := by
  refine Con.of (plainFor_of_name pn_java_lang_StringUTF16) #[.val (.ref a1), .val (.int (0 : Int32))] (fun m => efuc3_0 m a1 (0 : Int32)) ?_
  intro p e s m below meth c s₁ K hx hby hml hown hnm hret hlk hZ X0 e0
  have N0 := Fr.nil n0
  refine mIN K X0.here hx hby dj52_83_0 rfl rfl ?_
  refine mAN K X0.here hx hby dj52_83_1 rfl rfl rfl ?_
  refine k_callS K X0 hx hby hZ [(.int (0 : Int32)), (.ref a1)] [] hown (W hw 131 rfl) (W hw 132 rfl) (W hw 74 rfl) (W hw 133 rfl) (cuk3 l Z a0 hw (0 : Int32) a1 cz vf y0 y1 y2 y3 y4 y5 h0 n0 Z0 A_a1 O0 SS (by first | decide | omega) (by first | decide | omega)) e0 rfl rfl pd_4 rfl dj52_83_2 (by rw [hml]; rfl) rfl (by decide) (by decide) (LB rfl) (by decide) (by decide) fun v1 T1 L1 X1 q1 => ?_
  obtain ⟨rfl, e1, rfl⟩ := q1
  replace X1 := own_px X1
  refine k_none K ?_
  refine mAN K X1.here hx hby dj52_83_5 rfl rfl rfl ?_
  refine mIN K X1.here hx hby dj52_83_6 rfl rfl ?_
  refine k_callS K X1 hx hby hZ [(.ref a1), (.int (0 : Int32))] [] hown (W hw 125 rfl) (W hw 126 rfl) (W hw 74 rfl) (W hw 127 rfl) (cgc3_0 l Z a0 hw a1 cz vf y0 y1 y2 y3 y4 y5 h0 n0 Z0 A_a1 O0 SS) e1 rfl rfl pd_5 rfl dj52_83_7 (by rw [hml]; rfl) rfl (by decide) (by decide) (LB rfl) (by decide) (by decide) fun v2 T2 L2 X2 q2 => ?_
  obtain ⟨rfl, e2, rfl⟩ := q2
  replace X2 := own_px X2
  refine k_some K (w := (.int (GCH y0 y1))) ?_
  exact Go.retN X2 hx hby hlk hret (by simp) dj52_83_10 (by decide) (by decide) (own_nc _) (⟨rfl, e2, rfl⟩)
theorem efcu3_0 (m : MethodId) (x0 : Addr) (x1 : Int32) : entryFrame m #[(.ref x0), (.int x1)] 2 = mkF m 0 #[.val (.ref x0), .val (.int x1)] [] := by first | (simp [entryFrame, mkF, argsToLocals, Value.category]; done) | rfl
theorem ccu3_0 (l : Launch) (Z : State) (a0 : Array Value) (hw : ∀ d ∈ tables_1, d.before a0 Z = true) (a1 : Addr) (cz : Int32) (vf : Value) (a2 : Addr) (y0 y1 : Int32) (y2 y3 : Int32) (y4 y5 : Int32) (h0 : Heap) (n0 : Nat) (Z0 : n0 ≤ h0.size) (E_a1 : Exa Z h0 a1 "java/lang/String") (F_value_a1 : Fld Z h0 a1 "java/lang/String" "value" "[B" (.ref a2)) (F_coder_a1 : Fld Z h0 a1 "java/lang/String" "coder" "B" (.int (1 : Int32))) (A_a2 : Av Z h0 a2 .byte [(.int y0), (.int y1), (.int y2), (.int y3), (.int y4), (.int y5)]) (O0 : Old Z n0 h0) (SS : SSt Z cz vf) :
    Con l Z (⟨"java/lang/String", "charAt", "(I)C"⟩ : MethodName) jdk_42_method_56_code 2 (some .char) ({ frames := 4, cells := 0, slots := 0, locals := 53 } : Room) [] #[(.ref a1), (.int (0 : Int32))] h0 (fun v h L => v = some (.int (GCH y0 y1)) ∧ h = h0 ∧ L = []) := by
  refine Con.of (plainFor_of_name pn_java_lang_String) #[.val (.ref a1), .val (.int (0 : Int32))] (fun m => efcu3_0 m a1 (0 : Int32)) ?_
  intro p e s m below meth c s₁ K hx hby hml hown hnm hret hlk hZ X0 e0
  have N0 := Fr.nil n0
  refine mAN K X0.here hx hby dj42_56_0 rfl rfl rfl ?_
  refine k_callV K X0 hx hby hZ a1 [] [] hown (W hw 87 rfl) (W hw 88 rfl) (notFace_of_selects (args := #[]) (mvT hZ (W hw 90 rfl))) (W hw 90 rfl) (W hw 89 rfl) (W hw 12 rfl) (W hw 91 rfl) (cil1 l Z a0 hw a1 cz vf h0 n0 Z0 F_coder_a1 O0 SS) e0 E_a1 rfl rfl pd_6 rfl dj42_56_1 (by rw [hml]; rfl) rfl (by decide) (by decide) (LB rfl) (by decide) (by decide) fun v1 T1 L1 X1 q1 => ?_
  obtain ⟨rfl, e1, rfl⟩ := q1
  replace X1 := own_px X1
  refine k_some K (w := (.int (0 : Int32))) ?_
  refine m_ifY K X1.here hx hby (q := 16) dj42_56_4 ((if0 _ _).trans (teq (by decide : (0 : Int32) = (0 : Int32))).1) (by decide) rfl ?_
  refine mAN K X1.here hx hby dj42_56_16 rfl rfl rfl ?_
  refine k_getF K X1 hx hby hZ hown (host := "") (Or.inl (W hw 30 rfl)) Via.refl e1 F_value_a1 dj42_56_17 rfl fun T2 X2 e2 => ?_
  refine mIN K X2.here hx hby dj42_56_20 rfl rfl ?_
  refine k_callS K X2 hx hby hZ [(.ref a2), (.int (0 : Int32))] [] hown (W hw 128 rfl) (W hw 129 rfl) (W hw 74 rfl) (W hw 130 rfl) (cuc3_0 l Z a0 hw a2 cz vf y0 y1 y2 y3 y4 y5 h0 n0 Z0 A_a2 O0 SS) e2 rfl rfl pd_5 rfl dj42_56_21 (by rw [hml]; rfl) rfl (by decide) (by decide) (LB rfl) (by decide) (by decide) fun v3 T3 L3 X3 q3 => ?_
  obtain ⟨rfl, e3, rfl⟩ := q3
  replace X3 := own_px X3
  refine k_some K (w := (.int (GCH y0 y1))) ?_
  exact Go.retN X3 hx hby hlk hret (by simp) dj42_56_24 (by decide) (by decide) (own_nc _) (⟨rfl, e3, rfl⟩)
def wpc3_1_1 (p3 : Int32) : Int32 := ((p3 >>> ((0 : Int32) &&& 31)).toInt8.toInt32)
def wpc3_1_2 (p3 : Int32) : Int32 := ((p3 >>> ((8 : Int32) &&& 31)).toInt8.toInt32)
theorem efpc3_1 (m : MethodId) (x0 : Addr) (x1 x2 : Int32) : entryFrame m #[(.ref x0), (.int x1), (.int x2)] 3 = mkF m 0 #[.val (.ref x0), .val (.int x1), .val (.int x2)] [] := by first | (simp [entryFrame, mkF, argsToLocals, Value.category]; done) | rfl
theorem cpc3_1 (l : Launch) (Z : State) (a0 : Array Value) (hw : ∀ d ∈ tables_1, d.before a0 Z = true) (a1 : Addr) (p3 cz : Int32) (vf : Value) (y0 y1 : Int32) (y2 y3 : Int32) (y4 y5 : Int32) (h0 : Heap) (n0 : Nat) (Z0 : n0 ≤ h0.size) (A_a1 : Av Z h0 a1 .byte [(.int y0), (.int y1), (.int y2), (.int y3), (.int y4), (.int y5)]) (O0 : Old Z n0 h0) (g_a1 : n0 ≤ a1) (SS : SSt Z cz vf) :
    Con l Z (⟨"java/lang/StringUTF16", "putChar", "([BII)V"⟩ : MethodName) jdk_52_method_4_code 3 none ({ frames := 0, cells := 0, slots := 0, locals := 0 } : Room) [] #[(.ref a1), (.int (1 : Int32)), (.int p3)] h0 (fun v h L => v = none ∧ Fr n0 L ∧ Keep h0 h [a1] ∧ Av Z h a1 .byte [(.int y0), (.int y1), (.int (BLO p3)), (.int (BHI p3)), (.int y4), (.int y5)]) := by
  refine Con.of (plainFor_of_name pn_java_lang_StringUTF16) #[.val (.ref a1), .val (.int (1 : Int32)), .val (.int p3)] (fun m => efpc3_1 m a1 (1 : Int32) p3) ?_
  intro p e s m below meth c s₁ K hx hby hml hown hnm hret hlk hZ X0 e0
  have N0 := Fr.nil n0
  refine k_getS K X0 hx hby hZ hown (host := "") (Or.inl (W hw 122 rfl)) Via.refl e0 (SS.ad.ext O0.2) dj52_4_0 rfl fun T1 X1 e1 => ?_
  refine m_ifY K X1.here hx hby (q := 28) dj52_4_3 ((if0 _ _).trans (feq (by decide : ¬ ((1 : Int32) = (0 : Int32)))).2) (by decide) rfl ?_
  refine mIN K X1.here hx hby dj52_4_28 rfl rfl ?_
  refine mC K X1.here hx hby (1 : Int32) dj52_4_29 rfl rfl ?_
  refine m_ishl K X1.here hx hby (2 : Int32) dj52_4_30 rfl rfl ?_
  refine m_istoreN K X1.here hx hby #[.val (.ref a1), .val (.int (2 : Int32)), .val (.int p3)] dj52_4_31 rfl rfl ?_
  refine mAN K X1.here hx hby dj52_4_32 rfl rfl rfl ?_
  refine mIN K X1.here hx hby dj52_4_33 rfl rfl ?_
  refine mJ K X1.here hx hby #[.val (.ref a1), .val (.int (3 : Int32)), .val (.int p3)] dj52_4_34 rfl rfl rfl ?_
  refine mIN K X1.here hx hby dj52_4_37 rfl rfl ?_
  refine k_getS K X1 hx hby hZ hown (host := "") (Or.inl (W hw 123 rfl)) Via.refl e1 (SS.hi.ext O0.2) dj52_4_38 rfl fun T2 X2 e2 => ?_
  refine m_ishr K X2.here hx hby (p3 >>> ((0 : Int32) &&& 31)) dj52_4_41 rfl rfl ?_
  refine m_i2b K X2.here hx hby (wpc3_1_1 p3) dj52_4_42 rfl rfl ?_
  refine k_stB K X2 hx hby hZ e2 A_a1 (by decide) (LB rfl) dj52_4_43 rfl fun T3 h3 X3 e3 W3 V3 => ?_
  replace V3 : Av Z h3 a1 .byte [(.int y0), (.int y1), (.int (nar .byte (wpc3_1_1 p3))), (.int y3), (.int y4), (.int y5)] := V3
  have N3 := Fr.snoc X3 N0 g_a1
  refine mAN K X3.here hx hby dj52_4_44 rfl rfl rfl ?_
  refine mIN K X3.here hx hby dj52_4_45 rfl rfl ?_
  refine mIN K X3.here hx hby dj52_4_46 rfl rfl ?_
  refine k_getS K X3 hx hby hZ hown (host := "") (Or.inl (W hw 124 rfl)) Via.refl e3 (SS.lo.ext (O0.wr W3 g_a1).2) dj52_4_47 rfl fun T4 X4 e4 => ?_
  refine m_ishr K X4.here hx hby (p3 >>> ((8 : Int32) &&& 31)) dj52_4_50 rfl rfl ?_
  refine m_i2b K X4.here hx hby (wpc3_1_2 p3) dj52_4_51 rfl rfl ?_
  refine k_stB K X4 hx hby hZ e4 V3 (by decide) (LB rfl) dj52_4_52 rfl fun T5 h5 X5 e5 W5 V5 => ?_
  replace V5 : Av Z h5 a1 .byte [(.int y0), (.int y1), (.int (nar .byte (wpc3_1_1 p3))), (.int (nar .byte (wpc3_1_2 p3))), (.int y4), (.int y5)] := V5
  have N5 := Fr.snoc X5 N3 g_a1
  exact Go.retV X5 hx hby hlk hret dj52_4_53 (by decide) (by decide) (by rw [e5]; exact ⟨rfl, N5, (((Keep.refl h0 [a1]).wr W3 (Or.inl (by simp))).wr W5 (Or.inl (by simp))), V5⟩)
def wgc3_1_1 (y2 : Int32) : Int32 := ((y2 &&& (255 : Int32)) <<< ((0 : Int32) &&& 31))
def wgc3_1_2 (y3 : Int32) : Int32 := ((y3 &&& (255 : Int32)) <<< ((8 : Int32) &&& 31))
def wgc3_1_3 (y2 y3 : Int32) : Int32 := (((wgc3_1_1 y2) ||| (wgc3_1_2 y3)).toUInt32.toUInt16.toUInt32.toInt32)
theorem efgc3_1 (m : MethodId) (x0 : Addr) (x1 : Int32) : entryFrame m #[(.ref x0), (.int x1)] 2 = mkF m 0 #[.val (.ref x0), .val (.int x1)] [] := by first | (simp [entryFrame, mkF, argsToLocals, Value.category]; done) | rfl
theorem cgc3_1 (l : Launch) (Z : State) (a0 : Array Value) (hw : ∀ d ∈ tables_1, d.before a0 Z = true) (a1 : Addr) (cz : Int32) (vf : Value) (y0 y1 : Int32) (y2 y3 : Int32) (y4 y5 : Int32) (h0 : Heap) (n0 : Nat) (Z0 : n0 ≤ h0.size) (A_a1 : Av Z h0 a1 .byte [(.int y0), (.int y1), (.int y2), (.int y3), (.int y4), (.int y5)]) (O0 : Old Z n0 h0) (SS : SSt Z cz vf) :
    Con l Z (⟨"java/lang/StringUTF16", "getChar", "([BI)C"⟩ : MethodName) jdk_52_method_5_code 2 (some .char) ({ frames := 0, cells := 0, slots := 0, locals := 0 } : Room) [] #[(.ref a1), (.int (1 : Int32))] h0 (fun v h L => v = some (.int (GCH y2 y3)) ∧ h = h0 ∧ L = []) := by
  refine Con.of (plainFor_of_name pn_java_lang_StringUTF16) #[.val (.ref a1), .val (.int (1 : Int32))] (fun m => efgc3_1 m a1 (1 : Int32)) ?_
  intro p e s m below meth c s₁ K hx hby hml hown hnm hret hlk hZ X0 e0
  have N0 := Fr.nil n0
  refine k_getS K X0 hx hby hZ hown (host := "") (Or.inl (W hw 122 rfl)) Via.refl e0 (SS.ad.ext O0.2) dj52_5_0 rfl fun T1 X1 e1 => ?_
  refine m_ifY K X1.here hx hby (q := 28) dj52_5_3 ((if0 _ _).trans (feq (by decide : ¬ ((1 : Int32) = (0 : Int32)))).2) (by decide) rfl ?_
  refine mIN K X1.here hx hby dj52_5_28 rfl rfl ?_
  refine mC K X1.here hx hby (1 : Int32) dj52_5_29 rfl rfl ?_
  refine m_ishl K X1.here hx hby (2 : Int32) dj52_5_30 rfl rfl ?_
  refine m_istoreN K X1.here hx hby #[.val (.ref a1), .val (.int (2 : Int32))] dj52_5_31 rfl rfl ?_
  refine mAN K X1.here hx hby dj52_5_32 rfl rfl rfl ?_
  refine mIN K X1.here hx hby dj52_5_33 rfl rfl ?_
  refine mJ K X1.here hx hby #[.val (.ref a1), .val (.int (3 : Int32))] dj52_5_34 rfl rfl rfl ?_
  refine k_ldB K X1 hx hby hZ e1 A_a1 (v := (.int y2)) (by decide) rfl dj52_5_37 rfl ?_
  refine mP K X1.here hx hby (255 : Int32) dj52_5_38 rfl rfl ?_
  refine m_iand K X1.here hx hby (y2 &&& (255 : Int32)) dj52_5_41 rfl rfl ?_
  refine k_getS K X1 hx hby hZ hown (host := "") (Or.inl (W hw 123 rfl)) Via.refl e1 (SS.hi.ext O0.2) dj52_5_42 rfl fun T2 X2 e2 => ?_
  refine m_ishl K X2.here hx hby (wgc3_1_1 y2) dj52_5_45 rfl rfl ?_
  refine mAN K X2.here hx hby dj52_5_46 rfl rfl rfl ?_
  refine mIN K X2.here hx hby dj52_5_47 rfl rfl ?_
  refine k_ldB K X2 hx hby hZ e2 A_a1 (v := (.int y3)) (by decide) rfl dj52_5_48 rfl ?_
  refine mP K X2.here hx hby (255 : Int32) dj52_5_49 rfl rfl ?_
  refine m_iand K X2.here hx hby (y3 &&& (255 : Int32)) dj52_5_52 rfl rfl ?_
  refine k_getS K X2 hx hby hZ hown (host := "") (Or.inl (W hw 124 rfl)) Via.refl e2 (SS.lo.ext O0.2) dj52_5_53 rfl fun T3 X3 e3 => ?_
  refine m_ishl K X3.here hx hby (wgc3_1_2 y3) dj52_5_56 rfl rfl ?_
  refine m_ior K X3.here hx hby ((wgc3_1_1 y2) ||| (wgc3_1_2 y3)) dj52_5_57 rfl rfl ?_
  refine m_i2c K X3.here hx hby (wgc3_1_3 y2 y3) dj52_5_58 rfl rfl ?_
  exact Go.retN X3 hx hby hlk hret (by simp) dj52_5_59 (by decide) (by decide) (own_nc _) (⟨rfl, e3, rfl⟩)
theorem efuc3_1 (m : MethodId) (x0 : Addr) (x1 : Int32) : entryFrame m #[(.ref x0), (.int x1)] 2 = mkF m 0 #[.val (.ref x0), .val (.int x1)] [] := by first | (simp [entryFrame, mkF, argsToLocals, Value.category]; done) | rfl
theorem cuc3_1 (l : Launch) (Z : State) (a0 : Array Value) (hw : ∀ d ∈ tables_1, d.before a0 Z = true) (a1 : Addr) (cz : Int32) (vf : Value) (y0 y1 : Int32) (y2 y3 : Int32) (y4 y5 : Int32) (h0 : Heap) (n0 : Nat) (Z0 : n0 ≤ h0.size) (A_a1 : Av Z h0 a1 .byte [(.int y0), (.int y1), (.int y2), (.int y3), (.int y4), (.int y5)]) (O0 : Old Z n0 h0) (SS : SSt Z cz vf) :
    Con l Z (⟨"java/lang/StringUTF16", "charAt", "([BI)C"⟩ : MethodName) jdk_52_method_83_code 2 (some .char) ({ frames := 3, cells := 0, slots := 0, locals := 40 } : Room) [] #[(.ref a1), (.int (1 : Int32))] h0 (fun v h L => v = some (.int (GCH y2 y3)) ∧ h = h0 ∧ L = []) := by
  refine Con.of (plainFor_of_name pn_java_lang_StringUTF16) #[.val (.ref a1), .val (.int (1 : Int32))] (fun m => efuc3_1 m a1 (1 : Int32)) ?_
  intro p e s m below meth c s₁ K hx hby hml hown hnm hret hlk hZ X0 e0
  have N0 := Fr.nil n0
  refine mIN K X0.here hx hby dj52_83_0 rfl rfl ?_
  refine mAN K X0.here hx hby dj52_83_1 rfl rfl rfl ?_
  refine k_callS K X0 hx hby hZ [(.int (1 : Int32)), (.ref a1)] [] hown (W hw 131 rfl) (W hw 132 rfl) (W hw 74 rfl) (W hw 133 rfl) (cuk3 l Z a0 hw (1 : Int32) a1 cz vf y0 y1 y2 y3 y4 y5 h0 n0 Z0 A_a1 O0 SS (by first | decide | omega) (by first | decide | omega)) e0 rfl rfl pd_4 rfl dj52_83_2 (by rw [hml]; rfl) rfl (by decide) (by decide) (LB rfl) (by decide) (by decide) fun v1 T1 L1 X1 q1 => ?_
  obtain ⟨rfl, e1, rfl⟩ := q1
  replace X1 := own_px X1
  refine k_none K ?_
  refine mAN K X1.here hx hby dj52_83_5 rfl rfl rfl ?_
  refine mIN K X1.here hx hby dj52_83_6 rfl rfl ?_
  refine k_callS K X1 hx hby hZ [(.ref a1), (.int (1 : Int32))] [] hown (W hw 125 rfl) (W hw 126 rfl) (W hw 74 rfl) (W hw 127 rfl) (cgc3_1 l Z a0 hw a1 cz vf y0 y1 y2 y3 y4 y5 h0 n0 Z0 A_a1 O0 SS) e1 rfl rfl pd_5 rfl dj52_83_7 (by rw [hml]; rfl) rfl (by decide) (by decide) (LB rfl) (by decide) (by decide) fun v2 T2 L2 X2 q2 => ?_
  obtain ⟨rfl, e2, rfl⟩ := q2
  replace X2 := own_px X2
  refine k_some K (w := (.int (GCH y2 y3))) ?_
  exact Go.retN X2 hx hby hlk hret (by simp) dj52_83_10 (by decide) (by decide) (own_nc _) (⟨rfl, e2, rfl⟩)
theorem efcu3_1 (m : MethodId) (x0 : Addr) (x1 : Int32) : entryFrame m #[(.ref x0), (.int x1)] 2 = mkF m 0 #[.val (.ref x0), .val (.int x1)] [] := by first | (simp [entryFrame, mkF, argsToLocals, Value.category]; done) | rfl
theorem ccu3_1 (l : Launch) (Z : State) (a0 : Array Value) (hw : ∀ d ∈ tables_1, d.before a0 Z = true) (a1 : Addr) (cz : Int32) (vf : Value) (a2 : Addr) (y0 y1 : Int32) (y2 y3 : Int32) (y4 y5 : Int32) (h0 : Heap) (n0 : Nat) (Z0 : n0 ≤ h0.size) (E_a1 : Exa Z h0 a1 "java/lang/String") (F_value_a1 : Fld Z h0 a1 "java/lang/String" "value" "[B" (.ref a2)) (F_coder_a1 : Fld Z h0 a1 "java/lang/String" "coder" "B" (.int (1 : Int32))) (A_a2 : Av Z h0 a2 .byte [(.int y0), (.int y1), (.int y2), (.int y3), (.int y4), (.int y5)]) (O0 : Old Z n0 h0) (SS : SSt Z cz vf) :
    Con l Z (⟨"java/lang/String", "charAt", "(I)C"⟩ : MethodName) jdk_42_method_56_code 2 (some .char) ({ frames := 4, cells := 0, slots := 0, locals := 53 } : Room) [] #[(.ref a1), (.int (1 : Int32))] h0 (fun v h L => v = some (.int (GCH y2 y3)) ∧ h = h0 ∧ L = []) := by
  refine Con.of (plainFor_of_name pn_java_lang_String) #[.val (.ref a1), .val (.int (1 : Int32))] (fun m => efcu3_1 m a1 (1 : Int32)) ?_
  intro p e s m below meth c s₁ K hx hby hml hown hnm hret hlk hZ X0 e0
  have N0 := Fr.nil n0
  refine mAN K X0.here hx hby dj42_56_0 rfl rfl rfl ?_
  refine k_callV K X0 hx hby hZ a1 [] [] hown (W hw 87 rfl) (W hw 88 rfl) (notFace_of_selects (args := #[]) (mvT hZ (W hw 90 rfl))) (W hw 90 rfl) (W hw 89 rfl) (W hw 12 rfl) (W hw 91 rfl) (cil1 l Z a0 hw a1 cz vf h0 n0 Z0 F_coder_a1 O0 SS) e0 E_a1 rfl rfl pd_6 rfl dj42_56_1 (by rw [hml]; rfl) rfl (by decide) (by decide) (LB rfl) (by decide) (by decide) fun v1 T1 L1 X1 q1 => ?_
  obtain ⟨rfl, e1, rfl⟩ := q1
  replace X1 := own_px X1
  refine k_some K (w := (.int (0 : Int32))) ?_
  refine m_ifY K X1.here hx hby (q := 16) dj42_56_4 ((if0 _ _).trans (teq (by decide : (0 : Int32) = (0 : Int32))).1) (by decide) rfl ?_
  refine mAN K X1.here hx hby dj42_56_16 rfl rfl rfl ?_
  refine k_getF K X1 hx hby hZ hown (host := "") (Or.inl (W hw 30 rfl)) Via.refl e1 F_value_a1 dj42_56_17 rfl fun T2 X2 e2 => ?_
  refine mIN K X2.here hx hby dj42_56_20 rfl rfl ?_
  refine k_callS K X2 hx hby hZ [(.ref a2), (.int (1 : Int32))] [] hown (W hw 128 rfl) (W hw 129 rfl) (W hw 74 rfl) (W hw 130 rfl) (cuc3_1 l Z a0 hw a2 cz vf y0 y1 y2 y3 y4 y5 h0 n0 Z0 A_a2 O0 SS) e2 rfl rfl pd_5 rfl dj42_56_21 (by rw [hml]; rfl) rfl (by decide) (by decide) (LB rfl) (by decide) (by decide) fun v3 T3 L3 X3 q3 => ?_
  obtain ⟨rfl, e3, rfl⟩ := q3
  replace X3 := own_px X3
  refine k_some K (w := (.int (GCH y2 y3))) ?_
  exact Go.retN X3 hx hby hlk hret (by simp) dj42_56_24 (by decide) (by decide) (own_nc _) (⟨rfl, e3, rfl⟩)
def wpc3_2_1 (p3 : Int32) : Int32 := ((p3 >>> ((0 : Int32) &&& 31)).toInt8.toInt32)
def wpc3_2_2 (p3 : Int32) : Int32 := ((p3 >>> ((8 : Int32) &&& 31)).toInt8.toInt32)
theorem efpc3_2 (m : MethodId) (x0 : Addr) (x1 x2 : Int32) : entryFrame m #[(.ref x0), (.int x1), (.int x2)] 3 = mkF m 0 #[.val (.ref x0), .val (.int x1), .val (.int x2)] [] := by first | (simp [entryFrame, mkF, argsToLocals, Value.category]; done) | rfl
theorem cpc3_2 (l : Launch) (Z : State) (a0 : Array Value) (hw : ∀ d ∈ tables_1, d.before a0 Z = true) (a1 : Addr) (p3 cz : Int32) (vf : Value) (y0 y1 : Int32) (y2 y3 : Int32) (y4 y5 : Int32) (h0 : Heap) (n0 : Nat) (Z0 : n0 ≤ h0.size) (A_a1 : Av Z h0 a1 .byte [(.int y0), (.int y1), (.int y2), (.int y3), (.int y4), (.int y5)]) (O0 : Old Z n0 h0) (g_a1 : n0 ≤ a1) (SS : SSt Z cz vf) :
    Con l Z (⟨"java/lang/StringUTF16", "putChar", "([BII)V"⟩ : MethodName) jdk_52_method_4_code 3 none ({ frames := 0, cells := 0, slots := 0, locals := 0 } : Room) [] #[(.ref a1), (.int (2 : Int32)), (.int p3)] h0 (fun v h L => v = none ∧ Fr n0 L ∧ Keep h0 h [a1] ∧ Av Z h a1 .byte [(.int y0), (.int y1), (.int y2), (.int y3), (.int (BLO p3)), (.int (BHI p3))]) := by
  refine Con.of (plainFor_of_name pn_java_lang_StringUTF16) #[.val (.ref a1), .val (.int (2 : Int32)), .val (.int p3)] (fun m => efpc3_2 m a1 (2 : Int32) p3) ?_
  intro p e s m below meth c s₁ K hx hby hml hown hnm hret hlk hZ X0 e0
  have N0 := Fr.nil n0
  refine k_getS K X0 hx hby hZ hown (host := "") (Or.inl (W hw 122 rfl)) Via.refl e0 (SS.ad.ext O0.2) dj52_4_0 rfl fun T1 X1 e1 => ?_
  refine m_ifY K X1.here hx hby (q := 28) dj52_4_3 ((if0 _ _).trans (feq (by decide : ¬ ((1 : Int32) = (0 : Int32)))).2) (by decide) rfl ?_
  refine mIN K X1.here hx hby dj52_4_28 rfl rfl ?_
  refine mC K X1.here hx hby (1 : Int32) dj52_4_29 rfl rfl ?_
  refine m_ishl K X1.here hx hby (4 : Int32) dj52_4_30 rfl rfl ?_
  refine m_istoreN K X1.here hx hby #[.val (.ref a1), .val (.int (4 : Int32)), .val (.int p3)] dj52_4_31 rfl rfl ?_
  refine mAN K X1.here hx hby dj52_4_32 rfl rfl rfl ?_
  refine mIN K X1.here hx hby dj52_4_33 rfl rfl ?_
  refine mJ K X1.here hx hby #[.val (.ref a1), .val (.int (5 : Int32)), .val (.int p3)] dj52_4_34 rfl rfl rfl ?_
  refine mIN K X1.here hx hby dj52_4_37 rfl rfl ?_
  refine k_getS K X1 hx hby hZ hown (host := "") (Or.inl (W hw 123 rfl)) Via.refl e1 (SS.hi.ext O0.2) dj52_4_38 rfl fun T2 X2 e2 => ?_
  refine m_ishr K X2.here hx hby (p3 >>> ((0 : Int32) &&& 31)) dj52_4_41 rfl rfl ?_
  refine m_i2b K X2.here hx hby (wpc3_2_1 p3) dj52_4_42 rfl rfl ?_
  refine k_stB K X2 hx hby hZ e2 A_a1 (by decide) (LB rfl) dj52_4_43 rfl fun T3 h3 X3 e3 W3 V3 => ?_
  replace V3 : Av Z h3 a1 .byte [(.int y0), (.int y1), (.int y2), (.int y3), (.int (nar .byte (wpc3_2_1 p3))), (.int y5)] := V3
  have N3 := Fr.snoc X3 N0 g_a1
  refine mAN K X3.here hx hby dj52_4_44 rfl rfl rfl ?_
  refine mIN K X3.here hx hby dj52_4_45 rfl rfl ?_
  refine mIN K X3.here hx hby dj52_4_46 rfl rfl ?_
  refine k_getS K X3 hx hby hZ hown (host := "") (Or.inl (W hw 124 rfl)) Via.refl e3 (SS.lo.ext (O0.wr W3 g_a1).2) dj52_4_47 rfl fun T4 X4 e4 => ?_
  refine m_ishr K X4.here hx hby (p3 >>> ((8 : Int32) &&& 31)) dj52_4_50 rfl rfl ?_
  refine m_i2b K X4.here hx hby (wpc3_2_2 p3) dj52_4_51 rfl rfl ?_
  refine k_stB K X4 hx hby hZ e4 V3 (by decide) (LB rfl) dj52_4_52 rfl fun T5 h5 X5 e5 W5 V5 => ?_
  replace V5 : Av Z h5 a1 .byte [(.int y0), (.int y1), (.int y2), (.int y3), (.int (nar .byte (wpc3_2_1 p3))), (.int (nar .byte (wpc3_2_2 p3)))] := V5
  have N5 := Fr.snoc X5 N3 g_a1
  exact Go.retV X5 hx hby hlk hret dj52_4_53 (by decide) (by decide) (by rw [e5]; exact ⟨rfl, N5, (((Keep.refl h0 [a1]).wr W3 (Or.inl (by simp))).wr W5 (Or.inl (by simp))), V5⟩)
def wgc3_2_1 (y4 : Int32) : Int32 := ((y4 &&& (255 : Int32)) <<< ((0 : Int32) &&& 31))
def wgc3_2_2 (y5 : Int32) : Int32 := ((y5 &&& (255 : Int32)) <<< ((8 : Int32) &&& 31))
def wgc3_2_3 (y4 y5 : Int32) : Int32 := (((wgc3_2_1 y4) ||| (wgc3_2_2 y5)).toUInt32.toUInt16.toUInt32.toInt32)
theorem efgc3_2 (m : MethodId) (x0 : Addr) (x1 : Int32) : entryFrame m #[(.ref x0), (.int x1)] 2 = mkF m 0 #[.val (.ref x0), .val (.int x1)] [] := by first | (simp [entryFrame, mkF, argsToLocals, Value.category]; done) | rfl
theorem cgc3_2 (l : Launch) (Z : State) (a0 : Array Value) (hw : ∀ d ∈ tables_1, d.before a0 Z = true) (a1 : Addr) (cz : Int32) (vf : Value) (y0 y1 : Int32) (y2 y3 : Int32) (y4 y5 : Int32) (h0 : Heap) (n0 : Nat) (Z0 : n0 ≤ h0.size) (A_a1 : Av Z h0 a1 .byte [(.int y0), (.int y1), (.int y2), (.int y3), (.int y4), (.int y5)]) (O0 : Old Z n0 h0) (SS : SSt Z cz vf) :
    Con l Z (⟨"java/lang/StringUTF16", "getChar", "([BI)C"⟩ : MethodName) jdk_52_method_5_code 2 (some .char) ({ frames := 0, cells := 0, slots := 0, locals := 0 } : Room) [] #[(.ref a1), (.int (2 : Int32))] h0 (fun v h L => v = some (.int (GCH y4 y5)) ∧ h = h0 ∧ L = []) := by
  refine Con.of (plainFor_of_name pn_java_lang_StringUTF16) #[.val (.ref a1), .val (.int (2 : Int32))] (fun m => efgc3_2 m a1 (2 : Int32)) ?_
  intro p e s m below meth c s₁ K hx hby hml hown hnm hret hlk hZ X0 e0
  have N0 := Fr.nil n0
  refine k_getS K X0 hx hby hZ hown (host := "") (Or.inl (W hw 122 rfl)) Via.refl e0 (SS.ad.ext O0.2) dj52_5_0 rfl fun T1 X1 e1 => ?_
  refine m_ifY K X1.here hx hby (q := 28) dj52_5_3 ((if0 _ _).trans (feq (by decide : ¬ ((1 : Int32) = (0 : Int32)))).2) (by decide) rfl ?_
  refine mIN K X1.here hx hby dj52_5_28 rfl rfl ?_
  refine mC K X1.here hx hby (1 : Int32) dj52_5_29 rfl rfl ?_
  refine m_ishl K X1.here hx hby (4 : Int32) dj52_5_30 rfl rfl ?_
  refine m_istoreN K X1.here hx hby #[.val (.ref a1), .val (.int (4 : Int32))] dj52_5_31 rfl rfl ?_
  refine mAN K X1.here hx hby dj52_5_32 rfl rfl rfl ?_
  refine mIN K X1.here hx hby dj52_5_33 rfl rfl ?_
  refine mJ K X1.here hx hby #[.val (.ref a1), .val (.int (5 : Int32))] dj52_5_34 rfl rfl rfl ?_
  refine k_ldB K X1 hx hby hZ e1 A_a1 (v := (.int y4)) (by decide) rfl dj52_5_37 rfl ?_
  refine mP K X1.here hx hby (255 : Int32) dj52_5_38 rfl rfl ?_
  refine m_iand K X1.here hx hby (y4 &&& (255 : Int32)) dj52_5_41 rfl rfl ?_
  refine k_getS K X1 hx hby hZ hown (host := "") (Or.inl (W hw 123 rfl)) Via.refl e1 (SS.hi.ext O0.2) dj52_5_42 rfl fun T2 X2 e2 => ?_
  refine m_ishl K X2.here hx hby (wgc3_2_1 y4) dj52_5_45 rfl rfl ?_
  refine mAN K X2.here hx hby dj52_5_46 rfl rfl rfl ?_
  refine mIN K X2.here hx hby dj52_5_47 rfl rfl ?_
  refine k_ldB K X2 hx hby hZ e2 A_a1 (v := (.int y5)) (by decide) rfl dj52_5_48 rfl ?_
  refine mP K X2.here hx hby (255 : Int32) dj52_5_49 rfl rfl ?_
  refine m_iand K X2.here hx hby (y5 &&& (255 : Int32)) dj52_5_52 rfl rfl ?_
  refine k_getS K X2 hx hby hZ hown (host := "") (Or.inl (W hw 124 rfl)) Via.refl e2 (SS.lo.ext O0.2) dj52_5_53 rfl fun T3 X3 e3 => ?_
  refine m_ishl K X3.here hx hby (wgc3_2_2 y5) dj52_5_56 rfl rfl ?_
  refine m_ior K X3.here hx hby ((wgc3_2_1 y4) ||| (wgc3_2_2 y5)) dj52_5_57 rfl rfl ?_
  refine m_i2c K X3.here hx hby (wgc3_2_3 y4 y5) dj52_5_58 rfl rfl ?_
  exact Go.retN X3 hx hby hlk hret (by simp) dj52_5_59 (by decide) (by decide) (own_nc _) (⟨rfl, e3, rfl⟩)
theorem efuc3_2 (m : MethodId) (x0 : Addr) (x1 : Int32) : entryFrame m #[(.ref x0), (.int x1)] 2 = mkF m 0 #[.val (.ref x0), .val (.int x1)] [] := by first | (simp [entryFrame, mkF, argsToLocals, Value.category]; done) | rfl
theorem cuc3_2 (l : Launch) (Z : State) (a0 : Array Value) (hw : ∀ d ∈ tables_1, d.before a0 Z = true) (a1 : Addr) (cz : Int32) (vf : Value) (y0 y1 : Int32) (y2 y3 : Int32) (y4 y5 : Int32) (h0 : Heap) (n0 : Nat) (Z0 : n0 ≤ h0.size) (A_a1 : Av Z h0 a1 .byte [(.int y0), (.int y1), (.int y2), (.int y3), (.int y4), (.int y5)]) (O0 : Old Z n0 h0) (SS : SSt Z cz vf) :
    Con l Z (⟨"java/lang/StringUTF16", "charAt", "([BI)C"⟩ : MethodName) jdk_52_method_83_code 2 (some .char) ({ frames := 3, cells := 0, slots := 0, locals := 40 } : Room) [] #[(.ref a1), (.int (2 : Int32))] h0 (fun v h L => v = some (.int (GCH y4 y5)) ∧ h = h0 ∧ L = []) := by
  refine Con.of (plainFor_of_name pn_java_lang_StringUTF16) #[.val (.ref a1), .val (.int (2 : Int32))] (fun m => efuc3_2 m a1 (2 : Int32)) ?_
  intro p e s m below meth c s₁ K hx hby hml hown hnm hret hlk hZ X0 e0
  have N0 := Fr.nil n0
  refine mIN K X0.here hx hby dj52_83_0 rfl rfl ?_
  refine mAN K X0.here hx hby dj52_83_1 rfl rfl rfl ?_
  refine k_callS K X0 hx hby hZ [(.int (2 : Int32)), (.ref a1)] [] hown (W hw 131 rfl) (W hw 132 rfl) (W hw 74 rfl) (W hw 133 rfl) (cuk3 l Z a0 hw (2 : Int32) a1 cz vf y0 y1 y2 y3 y4 y5 h0 n0 Z0 A_a1 O0 SS (by first | decide | omega) (by first | decide | omega)) e0 rfl rfl pd_4 rfl dj52_83_2 (by rw [hml]; rfl) rfl (by decide) (by decide) (LB rfl) (by decide) (by decide) fun v1 T1 L1 X1 q1 => ?_
  obtain ⟨rfl, e1, rfl⟩ := q1
  replace X1 := own_px X1
  refine k_none K ?_
  refine mAN K X1.here hx hby dj52_83_5 rfl rfl rfl ?_
  refine mIN K X1.here hx hby dj52_83_6 rfl rfl ?_
  refine k_callS K X1 hx hby hZ [(.ref a1), (.int (2 : Int32))] [] hown (W hw 125 rfl) (W hw 126 rfl) (W hw 74 rfl) (W hw 127 rfl) (cgc3_2 l Z a0 hw a1 cz vf y0 y1 y2 y3 y4 y5 h0 n0 Z0 A_a1 O0 SS) e1 rfl rfl pd_5 rfl dj52_83_7 (by rw [hml]; rfl) rfl (by decide) (by decide) (LB rfl) (by decide) (by decide) fun v2 T2 L2 X2 q2 => ?_
  obtain ⟨rfl, e2, rfl⟩ := q2
  replace X2 := own_px X2
  refine k_some K (w := (.int (GCH y4 y5))) ?_
  exact Go.retN X2 hx hby hlk hret (by simp) dj52_83_10 (by decide) (by decide) (own_nc _) (⟨rfl, e2, rfl⟩)
theorem efcu3_2 (m : MethodId) (x0 : Addr) (x1 : Int32) : entryFrame m #[(.ref x0), (.int x1)] 2 = mkF m 0 #[.val (.ref x0), .val (.int x1)] [] := by first | (simp [entryFrame, mkF, argsToLocals, Value.category]; done) | rfl
theorem ccu3_2 (l : Launch) (Z : State) (a0 : Array Value) (hw : ∀ d ∈ tables_1, d.before a0 Z = true) (a1 : Addr) (cz : Int32) (vf : Value) (a2 : Addr) (y0 y1 : Int32) (y2 y3 : Int32) (y4 y5 : Int32) (h0 : Heap) (n0 : Nat) (Z0 : n0 ≤ h0.size) (E_a1 : Exa Z h0 a1 "java/lang/String") (F_value_a1 : Fld Z h0 a1 "java/lang/String" "value" "[B" (.ref a2)) (F_coder_a1 : Fld Z h0 a1 "java/lang/String" "coder" "B" (.int (1 : Int32))) (A_a2 : Av Z h0 a2 .byte [(.int y0), (.int y1), (.int y2), (.int y3), (.int y4), (.int y5)]) (O0 : Old Z n0 h0) (SS : SSt Z cz vf) :
    Con l Z (⟨"java/lang/String", "charAt", "(I)C"⟩ : MethodName) jdk_42_method_56_code 2 (some .char) ({ frames := 4, cells := 0, slots := 0, locals := 53 } : Room) [] #[(.ref a1), (.int (2 : Int32))] h0 (fun v h L => v = some (.int (GCH y4 y5)) ∧ h = h0 ∧ L = []) := by
  refine Con.of (plainFor_of_name pn_java_lang_String) #[.val (.ref a1), .val (.int (2 : Int32))] (fun m => efcu3_2 m a1 (2 : Int32)) ?_
  intro p e s m below meth c s₁ K hx hby hml hown hnm hret hlk hZ X0 e0
  have N0 := Fr.nil n0
  refine mAN K X0.here hx hby dj42_56_0 rfl rfl rfl ?_
  refine k_callV K X0 hx hby hZ a1 [] [] hown (W hw 87 rfl) (W hw 88 rfl) (notFace_of_selects (args := #[]) (mvT hZ (W hw 90 rfl))) (W hw 90 rfl) (W hw 89 rfl) (W hw 12 rfl) (W hw 91 rfl) (cil1 l Z a0 hw a1 cz vf h0 n0 Z0 F_coder_a1 O0 SS) e0 E_a1 rfl rfl pd_6 rfl dj42_56_1 (by rw [hml]; rfl) rfl (by decide) (by decide) (LB rfl) (by decide) (by decide) fun v1 T1 L1 X1 q1 => ?_
  obtain ⟨rfl, e1, rfl⟩ := q1
  replace X1 := own_px X1
  refine k_some K (w := (.int (0 : Int32))) ?_
  refine m_ifY K X1.here hx hby (q := 16) dj42_56_4 ((if0 _ _).trans (teq (by decide : (0 : Int32) = (0 : Int32))).1) (by decide) rfl ?_
  refine mAN K X1.here hx hby dj42_56_16 rfl rfl rfl ?_
  refine k_getF K X1 hx hby hZ hown (host := "") (Or.inl (W hw 30 rfl)) Via.refl e1 F_value_a1 dj42_56_17 rfl fun T2 X2 e2 => ?_
  refine mIN K X2.here hx hby dj42_56_20 rfl rfl ?_
  refine k_callS K X2 hx hby hZ [(.ref a2), (.int (2 : Int32))] [] hown (W hw 128 rfl) (W hw 129 rfl) (W hw 74 rfl) (W hw 130 rfl) (cuc3_2 l Z a0 hw a2 cz vf y0 y1 y2 y3 y4 y5 h0 n0 Z0 A_a2 O0 SS) e2 rfl rfl pd_5 rfl dj42_56_21 (by rw [hml]; rfl) rfl (by decide) (by decide) (LB rfl) (by decide) (by decide) fun v3 T3 L3 X3 q3 => ?_
  obtain ⟨rfl, e3, rfl⟩ := q3
  replace X3 := own_px X3
  refine k_some K (w := (.int (GCH y4 y5))) ?_
  exact Go.retN X3 hx hby hlk hret (by simp) dj42_56_24 (by decide) (by decide) (own_nc _) (⟨rfl, e3, rfl⟩)
theorem eftb3 (m : MethodId) (x0 : Addr) (x1 x2 : Int32) : entryFrame m #[(.ref x0), (.int x1), (.int x2)] 5 = mkF m 0 #[.val (.ref x0), .val (.int x1), .val (.int x2), .unset, .unset] [] := by first | (simp [entryFrame, mkF, argsToLocals, Value.category]; done) | rfl
theorem ctb3 (l : Launch) (Z : State) (a0 : Array Value) (hw : ∀ d ∈ tables_1, d.before a0 Z = true) (a1 : Addr) (cz : Int32) (vf : Value) (c0 c1 c2 : Int32) (h0 : Heap) (n0 : Nat) (Z0 : n0 ≤ h0.size) (A_a1 : Av Z h0 a1 .char [(.int c0), (.int c1), (.int c2)]) (O0 : Old Z n0 h0) (SS : SSt Z cz vf) :
    Con l Z (⟨"java/lang/StringUTF16", "toBytes", "([CII)[B"⟩ : MethodName) jdk_52_method_14_code 5 (some (.array .byte)) ({ frames := 2, cells := 1, slots := 6, locals := 24 } : Room) [] #[(.ref a1), (.int (0 : Int32)), (.int (3 : Int32))] h0 (fun v h L => ∃ bv : Addr, v = some (.ref bv) ∧ Fr n0 L ∧ Keep h0 h [] ∧ h0.size ≤ bv ∧ Av Z h bv .byte [(.int (BLO c0)), (.int (BHI c0)), (.int (BLO c1)), (.int (BHI c1)), (.int (BLO c2)), (.int (BHI c2))]) := by
  refine Con.of (plainFor_of_name pn_java_lang_StringUTF16) #[.val (.ref a1), .val (.int (0 : Int32)), .val (.int (3 : Int32)), .unset, .unset] (fun m => eftb3 m a1 (0 : Int32) (3 : Int32)) ?_
  intro p e s m below meth c s₁ K hx hby hml hown hnm hret hlk hZ X0 e0
  have N0 := Fr.nil n0
  refine mIN K X0.here hx hby dj52_14_0 rfl rfl ?_
  refine k_callS K X0 hx hby hZ [(.int (3 : Int32))] [] hown (W hw 112 rfl) (W hw 113 rfl) (W hw 74 rfl) (W hw 114 rfl) (cnf3 l Z a0 hw cz vf h0 n0 Z0 O0 SS) e0 rfl rfl pd_7 rfl dj52_14_1 (by rw [hml]; rfl) rfl (by decide) (by decide) (LB rfl) (by decide) (by decide) fun v1 T1 L1 X1 q1 => ?_
  obtain ⟨b1_bv, rfl, Nq1, K1, sq_b1_bv, Ap1_0⟩ := q1
  have N1 := Fr.app N0 Nq1
  have sz_b1_bv : h0.size ≤ b1_bv := Nat.le_trans (Nat.le_refl _) sq_b1_bv
  have g_b1_bv : n0 ≤ b1_bv := Nat.le_trans Z0 sz_b1_bv
  refine k_some K (w := (.ref b1_bv)) ?_
  refine m_astoreN K X1.here hx hby #[.val (.ref a1), .val (.int (0 : Int32)), .val (.int (3 : Int32)), .val (.ref b1_bv), .unset] dj52_14_4 rfl rfl rfl ?_
  refine mC K X1.here hx hby (0 : Int32) dj52_14_5 rfl rfl ?_
  refine mS K X1.here hx hby #[.val (.ref a1), .val (.int (0 : Int32)), .val (.int (3 : Int32)), .val (.ref b1_bv), .val (.int (0 : Int32))] dj52_14_6 rfl rfl ?_
  refine mI K X1.here hx hby dj52_14_8 rfl rfl ?_
  refine mIN K X1.here hx hby dj52_14_10 rfl rfl ?_
  refine m_icmpN K X1.here hx hby (q := 14) dj52_14_11 (tlt (by decide : (0 : Int32) < (3 : Int32))).2.1 rfl ?_
  refine mAN K X1.here hx hby dj52_14_14 rfl rfl rfl ?_
  refine mI K X1.here hx hby dj52_14_15 rfl rfl ?_
  refine mAN K X1.here hx hby dj52_14_17 rfl rfl rfl ?_
  refine mIN K X1.here hx hby dj52_14_18 rfl rfl ?_
  refine k_ldC K X1 hx hby hZ rfl (A_a1.keep K1 nin0) (v := (.int c0)) (by decide) rfl dj52_14_19 rfl ?_
  refine k_callS K X1 hx hby hZ [(.ref b1_bv), (.int (0 : Int32)), (.int c0)] [] hown (W hw 119 rfl) (W hw 120 rfl) (W hw 74 rfl) (W hw 121 rfl) (cpc3_0 l Z a0 hw b1_bv c0 cz vf (0 : Int32) (0 : Int32) (0 : Int32) (0 : Int32) (0 : Int32) (0 : Int32) T1.heap n0 (Nat.le_trans Z0 (Nat.le_trans (Nat.le_refl _) K1.1)) Ap1_0 (O0.keep K1 all0) g_b1_bv SS) rfl rfl rfl pd_8 rfl dj52_14_20 (by rw [hml]; rfl) rfl (by decide) (by decide) (LB rfl) (by decide) (by decide) fun v2 T2 L2 X2 q2 => ?_
  obtain ⟨rfl, Nq2, K2, Ap2_0⟩ := q2
  have N2 := Fr.app N1 Nq2
  refine k_none K ?_
  refine mJ K X2.here hx hby #[.val (.ref a1), .val (.int (1 : Int32)), .val (.int (3 : Int32)), .val (.ref b1_bv), .val (.int (0 : Int32))] dj52_14_23 rfl rfl rfl ?_
  refine mJ K X2.here hx hby #[.val (.ref a1), .val (.int (1 : Int32)), .val (.int (3 : Int32)), .val (.ref b1_bv), .val (.int (1 : Int32))] dj52_14_26 rfl rfl rfl ?_
  refine m_goto K X2.here hx hby (q := 8) dj52_14_29 (by decide) rfl ?_
  refine mI K X2.here hx hby dj52_14_8 rfl rfl ?_
  refine mIN K X2.here hx hby dj52_14_10 rfl rfl ?_
  refine m_icmpN K X2.here hx hby (q := 14) dj52_14_11 (tlt (by decide : (1 : Int32) < (3 : Int32))).2.1 rfl ?_
  refine mAN K X2.here hx hby dj52_14_14 rfl rfl rfl ?_
  refine mI K X2.here hx hby dj52_14_15 rfl rfl ?_
  refine mAN K X2.here hx hby dj52_14_17 rfl rfl rfl ?_
  refine mIN K X2.here hx hby dj52_14_18 rfl rfl ?_
  refine k_ldC K X2 hx hby hZ rfl ((A_a1.keep K1 nin0).keep K2 (ninS (Nat.ne_of_lt (Nat.lt_of_lt_of_le (Nat.lt_of_lt_of_le A_a1.lt (Nat.le_refl _)) sq_b1_bv)) nin0)) (v := (.int c1)) (by decide) rfl dj52_14_19 rfl ?_
  refine k_callS K X2 hx hby hZ [(.ref b1_bv), (.int (1 : Int32)), (.int c1)] [] hown (W hw 119 rfl) (W hw 120 rfl) (W hw 74 rfl) (W hw 121 rfl) (cpc3_1 l Z a0 hw b1_bv c1 cz vf (BLO c0) (BHI c0) (0 : Int32) (0 : Int32) (0 : Int32) (0 : Int32) T2.heap n0 (Nat.le_trans Z0 (Nat.le_trans (Nat.le_trans (Nat.le_refl _) K1.1) K2.1)) Ap2_0 ((O0.keep K1 all0).keep K2 (allS g_b1_bv all0)) g_b1_bv SS) rfl rfl rfl pd_8 rfl dj52_14_20 (by rw [hml]; rfl) rfl (by decide) (by decide) (LB rfl) (by decide) (by decide) fun v3 T3 L3 X3 q3 => ?_
  obtain ⟨rfl, Nq3, K3, Ap3_0⟩ := q3
  have N3 := Fr.app N2 Nq3
  refine k_none K ?_
  refine mJ K X3.here hx hby #[.val (.ref a1), .val (.int (2 : Int32)), .val (.int (3 : Int32)), .val (.ref b1_bv), .val (.int (1 : Int32))] dj52_14_23 rfl rfl rfl ?_
  refine mJ K X3.here hx hby #[.val (.ref a1), .val (.int (2 : Int32)), .val (.int (3 : Int32)), .val (.ref b1_bv), .val (.int (2 : Int32))] dj52_14_26 rfl rfl rfl ?_
  refine m_goto K X3.here hx hby (q := 8) dj52_14_29 (by decide) rfl ?_
  refine mI K X3.here hx hby dj52_14_8 rfl rfl ?_
  refine mIN K X3.here hx hby dj52_14_10 rfl rfl ?_
  refine m_icmpN K X3.here hx hby (q := 14) dj52_14_11 (tlt (by decide : (2 : Int32) < (3 : Int32))).2.1 rfl ?_
  refine mAN K X3.here hx hby dj52_14_14 rfl rfl rfl ?_
  refine mI K X3.here hx hby dj52_14_15 rfl rfl ?_
  refine mAN K X3.here hx hby dj52_14_17 rfl rfl rfl ?_
  refine mIN K X3.here hx hby dj52_14_18 rfl rfl ?_
  refine k_ldC K X3 hx hby hZ rfl (((A_a1.keep K1 nin0).keep K2 (ninS (Nat.ne_of_lt (Nat.lt_of_lt_of_le (Nat.lt_of_lt_of_le A_a1.lt (Nat.le_refl _)) sq_b1_bv)) nin0)).keep K3 (ninS (Nat.ne_of_lt (Nat.lt_of_lt_of_le (Nat.lt_of_lt_of_le A_a1.lt (Nat.le_refl _)) sq_b1_bv)) nin0)) (v := (.int c2)) (by decide) rfl dj52_14_19 rfl ?_
  refine k_callS K X3 hx hby hZ [(.ref b1_bv), (.int (2 : Int32)), (.int c2)] [] hown (W hw 119 rfl) (W hw 120 rfl) (W hw 74 rfl) (W hw 121 rfl) (cpc3_2 l Z a0 hw b1_bv c2 cz vf (BLO c0) (BHI c0) (BLO c1) (BHI c1) (0 : Int32) (0 : Int32) T3.heap n0 (Nat.le_trans Z0 (Nat.le_trans (Nat.le_trans (Nat.le_trans (Nat.le_refl _) K1.1) K2.1) K3.1)) Ap3_0 (((O0.keep K1 all0).keep K2 (allS g_b1_bv all0)).keep K3 (allS g_b1_bv all0)) g_b1_bv SS) rfl rfl rfl pd_8 rfl dj52_14_20 (by rw [hml]; rfl) rfl (by decide) (by decide) (LB rfl) (by decide) (by decide) fun v4 T4 L4 X4 q4 => ?_
  obtain ⟨rfl, Nq4, K4, Ap4_0⟩ := q4
  have N4 := Fr.app N3 Nq4
  refine k_none K ?_
  refine mJ K X4.here hx hby #[.val (.ref a1), .val (.int (3 : Int32)), .val (.int (3 : Int32)), .val (.ref b1_bv), .val (.int (2 : Int32))] dj52_14_23 rfl rfl rfl ?_
  refine mJ K X4.here hx hby #[.val (.ref a1), .val (.int (3 : Int32)), .val (.int (3 : Int32)), .val (.ref b1_bv), .val (.int (3 : Int32))] dj52_14_26 rfl rfl rfl ?_
  refine m_goto K X4.here hx hby (q := 8) dj52_14_29 (by decide) rfl ?_
  refine mI K X4.here hx hby dj52_14_8 rfl rfl ?_
  refine mIN K X4.here hx hby dj52_14_10 rfl rfl ?_
  refine m_icmpY K X4.here hx hby (q := 32) dj52_14_11 (flt (by decide : ¬ ((3 : Int32) < (3 : Int32)))).2.1 (by decide) rfl ?_
  refine mAN K X4.here hx hby dj52_14_32 rfl rfl rfl ?_
  exact Go.retO X4 hx hby hlk hret rfl (Or.inr (Or.inr (Or.inr (Or.inr ⟨rfl, rfl, rfl⟩)))) dj52_14_33 (by decide) (by decide) (⟨b1_bv, rfl, N4, (((((Keep.refl h0 []).trans K1 all0).trans K2 (allS (Or.inr sz_b1_bv) all0)).trans K3 (allS (Or.inr sz_b1_bv) all0)).trans K4 (allS (Or.inr sz_b1_bv) all0)), sz_b1_bv, Ap4_0⟩)
theorem eflu3 (m : MethodId) (x0 : Addr) : entryFrame m #[(.ref x0)] 1 = mkF m 0 #[.val (.ref x0)] [] := by first | (simp [entryFrame, mkF, argsToLocals, Value.category]; done) | rfl
theorem clu3 (l : Launch) (Z : State) (a0 : Array Value) (hw : ∀ d ∈ tables_1, d.before a0 Z = true) (a1 : Addr) (cz : Int32) (vf : Value) (a2 : Addr) (y0 y1 : Int32) (y2 y3 : Int32) (y4 y5 : Int32) (h0 : Heap) (n0 : Nat) (Z0 : n0 ≤ h0.size) (E_a1 : Exa Z h0 a1 "java/lang/String") (F_value_a1 : Fld Z h0 a1 "java/lang/String" "value" "[B" (.ref a2)) (F_coder_a1 : Fld Z h0 a1 "java/lang/String" "coder" "B" (.int (1 : Int32))) (A_a2 : Av Z h0 a2 .byte [(.int y0), (.int y1), (.int y2), (.int y3), (.int y4), (.int y5)]) (O0 : Old Z n0 h0) (SS : SSt Z cz vf) :
    Con l Z (⟨"java/lang/String", "length", "()I"⟩ : MethodName) jdk_42_method_54_code 1 (some .int) ({ frames := 1, cells := 0, slots := 0, locals := 13 } : Room) [] #[(.ref a1)] h0 (fun v h L => v = some (.int (3 : Int32)) ∧ h = h0 ∧ L = []) := by
  refine Con.of (plainFor_of_name pn_java_lang_String) #[.val (.ref a1)] (fun m => eflu3 m a1) ?_
  intro p e s m below meth c s₁ K hx hby hml hown hnm hret hlk hZ X0 e0
  have N0 := Fr.nil n0
  refine mAN K X0.here hx hby dj42_54_0 rfl rfl rfl ?_
  refine k_getF K X0 hx hby hZ hown (host := "") (Or.inl (W hw 30 rfl)) Via.refl e0 F_value_a1 dj42_54_1 rfl fun T1 X1 e1 => ?_
  refine k_len K X1 hx hby hZ (6 : Int32) e1 A_a2 rfl dj42_54_4 rfl ?_
  refine mAN K X1.here hx hby dj42_54_5 rfl rfl rfl ?_
  refine k_callV K X1 hx hby hZ a1 [] [(.int (6 : Int32))] hown (W hw 41 rfl) (W hw 42 rfl) (notFace_of_selects (args := #[]) (mvT hZ (W hw 44 rfl))) (W hw 44 rfl) (W hw 43 rfl) (W hw 12 rfl) (W hw 45 rfl) (cco1 l Z a0 hw a1 cz vf h0 n0 Z0 F_coder_a1 O0 SS) e1 E_a1 rfl rfl pd_9 rfl dj42_54_6 (by rw [hml]; rfl) rfl (by decide) (by decide) (LB rfl) (by decide) (by decide) fun v2 T2 L2 X2 q2 => ?_
  obtain ⟨rfl, e2, rfl⟩ := q2
  replace X2 := own_px X2
  refine k_some K (w := (.int (1 : Int32))) ?_
  refine m_ishr K X2.here hx hby (3 : Int32) dj42_54_9 rfl rfl ?_
  exact Go.retI X2 hx hby hlk hret dj42_54_10 (by decide) (by decide) (⟨rfl, e2, rfl⟩)
theorem efnl4 (m : MethodId) (x0 : Int32) : entryFrame m #[(.int x0)] 1 = mkF m 0 #[.val (.int x0)] [] := by first | (simp [entryFrame, mkF, argsToLocals, Value.category]; done) | rfl
theorem cnl4 (l : Launch) (Z : State) (a0 : Array Value) (hw : ∀ d ∈ tables_1, d.before a0 Z = true) (cz : Int32) (vf : Value) (h0 : Heap) (n0 : Nat) (Z0 : n0 ≤ h0.size) (O0 : Old Z n0 h0) (SS : SSt Z cz vf) :
    Con l Z (⟨"java/lang/StringUTF16", "newBytesLength", "(I)I"⟩ : MethodName) jdk_52_method_3_code 1 (some .int) ({ frames := 0, cells := 0, slots := 0, locals := 0 } : Room) [] #[(.int (4 : Int32))] h0 (fun v h L => v = some (.int (8 : Int32)) ∧ h = h0 ∧ L = []) := by
  refine Con.of (plainFor_of_name pn_java_lang_StringUTF16) #[.val (.int (4 : Int32))] (fun m => efnl4 m (4 : Int32)) ?_
  intro p e s m below meth c s₁ K hx hby hml hown hnm hret hlk hZ X0 e0
  have N0 := Fr.nil n0
  refine mIN K X0.here hx hby dj52_3_0 rfl rfl ?_
  refine m_ifY K X0.here hx hby (q := 12) dj52_3_1 ((if0 _ _).trans (flt (by decide : ¬ ((4 : Int32) < (0 : Int32)))).2.1) (by decide) rfl ?_
  refine mIN K X0.here hx hby dj52_3_12 rfl rfl ?_
  refine m_ldc K X0 hx hby hZ hown (W hw 118 rfl) dj52_3_13 rfl ?_
  refine m_icmpY K X0.here hx hby (q := 55) dj52_3_15 (tlt (by decide : (4 : Int32) < (1073741823 : Int32))).1 (by decide) rfl ?_
  refine mIN K X0.here hx hby dj52_3_55 rfl rfl ?_
  refine mC K X0.here hx hby (1 : Int32) dj52_3_56 rfl rfl ?_
  refine m_ishl K X0.here hx hby (8 : Int32) dj52_3_57 rfl rfl ?_
  exact Go.retI X0 hx hby hlk hret dj52_3_58 (by decide) (by decide) (⟨rfl, e0, rfl⟩)
theorem efnf4 (m : MethodId) (x0 : Int32) : entryFrame m #[(.int x0)] 1 = mkF m 0 #[.val (.int x0)] [] := by first | (simp [entryFrame, mkF, argsToLocals, Value.category]; done) | rfl
theorem cnf4 (l : Launch) (Z : State) (a0 : Array Value) (hw : ∀ d ∈ tables_1, d.before a0 Z = true) (cz : Int32) (vf : Value) (h0 : Heap) (n0 : Nat) (Z0 : n0 ≤ h0.size) (O0 : Old Z n0 h0) (SS : SSt Z cz vf) :
    Con l Z (⟨"java/lang/StringUTF16", "newBytesFor", "(I)[B"⟩ : MethodName) jdk_52_method_2_code 1 (some (.array .byte)) ({ frames := 1, cells := 1, slots := 8, locals := 12 } : Room) [] #[(.int (4 : Int32))] h0 (fun v h L => ∃ bv : Addr, v = some (.ref bv) ∧ Fr n0 L ∧ Keep h0 h [] ∧ h0.size ≤ bv ∧ Av Z h bv .byte [(.int (0 : Int32)), (.int (0 : Int32)), (.int (0 : Int32)), (.int (0 : Int32)), (.int (0 : Int32)), (.int (0 : Int32)), (.int (0 : Int32)), (.int (0 : Int32))]) := by
  refine Con.of (plainFor_of_name pn_java_lang_StringUTF16) #[.val (.int (4 : Int32))] (fun m => efnf4 m (4 : Int32)) ?_
  intro p e s m below meth c s₁ K hx hby hml hown hnm hret hlk hZ X0 e0
  have N0 := Fr.nil n0
  refine mIN K X0.here hx hby dj52_2_0 rfl rfl ?_
  refine k_callS K X0 hx hby hZ [(.int (4 : Int32))] [] hown (W hw 115 rfl) (W hw 116 rfl) (W hw 74 rfl) (W hw 117 rfl) (cnl4 l Z a0 hw cz vf h0 n0 Z0 O0 SS) e0 rfl rfl pd_1 rfl dj52_2_1 (by rw [hml]; rfl) rfl (by decide) (by decide) (LB rfl) (by decide) (by decide) fun v1 T1 L1 X1 q1 => ?_
  obtain ⟨rfl, e1, rfl⟩ := q1
  replace X1 := own_px X1
  refine k_some K (w := (.int (8 : Int32))) ?_
  refine k_newP K X1 hx hby hZ 8 8 (W hw 25 rfl) e1 dj52_2_4 rfl (by decide) rfl (by decide) (by decide) (by decide) (by decide) fun T2 h2 b2 X2 e2 E2 g2 V_b2 => ?_
  have sz_b2 : h0.size ≤ b2 := Nat.le_trans (Nat.le_refl _) (Nat.le_of_eq g2.symm)
  have g_b2 : n0 ≤ b2 := Nat.le_trans Z0 sz_b2
  replace V_b2 : Av Z h2 b2 .byte [(.int (0 : Int32)), (.int (0 : Int32)), (.int (0 : Int32)), (.int (0 : Int32)), (.int (0 : Int32)), (.int (0 : Int32)), (.int (0 : Int32)), (.int (0 : Int32))] := V_b2
  exact Go.retO X2 hx hby hlk hret rfl (Or.inr (Or.inr (Or.inr (Or.inr ⟨rfl, rfl, rfl⟩)))) dj52_2_6 (by decide) (by decide) (by rw [e2]; exact ⟨b2, rfl, N0, ((Keep.refl h0 []).ext E2), sz_b2, V_b2⟩)
theorem eful4 (m : MethodId) (x0 : Addr) : entryFrame m #[(.ref x0)] 1 = mkF m 0 #[.val (.ref x0)] [] := by first | (simp [entryFrame, mkF, argsToLocals, Value.category]; done) | rfl
theorem cul4 (l : Launch) (Z : State) (a0 : Array Value) (hw : ∀ d ∈ tables_1, d.before a0 Z = true) (a1 : Addr) (cz : Int32) (vf : Value) (y0 y1 : Int32) (y2 y3 : Int32) (y4 y5 : Int32) (y6 y7 : Int32) (h0 : Heap) (n0 : Nat) (Z0 : n0 ≤ h0.size) (A_a1 : Av Z h0 a1 .byte [(.int y0), (.int y1), (.int y2), (.int y3), (.int y4), (.int y5), (.int y6), (.int y7)]) (O0 : Old Z n0 h0) (SS : SSt Z cz vf) :
    Con l Z (⟨"java/lang/StringUTF16", "length", "([B)I"⟩ : MethodName) jdk_52_method_6_code 1 (some .int) ({ frames := 0, cells := 0, slots := 0, locals := 0 } : Room) [] #[(.ref a1)] h0 (fun v h L => v = some (.int (4 : Int32)) ∧ h = h0 ∧ L = []) := by
  refine Con.of (plainFor_of_name pn_java_lang_StringUTF16) #[.val (.ref a1)] (fun m => eful4 m a1) ?_
  intro p e s m below meth c s₁ K hx hby hml hown hnm hret hlk hZ X0 e0
  have N0 := Fr.nil n0
  refine mAN K X0.here hx hby dj52_6_0 rfl rfl rfl ?_
  refine k_len K X0 hx hby hZ (8 : Int32) e0 A_a1 rfl dj52_6_1 rfl ?_
  refine mC K X0.here hx hby (1 : Int32) dj52_6_2 rfl rfl ?_
  refine m_ishr K X0.here hx hby (4 : Int32) dj52_6_3 rfl rfl ?_
  exact Go.retI X0 hx hby hlk hret dj52_6_4 (by decide) (by decide) (⟨rfl, e0, rfl⟩)
theorem efuk4 (m : MethodId) (x0 : Int32) (x1 : Addr) : entryFrame m #[(.int x0), (.ref x1)] 2 = mkF m 0 #[.val (.int x0), .val (.ref x1)] [] := by first | (simp [entryFrame, mkF, argsToLocals, Value.category]; done) | rfl
theorem cuk4 (l : Launch) (Z : State) (a0 : Array Value) (hw : ∀ d ∈ tables_1, d.before a0 Z = true) (p1 : Int32) (a1 : Addr) (cz : Int32) (vf : Value) (y0 y1 : Int32) (y2 y3 : Int32) (y4 y5 : Int32) (y6 y7 : Int32) (h0 : Heap) (n0 : Nat) (Z0 : n0 ≤ h0.size) (A_a1 : Av Z h0 a1 .byte [(.int y0), (.int y1), (.int y2), (.int y3), (.int y4), (.int y5), (.int y6), (.int y7)]) (O0 : Old Z n0 h0) (SS : SSt Z cz vf) (g0 : ¬ (p1 < (0 : Int32))) (g1 : p1 < (4 : Int32)) :
    Con l Z (⟨"java/lang/StringUTF16", "checkIndex", "(I[B)V"⟩ : MethodName) jdk_52_method_91_code 2 none ({ frames := 2, cells := 0, slots := 0, locals := 27 } : Room) [] #[(.int p1), (.ref a1)] h0 (fun v h L => v = none ∧ h = h0 ∧ L = []) := by
  refine Con.of (plainFor_of_name pn_java_lang_StringUTF16) #[.val (.int p1), .val (.ref a1)] (fun m => efuk4 m p1 a1) ?_
  intro p e s m below meth c s₁ K hx hby hml hown hnm hret hlk hZ X0 e0
  have N0 := Fr.nil n0
  refine mIN K X0.here hx hby dj52_91_0 rfl rfl ?_
  refine mAN K X0.here hx hby dj52_91_1 rfl rfl rfl ?_
  refine k_callS K X0 hx hby hZ [(.ref a1)] [(.int p1)] hown (W hw 134 rfl) (W hw 135 rfl) (W hw 74 rfl) (W hw 136 rfl) (cul4 l Z a0 hw a1 cz vf y0 y1 y2 y3 y4 y5 y6 y7 h0 n0 Z0 A_a1 O0 SS) e0 rfl rfl pd_2 rfl dj52_91_2 (by rw [hml]; rfl) rfl (by decide) (by decide) (LB rfl) (by decide) (by decide) fun v1 T1 L1 X1 q1 => ?_
  obtain ⟨rfl, e1, rfl⟩ := q1
  replace X1 := own_px X1
  refine k_some K (w := (.int (4 : Int32))) ?_
  refine k_callS K X1 hx hby hZ [(.int p1), (.int (4 : Int32))] [] hown (W hw 137 rfl) (W hw 97 rfl) (W hw 12 rfl) (W hw 98 rfl) (cck l Z a0 hw p1 (4 : Int32) cz vf h0 n0 Z0 O0 SS g0 g1) e1 rfl rfl pd_3 rfl dj52_91_5 (by rw [hml]; rfl) rfl (by decide) (by decide) (LB rfl) (by decide) (by decide) fun v2 T2 L2 X2 q2 => ?_
  obtain ⟨rfl, e2, rfl⟩ := q2
  replace X2 := own_px X2
  refine k_none K ?_
  exact Go.retV X2 hx hby hlk hret dj52_91_8 (by decide) (by decide) (⟨rfl, e2, rfl⟩)
def wpc4_0_1 (p3 : Int32) : Int32 := ((p3 >>> ((0 : Int32) &&& 31)).toInt8.toInt32)
def wpc4_0_2 (p3 : Int32) : Int32 := ((p3 >>> ((8 : Int32) &&& 31)).toInt8.toInt32)
theorem efpc4_0 (m : MethodId) (x0 : Addr) (x1 x2 : Int32) : entryFrame m #[(.ref x0), (.int x1), (.int x2)] 3 = mkF m 0 #[.val (.ref x0), .val (.int x1), .val (.int x2)] [] := by first | (simp [entryFrame, mkF, argsToLocals, Value.category]; done) | rfl
theorem cpc4_0 (l : Launch) (Z : State) (a0 : Array Value) (hw : ∀ d ∈ tables_1, d.before a0 Z = true) (a1 : Addr) (p3 cz : Int32) (vf : Value) (y0 y1 : Int32) (y2 y3 : Int32) (y4 y5 : Int32) (y6 y7 : Int32) (h0 : Heap) (n0 : Nat) (Z0 : n0 ≤ h0.size) (A_a1 : Av Z h0 a1 .byte [(.int y0), (.int y1), (.int y2), (.int y3), (.int y4), (.int y5), (.int y6), (.int y7)]) (O0 : Old Z n0 h0) (g_a1 : n0 ≤ a1) (SS : SSt Z cz vf) :
    Con l Z (⟨"java/lang/StringUTF16", "putChar", "([BII)V"⟩ : MethodName) jdk_52_method_4_code 3 none ({ frames := 0, cells := 0, slots := 0, locals := 0 } : Room) [] #[(.ref a1), (.int (0 : Int32)), (.int p3)] h0 (fun v h L => v = none ∧ Fr n0 L ∧ Keep h0 h [a1] ∧ Av Z h a1 .byte [(.int (BLO p3)), (.int (BHI p3)), (.int y2), (.int y3), (.int y4), (.int y5), (.int y6), (.int y7)]) := by
  refine Con.of (plainFor_of_name pn_java_lang_StringUTF16) #[.val (.ref a1), .val (.int (0 : Int32)), .val (.int p3)] (fun m => efpc4_0 m a1 (0 : Int32) p3) ?_
  intro p e s m below meth c s₁ K hx hby hml hown hnm hret hlk hZ X0 e0
  have N0 := Fr.nil n0
  refine k_getS K X0 hx hby hZ hown (host := "") (Or.inl (W hw 122 rfl)) Via.refl e0 (SS.ad.ext O0.2) dj52_4_0 rfl fun T1 X1 e1 => ?_
  refine m_ifY K X1.here hx hby (q := 28) dj52_4_3 ((if0 _ _).trans (feq (by decide : ¬ ((1 : Int32) = (0 : Int32)))).2) (by decide) rfl ?_
  refine mIN K X1.here hx hby dj52_4_28 rfl rfl ?_
  refine mC K X1.here hx hby (1 : Int32) dj52_4_29 rfl rfl ?_
  refine m_ishl K X1.here hx hby (0 : Int32) dj52_4_30 rfl rfl ?_
  refine m_istoreN K X1.here hx hby #[.val (.ref a1), .val (.int (0 : Int32)), .val (.int p3)] dj52_4_31 rfl rfl ?_
  refine mAN K X1.here hx hby dj52_4_32 rfl rfl rfl ?_
  refine mIN K X1.here hx hby dj52_4_33 rfl rfl ?_
  refine mJ K X1.here hx hby #[.val (.ref a1), .val (.int (1 : Int32)), .val (.int p3)] dj52_4_34 rfl rfl rfl ?_
  refine mIN K X1.here hx hby dj52_4_37 rfl rfl ?_
  refine k_getS K X1 hx hby hZ hown (host := "") (Or.inl (W hw 123 rfl)) Via.refl e1 (SS.hi.ext O0.2) dj52_4_38 rfl fun T2 X2 e2 => ?_
  refine m_ishr K X2.here hx hby (p3 >>> ((0 : Int32) &&& 31)) dj52_4_41 rfl rfl ?_
  refine m_i2b K X2.here hx hby (wpc4_0_1 p3) dj52_4_42 rfl rfl ?_
  refine k_stB K X2 hx hby hZ e2 A_a1 (by decide) (LB rfl) dj52_4_43 rfl fun T3 h3 X3 e3 W3 V3 => ?_
  replace V3 : Av Z h3 a1 .byte [(.int (nar .byte (wpc4_0_1 p3))), (.int y1), (.int y2), (.int y3), (.int y4), (.int y5), (.int y6), (.int y7)] := V3
  have N3 := Fr.snoc X3 N0 g_a1
  refine mAN K X3.here hx hby dj52_4_44 rfl rfl rfl ?_
  refine mIN K X3.here hx hby dj52_4_45 rfl rfl ?_
  refine mIN K X3.here hx hby dj52_4_46 rfl rfl ?_
  refine k_getS K X3 hx hby hZ hown (host := "") (Or.inl (W hw 124 rfl)) Via.refl e3 (SS.lo.ext (O0.wr W3 g_a1).2) dj52_4_47 rfl fun T4 X4 e4 => ?_
  refine m_ishr K X4.here hx hby (p3 >>> ((8 : Int32) &&& 31)) dj52_4_50 rfl rfl ?_
  refine m_i2b K X4.here hx hby (wpc4_0_2 p3) dj52_4_51 rfl rfl ?_
  refine k_stB K X4 hx hby hZ e4 V3 (by decide) (LB rfl) dj52_4_52 rfl fun T5 h5 X5 e5 W5 V5 => ?_
  replace V5 : Av Z h5 a1 .byte [(.int (nar .byte (wpc4_0_1 p3))), (.int (nar .byte (wpc4_0_2 p3))), (.int y2), (.int y3), (.int y4), (.int y5), (.int y6), (.int y7)] := V5
  have N5 := Fr.snoc X5 N3 g_a1
  exact Go.retV X5 hx hby hlk hret dj52_4_53 (by decide) (by decide) (by rw [e5]; exact ⟨rfl, N5, (((Keep.refl h0 [a1]).wr W3 (Or.inl (by simp))).wr W5 (Or.inl (by simp))), V5⟩)
def wgc4_0_1 (y0 : Int32) : Int32 := ((y0 &&& (255 : Int32)) <<< ((0 : Int32) &&& 31))
def wgc4_0_2 (y1 : Int32) : Int32 := ((y1 &&& (255 : Int32)) <<< ((8 : Int32) &&& 31))
def wgc4_0_3 (y0 y1 : Int32) : Int32 := (((wgc4_0_1 y0) ||| (wgc4_0_2 y1)).toUInt32.toUInt16.toUInt32.toInt32)
theorem efgc4_0 (m : MethodId) (x0 : Addr) (x1 : Int32) : entryFrame m #[(.ref x0), (.int x1)] 2 = mkF m 0 #[.val (.ref x0), .val (.int x1)] [] := by first | (simp [entryFrame, mkF, argsToLocals, Value.category]; done) | rfl
theorem cgc4_0 (l : Launch) (Z : State) (a0 : Array Value) (hw : ∀ d ∈ tables_1, d.before a0 Z = true) (a1 : Addr) (cz : Int32) (vf : Value) (y0 y1 : Int32) (y2 y3 : Int32) (y4 y5 : Int32) (y6 y7 : Int32) (h0 : Heap) (n0 : Nat) (Z0 : n0 ≤ h0.size) (A_a1 : Av Z h0 a1 .byte [(.int y0), (.int y1), (.int y2), (.int y3), (.int y4), (.int y5), (.int y6), (.int y7)]) (O0 : Old Z n0 h0) (SS : SSt Z cz vf) :
    Con l Z (⟨"java/lang/StringUTF16", "getChar", "([BI)C"⟩ : MethodName) jdk_52_method_5_code 2 (some .char) ({ frames := 0, cells := 0, slots := 0, locals := 0 } : Room) [] #[(.ref a1), (.int (0 : Int32))] h0 (fun v h L => v = some (.int (GCH y0 y1)) ∧ h = h0 ∧ L = []) := by
  refine Con.of (plainFor_of_name pn_java_lang_StringUTF16) #[.val (.ref a1), .val (.int (0 : Int32))] (fun m => efgc4_0 m a1 (0 : Int32)) ?_
  intro p e s m below meth c s₁ K hx hby hml hown hnm hret hlk hZ X0 e0
  have N0 := Fr.nil n0
  refine k_getS K X0 hx hby hZ hown (host := "") (Or.inl (W hw 122 rfl)) Via.refl e0 (SS.ad.ext O0.2) dj52_5_0 rfl fun T1 X1 e1 => ?_
  refine m_ifY K X1.here hx hby (q := 28) dj52_5_3 ((if0 _ _).trans (feq (by decide : ¬ ((1 : Int32) = (0 : Int32)))).2) (by decide) rfl ?_
  refine mIN K X1.here hx hby dj52_5_28 rfl rfl ?_
  refine mC K X1.here hx hby (1 : Int32) dj52_5_29 rfl rfl ?_
  refine m_ishl K X1.here hx hby (0 : Int32) dj52_5_30 rfl rfl ?_
  refine m_istoreN K X1.here hx hby #[.val (.ref a1), .val (.int (0 : Int32))] dj52_5_31 rfl rfl ?_
  refine mAN K X1.here hx hby dj52_5_32 rfl rfl rfl ?_
  refine mIN K X1.here hx hby dj52_5_33 rfl rfl ?_
  refine mJ K X1.here hx hby #[.val (.ref a1), .val (.int (1 : Int32))] dj52_5_34 rfl rfl rfl ?_
  refine k_ldB K X1 hx hby hZ e1 A_a1 (v := (.int y0)) (by decide) rfl dj52_5_37 rfl ?_
  refine mP K X1.here hx hby (255 : Int32) dj52_5_38 rfl rfl ?_
  refine m_iand K X1.here hx hby (y0 &&& (255 : Int32)) dj52_5_41 rfl rfl ?_
  refine k_getS K X1 hx hby hZ hown (host := "") (Or.inl (W hw 123 rfl)) Via.refl e1 (SS.hi.ext O0.2) dj52_5_42 rfl fun T2 X2 e2 => ?_
  refine m_ishl K X2.here hx hby (wgc4_0_1 y0) dj52_5_45 rfl rfl ?_
  refine mAN K X2.here hx hby dj52_5_46 rfl rfl rfl ?_
  refine mIN K X2.here hx hby dj52_5_47 rfl rfl ?_
  refine k_ldB K X2 hx hby hZ e2 A_a1 (v := (.int y1)) (by decide) rfl dj52_5_48 rfl ?_
  refine mP K X2.here hx hby (255 : Int32) dj52_5_49 rfl rfl ?_
  refine m_iand K X2.here hx hby (y1 &&& (255 : Int32)) dj52_5_52 rfl rfl ?_
  refine k_getS K X2 hx hby hZ hown (host := "") (Or.inl (W hw 124 rfl)) Via.refl e2 (SS.lo.ext O0.2) dj52_5_53 rfl fun T3 X3 e3 => ?_
  refine m_ishl K X3.here hx hby (wgc4_0_2 y1) dj52_5_56 rfl rfl ?_
  refine m_ior K X3.here hx hby ((wgc4_0_1 y0) ||| (wgc4_0_2 y1)) dj52_5_57 rfl rfl ?_
  refine m_i2c K X3.here hx hby (wgc4_0_3 y0 y1) dj52_5_58 rfl rfl ?_
  exact Go.retN X3 hx hby hlk hret (by simp) dj52_5_59 (by decide) (by decide) (own_nc _) (⟨rfl, e3, rfl⟩)
theorem efuc4_0 (m : MethodId) (x0 : Addr) (x1 : Int32) : entryFrame m #[(.ref x0), (.int x1)] 2 = mkF m 0 #[.val (.ref x0), .val (.int x1)] [] := by first | (simp [entryFrame, mkF, argsToLocals, Value.category]; done) | rfl
theorem cuc4_0 (l : Launch) (Z : State) (a0 : Array Value) (hw : ∀ d ∈ tables_1, d.before a0 Z = true) (a1 : Addr) (cz : Int32) (vf : Value) (y0 y1 : Int32) (y2 y3 : Int32) (y4 y5 : Int32) (y6 y7 : Int32) (h0 : Heap) (n0 : Nat) (Z0 : n0 ≤ h0.size) (A_a1 : Av Z h0 a1 .byte [(.int y0), (.int y1), (.int y2), (.int y3), (.int y4), (.int y5), (.int y6), (.int y7)]) (O0 : Old Z n0 h0) (SS : SSt Z cz vf) :
    Con l Z (⟨"java/lang/StringUTF16", "charAt", "([BI)C"⟩ : MethodName) jdk_52_method_83_code 2 (some .char) ({ frames := 3, cells := 0, slots := 0, locals := 40 } : Room) [] #[(.ref a1), (.int (0 : Int32))] h0 (fun v h L => v = some (.int (GCH y0 y1)) ∧ h = h0 ∧ L = []) := by
  refine Con.of (plainFor_of_name pn_java_lang_StringUTF16) #[.val (.ref a1), .val (.int (0 : Int32))] (fun m => efuc4_0 m a1 (0 : Int32)) ?_
  intro p e s m below meth c s₁ K hx hby hml hown hnm hret hlk hZ X0 e0
  have N0 := Fr.nil n0
  refine mIN K X0.here hx hby dj52_83_0 rfl rfl ?_
  refine mAN K X0.here hx hby dj52_83_1 rfl rfl rfl ?_
  refine k_callS K X0 hx hby hZ [(.int (0 : Int32)), (.ref a1)] [] hown (W hw 131 rfl) (W hw 132 rfl) (W hw 74 rfl) (W hw 133 rfl) (cuk4 l Z a0 hw (0 : Int32) a1 cz vf y0 y1 y2 y3 y4 y5 y6 y7 h0 n0 Z0 A_a1 O0 SS (by first | decide | omega) (by first | decide | omega)) e0 rfl rfl pd_4 rfl dj52_83_2 (by rw [hml]; rfl) rfl (by decide) (by decide) (LB rfl) (by decide) (by decide) fun v1 T1 L1 X1 q1 => ?_
  obtain ⟨rfl, e1, rfl⟩ := q1
  replace X1 := own_px X1
  refine k_none K ?_
  refine mAN K X1.here hx hby dj52_83_5 rfl rfl rfl ?_
  refine mIN K X1.here hx hby dj52_83_6 rfl rfl ?_
  refine k_callS K X1 hx hby hZ [(.ref a1), (.int (0 : Int32))] [] hown (W hw 125 rfl) (W hw 126 rfl) (W hw 74 rfl) (W hw 127 rfl) (cgc4_0 l Z a0 hw a1 cz vf y0 y1 y2 y3 y4 y5 y6 y7 h0 n0 Z0 A_a1 O0 SS) e1 rfl rfl pd_5 rfl dj52_83_7 (by rw [hml]; rfl) rfl (by decide) (by decide) (LB rfl) (by decide) (by decide) fun v2 T2 L2 X2 q2 => ?_
  obtain ⟨rfl, e2, rfl⟩ := q2
  replace X2 := own_px X2
  refine k_some K (w := (.int (GCH y0 y1))) ?_
  exact Go.retN X2 hx hby hlk hret (by simp) dj52_83_10 (by decide) (by decide) (own_nc _) (⟨rfl, e2, rfl⟩)
theorem efcu4_0 (m : MethodId) (x0 : Addr) (x1 : Int32) : entryFrame m #[(.ref x0), (.int x1)] 2 = mkF m 0 #[.val (.ref x0), .val (.int x1)] [] := by first | (simp [entryFrame, mkF, argsToLocals, Value.category]; done) | rfl
theorem ccu4_0 (l : Launch) (Z : State) (a0 : Array Value) (hw : ∀ d ∈ tables_1, d.before a0 Z = true) (a1 : Addr) (cz : Int32) (vf : Value) (a2 : Addr) (y0 y1 : Int32) (y2 y3 : Int32) (y4 y5 : Int32) (y6 y7 : Int32) (h0 : Heap) (n0 : Nat) (Z0 : n0 ≤ h0.size) (E_a1 : Exa Z h0 a1 "java/lang/String") (F_value_a1 : Fld Z h0 a1 "java/lang/String" "value" "[B" (.ref a2)) (F_coder_a1 : Fld Z h0 a1 "java/lang/String" "coder" "B" (.int (1 : Int32))) (A_a2 : Av Z h0 a2 .byte [(.int y0), (.int y1), (.int y2), (.int y3), (.int y4), (.int y5), (.int y6), (.int y7)]) (O0 : Old Z n0 h0) (SS : SSt Z cz vf) :
    Con l Z (⟨"java/lang/String", "charAt", "(I)C"⟩ : MethodName) jdk_42_method_56_code 2 (some .char) ({ frames := 4, cells := 0, slots := 0, locals := 53 } : Room) [] #[(.ref a1), (.int (0 : Int32))] h0 (fun v h L => v = some (.int (GCH y0 y1)) ∧ h = h0 ∧ L = []) := by
  refine Con.of (plainFor_of_name pn_java_lang_String) #[.val (.ref a1), .val (.int (0 : Int32))] (fun m => efcu4_0 m a1 (0 : Int32)) ?_
  intro p e s m below meth c s₁ K hx hby hml hown hnm hret hlk hZ X0 e0
  have N0 := Fr.nil n0
  refine mAN K X0.here hx hby dj42_56_0 rfl rfl rfl ?_
  refine k_callV K X0 hx hby hZ a1 [] [] hown (W hw 87 rfl) (W hw 88 rfl) (notFace_of_selects (args := #[]) (mvT hZ (W hw 90 rfl))) (W hw 90 rfl) (W hw 89 rfl) (W hw 12 rfl) (W hw 91 rfl) (cil1 l Z a0 hw a1 cz vf h0 n0 Z0 F_coder_a1 O0 SS) e0 E_a1 rfl rfl pd_6 rfl dj42_56_1 (by rw [hml]; rfl) rfl (by decide) (by decide) (LB rfl) (by decide) (by decide) fun v1 T1 L1 X1 q1 => ?_
  obtain ⟨rfl, e1, rfl⟩ := q1
  replace X1 := own_px X1
  refine k_some K (w := (.int (0 : Int32))) ?_
  refine m_ifY K X1.here hx hby (q := 16) dj42_56_4 ((if0 _ _).trans (teq (by decide : (0 : Int32) = (0 : Int32))).1) (by decide) rfl ?_
  refine mAN K X1.here hx hby dj42_56_16 rfl rfl rfl ?_
  refine k_getF K X1 hx hby hZ hown (host := "") (Or.inl (W hw 30 rfl)) Via.refl e1 F_value_a1 dj42_56_17 rfl fun T2 X2 e2 => ?_
  refine mIN K X2.here hx hby dj42_56_20 rfl rfl ?_
  refine k_callS K X2 hx hby hZ [(.ref a2), (.int (0 : Int32))] [] hown (W hw 128 rfl) (W hw 129 rfl) (W hw 74 rfl) (W hw 130 rfl) (cuc4_0 l Z a0 hw a2 cz vf y0 y1 y2 y3 y4 y5 y6 y7 h0 n0 Z0 A_a2 O0 SS) e2 rfl rfl pd_5 rfl dj42_56_21 (by rw [hml]; rfl) rfl (by decide) (by decide) (LB rfl) (by decide) (by decide) fun v3 T3 L3 X3 q3 => ?_
  obtain ⟨rfl, e3, rfl⟩ := q3
  replace X3 := own_px X3
  refine k_some K (w := (.int (GCH y0 y1))) ?_
  exact Go.retN X3 hx hby hlk hret (by simp) dj42_56_24 (by decide) (by decide) (own_nc _) (⟨rfl, e3, rfl⟩)
def wpc4_1_1 (p3 : Int32) : Int32 := ((p3 >>> ((0 : Int32) &&& 31)).toInt8.toInt32)
def wpc4_1_2 (p3 : Int32) : Int32 := ((p3 >>> ((8 : Int32) &&& 31)).toInt8.toInt32)
theorem efpc4_1 (m : MethodId) (x0 : Addr) (x1 x2 : Int32) : entryFrame m #[(.ref x0), (.int x1), (.int x2)] 3 = mkF m 0 #[.val (.ref x0), .val (.int x1), .val (.int x2)] [] := by first | (simp [entryFrame, mkF, argsToLocals, Value.category]; done) | rfl
theorem cpc4_1 (l : Launch) (Z : State) (a0 : Array Value) (hw : ∀ d ∈ tables_1, d.before a0 Z = true) (a1 : Addr) (p3 cz : Int32) (vf : Value) (y0 y1 : Int32) (y2 y3 : Int32) (y4 y5 : Int32) (y6 y7 : Int32) (h0 : Heap) (n0 : Nat) (Z0 : n0 ≤ h0.size) (A_a1 : Av Z h0 a1 .byte [(.int y0), (.int y1), (.int y2), (.int y3), (.int y4), (.int y5), (.int y6), (.int y7)]) (O0 : Old Z n0 h0) (g_a1 : n0 ≤ a1) (SS : SSt Z cz vf) :
    Con l Z (⟨"java/lang/StringUTF16", "putChar", "([BII)V"⟩ : MethodName) jdk_52_method_4_code 3 none ({ frames := 0, cells := 0, slots := 0, locals := 0 } : Room) [] #[(.ref a1), (.int (1 : Int32)), (.int p3)] h0 (fun v h L => v = none ∧ Fr n0 L ∧ Keep h0 h [a1] ∧ Av Z h a1 .byte [(.int y0), (.int y1), (.int (BLO p3)), (.int (BHI p3)), (.int y4), (.int y5), (.int y6), (.int y7)]) := by
  refine Con.of (plainFor_of_name pn_java_lang_StringUTF16) #[.val (.ref a1), .val (.int (1 : Int32)), .val (.int p3)] (fun m => efpc4_1 m a1 (1 : Int32) p3) ?_
  intro p e s m below meth c s₁ K hx hby hml hown hnm hret hlk hZ X0 e0
  have N0 := Fr.nil n0
  refine k_getS K X0 hx hby hZ hown (host := "") (Or.inl (W hw 122 rfl)) Via.refl e0 (SS.ad.ext O0.2) dj52_4_0 rfl fun T1 X1 e1 => ?_
  refine m_ifY K X1.here hx hby (q := 28) dj52_4_3 ((if0 _ _).trans (feq (by decide : ¬ ((1 : Int32) = (0 : Int32)))).2) (by decide) rfl ?_
  refine mIN K X1.here hx hby dj52_4_28 rfl rfl ?_
  refine mC K X1.here hx hby (1 : Int32) dj52_4_29 rfl rfl ?_
  refine m_ishl K X1.here hx hby (2 : Int32) dj52_4_30 rfl rfl ?_
  refine m_istoreN K X1.here hx hby #[.val (.ref a1), .val (.int (2 : Int32)), .val (.int p3)] dj52_4_31 rfl rfl ?_
  refine mAN K X1.here hx hby dj52_4_32 rfl rfl rfl ?_
  refine mIN K X1.here hx hby dj52_4_33 rfl rfl ?_
  refine mJ K X1.here hx hby #[.val (.ref a1), .val (.int (3 : Int32)), .val (.int p3)] dj52_4_34 rfl rfl rfl ?_
  refine mIN K X1.here hx hby dj52_4_37 rfl rfl ?_
  refine k_getS K X1 hx hby hZ hown (host := "") (Or.inl (W hw 123 rfl)) Via.refl e1 (SS.hi.ext O0.2) dj52_4_38 rfl fun T2 X2 e2 => ?_
  refine m_ishr K X2.here hx hby (p3 >>> ((0 : Int32) &&& 31)) dj52_4_41 rfl rfl ?_
  refine m_i2b K X2.here hx hby (wpc4_1_1 p3) dj52_4_42 rfl rfl ?_
  refine k_stB K X2 hx hby hZ e2 A_a1 (by decide) (LB rfl) dj52_4_43 rfl fun T3 h3 X3 e3 W3 V3 => ?_
  replace V3 : Av Z h3 a1 .byte [(.int y0), (.int y1), (.int (nar .byte (wpc4_1_1 p3))), (.int y3), (.int y4), (.int y5), (.int y6), (.int y7)] := V3
  have N3 := Fr.snoc X3 N0 g_a1
  refine mAN K X3.here hx hby dj52_4_44 rfl rfl rfl ?_
  refine mIN K X3.here hx hby dj52_4_45 rfl rfl ?_
  refine mIN K X3.here hx hby dj52_4_46 rfl rfl ?_
  refine k_getS K X3 hx hby hZ hown (host := "") (Or.inl (W hw 124 rfl)) Via.refl e3 (SS.lo.ext (O0.wr W3 g_a1).2) dj52_4_47 rfl fun T4 X4 e4 => ?_
  refine m_ishr K X4.here hx hby (p3 >>> ((8 : Int32) &&& 31)) dj52_4_50 rfl rfl ?_
  refine m_i2b K X4.here hx hby (wpc4_1_2 p3) dj52_4_51 rfl rfl ?_
  refine k_stB K X4 hx hby hZ e4 V3 (by decide) (LB rfl) dj52_4_52 rfl fun T5 h5 X5 e5 W5 V5 => ?_
  replace V5 : Av Z h5 a1 .byte [(.int y0), (.int y1), (.int (nar .byte (wpc4_1_1 p3))), (.int (nar .byte (wpc4_1_2 p3))), (.int y4), (.int y5), (.int y6), (.int y7)] := V5
  have N5 := Fr.snoc X5 N3 g_a1
  exact Go.retV X5 hx hby hlk hret dj52_4_53 (by decide) (by decide) (by rw [e5]; exact ⟨rfl, N5, (((Keep.refl h0 [a1]).wr W3 (Or.inl (by simp))).wr W5 (Or.inl (by simp))), V5⟩)
def wgc4_1_1 (y2 : Int32) : Int32 := ((y2 &&& (255 : Int32)) <<< ((0 : Int32) &&& 31))
def wgc4_1_2 (y3 : Int32) : Int32 := ((y3 &&& (255 : Int32)) <<< ((8 : Int32) &&& 31))
def wgc4_1_3 (y2 y3 : Int32) : Int32 := (((wgc4_1_1 y2) ||| (wgc4_1_2 y3)).toUInt32.toUInt16.toUInt32.toInt32)
theorem efgc4_1 (m : MethodId) (x0 : Addr) (x1 : Int32) : entryFrame m #[(.ref x0), (.int x1)] 2 = mkF m 0 #[.val (.ref x0), .val (.int x1)] [] := by first | (simp [entryFrame, mkF, argsToLocals, Value.category]; done) | rfl
theorem cgc4_1 (l : Launch) (Z : State) (a0 : Array Value) (hw : ∀ d ∈ tables_1, d.before a0 Z = true) (a1 : Addr) (cz : Int32) (vf : Value) (y0 y1 : Int32) (y2 y3 : Int32) (y4 y5 : Int32) (y6 y7 : Int32) (h0 : Heap) (n0 : Nat) (Z0 : n0 ≤ h0.size) (A_a1 : Av Z h0 a1 .byte [(.int y0), (.int y1), (.int y2), (.int y3), (.int y4), (.int y5), (.int y6), (.int y7)]) (O0 : Old Z n0 h0) (SS : SSt Z cz vf) :
    Con l Z (⟨"java/lang/StringUTF16", "getChar", "([BI)C"⟩ : MethodName) jdk_52_method_5_code 2 (some .char) ({ frames := 0, cells := 0, slots := 0, locals := 0 } : Room) [] #[(.ref a1), (.int (1 : Int32))] h0 (fun v h L => v = some (.int (GCH y2 y3)) ∧ h = h0 ∧ L = []) := by
  refine Con.of (plainFor_of_name pn_java_lang_StringUTF16) #[.val (.ref a1), .val (.int (1 : Int32))] (fun m => efgc4_1 m a1 (1 : Int32)) ?_
  intro p e s m below meth c s₁ K hx hby hml hown hnm hret hlk hZ X0 e0
  have N0 := Fr.nil n0
  refine k_getS K X0 hx hby hZ hown (host := "") (Or.inl (W hw 122 rfl)) Via.refl e0 (SS.ad.ext O0.2) dj52_5_0 rfl fun T1 X1 e1 => ?_
  refine m_ifY K X1.here hx hby (q := 28) dj52_5_3 ((if0 _ _).trans (feq (by decide : ¬ ((1 : Int32) = (0 : Int32)))).2) (by decide) rfl ?_
  refine mIN K X1.here hx hby dj52_5_28 rfl rfl ?_
  refine mC K X1.here hx hby (1 : Int32) dj52_5_29 rfl rfl ?_
  refine m_ishl K X1.here hx hby (2 : Int32) dj52_5_30 rfl rfl ?_
  refine m_istoreN K X1.here hx hby #[.val (.ref a1), .val (.int (2 : Int32))] dj52_5_31 rfl rfl ?_
  refine mAN K X1.here hx hby dj52_5_32 rfl rfl rfl ?_
  refine mIN K X1.here hx hby dj52_5_33 rfl rfl ?_
  refine mJ K X1.here hx hby #[.val (.ref a1), .val (.int (3 : Int32))] dj52_5_34 rfl rfl rfl ?_
  refine k_ldB K X1 hx hby hZ e1 A_a1 (v := (.int y2)) (by decide) rfl dj52_5_37 rfl ?_
  refine mP K X1.here hx hby (255 : Int32) dj52_5_38 rfl rfl ?_
  refine m_iand K X1.here hx hby (y2 &&& (255 : Int32)) dj52_5_41 rfl rfl ?_
  refine k_getS K X1 hx hby hZ hown (host := "") (Or.inl (W hw 123 rfl)) Via.refl e1 (SS.hi.ext O0.2) dj52_5_42 rfl fun T2 X2 e2 => ?_
  refine m_ishl K X2.here hx hby (wgc4_1_1 y2) dj52_5_45 rfl rfl ?_
  refine mAN K X2.here hx hby dj52_5_46 rfl rfl rfl ?_
  refine mIN K X2.here hx hby dj52_5_47 rfl rfl ?_
  refine k_ldB K X2 hx hby hZ e2 A_a1 (v := (.int y3)) (by decide) rfl dj52_5_48 rfl ?_
  refine mP K X2.here hx hby (255 : Int32) dj52_5_49 rfl rfl ?_
  refine m_iand K X2.here hx hby (y3 &&& (255 : Int32)) dj52_5_52 rfl rfl ?_
  refine k_getS K X2 hx hby hZ hown (host := "") (Or.inl (W hw 124 rfl)) Via.refl e2 (SS.lo.ext O0.2) dj52_5_53 rfl fun T3 X3 e3 => ?_
  refine m_ishl K X3.here hx hby (wgc4_1_2 y3) dj52_5_56 rfl rfl ?_
  refine m_ior K X3.here hx hby ((wgc4_1_1 y2) ||| (wgc4_1_2 y3)) dj52_5_57 rfl rfl ?_
  refine m_i2c K X3.here hx hby (wgc4_1_3 y2 y3) dj52_5_58 rfl rfl ?_
  exact Go.retN X3 hx hby hlk hret (by simp) dj52_5_59 (by decide) (by decide) (own_nc _) (⟨rfl, e3, rfl⟩)
theorem efuc4_1 (m : MethodId) (x0 : Addr) (x1 : Int32) : entryFrame m #[(.ref x0), (.int x1)] 2 = mkF m 0 #[.val (.ref x0), .val (.int x1)] [] := by first | (simp [entryFrame, mkF, argsToLocals, Value.category]; done) | rfl
theorem cuc4_1 (l : Launch) (Z : State) (a0 : Array Value) (hw : ∀ d ∈ tables_1, d.before a0 Z = true) (a1 : Addr) (cz : Int32) (vf : Value) (y0 y1 : Int32) (y2 y3 : Int32) (y4 y5 : Int32) (y6 y7 : Int32) (h0 : Heap) (n0 : Nat) (Z0 : n0 ≤ h0.size) (A_a1 : Av Z h0 a1 .byte [(.int y0), (.int y1), (.int y2), (.int y3), (.int y4), (.int y5), (.int y6), (.int y7)]) (O0 : Old Z n0 h0) (SS : SSt Z cz vf) :
    Con l Z (⟨"java/lang/StringUTF16", "charAt", "([BI)C"⟩ : MethodName) jdk_52_method_83_code 2 (some .char) ({ frames := 3, cells := 0, slots := 0, locals := 40 } : Room) [] #[(.ref a1), (.int (1 : Int32))] h0 (fun v h L => v = some (.int (GCH y2 y3)) ∧ h = h0 ∧ L = []) := by
  refine Con.of (plainFor_of_name pn_java_lang_StringUTF16) #[.val (.ref a1), .val (.int (1 : Int32))] (fun m => efuc4_1 m a1 (1 : Int32)) ?_
  intro p e s m below meth c s₁ K hx hby hml hown hnm hret hlk hZ X0 e0
  have N0 := Fr.nil n0
  refine mIN K X0.here hx hby dj52_83_0 rfl rfl ?_
  refine mAN K X0.here hx hby dj52_83_1 rfl rfl rfl ?_
  refine k_callS K X0 hx hby hZ [(.int (1 : Int32)), (.ref a1)] [] hown (W hw 131 rfl) (W hw 132 rfl) (W hw 74 rfl) (W hw 133 rfl) (cuk4 l Z a0 hw (1 : Int32) a1 cz vf y0 y1 y2 y3 y4 y5 y6 y7 h0 n0 Z0 A_a1 O0 SS (by first | decide | omega) (by first | decide | omega)) e0 rfl rfl pd_4 rfl dj52_83_2 (by rw [hml]; rfl) rfl (by decide) (by decide) (LB rfl) (by decide) (by decide) fun v1 T1 L1 X1 q1 => ?_
  obtain ⟨rfl, e1, rfl⟩ := q1
  replace X1 := own_px X1
  refine k_none K ?_
  refine mAN K X1.here hx hby dj52_83_5 rfl rfl rfl ?_
  refine mIN K X1.here hx hby dj52_83_6 rfl rfl ?_
  refine k_callS K X1 hx hby hZ [(.ref a1), (.int (1 : Int32))] [] hown (W hw 125 rfl) (W hw 126 rfl) (W hw 74 rfl) (W hw 127 rfl) (cgc4_1 l Z a0 hw a1 cz vf y0 y1 y2 y3 y4 y5 y6 y7 h0 n0 Z0 A_a1 O0 SS) e1 rfl rfl pd_5 rfl dj52_83_7 (by rw [hml]; rfl) rfl (by decide) (by decide) (LB rfl) (by decide) (by decide) fun v2 T2 L2 X2 q2 => ?_
  obtain ⟨rfl, e2, rfl⟩ := q2
  replace X2 := own_px X2
  refine k_some K (w := (.int (GCH y2 y3))) ?_
  exact Go.retN X2 hx hby hlk hret (by simp) dj52_83_10 (by decide) (by decide) (own_nc _) (⟨rfl, e2, rfl⟩)
theorem efcu4_1 (m : MethodId) (x0 : Addr) (x1 : Int32) : entryFrame m #[(.ref x0), (.int x1)] 2 = mkF m 0 #[.val (.ref x0), .val (.int x1)] [] := by first | (simp [entryFrame, mkF, argsToLocals, Value.category]; done) | rfl
theorem ccu4_1 (l : Launch) (Z : State) (a0 : Array Value) (hw : ∀ d ∈ tables_1, d.before a0 Z = true) (a1 : Addr) (cz : Int32) (vf : Value) (a2 : Addr) (y0 y1 : Int32) (y2 y3 : Int32) (y4 y5 : Int32) (y6 y7 : Int32) (h0 : Heap) (n0 : Nat) (Z0 : n0 ≤ h0.size) (E_a1 : Exa Z h0 a1 "java/lang/String") (F_value_a1 : Fld Z h0 a1 "java/lang/String" "value" "[B" (.ref a2)) (F_coder_a1 : Fld Z h0 a1 "java/lang/String" "coder" "B" (.int (1 : Int32))) (A_a2 : Av Z h0 a2 .byte [(.int y0), (.int y1), (.int y2), (.int y3), (.int y4), (.int y5), (.int y6), (.int y7)]) (O0 : Old Z n0 h0) (SS : SSt Z cz vf) :
    Con l Z (⟨"java/lang/String", "charAt", "(I)C"⟩ : MethodName) jdk_42_method_56_code 2 (some .char) ({ frames := 4, cells := 0, slots := 0, locals := 53 } : Room) [] #[(.ref a1), (.int (1 : Int32))] h0 (fun v h L => v = some (.int (GCH y2 y3)) ∧ h = h0 ∧ L = []) := by
  refine Con.of (plainFor_of_name pn_java_lang_String) #[.val (.ref a1), .val (.int (1 : Int32))] (fun m => efcu4_1 m a1 (1 : Int32)) ?_
  intro p e s m below meth c s₁ K hx hby hml hown hnm hret hlk hZ X0 e0
  have N0 := Fr.nil n0
  refine mAN K X0.here hx hby dj42_56_0 rfl rfl rfl ?_
  refine k_callV K X0 hx hby hZ a1 [] [] hown (W hw 87 rfl) (W hw 88 rfl) (notFace_of_selects (args := #[]) (mvT hZ (W hw 90 rfl))) (W hw 90 rfl) (W hw 89 rfl) (W hw 12 rfl) (W hw 91 rfl) (cil1 l Z a0 hw a1 cz vf h0 n0 Z0 F_coder_a1 O0 SS) e0 E_a1 rfl rfl pd_6 rfl dj42_56_1 (by rw [hml]; rfl) rfl (by decide) (by decide) (LB rfl) (by decide) (by decide) fun v1 T1 L1 X1 q1 => ?_
  obtain ⟨rfl, e1, rfl⟩ := q1
  replace X1 := own_px X1
  refine k_some K (w := (.int (0 : Int32))) ?_
  refine m_ifY K X1.here hx hby (q := 16) dj42_56_4 ((if0 _ _).trans (teq (by decide : (0 : Int32) = (0 : Int32))).1) (by decide) rfl ?_
  refine mAN K X1.here hx hby dj42_56_16 rfl rfl rfl ?_
  refine k_getF K X1 hx hby hZ hown (host := "") (Or.inl (W hw 30 rfl)) Via.refl e1 F_value_a1 dj42_56_17 rfl fun T2 X2 e2 => ?_
  refine mIN K X2.here hx hby dj42_56_20 rfl rfl ?_
  refine k_callS K X2 hx hby hZ [(.ref a2), (.int (1 : Int32))] [] hown (W hw 128 rfl) (W hw 129 rfl) (W hw 74 rfl) (W hw 130 rfl) (cuc4_1 l Z a0 hw a2 cz vf y0 y1 y2 y3 y4 y5 y6 y7 h0 n0 Z0 A_a2 O0 SS) e2 rfl rfl pd_5 rfl dj42_56_21 (by rw [hml]; rfl) rfl (by decide) (by decide) (LB rfl) (by decide) (by decide) fun v3 T3 L3 X3 q3 => ?_
  obtain ⟨rfl, e3, rfl⟩ := q3
  replace X3 := own_px X3
  refine k_some K (w := (.int (GCH y2 y3))) ?_
  exact Go.retN X3 hx hby hlk hret (by simp) dj42_56_24 (by decide) (by decide) (own_nc _) (⟨rfl, e3, rfl⟩)
def wpc4_2_1 (p3 : Int32) : Int32 := ((p3 >>> ((0 : Int32) &&& 31)).toInt8.toInt32)
def wpc4_2_2 (p3 : Int32) : Int32 := ((p3 >>> ((8 : Int32) &&& 31)).toInt8.toInt32)
theorem efpc4_2 (m : MethodId) (x0 : Addr) (x1 x2 : Int32) : entryFrame m #[(.ref x0), (.int x1), (.int x2)] 3 = mkF m 0 #[.val (.ref x0), .val (.int x1), .val (.int x2)] [] := by first | (simp [entryFrame, mkF, argsToLocals, Value.category]; done) | rfl
theorem cpc4_2 (l : Launch) (Z : State) (a0 : Array Value) (hw : ∀ d ∈ tables_1, d.before a0 Z = true) (a1 : Addr) (p3 cz : Int32) (vf : Value) (y0 y1 : Int32) (y2 y3 : Int32) (y4 y5 : Int32) (y6 y7 : Int32) (h0 : Heap) (n0 : Nat) (Z0 : n0 ≤ h0.size) (A_a1 : Av Z h0 a1 .byte [(.int y0), (.int y1), (.int y2), (.int y3), (.int y4), (.int y5), (.int y6), (.int y7)]) (O0 : Old Z n0 h0) (g_a1 : n0 ≤ a1) (SS : SSt Z cz vf) :
    Con l Z (⟨"java/lang/StringUTF16", "putChar", "([BII)V"⟩ : MethodName) jdk_52_method_4_code 3 none ({ frames := 0, cells := 0, slots := 0, locals := 0 } : Room) [] #[(.ref a1), (.int (2 : Int32)), (.int p3)] h0 (fun v h L => v = none ∧ Fr n0 L ∧ Keep h0 h [a1] ∧ Av Z h a1 .byte [(.int y0), (.int y1), (.int y2), (.int y3), (.int (BLO p3)), (.int (BHI p3)), (.int y6), (.int y7)]) := by
  refine Con.of (plainFor_of_name pn_java_lang_StringUTF16) #[.val (.ref a1), .val (.int (2 : Int32)), .val (.int p3)] (fun m => efpc4_2 m a1 (2 : Int32) p3) ?_
  intro p e s m below meth c s₁ K hx hby hml hown hnm hret hlk hZ X0 e0
  have N0 := Fr.nil n0
  refine k_getS K X0 hx hby hZ hown (host := "") (Or.inl (W hw 122 rfl)) Via.refl e0 (SS.ad.ext O0.2) dj52_4_0 rfl fun T1 X1 e1 => ?_
  refine m_ifY K X1.here hx hby (q := 28) dj52_4_3 ((if0 _ _).trans (feq (by decide : ¬ ((1 : Int32) = (0 : Int32)))).2) (by decide) rfl ?_
  refine mIN K X1.here hx hby dj52_4_28 rfl rfl ?_
  refine mC K X1.here hx hby (1 : Int32) dj52_4_29 rfl rfl ?_
  refine m_ishl K X1.here hx hby (4 : Int32) dj52_4_30 rfl rfl ?_
  refine m_istoreN K X1.here hx hby #[.val (.ref a1), .val (.int (4 : Int32)), .val (.int p3)] dj52_4_31 rfl rfl ?_
  refine mAN K X1.here hx hby dj52_4_32 rfl rfl rfl ?_
  refine mIN K X1.here hx hby dj52_4_33 rfl rfl ?_
  refine mJ K X1.here hx hby #[.val (.ref a1), .val (.int (5 : Int32)), .val (.int p3)] dj52_4_34 rfl rfl rfl ?_
  refine mIN K X1.here hx hby dj52_4_37 rfl rfl ?_
  refine k_getS K X1 hx hby hZ hown (host := "") (Or.inl (W hw 123 rfl)) Via.refl e1 (SS.hi.ext O0.2) dj52_4_38 rfl fun T2 X2 e2 => ?_
  refine m_ishr K X2.here hx hby (p3 >>> ((0 : Int32) &&& 31)) dj52_4_41 rfl rfl ?_
  refine m_i2b K X2.here hx hby (wpc4_2_1 p3) dj52_4_42 rfl rfl ?_
  refine k_stB K X2 hx hby hZ e2 A_a1 (by decide) (LB rfl) dj52_4_43 rfl fun T3 h3 X3 e3 W3 V3 => ?_
  replace V3 : Av Z h3 a1 .byte [(.int y0), (.int y1), (.int y2), (.int y3), (.int (nar .byte (wpc4_2_1 p3))), (.int y5), (.int y6), (.int y7)] := V3
  have N3 := Fr.snoc X3 N0 g_a1
  refine mAN K X3.here hx hby dj52_4_44 rfl rfl rfl ?_
  refine mIN K X3.here hx hby dj52_4_45 rfl rfl ?_
  refine mIN K X3.here hx hby dj52_4_46 rfl rfl ?_
  refine k_getS K X3 hx hby hZ hown (host := "") (Or.inl (W hw 124 rfl)) Via.refl e3 (SS.lo.ext (O0.wr W3 g_a1).2) dj52_4_47 rfl fun T4 X4 e4 => ?_
  refine m_ishr K X4.here hx hby (p3 >>> ((8 : Int32) &&& 31)) dj52_4_50 rfl rfl ?_
  refine m_i2b K X4.here hx hby (wpc4_2_2 p3) dj52_4_51 rfl rfl ?_
  refine k_stB K X4 hx hby hZ e4 V3 (by decide) (LB rfl) dj52_4_52 rfl fun T5 h5 X5 e5 W5 V5 => ?_
  replace V5 : Av Z h5 a1 .byte [(.int y0), (.int y1), (.int y2), (.int y3), (.int (nar .byte (wpc4_2_1 p3))), (.int (nar .byte (wpc4_2_2 p3))), (.int y6), (.int y7)] := V5
  have N5 := Fr.snoc X5 N3 g_a1
  exact Go.retV X5 hx hby hlk hret dj52_4_53 (by decide) (by decide) (by rw [e5]; exact ⟨rfl, N5, (((Keep.refl h0 [a1]).wr W3 (Or.inl (by simp))).wr W5 (Or.inl (by simp))), V5⟩)
def wgc4_2_1 (y4 : Int32) : Int32 := ((y4 &&& (255 : Int32)) <<< ((0 : Int32) &&& 31))
def wgc4_2_2 (y5 : Int32) : Int32 := ((y5 &&& (255 : Int32)) <<< ((8 : Int32) &&& 31))
def wgc4_2_3 (y4 y5 : Int32) : Int32 := (((wgc4_2_1 y4) ||| (wgc4_2_2 y5)).toUInt32.toUInt16.toUInt32.toInt32)
theorem efgc4_2 (m : MethodId) (x0 : Addr) (x1 : Int32) : entryFrame m #[(.ref x0), (.int x1)] 2 = mkF m 0 #[.val (.ref x0), .val (.int x1)] [] := by first | (simp [entryFrame, mkF, argsToLocals, Value.category]; done) | rfl
theorem cgc4_2 (l : Launch) (Z : State) (a0 : Array Value) (hw : ∀ d ∈ tables_1, d.before a0 Z = true) (a1 : Addr) (cz : Int32) (vf : Value) (y0 y1 : Int32) (y2 y3 : Int32) (y4 y5 : Int32) (y6 y7 : Int32) (h0 : Heap) (n0 : Nat) (Z0 : n0 ≤ h0.size) (A_a1 : Av Z h0 a1 .byte [(.int y0), (.int y1), (.int y2), (.int y3), (.int y4), (.int y5), (.int y6), (.int y7)]) (O0 : Old Z n0 h0) (SS : SSt Z cz vf) :
    Con l Z (⟨"java/lang/StringUTF16", "getChar", "([BI)C"⟩ : MethodName) jdk_52_method_5_code 2 (some .char) ({ frames := 0, cells := 0, slots := 0, locals := 0 } : Room) [] #[(.ref a1), (.int (2 : Int32))] h0 (fun v h L => v = some (.int (GCH y4 y5)) ∧ h = h0 ∧ L = []) := by
  refine Con.of (plainFor_of_name pn_java_lang_StringUTF16) #[.val (.ref a1), .val (.int (2 : Int32))] (fun m => efgc4_2 m a1 (2 : Int32)) ?_
  intro p e s m below meth c s₁ K hx hby hml hown hnm hret hlk hZ X0 e0
  have N0 := Fr.nil n0
  refine k_getS K X0 hx hby hZ hown (host := "") (Or.inl (W hw 122 rfl)) Via.refl e0 (SS.ad.ext O0.2) dj52_5_0 rfl fun T1 X1 e1 => ?_
  refine m_ifY K X1.here hx hby (q := 28) dj52_5_3 ((if0 _ _).trans (feq (by decide : ¬ ((1 : Int32) = (0 : Int32)))).2) (by decide) rfl ?_
  refine mIN K X1.here hx hby dj52_5_28 rfl rfl ?_
  refine mC K X1.here hx hby (1 : Int32) dj52_5_29 rfl rfl ?_
  refine m_ishl K X1.here hx hby (4 : Int32) dj52_5_30 rfl rfl ?_
  refine m_istoreN K X1.here hx hby #[.val (.ref a1), .val (.int (4 : Int32))] dj52_5_31 rfl rfl ?_
  refine mAN K X1.here hx hby dj52_5_32 rfl rfl rfl ?_
  refine mIN K X1.here hx hby dj52_5_33 rfl rfl ?_
  refine mJ K X1.here hx hby #[.val (.ref a1), .val (.int (5 : Int32))] dj52_5_34 rfl rfl rfl ?_
  refine k_ldB K X1 hx hby hZ e1 A_a1 (v := (.int y4)) (by decide) rfl dj52_5_37 rfl ?_
  refine mP K X1.here hx hby (255 : Int32) dj52_5_38 rfl rfl ?_
  refine m_iand K X1.here hx hby (y4 &&& (255 : Int32)) dj52_5_41 rfl rfl ?_
  refine k_getS K X1 hx hby hZ hown (host := "") (Or.inl (W hw 123 rfl)) Via.refl e1 (SS.hi.ext O0.2) dj52_5_42 rfl fun T2 X2 e2 => ?_
  refine m_ishl K X2.here hx hby (wgc4_2_1 y4) dj52_5_45 rfl rfl ?_
  refine mAN K X2.here hx hby dj52_5_46 rfl rfl rfl ?_
  refine mIN K X2.here hx hby dj52_5_47 rfl rfl ?_
  refine k_ldB K X2 hx hby hZ e2 A_a1 (v := (.int y5)) (by decide) rfl dj52_5_48 rfl ?_
  refine mP K X2.here hx hby (255 : Int32) dj52_5_49 rfl rfl ?_
  refine m_iand K X2.here hx hby (y5 &&& (255 : Int32)) dj52_5_52 rfl rfl ?_
  refine k_getS K X2 hx hby hZ hown (host := "") (Or.inl (W hw 124 rfl)) Via.refl e2 (SS.lo.ext O0.2) dj52_5_53 rfl fun T3 X3 e3 => ?_
  refine m_ishl K X3.here hx hby (wgc4_2_2 y5) dj52_5_56 rfl rfl ?_
  refine m_ior K X3.here hx hby ((wgc4_2_1 y4) ||| (wgc4_2_2 y5)) dj52_5_57 rfl rfl ?_
  refine m_i2c K X3.here hx hby (wgc4_2_3 y4 y5) dj52_5_58 rfl rfl ?_
  exact Go.retN X3 hx hby hlk hret (by simp) dj52_5_59 (by decide) (by decide) (own_nc _) (⟨rfl, e3, rfl⟩)
theorem efuc4_2 (m : MethodId) (x0 : Addr) (x1 : Int32) : entryFrame m #[(.ref x0), (.int x1)] 2 = mkF m 0 #[.val (.ref x0), .val (.int x1)] [] := by first | (simp [entryFrame, mkF, argsToLocals, Value.category]; done) | rfl
theorem cuc4_2 (l : Launch) (Z : State) (a0 : Array Value) (hw : ∀ d ∈ tables_1, d.before a0 Z = true) (a1 : Addr) (cz : Int32) (vf : Value) (y0 y1 : Int32) (y2 y3 : Int32) (y4 y5 : Int32) (y6 y7 : Int32) (h0 : Heap) (n0 : Nat) (Z0 : n0 ≤ h0.size) (A_a1 : Av Z h0 a1 .byte [(.int y0), (.int y1), (.int y2), (.int y3), (.int y4), (.int y5), (.int y6), (.int y7)]) (O0 : Old Z n0 h0) (SS : SSt Z cz vf) :
    Con l Z (⟨"java/lang/StringUTF16", "charAt", "([BI)C"⟩ : MethodName) jdk_52_method_83_code 2 (some .char) ({ frames := 3, cells := 0, slots := 0, locals := 40 } : Room) [] #[(.ref a1), (.int (2 : Int32))] h0 (fun v h L => v = some (.int (GCH y4 y5)) ∧ h = h0 ∧ L = []) := by
  refine Con.of (plainFor_of_name pn_java_lang_StringUTF16) #[.val (.ref a1), .val (.int (2 : Int32))] (fun m => efuc4_2 m a1 (2 : Int32)) ?_
  intro p e s m below meth c s₁ K hx hby hml hown hnm hret hlk hZ X0 e0
  have N0 := Fr.nil n0
  refine mIN K X0.here hx hby dj52_83_0 rfl rfl ?_
  refine mAN K X0.here hx hby dj52_83_1 rfl rfl rfl ?_
  refine k_callS K X0 hx hby hZ [(.int (2 : Int32)), (.ref a1)] [] hown (W hw 131 rfl) (W hw 132 rfl) (W hw 74 rfl) (W hw 133 rfl) (cuk4 l Z a0 hw (2 : Int32) a1 cz vf y0 y1 y2 y3 y4 y5 y6 y7 h0 n0 Z0 A_a1 O0 SS (by first | decide | omega) (by first | decide | omega)) e0 rfl rfl pd_4 rfl dj52_83_2 (by rw [hml]; rfl) rfl (by decide) (by decide) (LB rfl) (by decide) (by decide) fun v1 T1 L1 X1 q1 => ?_
  obtain ⟨rfl, e1, rfl⟩ := q1
  replace X1 := own_px X1
  refine k_none K ?_
  refine mAN K X1.here hx hby dj52_83_5 rfl rfl rfl ?_
  refine mIN K X1.here hx hby dj52_83_6 rfl rfl ?_
  refine k_callS K X1 hx hby hZ [(.ref a1), (.int (2 : Int32))] [] hown (W hw 125 rfl) (W hw 126 rfl) (W hw 74 rfl) (W hw 127 rfl) (cgc4_2 l Z a0 hw a1 cz vf y0 y1 y2 y3 y4 y5 y6 y7 h0 n0 Z0 A_a1 O0 SS) e1 rfl rfl pd_5 rfl dj52_83_7 (by rw [hml]; rfl) rfl (by decide) (by decide) (LB rfl) (by decide) (by decide) fun v2 T2 L2 X2 q2 => ?_
  obtain ⟨rfl, e2, rfl⟩ := q2
  replace X2 := own_px X2
  refine k_some K (w := (.int (GCH y4 y5))) ?_
  exact Go.retN X2 hx hby hlk hret (by simp) dj52_83_10 (by decide) (by decide) (own_nc _) (⟨rfl, e2, rfl⟩)
theorem efcu4_2 (m : MethodId) (x0 : Addr) (x1 : Int32) : entryFrame m #[(.ref x0), (.int x1)] 2 = mkF m 0 #[.val (.ref x0), .val (.int x1)] [] := by first | (simp [entryFrame, mkF, argsToLocals, Value.category]; done) | rfl
theorem ccu4_2 (l : Launch) (Z : State) (a0 : Array Value) (hw : ∀ d ∈ tables_1, d.before a0 Z = true) (a1 : Addr) (cz : Int32) (vf : Value) (a2 : Addr) (y0 y1 : Int32) (y2 y3 : Int32) (y4 y5 : Int32) (y6 y7 : Int32) (h0 : Heap) (n0 : Nat) (Z0 : n0 ≤ h0.size) (E_a1 : Exa Z h0 a1 "java/lang/String") (F_value_a1 : Fld Z h0 a1 "java/lang/String" "value" "[B" (.ref a2)) (F_coder_a1 : Fld Z h0 a1 "java/lang/String" "coder" "B" (.int (1 : Int32))) (A_a2 : Av Z h0 a2 .byte [(.int y0), (.int y1), (.int y2), (.int y3), (.int y4), (.int y5), (.int y6), (.int y7)]) (O0 : Old Z n0 h0) (SS : SSt Z cz vf) :
    Con l Z (⟨"java/lang/String", "charAt", "(I)C"⟩ : MethodName) jdk_42_method_56_code 2 (some .char) ({ frames := 4, cells := 0, slots := 0, locals := 53 } : Room) [] #[(.ref a1), (.int (2 : Int32))] h0 (fun v h L => v = some (.int (GCH y4 y5)) ∧ h = h0 ∧ L = []) := by
  refine Con.of (plainFor_of_name pn_java_lang_String) #[.val (.ref a1), .val (.int (2 : Int32))] (fun m => efcu4_2 m a1 (2 : Int32)) ?_
  intro p e s m below meth c s₁ K hx hby hml hown hnm hret hlk hZ X0 e0
  have N0 := Fr.nil n0
  refine mAN K X0.here hx hby dj42_56_0 rfl rfl rfl ?_
  refine k_callV K X0 hx hby hZ a1 [] [] hown (W hw 87 rfl) (W hw 88 rfl) (notFace_of_selects (args := #[]) (mvT hZ (W hw 90 rfl))) (W hw 90 rfl) (W hw 89 rfl) (W hw 12 rfl) (W hw 91 rfl) (cil1 l Z a0 hw a1 cz vf h0 n0 Z0 F_coder_a1 O0 SS) e0 E_a1 rfl rfl pd_6 rfl dj42_56_1 (by rw [hml]; rfl) rfl (by decide) (by decide) (LB rfl) (by decide) (by decide) fun v1 T1 L1 X1 q1 => ?_
  obtain ⟨rfl, e1, rfl⟩ := q1
  replace X1 := own_px X1
  refine k_some K (w := (.int (0 : Int32))) ?_
  refine m_ifY K X1.here hx hby (q := 16) dj42_56_4 ((if0 _ _).trans (teq (by decide : (0 : Int32) = (0 : Int32))).1) (by decide) rfl ?_
  refine mAN K X1.here hx hby dj42_56_16 rfl rfl rfl ?_
  refine k_getF K X1 hx hby hZ hown (host := "") (Or.inl (W hw 30 rfl)) Via.refl e1 F_value_a1 dj42_56_17 rfl fun T2 X2 e2 => ?_
  refine mIN K X2.here hx hby dj42_56_20 rfl rfl ?_
  refine k_callS K X2 hx hby hZ [(.ref a2), (.int (2 : Int32))] [] hown (W hw 128 rfl) (W hw 129 rfl) (W hw 74 rfl) (W hw 130 rfl) (cuc4_2 l Z a0 hw a2 cz vf y0 y1 y2 y3 y4 y5 y6 y7 h0 n0 Z0 A_a2 O0 SS) e2 rfl rfl pd_5 rfl dj42_56_21 (by rw [hml]; rfl) rfl (by decide) (by decide) (LB rfl) (by decide) (by decide) fun v3 T3 L3 X3 q3 => ?_
  obtain ⟨rfl, e3, rfl⟩ := q3
  replace X3 := own_px X3
  refine k_some K (w := (.int (GCH y4 y5))) ?_
  exact Go.retN X3 hx hby hlk hret (by simp) dj42_56_24 (by decide) (by decide) (own_nc _) (⟨rfl, e3, rfl⟩)
def wpc4_3_1 (p3 : Int32) : Int32 := ((p3 >>> ((0 : Int32) &&& 31)).toInt8.toInt32)
def wpc4_3_2 (p3 : Int32) : Int32 := ((p3 >>> ((8 : Int32) &&& 31)).toInt8.toInt32)
theorem efpc4_3 (m : MethodId) (x0 : Addr) (x1 x2 : Int32) : entryFrame m #[(.ref x0), (.int x1), (.int x2)] 3 = mkF m 0 #[.val (.ref x0), .val (.int x1), .val (.int x2)] [] := by first | (simp [entryFrame, mkF, argsToLocals, Value.category]; done) | rfl
theorem cpc4_3 (l : Launch) (Z : State) (a0 : Array Value) (hw : ∀ d ∈ tables_1, d.before a0 Z = true) (a1 : Addr) (p3 cz : Int32) (vf : Value) (y0 y1 : Int32) (y2 y3 : Int32) (y4 y5 : Int32) (y6 y7 : Int32) (h0 : Heap) (n0 : Nat) (Z0 : n0 ≤ h0.size) (A_a1 : Av Z h0 a1 .byte [(.int y0), (.int y1), (.int y2), (.int y3), (.int y4), (.int y5), (.int y6), (.int y7)]) (O0 : Old Z n0 h0) (g_a1 : n0 ≤ a1) (SS : SSt Z cz vf) :
    Con l Z (⟨"java/lang/StringUTF16", "putChar", "([BII)V"⟩ : MethodName) jdk_52_method_4_code 3 none ({ frames := 0, cells := 0, slots := 0, locals := 0 } : Room) [] #[(.ref a1), (.int (3 : Int32)), (.int p3)] h0 (fun v h L => v = none ∧ Fr n0 L ∧ Keep h0 h [a1] ∧ Av Z h a1 .byte [(.int y0), (.int y1), (.int y2), (.int y3), (.int y4), (.int y5), (.int (BLO p3)), (.int (BHI p3))]) := by
  refine Con.of (plainFor_of_name pn_java_lang_StringUTF16) #[.val (.ref a1), .val (.int (3 : Int32)), .val (.int p3)] (fun m => efpc4_3 m a1 (3 : Int32) p3) ?_
  intro p e s m below meth c s₁ K hx hby hml hown hnm hret hlk hZ X0 e0
  have N0 := Fr.nil n0
  refine k_getS K X0 hx hby hZ hown (host := "") (Or.inl (W hw 122 rfl)) Via.refl e0 (SS.ad.ext O0.2) dj52_4_0 rfl fun T1 X1 e1 => ?_
  refine m_ifY K X1.here hx hby (q := 28) dj52_4_3 ((if0 _ _).trans (feq (by decide : ¬ ((1 : Int32) = (0 : Int32)))).2) (by decide) rfl ?_
  refine mIN K X1.here hx hby dj52_4_28 rfl rfl ?_
  refine mC K X1.here hx hby (1 : Int32) dj52_4_29 rfl rfl ?_
  refine m_ishl K X1.here hx hby (6 : Int32) dj52_4_30 rfl rfl ?_
  refine m_istoreN K X1.here hx hby #[.val (.ref a1), .val (.int (6 : Int32)), .val (.int p3)] dj52_4_31 rfl rfl ?_
  refine mAN K X1.here hx hby dj52_4_32 rfl rfl rfl ?_
  refine mIN K X1.here hx hby dj52_4_33 rfl rfl ?_
  refine mJ K X1.here hx hby #[.val (.ref a1), .val (.int (7 : Int32)), .val (.int p3)] dj52_4_34 rfl rfl rfl ?_
  refine mIN K X1.here hx hby dj52_4_37 rfl rfl ?_
  refine k_getS K X1 hx hby hZ hown (host := "") (Or.inl (W hw 123 rfl)) Via.refl e1 (SS.hi.ext O0.2) dj52_4_38 rfl fun T2 X2 e2 => ?_
  refine m_ishr K X2.here hx hby (p3 >>> ((0 : Int32) &&& 31)) dj52_4_41 rfl rfl ?_
  refine m_i2b K X2.here hx hby (wpc4_3_1 p3) dj52_4_42 rfl rfl ?_
  refine k_stB K X2 hx hby hZ e2 A_a1 (by decide) (LB rfl) dj52_4_43 rfl fun T3 h3 X3 e3 W3 V3 => ?_
  replace V3 : Av Z h3 a1 .byte [(.int y0), (.int y1), (.int y2), (.int y3), (.int y4), (.int y5), (.int (nar .byte (wpc4_3_1 p3))), (.int y7)] := V3
  have N3 := Fr.snoc X3 N0 g_a1
  refine mAN K X3.here hx hby dj52_4_44 rfl rfl rfl ?_
  refine mIN K X3.here hx hby dj52_4_45 rfl rfl ?_
  refine mIN K X3.here hx hby dj52_4_46 rfl rfl ?_
  refine k_getS K X3 hx hby hZ hown (host := "") (Or.inl (W hw 124 rfl)) Via.refl e3 (SS.lo.ext (O0.wr W3 g_a1).2) dj52_4_47 rfl fun T4 X4 e4 => ?_
  refine m_ishr K X4.here hx hby (p3 >>> ((8 : Int32) &&& 31)) dj52_4_50 rfl rfl ?_
  refine m_i2b K X4.here hx hby (wpc4_3_2 p3) dj52_4_51 rfl rfl ?_
  refine k_stB K X4 hx hby hZ e4 V3 (by decide) (LB rfl) dj52_4_52 rfl fun T5 h5 X5 e5 W5 V5 => ?_
  replace V5 : Av Z h5 a1 .byte [(.int y0), (.int y1), (.int y2), (.int y3), (.int y4), (.int y5), (.int (nar .byte (wpc4_3_1 p3))), (.int (nar .byte (wpc4_3_2 p3)))] := V5
  have N5 := Fr.snoc X5 N3 g_a1
  exact Go.retV X5 hx hby hlk hret dj52_4_53 (by decide) (by decide) (by rw [e5]; exact ⟨rfl, N5, (((Keep.refl h0 [a1]).wr W3 (Or.inl (by simp))).wr W5 (Or.inl (by simp))), V5⟩)
def wgc4_3_1 (y6 : Int32) : Int32 := ((y6 &&& (255 : Int32)) <<< ((0 : Int32) &&& 31))
def wgc4_3_2 (y7 : Int32) : Int32 := ((y7 &&& (255 : Int32)) <<< ((8 : Int32) &&& 31))
def wgc4_3_3 (y6 y7 : Int32) : Int32 := (((wgc4_3_1 y6) ||| (wgc4_3_2 y7)).toUInt32.toUInt16.toUInt32.toInt32)
theorem efgc4_3 (m : MethodId) (x0 : Addr) (x1 : Int32) : entryFrame m #[(.ref x0), (.int x1)] 2 = mkF m 0 #[.val (.ref x0), .val (.int x1)] [] := by first | (simp [entryFrame, mkF, argsToLocals, Value.category]; done) | rfl
theorem cgc4_3 (l : Launch) (Z : State) (a0 : Array Value) (hw : ∀ d ∈ tables_1, d.before a0 Z = true) (a1 : Addr) (cz : Int32) (vf : Value) (y0 y1 : Int32) (y2 y3 : Int32) (y4 y5 : Int32) (y6 y7 : Int32) (h0 : Heap) (n0 : Nat) (Z0 : n0 ≤ h0.size) (A_a1 : Av Z h0 a1 .byte [(.int y0), (.int y1), (.int y2), (.int y3), (.int y4), (.int y5), (.int y6), (.int y7)]) (O0 : Old Z n0 h0) (SS : SSt Z cz vf) :
    Con l Z (⟨"java/lang/StringUTF16", "getChar", "([BI)C"⟩ : MethodName) jdk_52_method_5_code 2 (some .char) ({ frames := 0, cells := 0, slots := 0, locals := 0 } : Room) [] #[(.ref a1), (.int (3 : Int32))] h0 (fun v h L => v = some (.int (GCH y6 y7)) ∧ h = h0 ∧ L = []) := by
  refine Con.of (plainFor_of_name pn_java_lang_StringUTF16) #[.val (.ref a1), .val (.int (3 : Int32))] (fun m => efgc4_3 m a1 (3 : Int32)) ?_
  intro p e s m below meth c s₁ K hx hby hml hown hnm hret hlk hZ X0 e0
  have N0 := Fr.nil n0
  refine k_getS K X0 hx hby hZ hown (host := "") (Or.inl (W hw 122 rfl)) Via.refl e0 (SS.ad.ext O0.2) dj52_5_0 rfl fun T1 X1 e1 => ?_
  refine m_ifY K X1.here hx hby (q := 28) dj52_5_3 ((if0 _ _).trans (feq (by decide : ¬ ((1 : Int32) = (0 : Int32)))).2) (by decide) rfl ?_
  refine mIN K X1.here hx hby dj52_5_28 rfl rfl ?_
  refine mC K X1.here hx hby (1 : Int32) dj52_5_29 rfl rfl ?_
  refine m_ishl K X1.here hx hby (6 : Int32) dj52_5_30 rfl rfl ?_
  refine m_istoreN K X1.here hx hby #[.val (.ref a1), .val (.int (6 : Int32))] dj52_5_31 rfl rfl ?_
  refine mAN K X1.here hx hby dj52_5_32 rfl rfl rfl ?_
  refine mIN K X1.here hx hby dj52_5_33 rfl rfl ?_
  refine mJ K X1.here hx hby #[.val (.ref a1), .val (.int (7 : Int32))] dj52_5_34 rfl rfl rfl ?_
  refine k_ldB K X1 hx hby hZ e1 A_a1 (v := (.int y6)) (by decide) rfl dj52_5_37 rfl ?_
  refine mP K X1.here hx hby (255 : Int32) dj52_5_38 rfl rfl ?_
  refine m_iand K X1.here hx hby (y6 &&& (255 : Int32)) dj52_5_41 rfl rfl ?_
  refine k_getS K X1 hx hby hZ hown (host := "") (Or.inl (W hw 123 rfl)) Via.refl e1 (SS.hi.ext O0.2) dj52_5_42 rfl fun T2 X2 e2 => ?_
  refine m_ishl K X2.here hx hby (wgc4_3_1 y6) dj52_5_45 rfl rfl ?_
  refine mAN K X2.here hx hby dj52_5_46 rfl rfl rfl ?_
  refine mIN K X2.here hx hby dj52_5_47 rfl rfl ?_
  refine k_ldB K X2 hx hby hZ e2 A_a1 (v := (.int y7)) (by decide) rfl dj52_5_48 rfl ?_
  refine mP K X2.here hx hby (255 : Int32) dj52_5_49 rfl rfl ?_
  refine m_iand K X2.here hx hby (y7 &&& (255 : Int32)) dj52_5_52 rfl rfl ?_
  refine k_getS K X2 hx hby hZ hown (host := "") (Or.inl (W hw 124 rfl)) Via.refl e2 (SS.lo.ext O0.2) dj52_5_53 rfl fun T3 X3 e3 => ?_
  refine m_ishl K X3.here hx hby (wgc4_3_2 y7) dj52_5_56 rfl rfl ?_
  refine m_ior K X3.here hx hby ((wgc4_3_1 y6) ||| (wgc4_3_2 y7)) dj52_5_57 rfl rfl ?_
  refine m_i2c K X3.here hx hby (wgc4_3_3 y6 y7) dj52_5_58 rfl rfl ?_
  exact Go.retN X3 hx hby hlk hret (by simp) dj52_5_59 (by decide) (by decide) (own_nc _) (⟨rfl, e3, rfl⟩)
theorem efuc4_3 (m : MethodId) (x0 : Addr) (x1 : Int32) : entryFrame m #[(.ref x0), (.int x1)] 2 = mkF m 0 #[.val (.ref x0), .val (.int x1)] [] := by first | (simp [entryFrame, mkF, argsToLocals, Value.category]; done) | rfl
theorem cuc4_3 (l : Launch) (Z : State) (a0 : Array Value) (hw : ∀ d ∈ tables_1, d.before a0 Z = true) (a1 : Addr) (cz : Int32) (vf : Value) (y0 y1 : Int32) (y2 y3 : Int32) (y4 y5 : Int32) (y6 y7 : Int32) (h0 : Heap) (n0 : Nat) (Z0 : n0 ≤ h0.size) (A_a1 : Av Z h0 a1 .byte [(.int y0), (.int y1), (.int y2), (.int y3), (.int y4), (.int y5), (.int y6), (.int y7)]) (O0 : Old Z n0 h0) (SS : SSt Z cz vf) :
    Con l Z (⟨"java/lang/StringUTF16", "charAt", "([BI)C"⟩ : MethodName) jdk_52_method_83_code 2 (some .char) ({ frames := 3, cells := 0, slots := 0, locals := 40 } : Room) [] #[(.ref a1), (.int (3 : Int32))] h0 (fun v h L => v = some (.int (GCH y6 y7)) ∧ h = h0 ∧ L = []) := by
  refine Con.of (plainFor_of_name pn_java_lang_StringUTF16) #[.val (.ref a1), .val (.int (3 : Int32))] (fun m => efuc4_3 m a1 (3 : Int32)) ?_
  intro p e s m below meth c s₁ K hx hby hml hown hnm hret hlk hZ X0 e0
  have N0 := Fr.nil n0
  refine mIN K X0.here hx hby dj52_83_0 rfl rfl ?_
  refine mAN K X0.here hx hby dj52_83_1 rfl rfl rfl ?_
  refine k_callS K X0 hx hby hZ [(.int (3 : Int32)), (.ref a1)] [] hown (W hw 131 rfl) (W hw 132 rfl) (W hw 74 rfl) (W hw 133 rfl) (cuk4 l Z a0 hw (3 : Int32) a1 cz vf y0 y1 y2 y3 y4 y5 y6 y7 h0 n0 Z0 A_a1 O0 SS (by first | decide | omega) (by first | decide | omega)) e0 rfl rfl pd_4 rfl dj52_83_2 (by rw [hml]; rfl) rfl (by decide) (by decide) (LB rfl) (by decide) (by decide) fun v1 T1 L1 X1 q1 => ?_
  obtain ⟨rfl, e1, rfl⟩ := q1
  replace X1 := own_px X1
  refine k_none K ?_
  refine mAN K X1.here hx hby dj52_83_5 rfl rfl rfl ?_
  refine mIN K X1.here hx hby dj52_83_6 rfl rfl ?_
  refine k_callS K X1 hx hby hZ [(.ref a1), (.int (3 : Int32))] [] hown (W hw 125 rfl) (W hw 126 rfl) (W hw 74 rfl) (W hw 127 rfl) (cgc4_3 l Z a0 hw a1 cz vf y0 y1 y2 y3 y4 y5 y6 y7 h0 n0 Z0 A_a1 O0 SS) e1 rfl rfl pd_5 rfl dj52_83_7 (by rw [hml]; rfl) rfl (by decide) (by decide) (LB rfl) (by decide) (by decide) fun v2 T2 L2 X2 q2 => ?_
  obtain ⟨rfl, e2, rfl⟩ := q2
  replace X2 := own_px X2
  refine k_some K (w := (.int (GCH y6 y7))) ?_
  exact Go.retN X2 hx hby hlk hret (by simp) dj52_83_10 (by decide) (by decide) (own_nc _) (⟨rfl, e2, rfl⟩)
theorem efcu4_3 (m : MethodId) (x0 : Addr) (x1 : Int32) : entryFrame m #[(.ref x0), (.int x1)] 2 = mkF m 0 #[.val (.ref x0), .val (.int x1)] [] := by first | (simp [entryFrame, mkF, argsToLocals, Value.category]; done) | rfl
theorem ccu4_3 (l : Launch) (Z : State) (a0 : Array Value) (hw : ∀ d ∈ tables_1, d.before a0 Z = true) (a1 : Addr) (cz : Int32) (vf : Value) (a2 : Addr) (y0 y1 : Int32) (y2 y3 : Int32) (y4 y5 : Int32) (y6 y7 : Int32) (h0 : Heap) (n0 : Nat) (Z0 : n0 ≤ h0.size) (E_a1 : Exa Z h0 a1 "java/lang/String") (F_value_a1 : Fld Z h0 a1 "java/lang/String" "value" "[B" (.ref a2)) (F_coder_a1 : Fld Z h0 a1 "java/lang/String" "coder" "B" (.int (1 : Int32))) (A_a2 : Av Z h0 a2 .byte [(.int y0), (.int y1), (.int y2), (.int y3), (.int y4), (.int y5), (.int y6), (.int y7)]) (O0 : Old Z n0 h0) (SS : SSt Z cz vf) :
    Con l Z (⟨"java/lang/String", "charAt", "(I)C"⟩ : MethodName) jdk_42_method_56_code 2 (some .char) ({ frames := 4, cells := 0, slots := 0, locals := 53 } : Room) [] #[(.ref a1), (.int (3 : Int32))] h0 (fun v h L => v = some (.int (GCH y6 y7)) ∧ h = h0 ∧ L = []) := by
  refine Con.of (plainFor_of_name pn_java_lang_String) #[.val (.ref a1), .val (.int (3 : Int32))] (fun m => efcu4_3 m a1 (3 : Int32)) ?_
  intro p e s m below meth c s₁ K hx hby hml hown hnm hret hlk hZ X0 e0
  have N0 := Fr.nil n0
  refine mAN K X0.here hx hby dj42_56_0 rfl rfl rfl ?_
  refine k_callV K X0 hx hby hZ a1 [] [] hown (W hw 87 rfl) (W hw 88 rfl) (notFace_of_selects (args := #[]) (mvT hZ (W hw 90 rfl))) (W hw 90 rfl) (W hw 89 rfl) (W hw 12 rfl) (W hw 91 rfl) (cil1 l Z a0 hw a1 cz vf h0 n0 Z0 F_coder_a1 O0 SS) e0 E_a1 rfl rfl pd_6 rfl dj42_56_1 (by rw [hml]; rfl) rfl (by decide) (by decide) (LB rfl) (by decide) (by decide) fun v1 T1 L1 X1 q1 => ?_
  obtain ⟨rfl, e1, rfl⟩ := q1
  replace X1 := own_px X1
  refine k_some K (w := (.int (0 : Int32))) ?_
  refine m_ifY K X1.here hx hby (q := 16) dj42_56_4 ((if0 _ _).trans (teq (by decide : (0 : Int32) = (0 : Int32))).1) (by decide) rfl ?_
  refine mAN K X1.here hx hby dj42_56_16 rfl rfl rfl ?_
  refine k_getF K X1 hx hby hZ hown (host := "") (Or.inl (W hw 30 rfl)) Via.refl e1 F_value_a1 dj42_56_17 rfl fun T2 X2 e2 => ?_
  refine mIN K X2.here hx hby dj42_56_20 rfl rfl ?_
  refine k_callS K X2 hx hby hZ [(.ref a2), (.int (3 : Int32))] [] hown (W hw 128 rfl) (W hw 129 rfl) (W hw 74 rfl) (W hw 130 rfl) (cuc4_3 l Z a0 hw a2 cz vf y0 y1 y2 y3 y4 y5 y6 y7 h0 n0 Z0 A_a2 O0 SS) e2 rfl rfl pd_5 rfl dj42_56_21 (by rw [hml]; rfl) rfl (by decide) (by decide) (LB rfl) (by decide) (by decide) fun v3 T3 L3 X3 q3 => ?_
  obtain ⟨rfl, e3, rfl⟩ := q3
  replace X3 := own_px X3
  refine k_some K (w := (.int (GCH y6 y7))) ?_
  exact Go.retN X3 hx hby hlk hret (by simp) dj42_56_24 (by decide) (by decide) (own_nc _) (⟨rfl, e3, rfl⟩)
theorem eftb4 (m : MethodId) (x0 : Addr) (x1 x2 : Int32) : entryFrame m #[(.ref x0), (.int x1), (.int x2)] 5 = mkF m 0 #[.val (.ref x0), .val (.int x1), .val (.int x2), .unset, .unset] [] := by first | (simp [entryFrame, mkF, argsToLocals, Value.category]; done) | rfl
theorem ctb4 (l : Launch) (Z : State) (a0 : Array Value) (hw : ∀ d ∈ tables_1, d.before a0 Z = true) (a1 : Addr) (cz : Int32) (vf : Value) (c0 c1 : Int32) (c2 c3 : Int32) (h0 : Heap) (n0 : Nat) (Z0 : n0 ≤ h0.size) (A_a1 : Av Z h0 a1 .char [(.int c0), (.int c1), (.int c2), (.int c3)]) (O0 : Old Z n0 h0) (SS : SSt Z cz vf) :
    Con l Z (⟨"java/lang/StringUTF16", "toBytes", "([CII)[B"⟩ : MethodName) jdk_52_method_14_code 5 (some (.array .byte)) ({ frames := 2, cells := 1, slots := 8, locals := 24 } : Room) [] #[(.ref a1), (.int (0 : Int32)), (.int (4 : Int32))] h0 (fun v h L => ∃ bv : Addr, v = some (.ref bv) ∧ Fr n0 L ∧ Keep h0 h [] ∧ h0.size ≤ bv ∧ Av Z h bv .byte [(.int (BLO c0)), (.int (BHI c0)), (.int (BLO c1)), (.int (BHI c1)), (.int (BLO c2)), (.int (BHI c2)), (.int (BLO c3)), (.int (BHI c3))]) := by
  refine Con.of (plainFor_of_name pn_java_lang_StringUTF16) #[.val (.ref a1), .val (.int (0 : Int32)), .val (.int (4 : Int32)), .unset, .unset] (fun m => eftb4 m a1 (0 : Int32) (4 : Int32)) ?_
  intro p e s m below meth c s₁ K hx hby hml hown hnm hret hlk hZ X0 e0
  have N0 := Fr.nil n0
  refine mIN K X0.here hx hby dj52_14_0 rfl rfl ?_
  refine k_callS K X0 hx hby hZ [(.int (4 : Int32))] [] hown (W hw 112 rfl) (W hw 113 rfl) (W hw 74 rfl) (W hw 114 rfl) (cnf4 l Z a0 hw cz vf h0 n0 Z0 O0 SS) e0 rfl rfl pd_7 rfl dj52_14_1 (by rw [hml]; rfl) rfl (by decide) (by decide) (LB rfl) (by decide) (by decide) fun v1 T1 L1 X1 q1 => ?_
  obtain ⟨b1_bv, rfl, Nq1, K1, sq_b1_bv, Ap1_0⟩ := q1
  have N1 := Fr.app N0 Nq1
  have sz_b1_bv : h0.size ≤ b1_bv := Nat.le_trans (Nat.le_refl _) sq_b1_bv
  have g_b1_bv : n0 ≤ b1_bv := Nat.le_trans Z0 sz_b1_bv
  refine k_some K (w := (.ref b1_bv)) ?_
  refine m_astoreN K X1.here hx hby #[.val (.ref a1), .val (.int (0 : Int32)), .val (.int (4 : Int32)), .val (.ref b1_bv), .unset] dj52_14_4 rfl rfl rfl ?_
  refine mC K X1.here hx hby (0 : Int32) dj52_14_5 rfl rfl ?_
  refine mS K X1.here hx hby #[.val (.ref a1), .val (.int (0 : Int32)), .val (.int (4 : Int32)), .val (.ref b1_bv), .val (.int (0 : Int32))] dj52_14_6 rfl rfl ?_
  refine mI K X1.here hx hby dj52_14_8 rfl rfl ?_
  refine mIN K X1.here hx hby dj52_14_10 rfl rfl ?_
  refine m_icmpN K X1.here hx hby (q := 14) dj52_14_11 (tlt (by decide : (0 : Int32) < (4 : Int32))).2.1 rfl ?_
  refine mAN K X1.here hx hby dj52_14_14 rfl rfl rfl ?_
  refine mI K X1.here hx hby dj52_14_15 rfl rfl ?_
  refine mAN K X1.here hx hby dj52_14_17 rfl rfl rfl ?_
  refine mIN K X1.here hx hby dj52_14_18 rfl rfl ?_
  refine k_ldC K X1 hx hby hZ rfl (A_a1.keep K1 nin0) (v := (.int c0)) (by decide) rfl dj52_14_19 rfl ?_
  refine k_callS K X1 hx hby hZ [(.ref b1_bv), (.int (0 : Int32)), (.int c0)] [] hown (W hw 119 rfl) (W hw 120 rfl) (W hw 74 rfl) (W hw 121 rfl) (cpc4_0 l Z a0 hw b1_bv c0 cz vf (0 : Int32) (0 : Int32) (0 : Int32) (0 : Int32) (0 : Int32) (0 : Int32) (0 : Int32) (0 : Int32) T1.heap n0 (Nat.le_trans Z0 (Nat.le_trans (Nat.le_refl _) K1.1)) Ap1_0 (O0.keep K1 all0) g_b1_bv SS) rfl rfl rfl pd_8 rfl dj52_14_20 (by rw [hml]; rfl) rfl (by decide) (by decide) (LB rfl) (by decide) (by decide) fun v2 T2 L2 X2 q2 => ?_
  obtain ⟨rfl, Nq2, K2, Ap2_0⟩ := q2
  have N2 := Fr.app N1 Nq2
  refine k_none K ?_
  refine mJ K X2.here hx hby #[.val (.ref a1), .val (.int (1 : Int32)), .val (.int (4 : Int32)), .val (.ref b1_bv), .val (.int (0 : Int32))] dj52_14_23 rfl rfl rfl ?_
  refine mJ K X2.here hx hby #[.val (.ref a1), .val (.int (1 : Int32)), .val (.int (4 : Int32)), .val (.ref b1_bv), .val (.int (1 : Int32))] dj52_14_26 rfl rfl rfl ?_
  refine m_goto K X2.here hx hby (q := 8) dj52_14_29 (by decide) rfl ?_
  refine mI K X2.here hx hby dj52_14_8 rfl rfl ?_
  refine mIN K X2.here hx hby dj52_14_10 rfl rfl ?_
  refine m_icmpN K X2.here hx hby (q := 14) dj52_14_11 (tlt (by decide : (1 : Int32) < (4 : Int32))).2.1 rfl ?_
  refine mAN K X2.here hx hby dj52_14_14 rfl rfl rfl ?_
  refine mI K X2.here hx hby dj52_14_15 rfl rfl ?_
  refine mAN K X2.here hx hby dj52_14_17 rfl rfl rfl ?_
  refine mIN K X2.here hx hby dj52_14_18 rfl rfl ?_
  refine k_ldC K X2 hx hby hZ rfl ((A_a1.keep K1 nin0).keep K2 (ninS (Nat.ne_of_lt (Nat.lt_of_lt_of_le (Nat.lt_of_lt_of_le A_a1.lt (Nat.le_refl _)) sq_b1_bv)) nin0)) (v := (.int c1)) (by decide) rfl dj52_14_19 rfl ?_
  refine k_callS K X2 hx hby hZ [(.ref b1_bv), (.int (1 : Int32)), (.int c1)] [] hown (W hw 119 rfl) (W hw 120 rfl) (W hw 74 rfl) (W hw 121 rfl) (cpc4_1 l Z a0 hw b1_bv c1 cz vf (BLO c0) (BHI c0) (0 : Int32) (0 : Int32) (0 : Int32) (0 : Int32) (0 : Int32) (0 : Int32) T2.heap n0 (Nat.le_trans Z0 (Nat.le_trans (Nat.le_trans (Nat.le_refl _) K1.1) K2.1)) Ap2_0 ((O0.keep K1 all0).keep K2 (allS g_b1_bv all0)) g_b1_bv SS) rfl rfl rfl pd_8 rfl dj52_14_20 (by rw [hml]; rfl) rfl (by decide) (by decide) (LB rfl) (by decide) (by decide) fun v3 T3 L3 X3 q3 => ?_
  obtain ⟨rfl, Nq3, K3, Ap3_0⟩ := q3
  have N3 := Fr.app N2 Nq3
  refine k_none K ?_
  refine mJ K X3.here hx hby #[.val (.ref a1), .val (.int (2 : Int32)), .val (.int (4 : Int32)), .val (.ref b1_bv), .val (.int (1 : Int32))] dj52_14_23 rfl rfl rfl ?_
  refine mJ K X3.here hx hby #[.val (.ref a1), .val (.int (2 : Int32)), .val (.int (4 : Int32)), .val (.ref b1_bv), .val (.int (2 : Int32))] dj52_14_26 rfl rfl rfl ?_
  refine m_goto K X3.here hx hby (q := 8) dj52_14_29 (by decide) rfl ?_
  refine mI K X3.here hx hby dj52_14_8 rfl rfl ?_
  refine mIN K X3.here hx hby dj52_14_10 rfl rfl ?_
  refine m_icmpN K X3.here hx hby (q := 14) dj52_14_11 (tlt (by decide : (2 : Int32) < (4 : Int32))).2.1 rfl ?_
  refine mAN K X3.here hx hby dj52_14_14 rfl rfl rfl ?_
  refine mI K X3.here hx hby dj52_14_15 rfl rfl ?_
  refine mAN K X3.here hx hby dj52_14_17 rfl rfl rfl ?_
  refine mIN K X3.here hx hby dj52_14_18 rfl rfl ?_
  refine k_ldC K X3 hx hby hZ rfl (((A_a1.keep K1 nin0).keep K2 (ninS (Nat.ne_of_lt (Nat.lt_of_lt_of_le (Nat.lt_of_lt_of_le A_a1.lt (Nat.le_refl _)) sq_b1_bv)) nin0)).keep K3 (ninS (Nat.ne_of_lt (Nat.lt_of_lt_of_le (Nat.lt_of_lt_of_le A_a1.lt (Nat.le_refl _)) sq_b1_bv)) nin0)) (v := (.int c2)) (by decide) rfl dj52_14_19 rfl ?_
  refine k_callS K X3 hx hby hZ [(.ref b1_bv), (.int (2 : Int32)), (.int c2)] [] hown (W hw 119 rfl) (W hw 120 rfl) (W hw 74 rfl) (W hw 121 rfl) (cpc4_2 l Z a0 hw b1_bv c2 cz vf (BLO c0) (BHI c0) (BLO c1) (BHI c1) (0 : Int32) (0 : Int32) (0 : Int32) (0 : Int32) T3.heap n0 (Nat.le_trans Z0 (Nat.le_trans (Nat.le_trans (Nat.le_trans (Nat.le_refl _) K1.1) K2.1) K3.1)) Ap3_0 (((O0.keep K1 all0).keep K2 (allS g_b1_bv all0)).keep K3 (allS g_b1_bv all0)) g_b1_bv SS) rfl rfl rfl pd_8 rfl dj52_14_20 (by rw [hml]; rfl) rfl (by decide) (by decide) (LB rfl) (by decide) (by decide) fun v4 T4 L4 X4 q4 => ?_
  obtain ⟨rfl, Nq4, K4, Ap4_0⟩ := q4
  have N4 := Fr.app N3 Nq4
  refine k_none K ?_
  refine mJ K X4.here hx hby #[.val (.ref a1), .val (.int (3 : Int32)), .val (.int (4 : Int32)), .val (.ref b1_bv), .val (.int (2 : Int32))] dj52_14_23 rfl rfl rfl ?_
  refine mJ K X4.here hx hby #[.val (.ref a1), .val (.int (3 : Int32)), .val (.int (4 : Int32)), .val (.ref b1_bv), .val (.int (3 : Int32))] dj52_14_26 rfl rfl rfl ?_
  refine m_goto K X4.here hx hby (q := 8) dj52_14_29 (by decide) rfl ?_
  refine mI K X4.here hx hby dj52_14_8 rfl rfl ?_
  refine mIN K X4.here hx hby dj52_14_10 rfl rfl ?_
  refine m_icmpN K X4.here hx hby (q := 14) dj52_14_11 (tlt (by decide : (3 : Int32) < (4 : Int32))).2.1 rfl ?_
  refine mAN K X4.here hx hby dj52_14_14 rfl rfl rfl ?_
  refine mI K X4.here hx hby dj52_14_15 rfl rfl ?_
  refine mAN K X4.here hx hby dj52_14_17 rfl rfl rfl ?_
  refine mIN K X4.here hx hby dj52_14_18 rfl rfl ?_
  refine k_ldC K X4 hx hby hZ rfl ((((A_a1.keep K1 nin0).keep K2 (ninS (Nat.ne_of_lt (Nat.lt_of_lt_of_le (Nat.lt_of_lt_of_le A_a1.lt (Nat.le_refl _)) sq_b1_bv)) nin0)).keep K3 (ninS (Nat.ne_of_lt (Nat.lt_of_lt_of_le (Nat.lt_of_lt_of_le A_a1.lt (Nat.le_refl _)) sq_b1_bv)) nin0)).keep K4 (ninS (Nat.ne_of_lt (Nat.lt_of_lt_of_le (Nat.lt_of_lt_of_le A_a1.lt (Nat.le_refl _)) sq_b1_bv)) nin0)) (v := (.int c3)) (by decide) rfl dj52_14_19 rfl ?_
  refine k_callS K X4 hx hby hZ [(.ref b1_bv), (.int (3 : Int32)), (.int c3)] [] hown (W hw 119 rfl) (W hw 120 rfl) (W hw 74 rfl) (W hw 121 rfl) (cpc4_3 l Z a0 hw b1_bv c3 cz vf (BLO c0) (BHI c0) (BLO c1) (BHI c1) (BLO c2) (BHI c2) (0 : Int32) (0 : Int32) T4.heap n0 (Nat.le_trans Z0 (Nat.le_trans (Nat.le_trans (Nat.le_trans (Nat.le_trans (Nat.le_refl _) K1.1) K2.1) K3.1) K4.1)) Ap4_0 ((((O0.keep K1 all0).keep K2 (allS g_b1_bv all0)).keep K3 (allS g_b1_bv all0)).keep K4 (allS g_b1_bv all0)) g_b1_bv SS) rfl rfl rfl pd_8 rfl dj52_14_20 (by rw [hml]; rfl) rfl (by decide) (by decide) (LB rfl) (by decide) (by decide) fun v5 T5 L5 X5 q5 => ?_
  obtain ⟨rfl, Nq5, K5, Ap5_0⟩ := q5
  have N5 := Fr.app N4 Nq5
  refine k_none K ?_
  refine mJ K X5.here hx hby #[.val (.ref a1), .val (.int (4 : Int32)), .val (.int (4 : Int32)), .val (.ref b1_bv), .val (.int (3 : Int32))] dj52_14_23 rfl rfl rfl ?_
  refine mJ K X5.here hx hby #[.val (.ref a1), .val (.int (4 : Int32)), .val (.int (4 : Int32)), .val (.ref b1_bv), .val (.int (4 : Int32))] dj52_14_26 rfl rfl rfl ?_
  refine m_goto K X5.here hx hby (q := 8) dj52_14_29 (by decide) rfl ?_
  refine mI K X5.here hx hby dj52_14_8 rfl rfl ?_
  refine mIN K X5.here hx hby dj52_14_10 rfl rfl ?_
  refine m_icmpY K X5.here hx hby (q := 32) dj52_14_11 (flt (by decide : ¬ ((4 : Int32) < (4 : Int32)))).2.1 (by decide) rfl ?_
  refine mAN K X5.here hx hby dj52_14_32 rfl rfl rfl ?_
  exact Go.retO X5 hx hby hlk hret rfl (Or.inr (Or.inr (Or.inr (Or.inr ⟨rfl, rfl, rfl⟩)))) dj52_14_33 (by decide) (by decide) (⟨b1_bv, rfl, N5, ((((((Keep.refl h0 []).trans K1 all0).trans K2 (allS (Or.inr sz_b1_bv) all0)).trans K3 (allS (Or.inr sz_b1_bv) all0)).trans K4 (allS (Or.inr sz_b1_bv) all0)).trans K5 (allS (Or.inr sz_b1_bv) all0)), sz_b1_bv, Ap5_0⟩)
theorem eflu4 (m : MethodId) (x0 : Addr) : entryFrame m #[(.ref x0)] 1 = mkF m 0 #[.val (.ref x0)] [] := by first | (simp [entryFrame, mkF, argsToLocals, Value.category]; done) | rfl
theorem clu4 (l : Launch) (Z : State) (a0 : Array Value) (hw : ∀ d ∈ tables_1, d.before a0 Z = true) (a1 : Addr) (cz : Int32) (vf : Value) (a2 : Addr) (y0 y1 : Int32) (y2 y3 : Int32) (y4 y5 : Int32) (y6 y7 : Int32) (h0 : Heap) (n0 : Nat) (Z0 : n0 ≤ h0.size) (E_a1 : Exa Z h0 a1 "java/lang/String") (F_value_a1 : Fld Z h0 a1 "java/lang/String" "value" "[B" (.ref a2)) (F_coder_a1 : Fld Z h0 a1 "java/lang/String" "coder" "B" (.int (1 : Int32))) (A_a2 : Av Z h0 a2 .byte [(.int y0), (.int y1), (.int y2), (.int y3), (.int y4), (.int y5), (.int y6), (.int y7)]) (O0 : Old Z n0 h0) (SS : SSt Z cz vf) :
    Con l Z (⟨"java/lang/String", "length", "()I"⟩ : MethodName) jdk_42_method_54_code 1 (some .int) ({ frames := 1, cells := 0, slots := 0, locals := 13 } : Room) [] #[(.ref a1)] h0 (fun v h L => v = some (.int (4 : Int32)) ∧ h = h0 ∧ L = []) := by
  refine Con.of (plainFor_of_name pn_java_lang_String) #[.val (.ref a1)] (fun m => eflu4 m a1) ?_
  intro p e s m below meth c s₁ K hx hby hml hown hnm hret hlk hZ X0 e0
  have N0 := Fr.nil n0
  refine mAN K X0.here hx hby dj42_54_0 rfl rfl rfl ?_
  refine k_getF K X0 hx hby hZ hown (host := "") (Or.inl (W hw 30 rfl)) Via.refl e0 F_value_a1 dj42_54_1 rfl fun T1 X1 e1 => ?_
  refine k_len K X1 hx hby hZ (8 : Int32) e1 A_a2 rfl dj42_54_4 rfl ?_
  refine mAN K X1.here hx hby dj42_54_5 rfl rfl rfl ?_
  refine k_callV K X1 hx hby hZ a1 [] [(.int (8 : Int32))] hown (W hw 41 rfl) (W hw 42 rfl) (notFace_of_selects (args := #[]) (mvT hZ (W hw 44 rfl))) (W hw 44 rfl) (W hw 43 rfl) (W hw 12 rfl) (W hw 45 rfl) (cco1 l Z a0 hw a1 cz vf h0 n0 Z0 F_coder_a1 O0 SS) e1 E_a1 rfl rfl pd_9 rfl dj42_54_6 (by rw [hml]; rfl) rfl (by decide) (by decide) (LB rfl) (by decide) (by decide) fun v2 T2 L2 X2 q2 => ?_
  obtain ⟨rfl, e2, rfl⟩ := q2
  replace X2 := own_px X2
  refine k_some K (w := (.int (1 : Int32))) ?_
  refine m_ishr K X2.here hx hby (4 : Int32) dj42_54_9 rfl rfl ?_
  exact Go.retI X2 hx hby hlk hret dj42_54_10 (by decide) (by decide) (⟨rfl, e2, rfl⟩)
theorem efll0 (m : MethodId) (x0 : Addr) : entryFrame m #[(.ref x0)] 1 = mkF m 0 #[.val (.ref x0)] [] := by first | (simp [entryFrame, mkF, argsToLocals, Value.category]; done) | rfl
theorem cll0 (l : Launch) (Z : State) (a0 : Array Value) (hw : ∀ d ∈ tables_1, d.before a0 Z = true) (a1 : Addr) (cz : Int32) (vf : Value) (a2 : Addr) (h0 : Heap) (n0 : Nat) (Z0 : n0 ≤ h0.size) (E_a1 : Exa Z h0 a1 "java/lang/String") (F_value_a1 : Fld Z h0 a1 "java/lang/String" "value" "[B" (.ref a2)) (F_coder_a1 : Fld Z h0 a1 "java/lang/String" "coder" "B" (.int (0 : Int32))) (A_a2 : Av Z h0 a2 .byte []) (O0 : Old Z n0 h0) (SS : SSt Z cz vf) :
    Con l Z (⟨"java/lang/String", "length", "()I"⟩ : MethodName) jdk_42_method_54_code 1 (some .int) ({ frames := 1, cells := 0, slots := 0, locals := 13 } : Room) [] #[(.ref a1)] h0 (fun v h L => v = some (.int (0 : Int32)) ∧ h = h0 ∧ L = []) := by
  refine Con.of (plainFor_of_name pn_java_lang_String) #[.val (.ref a1)] (fun m => efll0 m a1) ?_
  intro p e s m below meth c s₁ K hx hby hml hown hnm hret hlk hZ X0 e0
  have N0 := Fr.nil n0
  refine mAN K X0.here hx hby dj42_54_0 rfl rfl rfl ?_
  refine k_getF K X0 hx hby hZ hown (host := "") (Or.inl (W hw 30 rfl)) Via.refl e0 F_value_a1 dj42_54_1 rfl fun T1 X1 e1 => ?_
  refine k_len K X1 hx hby hZ (0 : Int32) e1 A_a2 rfl dj42_54_4 rfl ?_
  refine mAN K X1.here hx hby dj42_54_5 rfl rfl rfl ?_
  refine k_callV K X1 hx hby hZ a1 [] [(.int (0 : Int32))] hown (W hw 41 rfl) (W hw 42 rfl) (notFace_of_selects (args := #[]) (mvT hZ (W hw 44 rfl))) (W hw 44 rfl) (W hw 43 rfl) (W hw 12 rfl) (W hw 45 rfl) (cco0 l Z a0 hw a1 cz vf h0 n0 Z0 F_coder_a1 O0 SS) e1 E_a1 rfl rfl pd_9 rfl dj42_54_6 (by rw [hml]; rfl) rfl (by decide) (by decide) (LB rfl) (by decide) (by decide) fun v2 T2 L2 X2 q2 => ?_
  obtain ⟨rfl, e2, rfl⟩ := q2
  replace X2 := own_px X2
  refine k_some K (w := (.int (0 : Int32))) ?_
  refine m_ishr K X2.here hx hby (0 : Int32) dj42_54_9 rfl rfl ?_
  exact Go.retI X2 hx hby hlk hret dj42_54_10 (by decide) (by decide) (⟨rfl, e2, rfl⟩)
theorem efll1 (m : MethodId) (x0 : Addr) : entryFrame m #[(.ref x0)] 1 = mkF m 0 #[.val (.ref x0)] [] := by first | (simp [entryFrame, mkF, argsToLocals, Value.category]; done) | rfl
theorem cll1 (l : Launch) (Z : State) (a0 : Array Value) (hw : ∀ d ∈ tables_1, d.before a0 Z = true) (a1 : Addr) (cz : Int32) (vf : Value) (a2 : Addr) (y0 : Int32) (h0 : Heap) (n0 : Nat) (Z0 : n0 ≤ h0.size) (E_a1 : Exa Z h0 a1 "java/lang/String") (F_value_a1 : Fld Z h0 a1 "java/lang/String" "value" "[B" (.ref a2)) (F_coder_a1 : Fld Z h0 a1 "java/lang/String" "coder" "B" (.int (0 : Int32))) (A_a2 : Av Z h0 a2 .byte [(.int y0)]) (O0 : Old Z n0 h0) (SS : SSt Z cz vf) :
    Con l Z (⟨"java/lang/String", "length", "()I"⟩ : MethodName) jdk_42_method_54_code 1 (some .int) ({ frames := 1, cells := 0, slots := 0, locals := 13 } : Room) [] #[(.ref a1)] h0 (fun v h L => v = some (.int (1 : Int32)) ∧ h = h0 ∧ L = []) := by
  refine Con.of (plainFor_of_name pn_java_lang_String) #[.val (.ref a1)] (fun m => efll1 m a1) ?_
  intro p e s m below meth c s₁ K hx hby hml hown hnm hret hlk hZ X0 e0
  have N0 := Fr.nil n0
  refine mAN K X0.here hx hby dj42_54_0 rfl rfl rfl ?_
  refine k_getF K X0 hx hby hZ hown (host := "") (Or.inl (W hw 30 rfl)) Via.refl e0 F_value_a1 dj42_54_1 rfl fun T1 X1 e1 => ?_
  refine k_len K X1 hx hby hZ (1 : Int32) e1 A_a2 rfl dj42_54_4 rfl ?_
  refine mAN K X1.here hx hby dj42_54_5 rfl rfl rfl ?_
  refine k_callV K X1 hx hby hZ a1 [] [(.int (1 : Int32))] hown (W hw 41 rfl) (W hw 42 rfl) (notFace_of_selects (args := #[]) (mvT hZ (W hw 44 rfl))) (W hw 44 rfl) (W hw 43 rfl) (W hw 12 rfl) (W hw 45 rfl) (cco0 l Z a0 hw a1 cz vf h0 n0 Z0 F_coder_a1 O0 SS) e1 E_a1 rfl rfl pd_9 rfl dj42_54_6 (by rw [hml]; rfl) rfl (by decide) (by decide) (LB rfl) (by decide) (by decide) fun v2 T2 L2 X2 q2 => ?_
  obtain ⟨rfl, e2, rfl⟩ := q2
  replace X2 := own_px X2
  refine k_some K (w := (.int (0 : Int32))) ?_
  refine m_ishr K X2.here hx hby (1 : Int32) dj42_54_9 rfl rfl ?_
  exact Go.retI X2 hx hby hlk hret dj42_54_10 (by decide) (by decide) (⟨rfl, e2, rfl⟩)
def wlc1_0_1 (y0 : Int32) : Int32 := ((y0 &&& (255 : Int32)).toUInt32.toUInt16.toUInt32.toInt32)
theorem dj43_2_0 : decode jdk_43_method_2_code 0 = .ok (.iload_n 1, 1) := by decide +kernel
theorem dj43_2_1 : decode jdk_43_method_2_code 1 = .ok (.aload_n 0, 1) := by decide +kernel
theorem dj43_2_2 : decode jdk_43_method_2_code 2 = .ok (.arraylength, 1) := by decide +kernel
theorem dj43_2_3 : decode jdk_43_method_2_code 3 = .ok (.invokestatic 9, 3) := by decide +kernel
theorem dj43_2_6 : decode jdk_43_method_2_code 6 = .ok (.aload_n 0, 1) := by decide +kernel
theorem dj43_2_7 : decode jdk_43_method_2_code 7 = .ok (.iload_n 1, 1) := by decide +kernel
theorem dj43_2_8 : decode jdk_43_method_2_code 8 = .ok (.baload, 1) := by decide +kernel
theorem dj43_2_9 : decode jdk_43_method_2_code 9 = .ok (.sipush 255, 3) := by decide +kernel
theorem dj43_2_12 : decode jdk_43_method_2_code 12 = .ok (.iand, 1) := by decide +kernel
theorem dj43_2_13 : decode jdk_43_method_2_code 13 = .ok (.i2c, 1) := by decide +kernel
theorem dj43_2_14 : decode jdk_43_method_2_code 14 = .ok (.ireturn, 1) := by decide +kernel
theorem pn_java_lang_StringLatin1 : plainName "java/lang/StringLatin1" = true := by first | (simp [plainName, overriddenIn]; done) | decide +kernel
theorem eflc1_0 (m : MethodId) (x0 : Addr) (x1 : Int32) : entryFrame m #[(.ref x0), (.int x1)] 2 = mkF m 0 #[.val (.ref x0), .val (.int x1)] [] := by first | (simp [entryFrame, mkF, argsToLocals, Value.category]; done) | rfl
theorem clc1_0 (l : Launch) (Z : State) (a0 : Array Value) (hw : ∀ d ∈ tables_1, d.before a0 Z = true) (a1 : Addr) (cz : Int32) (vf : Value) (y0 : Int32) (h0 : Heap) (n0 : Nat) (Z0 : n0 ≤ h0.size) (A_a1 : Av Z h0 a1 .byte [(.int y0)]) (O0 : Old Z n0 h0) (SS : SSt Z cz vf) :
    Con l Z (⟨"java/lang/StringLatin1", "charAt", "([BI)C"⟩ : MethodName) jdk_43_method_2_code 2 (some .char) ({ frames := 2, cells := 0, slots := 0, locals := 27 } : Room) [] #[(.ref a1), (.int (0 : Int32))] h0 (fun v h L => v = some (.int (LCH y0)) ∧ h = h0 ∧ L = []) := by
  refine Con.of (plainFor_of_name pn_java_lang_StringLatin1) #[.val (.ref a1), .val (.int (0 : Int32))] (fun m => eflc1_0 m a1 (0 : Int32)) ?_
  intro p e s m below meth c s₁ K hx hby hml hown hnm hret hlk hZ X0 e0
  have N0 := Fr.nil n0
  refine mIN K X0.here hx hby dj43_2_0 rfl rfl ?_
  refine mAN K X0.here hx hby dj43_2_1 rfl rfl rfl ?_
  refine k_len K X0 hx hby hZ (1 : Int32) e0 A_a1 rfl dj43_2_2 rfl ?_
  refine k_callS K X0 hx hby hZ [(.int (0 : Int32)), (.int (1 : Int32))] [] hown (W hw 96 rfl) (W hw 97 rfl) (W hw 12 rfl) (W hw 98 rfl) (cck l Z a0 hw (0 : Int32) (1 : Int32) cz vf h0 n0 Z0 O0 SS (by first | decide | omega) (by first | decide | omega)) e0 rfl rfl pd_3 rfl dj43_2_3 (by rw [hml]; rfl) rfl (by decide) (by decide) (LB rfl) (by decide) (by decide) fun v1 T1 L1 X1 q1 => ?_
  obtain ⟨rfl, e1, rfl⟩ := q1
  replace X1 := own_px X1
  refine k_none K ?_
  refine mAN K X1.here hx hby dj43_2_6 rfl rfl rfl ?_
  refine mIN K X1.here hx hby dj43_2_7 rfl rfl ?_
  refine k_ldB K X1 hx hby hZ e1 A_a1 (v := (.int y0)) (by decide) rfl dj43_2_8 rfl ?_
  refine mP K X1.here hx hby (255 : Int32) dj43_2_9 rfl rfl ?_
  refine m_iand K X1.here hx hby (y0 &&& (255 : Int32)) dj43_2_12 rfl rfl ?_
  refine m_i2c K X1.here hx hby (wlc1_0_1 y0) dj43_2_13 rfl rfl ?_
  exact Go.retN X1 hx hby hlk hret (by simp) dj43_2_14 (by decide) (by decide) (own_nc _) (⟨rfl, e1, rfl⟩)
theorem dj42_56_7 : decode jdk_42_method_56_code 7 = .ok (.aload_n 0, 1) := by decide +kernel
theorem dj42_56_8 : decode jdk_42_method_56_code 8 = .ok (.getfield 9, 3) := by decide +kernel
theorem dj42_56_11 : decode jdk_42_method_56_code 11 = .ok (.iload_n 1, 1) := by decide +kernel
theorem dj42_56_12 : decode jdk_42_method_56_code 12 = .ok (.invokestatic 495, 3) := by decide +kernel
theorem dj42_56_15 : decode jdk_42_method_56_code 15 = .ok (.ireturn, 1) := by decide +kernel
theorem efcl1_0 (m : MethodId) (x0 : Addr) (x1 : Int32) : entryFrame m #[(.ref x0), (.int x1)] 2 = mkF m 0 #[.val (.ref x0), .val (.int x1)] [] := by first | (simp [entryFrame, mkF, argsToLocals, Value.category]; done) | rfl
theorem ccl1_0 (l : Launch) (Z : State) (a0 : Array Value) (hw : ∀ d ∈ tables_1, d.before a0 Z = true) (a1 : Addr) (cz : Int32) (vf : Value) (a2 : Addr) (y0 : Int32) (h0 : Heap) (n0 : Nat) (Z0 : n0 ≤ h0.size) (E_a1 : Exa Z h0 a1 "java/lang/String") (F_value_a1 : Fld Z h0 a1 "java/lang/String" "value" "[B" (.ref a2)) (F_coder_a1 : Fld Z h0 a1 "java/lang/String" "coder" "B" (.int (0 : Int32))) (A_a2 : Av Z h0 a2 .byte [(.int y0)]) (O0 : Old Z n0 h0) (SS : SSt Z cz vf) :
    Con l Z (⟨"java/lang/String", "charAt", "(I)C"⟩ : MethodName) jdk_42_method_56_code 2 (some .char) ({ frames := 4, cells := 0, slots := 0, locals := 53 } : Room) [] #[(.ref a1), (.int (0 : Int32))] h0 (fun v h L => v = some (.int (LCH y0)) ∧ h = h0 ∧ L = []) := by
  refine Con.of (plainFor_of_name pn_java_lang_String) #[.val (.ref a1), .val (.int (0 : Int32))] (fun m => efcl1_0 m a1 (0 : Int32)) ?_
  intro p e s m below meth c s₁ K hx hby hml hown hnm hret hlk hZ X0 e0
  have N0 := Fr.nil n0
  refine mAN K X0.here hx hby dj42_56_0 rfl rfl rfl ?_
  refine k_callV K X0 hx hby hZ a1 [] [] hown (W hw 87 rfl) (W hw 88 rfl) (notFace_of_selects (args := #[]) (mvT hZ (W hw 90 rfl))) (W hw 90 rfl) (W hw 89 rfl) (W hw 12 rfl) (W hw 91 rfl) (cil0 l Z a0 hw a1 cz vf h0 n0 Z0 F_coder_a1 O0 SS) e0 E_a1 rfl rfl pd_6 rfl dj42_56_1 (by rw [hml]; rfl) rfl (by decide) (by decide) (LB rfl) (by decide) (by decide) fun v1 T1 L1 X1 q1 => ?_
  obtain ⟨rfl, e1, rfl⟩ := q1
  replace X1 := own_px X1
  refine k_some K (w := (.int (1 : Int32))) ?_
  refine m_ifN K X1.here hx hby (q := 7) dj42_56_4 ((if0 _ _).trans (feq (by decide : ¬ ((1 : Int32) = (0 : Int32)))).1) rfl ?_
  refine mAN K X1.here hx hby dj42_56_7 rfl rfl rfl ?_
  refine k_getF K X1 hx hby hZ hown (host := "") (Or.inl (W hw 30 rfl)) Via.refl e1 F_value_a1 dj42_56_8 rfl fun T2 X2 e2 => ?_
  refine mIN K X2.here hx hby dj42_56_11 rfl rfl ?_
  refine k_callS K X2 hx hby hZ [(.ref a2), (.int (0 : Int32))] [] hown (W hw 92 rfl) (W hw 93 rfl) (W hw 94 rfl) (W hw 95 rfl) (clc1_0 l Z a0 hw a2 cz vf y0 h0 n0 Z0 A_a2 O0 SS) e2 rfl rfl pd_5 rfl dj42_56_12 (by rw [hml]; rfl) rfl (by decide) (by decide) (LB rfl) (by decide) (by decide) fun v3 T3 L3 X3 q3 => ?_
  obtain ⟨rfl, e3, rfl⟩ := q3
  replace X3 := own_px X3
  refine k_some K (w := (.int (LCH y0))) ?_
  exact Go.retN X3 hx hby hlk hret (by simp) dj42_56_15 (by decide) (by decide) (own_nc _) (⟨rfl, e3, rfl⟩)
theorem efll2 (m : MethodId) (x0 : Addr) : entryFrame m #[(.ref x0)] 1 = mkF m 0 #[.val (.ref x0)] [] := by first | (simp [entryFrame, mkF, argsToLocals, Value.category]; done) | rfl
theorem cll2 (l : Launch) (Z : State) (a0 : Array Value) (hw : ∀ d ∈ tables_1, d.before a0 Z = true) (a1 : Addr) (cz : Int32) (vf : Value) (a2 : Addr) (y0 y1 : Int32) (h0 : Heap) (n0 : Nat) (Z0 : n0 ≤ h0.size) (E_a1 : Exa Z h0 a1 "java/lang/String") (F_value_a1 : Fld Z h0 a1 "java/lang/String" "value" "[B" (.ref a2)) (F_coder_a1 : Fld Z h0 a1 "java/lang/String" "coder" "B" (.int (0 : Int32))) (A_a2 : Av Z h0 a2 .byte [(.int y0), (.int y1)]) (O0 : Old Z n0 h0) (SS : SSt Z cz vf) :
    Con l Z (⟨"java/lang/String", "length", "()I"⟩ : MethodName) jdk_42_method_54_code 1 (some .int) ({ frames := 1, cells := 0, slots := 0, locals := 13 } : Room) [] #[(.ref a1)] h0 (fun v h L => v = some (.int (2 : Int32)) ∧ h = h0 ∧ L = []) := by
  refine Con.of (plainFor_of_name pn_java_lang_String) #[.val (.ref a1)] (fun m => efll2 m a1) ?_
  intro p e s m below meth c s₁ K hx hby hml hown hnm hret hlk hZ X0 e0
  have N0 := Fr.nil n0
  refine mAN K X0.here hx hby dj42_54_0 rfl rfl rfl ?_
  refine k_getF K X0 hx hby hZ hown (host := "") (Or.inl (W hw 30 rfl)) Via.refl e0 F_value_a1 dj42_54_1 rfl fun T1 X1 e1 => ?_
  refine k_len K X1 hx hby hZ (2 : Int32) e1 A_a2 rfl dj42_54_4 rfl ?_
  refine mAN K X1.here hx hby dj42_54_5 rfl rfl rfl ?_
  refine k_callV K X1 hx hby hZ a1 [] [(.int (2 : Int32))] hown (W hw 41 rfl) (W hw 42 rfl) (notFace_of_selects (args := #[]) (mvT hZ (W hw 44 rfl))) (W hw 44 rfl) (W hw 43 rfl) (W hw 12 rfl) (W hw 45 rfl) (cco0 l Z a0 hw a1 cz vf h0 n0 Z0 F_coder_a1 O0 SS) e1 E_a1 rfl rfl pd_9 rfl dj42_54_6 (by rw [hml]; rfl) rfl (by decide) (by decide) (LB rfl) (by decide) (by decide) fun v2 T2 L2 X2 q2 => ?_
  obtain ⟨rfl, e2, rfl⟩ := q2
  replace X2 := own_px X2
  refine k_some K (w := (.int (0 : Int32))) ?_
  refine m_ishr K X2.here hx hby (2 : Int32) dj42_54_9 rfl rfl ?_
  exact Go.retI X2 hx hby hlk hret dj42_54_10 (by decide) (by decide) (⟨rfl, e2, rfl⟩)
def wlc2_0_1 (y0 : Int32) : Int32 := ((y0 &&& (255 : Int32)).toUInt32.toUInt16.toUInt32.toInt32)
theorem eflc2_0 (m : MethodId) (x0 : Addr) (x1 : Int32) : entryFrame m #[(.ref x0), (.int x1)] 2 = mkF m 0 #[.val (.ref x0), .val (.int x1)] [] := by first | (simp [entryFrame, mkF, argsToLocals, Value.category]; done) | rfl
theorem clc2_0 (l : Launch) (Z : State) (a0 : Array Value) (hw : ∀ d ∈ tables_1, d.before a0 Z = true) (a1 : Addr) (cz : Int32) (vf : Value) (y0 y1 : Int32) (h0 : Heap) (n0 : Nat) (Z0 : n0 ≤ h0.size) (A_a1 : Av Z h0 a1 .byte [(.int y0), (.int y1)]) (O0 : Old Z n0 h0) (SS : SSt Z cz vf) :
    Con l Z (⟨"java/lang/StringLatin1", "charAt", "([BI)C"⟩ : MethodName) jdk_43_method_2_code 2 (some .char) ({ frames := 2, cells := 0, slots := 0, locals := 27 } : Room) [] #[(.ref a1), (.int (0 : Int32))] h0 (fun v h L => v = some (.int (LCH y0)) ∧ h = h0 ∧ L = []) := by
  refine Con.of (plainFor_of_name pn_java_lang_StringLatin1) #[.val (.ref a1), .val (.int (0 : Int32))] (fun m => eflc2_0 m a1 (0 : Int32)) ?_
  intro p e s m below meth c s₁ K hx hby hml hown hnm hret hlk hZ X0 e0
  have N0 := Fr.nil n0
  refine mIN K X0.here hx hby dj43_2_0 rfl rfl ?_
  refine mAN K X0.here hx hby dj43_2_1 rfl rfl rfl ?_
  refine k_len K X0 hx hby hZ (2 : Int32) e0 A_a1 rfl dj43_2_2 rfl ?_
  refine k_callS K X0 hx hby hZ [(.int (0 : Int32)), (.int (2 : Int32))] [] hown (W hw 96 rfl) (W hw 97 rfl) (W hw 12 rfl) (W hw 98 rfl) (cck l Z a0 hw (0 : Int32) (2 : Int32) cz vf h0 n0 Z0 O0 SS (by first | decide | omega) (by first | decide | omega)) e0 rfl rfl pd_3 rfl dj43_2_3 (by rw [hml]; rfl) rfl (by decide) (by decide) (LB rfl) (by decide) (by decide) fun v1 T1 L1 X1 q1 => ?_
  obtain ⟨rfl, e1, rfl⟩ := q1
  replace X1 := own_px X1
  refine k_none K ?_
  refine mAN K X1.here hx hby dj43_2_6 rfl rfl rfl ?_
  refine mIN K X1.here hx hby dj43_2_7 rfl rfl ?_
  refine k_ldB K X1 hx hby hZ e1 A_a1 (v := (.int y0)) (by decide) rfl dj43_2_8 rfl ?_
  refine mP K X1.here hx hby (255 : Int32) dj43_2_9 rfl rfl ?_
  refine m_iand K X1.here hx hby (y0 &&& (255 : Int32)) dj43_2_12 rfl rfl ?_
  refine m_i2c K X1.here hx hby (wlc2_0_1 y0) dj43_2_13 rfl rfl ?_
  exact Go.retN X1 hx hby hlk hret (by simp) dj43_2_14 (by decide) (by decide) (own_nc _) (⟨rfl, e1, rfl⟩)
theorem efcl2_0 (m : MethodId) (x0 : Addr) (x1 : Int32) : entryFrame m #[(.ref x0), (.int x1)] 2 = mkF m 0 #[.val (.ref x0), .val (.int x1)] [] := by first | (simp [entryFrame, mkF, argsToLocals, Value.category]; done) | rfl
theorem ccl2_0 (l : Launch) (Z : State) (a0 : Array Value) (hw : ∀ d ∈ tables_1, d.before a0 Z = true) (a1 : Addr) (cz : Int32) (vf : Value) (a2 : Addr) (y0 y1 : Int32) (h0 : Heap) (n0 : Nat) (Z0 : n0 ≤ h0.size) (E_a1 : Exa Z h0 a1 "java/lang/String") (F_value_a1 : Fld Z h0 a1 "java/lang/String" "value" "[B" (.ref a2)) (F_coder_a1 : Fld Z h0 a1 "java/lang/String" "coder" "B" (.int (0 : Int32))) (A_a2 : Av Z h0 a2 .byte [(.int y0), (.int y1)]) (O0 : Old Z n0 h0) (SS : SSt Z cz vf) :
    Con l Z (⟨"java/lang/String", "charAt", "(I)C"⟩ : MethodName) jdk_42_method_56_code 2 (some .char) ({ frames := 4, cells := 0, slots := 0, locals := 53 } : Room) [] #[(.ref a1), (.int (0 : Int32))] h0 (fun v h L => v = some (.int (LCH y0)) ∧ h = h0 ∧ L = []) := by
  refine Con.of (plainFor_of_name pn_java_lang_String) #[.val (.ref a1), .val (.int (0 : Int32))] (fun m => efcl2_0 m a1 (0 : Int32)) ?_
  intro p e s m below meth c s₁ K hx hby hml hown hnm hret hlk hZ X0 e0
  have N0 := Fr.nil n0
  refine mAN K X0.here hx hby dj42_56_0 rfl rfl rfl ?_
  refine k_callV K X0 hx hby hZ a1 [] [] hown (W hw 87 rfl) (W hw 88 rfl) (notFace_of_selects (args := #[]) (mvT hZ (W hw 90 rfl))) (W hw 90 rfl) (W hw 89 rfl) (W hw 12 rfl) (W hw 91 rfl) (cil0 l Z a0 hw a1 cz vf h0 n0 Z0 F_coder_a1 O0 SS) e0 E_a1 rfl rfl pd_6 rfl dj42_56_1 (by rw [hml]; rfl) rfl (by decide) (by decide) (LB rfl) (by decide) (by decide) fun v1 T1 L1 X1 q1 => ?_
  obtain ⟨rfl, e1, rfl⟩ := q1
  replace X1 := own_px X1
  refine k_some K (w := (.int (1 : Int32))) ?_
  refine m_ifN K X1.here hx hby (q := 7) dj42_56_4 ((if0 _ _).trans (feq (by decide : ¬ ((1 : Int32) = (0 : Int32)))).1) rfl ?_
  refine mAN K X1.here hx hby dj42_56_7 rfl rfl rfl ?_
  refine k_getF K X1 hx hby hZ hown (host := "") (Or.inl (W hw 30 rfl)) Via.refl e1 F_value_a1 dj42_56_8 rfl fun T2 X2 e2 => ?_
  refine mIN K X2.here hx hby dj42_56_11 rfl rfl ?_
  refine k_callS K X2 hx hby hZ [(.ref a2), (.int (0 : Int32))] [] hown (W hw 92 rfl) (W hw 93 rfl) (W hw 94 rfl) (W hw 95 rfl) (clc2_0 l Z a0 hw a2 cz vf y0 y1 h0 n0 Z0 A_a2 O0 SS) e2 rfl rfl pd_5 rfl dj42_56_12 (by rw [hml]; rfl) rfl (by decide) (by decide) (LB rfl) (by decide) (by decide) fun v3 T3 L3 X3 q3 => ?_
  obtain ⟨rfl, e3, rfl⟩ := q3
  replace X3 := own_px X3
  refine k_some K (w := (.int (LCH y0))) ?_
  exact Go.retN X3 hx hby hlk hret (by simp) dj42_56_15 (by decide) (by decide) (own_nc _) (⟨rfl, e3, rfl⟩)
def wlc2_1_1 (y1 : Int32) : Int32 := ((y1 &&& (255 : Int32)).toUInt32.toUInt16.toUInt32.toInt32)
theorem eflc2_1 (m : MethodId) (x0 : Addr) (x1 : Int32) : entryFrame m #[(.ref x0), (.int x1)] 2 = mkF m 0 #[.val (.ref x0), .val (.int x1)] [] := by first | (simp [entryFrame, mkF, argsToLocals, Value.category]; done) | rfl
theorem clc2_1 (l : Launch) (Z : State) (a0 : Array Value) (hw : ∀ d ∈ tables_1, d.before a0 Z = true) (a1 : Addr) (cz : Int32) (vf : Value) (y0 y1 : Int32) (h0 : Heap) (n0 : Nat) (Z0 : n0 ≤ h0.size) (A_a1 : Av Z h0 a1 .byte [(.int y0), (.int y1)]) (O0 : Old Z n0 h0) (SS : SSt Z cz vf) :
    Con l Z (⟨"java/lang/StringLatin1", "charAt", "([BI)C"⟩ : MethodName) jdk_43_method_2_code 2 (some .char) ({ frames := 2, cells := 0, slots := 0, locals := 27 } : Room) [] #[(.ref a1), (.int (1 : Int32))] h0 (fun v h L => v = some (.int (LCH y1)) ∧ h = h0 ∧ L = []) := by
  refine Con.of (plainFor_of_name pn_java_lang_StringLatin1) #[.val (.ref a1), .val (.int (1 : Int32))] (fun m => eflc2_1 m a1 (1 : Int32)) ?_
  intro p e s m below meth c s₁ K hx hby hml hown hnm hret hlk hZ X0 e0
  have N0 := Fr.nil n0
  refine mIN K X0.here hx hby dj43_2_0 rfl rfl ?_
  refine mAN K X0.here hx hby dj43_2_1 rfl rfl rfl ?_
  refine k_len K X0 hx hby hZ (2 : Int32) e0 A_a1 rfl dj43_2_2 rfl ?_
  refine k_callS K X0 hx hby hZ [(.int (1 : Int32)), (.int (2 : Int32))] [] hown (W hw 96 rfl) (W hw 97 rfl) (W hw 12 rfl) (W hw 98 rfl) (cck l Z a0 hw (1 : Int32) (2 : Int32) cz vf h0 n0 Z0 O0 SS (by first | decide | omega) (by first | decide | omega)) e0 rfl rfl pd_3 rfl dj43_2_3 (by rw [hml]; rfl) rfl (by decide) (by decide) (LB rfl) (by decide) (by decide) fun v1 T1 L1 X1 q1 => ?_
  obtain ⟨rfl, e1, rfl⟩ := q1
  replace X1 := own_px X1
  refine k_none K ?_
  refine mAN K X1.here hx hby dj43_2_6 rfl rfl rfl ?_
  refine mIN K X1.here hx hby dj43_2_7 rfl rfl ?_
  refine k_ldB K X1 hx hby hZ e1 A_a1 (v := (.int y1)) (by decide) rfl dj43_2_8 rfl ?_
  refine mP K X1.here hx hby (255 : Int32) dj43_2_9 rfl rfl ?_
  refine m_iand K X1.here hx hby (y1 &&& (255 : Int32)) dj43_2_12 rfl rfl ?_
  refine m_i2c K X1.here hx hby (wlc2_1_1 y1) dj43_2_13 rfl rfl ?_
  exact Go.retN X1 hx hby hlk hret (by simp) dj43_2_14 (by decide) (by decide) (own_nc _) (⟨rfl, e1, rfl⟩)
theorem efcl2_1 (m : MethodId) (x0 : Addr) (x1 : Int32) : entryFrame m #[(.ref x0), (.int x1)] 2 = mkF m 0 #[.val (.ref x0), .val (.int x1)] [] := by first | (simp [entryFrame, mkF, argsToLocals, Value.category]; done) | rfl
theorem ccl2_1 (l : Launch) (Z : State) (a0 : Array Value) (hw : ∀ d ∈ tables_1, d.before a0 Z = true) (a1 : Addr) (cz : Int32) (vf : Value) (a2 : Addr) (y0 y1 : Int32) (h0 : Heap) (n0 : Nat) (Z0 : n0 ≤ h0.size) (E_a1 : Exa Z h0 a1 "java/lang/String") (F_value_a1 : Fld Z h0 a1 "java/lang/String" "value" "[B" (.ref a2)) (F_coder_a1 : Fld Z h0 a1 "java/lang/String" "coder" "B" (.int (0 : Int32))) (A_a2 : Av Z h0 a2 .byte [(.int y0), (.int y1)]) (O0 : Old Z n0 h0) (SS : SSt Z cz vf) :
    Con l Z (⟨"java/lang/String", "charAt", "(I)C"⟩ : MethodName) jdk_42_method_56_code 2 (some .char) ({ frames := 4, cells := 0, slots := 0, locals := 53 } : Room) [] #[(.ref a1), (.int (1 : Int32))] h0 (fun v h L => v = some (.int (LCH y1)) ∧ h = h0 ∧ L = []) := by
  refine Con.of (plainFor_of_name pn_java_lang_String) #[.val (.ref a1), .val (.int (1 : Int32))] (fun m => efcl2_1 m a1 (1 : Int32)) ?_
  intro p e s m below meth c s₁ K hx hby hml hown hnm hret hlk hZ X0 e0
  have N0 := Fr.nil n0
  refine mAN K X0.here hx hby dj42_56_0 rfl rfl rfl ?_
  refine k_callV K X0 hx hby hZ a1 [] [] hown (W hw 87 rfl) (W hw 88 rfl) (notFace_of_selects (args := #[]) (mvT hZ (W hw 90 rfl))) (W hw 90 rfl) (W hw 89 rfl) (W hw 12 rfl) (W hw 91 rfl) (cil0 l Z a0 hw a1 cz vf h0 n0 Z0 F_coder_a1 O0 SS) e0 E_a1 rfl rfl pd_6 rfl dj42_56_1 (by rw [hml]; rfl) rfl (by decide) (by decide) (LB rfl) (by decide) (by decide) fun v1 T1 L1 X1 q1 => ?_
  obtain ⟨rfl, e1, rfl⟩ := q1
  replace X1 := own_px X1
  refine k_some K (w := (.int (1 : Int32))) ?_
  refine m_ifN K X1.here hx hby (q := 7) dj42_56_4 ((if0 _ _).trans (feq (by decide : ¬ ((1 : Int32) = (0 : Int32)))).1) rfl ?_
  refine mAN K X1.here hx hby dj42_56_7 rfl rfl rfl ?_
  refine k_getF K X1 hx hby hZ hown (host := "") (Or.inl (W hw 30 rfl)) Via.refl e1 F_value_a1 dj42_56_8 rfl fun T2 X2 e2 => ?_
  refine mIN K X2.here hx hby dj42_56_11 rfl rfl ?_
  refine k_callS K X2 hx hby hZ [(.ref a2), (.int (1 : Int32))] [] hown (W hw 92 rfl) (W hw 93 rfl) (W hw 94 rfl) (W hw 95 rfl) (clc2_1 l Z a0 hw a2 cz vf y0 y1 h0 n0 Z0 A_a2 O0 SS) e2 rfl rfl pd_5 rfl dj42_56_12 (by rw [hml]; rfl) rfl (by decide) (by decide) (LB rfl) (by decide) (by decide) fun v3 T3 L3 X3 q3 => ?_
  obtain ⟨rfl, e3, rfl⟩ := q3
  replace X3 := own_px X3
  refine k_some K (w := (.int (LCH y1))) ?_
  exact Go.retN X3 hx hby hlk hret (by simp) dj42_56_15 (by decide) (by decide) (own_nc _) (⟨rfl, e3, rfl⟩)
theorem efll3 (m : MethodId) (x0 : Addr) : entryFrame m #[(.ref x0)] 1 = mkF m 0 #[.val (.ref x0)] [] := by first | (simp [entryFrame, mkF, argsToLocals, Value.category]; done) | rfl
theorem cll3 (l : Launch) (Z : State) (a0 : Array Value) (hw : ∀ d ∈ tables_1, d.before a0 Z = true) (a1 : Addr) (cz : Int32) (vf : Value) (a2 : Addr) (y0 y1 y2 : Int32) (h0 : Heap) (n0 : Nat) (Z0 : n0 ≤ h0.size) (E_a1 : Exa Z h0 a1 "java/lang/String") (F_value_a1 : Fld Z h0 a1 "java/lang/String" "value" "[B" (.ref a2)) (F_coder_a1 : Fld Z h0 a1 "java/lang/String" "coder" "B" (.int (0 : Int32))) (A_a2 : Av Z h0 a2 .byte [(.int y0), (.int y1), (.int y2)]) (O0 : Old Z n0 h0) (SS : SSt Z cz vf) :
    Con l Z (⟨"java/lang/String", "length", "()I"⟩ : MethodName) jdk_42_method_54_code 1 (some .int) ({ frames := 1, cells := 0, slots := 0, locals := 13 } : Room) [] #[(.ref a1)] h0 (fun v h L => v = some (.int (3 : Int32)) ∧ h = h0 ∧ L = []) := by
  refine Con.of (plainFor_of_name pn_java_lang_String) #[.val (.ref a1)] (fun m => efll3 m a1) ?_
  intro p e s m below meth c s₁ K hx hby hml hown hnm hret hlk hZ X0 e0
  have N0 := Fr.nil n0
  refine mAN K X0.here hx hby dj42_54_0 rfl rfl rfl ?_
  refine k_getF K X0 hx hby hZ hown (host := "") (Or.inl (W hw 30 rfl)) Via.refl e0 F_value_a1 dj42_54_1 rfl fun T1 X1 e1 => ?_
  refine k_len K X1 hx hby hZ (3 : Int32) e1 A_a2 rfl dj42_54_4 rfl ?_
  refine mAN K X1.here hx hby dj42_54_5 rfl rfl rfl ?_
  refine k_callV K X1 hx hby hZ a1 [] [(.int (3 : Int32))] hown (W hw 41 rfl) (W hw 42 rfl) (notFace_of_selects (args := #[]) (mvT hZ (W hw 44 rfl))) (W hw 44 rfl) (W hw 43 rfl) (W hw 12 rfl) (W hw 45 rfl) (cco0 l Z a0 hw a1 cz vf h0 n0 Z0 F_coder_a1 O0 SS) e1 E_a1 rfl rfl pd_9 rfl dj42_54_6 (by rw [hml]; rfl) rfl (by decide) (by decide) (LB rfl) (by decide) (by decide) fun v2 T2 L2 X2 q2 => ?_
  obtain ⟨rfl, e2, rfl⟩ := q2
  replace X2 := own_px X2
  refine k_some K (w := (.int (0 : Int32))) ?_
  refine m_ishr K X2.here hx hby (3 : Int32) dj42_54_9 rfl rfl ?_
  exact Go.retI X2 hx hby hlk hret dj42_54_10 (by decide) (by decide) (⟨rfl, e2, rfl⟩)
def wlc3_0_1 (y0 : Int32) : Int32 := ((y0 &&& (255 : Int32)).toUInt32.toUInt16.toUInt32.toInt32)
theorem eflc3_0 (m : MethodId) (x0 : Addr) (x1 : Int32) : entryFrame m #[(.ref x0), (.int x1)] 2 = mkF m 0 #[.val (.ref x0), .val (.int x1)] [] := by first | (simp [entryFrame, mkF, argsToLocals, Value.category]; done) | rfl
theorem clc3_0 (l : Launch) (Z : State) (a0 : Array Value) (hw : ∀ d ∈ tables_1, d.before a0 Z = true) (a1 : Addr) (cz : Int32) (vf : Value) (y0 y1 y2 : Int32) (h0 : Heap) (n0 : Nat) (Z0 : n0 ≤ h0.size) (A_a1 : Av Z h0 a1 .byte [(.int y0), (.int y1), (.int y2)]) (O0 : Old Z n0 h0) (SS : SSt Z cz vf) :
    Con l Z (⟨"java/lang/StringLatin1", "charAt", "([BI)C"⟩ : MethodName) jdk_43_method_2_code 2 (some .char) ({ frames := 2, cells := 0, slots := 0, locals := 27 } : Room) [] #[(.ref a1), (.int (0 : Int32))] h0 (fun v h L => v = some (.int (LCH y0)) ∧ h = h0 ∧ L = []) := by
  refine Con.of (plainFor_of_name pn_java_lang_StringLatin1) #[.val (.ref a1), .val (.int (0 : Int32))] (fun m => eflc3_0 m a1 (0 : Int32)) ?_
  intro p e s m below meth c s₁ K hx hby hml hown hnm hret hlk hZ X0 e0
  have N0 := Fr.nil n0
  refine mIN K X0.here hx hby dj43_2_0 rfl rfl ?_
  refine mAN K X0.here hx hby dj43_2_1 rfl rfl rfl ?_
  refine k_len K X0 hx hby hZ (3 : Int32) e0 A_a1 rfl dj43_2_2 rfl ?_
  refine k_callS K X0 hx hby hZ [(.int (0 : Int32)), (.int (3 : Int32))] [] hown (W hw 96 rfl) (W hw 97 rfl) (W hw 12 rfl) (W hw 98 rfl) (cck l Z a0 hw (0 : Int32) (3 : Int32) cz vf h0 n0 Z0 O0 SS (by first | decide | omega) (by first | decide | omega)) e0 rfl rfl pd_3 rfl dj43_2_3 (by rw [hml]; rfl) rfl (by decide) (by decide) (LB rfl) (by decide) (by decide) fun v1 T1 L1 X1 q1 => ?_
  obtain ⟨rfl, e1, rfl⟩ := q1
  replace X1 := own_px X1
  refine k_none K ?_
  refine mAN K X1.here hx hby dj43_2_6 rfl rfl rfl ?_
  refine mIN K X1.here hx hby dj43_2_7 rfl rfl ?_
  refine k_ldB K X1 hx hby hZ e1 A_a1 (v := (.int y0)) (by decide) rfl dj43_2_8 rfl ?_
  refine mP K X1.here hx hby (255 : Int32) dj43_2_9 rfl rfl ?_
  refine m_iand K X1.here hx hby (y0 &&& (255 : Int32)) dj43_2_12 rfl rfl ?_
  refine m_i2c K X1.here hx hby (wlc3_0_1 y0) dj43_2_13 rfl rfl ?_
  exact Go.retN X1 hx hby hlk hret (by simp) dj43_2_14 (by decide) (by decide) (own_nc _) (⟨rfl, e1, rfl⟩)
theorem efcl3_0 (m : MethodId) (x0 : Addr) (x1 : Int32) : entryFrame m #[(.ref x0), (.int x1)] 2 = mkF m 0 #[.val (.ref x0), .val (.int x1)] [] := by first | (simp [entryFrame, mkF, argsToLocals, Value.category]; done) | rfl
theorem ccl3_0 (l : Launch) (Z : State) (a0 : Array Value) (hw : ∀ d ∈ tables_1, d.before a0 Z = true) (a1 : Addr) (cz : Int32) (vf : Value) (a2 : Addr) (y0 y1 y2 : Int32) (h0 : Heap) (n0 : Nat) (Z0 : n0 ≤ h0.size) (E_a1 : Exa Z h0 a1 "java/lang/String") (F_value_a1 : Fld Z h0 a1 "java/lang/String" "value" "[B" (.ref a2)) (F_coder_a1 : Fld Z h0 a1 "java/lang/String" "coder" "B" (.int (0 : Int32))) (A_a2 : Av Z h0 a2 .byte [(.int y0), (.int y1), (.int y2)]) (O0 : Old Z n0 h0) (SS : SSt Z cz vf) :
    Con l Z (⟨"java/lang/String", "charAt", "(I)C"⟩ : MethodName) jdk_42_method_56_code 2 (some .char) ({ frames := 4, cells := 0, slots := 0, locals := 53 } : Room) [] #[(.ref a1), (.int (0 : Int32))] h0 (fun v h L => v = some (.int (LCH y0)) ∧ h = h0 ∧ L = []) := by
  refine Con.of (plainFor_of_name pn_java_lang_String) #[.val (.ref a1), .val (.int (0 : Int32))] (fun m => efcl3_0 m a1 (0 : Int32)) ?_
  intro p e s m below meth c s₁ K hx hby hml hown hnm hret hlk hZ X0 e0
  have N0 := Fr.nil n0
  refine mAN K X0.here hx hby dj42_56_0 rfl rfl rfl ?_
  refine k_callV K X0 hx hby hZ a1 [] [] hown (W hw 87 rfl) (W hw 88 rfl) (notFace_of_selects (args := #[]) (mvT hZ (W hw 90 rfl))) (W hw 90 rfl) (W hw 89 rfl) (W hw 12 rfl) (W hw 91 rfl) (cil0 l Z a0 hw a1 cz vf h0 n0 Z0 F_coder_a1 O0 SS) e0 E_a1 rfl rfl pd_6 rfl dj42_56_1 (by rw [hml]; rfl) rfl (by decide) (by decide) (LB rfl) (by decide) (by decide) fun v1 T1 L1 X1 q1 => ?_
  obtain ⟨rfl, e1, rfl⟩ := q1
  replace X1 := own_px X1
  refine k_some K (w := (.int (1 : Int32))) ?_
  refine m_ifN K X1.here hx hby (q := 7) dj42_56_4 ((if0 _ _).trans (feq (by decide : ¬ ((1 : Int32) = (0 : Int32)))).1) rfl ?_
  refine mAN K X1.here hx hby dj42_56_7 rfl rfl rfl ?_
  refine k_getF K X1 hx hby hZ hown (host := "") (Or.inl (W hw 30 rfl)) Via.refl e1 F_value_a1 dj42_56_8 rfl fun T2 X2 e2 => ?_
  refine mIN K X2.here hx hby dj42_56_11 rfl rfl ?_
  refine k_callS K X2 hx hby hZ [(.ref a2), (.int (0 : Int32))] [] hown (W hw 92 rfl) (W hw 93 rfl) (W hw 94 rfl) (W hw 95 rfl) (clc3_0 l Z a0 hw a2 cz vf y0 y1 y2 h0 n0 Z0 A_a2 O0 SS) e2 rfl rfl pd_5 rfl dj42_56_12 (by rw [hml]; rfl) rfl (by decide) (by decide) (LB rfl) (by decide) (by decide) fun v3 T3 L3 X3 q3 => ?_
  obtain ⟨rfl, e3, rfl⟩ := q3
  replace X3 := own_px X3
  refine k_some K (w := (.int (LCH y0))) ?_
  exact Go.retN X3 hx hby hlk hret (by simp) dj42_56_15 (by decide) (by decide) (own_nc _) (⟨rfl, e3, rfl⟩)
def wlc3_1_1 (y1 : Int32) : Int32 := ((y1 &&& (255 : Int32)).toUInt32.toUInt16.toUInt32.toInt32)
theorem eflc3_1 (m : MethodId) (x0 : Addr) (x1 : Int32) : entryFrame m #[(.ref x0), (.int x1)] 2 = mkF m 0 #[.val (.ref x0), .val (.int x1)] [] := by first | (simp [entryFrame, mkF, argsToLocals, Value.category]; done) | rfl
theorem clc3_1 (l : Launch) (Z : State) (a0 : Array Value) (hw : ∀ d ∈ tables_1, d.before a0 Z = true) (a1 : Addr) (cz : Int32) (vf : Value) (y0 y1 y2 : Int32) (h0 : Heap) (n0 : Nat) (Z0 : n0 ≤ h0.size) (A_a1 : Av Z h0 a1 .byte [(.int y0), (.int y1), (.int y2)]) (O0 : Old Z n0 h0) (SS : SSt Z cz vf) :
    Con l Z (⟨"java/lang/StringLatin1", "charAt", "([BI)C"⟩ : MethodName) jdk_43_method_2_code 2 (some .char) ({ frames := 2, cells := 0, slots := 0, locals := 27 } : Room) [] #[(.ref a1), (.int (1 : Int32))] h0 (fun v h L => v = some (.int (LCH y1)) ∧ h = h0 ∧ L = []) := by
  refine Con.of (plainFor_of_name pn_java_lang_StringLatin1) #[.val (.ref a1), .val (.int (1 : Int32))] (fun m => eflc3_1 m a1 (1 : Int32)) ?_
  intro p e s m below meth c s₁ K hx hby hml hown hnm hret hlk hZ X0 e0
  have N0 := Fr.nil n0
  refine mIN K X0.here hx hby dj43_2_0 rfl rfl ?_
  refine mAN K X0.here hx hby dj43_2_1 rfl rfl rfl ?_
  refine k_len K X0 hx hby hZ (3 : Int32) e0 A_a1 rfl dj43_2_2 rfl ?_
  refine k_callS K X0 hx hby hZ [(.int (1 : Int32)), (.int (3 : Int32))] [] hown (W hw 96 rfl) (W hw 97 rfl) (W hw 12 rfl) (W hw 98 rfl) (cck l Z a0 hw (1 : Int32) (3 : Int32) cz vf h0 n0 Z0 O0 SS (by first | decide | omega) (by first | decide | omega)) e0 rfl rfl pd_3 rfl dj43_2_3 (by rw [hml]; rfl) rfl (by decide) (by decide) (LB rfl) (by decide) (by decide) fun v1 T1 L1 X1 q1 => ?_
  obtain ⟨rfl, e1, rfl⟩ := q1
  replace X1 := own_px X1
  refine k_none K ?_
  refine mAN K X1.here hx hby dj43_2_6 rfl rfl rfl ?_
  refine mIN K X1.here hx hby dj43_2_7 rfl rfl ?_
  refine k_ldB K X1 hx hby hZ e1 A_a1 (v := (.int y1)) (by decide) rfl dj43_2_8 rfl ?_
  refine mP K X1.here hx hby (255 : Int32) dj43_2_9 rfl rfl ?_
  refine m_iand K X1.here hx hby (y1 &&& (255 : Int32)) dj43_2_12 rfl rfl ?_
  refine m_i2c K X1.here hx hby (wlc3_1_1 y1) dj43_2_13 rfl rfl ?_
  exact Go.retN X1 hx hby hlk hret (by simp) dj43_2_14 (by decide) (by decide) (own_nc _) (⟨rfl, e1, rfl⟩)
theorem efcl3_1 (m : MethodId) (x0 : Addr) (x1 : Int32) : entryFrame m #[(.ref x0), (.int x1)] 2 = mkF m 0 #[.val (.ref x0), .val (.int x1)] [] := by first | (simp [entryFrame, mkF, argsToLocals, Value.category]; done) | rfl
theorem ccl3_1 (l : Launch) (Z : State) (a0 : Array Value) (hw : ∀ d ∈ tables_1, d.before a0 Z = true) (a1 : Addr) (cz : Int32) (vf : Value) (a2 : Addr) (y0 y1 y2 : Int32) (h0 : Heap) (n0 : Nat) (Z0 : n0 ≤ h0.size) (E_a1 : Exa Z h0 a1 "java/lang/String") (F_value_a1 : Fld Z h0 a1 "java/lang/String" "value" "[B" (.ref a2)) (F_coder_a1 : Fld Z h0 a1 "java/lang/String" "coder" "B" (.int (0 : Int32))) (A_a2 : Av Z h0 a2 .byte [(.int y0), (.int y1), (.int y2)]) (O0 : Old Z n0 h0) (SS : SSt Z cz vf) :
    Con l Z (⟨"java/lang/String", "charAt", "(I)C"⟩ : MethodName) jdk_42_method_56_code 2 (some .char) ({ frames := 4, cells := 0, slots := 0, locals := 53 } : Room) [] #[(.ref a1), (.int (1 : Int32))] h0 (fun v h L => v = some (.int (LCH y1)) ∧ h = h0 ∧ L = []) := by
  refine Con.of (plainFor_of_name pn_java_lang_String) #[.val (.ref a1), .val (.int (1 : Int32))] (fun m => efcl3_1 m a1 (1 : Int32)) ?_
  intro p e s m below meth c s₁ K hx hby hml hown hnm hret hlk hZ X0 e0
  have N0 := Fr.nil n0
  refine mAN K X0.here hx hby dj42_56_0 rfl rfl rfl ?_
  refine k_callV K X0 hx hby hZ a1 [] [] hown (W hw 87 rfl) (W hw 88 rfl) (notFace_of_selects (args := #[]) (mvT hZ (W hw 90 rfl))) (W hw 90 rfl) (W hw 89 rfl) (W hw 12 rfl) (W hw 91 rfl) (cil0 l Z a0 hw a1 cz vf h0 n0 Z0 F_coder_a1 O0 SS) e0 E_a1 rfl rfl pd_6 rfl dj42_56_1 (by rw [hml]; rfl) rfl (by decide) (by decide) (LB rfl) (by decide) (by decide) fun v1 T1 L1 X1 q1 => ?_
  obtain ⟨rfl, e1, rfl⟩ := q1
  replace X1 := own_px X1
  refine k_some K (w := (.int (1 : Int32))) ?_
  refine m_ifN K X1.here hx hby (q := 7) dj42_56_4 ((if0 _ _).trans (feq (by decide : ¬ ((1 : Int32) = (0 : Int32)))).1) rfl ?_
  refine mAN K X1.here hx hby dj42_56_7 rfl rfl rfl ?_
  refine k_getF K X1 hx hby hZ hown (host := "") (Or.inl (W hw 30 rfl)) Via.refl e1 F_value_a1 dj42_56_8 rfl fun T2 X2 e2 => ?_
  refine mIN K X2.here hx hby dj42_56_11 rfl rfl ?_
  refine k_callS K X2 hx hby hZ [(.ref a2), (.int (1 : Int32))] [] hown (W hw 92 rfl) (W hw 93 rfl) (W hw 94 rfl) (W hw 95 rfl) (clc3_1 l Z a0 hw a2 cz vf y0 y1 y2 h0 n0 Z0 A_a2 O0 SS) e2 rfl rfl pd_5 rfl dj42_56_12 (by rw [hml]; rfl) rfl (by decide) (by decide) (LB rfl) (by decide) (by decide) fun v3 T3 L3 X3 q3 => ?_
  obtain ⟨rfl, e3, rfl⟩ := q3
  replace X3 := own_px X3
  refine k_some K (w := (.int (LCH y1))) ?_
  exact Go.retN X3 hx hby hlk hret (by simp) dj42_56_15 (by decide) (by decide) (own_nc _) (⟨rfl, e3, rfl⟩)
def wlc3_2_1 (y2 : Int32) : Int32 := ((y2 &&& (255 : Int32)).toUInt32.toUInt16.toUInt32.toInt32)
theorem eflc3_2 (m : MethodId) (x0 : Addr) (x1 : Int32) : entryFrame m #[(.ref x0), (.int x1)] 2 = mkF m 0 #[.val (.ref x0), .val (.int x1)] [] := by first | (simp [entryFrame, mkF, argsToLocals, Value.category]; done) | rfl
theorem clc3_2 (l : Launch) (Z : State) (a0 : Array Value) (hw : ∀ d ∈ tables_1, d.before a0 Z = true) (a1 : Addr) (cz : Int32) (vf : Value) (y0 y1 y2 : Int32) (h0 : Heap) (n0 : Nat) (Z0 : n0 ≤ h0.size) (A_a1 : Av Z h0 a1 .byte [(.int y0), (.int y1), (.int y2)]) (O0 : Old Z n0 h0) (SS : SSt Z cz vf) :
    Con l Z (⟨"java/lang/StringLatin1", "charAt", "([BI)C"⟩ : MethodName) jdk_43_method_2_code 2 (some .char) ({ frames := 2, cells := 0, slots := 0, locals := 27 } : Room) [] #[(.ref a1), (.int (2 : Int32))] h0 (fun v h L => v = some (.int (LCH y2)) ∧ h = h0 ∧ L = []) := by
  refine Con.of (plainFor_of_name pn_java_lang_StringLatin1) #[.val (.ref a1), .val (.int (2 : Int32))] (fun m => eflc3_2 m a1 (2 : Int32)) ?_
  intro p e s m below meth c s₁ K hx hby hml hown hnm hret hlk hZ X0 e0
  have N0 := Fr.nil n0
  refine mIN K X0.here hx hby dj43_2_0 rfl rfl ?_
  refine mAN K X0.here hx hby dj43_2_1 rfl rfl rfl ?_
  refine k_len K X0 hx hby hZ (3 : Int32) e0 A_a1 rfl dj43_2_2 rfl ?_
  refine k_callS K X0 hx hby hZ [(.int (2 : Int32)), (.int (3 : Int32))] [] hown (W hw 96 rfl) (W hw 97 rfl) (W hw 12 rfl) (W hw 98 rfl) (cck l Z a0 hw (2 : Int32) (3 : Int32) cz vf h0 n0 Z0 O0 SS (by first | decide | omega) (by first | decide | omega)) e0 rfl rfl pd_3 rfl dj43_2_3 (by rw [hml]; rfl) rfl (by decide) (by decide) (LB rfl) (by decide) (by decide) fun v1 T1 L1 X1 q1 => ?_
  obtain ⟨rfl, e1, rfl⟩ := q1
  replace X1 := own_px X1
  refine k_none K ?_
  refine mAN K X1.here hx hby dj43_2_6 rfl rfl rfl ?_
  refine mIN K X1.here hx hby dj43_2_7 rfl rfl ?_
  refine k_ldB K X1 hx hby hZ e1 A_a1 (v := (.int y2)) (by decide) rfl dj43_2_8 rfl ?_
  refine mP K X1.here hx hby (255 : Int32) dj43_2_9 rfl rfl ?_
  refine m_iand K X1.here hx hby (y2 &&& (255 : Int32)) dj43_2_12 rfl rfl ?_
  refine m_i2c K X1.here hx hby (wlc3_2_1 y2) dj43_2_13 rfl rfl ?_
  exact Go.retN X1 hx hby hlk hret (by simp) dj43_2_14 (by decide) (by decide) (own_nc _) (⟨rfl, e1, rfl⟩)
theorem efcl3_2 (m : MethodId) (x0 : Addr) (x1 : Int32) : entryFrame m #[(.ref x0), (.int x1)] 2 = mkF m 0 #[.val (.ref x0), .val (.int x1)] [] := by first | (simp [entryFrame, mkF, argsToLocals, Value.category]; done) | rfl
theorem ccl3_2 (l : Launch) (Z : State) (a0 : Array Value) (hw : ∀ d ∈ tables_1, d.before a0 Z = true) (a1 : Addr) (cz : Int32) (vf : Value) (a2 : Addr) (y0 y1 y2 : Int32) (h0 : Heap) (n0 : Nat) (Z0 : n0 ≤ h0.size) (E_a1 : Exa Z h0 a1 "java/lang/String") (F_value_a1 : Fld Z h0 a1 "java/lang/String" "value" "[B" (.ref a2)) (F_coder_a1 : Fld Z h0 a1 "java/lang/String" "coder" "B" (.int (0 : Int32))) (A_a2 : Av Z h0 a2 .byte [(.int y0), (.int y1), (.int y2)]) (O0 : Old Z n0 h0) (SS : SSt Z cz vf) :
    Con l Z (⟨"java/lang/String", "charAt", "(I)C"⟩ : MethodName) jdk_42_method_56_code 2 (some .char) ({ frames := 4, cells := 0, slots := 0, locals := 53 } : Room) [] #[(.ref a1), (.int (2 : Int32))] h0 (fun v h L => v = some (.int (LCH y2)) ∧ h = h0 ∧ L = []) := by
  refine Con.of (plainFor_of_name pn_java_lang_String) #[.val (.ref a1), .val (.int (2 : Int32))] (fun m => efcl3_2 m a1 (2 : Int32)) ?_
  intro p e s m below meth c s₁ K hx hby hml hown hnm hret hlk hZ X0 e0
  have N0 := Fr.nil n0
  refine mAN K X0.here hx hby dj42_56_0 rfl rfl rfl ?_
  refine k_callV K X0 hx hby hZ a1 [] [] hown (W hw 87 rfl) (W hw 88 rfl) (notFace_of_selects (args := #[]) (mvT hZ (W hw 90 rfl))) (W hw 90 rfl) (W hw 89 rfl) (W hw 12 rfl) (W hw 91 rfl) (cil0 l Z a0 hw a1 cz vf h0 n0 Z0 F_coder_a1 O0 SS) e0 E_a1 rfl rfl pd_6 rfl dj42_56_1 (by rw [hml]; rfl) rfl (by decide) (by decide) (LB rfl) (by decide) (by decide) fun v1 T1 L1 X1 q1 => ?_
  obtain ⟨rfl, e1, rfl⟩ := q1
  replace X1 := own_px X1
  refine k_some K (w := (.int (1 : Int32))) ?_
  refine m_ifN K X1.here hx hby (q := 7) dj42_56_4 ((if0 _ _).trans (feq (by decide : ¬ ((1 : Int32) = (0 : Int32)))).1) rfl ?_
  refine mAN K X1.here hx hby dj42_56_7 rfl rfl rfl ?_
  refine k_getF K X1 hx hby hZ hown (host := "") (Or.inl (W hw 30 rfl)) Via.refl e1 F_value_a1 dj42_56_8 rfl fun T2 X2 e2 => ?_
  refine mIN K X2.here hx hby dj42_56_11 rfl rfl ?_
  refine k_callS K X2 hx hby hZ [(.ref a2), (.int (2 : Int32))] [] hown (W hw 92 rfl) (W hw 93 rfl) (W hw 94 rfl) (W hw 95 rfl) (clc3_2 l Z a0 hw a2 cz vf y0 y1 y2 h0 n0 Z0 A_a2 O0 SS) e2 rfl rfl pd_5 rfl dj42_56_12 (by rw [hml]; rfl) rfl (by decide) (by decide) (LB rfl) (by decide) (by decide) fun v3 T3 L3 X3 q3 => ?_
  obtain ⟨rfl, e3, rfl⟩ := q3
  replace X3 := own_px X3
  refine k_some K (w := (.int (LCH y2))) ?_
  exact Go.retN X3 hx hby hlk hret (by simp) dj42_56_15 (by decide) (by decide) (own_nc _) (⟨rfl, e3, rfl⟩)
theorem efll4 (m : MethodId) (x0 : Addr) : entryFrame m #[(.ref x0)] 1 = mkF m 0 #[.val (.ref x0)] [] := by first | (simp [entryFrame, mkF, argsToLocals, Value.category]; done) | rfl
theorem cll4 (l : Launch) (Z : State) (a0 : Array Value) (hw : ∀ d ∈ tables_1, d.before a0 Z = true) (a1 : Addr) (cz : Int32) (vf : Value) (a2 : Addr) (y0 y1 : Int32) (y2 y3 : Int32) (h0 : Heap) (n0 : Nat) (Z0 : n0 ≤ h0.size) (E_a1 : Exa Z h0 a1 "java/lang/String") (F_value_a1 : Fld Z h0 a1 "java/lang/String" "value" "[B" (.ref a2)) (F_coder_a1 : Fld Z h0 a1 "java/lang/String" "coder" "B" (.int (0 : Int32))) (A_a2 : Av Z h0 a2 .byte [(.int y0), (.int y1), (.int y2), (.int y3)]) (O0 : Old Z n0 h0) (SS : SSt Z cz vf) :
    Con l Z (⟨"java/lang/String", "length", "()I"⟩ : MethodName) jdk_42_method_54_code 1 (some .int) ({ frames := 1, cells := 0, slots := 0, locals := 13 } : Room) [] #[(.ref a1)] h0 (fun v h L => v = some (.int (4 : Int32)) ∧ h = h0 ∧ L = []) := by
  refine Con.of (plainFor_of_name pn_java_lang_String) #[.val (.ref a1)] (fun m => efll4 m a1) ?_
  intro p e s m below meth c s₁ K hx hby hml hown hnm hret hlk hZ X0 e0
  have N0 := Fr.nil n0
  refine mAN K X0.here hx hby dj42_54_0 rfl rfl rfl ?_
  refine k_getF K X0 hx hby hZ hown (host := "") (Or.inl (W hw 30 rfl)) Via.refl e0 F_value_a1 dj42_54_1 rfl fun T1 X1 e1 => ?_
  refine k_len K X1 hx hby hZ (4 : Int32) e1 A_a2 rfl dj42_54_4 rfl ?_
  refine mAN K X1.here hx hby dj42_54_5 rfl rfl rfl ?_
  refine k_callV K X1 hx hby hZ a1 [] [(.int (4 : Int32))] hown (W hw 41 rfl) (W hw 42 rfl) (notFace_of_selects (args := #[]) (mvT hZ (W hw 44 rfl))) (W hw 44 rfl) (W hw 43 rfl) (W hw 12 rfl) (W hw 45 rfl) (cco0 l Z a0 hw a1 cz vf h0 n0 Z0 F_coder_a1 O0 SS) e1 E_a1 rfl rfl pd_9 rfl dj42_54_6 (by rw [hml]; rfl) rfl (by decide) (by decide) (LB rfl) (by decide) (by decide) fun v2 T2 L2 X2 q2 => ?_
  obtain ⟨rfl, e2, rfl⟩ := q2
  replace X2 := own_px X2
  refine k_some K (w := (.int (0 : Int32))) ?_
  refine m_ishr K X2.here hx hby (4 : Int32) dj42_54_9 rfl rfl ?_
  exact Go.retI X2 hx hby hlk hret dj42_54_10 (by decide) (by decide) (⟨rfl, e2, rfl⟩)
def wlc4_0_1 (y0 : Int32) : Int32 := ((y0 &&& (255 : Int32)).toUInt32.toUInt16.toUInt32.toInt32)
theorem eflc4_0 (m : MethodId) (x0 : Addr) (x1 : Int32) : entryFrame m #[(.ref x0), (.int x1)] 2 = mkF m 0 #[.val (.ref x0), .val (.int x1)] [] := by first | (simp [entryFrame, mkF, argsToLocals, Value.category]; done) | rfl
theorem clc4_0 (l : Launch) (Z : State) (a0 : Array Value) (hw : ∀ d ∈ tables_1, d.before a0 Z = true) (a1 : Addr) (cz : Int32) (vf : Value) (y0 y1 : Int32) (y2 y3 : Int32) (h0 : Heap) (n0 : Nat) (Z0 : n0 ≤ h0.size) (A_a1 : Av Z h0 a1 .byte [(.int y0), (.int y1), (.int y2), (.int y3)]) (O0 : Old Z n0 h0) (SS : SSt Z cz vf) :
    Con l Z (⟨"java/lang/StringLatin1", "charAt", "([BI)C"⟩ : MethodName) jdk_43_method_2_code 2 (some .char) ({ frames := 2, cells := 0, slots := 0, locals := 27 } : Room) [] #[(.ref a1), (.int (0 : Int32))] h0 (fun v h L => v = some (.int (LCH y0)) ∧ h = h0 ∧ L = []) := by
  refine Con.of (plainFor_of_name pn_java_lang_StringLatin1) #[.val (.ref a1), .val (.int (0 : Int32))] (fun m => eflc4_0 m a1 (0 : Int32)) ?_
  intro p e s m below meth c s₁ K hx hby hml hown hnm hret hlk hZ X0 e0
  have N0 := Fr.nil n0
  refine mIN K X0.here hx hby dj43_2_0 rfl rfl ?_
  refine mAN K X0.here hx hby dj43_2_1 rfl rfl rfl ?_
  refine k_len K X0 hx hby hZ (4 : Int32) e0 A_a1 rfl dj43_2_2 rfl ?_
  refine k_callS K X0 hx hby hZ [(.int (0 : Int32)), (.int (4 : Int32))] [] hown (W hw 96 rfl) (W hw 97 rfl) (W hw 12 rfl) (W hw 98 rfl) (cck l Z a0 hw (0 : Int32) (4 : Int32) cz vf h0 n0 Z0 O0 SS (by first | decide | omega) (by first | decide | omega)) e0 rfl rfl pd_3 rfl dj43_2_3 (by rw [hml]; rfl) rfl (by decide) (by decide) (LB rfl) (by decide) (by decide) fun v1 T1 L1 X1 q1 => ?_
  obtain ⟨rfl, e1, rfl⟩ := q1
  replace X1 := own_px X1
  refine k_none K ?_
  refine mAN K X1.here hx hby dj43_2_6 rfl rfl rfl ?_
  refine mIN K X1.here hx hby dj43_2_7 rfl rfl ?_
  refine k_ldB K X1 hx hby hZ e1 A_a1 (v := (.int y0)) (by decide) rfl dj43_2_8 rfl ?_
  refine mP K X1.here hx hby (255 : Int32) dj43_2_9 rfl rfl ?_
  refine m_iand K X1.here hx hby (y0 &&& (255 : Int32)) dj43_2_12 rfl rfl ?_
  refine m_i2c K X1.here hx hby (wlc4_0_1 y0) dj43_2_13 rfl rfl ?_
  exact Go.retN X1 hx hby hlk hret (by simp) dj43_2_14 (by decide) (by decide) (own_nc _) (⟨rfl, e1, rfl⟩)
theorem efcl4_0 (m : MethodId) (x0 : Addr) (x1 : Int32) : entryFrame m #[(.ref x0), (.int x1)] 2 = mkF m 0 #[.val (.ref x0), .val (.int x1)] [] := by first | (simp [entryFrame, mkF, argsToLocals, Value.category]; done) | rfl
theorem ccl4_0 (l : Launch) (Z : State) (a0 : Array Value) (hw : ∀ d ∈ tables_1, d.before a0 Z = true) (a1 : Addr) (cz : Int32) (vf : Value) (a2 : Addr) (y0 y1 : Int32) (y2 y3 : Int32) (h0 : Heap) (n0 : Nat) (Z0 : n0 ≤ h0.size) (E_a1 : Exa Z h0 a1 "java/lang/String") (F_value_a1 : Fld Z h0 a1 "java/lang/String" "value" "[B" (.ref a2)) (F_coder_a1 : Fld Z h0 a1 "java/lang/String" "coder" "B" (.int (0 : Int32))) (A_a2 : Av Z h0 a2 .byte [(.int y0), (.int y1), (.int y2), (.int y3)]) (O0 : Old Z n0 h0) (SS : SSt Z cz vf) :
    Con l Z (⟨"java/lang/String", "charAt", "(I)C"⟩ : MethodName) jdk_42_method_56_code 2 (some .char) ({ frames := 4, cells := 0, slots := 0, locals := 53 } : Room) [] #[(.ref a1), (.int (0 : Int32))] h0 (fun v h L => v = some (.int (LCH y0)) ∧ h = h0 ∧ L = []) := by
  refine Con.of (plainFor_of_name pn_java_lang_String) #[.val (.ref a1), .val (.int (0 : Int32))] (fun m => efcl4_0 m a1 (0 : Int32)) ?_
  intro p e s m below meth c s₁ K hx hby hml hown hnm hret hlk hZ X0 e0
  have N0 := Fr.nil n0
  refine mAN K X0.here hx hby dj42_56_0 rfl rfl rfl ?_
  refine k_callV K X0 hx hby hZ a1 [] [] hown (W hw 87 rfl) (W hw 88 rfl) (notFace_of_selects (args := #[]) (mvT hZ (W hw 90 rfl))) (W hw 90 rfl) (W hw 89 rfl) (W hw 12 rfl) (W hw 91 rfl) (cil0 l Z a0 hw a1 cz vf h0 n0 Z0 F_coder_a1 O0 SS) e0 E_a1 rfl rfl pd_6 rfl dj42_56_1 (by rw [hml]; rfl) rfl (by decide) (by decide) (LB rfl) (by decide) (by decide) fun v1 T1 L1 X1 q1 => ?_
  obtain ⟨rfl, e1, rfl⟩ := q1
  replace X1 := own_px X1
  refine k_some K (w := (.int (1 : Int32))) ?_
  refine m_ifN K X1.here hx hby (q := 7) dj42_56_4 ((if0 _ _).trans (feq (by decide : ¬ ((1 : Int32) = (0 : Int32)))).1) rfl ?_
  refine mAN K X1.here hx hby dj42_56_7 rfl rfl rfl ?_
  refine k_getF K X1 hx hby hZ hown (host := "") (Or.inl (W hw 30 rfl)) Via.refl e1 F_value_a1 dj42_56_8 rfl fun T2 X2 e2 => ?_
  refine mIN K X2.here hx hby dj42_56_11 rfl rfl ?_
  refine k_callS K X2 hx hby hZ [(.ref a2), (.int (0 : Int32))] [] hown (W hw 92 rfl) (W hw 93 rfl) (W hw 94 rfl) (W hw 95 rfl) (clc4_0 l Z a0 hw a2 cz vf y0 y1 y2 y3 h0 n0 Z0 A_a2 O0 SS) e2 rfl rfl pd_5 rfl dj42_56_12 (by rw [hml]; rfl) rfl (by decide) (by decide) (LB rfl) (by decide) (by decide) fun v3 T3 L3 X3 q3 => ?_
  obtain ⟨rfl, e3, rfl⟩ := q3
  replace X3 := own_px X3
  refine k_some K (w := (.int (LCH y0))) ?_
  exact Go.retN X3 hx hby hlk hret (by simp) dj42_56_15 (by decide) (by decide) (own_nc _) (⟨rfl, e3, rfl⟩)
def wlc4_1_1 (y1 : Int32) : Int32 := ((y1 &&& (255 : Int32)).toUInt32.toUInt16.toUInt32.toInt32)
theorem eflc4_1 (m : MethodId) (x0 : Addr) (x1 : Int32) : entryFrame m #[(.ref x0), (.int x1)] 2 = mkF m 0 #[.val (.ref x0), .val (.int x1)] [] := by first | (simp [entryFrame, mkF, argsToLocals, Value.category]; done) | rfl
theorem clc4_1 (l : Launch) (Z : State) (a0 : Array Value) (hw : ∀ d ∈ tables_1, d.before a0 Z = true) (a1 : Addr) (cz : Int32) (vf : Value) (y0 y1 : Int32) (y2 y3 : Int32) (h0 : Heap) (n0 : Nat) (Z0 : n0 ≤ h0.size) (A_a1 : Av Z h0 a1 .byte [(.int y0), (.int y1), (.int y2), (.int y3)]) (O0 : Old Z n0 h0) (SS : SSt Z cz vf) :
    Con l Z (⟨"java/lang/StringLatin1", "charAt", "([BI)C"⟩ : MethodName) jdk_43_method_2_code 2 (some .char) ({ frames := 2, cells := 0, slots := 0, locals := 27 } : Room) [] #[(.ref a1), (.int (1 : Int32))] h0 (fun v h L => v = some (.int (LCH y1)) ∧ h = h0 ∧ L = []) := by
  refine Con.of (plainFor_of_name pn_java_lang_StringLatin1) #[.val (.ref a1), .val (.int (1 : Int32))] (fun m => eflc4_1 m a1 (1 : Int32)) ?_
  intro p e s m below meth c s₁ K hx hby hml hown hnm hret hlk hZ X0 e0
  have N0 := Fr.nil n0
  refine mIN K X0.here hx hby dj43_2_0 rfl rfl ?_
  refine mAN K X0.here hx hby dj43_2_1 rfl rfl rfl ?_
  refine k_len K X0 hx hby hZ (4 : Int32) e0 A_a1 rfl dj43_2_2 rfl ?_
  refine k_callS K X0 hx hby hZ [(.int (1 : Int32)), (.int (4 : Int32))] [] hown (W hw 96 rfl) (W hw 97 rfl) (W hw 12 rfl) (W hw 98 rfl) (cck l Z a0 hw (1 : Int32) (4 : Int32) cz vf h0 n0 Z0 O0 SS (by first | decide | omega) (by first | decide | omega)) e0 rfl rfl pd_3 rfl dj43_2_3 (by rw [hml]; rfl) rfl (by decide) (by decide) (LB rfl) (by decide) (by decide) fun v1 T1 L1 X1 q1 => ?_
  obtain ⟨rfl, e1, rfl⟩ := q1
  replace X1 := own_px X1
  refine k_none K ?_
  refine mAN K X1.here hx hby dj43_2_6 rfl rfl rfl ?_
  refine mIN K X1.here hx hby dj43_2_7 rfl rfl ?_
  refine k_ldB K X1 hx hby hZ e1 A_a1 (v := (.int y1)) (by decide) rfl dj43_2_8 rfl ?_
  refine mP K X1.here hx hby (255 : Int32) dj43_2_9 rfl rfl ?_
  refine m_iand K X1.here hx hby (y1 &&& (255 : Int32)) dj43_2_12 rfl rfl ?_
  refine m_i2c K X1.here hx hby (wlc4_1_1 y1) dj43_2_13 rfl rfl ?_
  exact Go.retN X1 hx hby hlk hret (by simp) dj43_2_14 (by decide) (by decide) (own_nc _) (⟨rfl, e1, rfl⟩)
theorem efcl4_1 (m : MethodId) (x0 : Addr) (x1 : Int32) : entryFrame m #[(.ref x0), (.int x1)] 2 = mkF m 0 #[.val (.ref x0), .val (.int x1)] [] := by first | (simp [entryFrame, mkF, argsToLocals, Value.category]; done) | rfl
theorem ccl4_1 (l : Launch) (Z : State) (a0 : Array Value) (hw : ∀ d ∈ tables_1, d.before a0 Z = true) (a1 : Addr) (cz : Int32) (vf : Value) (a2 : Addr) (y0 y1 : Int32) (y2 y3 : Int32) (h0 : Heap) (n0 : Nat) (Z0 : n0 ≤ h0.size) (E_a1 : Exa Z h0 a1 "java/lang/String") (F_value_a1 : Fld Z h0 a1 "java/lang/String" "value" "[B" (.ref a2)) (F_coder_a1 : Fld Z h0 a1 "java/lang/String" "coder" "B" (.int (0 : Int32))) (A_a2 : Av Z h0 a2 .byte [(.int y0), (.int y1), (.int y2), (.int y3)]) (O0 : Old Z n0 h0) (SS : SSt Z cz vf) :
    Con l Z (⟨"java/lang/String", "charAt", "(I)C"⟩ : MethodName) jdk_42_method_56_code 2 (some .char) ({ frames := 4, cells := 0, slots := 0, locals := 53 } : Room) [] #[(.ref a1), (.int (1 : Int32))] h0 (fun v h L => v = some (.int (LCH y1)) ∧ h = h0 ∧ L = []) := by
  refine Con.of (plainFor_of_name pn_java_lang_String) #[.val (.ref a1), .val (.int (1 : Int32))] (fun m => efcl4_1 m a1 (1 : Int32)) ?_
  intro p e s m below meth c s₁ K hx hby hml hown hnm hret hlk hZ X0 e0
  have N0 := Fr.nil n0
  refine mAN K X0.here hx hby dj42_56_0 rfl rfl rfl ?_
  refine k_callV K X0 hx hby hZ a1 [] [] hown (W hw 87 rfl) (W hw 88 rfl) (notFace_of_selects (args := #[]) (mvT hZ (W hw 90 rfl))) (W hw 90 rfl) (W hw 89 rfl) (W hw 12 rfl) (W hw 91 rfl) (cil0 l Z a0 hw a1 cz vf h0 n0 Z0 F_coder_a1 O0 SS) e0 E_a1 rfl rfl pd_6 rfl dj42_56_1 (by rw [hml]; rfl) rfl (by decide) (by decide) (LB rfl) (by decide) (by decide) fun v1 T1 L1 X1 q1 => ?_
  obtain ⟨rfl, e1, rfl⟩ := q1
  replace X1 := own_px X1
  refine k_some K (w := (.int (1 : Int32))) ?_
  refine m_ifN K X1.here hx hby (q := 7) dj42_56_4 ((if0 _ _).trans (feq (by decide : ¬ ((1 : Int32) = (0 : Int32)))).1) rfl ?_
  refine mAN K X1.here hx hby dj42_56_7 rfl rfl rfl ?_
  refine k_getF K X1 hx hby hZ hown (host := "") (Or.inl (W hw 30 rfl)) Via.refl e1 F_value_a1 dj42_56_8 rfl fun T2 X2 e2 => ?_
  refine mIN K X2.here hx hby dj42_56_11 rfl rfl ?_
  refine k_callS K X2 hx hby hZ [(.ref a2), (.int (1 : Int32))] [] hown (W hw 92 rfl) (W hw 93 rfl) (W hw 94 rfl) (W hw 95 rfl) (clc4_1 l Z a0 hw a2 cz vf y0 y1 y2 y3 h0 n0 Z0 A_a2 O0 SS) e2 rfl rfl pd_5 rfl dj42_56_12 (by rw [hml]; rfl) rfl (by decide) (by decide) (LB rfl) (by decide) (by decide) fun v3 T3 L3 X3 q3 => ?_
  obtain ⟨rfl, e3, rfl⟩ := q3
  replace X3 := own_px X3
  refine k_some K (w := (.int (LCH y1))) ?_
  exact Go.retN X3 hx hby hlk hret (by simp) dj42_56_15 (by decide) (by decide) (own_nc _) (⟨rfl, e3, rfl⟩)
def wlc4_2_1 (y2 : Int32) : Int32 := ((y2 &&& (255 : Int32)).toUInt32.toUInt16.toUInt32.toInt32)
theorem eflc4_2 (m : MethodId) (x0 : Addr) (x1 : Int32) : entryFrame m #[(.ref x0), (.int x1)] 2 = mkF m 0 #[.val (.ref x0), .val (.int x1)] [] := by first | (simp [entryFrame, mkF, argsToLocals, Value.category]; done) | rfl
theorem clc4_2 (l : Launch) (Z : State) (a0 : Array Value) (hw : ∀ d ∈ tables_1, d.before a0 Z = true) (a1 : Addr) (cz : Int32) (vf : Value) (y0 y1 : Int32) (y2 y3 : Int32) (h0 : Heap) (n0 : Nat) (Z0 : n0 ≤ h0.size) (A_a1 : Av Z h0 a1 .byte [(.int y0), (.int y1), (.int y2), (.int y3)]) (O0 : Old Z n0 h0) (SS : SSt Z cz vf) :
    Con l Z (⟨"java/lang/StringLatin1", "charAt", "([BI)C"⟩ : MethodName) jdk_43_method_2_code 2 (some .char) ({ frames := 2, cells := 0, slots := 0, locals := 27 } : Room) [] #[(.ref a1), (.int (2 : Int32))] h0 (fun v h L => v = some (.int (LCH y2)) ∧ h = h0 ∧ L = []) := by
  refine Con.of (plainFor_of_name pn_java_lang_StringLatin1) #[.val (.ref a1), .val (.int (2 : Int32))] (fun m => eflc4_2 m a1 (2 : Int32)) ?_
  intro p e s m below meth c s₁ K hx hby hml hown hnm hret hlk hZ X0 e0
  have N0 := Fr.nil n0
  refine mIN K X0.here hx hby dj43_2_0 rfl rfl ?_
  refine mAN K X0.here hx hby dj43_2_1 rfl rfl rfl ?_
  refine k_len K X0 hx hby hZ (4 : Int32) e0 A_a1 rfl dj43_2_2 rfl ?_
  refine k_callS K X0 hx hby hZ [(.int (2 : Int32)), (.int (4 : Int32))] [] hown (W hw 96 rfl) (W hw 97 rfl) (W hw 12 rfl) (W hw 98 rfl) (cck l Z a0 hw (2 : Int32) (4 : Int32) cz vf h0 n0 Z0 O0 SS (by first | decide | omega) (by first | decide | omega)) e0 rfl rfl pd_3 rfl dj43_2_3 (by rw [hml]; rfl) rfl (by decide) (by decide) (LB rfl) (by decide) (by decide) fun v1 T1 L1 X1 q1 => ?_
  obtain ⟨rfl, e1, rfl⟩ := q1
  replace X1 := own_px X1
  refine k_none K ?_
  refine mAN K X1.here hx hby dj43_2_6 rfl rfl rfl ?_
  refine mIN K X1.here hx hby dj43_2_7 rfl rfl ?_
  refine k_ldB K X1 hx hby hZ e1 A_a1 (v := (.int y2)) (by decide) rfl dj43_2_8 rfl ?_
  refine mP K X1.here hx hby (255 : Int32) dj43_2_9 rfl rfl ?_
  refine m_iand K X1.here hx hby (y2 &&& (255 : Int32)) dj43_2_12 rfl rfl ?_
  refine m_i2c K X1.here hx hby (wlc4_2_1 y2) dj43_2_13 rfl rfl ?_
  exact Go.retN X1 hx hby hlk hret (by simp) dj43_2_14 (by decide) (by decide) (own_nc _) (⟨rfl, e1, rfl⟩)
theorem efcl4_2 (m : MethodId) (x0 : Addr) (x1 : Int32) : entryFrame m #[(.ref x0), (.int x1)] 2 = mkF m 0 #[.val (.ref x0), .val (.int x1)] [] := by first | (simp [entryFrame, mkF, argsToLocals, Value.category]; done) | rfl
theorem ccl4_2 (l : Launch) (Z : State) (a0 : Array Value) (hw : ∀ d ∈ tables_1, d.before a0 Z = true) (a1 : Addr) (cz : Int32) (vf : Value) (a2 : Addr) (y0 y1 : Int32) (y2 y3 : Int32) (h0 : Heap) (n0 : Nat) (Z0 : n0 ≤ h0.size) (E_a1 : Exa Z h0 a1 "java/lang/String") (F_value_a1 : Fld Z h0 a1 "java/lang/String" "value" "[B" (.ref a2)) (F_coder_a1 : Fld Z h0 a1 "java/lang/String" "coder" "B" (.int (0 : Int32))) (A_a2 : Av Z h0 a2 .byte [(.int y0), (.int y1), (.int y2), (.int y3)]) (O0 : Old Z n0 h0) (SS : SSt Z cz vf) :
    Con l Z (⟨"java/lang/String", "charAt", "(I)C"⟩ : MethodName) jdk_42_method_56_code 2 (some .char) ({ frames := 4, cells := 0, slots := 0, locals := 53 } : Room) [] #[(.ref a1), (.int (2 : Int32))] h0 (fun v h L => v = some (.int (LCH y2)) ∧ h = h0 ∧ L = []) := by
  refine Con.of (plainFor_of_name pn_java_lang_String) #[.val (.ref a1), .val (.int (2 : Int32))] (fun m => efcl4_2 m a1 (2 : Int32)) ?_
  intro p e s m below meth c s₁ K hx hby hml hown hnm hret hlk hZ X0 e0
  have N0 := Fr.nil n0
  refine mAN K X0.here hx hby dj42_56_0 rfl rfl rfl ?_
  refine k_callV K X0 hx hby hZ a1 [] [] hown (W hw 87 rfl) (W hw 88 rfl) (notFace_of_selects (args := #[]) (mvT hZ (W hw 90 rfl))) (W hw 90 rfl) (W hw 89 rfl) (W hw 12 rfl) (W hw 91 rfl) (cil0 l Z a0 hw a1 cz vf h0 n0 Z0 F_coder_a1 O0 SS) e0 E_a1 rfl rfl pd_6 rfl dj42_56_1 (by rw [hml]; rfl) rfl (by decide) (by decide) (LB rfl) (by decide) (by decide) fun v1 T1 L1 X1 q1 => ?_
  obtain ⟨rfl, e1, rfl⟩ := q1
  replace X1 := own_px X1
  refine k_some K (w := (.int (1 : Int32))) ?_
  refine m_ifN K X1.here hx hby (q := 7) dj42_56_4 ((if0 _ _).trans (feq (by decide : ¬ ((1 : Int32) = (0 : Int32)))).1) rfl ?_
  refine mAN K X1.here hx hby dj42_56_7 rfl rfl rfl ?_
  refine k_getF K X1 hx hby hZ hown (host := "") (Or.inl (W hw 30 rfl)) Via.refl e1 F_value_a1 dj42_56_8 rfl fun T2 X2 e2 => ?_
  refine mIN K X2.here hx hby dj42_56_11 rfl rfl ?_
  refine k_callS K X2 hx hby hZ [(.ref a2), (.int (2 : Int32))] [] hown (W hw 92 rfl) (W hw 93 rfl) (W hw 94 rfl) (W hw 95 rfl) (clc4_2 l Z a0 hw a2 cz vf y0 y1 y2 y3 h0 n0 Z0 A_a2 O0 SS) e2 rfl rfl pd_5 rfl dj42_56_12 (by rw [hml]; rfl) rfl (by decide) (by decide) (LB rfl) (by decide) (by decide) fun v3 T3 L3 X3 q3 => ?_
  obtain ⟨rfl, e3, rfl⟩ := q3
  replace X3 := own_px X3
  refine k_some K (w := (.int (LCH y2))) ?_
  exact Go.retN X3 hx hby hlk hret (by simp) dj42_56_15 (by decide) (by decide) (own_nc _) (⟨rfl, e3, rfl⟩)
def wlc4_3_1 (y3 : Int32) : Int32 := ((y3 &&& (255 : Int32)).toUInt32.toUInt16.toUInt32.toInt32)
theorem eflc4_3 (m : MethodId) (x0 : Addr) (x1 : Int32) : entryFrame m #[(.ref x0), (.int x1)] 2 = mkF m 0 #[.val (.ref x0), .val (.int x1)] [] := by first | (simp [entryFrame, mkF, argsToLocals, Value.category]; done) | rfl
theorem clc4_3 (l : Launch) (Z : State) (a0 : Array Value) (hw : ∀ d ∈ tables_1, d.before a0 Z = true) (a1 : Addr) (cz : Int32) (vf : Value) (y0 y1 : Int32) (y2 y3 : Int32) (h0 : Heap) (n0 : Nat) (Z0 : n0 ≤ h0.size) (A_a1 : Av Z h0 a1 .byte [(.int y0), (.int y1), (.int y2), (.int y3)]) (O0 : Old Z n0 h0) (SS : SSt Z cz vf) :
    Con l Z (⟨"java/lang/StringLatin1", "charAt", "([BI)C"⟩ : MethodName) jdk_43_method_2_code 2 (some .char) ({ frames := 2, cells := 0, slots := 0, locals := 27 } : Room) [] #[(.ref a1), (.int (3 : Int32))] h0 (fun v h L => v = some (.int (LCH y3)) ∧ h = h0 ∧ L = []) := by
  refine Con.of (plainFor_of_name pn_java_lang_StringLatin1) #[.val (.ref a1), .val (.int (3 : Int32))] (fun m => eflc4_3 m a1 (3 : Int32)) ?_
  intro p e s m below meth c s₁ K hx hby hml hown hnm hret hlk hZ X0 e0
  have N0 := Fr.nil n0
  refine mIN K X0.here hx hby dj43_2_0 rfl rfl ?_
  refine mAN K X0.here hx hby dj43_2_1 rfl rfl rfl ?_
  refine k_len K X0 hx hby hZ (4 : Int32) e0 A_a1 rfl dj43_2_2 rfl ?_
  refine k_callS K X0 hx hby hZ [(.int (3 : Int32)), (.int (4 : Int32))] [] hown (W hw 96 rfl) (W hw 97 rfl) (W hw 12 rfl) (W hw 98 rfl) (cck l Z a0 hw (3 : Int32) (4 : Int32) cz vf h0 n0 Z0 O0 SS (by first | decide | omega) (by first | decide | omega)) e0 rfl rfl pd_3 rfl dj43_2_3 (by rw [hml]; rfl) rfl (by decide) (by decide) (LB rfl) (by decide) (by decide) fun v1 T1 L1 X1 q1 => ?_
  obtain ⟨rfl, e1, rfl⟩ := q1
  replace X1 := own_px X1
  refine k_none K ?_
  refine mAN K X1.here hx hby dj43_2_6 rfl rfl rfl ?_
  refine mIN K X1.here hx hby dj43_2_7 rfl rfl ?_
  refine k_ldB K X1 hx hby hZ e1 A_a1 (v := (.int y3)) (by decide) rfl dj43_2_8 rfl ?_
  refine mP K X1.here hx hby (255 : Int32) dj43_2_9 rfl rfl ?_
  refine m_iand K X1.here hx hby (y3 &&& (255 : Int32)) dj43_2_12 rfl rfl ?_
  refine m_i2c K X1.here hx hby (wlc4_3_1 y3) dj43_2_13 rfl rfl ?_
  exact Go.retN X1 hx hby hlk hret (by simp) dj43_2_14 (by decide) (by decide) (own_nc _) (⟨rfl, e1, rfl⟩)
theorem efcl4_3 (m : MethodId) (x0 : Addr) (x1 : Int32) : entryFrame m #[(.ref x0), (.int x1)] 2 = mkF m 0 #[.val (.ref x0), .val (.int x1)] [] := by first | (simp [entryFrame, mkF, argsToLocals, Value.category]; done) | rfl
theorem ccl4_3 (l : Launch) (Z : State) (a0 : Array Value) (hw : ∀ d ∈ tables_1, d.before a0 Z = true) (a1 : Addr) (cz : Int32) (vf : Value) (a2 : Addr) (y0 y1 : Int32) (y2 y3 : Int32) (h0 : Heap) (n0 : Nat) (Z0 : n0 ≤ h0.size) (E_a1 : Exa Z h0 a1 "java/lang/String") (F_value_a1 : Fld Z h0 a1 "java/lang/String" "value" "[B" (.ref a2)) (F_coder_a1 : Fld Z h0 a1 "java/lang/String" "coder" "B" (.int (0 : Int32))) (A_a2 : Av Z h0 a2 .byte [(.int y0), (.int y1), (.int y2), (.int y3)]) (O0 : Old Z n0 h0) (SS : SSt Z cz vf) :
    Con l Z (⟨"java/lang/String", "charAt", "(I)C"⟩ : MethodName) jdk_42_method_56_code 2 (some .char) ({ frames := 4, cells := 0, slots := 0, locals := 53 } : Room) [] #[(.ref a1), (.int (3 : Int32))] h0 (fun v h L => v = some (.int (LCH y3)) ∧ h = h0 ∧ L = []) := by
  refine Con.of (plainFor_of_name pn_java_lang_String) #[.val (.ref a1), .val (.int (3 : Int32))] (fun m => efcl4_3 m a1 (3 : Int32)) ?_
  intro p e s m below meth c s₁ K hx hby hml hown hnm hret hlk hZ X0 e0
  have N0 := Fr.nil n0
  refine mAN K X0.here hx hby dj42_56_0 rfl rfl rfl ?_
  refine k_callV K X0 hx hby hZ a1 [] [] hown (W hw 87 rfl) (W hw 88 rfl) (notFace_of_selects (args := #[]) (mvT hZ (W hw 90 rfl))) (W hw 90 rfl) (W hw 89 rfl) (W hw 12 rfl) (W hw 91 rfl) (cil0 l Z a0 hw a1 cz vf h0 n0 Z0 F_coder_a1 O0 SS) e0 E_a1 rfl rfl pd_6 rfl dj42_56_1 (by rw [hml]; rfl) rfl (by decide) (by decide) (LB rfl) (by decide) (by decide) fun v1 T1 L1 X1 q1 => ?_
  obtain ⟨rfl, e1, rfl⟩ := q1
  replace X1 := own_px X1
  refine k_some K (w := (.int (1 : Int32))) ?_
  refine m_ifN K X1.here hx hby (q := 7) dj42_56_4 ((if0 _ _).trans (feq (by decide : ¬ ((1 : Int32) = (0 : Int32)))).1) rfl ?_
  refine mAN K X1.here hx hby dj42_56_7 rfl rfl rfl ?_
  refine k_getF K X1 hx hby hZ hown (host := "") (Or.inl (W hw 30 rfl)) Via.refl e1 F_value_a1 dj42_56_8 rfl fun T2 X2 e2 => ?_
  refine mIN K X2.here hx hby dj42_56_11 rfl rfl ?_
  refine k_callS K X2 hx hby hZ [(.ref a2), (.int (3 : Int32))] [] hown (W hw 92 rfl) (W hw 93 rfl) (W hw 94 rfl) (W hw 95 rfl) (clc4_3 l Z a0 hw a2 cz vf y0 y1 y2 y3 h0 n0 Z0 A_a2 O0 SS) e2 rfl rfl pd_5 rfl dj42_56_12 (by rw [hml]; rfl) rfl (by decide) (by decide) (LB rfl) (by decide) (by decide) fun v3 T3 L3 X3 q3 => ?_
  obtain ⟨rfl, e3, rfl⟩ := q3
  replace X3 := own_px X3
  refine k_some K (w := (.int (LCH y3))) ?_
  exact Go.retN X3 hx hby hlk hret (by simp) dj42_56_15 (by decide) (by decide) (own_nc _) (⟨rfl, e3, rfl⟩)
theorem dj52_21_0 : decode jdk_52_method_21_code 0 = .ok (.iconst 0, 1) := by decide +kernel
theorem dj52_21_1 : decode jdk_52_method_21_code 1 = .ok (.istore 5, 2) := by decide +kernel
theorem dj52_21_3 : decode jdk_52_method_21_code 3 = .ok (.iload 5, 2) := by decide +kernel
theorem dj52_21_5 : decode jdk_52_method_21_code 5 = .ok (.iload 4, 2) := by decide +kernel
theorem dj52_21_7 : decode jdk_52_method_21_code 7 = .ok (.if_icmp .ge 37, 3) := by decide +kernel
theorem dj52_21_10 : decode jdk_52_method_21_code 10 = .ok (.aload_n 0, 1) := by decide +kernel
theorem dj52_21_11 : decode jdk_52_method_21_code 11 = .ok (.iload_n 1, 1) := by decide +kernel
theorem dj52_21_12 : decode jdk_52_method_21_code 12 = .ok (.caload, 1) := by decide +kernel
theorem dj52_21_13 : decode jdk_52_method_21_code 13 = .ok (.istore 6, 2) := by decide +kernel
theorem dj52_21_15 : decode jdk_52_method_21_code 15 = .ok (.iload 6, 2) := by decide +kernel
theorem dj52_21_17 : decode jdk_52_method_21_code 17 = .ok (.sipush 255, 3) := by decide +kernel
theorem dj52_21_20 : decode jdk_52_method_21_code 20 = .ok (.if_icmp .le 6, 3) := by decide +kernel
theorem dj52_21_23 : decode jdk_52_method_21_code 23 = .ok (.iload 5, 2) := by decide +kernel
theorem dj52_21_25 : decode jdk_52_method_21_code 25 = .ok (.ireturn, 1) := by decide +kernel
theorem efcf1_0 (m : MethodId) (x0 : Addr) (x1 : Int32) (x2 : Addr) (x3 x4 : Int32) : entryFrame m #[(.ref x0), (.int x1), (.ref x2), (.int x3), (.int x4)] 7 = mkF m 0 #[.val (.ref x0), .val (.int x1), .val (.ref x2), .val (.int x3), .val (.int x4), .unset, .unset] [] := by first | (simp [entryFrame, mkF, argsToLocals, Value.category]; done) | rfl
theorem ccf1_0 (l : Launch) (Z : State) (a0 : Array Value) (hw : ∀ d ∈ tables_1, d.before a0 Z = true) (a1 a3 : Addr) (cz : Int32) (vf : Value) (c0 : Int32) (h0 : Heap) (n0 : Nat) (Z0 : n0 ≤ h0.size) (A_a1 : Av Z h0 a1 .char [(.int c0)]) (A_a3 : Av Z h0 a3 .byte [(.int (0 : Int32))]) (O0 : Old Z n0 h0) (g_a3 : n0 ≤ a3) (ne_a1_a3 : a1 ≠ a3) (SS : SSt Z cz vf) (hg : (255 : Int32) < c0) (hch_0 : nar .char c0 = c0) :
    Con l Z (⟨"java/lang/StringUTF16", "compress", "([CI[BII)I"⟩ : MethodName) jdk_52_method_21_code 7 (some .int) ({ frames := 0, cells := 0, slots := 0, locals := 0 } : Room) [] #[(.ref a1), (.int (0 : Int32)), (.ref a3), (.int (0 : Int32)), (.int (1 : Int32))] h0 (fun v h L => v = some (.int (0 : Int32)) ∧ Fr n0 L ∧ Keep h0 h [a3] ∧ Av Z h a3 .byte [(.int (0 : Int32))]) := by
  refine Con.of (plainFor_of_name pn_java_lang_StringUTF16) #[.val (.ref a1), .val (.int (0 : Int32)), .val (.ref a3), .val (.int (0 : Int32)), .val (.int (1 : Int32)), .unset, .unset] (fun m => efcf1_0 m a1 (0 : Int32) a3 (0 : Int32) (1 : Int32)) ?_
  intro p e s m below meth c s₁ K hx hby hml hown hnm hret hlk hZ X0 e0
  have N0 := Fr.nil n0
  refine mC K X0.here hx hby (0 : Int32) dj52_21_0 rfl rfl ?_
  refine mS K X0.here hx hby #[.val (.ref a1), .val (.int (0 : Int32)), .val (.ref a3), .val (.int (0 : Int32)), .val (.int (1 : Int32)), .val (.int (0 : Int32)), .unset] dj52_21_1 rfl rfl ?_
  refine mI K X0.here hx hby dj52_21_3 rfl rfl ?_
  refine mI K X0.here hx hby dj52_21_5 rfl rfl ?_
  refine m_icmpN K X0.here hx hby (q := 10) dj52_21_7 (tlt (by decide : (0 : Int32) < (1 : Int32))).2.1 rfl ?_
  refine mAN K X0.here hx hby dj52_21_10 rfl rfl rfl ?_
  refine mIN K X0.here hx hby dj52_21_11 rfl rfl ?_
  refine k_ldC K X0 hx hby hZ e0 A_a1 (v := (.int c0)) (by decide) rfl dj52_21_12 rfl ?_
  refine mS K X0.here hx hby #[.val (.ref a1), .val (.int (0 : Int32)), .val (.ref a3), .val (.int (0 : Int32)), .val (.int (1 : Int32)), .val (.int (0 : Int32)), .val (.int c0)] dj52_21_13 rfl rfl ?_
  refine mI K X0.here hx hby dj52_21_15 rfl rfl ?_
  refine mP K X0.here hx hby (255 : Int32) dj52_21_17 rfl rfl ?_
  refine m_icmpN K X0.here hx hby (q := 23) dj52_21_20 (tlt hg).2.2.2 rfl ?_
  refine mI K X0.here hx hby dj52_21_23 rfl rfl ?_
  exact Go.retI X0 hx hby hlk hret dj52_21_25 (by decide) (by decide) (by rw [e0]; exact ⟨rfl, N0, (Keep.refl h0 [a3]), A_a3⟩)
theorem dj52_16_0 : decode jdk_52_method_16_code 0 = .ok (.iload_n 2, 1) := by decide +kernel
theorem dj52_16_1 : decode jdk_52_method_16_code 1 = .ok (.newarray .byte, 2) := by decide +kernel
theorem dj52_16_3 : decode jdk_52_method_16_code 3 = .ok (.astore_n 3, 1) := by decide +kernel
theorem dj52_16_4 : decode jdk_52_method_16_code 4 = .ok (.aload_n 0, 1) := by decide +kernel
theorem dj52_16_5 : decode jdk_52_method_16_code 5 = .ok (.iload_n 1, 1) := by decide +kernel
theorem dj52_16_6 : decode jdk_52_method_16_code 6 = .ok (.aload_n 3, 1) := by decide +kernel
theorem dj52_16_7 : decode jdk_52_method_16_code 7 = .ok (.iconst 0, 1) := by decide +kernel
theorem dj52_16_8 : decode jdk_52_method_16_code 8 = .ok (.iload_n 2, 1) := by decide +kernel
theorem dj52_16_9 : decode jdk_52_method_16_code 9 = .ok (.invokestatic 115, 3) := by decide +kernel
theorem dj52_16_12 : decode jdk_52_method_16_code 12 = .ok (.istore 4, 2) := by decide +kernel
theorem dj52_16_14 : decode jdk_52_method_16_code 14 = .ok (.iload 4, 2) := by decide +kernel
theorem dj52_16_16 : decode jdk_52_method_16_code 16 = .ok (.iload_n 2, 1) := by decide +kernel
theorem dj52_16_17 : decode jdk_52_method_16_code 17 = .ok (.if_icmp .eq 40, 3) := by decide +kernel
theorem dj52_16_20 : decode jdk_52_method_16_code 20 = .ok (.aload_n 0, 1) := by decide +kernel
theorem dj52_16_21 : decode jdk_52_method_16_code 21 = .ok (.iload_n 1, 1) := by decide +kernel
theorem dj52_16_22 : decode jdk_52_method_16_code 22 = .ok (.iload_n 2, 1) := by decide +kernel
theorem dj52_16_23 : decode jdk_52_method_16_code 23 = .ok (.invokestatic 119, 3) := by decide +kernel
theorem dj52_16_26 : decode jdk_52_method_16_code 26 = .ok (.astore 5, 2) := by decide +kernel
theorem dj52_16_28 : decode jdk_52_method_16_code 28 = .ok (.aload 5, 2) := by decide +kernel
theorem dj52_16_30 : decode jdk_52_method_16_code 30 = .ok (.iload 4, 2) := by decide +kernel
theorem dj52_16_32 : decode jdk_52_method_16_code 32 = .ok (.invokestatic 71, 3) := by decide +kernel
theorem dj52_16_35 : decode jdk_52_method_16_code 35 = .ok (.sipush 255, 3) := by decide +kernel
theorem dj52_16_38 : decode jdk_52_method_16_code 38 = .ok (.if_icmp .gt 16, 3) := by decide +kernel
theorem dj52_16_54 : decode jdk_52_method_16_code 54 = .ok (.aload 5, 2) := by decide +kernel
theorem dj52_16_56 : decode jdk_52_method_16_code 56 = .ok (.areturn, 1) := by decide +kernel
theorem pd_10 : parseMethodDescriptor "([CI[BII)I" = some ⟨[(.array .char), .int, (.array .byte), .int, .int], some .int⟩ := by decide +kernel
theorem pd_11 : parseMethodDescriptor "([CII)[B" = some ⟨[(.array .char), .int, .int], some (.array .byte)⟩ := by decide +kernel
theorem efct1_0 (m : MethodId) (x0 : Addr) (x1 x2 : Int32) : entryFrame m #[(.ref x0), (.int x1), (.int x2)] 6 = mkF m 0 #[.val (.ref x0), .val (.int x1), .val (.int x2), .unset, .unset, .unset] [] := by first | (simp [entryFrame, mkF, argsToLocals, Value.category]; done) | rfl
theorem cct1_0 (l : Launch) (Z : State) (a0 : Array Value) (hw : ∀ d ∈ tables_1, d.before a0 Z = true) (a1 : Addr) (cz : Int32) (vf : Value) (c0 : Int32) (h0 : Heap) (n0 : Nat) (Z0 : n0 ≤ h0.size) (A_a1 : Av Z h0 a1 .char [(.int c0)]) (O0 : Old Z n0 h0) (SS : SSt Z cz vf) (hg : (255 : Int32) < c0) (hch_0 : nar .char c0 = c0) :
    Con l Z (⟨"java/lang/StringUTF16", "compress", "([CII)[B"⟩ : MethodName) jdk_52_method_16_code 6 (some (.array .byte)) ({ frames := 3, cells := 2, slots := 3, locals := 40 } : Room) [] #[(.ref a1), (.int (0 : Int32)), (.int (1 : Int32))] h0 (fun v h L => ∃ bv : Addr, v = some (.ref bv) ∧ Fr n0 L ∧ Keep h0 h [] ∧ h0.size ≤ bv ∧ Av Z h bv .byte [(.int (BLO c0)), (.int (BHI c0))]) := by
  refine Con.of (plainFor_of_name pn_java_lang_StringUTF16) #[.val (.ref a1), .val (.int (0 : Int32)), .val (.int (1 : Int32)), .unset, .unset, .unset] (fun m => efct1_0 m a1 (0 : Int32) (1 : Int32)) ?_
  intro p e s m below meth c s₁ K hx hby hml hown hnm hret hlk hZ X0 e0
  have N0 := Fr.nil n0
  refine mIN K X0.here hx hby dj52_16_0 rfl rfl ?_
  refine k_newP K X0 hx hby hZ 1 1 (W hw 25 rfl) e0 dj52_16_1 rfl (by decide) rfl (by decide) (by decide) (by decide) (by decide) fun T1 h1 b1 X1 e1 E1 g1 V_b1 => ?_
  have sz_b1 : h0.size ≤ b1 := Nat.le_trans (Nat.le_refl _) (Nat.le_of_eq g1.symm)
  have g_b1 : n0 ≤ b1 := Nat.le_trans Z0 sz_b1
  replace V_b1 : Av Z h1 b1 .byte [(.int (0 : Int32))] := V_b1
  refine m_astoreN K X1.here hx hby #[.val (.ref a1), .val (.int (0 : Int32)), .val (.int (1 : Int32)), .val (.ref b1), .unset, .unset] dj52_16_3 rfl rfl rfl ?_
  refine mAN K X1.here hx hby dj52_16_4 rfl rfl rfl ?_
  refine mIN K X1.here hx hby dj52_16_5 rfl rfl ?_
  refine mAN K X1.here hx hby dj52_16_6 rfl rfl rfl ?_
  refine mC K X1.here hx hby (0 : Int32) dj52_16_7 rfl rfl ?_
  refine mIN K X1.here hx hby dj52_16_8 rfl rfl ?_
  refine k_callS K X1 hx hby hZ [(.ref a1), (.int (0 : Int32)), (.ref b1), (.int (0 : Int32)), (.int (1 : Int32))] [] hown (W hw 76 rfl) (W hw 77 rfl) (W hw 74 rfl) (W hw 78 rfl) (ccf1_0 l Z a0 hw a1 b1 cz vf c0 h1 n0 (Nat.le_trans Z0 (Nat.le_trans (Nat.le_refl _) E1.1)) (A_a1.ext E1) V_b1 (O0.ext E1) g_b1 (Nat.ne_of_lt (Nat.lt_of_lt_of_le (Nat.lt_of_lt_of_le A_a1.lt (Nat.le_refl _)) (Nat.le_of_eq g1.symm))) SS hg hch_0) e1 rfl rfl pd_10 rfl dj52_16_9 (by rw [hml]; rfl) rfl (by decide) (by decide) (LB rfl) (by decide) (by decide) fun v2 T2 L2 X2 q2 => ?_
  obtain ⟨rfl, Nq2, K2, Ap2_0⟩ := q2
  have N2 := Fr.app N0 Nq2
  refine k_some K (w := (.int (0 : Int32))) ?_
  refine mS K X2.here hx hby #[.val (.ref a1), .val (.int (0 : Int32)), .val (.int (1 : Int32)), .val (.ref b1), .val (.int (0 : Int32)), .unset] dj52_16_12 rfl rfl ?_
  refine mI K X2.here hx hby dj52_16_14 rfl rfl ?_
  refine mIN K X2.here hx hby dj52_16_16 rfl rfl ?_
  refine m_icmpN K X2.here hx hby (q := 20) dj52_16_17 (feq (by decide : ¬ ((0 : Int32) = (1 : Int32)))).1 rfl ?_
  refine mAN K X2.here hx hby dj52_16_20 rfl rfl rfl ?_
  refine mIN K X2.here hx hby dj52_16_21 rfl rfl ?_
  refine mIN K X2.here hx hby dj52_16_22 rfl rfl ?_
  refine k_callS K X2 hx hby hZ [(.ref a1), (.int (0 : Int32)), (.int (1 : Int32))] [] hown (W hw 109 rfl) (W hw 110 rfl) (W hw 74 rfl) (W hw 111 rfl) (ctb1 l Z a0 hw a1 cz vf c0 T2.heap n0 (Nat.le_trans Z0 (Nat.le_trans (Nat.le_trans (Nat.le_refl _) E1.1) K2.1)) ((A_a1.ext E1).keep K2 (ninS (Nat.ne_of_lt (Nat.lt_of_lt_of_le (Nat.lt_of_lt_of_le A_a1.lt (Nat.le_refl _)) (Nat.le_of_eq g1.symm))) nin0)) ((O0.ext E1).keep K2 (allS g_b1 all0)) SS) rfl rfl rfl pd_11 rfl dj52_16_23 (by rw [hml]; rfl) rfl (by decide) (by decide) (LB rfl) (by decide) (by decide) fun v3 T3 L3 X3 q3 => ?_
  obtain ⟨b3_bv, rfl, Nq3, K3, sq_b3_bv, Ap3_0⟩ := q3
  have N3 := Fr.app N2 Nq3
  have sz_b3_bv : h0.size ≤ b3_bv := Nat.le_trans (Nat.le_trans (Nat.le_trans (Nat.le_refl _) E1.1) K2.1) sq_b3_bv
  have g_b3_bv : n0 ≤ b3_bv := Nat.le_trans Z0 sz_b3_bv
  refine k_some K (w := (.ref b3_bv)) ?_
  refine m_astore K X3.here hx hby #[.val (.ref a1), .val (.int (0 : Int32)), .val (.int (1 : Int32)), .val (.ref b1), .val (.int (0 : Int32)), .val (.ref b3_bv)] dj52_16_26 rfl rfl rfl ?_
  refine mA K X3.here hx hby dj52_16_28 rfl rfl rfl ?_
  refine mI K X3.here hx hby dj52_16_30 rfl rfl ?_
  refine k_callS K X3 hx hby hZ [(.ref b3_bv), (.int (0 : Int32))] [] hown (W hw 125 rfl) (W hw 126 rfl) (W hw 74 rfl) (W hw 127 rfl) (cgc1_0 l Z a0 hw b3_bv cz vf (BLO c0) (BHI c0) T3.heap n0 (Nat.le_trans Z0 (Nat.le_trans (Nat.le_trans (Nat.le_trans (Nat.le_refl _) E1.1) K2.1) K3.1)) Ap3_0 (((O0.ext E1).keep K2 (allS g_b1 all0)).keep K3 all0) SS) rfl rfl rfl pd_5 rfl dj52_16_32 (by rw [hml]; rfl) rfl (by decide) (by decide) (LB rfl) (by decide) (by decide) fun v4 T4 L4 X4 q4 => ?_
  obtain ⟨rfl, e4, rfl⟩ := q4
  replace X4 := own_px X4
  refine k_some K (w := (.int (GCH (BLO c0) (BHI c0)))) ?_
  refine mP K X4.here hx hby (255 : Int32) dj52_16_35 rfl rfl ?_
  refine m_icmpY K X4.here hx hby (q := 54) dj52_16_38 (tlt (own_rgt c0 hch_0 hg)).2.2.1 (by decide) rfl ?_
  refine mA K X4.here hx hby dj52_16_54 rfl rfl rfl ?_
  exact Go.retO X4 hx hby hlk hret rfl (Or.inr (Or.inr (Or.inr (Or.inr ⟨rfl, rfl, rfl⟩)))) dj52_16_56 (by decide) (by decide) (by rw [e4]; exact ⟨b3_bv, rfl, N3, ((((Keep.refl h0 []).ext E1).trans K2 (allS (Or.inr sz_b1) all0)).trans K3 all0), sz_b3_bv, Ap3_0⟩)
theorem dj52_15_0 : decode jdk_52_method_15_code 0 = .ok (.iload_n 1, 1) := by decide +kernel
theorem dj52_15_1 : decode jdk_52_method_15_code 1 = .ok (.aload_n 0, 1) := by decide +kernel
theorem dj52_15_2 : decode jdk_52_method_15_code 2 = .ok (.arraylength, 1) := by decide +kernel
theorem dj52_15_3 : decode jdk_52_method_15_code 3 = .ok (.isub, 1) := by decide +kernel
theorem dj52_15_4 : decode jdk_52_method_15_code 4 = .ok (.bipush 31, 2) := by decide +kernel
theorem dj52_15_6 : decode jdk_52_method_15_code 6 = .ok (.iushr, 1) := by decide +kernel
theorem dj52_15_7 : decode jdk_52_method_15_code 7 = .ok (.i2b, 1) := by decide +kernel
theorem dj52_15_8 : decode jdk_52_method_15_code 8 = .ok (.ireturn, 1) := by decide +kernel
theorem efcc1_2 (m : MethodId) (x0 : Addr) (x1 : Int32) : entryFrame m #[(.ref x0), (.int x1)] 2 = mkF m 0 #[.val (.ref x0), .val (.int x1)] [] := by first | (simp [entryFrame, mkF, argsToLocals, Value.category]; done) | rfl
theorem ccc1_2 (l : Launch) (Z : State) (a0 : Array Value) (hw : ∀ d ∈ tables_1, d.before a0 Z = true) (a1 : Addr) (cz : Int32) (vf : Value) (y0 y1 : Int32) (h0 : Heap) (n0 : Nat) (Z0 : n0 ≤ h0.size) (A_a1 : Av Z h0 a1 .byte [(.int y0), (.int y1)]) (O0 : Old Z n0 h0) (SS : SSt Z cz vf) :
    Con l Z (⟨"java/lang/StringUTF16", "coderFromArrayLen", "([BI)B"⟩ : MethodName) jdk_52_method_15_code 2 (some .byte) ({ frames := 0, cells := 0, slots := 0, locals := 0 } : Room) [] #[(.ref a1), (.int (1 : Int32))] h0 (fun v h L => v = some (.int (1 : Int32)) ∧ h = h0 ∧ L = []) := by
  refine Con.of (plainFor_of_name pn_java_lang_StringUTF16) #[.val (.ref a1), .val (.int (1 : Int32))] (fun m => efcc1_2 m a1 (1 : Int32)) ?_
  intro p e s m below meth c s₁ K hx hby hml hown hnm hret hlk hZ X0 e0
  have N0 := Fr.nil n0
  refine mIN K X0.here hx hby dj52_15_0 rfl rfl ?_
  refine mAN K X0.here hx hby dj52_15_1 rfl rfl rfl ?_
  refine k_len K X0 hx hby hZ (2 : Int32) e0 A_a1 rfl dj52_15_2 rfl ?_
  refine m_isub K X0.here hx hby (-1 : Int32) dj52_15_3 rfl rfl ?_
  refine mB K X0.here hx hby (31 : Int32) dj52_15_4 rfl rfl ?_
  refine m_iushr K X0.here hx hby (1 : Int32) dj52_15_6 rfl rfl ?_
  refine m_i2b K X0.here hx hby (1 : Int32) dj52_15_7 rfl rfl ?_
  exact Go.retN X0 hx hby hlk hret (by simp) dj52_15_8 (by decide) (by decide) (by decide) (⟨rfl, e0, rfl⟩)
theorem dj42_149_0 : decode jdk_42_method_149_code 0 = .ok (.aload_n 0, 1) := by decide +kernel
theorem dj42_149_1 : decode jdk_42_method_149_code 1 = .ok (.invokespecial 1, 3) := by decide +kernel
theorem dj42_149_4 : decode jdk_42_method_149_code 4 = .ok (.iload_n 3, 1) := by decide +kernel
theorem dj42_149_5 : decode jdk_42_method_149_code 5 = .ok (.ifCond .ne 22, 3) := by decide +kernel
theorem dj42_149_27 : decode jdk_42_method_149_code 27 = .ok (.getstatic 38, 3) := by decide +kernel
theorem dj42_149_30 : decode jdk_42_method_149_code 30 = .ok (.ifCond .eq 28, 3) := by decide +kernel
theorem dj42_149_33 : decode jdk_42_method_149_code 33 = .ok (.aload_n 1, 1) := by decide +kernel
theorem dj42_149_34 : decode jdk_42_method_149_code 34 = .ok (.iload_n 2, 1) := by decide +kernel
theorem dj42_149_35 : decode jdk_42_method_149_code 35 = .ok (.iload_n 3, 1) := by decide +kernel
theorem dj42_149_36 : decode jdk_42_method_149_code 36 = .ok (.invokestatic 177, 3) := by decide +kernel
theorem dj42_149_39 : decode jdk_42_method_149_code 39 = .ok (.astore 5, 2) := by decide +kernel
theorem dj42_149_41 : decode jdk_42_method_149_code 41 = .ok (.aload_n 0, 1) := by decide +kernel
theorem dj42_149_42 : decode jdk_42_method_149_code 42 = .ok (.aload 5, 2) := by decide +kernel
theorem dj42_149_44 : decode jdk_42_method_149_code 44 = .ok (.iload_n 3, 1) := by decide +kernel
theorem dj42_149_45 : decode jdk_42_method_149_code 45 = .ok (.invokestatic 47, 3) := by decide +kernel
theorem dj42_149_48 : decode jdk_42_method_149_code 48 = .ok (.putfield 15, 3) := by decide +kernel
theorem dj42_149_51 : decode jdk_42_method_149_code 51 = .ok (.aload_n 0, 1) := by decide +kernel
theorem dj42_149_52 : decode jdk_42_method_149_code 52 = .ok (.aload 5, 2) := by decide +kernel
theorem dj42_149_54 : decode jdk_42_method_149_code 54 = .ok (.putfield 9, 3) := by decide +kernel
theorem dj42_149_57 : decode jdk_42_method_149_code 57 = .ok (.return_, 1) := by decide +kernel
theorem pd_12 : parseMethodDescriptor "([BI)B" = some ⟨[(.array .byte), .int], some .byte⟩ := by decide +kernel
theorem efsi1_0 (m : MethodId) (x0 x1 : Addr) (x2 x3 : Int32) : entryFrame m #[(.ref x0), (.ref x1), (.int x2), (.int x3), .null] 6 = mkF m 0 #[.val (.ref x0), .val (.ref x1), .val (.int x2), .val (.int x3), .val .null, .unset] [] := by first | (simp [entryFrame, mkF, argsToLocals, Value.category]; done) | rfl
theorem csi1_0 (l : Launch) (Z : State) (a0 : Array Value) (hw : ∀ d ∈ tables_1, d.before a0 Z = true) (a1 a2 : Addr) (cz : Int32) (vf : Value) (c0 : Int32) (h0 : Heap) (n0 : Nat) (Z0 : n0 ≤ h0.size) (E_a1 : Exa Z h0 a1 "java/lang/String") (F_value_a1 : Fld Z h0 a1 "java/lang/String" "value" "[B" .null) (F_coder_a1 : Fld Z h0 a1 "java/lang/String" "coder" "B" (.int (0 : Int32))) (A_a2 : Av Z h0 a2 .char [(.int c0)]) (O0 : Old Z n0 h0) (g_a1 : n0 ≤ a1) (SS : SSt Z cz vf) (hg : (255 : Int32) < c0) (hch_0 : nar .char c0 = c0) :
    Con l Z (⟨"java/lang/String", "<init>", "([CIILjava/lang/Void;)V"⟩ : MethodName) jdk_42_method_149_code 6 none ({ frames := 4, cells := 2, slots := 3, locals := 57 } : Room) [] #[(.ref a1), (.ref a2), (.int (0 : Int32)), (.int (1 : Int32)), .null] h0 (fun v h L => ∃ bv : Addr, v = none ∧ Fr n0 L ∧ Keep h0 h [a1] ∧ h0.size ≤ bv ∧ Fld Z h a1 "java/lang/String" "value" "[B" (.ref bv) ∧ Fld Z h a1 "java/lang/String" "coder" "B" (.int (1 : Int32)) ∧ Av Z h bv .byte [(.int (BLO c0)), (.int (BHI c0))]) := by
  refine Con.of (plainFor_of_name pn_java_lang_String) #[.val (.ref a1), .val (.ref a2), .val (.int (0 : Int32)), .val (.int (1 : Int32)), .val .null, .unset] (fun m => efsi1_0 m a1 a2 (0 : Int32) (1 : Int32)) ?_
  intro p e s m below meth c s₁ K hx hby hml hown hnm hret hlk hZ X0 e0
  have N0 := Fr.nil n0
  refine mAN K X0.here hx hby dj42_149_0 rfl rfl rfl ?_
  refine k_initO K X0 hx hby hZ hown (W hw 21 rfl) (W hw 22 rfl) (W hw 23 rfl) e0 dj42_149_1 (by rw [hml]; rfl) rfl (by decide) (LB rfl) fun T1 X1 e1 => ?_
  refine mIN K X1.here hx hby dj42_149_4 rfl rfl ?_
  refine m_ifY K X1.here hx hby (q := 27) dj42_149_5 ((if0 _ _).trans (feq (by decide : ¬ ((1 : Int32) = (0 : Int32)))).2) (by decide) rfl ?_
  refine k_getS K X1 hx hby hZ hown (host := "") (Or.inl (W hw 46 rfl)) Via.refl e1 (SS.cs.ext O0.2) dj42_149_27 rfl fun T2 X2 e2 => ?_
  refine m_ifN K X2.here hx hby (q := 33) dj42_149_30 ((if0 _ _).trans (feq SS.cz).1) rfl ?_
  refine mAN K X2.here hx hby dj42_149_33 rfl rfl rfl ?_
  refine mIN K X2.here hx hby dj42_149_34 rfl rfl ?_
  refine mIN K X2.here hx hby dj42_149_35 rfl rfl ?_
  refine k_callS K X2 hx hby hZ [(.ref a2), (.int (0 : Int32)), (.int (1 : Int32))] [] hown (W hw 72 rfl) (W hw 73 rfl) (W hw 74 rfl) (W hw 75 rfl) (cct1_0 l Z a0 hw a2 cz vf c0 h0 n0 Z0 A_a2 O0 SS hg hch_0) e2 rfl rfl pd_11 rfl dj42_149_36 (by rw [hml]; rfl) rfl (by decide) (by decide) (LB rfl) (by decide) (by decide) fun v3 T3 L3 X3 q3 => ?_
  obtain ⟨b3_bv, rfl, Nq3, K3, sq_b3_bv, Ap3_0⟩ := q3
  have N3 := Fr.app N0 Nq3
  have sz_b3_bv : h0.size ≤ b3_bv := Nat.le_trans (Nat.le_refl _) sq_b3_bv
  have g_b3_bv : n0 ≤ b3_bv := Nat.le_trans Z0 sz_b3_bv
  refine k_some K (w := (.ref b3_bv)) ?_
  refine m_astore K X3.here hx hby #[.val (.ref a1), .val (.ref a2), .val (.int (0 : Int32)), .val (.int (1 : Int32)), .val .null, .val (.ref b3_bv)] dj42_149_39 rfl rfl rfl ?_
  refine mAN K X3.here hx hby dj42_149_41 rfl rfl rfl ?_
  refine mA K X3.here hx hby dj42_149_42 rfl rfl rfl ?_
  refine mIN K X3.here hx hby dj42_149_44 rfl rfl ?_
  refine k_callS K X3 hx hby hZ [(.ref b3_bv), (.int (1 : Int32))] [(.ref a1)] hown (W hw 79 rfl) (W hw 80 rfl) (W hw 74 rfl) (W hw 81 rfl) (ccc1_2 l Z a0 hw b3_bv cz vf (BLO c0) (BHI c0) T3.heap n0 (Nat.le_trans Z0 (Nat.le_trans (Nat.le_refl _) K3.1)) Ap3_0 (O0.keep K3 all0) SS) rfl rfl rfl pd_12 rfl dj42_149_45 (by rw [hml]; rfl) rfl (by decide) (by decide) (LB rfl) (by decide) (by decide) fun v4 T4 L4 X4 q4 => ?_
  obtain ⟨rfl, e4, rfl⟩ := q4
  replace X4 := own_px X4
  refine k_some K (w := (.int (1 : Int32))) ?_
  refine k_putF K X4 hx hby hZ hown (host := "") (Or.inl (W hw 31 rfl)) Via.refl e4 (F_coder_a1.keep K3 nin0) (E_a1.keep K3) (Or.inr ⟨(W hw 27 rfl), rfl, hnm⟩) (W hw 11 rfl) (ty := .byte) (by decide) (by decide) (by decide) dj42_149_48 rfl fun T5 h5 X5 e5 W5 => ?_
  have Fw5 := (F_coder_a1.keep K3 nin0).same W5
  have N5 := Fr.snoc X5 N3 g_a1
  refine mAN K X5.here hx hby dj42_149_51 rfl rfl rfl ?_
  refine mA K X5.here hx hby dj42_149_52 rfl rfl rfl ?_
  refine k_putF K X5 hx hby hZ hown (host := "") (Or.inl (W hw 30 rfl)) Via.refl e5 ((F_value_a1.keep K3 nin0).other W5 (Or.inr (slot_ne (Or.inr (W hw 26 rfl)) (Or.inr (W hw 27 rfl)) (by decide) (t := (.array .byte)) (t' := .byte) (by decide) (by decide)))) ((E_a1.keep K3).wr W5) (Or.inr ⟨(W hw 26 rfl), rfl, hnm⟩) (W hw 11 rfl) (ty := (.array .byte)) (by decide) rfl rfl dj42_149_54 rfl fun T6 h6 X6 e6 W6 => ?_
  have Fw6 := ((F_value_a1.keep K3 nin0).other W5 (Or.inr (slot_ne (Or.inr (W hw 26 rfl)) (Or.inr (W hw 27 rfl)) (by decide) (t := (.array .byte)) (t' := .byte) (by decide) (by decide)))).same W6
  have N6 := Fr.snoc X6 N5 g_a1
  exact Go.retV X6 hx hby hlk hret dj42_149_57 (by decide) (by decide) (by rw [e6]; exact ⟨b3_bv, rfl, N6, ((((Keep.refl h0 [a1]).trans K3 all0).wr W5 (Or.inl (by simp))).wr W6 (Or.inl (by simp))), sz_b3_bv, Fw6, (Fw5.other W6 (Or.inr (slot_ne (Or.inr (W hw 27 rfl)) (Or.inr (W hw 26 rfl)) (by decide) (t := .byte) (t' := (.array .byte)) (by decide) (by decide)))), ((Ap3_0.other W5 (Ne.symm (Nat.ne_of_lt (Nat.lt_of_lt_of_le (Nat.lt_of_lt_of_le E_a1.lt (Nat.le_refl _)) sq_b3_bv)))).other W6 (Ne.symm (Nat.ne_of_lt (Nat.lt_of_lt_of_le (Nat.lt_of_lt_of_le E_a1.lt (Nat.le_refl _)) sq_b3_bv))))⟩)
theorem dj42_3_0 : decode jdk_42_method_3_code 0 = .ok (.aload_n 0, 1) := by decide +kernel
theorem dj42_3_1 : decode jdk_42_method_3_code 1 = .ok (.aload_n 1, 1) := by decide +kernel
theorem dj42_3_2 : decode jdk_42_method_3_code 2 = .ok (.iconst 0, 1) := by decide +kernel
theorem dj42_3_3 : decode jdk_42_method_3_code 3 = .ok (.aload_n 1, 1) := by decide +kernel
theorem dj42_3_4 : decode jdk_42_method_3_code 4 = .ok (.arraylength, 1) := by decide +kernel
theorem dj42_3_5 : decode jdk_42_method_3_code 5 = .ok (.aconst_null, 1) := by decide +kernel
theorem dj42_3_6 : decode jdk_42_method_3_code 6 = .ok (.invokespecial 27, 3) := by decide +kernel
theorem dj42_3_9 : decode jdk_42_method_3_code 9 = .ok (.return_, 1) := by decide +kernel
theorem pd_13 : parseMethodDescriptor "([CIILjava/lang/Void;)V" = some ⟨[(.array .char), .int, .int, (.object "java/lang/Void")], none⟩ := by decide +kernel
theorem efsj1_0 (m : MethodId) (x0 x1 : Addr) : entryFrame m #[(.ref x0), (.ref x1)] 2 = mkF m 0 #[.val (.ref x0), .val (.ref x1)] [] := by first | (simp [entryFrame, mkF, argsToLocals, Value.category]; done) | rfl
theorem csj1_0 (l : Launch) (Z : State) (a0 : Array Value) (hw : ∀ d ∈ tables_1, d.before a0 Z = true) (a1 a2 : Addr) (cz : Int32) (vf : Value) (c0 : Int32) (h0 : Heap) (n0 : Nat) (Z0 : n0 ≤ h0.size) (E_a1 : Exa Z h0 a1 "java/lang/String") (F_value_a1 : Fld Z h0 a1 "java/lang/String" "value" "[B" .null) (F_coder_a1 : Fld Z h0 a1 "java/lang/String" "coder" "B" (.int (0 : Int32))) (A_a2 : Av Z h0 a2 .char [(.int c0)]) (O0 : Old Z n0 h0) (g_a1 : n0 ≤ a1) (SS : SSt Z cz vf) (hg : (255 : Int32) < c0) (hch_0 : nar .char c0 = c0) :
    Con l Z (⟨"java/lang/String", "<init>", "([C)V"⟩ : MethodName) jdk_42_method_3_code 2 none ({ frames := 5, cells := 2, slots := 12, locals := 74 } : Room) [] #[(.ref a1), (.ref a2)] h0 (fun v h L => ∃ bv : Addr, v = none ∧ Fr n0 L ∧ Keep h0 h [a1] ∧ h0.size ≤ bv ∧ Fld Z h a1 "java/lang/String" "value" "[B" (.ref bv) ∧ Fld Z h a1 "java/lang/String" "coder" "B" (.int (1 : Int32)) ∧ Av Z h bv .byte [(.int (BLO c0)), (.int (BHI c0))]) := by
  refine Con.of (plainFor_of_name pn_java_lang_String) #[.val (.ref a1), .val (.ref a2)] (fun m => efsj1_0 m a1 a2) ?_
  intro p e s m below meth c s₁ K hx hby hml hown hnm hret hlk hZ X0 e0
  have N0 := Fr.nil n0
  refine mAN K X0.here hx hby dj42_3_0 rfl rfl rfl ?_
  refine mAN K X0.here hx hby dj42_3_1 rfl rfl rfl ?_
  refine mC K X0.here hx hby (0 : Int32) dj42_3_2 rfl rfl ?_
  refine mAN K X0.here hx hby dj42_3_3 rfl rfl rfl ?_
  refine k_len K X0 hx hby hZ (1 : Int32) e0 A_a2 rfl dj42_3_4 rfl ?_
  refine m_null K X0.here hx hby dj42_3_5 rfl ?_
  refine k_callP K X0 hx hby hZ a1 [(.ref a2), (.int (0 : Int32)), (.int (1 : Int32)), .null] [] hown (W hw 17 rfl) (W hw 18 rfl) (W hw 12 rfl) (W hw 20 rfl) rfl (csi1_0 l Z a0 hw a1 a2 cz vf c0 h0 n0 Z0 E_a1 F_value_a1 F_coder_a1 A_a2 O0 g_a1 SS hg hch_0) e0 rfl rfl pd_13 rfl dj42_3_6 (by rw [hml]; rfl) rfl (by decide) (by decide) (LB rfl) (by decide) (by decide) fun v1 T1 L1 X1 q1 => ?_
  obtain ⟨b1_bv, rfl, Nq1, K1, sq_b1_bv, Fp1_0, Fp1_1, Ap1_0⟩ := q1
  have N1 := Fr.app N0 Nq1
  have sz_b1_bv : h0.size ≤ b1_bv := Nat.le_trans (Nat.le_refl _) sq_b1_bv
  have g_b1_bv : n0 ≤ b1_bv := Nat.le_trans Z0 sz_b1_bv
  refine k_none K ?_
  exact Go.retV X1 hx hby hlk hret dj42_3_9 (by decide) (by decide) (⟨b1_bv, rfl, N1, ((Keep.refl h0 [a1]).trans K1 (allS (Or.inl (by simp)) all0)), sz_b1_bv, Fp1_0, Fp1_1, Ap1_0⟩)
theorem dj52_21_26 : decode jdk_52_method_21_code 26 = .ok (.aload_n 2, 1) := by decide +kernel
theorem dj52_21_27 : decode jdk_52_method_21_code 27 = .ok (.iload_n 3, 1) := by decide +kernel
theorem dj52_21_28 : decode jdk_52_method_21_code 28 = .ok (.iload 6, 2) := by decide +kernel
theorem dj52_21_30 : decode jdk_52_method_21_code 30 = .ok (.i2b, 1) := by decide +kernel
theorem dj52_21_31 : decode jdk_52_method_21_code 31 = .ok (.bastore, 1) := by decide +kernel
theorem dj52_21_32 : decode jdk_52_method_21_code 32 = .ok (.iinc 1 1, 3) := by decide +kernel
theorem dj52_21_35 : decode jdk_52_method_21_code 35 = .ok (.iinc 3 1, 3) := by decide +kernel
theorem dj52_21_38 : decode jdk_52_method_21_code 38 = .ok (.iinc 5 1, 3) := by decide +kernel
theorem dj52_21_41 : decode jdk_52_method_21_code 41 = .ok (.goto (-38), 3) := by decide +kernel
theorem dj52_21_44 : decode jdk_52_method_21_code 44 = .ok (.iload 4, 2) := by decide +kernel
theorem dj52_21_46 : decode jdk_52_method_21_code 46 = .ok (.ireturn, 1) := by decide +kernel
theorem efcf1_1 (m : MethodId) (x0 : Addr) (x1 : Int32) (x2 : Addr) (x3 x4 : Int32) : entryFrame m #[(.ref x0), (.int x1), (.ref x2), (.int x3), (.int x4)] 7 = mkF m 0 #[.val (.ref x0), .val (.int x1), .val (.ref x2), .val (.int x3), .val (.int x4), .unset, .unset] [] := by first | (simp [entryFrame, mkF, argsToLocals, Value.category]; done) | rfl
theorem ccf1_1 (l : Launch) (Z : State) (a0 : Array Value) (hw : ∀ d ∈ tables_1, d.before a0 Z = true) (a1 a3 : Addr) (cz : Int32) (vf : Value) (c0 : Int32) (h0 : Heap) (n0 : Nat) (Z0 : n0 ≤ h0.size) (A_a1 : Av Z h0 a1 .char [(.int c0)]) (A_a3 : Av Z h0 a3 .byte [(.int (0 : Int32))]) (O0 : Old Z n0 h0) (g_a3 : n0 ≤ a3) (ne_a1_a3 : a1 ≠ a3) (SS : SSt Z cz vf) (hl_0 : ¬ ((255 : Int32) < c0)) :
    Con l Z (⟨"java/lang/StringUTF16", "compress", "([CI[BII)I"⟩ : MethodName) jdk_52_method_21_code 7 (some .int) ({ frames := 0, cells := 0, slots := 0, locals := 0 } : Room) [] #[(.ref a1), (.int (0 : Int32)), (.ref a3), (.int (0 : Int32)), (.int (1 : Int32))] h0 (fun v h L => v = some (.int (1 : Int32)) ∧ Fr n0 L ∧ Keep h0 h [a3] ∧ Av Z h a3 .byte [(.int (nar .byte (c0.toInt8.toInt32)))]) := by
  refine Con.of (plainFor_of_name pn_java_lang_StringUTF16) #[.val (.ref a1), .val (.int (0 : Int32)), .val (.ref a3), .val (.int (0 : Int32)), .val (.int (1 : Int32)), .unset, .unset] (fun m => efcf1_1 m a1 (0 : Int32) a3 (0 : Int32) (1 : Int32)) ?_
  intro p e s m below meth c s₁ K hx hby hml hown hnm hret hlk hZ X0 e0
  have N0 := Fr.nil n0
  refine mC K X0.here hx hby (0 : Int32) dj52_21_0 rfl rfl ?_
  refine mS K X0.here hx hby #[.val (.ref a1), .val (.int (0 : Int32)), .val (.ref a3), .val (.int (0 : Int32)), .val (.int (1 : Int32)), .val (.int (0 : Int32)), .unset] dj52_21_1 rfl rfl ?_
  refine mI K X0.here hx hby dj52_21_3 rfl rfl ?_
  refine mI K X0.here hx hby dj52_21_5 rfl rfl ?_
  refine m_icmpN K X0.here hx hby (q := 10) dj52_21_7 (tlt (by decide : (0 : Int32) < (1 : Int32))).2.1 rfl ?_
  refine mAN K X0.here hx hby dj52_21_10 rfl rfl rfl ?_
  refine mIN K X0.here hx hby dj52_21_11 rfl rfl ?_
  refine k_ldC K X0 hx hby hZ e0 A_a1 (v := (.int c0)) (by decide) rfl dj52_21_12 rfl ?_
  refine mS K X0.here hx hby #[.val (.ref a1), .val (.int (0 : Int32)), .val (.ref a3), .val (.int (0 : Int32)), .val (.int (1 : Int32)), .val (.int (0 : Int32)), .val (.int c0)] dj52_21_13 rfl rfl ?_
  refine mI K X0.here hx hby dj52_21_15 rfl rfl ?_
  refine mP K X0.here hx hby (255 : Int32) dj52_21_17 rfl rfl ?_
  refine m_icmpY K X0.here hx hby (q := 26) dj52_21_20 (flt hl_0).2.2.2 (by decide) rfl ?_
  refine mAN K X0.here hx hby dj52_21_26 rfl rfl rfl ?_
  refine mIN K X0.here hx hby dj52_21_27 rfl rfl ?_
  refine mI K X0.here hx hby dj52_21_28 rfl rfl ?_
  refine m_i2b K X0.here hx hby (c0.toInt8.toInt32) dj52_21_30 rfl rfl ?_
  refine k_stB K X0 hx hby hZ e0 A_a3 (by decide) (LB rfl) dj52_21_31 rfl fun T1 h1 X1 e1 W1 V1 => ?_
  replace V1 : Av Z h1 a3 .byte [(.int (nar .byte (c0.toInt8.toInt32)))] := V1
  have N1 := Fr.snoc X1 N0 g_a3
  refine mJ K X1.here hx hby #[.val (.ref a1), .val (.int (1 : Int32)), .val (.ref a3), .val (.int (0 : Int32)), .val (.int (1 : Int32)), .val (.int (0 : Int32)), .val (.int c0)] dj52_21_32 rfl rfl rfl ?_
  refine mJ K X1.here hx hby #[.val (.ref a1), .val (.int (1 : Int32)), .val (.ref a3), .val (.int (1 : Int32)), .val (.int (1 : Int32)), .val (.int (0 : Int32)), .val (.int c0)] dj52_21_35 rfl rfl rfl ?_
  refine mJ K X1.here hx hby #[.val (.ref a1), .val (.int (1 : Int32)), .val (.ref a3), .val (.int (1 : Int32)), .val (.int (1 : Int32)), .val (.int (1 : Int32)), .val (.int c0)] dj52_21_38 rfl rfl rfl ?_
  refine m_goto K X1.here hx hby (q := 3) dj52_21_41 (by decide) rfl ?_
  refine mI K X1.here hx hby dj52_21_3 rfl rfl ?_
  refine mI K X1.here hx hby dj52_21_5 rfl rfl ?_
  refine m_icmpY K X1.here hx hby (q := 44) dj52_21_7 (flt (by decide : ¬ ((1 : Int32) < (1 : Int32)))).2.1 (by decide) rfl ?_
  refine mI K X1.here hx hby dj52_21_44 rfl rfl ?_
  exact Go.retI X1 hx hby hlk hret dj52_21_46 (by decide) (by decide) (by rw [e1]; exact ⟨rfl, N1, ((Keep.refl h0 [a3]).wr W1 (Or.inl (by simp))), V1⟩)
theorem dj52_16_57 : decode jdk_52_method_16_code 57 = .ok (.aload_n 3, 1) := by decide +kernel
theorem dj52_16_58 : decode jdk_52_method_16_code 58 = .ok (.areturn, 1) := by decide +kernel
theorem efct1_1 (m : MethodId) (x0 : Addr) (x1 x2 : Int32) : entryFrame m #[(.ref x0), (.int x1), (.int x2)] 6 = mkF m 0 #[.val (.ref x0), .val (.int x1), .val (.int x2), .unset, .unset, .unset] [] := by first | (simp [entryFrame, mkF, argsToLocals, Value.category]; done) | rfl
theorem cct1_1 (l : Launch) (Z : State) (a0 : Array Value) (hw : ∀ d ∈ tables_1, d.before a0 Z = true) (a1 : Addr) (cz : Int32) (vf : Value) (c0 : Int32) (h0 : Heap) (n0 : Nat) (Z0 : n0 ≤ h0.size) (A_a1 : Av Z h0 a1 .char [(.int c0)]) (O0 : Old Z n0 h0) (SS : SSt Z cz vf) (hl_0 : ¬ ((255 : Int32) < c0)) :
    Con l Z (⟨"java/lang/StringUTF16", "compress", "([CII)[B"⟩ : MethodName) jdk_52_method_16_code 6 (some (.array .byte)) ({ frames := 1, cells := 1, slots := 1, locals := 18 } : Room) [] #[(.ref a1), (.int (0 : Int32)), (.int (1 : Int32))] h0 (fun v h L => ∃ bv : Addr, v = some (.ref bv) ∧ Fr n0 L ∧ Keep h0 h [] ∧ h0.size ≤ bv ∧ Av Z h bv .byte [(.int (nar .byte (c0.toInt8.toInt32)))]) := by
  refine Con.of (plainFor_of_name pn_java_lang_StringUTF16) #[.val (.ref a1), .val (.int (0 : Int32)), .val (.int (1 : Int32)), .unset, .unset, .unset] (fun m => efct1_1 m a1 (0 : Int32) (1 : Int32)) ?_
  intro p e s m below meth c s₁ K hx hby hml hown hnm hret hlk hZ X0 e0
  have N0 := Fr.nil n0
  refine mIN K X0.here hx hby dj52_16_0 rfl rfl ?_
  refine k_newP K X0 hx hby hZ 1 1 (W hw 25 rfl) e0 dj52_16_1 rfl (by decide) rfl (by decide) (by decide) (by decide) (by decide) fun T1 h1 b1 X1 e1 E1 g1 V_b1 => ?_
  have sz_b1 : h0.size ≤ b1 := Nat.le_trans (Nat.le_refl _) (Nat.le_of_eq g1.symm)
  have g_b1 : n0 ≤ b1 := Nat.le_trans Z0 sz_b1
  replace V_b1 : Av Z h1 b1 .byte [(.int (0 : Int32))] := V_b1
  refine m_astoreN K X1.here hx hby #[.val (.ref a1), .val (.int (0 : Int32)), .val (.int (1 : Int32)), .val (.ref b1), .unset, .unset] dj52_16_3 rfl rfl rfl ?_
  refine mAN K X1.here hx hby dj52_16_4 rfl rfl rfl ?_
  refine mIN K X1.here hx hby dj52_16_5 rfl rfl ?_
  refine mAN K X1.here hx hby dj52_16_6 rfl rfl rfl ?_
  refine mC K X1.here hx hby (0 : Int32) dj52_16_7 rfl rfl ?_
  refine mIN K X1.here hx hby dj52_16_8 rfl rfl ?_
  refine k_callS K X1 hx hby hZ [(.ref a1), (.int (0 : Int32)), (.ref b1), (.int (0 : Int32)), (.int (1 : Int32))] [] hown (W hw 76 rfl) (W hw 77 rfl) (W hw 74 rfl) (W hw 78 rfl) (ccf1_1 l Z a0 hw a1 b1 cz vf c0 h1 n0 (Nat.le_trans Z0 (Nat.le_trans (Nat.le_refl _) E1.1)) (A_a1.ext E1) V_b1 (O0.ext E1) g_b1 (Nat.ne_of_lt (Nat.lt_of_lt_of_le (Nat.lt_of_lt_of_le A_a1.lt (Nat.le_refl _)) (Nat.le_of_eq g1.symm))) SS hl_0) e1 rfl rfl pd_10 rfl dj52_16_9 (by rw [hml]; rfl) rfl (by decide) (by decide) (LB rfl) (by decide) (by decide) fun v2 T2 L2 X2 q2 => ?_
  obtain ⟨rfl, Nq2, K2, Ap2_0⟩ := q2
  have N2 := Fr.app N0 Nq2
  refine k_some K (w := (.int (1 : Int32))) ?_
  refine mS K X2.here hx hby #[.val (.ref a1), .val (.int (0 : Int32)), .val (.int (1 : Int32)), .val (.ref b1), .val (.int (1 : Int32)), .unset] dj52_16_12 rfl rfl ?_
  refine mI K X2.here hx hby dj52_16_14 rfl rfl ?_
  refine mIN K X2.here hx hby dj52_16_16 rfl rfl ?_
  refine m_icmpY K X2.here hx hby (q := 57) dj52_16_17 (teq (by decide : (1 : Int32) = (1 : Int32))).1 (by decide) rfl ?_
  refine mAN K X2.here hx hby dj52_16_57 rfl rfl rfl ?_
  exact Go.retO X2 hx hby hlk hret rfl (Or.inr (Or.inr (Or.inr (Or.inr ⟨rfl, rfl, rfl⟩)))) dj52_16_58 (by decide) (by decide) (⟨b1, rfl, N2, (((Keep.refl h0 []).ext E1).trans K2 (allS (Or.inr sz_b1) all0)), sz_b1, Ap2_0⟩)
theorem efcc1_1 (m : MethodId) (x0 : Addr) (x1 : Int32) : entryFrame m #[(.ref x0), (.int x1)] 2 = mkF m 0 #[.val (.ref x0), .val (.int x1)] [] := by first | (simp [entryFrame, mkF, argsToLocals, Value.category]; done) | rfl
theorem ccc1_1 (l : Launch) (Z : State) (a0 : Array Value) (hw : ∀ d ∈ tables_1, d.before a0 Z = true) (a1 : Addr) (cz : Int32) (vf : Value) (y0 : Int32) (h0 : Heap) (n0 : Nat) (Z0 : n0 ≤ h0.size) (A_a1 : Av Z h0 a1 .byte [(.int y0)]) (O0 : Old Z n0 h0) (SS : SSt Z cz vf) :
    Con l Z (⟨"java/lang/StringUTF16", "coderFromArrayLen", "([BI)B"⟩ : MethodName) jdk_52_method_15_code 2 (some .byte) ({ frames := 0, cells := 0, slots := 0, locals := 0 } : Room) [] #[(.ref a1), (.int (1 : Int32))] h0 (fun v h L => v = some (.int (0 : Int32)) ∧ h = h0 ∧ L = []) := by
  refine Con.of (plainFor_of_name pn_java_lang_StringUTF16) #[.val (.ref a1), .val (.int (1 : Int32))] (fun m => efcc1_1 m a1 (1 : Int32)) ?_
  intro p e s m below meth c s₁ K hx hby hml hown hnm hret hlk hZ X0 e0
  have N0 := Fr.nil n0
  refine mIN K X0.here hx hby dj52_15_0 rfl rfl ?_
  refine mAN K X0.here hx hby dj52_15_1 rfl rfl rfl ?_
  refine k_len K X0 hx hby hZ (1 : Int32) e0 A_a1 rfl dj52_15_2 rfl ?_
  refine m_isub K X0.here hx hby (0 : Int32) dj52_15_3 rfl rfl ?_
  refine mB K X0.here hx hby (31 : Int32) dj52_15_4 rfl rfl ?_
  refine m_iushr K X0.here hx hby (0 : Int32) dj52_15_6 rfl rfl ?_
  refine m_i2b K X0.here hx hby (0 : Int32) dj52_15_7 rfl rfl ?_
  exact Go.retN X0 hx hby hlk hret (by simp) dj52_15_8 (by decide) (by decide) (by decide) (⟨rfl, e0, rfl⟩)
theorem efsi1_1 (m : MethodId) (x0 x1 : Addr) (x2 x3 : Int32) : entryFrame m #[(.ref x0), (.ref x1), (.int x2), (.int x3), .null] 6 = mkF m 0 #[.val (.ref x0), .val (.ref x1), .val (.int x2), .val (.int x3), .val .null, .unset] [] := by first | (simp [entryFrame, mkF, argsToLocals, Value.category]; done) | rfl
theorem csi1_1 (l : Launch) (Z : State) (a0 : Array Value) (hw : ∀ d ∈ tables_1, d.before a0 Z = true) (a1 a2 : Addr) (cz : Int32) (vf : Value) (c0 : Int32) (h0 : Heap) (n0 : Nat) (Z0 : n0 ≤ h0.size) (E_a1 : Exa Z h0 a1 "java/lang/String") (F_value_a1 : Fld Z h0 a1 "java/lang/String" "value" "[B" .null) (F_coder_a1 : Fld Z h0 a1 "java/lang/String" "coder" "B" (.int (0 : Int32))) (A_a2 : Av Z h0 a2 .char [(.int c0)]) (O0 : Old Z n0 h0) (g_a1 : n0 ≤ a1) (SS : SSt Z cz vf) (hl_0 : ¬ ((255 : Int32) < c0)) :
    Con l Z (⟨"java/lang/String", "<init>", "([CIILjava/lang/Void;)V"⟩ : MethodName) jdk_42_method_149_code 6 none ({ frames := 2, cells := 1, slots := 1, locals := 35 } : Room) [] #[(.ref a1), (.ref a2), (.int (0 : Int32)), (.int (1 : Int32)), .null] h0 (fun v h L => ∃ bv : Addr, v = none ∧ Fr n0 L ∧ Keep h0 h [a1] ∧ h0.size ≤ bv ∧ Fld Z h a1 "java/lang/String" "value" "[B" (.ref bv) ∧ Fld Z h a1 "java/lang/String" "coder" "B" (.int (0 : Int32)) ∧ Av Z h bv .byte [(.int (nar .byte (c0.toInt8.toInt32)))]) := by
  refine Con.of (plainFor_of_name pn_java_lang_String) #[.val (.ref a1), .val (.ref a2), .val (.int (0 : Int32)), .val (.int (1 : Int32)), .val .null, .unset] (fun m => efsi1_1 m a1 a2 (0 : Int32) (1 : Int32)) ?_
  intro p e s m below meth c s₁ K hx hby hml hown hnm hret hlk hZ X0 e0
  have N0 := Fr.nil n0
  refine mAN K X0.here hx hby dj42_149_0 rfl rfl rfl ?_
  refine k_initO K X0 hx hby hZ hown (W hw 21 rfl) (W hw 22 rfl) (W hw 23 rfl) e0 dj42_149_1 (by rw [hml]; rfl) rfl (by decide) (LB rfl) fun T1 X1 e1 => ?_
  refine mIN K X1.here hx hby dj42_149_4 rfl rfl ?_
  refine m_ifY K X1.here hx hby (q := 27) dj42_149_5 ((if0 _ _).trans (feq (by decide : ¬ ((1 : Int32) = (0 : Int32)))).2) (by decide) rfl ?_
  refine k_getS K X1 hx hby hZ hown (host := "") (Or.inl (W hw 46 rfl)) Via.refl e1 (SS.cs.ext O0.2) dj42_149_27 rfl fun T2 X2 e2 => ?_
  refine m_ifN K X2.here hx hby (q := 33) dj42_149_30 ((if0 _ _).trans (feq SS.cz).1) rfl ?_
  refine mAN K X2.here hx hby dj42_149_33 rfl rfl rfl ?_
  refine mIN K X2.here hx hby dj42_149_34 rfl rfl ?_
  refine mIN K X2.here hx hby dj42_149_35 rfl rfl ?_
  refine k_callS K X2 hx hby hZ [(.ref a2), (.int (0 : Int32)), (.int (1 : Int32))] [] hown (W hw 72 rfl) (W hw 73 rfl) (W hw 74 rfl) (W hw 75 rfl) (cct1_1 l Z a0 hw a2 cz vf c0 h0 n0 Z0 A_a2 O0 SS hl_0) e2 rfl rfl pd_11 rfl dj42_149_36 (by rw [hml]; rfl) rfl (by decide) (by decide) (LB rfl) (by decide) (by decide) fun v3 T3 L3 X3 q3 => ?_
  obtain ⟨b3_bv, rfl, Nq3, K3, sq_b3_bv, Ap3_0⟩ := q3
  have N3 := Fr.app N0 Nq3
  have sz_b3_bv : h0.size ≤ b3_bv := Nat.le_trans (Nat.le_refl _) sq_b3_bv
  have g_b3_bv : n0 ≤ b3_bv := Nat.le_trans Z0 sz_b3_bv
  refine k_some K (w := (.ref b3_bv)) ?_
  refine m_astore K X3.here hx hby #[.val (.ref a1), .val (.ref a2), .val (.int (0 : Int32)), .val (.int (1 : Int32)), .val .null, .val (.ref b3_bv)] dj42_149_39 rfl rfl rfl ?_
  refine mAN K X3.here hx hby dj42_149_41 rfl rfl rfl ?_
  refine mA K X3.here hx hby dj42_149_42 rfl rfl rfl ?_
  refine mIN K X3.here hx hby dj42_149_44 rfl rfl ?_
  refine k_callS K X3 hx hby hZ [(.ref b3_bv), (.int (1 : Int32))] [(.ref a1)] hown (W hw 79 rfl) (W hw 80 rfl) (W hw 74 rfl) (W hw 81 rfl) (ccc1_1 l Z a0 hw b3_bv cz vf (nar .byte (c0.toInt8.toInt32)) T3.heap n0 (Nat.le_trans Z0 (Nat.le_trans (Nat.le_refl _) K3.1)) Ap3_0 (O0.keep K3 all0) SS) rfl rfl rfl pd_12 rfl dj42_149_45 (by rw [hml]; rfl) rfl (by decide) (by decide) (LB rfl) (by decide) (by decide) fun v4 T4 L4 X4 q4 => ?_
  obtain ⟨rfl, e4, rfl⟩ := q4
  replace X4 := own_px X4
  refine k_some K (w := (.int (0 : Int32))) ?_
  refine k_putF K X4 hx hby hZ hown (host := "") (Or.inl (W hw 31 rfl)) Via.refl e4 (F_coder_a1.keep K3 nin0) (E_a1.keep K3) (Or.inr ⟨(W hw 27 rfl), rfl, hnm⟩) (W hw 11 rfl) (ty := .byte) (by decide) (by decide) (by decide) dj42_149_48 rfl fun T5 h5 X5 e5 W5 => ?_
  have Fw5 := (F_coder_a1.keep K3 nin0).same W5
  have N5 := Fr.snoc X5 N3 g_a1
  refine mAN K X5.here hx hby dj42_149_51 rfl rfl rfl ?_
  refine mA K X5.here hx hby dj42_149_52 rfl rfl rfl ?_
  refine k_putF K X5 hx hby hZ hown (host := "") (Or.inl (W hw 30 rfl)) Via.refl e5 ((F_value_a1.keep K3 nin0).other W5 (Or.inr (slot_ne (Or.inr (W hw 26 rfl)) (Or.inr (W hw 27 rfl)) (by decide) (t := (.array .byte)) (t' := .byte) (by decide) (by decide)))) ((E_a1.keep K3).wr W5) (Or.inr ⟨(W hw 26 rfl), rfl, hnm⟩) (W hw 11 rfl) (ty := (.array .byte)) (by decide) rfl rfl dj42_149_54 rfl fun T6 h6 X6 e6 W6 => ?_
  have Fw6 := ((F_value_a1.keep K3 nin0).other W5 (Or.inr (slot_ne (Or.inr (W hw 26 rfl)) (Or.inr (W hw 27 rfl)) (by decide) (t := (.array .byte)) (t' := .byte) (by decide) (by decide)))).same W6
  have N6 := Fr.snoc X6 N5 g_a1
  exact Go.retV X6 hx hby hlk hret dj42_149_57 (by decide) (by decide) (by rw [e6]; exact ⟨b3_bv, rfl, N6, ((((Keep.refl h0 [a1]).trans K3 all0).wr W5 (Or.inl (by simp))).wr W6 (Or.inl (by simp))), sz_b3_bv, Fw6, (Fw5.other W6 (Or.inr (slot_ne (Or.inr (W hw 27 rfl)) (Or.inr (W hw 26 rfl)) (by decide) (t := .byte) (t' := (.array .byte)) (by decide) (by decide)))), ((Ap3_0.other W5 (Ne.symm (Nat.ne_of_lt (Nat.lt_of_lt_of_le (Nat.lt_of_lt_of_le E_a1.lt (Nat.le_refl _)) sq_b3_bv)))).other W6 (Ne.symm (Nat.ne_of_lt (Nat.lt_of_lt_of_le (Nat.lt_of_lt_of_le E_a1.lt (Nat.le_refl _)) sq_b3_bv))))⟩)
theorem efsj1_1 (m : MethodId) (x0 x1 : Addr) : entryFrame m #[(.ref x0), (.ref x1)] 2 = mkF m 0 #[.val (.ref x0), .val (.ref x1)] [] := by first | (simp [entryFrame, mkF, argsToLocals, Value.category]; done) | rfl
theorem csj1_1 (l : Launch) (Z : State) (a0 : Array Value) (hw : ∀ d ∈ tables_1, d.before a0 Z = true) (a1 a2 : Addr) (cz : Int32) (vf : Value) (c0 : Int32) (h0 : Heap) (n0 : Nat) (Z0 : n0 ≤ h0.size) (E_a1 : Exa Z h0 a1 "java/lang/String") (F_value_a1 : Fld Z h0 a1 "java/lang/String" "value" "[B" .null) (F_coder_a1 : Fld Z h0 a1 "java/lang/String" "coder" "B" (.int (0 : Int32))) (A_a2 : Av Z h0 a2 .char [(.int c0)]) (O0 : Old Z n0 h0) (g_a1 : n0 ≤ a1) (SS : SSt Z cz vf) (hl_0 : ¬ ((255 : Int32) < c0)) :
    Con l Z (⟨"java/lang/String", "<init>", "([C)V"⟩ : MethodName) jdk_42_method_3_code 2 none ({ frames := 5, cells := 2, slots := 12, locals := 74 } : Room) [] #[(.ref a1), (.ref a2)] h0 (fun v h L => ∃ bv : Addr, v = none ∧ Fr n0 L ∧ Keep h0 h [a1] ∧ h0.size ≤ bv ∧ Fld Z h a1 "java/lang/String" "value" "[B" (.ref bv) ∧ Fld Z h a1 "java/lang/String" "coder" "B" (.int (0 : Int32)) ∧ Av Z h bv .byte [(.int (nar .byte (c0.toInt8.toInt32)))]) := by
  refine Con.of (plainFor_of_name pn_java_lang_String) #[.val (.ref a1), .val (.ref a2)] (fun m => efsj1_1 m a1 a2) ?_
  intro p e s m below meth c s₁ K hx hby hml hown hnm hret hlk hZ X0 e0
  have N0 := Fr.nil n0
  refine mAN K X0.here hx hby dj42_3_0 rfl rfl rfl ?_
  refine mAN K X0.here hx hby dj42_3_1 rfl rfl rfl ?_
  refine mC K X0.here hx hby (0 : Int32) dj42_3_2 rfl rfl ?_
  refine mAN K X0.here hx hby dj42_3_3 rfl rfl rfl ?_
  refine k_len K X0 hx hby hZ (1 : Int32) e0 A_a2 rfl dj42_3_4 rfl ?_
  refine m_null K X0.here hx hby dj42_3_5 rfl ?_
  refine k_callP K X0 hx hby hZ a1 [(.ref a2), (.int (0 : Int32)), (.int (1 : Int32)), .null] [] hown (W hw 17 rfl) (W hw 18 rfl) (W hw 12 rfl) (W hw 20 rfl) rfl (csi1_1 l Z a0 hw a1 a2 cz vf c0 h0 n0 Z0 E_a1 F_value_a1 F_coder_a1 A_a2 O0 g_a1 SS hl_0) e0 rfl rfl pd_13 rfl dj42_3_6 (by rw [hml]; rfl) rfl (by decide) (by decide) (LB rfl) (by decide) (by decide) fun v1 T1 L1 X1 q1 => ?_
  obtain ⟨b1_bv, rfl, Nq1, K1, sq_b1_bv, Fp1_0, Fp1_1, Ap1_0⟩ := q1
  have N1 := Fr.app N0 Nq1
  have sz_b1_bv : h0.size ≤ b1_bv := Nat.le_trans (Nat.le_refl _) sq_b1_bv
  have g_b1_bv : n0 ≤ b1_bv := Nat.le_trans Z0 sz_b1_bv
  refine k_none K ?_
  exact Go.retV X1 hx hby hlk hret dj42_3_9 (by decide) (by decide) (⟨b1_bv, rfl, N1, ((Keep.refl h0 [a1]).trans K1 (allS (Or.inl (by simp)) all0)), sz_b1_bv, Fp1_0, Fp1_1, Ap1_0⟩)
theorem efcf2_0 (m : MethodId) (x0 : Addr) (x1 : Int32) (x2 : Addr) (x3 x4 : Int32) : entryFrame m #[(.ref x0), (.int x1), (.ref x2), (.int x3), (.int x4)] 7 = mkF m 0 #[.val (.ref x0), .val (.int x1), .val (.ref x2), .val (.int x3), .val (.int x4), .unset, .unset] [] := by first | (simp [entryFrame, mkF, argsToLocals, Value.category]; done) | rfl
theorem ccf2_0 (l : Launch) (Z : State) (a0 : Array Value) (hw : ∀ d ∈ tables_1, d.before a0 Z = true) (a1 a3 : Addr) (cz : Int32) (vf : Value) (c0 c1 : Int32) (h0 : Heap) (n0 : Nat) (Z0 : n0 ≤ h0.size) (A_a1 : Av Z h0 a1 .char [(.int c0), (.int c1)]) (A_a3 : Av Z h0 a3 .byte [(.int (0 : Int32)), (.int (0 : Int32))]) (O0 : Old Z n0 h0) (g_a3 : n0 ≤ a3) (ne_a1_a3 : a1 ≠ a3) (SS : SSt Z cz vf) (hg : (255 : Int32) < c0) (hch_0 : nar .char c0 = c0) (hch_1 : nar .char c1 = c1) :
    Con l Z (⟨"java/lang/StringUTF16", "compress", "([CI[BII)I"⟩ : MethodName) jdk_52_method_21_code 7 (some .int) ({ frames := 0, cells := 0, slots := 0, locals := 0 } : Room) [] #[(.ref a1), (.int (0 : Int32)), (.ref a3), (.int (0 : Int32)), (.int (2 : Int32))] h0 (fun v h L => v = some (.int (0 : Int32)) ∧ Fr n0 L ∧ Keep h0 h [a3] ∧ Av Z h a3 .byte [(.int (0 : Int32)), (.int (0 : Int32))]) := by
  refine Con.of (plainFor_of_name pn_java_lang_StringUTF16) #[.val (.ref a1), .val (.int (0 : Int32)), .val (.ref a3), .val (.int (0 : Int32)), .val (.int (2 : Int32)), .unset, .unset] (fun m => efcf2_0 m a1 (0 : Int32) a3 (0 : Int32) (2 : Int32)) ?_
  intro p e s m below meth c s₁ K hx hby hml hown hnm hret hlk hZ X0 e0
  have N0 := Fr.nil n0
  refine mC K X0.here hx hby (0 : Int32) dj52_21_0 rfl rfl ?_
  refine mS K X0.here hx hby #[.val (.ref a1), .val (.int (0 : Int32)), .val (.ref a3), .val (.int (0 : Int32)), .val (.int (2 : Int32)), .val (.int (0 : Int32)), .unset] dj52_21_1 rfl rfl ?_
  refine mI K X0.here hx hby dj52_21_3 rfl rfl ?_
  refine mI K X0.here hx hby dj52_21_5 rfl rfl ?_
  refine m_icmpN K X0.here hx hby (q := 10) dj52_21_7 (tlt (by decide : (0 : Int32) < (2 : Int32))).2.1 rfl ?_
  refine mAN K X0.here hx hby dj52_21_10 rfl rfl rfl ?_
  refine mIN K X0.here hx hby dj52_21_11 rfl rfl ?_
  refine k_ldC K X0 hx hby hZ e0 A_a1 (v := (.int c0)) (by decide) rfl dj52_21_12 rfl ?_
  refine mS K X0.here hx hby #[.val (.ref a1), .val (.int (0 : Int32)), .val (.ref a3), .val (.int (0 : Int32)), .val (.int (2 : Int32)), .val (.int (0 : Int32)), .val (.int c0)] dj52_21_13 rfl rfl ?_
  refine mI K X0.here hx hby dj52_21_15 rfl rfl ?_
  refine mP K X0.here hx hby (255 : Int32) dj52_21_17 rfl rfl ?_
  refine m_icmpN K X0.here hx hby (q := 23) dj52_21_20 (tlt hg).2.2.2 rfl ?_
  refine mI K X0.here hx hby dj52_21_23 rfl rfl ?_
  exact Go.retI X0 hx hby hlk hret dj52_21_25 (by decide) (by decide) (by rw [e0]; exact ⟨rfl, N0, (Keep.refl h0 [a3]), A_a3⟩)
theorem efct2_0 (m : MethodId) (x0 : Addr) (x1 x2 : Int32) : entryFrame m #[(.ref x0), (.int x1), (.int x2)] 6 = mkF m 0 #[.val (.ref x0), .val (.int x1), .val (.int x2), .unset, .unset, .unset] [] := by first | (simp [entryFrame, mkF, argsToLocals, Value.category]; done) | rfl
theorem cct2_0 (l : Launch) (Z : State) (a0 : Array Value) (hw : ∀ d ∈ tables_1, d.before a0 Z = true) (a1 : Addr) (cz : Int32) (vf : Value) (c0 c1 : Int32) (h0 : Heap) (n0 : Nat) (Z0 : n0 ≤ h0.size) (A_a1 : Av Z h0 a1 .char [(.int c0), (.int c1)]) (O0 : Old Z n0 h0) (SS : SSt Z cz vf) (hg : (255 : Int32) < c0) (hch_0 : nar .char c0 = c0) (hch_1 : nar .char c1 = c1) :
    Con l Z (⟨"java/lang/StringUTF16", "compress", "([CII)[B"⟩ : MethodName) jdk_52_method_16_code 6 (some (.array .byte)) ({ frames := 3, cells := 2, slots := 6, locals := 40 } : Room) [] #[(.ref a1), (.int (0 : Int32)), (.int (2 : Int32))] h0 (fun v h L => ∃ bv : Addr, v = some (.ref bv) ∧ Fr n0 L ∧ Keep h0 h [] ∧ h0.size ≤ bv ∧ Av Z h bv .byte [(.int (BLO c0)), (.int (BHI c0)), (.int (BLO c1)), (.int (BHI c1))]) := by
  refine Con.of (plainFor_of_name pn_java_lang_StringUTF16) #[.val (.ref a1), .val (.int (0 : Int32)), .val (.int (2 : Int32)), .unset, .unset, .unset] (fun m => efct2_0 m a1 (0 : Int32) (2 : Int32)) ?_
  intro p e s m below meth c s₁ K hx hby hml hown hnm hret hlk hZ X0 e0
  have N0 := Fr.nil n0
  refine mIN K X0.here hx hby dj52_16_0 rfl rfl ?_
  refine k_newP K X0 hx hby hZ 2 2 (W hw 25 rfl) e0 dj52_16_1 rfl (by decide) rfl (by decide) (by decide) (by decide) (by decide) fun T1 h1 b1 X1 e1 E1 g1 V_b1 => ?_
  have sz_b1 : h0.size ≤ b1 := Nat.le_trans (Nat.le_refl _) (Nat.le_of_eq g1.symm)
  have g_b1 : n0 ≤ b1 := Nat.le_trans Z0 sz_b1
  replace V_b1 : Av Z h1 b1 .byte [(.int (0 : Int32)), (.int (0 : Int32))] := V_b1
  refine m_astoreN K X1.here hx hby #[.val (.ref a1), .val (.int (0 : Int32)), .val (.int (2 : Int32)), .val (.ref b1), .unset, .unset] dj52_16_3 rfl rfl rfl ?_
  refine mAN K X1.here hx hby dj52_16_4 rfl rfl rfl ?_
  refine mIN K X1.here hx hby dj52_16_5 rfl rfl ?_
  refine mAN K X1.here hx hby dj52_16_6 rfl rfl rfl ?_
  refine mC K X1.here hx hby (0 : Int32) dj52_16_7 rfl rfl ?_
  refine mIN K X1.here hx hby dj52_16_8 rfl rfl ?_
  refine k_callS K X1 hx hby hZ [(.ref a1), (.int (0 : Int32)), (.ref b1), (.int (0 : Int32)), (.int (2 : Int32))] [] hown (W hw 76 rfl) (W hw 77 rfl) (W hw 74 rfl) (W hw 78 rfl) (ccf2_0 l Z a0 hw a1 b1 cz vf c0 c1 h1 n0 (Nat.le_trans Z0 (Nat.le_trans (Nat.le_refl _) E1.1)) (A_a1.ext E1) V_b1 (O0.ext E1) g_b1 (Nat.ne_of_lt (Nat.lt_of_lt_of_le (Nat.lt_of_lt_of_le A_a1.lt (Nat.le_refl _)) (Nat.le_of_eq g1.symm))) SS hg hch_0 hch_1) e1 rfl rfl pd_10 rfl dj52_16_9 (by rw [hml]; rfl) rfl (by decide) (by decide) (LB rfl) (by decide) (by decide) fun v2 T2 L2 X2 q2 => ?_
  obtain ⟨rfl, Nq2, K2, Ap2_0⟩ := q2
  have N2 := Fr.app N0 Nq2
  refine k_some K (w := (.int (0 : Int32))) ?_
  refine mS K X2.here hx hby #[.val (.ref a1), .val (.int (0 : Int32)), .val (.int (2 : Int32)), .val (.ref b1), .val (.int (0 : Int32)), .unset] dj52_16_12 rfl rfl ?_
  refine mI K X2.here hx hby dj52_16_14 rfl rfl ?_
  refine mIN K X2.here hx hby dj52_16_16 rfl rfl ?_
  refine m_icmpN K X2.here hx hby (q := 20) dj52_16_17 (feq (by decide : ¬ ((0 : Int32) = (2 : Int32)))).1 rfl ?_
  refine mAN K X2.here hx hby dj52_16_20 rfl rfl rfl ?_
  refine mIN K X2.here hx hby dj52_16_21 rfl rfl ?_
  refine mIN K X2.here hx hby dj52_16_22 rfl rfl ?_
  refine k_callS K X2 hx hby hZ [(.ref a1), (.int (0 : Int32)), (.int (2 : Int32))] [] hown (W hw 109 rfl) (W hw 110 rfl) (W hw 74 rfl) (W hw 111 rfl) (ctb2 l Z a0 hw a1 cz vf c0 c1 T2.heap n0 (Nat.le_trans Z0 (Nat.le_trans (Nat.le_trans (Nat.le_refl _) E1.1) K2.1)) ((A_a1.ext E1).keep K2 (ninS (Nat.ne_of_lt (Nat.lt_of_lt_of_le (Nat.lt_of_lt_of_le A_a1.lt (Nat.le_refl _)) (Nat.le_of_eq g1.symm))) nin0)) ((O0.ext E1).keep K2 (allS g_b1 all0)) SS) rfl rfl rfl pd_11 rfl dj52_16_23 (by rw [hml]; rfl) rfl (by decide) (by decide) (LB rfl) (by decide) (by decide) fun v3 T3 L3 X3 q3 => ?_
  obtain ⟨b3_bv, rfl, Nq3, K3, sq_b3_bv, Ap3_0⟩ := q3
  have N3 := Fr.app N2 Nq3
  have sz_b3_bv : h0.size ≤ b3_bv := Nat.le_trans (Nat.le_trans (Nat.le_trans (Nat.le_refl _) E1.1) K2.1) sq_b3_bv
  have g_b3_bv : n0 ≤ b3_bv := Nat.le_trans Z0 sz_b3_bv
  refine k_some K (w := (.ref b3_bv)) ?_
  refine m_astore K X3.here hx hby #[.val (.ref a1), .val (.int (0 : Int32)), .val (.int (2 : Int32)), .val (.ref b1), .val (.int (0 : Int32)), .val (.ref b3_bv)] dj52_16_26 rfl rfl rfl ?_
  refine mA K X3.here hx hby dj52_16_28 rfl rfl rfl ?_
  refine mI K X3.here hx hby dj52_16_30 rfl rfl ?_
  refine k_callS K X3 hx hby hZ [(.ref b3_bv), (.int (0 : Int32))] [] hown (W hw 125 rfl) (W hw 126 rfl) (W hw 74 rfl) (W hw 127 rfl) (cgc2_0 l Z a0 hw b3_bv cz vf (BLO c0) (BHI c0) (BLO c1) (BHI c1) T3.heap n0 (Nat.le_trans Z0 (Nat.le_trans (Nat.le_trans (Nat.le_trans (Nat.le_refl _) E1.1) K2.1) K3.1)) Ap3_0 (((O0.ext E1).keep K2 (allS g_b1 all0)).keep K3 all0) SS) rfl rfl rfl pd_5 rfl dj52_16_32 (by rw [hml]; rfl) rfl (by decide) (by decide) (LB rfl) (by decide) (by decide) fun v4 T4 L4 X4 q4 => ?_
  obtain ⟨rfl, e4, rfl⟩ := q4
  replace X4 := own_px X4
  refine k_some K (w := (.int (GCH (BLO c0) (BHI c0)))) ?_
  refine mP K X4.here hx hby (255 : Int32) dj52_16_35 rfl rfl ?_
  refine m_icmpY K X4.here hx hby (q := 54) dj52_16_38 (tlt (own_rgt c0 hch_0 hg)).2.2.1 (by decide) rfl ?_
  refine mA K X4.here hx hby dj52_16_54 rfl rfl rfl ?_
  exact Go.retO X4 hx hby hlk hret rfl (Or.inr (Or.inr (Or.inr (Or.inr ⟨rfl, rfl, rfl⟩)))) dj52_16_56 (by decide) (by decide) (by rw [e4]; exact ⟨b3_bv, rfl, N3, ((((Keep.refl h0 []).ext E1).trans K2 (allS (Or.inr sz_b1) all0)).trans K3 all0), sz_b3_bv, Ap3_0⟩)
theorem efcc2_4 (m : MethodId) (x0 : Addr) (x1 : Int32) : entryFrame m #[(.ref x0), (.int x1)] 2 = mkF m 0 #[.val (.ref x0), .val (.int x1)] [] := by first | (simp [entryFrame, mkF, argsToLocals, Value.category]; done) | rfl
theorem ccc2_4 (l : Launch) (Z : State) (a0 : Array Value) (hw : ∀ d ∈ tables_1, d.before a0 Z = true) (a1 : Addr) (cz : Int32) (vf : Value) (y0 y1 : Int32) (y2 y3 : Int32) (h0 : Heap) (n0 : Nat) (Z0 : n0 ≤ h0.size) (A_a1 : Av Z h0 a1 .byte [(.int y0), (.int y1), (.int y2), (.int y3)]) (O0 : Old Z n0 h0) (SS : SSt Z cz vf) :
    Con l Z (⟨"java/lang/StringUTF16", "coderFromArrayLen", "([BI)B"⟩ : MethodName) jdk_52_method_15_code 2 (some .byte) ({ frames := 0, cells := 0, slots := 0, locals := 0 } : Room) [] #[(.ref a1), (.int (2 : Int32))] h0 (fun v h L => v = some (.int (1 : Int32)) ∧ h = h0 ∧ L = []) := by
  refine Con.of (plainFor_of_name pn_java_lang_StringUTF16) #[.val (.ref a1), .val (.int (2 : Int32))] (fun m => efcc2_4 m a1 (2 : Int32)) ?_
  intro p e s m below meth c s₁ K hx hby hml hown hnm hret hlk hZ X0 e0
  have N0 := Fr.nil n0
  refine mIN K X0.here hx hby dj52_15_0 rfl rfl ?_
  refine mAN K X0.here hx hby dj52_15_1 rfl rfl rfl ?_
  refine k_len K X0 hx hby hZ (4 : Int32) e0 A_a1 rfl dj52_15_2 rfl ?_
  refine m_isub K X0.here hx hby (-2 : Int32) dj52_15_3 rfl rfl ?_
  refine mB K X0.here hx hby (31 : Int32) dj52_15_4 rfl rfl ?_
  refine m_iushr K X0.here hx hby (1 : Int32) dj52_15_6 rfl rfl ?_
  refine m_i2b K X0.here hx hby (1 : Int32) dj52_15_7 rfl rfl ?_
  exact Go.retN X0 hx hby hlk hret (by simp) dj52_15_8 (by decide) (by decide) (by decide) (⟨rfl, e0, rfl⟩)
theorem efsi2_0 (m : MethodId) (x0 x1 : Addr) (x2 x3 : Int32) : entryFrame m #[(.ref x0), (.ref x1), (.int x2), (.int x3), .null] 6 = mkF m 0 #[.val (.ref x0), .val (.ref x1), .val (.int x2), .val (.int x3), .val .null, .unset] [] := by first | (simp [entryFrame, mkF, argsToLocals, Value.category]; done) | rfl
theorem csi2_0 (l : Launch) (Z : State) (a0 : Array Value) (hw : ∀ d ∈ tables_1, d.before a0 Z = true) (a1 a2 : Addr) (cz : Int32) (vf : Value) (c0 c1 : Int32) (h0 : Heap) (n0 : Nat) (Z0 : n0 ≤ h0.size) (E_a1 : Exa Z h0 a1 "java/lang/String") (F_value_a1 : Fld Z h0 a1 "java/lang/String" "value" "[B" .null) (F_coder_a1 : Fld Z h0 a1 "java/lang/String" "coder" "B" (.int (0 : Int32))) (A_a2 : Av Z h0 a2 .char [(.int c0), (.int c1)]) (O0 : Old Z n0 h0) (g_a1 : n0 ≤ a1) (SS : SSt Z cz vf) (hg : (255 : Int32) < c0) (hch_0 : nar .char c0 = c0) (hch_1 : nar .char c1 = c1) :
    Con l Z (⟨"java/lang/String", "<init>", "([CIILjava/lang/Void;)V"⟩ : MethodName) jdk_42_method_149_code 6 none ({ frames := 4, cells := 2, slots := 6, locals := 57 } : Room) [] #[(.ref a1), (.ref a2), (.int (0 : Int32)), (.int (2 : Int32)), .null] h0 (fun v h L => ∃ bv : Addr, v = none ∧ Fr n0 L ∧ Keep h0 h [a1] ∧ h0.size ≤ bv ∧ Fld Z h a1 "java/lang/String" "value" "[B" (.ref bv) ∧ Fld Z h a1 "java/lang/String" "coder" "B" (.int (1 : Int32)) ∧ Av Z h bv .byte [(.int (BLO c0)), (.int (BHI c0)), (.int (BLO c1)), (.int (BHI c1))]) := by
  refine Con.of (plainFor_of_name pn_java_lang_String) #[.val (.ref a1), .val (.ref a2), .val (.int (0 : Int32)), .val (.int (2 : Int32)), .val .null, .unset] (fun m => efsi2_0 m a1 a2 (0 : Int32) (2 : Int32)) ?_
  intro p e s m below meth c s₁ K hx hby hml hown hnm hret hlk hZ X0 e0
  have N0 := Fr.nil n0
  refine mAN K X0.here hx hby dj42_149_0 rfl rfl rfl ?_
  refine k_initO K X0 hx hby hZ hown (W hw 21 rfl) (W hw 22 rfl) (W hw 23 rfl) e0 dj42_149_1 (by rw [hml]; rfl) rfl (by decide) (LB rfl) fun T1 X1 e1 => ?_
  refine mIN K X1.here hx hby dj42_149_4 rfl rfl ?_
  refine m_ifY K X1.here hx hby (q := 27) dj42_149_5 ((if0 _ _).trans (feq (by decide : ¬ ((2 : Int32) = (0 : Int32)))).2) (by decide) rfl ?_
  refine k_getS K X1 hx hby hZ hown (host := "") (Or.inl (W hw 46 rfl)) Via.refl e1 (SS.cs.ext O0.2) dj42_149_27 rfl fun T2 X2 e2 => ?_
  refine m_ifN K X2.here hx hby (q := 33) dj42_149_30 ((if0 _ _).trans (feq SS.cz).1) rfl ?_
  refine mAN K X2.here hx hby dj42_149_33 rfl rfl rfl ?_
  refine mIN K X2.here hx hby dj42_149_34 rfl rfl ?_
  refine mIN K X2.here hx hby dj42_149_35 rfl rfl ?_
  refine k_callS K X2 hx hby hZ [(.ref a2), (.int (0 : Int32)), (.int (2 : Int32))] [] hown (W hw 72 rfl) (W hw 73 rfl) (W hw 74 rfl) (W hw 75 rfl) (cct2_0 l Z a0 hw a2 cz vf c0 c1 h0 n0 Z0 A_a2 O0 SS hg hch_0 hch_1) e2 rfl rfl pd_11 rfl dj42_149_36 (by rw [hml]; rfl) rfl (by decide) (by decide) (LB rfl) (by decide) (by decide) fun v3 T3 L3 X3 q3 => ?_
  obtain ⟨b3_bv, rfl, Nq3, K3, sq_b3_bv, Ap3_0⟩ := q3
  have N3 := Fr.app N0 Nq3
  have sz_b3_bv : h0.size ≤ b3_bv := Nat.le_trans (Nat.le_refl _) sq_b3_bv
  have g_b3_bv : n0 ≤ b3_bv := Nat.le_trans Z0 sz_b3_bv
  refine k_some K (w := (.ref b3_bv)) ?_
  refine m_astore K X3.here hx hby #[.val (.ref a1), .val (.ref a2), .val (.int (0 : Int32)), .val (.int (2 : Int32)), .val .null, .val (.ref b3_bv)] dj42_149_39 rfl rfl rfl ?_
  refine mAN K X3.here hx hby dj42_149_41 rfl rfl rfl ?_
  refine mA K X3.here hx hby dj42_149_42 rfl rfl rfl ?_
  refine mIN K X3.here hx hby dj42_149_44 rfl rfl ?_
  refine k_callS K X3 hx hby hZ [(.ref b3_bv), (.int (2 : Int32))] [(.ref a1)] hown (W hw 79 rfl) (W hw 80 rfl) (W hw 74 rfl) (W hw 81 rfl) (ccc2_4 l Z a0 hw b3_bv cz vf (BLO c0) (BHI c0) (BLO c1) (BHI c1) T3.heap n0 (Nat.le_trans Z0 (Nat.le_trans (Nat.le_refl _) K3.1)) Ap3_0 (O0.keep K3 all0) SS) rfl rfl rfl pd_12 rfl dj42_149_45 (by rw [hml]; rfl) rfl (by decide) (by decide) (LB rfl) (by decide) (by decide) fun v4 T4 L4 X4 q4 => ?_
  obtain ⟨rfl, e4, rfl⟩ := q4
  replace X4 := own_px X4
  refine k_some K (w := (.int (1 : Int32))) ?_
  refine k_putF K X4 hx hby hZ hown (host := "") (Or.inl (W hw 31 rfl)) Via.refl e4 (F_coder_a1.keep K3 nin0) (E_a1.keep K3) (Or.inr ⟨(W hw 27 rfl), rfl, hnm⟩) (W hw 11 rfl) (ty := .byte) (by decide) (by decide) (by decide) dj42_149_48 rfl fun T5 h5 X5 e5 W5 => ?_
  have Fw5 := (F_coder_a1.keep K3 nin0).same W5
  have N5 := Fr.snoc X5 N3 g_a1
  refine mAN K X5.here hx hby dj42_149_51 rfl rfl rfl ?_
  refine mA K X5.here hx hby dj42_149_52 rfl rfl rfl ?_
  refine k_putF K X5 hx hby hZ hown (host := "") (Or.inl (W hw 30 rfl)) Via.refl e5 ((F_value_a1.keep K3 nin0).other W5 (Or.inr (slot_ne (Or.inr (W hw 26 rfl)) (Or.inr (W hw 27 rfl)) (by decide) (t := (.array .byte)) (t' := .byte) (by decide) (by decide)))) ((E_a1.keep K3).wr W5) (Or.inr ⟨(W hw 26 rfl), rfl, hnm⟩) (W hw 11 rfl) (ty := (.array .byte)) (by decide) rfl rfl dj42_149_54 rfl fun T6 h6 X6 e6 W6 => ?_
  have Fw6 := ((F_value_a1.keep K3 nin0).other W5 (Or.inr (slot_ne (Or.inr (W hw 26 rfl)) (Or.inr (W hw 27 rfl)) (by decide) (t := (.array .byte)) (t' := .byte) (by decide) (by decide)))).same W6
  have N6 := Fr.snoc X6 N5 g_a1
  exact Go.retV X6 hx hby hlk hret dj42_149_57 (by decide) (by decide) (by rw [e6]; exact ⟨b3_bv, rfl, N6, ((((Keep.refl h0 [a1]).trans K3 all0).wr W5 (Or.inl (by simp))).wr W6 (Or.inl (by simp))), sz_b3_bv, Fw6, (Fw5.other W6 (Or.inr (slot_ne (Or.inr (W hw 27 rfl)) (Or.inr (W hw 26 rfl)) (by decide) (t := .byte) (t' := (.array .byte)) (by decide) (by decide)))), ((Ap3_0.other W5 (Ne.symm (Nat.ne_of_lt (Nat.lt_of_lt_of_le (Nat.lt_of_lt_of_le E_a1.lt (Nat.le_refl _)) sq_b3_bv)))).other W6 (Ne.symm (Nat.ne_of_lt (Nat.lt_of_lt_of_le (Nat.lt_of_lt_of_le E_a1.lt (Nat.le_refl _)) sq_b3_bv))))⟩)
theorem efsj2_0 (m : MethodId) (x0 x1 : Addr) : entryFrame m #[(.ref x0), (.ref x1)] 2 = mkF m 0 #[.val (.ref x0), .val (.ref x1)] [] := by first | (simp [entryFrame, mkF, argsToLocals, Value.category]; done) | rfl
theorem csj2_0 (l : Launch) (Z : State) (a0 : Array Value) (hw : ∀ d ∈ tables_1, d.before a0 Z = true) (a1 a2 : Addr) (cz : Int32) (vf : Value) (c0 c1 : Int32) (h0 : Heap) (n0 : Nat) (Z0 : n0 ≤ h0.size) (E_a1 : Exa Z h0 a1 "java/lang/String") (F_value_a1 : Fld Z h0 a1 "java/lang/String" "value" "[B" .null) (F_coder_a1 : Fld Z h0 a1 "java/lang/String" "coder" "B" (.int (0 : Int32))) (A_a2 : Av Z h0 a2 .char [(.int c0), (.int c1)]) (O0 : Old Z n0 h0) (g_a1 : n0 ≤ a1) (SS : SSt Z cz vf) (hg : (255 : Int32) < c0) (hch_0 : nar .char c0 = c0) (hch_1 : nar .char c1 = c1) :
    Con l Z (⟨"java/lang/String", "<init>", "([C)V"⟩ : MethodName) jdk_42_method_3_code 2 none ({ frames := 5, cells := 2, slots := 12, locals := 74 } : Room) [] #[(.ref a1), (.ref a2)] h0 (fun v h L => ∃ bv : Addr, v = none ∧ Fr n0 L ∧ Keep h0 h [a1] ∧ h0.size ≤ bv ∧ Fld Z h a1 "java/lang/String" "value" "[B" (.ref bv) ∧ Fld Z h a1 "java/lang/String" "coder" "B" (.int (1 : Int32)) ∧ Av Z h bv .byte [(.int (BLO c0)), (.int (BHI c0)), (.int (BLO c1)), (.int (BHI c1))]) := by
  refine Con.of (plainFor_of_name pn_java_lang_String) #[.val (.ref a1), .val (.ref a2)] (fun m => efsj2_0 m a1 a2) ?_
  intro p e s m below meth c s₁ K hx hby hml hown hnm hret hlk hZ X0 e0
  have N0 := Fr.nil n0
  refine mAN K X0.here hx hby dj42_3_0 rfl rfl rfl ?_
  refine mAN K X0.here hx hby dj42_3_1 rfl rfl rfl ?_
  refine mC K X0.here hx hby (0 : Int32) dj42_3_2 rfl rfl ?_
  refine mAN K X0.here hx hby dj42_3_3 rfl rfl rfl ?_
  refine k_len K X0 hx hby hZ (2 : Int32) e0 A_a2 rfl dj42_3_4 rfl ?_
  refine m_null K X0.here hx hby dj42_3_5 rfl ?_
  refine k_callP K X0 hx hby hZ a1 [(.ref a2), (.int (0 : Int32)), (.int (2 : Int32)), .null] [] hown (W hw 17 rfl) (W hw 18 rfl) (W hw 12 rfl) (W hw 20 rfl) rfl (csi2_0 l Z a0 hw a1 a2 cz vf c0 c1 h0 n0 Z0 E_a1 F_value_a1 F_coder_a1 A_a2 O0 g_a1 SS hg hch_0 hch_1) e0 rfl rfl pd_13 rfl dj42_3_6 (by rw [hml]; rfl) rfl (by decide) (by decide) (LB rfl) (by decide) (by decide) fun v1 T1 L1 X1 q1 => ?_
  obtain ⟨b1_bv, rfl, Nq1, K1, sq_b1_bv, Fp1_0, Fp1_1, Ap1_0⟩ := q1
  have N1 := Fr.app N0 Nq1
  have sz_b1_bv : h0.size ≤ b1_bv := Nat.le_trans (Nat.le_refl _) sq_b1_bv
  have g_b1_bv : n0 ≤ b1_bv := Nat.le_trans Z0 sz_b1_bv
  refine k_none K ?_
  exact Go.retV X1 hx hby hlk hret dj42_3_9 (by decide) (by decide) (⟨b1_bv, rfl, N1, ((Keep.refl h0 [a1]).trans K1 (allS (Or.inl (by simp)) all0)), sz_b1_bv, Fp1_0, Fp1_1, Ap1_0⟩)
theorem efcf2_1 (m : MethodId) (x0 : Addr) (x1 : Int32) (x2 : Addr) (x3 x4 : Int32) : entryFrame m #[(.ref x0), (.int x1), (.ref x2), (.int x3), (.int x4)] 7 = mkF m 0 #[.val (.ref x0), .val (.int x1), .val (.ref x2), .val (.int x3), .val (.int x4), .unset, .unset] [] := by first | (simp [entryFrame, mkF, argsToLocals, Value.category]; done) | rfl
theorem ccf2_1 (l : Launch) (Z : State) (a0 : Array Value) (hw : ∀ d ∈ tables_1, d.before a0 Z = true) (a1 a3 : Addr) (cz : Int32) (vf : Value) (c0 c1 : Int32) (h0 : Heap) (n0 : Nat) (Z0 : n0 ≤ h0.size) (A_a1 : Av Z h0 a1 .char [(.int c0), (.int c1)]) (A_a3 : Av Z h0 a3 .byte [(.int (0 : Int32)), (.int (0 : Int32))]) (O0 : Old Z n0 h0) (g_a3 : n0 ≤ a3) (ne_a1_a3 : a1 ≠ a3) (SS : SSt Z cz vf) (hl_0 : ¬ ((255 : Int32) < c0)) (hg : (255 : Int32) < c1) (hch_0 : nar .char c0 = c0) (hch_1 : nar .char c1 = c1) :
    Con l Z (⟨"java/lang/StringUTF16", "compress", "([CI[BII)I"⟩ : MethodName) jdk_52_method_21_code 7 (some .int) ({ frames := 0, cells := 0, slots := 0, locals := 0 } : Room) [] #[(.ref a1), (.int (0 : Int32)), (.ref a3), (.int (0 : Int32)), (.int (2 : Int32))] h0 (fun v h L => v = some (.int (1 : Int32)) ∧ Fr n0 L ∧ Keep h0 h [a3] ∧ Av Z h a3 .byte [(.int (nar .byte (c0.toInt8.toInt32))), (.int (0 : Int32))]) := by
  refine Con.of (plainFor_of_name pn_java_lang_StringUTF16) #[.val (.ref a1), .val (.int (0 : Int32)), .val (.ref a3), .val (.int (0 : Int32)), .val (.int (2 : Int32)), .unset, .unset] (fun m => efcf2_1 m a1 (0 : Int32) a3 (0 : Int32) (2 : Int32)) ?_
  intro p e s m below meth c s₁ K hx hby hml hown hnm hret hlk hZ X0 e0
  have N0 := Fr.nil n0
  refine mC K X0.here hx hby (0 : Int32) dj52_21_0 rfl rfl ?_
  refine mS K X0.here hx hby #[.val (.ref a1), .val (.int (0 : Int32)), .val (.ref a3), .val (.int (0 : Int32)), .val (.int (2 : Int32)), .val (.int (0 : Int32)), .unset] dj52_21_1 rfl rfl ?_
  refine mI K X0.here hx hby dj52_21_3 rfl rfl ?_
  refine mI K X0.here hx hby dj52_21_5 rfl rfl ?_
  refine m_icmpN K X0.here hx hby (q := 10) dj52_21_7 (tlt (by decide : (0 : Int32) < (2 : Int32))).2.1 rfl ?_
  refine mAN K X0.here hx hby dj52_21_10 rfl rfl rfl ?_
  refine mIN K X0.here hx hby dj52_21_11 rfl rfl ?_
  refine k_ldC K X0 hx hby hZ e0 A_a1 (v := (.int c0)) (by decide) rfl dj52_21_12 rfl ?_
  refine mS K X0.here hx hby #[.val (.ref a1), .val (.int (0 : Int32)), .val (.ref a3), .val (.int (0 : Int32)), .val (.int (2 : Int32)), .val (.int (0 : Int32)), .val (.int c0)] dj52_21_13 rfl rfl ?_
  refine mI K X0.here hx hby dj52_21_15 rfl rfl ?_
  refine mP K X0.here hx hby (255 : Int32) dj52_21_17 rfl rfl ?_
  refine m_icmpY K X0.here hx hby (q := 26) dj52_21_20 (flt hl_0).2.2.2 (by decide) rfl ?_
  refine mAN K X0.here hx hby dj52_21_26 rfl rfl rfl ?_
  refine mIN K X0.here hx hby dj52_21_27 rfl rfl ?_
  refine mI K X0.here hx hby dj52_21_28 rfl rfl ?_
  refine m_i2b K X0.here hx hby (c0.toInt8.toInt32) dj52_21_30 rfl rfl ?_
  refine k_stB K X0 hx hby hZ e0 A_a3 (by decide) (LB rfl) dj52_21_31 rfl fun T1 h1 X1 e1 W1 V1 => ?_
  replace V1 : Av Z h1 a3 .byte [(.int (nar .byte (c0.toInt8.toInt32))), (.int (0 : Int32))] := V1
  have N1 := Fr.snoc X1 N0 g_a3
  refine mJ K X1.here hx hby #[.val (.ref a1), .val (.int (1 : Int32)), .val (.ref a3), .val (.int (0 : Int32)), .val (.int (2 : Int32)), .val (.int (0 : Int32)), .val (.int c0)] dj52_21_32 rfl rfl rfl ?_
  refine mJ K X1.here hx hby #[.val (.ref a1), .val (.int (1 : Int32)), .val (.ref a3), .val (.int (1 : Int32)), .val (.int (2 : Int32)), .val (.int (0 : Int32)), .val (.int c0)] dj52_21_35 rfl rfl rfl ?_
  refine mJ K X1.here hx hby #[.val (.ref a1), .val (.int (1 : Int32)), .val (.ref a3), .val (.int (1 : Int32)), .val (.int (2 : Int32)), .val (.int (1 : Int32)), .val (.int c0)] dj52_21_38 rfl rfl rfl ?_
  refine m_goto K X1.here hx hby (q := 3) dj52_21_41 (by decide) rfl ?_
  refine mI K X1.here hx hby dj52_21_3 rfl rfl ?_
  refine mI K X1.here hx hby dj52_21_5 rfl rfl ?_
  refine m_icmpN K X1.here hx hby (q := 10) dj52_21_7 (tlt (by decide : (1 : Int32) < (2 : Int32))).2.1 rfl ?_
  refine mAN K X1.here hx hby dj52_21_10 rfl rfl rfl ?_
  refine mIN K X1.here hx hby dj52_21_11 rfl rfl ?_
  refine k_ldC K X1 hx hby hZ e1 (A_a1.other W1 ne_a1_a3) (v := (.int c1)) (by decide) rfl dj52_21_12 rfl ?_
  refine mS K X1.here hx hby #[.val (.ref a1), .val (.int (1 : Int32)), .val (.ref a3), .val (.int (1 : Int32)), .val (.int (2 : Int32)), .val (.int (1 : Int32)), .val (.int c1)] dj52_21_13 rfl rfl ?_
  refine mI K X1.here hx hby dj52_21_15 rfl rfl ?_
  refine mP K X1.here hx hby (255 : Int32) dj52_21_17 rfl rfl ?_
  refine m_icmpN K X1.here hx hby (q := 23) dj52_21_20 (tlt hg).2.2.2 rfl ?_
  refine mI K X1.here hx hby dj52_21_23 rfl rfl ?_
  exact Go.retI X1 hx hby hlk hret dj52_21_25 (by decide) (by decide) (by rw [e1]; exact ⟨rfl, N1, ((Keep.refl h0 [a3]).wr W1 (Or.inl (by simp))), V1⟩)
theorem efct2_1 (m : MethodId) (x0 : Addr) (x1 x2 : Int32) : entryFrame m #[(.ref x0), (.int x1), (.int x2)] 6 = mkF m 0 #[.val (.ref x0), .val (.int x1), .val (.int x2), .unset, .unset, .unset] [] := by first | (simp [entryFrame, mkF, argsToLocals, Value.category]; done) | rfl
theorem cct2_1 (l : Launch) (Z : State) (a0 : Array Value) (hw : ∀ d ∈ tables_1, d.before a0 Z = true) (a1 : Addr) (cz : Int32) (vf : Value) (c0 c1 : Int32) (h0 : Heap) (n0 : Nat) (Z0 : n0 ≤ h0.size) (A_a1 : Av Z h0 a1 .char [(.int c0), (.int c1)]) (O0 : Old Z n0 h0) (SS : SSt Z cz vf) (hl_0 : ¬ ((255 : Int32) < c0)) (hg : (255 : Int32) < c1) (hch_0 : nar .char c0 = c0) (hch_1 : nar .char c1 = c1) :
    Con l Z (⟨"java/lang/StringUTF16", "compress", "([CII)[B"⟩ : MethodName) jdk_52_method_16_code 6 (some (.array .byte)) ({ frames := 3, cells := 2, slots := 6, locals := 40 } : Room) [] #[(.ref a1), (.int (0 : Int32)), (.int (2 : Int32))] h0 (fun v h L => ∃ bv : Addr, v = some (.ref bv) ∧ Fr n0 L ∧ Keep h0 h [] ∧ h0.size ≤ bv ∧ Av Z h bv .byte [(.int (BLO c0)), (.int (BHI c0)), (.int (BLO c1)), (.int (BHI c1))]) := by
  refine Con.of (plainFor_of_name pn_java_lang_StringUTF16) #[.val (.ref a1), .val (.int (0 : Int32)), .val (.int (2 : Int32)), .unset, .unset, .unset] (fun m => efct2_1 m a1 (0 : Int32) (2 : Int32)) ?_
  intro p e s m below meth c s₁ K hx hby hml hown hnm hret hlk hZ X0 e0
  have N0 := Fr.nil n0
  refine mIN K X0.here hx hby dj52_16_0 rfl rfl ?_
  refine k_newP K X0 hx hby hZ 2 2 (W hw 25 rfl) e0 dj52_16_1 rfl (by decide) rfl (by decide) (by decide) (by decide) (by decide) fun T1 h1 b1 X1 e1 E1 g1 V_b1 => ?_
  have sz_b1 : h0.size ≤ b1 := Nat.le_trans (Nat.le_refl _) (Nat.le_of_eq g1.symm)
  have g_b1 : n0 ≤ b1 := Nat.le_trans Z0 sz_b1
  replace V_b1 : Av Z h1 b1 .byte [(.int (0 : Int32)), (.int (0 : Int32))] := V_b1
  refine m_astoreN K X1.here hx hby #[.val (.ref a1), .val (.int (0 : Int32)), .val (.int (2 : Int32)), .val (.ref b1), .unset, .unset] dj52_16_3 rfl rfl rfl ?_
  refine mAN K X1.here hx hby dj52_16_4 rfl rfl rfl ?_
  refine mIN K X1.here hx hby dj52_16_5 rfl rfl ?_
  refine mAN K X1.here hx hby dj52_16_6 rfl rfl rfl ?_
  refine mC K X1.here hx hby (0 : Int32) dj52_16_7 rfl rfl ?_
  refine mIN K X1.here hx hby dj52_16_8 rfl rfl ?_
  refine k_callS K X1 hx hby hZ [(.ref a1), (.int (0 : Int32)), (.ref b1), (.int (0 : Int32)), (.int (2 : Int32))] [] hown (W hw 76 rfl) (W hw 77 rfl) (W hw 74 rfl) (W hw 78 rfl) (ccf2_1 l Z a0 hw a1 b1 cz vf c0 c1 h1 n0 (Nat.le_trans Z0 (Nat.le_trans (Nat.le_refl _) E1.1)) (A_a1.ext E1) V_b1 (O0.ext E1) g_b1 (Nat.ne_of_lt (Nat.lt_of_lt_of_le (Nat.lt_of_lt_of_le A_a1.lt (Nat.le_refl _)) (Nat.le_of_eq g1.symm))) SS hl_0 hg hch_0 hch_1) e1 rfl rfl pd_10 rfl dj52_16_9 (by rw [hml]; rfl) rfl (by decide) (by decide) (LB rfl) (by decide) (by decide) fun v2 T2 L2 X2 q2 => ?_
  obtain ⟨rfl, Nq2, K2, Ap2_0⟩ := q2
  have N2 := Fr.app N0 Nq2
  refine k_some K (w := (.int (1 : Int32))) ?_
  refine mS K X2.here hx hby #[.val (.ref a1), .val (.int (0 : Int32)), .val (.int (2 : Int32)), .val (.ref b1), .val (.int (1 : Int32)), .unset] dj52_16_12 rfl rfl ?_
  refine mI K X2.here hx hby dj52_16_14 rfl rfl ?_
  refine mIN K X2.here hx hby dj52_16_16 rfl rfl ?_
  refine m_icmpN K X2.here hx hby (q := 20) dj52_16_17 (feq (by decide : ¬ ((1 : Int32) = (2 : Int32)))).1 rfl ?_
  refine mAN K X2.here hx hby dj52_16_20 rfl rfl rfl ?_
  refine mIN K X2.here hx hby dj52_16_21 rfl rfl ?_
  refine mIN K X2.here hx hby dj52_16_22 rfl rfl ?_
  refine k_callS K X2 hx hby hZ [(.ref a1), (.int (0 : Int32)), (.int (2 : Int32))] [] hown (W hw 109 rfl) (W hw 110 rfl) (W hw 74 rfl) (W hw 111 rfl) (ctb2 l Z a0 hw a1 cz vf c0 c1 T2.heap n0 (Nat.le_trans Z0 (Nat.le_trans (Nat.le_trans (Nat.le_refl _) E1.1) K2.1)) ((A_a1.ext E1).keep K2 (ninS (Nat.ne_of_lt (Nat.lt_of_lt_of_le (Nat.lt_of_lt_of_le A_a1.lt (Nat.le_refl _)) (Nat.le_of_eq g1.symm))) nin0)) ((O0.ext E1).keep K2 (allS g_b1 all0)) SS) rfl rfl rfl pd_11 rfl dj52_16_23 (by rw [hml]; rfl) rfl (by decide) (by decide) (LB rfl) (by decide) (by decide) fun v3 T3 L3 X3 q3 => ?_
  obtain ⟨b3_bv, rfl, Nq3, K3, sq_b3_bv, Ap3_0⟩ := q3
  have N3 := Fr.app N2 Nq3
  have sz_b3_bv : h0.size ≤ b3_bv := Nat.le_trans (Nat.le_trans (Nat.le_trans (Nat.le_refl _) E1.1) K2.1) sq_b3_bv
  have g_b3_bv : n0 ≤ b3_bv := Nat.le_trans Z0 sz_b3_bv
  refine k_some K (w := (.ref b3_bv)) ?_
  refine m_astore K X3.here hx hby #[.val (.ref a1), .val (.int (0 : Int32)), .val (.int (2 : Int32)), .val (.ref b1), .val (.int (1 : Int32)), .val (.ref b3_bv)] dj52_16_26 rfl rfl rfl ?_
  refine mA K X3.here hx hby dj52_16_28 rfl rfl rfl ?_
  refine mI K X3.here hx hby dj52_16_30 rfl rfl ?_
  refine k_callS K X3 hx hby hZ [(.ref b3_bv), (.int (1 : Int32))] [] hown (W hw 125 rfl) (W hw 126 rfl) (W hw 74 rfl) (W hw 127 rfl) (cgc2_1 l Z a0 hw b3_bv cz vf (BLO c0) (BHI c0) (BLO c1) (BHI c1) T3.heap n0 (Nat.le_trans Z0 (Nat.le_trans (Nat.le_trans (Nat.le_trans (Nat.le_refl _) E1.1) K2.1) K3.1)) Ap3_0 (((O0.ext E1).keep K2 (allS g_b1 all0)).keep K3 all0) SS) rfl rfl rfl pd_5 rfl dj52_16_32 (by rw [hml]; rfl) rfl (by decide) (by decide) (LB rfl) (by decide) (by decide) fun v4 T4 L4 X4 q4 => ?_
  obtain ⟨rfl, e4, rfl⟩ := q4
  replace X4 := own_px X4
  refine k_some K (w := (.int (GCH (BLO c1) (BHI c1)))) ?_
  refine mP K X4.here hx hby (255 : Int32) dj52_16_35 rfl rfl ?_
  refine m_icmpY K X4.here hx hby (q := 54) dj52_16_38 (tlt (own_rgt c1 hch_1 hg)).2.2.1 (by decide) rfl ?_
  refine mA K X4.here hx hby dj52_16_54 rfl rfl rfl ?_
  exact Go.retO X4 hx hby hlk hret rfl (Or.inr (Or.inr (Or.inr (Or.inr ⟨rfl, rfl, rfl⟩)))) dj52_16_56 (by decide) (by decide) (by rw [e4]; exact ⟨b3_bv, rfl, N3, ((((Keep.refl h0 []).ext E1).trans K2 (allS (Or.inr sz_b1) all0)).trans K3 all0), sz_b3_bv, Ap3_0⟩)
theorem efsi2_1 (m : MethodId) (x0 x1 : Addr) (x2 x3 : Int32) : entryFrame m #[(.ref x0), (.ref x1), (.int x2), (.int x3), .null] 6 = mkF m 0 #[.val (.ref x0), .val (.ref x1), .val (.int x2), .val (.int x3), .val .null, .unset] [] := by first | (simp [entryFrame, mkF, argsToLocals, Value.category]; done) | rfl
theorem csi2_1 (l : Launch) (Z : State) (a0 : Array Value) (hw : ∀ d ∈ tables_1, d.before a0 Z = true) (a1 a2 : Addr) (cz : Int32) (vf : Value) (c0 c1 : Int32) (h0 : Heap) (n0 : Nat) (Z0 : n0 ≤ h0.size) (E_a1 : Exa Z h0 a1 "java/lang/String") (F_value_a1 : Fld Z h0 a1 "java/lang/String" "value" "[B" .null) (F_coder_a1 : Fld Z h0 a1 "java/lang/String" "coder" "B" (.int (0 : Int32))) (A_a2 : Av Z h0 a2 .char [(.int c0), (.int c1)]) (O0 : Old Z n0 h0) (g_a1 : n0 ≤ a1) (SS : SSt Z cz vf) (hl_0 : ¬ ((255 : Int32) < c0)) (hg : (255 : Int32) < c1) (hch_0 : nar .char c0 = c0) (hch_1 : nar .char c1 = c1) :
    Con l Z (⟨"java/lang/String", "<init>", "([CIILjava/lang/Void;)V"⟩ : MethodName) jdk_42_method_149_code 6 none ({ frames := 4, cells := 2, slots := 6, locals := 57 } : Room) [] #[(.ref a1), (.ref a2), (.int (0 : Int32)), (.int (2 : Int32)), .null] h0 (fun v h L => ∃ bv : Addr, v = none ∧ Fr n0 L ∧ Keep h0 h [a1] ∧ h0.size ≤ bv ∧ Fld Z h a1 "java/lang/String" "value" "[B" (.ref bv) ∧ Fld Z h a1 "java/lang/String" "coder" "B" (.int (1 : Int32)) ∧ Av Z h bv .byte [(.int (BLO c0)), (.int (BHI c0)), (.int (BLO c1)), (.int (BHI c1))]) := by
  refine Con.of (plainFor_of_name pn_java_lang_String) #[.val (.ref a1), .val (.ref a2), .val (.int (0 : Int32)), .val (.int (2 : Int32)), .val .null, .unset] (fun m => efsi2_1 m a1 a2 (0 : Int32) (2 : Int32)) ?_
  intro p e s m below meth c s₁ K hx hby hml hown hnm hret hlk hZ X0 e0
  have N0 := Fr.nil n0
  refine mAN K X0.here hx hby dj42_149_0 rfl rfl rfl ?_
  refine k_initO K X0 hx hby hZ hown (W hw 21 rfl) (W hw 22 rfl) (W hw 23 rfl) e0 dj42_149_1 (by rw [hml]; rfl) rfl (by decide) (LB rfl) fun T1 X1 e1 => ?_
  refine mIN K X1.here hx hby dj42_149_4 rfl rfl ?_
  refine m_ifY K X1.here hx hby (q := 27) dj42_149_5 ((if0 _ _).trans (feq (by decide : ¬ ((2 : Int32) = (0 : Int32)))).2) (by decide) rfl ?_
  refine k_getS K X1 hx hby hZ hown (host := "") (Or.inl (W hw 46 rfl)) Via.refl e1 (SS.cs.ext O0.2) dj42_149_27 rfl fun T2 X2 e2 => ?_
  refine m_ifN K X2.here hx hby (q := 33) dj42_149_30 ((if0 _ _).trans (feq SS.cz).1) rfl ?_
  refine mAN K X2.here hx hby dj42_149_33 rfl rfl rfl ?_
  refine mIN K X2.here hx hby dj42_149_34 rfl rfl ?_
  refine mIN K X2.here hx hby dj42_149_35 rfl rfl ?_
  refine k_callS K X2 hx hby hZ [(.ref a2), (.int (0 : Int32)), (.int (2 : Int32))] [] hown (W hw 72 rfl) (W hw 73 rfl) (W hw 74 rfl) (W hw 75 rfl) (cct2_1 l Z a0 hw a2 cz vf c0 c1 h0 n0 Z0 A_a2 O0 SS hl_0 hg hch_0 hch_1) e2 rfl rfl pd_11 rfl dj42_149_36 (by rw [hml]; rfl) rfl (by decide) (by decide) (LB rfl) (by decide) (by decide) fun v3 T3 L3 X3 q3 => ?_
  obtain ⟨b3_bv, rfl, Nq3, K3, sq_b3_bv, Ap3_0⟩ := q3
  have N3 := Fr.app N0 Nq3
  have sz_b3_bv : h0.size ≤ b3_bv := Nat.le_trans (Nat.le_refl _) sq_b3_bv
  have g_b3_bv : n0 ≤ b3_bv := Nat.le_trans Z0 sz_b3_bv
  refine k_some K (w := (.ref b3_bv)) ?_
  refine m_astore K X3.here hx hby #[.val (.ref a1), .val (.ref a2), .val (.int (0 : Int32)), .val (.int (2 : Int32)), .val .null, .val (.ref b3_bv)] dj42_149_39 rfl rfl rfl ?_
  refine mAN K X3.here hx hby dj42_149_41 rfl rfl rfl ?_
  refine mA K X3.here hx hby dj42_149_42 rfl rfl rfl ?_
  refine mIN K X3.here hx hby dj42_149_44 rfl rfl ?_
  refine k_callS K X3 hx hby hZ [(.ref b3_bv), (.int (2 : Int32))] [(.ref a1)] hown (W hw 79 rfl) (W hw 80 rfl) (W hw 74 rfl) (W hw 81 rfl) (ccc2_4 l Z a0 hw b3_bv cz vf (BLO c0) (BHI c0) (BLO c1) (BHI c1) T3.heap n0 (Nat.le_trans Z0 (Nat.le_trans (Nat.le_refl _) K3.1)) Ap3_0 (O0.keep K3 all0) SS) rfl rfl rfl pd_12 rfl dj42_149_45 (by rw [hml]; rfl) rfl (by decide) (by decide) (LB rfl) (by decide) (by decide) fun v4 T4 L4 X4 q4 => ?_
  obtain ⟨rfl, e4, rfl⟩ := q4
  replace X4 := own_px X4
  refine k_some K (w := (.int (1 : Int32))) ?_
  refine k_putF K X4 hx hby hZ hown (host := "") (Or.inl (W hw 31 rfl)) Via.refl e4 (F_coder_a1.keep K3 nin0) (E_a1.keep K3) (Or.inr ⟨(W hw 27 rfl), rfl, hnm⟩) (W hw 11 rfl) (ty := .byte) (by decide) (by decide) (by decide) dj42_149_48 rfl fun T5 h5 X5 e5 W5 => ?_
  have Fw5 := (F_coder_a1.keep K3 nin0).same W5
  have N5 := Fr.snoc X5 N3 g_a1
  refine mAN K X5.here hx hby dj42_149_51 rfl rfl rfl ?_
  refine mA K X5.here hx hby dj42_149_52 rfl rfl rfl ?_
  refine k_putF K X5 hx hby hZ hown (host := "") (Or.inl (W hw 30 rfl)) Via.refl e5 ((F_value_a1.keep K3 nin0).other W5 (Or.inr (slot_ne (Or.inr (W hw 26 rfl)) (Or.inr (W hw 27 rfl)) (by decide) (t := (.array .byte)) (t' := .byte) (by decide) (by decide)))) ((E_a1.keep K3).wr W5) (Or.inr ⟨(W hw 26 rfl), rfl, hnm⟩) (W hw 11 rfl) (ty := (.array .byte)) (by decide) rfl rfl dj42_149_54 rfl fun T6 h6 X6 e6 W6 => ?_
  have Fw6 := ((F_value_a1.keep K3 nin0).other W5 (Or.inr (slot_ne (Or.inr (W hw 26 rfl)) (Or.inr (W hw 27 rfl)) (by decide) (t := (.array .byte)) (t' := .byte) (by decide) (by decide)))).same W6
  have N6 := Fr.snoc X6 N5 g_a1
  exact Go.retV X6 hx hby hlk hret dj42_149_57 (by decide) (by decide) (by rw [e6]; exact ⟨b3_bv, rfl, N6, ((((Keep.refl h0 [a1]).trans K3 all0).wr W5 (Or.inl (by simp))).wr W6 (Or.inl (by simp))), sz_b3_bv, Fw6, (Fw5.other W6 (Or.inr (slot_ne (Or.inr (W hw 27 rfl)) (Or.inr (W hw 26 rfl)) (by decide) (t := .byte) (t' := (.array .byte)) (by decide) (by decide)))), ((Ap3_0.other W5 (Ne.symm (Nat.ne_of_lt (Nat.lt_of_lt_of_le (Nat.lt_of_lt_of_le E_a1.lt (Nat.le_refl _)) sq_b3_bv)))).other W6 (Ne.symm (Nat.ne_of_lt (Nat.lt_of_lt_of_le (Nat.lt_of_lt_of_le E_a1.lt (Nat.le_refl _)) sq_b3_bv))))⟩)
theorem efsj2_1 (m : MethodId) (x0 x1 : Addr) : entryFrame m #[(.ref x0), (.ref x1)] 2 = mkF m 0 #[.val (.ref x0), .val (.ref x1)] [] := by first | (simp [entryFrame, mkF, argsToLocals, Value.category]; done) | rfl
theorem csj2_1 (l : Launch) (Z : State) (a0 : Array Value) (hw : ∀ d ∈ tables_1, d.before a0 Z = true) (a1 a2 : Addr) (cz : Int32) (vf : Value) (c0 c1 : Int32) (h0 : Heap) (n0 : Nat) (Z0 : n0 ≤ h0.size) (E_a1 : Exa Z h0 a1 "java/lang/String") (F_value_a1 : Fld Z h0 a1 "java/lang/String" "value" "[B" .null) (F_coder_a1 : Fld Z h0 a1 "java/lang/String" "coder" "B" (.int (0 : Int32))) (A_a2 : Av Z h0 a2 .char [(.int c0), (.int c1)]) (O0 : Old Z n0 h0) (g_a1 : n0 ≤ a1) (SS : SSt Z cz vf) (hl_0 : ¬ ((255 : Int32) < c0)) (hg : (255 : Int32) < c1) (hch_0 : nar .char c0 = c0) (hch_1 : nar .char c1 = c1) :
    Con l Z (⟨"java/lang/String", "<init>", "([C)V"⟩ : MethodName) jdk_42_method_3_code 2 none ({ frames := 5, cells := 2, slots := 12, locals := 74 } : Room) [] #[(.ref a1), (.ref a2)] h0 (fun v h L => ∃ bv : Addr, v = none ∧ Fr n0 L ∧ Keep h0 h [a1] ∧ h0.size ≤ bv ∧ Fld Z h a1 "java/lang/String" "value" "[B" (.ref bv) ∧ Fld Z h a1 "java/lang/String" "coder" "B" (.int (1 : Int32)) ∧ Av Z h bv .byte [(.int (BLO c0)), (.int (BHI c0)), (.int (BLO c1)), (.int (BHI c1))]) := by
  refine Con.of (plainFor_of_name pn_java_lang_String) #[.val (.ref a1), .val (.ref a2)] (fun m => efsj2_1 m a1 a2) ?_
  intro p e s m below meth c s₁ K hx hby hml hown hnm hret hlk hZ X0 e0
  have N0 := Fr.nil n0
  refine mAN K X0.here hx hby dj42_3_0 rfl rfl rfl ?_
  refine mAN K X0.here hx hby dj42_3_1 rfl rfl rfl ?_
  refine mC K X0.here hx hby (0 : Int32) dj42_3_2 rfl rfl ?_
  refine mAN K X0.here hx hby dj42_3_3 rfl rfl rfl ?_
  refine k_len K X0 hx hby hZ (2 : Int32) e0 A_a2 rfl dj42_3_4 rfl ?_
  refine m_null K X0.here hx hby dj42_3_5 rfl ?_
  refine k_callP K X0 hx hby hZ a1 [(.ref a2), (.int (0 : Int32)), (.int (2 : Int32)), .null] [] hown (W hw 17 rfl) (W hw 18 rfl) (W hw 12 rfl) (W hw 20 rfl) rfl (csi2_1 l Z a0 hw a1 a2 cz vf c0 c1 h0 n0 Z0 E_a1 F_value_a1 F_coder_a1 A_a2 O0 g_a1 SS hl_0 hg hch_0 hch_1) e0 rfl rfl pd_13 rfl dj42_3_6 (by rw [hml]; rfl) rfl (by decide) (by decide) (LB rfl) (by decide) (by decide) fun v1 T1 L1 X1 q1 => ?_
  obtain ⟨b1_bv, rfl, Nq1, K1, sq_b1_bv, Fp1_0, Fp1_1, Ap1_0⟩ := q1
  have N1 := Fr.app N0 Nq1
  have sz_b1_bv : h0.size ≤ b1_bv := Nat.le_trans (Nat.le_refl _) sq_b1_bv
  have g_b1_bv : n0 ≤ b1_bv := Nat.le_trans Z0 sz_b1_bv
  refine k_none K ?_
  exact Go.retV X1 hx hby hlk hret dj42_3_9 (by decide) (by decide) (⟨b1_bv, rfl, N1, ((Keep.refl h0 [a1]).trans K1 (allS (Or.inl (by simp)) all0)), sz_b1_bv, Fp1_0, Fp1_1, Ap1_0⟩)
theorem efcf2_2 (m : MethodId) (x0 : Addr) (x1 : Int32) (x2 : Addr) (x3 x4 : Int32) : entryFrame m #[(.ref x0), (.int x1), (.ref x2), (.int x3), (.int x4)] 7 = mkF m 0 #[.val (.ref x0), .val (.int x1), .val (.ref x2), .val (.int x3), .val (.int x4), .unset, .unset] [] := by first | (simp [entryFrame, mkF, argsToLocals, Value.category]; done) | rfl
theorem ccf2_2 (l : Launch) (Z : State) (a0 : Array Value) (hw : ∀ d ∈ tables_1, d.before a0 Z = true) (a1 a3 : Addr) (cz : Int32) (vf : Value) (c0 c1 : Int32) (h0 : Heap) (n0 : Nat) (Z0 : n0 ≤ h0.size) (A_a1 : Av Z h0 a1 .char [(.int c0), (.int c1)]) (A_a3 : Av Z h0 a3 .byte [(.int (0 : Int32)), (.int (0 : Int32))]) (O0 : Old Z n0 h0) (g_a3 : n0 ≤ a3) (ne_a1_a3 : a1 ≠ a3) (SS : SSt Z cz vf) (hl_0 : ¬ ((255 : Int32) < c0)) (hl_1 : ¬ ((255 : Int32) < c1)) :
    Con l Z (⟨"java/lang/StringUTF16", "compress", "([CI[BII)I"⟩ : MethodName) jdk_52_method_21_code 7 (some .int) ({ frames := 0, cells := 0, slots := 0, locals := 0 } : Room) [] #[(.ref a1), (.int (0 : Int32)), (.ref a3), (.int (0 : Int32)), (.int (2 : Int32))] h0 (fun v h L => v = some (.int (2 : Int32)) ∧ Fr n0 L ∧ Keep h0 h [a3] ∧ Av Z h a3 .byte [(.int (nar .byte (c0.toInt8.toInt32))), (.int (nar .byte (c1.toInt8.toInt32)))]) := by
  refine Con.of (plainFor_of_name pn_java_lang_StringUTF16) #[.val (.ref a1), .val (.int (0 : Int32)), .val (.ref a3), .val (.int (0 : Int32)), .val (.int (2 : Int32)), .unset, .unset] (fun m => efcf2_2 m a1 (0 : Int32) a3 (0 : Int32) (2 : Int32)) ?_
  intro p e s m below meth c s₁ K hx hby hml hown hnm hret hlk hZ X0 e0
  have N0 := Fr.nil n0
  refine mC K X0.here hx hby (0 : Int32) dj52_21_0 rfl rfl ?_
  refine mS K X0.here hx hby #[.val (.ref a1), .val (.int (0 : Int32)), .val (.ref a3), .val (.int (0 : Int32)), .val (.int (2 : Int32)), .val (.int (0 : Int32)), .unset] dj52_21_1 rfl rfl ?_
  refine mI K X0.here hx hby dj52_21_3 rfl rfl ?_
  refine mI K X0.here hx hby dj52_21_5 rfl rfl ?_
  refine m_icmpN K X0.here hx hby (q := 10) dj52_21_7 (tlt (by decide : (0 : Int32) < (2 : Int32))).2.1 rfl ?_
  refine mAN K X0.here hx hby dj52_21_10 rfl rfl rfl ?_
  refine mIN K X0.here hx hby dj52_21_11 rfl rfl ?_
  refine k_ldC K X0 hx hby hZ e0 A_a1 (v := (.int c0)) (by decide) rfl dj52_21_12 rfl ?_
  refine mS K X0.here hx hby #[.val (.ref a1), .val (.int (0 : Int32)), .val (.ref a3), .val (.int (0 : Int32)), .val (.int (2 : Int32)), .val (.int (0 : Int32)), .val (.int c0)] dj52_21_13 rfl rfl ?_
  refine mI K X0.here hx hby dj52_21_15 rfl rfl ?_
  refine mP K X0.here hx hby (255 : Int32) dj52_21_17 rfl rfl ?_
  refine m_icmpY K X0.here hx hby (q := 26) dj52_21_20 (flt hl_0).2.2.2 (by decide) rfl ?_
  refine mAN K X0.here hx hby dj52_21_26 rfl rfl rfl ?_
  refine mIN K X0.here hx hby dj52_21_27 rfl rfl ?_
  refine mI K X0.here hx hby dj52_21_28 rfl rfl ?_
  refine m_i2b K X0.here hx hby (c0.toInt8.toInt32) dj52_21_30 rfl rfl ?_
  refine k_stB K X0 hx hby hZ e0 A_a3 (by decide) (LB rfl) dj52_21_31 rfl fun T1 h1 X1 e1 W1 V1 => ?_
  replace V1 : Av Z h1 a3 .byte [(.int (nar .byte (c0.toInt8.toInt32))), (.int (0 : Int32))] := V1
  have N1 := Fr.snoc X1 N0 g_a3
  refine mJ K X1.here hx hby #[.val (.ref a1), .val (.int (1 : Int32)), .val (.ref a3), .val (.int (0 : Int32)), .val (.int (2 : Int32)), .val (.int (0 : Int32)), .val (.int c0)] dj52_21_32 rfl rfl rfl ?_
  refine mJ K X1.here hx hby #[.val (.ref a1), .val (.int (1 : Int32)), .val (.ref a3), .val (.int (1 : Int32)), .val (.int (2 : Int32)), .val (.int (0 : Int32)), .val (.int c0)] dj52_21_35 rfl rfl rfl ?_
  refine mJ K X1.here hx hby #[.val (.ref a1), .val (.int (1 : Int32)), .val (.ref a3), .val (.int (1 : Int32)), .val (.int (2 : Int32)), .val (.int (1 : Int32)), .val (.int c0)] dj52_21_38 rfl rfl rfl ?_
  refine m_goto K X1.here hx hby (q := 3) dj52_21_41 (by decide) rfl ?_
  refine mI K X1.here hx hby dj52_21_3 rfl rfl ?_
  refine mI K X1.here hx hby dj52_21_5 rfl rfl ?_
  refine m_icmpN K X1.here hx hby (q := 10) dj52_21_7 (tlt (by decide : (1 : Int32) < (2 : Int32))).2.1 rfl ?_
  refine mAN K X1.here hx hby dj52_21_10 rfl rfl rfl ?_
  refine mIN K X1.here hx hby dj52_21_11 rfl rfl ?_
  refine k_ldC K X1 hx hby hZ e1 (A_a1.other W1 ne_a1_a3) (v := (.int c1)) (by decide) rfl dj52_21_12 rfl ?_
  refine mS K X1.here hx hby #[.val (.ref a1), .val (.int (1 : Int32)), .val (.ref a3), .val (.int (1 : Int32)), .val (.int (2 : Int32)), .val (.int (1 : Int32)), .val (.int c1)] dj52_21_13 rfl rfl ?_
  refine mI K X1.here hx hby dj52_21_15 rfl rfl ?_
  refine mP K X1.here hx hby (255 : Int32) dj52_21_17 rfl rfl ?_
  refine m_icmpY K X1.here hx hby (q := 26) dj52_21_20 (flt hl_1).2.2.2 (by decide) rfl ?_
  refine mAN K X1.here hx hby dj52_21_26 rfl rfl rfl ?_
  refine mIN K X1.here hx hby dj52_21_27 rfl rfl ?_
  refine mI K X1.here hx hby dj52_21_28 rfl rfl ?_
  refine m_i2b K X1.here hx hby (c1.toInt8.toInt32) dj52_21_30 rfl rfl ?_
  refine k_stB K X1 hx hby hZ e1 V1 (by decide) (LB rfl) dj52_21_31 rfl fun T2 h2 X2 e2 W2 V2 => ?_
  replace V2 : Av Z h2 a3 .byte [(.int (nar .byte (c0.toInt8.toInt32))), (.int (nar .byte (c1.toInt8.toInt32)))] := V2
  have N2 := Fr.snoc X2 N1 g_a3
  refine mJ K X2.here hx hby #[.val (.ref a1), .val (.int (2 : Int32)), .val (.ref a3), .val (.int (1 : Int32)), .val (.int (2 : Int32)), .val (.int (1 : Int32)), .val (.int c1)] dj52_21_32 rfl rfl rfl ?_
  refine mJ K X2.here hx hby #[.val (.ref a1), .val (.int (2 : Int32)), .val (.ref a3), .val (.int (2 : Int32)), .val (.int (2 : Int32)), .val (.int (1 : Int32)), .val (.int c1)] dj52_21_35 rfl rfl rfl ?_
  refine mJ K X2.here hx hby #[.val (.ref a1), .val (.int (2 : Int32)), .val (.ref a3), .val (.int (2 : Int32)), .val (.int (2 : Int32)), .val (.int (2 : Int32)), .val (.int c1)] dj52_21_38 rfl rfl rfl ?_
  refine m_goto K X2.here hx hby (q := 3) dj52_21_41 (by decide) rfl ?_
  refine mI K X2.here hx hby dj52_21_3 rfl rfl ?_
  refine mI K X2.here hx hby dj52_21_5 rfl rfl ?_
  refine m_icmpY K X2.here hx hby (q := 44) dj52_21_7 (flt (by decide : ¬ ((2 : Int32) < (2 : Int32)))).2.1 (by decide) rfl ?_
  refine mI K X2.here hx hby dj52_21_44 rfl rfl ?_
  exact Go.retI X2 hx hby hlk hret dj52_21_46 (by decide) (by decide) (by rw [e2]; exact ⟨rfl, N2, (((Keep.refl h0 [a3]).wr W1 (Or.inl (by simp))).wr W2 (Or.inl (by simp))), V2⟩)
theorem efct2_2 (m : MethodId) (x0 : Addr) (x1 x2 : Int32) : entryFrame m #[(.ref x0), (.int x1), (.int x2)] 6 = mkF m 0 #[.val (.ref x0), .val (.int x1), .val (.int x2), .unset, .unset, .unset] [] := by first | (simp [entryFrame, mkF, argsToLocals, Value.category]; done) | rfl
theorem cct2_2 (l : Launch) (Z : State) (a0 : Array Value) (hw : ∀ d ∈ tables_1, d.before a0 Z = true) (a1 : Addr) (cz : Int32) (vf : Value) (c0 c1 : Int32) (h0 : Heap) (n0 : Nat) (Z0 : n0 ≤ h0.size) (A_a1 : Av Z h0 a1 .char [(.int c0), (.int c1)]) (O0 : Old Z n0 h0) (SS : SSt Z cz vf) (hl_0 : ¬ ((255 : Int32) < c0)) (hl_1 : ¬ ((255 : Int32) < c1)) :
    Con l Z (⟨"java/lang/StringUTF16", "compress", "([CII)[B"⟩ : MethodName) jdk_52_method_16_code 6 (some (.array .byte)) ({ frames := 1, cells := 1, slots := 2, locals := 18 } : Room) [] #[(.ref a1), (.int (0 : Int32)), (.int (2 : Int32))] h0 (fun v h L => ∃ bv : Addr, v = some (.ref bv) ∧ Fr n0 L ∧ Keep h0 h [] ∧ h0.size ≤ bv ∧ Av Z h bv .byte [(.int (nar .byte (c0.toInt8.toInt32))), (.int (nar .byte (c1.toInt8.toInt32)))]) := by
  refine Con.of (plainFor_of_name pn_java_lang_StringUTF16) #[.val (.ref a1), .val (.int (0 : Int32)), .val (.int (2 : Int32)), .unset, .unset, .unset] (fun m => efct2_2 m a1 (0 : Int32) (2 : Int32)) ?_
  intro p e s m below meth c s₁ K hx hby hml hown hnm hret hlk hZ X0 e0
  have N0 := Fr.nil n0
  refine mIN K X0.here hx hby dj52_16_0 rfl rfl ?_
  refine k_newP K X0 hx hby hZ 2 2 (W hw 25 rfl) e0 dj52_16_1 rfl (by decide) rfl (by decide) (by decide) (by decide) (by decide) fun T1 h1 b1 X1 e1 E1 g1 V_b1 => ?_
  have sz_b1 : h0.size ≤ b1 := Nat.le_trans (Nat.le_refl _) (Nat.le_of_eq g1.symm)
  have g_b1 : n0 ≤ b1 := Nat.le_trans Z0 sz_b1
  replace V_b1 : Av Z h1 b1 .byte [(.int (0 : Int32)), (.int (0 : Int32))] := V_b1
  refine m_astoreN K X1.here hx hby #[.val (.ref a1), .val (.int (0 : Int32)), .val (.int (2 : Int32)), .val (.ref b1), .unset, .unset] dj52_16_3 rfl rfl rfl ?_
  refine mAN K X1.here hx hby dj52_16_4 rfl rfl rfl ?_
  refine mIN K X1.here hx hby dj52_16_5 rfl rfl ?_
  refine mAN K X1.here hx hby dj52_16_6 rfl rfl rfl ?_
  refine mC K X1.here hx hby (0 : Int32) dj52_16_7 rfl rfl ?_
  refine mIN K X1.here hx hby dj52_16_8 rfl rfl ?_
  refine k_callS K X1 hx hby hZ [(.ref a1), (.int (0 : Int32)), (.ref b1), (.int (0 : Int32)), (.int (2 : Int32))] [] hown (W hw 76 rfl) (W hw 77 rfl) (W hw 74 rfl) (W hw 78 rfl) (ccf2_2 l Z a0 hw a1 b1 cz vf c0 c1 h1 n0 (Nat.le_trans Z0 (Nat.le_trans (Nat.le_refl _) E1.1)) (A_a1.ext E1) V_b1 (O0.ext E1) g_b1 (Nat.ne_of_lt (Nat.lt_of_lt_of_le (Nat.lt_of_lt_of_le A_a1.lt (Nat.le_refl _)) (Nat.le_of_eq g1.symm))) SS hl_0 hl_1) e1 rfl rfl pd_10 rfl dj52_16_9 (by rw [hml]; rfl) rfl (by decide) (by decide) (LB rfl) (by decide) (by decide) fun v2 T2 L2 X2 q2 => ?_
  obtain ⟨rfl, Nq2, K2, Ap2_0⟩ := q2
  have N2 := Fr.app N0 Nq2
  refine k_some K (w := (.int (2 : Int32))) ?_
  refine mS K X2.here hx hby #[.val (.ref a1), .val (.int (0 : Int32)), .val (.int (2 : Int32)), .val (.ref b1), .val (.int (2 : Int32)), .unset] dj52_16_12 rfl rfl ?_
  refine mI K X2.here hx hby dj52_16_14 rfl rfl ?_
  refine mIN K X2.here hx hby dj52_16_16 rfl rfl ?_
  refine m_icmpY K X2.here hx hby (q := 57) dj52_16_17 (teq (by decide : (2 : Int32) = (2 : Int32))).1 (by decide) rfl ?_
  refine mAN K X2.here hx hby dj52_16_57 rfl rfl rfl ?_
  exact Go.retO X2 hx hby hlk hret rfl (Or.inr (Or.inr (Or.inr (Or.inr ⟨rfl, rfl, rfl⟩)))) dj52_16_58 (by decide) (by decide) (⟨b1, rfl, N2, (((Keep.refl h0 []).ext E1).trans K2 (allS (Or.inr sz_b1) all0)), sz_b1, Ap2_0⟩)
theorem efcc2_2 (m : MethodId) (x0 : Addr) (x1 : Int32) : entryFrame m #[(.ref x0), (.int x1)] 2 = mkF m 0 #[.val (.ref x0), .val (.int x1)] [] := by first | (simp [entryFrame, mkF, argsToLocals, Value.category]; done) | rfl
theorem ccc2_2 (l : Launch) (Z : State) (a0 : Array Value) (hw : ∀ d ∈ tables_1, d.before a0 Z = true) (a1 : Addr) (cz : Int32) (vf : Value) (y0 y1 : Int32) (h0 : Heap) (n0 : Nat) (Z0 : n0 ≤ h0.size) (A_a1 : Av Z h0 a1 .byte [(.int y0), (.int y1)]) (O0 : Old Z n0 h0) (SS : SSt Z cz vf) :
    Con l Z (⟨"java/lang/StringUTF16", "coderFromArrayLen", "([BI)B"⟩ : MethodName) jdk_52_method_15_code 2 (some .byte) ({ frames := 0, cells := 0, slots := 0, locals := 0 } : Room) [] #[(.ref a1), (.int (2 : Int32))] h0 (fun v h L => v = some (.int (0 : Int32)) ∧ h = h0 ∧ L = []) := by
  refine Con.of (plainFor_of_name pn_java_lang_StringUTF16) #[.val (.ref a1), .val (.int (2 : Int32))] (fun m => efcc2_2 m a1 (2 : Int32)) ?_
  intro p e s m below meth c s₁ K hx hby hml hown hnm hret hlk hZ X0 e0
  have N0 := Fr.nil n0
  refine mIN K X0.here hx hby dj52_15_0 rfl rfl ?_
  refine mAN K X0.here hx hby dj52_15_1 rfl rfl rfl ?_
  refine k_len K X0 hx hby hZ (2 : Int32) e0 A_a1 rfl dj52_15_2 rfl ?_
  refine m_isub K X0.here hx hby (0 : Int32) dj52_15_3 rfl rfl ?_
  refine mB K X0.here hx hby (31 : Int32) dj52_15_4 rfl rfl ?_
  refine m_iushr K X0.here hx hby (0 : Int32) dj52_15_6 rfl rfl ?_
  refine m_i2b K X0.here hx hby (0 : Int32) dj52_15_7 rfl rfl ?_
  exact Go.retN X0 hx hby hlk hret (by simp) dj52_15_8 (by decide) (by decide) (by decide) (⟨rfl, e0, rfl⟩)
theorem efsi2_2 (m : MethodId) (x0 x1 : Addr) (x2 x3 : Int32) : entryFrame m #[(.ref x0), (.ref x1), (.int x2), (.int x3), .null] 6 = mkF m 0 #[.val (.ref x0), .val (.ref x1), .val (.int x2), .val (.int x3), .val .null, .unset] [] := by first | (simp [entryFrame, mkF, argsToLocals, Value.category]; done) | rfl
theorem csi2_2 (l : Launch) (Z : State) (a0 : Array Value) (hw : ∀ d ∈ tables_1, d.before a0 Z = true) (a1 a2 : Addr) (cz : Int32) (vf : Value) (c0 c1 : Int32) (h0 : Heap) (n0 : Nat) (Z0 : n0 ≤ h0.size) (E_a1 : Exa Z h0 a1 "java/lang/String") (F_value_a1 : Fld Z h0 a1 "java/lang/String" "value" "[B" .null) (F_coder_a1 : Fld Z h0 a1 "java/lang/String" "coder" "B" (.int (0 : Int32))) (A_a2 : Av Z h0 a2 .char [(.int c0), (.int c1)]) (O0 : Old Z n0 h0) (g_a1 : n0 ≤ a1) (SS : SSt Z cz vf) (hl_0 : ¬ ((255 : Int32) < c0)) (hl_1 : ¬ ((255 : Int32) < c1)) :
    Con l Z (⟨"java/lang/String", "<init>", "([CIILjava/lang/Void;)V"⟩ : MethodName) jdk_42_method_149_code 6 none ({ frames := 2, cells := 1, slots := 2, locals := 35 } : Room) [] #[(.ref a1), (.ref a2), (.int (0 : Int32)), (.int (2 : Int32)), .null] h0 (fun v h L => ∃ bv : Addr, v = none ∧ Fr n0 L ∧ Keep h0 h [a1] ∧ h0.size ≤ bv ∧ Fld Z h a1 "java/lang/String" "value" "[B" (.ref bv) ∧ Fld Z h a1 "java/lang/String" "coder" "B" (.int (0 : Int32)) ∧ Av Z h bv .byte [(.int (nar .byte (c0.toInt8.toInt32))), (.int (nar .byte (c1.toInt8.toInt32)))]) := by
  refine Con.of (plainFor_of_name pn_java_lang_String) #[.val (.ref a1), .val (.ref a2), .val (.int (0 : Int32)), .val (.int (2 : Int32)), .val .null, .unset] (fun m => efsi2_2 m a1 a2 (0 : Int32) (2 : Int32)) ?_
  intro p e s m below meth c s₁ K hx hby hml hown hnm hret hlk hZ X0 e0
  have N0 := Fr.nil n0
  refine mAN K X0.here hx hby dj42_149_0 rfl rfl rfl ?_
  refine k_initO K X0 hx hby hZ hown (W hw 21 rfl) (W hw 22 rfl) (W hw 23 rfl) e0 dj42_149_1 (by rw [hml]; rfl) rfl (by decide) (LB rfl) fun T1 X1 e1 => ?_
  refine mIN K X1.here hx hby dj42_149_4 rfl rfl ?_
  refine m_ifY K X1.here hx hby (q := 27) dj42_149_5 ((if0 _ _).trans (feq (by decide : ¬ ((2 : Int32) = (0 : Int32)))).2) (by decide) rfl ?_
  refine k_getS K X1 hx hby hZ hown (host := "") (Or.inl (W hw 46 rfl)) Via.refl e1 (SS.cs.ext O0.2) dj42_149_27 rfl fun T2 X2 e2 => ?_
  refine m_ifN K X2.here hx hby (q := 33) dj42_149_30 ((if0 _ _).trans (feq SS.cz).1) rfl ?_
  refine mAN K X2.here hx hby dj42_149_33 rfl rfl rfl ?_
  refine mIN K X2.here hx hby dj42_149_34 rfl rfl ?_
  refine mIN K X2.here hx hby dj42_149_35 rfl rfl ?_
  refine k_callS K X2 hx hby hZ [(.ref a2), (.int (0 : Int32)), (.int (2 : Int32))] [] hown (W hw 72 rfl) (W hw 73 rfl) (W hw 74 rfl) (W hw 75 rfl) (cct2_2 l Z a0 hw a2 cz vf c0 c1 h0 n0 Z0 A_a2 O0 SS hl_0 hl_1) e2 rfl rfl pd_11 rfl dj42_149_36 (by rw [hml]; rfl) rfl (by decide) (by decide) (LB rfl) (by decide) (by decide) fun v3 T3 L3 X3 q3 => ?_
  obtain ⟨b3_bv, rfl, Nq3, K3, sq_b3_bv, Ap3_0⟩ := q3
  have N3 := Fr.app N0 Nq3
  have sz_b3_bv : h0.size ≤ b3_bv := Nat.le_trans (Nat.le_refl _) sq_b3_bv
  have g_b3_bv : n0 ≤ b3_bv := Nat.le_trans Z0 sz_b3_bv
  refine k_some K (w := (.ref b3_bv)) ?_
  refine m_astore K X3.here hx hby #[.val (.ref a1), .val (.ref a2), .val (.int (0 : Int32)), .val (.int (2 : Int32)), .val .null, .val (.ref b3_bv)] dj42_149_39 rfl rfl rfl ?_
  refine mAN K X3.here hx hby dj42_149_41 rfl rfl rfl ?_
  refine mA K X3.here hx hby dj42_149_42 rfl rfl rfl ?_
  refine mIN K X3.here hx hby dj42_149_44 rfl rfl ?_
  refine k_callS K X3 hx hby hZ [(.ref b3_bv), (.int (2 : Int32))] [(.ref a1)] hown (W hw 79 rfl) (W hw 80 rfl) (W hw 74 rfl) (W hw 81 rfl) (ccc2_2 l Z a0 hw b3_bv cz vf (nar .byte (c0.toInt8.toInt32)) (nar .byte (c1.toInt8.toInt32)) T3.heap n0 (Nat.le_trans Z0 (Nat.le_trans (Nat.le_refl _) K3.1)) Ap3_0 (O0.keep K3 all0) SS) rfl rfl rfl pd_12 rfl dj42_149_45 (by rw [hml]; rfl) rfl (by decide) (by decide) (LB rfl) (by decide) (by decide) fun v4 T4 L4 X4 q4 => ?_
  obtain ⟨rfl, e4, rfl⟩ := q4
  replace X4 := own_px X4
  refine k_some K (w := (.int (0 : Int32))) ?_
  refine k_putF K X4 hx hby hZ hown (host := "") (Or.inl (W hw 31 rfl)) Via.refl e4 (F_coder_a1.keep K3 nin0) (E_a1.keep K3) (Or.inr ⟨(W hw 27 rfl), rfl, hnm⟩) (W hw 11 rfl) (ty := .byte) (by decide) (by decide) (by decide) dj42_149_48 rfl fun T5 h5 X5 e5 W5 => ?_
  have Fw5 := (F_coder_a1.keep K3 nin0).same W5
  have N5 := Fr.snoc X5 N3 g_a1
  refine mAN K X5.here hx hby dj42_149_51 rfl rfl rfl ?_
  refine mA K X5.here hx hby dj42_149_52 rfl rfl rfl ?_
  refine k_putF K X5 hx hby hZ hown (host := "") (Or.inl (W hw 30 rfl)) Via.refl e5 ((F_value_a1.keep K3 nin0).other W5 (Or.inr (slot_ne (Or.inr (W hw 26 rfl)) (Or.inr (W hw 27 rfl)) (by decide) (t := (.array .byte)) (t' := .byte) (by decide) (by decide)))) ((E_a1.keep K3).wr W5) (Or.inr ⟨(W hw 26 rfl), rfl, hnm⟩) (W hw 11 rfl) (ty := (.array .byte)) (by decide) rfl rfl dj42_149_54 rfl fun T6 h6 X6 e6 W6 => ?_
  have Fw6 := ((F_value_a1.keep K3 nin0).other W5 (Or.inr (slot_ne (Or.inr (W hw 26 rfl)) (Or.inr (W hw 27 rfl)) (by decide) (t := (.array .byte)) (t' := .byte) (by decide) (by decide)))).same W6
  have N6 := Fr.snoc X6 N5 g_a1
  exact Go.retV X6 hx hby hlk hret dj42_149_57 (by decide) (by decide) (by rw [e6]; exact ⟨b3_bv, rfl, N6, ((((Keep.refl h0 [a1]).trans K3 all0).wr W5 (Or.inl (by simp))).wr W6 (Or.inl (by simp))), sz_b3_bv, Fw6, (Fw5.other W6 (Or.inr (slot_ne (Or.inr (W hw 27 rfl)) (Or.inr (W hw 26 rfl)) (by decide) (t := .byte) (t' := (.array .byte)) (by decide) (by decide)))), ((Ap3_0.other W5 (Ne.symm (Nat.ne_of_lt (Nat.lt_of_lt_of_le (Nat.lt_of_lt_of_le E_a1.lt (Nat.le_refl _)) sq_b3_bv)))).other W6 (Ne.symm (Nat.ne_of_lt (Nat.lt_of_lt_of_le (Nat.lt_of_lt_of_le E_a1.lt (Nat.le_refl _)) sq_b3_bv))))⟩)
theorem efsj2_2 (m : MethodId) (x0 x1 : Addr) : entryFrame m #[(.ref x0), (.ref x1)] 2 = mkF m 0 #[.val (.ref x0), .val (.ref x1)] [] := by first | (simp [entryFrame, mkF, argsToLocals, Value.category]; done) | rfl
theorem csj2_2 (l : Launch) (Z : State) (a0 : Array Value) (hw : ∀ d ∈ tables_1, d.before a0 Z = true) (a1 a2 : Addr) (cz : Int32) (vf : Value) (c0 c1 : Int32) (h0 : Heap) (n0 : Nat) (Z0 : n0 ≤ h0.size) (E_a1 : Exa Z h0 a1 "java/lang/String") (F_value_a1 : Fld Z h0 a1 "java/lang/String" "value" "[B" .null) (F_coder_a1 : Fld Z h0 a1 "java/lang/String" "coder" "B" (.int (0 : Int32))) (A_a2 : Av Z h0 a2 .char [(.int c0), (.int c1)]) (O0 : Old Z n0 h0) (g_a1 : n0 ≤ a1) (SS : SSt Z cz vf) (hl_0 : ¬ ((255 : Int32) < c0)) (hl_1 : ¬ ((255 : Int32) < c1)) :
    Con l Z (⟨"java/lang/String", "<init>", "([C)V"⟩ : MethodName) jdk_42_method_3_code 2 none ({ frames := 5, cells := 2, slots := 12, locals := 74 } : Room) [] #[(.ref a1), (.ref a2)] h0 (fun v h L => ∃ bv : Addr, v = none ∧ Fr n0 L ∧ Keep h0 h [a1] ∧ h0.size ≤ bv ∧ Fld Z h a1 "java/lang/String" "value" "[B" (.ref bv) ∧ Fld Z h a1 "java/lang/String" "coder" "B" (.int (0 : Int32)) ∧ Av Z h bv .byte [(.int (nar .byte (c0.toInt8.toInt32))), (.int (nar .byte (c1.toInt8.toInt32)))]) := by
  refine Con.of (plainFor_of_name pn_java_lang_String) #[.val (.ref a1), .val (.ref a2)] (fun m => efsj2_2 m a1 a2) ?_
  intro p e s m below meth c s₁ K hx hby hml hown hnm hret hlk hZ X0 e0
  have N0 := Fr.nil n0
  refine mAN K X0.here hx hby dj42_3_0 rfl rfl rfl ?_
  refine mAN K X0.here hx hby dj42_3_1 rfl rfl rfl ?_
  refine mC K X0.here hx hby (0 : Int32) dj42_3_2 rfl rfl ?_
  refine mAN K X0.here hx hby dj42_3_3 rfl rfl rfl ?_
  refine k_len K X0 hx hby hZ (2 : Int32) e0 A_a2 rfl dj42_3_4 rfl ?_
  refine m_null K X0.here hx hby dj42_3_5 rfl ?_
  refine k_callP K X0 hx hby hZ a1 [(.ref a2), (.int (0 : Int32)), (.int (2 : Int32)), .null] [] hown (W hw 17 rfl) (W hw 18 rfl) (W hw 12 rfl) (W hw 20 rfl) rfl (csi2_2 l Z a0 hw a1 a2 cz vf c0 c1 h0 n0 Z0 E_a1 F_value_a1 F_coder_a1 A_a2 O0 g_a1 SS hl_0 hl_1) e0 rfl rfl pd_13 rfl dj42_3_6 (by rw [hml]; rfl) rfl (by decide) (by decide) (LB rfl) (by decide) (by decide) fun v1 T1 L1 X1 q1 => ?_
  obtain ⟨b1_bv, rfl, Nq1, K1, sq_b1_bv, Fp1_0, Fp1_1, Ap1_0⟩ := q1
  have N1 := Fr.app N0 Nq1
  have sz_b1_bv : h0.size ≤ b1_bv := Nat.le_trans (Nat.le_refl _) sq_b1_bv
  have g_b1_bv : n0 ≤ b1_bv := Nat.le_trans Z0 sz_b1_bv
  refine k_none K ?_
  exact Go.retV X1 hx hby hlk hret dj42_3_9 (by decide) (by decide) (⟨b1_bv, rfl, N1, ((Keep.refl h0 [a1]).trans K1 (allS (Or.inl (by simp)) all0)), sz_b1_bv, Fp1_0, Fp1_1, Ap1_0⟩)
theorem efcf3_0 (m : MethodId) (x0 : Addr) (x1 : Int32) (x2 : Addr) (x3 x4 : Int32) : entryFrame m #[(.ref x0), (.int x1), (.ref x2), (.int x3), (.int x4)] 7 = mkF m 0 #[.val (.ref x0), .val (.int x1), .val (.ref x2), .val (.int x3), .val (.int x4), .unset, .unset] [] := by first | (simp [entryFrame, mkF, argsToLocals, Value.category]; done) | rfl
theorem ccf3_0 (l : Launch) (Z : State) (a0 : Array Value) (hw : ∀ d ∈ tables_1, d.before a0 Z = true) (a1 a3 : Addr) (cz : Int32) (vf : Value) (c0 c1 c2 : Int32) (h0 : Heap) (n0 : Nat) (Z0 : n0 ≤ h0.size) (A_a1 : Av Z h0 a1 .char [(.int c0), (.int c1), (.int c2)]) (A_a3 : Av Z h0 a3 .byte [(.int (0 : Int32)), (.int (0 : Int32)), (.int (0 : Int32))]) (O0 : Old Z n0 h0) (g_a3 : n0 ≤ a3) (ne_a1_a3 : a1 ≠ a3) (SS : SSt Z cz vf) (hg : (255 : Int32) < c0) (hch_0 : nar .char c0 = c0) (hch_1 : nar .char c1 = c1) (hch_2 : nar .char c2 = c2) :
    Con l Z (⟨"java/lang/StringUTF16", "compress", "([CI[BII)I"⟩ : MethodName) jdk_52_method_21_code 7 (some .int) ({ frames := 0, cells := 0, slots := 0, locals := 0 } : Room) [] #[(.ref a1), (.int (0 : Int32)), (.ref a3), (.int (0 : Int32)), (.int (3 : Int32))] h0 (fun v h L => v = some (.int (0 : Int32)) ∧ Fr n0 L ∧ Keep h0 h [a3] ∧ Av Z h a3 .byte [(.int (0 : Int32)), (.int (0 : Int32)), (.int (0 : Int32))]) := by
  refine Con.of (plainFor_of_name pn_java_lang_StringUTF16) #[.val (.ref a1), .val (.int (0 : Int32)), .val (.ref a3), .val (.int (0 : Int32)), .val (.int (3 : Int32)), .unset, .unset] (fun m => efcf3_0 m a1 (0 : Int32) a3 (0 : Int32) (3 : Int32)) ?_
  intro p e s m below meth c s₁ K hx hby hml hown hnm hret hlk hZ X0 e0
  have N0 := Fr.nil n0
  refine mC K X0.here hx hby (0 : Int32) dj52_21_0 rfl rfl ?_
  refine mS K X0.here hx hby #[.val (.ref a1), .val (.int (0 : Int32)), .val (.ref a3), .val (.int (0 : Int32)), .val (.int (3 : Int32)), .val (.int (0 : Int32)), .unset] dj52_21_1 rfl rfl ?_
  refine mI K X0.here hx hby dj52_21_3 rfl rfl ?_
  refine mI K X0.here hx hby dj52_21_5 rfl rfl ?_
  refine m_icmpN K X0.here hx hby (q := 10) dj52_21_7 (tlt (by decide : (0 : Int32) < (3 : Int32))).2.1 rfl ?_
  refine mAN K X0.here hx hby dj52_21_10 rfl rfl rfl ?_
  refine mIN K X0.here hx hby dj52_21_11 rfl rfl ?_
  refine k_ldC K X0 hx hby hZ e0 A_a1 (v := (.int c0)) (by decide) rfl dj52_21_12 rfl ?_
  refine mS K X0.here hx hby #[.val (.ref a1), .val (.int (0 : Int32)), .val (.ref a3), .val (.int (0 : Int32)), .val (.int (3 : Int32)), .val (.int (0 : Int32)), .val (.int c0)] dj52_21_13 rfl rfl ?_
  refine mI K X0.here hx hby dj52_21_15 rfl rfl ?_
  refine mP K X0.here hx hby (255 : Int32) dj52_21_17 rfl rfl ?_
  refine m_icmpN K X0.here hx hby (q := 23) dj52_21_20 (tlt hg).2.2.2 rfl ?_
  refine mI K X0.here hx hby dj52_21_23 rfl rfl ?_
  exact Go.retI X0 hx hby hlk hret dj52_21_25 (by decide) (by decide) (by rw [e0]; exact ⟨rfl, N0, (Keep.refl h0 [a3]), A_a3⟩)
theorem efct3_0 (m : MethodId) (x0 : Addr) (x1 x2 : Int32) : entryFrame m #[(.ref x0), (.int x1), (.int x2)] 6 = mkF m 0 #[.val (.ref x0), .val (.int x1), .val (.int x2), .unset, .unset, .unset] [] := by first | (simp [entryFrame, mkF, argsToLocals, Value.category]; done) | rfl
theorem cct3_0 (l : Launch) (Z : State) (a0 : Array Value) (hw : ∀ d ∈ tables_1, d.before a0 Z = true) (a1 : Addr) (cz : Int32) (vf : Value) (c0 c1 c2 : Int32) (h0 : Heap) (n0 : Nat) (Z0 : n0 ≤ h0.size) (A_a1 : Av Z h0 a1 .char [(.int c0), (.int c1), (.int c2)]) (O0 : Old Z n0 h0) (SS : SSt Z cz vf) (hg : (255 : Int32) < c0) (hch_0 : nar .char c0 = c0) (hch_1 : nar .char c1 = c1) (hch_2 : nar .char c2 = c2) :
    Con l Z (⟨"java/lang/StringUTF16", "compress", "([CII)[B"⟩ : MethodName) jdk_52_method_16_code 6 (some (.array .byte)) ({ frames := 3, cells := 2, slots := 9, locals := 40 } : Room) [] #[(.ref a1), (.int (0 : Int32)), (.int (3 : Int32))] h0 (fun v h L => ∃ bv : Addr, v = some (.ref bv) ∧ Fr n0 L ∧ Keep h0 h [] ∧ h0.size ≤ bv ∧ Av Z h bv .byte [(.int (BLO c0)), (.int (BHI c0)), (.int (BLO c1)), (.int (BHI c1)), (.int (BLO c2)), (.int (BHI c2))]) := by
  refine Con.of (plainFor_of_name pn_java_lang_StringUTF16) #[.val (.ref a1), .val (.int (0 : Int32)), .val (.int (3 : Int32)), .unset, .unset, .unset] (fun m => efct3_0 m a1 (0 : Int32) (3 : Int32)) ?_
  intro p e s m below meth c s₁ K hx hby hml hown hnm hret hlk hZ X0 e0
  have N0 := Fr.nil n0
  refine mIN K X0.here hx hby dj52_16_0 rfl rfl ?_
  refine k_newP K X0 hx hby hZ 3 3 (W hw 25 rfl) e0 dj52_16_1 rfl (by decide) rfl (by decide) (by decide) (by decide) (by decide) fun T1 h1 b1 X1 e1 E1 g1 V_b1 => ?_
  have sz_b1 : h0.size ≤ b1 := Nat.le_trans (Nat.le_refl _) (Nat.le_of_eq g1.symm)
  have g_b1 : n0 ≤ b1 := Nat.le_trans Z0 sz_b1
  replace V_b1 : Av Z h1 b1 .byte [(.int (0 : Int32)), (.int (0 : Int32)), (.int (0 : Int32))] := V_b1
  refine m_astoreN K X1.here hx hby #[.val (.ref a1), .val (.int (0 : Int32)), .val (.int (3 : Int32)), .val (.ref b1), .unset, .unset] dj52_16_3 rfl rfl rfl ?_
  refine mAN K X1.here hx hby dj52_16_4 rfl rfl rfl ?_
  refine mIN K X1.here hx hby dj52_16_5 rfl rfl ?_
  refine mAN K X1.here hx hby dj52_16_6 rfl rfl rfl ?_
  refine mC K X1.here hx hby (0 : Int32) dj52_16_7 rfl rfl ?_
  refine mIN K X1.here hx hby dj52_16_8 rfl rfl ?_
  refine k_callS K X1 hx hby hZ [(.ref a1), (.int (0 : Int32)), (.ref b1), (.int (0 : Int32)), (.int (3 : Int32))] [] hown (W hw 76 rfl) (W hw 77 rfl) (W hw 74 rfl) (W hw 78 rfl) (ccf3_0 l Z a0 hw a1 b1 cz vf c0 c1 c2 h1 n0 (Nat.le_trans Z0 (Nat.le_trans (Nat.le_refl _) E1.1)) (A_a1.ext E1) V_b1 (O0.ext E1) g_b1 (Nat.ne_of_lt (Nat.lt_of_lt_of_le (Nat.lt_of_lt_of_le A_a1.lt (Nat.le_refl _)) (Nat.le_of_eq g1.symm))) SS hg hch_0 hch_1 hch_2) e1 rfl rfl pd_10 rfl dj52_16_9 (by rw [hml]; rfl) rfl (by decide) (by decide) (LB rfl) (by decide) (by decide) fun v2 T2 L2 X2 q2 => ?_
  obtain ⟨rfl, Nq2, K2, Ap2_0⟩ := q2
  have N2 := Fr.app N0 Nq2
  refine k_some K (w := (.int (0 : Int32))) ?_
  refine mS K X2.here hx hby #[.val (.ref a1), .val (.int (0 : Int32)), .val (.int (3 : Int32)), .val (.ref b1), .val (.int (0 : Int32)), .unset] dj52_16_12 rfl rfl ?_
  refine mI K X2.here hx hby dj52_16_14 rfl rfl ?_
  refine mIN K X2.here hx hby dj52_16_16 rfl rfl ?_
  refine m_icmpN K X2.here hx hby (q := 20) dj52_16_17 (feq (by decide : ¬ ((0 : Int32) = (3 : Int32)))).1 rfl ?_
  refine mAN K X2.here hx hby dj52_16_20 rfl rfl rfl ?_
  refine mIN K X2.here hx hby dj52_16_21 rfl rfl ?_
  refine mIN K X2.here hx hby dj52_16_22 rfl rfl ?_
  refine k_callS K X2 hx hby hZ [(.ref a1), (.int (0 : Int32)), (.int (3 : Int32))] [] hown (W hw 109 rfl) (W hw 110 rfl) (W hw 74 rfl) (W hw 111 rfl) (ctb3 l Z a0 hw a1 cz vf c0 c1 c2 T2.heap n0 (Nat.le_trans Z0 (Nat.le_trans (Nat.le_trans (Nat.le_refl _) E1.1) K2.1)) ((A_a1.ext E1).keep K2 (ninS (Nat.ne_of_lt (Nat.lt_of_lt_of_le (Nat.lt_of_lt_of_le A_a1.lt (Nat.le_refl _)) (Nat.le_of_eq g1.symm))) nin0)) ((O0.ext E1).keep K2 (allS g_b1 all0)) SS) rfl rfl rfl pd_11 rfl dj52_16_23 (by rw [hml]; rfl) rfl (by decide) (by decide) (LB rfl) (by decide) (by decide) fun v3 T3 L3 X3 q3 => ?_
  obtain ⟨b3_bv, rfl, Nq3, K3, sq_b3_bv, Ap3_0⟩ := q3
  have N3 := Fr.app N2 Nq3
  have sz_b3_bv : h0.size ≤ b3_bv := Nat.le_trans (Nat.le_trans (Nat.le_trans (Nat.le_refl _) E1.1) K2.1) sq_b3_bv
  have g_b3_bv : n0 ≤ b3_bv := Nat.le_trans Z0 sz_b3_bv
  refine k_some K (w := (.ref b3_bv)) ?_
  refine m_astore K X3.here hx hby #[.val (.ref a1), .val (.int (0 : Int32)), .val (.int (3 : Int32)), .val (.ref b1), .val (.int (0 : Int32)), .val (.ref b3_bv)] dj52_16_26 rfl rfl rfl ?_
  refine mA K X3.here hx hby dj52_16_28 rfl rfl rfl ?_
  refine mI K X3.here hx hby dj52_16_30 rfl rfl ?_
  refine k_callS K X3 hx hby hZ [(.ref b3_bv), (.int (0 : Int32))] [] hown (W hw 125 rfl) (W hw 126 rfl) (W hw 74 rfl) (W hw 127 rfl) (cgc3_0 l Z a0 hw b3_bv cz vf (BLO c0) (BHI c0) (BLO c1) (BHI c1) (BLO c2) (BHI c2) T3.heap n0 (Nat.le_trans Z0 (Nat.le_trans (Nat.le_trans (Nat.le_trans (Nat.le_refl _) E1.1) K2.1) K3.1)) Ap3_0 (((O0.ext E1).keep K2 (allS g_b1 all0)).keep K3 all0) SS) rfl rfl rfl pd_5 rfl dj52_16_32 (by rw [hml]; rfl) rfl (by decide) (by decide) (LB rfl) (by decide) (by decide) fun v4 T4 L4 X4 q4 => ?_
  obtain ⟨rfl, e4, rfl⟩ := q4
  replace X4 := own_px X4
  refine k_some K (w := (.int (GCH (BLO c0) (BHI c0)))) ?_
  refine mP K X4.here hx hby (255 : Int32) dj52_16_35 rfl rfl ?_
  refine m_icmpY K X4.here hx hby (q := 54) dj52_16_38 (tlt (own_rgt c0 hch_0 hg)).2.2.1 (by decide) rfl ?_
  refine mA K X4.here hx hby dj52_16_54 rfl rfl rfl ?_
  exact Go.retO X4 hx hby hlk hret rfl (Or.inr (Or.inr (Or.inr (Or.inr ⟨rfl, rfl, rfl⟩)))) dj52_16_56 (by decide) (by decide) (by rw [e4]; exact ⟨b3_bv, rfl, N3, ((((Keep.refl h0 []).ext E1).trans K2 (allS (Or.inr sz_b1) all0)).trans K3 all0), sz_b3_bv, Ap3_0⟩)
theorem efcc3_6 (m : MethodId) (x0 : Addr) (x1 : Int32) : entryFrame m #[(.ref x0), (.int x1)] 2 = mkF m 0 #[.val (.ref x0), .val (.int x1)] [] := by first | (simp [entryFrame, mkF, argsToLocals, Value.category]; done) | rfl
theorem ccc3_6 (l : Launch) (Z : State) (a0 : Array Value) (hw : ∀ d ∈ tables_1, d.before a0 Z = true) (a1 : Addr) (cz : Int32) (vf : Value) (y0 y1 : Int32) (y2 y3 : Int32) (y4 y5 : Int32) (h0 : Heap) (n0 : Nat) (Z0 : n0 ≤ h0.size) (A_a1 : Av Z h0 a1 .byte [(.int y0), (.int y1), (.int y2), (.int y3), (.int y4), (.int y5)]) (O0 : Old Z n0 h0) (SS : SSt Z cz vf) :
    Con l Z (⟨"java/lang/StringUTF16", "coderFromArrayLen", "([BI)B"⟩ : MethodName) jdk_52_method_15_code 2 (some .byte) ({ frames := 0, cells := 0, slots := 0, locals := 0 } : Room) [] #[(.ref a1), (.int (3 : Int32))] h0 (fun v h L => v = some (.int (1 : Int32)) ∧ h = h0 ∧ L = []) := by
  refine Con.of (plainFor_of_name pn_java_lang_StringUTF16) #[.val (.ref a1), .val (.int (3 : Int32))] (fun m => efcc3_6 m a1 (3 : Int32)) ?_
  intro p e s m below meth c s₁ K hx hby hml hown hnm hret hlk hZ X0 e0
  have N0 := Fr.nil n0
  refine mIN K X0.here hx hby dj52_15_0 rfl rfl ?_
  refine mAN K X0.here hx hby dj52_15_1 rfl rfl rfl ?_
  refine k_len K X0 hx hby hZ (6 : Int32) e0 A_a1 rfl dj52_15_2 rfl ?_
  refine m_isub K X0.here hx hby (-3 : Int32) dj52_15_3 rfl rfl ?_
  refine mB K X0.here hx hby (31 : Int32) dj52_15_4 rfl rfl ?_
  refine m_iushr K X0.here hx hby (1 : Int32) dj52_15_6 rfl rfl ?_
  refine m_i2b K X0.here hx hby (1 : Int32) dj52_15_7 rfl rfl ?_
  exact Go.retN X0 hx hby hlk hret (by simp) dj52_15_8 (by decide) (by decide) (by decide) (⟨rfl, e0, rfl⟩)
theorem efsi3_0 (m : MethodId) (x0 x1 : Addr) (x2 x3 : Int32) : entryFrame m #[(.ref x0), (.ref x1), (.int x2), (.int x3), .null] 6 = mkF m 0 #[.val (.ref x0), .val (.ref x1), .val (.int x2), .val (.int x3), .val .null, .unset] [] := by first | (simp [entryFrame, mkF, argsToLocals, Value.category]; done) | rfl
theorem csi3_0 (l : Launch) (Z : State) (a0 : Array Value) (hw : ∀ d ∈ tables_1, d.before a0 Z = true) (a1 a2 : Addr) (cz : Int32) (vf : Value) (c0 c1 c2 : Int32) (h0 : Heap) (n0 : Nat) (Z0 : n0 ≤ h0.size) (E_a1 : Exa Z h0 a1 "java/lang/String") (F_value_a1 : Fld Z h0 a1 "java/lang/String" "value" "[B" .null) (F_coder_a1 : Fld Z h0 a1 "java/lang/String" "coder" "B" (.int (0 : Int32))) (A_a2 : Av Z h0 a2 .char [(.int c0), (.int c1), (.int c2)]) (O0 : Old Z n0 h0) (g_a1 : n0 ≤ a1) (SS : SSt Z cz vf) (hg : (255 : Int32) < c0) (hch_0 : nar .char c0 = c0) (hch_1 : nar .char c1 = c1) (hch_2 : nar .char c2 = c2) :
    Con l Z (⟨"java/lang/String", "<init>", "([CIILjava/lang/Void;)V"⟩ : MethodName) jdk_42_method_149_code 6 none ({ frames := 4, cells := 2, slots := 9, locals := 57 } : Room) [] #[(.ref a1), (.ref a2), (.int (0 : Int32)), (.int (3 : Int32)), .null] h0 (fun v h L => ∃ bv : Addr, v = none ∧ Fr n0 L ∧ Keep h0 h [a1] ∧ h0.size ≤ bv ∧ Fld Z h a1 "java/lang/String" "value" "[B" (.ref bv) ∧ Fld Z h a1 "java/lang/String" "coder" "B" (.int (1 : Int32)) ∧ Av Z h bv .byte [(.int (BLO c0)), (.int (BHI c0)), (.int (BLO c1)), (.int (BHI c1)), (.int (BLO c2)), (.int (BHI c2))]) := by
  refine Con.of (plainFor_of_name pn_java_lang_String) #[.val (.ref a1), .val (.ref a2), .val (.int (0 : Int32)), .val (.int (3 : Int32)), .val .null, .unset] (fun m => efsi3_0 m a1 a2 (0 : Int32) (3 : Int32)) ?_
  intro p e s m below meth c s₁ K hx hby hml hown hnm hret hlk hZ X0 e0
  have N0 := Fr.nil n0
  refine mAN K X0.here hx hby dj42_149_0 rfl rfl rfl ?_
  refine k_initO K X0 hx hby hZ hown (W hw 21 rfl) (W hw 22 rfl) (W hw 23 rfl) e0 dj42_149_1 (by rw [hml]; rfl) rfl (by decide) (LB rfl) fun T1 X1 e1 => ?_
  refine mIN K X1.here hx hby dj42_149_4 rfl rfl ?_
  refine m_ifY K X1.here hx hby (q := 27) dj42_149_5 ((if0 _ _).trans (feq (by decide : ¬ ((3 : Int32) = (0 : Int32)))).2) (by decide) rfl ?_
  refine k_getS K X1 hx hby hZ hown (host := "") (Or.inl (W hw 46 rfl)) Via.refl e1 (SS.cs.ext O0.2) dj42_149_27 rfl fun T2 X2 e2 => ?_
  refine m_ifN K X2.here hx hby (q := 33) dj42_149_30 ((if0 _ _).trans (feq SS.cz).1) rfl ?_
  refine mAN K X2.here hx hby dj42_149_33 rfl rfl rfl ?_
  refine mIN K X2.here hx hby dj42_149_34 rfl rfl ?_
  refine mIN K X2.here hx hby dj42_149_35 rfl rfl ?_
  refine k_callS K X2 hx hby hZ [(.ref a2), (.int (0 : Int32)), (.int (3 : Int32))] [] hown (W hw 72 rfl) (W hw 73 rfl) (W hw 74 rfl) (W hw 75 rfl) (cct3_0 l Z a0 hw a2 cz vf c0 c1 c2 h0 n0 Z0 A_a2 O0 SS hg hch_0 hch_1 hch_2) e2 rfl rfl pd_11 rfl dj42_149_36 (by rw [hml]; rfl) rfl (by decide) (by decide) (LB rfl) (by decide) (by decide) fun v3 T3 L3 X3 q3 => ?_
  obtain ⟨b3_bv, rfl, Nq3, K3, sq_b3_bv, Ap3_0⟩ := q3
  have N3 := Fr.app N0 Nq3
  have sz_b3_bv : h0.size ≤ b3_bv := Nat.le_trans (Nat.le_refl _) sq_b3_bv
  have g_b3_bv : n0 ≤ b3_bv := Nat.le_trans Z0 sz_b3_bv
  refine k_some K (w := (.ref b3_bv)) ?_
  refine m_astore K X3.here hx hby #[.val (.ref a1), .val (.ref a2), .val (.int (0 : Int32)), .val (.int (3 : Int32)), .val .null, .val (.ref b3_bv)] dj42_149_39 rfl rfl rfl ?_
  refine mAN K X3.here hx hby dj42_149_41 rfl rfl rfl ?_
  refine mA K X3.here hx hby dj42_149_42 rfl rfl rfl ?_
  refine mIN K X3.here hx hby dj42_149_44 rfl rfl ?_
  refine k_callS K X3 hx hby hZ [(.ref b3_bv), (.int (3 : Int32))] [(.ref a1)] hown (W hw 79 rfl) (W hw 80 rfl) (W hw 74 rfl) (W hw 81 rfl) (ccc3_6 l Z a0 hw b3_bv cz vf (BLO c0) (BHI c0) (BLO c1) (BHI c1) (BLO c2) (BHI c2) T3.heap n0 (Nat.le_trans Z0 (Nat.le_trans (Nat.le_refl _) K3.1)) Ap3_0 (O0.keep K3 all0) SS) rfl rfl rfl pd_12 rfl dj42_149_45 (by rw [hml]; rfl) rfl (by decide) (by decide) (LB rfl) (by decide) (by decide) fun v4 T4 L4 X4 q4 => ?_
  obtain ⟨rfl, e4, rfl⟩ := q4
  replace X4 := own_px X4
  refine k_some K (w := (.int (1 : Int32))) ?_
  refine k_putF K X4 hx hby hZ hown (host := "") (Or.inl (W hw 31 rfl)) Via.refl e4 (F_coder_a1.keep K3 nin0) (E_a1.keep K3) (Or.inr ⟨(W hw 27 rfl), rfl, hnm⟩) (W hw 11 rfl) (ty := .byte) (by decide) (by decide) (by decide) dj42_149_48 rfl fun T5 h5 X5 e5 W5 => ?_
  have Fw5 := (F_coder_a1.keep K3 nin0).same W5
  have N5 := Fr.snoc X5 N3 g_a1
  refine mAN K X5.here hx hby dj42_149_51 rfl rfl rfl ?_
  refine mA K X5.here hx hby dj42_149_52 rfl rfl rfl ?_
  refine k_putF K X5 hx hby hZ hown (host := "") (Or.inl (W hw 30 rfl)) Via.refl e5 ((F_value_a1.keep K3 nin0).other W5 (Or.inr (slot_ne (Or.inr (W hw 26 rfl)) (Or.inr (W hw 27 rfl)) (by decide) (t := (.array .byte)) (t' := .byte) (by decide) (by decide)))) ((E_a1.keep K3).wr W5) (Or.inr ⟨(W hw 26 rfl), rfl, hnm⟩) (W hw 11 rfl) (ty := (.array .byte)) (by decide) rfl rfl dj42_149_54 rfl fun T6 h6 X6 e6 W6 => ?_
  have Fw6 := ((F_value_a1.keep K3 nin0).other W5 (Or.inr (slot_ne (Or.inr (W hw 26 rfl)) (Or.inr (W hw 27 rfl)) (by decide) (t := (.array .byte)) (t' := .byte) (by decide) (by decide)))).same W6
  have N6 := Fr.snoc X6 N5 g_a1
  exact Go.retV X6 hx hby hlk hret dj42_149_57 (by decide) (by decide) (by rw [e6]; exact ⟨b3_bv, rfl, N6, ((((Keep.refl h0 [a1]).trans K3 all0).wr W5 (Or.inl (by simp))).wr W6 (Or.inl (by simp))), sz_b3_bv, Fw6, (Fw5.other W6 (Or.inr (slot_ne (Or.inr (W hw 27 rfl)) (Or.inr (W hw 26 rfl)) (by decide) (t := .byte) (t' := (.array .byte)) (by decide) (by decide)))), ((Ap3_0.other W5 (Ne.symm (Nat.ne_of_lt (Nat.lt_of_lt_of_le (Nat.lt_of_lt_of_le E_a1.lt (Nat.le_refl _)) sq_b3_bv)))).other W6 (Ne.symm (Nat.ne_of_lt (Nat.lt_of_lt_of_le (Nat.lt_of_lt_of_le E_a1.lt (Nat.le_refl _)) sq_b3_bv))))⟩)
theorem efsj3_0 (m : MethodId) (x0 x1 : Addr) : entryFrame m #[(.ref x0), (.ref x1)] 2 = mkF m 0 #[.val (.ref x0), .val (.ref x1)] [] := by first | (simp [entryFrame, mkF, argsToLocals, Value.category]; done) | rfl
theorem csj3_0 (l : Launch) (Z : State) (a0 : Array Value) (hw : ∀ d ∈ tables_1, d.before a0 Z = true) (a1 a2 : Addr) (cz : Int32) (vf : Value) (c0 c1 c2 : Int32) (h0 : Heap) (n0 : Nat) (Z0 : n0 ≤ h0.size) (E_a1 : Exa Z h0 a1 "java/lang/String") (F_value_a1 : Fld Z h0 a1 "java/lang/String" "value" "[B" .null) (F_coder_a1 : Fld Z h0 a1 "java/lang/String" "coder" "B" (.int (0 : Int32))) (A_a2 : Av Z h0 a2 .char [(.int c0), (.int c1), (.int c2)]) (O0 : Old Z n0 h0) (g_a1 : n0 ≤ a1) (SS : SSt Z cz vf) (hg : (255 : Int32) < c0) (hch_0 : nar .char c0 = c0) (hch_1 : nar .char c1 = c1) (hch_2 : nar .char c2 = c2) :
    Con l Z (⟨"java/lang/String", "<init>", "([C)V"⟩ : MethodName) jdk_42_method_3_code 2 none ({ frames := 5, cells := 2, slots := 12, locals := 74 } : Room) [] #[(.ref a1), (.ref a2)] h0 (fun v h L => ∃ bv : Addr, v = none ∧ Fr n0 L ∧ Keep h0 h [a1] ∧ h0.size ≤ bv ∧ Fld Z h a1 "java/lang/String" "value" "[B" (.ref bv) ∧ Fld Z h a1 "java/lang/String" "coder" "B" (.int (1 : Int32)) ∧ Av Z h bv .byte [(.int (BLO c0)), (.int (BHI c0)), (.int (BLO c1)), (.int (BHI c1)), (.int (BLO c2)), (.int (BHI c2))]) := by
  refine Con.of (plainFor_of_name pn_java_lang_String) #[.val (.ref a1), .val (.ref a2)] (fun m => efsj3_0 m a1 a2) ?_
  intro p e s m below meth c s₁ K hx hby hml hown hnm hret hlk hZ X0 e0
  have N0 := Fr.nil n0
  refine mAN K X0.here hx hby dj42_3_0 rfl rfl rfl ?_
  refine mAN K X0.here hx hby dj42_3_1 rfl rfl rfl ?_
  refine mC K X0.here hx hby (0 : Int32) dj42_3_2 rfl rfl ?_
  refine mAN K X0.here hx hby dj42_3_3 rfl rfl rfl ?_
  refine k_len K X0 hx hby hZ (3 : Int32) e0 A_a2 rfl dj42_3_4 rfl ?_
  refine m_null K X0.here hx hby dj42_3_5 rfl ?_
  refine k_callP K X0 hx hby hZ a1 [(.ref a2), (.int (0 : Int32)), (.int (3 : Int32)), .null] [] hown (W hw 17 rfl) (W hw 18 rfl) (W hw 12 rfl) (W hw 20 rfl) rfl (csi3_0 l Z a0 hw a1 a2 cz vf c0 c1 c2 h0 n0 Z0 E_a1 F_value_a1 F_coder_a1 A_a2 O0 g_a1 SS hg hch_0 hch_1 hch_2) e0 rfl rfl pd_13 rfl dj42_3_6 (by rw [hml]; rfl) rfl (by decide) (by decide) (LB rfl) (by decide) (by decide) fun v1 T1 L1 X1 q1 => ?_
  obtain ⟨b1_bv, rfl, Nq1, K1, sq_b1_bv, Fp1_0, Fp1_1, Ap1_0⟩ := q1
  have N1 := Fr.app N0 Nq1
  have sz_b1_bv : h0.size ≤ b1_bv := Nat.le_trans (Nat.le_refl _) sq_b1_bv
  have g_b1_bv : n0 ≤ b1_bv := Nat.le_trans Z0 sz_b1_bv
  refine k_none K ?_
  exact Go.retV X1 hx hby hlk hret dj42_3_9 (by decide) (by decide) (⟨b1_bv, rfl, N1, ((Keep.refl h0 [a1]).trans K1 (allS (Or.inl (by simp)) all0)), sz_b1_bv, Fp1_0, Fp1_1, Ap1_0⟩)
theorem efcf3_1 (m : MethodId) (x0 : Addr) (x1 : Int32) (x2 : Addr) (x3 x4 : Int32) : entryFrame m #[(.ref x0), (.int x1), (.ref x2), (.int x3), (.int x4)] 7 = mkF m 0 #[.val (.ref x0), .val (.int x1), .val (.ref x2), .val (.int x3), .val (.int x4), .unset, .unset] [] := by first | (simp [entryFrame, mkF, argsToLocals, Value.category]; done) | rfl
theorem ccf3_1 (l : Launch) (Z : State) (a0 : Array Value) (hw : ∀ d ∈ tables_1, d.before a0 Z = true) (a1 a3 : Addr) (cz : Int32) (vf : Value) (c0 c1 c2 : Int32) (h0 : Heap) (n0 : Nat) (Z0 : n0 ≤ h0.size) (A_a1 : Av Z h0 a1 .char [(.int c0), (.int c1), (.int c2)]) (A_a3 : Av Z h0 a3 .byte [(.int (0 : Int32)), (.int (0 : Int32)), (.int (0 : Int32))]) (O0 : Old Z n0 h0) (g_a3 : n0 ≤ a3) (ne_a1_a3 : a1 ≠ a3) (SS : SSt Z cz vf) (hl_0 : ¬ ((255 : Int32) < c0)) (hg : (255 : Int32) < c1) (hch_0 : nar .char c0 = c0) (hch_1 : nar .char c1 = c1) (hch_2 : nar .char c2 = c2) :
    Con l Z (⟨"java/lang/StringUTF16", "compress", "([CI[BII)I"⟩ : MethodName) jdk_52_method_21_code 7 (some .int) ({ frames := 0, cells := 0, slots := 0, locals := 0 } : Room) [] #[(.ref a1), (.int (0 : Int32)), (.ref a3), (.int (0 : Int32)), (.int (3 : Int32))] h0 (fun v h L => v = some (.int (1 : Int32)) ∧ Fr n0 L ∧ Keep h0 h [a3] ∧ Av Z h a3 .byte [(.int (nar .byte (c0.toInt8.toInt32))), (.int (0 : Int32)), (.int (0 : Int32))]) := by
  refine Con.of (plainFor_of_name pn_java_lang_StringUTF16) #[.val (.ref a1), .val (.int (0 : Int32)), .val (.ref a3), .val (.int (0 : Int32)), .val (.int (3 : Int32)), .unset, .unset] (fun m => efcf3_1 m a1 (0 : Int32) a3 (0 : Int32) (3 : Int32)) ?_
  intro p e s m below meth c s₁ K hx hby hml hown hnm hret hlk hZ X0 e0
  have N0 := Fr.nil n0
  refine mC K X0.here hx hby (0 : Int32) dj52_21_0 rfl rfl ?_
  refine mS K X0.here hx hby #[.val (.ref a1), .val (.int (0 : Int32)), .val (.ref a3), .val (.int (0 : Int32)), .val (.int (3 : Int32)), .val (.int (0 : Int32)), .unset] dj52_21_1 rfl rfl ?_
  refine mI K X0.here hx hby dj52_21_3 rfl rfl ?_
  refine mI K X0.here hx hby dj52_21_5 rfl rfl ?_
  refine m_icmpN K X0.here hx hby (q := 10) dj52_21_7 (tlt (by decide : (0 : Int32) < (3 : Int32))).2.1 rfl ?_
  refine mAN K X0.here hx hby dj52_21_10 rfl rfl rfl ?_
  refine mIN K X0.here hx hby dj52_21_11 rfl rfl ?_
  refine k_ldC K X0 hx hby hZ e0 A_a1 (v := (.int c0)) (by decide) rfl dj52_21_12 rfl ?_
  refine mS K X0.here hx hby #[.val (.ref a1), .val (.int (0 : Int32)), .val (.ref a3), .val (.int (0 : Int32)), .val (.int (3 : Int32)), .val (.int (0 : Int32)), .val (.int c0)] dj52_21_13 rfl rfl ?_
  refine mI K X0.here hx hby dj52_21_15 rfl rfl ?_
  refine mP K X0.here hx hby (255 : Int32) dj52_21_17 rfl rfl ?_
  refine m_icmpY K X0.here hx hby (q := 26) dj52_21_20 (flt hl_0).2.2.2 (by decide) rfl ?_
  refine mAN K X0.here hx hby dj52_21_26 rfl rfl rfl ?_
  refine mIN K X0.here hx hby dj52_21_27 rfl rfl ?_
  refine mI K X0.here hx hby dj52_21_28 rfl rfl ?_
  refine m_i2b K X0.here hx hby (c0.toInt8.toInt32) dj52_21_30 rfl rfl ?_
  refine k_stB K X0 hx hby hZ e0 A_a3 (by decide) (LB rfl) dj52_21_31 rfl fun T1 h1 X1 e1 W1 V1 => ?_
  replace V1 : Av Z h1 a3 .byte [(.int (nar .byte (c0.toInt8.toInt32))), (.int (0 : Int32)), (.int (0 : Int32))] := V1
  have N1 := Fr.snoc X1 N0 g_a3
  refine mJ K X1.here hx hby #[.val (.ref a1), .val (.int (1 : Int32)), .val (.ref a3), .val (.int (0 : Int32)), .val (.int (3 : Int32)), .val (.int (0 : Int32)), .val (.int c0)] dj52_21_32 rfl rfl rfl ?_
  refine mJ K X1.here hx hby #[.val (.ref a1), .val (.int (1 : Int32)), .val (.ref a3), .val (.int (1 : Int32)), .val (.int (3 : Int32)), .val (.int (0 : Int32)), .val (.int c0)] dj52_21_35 rfl rfl rfl ?_
  refine mJ K X1.here hx hby #[.val (.ref a1), .val (.int (1 : Int32)), .val (.ref a3), .val (.int (1 : Int32)), .val (.int (3 : Int32)), .val (.int (1 : Int32)), .val (.int c0)] dj52_21_38 rfl rfl rfl ?_
  refine m_goto K X1.here hx hby (q := 3) dj52_21_41 (by decide) rfl ?_
  refine mI K X1.here hx hby dj52_21_3 rfl rfl ?_
  refine mI K X1.here hx hby dj52_21_5 rfl rfl ?_
  refine m_icmpN K X1.here hx hby (q := 10) dj52_21_7 (tlt (by decide : (1 : Int32) < (3 : Int32))).2.1 rfl ?_
  refine mAN K X1.here hx hby dj52_21_10 rfl rfl rfl ?_
  refine mIN K X1.here hx hby dj52_21_11 rfl rfl ?_
  refine k_ldC K X1 hx hby hZ e1 (A_a1.other W1 ne_a1_a3) (v := (.int c1)) (by decide) rfl dj52_21_12 rfl ?_
  refine mS K X1.here hx hby #[.val (.ref a1), .val (.int (1 : Int32)), .val (.ref a3), .val (.int (1 : Int32)), .val (.int (3 : Int32)), .val (.int (1 : Int32)), .val (.int c1)] dj52_21_13 rfl rfl ?_
  refine mI K X1.here hx hby dj52_21_15 rfl rfl ?_
  refine mP K X1.here hx hby (255 : Int32) dj52_21_17 rfl rfl ?_
  refine m_icmpN K X1.here hx hby (q := 23) dj52_21_20 (tlt hg).2.2.2 rfl ?_
  refine mI K X1.here hx hby dj52_21_23 rfl rfl ?_
  exact Go.retI X1 hx hby hlk hret dj52_21_25 (by decide) (by decide) (by rw [e1]; exact ⟨rfl, N1, ((Keep.refl h0 [a3]).wr W1 (Or.inl (by simp))), V1⟩)
theorem efct3_1 (m : MethodId) (x0 : Addr) (x1 x2 : Int32) : entryFrame m #[(.ref x0), (.int x1), (.int x2)] 6 = mkF m 0 #[.val (.ref x0), .val (.int x1), .val (.int x2), .unset, .unset, .unset] [] := by first | (simp [entryFrame, mkF, argsToLocals, Value.category]; done) | rfl
theorem cct3_1 (l : Launch) (Z : State) (a0 : Array Value) (hw : ∀ d ∈ tables_1, d.before a0 Z = true) (a1 : Addr) (cz : Int32) (vf : Value) (c0 c1 c2 : Int32) (h0 : Heap) (n0 : Nat) (Z0 : n0 ≤ h0.size) (A_a1 : Av Z h0 a1 .char [(.int c0), (.int c1), (.int c2)]) (O0 : Old Z n0 h0) (SS : SSt Z cz vf) (hl_0 : ¬ ((255 : Int32) < c0)) (hg : (255 : Int32) < c1) (hch_0 : nar .char c0 = c0) (hch_1 : nar .char c1 = c1) (hch_2 : nar .char c2 = c2) :
    Con l Z (⟨"java/lang/StringUTF16", "compress", "([CII)[B"⟩ : MethodName) jdk_52_method_16_code 6 (some (.array .byte)) ({ frames := 3, cells := 2, slots := 9, locals := 40 } : Room) [] #[(.ref a1), (.int (0 : Int32)), (.int (3 : Int32))] h0 (fun v h L => ∃ bv : Addr, v = some (.ref bv) ∧ Fr n0 L ∧ Keep h0 h [] ∧ h0.size ≤ bv ∧ Av Z h bv .byte [(.int (BLO c0)), (.int (BHI c0)), (.int (BLO c1)), (.int (BHI c1)), (.int (BLO c2)), (.int (BHI c2))]) := by
  refine Con.of (plainFor_of_name pn_java_lang_StringUTF16) #[.val (.ref a1), .val (.int (0 : Int32)), .val (.int (3 : Int32)), .unset, .unset, .unset] (fun m => efct3_1 m a1 (0 : Int32) (3 : Int32)) ?_
  intro p e s m below meth c s₁ K hx hby hml hown hnm hret hlk hZ X0 e0
  have N0 := Fr.nil n0
  refine mIN K X0.here hx hby dj52_16_0 rfl rfl ?_
  refine k_newP K X0 hx hby hZ 3 3 (W hw 25 rfl) e0 dj52_16_1 rfl (by decide) rfl (by decide) (by decide) (by decide) (by decide) fun T1 h1 b1 X1 e1 E1 g1 V_b1 => ?_
  have sz_b1 : h0.size ≤ b1 := Nat.le_trans (Nat.le_refl _) (Nat.le_of_eq g1.symm)
  have g_b1 : n0 ≤ b1 := Nat.le_trans Z0 sz_b1
  replace V_b1 : Av Z h1 b1 .byte [(.int (0 : Int32)), (.int (0 : Int32)), (.int (0 : Int32))] := V_b1
  refine m_astoreN K X1.here hx hby #[.val (.ref a1), .val (.int (0 : Int32)), .val (.int (3 : Int32)), .val (.ref b1), .unset, .unset] dj52_16_3 rfl rfl rfl ?_
  refine mAN K X1.here hx hby dj52_16_4 rfl rfl rfl ?_
  refine mIN K X1.here hx hby dj52_16_5 rfl rfl ?_
  refine mAN K X1.here hx hby dj52_16_6 rfl rfl rfl ?_
  refine mC K X1.here hx hby (0 : Int32) dj52_16_7 rfl rfl ?_
  refine mIN K X1.here hx hby dj52_16_8 rfl rfl ?_
  refine k_callS K X1 hx hby hZ [(.ref a1), (.int (0 : Int32)), (.ref b1), (.int (0 : Int32)), (.int (3 : Int32))] [] hown (W hw 76 rfl) (W hw 77 rfl) (W hw 74 rfl) (W hw 78 rfl) (ccf3_1 l Z a0 hw a1 b1 cz vf c0 c1 c2 h1 n0 (Nat.le_trans Z0 (Nat.le_trans (Nat.le_refl _) E1.1)) (A_a1.ext E1) V_b1 (O0.ext E1) g_b1 (Nat.ne_of_lt (Nat.lt_of_lt_of_le (Nat.lt_of_lt_of_le A_a1.lt (Nat.le_refl _)) (Nat.le_of_eq g1.symm))) SS hl_0 hg hch_0 hch_1 hch_2) e1 rfl rfl pd_10 rfl dj52_16_9 (by rw [hml]; rfl) rfl (by decide) (by decide) (LB rfl) (by decide) (by decide) fun v2 T2 L2 X2 q2 => ?_
  obtain ⟨rfl, Nq2, K2, Ap2_0⟩ := q2
  have N2 := Fr.app N0 Nq2
  refine k_some K (w := (.int (1 : Int32))) ?_
  refine mS K X2.here hx hby #[.val (.ref a1), .val (.int (0 : Int32)), .val (.int (3 : Int32)), .val (.ref b1), .val (.int (1 : Int32)), .unset] dj52_16_12 rfl rfl ?_
  refine mI K X2.here hx hby dj52_16_14 rfl rfl ?_
  refine mIN K X2.here hx hby dj52_16_16 rfl rfl ?_
  refine m_icmpN K X2.here hx hby (q := 20) dj52_16_17 (feq (by decide : ¬ ((1 : Int32) = (3 : Int32)))).1 rfl ?_
  refine mAN K X2.here hx hby dj52_16_20 rfl rfl rfl ?_
  refine mIN K X2.here hx hby dj52_16_21 rfl rfl ?_
  refine mIN K X2.here hx hby dj52_16_22 rfl rfl ?_
  refine k_callS K X2 hx hby hZ [(.ref a1), (.int (0 : Int32)), (.int (3 : Int32))] [] hown (W hw 109 rfl) (W hw 110 rfl) (W hw 74 rfl) (W hw 111 rfl) (ctb3 l Z a0 hw a1 cz vf c0 c1 c2 T2.heap n0 (Nat.le_trans Z0 (Nat.le_trans (Nat.le_trans (Nat.le_refl _) E1.1) K2.1)) ((A_a1.ext E1).keep K2 (ninS (Nat.ne_of_lt (Nat.lt_of_lt_of_le (Nat.lt_of_lt_of_le A_a1.lt (Nat.le_refl _)) (Nat.le_of_eq g1.symm))) nin0)) ((O0.ext E1).keep K2 (allS g_b1 all0)) SS) rfl rfl rfl pd_11 rfl dj52_16_23 (by rw [hml]; rfl) rfl (by decide) (by decide) (LB rfl) (by decide) (by decide) fun v3 T3 L3 X3 q3 => ?_
  obtain ⟨b3_bv, rfl, Nq3, K3, sq_b3_bv, Ap3_0⟩ := q3
  have N3 := Fr.app N2 Nq3
  have sz_b3_bv : h0.size ≤ b3_bv := Nat.le_trans (Nat.le_trans (Nat.le_trans (Nat.le_refl _) E1.1) K2.1) sq_b3_bv
  have g_b3_bv : n0 ≤ b3_bv := Nat.le_trans Z0 sz_b3_bv
  refine k_some K (w := (.ref b3_bv)) ?_
  refine m_astore K X3.here hx hby #[.val (.ref a1), .val (.int (0 : Int32)), .val (.int (3 : Int32)), .val (.ref b1), .val (.int (1 : Int32)), .val (.ref b3_bv)] dj52_16_26 rfl rfl rfl ?_
  refine mA K X3.here hx hby dj52_16_28 rfl rfl rfl ?_
  refine mI K X3.here hx hby dj52_16_30 rfl rfl ?_
  refine k_callS K X3 hx hby hZ [(.ref b3_bv), (.int (1 : Int32))] [] hown (W hw 125 rfl) (W hw 126 rfl) (W hw 74 rfl) (W hw 127 rfl) (cgc3_1 l Z a0 hw b3_bv cz vf (BLO c0) (BHI c0) (BLO c1) (BHI c1) (BLO c2) (BHI c2) T3.heap n0 (Nat.le_trans Z0 (Nat.le_trans (Nat.le_trans (Nat.le_trans (Nat.le_refl _) E1.1) K2.1) K3.1)) Ap3_0 (((O0.ext E1).keep K2 (allS g_b1 all0)).keep K3 all0) SS) rfl rfl rfl pd_5 rfl dj52_16_32 (by rw [hml]; rfl) rfl (by decide) (by decide) (LB rfl) (by decide) (by decide) fun v4 T4 L4 X4 q4 => ?_
  obtain ⟨rfl, e4, rfl⟩ := q4
  replace X4 := own_px X4
  refine k_some K (w := (.int (GCH (BLO c1) (BHI c1)))) ?_
  refine mP K X4.here hx hby (255 : Int32) dj52_16_35 rfl rfl ?_
  refine m_icmpY K X4.here hx hby (q := 54) dj52_16_38 (tlt (own_rgt c1 hch_1 hg)).2.2.1 (by decide) rfl ?_
  refine mA K X4.here hx hby dj52_16_54 rfl rfl rfl ?_
  exact Go.retO X4 hx hby hlk hret rfl (Or.inr (Or.inr (Or.inr (Or.inr ⟨rfl, rfl, rfl⟩)))) dj52_16_56 (by decide) (by decide) (by rw [e4]; exact ⟨b3_bv, rfl, N3, ((((Keep.refl h0 []).ext E1).trans K2 (allS (Or.inr sz_b1) all0)).trans K3 all0), sz_b3_bv, Ap3_0⟩)
theorem efsi3_1 (m : MethodId) (x0 x1 : Addr) (x2 x3 : Int32) : entryFrame m #[(.ref x0), (.ref x1), (.int x2), (.int x3), .null] 6 = mkF m 0 #[.val (.ref x0), .val (.ref x1), .val (.int x2), .val (.int x3), .val .null, .unset] [] := by first | (simp [entryFrame, mkF, argsToLocals, Value.category]; done) | rfl
theorem csi3_1 (l : Launch) (Z : State) (a0 : Array Value) (hw : ∀ d ∈ tables_1, d.before a0 Z = true) (a1 a2 : Addr) (cz : Int32) (vf : Value) (c0 c1 c2 : Int32) (h0 : Heap) (n0 : Nat) (Z0 : n0 ≤ h0.size) (E_a1 : Exa Z h0 a1 "java/lang/String") (F_value_a1 : Fld Z h0 a1 "java/lang/String" "value" "[B" .null) (F_coder_a1 : Fld Z h0 a1 "java/lang/String" "coder" "B" (.int (0 : Int32))) (A_a2 : Av Z h0 a2 .char [(.int c0), (.int c1), (.int c2)]) (O0 : Old Z n0 h0) (g_a1 : n0 ≤ a1) (SS : SSt Z cz vf) (hl_0 : ¬ ((255 : Int32) < c0)) (hg : (255 : Int32) < c1) (hch_0 : nar .char c0 = c0) (hch_1 : nar .char c1 = c1) (hch_2 : nar .char c2 = c2) :
    Con l Z (⟨"java/lang/String", "<init>", "([CIILjava/lang/Void;)V"⟩ : MethodName) jdk_42_method_149_code 6 none ({ frames := 4, cells := 2, slots := 9, locals := 57 } : Room) [] #[(.ref a1), (.ref a2), (.int (0 : Int32)), (.int (3 : Int32)), .null] h0 (fun v h L => ∃ bv : Addr, v = none ∧ Fr n0 L ∧ Keep h0 h [a1] ∧ h0.size ≤ bv ∧ Fld Z h a1 "java/lang/String" "value" "[B" (.ref bv) ∧ Fld Z h a1 "java/lang/String" "coder" "B" (.int (1 : Int32)) ∧ Av Z h bv .byte [(.int (BLO c0)), (.int (BHI c0)), (.int (BLO c1)), (.int (BHI c1)), (.int (BLO c2)), (.int (BHI c2))]) := by
  refine Con.of (plainFor_of_name pn_java_lang_String) #[.val (.ref a1), .val (.ref a2), .val (.int (0 : Int32)), .val (.int (3 : Int32)), .val .null, .unset] (fun m => efsi3_1 m a1 a2 (0 : Int32) (3 : Int32)) ?_
  intro p e s m below meth c s₁ K hx hby hml hown hnm hret hlk hZ X0 e0
  have N0 := Fr.nil n0
  refine mAN K X0.here hx hby dj42_149_0 rfl rfl rfl ?_
  refine k_initO K X0 hx hby hZ hown (W hw 21 rfl) (W hw 22 rfl) (W hw 23 rfl) e0 dj42_149_1 (by rw [hml]; rfl) rfl (by decide) (LB rfl) fun T1 X1 e1 => ?_
  refine mIN K X1.here hx hby dj42_149_4 rfl rfl ?_
  refine m_ifY K X1.here hx hby (q := 27) dj42_149_5 ((if0 _ _).trans (feq (by decide : ¬ ((3 : Int32) = (0 : Int32)))).2) (by decide) rfl ?_
  refine k_getS K X1 hx hby hZ hown (host := "") (Or.inl (W hw 46 rfl)) Via.refl e1 (SS.cs.ext O0.2) dj42_149_27 rfl fun T2 X2 e2 => ?_
  refine m_ifN K X2.here hx hby (q := 33) dj42_149_30 ((if0 _ _).trans (feq SS.cz).1) rfl ?_
  refine mAN K X2.here hx hby dj42_149_33 rfl rfl rfl ?_
  refine mIN K X2.here hx hby dj42_149_34 rfl rfl ?_
  refine mIN K X2.here hx hby dj42_149_35 rfl rfl ?_
  refine k_callS K X2 hx hby hZ [(.ref a2), (.int (0 : Int32)), (.int (3 : Int32))] [] hown (W hw 72 rfl) (W hw 73 rfl) (W hw 74 rfl) (W hw 75 rfl) (cct3_1 l Z a0 hw a2 cz vf c0 c1 c2 h0 n0 Z0 A_a2 O0 SS hl_0 hg hch_0 hch_1 hch_2) e2 rfl rfl pd_11 rfl dj42_149_36 (by rw [hml]; rfl) rfl (by decide) (by decide) (LB rfl) (by decide) (by decide) fun v3 T3 L3 X3 q3 => ?_
  obtain ⟨b3_bv, rfl, Nq3, K3, sq_b3_bv, Ap3_0⟩ := q3
  have N3 := Fr.app N0 Nq3
  have sz_b3_bv : h0.size ≤ b3_bv := Nat.le_trans (Nat.le_refl _) sq_b3_bv
  have g_b3_bv : n0 ≤ b3_bv := Nat.le_trans Z0 sz_b3_bv
  refine k_some K (w := (.ref b3_bv)) ?_
  refine m_astore K X3.here hx hby #[.val (.ref a1), .val (.ref a2), .val (.int (0 : Int32)), .val (.int (3 : Int32)), .val .null, .val (.ref b3_bv)] dj42_149_39 rfl rfl rfl ?_
  refine mAN K X3.here hx hby dj42_149_41 rfl rfl rfl ?_
  refine mA K X3.here hx hby dj42_149_42 rfl rfl rfl ?_
  refine mIN K X3.here hx hby dj42_149_44 rfl rfl ?_
  refine k_callS K X3 hx hby hZ [(.ref b3_bv), (.int (3 : Int32))] [(.ref a1)] hown (W hw 79 rfl) (W hw 80 rfl) (W hw 74 rfl) (W hw 81 rfl) (ccc3_6 l Z a0 hw b3_bv cz vf (BLO c0) (BHI c0) (BLO c1) (BHI c1) (BLO c2) (BHI c2) T3.heap n0 (Nat.le_trans Z0 (Nat.le_trans (Nat.le_refl _) K3.1)) Ap3_0 (O0.keep K3 all0) SS) rfl rfl rfl pd_12 rfl dj42_149_45 (by rw [hml]; rfl) rfl (by decide) (by decide) (LB rfl) (by decide) (by decide) fun v4 T4 L4 X4 q4 => ?_
  obtain ⟨rfl, e4, rfl⟩ := q4
  replace X4 := own_px X4
  refine k_some K (w := (.int (1 : Int32))) ?_
  refine k_putF K X4 hx hby hZ hown (host := "") (Or.inl (W hw 31 rfl)) Via.refl e4 (F_coder_a1.keep K3 nin0) (E_a1.keep K3) (Or.inr ⟨(W hw 27 rfl), rfl, hnm⟩) (W hw 11 rfl) (ty := .byte) (by decide) (by decide) (by decide) dj42_149_48 rfl fun T5 h5 X5 e5 W5 => ?_
  have Fw5 := (F_coder_a1.keep K3 nin0).same W5
  have N5 := Fr.snoc X5 N3 g_a1
  refine mAN K X5.here hx hby dj42_149_51 rfl rfl rfl ?_
  refine mA K X5.here hx hby dj42_149_52 rfl rfl rfl ?_
  refine k_putF K X5 hx hby hZ hown (host := "") (Or.inl (W hw 30 rfl)) Via.refl e5 ((F_value_a1.keep K3 nin0).other W5 (Or.inr (slot_ne (Or.inr (W hw 26 rfl)) (Or.inr (W hw 27 rfl)) (by decide) (t := (.array .byte)) (t' := .byte) (by decide) (by decide)))) ((E_a1.keep K3).wr W5) (Or.inr ⟨(W hw 26 rfl), rfl, hnm⟩) (W hw 11 rfl) (ty := (.array .byte)) (by decide) rfl rfl dj42_149_54 rfl fun T6 h6 X6 e6 W6 => ?_
  have Fw6 := ((F_value_a1.keep K3 nin0).other W5 (Or.inr (slot_ne (Or.inr (W hw 26 rfl)) (Or.inr (W hw 27 rfl)) (by decide) (t := (.array .byte)) (t' := .byte) (by decide) (by decide)))).same W6
  have N6 := Fr.snoc X6 N5 g_a1
  exact Go.retV X6 hx hby hlk hret dj42_149_57 (by decide) (by decide) (by rw [e6]; exact ⟨b3_bv, rfl, N6, ((((Keep.refl h0 [a1]).trans K3 all0).wr W5 (Or.inl (by simp))).wr W6 (Or.inl (by simp))), sz_b3_bv, Fw6, (Fw5.other W6 (Or.inr (slot_ne (Or.inr (W hw 27 rfl)) (Or.inr (W hw 26 rfl)) (by decide) (t := .byte) (t' := (.array .byte)) (by decide) (by decide)))), ((Ap3_0.other W5 (Ne.symm (Nat.ne_of_lt (Nat.lt_of_lt_of_le (Nat.lt_of_lt_of_le E_a1.lt (Nat.le_refl _)) sq_b3_bv)))).other W6 (Ne.symm (Nat.ne_of_lt (Nat.lt_of_lt_of_le (Nat.lt_of_lt_of_le E_a1.lt (Nat.le_refl _)) sq_b3_bv))))⟩)
theorem efsj3_1 (m : MethodId) (x0 x1 : Addr) : entryFrame m #[(.ref x0), (.ref x1)] 2 = mkF m 0 #[.val (.ref x0), .val (.ref x1)] [] := by first | (simp [entryFrame, mkF, argsToLocals, Value.category]; done) | rfl
theorem csj3_1 (l : Launch) (Z : State) (a0 : Array Value) (hw : ∀ d ∈ tables_1, d.before a0 Z = true) (a1 a2 : Addr) (cz : Int32) (vf : Value) (c0 c1 c2 : Int32) (h0 : Heap) (n0 : Nat) (Z0 : n0 ≤ h0.size) (E_a1 : Exa Z h0 a1 "java/lang/String") (F_value_a1 : Fld Z h0 a1 "java/lang/String" "value" "[B" .null) (F_coder_a1 : Fld Z h0 a1 "java/lang/String" "coder" "B" (.int (0 : Int32))) (A_a2 : Av Z h0 a2 .char [(.int c0), (.int c1), (.int c2)]) (O0 : Old Z n0 h0) (g_a1 : n0 ≤ a1) (SS : SSt Z cz vf) (hl_0 : ¬ ((255 : Int32) < c0)) (hg : (255 : Int32) < c1) (hch_0 : nar .char c0 = c0) (hch_1 : nar .char c1 = c1) (hch_2 : nar .char c2 = c2) :
    Con l Z (⟨"java/lang/String", "<init>", "([C)V"⟩ : MethodName) jdk_42_method_3_code 2 none ({ frames := 5, cells := 2, slots := 12, locals := 74 } : Room) [] #[(.ref a1), (.ref a2)] h0 (fun v h L => ∃ bv : Addr, v = none ∧ Fr n0 L ∧ Keep h0 h [a1] ∧ h0.size ≤ bv ∧ Fld Z h a1 "java/lang/String" "value" "[B" (.ref bv) ∧ Fld Z h a1 "java/lang/String" "coder" "B" (.int (1 : Int32)) ∧ Av Z h bv .byte [(.int (BLO c0)), (.int (BHI c0)), (.int (BLO c1)), (.int (BHI c1)), (.int (BLO c2)), (.int (BHI c2))]) := by
  refine Con.of (plainFor_of_name pn_java_lang_String) #[.val (.ref a1), .val (.ref a2)] (fun m => efsj3_1 m a1 a2) ?_
  intro p e s m below meth c s₁ K hx hby hml hown hnm hret hlk hZ X0 e0
  have N0 := Fr.nil n0
  refine mAN K X0.here hx hby dj42_3_0 rfl rfl rfl ?_
  refine mAN K X0.here hx hby dj42_3_1 rfl rfl rfl ?_
  refine mC K X0.here hx hby (0 : Int32) dj42_3_2 rfl rfl ?_
  refine mAN K X0.here hx hby dj42_3_3 rfl rfl rfl ?_
  refine k_len K X0 hx hby hZ (3 : Int32) e0 A_a2 rfl dj42_3_4 rfl ?_
  refine m_null K X0.here hx hby dj42_3_5 rfl ?_
  refine k_callP K X0 hx hby hZ a1 [(.ref a2), (.int (0 : Int32)), (.int (3 : Int32)), .null] [] hown (W hw 17 rfl) (W hw 18 rfl) (W hw 12 rfl) (W hw 20 rfl) rfl (csi3_1 l Z a0 hw a1 a2 cz vf c0 c1 c2 h0 n0 Z0 E_a1 F_value_a1 F_coder_a1 A_a2 O0 g_a1 SS hl_0 hg hch_0 hch_1 hch_2) e0 rfl rfl pd_13 rfl dj42_3_6 (by rw [hml]; rfl) rfl (by decide) (by decide) (LB rfl) (by decide) (by decide) fun v1 T1 L1 X1 q1 => ?_
  obtain ⟨b1_bv, rfl, Nq1, K1, sq_b1_bv, Fp1_0, Fp1_1, Ap1_0⟩ := q1
  have N1 := Fr.app N0 Nq1
  have sz_b1_bv : h0.size ≤ b1_bv := Nat.le_trans (Nat.le_refl _) sq_b1_bv
  have g_b1_bv : n0 ≤ b1_bv := Nat.le_trans Z0 sz_b1_bv
  refine k_none K ?_
  exact Go.retV X1 hx hby hlk hret dj42_3_9 (by decide) (by decide) (⟨b1_bv, rfl, N1, ((Keep.refl h0 [a1]).trans K1 (allS (Or.inl (by simp)) all0)), sz_b1_bv, Fp1_0, Fp1_1, Ap1_0⟩)
theorem efcf3_2 (m : MethodId) (x0 : Addr) (x1 : Int32) (x2 : Addr) (x3 x4 : Int32) : entryFrame m #[(.ref x0), (.int x1), (.ref x2), (.int x3), (.int x4)] 7 = mkF m 0 #[.val (.ref x0), .val (.int x1), .val (.ref x2), .val (.int x3), .val (.int x4), .unset, .unset] [] := by first | (simp [entryFrame, mkF, argsToLocals, Value.category]; done) | rfl
theorem ccf3_2 (l : Launch) (Z : State) (a0 : Array Value) (hw : ∀ d ∈ tables_1, d.before a0 Z = true) (a1 a3 : Addr) (cz : Int32) (vf : Value) (c0 c1 c2 : Int32) (h0 : Heap) (n0 : Nat) (Z0 : n0 ≤ h0.size) (A_a1 : Av Z h0 a1 .char [(.int c0), (.int c1), (.int c2)]) (A_a3 : Av Z h0 a3 .byte [(.int (0 : Int32)), (.int (0 : Int32)), (.int (0 : Int32))]) (O0 : Old Z n0 h0) (g_a3 : n0 ≤ a3) (ne_a1_a3 : a1 ≠ a3) (SS : SSt Z cz vf) (hl_0 : ¬ ((255 : Int32) < c0)) (hl_1 : ¬ ((255 : Int32) < c1)) (hg : (255 : Int32) < c2) (hch_0 : nar .char c0 = c0) (hch_1 : nar .char c1 = c1) (hch_2 : nar .char c2 = c2) :
    Con l Z (⟨"java/lang/StringUTF16", "compress", "([CI[BII)I"⟩ : MethodName) jdk_52_method_21_code 7 (some .int) ({ frames := 0, cells := 0, slots := 0, locals := 0 } : Room) [] #[(.ref a1), (.int (0 : Int32)), (.ref a3), (.int (0 : Int32)), (.int (3 : Int32))] h0 (fun v h L => v = some (.int (2 : Int32)) ∧ Fr n0 L ∧ Keep h0 h [a3] ∧ Av Z h a3 .byte [(.int (nar .byte (c0.toInt8.toInt32))), (.int (nar .byte (c1.toInt8.toInt32))), (.int (0 : Int32))]) := by
  refine Con.of (plainFor_of_name pn_java_lang_StringUTF16) #[.val (.ref a1), .val (.int (0 : Int32)), .val (.ref a3), .val (.int (0 : Int32)), .val (.int (3 : Int32)), .unset, .unset] (fun m => efcf3_2 m a1 (0 : Int32) a3 (0 : Int32) (3 : Int32)) ?_
  intro p e s m below meth c s₁ K hx hby hml hown hnm hret hlk hZ X0 e0
  have N0 := Fr.nil n0
  refine mC K X0.here hx hby (0 : Int32) dj52_21_0 rfl rfl ?_
  refine mS K X0.here hx hby #[.val (.ref a1), .val (.int (0 : Int32)), .val (.ref a3), .val (.int (0 : Int32)), .val (.int (3 : Int32)), .val (.int (0 : Int32)), .unset] dj52_21_1 rfl rfl ?_
  refine mI K X0.here hx hby dj52_21_3 rfl rfl ?_
  refine mI K X0.here hx hby dj52_21_5 rfl rfl ?_
  refine m_icmpN K X0.here hx hby (q := 10) dj52_21_7 (tlt (by decide : (0 : Int32) < (3 : Int32))).2.1 rfl ?_
  refine mAN K X0.here hx hby dj52_21_10 rfl rfl rfl ?_
  refine mIN K X0.here hx hby dj52_21_11 rfl rfl ?_
  refine k_ldC K X0 hx hby hZ e0 A_a1 (v := (.int c0)) (by decide) rfl dj52_21_12 rfl ?_
  refine mS K X0.here hx hby #[.val (.ref a1), .val (.int (0 : Int32)), .val (.ref a3), .val (.int (0 : Int32)), .val (.int (3 : Int32)), .val (.int (0 : Int32)), .val (.int c0)] dj52_21_13 rfl rfl ?_
  refine mI K X0.here hx hby dj52_21_15 rfl rfl ?_
  refine mP K X0.here hx hby (255 : Int32) dj52_21_17 rfl rfl ?_
  refine m_icmpY K X0.here hx hby (q := 26) dj52_21_20 (flt hl_0).2.2.2 (by decide) rfl ?_
  refine mAN K X0.here hx hby dj52_21_26 rfl rfl rfl ?_
  refine mIN K X0.here hx hby dj52_21_27 rfl rfl ?_
  refine mI K X0.here hx hby dj52_21_28 rfl rfl ?_
  refine m_i2b K X0.here hx hby (c0.toInt8.toInt32) dj52_21_30 rfl rfl ?_
  refine k_stB K X0 hx hby hZ e0 A_a3 (by decide) (LB rfl) dj52_21_31 rfl fun T1 h1 X1 e1 W1 V1 => ?_
  replace V1 : Av Z h1 a3 .byte [(.int (nar .byte (c0.toInt8.toInt32))), (.int (0 : Int32)), (.int (0 : Int32))] := V1
  have N1 := Fr.snoc X1 N0 g_a3
  refine mJ K X1.here hx hby #[.val (.ref a1), .val (.int (1 : Int32)), .val (.ref a3), .val (.int (0 : Int32)), .val (.int (3 : Int32)), .val (.int (0 : Int32)), .val (.int c0)] dj52_21_32 rfl rfl rfl ?_
  refine mJ K X1.here hx hby #[.val (.ref a1), .val (.int (1 : Int32)), .val (.ref a3), .val (.int (1 : Int32)), .val (.int (3 : Int32)), .val (.int (0 : Int32)), .val (.int c0)] dj52_21_35 rfl rfl rfl ?_
  refine mJ K X1.here hx hby #[.val (.ref a1), .val (.int (1 : Int32)), .val (.ref a3), .val (.int (1 : Int32)), .val (.int (3 : Int32)), .val (.int (1 : Int32)), .val (.int c0)] dj52_21_38 rfl rfl rfl ?_
  refine m_goto K X1.here hx hby (q := 3) dj52_21_41 (by decide) rfl ?_
  refine mI K X1.here hx hby dj52_21_3 rfl rfl ?_
  refine mI K X1.here hx hby dj52_21_5 rfl rfl ?_
  refine m_icmpN K X1.here hx hby (q := 10) dj52_21_7 (tlt (by decide : (1 : Int32) < (3 : Int32))).2.1 rfl ?_
  refine mAN K X1.here hx hby dj52_21_10 rfl rfl rfl ?_
  refine mIN K X1.here hx hby dj52_21_11 rfl rfl ?_
  refine k_ldC K X1 hx hby hZ e1 (A_a1.other W1 ne_a1_a3) (v := (.int c1)) (by decide) rfl dj52_21_12 rfl ?_
  refine mS K X1.here hx hby #[.val (.ref a1), .val (.int (1 : Int32)), .val (.ref a3), .val (.int (1 : Int32)), .val (.int (3 : Int32)), .val (.int (1 : Int32)), .val (.int c1)] dj52_21_13 rfl rfl ?_
  refine mI K X1.here hx hby dj52_21_15 rfl rfl ?_
  refine mP K X1.here hx hby (255 : Int32) dj52_21_17 rfl rfl ?_
  refine m_icmpY K X1.here hx hby (q := 26) dj52_21_20 (flt hl_1).2.2.2 (by decide) rfl ?_
  refine mAN K X1.here hx hby dj52_21_26 rfl rfl rfl ?_
  refine mIN K X1.here hx hby dj52_21_27 rfl rfl ?_
  refine mI K X1.here hx hby dj52_21_28 rfl rfl ?_
  refine m_i2b K X1.here hx hby (c1.toInt8.toInt32) dj52_21_30 rfl rfl ?_
  refine k_stB K X1 hx hby hZ e1 V1 (by decide) (LB rfl) dj52_21_31 rfl fun T2 h2 X2 e2 W2 V2 => ?_
  replace V2 : Av Z h2 a3 .byte [(.int (nar .byte (c0.toInt8.toInt32))), (.int (nar .byte (c1.toInt8.toInt32))), (.int (0 : Int32))] := V2
  have N2 := Fr.snoc X2 N1 g_a3
  refine mJ K X2.here hx hby #[.val (.ref a1), .val (.int (2 : Int32)), .val (.ref a3), .val (.int (1 : Int32)), .val (.int (3 : Int32)), .val (.int (1 : Int32)), .val (.int c1)] dj52_21_32 rfl rfl rfl ?_
  refine mJ K X2.here hx hby #[.val (.ref a1), .val (.int (2 : Int32)), .val (.ref a3), .val (.int (2 : Int32)), .val (.int (3 : Int32)), .val (.int (1 : Int32)), .val (.int c1)] dj52_21_35 rfl rfl rfl ?_
  refine mJ K X2.here hx hby #[.val (.ref a1), .val (.int (2 : Int32)), .val (.ref a3), .val (.int (2 : Int32)), .val (.int (3 : Int32)), .val (.int (2 : Int32)), .val (.int c1)] dj52_21_38 rfl rfl rfl ?_
  refine m_goto K X2.here hx hby (q := 3) dj52_21_41 (by decide) rfl ?_
  refine mI K X2.here hx hby dj52_21_3 rfl rfl ?_
  refine mI K X2.here hx hby dj52_21_5 rfl rfl ?_
  refine m_icmpN K X2.here hx hby (q := 10) dj52_21_7 (tlt (by decide : (2 : Int32) < (3 : Int32))).2.1 rfl ?_
  refine mAN K X2.here hx hby dj52_21_10 rfl rfl rfl ?_
  refine mIN K X2.here hx hby dj52_21_11 rfl rfl ?_
  refine k_ldC K X2 hx hby hZ e2 ((A_a1.other W1 ne_a1_a3).other W2 ne_a1_a3) (v := (.int c2)) (by decide) rfl dj52_21_12 rfl ?_
  refine mS K X2.here hx hby #[.val (.ref a1), .val (.int (2 : Int32)), .val (.ref a3), .val (.int (2 : Int32)), .val (.int (3 : Int32)), .val (.int (2 : Int32)), .val (.int c2)] dj52_21_13 rfl rfl ?_
  refine mI K X2.here hx hby dj52_21_15 rfl rfl ?_
  refine mP K X2.here hx hby (255 : Int32) dj52_21_17 rfl rfl ?_
  refine m_icmpN K X2.here hx hby (q := 23) dj52_21_20 (tlt hg).2.2.2 rfl ?_
  refine mI K X2.here hx hby dj52_21_23 rfl rfl ?_
  exact Go.retI X2 hx hby hlk hret dj52_21_25 (by decide) (by decide) (by rw [e2]; exact ⟨rfl, N2, (((Keep.refl h0 [a3]).wr W1 (Or.inl (by simp))).wr W2 (Or.inl (by simp))), V2⟩)
theorem efct3_2 (m : MethodId) (x0 : Addr) (x1 x2 : Int32) : entryFrame m #[(.ref x0), (.int x1), (.int x2)] 6 = mkF m 0 #[.val (.ref x0), .val (.int x1), .val (.int x2), .unset, .unset, .unset] [] := by first | (simp [entryFrame, mkF, argsToLocals, Value.category]; done) | rfl
theorem cct3_2 (l : Launch) (Z : State) (a0 : Array Value) (hw : ∀ d ∈ tables_1, d.before a0 Z = true) (a1 : Addr) (cz : Int32) (vf : Value) (c0 c1 c2 : Int32) (h0 : Heap) (n0 : Nat) (Z0 : n0 ≤ h0.size) (A_a1 : Av Z h0 a1 .char [(.int c0), (.int c1), (.int c2)]) (O0 : Old Z n0 h0) (SS : SSt Z cz vf) (hl_0 : ¬ ((255 : Int32) < c0)) (hl_1 : ¬ ((255 : Int32) < c1)) (hg : (255 : Int32) < c2) (hch_0 : nar .char c0 = c0) (hch_1 : nar .char c1 = c1) (hch_2 : nar .char c2 = c2) :
    Con l Z (⟨"java/lang/StringUTF16", "compress", "([CII)[B"⟩ : MethodName) jdk_52_method_16_code 6 (some (.array .byte)) ({ frames := 3, cells := 2, slots := 9, locals := 40 } : Room) [] #[(.ref a1), (.int (0 : Int32)), (.int (3 : Int32))] h0 (fun v h L => ∃ bv : Addr, v = some (.ref bv) ∧ Fr n0 L ∧ Keep h0 h [] ∧ h0.size ≤ bv ∧ Av Z h bv .byte [(.int (BLO c0)), (.int (BHI c0)), (.int (BLO c1)), (.int (BHI c1)), (.int (BLO c2)), (.int (BHI c2))]) := by
  refine Con.of (plainFor_of_name pn_java_lang_StringUTF16) #[.val (.ref a1), .val (.int (0 : Int32)), .val (.int (3 : Int32)), .unset, .unset, .unset] (fun m => efct3_2 m a1 (0 : Int32) (3 : Int32)) ?_
  intro p e s m below meth c s₁ K hx hby hml hown hnm hret hlk hZ X0 e0
  have N0 := Fr.nil n0
  refine mIN K X0.here hx hby dj52_16_0 rfl rfl ?_
  refine k_newP K X0 hx hby hZ 3 3 (W hw 25 rfl) e0 dj52_16_1 rfl (by decide) rfl (by decide) (by decide) (by decide) (by decide) fun T1 h1 b1 X1 e1 E1 g1 V_b1 => ?_
  have sz_b1 : h0.size ≤ b1 := Nat.le_trans (Nat.le_refl _) (Nat.le_of_eq g1.symm)
  have g_b1 : n0 ≤ b1 := Nat.le_trans Z0 sz_b1
  replace V_b1 : Av Z h1 b1 .byte [(.int (0 : Int32)), (.int (0 : Int32)), (.int (0 : Int32))] := V_b1
  refine m_astoreN K X1.here hx hby #[.val (.ref a1), .val (.int (0 : Int32)), .val (.int (3 : Int32)), .val (.ref b1), .unset, .unset] dj52_16_3 rfl rfl rfl ?_
  refine mAN K X1.here hx hby dj52_16_4 rfl rfl rfl ?_
  refine mIN K X1.here hx hby dj52_16_5 rfl rfl ?_
  refine mAN K X1.here hx hby dj52_16_6 rfl rfl rfl ?_
  refine mC K X1.here hx hby (0 : Int32) dj52_16_7 rfl rfl ?_
  refine mIN K X1.here hx hby dj52_16_8 rfl rfl ?_
  refine k_callS K X1 hx hby hZ [(.ref a1), (.int (0 : Int32)), (.ref b1), (.int (0 : Int32)), (.int (3 : Int32))] [] hown (W hw 76 rfl) (W hw 77 rfl) (W hw 74 rfl) (W hw 78 rfl) (ccf3_2 l Z a0 hw a1 b1 cz vf c0 c1 c2 h1 n0 (Nat.le_trans Z0 (Nat.le_trans (Nat.le_refl _) E1.1)) (A_a1.ext E1) V_b1 (O0.ext E1) g_b1 (Nat.ne_of_lt (Nat.lt_of_lt_of_le (Nat.lt_of_lt_of_le A_a1.lt (Nat.le_refl _)) (Nat.le_of_eq g1.symm))) SS hl_0 hl_1 hg hch_0 hch_1 hch_2) e1 rfl rfl pd_10 rfl dj52_16_9 (by rw [hml]; rfl) rfl (by decide) (by decide) (LB rfl) (by decide) (by decide) fun v2 T2 L2 X2 q2 => ?_
  obtain ⟨rfl, Nq2, K2, Ap2_0⟩ := q2
  have N2 := Fr.app N0 Nq2
  refine k_some K (w := (.int (2 : Int32))) ?_
  refine mS K X2.here hx hby #[.val (.ref a1), .val (.int (0 : Int32)), .val (.int (3 : Int32)), .val (.ref b1), .val (.int (2 : Int32)), .unset] dj52_16_12 rfl rfl ?_
  refine mI K X2.here hx hby dj52_16_14 rfl rfl ?_
  refine mIN K X2.here hx hby dj52_16_16 rfl rfl ?_
  refine m_icmpN K X2.here hx hby (q := 20) dj52_16_17 (feq (by decide : ¬ ((2 : Int32) = (3 : Int32)))).1 rfl ?_
  refine mAN K X2.here hx hby dj52_16_20 rfl rfl rfl ?_
  refine mIN K X2.here hx hby dj52_16_21 rfl rfl ?_
  refine mIN K X2.here hx hby dj52_16_22 rfl rfl ?_
  refine k_callS K X2 hx hby hZ [(.ref a1), (.int (0 : Int32)), (.int (3 : Int32))] [] hown (W hw 109 rfl) (W hw 110 rfl) (W hw 74 rfl) (W hw 111 rfl) (ctb3 l Z a0 hw a1 cz vf c0 c1 c2 T2.heap n0 (Nat.le_trans Z0 (Nat.le_trans (Nat.le_trans (Nat.le_refl _) E1.1) K2.1)) ((A_a1.ext E1).keep K2 (ninS (Nat.ne_of_lt (Nat.lt_of_lt_of_le (Nat.lt_of_lt_of_le A_a1.lt (Nat.le_refl _)) (Nat.le_of_eq g1.symm))) nin0)) ((O0.ext E1).keep K2 (allS g_b1 all0)) SS) rfl rfl rfl pd_11 rfl dj52_16_23 (by rw [hml]; rfl) rfl (by decide) (by decide) (LB rfl) (by decide) (by decide) fun v3 T3 L3 X3 q3 => ?_
  obtain ⟨b3_bv, rfl, Nq3, K3, sq_b3_bv, Ap3_0⟩ := q3
  have N3 := Fr.app N2 Nq3
  have sz_b3_bv : h0.size ≤ b3_bv := Nat.le_trans (Nat.le_trans (Nat.le_trans (Nat.le_refl _) E1.1) K2.1) sq_b3_bv
  have g_b3_bv : n0 ≤ b3_bv := Nat.le_trans Z0 sz_b3_bv
  refine k_some K (w := (.ref b3_bv)) ?_
  refine m_astore K X3.here hx hby #[.val (.ref a1), .val (.int (0 : Int32)), .val (.int (3 : Int32)), .val (.ref b1), .val (.int (2 : Int32)), .val (.ref b3_bv)] dj52_16_26 rfl rfl rfl ?_
  refine mA K X3.here hx hby dj52_16_28 rfl rfl rfl ?_
  refine mI K X3.here hx hby dj52_16_30 rfl rfl ?_
  refine k_callS K X3 hx hby hZ [(.ref b3_bv), (.int (2 : Int32))] [] hown (W hw 125 rfl) (W hw 126 rfl) (W hw 74 rfl) (W hw 127 rfl) (cgc3_2 l Z a0 hw b3_bv cz vf (BLO c0) (BHI c0) (BLO c1) (BHI c1) (BLO c2) (BHI c2) T3.heap n0 (Nat.le_trans Z0 (Nat.le_trans (Nat.le_trans (Nat.le_trans (Nat.le_refl _) E1.1) K2.1) K3.1)) Ap3_0 (((O0.ext E1).keep K2 (allS g_b1 all0)).keep K3 all0) SS) rfl rfl rfl pd_5 rfl dj52_16_32 (by rw [hml]; rfl) rfl (by decide) (by decide) (LB rfl) (by decide) (by decide) fun v4 T4 L4 X4 q4 => ?_
  obtain ⟨rfl, e4, rfl⟩ := q4
  replace X4 := own_px X4
  refine k_some K (w := (.int (GCH (BLO c2) (BHI c2)))) ?_
  refine mP K X4.here hx hby (255 : Int32) dj52_16_35 rfl rfl ?_
  refine m_icmpY K X4.here hx hby (q := 54) dj52_16_38 (tlt (own_rgt c2 hch_2 hg)).2.2.1 (by decide) rfl ?_
  refine mA K X4.here hx hby dj52_16_54 rfl rfl rfl ?_
  exact Go.retO X4 hx hby hlk hret rfl (Or.inr (Or.inr (Or.inr (Or.inr ⟨rfl, rfl, rfl⟩)))) dj52_16_56 (by decide) (by decide) (by rw [e4]; exact ⟨b3_bv, rfl, N3, ((((Keep.refl h0 []).ext E1).trans K2 (allS (Or.inr sz_b1) all0)).trans K3 all0), sz_b3_bv, Ap3_0⟩)
theorem efsi3_2 (m : MethodId) (x0 x1 : Addr) (x2 x3 : Int32) : entryFrame m #[(.ref x0), (.ref x1), (.int x2), (.int x3), .null] 6 = mkF m 0 #[.val (.ref x0), .val (.ref x1), .val (.int x2), .val (.int x3), .val .null, .unset] [] := by first | (simp [entryFrame, mkF, argsToLocals, Value.category]; done) | rfl
theorem csi3_2 (l : Launch) (Z : State) (a0 : Array Value) (hw : ∀ d ∈ tables_1, d.before a0 Z = true) (a1 a2 : Addr) (cz : Int32) (vf : Value) (c0 c1 c2 : Int32) (h0 : Heap) (n0 : Nat) (Z0 : n0 ≤ h0.size) (E_a1 : Exa Z h0 a1 "java/lang/String") (F_value_a1 : Fld Z h0 a1 "java/lang/String" "value" "[B" .null) (F_coder_a1 : Fld Z h0 a1 "java/lang/String" "coder" "B" (.int (0 : Int32))) (A_a2 : Av Z h0 a2 .char [(.int c0), (.int c1), (.int c2)]) (O0 : Old Z n0 h0) (g_a1 : n0 ≤ a1) (SS : SSt Z cz vf) (hl_0 : ¬ ((255 : Int32) < c0)) (hl_1 : ¬ ((255 : Int32) < c1)) (hg : (255 : Int32) < c2) (hch_0 : nar .char c0 = c0) (hch_1 : nar .char c1 = c1) (hch_2 : nar .char c2 = c2) :
    Con l Z (⟨"java/lang/String", "<init>", "([CIILjava/lang/Void;)V"⟩ : MethodName) jdk_42_method_149_code 6 none ({ frames := 4, cells := 2, slots := 9, locals := 57 } : Room) [] #[(.ref a1), (.ref a2), (.int (0 : Int32)), (.int (3 : Int32)), .null] h0 (fun v h L => ∃ bv : Addr, v = none ∧ Fr n0 L ∧ Keep h0 h [a1] ∧ h0.size ≤ bv ∧ Fld Z h a1 "java/lang/String" "value" "[B" (.ref bv) ∧ Fld Z h a1 "java/lang/String" "coder" "B" (.int (1 : Int32)) ∧ Av Z h bv .byte [(.int (BLO c0)), (.int (BHI c0)), (.int (BLO c1)), (.int (BHI c1)), (.int (BLO c2)), (.int (BHI c2))]) := by
  refine Con.of (plainFor_of_name pn_java_lang_String) #[.val (.ref a1), .val (.ref a2), .val (.int (0 : Int32)), .val (.int (3 : Int32)), .val .null, .unset] (fun m => efsi3_2 m a1 a2 (0 : Int32) (3 : Int32)) ?_
  intro p e s m below meth c s₁ K hx hby hml hown hnm hret hlk hZ X0 e0
  have N0 := Fr.nil n0
  refine mAN K X0.here hx hby dj42_149_0 rfl rfl rfl ?_
  refine k_initO K X0 hx hby hZ hown (W hw 21 rfl) (W hw 22 rfl) (W hw 23 rfl) e0 dj42_149_1 (by rw [hml]; rfl) rfl (by decide) (LB rfl) fun T1 X1 e1 => ?_
  refine mIN K X1.here hx hby dj42_149_4 rfl rfl ?_
  refine m_ifY K X1.here hx hby (q := 27) dj42_149_5 ((if0 _ _).trans (feq (by decide : ¬ ((3 : Int32) = (0 : Int32)))).2) (by decide) rfl ?_
  refine k_getS K X1 hx hby hZ hown (host := "") (Or.inl (W hw 46 rfl)) Via.refl e1 (SS.cs.ext O0.2) dj42_149_27 rfl fun T2 X2 e2 => ?_
  refine m_ifN K X2.here hx hby (q := 33) dj42_149_30 ((if0 _ _).trans (feq SS.cz).1) rfl ?_
  refine mAN K X2.here hx hby dj42_149_33 rfl rfl rfl ?_
  refine mIN K X2.here hx hby dj42_149_34 rfl rfl ?_
  refine mIN K X2.here hx hby dj42_149_35 rfl rfl ?_
  refine k_callS K X2 hx hby hZ [(.ref a2), (.int (0 : Int32)), (.int (3 : Int32))] [] hown (W hw 72 rfl) (W hw 73 rfl) (W hw 74 rfl) (W hw 75 rfl) (cct3_2 l Z a0 hw a2 cz vf c0 c1 c2 h0 n0 Z0 A_a2 O0 SS hl_0 hl_1 hg hch_0 hch_1 hch_2) e2 rfl rfl pd_11 rfl dj42_149_36 (by rw [hml]; rfl) rfl (by decide) (by decide) (LB rfl) (by decide) (by decide) fun v3 T3 L3 X3 q3 => ?_
  obtain ⟨b3_bv, rfl, Nq3, K3, sq_b3_bv, Ap3_0⟩ := q3
  have N3 := Fr.app N0 Nq3
  have sz_b3_bv : h0.size ≤ b3_bv := Nat.le_trans (Nat.le_refl _) sq_b3_bv
  have g_b3_bv : n0 ≤ b3_bv := Nat.le_trans Z0 sz_b3_bv
  refine k_some K (w := (.ref b3_bv)) ?_
  refine m_astore K X3.here hx hby #[.val (.ref a1), .val (.ref a2), .val (.int (0 : Int32)), .val (.int (3 : Int32)), .val .null, .val (.ref b3_bv)] dj42_149_39 rfl rfl rfl ?_
  refine mAN K X3.here hx hby dj42_149_41 rfl rfl rfl ?_
  refine mA K X3.here hx hby dj42_149_42 rfl rfl rfl ?_
  refine mIN K X3.here hx hby dj42_149_44 rfl rfl ?_
  refine k_callS K X3 hx hby hZ [(.ref b3_bv), (.int (3 : Int32))] [(.ref a1)] hown (W hw 79 rfl) (W hw 80 rfl) (W hw 74 rfl) (W hw 81 rfl) (ccc3_6 l Z a0 hw b3_bv cz vf (BLO c0) (BHI c0) (BLO c1) (BHI c1) (BLO c2) (BHI c2) T3.heap n0 (Nat.le_trans Z0 (Nat.le_trans (Nat.le_refl _) K3.1)) Ap3_0 (O0.keep K3 all0) SS) rfl rfl rfl pd_12 rfl dj42_149_45 (by rw [hml]; rfl) rfl (by decide) (by decide) (LB rfl) (by decide) (by decide) fun v4 T4 L4 X4 q4 => ?_
  obtain ⟨rfl, e4, rfl⟩ := q4
  replace X4 := own_px X4
  refine k_some K (w := (.int (1 : Int32))) ?_
  refine k_putF K X4 hx hby hZ hown (host := "") (Or.inl (W hw 31 rfl)) Via.refl e4 (F_coder_a1.keep K3 nin0) (E_a1.keep K3) (Or.inr ⟨(W hw 27 rfl), rfl, hnm⟩) (W hw 11 rfl) (ty := .byte) (by decide) (by decide) (by decide) dj42_149_48 rfl fun T5 h5 X5 e5 W5 => ?_
  have Fw5 := (F_coder_a1.keep K3 nin0).same W5
  have N5 := Fr.snoc X5 N3 g_a1
  refine mAN K X5.here hx hby dj42_149_51 rfl rfl rfl ?_
  refine mA K X5.here hx hby dj42_149_52 rfl rfl rfl ?_
  refine k_putF K X5 hx hby hZ hown (host := "") (Or.inl (W hw 30 rfl)) Via.refl e5 ((F_value_a1.keep K3 nin0).other W5 (Or.inr (slot_ne (Or.inr (W hw 26 rfl)) (Or.inr (W hw 27 rfl)) (by decide) (t := (.array .byte)) (t' := .byte) (by decide) (by decide)))) ((E_a1.keep K3).wr W5) (Or.inr ⟨(W hw 26 rfl), rfl, hnm⟩) (W hw 11 rfl) (ty := (.array .byte)) (by decide) rfl rfl dj42_149_54 rfl fun T6 h6 X6 e6 W6 => ?_
  have Fw6 := ((F_value_a1.keep K3 nin0).other W5 (Or.inr (slot_ne (Or.inr (W hw 26 rfl)) (Or.inr (W hw 27 rfl)) (by decide) (t := (.array .byte)) (t' := .byte) (by decide) (by decide)))).same W6
  have N6 := Fr.snoc X6 N5 g_a1
  exact Go.retV X6 hx hby hlk hret dj42_149_57 (by decide) (by decide) (by rw [e6]; exact ⟨b3_bv, rfl, N6, ((((Keep.refl h0 [a1]).trans K3 all0).wr W5 (Or.inl (by simp))).wr W6 (Or.inl (by simp))), sz_b3_bv, Fw6, (Fw5.other W6 (Or.inr (slot_ne (Or.inr (W hw 27 rfl)) (Or.inr (W hw 26 rfl)) (by decide) (t := .byte) (t' := (.array .byte)) (by decide) (by decide)))), ((Ap3_0.other W5 (Ne.symm (Nat.ne_of_lt (Nat.lt_of_lt_of_le (Nat.lt_of_lt_of_le E_a1.lt (Nat.le_refl _)) sq_b3_bv)))).other W6 (Ne.symm (Nat.ne_of_lt (Nat.lt_of_lt_of_le (Nat.lt_of_lt_of_le E_a1.lt (Nat.le_refl _)) sq_b3_bv))))⟩)
theorem efsj3_2 (m : MethodId) (x0 x1 : Addr) : entryFrame m #[(.ref x0), (.ref x1)] 2 = mkF m 0 #[.val (.ref x0), .val (.ref x1)] [] := by first | (simp [entryFrame, mkF, argsToLocals, Value.category]; done) | rfl
theorem csj3_2 (l : Launch) (Z : State) (a0 : Array Value) (hw : ∀ d ∈ tables_1, d.before a0 Z = true) (a1 a2 : Addr) (cz : Int32) (vf : Value) (c0 c1 c2 : Int32) (h0 : Heap) (n0 : Nat) (Z0 : n0 ≤ h0.size) (E_a1 : Exa Z h0 a1 "java/lang/String") (F_value_a1 : Fld Z h0 a1 "java/lang/String" "value" "[B" .null) (F_coder_a1 : Fld Z h0 a1 "java/lang/String" "coder" "B" (.int (0 : Int32))) (A_a2 : Av Z h0 a2 .char [(.int c0), (.int c1), (.int c2)]) (O0 : Old Z n0 h0) (g_a1 : n0 ≤ a1) (SS : SSt Z cz vf) (hl_0 : ¬ ((255 : Int32) < c0)) (hl_1 : ¬ ((255 : Int32) < c1)) (hg : (255 : Int32) < c2) (hch_0 : nar .char c0 = c0) (hch_1 : nar .char c1 = c1) (hch_2 : nar .char c2 = c2) :
    Con l Z (⟨"java/lang/String", "<init>", "([C)V"⟩ : MethodName) jdk_42_method_3_code 2 none ({ frames := 5, cells := 2, slots := 12, locals := 74 } : Room) [] #[(.ref a1), (.ref a2)] h0 (fun v h L => ∃ bv : Addr, v = none ∧ Fr n0 L ∧ Keep h0 h [a1] ∧ h0.size ≤ bv ∧ Fld Z h a1 "java/lang/String" "value" "[B" (.ref bv) ∧ Fld Z h a1 "java/lang/String" "coder" "B" (.int (1 : Int32)) ∧ Av Z h bv .byte [(.int (BLO c0)), (.int (BHI c0)), (.int (BLO c1)), (.int (BHI c1)), (.int (BLO c2)), (.int (BHI c2))]) := by
  refine Con.of (plainFor_of_name pn_java_lang_String) #[.val (.ref a1), .val (.ref a2)] (fun m => efsj3_2 m a1 a2) ?_
  intro p e s m below meth c s₁ K hx hby hml hown hnm hret hlk hZ X0 e0
  have N0 := Fr.nil n0
  refine mAN K X0.here hx hby dj42_3_0 rfl rfl rfl ?_
  refine mAN K X0.here hx hby dj42_3_1 rfl rfl rfl ?_
  refine mC K X0.here hx hby (0 : Int32) dj42_3_2 rfl rfl ?_
  refine mAN K X0.here hx hby dj42_3_3 rfl rfl rfl ?_
  refine k_len K X0 hx hby hZ (3 : Int32) e0 A_a2 rfl dj42_3_4 rfl ?_
  refine m_null K X0.here hx hby dj42_3_5 rfl ?_
  refine k_callP K X0 hx hby hZ a1 [(.ref a2), (.int (0 : Int32)), (.int (3 : Int32)), .null] [] hown (W hw 17 rfl) (W hw 18 rfl) (W hw 12 rfl) (W hw 20 rfl) rfl (csi3_2 l Z a0 hw a1 a2 cz vf c0 c1 c2 h0 n0 Z0 E_a1 F_value_a1 F_coder_a1 A_a2 O0 g_a1 SS hl_0 hl_1 hg hch_0 hch_1 hch_2) e0 rfl rfl pd_13 rfl dj42_3_6 (by rw [hml]; rfl) rfl (by decide) (by decide) (LB rfl) (by decide) (by decide) fun v1 T1 L1 X1 q1 => ?_
  obtain ⟨b1_bv, rfl, Nq1, K1, sq_b1_bv, Fp1_0, Fp1_1, Ap1_0⟩ := q1
  have N1 := Fr.app N0 Nq1
  have sz_b1_bv : h0.size ≤ b1_bv := Nat.le_trans (Nat.le_refl _) sq_b1_bv
  have g_b1_bv : n0 ≤ b1_bv := Nat.le_trans Z0 sz_b1_bv
  refine k_none K ?_
  exact Go.retV X1 hx hby hlk hret dj42_3_9 (by decide) (by decide) (⟨b1_bv, rfl, N1, ((Keep.refl h0 [a1]).trans K1 (allS (Or.inl (by simp)) all0)), sz_b1_bv, Fp1_0, Fp1_1, Ap1_0⟩)
theorem efcf3_3 (m : MethodId) (x0 : Addr) (x1 : Int32) (x2 : Addr) (x3 x4 : Int32) : entryFrame m #[(.ref x0), (.int x1), (.ref x2), (.int x3), (.int x4)] 7 = mkF m 0 #[.val (.ref x0), .val (.int x1), .val (.ref x2), .val (.int x3), .val (.int x4), .unset, .unset] [] := by first | (simp [entryFrame, mkF, argsToLocals, Value.category]; done) | rfl
theorem ccf3_3 (l : Launch) (Z : State) (a0 : Array Value) (hw : ∀ d ∈ tables_1, d.before a0 Z = true) (a1 a3 : Addr) (cz : Int32) (vf : Value) (c0 c1 c2 : Int32) (h0 : Heap) (n0 : Nat) (Z0 : n0 ≤ h0.size) (A_a1 : Av Z h0 a1 .char [(.int c0), (.int c1), (.int c2)]) (A_a3 : Av Z h0 a3 .byte [(.int (0 : Int32)), (.int (0 : Int32)), (.int (0 : Int32))]) (O0 : Old Z n0 h0) (g_a3 : n0 ≤ a3) (ne_a1_a3 : a1 ≠ a3) (SS : SSt Z cz vf) (hl_0 : ¬ ((255 : Int32) < c0)) (hl_1 : ¬ ((255 : Int32) < c1)) (hl_2 : ¬ ((255 : Int32) < c2)) :
    Con l Z (⟨"java/lang/StringUTF16", "compress", "([CI[BII)I"⟩ : MethodName) jdk_52_method_21_code 7 (some .int) ({ frames := 0, cells := 0, slots := 0, locals := 0 } : Room) [] #[(.ref a1), (.int (0 : Int32)), (.ref a3), (.int (0 : Int32)), (.int (3 : Int32))] h0 (fun v h L => v = some (.int (3 : Int32)) ∧ Fr n0 L ∧ Keep h0 h [a3] ∧ Av Z h a3 .byte [(.int (nar .byte (c0.toInt8.toInt32))), (.int (nar .byte (c1.toInt8.toInt32))), (.int (nar .byte (c2.toInt8.toInt32)))]) := by
  refine Con.of (plainFor_of_name pn_java_lang_StringUTF16) #[.val (.ref a1), .val (.int (0 : Int32)), .val (.ref a3), .val (.int (0 : Int32)), .val (.int (3 : Int32)), .unset, .unset] (fun m => efcf3_3 m a1 (0 : Int32) a3 (0 : Int32) (3 : Int32)) ?_
  intro p e s m below meth c s₁ K hx hby hml hown hnm hret hlk hZ X0 e0
  have N0 := Fr.nil n0
  refine mC K X0.here hx hby (0 : Int32) dj52_21_0 rfl rfl ?_
  refine mS K X0.here hx hby #[.val (.ref a1), .val (.int (0 : Int32)), .val (.ref a3), .val (.int (0 : Int32)), .val (.int (3 : Int32)), .val (.int (0 : Int32)), .unset] dj52_21_1 rfl rfl ?_
  refine mI K X0.here hx hby dj52_21_3 rfl rfl ?_
  refine mI K X0.here hx hby dj52_21_5 rfl rfl ?_
  refine m_icmpN K X0.here hx hby (q := 10) dj52_21_7 (tlt (by decide : (0 : Int32) < (3 : Int32))).2.1 rfl ?_
  refine mAN K X0.here hx hby dj52_21_10 rfl rfl rfl ?_
  refine mIN K X0.here hx hby dj52_21_11 rfl rfl ?_
  refine k_ldC K X0 hx hby hZ e0 A_a1 (v := (.int c0)) (by decide) rfl dj52_21_12 rfl ?_
  refine mS K X0.here hx hby #[.val (.ref a1), .val (.int (0 : Int32)), .val (.ref a3), .val (.int (0 : Int32)), .val (.int (3 : Int32)), .val (.int (0 : Int32)), .val (.int c0)] dj52_21_13 rfl rfl ?_
  refine mI K X0.here hx hby dj52_21_15 rfl rfl ?_
  refine mP K X0.here hx hby (255 : Int32) dj52_21_17 rfl rfl ?_
  refine m_icmpY K X0.here hx hby (q := 26) dj52_21_20 (flt hl_0).2.2.2 (by decide) rfl ?_
  refine mAN K X0.here hx hby dj52_21_26 rfl rfl rfl ?_
  refine mIN K X0.here hx hby dj52_21_27 rfl rfl ?_
  refine mI K X0.here hx hby dj52_21_28 rfl rfl ?_
  refine m_i2b K X0.here hx hby (c0.toInt8.toInt32) dj52_21_30 rfl rfl ?_
  refine k_stB K X0 hx hby hZ e0 A_a3 (by decide) (LB rfl) dj52_21_31 rfl fun T1 h1 X1 e1 W1 V1 => ?_
  replace V1 : Av Z h1 a3 .byte [(.int (nar .byte (c0.toInt8.toInt32))), (.int (0 : Int32)), (.int (0 : Int32))] := V1
  have N1 := Fr.snoc X1 N0 g_a3
  refine mJ K X1.here hx hby #[.val (.ref a1), .val (.int (1 : Int32)), .val (.ref a3), .val (.int (0 : Int32)), .val (.int (3 : Int32)), .val (.int (0 : Int32)), .val (.int c0)] dj52_21_32 rfl rfl rfl ?_
  refine mJ K X1.here hx hby #[.val (.ref a1), .val (.int (1 : Int32)), .val (.ref a3), .val (.int (1 : Int32)), .val (.int (3 : Int32)), .val (.int (0 : Int32)), .val (.int c0)] dj52_21_35 rfl rfl rfl ?_
  refine mJ K X1.here hx hby #[.val (.ref a1), .val (.int (1 : Int32)), .val (.ref a3), .val (.int (1 : Int32)), .val (.int (3 : Int32)), .val (.int (1 : Int32)), .val (.int c0)] dj52_21_38 rfl rfl rfl ?_
  refine m_goto K X1.here hx hby (q := 3) dj52_21_41 (by decide) rfl ?_
  refine mI K X1.here hx hby dj52_21_3 rfl rfl ?_
  refine mI K X1.here hx hby dj52_21_5 rfl rfl ?_
  refine m_icmpN K X1.here hx hby (q := 10) dj52_21_7 (tlt (by decide : (1 : Int32) < (3 : Int32))).2.1 rfl ?_
  refine mAN K X1.here hx hby dj52_21_10 rfl rfl rfl ?_
  refine mIN K X1.here hx hby dj52_21_11 rfl rfl ?_
  refine k_ldC K X1 hx hby hZ e1 (A_a1.other W1 ne_a1_a3) (v := (.int c1)) (by decide) rfl dj52_21_12 rfl ?_
  refine mS K X1.here hx hby #[.val (.ref a1), .val (.int (1 : Int32)), .val (.ref a3), .val (.int (1 : Int32)), .val (.int (3 : Int32)), .val (.int (1 : Int32)), .val (.int c1)] dj52_21_13 rfl rfl ?_
  refine mI K X1.here hx hby dj52_21_15 rfl rfl ?_
  refine mP K X1.here hx hby (255 : Int32) dj52_21_17 rfl rfl ?_
  refine m_icmpY K X1.here hx hby (q := 26) dj52_21_20 (flt hl_1).2.2.2 (by decide) rfl ?_
  refine mAN K X1.here hx hby dj52_21_26 rfl rfl rfl ?_
  refine mIN K X1.here hx hby dj52_21_27 rfl rfl ?_
  refine mI K X1.here hx hby dj52_21_28 rfl rfl ?_
  refine m_i2b K X1.here hx hby (c1.toInt8.toInt32) dj52_21_30 rfl rfl ?_
  refine k_stB K X1 hx hby hZ e1 V1 (by decide) (LB rfl) dj52_21_31 rfl fun T2 h2 X2 e2 W2 V2 => ?_
  replace V2 : Av Z h2 a3 .byte [(.int (nar .byte (c0.toInt8.toInt32))), (.int (nar .byte (c1.toInt8.toInt32))), (.int (0 : Int32))] := V2
  have N2 := Fr.snoc X2 N1 g_a3
  refine mJ K X2.here hx hby #[.val (.ref a1), .val (.int (2 : Int32)), .val (.ref a3), .val (.int (1 : Int32)), .val (.int (3 : Int32)), .val (.int (1 : Int32)), .val (.int c1)] dj52_21_32 rfl rfl rfl ?_
  refine mJ K X2.here hx hby #[.val (.ref a1), .val (.int (2 : Int32)), .val (.ref a3), .val (.int (2 : Int32)), .val (.int (3 : Int32)), .val (.int (1 : Int32)), .val (.int c1)] dj52_21_35 rfl rfl rfl ?_
  refine mJ K X2.here hx hby #[.val (.ref a1), .val (.int (2 : Int32)), .val (.ref a3), .val (.int (2 : Int32)), .val (.int (3 : Int32)), .val (.int (2 : Int32)), .val (.int c1)] dj52_21_38 rfl rfl rfl ?_
  refine m_goto K X2.here hx hby (q := 3) dj52_21_41 (by decide) rfl ?_
  refine mI K X2.here hx hby dj52_21_3 rfl rfl ?_
  refine mI K X2.here hx hby dj52_21_5 rfl rfl ?_
  refine m_icmpN K X2.here hx hby (q := 10) dj52_21_7 (tlt (by decide : (2 : Int32) < (3 : Int32))).2.1 rfl ?_
  refine mAN K X2.here hx hby dj52_21_10 rfl rfl rfl ?_
  refine mIN K X2.here hx hby dj52_21_11 rfl rfl ?_
  refine k_ldC K X2 hx hby hZ e2 ((A_a1.other W1 ne_a1_a3).other W2 ne_a1_a3) (v := (.int c2)) (by decide) rfl dj52_21_12 rfl ?_
  refine mS K X2.here hx hby #[.val (.ref a1), .val (.int (2 : Int32)), .val (.ref a3), .val (.int (2 : Int32)), .val (.int (3 : Int32)), .val (.int (2 : Int32)), .val (.int c2)] dj52_21_13 rfl rfl ?_
  refine mI K X2.here hx hby dj52_21_15 rfl rfl ?_
  refine mP K X2.here hx hby (255 : Int32) dj52_21_17 rfl rfl ?_
  refine m_icmpY K X2.here hx hby (q := 26) dj52_21_20 (flt hl_2).2.2.2 (by decide) rfl ?_
  refine mAN K X2.here hx hby dj52_21_26 rfl rfl rfl ?_
  refine mIN K X2.here hx hby dj52_21_27 rfl rfl ?_
  refine mI K X2.here hx hby dj52_21_28 rfl rfl ?_
  refine m_i2b K X2.here hx hby (c2.toInt8.toInt32) dj52_21_30 rfl rfl ?_
  refine k_stB K X2 hx hby hZ e2 V2 (by decide) (LB rfl) dj52_21_31 rfl fun T3 h3 X3 e3 W3 V3 => ?_
  replace V3 : Av Z h3 a3 .byte [(.int (nar .byte (c0.toInt8.toInt32))), (.int (nar .byte (c1.toInt8.toInt32))), (.int (nar .byte (c2.toInt8.toInt32)))] := V3
  have N3 := Fr.snoc X3 N2 g_a3
  refine mJ K X3.here hx hby #[.val (.ref a1), .val (.int (3 : Int32)), .val (.ref a3), .val (.int (2 : Int32)), .val (.int (3 : Int32)), .val (.int (2 : Int32)), .val (.int c2)] dj52_21_32 rfl rfl rfl ?_
  refine mJ K X3.here hx hby #[.val (.ref a1), .val (.int (3 : Int32)), .val (.ref a3), .val (.int (3 : Int32)), .val (.int (3 : Int32)), .val (.int (2 : Int32)), .val (.int c2)] dj52_21_35 rfl rfl rfl ?_
  refine mJ K X3.here hx hby #[.val (.ref a1), .val (.int (3 : Int32)), .val (.ref a3), .val (.int (3 : Int32)), .val (.int (3 : Int32)), .val (.int (3 : Int32)), .val (.int c2)] dj52_21_38 rfl rfl rfl ?_
  refine m_goto K X3.here hx hby (q := 3) dj52_21_41 (by decide) rfl ?_
  refine mI K X3.here hx hby dj52_21_3 rfl rfl ?_
  refine mI K X3.here hx hby dj52_21_5 rfl rfl ?_
  refine m_icmpY K X3.here hx hby (q := 44) dj52_21_7 (flt (by decide : ¬ ((3 : Int32) < (3 : Int32)))).2.1 (by decide) rfl ?_
  refine mI K X3.here hx hby dj52_21_44 rfl rfl ?_
  exact Go.retI X3 hx hby hlk hret dj52_21_46 (by decide) (by decide) (by rw [e3]; exact ⟨rfl, N3, ((((Keep.refl h0 [a3]).wr W1 (Or.inl (by simp))).wr W2 (Or.inl (by simp))).wr W3 (Or.inl (by simp))), V3⟩)
theorem efct3_3 (m : MethodId) (x0 : Addr) (x1 x2 : Int32) : entryFrame m #[(.ref x0), (.int x1), (.int x2)] 6 = mkF m 0 #[.val (.ref x0), .val (.int x1), .val (.int x2), .unset, .unset, .unset] [] := by first | (simp [entryFrame, mkF, argsToLocals, Value.category]; done) | rfl
theorem cct3_3 (l : Launch) (Z : State) (a0 : Array Value) (hw : ∀ d ∈ tables_1, d.before a0 Z = true) (a1 : Addr) (cz : Int32) (vf : Value) (c0 c1 c2 : Int32) (h0 : Heap) (n0 : Nat) (Z0 : n0 ≤ h0.size) (A_a1 : Av Z h0 a1 .char [(.int c0), (.int c1), (.int c2)]) (O0 : Old Z n0 h0) (SS : SSt Z cz vf) (hl_0 : ¬ ((255 : Int32) < c0)) (hl_1 : ¬ ((255 : Int32) < c1)) (hl_2 : ¬ ((255 : Int32) < c2)) :
    Con l Z (⟨"java/lang/StringUTF16", "compress", "([CII)[B"⟩ : MethodName) jdk_52_method_16_code 6 (some (.array .byte)) ({ frames := 1, cells := 1, slots := 3, locals := 18 } : Room) [] #[(.ref a1), (.int (0 : Int32)), (.int (3 : Int32))] h0 (fun v h L => ∃ bv : Addr, v = some (.ref bv) ∧ Fr n0 L ∧ Keep h0 h [] ∧ h0.size ≤ bv ∧ Av Z h bv .byte [(.int (nar .byte (c0.toInt8.toInt32))), (.int (nar .byte (c1.toInt8.toInt32))), (.int (nar .byte (c2.toInt8.toInt32)))]) := by
  refine Con.of (plainFor_of_name pn_java_lang_StringUTF16) #[.val (.ref a1), .val (.int (0 : Int32)), .val (.int (3 : Int32)), .unset, .unset, .unset] (fun m => efct3_3 m a1 (0 : Int32) (3 : Int32)) ?_
  intro p e s m below meth c s₁ K hx hby hml hown hnm hret hlk hZ X0 e0
  have N0 := Fr.nil n0
  refine mIN K X0.here hx hby dj52_16_0 rfl rfl ?_
  refine k_newP K X0 hx hby hZ 3 3 (W hw 25 rfl) e0 dj52_16_1 rfl (by decide) rfl (by decide) (by decide) (by decide) (by decide) fun T1 h1 b1 X1 e1 E1 g1 V_b1 => ?_
  have sz_b1 : h0.size ≤ b1 := Nat.le_trans (Nat.le_refl _) (Nat.le_of_eq g1.symm)
  have g_b1 : n0 ≤ b1 := Nat.le_trans Z0 sz_b1
  replace V_b1 : Av Z h1 b1 .byte [(.int (0 : Int32)), (.int (0 : Int32)), (.int (0 : Int32))] := V_b1
  refine m_astoreN K X1.here hx hby #[.val (.ref a1), .val (.int (0 : Int32)), .val (.int (3 : Int32)), .val (.ref b1), .unset, .unset] dj52_16_3 rfl rfl rfl ?_
  refine mAN K X1.here hx hby dj52_16_4 rfl rfl rfl ?_
  refine mIN K X1.here hx hby dj52_16_5 rfl rfl ?_
  refine mAN K X1.here hx hby dj52_16_6 rfl rfl rfl ?_
  refine mC K X1.here hx hby (0 : Int32) dj52_16_7 rfl rfl ?_
  refine mIN K X1.here hx hby dj52_16_8 rfl rfl ?_
  refine k_callS K X1 hx hby hZ [(.ref a1), (.int (0 : Int32)), (.ref b1), (.int (0 : Int32)), (.int (3 : Int32))] [] hown (W hw 76 rfl) (W hw 77 rfl) (W hw 74 rfl) (W hw 78 rfl) (ccf3_3 l Z a0 hw a1 b1 cz vf c0 c1 c2 h1 n0 (Nat.le_trans Z0 (Nat.le_trans (Nat.le_refl _) E1.1)) (A_a1.ext E1) V_b1 (O0.ext E1) g_b1 (Nat.ne_of_lt (Nat.lt_of_lt_of_le (Nat.lt_of_lt_of_le A_a1.lt (Nat.le_refl _)) (Nat.le_of_eq g1.symm))) SS hl_0 hl_1 hl_2) e1 rfl rfl pd_10 rfl dj52_16_9 (by rw [hml]; rfl) rfl (by decide) (by decide) (LB rfl) (by decide) (by decide) fun v2 T2 L2 X2 q2 => ?_
  obtain ⟨rfl, Nq2, K2, Ap2_0⟩ := q2
  have N2 := Fr.app N0 Nq2
  refine k_some K (w := (.int (3 : Int32))) ?_
  refine mS K X2.here hx hby #[.val (.ref a1), .val (.int (0 : Int32)), .val (.int (3 : Int32)), .val (.ref b1), .val (.int (3 : Int32)), .unset] dj52_16_12 rfl rfl ?_
  refine mI K X2.here hx hby dj52_16_14 rfl rfl ?_
  refine mIN K X2.here hx hby dj52_16_16 rfl rfl ?_
  refine m_icmpY K X2.here hx hby (q := 57) dj52_16_17 (teq (by decide : (3 : Int32) = (3 : Int32))).1 (by decide) rfl ?_
  refine mAN K X2.here hx hby dj52_16_57 rfl rfl rfl ?_
  exact Go.retO X2 hx hby hlk hret rfl (Or.inr (Or.inr (Or.inr (Or.inr ⟨rfl, rfl, rfl⟩)))) dj52_16_58 (by decide) (by decide) (⟨b1, rfl, N2, (((Keep.refl h0 []).ext E1).trans K2 (allS (Or.inr sz_b1) all0)), sz_b1, Ap2_0⟩)
theorem efcc3_3 (m : MethodId) (x0 : Addr) (x1 : Int32) : entryFrame m #[(.ref x0), (.int x1)] 2 = mkF m 0 #[.val (.ref x0), .val (.int x1)] [] := by first | (simp [entryFrame, mkF, argsToLocals, Value.category]; done) | rfl
theorem ccc3_3 (l : Launch) (Z : State) (a0 : Array Value) (hw : ∀ d ∈ tables_1, d.before a0 Z = true) (a1 : Addr) (cz : Int32) (vf : Value) (y0 y1 y2 : Int32) (h0 : Heap) (n0 : Nat) (Z0 : n0 ≤ h0.size) (A_a1 : Av Z h0 a1 .byte [(.int y0), (.int y1), (.int y2)]) (O0 : Old Z n0 h0) (SS : SSt Z cz vf) :
    Con l Z (⟨"java/lang/StringUTF16", "coderFromArrayLen", "([BI)B"⟩ : MethodName) jdk_52_method_15_code 2 (some .byte) ({ frames := 0, cells := 0, slots := 0, locals := 0 } : Room) [] #[(.ref a1), (.int (3 : Int32))] h0 (fun v h L => v = some (.int (0 : Int32)) ∧ h = h0 ∧ L = []) := by
  refine Con.of (plainFor_of_name pn_java_lang_StringUTF16) #[.val (.ref a1), .val (.int (3 : Int32))] (fun m => efcc3_3 m a1 (3 : Int32)) ?_
  intro p e s m below meth c s₁ K hx hby hml hown hnm hret hlk hZ X0 e0
  have N0 := Fr.nil n0
  refine mIN K X0.here hx hby dj52_15_0 rfl rfl ?_
  refine mAN K X0.here hx hby dj52_15_1 rfl rfl rfl ?_
  refine k_len K X0 hx hby hZ (3 : Int32) e0 A_a1 rfl dj52_15_2 rfl ?_
  refine m_isub K X0.here hx hby (0 : Int32) dj52_15_3 rfl rfl ?_
  refine mB K X0.here hx hby (31 : Int32) dj52_15_4 rfl rfl ?_
  refine m_iushr K X0.here hx hby (0 : Int32) dj52_15_6 rfl rfl ?_
  refine m_i2b K X0.here hx hby (0 : Int32) dj52_15_7 rfl rfl ?_
  exact Go.retN X0 hx hby hlk hret (by simp) dj52_15_8 (by decide) (by decide) (by decide) (⟨rfl, e0, rfl⟩)
theorem efsi3_3 (m : MethodId) (x0 x1 : Addr) (x2 x3 : Int32) : entryFrame m #[(.ref x0), (.ref x1), (.int x2), (.int x3), .null] 6 = mkF m 0 #[.val (.ref x0), .val (.ref x1), .val (.int x2), .val (.int x3), .val .null, .unset] [] := by first | (simp [entryFrame, mkF, argsToLocals, Value.category]; done) | rfl
theorem csi3_3 (l : Launch) (Z : State) (a0 : Array Value) (hw : ∀ d ∈ tables_1, d.before a0 Z = true) (a1 a2 : Addr) (cz : Int32) (vf : Value) (c0 c1 c2 : Int32) (h0 : Heap) (n0 : Nat) (Z0 : n0 ≤ h0.size) (E_a1 : Exa Z h0 a1 "java/lang/String") (F_value_a1 : Fld Z h0 a1 "java/lang/String" "value" "[B" .null) (F_coder_a1 : Fld Z h0 a1 "java/lang/String" "coder" "B" (.int (0 : Int32))) (A_a2 : Av Z h0 a2 .char [(.int c0), (.int c1), (.int c2)]) (O0 : Old Z n0 h0) (g_a1 : n0 ≤ a1) (SS : SSt Z cz vf) (hl_0 : ¬ ((255 : Int32) < c0)) (hl_1 : ¬ ((255 : Int32) < c1)) (hl_2 : ¬ ((255 : Int32) < c2)) :
    Con l Z (⟨"java/lang/String", "<init>", "([CIILjava/lang/Void;)V"⟩ : MethodName) jdk_42_method_149_code 6 none ({ frames := 2, cells := 1, slots := 3, locals := 35 } : Room) [] #[(.ref a1), (.ref a2), (.int (0 : Int32)), (.int (3 : Int32)), .null] h0 (fun v h L => ∃ bv : Addr, v = none ∧ Fr n0 L ∧ Keep h0 h [a1] ∧ h0.size ≤ bv ∧ Fld Z h a1 "java/lang/String" "value" "[B" (.ref bv) ∧ Fld Z h a1 "java/lang/String" "coder" "B" (.int (0 : Int32)) ∧ Av Z h bv .byte [(.int (nar .byte (c0.toInt8.toInt32))), (.int (nar .byte (c1.toInt8.toInt32))), (.int (nar .byte (c2.toInt8.toInt32)))]) := by
  refine Con.of (plainFor_of_name pn_java_lang_String) #[.val (.ref a1), .val (.ref a2), .val (.int (0 : Int32)), .val (.int (3 : Int32)), .val .null, .unset] (fun m => efsi3_3 m a1 a2 (0 : Int32) (3 : Int32)) ?_
  intro p e s m below meth c s₁ K hx hby hml hown hnm hret hlk hZ X0 e0
  have N0 := Fr.nil n0
  refine mAN K X0.here hx hby dj42_149_0 rfl rfl rfl ?_
  refine k_initO K X0 hx hby hZ hown (W hw 21 rfl) (W hw 22 rfl) (W hw 23 rfl) e0 dj42_149_1 (by rw [hml]; rfl) rfl (by decide) (LB rfl) fun T1 X1 e1 => ?_
  refine mIN K X1.here hx hby dj42_149_4 rfl rfl ?_
  refine m_ifY K X1.here hx hby (q := 27) dj42_149_5 ((if0 _ _).trans (feq (by decide : ¬ ((3 : Int32) = (0 : Int32)))).2) (by decide) rfl ?_
  refine k_getS K X1 hx hby hZ hown (host := "") (Or.inl (W hw 46 rfl)) Via.refl e1 (SS.cs.ext O0.2) dj42_149_27 rfl fun T2 X2 e2 => ?_
  refine m_ifN K X2.here hx hby (q := 33) dj42_149_30 ((if0 _ _).trans (feq SS.cz).1) rfl ?_
  refine mAN K X2.here hx hby dj42_149_33 rfl rfl rfl ?_
  refine mIN K X2.here hx hby dj42_149_34 rfl rfl ?_
  refine mIN K X2.here hx hby dj42_149_35 rfl rfl ?_
  refine k_callS K X2 hx hby hZ [(.ref a2), (.int (0 : Int32)), (.int (3 : Int32))] [] hown (W hw 72 rfl) (W hw 73 rfl) (W hw 74 rfl) (W hw 75 rfl) (cct3_3 l Z a0 hw a2 cz vf c0 c1 c2 h0 n0 Z0 A_a2 O0 SS hl_0 hl_1 hl_2) e2 rfl rfl pd_11 rfl dj42_149_36 (by rw [hml]; rfl) rfl (by decide) (by decide) (LB rfl) (by decide) (by decide) fun v3 T3 L3 X3 q3 => ?_
  obtain ⟨b3_bv, rfl, Nq3, K3, sq_b3_bv, Ap3_0⟩ := q3
  have N3 := Fr.app N0 Nq3
  have sz_b3_bv : h0.size ≤ b3_bv := Nat.le_trans (Nat.le_refl _) sq_b3_bv
  have g_b3_bv : n0 ≤ b3_bv := Nat.le_trans Z0 sz_b3_bv
  refine k_some K (w := (.ref b3_bv)) ?_
  refine m_astore K X3.here hx hby #[.val (.ref a1), .val (.ref a2), .val (.int (0 : Int32)), .val (.int (3 : Int32)), .val .null, .val (.ref b3_bv)] dj42_149_39 rfl rfl rfl ?_
  refine mAN K X3.here hx hby dj42_149_41 rfl rfl rfl ?_
  refine mA K X3.here hx hby dj42_149_42 rfl rfl rfl ?_
  refine mIN K X3.here hx hby dj42_149_44 rfl rfl ?_
  refine k_callS K X3 hx hby hZ [(.ref b3_bv), (.int (3 : Int32))] [(.ref a1)] hown (W hw 79 rfl) (W hw 80 rfl) (W hw 74 rfl) (W hw 81 rfl) (ccc3_3 l Z a0 hw b3_bv cz vf (nar .byte (c0.toInt8.toInt32)) (nar .byte (c1.toInt8.toInt32)) (nar .byte (c2.toInt8.toInt32)) T3.heap n0 (Nat.le_trans Z0 (Nat.le_trans (Nat.le_refl _) K3.1)) Ap3_0 (O0.keep K3 all0) SS) rfl rfl rfl pd_12 rfl dj42_149_45 (by rw [hml]; rfl) rfl (by decide) (by decide) (LB rfl) (by decide) (by decide) fun v4 T4 L4 X4 q4 => ?_
  obtain ⟨rfl, e4, rfl⟩ := q4
  replace X4 := own_px X4
  refine k_some K (w := (.int (0 : Int32))) ?_
  refine k_putF K X4 hx hby hZ hown (host := "") (Or.inl (W hw 31 rfl)) Via.refl e4 (F_coder_a1.keep K3 nin0) (E_a1.keep K3) (Or.inr ⟨(W hw 27 rfl), rfl, hnm⟩) (W hw 11 rfl) (ty := .byte) (by decide) (by decide) (by decide) dj42_149_48 rfl fun T5 h5 X5 e5 W5 => ?_
  have Fw5 := (F_coder_a1.keep K3 nin0).same W5
  have N5 := Fr.snoc X5 N3 g_a1
  refine mAN K X5.here hx hby dj42_149_51 rfl rfl rfl ?_
  refine mA K X5.here hx hby dj42_149_52 rfl rfl rfl ?_
  refine k_putF K X5 hx hby hZ hown (host := "") (Or.inl (W hw 30 rfl)) Via.refl e5 ((F_value_a1.keep K3 nin0).other W5 (Or.inr (slot_ne (Or.inr (W hw 26 rfl)) (Or.inr (W hw 27 rfl)) (by decide) (t := (.array .byte)) (t' := .byte) (by decide) (by decide)))) ((E_a1.keep K3).wr W5) (Or.inr ⟨(W hw 26 rfl), rfl, hnm⟩) (W hw 11 rfl) (ty := (.array .byte)) (by decide) rfl rfl dj42_149_54 rfl fun T6 h6 X6 e6 W6 => ?_
  have Fw6 := ((F_value_a1.keep K3 nin0).other W5 (Or.inr (slot_ne (Or.inr (W hw 26 rfl)) (Or.inr (W hw 27 rfl)) (by decide) (t := (.array .byte)) (t' := .byte) (by decide) (by decide)))).same W6
  have N6 := Fr.snoc X6 N5 g_a1
  exact Go.retV X6 hx hby hlk hret dj42_149_57 (by decide) (by decide) (by rw [e6]; exact ⟨b3_bv, rfl, N6, ((((Keep.refl h0 [a1]).trans K3 all0).wr W5 (Or.inl (by simp))).wr W6 (Or.inl (by simp))), sz_b3_bv, Fw6, (Fw5.other W6 (Or.inr (slot_ne (Or.inr (W hw 27 rfl)) (Or.inr (W hw 26 rfl)) (by decide) (t := .byte) (t' := (.array .byte)) (by decide) (by decide)))), ((Ap3_0.other W5 (Ne.symm (Nat.ne_of_lt (Nat.lt_of_lt_of_le (Nat.lt_of_lt_of_le E_a1.lt (Nat.le_refl _)) sq_b3_bv)))).other W6 (Ne.symm (Nat.ne_of_lt (Nat.lt_of_lt_of_le (Nat.lt_of_lt_of_le E_a1.lt (Nat.le_refl _)) sq_b3_bv))))⟩)
theorem efsj3_3 (m : MethodId) (x0 x1 : Addr) : entryFrame m #[(.ref x0), (.ref x1)] 2 = mkF m 0 #[.val (.ref x0), .val (.ref x1)] [] := by first | (simp [entryFrame, mkF, argsToLocals, Value.category]; done) | rfl
theorem csj3_3 (l : Launch) (Z : State) (a0 : Array Value) (hw : ∀ d ∈ tables_1, d.before a0 Z = true) (a1 a2 : Addr) (cz : Int32) (vf : Value) (c0 c1 c2 : Int32) (h0 : Heap) (n0 : Nat) (Z0 : n0 ≤ h0.size) (E_a1 : Exa Z h0 a1 "java/lang/String") (F_value_a1 : Fld Z h0 a1 "java/lang/String" "value" "[B" .null) (F_coder_a1 : Fld Z h0 a1 "java/lang/String" "coder" "B" (.int (0 : Int32))) (A_a2 : Av Z h0 a2 .char [(.int c0), (.int c1), (.int c2)]) (O0 : Old Z n0 h0) (g_a1 : n0 ≤ a1) (SS : SSt Z cz vf) (hl_0 : ¬ ((255 : Int32) < c0)) (hl_1 : ¬ ((255 : Int32) < c1)) (hl_2 : ¬ ((255 : Int32) < c2)) :
    Con l Z (⟨"java/lang/String", "<init>", "([C)V"⟩ : MethodName) jdk_42_method_3_code 2 none ({ frames := 5, cells := 2, slots := 12, locals := 74 } : Room) [] #[(.ref a1), (.ref a2)] h0 (fun v h L => ∃ bv : Addr, v = none ∧ Fr n0 L ∧ Keep h0 h [a1] ∧ h0.size ≤ bv ∧ Fld Z h a1 "java/lang/String" "value" "[B" (.ref bv) ∧ Fld Z h a1 "java/lang/String" "coder" "B" (.int (0 : Int32)) ∧ Av Z h bv .byte [(.int (nar .byte (c0.toInt8.toInt32))), (.int (nar .byte (c1.toInt8.toInt32))), (.int (nar .byte (c2.toInt8.toInt32)))]) := by
  refine Con.of (plainFor_of_name pn_java_lang_String) #[.val (.ref a1), .val (.ref a2)] (fun m => efsj3_3 m a1 a2) ?_
  intro p e s m below meth c s₁ K hx hby hml hown hnm hret hlk hZ X0 e0
  have N0 := Fr.nil n0
  refine mAN K X0.here hx hby dj42_3_0 rfl rfl rfl ?_
  refine mAN K X0.here hx hby dj42_3_1 rfl rfl rfl ?_
  refine mC K X0.here hx hby (0 : Int32) dj42_3_2 rfl rfl ?_
  refine mAN K X0.here hx hby dj42_3_3 rfl rfl rfl ?_
  refine k_len K X0 hx hby hZ (3 : Int32) e0 A_a2 rfl dj42_3_4 rfl ?_
  refine m_null K X0.here hx hby dj42_3_5 rfl ?_
  refine k_callP K X0 hx hby hZ a1 [(.ref a2), (.int (0 : Int32)), (.int (3 : Int32)), .null] [] hown (W hw 17 rfl) (W hw 18 rfl) (W hw 12 rfl) (W hw 20 rfl) rfl (csi3_3 l Z a0 hw a1 a2 cz vf c0 c1 c2 h0 n0 Z0 E_a1 F_value_a1 F_coder_a1 A_a2 O0 g_a1 SS hl_0 hl_1 hl_2) e0 rfl rfl pd_13 rfl dj42_3_6 (by rw [hml]; rfl) rfl (by decide) (by decide) (LB rfl) (by decide) (by decide) fun v1 T1 L1 X1 q1 => ?_
  obtain ⟨b1_bv, rfl, Nq1, K1, sq_b1_bv, Fp1_0, Fp1_1, Ap1_0⟩ := q1
  have N1 := Fr.app N0 Nq1
  have sz_b1_bv : h0.size ≤ b1_bv := Nat.le_trans (Nat.le_refl _) sq_b1_bv
  have g_b1_bv : n0 ≤ b1_bv := Nat.le_trans Z0 sz_b1_bv
  refine k_none K ?_
  exact Go.retV X1 hx hby hlk hret dj42_3_9 (by decide) (by decide) (⟨b1_bv, rfl, N1, ((Keep.refl h0 [a1]).trans K1 (allS (Or.inl (by simp)) all0)), sz_b1_bv, Fp1_0, Fp1_1, Ap1_0⟩)
theorem efcf4_0 (m : MethodId) (x0 : Addr) (x1 : Int32) (x2 : Addr) (x3 x4 : Int32) : entryFrame m #[(.ref x0), (.int x1), (.ref x2), (.int x3), (.int x4)] 7 = mkF m 0 #[.val (.ref x0), .val (.int x1), .val (.ref x2), .val (.int x3), .val (.int x4), .unset, .unset] [] := by first | (simp [entryFrame, mkF, argsToLocals, Value.category]; done) | rfl
theorem ccf4_0 (l : Launch) (Z : State) (a0 : Array Value) (hw : ∀ d ∈ tables_1, d.before a0 Z = true) (a1 a3 : Addr) (cz : Int32) (vf : Value) (c0 c1 : Int32) (c2 c3 : Int32) (h0 : Heap) (n0 : Nat) (Z0 : n0 ≤ h0.size) (A_a1 : Av Z h0 a1 .char [(.int c0), (.int c1), (.int c2), (.int c3)]) (A_a3 : Av Z h0 a3 .byte [(.int (0 : Int32)), (.int (0 : Int32)), (.int (0 : Int32)), (.int (0 : Int32))]) (O0 : Old Z n0 h0) (g_a3 : n0 ≤ a3) (ne_a1_a3 : a1 ≠ a3) (SS : SSt Z cz vf) (hg : (255 : Int32) < c0) (hch_0 : nar .char c0 = c0) (hch_1 : nar .char c1 = c1) (hch_2 : nar .char c2 = c2) (hch_3 : nar .char c3 = c3) :
    Con l Z (⟨"java/lang/StringUTF16", "compress", "([CI[BII)I"⟩ : MethodName) jdk_52_method_21_code 7 (some .int) ({ frames := 0, cells := 0, slots := 0, locals := 0 } : Room) [] #[(.ref a1), (.int (0 : Int32)), (.ref a3), (.int (0 : Int32)), (.int (4 : Int32))] h0 (fun v h L => v = some (.int (0 : Int32)) ∧ Fr n0 L ∧ Keep h0 h [a3] ∧ Av Z h a3 .byte [(.int (0 : Int32)), (.int (0 : Int32)), (.int (0 : Int32)), (.int (0 : Int32))]) := by
  refine Con.of (plainFor_of_name pn_java_lang_StringUTF16) #[.val (.ref a1), .val (.int (0 : Int32)), .val (.ref a3), .val (.int (0 : Int32)), .val (.int (4 : Int32)), .unset, .unset] (fun m => efcf4_0 m a1 (0 : Int32) a3 (0 : Int32) (4 : Int32)) ?_
  intro p e s m below meth c s₁ K hx hby hml hown hnm hret hlk hZ X0 e0
  have N0 := Fr.nil n0
  refine mC K X0.here hx hby (0 : Int32) dj52_21_0 rfl rfl ?_
  refine mS K X0.here hx hby #[.val (.ref a1), .val (.int (0 : Int32)), .val (.ref a3), .val (.int (0 : Int32)), .val (.int (4 : Int32)), .val (.int (0 : Int32)), .unset] dj52_21_1 rfl rfl ?_
  refine mI K X0.here hx hby dj52_21_3 rfl rfl ?_
  refine mI K X0.here hx hby dj52_21_5 rfl rfl ?_
  refine m_icmpN K X0.here hx hby (q := 10) dj52_21_7 (tlt (by decide : (0 : Int32) < (4 : Int32))).2.1 rfl ?_
  refine mAN K X0.here hx hby dj52_21_10 rfl rfl rfl ?_
  refine mIN K X0.here hx hby dj52_21_11 rfl rfl ?_
  refine k_ldC K X0 hx hby hZ e0 A_a1 (v := (.int c0)) (by decide) rfl dj52_21_12 rfl ?_
  refine mS K X0.here hx hby #[.val (.ref a1), .val (.int (0 : Int32)), .val (.ref a3), .val (.int (0 : Int32)), .val (.int (4 : Int32)), .val (.int (0 : Int32)), .val (.int c0)] dj52_21_13 rfl rfl ?_
  refine mI K X0.here hx hby dj52_21_15 rfl rfl ?_
  refine mP K X0.here hx hby (255 : Int32) dj52_21_17 rfl rfl ?_
  refine m_icmpN K X0.here hx hby (q := 23) dj52_21_20 (tlt hg).2.2.2 rfl ?_
  refine mI K X0.here hx hby dj52_21_23 rfl rfl ?_
  exact Go.retI X0 hx hby hlk hret dj52_21_25 (by decide) (by decide) (by rw [e0]; exact ⟨rfl, N0, (Keep.refl h0 [a3]), A_a3⟩)
theorem efct4_0 (m : MethodId) (x0 : Addr) (x1 x2 : Int32) : entryFrame m #[(.ref x0), (.int x1), (.int x2)] 6 = mkF m 0 #[.val (.ref x0), .val (.int x1), .val (.int x2), .unset, .unset, .unset] [] := by first | (simp [entryFrame, mkF, argsToLocals, Value.category]; done) | rfl
theorem cct4_0 (l : Launch) (Z : State) (a0 : Array Value) (hw : ∀ d ∈ tables_1, d.before a0 Z = true) (a1 : Addr) (cz : Int32) (vf : Value) (c0 c1 : Int32) (c2 c3 : Int32) (h0 : Heap) (n0 : Nat) (Z0 : n0 ≤ h0.size) (A_a1 : Av Z h0 a1 .char [(.int c0), (.int c1), (.int c2), (.int c3)]) (O0 : Old Z n0 h0) (SS : SSt Z cz vf) (hg : (255 : Int32) < c0) (hch_0 : nar .char c0 = c0) (hch_1 : nar .char c1 = c1) (hch_2 : nar .char c2 = c2) (hch_3 : nar .char c3 = c3) :
    Con l Z (⟨"java/lang/StringUTF16", "compress", "([CII)[B"⟩ : MethodName) jdk_52_method_16_code 6 (some (.array .byte)) ({ frames := 3, cells := 2, slots := 12, locals := 40 } : Room) [] #[(.ref a1), (.int (0 : Int32)), (.int (4 : Int32))] h0 (fun v h L => ∃ bv : Addr, v = some (.ref bv) ∧ Fr n0 L ∧ Keep h0 h [] ∧ h0.size ≤ bv ∧ Av Z h bv .byte [(.int (BLO c0)), (.int (BHI c0)), (.int (BLO c1)), (.int (BHI c1)), (.int (BLO c2)), (.int (BHI c2)), (.int (BLO c3)), (.int (BHI c3))]) := by
  refine Con.of (plainFor_of_name pn_java_lang_StringUTF16) #[.val (.ref a1), .val (.int (0 : Int32)), .val (.int (4 : Int32)), .unset, .unset, .unset] (fun m => efct4_0 m a1 (0 : Int32) (4 : Int32)) ?_
  intro p e s m below meth c s₁ K hx hby hml hown hnm hret hlk hZ X0 e0
  have N0 := Fr.nil n0
  refine mIN K X0.here hx hby dj52_16_0 rfl rfl ?_
  refine k_newP K X0 hx hby hZ 4 4 (W hw 25 rfl) e0 dj52_16_1 rfl (by decide) rfl (by decide) (by decide) (by decide) (by decide) fun T1 h1 b1 X1 e1 E1 g1 V_b1 => ?_
  have sz_b1 : h0.size ≤ b1 := Nat.le_trans (Nat.le_refl _) (Nat.le_of_eq g1.symm)
  have g_b1 : n0 ≤ b1 := Nat.le_trans Z0 sz_b1
  replace V_b1 : Av Z h1 b1 .byte [(.int (0 : Int32)), (.int (0 : Int32)), (.int (0 : Int32)), (.int (0 : Int32))] := V_b1
  refine m_astoreN K X1.here hx hby #[.val (.ref a1), .val (.int (0 : Int32)), .val (.int (4 : Int32)), .val (.ref b1), .unset, .unset] dj52_16_3 rfl rfl rfl ?_
  refine mAN K X1.here hx hby dj52_16_4 rfl rfl rfl ?_
  refine mIN K X1.here hx hby dj52_16_5 rfl rfl ?_
  refine mAN K X1.here hx hby dj52_16_6 rfl rfl rfl ?_
  refine mC K X1.here hx hby (0 : Int32) dj52_16_7 rfl rfl ?_
  refine mIN K X1.here hx hby dj52_16_8 rfl rfl ?_
  refine k_callS K X1 hx hby hZ [(.ref a1), (.int (0 : Int32)), (.ref b1), (.int (0 : Int32)), (.int (4 : Int32))] [] hown (W hw 76 rfl) (W hw 77 rfl) (W hw 74 rfl) (W hw 78 rfl) (ccf4_0 l Z a0 hw a1 b1 cz vf c0 c1 c2 c3 h1 n0 (Nat.le_trans Z0 (Nat.le_trans (Nat.le_refl _) E1.1)) (A_a1.ext E1) V_b1 (O0.ext E1) g_b1 (Nat.ne_of_lt (Nat.lt_of_lt_of_le (Nat.lt_of_lt_of_le A_a1.lt (Nat.le_refl _)) (Nat.le_of_eq g1.symm))) SS hg hch_0 hch_1 hch_2 hch_3) e1 rfl rfl pd_10 rfl dj52_16_9 (by rw [hml]; rfl) rfl (by decide) (by decide) (LB rfl) (by decide) (by decide) fun v2 T2 L2 X2 q2 => ?_
  obtain ⟨rfl, Nq2, K2, Ap2_0⟩ := q2
  have N2 := Fr.app N0 Nq2
  refine k_some K (w := (.int (0 : Int32))) ?_
  refine mS K X2.here hx hby #[.val (.ref a1), .val (.int (0 : Int32)), .val (.int (4 : Int32)), .val (.ref b1), .val (.int (0 : Int32)), .unset] dj52_16_12 rfl rfl ?_
  refine mI K X2.here hx hby dj52_16_14 rfl rfl ?_
  refine mIN K X2.here hx hby dj52_16_16 rfl rfl ?_
  refine m_icmpN K X2.here hx hby (q := 20) dj52_16_17 (feq (by decide : ¬ ((0 : Int32) = (4 : Int32)))).1 rfl ?_
  refine mAN K X2.here hx hby dj52_16_20 rfl rfl rfl ?_
  refine mIN K X2.here hx hby dj52_16_21 rfl rfl ?_
  refine mIN K X2.here hx hby dj52_16_22 rfl rfl ?_
  refine k_callS K X2 hx hby hZ [(.ref a1), (.int (0 : Int32)), (.int (4 : Int32))] [] hown (W hw 109 rfl) (W hw 110 rfl) (W hw 74 rfl) (W hw 111 rfl) (ctb4 l Z a0 hw a1 cz vf c0 c1 c2 c3 T2.heap n0 (Nat.le_trans Z0 (Nat.le_trans (Nat.le_trans (Nat.le_refl _) E1.1) K2.1)) ((A_a1.ext E1).keep K2 (ninS (Nat.ne_of_lt (Nat.lt_of_lt_of_le (Nat.lt_of_lt_of_le A_a1.lt (Nat.le_refl _)) (Nat.le_of_eq g1.symm))) nin0)) ((O0.ext E1).keep K2 (allS g_b1 all0)) SS) rfl rfl rfl pd_11 rfl dj52_16_23 (by rw [hml]; rfl) rfl (by decide) (by decide) (LB rfl) (by decide) (by decide) fun v3 T3 L3 X3 q3 => ?_
  obtain ⟨b3_bv, rfl, Nq3, K3, sq_b3_bv, Ap3_0⟩ := q3
  have N3 := Fr.app N2 Nq3
  have sz_b3_bv : h0.size ≤ b3_bv := Nat.le_trans (Nat.le_trans (Nat.le_trans (Nat.le_refl _) E1.1) K2.1) sq_b3_bv
  have g_b3_bv : n0 ≤ b3_bv := Nat.le_trans Z0 sz_b3_bv
  refine k_some K (w := (.ref b3_bv)) ?_
  refine m_astore K X3.here hx hby #[.val (.ref a1), .val (.int (0 : Int32)), .val (.int (4 : Int32)), .val (.ref b1), .val (.int (0 : Int32)), .val (.ref b3_bv)] dj52_16_26 rfl rfl rfl ?_
  refine mA K X3.here hx hby dj52_16_28 rfl rfl rfl ?_
  refine mI K X3.here hx hby dj52_16_30 rfl rfl ?_
  refine k_callS K X3 hx hby hZ [(.ref b3_bv), (.int (0 : Int32))] [] hown (W hw 125 rfl) (W hw 126 rfl) (W hw 74 rfl) (W hw 127 rfl) (cgc4_0 l Z a0 hw b3_bv cz vf (BLO c0) (BHI c0) (BLO c1) (BHI c1) (BLO c2) (BHI c2) (BLO c3) (BHI c3) T3.heap n0 (Nat.le_trans Z0 (Nat.le_trans (Nat.le_trans (Nat.le_trans (Nat.le_refl _) E1.1) K2.1) K3.1)) Ap3_0 (((O0.ext E1).keep K2 (allS g_b1 all0)).keep K3 all0) SS) rfl rfl rfl pd_5 rfl dj52_16_32 (by rw [hml]; rfl) rfl (by decide) (by decide) (LB rfl) (by decide) (by decide) fun v4 T4 L4 X4 q4 => ?_
  obtain ⟨rfl, e4, rfl⟩ := q4
  replace X4 := own_px X4
  refine k_some K (w := (.int (GCH (BLO c0) (BHI c0)))) ?_
  refine mP K X4.here hx hby (255 : Int32) dj52_16_35 rfl rfl ?_
  refine m_icmpY K X4.here hx hby (q := 54) dj52_16_38 (tlt (own_rgt c0 hch_0 hg)).2.2.1 (by decide) rfl ?_
  refine mA K X4.here hx hby dj52_16_54 rfl rfl rfl ?_
  exact Go.retO X4 hx hby hlk hret rfl (Or.inr (Or.inr (Or.inr (Or.inr ⟨rfl, rfl, rfl⟩)))) dj52_16_56 (by decide) (by decide) (by rw [e4]; exact ⟨b3_bv, rfl, N3, ((((Keep.refl h0 []).ext E1).trans K2 (allS (Or.inr sz_b1) all0)).trans K3 all0), sz_b3_bv, Ap3_0⟩)
theorem efcc4_8 (m : MethodId) (x0 : Addr) (x1 : Int32) : entryFrame m #[(.ref x0), (.int x1)] 2 = mkF m 0 #[.val (.ref x0), .val (.int x1)] [] := by first | (simp [entryFrame, mkF, argsToLocals, Value.category]; done) | rfl
theorem ccc4_8 (l : Launch) (Z : State) (a0 : Array Value) (hw : ∀ d ∈ tables_1, d.before a0 Z = true) (a1 : Addr) (cz : Int32) (vf : Value) (y0 y1 : Int32) (y2 y3 : Int32) (y4 y5 : Int32) (y6 y7 : Int32) (h0 : Heap) (n0 : Nat) (Z0 : n0 ≤ h0.size) (A_a1 : Av Z h0 a1 .byte [(.int y0), (.int y1), (.int y2), (.int y3), (.int y4), (.int y5), (.int y6), (.int y7)]) (O0 : Old Z n0 h0) (SS : SSt Z cz vf) :
    Con l Z (⟨"java/lang/StringUTF16", "coderFromArrayLen", "([BI)B"⟩ : MethodName) jdk_52_method_15_code 2 (some .byte) ({ frames := 0, cells := 0, slots := 0, locals := 0 } : Room) [] #[(.ref a1), (.int (4 : Int32))] h0 (fun v h L => v = some (.int (1 : Int32)) ∧ h = h0 ∧ L = []) := by
  refine Con.of (plainFor_of_name pn_java_lang_StringUTF16) #[.val (.ref a1), .val (.int (4 : Int32))] (fun m => efcc4_8 m a1 (4 : Int32)) ?_
  intro p e s m below meth c s₁ K hx hby hml hown hnm hret hlk hZ X0 e0
  have N0 := Fr.nil n0
  refine mIN K X0.here hx hby dj52_15_0 rfl rfl ?_
  refine mAN K X0.here hx hby dj52_15_1 rfl rfl rfl ?_
  refine k_len K X0 hx hby hZ (8 : Int32) e0 A_a1 rfl dj52_15_2 rfl ?_
  refine m_isub K X0.here hx hby (-4 : Int32) dj52_15_3 rfl rfl ?_
  refine mB K X0.here hx hby (31 : Int32) dj52_15_4 rfl rfl ?_
  refine m_iushr K X0.here hx hby (1 : Int32) dj52_15_6 rfl rfl ?_
  refine m_i2b K X0.here hx hby (1 : Int32) dj52_15_7 rfl rfl ?_
  exact Go.retN X0 hx hby hlk hret (by simp) dj52_15_8 (by decide) (by decide) (by decide) (⟨rfl, e0, rfl⟩)
theorem efsi4_0 (m : MethodId) (x0 x1 : Addr) (x2 x3 : Int32) : entryFrame m #[(.ref x0), (.ref x1), (.int x2), (.int x3), .null] 6 = mkF m 0 #[.val (.ref x0), .val (.ref x1), .val (.int x2), .val (.int x3), .val .null, .unset] [] := by first | (simp [entryFrame, mkF, argsToLocals, Value.category]; done) | rfl
theorem csi4_0 (l : Launch) (Z : State) (a0 : Array Value) (hw : ∀ d ∈ tables_1, d.before a0 Z = true) (a1 a2 : Addr) (cz : Int32) (vf : Value) (c0 c1 : Int32) (c2 c3 : Int32) (h0 : Heap) (n0 : Nat) (Z0 : n0 ≤ h0.size) (E_a1 : Exa Z h0 a1 "java/lang/String") (F_value_a1 : Fld Z h0 a1 "java/lang/String" "value" "[B" .null) (F_coder_a1 : Fld Z h0 a1 "java/lang/String" "coder" "B" (.int (0 : Int32))) (A_a2 : Av Z h0 a2 .char [(.int c0), (.int c1), (.int c2), (.int c3)]) (O0 : Old Z n0 h0) (g_a1 : n0 ≤ a1) (SS : SSt Z cz vf) (hg : (255 : Int32) < c0) (hch_0 : nar .char c0 = c0) (hch_1 : nar .char c1 = c1) (hch_2 : nar .char c2 = c2) (hch_3 : nar .char c3 = c3) :
    Con l Z (⟨"java/lang/String", "<init>", "([CIILjava/lang/Void;)V"⟩ : MethodName) jdk_42_method_149_code 6 none ({ frames := 4, cells := 2, slots := 12, locals := 57 } : Room) [] #[(.ref a1), (.ref a2), (.int (0 : Int32)), (.int (4 : Int32)), .null] h0 (fun v h L => ∃ bv : Addr, v = none ∧ Fr n0 L ∧ Keep h0 h [a1] ∧ h0.size ≤ bv ∧ Fld Z h a1 "java/lang/String" "value" "[B" (.ref bv) ∧ Fld Z h a1 "java/lang/String" "coder" "B" (.int (1 : Int32)) ∧ Av Z h bv .byte [(.int (BLO c0)), (.int (BHI c0)), (.int (BLO c1)), (.int (BHI c1)), (.int (BLO c2)), (.int (BHI c2)), (.int (BLO c3)), (.int (BHI c3))]) := by
  refine Con.of (plainFor_of_name pn_java_lang_String) #[.val (.ref a1), .val (.ref a2), .val (.int (0 : Int32)), .val (.int (4 : Int32)), .val .null, .unset] (fun m => efsi4_0 m a1 a2 (0 : Int32) (4 : Int32)) ?_
  intro p e s m below meth c s₁ K hx hby hml hown hnm hret hlk hZ X0 e0
  have N0 := Fr.nil n0
  refine mAN K X0.here hx hby dj42_149_0 rfl rfl rfl ?_
  refine k_initO K X0 hx hby hZ hown (W hw 21 rfl) (W hw 22 rfl) (W hw 23 rfl) e0 dj42_149_1 (by rw [hml]; rfl) rfl (by decide) (LB rfl) fun T1 X1 e1 => ?_
  refine mIN K X1.here hx hby dj42_149_4 rfl rfl ?_
  refine m_ifY K X1.here hx hby (q := 27) dj42_149_5 ((if0 _ _).trans (feq (by decide : ¬ ((4 : Int32) = (0 : Int32)))).2) (by decide) rfl ?_
  refine k_getS K X1 hx hby hZ hown (host := "") (Or.inl (W hw 46 rfl)) Via.refl e1 (SS.cs.ext O0.2) dj42_149_27 rfl fun T2 X2 e2 => ?_
  refine m_ifN K X2.here hx hby (q := 33) dj42_149_30 ((if0 _ _).trans (feq SS.cz).1) rfl ?_
  refine mAN K X2.here hx hby dj42_149_33 rfl rfl rfl ?_
  refine mIN K X2.here hx hby dj42_149_34 rfl rfl ?_
  refine mIN K X2.here hx hby dj42_149_35 rfl rfl ?_
  refine k_callS K X2 hx hby hZ [(.ref a2), (.int (0 : Int32)), (.int (4 : Int32))] [] hown (W hw 72 rfl) (W hw 73 rfl) (W hw 74 rfl) (W hw 75 rfl) (cct4_0 l Z a0 hw a2 cz vf c0 c1 c2 c3 h0 n0 Z0 A_a2 O0 SS hg hch_0 hch_1 hch_2 hch_3) e2 rfl rfl pd_11 rfl dj42_149_36 (by rw [hml]; rfl) rfl (by decide) (by decide) (LB rfl) (by decide) (by decide) fun v3 T3 L3 X3 q3 => ?_
  obtain ⟨b3_bv, rfl, Nq3, K3, sq_b3_bv, Ap3_0⟩ := q3
  have N3 := Fr.app N0 Nq3
  have sz_b3_bv : h0.size ≤ b3_bv := Nat.le_trans (Nat.le_refl _) sq_b3_bv
  have g_b3_bv : n0 ≤ b3_bv := Nat.le_trans Z0 sz_b3_bv
  refine k_some K (w := (.ref b3_bv)) ?_
  refine m_astore K X3.here hx hby #[.val (.ref a1), .val (.ref a2), .val (.int (0 : Int32)), .val (.int (4 : Int32)), .val .null, .val (.ref b3_bv)] dj42_149_39 rfl rfl rfl ?_
  refine mAN K X3.here hx hby dj42_149_41 rfl rfl rfl ?_
  refine mA K X3.here hx hby dj42_149_42 rfl rfl rfl ?_
  refine mIN K X3.here hx hby dj42_149_44 rfl rfl ?_
  refine k_callS K X3 hx hby hZ [(.ref b3_bv), (.int (4 : Int32))] [(.ref a1)] hown (W hw 79 rfl) (W hw 80 rfl) (W hw 74 rfl) (W hw 81 rfl) (ccc4_8 l Z a0 hw b3_bv cz vf (BLO c0) (BHI c0) (BLO c1) (BHI c1) (BLO c2) (BHI c2) (BLO c3) (BHI c3) T3.heap n0 (Nat.le_trans Z0 (Nat.le_trans (Nat.le_refl _) K3.1)) Ap3_0 (O0.keep K3 all0) SS) rfl rfl rfl pd_12 rfl dj42_149_45 (by rw [hml]; rfl) rfl (by decide) (by decide) (LB rfl) (by decide) (by decide) fun v4 T4 L4 X4 q4 => ?_
  obtain ⟨rfl, e4, rfl⟩ := q4
  replace X4 := own_px X4
  refine k_some K (w := (.int (1 : Int32))) ?_
  refine k_putF K X4 hx hby hZ hown (host := "") (Or.inl (W hw 31 rfl)) Via.refl e4 (F_coder_a1.keep K3 nin0) (E_a1.keep K3) (Or.inr ⟨(W hw 27 rfl), rfl, hnm⟩) (W hw 11 rfl) (ty := .byte) (by decide) (by decide) (by decide) dj42_149_48 rfl fun T5 h5 X5 e5 W5 => ?_
  have Fw5 := (F_coder_a1.keep K3 nin0).same W5
  have N5 := Fr.snoc X5 N3 g_a1
  refine mAN K X5.here hx hby dj42_149_51 rfl rfl rfl ?_
  refine mA K X5.here hx hby dj42_149_52 rfl rfl rfl ?_
  refine k_putF K X5 hx hby hZ hown (host := "") (Or.inl (W hw 30 rfl)) Via.refl e5 ((F_value_a1.keep K3 nin0).other W5 (Or.inr (slot_ne (Or.inr (W hw 26 rfl)) (Or.inr (W hw 27 rfl)) (by decide) (t := (.array .byte)) (t' := .byte) (by decide) (by decide)))) ((E_a1.keep K3).wr W5) (Or.inr ⟨(W hw 26 rfl), rfl, hnm⟩) (W hw 11 rfl) (ty := (.array .byte)) (by decide) rfl rfl dj42_149_54 rfl fun T6 h6 X6 e6 W6 => ?_
  have Fw6 := ((F_value_a1.keep K3 nin0).other W5 (Or.inr (slot_ne (Or.inr (W hw 26 rfl)) (Or.inr (W hw 27 rfl)) (by decide) (t := (.array .byte)) (t' := .byte) (by decide) (by decide)))).same W6
  have N6 := Fr.snoc X6 N5 g_a1
  exact Go.retV X6 hx hby hlk hret dj42_149_57 (by decide) (by decide) (by rw [e6]; exact ⟨b3_bv, rfl, N6, ((((Keep.refl h0 [a1]).trans K3 all0).wr W5 (Or.inl (by simp))).wr W6 (Or.inl (by simp))), sz_b3_bv, Fw6, (Fw5.other W6 (Or.inr (slot_ne (Or.inr (W hw 27 rfl)) (Or.inr (W hw 26 rfl)) (by decide) (t := .byte) (t' := (.array .byte)) (by decide) (by decide)))), ((Ap3_0.other W5 (Ne.symm (Nat.ne_of_lt (Nat.lt_of_lt_of_le (Nat.lt_of_lt_of_le E_a1.lt (Nat.le_refl _)) sq_b3_bv)))).other W6 (Ne.symm (Nat.ne_of_lt (Nat.lt_of_lt_of_le (Nat.lt_of_lt_of_le E_a1.lt (Nat.le_refl _)) sq_b3_bv))))⟩)
theorem efsj4_0 (m : MethodId) (x0 x1 : Addr) : entryFrame m #[(.ref x0), (.ref x1)] 2 = mkF m 0 #[.val (.ref x0), .val (.ref x1)] [] := by first | (simp [entryFrame, mkF, argsToLocals, Value.category]; done) | rfl
theorem csj4_0 (l : Launch) (Z : State) (a0 : Array Value) (hw : ∀ d ∈ tables_1, d.before a0 Z = true) (a1 a2 : Addr) (cz : Int32) (vf : Value) (c0 c1 : Int32) (c2 c3 : Int32) (h0 : Heap) (n0 : Nat) (Z0 : n0 ≤ h0.size) (E_a1 : Exa Z h0 a1 "java/lang/String") (F_value_a1 : Fld Z h0 a1 "java/lang/String" "value" "[B" .null) (F_coder_a1 : Fld Z h0 a1 "java/lang/String" "coder" "B" (.int (0 : Int32))) (A_a2 : Av Z h0 a2 .char [(.int c0), (.int c1), (.int c2), (.int c3)]) (O0 : Old Z n0 h0) (g_a1 : n0 ≤ a1) (SS : SSt Z cz vf) (hg : (255 : Int32) < c0) (hch_0 : nar .char c0 = c0) (hch_1 : nar .char c1 = c1) (hch_2 : nar .char c2 = c2) (hch_3 : nar .char c3 = c3) :
    Con l Z (⟨"java/lang/String", "<init>", "([C)V"⟩ : MethodName) jdk_42_method_3_code 2 none ({ frames := 5, cells := 2, slots := 12, locals := 74 } : Room) [] #[(.ref a1), (.ref a2)] h0 (fun v h L => ∃ bv : Addr, v = none ∧ Fr n0 L ∧ Keep h0 h [a1] ∧ h0.size ≤ bv ∧ Fld Z h a1 "java/lang/String" "value" "[B" (.ref bv) ∧ Fld Z h a1 "java/lang/String" "coder" "B" (.int (1 : Int32)) ∧ Av Z h bv .byte [(.int (BLO c0)), (.int (BHI c0)), (.int (BLO c1)), (.int (BHI c1)), (.int (BLO c2)), (.int (BHI c2)), (.int (BLO c3)), (.int (BHI c3))]) := by
  refine Con.of (plainFor_of_name pn_java_lang_String) #[.val (.ref a1), .val (.ref a2)] (fun m => efsj4_0 m a1 a2) ?_
  intro p e s m below meth c s₁ K hx hby hml hown hnm hret hlk hZ X0 e0
  have N0 := Fr.nil n0
  refine mAN K X0.here hx hby dj42_3_0 rfl rfl rfl ?_
  refine mAN K X0.here hx hby dj42_3_1 rfl rfl rfl ?_
  refine mC K X0.here hx hby (0 : Int32) dj42_3_2 rfl rfl ?_
  refine mAN K X0.here hx hby dj42_3_3 rfl rfl rfl ?_
  refine k_len K X0 hx hby hZ (4 : Int32) e0 A_a2 rfl dj42_3_4 rfl ?_
  refine m_null K X0.here hx hby dj42_3_5 rfl ?_
  refine k_callP K X0 hx hby hZ a1 [(.ref a2), (.int (0 : Int32)), (.int (4 : Int32)), .null] [] hown (W hw 17 rfl) (W hw 18 rfl) (W hw 12 rfl) (W hw 20 rfl) rfl (csi4_0 l Z a0 hw a1 a2 cz vf c0 c1 c2 c3 h0 n0 Z0 E_a1 F_value_a1 F_coder_a1 A_a2 O0 g_a1 SS hg hch_0 hch_1 hch_2 hch_3) e0 rfl rfl pd_13 rfl dj42_3_6 (by rw [hml]; rfl) rfl (by decide) (by decide) (LB rfl) (by decide) (by decide) fun v1 T1 L1 X1 q1 => ?_
  obtain ⟨b1_bv, rfl, Nq1, K1, sq_b1_bv, Fp1_0, Fp1_1, Ap1_0⟩ := q1
  have N1 := Fr.app N0 Nq1
  have sz_b1_bv : h0.size ≤ b1_bv := Nat.le_trans (Nat.le_refl _) sq_b1_bv
  have g_b1_bv : n0 ≤ b1_bv := Nat.le_trans Z0 sz_b1_bv
  refine k_none K ?_
  exact Go.retV X1 hx hby hlk hret dj42_3_9 (by decide) (by decide) (⟨b1_bv, rfl, N1, ((Keep.refl h0 [a1]).trans K1 (allS (Or.inl (by simp)) all0)), sz_b1_bv, Fp1_0, Fp1_1, Ap1_0⟩)
theorem efcf4_1 (m : MethodId) (x0 : Addr) (x1 : Int32) (x2 : Addr) (x3 x4 : Int32) : entryFrame m #[(.ref x0), (.int x1), (.ref x2), (.int x3), (.int x4)] 7 = mkF m 0 #[.val (.ref x0), .val (.int x1), .val (.ref x2), .val (.int x3), .val (.int x4), .unset, .unset] [] := by first | (simp [entryFrame, mkF, argsToLocals, Value.category]; done) | rfl
theorem ccf4_1 (l : Launch) (Z : State) (a0 : Array Value) (hw : ∀ d ∈ tables_1, d.before a0 Z = true) (a1 a3 : Addr) (cz : Int32) (vf : Value) (c0 c1 : Int32) (c2 c3 : Int32) (h0 : Heap) (n0 : Nat) (Z0 : n0 ≤ h0.size) (A_a1 : Av Z h0 a1 .char [(.int c0), (.int c1), (.int c2), (.int c3)]) (A_a3 : Av Z h0 a3 .byte [(.int (0 : Int32)), (.int (0 : Int32)), (.int (0 : Int32)), (.int (0 : Int32))]) (O0 : Old Z n0 h0) (g_a3 : n0 ≤ a3) (ne_a1_a3 : a1 ≠ a3) (SS : SSt Z cz vf) (hl_0 : ¬ ((255 : Int32) < c0)) (hg : (255 : Int32) < c1) (hch_0 : nar .char c0 = c0) (hch_1 : nar .char c1 = c1) (hch_2 : nar .char c2 = c2) (hch_3 : nar .char c3 = c3) :
    Con l Z (⟨"java/lang/StringUTF16", "compress", "([CI[BII)I"⟩ : MethodName) jdk_52_method_21_code 7 (some .int) ({ frames := 0, cells := 0, slots := 0, locals := 0 } : Room) [] #[(.ref a1), (.int (0 : Int32)), (.ref a3), (.int (0 : Int32)), (.int (4 : Int32))] h0 (fun v h L => v = some (.int (1 : Int32)) ∧ Fr n0 L ∧ Keep h0 h [a3] ∧ Av Z h a3 .byte [(.int (nar .byte (c0.toInt8.toInt32))), (.int (0 : Int32)), (.int (0 : Int32)), (.int (0 : Int32))]) := by
  refine Con.of (plainFor_of_name pn_java_lang_StringUTF16) #[.val (.ref a1), .val (.int (0 : Int32)), .val (.ref a3), .val (.int (0 : Int32)), .val (.int (4 : Int32)), .unset, .unset] (fun m => efcf4_1 m a1 (0 : Int32) a3 (0 : Int32) (4 : Int32)) ?_
  intro p e s m below meth c s₁ K hx hby hml hown hnm hret hlk hZ X0 e0
  have N0 := Fr.nil n0
  refine mC K X0.here hx hby (0 : Int32) dj52_21_0 rfl rfl ?_
  refine mS K X0.here hx hby #[.val (.ref a1), .val (.int (0 : Int32)), .val (.ref a3), .val (.int (0 : Int32)), .val (.int (4 : Int32)), .val (.int (0 : Int32)), .unset] dj52_21_1 rfl rfl ?_
  refine mI K X0.here hx hby dj52_21_3 rfl rfl ?_
  refine mI K X0.here hx hby dj52_21_5 rfl rfl ?_
  refine m_icmpN K X0.here hx hby (q := 10) dj52_21_7 (tlt (by decide : (0 : Int32) < (4 : Int32))).2.1 rfl ?_
  refine mAN K X0.here hx hby dj52_21_10 rfl rfl rfl ?_
  refine mIN K X0.here hx hby dj52_21_11 rfl rfl ?_
  refine k_ldC K X0 hx hby hZ e0 A_a1 (v := (.int c0)) (by decide) rfl dj52_21_12 rfl ?_
  refine mS K X0.here hx hby #[.val (.ref a1), .val (.int (0 : Int32)), .val (.ref a3), .val (.int (0 : Int32)), .val (.int (4 : Int32)), .val (.int (0 : Int32)), .val (.int c0)] dj52_21_13 rfl rfl ?_
  refine mI K X0.here hx hby dj52_21_15 rfl rfl ?_
  refine mP K X0.here hx hby (255 : Int32) dj52_21_17 rfl rfl ?_
  refine m_icmpY K X0.here hx hby (q := 26) dj52_21_20 (flt hl_0).2.2.2 (by decide) rfl ?_
  refine mAN K X0.here hx hby dj52_21_26 rfl rfl rfl ?_
  refine mIN K X0.here hx hby dj52_21_27 rfl rfl ?_
  refine mI K X0.here hx hby dj52_21_28 rfl rfl ?_
  refine m_i2b K X0.here hx hby (c0.toInt8.toInt32) dj52_21_30 rfl rfl ?_
  refine k_stB K X0 hx hby hZ e0 A_a3 (by decide) (LB rfl) dj52_21_31 rfl fun T1 h1 X1 e1 W1 V1 => ?_
  replace V1 : Av Z h1 a3 .byte [(.int (nar .byte (c0.toInt8.toInt32))), (.int (0 : Int32)), (.int (0 : Int32)), (.int (0 : Int32))] := V1
  have N1 := Fr.snoc X1 N0 g_a3
  refine mJ K X1.here hx hby #[.val (.ref a1), .val (.int (1 : Int32)), .val (.ref a3), .val (.int (0 : Int32)), .val (.int (4 : Int32)), .val (.int (0 : Int32)), .val (.int c0)] dj52_21_32 rfl rfl rfl ?_
  refine mJ K X1.here hx hby #[.val (.ref a1), .val (.int (1 : Int32)), .val (.ref a3), .val (.int (1 : Int32)), .val (.int (4 : Int32)), .val (.int (0 : Int32)), .val (.int c0)] dj52_21_35 rfl rfl rfl ?_
  refine mJ K X1.here hx hby #[.val (.ref a1), .val (.int (1 : Int32)), .val (.ref a3), .val (.int (1 : Int32)), .val (.int (4 : Int32)), .val (.int (1 : Int32)), .val (.int c0)] dj52_21_38 rfl rfl rfl ?_
  refine m_goto K X1.here hx hby (q := 3) dj52_21_41 (by decide) rfl ?_
  refine mI K X1.here hx hby dj52_21_3 rfl rfl ?_
  refine mI K X1.here hx hby dj52_21_5 rfl rfl ?_
  refine m_icmpN K X1.here hx hby (q := 10) dj52_21_7 (tlt (by decide : (1 : Int32) < (4 : Int32))).2.1 rfl ?_
  refine mAN K X1.here hx hby dj52_21_10 rfl rfl rfl ?_
  refine mIN K X1.here hx hby dj52_21_11 rfl rfl ?_
  refine k_ldC K X1 hx hby hZ e1 (A_a1.other W1 ne_a1_a3) (v := (.int c1)) (by decide) rfl dj52_21_12 rfl ?_
  refine mS K X1.here hx hby #[.val (.ref a1), .val (.int (1 : Int32)), .val (.ref a3), .val (.int (1 : Int32)), .val (.int (4 : Int32)), .val (.int (1 : Int32)), .val (.int c1)] dj52_21_13 rfl rfl ?_
  refine mI K X1.here hx hby dj52_21_15 rfl rfl ?_
  refine mP K X1.here hx hby (255 : Int32) dj52_21_17 rfl rfl ?_
  refine m_icmpN K X1.here hx hby (q := 23) dj52_21_20 (tlt hg).2.2.2 rfl ?_
  refine mI K X1.here hx hby dj52_21_23 rfl rfl ?_
  exact Go.retI X1 hx hby hlk hret dj52_21_25 (by decide) (by decide) (by rw [e1]; exact ⟨rfl, N1, ((Keep.refl h0 [a3]).wr W1 (Or.inl (by simp))), V1⟩)
theorem efct4_1 (m : MethodId) (x0 : Addr) (x1 x2 : Int32) : entryFrame m #[(.ref x0), (.int x1), (.int x2)] 6 = mkF m 0 #[.val (.ref x0), .val (.int x1), .val (.int x2), .unset, .unset, .unset] [] := by first | (simp [entryFrame, mkF, argsToLocals, Value.category]; done) | rfl
theorem cct4_1 (l : Launch) (Z : State) (a0 : Array Value) (hw : ∀ d ∈ tables_1, d.before a0 Z = true) (a1 : Addr) (cz : Int32) (vf : Value) (c0 c1 : Int32) (c2 c3 : Int32) (h0 : Heap) (n0 : Nat) (Z0 : n0 ≤ h0.size) (A_a1 : Av Z h0 a1 .char [(.int c0), (.int c1), (.int c2), (.int c3)]) (O0 : Old Z n0 h0) (SS : SSt Z cz vf) (hl_0 : ¬ ((255 : Int32) < c0)) (hg : (255 : Int32) < c1) (hch_0 : nar .char c0 = c0) (hch_1 : nar .char c1 = c1) (hch_2 : nar .char c2 = c2) (hch_3 : nar .char c3 = c3) :
    Con l Z (⟨"java/lang/StringUTF16", "compress", "([CII)[B"⟩ : MethodName) jdk_52_method_16_code 6 (some (.array .byte)) ({ frames := 3, cells := 2, slots := 12, locals := 40 } : Room) [] #[(.ref a1), (.int (0 : Int32)), (.int (4 : Int32))] h0 (fun v h L => ∃ bv : Addr, v = some (.ref bv) ∧ Fr n0 L ∧ Keep h0 h [] ∧ h0.size ≤ bv ∧ Av Z h bv .byte [(.int (BLO c0)), (.int (BHI c0)), (.int (BLO c1)), (.int (BHI c1)), (.int (BLO c2)), (.int (BHI c2)), (.int (BLO c3)), (.int (BHI c3))]) := by
  refine Con.of (plainFor_of_name pn_java_lang_StringUTF16) #[.val (.ref a1), .val (.int (0 : Int32)), .val (.int (4 : Int32)), .unset, .unset, .unset] (fun m => efct4_1 m a1 (0 : Int32) (4 : Int32)) ?_
  intro p e s m below meth c s₁ K hx hby hml hown hnm hret hlk hZ X0 e0
  have N0 := Fr.nil n0
  refine mIN K X0.here hx hby dj52_16_0 rfl rfl ?_
  refine k_newP K X0 hx hby hZ 4 4 (W hw 25 rfl) e0 dj52_16_1 rfl (by decide) rfl (by decide) (by decide) (by decide) (by decide) fun T1 h1 b1 X1 e1 E1 g1 V_b1 => ?_
  have sz_b1 : h0.size ≤ b1 := Nat.le_trans (Nat.le_refl _) (Nat.le_of_eq g1.symm)
  have g_b1 : n0 ≤ b1 := Nat.le_trans Z0 sz_b1
  replace V_b1 : Av Z h1 b1 .byte [(.int (0 : Int32)), (.int (0 : Int32)), (.int (0 : Int32)), (.int (0 : Int32))] := V_b1
  refine m_astoreN K X1.here hx hby #[.val (.ref a1), .val (.int (0 : Int32)), .val (.int (4 : Int32)), .val (.ref b1), .unset, .unset] dj52_16_3 rfl rfl rfl ?_
  refine mAN K X1.here hx hby dj52_16_4 rfl rfl rfl ?_
  refine mIN K X1.here hx hby dj52_16_5 rfl rfl ?_
  refine mAN K X1.here hx hby dj52_16_6 rfl rfl rfl ?_
  refine mC K X1.here hx hby (0 : Int32) dj52_16_7 rfl rfl ?_
  refine mIN K X1.here hx hby dj52_16_8 rfl rfl ?_
  refine k_callS K X1 hx hby hZ [(.ref a1), (.int (0 : Int32)), (.ref b1), (.int (0 : Int32)), (.int (4 : Int32))] [] hown (W hw 76 rfl) (W hw 77 rfl) (W hw 74 rfl) (W hw 78 rfl) (ccf4_1 l Z a0 hw a1 b1 cz vf c0 c1 c2 c3 h1 n0 (Nat.le_trans Z0 (Nat.le_trans (Nat.le_refl _) E1.1)) (A_a1.ext E1) V_b1 (O0.ext E1) g_b1 (Nat.ne_of_lt (Nat.lt_of_lt_of_le (Nat.lt_of_lt_of_le A_a1.lt (Nat.le_refl _)) (Nat.le_of_eq g1.symm))) SS hl_0 hg hch_0 hch_1 hch_2 hch_3) e1 rfl rfl pd_10 rfl dj52_16_9 (by rw [hml]; rfl) rfl (by decide) (by decide) (LB rfl) (by decide) (by decide) fun v2 T2 L2 X2 q2 => ?_
  obtain ⟨rfl, Nq2, K2, Ap2_0⟩ := q2
  have N2 := Fr.app N0 Nq2
  refine k_some K (w := (.int (1 : Int32))) ?_
  refine mS K X2.here hx hby #[.val (.ref a1), .val (.int (0 : Int32)), .val (.int (4 : Int32)), .val (.ref b1), .val (.int (1 : Int32)), .unset] dj52_16_12 rfl rfl ?_
  refine mI K X2.here hx hby dj52_16_14 rfl rfl ?_
  refine mIN K X2.here hx hby dj52_16_16 rfl rfl ?_
  refine m_icmpN K X2.here hx hby (q := 20) dj52_16_17 (feq (by decide : ¬ ((1 : Int32) = (4 : Int32)))).1 rfl ?_
  refine mAN K X2.here hx hby dj52_16_20 rfl rfl rfl ?_
  refine mIN K X2.here hx hby dj52_16_21 rfl rfl ?_
  refine mIN K X2.here hx hby dj52_16_22 rfl rfl ?_
  refine k_callS K X2 hx hby hZ [(.ref a1), (.int (0 : Int32)), (.int (4 : Int32))] [] hown (W hw 109 rfl) (W hw 110 rfl) (W hw 74 rfl) (W hw 111 rfl) (ctb4 l Z a0 hw a1 cz vf c0 c1 c2 c3 T2.heap n0 (Nat.le_trans Z0 (Nat.le_trans (Nat.le_trans (Nat.le_refl _) E1.1) K2.1)) ((A_a1.ext E1).keep K2 (ninS (Nat.ne_of_lt (Nat.lt_of_lt_of_le (Nat.lt_of_lt_of_le A_a1.lt (Nat.le_refl _)) (Nat.le_of_eq g1.symm))) nin0)) ((O0.ext E1).keep K2 (allS g_b1 all0)) SS) rfl rfl rfl pd_11 rfl dj52_16_23 (by rw [hml]; rfl) rfl (by decide) (by decide) (LB rfl) (by decide) (by decide) fun v3 T3 L3 X3 q3 => ?_
  obtain ⟨b3_bv, rfl, Nq3, K3, sq_b3_bv, Ap3_0⟩ := q3
  have N3 := Fr.app N2 Nq3
  have sz_b3_bv : h0.size ≤ b3_bv := Nat.le_trans (Nat.le_trans (Nat.le_trans (Nat.le_refl _) E1.1) K2.1) sq_b3_bv
  have g_b3_bv : n0 ≤ b3_bv := Nat.le_trans Z0 sz_b3_bv
  refine k_some K (w := (.ref b3_bv)) ?_
  refine m_astore K X3.here hx hby #[.val (.ref a1), .val (.int (0 : Int32)), .val (.int (4 : Int32)), .val (.ref b1), .val (.int (1 : Int32)), .val (.ref b3_bv)] dj52_16_26 rfl rfl rfl ?_
  refine mA K X3.here hx hby dj52_16_28 rfl rfl rfl ?_
  refine mI K X3.here hx hby dj52_16_30 rfl rfl ?_
  refine k_callS K X3 hx hby hZ [(.ref b3_bv), (.int (1 : Int32))] [] hown (W hw 125 rfl) (W hw 126 rfl) (W hw 74 rfl) (W hw 127 rfl) (cgc4_1 l Z a0 hw b3_bv cz vf (BLO c0) (BHI c0) (BLO c1) (BHI c1) (BLO c2) (BHI c2) (BLO c3) (BHI c3) T3.heap n0 (Nat.le_trans Z0 (Nat.le_trans (Nat.le_trans (Nat.le_trans (Nat.le_refl _) E1.1) K2.1) K3.1)) Ap3_0 (((O0.ext E1).keep K2 (allS g_b1 all0)).keep K3 all0) SS) rfl rfl rfl pd_5 rfl dj52_16_32 (by rw [hml]; rfl) rfl (by decide) (by decide) (LB rfl) (by decide) (by decide) fun v4 T4 L4 X4 q4 => ?_
  obtain ⟨rfl, e4, rfl⟩ := q4
  replace X4 := own_px X4
  refine k_some K (w := (.int (GCH (BLO c1) (BHI c1)))) ?_
  refine mP K X4.here hx hby (255 : Int32) dj52_16_35 rfl rfl ?_
  refine m_icmpY K X4.here hx hby (q := 54) dj52_16_38 (tlt (own_rgt c1 hch_1 hg)).2.2.1 (by decide) rfl ?_
  refine mA K X4.here hx hby dj52_16_54 rfl rfl rfl ?_
  exact Go.retO X4 hx hby hlk hret rfl (Or.inr (Or.inr (Or.inr (Or.inr ⟨rfl, rfl, rfl⟩)))) dj52_16_56 (by decide) (by decide) (by rw [e4]; exact ⟨b3_bv, rfl, N3, ((((Keep.refl h0 []).ext E1).trans K2 (allS (Or.inr sz_b1) all0)).trans K3 all0), sz_b3_bv, Ap3_0⟩)
theorem efsi4_1 (m : MethodId) (x0 x1 : Addr) (x2 x3 : Int32) : entryFrame m #[(.ref x0), (.ref x1), (.int x2), (.int x3), .null] 6 = mkF m 0 #[.val (.ref x0), .val (.ref x1), .val (.int x2), .val (.int x3), .val .null, .unset] [] := by first | (simp [entryFrame, mkF, argsToLocals, Value.category]; done) | rfl
theorem csi4_1 (l : Launch) (Z : State) (a0 : Array Value) (hw : ∀ d ∈ tables_1, d.before a0 Z = true) (a1 a2 : Addr) (cz : Int32) (vf : Value) (c0 c1 : Int32) (c2 c3 : Int32) (h0 : Heap) (n0 : Nat) (Z0 : n0 ≤ h0.size) (E_a1 : Exa Z h0 a1 "java/lang/String") (F_value_a1 : Fld Z h0 a1 "java/lang/String" "value" "[B" .null) (F_coder_a1 : Fld Z h0 a1 "java/lang/String" "coder" "B" (.int (0 : Int32))) (A_a2 : Av Z h0 a2 .char [(.int c0), (.int c1), (.int c2), (.int c3)]) (O0 : Old Z n0 h0) (g_a1 : n0 ≤ a1) (SS : SSt Z cz vf) (hl_0 : ¬ ((255 : Int32) < c0)) (hg : (255 : Int32) < c1) (hch_0 : nar .char c0 = c0) (hch_1 : nar .char c1 = c1) (hch_2 : nar .char c2 = c2) (hch_3 : nar .char c3 = c3) :
    Con l Z (⟨"java/lang/String", "<init>", "([CIILjava/lang/Void;)V"⟩ : MethodName) jdk_42_method_149_code 6 none ({ frames := 4, cells := 2, slots := 12, locals := 57 } : Room) [] #[(.ref a1), (.ref a2), (.int (0 : Int32)), (.int (4 : Int32)), .null] h0 (fun v h L => ∃ bv : Addr, v = none ∧ Fr n0 L ∧ Keep h0 h [a1] ∧ h0.size ≤ bv ∧ Fld Z h a1 "java/lang/String" "value" "[B" (.ref bv) ∧ Fld Z h a1 "java/lang/String" "coder" "B" (.int (1 : Int32)) ∧ Av Z h bv .byte [(.int (BLO c0)), (.int (BHI c0)), (.int (BLO c1)), (.int (BHI c1)), (.int (BLO c2)), (.int (BHI c2)), (.int (BLO c3)), (.int (BHI c3))]) := by
  refine Con.of (plainFor_of_name pn_java_lang_String) #[.val (.ref a1), .val (.ref a2), .val (.int (0 : Int32)), .val (.int (4 : Int32)), .val .null, .unset] (fun m => efsi4_1 m a1 a2 (0 : Int32) (4 : Int32)) ?_
  intro p e s m below meth c s₁ K hx hby hml hown hnm hret hlk hZ X0 e0
  have N0 := Fr.nil n0
  refine mAN K X0.here hx hby dj42_149_0 rfl rfl rfl ?_
  refine k_initO K X0 hx hby hZ hown (W hw 21 rfl) (W hw 22 rfl) (W hw 23 rfl) e0 dj42_149_1 (by rw [hml]; rfl) rfl (by decide) (LB rfl) fun T1 X1 e1 => ?_
  refine mIN K X1.here hx hby dj42_149_4 rfl rfl ?_
  refine m_ifY K X1.here hx hby (q := 27) dj42_149_5 ((if0 _ _).trans (feq (by decide : ¬ ((4 : Int32) = (0 : Int32)))).2) (by decide) rfl ?_
  refine k_getS K X1 hx hby hZ hown (host := "") (Or.inl (W hw 46 rfl)) Via.refl e1 (SS.cs.ext O0.2) dj42_149_27 rfl fun T2 X2 e2 => ?_
  refine m_ifN K X2.here hx hby (q := 33) dj42_149_30 ((if0 _ _).trans (feq SS.cz).1) rfl ?_
  refine mAN K X2.here hx hby dj42_149_33 rfl rfl rfl ?_
  refine mIN K X2.here hx hby dj42_149_34 rfl rfl ?_
  refine mIN K X2.here hx hby dj42_149_35 rfl rfl ?_
  refine k_callS K X2 hx hby hZ [(.ref a2), (.int (0 : Int32)), (.int (4 : Int32))] [] hown (W hw 72 rfl) (W hw 73 rfl) (W hw 74 rfl) (W hw 75 rfl) (cct4_1 l Z a0 hw a2 cz vf c0 c1 c2 c3 h0 n0 Z0 A_a2 O0 SS hl_0 hg hch_0 hch_1 hch_2 hch_3) e2 rfl rfl pd_11 rfl dj42_149_36 (by rw [hml]; rfl) rfl (by decide) (by decide) (LB rfl) (by decide) (by decide) fun v3 T3 L3 X3 q3 => ?_
  obtain ⟨b3_bv, rfl, Nq3, K3, sq_b3_bv, Ap3_0⟩ := q3
  have N3 := Fr.app N0 Nq3
  have sz_b3_bv : h0.size ≤ b3_bv := Nat.le_trans (Nat.le_refl _) sq_b3_bv
  have g_b3_bv : n0 ≤ b3_bv := Nat.le_trans Z0 sz_b3_bv
  refine k_some K (w := (.ref b3_bv)) ?_
  refine m_astore K X3.here hx hby #[.val (.ref a1), .val (.ref a2), .val (.int (0 : Int32)), .val (.int (4 : Int32)), .val .null, .val (.ref b3_bv)] dj42_149_39 rfl rfl rfl ?_
  refine mAN K X3.here hx hby dj42_149_41 rfl rfl rfl ?_
  refine mA K X3.here hx hby dj42_149_42 rfl rfl rfl ?_
  refine mIN K X3.here hx hby dj42_149_44 rfl rfl ?_
  refine k_callS K X3 hx hby hZ [(.ref b3_bv), (.int (4 : Int32))] [(.ref a1)] hown (W hw 79 rfl) (W hw 80 rfl) (W hw 74 rfl) (W hw 81 rfl) (ccc4_8 l Z a0 hw b3_bv cz vf (BLO c0) (BHI c0) (BLO c1) (BHI c1) (BLO c2) (BHI c2) (BLO c3) (BHI c3) T3.heap n0 (Nat.le_trans Z0 (Nat.le_trans (Nat.le_refl _) K3.1)) Ap3_0 (O0.keep K3 all0) SS) rfl rfl rfl pd_12 rfl dj42_149_45 (by rw [hml]; rfl) rfl (by decide) (by decide) (LB rfl) (by decide) (by decide) fun v4 T4 L4 X4 q4 => ?_
  obtain ⟨rfl, e4, rfl⟩ := q4
  replace X4 := own_px X4
  refine k_some K (w := (.int (1 : Int32))) ?_
  refine k_putF K X4 hx hby hZ hown (host := "") (Or.inl (W hw 31 rfl)) Via.refl e4 (F_coder_a1.keep K3 nin0) (E_a1.keep K3) (Or.inr ⟨(W hw 27 rfl), rfl, hnm⟩) (W hw 11 rfl) (ty := .byte) (by decide) (by decide) (by decide) dj42_149_48 rfl fun T5 h5 X5 e5 W5 => ?_
  have Fw5 := (F_coder_a1.keep K3 nin0).same W5
  have N5 := Fr.snoc X5 N3 g_a1
  refine mAN K X5.here hx hby dj42_149_51 rfl rfl rfl ?_
  refine mA K X5.here hx hby dj42_149_52 rfl rfl rfl ?_
  refine k_putF K X5 hx hby hZ hown (host := "") (Or.inl (W hw 30 rfl)) Via.refl e5 ((F_value_a1.keep K3 nin0).other W5 (Or.inr (slot_ne (Or.inr (W hw 26 rfl)) (Or.inr (W hw 27 rfl)) (by decide) (t := (.array .byte)) (t' := .byte) (by decide) (by decide)))) ((E_a1.keep K3).wr W5) (Or.inr ⟨(W hw 26 rfl), rfl, hnm⟩) (W hw 11 rfl) (ty := (.array .byte)) (by decide) rfl rfl dj42_149_54 rfl fun T6 h6 X6 e6 W6 => ?_
  have Fw6 := ((F_value_a1.keep K3 nin0).other W5 (Or.inr (slot_ne (Or.inr (W hw 26 rfl)) (Or.inr (W hw 27 rfl)) (by decide) (t := (.array .byte)) (t' := .byte) (by decide) (by decide)))).same W6
  have N6 := Fr.snoc X6 N5 g_a1
  exact Go.retV X6 hx hby hlk hret dj42_149_57 (by decide) (by decide) (by rw [e6]; exact ⟨b3_bv, rfl, N6, ((((Keep.refl h0 [a1]).trans K3 all0).wr W5 (Or.inl (by simp))).wr W6 (Or.inl (by simp))), sz_b3_bv, Fw6, (Fw5.other W6 (Or.inr (slot_ne (Or.inr (W hw 27 rfl)) (Or.inr (W hw 26 rfl)) (by decide) (t := .byte) (t' := (.array .byte)) (by decide) (by decide)))), ((Ap3_0.other W5 (Ne.symm (Nat.ne_of_lt (Nat.lt_of_lt_of_le (Nat.lt_of_lt_of_le E_a1.lt (Nat.le_refl _)) sq_b3_bv)))).other W6 (Ne.symm (Nat.ne_of_lt (Nat.lt_of_lt_of_le (Nat.lt_of_lt_of_le E_a1.lt (Nat.le_refl _)) sq_b3_bv))))⟩)
theorem efsj4_1 (m : MethodId) (x0 x1 : Addr) : entryFrame m #[(.ref x0), (.ref x1)] 2 = mkF m 0 #[.val (.ref x0), .val (.ref x1)] [] := by first | (simp [entryFrame, mkF, argsToLocals, Value.category]; done) | rfl
theorem csj4_1 (l : Launch) (Z : State) (a0 : Array Value) (hw : ∀ d ∈ tables_1, d.before a0 Z = true) (a1 a2 : Addr) (cz : Int32) (vf : Value) (c0 c1 : Int32) (c2 c3 : Int32) (h0 : Heap) (n0 : Nat) (Z0 : n0 ≤ h0.size) (E_a1 : Exa Z h0 a1 "java/lang/String") (F_value_a1 : Fld Z h0 a1 "java/lang/String" "value" "[B" .null) (F_coder_a1 : Fld Z h0 a1 "java/lang/String" "coder" "B" (.int (0 : Int32))) (A_a2 : Av Z h0 a2 .char [(.int c0), (.int c1), (.int c2), (.int c3)]) (O0 : Old Z n0 h0) (g_a1 : n0 ≤ a1) (SS : SSt Z cz vf) (hl_0 : ¬ ((255 : Int32) < c0)) (hg : (255 : Int32) < c1) (hch_0 : nar .char c0 = c0) (hch_1 : nar .char c1 = c1) (hch_2 : nar .char c2 = c2) (hch_3 : nar .char c3 = c3) :
    Con l Z (⟨"java/lang/String", "<init>", "([C)V"⟩ : MethodName) jdk_42_method_3_code 2 none ({ frames := 5, cells := 2, slots := 12, locals := 74 } : Room) [] #[(.ref a1), (.ref a2)] h0 (fun v h L => ∃ bv : Addr, v = none ∧ Fr n0 L ∧ Keep h0 h [a1] ∧ h0.size ≤ bv ∧ Fld Z h a1 "java/lang/String" "value" "[B" (.ref bv) ∧ Fld Z h a1 "java/lang/String" "coder" "B" (.int (1 : Int32)) ∧ Av Z h bv .byte [(.int (BLO c0)), (.int (BHI c0)), (.int (BLO c1)), (.int (BHI c1)), (.int (BLO c2)), (.int (BHI c2)), (.int (BLO c3)), (.int (BHI c3))]) := by
  refine Con.of (plainFor_of_name pn_java_lang_String) #[.val (.ref a1), .val (.ref a2)] (fun m => efsj4_1 m a1 a2) ?_
  intro p e s m below meth c s₁ K hx hby hml hown hnm hret hlk hZ X0 e0
  have N0 := Fr.nil n0
  refine mAN K X0.here hx hby dj42_3_0 rfl rfl rfl ?_
  refine mAN K X0.here hx hby dj42_3_1 rfl rfl rfl ?_
  refine mC K X0.here hx hby (0 : Int32) dj42_3_2 rfl rfl ?_
  refine mAN K X0.here hx hby dj42_3_3 rfl rfl rfl ?_
  refine k_len K X0 hx hby hZ (4 : Int32) e0 A_a2 rfl dj42_3_4 rfl ?_
  refine m_null K X0.here hx hby dj42_3_5 rfl ?_
  refine k_callP K X0 hx hby hZ a1 [(.ref a2), (.int (0 : Int32)), (.int (4 : Int32)), .null] [] hown (W hw 17 rfl) (W hw 18 rfl) (W hw 12 rfl) (W hw 20 rfl) rfl (csi4_1 l Z a0 hw a1 a2 cz vf c0 c1 c2 c3 h0 n0 Z0 E_a1 F_value_a1 F_coder_a1 A_a2 O0 g_a1 SS hl_0 hg hch_0 hch_1 hch_2 hch_3) e0 rfl rfl pd_13 rfl dj42_3_6 (by rw [hml]; rfl) rfl (by decide) (by decide) (LB rfl) (by decide) (by decide) fun v1 T1 L1 X1 q1 => ?_
  obtain ⟨b1_bv, rfl, Nq1, K1, sq_b1_bv, Fp1_0, Fp1_1, Ap1_0⟩ := q1
  have N1 := Fr.app N0 Nq1
  have sz_b1_bv : h0.size ≤ b1_bv := Nat.le_trans (Nat.le_refl _) sq_b1_bv
  have g_b1_bv : n0 ≤ b1_bv := Nat.le_trans Z0 sz_b1_bv
  refine k_none K ?_
  exact Go.retV X1 hx hby hlk hret dj42_3_9 (by decide) (by decide) (⟨b1_bv, rfl, N1, ((Keep.refl h0 [a1]).trans K1 (allS (Or.inl (by simp)) all0)), sz_b1_bv, Fp1_0, Fp1_1, Ap1_0⟩)
theorem efcf4_2 (m : MethodId) (x0 : Addr) (x1 : Int32) (x2 : Addr) (x3 x4 : Int32) : entryFrame m #[(.ref x0), (.int x1), (.ref x2), (.int x3), (.int x4)] 7 = mkF m 0 #[.val (.ref x0), .val (.int x1), .val (.ref x2), .val (.int x3), .val (.int x4), .unset, .unset] [] := by first | (simp [entryFrame, mkF, argsToLocals, Value.category]; done) | rfl
theorem ccf4_2 (l : Launch) (Z : State) (a0 : Array Value) (hw : ∀ d ∈ tables_1, d.before a0 Z = true) (a1 a3 : Addr) (cz : Int32) (vf : Value) (c0 c1 : Int32) (c2 c3 : Int32) (h0 : Heap) (n0 : Nat) (Z0 : n0 ≤ h0.size) (A_a1 : Av Z h0 a1 .char [(.int c0), (.int c1), (.int c2), (.int c3)]) (A_a3 : Av Z h0 a3 .byte [(.int (0 : Int32)), (.int (0 : Int32)), (.int (0 : Int32)), (.int (0 : Int32))]) (O0 : Old Z n0 h0) (g_a3 : n0 ≤ a3) (ne_a1_a3 : a1 ≠ a3) (SS : SSt Z cz vf) (hl_0 : ¬ ((255 : Int32) < c0)) (hl_1 : ¬ ((255 : Int32) < c1)) (hg : (255 : Int32) < c2) (hch_0 : nar .char c0 = c0) (hch_1 : nar .char c1 = c1) (hch_2 : nar .char c2 = c2) (hch_3 : nar .char c3 = c3) :
    Con l Z (⟨"java/lang/StringUTF16", "compress", "([CI[BII)I"⟩ : MethodName) jdk_52_method_21_code 7 (some .int) ({ frames := 0, cells := 0, slots := 0, locals := 0 } : Room) [] #[(.ref a1), (.int (0 : Int32)), (.ref a3), (.int (0 : Int32)), (.int (4 : Int32))] h0 (fun v h L => v = some (.int (2 : Int32)) ∧ Fr n0 L ∧ Keep h0 h [a3] ∧ Av Z h a3 .byte [(.int (nar .byte (c0.toInt8.toInt32))), (.int (nar .byte (c1.toInt8.toInt32))), (.int (0 : Int32)), (.int (0 : Int32))]) := by
  refine Con.of (plainFor_of_name pn_java_lang_StringUTF16) #[.val (.ref a1), .val (.int (0 : Int32)), .val (.ref a3), .val (.int (0 : Int32)), .val (.int (4 : Int32)), .unset, .unset] (fun m => efcf4_2 m a1 (0 : Int32) a3 (0 : Int32) (4 : Int32)) ?_
  intro p e s m below meth c s₁ K hx hby hml hown hnm hret hlk hZ X0 e0
  have N0 := Fr.nil n0
  refine mC K X0.here hx hby (0 : Int32) dj52_21_0 rfl rfl ?_
  refine mS K X0.here hx hby #[.val (.ref a1), .val (.int (0 : Int32)), .val (.ref a3), .val (.int (0 : Int32)), .val (.int (4 : Int32)), .val (.int (0 : Int32)), .unset] dj52_21_1 rfl rfl ?_
  refine mI K X0.here hx hby dj52_21_3 rfl rfl ?_
  refine mI K X0.here hx hby dj52_21_5 rfl rfl ?_
  refine m_icmpN K X0.here hx hby (q := 10) dj52_21_7 (tlt (by decide : (0 : Int32) < (4 : Int32))).2.1 rfl ?_
  refine mAN K X0.here hx hby dj52_21_10 rfl rfl rfl ?_
  refine mIN K X0.here hx hby dj52_21_11 rfl rfl ?_
  refine k_ldC K X0 hx hby hZ e0 A_a1 (v := (.int c0)) (by decide) rfl dj52_21_12 rfl ?_
  refine mS K X0.here hx hby #[.val (.ref a1), .val (.int (0 : Int32)), .val (.ref a3), .val (.int (0 : Int32)), .val (.int (4 : Int32)), .val (.int (0 : Int32)), .val (.int c0)] dj52_21_13 rfl rfl ?_
  refine mI K X0.here hx hby dj52_21_15 rfl rfl ?_
  refine mP K X0.here hx hby (255 : Int32) dj52_21_17 rfl rfl ?_
  refine m_icmpY K X0.here hx hby (q := 26) dj52_21_20 (flt hl_0).2.2.2 (by decide) rfl ?_
  refine mAN K X0.here hx hby dj52_21_26 rfl rfl rfl ?_
  refine mIN K X0.here hx hby dj52_21_27 rfl rfl ?_
  refine mI K X0.here hx hby dj52_21_28 rfl rfl ?_
  refine m_i2b K X0.here hx hby (c0.toInt8.toInt32) dj52_21_30 rfl rfl ?_
  refine k_stB K X0 hx hby hZ e0 A_a3 (by decide) (LB rfl) dj52_21_31 rfl fun T1 h1 X1 e1 W1 V1 => ?_
  replace V1 : Av Z h1 a3 .byte [(.int (nar .byte (c0.toInt8.toInt32))), (.int (0 : Int32)), (.int (0 : Int32)), (.int (0 : Int32))] := V1
  have N1 := Fr.snoc X1 N0 g_a3
  refine mJ K X1.here hx hby #[.val (.ref a1), .val (.int (1 : Int32)), .val (.ref a3), .val (.int (0 : Int32)), .val (.int (4 : Int32)), .val (.int (0 : Int32)), .val (.int c0)] dj52_21_32 rfl rfl rfl ?_
  refine mJ K X1.here hx hby #[.val (.ref a1), .val (.int (1 : Int32)), .val (.ref a3), .val (.int (1 : Int32)), .val (.int (4 : Int32)), .val (.int (0 : Int32)), .val (.int c0)] dj52_21_35 rfl rfl rfl ?_
  refine mJ K X1.here hx hby #[.val (.ref a1), .val (.int (1 : Int32)), .val (.ref a3), .val (.int (1 : Int32)), .val (.int (4 : Int32)), .val (.int (1 : Int32)), .val (.int c0)] dj52_21_38 rfl rfl rfl ?_
  refine m_goto K X1.here hx hby (q := 3) dj52_21_41 (by decide) rfl ?_
  refine mI K X1.here hx hby dj52_21_3 rfl rfl ?_
  refine mI K X1.here hx hby dj52_21_5 rfl rfl ?_
  refine m_icmpN K X1.here hx hby (q := 10) dj52_21_7 (tlt (by decide : (1 : Int32) < (4 : Int32))).2.1 rfl ?_
  refine mAN K X1.here hx hby dj52_21_10 rfl rfl rfl ?_
  refine mIN K X1.here hx hby dj52_21_11 rfl rfl ?_
  refine k_ldC K X1 hx hby hZ e1 (A_a1.other W1 ne_a1_a3) (v := (.int c1)) (by decide) rfl dj52_21_12 rfl ?_
  refine mS K X1.here hx hby #[.val (.ref a1), .val (.int (1 : Int32)), .val (.ref a3), .val (.int (1 : Int32)), .val (.int (4 : Int32)), .val (.int (1 : Int32)), .val (.int c1)] dj52_21_13 rfl rfl ?_
  refine mI K X1.here hx hby dj52_21_15 rfl rfl ?_
  refine mP K X1.here hx hby (255 : Int32) dj52_21_17 rfl rfl ?_
  refine m_icmpY K X1.here hx hby (q := 26) dj52_21_20 (flt hl_1).2.2.2 (by decide) rfl ?_
  refine mAN K X1.here hx hby dj52_21_26 rfl rfl rfl ?_
  refine mIN K X1.here hx hby dj52_21_27 rfl rfl ?_
  refine mI K X1.here hx hby dj52_21_28 rfl rfl ?_
  refine m_i2b K X1.here hx hby (c1.toInt8.toInt32) dj52_21_30 rfl rfl ?_
  refine k_stB K X1 hx hby hZ e1 V1 (by decide) (LB rfl) dj52_21_31 rfl fun T2 h2 X2 e2 W2 V2 => ?_
  replace V2 : Av Z h2 a3 .byte [(.int (nar .byte (c0.toInt8.toInt32))), (.int (nar .byte (c1.toInt8.toInt32))), (.int (0 : Int32)), (.int (0 : Int32))] := V2
  have N2 := Fr.snoc X2 N1 g_a3
  refine mJ K X2.here hx hby #[.val (.ref a1), .val (.int (2 : Int32)), .val (.ref a3), .val (.int (1 : Int32)), .val (.int (4 : Int32)), .val (.int (1 : Int32)), .val (.int c1)] dj52_21_32 rfl rfl rfl ?_
  refine mJ K X2.here hx hby #[.val (.ref a1), .val (.int (2 : Int32)), .val (.ref a3), .val (.int (2 : Int32)), .val (.int (4 : Int32)), .val (.int (1 : Int32)), .val (.int c1)] dj52_21_35 rfl rfl rfl ?_
  refine mJ K X2.here hx hby #[.val (.ref a1), .val (.int (2 : Int32)), .val (.ref a3), .val (.int (2 : Int32)), .val (.int (4 : Int32)), .val (.int (2 : Int32)), .val (.int c1)] dj52_21_38 rfl rfl rfl ?_
  refine m_goto K X2.here hx hby (q := 3) dj52_21_41 (by decide) rfl ?_
  refine mI K X2.here hx hby dj52_21_3 rfl rfl ?_
  refine mI K X2.here hx hby dj52_21_5 rfl rfl ?_
  refine m_icmpN K X2.here hx hby (q := 10) dj52_21_7 (tlt (by decide : (2 : Int32) < (4 : Int32))).2.1 rfl ?_
  refine mAN K X2.here hx hby dj52_21_10 rfl rfl rfl ?_
  refine mIN K X2.here hx hby dj52_21_11 rfl rfl ?_
  refine k_ldC K X2 hx hby hZ e2 ((A_a1.other W1 ne_a1_a3).other W2 ne_a1_a3) (v := (.int c2)) (by decide) rfl dj52_21_12 rfl ?_
  refine mS K X2.here hx hby #[.val (.ref a1), .val (.int (2 : Int32)), .val (.ref a3), .val (.int (2 : Int32)), .val (.int (4 : Int32)), .val (.int (2 : Int32)), .val (.int c2)] dj52_21_13 rfl rfl ?_
  refine mI K X2.here hx hby dj52_21_15 rfl rfl ?_
  refine mP K X2.here hx hby (255 : Int32) dj52_21_17 rfl rfl ?_
  refine m_icmpN K X2.here hx hby (q := 23) dj52_21_20 (tlt hg).2.2.2 rfl ?_
  refine mI K X2.here hx hby dj52_21_23 rfl rfl ?_
  exact Go.retI X2 hx hby hlk hret dj52_21_25 (by decide) (by decide) (by rw [e2]; exact ⟨rfl, N2, (((Keep.refl h0 [a3]).wr W1 (Or.inl (by simp))).wr W2 (Or.inl (by simp))), V2⟩)
theorem efct4_2 (m : MethodId) (x0 : Addr) (x1 x2 : Int32) : entryFrame m #[(.ref x0), (.int x1), (.int x2)] 6 = mkF m 0 #[.val (.ref x0), .val (.int x1), .val (.int x2), .unset, .unset, .unset] [] := by first | (simp [entryFrame, mkF, argsToLocals, Value.category]; done) | rfl
theorem cct4_2 (l : Launch) (Z : State) (a0 : Array Value) (hw : ∀ d ∈ tables_1, d.before a0 Z = true) (a1 : Addr) (cz : Int32) (vf : Value) (c0 c1 : Int32) (c2 c3 : Int32) (h0 : Heap) (n0 : Nat) (Z0 : n0 ≤ h0.size) (A_a1 : Av Z h0 a1 .char [(.int c0), (.int c1), (.int c2), (.int c3)]) (O0 : Old Z n0 h0) (SS : SSt Z cz vf) (hl_0 : ¬ ((255 : Int32) < c0)) (hl_1 : ¬ ((255 : Int32) < c1)) (hg : (255 : Int32) < c2) (hch_0 : nar .char c0 = c0) (hch_1 : nar .char c1 = c1) (hch_2 : nar .char c2 = c2) (hch_3 : nar .char c3 = c3) :
    Con l Z (⟨"java/lang/StringUTF16", "compress", "([CII)[B"⟩ : MethodName) jdk_52_method_16_code 6 (some (.array .byte)) ({ frames := 3, cells := 2, slots := 12, locals := 40 } : Room) [] #[(.ref a1), (.int (0 : Int32)), (.int (4 : Int32))] h0 (fun v h L => ∃ bv : Addr, v = some (.ref bv) ∧ Fr n0 L ∧ Keep h0 h [] ∧ h0.size ≤ bv ∧ Av Z h bv .byte [(.int (BLO c0)), (.int (BHI c0)), (.int (BLO c1)), (.int (BHI c1)), (.int (BLO c2)), (.int (BHI c2)), (.int (BLO c3)), (.int (BHI c3))]) := by
  refine Con.of (plainFor_of_name pn_java_lang_StringUTF16) #[.val (.ref a1), .val (.int (0 : Int32)), .val (.int (4 : Int32)), .unset, .unset, .unset] (fun m => efct4_2 m a1 (0 : Int32) (4 : Int32)) ?_
  intro p e s m below meth c s₁ K hx hby hml hown hnm hret hlk hZ X0 e0
  have N0 := Fr.nil n0
  refine mIN K X0.here hx hby dj52_16_0 rfl rfl ?_
  refine k_newP K X0 hx hby hZ 4 4 (W hw 25 rfl) e0 dj52_16_1 rfl (by decide) rfl (by decide) (by decide) (by decide) (by decide) fun T1 h1 b1 X1 e1 E1 g1 V_b1 => ?_
  have sz_b1 : h0.size ≤ b1 := Nat.le_trans (Nat.le_refl _) (Nat.le_of_eq g1.symm)
  have g_b1 : n0 ≤ b1 := Nat.le_trans Z0 sz_b1
  replace V_b1 : Av Z h1 b1 .byte [(.int (0 : Int32)), (.int (0 : Int32)), (.int (0 : Int32)), (.int (0 : Int32))] := V_b1
  refine m_astoreN K X1.here hx hby #[.val (.ref a1), .val (.int (0 : Int32)), .val (.int (4 : Int32)), .val (.ref b1), .unset, .unset] dj52_16_3 rfl rfl rfl ?_
  refine mAN K X1.here hx hby dj52_16_4 rfl rfl rfl ?_
  refine mIN K X1.here hx hby dj52_16_5 rfl rfl ?_
  refine mAN K X1.here hx hby dj52_16_6 rfl rfl rfl ?_
  refine mC K X1.here hx hby (0 : Int32) dj52_16_7 rfl rfl ?_
  refine mIN K X1.here hx hby dj52_16_8 rfl rfl ?_
  refine k_callS K X1 hx hby hZ [(.ref a1), (.int (0 : Int32)), (.ref b1), (.int (0 : Int32)), (.int (4 : Int32))] [] hown (W hw 76 rfl) (W hw 77 rfl) (W hw 74 rfl) (W hw 78 rfl) (ccf4_2 l Z a0 hw a1 b1 cz vf c0 c1 c2 c3 h1 n0 (Nat.le_trans Z0 (Nat.le_trans (Nat.le_refl _) E1.1)) (A_a1.ext E1) V_b1 (O0.ext E1) g_b1 (Nat.ne_of_lt (Nat.lt_of_lt_of_le (Nat.lt_of_lt_of_le A_a1.lt (Nat.le_refl _)) (Nat.le_of_eq g1.symm))) SS hl_0 hl_1 hg hch_0 hch_1 hch_2 hch_3) e1 rfl rfl pd_10 rfl dj52_16_9 (by rw [hml]; rfl) rfl (by decide) (by decide) (LB rfl) (by decide) (by decide) fun v2 T2 L2 X2 q2 => ?_
  obtain ⟨rfl, Nq2, K2, Ap2_0⟩ := q2
  have N2 := Fr.app N0 Nq2
  refine k_some K (w := (.int (2 : Int32))) ?_
  refine mS K X2.here hx hby #[.val (.ref a1), .val (.int (0 : Int32)), .val (.int (4 : Int32)), .val (.ref b1), .val (.int (2 : Int32)), .unset] dj52_16_12 rfl rfl ?_
  refine mI K X2.here hx hby dj52_16_14 rfl rfl ?_
  refine mIN K X2.here hx hby dj52_16_16 rfl rfl ?_
  refine m_icmpN K X2.here hx hby (q := 20) dj52_16_17 (feq (by decide : ¬ ((2 : Int32) = (4 : Int32)))).1 rfl ?_
  refine mAN K X2.here hx hby dj52_16_20 rfl rfl rfl ?_
  refine mIN K X2.here hx hby dj52_16_21 rfl rfl ?_
  refine mIN K X2.here hx hby dj52_16_22 rfl rfl ?_
  refine k_callS K X2 hx hby hZ [(.ref a1), (.int (0 : Int32)), (.int (4 : Int32))] [] hown (W hw 109 rfl) (W hw 110 rfl) (W hw 74 rfl) (W hw 111 rfl) (ctb4 l Z a0 hw a1 cz vf c0 c1 c2 c3 T2.heap n0 (Nat.le_trans Z0 (Nat.le_trans (Nat.le_trans (Nat.le_refl _) E1.1) K2.1)) ((A_a1.ext E1).keep K2 (ninS (Nat.ne_of_lt (Nat.lt_of_lt_of_le (Nat.lt_of_lt_of_le A_a1.lt (Nat.le_refl _)) (Nat.le_of_eq g1.symm))) nin0)) ((O0.ext E1).keep K2 (allS g_b1 all0)) SS) rfl rfl rfl pd_11 rfl dj52_16_23 (by rw [hml]; rfl) rfl (by decide) (by decide) (LB rfl) (by decide) (by decide) fun v3 T3 L3 X3 q3 => ?_
  obtain ⟨b3_bv, rfl, Nq3, K3, sq_b3_bv, Ap3_0⟩ := q3
  have N3 := Fr.app N2 Nq3
  have sz_b3_bv : h0.size ≤ b3_bv := Nat.le_trans (Nat.le_trans (Nat.le_trans (Nat.le_refl _) E1.1) K2.1) sq_b3_bv
  have g_b3_bv : n0 ≤ b3_bv := Nat.le_trans Z0 sz_b3_bv
  refine k_some K (w := (.ref b3_bv)) ?_
  refine m_astore K X3.here hx hby #[.val (.ref a1), .val (.int (0 : Int32)), .val (.int (4 : Int32)), .val (.ref b1), .val (.int (2 : Int32)), .val (.ref b3_bv)] dj52_16_26 rfl rfl rfl ?_
  refine mA K X3.here hx hby dj52_16_28 rfl rfl rfl ?_
  refine mI K X3.here hx hby dj52_16_30 rfl rfl ?_
  refine k_callS K X3 hx hby hZ [(.ref b3_bv), (.int (2 : Int32))] [] hown (W hw 125 rfl) (W hw 126 rfl) (W hw 74 rfl) (W hw 127 rfl) (cgc4_2 l Z a0 hw b3_bv cz vf (BLO c0) (BHI c0) (BLO c1) (BHI c1) (BLO c2) (BHI c2) (BLO c3) (BHI c3) T3.heap n0 (Nat.le_trans Z0 (Nat.le_trans (Nat.le_trans (Nat.le_trans (Nat.le_refl _) E1.1) K2.1) K3.1)) Ap3_0 (((O0.ext E1).keep K2 (allS g_b1 all0)).keep K3 all0) SS) rfl rfl rfl pd_5 rfl dj52_16_32 (by rw [hml]; rfl) rfl (by decide) (by decide) (LB rfl) (by decide) (by decide) fun v4 T4 L4 X4 q4 => ?_
  obtain ⟨rfl, e4, rfl⟩ := q4
  replace X4 := own_px X4
  refine k_some K (w := (.int (GCH (BLO c2) (BHI c2)))) ?_
  refine mP K X4.here hx hby (255 : Int32) dj52_16_35 rfl rfl ?_
  refine m_icmpY K X4.here hx hby (q := 54) dj52_16_38 (tlt (own_rgt c2 hch_2 hg)).2.2.1 (by decide) rfl ?_
  refine mA K X4.here hx hby dj52_16_54 rfl rfl rfl ?_
  exact Go.retO X4 hx hby hlk hret rfl (Or.inr (Or.inr (Or.inr (Or.inr ⟨rfl, rfl, rfl⟩)))) dj52_16_56 (by decide) (by decide) (by rw [e4]; exact ⟨b3_bv, rfl, N3, ((((Keep.refl h0 []).ext E1).trans K2 (allS (Or.inr sz_b1) all0)).trans K3 all0), sz_b3_bv, Ap3_0⟩)
theorem efsi4_2 (m : MethodId) (x0 x1 : Addr) (x2 x3 : Int32) : entryFrame m #[(.ref x0), (.ref x1), (.int x2), (.int x3), .null] 6 = mkF m 0 #[.val (.ref x0), .val (.ref x1), .val (.int x2), .val (.int x3), .val .null, .unset] [] := by first | (simp [entryFrame, mkF, argsToLocals, Value.category]; done) | rfl
theorem csi4_2 (l : Launch) (Z : State) (a0 : Array Value) (hw : ∀ d ∈ tables_1, d.before a0 Z = true) (a1 a2 : Addr) (cz : Int32) (vf : Value) (c0 c1 : Int32) (c2 c3 : Int32) (h0 : Heap) (n0 : Nat) (Z0 : n0 ≤ h0.size) (E_a1 : Exa Z h0 a1 "java/lang/String") (F_value_a1 : Fld Z h0 a1 "java/lang/String" "value" "[B" .null) (F_coder_a1 : Fld Z h0 a1 "java/lang/String" "coder" "B" (.int (0 : Int32))) (A_a2 : Av Z h0 a2 .char [(.int c0), (.int c1), (.int c2), (.int c3)]) (O0 : Old Z n0 h0) (g_a1 : n0 ≤ a1) (SS : SSt Z cz vf) (hl_0 : ¬ ((255 : Int32) < c0)) (hl_1 : ¬ ((255 : Int32) < c1)) (hg : (255 : Int32) < c2) (hch_0 : nar .char c0 = c0) (hch_1 : nar .char c1 = c1) (hch_2 : nar .char c2 = c2) (hch_3 : nar .char c3 = c3) :
    Con l Z (⟨"java/lang/String", "<init>", "([CIILjava/lang/Void;)V"⟩ : MethodName) jdk_42_method_149_code 6 none ({ frames := 4, cells := 2, slots := 12, locals := 57 } : Room) [] #[(.ref a1), (.ref a2), (.int (0 : Int32)), (.int (4 : Int32)), .null] h0 (fun v h L => ∃ bv : Addr, v = none ∧ Fr n0 L ∧ Keep h0 h [a1] ∧ h0.size ≤ bv ∧ Fld Z h a1 "java/lang/String" "value" "[B" (.ref bv) ∧ Fld Z h a1 "java/lang/String" "coder" "B" (.int (1 : Int32)) ∧ Av Z h bv .byte [(.int (BLO c0)), (.int (BHI c0)), (.int (BLO c1)), (.int (BHI c1)), (.int (BLO c2)), (.int (BHI c2)), (.int (BLO c3)), (.int (BHI c3))]) := by
  refine Con.of (plainFor_of_name pn_java_lang_String) #[.val (.ref a1), .val (.ref a2), .val (.int (0 : Int32)), .val (.int (4 : Int32)), .val .null, .unset] (fun m => efsi4_2 m a1 a2 (0 : Int32) (4 : Int32)) ?_
  intro p e s m below meth c s₁ K hx hby hml hown hnm hret hlk hZ X0 e0
  have N0 := Fr.nil n0
  refine mAN K X0.here hx hby dj42_149_0 rfl rfl rfl ?_
  refine k_initO K X0 hx hby hZ hown (W hw 21 rfl) (W hw 22 rfl) (W hw 23 rfl) e0 dj42_149_1 (by rw [hml]; rfl) rfl (by decide) (LB rfl) fun T1 X1 e1 => ?_
  refine mIN K X1.here hx hby dj42_149_4 rfl rfl ?_
  refine m_ifY K X1.here hx hby (q := 27) dj42_149_5 ((if0 _ _).trans (feq (by decide : ¬ ((4 : Int32) = (0 : Int32)))).2) (by decide) rfl ?_
  refine k_getS K X1 hx hby hZ hown (host := "") (Or.inl (W hw 46 rfl)) Via.refl e1 (SS.cs.ext O0.2) dj42_149_27 rfl fun T2 X2 e2 => ?_
  refine m_ifN K X2.here hx hby (q := 33) dj42_149_30 ((if0 _ _).trans (feq SS.cz).1) rfl ?_
  refine mAN K X2.here hx hby dj42_149_33 rfl rfl rfl ?_
  refine mIN K X2.here hx hby dj42_149_34 rfl rfl ?_
  refine mIN K X2.here hx hby dj42_149_35 rfl rfl ?_
  refine k_callS K X2 hx hby hZ [(.ref a2), (.int (0 : Int32)), (.int (4 : Int32))] [] hown (W hw 72 rfl) (W hw 73 rfl) (W hw 74 rfl) (W hw 75 rfl) (cct4_2 l Z a0 hw a2 cz vf c0 c1 c2 c3 h0 n0 Z0 A_a2 O0 SS hl_0 hl_1 hg hch_0 hch_1 hch_2 hch_3) e2 rfl rfl pd_11 rfl dj42_149_36 (by rw [hml]; rfl) rfl (by decide) (by decide) (LB rfl) (by decide) (by decide) fun v3 T3 L3 X3 q3 => ?_
  obtain ⟨b3_bv, rfl, Nq3, K3, sq_b3_bv, Ap3_0⟩ := q3
  have N3 := Fr.app N0 Nq3
  have sz_b3_bv : h0.size ≤ b3_bv := Nat.le_trans (Nat.le_refl _) sq_b3_bv
  have g_b3_bv : n0 ≤ b3_bv := Nat.le_trans Z0 sz_b3_bv
  refine k_some K (w := (.ref b3_bv)) ?_
  refine m_astore K X3.here hx hby #[.val (.ref a1), .val (.ref a2), .val (.int (0 : Int32)), .val (.int (4 : Int32)), .val .null, .val (.ref b3_bv)] dj42_149_39 rfl rfl rfl ?_
  refine mAN K X3.here hx hby dj42_149_41 rfl rfl rfl ?_
  refine mA K X3.here hx hby dj42_149_42 rfl rfl rfl ?_
  refine mIN K X3.here hx hby dj42_149_44 rfl rfl ?_
  refine k_callS K X3 hx hby hZ [(.ref b3_bv), (.int (4 : Int32))] [(.ref a1)] hown (W hw 79 rfl) (W hw 80 rfl) (W hw 74 rfl) (W hw 81 rfl) (ccc4_8 l Z a0 hw b3_bv cz vf (BLO c0) (BHI c0) (BLO c1) (BHI c1) (BLO c2) (BHI c2) (BLO c3) (BHI c3) T3.heap n0 (Nat.le_trans Z0 (Nat.le_trans (Nat.le_refl _) K3.1)) Ap3_0 (O0.keep K3 all0) SS) rfl rfl rfl pd_12 rfl dj42_149_45 (by rw [hml]; rfl) rfl (by decide) (by decide) (LB rfl) (by decide) (by decide) fun v4 T4 L4 X4 q4 => ?_
  obtain ⟨rfl, e4, rfl⟩ := q4
  replace X4 := own_px X4
  refine k_some K (w := (.int (1 : Int32))) ?_
  refine k_putF K X4 hx hby hZ hown (host := "") (Or.inl (W hw 31 rfl)) Via.refl e4 (F_coder_a1.keep K3 nin0) (E_a1.keep K3) (Or.inr ⟨(W hw 27 rfl), rfl, hnm⟩) (W hw 11 rfl) (ty := .byte) (by decide) (by decide) (by decide) dj42_149_48 rfl fun T5 h5 X5 e5 W5 => ?_
  have Fw5 := (F_coder_a1.keep K3 nin0).same W5
  have N5 := Fr.snoc X5 N3 g_a1
  refine mAN K X5.here hx hby dj42_149_51 rfl rfl rfl ?_
  refine mA K X5.here hx hby dj42_149_52 rfl rfl rfl ?_
  refine k_putF K X5 hx hby hZ hown (host := "") (Or.inl (W hw 30 rfl)) Via.refl e5 ((F_value_a1.keep K3 nin0).other W5 (Or.inr (slot_ne (Or.inr (W hw 26 rfl)) (Or.inr (W hw 27 rfl)) (by decide) (t := (.array .byte)) (t' := .byte) (by decide) (by decide)))) ((E_a1.keep K3).wr W5) (Or.inr ⟨(W hw 26 rfl), rfl, hnm⟩) (W hw 11 rfl) (ty := (.array .byte)) (by decide) rfl rfl dj42_149_54 rfl fun T6 h6 X6 e6 W6 => ?_
  have Fw6 := ((F_value_a1.keep K3 nin0).other W5 (Or.inr (slot_ne (Or.inr (W hw 26 rfl)) (Or.inr (W hw 27 rfl)) (by decide) (t := (.array .byte)) (t' := .byte) (by decide) (by decide)))).same W6
  have N6 := Fr.snoc X6 N5 g_a1
  exact Go.retV X6 hx hby hlk hret dj42_149_57 (by decide) (by decide) (by rw [e6]; exact ⟨b3_bv, rfl, N6, ((((Keep.refl h0 [a1]).trans K3 all0).wr W5 (Or.inl (by simp))).wr W6 (Or.inl (by simp))), sz_b3_bv, Fw6, (Fw5.other W6 (Or.inr (slot_ne (Or.inr (W hw 27 rfl)) (Or.inr (W hw 26 rfl)) (by decide) (t := .byte) (t' := (.array .byte)) (by decide) (by decide)))), ((Ap3_0.other W5 (Ne.symm (Nat.ne_of_lt (Nat.lt_of_lt_of_le (Nat.lt_of_lt_of_le E_a1.lt (Nat.le_refl _)) sq_b3_bv)))).other W6 (Ne.symm (Nat.ne_of_lt (Nat.lt_of_lt_of_le (Nat.lt_of_lt_of_le E_a1.lt (Nat.le_refl _)) sq_b3_bv))))⟩)
theorem efsj4_2 (m : MethodId) (x0 x1 : Addr) : entryFrame m #[(.ref x0), (.ref x1)] 2 = mkF m 0 #[.val (.ref x0), .val (.ref x1)] [] := by first | (simp [entryFrame, mkF, argsToLocals, Value.category]; done) | rfl
theorem csj4_2 (l : Launch) (Z : State) (a0 : Array Value) (hw : ∀ d ∈ tables_1, d.before a0 Z = true) (a1 a2 : Addr) (cz : Int32) (vf : Value) (c0 c1 : Int32) (c2 c3 : Int32) (h0 : Heap) (n0 : Nat) (Z0 : n0 ≤ h0.size) (E_a1 : Exa Z h0 a1 "java/lang/String") (F_value_a1 : Fld Z h0 a1 "java/lang/String" "value" "[B" .null) (F_coder_a1 : Fld Z h0 a1 "java/lang/String" "coder" "B" (.int (0 : Int32))) (A_a2 : Av Z h0 a2 .char [(.int c0), (.int c1), (.int c2), (.int c3)]) (O0 : Old Z n0 h0) (g_a1 : n0 ≤ a1) (SS : SSt Z cz vf) (hl_0 : ¬ ((255 : Int32) < c0)) (hl_1 : ¬ ((255 : Int32) < c1)) (hg : (255 : Int32) < c2) (hch_0 : nar .char c0 = c0) (hch_1 : nar .char c1 = c1) (hch_2 : nar .char c2 = c2) (hch_3 : nar .char c3 = c3) :
    Con l Z (⟨"java/lang/String", "<init>", "([C)V"⟩ : MethodName) jdk_42_method_3_code 2 none ({ frames := 5, cells := 2, slots := 12, locals := 74 } : Room) [] #[(.ref a1), (.ref a2)] h0 (fun v h L => ∃ bv : Addr, v = none ∧ Fr n0 L ∧ Keep h0 h [a1] ∧ h0.size ≤ bv ∧ Fld Z h a1 "java/lang/String" "value" "[B" (.ref bv) ∧ Fld Z h a1 "java/lang/String" "coder" "B" (.int (1 : Int32)) ∧ Av Z h bv .byte [(.int (BLO c0)), (.int (BHI c0)), (.int (BLO c1)), (.int (BHI c1)), (.int (BLO c2)), (.int (BHI c2)), (.int (BLO c3)), (.int (BHI c3))]) := by
  refine Con.of (plainFor_of_name pn_java_lang_String) #[.val (.ref a1), .val (.ref a2)] (fun m => efsj4_2 m a1 a2) ?_
  intro p e s m below meth c s₁ K hx hby hml hown hnm hret hlk hZ X0 e0
  have N0 := Fr.nil n0
  refine mAN K X0.here hx hby dj42_3_0 rfl rfl rfl ?_
  refine mAN K X0.here hx hby dj42_3_1 rfl rfl rfl ?_
  refine mC K X0.here hx hby (0 : Int32) dj42_3_2 rfl rfl ?_
  refine mAN K X0.here hx hby dj42_3_3 rfl rfl rfl ?_
  refine k_len K X0 hx hby hZ (4 : Int32) e0 A_a2 rfl dj42_3_4 rfl ?_
  refine m_null K X0.here hx hby dj42_3_5 rfl ?_
  refine k_callP K X0 hx hby hZ a1 [(.ref a2), (.int (0 : Int32)), (.int (4 : Int32)), .null] [] hown (W hw 17 rfl) (W hw 18 rfl) (W hw 12 rfl) (W hw 20 rfl) rfl (csi4_2 l Z a0 hw a1 a2 cz vf c0 c1 c2 c3 h0 n0 Z0 E_a1 F_value_a1 F_coder_a1 A_a2 O0 g_a1 SS hl_0 hl_1 hg hch_0 hch_1 hch_2 hch_3) e0 rfl rfl pd_13 rfl dj42_3_6 (by rw [hml]; rfl) rfl (by decide) (by decide) (LB rfl) (by decide) (by decide) fun v1 T1 L1 X1 q1 => ?_
  obtain ⟨b1_bv, rfl, Nq1, K1, sq_b1_bv, Fp1_0, Fp1_1, Ap1_0⟩ := q1
  have N1 := Fr.app N0 Nq1
  have sz_b1_bv : h0.size ≤ b1_bv := Nat.le_trans (Nat.le_refl _) sq_b1_bv
  have g_b1_bv : n0 ≤ b1_bv := Nat.le_trans Z0 sz_b1_bv
  refine k_none K ?_
  exact Go.retV X1 hx hby hlk hret dj42_3_9 (by decide) (by decide) (⟨b1_bv, rfl, N1, ((Keep.refl h0 [a1]).trans K1 (allS (Or.inl (by simp)) all0)), sz_b1_bv, Fp1_0, Fp1_1, Ap1_0⟩)
theorem efcf4_3 (m : MethodId) (x0 : Addr) (x1 : Int32) (x2 : Addr) (x3 x4 : Int32) : entryFrame m #[(.ref x0), (.int x1), (.ref x2), (.int x3), (.int x4)] 7 = mkF m 0 #[.val (.ref x0), .val (.int x1), .val (.ref x2), .val (.int x3), .val (.int x4), .unset, .unset] [] := by first | (simp [entryFrame, mkF, argsToLocals, Value.category]; done) | rfl
theorem ccf4_3 (l : Launch) (Z : State) (a0 : Array Value) (hw : ∀ d ∈ tables_1, d.before a0 Z = true) (a1 a3 : Addr) (cz : Int32) (vf : Value) (c0 c1 : Int32) (c2 c3 : Int32) (h0 : Heap) (n0 : Nat) (Z0 : n0 ≤ h0.size) (A_a1 : Av Z h0 a1 .char [(.int c0), (.int c1), (.int c2), (.int c3)]) (A_a3 : Av Z h0 a3 .byte [(.int (0 : Int32)), (.int (0 : Int32)), (.int (0 : Int32)), (.int (0 : Int32))]) (O0 : Old Z n0 h0) (g_a3 : n0 ≤ a3) (ne_a1_a3 : a1 ≠ a3) (SS : SSt Z cz vf) (hl_0 : ¬ ((255 : Int32) < c0)) (hl_1 : ¬ ((255 : Int32) < c1)) (hl_2 : ¬ ((255 : Int32) < c2)) (hg : (255 : Int32) < c3) (hch_0 : nar .char c0 = c0) (hch_1 : nar .char c1 = c1) (hch_2 : nar .char c2 = c2) (hch_3 : nar .char c3 = c3) :
    Con l Z (⟨"java/lang/StringUTF16", "compress", "([CI[BII)I"⟩ : MethodName) jdk_52_method_21_code 7 (some .int) ({ frames := 0, cells := 0, slots := 0, locals := 0 } : Room) [] #[(.ref a1), (.int (0 : Int32)), (.ref a3), (.int (0 : Int32)), (.int (4 : Int32))] h0 (fun v h L => v = some (.int (3 : Int32)) ∧ Fr n0 L ∧ Keep h0 h [a3] ∧ Av Z h a3 .byte [(.int (nar .byte (c0.toInt8.toInt32))), (.int (nar .byte (c1.toInt8.toInt32))), (.int (nar .byte (c2.toInt8.toInt32))), (.int (0 : Int32))]) := by
  refine Con.of (plainFor_of_name pn_java_lang_StringUTF16) #[.val (.ref a1), .val (.int (0 : Int32)), .val (.ref a3), .val (.int (0 : Int32)), .val (.int (4 : Int32)), .unset, .unset] (fun m => efcf4_3 m a1 (0 : Int32) a3 (0 : Int32) (4 : Int32)) ?_
  intro p e s m below meth c s₁ K hx hby hml hown hnm hret hlk hZ X0 e0
  have N0 := Fr.nil n0
  refine mC K X0.here hx hby (0 : Int32) dj52_21_0 rfl rfl ?_
  refine mS K X0.here hx hby #[.val (.ref a1), .val (.int (0 : Int32)), .val (.ref a3), .val (.int (0 : Int32)), .val (.int (4 : Int32)), .val (.int (0 : Int32)), .unset] dj52_21_1 rfl rfl ?_
  refine mI K X0.here hx hby dj52_21_3 rfl rfl ?_
  refine mI K X0.here hx hby dj52_21_5 rfl rfl ?_
  refine m_icmpN K X0.here hx hby (q := 10) dj52_21_7 (tlt (by decide : (0 : Int32) < (4 : Int32))).2.1 rfl ?_
  refine mAN K X0.here hx hby dj52_21_10 rfl rfl rfl ?_
  refine mIN K X0.here hx hby dj52_21_11 rfl rfl ?_
  refine k_ldC K X0 hx hby hZ e0 A_a1 (v := (.int c0)) (by decide) rfl dj52_21_12 rfl ?_
  refine mS K X0.here hx hby #[.val (.ref a1), .val (.int (0 : Int32)), .val (.ref a3), .val (.int (0 : Int32)), .val (.int (4 : Int32)), .val (.int (0 : Int32)), .val (.int c0)] dj52_21_13 rfl rfl ?_
  refine mI K X0.here hx hby dj52_21_15 rfl rfl ?_
  refine mP K X0.here hx hby (255 : Int32) dj52_21_17 rfl rfl ?_
  refine m_icmpY K X0.here hx hby (q := 26) dj52_21_20 (flt hl_0).2.2.2 (by decide) rfl ?_
  refine mAN K X0.here hx hby dj52_21_26 rfl rfl rfl ?_
  refine mIN K X0.here hx hby dj52_21_27 rfl rfl ?_
  refine mI K X0.here hx hby dj52_21_28 rfl rfl ?_
  refine m_i2b K X0.here hx hby (c0.toInt8.toInt32) dj52_21_30 rfl rfl ?_
  refine k_stB K X0 hx hby hZ e0 A_a3 (by decide) (LB rfl) dj52_21_31 rfl fun T1 h1 X1 e1 W1 V1 => ?_
  replace V1 : Av Z h1 a3 .byte [(.int (nar .byte (c0.toInt8.toInt32))), (.int (0 : Int32)), (.int (0 : Int32)), (.int (0 : Int32))] := V1
  have N1 := Fr.snoc X1 N0 g_a3
  refine mJ K X1.here hx hby #[.val (.ref a1), .val (.int (1 : Int32)), .val (.ref a3), .val (.int (0 : Int32)), .val (.int (4 : Int32)), .val (.int (0 : Int32)), .val (.int c0)] dj52_21_32 rfl rfl rfl ?_
  refine mJ K X1.here hx hby #[.val (.ref a1), .val (.int (1 : Int32)), .val (.ref a3), .val (.int (1 : Int32)), .val (.int (4 : Int32)), .val (.int (0 : Int32)), .val (.int c0)] dj52_21_35 rfl rfl rfl ?_
  refine mJ K X1.here hx hby #[.val (.ref a1), .val (.int (1 : Int32)), .val (.ref a3), .val (.int (1 : Int32)), .val (.int (4 : Int32)), .val (.int (1 : Int32)), .val (.int c0)] dj52_21_38 rfl rfl rfl ?_
  refine m_goto K X1.here hx hby (q := 3) dj52_21_41 (by decide) rfl ?_
  refine mI K X1.here hx hby dj52_21_3 rfl rfl ?_
  refine mI K X1.here hx hby dj52_21_5 rfl rfl ?_
  refine m_icmpN K X1.here hx hby (q := 10) dj52_21_7 (tlt (by decide : (1 : Int32) < (4 : Int32))).2.1 rfl ?_
  refine mAN K X1.here hx hby dj52_21_10 rfl rfl rfl ?_
  refine mIN K X1.here hx hby dj52_21_11 rfl rfl ?_
  refine k_ldC K X1 hx hby hZ e1 (A_a1.other W1 ne_a1_a3) (v := (.int c1)) (by decide) rfl dj52_21_12 rfl ?_
  refine mS K X1.here hx hby #[.val (.ref a1), .val (.int (1 : Int32)), .val (.ref a3), .val (.int (1 : Int32)), .val (.int (4 : Int32)), .val (.int (1 : Int32)), .val (.int c1)] dj52_21_13 rfl rfl ?_
  refine mI K X1.here hx hby dj52_21_15 rfl rfl ?_
  refine mP K X1.here hx hby (255 : Int32) dj52_21_17 rfl rfl ?_
  refine m_icmpY K X1.here hx hby (q := 26) dj52_21_20 (flt hl_1).2.2.2 (by decide) rfl ?_
  refine mAN K X1.here hx hby dj52_21_26 rfl rfl rfl ?_
  refine mIN K X1.here hx hby dj52_21_27 rfl rfl ?_
  refine mI K X1.here hx hby dj52_21_28 rfl rfl ?_
  refine m_i2b K X1.here hx hby (c1.toInt8.toInt32) dj52_21_30 rfl rfl ?_
  refine k_stB K X1 hx hby hZ e1 V1 (by decide) (LB rfl) dj52_21_31 rfl fun T2 h2 X2 e2 W2 V2 => ?_
  replace V2 : Av Z h2 a3 .byte [(.int (nar .byte (c0.toInt8.toInt32))), (.int (nar .byte (c1.toInt8.toInt32))), (.int (0 : Int32)), (.int (0 : Int32))] := V2
  have N2 := Fr.snoc X2 N1 g_a3
  refine mJ K X2.here hx hby #[.val (.ref a1), .val (.int (2 : Int32)), .val (.ref a3), .val (.int (1 : Int32)), .val (.int (4 : Int32)), .val (.int (1 : Int32)), .val (.int c1)] dj52_21_32 rfl rfl rfl ?_
  refine mJ K X2.here hx hby #[.val (.ref a1), .val (.int (2 : Int32)), .val (.ref a3), .val (.int (2 : Int32)), .val (.int (4 : Int32)), .val (.int (1 : Int32)), .val (.int c1)] dj52_21_35 rfl rfl rfl ?_
  refine mJ K X2.here hx hby #[.val (.ref a1), .val (.int (2 : Int32)), .val (.ref a3), .val (.int (2 : Int32)), .val (.int (4 : Int32)), .val (.int (2 : Int32)), .val (.int c1)] dj52_21_38 rfl rfl rfl ?_
  refine m_goto K X2.here hx hby (q := 3) dj52_21_41 (by decide) rfl ?_
  refine mI K X2.here hx hby dj52_21_3 rfl rfl ?_
  refine mI K X2.here hx hby dj52_21_5 rfl rfl ?_
  refine m_icmpN K X2.here hx hby (q := 10) dj52_21_7 (tlt (by decide : (2 : Int32) < (4 : Int32))).2.1 rfl ?_
  refine mAN K X2.here hx hby dj52_21_10 rfl rfl rfl ?_
  refine mIN K X2.here hx hby dj52_21_11 rfl rfl ?_
  refine k_ldC K X2 hx hby hZ e2 ((A_a1.other W1 ne_a1_a3).other W2 ne_a1_a3) (v := (.int c2)) (by decide) rfl dj52_21_12 rfl ?_
  refine mS K X2.here hx hby #[.val (.ref a1), .val (.int (2 : Int32)), .val (.ref a3), .val (.int (2 : Int32)), .val (.int (4 : Int32)), .val (.int (2 : Int32)), .val (.int c2)] dj52_21_13 rfl rfl ?_
  refine mI K X2.here hx hby dj52_21_15 rfl rfl ?_
  refine mP K X2.here hx hby (255 : Int32) dj52_21_17 rfl rfl ?_
  refine m_icmpY K X2.here hx hby (q := 26) dj52_21_20 (flt hl_2).2.2.2 (by decide) rfl ?_
  refine mAN K X2.here hx hby dj52_21_26 rfl rfl rfl ?_
  refine mIN K X2.here hx hby dj52_21_27 rfl rfl ?_
  refine mI K X2.here hx hby dj52_21_28 rfl rfl ?_
  refine m_i2b K X2.here hx hby (c2.toInt8.toInt32) dj52_21_30 rfl rfl ?_
  refine k_stB K X2 hx hby hZ e2 V2 (by decide) (LB rfl) dj52_21_31 rfl fun T3 h3 X3 e3 W3 V3 => ?_
  replace V3 : Av Z h3 a3 .byte [(.int (nar .byte (c0.toInt8.toInt32))), (.int (nar .byte (c1.toInt8.toInt32))), (.int (nar .byte (c2.toInt8.toInt32))), (.int (0 : Int32))] := V3
  have N3 := Fr.snoc X3 N2 g_a3
  refine mJ K X3.here hx hby #[.val (.ref a1), .val (.int (3 : Int32)), .val (.ref a3), .val (.int (2 : Int32)), .val (.int (4 : Int32)), .val (.int (2 : Int32)), .val (.int c2)] dj52_21_32 rfl rfl rfl ?_
  refine mJ K X3.here hx hby #[.val (.ref a1), .val (.int (3 : Int32)), .val (.ref a3), .val (.int (3 : Int32)), .val (.int (4 : Int32)), .val (.int (2 : Int32)), .val (.int c2)] dj52_21_35 rfl rfl rfl ?_
  refine mJ K X3.here hx hby #[.val (.ref a1), .val (.int (3 : Int32)), .val (.ref a3), .val (.int (3 : Int32)), .val (.int (4 : Int32)), .val (.int (3 : Int32)), .val (.int c2)] dj52_21_38 rfl rfl rfl ?_
  refine m_goto K X3.here hx hby (q := 3) dj52_21_41 (by decide) rfl ?_
  refine mI K X3.here hx hby dj52_21_3 rfl rfl ?_
  refine mI K X3.here hx hby dj52_21_5 rfl rfl ?_
  refine m_icmpN K X3.here hx hby (q := 10) dj52_21_7 (tlt (by decide : (3 : Int32) < (4 : Int32))).2.1 rfl ?_
  refine mAN K X3.here hx hby dj52_21_10 rfl rfl rfl ?_
  refine mIN K X3.here hx hby dj52_21_11 rfl rfl ?_
  refine k_ldC K X3 hx hby hZ e3 (((A_a1.other W1 ne_a1_a3).other W2 ne_a1_a3).other W3 ne_a1_a3) (v := (.int c3)) (by decide) rfl dj52_21_12 rfl ?_
  refine mS K X3.here hx hby #[.val (.ref a1), .val (.int (3 : Int32)), .val (.ref a3), .val (.int (3 : Int32)), .val (.int (4 : Int32)), .val (.int (3 : Int32)), .val (.int c3)] dj52_21_13 rfl rfl ?_
  refine mI K X3.here hx hby dj52_21_15 rfl rfl ?_
  refine mP K X3.here hx hby (255 : Int32) dj52_21_17 rfl rfl ?_
  refine m_icmpN K X3.here hx hby (q := 23) dj52_21_20 (tlt hg).2.2.2 rfl ?_
  refine mI K X3.here hx hby dj52_21_23 rfl rfl ?_
  exact Go.retI X3 hx hby hlk hret dj52_21_25 (by decide) (by decide) (by rw [e3]; exact ⟨rfl, N3, ((((Keep.refl h0 [a3]).wr W1 (Or.inl (by simp))).wr W2 (Or.inl (by simp))).wr W3 (Or.inl (by simp))), V3⟩)
theorem efct4_3 (m : MethodId) (x0 : Addr) (x1 x2 : Int32) : entryFrame m #[(.ref x0), (.int x1), (.int x2)] 6 = mkF m 0 #[.val (.ref x0), .val (.int x1), .val (.int x2), .unset, .unset, .unset] [] := by first | (simp [entryFrame, mkF, argsToLocals, Value.category]; done) | rfl
theorem cct4_3 (l : Launch) (Z : State) (a0 : Array Value) (hw : ∀ d ∈ tables_1, d.before a0 Z = true) (a1 : Addr) (cz : Int32) (vf : Value) (c0 c1 : Int32) (c2 c3 : Int32) (h0 : Heap) (n0 : Nat) (Z0 : n0 ≤ h0.size) (A_a1 : Av Z h0 a1 .char [(.int c0), (.int c1), (.int c2), (.int c3)]) (O0 : Old Z n0 h0) (SS : SSt Z cz vf) (hl_0 : ¬ ((255 : Int32) < c0)) (hl_1 : ¬ ((255 : Int32) < c1)) (hl_2 : ¬ ((255 : Int32) < c2)) (hg : (255 : Int32) < c3) (hch_0 : nar .char c0 = c0) (hch_1 : nar .char c1 = c1) (hch_2 : nar .char c2 = c2) (hch_3 : nar .char c3 = c3) :
    Con l Z (⟨"java/lang/StringUTF16", "compress", "([CII)[B"⟩ : MethodName) jdk_52_method_16_code 6 (some (.array .byte)) ({ frames := 3, cells := 2, slots := 12, locals := 40 } : Room) [] #[(.ref a1), (.int (0 : Int32)), (.int (4 : Int32))] h0 (fun v h L => ∃ bv : Addr, v = some (.ref bv) ∧ Fr n0 L ∧ Keep h0 h [] ∧ h0.size ≤ bv ∧ Av Z h bv .byte [(.int (BLO c0)), (.int (BHI c0)), (.int (BLO c1)), (.int (BHI c1)), (.int (BLO c2)), (.int (BHI c2)), (.int (BLO c3)), (.int (BHI c3))]) := by
  refine Con.of (plainFor_of_name pn_java_lang_StringUTF16) #[.val (.ref a1), .val (.int (0 : Int32)), .val (.int (4 : Int32)), .unset, .unset, .unset] (fun m => efct4_3 m a1 (0 : Int32) (4 : Int32)) ?_
  intro p e s m below meth c s₁ K hx hby hml hown hnm hret hlk hZ X0 e0
  have N0 := Fr.nil n0
  refine mIN K X0.here hx hby dj52_16_0 rfl rfl ?_
  refine k_newP K X0 hx hby hZ 4 4 (W hw 25 rfl) e0 dj52_16_1 rfl (by decide) rfl (by decide) (by decide) (by decide) (by decide) fun T1 h1 b1 X1 e1 E1 g1 V_b1 => ?_
  have sz_b1 : h0.size ≤ b1 := Nat.le_trans (Nat.le_refl _) (Nat.le_of_eq g1.symm)
  have g_b1 : n0 ≤ b1 := Nat.le_trans Z0 sz_b1
  replace V_b1 : Av Z h1 b1 .byte [(.int (0 : Int32)), (.int (0 : Int32)), (.int (0 : Int32)), (.int (0 : Int32))] := V_b1
  refine m_astoreN K X1.here hx hby #[.val (.ref a1), .val (.int (0 : Int32)), .val (.int (4 : Int32)), .val (.ref b1), .unset, .unset] dj52_16_3 rfl rfl rfl ?_
  refine mAN K X1.here hx hby dj52_16_4 rfl rfl rfl ?_
  refine mIN K X1.here hx hby dj52_16_5 rfl rfl ?_
  refine mAN K X1.here hx hby dj52_16_6 rfl rfl rfl ?_
  refine mC K X1.here hx hby (0 : Int32) dj52_16_7 rfl rfl ?_
  refine mIN K X1.here hx hby dj52_16_8 rfl rfl ?_
  refine k_callS K X1 hx hby hZ [(.ref a1), (.int (0 : Int32)), (.ref b1), (.int (0 : Int32)), (.int (4 : Int32))] [] hown (W hw 76 rfl) (W hw 77 rfl) (W hw 74 rfl) (W hw 78 rfl) (ccf4_3 l Z a0 hw a1 b1 cz vf c0 c1 c2 c3 h1 n0 (Nat.le_trans Z0 (Nat.le_trans (Nat.le_refl _) E1.1)) (A_a1.ext E1) V_b1 (O0.ext E1) g_b1 (Nat.ne_of_lt (Nat.lt_of_lt_of_le (Nat.lt_of_lt_of_le A_a1.lt (Nat.le_refl _)) (Nat.le_of_eq g1.symm))) SS hl_0 hl_1 hl_2 hg hch_0 hch_1 hch_2 hch_3) e1 rfl rfl pd_10 rfl dj52_16_9 (by rw [hml]; rfl) rfl (by decide) (by decide) (LB rfl) (by decide) (by decide) fun v2 T2 L2 X2 q2 => ?_
  obtain ⟨rfl, Nq2, K2, Ap2_0⟩ := q2
  have N2 := Fr.app N0 Nq2
  refine k_some K (w := (.int (3 : Int32))) ?_
  refine mS K X2.here hx hby #[.val (.ref a1), .val (.int (0 : Int32)), .val (.int (4 : Int32)), .val (.ref b1), .val (.int (3 : Int32)), .unset] dj52_16_12 rfl rfl ?_
  refine mI K X2.here hx hby dj52_16_14 rfl rfl ?_
  refine mIN K X2.here hx hby dj52_16_16 rfl rfl ?_
  refine m_icmpN K X2.here hx hby (q := 20) dj52_16_17 (feq (by decide : ¬ ((3 : Int32) = (4 : Int32)))).1 rfl ?_
  refine mAN K X2.here hx hby dj52_16_20 rfl rfl rfl ?_
  refine mIN K X2.here hx hby dj52_16_21 rfl rfl ?_
  refine mIN K X2.here hx hby dj52_16_22 rfl rfl ?_
  refine k_callS K X2 hx hby hZ [(.ref a1), (.int (0 : Int32)), (.int (4 : Int32))] [] hown (W hw 109 rfl) (W hw 110 rfl) (W hw 74 rfl) (W hw 111 rfl) (ctb4 l Z a0 hw a1 cz vf c0 c1 c2 c3 T2.heap n0 (Nat.le_trans Z0 (Nat.le_trans (Nat.le_trans (Nat.le_refl _) E1.1) K2.1)) ((A_a1.ext E1).keep K2 (ninS (Nat.ne_of_lt (Nat.lt_of_lt_of_le (Nat.lt_of_lt_of_le A_a1.lt (Nat.le_refl _)) (Nat.le_of_eq g1.symm))) nin0)) ((O0.ext E1).keep K2 (allS g_b1 all0)) SS) rfl rfl rfl pd_11 rfl dj52_16_23 (by rw [hml]; rfl) rfl (by decide) (by decide) (LB rfl) (by decide) (by decide) fun v3 T3 L3 X3 q3 => ?_
  obtain ⟨b3_bv, rfl, Nq3, K3, sq_b3_bv, Ap3_0⟩ := q3
  have N3 := Fr.app N2 Nq3
  have sz_b3_bv : h0.size ≤ b3_bv := Nat.le_trans (Nat.le_trans (Nat.le_trans (Nat.le_refl _) E1.1) K2.1) sq_b3_bv
  have g_b3_bv : n0 ≤ b3_bv := Nat.le_trans Z0 sz_b3_bv
  refine k_some K (w := (.ref b3_bv)) ?_
  refine m_astore K X3.here hx hby #[.val (.ref a1), .val (.int (0 : Int32)), .val (.int (4 : Int32)), .val (.ref b1), .val (.int (3 : Int32)), .val (.ref b3_bv)] dj52_16_26 rfl rfl rfl ?_
  refine mA K X3.here hx hby dj52_16_28 rfl rfl rfl ?_
  refine mI K X3.here hx hby dj52_16_30 rfl rfl ?_
  refine k_callS K X3 hx hby hZ [(.ref b3_bv), (.int (3 : Int32))] [] hown (W hw 125 rfl) (W hw 126 rfl) (W hw 74 rfl) (W hw 127 rfl) (cgc4_3 l Z a0 hw b3_bv cz vf (BLO c0) (BHI c0) (BLO c1) (BHI c1) (BLO c2) (BHI c2) (BLO c3) (BHI c3) T3.heap n0 (Nat.le_trans Z0 (Nat.le_trans (Nat.le_trans (Nat.le_trans (Nat.le_refl _) E1.1) K2.1) K3.1)) Ap3_0 (((O0.ext E1).keep K2 (allS g_b1 all0)).keep K3 all0) SS) rfl rfl rfl pd_5 rfl dj52_16_32 (by rw [hml]; rfl) rfl (by decide) (by decide) (LB rfl) (by decide) (by decide) fun v4 T4 L4 X4 q4 => ?_
  obtain ⟨rfl, e4, rfl⟩ := q4
  replace X4 := own_px X4
  refine k_some K (w := (.int (GCH (BLO c3) (BHI c3)))) ?_
  refine mP K X4.here hx hby (255 : Int32) dj52_16_35 rfl rfl ?_
  refine m_icmpY K X4.here hx hby (q := 54) dj52_16_38 (tlt (own_rgt c3 hch_3 hg)).2.2.1 (by decide) rfl ?_
  refine mA K X4.here hx hby dj52_16_54 rfl rfl rfl ?_
  exact Go.retO X4 hx hby hlk hret rfl (Or.inr (Or.inr (Or.inr (Or.inr ⟨rfl, rfl, rfl⟩)))) dj52_16_56 (by decide) (by decide) (by rw [e4]; exact ⟨b3_bv, rfl, N3, ((((Keep.refl h0 []).ext E1).trans K2 (allS (Or.inr sz_b1) all0)).trans K3 all0), sz_b3_bv, Ap3_0⟩)
theorem efsi4_3 (m : MethodId) (x0 x1 : Addr) (x2 x3 : Int32) : entryFrame m #[(.ref x0), (.ref x1), (.int x2), (.int x3), .null] 6 = mkF m 0 #[.val (.ref x0), .val (.ref x1), .val (.int x2), .val (.int x3), .val .null, .unset] [] := by first | (simp [entryFrame, mkF, argsToLocals, Value.category]; done) | rfl
theorem csi4_3 (l : Launch) (Z : State) (a0 : Array Value) (hw : ∀ d ∈ tables_1, d.before a0 Z = true) (a1 a2 : Addr) (cz : Int32) (vf : Value) (c0 c1 : Int32) (c2 c3 : Int32) (h0 : Heap) (n0 : Nat) (Z0 : n0 ≤ h0.size) (E_a1 : Exa Z h0 a1 "java/lang/String") (F_value_a1 : Fld Z h0 a1 "java/lang/String" "value" "[B" .null) (F_coder_a1 : Fld Z h0 a1 "java/lang/String" "coder" "B" (.int (0 : Int32))) (A_a2 : Av Z h0 a2 .char [(.int c0), (.int c1), (.int c2), (.int c3)]) (O0 : Old Z n0 h0) (g_a1 : n0 ≤ a1) (SS : SSt Z cz vf) (hl_0 : ¬ ((255 : Int32) < c0)) (hl_1 : ¬ ((255 : Int32) < c1)) (hl_2 : ¬ ((255 : Int32) < c2)) (hg : (255 : Int32) < c3) (hch_0 : nar .char c0 = c0) (hch_1 : nar .char c1 = c1) (hch_2 : nar .char c2 = c2) (hch_3 : nar .char c3 = c3) :
    Con l Z (⟨"java/lang/String", "<init>", "([CIILjava/lang/Void;)V"⟩ : MethodName) jdk_42_method_149_code 6 none ({ frames := 4, cells := 2, slots := 12, locals := 57 } : Room) [] #[(.ref a1), (.ref a2), (.int (0 : Int32)), (.int (4 : Int32)), .null] h0 (fun v h L => ∃ bv : Addr, v = none ∧ Fr n0 L ∧ Keep h0 h [a1] ∧ h0.size ≤ bv ∧ Fld Z h a1 "java/lang/String" "value" "[B" (.ref bv) ∧ Fld Z h a1 "java/lang/String" "coder" "B" (.int (1 : Int32)) ∧ Av Z h bv .byte [(.int (BLO c0)), (.int (BHI c0)), (.int (BLO c1)), (.int (BHI c1)), (.int (BLO c2)), (.int (BHI c2)), (.int (BLO c3)), (.int (BHI c3))]) := by
  refine Con.of (plainFor_of_name pn_java_lang_String) #[.val (.ref a1), .val (.ref a2), .val (.int (0 : Int32)), .val (.int (4 : Int32)), .val .null, .unset] (fun m => efsi4_3 m a1 a2 (0 : Int32) (4 : Int32)) ?_
  intro p e s m below meth c s₁ K hx hby hml hown hnm hret hlk hZ X0 e0
  have N0 := Fr.nil n0
  refine mAN K X0.here hx hby dj42_149_0 rfl rfl rfl ?_
  refine k_initO K X0 hx hby hZ hown (W hw 21 rfl) (W hw 22 rfl) (W hw 23 rfl) e0 dj42_149_1 (by rw [hml]; rfl) rfl (by decide) (LB rfl) fun T1 X1 e1 => ?_
  refine mIN K X1.here hx hby dj42_149_4 rfl rfl ?_
  refine m_ifY K X1.here hx hby (q := 27) dj42_149_5 ((if0 _ _).trans (feq (by decide : ¬ ((4 : Int32) = (0 : Int32)))).2) (by decide) rfl ?_
  refine k_getS K X1 hx hby hZ hown (host := "") (Or.inl (W hw 46 rfl)) Via.refl e1 (SS.cs.ext O0.2) dj42_149_27 rfl fun T2 X2 e2 => ?_
  refine m_ifN K X2.here hx hby (q := 33) dj42_149_30 ((if0 _ _).trans (feq SS.cz).1) rfl ?_
  refine mAN K X2.here hx hby dj42_149_33 rfl rfl rfl ?_
  refine mIN K X2.here hx hby dj42_149_34 rfl rfl ?_
  refine mIN K X2.here hx hby dj42_149_35 rfl rfl ?_
  refine k_callS K X2 hx hby hZ [(.ref a2), (.int (0 : Int32)), (.int (4 : Int32))] [] hown (W hw 72 rfl) (W hw 73 rfl) (W hw 74 rfl) (W hw 75 rfl) (cct4_3 l Z a0 hw a2 cz vf c0 c1 c2 c3 h0 n0 Z0 A_a2 O0 SS hl_0 hl_1 hl_2 hg hch_0 hch_1 hch_2 hch_3) e2 rfl rfl pd_11 rfl dj42_149_36 (by rw [hml]; rfl) rfl (by decide) (by decide) (LB rfl) (by decide) (by decide) fun v3 T3 L3 X3 q3 => ?_
  obtain ⟨b3_bv, rfl, Nq3, K3, sq_b3_bv, Ap3_0⟩ := q3
  have N3 := Fr.app N0 Nq3
  have sz_b3_bv : h0.size ≤ b3_bv := Nat.le_trans (Nat.le_refl _) sq_b3_bv
  have g_b3_bv : n0 ≤ b3_bv := Nat.le_trans Z0 sz_b3_bv
  refine k_some K (w := (.ref b3_bv)) ?_
  refine m_astore K X3.here hx hby #[.val (.ref a1), .val (.ref a2), .val (.int (0 : Int32)), .val (.int (4 : Int32)), .val .null, .val (.ref b3_bv)] dj42_149_39 rfl rfl rfl ?_
  refine mAN K X3.here hx hby dj42_149_41 rfl rfl rfl ?_
  refine mA K X3.here hx hby dj42_149_42 rfl rfl rfl ?_
  refine mIN K X3.here hx hby dj42_149_44 rfl rfl ?_
  refine k_callS K X3 hx hby hZ [(.ref b3_bv), (.int (4 : Int32))] [(.ref a1)] hown (W hw 79 rfl) (W hw 80 rfl) (W hw 74 rfl) (W hw 81 rfl) (ccc4_8 l Z a0 hw b3_bv cz vf (BLO c0) (BHI c0) (BLO c1) (BHI c1) (BLO c2) (BHI c2) (BLO c3) (BHI c3) T3.heap n0 (Nat.le_trans Z0 (Nat.le_trans (Nat.le_refl _) K3.1)) Ap3_0 (O0.keep K3 all0) SS) rfl rfl rfl pd_12 rfl dj42_149_45 (by rw [hml]; rfl) rfl (by decide) (by decide) (LB rfl) (by decide) (by decide) fun v4 T4 L4 X4 q4 => ?_
  obtain ⟨rfl, e4, rfl⟩ := q4
  replace X4 := own_px X4
  refine k_some K (w := (.int (1 : Int32))) ?_
  refine k_putF K X4 hx hby hZ hown (host := "") (Or.inl (W hw 31 rfl)) Via.refl e4 (F_coder_a1.keep K3 nin0) (E_a1.keep K3) (Or.inr ⟨(W hw 27 rfl), rfl, hnm⟩) (W hw 11 rfl) (ty := .byte) (by decide) (by decide) (by decide) dj42_149_48 rfl fun T5 h5 X5 e5 W5 => ?_
  have Fw5 := (F_coder_a1.keep K3 nin0).same W5
  have N5 := Fr.snoc X5 N3 g_a1
  refine mAN K X5.here hx hby dj42_149_51 rfl rfl rfl ?_
  refine mA K X5.here hx hby dj42_149_52 rfl rfl rfl ?_
  refine k_putF K X5 hx hby hZ hown (host := "") (Or.inl (W hw 30 rfl)) Via.refl e5 ((F_value_a1.keep K3 nin0).other W5 (Or.inr (slot_ne (Or.inr (W hw 26 rfl)) (Or.inr (W hw 27 rfl)) (by decide) (t := (.array .byte)) (t' := .byte) (by decide) (by decide)))) ((E_a1.keep K3).wr W5) (Or.inr ⟨(W hw 26 rfl), rfl, hnm⟩) (W hw 11 rfl) (ty := (.array .byte)) (by decide) rfl rfl dj42_149_54 rfl fun T6 h6 X6 e6 W6 => ?_
  have Fw6 := ((F_value_a1.keep K3 nin0).other W5 (Or.inr (slot_ne (Or.inr (W hw 26 rfl)) (Or.inr (W hw 27 rfl)) (by decide) (t := (.array .byte)) (t' := .byte) (by decide) (by decide)))).same W6
  have N6 := Fr.snoc X6 N5 g_a1
  exact Go.retV X6 hx hby hlk hret dj42_149_57 (by decide) (by decide) (by rw [e6]; exact ⟨b3_bv, rfl, N6, ((((Keep.refl h0 [a1]).trans K3 all0).wr W5 (Or.inl (by simp))).wr W6 (Or.inl (by simp))), sz_b3_bv, Fw6, (Fw5.other W6 (Or.inr (slot_ne (Or.inr (W hw 27 rfl)) (Or.inr (W hw 26 rfl)) (by decide) (t := .byte) (t' := (.array .byte)) (by decide) (by decide)))), ((Ap3_0.other W5 (Ne.symm (Nat.ne_of_lt (Nat.lt_of_lt_of_le (Nat.lt_of_lt_of_le E_a1.lt (Nat.le_refl _)) sq_b3_bv)))).other W6 (Ne.symm (Nat.ne_of_lt (Nat.lt_of_lt_of_le (Nat.lt_of_lt_of_le E_a1.lt (Nat.le_refl _)) sq_b3_bv))))⟩)
theorem efsj4_3 (m : MethodId) (x0 x1 : Addr) : entryFrame m #[(.ref x0), (.ref x1)] 2 = mkF m 0 #[.val (.ref x0), .val (.ref x1)] [] := by first | (simp [entryFrame, mkF, argsToLocals, Value.category]; done) | rfl
theorem csj4_3 (l : Launch) (Z : State) (a0 : Array Value) (hw : ∀ d ∈ tables_1, d.before a0 Z = true) (a1 a2 : Addr) (cz : Int32) (vf : Value) (c0 c1 : Int32) (c2 c3 : Int32) (h0 : Heap) (n0 : Nat) (Z0 : n0 ≤ h0.size) (E_a1 : Exa Z h0 a1 "java/lang/String") (F_value_a1 : Fld Z h0 a1 "java/lang/String" "value" "[B" .null) (F_coder_a1 : Fld Z h0 a1 "java/lang/String" "coder" "B" (.int (0 : Int32))) (A_a2 : Av Z h0 a2 .char [(.int c0), (.int c1), (.int c2), (.int c3)]) (O0 : Old Z n0 h0) (g_a1 : n0 ≤ a1) (SS : SSt Z cz vf) (hl_0 : ¬ ((255 : Int32) < c0)) (hl_1 : ¬ ((255 : Int32) < c1)) (hl_2 : ¬ ((255 : Int32) < c2)) (hg : (255 : Int32) < c3) (hch_0 : nar .char c0 = c0) (hch_1 : nar .char c1 = c1) (hch_2 : nar .char c2 = c2) (hch_3 : nar .char c3 = c3) :
    Con l Z (⟨"java/lang/String", "<init>", "([C)V"⟩ : MethodName) jdk_42_method_3_code 2 none ({ frames := 5, cells := 2, slots := 12, locals := 74 } : Room) [] #[(.ref a1), (.ref a2)] h0 (fun v h L => ∃ bv : Addr, v = none ∧ Fr n0 L ∧ Keep h0 h [a1] ∧ h0.size ≤ bv ∧ Fld Z h a1 "java/lang/String" "value" "[B" (.ref bv) ∧ Fld Z h a1 "java/lang/String" "coder" "B" (.int (1 : Int32)) ∧ Av Z h bv .byte [(.int (BLO c0)), (.int (BHI c0)), (.int (BLO c1)), (.int (BHI c1)), (.int (BLO c2)), (.int (BHI c2)), (.int (BLO c3)), (.int (BHI c3))]) := by
  refine Con.of (plainFor_of_name pn_java_lang_String) #[.val (.ref a1), .val (.ref a2)] (fun m => efsj4_3 m a1 a2) ?_
  intro p e s m below meth c s₁ K hx hby hml hown hnm hret hlk hZ X0 e0
  have N0 := Fr.nil n0
  refine mAN K X0.here hx hby dj42_3_0 rfl rfl rfl ?_
  refine mAN K X0.here hx hby dj42_3_1 rfl rfl rfl ?_
  refine mC K X0.here hx hby (0 : Int32) dj42_3_2 rfl rfl ?_
  refine mAN K X0.here hx hby dj42_3_3 rfl rfl rfl ?_
  refine k_len K X0 hx hby hZ (4 : Int32) e0 A_a2 rfl dj42_3_4 rfl ?_
  refine m_null K X0.here hx hby dj42_3_5 rfl ?_
  refine k_callP K X0 hx hby hZ a1 [(.ref a2), (.int (0 : Int32)), (.int (4 : Int32)), .null] [] hown (W hw 17 rfl) (W hw 18 rfl) (W hw 12 rfl) (W hw 20 rfl) rfl (csi4_3 l Z a0 hw a1 a2 cz vf c0 c1 c2 c3 h0 n0 Z0 E_a1 F_value_a1 F_coder_a1 A_a2 O0 g_a1 SS hl_0 hl_1 hl_2 hg hch_0 hch_1 hch_2 hch_3) e0 rfl rfl pd_13 rfl dj42_3_6 (by rw [hml]; rfl) rfl (by decide) (by decide) (LB rfl) (by decide) (by decide) fun v1 T1 L1 X1 q1 => ?_
  obtain ⟨b1_bv, rfl, Nq1, K1, sq_b1_bv, Fp1_0, Fp1_1, Ap1_0⟩ := q1
  have N1 := Fr.app N0 Nq1
  have sz_b1_bv : h0.size ≤ b1_bv := Nat.le_trans (Nat.le_refl _) sq_b1_bv
  have g_b1_bv : n0 ≤ b1_bv := Nat.le_trans Z0 sz_b1_bv
  refine k_none K ?_
  exact Go.retV X1 hx hby hlk hret dj42_3_9 (by decide) (by decide) (⟨b1_bv, rfl, N1, ((Keep.refl h0 [a1]).trans K1 (allS (Or.inl (by simp)) all0)), sz_b1_bv, Fp1_0, Fp1_1, Ap1_0⟩)
theorem efcf4_4 (m : MethodId) (x0 : Addr) (x1 : Int32) (x2 : Addr) (x3 x4 : Int32) : entryFrame m #[(.ref x0), (.int x1), (.ref x2), (.int x3), (.int x4)] 7 = mkF m 0 #[.val (.ref x0), .val (.int x1), .val (.ref x2), .val (.int x3), .val (.int x4), .unset, .unset] [] := by first | (simp [entryFrame, mkF, argsToLocals, Value.category]; done) | rfl
theorem ccf4_4 (l : Launch) (Z : State) (a0 : Array Value) (hw : ∀ d ∈ tables_1, d.before a0 Z = true) (a1 a3 : Addr) (cz : Int32) (vf : Value) (c0 c1 : Int32) (c2 c3 : Int32) (h0 : Heap) (n0 : Nat) (Z0 : n0 ≤ h0.size) (A_a1 : Av Z h0 a1 .char [(.int c0), (.int c1), (.int c2), (.int c3)]) (A_a3 : Av Z h0 a3 .byte [(.int (0 : Int32)), (.int (0 : Int32)), (.int (0 : Int32)), (.int (0 : Int32))]) (O0 : Old Z n0 h0) (g_a3 : n0 ≤ a3) (ne_a1_a3 : a1 ≠ a3) (SS : SSt Z cz vf) (hl_0 : ¬ ((255 : Int32) < c0)) (hl_1 : ¬ ((255 : Int32) < c1)) (hl_2 : ¬ ((255 : Int32) < c2)) (hl_3 : ¬ ((255 : Int32) < c3)) :
    Con l Z (⟨"java/lang/StringUTF16", "compress", "([CI[BII)I"⟩ : MethodName) jdk_52_method_21_code 7 (some .int) ({ frames := 0, cells := 0, slots := 0, locals := 0 } : Room) [] #[(.ref a1), (.int (0 : Int32)), (.ref a3), (.int (0 : Int32)), (.int (4 : Int32))] h0 (fun v h L => v = some (.int (4 : Int32)) ∧ Fr n0 L ∧ Keep h0 h [a3] ∧ Av Z h a3 .byte [(.int (nar .byte (c0.toInt8.toInt32))), (.int (nar .byte (c1.toInt8.toInt32))), (.int (nar .byte (c2.toInt8.toInt32))), (.int (nar .byte (c3.toInt8.toInt32)))]) := by
  refine Con.of (plainFor_of_name pn_java_lang_StringUTF16) #[.val (.ref a1), .val (.int (0 : Int32)), .val (.ref a3), .val (.int (0 : Int32)), .val (.int (4 : Int32)), .unset, .unset] (fun m => efcf4_4 m a1 (0 : Int32) a3 (0 : Int32) (4 : Int32)) ?_
  intro p e s m below meth c s₁ K hx hby hml hown hnm hret hlk hZ X0 e0
  have N0 := Fr.nil n0
  refine mC K X0.here hx hby (0 : Int32) dj52_21_0 rfl rfl ?_
  refine mS K X0.here hx hby #[.val (.ref a1), .val (.int (0 : Int32)), .val (.ref a3), .val (.int (0 : Int32)), .val (.int (4 : Int32)), .val (.int (0 : Int32)), .unset] dj52_21_1 rfl rfl ?_
  refine mI K X0.here hx hby dj52_21_3 rfl rfl ?_
  refine mI K X0.here hx hby dj52_21_5 rfl rfl ?_
  refine m_icmpN K X0.here hx hby (q := 10) dj52_21_7 (tlt (by decide : (0 : Int32) < (4 : Int32))).2.1 rfl ?_
  refine mAN K X0.here hx hby dj52_21_10 rfl rfl rfl ?_
  refine mIN K X0.here hx hby dj52_21_11 rfl rfl ?_
  refine k_ldC K X0 hx hby hZ e0 A_a1 (v := (.int c0)) (by decide) rfl dj52_21_12 rfl ?_
  refine mS K X0.here hx hby #[.val (.ref a1), .val (.int (0 : Int32)), .val (.ref a3), .val (.int (0 : Int32)), .val (.int (4 : Int32)), .val (.int (0 : Int32)), .val (.int c0)] dj52_21_13 rfl rfl ?_
  refine mI K X0.here hx hby dj52_21_15 rfl rfl ?_
  refine mP K X0.here hx hby (255 : Int32) dj52_21_17 rfl rfl ?_
  refine m_icmpY K X0.here hx hby (q := 26) dj52_21_20 (flt hl_0).2.2.2 (by decide) rfl ?_
  refine mAN K X0.here hx hby dj52_21_26 rfl rfl rfl ?_
  refine mIN K X0.here hx hby dj52_21_27 rfl rfl ?_
  refine mI K X0.here hx hby dj52_21_28 rfl rfl ?_
  refine m_i2b K X0.here hx hby (c0.toInt8.toInt32) dj52_21_30 rfl rfl ?_
  refine k_stB K X0 hx hby hZ e0 A_a3 (by decide) (LB rfl) dj52_21_31 rfl fun T1 h1 X1 e1 W1 V1 => ?_
  replace V1 : Av Z h1 a3 .byte [(.int (nar .byte (c0.toInt8.toInt32))), (.int (0 : Int32)), (.int (0 : Int32)), (.int (0 : Int32))] := V1
  have N1 := Fr.snoc X1 N0 g_a3
  refine mJ K X1.here hx hby #[.val (.ref a1), .val (.int (1 : Int32)), .val (.ref a3), .val (.int (0 : Int32)), .val (.int (4 : Int32)), .val (.int (0 : Int32)), .val (.int c0)] dj52_21_32 rfl rfl rfl ?_
  refine mJ K X1.here hx hby #[.val (.ref a1), .val (.int (1 : Int32)), .val (.ref a3), .val (.int (1 : Int32)), .val (.int (4 : Int32)), .val (.int (0 : Int32)), .val (.int c0)] dj52_21_35 rfl rfl rfl ?_
  refine mJ K X1.here hx hby #[.val (.ref a1), .val (.int (1 : Int32)), .val (.ref a3), .val (.int (1 : Int32)), .val (.int (4 : Int32)), .val (.int (1 : Int32)), .val (.int c0)] dj52_21_38 rfl rfl rfl ?_
  refine m_goto K X1.here hx hby (q := 3) dj52_21_41 (by decide) rfl ?_
  refine mI K X1.here hx hby dj52_21_3 rfl rfl ?_
  refine mI K X1.here hx hby dj52_21_5 rfl rfl ?_
  refine m_icmpN K X1.here hx hby (q := 10) dj52_21_7 (tlt (by decide : (1 : Int32) < (4 : Int32))).2.1 rfl ?_
  refine mAN K X1.here hx hby dj52_21_10 rfl rfl rfl ?_
  refine mIN K X1.here hx hby dj52_21_11 rfl rfl ?_
  refine k_ldC K X1 hx hby hZ e1 (A_a1.other W1 ne_a1_a3) (v := (.int c1)) (by decide) rfl dj52_21_12 rfl ?_
  refine mS K X1.here hx hby #[.val (.ref a1), .val (.int (1 : Int32)), .val (.ref a3), .val (.int (1 : Int32)), .val (.int (4 : Int32)), .val (.int (1 : Int32)), .val (.int c1)] dj52_21_13 rfl rfl ?_
  refine mI K X1.here hx hby dj52_21_15 rfl rfl ?_
  refine mP K X1.here hx hby (255 : Int32) dj52_21_17 rfl rfl ?_
  refine m_icmpY K X1.here hx hby (q := 26) dj52_21_20 (flt hl_1).2.2.2 (by decide) rfl ?_
  refine mAN K X1.here hx hby dj52_21_26 rfl rfl rfl ?_
  refine mIN K X1.here hx hby dj52_21_27 rfl rfl ?_
  refine mI K X1.here hx hby dj52_21_28 rfl rfl ?_
  refine m_i2b K X1.here hx hby (c1.toInt8.toInt32) dj52_21_30 rfl rfl ?_
  refine k_stB K X1 hx hby hZ e1 V1 (by decide) (LB rfl) dj52_21_31 rfl fun T2 h2 X2 e2 W2 V2 => ?_
  replace V2 : Av Z h2 a3 .byte [(.int (nar .byte (c0.toInt8.toInt32))), (.int (nar .byte (c1.toInt8.toInt32))), (.int (0 : Int32)), (.int (0 : Int32))] := V2
  have N2 := Fr.snoc X2 N1 g_a3
  refine mJ K X2.here hx hby #[.val (.ref a1), .val (.int (2 : Int32)), .val (.ref a3), .val (.int (1 : Int32)), .val (.int (4 : Int32)), .val (.int (1 : Int32)), .val (.int c1)] dj52_21_32 rfl rfl rfl ?_
  refine mJ K X2.here hx hby #[.val (.ref a1), .val (.int (2 : Int32)), .val (.ref a3), .val (.int (2 : Int32)), .val (.int (4 : Int32)), .val (.int (1 : Int32)), .val (.int c1)] dj52_21_35 rfl rfl rfl ?_
  refine mJ K X2.here hx hby #[.val (.ref a1), .val (.int (2 : Int32)), .val (.ref a3), .val (.int (2 : Int32)), .val (.int (4 : Int32)), .val (.int (2 : Int32)), .val (.int c1)] dj52_21_38 rfl rfl rfl ?_
  refine m_goto K X2.here hx hby (q := 3) dj52_21_41 (by decide) rfl ?_
  refine mI K X2.here hx hby dj52_21_3 rfl rfl ?_
  refine mI K X2.here hx hby dj52_21_5 rfl rfl ?_
  refine m_icmpN K X2.here hx hby (q := 10) dj52_21_7 (tlt (by decide : (2 : Int32) < (4 : Int32))).2.1 rfl ?_
  refine mAN K X2.here hx hby dj52_21_10 rfl rfl rfl ?_
  refine mIN K X2.here hx hby dj52_21_11 rfl rfl ?_
  refine k_ldC K X2 hx hby hZ e2 ((A_a1.other W1 ne_a1_a3).other W2 ne_a1_a3) (v := (.int c2)) (by decide) rfl dj52_21_12 rfl ?_
  refine mS K X2.here hx hby #[.val (.ref a1), .val (.int (2 : Int32)), .val (.ref a3), .val (.int (2 : Int32)), .val (.int (4 : Int32)), .val (.int (2 : Int32)), .val (.int c2)] dj52_21_13 rfl rfl ?_
  refine mI K X2.here hx hby dj52_21_15 rfl rfl ?_
  refine mP K X2.here hx hby (255 : Int32) dj52_21_17 rfl rfl ?_
  refine m_icmpY K X2.here hx hby (q := 26) dj52_21_20 (flt hl_2).2.2.2 (by decide) rfl ?_
  refine mAN K X2.here hx hby dj52_21_26 rfl rfl rfl ?_
  refine mIN K X2.here hx hby dj52_21_27 rfl rfl ?_
  refine mI K X2.here hx hby dj52_21_28 rfl rfl ?_
  refine m_i2b K X2.here hx hby (c2.toInt8.toInt32) dj52_21_30 rfl rfl ?_
  refine k_stB K X2 hx hby hZ e2 V2 (by decide) (LB rfl) dj52_21_31 rfl fun T3 h3 X3 e3 W3 V3 => ?_
  replace V3 : Av Z h3 a3 .byte [(.int (nar .byte (c0.toInt8.toInt32))), (.int (nar .byte (c1.toInt8.toInt32))), (.int (nar .byte (c2.toInt8.toInt32))), (.int (0 : Int32))] := V3
  have N3 := Fr.snoc X3 N2 g_a3
  refine mJ K X3.here hx hby #[.val (.ref a1), .val (.int (3 : Int32)), .val (.ref a3), .val (.int (2 : Int32)), .val (.int (4 : Int32)), .val (.int (2 : Int32)), .val (.int c2)] dj52_21_32 rfl rfl rfl ?_
  refine mJ K X3.here hx hby #[.val (.ref a1), .val (.int (3 : Int32)), .val (.ref a3), .val (.int (3 : Int32)), .val (.int (4 : Int32)), .val (.int (2 : Int32)), .val (.int c2)] dj52_21_35 rfl rfl rfl ?_
  refine mJ K X3.here hx hby #[.val (.ref a1), .val (.int (3 : Int32)), .val (.ref a3), .val (.int (3 : Int32)), .val (.int (4 : Int32)), .val (.int (3 : Int32)), .val (.int c2)] dj52_21_38 rfl rfl rfl ?_
  refine m_goto K X3.here hx hby (q := 3) dj52_21_41 (by decide) rfl ?_
  refine mI K X3.here hx hby dj52_21_3 rfl rfl ?_
  refine mI K X3.here hx hby dj52_21_5 rfl rfl ?_
  refine m_icmpN K X3.here hx hby (q := 10) dj52_21_7 (tlt (by decide : (3 : Int32) < (4 : Int32))).2.1 rfl ?_
  refine mAN K X3.here hx hby dj52_21_10 rfl rfl rfl ?_
  refine mIN K X3.here hx hby dj52_21_11 rfl rfl ?_
  refine k_ldC K X3 hx hby hZ e3 (((A_a1.other W1 ne_a1_a3).other W2 ne_a1_a3).other W3 ne_a1_a3) (v := (.int c3)) (by decide) rfl dj52_21_12 rfl ?_
  refine mS K X3.here hx hby #[.val (.ref a1), .val (.int (3 : Int32)), .val (.ref a3), .val (.int (3 : Int32)), .val (.int (4 : Int32)), .val (.int (3 : Int32)), .val (.int c3)] dj52_21_13 rfl rfl ?_
  refine mI K X3.here hx hby dj52_21_15 rfl rfl ?_
  refine mP K X3.here hx hby (255 : Int32) dj52_21_17 rfl rfl ?_
  refine m_icmpY K X3.here hx hby (q := 26) dj52_21_20 (flt hl_3).2.2.2 (by decide) rfl ?_
  refine mAN K X3.here hx hby dj52_21_26 rfl rfl rfl ?_
  refine mIN K X3.here hx hby dj52_21_27 rfl rfl ?_
  refine mI K X3.here hx hby dj52_21_28 rfl rfl ?_
  refine m_i2b K X3.here hx hby (c3.toInt8.toInt32) dj52_21_30 rfl rfl ?_
  refine k_stB K X3 hx hby hZ e3 V3 (by decide) (LB rfl) dj52_21_31 rfl fun T4 h4 X4 e4 W4 V4 => ?_
  replace V4 : Av Z h4 a3 .byte [(.int (nar .byte (c0.toInt8.toInt32))), (.int (nar .byte (c1.toInt8.toInt32))), (.int (nar .byte (c2.toInt8.toInt32))), (.int (nar .byte (c3.toInt8.toInt32)))] := V4
  have N4 := Fr.snoc X4 N3 g_a3
  refine mJ K X4.here hx hby #[.val (.ref a1), .val (.int (4 : Int32)), .val (.ref a3), .val (.int (3 : Int32)), .val (.int (4 : Int32)), .val (.int (3 : Int32)), .val (.int c3)] dj52_21_32 rfl rfl rfl ?_
  refine mJ K X4.here hx hby #[.val (.ref a1), .val (.int (4 : Int32)), .val (.ref a3), .val (.int (4 : Int32)), .val (.int (4 : Int32)), .val (.int (3 : Int32)), .val (.int c3)] dj52_21_35 rfl rfl rfl ?_
  refine mJ K X4.here hx hby #[.val (.ref a1), .val (.int (4 : Int32)), .val (.ref a3), .val (.int (4 : Int32)), .val (.int (4 : Int32)), .val (.int (4 : Int32)), .val (.int c3)] dj52_21_38 rfl rfl rfl ?_
  refine m_goto K X4.here hx hby (q := 3) dj52_21_41 (by decide) rfl ?_
  refine mI K X4.here hx hby dj52_21_3 rfl rfl ?_
  refine mI K X4.here hx hby dj52_21_5 rfl rfl ?_
  refine m_icmpY K X4.here hx hby (q := 44) dj52_21_7 (flt (by decide : ¬ ((4 : Int32) < (4 : Int32)))).2.1 (by decide) rfl ?_
  refine mI K X4.here hx hby dj52_21_44 rfl rfl ?_
  exact Go.retI X4 hx hby hlk hret dj52_21_46 (by decide) (by decide) (by rw [e4]; exact ⟨rfl, N4, (((((Keep.refl h0 [a3]).wr W1 (Or.inl (by simp))).wr W2 (Or.inl (by simp))).wr W3 (Or.inl (by simp))).wr W4 (Or.inl (by simp))), V4⟩)
theorem efct4_4 (m : MethodId) (x0 : Addr) (x1 x2 : Int32) : entryFrame m #[(.ref x0), (.int x1), (.int x2)] 6 = mkF m 0 #[.val (.ref x0), .val (.int x1), .val (.int x2), .unset, .unset, .unset] [] := by first | (simp [entryFrame, mkF, argsToLocals, Value.category]; done) | rfl
theorem cct4_4 (l : Launch) (Z : State) (a0 : Array Value) (hw : ∀ d ∈ tables_1, d.before a0 Z = true) (a1 : Addr) (cz : Int32) (vf : Value) (c0 c1 : Int32) (c2 c3 : Int32) (h0 : Heap) (n0 : Nat) (Z0 : n0 ≤ h0.size) (A_a1 : Av Z h0 a1 .char [(.int c0), (.int c1), (.int c2), (.int c3)]) (O0 : Old Z n0 h0) (SS : SSt Z cz vf) (hl_0 : ¬ ((255 : Int32) < c0)) (hl_1 : ¬ ((255 : Int32) < c1)) (hl_2 : ¬ ((255 : Int32) < c2)) (hl_3 : ¬ ((255 : Int32) < c3)) :
    Con l Z (⟨"java/lang/StringUTF16", "compress", "([CII)[B"⟩ : MethodName) jdk_52_method_16_code 6 (some (.array .byte)) ({ frames := 1, cells := 1, slots := 4, locals := 18 } : Room) [] #[(.ref a1), (.int (0 : Int32)), (.int (4 : Int32))] h0 (fun v h L => ∃ bv : Addr, v = some (.ref bv) ∧ Fr n0 L ∧ Keep h0 h [] ∧ h0.size ≤ bv ∧ Av Z h bv .byte [(.int (nar .byte (c0.toInt8.toInt32))), (.int (nar .byte (c1.toInt8.toInt32))), (.int (nar .byte (c2.toInt8.toInt32))), (.int (nar .byte (c3.toInt8.toInt32)))]) := by
  refine Con.of (plainFor_of_name pn_java_lang_StringUTF16) #[.val (.ref a1), .val (.int (0 : Int32)), .val (.int (4 : Int32)), .unset, .unset, .unset] (fun m => efct4_4 m a1 (0 : Int32) (4 : Int32)) ?_
  intro p e s m below meth c s₁ K hx hby hml hown hnm hret hlk hZ X0 e0
  have N0 := Fr.nil n0
  refine mIN K X0.here hx hby dj52_16_0 rfl rfl ?_
  refine k_newP K X0 hx hby hZ 4 4 (W hw 25 rfl) e0 dj52_16_1 rfl (by decide) rfl (by decide) (by decide) (by decide) (by decide) fun T1 h1 b1 X1 e1 E1 g1 V_b1 => ?_
  have sz_b1 : h0.size ≤ b1 := Nat.le_trans (Nat.le_refl _) (Nat.le_of_eq g1.symm)
  have g_b1 : n0 ≤ b1 := Nat.le_trans Z0 sz_b1
  replace V_b1 : Av Z h1 b1 .byte [(.int (0 : Int32)), (.int (0 : Int32)), (.int (0 : Int32)), (.int (0 : Int32))] := V_b1
  refine m_astoreN K X1.here hx hby #[.val (.ref a1), .val (.int (0 : Int32)), .val (.int (4 : Int32)), .val (.ref b1), .unset, .unset] dj52_16_3 rfl rfl rfl ?_
  refine mAN K X1.here hx hby dj52_16_4 rfl rfl rfl ?_
  refine mIN K X1.here hx hby dj52_16_5 rfl rfl ?_
  refine mAN K X1.here hx hby dj52_16_6 rfl rfl rfl ?_
  refine mC K X1.here hx hby (0 : Int32) dj52_16_7 rfl rfl ?_
  refine mIN K X1.here hx hby dj52_16_8 rfl rfl ?_
  refine k_callS K X1 hx hby hZ [(.ref a1), (.int (0 : Int32)), (.ref b1), (.int (0 : Int32)), (.int (4 : Int32))] [] hown (W hw 76 rfl) (W hw 77 rfl) (W hw 74 rfl) (W hw 78 rfl) (ccf4_4 l Z a0 hw a1 b1 cz vf c0 c1 c2 c3 h1 n0 (Nat.le_trans Z0 (Nat.le_trans (Nat.le_refl _) E1.1)) (A_a1.ext E1) V_b1 (O0.ext E1) g_b1 (Nat.ne_of_lt (Nat.lt_of_lt_of_le (Nat.lt_of_lt_of_le A_a1.lt (Nat.le_refl _)) (Nat.le_of_eq g1.symm))) SS hl_0 hl_1 hl_2 hl_3) e1 rfl rfl pd_10 rfl dj52_16_9 (by rw [hml]; rfl) rfl (by decide) (by decide) (LB rfl) (by decide) (by decide) fun v2 T2 L2 X2 q2 => ?_
  obtain ⟨rfl, Nq2, K2, Ap2_0⟩ := q2
  have N2 := Fr.app N0 Nq2
  refine k_some K (w := (.int (4 : Int32))) ?_
  refine mS K X2.here hx hby #[.val (.ref a1), .val (.int (0 : Int32)), .val (.int (4 : Int32)), .val (.ref b1), .val (.int (4 : Int32)), .unset] dj52_16_12 rfl rfl ?_
  refine mI K X2.here hx hby dj52_16_14 rfl rfl ?_
  refine mIN K X2.here hx hby dj52_16_16 rfl rfl ?_
  refine m_icmpY K X2.here hx hby (q := 57) dj52_16_17 (teq (by decide : (4 : Int32) = (4 : Int32))).1 (by decide) rfl ?_
  refine mAN K X2.here hx hby dj52_16_57 rfl rfl rfl ?_
  exact Go.retO X2 hx hby hlk hret rfl (Or.inr (Or.inr (Or.inr (Or.inr ⟨rfl, rfl, rfl⟩)))) dj52_16_58 (by decide) (by decide) (⟨b1, rfl, N2, (((Keep.refl h0 []).ext E1).trans K2 (allS (Or.inr sz_b1) all0)), sz_b1, Ap2_0⟩)
theorem efcc4_4 (m : MethodId) (x0 : Addr) (x1 : Int32) : entryFrame m #[(.ref x0), (.int x1)] 2 = mkF m 0 #[.val (.ref x0), .val (.int x1)] [] := by first | (simp [entryFrame, mkF, argsToLocals, Value.category]; done) | rfl
theorem ccc4_4 (l : Launch) (Z : State) (a0 : Array Value) (hw : ∀ d ∈ tables_1, d.before a0 Z = true) (a1 : Addr) (cz : Int32) (vf : Value) (y0 y1 : Int32) (y2 y3 : Int32) (h0 : Heap) (n0 : Nat) (Z0 : n0 ≤ h0.size) (A_a1 : Av Z h0 a1 .byte [(.int y0), (.int y1), (.int y2), (.int y3)]) (O0 : Old Z n0 h0) (SS : SSt Z cz vf) :
    Con l Z (⟨"java/lang/StringUTF16", "coderFromArrayLen", "([BI)B"⟩ : MethodName) jdk_52_method_15_code 2 (some .byte) ({ frames := 0, cells := 0, slots := 0, locals := 0 } : Room) [] #[(.ref a1), (.int (4 : Int32))] h0 (fun v h L => v = some (.int (0 : Int32)) ∧ h = h0 ∧ L = []) := by
  refine Con.of (plainFor_of_name pn_java_lang_StringUTF16) #[.val (.ref a1), .val (.int (4 : Int32))] (fun m => efcc4_4 m a1 (4 : Int32)) ?_
  intro p e s m below meth c s₁ K hx hby hml hown hnm hret hlk hZ X0 e0
  have N0 := Fr.nil n0
  refine mIN K X0.here hx hby dj52_15_0 rfl rfl ?_
  refine mAN K X0.here hx hby dj52_15_1 rfl rfl rfl ?_
  refine k_len K X0 hx hby hZ (4 : Int32) e0 A_a1 rfl dj52_15_2 rfl ?_
  refine m_isub K X0.here hx hby (0 : Int32) dj52_15_3 rfl rfl ?_
  refine mB K X0.here hx hby (31 : Int32) dj52_15_4 rfl rfl ?_
  refine m_iushr K X0.here hx hby (0 : Int32) dj52_15_6 rfl rfl ?_
  refine m_i2b K X0.here hx hby (0 : Int32) dj52_15_7 rfl rfl ?_
  exact Go.retN X0 hx hby hlk hret (by simp) dj52_15_8 (by decide) (by decide) (by decide) (⟨rfl, e0, rfl⟩)
theorem efsi4_4 (m : MethodId) (x0 x1 : Addr) (x2 x3 : Int32) : entryFrame m #[(.ref x0), (.ref x1), (.int x2), (.int x3), .null] 6 = mkF m 0 #[.val (.ref x0), .val (.ref x1), .val (.int x2), .val (.int x3), .val .null, .unset] [] := by first | (simp [entryFrame, mkF, argsToLocals, Value.category]; done) | rfl
theorem csi4_4 (l : Launch) (Z : State) (a0 : Array Value) (hw : ∀ d ∈ tables_1, d.before a0 Z = true) (a1 a2 : Addr) (cz : Int32) (vf : Value) (c0 c1 : Int32) (c2 c3 : Int32) (h0 : Heap) (n0 : Nat) (Z0 : n0 ≤ h0.size) (E_a1 : Exa Z h0 a1 "java/lang/String") (F_value_a1 : Fld Z h0 a1 "java/lang/String" "value" "[B" .null) (F_coder_a1 : Fld Z h0 a1 "java/lang/String" "coder" "B" (.int (0 : Int32))) (A_a2 : Av Z h0 a2 .char [(.int c0), (.int c1), (.int c2), (.int c3)]) (O0 : Old Z n0 h0) (g_a1 : n0 ≤ a1) (SS : SSt Z cz vf) (hl_0 : ¬ ((255 : Int32) < c0)) (hl_1 : ¬ ((255 : Int32) < c1)) (hl_2 : ¬ ((255 : Int32) < c2)) (hl_3 : ¬ ((255 : Int32) < c3)) :
    Con l Z (⟨"java/lang/String", "<init>", "([CIILjava/lang/Void;)V"⟩ : MethodName) jdk_42_method_149_code 6 none ({ frames := 2, cells := 1, slots := 4, locals := 35 } : Room) [] #[(.ref a1), (.ref a2), (.int (0 : Int32)), (.int (4 : Int32)), .null] h0 (fun v h L => ∃ bv : Addr, v = none ∧ Fr n0 L ∧ Keep h0 h [a1] ∧ h0.size ≤ bv ∧ Fld Z h a1 "java/lang/String" "value" "[B" (.ref bv) ∧ Fld Z h a1 "java/lang/String" "coder" "B" (.int (0 : Int32)) ∧ Av Z h bv .byte [(.int (nar .byte (c0.toInt8.toInt32))), (.int (nar .byte (c1.toInt8.toInt32))), (.int (nar .byte (c2.toInt8.toInt32))), (.int (nar .byte (c3.toInt8.toInt32)))]) := by
  refine Con.of (plainFor_of_name pn_java_lang_String) #[.val (.ref a1), .val (.ref a2), .val (.int (0 : Int32)), .val (.int (4 : Int32)), .val .null, .unset] (fun m => efsi4_4 m a1 a2 (0 : Int32) (4 : Int32)) ?_
  intro p e s m below meth c s₁ K hx hby hml hown hnm hret hlk hZ X0 e0
  have N0 := Fr.nil n0
  refine mAN K X0.here hx hby dj42_149_0 rfl rfl rfl ?_
  refine k_initO K X0 hx hby hZ hown (W hw 21 rfl) (W hw 22 rfl) (W hw 23 rfl) e0 dj42_149_1 (by rw [hml]; rfl) rfl (by decide) (LB rfl) fun T1 X1 e1 => ?_
  refine mIN K X1.here hx hby dj42_149_4 rfl rfl ?_
  refine m_ifY K X1.here hx hby (q := 27) dj42_149_5 ((if0 _ _).trans (feq (by decide : ¬ ((4 : Int32) = (0 : Int32)))).2) (by decide) rfl ?_
  refine k_getS K X1 hx hby hZ hown (host := "") (Or.inl (W hw 46 rfl)) Via.refl e1 (SS.cs.ext O0.2) dj42_149_27 rfl fun T2 X2 e2 => ?_
  refine m_ifN K X2.here hx hby (q := 33) dj42_149_30 ((if0 _ _).trans (feq SS.cz).1) rfl ?_
  refine mAN K X2.here hx hby dj42_149_33 rfl rfl rfl ?_
  refine mIN K X2.here hx hby dj42_149_34 rfl rfl ?_
  refine mIN K X2.here hx hby dj42_149_35 rfl rfl ?_
  refine k_callS K X2 hx hby hZ [(.ref a2), (.int (0 : Int32)), (.int (4 : Int32))] [] hown (W hw 72 rfl) (W hw 73 rfl) (W hw 74 rfl) (W hw 75 rfl) (cct4_4 l Z a0 hw a2 cz vf c0 c1 c2 c3 h0 n0 Z0 A_a2 O0 SS hl_0 hl_1 hl_2 hl_3) e2 rfl rfl pd_11 rfl dj42_149_36 (by rw [hml]; rfl) rfl (by decide) (by decide) (LB rfl) (by decide) (by decide) fun v3 T3 L3 X3 q3 => ?_
  obtain ⟨b3_bv, rfl, Nq3, K3, sq_b3_bv, Ap3_0⟩ := q3
  have N3 := Fr.app N0 Nq3
  have sz_b3_bv : h0.size ≤ b3_bv := Nat.le_trans (Nat.le_refl _) sq_b3_bv
  have g_b3_bv : n0 ≤ b3_bv := Nat.le_trans Z0 sz_b3_bv
  refine k_some K (w := (.ref b3_bv)) ?_
  refine m_astore K X3.here hx hby #[.val (.ref a1), .val (.ref a2), .val (.int (0 : Int32)), .val (.int (4 : Int32)), .val .null, .val (.ref b3_bv)] dj42_149_39 rfl rfl rfl ?_
  refine mAN K X3.here hx hby dj42_149_41 rfl rfl rfl ?_
  refine mA K X3.here hx hby dj42_149_42 rfl rfl rfl ?_
  refine mIN K X3.here hx hby dj42_149_44 rfl rfl ?_
  refine k_callS K X3 hx hby hZ [(.ref b3_bv), (.int (4 : Int32))] [(.ref a1)] hown (W hw 79 rfl) (W hw 80 rfl) (W hw 74 rfl) (W hw 81 rfl) (ccc4_4 l Z a0 hw b3_bv cz vf (nar .byte (c0.toInt8.toInt32)) (nar .byte (c1.toInt8.toInt32)) (nar .byte (c2.toInt8.toInt32)) (nar .byte (c3.toInt8.toInt32)) T3.heap n0 (Nat.le_trans Z0 (Nat.le_trans (Nat.le_refl _) K3.1)) Ap3_0 (O0.keep K3 all0) SS) rfl rfl rfl pd_12 rfl dj42_149_45 (by rw [hml]; rfl) rfl (by decide) (by decide) (LB rfl) (by decide) (by decide) fun v4 T4 L4 X4 q4 => ?_
  obtain ⟨rfl, e4, rfl⟩ := q4
  replace X4 := own_px X4
  refine k_some K (w := (.int (0 : Int32))) ?_
  refine k_putF K X4 hx hby hZ hown (host := "") (Or.inl (W hw 31 rfl)) Via.refl e4 (F_coder_a1.keep K3 nin0) (E_a1.keep K3) (Or.inr ⟨(W hw 27 rfl), rfl, hnm⟩) (W hw 11 rfl) (ty := .byte) (by decide) (by decide) (by decide) dj42_149_48 rfl fun T5 h5 X5 e5 W5 => ?_
  have Fw5 := (F_coder_a1.keep K3 nin0).same W5
  have N5 := Fr.snoc X5 N3 g_a1
  refine mAN K X5.here hx hby dj42_149_51 rfl rfl rfl ?_
  refine mA K X5.here hx hby dj42_149_52 rfl rfl rfl ?_
  refine k_putF K X5 hx hby hZ hown (host := "") (Or.inl (W hw 30 rfl)) Via.refl e5 ((F_value_a1.keep K3 nin0).other W5 (Or.inr (slot_ne (Or.inr (W hw 26 rfl)) (Or.inr (W hw 27 rfl)) (by decide) (t := (.array .byte)) (t' := .byte) (by decide) (by decide)))) ((E_a1.keep K3).wr W5) (Or.inr ⟨(W hw 26 rfl), rfl, hnm⟩) (W hw 11 rfl) (ty := (.array .byte)) (by decide) rfl rfl dj42_149_54 rfl fun T6 h6 X6 e6 W6 => ?_
  have Fw6 := ((F_value_a1.keep K3 nin0).other W5 (Or.inr (slot_ne (Or.inr (W hw 26 rfl)) (Or.inr (W hw 27 rfl)) (by decide) (t := (.array .byte)) (t' := .byte) (by decide) (by decide)))).same W6
  have N6 := Fr.snoc X6 N5 g_a1
  exact Go.retV X6 hx hby hlk hret dj42_149_57 (by decide) (by decide) (by rw [e6]; exact ⟨b3_bv, rfl, N6, ((((Keep.refl h0 [a1]).trans K3 all0).wr W5 (Or.inl (by simp))).wr W6 (Or.inl (by simp))), sz_b3_bv, Fw6, (Fw5.other W6 (Or.inr (slot_ne (Or.inr (W hw 27 rfl)) (Or.inr (W hw 26 rfl)) (by decide) (t := .byte) (t' := (.array .byte)) (by decide) (by decide)))), ((Ap3_0.other W5 (Ne.symm (Nat.ne_of_lt (Nat.lt_of_lt_of_le (Nat.lt_of_lt_of_le E_a1.lt (Nat.le_refl _)) sq_b3_bv)))).other W6 (Ne.symm (Nat.ne_of_lt (Nat.lt_of_lt_of_le (Nat.lt_of_lt_of_le E_a1.lt (Nat.le_refl _)) sq_b3_bv))))⟩)
theorem efsj4_4 (m : MethodId) (x0 x1 : Addr) : entryFrame m #[(.ref x0), (.ref x1)] 2 = mkF m 0 #[.val (.ref x0), .val (.ref x1)] [] := by first | (simp [entryFrame, mkF, argsToLocals, Value.category]; done) | rfl
theorem csj4_4 (l : Launch) (Z : State) (a0 : Array Value) (hw : ∀ d ∈ tables_1, d.before a0 Z = true) (a1 a2 : Addr) (cz : Int32) (vf : Value) (c0 c1 : Int32) (c2 c3 : Int32) (h0 : Heap) (n0 : Nat) (Z0 : n0 ≤ h0.size) (E_a1 : Exa Z h0 a1 "java/lang/String") (F_value_a1 : Fld Z h0 a1 "java/lang/String" "value" "[B" .null) (F_coder_a1 : Fld Z h0 a1 "java/lang/String" "coder" "B" (.int (0 : Int32))) (A_a2 : Av Z h0 a2 .char [(.int c0), (.int c1), (.int c2), (.int c3)]) (O0 : Old Z n0 h0) (g_a1 : n0 ≤ a1) (SS : SSt Z cz vf) (hl_0 : ¬ ((255 : Int32) < c0)) (hl_1 : ¬ ((255 : Int32) < c1)) (hl_2 : ¬ ((255 : Int32) < c2)) (hl_3 : ¬ ((255 : Int32) < c3)) :
    Con l Z (⟨"java/lang/String", "<init>", "([C)V"⟩ : MethodName) jdk_42_method_3_code 2 none ({ frames := 5, cells := 2, slots := 12, locals := 74 } : Room) [] #[(.ref a1), (.ref a2)] h0 (fun v h L => ∃ bv : Addr, v = none ∧ Fr n0 L ∧ Keep h0 h [a1] ∧ h0.size ≤ bv ∧ Fld Z h a1 "java/lang/String" "value" "[B" (.ref bv) ∧ Fld Z h a1 "java/lang/String" "coder" "B" (.int (0 : Int32)) ∧ Av Z h bv .byte [(.int (nar .byte (c0.toInt8.toInt32))), (.int (nar .byte (c1.toInt8.toInt32))), (.int (nar .byte (c2.toInt8.toInt32))), (.int (nar .byte (c3.toInt8.toInt32)))]) := by
  refine Con.of (plainFor_of_name pn_java_lang_String) #[.val (.ref a1), .val (.ref a2)] (fun m => efsj4_4 m a1 a2) ?_
  intro p e s m below meth c s₁ K hx hby hml hown hnm hret hlk hZ X0 e0
  have N0 := Fr.nil n0
  refine mAN K X0.here hx hby dj42_3_0 rfl rfl rfl ?_
  refine mAN K X0.here hx hby dj42_3_1 rfl rfl rfl ?_
  refine mC K X0.here hx hby (0 : Int32) dj42_3_2 rfl rfl ?_
  refine mAN K X0.here hx hby dj42_3_3 rfl rfl rfl ?_
  refine k_len K X0 hx hby hZ (4 : Int32) e0 A_a2 rfl dj42_3_4 rfl ?_
  refine m_null K X0.here hx hby dj42_3_5 rfl ?_
  refine k_callP K X0 hx hby hZ a1 [(.ref a2), (.int (0 : Int32)), (.int (4 : Int32)), .null] [] hown (W hw 17 rfl) (W hw 18 rfl) (W hw 12 rfl) (W hw 20 rfl) rfl (csi4_4 l Z a0 hw a1 a2 cz vf c0 c1 c2 c3 h0 n0 Z0 E_a1 F_value_a1 F_coder_a1 A_a2 O0 g_a1 SS hl_0 hl_1 hl_2 hl_3) e0 rfl rfl pd_13 rfl dj42_3_6 (by rw [hml]; rfl) rfl (by decide) (by decide) (LB rfl) (by decide) (by decide) fun v1 T1 L1 X1 q1 => ?_
  obtain ⟨b1_bv, rfl, Nq1, K1, sq_b1_bv, Fp1_0, Fp1_1, Ap1_0⟩ := q1
  have N1 := Fr.app N0 Nq1
  have sz_b1_bv : h0.size ≤ b1_bv := Nat.le_trans (Nat.le_refl _) sq_b1_bv
  have g_b1_bv : n0 ≤ b1_bv := Nat.le_trans Z0 sz_b1_bv
  refine k_none K ?_
  exact Go.retV X1 hx hby hlk hret dj42_3_9 (by decide) (by decide) (⟨b1_bv, rfl, N1, ((Keep.refl h0 [a1]).trans K1 (allS (Or.inl (by simp)) all0)), sz_b1_bv, Fp1_0, Fp1_1, Ap1_0⟩)
theorem dj42_149_8 : decode jdk_42_method_149_code 8 = .ok (.aload_n 0, 1) := by decide +kernel
theorem dj42_149_9 : decode jdk_42_method_149_code 9 = .ok (.ldc 7, 2) := by decide +kernel
theorem dj42_149_11 : decode jdk_42_method_149_code 11 = .ok (.getfield 9, 3) := by decide +kernel
theorem dj42_149_14 : decode jdk_42_method_149_code 14 = .ok (.putfield 9, 3) := by decide +kernel
theorem dj42_149_17 : decode jdk_42_method_149_code 17 = .ok (.aload_n 0, 1) := by decide +kernel
theorem dj42_149_18 : decode jdk_42_method_149_code 18 = .ok (.ldc 7, 2) := by decide +kernel
theorem dj42_149_20 : decode jdk_42_method_149_code 20 = .ok (.getfield 15, 3) := by decide +kernel
theorem dj42_149_23 : decode jdk_42_method_149_code 23 = .ok (.putfield 15, 3) := by decide +kernel
theorem dj42_149_26 : decode jdk_42_method_149_code 26 = .ok (.return_, 1) := by decide +kernel
theorem efsiw (m : MethodId) (x0 x1 : Addr) (x2 x3 : Int32) : entryFrame m #[(.ref x0), (.ref x1), (.int x2), (.int x3), .null] 6 = mkF m 0 #[.val (.ref x0), .val (.ref x1), .val (.int x2), .val (.int x3), .val .null, .unset] [] := by first | (simp [entryFrame, mkF, argsToLocals, Value.category]; done) | rfl
theorem csiw (l : Launch) (Z : State) (a0 : Array Value) (hw : ∀ d ∈ tables_1, d.before a0 Z = true) (a1 a2 : Addr) (h0 : Heap) (n0 : Nat) (Z0 : n0 ≤ h0.size) (E_a1 : Exa Z h0 a1 "java/lang/String") (F_value_a1 : Fld Z h0 a1 "java/lang/String" "value" "[B" .null) (F_coder_a1 : Fld Z h0 a1 "java/lang/String" "coder" "B" (.int (0 : Int32))) (O0 : Old Z n0 h0) (g_a1 : n0 ≤ a1) (HH : Jvm.Lit.constHeld Z "java/lang/String" 7) (HCW : Jvm.Lit.compactW.before a0 Z = true) :
    ConX l Z (⟨"java/lang/String", "<init>", "([CIILjava/lang/Void;)V"⟩ : MethodName) jdk_42_method_149_code 6 none ({ frames := 1, cells := 2, slots := 4, locals := 12 } : Room) [] #[(.ref a1), (.ref a2), (.int (0 : Int32)), (.int (0 : Int32)), .null] h0 (fun v h L => ∃ bb : Addr, v = none ∧ Fr n0 L ∧ Keep h0 h [a1] ∧ Fld Z h a1 "java/lang/String" "value" "[B" (.ref bb) ∧ Fld Z h a1 "java/lang/String" "coder" "B" (.int (0 : Int32)) ∧ Av Z h bb .byte []) := by
  refine ConX.of (plainFor_of_name pn_java_lang_String) #[.val (.ref a1), .val (.ref a2), .val (.int (0 : Int32)), .val (.int (0 : Int32)), .val .null, .unset] (fun m => efsiw m a1 a2 (0 : Int32) (0 : Int32)) ?_
  intro p e s m below meth c s₁ K hx hby hml hown hnm hret hlk hZ X0 e0 hs0 hLS hS0
  have N0 := Fr.nil n0
  rcases hLS with hI | ⟨x7, bb7, hL7, A7, Fc7, Fv7, V7⟩
  · refine mAN K X0.here hx hby dj42_149_0 rfl rfl rfl ?_
    refine k_initO K X0 hx hby hZ hown (W hw 21 rfl) (W hw 22 rfl) (W hw 23 rfl) e0 dj42_149_1 (by rw [hml]; rfl) rfl (by decide) (LB rfl) fun T1 X1 e1 => ?_
    refine mIN K X1.here hx hby dj42_149_4 rfl rfl ?_
    refine m_ifN K X1.here hx hby (q := 8) dj42_149_5 ((if0 _ _).trans (teq (by decide : (0 : Int32) = (0 : Int32))).2) rfl ?_
    refine mAN K X1.here hx hby dj42_149_8 rfl rfl rfl ?_
    refine k_ldcS K X1 hx hby hZ hI hown (W hw 24 rfl) (own_wS hw) e1 (Fr.nil _) (fun x cl hx' => by show s.heap[x]? = some cl; rw [hs0]; exact O0.2.2 x cl hx') HH HCW 0 ⟨fun c hc => by simp at hc, rfl⟩ (by decide) rfl dj42_149_9 rfl 0 (by decide) (by decide) (by decide) (by decide) fun b2 T2 h2 k2 bb2 X2 e2 E2 hS2 hk2 hZ hown A2 Fc2 Fv2 V2 Lt2 => ?_
    have ne2_a1 : b2 ≠ a1 := Fld.ne Fv2 (F_value_a1.ext E2) nofun
    have nb2_a1 : a1 ≠ bb2 := own_objArr (E_a1.ext E2) V2 (W hw 11 rfl)
    refine k_getF K X2 hx hby hZ hown (host := "") (Or.inl (W hw 30 rfl)) Via.refl e2 Fv2 dj42_149_11 rfl fun T3 X3 e3 => ?_
    refine k_putF K X3 hx hby hZ hown (host := "") (Or.inl (W hw 30 rfl)) Via.refl e3 (F_value_a1.ext E2) (E_a1.ext E2) (Or.inr ⟨(W hw 26 rfl), rfl, hnm⟩) (W hw 11 rfl) (ty := (.array .byte)) (by decide) rfl rfl dj42_149_14 rfl fun T4 h4 X4 e4 W4 => ?_
    have Fw4 := (F_value_a1.ext E2).same W4
    have N4 := Fr.snoc X4 N0 g_a1
    refine mAN K X4.here hx hby dj42_149_17 rfl rfl rfl ?_
    refine k_ldcA K X4 hx hby hZ hown (W hw 24 rfl) Lt2 dj42_149_18 rfl ?_
    refine k_getF K X4 hx hby hZ hown (host := "") (Or.inl (W hw 31 rfl)) Via.refl e4 (Fc2.other W4 (Or.inl ne2_a1)) dj42_149_20 rfl fun T5 X5 e5 => ?_
    refine k_putF K X5 hx hby hZ hown (host := "") (Or.inl (W hw 31 rfl)) Via.refl e5 ((F_coder_a1.ext E2).other W4 (Or.inr (slot_ne (Or.inr (W hw 27 rfl)) (Or.inr (W hw 26 rfl)) (by decide) (t := .byte) (t' := (.array .byte)) (by decide) (by decide)))) ((E_a1.ext E2).wr W4) (Or.inr ⟨(W hw 27 rfl), rfl, hnm⟩) (W hw 11 rfl) (ty := .byte) (by decide) (by decide) (by decide) dj42_149_23 rfl fun T6 h6 X6 e6 W6 => ?_
    have Fw6 := ((F_coder_a1.ext E2).other W4 (Or.inr (slot_ne (Or.inr (W hw 27 rfl)) (Or.inr (W hw 26 rfl)) (by decide) (t := .byte) (t' := (.array .byte)) (by decide) (by decide)))).same W6
    have N6 := Fr.snoc X6 N4 g_a1
    exact GoX.of_since hS2 (Go.retV X6 hx hby hlk hret dj42_149_26 (by decide) (by decide) (⟨(by rw [e6]; exact ⟨bb2, rfl, N6, ((((Keep.refl h0 [a1]).ext E2).wr W4 (Or.inl (by simp))).wr W6 (Or.inl (by simp))), (Fw4.other W6 (Or.inr (slot_ne (Or.inr (W hw 26 rfl)) (Or.inr (W hw 27 rfl)) (by decide) (t := (.array .byte)) (t' := .byte) (by decide) (by decide)))), Fw6, ((V2.other W4 (Ne.symm nb2_a1)).other W6 (Ne.symm nb2_a1))⟩), (by rw [e6]; exact (Nat.le_trans hk2 (Nat.le_trans (Nat.le_trans (Nat.le_refl _) (Keep.of_wr W4).1) (Keep.of_wr W6).1))), (by rw [e6]; exact (Or.inr ⟨b2, bb2, Lt2, ((A2.wr W4).wr W6), ((Fc2.other W4 (Or.inl ne2_a1)).other W6 (Or.inl ne2_a1)), ((Fv2.other W4 (Or.inl ne2_a1)).other W6 (Or.inl ne2_a1)), ((V2.other W4 (Ne.symm nb2_a1)).other W6 (Ne.symm nb2_a1))⟩))⟩))
  · have ne7 : x7 ≠ a1 := Fld.ne Fv7 F_value_a1 nofun
    have nb7 : a1 ≠ bb7 := own_objArr E_a1 V7 (W hw 11 rfl)
    refine mAN K X0.here hx hby dj42_149_0 rfl rfl rfl ?_
    refine k_initO K X0 hx hby hZ hown (W hw 21 rfl) (W hw 22 rfl) (W hw 23 rfl) e0 dj42_149_1 (by rw [hml]; rfl) rfl (by decide) (LB rfl) fun T7 X7 e7 => ?_
    refine mIN K X7.here hx hby dj42_149_4 rfl rfl ?_
    refine m_ifN K X7.here hx hby (q := 8) dj42_149_5 ((if0 _ _).trans (teq (by decide : (0 : Int32) = (0 : Int32))).2) rfl ?_
    refine mAN K X7.here hx hby dj42_149_8 rfl rfl rfl ?_
    refine k_ldcA K X7 hx hby hZ hown (W hw 24 rfl) hL7 dj42_149_9 rfl ?_
    refine k_getF K X7 hx hby hZ hown (host := "") (Or.inl (W hw 30 rfl)) Via.refl e7 Fv7 dj42_149_11 rfl fun T8 X8 e8 => ?_
    refine k_putF K X8 hx hby hZ hown (host := "") (Or.inl (W hw 30 rfl)) Via.refl e8 F_value_a1 E_a1 (Or.inr ⟨(W hw 26 rfl), rfl, hnm⟩) (W hw 11 rfl) (ty := (.array .byte)) (by decide) rfl rfl dj42_149_14 rfl fun T9 h9 X9 e9 W9 => ?_
    have Fw9 := F_value_a1.same W9
    have N9 := Fr.snoc X9 N0 g_a1
    refine mAN K X9.here hx hby dj42_149_17 rfl rfl rfl ?_
    refine k_ldcA K X9 hx hby hZ hown (W hw 24 rfl) hL7 dj42_149_18 rfl ?_
    refine k_getF K X9 hx hby hZ hown (host := "") (Or.inl (W hw 31 rfl)) Via.refl e9 (Fc7.other W9 (Or.inl ne7)) dj42_149_20 rfl fun T10 X10 e10 => ?_
    refine k_putF K X10 hx hby hZ hown (host := "") (Or.inl (W hw 31 rfl)) Via.refl e10 (F_coder_a1.other W9 (Or.inr (slot_ne (Or.inr (W hw 27 rfl)) (Or.inr (W hw 26 rfl)) (by decide) (t := .byte) (t' := (.array .byte)) (by decide) (by decide)))) (E_a1.wr W9) (Or.inr ⟨(W hw 27 rfl), rfl, hnm⟩) (W hw 11 rfl) (ty := .byte) (by decide) (by decide) (by decide) dj42_149_23 rfl fun T11 h11 X11 e11 W11 => ?_
    have Fw11 := (F_coder_a1.other W9 (Or.inr (slot_ne (Or.inr (W hw 27 rfl)) (Or.inr (W hw 26 rfl)) (by decide) (t := .byte) (t' := (.array .byte)) (by decide) (by decide)))).same W11
    have N11 := Fr.snoc X11 N9 g_a1
    exact GoX.of_since hS0 (Go.retV X11 hx hby hlk hret dj42_149_26 (by decide) (by decide) (⟨(by rw [e11]; exact ⟨bb7, rfl, N11, (((Keep.refl h0 [a1]).wr W9 (Or.inl (by simp))).wr W11 (Or.inl (by simp))), (Fw9.other W11 (Or.inr (slot_ne (Or.inr (W hw 26 rfl)) (Or.inr (W hw 27 rfl)) (by decide) (t := (.array .byte)) (t' := .byte) (by decide) (by decide)))), Fw11, ((V7.other W9 (Ne.symm nb7)).other W11 (Ne.symm nb7))⟩), (by rw [e11]; exact (Nat.le_trans (Nat.zero_le _) (Nat.le_trans (Nat.le_trans (Nat.le_refl _) (Keep.of_wr W9).1) (Keep.of_wr W11).1))), (by rw [e11]; exact (Or.inr ⟨x7, bb7, hL7, ((A7.wr W9).wr W11), ((Fc7.other W9 (Or.inl ne7)).other W11 (Or.inl ne7)), ((Fv7.other W9 (Or.inl ne7)).other W11 (Or.inl ne7)), ((V7.other W9 (Ne.symm nb7)).other W11 (Ne.symm nb7))⟩))⟩))
theorem efsjw (m : MethodId) (x0 x1 : Addr) : entryFrame m #[(.ref x0), (.ref x1)] 2 = mkF m 0 #[.val (.ref x0), .val (.ref x1)] [] := by first | (simp [entryFrame, mkF, argsToLocals, Value.category]; done) | rfl
theorem csjw (l : Launch) (Z : State) (a0 : Array Value) (hw : ∀ d ∈ tables_1, d.before a0 Z = true) (a1 a2 : Addr) (h0 : Heap) (n0 : Nat) (Z0 : n0 ≤ h0.size) (E_a1 : Exa Z h0 a1 "java/lang/String") (F_value_a1 : Fld Z h0 a1 "java/lang/String" "value" "[B" .null) (F_coder_a1 : Fld Z h0 a1 "java/lang/String" "coder" "B" (.int (0 : Int32))) (A_a2 : Av Z h0 a2 .char []) (O0 : Old Z n0 h0) (g_a1 : n0 ≤ a1) (HH : Jvm.Lit.constHeld Z "java/lang/String" 7) (HCW : Jvm.Lit.compactW.before a0 Z = true) :
    ConX l Z (⟨"java/lang/String", "<init>", "([C)V"⟩ : MethodName) jdk_42_method_3_code 2 none ({ frames := 2, cells := 2, slots := 4, locals := 29 } : Room) [] #[(.ref a1), (.ref a2)] h0 (fun v h L => ∃ bb : Addr, v = none ∧ Fr n0 L ∧ Keep h0 h [a1] ∧ Fld Z h a1 "java/lang/String" "value" "[B" (.ref bb) ∧ Fld Z h a1 "java/lang/String" "coder" "B" (.int (0 : Int32)) ∧ Av Z h bb .byte []) := by
  refine ConX.of (plainFor_of_name pn_java_lang_String) #[.val (.ref a1), .val (.ref a2)] (fun m => efsjw m a1 a2) ?_
  intro p e s m below meth c s₁ K hx hby hml hown hnm hret hlk hZ X0 e0 hs0 hLS hS0
  have N0 := Fr.nil n0
  refine mAN K X0.here hx hby dj42_3_0 rfl rfl rfl ?_
  refine mAN K X0.here hx hby dj42_3_1 rfl rfl rfl ?_
  refine mC K X0.here hx hby (0 : Int32) dj42_3_2 rfl rfl ?_
  refine mAN K X0.here hx hby dj42_3_3 rfl rfl rfl ?_
  refine k_len K X0 hx hby hZ (0 : Int32) e0 A_a2 rfl dj42_3_4 rfl ?_
  refine m_null K X0.here hx hby dj42_3_5 rfl ?_
  refine k_callPX K X0 hx hby hZ hS0 (Nat.le_trans (Nat.zero_le _) (Nat.le_refl _)) hLS a1 [(.ref a2), (.int (0 : Int32)), (.int (0 : Int32)), .null] [] hown (W hw 17 rfl) (W hw 18 rfl) (W hw 12 rfl) (W hw 20 rfl) rfl (csiw l Z a0 hw a1 a2 h0 n0 Z0 E_a1 F_value_a1 F_coder_a1 O0 g_a1 HH HCW) e0 rfl rfl pd_13 rfl dj42_3_6 (by rw [hml]; rfl) rfl (by decide) (by decide) (LB rfl) (by decide) (by decide) fun v1 T1 L1 X1 q1 hS1 LS1 hZ hown => ?_
  obtain ⟨bb_1, rfl, Nq1, K1, Fp1_0, Fp1_1, Ap1_0⟩ := q1
  have N1 := Fr.app N0 Nq1
  refine k_none K ?_
  exact GoX.of_since hS1 (Go.retV X1 hx hby hlk hret dj42_3_9 (by decide) (by decide) (⟨(⟨bb_1, rfl, N1, ((Keep.refl h0 [a1]).trans K1 (allS (Or.inl (by simp)) all0)), Fp1_0, Fp1_1, Ap1_0⟩), (Nat.le_refl _), LS1⟩))
def Str (Z : State) (h : Heap) (a : Addr) (us : List Int32) : Prop := Exa Z h a "java/lang/String" ∧ ((∃ (b : Addr) (ys : List Int32), Fld Z h a "java/lang/String" "value" "[B" (.ref b) ∧ Fld Z h a "java/lang/String" "coder" "B" (.int (0 : Int32)) ∧ Av Z h b .byte (ys.map .int) ∧ ys.map LCH = us) ∨
  ∃ (b : Addr) (ys : List (Int32 × Int32)), Fld Z h a "java/lang/String" "value" "[B" (.ref b) ∧ Fld Z h a "java/lang/String" "coder" "B" (.int (1 : Int32)) ∧ Av Z h b .byte (ys.flatMap fun p => [.int p.1, .int p.2]) ∧ ys.map (fun p => GCH p.1 p.2) = us)
theorem Str.keep0 {Z : State} {h h' : Heap} {a : Addr} {us : List Int32} (F : Str Z h a us) (K : Keep h h' []) : Str Z h' a us := by
  obtain ⟨E, ⟨b, ys, f1, f2, A, e⟩ | ⟨b, ys, f1, f2, A, e⟩⟩ := F
  · exact ⟨E.keep K, Or.inl ⟨b, ys, f1.keep K nin0, f2.keep K nin0, A.keep K nin0, e⟩⟩
  · exact ⟨E.keep K, Or.inr ⟨b, ys, f1.keep K nin0, f2.keep K nin0, A.keep K nin0, e⟩⟩
theorem Con.mono {l : Launch} {Z : State} {y : MethodName} {bytes : ByteArray} {maxL : Nat} {ret : Option FieldType} {rm : Room} {ws : List Jvm.Cond} {as' : Array Value} {h : Heap} {Q Q' : PQ} (K : Con l Z y bytes maxL ret rm ws as' h Q) (f : ∀ v h' L, Q v h' L → Q' v h' L) : Con l Z y bytes maxL ret rm ws as' h Q' := by
  intro p e ha hc hk s m args below hf happ hP hK
  obtain ⟨n, o, h1, h2, h3, v, L, h4, h5, h6⟩ := K p e ha hc hk s m args below hf happ hP hK
  exact ⟨n, o, h1, h2, h3, v, L, h4, f _ _ _ h5, h6⟩
theorem own_lrec (c : Int32) (h : nar .char c = c) (g : ¬ ((255 : Int32) < c)) : LCH (nar .byte (c.toInt8.toInt32)) = c := by
  have h' : c.toUInt32.toUInt16.toUInt32.toInt32 = c := h
  have hc := c_i2c c
  rw [h'] at hc
  rw [Int32.lt_iff_toInt_lt] at g
  have e1 : (255 : Int32).toInt = 255 := rfl
  rw [e1] at g
  apply Int32.toInt_inj.mp
  have eL : nar .byte (c.toInt8.toInt32) = (c.toInt8.toInt32).toInt8.toInt32 := rfl
  have l1 := c_i2b c
  have l2 := c_i2b (c.toInt8.toInt32)
  rw [← eL] at l2
  have mL := c_mask (nar .byte (c.toInt8.toInt32)) (255 : Int32) 8 (by decide) (by decide)
  have i1 := c_i2c (nar .byte (c.toInt8.toInt32) &&& (255 : Int32))
  unfold LCH
  omega
theorem own_L0 {ys : List Int32} (e : ys.map LCH = []) : ys = [] := List.map_eq_nil_iff.mp e
theorem own_G0 {ys : List (Int32 × Int32)} (e : ys.map (fun p => GCH p.1 p.2) = []) : ys = [] := List.map_eq_nil_iff.mp e
theorem own_L1 {ys : List Int32} {c0 : Int32} (e : ys.map LCH = [c0]) : ∃ y0, ys = [y0] ∧ LCH y0 = c0 := by
  rcases ys with _ | ⟨y0, _ | ⟨z, t⟩⟩ <;> simp at e
  exact ⟨y0, rfl, e⟩
theorem own_G1 {ys : List (Int32 × Int32)} {c0 : Int32} (e : ys.map (fun p => GCH p.1 p.2) = [c0]) : ∃ y0 y1, ys = [(y0, y1)] ∧ GCH y0 y1 = c0 := by
  rcases ys with _ | ⟨⟨y0, y1⟩, _ | ⟨z, t⟩⟩ <;> simp at e
  exact ⟨y0, y1, rfl, e⟩
theorem own_L2 {ys : List Int32} {c0 c1 : Int32} (e : ys.map LCH = [c0, c1]) : ∃ y0 y1, ys = [y0, y1] ∧ LCH y0 = c0 ∧ LCH y1 = c1 := by
  rcases ys with _ | ⟨y0, _ | ⟨y1, _ | ⟨z, t⟩⟩⟩ <;> simp at e
  exact ⟨y0, y1, rfl, e⟩
theorem own_G2 {ys : List (Int32 × Int32)} {c0 c1 : Int32} (e : ys.map (fun p => GCH p.1 p.2) = [c0, c1]) : ∃ y0 y1 y2 y3, ys = [(y0, y1), (y2, y3)] ∧ GCH y0 y1 = c0 ∧ GCH y2 y3 = c1 := by
  rcases ys with _ | ⟨⟨y0, y1⟩, _ | ⟨⟨y2, y3⟩, _ | ⟨z, t⟩⟩⟩ <;> simp at e
  exact ⟨y0, y1, y2, y3, rfl, e⟩
theorem own_L3 {ys : List Int32} {c0 c1 c2 : Int32} (e : ys.map LCH = [c0, c1, c2]) : ∃ y0 y1 y2, ys = [y0, y1, y2] ∧ LCH y0 = c0 ∧ LCH y1 = c1 ∧ LCH y2 = c2 := by
  rcases ys with _ | ⟨y0, _ | ⟨y1, _ | ⟨y2, _ | ⟨z, t⟩⟩⟩⟩ <;> simp at e
  exact ⟨y0, y1, y2, rfl, e⟩
theorem own_G3 {ys : List (Int32 × Int32)} {c0 c1 c2 : Int32} (e : ys.map (fun p => GCH p.1 p.2) = [c0, c1, c2]) : ∃ y0 y1 y2 y3 y4 y5, ys = [(y0, y1), (y2, y3), (y4, y5)] ∧ GCH y0 y1 = c0 ∧ GCH y2 y3 = c1 ∧ GCH y4 y5 = c2 := by
  rcases ys with _ | ⟨⟨y0, y1⟩, _ | ⟨⟨y2, y3⟩, _ | ⟨⟨y4, y5⟩, _ | ⟨z, t⟩⟩⟩⟩ <;> simp at e
  exact ⟨y0, y1, y2, y3, y4, y5, rfl, e⟩
theorem own_L4 {ys : List Int32} {c0 c1 c2 c3 : Int32} (e : ys.map LCH = [c0, c1, c2, c3]) : ∃ y0 y1 y2 y3, ys = [y0, y1, y2, y3] ∧ LCH y0 = c0 ∧ LCH y1 = c1 ∧ LCH y2 = c2 ∧ LCH y3 = c3 := by
  rcases ys with _ | ⟨y0, _ | ⟨y1, _ | ⟨y2, _ | ⟨y3, _ | ⟨z, t⟩⟩⟩⟩⟩ <;> simp at e
  exact ⟨y0, y1, y2, y3, rfl, e⟩
theorem own_G4 {ys : List (Int32 × Int32)} {c0 c1 c2 c3 : Int32} (e : ys.map (fun p => GCH p.1 p.2) = [c0, c1, c2, c3]) : ∃ y0 y1 y2 y3 y4 y5 y6 y7, ys = [(y0, y1), (y2, y3), (y4, y5), (y6, y7)] ∧ GCH y0 y1 = c0 ∧ GCH y2 y3 = c1 ∧ GCH y4 y5 = c2 ∧ GCH y6 y7 = c3 := by
  rcases ys with _ | ⟨⟨y0, y1⟩, _ | ⟨⟨y2, y3⟩, _ | ⟨⟨y4, y5⟩, _ | ⟨⟨y6, y7⟩, _ | ⟨z, t⟩⟩⟩⟩⟩ <;> simp at e
  exact ⟨y0, y1, y2, y3, y4, y5, y6, y7, rfl, e⟩
theorem klen1 (l : Launch) (Z : State) (a0 : Array Value) (hw : ∀ d ∈ tables_1, d.before a0 Z = true) (a1 : Addr) (cz : Int32) (vf : Value) (c0 : Int32) (h0 : Heap) (n0 : Nat) (Z0 : n0 ≤ h0.size) (T1 : Str Z h0 a1 [c0]) (O0 : Old Z n0 h0) (SS : SSt Z cz vf) :
    Con l Z (⟨"java/lang/String", "length", "()I"⟩ : MethodName) jdk_42_method_54_code 1 (some .int) ({ frames := 1, cells := 0, slots := 0, locals := 13 } : Room) [] #[(.ref a1)] h0 (fun v h L => v = some (.int (1 : Int32)) ∧ h = h0 ∧ L = []) := by
  obtain ⟨E, ⟨b, ys, f1, f2, A, e⟩ | ⟨b, ys, f1, f2, A, e⟩⟩ := T1
  · obtain ⟨y0, rfl, rfl⟩ := own_L1 e
    exact cll1 l Z a0 hw a1 cz vf b y0 h0 n0 Z0 E f1 f2 A O0 SS
  · obtain ⟨y0, y1, rfl, rfl⟩ := own_G1 e
    exact clu1 l Z a0 hw a1 cz vf b y0 y1 h0 n0 Z0 E f1 f2 A O0 SS
theorem kch1_0 (l : Launch) (Z : State) (a0 : Array Value) (hw : ∀ d ∈ tables_1, d.before a0 Z = true) (a1 : Addr) (cz : Int32) (vf : Value) (c0 : Int32) (h0 : Heap) (n0 : Nat) (Z0 : n0 ≤ h0.size) (T1 : Str Z h0 a1 [c0]) (O0 : Old Z n0 h0) (SS : SSt Z cz vf) :
    Con l Z (⟨"java/lang/String", "charAt", "(I)C"⟩ : MethodName) jdk_42_method_56_code 2 (some .char) ({ frames := 4, cells := 0, slots := 0, locals := 53 } : Room) [] #[(.ref a1), (.int (0 : Int32))] h0 (fun v h L => v = some (.int c0) ∧ h = h0 ∧ L = []) := by
  obtain ⟨E, ⟨b, ys, f1, f2, A, e⟩ | ⟨b, ys, f1, f2, A, e⟩⟩ := T1
  · obtain ⟨y0, rfl, rfl⟩ := own_L1 e
    exact ccl1_0 l Z a0 hw a1 cz vf b y0 h0 n0 Z0 E f1 f2 A O0 SS
  · obtain ⟨y0, y1, rfl, rfl⟩ := own_G1 e
    exact ccu1_0 l Z a0 hw a1 cz vf b y0 y1 h0 n0 Z0 E f1 f2 A O0 SS
theorem klen2 (l : Launch) (Z : State) (a0 : Array Value) (hw : ∀ d ∈ tables_1, d.before a0 Z = true) (a1 : Addr) (cz : Int32) (vf : Value) (c0 c1 : Int32) (h0 : Heap) (n0 : Nat) (Z0 : n0 ≤ h0.size) (T1 : Str Z h0 a1 [c0, c1]) (O0 : Old Z n0 h0) (SS : SSt Z cz vf) :
    Con l Z (⟨"java/lang/String", "length", "()I"⟩ : MethodName) jdk_42_method_54_code 1 (some .int) ({ frames := 1, cells := 0, slots := 0, locals := 13 } : Room) [] #[(.ref a1)] h0 (fun v h L => v = some (.int (2 : Int32)) ∧ h = h0 ∧ L = []) := by
  obtain ⟨E, ⟨b, ys, f1, f2, A, e⟩ | ⟨b, ys, f1, f2, A, e⟩⟩ := T1
  · obtain ⟨y0, y1, rfl, rfl, rfl⟩ := own_L2 e
    exact cll2 l Z a0 hw a1 cz vf b y0 y1 h0 n0 Z0 E f1 f2 A O0 SS
  · obtain ⟨y0, y1, y2, y3, rfl, rfl, rfl⟩ := own_G2 e
    exact clu2 l Z a0 hw a1 cz vf b y0 y1 y2 y3 h0 n0 Z0 E f1 f2 A O0 SS
theorem kch2_0 (l : Launch) (Z : State) (a0 : Array Value) (hw : ∀ d ∈ tables_1, d.before a0 Z = true) (a1 : Addr) (cz : Int32) (vf : Value) (c0 c1 : Int32) (h0 : Heap) (n0 : Nat) (Z0 : n0 ≤ h0.size) (T1 : Str Z h0 a1 [c0, c1]) (O0 : Old Z n0 h0) (SS : SSt Z cz vf) :
    Con l Z (⟨"java/lang/String", "charAt", "(I)C"⟩ : MethodName) jdk_42_method_56_code 2 (some .char) ({ frames := 4, cells := 0, slots := 0, locals := 53 } : Room) [] #[(.ref a1), (.int (0 : Int32))] h0 (fun v h L => v = some (.int c0) ∧ h = h0 ∧ L = []) := by
  obtain ⟨E, ⟨b, ys, f1, f2, A, e⟩ | ⟨b, ys, f1, f2, A, e⟩⟩ := T1
  · obtain ⟨y0, y1, rfl, rfl, rfl⟩ := own_L2 e
    exact ccl2_0 l Z a0 hw a1 cz vf b y0 y1 h0 n0 Z0 E f1 f2 A O0 SS
  · obtain ⟨y0, y1, y2, y3, rfl, rfl, rfl⟩ := own_G2 e
    exact ccu2_0 l Z a0 hw a1 cz vf b y0 y1 y2 y3 h0 n0 Z0 E f1 f2 A O0 SS
theorem kch2_1 (l : Launch) (Z : State) (a0 : Array Value) (hw : ∀ d ∈ tables_1, d.before a0 Z = true) (a1 : Addr) (cz : Int32) (vf : Value) (c0 c1 : Int32) (h0 : Heap) (n0 : Nat) (Z0 : n0 ≤ h0.size) (T1 : Str Z h0 a1 [c0, c1]) (O0 : Old Z n0 h0) (SS : SSt Z cz vf) :
    Con l Z (⟨"java/lang/String", "charAt", "(I)C"⟩ : MethodName) jdk_42_method_56_code 2 (some .char) ({ frames := 4, cells := 0, slots := 0, locals := 53 } : Room) [] #[(.ref a1), (.int (1 : Int32))] h0 (fun v h L => v = some (.int c1) ∧ h = h0 ∧ L = []) := by
  obtain ⟨E, ⟨b, ys, f1, f2, A, e⟩ | ⟨b, ys, f1, f2, A, e⟩⟩ := T1
  · obtain ⟨y0, y1, rfl, rfl, rfl⟩ := own_L2 e
    exact ccl2_1 l Z a0 hw a1 cz vf b y0 y1 h0 n0 Z0 E f1 f2 A O0 SS
  · obtain ⟨y0, y1, y2, y3, rfl, rfl, rfl⟩ := own_G2 e
    exact ccu2_1 l Z a0 hw a1 cz vf b y0 y1 y2 y3 h0 n0 Z0 E f1 f2 A O0 SS
theorem klen3 (l : Launch) (Z : State) (a0 : Array Value) (hw : ∀ d ∈ tables_1, d.before a0 Z = true) (a1 : Addr) (cz : Int32) (vf : Value) (c0 c1 c2 : Int32) (h0 : Heap) (n0 : Nat) (Z0 : n0 ≤ h0.size) (T1 : Str Z h0 a1 [c0, c1, c2]) (O0 : Old Z n0 h0) (SS : SSt Z cz vf) :
    Con l Z (⟨"java/lang/String", "length", "()I"⟩ : MethodName) jdk_42_method_54_code 1 (some .int) ({ frames := 1, cells := 0, slots := 0, locals := 13 } : Room) [] #[(.ref a1)] h0 (fun v h L => v = some (.int (3 : Int32)) ∧ h = h0 ∧ L = []) := by
  obtain ⟨E, ⟨b, ys, f1, f2, A, e⟩ | ⟨b, ys, f1, f2, A, e⟩⟩ := T1
  · obtain ⟨y0, y1, y2, rfl, rfl, rfl, rfl⟩ := own_L3 e
    exact cll3 l Z a0 hw a1 cz vf b y0 y1 y2 h0 n0 Z0 E f1 f2 A O0 SS
  · obtain ⟨y0, y1, y2, y3, y4, y5, rfl, rfl, rfl, rfl⟩ := own_G3 e
    exact clu3 l Z a0 hw a1 cz vf b y0 y1 y2 y3 y4 y5 h0 n0 Z0 E f1 f2 A O0 SS
theorem kch3_0 (l : Launch) (Z : State) (a0 : Array Value) (hw : ∀ d ∈ tables_1, d.before a0 Z = true) (a1 : Addr) (cz : Int32) (vf : Value) (c0 c1 c2 : Int32) (h0 : Heap) (n0 : Nat) (Z0 : n0 ≤ h0.size) (T1 : Str Z h0 a1 [c0, c1, c2]) (O0 : Old Z n0 h0) (SS : SSt Z cz vf) :
    Con l Z (⟨"java/lang/String", "charAt", "(I)C"⟩ : MethodName) jdk_42_method_56_code 2 (some .char) ({ frames := 4, cells := 0, slots := 0, locals := 53 } : Room) [] #[(.ref a1), (.int (0 : Int32))] h0 (fun v h L => v = some (.int c0) ∧ h = h0 ∧ L = []) := by
  obtain ⟨E, ⟨b, ys, f1, f2, A, e⟩ | ⟨b, ys, f1, f2, A, e⟩⟩ := T1
  · obtain ⟨y0, y1, y2, rfl, rfl, rfl, rfl⟩ := own_L3 e
    exact ccl3_0 l Z a0 hw a1 cz vf b y0 y1 y2 h0 n0 Z0 E f1 f2 A O0 SS
  · obtain ⟨y0, y1, y2, y3, y4, y5, rfl, rfl, rfl, rfl⟩ := own_G3 e
    exact ccu3_0 l Z a0 hw a1 cz vf b y0 y1 y2 y3 y4 y5 h0 n0 Z0 E f1 f2 A O0 SS
theorem kch3_1 (l : Launch) (Z : State) (a0 : Array Value) (hw : ∀ d ∈ tables_1, d.before a0 Z = true) (a1 : Addr) (cz : Int32) (vf : Value) (c0 c1 c2 : Int32) (h0 : Heap) (n0 : Nat) (Z0 : n0 ≤ h0.size) (T1 : Str Z h0 a1 [c0, c1, c2]) (O0 : Old Z n0 h0) (SS : SSt Z cz vf) :
    Con l Z (⟨"java/lang/String", "charAt", "(I)C"⟩ : MethodName) jdk_42_method_56_code 2 (some .char) ({ frames := 4, cells := 0, slots := 0, locals := 53 } : Room) [] #[(.ref a1), (.int (1 : Int32))] h0 (fun v h L => v = some (.int c1) ∧ h = h0 ∧ L = []) := by
  obtain ⟨E, ⟨b, ys, f1, f2, A, e⟩ | ⟨b, ys, f1, f2, A, e⟩⟩ := T1
  · obtain ⟨y0, y1, y2, rfl, rfl, rfl, rfl⟩ := own_L3 e
    exact ccl3_1 l Z a0 hw a1 cz vf b y0 y1 y2 h0 n0 Z0 E f1 f2 A O0 SS
  · obtain ⟨y0, y1, y2, y3, y4, y5, rfl, rfl, rfl, rfl⟩ := own_G3 e
    exact ccu3_1 l Z a0 hw a1 cz vf b y0 y1 y2 y3 y4 y5 h0 n0 Z0 E f1 f2 A O0 SS
theorem kch3_2 (l : Launch) (Z : State) (a0 : Array Value) (hw : ∀ d ∈ tables_1, d.before a0 Z = true) (a1 : Addr) (cz : Int32) (vf : Value) (c0 c1 c2 : Int32) (h0 : Heap) (n0 : Nat) (Z0 : n0 ≤ h0.size) (T1 : Str Z h0 a1 [c0, c1, c2]) (O0 : Old Z n0 h0) (SS : SSt Z cz vf) :
    Con l Z (⟨"java/lang/String", "charAt", "(I)C"⟩ : MethodName) jdk_42_method_56_code 2 (some .char) ({ frames := 4, cells := 0, slots := 0, locals := 53 } : Room) [] #[(.ref a1), (.int (2 : Int32))] h0 (fun v h L => v = some (.int c2) ∧ h = h0 ∧ L = []) := by
  obtain ⟨E, ⟨b, ys, f1, f2, A, e⟩ | ⟨b, ys, f1, f2, A, e⟩⟩ := T1
  · obtain ⟨y0, y1, y2, rfl, rfl, rfl, rfl⟩ := own_L3 e
    exact ccl3_2 l Z a0 hw a1 cz vf b y0 y1 y2 h0 n0 Z0 E f1 f2 A O0 SS
  · obtain ⟨y0, y1, y2, y3, y4, y5, rfl, rfl, rfl, rfl⟩ := own_G3 e
    exact ccu3_2 l Z a0 hw a1 cz vf b y0 y1 y2 y3 y4 y5 h0 n0 Z0 E f1 f2 A O0 SS
theorem klen4 (l : Launch) (Z : State) (a0 : Array Value) (hw : ∀ d ∈ tables_1, d.before a0 Z = true) (a1 : Addr) (cz : Int32) (vf : Value) (c0 c1 : Int32) (c2 c3 : Int32) (h0 : Heap) (n0 : Nat) (Z0 : n0 ≤ h0.size) (T1 : Str Z h0 a1 [c0, c1, c2, c3]) (O0 : Old Z n0 h0) (SS : SSt Z cz vf) :
    Con l Z (⟨"java/lang/String", "length", "()I"⟩ : MethodName) jdk_42_method_54_code 1 (some .int) ({ frames := 1, cells := 0, slots := 0, locals := 13 } : Room) [] #[(.ref a1)] h0 (fun v h L => v = some (.int (4 : Int32)) ∧ h = h0 ∧ L = []) := by
  obtain ⟨E, ⟨b, ys, f1, f2, A, e⟩ | ⟨b, ys, f1, f2, A, e⟩⟩ := T1
  · obtain ⟨y0, y1, y2, y3, rfl, rfl, rfl, rfl, rfl⟩ := own_L4 e
    exact cll4 l Z a0 hw a1 cz vf b y0 y1 y2 y3 h0 n0 Z0 E f1 f2 A O0 SS
  · obtain ⟨y0, y1, y2, y3, y4, y5, y6, y7, rfl, rfl, rfl, rfl, rfl⟩ := own_G4 e
    exact clu4 l Z a0 hw a1 cz vf b y0 y1 y2 y3 y4 y5 y6 y7 h0 n0 Z0 E f1 f2 A O0 SS
theorem kch4_0 (l : Launch) (Z : State) (a0 : Array Value) (hw : ∀ d ∈ tables_1, d.before a0 Z = true) (a1 : Addr) (cz : Int32) (vf : Value) (c0 c1 : Int32) (c2 c3 : Int32) (h0 : Heap) (n0 : Nat) (Z0 : n0 ≤ h0.size) (T1 : Str Z h0 a1 [c0, c1, c2, c3]) (O0 : Old Z n0 h0) (SS : SSt Z cz vf) :
    Con l Z (⟨"java/lang/String", "charAt", "(I)C"⟩ : MethodName) jdk_42_method_56_code 2 (some .char) ({ frames := 4, cells := 0, slots := 0, locals := 53 } : Room) [] #[(.ref a1), (.int (0 : Int32))] h0 (fun v h L => v = some (.int c0) ∧ h = h0 ∧ L = []) := by
  obtain ⟨E, ⟨b, ys, f1, f2, A, e⟩ | ⟨b, ys, f1, f2, A, e⟩⟩ := T1
  · obtain ⟨y0, y1, y2, y3, rfl, rfl, rfl, rfl, rfl⟩ := own_L4 e
    exact ccl4_0 l Z a0 hw a1 cz vf b y0 y1 y2 y3 h0 n0 Z0 E f1 f2 A O0 SS
  · obtain ⟨y0, y1, y2, y3, y4, y5, y6, y7, rfl, rfl, rfl, rfl, rfl⟩ := own_G4 e
    exact ccu4_0 l Z a0 hw a1 cz vf b y0 y1 y2 y3 y4 y5 y6 y7 h0 n0 Z0 E f1 f2 A O0 SS
theorem kch4_1 (l : Launch) (Z : State) (a0 : Array Value) (hw : ∀ d ∈ tables_1, d.before a0 Z = true) (a1 : Addr) (cz : Int32) (vf : Value) (c0 c1 : Int32) (c2 c3 : Int32) (h0 : Heap) (n0 : Nat) (Z0 : n0 ≤ h0.size) (T1 : Str Z h0 a1 [c0, c1, c2, c3]) (O0 : Old Z n0 h0) (SS : SSt Z cz vf) :
    Con l Z (⟨"java/lang/String", "charAt", "(I)C"⟩ : MethodName) jdk_42_method_56_code 2 (some .char) ({ frames := 4, cells := 0, slots := 0, locals := 53 } : Room) [] #[(.ref a1), (.int (1 : Int32))] h0 (fun v h L => v = some (.int c1) ∧ h = h0 ∧ L = []) := by
  obtain ⟨E, ⟨b, ys, f1, f2, A, e⟩ | ⟨b, ys, f1, f2, A, e⟩⟩ := T1
  · obtain ⟨y0, y1, y2, y3, rfl, rfl, rfl, rfl, rfl⟩ := own_L4 e
    exact ccl4_1 l Z a0 hw a1 cz vf b y0 y1 y2 y3 h0 n0 Z0 E f1 f2 A O0 SS
  · obtain ⟨y0, y1, y2, y3, y4, y5, y6, y7, rfl, rfl, rfl, rfl, rfl⟩ := own_G4 e
    exact ccu4_1 l Z a0 hw a1 cz vf b y0 y1 y2 y3 y4 y5 y6 y7 h0 n0 Z0 E f1 f2 A O0 SS
theorem kch4_2 (l : Launch) (Z : State) (a0 : Array Value) (hw : ∀ d ∈ tables_1, d.before a0 Z = true) (a1 : Addr) (cz : Int32) (vf : Value) (c0 c1 : Int32) (c2 c3 : Int32) (h0 : Heap) (n0 : Nat) (Z0 : n0 ≤ h0.size) (T1 : Str Z h0 a1 [c0, c1, c2, c3]) (O0 : Old Z n0 h0) (SS : SSt Z cz vf) :
    Con l Z (⟨"java/lang/String", "charAt", "(I)C"⟩ : MethodName) jdk_42_method_56_code 2 (some .char) ({ frames := 4, cells := 0, slots := 0, locals := 53 } : Room) [] #[(.ref a1), (.int (2 : Int32))] h0 (fun v h L => v = some (.int c2) ∧ h = h0 ∧ L = []) := by
  obtain ⟨E, ⟨b, ys, f1, f2, A, e⟩ | ⟨b, ys, f1, f2, A, e⟩⟩ := T1
  · obtain ⟨y0, y1, y2, y3, rfl, rfl, rfl, rfl, rfl⟩ := own_L4 e
    exact ccl4_2 l Z a0 hw a1 cz vf b y0 y1 y2 y3 h0 n0 Z0 E f1 f2 A O0 SS
  · obtain ⟨y0, y1, y2, y3, y4, y5, y6, y7, rfl, rfl, rfl, rfl, rfl⟩ := own_G4 e
    exact ccu4_2 l Z a0 hw a1 cz vf b y0 y1 y2 y3 y4 y5 y6 y7 h0 n0 Z0 E f1 f2 A O0 SS
theorem kch4_3 (l : Launch) (Z : State) (a0 : Array Value) (hw : ∀ d ∈ tables_1, d.before a0 Z = true) (a1 : Addr) (cz : Int32) (vf : Value) (c0 c1 : Int32) (c2 c3 : Int32) (h0 : Heap) (n0 : Nat) (Z0 : n0 ≤ h0.size) (T1 : Str Z h0 a1 [c0, c1, c2, c3]) (O0 : Old Z n0 h0) (SS : SSt Z cz vf) :
    Con l Z (⟨"java/lang/String", "charAt", "(I)C"⟩ : MethodName) jdk_42_method_56_code 2 (some .char) ({ frames := 4, cells := 0, slots := 0, locals := 53 } : Room) [] #[(.ref a1), (.int (3 : Int32))] h0 (fun v h L => v = some (.int c3) ∧ h = h0 ∧ L = []) := by
  obtain ⟨E, ⟨b, ys, f1, f2, A, e⟩ | ⟨b, ys, f1, f2, A, e⟩⟩ := T1
  · obtain ⟨y0, y1, y2, y3, rfl, rfl, rfl, rfl, rfl⟩ := own_L4 e
    exact ccl4_3 l Z a0 hw a1 cz vf b y0 y1 y2 y3 h0 n0 Z0 E f1 f2 A O0 SS
  · obtain ⟨y0, y1, y2, y3, y4, y5, y6, y7, rfl, rfl, rfl, rfl, rfl⟩ := own_G4 e
    exact ccu4_3 l Z a0 hw a1 cz vf b y0 y1 y2 y3 y4 y5 y6 y7 h0 n0 Z0 E f1 f2 A O0 SS
theorem eflu0 (m : MethodId) (x0 : Addr) : entryFrame m #[(.ref x0)] 1 = mkF m 0 #[.val (.ref x0)] [] := by first | (simp [entryFrame, mkF, argsToLocals, Value.category]; done) | rfl
theorem clu0 (l : Launch) (Z : State) (a0 : Array Value) (hw : ∀ d ∈ tables_1, d.before a0 Z = true) (a1 : Addr) (cz : Int32) (vf : Value) (a2 : Addr) (h0 : Heap) (n0 : Nat) (Z0 : n0 ≤ h0.size) (E_a1 : Exa Z h0 a1 "java/lang/String") (F_value_a1 : Fld Z h0 a1 "java/lang/String" "value" "[B" (.ref a2)) (F_coder_a1 : Fld Z h0 a1 "java/lang/String" "coder" "B" (.int (1 : Int32))) (A_a2 : Av Z h0 a2 .byte []) (O0 : Old Z n0 h0) (SS : SSt Z cz vf) :
    Con l Z (⟨"java/lang/String", "length", "()I"⟩ : MethodName) jdk_42_method_54_code 1 (some .int) ({ frames := 1, cells := 0, slots := 0, locals := 13 } : Room) [] #[(.ref a1)] h0 (fun v h L => v = some (.int (0 : Int32)) ∧ h = h0 ∧ L = []) := by
  refine Con.of (plainFor_of_name pn_java_lang_String) #[.val (.ref a1)] (fun m => eflu0 m a1) ?_
  intro p e s m below meth c s₁ K hx hby hml hown hnm hret hlk hZ X0 e0
  have N0 := Fr.nil n0
  refine mAN K X0.here hx hby dj42_54_0 rfl rfl rfl ?_
  refine k_getF K X0 hx hby hZ hown (host := "") (Or.inl (W hw 30 rfl)) Via.refl e0 F_value_a1 dj42_54_1 rfl fun T1 X1 e1 => ?_
  refine k_len K X1 hx hby hZ (0 : Int32) e1 A_a2 rfl dj42_54_4 rfl ?_
  refine mAN K X1.here hx hby dj42_54_5 rfl rfl rfl ?_
  refine k_callV K X1 hx hby hZ a1 [] [(.int (0 : Int32))] hown (W hw 41 rfl) (W hw 42 rfl) (notFace_of_selects (args := #[]) (mvT hZ (W hw 44 rfl))) (W hw 44 rfl) (W hw 43 rfl) (W hw 12 rfl) (W hw 45 rfl) (cco1 l Z a0 hw a1 cz vf h0 n0 Z0 F_coder_a1 O0 SS) e1 E_a1 rfl rfl pd_9 rfl dj42_54_6 (by rw [hml]; rfl) rfl (by decide) (by decide) (LB rfl) (by decide) (by decide) fun v2 T2 L2 X2 q2 => ?_
  obtain ⟨rfl, e2, rfl⟩ := q2
  replace X2 := own_px X2
  refine k_some K (w := (.int (1 : Int32))) ?_
  refine m_ishr K X2.here hx hby (0 : Int32) dj42_54_9 rfl rfl ?_
  exact Go.retI X2 hx hby hlk hret dj42_54_10 (by decide) (by decide) (⟨rfl, e2, rfl⟩)
theorem klen0 (l : Launch) (Z : State) (a0 : Array Value) (hw : ∀ d ∈ tables_1, d.before a0 Z = true) (a1 : Addr) (cz : Int32) (vf : Value) (h0 : Heap) (n0 : Nat) (Z0 : n0 ≤ h0.size) (T1 : Str Z h0 a1 []) (O0 : Old Z n0 h0) (SS : SSt Z cz vf) :
    Con l Z (⟨"java/lang/String", "length", "()I"⟩ : MethodName) jdk_42_method_54_code 1 (some .int) ({ frames := 1, cells := 0, slots := 0, locals := 13 } : Room) [] #[(.ref a1)] h0 (fun v h L => v = some (.int (0 : Int32)) ∧ h = h0 ∧ L = []) := by
  obtain ⟨E, ⟨b, ys, f1, f2, A, e⟩ | ⟨b, ys, f1, f2, A, e⟩⟩ := T1
  · obtain rfl := own_L0 e
    exact cll0 l Z a0 hw a1 cz vf b h0 n0 Z0 E f1 f2 A O0 SS
  · obtain rfl := own_G0 e
    exact clu0 l Z a0 hw a1 cz vf b h0 n0 Z0 E f1 f2 A O0 SS
theorem kmk1 (l : Launch) (Z : State) (a0 : Array Value) (hw : ∀ d ∈ tables_1, d.before a0 Z = true) (a1 a2 : Addr) (cz : Int32) (vf : Value) (c0 : Int32) (h0 : Heap) (n0 : Nat) (Z0 : n0 ≤ h0.size) (E_a1 : Exa Z h0 a1 "java/lang/String") (F1 : Fld Z h0 a1 "java/lang/String" "value" "[B" .null) (F2 : Fld Z h0 a1 "java/lang/String" "coder" "B" (.int (0 : Int32))) (A2 : Av Z h0 a2 .char [.int c0]) (O0 : Old Z n0 h0) (g1 : n0 ≤ a1) (SS : SSt Z cz vf) (hch_0 : nar .char c0 = c0) :
    Con l Z (⟨"java/lang/String", "<init>", "([C)V"⟩ : MethodName) jdk_42_method_3_code 2 none ({ frames := 5, cells := 2, slots := 12, locals := 74 } : Room) [] #[(.ref a1), (.ref a2)] h0 (fun v h L => v = none ∧ Fr n0 L ∧ Keep h0 h [a1] ∧ Str Z h a1 [c0]) := by
  by_cases q0 : (255 : Int32) < c0
  · refine Con.mono (csj1_0 l Z a0 hw a1 a2 cz vf c0 h0 n0 Z0 E_a1 F1 F2 A2 O0 g1 SS q0 hch_0) fun v h L => ?_
    rintro ⟨bv, e, N, k, -, f1, f2, A⟩
    exact ⟨e, N, k, ⟨E_a1.keep k, Or.inr ⟨bv, [(BLO c0, BHI c0)], f1, f2, A, by simp only [List.map]; rw [own_rec c0 hch_0]⟩⟩⟩
  · have _ := q0
    refine Con.mono (csj1_1 l Z a0 hw a1 a2 cz vf c0 h0 n0 Z0 E_a1 F1 F2 A2 O0 g1 SS q0) fun v h L => ?_
    rintro ⟨bv, e, N, k, -, f1, f2, A⟩
    exact ⟨e, N, k, ⟨E_a1.keep k, Or.inl ⟨bv, [nar .byte (c0.toInt8.toInt32)], f1, f2, A, by simp only [List.map]; rw [own_lrec c0 hch_0 q0]⟩⟩⟩

theorem kmk2 (l : Launch) (Z : State) (a0 : Array Value) (hw : ∀ d ∈ tables_1, d.before a0 Z = true) (a1 a2 : Addr) (cz : Int32) (vf : Value) (c0 c1 : Int32) (h0 : Heap) (n0 : Nat) (Z0 : n0 ≤ h0.size) (E_a1 : Exa Z h0 a1 "java/lang/String") (F1 : Fld Z h0 a1 "java/lang/String" "value" "[B" .null) (F2 : Fld Z h0 a1 "java/lang/String" "coder" "B" (.int (0 : Int32))) (A2 : Av Z h0 a2 .char [.int c0, .int c1]) (O0 : Old Z n0 h0) (g1 : n0 ≤ a1) (SS : SSt Z cz vf) (hch_0 : nar .char c0 = c0) (hch_1 : nar .char c1 = c1) :
    Con l Z (⟨"java/lang/String", "<init>", "([C)V"⟩ : MethodName) jdk_42_method_3_code 2 none ({ frames := 5, cells := 2, slots := 12, locals := 74 } : Room) [] #[(.ref a1), (.ref a2)] h0 (fun v h L => v = none ∧ Fr n0 L ∧ Keep h0 h [a1] ∧ Str Z h a1 [c0, c1]) := by
  by_cases q0 : (255 : Int32) < c0
  · refine Con.mono (csj2_0 l Z a0 hw a1 a2 cz vf c0 c1 h0 n0 Z0 E_a1 F1 F2 A2 O0 g1 SS q0 hch_0 hch_1) fun v h L => ?_
    rintro ⟨bv, e, N, k, -, f1, f2, A⟩
    exact ⟨e, N, k, ⟨E_a1.keep k, Or.inr ⟨bv, [(BLO c0, BHI c0), (BLO c1, BHI c1)], f1, f2, A, by simp only [List.map]; rw [own_rec c0 hch_0, own_rec c1 hch_1]⟩⟩⟩
  · have _ := q0
    by_cases q1 : (255 : Int32) < c1
    · refine Con.mono (csj2_1 l Z a0 hw a1 a2 cz vf c0 c1 h0 n0 Z0 E_a1 F1 F2 A2 O0 g1 SS q0 q1 hch_0 hch_1) fun v h L => ?_
      rintro ⟨bv, e, N, k, -, f1, f2, A⟩
      exact ⟨e, N, k, ⟨E_a1.keep k, Or.inr ⟨bv, [(BLO c0, BHI c0), (BLO c1, BHI c1)], f1, f2, A, by simp only [List.map]; rw [own_rec c0 hch_0, own_rec c1 hch_1]⟩⟩⟩
    · have _ := q1
      refine Con.mono (csj2_2 l Z a0 hw a1 a2 cz vf c0 c1 h0 n0 Z0 E_a1 F1 F2 A2 O0 g1 SS q0 q1) fun v h L => ?_
      rintro ⟨bv, e, N, k, -, f1, f2, A⟩
      exact ⟨e, N, k, ⟨E_a1.keep k, Or.inl ⟨bv, [nar .byte (c0.toInt8.toInt32), nar .byte (c1.toInt8.toInt32)], f1, f2, A, by simp only [List.map]; rw [own_lrec c0 hch_0 q0, own_lrec c1 hch_1 q1]⟩⟩⟩

theorem kmk3 (l : Launch) (Z : State) (a0 : Array Value) (hw : ∀ d ∈ tables_1, d.before a0 Z = true) (a1 a2 : Addr) (cz : Int32) (vf : Value) (c0 c1 c2 : Int32) (h0 : Heap) (n0 : Nat) (Z0 : n0 ≤ h0.size) (E_a1 : Exa Z h0 a1 "java/lang/String") (F1 : Fld Z h0 a1 "java/lang/String" "value" "[B" .null) (F2 : Fld Z h0 a1 "java/lang/String" "coder" "B" (.int (0 : Int32))) (A2 : Av Z h0 a2 .char [.int c0, .int c1, .int c2]) (O0 : Old Z n0 h0) (g1 : n0 ≤ a1) (SS : SSt Z cz vf) (hch_0 : nar .char c0 = c0) (hch_1 : nar .char c1 = c1) (hch_2 : nar .char c2 = c2) :
    Con l Z (⟨"java/lang/String", "<init>", "([C)V"⟩ : MethodName) jdk_42_method_3_code 2 none ({ frames := 5, cells := 2, slots := 12, locals := 74 } : Room) [] #[(.ref a1), (.ref a2)] h0 (fun v h L => v = none ∧ Fr n0 L ∧ Keep h0 h [a1] ∧ Str Z h a1 [c0, c1, c2]) := by
  by_cases q0 : (255 : Int32) < c0
  · refine Con.mono (csj3_0 l Z a0 hw a1 a2 cz vf c0 c1 c2 h0 n0 Z0 E_a1 F1 F2 A2 O0 g1 SS q0 hch_0 hch_1 hch_2) fun v h L => ?_
    rintro ⟨bv, e, N, k, -, f1, f2, A⟩
    exact ⟨e, N, k, ⟨E_a1.keep k, Or.inr ⟨bv, [(BLO c0, BHI c0), (BLO c1, BHI c1), (BLO c2, BHI c2)], f1, f2, A, by simp only [List.map]; rw [own_rec c0 hch_0, own_rec c1 hch_1, own_rec c2 hch_2]⟩⟩⟩
  · have _ := q0
    by_cases q1 : (255 : Int32) < c1
    · refine Con.mono (csj3_1 l Z a0 hw a1 a2 cz vf c0 c1 c2 h0 n0 Z0 E_a1 F1 F2 A2 O0 g1 SS q0 q1 hch_0 hch_1 hch_2) fun v h L => ?_
      rintro ⟨bv, e, N, k, -, f1, f2, A⟩
      exact ⟨e, N, k, ⟨E_a1.keep k, Or.inr ⟨bv, [(BLO c0, BHI c0), (BLO c1, BHI c1), (BLO c2, BHI c2)], f1, f2, A, by simp only [List.map]; rw [own_rec c0 hch_0, own_rec c1 hch_1, own_rec c2 hch_2]⟩⟩⟩
    · have _ := q1
      by_cases q2 : (255 : Int32) < c2
      · refine Con.mono (csj3_2 l Z a0 hw a1 a2 cz vf c0 c1 c2 h0 n0 Z0 E_a1 F1 F2 A2 O0 g1 SS q0 q1 q2 hch_0 hch_1 hch_2) fun v h L => ?_
        rintro ⟨bv, e, N, k, -, f1, f2, A⟩
        exact ⟨e, N, k, ⟨E_a1.keep k, Or.inr ⟨bv, [(BLO c0, BHI c0), (BLO c1, BHI c1), (BLO c2, BHI c2)], f1, f2, A, by simp only [List.map]; rw [own_rec c0 hch_0, own_rec c1 hch_1, own_rec c2 hch_2]⟩⟩⟩
      · have _ := q2
        refine Con.mono (csj3_3 l Z a0 hw a1 a2 cz vf c0 c1 c2 h0 n0 Z0 E_a1 F1 F2 A2 O0 g1 SS q0 q1 q2) fun v h L => ?_
        rintro ⟨bv, e, N, k, -, f1, f2, A⟩
        exact ⟨e, N, k, ⟨E_a1.keep k, Or.inl ⟨bv, [nar .byte (c0.toInt8.toInt32), nar .byte (c1.toInt8.toInt32), nar .byte (c2.toInt8.toInt32)], f1, f2, A, by simp only [List.map]; rw [own_lrec c0 hch_0 q0, own_lrec c1 hch_1 q1, own_lrec c2 hch_2 q2]⟩⟩⟩

theorem kmk4 (l : Launch) (Z : State) (a0 : Array Value) (hw : ∀ d ∈ tables_1, d.before a0 Z = true) (a1 a2 : Addr) (cz : Int32) (vf : Value) (c0 c1 : Int32) (c2 c3 : Int32) (h0 : Heap) (n0 : Nat) (Z0 : n0 ≤ h0.size) (E_a1 : Exa Z h0 a1 "java/lang/String") (F1 : Fld Z h0 a1 "java/lang/String" "value" "[B" .null) (F2 : Fld Z h0 a1 "java/lang/String" "coder" "B" (.int (0 : Int32))) (A2 : Av Z h0 a2 .char [.int c0, .int c1, .int c2, .int c3]) (O0 : Old Z n0 h0) (g1 : n0 ≤ a1) (SS : SSt Z cz vf) (hch_0 : nar .char c0 = c0) (hch_1 : nar .char c1 = c1) (hch_2 : nar .char c2 = c2) (hch_3 : nar .char c3 = c3) :
    Con l Z (⟨"java/lang/String", "<init>", "([C)V"⟩ : MethodName) jdk_42_method_3_code 2 none ({ frames := 5, cells := 2, slots := 12, locals := 74 } : Room) [] #[(.ref a1), (.ref a2)] h0 (fun v h L => v = none ∧ Fr n0 L ∧ Keep h0 h [a1] ∧ Str Z h a1 [c0, c1, c2, c3]) := by
  by_cases q0 : (255 : Int32) < c0
  · refine Con.mono (csj4_0 l Z a0 hw a1 a2 cz vf c0 c1 c2 c3 h0 n0 Z0 E_a1 F1 F2 A2 O0 g1 SS q0 hch_0 hch_1 hch_2 hch_3) fun v h L => ?_
    rintro ⟨bv, e, N, k, -, f1, f2, A⟩
    exact ⟨e, N, k, ⟨E_a1.keep k, Or.inr ⟨bv, [(BLO c0, BHI c0), (BLO c1, BHI c1), (BLO c2, BHI c2), (BLO c3, BHI c3)], f1, f2, A, by simp only [List.map]; rw [own_rec c0 hch_0, own_rec c1 hch_1, own_rec c2 hch_2, own_rec c3 hch_3]⟩⟩⟩
  · have _ := q0
    by_cases q1 : (255 : Int32) < c1
    · refine Con.mono (csj4_1 l Z a0 hw a1 a2 cz vf c0 c1 c2 c3 h0 n0 Z0 E_a1 F1 F2 A2 O0 g1 SS q0 q1 hch_0 hch_1 hch_2 hch_3) fun v h L => ?_
      rintro ⟨bv, e, N, k, -, f1, f2, A⟩
      exact ⟨e, N, k, ⟨E_a1.keep k, Or.inr ⟨bv, [(BLO c0, BHI c0), (BLO c1, BHI c1), (BLO c2, BHI c2), (BLO c3, BHI c3)], f1, f2, A, by simp only [List.map]; rw [own_rec c0 hch_0, own_rec c1 hch_1, own_rec c2 hch_2, own_rec c3 hch_3]⟩⟩⟩
    · have _ := q1
      by_cases q2 : (255 : Int32) < c2
      · refine Con.mono (csj4_2 l Z a0 hw a1 a2 cz vf c0 c1 c2 c3 h0 n0 Z0 E_a1 F1 F2 A2 O0 g1 SS q0 q1 q2 hch_0 hch_1 hch_2 hch_3) fun v h L => ?_
        rintro ⟨bv, e, N, k, -, f1, f2, A⟩
        exact ⟨e, N, k, ⟨E_a1.keep k, Or.inr ⟨bv, [(BLO c0, BHI c0), (BLO c1, BHI c1), (BLO c2, BHI c2), (BLO c3, BHI c3)], f1, f2, A, by simp only [List.map]; rw [own_rec c0 hch_0, own_rec c1 hch_1, own_rec c2 hch_2, own_rec c3 hch_3]⟩⟩⟩
      · have _ := q2
        by_cases q3 : (255 : Int32) < c3
        · refine Con.mono (csj4_3 l Z a0 hw a1 a2 cz vf c0 c1 c2 c3 h0 n0 Z0 E_a1 F1 F2 A2 O0 g1 SS q0 q1 q2 q3 hch_0 hch_1 hch_2 hch_3) fun v h L => ?_
          rintro ⟨bv, e, N, k, -, f1, f2, A⟩
          exact ⟨e, N, k, ⟨E_a1.keep k, Or.inr ⟨bv, [(BLO c0, BHI c0), (BLO c1, BHI c1), (BLO c2, BHI c2), (BLO c3, BHI c3)], f1, f2, A, by simp only [List.map]; rw [own_rec c0 hch_0, own_rec c1 hch_1, own_rec c2 hch_2, own_rec c3 hch_3]⟩⟩⟩
        · have _ := q3
          refine Con.mono (csj4_4 l Z a0 hw a1 a2 cz vf c0 c1 c2 c3 h0 n0 Z0 E_a1 F1 F2 A2 O0 g1 SS q0 q1 q2 q3) fun v h L => ?_
          rintro ⟨bv, e, N, k, -, f1, f2, A⟩
          exact ⟨e, N, k, ⟨E_a1.keep k, Or.inl ⟨bv, [nar .byte (c0.toInt8.toInt32), nar .byte (c1.toInt8.toInt32), nar .byte (c2.toInt8.toInt32), nar .byte (c3.toInt8.toInt32)], f1, f2, A, by simp only [List.map]; rw [own_lrec c0 hch_0 q0, own_lrec c1 hch_1 q1, own_lrec c2 hch_2 q2, own_lrec c3 hch_3 q3]⟩⟩⟩

def wcp_1 (p1 : Int32) : Int32 := ((p1 &&& (2147483647 : Int32)) % (1112064 : Int32))
def wcp_2 (p1 : Int32) : Int32 := (if (wcp_1 p1) < (55296 : Int32) then (wcp_1 p1) else ((wcp_1 p1) + (2048 : Int32)))
def CPT (p1 : Int32) : Int32 := (wcp_2 p1)
theorem dm3_0 : decode method_3_code 0 = .ok (.iload_n 0, 1) := by decide +kernel
theorem dm3_1 : decode method_3_code 1 = .ok (.ldc 13, 2) := by decide +kernel
theorem dm3_3 : decode method_3_code 3 = .ok (.iand, 1) := by decide +kernel
theorem dm3_4 : decode method_3_code 4 = .ok (.ldc 31, 2) := by decide +kernel
theorem dm3_6 : decode method_3_code 6 = .ok (.irem, 1) := by decide +kernel
theorem dm3_7 : decode method_3_code 7 = .ok (.istore_n 1, 1) := by decide +kernel
theorem dm3_8 : decode method_3_code 8 = .ok (.iload_n 1, 1) := by decide +kernel
theorem dm3_9 : decode method_3_code 9 = .ok (.ldc 32, 2) := by decide +kernel
theorem dm3_11 : decode method_3_code 11 = .ok (.if_icmp .lt 9, 3) := by decide +kernel
theorem dm3_14 : decode method_3_code 14 = .ok (.iinc 1 2048, 6) := by decide +kernel
theorem dm3_20 : decode method_3_code 20 = .ok (.iload_n 1, 1) := by decide +kernel
theorem dm3_21 : decode method_3_code 21 = .ok (.ireturn, 1) := by decide +kernel
theorem pn_com_example_stamp2_stamp2_version_RowFormatCompareStringsPinLaw : plainName "com/example/stamp2/stamp2/version/RowFormatCompareStringsPinLaw" = true := by first | (simp [plainName, overriddenIn]; done) | decide +kernel
theorem efcp (m : MethodId) (x0 : Int32) : entryFrame m #[(.int x0)] 2 = mkF m 0 #[.val (.int x0), .unset] [] := by first | (simp [entryFrame, mkF, argsToLocals, Value.category]; done) | rfl
theorem c_cp (l : Launch) (Z : State) (a0 : Array Value) (hw : ∀ d ∈ tables_1, d.before a0 Z = true) (p1 : Int32) (h0 : Heap) (n0 : Nat) (Z0 : n0 ≤ h0.size) :
    Con l Z (⟨"com/example/stamp2/stamp2/version/RowFormatCompareStringsPinLaw", "cp", "(I)I"⟩ : MethodName) method_3_code 2 (some .int) ({ frames := 0, cells := 0, slots := 0, locals := 0 } : Room) [] #[(.int p1)] h0 (fun v h L => v = some (.int (CPT p1)) ∧ h = h0 ∧ L = []) := by
  refine Con.of (plainFor_of_name pn_com_example_stamp2_stamp2_version_RowFormatCompareStringsPinLaw) #[.val (.int p1), .unset] (fun m => efcp m p1) ?_
  intro p e s m below meth c s₁ K hx hby hml hown hnm hret hlk hZ X0 e0
  have N0 := Fr.nil n0
  refine mIN K X0.here hx hby dm3_0 rfl rfl ?_
  refine m_ldc K X0 hx hby hZ hown (W hw 4 rfl) dm3_1 rfl ?_
  refine m_iand K X0.here hx hby (p1 &&& (2147483647 : Int32)) dm3_3 rfl rfl ?_
  refine m_ldc K X0 hx hby hZ hown (W hw 5 rfl) dm3_4 rfl ?_
  refine m_irem K X0.here hx hby (wcp_1 p1) dm3_6 (by decide) rfl rfl ?_
  refine m_istoreN K X0.here hx hby #[.val (.int p1), .val (.int (wcp_1 p1))] dm3_7 rfl rfl ?_
  refine mIN K X0.here hx hby dm3_8 rfl rfl ?_
  refine m_ldc K X0 hx hby hZ hown (W hw 6 rfl) dm3_9 rfl ?_
  obtain ⟨T2, X2, e2, st2⟩ : Mx X0 h0 (mkF m 20 #[.val (.int p1), .val (.int (wcp_2 p1))] []) (s₁.setTop (mkF m 11 #[.val (.int p1), .val (.int (wcp_1 p1))] [(.int (55296 : Int32)), (.int (wcp_1 p1))])) := by
    refine Mx.with fun K => ?_
    by_cases hc11_1 : (wcp_1 p1) < (55296 : Int32)
    · refine m_icmpY K X0.here hx hby (q := 20) dm3_11 (tlt hc11_1).1 (by decide) rfl ?_
      rw [show ((wcp_2 p1) : Int32) = (wcp_1 p1) from if_pos hc11_1]
      exact Mx.here X0 e0
    · refine m_icmpN K X0.here hx hby (q := 14) dm3_11 (flt hc11_1).1 rfl ?_
      refine m_wiinc K X0.here hx hby #[.val (.int p1), .val (.int ((wcp_1 p1) + (2048 : Int32)))] dm3_14 rfl rfl rfl ?_
      rw [show ((wcp_2 p1) : Int32) = ((wcp_1 p1) + (2048 : Int32)) from if_neg hc11_1]
      exact Mx.here X0 e0
  refine k_go K st2 ?_
  refine mIN K X2.here hx hby dm3_20 rfl rfl ?_
  exact Go.retI X2 hx hby hlk hret dm3_21 (by decide) (by decide) (⟨congrArg (fun z => some (Value.int z)) (rfl), e2, rfl⟩)
def wfu_1 (p1 : Int32) : Int32 := (p1.toUInt32.toUInt16.toUInt32.toInt32)
def wfu_2 (p1 : Int32) : Int32 := (((p1 - (65536 : Int32)).toUInt32 >>> ((10 : Int32) &&& 31).toUInt32).toInt32)
def wfu_3 (p1 : Int32) : Int32 := (((55296 : Int32) + (wfu_2 p1)).toUInt32.toUInt16.toUInt32.toInt32)
def FUN (p1 : Int32) : Int32 := (if p1 < (65536 : Int32) then (wfu_1 p1) else (wfu_3 p1))
theorem dm5_0 : decode method_5_code 0 = .ok (.iload_n 0, 1) := by decide +kernel
theorem dm5_1 : decode method_5_code 1 = .ok (.ldc 33, 2) := by decide +kernel
theorem dm5_3 : decode method_5_code 3 = .ok (.if_icmp .ge 6, 3) := by decide +kernel
theorem dm5_6 : decode method_5_code 6 = .ok (.iload_n 0, 1) := by decide +kernel
theorem dm5_7 : decode method_5_code 7 = .ok (.i2c, 1) := by decide +kernel
theorem dm5_8 : decode method_5_code 8 = .ok (.ireturn, 1) := by decide +kernel
theorem dm5_9 : decode method_5_code 9 = .ok (.ldc 32, 2) := by decide +kernel
theorem dm5_11 : decode method_5_code 11 = .ok (.iload_n 0, 1) := by decide +kernel
theorem dm5_12 : decode method_5_code 12 = .ok (.ldc 33, 2) := by decide +kernel
theorem dm5_14 : decode method_5_code 14 = .ok (.isub, 1) := by decide +kernel
theorem dm5_15 : decode method_5_code 15 = .ok (.bipush 10, 2) := by decide +kernel
theorem dm5_17 : decode method_5_code 17 = .ok (.iushr, 1) := by decide +kernel
theorem dm5_18 : decode method_5_code 18 = .ok (.iadd, 1) := by decide +kernel
theorem dm5_19 : decode method_5_code 19 = .ok (.i2c, 1) := by decide +kernel
theorem dm5_20 : decode method_5_code 20 = .ok (.ireturn, 1) := by decide +kernel
theorem effu (m : MethodId) (x0 : Int32) : entryFrame m #[(.int x0)] 1 = mkF m 0 #[.val (.int x0)] [] := by first | (simp [entryFrame, mkF, argsToLocals, Value.category]; done) | rfl
theorem c_fu (l : Launch) (Z : State) (a0 : Array Value) (hw : ∀ d ∈ tables_1, d.before a0 Z = true) (p1 : Int32) (h0 : Heap) (n0 : Nat) (Z0 : n0 ≤ h0.size) :
    Con l Z (⟨"com/example/stamp2/stamp2/version/RowFormatCompareStringsPinLaw", "firstUnit", "(I)C"⟩ : MethodName) method_5_code 1 (some .char) ({ frames := 0, cells := 0, slots := 0, locals := 0 } : Room) [] #[(.int p1)] h0 (fun v h L => v = some (.int (FUN p1)) ∧ h = h0 ∧ L = []) := by
  refine Con.of (plainFor_of_name pn_com_example_stamp2_stamp2_version_RowFormatCompareStringsPinLaw) #[.val (.int p1)] (fun m => effu m p1) ?_
  intro p e s m below meth c s₁ K hx hby hml hown hnm hret hlk hZ X0 e0
  have N0 := Fr.nil n0
  refine mIN K X0.here hx hby dm5_0 rfl rfl ?_
  refine m_ldc K X0 hx hby hZ hown (W hw 64 rfl) dm5_1 rfl ?_
  by_cases hc3_1 : p1 < (65536 : Int32)
  · refine m_icmpN K X0.here hx hby (q := 6) dm5_3 (tlt hc3_1).2.1 rfl ?_
    refine mIN K X0.here hx hby dm5_6 rfl rfl ?_
    refine m_i2c K X0.here hx hby (wfu_1 p1) dm5_7 rfl rfl ?_
    exact Go.retN X0 hx hby hlk hret (by simp) dm5_8 (by decide) (by decide) (own_nc _) (⟨congrArg (fun z => some (Value.int z)) (Eq.symm (by rw [FUN, if_pos hc3_1])), e0, rfl⟩)
  · refine m_icmpY K X0.here hx hby (q := 9) dm5_3 (flt hc3_1).2.1 (by decide) rfl ?_
    refine m_ldc K X0 hx hby hZ hown (W hw 6 rfl) dm5_9 rfl ?_
    refine mIN K X0.here hx hby dm5_11 rfl rfl ?_
    refine m_ldc K X0 hx hby hZ hown (W hw 64 rfl) dm5_12 rfl ?_
    refine m_isub K X0.here hx hby (p1 - (65536 : Int32)) dm5_14 rfl rfl ?_
    refine mB K X0.here hx hby (10 : Int32) dm5_15 rfl rfl ?_
    refine m_iushr K X0.here hx hby (wfu_2 p1) dm5_17 rfl rfl ?_
    refine m_iadd K X0.here hx hby ((55296 : Int32) + (wfu_2 p1)) dm5_18 rfl rfl ?_
    refine m_i2c K X0.here hx hby (wfu_3 p1) dm5_19 rfl rfl ?_
    exact Go.retN X0 hx hby hlk hret (by simp) dm5_20 (by decide) (by decide) (own_nc _) (⟨congrArg (fun z => some (Value.int z)) (Eq.symm (by rw [FUN, if_neg hc3_1])), e0, rfl⟩)
def wsu_1 (p1 : Int32) : Int32 := ((p1 - (65536 : Int32)) &&& (1023 : Int32))
def wsu_2 (p1 : Int32) : Int32 := (((56320 : Int32) + (wsu_1 p1)).toUInt32.toUInt16.toUInt32.toInt32)
def SUN (p1 : Int32) : Int32 := (wsu_2 p1)
theorem dm6_0 : decode method_6_code 0 = .ok (.ldc 34, 2) := by decide +kernel
theorem dm6_2 : decode method_6_code 2 = .ok (.iload_n 0, 1) := by decide +kernel
theorem dm6_3 : decode method_6_code 3 = .ok (.ldc 33, 2) := by decide +kernel
theorem dm6_5 : decode method_6_code 5 = .ok (.isub, 1) := by decide +kernel
theorem dm6_6 : decode method_6_code 6 = .ok (.sipush 1023, 3) := by decide +kernel
theorem dm6_9 : decode method_6_code 9 = .ok (.iand, 1) := by decide +kernel
theorem dm6_10 : decode method_6_code 10 = .ok (.iadd, 1) := by decide +kernel
theorem dm6_11 : decode method_6_code 11 = .ok (.i2c, 1) := by decide +kernel
theorem dm6_12 : decode method_6_code 12 = .ok (.ireturn, 1) := by decide +kernel
theorem efsu (m : MethodId) (x0 : Int32) : entryFrame m #[(.int x0)] 1 = mkF m 0 #[.val (.int x0)] [] := by first | (simp [entryFrame, mkF, argsToLocals, Value.category]; done) | rfl
theorem c_su (l : Launch) (Z : State) (a0 : Array Value) (hw : ∀ d ∈ tables_1, d.before a0 Z = true) (p1 : Int32) (h0 : Heap) (n0 : Nat) (Z0 : n0 ≤ h0.size) :
    Con l Z (⟨"com/example/stamp2/stamp2/version/RowFormatCompareStringsPinLaw", "secondUnit", "(I)C"⟩ : MethodName) method_6_code 1 (some .char) ({ frames := 0, cells := 0, slots := 0, locals := 0 } : Room) [] #[(.int p1)] h0 (fun v h L => v = some (.int (SUN p1)) ∧ h = h0 ∧ L = []) := by
  refine Con.of (plainFor_of_name pn_com_example_stamp2_stamp2_version_RowFormatCompareStringsPinLaw) #[.val (.int p1)] (fun m => efsu m p1) ?_
  intro p e s m below meth c s₁ K hx hby hml hown hnm hret hlk hZ X0 e0
  have N0 := Fr.nil n0
  refine m_ldc K X0 hx hby hZ hown (W hw 68 rfl) dm6_0 rfl ?_
  refine mIN K X0.here hx hby dm6_2 rfl rfl ?_
  refine m_ldc K X0 hx hby hZ hown (W hw 64 rfl) dm6_3 rfl ?_
  refine m_isub K X0.here hx hby (p1 - (65536 : Int32)) dm6_5 rfl rfl ?_
  refine mP K X0.here hx hby (1023 : Int32) dm6_6 rfl rfl ?_
  refine m_iand K X0.here hx hby (wsu_1 p1) dm6_9 rfl rfl ?_
  refine m_iadd K X0.here hx hby ((56320 : Int32) + (wsu_1 p1)) dm6_10 rfl rfl ?_
  refine m_i2c K X0.here hx hby (wsu_2 p1) dm6_11 rfl rfl ?_
  exact Go.retN X0 hx hby hlk hret (by simp) dm6_12 (by decide) (by decide) (own_nc _) (⟨congrArg (fun z => some (Value.int z)) (rfl), e0, rfl⟩)
def wwi_1 (p1 : Int32) : Int32 := (if p1 < (65536 : Int32) then (1 : Int32) else (2 : Int32))
def WID (p1 : Int32) : Int32 := (wwi_1 p1)
theorem dm4_0 : decode method_4_code 0 = .ok (.iload_n 0, 1) := by decide +kernel
theorem dm4_1 : decode method_4_code 1 = .ok (.ldc 33, 2) := by decide +kernel
theorem dm4_3 : decode method_4_code 3 = .ok (.if_icmp .ge 7, 3) := by decide +kernel
theorem dm4_6 : decode method_4_code 6 = .ok (.iconst 1, 1) := by decide +kernel
theorem dm4_7 : decode method_4_code 7 = .ok (.goto 4, 3) := by decide +kernel
theorem dm4_10 : decode method_4_code 10 = .ok (.iconst 2, 1) := by decide +kernel
theorem dm4_11 : decode method_4_code 11 = .ok (.ireturn, 1) := by decide +kernel
theorem efwi (m : MethodId) (x0 : Int32) : entryFrame m #[(.int x0)] 1 = mkF m 0 #[.val (.int x0)] [] := by first | (simp [entryFrame, mkF, argsToLocals, Value.category]; done) | rfl
theorem c_wi (l : Launch) (Z : State) (a0 : Array Value) (hw : ∀ d ∈ tables_1, d.before a0 Z = true) (p1 : Int32) (h0 : Heap) (n0 : Nat) (Z0 : n0 ≤ h0.size) :
    Con l Z (⟨"com/example/stamp2/stamp2/version/RowFormatCompareStringsPinLaw", "width", "(I)I"⟩ : MethodName) method_4_code 1 (some .int) ({ frames := 0, cells := 0, slots := 0, locals := 0 } : Room) [] #[(.int p1)] h0 (fun v h L => v = some (.int (WID p1)) ∧ h = h0 ∧ L = []) := by
  refine Con.of (plainFor_of_name pn_com_example_stamp2_stamp2_version_RowFormatCompareStringsPinLaw) #[.val (.int p1)] (fun m => efwi m p1) ?_
  intro p e s m below meth c s₁ K hx hby hml hown hnm hret hlk hZ X0 e0
  have N0 := Fr.nil n0
  refine mIN K X0.here hx hby dm4_0 rfl rfl ?_
  refine m_ldc K X0 hx hby hZ hown (W hw 64 rfl) dm4_1 rfl ?_
  obtain ⟨T2, X2, e2, st2⟩ : Mx X0 h0 (mkF m 11 #[.val (.int p1)] [(.int (wwi_1 p1))]) (s₁.setTop (mkF m 3 #[.val (.int p1)] [(.int (65536 : Int32)), (.int p1)])) := by
    refine Mx.with fun K => ?_
    by_cases hc3_1 : p1 < (65536 : Int32)
    · refine m_icmpN K X0.here hx hby (q := 6) dm4_3 (tlt hc3_1).2.1 rfl ?_
      refine mC K X0.here hx hby (1 : Int32) dm4_6 rfl rfl ?_
      refine m_goto K X0.here hx hby (q := 11) dm4_7 (by decide) rfl ?_
      rw [show ((wwi_1 p1) : Int32) = (1 : Int32) from if_pos hc3_1]
      exact Mx.here X0 e0
    · refine m_icmpY K X0.here hx hby (q := 10) dm4_3 (flt hc3_1).2.1 (by decide) rfl ?_
      refine mC K X0.here hx hby (2 : Int32) dm4_10 rfl rfl ?_
      rw [show ((wwi_1 p1) : Int32) = (2 : Int32) from if_neg hc3_1]
      exact Mx.here X0 e0
  refine k_go K st2 ?_
  exact Go.retI X2 hx hby hlk hret dm4_11 (by decide) (by decide) (⟨congrArg (fun z => some (Value.int z)) (rfl), e2, rfl⟩)
def SGN (p1 : Int32) : Int32 := (if p1 < (0 : Int32) then (-1 : Int32) else (if (0 : Int32) < p1 then (1 : Int32) else (0 : Int32)))
theorem dm8_0 : decode method_8_code 0 = .ok (.iload_n 0, 1) := by decide +kernel
theorem dm8_1 : decode method_8_code 1 = .ok (.ifCond .ge 5, 3) := by decide +kernel
theorem dm8_4 : decode method_8_code 4 = .ok (.iconst (-1), 1) := by decide +kernel
theorem dm8_5 : decode method_8_code 5 = .ok (.ireturn, 1) := by decide +kernel
theorem dm8_6 : decode method_8_code 6 = .ok (.iload_n 0, 1) := by decide +kernel
theorem dm8_7 : decode method_8_code 7 = .ok (.ifCond .le 5, 3) := by decide +kernel
theorem dm8_10 : decode method_8_code 10 = .ok (.iconst 1, 1) := by decide +kernel
theorem dm8_11 : decode method_8_code 11 = .ok (.ireturn, 1) := by decide +kernel
theorem dm8_12 : decode method_8_code 12 = .ok (.iconst 0, 1) := by decide +kernel
theorem dm8_13 : decode method_8_code 13 = .ok (.ireturn, 1) := by decide +kernel
theorem efsg (m : MethodId) (x0 : Int32) : entryFrame m #[(.int x0)] 1 = mkF m 0 #[.val (.int x0)] [] := by first | (simp [entryFrame, mkF, argsToLocals, Value.category]; done) | rfl
theorem c_sg (l : Launch) (Z : State) (a0 : Array Value) (hw : ∀ d ∈ tables_1, d.before a0 Z = true) (p1 : Int32) (h0 : Heap) (n0 : Nat) (Z0 : n0 ≤ h0.size) :
    Con l Z (⟨"com/example/stamp2/stamp2/version/RowFormatCompareStringsPinLaw", "sign", "(I)I"⟩ : MethodName) method_8_code 1 (some .int) ({ frames := 0, cells := 0, slots := 0, locals := 0 } : Room) [] #[(.int p1)] h0 (fun v h L => v = some (.int (SGN p1)) ∧ h = h0 ∧ L = []) := by
  refine Con.of (plainFor_of_name pn_com_example_stamp2_stamp2_version_RowFormatCompareStringsPinLaw) #[.val (.int p1)] (fun m => efsg m p1) ?_
  intro p e s m below meth c s₁ K hx hby hml hown hnm hret hlk hZ X0 e0
  have N0 := Fr.nil n0
  refine mIN K X0.here hx hby dm8_0 rfl rfl ?_
  by_cases hc1_1 : p1 < (0 : Int32)
  · refine m_ifN K X0.here hx hby (q := 4) dm8_1 ((if0 _ _).trans (tlt hc1_1).2.1) rfl ?_
    refine mC K X0.here hx hby (-1 : Int32) dm8_4 rfl rfl ?_
    exact Go.retI X0 hx hby hlk hret dm8_5 (by decide) (by decide) (⟨congrArg (fun z => some (Value.int z)) (Eq.symm (by rw [SGN, if_pos hc1_1])), e0, rfl⟩)
  · refine m_ifY K X0.here hx hby (q := 6) dm8_1 ((if0 _ _).trans (flt hc1_1).2.1) (by decide) rfl ?_
    refine mIN K X0.here hx hby dm8_6 rfl rfl ?_
    by_cases hc7_2 : (0 : Int32) < p1
    · refine m_ifN K X0.here hx hby (q := 10) dm8_7 ((if0 _ _).trans (tlt hc7_2).2.2.2) rfl ?_
      refine mC K X0.here hx hby (1 : Int32) dm8_10 rfl rfl ?_
      exact Go.retI X0 hx hby hlk hret dm8_11 (by decide) (by decide) (⟨congrArg (fun z => some (Value.int z)) (Eq.symm (by rw [SGN, if_neg hc1_1, if_pos hc7_2])), e0, rfl⟩)
    · refine m_ifY K X0.here hx hby (q := 12) dm8_7 ((if0 _ _).trans (flt hc7_2).2.2.2) (by decide) rfl ?_
      refine mC K X0.here hx hby (0 : Int32) dm8_12 rfl rfl ?_
      exact Go.retI X0 hx hby hlk hret dm8_13 (by decide) (by decide) (⟨congrArg (fun z => some (Value.int z)) (Eq.symm (by rw [SGN, if_neg hc1_1, if_neg hc7_2])), e0, rfl⟩)
def wrk_1 (p1 : Int32) : Int32 := (if p1 < (55296 : Int32) then p1 else (p1 + (8192 : Int32)))
def wrk_2 (p1 : Int32) : Int32 := (if p1 < (57344 : Int32) then (wrk_1 p1) else (p1 + (-2048 : Int32)))
def RNK (p1 : Int32) : Int32 := (wrk_2 p1)
theorem dp50_27_0 : decode prog_50_method_27_code 0 = .ok (.iload_n 0, 1) := by decide +kernel
theorem dp50_27_1 : decode prog_50_method_27_code 1 = .ok (.istore_n 1, 1) := by decide +kernel
theorem dp50_27_2 : decode prog_50_method_27_code 2 = .ok (.iload_n 0, 1) := by decide +kernel
theorem dp50_27_3 : decode prog_50_method_27_code 3 = .ok (.ldc_w 267, 3) := by decide +kernel
theorem dp50_27_6 : decode prog_50_method_27_code 6 = .ok (.if_icmp .lt 12, 3) := by decide +kernel
theorem dp50_27_9 : decode prog_50_method_27_code 9 = .ok (.iinc 1 (-2048), 6) := by decide +kernel
theorem dp50_27_15 : decode prog_50_method_27_code 15 = .ok (.goto 16, 3) := by decide +kernel
theorem dp50_27_18 : decode prog_50_method_27_code 18 = .ok (.iload_n 0, 1) := by decide +kernel
theorem dp50_27_19 : decode prog_50_method_27_code 19 = .ok (.ldc_w 268, 3) := by decide +kernel
theorem dp50_27_22 : decode prog_50_method_27_code 22 = .ok (.if_icmp .lt 9, 3) := by decide +kernel
theorem dp50_27_25 : decode prog_50_method_27_code 25 = .ok (.iinc 1 8192, 6) := by decide +kernel
theorem dp50_27_31 : decode prog_50_method_27_code 31 = .ok (.iload_n 1, 1) := by decide +kernel
theorem dp50_27_32 : decode prog_50_method_27_code 32 = .ok (.ireturn, 1) := by decide +kernel
theorem pn_com_example_stamp2_stamp2_version_RowFormat : plainName "com/example/stamp2/stamp2/version/RowFormat" = true := by first | (simp [plainName, overriddenIn]; done) | decide +kernel
theorem efrk (m : MethodId) (x0 : Int32) : entryFrame m #[(.int x0)] 2 = mkF m 0 #[.val (.int x0), .unset] [] := by first | (simp [entryFrame, mkF, argsToLocals, Value.category]; done) | rfl
theorem c_rk (l : Launch) (Z : State) (a0 : Array Value) (hw : ∀ d ∈ tables_1, d.before a0 Z = true) (p1 : Int32) (h0 : Heap) (n0 : Nat) (Z0 : n0 ≤ h0.size) :
    Con l Z (⟨"com/example/stamp2/stamp2/version/RowFormat", "codePointRank", "(C)I"⟩ : MethodName) prog_50_method_27_code 2 (some .int) ({ frames := 0, cells := 0, slots := 0, locals := 0 } : Room) [] #[(.int p1)] h0 (fun v h L => v = some (.int (RNK p1)) ∧ h = h0 ∧ L = []) := by
  refine Con.of (plainFor_of_name pn_com_example_stamp2_stamp2_version_RowFormat) #[.val (.int p1), .unset] (fun m => efrk m p1) ?_
  intro p e s m below meth c s₁ K hx hby hml hown hnm hret hlk hZ X0 e0
  have N0 := Fr.nil n0
  refine mIN K X0.here hx hby dp50_27_0 rfl rfl ?_
  refine m_istoreN K X0.here hx hby #[.val (.int p1), .val (.int p1)] dp50_27_1 rfl rfl ?_
  refine mIN K X0.here hx hby dp50_27_2 rfl rfl ?_
  refine m_ldcw K X0 hx hby hZ hown (W hw 107 rfl) dp50_27_3 rfl ?_
  obtain ⟨T4, X4, e4, st4⟩ : Mx X0 h0 (mkF m 31 #[.val (.int p1), .val (.int (wrk_2 p1))] []) (s₁.setTop (mkF m 6 #[.val (.int p1), .val (.int p1)] [(.int (57344 : Int32)), (.int p1)])) := by
    refine Mx.with fun K => ?_
    by_cases hc6_1 : p1 < (57344 : Int32)
    · refine m_icmpY K X0.here hx hby (q := 18) dp50_27_6 (tlt hc6_1).1 (by decide) rfl ?_
      refine mIN K X0.here hx hby dp50_27_18 rfl rfl ?_
      refine m_ldcw K X0 hx hby hZ hown (W hw 108 rfl) dp50_27_19 rfl ?_
      obtain ⟨T3, X3, e3, st3⟩ : Mx X0 h0 (mkF m 31 #[.val (.int p1), .val (.int (wrk_1 p1))] []) (s₁.setTop (mkF m 22 #[.val (.int p1), .val (.int p1)] [(.int (55296 : Int32)), (.int p1)])) := by
        refine Mx.with fun K => ?_
        by_cases hc22_2 : p1 < (55296 : Int32)
        · refine m_icmpY K X0.here hx hby (q := 31) dp50_27_22 (tlt hc22_2).1 (by decide) rfl ?_
          rw [show ((wrk_1 p1) : Int32) = p1 from if_pos hc22_2]
          exact Mx.here X0 e0
        · refine m_icmpN K X0.here hx hby (q := 25) dp50_27_22 (flt hc22_2).1 rfl ?_
          refine m_wiinc K X0.here hx hby #[.val (.int p1), .val (.int (p1 + (8192 : Int32)))] dp50_27_25 rfl rfl rfl ?_
          rw [show ((wrk_1 p1) : Int32) = (p1 + (8192 : Int32)) from if_neg hc22_2]
          exact Mx.here X0 e0
      refine k_go K st3 ?_
      rw [show ((wrk_2 p1) : Int32) = (wrk_1 p1) from if_pos hc6_1]
      exact Mx.here X3 e3
    · refine m_icmpN K X0.here hx hby (q := 9) dp50_27_6 (flt hc6_1).1 rfl ?_
      refine m_wiinc K X0.here hx hby #[.val (.int p1), .val (.int (p1 + (-2048 : Int32)))] dp50_27_9 rfl rfl rfl ?_
      refine m_goto K X0.here hx hby (q := 31) dp50_27_15 (by decide) rfl ?_
      rw [show ((wrk_2 p1) : Int32) = (p1 + (-2048 : Int32)) from if_neg hc6_1]
      exact Mx.here X0 e0
  refine k_go K st4 ?_
  refine mIN K X4.here hx hby dp50_27_31 rfl rfl ?_
  exact Go.retI X4 hx hby hlk hret dp50_27_32 (by decide) (by decide) (⟨congrArg (fun z => some (Value.int z)) (rfl), e4, rfl⟩)
def wic_1 (p1 p2 : Int32) : Int32 := (if p1 = p2 then (0 : Int32) else (1 : Int32))
theorem wic_1_01 (p1 p2 : Int32) : (wic_1 p1 p2) = 0 ∨ (wic_1 p1 p2) = 1 := by
  unfold wic_1
  split
  · exact (Or.inl rfl)
  · exact (Or.inr rfl)
def wic_2 (p1 p2 : Int32) : Int32 := (if p1 < p2 then (-1 : Int32) else (wic_1 p1 p2))
def ICM (p1 p2 : Int32) : Int32 := (wic_2 p1 p2)
theorem dj33_40_0 : decode jdk_33_method_40_code 0 = .ok (.iload_n 0, 1) := by decide +kernel
theorem dj33_40_1 : decode jdk_33_method_40_code 1 = .ok (.iload_n 1, 1) := by decide +kernel
theorem dj33_40_2 : decode jdk_33_method_40_code 2 = .ok (.if_icmp .ge 7, 3) := by decide +kernel
theorem dj33_40_5 : decode jdk_33_method_40_code 5 = .ok (.iconst (-1), 1) := by decide +kernel
theorem dj33_40_6 : decode jdk_33_method_40_code 6 = .ok (.goto 13, 3) := by decide +kernel
theorem dj33_40_9 : decode jdk_33_method_40_code 9 = .ok (.iload_n 0, 1) := by decide +kernel
theorem dj33_40_10 : decode jdk_33_method_40_code 10 = .ok (.iload_n 1, 1) := by decide +kernel
theorem dj33_40_11 : decode jdk_33_method_40_code 11 = .ok (.if_icmp .ne 7, 3) := by decide +kernel
theorem dj33_40_14 : decode jdk_33_method_40_code 14 = .ok (.iconst 0, 1) := by decide +kernel
theorem dj33_40_15 : decode jdk_33_method_40_code 15 = .ok (.goto 4, 3) := by decide +kernel
theorem dj33_40_18 : decode jdk_33_method_40_code 18 = .ok (.iconst 1, 1) := by decide +kernel
theorem dj33_40_19 : decode jdk_33_method_40_code 19 = .ok (.ireturn, 1) := by decide +kernel
theorem pn_java_lang_Integer : plainName "java/lang/Integer" = true := by first | (simp [plainName, overriddenIn]; done) | decide +kernel
theorem efic (m : MethodId) (x0 x1 : Int32) : entryFrame m #[(.int x0), (.int x1)] 2 = mkF m 0 #[.val (.int x0), .val (.int x1)] [] := by first | (simp [entryFrame, mkF, argsToLocals, Value.category]; done) | rfl
theorem c_ic (l : Launch) (Z : State) (a0 : Array Value) (hw : ∀ d ∈ tables_1, d.before a0 Z = true) (p1 p2 : Int32) (h0 : Heap) (n0 : Nat) (Z0 : n0 ≤ h0.size) :
    Con l Z (⟨"java/lang/Integer", "compare", "(II)I"⟩ : MethodName) jdk_33_method_40_code 2 (some .int) ({ frames := 0, cells := 0, slots := 0, locals := 0 } : Room) [] #[(.int p1), (.int p2)] h0 (fun v h L => v = some (.int (ICM p1 p2)) ∧ h = h0 ∧ L = []) := by
  refine Con.of (plainFor_of_name pn_java_lang_Integer) #[.val (.int p1), .val (.int p2)] (fun m => efic m p1 p2) ?_
  intro p e s m below meth c s₁ K hx hby hml hown hnm hret hlk hZ X0 e0
  have N0 := Fr.nil n0
  refine mIN K X0.here hx hby dj33_40_0 rfl rfl ?_
  refine mIN K X0.here hx hby dj33_40_1 rfl rfl ?_
  obtain ⟨T4, X4, e4, st4⟩ : Mx X0 h0 (mkF m 19 #[.val (.int p1), .val (.int p2)] [(.int (wic_2 p1 p2))]) (s₁.setTop (mkF m 2 #[.val (.int p1), .val (.int p2)] [(.int p2), (.int p1)])) := by
    refine Mx.with fun K => ?_
    by_cases hc2_1 : p1 < p2
    · refine m_icmpN K X0.here hx hby (q := 5) dj33_40_2 (tlt hc2_1).2.1 rfl ?_
      refine mC K X0.here hx hby (-1 : Int32) dj33_40_5 rfl rfl ?_
      refine m_goto K X0.here hx hby (q := 19) dj33_40_6 (by decide) rfl ?_
      rw [show ((wic_2 p1 p2) : Int32) = (-1 : Int32) from if_pos hc2_1]
      exact Mx.here X0 e0
    · refine m_icmpY K X0.here hx hby (q := 9) dj33_40_2 (flt hc2_1).2.1 (by decide) rfl ?_
      refine mIN K X0.here hx hby dj33_40_9 rfl rfl ?_
      refine mIN K X0.here hx hby dj33_40_10 rfl rfl ?_
      obtain ⟨T3, X3, e3, st3⟩ : Mx X0 h0 (mkF m 19 #[.val (.int p1), .val (.int p2)] [(.int (wic_1 p1 p2))]) (s₁.setTop (mkF m 11 #[.val (.int p1), .val (.int p2)] [(.int p2), (.int p1)])) := by
        refine Mx.with fun K => ?_
        by_cases hc11_2 : p1 = p2
        · refine m_icmpN K X0.here hx hby (q := 14) dj33_40_11 (teq hc11_2).2 rfl ?_
          refine mC K X0.here hx hby (0 : Int32) dj33_40_14 rfl rfl ?_
          refine m_goto K X0.here hx hby (q := 19) dj33_40_15 (by decide) rfl ?_
          rw [show ((wic_1 p1 p2) : Int32) = (0 : Int32) from if_pos hc11_2]
          exact Mx.here X0 e0
        · refine m_icmpY K X0.here hx hby (q := 18) dj33_40_11 (feq hc11_2).2 (by decide) rfl ?_
          refine mC K X0.here hx hby (1 : Int32) dj33_40_18 rfl rfl ?_
          rw [show ((wic_1 p1 p2) : Int32) = (1 : Int32) from if_neg hc11_2]
          exact Mx.here X0 e0
      refine k_go K st3 ?_
      rw [show ((wic_2 p1 p2) : Int32) = (wic_1 p1 p2) from if_neg hc2_1]
      exact Mx.here X3 e3
  refine k_go K st4 ?_
  exact Go.retI X4 hx hby hlk hret dj33_40_19 (by decide) (by decide) (⟨congrArg (fun z => some (Value.int z)) (rfl), e4, rfl⟩)
def wmi_1 (p1 p2 : Int32) : Int32 := (if p2 < p1 then p2 else p1)
def MNI (p1 p2 : Int32) : Int32 := (wmi_1 p1 p2)
theorem dj29_69_0 : decode jdk_29_method_69_code 0 = .ok (.iload_n 0, 1) := by decide +kernel
theorem dj29_69_1 : decode jdk_29_method_69_code 1 = .ok (.iload_n 1, 1) := by decide +kernel
theorem dj29_69_2 : decode jdk_29_method_69_code 2 = .ok (.if_icmp .gt 7, 3) := by decide +kernel
theorem dj29_69_5 : decode jdk_29_method_69_code 5 = .ok (.iload_n 0, 1) := by decide +kernel
theorem dj29_69_6 : decode jdk_29_method_69_code 6 = .ok (.goto 4, 3) := by decide +kernel
theorem dj29_69_9 : decode jdk_29_method_69_code 9 = .ok (.iload_n 1, 1) := by decide +kernel
theorem dj29_69_10 : decode jdk_29_method_69_code 10 = .ok (.ireturn, 1) := by decide +kernel
theorem efmi (m : MethodId) (x0 x1 : Int32) : entryFrame m #[(.int x0), (.int x1)] 2 = mkF m 0 #[.val (.int x0), .val (.int x1)] [] := by first | (simp [entryFrame, mkF, argsToLocals, Value.category]; done) | rfl
theorem c_mi (l : Launch) (Z : State) (a0 : Array Value) (hw : ∀ d ∈ tables_1, d.before a0 Z = true) (p1 p2 : Int32) (h0 : Heap) (n0 : Nat) (Z0 : n0 ≤ h0.size) :
    Con l Z (⟨"java/lang/Math", "min", "(II)I"⟩ : MethodName) jdk_29_method_69_code 2 (some .int) ({ frames := 0, cells := 0, slots := 0, locals := 0 } : Room) [] #[(.int p1), (.int p2)] h0 (fun v h L => v = some (.int (MNI p1 p2)) ∧ h = h0 ∧ L = []) := by
  refine Con.of (Jvm.Free.JP.mathPlain rfl (by decide +kernel)) #[.val (.int p1), .val (.int p2)] (fun m => efmi m p1 p2) ?_
  intro p e s m below meth c s₁ K hx hby hml hown hnm hret hlk hZ X0 e0
  have N0 := Fr.nil n0
  refine mIN K X0.here hx hby dj29_69_0 rfl rfl ?_
  refine mIN K X0.here hx hby dj29_69_1 rfl rfl ?_
  obtain ⟨T2, X2, e2, st2⟩ : Mx X0 h0 (mkF m 10 #[.val (.int p1), .val (.int p2)] [(.int (wmi_1 p1 p2))]) (s₁.setTop (mkF m 2 #[.val (.int p1), .val (.int p2)] [(.int p2), (.int p1)])) := by
    refine Mx.with fun K => ?_
    by_cases hc2_1 : p2 < p1
    · refine m_icmpY K X0.here hx hby (q := 9) dj29_69_2 (tlt hc2_1).2.2.1 (by decide) rfl ?_
      refine mIN K X0.here hx hby dj29_69_9 rfl rfl ?_
      rw [show ((wmi_1 p1 p2) : Int32) = p2 from if_pos hc2_1]
      exact Mx.here X0 e0
    · refine m_icmpN K X0.here hx hby (q := 5) dj29_69_2 (flt hc2_1).2.2.1 rfl ?_
      refine mIN K X0.here hx hby dj29_69_5 rfl rfl ?_
      refine m_goto K X0.here hx hby (q := 10) dj29_69_6 (by decide) rfl ?_
      rw [show ((wmi_1 p1 p2) : Int32) = p1 from if_neg hc2_1]
      exact Mx.here X0 e0
  refine k_go K st2 ?_
  exact Go.retI X2 hx hby hlk hret dj29_69_10 (by decide) (by decide) (⟨congrArg (fun z => some (Value.int z)) (rfl), e2, rfl⟩)
def CMG (n m : Int32) : List Int32 → List Int32 → Int32
  | u :: us, v :: vs => if u = v then CMG n m us vs else ICM (RNK u) (RNK v)
  | _, _ => ICM n m
theorem own_mnf : ∀ k n m : Fin 5, ((Int32.ofNat k.val) < MNI (Int32.ofNat n.val) (Int32.ofNat m.val)) ↔ (k.val < n.val ∧ k.val < m.val) := by decide +kernel
theorem own_mn {us vs : List Int32} (hu : us.length ≤ 4) (hv : vs.length ≤ 4) (k : Nat) (hk : k ≤ 4) : ((Int32.ofNat k) < MNI (Int32.ofNat us.length) (Int32.ofNat vs.length)) ↔ (k < us.length ∧ k < vs.length) := own_mnf ⟨k, by omega⟩ ⟨us.length, by omega⟩ ⟨vs.length, by omega⟩
theorem own_no4 {us vs : List Int32} (hu : us.length ≤ 4) (hv : vs.length ≤ 4) : ¬ ((4 : Int32) < MNI (Int32.ofNat us.length) (Int32.ofNat vs.length)) := fun q => by
  have := (own_mn hu hv 4 (by decide)).mp q
  omega
theorem klen (l : Launch) (Z : State) (a0 : Array Value) (hw : ∀ d ∈ tables_1, d.before a0 Z = true) (a1 : Addr) (cz : Int32) (vf : Value) (us : List Int32) (h0 : Heap) (n0 : Nat) (Z0 : n0 ≤ h0.size) (hu : us.length ≤ 4) (Y1 : Str Z h0 a1 us) (O0 : Old Z n0 h0) (SS : SSt Z cz vf) :
    Con l Z (⟨"java/lang/String", "length", "()I"⟩ : MethodName) jdk_42_method_54_code 1 (some .int) ({ frames := 1, cells := 0, slots := 0, locals := 13 } : Room) [] #[(.ref a1)] h0 (fun v h L => v = some (.int (Int32.ofNat us.length)) ∧ h = h0 ∧ L = []) := by
  rcases us with _ | ⟨c0, _ | ⟨c1, _ | ⟨c2, _ | ⟨c3, _ | ⟨c4, ct⟩⟩⟩⟩⟩
  · exact klen0 l Z a0 hw a1 cz vf  h0 n0 Z0 Y1 O0 SS
  · exact klen1 l Z a0 hw a1 cz vf c0 h0 n0 Z0 Y1 O0 SS
  · exact klen2 l Z a0 hw a1 cz vf c0 c1 h0 n0 Z0 Y1 O0 SS
  · exact klen3 l Z a0 hw a1 cz vf c0 c1 c2 h0 n0 Z0 Y1 O0 SS
  · exact klen4 l Z a0 hw a1 cz vf c0 c1 c2 c3 h0 n0 Z0 Y1 O0 SS
  · simp at hu
theorem kch0 (l : Launch) (Z : State) (a0 : Array Value) (hw : ∀ d ∈ tables_1, d.before a0 Z = true) (a1 : Addr) (cz : Int32) (vf : Value) (us : List Int32) (h0 : Heap) (n0 : Nat) (Z0 : n0 ≤ h0.size) (hu : us.length ≤ 4) (hi : 0 < us.length) (Y1 : Str Z h0 a1 us) (O0 : Old Z n0 h0) (SS : SSt Z cz vf) :
    Con l Z (⟨"java/lang/String", "charAt", "(I)C"⟩ : MethodName) jdk_42_method_56_code 2 (some .char) ({ frames := 4, cells := 0, slots := 0, locals := 53 } : Room) [] #[(.ref a1), (.int (0 : Int32))] h0 (fun v h L => v = some (.int (us.getD 0 0)) ∧ h = h0 ∧ L = []) := by
  rcases us with _ | ⟨c0, _ | ⟨c1, _ | ⟨c2, _ | ⟨c3, _ | ⟨c4, ct⟩⟩⟩⟩⟩
  · exact absurd hi (by simp)
  · exact kch1_0 l Z a0 hw a1 cz vf c0 h0 n0 Z0 Y1 O0 SS
  · exact kch2_0 l Z a0 hw a1 cz vf c0 c1 h0 n0 Z0 Y1 O0 SS
  · exact kch3_0 l Z a0 hw a1 cz vf c0 c1 c2 h0 n0 Z0 Y1 O0 SS
  · exact kch4_0 l Z a0 hw a1 cz vf c0 c1 c2 c3 h0 n0 Z0 Y1 O0 SS
  · simp at hu
theorem kch1 (l : Launch) (Z : State) (a0 : Array Value) (hw : ∀ d ∈ tables_1, d.before a0 Z = true) (a1 : Addr) (cz : Int32) (vf : Value) (us : List Int32) (h0 : Heap) (n0 : Nat) (Z0 : n0 ≤ h0.size) (hu : us.length ≤ 4) (hi : 1 < us.length) (Y1 : Str Z h0 a1 us) (O0 : Old Z n0 h0) (SS : SSt Z cz vf) :
    Con l Z (⟨"java/lang/String", "charAt", "(I)C"⟩ : MethodName) jdk_42_method_56_code 2 (some .char) ({ frames := 4, cells := 0, slots := 0, locals := 53 } : Room) [] #[(.ref a1), (.int (1 : Int32))] h0 (fun v h L => v = some (.int (us.getD 1 0)) ∧ h = h0 ∧ L = []) := by
  rcases us with _ | ⟨c0, _ | ⟨c1, _ | ⟨c2, _ | ⟨c3, _ | ⟨c4, ct⟩⟩⟩⟩⟩
  · exact absurd hi (by simp)
  · exact absurd hi (by simp)
  · exact kch2_1 l Z a0 hw a1 cz vf c0 c1 h0 n0 Z0 Y1 O0 SS
  · exact kch3_1 l Z a0 hw a1 cz vf c0 c1 c2 h0 n0 Z0 Y1 O0 SS
  · exact kch4_1 l Z a0 hw a1 cz vf c0 c1 c2 c3 h0 n0 Z0 Y1 O0 SS
  · simp at hu
theorem kch2 (l : Launch) (Z : State) (a0 : Array Value) (hw : ∀ d ∈ tables_1, d.before a0 Z = true) (a1 : Addr) (cz : Int32) (vf : Value) (us : List Int32) (h0 : Heap) (n0 : Nat) (Z0 : n0 ≤ h0.size) (hu : us.length ≤ 4) (hi : 2 < us.length) (Y1 : Str Z h0 a1 us) (O0 : Old Z n0 h0) (SS : SSt Z cz vf) :
    Con l Z (⟨"java/lang/String", "charAt", "(I)C"⟩ : MethodName) jdk_42_method_56_code 2 (some .char) ({ frames := 4, cells := 0, slots := 0, locals := 53 } : Room) [] #[(.ref a1), (.int (2 : Int32))] h0 (fun v h L => v = some (.int (us.getD 2 0)) ∧ h = h0 ∧ L = []) := by
  rcases us with _ | ⟨c0, _ | ⟨c1, _ | ⟨c2, _ | ⟨c3, _ | ⟨c4, ct⟩⟩⟩⟩⟩
  · exact absurd hi (by simp)
  · exact absurd hi (by simp)
  · exact absurd hi (by simp)
  · exact kch3_2 l Z a0 hw a1 cz vf c0 c1 c2 h0 n0 Z0 Y1 O0 SS
  · exact kch4_2 l Z a0 hw a1 cz vf c0 c1 c2 c3 h0 n0 Z0 Y1 O0 SS
  · simp at hu
theorem kch3 (l : Launch) (Z : State) (a0 : Array Value) (hw : ∀ d ∈ tables_1, d.before a0 Z = true) (a1 : Addr) (cz : Int32) (vf : Value) (us : List Int32) (h0 : Heap) (n0 : Nat) (Z0 : n0 ≤ h0.size) (hu : us.length ≤ 4) (hi : 3 < us.length) (Y1 : Str Z h0 a1 us) (O0 : Old Z n0 h0) (SS : SSt Z cz vf) :
    Con l Z (⟨"java/lang/String", "charAt", "(I)C"⟩ : MethodName) jdk_42_method_56_code 2 (some .char) ({ frames := 4, cells := 0, slots := 0, locals := 53 } : Room) [] #[(.ref a1), (.int (3 : Int32))] h0 (fun v h L => v = some (.int (us.getD 3 0)) ∧ h = h0 ∧ L = []) := by
  rcases us with _ | ⟨c0, _ | ⟨c1, _ | ⟨c2, _ | ⟨c3, _ | ⟨c4, ct⟩⟩⟩⟩⟩
  · exact absurd hi (by simp)
  · exact absurd hi (by simp)
  · exact absurd hi (by simp)
  · exact absurd hi (by simp)
  · exact kch4_3 l Z a0 hw a1 cz vf c0 c1 c2 c3 h0 n0 Z0 Y1 O0 SS
  · simp at hu
def wq_1 (us : (List Int32)) (vs : (List Int32)) : Int32 := (MNI (Int32.ofNat us.length) (Int32.ofNat vs.length))
def wq_2 (us : (List Int32)) (vs : (List Int32)) : Int32 := (ICM (Int32.ofNat us.length) (Int32.ofNat vs.length))
def wq_3 (us : (List Int32)) (vs : (List Int32)) : Int32 := (ICM (RNK (us.getD 3 0)) (RNK (vs.getD 3 0)))
def wq_4 (us : (List Int32)) (vs : (List Int32)) : Int32 := (ICM (RNK (us.getD 2 0)) (RNK (vs.getD 2 0)))
def wq_5 (us : (List Int32)) (vs : (List Int32)) : Int32 := (ICM (RNK (us.getD 1 0)) (RNK (vs.getD 1 0)))
def wq_6 (us : (List Int32)) (vs : (List Int32)) : Int32 := (ICM (RNK (us.getD 0 0)) (RNK (vs.getD 0 0)))
def CMV (us vs : List Int32) : Int32 := (if (0 : Int32) < (wq_1 us vs) then (if (us.getD 0 0) = (vs.getD 0 0) then (if (1 : Int32) < (wq_1 us vs) then (if (us.getD 1 0) = (vs.getD 1 0) then (if (2 : Int32) < (wq_1 us vs) then (if (us.getD 2 0) = (vs.getD 2 0) then (if (3 : Int32) < (wq_1 us vs) then (if (us.getD 3 0) = (vs.getD 3 0) then (wq_2 us vs) else (wq_3 us vs)) else (wq_2 us vs)) else (wq_4 us vs)) else (wq_2 us vs)) else (wq_5 us vs)) else (wq_2 us vs)) else (wq_6 us vs)) else (wq_2 us vs))
theorem dp50_16_0 : decode prog_50_method_16_code 0 = .ok (.aload_n 0, 1) := by decide +kernel
theorem dp50_16_1 : decode prog_50_method_16_code 1 = .ok (.invokevirtual 76, 3) := by decide +kernel
theorem dp50_16_4 : decode prog_50_method_16_code 4 = .ok (.aload_n 1, 1) := by decide +kernel
theorem dp50_16_5 : decode prog_50_method_16_code 5 = .ok (.invokevirtual 76, 3) := by decide +kernel
theorem dp50_16_8 : decode prog_50_method_16_code 8 = .ok (.invokestatic 52, 3) := by decide +kernel
theorem dp50_16_11 : decode prog_50_method_16_code 11 = .ok (.istore_n 2, 1) := by decide +kernel
theorem dp50_16_12 : decode prog_50_method_16_code 12 = .ok (.iconst 0, 1) := by decide +kernel
theorem dp50_16_13 : decode prog_50_method_16_code 13 = .ok (.istore_n 3, 1) := by decide +kernel
theorem dp50_16_14 : decode prog_50_method_16_code 14 = .ok (.iload_n 3, 1) := by decide +kernel
theorem dp50_16_15 : decode prog_50_method_16_code 15 = .ok (.iload_n 2, 1) := by decide +kernel
theorem dp50_16_16 : decode prog_50_method_16_code 16 = .ok (.if_icmp .ge 44, 3) := by decide +kernel
theorem dp50_16_19 : decode prog_50_method_16_code 19 = .ok (.aload_n 0, 1) := by decide +kernel
theorem dp50_16_20 : decode prog_50_method_16_code 20 = .ok (.iload_n 3, 1) := by decide +kernel
theorem dp50_16_21 : decode prog_50_method_16_code 21 = .ok (.invokevirtual 112, 3) := by decide +kernel
theorem dp50_16_24 : decode prog_50_method_16_code 24 = .ok (.istore 4, 2) := by decide +kernel
theorem dp50_16_26 : decode prog_50_method_16_code 26 = .ok (.aload_n 1, 1) := by decide +kernel
theorem dp50_16_27 : decode prog_50_method_16_code 27 = .ok (.iload_n 3, 1) := by decide +kernel
theorem dp50_16_28 : decode prog_50_method_16_code 28 = .ok (.invokevirtual 112, 3) := by decide +kernel
theorem dp50_16_31 : decode prog_50_method_16_code 31 = .ok (.istore 5, 2) := by decide +kernel
theorem dp50_16_33 : decode prog_50_method_16_code 33 = .ok (.iload 4, 2) := by decide +kernel
theorem dp50_16_35 : decode prog_50_method_16_code 35 = .ok (.iload 5, 2) := by decide +kernel
theorem dp50_16_37 : decode prog_50_method_16_code 37 = .ok (.if_icmp .eq 17, 3) := by decide +kernel
theorem dp50_16_40 : decode prog_50_method_16_code 40 = .ok (.iload 4, 2) := by decide +kernel
theorem dp50_16_42 : decode prog_50_method_16_code 42 = .ok (.invokestatic 210, 3) := by decide +kernel
theorem dp50_16_45 : decode prog_50_method_16_code 45 = .ok (.iload 5, 2) := by decide +kernel
theorem dp50_16_47 : decode prog_50_method_16_code 47 = .ok (.invokestatic 210, 3) := by decide +kernel
theorem dp50_16_50 : decode prog_50_method_16_code 50 = .ok (.invokestatic 201, 3) := by decide +kernel
theorem dp50_16_53 : decode prog_50_method_16_code 53 = .ok (.ireturn, 1) := by decide +kernel
theorem dp50_16_54 : decode prog_50_method_16_code 54 = .ok (.iinc 3 1, 3) := by decide +kernel
theorem dp50_16_57 : decode prog_50_method_16_code 57 = .ok (.goto (-43), 3) := by decide +kernel
theorem dp50_16_60 : decode prog_50_method_16_code 60 = .ok (.aload_n 0, 1) := by decide +kernel
theorem dp50_16_61 : decode prog_50_method_16_code 61 = .ok (.invokevirtual 76, 3) := by decide +kernel
theorem dp50_16_64 : decode prog_50_method_16_code 64 = .ok (.aload_n 1, 1) := by decide +kernel
theorem dp50_16_65 : decode prog_50_method_16_code 65 = .ok (.invokevirtual 76, 3) := by decide +kernel
theorem dp50_16_68 : decode prog_50_method_16_code 68 = .ok (.invokestatic 201, 3) := by decide +kernel
theorem dp50_16_71 : decode prog_50_method_16_code 71 = .ok (.ireturn, 1) := by decide +kernel
theorem pd_14 : parseMethodDescriptor "()I" = some ⟨[], some .int⟩ := by decide +kernel
theorem pd_15 : parseMethodDescriptor "(II)I" = some ⟨[.int, .int], some .int⟩ := by decide +kernel
theorem pd_16 : parseMethodDescriptor "(I)C" = some ⟨[.int], some .char⟩ := by decide +kernel
theorem pd_17 : parseMethodDescriptor "(C)I" = some ⟨[.char], some .int⟩ := by decide +kernel
theorem efq (m : MethodId) (x0 x1 : Addr) : entryFrame m #[(.ref x0), (.ref x1)] 6 = mkF m 0 #[.val (.ref x0), .val (.ref x1), .unset, .unset, .unset, .unset] [] := by first | (simp [entryFrame, mkF, argsToLocals, Value.category]; done) | rfl
theorem cq (l : Launch) (Z : State) (a0 : Array Value) (hw : ∀ d ∈ tables_1, d.before a0 Z = true) (a1 a2 : Addr) (cz : Int32) (vf : Value) (us : (List Int32)) (vs : (List Int32)) (h0 : Heap) (n0 : Nat) (Z0 : n0 ≤ h0.size) (O0 : Old Z n0 h0) (SS : SSt Z cz vf) (hu : us.length ≤ 4) (hv : vs.length ≤ 4) (Y1 : Str Z h0 a1 us) (Y2 : Str Z h0 a2 vs) :
    Con l Z (⟨"com/example/stamp2/stamp2/version/RowFormat", "compareStrings", "(Ljava/lang/String;Ljava/lang/String;)I"⟩ : MethodName) prog_50_method_16_code 6 (some .int) ({ frames := 5, cells := 0, slots := 0, locals := 66 } : Room) [] #[(.ref a1), (.ref a2)] h0 (fun v h L => v = some (.int (CMV us vs)) ∧ h = h0 ∧ L = []) := by
  refine Con.of (plainFor_of_name pn_com_example_stamp2_stamp2_version_RowFormat) #[.val (.ref a1), .val (.ref a2), .unset, .unset, .unset, .unset] (fun m => efq m a1 a2) ?_
  intro p e s m below meth c s₁ K hx hby hml hown hnm hret hlk hZ X0 e0
  have N0 := Fr.nil n0
  refine mAN K X0.here hx hby dp50_16_0 rfl rfl rfl ?_
  refine k_callV K X0 hx hby hZ a1 [] [] hown (W hw 36 rfl) (W hw 37 rfl) (notFace_of_selects (args := #[]) (mvT hZ (W hw 39 rfl))) (W hw 39 rfl) (W hw 38 rfl) (W hw 12 rfl) (W hw 40 rfl) (klen l Z a0 hw a1 cz vf us h0 n0 Z0 hu Y1 O0 SS) e0 Y1.1 rfl rfl pd_14 rfl dp50_16_1 (by rw [hml]; rfl) rfl (by decide) (by decide) (LB rfl) (by decide) (by decide) fun v1 T1 L1 X1 q1 => ?_
  obtain ⟨rfl, e1, rfl⟩ := q1
  replace X1 := own_px X1
  refine k_some K (w := (.int (Int32.ofNat us.length))) ?_
  refine mAN K X1.here hx hby dp50_16_4 rfl rfl rfl ?_
  refine k_callV K X1 hx hby hZ a2 [] [(.int (Int32.ofNat us.length))] hown (W hw 36 rfl) (W hw 37 rfl) (notFace_of_selects (args := #[]) (mvT hZ (W hw 39 rfl))) (W hw 39 rfl) (W hw 38 rfl) (W hw 12 rfl) (W hw 40 rfl) (klen l Z a0 hw a2 cz vf vs h0 n0 Z0 hv Y2 O0 SS) e1 Y2.1 rfl rfl pd_14 rfl dp50_16_5 (by rw [hml]; rfl) rfl (by decide) (by decide) (LB rfl) (by decide) (by decide) fun v2 T2 L2 X2 q2 => ?_
  obtain ⟨rfl, e2, rfl⟩ := q2
  replace X2 := own_px X2
  refine k_some K (w := (.int (Int32.ofNat vs.length))) ?_
  refine k_callS K X2 hx hby hZ [(.int (Int32.ofNat us.length)), (.int (Int32.ofNat vs.length))] [] hown (W hw 47 rfl) (W hw 48 rfl) (W hw 49 rfl) (W hw 50 rfl) (c_mi l Z a0 hw (Int32.ofNat us.length) (Int32.ofNat vs.length) h0 n0 Z0) e2 rfl rfl pd_15 rfl dp50_16_8 (by rw [hml]; rfl) rfl (by decide) (by decide) (LB rfl) (by decide) (by decide) fun v3 T3 L3 X3 q3 => ?_
  obtain ⟨rfl, e3, rfl⟩ := q3
  replace X3 := own_px X3
  refine k_some K (w := (.int (wq_1 us vs))) ?_
  refine m_istoreN K X3.here hx hby #[.val (.ref a1), .val (.ref a2), .val (.int (wq_1 us vs)), .unset, .unset, .unset] dp50_16_11 rfl rfl ?_
  refine mC K X3.here hx hby (0 : Int32) dp50_16_12 rfl rfl ?_
  refine m_istoreN K X3.here hx hby #[.val (.ref a1), .val (.ref a2), .val (.int (wq_1 us vs)), .val (.int (0 : Int32)), .unset, .unset] dp50_16_13 rfl rfl ?_
  refine mIN K X3.here hx hby dp50_16_14 rfl rfl ?_
  refine mIN K X3.here hx hby dp50_16_15 rfl rfl ?_
  by_cases hc16_4 : (0 : Int32) < (wq_1 us vs)
  · refine m_icmpN K X3.here hx hby (q := 19) dp50_16_16 (tlt hc16_4).2.1 rfl ?_
    refine mAN K X3.here hx hby dp50_16_19 rfl rfl rfl ?_
    refine mIN K X3.here hx hby dp50_16_20 rfl rfl ?_
    refine k_callV K X3 hx hby hZ a1 [(.int (0 : Int32))] [] hown (W hw 82 rfl) (W hw 83 rfl) (notFace_of_selects (args := #[]) (mvT hZ (W hw 85 rfl))) (W hw 85 rfl) (W hw 84 rfl) (W hw 12 rfl) (W hw 86 rfl) (kch0 l Z a0 hw a1 cz vf us h0 n0 Z0 hu ((own_mn hu hv 0 (by decide)).mp hc16_4).1 Y1 O0 SS) e3 Y1.1 rfl rfl pd_16 rfl dp50_16_21 (by rw [hml]; rfl) rfl (by decide) (by decide) (LB rfl) (by decide) (by decide) fun v5 T5 L5 X5 q5 => ?_
    obtain ⟨rfl, e5, rfl⟩ := q5
    replace X5 := own_px X5
    refine k_some K (w := (.int (us.getD 0 0))) ?_
    refine mS K X5.here hx hby #[.val (.ref a1), .val (.ref a2), .val (.int (wq_1 us vs)), .val (.int (0 : Int32)), .val (.int (us.getD 0 0)), .unset] dp50_16_24 rfl rfl ?_
    refine mAN K X5.here hx hby dp50_16_26 rfl rfl rfl ?_
    refine mIN K X5.here hx hby dp50_16_27 rfl rfl ?_
    refine k_callV K X5 hx hby hZ a2 [(.int (0 : Int32))] [] hown (W hw 82 rfl) (W hw 83 rfl) (notFace_of_selects (args := #[]) (mvT hZ (W hw 85 rfl))) (W hw 85 rfl) (W hw 84 rfl) (W hw 12 rfl) (W hw 86 rfl) (kch0 l Z a0 hw a2 cz vf vs h0 n0 Z0 hv ((own_mn hu hv 0 (by decide)).mp hc16_4).2 Y2 O0 SS) e5 Y2.1 rfl rfl pd_16 rfl dp50_16_28 (by rw [hml]; rfl) rfl (by decide) (by decide) (LB rfl) (by decide) (by decide) fun v6 T6 L6 X6 q6 => ?_
    obtain ⟨rfl, e6, rfl⟩ := q6
    replace X6 := own_px X6
    refine k_some K (w := (.int (vs.getD 0 0))) ?_
    refine mS K X6.here hx hby #[.val (.ref a1), .val (.ref a2), .val (.int (wq_1 us vs)), .val (.int (0 : Int32)), .val (.int (us.getD 0 0)), .val (.int (vs.getD 0 0))] dp50_16_31 rfl rfl ?_
    refine mI K X6.here hx hby dp50_16_33 rfl rfl ?_
    refine mI K X6.here hx hby dp50_16_35 rfl rfl ?_
    by_cases hc37_7 : (us.getD 0 0) = (vs.getD 0 0)
    · refine m_icmpY K X6.here hx hby (q := 54) dp50_16_37 (teq hc37_7).1 (by decide) rfl ?_
      refine mJ K X6.here hx hby #[.val (.ref a1), .val (.ref a2), .val (.int (wq_1 us vs)), .val (.int (1 : Int32)), .val (.int (us.getD 0 0)), .val (.int (vs.getD 0 0))] dp50_16_54 rfl rfl rfl ?_
      refine m_goto K X6.here hx hby (q := 14) dp50_16_57 (by decide) rfl ?_
      refine mIN K X6.here hx hby dp50_16_14 rfl rfl ?_
      refine mIN K X6.here hx hby dp50_16_15 rfl rfl ?_
      by_cases hc16_8 : (1 : Int32) < (wq_1 us vs)
      · refine m_icmpN K X6.here hx hby (q := 19) dp50_16_16 (tlt hc16_8).2.1 rfl ?_
        refine mAN K X6.here hx hby dp50_16_19 rfl rfl rfl ?_
        refine mIN K X6.here hx hby dp50_16_20 rfl rfl ?_
        refine k_callV K X6 hx hby hZ a1 [(.int (1 : Int32))] [] hown (W hw 82 rfl) (W hw 83 rfl) (notFace_of_selects (args := #[]) (mvT hZ (W hw 85 rfl))) (W hw 85 rfl) (W hw 84 rfl) (W hw 12 rfl) (W hw 86 rfl) (kch1 l Z a0 hw a1 cz vf us h0 n0 Z0 hu ((own_mn hu hv 1 (by decide)).mp hc16_8).1 Y1 O0 SS) e6 Y1.1 rfl rfl pd_16 rfl dp50_16_21 (by rw [hml]; rfl) rfl (by decide) (by decide) (LB rfl) (by decide) (by decide) fun v9 T9 L9 X9 q9 => ?_
        obtain ⟨rfl, e9, rfl⟩ := q9
        replace X9 := own_px X9
        refine k_some K (w := (.int (us.getD 1 0))) ?_
        refine mS K X9.here hx hby #[.val (.ref a1), .val (.ref a2), .val (.int (wq_1 us vs)), .val (.int (1 : Int32)), .val (.int (us.getD 1 0)), .val (.int (vs.getD 0 0))] dp50_16_24 rfl rfl ?_
        refine mAN K X9.here hx hby dp50_16_26 rfl rfl rfl ?_
        refine mIN K X9.here hx hby dp50_16_27 rfl rfl ?_
        refine k_callV K X9 hx hby hZ a2 [(.int (1 : Int32))] [] hown (W hw 82 rfl) (W hw 83 rfl) (notFace_of_selects (args := #[]) (mvT hZ (W hw 85 rfl))) (W hw 85 rfl) (W hw 84 rfl) (W hw 12 rfl) (W hw 86 rfl) (kch1 l Z a0 hw a2 cz vf vs h0 n0 Z0 hv ((own_mn hu hv 1 (by decide)).mp hc16_8).2 Y2 O0 SS) e9 Y2.1 rfl rfl pd_16 rfl dp50_16_28 (by rw [hml]; rfl) rfl (by decide) (by decide) (LB rfl) (by decide) (by decide) fun v10 T10 L10 X10 q10 => ?_
        obtain ⟨rfl, e10, rfl⟩ := q10
        replace X10 := own_px X10
        refine k_some K (w := (.int (vs.getD 1 0))) ?_
        refine mS K X10.here hx hby #[.val (.ref a1), .val (.ref a2), .val (.int (wq_1 us vs)), .val (.int (1 : Int32)), .val (.int (us.getD 1 0)), .val (.int (vs.getD 1 0))] dp50_16_31 rfl rfl ?_
        refine mI K X10.here hx hby dp50_16_33 rfl rfl ?_
        refine mI K X10.here hx hby dp50_16_35 rfl rfl ?_
        by_cases hc37_11 : (us.getD 1 0) = (vs.getD 1 0)
        · refine m_icmpY K X10.here hx hby (q := 54) dp50_16_37 (teq hc37_11).1 (by decide) rfl ?_
          refine mJ K X10.here hx hby #[.val (.ref a1), .val (.ref a2), .val (.int (wq_1 us vs)), .val (.int (2 : Int32)), .val (.int (us.getD 1 0)), .val (.int (vs.getD 1 0))] dp50_16_54 rfl rfl rfl ?_
          refine m_goto K X10.here hx hby (q := 14) dp50_16_57 (by decide) rfl ?_
          refine mIN K X10.here hx hby dp50_16_14 rfl rfl ?_
          refine mIN K X10.here hx hby dp50_16_15 rfl rfl ?_
          by_cases hc16_12 : (2 : Int32) < (wq_1 us vs)
          · refine m_icmpN K X10.here hx hby (q := 19) dp50_16_16 (tlt hc16_12).2.1 rfl ?_
            refine mAN K X10.here hx hby dp50_16_19 rfl rfl rfl ?_
            refine mIN K X10.here hx hby dp50_16_20 rfl rfl ?_
            refine k_callV K X10 hx hby hZ a1 [(.int (2 : Int32))] [] hown (W hw 82 rfl) (W hw 83 rfl) (notFace_of_selects (args := #[]) (mvT hZ (W hw 85 rfl))) (W hw 85 rfl) (W hw 84 rfl) (W hw 12 rfl) (W hw 86 rfl) (kch2 l Z a0 hw a1 cz vf us h0 n0 Z0 hu ((own_mn hu hv 2 (by decide)).mp hc16_12).1 Y1 O0 SS) e10 Y1.1 rfl rfl pd_16 rfl dp50_16_21 (by rw [hml]; rfl) rfl (by decide) (by decide) (LB rfl) (by decide) (by decide) fun v13 T13 L13 X13 q13 => ?_
            obtain ⟨rfl, e13, rfl⟩ := q13
            replace X13 := own_px X13
            refine k_some K (w := (.int (us.getD 2 0))) ?_
            refine mS K X13.here hx hby #[.val (.ref a1), .val (.ref a2), .val (.int (wq_1 us vs)), .val (.int (2 : Int32)), .val (.int (us.getD 2 0)), .val (.int (vs.getD 1 0))] dp50_16_24 rfl rfl ?_
            refine mAN K X13.here hx hby dp50_16_26 rfl rfl rfl ?_
            refine mIN K X13.here hx hby dp50_16_27 rfl rfl ?_
            refine k_callV K X13 hx hby hZ a2 [(.int (2 : Int32))] [] hown (W hw 82 rfl) (W hw 83 rfl) (notFace_of_selects (args := #[]) (mvT hZ (W hw 85 rfl))) (W hw 85 rfl) (W hw 84 rfl) (W hw 12 rfl) (W hw 86 rfl) (kch2 l Z a0 hw a2 cz vf vs h0 n0 Z0 hv ((own_mn hu hv 2 (by decide)).mp hc16_12).2 Y2 O0 SS) e13 Y2.1 rfl rfl pd_16 rfl dp50_16_28 (by rw [hml]; rfl) rfl (by decide) (by decide) (LB rfl) (by decide) (by decide) fun v14 T14 L14 X14 q14 => ?_
            obtain ⟨rfl, e14, rfl⟩ := q14
            replace X14 := own_px X14
            refine k_some K (w := (.int (vs.getD 2 0))) ?_
            refine mS K X14.here hx hby #[.val (.ref a1), .val (.ref a2), .val (.int (wq_1 us vs)), .val (.int (2 : Int32)), .val (.int (us.getD 2 0)), .val (.int (vs.getD 2 0))] dp50_16_31 rfl rfl ?_
            refine mI K X14.here hx hby dp50_16_33 rfl rfl ?_
            refine mI K X14.here hx hby dp50_16_35 rfl rfl ?_
            by_cases hc37_15 : (us.getD 2 0) = (vs.getD 2 0)
            · refine m_icmpY K X14.here hx hby (q := 54) dp50_16_37 (teq hc37_15).1 (by decide) rfl ?_
              refine mJ K X14.here hx hby #[.val (.ref a1), .val (.ref a2), .val (.int (wq_1 us vs)), .val (.int (3 : Int32)), .val (.int (us.getD 2 0)), .val (.int (vs.getD 2 0))] dp50_16_54 rfl rfl rfl ?_
              refine m_goto K X14.here hx hby (q := 14) dp50_16_57 (by decide) rfl ?_
              refine mIN K X14.here hx hby dp50_16_14 rfl rfl ?_
              refine mIN K X14.here hx hby dp50_16_15 rfl rfl ?_
              by_cases hc16_16 : (3 : Int32) < (wq_1 us vs)
              · refine m_icmpN K X14.here hx hby (q := 19) dp50_16_16 (tlt hc16_16).2.1 rfl ?_
                refine mAN K X14.here hx hby dp50_16_19 rfl rfl rfl ?_
                refine mIN K X14.here hx hby dp50_16_20 rfl rfl ?_
                refine k_callV K X14 hx hby hZ a1 [(.int (3 : Int32))] [] hown (W hw 82 rfl) (W hw 83 rfl) (notFace_of_selects (args := #[]) (mvT hZ (W hw 85 rfl))) (W hw 85 rfl) (W hw 84 rfl) (W hw 12 rfl) (W hw 86 rfl) (kch3 l Z a0 hw a1 cz vf us h0 n0 Z0 hu ((own_mn hu hv 3 (by decide)).mp hc16_16).1 Y1 O0 SS) e14 Y1.1 rfl rfl pd_16 rfl dp50_16_21 (by rw [hml]; rfl) rfl (by decide) (by decide) (LB rfl) (by decide) (by decide) fun v17 T17 L17 X17 q17 => ?_
                obtain ⟨rfl, e17, rfl⟩ := q17
                replace X17 := own_px X17
                refine k_some K (w := (.int (us.getD 3 0))) ?_
                refine mS K X17.here hx hby #[.val (.ref a1), .val (.ref a2), .val (.int (wq_1 us vs)), .val (.int (3 : Int32)), .val (.int (us.getD 3 0)), .val (.int (vs.getD 2 0))] dp50_16_24 rfl rfl ?_
                refine mAN K X17.here hx hby dp50_16_26 rfl rfl rfl ?_
                refine mIN K X17.here hx hby dp50_16_27 rfl rfl ?_
                refine k_callV K X17 hx hby hZ a2 [(.int (3 : Int32))] [] hown (W hw 82 rfl) (W hw 83 rfl) (notFace_of_selects (args := #[]) (mvT hZ (W hw 85 rfl))) (W hw 85 rfl) (W hw 84 rfl) (W hw 12 rfl) (W hw 86 rfl) (kch3 l Z a0 hw a2 cz vf vs h0 n0 Z0 hv ((own_mn hu hv 3 (by decide)).mp hc16_16).2 Y2 O0 SS) e17 Y2.1 rfl rfl pd_16 rfl dp50_16_28 (by rw [hml]; rfl) rfl (by decide) (by decide) (LB rfl) (by decide) (by decide) fun v18 T18 L18 X18 q18 => ?_
                obtain ⟨rfl, e18, rfl⟩ := q18
                replace X18 := own_px X18
                refine k_some K (w := (.int (vs.getD 3 0))) ?_
                refine mS K X18.here hx hby #[.val (.ref a1), .val (.ref a2), .val (.int (wq_1 us vs)), .val (.int (3 : Int32)), .val (.int (us.getD 3 0)), .val (.int (vs.getD 3 0))] dp50_16_31 rfl rfl ?_
                refine mI K X18.here hx hby dp50_16_33 rfl rfl ?_
                refine mI K X18.here hx hby dp50_16_35 rfl rfl ?_
                by_cases hc37_19 : (us.getD 3 0) = (vs.getD 3 0)
                · refine m_icmpY K X18.here hx hby (q := 54) dp50_16_37 (teq hc37_19).1 (by decide) rfl ?_
                  refine mJ K X18.here hx hby #[.val (.ref a1), .val (.ref a2), .val (.int (wq_1 us vs)), .val (.int (4 : Int32)), .val (.int (us.getD 3 0)), .val (.int (vs.getD 3 0))] dp50_16_54 rfl rfl rfl ?_
                  refine m_goto K X18.here hx hby (q := 14) dp50_16_57 (by decide) rfl ?_
                  refine mIN K X18.here hx hby dp50_16_14 rfl rfl ?_
                  refine mIN K X18.here hx hby dp50_16_15 rfl rfl ?_
                  refine m_icmpY K X18.here hx hby (q := 60) dp50_16_16 (flt (own_no4 hu hv)).2.1 (by decide) rfl ?_
                  refine mAN K X18.here hx hby dp50_16_60 rfl rfl rfl ?_
                  refine k_callV K X18 hx hby hZ a1 [] [] hown (W hw 36 rfl) (W hw 37 rfl) (notFace_of_selects (args := #[]) (mvT hZ (W hw 39 rfl))) (W hw 39 rfl) (W hw 38 rfl) (W hw 12 rfl) (W hw 40 rfl) (klen l Z a0 hw a1 cz vf us h0 n0 Z0 hu Y1 O0 SS) e18 Y1.1 rfl rfl pd_14 rfl dp50_16_61 (by rw [hml]; rfl) rfl (by decide) (by decide) (LB rfl) (by decide) (by decide) fun v20 T20 L20 X20 q20 => ?_
                  obtain ⟨rfl, e20, rfl⟩ := q20
                  replace X20 := own_px X20
                  refine k_some K (w := (.int (Int32.ofNat us.length))) ?_
                  refine mAN K X20.here hx hby dp50_16_64 rfl rfl rfl ?_
                  refine k_callV K X20 hx hby hZ a2 [] [(.int (Int32.ofNat us.length))] hown (W hw 36 rfl) (W hw 37 rfl) (notFace_of_selects (args := #[]) (mvT hZ (W hw 39 rfl))) (W hw 39 rfl) (W hw 38 rfl) (W hw 12 rfl) (W hw 40 rfl) (klen l Z a0 hw a2 cz vf vs h0 n0 Z0 hv Y2 O0 SS) e20 Y2.1 rfl rfl pd_14 rfl dp50_16_65 (by rw [hml]; rfl) rfl (by decide) (by decide) (LB rfl) (by decide) (by decide) fun v21 T21 L21 X21 q21 => ?_
                  obtain ⟨rfl, e21, rfl⟩ := q21
                  replace X21 := own_px X21
                  refine k_some K (w := (.int (Int32.ofNat vs.length))) ?_
                  refine k_callS K X21 hx hby hZ [(.int (Int32.ofNat us.length)), (.int (Int32.ofNat vs.length))] [] hown (W hw 51 rfl) (W hw 52 rfl) (W hw 53 rfl) (W hw 54 rfl) (c_ic l Z a0 hw (Int32.ofNat us.length) (Int32.ofNat vs.length) h0 n0 Z0) e21 rfl rfl pd_15 rfl dp50_16_68 (by rw [hml]; rfl) rfl (by decide) (by decide) (LB rfl) (by decide) (by decide) fun v22 T22 L22 X22 q22 => ?_
                  obtain ⟨rfl, e22, rfl⟩ := q22
                  replace X22 := own_px X22
                  refine k_some K (w := (.int (wq_2 us vs))) ?_
                  exact Go.retI X22 hx hby hlk hret dp50_16_71 (by decide) (by decide) (⟨congrArg (fun z => some (Value.int z)) (Eq.symm (by rw [CMV, if_pos hc16_4, if_pos hc37_7, if_pos hc16_8, if_pos hc37_11, if_pos hc16_12, if_pos hc37_15, if_pos hc16_16, if_pos hc37_19])), e22, rfl⟩)
                · refine m_icmpN K X18.here hx hby (q := 40) dp50_16_37 (feq hc37_19).1 rfl ?_
                  refine mI K X18.here hx hby dp50_16_40 rfl rfl ?_
                  refine k_callS K X18 hx hby hZ [(.int (us.getD 3 0))] [] hown (W hw 104 rfl) (W hw 105 rfl) (W hw 34 rfl) (W hw 106 rfl) (c_rk l Z a0 hw (us.getD 3 0) h0 n0 Z0) e18 rfl rfl pd_17 rfl dp50_16_42 (by rw [hml]; rfl) rfl (by decide) (by decide) (LB rfl) (by decide) (by decide) fun v23 T23 L23 X23 q23 => ?_
                  obtain ⟨rfl, e23, rfl⟩ := q23
                  replace X23 := own_px X23
                  refine k_some K (w := (.int (RNK (us.getD 3 0)))) ?_
                  refine mI K X23.here hx hby dp50_16_45 rfl rfl ?_
                  refine k_callS K X23 hx hby hZ [(.int (vs.getD 3 0))] [(.int (RNK (us.getD 3 0)))] hown (W hw 104 rfl) (W hw 105 rfl) (W hw 34 rfl) (W hw 106 rfl) (c_rk l Z a0 hw (vs.getD 3 0) h0 n0 Z0) e23 rfl rfl pd_17 rfl dp50_16_47 (by rw [hml]; rfl) rfl (by decide) (by decide) (LB rfl) (by decide) (by decide) fun v24 T24 L24 X24 q24 => ?_
                  obtain ⟨rfl, e24, rfl⟩ := q24
                  replace X24 := own_px X24
                  refine k_some K (w := (.int (RNK (vs.getD 3 0)))) ?_
                  refine k_callS K X24 hx hby hZ [(.int (RNK (us.getD 3 0))), (.int (RNK (vs.getD 3 0)))] [] hown (W hw 51 rfl) (W hw 52 rfl) (W hw 53 rfl) (W hw 54 rfl) (c_ic l Z a0 hw (RNK (us.getD 3 0)) (RNK (vs.getD 3 0)) h0 n0 Z0) e24 rfl rfl pd_15 rfl dp50_16_50 (by rw [hml]; rfl) rfl (by decide) (by decide) (LB rfl) (by decide) (by decide) fun v25 T25 L25 X25 q25 => ?_
                  obtain ⟨rfl, e25, rfl⟩ := q25
                  replace X25 := own_px X25
                  refine k_some K (w := (.int (wq_3 us vs))) ?_
                  exact Go.retI X25 hx hby hlk hret dp50_16_53 (by decide) (by decide) (⟨congrArg (fun z => some (Value.int z)) (Eq.symm (by rw [CMV, if_pos hc16_4, if_pos hc37_7, if_pos hc16_8, if_pos hc37_11, if_pos hc16_12, if_pos hc37_15, if_pos hc16_16, if_neg hc37_19])), e25, rfl⟩)
              · refine m_icmpY K X14.here hx hby (q := 60) dp50_16_16 (flt hc16_16).2.1 (by decide) rfl ?_
                refine mAN K X14.here hx hby dp50_16_60 rfl rfl rfl ?_
                refine k_callV K X14 hx hby hZ a1 [] [] hown (W hw 36 rfl) (W hw 37 rfl) (notFace_of_selects (args := #[]) (mvT hZ (W hw 39 rfl))) (W hw 39 rfl) (W hw 38 rfl) (W hw 12 rfl) (W hw 40 rfl) (klen l Z a0 hw a1 cz vf us h0 n0 Z0 hu Y1 O0 SS) e14 Y1.1 rfl rfl pd_14 rfl dp50_16_61 (by rw [hml]; rfl) rfl (by decide) (by decide) (LB rfl) (by decide) (by decide) fun v26 T26 L26 X26 q26 => ?_
                obtain ⟨rfl, e26, rfl⟩ := q26
                replace X26 := own_px X26
                refine k_some K (w := (.int (Int32.ofNat us.length))) ?_
                refine mAN K X26.here hx hby dp50_16_64 rfl rfl rfl ?_
                refine k_callV K X26 hx hby hZ a2 [] [(.int (Int32.ofNat us.length))] hown (W hw 36 rfl) (W hw 37 rfl) (notFace_of_selects (args := #[]) (mvT hZ (W hw 39 rfl))) (W hw 39 rfl) (W hw 38 rfl) (W hw 12 rfl) (W hw 40 rfl) (klen l Z a0 hw a2 cz vf vs h0 n0 Z0 hv Y2 O0 SS) e26 Y2.1 rfl rfl pd_14 rfl dp50_16_65 (by rw [hml]; rfl) rfl (by decide) (by decide) (LB rfl) (by decide) (by decide) fun v27 T27 L27 X27 q27 => ?_
                obtain ⟨rfl, e27, rfl⟩ := q27
                replace X27 := own_px X27
                refine k_some K (w := (.int (Int32.ofNat vs.length))) ?_
                refine k_callS K X27 hx hby hZ [(.int (Int32.ofNat us.length)), (.int (Int32.ofNat vs.length))] [] hown (W hw 51 rfl) (W hw 52 rfl) (W hw 53 rfl) (W hw 54 rfl) (c_ic l Z a0 hw (Int32.ofNat us.length) (Int32.ofNat vs.length) h0 n0 Z0) e27 rfl rfl pd_15 rfl dp50_16_68 (by rw [hml]; rfl) rfl (by decide) (by decide) (LB rfl) (by decide) (by decide) fun v28 T28 L28 X28 q28 => ?_
                obtain ⟨rfl, e28, rfl⟩ := q28
                replace X28 := own_px X28
                refine k_some K (w := (.int (wq_2 us vs))) ?_
                exact Go.retI X28 hx hby hlk hret dp50_16_71 (by decide) (by decide) (⟨congrArg (fun z => some (Value.int z)) (Eq.symm (by rw [CMV, if_pos hc16_4, if_pos hc37_7, if_pos hc16_8, if_pos hc37_11, if_pos hc16_12, if_pos hc37_15, if_neg hc16_16])), e28, rfl⟩)
            · refine m_icmpN K X14.here hx hby (q := 40) dp50_16_37 (feq hc37_15).1 rfl ?_
              refine mI K X14.here hx hby dp50_16_40 rfl rfl ?_
              refine k_callS K X14 hx hby hZ [(.int (us.getD 2 0))] [] hown (W hw 104 rfl) (W hw 105 rfl) (W hw 34 rfl) (W hw 106 rfl) (c_rk l Z a0 hw (us.getD 2 0) h0 n0 Z0) e14 rfl rfl pd_17 rfl dp50_16_42 (by rw [hml]; rfl) rfl (by decide) (by decide) (LB rfl) (by decide) (by decide) fun v29 T29 L29 X29 q29 => ?_
              obtain ⟨rfl, e29, rfl⟩ := q29
              replace X29 := own_px X29
              refine k_some K (w := (.int (RNK (us.getD 2 0)))) ?_
              refine mI K X29.here hx hby dp50_16_45 rfl rfl ?_
              refine k_callS K X29 hx hby hZ [(.int (vs.getD 2 0))] [(.int (RNK (us.getD 2 0)))] hown (W hw 104 rfl) (W hw 105 rfl) (W hw 34 rfl) (W hw 106 rfl) (c_rk l Z a0 hw (vs.getD 2 0) h0 n0 Z0) e29 rfl rfl pd_17 rfl dp50_16_47 (by rw [hml]; rfl) rfl (by decide) (by decide) (LB rfl) (by decide) (by decide) fun v30 T30 L30 X30 q30 => ?_
              obtain ⟨rfl, e30, rfl⟩ := q30
              replace X30 := own_px X30
              refine k_some K (w := (.int (RNK (vs.getD 2 0)))) ?_
              refine k_callS K X30 hx hby hZ [(.int (RNK (us.getD 2 0))), (.int (RNK (vs.getD 2 0)))] [] hown (W hw 51 rfl) (W hw 52 rfl) (W hw 53 rfl) (W hw 54 rfl) (c_ic l Z a0 hw (RNK (us.getD 2 0)) (RNK (vs.getD 2 0)) h0 n0 Z0) e30 rfl rfl pd_15 rfl dp50_16_50 (by rw [hml]; rfl) rfl (by decide) (by decide) (LB rfl) (by decide) (by decide) fun v31 T31 L31 X31 q31 => ?_
              obtain ⟨rfl, e31, rfl⟩ := q31
              replace X31 := own_px X31
              refine k_some K (w := (.int (wq_4 us vs))) ?_
              exact Go.retI X31 hx hby hlk hret dp50_16_53 (by decide) (by decide) (⟨congrArg (fun z => some (Value.int z)) (Eq.symm (by rw [CMV, if_pos hc16_4, if_pos hc37_7, if_pos hc16_8, if_pos hc37_11, if_pos hc16_12, if_neg hc37_15])), e31, rfl⟩)
          · refine m_icmpY K X10.here hx hby (q := 60) dp50_16_16 (flt hc16_12).2.1 (by decide) rfl ?_
            refine mAN K X10.here hx hby dp50_16_60 rfl rfl rfl ?_
            refine k_callV K X10 hx hby hZ a1 [] [] hown (W hw 36 rfl) (W hw 37 rfl) (notFace_of_selects (args := #[]) (mvT hZ (W hw 39 rfl))) (W hw 39 rfl) (W hw 38 rfl) (W hw 12 rfl) (W hw 40 rfl) (klen l Z a0 hw a1 cz vf us h0 n0 Z0 hu Y1 O0 SS) e10 Y1.1 rfl rfl pd_14 rfl dp50_16_61 (by rw [hml]; rfl) rfl (by decide) (by decide) (LB rfl) (by decide) (by decide) fun v32 T32 L32 X32 q32 => ?_
            obtain ⟨rfl, e32, rfl⟩ := q32
            replace X32 := own_px X32
            refine k_some K (w := (.int (Int32.ofNat us.length))) ?_
            refine mAN K X32.here hx hby dp50_16_64 rfl rfl rfl ?_
            refine k_callV K X32 hx hby hZ a2 [] [(.int (Int32.ofNat us.length))] hown (W hw 36 rfl) (W hw 37 rfl) (notFace_of_selects (args := #[]) (mvT hZ (W hw 39 rfl))) (W hw 39 rfl) (W hw 38 rfl) (W hw 12 rfl) (W hw 40 rfl) (klen l Z a0 hw a2 cz vf vs h0 n0 Z0 hv Y2 O0 SS) e32 Y2.1 rfl rfl pd_14 rfl dp50_16_65 (by rw [hml]; rfl) rfl (by decide) (by decide) (LB rfl) (by decide) (by decide) fun v33 T33 L33 X33 q33 => ?_
            obtain ⟨rfl, e33, rfl⟩ := q33
            replace X33 := own_px X33
            refine k_some K (w := (.int (Int32.ofNat vs.length))) ?_
            refine k_callS K X33 hx hby hZ [(.int (Int32.ofNat us.length)), (.int (Int32.ofNat vs.length))] [] hown (W hw 51 rfl) (W hw 52 rfl) (W hw 53 rfl) (W hw 54 rfl) (c_ic l Z a0 hw (Int32.ofNat us.length) (Int32.ofNat vs.length) h0 n0 Z0) e33 rfl rfl pd_15 rfl dp50_16_68 (by rw [hml]; rfl) rfl (by decide) (by decide) (LB rfl) (by decide) (by decide) fun v34 T34 L34 X34 q34 => ?_
            obtain ⟨rfl, e34, rfl⟩ := q34
            replace X34 := own_px X34
            refine k_some K (w := (.int (wq_2 us vs))) ?_
            exact Go.retI X34 hx hby hlk hret dp50_16_71 (by decide) (by decide) (⟨congrArg (fun z => some (Value.int z)) (Eq.symm (by rw [CMV, if_pos hc16_4, if_pos hc37_7, if_pos hc16_8, if_pos hc37_11, if_neg hc16_12])), e34, rfl⟩)
        · refine m_icmpN K X10.here hx hby (q := 40) dp50_16_37 (feq hc37_11).1 rfl ?_
          refine mI K X10.here hx hby dp50_16_40 rfl rfl ?_
          refine k_callS K X10 hx hby hZ [(.int (us.getD 1 0))] [] hown (W hw 104 rfl) (W hw 105 rfl) (W hw 34 rfl) (W hw 106 rfl) (c_rk l Z a0 hw (us.getD 1 0) h0 n0 Z0) e10 rfl rfl pd_17 rfl dp50_16_42 (by rw [hml]; rfl) rfl (by decide) (by decide) (LB rfl) (by decide) (by decide) fun v35 T35 L35 X35 q35 => ?_
          obtain ⟨rfl, e35, rfl⟩ := q35
          replace X35 := own_px X35
          refine k_some K (w := (.int (RNK (us.getD 1 0)))) ?_
          refine mI K X35.here hx hby dp50_16_45 rfl rfl ?_
          refine k_callS K X35 hx hby hZ [(.int (vs.getD 1 0))] [(.int (RNK (us.getD 1 0)))] hown (W hw 104 rfl) (W hw 105 rfl) (W hw 34 rfl) (W hw 106 rfl) (c_rk l Z a0 hw (vs.getD 1 0) h0 n0 Z0) e35 rfl rfl pd_17 rfl dp50_16_47 (by rw [hml]; rfl) rfl (by decide) (by decide) (LB rfl) (by decide) (by decide) fun v36 T36 L36 X36 q36 => ?_
          obtain ⟨rfl, e36, rfl⟩ := q36
          replace X36 := own_px X36
          refine k_some K (w := (.int (RNK (vs.getD 1 0)))) ?_
          refine k_callS K X36 hx hby hZ [(.int (RNK (us.getD 1 0))), (.int (RNK (vs.getD 1 0)))] [] hown (W hw 51 rfl) (W hw 52 rfl) (W hw 53 rfl) (W hw 54 rfl) (c_ic l Z a0 hw (RNK (us.getD 1 0)) (RNK (vs.getD 1 0)) h0 n0 Z0) e36 rfl rfl pd_15 rfl dp50_16_50 (by rw [hml]; rfl) rfl (by decide) (by decide) (LB rfl) (by decide) (by decide) fun v37 T37 L37 X37 q37 => ?_
          obtain ⟨rfl, e37, rfl⟩ := q37
          replace X37 := own_px X37
          refine k_some K (w := (.int (wq_5 us vs))) ?_
          exact Go.retI X37 hx hby hlk hret dp50_16_53 (by decide) (by decide) (⟨congrArg (fun z => some (Value.int z)) (Eq.symm (by rw [CMV, if_pos hc16_4, if_pos hc37_7, if_pos hc16_8, if_neg hc37_11])), e37, rfl⟩)
      · refine m_icmpY K X6.here hx hby (q := 60) dp50_16_16 (flt hc16_8).2.1 (by decide) rfl ?_
        refine mAN K X6.here hx hby dp50_16_60 rfl rfl rfl ?_
        refine k_callV K X6 hx hby hZ a1 [] [] hown (W hw 36 rfl) (W hw 37 rfl) (notFace_of_selects (args := #[]) (mvT hZ (W hw 39 rfl))) (W hw 39 rfl) (W hw 38 rfl) (W hw 12 rfl) (W hw 40 rfl) (klen l Z a0 hw a1 cz vf us h0 n0 Z0 hu Y1 O0 SS) e6 Y1.1 rfl rfl pd_14 rfl dp50_16_61 (by rw [hml]; rfl) rfl (by decide) (by decide) (LB rfl) (by decide) (by decide) fun v38 T38 L38 X38 q38 => ?_
        obtain ⟨rfl, e38, rfl⟩ := q38
        replace X38 := own_px X38
        refine k_some K (w := (.int (Int32.ofNat us.length))) ?_
        refine mAN K X38.here hx hby dp50_16_64 rfl rfl rfl ?_
        refine k_callV K X38 hx hby hZ a2 [] [(.int (Int32.ofNat us.length))] hown (W hw 36 rfl) (W hw 37 rfl) (notFace_of_selects (args := #[]) (mvT hZ (W hw 39 rfl))) (W hw 39 rfl) (W hw 38 rfl) (W hw 12 rfl) (W hw 40 rfl) (klen l Z a0 hw a2 cz vf vs h0 n0 Z0 hv Y2 O0 SS) e38 Y2.1 rfl rfl pd_14 rfl dp50_16_65 (by rw [hml]; rfl) rfl (by decide) (by decide) (LB rfl) (by decide) (by decide) fun v39 T39 L39 X39 q39 => ?_
        obtain ⟨rfl, e39, rfl⟩ := q39
        replace X39 := own_px X39
        refine k_some K (w := (.int (Int32.ofNat vs.length))) ?_
        refine k_callS K X39 hx hby hZ [(.int (Int32.ofNat us.length)), (.int (Int32.ofNat vs.length))] [] hown (W hw 51 rfl) (W hw 52 rfl) (W hw 53 rfl) (W hw 54 rfl) (c_ic l Z a0 hw (Int32.ofNat us.length) (Int32.ofNat vs.length) h0 n0 Z0) e39 rfl rfl pd_15 rfl dp50_16_68 (by rw [hml]; rfl) rfl (by decide) (by decide) (LB rfl) (by decide) (by decide) fun v40 T40 L40 X40 q40 => ?_
        obtain ⟨rfl, e40, rfl⟩ := q40
        replace X40 := own_px X40
        refine k_some K (w := (.int (wq_2 us vs))) ?_
        exact Go.retI X40 hx hby hlk hret dp50_16_71 (by decide) (by decide) (⟨congrArg (fun z => some (Value.int z)) (Eq.symm (by rw [CMV, if_pos hc16_4, if_pos hc37_7, if_neg hc16_8])), e40, rfl⟩)
    · refine m_icmpN K X6.here hx hby (q := 40) dp50_16_37 (feq hc37_7).1 rfl ?_
      refine mI K X6.here hx hby dp50_16_40 rfl rfl ?_
      refine k_callS K X6 hx hby hZ [(.int (us.getD 0 0))] [] hown (W hw 104 rfl) (W hw 105 rfl) (W hw 34 rfl) (W hw 106 rfl) (c_rk l Z a0 hw (us.getD 0 0) h0 n0 Z0) e6 rfl rfl pd_17 rfl dp50_16_42 (by rw [hml]; rfl) rfl (by decide) (by decide) (LB rfl) (by decide) (by decide) fun v41 T41 L41 X41 q41 => ?_
      obtain ⟨rfl, e41, rfl⟩ := q41
      replace X41 := own_px X41
      refine k_some K (w := (.int (RNK (us.getD 0 0)))) ?_
      refine mI K X41.here hx hby dp50_16_45 rfl rfl ?_
      refine k_callS K X41 hx hby hZ [(.int (vs.getD 0 0))] [(.int (RNK (us.getD 0 0)))] hown (W hw 104 rfl) (W hw 105 rfl) (W hw 34 rfl) (W hw 106 rfl) (c_rk l Z a0 hw (vs.getD 0 0) h0 n0 Z0) e41 rfl rfl pd_17 rfl dp50_16_47 (by rw [hml]; rfl) rfl (by decide) (by decide) (LB rfl) (by decide) (by decide) fun v42 T42 L42 X42 q42 => ?_
      obtain ⟨rfl, e42, rfl⟩ := q42
      replace X42 := own_px X42
      refine k_some K (w := (.int (RNK (vs.getD 0 0)))) ?_
      refine k_callS K X42 hx hby hZ [(.int (RNK (us.getD 0 0))), (.int (RNK (vs.getD 0 0)))] [] hown (W hw 51 rfl) (W hw 52 rfl) (W hw 53 rfl) (W hw 54 rfl) (c_ic l Z a0 hw (RNK (us.getD 0 0)) (RNK (vs.getD 0 0)) h0 n0 Z0) e42 rfl rfl pd_15 rfl dp50_16_50 (by rw [hml]; rfl) rfl (by decide) (by decide) (LB rfl) (by decide) (by decide) fun v43 T43 L43 X43 q43 => ?_
      obtain ⟨rfl, e43, rfl⟩ := q43
      replace X43 := own_px X43
      refine k_some K (w := (.int (wq_6 us vs))) ?_
      exact Go.retI X43 hx hby hlk hret dp50_16_53 (by decide) (by decide) (⟨congrArg (fun z => some (Value.int z)) (Eq.symm (by rw [CMV, if_pos hc16_4, if_neg hc37_7])), e43, rfl⟩)
  · refine m_icmpY K X3.here hx hby (q := 60) dp50_16_16 (flt hc16_4).2.1 (by decide) rfl ?_
    refine mAN K X3.here hx hby dp50_16_60 rfl rfl rfl ?_
    refine k_callV K X3 hx hby hZ a1 [] [] hown (W hw 36 rfl) (W hw 37 rfl) (notFace_of_selects (args := #[]) (mvT hZ (W hw 39 rfl))) (W hw 39 rfl) (W hw 38 rfl) (W hw 12 rfl) (W hw 40 rfl) (klen l Z a0 hw a1 cz vf us h0 n0 Z0 hu Y1 O0 SS) e3 Y1.1 rfl rfl pd_14 rfl dp50_16_61 (by rw [hml]; rfl) rfl (by decide) (by decide) (LB rfl) (by decide) (by decide) fun v44 T44 L44 X44 q44 => ?_
    obtain ⟨rfl, e44, rfl⟩ := q44
    replace X44 := own_px X44
    refine k_some K (w := (.int (Int32.ofNat us.length))) ?_
    refine mAN K X44.here hx hby dp50_16_64 rfl rfl rfl ?_
    refine k_callV K X44 hx hby hZ a2 [] [(.int (Int32.ofNat us.length))] hown (W hw 36 rfl) (W hw 37 rfl) (notFace_of_selects (args := #[]) (mvT hZ (W hw 39 rfl))) (W hw 39 rfl) (W hw 38 rfl) (W hw 12 rfl) (W hw 40 rfl) (klen l Z a0 hw a2 cz vf vs h0 n0 Z0 hv Y2 O0 SS) e44 Y2.1 rfl rfl pd_14 rfl dp50_16_65 (by rw [hml]; rfl) rfl (by decide) (by decide) (LB rfl) (by decide) (by decide) fun v45 T45 L45 X45 q45 => ?_
    obtain ⟨rfl, e45, rfl⟩ := q45
    replace X45 := own_px X45
    refine k_some K (w := (.int (Int32.ofNat vs.length))) ?_
    refine k_callS K X45 hx hby hZ [(.int (Int32.ofNat us.length)), (.int (Int32.ofNat vs.length))] [] hown (W hw 51 rfl) (W hw 52 rfl) (W hw 53 rfl) (W hw 54 rfl) (c_ic l Z a0 hw (Int32.ofNat us.length) (Int32.ofNat vs.length) h0 n0 Z0) e45 rfl rfl pd_15 rfl dp50_16_68 (by rw [hml]; rfl) rfl (by decide) (by decide) (LB rfl) (by decide) (by decide) fun v46 T46 L46 X46 q46 => ?_
    obtain ⟨rfl, e46, rfl⟩ := q46
    replace X46 := own_px X46
    refine k_some K (w := (.int (wq_2 us vs))) ?_
    exact Go.retI X46 hx hby hlk hret dp50_16_71 (by decide) (by decide) (⟨congrArg (fun z => some (Value.int z)) (Eq.symm (by rw [CMV, if_neg hc16_4])), e46, rfl⟩)
def wre_1 (p2 p5 : Int32) : Int32 := (if p2 < p5 then (-1 : Int32) else (1 : Int32))
def wre_2 (p1 p4 : Int32) : Int32 := (if p1 < p4 then (-1 : Int32) else (1 : Int32))
def RFN (p1 p2 : Int32) (p3 p4 : Int32) (p5 p6 : Int32) : Int32 := (if p3 < (1 : Int32) then (if p3 < p6 then (-1 : Int32) else (if p6 < p3 then (1 : Int32) else (0 : Int32))) else (if p6 < (1 : Int32) then (if p3 < p6 then (-1 : Int32) else (if p6 < p3 then (1 : Int32) else (0 : Int32))) else (if p1 = p4 then (if p3 < (2 : Int32) then (if p3 < p6 then (-1 : Int32) else (if p6 < p3 then (1 : Int32) else (0 : Int32))) else (if p6 < (2 : Int32) then (if p3 < p6 then (-1 : Int32) else (if p6 < p3 then (1 : Int32) else (0 : Int32))) else (if p2 = p5 then (if p3 < p6 then (-1 : Int32) else (if p6 < p3 then (1 : Int32) else (0 : Int32))) else (wre_1 p2 p5)))) else (wre_2 p1 p4))))
theorem dm9_0 : decode method_9_code 0 = .ok (.iload_n 2, 1) := by decide +kernel
theorem dm9_1 : decode method_9_code 1 = .ok (.iconst 1, 1) := by decide +kernel
theorem dm9_2 : decode method_9_code 2 = .ok (.if_icmp .lt 54, 3) := by decide +kernel
theorem dm9_5 : decode method_9_code 5 = .ok (.iload 5, 2) := by decide +kernel
theorem dm9_7 : decode method_9_code 7 = .ok (.iconst 1, 1) := by decide +kernel
theorem dm9_8 : decode method_9_code 8 = .ok (.if_icmp .lt 48, 3) := by decide +kernel
theorem dm9_11 : decode method_9_code 11 = .ok (.iload_n 0, 1) := by decide +kernel
theorem dm9_12 : decode method_9_code 12 = .ok (.iload_n 3, 1) := by decide +kernel
theorem dm9_13 : decode method_9_code 13 = .ok (.if_icmp .eq 14, 3) := by decide +kernel
theorem dm9_16 : decode method_9_code 16 = .ok (.iload_n 0, 1) := by decide +kernel
theorem dm9_17 : decode method_9_code 17 = .ok (.iload_n 3, 1) := by decide +kernel
theorem dm9_18 : decode method_9_code 18 = .ok (.if_icmp .ge 7, 3) := by decide +kernel
theorem dm9_21 : decode method_9_code 21 = .ok (.iconst (-1), 1) := by decide +kernel
theorem dm9_22 : decode method_9_code 22 = .ok (.goto 4, 3) := by decide +kernel
theorem dm9_25 : decode method_9_code 25 = .ok (.iconst 1, 1) := by decide +kernel
theorem dm9_26 : decode method_9_code 26 = .ok (.ireturn, 1) := by decide +kernel
theorem dm9_27 : decode method_9_code 27 = .ok (.iload_n 2, 1) := by decide +kernel
theorem dm9_28 : decode method_9_code 28 = .ok (.iconst 2, 1) := by decide +kernel
theorem dm9_29 : decode method_9_code 29 = .ok (.if_icmp .lt 27, 3) := by decide +kernel
theorem dm9_32 : decode method_9_code 32 = .ok (.iload 5, 2) := by decide +kernel
theorem dm9_34 : decode method_9_code 34 = .ok (.iconst 2, 1) := by decide +kernel
theorem dm9_35 : decode method_9_code 35 = .ok (.if_icmp .lt 21, 3) := by decide +kernel
theorem dm9_38 : decode method_9_code 38 = .ok (.iload_n 1, 1) := by decide +kernel
theorem dm9_39 : decode method_9_code 39 = .ok (.iload 4, 2) := by decide +kernel
theorem dm9_41 : decode method_9_code 41 = .ok (.if_icmp .eq 15, 3) := by decide +kernel
theorem dm9_44 : decode method_9_code 44 = .ok (.iload_n 1, 1) := by decide +kernel
theorem dm9_45 : decode method_9_code 45 = .ok (.iload 4, 2) := by decide +kernel
theorem dm9_47 : decode method_9_code 47 = .ok (.if_icmp .ge 7, 3) := by decide +kernel
theorem dm9_50 : decode method_9_code 50 = .ok (.iconst (-1), 1) := by decide +kernel
theorem dm9_51 : decode method_9_code 51 = .ok (.goto 4, 3) := by decide +kernel
theorem dm9_54 : decode method_9_code 54 = .ok (.iconst 1, 1) := by decide +kernel
theorem dm9_55 : decode method_9_code 55 = .ok (.ireturn, 1) := by decide +kernel
theorem dm9_56 : decode method_9_code 56 = .ok (.iload_n 2, 1) := by decide +kernel
theorem dm9_57 : decode method_9_code 57 = .ok (.iload 5, 2) := by decide +kernel
theorem dm9_59 : decode method_9_code 59 = .ok (.if_icmp .ge 5, 3) := by decide +kernel
theorem dm9_62 : decode method_9_code 62 = .ok (.iconst (-1), 1) := by decide +kernel
theorem dm9_63 : decode method_9_code 63 = .ok (.ireturn, 1) := by decide +kernel
theorem dm9_64 : decode method_9_code 64 = .ok (.iload_n 2, 1) := by decide +kernel
theorem dm9_65 : decode method_9_code 65 = .ok (.iload 5, 2) := by decide +kernel
theorem dm9_67 : decode method_9_code 67 = .ok (.if_icmp .le 5, 3) := by decide +kernel
theorem dm9_70 : decode method_9_code 70 = .ok (.iconst 1, 1) := by decide +kernel
theorem dm9_71 : decode method_9_code 71 = .ok (.ireturn, 1) := by decide +kernel
theorem dm9_72 : decode method_9_code 72 = .ok (.iconst 0, 1) := by decide +kernel
theorem dm9_73 : decode method_9_code 73 = .ok (.ireturn, 1) := by decide +kernel
theorem efre (m : MethodId) (x0 x1 : Int32) (x2 x3 : Int32) (x4 x5 : Int32) : entryFrame m #[(.int x0), (.int x1), (.int x2), (.int x3), (.int x4), (.int x5)] 6 = mkF m 0 #[.val (.int x0), .val (.int x1), .val (.int x2), .val (.int x3), .val (.int x4), .val (.int x5)] [] := by first | (simp [entryFrame, mkF, argsToLocals, Value.category]; done) | rfl
theorem c_re (l : Launch) (Z : State) (a0 : Array Value) (hw : ∀ d ∈ tables_1, d.before a0 Z = true) (p1 p2 : Int32) (p3 p4 : Int32) (p5 p6 : Int32) (h0 : Heap) (n0 : Nat) (Z0 : n0 ≤ h0.size) :
    Con l Z (⟨"com/example/stamp2/stamp2/version/RowFormatCompareStringsPinLaw", "reference", "(IIIIII)I"⟩ : MethodName) method_9_code 6 (some .int) ({ frames := 0, cells := 0, slots := 0, locals := 0 } : Room) [] #[(.int p1), (.int p2), (.int p3), (.int p4), (.int p5), (.int p6)] h0 (fun v h L => v = some (.int (RFN p1 p2 p3 p4 p5 p6)) ∧ h = h0 ∧ L = []) := by
  refine Con.of (plainFor_of_name pn_com_example_stamp2_stamp2_version_RowFormatCompareStringsPinLaw) #[.val (.int p1), .val (.int p2), .val (.int p3), .val (.int p4), .val (.int p5), .val (.int p6)] (fun m => efre m p1 p2 p3 p4 p5 p6) ?_
  intro p e s m below meth c s₁ K hx hby hml hown hnm hret hlk hZ X0 e0
  have N0 := Fr.nil n0
  refine mIN K X0.here hx hby dm9_0 rfl rfl ?_
  refine mC K X0.here hx hby (1 : Int32) dm9_1 rfl rfl ?_
  by_cases hc2_1 : p3 < (1 : Int32)
  · refine m_icmpY K X0.here hx hby (q := 56) dm9_2 (tlt hc2_1).1 (by decide) rfl ?_
    refine mIN K X0.here hx hby dm9_56 rfl rfl ?_
    refine mI K X0.here hx hby dm9_57 rfl rfl ?_
    by_cases hc59_2 : p3 < p6
    · refine m_icmpN K X0.here hx hby (q := 62) dm9_59 (tlt hc59_2).2.1 rfl ?_
      refine mC K X0.here hx hby (-1 : Int32) dm9_62 rfl rfl ?_
      exact Go.retI X0 hx hby hlk hret dm9_63 (by decide) (by decide) (⟨congrArg (fun z => some (Value.int z)) (Eq.symm (by rw [RFN, if_pos hc2_1, if_pos hc59_2])), e0, rfl⟩)
    · refine m_icmpY K X0.here hx hby (q := 64) dm9_59 (flt hc59_2).2.1 (by decide) rfl ?_
      refine mIN K X0.here hx hby dm9_64 rfl rfl ?_
      refine mI K X0.here hx hby dm9_65 rfl rfl ?_
      by_cases hc67_3 : p6 < p3
      · refine m_icmpN K X0.here hx hby (q := 70) dm9_67 (tlt hc67_3).2.2.2 rfl ?_
        refine mC K X0.here hx hby (1 : Int32) dm9_70 rfl rfl ?_
        exact Go.retI X0 hx hby hlk hret dm9_71 (by decide) (by decide) (⟨congrArg (fun z => some (Value.int z)) (Eq.symm (by rw [RFN, if_pos hc2_1, if_neg hc59_2, if_pos hc67_3])), e0, rfl⟩)
      · refine m_icmpY K X0.here hx hby (q := 72) dm9_67 (flt hc67_3).2.2.2 (by decide) rfl ?_
        refine mC K X0.here hx hby (0 : Int32) dm9_72 rfl rfl ?_
        exact Go.retI X0 hx hby hlk hret dm9_73 (by decide) (by decide) (⟨congrArg (fun z => some (Value.int z)) (Eq.symm (by rw [RFN, if_pos hc2_1, if_neg hc59_2, if_neg hc67_3])), e0, rfl⟩)
  · refine m_icmpN K X0.here hx hby (q := 5) dm9_2 (flt hc2_1).1 rfl ?_
    refine mI K X0.here hx hby dm9_5 rfl rfl ?_
    refine mC K X0.here hx hby (1 : Int32) dm9_7 rfl rfl ?_
    by_cases hc8_4 : p6 < (1 : Int32)
    · refine m_icmpY K X0.here hx hby (q := 56) dm9_8 (tlt hc8_4).1 (by decide) rfl ?_
      refine mIN K X0.here hx hby dm9_56 rfl rfl ?_
      refine mI K X0.here hx hby dm9_57 rfl rfl ?_
      by_cases hc59_5 : p3 < p6
      · refine m_icmpN K X0.here hx hby (q := 62) dm9_59 (tlt hc59_5).2.1 rfl ?_
        refine mC K X0.here hx hby (-1 : Int32) dm9_62 rfl rfl ?_
        exact Go.retI X0 hx hby hlk hret dm9_63 (by decide) (by decide) (⟨congrArg (fun z => some (Value.int z)) (Eq.symm (by rw [RFN, if_neg hc2_1, if_pos hc8_4, if_pos hc59_5])), e0, rfl⟩)
      · refine m_icmpY K X0.here hx hby (q := 64) dm9_59 (flt hc59_5).2.1 (by decide) rfl ?_
        refine mIN K X0.here hx hby dm9_64 rfl rfl ?_
        refine mI K X0.here hx hby dm9_65 rfl rfl ?_
        by_cases hc67_6 : p6 < p3
        · refine m_icmpN K X0.here hx hby (q := 70) dm9_67 (tlt hc67_6).2.2.2 rfl ?_
          refine mC K X0.here hx hby (1 : Int32) dm9_70 rfl rfl ?_
          exact Go.retI X0 hx hby hlk hret dm9_71 (by decide) (by decide) (⟨congrArg (fun z => some (Value.int z)) (Eq.symm (by rw [RFN, if_neg hc2_1, if_pos hc8_4, if_neg hc59_5, if_pos hc67_6])), e0, rfl⟩)
        · refine m_icmpY K X0.here hx hby (q := 72) dm9_67 (flt hc67_6).2.2.2 (by decide) rfl ?_
          refine mC K X0.here hx hby (0 : Int32) dm9_72 rfl rfl ?_
          exact Go.retI X0 hx hby hlk hret dm9_73 (by decide) (by decide) (⟨congrArg (fun z => some (Value.int z)) (Eq.symm (by rw [RFN, if_neg hc2_1, if_pos hc8_4, if_neg hc59_5, if_neg hc67_6])), e0, rfl⟩)
    · refine m_icmpN K X0.here hx hby (q := 11) dm9_8 (flt hc8_4).1 rfl ?_
      refine mIN K X0.here hx hby dm9_11 rfl rfl ?_
      refine mIN K X0.here hx hby dm9_12 rfl rfl ?_
      by_cases hc13_7 : p1 = p4
      · refine m_icmpY K X0.here hx hby (q := 27) dm9_13 (teq hc13_7).1 (by decide) rfl ?_
        refine mIN K X0.here hx hby dm9_27 rfl rfl ?_
        refine mC K X0.here hx hby (2 : Int32) dm9_28 rfl rfl ?_
        by_cases hc29_8 : p3 < (2 : Int32)
        · refine m_icmpY K X0.here hx hby (q := 56) dm9_29 (tlt hc29_8).1 (by decide) rfl ?_
          refine mIN K X0.here hx hby dm9_56 rfl rfl ?_
          refine mI K X0.here hx hby dm9_57 rfl rfl ?_
          by_cases hc59_9 : p3 < p6
          · refine m_icmpN K X0.here hx hby (q := 62) dm9_59 (tlt hc59_9).2.1 rfl ?_
            refine mC K X0.here hx hby (-1 : Int32) dm9_62 rfl rfl ?_
            exact Go.retI X0 hx hby hlk hret dm9_63 (by decide) (by decide) (⟨congrArg (fun z => some (Value.int z)) (Eq.symm (by rw [RFN, if_neg hc2_1, if_neg hc8_4, if_pos hc13_7, if_pos hc29_8, if_pos hc59_9])), e0, rfl⟩)
          · refine m_icmpY K X0.here hx hby (q := 64) dm9_59 (flt hc59_9).2.1 (by decide) rfl ?_
            refine mIN K X0.here hx hby dm9_64 rfl rfl ?_
            refine mI K X0.here hx hby dm9_65 rfl rfl ?_
            by_cases hc67_10 : p6 < p3
            · refine m_icmpN K X0.here hx hby (q := 70) dm9_67 (tlt hc67_10).2.2.2 rfl ?_
              refine mC K X0.here hx hby (1 : Int32) dm9_70 rfl rfl ?_
              exact Go.retI X0 hx hby hlk hret dm9_71 (by decide) (by decide) (⟨congrArg (fun z => some (Value.int z)) (Eq.symm (by rw [RFN, if_neg hc2_1, if_neg hc8_4, if_pos hc13_7, if_pos hc29_8, if_neg hc59_9, if_pos hc67_10])), e0, rfl⟩)
            · refine m_icmpY K X0.here hx hby (q := 72) dm9_67 (flt hc67_10).2.2.2 (by decide) rfl ?_
              refine mC K X0.here hx hby (0 : Int32) dm9_72 rfl rfl ?_
              exact Go.retI X0 hx hby hlk hret dm9_73 (by decide) (by decide) (⟨congrArg (fun z => some (Value.int z)) (Eq.symm (by rw [RFN, if_neg hc2_1, if_neg hc8_4, if_pos hc13_7, if_pos hc29_8, if_neg hc59_9, if_neg hc67_10])), e0, rfl⟩)
        · refine m_icmpN K X0.here hx hby (q := 32) dm9_29 (flt hc29_8).1 rfl ?_
          refine mI K X0.here hx hby dm9_32 rfl rfl ?_
          refine mC K X0.here hx hby (2 : Int32) dm9_34 rfl rfl ?_
          by_cases hc35_11 : p6 < (2 : Int32)
          · refine m_icmpY K X0.here hx hby (q := 56) dm9_35 (tlt hc35_11).1 (by decide) rfl ?_
            refine mIN K X0.here hx hby dm9_56 rfl rfl ?_
            refine mI K X0.here hx hby dm9_57 rfl rfl ?_
            by_cases hc59_12 : p3 < p6
            · refine m_icmpN K X0.here hx hby (q := 62) dm9_59 (tlt hc59_12).2.1 rfl ?_
              refine mC K X0.here hx hby (-1 : Int32) dm9_62 rfl rfl ?_
              exact Go.retI X0 hx hby hlk hret dm9_63 (by decide) (by decide) (⟨congrArg (fun z => some (Value.int z)) (Eq.symm (by rw [RFN, if_neg hc2_1, if_neg hc8_4, if_pos hc13_7, if_neg hc29_8, if_pos hc35_11, if_pos hc59_12])), e0, rfl⟩)
            · refine m_icmpY K X0.here hx hby (q := 64) dm9_59 (flt hc59_12).2.1 (by decide) rfl ?_
              refine mIN K X0.here hx hby dm9_64 rfl rfl ?_
              refine mI K X0.here hx hby dm9_65 rfl rfl ?_
              by_cases hc67_13 : p6 < p3
              · refine m_icmpN K X0.here hx hby (q := 70) dm9_67 (tlt hc67_13).2.2.2 rfl ?_
                refine mC K X0.here hx hby (1 : Int32) dm9_70 rfl rfl ?_
                exact Go.retI X0 hx hby hlk hret dm9_71 (by decide) (by decide) (⟨congrArg (fun z => some (Value.int z)) (Eq.symm (by rw [RFN, if_neg hc2_1, if_neg hc8_4, if_pos hc13_7, if_neg hc29_8, if_pos hc35_11, if_neg hc59_12, if_pos hc67_13])), e0, rfl⟩)
              · refine m_icmpY K X0.here hx hby (q := 72) dm9_67 (flt hc67_13).2.2.2 (by decide) rfl ?_
                refine mC K X0.here hx hby (0 : Int32) dm9_72 rfl rfl ?_
                exact Go.retI X0 hx hby hlk hret dm9_73 (by decide) (by decide) (⟨congrArg (fun z => some (Value.int z)) (Eq.symm (by rw [RFN, if_neg hc2_1, if_neg hc8_4, if_pos hc13_7, if_neg hc29_8, if_pos hc35_11, if_neg hc59_12, if_neg hc67_13])), e0, rfl⟩)
          · refine m_icmpN K X0.here hx hby (q := 38) dm9_35 (flt hc35_11).1 rfl ?_
            refine mIN K X0.here hx hby dm9_38 rfl rfl ?_
            refine mI K X0.here hx hby dm9_39 rfl rfl ?_
            by_cases hc41_14 : p2 = p5
            · refine m_icmpY K X0.here hx hby (q := 56) dm9_41 (teq hc41_14).1 (by decide) rfl ?_
              refine mIN K X0.here hx hby dm9_56 rfl rfl ?_
              refine mI K X0.here hx hby dm9_57 rfl rfl ?_
              by_cases hc59_15 : p3 < p6
              · refine m_icmpN K X0.here hx hby (q := 62) dm9_59 (tlt hc59_15).2.1 rfl ?_
                refine mC K X0.here hx hby (-1 : Int32) dm9_62 rfl rfl ?_
                exact Go.retI X0 hx hby hlk hret dm9_63 (by decide) (by decide) (⟨congrArg (fun z => some (Value.int z)) (Eq.symm (by rw [RFN, if_neg hc2_1, if_neg hc8_4, if_pos hc13_7, if_neg hc29_8, if_neg hc35_11, if_pos hc41_14, if_pos hc59_15])), e0, rfl⟩)
              · refine m_icmpY K X0.here hx hby (q := 64) dm9_59 (flt hc59_15).2.1 (by decide) rfl ?_
                refine mIN K X0.here hx hby dm9_64 rfl rfl ?_
                refine mI K X0.here hx hby dm9_65 rfl rfl ?_
                by_cases hc67_16 : p6 < p3
                · refine m_icmpN K X0.here hx hby (q := 70) dm9_67 (tlt hc67_16).2.2.2 rfl ?_
                  refine mC K X0.here hx hby (1 : Int32) dm9_70 rfl rfl ?_
                  exact Go.retI X0 hx hby hlk hret dm9_71 (by decide) (by decide) (⟨congrArg (fun z => some (Value.int z)) (Eq.symm (by rw [RFN, if_neg hc2_1, if_neg hc8_4, if_pos hc13_7, if_neg hc29_8, if_neg hc35_11, if_pos hc41_14, if_neg hc59_15, if_pos hc67_16])), e0, rfl⟩)
                · refine m_icmpY K X0.here hx hby (q := 72) dm9_67 (flt hc67_16).2.2.2 (by decide) rfl ?_
                  refine mC K X0.here hx hby (0 : Int32) dm9_72 rfl rfl ?_
                  exact Go.retI X0 hx hby hlk hret dm9_73 (by decide) (by decide) (⟨congrArg (fun z => some (Value.int z)) (Eq.symm (by rw [RFN, if_neg hc2_1, if_neg hc8_4, if_pos hc13_7, if_neg hc29_8, if_neg hc35_11, if_pos hc41_14, if_neg hc59_15, if_neg hc67_16])), e0, rfl⟩)
            · refine m_icmpN K X0.here hx hby (q := 44) dm9_41 (feq hc41_14).1 rfl ?_
              refine mIN K X0.here hx hby dm9_44 rfl rfl ?_
              refine mI K X0.here hx hby dm9_45 rfl rfl ?_
              obtain ⟨T18, X18, e18, st18⟩ : Mx X0 h0 (mkF m 55 #[.val (.int p1), .val (.int p2), .val (.int p3), .val (.int p4), .val (.int p5), .val (.int p6)] [(.int (wre_1 p2 p5))]) (s₁.setTop (mkF m 47 #[.val (.int p1), .val (.int p2), .val (.int p3), .val (.int p4), .val (.int p5), .val (.int p6)] [(.int p5), (.int p2)])) := by
                refine Mx.with fun K => ?_
                by_cases hc47_17 : p2 < p5
                · refine m_icmpN K X0.here hx hby (q := 50) dm9_47 (tlt hc47_17).2.1 rfl ?_
                  refine mC K X0.here hx hby (-1 : Int32) dm9_50 rfl rfl ?_
                  refine m_goto K X0.here hx hby (q := 55) dm9_51 (by decide) rfl ?_
                  rw [show ((wre_1 p2 p5) : Int32) = (-1 : Int32) from if_pos hc47_17]
                  exact Mx.here X0 e0
                · refine m_icmpY K X0.here hx hby (q := 54) dm9_47 (flt hc47_17).2.1 (by decide) rfl ?_
                  refine mC K X0.here hx hby (1 : Int32) dm9_54 rfl rfl ?_
                  rw [show ((wre_1 p2 p5) : Int32) = (1 : Int32) from if_neg hc47_17]
                  exact Mx.here X0 e0
              refine k_go K st18 ?_
              exact Go.retI X18 hx hby hlk hret dm9_55 (by decide) (by decide) (⟨congrArg (fun z => some (Value.int z)) (Eq.symm (by rw [RFN, if_neg hc2_1, if_neg hc8_4, if_pos hc13_7, if_neg hc29_8, if_neg hc35_11, if_neg hc41_14])), e18, rfl⟩)
      · refine m_icmpN K X0.here hx hby (q := 16) dm9_13 (feq hc13_7).1 rfl ?_
        refine mIN K X0.here hx hby dm9_16 rfl rfl ?_
        refine mIN K X0.here hx hby dm9_17 rfl rfl ?_
        obtain ⟨T20, X20, e20, st20⟩ : Mx X0 h0 (mkF m 26 #[.val (.int p1), .val (.int p2), .val (.int p3), .val (.int p4), .val (.int p5), .val (.int p6)] [(.int (wre_2 p1 p4))]) (s₁.setTop (mkF m 18 #[.val (.int p1), .val (.int p2), .val (.int p3), .val (.int p4), .val (.int p5), .val (.int p6)] [(.int p4), (.int p1)])) := by
          refine Mx.with fun K => ?_
          by_cases hc18_19 : p1 < p4
          · refine m_icmpN K X0.here hx hby (q := 21) dm9_18 (tlt hc18_19).2.1 rfl ?_
            refine mC K X0.here hx hby (-1 : Int32) dm9_21 rfl rfl ?_
            refine m_goto K X0.here hx hby (q := 26) dm9_22 (by decide) rfl ?_
            rw [show ((wre_2 p1 p4) : Int32) = (-1 : Int32) from if_pos hc18_19]
            exact Mx.here X0 e0
          · refine m_icmpY K X0.here hx hby (q := 25) dm9_18 (flt hc18_19).2.1 (by decide) rfl ?_
            refine mC K X0.here hx hby (1 : Int32) dm9_25 rfl rfl ?_
            rw [show ((wre_2 p1 p4) : Int32) = (1 : Int32) from if_neg hc18_19]
            exact Mx.here X0 e0
        refine k_go K st20 ?_
        exact Go.retI X20 hx hby hlk hret dm9_26 (by decide) (by decide) (⟨congrArg (fun z => some (Value.int z)) (Eq.symm (by rw [RFN, if_neg hc2_1, if_neg hc8_4, if_neg hc13_7])), e20, rfl⟩)
def US1 (c0 : Int32) : List Int32 := if WID c0 = (1 : Int32) then [FUN c0] else [FUN c0, SUN c0]
def US2 (c0 c1 : Int32) : List Int32 := US1 c0 ++ US1 c1
theorem own_fu (c : Int32) : nar .char (FUN c) = FUN c := by
  unfold FUN
  repeat' split
  all_goals exact own_nc _
theorem own_su (c : Int32) : nar .char (SUN c) = SUN c := own_nc _
theorem own_us1 (c : Int32) : (US1 c).length ≤ 2 := by unfold US1; split <;> simp
theorem own_us2 (c d : Int32) : (US2 c d).length ≤ 4 := by unfold US2; rw [List.length_append]; have := own_us1 c; have := own_us1 d; omega
theorem dm7_0 : decode method_7_code 0 = .ok (.iload_n 2, 1) := by decide +kernel
theorem dm7_1 : decode method_7_code 1 = .ok (.ifCond .ne 14, 3) := by decide +kernel
theorem dm7_4 : decode method_7_code 4 = .ok (.new 35, 3) := by decide +kernel
theorem dm7_7 : decode method_7_code 7 = .ok (.dup, 1) := by decide +kernel
theorem dm7_8 : decode method_7_code 8 = .ok (.iconst 0, 1) := by decide +kernel
theorem dm7_9 : decode method_7_code 9 = .ok (.newarray .char, 2) := by decide +kernel
theorem dm7_11 : decode method_7_code 11 = .ok (.invokespecial 37, 3) := by decide +kernel
theorem dm7_14 : decode method_7_code 14 = .ok (.areturn, 1) := by decide +kernel
theorem pd_18 : parseMethodDescriptor "([C)V" = some ⟨[(.array .char)], none⟩ := by decide +kernel
theorem efst0 (m : MethodId) (x0 x1 x2 : Int32) : entryFrame m #[(.int x0), (.int x1), (.int x2)] 9 = mkF m 0 #[.val (.int x0), .val (.int x1), .val (.int x2), .unset, .unset, .unset, .unset, .unset, .unset] [] := by first | (simp [entryFrame, mkF, argsToLocals, Value.category]; done) | rfl
theorem cst0 (l : Launch) (Z : State) (a0 : Array Value) (hw : ∀ d ∈ tables_1, d.before a0 Z = true) (c0 c1 cz : Int32) (vf : Value) (h0 : Heap) (n0 : Nat) (Z0 : n0 ≤ h0.size) (O0 : Old Z n0 h0) (SS : SSt Z cz vf) (HH : Jvm.Lit.constHeld Z "java/lang/String" 7) (HCW : Jvm.Lit.compactW.before a0 Z = true) :
    ConX l Z (⟨"com/example/stamp2/stamp2/version/RowFormatCompareStringsPinLaw", "str", "(III)Ljava/lang/String;"⟩ : MethodName) method_7_code 9 (some (.object "java/lang/String")) ({ frames := 6, cells := 4, slots := 20, locals := 88 } : Room) [] #[(.int c0), (.int c1), (.int (0 : Int32))] h0 (fun v h L => ∃ b : Addr, v = some (.ref b) ∧ Fr n0 L ∧ Keep h0 h [] ∧ h0.size ≤ b ∧ Exa Z h b "java/lang/String" ∧ Str Z h b []) := by
  refine ConX.of (plainFor_of_name pn_com_example_stamp2_stamp2_version_RowFormatCompareStringsPinLaw) #[.val (.int c0), .val (.int c1), .val (.int (0 : Int32)), .unset, .unset, .unset, .unset, .unset, .unset] (fun m => efst0 m c0 c1 (0 : Int32)) ?_
  intro p e s m below meth c s₁ K hx hby hml hown hnm hret hlk hZ X0 e0 hs0 hLS hS0
  have N0 := Fr.nil n0
  refine mIN K X0.here hx hby dm7_0 rfl rfl ?_
  refine m_ifN K X0.here hx hby (q := 4) dm7_1 ((if0 _ _).trans (teq (by decide : (0 : Int32) = (0 : Int32))).2) rfl ?_
  refine k_newO K X0 hx hby hZ hown (W hw 10 rfl) (W hw 11 rfl) (W hw 12 rfl) e0 dm7_4 rfl (by decide) (by decide) fun T1 h1 b1 X1 e1 E1 g1 A1 D1 => ?_
  have sz_b1 : h0.size ≤ b1 := Nat.le_trans (Nat.le_refl _) (Nat.le_of_eq g1.symm)
  have g_b1 : n0 ≤ b1 := Nat.le_trans Z0 sz_b1
  have F_value_b1 : Fld Z h1 b1 "java/lang/String" "value" "[B" .null := D1 (Or.inr (W hw 26 rfl)) (ty := (.array .byte)) (by decide)
  have F_coder_b1 : Fld Z h1 b1 "java/lang/String" "coder" "B" (.int (0 : Int32)) := D1 (Or.inr (W hw 27 rfl)) (ty := .byte) (by decide)
  refine m_dup K X1.here hx hby dm7_7 rfl rfl ?_
  refine mC K X1.here hx hby (0 : Int32) dm7_8 rfl rfl ?_
  refine k_newP K X1 hx hby hZ 0 0 (W hw 13 rfl) e1 dm7_9 rfl (by decide) rfl (by decide) (by decide) (by decide) (by decide) fun T2 h2 b2 X2 e2 E2 g2 V_b2 => ?_
  have sz_b2 : h0.size ≤ b2 := Nat.le_trans (Nat.le_trans (Nat.le_refl _) E1.1) (Nat.le_of_eq g2.symm)
  have g_b2 : n0 ≤ b2 := Nat.le_trans Z0 sz_b2
  replace V_b2 : Av Z h2 b2 .char [] := V_b2
  refine k_callPX K X2 hx hby hZ hS0 (Nat.le_trans (Nat.zero_le _) (Nat.le_trans (Nat.le_trans (Nat.le_refl _) E1.1) E2.1)) ((hLS.ext E1).ext E2) b1 [(.ref b2)] [(.ref b1)] hown (W hw 14 rfl) (W hw 15 rfl) (W hw 12 rfl) (W hw 16 rfl) rfl (csjw l Z a0 hw b1 b2 h2 n0 (Nat.le_trans Z0 (Nat.le_trans (Nat.le_trans (Nat.le_refl _) E1.1) E2.1)) (A1.ext E2) (F_value_b1.ext E2) (F_coder_b1.ext E2) V_b2 ((O0.ext E1).ext E2) g_b1 HH HCW) e2 rfl rfl pd_18 rfl dm7_11 (by rw [hml]; rfl) rfl (by decide) (by decide) (LB rfl) (by decide) (by decide) fun v3 T3 L3 X3 q3 hS3 LS3 hZ hown => ?_
  obtain ⟨bb_3, rfl, Nq3, K3, Fp3_0, Fp3_1, Ap3_0⟩ := q3
  have N3 := Fr.app N0 Nq3
  refine k_none K ?_
  exact GoX.of_since hS3 (Go.retO X3 hx hby hlk hret rfl (Or.inr (Or.inr (Or.inr (Or.inr ⟨rfl, rfl, rfl⟩)))) dm7_14 (by decide) (by decide) (⟨(⟨b1, rfl, N3, ((((Keep.refl h0 []).ext E1).ext E2).trans K3 (allS (Or.inr sz_b1) all0)), sz_b1, ((A1.ext E2).keep K3), ⟨((A1.ext E2).keep K3), Or.inl ⟨bb_3, [], Fp3_0, Fp3_1, Ap3_0, rfl⟩⟩⟩), (Nat.le_refl _), LS3⟩))
theorem dm7_15 : decode method_7_code 15 = .ok (.iload_n 0, 1) := by decide +kernel
theorem dm7_16 : decode method_7_code 16 = .ok (.invokestatic 40, 3) := by decide +kernel
theorem dm7_19 : decode method_7_code 19 = .ok (.istore_n 3, 1) := by decide +kernel
theorem dm7_20 : decode method_7_code 20 = .ok (.iload_n 0, 1) := by decide +kernel
theorem dm7_21 : decode method_7_code 21 = .ok (.invokestatic 44, 3) := by decide +kernel
theorem dm7_24 : decode method_7_code 24 = .ok (.istore 4, 2) := by decide +kernel
theorem dm7_26 : decode method_7_code 26 = .ok (.iload_n 0, 1) := by decide +kernel
theorem dm7_27 : decode method_7_code 27 = .ok (.invokestatic 47, 3) := by decide +kernel
theorem dm7_30 : decode method_7_code 30 = .ok (.istore 5, 2) := by decide +kernel
theorem dm7_32 : decode method_7_code 32 = .ok (.iload_n 2, 1) := by decide +kernel
theorem dm7_33 : decode method_7_code 33 = .ok (.iconst 1, 1) := by decide +kernel
theorem dm7_34 : decode method_7_code 34 = .ok (.if_icmp .ne 44, 3) := by decide +kernel
theorem dm7_37 : decode method_7_code 37 = .ok (.iload 5, 2) := by decide +kernel
theorem dm7_39 : decode method_7_code 39 = .ok (.iconst 1, 1) := by decide +kernel
theorem dm7_40 : decode method_7_code 40 = .ok (.if_icmp .ne 18, 3) := by decide +kernel
theorem dm7_43 : decode method_7_code 43 = .ok (.new 35, 3) := by decide +kernel
theorem dm7_46 : decode method_7_code 46 = .ok (.dup, 1) := by decide +kernel
theorem dm7_47 : decode method_7_code 47 = .ok (.iconst 1, 1) := by decide +kernel
theorem dm7_48 : decode method_7_code 48 = .ok (.newarray .char, 2) := by decide +kernel
theorem dm7_50 : decode method_7_code 50 = .ok (.dup, 1) := by decide +kernel
theorem dm7_51 : decode method_7_code 51 = .ok (.iconst 0, 1) := by decide +kernel
theorem dm7_52 : decode method_7_code 52 = .ok (.iload_n 3, 1) := by decide +kernel
theorem dm7_53 : decode method_7_code 53 = .ok (.castore, 1) := by decide +kernel
theorem dm7_54 : decode method_7_code 54 = .ok (.invokespecial 37, 3) := by decide +kernel
theorem dm7_57 : decode method_7_code 57 = .ok (.areturn, 1) := by decide +kernel
theorem dm7_58 : decode method_7_code 58 = .ok (.new 35, 3) := by decide +kernel
theorem dm7_61 : decode method_7_code 61 = .ok (.dup, 1) := by decide +kernel
theorem dm7_62 : decode method_7_code 62 = .ok (.iconst 2, 1) := by decide +kernel
theorem dm7_63 : decode method_7_code 63 = .ok (.newarray .char, 2) := by decide +kernel
theorem dm7_65 : decode method_7_code 65 = .ok (.dup, 1) := by decide +kernel
theorem dm7_66 : decode method_7_code 66 = .ok (.iconst 0, 1) := by decide +kernel
theorem dm7_67 : decode method_7_code 67 = .ok (.iload_n 3, 1) := by decide +kernel
theorem dm7_68 : decode method_7_code 68 = .ok (.castore, 1) := by decide +kernel
theorem dm7_69 : decode method_7_code 69 = .ok (.dup, 1) := by decide +kernel
theorem dm7_70 : decode method_7_code 70 = .ok (.iconst 1, 1) := by decide +kernel
theorem dm7_71 : decode method_7_code 71 = .ok (.iload 4, 2) := by decide +kernel
theorem dm7_73 : decode method_7_code 73 = .ok (.castore, 1) := by decide +kernel
theorem dm7_74 : decode method_7_code 74 = .ok (.invokespecial 37, 3) := by decide +kernel
theorem dm7_77 : decode method_7_code 77 = .ok (.areturn, 1) := by decide +kernel
theorem efst1 (m : MethodId) (x0 x1 x2 : Int32) : entryFrame m #[(.int x0), (.int x1), (.int x2)] 9 = mkF m 0 #[.val (.int x0), .val (.int x1), .val (.int x2), .unset, .unset, .unset, .unset, .unset, .unset] [] := by first | (simp [entryFrame, mkF, argsToLocals, Value.category]; done) | rfl
theorem cst1 (l : Launch) (Z : State) (a0 : Array Value) (hw : ∀ d ∈ tables_1, d.before a0 Z = true) (c0 c1 cz : Int32) (vf : Value) (h0 : Heap) (n0 : Nat) (Z0 : n0 ≤ h0.size) (O0 : Old Z n0 h0) (SS : SSt Z cz vf) :
    Con l Z (⟨"com/example/stamp2/stamp2/version/RowFormatCompareStringsPinLaw", "str", "(III)Ljava/lang/String;"⟩ : MethodName) method_7_code 9 (some (.object "java/lang/String")) ({ frames := 6, cells := 4, slots := 20, locals := 88 } : Room) [] #[(.int c0), (.int c1), (.int (1 : Int32))] h0 (fun v h L => ∃ b : Addr, v = some (.ref b) ∧ Fr n0 L ∧ Keep h0 h [] ∧ h0.size ≤ b ∧ Exa Z h b "java/lang/String" ∧ Str Z h b (US1 c0)) := by
  refine Con.of (plainFor_of_name pn_com_example_stamp2_stamp2_version_RowFormatCompareStringsPinLaw) #[.val (.int c0), .val (.int c1), .val (.int (1 : Int32)), .unset, .unset, .unset, .unset, .unset, .unset] (fun m => efst1 m c0 c1 (1 : Int32)) ?_
  intro p e s m below meth c s₁ K hx hby hml hown hnm hret hlk hZ X0 e0
  have N0 := Fr.nil n0
  refine mIN K X0.here hx hby dm7_0 rfl rfl ?_
  refine m_ifY K X0.here hx hby (q := 15) dm7_1 ((if0 _ _).trans (feq (by decide : ¬ ((1 : Int32) = (0 : Int32)))).2) (by decide) rfl ?_
  refine mIN K X0.here hx hby dm7_15 rfl rfl ?_
  refine k_callS K X0 hx hby hZ [(.int c0)] [] hown (W hw 61 rfl) (W hw 62 rfl) (W hw 2 rfl) (W hw 63 rfl) (c_fu l Z a0 hw c0 h0 n0 Z0) e0 rfl rfl pd_16 rfl dm7_16 (by rw [hml]; rfl) rfl (by decide) (by decide) (LB rfl) (by decide) (by decide) fun v1 T1 L1 X1 q1 => ?_
  obtain ⟨rfl, e1, rfl⟩ := q1
  replace X1 := own_px X1
  refine k_some K (w := (.int (FUN c0))) ?_
  refine m_istoreN K X1.here hx hby #[.val (.int c0), .val (.int c1), .val (.int (1 : Int32)), .val (.int (FUN c0)), .unset, .unset, .unset, .unset, .unset] dm7_19 rfl rfl ?_
  refine mIN K X1.here hx hby dm7_20 rfl rfl ?_
  refine k_callS K X1 hx hby hZ [(.int c0)] [] hown (W hw 65 rfl) (W hw 66 rfl) (W hw 2 rfl) (W hw 67 rfl) (c_su l Z a0 hw c0 h0 n0 Z0) e1 rfl rfl pd_16 rfl dm7_21 (by rw [hml]; rfl) rfl (by decide) (by decide) (LB rfl) (by decide) (by decide) fun v2 T2 L2 X2 q2 => ?_
  obtain ⟨rfl, e2, rfl⟩ := q2
  replace X2 := own_px X2
  refine k_some K (w := (.int (SUN c0))) ?_
  refine mS K X2.here hx hby #[.val (.int c0), .val (.int c1), .val (.int (1 : Int32)), .val (.int (FUN c0)), .val (.int (SUN c0)), .unset, .unset, .unset, .unset] dm7_24 rfl rfl ?_
  refine mIN K X2.here hx hby dm7_26 rfl rfl ?_
  refine k_callS K X2 hx hby hZ [(.int c0)] [] hown (W hw 69 rfl) (W hw 70 rfl) (W hw 2 rfl) (W hw 71 rfl) (c_wi l Z a0 hw c0 h0 n0 Z0) e2 rfl rfl pd_1 rfl dm7_27 (by rw [hml]; rfl) rfl (by decide) (by decide) (LB rfl) (by decide) (by decide) fun v3 T3 L3 X3 q3 => ?_
  obtain ⟨rfl, e3, rfl⟩ := q3
  replace X3 := own_px X3
  refine k_some K (w := (.int (WID c0))) ?_
  refine mS K X3.here hx hby #[.val (.int c0), .val (.int c1), .val (.int (1 : Int32)), .val (.int (FUN c0)), .val (.int (SUN c0)), .val (.int (WID c0)), .unset, .unset, .unset] dm7_30 rfl rfl ?_
  refine mIN K X3.here hx hby dm7_32 rfl rfl ?_
  refine mC K X3.here hx hby (1 : Int32) dm7_33 rfl rfl ?_
  refine m_icmpN K X3.here hx hby (q := 37) dm7_34 (teq (by decide : (1 : Int32) = (1 : Int32))).2 rfl ?_
  refine mI K X3.here hx hby dm7_37 rfl rfl ?_
  refine mC K X3.here hx hby (1 : Int32) dm7_39 rfl rfl ?_
  by_cases hc40_4 : (WID c0) = (1 : Int32)
  · refine m_icmpN K X3.here hx hby (q := 43) dm7_40 (teq hc40_4).2 rfl ?_
    refine k_newO K X3 hx hby hZ hown (W hw 10 rfl) (W hw 11 rfl) (W hw 12 rfl) e3 dm7_43 rfl (by decide) (by decide) fun T5 h5 b5 X5 e5 E5 g5 A5 D5 => ?_
    have sz_b5 : h0.size ≤ b5 := Nat.le_trans (Nat.le_refl _) (Nat.le_of_eq g5.symm)
    have g_b5 : n0 ≤ b5 := Nat.le_trans Z0 sz_b5
    have F_value_b5 : Fld Z h5 b5 "java/lang/String" "value" "[B" .null := D5 (Or.inr (W hw 26 rfl)) (ty := (.array .byte)) (by decide)
    have F_coder_b5 : Fld Z h5 b5 "java/lang/String" "coder" "B" (.int (0 : Int32)) := D5 (Or.inr (W hw 27 rfl)) (ty := .byte) (by decide)
    refine m_dup K X5.here hx hby dm7_46 rfl rfl ?_
    refine mC K X5.here hx hby (1 : Int32) dm7_47 rfl rfl ?_
    refine k_newP K X5 hx hby hZ 1 1 (W hw 13 rfl) e5 dm7_48 rfl (by decide) rfl (by decide) (by decide) (by decide) (by decide) fun T6 h6 b6 X6 e6 E6 g6 V_b6 => ?_
    have sz_b6 : h0.size ≤ b6 := Nat.le_trans (Nat.le_trans (Nat.le_refl _) E5.1) (Nat.le_of_eq g6.symm)
    have g_b6 : n0 ≤ b6 := Nat.le_trans Z0 sz_b6
    replace V_b6 : Av Z h6 b6 .char [(.int (0 : Int32))] := V_b6
    refine m_dup K X6.here hx hby dm7_50 rfl rfl ?_
    refine mC K X6.here hx hby (0 : Int32) dm7_51 rfl rfl ?_
    refine mIN K X6.here hx hby dm7_52 rfl rfl ?_
    refine k_stC K X6 hx hby hZ e6 V_b6 (by decide) (LB rfl) dm7_53 rfl fun T7 h7 X7 e7 W7 V7 => ?_
    replace V7 : Av Z h7 b6 .char [(.int (FUN c0))] := by have q := V7; rw [show nar .char (FUN c0) = (FUN c0) from own_fu c0] at q; exact q
    have N7 := Fr.snoc X7 N0 g_b6
    refine k_callP K X7 hx hby hZ b5 [(.ref b6)] [(.ref b5)] hown (W hw 14 rfl) (W hw 15 rfl) (W hw 12 rfl) (W hw 16 rfl) rfl (kmk1 l Z a0 hw b5 b6 cz vf (FUN c0) h7 n0 (Nat.le_trans Z0 (Nat.le_trans (Nat.le_trans (Nat.le_trans (Nat.le_refl _) E5.1) E6.1) (Keep.of_wr W7).1)) ((A5.ext E6).wr W7) ((F_value_b5.ext E6).other W7 (Or.inl (Nat.ne_of_lt (Nat.lt_of_lt_of_le (Nat.lt_of_lt_of_le A5.lt (Nat.le_refl _)) (Nat.le_of_eq g6.symm))))) ((F_coder_b5.ext E6).other W7 (Or.inl (Nat.ne_of_lt (Nat.lt_of_lt_of_le (Nat.lt_of_lt_of_le A5.lt (Nat.le_refl _)) (Nat.le_of_eq g6.symm))))) V7 (((O0.ext E5).ext E6).wr W7 g_b6) g_b5 SS (own_fu c0)) e7 rfl rfl pd_18 rfl dm7_54 (by rw [hml]; rfl) rfl (by decide) (by decide) (LB rfl) (by decide) (by decide) fun v8 T8 L8 X8 q8 => ?_
    obtain ⟨rfl, Nq8, K8, Y8⟩ := q8
    have N8 := Fr.app N7 Nq8
    refine k_none K ?_
    exact Go.retO X8 hx hby hlk hret rfl (Or.inr (Or.inr (Or.inr (Or.inr ⟨rfl, rfl, rfl⟩)))) dm7_57 (by decide) (by decide) (⟨b5, rfl, N8, (((((Keep.refl h0 []).ext E5).ext E6).wr W7 (Or.inr sz_b6)).trans K8 (allS (Or.inr sz_b5) all0)), sz_b5, (((A5.ext E6).wr W7).keep K8), (by rw [US1, if_pos hc40_4]; exact Y8)⟩)
  · refine m_icmpY K X3.here hx hby (q := 58) dm7_40 (feq hc40_4).2 (by decide) rfl ?_
    refine k_newO K X3 hx hby hZ hown (W hw 10 rfl) (W hw 11 rfl) (W hw 12 rfl) e3 dm7_58 rfl (by decide) (by decide) fun T9 h9 b9 X9 e9 E9 g9 A9 D9 => ?_
    have sz_b9 : h0.size ≤ b9 := Nat.le_trans (Nat.le_refl _) (Nat.le_of_eq g9.symm)
    have g_b9 : n0 ≤ b9 := Nat.le_trans Z0 sz_b9
    have F_value_b9 : Fld Z h9 b9 "java/lang/String" "value" "[B" .null := D9 (Or.inr (W hw 26 rfl)) (ty := (.array .byte)) (by decide)
    have F_coder_b9 : Fld Z h9 b9 "java/lang/String" "coder" "B" (.int (0 : Int32)) := D9 (Or.inr (W hw 27 rfl)) (ty := .byte) (by decide)
    refine m_dup K X9.here hx hby dm7_61 rfl rfl ?_
    refine mC K X9.here hx hby (2 : Int32) dm7_62 rfl rfl ?_
    refine k_newP K X9 hx hby hZ 2 2 (W hw 13 rfl) e9 dm7_63 rfl (by decide) rfl (by decide) (by decide) (by decide) (by decide) fun T10 h10 b10 X10 e10 E10 g10 V_b10 => ?_
    have sz_b10 : h0.size ≤ b10 := Nat.le_trans (Nat.le_trans (Nat.le_refl _) E9.1) (Nat.le_of_eq g10.symm)
    have g_b10 : n0 ≤ b10 := Nat.le_trans Z0 sz_b10
    replace V_b10 : Av Z h10 b10 .char [(.int (0 : Int32)), (.int (0 : Int32))] := V_b10
    refine m_dup K X10.here hx hby dm7_65 rfl rfl ?_
    refine mC K X10.here hx hby (0 : Int32) dm7_66 rfl rfl ?_
    refine mIN K X10.here hx hby dm7_67 rfl rfl ?_
    refine k_stC K X10 hx hby hZ e10 V_b10 (by decide) (LB rfl) dm7_68 rfl fun T11 h11 X11 e11 W11 V11 => ?_
    replace V11 : Av Z h11 b10 .char [(.int (FUN c0)), (.int (0 : Int32))] := by have q := V11; rw [show nar .char (FUN c0) = (FUN c0) from own_fu c0] at q; exact q
    have N11 := Fr.snoc X11 N0 g_b10
    refine m_dup K X11.here hx hby dm7_69 rfl rfl ?_
    refine mC K X11.here hx hby (1 : Int32) dm7_70 rfl rfl ?_
    refine mI K X11.here hx hby dm7_71 rfl rfl ?_
    refine k_stC K X11 hx hby hZ e11 V11 (by decide) (LB rfl) dm7_73 rfl fun T12 h12 X12 e12 W12 V12 => ?_
    replace V12 : Av Z h12 b10 .char [(.int (FUN c0)), (.int (SUN c0))] := by have q := V12; rw [show nar .char (SUN c0) = (SUN c0) from own_su c0] at q; exact q
    have N12 := Fr.snoc X12 N11 g_b10
    refine k_callP K X12 hx hby hZ b9 [(.ref b10)] [(.ref b9)] hown (W hw 14 rfl) (W hw 15 rfl) (W hw 12 rfl) (W hw 16 rfl) rfl (kmk2 l Z a0 hw b9 b10 cz vf (FUN c0) (SUN c0) h12 n0 (Nat.le_trans Z0 (Nat.le_trans (Nat.le_trans (Nat.le_trans (Nat.le_trans (Nat.le_refl _) E9.1) E10.1) (Keep.of_wr W11).1) (Keep.of_wr W12).1)) (((A9.ext E10).wr W11).wr W12) (((F_value_b9.ext E10).other W11 (Or.inl (Nat.ne_of_lt (Nat.lt_of_lt_of_le (Nat.lt_of_lt_of_le A9.lt (Nat.le_refl _)) (Nat.le_of_eq g10.symm))))).other W12 (Or.inl (Nat.ne_of_lt (Nat.lt_of_lt_of_le (Nat.lt_of_lt_of_le A9.lt (Nat.le_refl _)) (Nat.le_of_eq g10.symm))))) (((F_coder_b9.ext E10).other W11 (Or.inl (Nat.ne_of_lt (Nat.lt_of_lt_of_le (Nat.lt_of_lt_of_le A9.lt (Nat.le_refl _)) (Nat.le_of_eq g10.symm))))).other W12 (Or.inl (Nat.ne_of_lt (Nat.lt_of_lt_of_le (Nat.lt_of_lt_of_le A9.lt (Nat.le_refl _)) (Nat.le_of_eq g10.symm))))) V12 ((((O0.ext E9).ext E10).wr W11 g_b10).wr W12 g_b10) g_b9 SS (own_fu c0) (own_su c0)) e12 rfl rfl pd_18 rfl dm7_74 (by rw [hml]; rfl) rfl (by decide) (by decide) (LB rfl) (by decide) (by decide) fun v13 T13 L13 X13 q13 => ?_
    obtain ⟨rfl, Nq13, K13, Y13⟩ := q13
    have N13 := Fr.app N12 Nq13
    refine k_none K ?_
    exact Go.retO X13 hx hby hlk hret rfl (Or.inr (Or.inr (Or.inr (Or.inr ⟨rfl, rfl, rfl⟩)))) dm7_77 (by decide) (by decide) (⟨b9, rfl, N13, ((((((Keep.refl h0 []).ext E9).ext E10).wr W11 (Or.inr sz_b10)).wr W12 (Or.inr sz_b10)).trans K13 (allS (Or.inr sz_b9) all0)), sz_b9, ((((A9.ext E10).wr W11).wr W12).keep K13), (by rw [US1, if_neg hc40_4]; exact Y13)⟩)
theorem dm7_78 : decode method_7_code 78 = .ok (.iload_n 1, 1) := by decide +kernel
theorem dm7_79 : decode method_7_code 79 = .ok (.invokestatic 40, 3) := by decide +kernel
theorem dm7_82 : decode method_7_code 82 = .ok (.istore 6, 2) := by decide +kernel
theorem dm7_84 : decode method_7_code 84 = .ok (.iload_n 1, 1) := by decide +kernel
theorem dm7_85 : decode method_7_code 85 = .ok (.invokestatic 44, 3) := by decide +kernel
theorem dm7_88 : decode method_7_code 88 = .ok (.istore 7, 2) := by decide +kernel
theorem dm7_90 : decode method_7_code 90 = .ok (.iload_n 1, 1) := by decide +kernel
theorem dm7_91 : decode method_7_code 91 = .ok (.invokestatic 47, 3) := by decide +kernel
theorem dm7_94 : decode method_7_code 94 = .ok (.istore 8, 2) := by decide +kernel
theorem dm7_96 : decode method_7_code 96 = .ok (.iload 5, 2) := by decide +kernel
theorem dm7_98 : decode method_7_code 98 = .ok (.iconst 1, 1) := by decide +kernel
theorem dm7_99 : decode method_7_code 99 = .ok (.if_icmp .ne 29, 3) := by decide +kernel
theorem dm7_102 : decode method_7_code 102 = .ok (.iload 8, 2) := by decide +kernel
theorem dm7_104 : decode method_7_code 104 = .ok (.iconst 1, 1) := by decide +kernel
theorem dm7_105 : decode method_7_code 105 = .ok (.if_icmp .ne 23, 3) := by decide +kernel
theorem dm7_108 : decode method_7_code 108 = .ok (.new 35, 3) := by decide +kernel
theorem dm7_111 : decode method_7_code 111 = .ok (.dup, 1) := by decide +kernel
theorem dm7_112 : decode method_7_code 112 = .ok (.iconst 2, 1) := by decide +kernel
theorem dm7_113 : decode method_7_code 113 = .ok (.newarray .char, 2) := by decide +kernel
theorem dm7_115 : decode method_7_code 115 = .ok (.dup, 1) := by decide +kernel
theorem dm7_116 : decode method_7_code 116 = .ok (.iconst 0, 1) := by decide +kernel
theorem dm7_117 : decode method_7_code 117 = .ok (.iload_n 3, 1) := by decide +kernel
theorem dm7_118 : decode method_7_code 118 = .ok (.castore, 1) := by decide +kernel
theorem dm7_119 : decode method_7_code 119 = .ok (.dup, 1) := by decide +kernel
theorem dm7_120 : decode method_7_code 120 = .ok (.iconst 1, 1) := by decide +kernel
theorem dm7_121 : decode method_7_code 121 = .ok (.iload 6, 2) := by decide +kernel
theorem dm7_123 : decode method_7_code 123 = .ok (.castore, 1) := by decide +kernel
theorem dm7_124 : decode method_7_code 124 = .ok (.invokespecial 37, 3) := by decide +kernel
theorem dm7_127 : decode method_7_code 127 = .ok (.areturn, 1) := by decide +kernel
theorem dm7_128 : decode method_7_code 128 = .ok (.iload 5, 2) := by decide +kernel
theorem dm7_130 : decode method_7_code 130 = .ok (.iconst 1, 1) := by decide +kernel
theorem dm7_131 : decode method_7_code 131 = .ok (.if_icmp .ne 28, 3) := by decide +kernel
theorem dm7_134 : decode method_7_code 134 = .ok (.new 35, 3) := by decide +kernel
theorem dm7_137 : decode method_7_code 137 = .ok (.dup, 1) := by decide +kernel
theorem dm7_138 : decode method_7_code 138 = .ok (.iconst 3, 1) := by decide +kernel
theorem dm7_139 : decode method_7_code 139 = .ok (.newarray .char, 2) := by decide +kernel
theorem dm7_141 : decode method_7_code 141 = .ok (.dup, 1) := by decide +kernel
theorem dm7_142 : decode method_7_code 142 = .ok (.iconst 0, 1) := by decide +kernel
theorem dm7_143 : decode method_7_code 143 = .ok (.iload_n 3, 1) := by decide +kernel
theorem dm7_144 : decode method_7_code 144 = .ok (.castore, 1) := by decide +kernel
theorem dm7_145 : decode method_7_code 145 = .ok (.dup, 1) := by decide +kernel
theorem dm7_146 : decode method_7_code 146 = .ok (.iconst 1, 1) := by decide +kernel
theorem dm7_147 : decode method_7_code 147 = .ok (.iload 6, 2) := by decide +kernel
theorem dm7_149 : decode method_7_code 149 = .ok (.castore, 1) := by decide +kernel
theorem dm7_150 : decode method_7_code 150 = .ok (.dup, 1) := by decide +kernel
theorem dm7_151 : decode method_7_code 151 = .ok (.iconst 2, 1) := by decide +kernel
theorem dm7_152 : decode method_7_code 152 = .ok (.iload 7, 2) := by decide +kernel
theorem dm7_154 : decode method_7_code 154 = .ok (.castore, 1) := by decide +kernel
theorem dm7_155 : decode method_7_code 155 = .ok (.invokespecial 37, 3) := by decide +kernel
theorem dm7_158 : decode method_7_code 158 = .ok (.areturn, 1) := by decide +kernel
theorem dm7_159 : decode method_7_code 159 = .ok (.iload 8, 2) := by decide +kernel
theorem dm7_161 : decode method_7_code 161 = .ok (.iconst 1, 1) := by decide +kernel
theorem dm7_162 : decode method_7_code 162 = .ok (.if_icmp .ne 28, 3) := by decide +kernel
theorem dm7_165 : decode method_7_code 165 = .ok (.new 35, 3) := by decide +kernel
theorem dm7_168 : decode method_7_code 168 = .ok (.dup, 1) := by decide +kernel
theorem dm7_169 : decode method_7_code 169 = .ok (.iconst 3, 1) := by decide +kernel
theorem dm7_170 : decode method_7_code 170 = .ok (.newarray .char, 2) := by decide +kernel
theorem dm7_172 : decode method_7_code 172 = .ok (.dup, 1) := by decide +kernel
theorem dm7_173 : decode method_7_code 173 = .ok (.iconst 0, 1) := by decide +kernel
theorem dm7_174 : decode method_7_code 174 = .ok (.iload_n 3, 1) := by decide +kernel
theorem dm7_175 : decode method_7_code 175 = .ok (.castore, 1) := by decide +kernel
theorem dm7_176 : decode method_7_code 176 = .ok (.dup, 1) := by decide +kernel
theorem dm7_177 : decode method_7_code 177 = .ok (.iconst 1, 1) := by decide +kernel
theorem dm7_178 : decode method_7_code 178 = .ok (.iload 4, 2) := by decide +kernel
theorem dm7_180 : decode method_7_code 180 = .ok (.castore, 1) := by decide +kernel
theorem dm7_181 : decode method_7_code 181 = .ok (.dup, 1) := by decide +kernel
theorem dm7_182 : decode method_7_code 182 = .ok (.iconst 2, 1) := by decide +kernel
theorem dm7_183 : decode method_7_code 183 = .ok (.iload 6, 2) := by decide +kernel
theorem dm7_185 : decode method_7_code 185 = .ok (.castore, 1) := by decide +kernel
theorem dm7_186 : decode method_7_code 186 = .ok (.invokespecial 37, 3) := by decide +kernel
theorem dm7_189 : decode method_7_code 189 = .ok (.areturn, 1) := by decide +kernel
theorem dm7_190 : decode method_7_code 190 = .ok (.new 35, 3) := by decide +kernel
theorem dm7_193 : decode method_7_code 193 = .ok (.dup, 1) := by decide +kernel
theorem dm7_194 : decode method_7_code 194 = .ok (.iconst 4, 1) := by decide +kernel
theorem dm7_195 : decode method_7_code 195 = .ok (.newarray .char, 2) := by decide +kernel
theorem dm7_197 : decode method_7_code 197 = .ok (.dup, 1) := by decide +kernel
theorem dm7_198 : decode method_7_code 198 = .ok (.iconst 0, 1) := by decide +kernel
theorem dm7_199 : decode method_7_code 199 = .ok (.iload_n 3, 1) := by decide +kernel
theorem dm7_200 : decode method_7_code 200 = .ok (.castore, 1) := by decide +kernel
theorem dm7_201 : decode method_7_code 201 = .ok (.dup, 1) := by decide +kernel
theorem dm7_202 : decode method_7_code 202 = .ok (.iconst 1, 1) := by decide +kernel
theorem dm7_203 : decode method_7_code 203 = .ok (.iload 4, 2) := by decide +kernel
theorem dm7_205 : decode method_7_code 205 = .ok (.castore, 1) := by decide +kernel
theorem dm7_206 : decode method_7_code 206 = .ok (.dup, 1) := by decide +kernel
theorem dm7_207 : decode method_7_code 207 = .ok (.iconst 2, 1) := by decide +kernel
theorem dm7_208 : decode method_7_code 208 = .ok (.iload 6, 2) := by decide +kernel
theorem dm7_210 : decode method_7_code 210 = .ok (.castore, 1) := by decide +kernel
theorem dm7_211 : decode method_7_code 211 = .ok (.dup, 1) := by decide +kernel
theorem dm7_212 : decode method_7_code 212 = .ok (.iconst 3, 1) := by decide +kernel
theorem dm7_213 : decode method_7_code 213 = .ok (.iload 7, 2) := by decide +kernel
theorem dm7_215 : decode method_7_code 215 = .ok (.castore, 1) := by decide +kernel
theorem dm7_216 : decode method_7_code 216 = .ok (.invokespecial 37, 3) := by decide +kernel
theorem dm7_219 : decode method_7_code 219 = .ok (.areturn, 1) := by decide +kernel
theorem efst2 (m : MethodId) (x0 x1 x2 : Int32) : entryFrame m #[(.int x0), (.int x1), (.int x2)] 9 = mkF m 0 #[.val (.int x0), .val (.int x1), .val (.int x2), .unset, .unset, .unset, .unset, .unset, .unset] [] := by first | (simp [entryFrame, mkF, argsToLocals, Value.category]; done) | rfl
theorem cst2 (l : Launch) (Z : State) (a0 : Array Value) (hw : ∀ d ∈ tables_1, d.before a0 Z = true) (c0 c1 cz : Int32) (vf : Value) (h0 : Heap) (n0 : Nat) (Z0 : n0 ≤ h0.size) (O0 : Old Z n0 h0) (SS : SSt Z cz vf) :
    Con l Z (⟨"com/example/stamp2/stamp2/version/RowFormatCompareStringsPinLaw", "str", "(III)Ljava/lang/String;"⟩ : MethodName) method_7_code 9 (some (.object "java/lang/String")) ({ frames := 6, cells := 4, slots := 20, locals := 88 } : Room) [] #[(.int c0), (.int c1), (.int (2 : Int32))] h0 (fun v h L => ∃ b : Addr, v = some (.ref b) ∧ Fr n0 L ∧ Keep h0 h [] ∧ h0.size ≤ b ∧ Exa Z h b "java/lang/String" ∧ Str Z h b (US2 c0 c1)) := by
  refine Con.of (plainFor_of_name pn_com_example_stamp2_stamp2_version_RowFormatCompareStringsPinLaw) #[.val (.int c0), .val (.int c1), .val (.int (2 : Int32)), .unset, .unset, .unset, .unset, .unset, .unset] (fun m => efst2 m c0 c1 (2 : Int32)) ?_
  intro p e s m below meth c s₁ K hx hby hml hown hnm hret hlk hZ X0 e0
  have N0 := Fr.nil n0
  refine mIN K X0.here hx hby dm7_0 rfl rfl ?_
  refine m_ifY K X0.here hx hby (q := 15) dm7_1 ((if0 _ _).trans (feq (by decide : ¬ ((2 : Int32) = (0 : Int32)))).2) (by decide) rfl ?_
  refine mIN K X0.here hx hby dm7_15 rfl rfl ?_
  refine k_callS K X0 hx hby hZ [(.int c0)] [] hown (W hw 61 rfl) (W hw 62 rfl) (W hw 2 rfl) (W hw 63 rfl) (c_fu l Z a0 hw c0 h0 n0 Z0) e0 rfl rfl pd_16 rfl dm7_16 (by rw [hml]; rfl) rfl (by decide) (by decide) (LB rfl) (by decide) (by decide) fun v1 T1 L1 X1 q1 => ?_
  obtain ⟨rfl, e1, rfl⟩ := q1
  replace X1 := own_px X1
  refine k_some K (w := (.int (FUN c0))) ?_
  refine m_istoreN K X1.here hx hby #[.val (.int c0), .val (.int c1), .val (.int (2 : Int32)), .val (.int (FUN c0)), .unset, .unset, .unset, .unset, .unset] dm7_19 rfl rfl ?_
  refine mIN K X1.here hx hby dm7_20 rfl rfl ?_
  refine k_callS K X1 hx hby hZ [(.int c0)] [] hown (W hw 65 rfl) (W hw 66 rfl) (W hw 2 rfl) (W hw 67 rfl) (c_su l Z a0 hw c0 h0 n0 Z0) e1 rfl rfl pd_16 rfl dm7_21 (by rw [hml]; rfl) rfl (by decide) (by decide) (LB rfl) (by decide) (by decide) fun v2 T2 L2 X2 q2 => ?_
  obtain ⟨rfl, e2, rfl⟩ := q2
  replace X2 := own_px X2
  refine k_some K (w := (.int (SUN c0))) ?_
  refine mS K X2.here hx hby #[.val (.int c0), .val (.int c1), .val (.int (2 : Int32)), .val (.int (FUN c0)), .val (.int (SUN c0)), .unset, .unset, .unset, .unset] dm7_24 rfl rfl ?_
  refine mIN K X2.here hx hby dm7_26 rfl rfl ?_
  refine k_callS K X2 hx hby hZ [(.int c0)] [] hown (W hw 69 rfl) (W hw 70 rfl) (W hw 2 rfl) (W hw 71 rfl) (c_wi l Z a0 hw c0 h0 n0 Z0) e2 rfl rfl pd_1 rfl dm7_27 (by rw [hml]; rfl) rfl (by decide) (by decide) (LB rfl) (by decide) (by decide) fun v3 T3 L3 X3 q3 => ?_
  obtain ⟨rfl, e3, rfl⟩ := q3
  replace X3 := own_px X3
  refine k_some K (w := (.int (WID c0))) ?_
  refine mS K X3.here hx hby #[.val (.int c0), .val (.int c1), .val (.int (2 : Int32)), .val (.int (FUN c0)), .val (.int (SUN c0)), .val (.int (WID c0)), .unset, .unset, .unset] dm7_30 rfl rfl ?_
  refine mIN K X3.here hx hby dm7_32 rfl rfl ?_
  refine mC K X3.here hx hby (1 : Int32) dm7_33 rfl rfl ?_
  refine m_icmpY K X3.here hx hby (q := 78) dm7_34 (feq (by decide : ¬ ((2 : Int32) = (1 : Int32)))).2 (by decide) rfl ?_
  refine mIN K X3.here hx hby dm7_78 rfl rfl ?_
  refine k_callS K X3 hx hby hZ [(.int c1)] [] hown (W hw 61 rfl) (W hw 62 rfl) (W hw 2 rfl) (W hw 63 rfl) (c_fu l Z a0 hw c1 h0 n0 Z0) e3 rfl rfl pd_16 rfl dm7_79 (by rw [hml]; rfl) rfl (by decide) (by decide) (LB rfl) (by decide) (by decide) fun v4 T4 L4 X4 q4 => ?_
  obtain ⟨rfl, e4, rfl⟩ := q4
  replace X4 := own_px X4
  refine k_some K (w := (.int (FUN c1))) ?_
  refine mS K X4.here hx hby #[.val (.int c0), .val (.int c1), .val (.int (2 : Int32)), .val (.int (FUN c0)), .val (.int (SUN c0)), .val (.int (WID c0)), .val (.int (FUN c1)), .unset, .unset] dm7_82 rfl rfl ?_
  refine mIN K X4.here hx hby dm7_84 rfl rfl ?_
  refine k_callS K X4 hx hby hZ [(.int c1)] [] hown (W hw 65 rfl) (W hw 66 rfl) (W hw 2 rfl) (W hw 67 rfl) (c_su l Z a0 hw c1 h0 n0 Z0) e4 rfl rfl pd_16 rfl dm7_85 (by rw [hml]; rfl) rfl (by decide) (by decide) (LB rfl) (by decide) (by decide) fun v5 T5 L5 X5 q5 => ?_
  obtain ⟨rfl, e5, rfl⟩ := q5
  replace X5 := own_px X5
  refine k_some K (w := (.int (SUN c1))) ?_
  refine mS K X5.here hx hby #[.val (.int c0), .val (.int c1), .val (.int (2 : Int32)), .val (.int (FUN c0)), .val (.int (SUN c0)), .val (.int (WID c0)), .val (.int (FUN c1)), .val (.int (SUN c1)), .unset] dm7_88 rfl rfl ?_
  refine mIN K X5.here hx hby dm7_90 rfl rfl ?_
  refine k_callS K X5 hx hby hZ [(.int c1)] [] hown (W hw 69 rfl) (W hw 70 rfl) (W hw 2 rfl) (W hw 71 rfl) (c_wi l Z a0 hw c1 h0 n0 Z0) e5 rfl rfl pd_1 rfl dm7_91 (by rw [hml]; rfl) rfl (by decide) (by decide) (LB rfl) (by decide) (by decide) fun v6 T6 L6 X6 q6 => ?_
  obtain ⟨rfl, e6, rfl⟩ := q6
  replace X6 := own_px X6
  refine k_some K (w := (.int (WID c1))) ?_
  refine mS K X6.here hx hby #[.val (.int c0), .val (.int c1), .val (.int (2 : Int32)), .val (.int (FUN c0)), .val (.int (SUN c0)), .val (.int (WID c0)), .val (.int (FUN c1)), .val (.int (SUN c1)), .val (.int (WID c1))] dm7_94 rfl rfl ?_
  refine mI K X6.here hx hby dm7_96 rfl rfl ?_
  refine mC K X6.here hx hby (1 : Int32) dm7_98 rfl rfl ?_
  by_cases hc99_7 : (WID c0) = (1 : Int32)
  · refine m_icmpN K X6.here hx hby (q := 102) dm7_99 (teq hc99_7).2 rfl ?_
    refine mI K X6.here hx hby dm7_102 rfl rfl ?_
    refine mC K X6.here hx hby (1 : Int32) dm7_104 rfl rfl ?_
    by_cases hc105_8 : (WID c1) = (1 : Int32)
    · refine m_icmpN K X6.here hx hby (q := 108) dm7_105 (teq hc105_8).2 rfl ?_
      refine k_newO K X6 hx hby hZ hown (W hw 10 rfl) (W hw 11 rfl) (W hw 12 rfl) e6 dm7_108 rfl (by decide) (by decide) fun T9 h9 b9 X9 e9 E9 g9 A9 D9 => ?_
      have sz_b9 : h0.size ≤ b9 := Nat.le_trans (Nat.le_refl _) (Nat.le_of_eq g9.symm)
      have g_b9 : n0 ≤ b9 := Nat.le_trans Z0 sz_b9
      have F_value_b9 : Fld Z h9 b9 "java/lang/String" "value" "[B" .null := D9 (Or.inr (W hw 26 rfl)) (ty := (.array .byte)) (by decide)
      have F_coder_b9 : Fld Z h9 b9 "java/lang/String" "coder" "B" (.int (0 : Int32)) := D9 (Or.inr (W hw 27 rfl)) (ty := .byte) (by decide)
      refine m_dup K X9.here hx hby dm7_111 rfl rfl ?_
      refine mC K X9.here hx hby (2 : Int32) dm7_112 rfl rfl ?_
      refine k_newP K X9 hx hby hZ 2 2 (W hw 13 rfl) e9 dm7_113 rfl (by decide) rfl (by decide) (by decide) (by decide) (by decide) fun T10 h10 b10 X10 e10 E10 g10 V_b10 => ?_
      have sz_b10 : h0.size ≤ b10 := Nat.le_trans (Nat.le_trans (Nat.le_refl _) E9.1) (Nat.le_of_eq g10.symm)
      have g_b10 : n0 ≤ b10 := Nat.le_trans Z0 sz_b10
      replace V_b10 : Av Z h10 b10 .char [(.int (0 : Int32)), (.int (0 : Int32))] := V_b10
      refine m_dup K X10.here hx hby dm7_115 rfl rfl ?_
      refine mC K X10.here hx hby (0 : Int32) dm7_116 rfl rfl ?_
      refine mIN K X10.here hx hby dm7_117 rfl rfl ?_
      refine k_stC K X10 hx hby hZ e10 V_b10 (by decide) (LB rfl) dm7_118 rfl fun T11 h11 X11 e11 W11 V11 => ?_
      replace V11 : Av Z h11 b10 .char [(.int (FUN c0)), (.int (0 : Int32))] := by have q := V11; rw [show nar .char (FUN c0) = (FUN c0) from own_fu c0] at q; exact q
      have N11 := Fr.snoc X11 N0 g_b10
      refine m_dup K X11.here hx hby dm7_119 rfl rfl ?_
      refine mC K X11.here hx hby (1 : Int32) dm7_120 rfl rfl ?_
      refine mI K X11.here hx hby dm7_121 rfl rfl ?_
      refine k_stC K X11 hx hby hZ e11 V11 (by decide) (LB rfl) dm7_123 rfl fun T12 h12 X12 e12 W12 V12 => ?_
      replace V12 : Av Z h12 b10 .char [(.int (FUN c0)), (.int (FUN c1))] := by have q := V12; rw [show nar .char (FUN c1) = (FUN c1) from own_fu c1] at q; exact q
      have N12 := Fr.snoc X12 N11 g_b10
      refine k_callP K X12 hx hby hZ b9 [(.ref b10)] [(.ref b9)] hown (W hw 14 rfl) (W hw 15 rfl) (W hw 12 rfl) (W hw 16 rfl) rfl (kmk2 l Z a0 hw b9 b10 cz vf (FUN c0) (FUN c1) h12 n0 (Nat.le_trans Z0 (Nat.le_trans (Nat.le_trans (Nat.le_trans (Nat.le_trans (Nat.le_refl _) E9.1) E10.1) (Keep.of_wr W11).1) (Keep.of_wr W12).1)) (((A9.ext E10).wr W11).wr W12) (((F_value_b9.ext E10).other W11 (Or.inl (Nat.ne_of_lt (Nat.lt_of_lt_of_le (Nat.lt_of_lt_of_le A9.lt (Nat.le_refl _)) (Nat.le_of_eq g10.symm))))).other W12 (Or.inl (Nat.ne_of_lt (Nat.lt_of_lt_of_le (Nat.lt_of_lt_of_le A9.lt (Nat.le_refl _)) (Nat.le_of_eq g10.symm))))) (((F_coder_b9.ext E10).other W11 (Or.inl (Nat.ne_of_lt (Nat.lt_of_lt_of_le (Nat.lt_of_lt_of_le A9.lt (Nat.le_refl _)) (Nat.le_of_eq g10.symm))))).other W12 (Or.inl (Nat.ne_of_lt (Nat.lt_of_lt_of_le (Nat.lt_of_lt_of_le A9.lt (Nat.le_refl _)) (Nat.le_of_eq g10.symm))))) V12 ((((O0.ext E9).ext E10).wr W11 g_b10).wr W12 g_b10) g_b9 SS (own_fu c0) (own_fu c1)) e12 rfl rfl pd_18 rfl dm7_124 (by rw [hml]; rfl) rfl (by decide) (by decide) (LB rfl) (by decide) (by decide) fun v13 T13 L13 X13 q13 => ?_
      obtain ⟨rfl, Nq13, K13, Y13⟩ := q13
      have N13 := Fr.app N12 Nq13
      refine k_none K ?_
      exact Go.retO X13 hx hby hlk hret rfl (Or.inr (Or.inr (Or.inr (Or.inr ⟨rfl, rfl, rfl⟩)))) dm7_127 (by decide) (by decide) (⟨b9, rfl, N13, ((((((Keep.refl h0 []).ext E9).ext E10).wr W11 (Or.inr sz_b10)).wr W12 (Or.inr sz_b10)).trans K13 (allS (Or.inr sz_b9) all0)), sz_b9, ((((A9.ext E10).wr W11).wr W12).keep K13), (by rw [US2, US1, US1, if_pos hc99_7, if_pos hc105_8]; exact Y13)⟩)
    · refine m_icmpY K X6.here hx hby (q := 128) dm7_105 (feq hc105_8).2 (by decide) rfl ?_
      refine mI K X6.here hx hby dm7_128 rfl rfl ?_
      refine mC K X6.here hx hby (1 : Int32) dm7_130 rfl rfl ?_
      refine m_icmpN K X6.here hx hby (q := 134) dm7_131 (teq hc99_7).2 rfl ?_
      refine k_newO K X6 hx hby hZ hown (W hw 10 rfl) (W hw 11 rfl) (W hw 12 rfl) e6 dm7_134 rfl (by decide) (by decide) fun T14 h14 b14 X14 e14 E14 g14 A14 D14 => ?_
      have sz_b14 : h0.size ≤ b14 := Nat.le_trans (Nat.le_refl _) (Nat.le_of_eq g14.symm)
      have g_b14 : n0 ≤ b14 := Nat.le_trans Z0 sz_b14
      have F_value_b14 : Fld Z h14 b14 "java/lang/String" "value" "[B" .null := D14 (Or.inr (W hw 26 rfl)) (ty := (.array .byte)) (by decide)
      have F_coder_b14 : Fld Z h14 b14 "java/lang/String" "coder" "B" (.int (0 : Int32)) := D14 (Or.inr (W hw 27 rfl)) (ty := .byte) (by decide)
      refine m_dup K X14.here hx hby dm7_137 rfl rfl ?_
      refine mC K X14.here hx hby (3 : Int32) dm7_138 rfl rfl ?_
      refine k_newP K X14 hx hby hZ 3 3 (W hw 13 rfl) e14 dm7_139 rfl (by decide) rfl (by decide) (by decide) (by decide) (by decide) fun T15 h15 b15 X15 e15 E15 g15 V_b15 => ?_
      have sz_b15 : h0.size ≤ b15 := Nat.le_trans (Nat.le_trans (Nat.le_refl _) E14.1) (Nat.le_of_eq g15.symm)
      have g_b15 : n0 ≤ b15 := Nat.le_trans Z0 sz_b15
      replace V_b15 : Av Z h15 b15 .char [(.int (0 : Int32)), (.int (0 : Int32)), (.int (0 : Int32))] := V_b15
      refine m_dup K X15.here hx hby dm7_141 rfl rfl ?_
      refine mC K X15.here hx hby (0 : Int32) dm7_142 rfl rfl ?_
      refine mIN K X15.here hx hby dm7_143 rfl rfl ?_
      refine k_stC K X15 hx hby hZ e15 V_b15 (by decide) (LB rfl) dm7_144 rfl fun T16 h16 X16 e16 W16 V16 => ?_
      replace V16 : Av Z h16 b15 .char [(.int (FUN c0)), (.int (0 : Int32)), (.int (0 : Int32))] := by have q := V16; rw [show nar .char (FUN c0) = (FUN c0) from own_fu c0] at q; exact q
      have N16 := Fr.snoc X16 N0 g_b15
      refine m_dup K X16.here hx hby dm7_145 rfl rfl ?_
      refine mC K X16.here hx hby (1 : Int32) dm7_146 rfl rfl ?_
      refine mI K X16.here hx hby dm7_147 rfl rfl ?_
      refine k_stC K X16 hx hby hZ e16 V16 (by decide) (LB rfl) dm7_149 rfl fun T17 h17 X17 e17 W17 V17 => ?_
      replace V17 : Av Z h17 b15 .char [(.int (FUN c0)), (.int (FUN c1)), (.int (0 : Int32))] := by have q := V17; rw [show nar .char (FUN c1) = (FUN c1) from own_fu c1] at q; exact q
      have N17 := Fr.snoc X17 N16 g_b15
      refine m_dup K X17.here hx hby dm7_150 rfl rfl ?_
      refine mC K X17.here hx hby (2 : Int32) dm7_151 rfl rfl ?_
      refine mI K X17.here hx hby dm7_152 rfl rfl ?_
      refine k_stC K X17 hx hby hZ e17 V17 (by decide) (LB rfl) dm7_154 rfl fun T18 h18 X18 e18 W18 V18 => ?_
      replace V18 : Av Z h18 b15 .char [(.int (FUN c0)), (.int (FUN c1)), (.int (SUN c1))] := by have q := V18; rw [show nar .char (SUN c1) = (SUN c1) from own_su c1] at q; exact q
      have N18 := Fr.snoc X18 N17 g_b15
      refine k_callP K X18 hx hby hZ b14 [(.ref b15)] [(.ref b14)] hown (W hw 14 rfl) (W hw 15 rfl) (W hw 12 rfl) (W hw 16 rfl) rfl (kmk3 l Z a0 hw b14 b15 cz vf (FUN c0) (FUN c1) (SUN c1) h18 n0 (Nat.le_trans Z0 (Nat.le_trans (Nat.le_trans (Nat.le_trans (Nat.le_trans (Nat.le_trans (Nat.le_refl _) E14.1) E15.1) (Keep.of_wr W16).1) (Keep.of_wr W17).1) (Keep.of_wr W18).1)) ((((A14.ext E15).wr W16).wr W17).wr W18) ((((F_value_b14.ext E15).other W16 (Or.inl (Nat.ne_of_lt (Nat.lt_of_lt_of_le (Nat.lt_of_lt_of_le A14.lt (Nat.le_refl _)) (Nat.le_of_eq g15.symm))))).other W17 (Or.inl (Nat.ne_of_lt (Nat.lt_of_lt_of_le (Nat.lt_of_lt_of_le A14.lt (Nat.le_refl _)) (Nat.le_of_eq g15.symm))))).other W18 (Or.inl (Nat.ne_of_lt (Nat.lt_of_lt_of_le (Nat.lt_of_lt_of_le A14.lt (Nat.le_refl _)) (Nat.le_of_eq g15.symm))))) ((((F_coder_b14.ext E15).other W16 (Or.inl (Nat.ne_of_lt (Nat.lt_of_lt_of_le (Nat.lt_of_lt_of_le A14.lt (Nat.le_refl _)) (Nat.le_of_eq g15.symm))))).other W17 (Or.inl (Nat.ne_of_lt (Nat.lt_of_lt_of_le (Nat.lt_of_lt_of_le A14.lt (Nat.le_refl _)) (Nat.le_of_eq g15.symm))))).other W18 (Or.inl (Nat.ne_of_lt (Nat.lt_of_lt_of_le (Nat.lt_of_lt_of_le A14.lt (Nat.le_refl _)) (Nat.le_of_eq g15.symm))))) V18 (((((O0.ext E14).ext E15).wr W16 g_b15).wr W17 g_b15).wr W18 g_b15) g_b14 SS (own_fu c0) (own_fu c1) (own_su c1)) e18 rfl rfl pd_18 rfl dm7_155 (by rw [hml]; rfl) rfl (by decide) (by decide) (LB rfl) (by decide) (by decide) fun v19 T19 L19 X19 q19 => ?_
      obtain ⟨rfl, Nq19, K19, Y19⟩ := q19
      have N19 := Fr.app N18 Nq19
      refine k_none K ?_
      exact Go.retO X19 hx hby hlk hret rfl (Or.inr (Or.inr (Or.inr (Or.inr ⟨rfl, rfl, rfl⟩)))) dm7_158 (by decide) (by decide) (⟨b14, rfl, N19, (((((((Keep.refl h0 []).ext E14).ext E15).wr W16 (Or.inr sz_b15)).wr W17 (Or.inr sz_b15)).wr W18 (Or.inr sz_b15)).trans K19 (allS (Or.inr sz_b14) all0)), sz_b14, (((((A14.ext E15).wr W16).wr W17).wr W18).keep K19), (by rw [US2, US1, US1, if_pos hc99_7, if_neg hc105_8]; exact Y19)⟩)
  · refine m_icmpY K X6.here hx hby (q := 128) dm7_99 (feq hc99_7).2 (by decide) rfl ?_
    refine mI K X6.here hx hby dm7_128 rfl rfl ?_
    refine mC K X6.here hx hby (1 : Int32) dm7_130 rfl rfl ?_
    refine m_icmpY K X6.here hx hby (q := 159) dm7_131 (feq hc99_7).2 (by decide) rfl ?_
    refine mI K X6.here hx hby dm7_159 rfl rfl ?_
    refine mC K X6.here hx hby (1 : Int32) dm7_161 rfl rfl ?_
    by_cases hc162_20 : (WID c1) = (1 : Int32)
    · refine m_icmpN K X6.here hx hby (q := 165) dm7_162 (teq hc162_20).2 rfl ?_
      refine k_newO K X6 hx hby hZ hown (W hw 10 rfl) (W hw 11 rfl) (W hw 12 rfl) e6 dm7_165 rfl (by decide) (by decide) fun T21 h21 b21 X21 e21 E21 g21 A21 D21 => ?_
      have sz_b21 : h0.size ≤ b21 := Nat.le_trans (Nat.le_refl _) (Nat.le_of_eq g21.symm)
      have g_b21 : n0 ≤ b21 := Nat.le_trans Z0 sz_b21
      have F_value_b21 : Fld Z h21 b21 "java/lang/String" "value" "[B" .null := D21 (Or.inr (W hw 26 rfl)) (ty := (.array .byte)) (by decide)
      have F_coder_b21 : Fld Z h21 b21 "java/lang/String" "coder" "B" (.int (0 : Int32)) := D21 (Or.inr (W hw 27 rfl)) (ty := .byte) (by decide)
      refine m_dup K X21.here hx hby dm7_168 rfl rfl ?_
      refine mC K X21.here hx hby (3 : Int32) dm7_169 rfl rfl ?_
      refine k_newP K X21 hx hby hZ 3 3 (W hw 13 rfl) e21 dm7_170 rfl (by decide) rfl (by decide) (by decide) (by decide) (by decide) fun T22 h22 b22 X22 e22 E22 g22 V_b22 => ?_
      have sz_b22 : h0.size ≤ b22 := Nat.le_trans (Nat.le_trans (Nat.le_refl _) E21.1) (Nat.le_of_eq g22.symm)
      have g_b22 : n0 ≤ b22 := Nat.le_trans Z0 sz_b22
      replace V_b22 : Av Z h22 b22 .char [(.int (0 : Int32)), (.int (0 : Int32)), (.int (0 : Int32))] := V_b22
      refine m_dup K X22.here hx hby dm7_172 rfl rfl ?_
      refine mC K X22.here hx hby (0 : Int32) dm7_173 rfl rfl ?_
      refine mIN K X22.here hx hby dm7_174 rfl rfl ?_
      refine k_stC K X22 hx hby hZ e22 V_b22 (by decide) (LB rfl) dm7_175 rfl fun T23 h23 X23 e23 W23 V23 => ?_
      replace V23 : Av Z h23 b22 .char [(.int (FUN c0)), (.int (0 : Int32)), (.int (0 : Int32))] := by have q := V23; rw [show nar .char (FUN c0) = (FUN c0) from own_fu c0] at q; exact q
      have N23 := Fr.snoc X23 N0 g_b22
      refine m_dup K X23.here hx hby dm7_176 rfl rfl ?_
      refine mC K X23.here hx hby (1 : Int32) dm7_177 rfl rfl ?_
      refine mI K X23.here hx hby dm7_178 rfl rfl ?_
      refine k_stC K X23 hx hby hZ e23 V23 (by decide) (LB rfl) dm7_180 rfl fun T24 h24 X24 e24 W24 V24 => ?_
      replace V24 : Av Z h24 b22 .char [(.int (FUN c0)), (.int (SUN c0)), (.int (0 : Int32))] := by have q := V24; rw [show nar .char (SUN c0) = (SUN c0) from own_su c0] at q; exact q
      have N24 := Fr.snoc X24 N23 g_b22
      refine m_dup K X24.here hx hby dm7_181 rfl rfl ?_
      refine mC K X24.here hx hby (2 : Int32) dm7_182 rfl rfl ?_
      refine mI K X24.here hx hby dm7_183 rfl rfl ?_
      refine k_stC K X24 hx hby hZ e24 V24 (by decide) (LB rfl) dm7_185 rfl fun T25 h25 X25 e25 W25 V25 => ?_
      replace V25 : Av Z h25 b22 .char [(.int (FUN c0)), (.int (SUN c0)), (.int (FUN c1))] := by have q := V25; rw [show nar .char (FUN c1) = (FUN c1) from own_fu c1] at q; exact q
      have N25 := Fr.snoc X25 N24 g_b22
      refine k_callP K X25 hx hby hZ b21 [(.ref b22)] [(.ref b21)] hown (W hw 14 rfl) (W hw 15 rfl) (W hw 12 rfl) (W hw 16 rfl) rfl (kmk3 l Z a0 hw b21 b22 cz vf (FUN c0) (SUN c0) (FUN c1) h25 n0 (Nat.le_trans Z0 (Nat.le_trans (Nat.le_trans (Nat.le_trans (Nat.le_trans (Nat.le_trans (Nat.le_refl _) E21.1) E22.1) (Keep.of_wr W23).1) (Keep.of_wr W24).1) (Keep.of_wr W25).1)) ((((A21.ext E22).wr W23).wr W24).wr W25) ((((F_value_b21.ext E22).other W23 (Or.inl (Nat.ne_of_lt (Nat.lt_of_lt_of_le (Nat.lt_of_lt_of_le A21.lt (Nat.le_refl _)) (Nat.le_of_eq g22.symm))))).other W24 (Or.inl (Nat.ne_of_lt (Nat.lt_of_lt_of_le (Nat.lt_of_lt_of_le A21.lt (Nat.le_refl _)) (Nat.le_of_eq g22.symm))))).other W25 (Or.inl (Nat.ne_of_lt (Nat.lt_of_lt_of_le (Nat.lt_of_lt_of_le A21.lt (Nat.le_refl _)) (Nat.le_of_eq g22.symm))))) ((((F_coder_b21.ext E22).other W23 (Or.inl (Nat.ne_of_lt (Nat.lt_of_lt_of_le (Nat.lt_of_lt_of_le A21.lt (Nat.le_refl _)) (Nat.le_of_eq g22.symm))))).other W24 (Or.inl (Nat.ne_of_lt (Nat.lt_of_lt_of_le (Nat.lt_of_lt_of_le A21.lt (Nat.le_refl _)) (Nat.le_of_eq g22.symm))))).other W25 (Or.inl (Nat.ne_of_lt (Nat.lt_of_lt_of_le (Nat.lt_of_lt_of_le A21.lt (Nat.le_refl _)) (Nat.le_of_eq g22.symm))))) V25 (((((O0.ext E21).ext E22).wr W23 g_b22).wr W24 g_b22).wr W25 g_b22) g_b21 SS (own_fu c0) (own_su c0) (own_fu c1)) e25 rfl rfl pd_18 rfl dm7_186 (by rw [hml]; rfl) rfl (by decide) (by decide) (LB rfl) (by decide) (by decide) fun v26 T26 L26 X26 q26 => ?_
      obtain ⟨rfl, Nq26, K26, Y26⟩ := q26
      have N26 := Fr.app N25 Nq26
      refine k_none K ?_
      exact Go.retO X26 hx hby hlk hret rfl (Or.inr (Or.inr (Or.inr (Or.inr ⟨rfl, rfl, rfl⟩)))) dm7_189 (by decide) (by decide) (⟨b21, rfl, N26, (((((((Keep.refl h0 []).ext E21).ext E22).wr W23 (Or.inr sz_b22)).wr W24 (Or.inr sz_b22)).wr W25 (Or.inr sz_b22)).trans K26 (allS (Or.inr sz_b21) all0)), sz_b21, (((((A21.ext E22).wr W23).wr W24).wr W25).keep K26), (by rw [US2, US1, US1, if_neg hc99_7, if_pos hc162_20]; exact Y26)⟩)
    · refine m_icmpY K X6.here hx hby (q := 190) dm7_162 (feq hc162_20).2 (by decide) rfl ?_
      refine k_newO K X6 hx hby hZ hown (W hw 10 rfl) (W hw 11 rfl) (W hw 12 rfl) e6 dm7_190 rfl (by decide) (by decide) fun T27 h27 b27 X27 e27 E27 g27 A27 D27 => ?_
      have sz_b27 : h0.size ≤ b27 := Nat.le_trans (Nat.le_refl _) (Nat.le_of_eq g27.symm)
      have g_b27 : n0 ≤ b27 := Nat.le_trans Z0 sz_b27
      have F_value_b27 : Fld Z h27 b27 "java/lang/String" "value" "[B" .null := D27 (Or.inr (W hw 26 rfl)) (ty := (.array .byte)) (by decide)
      have F_coder_b27 : Fld Z h27 b27 "java/lang/String" "coder" "B" (.int (0 : Int32)) := D27 (Or.inr (W hw 27 rfl)) (ty := .byte) (by decide)
      refine m_dup K X27.here hx hby dm7_193 rfl rfl ?_
      refine mC K X27.here hx hby (4 : Int32) dm7_194 rfl rfl ?_
      refine k_newP K X27 hx hby hZ 4 4 (W hw 13 rfl) e27 dm7_195 rfl (by decide) rfl (by decide) (by decide) (by decide) (by decide) fun T28 h28 b28 X28 e28 E28 g28 V_b28 => ?_
      have sz_b28 : h0.size ≤ b28 := Nat.le_trans (Nat.le_trans (Nat.le_refl _) E27.1) (Nat.le_of_eq g28.symm)
      have g_b28 : n0 ≤ b28 := Nat.le_trans Z0 sz_b28
      replace V_b28 : Av Z h28 b28 .char [(.int (0 : Int32)), (.int (0 : Int32)), (.int (0 : Int32)), (.int (0 : Int32))] := V_b28
      refine m_dup K X28.here hx hby dm7_197 rfl rfl ?_
      refine mC K X28.here hx hby (0 : Int32) dm7_198 rfl rfl ?_
      refine mIN K X28.here hx hby dm7_199 rfl rfl ?_
      refine k_stC K X28 hx hby hZ e28 V_b28 (by decide) (LB rfl) dm7_200 rfl fun T29 h29 X29 e29 W29 V29 => ?_
      replace V29 : Av Z h29 b28 .char [(.int (FUN c0)), (.int (0 : Int32)), (.int (0 : Int32)), (.int (0 : Int32))] := by have q := V29; rw [show nar .char (FUN c0) = (FUN c0) from own_fu c0] at q; exact q
      have N29 := Fr.snoc X29 N0 g_b28
      refine m_dup K X29.here hx hby dm7_201 rfl rfl ?_
      refine mC K X29.here hx hby (1 : Int32) dm7_202 rfl rfl ?_
      refine mI K X29.here hx hby dm7_203 rfl rfl ?_
      refine k_stC K X29 hx hby hZ e29 V29 (by decide) (LB rfl) dm7_205 rfl fun T30 h30 X30 e30 W30 V30 => ?_
      replace V30 : Av Z h30 b28 .char [(.int (FUN c0)), (.int (SUN c0)), (.int (0 : Int32)), (.int (0 : Int32))] := by have q := V30; rw [show nar .char (SUN c0) = (SUN c0) from own_su c0] at q; exact q
      have N30 := Fr.snoc X30 N29 g_b28
      refine m_dup K X30.here hx hby dm7_206 rfl rfl ?_
      refine mC K X30.here hx hby (2 : Int32) dm7_207 rfl rfl ?_
      refine mI K X30.here hx hby dm7_208 rfl rfl ?_
      refine k_stC K X30 hx hby hZ e30 V30 (by decide) (LB rfl) dm7_210 rfl fun T31 h31 X31 e31 W31 V31 => ?_
      replace V31 : Av Z h31 b28 .char [(.int (FUN c0)), (.int (SUN c0)), (.int (FUN c1)), (.int (0 : Int32))] := by have q := V31; rw [show nar .char (FUN c1) = (FUN c1) from own_fu c1] at q; exact q
      have N31 := Fr.snoc X31 N30 g_b28
      refine m_dup K X31.here hx hby dm7_211 rfl rfl ?_
      refine mC K X31.here hx hby (3 : Int32) dm7_212 rfl rfl ?_
      refine mI K X31.here hx hby dm7_213 rfl rfl ?_
      refine k_stC K X31 hx hby hZ e31 V31 (by decide) (LB rfl) dm7_215 rfl fun T32 h32 X32 e32 W32 V32 => ?_
      replace V32 : Av Z h32 b28 .char [(.int (FUN c0)), (.int (SUN c0)), (.int (FUN c1)), (.int (SUN c1))] := by have q := V32; rw [show nar .char (SUN c1) = (SUN c1) from own_su c1] at q; exact q
      have N32 := Fr.snoc X32 N31 g_b28
      refine k_callP K X32 hx hby hZ b27 [(.ref b28)] [(.ref b27)] hown (W hw 14 rfl) (W hw 15 rfl) (W hw 12 rfl) (W hw 16 rfl) rfl (kmk4 l Z a0 hw b27 b28 cz vf (FUN c0) (SUN c0) (FUN c1) (SUN c1) h32 n0 (Nat.le_trans Z0 (Nat.le_trans (Nat.le_trans (Nat.le_trans (Nat.le_trans (Nat.le_trans (Nat.le_trans (Nat.le_refl _) E27.1) E28.1) (Keep.of_wr W29).1) (Keep.of_wr W30).1) (Keep.of_wr W31).1) (Keep.of_wr W32).1)) (((((A27.ext E28).wr W29).wr W30).wr W31).wr W32) (((((F_value_b27.ext E28).other W29 (Or.inl (Nat.ne_of_lt (Nat.lt_of_lt_of_le (Nat.lt_of_lt_of_le A27.lt (Nat.le_refl _)) (Nat.le_of_eq g28.symm))))).other W30 (Or.inl (Nat.ne_of_lt (Nat.lt_of_lt_of_le (Nat.lt_of_lt_of_le A27.lt (Nat.le_refl _)) (Nat.le_of_eq g28.symm))))).other W31 (Or.inl (Nat.ne_of_lt (Nat.lt_of_lt_of_le (Nat.lt_of_lt_of_le A27.lt (Nat.le_refl _)) (Nat.le_of_eq g28.symm))))).other W32 (Or.inl (Nat.ne_of_lt (Nat.lt_of_lt_of_le (Nat.lt_of_lt_of_le A27.lt (Nat.le_refl _)) (Nat.le_of_eq g28.symm))))) (((((F_coder_b27.ext E28).other W29 (Or.inl (Nat.ne_of_lt (Nat.lt_of_lt_of_le (Nat.lt_of_lt_of_le A27.lt (Nat.le_refl _)) (Nat.le_of_eq g28.symm))))).other W30 (Or.inl (Nat.ne_of_lt (Nat.lt_of_lt_of_le (Nat.lt_of_lt_of_le A27.lt (Nat.le_refl _)) (Nat.le_of_eq g28.symm))))).other W31 (Or.inl (Nat.ne_of_lt (Nat.lt_of_lt_of_le (Nat.lt_of_lt_of_le A27.lt (Nat.le_refl _)) (Nat.le_of_eq g28.symm))))).other W32 (Or.inl (Nat.ne_of_lt (Nat.lt_of_lt_of_le (Nat.lt_of_lt_of_le A27.lt (Nat.le_refl _)) (Nat.le_of_eq g28.symm))))) V32 ((((((O0.ext E27).ext E28).wr W29 g_b28).wr W30 g_b28).wr W31 g_b28).wr W32 g_b28) g_b27 SS (own_fu c0) (own_su c0) (own_fu c1) (own_su c1)) e32 rfl rfl pd_18 rfl dm7_216 (by rw [hml]; rfl) rfl (by decide) (by decide) (LB rfl) (by decide) (by decide) fun v33 T33 L33 X33 q33 => ?_
      obtain ⟨rfl, Nq33, K33, Y33⟩ := q33
      have N33 := Fr.app N32 Nq33
      refine k_none K ?_
      exact Go.retO X33 hx hby hlk hret rfl (Or.inr (Or.inr (Or.inr (Or.inr ⟨rfl, rfl, rfl⟩)))) dm7_219 (by decide) (by decide) (⟨b27, rfl, N33, ((((((((Keep.refl h0 []).ext E27).ext E28).wr W29 (Or.inr sz_b28)).wr W30 (Or.inr sz_b28)).wr W31 (Or.inr sz_b28)).wr W32 (Or.inr sz_b28)).trans K33 (allS (Or.inr sz_b27) all0)), sz_b27, ((((((A27.ext E28).wr W29).wr W30).wr W31).wr W32).keep K33), (by rw [US2, US1, US1, if_neg hc99_7, if_neg hc162_20]; exact Y33)⟩)
def USK (k c0 c1 : Int32) : List Int32 := if k = 0 then [] else if k = 1 then US1 c0 else US2 c0 c1
theorem own_usk (k c0 c1 : Int32) : (USK k c0 c1).length ≤ 4 := by
  unfold USK
  have := own_us1 c0
  have := own_us2 c0 c1
  split
  · simp
  · split <;> omega
theorem kstr (l : Launch) (Z : State) (a0 : Array Value) (hw : ∀ d ∈ tables_1, d.before a0 Z = true) (c0 c1 : Int32) (k cz : Int32) (vf : Value) (h0 : Heap) (n0 : Nat) (Z0 : n0 ≤ h0.size) (O0 : Old Z n0 h0) (SS : SSt Z cz vf) (HH : Jvm.Lit.constHeld Z "java/lang/String" 7) (HCW : Jvm.Lit.compactW.before a0 Z = true) (hk : k = 0 ∨ k = 1 ∨ k = 2) :
    ConX l Z (⟨"com/example/stamp2/stamp2/version/RowFormatCompareStringsPinLaw", "str", "(III)Ljava/lang/String;"⟩ : MethodName) method_7_code 9 (some (.object "java/lang/String")) ({ frames := 6, cells := 4, slots := 20, locals := 88 } : Room) [] #[(.int c0), (.int c1), (.int k)] h0 (fun v h L => ∃ b : Addr, v = some (.ref b) ∧ Fr n0 L ∧ Keep h0 h [] ∧ h0.size ≤ b ∧ Exa Z h b "java/lang/String" ∧ Str Z h b (USK k c0 c1)) := by
  rcases hk with rfl | rfl | rfl
  · exact cst0 l Z a0 hw c0 c1 cz vf h0 n0 Z0 O0 SS HH HCW
  · exact ConX.of_con (cst1 l Z a0 hw c0 c1 cz vf h0 n0 Z0 O0 SS) fun v h' L q => by obtain ⟨b, -, -, K, -⟩ := q; exact K
  · exact ConX.of_con (cst2 l Z a0 hw c0 c1 cz vf h0 n0 Z0 O0 SS) fun v h' L q => by obtain ⟨b, -, -, K, -⟩ := q; exact K
def w0_1 (p1 p3 p6 : Int32) : Int32 := (if (p6 &&& (1 : Int32)) = (0 : Int32) then (CPT p3) else (CPT p1))
def w0_2 (p2 p4 p6 : Int32) : Int32 := (if (p6 &&& (2 : Int32)) = (0 : Int32) then (CPT p4) else (CPT p2))
def w0_3 (p5 : Int32) : Int32 := ((p5 &&& (2147483647 : Int32)) % (9 : Int32))
def w0_4 (p1 p2 : Int32) (p3 p4 : Int32) (p5 p6 : Int32) : Int32 := (CMV (USK ((w0_3 p5) % (3 : Int32)) (CPT p1) (CPT p2)) (USK ((w0_3 p5) / (3 : Int32)) (w0_1 p1 p3 p6) (w0_2 p2 p4 p6)))
def w0_5 (p1 p2 : Int32) (p3 p4 : Int32) (p5 p6 : Int32) : Int32 := (RFN (CPT p1) (CPT p2) ((w0_3 p5) % (3 : Int32)) (w0_1 p1 p3 p6) (w0_2 p2 p4 p6) ((w0_3 p5) / (3 : Int32)))
def w0_6 (p1 p2 : Int32) (p3 p4 : Int32) (p5 p6 : Int32) : Int32 := (if (SGN (w0_4 p1 p2 p3 p4 p5 p6)) = (w0_5 p1 p2 p3 p4 p5 p6) then (1 : Int32) else (0 : Int32))
theorem w0_6_01 (p1 p2 : Int32) (p3 p4 : Int32) (p5 p6 : Int32) : (w0_6 p1 p2 p3 p4 p5 p6) = 0 ∨ (w0_6 p1 p2 p3 p4 p5 p6) = 1 := by
  unfold w0_6
  split
  · exact (Or.inr rfl)
  · exact (Or.inl rfl)
theorem own_w3 (p5 : Int32) : ∃ n : Nat, n < 9 ∧ w0_3 p5 = Int32.ofNat n := by
  have hm := c_mask p5 (2147483647 : Int32) 31 (by decide) (by decide)
  have hr := rng32 (p5 &&& (2147483647 : Int32))
  have h0 : 0 ≤ (p5 &&& (2147483647 : Int32)).toInt := by omega
  have hv := (c_iremV (p5 &&& (2147483647 : Int32)) (9 : Int32)).1 h0 (by decide)
  have e9 : (9 : Int32).toInt = 9 := rfl
  refine ⟨(w0_3 p5).toInt.toNat, ?_, Int32.toInt_inj.mp ?_⟩
  · show ((p5 &&& (2147483647 : Int32)) % (9 : Int32)).toInt.toNat < 9
    omega
  · have : 0 ≤ (w0_3 p5).toInt ∧ (w0_3 p5).toInt < 9 := by
      show 0 ≤ ((p5 &&& (2147483647 : Int32)) % (9 : Int32)).toInt ∧ ((p5 &&& (2147483647 : Int32)) % (9 : Int32)).toInt < 9
      omega
    rw [Int32.toInt_ofNat_small (by omega)]
    omega
theorem own_kf : ∀ n : Fin 9, (((Int32.ofNat n.val) % (3 : Int32) = 0 ∨ (Int32.ofNat n.val) % (3 : Int32) = 1 ∨ (Int32.ofNat n.val) % (3 : Int32) = 2) ∧ ((Int32.ofNat n.val) / (3 : Int32) = 0 ∨ (Int32.ofNat n.val) / (3 : Int32) = 1 ∨ (Int32.ofNat n.val) / (3 : Int32) = 2)) := by decide +kernel
theorem own_kA (p5 : Int32) : ((w0_3 p5) % (3 : Int32)) = 0 ∨ ((w0_3 p5) % (3 : Int32)) = 1 ∨ ((w0_3 p5) % (3 : Int32)) = 2 := by
  obtain ⟨n, hn, e⟩ := own_w3 p5
  rw [e]; exact (own_kf ⟨n, hn⟩).1
theorem own_kB (p5 : Int32) : ((w0_3 p5) / (3 : Int32)) = 0 ∨ ((w0_3 p5) / (3 : Int32)) = 1 ∨ ((w0_3 p5) / (3 : Int32)) = 2 := by
  obtain ⟨n, hn, e⟩ := own_w3 p5
  rw [e]; exact (own_kf ⟨n, hn⟩).2
def Cpv (c : Int32) : Prop := 0 ≤ c.toInt ∧ c.toInt < 1114112 ∧ (c.toInt < 55296 ∨ 57344 ≤ c.toInt)
theorem own_cpv (p : Int32) : Cpv (CPT p) := by
  have hm := c_mask p (2147483647 : Int32) 31 (by decide) (by decide)
  have h0 : 0 ≤ (p &&& (2147483647 : Int32)).toInt := by omega
  have hv := (c_iremV (p &&& (2147483647 : Int32)) (1112064 : Int32)).1 h0 (by decide)
  have e9 : (1112064 : Int32).toInt = 1112064 := rfl
  have e5 : (55296 : Int32).toInt = 55296 := rfl
  have e2 : (2048 : Int32).toInt = 2048 := rfl
  have ea := c_iadd (wcp_1 p) (2048 : Int32)
  have ra := rng32 (wcp_1 p + (2048 : Int32))
  have hw : 0 ≤ (wcp_1 p).toInt ∧ (wcp_1 p).toInt < 1112064 := by
    show 0 ≤ ((p &&& (2147483647 : Int32)) % (1112064 : Int32)).toInt ∧ ((p &&& (2147483647 : Int32)) % (1112064 : Int32)).toInt < 1112064
    omega
  show Cpv (wcp_2 p)
  unfold wcp_2 Cpv
  split
  · rename_i q; rw [Int32.lt_iff_toInt_lt] at q; omega
  · rename_i q; rw [Int32.lt_iff_toInt_lt] at q; omega
theorem own_lo (c : Int32) (h : Cpv c) (g : c.toInt < 65536) : US1 c = [FUN c] ∧ (FUN c).toInt = c.toInt := by
  have e6 : (65536 : Int32).toInt = 65536 := rfl
  have q : c < (65536 : Int32) := by rw [Int32.lt_iff_toInt_lt]; omega
  have w : WID c = 1 := if_pos q
  refine ⟨by rw [US1, if_pos w], ?_⟩
  have f : FUN c = c.toUInt32.toUInt16.toUInt32.toInt32 := if_pos q
  have i := c_i2c c
  obtain ⟨h1, h2, h3⟩ := h
  rw [f]; omega
theorem own_hi (c : Int32) (h : Cpv c) (g : ¬ c.toInt < 65536) : US1 c = [FUN c, SUN c] ∧ (FUN c).toInt = 55296 + (c.toInt - 65536) / 1024 ∧ (SUN c).toInt = 56320 + (c.toInt - 65536) % 1024 := by
  obtain ⟨h1, h2, h3⟩ := h
  have e6 : (65536 : Int32).toInt = 65536 := rfl
  have q : ¬ c < (65536 : Int32) := by rw [Int32.lt_iff_toInt_lt]; omega
  have w : ¬ WID c = 1 := by rw [show WID c = 2 from if_neg q]; decide
  have f : FUN c = wfu_3 c := if_neg q
  have s1 := c_isub c (65536 : Int32)
  have r1 := rng32 (c - (65536 : Int32))
  have s2 := c_iushr (c - (65536 : Int32)) (10 : Int32) 10 (by decide) (by decide)
  have e2 : wfu_2 c = ((c - (65536 : Int32)).toUInt32 >>> ((10 : Int32) &&& 31).toUInt32).toInt32 := rfl
  rw [← e2] at s2
  have a1 := c_iadd (55296 : Int32) (wfu_2 c)
  have r2 := rng32 ((55296 : Int32) + wfu_2 c)
  have i1 := c_i2c ((55296 : Int32) + wfu_2 c)
  have ef : wfu_3 c = ((55296 : Int32) + wfu_2 c).toUInt32.toUInt16.toUInt32.toInt32 := rfl
  rw [← ef] at i1
  have e5 : (55296 : Int32).toInt = 55296 := rfl
  have m1 := c_mask (c - (65536 : Int32)) (1023 : Int32) 10 (by decide) (by decide)
  have em : wsu_1 c = (c - (65536 : Int32)) &&& (1023 : Int32) := rfl
  rw [← em] at m1
  have a2 := c_iadd (56320 : Int32) (wsu_1 c)
  have r3 := rng32 ((56320 : Int32) + wsu_1 c)
  have i2 := c_i2c ((56320 : Int32) + wsu_1 c)
  have es : SUN c = ((56320 : Int32) + wsu_1 c).toUInt32.toUInt16.toUInt32.toInt32 := rfl
  rw [← es] at i2
  have e7 : (56320 : Int32).toInt = 56320 := rfl
  refine ⟨by rw [US1, if_neg w], ?_, ?_⟩
  · rw [f]; omega
  · omega
theorem own_rnk (u : Int32) (h : 0 ≤ u.toInt ∧ u.toInt < 65536) : (RNK u).toInt = if u.toInt < 55296 then u.toInt else if u.toInt < 57344 then u.toInt + 8192 else u.toInt - 2048 := by
  have e1 : (55296 : Int32).toInt = 55296 := rfl
  have e2 : (57344 : Int32).toInt = 57344 := rfl
  have e3 : (8192 : Int32).toInt = 8192 := rfl
  have e4 : (-2048 : Int32).toInt = -2048 := rfl
  have a1 := c_iadd u (8192 : Int32)
  have r1 := rng32 (u + (8192 : Int32))
  have a2 := c_iadd u (-2048 : Int32)
  have r2 := rng32 (u + (-2048 : Int32))
  show (wrk_2 u).toInt = _
  unfold wrk_2 wrk_1
  simp only [Int32.lt_iff_toInt_lt]
  repeat' split
  all_goals omega
theorem own_icm (x y : Int32) : ICM x y = if x.toInt < y.toInt then (-1 : Int32) else if x.toInt = y.toInt then 0 else 1 := by
  show wic_2 x y = _
  unfold wic_2 wic_1
  simp only [Int32.lt_iff_toInt_lt, ← Int32.toInt_inj]
theorem own_U (n m : Int32) (a b : Int32) (us vs : List Int32) (ha : Cpv a) (hb : Cpv b) : CMG n m (US1 a ++ us) (US1 b ++ vs) = if a = b then CMG n m us vs else if a < b then (-1 : Int32) else 1 := by
  simp only [Int32.lt_iff_toInt_lt, ← Int32.toInt_inj]
  have ha' := ha
  have hb' := hb
  obtain ⟨a1, a2, a3⟩ := ha'
  obtain ⟨b1, b2, b3⟩ := hb'
  by_cases ga : a.toInt < 65536 <;> by_cases gb : b.toInt < 65536
  · obtain ⟨ea, fa⟩ := own_lo a ha ga
    obtain ⟨eb, fb⟩ := own_lo b hb gb
    rw [ea, eb]
    simp only [List.cons_append, List.nil_append, CMG, own_icm, ← Int32.toInt_inj, own_rnk _ (show 0 ≤ (FUN a).toInt ∧ (FUN a).toInt < 65536 by omega), own_rnk _ (show 0 ≤ (FUN b).toInt ∧ (FUN b).toInt < 65536 by omega), fa, fb]
    repeat' split
    all_goals first | rfl | omega
  · obtain ⟨ea, fa⟩ := own_lo a ha ga
    obtain ⟨eb, fb, sb⟩ := own_hi b hb gb
    rw [ea, eb]
    simp only [List.cons_append, List.nil_append, CMG, own_icm, ← Int32.toInt_inj, own_rnk _ (show 0 ≤ (FUN a).toInt ∧ (FUN a).toInt < 65536 by omega), own_rnk _ (show 0 ≤ (FUN b).toInt ∧ (FUN b).toInt < 65536 by omega), fa, fb]
    repeat' split
    all_goals first | rfl | omega
  · obtain ⟨ea, fa, sa⟩ := own_hi a ha ga
    obtain ⟨eb, fb⟩ := own_lo b hb gb
    rw [ea, eb]
    simp only [List.cons_append, List.nil_append, CMG, own_icm, ← Int32.toInt_inj, own_rnk _ (show 0 ≤ (FUN a).toInt ∧ (FUN a).toInt < 65536 by omega), own_rnk _ (show 0 ≤ (FUN b).toInt ∧ (FUN b).toInt < 65536 by omega), fa, fb]
    repeat' split
    all_goals first | rfl | omega
  · obtain ⟨ea, fa, sa⟩ := own_hi a ha ga
    obtain ⟨eb, fb, sb⟩ := own_hi b hb gb
    rw [ea, eb]
    simp only [List.cons_append, List.nil_append, CMG, own_icm, ← Int32.toInt_inj, own_rnk _ (show 0 ≤ (FUN a).toInt ∧ (FUN a).toInt < 65536 by omega), own_rnk _ (show 0 ≤ (FUN b).toInt ∧ (FUN b).toInt < 65536 by omega), own_rnk _ (show 0 ≤ (SUN a).toInt ∧ (SUN a).toInt < 65536 by omega), own_rnk _ (show 0 ≤ (SUN b).toInt ∧ (SUN b).toInt < 65536 by omega), fa, fb, sa, sb]
    repeat' split
    all_goals first | rfl | omega
theorem own_cmv (us vs : List Int32) (hu : us.length ≤ 4) (hv : vs.length ≤ 4) : CMV us vs = CMG (Int32.ofNat us.length) (Int32.ofNat vs.length) us vs := by
  have m0 : ((0 : Int32) < wq_1 us vs) ↔ (0 < us.length ∧ 0 < vs.length) := own_mn hu hv 0 (by decide)
  have m1 : ((1 : Int32) < wq_1 us vs) ↔ (1 < us.length ∧ 1 < vs.length) := own_mn hu hv 1 (by decide)
  have m2 : ((2 : Int32) < wq_1 us vs) ↔ (2 < us.length ∧ 2 < vs.length) := own_mn hu hv 2 (by decide)
  have m3 : ((3 : Int32) < wq_1 us vs) ↔ (3 < us.length ∧ 3 < vs.length) := own_mn hu hv 3 (by decide)
  unfold CMV
  simp only [m0, m1, m2, m3, wq_2, wq_3, wq_4, wq_5, wq_6]
  clear m0 m1 m2 m3
  rcases us with _ | ⟨c0, _ | ⟨c1, _ | ⟨c2, _ | ⟨c3, _ | ⟨c4, ct⟩⟩⟩⟩⟩ <;> first | (exfalso; simp at hu; done) | skip
  all_goals rcases vs with _ | ⟨d0, _ | ⟨d1, _ | ⟨d2, _ | ⟨d3, _ | ⟨d4, dt⟩⟩⟩⟩⟩ <;> first | (exfalso; simp at hv; done) | simp [CMG]
theorem own_icf : ∀ n m : Fin 5, ICM (Int32.ofNat n.val) (Int32.ofNat m.val) = if n.val < m.val then (-1 : Int32) else if n.val = m.val then 0 else 1 := by decide +kernel
theorem own_icl {n m : Nat} (hu : n ≤ 4) (hv : m ≤ 4) : ICM (Int32.ofNat n) (Int32.ofNat m) = if n < m then (-1 : Int32) else if n = m then 0 else 1 := own_icf ⟨n, by omega⟩ ⟨m, by omega⟩
theorem own_len1 (c : Int32) : 1 ≤ (US1 c).length := by unfold US1; split <;> simp
theorem own_Cn (n m : Int32) (us : List Int32) : CMG n m us [] = ICM n m := by cases us <;> rfl
theorem own_nC (n m : Int32) (us : List Int32) : CMG n m [] us = ICM n m := by cases us <;> rfl
theorem own_sg1 : SGN (-1) = -1 := by decide
theorem own_sg0 : SGN 0 = 0 := by decide
theorem own_sgp : SGN 1 = 1 := by decide
theorem own_k0 (x y : Int32) : USK 0 x y = [] := if_pos rfl
theorem own_k1 (x y : Int32) : USK 1 x y = US1 x := by rw [USK, if_neg (by decide), if_pos rfl]
theorem own_k2 (x y : Int32) : USK 2 x y = US1 x ++ US1 y := by rw [USK, if_neg (by decide), if_neg (by decide), US2]
theorem own_main (a0 a1 b0 b1 la lb : Int32) (ha0 : Cpv a0) (ha1 : Cpv a1) (hb0 : Cpv b0) (hb1 : Cpv b1) (hla : la = 0 ∨ la = 1 ∨ la = 2) (hlb : lb = 0 ∨ lb = 1 ∨ lb = 2) : SGN (CMV (USK la a0 a1) (USK lb b0 b1)) = RFN a0 a1 la b0 b1 lb := by
  have lu := own_usk la a0 a1
  have lv := own_usk lb b0 b1
  rw [own_cmv _ _ lu lv]
  generalize hn : Int32.ofNat (USK la a0 a1).length = n
  generalize hm : Int32.ofNat (USK lb b0 b1).length = m
  have hI : ICM n m = if (USK la a0 a1).length < (USK lb b0 b1).length then (-1 : Int32) else if (USK la a0 a1).length = (USK lb b0 b1).length then 0 else 1 := by rw [← hn, ← hm]; exact own_icl lu lv
  have x0 := own_len1 a0
  have x1 := own_len1 a1
  have y0 := own_len1 b0
  have y1 := own_len1 b1
  have u00 := own_U n m a0 b0 [] [] ha0 hb0
  have u01 := own_U n m a0 b0 [] (US1 b1) ha0 hb0
  have u10 := own_U n m a0 b0 (US1 a1) [] ha0 hb0
  have u11 := own_U n m a0 b0 (US1 a1) (US1 b1) ha0 hb0
  have v00 := own_U n m a1 b1 [] [] ha1 hb1
  simp only [List.append_nil, own_Cn, own_nC] at u00 u01 u10 u11 v00
  clear hn hm lu lv
  rcases hla with rfl | rfl | rfl <;> rcases hlb with rfl | rfl | rfl <;> simp only [own_k0, own_k1, own_k2, List.length_append, List.length_nil] at hI ⊢
  · rw [own_nC, hI]; rfl
  · rw [own_nC, hI, if_pos (by omega)]; rfl
  · rw [own_nC, hI, if_pos (by omega)]; rfl
  · rw [own_Cn, hI, if_neg (by omega), if_neg (by omega)]; rfl
  · rw [u00]
    by_cases q : a0 = b0
    · subst q; rw [if_pos rfl, hI, if_neg (by omega), if_pos rfl, own_sg0]; simp +decide [RFN]
    · rw [if_neg q]; by_cases r : a0 < b0
      · rw [if_pos r, own_sg1]; simp +decide [RFN, wre_2, q, r]
      · rw [if_neg r, own_sgp]; simp +decide [RFN, wre_2, q, r]
  · rw [u01]
    by_cases q : a0 = b0
    · subst q; rw [if_pos rfl, hI, if_pos (by omega), own_sg1]; simp +decide [RFN]
    · rw [if_neg q]; by_cases r : a0 < b0
      · rw [if_pos r, own_sg1]; simp +decide [RFN, wre_2, q, r]
      · rw [if_neg r, own_sgp]; simp +decide [RFN, wre_2, q, r]
  · rw [own_Cn, hI, if_neg (by omega), if_neg (by omega)]; rfl
  · rw [u10]
    by_cases q : a0 = b0
    · subst q; rw [if_pos rfl, hI, if_neg (by omega), if_neg (by omega), own_sgp]; simp +decide [RFN]
    · rw [if_neg q]; by_cases r : a0 < b0
      · rw [if_pos r, own_sg1]; simp +decide [RFN, wre_2, q, r]
      · rw [if_neg r, own_sgp]; simp +decide [RFN, wre_2, q, r]
  · rw [u11]
    by_cases q : a0 = b0
    · subst q; rw [if_pos rfl, v00]
      by_cases q1 : a1 = b1
      · subst q1; rw [if_pos rfl, hI, if_neg (by omega), if_pos rfl, own_sg0]; simp +decide [RFN]
      · rw [if_neg q1]; by_cases r : a1 < b1
        · rw [if_pos r, own_sg1]; simp +decide [RFN, wre_1, q1, r]
        · rw [if_neg r, own_sgp]; simp +decide [RFN, wre_1, q1, r]
    · rw [if_neg q]; by_cases r : a0 < b0
      · rw [if_pos r, own_sg1]; simp +decide [RFN, wre_2, q, r]
      · rw [if_neg r, own_sgp]; simp +decide [RFN, wre_2, q, r]
theorem plain (p1 p2 p3 p4 p5 p6 : Int32) : (w0_6 p1 p2 p3 p4 p5 p6) = (1 : Int32) := by
  have h1 : Cpv (w0_1 p1 p3 p6) := by unfold w0_1; split <;> exact own_cpv _
  have h2 : Cpv (w0_2 p2 p4 p6) := by unfold w0_2; split <;> exact own_cpv _
  exact if_pos (own_main _ _ _ _ _ _ (own_cpv p1) (own_cpv p2) h1 h2 (own_kA p5) (own_kB p5))
theorem pd_19 : parseMethodDescriptor "(III)Ljava/lang/String;" = some ⟨[.int, .int, .int], some (.object "java/lang/String")⟩ := by decide +kernel
theorem pd_20 : parseMethodDescriptor "(Ljava/lang/String;Ljava/lang/String;)I" = some ⟨[(.object "java/lang/String"), (.object "java/lang/String")], some .int⟩ := by decide +kernel
theorem pd_21 : parseMethodDescriptor "(IIIIII)I" = some ⟨[.int, .int, .int, .int, .int, .int], some .int⟩ := by decide +kernel
theorem ef0 (m : MethodId) (x0 x1 : Int32) (x2 x3 : Int32) (x4 x5 : Int32) : entryFrame m #[(.int x0), (.int x1), (.int x2), (.int x3), (.int x4), (.int x5)] maxLocals = mkF m 0 #[.val (.int x0), .val (.int x1), .val (.int x2), .val (.int x3), .val (.int x4), .val (.int x5), .unset, .unset, .unset, .unset, .unset, .unset, .unset, .unset, .unset, .unset] [] := by first | (simp [entryFrame, mkF, argsToLocals, Value.category, maxLocals]; done) | rfl
theorem law0 (l : Launch) (Z : State) (a0 : Array Value) (hw : ∀ d ∈ tables_1, d.before a0 Z = true) (ws : List Jvm.Cond) (p1 p2 : Int32) (p3 p4 : Int32) (p5 p6 cz : Int32) (vf : Value) (h0 : Heap) (n0 : Nat) (Z0 : n0 ≤ h0.size) (O0 : Old Z n0 h0) (SS : SSt Z cz vf) (HH : Jvm.Lit.constHeld Z "java/lang/String" 7) (HCW : Jvm.Lit.compactW.before a0 Z = true) :
    ConW l Z x code maxLocals ret room_1 ws #[(.int p1), (.int p2), (.int p3), (.int p4), (.int p5), (.int p6)] h0 (fun v h L => v = some (.int 1) ∧ Fr n0 L) := by
  refine ConW.of (plainFor_of_name pn_com_example_stamp2_stamp2_version_RowFormatCompareStringsPinLaw) #[.val (.int p1), .val (.int p2), .val (.int p3), .val (.int p4), .val (.int p5), .val (.int p6), .unset, .unset, .unset, .unset, .unset, .unset, .unset, .unset, .unset, .unset] (fun m => ef0 m p1 p2 p3 p4 p5 p6) ?_
  intro p e s m below meth c s₁ K hx hby hml hown hnm hret hlk hZ X0 e0 hs0 hI
  have N0 := Fr.nil n0
  refine mIN K X0.here hx hby at_0 rfl rfl ?_
  refine k_callS K X0 hx hby hZ [(.int p1)] [] hown (W hw 0 rfl) (W hw 1 rfl) (W hw 2 rfl) (W hw 3 rfl) (c_cp l Z a0 hw p1 h0 n0 Z0) e0 rfl rfl pd_1 rfl at_1 (by rw [hml]; rfl) rfl (by decide) (by decide) (LB rfl) (by decide) (by decide) fun v1 T1 L1 X1 q1 => ?_
  obtain ⟨rfl, e1, rfl⟩ := q1
  replace X1 := own_px X1
  refine k_some K (w := (.int (CPT p1))) ?_
  refine mS K X1.here hx hby #[.val (.int p1), .val (.int p2), .val (.int p3), .val (.int p4), .val (.int p5), .val (.int p6), .val (.int (CPT p1)), .unset, .unset, .unset, .unset, .unset, .unset, .unset, .unset, .unset] at_4 rfl rfl ?_
  refine mIN K X1.here hx hby at_6 rfl rfl ?_
  refine k_callS K X1 hx hby hZ [(.int p2)] [] hown (W hw 0 rfl) (W hw 1 rfl) (W hw 2 rfl) (W hw 3 rfl) (c_cp l Z a0 hw p2 h0 n0 Z0) e1 rfl rfl pd_1 rfl at_7 (by rw [hml]; rfl) rfl (by decide) (by decide) (LB rfl) (by decide) (by decide) fun v2 T2 L2 X2 q2 => ?_
  obtain ⟨rfl, e2, rfl⟩ := q2
  replace X2 := own_px X2
  refine k_some K (w := (.int (CPT p2))) ?_
  refine mS K X2.here hx hby #[.val (.int p1), .val (.int p2), .val (.int p3), .val (.int p4), .val (.int p5), .val (.int p6), .val (.int (CPT p1)), .val (.int (CPT p2)), .unset, .unset, .unset, .unset, .unset, .unset, .unset, .unset] at_10 rfl rfl ?_
  refine mI K X2.here hx hby at_12 rfl rfl ?_
  refine mC K X2.here hx hby (1 : Int32) at_14 rfl rfl ?_
  refine m_iand K X2.here hx hby (p6 &&& (1 : Int32)) at_15 rfl rfl ?_
  obtain ⟨T5, X5, e5, st5⟩ : Mx X2 h0 (mkF m 28 #[.val (.int p1), .val (.int p2), .val (.int p3), .val (.int p4), .val (.int p5), .val (.int p6), .val (.int (CPT p1)), .val (.int (CPT p2)), .unset, .unset, .unset, .unset, .unset, .unset, .unset, .unset] [(.int (w0_1 p1 p3 p6))]) (T2.setTop (mkF m 16 #[.val (.int p1), .val (.int p2), .val (.int p3), .val (.int p4), .val (.int p5), .val (.int p6), .val (.int (CPT p1)), .val (.int (CPT p2)), .unset, .unset, .unset, .unset, .unset, .unset, .unset, .unset] [(.int (p6 &&& (1 : Int32)))])) := by
    refine Mx.with fun K => ?_
    by_cases hc16_3 : (p6 &&& (1 : Int32)) = (0 : Int32)
    · refine m_ifY K X2.here hx hby (q := 24) at_16 ((if0 _ _).trans (teq hc16_3).1) (by decide) rfl ?_
      refine mIN K X2.here hx hby at_24 rfl rfl ?_
      refine k_callS K X2 hx hby hZ [(.int p3)] [] hown (W hw 0 rfl) (W hw 1 rfl) (W hw 2 rfl) (W hw 3 rfl) (c_cp l Z a0 hw p3 h0 n0 Z0) e2 rfl rfl pd_1 rfl at_25 (by rw [hml]; rfl) rfl (by decide) (by decide) (LB rfl) (by decide) (by decide) fun v4 T4 L4 X4 q4 => ?_
      obtain ⟨rfl, e4, rfl⟩ := q4
      replace X4 := own_px X4
      refine k_some K (w := (.int (CPT p3))) ?_
      rw [show ((w0_1 p1 p3 p6) : Int32) = (CPT p3) from if_pos hc16_3]
      exact Mx.here X4 e4
    · refine m_ifN K X2.here hx hby (q := 19) at_16 ((if0 _ _).trans (feq hc16_3).1) rfl ?_
      refine mI K X2.here hx hby at_19 rfl rfl ?_
      refine m_goto K X2.here hx hby (q := 28) at_21 (by decide) rfl ?_
      rw [show ((w0_1 p1 p3 p6) : Int32) = (CPT p1) from if_neg hc16_3]
      exact Mx.here X2 e2
  refine k_go K st5 ?_
  refine mS K X5.here hx hby #[.val (.int p1), .val (.int p2), .val (.int p3), .val (.int p4), .val (.int p5), .val (.int p6), .val (.int (CPT p1)), .val (.int (CPT p2)), .val (.int (w0_1 p1 p3 p6)), .unset, .unset, .unset, .unset, .unset, .unset, .unset] at_28 rfl rfl ?_
  refine mI K X5.here hx hby at_30 rfl rfl ?_
  refine mC K X5.here hx hby (2 : Int32) at_32 rfl rfl ?_
  refine m_iand K X5.here hx hby (p6 &&& (2 : Int32)) at_33 rfl rfl ?_
  obtain ⟨T8, X8, e8, st8⟩ : Mx X5 h0 (mkF m 46 #[.val (.int p1), .val (.int p2), .val (.int p3), .val (.int p4), .val (.int p5), .val (.int p6), .val (.int (CPT p1)), .val (.int (CPT p2)), .val (.int (w0_1 p1 p3 p6)), .unset, .unset, .unset, .unset, .unset, .unset, .unset] [(.int (w0_2 p2 p4 p6))]) (T5.setTop (mkF m 34 #[.val (.int p1), .val (.int p2), .val (.int p3), .val (.int p4), .val (.int p5), .val (.int p6), .val (.int (CPT p1)), .val (.int (CPT p2)), .val (.int (w0_1 p1 p3 p6)), .unset, .unset, .unset, .unset, .unset, .unset, .unset] [(.int (p6 &&& (2 : Int32)))])) := by
    refine Mx.with fun K => ?_
    by_cases hc34_6 : (p6 &&& (2 : Int32)) = (0 : Int32)
    · refine m_ifY K X5.here hx hby (q := 42) at_34 ((if0 _ _).trans (teq hc34_6).1) (by decide) rfl ?_
      refine mIN K X5.here hx hby at_42 rfl rfl ?_
      refine k_callS K X5 hx hby hZ [(.int p4)] [] hown (W hw 0 rfl) (W hw 1 rfl) (W hw 2 rfl) (W hw 3 rfl) (c_cp l Z a0 hw p4 h0 n0 Z0) e5 rfl rfl pd_1 rfl at_43 (by rw [hml]; rfl) rfl (by decide) (by decide) (LB rfl) (by decide) (by decide) fun v7 T7 L7 X7 q7 => ?_
      obtain ⟨rfl, e7, rfl⟩ := q7
      replace X7 := own_px X7
      refine k_some K (w := (.int (CPT p4))) ?_
      rw [show ((w0_2 p2 p4 p6) : Int32) = (CPT p4) from if_pos hc34_6]
      exact Mx.here X7 e7
    · refine m_ifN K X5.here hx hby (q := 37) at_34 ((if0 _ _).trans (feq hc34_6).1) rfl ?_
      refine mI K X5.here hx hby at_37 rfl rfl ?_
      refine m_goto K X5.here hx hby (q := 46) at_39 (by decide) rfl ?_
      rw [show ((w0_2 p2 p4 p6) : Int32) = (CPT p2) from if_neg hc34_6]
      exact Mx.here X5 e5
  refine k_go K st8 ?_
  refine mS K X8.here hx hby #[.val (.int p1), .val (.int p2), .val (.int p3), .val (.int p4), .val (.int p5), .val (.int p6), .val (.int (CPT p1)), .val (.int (CPT p2)), .val (.int (w0_1 p1 p3 p6)), .val (.int (w0_2 p2 p4 p6)), .unset, .unset, .unset, .unset, .unset, .unset] at_46 rfl rfl ?_
  refine mI K X8.here hx hby at_48 rfl rfl ?_
  refine m_ldc K X8 hx hby hZ hown (W hw 4 rfl) at_50 rfl ?_
  refine m_iand K X8.here hx hby (p5 &&& (2147483647 : Int32)) at_52 rfl rfl ?_
  refine mB K X8.here hx hby (9 : Int32) at_53 rfl rfl ?_
  refine m_irem K X8.here hx hby (w0_3 p5) at_55 (by decide) rfl rfl ?_
  refine mS K X8.here hx hby #[.val (.int p1), .val (.int p2), .val (.int p3), .val (.int p4), .val (.int p5), .val (.int p6), .val (.int (CPT p1)), .val (.int (CPT p2)), .val (.int (w0_1 p1 p3 p6)), .val (.int (w0_2 p2 p4 p6)), .val (.int (w0_3 p5)), .unset, .unset, .unset, .unset, .unset] at_56 rfl rfl ?_
  refine mI K X8.here hx hby at_58 rfl rfl ?_
  refine mC K X8.here hx hby (3 : Int32) at_60 rfl rfl ?_
  refine m_irem K X8.here hx hby ((w0_3 p5) % (3 : Int32)) at_61 (by decide) rfl rfl ?_
  refine mS K X8.here hx hby #[.val (.int p1), .val (.int p2), .val (.int p3), .val (.int p4), .val (.int p5), .val (.int p6), .val (.int (CPT p1)), .val (.int (CPT p2)), .val (.int (w0_1 p1 p3 p6)), .val (.int (w0_2 p2 p4 p6)), .val (.int (w0_3 p5)), .val (.int ((w0_3 p5) % (3 : Int32))), .unset, .unset, .unset, .unset] at_62 rfl rfl ?_
  refine mI K X8.here hx hby at_64 rfl rfl ?_
  refine mC K X8.here hx hby (3 : Int32) at_66 rfl rfl ?_
  refine m_idiv K X8.here hx hby ((w0_3 p5) / (3 : Int32)) at_67 (by decide) rfl rfl ?_
  refine mS K X8.here hx hby #[.val (.int p1), .val (.int p2), .val (.int p3), .val (.int p4), .val (.int p5), .val (.int p6), .val (.int (CPT p1)), .val (.int (CPT p2)), .val (.int (w0_1 p1 p3 p6)), .val (.int (w0_2 p2 p4 p6)), .val (.int (w0_3 p5)), .val (.int ((w0_3 p5) % (3 : Int32))), .val (.int ((w0_3 p5) / (3 : Int32))), .unset, .unset, .unset] at_68 rfl rfl ?_
  refine mI K X8.here hx hby at_70 rfl rfl ?_
  refine mI K X8.here hx hby at_72 rfl rfl ?_
  refine mI K X8.here hx hby at_74 rfl rfl ?_
  refine k_callSX (s := s) (vm0 := s.vm) (k0 := 0) K X8 hx hby hZ ((State.WarmedH.refl s).since 0) (Nat.zero_le _) (Or.inl hI) [(.int (CPT p1)), (.int (CPT p2)), (.int ((w0_3 p5) % (3 : Int32)))] [] hown (W hw 7 rfl) (W hw 8 rfl) (W hw 2 rfl) (W hw 9 rfl) (kstr l Z a0 hw (CPT p1) (CPT p2) ((w0_3 p5) % (3 : Int32)) cz vf h0 n0 Z0 O0 SS HH HCW (own_kA p5)) e8 rfl rfl pd_19 rfl at_76 (by rw [hml]; rfl) rfl (by decide) (by decide) (LB rfl) (by decide) (by decide) fun v9 T9 L9 X9 q9 hS9 LS9 hZ hown => ?_
  obtain ⟨b9_b, rfl, Nq9, K9, sq_b9_b, E_b9_b, pr9_0⟩ := q9
  have N9 := Fr.app N0 Nq9
  have sz_b9_b : h0.size ≤ b9_b := Nat.le_trans (Nat.le_refl _) sq_b9_b
  have g_b9_b : n0 ≤ b9_b := Nat.le_trans Z0 sz_b9_b
  refine k_some K (w := (.ref b9_b)) ?_
  refine m_astore K X9.here hx hby #[.val (.int p1), .val (.int p2), .val (.int p3), .val (.int p4), .val (.int p5), .val (.int p6), .val (.int (CPT p1)), .val (.int (CPT p2)), .val (.int (w0_1 p1 p3 p6)), .val (.int (w0_2 p2 p4 p6)), .val (.int (w0_3 p5)), .val (.int ((w0_3 p5) % (3 : Int32))), .val (.int ((w0_3 p5) / (3 : Int32))), .val (.ref b9_b), .unset, .unset] at_79 rfl rfl rfl ?_
  refine mI K X9.here hx hby at_81 rfl rfl ?_
  refine mI K X9.here hx hby at_83 rfl rfl ?_
  refine mI K X9.here hx hby at_85 rfl rfl ?_
  refine k_callSX K X9 hx hby hZ hS9 (Nat.le_refl _) LS9 [(.int (w0_1 p1 p3 p6)), (.int (w0_2 p2 p4 p6)), (.int ((w0_3 p5) / (3 : Int32)))] [] hown (W hw 7 rfl) (W hw 8 rfl) (W hw 2 rfl) (W hw 9 rfl) (kstr l Z a0 hw (w0_1 p1 p3 p6) (w0_2 p2 p4 p6) ((w0_3 p5) / (3 : Int32)) cz vf T9.heap n0 (Nat.le_trans Z0 (Nat.le_trans (Nat.le_refl _) K9.1)) (O0.keep K9 all0) SS HH HCW (own_kB p5)) rfl rfl rfl pd_19 rfl at_87 (by rw [hml]; rfl) rfl (by decide) (by decide) (LB rfl) (by decide) (by decide) fun v10 T10 L10 X10 q10 hS10 LS10 hZ hown => ?_
  obtain ⟨b10_b, rfl, Nq10, K10, sq_b10_b, E_b10_b, pr10_0⟩ := q10
  have N10 := Fr.app N9 Nq10
  have sz_b10_b : h0.size ≤ b10_b := Nat.le_trans (Nat.le_trans (Nat.le_refl _) K9.1) sq_b10_b
  have g_b10_b : n0 ≤ b10_b := Nat.le_trans Z0 sz_b10_b
  refine k_some K (w := (.ref b10_b)) ?_
  refine m_astore K X10.here hx hby #[.val (.int p1), .val (.int p2), .val (.int p3), .val (.int p4), .val (.int p5), .val (.int p6), .val (.int (CPT p1)), .val (.int (CPT p2)), .val (.int (w0_1 p1 p3 p6)), .val (.int (w0_2 p2 p4 p6)), .val (.int (w0_3 p5)), .val (.int ((w0_3 p5) % (3 : Int32))), .val (.int ((w0_3 p5) / (3 : Int32))), .val (.ref b9_b), .val (.ref b10_b), .unset] at_90 rfl rfl rfl ?_
  refine mA K X10.here hx hby at_92 rfl rfl rfl ?_
  refine mA K X10.here hx hby at_94 rfl rfl rfl ?_
  refine k_callS K X10 hx hby hZ [(.ref b9_b), (.ref b10_b)] [] hown (W hw 32 rfl) (W hw 33 rfl) (W hw 34 rfl) (W hw 35 rfl) (cq l Z a0 hw b9_b b10_b cz vf (USK ((w0_3 p5) % (3 : Int32)) (CPT p1) (CPT p2)) (USK ((w0_3 p5) / (3 : Int32)) (w0_1 p1 p3 p6) (w0_2 p2 p4 p6)) T10.heap n0 (Nat.le_trans Z0 (Nat.le_trans (Nat.le_trans (Nat.le_refl _) K9.1) K10.1)) ((O0.keep K9 all0).keep K10 all0) SS (own_usk _ _ _) (own_usk _ _ _) (pr9_0.keep0 K10) pr10_0) rfl rfl rfl pd_20 rfl at_96 (by rw [hml]; rfl) rfl (by decide) (by decide) (LB rfl) (by decide) (by decide) fun v11 T11 L11 X11 q11 => ?_
  obtain ⟨rfl, e11, rfl⟩ := q11
  replace X11 := own_px X11
  refine k_some K (w := (.int (w0_4 p1 p2 p3 p4 p5 p6))) ?_
  refine mS K X11.here hx hby #[.val (.int p1), .val (.int p2), .val (.int p3), .val (.int p4), .val (.int p5), .val (.int p6), .val (.int (CPT p1)), .val (.int (CPT p2)), .val (.int (w0_1 p1 p3 p6)), .val (.int (w0_2 p2 p4 p6)), .val (.int (w0_3 p5)), .val (.int ((w0_3 p5) % (3 : Int32))), .val (.int ((w0_3 p5) / (3 : Int32))), .val (.ref b9_b), .val (.ref b10_b), .val (.int (w0_4 p1 p2 p3 p4 p5 p6))] at_99 rfl rfl ?_
  refine mI K X11.here hx hby at_101 rfl rfl ?_
  refine k_callS K X11 hx hby hZ [(.int (w0_4 p1 p2 p3 p4 p5 p6))] [] hown (W hw 55 rfl) (W hw 56 rfl) (W hw 2 rfl) (W hw 57 rfl) (c_sg l Z a0 hw (w0_4 p1 p2 p3 p4 p5 p6) T10.heap n0 (Nat.le_trans Z0 (Nat.le_trans (Nat.le_trans (Nat.le_refl _) K9.1) K10.1))) e11 rfl rfl pd_1 rfl at_103 (by rw [hml]; rfl) rfl (by decide) (by decide) (LB rfl) (by decide) (by decide) fun v12 T12 L12 X12 q12 => ?_
  obtain ⟨rfl, e12, rfl⟩ := q12
  replace X12 := own_px X12
  refine k_some K (w := (.int (SGN (w0_4 p1 p2 p3 p4 p5 p6)))) ?_
  refine mI K X12.here hx hby at_106 rfl rfl ?_
  refine mI K X12.here hx hby at_108 rfl rfl ?_
  refine mI K X12.here hx hby at_110 rfl rfl ?_
  refine mI K X12.here hx hby at_112 rfl rfl ?_
  refine mI K X12.here hx hby at_114 rfl rfl ?_
  refine mI K X12.here hx hby at_116 rfl rfl ?_
  refine k_callS K X12 hx hby hZ [(.int (CPT p1)), (.int (CPT p2)), (.int ((w0_3 p5) % (3 : Int32))), (.int (w0_1 p1 p3 p6)), (.int (w0_2 p2 p4 p6)), (.int ((w0_3 p5) / (3 : Int32)))] [(.int (SGN (w0_4 p1 p2 p3 p4 p5 p6)))] hown (W hw 58 rfl) (W hw 59 rfl) (W hw 2 rfl) (W hw 60 rfl) (c_re l Z a0 hw (CPT p1) (CPT p2) ((w0_3 p5) % (3 : Int32)) (w0_1 p1 p3 p6) (w0_2 p2 p4 p6) ((w0_3 p5) / (3 : Int32)) T10.heap n0 (Nat.le_trans Z0 (Nat.le_trans (Nat.le_trans (Nat.le_refl _) K9.1) K10.1))) e12 rfl rfl pd_21 rfl at_118 (by rw [hml]; rfl) rfl (by decide) (by decide) (LB rfl) (by decide) (by decide) fun v13 T13 L13 X13 q13 => ?_
  obtain ⟨rfl, e13, rfl⟩ := q13
  replace X13 := own_px X13
  refine k_some K (w := (.int (w0_5 p1 p2 p3 p4 p5 p6))) ?_
  obtain ⟨T15, X15, e15, st15⟩ : Mx X13 T10.heap (mkF m 129 #[.val (.int p1), .val (.int p2), .val (.int p3), .val (.int p4), .val (.int p5), .val (.int p6), .val (.int (CPT p1)), .val (.int (CPT p2)), .val (.int (w0_1 p1 p3 p6)), .val (.int (w0_2 p2 p4 p6)), .val (.int (w0_3 p5)), .val (.int ((w0_3 p5) % (3 : Int32))), .val (.int ((w0_3 p5) / (3 : Int32))), .val (.ref b9_b), .val (.ref b10_b), .val (.int (w0_4 p1 p2 p3 p4 p5 p6))] [(.int (w0_6 p1 p2 p3 p4 p5 p6))]) (T13.setTop (mkF m 121 #[.val (.int p1), .val (.int p2), .val (.int p3), .val (.int p4), .val (.int p5), .val (.int p6), .val (.int (CPT p1)), .val (.int (CPT p2)), .val (.int (w0_1 p1 p3 p6)), .val (.int (w0_2 p2 p4 p6)), .val (.int (w0_3 p5)), .val (.int ((w0_3 p5) % (3 : Int32))), .val (.int ((w0_3 p5) / (3 : Int32))), .val (.ref b9_b), .val (.ref b10_b), .val (.int (w0_4 p1 p2 p3 p4 p5 p6))] [(.int (w0_5 p1 p2 p3 p4 p5 p6)), (.int (SGN (w0_4 p1 p2 p3 p4 p5 p6)))])) := by
    refine Mx.with fun K => ?_
    by_cases hc121_14 : (SGN (w0_4 p1 p2 p3 p4 p5 p6)) = (w0_5 p1 p2 p3 p4 p5 p6)
    · refine m_icmpN K X13.here hx hby (q := 124) at_121 (teq hc121_14).2 rfl ?_
      refine mC K X13.here hx hby (1 : Int32) at_124 rfl rfl ?_
      refine m_goto K X13.here hx hby (q := 129) at_125 (by decide) rfl ?_
      rw [show ((w0_6 p1 p2 p3 p4 p5 p6) : Int32) = (1 : Int32) from if_pos hc121_14]
      exact Mx.here X13 e13
    · refine m_icmpY K X13.here hx hby (q := 128) at_121 (feq hc121_14).2 (by decide) rfl ?_
      refine mC K X13.here hx hby (0 : Int32) at_128 rfl rfl ?_
      rw [show ((w0_6 p1 p2 p3 p4 p5 p6) : Int32) = (0 : Int32) from if_neg hc121_14]
      exact Mx.here X13 e13
  refine k_go K st15 ?_
  rw [plain p1 p2 p3 p4 p5 p6]
  exact GoW.of_since hS10 (Go.retN X15 hx hby hlk hret (by simp) at_129 (by decide) (by decide) (by decide) (⟨(⟨rfl, N10⟩), (by rw [e15]; exact (Nat.le_refl _))⟩))
theorem own_eqi {t : Term} {k : Int32} {args : Array Value} {first s : State} {o : Option Outcome} {idx : List Nat} (h : (Jvm.Cond.eq t (Term.int k)).value args first o s idx = some true) : t.eval args first o idx s = some (.int k) := by
  obtain ⟨x, y, h1, h2, k1, k2⟩ := cmp_v (Or.inl h)
  rw [Term.int_eval] at h2
  cases h2
  obtain ⟨z, rfl⟩ := k2
  have e : (Jvm.Cond.eq t (Term.int k)).value args first o s idx = some (decide (z = k)) := by simp [Jvm.Cond.value, h1, Term.int_eval]
  rw [h1, gotT e h]
theorem own_lenv {t : Term} {n : Int32} {x : Addr} {cl : Cell} {args : Array Value} {first s : State} {o : Option Outcome} {idx : List Nat} (h : (Term.length t).eval args first o idx s = some (.int n)) (ht : t.eval args first o idx s = some (.ref x)) (ha : s.arrayAt? x = some cl) : cl.slots.size < 2147483648 ∧ cl.slots.size.toInt32 = n := by
  simp only [Term.eval, ht, Option.bind_eq_bind, Option.bind_some, ha] at h
  by_cases hn : cl.slots.size < 2147483648
  · rw [if_pos hn] at h; cases h; exact ⟨hn, rfl⟩
  · rw [if_neg hn] at h; cases h
theorem own_full {cl : Cell} {vs : List Value} (hs : cl.slots.size = vs.length) (H : HasL cl 0 vs) : cl.slots = vs.toArray := by
  refine Array.ext_getElem? fun i => ?_
  by_cases q : i < vs.length
  · have := HasL.at (dv := .null) vs 0 H i q
    rw [Nat.zero_add] at this
    rw [this]; simp [q]
  · rw [Array.getElem?_eq_none (by omega), List.getElem?_toArray, List.getElem?_eq_none (by omega)]
theorem own_isRef {t : Term} {args : Array Value} {first s : State} {o : Option Outcome} {idx : List Nat} (h : (Jvm.Cond.isRef t).value args first o s idx = some true) : ∃ v, t.eval args first o idx s = some v ∧ v.isRef = true := by
  simp only [Jvm.Cond.value] at h
  cases e : t.eval args first o idx s with
  | none => simp [e] at h
  | some v => refine ⟨v, rfl, ?_⟩; cases v <;> simp_all [Value.isRef]
theorem own_not0 {t : Term} {args : Array Value} {s : State} {cz : Int32} (e : t.eval args s none [] s = some (.int cz)) (h : (Jvm.Cond.not (Jvm.Cond.eq t (Jvm.Term.int 0))).value args s none s [] = some true) : ¬ (cz = (0 : Int32)) := by
  intro q
  subst q
  simp [Jvm.Cond.value, e, Term.int_eval] at h
theorem comes_1 {Post : Tables → Env → Array Value → State → Outcome → State → Prop} (hpost : ∀ tb e args s v u, (limb_1_1.after args s (.returned v) u = true ∧ limb_1_2.after args s (.returned v) u = true ∧ True) → ReturnedEndW s (.returned v) u (Jvm.fieldLocs frame_1_writes args s ++ Jvm.arrayLocs frame_1_arrays args s ++ Jvm.staticLocs frame_1_statics s) 32 1216 → Post tb e args s (.returned v) u) :
    ArmFor flags0 classFile x code maxLocals ret World_1 tables_1 room_1 Calls_1 rest_1 Pre_1 Post := by
  intro l hfl _ _ p e ha hc hk s m args below hf hA hF happ hP
  obtain ⟨hcalls, hrest, hpre⟩ := hP
  obtain ⟨-, -, -, hnamed, -, -, -, hat⟩ := (Spec.applies_iff hf).mp happ
  obtain ⟨hg, hn⟩ := and_e (Cond.before_iff.mp (show (Jvm.Cond.and given_1 narrow_1).before args s = true from hpre))
  obtain ⟨g1, g2⟩ := and_e hg
  obtain ⟨w0, w1, w2, w3, w4, w5, rfl⟩ : ∃ w0 w1 w2 w3 w4 w5 : Value, args = #[w0, w1, w2, w3, w4, w5] := by
    have hs : args.size = 6 := by simpa [Cond.value, given_1] using g1
    obtain ⟨L⟩ := args
    match L, hs with
    | [w0, w1, w2, w3, w4, w5], _ => exact ⟨w0, w1, w2, w3, w4, w5, rfl⟩
  obtain ⟨k0, r0⟩ := and_e g2
  obtain ⟨i0, z0⟩ := is_v k0
  obtain rfl : w0 = (.int i0) := Option.some.inj z0
  obtain ⟨k1, r1⟩ := and_e r0
  obtain ⟨i1, z1⟩ := is_v k1
  obtain rfl : w1 = (.int i1) := Option.some.inj z1
  obtain ⟨k2, r2⟩ := and_e r1
  obtain ⟨i2, z2⟩ := is_v k2
  obtain rfl : w2 = (.int i2) := Option.some.inj z2
  obtain ⟨k3, r3⟩ := and_e r2
  obtain ⟨i3, z3⟩ := is_v k3
  obtain rfl : w3 = (.int i3) := Option.some.inj z3
  obtain ⟨k4, r4⟩ := and_e r3
  obtain ⟨i4, z4⟩ := is_v k4
  obtain rfl : w4 = (.int i4) := Option.some.inj z4
  obtain ⟨i5, z5⟩ := is_v r4
  obtain rfl : w5 = (.int i5) := Option.some.inj z5
  have hw := fun d (hd : d ∈ tables_1) => atoms_spec (ws := Jvm.Cond.code x code maxLocals ret :: tables_1) hat d (List.mem_cons_of_mem _ hd)
  have hfit : Fit s := fun {y c} hc i hi => by
    obtain ⟨ha, rfl⟩ := Array.getElem?_eq_some_iff.mp hc
    have q := List.all_eq_true.mp ((Array.all_eq_true_iff_forall_mem.mp hF) _ (Array.getElem_mem ha)) i (List.mem_range.mpr hi)
    simpa [Array.getElem?_eq_getElem hi] using q
  obtain ⟨hsets, hown0⟩ := atoms_of _ (rest_1_c_eq ▸ (show rest_1_c.before _ s = true from hrest))
  obtain ⟨cz, e_CS⟩ := is_v (Cond.before_iff.mp (hsets _ (List.mem_of_getElem? (i := 1) rfl)))
  obtain ⟨vf, e_SI, hrf⟩ := own_isRef (Cond.before_iff.mp (hsets _ (List.mem_of_getElem? (i := 8) rfl)))
  have HCW : Jvm.Lit.compactW.before _ s = true := (hsets _ (List.mem_of_getElem? (i := 2) rfl))
  have hcz : ¬ (cz = (0 : Int32)) := own_not0 e_CS (Cond.before_iff.mp HCW)
  have SS : SSt s cz vf := ⟨Sta.start e_CS (Or.inl (hsets _ (List.mem_of_getElem? (i := 0) rfl))), Sta.start e_SI (Or.inl (hsets _ (List.mem_of_getElem? (i := 7) rfl))), Sta.start (own_eqi (Cond.before_iff.mp (hsets _ (List.mem_of_getElem? (i := 12) rfl)))) (Or.inl (hsets _ (List.mem_of_getElem? (i := 11) rfl))), Sta.start (own_eqi (Cond.before_iff.mp (hsets _ (List.mem_of_getElem? (i := 15) rfl)))) (Or.inl (hsets _ (List.mem_of_getElem? (i := 14) rfl))), Sta.start (own_eqi (Cond.before_iff.mp (hsets _ (List.mem_of_getElem? (i := 18) rfl)))) (Or.inl (hsets _ (List.mem_of_getElem? (i := 17) rfl))), hcz, hrf⟩
  have HH : Jvm.Lit.constHeld s "java/lang/String" 7 := hcalls.1 _ (List.mem_singleton.mpr rfl)
  obtain ⟨n, o, h1, h2, h3, _, L, rfl, ⟨rfl, N⟩, hq⟩ := law0 l s _ hw tables_1 i0 i1 i2 i3 i4 i5 cz vf s.heap s.heap.size (Nat.le_refl _) (Old.start s) SS HH HCW p e ha hc hk s m _ below hf ((Spec.applies_iff_loose hf).mp happ).1 ⟨rfl, State.Warmed39.refl s, rfl, rfl⟩ trivial
  refine ⟨n, _, h1, h2, h3, hpost _ _ _ _ _ _ ⟨Cond.after_iff.mpr rfl, Cond.after_iff.mpr (eq_i res_at (Term.int_eval (1)) rfl), trivial⟩ ⟨hq.1, hq.2.1, hq.2.2.1, (hq.2.2.2.sift fun y hy => Or.inr (N y hy)).mono (by decide) (by decide)⟩⟩
theorem main_1_1 : Claimed_1_1 := comes_1 fun _ _ _ _ _ _ h hF => ⟨h.1, hF⟩
theorem main_1_2 : Claimed_1_2 := comes_1 fun _ _ _ _ _ _ h hF => ⟨h.2.1, hF⟩
end Jvm.Pilot.@@N@@
namespace Jvm.Pilot.@@N@@
open Jvm Jvm.ClassFile Sem Op Lib Jvm.Free Jvm.Stand Jvm.Pilot.@@N@@.Jvm.D
/-! MADE BY PROGRAM (witnessworld.py) out of the Statement's table words and the real class files: 23 classes; the members and pool entries that the words name. The judged class is class 1, her method 1. -/
namespace start1
open Jvm.ClassFile
def u (s : String) : CpInfo := .utf8 (stringToUtf16 s)
/-- a pool by its gaps: so many unusable entries, then the entry; so many at the end -/
def gap : Nat → List CpInfo → List CpInfo
  | 0, r => r
  | n + 1, r => .unusable :: gap n r
def poolList (es : List (Nat × CpInfo)) (last : Nat) : List CpInfo := es.foldr (fun e r => gap e.1 (e.2 :: r)) (gap last [])
def pool (es : List (Nat × CpInfo)) (last : Nat) : Array CpInfo := ⟨poolList es last⟩
def fileOf (pool : Array CpInfo) (this : Nat) (attrs : Array Attribute := #[]) (ms : Array MethodInfo := #[]) (fl : Nat := 33) (sup : Nat := 0) (ifs : Array Nat := #[]) (fds : Array FieldInfo := #[]) : ClassFile where
  minorVersion := 0
  majorVersion := 65
  constantPool := pool
  accessFlags := fl
  thisClass := this
  superClass := sup
  interfaces := ifs
  fields := fds
  methods := ms
  attributes := attrs
def plain (name : String) (sup : Option ClassId) : Class where
  name := name
  kind := .ordinary
  loader := none
  accessFlags := 33
  super := sup
  interfaces := #[]
  cf := none
  fields := #[]
  methods := #[]
  instanceTypes := #[]
  staticTypes := #[]
  resolved := #[]
  callSites := []
  init := .initialized
  statics := none
  mirror := none

def pool0 : Array CpInfo := pool [(5, u "<init>"), (0, u "()V"), (1, .class_ 10), (1, u "java/lang/Object")] 113

def k0c0 : Code := { maxStack := 0, maxLocals := 1, code := object_method_1_code, exceptionTable := #[], attributes := #[] }
def k0m0 : Method := { name := "<init>", desc := "()V", sig := { parameters := [], returnType := none }, accessFlags := 1, code := some k0c0 }
/-- java/lang/Object -/
def k0 : Class := { plain "java/lang/Object" none with
  accessFlags := 33
  interfaces := #[]
  cf := some (fileOf pool0 8 #[] #[{ accessFlags := 1, nameIndex := 5, descriptorIndex := 6, attributes := #[] }] 33 0 #[] #[])
  fields := #[]
  methods := #[k0m0]
  instanceTypes := #[]
  staticTypes := #[]
  resolved := Array.replicate 124 none
  statics := none }

def pool1 : Array CpInfo := pool [(2, .class_ 4), (1, u "java/lang/Object"), (0, u "<init>"), (0, u "()V"), (0, .methodref 8 9), (0, .class_ 10), (0, .nameAndType 11 12), (0, u "com/example/stamp2/stamp2/version/RowFormatCompareStringsPinLaw"), (0, u "cp"), (0, u "(I)I"), (0, .integer 2147483647), (0, .methodref 8 15), (0, .nameAndType 16 17), (0, u "str"), (0, u "(III)Ljava/lang/String;"), (0, .methodref 19 20), (0, .class_ 21), (0, .nameAndType 22 23), (0, u "com/example/stamp2/stamp2/version/RowFormat"), (0, u "compareStrings"), (0, u "(Ljava/lang/String;Ljava/lang/String;)I"), (0, .methodref 8 25), (0, .nameAndType 26 12), (0, u "sign"), (0, .methodref 8 28), (0, .nameAndType 29 30), (0, u "reference"), (0, u "(IIIIII)I"), (0, .integer 1112064), (0, .integer 55296), (0, .integer 65536), (0, .integer 56320), (0, .class_ 36), (0, u "java/lang/String"), (0, .methodref 35 38), (0, .nameAndType 5 39), (0, u "([C)V"), (0, .methodref 8 41), (0, .nameAndType 42 43), (0, u "firstUnit"), (0, u "(I)C"), (0, .methodref 8 45), (0, .nameAndType 46 43), (0, u "secondUnit"), (0, .methodref 8 48), (0, .nameAndType 49 12), (0, u "width"), (2, u "law"), (0, u "(IIIIII)Z")] 3

def k1m0 : Method := { name := "<init>", desc := "()V", sig := { parameters := [], returnType := none }, accessFlags := 1, code := none }
def k1c1 : Code := { maxStack := 7, maxLocals := 16, code := code, exceptionTable := #[], attributes := #[] }
def k1m1 : Method := { name := "law", desc := "(IIIIII)Z", sig := { parameters := [.int, .int, .int, .int, .int, .int], returnType := some .boolean }, accessFlags := 9, code := some k1c1 }
def k1c2 : Code := { maxStack := 2, maxLocals := 2, code := method_3_code, exceptionTable := #[], attributes := #[] }
def k1m2 : Method := { name := "cp", desc := "(I)I", sig := { parameters := [.int], returnType := some .int }, accessFlags := 10, code := some k1c2 }
def k1c3 : Code := { maxStack := 2, maxLocals := 1, code := method_4_code, exceptionTable := #[], attributes := #[] }
def k1m3 : Method := { name := "width", desc := "(I)I", sig := { parameters := [.int], returnType := some .int }, accessFlags := 10, code := some k1c3 }
def k1c4 : Code := { maxStack := 3, maxLocals := 1, code := method_5_code, exceptionTable := #[], attributes := #[] }
def k1m4 : Method := { name := "firstUnit", desc := "(I)C", sig := { parameters := [.int], returnType := some .char }, accessFlags := 10, code := some k1c4 }
def k1c5 : Code := { maxStack := 3, maxLocals := 1, code := method_6_code, exceptionTable := #[], attributes := #[] }
def k1m5 : Method := { name := "secondUnit", desc := "(I)C", sig := { parameters := [.int], returnType := some .char }, accessFlags := 10, code := some k1c5 }
def k1c6 : Code := { maxStack := 6, maxLocals := 9, code := method_7_code, exceptionTable := #[], attributes := #[] }
def k1m6 : Method := { name := "str", desc := "(III)Ljava/lang/String;", sig := { parameters := [.int, .int, .int], returnType := some (.object "java/lang/String") }, accessFlags := 10, code := some k1c6 }
def k1c7 : Code := { maxStack := 1, maxLocals := 1, code := method_8_code, exceptionTable := #[], attributes := #[] }
def k1m7 : Method := { name := "sign", desc := "(I)I", sig := { parameters := [.int], returnType := some .int }, accessFlags := 10, code := some k1c7 }
def k1c8 : Code := { maxStack := 2, maxLocals := 6, code := method_9_code, exceptionTable := #[], attributes := #[] }
def k1m8 : Method := { name := "reference", desc := "(IIIIII)I", sig := { parameters := [.int, .int, .int, .int, .int, .int], returnType := some .int }, accessFlags := 10, code := some k1c8 }
/-- com/example/stamp2/stamp2/version/RowFormatCompareStringsPinLaw -/
def k1 : Class := { plain "com/example/stamp2/stamp2/version/RowFormatCompareStringsPinLaw" (some 0) with
  accessFlags := 49
  interfaces := #[]
  cf := some (fileOf pool1 8 #[] #[{ accessFlags := 1, nameIndex := 5, descriptorIndex := 6, attributes := #[] }, { accessFlags := 9, nameIndex := 52, descriptorIndex := 53, attributes := #[] }, { accessFlags := 10, nameIndex := 11, descriptorIndex := 12, attributes := #[] }, { accessFlags := 10, nameIndex := 49, descriptorIndex := 12, attributes := #[] }, { accessFlags := 10, nameIndex := 42, descriptorIndex := 43, attributes := #[] }, { accessFlags := 10, nameIndex := 46, descriptorIndex := 43, attributes := #[] }, { accessFlags := 10, nameIndex := 16, descriptorIndex := 17, attributes := #[] }, { accessFlags := 10, nameIndex := 26, descriptorIndex := 12, attributes := #[] }, { accessFlags := 10, nameIndex := 29, descriptorIndex := 30, attributes := #[] }] 49 2 #[] #[])
  fields := #[]
  methods := #[k1m0, k1m1, k1m2, k1m3, k1m4, k1m5, k1m6, k1m7, k1m8]
  instanceTypes := #[]
  staticTypes := #[]
  resolved := Array.replicate 57 none
  statics := none }

def pool2 : Array CpInfo := pool [(1, .class_ 2), (0, u "java/io/Serializable"), (0, .class_ 4), (0, u "java/lang/Object")] 2

/-- java/io/Serializable -/
def k2 : Class := { plain "java/io/Serializable" (some 0) with
  accessFlags := 1537
  interfaces := #[]
  cf := some (fileOf pool2 1 #[] #[] 1537 3 #[] #[])
  fields := #[]
  methods := #[]
  instanceTypes := #[]
  staticTypes := #[]
  resolved := Array.replicate 7 none
  statics := none }

def pool3 : Array CpInfo := pool [(1, .class_ 2), (0, u "java/lang/Comparable"), (0, .class_ 4), (0, u "java/lang/Object")] 7

/-- java/lang/Comparable -/
def k3 : Class := { plain "java/lang/Comparable" (some 0) with
  accessFlags := 1537
  interfaces := #[]
  cf := some (fileOf pool3 1 #[] #[] 1537 3 #[] #[])
  fields := #[]
  methods := #[]
  instanceTypes := #[]
  staticTypes := #[]
  resolved := Array.replicate 12 none
  statics := none }

def pool4 : Array CpInfo := pool [(2, .class_ 4), (1, u "java/lang/CharSequence"), (42, .class_ 48), (0, u "java/lang/CharSequence$1CodePointIterator"), (10, .class_ 60), (0, u "java/lang/CharSequence$1CharIterator"), (5, .class_ 67), (0, u "java/lang/Object")] 63

/-- java/lang/CharSequence -/
def k4 : Class := { plain "java/lang/CharSequence" (some 0) with
  accessFlags := 1537
  interfaces := #[]
  cf := some (fileOf pool4 2 #[.nestMembers #[47, 59]] #[] 1537 66 #[] #[])
  fields := #[]
  methods := #[]
  instanceTypes := #[]
  staticTypes := #[]
  resolved := Array.replicate 131 none
  statics := none }

def pool5 : Array CpInfo := pool [(1, .class_ 2), (0, u "java/lang/constant/Constable"), (0, .class_ 4), (0, u "java/lang/Object")] 6

/-- java/lang/constant/Constable -/
def k5 : Class := { plain "java/lang/constant/Constable" (some 0) with
  accessFlags := 1537
  interfaces := #[]
  cf := some (fileOf pool5 1 #[] #[] 1537 3 #[] #[])
  fields := #[]
  methods := #[]
  instanceTypes := #[]
  staticTypes := #[]
  resolved := Array.replicate 11 none
  statics := none }

def pool6 : Array CpInfo := pool [(1, .class_ 2), (0, u "java/lang/constant/ConstantDesc"), (0, .class_ 4), (0, u "java/lang/Object")] 32

/-- java/lang/constant/ConstantDesc -/
def k6 : Class := { plain "java/lang/constant/ConstantDesc" (some 0) with
  accessFlags := 1537
  interfaces := #[]
  cf := some (fileOf pool6 1 #[] #[] 1537 3 #[] #[])
  fields := #[]
  methods := #[]
  instanceTypes := #[]
  staticTypes := #[]
  resolved := Array.replicate 37 none
  statics := none }

def pool7 : Array CpInfo := pool [(1, .methodref 2 3), (0, .class_ 4), (0, .nameAndType 5 6), (0, u "java/lang/Object"), (0, u "<init>"), (0, u "()V"), (0, .string 8), (0, u ""), (0, .fieldref 10 11), (0, .class_ 12), (0, .nameAndType 13 14), (0, u "java/lang/String"), (0, u "value"), (0, u "[B"), (0, .fieldref 10 16), (0, .nameAndType 17 18), (0, u "coder"), (0, u "B"), (2, u "hash"), (0, u "I"), (2, u "hashIsZero"), (0, u "Z"), (0, .methodref 10 28), (0, .nameAndType 5 29), (0, u "([CIILjava/lang/Void;)V"), (8, .fieldref 10 39), (0, .nameAndType 40 26), (0, u "COMPACT_STRINGS"), (1, .class_ 44), (1, u "java/lang/StringUTF16"), (0, u "compress"), (1, .methodref 42 48), (0, .nameAndType 49 50), (0, u "coderFromArrayLen"), (0, u "([BI)B"), (56, .class_ 109), (1, u "java/lang/StringLatin1"), (32, u "()Z"), (34, .methodref 42 178), (0, .nameAndType 45 179), (0, u "([CII)[B"), (154, u "()I"), (0, .methodref 10 336), (0, .nameAndType 17 337), (0, u "()B"), (25, u "([BI)C"), (27, u "(II)V"), (35, u "(I)C"), (64, .methodref 10 493), (0, .nameAndType 494 142), (0, u "isLatin1"), (0, .methodref 107 496), (0, .nameAndType 497 363), (0, u "charAt"), (0, .methodref 42 496), (2, u "checkIndex"), (5, u "length"), (67, .class_ 576), (0, u "java/lang/CharSequence"), (22, u "CASE_INSENSITIVE_ORDER"), (0, u "Ljava/util/Comparator;"), (409, u "([C)V"), (42, .fieldref 1054 1055), (0, .class_ 1056), (0, .nameAndType 1057 1058), (0, u "jdk/internal/util/Preconditions"), (0, u "SIOOBE_FORMATTER"), (0, u "Ljava/util/function/BiFunction;"), (0, .methodref 1054 1060), (0, .nameAndType 501 1061), (0, u "(IILjava/util/function/BiFunction;)I"), (39, u "serialPersistentFields"), (0, u "[Ljava/io/ObjectStreamField;"), (0, .class_ 1104), (0, u "java/lang/String$CaseInsensitiveComparator"), (1, .class_ 1107), (0, u "java/io/Serializable"), (0, .class_ 1109), (0, u "java/lang/Comparable"), (0, .class_ 1111), (0, u "java/lang/constant/Constable"), (0, .class_ 1113), (0, u "java/lang/constant/ConstantDesc"), (2, u "serialVersionUID"), (0, u "J"), (3, u "REPL"), (0, u "C"), (2, u "LATIN1"), (1, u "UTF16")] 323

def k7m0 : Method := { name := "<init>", desc := "()V", sig := { parameters := [], returnType := none }, accessFlags := 1, code := none }
def k7c1 : Code := { maxStack := 5, maxLocals := 2, code := jdk_42_method_3_code, exceptionTable := #[], attributes := #[] }
def k7m1 : Method := { name := "<init>", desc := "([C)V", sig := { parameters := [(.array .char)], returnType := none }, accessFlags := 1, code := some k7c1 }
def k7c2 : Code := { maxStack := 2, maxLocals := 1, code := jdk_42_method_54_code, exceptionTable := #[], attributes := #[] }
def k7m2 : Method := { name := "length", desc := "()I", sig := { parameters := [], returnType := some .int }, accessFlags := 1, code := some k7c2 }
def k7c3 : Code := { maxStack := 2, maxLocals := 2, code := jdk_42_method_56_code, exceptionTable := #[], attributes := #[] }
def k7m3 : Method := { name := "charAt", desc := "(I)C", sig := { parameters := [.int], returnType := some .char }, accessFlags := 1, code := some k7c3 }
def k7c4 : Code := { maxStack := 4, maxLocals := 6, code := jdk_42_method_149_code, exceptionTable := #[], attributes := #[] }
def k7m4 : Method := { name := "<init>", desc := "([CIILjava/lang/Void;)V", sig := { parameters := [(.array .char), .int, .int, (.object "java/lang/Void")], returnType := none }, accessFlags := 2, code := some k7c4 }
def k7c5 : Code := { maxStack := 1, maxLocals := 1, code := jdk_42_method_152_code, exceptionTable := #[], attributes := #[] }
def k7m5 : Method := { name := "coder", desc := "()B", sig := { parameters := [], returnType := some .byte }, accessFlags := 0, code := some k7c5 }
def k7c6 : Code := { maxStack := 1, maxLocals := 1, code := jdk_42_method_154_code, exceptionTable := #[], attributes := #[] }
def k7m6 : Method := { name := "isLatin1", desc := "()Z", sig := { parameters := [], returnType := some .boolean }, accessFlags := 0, code := some k7c6 }
def k7c7 : Code := { maxStack := 3, maxLocals := 2, code := jdk_42_method_155_code, exceptionTable := #[], attributes := #[] }
def k7m7 : Method := { name := "checkIndex", desc := "(II)V", sig := { parameters := [.int, .int], returnType := none }, accessFlags := 8, code := some k7c7 }
/-- java/lang/String -/
def k7 : Class := { plain "java/lang/String" (some 0) with
  accessFlags := 49
  interfaces := #[2, 3, 4, 5, 6]
  cf := some (fileOf pool7 10 #[.nestMembers #[1103]] #[{ accessFlags := 1, nameIndex := 5, descriptorIndex := 6, attributes := #[] }, { accessFlags := 1, nameIndex := 5, descriptorIndex := 1010, attributes := #[] }, { accessFlags := 1, nameIndex := 507, descriptorIndex := 334, attributes := #[] }, { accessFlags := 1, nameIndex := 497, descriptorIndex := 427, attributes := #[] }, { accessFlags := 2, nameIndex := 5, descriptorIndex := 29, attributes := #[] }, { accessFlags := 0, nameIndex := 17, descriptorIndex := 337, attributes := #[] }, { accessFlags := 0, nameIndex := 494, descriptorIndex := 142, attributes := #[] }, { accessFlags := 8, nameIndex := 501, descriptorIndex := 391, attributes := #[] }] 49 2 #[1106, 1108, 575, 1110, 1112] #[{ accessFlags := 18, nameIndex := 13, descriptorIndex := 14, attributes := #[] }, { accessFlags := 18, nameIndex := 17, descriptorIndex := 18, attributes := #[] }, { accessFlags := 2, nameIndex := 21, descriptorIndex := 22, attributes := #[] }, { accessFlags := 2, nameIndex := 25, descriptorIndex := 26, attributes := #[] }, { accessFlags := 26, nameIndex := 1116, descriptorIndex := 1117, attributes := #[] }, { accessFlags := 24, nameIndex := 40, descriptorIndex := 26, attributes := #[] }, { accessFlags := 26, nameIndex := 1101, descriptorIndex := 1102, attributes := #[] }, { accessFlags := 26, nameIndex := 1121, descriptorIndex := 1122, attributes := #[] }, { accessFlags := 25, nameIndex := 599, descriptorIndex := 600, attributes := #[] }, { accessFlags := 24, nameIndex := 1125, descriptorIndex := 18, attributes := #[] }, { accessFlags := 24, nameIndex := 1127, descriptorIndex := 18, attributes := #[] }])
  fields := #[{ name := "value", type := (.array .byte), accessFlags := 18, slot := 0, constantValue := 0 }, { name := "coder", type := .byte, accessFlags := 18, slot := 1, constantValue := 0 }, { name := "hash", type := .int, accessFlags := 2, slot := 2, constantValue := 0 }, { name := "hashIsZero", type := .boolean, accessFlags := 2, slot := 3, constantValue := 0 }, { name := "serialVersionUID", type := .long, accessFlags := 26, slot := 0, constantValue := 0 }, { name := "COMPACT_STRINGS", type := .boolean, accessFlags := 24, slot := 1, constantValue := 0 }, { name := "serialPersistentFields", type := (.array (.object "java/io/ObjectStreamField")), accessFlags := 26, slot := 2, constantValue := 0 }, { name := "REPL", type := .char, accessFlags := 26, slot := 3, constantValue := 0 }, { name := "CASE_INSENSITIVE_ORDER", type := (.object "java/util/Comparator"), accessFlags := 25, slot := 4, constantValue := 0 }, { name := "LATIN1", type := .byte, accessFlags := 24, slot := 5, constantValue := 0 }, { name := "UTF16", type := .byte, accessFlags := 24, slot := 6, constantValue := 0 }]
  methods := #[k7m0, k7m1, k7m2, k7m3, k7m4, k7m5, k7m6, k7m7]
  instanceTypes := #[(.array .byte), .byte, .int, .boolean]
  staticTypes := #[.long, .boolean, (.array (.object "java/io/ObjectStreamField")), .char, (.object "java/util/Comparator"), .byte, .byte]
  resolved := Array.replicate 1451 none
  statics := some 0 }

def pool8 : Array CpInfo := pool [(1, .class_ 2), (0, u "java/lang/Integer"), (1, .class_ 6), (1, u "java/lang/Object"), (12, .class_ 21), (1, u "com/example/stamp2/stamp2/version/RowFormat"), (0, u "kinds"), (0, u "[B"), (2, u "nullBits"), (0, u "[I"), (2, u "places"), (6, u "nullBitBytes"), (0, u "I"), (2, u "integers"), (2, u "strings"), (2, u "mostUnits"), (2, u "shortUnits"), (1, .methodref 53 54), (0, .class_ 55), (0, .nameAndType 56 57), (0, u "java/lang/Math"), (0, u "min"), (0, u "(II)I"), (4, u "stringsFrom"), (0, .class_ 64), (0, u "java/lang/String"), (11, .methodref 63 77), (0, .nameAndType 78 79), (0, u "length"), (0, u "()I"), (21, .class_ 103), (1, u "com/example/stamp2/stamp2/version/RowFormat$Room"), (8, .methodref 63 113), (0, .nameAndType 114 115), (0, u "charAt"), (0, u "(I)C"), (15, u "INT"), (0, u "Ljava/lang/invoke/VarHandle;"), (8, u "LONG"), (48, .class_ 191), (0, u "com/example/stamp2/stamp2/version/RowFormat$Match"), (7, u "compare"), (1, .methodref 1 202), (0, .nameAndType 199 57), (7, .methodref 19 211), (0, .nameAndType 212 213), (0, u "codePointRank"), (0, u "(C)I"), (42, u "CHAR"), (10, .integer 57344), (0, .integer 55296), (25, u "MAX_BYTES"), (2, u "INT32"), (0, u "B"), (1, u "INT64"), (1, u "STRING"), (1, u "MOST_HEADER_BYTES"), (1, u "ONE_BYTE_HEADER_UNITS"), (1, u "FIRST_ROOM"), (1, u "MOST_ROOM"), (30, u "compareStrings"), (0, u "(Ljava/lang/String;Ljava/lang/String;)I")] 25

def k8c0 : Code := { maxStack := 2, maxLocals := 6, code := prog_50_method_16_code, exceptionTable := #[], attributes := #[] }
def k8m0 : Method := { name := "compareStrings", desc := "(Ljava/lang/String;Ljava/lang/String;)I", sig := { parameters := [(.object "java/lang/String"), (.object "java/lang/String")], returnType := some .int }, accessFlags := 9, code := some k8c0 }
def k8c1 : Code := { maxStack := 2, maxLocals := 2, code := prog_50_method_27_code, exceptionTable := #[], attributes := #[] }
def k8m1 : Method := { name := "codePointRank", desc := "(C)I", sig := { parameters := [.char], returnType := some .int }, accessFlags := 10, code := some k8c1 }
/-- com/example/stamp2/stamp2/version/RowFormat -/
def k8 : Class := { plain "com/example/stamp2/stamp2/version/RowFormat" (some 0) with
  accessFlags := 49
  interfaces := #[]
  cf := some (fileOf pool8 19 #[.nestMembers #[190, 101]] #[{ accessFlags := 9, nameIndex := 341, descriptorIndex := 342, attributes := #[] }, { accessFlags := 10, nameIndex := 212, descriptorIndex := 213, attributes := #[] }] 49 4 #[] #[{ accessFlags := 25, nameIndex := 294, descriptorIndex := 38, attributes := #[] }, { accessFlags := 26, nameIndex := 131, descriptorIndex := 132, attributes := #[] }, { accessFlags := 26, nameIndex := 141, descriptorIndex := 132, attributes := #[] }, { accessFlags := 26, nameIndex := 256, descriptorIndex := 132, attributes := #[] }, { accessFlags := 26, nameIndex := 297, descriptorIndex := 298, attributes := #[] }, { accessFlags := 26, nameIndex := 300, descriptorIndex := 298, attributes := #[] }, { accessFlags := 26, nameIndex := 302, descriptorIndex := 298, attributes := #[] }, { accessFlags := 26, nameIndex := 304, descriptorIndex := 38, attributes := #[] }, { accessFlags := 26, nameIndex := 306, descriptorIndex := 38, attributes := #[] }, { accessFlags := 26, nameIndex := 308, descriptorIndex := 38, attributes := #[] }, { accessFlags := 26, nameIndex := 310, descriptorIndex := 38, attributes := #[] }, { accessFlags := 18, nameIndex := 22, descriptorIndex := 23, attributes := #[] }, { accessFlags := 18, nameIndex := 26, descriptorIndex := 27, attributes := #[] }, { accessFlags := 18, nameIndex := 30, descriptorIndex := 27, attributes := #[] }, { accessFlags := 18, nameIndex := 41, descriptorIndex := 27, attributes := #[] }, { accessFlags := 18, nameIndex := 44, descriptorIndex := 27, attributes := #[] }, { accessFlags := 18, nameIndex := 37, descriptorIndex := 38, attributes := #[] }, { accessFlags := 18, nameIndex := 62, descriptorIndex := 38, attributes := #[] }, { accessFlags := 18, nameIndex := 47, descriptorIndex := 27, attributes := #[] }, { accessFlags := 18, nameIndex := 50, descriptorIndex := 27, attributes := #[] }])
  fields := #[{ name := "MAX_BYTES", type := .int, accessFlags := 25, slot := 0, constantValue := 0 }, { name := "INT", type := (.object "java/lang/invoke/VarHandle"), accessFlags := 26, slot := 1, constantValue := 0 }, { name := "LONG", type := (.object "java/lang/invoke/VarHandle"), accessFlags := 26, slot := 2, constantValue := 0 }, { name := "CHAR", type := (.object "java/lang/invoke/VarHandle"), accessFlags := 26, slot := 3, constantValue := 0 }, { name := "INT32", type := .byte, accessFlags := 26, slot := 4, constantValue := 0 }, { name := "INT64", type := .byte, accessFlags := 26, slot := 5, constantValue := 0 }, { name := "STRING", type := .byte, accessFlags := 26, slot := 6, constantValue := 0 }, { name := "MOST_HEADER_BYTES", type := .int, accessFlags := 26, slot := 7, constantValue := 0 }, { name := "ONE_BYTE_HEADER_UNITS", type := .int, accessFlags := 26, slot := 8, constantValue := 0 }, { name := "FIRST_ROOM", type := .int, accessFlags := 26, slot := 9, constantValue := 0 }, { name := "MOST_ROOM", type := .int, accessFlags := 26, slot := 10, constantValue := 0 }, { name := "kinds", type := (.array .byte), accessFlags := 18, slot := 0, constantValue := 0 }, { name := "nullBits", type := (.array .int), accessFlags := 18, slot := 1, constantValue := 0 }, { name := "places", type := (.array .int), accessFlags := 18, slot := 2, constantValue := 0 }, { name := "integers", type := (.array .int), accessFlags := 18, slot := 3, constantValue := 0 }, { name := "strings", type := (.array .int), accessFlags := 18, slot := 4, constantValue := 0 }, { name := "nullBitBytes", type := .int, accessFlags := 18, slot := 5, constantValue := 0 }, { name := "stringsFrom", type := .int, accessFlags := 18, slot := 6, constantValue := 0 }, { name := "mostUnits", type := (.array .int), accessFlags := 18, slot := 7, constantValue := 0 }, { name := "shortUnits", type := (.array .int), accessFlags := 18, slot := 8, constantValue := 0 }]
  methods := #[k8m0, k8m1]
  instanceTypes := #[(.array .byte), (.array .int), (.array .int), (.array .int), (.array .int), .int, .int, (.array .int), (.array .int)]
  staticTypes := #[.int, (.object "java/lang/invoke/VarHandle"), (.object "java/lang/invoke/VarHandle"), (.object "java/lang/invoke/VarHandle"), .byte, .byte, .byte, .int, .int, .int, .int]
  resolved := Array.replicate 368 none
  statics := none }

def pool9 : Array CpInfo := pool [(1, .class_ 2), (0, u "java/lang/Math"), (1, .class_ 6), (1, u "java/lang/Object"), (0, u "<init>"), (0, u "()V"), (89, .class_ 100), (1, u "java/lang/Math$RandomNumberGeneratorHolder"), (71, u "negativeZeroFloatBits"), (0, u "J"), (2, u "negativeZeroDoubleBits"), (24, u "min"), (43, u "$assertionsDisabled"), (0, u "Z"), (88, u "(II)I"), (2, u "twoToTheDoubleScaleDown"), (0, u "D"), (4, u "twoToTheDoubleScaleUp"), (9, u "E"), (3, u "PI"), (2, u "TAU"), (2, u "DEGREES_TO_RADIANS"), (0, u "RADIANS_TO_DEGREES")] 94

def k9m0 : Method := { name := "<init>", desc := "()V", sig := { parameters := [], returnType := none }, accessFlags := 2, code := none }
def k9c1 : Code := { maxStack := 2, maxLocals := 2, code := jdk_29_method_69_code, exceptionTable := #[], attributes := #[] }
def k9m1 : Method := { name := "min", desc := "(II)I", sig := { parameters := [.int, .int], returnType := some .int }, accessFlags := 9, code := some k9c1 }
/-- java/lang/Math -/
def k9 : Class := { plain "java/lang/Math" (some 0) with
  accessFlags := 49
  interfaces := #[]
  cf := some (fileOf pool9 1 #[.nestMembers #[98]] #[{ accessFlags := 2, nameIndex := 7, descriptorIndex := 8, attributes := #[] }, { accessFlags := 9, nameIndex := 201, descriptorIndex := 335, attributes := #[] }] 49 4 #[] #[{ accessFlags := 25, nameIndex := 354, descriptorIndex := 339, attributes := #[] }, { accessFlags := 25, nameIndex := 358, descriptorIndex := 339, attributes := #[] }, { accessFlags := 25, nameIndex := 361, descriptorIndex := 339, attributes := #[] }, { accessFlags := 26, nameIndex := 364, descriptorIndex := 339, attributes := #[] }, { accessFlags := 26, nameIndex := 365, descriptorIndex := 339, attributes := #[] }, { accessFlags := 26, nameIndex := 172, descriptorIndex := 173, attributes := #[] }, { accessFlags := 26, nameIndex := 176, descriptorIndex := 173, attributes := #[] }, { accessFlags := 8, nameIndex := 344, descriptorIndex := 339, attributes := #[] }, { accessFlags := 8, nameIndex := 338, descriptorIndex := 339, attributes := #[] }, { accessFlags := 4120, nameIndex := 245, descriptorIndex := 246, attributes := #[] }])
  fields := #[{ name := "E", type := .double, accessFlags := 25, slot := 0, constantValue := 0 }, { name := "PI", type := .double, accessFlags := 25, slot := 1, constantValue := 0 }, { name := "TAU", type := .double, accessFlags := 25, slot := 2, constantValue := 0 }, { name := "DEGREES_TO_RADIANS", type := .double, accessFlags := 26, slot := 3, constantValue := 0 }, { name := "RADIANS_TO_DEGREES", type := .double, accessFlags := 26, slot := 4, constantValue := 0 }, { name := "negativeZeroFloatBits", type := .long, accessFlags := 26, slot := 5, constantValue := 0 }, { name := "negativeZeroDoubleBits", type := .long, accessFlags := 26, slot := 6, constantValue := 0 }, { name := "twoToTheDoubleScaleUp", type := .double, accessFlags := 8, slot := 7, constantValue := 0 }, { name := "twoToTheDoubleScaleDown", type := .double, accessFlags := 8, slot := 8, constantValue := 0 }, { name := "$assertionsDisabled", type := .boolean, accessFlags := 4120, slot := 9, constantValue := 0 }]
  methods := #[k9m0, k9m1]
  instanceTypes := #[]
  staticTypes := #[.double, .double, .double, .double, .double, .long, .long, .double, .double, .boolean]
  resolved := Array.replicate 460 none
  statics := none }

def pool10 : Array CpInfo := pool [(2, .class_ 4), (1, u "java/lang/Object"), (0, u "<init>"), (0, u "()V"), (1, .class_ 10), (1, u "java/lang/Number"), (2, .class_ 14), (0, u "java/io/Serializable"), (0, u "serialVersionUID"), (0, u "J")] 20

def k10m0 : Method := { name := "<init>", desc := "()V", sig := { parameters := [], returnType := none }, accessFlags := 1, code := none }
/-- java/lang/Number -/
def k10 : Class := { plain "java/lang/Number" (some 0) with
  accessFlags := 1057
  interfaces := #[2]
  cf := some (fileOf pool10 8 #[] #[{ accessFlags := 1, nameIndex := 5, descriptorIndex := 6, attributes := #[] }] 1057 2 #[13] #[{ accessFlags := 26, nameIndex := 15, descriptorIndex := 16, attributes := #[] }])
  fields := #[{ name := "serialVersionUID", type := .long, accessFlags := 26, slot := 0, constantValue := 0 }]
  methods := #[k10m0]
  instanceTypes := #[]
  staticTypes := #[.long]
  resolved := Array.replicate 37 none
  statics := none }

def pool11 : Array CpInfo := pool [(1, .class_ 2), (0, u "java/lang/Integer"), (16, u "digits"), (0, u "[C"), (39, u "(II)I"), (24, u "DigitOnes"), (0, u "[B"), (2, u "DigitTens"), (99, .class_ 190), (0, u "java/lang/Integer$IntegerCache"), (3, u "I"), (8, .class_ 204), (0, u "java/lang/Number"), (2, u "value"), (53, u "compare"), (40, u "TYPE"), (0, u "Ljava/lang/Class;"), (0, .class_ 305), (0, u "java/lang/Comparable"), (0, .class_ 307), (0, u "java/lang/constant/Constable"), (0, .class_ 309), (0, u "java/lang/constant/ConstantDesc"), (0, u "MIN_VALUE"), (1, u "MAX_VALUE"), (3, u "SIZE"), (1, u "BYTES"), (1, u "serialVersionUID"), (0, u "J")] 131

def k11c0 : Code := { maxStack := 2, maxLocals := 2, code := jdk_33_method_40_code, exceptionTable := #[], attributes := #[] }
def k11m0 : Method := { name := "compare", desc := "(II)I", sig := { parameters := [.int, .int], returnType := some .int }, accessFlags := 9, code := some k11c0 }
/-- java/lang/Integer -/
def k11 : Class := { plain "java/lang/Integer" (some 10) with
  accessFlags := 49
  interfaces := #[3, 5, 6]
  cf := some (fileOf pool11 1 #[.nestMembers #[189]] #[{ accessFlags := 9, nameIndex := 261, descriptorIndex := 60, attributes := #[] }] 49 203 #[304, 306, 308] #[{ accessFlags := 25, nameIndex := 310, descriptorIndex := 194, attributes := #[] }, { accessFlags := 25, nameIndex := 312, descriptorIndex := 194, attributes := #[] }, { accessFlags := 25, nameIndex := 302, descriptorIndex := 303, attributes := #[] }, { accessFlags := 24, nameIndex := 19, descriptorIndex := 20, attributes := #[] }, { accessFlags := 24, nameIndex := 89, descriptorIndex := 86, attributes := #[] }, { accessFlags := 24, nameIndex := 85, descriptorIndex := 86, attributes := #[] }, { accessFlags := 18, nameIndex := 207, descriptorIndex := 194, attributes := #[] }, { accessFlags := 25, nameIndex := 316, descriptorIndex := 194, attributes := #[] }, { accessFlags := 25, nameIndex := 318, descriptorIndex := 194, attributes := #[] }, { accessFlags := 26, nameIndex := 320, descriptorIndex := 321, attributes := #[] }])
  fields := #[{ name := "MIN_VALUE", type := .int, accessFlags := 25, slot := 0, constantValue := 0 }, { name := "MAX_VALUE", type := .int, accessFlags := 25, slot := 1, constantValue := 0 }, { name := "TYPE", type := (.object "java/lang/Class"), accessFlags := 25, slot := 2, constantValue := 0 }, { name := "digits", type := (.array .char), accessFlags := 24, slot := 3, constantValue := 0 }, { name := "DigitTens", type := (.array .byte), accessFlags := 24, slot := 4, constantValue := 0 }, { name := "DigitOnes", type := (.array .byte), accessFlags := 24, slot := 5, constantValue := 0 }, { name := "value", type := .int, accessFlags := 18, slot := 0, constantValue := 0 }, { name := "SIZE", type := .int, accessFlags := 25, slot := 6, constantValue := 0 }, { name := "BYTES", type := .int, accessFlags := 25, slot := 7, constantValue := 0 }, { name := "serialVersionUID", type := .long, accessFlags := 26, slot := 8, constantValue := 0 }]
  methods := #[k11m0]
  instanceTypes := #[.int]
  staticTypes := #[.int, .int, (.object "java/lang/Class"), (.array .char), (.array .byte), (.array .byte), .int, .int, .long]
  resolved := Array.replicate 453 none
  statics := none }

def pool12 : Array CpInfo := pool [(3, .class_ 4), (0, u "java/lang/String"), (1, .class_ 8), (1, u "java/lang/Object"), (0, u "<init>"), (0, u "()V"), (0, .methodref 12 13), (0, .class_ 14), (0, .nameAndType 15 16), (0, u "java/lang/StringUTF16"), (0, u "newBytesLength"), (0, u "(I)I"), (3, .integer 1073741823), (23, .fieldref 12 45), (0, .nameAndType 46 47), (0, u "$assertionsDisabled"), (0, u "Z"), (0, .methodref 12 49), (0, .nameAndType 50 51), (0, u "length"), (0, u "([B)I"), (7, .fieldref 12 60), (0, .nameAndType 61 62), (0, u "HI_BYTE_SHIFT"), (0, u "I"), (0, .fieldref 12 64), (0, .nameAndType 65 62), (0, u "LO_BYTE_SHIFT"), (1, .methodref 12 68), (0, .nameAndType 69 70), (0, u "checkIndex"), (0, u "(I[B)V"), (0, .methodref 12 72), (0, .nameAndType 73 74), (0, u "getChar"), (0, u "([BI)C"), (32, .methodref 12 108), (0, .nameAndType 109 110), (0, u "newBytesFor"), (0, u "(I)[B"), (0, .methodref 12 112), (0, .nameAndType 113 114), (0, u "putChar"), (0, u "([BII)V"), (0, .methodref 12 116), (0, .nameAndType 117 118), (0, u "compress"), (0, u "([CI[BII)I"), (0, .methodref 12 120), (0, .nameAndType 121 122), (0, u "toBytes"), (0, u "([CII)[B"), (138, u "coderFromArrayLen"), (0, u "([BI)B"), (106, .class_ 371), (1, u "java/lang/StringUTF16$LinesSpliterator"), (20, u "charAt"), (21, .methodref 3 415), (0, .nameAndType 69 416), (0, u "(II)V"), (13, u "MAX_LENGTH"), (196, .class_ 628), (0, u "java/lang/StringUTF16$CodePointsSpliterator"), (0, .class_ 630), (0, u "java/lang/StringUTF16$CharsSpliterator")] 4

def k12m0 : Method := { name := "<init>", desc := "()V", sig := { parameters := [], returnType := none }, accessFlags := 0, code := none }
def k12c1 : Code := { maxStack := 1, maxLocals := 1, code := jdk_52_method_2_code, exceptionTable := #[], attributes := #[] }
def k12m1 : Method := { name := "newBytesFor", desc := "(I)[B", sig := { parameters := [.int], returnType := some (.array .byte) }, accessFlags := 9, code := some k12c1 }
def k12c2 : Code := { maxStack := 4, maxLocals := 1, code := jdk_52_method_3_code, exceptionTable := #[], attributes := #[] }
def k12m2 : Method := { name := "newBytesLength", desc := "(I)I", sig := { parameters := [.int], returnType := some .int }, accessFlags := 9, code := some k12c2 }
def k12c3 : Code := { maxStack := 4, maxLocals := 3, code := jdk_52_method_4_code, exceptionTable := #[], attributes := #[] }
def k12m3 : Method := { name := "putChar", desc := "([BII)V", sig := { parameters := [(.array .byte), .int, .int], returnType := none }, accessFlags := 8, code := some k12c3 }
def k12c4 : Code := { maxStack := 3, maxLocals := 2, code := jdk_52_method_5_code, exceptionTable := #[], attributes := #[] }
def k12m4 : Method := { name := "getChar", desc := "([BI)C", sig := { parameters := [(.array .byte), .int], returnType := some .char }, accessFlags := 8, code := some k12c4 }
def k12c5 : Code := { maxStack := 2, maxLocals := 1, code := jdk_52_method_6_code, exceptionTable := #[], attributes := #[] }
def k12m5 : Method := { name := "length", desc := "([B)I", sig := { parameters := [(.array .byte)], returnType := some .int }, accessFlags := 9, code := some k12c5 }
def k12c6 : Code := { maxStack := 4, maxLocals := 5, code := jdk_52_method_14_code, exceptionTable := #[], attributes := #[] }
def k12m6 : Method := { name := "toBytes", desc := "([CII)[B", sig := { parameters := [(.array .char), .int, .int], returnType := some (.array .byte) }, accessFlags := 9, code := some k12c6 }
def k12c7 : Code := { maxStack := 2, maxLocals := 2, code := jdk_52_method_15_code, exceptionTable := #[], attributes := #[] }
def k12m7 : Method := { name := "coderFromArrayLen", desc := "([BI)B", sig := { parameters := [(.array .byte), .int], returnType := some .byte }, accessFlags := 8, code := some k12c7 }
def k12c8 : Code := { maxStack := 5, maxLocals := 6, code := jdk_52_method_16_code, exceptionTable := #[], attributes := #[] }
def k12m8 : Method := { name := "compress", desc := "([CII)[B", sig := { parameters := [(.array .char), .int, .int], returnType := some (.array .byte) }, accessFlags := 9, code := some k12c8 }
def k12c9 : Code := { maxStack := 3, maxLocals := 7, code := jdk_52_method_21_code, exceptionTable := #[], attributes := #[] }
def k12m9 : Method := { name := "compress", desc := "([CI[BII)I", sig := { parameters := [(.array .char), .int, (.array .byte), .int, .int], returnType := some .int }, accessFlags := 9, code := some k12c9 }
def k12c10 : Code := { maxStack := 2, maxLocals := 2, code := jdk_52_method_83_code, exceptionTable := #[], attributes := #[] }
def k12m10 : Method := { name := "charAt", desc := "([BI)C", sig := { parameters := [(.array .byte), .int], returnType := some .char }, accessFlags := 9, code := some k12c10 }
def k12c11 : Code := { maxStack := 2, maxLocals := 2, code := jdk_52_method_91_code, exceptionTable := #[], attributes := #[] }
def k12m11 : Method := { name := "checkIndex", desc := "(I[B)V", sig := { parameters := [.int, (.array .byte)], returnType := none }, accessFlags := 9, code := some k12c11 }
/-- java/lang/StringUTF16 -/
def k12 : Class := { plain "java/lang/StringUTF16" (some 0) with
  accessFlags := 48
  interfaces := #[]
  cf := some (fileOf pool12 12 #[.nestMembers #[627, 629, 369]] #[{ accessFlags := 0, nameIndex := 9, descriptorIndex := 10, attributes := #[] }, { accessFlags := 9, nameIndex := 109, descriptorIndex := 110, attributes := #[] }, { accessFlags := 9, nameIndex := 15, descriptorIndex := 16, attributes := #[] }, { accessFlags := 8, nameIndex := 113, descriptorIndex := 114, attributes := #[] }, { accessFlags := 8, nameIndex := 73, descriptorIndex := 74, attributes := #[] }, { accessFlags := 9, nameIndex := 50, descriptorIndex := 51, attributes := #[] }, { accessFlags := 9, nameIndex := 121, descriptorIndex := 122, attributes := #[] }, { accessFlags := 8, nameIndex := 261, descriptorIndex := 262, attributes := #[] }, { accessFlags := 9, nameIndex := 117, descriptorIndex := 122, attributes := #[] }, { accessFlags := 9, nameIndex := 117, descriptorIndex := 118, attributes := #[] }, { accessFlags := 9, nameIndex := 392, descriptorIndex := 74, attributes := #[] }, { accessFlags := 9, nameIndex := 69, descriptorIndex := 70, attributes := #[] }] 48 6 #[] #[{ accessFlags := 26, nameIndex := 61, descriptorIndex := 62, attributes := #[] }, { accessFlags := 26, nameIndex := 65, descriptorIndex := 62, attributes := #[] }, { accessFlags := 24, nameIndex := 430, descriptorIndex := 62, attributes := #[] }, { accessFlags := 4120, nameIndex := 46, descriptorIndex := 47, attributes := #[] }])
  fields := #[{ name := "HI_BYTE_SHIFT", type := .int, accessFlags := 26, slot := 0, constantValue := 0 }, { name := "LO_BYTE_SHIFT", type := .int, accessFlags := 26, slot := 1, constantValue := 0 }, { name := "MAX_LENGTH", type := .int, accessFlags := 24, slot := 2, constantValue := 0 }, { name := "$assertionsDisabled", type := .boolean, accessFlags := 4120, slot := 3, constantValue := 0 }]
  methods := #[k12m0, k12m1, k12m2, k12m3, k12m4, k12m5, k12m6, k12m7, k12m8, k12m9, k12m10, k12m11]
  instanceTypes := #[]
  staticTypes := #[.int, .int, .int, .boolean]
  resolved := Array.replicate 635 none
  statics := some 1 }

def pool13 : Array CpInfo := pool [(1, .class_ 2), (0, u "java/lang/String"), (1, .class_ 6), (1, u "java/lang/Object"), (0, u "<init>"), (0, u "()V"), (0, .methodref 1 10), (0, .nameAndType 11 12), (0, u "checkIndex"), (0, u "(II)V"), (1, .class_ 16), (1, u "java/lang/StringLatin1"), (36, u "([BI)C"), (67, u "$assertionsDisabled"), (0, u "Z"), (98, .class_ 223), (1, u "java/lang/StringLatin1$LinesSpliterator"), (28, u "charAt"), (137, .class_ 391), (0, u "java/lang/StringLatin1$CharsSpliterator")] 3

def k13m0 : Method := { name := "<init>", desc := "()V", sig := { parameters := [], returnType := none }, accessFlags := 0, code := none }
def k13c1 : Code := { maxStack := 2, maxLocals := 2, code := jdk_43_method_2_code, exceptionTable := #[], attributes := #[] }
def k13m1 : Method := { name := "charAt", desc := "([BI)C", sig := { parameters := [(.array .byte), .int], returnType := some .char }, accessFlags := 9, code := some k13c1 }
/-- java/lang/StringLatin1 -/
def k13 : Class := { plain "java/lang/StringLatin1" (some 0) with
  accessFlags := 48
  interfaces := #[]
  cf := some (fileOf pool13 14 #[.nestMembers #[390, 221]] #[{ accessFlags := 0, nameIndex := 7, descriptorIndex := 8, attributes := #[] }, { accessFlags := 9, nameIndex := 252, descriptorIndex := 53, attributes := #[] }] 48 4 #[] #[{ accessFlags := 4120, nameIndex := 121, descriptorIndex := 122, attributes := #[] }])
  fields := #[{ name := "$assertionsDisabled", type := .boolean, accessFlags := 4120, slot := 0, constantValue := 0 }]
  methods := #[k13m0, k13m1]
  instanceTypes := #[]
  staticTypes := #[.boolean]
  resolved := Array.replicate 395 none
  statics := none }

def pool14 : Array CpInfo := pool [(2, .class_ 4), (1, u "java/lang/Object"), (0, u "<init>"), (0, u "()V"), (17, .class_ 26), (1, u "jdk/internal/util/Preconditions"), (6, u "checkIndex"), (21, .class_ 56), (0, u "jdk/internal/util/Preconditions$4"), (57, .class_ 115), (0, u "jdk/internal/util/Preconditions$1"), (7, u "SIOOBE_FORMATTER"), (0, u "Ljava/util/function/BiFunction;"), (0, .class_ 126), (0, u "jdk/internal/util/Preconditions$2"), (3, u "AIOOBE_FORMATTER"), (0, .class_ 132), (0, u "jdk/internal/util/Preconditions$3"), (3, u "IOOBE_FORMATTER"), (41, u "(IILjava/util/function/BiFunction;)I")] 15

def k14m0 : Method := { name := "<init>", desc := "()V", sig := { parameters := [], returnType := none }, accessFlags := 1, code := none }
def k14c1 : Code := { maxStack := 3, maxLocals := 3, code := jdk_41_method_11_code, exceptionTable := #[], attributes := #[] }
def k14m1 : Method := { name := "checkIndex", desc := "(IILjava/util/function/BiFunction;)I", sig := { parameters := [.int, .int, (.object "java/util/function/BiFunction")], returnType := some .int }, accessFlags := 9, code := some k14c1 }
/-- jdk/internal/util/Preconditions -/
def k14 : Class := { plain "jdk/internal/util/Preconditions" (some 0) with
  accessFlags := 33
  interfaces := #[]
  cf := some (fileOf pool14 24 #[.nestMembers #[55, 131, 125, 114]] #[{ accessFlags := 1, nameIndex := 5, descriptorIndex := 6, attributes := #[] }, { accessFlags := 9, nameIndex := 33, descriptorIndex := 178, attributes := #[] }] 33 2 #[] #[{ accessFlags := 25, nameIndex := 123, descriptorIndex := 124, attributes := #[] }, { accessFlags := 25, nameIndex := 130, descriptorIndex := 124, attributes := #[] }, { accessFlags := 25, nameIndex := 136, descriptorIndex := 124, attributes := #[] }])
  fields := #[{ name := "SIOOBE_FORMATTER", type := (.object "java/util/function/BiFunction"), accessFlags := 25, slot := 0, constantValue := 0 }, { name := "AIOOBE_FORMATTER", type := (.object "java/util/function/BiFunction"), accessFlags := 25, slot := 1, constantValue := 0 }, { name := "IOOBE_FORMATTER", type := (.object "java/util/function/BiFunction"), accessFlags := 25, slot := 2, constantValue := 0 }]
  methods := #[k14m0, k14m1]
  instanceTypes := #[]
  staticTypes := #[(.object "java/util/function/BiFunction"), (.object "java/util/function/BiFunction"), (.object "java/util/function/BiFunction")]
  resolved := Array.replicate 194 none
  statics := some 2 }

def pool15 : Array CpInfo := pool [(9, u "<init>"), (6, .class_ 18), (1, u "java/lang/Object"), (0, u "()V"), (1, .class_ 23), (1, u "jdk/internal/util/ArraysSupport"), (0, u "LOG2_ARRAY_LONG_INDEX_SCALE"), (0, u "I"), (2, u "U"), (0, u "Ljdk/internal/misc/Unsafe;"), (8, u "BIG_ENDIAN"), (0, u "Z"), (8, u "LOG2_BYTE_BIT_SIZE"), (4, u "LOG2_ARRAY_INT_INDEX_SCALE"), (54, u "JLA"), (0, u "Ljdk/internal/access/JavaLangAccess;"), (11, u "LOG2_ARRAY_BOOLEAN_INDEX_SCALE"), (9, u "LOG2_ARRAY_BYTE_INDEX_SCALE"), (5, u "LOG2_ARRAY_CHAR_INDEX_SCALE"), (5, u "LOG2_ARRAY_SHORT_INDEX_SCALE"), (18, u "LOG2_ARRAY_FLOAT_INDEX_SCALE"), (24, u "LOG2_ARRAY_DOUBLE_INDEX_SCALE"), (89, u "T_BOOLEAN"), (2, u "T_CHAR"), (1, u "T_FLOAT"), (1, u "T_DOUBLE"), (1, u "T_BYTE"), (1, u "T_SHORT"), (1, u "T_INT"), (1, u "T_LONG"), (1, u "SOFT_MAX_ARRAY_LENGTH")] 83

def k15m0 : Method := { name := "<init>", desc := "()V", sig := { parameters := [], returnType := none }, accessFlags := 2, code := none }
/-- jdk/internal/util/ArraysSupport -/
def k15 : Class := { plain "jdk/internal/util/ArraysSupport" (some 0) with
  accessFlags := 33
  interfaces := #[]
  cf := some (fileOf pool15 21 #[] #[{ accessFlags := 2, nameIndex := 9, descriptorIndex := 19, attributes := #[] }] 33 16 #[] #[{ accessFlags := 24, nameIndex := 28, descriptorIndex := 29, attributes := #[] }, { accessFlags := 26, nameIndex := 38, descriptorIndex := 39, attributes := #[] }, { accessFlags := 25, nameIndex := 121, descriptorIndex := 25, attributes := #[] }, { accessFlags := 25, nameIndex := 131, descriptorIndex := 25, attributes := #[] }, { accessFlags := 25, nameIndex := 137, descriptorIndex := 25, attributes := #[] }, { accessFlags := 25, nameIndex := 143, descriptorIndex := 25, attributes := #[] }, { accessFlags := 25, nameIndex := 53, descriptorIndex := 25, attributes := #[] }, { accessFlags := 25, nameIndex := 24, descriptorIndex := 25, attributes := #[] }, { accessFlags := 25, nameIndex := 162, descriptorIndex := 25, attributes := #[] }, { accessFlags := 25, nameIndex := 187, descriptorIndex := 25, attributes := #[] }, { accessFlags := 26, nameIndex := 48, descriptorIndex := 25, attributes := #[] }, { accessFlags := 25, nameIndex := 277, descriptorIndex := 25, attributes := #[] }, { accessFlags := 25, nameIndex := 280, descriptorIndex := 25, attributes := #[] }, { accessFlags := 25, nameIndex := 282, descriptorIndex := 25, attributes := #[] }, { accessFlags := 25, nameIndex := 284, descriptorIndex := 25, attributes := #[] }, { accessFlags := 25, nameIndex := 286, descriptorIndex := 25, attributes := #[] }, { accessFlags := 25, nameIndex := 288, descriptorIndex := 25, attributes := #[] }, { accessFlags := 25, nameIndex := 290, descriptorIndex := 25, attributes := #[] }, { accessFlags := 25, nameIndex := 292, descriptorIndex := 25, attributes := #[] }, { accessFlags := 26, nameIndex := 108, descriptorIndex := 109, attributes := #[] }, { accessFlags := 25, nameIndex := 294, descriptorIndex := 25, attributes := #[] }])
  fields := #[{ name := "U", type := (.object "jdk/internal/misc/Unsafe"), accessFlags := 24, slot := 0, constantValue := 0 }, { name := "BIG_ENDIAN", type := .boolean, accessFlags := 26, slot := 1, constantValue := 0 }, { name := "LOG2_ARRAY_BOOLEAN_INDEX_SCALE", type := .int, accessFlags := 25, slot := 2, constantValue := 0 }, { name := "LOG2_ARRAY_BYTE_INDEX_SCALE", type := .int, accessFlags := 25, slot := 3, constantValue := 0 }, { name := "LOG2_ARRAY_CHAR_INDEX_SCALE", type := .int, accessFlags := 25, slot := 4, constantValue := 0 }, { name := "LOG2_ARRAY_SHORT_INDEX_SCALE", type := .int, accessFlags := 25, slot := 5, constantValue := 0 }, { name := "LOG2_ARRAY_INT_INDEX_SCALE", type := .int, accessFlags := 25, slot := 6, constantValue := 0 }, { name := "LOG2_ARRAY_LONG_INDEX_SCALE", type := .int, accessFlags := 25, slot := 7, constantValue := 0 }, { name := "LOG2_ARRAY_FLOAT_INDEX_SCALE", type := .int, accessFlags := 25, slot := 8, constantValue := 0 }, { name := "LOG2_ARRAY_DOUBLE_INDEX_SCALE", type := .int, accessFlags := 25, slot := 9, constantValue := 0 }, { name := "LOG2_BYTE_BIT_SIZE", type := .int, accessFlags := 26, slot := 10, constantValue := 0 }, { name := "T_BOOLEAN", type := .int, accessFlags := 25, slot := 11, constantValue := 0 }, { name := "T_CHAR", type := .int, accessFlags := 25, slot := 12, constantValue := 0 }, { name := "T_FLOAT", type := .int, accessFlags := 25, slot := 13, constantValue := 0 }, { name := "T_DOUBLE", type := .int, accessFlags := 25, slot := 14, constantValue := 0 }, { name := "T_BYTE", type := .int, accessFlags := 25, slot := 15, constantValue := 0 }, { name := "T_SHORT", type := .int, accessFlags := 25, slot := 16, constantValue := 0 }, { name := "T_INT", type := .int, accessFlags := 25, slot := 17, constantValue := 0 }, { name := "T_LONG", type := .int, accessFlags := 25, slot := 18, constantValue := 0 }, { name := "JLA", type := (.object "jdk/internal/access/JavaLangAccess"), accessFlags := 26, slot := 19, constantValue := 0 }, { name := "SOFT_MAX_ARRAY_LENGTH", type := .int, accessFlags := 25, slot := 20, constantValue := 0 }]
  methods := #[k15m0]
  instanceTypes := #[]
  staticTypes := #[(.object "jdk/internal/misc/Unsafe"), .boolean, .int, .int, .int, .int, .int, .int, .int, .int, .int, .int, .int, .int, .int, .int, .int, .int, .int, (.object "jdk/internal/access/JavaLangAccess"), .int]
  resolved := Array.replicate 378 none
  statics := none }

def pool16 : Array CpInfo := pool [(1, u "java/lang/Cloneable"), (0, .class_ 1), (0, u "java/lang/Object"), (0, .class_ 3)] 3

/-- java/lang/Cloneable -/
def k16 : Class := { plain "java/lang/Cloneable" (some 0) with
  accessFlags := 1537
  interfaces := #[]
  cf := some (fileOf pool16 2 #[] #[] 1537 4 #[] #[])
  fields := #[]
  methods := #[]
  instanceTypes := #[]
  staticTypes := #[]
  resolved := Array.replicate 8 none
  statics := none }

/-- the primitive byte -/
def k17 : Class := { plain "byte" none with kind := .primitive 'B', accessFlags := 0x411 }
/-- [B -/
def k18 : Class := { plain "[B" (some 0) with kind := .array 17 .byte, interfaces := #[16, 2], accessFlags := 1041 }

/-- the primitive char -/
def k19 : Class := { plain "char" none with kind := .primitive 'C', accessFlags := 0x411 }
/-- [C -/
def k20 : Class := { plain "[C" (some 0) with kind := .array 19 .char, interfaces := #[16, 2], accessFlags := 1041 }

/-- the primitive int -/
def k21 : Class := { plain "int" none with kind := .primitive 'I', accessFlags := 0x411 }
/-- [I -/
def k22 : Class := { plain "[I" (some 0) with kind := .array 21 .int, interfaces := #[16, 2], accessFlags := 1041 }

def heap : Heap := #[{ cls := 7, slots := #[.long 0, .int 1, .null, .int 0, .null, .int 0, .int 0], vm := .statics 7 },
  { cls := 12, slots := #[.int 0, .int 8, .int 0, .int 1], vm := .statics 12 },
  { cls := 14, slots := #[.null, .null, .null], vm := .statics 14 }]
def classes : Array Class := #[k0, k1, k2, k3, k4, k5, k6, k7, k8, k9, k10, k11, k12, k13, k14, k15, k16, k17, k18, k19, k20, k21, k22]
def interned : List (Array UInt16 × Addr) := []
def slotsUsed : Nat := 14
def theMethod : MethodId := ⟨1, 1⟩
def args0 : Array Value := #[.int 65, .int 66, .int 67, .int 68, .int 4, .int 0]
def aboutOver (below : List Frame) : State where
  vm := { classes := classes, interned := interned.toArray }
  heap := heap
  slotsUsed := slotsUsed
  threads := #[{ frames := .invoking theMethod args0 :: below }]
def below0 : List Frame := [.native { method := ⟨0, 0⟩, args := #[] }]
def about1 : State := aboutOver below0
def p0 : Program := .bare "" "" ""
def e0 : Env := launch0.env 0 0 0
theorem w_frames : about1.frames = Frame.invoking theMethod args0 :: below0 := rfl
set_option maxRecDepth 65536 in
theorem w_args : argsFit about1.vm theMethod args0 = true := by decide +kernel
set_option maxRecDepth 65536 in
theorem w_heap : heapFits about1 = true := by decide +kernel
set_option maxRecDepth 65536 in
theorem w_runnable : about1.curStatus? = some .runnable := by decide +kernel
set_option maxRecDepth 65536 in
theorem w_alone : about1.alone = true := by decide +kernel
set_option maxRecDepth 65536 in
theorem w_named : about1.methodNamed? x = some theMethod := by decide +kernel
set_option maxRecDepth 65536 in
theorem w_hears : about1.hears theMethod below0 = true := by decide +kernel
set_option maxRecDepth 65536 in
theorem w_ripe : about1.ripe theMethod args0 below0 = true := by decide +kernel
theorem w_running : about1.status = .running := rfl
set_option maxRecDepth 65536 in
theorem w_room : about1.hasRoom e0.platform room_1 = true :=
  launch0.hasRoom_least _ room_1 (by decide +kernel) (by decide +kernel) (by decide +kernel) (by decide +kernel) (by decide +kernel) (by decide +kernel)
theorem allAtoms_all (ts : List Jvm.Cond) (a : Array Jvm.Value) (st : Jvm.State) : (allAtoms ts).before a st = ts.all (fun c => c.before a st) := by
  induction ts with
  | nil => rfl
  | cons c t ih =>
    show (Jvm.Cond.and c (allAtoms t)).before a st = _
    rw [Jvm.Cond.before_and, ih, List.all_cons]
def words1 : List Jvm.Cond := Jvm.Cond.code x code maxLocals ret :: tables_1
/-- a 'code' word, met by the world's own term for the bytes: nothing is compared byte by byte -/
theorem code_word {y : MethodName} {bytes : ByteArray} {mx : Nat} {rt : Option FieldType} {a : Array Value} {s : State} {m : MethodId} {meth : Method} {c : Code} (h1 : s.methodNamed? y = some m) (h2 : s.vm.method? m = some meth) (h3 : meth.code = some c) (h4 : c.code = bytes)
    (h5 : (c.maxLocals == mx && c.exceptionTable.isEmpty && decide (c.maxStack ≤ mostOperands) && decide (meth.sig.returnType = rt) && !meth.locks && decide (parseMethodDescriptor y.desc = some meth.sig)) = true) : (Jvm.Cond.code y bytes mx rt).before a s = true := by
  simp only [Bool.and_eq_true, beq_iff_eq, Bool.not_eq_true', decide_eq_true_eq] at h5
  obtain ⟨⟨⟨⟨⟨g1, g2⟩, g3⟩, g4⟩, g5⟩, g6⟩ := h5
  simp [Cond.before, Cond.holds, Cond.value, h1, h2, h3, h4, g1, g2, g3, g4, g5, g6]
def isCode : Jvm.Cond → Bool
  | .code _ _ _ _ => true
  | _ => false
theorem all_split {L : List Jvm.Cond} {P : Jvm.Cond → Bool} (h1 : L.all (fun c => isCode c || P c) = true) (h2 : ∀ c ∈ L.filter isCode, P c = true) : L.all P = true := by
  refine List.all_eq_true.mpr fun c hc => ?_
  have h := List.all_eq_true.mp h1 c hc
  rcases Bool.eq_false_or_eq_true (isCode c) with hi | hi
  · exact h2 c (List.mem_filter.mpr ⟨hc, hi⟩)
  · simpa [hi] using h
set_option maxRecDepth 65536 in
theorem w_c0 : (Jvm.Cond.code x code maxLocals ret).before args0 about1 = true := code_word (m := ⟨1, 1⟩) (meth := k1m1) (c := k1c1) (by decide +kernel) rfl rfl rfl (by decide +kernel)
set_option maxRecDepth 65536 in
theorem w_c1 : (Jvm.Cond.code ({ cls := "com/example/stamp2/stamp2/version/RowFormatCompareStringsPinLaw", name := "cp", desc := "(I)I" } : Jvm.MethodName) method_3_code (2 : Nat) (Option.some Jvm.ClassFile.FieldType.int)).before args0 about1 = true := code_word (m := ⟨1, 2⟩) (meth := k1m2) (c := k1c2) (by decide +kernel) rfl rfl rfl (by decide +kernel)
set_option maxRecDepth 65536 in
theorem w_c2 : (Jvm.Cond.code ({ cls := "com/example/stamp2/stamp2/version/RowFormatCompareStringsPinLaw", name := "str", desc := "(III)Ljava/lang/String;" } : Jvm.MethodName) method_7_code (9 : Nat) (Option.some (Jvm.ClassFile.FieldType.object "java/lang/String"))).before args0 about1 = true := code_word (m := ⟨1, 6⟩) (meth := k1m6) (c := k1c6) (by decide +kernel) rfl rfl rfl (by decide +kernel)
set_option maxRecDepth 65536 in
theorem w_c3 : (Jvm.Cond.code ({ cls := "java/lang/String", name := "<init>", desc := "([C)V" } : Jvm.MethodName) jdk_42_method_3_code (2 : Nat) (Option.none : Option Jvm.ClassFile.FieldType)).before args0 about1 = true := code_word (m := ⟨7, 1⟩) (meth := k7m1) (c := k7c1) (by decide +kernel) rfl rfl rfl (by decide +kernel)
set_option maxRecDepth 65536 in
theorem w_c4 : (Jvm.Cond.code ({ cls := "java/lang/String", name := "<init>", desc := "([CIILjava/lang/Void;)V" } : Jvm.MethodName) jdk_42_method_149_code (6 : Nat) (Option.none : Option Jvm.ClassFile.FieldType)).before args0 about1 = true := code_word (m := ⟨7, 4⟩) (meth := k7m4) (c := k7c4) (by decide +kernel) rfl rfl rfl (by decide +kernel)
set_option maxRecDepth 65536 in
theorem w_c5 : (Jvm.Cond.code ({ cls := "java/lang/Object", name := "<init>", desc := "()V" } : Jvm.MethodName) object_method_1_code (1 : Nat) (Option.none : Option Jvm.ClassFile.FieldType)).before args0 about1 = true := code_word (m := ⟨0, 0⟩) (meth := k0m0) (c := k0c0) (by decide +kernel) rfl rfl rfl (by decide +kernel)
set_option maxRecDepth 65536 in
theorem w_c6 : (Jvm.Cond.code ({ cls := "com/example/stamp2/stamp2/version/RowFormat", name := "compareStrings", desc := "(Ljava/lang/String;Ljava/lang/String;)I" } : Jvm.MethodName) prog_50_method_16_code (6 : Nat) (Option.some Jvm.ClassFile.FieldType.int)).before args0 about1 = true := code_word (m := ⟨8, 0⟩) (meth := k8m0) (c := k8c0) (by decide +kernel) rfl rfl rfl (by decide +kernel)
set_option maxRecDepth 65536 in
theorem w_c7 : (Jvm.Cond.code ({ cls := "java/lang/String", name := "length", desc := "()I" } : Jvm.MethodName) jdk_42_method_54_code (1 : Nat) (Option.some Jvm.ClassFile.FieldType.int)).before args0 about1 = true := code_word (m := ⟨7, 2⟩) (meth := k7m2) (c := k7c2) (by decide +kernel) rfl rfl rfl (by decide +kernel)
set_option maxRecDepth 65536 in
theorem w_c8 : (Jvm.Cond.code ({ cls := "java/lang/String", name := "coder", desc := "()B" } : Jvm.MethodName) jdk_42_method_152_code (1 : Nat) (Option.some Jvm.ClassFile.FieldType.byte)).before args0 about1 = true := code_word (m := ⟨7, 5⟩) (meth := k7m5) (c := k7c5) (by decide +kernel) rfl rfl rfl (by decide +kernel)
set_option maxRecDepth 65536 in
theorem w_c9 : (Jvm.Cond.code ({ cls := "java/lang/Math", name := "min", desc := "(II)I" } : Jvm.MethodName) jdk_29_method_69_code (2 : Nat) (Option.some Jvm.ClassFile.FieldType.int)).before args0 about1 = true := code_word (m := ⟨9, 1⟩) (meth := k9m1) (c := k9c1) (by decide +kernel) rfl rfl rfl (by decide +kernel)
set_option maxRecDepth 65536 in
theorem w_c10 : (Jvm.Cond.code ({ cls := "java/lang/Integer", name := "compare", desc := "(II)I" } : Jvm.MethodName) jdk_33_method_40_code (2 : Nat) (Option.some Jvm.ClassFile.FieldType.int)).before args0 about1 = true := code_word (m := ⟨11, 0⟩) (meth := k11m0) (c := k11c0) (by decide +kernel) rfl rfl rfl (by decide +kernel)
set_option maxRecDepth 65536 in
theorem w_c11 : (Jvm.Cond.code ({ cls := "com/example/stamp2/stamp2/version/RowFormatCompareStringsPinLaw", name := "sign", desc := "(I)I" } : Jvm.MethodName) method_8_code (1 : Nat) (Option.some Jvm.ClassFile.FieldType.int)).before args0 about1 = true := code_word (m := ⟨1, 7⟩) (meth := k1m7) (c := k1c7) (by decide +kernel) rfl rfl rfl (by decide +kernel)
set_option maxRecDepth 65536 in
theorem w_c12 : (Jvm.Cond.code ({ cls := "com/example/stamp2/stamp2/version/RowFormatCompareStringsPinLaw", name := "reference", desc := "(IIIIII)I" } : Jvm.MethodName) method_9_code (6 : Nat) (Option.some Jvm.ClassFile.FieldType.int)).before args0 about1 = true := code_word (m := ⟨1, 8⟩) (meth := k1m8) (c := k1c8) (by decide +kernel) rfl rfl rfl (by decide +kernel)
set_option maxRecDepth 65536 in
theorem w_c13 : (Jvm.Cond.code ({ cls := "com/example/stamp2/stamp2/version/RowFormatCompareStringsPinLaw", name := "firstUnit", desc := "(I)C" } : Jvm.MethodName) method_5_code (1 : Nat) (Option.some Jvm.ClassFile.FieldType.char)).before args0 about1 = true := code_word (m := ⟨1, 4⟩) (meth := k1m4) (c := k1c4) (by decide +kernel) rfl rfl rfl (by decide +kernel)
set_option maxRecDepth 65536 in
theorem w_c14 : (Jvm.Cond.code ({ cls := "com/example/stamp2/stamp2/version/RowFormatCompareStringsPinLaw", name := "secondUnit", desc := "(I)C" } : Jvm.MethodName) method_6_code (1 : Nat) (Option.some Jvm.ClassFile.FieldType.char)).before args0 about1 = true := code_word (m := ⟨1, 5⟩) (meth := k1m5) (c := k1c5) (by decide +kernel) rfl rfl rfl (by decide +kernel)
set_option maxRecDepth 65536 in
theorem w_c15 : (Jvm.Cond.code ({ cls := "com/example/stamp2/stamp2/version/RowFormatCompareStringsPinLaw", name := "width", desc := "(I)I" } : Jvm.MethodName) method_4_code (1 : Nat) (Option.some Jvm.ClassFile.FieldType.int)).before args0 about1 = true := code_word (m := ⟨1, 3⟩) (meth := k1m3) (c := k1c3) (by decide +kernel) rfl rfl rfl (by decide +kernel)
set_option maxRecDepth 65536 in
theorem w_c16 : (Jvm.Cond.code ({ cls := "java/lang/StringUTF16", name := "compress", desc := "([CII)[B" } : Jvm.MethodName) jdk_52_method_16_code (6 : Nat) (Option.some (Jvm.ClassFile.FieldType.array Jvm.ClassFile.FieldType.byte))).before args0 about1 = true := code_word (m := ⟨12, 8⟩) (meth := k12m8) (c := k12c8) (by decide +kernel) rfl rfl rfl (by decide +kernel)
set_option maxRecDepth 65536 in
theorem w_c17 : (Jvm.Cond.code ({ cls := "java/lang/StringUTF16", name := "compress", desc := "([CI[BII)I" } : Jvm.MethodName) jdk_52_method_21_code (7 : Nat) (Option.some Jvm.ClassFile.FieldType.int)).before args0 about1 = true := code_word (m := ⟨12, 9⟩) (meth := k12m9) (c := k12c9) (by decide +kernel) rfl rfl rfl (by decide +kernel)
set_option maxRecDepth 65536 in
theorem w_c18 : (Jvm.Cond.code ({ cls := "java/lang/StringUTF16", name := "coderFromArrayLen", desc := "([BI)B" } : Jvm.MethodName) jdk_52_method_15_code (2 : Nat) (Option.some Jvm.ClassFile.FieldType.byte)).before args0 about1 = true := code_word (m := ⟨12, 7⟩) (meth := k12m7) (c := k12c7) (by decide +kernel) rfl rfl rfl (by decide +kernel)
set_option maxRecDepth 65536 in
theorem w_c19 : (Jvm.Cond.code ({ cls := "java/lang/String", name := "charAt", desc := "(I)C" } : Jvm.MethodName) jdk_42_method_56_code (2 : Nat) (Option.some Jvm.ClassFile.FieldType.char)).before args0 about1 = true := code_word (m := ⟨7, 3⟩) (meth := k7m3) (c := k7c3) (by decide +kernel) rfl rfl rfl (by decide +kernel)
set_option maxRecDepth 65536 in
theorem w_c20 : (Jvm.Cond.code ({ cls := "java/lang/String", name := "isLatin1", desc := "()Z" } : Jvm.MethodName) jdk_42_method_154_code (1 : Nat) (Option.some Jvm.ClassFile.FieldType.boolean)).before args0 about1 = true := code_word (m := ⟨7, 6⟩) (meth := k7m6) (c := k7c6) (by decide +kernel) rfl rfl rfl (by decide +kernel)
set_option maxRecDepth 65536 in
theorem w_c21 : (Jvm.Cond.code ({ cls := "java/lang/StringLatin1", name := "charAt", desc := "([BI)C" } : Jvm.MethodName) jdk_43_method_2_code (2 : Nat) (Option.some Jvm.ClassFile.FieldType.char)).before args0 about1 = true := code_word (m := ⟨13, 1⟩) (meth := k13m1) (c := k13c1) (by decide +kernel) rfl rfl rfl (by decide +kernel)
set_option maxRecDepth 65536 in
theorem w_c22 : (Jvm.Cond.code ({ cls := "java/lang/String", name := "checkIndex", desc := "(II)V" } : Jvm.MethodName) jdk_42_method_155_code (2 : Nat) (Option.none : Option Jvm.ClassFile.FieldType)).before args0 about1 = true := code_word (m := ⟨7, 7⟩) (meth := k7m7) (c := k7c7) (by decide +kernel) rfl rfl rfl (by decide +kernel)
set_option maxRecDepth 65536 in
theorem w_c23 : (Jvm.Cond.code ({ cls := "jdk/internal/util/Preconditions", name := "checkIndex", desc := "(IILjava/util/function/BiFunction;)I" } : Jvm.MethodName) jdk_41_method_11_code (3 : Nat) (Option.some Jvm.ClassFile.FieldType.int)).before args0 about1 = true := code_word (m := ⟨14, 1⟩) (meth := k14m1) (c := k14c1) (by decide +kernel) rfl rfl rfl (by decide +kernel)
set_option maxRecDepth 65536 in
theorem w_c24 : (Jvm.Cond.code ({ cls := "com/example/stamp2/stamp2/version/RowFormat", name := "codePointRank", desc := "(C)I" } : Jvm.MethodName) prog_50_method_27_code (2 : Nat) (Option.some Jvm.ClassFile.FieldType.int)).before args0 about1 = true := code_word (m := ⟨8, 1⟩) (meth := k8m1) (c := k8c1) (by decide +kernel) rfl rfl rfl (by decide +kernel)
set_option maxRecDepth 65536 in
theorem w_c25 : (Jvm.Cond.code ({ cls := "java/lang/StringUTF16", name := "toBytes", desc := "([CII)[B" } : Jvm.MethodName) jdk_52_method_14_code (5 : Nat) (Option.some (Jvm.ClassFile.FieldType.array Jvm.ClassFile.FieldType.byte))).before args0 about1 = true := code_word (m := ⟨12, 6⟩) (meth := k12m6) (c := k12c6) (by decide +kernel) rfl rfl rfl (by decide +kernel)
set_option maxRecDepth 65536 in
theorem w_c26 : (Jvm.Cond.code ({ cls := "java/lang/StringUTF16", name := "newBytesFor", desc := "(I)[B" } : Jvm.MethodName) jdk_52_method_2_code (1 : Nat) (Option.some (Jvm.ClassFile.FieldType.array Jvm.ClassFile.FieldType.byte))).before args0 about1 = true := code_word (m := ⟨12, 1⟩) (meth := k12m1) (c := k12c1) (by decide +kernel) rfl rfl rfl (by decide +kernel)
set_option maxRecDepth 65536 in
theorem w_c27 : (Jvm.Cond.code ({ cls := "java/lang/StringUTF16", name := "newBytesLength", desc := "(I)I" } : Jvm.MethodName) jdk_52_method_3_code (1 : Nat) (Option.some Jvm.ClassFile.FieldType.int)).before args0 about1 = true := code_word (m := ⟨12, 2⟩) (meth := k12m2) (c := k12c2) (by decide +kernel) rfl rfl rfl (by decide +kernel)
set_option maxRecDepth 65536 in
theorem w_c28 : (Jvm.Cond.code ({ cls := "java/lang/StringUTF16", name := "putChar", desc := "([BII)V" } : Jvm.MethodName) jdk_52_method_4_code (3 : Nat) (Option.none : Option Jvm.ClassFile.FieldType)).before args0 about1 = true := code_word (m := ⟨12, 3⟩) (meth := k12m3) (c := k12c3) (by decide +kernel) rfl rfl rfl (by decide +kernel)
set_option maxRecDepth 65536 in
theorem w_c29 : (Jvm.Cond.code ({ cls := "java/lang/StringUTF16", name := "getChar", desc := "([BI)C" } : Jvm.MethodName) jdk_52_method_5_code (2 : Nat) (Option.some Jvm.ClassFile.FieldType.char)).before args0 about1 = true := code_word (m := ⟨12, 4⟩) (meth := k12m4) (c := k12c4) (by decide +kernel) rfl rfl rfl (by decide +kernel)
set_option maxRecDepth 65536 in
theorem w_c30 : (Jvm.Cond.code ({ cls := "java/lang/StringUTF16", name := "charAt", desc := "([BI)C" } : Jvm.MethodName) jdk_52_method_83_code (2 : Nat) (Option.some Jvm.ClassFile.FieldType.char)).before args0 about1 = true := code_word (m := ⟨12, 10⟩) (meth := k12m10) (c := k12c10) (by decide +kernel) rfl rfl rfl (by decide +kernel)
set_option maxRecDepth 65536 in
theorem w_c31 : (Jvm.Cond.code ({ cls := "java/lang/StringUTF16", name := "checkIndex", desc := "(I[B)V" } : Jvm.MethodName) jdk_52_method_91_code (2 : Nat) (Option.none : Option Jvm.ClassFile.FieldType)).before args0 about1 = true := code_word (m := ⟨12, 11⟩) (meth := k12m11) (c := k12c11) (by decide +kernel) rfl rfl rfl (by decide +kernel)
set_option maxRecDepth 65536 in
theorem w_c32 : (Jvm.Cond.code ({ cls := "java/lang/StringUTF16", name := "length", desc := "([B)I" } : Jvm.MethodName) jdk_52_method_6_code (1 : Nat) (Option.some Jvm.ClassFile.FieldType.int)).before args0 about1 = true := code_word (m := ⟨12, 5⟩) (meth := k12m5) (c := k12c5) (by decide +kernel) rfl rfl rfl (by decide +kernel)
def codes1 : List Jvm.Cond := [Jvm.Cond.code x code maxLocals ret, Jvm.Cond.code ({ cls := "com/example/stamp2/stamp2/version/RowFormatCompareStringsPinLaw", name := "cp", desc := "(I)I" } : Jvm.MethodName) method_3_code (2 : Nat) (Option.some Jvm.ClassFile.FieldType.int), Jvm.Cond.code ({ cls := "com/example/stamp2/stamp2/version/RowFormatCompareStringsPinLaw", name := "str", desc := "(III)Ljava/lang/String;" } : Jvm.MethodName) method_7_code (9 : Nat) (Option.some (Jvm.ClassFile.FieldType.object "java/lang/String")), Jvm.Cond.code ({ cls := "java/lang/String", name := "<init>", desc := "([C)V" } : Jvm.MethodName) jdk_42_method_3_code (2 : Nat) (Option.none : Option Jvm.ClassFile.FieldType), Jvm.Cond.code ({ cls := "java/lang/String", name := "<init>", desc := "([CIILjava/lang/Void;)V" } : Jvm.MethodName) jdk_42_method_149_code (6 : Nat) (Option.none : Option Jvm.ClassFile.FieldType), Jvm.Cond.code ({ cls := "java/lang/Object", name := "<init>", desc := "()V" } : Jvm.MethodName) object_method_1_code (1 : Nat) (Option.none : Option Jvm.ClassFile.FieldType), Jvm.Cond.code ({ cls := "com/example/stamp2/stamp2/version/RowFormat", name := "compareStrings", desc := "(Ljava/lang/String;Ljava/lang/String;)I" } : Jvm.MethodName) prog_50_method_16_code (6 : Nat) (Option.some Jvm.ClassFile.FieldType.int), Jvm.Cond.code ({ cls := "java/lang/String", name := "length", desc := "()I" } : Jvm.MethodName) jdk_42_method_54_code (1 : Nat) (Option.some Jvm.ClassFile.FieldType.int), Jvm.Cond.code ({ cls := "java/lang/String", name := "coder", desc := "()B" } : Jvm.MethodName) jdk_42_method_152_code (1 : Nat) (Option.some Jvm.ClassFile.FieldType.byte), Jvm.Cond.code ({ cls := "java/lang/Math", name := "min", desc := "(II)I" } : Jvm.MethodName) jdk_29_method_69_code (2 : Nat) (Option.some Jvm.ClassFile.FieldType.int), Jvm.Cond.code ({ cls := "java/lang/Integer", name := "compare", desc := "(II)I" } : Jvm.MethodName) jdk_33_method_40_code (2 : Nat) (Option.some Jvm.ClassFile.FieldType.int), Jvm.Cond.code ({ cls := "com/example/stamp2/stamp2/version/RowFormatCompareStringsPinLaw", name := "sign", desc := "(I)I" } : Jvm.MethodName) method_8_code (1 : Nat) (Option.some Jvm.ClassFile.FieldType.int), Jvm.Cond.code ({ cls := "com/example/stamp2/stamp2/version/RowFormatCompareStringsPinLaw", name := "reference", desc := "(IIIIII)I" } : Jvm.MethodName) method_9_code (6 : Nat) (Option.some Jvm.ClassFile.FieldType.int), Jvm.Cond.code ({ cls := "com/example/stamp2/stamp2/version/RowFormatCompareStringsPinLaw", name := "firstUnit", desc := "(I)C" } : Jvm.MethodName) method_5_code (1 : Nat) (Option.some Jvm.ClassFile.FieldType.char), Jvm.Cond.code ({ cls := "com/example/stamp2/stamp2/version/RowFormatCompareStringsPinLaw", name := "secondUnit", desc := "(I)C" } : Jvm.MethodName) method_6_code (1 : Nat) (Option.some Jvm.ClassFile.FieldType.char), Jvm.Cond.code ({ cls := "com/example/stamp2/stamp2/version/RowFormatCompareStringsPinLaw", name := "width", desc := "(I)I" } : Jvm.MethodName) method_4_code (1 : Nat) (Option.some Jvm.ClassFile.FieldType.int), Jvm.Cond.code ({ cls := "java/lang/StringUTF16", name := "compress", desc := "([CII)[B" } : Jvm.MethodName) jdk_52_method_16_code (6 : Nat) (Option.some (Jvm.ClassFile.FieldType.array Jvm.ClassFile.FieldType.byte)), Jvm.Cond.code ({ cls := "java/lang/StringUTF16", name := "compress", desc := "([CI[BII)I" } : Jvm.MethodName) jdk_52_method_21_code (7 : Nat) (Option.some Jvm.ClassFile.FieldType.int), Jvm.Cond.code ({ cls := "java/lang/StringUTF16", name := "coderFromArrayLen", desc := "([BI)B" } : Jvm.MethodName) jdk_52_method_15_code (2 : Nat) (Option.some Jvm.ClassFile.FieldType.byte), Jvm.Cond.code ({ cls := "java/lang/String", name := "charAt", desc := "(I)C" } : Jvm.MethodName) jdk_42_method_56_code (2 : Nat) (Option.some Jvm.ClassFile.FieldType.char), Jvm.Cond.code ({ cls := "java/lang/String", name := "isLatin1", desc := "()Z" } : Jvm.MethodName) jdk_42_method_154_code (1 : Nat) (Option.some Jvm.ClassFile.FieldType.boolean), Jvm.Cond.code ({ cls := "java/lang/StringLatin1", name := "charAt", desc := "([BI)C" } : Jvm.MethodName) jdk_43_method_2_code (2 : Nat) (Option.some Jvm.ClassFile.FieldType.char), Jvm.Cond.code ({ cls := "java/lang/String", name := "checkIndex", desc := "(II)V" } : Jvm.MethodName) jdk_42_method_155_code (2 : Nat) (Option.none : Option Jvm.ClassFile.FieldType), Jvm.Cond.code ({ cls := "jdk/internal/util/Preconditions", name := "checkIndex", desc := "(IILjava/util/function/BiFunction;)I" } : Jvm.MethodName) jdk_41_method_11_code (3 : Nat) (Option.some Jvm.ClassFile.FieldType.int), Jvm.Cond.code ({ cls := "com/example/stamp2/stamp2/version/RowFormat", name := "codePointRank", desc := "(C)I" } : Jvm.MethodName) prog_50_method_27_code (2 : Nat) (Option.some Jvm.ClassFile.FieldType.int), Jvm.Cond.code ({ cls := "java/lang/StringUTF16", name := "toBytes", desc := "([CII)[B" } : Jvm.MethodName) jdk_52_method_14_code (5 : Nat) (Option.some (Jvm.ClassFile.FieldType.array Jvm.ClassFile.FieldType.byte)), Jvm.Cond.code ({ cls := "java/lang/StringUTF16", name := "newBytesFor", desc := "(I)[B" } : Jvm.MethodName) jdk_52_method_2_code (1 : Nat) (Option.some (Jvm.ClassFile.FieldType.array Jvm.ClassFile.FieldType.byte)), Jvm.Cond.code ({ cls := "java/lang/StringUTF16", name := "newBytesLength", desc := "(I)I" } : Jvm.MethodName) jdk_52_method_3_code (1 : Nat) (Option.some Jvm.ClassFile.FieldType.int), Jvm.Cond.code ({ cls := "java/lang/StringUTF16", name := "putChar", desc := "([BII)V" } : Jvm.MethodName) jdk_52_method_4_code (3 : Nat) (Option.none : Option Jvm.ClassFile.FieldType), Jvm.Cond.code ({ cls := "java/lang/StringUTF16", name := "getChar", desc := "([BI)C" } : Jvm.MethodName) jdk_52_method_5_code (2 : Nat) (Option.some Jvm.ClassFile.FieldType.char), Jvm.Cond.code ({ cls := "java/lang/StringUTF16", name := "charAt", desc := "([BI)C" } : Jvm.MethodName) jdk_52_method_83_code (2 : Nat) (Option.some Jvm.ClassFile.FieldType.char), Jvm.Cond.code ({ cls := "java/lang/StringUTF16", name := "checkIndex", desc := "(I[B)V" } : Jvm.MethodName) jdk_52_method_91_code (2 : Nat) (Option.none : Option Jvm.ClassFile.FieldType), Jvm.Cond.code ({ cls := "java/lang/StringUTF16", name := "length", desc := "([B)I" } : Jvm.MethodName) jdk_52_method_6_code (1 : Nat) (Option.some Jvm.ClassFile.FieldType.int)]
set_option maxRecDepth 65536 in
theorem codes_eq : words1.filter isCode = codes1 := rfl
theorem w_codes : ∀ c ∈ words1.filter isCode, c.before args0 about1 = true := by
  rw [codes_eq]
  intro c hc
  simp only [codes1, List.mem_cons, List.not_mem_nil, or_false] at hc
  rcases hc with rfl | rfl | rfl | rfl | rfl | rfl | rfl | rfl | rfl | rfl | rfl | rfl | rfl | rfl | rfl | rfl | rfl | rfl | rfl | rfl | rfl | rfl | rfl | rfl | rfl | rfl | rfl | rfl | rfl | rfl | rfl | rfl | rfl
  · exact w_c0
  · exact w_c1
  · exact w_c2
  · exact w_c3
  · exact w_c4
  · exact w_c5
  · exact w_c6
  · exact w_c7
  · exact w_c8
  · exact w_c9
  · exact w_c10
  · exact w_c11
  · exact w_c12
  · exact w_c13
  · exact w_c14
  · exact w_c15
  · exact w_c16
  · exact w_c17
  · exact w_c18
  · exact w_c19
  · exact w_c20
  · exact w_c21
  · exact w_c22
  · exact w_c23
  · exact w_c24
  · exact w_c25
  · exact w_c26
  · exact w_c27
  · exact w_c28
  · exact w_c29
  · exact w_c30
  · exact w_c31
  · exact w_c32
set_option maxRecDepth 65536 in
theorem w_t1 : (words1.take 24).all (fun c => isCode c || c.before args0 about1) = true := by decide +kernel
set_option maxRecDepth 65536 in
theorem w_t2 : ((words1.drop 24).take 24).all (fun c => isCode c || c.before args0 about1) = true := by decide +kernel
set_option maxRecDepth 65536 in
theorem w_t3 : (((words1.drop 24).drop 24).take 24).all (fun c => isCode c || c.before args0 about1) = true := by decide +kernel
set_option maxRecDepth 65536 in
theorem w_t4 : ((((words1.drop 24).drop 24).drop 24).take 24).all (fun c => isCode c || c.before args0 about1) = true := by decide +kernel
set_option maxRecDepth 65536 in
theorem w_t5 : (((((words1.drop 24).drop 24).drop 24).drop 24).take 24).all (fun c => isCode c || c.before args0 about1) = true := by decide +kernel
set_option maxRecDepth 65536 in
theorem w_t6 : (((((words1.drop 24).drop 24).drop 24).drop 24).drop 24).all (fun c => isCode c || c.before args0 about1) = true := by decide +kernel
theorem w_tables : (allAtoms (Jvm.Cond.code x code maxLocals ret :: tables_1)).before args0 about1 = true := by
  rw [allAtoms_all]
  show words1.all (fun c => c.before args0 about1) = true
  refine all_split ?_ w_codes
  rw [← List.take_append_drop 24 words1, List.all_append, w_t1, ← List.take_append_drop 24 (words1.drop 24), List.all_append, w_t2, ← List.take_append_drop 24 ((words1.drop 24).drop 24), List.all_append, w_t3, ← List.take_append_drop 24 (((words1.drop 24).drop 24).drop 24), List.all_append, w_t4, ← List.take_append_drop 24 ((((words1.drop 24).drop 24).drop 24).drop 24), List.all_append, w_t5, w_t6]
  rfl
set_option maxRecDepth 65536 in
theorem w_rest : rest_1_c.before args0 about1 = true := by decide +kernel
set_option maxRecDepth 65536 in
theorem w_case : (Jvm.Cond.and given_1 narrow_1).before args0 about1 = true := by decide +kernel
set_option maxRecDepth 65536 in
theorem w_consts : constsHeld consts_1 about1 := Jvm.Lit.constsHeldB_iff.mp (by decide +kernel)
theorem w_applies : (headSpec (Jvm.Cond.code x code maxLocals ret :: tables_1) room_1).applies x e0.platform about1 = true :=
  (Spec.applies_iff w_frames).mpr ⟨w_running, w_runnable, w_alone, w_named, w_hears, w_ripe, w_room, w_tables⟩
theorem atStart : AtStart classFile x code maxLocals ret World_1 tables_1 room_1 Calls_1 rest_1 Pre_1 launch0 p0 e0 about1 theMethod args0 below0 :=
  ⟨lists_1, trivial, launch0.admits_env _ _ _, launch0.least_env, fairChoices_fair.cas, fairChoices_fair.clock, w_frames, w_args, w_heap, w_applies, ⟨w_consts, trivial⟩, w_rest, w_case⟩
end start1
theorem witness_1 : WitnessClaimed_1 := ⟨start1.p0, start1.e0, start1.about1, start1.theMethod, start1.args0, start1.below0, start1.atStart⟩
end Jvm.Pilot.@@N@@
