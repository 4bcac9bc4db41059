import JvmDerived
import JvmDerived.Pilot.@@N@@Statement
import JvmDerived.Pilot.@@N@@Code
set_option linter.unusedVariables false
set_option linter.unusedSimpArgs false
@@BLOCK:LamKit.lean.txt@@
namespace Jvm.RoadKit
open Sem ClassFile Op Lib Jvm.Stand Jvm.Free Jvm.LawKit
section New
variable {p : Program} {l : Launch} {e : Env} {R : Room} {s : State} {m : MethodId} {args : Array Value} {below : List Frame} {meth : Method} {c : Code} {T : State} {locs : List Loc} {cells slots : Nat}
theorem retI (X : Stand p l e R s m args below meth c T locs cells slots) (hx : p.tables.exec = Jvm.exec) {pc : Nat} {Ls : Array Slot} {z : Int32} {rest : List Value} (hret : meth.sig.returnType = some .int) (hd : decode c.code pc = .ok (.ireturn, 1)) {fs : List Frame}
    (hl : ∀ (f : JFrame) (acts : List Action), f.method = m → f.locked = none → f.entered = [] → (doReturn e (T.setTop f) acts (some (.int z))).1 = T.setFrames fs) : Steps p.tables e below (T.setTop (mkF m pc Ls (.int z :: rest))) (T.setFrames fs) := by
  have hm' : T.vm.method? m = some meth := X.method'
  have hn : narrow .int (.int z) = .int z := rfl
  show Steps p.tables e below (T.setTop { method := m, pc := pc, locals := Ls, stack := _ :: rest, locked := none }) _
  jvm_step X.here [X.here.top, hx, hd, hm', hret, hn]
  first | (intro acts; rw [hl _ acts rfl rfl rfl]) | rw [hl _ _ rfl rfl rfl]
  exact Steps.refl _
end New
end Jvm.RoadKit
namespace Jvm.Pilot.@@N@@
open Jvm Jvm.ClassFile Sem Op Lib Jvm.Free Jvm.Stand Jvm.LawKit Jvm.RoadKit Bundle Jvm.Pilot.@@N@@.Jvm.D
/-! own: the rest of a run, told backwards; the contract of a body; steps and calls -/
section OwnBase
variable {p : Program} {l : Launch} {e : Env} {R : Room} {s : State} {m : MethodId} {args : Array Value} {below : List Frame} {meth : Method} {c : Code} {T : State} {locs : List Loc} {cells slots : Nat} {Z : State} {a0 : Array Value} {h : Heap} {bs : ByteArray} {pc q : Nat} {Ls : Array Slot} {S : List Value} {G : State → Prop}
abbrev PQ := Option Value → Heap → List Loc → Prop
def Cl (p : Program) (e : Env) (below : List Frame) (G : State → Prop) : Prop := ∀ (A B : State), (∀ t, Steps p.tables e below B t → Steps p.tables e below A t) → G B → G A
def Go (p : Program) (e : Env) (below : List Frame) (s : State) (C N : Nat) (Q : PQ) (A : State) : Prop :=
  ∃ s₂ o, Steps p.tables e below A s₂ ∧ s₂.status = .running ∧ Ended s₂ below o ∧ ∃ v L, o = .returned v ∧ Q v s₂.heap L ∧ FrameEnd s o s₂ L C N
theorem Go.cl {C N : Nat} {Q : PQ} : Cl p e below (Go p e below s C N Q) := fun A B k ⟨s2, o, h1, r⟩ => ⟨s2, o, k _ h1, r⟩
theorem Go.with {C N : Nat} {Q : PQ} {A : State} (k : Cl p e below (Go p e below s C N Q) → Go p e below s C N Q A) : Go p e below s C N Q A := k Go.cl
theorem Go.leave (X : Stand p l e R s m args below meth c T locs cells slots) {v : Option Value} (hv : meth.sig.returnType = none → v = none) (hlk : meth.locks = false) {C N : Nat} {Q : PQ} (hc : cells ≤ C) (hn : slots ≤ N) (q : Q v T.heap locs) {A : State}
    (k : ∀ fs, (∀ (f : JFrame) (acts : List Action), f.method = m → f.locked = none → f.entered = [] → (doReturn e (T.setTop f) acts v).1 = T.setFrames fs) → Steps p.tables e below A (T.setFrames fs)) : Go p e below s C N Q A := by
  obtain ⟨fs, hr, hrun, hended, hW, hsame⟩ := X.leave hv hlk
  exact ⟨_, _, k fs hr, hrun, hended, _, _, rfl, q, ⟨_, rfl⟩, hW, hsame.mono hc hn⟩
theorem Go.retI (X : Stand p l e R s m args below meth c T locs cells slots) (hx : p.tables.exec = Jvm.exec) (hby : c.code = bs) (hlk : meth.locks = false) {z : Int32} (hret : meth.sig.returnType = some .int) (hd : decode bs pc = .ok (.ireturn, 1)) {C N : Nat} {Q : PQ} (hc : cells ≤ C) (hn : slots ≤ N) (q : Q (some (.int z)) T.heap locs) :
    Go p e below s C N Q (T.setTop (mkF m pc Ls (.int z :: S))) :=
  Go.leave X (fun h => by rw [hret] at h; cases h) hlk hc hn q fun _ hr => Jvm.RoadKit.retI X hx hret (hb hby hd) hr
theorem Go.retN (X : Stand p l e R s m args below meth c T locs cells slots) (hx : p.tables.exec = Jvm.exec) (hby : c.code = bs) (hlk : meth.locks = false) {z : Int32} {t : FieldType} (hret : meth.sig.returnType = some t) (ht : t = .boolean ∨ t = .byte ∨ t = .char ∨ t = .short) (hd : decode bs pc = .ok (.ireturn, 1)) {C N : Nat} {Q : PQ} (hc : cells ≤ C) (hn : slots ≤ N) (hz : nar t z = z) (q : Q (some (.int z)) T.heap locs) :
    Go p e below s C N Q (T.setTop (mkF m pc Ls (.int z :: S))) :=
  Go.leave X (fun h => by rw [hret] at h; cases h) hlk hc hn q fun _ hr => Jvm.RoadKit.retN X hx hret ht (hb hby hd) (by rw [hz]; exact hr)
theorem Go.retV (X : Stand p l e R s m args below meth c T locs cells slots) (hx : p.tables.exec = Jvm.exec) (hby : c.code = bs) (hlk : meth.locks = false) (hret : meth.sig.returnType = none) (hd : decode bs pc = .ok (.return_, 1)) {C N : Nat} {Q : PQ} (hc : cells ≤ C) (hn : slots ≤ N) (q : Q none T.heap locs) :
    Go p e below s C N Q (T.setTop (mkF m pc Ls [])) :=
  Go.leave X (fun _ => rfl) hlk hc hn q fun _ hr => X.returnOut hx hret (hb hby hd) hr
theorem Go.retO (X : Stand p l e R s m args below meth c T locs cells slots) (hx : p.tables.exec = Jvm.exec) (hby : c.code = bs) (hlk : meth.locks = false) {w : Value} {t : FieldType} {i : Instr} (hret : meth.sig.returnType = some t) (hnw : narrow t w = w)
    (hi : (i = .ireturn ∧ (t = .int ∨ t = .boolean ∨ t = .byte ∨ t = .char ∨ t = .short) ∧ ∃ z, w = .int z) ∨ (i = .lreturn ∧ t = .long ∧ ∃ z, w = .long z) ∨ (i = .dreturn ∧ t = .double ∧ ∃ z, w = .double z) ∨ (i = .freturn ∧ t = .float ∧ ∃ z, w = .float z) ∨ (i = .areturn ∧ t.isReference = true ∧ w.isRef = true))
    (hd : decode bs pc = .ok (i, 1)) {C N : Nat} {Q : PQ} (hc : cells ≤ C) (hn : slots ≤ N) (q : Q (some w) T.heap locs) :
    Go p e below s C N Q (T.setTop (mkF m pc Ls (w :: S))) :=
  Go.leave X (fun h => by rw [hret] at h; cases h) hlk hc hn q fun _ hr => Jvm.RoadKit.retOut X hx hret hnw hi (hb hby hd) hr
/-- two roads meet: at a state like X's, at the heap h, with the frame g' -/
def Mx (X : Stand p l e R s m args below meth c T locs cells slots) (h : Heap) (g' : JFrame) (A : State) : Prop := ∃ T', Stand p l e R s m args below meth c T' locs cells slots ∧ T'.heap = h ∧ ∀ t, Steps p.tables e below (T'.setTop g') t → Steps p.tables e below A t
theorem Mx.cl {X : Stand p l e R s m args below meth c T locs cells slots} {g' : JFrame} : Cl p e below (Mx X h g') := fun A B k ⟨T', X', e', st⟩ => ⟨T', X', e', fun t r => k _ (st t r)⟩
theorem Mx.with {X : Stand p l e R s m args below meth c T locs cells slots} {g' : JFrame} {A : State} (k : Cl p e below (Mx X h g') → Mx X h g' A) : Mx X h g' A := k Mx.cl
theorem Mx.here {X : Stand p l e R s m args below meth c T locs cells slots} {g' : JFrame} {T' : State} (X' : Stand p l e R s m args below meth c T' locs cells slots) (e' : T'.heap = h) : Mx X h g' (T'.setTop g') := ⟨T', X', e', fun _ k => k⟩
theorem own_nar01 {z : Int32} (h : z = 0 ∨ z = 1) : nar .boolean z = z := by rcases h with rfl | rfl <;> rfl
theorem own_px (X : Stand p l e R s m args below meth c T (locs ++ []) (cells + 0) (slots + 0)) : Stand p l e R s m args below meth c T locs cells slots := by rw [List.append_nil] at X; exact X
theorem k_go (K : Cl p e below G) {A B : State} (st : ∀ t, Steps p.tables e below B t → Steps p.tables e below A t) (hr : G B) : G A := K A B st hr
theorem k_some (K : Cl p e below G) {w : Value} (hr : G (T.setTop (mkF m q Ls (w :: S)))) : G (T.setTop (mkF m q Ls ((some w).toList ++ S))) := hr
theorem k_none (K : Cl p e below G) (hr : G (T.setTop (mkF m q Ls S))) : G (T.setTop (mkF m q Ls ((none : Option Value).toList ++ S))) := hr
theorem own_irem (x y : Int32) : x - (x / y) * y = x % y := by
  apply Int32.toInt_inj.mp
  have h1 := Int32.le_toInt (x % y)
  have h2 := Int32.toInt_lt (x % y)
  rw [Int32.toInt_sub, Int32.toInt_mul, Int32.toInt_div, Int.bmod_mul_bmod, Int.sub_bmod_bmod, Int.mul_comm (x.toInt.tdiv y.toInt), ← Int.tmod_def, ← Int32.toInt_mod]
  exact Int.bmod_eq_of_le_mul_two (by omega) (by omega)
theorem m_iload (K : Cl p e below G) (h : At T m c below) (hx : p.tables.exec = Jvm.exec) (hby : c.code = bs) {k : Nat} {v : Int32} (hd : decode bs pc = .ok (.iload k, 2)) (hl : Ls[k]? = some (.val (.int v))) (hq : pc + 2 = q) (hr : G (T.setTop (mkF m q Ls (.int v :: S)))) : G (T.setTop (mkF m pc Ls S)) := by subst hq; exact K _ _ (fun t k => Jvm.Free.XS.iload h hx rfl (hb hby hd) hl k) hr
theorem m_iloadN (K : Cl p e below G) (h : At T m c below) (hx : p.tables.exec = Jvm.exec) (hby : c.code = bs) {k : Fin 4} {v : Int32} (hd : decode bs pc = .ok (.iload_n k, 1)) (hl : Ls[k.val]? = some (.val (.int v))) (hq : pc + 1 = q) (hr : G (T.setTop (mkF m q Ls (.int v :: S)))) : G (T.setTop (mkF m pc Ls S)) := by subst hq; exact K _ _ (fun t k => Jvm.Free.XS.iloadN h hx rfl (hb hby hd) hl k) hr
theorem m_istore (K : Cl p e below G) (h : At T m c below) (hx : p.tables.exec = Jvm.exec) (hby : c.code = bs) {k : Nat} {v : Int32} (l' : Array Slot) (hd : decode bs pc = .ok (.istore k, 2)) (hl : storeLocals Ls k (.int v) = some l') (hq : pc + 2 = q) (hr : G (T.setTop (mkF m q l' S))) : G (T.setTop (mkF m pc Ls (.int v :: S))) := by subst hq; exact K _ _ (fun t k => Jvm.Free.XS.istore h hx rfl (hb hby hd) rfl hl k) hr
theorem m_istoreN (K : Cl p e below G) (h : At T m c below) (hx : p.tables.exec = Jvm.exec) (hby : c.code = bs) {k : Fin 4} {v : Int32} (l' : Array Slot) (hd : decode bs pc = .ok (.istore_n k, 1)) (hl : storeLocals Ls k.val (.int v) = some l') (hq : pc + 1 = q) (hr : G (T.setTop (mkF m q l' S))) : G (T.setTop (mkF m pc Ls (.int v :: S))) := by subst hq; exact K _ _ (fun t k => Jvm.Free.XS.istoreN h hx rfl (hb hby hd) rfl hl k) hr
theorem m_lload (K : Cl p e below G) (h : At T m c below) (hx : p.tables.exec = Jvm.exec) (hby : c.code = bs) {k : Nat} {v : Int64} (hd : decode bs pc = .ok (.lload k, 2)) (hl : Ls[k]? = some (.val (.long v))) (hq : pc + 2 = q) (hr : G (T.setTop (mkF m q Ls (.long v :: S)))) : G (T.setTop (mkF m pc Ls S)) := by subst hq; exact K _ _ (fun t k => Jvm.Free.XS.lload h hx rfl (hb hby hd) hl k) hr
theorem m_lloadN (K : Cl p e below G) (h : At T m c below) (hx : p.tables.exec = Jvm.exec) (hby : c.code = bs) {k : Fin 4} {v : Int64} (hd : decode bs pc = .ok (.lload_n k, 1)) (hl : Ls[k.val]? = some (.val (.long v))) (hq : pc + 1 = q) (hr : G (T.setTop (mkF m q Ls (.long v :: S)))) : G (T.setTop (mkF m pc Ls S)) := by subst hq; exact K _ _ (fun t k => Jvm.Free.XS.lloadN h hx rfl (hb hby hd) hl k) hr
theorem m_lstore (K : Cl p e below G) (h : At T m c below) (hx : p.tables.exec = Jvm.exec) (hby : c.code = bs) {k : Nat} {v : Int64} (l' : Array Slot) (hd : decode bs pc = .ok (.lstore k, 2)) (hl : storeLocals Ls k (.long v) = some l') (hq : pc + 2 = q) (hr : G (T.setTop (mkF m q l' S))) : G (T.setTop (mkF m pc Ls (.long v :: S))) := by subst hq; exact K _ _ (fun t k => Jvm.Free.XS.lstore h hx rfl (hb hby hd) rfl hl k) hr
theorem m_lstoreN (K : Cl p e below G) (h : At T m c below) (hx : p.tables.exec = Jvm.exec) (hby : c.code = bs) {k : Fin 4} {v : Int64} (l' : Array Slot) (hd : decode bs pc = .ok (.lstore_n k, 1)) (hl : storeLocals Ls k.val (.long v) = some l') (hq : pc + 1 = q) (hr : G (T.setTop (mkF m q l' S))) : G (T.setTop (mkF m pc Ls (.long v :: S))) := by subst hq; exact K _ _ (fun t k => Jvm.Free.XS.lstoreN h hx rfl (hb hby hd) rfl hl k) hr
theorem m_dload (K : Cl p e below G) (h : At T m c below) (hx : p.tables.exec = Jvm.exec) (hby : c.code = bs) {k : Nat} {v : UInt64} (hd : decode bs pc = .ok (.dload k, 2)) (hl : Ls[k]? = some (.val (.double v))) (hq : pc + 2 = q) (hr : G (T.setTop (mkF m q Ls (.double v :: S)))) : G (T.setTop (mkF m pc Ls S)) := by subst hq; exact K _ _ (fun t k => Jvm.Free.XS.dload h hx rfl (hb hby hd) hl k) hr
theorem m_dloadN (K : Cl p e below G) (h : At T m c below) (hx : p.tables.exec = Jvm.exec) (hby : c.code = bs) {k : Fin 4} {v : UInt64} (hd : decode bs pc = .ok (.dload_n k, 1)) (hl : Ls[k.val]? = some (.val (.double v))) (hq : pc + 1 = q) (hr : G (T.setTop (mkF m q Ls (.double v :: S)))) : G (T.setTop (mkF m pc Ls S)) := by subst hq; exact K _ _ (fun t k => Jvm.Free.XS.dloadN h hx rfl (hb hby hd) hl k) hr
theorem m_dstore (K : Cl p e below G) (h : At T m c below) (hx : p.tables.exec = Jvm.exec) (hby : c.code = bs) {k : Nat} {v : UInt64} (l' : Array Slot) (hd : decode bs pc = .ok (.dstore k, 2)) (hl : storeLocals Ls k (.double v) = some l') (hq : pc + 2 = q) (hr : G (T.setTop (mkF m q l' S))) : G (T.setTop (mkF m pc Ls (.double v :: S))) := by subst hq; exact K _ _ (fun t k => Jvm.Free.XS.dstore h hx rfl (hb hby hd) rfl hl k) hr
theorem m_dstoreN (K : Cl p e below G) (h : At T m c below) (hx : p.tables.exec = Jvm.exec) (hby : c.code = bs) {k : Fin 4} {v : UInt64} (l' : Array Slot) (hd : decode bs pc = .ok (.dstore_n k, 1)) (hl : storeLocals Ls k.val (.double v) = some l') (hq : pc + 1 = q) (hr : G (T.setTop (mkF m q l' S))) : G (T.setTop (mkF m pc Ls (.double v :: S))) := by subst hq; exact K _ _ (fun t k => Jvm.Free.XS.dstoreN h hx rfl (hb hby hd) rfl hl k) hr
theorem m_aload (K : Cl p e below G) (h : At T m c below) (hx : p.tables.exec = Jvm.exec) (hby : c.code = bs) {k : Nat} {v : Value} (hd : decode bs pc = .ok (.aload k, 2)) (hl : Ls[k]? = some (.val v)) (hv : v.isRef = true) (hq : pc + 2 = q) (hr : G (T.setTop (mkF m q Ls (v :: S)))) : G (T.setTop (mkF m pc Ls S)) := by subst hq; exact K _ _ (fun t k => Jvm.Free.XS.aload h hx rfl (hb hby hd) hl hv k) hr
theorem m_aloadN (K : Cl p e below G) (h : At T m c below) (hx : p.tables.exec = Jvm.exec) (hby : c.code = bs) {k : Fin 4} {v : Value} (hd : decode bs pc = .ok (.aload_n k, 1)) (hl : Ls[k.val]? = some (.val v)) (hv : v.isRef = true) (hq : pc + 1 = q) (hr : G (T.setTop (mkF m q Ls (v :: S)))) : G (T.setTop (mkF m pc Ls S)) := by subst hq; exact K _ _ (fun t k => Jvm.Free.XS.aloadN h hx rfl (hb hby hd) hl hv k) hr
theorem m_astore (K : Cl p e below G) (h : At T m c below) (hx : p.tables.exec = Jvm.exec) (hby : c.code = bs) {k : Nat} {v : Value} (l' : Array Slot) (hd : decode bs pc = .ok (.astore k, 2)) (hv : v.isRef = true) (hl : storeLocals Ls k v = some l') (hq : pc + 2 = q) (hr : G (T.setTop (mkF m q l' S))) : G (T.setTop (mkF m pc Ls (v :: S))) := by subst hq; exact K _ _ (fun t k => Jvm.Free.XS.astore h hx rfl (hb hby hd) rfl hv hl k) hr
theorem m_astoreN (K : Cl p e below G) (h : At T m c below) (hx : p.tables.exec = Jvm.exec) (hby : c.code = bs) {k : Fin 4} {v : Value} (l' : Array Slot) (hd : decode bs pc = .ok (.astore_n k, 1)) (hv : v.isRef = true) (hl : storeLocals Ls k.val v = some l') (hq : pc + 1 = q) (hr : G (T.setTop (mkF m q l' S))) : G (T.setTop (mkF m pc Ls (v :: S))) := by subst hq; exact K _ _ (fun t k => Jvm.Free.XS.astoreN h hx rfl (hb hby hd) rfl hv hl k) hr
theorem m_iconst (K : Cl p e below G) (h : At T m c below) (hx : p.tables.exec = Jvm.exec) (hby : c.code = bs) {i : Int} (z : Int32) (hd : decode bs pc = .ok (.iconst i, 1)) (hz : Int32.ofInt i = z) (hq : pc + 1 = q) (hr : G (T.setTop (mkF m q Ls (.int z :: S)))) : G (T.setTop (mkF m pc Ls S)) := by subst hq; subst hz; exact K _ _ (fun t k => Jvm.Free.XS.iconst h hx rfl (hb hby hd) k) hr
theorem m_bipush (K : Cl p e below G) (h : At T m c below) (hx : p.tables.exec = Jvm.exec) (hby : c.code = bs) {i : Int} (z : Int32) (hd : decode bs pc = .ok (.bipush i, 2)) (hz : (Int8.ofInt i).toInt32 = z) (hq : pc + 2 = q) (hr : G (T.setTop (mkF m q Ls (.int z :: S)))) : G (T.setTop (mkF m pc Ls S)) := by subst hq; subst hz; exact K _ _ (fun t k => Jvm.Free.XS.bipush h hx rfl (hb hby hd) k) hr
theorem m_sipush (K : Cl p e below G) (h : At T m c below) (hx : p.tables.exec = Jvm.exec) (hby : c.code = bs) {i : Int} (z : Int32) (hd : decode bs pc = .ok (.sipush i, 3)) (hz : (Int16.ofInt i).toInt32 = z) (hq : pc + 3 = q) (hr : G (T.setTop (mkF m q Ls (.int z :: S)))) : G (T.setTop (mkF m pc Ls S)) := by subst hq; subst hz; exact K _ _ (fun t k => Jvm.Free.XS.sipush h hx rfl (hb hby hd) k) hr
theorem m_lconst (K : Cl p e below G) (h : At T m c below) (hx : p.tables.exec = Jvm.exec) (hby : c.code = bs) {k : Fin 2} (z : Int64) (hd : decode bs pc = .ok (.lconst k, 1)) (hz : Int64.ofNat k.val = z) (hq : pc + 1 = q) (hr : G (T.setTop (mkF m q Ls (.long z :: S)))) : G (T.setTop (mkF m pc Ls S)) := by subst hq; subst hz; exact K _ _ (fun t k => Jvm.Free.XS.lconst h hx rfl (hb hby hd) k) hr
theorem m_null (K : Cl p e below G) (h : At T m c below) (hx : p.tables.exec = Jvm.exec) (hby : c.code = bs)  (hd : decode bs pc = .ok (.aconst_null, 1)) (hq : pc + 1 = q) (hr : G (T.setTop (mkF m q Ls (.null :: S)))) : G (T.setTop (mkF m pc Ls S)) := by subst hq; exact K _ _ (fun t k => Jvm.Free.XS.aconstNull h hx rfl (hb hby hd) k) hr
theorem m_iadd (K : Cl p e below G) (h : At T m c below) (hx : p.tables.exec = Jvm.exec) (hby : c.code = bs) {x y : Int32} (z : Int32) (hd : decode bs pc = .ok (.iadd, 1)) (hz : x + y = z) (hq : pc + 1 = q) (hr : G (T.setTop (mkF m q Ls (.int z :: S)))) : G (T.setTop (mkF m pc Ls (.int y :: .int x :: S))) := by subst hq; subst hz; exact K _ _ (fun t k => Jvm.Free.XS.iadd h hx rfl (hb hby hd) rfl k) hr
theorem m_isub (K : Cl p e below G) (h : At T m c below) (hx : p.tables.exec = Jvm.exec) (hby : c.code = bs) {x y : Int32} (z : Int32) (hd : decode bs pc = .ok (.isub, 1)) (hz : x - y = z) (hq : pc + 1 = q) (hr : G (T.setTop (mkF m q Ls (.int z :: S)))) : G (T.setTop (mkF m pc Ls (.int y :: .int x :: S))) := by subst hq; subst hz; exact K _ _ (fun t k => Jvm.Free.XS.isub h hx rfl (hb hby hd) rfl k) hr
theorem m_imul (K : Cl p e below G) (h : At T m c below) (hx : p.tables.exec = Jvm.exec) (hby : c.code = bs) {x y : Int32} (z : Int32) (hd : decode bs pc = .ok (.imul, 1)) (hz : x * y = z) (hq : pc + 1 = q) (hr : G (T.setTop (mkF m q Ls (.int z :: S)))) : G (T.setTop (mkF m pc Ls (.int y :: .int x :: S))) := by subst hq; subst hz; exact K _ _ (fun t k => Jvm.Free.XS.imul h hx rfl (hb hby hd) rfl k) hr
theorem m_iand (K : Cl p e below G) (h : At T m c below) (hx : p.tables.exec = Jvm.exec) (hby : c.code = bs) {x y : Int32} (z : Int32) (hd : decode bs pc = .ok (.iand, 1)) (hz : x &&& y = z) (hq : pc + 1 = q) (hr : G (T.setTop (mkF m q Ls (.int z :: S)))) : G (T.setTop (mkF m pc Ls (.int y :: .int x :: S))) := by subst hq; subst hz; exact K _ _ (fun t k => Jvm.Free.XS.iand h hx rfl (hb hby hd) rfl k) hr
theorem m_ior (K : Cl p e below G) (h : At T m c below) (hx : p.tables.exec = Jvm.exec) (hby : c.code = bs) {x y : Int32} (z : Int32) (hd : decode bs pc = .ok (.ior, 1)) (hz : x ||| y = z) (hq : pc + 1 = q) (hr : G (T.setTop (mkF m q Ls (.int z :: S)))) : G (T.setTop (mkF m pc Ls (.int y :: .int x :: S))) := by subst hq; subst hz; exact K _ _ (fun t k => Jvm.Free.XS.ior h hx rfl (hb hby hd) rfl k) hr
theorem m_ixor (K : Cl p e below G) (h : At T m c below) (hx : p.tables.exec = Jvm.exec) (hby : c.code = bs) {x y : Int32} (z : Int32) (hd : decode bs pc = .ok (.ixor, 1)) (hz : x ^^^ y = z) (hq : pc + 1 = q) (hr : G (T.setTop (mkF m q Ls (.int z :: S)))) : G (T.setTop (mkF m pc Ls (.int y :: .int x :: S))) := by subst hq; subst hz; exact K _ _ (fun t k => Jvm.Free.XS.ixor h hx rfl (hb hby hd) rfl k) hr
theorem m_idiv (K : Cl p e below G) (h : At T m c below) (hx : p.tables.exec = Jvm.exec) (hby : c.code = bs) {x y : Int32} (z : Int32) (hd : decode bs pc = .ok (.idiv, 1)) (hy : y ≠ 0) (hz : x / y = z) (hq : pc + 1 = q) (hr : G (T.setTop (mkF m q Ls (.int z :: S)))) : G (T.setTop (mkF m pc Ls (.int y :: .int x :: S))) := by subst hq; subst hz; exact K _ _ (fun t k => Jvm.Free.XS.idiv h hx rfl (hb hby hd) rfl hy k) hr
theorem m_ladd (K : Cl p e below G) (h : At T m c below) (hx : p.tables.exec = Jvm.exec) (hby : c.code = bs) {x y : Int64} (z : Int64) (hd : decode bs pc = .ok (.ladd, 1)) (hz : x + y = z) (hq : pc + 1 = q) (hr : G (T.setTop (mkF m q Ls (.long z :: S)))) : G (T.setTop (mkF m pc Ls (.long y :: .long x :: S))) := by subst hq; subst hz; exact K _ _ (fun t k => Jvm.Free.XS.ladd h hx rfl (hb hby hd) rfl k) hr
theorem m_lsub (K : Cl p e below G) (h : At T m c below) (hx : p.tables.exec = Jvm.exec) (hby : c.code = bs) {x y : Int64} (z : Int64) (hd : decode bs pc = .ok (.lsub, 1)) (hz : x - y = z) (hq : pc + 1 = q) (hr : G (T.setTop (mkF m q Ls (.long z :: S)))) : G (T.setTop (mkF m pc Ls (.long y :: .long x :: S))) := by subst hq; subst hz; exact K _ _ (fun t k => Jvm.Free.XS.lsub h hx rfl (hb hby hd) rfl k) hr
theorem m_lmul (K : Cl p e below G) (h : At T m c below) (hx : p.tables.exec = Jvm.exec) (hby : c.code = bs) {x y : Int64} (z : Int64) (hd : decode bs pc = .ok (.lmul, 1)) (hz : x * y = z) (hq : pc + 1 = q) (hr : G (T.setTop (mkF m q Ls (.long z :: S)))) : G (T.setTop (mkF m pc Ls (.long y :: .long x :: S))) := by subst hq; subst hz; exact K _ _ (fun t k => Jvm.Free.XS.lmul h hx rfl (hb hby hd) rfl k) hr
theorem m_land (K : Cl p e below G) (h : At T m c below) (hx : p.tables.exec = Jvm.exec) (hby : c.code = bs) {x y : Int64} (z : Int64) (hd : decode bs pc = .ok (.land, 1)) (hz : x &&& y = z) (hq : pc + 1 = q) (hr : G (T.setTop (mkF m q Ls (.long z :: S)))) : G (T.setTop (mkF m pc Ls (.long y :: .long x :: S))) := by subst hq; subst hz; exact K _ _ (fun t k => Jvm.Free.XS.land h hx rfl (hb hby hd) rfl k) hr
theorem m_lor (K : Cl p e below G) (h : At T m c below) (hx : p.tables.exec = Jvm.exec) (hby : c.code = bs) {x y : Int64} (z : Int64) (hd : decode bs pc = .ok (.lor, 1)) (hz : x ||| y = z) (hq : pc + 1 = q) (hr : G (T.setTop (mkF m q Ls (.long z :: S)))) : G (T.setTop (mkF m pc Ls (.long y :: .long x :: S))) := by subst hq; subst hz; exact K _ _ (fun t k => Jvm.Free.XS.lor h hx rfl (hb hby hd) rfl k) hr
theorem m_lxor (K : Cl p e below G) (h : At T m c below) (hx : p.tables.exec = Jvm.exec) (hby : c.code = bs) {x y : Int64} (z : Int64) (hd : decode bs pc = .ok (.lxor, 1)) (hz : x ^^^ y = z) (hq : pc + 1 = q) (hr : G (T.setTop (mkF m q Ls (.long z :: S)))) : G (T.setTop (mkF m pc Ls (.long y :: .long x :: S))) := by subst hq; subst hz; exact K _ _ (fun t k => Jvm.Free.XS.lxor h hx rfl (hb hby hd) rfl k) hr
theorem m_ldiv (K : Cl p e below G) (h : At T m c below) (hx : p.tables.exec = Jvm.exec) (hby : c.code = bs) {x y : Int64} (z : Int64) (hd : decode bs pc = .ok (.ldiv, 1)) (hy : y ≠ 0) (hz : x / y = z) (hq : pc + 1 = q) (hr : G (T.setTop (mkF m q Ls (.long z :: S)))) : G (T.setTop (mkF m pc Ls (.long y :: .long x :: S))) := by subst hq; subst hz; exact K _ _ (fun t k => Jvm.Free.XS.ldiv h hx rfl (hb hby hd) rfl hy k) hr
theorem m_irem (K : Cl p e below G) (h : At T m c below) (hx : p.tables.exec = Jvm.exec) (hby : c.code = bs) {x y : Int32} (z : Int32) (hd : decode bs pc = .ok (.irem, 1)) (hy : y ≠ 0) (hz : x % y = z) (hq : pc + 1 = q) (hr : G (T.setTop (mkF m q Ls (.int z :: S)))) : G (T.setTop (mkF m pc Ls (.int y :: .int x :: S))) := by subst hq; subst hz; rw [← own_irem] at hr; exact K _ _ (fun t k => Jvm.Free.XS.irem h hx rfl (hb hby hd) rfl hy k) hr
theorem m_lrem (K : Cl p e below G) (h : At T m c below) (hx : p.tables.exec = Jvm.exec) (hby : c.code = bs) {x y : Int64} (z : Int64) (hd : decode bs pc = .ok (.lrem, 1)) (hy : y ≠ 0) (hz : x - (x / y) * y = z) (hq : pc + 1 = q) (hr : G (T.setTop (mkF m q Ls (.long z :: S)))) : G (T.setTop (mkF m pc Ls (.long y :: .long x :: S))) := by subst hq; subst hz; exact K _ _ (fun t k => Jvm.Free.XS.lrem h hx rfl (hb hby hd) rfl hy k) hr
theorem m_ishl (K : Cl p e below G) (h : At T m c below) (hx : p.tables.exec = Jvm.exec) (hby : c.code = bs) {x : Int32} {y : Int32} (z : Int32) (hd : decode bs pc = .ok (.ishl, 1)) (hz : x <<< (y &&& 31) = z) (hq : pc + 1 = q) (hr : G (T.setTop (mkF m q Ls (.int z :: S)))) : G (T.setTop (mkF m pc Ls (.int y :: .int x :: S))) := by subst hq; subst hz; exact K _ _ (fun t k => Jvm.Free.XS.ishl h hx rfl (hb hby hd) rfl k) hr
theorem m_ishr (K : Cl p e below G) (h : At T m c below) (hx : p.tables.exec = Jvm.exec) (hby : c.code = bs) {x : Int32} {y : Int32} (z : Int32) (hd : decode bs pc = .ok (.ishr, 1)) (hz : x >>> (y &&& 31) = z) (hq : pc + 1 = q) (hr : G (T.setTop (mkF m q Ls (.int z :: S)))) : G (T.setTop (mkF m pc Ls (.int y :: .int x :: S))) := by subst hq; subst hz; exact K _ _ (fun t k => Jvm.Free.XS.ishr h hx rfl (hb hby hd) rfl k) hr
theorem m_iushr (K : Cl p e below G) (h : At T m c below) (hx : p.tables.exec = Jvm.exec) (hby : c.code = bs) {x : Int32} {y : Int32} (z : Int32) (hd : decode bs pc = .ok (.iushr, 1)) (hz : (x.toUInt32 >>> (y &&& 31).toUInt32).toInt32 = z) (hq : pc + 1 = q) (hr : G (T.setTop (mkF m q Ls (.int z :: S)))) : G (T.setTop (mkF m pc Ls (.int y :: .int x :: S))) := by subst hq; subst hz; exact K _ _ (fun t k => Jvm.Free.XS.iushr h hx rfl (hb hby hd) rfl k) hr
theorem m_lshl (K : Cl p e below G) (h : At T m c below) (hx : p.tables.exec = Jvm.exec) (hby : c.code = bs) {x : Int64} {y : Int32} (z : Int64) (hd : decode bs pc = .ok (.lshl, 1)) (hz : x <<< (y &&& 0x3f).toInt64 = z) (hq : pc + 1 = q) (hr : G (T.setTop (mkF m q Ls (.long z :: S)))) : G (T.setTop (mkF m pc Ls (.int y :: .long x :: S))) := by subst hq; subst hz; exact K _ _ (fun t k => Jvm.Free.XS.lshl h hx rfl (hb hby hd) rfl k) hr
theorem m_lshr (K : Cl p e below G) (h : At T m c below) (hx : p.tables.exec = Jvm.exec) (hby : c.code = bs) {x : Int64} {y : Int32} (z : Int64) (hd : decode bs pc = .ok (.lshr, 1)) (hz : x >>> (y &&& 0x3f).toInt64 = z) (hq : pc + 1 = q) (hr : G (T.setTop (mkF m q Ls (.long z :: S)))) : G (T.setTop (mkF m pc Ls (.int y :: .long x :: S))) := by subst hq; subst hz; exact K _ _ (fun t k => Jvm.Free.XS.lshr h hx rfl (hb hby hd) rfl k) hr
theorem m_lushr (K : Cl p e below G) (h : At T m c below) (hx : p.tables.exec = Jvm.exec) (hby : c.code = bs) {x : Int64} {y : Int32} (z : Int64) (hd : decode bs pc = .ok (.lushr, 1)) (hz : (x.toUInt64 >>> (y &&& 0x3f).toInt64.toUInt64).toInt64 = z) (hq : pc + 1 = q) (hr : G (T.setTop (mkF m q Ls (.long z :: S)))) : G (T.setTop (mkF m pc Ls (.int y :: .long x :: S))) := by subst hq; subst hz; exact K _ _ (fun t k => Jvm.Free.XS.lushr h hx rfl (hb hby hd) rfl k) hr
theorem m_ineg (K : Cl p e below G) (h : At T m c below) (hx : p.tables.exec = Jvm.exec) (hby : c.code = bs) {x : Int32} (z : Int32) (hd : decode bs pc = .ok (.ineg, 1)) (hz : -x = z) (hq : pc + 1 = q) (hr : G (T.setTop (mkF m q Ls (.int z :: S)))) : G (T.setTop (mkF m pc Ls (.int x :: S))) := by subst hq; subst hz; exact K _ _ (fun t k => Jvm.Free.XS.ineg h hx rfl (hb hby hd) rfl k) hr
theorem m_lneg (K : Cl p e below G) (h : At T m c below) (hx : p.tables.exec = Jvm.exec) (hby : c.code = bs) {x : Int64} (z : Int64) (hd : decode bs pc = .ok (.lneg, 1)) (hz : -x = z) (hq : pc + 1 = q) (hr : G (T.setTop (mkF m q Ls (.long z :: S)))) : G (T.setTop (mkF m pc Ls (.long x :: S))) := by subst hq; subst hz; exact K _ _ (fun t k => Jvm.Free.XS.lneg h hx rfl (hb hby hd) rfl k) hr
theorem m_i2l (K : Cl p e below G) (h : At T m c below) (hx : p.tables.exec = Jvm.exec) (hby : c.code = bs) {x : Int32} (z : Int64) (hd : decode bs pc = .ok (.i2l, 1)) (hz : x.toInt64 = z) (hq : pc + 1 = q) (hr : G (T.setTop (mkF m q Ls (.long z :: S)))) : G (T.setTop (mkF m pc Ls (.int x :: S))) := by subst hq; subst hz; exact K _ _ (fun t k => Jvm.Free.XS.i2l h hx rfl (hb hby hd) rfl k) hr
theorem m_l2i (K : Cl p e below G) (h : At T m c below) (hx : p.tables.exec = Jvm.exec) (hby : c.code = bs) {x : Int64} (z : Int32) (hd : decode bs pc = .ok (.l2i, 1)) (hz : x.toInt32 = z) (hq : pc + 1 = q) (hr : G (T.setTop (mkF m q Ls (.int z :: S)))) : G (T.setTop (mkF m pc Ls (.long x :: S))) := by subst hq; subst hz; exact K _ _ (fun t k => Jvm.Free.XS.l2i h hx rfl (hb hby hd) rfl k) hr
theorem m_i2b (K : Cl p e below G) (h : At T m c below) (hx : p.tables.exec = Jvm.exec) (hby : c.code = bs) {x : Int32} (z : Int32) (hd : decode bs pc = .ok (.i2b, 1)) (hz : x.toInt8.toInt32 = z) (hq : pc + 1 = q) (hr : G (T.setTop (mkF m q Ls (.int z :: S)))) : G (T.setTop (mkF m pc Ls (.int x :: S))) := by subst hq; subst hz; exact K _ _ (fun t k => Jvm.Free.XS.i2b h hx rfl (hb hby hd) rfl k) hr
theorem m_i2s (K : Cl p e below G) (h : At T m c below) (hx : p.tables.exec = Jvm.exec) (hby : c.code = bs) {x : Int32} (z : Int32) (hd : decode bs pc = .ok (.i2s, 1)) (hz : x.toInt16.toInt32 = z) (hq : pc + 1 = q) (hr : G (T.setTop (mkF m q Ls (.int z :: S)))) : G (T.setTop (mkF m pc Ls (.int x :: S))) := by subst hq; subst hz; exact K _ _ (fun t k => Jvm.Free.XS.i2s h hx rfl (hb hby hd) rfl k) hr
theorem m_i2c (K : Cl p e below G) (h : At T m c below) (hx : p.tables.exec = Jvm.exec) (hby : c.code = bs) {x : Int32} (z : Int32) (hd : decode bs pc = .ok (.i2c, 1)) (hz : x.toUInt32.toUInt16.toUInt32.toInt32 = z) (hq : pc + 1 = q) (hr : G (T.setTop (mkF m q Ls (.int z :: S)))) : G (T.setTop (mkF m pc Ls (.int x :: S))) := by subst hq; subst hz; exact K _ _ (fun t k => Jvm.Free.XS.i2c h hx rfl (hb hby hd) rfl k) hr
theorem m_lcmp (K : Cl p e below G) (h : At T m c below) (hx : p.tables.exec = Jvm.exec) (hby : c.code = bs) {x y : Int64} (z : Int32) (hd : decode bs pc = .ok (.lcmp, 1)) (hz : lcmpW x y = z) (hq : pc + 1 = q) (hr : G (T.setTop (mkF m q Ls (.int z :: S)))) : G (T.setTop (mkF m pc Ls (.long y :: .long x :: S))) := by subst hq; subst hz; exact K _ _ (fun t k => Jvm.Free.XS.lcmp h hx rfl (hb hby hd) rfl k) hr
theorem m_iinc (K : Cl p e below G) (h : At T m c below) (hx : p.tables.exec = Jvm.exec) (hby : c.code = bs) {k : Nat} {i : Int} {x : Int32} (l' : Array Slot) (hd : decode bs pc = .ok (.iinc k i, 3)) (hl : Ls[k]? = some (.val (.int x))) (hl' : storeLocals Ls k (.int (x + Int32.ofInt i)) = some l') (hq : pc + 3 = q) (hr : G (T.setTop (mkF m q l' S))) : G (T.setTop (mkF m pc Ls S)) := by subst hq; exact K _ _ (fun t k => Jvm.Free.XS.iinc h hx rfl (hb hby hd) hl hl' k) hr
theorem m_dup (K : Cl p e below G) (h : At T m c below) (hx : p.tables.exec = Jvm.exec) (hby : c.code = bs) {v : Value} (hd : decode bs pc = .ok (.dup, 1)) (hv : v.category = 1) (hq : pc + 1 = q) (hr : G (T.setTop (mkF m q Ls (v :: v :: S)))) : G (T.setTop (mkF m pc Ls (v :: S))) := by subst hq; exact K _ _ (fun t k => Jvm.Free.XS.dup h hx rfl (hb hby hd) rfl hv k) hr
theorem m_dupX1 (K : Cl p e below G) (h : At T m c below) (hx : p.tables.exec = Jvm.exec) (hby : c.code = bs) {v w : Value} (hd : decode bs pc = .ok (.dup_x1, 1)) (hv : v.category = 1) (hw : w.category = 1) (hq : pc + 1 = q) (hr : G (T.setTop (mkF m q Ls (v :: w :: v :: S)))) : G (T.setTop (mkF m pc Ls (v :: w :: S))) := by subst hq; exact K _ _ (fun t k => Jvm.Free.XS.dupX1 h hx rfl (hb hby hd) rfl hv hw k) hr
theorem m_dup2 (K : Cl p e below G) (h : At T m c below) (hx : p.tables.exec = Jvm.exec) (hby : c.code = bs) {v w : Value} (hd : decode bs pc = .ok (.dup2, 1)) (hv : v.category = 1) (hw : w.category = 1) (hq : pc + 1 = q) (hr : G (T.setTop (mkF m q Ls (v :: w :: v :: w :: S)))) : G (T.setTop (mkF m pc Ls (v :: w :: S))) := by subst hq; refine K _ _ (fun t k => ?_) hr; cases v <;> cases w <;> simp [Value.category] at hv hw <;> (jvm_step h [h.top, hx, hb hby hd, Value.category]; exact k)
theorem m_dup2L (K : Cl p e below G) (h : At T m c below) (hx : p.tables.exec = Jvm.exec) (hby : c.code = bs) {v : Int64} (hd : decode bs pc = .ok (.dup2, 1)) (hq : pc + 1 = q) (hr : G (T.setTop (mkF m q Ls (.long v :: .long v :: S)))) : G (T.setTop (mkF m pc Ls (.long v :: S))) := by subst hq; refine K _ _ (fun t k => ?_) hr; jvm_step h [h.top, hx, hb hby hd, Value.category]; exact k
theorem m_pop (K : Cl p e below G) (h : At T m c below) (hx : p.tables.exec = Jvm.exec) (hby : c.code = bs) {v : Value} (hd : decode bs pc = .ok (.pop, 1)) (hv : v.category = 1) (hq : pc + 1 = q) (hr : G (T.setTop (mkF m q Ls S))) : G (T.setTop (mkF m pc Ls (v :: S))) := by subst hq; exact K _ _ (fun t k => Jvm.Free.XS.pop h hx rfl (hb hby hd) rfl hv k) hr
theorem m_l2d (K : Cl p e below G) (h : At T m c below) (hx : p.tables.exec = Jvm.exec) (hby : c.code = bs) {x : Int64} (v : UInt64) (hd : decode bs pc = .ok (.l2d, 1)) (hv : FP.l2d x = v) (hq : pc + 1 = q) (hr : G (T.setTop (mkF m q Ls (.double v :: S)))) : G (T.setTop (mkF m pc Ls (.long x :: S))) := by subst hq; exact K _ _ (fun t k => Jvm.Free.XS.l2dS h hx rfl (hb hby hd) rfl hv k) hr
theorem m_i2d (K : Cl p e below G) (h : At T m c below) (hx : p.tables.exec = Jvm.exec) (hby : c.code = bs) {x : Int32} (v : UInt64) (hd : decode bs pc = .ok (.i2d, 1)) (hv : FP.i2d x = v) (hq : pc + 1 = q) (hr : G (T.setTop (mkF m q Ls (.double v :: S)))) : G (T.setTop (mkF m pc Ls (.int x :: S))) := by subst hq; exact K _ _ (fun t k => Jvm.Free.XS.i2dS h hx rfl (hb hby hd) rfl hv k) hr
theorem m_dconst0 (K : Cl p e below G) (h : At T m c below) (hx : p.tables.exec = Jvm.exec) (hby : c.code = bs) (v : UInt64) (hd : decode bs pc = .ok (.dconst 0, 1)) (hv : FP.dconst0 = v) (hq : pc + 1 = q) (hr : G (T.setTop (mkF m q Ls (.double v :: S)))) : G (T.setTop (mkF m pc Ls S)) := by subst hq; exact K _ _ (fun t k => Jvm.Free.XS.dconst0 h hx rfl (hb hby hd) hv k) hr
theorem m_dneg (K : Cl p e below G) (h : At T m c below) (hx : p.tables.exec = Jvm.exec) (hby : c.code = bs) {x : UInt64} (v : UInt64) (hd : decode bs pc = .ok (.dneg, 1)) (hv : FP.dneg x = v) (hq : pc + 1 = q) (hr : G (T.setTop (mkF m q Ls (.double v :: S)))) : G (T.setTop (mkF m pc Ls (.double x :: S))) := by subst hq; exact K _ _ (fun t k => Jvm.Free.XS.dnegS h hx rfl (hb hby hd) rfl hv k) hr
theorem m_dcmp (K : Cl p e below G) (h : At T m c below) (hx : p.tables.exec = Jvm.exec) (hby : c.code = bs) {o : CmpOp} {x y : UInt64} (v : Int32) (hd : decode bs pc = .ok (.dcmp o, 1)) (hv : cmpValue (FP.dcmp x y) o = v) (hq : pc + 1 = q) (hr : G (T.setTop (mkF m q Ls (.int v :: S)))) : G (T.setTop (mkF m pc Ls (.double y :: .double x :: S))) := by subst hq; exact K _ _ (fun t k => Jvm.Free.XS.dcmpS h hx rfl (hb hby hd) rfl hv k) hr
theorem m_dadd (K : Cl p e below G) (h : At T m c below) (hx : p.tables.exec = Jvm.exec) (hby : c.code = bs) {x y : UInt64} (v : UInt64) (hd : decode bs pc = .ok (.dadd, 1)) (hn : Jvm.Free.Fl.NoNaN64 (FP.dadd x y)) (hv : FP.dadd x y = v) (hq : pc + 1 = q) (hr : G (T.setTop (mkF m q Ls (.double v :: S)))) : G (T.setTop (mkF m pc Ls (.double y :: .double x :: S))) := by subst hq; exact K _ _ (fun t k => Jvm.Free.XS.daddS h hx rfl (hb hby hd) rfl hn hv k) hr
theorem m_dsub (K : Cl p e below G) (h : At T m c below) (hx : p.tables.exec = Jvm.exec) (hby : c.code = bs) {x y : UInt64} (v : UInt64) (hd : decode bs pc = .ok (.dsub, 1)) (hn : Jvm.Free.Fl.NoNaN64 (FP.dsub x y)) (hv : FP.dsub x y = v) (hq : pc + 1 = q) (hr : G (T.setTop (mkF m q Ls (.double v :: S)))) : G (T.setTop (mkF m pc Ls (.double y :: .double x :: S))) := by subst hq; exact K _ _ (fun t k => Jvm.Free.XS.dsubS h hx rfl (hb hby hd) rfl hn hv k) hr
theorem m_dmul (K : Cl p e below G) (h : At T m c below) (hx : p.tables.exec = Jvm.exec) (hby : c.code = bs) {x y : UInt64} (v : UInt64) (hd : decode bs pc = .ok (.dmul, 1)) (hn : Jvm.Free.Fl.NoNaN64 (FP.dmul x y)) (hv : FP.dmul x y = v) (hq : pc + 1 = q) (hr : G (T.setTop (mkF m q Ls (.double v :: S)))) : G (T.setTop (mkF m pc Ls (.double y :: .double x :: S))) := by subst hq; exact K _ _ (fun t k => Jvm.Free.XS.dmulS h hx rfl (hb hby hd) rfl hn hv k) hr
theorem m_ddiv (K : Cl p e below G) (h : At T m c below) (hx : p.tables.exec = Jvm.exec) (hby : c.code = bs) {x y : UInt64} (v : UInt64) (hd : decode bs pc = .ok (.ddiv, 1)) (hn : Jvm.Free.Fl.NoNaN64 (FP.ddiv x y)) (hv : FP.ddiv x y = v) (hq : pc + 1 = q) (hr : G (T.setTop (mkF m q Ls (.double v :: S)))) : G (T.setTop (mkF m pc Ls (.double y :: .double x :: S))) := by subst hq; exact K _ _ (fun t k => Jvm.Free.XS.ddivS h hx rfl (hb hby hd) rfl hn hv k) hr
theorem m_goto (K : Cl p e below G) (h : At T m c below) (hx : p.tables.exec = Jvm.exec) (hby : c.code = bs)  {o : Int} (hd : decode bs pc = .ok (.goto o, 3)) (ho : 0 ≤ (pc : Int) + o) (hq : ((pc : Int) + o).toNat = q) (hr : G (T.setTop (mkF m q Ls S))) : G (T.setTop (mkF m pc Ls S)) := by exact K _ _ (fun t k => Jvm.Free.XS.goto h hx rfl rfl (hb hby hd) ho hq k) hr
theorem m_ifY (K : Cl p e below G) (h : At T m c below) (hx : p.tables.exec = Jvm.exec) (hby : c.code = bs) {cd : ClassFile.Cond} {x : Int32} {o : Int} (hd : decode bs pc = .ok (.ifCond cd o, 3)) (hc : ifCond.holds cd x = true) (ho : 0 ≤ (pc : Int) + o) (hq : ((pc : Int) + o).toNat = q) (hr : G (T.setTop (mkF m q Ls S))) : G (T.setTop (mkF m pc Ls (.int x :: S))) := by exact K _ _ (fun t k => Jvm.Free.XS.ifYes h hx rfl rfl (hb hby hd) rfl hc ho hq k) hr
theorem m_icmpY (K : Cl p e below G) (h : At T m c below) (hx : p.tables.exec = Jvm.exec) (hby : c.code = bs) {cd : ClassFile.Cond} {x y : Int32} {o : Int} (hd : decode bs pc = .ok (.if_icmp cd o, 3)) (hc : if_icmp.holds cd x y = true) (ho : 0 ≤ (pc : Int) + o) (hq : ((pc : Int) + o).toNat = q) (hr : G (T.setTop (mkF m q Ls S))) : G (T.setTop (mkF m pc Ls (.int y :: .int x :: S))) := by exact K _ _ (fun t k => Jvm.Free.XS.icmpYes h hx rfl rfl (hb hby hd) rfl hc ho hq k) hr
theorem m_nullY (K : Cl p e below G) (h : At T m c below) (hx : p.tables.exec = Jvm.exec) (hby : c.code = bs)  {o : Int} (hd : decode bs pc = .ok (.ifnull o, 3)) (ho : 0 ≤ (pc : Int) + o) (hq : ((pc : Int) + o).toNat = q) (hr : G (T.setTop (mkF m q Ls S))) : G (T.setTop (mkF m pc Ls (.null :: S))) := by exact K _ _ (fun t k => Jvm.Free.XS.ifnullYes h hx rfl rfl (hb hby hd) rfl ho hq k) hr
theorem m_nnY (K : Cl p e below G) (h : At T m c below) (hx : p.tables.exec = Jvm.exec) (hby : c.code = bs) {a : Addr} {o : Int} (hd : decode bs pc = .ok (.ifnonnull o, 3)) (ho : 0 ≤ (pc : Int) + o) (hq : ((pc : Int) + o).toNat = q) (hr : G (T.setTop (mkF m q Ls S))) : G (T.setTop (mkF m pc Ls (.ref a :: S))) := by exact K _ _ (fun t k => Jvm.Free.XS.ifnonnullYes h hx rfl rfl (hb hby hd) rfl ho hq k) hr
theorem m_ifN (K : Cl p e below G) (h : At T m c below) (hx : p.tables.exec = Jvm.exec) (hby : c.code = bs) {cd : ClassFile.Cond} {o : Int} {x : Int32} (hd : decode bs pc = .ok (.ifCond cd o, 3)) (hc : ifCond.holds cd x = false) (hq : pc + 3 = q) (hr : G (T.setTop (mkF m q Ls S))) : G (T.setTop (mkF m pc Ls (.int x :: S))) := by subst hq; exact K _ _ (fun t k => Jvm.Free.XS.ifNo h hx rfl (hb hby hd) rfl hc k) hr
theorem m_icmpN (K : Cl p e below G) (h : At T m c below) (hx : p.tables.exec = Jvm.exec) (hby : c.code = bs) {cd : ClassFile.Cond} {o : Int} {x y : Int32} (hd : decode bs pc = .ok (.if_icmp cd o, 3)) (hc : if_icmp.holds cd x y = false) (hq : pc + 3 = q) (hr : G (T.setTop (mkF m q Ls S))) : G (T.setTop (mkF m pc Ls (.int y :: .int x :: S))) := by subst hq; exact K _ _ (fun t k => Jvm.Free.XS.icmpNo h hx rfl (hb hby hd) rfl hc k) hr
theorem m_nullN (K : Cl p e below G) (h : At T m c below) (hx : p.tables.exec = Jvm.exec) (hby : c.code = bs) {o : Int} {a : Addr} (hd : decode bs pc = .ok (.ifnull o, 3)) (hq : pc + 3 = q) (hr : G (T.setTop (mkF m q Ls S))) : G (T.setTop (mkF m pc Ls (.ref a :: S))) := by subst hq; exact K _ _ (fun t k => Jvm.Free.XS.ifnullNo h hx rfl (hb hby hd) rfl k) hr
theorem m_nnN (K : Cl p e below G) (h : At T m c below) (hx : p.tables.exec = Jvm.exec) (hby : c.code = bs) {o : Int} (hd : decode bs pc = .ok (.ifnonnull o, 3)) (hq : pc + 3 = q) (hr : G (T.setTop (mkF m q Ls S))) : G (T.setTop (mkF m pc Ls (.null :: S))) := by subst hq; exact K _ _ (fun t k => Jvm.Free.XS.ifnonnullNo h hx rfl (hb hby hd) rfl k) hr
theorem m_acmp (K : Cl p e below G) (X : Stand p l e R s m args below meth c T locs cells slots) (hx : p.tables.exec = Jvm.exec) (hby : c.code = bs) {cd : ACond} {x y : Value} {o : Int} (same : Bool) (hd : decode bs pc = .ok (.if_acmp cd o, 3)) (h1 : x.isRef = true) (h2 : y.isRef = true) (hs : decide (x = y) = same) (ho : 0 ≤ (pc : Int) + o) (hq : q = if acV cd same = true then ((pc : Int) + o).toNat else pc + 3) (hr : G (T.setTop (mkF m q Ls S))) : G (T.setTop (mkF m pc Ls (y :: x :: S))) := K _ _ (fun t k => Jvm.RoadKit.acmp (g := mkF m pc Ls (y :: x :: S)) X hx rfl h1 h2 rfl (hb hby hd) rfl hs ho hq k) hr
theorem m_ldc (K : Cl p e below G) (X : Stand p l e R s m args below meth c T locs cells slots) (hx : p.tables.exec = Jvm.exec) (hby : c.code = bs) (hZh : Z.WarmedH s.vm) {own : String} {i : Nat} {v : Int32} (hown : s.vm.findClass own = some m.cls) (w : (Jvm.Cond.constant own i v).before a0 Z = true) (hd : decode bs pc = .ok (.ldc i, 2)) (hq : pc + 2 = q) (hr : G (T.setTop (mkF m q Ls (.int v :: S)))) : G (T.setTop (mkF m pc Ls S)) := by
  have hZ : Z.Warmed39 s.vm := hZh.wide
  subst hq; exact K _ _ (fun t k => X.ldcInt hx hown (mvT hZ w) (g := mkF m pc Ls S) rfl (hb hby hd) _ k) hr
theorem m_ldcw (K : Cl p e below G) (X : Stand p l e R s m args below meth c T locs cells slots) (hx : p.tables.exec = Jvm.exec) (hby : c.code = bs) (hZh : Z.WarmedH s.vm) {own : String} {i : Nat} {v : Int32} (hown : s.vm.findClass own = some m.cls) (w : (Jvm.Cond.constant own i v).before a0 Z = true) (hd : decode bs pc = .ok (.ldc_w i, 3)) (hq : pc + 3 = q) (hr : G (T.setTop (mkF m q Ls (.int v :: S)))) : G (T.setTop (mkF m pc Ls S)) := by
  have hZ : Z.Warmed39 s.vm := hZh.wide
  subst hq; exact K _ _ (fun t k => X.ldcwInt hx hown (mvT hZ w) (g := mkF m pc Ls S) rfl (hb hby hd) _ k) hr
theorem m_ldc2 (K : Cl p e below G) (X : Stand p l e R s m args below meth c T locs cells slots) (hx : p.tables.exec = Jvm.exec) (hby : c.code = bs) (hZh : Z.WarmedH s.vm) {own : String} {i : Nat} {v : Int64} (hown : s.vm.findClass own = some m.cls) (w : (Jvm.Cond.constantLong own i v).before a0 Z = true) (hd : decode bs pc = .ok (.ldc2_w i, 3)) (hq : pc + 3 = q) (hr : G (T.setTop (mkF m q Ls (.long v :: S)))) : G (T.setTop (mkF m pc Ls S)) := by
  have hZ : Z.Warmed39 s.vm := hZh.wide
  subst hq; exact K _ _ (fun t k => X.ldc2Long hx hown (mvT hZ w) (g := mkF m pc Ls S) rfl (hb hby hd) _ k) hr
theorem m_ldc2D (K : Cl p e below G) (X : Stand p l e R s m args below meth c T locs cells slots) (hx : p.tables.exec = Jvm.exec) (hby : c.code = bs) (hZh : Z.WarmedH s.vm) {own : String} {i : Nat} {v : UInt64} (hown : s.vm.findClass own = some m.cls) (w : (Jvm.Cond.constantDouble own i v).before a0 Z = true) (hd : decode bs pc = .ok (.ldc2_w i, 3)) (hq : pc + 3 = q) (hr : G (T.setTop (mkF m q Ls (.double v :: S)))) : G (T.setTop (mkF m pc Ls S)) := by
  have hZ : Z.Warmed39 s.vm := hZh.wide
  subst hq; exact K _ _ (fun t k => X.ldc2DoubleC hx hown (mvT hZ w) (g := mkF m pc Ls S) rfl (hb hby hd) _ k) hr
theorem k_getF (K : Cl p e below G) (X : Stand p l e R s m args below meth c T locs cells slots) (hx : p.tables.exec = Jvm.exec) (hby : c.code = bs) (hZh : Z.WarmedH s.vm) {own R0 O n d host : String} {i : Nat} (hown : s.vm.findClass own = some m.cls) (w : (Jvm.Cond.fieldLink own i R0 n d).before a0 Z = true ∨ (Jvm.Cond.fieldLinkNest own i R0 n d host).before a0 Z = true) (via : Via Z R0 O n d) (eT : T.heap = h) {a : Addr} {v : Value} (F : Fld Z h a O n d v) (hd : decode bs pc = .ok (.getfield i, 3)) (hq : pc + 3 = q) (k : ∀ T', Stand p l e R s m args below meth c T' locs cells slots → T'.heap = h → G (T'.setTop (mkF m q Ls (v :: S)))) : G (T.setTop (mkF m pc Ls (.ref a :: S))) := by
  have hZ : Z.Warmed39 s.vm := hZh.wide
  subst hq
  obtain ⟨T', X', e', st⟩ := getF X hx hZ hown w via eT F (g := mkF m pc Ls (.ref a :: S)) rfl rfl (hb hby hd)
  exact K _ _ st (k T' X' e')
theorem k_getS (K : Cl p e below G) (X : Stand p l e R s m args below meth c T locs cells slots) (hx : p.tables.exec = Jvm.exec) (hby : c.code = bs) (hZh : Z.WarmedH s.vm) {own R0 O n d host : String} {i : Nat} (hown : s.vm.findClass own = some m.cls) (w : (Jvm.Cond.fieldLink own i R0 n d).before a0 Z = true ∨ (Jvm.Cond.fieldLinkNest own i R0 n d host).before a0 Z = true) (via : Via Z R0 O n d) (eT : T.heap = h) {v : Value} (F : Sta Z h O n d v) (hd : decode bs pc = .ok (.getstatic i, 3)) (hq : pc + 3 = q) (k : ∀ T', Stand p l e R s m args below meth c T' locs cells slots → T'.heap = h → G (T'.setTop (mkF m q Ls (v :: S)))) : G (T.setTop (mkF m pc Ls S)) := by
  have hZ : Z.Warmed39 s.vm := hZh.wide
  subst hq
  obtain ⟨T', X', e', st⟩ := getS2 X hx hZ hown w via eT F (g := mkF m pc Ls S) rfl (hb hby hd)
  exact K _ _ st (k T' X' e')
theorem k_putF (K : Cl p e below G) (X : Stand p l e R s m args below meth c T locs cells slots) (hx : p.tables.exec = Jvm.exec) (hby : c.code = bs) (hZh : Z.WarmedH s.vm) {own R0 O n d host C : String} {i kk : Nat} {ty : FieldType} (hown : s.vm.findClass own = some m.cls) (w : (Jvm.Cond.fieldLink own i R0 n d).before a0 Z = true ∨ (Jvm.Cond.fieldLinkNest own i R0 n d host).before a0 Z = true) (via : Via Z R0 O n d) (eT : T.heap = h) {a : Addr} {v old : Value} (F : Fld Z h a O n d old) (E : Exa Z h a C) (L : (Jvm.Cond.lays C O n d).before a0 Z = true ∨ ((Jvm.Cond.laysFinal C O n d).before a0 Z = true ∧ own = O ∧ meth.name = "<init>")) (wi : (Jvm.Cond.instantiable C kk).before a0 Z = true) (hty : parseFieldDescriptor d = some ty) (hn : narrow ty v = v) (hf : fits ty v = true) (hd : decode bs pc = .ok (.putfield i, 3)) (hq : pc + 3 = q)
    (k : ∀ T' h', Stand p l e R s m args below meth c T' (locs ++ [⟨a, Jvm.RoadKit.slotOf Z O n d⟩]) cells slots → T'.heap = h' → Wr h h' a (Jvm.RoadKit.slotOf Z O n d) v → G (T'.setTop (mkF m q Ls S))) : G (T.setTop (mkF m pc Ls (v :: .ref a :: S))) := by
  have hZ : Z.Warmed39 s.vm := hZh.wide
  subst hq
  obtain ⟨T', h', X', e', W', st⟩ := putF X hx hZ hown w via eT F E L wi hty hn hf (g := mkF m pc Ls (v :: .ref a :: S)) rfl rfl (hb hby hd)
  exact K _ _ st (k T' h' X' e' W')
theorem k_newO (K : Cl p e below G) (X : Stand p l e R s m args below meth c T locs cells slots) (hx : p.tables.exec = Jvm.exec) (hby : c.code = bs) (hZh : Z.WarmedH s.vm) {own C : String} {i n : Nat} (hown : s.vm.findClass own = some m.cls) (w : (Jvm.Cond.classLink own i C).before a0 Z = true) (wi : (Jvm.Cond.instantiable C n).before a0 Z = true) (wz : (Jvm.Cond.initialized C).before a0 Z = true) (eT : T.heap = h) (hd : decode bs pc = .ok (.new i, 3)) (hq : pc + 3 = q) (hc : cells + 1 ≤ R.cells) (hl : slots + n ≤ R.slots)
    (k : ∀ T' h' b, Stand p l e R s m args below meth c T' locs (cells + 1) (slots + n) → T'.heap = h' → Ext h h' → b = h.size → Exa Z h' b C → (∀ {O nm d : String} {ty : FieldType}, Laid Z a0 C O nm d → parseFieldDescriptor d = some ty → Fld Z h' b O nm d (defaultValue ty)) → G (T'.setTop (mkF m q Ls (.ref b :: S)))) : G (T.setTop (mkF m pc Ls S)) := by
  have hZ : Z.Warmed39 s.vm := hZh.wide
  subst hq
  obtain ⟨T', h', X', e', E', A', D', -, st⟩ := newO X hx hZ hown w wi wz eT (g := mkF m pc Ls S) rfl (hb hby hd) hc hl
  exact K _ _ st (k T' h' _ X' e' E' rfl A' D')
theorem k_initO (K : Cl p e below G) (X : Stand p l e R s m args below meth c T locs cells slots) (hx : p.tables.exec = Jvm.exec) (hby : c.code = bs) (hZh : Z.WarmedH s.vm) {own : String} {i : Nat} (hown : s.vm.findClass own = some m.cls) (w1 : (Jvm.Cond.methodLink own i ⟨"java/lang/Object", "<init>", "()V"⟩).before a0 Z = true) (w2 : (Jvm.Cond.instanceMethod ⟨"java/lang/Object", "<init>", "()V"⟩).before a0 Z = true) (w3 : (Jvm.Cond.code ⟨"java/lang/Object", "<init>", "()V"⟩ object_method_1_code 1 none).before a0 Z = true) (eT : T.heap = h) {a : Addr} (hd : decode bs pc = .ok (.invokespecial i, 3)) (hsz : Ls.size = c.maxLocals) (hq : pc + 3 = q) (hf : 1 ≤ R.frames) (hlo : (S.map fun v => v.category).sum + 12 ≤ R.locals)
    (k : ∀ T', Stand p l e R s m args below meth c T' locs cells slots → T'.heap = h → G (T'.setTop (mkF m q Ls S))) : G (T.setTop (mkF m pc Ls (.ref a :: S))) := by
  have hZ : Z.Warmed39 s.vm := hZh.wide
  subst hq
  obtain ⟨T', X', e', st⟩ := initO X hx hZ hown w1 w2 w3 eT (g := mkF m pc Ls (.ref a :: S)) rfl hsz rfl (hb hby hd) hf (W := (S.map fun v => v.category).sum) (by show 2 * 0 + _ ≤ _; exact Nat.le_of_eq (Nat.zero_add _)) hlo
  exact K _ _ st (k T' X' e')
theorem k_cast (K : Cl p e below G) (X : Stand p l e R s m args below meth c T locs cells slots) (hx : p.tables.exec = Jvm.exec) (hby : c.code = bs) (hZh : Z.WarmedH s.vm) {own C : String} {i : Nat} (hown : s.vm.findClass own = some m.cls) (w : (Jvm.Cond.classLink own i C).before a0 Z = true) (eT : T.heap = h) {a : Addr} (I : Ins Z h a C true) (hd : decode bs pc = .ok (.checkcast i, 3)) (hq : pc + 3 = q) (k : ∀ T', Stand p l e R s m args below meth c T' locs cells slots → T'.heap = h → G (T'.setTop (mkF m q Ls (.ref a :: S)))) : G (T.setTop (mkF m pc Ls (.ref a :: S))) := by
  have hZ : Z.Warmed39 s.vm := hZh.wide
  subst hq
  obtain ⟨T', X', e', st⟩ := castY X hx hZ hown w eT I (g := mkF m pc Ls (.ref a :: S)) rfl rfl (hb hby hd)
  exact K _ _ st (k T' X' e')
def Con (l : Launch) (Z : State) (y : MethodName) (bytes : ByteArray) (maxL : Nat) (ret : Option FieldType) (rm : Room) (ws : List Jvm.Cond) (as' : Array Value) (h : Heap) (Q : PQ) : Prop :=
  MetFree l y (head1 (Jvm.Cond.code y bytes maxL ret :: ws) rm) (fun a U => a = as' ∧ Z.WarmedH U.vm ∧ U.heap = h) (fun _ _ _ _ _ => True) (fun _ U o U' => ∃ v L, o = .returned v ∧ Q v U'.heap L ∧ FrameEnd U o U' L rm.cells rm.slots)
theorem Con.of {y : MethodName} {bytes : ByteArray} {maxL : Nat} {ret : Option FieldType} {rm : Room} {ws : List Jvm.Cond} {as' : Array Value} {Q : PQ} (hpl : plainFor y = true) (Ls : Array Slot) (hef : ∀ m, entryFrame m as' maxL = mkF m 0 Ls [])
    (body : ∀ p e s m below meth c s₁, Cl p e below (Go p e below s rm.cells rm.slots Q) → p.tables.exec = Jvm.exec → c.code = bytes → c.maxLocals = maxL → s.vm.findClass y.cls = some m.cls → meth.name = y.name → meth.sig.returnType = ret → meth.locks = false → Z.WarmedH s.vm → Stand p l e rm s m as' below meth c s₁ [] 0 0 → s₁.heap = h → s.methodNamed? y = some m →
      Go p e below s rm.cells rm.slots Q (s₁.setTop (mkF m 0 Ls []))) : Con l Z y bytes maxL ret rm ws as' h Q := by
  refine MetFree.of_bodySF hpl hisR ?_
  intro p e s m args below meth c s₁ Bd hml0 hP hK
  obtain ⟨rfl, hZ, hh⟩ := hP
  have r := body p e s m below meth c s₁ Go.cl Bd.exec Bd.bytes hml0 (findClass_of_methodNamed Bd.named) (name_of_methodNamed Bd.named Bd.method).1 Bd.returns Bd.notSynchronized hZ (Stand.of_body Bd) (by rw [← hh, Bd.state]; rfl) Bd.named
  rw [← hef m] at r
  exact r
theorem Con.back {y : MethodName} {bytes : ByteArray} {maxL : Nat} {ret : Option FieldType} {rm : Room} {as' : Array Value} {Q : PQ} {len W : Nat} (K : Con l Z y bytes maxL ret rm [] as' h Q)
    (hZ : Z.WarmedH s.vm) (wc : (Jvm.Cond.code y bytes maxL ret).before a0 Z = true) (wz : (Jvm.Cond.initialized y.cls).before a0 Z = true) (hf : rm.frames + 1 ≤ R.frames) (hl : W + (maxL + 11) + rm.locals ≤ R.locals) :
    Back l R p e below s args y len W (fun A a => a = as' ∧ A.U.heap = h ∧ A.cells + rm.cells ≤ R.cells ∧ A.slots + rm.slots ≤ R.slots)
      (fun A _ v B => ∃ L, Q v B.U.heap L ∧ B.locs = A.locs ++ L ∧ B.cells = A.cells + rm.cells ∧ B.slots = A.slots + rm.slots) :=
  Back.of_free (bytes := bytes) (maxL := maxL) (ret := ret) (E := fun _ _ o t L k n => k = rm.cells ∧ n = rm.slots ∧ ∃ v, o = .returned v ∧ Q v t.heap L) K hf hl
    (fun m meth c A a Y hp => have hU : Z.Warmed39 A.U.vm := wtrans hZ.wide Y.warmed
      ⟨by show (Cond.and _ .tt).before a A.U = true; rw [Cond.before_and, mv hU wc]; rfl, mv hU wc, mv hU wz, hp.2.2.1, hp.2.2.2⟩)
    (fun m meth c A a g mk Y hp => ⟨hp.1, State.WarmedH.trans hZ Y.warmed, hp.2.1⟩) (fun _ _ _ _ _ _ _ _ _ => trivial)
    (fun _ _ _ _ ⟨v, L, h1, h2, h3⟩ => ⟨L, _, _, h3, rfl, rfl, v, h1, h2⟩)
    (fun m meth c A a g mk v t L k n Y hp _ _ ⟨e1, e2, v', e3, e4⟩ => by cases e3; subst e1 e2; exact ⟨L, e4, rfl, rfl, rfl⟩)
theorem k_callS (K : Cl p e below G) (X : Stand p l e R s m args below meth c T locs cells slots) (hx : p.tables.exec = Jvm.exec) (hby : c.code = bs) (hZh : Z.WarmedH s.vm) {own : String} {i : Nat} {y : MethodName} {bytes : ByteArray} {maxL : Nat} {ret : Option FieldType} {rm : Room} {Q : PQ} {as' : Array Value} {ps : List FieldType} {r : Option FieldType} (argsL rest : List Value) (hown : s.vm.findClass own = some m.cls) (w1 : (Jvm.Cond.methodLink own i y).before a0 Z = true) (w2 : (Jvm.Cond.static y).before a0 Z = true) (w3 : (Jvm.Cond.initialized y.cls).before a0 Z = true) (w4 : (Jvm.Cond.code y bytes maxL ret).before a0 Z = true)
    (C : Con l Z y bytes maxL ret rm [] as' h Q) (eT : T.heap = h) (has : argsL.toArray = as') (hs : S = argsL.reverse ++ rest) (hps : parseMethodDescriptor y.desc = some ⟨ps, r⟩) (hl : argsL.length = ps.length) (hd : decode bs pc = .ok (.invokestatic i, 3)) (hsz : Ls.size = c.maxLocals) (hq : pc + 3 = q) (hy : y.cls ≠ "java/lang/invoke/MethodHandle" ∧ y.cls ≠ "java/lang/invoke/VarHandle") (hf : rm.frames + 1 ≤ R.frames) (hlo : (rest.map fun v => v.category).sum + (maxL + 11) + rm.locals ≤ R.locals) (hc : cells + rm.cells ≤ R.cells) (hn : slots + rm.slots ≤ R.slots)
    (k : ∀ v T' L, Stand p l e R s m args below meth c T' (locs ++ L) (cells + rm.cells) (slots + rm.slots) → Q v T'.heap L → G (T'.setTop (mkF m q Ls (v.toList ++ rest)))) : G (T.setTop (mkF m pc Ls S)) := by
  have hZ : Z.Warmed39 s.vm := hZh.wide
  subst has hs hq
  obtain ⟨v, _, ⟨T', L', k', n'⟩, -, X', ⟨Lc, hQ, l1, y1, z1⟩, st⟩ := Jvm.LawKit.callS X hx (y := y) hown (mvT hZ w1) (mvT hZ w2) (mvT hZ w3) (mvT hZ w4) hy (C.back (W := (rest.map fun v => v.category).sum) hZh w4 w3 hf hlo) (g := mkF m pc Ls (argsL.reverse ++ rest)) rfl hsz (argsL := argsL) (rest := rest) (lenOf hps hl) rfl (by show 2 * 0 + _ ≤ _; exact Nat.le_of_eq (Nat.zero_add _)) (hb hby hd) (fun _ _ => ⟨rfl, eT, hc, hn⟩)
  dsimp only at X' l1 y1 z1 st hQ
  subst l1 y1 z1
  exact K _ _ st (k v T' Lc X' hQ)
theorem k_callP (K : Cl p e below G) (X : Stand p l e R s m args below meth c T locs cells slots) (hx : p.tables.exec = Jvm.exec) (hby : c.code = bs) (hZh : Z.WarmedH s.vm) {own : String} {i : Nat} {y : MethodName} {bytes : ByteArray} {maxL : Nat} {rm : Room} {Q : PQ} {as' : Array Value} {ps : List FieldType} {r : Option FieldType} (a : Addr) (argsL rest : List Value) (hown : s.vm.findClass own = some m.cls) (w1 : (Jvm.Cond.methodLink own i y).before a0 Z = true) (w2 : (Jvm.Cond.instanceMethod y).before a0 Z = true) (w3 : (Jvm.Cond.initialized y.cls).before a0 Z = true) (w4 : (Jvm.Cond.code y bytes maxL none).before a0 Z = true) (hy1 : y.name = "<init>")
    (C : Con l Z y bytes maxL none rm [] as' h Q) (eT : T.heap = h) (has : (.ref a :: argsL).toArray = as') (hs : S = argsL.reverse ++ .ref a :: rest) (hps : parseMethodDescriptor y.desc = some ⟨ps, r⟩) (hl : argsL.length = ps.length) (hd : decode bs pc = .ok (.invokespecial i, 3)) (hsz : Ls.size = c.maxLocals) (hq : pc + 3 = q) (hy : y.cls ≠ "java/lang/invoke/MethodHandle" ∧ y.cls ≠ "java/lang/invoke/VarHandle") (hf : rm.frames + 1 ≤ R.frames) (hlo : (rest.map fun v => v.category).sum + (maxL + 11) + rm.locals ≤ R.locals) (hc : cells + rm.cells ≤ R.cells) (hn : slots + rm.slots ≤ R.slots)
    (k : ∀ v T' L, Stand p l e R s m args below meth c T' (locs ++ L) (cells + rm.cells) (slots + rm.slots) → Q v T'.heap L → G (T'.setTop (mkF m q Ls (v.toList ++ rest)))) : G (T.setTop (mkF m pc Ls S)) := by
  have hZ : Z.Warmed39 s.vm := hZh.wide
  subst has hs hq
  obtain ⟨v, _, ⟨T', L', k', n'⟩, -, X', ⟨Lc, hQ, l1, y1, z1⟩, st⟩ := X.specialBack hx (y := y) hy1 hown (mvT hZ w1) (mvT hZ w2) (mvT hZ w4) hy (C.back (W := (rest.map fun v => v.category).sum) hZh w4 w3 hf hlo) (g := mkF m pc Ls (argsL.reverse ++ .ref a :: rest)) rfl hsz (Steps.refl _) (a := a) (argsL := argsL) (rest := rest) (lenOf hps hl) rfl (by show 2 * 0 + _ ≤ _; exact Nat.le_of_eq (Nat.zero_add _)) (hb hby hd) (fun _ _ => ⟨rfl, eT, hc, hn⟩)
  dsimp only at X' l1 y1 z1 st hQ
  subst l1 y1 z1
  exact K _ _ (fun t k => st.trans k) (k v T' Lc X' hQ)
theorem k_callV (K : Cl p e below G) (X : Stand p l e R s m args below meth c T locs cells slots) (hx : p.tables.exec = Jvm.exec) (hby : c.code = bs) (hZh : Z.WarmedH s.vm) {own : String} {i : Nat} {y : MethodName} {bytes : ByteArray} {maxL : Nat} {ret : Option FieldType} {rm : Room} {Q : PQ} {as' : Array Value} {ps : List FieldType} {r : Option FieldType} {z : MethodName} {C0 : String} (a : Addr) (argsL rest : List Value) (hown : s.vm.findClass own = some m.cls) (w1 : (Jvm.Cond.methodLink own i y).before a0 Z = true) (w2 : (Jvm.Cond.declares y).before a0 Z = true) (hnf : NotFace s y) (w5 : (Jvm.Cond.selects C0 y z).before a0 Z = true) (w6 : (Jvm.Cond.instanceMethod z).before a0 Z = true) (w3 : (Jvm.Cond.initialized z.cls).before a0 Z = true) (w4 : (Jvm.Cond.code z bytes maxL ret).before a0 Z = true)
    (C : Con l Z z bytes maxL ret rm [] as' h Q) (eT : T.heap = h) (E : Exa Z h a C0) (has : (.ref a :: argsL).toArray = as') (hs : S = argsL.reverse ++ .ref a :: rest) (hps : parseMethodDescriptor y.desc = some ⟨ps, r⟩) (hl : argsL.length = ps.length) (hd : decode bs pc = .ok (.invokevirtual i, 3)) (hsz : Ls.size = c.maxLocals) (hq : pc + 3 = q) (hy : y.cls ≠ "java/lang/invoke/MethodHandle" ∧ y.cls ≠ "java/lang/invoke/VarHandle") (hf : rm.frames + 1 ≤ R.frames) (hlo : (rest.map fun v => v.category).sum + (maxL + 11) + rm.locals ≤ R.locals) (hc : cells + rm.cells ≤ R.cells) (hn : slots + rm.slots ≤ R.slots)
    (k : ∀ v T' L, Stand p l e R s m args below meth c T' (locs ++ L) (cells + rm.cells) (slots + rm.slots) → Q v T'.heap L → G (T'.setTop (mkF m q Ls (v.toList ++ rest)))) : G (T.setTop (mkF m pc Ls S)) := by
  have hZ : Z.Warmed39 s.vm := hZh.wide
  subst has hs hq
  obtain ⟨cq, kq, qa, qb, qc⟩ := isOf hZ eT E
  obtain ⟨v, _, ⟨T', L', k', n'⟩, -, X', ⟨Lc, hQ, l1, y1, z1⟩, st⟩ := X.virtualBack hx (y := y) (z := z) hown (mvT hZ w1) (mvT hZ w2) hnf (mvT hZ w5) (mvT hZ w6) hy (C.back (W := (rest.map fun v => v.category).sum) hZh w4 w3 hf hlo) qa qc (g := mkF m pc Ls (argsL.reverse ++ .ref a :: rest)) rfl hsz (Steps.refl _) (argsL := argsL) (rest := rest) (lenOf hps hl) rfl (by show 2 * 0 + _ ≤ _; exact Nat.le_of_eq (Nat.zero_add _)) (hb hby hd) (fun _ _ => ⟨rfl, eT, hc, hn⟩)
  dsimp only at X' l1 y1 z1 st hQ
  subst l1 y1 z1
  exact K _ _ (fun t k => st.trans k) (k v T' Lc X' hQ)
theorem k_callR (K : Cl p e below G) (X : Stand p l e R s m args below meth c T locs cells slots) (hx : p.tables.exec = Jvm.exec) (hby : c.code = bs) (hZh : Z.WarmedH s.vm) {own : String} {i : Nat} {y : MethodName} {bytes : ByteArray} {maxL : Nat} {ret : Option FieldType} {rm : Room} {Q : PQ} {as' : Array Value} {ps : List FieldType} {r : Option FieldType} (a : Addr) (argsL rest : List Value) (hown : s.vm.findClass own = some m.cls) (w1 : (Jvm.Cond.methodLink own i y).before a0 Z = true) (w2 : (Jvm.Cond.instanceMethod y).before a0 Z = true) (w5 : (Jvm.Cond.selects y.cls y y).before a0 Z = true) (w6 : (Jvm.Cond.privateMethod y).before a0 Z = true) (w3 : (Jvm.Cond.initialized y.cls).before a0 Z = true) (w4 : (Jvm.Cond.code y bytes maxL ret).before a0 Z = true)
    (C : Con l Z y bytes maxL ret rm [] as' h Q) (eT : T.heap = h) {C0 : String} (E : Exa Z h a C0) (has : (.ref a :: argsL).toArray = as') (hs : S = argsL.reverse ++ .ref a :: rest) (hps : parseMethodDescriptor y.desc = some ⟨ps, r⟩) (hl : argsL.length = ps.length) (hd : decode bs pc = .ok (.invokevirtual i, 3)) (hsz : Ls.size = c.maxLocals) (hq : pc + 3 = q) (hy : y.cls ≠ "java/lang/invoke/MethodHandle" ∧ y.cls ≠ "java/lang/invoke/VarHandle") (hf : rm.frames + 1 ≤ R.frames) (hlo : (rest.map fun v => v.category).sum + (maxL + 11) + rm.locals ≤ R.locals) (hc : cells + rm.cells ≤ R.cells) (hn : slots + rm.slots ≤ R.slots)
    (k : ∀ v T' L, Stand p l e R s m args below meth c T' (locs ++ L) (cells + rm.cells) (slots + rm.slots) → Q v T'.heap L → G (T'.setTop (mkF m q Ls (v.toList ++ rest)))) : G (T.setTop (mkF m pc Ls S)) := by
  have hZ : Z.Warmed39 s.vm := hZh.wide
  subst has hs hq
  obtain ⟨cq, qa, qc⟩ := E.cell
  obtain ⟨v, _, ⟨T', L', k', n'⟩, -, X', ⟨Lc, hQ, l1, y1, z1⟩, st⟩ := X.privateBack hx (y := y) hown (mvT hZ w1) (mvT hZ w2) (mvT hZ w5) (Cond.privateMethod_at (args := #[]) (mvP hZ w6)) (mvT hZ w4) hy (C.back (W := (rest.map fun v => v.category).sum) hZh w4 w3 hf hlo) (g := mkF m pc Ls (argsL.reverse ++ .ref a :: rest)) rfl hsz (Steps.refl _) (a := a) (by rw [eT]; exact qa) qc (argsL := argsL) (rest := rest) (lenOf hps hl) rfl (by show 2 * 0 + _ ≤ _; exact Nat.le_of_eq (Nat.zero_add _)) (hb hby hd) (fun _ _ => ⟨rfl, eT, hc, hn⟩)
  dsimp only at X' l1 y1 z1 st hQ
  subst l1 y1 z1
  exact K _ _ (fun t k => st.trans k) (k v T' Lc X' hQ)
theorem k_callSU (K : Cl p e below G) (X : Stand p l e R s m args below meth c T locs cells slots) (hx : p.tables.exec = Jvm.exec) (hby : c.code = bs) (hZh : Z.WarmedH s.vm) {own : String} {i : Nat} {y : MethodName} {bytes : ByteArray} {maxL : Nat} {ret : Option FieldType} {rm : Room} {Q : PQ} {as' : Array Value} {ps : List FieldType} {r : Option FieldType} {ow : String} (argsL rest : List Value) (hown : s.vm.findClass own = some m.cls) (w1 : (Jvm.Cond.methodLink own i y).before a0 Z = true) (w5 : (Jvm.Cond.sameMethod y.cls ow y.name y.desc).before a0 Z = true) (w2 : (Jvm.Cond.static ⟨ow, y.name, y.desc⟩).before a0 Z = true) (w3 : (Jvm.Cond.initialized ow).before a0 Z = true) (w4 : (Jvm.Cond.code ⟨ow, y.name, y.desc⟩ bytes maxL ret).before a0 Z = true)
    (C : Con l Z ⟨ow, y.name, y.desc⟩ bytes maxL ret rm [] as' h Q) (eT : T.heap = h) (has : argsL.toArray = as') (hs : S = argsL.reverse ++ rest) (hps : parseMethodDescriptor y.desc = some ⟨ps, r⟩) (hl : argsL.length = ps.length) (hd : decode bs pc = .ok (.invokestatic i, 3)) (hsz : Ls.size = c.maxLocals) (hq : pc + 3 = q) (hy : ow ≠ "java/lang/invoke/MethodHandle" ∧ ow ≠ "java/lang/invoke/VarHandle") (hf : rm.frames + 1 ≤ R.frames) (hlo : (rest.map fun v => v.category).sum + (maxL + 11) + rm.locals ≤ R.locals) (hc : cells + rm.cells ≤ R.cells) (hn : slots + rm.slots ≤ R.slots)
    (k : ∀ v T' L, Stand p l e R s m args below meth c T' (locs ++ L) (cells + rm.cells) (slots + rm.slots) → Q v T'.heap L → G (T'.setTop (mkF m q Ls (v.toList ++ rest)))) : G (T.setTop (mkF m pc Ls S)) := by
  have hZ : Z.Warmed39 s.vm := hZh.wide
  subst has hs hq
  have wc := mvT (args := args) hZ w4
  obtain ⟨mk, hnamed⟩ := Cond.code_named wc
  obtain ⟨methM, cM, hmethM, -, -, -, -, -, -, hsigM⟩ := Cond.code_spec hnamed wc
  obtain ⟨v, _, ⟨T', L', k', n'⟩, -, X', ⟨Lc, hQ, l1, y1, z1⟩, st⟩ := X.staticBackUp hx (x := y) (owner := ow) hown (mvT hZ w1) (mvT hZ w5) (mvT hZ w2) (mvT hZ w3) hnamed hmethM hsigM hy (C.back (W := (rest.map fun v => v.category).sum) hZh w4 w3 hf hlo) (g := mkF m pc Ls (argsL.reverse ++ rest)) rfl hsz (Steps.refl _) (argsL := argsL) (rest := rest) (lenOf hps hl) rfl (by show 2 * 0 + _ ≤ _; exact Nat.le_of_eq (Nat.zero_add _)) (hb hby hd) (fun _ _ => ⟨rfl, eT, hc, hn⟩)
  dsimp only at X' l1 y1 z1 st hQ
  subst l1 y1 z1
  exact K _ _ (fun t k => st.trans k) (k v T' Lc X' hQ)
theorem k_callI (K : Cl p e below G) (X : Stand p l e R s m args below meth c T locs cells slots) (hx : p.tables.exec = Jvm.exec) (hby : c.code = bs) (hZh : Z.WarmedH s.vm) {own : String} {i : Nat} {y : MethodName} {bytes : ByteArray} {maxL : Nat} {ret : Option FieldType} {rm : Room} {Q : PQ} {as' : Array Value} {ps : List FieldType} {r : Option FieldType} {z : MethodName} {C0 : String} {cnt : Nat} (a : Addr) (argsL rest : List Value) (hown : s.vm.findClass own = some m.cls) (w1 : (Jvm.Cond.methodLink own i y).before a0 Z = true) (w2 : (Jvm.Cond.declares y).before a0 Z = true) (w7 : (Jvm.Cond.interfaceMethod y.cls y.cls y.name y.desc).before args s = true) (w5 : (Jvm.Cond.selects C0 y z).before a0 Z = true) (w6 : (Jvm.Cond.instanceMethod z).before a0 Z = true) (w8 : (Jvm.Cond.publicMethod z).before a0 Z = true) (w9 : (Jvm.Cond.unhidden C0 y.name y.desc).before a0 Z = true) (wa : (Jvm.Cond.castable C0 y.cls).before a0 Z = true) (w3 : (Jvm.Cond.initialized z.cls).before a0 Z = true) (w4 : (Jvm.Cond.code z bytes maxL ret).before a0 Z = true)
    (C : Con l Z z bytes maxL ret rm [] as' h Q) (eT : T.heap = h) (E : Exa Z h a C0) (has : (.ref a :: argsL).toArray = as') (hs : S = argsL.reverse ++ .ref a :: rest) (hps : parseMethodDescriptor y.desc = some ⟨ps, r⟩) (hl : argsL.length = ps.length) (hd : decode bs pc = .ok (.invokeinterface i cnt, 5)) (hsz : Ls.size = c.maxLocals) (hq : pc + 5 = q) (hy : y.cls ≠ "java/lang/invoke/MethodHandle" ∧ y.cls ≠ "java/lang/invoke/VarHandle") (hf : rm.frames + 1 ≤ R.frames) (hlo : (rest.map fun v => v.category).sum + (maxL + 11) + rm.locals ≤ R.locals) (hc : cells + rm.cells ≤ R.cells) (hn : slots + rm.slots ≤ R.slots)
    (k : ∀ v T' L, Stand p l e R s m args below meth c T' (locs ++ L) (cells + rm.cells) (slots + rm.slots) → Q v T'.heap L → G (T'.setTop (mkF m q Ls (v.toList ++ rest)))) : G (T.setTop (mkF m pc Ls S)) := by
  have hZ : Z.Warmed39 s.vm := hZh.wide
  subst has hs hq
  obtain ⟨cq, kq, qa, qb, qc⟩ := isOf hZ eT E
  obtain ⟨v, _, ⟨T', L', k', n'⟩, -, X', ⟨Lc, hQ, l1, y1, z1⟩, st⟩ := X.interfaceBack hx (xi := y) (y := z) hown (mvT hZ w1) (mvT hZ w2) w7 (mvT hZ w5) (mvT hZ w6) (mvT hZ w8) (mvT hZ w9) (mvT hZ wa) hy (C.back (W := (rest.map fun v => v.category).sum) hZh w4 w3 hf hlo) qa qb qc (g := mkF m pc Ls (argsL.reverse ++ .ref a :: rest)) rfl hsz (Steps.refl _) (argsL := argsL) (rest := rest) (lenOf hps hl) rfl (by show 2 * 0 + _ ≤ _; exact Nat.le_of_eq (Nat.zero_add _)) (hb hby hd) (fun _ _ => ⟨rfl, eT, hc, hn⟩)
  dsimp only at X' l1 y1 z1 st hQ
  subst l1 y1 z1
  exact K _ _ (fun t k => st.trans k) (k v T' Lc X' hQ)
end OwnBase
section OwnArr
variable {p : Program} {l : Launch} {e : Env} {R : Room} {s : State} {m : MethodId} {args : Array Value} {below : List Frame} {meth : Method} {c : Code} {T : State} {locs : List Loc} {cells slots : Nat} {Z : State} {a0 : Array Value} {h h' : Heap} {a b : Addr} {ty : FieldType} {vs : List Value} {v : Value} {sl : Nat} {ws : List Addr} {bs : ByteArray} {pc q : Nat} {Ls : Array Slot} {S : List Value} {G : State → Prop}
def Av (Z : State) (h : Heap) (a : Addr) (ty : FieldType) (vs : List Value) : Prop := ∃ cl : Cell, Arr Z h a cl ty ∧ cl.slots = vs.toArray
theorem Av.lt (F : Av Z h a ty vs) : a < h.size := by obtain ⟨_, A, -⟩ := F; exact A.lt
theorem Av.ext (F : Av Z h a ty vs) (E : Ext h h') : Av Z h' a ty vs := by obtain ⟨c, A, r⟩ := F; exact ⟨c, A.ext E, r⟩
theorem Av.other (F : Av Z h b ty vs) (W : Wr h h' a sl v) (q : b ≠ a) : Av Z h' b ty vs := by obtain ⟨c, A, r⟩ := F; exact ⟨c, A.other W q, r⟩
theorem Av.keep (F : Av Z h a ty vs) (K : Keep h h' ws) (q : a ∉ ws) : Av Z h' a ty vs := by obtain ⟨c, A, r⟩ := F; exact ⟨c, ⟨K.2.1 a c A.1 q, A.2⟩, r⟩
theorem Av.new {k : ClassId} {z : Int32} {n : Nat} (A : Arr Z h a (newA k ty z) ty) (hn : z.toNatClampNeg = n) : Av Z h a ty (List.replicate n (defaultValue ty)) := ⟨_, A, by subst hn; simp [newA]⟩
theorem Av.set (F : Av Z h a ty vs) (W : Wr h h' a sl v) : Av Z h' a ty (vs.set sl v) := by
  obtain ⟨c, A, r⟩ := F
  exact ⟨_, A.same W, by simp [Cell.setSlot, r]⟩
theorem Av.ofArv {k : ClassId} {z : Int32} {d : Value} (A : Arv Z h a k ty z vs d) (hl : z.toNatClampNeg = vs.length) : Av Z h a ty vs := by
  obtain ⟨cl, A, -, S, -, H, -⟩ := A
  refine ⟨cl, A, Array.ext_getElem? fun i => ?_⟩
  by_cases q : i < vs.length
  · have := H i (by omega)
    rw [this]
    simp [q]
  · rw [Array.getElem?_eq_none (by omega), List.getElem?_toArray, List.getElem?_eq_none (by omega)]
theorem own_in {cl : Cell} {j : Int32} (r : cl.slots = vs.toArray) (h0 : ¬ j < 0) (h1 : j.toNatClampNeg < vs.length) : ¬ (j < 0 ∨ cl.slots.size ≤ j.toNatClampNeg) := by
  rintro (q | q)
  · exact h0 q
  · rw [r, List.size_toArray] at q; omega
theorem own_at {cl : Cell} {i : Nat} (r : cl.slots = vs.toArray) (hv : vs[i]? = some v) : cl.slots[i]? = some v := by rw [r]; simpa using hv
theorem own_ltl0 {i : Nat} (hv : vs[i]? = some v) : i < vs.length := (List.getElem?_eq_some_iff.mp hv).1
theorem k_ldI (K : Cl p e below G) (X : Stand p l e R s m args below meth c T locs cells slots) (hx : p.tables.exec = Jvm.exec) (hby : c.code = bs) (hZh : Z.WarmedH s.vm) (eT : T.heap = h) (F : Av Z h a .int vs) {j : Int32} (h0 : ¬ j < 0) (hv : vs[j.toNatClampNeg]? = some v) (hd : decode bs pc = .ok (.iaload, 1)) (hq : pc + 1 = q) (hr : G (T.setTop (mkF m q Ls (v :: S)))) : G (T.setTop (mkF m pc Ls (.int j :: .ref a :: S))) := by
  have hZ : Z.Warmed39 s.vm := hZh.wide
  subst hq
  obtain ⟨cl, A, r⟩ := F
  exact K _ _ (X.iaload hx (j := j) (v := v) (by rw [eT]; exact A.1) (State.isArrayOf_alike hZ.alike A.2.1) A.2.2 (own_in r h0 (own_ltl0 hv)) (own_at r hv) (g := mkF m pc Ls (.int j :: .ref a :: S)) rfl rfl (hb hby hd)) hr
theorem k_ldJ (K : Cl p e below G) (X : Stand p l e R s m args below meth c T locs cells slots) (hx : p.tables.exec = Jvm.exec) (hby : c.code = bs) (hZh : Z.WarmedH s.vm) (eT : T.heap = h) (F : Av Z h a .long vs) {j : Int32} (h0 : ¬ j < 0) (hv : vs[j.toNatClampNeg]? = some v) (hd : decode bs pc = .ok (.laload, 1)) (hq : pc + 1 = q) (hr : G (T.setTop (mkF m q Ls (v :: S)))) : G (T.setTop (mkF m pc Ls (.int j :: .ref a :: S))) := by
  have hZ : Z.Warmed39 s.vm := hZh.wide
  subst hq
  obtain ⟨cl, A, r⟩ := F
  exact K _ _ (X.laload hx (j := j) (v := v) (by rw [eT]; exact A.1) (State.isArrayOf_alike hZ.alike A.2.1) A.2.2 (own_in r h0 (own_ltl0 hv)) (own_at r hv) (g := mkF m pc Ls (.int j :: .ref a :: S)) rfl rfl (hb hby hd)) hr
theorem k_ldC (K : Cl p e below G) (X : Stand p l e R s m args below meth c T locs cells slots) (hx : p.tables.exec = Jvm.exec) (hby : c.code = bs) (hZh : Z.WarmedH s.vm) (eT : T.heap = h) (F : Av Z h a .char vs) {j : Int32} (h0 : ¬ j < 0) (hv : vs[j.toNatClampNeg]? = some v) (hd : decode bs pc = .ok (.caload, 1)) (hq : pc + 1 = q) (hr : G (T.setTop (mkF m q Ls (v :: S)))) : G (T.setTop (mkF m pc Ls (.int j :: .ref a :: S))) := by
  have hZ : Z.Warmed39 s.vm := hZh.wide
  subst hq
  obtain ⟨cl, A, r⟩ := F
  exact K _ _ (X.caload hx (j := j) (v := v) (by rw [eT]; exact A.1) (State.isArrayOf_alike hZ.alike A.2.1) A.2.2 (own_in r h0 (own_ltl0 hv)) (own_at r hv) (g := mkF m pc Ls (.int j :: .ref a :: S)) rfl rfl (hb hby hd)) hr
theorem k_ldB (K : Cl p e below G) (X : Stand p l e R s m args below meth c T locs cells slots) (hx : p.tables.exec = Jvm.exec) (hby : c.code = bs) (hZh : Z.WarmedH s.vm) (eT : T.heap = h) (F : Av Z h a .byte vs) {j : Int32} (h0 : ¬ j < 0) (hv : vs[j.toNatClampNeg]? = some v) (hd : decode bs pc = .ok (.baload, 1)) (hq : pc + 1 = q) (hr : G (T.setTop (mkF m q Ls (v :: S)))) : G (T.setTop (mkF m pc Ls (.int j :: .ref a :: S))) := by
  have hZ : Z.Warmed39 s.vm := hZh.wide
  subst hq
  obtain ⟨cl, A, r⟩ := F
  exact K _ _ (X.baloadBytes hx (j := j) (v := v) (by rw [eT]; exact A.1) (State.isArrayOf_alike hZ.alike A.2.1) A.2.2 (own_in r h0 (own_ltl0 hv)) (own_at r hv) (g := mkF m pc Ls (.int j :: .ref a :: S)) rfl rfl (hb hby hd)) hr
theorem k_ldZ (K : Cl p e below G) (X : Stand p l e R s m args below meth c T locs cells slots) (hx : p.tables.exec = Jvm.exec) (hby : c.code = bs) (hZh : Z.WarmedH s.vm) (eT : T.heap = h) (F : Av Z h a .boolean vs) {j : Int32} (h0 : ¬ j < 0) (hv : vs[j.toNatClampNeg]? = some v) (hd : decode bs pc = .ok (.baload, 1)) (hq : pc + 1 = q) (hr : G (T.setTop (mkF m q Ls (v :: S)))) : G (T.setTop (mkF m pc Ls (.int j :: .ref a :: S))) := by
  have hZ : Z.Warmed39 s.vm := hZh.wide
  subst hq
  obtain ⟨cl, A, r⟩ := F
  exact K _ _ (X.baloadBooleans hx (j := j) (v := v) (by rw [eT]; exact A.1) (State.isArrayOf_alike hZ.alike A.2.1) A.2.2 (own_in r h0 (own_ltl0 hv)) (own_at r hv) (g := mkF m pc Ls (.int j :: .ref a :: S)) rfl rfl (hb hby hd)) hr
theorem k_ldD (K : Cl p e below G) (X : Stand p l e R s m args below meth c T locs cells slots) (hx : p.tables.exec = Jvm.exec) (hby : c.code = bs) (hZh : Z.WarmedH s.vm) (eT : T.heap = h) (F : Av Z h a .double vs) {j : Int32} (h0 : ¬ j < 0) (hv : vs[j.toNatClampNeg]? = some v) (hd : decode bs pc = .ok (.daload, 1)) (hq : pc + 1 = q) (hr : G (T.setTop (mkF m q Ls (v :: S)))) : G (T.setTop (mkF m pc Ls (.int j :: .ref a :: S))) := by
  have hZ : Z.Warmed39 s.vm := hZh.wide
  subst hq
  obtain ⟨cl, A, r⟩ := F
  exact K _ _ (X.daload hx (j := j) (v := v) (by rw [eT]; exact A.1) (State.isArrayOf_alike hZ.alike A.2.1) A.2.2 (own_in r h0 (own_ltl0 hv)) (own_at r hv) (g := mkF m pc Ls (.int j :: .ref a :: S)) rfl rfl (hb hby hd)) hr
theorem k_ldR (K : Cl p e below G) (X : Stand p l e R s m args below meth c T locs cells slots) (hx : p.tables.exec = Jvm.exec) (hby : c.code = bs) (hZh : Z.WarmedH s.vm) (eT : T.heap = h) (hty : ty.isReference = true) (F : Av Z h a ty vs) {j : Int32} (h0 : ¬ j < 0) (hv : vs[j.toNatClampNeg]? = some v) (hd : decode bs pc = .ok (.aaload, 1)) (hq : pc + 1 = q) (hr : G (T.setTop (mkF m q Ls (v :: S)))) : G (T.setTop (mkF m pc Ls (.int j :: .ref a :: S))) := by
  have hZ : Z.Warmed39 s.vm := hZh.wide
  subst hq
  obtain ⟨cl, A, r⟩ := F
  exact K _ _ (X.aaload hx (j := j) (v := v) (by rw [eT]; exact A.1) (State.isArrayOf_alike hZ.alike A.2.1) hty A.2.2 (own_in r h0 (own_ltl0 hv)) (own_at r hv) (g := mkF m pc Ls (.int j :: .ref a :: S)) rfl rfl (hb hby hd)) hr
theorem k_len (K : Cl p e below G) (X : Stand p l e R s m args below meth c T locs cells slots) (hx : p.tables.exec = Jvm.exec) (hby : c.code = bs) (hZh : Z.WarmedH s.vm) (z : Int32) (eT : T.heap = h) (F : Av Z h a ty vs) (hz : Int32.ofNat vs.length = z) (hd : decode bs pc = .ok (.arraylength, 1)) (hq : pc + 1 = q) (hr : G (T.setTop (mkF m q Ls (.int z :: S)))) : G (T.setTop (mkF m pc Ls (.ref a :: S))) := by
  have hZ : Z.Warmed39 s.vm := hZh.wide
  subst hq
  obtain ⟨cl, A, r⟩ := F
  have hl : cl.slots.size.toInt32 = z := by rw [r, List.size_toArray]; exact hz
  have st := X.arraylength hx (by rw [eT]; exact A.1) (State.isArrayOf_alike hZ.alike A.2.1) (g := mkF m pc Ls (.ref a :: S)) rfl rfl (hb hby hd)
  rw [hl] at st
  exact K _ _ st hr
theorem k_stI (K : Cl p e below G) (X : Stand p l e R s m args below meth c T locs cells slots) (hx : p.tables.exec = Jvm.exec) (hby : c.code = bs) (hZh : Z.WarmedH s.vm) (eT : T.heap = h) (F : Av Z h a .int vs) {j : Int32} {x : Int32} (h0 : ¬ j < 0) (h1 : j.toNatClampNeg < vs.length) (hd : decode bs pc = .ok (.iastore, 1)) (hq : pc + 1 = q) (k : ∀ T' h', Stand p l e R s m args below meth c T' (locs ++ [⟨a, j.toNatClampNeg⟩]) cells slots → T'.heap = h' → Wr h h' a j.toNatClampNeg (.int x) → Av Z h' a .int (vs.set j.toNatClampNeg (.int x)) → G (T'.setTop (mkF m q Ls S))) : G (T.setTop (mkF m pc Ls (.int x :: .int j :: .ref a :: S))) := by
  have hZ : Z.Warmed39 s.vm := hZh.wide
  subst hq
  obtain ⟨cl, A, r⟩ := F
  obtain ⟨T', h', X', e', W', st⟩ := stI X hx hZ eT A (j := j) (own_in r h0 h1) (g := mkF m pc Ls (.int x :: .int j :: .ref a :: S)) rfl rfl (hb hby hd)
  exact K _ _ st (k T' h' X' e' W' (Av.set ⟨cl, A, r⟩ W'))
theorem k_stJ (K : Cl p e below G) (X : Stand p l e R s m args below meth c T locs cells slots) (hx : p.tables.exec = Jvm.exec) (hby : c.code = bs) (hZh : Z.WarmedH s.vm) (eT : T.heap = h) (F : Av Z h a .long vs) {j : Int32} {x : Int64} (h0 : ¬ j < 0) (h1 : j.toNatClampNeg < vs.length) (hd : decode bs pc = .ok (.lastore, 1)) (hq : pc + 1 = q) (k : ∀ T' h', Stand p l e R s m args below meth c T' (locs ++ [⟨a, j.toNatClampNeg⟩]) cells slots → T'.heap = h' → Wr h h' a j.toNatClampNeg (.long x) → Av Z h' a .long (vs.set j.toNatClampNeg (.long x)) → G (T'.setTop (mkF m q Ls S))) : G (T.setTop (mkF m pc Ls (.long x :: .int j :: .ref a :: S))) := by
  have hZ : Z.Warmed39 s.vm := hZh.wide
  subst hq
  obtain ⟨cl, A, r⟩ := F
  obtain ⟨T', h', X', e', W', st⟩ := stJ X hx hZ eT A (j := j) (own_in r h0 h1) (g := mkF m pc Ls (.long x :: .int j :: .ref a :: S)) rfl rfl (hb hby hd)
  exact K _ _ st (k T' h' X' e' W' (Av.set ⟨cl, A, r⟩ W'))
theorem k_stC (K : Cl p e below G) (X : Stand p l e R s m args below meth c T locs cells slots) (hx : p.tables.exec = Jvm.exec) (hby : c.code = bs) (hZh : Z.WarmedH s.vm) (eT : T.heap = h) (F : Av Z h a .char vs) {j : Int32} {x : Int32} (h0 : ¬ j < 0) (h1 : j.toNatClampNeg < vs.length) (hd : decode bs pc = .ok (.castore, 1)) (hq : pc + 1 = q) (k : ∀ T' h', Stand p l e R s m args below meth c T' (locs ++ [⟨a, j.toNatClampNeg⟩]) cells slots → T'.heap = h' → Wr h h' a j.toNatClampNeg (.int (nar .char x)) → Av Z h' a .char (vs.set j.toNatClampNeg (.int (nar .char x))) → G (T'.setTop (mkF m q Ls S))) : G (T.setTop (mkF m pc Ls (.int x :: .int j :: .ref a :: S))) := by
  have hZ : Z.Warmed39 s.vm := hZh.wide
  subst hq
  obtain ⟨cl, A, r⟩ := F
  obtain ⟨T', h', X', e', W', st⟩ := stC X hx hZ eT A (j := j) (own_in r h0 h1) (g := mkF m pc Ls (.int x :: .int j :: .ref a :: S)) rfl rfl (hb hby hd)
  exact K _ _ st (k T' h' X' e' W' (Av.set ⟨cl, A, r⟩ W'))
theorem k_stB (K : Cl p e below G) (X : Stand p l e R s m args below meth c T locs cells slots) (hx : p.tables.exec = Jvm.exec) (hby : c.code = bs) (hZh : Z.WarmedH s.vm) (eT : T.heap = h) (F : Av Z h a .byte vs) {j : Int32} {x : Int32} (h0 : ¬ j < 0) (h1 : j.toNatClampNeg < vs.length) (hd : decode bs pc = .ok (.bastore, 1)) (hq : pc + 1 = q) (k : ∀ T' h', Stand p l e R s m args below meth c T' (locs ++ [⟨a, j.toNatClampNeg⟩]) cells slots → T'.heap = h' → Wr h h' a j.toNatClampNeg (.int (nar .byte x)) → Av Z h' a .byte (vs.set j.toNatClampNeg (.int (nar .byte x))) → G (T'.setTop (mkF m q Ls S))) : G (T.setTop (mkF m pc Ls (.int x :: .int j :: .ref a :: S))) := by
  have hZ : Z.Warmed39 s.vm := hZh.wide
  subst hq
  obtain ⟨cl, A, r⟩ := F
  obtain ⟨T', h', X', e', W', st⟩ := stB X hx hZ eT A (j := j) (own_in r h0 h1) (g := mkF m pc Ls (.int x :: .int j :: .ref a :: S)) rfl rfl (hb hby hd)
  exact K _ _ st (k T' h' X' e' W' (Av.set ⟨cl, A, r⟩ W'))
theorem k_stZ (K : Cl p e below G) (X : Stand p l e R s m args below meth c T locs cells slots) (hx : p.tables.exec = Jvm.exec) (hby : c.code = bs) (hZh : Z.WarmedH s.vm) (eT : T.heap = h) (F : Av Z h a .boolean vs) {j : Int32} {x : Int32} (h0 : ¬ j < 0) (h1 : j.toNatClampNeg < vs.length) (hd : decode bs pc = .ok (.bastore, 1)) (hq : pc + 1 = q) (k : ∀ T' h', Stand p l e R s m args below meth c T' (locs ++ [⟨a, j.toNatClampNeg⟩]) cells slots → T'.heap = h' → Wr h h' a j.toNatClampNeg (.int (nar .boolean x)) → Av Z h' a .boolean (vs.set j.toNatClampNeg (.int (nar .boolean x))) → G (T'.setTop (mkF m q Ls S))) : G (T.setTop (mkF m pc Ls (.int x :: .int j :: .ref a :: S))) := by
  have hZ : Z.Warmed39 s.vm := hZh.wide
  subst hq
  obtain ⟨cl, A, r⟩ := F
  obtain ⟨T', h', X', e', W', st⟩ := stZ X hx hZ eT A (j := j) (own_in r h0 h1) (g := mkF m pc Ls (.int x :: .int j :: .ref a :: S)) rfl rfl (hb hby hd)
  exact K _ _ st (k T' h' X' e' W' (Av.set ⟨cl, A, r⟩ W'))
theorem k_stD (K : Cl p e below G) (X : Stand p l e R s m args below meth c T locs cells slots) (hx : p.tables.exec = Jvm.exec) (hby : c.code = bs) (hZh : Z.WarmedH s.vm) (eT : T.heap = h) (F : Av Z h a .double vs) {j : Int32} {x : UInt64} (h0 : ¬ j < 0) (h1 : j.toNatClampNeg < vs.length) (hd : decode bs pc = .ok (.dastore, 1)) (hq : pc + 1 = q) (k : ∀ T' h', Stand p l e R s m args below meth c T' (locs ++ [⟨a, j.toNatClampNeg⟩]) cells slots → T'.heap = h' → Wr h h' a j.toNatClampNeg (.double x) → Av Z h' a .double (vs.set j.toNatClampNeg (.double x)) → G (T'.setTop (mkF m q Ls S))) : G (T.setTop (mkF m pc Ls (.double x :: .int j :: .ref a :: S))) := by
  have hZ : Z.Warmed39 s.vm := hZh.wide
  subst hq
  obtain ⟨cl, A, r⟩ := F
  obtain ⟨T', h', X', e', W', st⟩ := stD X hx hZ eT A (j := j) (own_in r h0 h1) (g := mkF m pc Ls (.double x :: .int j :: .ref a :: S)) rfl rfl (hb hby hd)
  exact K _ _ st (k T' h' X' e' W' (Av.set ⟨cl, A, r⟩ W'))
def Avr (Z : State) (h : Heap) (a : Addr) (C : String) (vs : List Value) : Prop := ∃ cl : Cell, Arr Z h a cl (.object C) ∧ cl.slots = vs.toArray ∧ Ovr Z cl.cls C
variable {C : String}
theorem Avr.av (F : Avr Z h a C vs) : Av Z h a (.object C) vs := by obtain ⟨c, A, r, -⟩ := F; exact ⟨c, A, r⟩
theorem Avr.lt (F : Avr Z h a C vs) : a < h.size := F.av.lt
theorem Avr.ext (F : Avr Z h a C vs) (E : Ext h h') : Avr Z h' a C vs := by obtain ⟨c, A, r⟩ := F; exact ⟨c, A.ext E, r⟩
theorem Avr.other (F : Avr Z h b C vs) (W : Wr h h' a sl v) (q : b ≠ a) : Avr Z h' b C vs := by obtain ⟨c, A, r⟩ := F; exact ⟨c, A.other W q, r⟩
theorem Avr.keep (F : Avr Z h a C vs) (K : Keep h h' ws) (q : a ∉ ws) : Avr Z h' a C vs := by obtain ⟨c, A, r⟩ := F; exact ⟨c, ⟨K.2.1 a c A.1 q, A.2⟩, r⟩
theorem Avr.new {k : ClassId} {z : Int32} {n : Nat} (A : Arr Z h a (newA k (.object C) z) (.object C)) (O : Ovr Z k C) (hn : z.toNatClampNeg = n) : Avr Z h a C (List.replicate n .null) := ⟨_, A, by subst hn; simp [newA, defaultValue], O⟩
theorem Avr.set (F : Avr Z h a C vs) (W : Wr h h' a sl v) : Avr Z h' a C (vs.set sl v) := by
  obtain ⟨c, A, r, O⟩ := F
  exact ⟨_, A.same W, by simp [Cell.setSlot, r], O⟩
theorem k_stR (K : Cl p e below G) (X : Stand p l e R s m args below meth c T locs cells slots) (hx : p.tables.exec = Jvm.exec) (hby : c.code = bs) (hZh : Z.WarmedH s.vm) (eT : T.heap = h) (F : Avr Z h a C vs) {j : Int32} (h0 : ¬ j < 0) (h1 : j.toNatClampNeg < vs.length) (hv : v = .null ∨ ∃ y, v = .ref y ∧ Ins Z h y C true) (hd : decode bs pc = .ok (.aastore, 1)) (hq : pc + 1 = q) (k : ∀ T' h', Stand p l e R s m args below meth c T' (locs ++ [⟨a, j.toNatClampNeg⟩]) cells slots → T'.heap = h' → Wr h h' a j.toNatClampNeg v → Avr Z h' a C (vs.set j.toNatClampNeg v) → G (T'.setTop (mkF m q Ls S))) : G (T.setTop (mkF m pc Ls (v :: .int j :: .ref a :: S))) := by
  have hZ : Z.Warmed39 s.vm := hZh.wide
  subst hq
  obtain ⟨cl, A, r, O⟩ := F
  have St : Sto Z h a v := by
    rcases hv with rfl | ⟨y, rfl, I⟩
    · exact Or.inl rfl
    · exact Sto.of A O I
  obtain ⟨T', h', X', e', W', st⟩ := stR X hx hZ eT A (j := j) (own_in r h0 h1) rfl St (g := mkF m pc Ls (v :: .int j :: .ref a :: S)) rfl rfl (hb hby hd)
  exact K _ _ st (k T' h' X' e' W' (Avr.set ⟨cl, A, r, O⟩ W'))
theorem k_newP (K : Cl p e below G) (X : Stand p l e R s m args below meth c T locs cells slots) (hx : p.tables.exec = Jvm.exec) (hby : c.code = bs) (hZh : Z.WarmedH s.vm) {aty : ArrayType} {n : Int32} (N cap : Nat) (w : (Jvm.Cond.arrayClass (newarray.typeOf aty)).before a0 Z = true) (eT : T.heap = h) (hd : decode bs pc = .ok (.newarray aty, 2)) (hq : pc + 2 = q) (hn : ¬ n < 0) (hN : n.toNatClampNeg = N) (hcap : N ≤ cap) (hcb : cap * 8 ≤ 536870912) (hc : cells + 1 ≤ R.cells) (hl : slots + cap ≤ R.slots)
    (k : ∀ T' h' b, Stand p l e R s m args below meth c T' locs (cells + 1) (slots + cap) → T'.heap = h' → Ext h h' → b = h.size → Av Z h' b (newarray.typeOf aty) (List.replicate N (defaultValue (newarray.typeOf aty))) → G (T'.setTop (mkF m q Ls (.ref b :: S)))) : G (T.setTop (mkF m pc Ls (.int n :: S))) := by
  have hZ : Z.Warmed39 s.vm := hZh.wide
  subst hq hN
  obtain ⟨T', h', kA, X', e', E', A', st⟩ := newP X hx hZ w eT (g := mkF m pc Ls (.int n :: S)) rfl (hb hby hd) rfl hn hcap hcb hc hl
  exact K _ _ st (k T' h' _ X' e' E' rfl (Av.new A' rfl))
theorem k_newR (K : Cl p e below G) (X : Stand p l e R s m args below meth c T locs cells slots) (hx : p.tables.exec = Jvm.exec) (hby : c.code = bs) (hZh : Z.WarmedH s.vm) {own : String} {i : Nat} {n : Int32} (N cap : Nat) (hown : s.vm.findClass own = some m.cls) (w1 : (Jvm.Cond.classLink own i C).before a0 Z = true) (w2 : (Jvm.Cond.arrayOver (.object C)).before a0 Z = true) (eT : T.heap = h) (hd : decode bs pc = .ok (.anewarray i, 3)) (hq : pc + 3 = q) (hn : ¬ n < 0) (hN : n.toNatClampNeg = N) (hcap : N ≤ cap) (hcb : cap * 8 ≤ 536870912) (hc : cells + 1 ≤ R.cells) (hl : slots + cap ≤ R.slots)
    (k : ∀ T' h' b, Stand p l e R s m args below meth c T' locs (cells + 1) (slots + cap) → T'.heap = h' → Ext h h' → b = h.size → Avr Z h' b C (List.replicate N .null) → G (T'.setTop (mkF m q Ls (.ref b :: S)))) : G (T.setTop (mkF m pc Ls (.int n :: S))) := by
  have hZ : Z.Warmed39 s.vm := hZh.wide
  subst hq hN
  obtain ⟨T', h', kA, X', e', E', A', O', st⟩ := newR X hx hZ hown w1 w2 eT (g := mkF m pc Ls (.int n :: S)) rfl (hb hby hd) rfl hn hcap hcb hc hl
  exact K _ _ st (k T' h' _ X' e' E' rfl (Avr.new A' O' rfl))
theorem own_ge {H : Heap} {b c : Addr} {j : Nat} (g : b = H.size) (q : c = b + 1 + j) : H.size ≤ c := by subst g q; exact Nat.le_trans (Nat.le_add_right _ _) (Nat.le_add_right _ _)
theorem own_le {b c : Addr} {j : Nat} (q : c = b + 1 + j) : b ≤ c := by subst q; exact Nat.le_trans (Nat.le_add_right _ _) (Nat.le_add_right _ _)
theorem own_ne {b c : Addr} {j : Nat} (q : c = b + 1 + j) : b ≠ c := by subst q; exact Nat.ne_of_lt (Nat.lt_of_lt_of_le (Nat.lt_succ_self _) (Nat.le_add_right _ _))
theorem own_ne2 {b c d : Addr} {i j : Nat} (q : c = b + 1 + i) (r : d = b + 1 + j) (h : i ≠ j) : c ≠ d := by subst q r; exact fun e => h (Nat.add_left_cancel e)
end OwnArr
section OwnLam
variable {p : Program} {l : Launch} {e : Env} {R : Room} {s : State} {m : MethodId} {args : Array Value} {below : List Frame} {meth : Method} {c : Code} {T : State} {locs : List Loc} {cells slots : Nat} {Z : State} {a0 : Array Value} {h h' : Heap} {bs : ByteArray} {pc q : Nat} {Ls : Array Slot} {S : List Value} {G : State → Prop}
theorem Con.mono {y : MethodName} {bytes : ByteArray} {maxL : Nat} {ret : Option FieldType} {rm : Room} {ws : List Jvm.Cond} {as' : Array Value} {Q Q' : PQ} (K : Con l Z y bytes maxL ret rm ws as' h Q) (f : ∀ v h' L, Q v h' L → Q' v h' L) : Con l Z y bytes maxL ret rm ws as' h Q' := by
  intro p e ha hc hk s m args below hf happ hP hK
  obtain ⟨n, o, h1, h2, h3, v, L, h4, h5, h6⟩ := K p e ha hc hk s m args below hf happ hP hK
  exact ⟨n, o, h1, h2, h3, v, L, h4, f _ _ _ h5, h6⟩
theorem own_selP {y : MethodName} {n : Nat} (wi : (Jvm.Cond.instantiable y.cls n).before a0 Z = true) (wp : (Jvm.Cond.privateMethod y).before a0 Z = true) (wm : (Jvm.Cond.instanceMethod y).before a0 Z = true) (hy : y.cls ≠ "java/lang/invoke/MethodHandle" ∧ y.cls ≠ "java/lang/invoke/VarHandle") : (Jvm.Cond.selects y.cls y y).before a0 Z = true := by
  obtain ⟨c, k, h1, h2, -, h3, -⟩ := Cond.instantiable_spec wi
  exact selects_self_of_private h1 h2 (Bool.or_eq_false_iff.mp h3).1 (Cond.privateMethod_at wp) wm hy
theorem own_push {cl : Cell} {H : Heap} : Ext H (H.push cl) := by
  refine ⟨?_, fun a c hc => ?_⟩
  · rw [Array.size_push]; exact Nat.le_succ _
  · have hlt := (Array.getElem?_eq_some_iff.mp hc).1
    rw [Array.getElem?_push, if_neg (Nat.ne_of_lt hlt)]; exact hc
/-- the object f, made by the site for σ in the class called 'host', holds b -/
def Fn (Z : State) (h : Heap) (f : Addr) (host : String) (σ : Jvm.Lambda.Shape) (b : Addr) : Prop := ∃ cell : Cell, Jvm.LamKit.Made Z host σ cell.cls ∧ h[f]? = some cell ∧ cell.vm = .none ∧ cell.slots[0]? = some (.ref b)
theorem k_indy (K : Cl p e below G) (X : Stand p l e R s m args below meth c T locs cells slots) (hx : p.tables.exec = Jvm.exec) (hby : c.code = bs) (hZ : Z.WarmedH s.vm) {x : MethodName} {index : Nat} (fi : Nat) {σ : Jvm.Lambda.Shape} (hnamed : s.methodNamed? x = some m)
    (hsite : (Jvm.Cond.lambdaSite x pc index σ).before a0 Z = true) (t : FieldType) (hcap : σ.captured = [t]) (hok : Jvm.LamKit.capOK σ x.cls fi 0 = true) (hO : (Jvm.Cond.instantiable "java/lang/Object" 0).before a0 Z = true) (eT : T.heap = h) {b : Addr} (hfit : narrow t (.ref b) = .ref b ∧ fits t (.ref b) = true)
    (hsz : Ls.size = c.maxLocals) (hd : decode bs pc = .ok (.invokedynamic index, 5)) (hq : pc + 5 = q) (hwords : ((Value.ref b :: S).map fun v => v.category).sum + 3072 ≤ R.locals) (hc : cells + 1 ≤ R.cells) (hl : slots + 1 ≤ R.slots)
    (k : ∀ T' h' f, Stand p l e R s m args below meth c T' locs (cells + 1) (slots + 1) → T'.heap = h' → Ext h h' → f = h.size → Fn Z h' f x.cls σ b → G (T'.setTop (mkF m q Ls (.ref f :: S)))) : G (T.setTop (mkF m pc Ls (.ref b :: S))) := by
  subst hq eT
  obtain ⟨cK, one, hat⟩ := Cond.lambdaSite_spec hsite
  obtain ⟨mD, kD, cfD, i0, p0, lk, hmD, hkD, hcfD, hsh, -, hfind, hmade, hcan, hl'⟩ := State.lambdaAt?_spec hat
  obtain ⟨kN, hkN, hnameD⟩ := className_of_methodNamed hmD
  cases hkD.symm.trans hkN
  have hmD' : s.methodNamed? x = some mD := by
    have q := State.methodNamed?_setVm (s := Z) hZ.alike x
    rw [hmD] at q
    exact q
  cases hnamed.symm.trans hmD'
  obtain ⟨kD', hkD', he⟩ := hZ.alike.2.2 _ _ hkD
  rcases hl' with ⟨a, cell, -, -, hc0, -⟩ | ⟨rfl, -, -⟩
  · rw [hcap] at hc0; cases hc0
  · obtain ⟨b', nt, desc, site, h1, h2, h3, h4⟩ := Jvm.Lambda.shapeOf?_site hsh
    obtain ⟨kc, f, hkc, hkind, hty, -⟩ := Jvm.LamKit.made_cap hok hkD' (by rw [he]; exact hnameD) (Jvm.Lambda.isMade_warmer hZ hmade) (Jvm.LamKit.noFields hO hZ)
    have hz : ((kc.instanceTypes.toList.zip [Value.ref b]).map fun (t, v) => narrow t v) = [Value.ref b] := by
      rw [hty, hcap]
      show [narrow t (.ref b)] = _
      rw [hfit.1]
    have hw : e.platform.lambdaLinkWords = 3072 := by rw [X.admits.platform]
    have hw' : 2 * (mkF m pc Ls (.ref b :: S)).monitorRoom + ((mkF m pc Ls (.ref b :: S)).stack.map fun v => v.category).sum + 3072 ≤ R.locals := by
      show 2 * 0 + _ + 3072 ≤ _
      rw [Nat.mul_zero, Nat.zero_add]; exact hwords
    have q := X.lambdaMakes hx (g := mkF m pc Ls (.ref b :: S)) rfl hsz (hb hby hd) (vals := [.ref b]) (rest := S) hkD' (by rw [he]; exact hfind) (by rw [he]; exact hcfD) h1 h2 (parseLong_of_parse h3) (by rw [h4, hcap]; rfl) rfl hkc (by rw [hw]; exact hw') hc (by rw [hz]; exact hl)
      (fun i v hv => by
        rw [hz] at hv
        have hv' : [Value.ref b][i]? = some v := by simpa using hv
        have hi : i = 0 := by
          have := (List.getElem?_eq_some_iff.mp hv').1
          simpa using this
        subst hi
        cases hv'
        simp [State.fitsSlot, State.slotType?, hkc, hkind, hty, hcap, hfit.2])
    rw [hz] at q
    refine K _ _ q.2 (k _ _ _ (by simpa using q.1) rfl own_push rfl ⟨{ cls := cK, slots := #[.ref b], vm := .none }, ⟨_, kD, hkD, hnameD, hmade, hcan⟩, ?_, rfl, rfl⟩)
    show (T.heap.push _)[T.heap.size]? = some _
    rw [Array.getElem?_push, if_pos rfl]
def FW : ByteArray := ⟨#[0x2a, 0xb4, 0x00, 0x0f, 0x1b, 0xb6, 0x00, 0x16, 0xac]⟩
theorem dF0 : decode FW 0 = .ok (.aload_n 0, 1) := by decide +kernel
theorem dF1 : decode FW 1 = .ok (.getfield 15, 3) := by decide +kernel
theorem dF4 : decode FW 4 = .ok (.iload_n 1, 1) := by decide +kernel
theorem dF5 : decode FW 5 = .ok (.invokevirtual 22, 3) := by decide +kernel
theorem dF8 : decode FW 8 = .ok (.ireturn, 1) := by decide +kernel
theorem own_fwd {host C0 : String} {y : MethodName} {σ : Jvm.Lambda.Shape} {cK : ClassId} (hmd : Jvm.LamKit.Made Z host σ cK) (hok : Jvm.LamKit.fwdOK σ host FW 2 (some .boolean) 22 19 = true) (ws : (Jvm.Cond.selects C0 y y).before a0 Z = true)
    (hyi : y.cls = σ.implClass ∧ y.name = σ.implName ∧ y.desc = σ.implDesc.toString) (hpoly : y.cls ≠ "java/lang/invoke/MethodHandle" ∧ y.cls ≠ "java/lang/invoke/VarHandle") {V : State} (hW : Z.WarmedH V.vm) :
    ∃ (kK : Class) (methk : Method) (ck : Code), V.vm.classes[cK]? = some kK ∧ plainName kK.name = true ∧ V.vm.method? ⟨cK, 1⟩ = some methk ∧ methk.code = some ck ∧ ck.code = FW ∧ ck.maxLocals = 2 ∧ methk.locks = false ∧ methk.sig.returnType = some .boolean ∧ ∀ r, Z.methodNamed? y = some r → namesAClass V cK 22 ∧ V.vm.methodReady cK 22 r := by
  obtain ⟨d, dk, hd, hdn, hmade, -⟩ := hmd
  obtain ⟨kD, hkD, heD⟩ := hW.alike.2.2 _ _ hd
  obtain ⟨kK, tk, file, methk, ck, toy, t, nt, hkK, hpn, hfile, hidx, hnt, hmk, hck, hbytes, hml, hlk, -, hretk, htoy, htk, hlook, hready, hclsR⟩ := Jvm.LamKit.made_static hok hkD (by rw [heD]; exact hdn) (Jvm.Lambda.isMade_warmer hW hmade)
  refine ⟨kK, methk, ck, hkK, hpn, hmk, hck, hbytes, hml, hlk, hretk, fun r hr => ?_⟩
  have hfT : Z.vm.findClass y.cls = some r.cls := findClass_of_methodNamed hr
  have hfT1 : V.vm.findClass σ.implClass = some r.cls := by rw [hW.alike.findClass, ← hyi.1]; exact hfT
  cases htoy.symm.trans hfT1
  have ht : t = r := by
    have h1 : (Z.setVm V.vm).methodFound? y.cls y.name y.desc = some r := by rw [State.methodFound?_setVm hW.alike]; exact State.methodFound?_of_named hr hpoly
    rw [hyi.1, hyi.2.1, hyi.2.2] at h1
    simp only [State.methodFound?, State.vm_setVm, hfT1, htk, Option.bind_eq_bind, Option.bind_some] at h1
    rw [hlook] at h1
    exact Option.some.inj h1
  subst ht
  obtain ⟨c2, r2, m2, q1, q2, q3, q4, kP, hkP, hkPi⟩ := Cond.selects_spec ws
  cases hr.symm.trans q3
  obtain ⟨kP', hkP', heP⟩ := hW.alike.2.2 _ _ hkP
  cases htk.symm.trans hkP'
  have hni : tk.isInterface = false := by
    have : tk.isInterface = kP.isInterface := by rw [heP]; rfl
    rw [this]; exact hkPi
  exact ⟨⟨kK, file, 19, nt, _, tk, hkK, hfile, hidx, hclsR, htk, hni⟩, hready⟩
set_option maxHeartbeats 4000000 in
theorem k_test (K : Cl p e below G) (X : Stand p l e R s m args below meth c T locs cells slots) (hx : p.tables.exec = Jvm.exec) (hby : c.code = bs) (hZ : Z.WarmedH s.vm) {own host C0 : String} {i cnt : Nat} {xi y : MethodName} {σ : Jvm.Lambda.Shape} {bytes : ByteArray} {maxL : Nat} {rm : Room} {Q : PQ} (f b : Addr) (x : Int32) (rest : List Value)
    (hown : s.vm.findClass own = some m.cls) (w1 : (Jvm.Cond.methodLink own i xi).before a0 Z = true) (w2 : (Jvm.Cond.declares xi).before a0 Z = true) (w7 : (Jvm.Cond.interfaceMethod xi.cls xi.cls xi.name xi.desc).before a0 Z = true) (wd : (Jvm.Cond.declares y).before a0 Z = true) (ws : (Jvm.Cond.selects C0 y y).before a0 Z = true) (wi : (Jvm.Cond.instanceMethod y).before a0 Z = true) (w3 : (Jvm.Cond.initialized y.cls).before a0 Z = true) (w4 : (Jvm.Cond.code y bytes maxL (some .boolean)).before a0 Z = true) (wO : (Jvm.Cond.instantiable "java/lang/Object" 0).before a0 Z = true)
    (hxi : xi.cls = σ.iface ∧ xi.name = σ.name ∧ xi.desc = σ.sam.toString) (hyi : y.cls = σ.implClass ∧ y.name = σ.implName ∧ y.desc = σ.implDesc.toString) (hok : Jvm.LamKit.fwdOK σ host FW 2 (some .boolean) 22 19 = true) (hcap : Jvm.LamKit.capOK σ host 15 0 = true)
    (C : Con l Z y bytes maxL (some .boolean) rm [] #[.ref b, .int x] h Q) (hQ : ∀ v h' L, Q v h' L → ∃ z : Int32, v = some (.int z) ∧ (z = 0 ∨ z = 1)) (eT : T.heap = h) (Fb : Fn Z h f host σ b) (E : Exa Z h b C0)
    (hpx : parseMethodDescriptor xi.desc = some ⟨[.int], some .boolean⟩) (hpy : parseMethodDescriptor y.desc = some ⟨[.int], some .boolean⟩) (hd : decode bs pc = .ok (.invokeinterface i cnt, 5)) (hsz : Ls.size = c.maxLocals) (hq : pc + 5 = q) (hpol : (xi.cls ≠ "java/lang/invoke/MethodHandle" ∧ xi.cls ≠ "java/lang/invoke/VarHandle") ∧ y.cls ≠ "java/lang/invoke/MethodHandle" ∧ y.cls ≠ "java/lang/invoke/VarHandle")
    (hf : rm.frames + 2 ≤ R.frames) (hlo : (rest.map fun v => v.category).sum + (2 + 11) + ((maxL + 11) + rm.locals) ≤ R.locals) (hc : cells + rm.cells ≤ R.cells) (hn : slots + rm.slots ≤ R.slots)
    (k : ∀ v T' L, Stand p l e R s m args below meth c T' (locs ++ L) (cells + rm.cells) (slots + rm.slots) → Q v T'.heap L → G (T'.setTop (mkF m q Ls (v.toList ++ rest)))) : G (T.setTop (mkF m pc Ls (.int x :: .ref f :: rest))) := by
  subst hq
  obtain ⟨cell, hmd, hcell, hvmc, hsl⟩ := Fb
  have hA := hZ.alike
  obtain ⟨kK, methk, hkK, hmk, hpub, habs, hsel⟩ := Jvm.LamKit.madeSelects hmd hok w7 hxi
  obtain ⟨r0, r, hn0, hrm, hstR, hsigR⟩ := Cond.declares_spec w2
  obtain ⟨cL, kL, r1, hcL, hkL, hiL, -, -⟩ := Cond.interfaceMethod_spec w7
  have hr0cls : r0.cls = cL := Option.some.inj ((findClass_of_methodNamed hn0).symm.trans hcL)
  obtain ⟨hasg, hsel', hway⟩ := hsel r0 r hn0 hrm
  have hn0' : s.methodNamed? xi = some r0 := by
    have q := State.methodNamed?_setVm (s := Z) hA xi
    rw [hn0] at q; exact q
  have hrm' : s.vm.method? r0 = some r := by rw [hA.method?]; exact hrm
  obtain ⟨kL', hkL', heL⟩ := hA.2.2 _ _ hkL
  have hiL' : kL'.isInterface = true := by
    have q : kL'.isInterface = kL.isInterface := by rw [heL]; rfl
    rw [q]; exact hiL
  obtain ⟨kK', hkK', -⟩ := hA.2.2 _ _ hkK
  obtain ⟨vm₁, X₁, hstep₁⟩ := X.invokeinterface hx hown (mvT hZ.wide w1) hn0' hrm' hstR (by rw [hr0cls]; exact hkL') hiL' hpol.1 (a := f) (cell := cell) (kcell := kK') (by rw [eT]; exact hcell) (fun z h => by rw [hvmc] at h; cases h) hkK' (by rw [hA.assignable]; exact hasg)
    (m' := ⟨cell.cls, 1⟩) (meth' := methk) (by rw [Launch.admits_selectMethod X.admits, hA.selectMethod]; exact hsel') (by rw [hA.method?]; exact hmk) (by simp only [hA.superclasses, hA.declaredIn]; exact hway) hpub habs (g := mkF m pc Ls (.int x :: .ref f :: rest)) rfl (argsL := [.int x]) (rest := rest) (lenOf hpx (L := [.int x]) rfl _ hsigR) rfl (hb hby hd)
  have hW₁ : Z.WarmedH (T.setVm vm₁).vm := State.WarmedH.trans hZ X₁.warmed
  obtain ⟨kF, mF, cF, hkF, hpn, hmF, hcF, hbF, hmlF, hlkF, hretF, -⟩ := own_fwd hmd hok ws hyi hpol.2 hW₁
  have hpk : (T.setVm vm₁).plainMethod ⟨cell.cls, 1⟩ := State.plainMethod.of_name (fun k' hk' => by cases hkF.symm.trans hk'; exact hpn)
  have hef : entryFrame ⟨cell.cls, 1⟩ #[.ref f, .int x] cF.maxLocals = mkF ⟨cell.cls, 1⟩ 0 #[.val (.ref f), .val (.int x)] [] := by rw [hmlF]; rfl
  obtain ⟨Y₀, hin⟩ := X₁.into (g := mkF m pc Ls rest) rfl hsz (hb hby hd) #[.ref f, .int x] (R' := { frames := rm.frames + 1, cells := rm.cells, slots := rm.slots, locals := (maxL + 11) + rm.locals }) hmF hcF hlkF hpk hf (by rw [hmlF]; show 2 * 0 + _ + (2 + 11) + _ ≤ _; rw [Nat.mul_zero, Nat.zero_add]; exact hlo) hc hn
  rw [hef] at Y₀ hin
  generalize hU : ((T.setVm vm₁).setTop (mkF m pc Ls rest)).pushFrame (.java (mkF ⟨cell.cls, 1⟩ 0 #[.val (.ref f), .val (.int x)] [])) = U at Y₀ hin
  have hvmU : U.vm = (T.setVm vm₁).vm := by rw [← hU]; rfl
  have hheapU : U.heap = h := by rw [← hU]; exact eT
  generalize hs' : (T.setVm vm₁).calling (mkF m pc Ls rest) ⟨cell.cls, 1⟩ #[.ref f, .int x] = s' at Y₀
  have hvm' : s'.vm = (T.setVm vm₁).vm := by rw [← hs']; rfl
  have hWs : Z.WarmedH s'.vm := by rw [hvm']; exact hW₁
  have hK := C.back (R := { frames := rm.frames + 1, cells := rm.cells, slots := rm.slots, locals := (maxL + 11) + rm.locals }) (p := p) (e := e) (below := .java (mkF m pc Ls rest) :: below) (s := s') (args := #[.ref f, .int x]) (len := 3) (W := 0) hWs w4 w3 (Nat.le_refl _) (by show 0 + (maxL + 11) + rm.locals ≤ (maxL + 11) + rm.locals; omega)
  have hV : VCall p l e { frames := rm.frames + 1, cells := rm.cells, slots := rm.slots, locals := (maxL + 11) + rm.locals } s' ⟨cell.cls, 1⟩ #[.ref f, .int x] (.java (mkF m pc Ls rest) :: below) mF cF 22 C0 y :=
    VCall.of_ready hx (mvT hWs.wide wd) (mvT hWs.wide ws) (mvT hWs.wide wi) hpol.2 (fun V r' hV' hr' => by
      obtain ⟨_, _, _, -, -, -, -, -, -, -, -, hh⟩ := own_fwd hmd hok ws hyi hpol.2 (V := V) (State.WarmedH.trans hWs hV')
      exact hh r' ((State.methodNamed?_setVm (s := Z) hWs.alike y).symm.trans hr'))
  obtain ⟨cB, kB, qa, qb, qc⟩ := isOf (s := s') (T := U) hWs.wide hheapU E
  obtain ⟨v, _, ⟨U', ls, cc, sl⟩, -, Y₁, ⟨Lc, hq1, l1, y1, z1⟩, st⟩ := hV Y₀ hK qa qc (g := mkF ⟨cell.cls, 1⟩ 5 #[.val (.ref f), .val (.int x)] [.int x, .ref b]) rfl (by rw [hmlF]; rfl) (Steps.refl _) (argsL := [.int x]) (rest := []) (lenOf hpy rfl) rfl (Nat.le_refl _) (by rw [hbF]; exact dF5)
    (fun _ _ => ⟨rfl, hheapU, by show 0 + rm.cells ≤ rm.cells; omega, by show 0 + rm.slots ≤ rm.slots; omega⟩)
  dsimp only [Pt.U, Pt.locs, Pt.cells, Pt.slots] at Y₁ l1 y1 z1 st hq1
  subst l1 y1 z1
  obtain ⟨z, rfl, hz01⟩ := hQ _ _ _ hq1
  obtain ⟨fs, hr, -, hended, hWe, hsame⟩ := Y₁.leave (v := some (.int z)) (fun h => by rw [hretF] at h; cases h) hlkF
  subst hs'
  obtain ⟨T', X', -, -, ht⟩ := X₁.outOf (g := mkF m pc Ls rest) rfl (hb hby hd) hended hWe hsame
  have hheap' : T'.heap = U'.heap := by
    have q := congrArg State.heap ht
    exact q.symm
  have X'' : Stand p l e R s m args below meth c T' (locs ++ ls) (cells + rm.cells) (slots + rm.slots) := by simpa using X'
  refine K _ _ (fun t kk => hstep₁ t fun acts => ?_) (k _ T' ls X'' (by rw [hheap']; exact hq1))
  rw [hin acts]
  refine Steps.trans ?_ kk
  show Steps p.tables e below _ (T'.setTop { mkF m pc Ls rest with pc := pc + 5, stack := (some (Value.int z)).toList ++ rest })
  refine Eq.mp (congrArg (Steps p.tables e below _) ht) ?_
  refine Steps.weaken (mid := [.java (mkF m pc Ls rest)]) ?_
  have KK : Cl p e (.java (mkF m pc Ls rest) :: below) (fun A => Steps p.tables e (.java (mkF m pc Ls rest) :: below) A (U'.setFrames fs)) := fun A B k h => k _ h
  refine m_aloadN KK Y₀.here hx hbF dF0 rfl rfl rfl ?_
  refine Jvm.LamKit.getCap (s := Z) hx Y₀.here (by rw [hvmU]; exact hW₁) hmd hcap wO (by rw [hheapU]; exact hcell) hvmc hsl (g := mkF ⟨cell.cls, 1⟩ 1 #[.val (.ref f), .val (.int x)] [.ref f]) rfl rfl (by rw [hbF]; exact dF1) ?_
  refine m_iloadN KK Y₀.here hx hbF dF4 rfl rfl ?_
  refine st.trans ?_
  exact Jvm.RoadKit.retN Y₁ hx hretF (Or.inl rfl) (by rw [hbF]; exact dF8) (by rw [own_nar01 hz01]; exact hr)
end OwnLam
def SG : Jvm.Lambda.Shape := (Jvm.Lambda.Shape.mk "java/util/function/IntPredicate" "test" (Jvm.ClassFile.MethodDescriptor.mk ([Jvm.ClassFile.FieldType.int] : List Jvm.ClassFile.FieldType) (Option.some Jvm.ClassFile.FieldType.boolean)) ([(Jvm.ClassFile.FieldType.object "com/example/craterworks/craterworks/SharesStation")] : List Jvm.ClassFile.FieldType) (5 : Nat) "com/example/craterworks/craterworks/SharesStation" "hasRoom" (Jvm.ClassFile.MethodDescriptor.mk ([Jvm.ClassFile.FieldType.int] : List Jvm.ClassFile.FieldType) (Option.some Jvm.ClassFile.FieldType.boolean)) false (Jvm.ClassFile.MethodDescriptor.mk ([Jvm.ClassFile.FieldType.int] : List Jvm.ClassFile.FieldType) (Option.some Jvm.ClassFile.FieldType.boolean)))
theorem own_capOK : Jvm.LamKit.capOK SG "com/example/craterworks/craterworks/SharesStation" 15 0 = true := by decide +kernel
theorem own_fwdOK : Jvm.LamKit.fwdOK SG "com/example/craterworks/craterworks/SharesStation" FW 2 (some .boolean) 22 19 = true := by decide +kernel
theorem own_hxi : (⟨"java/util/function/IntPredicate", "test", "(I)Z"⟩ : MethodName).cls = SG.iface ∧ (⟨"java/util/function/IntPredicate", "test", "(I)Z"⟩ : MethodName).name = SG.name ∧ (⟨"java/util/function/IntPredicate", "test", "(I)Z"⟩ : MethodName).desc = SG.sam.toString := ⟨rfl, rfl, by decide +kernel⟩
theorem own_hyi : (⟨"com/example/craterworks/craterworks/SharesStation", "hasRoom", "(I)Z"⟩ : MethodName).cls = SG.implClass ∧ (⟨"com/example/craterworks/craterworks/SharesStation", "hasRoom", "(I)Z"⟩ : MethodName).name = SG.implName ∧ (⟨"com/example/craterworks/craterworks/SharesStation", "hasRoom", "(I)Z"⟩ : MethodName).desc = SG.implDesc.toString := ⟨rfl, rfl, by decide +kernel⟩
def cx (p i : Nat) : Int32 := if p = 6 then (if i = 3 then 1 else 0) else if i < p then 0 else 1
def ux (p : Nat) : Int32 := if 5 ≤ p then 1 else 0
def tk1 (p : Nat) : Nat := if p = 6 then 5 else p + 1
def HRV (pk : Nat) : Int32 := (if (cx pk 0) = (0 : Int32) then (1 : Int32) else (if (cx pk 1) = (0 : Int32) then (1 : Int32) else (if (cx pk 2) = (0 : Int32) then (1 : Int32) else (if (cx pk 3) = (0 : Int32) then (1 : Int32) else (0 : Int32)))))
theorem HRV_01 (pk : Nat) : HRV pk = 0 ∨ HRV pk = 1 := by
  unfold HRV
  repeat' split
  all_goals first | exact Or.inl rfl | exact Or.inr rfl
theorem d_prog_6_11_0 : decode prog_6_method_11_code 0 = .ok (.iconst 0, 1) := by decide +kernel
theorem d_prog_6_11_1 : decode prog_6_method_11_code 1 = .ok (.istore_n 2, 1) := by decide +kernel
theorem d_prog_6_11_2 : decode prog_6_method_11_code 2 = .ok (.iload_n 2, 1) := by decide +kernel
theorem d_prog_6_11_3 : decode prog_6_method_11_code 3 = .ok (.iconst 4, 1) := by decide +kernel
theorem d_prog_6_11_4 : decode prog_6_method_11_code 4 = .ok (.if_icmp .ge 22, 3) := by decide +kernel
theorem d_prog_6_11_7 : decode prog_6_method_11_code 7 = .ok (.aload_n 0, 1) := by decide +kernel
theorem d_prog_6_11_8 : decode prog_6_method_11_code 8 = .ok (.getfield 11, 3) := by decide +kernel
theorem d_prog_6_11_11 : decode prog_6_method_11_code 11 = .ok (.iload_n 1, 1) := by decide +kernel
theorem d_prog_6_11_12 : decode prog_6_method_11_code 12 = .ok (.aaload, 1) := by decide +kernel
theorem d_prog_6_11_13 : decode prog_6_method_11_code 13 = .ok (.iload_n 2, 1) := by decide +kernel
theorem d_prog_6_11_14 : decode prog_6_method_11_code 14 = .ok (.baload, 1) := by decide +kernel
theorem d_prog_6_11_15 : decode prog_6_method_11_code 15 = .ok (.ifCond .ne 5, 3) := by decide +kernel
theorem d_prog_6_11_18 : decode prog_6_method_11_code 18 = .ok (.iconst 1, 1) := by decide +kernel
theorem d_prog_6_11_19 : decode prog_6_method_11_code 19 = .ok (.ireturn, 1) := by decide +kernel
theorem d_prog_6_11_20 : decode prog_6_method_11_code 20 = .ok (.iinc 2 1, 3) := by decide +kernel
theorem d_prog_6_11_23 : decode prog_6_method_11_code 23 = .ok (.goto (-21), 3) := by decide +kernel
theorem d_prog_6_11_26 : decode prog_6_method_11_code 26 = .ok (.iconst 0, 1) := by decide +kernel
theorem d_prog_6_11_27 : decode prog_6_method_11_code 27 = .ok (.ireturn, 1) := by decide +kernel
theorem pn_com_example_craterworks_craterworks_SharesStation : plainName "com/example/craterworks/craterworks/SharesStation" = true := by first | (simp [plainName, overriddenIn]; done) | decide +kernel
theorem efhr (m : MethodId) (x0 : Addr) (x1 : Int32) : entryFrame m #[(.ref x0), (.int x1)] 3 = mkF m 0 #[.val (.ref x0), .val (.int x1), .unset] [] := by first | (simp [entryFrame, mkF, argsToLocals, Value.category]; done) | rfl
set_option maxRecDepth 65536 in
set_option maxHeartbeats 40000000 in
theorem chr (l : Launch) (Z : State) (a0 : Array Value) (hw : ∀ d ∈ tables_1, d.before a0 Z = true) (a1 : Addr) (j : Int32) (bo : Addr) (os : (List Value)) (xk : Addr) (pk : Nat) (h0 : Heap) (n0 : Nat) (Z0 : n0 ≤ h0.size) (F_occupied_a1 : Fld Z h0 a1 "com/example/craterworks/craterworks/SharesStation" "occupied" "[[Z" (.ref bo)) (A_bo : Av Z h0 bo (.array .boolean) os) (A_xk : Av Z h0 xk .boolean [(.int (cx pk 0)), (.int (cx pk 1)), (.int (cx pk 2)), (.int (cx pk 3)), (.int (cx pk 4))]) (hj0 : ¬ j < 0) (hj : os[j.toNatClampNeg]? = some (.ref xk)) :
    Con l Z (⟨"com/example/craterworks/craterworks/SharesStation", "hasRoom", "(I)Z"⟩ : MethodName) prog_6_method_11_code 3 (some .boolean) ({ frames := 0, cells := 0, slots := 0, locals := 0 } : Room) [] #[(.ref a1), (.int j)] h0 (fun v h L => v = some (.int (HRV pk)) ∧ h = h0 ∧ L = []) := by
  refine Con.of (plainFor_of_name pn_com_example_craterworks_craterworks_SharesStation) #[.val (.ref a1), .val (.int j), .unset] (fun m => efhr m a1 j) ?_
  intro p e s m below meth c s₁ K hx hby hml hown hnm hret hlk hZ X0 e0 hnd
  have N0 := Fr.nil n0
  refine m_iconst K X0.here hx hby (0 : Int32) d_prog_6_11_0 rfl rfl ?_
  refine m_istoreN K X0.here hx hby #[.val (.ref a1), .val (.int j), .val (.int (0 : Int32))] d_prog_6_11_1 rfl rfl ?_
  refine m_iloadN K X0.here hx hby d_prog_6_11_2 rfl rfl ?_
  refine m_iconst K X0.here hx hby (4 : Int32) d_prog_6_11_3 rfl rfl ?_
  refine m_icmpN K X0.here hx hby (q := 7) d_prog_6_11_4 (tlt (by decide : (0 : Int32) < (4 : Int32))).2.1 rfl ?_
  refine m_aloadN K X0.here hx hby d_prog_6_11_7 rfl rfl rfl ?_
  refine k_getF K X0 hx hby hZ hown (host := "") (Or.inl (hw _ (List.mem_of_getElem? (i := 101) rfl))) Via.refl e0 F_occupied_a1 d_prog_6_11_8 rfl fun T1 X1 e1 => ?_
  refine m_iloadN K X1.here hx hby d_prog_6_11_11 rfl rfl ?_
  refine k_ldR K X1 hx hby hZ e1 rfl A_bo (v := (.ref xk)) hj0 hj d_prog_6_11_12 rfl ?_
  refine m_iloadN K X1.here hx hby d_prog_6_11_13 rfl rfl ?_
  refine k_ldZ K X1 hx hby hZ e1 A_xk (v := (.int (cx pk 0))) (by decide) rfl d_prog_6_11_14 rfl ?_
  by_cases hc15_2 : (cx pk 0) = (0 : Int32)
  · refine m_ifN K X1.here hx hby (q := 18) d_prog_6_11_15 ((if0 _ _).trans (teq hc15_2).2) rfl ?_
    refine m_iconst K X1.here hx hby (1 : Int32) d_prog_6_11_18 rfl rfl ?_
    exact Go.retN X1 hx hby hlk hret (by simp) d_prog_6_11_19 (by decide) (by decide) (by decide) (⟨congrArg (fun z => some (Value.int z)) (Eq.symm (by rw [HRV, if_pos hc15_2])), e1, rfl⟩)
  · refine m_ifY K X1.here hx hby (q := 20) d_prog_6_11_15 ((if0 _ _).trans (feq hc15_2).2) (by decide) rfl ?_
    refine m_iinc K X1.here hx hby #[.val (.ref a1), .val (.int j), .val (.int (1 : Int32))] d_prog_6_11_20 rfl rfl rfl ?_
    refine m_goto K X1.here hx hby (q := 2) d_prog_6_11_23 (by decide) rfl ?_
    refine m_iloadN K X1.here hx hby d_prog_6_11_2 rfl rfl ?_
    refine m_iconst K X1.here hx hby (4 : Int32) d_prog_6_11_3 rfl rfl ?_
    refine m_icmpN K X1.here hx hby (q := 7) d_prog_6_11_4 (tlt (by decide : (1 : Int32) < (4 : Int32))).2.1 rfl ?_
    refine m_aloadN K X1.here hx hby d_prog_6_11_7 rfl rfl rfl ?_
    refine k_getF K X1 hx hby hZ hown (host := "") (Or.inl (hw _ (List.mem_of_getElem? (i := 101) rfl))) Via.refl e1 F_occupied_a1 d_prog_6_11_8 rfl fun T3 X3 e3 => ?_
    refine m_iloadN K X3.here hx hby d_prog_6_11_11 rfl rfl ?_
    refine k_ldR K X3 hx hby hZ e3 rfl A_bo (v := (.ref xk)) hj0 hj d_prog_6_11_12 rfl ?_
    refine m_iloadN K X3.here hx hby d_prog_6_11_13 rfl rfl ?_
    refine k_ldZ K X3 hx hby hZ e3 A_xk (v := (.int (cx pk 1))) (by decide) rfl d_prog_6_11_14 rfl ?_
    by_cases hc15_4 : (cx pk 1) = (0 : Int32)
    · refine m_ifN K X3.here hx hby (q := 18) d_prog_6_11_15 ((if0 _ _).trans (teq hc15_4).2) rfl ?_
      refine m_iconst K X3.here hx hby (1 : Int32) d_prog_6_11_18 rfl rfl ?_
      exact Go.retN X3 hx hby hlk hret (by simp) d_prog_6_11_19 (by decide) (by decide) (by decide) (⟨congrArg (fun z => some (Value.int z)) (Eq.symm (by rw [HRV, if_neg hc15_2, if_pos hc15_4])), e3, rfl⟩)
    · refine m_ifY K X3.here hx hby (q := 20) d_prog_6_11_15 ((if0 _ _).trans (feq hc15_4).2) (by decide) rfl ?_
      refine m_iinc K X3.here hx hby #[.val (.ref a1), .val (.int j), .val (.int (2 : Int32))] d_prog_6_11_20 rfl rfl rfl ?_
      refine m_goto K X3.here hx hby (q := 2) d_prog_6_11_23 (by decide) rfl ?_
      refine m_iloadN K X3.here hx hby d_prog_6_11_2 rfl rfl ?_
      refine m_iconst K X3.here hx hby (4 : Int32) d_prog_6_11_3 rfl rfl ?_
      refine m_icmpN K X3.here hx hby (q := 7) d_prog_6_11_4 (tlt (by decide : (2 : Int32) < (4 : Int32))).2.1 rfl ?_
      refine m_aloadN K X3.here hx hby d_prog_6_11_7 rfl rfl rfl ?_
      refine k_getF K X3 hx hby hZ hown (host := "") (Or.inl (hw _ (List.mem_of_getElem? (i := 101) rfl))) Via.refl e3 F_occupied_a1 d_prog_6_11_8 rfl fun T5 X5 e5 => ?_
      refine m_iloadN K X5.here hx hby d_prog_6_11_11 rfl rfl ?_
      refine k_ldR K X5 hx hby hZ e5 rfl A_bo (v := (.ref xk)) hj0 hj d_prog_6_11_12 rfl ?_
      refine m_iloadN K X5.here hx hby d_prog_6_11_13 rfl rfl ?_
      refine k_ldZ K X5 hx hby hZ e5 A_xk (v := (.int (cx pk 2))) (by decide) rfl d_prog_6_11_14 rfl ?_
      by_cases hc15_6 : (cx pk 2) = (0 : Int32)
      · refine m_ifN K X5.here hx hby (q := 18) d_prog_6_11_15 ((if0 _ _).trans (teq hc15_6).2) rfl ?_
        refine m_iconst K X5.here hx hby (1 : Int32) d_prog_6_11_18 rfl rfl ?_
        exact Go.retN X5 hx hby hlk hret (by simp) d_prog_6_11_19 (by decide) (by decide) (by decide) (⟨congrArg (fun z => some (Value.int z)) (Eq.symm (by rw [HRV, if_neg hc15_2, if_neg hc15_4, if_pos hc15_6])), e5, rfl⟩)
      · refine m_ifY K X5.here hx hby (q := 20) d_prog_6_11_15 ((if0 _ _).trans (feq hc15_6).2) (by decide) rfl ?_
        refine m_iinc K X5.here hx hby #[.val (.ref a1), .val (.int j), .val (.int (3 : Int32))] d_prog_6_11_20 rfl rfl rfl ?_
        refine m_goto K X5.here hx hby (q := 2) d_prog_6_11_23 (by decide) rfl ?_
        refine m_iloadN K X5.here hx hby d_prog_6_11_2 rfl rfl ?_
        refine m_iconst K X5.here hx hby (4 : Int32) d_prog_6_11_3 rfl rfl ?_
        refine m_icmpN K X5.here hx hby (q := 7) d_prog_6_11_4 (tlt (by decide : (3 : Int32) < (4 : Int32))).2.1 rfl ?_
        refine m_aloadN K X5.here hx hby d_prog_6_11_7 rfl rfl rfl ?_
        refine k_getF K X5 hx hby hZ hown (host := "") (Or.inl (hw _ (List.mem_of_getElem? (i := 101) rfl))) Via.refl e5 F_occupied_a1 d_prog_6_11_8 rfl fun T7 X7 e7 => ?_
        refine m_iloadN K X7.here hx hby d_prog_6_11_11 rfl rfl ?_
        refine k_ldR K X7 hx hby hZ e7 rfl A_bo (v := (.ref xk)) hj0 hj d_prog_6_11_12 rfl ?_
        refine m_iloadN K X7.here hx hby d_prog_6_11_13 rfl rfl ?_
        refine k_ldZ K X7 hx hby hZ e7 A_xk (v := (.int (cx pk 3))) (by decide) rfl d_prog_6_11_14 rfl ?_
        by_cases hc15_8 : (cx pk 3) = (0 : Int32)
        · refine m_ifN K X7.here hx hby (q := 18) d_prog_6_11_15 ((if0 _ _).trans (teq hc15_8).2) rfl ?_
          refine m_iconst K X7.here hx hby (1 : Int32) d_prog_6_11_18 rfl rfl ?_
          exact Go.retN X7 hx hby hlk hret (by simp) d_prog_6_11_19 (by decide) (by decide) (by decide) (⟨congrArg (fun z => some (Value.int z)) (Eq.symm (by rw [HRV, if_neg hc15_2, if_neg hc15_4, if_neg hc15_6, if_pos hc15_8])), e7, rfl⟩)
        · refine m_ifY K X7.here hx hby (q := 20) d_prog_6_11_15 ((if0 _ _).trans (feq hc15_8).2) (by decide) rfl ?_
          refine m_iinc K X7.here hx hby #[.val (.ref a1), .val (.int j), .val (.int (4 : Int32))] d_prog_6_11_20 rfl rfl rfl ?_
          refine m_goto K X7.here hx hby (q := 2) d_prog_6_11_23 (by decide) rfl ?_
          refine m_iloadN K X7.here hx hby d_prog_6_11_2 rfl rfl ?_
          refine m_iconst K X7.here hx hby (4 : Int32) d_prog_6_11_3 rfl rfl ?_
          refine m_icmpY K X7.here hx hby (q := 26) d_prog_6_11_4 (flt (by decide : ¬ ((4 : Int32) < (4 : Int32)))).2.1 (by decide) rfl ?_
          refine m_iconst K X7.here hx hby (0 : Int32) d_prog_6_11_26 rfl rfl ?_
          exact Go.retN X7 hx hby hlk hret (by simp) d_prog_6_11_27 (by decide) (by decide) (by decide) (⟨congrArg (fun z => some (Value.int z)) (Eq.symm (by rw [HRV, if_neg hc15_2, if_neg hc15_4, if_neg hc15_6, if_neg hc15_8])), e7, rfl⟩)
def wec_1 (pk : Nat) : Int32 := (if (cx pk 0) = (0 : Int32) then (1 : Int32) else (0 : Int32))
theorem wec_1_01 (pk : Nat) : (wec_1 pk) = 0 ∨ (wec_1 pk) = 1 := by
  unfold wec_1
  split
  · exact (Or.inr rfl)
  · exact (Or.inl rfl)
def wec_2 (pk : Nat) : Int32 := (if (cx pk 1) = (0 : Int32) then ((wec_1 pk) + (1 : Int32)) else (wec_1 pk))
def wec_3 (pk : Nat) : Int32 := (if (cx pk 2) = (0 : Int32) then ((wec_2 pk) + (1 : Int32)) else (wec_2 pk))
def wec_4 (pk : Nat) : Int32 := (if (cx pk 3) = (0 : Int32) then ((wec_3 pk) + (1 : Int32)) else (wec_3 pk))
def wec_5 (pk : Nat) : Int32 := (if (cx pk 4) = (0 : Int32) then ((wec_4 pk) + (1 : Int32)) else (wec_4 pk))
def ECV (pk : Nat) : Int32 := (wec_5 pk)
theorem d_prog_6_4_0 : decode prog_6_method_4_code 0 = .ok (.iconst 0, 1) := by decide +kernel
theorem d_prog_6_4_1 : decode prog_6_method_4_code 1 = .ok (.istore_n 2, 1) := by decide +kernel
theorem d_prog_6_4_2 : decode prog_6_method_4_code 2 = .ok (.aload_n 0, 1) := by decide +kernel
theorem d_prog_6_4_3 : decode prog_6_method_4_code 3 = .ok (.getfield 11, 3) := by decide +kernel
theorem d_prog_6_4_6 : decode prog_6_method_4_code 6 = .ok (.iload_n 1, 1) := by decide +kernel
theorem d_prog_6_4_7 : decode prog_6_method_4_code 7 = .ok (.aaload, 1) := by decide +kernel
theorem d_prog_6_4_8 : decode prog_6_method_4_code 8 = .ok (.astore_n 3, 1) := by decide +kernel
theorem d_prog_6_4_9 : decode prog_6_method_4_code 9 = .ok (.aload_n 3, 1) := by decide +kernel
theorem d_prog_6_4_10 : decode prog_6_method_4_code 10 = .ok (.arraylength, 1) := by decide +kernel
theorem d_prog_6_4_11 : decode prog_6_method_4_code 11 = .ok (.istore 4, 2) := by decide +kernel
theorem d_prog_6_4_13 : decode prog_6_method_4_code 13 = .ok (.iconst 0, 1) := by decide +kernel
theorem d_prog_6_4_14 : decode prog_6_method_4_code 14 = .ok (.istore 5, 2) := by decide +kernel
theorem d_prog_6_4_16 : decode prog_6_method_4_code 16 = .ok (.iload 5, 2) := by decide +kernel
theorem d_prog_6_4_18 : decode prog_6_method_4_code 18 = .ok (.iload 4, 2) := by decide +kernel
theorem d_prog_6_4_20 : decode prog_6_method_4_code 20 = .ok (.if_icmp .ge 23, 3) := by decide +kernel
theorem d_prog_6_4_23 : decode prog_6_method_4_code 23 = .ok (.aload_n 3, 1) := by decide +kernel
theorem d_prog_6_4_24 : decode prog_6_method_4_code 24 = .ok (.iload 5, 2) := by decide +kernel
theorem d_prog_6_4_26 : decode prog_6_method_4_code 26 = .ok (.baload, 1) := by decide +kernel
theorem d_prog_6_4_27 : decode prog_6_method_4_code 27 = .ok (.istore 6, 2) := by decide +kernel
theorem d_prog_6_4_29 : decode prog_6_method_4_code 29 = .ok (.iload 6, 2) := by decide +kernel
theorem d_prog_6_4_31 : decode prog_6_method_4_code 31 = .ok (.ifCond .ne 6, 3) := by decide +kernel
theorem d_prog_6_4_34 : decode prog_6_method_4_code 34 = .ok (.iinc 2 1, 3) := by decide +kernel
theorem d_prog_6_4_37 : decode prog_6_method_4_code 37 = .ok (.iinc 5 1, 3) := by decide +kernel
theorem d_prog_6_4_40 : decode prog_6_method_4_code 40 = .ok (.goto (-24), 3) := by decide +kernel
theorem d_prog_6_4_43 : decode prog_6_method_4_code 43 = .ok (.iload_n 2, 1) := by decide +kernel
theorem d_prog_6_4_44 : decode prog_6_method_4_code 44 = .ok (.ireturn, 1) := by decide +kernel
theorem efec (m : MethodId) (x0 : Addr) (x1 : Int32) : entryFrame m #[(.ref x0), (.int x1)] 7 = mkF m 0 #[.val (.ref x0), .val (.int x1), .unset, .unset, .unset, .unset, .unset] [] := by first | (simp [entryFrame, mkF, argsToLocals, Value.category]; done) | rfl
set_option maxRecDepth 65536 in
set_option maxHeartbeats 40000000 in
theorem cec (l : Launch) (Z : State) (a0 : Array Value) (hw : ∀ d ∈ tables_1, d.before a0 Z = true) (a1 : Addr) (j : Int32) (bo : Addr) (os : (List Value)) (xk : Addr) (pk : Nat) (h0 : Heap) (n0 : Nat) (Z0 : n0 ≤ h0.size) (F_occupied_a1 : Fld Z h0 a1 "com/example/craterworks/craterworks/SharesStation" "occupied" "[[Z" (.ref bo)) (A_bo : Av Z h0 bo (.array .boolean) os) (A_xk : Av Z h0 xk .boolean [(.int (cx pk 0)), (.int (cx pk 1)), (.int (cx pk 2)), (.int (cx pk 3)), (.int (cx pk 4))]) (hj0 : ¬ j < 0) (hj : os[j.toNatClampNeg]? = some (.ref xk)) :
    Con l Z (⟨"com/example/craterworks/craterworks/SharesStation", "emptyCells", "(I)I"⟩ : MethodName) prog_6_method_4_code 7 (some .int) ({ frames := 0, cells := 0, slots := 0, locals := 0 } : Room) [] #[(.ref a1), (.int j)] h0 (fun v h L => v = some (.int (ECV pk)) ∧ h = h0 ∧ L = []) := by
  refine Con.of (plainFor_of_name pn_com_example_craterworks_craterworks_SharesStation) #[.val (.ref a1), .val (.int j), .unset, .unset, .unset, .unset, .unset] (fun m => efec m a1 j) ?_
  intro p e s m below meth c s₁ K hx hby hml hown hnm hret hlk hZ X0 e0 hnd
  have N0 := Fr.nil n0
  refine m_iconst K X0.here hx hby (0 : Int32) d_prog_6_4_0 rfl rfl ?_
  refine m_istoreN K X0.here hx hby #[.val (.ref a1), .val (.int j), .val (.int (0 : Int32)), .unset, .unset, .unset, .unset] d_prog_6_4_1 rfl rfl ?_
  refine m_aloadN K X0.here hx hby d_prog_6_4_2 rfl rfl rfl ?_
  refine k_getF K X0 hx hby hZ hown (host := "") (Or.inl (hw _ (List.mem_of_getElem? (i := 101) rfl))) Via.refl e0 F_occupied_a1 d_prog_6_4_3 rfl fun T1 X1 e1 => ?_
  refine m_iloadN K X1.here hx hby d_prog_6_4_6 rfl rfl ?_
  refine k_ldR K X1 hx hby hZ e1 rfl A_bo (v := (.ref xk)) hj0 hj d_prog_6_4_7 rfl ?_
  refine m_astoreN K X1.here hx hby #[.val (.ref a1), .val (.int j), .val (.int (0 : Int32)), .val (.ref xk), .unset, .unset, .unset] d_prog_6_4_8 rfl rfl rfl ?_
  refine m_aloadN K X1.here hx hby d_prog_6_4_9 rfl rfl rfl ?_
  refine k_len K X1 hx hby hZ (5 : Int32) e1 A_xk rfl d_prog_6_4_10 rfl ?_
  refine m_istore K X1.here hx hby #[.val (.ref a1), .val (.int j), .val (.int (0 : Int32)), .val (.ref xk), .val (.int (5 : Int32)), .unset, .unset] d_prog_6_4_11 rfl rfl ?_
  refine m_iconst K X1.here hx hby (0 : Int32) d_prog_6_4_13 rfl rfl ?_
  refine m_istore K X1.here hx hby #[.val (.ref a1), .val (.int j), .val (.int (0 : Int32)), .val (.ref xk), .val (.int (5 : Int32)), .val (.int (0 : Int32)), .unset] d_prog_6_4_14 rfl rfl ?_
  refine m_iload K X1.here hx hby d_prog_6_4_16 rfl rfl ?_
  refine m_iload K X1.here hx hby d_prog_6_4_18 rfl rfl ?_
  refine m_icmpN K X1.here hx hby (q := 23) d_prog_6_4_20 (tlt (by decide : (0 : Int32) < (5 : Int32))).2.1 rfl ?_
  refine m_aloadN K X1.here hx hby d_prog_6_4_23 rfl rfl rfl ?_
  refine m_iload K X1.here hx hby d_prog_6_4_24 rfl rfl ?_
  refine k_ldZ K X1 hx hby hZ e1 A_xk (v := (.int (cx pk 0))) (by decide) rfl d_prog_6_4_26 rfl ?_
  refine m_istore K X1.here hx hby #[.val (.ref a1), .val (.int j), .val (.int (0 : Int32)), .val (.ref xk), .val (.int (5 : Int32)), .val (.int (0 : Int32)), .val (.int (cx pk 0))] d_prog_6_4_27 rfl rfl ?_
  refine m_iload K X1.here hx hby d_prog_6_4_29 rfl rfl ?_
  obtain ⟨T3, X3, e3, st3⟩ : Mx X1 h0 (mkF m 37 #[.val (.ref a1), .val (.int j), .val (.int (wec_1 pk)), .val (.ref xk), .val (.int (5 : Int32)), .val (.int (0 : Int32)), .val (.int (cx pk 0))] []) (T1.setTop (mkF m 31 #[.val (.ref a1), .val (.int j), .val (.int (0 : Int32)), .val (.ref xk), .val (.int (5 : Int32)), .val (.int (0 : Int32)), .val (.int (cx pk 0))] [(.int (cx pk 0))])) := by
    refine Mx.with fun K => ?_
    by_cases hc31_2 : (cx pk 0) = (0 : Int32)
    · refine m_ifN K X1.here hx hby (q := 34) d_prog_6_4_31 ((if0 _ _).trans (teq hc31_2).2) rfl ?_
      refine m_iinc K X1.here hx hby #[.val (.ref a1), .val (.int j), .val (.int (1 : Int32)), .val (.ref xk), .val (.int (5 : Int32)), .val (.int (0 : Int32)), .val (.int (cx pk 0))] d_prog_6_4_34 rfl rfl rfl ?_
      rw [show ((wec_1 pk) : Int32) = (1 : Int32) from if_pos hc31_2]
      exact Mx.here X1 e1
    · refine m_ifY K X1.here hx hby (q := 37) d_prog_6_4_31 ((if0 _ _).trans (feq hc31_2).2) (by decide) rfl ?_
      rw [show ((wec_1 pk) : Int32) = (0 : Int32) from if_neg hc31_2]
      exact Mx.here X1 e1
  refine k_go K st3 ?_
  refine m_iinc K X3.here hx hby #[.val (.ref a1), .val (.int j), .val (.int (wec_1 pk)), .val (.ref xk), .val (.int (5 : Int32)), .val (.int (1 : Int32)), .val (.int (cx pk 0))] d_prog_6_4_37 rfl rfl rfl ?_
  refine m_goto K X3.here hx hby (q := 16) d_prog_6_4_40 (by decide) rfl ?_
  refine m_iload K X3.here hx hby d_prog_6_4_16 rfl rfl ?_
  refine m_iload K X3.here hx hby d_prog_6_4_18 rfl rfl ?_
  refine m_icmpN K X3.here hx hby (q := 23) d_prog_6_4_20 (tlt (by decide : (1 : Int32) < (5 : Int32))).2.1 rfl ?_
  refine m_aloadN K X3.here hx hby d_prog_6_4_23 rfl rfl rfl ?_
  refine m_iload K X3.here hx hby d_prog_6_4_24 rfl rfl ?_
  refine k_ldZ K X3 hx hby hZ e3 A_xk (v := (.int (cx pk 1))) (by decide) rfl d_prog_6_4_26 rfl ?_
  refine m_istore K X3.here hx hby #[.val (.ref a1), .val (.int j), .val (.int (wec_1 pk)), .val (.ref xk), .val (.int (5 : Int32)), .val (.int (1 : Int32)), .val (.int (cx pk 1))] d_prog_6_4_27 rfl rfl ?_
  refine m_iload K X3.here hx hby d_prog_6_4_29 rfl rfl ?_
  obtain ⟨T5, X5, e5, st5⟩ : Mx X3 h0 (mkF m 37 #[.val (.ref a1), .val (.int j), .val (.int (wec_2 pk)), .val (.ref xk), .val (.int (5 : Int32)), .val (.int (1 : Int32)), .val (.int (cx pk 1))] []) (T3.setTop (mkF m 31 #[.val (.ref a1), .val (.int j), .val (.int (wec_1 pk)), .val (.ref xk), .val (.int (5 : Int32)), .val (.int (1 : Int32)), .val (.int (cx pk 1))] [(.int (cx pk 1))])) := by
    refine Mx.with fun K => ?_
    by_cases hc31_4 : (cx pk 1) = (0 : Int32)
    · refine m_ifN K X3.here hx hby (q := 34) d_prog_6_4_31 ((if0 _ _).trans (teq hc31_4).2) rfl ?_
      refine m_iinc K X3.here hx hby #[.val (.ref a1), .val (.int j), .val (.int ((wec_1 pk) + (1 : Int32))), .val (.ref xk), .val (.int (5 : Int32)), .val (.int (1 : Int32)), .val (.int (cx pk 1))] d_prog_6_4_34 rfl rfl rfl ?_
      rw [show ((wec_2 pk) : Int32) = ((wec_1 pk) + (1 : Int32)) from if_pos hc31_4]
      exact Mx.here X3 e3
    · refine m_ifY K X3.here hx hby (q := 37) d_prog_6_4_31 ((if0 _ _).trans (feq hc31_4).2) (by decide) rfl ?_
      rw [show ((wec_2 pk) : Int32) = (wec_1 pk) from if_neg hc31_4]
      exact Mx.here X3 e3
  refine k_go K st5 ?_
  refine m_iinc K X5.here hx hby #[.val (.ref a1), .val (.int j), .val (.int (wec_2 pk)), .val (.ref xk), .val (.int (5 : Int32)), .val (.int (2 : Int32)), .val (.int (cx pk 1))] d_prog_6_4_37 rfl rfl rfl ?_
  refine m_goto K X5.here hx hby (q := 16) d_prog_6_4_40 (by decide) rfl ?_
  refine m_iload K X5.here hx hby d_prog_6_4_16 rfl rfl ?_
  refine m_iload K X5.here hx hby d_prog_6_4_18 rfl rfl ?_
  refine m_icmpN K X5.here hx hby (q := 23) d_prog_6_4_20 (tlt (by decide : (2 : Int32) < (5 : Int32))).2.1 rfl ?_
  refine m_aloadN K X5.here hx hby d_prog_6_4_23 rfl rfl rfl ?_
  refine m_iload K X5.here hx hby d_prog_6_4_24 rfl rfl ?_
  refine k_ldZ K X5 hx hby hZ e5 A_xk (v := (.int (cx pk 2))) (by decide) rfl d_prog_6_4_26 rfl ?_
  refine m_istore K X5.here hx hby #[.val (.ref a1), .val (.int j), .val (.int (wec_2 pk)), .val (.ref xk), .val (.int (5 : Int32)), .val (.int (2 : Int32)), .val (.int (cx pk 2))] d_prog_6_4_27 rfl rfl ?_
  refine m_iload K X5.here hx hby d_prog_6_4_29 rfl rfl ?_
  obtain ⟨T7, X7, e7, st7⟩ : Mx X5 h0 (mkF m 37 #[.val (.ref a1), .val (.int j), .val (.int (wec_3 pk)), .val (.ref xk), .val (.int (5 : Int32)), .val (.int (2 : Int32)), .val (.int (cx pk 2))] []) (T5.setTop (mkF m 31 #[.val (.ref a1), .val (.int j), .val (.int (wec_2 pk)), .val (.ref xk), .val (.int (5 : Int32)), .val (.int (2 : Int32)), .val (.int (cx pk 2))] [(.int (cx pk 2))])) := by
    refine Mx.with fun K => ?_
    by_cases hc31_6 : (cx pk 2) = (0 : Int32)
    · refine m_ifN K X5.here hx hby (q := 34) d_prog_6_4_31 ((if0 _ _).trans (teq hc31_6).2) rfl ?_
      refine m_iinc K X5.here hx hby #[.val (.ref a1), .val (.int j), .val (.int ((wec_2 pk) + (1 : Int32))), .val (.ref xk), .val (.int (5 : Int32)), .val (.int (2 : Int32)), .val (.int (cx pk 2))] d_prog_6_4_34 rfl rfl rfl ?_
      rw [show ((wec_3 pk) : Int32) = ((wec_2 pk) + (1 : Int32)) from if_pos hc31_6]
      exact Mx.here X5 e5
    · refine m_ifY K X5.here hx hby (q := 37) d_prog_6_4_31 ((if0 _ _).trans (feq hc31_6).2) (by decide) rfl ?_
      rw [show ((wec_3 pk) : Int32) = (wec_2 pk) from if_neg hc31_6]
      exact Mx.here X5 e5
  refine k_go K st7 ?_
  refine m_iinc K X7.here hx hby #[.val (.ref a1), .val (.int j), .val (.int (wec_3 pk)), .val (.ref xk), .val (.int (5 : Int32)), .val (.int (3 : Int32)), .val (.int (cx pk 2))] d_prog_6_4_37 rfl rfl rfl ?_
  refine m_goto K X7.here hx hby (q := 16) d_prog_6_4_40 (by decide) rfl ?_
  refine m_iload K X7.here hx hby d_prog_6_4_16 rfl rfl ?_
  refine m_iload K X7.here hx hby d_prog_6_4_18 rfl rfl ?_
  refine m_icmpN K X7.here hx hby (q := 23) d_prog_6_4_20 (tlt (by decide : (3 : Int32) < (5 : Int32))).2.1 rfl ?_
  refine m_aloadN K X7.here hx hby d_prog_6_4_23 rfl rfl rfl ?_
  refine m_iload K X7.here hx hby d_prog_6_4_24 rfl rfl ?_
  refine k_ldZ K X7 hx hby hZ e7 A_xk (v := (.int (cx pk 3))) (by decide) rfl d_prog_6_4_26 rfl ?_
  refine m_istore K X7.here hx hby #[.val (.ref a1), .val (.int j), .val (.int (wec_3 pk)), .val (.ref xk), .val (.int (5 : Int32)), .val (.int (3 : Int32)), .val (.int (cx pk 3))] d_prog_6_4_27 rfl rfl ?_
  refine m_iload K X7.here hx hby d_prog_6_4_29 rfl rfl ?_
  obtain ⟨T9, X9, e9, st9⟩ : Mx X7 h0 (mkF m 37 #[.val (.ref a1), .val (.int j), .val (.int (wec_4 pk)), .val (.ref xk), .val (.int (5 : Int32)), .val (.int (3 : Int32)), .val (.int (cx pk 3))] []) (T7.setTop (mkF m 31 #[.val (.ref a1), .val (.int j), .val (.int (wec_3 pk)), .val (.ref xk), .val (.int (5 : Int32)), .val (.int (3 : Int32)), .val (.int (cx pk 3))] [(.int (cx pk 3))])) := by
    refine Mx.with fun K => ?_
    by_cases hc31_8 : (cx pk 3) = (0 : Int32)
    · refine m_ifN K X7.here hx hby (q := 34) d_prog_6_4_31 ((if0 _ _).trans (teq hc31_8).2) rfl ?_
      refine m_iinc K X7.here hx hby #[.val (.ref a1), .val (.int j), .val (.int ((wec_3 pk) + (1 : Int32))), .val (.ref xk), .val (.int (5 : Int32)), .val (.int (3 : Int32)), .val (.int (cx pk 3))] d_prog_6_4_34 rfl rfl rfl ?_
      rw [show ((wec_4 pk) : Int32) = ((wec_3 pk) + (1 : Int32)) from if_pos hc31_8]
      exact Mx.here X7 e7
    · refine m_ifY K X7.here hx hby (q := 37) d_prog_6_4_31 ((if0 _ _).trans (feq hc31_8).2) (by decide) rfl ?_
      rw [show ((wec_4 pk) : Int32) = (wec_3 pk) from if_neg hc31_8]
      exact Mx.here X7 e7
  refine k_go K st9 ?_
  refine m_iinc K X9.here hx hby #[.val (.ref a1), .val (.int j), .val (.int (wec_4 pk)), .val (.ref xk), .val (.int (5 : Int32)), .val (.int (4 : Int32)), .val (.int (cx pk 3))] d_prog_6_4_37 rfl rfl rfl ?_
  refine m_goto K X9.here hx hby (q := 16) d_prog_6_4_40 (by decide) rfl ?_
  refine m_iload K X9.here hx hby d_prog_6_4_16 rfl rfl ?_
  refine m_iload K X9.here hx hby d_prog_6_4_18 rfl rfl ?_
  refine m_icmpN K X9.here hx hby (q := 23) d_prog_6_4_20 (tlt (by decide : (4 : Int32) < (5 : Int32))).2.1 rfl ?_
  refine m_aloadN K X9.here hx hby d_prog_6_4_23 rfl rfl rfl ?_
  refine m_iload K X9.here hx hby d_prog_6_4_24 rfl rfl ?_
  refine k_ldZ K X9 hx hby hZ e9 A_xk (v := (.int (cx pk 4))) (by decide) rfl d_prog_6_4_26 rfl ?_
  refine m_istore K X9.here hx hby #[.val (.ref a1), .val (.int j), .val (.int (wec_4 pk)), .val (.ref xk), .val (.int (5 : Int32)), .val (.int (4 : Int32)), .val (.int (cx pk 4))] d_prog_6_4_27 rfl rfl ?_
  refine m_iload K X9.here hx hby d_prog_6_4_29 rfl rfl ?_
  obtain ⟨T11, X11, e11, st11⟩ : Mx X9 h0 (mkF m 37 #[.val (.ref a1), .val (.int j), .val (.int (wec_5 pk)), .val (.ref xk), .val (.int (5 : Int32)), .val (.int (4 : Int32)), .val (.int (cx pk 4))] []) (T9.setTop (mkF m 31 #[.val (.ref a1), .val (.int j), .val (.int (wec_4 pk)), .val (.ref xk), .val (.int (5 : Int32)), .val (.int (4 : Int32)), .val (.int (cx pk 4))] [(.int (cx pk 4))])) := by
    refine Mx.with fun K => ?_
    by_cases hc31_10 : (cx pk 4) = (0 : Int32)
    · refine m_ifN K X9.here hx hby (q := 34) d_prog_6_4_31 ((if0 _ _).trans (teq hc31_10).2) rfl ?_
      refine m_iinc K X9.here hx hby #[.val (.ref a1), .val (.int j), .val (.int ((wec_4 pk) + (1 : Int32))), .val (.ref xk), .val (.int (5 : Int32)), .val (.int (4 : Int32)), .val (.int (cx pk 4))] d_prog_6_4_34 rfl rfl rfl ?_
      rw [show ((wec_5 pk) : Int32) = ((wec_4 pk) + (1 : Int32)) from if_pos hc31_10]
      exact Mx.here X9 e9
    · refine m_ifY K X9.here hx hby (q := 37) d_prog_6_4_31 ((if0 _ _).trans (feq hc31_10).2) (by decide) rfl ?_
      rw [show ((wec_5 pk) : Int32) = (wec_4 pk) from if_neg hc31_10]
      exact Mx.here X9 e9
  refine k_go K st11 ?_
  refine m_iinc K X11.here hx hby #[.val (.ref a1), .val (.int j), .val (.int (wec_5 pk)), .val (.ref xk), .val (.int (5 : Int32)), .val (.int (5 : Int32)), .val (.int (cx pk 4))] d_prog_6_4_37 rfl rfl rfl ?_
  refine m_goto K X11.here hx hby (q := 16) d_prog_6_4_40 (by decide) rfl ?_
  refine m_iload K X11.here hx hby d_prog_6_4_16 rfl rfl ?_
  refine m_iload K X11.here hx hby d_prog_6_4_18 rfl rfl ?_
  refine m_icmpY K X11.here hx hby (q := 43) d_prog_6_4_20 (flt (by decide : ¬ ((5 : Int32) < (5 : Int32)))).2.1 (by decide) rfl ?_
  refine m_iloadN K X11.here hx hby d_prog_6_4_43 rfl rfl ?_
  exact Go.retI X11 hx hby hlk hret d_prog_6_4_44 (by decide) (by decide) (⟨rfl, e11, rfl⟩)
def wbt_1 (pj : Nat) (pk : Nat) : Int32 := (if (ECV pk) < (ECV pj) then (1 : Int32) else (0 : Int32))
theorem wbt_1_01 (pj : Nat) (pk : Nat) : (wbt_1 pj pk) = 0 ∨ (wbt_1 pj pk) = 1 := by
  unfold wbt_1
  split
  · exact (Or.inr rfl)
  · exact (Or.inl rfl)
def wbt_2 (pj : Nat) (pk : Nat) : Int32 := (if (ECV pj) = (ECV pk) then (0 : Int32) else (wbt_1 pj pk))
theorem wbt_2_01 (pj : Nat) (pk : Nat) : (wbt_2 pj pk) = 0 ∨ (wbt_2 pj pk) = 1 := by
  unfold wbt_2
  split
  · exact (Or.inl rfl)
  · exact (wbt_1_01 pj pk)
def BTV (pj pk : Nat) : Int32 := (wbt_2 pj pk)
theorem d_prog_6_8_0 : decode prog_6_method_8_code 0 = .ok (.aload_n 0, 1) := by decide +kernel
theorem d_prog_6_8_1 : decode prog_6_method_8_code 1 = .ok (.iload_n 1, 1) := by decide +kernel
theorem d_prog_6_8_2 : decode prog_6_method_8_code 2 = .ok (.invokevirtual 50, 3) := by decide +kernel
theorem d_prog_6_8_5 : decode prog_6_method_8_code 5 = .ok (.aload_n 0, 1) := by decide +kernel
theorem d_prog_6_8_6 : decode prog_6_method_8_code 6 = .ok (.iload_n 2, 1) := by decide +kernel
theorem d_prog_6_8_7 : decode prog_6_method_8_code 7 = .ok (.invokevirtual 50, 3) := by decide +kernel
theorem d_prog_6_8_10 : decode prog_6_method_8_code 10 = .ok (.if_icmp .eq 26, 3) := by decide +kernel
theorem d_prog_6_8_13 : decode prog_6_method_8_code 13 = .ok (.aload_n 0, 1) := by decide +kernel
theorem d_prog_6_8_14 : decode prog_6_method_8_code 14 = .ok (.iload_n 1, 1) := by decide +kernel
theorem d_prog_6_8_15 : decode prog_6_method_8_code 15 = .ok (.invokevirtual 50, 3) := by decide +kernel
theorem d_prog_6_8_18 : decode prog_6_method_8_code 18 = .ok (.aload_n 0, 1) := by decide +kernel
theorem d_prog_6_8_19 : decode prog_6_method_8_code 19 = .ok (.iload_n 2, 1) := by decide +kernel
theorem d_prog_6_8_20 : decode prog_6_method_8_code 20 = .ok (.invokevirtual 50, 3) := by decide +kernel
theorem d_prog_6_8_23 : decode prog_6_method_8_code 23 = .ok (.if_icmp .le 7, 3) := by decide +kernel
theorem d_prog_6_8_26 : decode prog_6_method_8_code 26 = .ok (.iconst 1, 1) := by decide +kernel
theorem d_prog_6_8_27 : decode prog_6_method_8_code 27 = .ok (.goto 4, 3) := by decide +kernel
theorem d_prog_6_8_30 : decode prog_6_method_8_code 30 = .ok (.iconst 0, 1) := by decide +kernel
theorem d_prog_6_8_31 : decode prog_6_method_8_code 31 = .ok (.istore 4, 2) := by decide +kernel
theorem d_prog_6_8_33 : decode prog_6_method_8_code 33 = .ok (.goto 27, 3) := by decide +kernel
theorem d_prog_6_8_36 : decode prog_6_method_8_code 36 = .ok (.iload_n 3, 1) := by decide +kernel
theorem d_prog_6_8_37 : decode prog_6_method_8_code 37 = .ok (.ifCond .eq 20, 3) := by decide +kernel
theorem d_prog_6_8_57 : decode prog_6_method_8_code 57 = .ok (.iconst 0, 1) := by decide +kernel
theorem d_prog_6_8_58 : decode prog_6_method_8_code 58 = .ok (.istore 4, 2) := by decide +kernel
theorem d_prog_6_8_60 : decode prog_6_method_8_code 60 = .ok (.iload 4, 2) := by decide +kernel
theorem d_prog_6_8_62 : decode prog_6_method_8_code 62 = .ok (.ireturn, 1) := by decide +kernel
theorem pd_0 : parseMethodDescriptor "(I)I" = some ⟨[.int], some .int⟩ := by decide +kernel
theorem efbt (m : MethodId) (x0 : Addr) (x1 : Int32) (x2 : Int32) (x3 : Int32) : entryFrame m #[(.ref x0), (.int x1), (.int x2), (.int x3)] 5 = mkF m 0 #[.val (.ref x0), .val (.int x1), .val (.int x2), .val (.int x3), .unset] [] := by first | (simp [entryFrame, mkF, argsToLocals, Value.category]; done) | rfl
set_option maxRecDepth 65536 in
set_option maxHeartbeats 40000000 in
theorem cbt (l : Launch) (Z : State) (a0 : Array Value) (hw : ∀ d ∈ tables_1, d.before a0 Z = true) (a1 : Addr) (j : Int32) (k : Int32) (bo : Addr) (os : (List Value)) (xj : Addr) (xk : Addr) (pj : Nat) (pk : Nat) (h0 : Heap) (n0 : Nat) (Z0 : n0 ≤ h0.size) (E_a1 : Exa Z h0 a1 "com/example/craterworks/craterworks/SharesStation") (F_occupied_a1 : Fld Z h0 a1 "com/example/craterworks/craterworks/SharesStation" "occupied" "[[Z" (.ref bo)) (A_bo : Av Z h0 bo (.array .boolean) os) (A_xj : Av Z h0 xj .boolean [(.int (cx pj 0)), (.int (cx pj 1)), (.int (cx pj 2)), (.int (cx pj 3)), (.int (cx pj 4))]) (A_xk : Av Z h0 xk .boolean [(.int (cx pk 0)), (.int (cx pk 1)), (.int (cx pk 2)), (.int (cx pk 3)), (.int (cx pk 4))]) (hj0 : ¬ j < 0) (hj : os[j.toNatClampNeg]? = some (.ref xj)) (hk0 : ¬ k < 0) (hk : os[k.toNatClampNeg]? = some (.ref xk)) :
    Con l Z (⟨"com/example/craterworks/craterworks/SharesStation", "beats", "(IIZ)Z"⟩ : MethodName) prog_6_method_8_code 5 (some .boolean) ({ frames := 1, cells := 0, slots := 0, locals := 19 } : Room) [] #[(.ref a1), (.int j), (.int k), (.int (0 : Int32))] h0 (fun v h L => v = some (.int (BTV pj pk)) ∧ h = h0 ∧ L = []) := by
  refine Con.of (plainFor_of_name pn_com_example_craterworks_craterworks_SharesStation) #[.val (.ref a1), .val (.int j), .val (.int k), .val (.int (0 : Int32)), .unset] (fun m => efbt m a1 j k (0 : Int32)) ?_
  intro p e s m below meth c s₁ K hx hby hml hown hnm hret hlk hZ X0 e0 hnd
  have N0 := Fr.nil n0
  refine m_aloadN K X0.here hx hby d_prog_6_8_0 rfl rfl rfl ?_
  refine m_iloadN K X0.here hx hby d_prog_6_8_1 rfl rfl ?_
  refine k_callV K X0 hx hby hZ a1 [(.int j)] [] hown (hw _ (List.mem_of_getElem? (i := 179) rfl)) (hw _ (List.mem_of_getElem? (i := 180) rfl)) (notFace_of_selects (args := #[]) (mvT hZ.wide (hw _ (List.mem_of_getElem? (i := 182) rfl)))) (hw _ (List.mem_of_getElem? (i := 182) rfl)) (hw _ (List.mem_of_getElem? (i := 181) rfl)) (hw _ (List.mem_of_getElem? (i := 93) rfl)) (hw _ (List.mem_of_getElem? (i := 183) rfl)) (cec l Z a0 hw a1 j bo os xj pj h0 n0 Z0 F_occupied_a1 A_bo A_xj hj0 hj) e0 E_a1 rfl rfl pd_0 rfl d_prog_6_8_2 (by rw [hml]; rfl) rfl (by decide) (by decide) (Nat.le_of_ble_eq_true rfl) (by decide) (by decide) fun v1 T1 L1 X1 q1 => ?_
  obtain ⟨rfl, e1, rfl⟩ := q1
  replace X1 := own_px X1
  refine k_some K (w := (.int (ECV pj))) ?_
  refine m_aloadN K X1.here hx hby d_prog_6_8_5 rfl rfl rfl ?_
  refine m_iloadN K X1.here hx hby d_prog_6_8_6 rfl rfl ?_
  refine k_callV K X1 hx hby hZ a1 [(.int k)] [(.int (ECV pj))] hown (hw _ (List.mem_of_getElem? (i := 179) rfl)) (hw _ (List.mem_of_getElem? (i := 180) rfl)) (notFace_of_selects (args := #[]) (mvT hZ.wide (hw _ (List.mem_of_getElem? (i := 182) rfl)))) (hw _ (List.mem_of_getElem? (i := 182) rfl)) (hw _ (List.mem_of_getElem? (i := 181) rfl)) (hw _ (List.mem_of_getElem? (i := 93) rfl)) (hw _ (List.mem_of_getElem? (i := 183) rfl)) (cec l Z a0 hw a1 k bo os xk pk h0 n0 Z0 F_occupied_a1 A_bo A_xk hk0 hk) e1 E_a1 rfl rfl pd_0 rfl d_prog_6_8_7 (by rw [hml]; rfl) rfl (by decide) (by decide) (Nat.le_of_ble_eq_true rfl) (by decide) (by decide) fun v2 T2 L2 X2 q2 => ?_
  obtain ⟨rfl, e2, rfl⟩ := q2
  replace X2 := own_px X2
  refine k_some K (w := (.int (ECV pk))) ?_
  obtain ⟨T8, X8, e8, st8⟩ : Mx X2 h0 (mkF m 60 #[.val (.ref a1), .val (.int j), .val (.int k), .val (.int (0 : Int32)), .val (.int (wbt_2 pj pk))] []) (T2.setTop (mkF m 10 #[.val (.ref a1), .val (.int j), .val (.int k), .val (.int (0 : Int32)), .unset] [(.int (ECV pk)), (.int (ECV pj))])) := by
    refine Mx.with fun K => ?_
    by_cases hc10_3 : (ECV pj) = (ECV pk)
    · refine m_icmpY K X2.here hx hby (q := 36) d_prog_6_8_10 (teq hc10_3).1 (by decide) rfl ?_
      refine m_iloadN K X2.here hx hby d_prog_6_8_36 rfl rfl ?_
      refine m_ifY K X2.here hx hby (q := 57) d_prog_6_8_37 ((if0 _ _).trans (teq (by decide : (0 : Int32) = (0 : Int32))).1) (by decide) rfl ?_
      refine m_iconst K X2.here hx hby (0 : Int32) d_prog_6_8_57 rfl rfl ?_
      refine m_istore K X2.here hx hby #[.val (.ref a1), .val (.int j), .val (.int k), .val (.int (0 : Int32)), .val (.int (0 : Int32))] d_prog_6_8_58 rfl rfl ?_
      rw [show ((wbt_2 pj pk) : Int32) = (0 : Int32) from if_pos hc10_3]
      exact Mx.here X2 e2
    · refine m_icmpN K X2.here hx hby (q := 13) d_prog_6_8_10 (feq hc10_3).1 rfl ?_
      refine m_aloadN K X2.here hx hby d_prog_6_8_13 rfl rfl rfl ?_
      refine m_iloadN K X2.here hx hby d_prog_6_8_14 rfl rfl ?_
      refine k_callV K X2 hx hby hZ a1 [(.int j)] [] hown (hw _ (List.mem_of_getElem? (i := 179) rfl)) (hw _ (List.mem_of_getElem? (i := 180) rfl)) (notFace_of_selects (args := #[]) (mvT hZ.wide (hw _ (List.mem_of_getElem? (i := 182) rfl)))) (hw _ (List.mem_of_getElem? (i := 182) rfl)) (hw _ (List.mem_of_getElem? (i := 181) rfl)) (hw _ (List.mem_of_getElem? (i := 93) rfl)) (hw _ (List.mem_of_getElem? (i := 183) rfl)) (cec l Z a0 hw a1 j bo os xj pj h0 n0 Z0 F_occupied_a1 A_bo A_xj hj0 hj) e2 E_a1 rfl rfl pd_0 rfl d_prog_6_8_15 (by rw [hml]; rfl) rfl (by decide) (by decide) (Nat.le_of_ble_eq_true rfl) (by decide) (by decide) fun v4 T4 L4 X4 q4 => ?_
      obtain ⟨rfl, e4, rfl⟩ := q4
      replace X4 := own_px X4
      refine k_some K (w := (.int (ECV pj))) ?_
      refine m_aloadN K X4.here hx hby d_prog_6_8_18 rfl rfl rfl ?_
      refine m_iloadN K X4.here hx hby d_prog_6_8_19 rfl rfl ?_
      refine k_callV K X4 hx hby hZ a1 [(.int k)] [(.int (ECV pj))] hown (hw _ (List.mem_of_getElem? (i := 179) rfl)) (hw _ (List.mem_of_getElem? (i := 180) rfl)) (notFace_of_selects (args := #[]) (mvT hZ.wide (hw _ (List.mem_of_getElem? (i := 182) rfl)))) (hw _ (List.mem_of_getElem? (i := 182) rfl)) (hw _ (List.mem_of_getElem? (i := 181) rfl)) (hw _ (List.mem_of_getElem? (i := 93) rfl)) (hw _ (List.mem_of_getElem? (i := 183) rfl)) (cec l Z a0 hw a1 k bo os xk pk h0 n0 Z0 F_occupied_a1 A_bo A_xk hk0 hk) e4 E_a1 rfl rfl pd_0 rfl d_prog_6_8_20 (by rw [hml]; rfl) rfl (by decide) (by decide) (Nat.le_of_ble_eq_true rfl) (by decide) (by decide) fun v5 T5 L5 X5 q5 => ?_
      obtain ⟨rfl, e5, rfl⟩ := q5
      replace X5 := own_px X5
      refine k_some K (w := (.int (ECV pk))) ?_
      obtain ⟨T7, X7, e7, st7⟩ : Mx X5 h0 (mkF m 31 #[.val (.ref a1), .val (.int j), .val (.int k), .val (.int (0 : Int32)), .unset] [(.int (wbt_1 pj pk))]) (T5.setTop (mkF m 23 #[.val (.ref a1), .val (.int j), .val (.int k), .val (.int (0 : Int32)), .unset] [(.int (ECV pk)), (.int (ECV pj))])) := by
        refine Mx.with fun K => ?_
        by_cases hc23_6 : (ECV pk) < (ECV pj)
        · refine m_icmpN K X5.here hx hby (q := 26) d_prog_6_8_23 (tlt hc23_6).2.2.2 rfl ?_
          refine m_iconst K X5.here hx hby (1 : Int32) d_prog_6_8_26 rfl rfl ?_
          refine m_goto K X5.here hx hby (q := 31) d_prog_6_8_27 (by decide) rfl ?_
          rw [show ((wbt_1 pj pk) : Int32) = (1 : Int32) from if_pos hc23_6]
          exact Mx.here X5 e5
        · refine m_icmpY K X5.here hx hby (q := 30) d_prog_6_8_23 (flt hc23_6).2.2.2 (by decide) rfl ?_
          refine m_iconst K X5.here hx hby (0 : Int32) d_prog_6_8_30 rfl rfl ?_
          rw [show ((wbt_1 pj pk) : Int32) = (0 : Int32) from if_neg hc23_6]
          exact Mx.here X5 e5
      refine k_go K st7 ?_
      refine m_istore K X7.here hx hby #[.val (.ref a1), .val (.int j), .val (.int k), .val (.int (0 : Int32)), .val (.int (wbt_1 pj pk))] d_prog_6_8_31 rfl rfl ?_
      refine m_goto K X7.here hx hby (q := 60) d_prog_6_8_33 (by decide) rfl ?_
      rw [show ((wbt_2 pj pk) : Int32) = (wbt_1 pj pk) from if_neg hc10_3]
      exact Mx.here X7 e7
  refine k_go K st8 ?_
  refine m_iload K X8.here hx hby d_prog_6_8_60 rfl rfl ?_
  exact Go.retN X8 hx hby hlk hret (by simp) d_prog_6_8_62 (by decide) (by decide) (own_nar01 (wbt_2_01 pj pk)) (⟨rfl, e8, rfl⟩)
def wmc_1 (p0 : Nat) : Int32 := (if (ux p0) = (0 : Int32) then (0 : Int32) else (1 : Int32))
theorem wmc_1_01 (p0 : Nat) : (wmc_1 p0) = 0 ∨ (wmc_1 p0) = 1 := by
  unfold wmc_1
  split
  · exact (Or.inl rfl)
  · exact (Or.inr rfl)
def wmc_2 (p0 : Nat) : Int32 := (if (HRV p0) = (0 : Int32) then (1 : Int32) else (wmc_1 p0))
theorem wmc_2_01 (p0 : Nat) : (wmc_2 p0) = 0 ∨ (wmc_2 p0) = 1 := by
  unfold wmc_2
  split
  · exact (Or.inr rfl)
  · exact (wmc_1_01 p0)
def wmc_3 (p1 : Nat) : Int32 := (if (ux p1) = (0 : Int32) then (0 : Int32) else (1 : Int32))
theorem wmc_3_01 (p1 : Nat) : (wmc_3 p1) = 0 ∨ (wmc_3 p1) = 1 := by
  unfold wmc_3
  split
  · exact (Or.inl rfl)
  · exact (Or.inr rfl)
def wmc_4 (p1 : Nat) : Int32 := (if (HRV p1) = (0 : Int32) then (1 : Int32) else (wmc_3 p1))
theorem wmc_4_01 (p1 : Nat) : (wmc_4 p1) = 0 ∨ (wmc_4 p1) = 1 := by
  unfold wmc_4
  split
  · exact (Or.inr rfl)
  · exact (wmc_3_01 p1)
def wmc_5 (p0 : Nat) (p1 : Nat) : Int32 := (((1 : Int32) &&& (wmc_2 p0)) &&& (wmc_4 p1))
def wmc_6 (p2 : Nat) : Int32 := (if (ux p2) = (0 : Int32) then (0 : Int32) else (1 : Int32))
theorem wmc_6_01 (p2 : Nat) : (wmc_6 p2) = 0 ∨ (wmc_6 p2) = 1 := by
  unfold wmc_6
  split
  · exact (Or.inl rfl)
  · exact (Or.inr rfl)
def wmc_7 (p2 : Nat) : Int32 := (if (HRV p2) = (0 : Int32) then (1 : Int32) else (wmc_6 p2))
theorem wmc_7_01 (p2 : Nat) : (wmc_7 p2) = 0 ∨ (wmc_7 p2) = 1 := by
  unfold wmc_7
  split
  · exact (Or.inr rfl)
  · exact (wmc_6_01 p2)
def wmc_8 (p0 : Nat) : Int32 := (if (ux p0) = (0 : Int32) then (1 : Int32) else (0 : Int32))
theorem wmc_8_01 (p0 : Nat) : (wmc_8 p0) = 0 ∨ (wmc_8 p0) = 1 := by
  unfold wmc_8
  split
  · exact (Or.inr rfl)
  · exact (Or.inl rfl)
def wmc_9 (p0 : Nat) : Int32 := (if (HRV p0) = (0 : Int32) then (0 : Int32) else (wmc_8 p0))
theorem wmc_9_01 (p0 : Nat) : (wmc_9 p0) = 0 ∨ (wmc_9 p0) = 1 := by
  unfold wmc_9
  split
  · exact (Or.inl rfl)
  · exact (wmc_8_01 p0)
def wmc_10 (p1 : Nat) : Int32 := (if (ux p1) = (0 : Int32) then (1 : Int32) else (0 : Int32))
theorem wmc_10_01 (p1 : Nat) : (wmc_10 p1) = 0 ∨ (wmc_10 p1) = 1 := by
  unfold wmc_10
  split
  · exact (Or.inr rfl)
  · exact (Or.inl rfl)
def wmc_11 (p1 : Nat) : Int32 := (if (HRV p1) = (0 : Int32) then (0 : Int32) else (wmc_10 p1))
theorem wmc_11_01 (p1 : Nat) : (wmc_11 p1) = 0 ∨ (wmc_11 p1) = 1 := by
  unfold wmc_11
  split
  · exact (Or.inl rfl)
  · exact (wmc_10_01 p1)
def wmc_12 (p2 : Nat) : Int32 := (if (ux p2) = (0 : Int32) then (1 : Int32) else (0 : Int32))
theorem wmc_12_01 (p2 : Nat) : (wmc_12 p2) = 0 ∨ (wmc_12 p2) = 1 := by
  unfold wmc_12
  split
  · exact (Or.inr rfl)
  · exact (Or.inl rfl)
def wmc_13 (p2 : Nat) : Int32 := (if (HRV p2) = (0 : Int32) then (0 : Int32) else (wmc_12 p2))
theorem wmc_13_01 (p2 : Nat) : (wmc_13 p2) = 0 ∨ (wmc_13 p2) = 1 := by
  unfold wmc_13
  split
  · exact (Or.inl rfl)
  · exact (wmc_12_01 p2)
def MBV (p0 p1 p2 : Nat) : Int32 := ((wmc_5 p0 p1) &&& (wmc_7 p2))
def MCV (p0 p1 p2 : Nat) : Int32 := (if (wmc_9 p0) = (0 : Int32) then (if (wmc_11 p1) = (0 : Int32) then (if (wmc_13 p2) = (0 : Int32) then (-1 : Int32) else (2 : Int32)) else (if (wmc_13 p2) = (0 : Int32) then (1 : Int32) else (if (BTV p2 p1) = (0 : Int32) then (1 : Int32) else (2 : Int32)))) else (if (wmc_11 p1) = (0 : Int32) then (if (wmc_13 p2) = (0 : Int32) then (0 : Int32) else (if (BTV p2 p0) = (0 : Int32) then (0 : Int32) else (2 : Int32))) else (if (BTV p1 p0) = (0 : Int32) then (if (wmc_13 p2) = (0 : Int32) then (0 : Int32) else (if (BTV p2 p0) = (0 : Int32) then (0 : Int32) else (2 : Int32))) else (if (wmc_13 p2) = (0 : Int32) then (1 : Int32) else (if (BTV p2 p1) = (0 : Int32) then (1 : Int32) else (2 : Int32))))))
theorem d_prog_6_7_0 : decode prog_6_method_7_code 0 = .ok (.iconst 1, 1) := by decide +kernel
theorem d_prog_6_7_1 : decode prog_6_method_7_code 1 = .ok (.istore_n 2, 1) := by decide +kernel
theorem d_prog_6_7_2 : decode prog_6_method_7_code 2 = .ok (.iconst 0, 1) := by decide +kernel
theorem d_prog_6_7_3 : decode prog_6_method_7_code 3 = .ok (.istore_n 3, 1) := by decide +kernel
theorem d_prog_6_7_4 : decode prog_6_method_7_code 4 = .ok (.iload_n 3, 1) := by decide +kernel
theorem d_prog_6_7_5 : decode prog_6_method_7_code 5 = .ok (.iconst 3, 1) := by decide +kernel
theorem d_prog_6_7_6 : decode prog_6_method_7_code 6 = .ok (.if_icmp .ge 36, 3) := by decide +kernel
theorem d_prog_6_7_9 : decode prog_6_method_7_code 9 = .ok (.iload_n 2, 1) := by decide +kernel
theorem d_prog_6_7_10 : decode prog_6_method_7_code 10 = .ok (.aload_n 1, 1) := by decide +kernel
theorem d_prog_6_7_11 : decode prog_6_method_7_code 11 = .ok (.iload_n 3, 1) := by decide +kernel
theorem d_prog_6_7_12 : decode prog_6_method_7_code 12 = .ok (.invokeinterface 41 2, 5) := by decide +kernel
theorem d_prog_6_7_17 : decode prog_6_method_7_code 17 = .ok (.ifCond .eq 12, 3) := by decide +kernel
theorem d_prog_6_7_20 : decode prog_6_method_7_code 20 = .ok (.aload_n 0, 1) := by decide +kernel
theorem d_prog_6_7_21 : decode prog_6_method_7_code 21 = .ok (.getfield 14, 3) := by decide +kernel
theorem d_prog_6_7_24 : decode prog_6_method_7_code 24 = .ok (.iload_n 3, 1) := by decide +kernel
theorem d_prog_6_7_25 : decode prog_6_method_7_code 25 = .ok (.baload, 1) := by decide +kernel
theorem d_prog_6_7_26 : decode prog_6_method_7_code 26 = .ok (.ifCond .eq 7, 3) := by decide +kernel
theorem d_prog_6_7_29 : decode prog_6_method_7_code 29 = .ok (.iconst 1, 1) := by decide +kernel
theorem d_prog_6_7_30 : decode prog_6_method_7_code 30 = .ok (.goto 4, 3) := by decide +kernel
theorem d_prog_6_7_33 : decode prog_6_method_7_code 33 = .ok (.iconst 0, 1) := by decide +kernel
theorem d_prog_6_7_34 : decode prog_6_method_7_code 34 = .ok (.iand, 1) := by decide +kernel
theorem d_prog_6_7_35 : decode prog_6_method_7_code 35 = .ok (.istore_n 2, 1) := by decide +kernel
theorem d_prog_6_7_36 : decode prog_6_method_7_code 36 = .ok (.iinc 3 1, 3) := by decide +kernel
theorem d_prog_6_7_39 : decode prog_6_method_7_code 39 = .ok (.goto (-35), 3) := by decide +kernel
theorem d_prog_6_7_42 : decode prog_6_method_7_code 42 = .ok (.iconst (-1), 1) := by decide +kernel
theorem d_prog_6_7_43 : decode prog_6_method_7_code 43 = .ok (.istore_n 3, 1) := by decide +kernel
theorem d_prog_6_7_44 : decode prog_6_method_7_code 44 = .ok (.iconst 0, 1) := by decide +kernel
theorem d_prog_6_7_45 : decode prog_6_method_7_code 45 = .ok (.istore 4, 2) := by decide +kernel
theorem d_prog_6_7_47 : decode prog_6_method_7_code 47 = .ok (.iload 4, 2) := by decide +kernel
theorem d_prog_6_7_49 : decode prog_6_method_7_code 49 = .ok (.iconst 3, 1) := by decide +kernel
theorem d_prog_6_7_50 : decode prog_6_method_7_code 50 = .ok (.if_icmp .ge 64, 3) := by decide +kernel
theorem d_prog_6_7_53 : decode prog_6_method_7_code 53 = .ok (.aload_n 1, 1) := by decide +kernel
theorem d_prog_6_7_54 : decode prog_6_method_7_code 54 = .ok (.iload 4, 2) := by decide +kernel
theorem d_prog_6_7_56 : decode prog_6_method_7_code 56 = .ok (.invokeinterface 41 2, 5) := by decide +kernel
theorem d_prog_6_7_61 : decode prog_6_method_7_code 61 = .ok (.ifCond .eq 21, 3) := by decide +kernel
theorem d_prog_6_7_64 : decode prog_6_method_7_code 64 = .ok (.iload_n 2, 1) := by decide +kernel
theorem d_prog_6_7_65 : decode prog_6_method_7_code 65 = .ok (.ifCond .ne 13, 3) := by decide +kernel
theorem d_prog_6_7_68 : decode prog_6_method_7_code 68 = .ok (.aload_n 0, 1) := by decide +kernel
theorem d_prog_6_7_69 : decode prog_6_method_7_code 69 = .ok (.getfield 14, 3) := by decide +kernel
theorem d_prog_6_7_72 : decode prog_6_method_7_code 72 = .ok (.iload 4, 2) := by decide +kernel
theorem d_prog_6_7_74 : decode prog_6_method_7_code 74 = .ok (.baload, 1) := by decide +kernel
theorem d_prog_6_7_75 : decode prog_6_method_7_code 75 = .ok (.ifCond .ne 7, 3) := by decide +kernel
theorem d_prog_6_7_78 : decode prog_6_method_7_code 78 = .ok (.iconst 1, 1) := by decide +kernel
theorem d_prog_6_7_79 : decode prog_6_method_7_code 79 = .ok (.goto 4, 3) := by decide +kernel
theorem d_prog_6_7_82 : decode prog_6_method_7_code 82 = .ok (.iconst 0, 1) := by decide +kernel
theorem d_prog_6_7_83 : decode prog_6_method_7_code 83 = .ok (.istore 5, 2) := by decide +kernel
theorem d_prog_6_7_85 : decode prog_6_method_7_code 85 = .ok (.iload 5, 2) := by decide +kernel
theorem d_prog_6_7_87 : decode prog_6_method_7_code 87 = .ok (.ifCond .eq 21, 3) := by decide +kernel
theorem d_prog_6_7_90 : decode prog_6_method_7_code 90 = .ok (.iload_n 3, 1) := by decide +kernel
theorem d_prog_6_7_91 : decode prog_6_method_7_code 91 = .ok (.ifCond .lt 14, 3) := by decide +kernel
theorem d_prog_6_7_94 : decode prog_6_method_7_code 94 = .ok (.aload_n 0, 1) := by decide +kernel
theorem d_prog_6_7_95 : decode prog_6_method_7_code 95 = .ok (.iload 4, 2) := by decide +kernel
theorem d_prog_6_7_97 : decode prog_6_method_7_code 97 = .ok (.iload_n 3, 1) := by decide +kernel
theorem d_prog_6_7_98 : decode prog_6_method_7_code 98 = .ok (.iload_n 2, 1) := by decide +kernel
theorem d_prog_6_7_99 : decode prog_6_method_7_code 99 = .ok (.invokevirtual 46, 3) := by decide +kernel
theorem d_prog_6_7_102 : decode prog_6_method_7_code 102 = .ok (.ifCond .eq 6, 3) := by decide +kernel
theorem d_prog_6_7_105 : decode prog_6_method_7_code 105 = .ok (.iload 4, 2) := by decide +kernel
theorem d_prog_6_7_107 : decode prog_6_method_7_code 107 = .ok (.istore_n 3, 1) := by decide +kernel
theorem d_prog_6_7_108 : decode prog_6_method_7_code 108 = .ok (.iinc 4 1, 3) := by decide +kernel
theorem d_prog_6_7_111 : decode prog_6_method_7_code 111 = .ok (.goto (-64), 3) := by decide +kernel
theorem d_prog_6_7_114 : decode prog_6_method_7_code 114 = .ok (.iload_n 3, 1) := by decide +kernel
theorem d_prog_6_7_115 : decode prog_6_method_7_code 115 = .ok (.ireturn, 1) := by decide +kernel
theorem pd_1 : parseMethodDescriptor "(I)Z" = some ⟨[.int], some .boolean⟩ := by decide +kernel
theorem pd_2 : parseMethodDescriptor "(IIZ)Z" = some ⟨[.int, .int, .boolean], some .boolean⟩ := by decide +kernel
theorem efmc (m : MethodId) (x0 : Addr) (x1 : Addr) : entryFrame m #[(.ref x0), (.ref x1)] 6 = mkF m 0 #[.val (.ref x0), .val (.ref x1), .unset, .unset, .unset, .unset] [] := by first | (simp [entryFrame, mkF, argsToLocals, Value.category]; done) | rfl
set_option maxRecDepth 65536 in
set_option maxHeartbeats 40000000 in
theorem cmc (l : Launch) (Z : State) (a0 : Array Value) (hw : ∀ d ∈ tables_1, d.before a0 Z = true) (a1 : Addr) (a2 : Addr) (bo : Addr) (bu : Addr) (x0 : Addr) (x1 : Addr) (x2 : Addr) (p0 : Nat) (p1 : Nat) (p2 : Nat) (h0 : Heap) (n0 : Nat) (Z0 : n0 ≤ h0.size) (E_a1 : Exa Z h0 a1 "com/example/craterworks/craterworks/SharesStation") (F_occupied_a1 : Fld Z h0 a1 "com/example/craterworks/craterworks/SharesStation" "occupied" "[[Z" (.ref bo)) (F_uncovered_a1 : Fld Z h0 a1 "com/example/craterworks/craterworks/SharesStation" "uncovered" "[Z" (.ref bu)) (A_bo : Av Z h0 bo (.array .boolean) [(.ref x0), (.ref x1), (.ref x2)]) (A_x0 : Av Z h0 x0 .boolean [(.int (cx p0 0)), (.int (cx p0 1)), (.int (cx p0 2)), (.int (cx p0 3)), (.int (cx p0 4))]) (A_x1 : Av Z h0 x1 .boolean [(.int (cx p1 0)), (.int (cx p1 1)), (.int (cx p1 2)), (.int (cx p1 3)), (.int (cx p1 4))]) (A_x2 : Av Z h0 x2 .boolean [(.int (cx p2 0)), (.int (cx p2 1)), (.int (cx p2 2)), (.int (cx p2 3)), (.int (cx p2 4))]) (A_bu : Av Z h0 bu .boolean [(.int (ux p0)), (.int (ux p1)), (.int (ux p2))]) (HF : Fn Z h0 a2 "com/example/craterworks/craterworks/SharesStation" SG a1) (hz : MBV p0 p1 p2 = 0) :
    Con l Z (⟨"com/example/craterworks/craterworks/SharesStation", "mainColumn", "(Ljava/util/function/IntPredicate;)I"⟩ : MethodName) prog_6_method_7_code 6 (some .int) ({ frames := 2, cells := 0, slots := 0, locals := 35 } : Room) [] #[(.ref a1), (.ref a2)] h0 (fun v h L => v = some (.int (MCV p0 p1 p2)) ∧ h = h0 ∧ L = []) := by
  refine Con.of (plainFor_of_name pn_com_example_craterworks_craterworks_SharesStation) #[.val (.ref a1), .val (.ref a2), .unset, .unset, .unset, .unset] (fun m => efmc m a1 a2) ?_
  intro p e s m below meth c s₁ K hx hby hml hown hnm hret hlk hZ X0 e0 hnd
  have N0 := Fr.nil n0
  refine m_iconst K X0.here hx hby (1 : Int32) d_prog_6_7_0 rfl rfl ?_
  refine m_istoreN K X0.here hx hby #[.val (.ref a1), .val (.ref a2), .val (.int (1 : Int32)), .unset, .unset, .unset] d_prog_6_7_1 rfl rfl ?_
  refine m_iconst K X0.here hx hby (0 : Int32) d_prog_6_7_2 rfl rfl ?_
  refine m_istoreN K X0.here hx hby #[.val (.ref a1), .val (.ref a2), .val (.int (1 : Int32)), .val (.int (0 : Int32)), .unset, .unset] d_prog_6_7_3 rfl rfl ?_
  refine m_iloadN K X0.here hx hby d_prog_6_7_4 rfl rfl ?_
  refine m_iconst K X0.here hx hby (3 : Int32) d_prog_6_7_5 rfl rfl ?_
  refine m_icmpN K X0.here hx hby (q := 9) d_prog_6_7_6 (tlt (by decide : (0 : Int32) < (3 : Int32))).2.1 rfl ?_
  refine m_iloadN K X0.here hx hby d_prog_6_7_9 rfl rfl ?_
  refine m_aloadN K X0.here hx hby d_prog_6_7_10 rfl rfl rfl ?_
  refine m_iloadN K X0.here hx hby d_prog_6_7_11 rfl rfl ?_
  refine k_test K X0 hx hby hZ a2 a1 (0 : Int32) [(.int (1 : Int32))] hown (hw _ (List.mem_of_getElem? (i := 168) rfl)) (hw _ (List.mem_of_getElem? (i := 169) rfl)) (hw _ (List.mem_of_getElem? (i := 170) rfl)) (hw _ (List.mem_of_getElem? (i := 171) rfl)) (hw _ (List.mem_of_getElem? (i := 172) rfl)) (hw _ (List.mem_of_getElem? (i := 173) rfl)) (hw _ (List.mem_of_getElem? (i := 93) rfl)) (hw _ (List.mem_of_getElem? (i := 174) rfl)) (hw _ (List.mem_of_getElem? (i := 163) rfl)) own_hxi own_hyi own_fwdOK own_capOK (chr l Z a0 hw a1 (0 : Int32) bo [(.ref x0), (.ref x1), (.ref x2)] x0 p0 h0 n0 Z0 F_occupied_a1 A_bo A_x0 (by decide) rfl) (fun _ _ _ q => ⟨_, q.1, HRV_01 _⟩) e0 HF E_a1 pd_1 pd_1 d_prog_6_7_12 (by rw [hml]; rfl) rfl (by decide) (by decide) (Nat.le_of_ble_eq_true rfl) (by decide) (by decide) fun v1 T1 L1 X1 q1 => ?_
  obtain ⟨rfl, e1, rfl⟩ := q1
  replace X1 := own_px X1
  refine k_some K (w := (.int (HRV p0))) ?_
  obtain ⟨T6, X6, e6, st6⟩ : Mx X1 h0 (mkF m 34 #[.val (.ref a1), .val (.ref a2), .val (.int (1 : Int32)), .val (.int (0 : Int32)), .unset, .unset] [(.int (wmc_2 p0)), (.int (1 : Int32))]) (T1.setTop (mkF m 17 #[.val (.ref a1), .val (.ref a2), .val (.int (1 : Int32)), .val (.int (0 : Int32)), .unset, .unset] [(.int (HRV p0)), (.int (1 : Int32))])) := by
    refine Mx.with fun K => ?_
    by_cases hc17_2 : (HRV p0) = (0 : Int32)
    · refine m_ifY K X1.here hx hby (q := 29) d_prog_6_7_17 ((if0 _ _).trans (teq hc17_2).1) (by decide) rfl ?_
      refine m_iconst K X1.here hx hby (1 : Int32) d_prog_6_7_29 rfl rfl ?_
      refine m_goto K X1.here hx hby (q := 34) d_prog_6_7_30 (by decide) rfl ?_
      rw [show ((wmc_2 p0) : Int32) = (1 : Int32) from if_pos hc17_2]
      exact Mx.here X1 e1
    · refine m_ifN K X1.here hx hby (q := 20) d_prog_6_7_17 ((if0 _ _).trans (feq hc17_2).1) rfl ?_
      refine m_aloadN K X1.here hx hby d_prog_6_7_20 rfl rfl rfl ?_
      refine k_getF K X1 hx hby hZ hown (host := "") (Or.inl (hw _ (List.mem_of_getElem? (i := 103) rfl))) Via.refl e1 F_uncovered_a1 d_prog_6_7_21 rfl fun T3 X3 e3 => ?_
      refine m_iloadN K X3.here hx hby d_prog_6_7_24 rfl rfl ?_
      refine k_ldZ K X3 hx hby hZ e3 A_bu (v := (.int (ux p0))) (by decide) rfl d_prog_6_7_25 rfl ?_
      obtain ⟨T5, X5, e5, st5⟩ : Mx X3 h0 (mkF m 34 #[.val (.ref a1), .val (.ref a2), .val (.int (1 : Int32)), .val (.int (0 : Int32)), .unset, .unset] [(.int (wmc_1 p0)), (.int (1 : Int32))]) (T3.setTop (mkF m 26 #[.val (.ref a1), .val (.ref a2), .val (.int (1 : Int32)), .val (.int (0 : Int32)), .unset, .unset] [(.int (ux p0)), (.int (1 : Int32))])) := by
        refine Mx.with fun K => ?_
        by_cases hc26_4 : (ux p0) = (0 : Int32)
        · refine m_ifY K X3.here hx hby (q := 33) d_prog_6_7_26 ((if0 _ _).trans (teq hc26_4).1) (by decide) rfl ?_
          refine m_iconst K X3.here hx hby (0 : Int32) d_prog_6_7_33 rfl rfl ?_
          rw [show ((wmc_1 p0) : Int32) = (0 : Int32) from if_pos hc26_4]
          exact Mx.here X3 e3
        · refine m_ifN K X3.here hx hby (q := 29) d_prog_6_7_26 ((if0 _ _).trans (feq hc26_4).1) rfl ?_
          refine m_iconst K X3.here hx hby (1 : Int32) d_prog_6_7_29 rfl rfl ?_
          refine m_goto K X3.here hx hby (q := 34) d_prog_6_7_30 (by decide) rfl ?_
          rw [show ((wmc_1 p0) : Int32) = (1 : Int32) from if_neg hc26_4]
          exact Mx.here X3 e3
      refine k_go K st5 ?_
      rw [show ((wmc_2 p0) : Int32) = (wmc_1 p0) from if_neg hc17_2]
      exact Mx.here X5 e5
  refine k_go K st6 ?_
  refine m_iand K X6.here hx hby ((1 : Int32) &&& (wmc_2 p0)) d_prog_6_7_34 rfl rfl ?_
  refine m_istoreN K X6.here hx hby #[.val (.ref a1), .val (.ref a2), .val (.int ((1 : Int32) &&& (wmc_2 p0))), .val (.int (0 : Int32)), .unset, .unset] d_prog_6_7_35 rfl rfl ?_
  refine m_iinc K X6.here hx hby #[.val (.ref a1), .val (.ref a2), .val (.int ((1 : Int32) &&& (wmc_2 p0))), .val (.int (1 : Int32)), .unset, .unset] d_prog_6_7_36 rfl rfl rfl ?_
  refine m_goto K X6.here hx hby (q := 4) d_prog_6_7_39 (by decide) rfl ?_
  refine m_iloadN K X6.here hx hby d_prog_6_7_4 rfl rfl ?_
  refine m_iconst K X6.here hx hby (3 : Int32) d_prog_6_7_5 rfl rfl ?_
  refine m_icmpN K X6.here hx hby (q := 9) d_prog_6_7_6 (tlt (by decide : (1 : Int32) < (3 : Int32))).2.1 rfl ?_
  refine m_iloadN K X6.here hx hby d_prog_6_7_9 rfl rfl ?_
  refine m_aloadN K X6.here hx hby d_prog_6_7_10 rfl rfl rfl ?_
  refine m_iloadN K X6.here hx hby d_prog_6_7_11 rfl rfl ?_
  refine k_test K X6 hx hby hZ a2 a1 (1 : Int32) [(.int ((1 : Int32) &&& (wmc_2 p0)))] hown (hw _ (List.mem_of_getElem? (i := 168) rfl)) (hw _ (List.mem_of_getElem? (i := 169) rfl)) (hw _ (List.mem_of_getElem? (i := 170) rfl)) (hw _ (List.mem_of_getElem? (i := 171) rfl)) (hw _ (List.mem_of_getElem? (i := 172) rfl)) (hw _ (List.mem_of_getElem? (i := 173) rfl)) (hw _ (List.mem_of_getElem? (i := 93) rfl)) (hw _ (List.mem_of_getElem? (i := 174) rfl)) (hw _ (List.mem_of_getElem? (i := 163) rfl)) own_hxi own_hyi own_fwdOK own_capOK (chr l Z a0 hw a1 (1 : Int32) bo [(.ref x0), (.ref x1), (.ref x2)] x1 p1 h0 n0 Z0 F_occupied_a1 A_bo A_x1 (by decide) rfl) (fun _ _ _ q => ⟨_, q.1, HRV_01 _⟩) e6 HF E_a1 pd_1 pd_1 d_prog_6_7_12 (by rw [hml]; rfl) rfl (by decide) (by decide) (Nat.le_of_ble_eq_true rfl) (by decide) (by decide) fun v7 T7 L7 X7 q7 => ?_
  obtain ⟨rfl, e7, rfl⟩ := q7
  replace X7 := own_px X7
  refine k_some K (w := (.int (HRV p1))) ?_
  obtain ⟨T12, X12, e12, st12⟩ : Mx X7 h0 (mkF m 34 #[.val (.ref a1), .val (.ref a2), .val (.int ((1 : Int32) &&& (wmc_2 p0))), .val (.int (1 : Int32)), .unset, .unset] [(.int (wmc_4 p1)), (.int ((1 : Int32) &&& (wmc_2 p0)))]) (T7.setTop (mkF m 17 #[.val (.ref a1), .val (.ref a2), .val (.int ((1 : Int32) &&& (wmc_2 p0))), .val (.int (1 : Int32)), .unset, .unset] [(.int (HRV p1)), (.int ((1 : Int32) &&& (wmc_2 p0)))])) := by
    refine Mx.with fun K => ?_
    by_cases hc17_8 : (HRV p1) = (0 : Int32)
    · refine m_ifY K X7.here hx hby (q := 29) d_prog_6_7_17 ((if0 _ _).trans (teq hc17_8).1) (by decide) rfl ?_
      refine m_iconst K X7.here hx hby (1 : Int32) d_prog_6_7_29 rfl rfl ?_
      refine m_goto K X7.here hx hby (q := 34) d_prog_6_7_30 (by decide) rfl ?_
      rw [show ((wmc_4 p1) : Int32) = (1 : Int32) from if_pos hc17_8]
      exact Mx.here X7 e7
    · refine m_ifN K X7.here hx hby (q := 20) d_prog_6_7_17 ((if0 _ _).trans (feq hc17_8).1) rfl ?_
      refine m_aloadN K X7.here hx hby d_prog_6_7_20 rfl rfl rfl ?_
      refine k_getF K X7 hx hby hZ hown (host := "") (Or.inl (hw _ (List.mem_of_getElem? (i := 103) rfl))) Via.refl e7 F_uncovered_a1 d_prog_6_7_21 rfl fun T9 X9 e9 => ?_
      refine m_iloadN K X9.here hx hby d_prog_6_7_24 rfl rfl ?_
      refine k_ldZ K X9 hx hby hZ e9 A_bu (v := (.int (ux p1))) (by decide) rfl d_prog_6_7_25 rfl ?_
      obtain ⟨T11, X11, e11, st11⟩ : Mx X9 h0 (mkF m 34 #[.val (.ref a1), .val (.ref a2), .val (.int ((1 : Int32) &&& (wmc_2 p0))), .val (.int (1 : Int32)), .unset, .unset] [(.int (wmc_3 p1)), (.int ((1 : Int32) &&& (wmc_2 p0)))]) (T9.setTop (mkF m 26 #[.val (.ref a1), .val (.ref a2), .val (.int ((1 : Int32) &&& (wmc_2 p0))), .val (.int (1 : Int32)), .unset, .unset] [(.int (ux p1)), (.int ((1 : Int32) &&& (wmc_2 p0)))])) := by
        refine Mx.with fun K => ?_
        by_cases hc26_10 : (ux p1) = (0 : Int32)
        · refine m_ifY K X9.here hx hby (q := 33) d_prog_6_7_26 ((if0 _ _).trans (teq hc26_10).1) (by decide) rfl ?_
          refine m_iconst K X9.here hx hby (0 : Int32) d_prog_6_7_33 rfl rfl ?_
          rw [show ((wmc_3 p1) : Int32) = (0 : Int32) from if_pos hc26_10]
          exact Mx.here X9 e9
        · refine m_ifN K X9.here hx hby (q := 29) d_prog_6_7_26 ((if0 _ _).trans (feq hc26_10).1) rfl ?_
          refine m_iconst K X9.here hx hby (1 : Int32) d_prog_6_7_29 rfl rfl ?_
          refine m_goto K X9.here hx hby (q := 34) d_prog_6_7_30 (by decide) rfl ?_
          rw [show ((wmc_3 p1) : Int32) = (1 : Int32) from if_neg hc26_10]
          exact Mx.here X9 e9
      refine k_go K st11 ?_
      rw [show ((wmc_4 p1) : Int32) = (wmc_3 p1) from if_neg hc17_8]
      exact Mx.here X11 e11
  refine k_go K st12 ?_
  refine m_iand K X12.here hx hby (wmc_5 p0 p1) d_prog_6_7_34 rfl rfl ?_
  refine m_istoreN K X12.here hx hby #[.val (.ref a1), .val (.ref a2), .val (.int (wmc_5 p0 p1)), .val (.int (1 : Int32)), .unset, .unset] d_prog_6_7_35 rfl rfl ?_
  refine m_iinc K X12.here hx hby #[.val (.ref a1), .val (.ref a2), .val (.int (wmc_5 p0 p1)), .val (.int (2 : Int32)), .unset, .unset] d_prog_6_7_36 rfl rfl rfl ?_
  refine m_goto K X12.here hx hby (q := 4) d_prog_6_7_39 (by decide) rfl ?_
  refine m_iloadN K X12.here hx hby d_prog_6_7_4 rfl rfl ?_
  refine m_iconst K X12.here hx hby (3 : Int32) d_prog_6_7_5 rfl rfl ?_
  refine m_icmpN K X12.here hx hby (q := 9) d_prog_6_7_6 (tlt (by decide : (2 : Int32) < (3 : Int32))).2.1 rfl ?_
  refine m_iloadN K X12.here hx hby d_prog_6_7_9 rfl rfl ?_
  refine m_aloadN K X12.here hx hby d_prog_6_7_10 rfl rfl rfl ?_
  refine m_iloadN K X12.here hx hby d_prog_6_7_11 rfl rfl ?_
  refine k_test K X12 hx hby hZ a2 a1 (2 : Int32) [(.int (wmc_5 p0 p1))] hown (hw _ (List.mem_of_getElem? (i := 168) rfl)) (hw _ (List.mem_of_getElem? (i := 169) rfl)) (hw _ (List.mem_of_getElem? (i := 170) rfl)) (hw _ (List.mem_of_getElem? (i := 171) rfl)) (hw _ (List.mem_of_getElem? (i := 172) rfl)) (hw _ (List.mem_of_getElem? (i := 173) rfl)) (hw _ (List.mem_of_getElem? (i := 93) rfl)) (hw _ (List.mem_of_getElem? (i := 174) rfl)) (hw _ (List.mem_of_getElem? (i := 163) rfl)) own_hxi own_hyi own_fwdOK own_capOK (chr l Z a0 hw a1 (2 : Int32) bo [(.ref x0), (.ref x1), (.ref x2)] x2 p2 h0 n0 Z0 F_occupied_a1 A_bo A_x2 (by decide) rfl) (fun _ _ _ q => ⟨_, q.1, HRV_01 _⟩) e12 HF E_a1 pd_1 pd_1 d_prog_6_7_12 (by rw [hml]; rfl) rfl (by decide) (by decide) (Nat.le_of_ble_eq_true rfl) (by decide) (by decide) fun v13 T13 L13 X13 q13 => ?_
  obtain ⟨rfl, e13, rfl⟩ := q13
  replace X13 := own_px X13
  refine k_some K (w := (.int (HRV p2))) ?_
  obtain ⟨T18, X18, e18, st18⟩ : Mx X13 h0 (mkF m 34 #[.val (.ref a1), .val (.ref a2), .val (.int (wmc_5 p0 p1)), .val (.int (2 : Int32)), .unset, .unset] [(.int (wmc_7 p2)), (.int (wmc_5 p0 p1))]) (T13.setTop (mkF m 17 #[.val (.ref a1), .val (.ref a2), .val (.int (wmc_5 p0 p1)), .val (.int (2 : Int32)), .unset, .unset] [(.int (HRV p2)), (.int (wmc_5 p0 p1))])) := by
    refine Mx.with fun K => ?_
    by_cases hc17_14 : (HRV p2) = (0 : Int32)
    · refine m_ifY K X13.here hx hby (q := 29) d_prog_6_7_17 ((if0 _ _).trans (teq hc17_14).1) (by decide) rfl ?_
      refine m_iconst K X13.here hx hby (1 : Int32) d_prog_6_7_29 rfl rfl ?_
      refine m_goto K X13.here hx hby (q := 34) d_prog_6_7_30 (by decide) rfl ?_
      rw [show ((wmc_7 p2) : Int32) = (1 : Int32) from if_pos hc17_14]
      exact Mx.here X13 e13
    · refine m_ifN K X13.here hx hby (q := 20) d_prog_6_7_17 ((if0 _ _).trans (feq hc17_14).1) rfl ?_
      refine m_aloadN K X13.here hx hby d_prog_6_7_20 rfl rfl rfl ?_
      refine k_getF K X13 hx hby hZ hown (host := "") (Or.inl (hw _ (List.mem_of_getElem? (i := 103) rfl))) Via.refl e13 F_uncovered_a1 d_prog_6_7_21 rfl fun T15 X15 e15 => ?_
      refine m_iloadN K X15.here hx hby d_prog_6_7_24 rfl rfl ?_
      refine k_ldZ K X15 hx hby hZ e15 A_bu (v := (.int (ux p2))) (by decide) rfl d_prog_6_7_25 rfl ?_
      obtain ⟨T17, X17, e17, st17⟩ : Mx X15 h0 (mkF m 34 #[.val (.ref a1), .val (.ref a2), .val (.int (wmc_5 p0 p1)), .val (.int (2 : Int32)), .unset, .unset] [(.int (wmc_6 p2)), (.int (wmc_5 p0 p1))]) (T15.setTop (mkF m 26 #[.val (.ref a1), .val (.ref a2), .val (.int (wmc_5 p0 p1)), .val (.int (2 : Int32)), .unset, .unset] [(.int (ux p2)), (.int (wmc_5 p0 p1))])) := by
        refine Mx.with fun K => ?_
        by_cases hc26_16 : (ux p2) = (0 : Int32)
        · refine m_ifY K X15.here hx hby (q := 33) d_prog_6_7_26 ((if0 _ _).trans (teq hc26_16).1) (by decide) rfl ?_
          refine m_iconst K X15.here hx hby (0 : Int32) d_prog_6_7_33 rfl rfl ?_
          rw [show ((wmc_6 p2) : Int32) = (0 : Int32) from if_pos hc26_16]
          exact Mx.here X15 e15
        · refine m_ifN K X15.here hx hby (q := 29) d_prog_6_7_26 ((if0 _ _).trans (feq hc26_16).1) rfl ?_
          refine m_iconst K X15.here hx hby (1 : Int32) d_prog_6_7_29 rfl rfl ?_
          refine m_goto K X15.here hx hby (q := 34) d_prog_6_7_30 (by decide) rfl ?_
          rw [show ((wmc_6 p2) : Int32) = (1 : Int32) from if_neg hc26_16]
          exact Mx.here X15 e15
      refine k_go K st17 ?_
      rw [show ((wmc_7 p2) : Int32) = (wmc_6 p2) from if_neg hc17_14]
      exact Mx.here X17 e17
  refine k_go K st18 ?_
  refine m_iand K X18.here hx hby ((wmc_5 p0 p1) &&& (wmc_7 p2)) d_prog_6_7_34 rfl rfl ?_
  refine m_istoreN K X18.here hx hby #[.val (.ref a1), .val (.ref a2), .val (.int ((wmc_5 p0 p1) &&& (wmc_7 p2))), .val (.int (2 : Int32)), .unset, .unset] d_prog_6_7_35 rfl rfl ?_
  refine m_iinc K X18.here hx hby #[.val (.ref a1), .val (.ref a2), .val (.int ((wmc_5 p0 p1) &&& (wmc_7 p2))), .val (.int (3 : Int32)), .unset, .unset] d_prog_6_7_36 rfl rfl rfl ?_
  refine m_goto K X18.here hx hby (q := 4) d_prog_6_7_39 (by decide) rfl ?_
  refine m_iloadN K X18.here hx hby d_prog_6_7_4 rfl rfl ?_
  refine m_iconst K X18.here hx hby (3 : Int32) d_prog_6_7_5 rfl rfl ?_
  refine m_icmpY K X18.here hx hby (q := 42) d_prog_6_7_6 (flt (by decide : ¬ ((3 : Int32) < (3 : Int32)))).2.1 (by decide) rfl ?_
  rw [show ((wmc_5 p0 p1) &&& (wmc_7 p2)) = (0 : Int32) from hz]
  refine m_iconst K X18.here hx hby (-1 : Int32) d_prog_6_7_42 rfl rfl ?_
  refine m_istoreN K X18.here hx hby #[.val (.ref a1), .val (.ref a2), .val (.int (0 : Int32)), .val (.int (-1 : Int32)), .unset, .unset] d_prog_6_7_43 rfl rfl ?_
  refine m_iconst K X18.here hx hby (0 : Int32) d_prog_6_7_44 rfl rfl ?_
  refine m_istore K X18.here hx hby #[.val (.ref a1), .val (.ref a2), .val (.int (0 : Int32)), .val (.int (-1 : Int32)), .val (.int (0 : Int32)), .unset] d_prog_6_7_45 rfl rfl ?_
  refine m_iload K X18.here hx hby d_prog_6_7_47 rfl rfl ?_
  refine m_iconst K X18.here hx hby (3 : Int32) d_prog_6_7_49 rfl rfl ?_
  refine m_icmpN K X18.here hx hby (q := 53) d_prog_6_7_50 (tlt (by decide : (0 : Int32) < (3 : Int32))).2.1 rfl ?_
  refine m_aloadN K X18.here hx hby d_prog_6_7_53 rfl rfl rfl ?_
  refine m_iload K X18.here hx hby d_prog_6_7_54 rfl rfl ?_
  refine k_test K X18 hx hby hZ a2 a1 (0 : Int32) [] hown (hw _ (List.mem_of_getElem? (i := 168) rfl)) (hw _ (List.mem_of_getElem? (i := 169) rfl)) (hw _ (List.mem_of_getElem? (i := 170) rfl)) (hw _ (List.mem_of_getElem? (i := 171) rfl)) (hw _ (List.mem_of_getElem? (i := 172) rfl)) (hw _ (List.mem_of_getElem? (i := 173) rfl)) (hw _ (List.mem_of_getElem? (i := 93) rfl)) (hw _ (List.mem_of_getElem? (i := 174) rfl)) (hw _ (List.mem_of_getElem? (i := 163) rfl)) own_hxi own_hyi own_fwdOK own_capOK (chr l Z a0 hw a1 (0 : Int32) bo [(.ref x0), (.ref x1), (.ref x2)] x0 p0 h0 n0 Z0 F_occupied_a1 A_bo A_x0 (by decide) rfl) (fun _ _ _ q => ⟨_, q.1, HRV_01 _⟩) e18 HF E_a1 pd_1 pd_1 d_prog_6_7_56 (by rw [hml]; rfl) rfl (by decide) (by decide) (Nat.le_of_ble_eq_true rfl) (by decide) (by decide) fun v19 T19 L19 X19 q19 => ?_
  obtain ⟨rfl, e19, rfl⟩ := q19
  replace X19 := own_px X19
  refine k_some K (w := (.int (HRV p0))) ?_
  obtain ⟨T24, X24, e24, st24⟩ : Mx X19 h0 (mkF m 83 #[.val (.ref a1), .val (.ref a2), .val (.int (0 : Int32)), .val (.int (-1 : Int32)), .val (.int (0 : Int32)), .unset] [(.int (wmc_9 p0))]) (T19.setTop (mkF m 61 #[.val (.ref a1), .val (.ref a2), .val (.int (0 : Int32)), .val (.int (-1 : Int32)), .val (.int (0 : Int32)), .unset] [(.int (HRV p0))])) := by
    refine Mx.with fun K => ?_
    by_cases hc61_20 : (HRV p0) = (0 : Int32)
    · refine m_ifY K X19.here hx hby (q := 82) d_prog_6_7_61 ((if0 _ _).trans (teq hc61_20).1) (by decide) rfl ?_
      refine m_iconst K X19.here hx hby (0 : Int32) d_prog_6_7_82 rfl rfl ?_
      rw [show ((wmc_9 p0) : Int32) = (0 : Int32) from if_pos hc61_20]
      exact Mx.here X19 e19
    · refine m_ifN K X19.here hx hby (q := 64) d_prog_6_7_61 ((if0 _ _).trans (feq hc61_20).1) rfl ?_
      refine m_iloadN K X19.here hx hby d_prog_6_7_64 rfl rfl ?_
      refine m_ifN K X19.here hx hby (q := 68) d_prog_6_7_65 ((if0 _ _).trans (teq (by decide : (0 : Int32) = (0 : Int32))).2) rfl ?_
      refine m_aloadN K X19.here hx hby d_prog_6_7_68 rfl rfl rfl ?_
      refine k_getF K X19 hx hby hZ hown (host := "") (Or.inl (hw _ (List.mem_of_getElem? (i := 103) rfl))) Via.refl e19 F_uncovered_a1 d_prog_6_7_69 rfl fun T21 X21 e21 => ?_
      refine m_iload K X21.here hx hby d_prog_6_7_72 rfl rfl ?_
      refine k_ldZ K X21 hx hby hZ e21 A_bu (v := (.int (ux p0))) (by decide) rfl d_prog_6_7_74 rfl ?_
      obtain ⟨T23, X23, e23, st23⟩ : Mx X21 h0 (mkF m 83 #[.val (.ref a1), .val (.ref a2), .val (.int (0 : Int32)), .val (.int (-1 : Int32)), .val (.int (0 : Int32)), .unset] [(.int (wmc_8 p0))]) (T21.setTop (mkF m 75 #[.val (.ref a1), .val (.ref a2), .val (.int (0 : Int32)), .val (.int (-1 : Int32)), .val (.int (0 : Int32)), .unset] [(.int (ux p0))])) := by
        refine Mx.with fun K => ?_
        by_cases hc75_22 : (ux p0) = (0 : Int32)
        · refine m_ifN K X21.here hx hby (q := 78) d_prog_6_7_75 ((if0 _ _).trans (teq hc75_22).2) rfl ?_
          refine m_iconst K X21.here hx hby (1 : Int32) d_prog_6_7_78 rfl rfl ?_
          refine m_goto K X21.here hx hby (q := 83) d_prog_6_7_79 (by decide) rfl ?_
          rw [show ((wmc_8 p0) : Int32) = (1 : Int32) from if_pos hc75_22]
          exact Mx.here X21 e21
        · refine m_ifY K X21.here hx hby (q := 82) d_prog_6_7_75 ((if0 _ _).trans (feq hc75_22).2) (by decide) rfl ?_
          refine m_iconst K X21.here hx hby (0 : Int32) d_prog_6_7_82 rfl rfl ?_
          rw [show ((wmc_8 p0) : Int32) = (0 : Int32) from if_neg hc75_22]
          exact Mx.here X21 e21
      refine k_go K st23 ?_
      rw [show ((wmc_9 p0) : Int32) = (wmc_8 p0) from if_neg hc61_20]
      exact Mx.here X23 e23
  refine k_go K st24 ?_
  refine m_istore K X24.here hx hby #[.val (.ref a1), .val (.ref a2), .val (.int (0 : Int32)), .val (.int (-1 : Int32)), .val (.int (0 : Int32)), .val (.int (wmc_9 p0))] d_prog_6_7_83 rfl rfl ?_
  refine m_iload K X24.here hx hby d_prog_6_7_85 rfl rfl ?_
  by_cases hc87_25 : (wmc_9 p0) = (0 : Int32)
  · refine m_ifY K X24.here hx hby (q := 108) d_prog_6_7_87 ((if0 _ _).trans (teq hc87_25).1) (by decide) rfl ?_
    refine m_iinc K X24.here hx hby #[.val (.ref a1), .val (.ref a2), .val (.int (0 : Int32)), .val (.int (-1 : Int32)), .val (.int (1 : Int32)), .val (.int (wmc_9 p0))] d_prog_6_7_108 rfl rfl rfl ?_
    refine m_goto K X24.here hx hby (q := 47) d_prog_6_7_111 (by decide) rfl ?_
    refine m_iload K X24.here hx hby d_prog_6_7_47 rfl rfl ?_
    refine m_iconst K X24.here hx hby (3 : Int32) d_prog_6_7_49 rfl rfl ?_
    refine m_icmpN K X24.here hx hby (q := 53) d_prog_6_7_50 (tlt (by decide : (1 : Int32) < (3 : Int32))).2.1 rfl ?_
    refine m_aloadN K X24.here hx hby d_prog_6_7_53 rfl rfl rfl ?_
    refine m_iload K X24.here hx hby d_prog_6_7_54 rfl rfl ?_
    refine k_test K X24 hx hby hZ a2 a1 (1 : Int32) [] hown (hw _ (List.mem_of_getElem? (i := 168) rfl)) (hw _ (List.mem_of_getElem? (i := 169) rfl)) (hw _ (List.mem_of_getElem? (i := 170) rfl)) (hw _ (List.mem_of_getElem? (i := 171) rfl)) (hw _ (List.mem_of_getElem? (i := 172) rfl)) (hw _ (List.mem_of_getElem? (i := 173) rfl)) (hw _ (List.mem_of_getElem? (i := 93) rfl)) (hw _ (List.mem_of_getElem? (i := 174) rfl)) (hw _ (List.mem_of_getElem? (i := 163) rfl)) own_hxi own_hyi own_fwdOK own_capOK (chr l Z a0 hw a1 (1 : Int32) bo [(.ref x0), (.ref x1), (.ref x2)] x1 p1 h0 n0 Z0 F_occupied_a1 A_bo A_x1 (by decide) rfl) (fun _ _ _ q => ⟨_, q.1, HRV_01 _⟩) e24 HF E_a1 pd_1 pd_1 d_prog_6_7_56 (by rw [hml]; rfl) rfl (by decide) (by decide) (Nat.le_of_ble_eq_true rfl) (by decide) (by decide) fun v26 T26 L26 X26 q26 => ?_
    obtain ⟨rfl, e26, rfl⟩ := q26
    replace X26 := own_px X26
    refine k_some K (w := (.int (HRV p1))) ?_
    obtain ⟨T31, X31, e31, st31⟩ : Mx X26 h0 (mkF m 83 #[.val (.ref a1), .val (.ref a2), .val (.int (0 : Int32)), .val (.int (-1 : Int32)), .val (.int (1 : Int32)), .val (.int (wmc_9 p0))] [(.int (wmc_11 p1))]) (T26.setTop (mkF m 61 #[.val (.ref a1), .val (.ref a2), .val (.int (0 : Int32)), .val (.int (-1 : Int32)), .val (.int (1 : Int32)), .val (.int (wmc_9 p0))] [(.int (HRV p1))])) := by
      refine Mx.with fun K => ?_
      by_cases hc61_27 : (HRV p1) = (0 : Int32)
      · refine m_ifY K X26.here hx hby (q := 82) d_prog_6_7_61 ((if0 _ _).trans (teq hc61_27).1) (by decide) rfl ?_
        refine m_iconst K X26.here hx hby (0 : Int32) d_prog_6_7_82 rfl rfl ?_
        rw [show ((wmc_11 p1) : Int32) = (0 : Int32) from if_pos hc61_27]
        exact Mx.here X26 e26
      · refine m_ifN K X26.here hx hby (q := 64) d_prog_6_7_61 ((if0 _ _).trans (feq hc61_27).1) rfl ?_
        refine m_iloadN K X26.here hx hby d_prog_6_7_64 rfl rfl ?_
        refine m_ifN K X26.here hx hby (q := 68) d_prog_6_7_65 ((if0 _ _).trans (teq (by decide : (0 : Int32) = (0 : Int32))).2) rfl ?_
        refine m_aloadN K X26.here hx hby d_prog_6_7_68 rfl rfl rfl ?_
        refine k_getF K X26 hx hby hZ hown (host := "") (Or.inl (hw _ (List.mem_of_getElem? (i := 103) rfl))) Via.refl e26 F_uncovered_a1 d_prog_6_7_69 rfl fun T28 X28 e28 => ?_
        refine m_iload K X28.here hx hby d_prog_6_7_72 rfl rfl ?_
        refine k_ldZ K X28 hx hby hZ e28 A_bu (v := (.int (ux p1))) (by decide) rfl d_prog_6_7_74 rfl ?_
        obtain ⟨T30, X30, e30, st30⟩ : Mx X28 h0 (mkF m 83 #[.val (.ref a1), .val (.ref a2), .val (.int (0 : Int32)), .val (.int (-1 : Int32)), .val (.int (1 : Int32)), .val (.int (wmc_9 p0))] [(.int (wmc_10 p1))]) (T28.setTop (mkF m 75 #[.val (.ref a1), .val (.ref a2), .val (.int (0 : Int32)), .val (.int (-1 : Int32)), .val (.int (1 : Int32)), .val (.int (wmc_9 p0))] [(.int (ux p1))])) := by
          refine Mx.with fun K => ?_
          by_cases hc75_29 : (ux p1) = (0 : Int32)
          · refine m_ifN K X28.here hx hby (q := 78) d_prog_6_7_75 ((if0 _ _).trans (teq hc75_29).2) rfl ?_
            refine m_iconst K X28.here hx hby (1 : Int32) d_prog_6_7_78 rfl rfl ?_
            refine m_goto K X28.here hx hby (q := 83) d_prog_6_7_79 (by decide) rfl ?_
            rw [show ((wmc_10 p1) : Int32) = (1 : Int32) from if_pos hc75_29]
            exact Mx.here X28 e28
          · refine m_ifY K X28.here hx hby (q := 82) d_prog_6_7_75 ((if0 _ _).trans (feq hc75_29).2) (by decide) rfl ?_
            refine m_iconst K X28.here hx hby (0 : Int32) d_prog_6_7_82 rfl rfl ?_
            rw [show ((wmc_10 p1) : Int32) = (0 : Int32) from if_neg hc75_29]
            exact Mx.here X28 e28
        refine k_go K st30 ?_
        rw [show ((wmc_11 p1) : Int32) = (wmc_10 p1) from if_neg hc61_27]
        exact Mx.here X30 e30
    refine k_go K st31 ?_
    refine m_istore K X31.here hx hby #[.val (.ref a1), .val (.ref a2), .val (.int (0 : Int32)), .val (.int (-1 : Int32)), .val (.int (1 : Int32)), .val (.int (wmc_11 p1))] d_prog_6_7_83 rfl rfl ?_
    refine m_iload K X31.here hx hby d_prog_6_7_85 rfl rfl ?_
    by_cases hc87_32 : (wmc_11 p1) = (0 : Int32)
    · refine m_ifY K X31.here hx hby (q := 108) d_prog_6_7_87 ((if0 _ _).trans (teq hc87_32).1) (by decide) rfl ?_
      refine m_iinc K X31.here hx hby #[.val (.ref a1), .val (.ref a2), .val (.int (0 : Int32)), .val (.int (-1 : Int32)), .val (.int (2 : Int32)), .val (.int (wmc_11 p1))] d_prog_6_7_108 rfl rfl rfl ?_
      refine m_goto K X31.here hx hby (q := 47) d_prog_6_7_111 (by decide) rfl ?_
      refine m_iload K X31.here hx hby d_prog_6_7_47 rfl rfl ?_
      refine m_iconst K X31.here hx hby (3 : Int32) d_prog_6_7_49 rfl rfl ?_
      refine m_icmpN K X31.here hx hby (q := 53) d_prog_6_7_50 (tlt (by decide : (2 : Int32) < (3 : Int32))).2.1 rfl ?_
      refine m_aloadN K X31.here hx hby d_prog_6_7_53 rfl rfl rfl ?_
      refine m_iload K X31.here hx hby d_prog_6_7_54 rfl rfl ?_
      refine k_test K X31 hx hby hZ a2 a1 (2 : Int32) [] hown (hw _ (List.mem_of_getElem? (i := 168) rfl)) (hw _ (List.mem_of_getElem? (i := 169) rfl)) (hw _ (List.mem_of_getElem? (i := 170) rfl)) (hw _ (List.mem_of_getElem? (i := 171) rfl)) (hw _ (List.mem_of_getElem? (i := 172) rfl)) (hw _ (List.mem_of_getElem? (i := 173) rfl)) (hw _ (List.mem_of_getElem? (i := 93) rfl)) (hw _ (List.mem_of_getElem? (i := 174) rfl)) (hw _ (List.mem_of_getElem? (i := 163) rfl)) own_hxi own_hyi own_fwdOK own_capOK (chr l Z a0 hw a1 (2 : Int32) bo [(.ref x0), (.ref x1), (.ref x2)] x2 p2 h0 n0 Z0 F_occupied_a1 A_bo A_x2 (by decide) rfl) (fun _ _ _ q => ⟨_, q.1, HRV_01 _⟩) e31 HF E_a1 pd_1 pd_1 d_prog_6_7_56 (by rw [hml]; rfl) rfl (by decide) (by decide) (Nat.le_of_ble_eq_true rfl) (by decide) (by decide) fun v33 T33 L33 X33 q33 => ?_
      obtain ⟨rfl, e33, rfl⟩ := q33
      replace X33 := own_px X33
      refine k_some K (w := (.int (HRV p2))) ?_
      obtain ⟨T38, X38, e38, st38⟩ : Mx X33 h0 (mkF m 83 #[.val (.ref a1), .val (.ref a2), .val (.int (0 : Int32)), .val (.int (-1 : Int32)), .val (.int (2 : Int32)), .val (.int (wmc_11 p1))] [(.int (wmc_13 p2))]) (T33.setTop (mkF m 61 #[.val (.ref a1), .val (.ref a2), .val (.int (0 : Int32)), .val (.int (-1 : Int32)), .val (.int (2 : Int32)), .val (.int (wmc_11 p1))] [(.int (HRV p2))])) := by
        refine Mx.with fun K => ?_
        by_cases hc61_34 : (HRV p2) = (0 : Int32)
        · refine m_ifY K X33.here hx hby (q := 82) d_prog_6_7_61 ((if0 _ _).trans (teq hc61_34).1) (by decide) rfl ?_
          refine m_iconst K X33.here hx hby (0 : Int32) d_prog_6_7_82 rfl rfl ?_
          rw [show ((wmc_13 p2) : Int32) = (0 : Int32) from if_pos hc61_34]
          exact Mx.here X33 e33
        · refine m_ifN K X33.here hx hby (q := 64) d_prog_6_7_61 ((if0 _ _).trans (feq hc61_34).1) rfl ?_
          refine m_iloadN K X33.here hx hby d_prog_6_7_64 rfl rfl ?_
          refine m_ifN K X33.here hx hby (q := 68) d_prog_6_7_65 ((if0 _ _).trans (teq (by decide : (0 : Int32) = (0 : Int32))).2) rfl ?_
          refine m_aloadN K X33.here hx hby d_prog_6_7_68 rfl rfl rfl ?_
          refine k_getF K X33 hx hby hZ hown (host := "") (Or.inl (hw _ (List.mem_of_getElem? (i := 103) rfl))) Via.refl e33 F_uncovered_a1 d_prog_6_7_69 rfl fun T35 X35 e35 => ?_
          refine m_iload K X35.here hx hby d_prog_6_7_72 rfl rfl ?_
          refine k_ldZ K X35 hx hby hZ e35 A_bu (v := (.int (ux p2))) (by decide) rfl d_prog_6_7_74 rfl ?_
          obtain ⟨T37, X37, e37, st37⟩ : Mx X35 h0 (mkF m 83 #[.val (.ref a1), .val (.ref a2), .val (.int (0 : Int32)), .val (.int (-1 : Int32)), .val (.int (2 : Int32)), .val (.int (wmc_11 p1))] [(.int (wmc_12 p2))]) (T35.setTop (mkF m 75 #[.val (.ref a1), .val (.ref a2), .val (.int (0 : Int32)), .val (.int (-1 : Int32)), .val (.int (2 : Int32)), .val (.int (wmc_11 p1))] [(.int (ux p2))])) := by
            refine Mx.with fun K => ?_
            by_cases hc75_36 : (ux p2) = (0 : Int32)
            · refine m_ifN K X35.here hx hby (q := 78) d_prog_6_7_75 ((if0 _ _).trans (teq hc75_36).2) rfl ?_
              refine m_iconst K X35.here hx hby (1 : Int32) d_prog_6_7_78 rfl rfl ?_
              refine m_goto K X35.here hx hby (q := 83) d_prog_6_7_79 (by decide) rfl ?_
              rw [show ((wmc_12 p2) : Int32) = (1 : Int32) from if_pos hc75_36]
              exact Mx.here X35 e35
            · refine m_ifY K X35.here hx hby (q := 82) d_prog_6_7_75 ((if0 _ _).trans (feq hc75_36).2) (by decide) rfl ?_
              refine m_iconst K X35.here hx hby (0 : Int32) d_prog_6_7_82 rfl rfl ?_
              rw [show ((wmc_12 p2) : Int32) = (0 : Int32) from if_neg hc75_36]
              exact Mx.here X35 e35
          refine k_go K st37 ?_
          rw [show ((wmc_13 p2) : Int32) = (wmc_12 p2) from if_neg hc61_34]
          exact Mx.here X37 e37
      refine k_go K st38 ?_
      refine m_istore K X38.here hx hby #[.val (.ref a1), .val (.ref a2), .val (.int (0 : Int32)), .val (.int (-1 : Int32)), .val (.int (2 : Int32)), .val (.int (wmc_13 p2))] d_prog_6_7_83 rfl rfl ?_
      refine m_iload K X38.here hx hby d_prog_6_7_85 rfl rfl ?_
      by_cases hc87_39 : (wmc_13 p2) = (0 : Int32)
      · refine m_ifY K X38.here hx hby (q := 108) d_prog_6_7_87 ((if0 _ _).trans (teq hc87_39).1) (by decide) rfl ?_
        refine m_iinc K X38.here hx hby #[.val (.ref a1), .val (.ref a2), .val (.int (0 : Int32)), .val (.int (-1 : Int32)), .val (.int (3 : Int32)), .val (.int (wmc_13 p2))] d_prog_6_7_108 rfl rfl rfl ?_
        refine m_goto K X38.here hx hby (q := 47) d_prog_6_7_111 (by decide) rfl ?_
        refine m_iload K X38.here hx hby d_prog_6_7_47 rfl rfl ?_
        refine m_iconst K X38.here hx hby (3 : Int32) d_prog_6_7_49 rfl rfl ?_
        refine m_icmpY K X38.here hx hby (q := 114) d_prog_6_7_50 (flt (by decide : ¬ ((3 : Int32) < (3 : Int32)))).2.1 (by decide) rfl ?_
        refine m_iloadN K X38.here hx hby d_prog_6_7_114 rfl rfl ?_
        exact Go.retI X38 hx hby hlk hret d_prog_6_7_115 (by decide) (by decide) (⟨congrArg (fun z => some (Value.int z)) (Eq.symm (by rw [MCV, if_pos hc87_25, if_pos hc87_32, if_pos hc87_39])), e38, rfl⟩)
      · refine m_ifN K X38.here hx hby (q := 90) d_prog_6_7_87 ((if0 _ _).trans (feq hc87_39).1) rfl ?_
        refine m_iloadN K X38.here hx hby d_prog_6_7_90 rfl rfl ?_
        refine m_ifY K X38.here hx hby (q := 105) d_prog_6_7_91 ((if0 _ _).trans (tlt (by decide : (-1 : Int32) < (0 : Int32))).1) (by decide) rfl ?_
        refine m_iload K X38.here hx hby d_prog_6_7_105 rfl rfl ?_
        refine m_istoreN K X38.here hx hby #[.val (.ref a1), .val (.ref a2), .val (.int (0 : Int32)), .val (.int (2 : Int32)), .val (.int (2 : Int32)), .val (.int (wmc_13 p2))] d_prog_6_7_107 rfl rfl ?_
        refine m_iinc K X38.here hx hby #[.val (.ref a1), .val (.ref a2), .val (.int (0 : Int32)), .val (.int (2 : Int32)), .val (.int (3 : Int32)), .val (.int (wmc_13 p2))] d_prog_6_7_108 rfl rfl rfl ?_
        refine m_goto K X38.here hx hby (q := 47) d_prog_6_7_111 (by decide) rfl ?_
        refine m_iload K X38.here hx hby d_prog_6_7_47 rfl rfl ?_
        refine m_iconst K X38.here hx hby (3 : Int32) d_prog_6_7_49 rfl rfl ?_
        refine m_icmpY K X38.here hx hby (q := 114) d_prog_6_7_50 (flt (by decide : ¬ ((3 : Int32) < (3 : Int32)))).2.1 (by decide) rfl ?_
        refine m_iloadN K X38.here hx hby d_prog_6_7_114 rfl rfl ?_
        exact Go.retI X38 hx hby hlk hret d_prog_6_7_115 (by decide) (by decide) (⟨congrArg (fun z => some (Value.int z)) (Eq.symm (by rw [MCV, if_pos hc87_25, if_pos hc87_32, if_neg hc87_39])), e38, rfl⟩)
    · refine m_ifN K X31.here hx hby (q := 90) d_prog_6_7_87 ((if0 _ _).trans (feq hc87_32).1) rfl ?_
      refine m_iloadN K X31.here hx hby d_prog_6_7_90 rfl rfl ?_
      refine m_ifY K X31.here hx hby (q := 105) d_prog_6_7_91 ((if0 _ _).trans (tlt (by decide : (-1 : Int32) < (0 : Int32))).1) (by decide) rfl ?_
      refine m_iload K X31.here hx hby d_prog_6_7_105 rfl rfl ?_
      refine m_istoreN K X31.here hx hby #[.val (.ref a1), .val (.ref a2), .val (.int (0 : Int32)), .val (.int (1 : Int32)), .val (.int (1 : Int32)), .val (.int (wmc_11 p1))] d_prog_6_7_107 rfl rfl ?_
      refine m_iinc K X31.here hx hby #[.val (.ref a1), .val (.ref a2), .val (.int (0 : Int32)), .val (.int (1 : Int32)), .val (.int (2 : Int32)), .val (.int (wmc_11 p1))] d_prog_6_7_108 rfl rfl rfl ?_
      refine m_goto K X31.here hx hby (q := 47) d_prog_6_7_111 (by decide) rfl ?_
      refine m_iload K X31.here hx hby d_prog_6_7_47 rfl rfl ?_
      refine m_iconst K X31.here hx hby (3 : Int32) d_prog_6_7_49 rfl rfl ?_
      refine m_icmpN K X31.here hx hby (q := 53) d_prog_6_7_50 (tlt (by decide : (2 : Int32) < (3 : Int32))).2.1 rfl ?_
      refine m_aloadN K X31.here hx hby d_prog_6_7_53 rfl rfl rfl ?_
      refine m_iload K X31.here hx hby d_prog_6_7_54 rfl rfl ?_
      refine k_test K X31 hx hby hZ a2 a1 (2 : Int32) [] hown (hw _ (List.mem_of_getElem? (i := 168) rfl)) (hw _ (List.mem_of_getElem? (i := 169) rfl)) (hw _ (List.mem_of_getElem? (i := 170) rfl)) (hw _ (List.mem_of_getElem? (i := 171) rfl)) (hw _ (List.mem_of_getElem? (i := 172) rfl)) (hw _ (List.mem_of_getElem? (i := 173) rfl)) (hw _ (List.mem_of_getElem? (i := 93) rfl)) (hw _ (List.mem_of_getElem? (i := 174) rfl)) (hw _ (List.mem_of_getElem? (i := 163) rfl)) own_hxi own_hyi own_fwdOK own_capOK (chr l Z a0 hw a1 (2 : Int32) bo [(.ref x0), (.ref x1), (.ref x2)] x2 p2 h0 n0 Z0 F_occupied_a1 A_bo A_x2 (by decide) rfl) (fun _ _ _ q => ⟨_, q.1, HRV_01 _⟩) e31 HF E_a1 pd_1 pd_1 d_prog_6_7_56 (by rw [hml]; rfl) rfl (by decide) (by decide) (Nat.le_of_ble_eq_true rfl) (by decide) (by decide) fun v40 T40 L40 X40 q40 => ?_
      obtain ⟨rfl, e40, rfl⟩ := q40
      replace X40 := own_px X40
      refine k_some K (w := (.int (HRV p2))) ?_
      obtain ⟨T45, X45, e45, st45⟩ : Mx X40 h0 (mkF m 83 #[.val (.ref a1), .val (.ref a2), .val (.int (0 : Int32)), .val (.int (1 : Int32)), .val (.int (2 : Int32)), .val (.int (wmc_11 p1))] [(.int (wmc_13 p2))]) (T40.setTop (mkF m 61 #[.val (.ref a1), .val (.ref a2), .val (.int (0 : Int32)), .val (.int (1 : Int32)), .val (.int (2 : Int32)), .val (.int (wmc_11 p1))] [(.int (HRV p2))])) := by
        refine Mx.with fun K => ?_
        by_cases hc61_41 : (HRV p2) = (0 : Int32)
        · refine m_ifY K X40.here hx hby (q := 82) d_prog_6_7_61 ((if0 _ _).trans (teq hc61_41).1) (by decide) rfl ?_
          refine m_iconst K X40.here hx hby (0 : Int32) d_prog_6_7_82 rfl rfl ?_
          rw [show ((wmc_13 p2) : Int32) = (0 : Int32) from if_pos hc61_41]
          exact Mx.here X40 e40
        · refine m_ifN K X40.here hx hby (q := 64) d_prog_6_7_61 ((if0 _ _).trans (feq hc61_41).1) rfl ?_
          refine m_iloadN K X40.here hx hby d_prog_6_7_64 rfl rfl ?_
          refine m_ifN K X40.here hx hby (q := 68) d_prog_6_7_65 ((if0 _ _).trans (teq (by decide : (0 : Int32) = (0 : Int32))).2) rfl ?_
          refine m_aloadN K X40.here hx hby d_prog_6_7_68 rfl rfl rfl ?_
          refine k_getF K X40 hx hby hZ hown (host := "") (Or.inl (hw _ (List.mem_of_getElem? (i := 103) rfl))) Via.refl e40 F_uncovered_a1 d_prog_6_7_69 rfl fun T42 X42 e42 => ?_
          refine m_iload K X42.here hx hby d_prog_6_7_72 rfl rfl ?_
          refine k_ldZ K X42 hx hby hZ e42 A_bu (v := (.int (ux p2))) (by decide) rfl d_prog_6_7_74 rfl ?_
          obtain ⟨T44, X44, e44, st44⟩ : Mx X42 h0 (mkF m 83 #[.val (.ref a1), .val (.ref a2), .val (.int (0 : Int32)), .val (.int (1 : Int32)), .val (.int (2 : Int32)), .val (.int (wmc_11 p1))] [(.int (wmc_12 p2))]) (T42.setTop (mkF m 75 #[.val (.ref a1), .val (.ref a2), .val (.int (0 : Int32)), .val (.int (1 : Int32)), .val (.int (2 : Int32)), .val (.int (wmc_11 p1))] [(.int (ux p2))])) := by
            refine Mx.with fun K => ?_
            by_cases hc75_43 : (ux p2) = (0 : Int32)
            · refine m_ifN K X42.here hx hby (q := 78) d_prog_6_7_75 ((if0 _ _).trans (teq hc75_43).2) rfl ?_
              refine m_iconst K X42.here hx hby (1 : Int32) d_prog_6_7_78 rfl rfl ?_
              refine m_goto K X42.here hx hby (q := 83) d_prog_6_7_79 (by decide) rfl ?_
              rw [show ((wmc_12 p2) : Int32) = (1 : Int32) from if_pos hc75_43]
              exact Mx.here X42 e42
            · refine m_ifY K X42.here hx hby (q := 82) d_prog_6_7_75 ((if0 _ _).trans (feq hc75_43).2) (by decide) rfl ?_
              refine m_iconst K X42.here hx hby (0 : Int32) d_prog_6_7_82 rfl rfl ?_
              rw [show ((wmc_12 p2) : Int32) = (0 : Int32) from if_neg hc75_43]
              exact Mx.here X42 e42
          refine k_go K st44 ?_
          rw [show ((wmc_13 p2) : Int32) = (wmc_12 p2) from if_neg hc61_41]
          exact Mx.here X44 e44
      refine k_go K st45 ?_
      refine m_istore K X45.here hx hby #[.val (.ref a1), .val (.ref a2), .val (.int (0 : Int32)), .val (.int (1 : Int32)), .val (.int (2 : Int32)), .val (.int (wmc_13 p2))] d_prog_6_7_83 rfl rfl ?_
      refine m_iload K X45.here hx hby d_prog_6_7_85 rfl rfl ?_
      by_cases hc87_46 : (wmc_13 p2) = (0 : Int32)
      · refine m_ifY K X45.here hx hby (q := 108) d_prog_6_7_87 ((if0 _ _).trans (teq hc87_46).1) (by decide) rfl ?_
        refine m_iinc K X45.here hx hby #[.val (.ref a1), .val (.ref a2), .val (.int (0 : Int32)), .val (.int (1 : Int32)), .val (.int (3 : Int32)), .val (.int (wmc_13 p2))] d_prog_6_7_108 rfl rfl rfl ?_
        refine m_goto K X45.here hx hby (q := 47) d_prog_6_7_111 (by decide) rfl ?_
        refine m_iload K X45.here hx hby d_prog_6_7_47 rfl rfl ?_
        refine m_iconst K X45.here hx hby (3 : Int32) d_prog_6_7_49 rfl rfl ?_
        refine m_icmpY K X45.here hx hby (q := 114) d_prog_6_7_50 (flt (by decide : ¬ ((3 : Int32) < (3 : Int32)))).2.1 (by decide) rfl ?_
        refine m_iloadN K X45.here hx hby d_prog_6_7_114 rfl rfl ?_
        exact Go.retI X45 hx hby hlk hret d_prog_6_7_115 (by decide) (by decide) (⟨congrArg (fun z => some (Value.int z)) (Eq.symm (by rw [MCV, if_pos hc87_25, if_neg hc87_32, if_pos hc87_46])), e45, rfl⟩)
      · refine m_ifN K X45.here hx hby (q := 90) d_prog_6_7_87 ((if0 _ _).trans (feq hc87_46).1) rfl ?_
        refine m_iloadN K X45.here hx hby d_prog_6_7_90 rfl rfl ?_
        refine m_ifN K X45.here hx hby (q := 94) d_prog_6_7_91 ((if0 _ _).trans (flt (by decide : ¬ ((1 : Int32) < (0 : Int32)))).1) rfl ?_
        refine m_aloadN K X45.here hx hby d_prog_6_7_94 rfl rfl rfl ?_
        refine m_iload K X45.here hx hby d_prog_6_7_95 rfl rfl ?_
        refine m_iloadN K X45.here hx hby d_prog_6_7_97 rfl rfl ?_
        refine m_iloadN K X45.here hx hby d_prog_6_7_98 rfl rfl ?_
        refine k_callR K X45 hx hby hZ a1 [(.int (2 : Int32)), (.int (1 : Int32)), (.int (0 : Int32))] [] hown (hw _ (List.mem_of_getElem? (i := 175) rfl)) (hw _ (List.mem_of_getElem? (i := 176) rfl)) (own_selP (hw _ (List.mem_of_getElem? (i := 92) rfl)) (hw _ (List.mem_of_getElem? (i := 177) rfl)) (hw _ (List.mem_of_getElem? (i := 176) rfl)) (by decide)) (hw _ (List.mem_of_getElem? (i := 177) rfl)) (hw _ (List.mem_of_getElem? (i := 93) rfl)) (hw _ (List.mem_of_getElem? (i := 178) rfl)) (cbt l Z a0 hw a1 (2 : Int32) (1 : Int32) bo [(.ref x0), (.ref x1), (.ref x2)] x2 x1 p2 p1 h0 n0 Z0 E_a1 F_occupied_a1 A_bo A_x2 A_x1 (by decide) rfl (by decide) rfl) e45 E_a1 rfl rfl pd_2 rfl d_prog_6_7_99 (by rw [hml]; rfl) rfl (by decide) (by decide) (Nat.le_of_ble_eq_true rfl) (by decide) (by decide) fun v47 T47 L47 X47 q47 => ?_
        obtain ⟨rfl, e47, rfl⟩ := q47
        replace X47 := own_px X47
        refine k_some K (w := (.int (BTV p2 p1))) ?_
        by_cases hc102_48 : (BTV p2 p1) = (0 : Int32)
        · refine m_ifY K X47.here hx hby (q := 108) d_prog_6_7_102 ((if0 _ _).trans (teq hc102_48).1) (by decide) rfl ?_
          refine m_iinc K X47.here hx hby #[.val (.ref a1), .val (.ref a2), .val (.int (0 : Int32)), .val (.int (1 : Int32)), .val (.int (3 : Int32)), .val (.int (wmc_13 p2))] d_prog_6_7_108 rfl rfl rfl ?_
          refine m_goto K X47.here hx hby (q := 47) d_prog_6_7_111 (by decide) rfl ?_
          refine m_iload K X47.here hx hby d_prog_6_7_47 rfl rfl ?_
          refine m_iconst K X47.here hx hby (3 : Int32) d_prog_6_7_49 rfl rfl ?_
          refine m_icmpY K X47.here hx hby (q := 114) d_prog_6_7_50 (flt (by decide : ¬ ((3 : Int32) < (3 : Int32)))).2.1 (by decide) rfl ?_
          refine m_iloadN K X47.here hx hby d_prog_6_7_114 rfl rfl ?_
          exact Go.retI X47 hx hby hlk hret d_prog_6_7_115 (by decide) (by decide) (⟨congrArg (fun z => some (Value.int z)) (Eq.symm (by rw [MCV, if_pos hc87_25, if_neg hc87_32, if_neg hc87_46, if_pos hc102_48])), e47, rfl⟩)
        · refine m_ifN K X47.here hx hby (q := 105) d_prog_6_7_102 ((if0 _ _).trans (feq hc102_48).1) rfl ?_
          refine m_iload K X47.here hx hby d_prog_6_7_105 rfl rfl ?_
          refine m_istoreN K X47.here hx hby #[.val (.ref a1), .val (.ref a2), .val (.int (0 : Int32)), .val (.int (2 : Int32)), .val (.int (2 : Int32)), .val (.int (wmc_13 p2))] d_prog_6_7_107 rfl rfl ?_
          refine m_iinc K X47.here hx hby #[.val (.ref a1), .val (.ref a2), .val (.int (0 : Int32)), .val (.int (2 : Int32)), .val (.int (3 : Int32)), .val (.int (wmc_13 p2))] d_prog_6_7_108 rfl rfl rfl ?_
          refine m_goto K X47.here hx hby (q := 47) d_prog_6_7_111 (by decide) rfl ?_
          refine m_iload K X47.here hx hby d_prog_6_7_47 rfl rfl ?_
          refine m_iconst K X47.here hx hby (3 : Int32) d_prog_6_7_49 rfl rfl ?_
          refine m_icmpY K X47.here hx hby (q := 114) d_prog_6_7_50 (flt (by decide : ¬ ((3 : Int32) < (3 : Int32)))).2.1 (by decide) rfl ?_
          refine m_iloadN K X47.here hx hby d_prog_6_7_114 rfl rfl ?_
          exact Go.retI X47 hx hby hlk hret d_prog_6_7_115 (by decide) (by decide) (⟨congrArg (fun z => some (Value.int z)) (Eq.symm (by rw [MCV, if_pos hc87_25, if_neg hc87_32, if_neg hc87_46, if_neg hc102_48])), e47, rfl⟩)
  · refine m_ifN K X24.here hx hby (q := 90) d_prog_6_7_87 ((if0 _ _).trans (feq hc87_25).1) rfl ?_
    refine m_iloadN K X24.here hx hby d_prog_6_7_90 rfl rfl ?_
    refine m_ifY K X24.here hx hby (q := 105) d_prog_6_7_91 ((if0 _ _).trans (tlt (by decide : (-1 : Int32) < (0 : Int32))).1) (by decide) rfl ?_
    refine m_iload K X24.here hx hby d_prog_6_7_105 rfl rfl ?_
    refine m_istoreN K X24.here hx hby #[.val (.ref a1), .val (.ref a2), .val (.int (0 : Int32)), .val (.int (0 : Int32)), .val (.int (0 : Int32)), .val (.int (wmc_9 p0))] d_prog_6_7_107 rfl rfl ?_
    refine m_iinc K X24.here hx hby #[.val (.ref a1), .val (.ref a2), .val (.int (0 : Int32)), .val (.int (0 : Int32)), .val (.int (1 : Int32)), .val (.int (wmc_9 p0))] d_prog_6_7_108 rfl rfl rfl ?_
    refine m_goto K X24.here hx hby (q := 47) d_prog_6_7_111 (by decide) rfl ?_
    refine m_iload K X24.here hx hby d_prog_6_7_47 rfl rfl ?_
    refine m_iconst K X24.here hx hby (3 : Int32) d_prog_6_7_49 rfl rfl ?_
    refine m_icmpN K X24.here hx hby (q := 53) d_prog_6_7_50 (tlt (by decide : (1 : Int32) < (3 : Int32))).2.1 rfl ?_
    refine m_aloadN K X24.here hx hby d_prog_6_7_53 rfl rfl rfl ?_
    refine m_iload K X24.here hx hby d_prog_6_7_54 rfl rfl ?_
    refine k_test K X24 hx hby hZ a2 a1 (1 : Int32) [] hown (hw _ (List.mem_of_getElem? (i := 168) rfl)) (hw _ (List.mem_of_getElem? (i := 169) rfl)) (hw _ (List.mem_of_getElem? (i := 170) rfl)) (hw _ (List.mem_of_getElem? (i := 171) rfl)) (hw _ (List.mem_of_getElem? (i := 172) rfl)) (hw _ (List.mem_of_getElem? (i := 173) rfl)) (hw _ (List.mem_of_getElem? (i := 93) rfl)) (hw _ (List.mem_of_getElem? (i := 174) rfl)) (hw _ (List.mem_of_getElem? (i := 163) rfl)) own_hxi own_hyi own_fwdOK own_capOK (chr l Z a0 hw a1 (1 : Int32) bo [(.ref x0), (.ref x1), (.ref x2)] x1 p1 h0 n0 Z0 F_occupied_a1 A_bo A_x1 (by decide) rfl) (fun _ _ _ q => ⟨_, q.1, HRV_01 _⟩) e24 HF E_a1 pd_1 pd_1 d_prog_6_7_56 (by rw [hml]; rfl) rfl (by decide) (by decide) (Nat.le_of_ble_eq_true rfl) (by decide) (by decide) fun v49 T49 L49 X49 q49 => ?_
    obtain ⟨rfl, e49, rfl⟩ := q49
    replace X49 := own_px X49
    refine k_some K (w := (.int (HRV p1))) ?_
    obtain ⟨T54, X54, e54, st54⟩ : Mx X49 h0 (mkF m 83 #[.val (.ref a1), .val (.ref a2), .val (.int (0 : Int32)), .val (.int (0 : Int32)), .val (.int (1 : Int32)), .val (.int (wmc_9 p0))] [(.int (wmc_11 p1))]) (T49.setTop (mkF m 61 #[.val (.ref a1), .val (.ref a2), .val (.int (0 : Int32)), .val (.int (0 : Int32)), .val (.int (1 : Int32)), .val (.int (wmc_9 p0))] [(.int (HRV p1))])) := by
      refine Mx.with fun K => ?_
      by_cases hc61_50 : (HRV p1) = (0 : Int32)
      · refine m_ifY K X49.here hx hby (q := 82) d_prog_6_7_61 ((if0 _ _).trans (teq hc61_50).1) (by decide) rfl ?_
        refine m_iconst K X49.here hx hby (0 : Int32) d_prog_6_7_82 rfl rfl ?_
        rw [show ((wmc_11 p1) : Int32) = (0 : Int32) from if_pos hc61_50]
        exact Mx.here X49 e49
      · refine m_ifN K X49.here hx hby (q := 64) d_prog_6_7_61 ((if0 _ _).trans (feq hc61_50).1) rfl ?_
        refine m_iloadN K X49.here hx hby d_prog_6_7_64 rfl rfl ?_
        refine m_ifN K X49.here hx hby (q := 68) d_prog_6_7_65 ((if0 _ _).trans (teq (by decide : (0 : Int32) = (0 : Int32))).2) rfl ?_
        refine m_aloadN K X49.here hx hby d_prog_6_7_68 rfl rfl rfl ?_
        refine k_getF K X49 hx hby hZ hown (host := "") (Or.inl (hw _ (List.mem_of_getElem? (i := 103) rfl))) Via.refl e49 F_uncovered_a1 d_prog_6_7_69 rfl fun T51 X51 e51 => ?_
        refine m_iload K X51.here hx hby d_prog_6_7_72 rfl rfl ?_
        refine k_ldZ K X51 hx hby hZ e51 A_bu (v := (.int (ux p1))) (by decide) rfl d_prog_6_7_74 rfl ?_
        obtain ⟨T53, X53, e53, st53⟩ : Mx X51 h0 (mkF m 83 #[.val (.ref a1), .val (.ref a2), .val (.int (0 : Int32)), .val (.int (0 : Int32)), .val (.int (1 : Int32)), .val (.int (wmc_9 p0))] [(.int (wmc_10 p1))]) (T51.setTop (mkF m 75 #[.val (.ref a1), .val (.ref a2), .val (.int (0 : Int32)), .val (.int (0 : Int32)), .val (.int (1 : Int32)), .val (.int (wmc_9 p0))] [(.int (ux p1))])) := by
          refine Mx.with fun K => ?_
          by_cases hc75_52 : (ux p1) = (0 : Int32)
          · refine m_ifN K X51.here hx hby (q := 78) d_prog_6_7_75 ((if0 _ _).trans (teq hc75_52).2) rfl ?_
            refine m_iconst K X51.here hx hby (1 : Int32) d_prog_6_7_78 rfl rfl ?_
            refine m_goto K X51.here hx hby (q := 83) d_prog_6_7_79 (by decide) rfl ?_
            rw [show ((wmc_10 p1) : Int32) = (1 : Int32) from if_pos hc75_52]
            exact Mx.here X51 e51
          · refine m_ifY K X51.here hx hby (q := 82) d_prog_6_7_75 ((if0 _ _).trans (feq hc75_52).2) (by decide) rfl ?_
            refine m_iconst K X51.here hx hby (0 : Int32) d_prog_6_7_82 rfl rfl ?_
            rw [show ((wmc_10 p1) : Int32) = (0 : Int32) from if_neg hc75_52]
            exact Mx.here X51 e51
        refine k_go K st53 ?_
        rw [show ((wmc_11 p1) : Int32) = (wmc_10 p1) from if_neg hc61_50]
        exact Mx.here X53 e53
    refine k_go K st54 ?_
    refine m_istore K X54.here hx hby #[.val (.ref a1), .val (.ref a2), .val (.int (0 : Int32)), .val (.int (0 : Int32)), .val (.int (1 : Int32)), .val (.int (wmc_11 p1))] d_prog_6_7_83 rfl rfl ?_
    refine m_iload K X54.here hx hby d_prog_6_7_85 rfl rfl ?_
    by_cases hc87_55 : (wmc_11 p1) = (0 : Int32)
    · refine m_ifY K X54.here hx hby (q := 108) d_prog_6_7_87 ((if0 _ _).trans (teq hc87_55).1) (by decide) rfl ?_
      refine m_iinc K X54.here hx hby #[.val (.ref a1), .val (.ref a2), .val (.int (0 : Int32)), .val (.int (0 : Int32)), .val (.int (2 : Int32)), .val (.int (wmc_11 p1))] d_prog_6_7_108 rfl rfl rfl ?_
      refine m_goto K X54.here hx hby (q := 47) d_prog_6_7_111 (by decide) rfl ?_
      refine m_iload K X54.here hx hby d_prog_6_7_47 rfl rfl ?_
      refine m_iconst K X54.here hx hby (3 : Int32) d_prog_6_7_49 rfl rfl ?_
      refine m_icmpN K X54.here hx hby (q := 53) d_prog_6_7_50 (tlt (by decide : (2 : Int32) < (3 : Int32))).2.1 rfl ?_
      refine m_aloadN K X54.here hx hby d_prog_6_7_53 rfl rfl rfl ?_
      refine m_iload K X54.here hx hby d_prog_6_7_54 rfl rfl ?_
      refine k_test K X54 hx hby hZ a2 a1 (2 : Int32) [] hown (hw _ (List.mem_of_getElem? (i := 168) rfl)) (hw _ (List.mem_of_getElem? (i := 169) rfl)) (hw _ (List.mem_of_getElem? (i := 170) rfl)) (hw _ (List.mem_of_getElem? (i := 171) rfl)) (hw _ (List.mem_of_getElem? (i := 172) rfl)) (hw _ (List.mem_of_getElem? (i := 173) rfl)) (hw _ (List.mem_of_getElem? (i := 93) rfl)) (hw _ (List.mem_of_getElem? (i := 174) rfl)) (hw _ (List.mem_of_getElem? (i := 163) rfl)) own_hxi own_hyi own_fwdOK own_capOK (chr l Z a0 hw a1 (2 : Int32) bo [(.ref x0), (.ref x1), (.ref x2)] x2 p2 h0 n0 Z0 F_occupied_a1 A_bo A_x2 (by decide) rfl) (fun _ _ _ q => ⟨_, q.1, HRV_01 _⟩) e54 HF E_a1 pd_1 pd_1 d_prog_6_7_56 (by rw [hml]; rfl) rfl (by decide) (by decide) (Nat.le_of_ble_eq_true rfl) (by decide) (by decide) fun v56 T56 L56 X56 q56 => ?_
      obtain ⟨rfl, e56, rfl⟩ := q56
      replace X56 := own_px X56
      refine k_some K (w := (.int (HRV p2))) ?_
      obtain ⟨T61, X61, e61, st61⟩ : Mx X56 h0 (mkF m 83 #[.val (.ref a1), .val (.ref a2), .val (.int (0 : Int32)), .val (.int (0 : Int32)), .val (.int (2 : Int32)), .val (.int (wmc_11 p1))] [(.int (wmc_13 p2))]) (T56.setTop (mkF m 61 #[.val (.ref a1), .val (.ref a2), .val (.int (0 : Int32)), .val (.int (0 : Int32)), .val (.int (2 : Int32)), .val (.int (wmc_11 p1))] [(.int (HRV p2))])) := by
        refine Mx.with fun K => ?_
        by_cases hc61_57 : (HRV p2) = (0 : Int32)
        · refine m_ifY K X56.here hx hby (q := 82) d_prog_6_7_61 ((if0 _ _).trans (teq hc61_57).1) (by decide) rfl ?_
          refine m_iconst K X56.here hx hby (0 : Int32) d_prog_6_7_82 rfl rfl ?_
          rw [show ((wmc_13 p2) : Int32) = (0 : Int32) from if_pos hc61_57]
          exact Mx.here X56 e56
        · refine m_ifN K X56.here hx hby (q := 64) d_prog_6_7_61 ((if0 _ _).trans (feq hc61_57).1) rfl ?_
          refine m_iloadN K X56.here hx hby d_prog_6_7_64 rfl rfl ?_
          refine m_ifN K X56.here hx hby (q := 68) d_prog_6_7_65 ((if0 _ _).trans (teq (by decide : (0 : Int32) = (0 : Int32))).2) rfl ?_
          refine m_aloadN K X56.here hx hby d_prog_6_7_68 rfl rfl rfl ?_
          refine k_getF K X56 hx hby hZ hown (host := "") (Or.inl (hw _ (List.mem_of_getElem? (i := 103) rfl))) Via.refl e56 F_uncovered_a1 d_prog_6_7_69 rfl fun T58 X58 e58 => ?_
          refine m_iload K X58.here hx hby d_prog_6_7_72 rfl rfl ?_
          refine k_ldZ K X58 hx hby hZ e58 A_bu (v := (.int (ux p2))) (by decide) rfl d_prog_6_7_74 rfl ?_
          obtain ⟨T60, X60, e60, st60⟩ : Mx X58 h0 (mkF m 83 #[.val (.ref a1), .val (.ref a2), .val (.int (0 : Int32)), .val (.int (0 : Int32)), .val (.int (2 : Int32)), .val (.int (wmc_11 p1))] [(.int (wmc_12 p2))]) (T58.setTop (mkF m 75 #[.val (.ref a1), .val (.ref a2), .val (.int (0 : Int32)), .val (.int (0 : Int32)), .val (.int (2 : Int32)), .val (.int (wmc_11 p1))] [(.int (ux p2))])) := by
            refine Mx.with fun K => ?_
            by_cases hc75_59 : (ux p2) = (0 : Int32)
            · refine m_ifN K X58.here hx hby (q := 78) d_prog_6_7_75 ((if0 _ _).trans (teq hc75_59).2) rfl ?_
              refine m_iconst K X58.here hx hby (1 : Int32) d_prog_6_7_78 rfl rfl ?_
              refine m_goto K X58.here hx hby (q := 83) d_prog_6_7_79 (by decide) rfl ?_
              rw [show ((wmc_12 p2) : Int32) = (1 : Int32) from if_pos hc75_59]
              exact Mx.here X58 e58
            · refine m_ifY K X58.here hx hby (q := 82) d_prog_6_7_75 ((if0 _ _).trans (feq hc75_59).2) (by decide) rfl ?_
              refine m_iconst K X58.here hx hby (0 : Int32) d_prog_6_7_82 rfl rfl ?_
              rw [show ((wmc_12 p2) : Int32) = (0 : Int32) from if_neg hc75_59]
              exact Mx.here X58 e58
          refine k_go K st60 ?_
          rw [show ((wmc_13 p2) : Int32) = (wmc_12 p2) from if_neg hc61_57]
          exact Mx.here X60 e60
      refine k_go K st61 ?_
      refine m_istore K X61.here hx hby #[.val (.ref a1), .val (.ref a2), .val (.int (0 : Int32)), .val (.int (0 : Int32)), .val (.int (2 : Int32)), .val (.int (wmc_13 p2))] d_prog_6_7_83 rfl rfl ?_
      refine m_iload K X61.here hx hby d_prog_6_7_85 rfl rfl ?_
      by_cases hc87_62 : (wmc_13 p2) = (0 : Int32)
      · refine m_ifY K X61.here hx hby (q := 108) d_prog_6_7_87 ((if0 _ _).trans (teq hc87_62).1) (by decide) rfl ?_
        refine m_iinc K X61.here hx hby #[.val (.ref a1), .val (.ref a2), .val (.int (0 : Int32)), .val (.int (0 : Int32)), .val (.int (3 : Int32)), .val (.int (wmc_13 p2))] d_prog_6_7_108 rfl rfl rfl ?_
        refine m_goto K X61.here hx hby (q := 47) d_prog_6_7_111 (by decide) rfl ?_
        refine m_iload K X61.here hx hby d_prog_6_7_47 rfl rfl ?_
        refine m_iconst K X61.here hx hby (3 : Int32) d_prog_6_7_49 rfl rfl ?_
        refine m_icmpY K X61.here hx hby (q := 114) d_prog_6_7_50 (flt (by decide : ¬ ((3 : Int32) < (3 : Int32)))).2.1 (by decide) rfl ?_
        refine m_iloadN K X61.here hx hby d_prog_6_7_114 rfl rfl ?_
        exact Go.retI X61 hx hby hlk hret d_prog_6_7_115 (by decide) (by decide) (⟨congrArg (fun z => some (Value.int z)) (Eq.symm (by rw [MCV, if_neg hc87_25, if_pos hc87_55, if_pos hc87_62])), e61, rfl⟩)
      · refine m_ifN K X61.here hx hby (q := 90) d_prog_6_7_87 ((if0 _ _).trans (feq hc87_62).1) rfl ?_
        refine m_iloadN K X61.here hx hby d_prog_6_7_90 rfl rfl ?_
        refine m_ifN K X61.here hx hby (q := 94) d_prog_6_7_91 ((if0 _ _).trans (flt (by decide : ¬ ((0 : Int32) < (0 : Int32)))).1) rfl ?_
        refine m_aloadN K X61.here hx hby d_prog_6_7_94 rfl rfl rfl ?_
        refine m_iload K X61.here hx hby d_prog_6_7_95 rfl rfl ?_
        refine m_iloadN K X61.here hx hby d_prog_6_7_97 rfl rfl ?_
        refine m_iloadN K X61.here hx hby d_prog_6_7_98 rfl rfl ?_
        refine k_callR K X61 hx hby hZ a1 [(.int (2 : Int32)), (.int (0 : Int32)), (.int (0 : Int32))] [] hown (hw _ (List.mem_of_getElem? (i := 175) rfl)) (hw _ (List.mem_of_getElem? (i := 176) rfl)) (own_selP (hw _ (List.mem_of_getElem? (i := 92) rfl)) (hw _ (List.mem_of_getElem? (i := 177) rfl)) (hw _ (List.mem_of_getElem? (i := 176) rfl)) (by decide)) (hw _ (List.mem_of_getElem? (i := 177) rfl)) (hw _ (List.mem_of_getElem? (i := 93) rfl)) (hw _ (List.mem_of_getElem? (i := 178) rfl)) (cbt l Z a0 hw a1 (2 : Int32) (0 : Int32) bo [(.ref x0), (.ref x1), (.ref x2)] x2 x0 p2 p0 h0 n0 Z0 E_a1 F_occupied_a1 A_bo A_x2 A_x0 (by decide) rfl (by decide) rfl) e61 E_a1 rfl rfl pd_2 rfl d_prog_6_7_99 (by rw [hml]; rfl) rfl (by decide) (by decide) (Nat.le_of_ble_eq_true rfl) (by decide) (by decide) fun v63 T63 L63 X63 q63 => ?_
        obtain ⟨rfl, e63, rfl⟩ := q63
        replace X63 := own_px X63
        refine k_some K (w := (.int (BTV p2 p0))) ?_
        by_cases hc102_64 : (BTV p2 p0) = (0 : Int32)
        · refine m_ifY K X63.here hx hby (q := 108) d_prog_6_7_102 ((if0 _ _).trans (teq hc102_64).1) (by decide) rfl ?_
          refine m_iinc K X63.here hx hby #[.val (.ref a1), .val (.ref a2), .val (.int (0 : Int32)), .val (.int (0 : Int32)), .val (.int (3 : Int32)), .val (.int (wmc_13 p2))] d_prog_6_7_108 rfl rfl rfl ?_
          refine m_goto K X63.here hx hby (q := 47) d_prog_6_7_111 (by decide) rfl ?_
          refine m_iload K X63.here hx hby d_prog_6_7_47 rfl rfl ?_
          refine m_iconst K X63.here hx hby (3 : Int32) d_prog_6_7_49 rfl rfl ?_
          refine m_icmpY K X63.here hx hby (q := 114) d_prog_6_7_50 (flt (by decide : ¬ ((3 : Int32) < (3 : Int32)))).2.1 (by decide) rfl ?_
          refine m_iloadN K X63.here hx hby d_prog_6_7_114 rfl rfl ?_
          exact Go.retI X63 hx hby hlk hret d_prog_6_7_115 (by decide) (by decide) (⟨congrArg (fun z => some (Value.int z)) (Eq.symm (by rw [MCV, if_neg hc87_25, if_pos hc87_55, if_neg hc87_62, if_pos hc102_64])), e63, rfl⟩)
        · refine m_ifN K X63.here hx hby (q := 105) d_prog_6_7_102 ((if0 _ _).trans (feq hc102_64).1) rfl ?_
          refine m_iload K X63.here hx hby d_prog_6_7_105 rfl rfl ?_
          refine m_istoreN K X63.here hx hby #[.val (.ref a1), .val (.ref a2), .val (.int (0 : Int32)), .val (.int (2 : Int32)), .val (.int (2 : Int32)), .val (.int (wmc_13 p2))] d_prog_6_7_107 rfl rfl ?_
          refine m_iinc K X63.here hx hby #[.val (.ref a1), .val (.ref a2), .val (.int (0 : Int32)), .val (.int (2 : Int32)), .val (.int (3 : Int32)), .val (.int (wmc_13 p2))] d_prog_6_7_108 rfl rfl rfl ?_
          refine m_goto K X63.here hx hby (q := 47) d_prog_6_7_111 (by decide) rfl ?_
          refine m_iload K X63.here hx hby d_prog_6_7_47 rfl rfl ?_
          refine m_iconst K X63.here hx hby (3 : Int32) d_prog_6_7_49 rfl rfl ?_
          refine m_icmpY K X63.here hx hby (q := 114) d_prog_6_7_50 (flt (by decide : ¬ ((3 : Int32) < (3 : Int32)))).2.1 (by decide) rfl ?_
          refine m_iloadN K X63.here hx hby d_prog_6_7_114 rfl rfl ?_
          exact Go.retI X63 hx hby hlk hret d_prog_6_7_115 (by decide) (by decide) (⟨congrArg (fun z => some (Value.int z)) (Eq.symm (by rw [MCV, if_neg hc87_25, if_pos hc87_55, if_neg hc87_62, if_neg hc102_64])), e63, rfl⟩)
    · refine m_ifN K X54.here hx hby (q := 90) d_prog_6_7_87 ((if0 _ _).trans (feq hc87_55).1) rfl ?_
      refine m_iloadN K X54.here hx hby d_prog_6_7_90 rfl rfl ?_
      refine m_ifN K X54.here hx hby (q := 94) d_prog_6_7_91 ((if0 _ _).trans (flt (by decide : ¬ ((0 : Int32) < (0 : Int32)))).1) rfl ?_
      refine m_aloadN K X54.here hx hby d_prog_6_7_94 rfl rfl rfl ?_
      refine m_iload K X54.here hx hby d_prog_6_7_95 rfl rfl ?_
      refine m_iloadN K X54.here hx hby d_prog_6_7_97 rfl rfl ?_
      refine m_iloadN K X54.here hx hby d_prog_6_7_98 rfl rfl ?_
      refine k_callR K X54 hx hby hZ a1 [(.int (1 : Int32)), (.int (0 : Int32)), (.int (0 : Int32))] [] hown (hw _ (List.mem_of_getElem? (i := 175) rfl)) (hw _ (List.mem_of_getElem? (i := 176) rfl)) (own_selP (hw _ (List.mem_of_getElem? (i := 92) rfl)) (hw _ (List.mem_of_getElem? (i := 177) rfl)) (hw _ (List.mem_of_getElem? (i := 176) rfl)) (by decide)) (hw _ (List.mem_of_getElem? (i := 177) rfl)) (hw _ (List.mem_of_getElem? (i := 93) rfl)) (hw _ (List.mem_of_getElem? (i := 178) rfl)) (cbt l Z a0 hw a1 (1 : Int32) (0 : Int32) bo [(.ref x0), (.ref x1), (.ref x2)] x1 x0 p1 p0 h0 n0 Z0 E_a1 F_occupied_a1 A_bo A_x1 A_x0 (by decide) rfl (by decide) rfl) e54 E_a1 rfl rfl pd_2 rfl d_prog_6_7_99 (by rw [hml]; rfl) rfl (by decide) (by decide) (Nat.le_of_ble_eq_true rfl) (by decide) (by decide) fun v65 T65 L65 X65 q65 => ?_
      obtain ⟨rfl, e65, rfl⟩ := q65
      replace X65 := own_px X65
      refine k_some K (w := (.int (BTV p1 p0))) ?_
      by_cases hc102_66 : (BTV p1 p0) = (0 : Int32)
      · refine m_ifY K X65.here hx hby (q := 108) d_prog_6_7_102 ((if0 _ _).trans (teq hc102_66).1) (by decide) rfl ?_
        refine m_iinc K X65.here hx hby #[.val (.ref a1), .val (.ref a2), .val (.int (0 : Int32)), .val (.int (0 : Int32)), .val (.int (2 : Int32)), .val (.int (wmc_11 p1))] d_prog_6_7_108 rfl rfl rfl ?_
        refine m_goto K X65.here hx hby (q := 47) d_prog_6_7_111 (by decide) rfl ?_
        refine m_iload K X65.here hx hby d_prog_6_7_47 rfl rfl ?_
        refine m_iconst K X65.here hx hby (3 : Int32) d_prog_6_7_49 rfl rfl ?_
        refine m_icmpN K X65.here hx hby (q := 53) d_prog_6_7_50 (tlt (by decide : (2 : Int32) < (3 : Int32))).2.1 rfl ?_
        refine m_aloadN K X65.here hx hby d_prog_6_7_53 rfl rfl rfl ?_
        refine m_iload K X65.here hx hby d_prog_6_7_54 rfl rfl ?_
        refine k_test K X65 hx hby hZ a2 a1 (2 : Int32) [] hown (hw _ (List.mem_of_getElem? (i := 168) rfl)) (hw _ (List.mem_of_getElem? (i := 169) rfl)) (hw _ (List.mem_of_getElem? (i := 170) rfl)) (hw _ (List.mem_of_getElem? (i := 171) rfl)) (hw _ (List.mem_of_getElem? (i := 172) rfl)) (hw _ (List.mem_of_getElem? (i := 173) rfl)) (hw _ (List.mem_of_getElem? (i := 93) rfl)) (hw _ (List.mem_of_getElem? (i := 174) rfl)) (hw _ (List.mem_of_getElem? (i := 163) rfl)) own_hxi own_hyi own_fwdOK own_capOK (chr l Z a0 hw a1 (2 : Int32) bo [(.ref x0), (.ref x1), (.ref x2)] x2 p2 h0 n0 Z0 F_occupied_a1 A_bo A_x2 (by decide) rfl) (fun _ _ _ q => ⟨_, q.1, HRV_01 _⟩) e65 HF E_a1 pd_1 pd_1 d_prog_6_7_56 (by rw [hml]; rfl) rfl (by decide) (by decide) (Nat.le_of_ble_eq_true rfl) (by decide) (by decide) fun v67 T67 L67 X67 q67 => ?_
        obtain ⟨rfl, e67, rfl⟩ := q67
        replace X67 := own_px X67
        refine k_some K (w := (.int (HRV p2))) ?_
        obtain ⟨T72, X72, e72, st72⟩ : Mx X67 h0 (mkF m 83 #[.val (.ref a1), .val (.ref a2), .val (.int (0 : Int32)), .val (.int (0 : Int32)), .val (.int (2 : Int32)), .val (.int (wmc_11 p1))] [(.int (wmc_13 p2))]) (T67.setTop (mkF m 61 #[.val (.ref a1), .val (.ref a2), .val (.int (0 : Int32)), .val (.int (0 : Int32)), .val (.int (2 : Int32)), .val (.int (wmc_11 p1))] [(.int (HRV p2))])) := by
          refine Mx.with fun K => ?_
          by_cases hc61_68 : (HRV p2) = (0 : Int32)
          · refine m_ifY K X67.here hx hby (q := 82) d_prog_6_7_61 ((if0 _ _).trans (teq hc61_68).1) (by decide) rfl ?_
            refine m_iconst K X67.here hx hby (0 : Int32) d_prog_6_7_82 rfl rfl ?_
            rw [show ((wmc_13 p2) : Int32) = (0 : Int32) from if_pos hc61_68]
            exact Mx.here X67 e67
          · refine m_ifN K X67.here hx hby (q := 64) d_prog_6_7_61 ((if0 _ _).trans (feq hc61_68).1) rfl ?_
            refine m_iloadN K X67.here hx hby d_prog_6_7_64 rfl rfl ?_
            refine m_ifN K X67.here hx hby (q := 68) d_prog_6_7_65 ((if0 _ _).trans (teq (by decide : (0 : Int32) = (0 : Int32))).2) rfl ?_
            refine m_aloadN K X67.here hx hby d_prog_6_7_68 rfl rfl rfl ?_
            refine k_getF K X67 hx hby hZ hown (host := "") (Or.inl (hw _ (List.mem_of_getElem? (i := 103) rfl))) Via.refl e67 F_uncovered_a1 d_prog_6_7_69 rfl fun T69 X69 e69 => ?_
            refine m_iload K X69.here hx hby d_prog_6_7_72 rfl rfl ?_
            refine k_ldZ K X69 hx hby hZ e69 A_bu (v := (.int (ux p2))) (by decide) rfl d_prog_6_7_74 rfl ?_
            obtain ⟨T71, X71, e71, st71⟩ : Mx X69 h0 (mkF m 83 #[.val (.ref a1), .val (.ref a2), .val (.int (0 : Int32)), .val (.int (0 : Int32)), .val (.int (2 : Int32)), .val (.int (wmc_11 p1))] [(.int (wmc_12 p2))]) (T69.setTop (mkF m 75 #[.val (.ref a1), .val (.ref a2), .val (.int (0 : Int32)), .val (.int (0 : Int32)), .val (.int (2 : Int32)), .val (.int (wmc_11 p1))] [(.int (ux p2))])) := by
              refine Mx.with fun K => ?_
              by_cases hc75_70 : (ux p2) = (0 : Int32)
              · refine m_ifN K X69.here hx hby (q := 78) d_prog_6_7_75 ((if0 _ _).trans (teq hc75_70).2) rfl ?_
                refine m_iconst K X69.here hx hby (1 : Int32) d_prog_6_7_78 rfl rfl ?_
                refine m_goto K X69.here hx hby (q := 83) d_prog_6_7_79 (by decide) rfl ?_
                rw [show ((wmc_12 p2) : Int32) = (1 : Int32) from if_pos hc75_70]
                exact Mx.here X69 e69
              · refine m_ifY K X69.here hx hby (q := 82) d_prog_6_7_75 ((if0 _ _).trans (feq hc75_70).2) (by decide) rfl ?_
                refine m_iconst K X69.here hx hby (0 : Int32) d_prog_6_7_82 rfl rfl ?_
                rw [show ((wmc_12 p2) : Int32) = (0 : Int32) from if_neg hc75_70]
                exact Mx.here X69 e69
            refine k_go K st71 ?_
            rw [show ((wmc_13 p2) : Int32) = (wmc_12 p2) from if_neg hc61_68]
            exact Mx.here X71 e71
        refine k_go K st72 ?_
        refine m_istore K X72.here hx hby #[.val (.ref a1), .val (.ref a2), .val (.int (0 : Int32)), .val (.int (0 : Int32)), .val (.int (2 : Int32)), .val (.int (wmc_13 p2))] d_prog_6_7_83 rfl rfl ?_
        refine m_iload K X72.here hx hby d_prog_6_7_85 rfl rfl ?_
        by_cases hc87_73 : (wmc_13 p2) = (0 : Int32)
        · refine m_ifY K X72.here hx hby (q := 108) d_prog_6_7_87 ((if0 _ _).trans (teq hc87_73).1) (by decide) rfl ?_
          refine m_iinc K X72.here hx hby #[.val (.ref a1), .val (.ref a2), .val (.int (0 : Int32)), .val (.int (0 : Int32)), .val (.int (3 : Int32)), .val (.int (wmc_13 p2))] d_prog_6_7_108 rfl rfl rfl ?_
          refine m_goto K X72.here hx hby (q := 47) d_prog_6_7_111 (by decide) rfl ?_
          refine m_iload K X72.here hx hby d_prog_6_7_47 rfl rfl ?_
          refine m_iconst K X72.here hx hby (3 : Int32) d_prog_6_7_49 rfl rfl ?_
          refine m_icmpY K X72.here hx hby (q := 114) d_prog_6_7_50 (flt (by decide : ¬ ((3 : Int32) < (3 : Int32)))).2.1 (by decide) rfl ?_
          refine m_iloadN K X72.here hx hby d_prog_6_7_114 rfl rfl ?_
          exact Go.retI X72 hx hby hlk hret d_prog_6_7_115 (by decide) (by decide) (⟨congrArg (fun z => some (Value.int z)) (Eq.symm (by rw [MCV, if_neg hc87_25, if_neg hc87_55, if_pos hc102_66, if_pos hc87_73])), e72, rfl⟩)
        · refine m_ifN K X72.here hx hby (q := 90) d_prog_6_7_87 ((if0 _ _).trans (feq hc87_73).1) rfl ?_
          refine m_iloadN K X72.here hx hby d_prog_6_7_90 rfl rfl ?_
          refine m_ifN K X72.here hx hby (q := 94) d_prog_6_7_91 ((if0 _ _).trans (flt (by decide : ¬ ((0 : Int32) < (0 : Int32)))).1) rfl ?_
          refine m_aloadN K X72.here hx hby d_prog_6_7_94 rfl rfl rfl ?_
          refine m_iload K X72.here hx hby d_prog_6_7_95 rfl rfl ?_
          refine m_iloadN K X72.here hx hby d_prog_6_7_97 rfl rfl ?_
          refine m_iloadN K X72.here hx hby d_prog_6_7_98 rfl rfl ?_
          refine k_callR K X72 hx hby hZ a1 [(.int (2 : Int32)), (.int (0 : Int32)), (.int (0 : Int32))] [] hown (hw _ (List.mem_of_getElem? (i := 175) rfl)) (hw _ (List.mem_of_getElem? (i := 176) rfl)) (own_selP (hw _ (List.mem_of_getElem? (i := 92) rfl)) (hw _ (List.mem_of_getElem? (i := 177) rfl)) (hw _ (List.mem_of_getElem? (i := 176) rfl)) (by decide)) (hw _ (List.mem_of_getElem? (i := 177) rfl)) (hw _ (List.mem_of_getElem? (i := 93) rfl)) (hw _ (List.mem_of_getElem? (i := 178) rfl)) (cbt l Z a0 hw a1 (2 : Int32) (0 : Int32) bo [(.ref x0), (.ref x1), (.ref x2)] x2 x0 p2 p0 h0 n0 Z0 E_a1 F_occupied_a1 A_bo A_x2 A_x0 (by decide) rfl (by decide) rfl) e72 E_a1 rfl rfl pd_2 rfl d_prog_6_7_99 (by rw [hml]; rfl) rfl (by decide) (by decide) (Nat.le_of_ble_eq_true rfl) (by decide) (by decide) fun v74 T74 L74 X74 q74 => ?_
          obtain ⟨rfl, e74, rfl⟩ := q74
          replace X74 := own_px X74
          refine k_some K (w := (.int (BTV p2 p0))) ?_
          by_cases hc102_75 : (BTV p2 p0) = (0 : Int32)
          · refine m_ifY K X74.here hx hby (q := 108) d_prog_6_7_102 ((if0 _ _).trans (teq hc102_75).1) (by decide) rfl ?_
            refine m_iinc K X74.here hx hby #[.val (.ref a1), .val (.ref a2), .val (.int (0 : Int32)), .val (.int (0 : Int32)), .val (.int (3 : Int32)), .val (.int (wmc_13 p2))] d_prog_6_7_108 rfl rfl rfl ?_
            refine m_goto K X74.here hx hby (q := 47) d_prog_6_7_111 (by decide) rfl ?_
            refine m_iload K X74.here hx hby d_prog_6_7_47 rfl rfl ?_
            refine m_iconst K X74.here hx hby (3 : Int32) d_prog_6_7_49 rfl rfl ?_
            refine m_icmpY K X74.here hx hby (q := 114) d_prog_6_7_50 (flt (by decide : ¬ ((3 : Int32) < (3 : Int32)))).2.1 (by decide) rfl ?_
            refine m_iloadN K X74.here hx hby d_prog_6_7_114 rfl rfl ?_
            exact Go.retI X74 hx hby hlk hret d_prog_6_7_115 (by decide) (by decide) (⟨congrArg (fun z => some (Value.int z)) (Eq.symm (by rw [MCV, if_neg hc87_25, if_neg hc87_55, if_pos hc102_66, if_neg hc87_73, if_pos hc102_75])), e74, rfl⟩)
          · refine m_ifN K X74.here hx hby (q := 105) d_prog_6_7_102 ((if0 _ _).trans (feq hc102_75).1) rfl ?_
            refine m_iload K X74.here hx hby d_prog_6_7_105 rfl rfl ?_
            refine m_istoreN K X74.here hx hby #[.val (.ref a1), .val (.ref a2), .val (.int (0 : Int32)), .val (.int (2 : Int32)), .val (.int (2 : Int32)), .val (.int (wmc_13 p2))] d_prog_6_7_107 rfl rfl ?_
            refine m_iinc K X74.here hx hby #[.val (.ref a1), .val (.ref a2), .val (.int (0 : Int32)), .val (.int (2 : Int32)), .val (.int (3 : Int32)), .val (.int (wmc_13 p2))] d_prog_6_7_108 rfl rfl rfl ?_
            refine m_goto K X74.here hx hby (q := 47) d_prog_6_7_111 (by decide) rfl ?_
            refine m_iload K X74.here hx hby d_prog_6_7_47 rfl rfl ?_
            refine m_iconst K X74.here hx hby (3 : Int32) d_prog_6_7_49 rfl rfl ?_
            refine m_icmpY K X74.here hx hby (q := 114) d_prog_6_7_50 (flt (by decide : ¬ ((3 : Int32) < (3 : Int32)))).2.1 (by decide) rfl ?_
            refine m_iloadN K X74.here hx hby d_prog_6_7_114 rfl rfl ?_
            exact Go.retI X74 hx hby hlk hret d_prog_6_7_115 (by decide) (by decide) (⟨congrArg (fun z => some (Value.int z)) (Eq.symm (by rw [MCV, if_neg hc87_25, if_neg hc87_55, if_pos hc102_66, if_neg hc87_73, if_neg hc102_75])), e74, rfl⟩)
      · refine m_ifN K X65.here hx hby (q := 105) d_prog_6_7_102 ((if0 _ _).trans (feq hc102_66).1) rfl ?_
        refine m_iload K X65.here hx hby d_prog_6_7_105 rfl rfl ?_
        refine m_istoreN K X65.here hx hby #[.val (.ref a1), .val (.ref a2), .val (.int (0 : Int32)), .val (.int (1 : Int32)), .val (.int (1 : Int32)), .val (.int (wmc_11 p1))] d_prog_6_7_107 rfl rfl ?_
        refine m_iinc K X65.here hx hby #[.val (.ref a1), .val (.ref a2), .val (.int (0 : Int32)), .val (.int (1 : Int32)), .val (.int (2 : Int32)), .val (.int (wmc_11 p1))] d_prog_6_7_108 rfl rfl rfl ?_
        refine m_goto K X65.here hx hby (q := 47) d_prog_6_7_111 (by decide) rfl ?_
        refine m_iload K X65.here hx hby d_prog_6_7_47 rfl rfl ?_
        refine m_iconst K X65.here hx hby (3 : Int32) d_prog_6_7_49 rfl rfl ?_
        refine m_icmpN K X65.here hx hby (q := 53) d_prog_6_7_50 (tlt (by decide : (2 : Int32) < (3 : Int32))).2.1 rfl ?_
        refine m_aloadN K X65.here hx hby d_prog_6_7_53 rfl rfl rfl ?_
        refine m_iload K X65.here hx hby d_prog_6_7_54 rfl rfl ?_
        refine k_test K X65 hx hby hZ a2 a1 (2 : Int32) [] hown (hw _ (List.mem_of_getElem? (i := 168) rfl)) (hw _ (List.mem_of_getElem? (i := 169) rfl)) (hw _ (List.mem_of_getElem? (i := 170) rfl)) (hw _ (List.mem_of_getElem? (i := 171) rfl)) (hw _ (List.mem_of_getElem? (i := 172) rfl)) (hw _ (List.mem_of_getElem? (i := 173) rfl)) (hw _ (List.mem_of_getElem? (i := 93) rfl)) (hw _ (List.mem_of_getElem? (i := 174) rfl)) (hw _ (List.mem_of_getElem? (i := 163) rfl)) own_hxi own_hyi own_fwdOK own_capOK (chr l Z a0 hw a1 (2 : Int32) bo [(.ref x0), (.ref x1), (.ref x2)] x2 p2 h0 n0 Z0 F_occupied_a1 A_bo A_x2 (by decide) rfl) (fun _ _ _ q => ⟨_, q.1, HRV_01 _⟩) e65 HF E_a1 pd_1 pd_1 d_prog_6_7_56 (by rw [hml]; rfl) rfl (by decide) (by decide) (Nat.le_of_ble_eq_true rfl) (by decide) (by decide) fun v76 T76 L76 X76 q76 => ?_
        obtain ⟨rfl, e76, rfl⟩ := q76
        replace X76 := own_px X76
        refine k_some K (w := (.int (HRV p2))) ?_
        obtain ⟨T81, X81, e81, st81⟩ : Mx X76 h0 (mkF m 83 #[.val (.ref a1), .val (.ref a2), .val (.int (0 : Int32)), .val (.int (1 : Int32)), .val (.int (2 : Int32)), .val (.int (wmc_11 p1))] [(.int (wmc_13 p2))]) (T76.setTop (mkF m 61 #[.val (.ref a1), .val (.ref a2), .val (.int (0 : Int32)), .val (.int (1 : Int32)), .val (.int (2 : Int32)), .val (.int (wmc_11 p1))] [(.int (HRV p2))])) := by
          refine Mx.with fun K => ?_
          by_cases hc61_77 : (HRV p2) = (0 : Int32)
          · refine m_ifY K X76.here hx hby (q := 82) d_prog_6_7_61 ((if0 _ _).trans (teq hc61_77).1) (by decide) rfl ?_
            refine m_iconst K X76.here hx hby (0 : Int32) d_prog_6_7_82 rfl rfl ?_
            rw [show ((wmc_13 p2) : Int32) = (0 : Int32) from if_pos hc61_77]
            exact Mx.here X76 e76
          · refine m_ifN K X76.here hx hby (q := 64) d_prog_6_7_61 ((if0 _ _).trans (feq hc61_77).1) rfl ?_
            refine m_iloadN K X76.here hx hby d_prog_6_7_64 rfl rfl ?_
            refine m_ifN K X76.here hx hby (q := 68) d_prog_6_7_65 ((if0 _ _).trans (teq (by decide : (0 : Int32) = (0 : Int32))).2) rfl ?_
            refine m_aloadN K X76.here hx hby d_prog_6_7_68 rfl rfl rfl ?_
            refine k_getF K X76 hx hby hZ hown (host := "") (Or.inl (hw _ (List.mem_of_getElem? (i := 103) rfl))) Via.refl e76 F_uncovered_a1 d_prog_6_7_69 rfl fun T78 X78 e78 => ?_
            refine m_iload K X78.here hx hby d_prog_6_7_72 rfl rfl ?_
            refine k_ldZ K X78 hx hby hZ e78 A_bu (v := (.int (ux p2))) (by decide) rfl d_prog_6_7_74 rfl ?_
            obtain ⟨T80, X80, e80, st80⟩ : Mx X78 h0 (mkF m 83 #[.val (.ref a1), .val (.ref a2), .val (.int (0 : Int32)), .val (.int (1 : Int32)), .val (.int (2 : Int32)), .val (.int (wmc_11 p1))] [(.int (wmc_12 p2))]) (T78.setTop (mkF m 75 #[.val (.ref a1), .val (.ref a2), .val (.int (0 : Int32)), .val (.int (1 : Int32)), .val (.int (2 : Int32)), .val (.int (wmc_11 p1))] [(.int (ux p2))])) := by
              refine Mx.with fun K => ?_
              by_cases hc75_79 : (ux p2) = (0 : Int32)
              · refine m_ifN K X78.here hx hby (q := 78) d_prog_6_7_75 ((if0 _ _).trans (teq hc75_79).2) rfl ?_
                refine m_iconst K X78.here hx hby (1 : Int32) d_prog_6_7_78 rfl rfl ?_
                refine m_goto K X78.here hx hby (q := 83) d_prog_6_7_79 (by decide) rfl ?_
                rw [show ((wmc_12 p2) : Int32) = (1 : Int32) from if_pos hc75_79]
                exact Mx.here X78 e78
              · refine m_ifY K X78.here hx hby (q := 82) d_prog_6_7_75 ((if0 _ _).trans (feq hc75_79).2) (by decide) rfl ?_
                refine m_iconst K X78.here hx hby (0 : Int32) d_prog_6_7_82 rfl rfl ?_
                rw [show ((wmc_12 p2) : Int32) = (0 : Int32) from if_neg hc75_79]
                exact Mx.here X78 e78
            refine k_go K st80 ?_
            rw [show ((wmc_13 p2) : Int32) = (wmc_12 p2) from if_neg hc61_77]
            exact Mx.here X80 e80
        refine k_go K st81 ?_
        refine m_istore K X81.here hx hby #[.val (.ref a1), .val (.ref a2), .val (.int (0 : Int32)), .val (.int (1 : Int32)), .val (.int (2 : Int32)), .val (.int (wmc_13 p2))] d_prog_6_7_83 rfl rfl ?_
        refine m_iload K X81.here hx hby d_prog_6_7_85 rfl rfl ?_
        by_cases hc87_82 : (wmc_13 p2) = (0 : Int32)
        · refine m_ifY K X81.here hx hby (q := 108) d_prog_6_7_87 ((if0 _ _).trans (teq hc87_82).1) (by decide) rfl ?_
          refine m_iinc K X81.here hx hby #[.val (.ref a1), .val (.ref a2), .val (.int (0 : Int32)), .val (.int (1 : Int32)), .val (.int (3 : Int32)), .val (.int (wmc_13 p2))] d_prog_6_7_108 rfl rfl rfl ?_
          refine m_goto K X81.here hx hby (q := 47) d_prog_6_7_111 (by decide) rfl ?_
          refine m_iload K X81.here hx hby d_prog_6_7_47 rfl rfl ?_
          refine m_iconst K X81.here hx hby (3 : Int32) d_prog_6_7_49 rfl rfl ?_
          refine m_icmpY K X81.here hx hby (q := 114) d_prog_6_7_50 (flt (by decide : ¬ ((3 : Int32) < (3 : Int32)))).2.1 (by decide) rfl ?_
          refine m_iloadN K X81.here hx hby d_prog_6_7_114 rfl rfl ?_
          exact Go.retI X81 hx hby hlk hret d_prog_6_7_115 (by decide) (by decide) (⟨congrArg (fun z => some (Value.int z)) (Eq.symm (by rw [MCV, if_neg hc87_25, if_neg hc87_55, if_neg hc102_66, if_pos hc87_82])), e81, rfl⟩)
        · refine m_ifN K X81.here hx hby (q := 90) d_prog_6_7_87 ((if0 _ _).trans (feq hc87_82).1) rfl ?_
          refine m_iloadN K X81.here hx hby d_prog_6_7_90 rfl rfl ?_
          refine m_ifN K X81.here hx hby (q := 94) d_prog_6_7_91 ((if0 _ _).trans (flt (by decide : ¬ ((1 : Int32) < (0 : Int32)))).1) rfl ?_
          refine m_aloadN K X81.here hx hby d_prog_6_7_94 rfl rfl rfl ?_
          refine m_iload K X81.here hx hby d_prog_6_7_95 rfl rfl ?_
          refine m_iloadN K X81.here hx hby d_prog_6_7_97 rfl rfl ?_
          refine m_iloadN K X81.here hx hby d_prog_6_7_98 rfl rfl ?_
          refine k_callR K X81 hx hby hZ a1 [(.int (2 : Int32)), (.int (1 : Int32)), (.int (0 : Int32))] [] hown (hw _ (List.mem_of_getElem? (i := 175) rfl)) (hw _ (List.mem_of_getElem? (i := 176) rfl)) (own_selP (hw _ (List.mem_of_getElem? (i := 92) rfl)) (hw _ (List.mem_of_getElem? (i := 177) rfl)) (hw _ (List.mem_of_getElem? (i := 176) rfl)) (by decide)) (hw _ (List.mem_of_getElem? (i := 177) rfl)) (hw _ (List.mem_of_getElem? (i := 93) rfl)) (hw _ (List.mem_of_getElem? (i := 178) rfl)) (cbt l Z a0 hw a1 (2 : Int32) (1 : Int32) bo [(.ref x0), (.ref x1), (.ref x2)] x2 x1 p2 p1 h0 n0 Z0 E_a1 F_occupied_a1 A_bo A_x2 A_x1 (by decide) rfl (by decide) rfl) e81 E_a1 rfl rfl pd_2 rfl d_prog_6_7_99 (by rw [hml]; rfl) rfl (by decide) (by decide) (Nat.le_of_ble_eq_true rfl) (by decide) (by decide) fun v83 T83 L83 X83 q83 => ?_
          obtain ⟨rfl, e83, rfl⟩ := q83
          replace X83 := own_px X83
          refine k_some K (w := (.int (BTV p2 p1))) ?_
          by_cases hc102_84 : (BTV p2 p1) = (0 : Int32)
          · refine m_ifY K X83.here hx hby (q := 108) d_prog_6_7_102 ((if0 _ _).trans (teq hc102_84).1) (by decide) rfl ?_
            refine m_iinc K X83.here hx hby #[.val (.ref a1), .val (.ref a2), .val (.int (0 : Int32)), .val (.int (1 : Int32)), .val (.int (3 : Int32)), .val (.int (wmc_13 p2))] d_prog_6_7_108 rfl rfl rfl ?_
            refine m_goto K X83.here hx hby (q := 47) d_prog_6_7_111 (by decide) rfl ?_
            refine m_iload K X83.here hx hby d_prog_6_7_47 rfl rfl ?_
            refine m_iconst K X83.here hx hby (3 : Int32) d_prog_6_7_49 rfl rfl ?_
            refine m_icmpY K X83.here hx hby (q := 114) d_prog_6_7_50 (flt (by decide : ¬ ((3 : Int32) < (3 : Int32)))).2.1 (by decide) rfl ?_
            refine m_iloadN K X83.here hx hby d_prog_6_7_114 rfl rfl ?_
            exact Go.retI X83 hx hby hlk hret d_prog_6_7_115 (by decide) (by decide) (⟨congrArg (fun z => some (Value.int z)) (Eq.symm (by rw [MCV, if_neg hc87_25, if_neg hc87_55, if_neg hc102_66, if_neg hc87_82, if_pos hc102_84])), e83, rfl⟩)
          · refine m_ifN K X83.here hx hby (q := 105) d_prog_6_7_102 ((if0 _ _).trans (feq hc102_84).1) rfl ?_
            refine m_iload K X83.here hx hby d_prog_6_7_105 rfl rfl ?_
            refine m_istoreN K X83.here hx hby #[.val (.ref a1), .val (.ref a2), .val (.int (0 : Int32)), .val (.int (2 : Int32)), .val (.int (2 : Int32)), .val (.int (wmc_13 p2))] d_prog_6_7_107 rfl rfl ?_
            refine m_iinc K X83.here hx hby #[.val (.ref a1), .val (.ref a2), .val (.int (0 : Int32)), .val (.int (2 : Int32)), .val (.int (3 : Int32)), .val (.int (wmc_13 p2))] d_prog_6_7_108 rfl rfl rfl ?_
            refine m_goto K X83.here hx hby (q := 47) d_prog_6_7_111 (by decide) rfl ?_
            refine m_iload K X83.here hx hby d_prog_6_7_47 rfl rfl ?_
            refine m_iconst K X83.here hx hby (3 : Int32) d_prog_6_7_49 rfl rfl ?_
            refine m_icmpY K X83.here hx hby (q := 114) d_prog_6_7_50 (flt (by decide : ¬ ((3 : Int32) < (3 : Int32)))).2.1 (by decide) rfl ?_
            refine m_iloadN K X83.here hx hby d_prog_6_7_114 rfl rfl ?_
            exact Go.retI X83 hx hby hlk hret d_prog_6_7_115 (by decide) (by decide) (⟨congrArg (fun z => some (Value.int z)) (Eq.symm (by rw [MCV, if_neg hc87_25, if_neg hc87_55, if_neg hc102_66, if_neg hc87_82, if_neg hc102_84])), e83, rfl⟩)
theorem d_prog_6_6_0 : decode prog_6_method_6_code 0 = .ok (.aload_n 0, 1) := by decide +kernel
theorem d_prog_6_6_1 : decode prog_6_method_6_code 1 = .ok (.aload_n 0, 1) := by decide +kernel
theorem d_prog_6_6_2 : decode prog_6_method_6_code 2 = .ok (.invokedynamic 40, 5) := by decide +kernel
theorem d_prog_6_6_7 : decode prog_6_method_6_code 7 = .ok (.invokevirtual 36, 3) := by decide +kernel
theorem d_prog_6_6_10 : decode prog_6_method_6_code 10 = .ok (.ireturn, 1) := by decide +kernel
theorem pd_3 : parseMethodDescriptor "(Ljava/util/function/IntPredicate;)I" = some ⟨[(.object "java/util/function/IntPredicate")], some .int⟩ := by decide +kernel
theorem efhc (m : MethodId) (x0 : Addr) : entryFrame m #[(.ref x0)] 1 = mkF m 0 #[.val (.ref x0)] [] := by first | (simp [entryFrame, mkF, argsToLocals, Value.category]; done) | rfl
set_option maxRecDepth 65536 in
set_option maxHeartbeats 40000000 in
theorem chc (l : Launch) (Z : State) (a0 : Array Value) (hw : ∀ d ∈ tables_1, d.before a0 Z = true) (a1 : Addr) (bo : Addr) (bu : Addr) (x0 : Addr) (x1 : Addr) (x2 : Addr) (p0 : Nat) (p1 : Nat) (p2 : Nat) (h0 : Heap) (n0 : Nat) (Z0 : n0 ≤ h0.size) (E_a1 : Exa Z h0 a1 "com/example/craterworks/craterworks/SharesStation") (F_occupied_a1 : Fld Z h0 a1 "com/example/craterworks/craterworks/SharesStation" "occupied" "[[Z" (.ref bo)) (F_uncovered_a1 : Fld Z h0 a1 "com/example/craterworks/craterworks/SharesStation" "uncovered" "[Z" (.ref bu)) (A_bo : Av Z h0 bo (.array .boolean) [(.ref x0), (.ref x1), (.ref x2)]) (A_x0 : Av Z h0 x0 .boolean [(.int (cx p0 0)), (.int (cx p0 1)), (.int (cx p0 2)), (.int (cx p0 3)), (.int (cx p0 4))]) (A_x1 : Av Z h0 x1 .boolean [(.int (cx p1 0)), (.int (cx p1 1)), (.int (cx p1 2)), (.int (cx p1 3)), (.int (cx p1 4))]) (A_x2 : Av Z h0 x2 .boolean [(.int (cx p2 0)), (.int (cx p2 1)), (.int (cx p2 2)), (.int (cx p2 3)), (.int (cx p2 4))]) (A_bu : Av Z h0 bu .boolean [(.int (ux p0)), (.int (ux p1)), (.int (ux p2))]) (hz : MBV p0 p1 p2 = 0) :
    Con l Z (⟨"com/example/craterworks/craterworks/SharesStation", "homeColumn", "()I"⟩ : MethodName) prog_6_method_6_code 1 (some .int) ({ frames := 3, cells := 1, slots := 1, locals := 3074 } : Room) [] #[(.ref a1)] h0 (fun v h L => v = some (.int (MCV p0 p1 p2)) ∧ Fr n0 L ∧ Keep h0 h []) := by
  refine Con.of (plainFor_of_name pn_com_example_craterworks_craterworks_SharesStation) #[.val (.ref a1)] (fun m => efhc m a1) ?_
  intro p e s m below meth c s₁ K hx hby hml hown hnm hret hlk hZ X0 e0 hnd
  have N0 := Fr.nil n0
  refine m_aloadN K X0.here hx hby d_prog_6_6_0 rfl rfl rfl ?_
  refine m_aloadN K X0.here hx hby d_prog_6_6_1 rfl rfl rfl ?_
  refine k_indy K X0 hx hby hZ 15 (σ := SG) hnd (hw _ (List.mem_of_getElem? (i := 160) rfl)) (.object "com/example/craterworks/craterworks/SharesStation") rfl own_capOK (hw _ (List.mem_of_getElem? (i := 163) rfl)) e0 ⟨rfl, rfl⟩ (by rw [hml]; rfl) d_prog_6_6_2 rfl (Nat.le_of_ble_eq_true rfl) (by decide) (by decide) fun T1 h1 b1 X1 e1 E1 g1 Fn1 => ?_
  have sz_b1 : h0.size ≤ b1 := Nat.le_trans (Nat.le_refl _) (Nat.le_of_eq g1.symm)
  have g_b1 : n0 ≤ b1 := Nat.le_trans Z0 sz_b1
  refine k_callR K X1 hx hby hZ a1 [(.ref b1)] [] hown (hw _ (List.mem_of_getElem? (i := 164) rfl)) (hw _ (List.mem_of_getElem? (i := 165) rfl)) (own_selP (hw _ (List.mem_of_getElem? (i := 92) rfl)) (hw _ (List.mem_of_getElem? (i := 166) rfl)) (hw _ (List.mem_of_getElem? (i := 165) rfl)) (by decide)) (hw _ (List.mem_of_getElem? (i := 166) rfl)) (hw _ (List.mem_of_getElem? (i := 93) rfl)) (hw _ (List.mem_of_getElem? (i := 167) rfl)) (cmc l Z a0 hw a1 b1 bo bu x0 x1 x2 p0 p1 p2 h1 n0 (Nat.le_trans Z0 (Nat.le_trans (Nat.le_refl _) E1.1)) (E_a1.ext E1) (F_occupied_a1.ext E1) (F_uncovered_a1.ext E1) (A_bo.ext E1) (A_x0.ext E1) (A_x1.ext E1) (A_x2.ext E1) (A_bu.ext E1) Fn1 hz) e1 (E_a1.ext E1) rfl rfl pd_3 rfl d_prog_6_6_7 (by rw [hml]; rfl) rfl (by decide) (by decide) (Nat.le_of_ble_eq_true rfl) (by decide) (by decide) fun v2 T2 L2 X2 q2 => ?_
  obtain ⟨rfl, e2, rfl⟩ := q2
  replace X2 := own_px X2
  refine k_some K (w := (.int (MCV p0 p1 p2))) ?_
  exact Go.retI X2 hx hby hlk hret d_prog_6_6_10 (by decide) (by decide) (by rw [e2]; exact ⟨rfl, N0, ((Keep.refl h0 []).ext E1)⟩)
theorem d_prog_6_10_0 : decode prog_6_method_10_code 0 = .ok (.iconst 0, 1) := by decide +kernel
theorem d_prog_6_10_1 : decode prog_6_method_10_code 1 = .ok (.istore_n 2, 1) := by decide +kernel
theorem d_prog_6_10_2 : decode prog_6_method_10_code 2 = .ok (.aload_n 0, 1) := by decide +kernel
theorem d_prog_6_10_3 : decode prog_6_method_10_code 3 = .ok (.getfield 11, 3) := by decide +kernel
theorem d_prog_6_10_6 : decode prog_6_method_10_code 6 = .ok (.iload_n 1, 1) := by decide +kernel
theorem d_prog_6_10_7 : decode prog_6_method_10_code 7 = .ok (.aaload, 1) := by decide +kernel
theorem d_prog_6_10_8 : decode prog_6_method_10_code 8 = .ok (.iload_n 2, 1) := by decide +kernel
theorem d_prog_6_10_9 : decode prog_6_method_10_code 9 = .ok (.baload, 1) := by decide +kernel
theorem d_prog_6_10_10 : decode prog_6_method_10_code 10 = .ok (.ifCond .ne 9, 3) := by decide +kernel
theorem d_prog_6_10_19 : decode prog_6_method_10_code 19 = .ok (.aload_n 0, 1) := by decide +kernel
theorem d_prog_6_10_20 : decode prog_6_method_10_code 20 = .ok (.getfield 11, 3) := by decide +kernel
theorem d_prog_6_10_23 : decode prog_6_method_10_code 23 = .ok (.iload_n 1, 1) := by decide +kernel
theorem d_prog_6_10_24 : decode prog_6_method_10_code 24 = .ok (.aaload, 1) := by decide +kernel
theorem d_prog_6_10_25 : decode prog_6_method_10_code 25 = .ok (.iload_n 2, 1) := by decide +kernel
theorem d_prog_6_10_26 : decode prog_6_method_10_code 26 = .ok (.iconst 0, 1) := by decide +kernel
theorem d_prog_6_10_27 : decode prog_6_method_10_code 27 = .ok (.bastore, 1) := by decide +kernel
theorem d_prog_6_10_28 : decode prog_6_method_10_code 28 = .ok (.aload_n 0, 1) := by decide +kernel
theorem d_prog_6_10_29 : decode prog_6_method_10_code 29 = .ok (.getfield 14, 3) := by decide +kernel
theorem d_prog_6_10_32 : decode prog_6_method_10_code 32 = .ok (.iload_n 1, 1) := by decide +kernel
theorem d_prog_6_10_33 : decode prog_6_method_10_code 33 = .ok (.dup2, 1) := by decide +kernel
theorem d_prog_6_10_34 : decode prog_6_method_10_code 34 = .ok (.baload, 1) := by decide +kernel
theorem d_prog_6_10_35 : decode prog_6_method_10_code 35 = .ok (.iload_n 2, 1) := by decide +kernel
theorem d_prog_6_10_36 : decode prog_6_method_10_code 36 = .ok (.iconst 4, 1) := by decide +kernel
theorem d_prog_6_10_37 : decode prog_6_method_10_code 37 = .ok (.if_icmp .ne 7, 3) := by decide +kernel
theorem d_prog_6_10_44 : decode prog_6_method_10_code 44 = .ok (.iconst 0, 1) := by decide +kernel
theorem d_prog_6_10_45 : decode prog_6_method_10_code 45 = .ok (.ior, 1) := by decide +kernel
theorem d_prog_6_10_46 : decode prog_6_method_10_code 46 = .ok (.bastore, 1) := by decide +kernel
theorem d_prog_6_10_47 : decode prog_6_method_10_code 47 = .ok (.return_, 1) := by decide +kernel
theorem eftk0 (m : MethodId) (x0 : Addr) (x1 : Int32) : entryFrame m #[(.ref x0), (.int x1)] 3 = mkF m 0 #[.val (.ref x0), .val (.int x1), .unset] [] := by first | (simp [entryFrame, mkF, argsToLocals, Value.category]; done) | rfl
set_option maxRecDepth 65536 in
set_option maxHeartbeats 40000000 in
theorem ctk0 (l : Launch) (Z : State) (a0 : Array Value) (hw : ∀ d ∈ tables_1, d.before a0 Z = true) (a1 : Addr) (j : Int32) (bo : Addr) (bu : Addr) (xk : Addr) (os : (List Value)) (ub : (List Value)) (h0 : Heap) (n0 : Nat) (Z0 : n0 ≤ h0.size) (E_a1 : Exa Z h0 a1 "com/example/craterworks/craterworks/SharesStation") (F_occupied_a1 : Fld Z h0 a1 "com/example/craterworks/craterworks/SharesStation" "occupied" "[[Z" (.ref bo)) (F_uncovered_a1 : Fld Z h0 a1 "com/example/craterworks/craterworks/SharesStation" "uncovered" "[Z" (.ref bu)) (A_bo : Av Z h0 bo (.array .boolean) os) (A_xk : Av Z h0 xk .boolean [(.int (1 : Int32)), (.int (1 : Int32)), (.int (1 : Int32)), (.int (1 : Int32)), (.int (1 : Int32))]) (A_bu : Av Z h0 bu .boolean ub) (g_xk : n0 ≤ xk) (g_bu : n0 ≤ bu) (ne_a1_xk : a1 ≠ xk) (ne_a1_bu : a1 ≠ bu) (ne_bo_xk : bo ≠ xk) (ne_bo_bu : bo ≠ bu) (ne_xk_bu : xk ≠ bu) (hj0 : ¬ j < 0) (hj : os[j.toNatClampNeg]? = some (.ref xk)) (hu : ub[j.toNatClampNeg]? = some (.int (0 : Int32))) :
    Con l Z (⟨"com/example/craterworks/craterworks/SharesStation", "take", "(I)V"⟩ : MethodName) prog_6_method_10_code 3 none ({ frames := 0, cells := 0, slots := 0, locals := 0 } : Room) [] #[(.ref a1), (.int j)] h0 (fun v h L => v = none ∧ Fr n0 L ∧ Keep h0 h [xk, bu] ∧ Av Z h xk .boolean [(.int (0 : Int32)), (.int (1 : Int32)), (.int (1 : Int32)), (.int (1 : Int32)), (.int (1 : Int32))] ∧ Av Z h bu .boolean (ub.set j.toNatClampNeg (.int (nar .boolean (0 : Int32))))) := by
  refine Con.of (plainFor_of_name pn_com_example_craterworks_craterworks_SharesStation) #[.val (.ref a1), .val (.int j), .unset] (fun m => eftk0 m a1 j) ?_
  intro p e s m below meth c s₁ K hx hby hml hown hnm hret hlk hZ X0 e0 hnd
  have N0 := Fr.nil n0
  refine m_iconst K X0.here hx hby (0 : Int32) d_prog_6_10_0 rfl rfl ?_
  refine m_istoreN K X0.here hx hby #[.val (.ref a1), .val (.int j), .val (.int (0 : Int32))] d_prog_6_10_1 rfl rfl ?_
  refine m_aloadN K X0.here hx hby d_prog_6_10_2 rfl rfl rfl ?_
  refine k_getF K X0 hx hby hZ hown (host := "") (Or.inl (hw _ (List.mem_of_getElem? (i := 101) rfl))) Via.refl e0 F_occupied_a1 d_prog_6_10_3 rfl fun T1 X1 e1 => ?_
  refine m_iloadN K X1.here hx hby d_prog_6_10_6 rfl rfl ?_
  refine k_ldR K X1 hx hby hZ e1 rfl A_bo (v := (.ref xk)) hj0 hj d_prog_6_10_7 rfl ?_
  refine m_iloadN K X1.here hx hby d_prog_6_10_8 rfl rfl ?_
  refine k_ldZ K X1 hx hby hZ e1 A_xk (v := (.int (1 : Int32))) (by decide) rfl d_prog_6_10_9 rfl ?_
  refine m_ifY K X1.here hx hby (q := 19) d_prog_6_10_10 ((if0 _ _).trans (feq (by decide : ¬ ((1 : Int32) = (0 : Int32)))).2) (by decide) rfl ?_
  refine m_aloadN K X1.here hx hby d_prog_6_10_19 rfl rfl rfl ?_
  refine k_getF K X1 hx hby hZ hown (host := "") (Or.inl (hw _ (List.mem_of_getElem? (i := 101) rfl))) Via.refl e1 F_occupied_a1 d_prog_6_10_20 rfl fun T2 X2 e2 => ?_
  refine m_iloadN K X2.here hx hby d_prog_6_10_23 rfl rfl ?_
  refine k_ldR K X2 hx hby hZ e2 rfl A_bo (v := (.ref xk)) hj0 hj d_prog_6_10_24 rfl ?_
  refine m_iloadN K X2.here hx hby d_prog_6_10_25 rfl rfl ?_
  refine m_iconst K X2.here hx hby (0 : Int32) d_prog_6_10_26 rfl rfl ?_
  refine k_stZ K X2 hx hby hZ e2 A_xk (by decide) (Nat.le_of_ble_eq_true rfl) d_prog_6_10_27 rfl fun T3 h3 X3 e3 W3 V3 => ?_
  replace V3 : Av Z h3 xk .boolean [(.int (0 : Int32)), (.int (1 : Int32)), (.int (1 : Int32)), (.int (1 : Int32)), (.int (1 : Int32))] := V3
  have N3 := Fr.snoc X3 N0 g_xk
  refine m_aloadN K X3.here hx hby d_prog_6_10_28 rfl rfl rfl ?_
  refine k_getF K X3 hx hby hZ hown (host := "") (Or.inl (hw _ (List.mem_of_getElem? (i := 103) rfl))) Via.refl e3 (F_uncovered_a1.other W3 (Or.inl ne_a1_xk)) d_prog_6_10_29 rfl fun T4 X4 e4 => ?_
  refine m_iloadN K X4.here hx hby d_prog_6_10_32 rfl rfl ?_
  refine m_dup2 K X4.here hx hby d_prog_6_10_33 rfl rfl rfl ?_
  refine k_ldZ K X4 hx hby hZ e4 (A_bu.other W3 (Ne.symm ne_xk_bu)) (v := (.int (0 : Int32))) hj0 hu d_prog_6_10_34 rfl ?_
  refine m_iloadN K X4.here hx hby d_prog_6_10_35 rfl rfl ?_
  refine m_iconst K X4.here hx hby (4 : Int32) d_prog_6_10_36 rfl rfl ?_
  refine m_icmpY K X4.here hx hby (q := 44) d_prog_6_10_37 (feq (by decide : ¬ ((0 : Int32) = (4 : Int32)))).2 (by decide) rfl ?_
  refine m_iconst K X4.here hx hby (0 : Int32) d_prog_6_10_44 rfl rfl ?_
  refine m_ior K X4.here hx hby (0 : Int32) d_prog_6_10_45 rfl rfl ?_
  refine k_stZ K X4 hx hby hZ e4 (A_bu.other W3 (Ne.symm ne_xk_bu)) hj0 (own_ltl0 hu) d_prog_6_10_46 rfl fun T5 h5 X5 e5 W5 V5 => ?_
  have N5 := Fr.snoc X5 N3 g_bu
  exact Go.retV X5 hx hby hlk hret d_prog_6_10_47 (by decide) (by decide) (by rw [e5]; exact ⟨rfl, N5, (((Keep.refl h0 [xk, bu]).wr W3 (Or.inl (by simp))).wr W5 (Or.inl (by simp))), (V3.other W5 ne_xk_bu), V5⟩)
theorem d_prog_6_10_13 : decode prog_6_method_10_code 13 = .ok (.iinc 2 1, 3) := by decide +kernel
theorem d_prog_6_10_16 : decode prog_6_method_10_code 16 = .ok (.goto (-14), 3) := by decide +kernel
theorem eftk1 (m : MethodId) (x0 : Addr) (x1 : Int32) : entryFrame m #[(.ref x0), (.int x1)] 3 = mkF m 0 #[.val (.ref x0), .val (.int x1), .unset] [] := by first | (simp [entryFrame, mkF, argsToLocals, Value.category]; done) | rfl
set_option maxRecDepth 65536 in
set_option maxHeartbeats 40000000 in
theorem ctk1 (l : Launch) (Z : State) (a0 : Array Value) (hw : ∀ d ∈ tables_1, d.before a0 Z = true) (a1 : Addr) (j : Int32) (bo : Addr) (bu : Addr) (xk : Addr) (os : (List Value)) (ub : (List Value)) (h0 : Heap) (n0 : Nat) (Z0 : n0 ≤ h0.size) (E_a1 : Exa Z h0 a1 "com/example/craterworks/craterworks/SharesStation") (F_occupied_a1 : Fld Z h0 a1 "com/example/craterworks/craterworks/SharesStation" "occupied" "[[Z" (.ref bo)) (F_uncovered_a1 : Fld Z h0 a1 "com/example/craterworks/craterworks/SharesStation" "uncovered" "[Z" (.ref bu)) (A_bo : Av Z h0 bo (.array .boolean) os) (A_xk : Av Z h0 xk .boolean [(.int (0 : Int32)), (.int (1 : Int32)), (.int (1 : Int32)), (.int (1 : Int32)), (.int (1 : Int32))]) (A_bu : Av Z h0 bu .boolean ub) (g_xk : n0 ≤ xk) (g_bu : n0 ≤ bu) (ne_a1_xk : a1 ≠ xk) (ne_a1_bu : a1 ≠ bu) (ne_bo_xk : bo ≠ xk) (ne_bo_bu : bo ≠ bu) (ne_xk_bu : xk ≠ bu) (hj0 : ¬ j < 0) (hj : os[j.toNatClampNeg]? = some (.ref xk)) (hu : ub[j.toNatClampNeg]? = some (.int (0 : Int32))) :
    Con l Z (⟨"com/example/craterworks/craterworks/SharesStation", "take", "(I)V"⟩ : MethodName) prog_6_method_10_code 3 none ({ frames := 0, cells := 0, slots := 0, locals := 0 } : Room) [] #[(.ref a1), (.int j)] h0 (fun v h L => v = none ∧ Fr n0 L ∧ Keep h0 h [xk, bu] ∧ Av Z h xk .boolean [(.int (0 : Int32)), (.int (0 : Int32)), (.int (1 : Int32)), (.int (1 : Int32)), (.int (1 : Int32))] ∧ Av Z h bu .boolean (ub.set j.toNatClampNeg (.int (nar .boolean (0 : Int32))))) := by
  refine Con.of (plainFor_of_name pn_com_example_craterworks_craterworks_SharesStation) #[.val (.ref a1), .val (.int j), .unset] (fun m => eftk1 m a1 j) ?_
  intro p e s m below meth c s₁ K hx hby hml hown hnm hret hlk hZ X0 e0 hnd
  have N0 := Fr.nil n0
  refine m_iconst K X0.here hx hby (0 : Int32) d_prog_6_10_0 rfl rfl ?_
  refine m_istoreN K X0.here hx hby #[.val (.ref a1), .val (.int j), .val (.int (0 : Int32))] d_prog_6_10_1 rfl rfl ?_
  refine m_aloadN K X0.here hx hby d_prog_6_10_2 rfl rfl rfl ?_
  refine k_getF K X0 hx hby hZ hown (host := "") (Or.inl (hw _ (List.mem_of_getElem? (i := 101) rfl))) Via.refl e0 F_occupied_a1 d_prog_6_10_3 rfl fun T1 X1 e1 => ?_
  refine m_iloadN K X1.here hx hby d_prog_6_10_6 rfl rfl ?_
  refine k_ldR K X1 hx hby hZ e1 rfl A_bo (v := (.ref xk)) hj0 hj d_prog_6_10_7 rfl ?_
  refine m_iloadN K X1.here hx hby d_prog_6_10_8 rfl rfl ?_
  refine k_ldZ K X1 hx hby hZ e1 A_xk (v := (.int (0 : Int32))) (by decide) rfl d_prog_6_10_9 rfl ?_
  refine m_ifN K X1.here hx hby (q := 13) d_prog_6_10_10 ((if0 _ _).trans (teq (by decide : (0 : Int32) = (0 : Int32))).2) rfl ?_
  refine m_iinc K X1.here hx hby #[.val (.ref a1), .val (.int j), .val (.int (1 : Int32))] d_prog_6_10_13 rfl rfl rfl ?_
  refine m_goto K X1.here hx hby (q := 2) d_prog_6_10_16 (by decide) rfl ?_
  refine m_aloadN K X1.here hx hby d_prog_6_10_2 rfl rfl rfl ?_
  refine k_getF K X1 hx hby hZ hown (host := "") (Or.inl (hw _ (List.mem_of_getElem? (i := 101) rfl))) Via.refl e1 F_occupied_a1 d_prog_6_10_3 rfl fun T2 X2 e2 => ?_
  refine m_iloadN K X2.here hx hby d_prog_6_10_6 rfl rfl ?_
  refine k_ldR K X2 hx hby hZ e2 rfl A_bo (v := (.ref xk)) hj0 hj d_prog_6_10_7 rfl ?_
  refine m_iloadN K X2.here hx hby d_prog_6_10_8 rfl rfl ?_
  refine k_ldZ K X2 hx hby hZ e2 A_xk (v := (.int (1 : Int32))) (by decide) rfl d_prog_6_10_9 rfl ?_
  refine m_ifY K X2.here hx hby (q := 19) d_prog_6_10_10 ((if0 _ _).trans (feq (by decide : ¬ ((1 : Int32) = (0 : Int32)))).2) (by decide) rfl ?_
  refine m_aloadN K X2.here hx hby d_prog_6_10_19 rfl rfl rfl ?_
  refine k_getF K X2 hx hby hZ hown (host := "") (Or.inl (hw _ (List.mem_of_getElem? (i := 101) rfl))) Via.refl e2 F_occupied_a1 d_prog_6_10_20 rfl fun T3 X3 e3 => ?_
  refine m_iloadN K X3.here hx hby d_prog_6_10_23 rfl rfl ?_
  refine k_ldR K X3 hx hby hZ e3 rfl A_bo (v := (.ref xk)) hj0 hj d_prog_6_10_24 rfl ?_
  refine m_iloadN K X3.here hx hby d_prog_6_10_25 rfl rfl ?_
  refine m_iconst K X3.here hx hby (0 : Int32) d_prog_6_10_26 rfl rfl ?_
  refine k_stZ K X3 hx hby hZ e3 A_xk (by decide) (Nat.le_of_ble_eq_true rfl) d_prog_6_10_27 rfl fun T4 h4 X4 e4 W4 V4 => ?_
  replace V4 : Av Z h4 xk .boolean [(.int (0 : Int32)), (.int (0 : Int32)), (.int (1 : Int32)), (.int (1 : Int32)), (.int (1 : Int32))] := V4
  have N4 := Fr.snoc X4 N0 g_xk
  refine m_aloadN K X4.here hx hby d_prog_6_10_28 rfl rfl rfl ?_
  refine k_getF K X4 hx hby hZ hown (host := "") (Or.inl (hw _ (List.mem_of_getElem? (i := 103) rfl))) Via.refl e4 (F_uncovered_a1.other W4 (Or.inl ne_a1_xk)) d_prog_6_10_29 rfl fun T5 X5 e5 => ?_
  refine m_iloadN K X5.here hx hby d_prog_6_10_32 rfl rfl ?_
  refine m_dup2 K X5.here hx hby d_prog_6_10_33 rfl rfl rfl ?_
  refine k_ldZ K X5 hx hby hZ e5 (A_bu.other W4 (Ne.symm ne_xk_bu)) (v := (.int (0 : Int32))) hj0 hu d_prog_6_10_34 rfl ?_
  refine m_iloadN K X5.here hx hby d_prog_6_10_35 rfl rfl ?_
  refine m_iconst K X5.here hx hby (4 : Int32) d_prog_6_10_36 rfl rfl ?_
  refine m_icmpY K X5.here hx hby (q := 44) d_prog_6_10_37 (feq (by decide : ¬ ((1 : Int32) = (4 : Int32)))).2 (by decide) rfl ?_
  refine m_iconst K X5.here hx hby (0 : Int32) d_prog_6_10_44 rfl rfl ?_
  refine m_ior K X5.here hx hby (0 : Int32) d_prog_6_10_45 rfl rfl ?_
  refine k_stZ K X5 hx hby hZ e5 (A_bu.other W4 (Ne.symm ne_xk_bu)) hj0 (own_ltl0 hu) d_prog_6_10_46 rfl fun T6 h6 X6 e6 W6 V6 => ?_
  have N6 := Fr.snoc X6 N4 g_bu
  exact Go.retV X6 hx hby hlk hret d_prog_6_10_47 (by decide) (by decide) (by rw [e6]; exact ⟨rfl, N6, (((Keep.refl h0 [xk, bu]).wr W4 (Or.inl (by simp))).wr W6 (Or.inl (by simp))), (V4.other W6 ne_xk_bu), V6⟩)
theorem eftk2 (m : MethodId) (x0 : Addr) (x1 : Int32) : entryFrame m #[(.ref x0), (.int x1)] 3 = mkF m 0 #[.val (.ref x0), .val (.int x1), .unset] [] := by first | (simp [entryFrame, mkF, argsToLocals, Value.category]; done) | rfl
set_option maxRecDepth 65536 in
set_option maxHeartbeats 40000000 in
theorem ctk2 (l : Launch) (Z : State) (a0 : Array Value) (hw : ∀ d ∈ tables_1, d.before a0 Z = true) (a1 : Addr) (j : Int32) (bo : Addr) (bu : Addr) (xk : Addr) (os : (List Value)) (ub : (List Value)) (h0 : Heap) (n0 : Nat) (Z0 : n0 ≤ h0.size) (E_a1 : Exa Z h0 a1 "com/example/craterworks/craterworks/SharesStation") (F_occupied_a1 : Fld Z h0 a1 "com/example/craterworks/craterworks/SharesStation" "occupied" "[[Z" (.ref bo)) (F_uncovered_a1 : Fld Z h0 a1 "com/example/craterworks/craterworks/SharesStation" "uncovered" "[Z" (.ref bu)) (A_bo : Av Z h0 bo (.array .boolean) os) (A_xk : Av Z h0 xk .boolean [(.int (0 : Int32)), (.int (0 : Int32)), (.int (1 : Int32)), (.int (1 : Int32)), (.int (1 : Int32))]) (A_bu : Av Z h0 bu .boolean ub) (g_xk : n0 ≤ xk) (g_bu : n0 ≤ bu) (ne_a1_xk : a1 ≠ xk) (ne_a1_bu : a1 ≠ bu) (ne_bo_xk : bo ≠ xk) (ne_bo_bu : bo ≠ bu) (ne_xk_bu : xk ≠ bu) (hj0 : ¬ j < 0) (hj : os[j.toNatClampNeg]? = some (.ref xk)) (hu : ub[j.toNatClampNeg]? = some (.int (0 : Int32))) :
    Con l Z (⟨"com/example/craterworks/craterworks/SharesStation", "take", "(I)V"⟩ : MethodName) prog_6_method_10_code 3 none ({ frames := 0, cells := 0, slots := 0, locals := 0 } : Room) [] #[(.ref a1), (.int j)] h0 (fun v h L => v = none ∧ Fr n0 L ∧ Keep h0 h [xk, bu] ∧ Av Z h xk .boolean [(.int (0 : Int32)), (.int (0 : Int32)), (.int (0 : Int32)), (.int (1 : Int32)), (.int (1 : Int32))] ∧ Av Z h bu .boolean (ub.set j.toNatClampNeg (.int (nar .boolean (0 : Int32))))) := by
  refine Con.of (plainFor_of_name pn_com_example_craterworks_craterworks_SharesStation) #[.val (.ref a1), .val (.int j), .unset] (fun m => eftk2 m a1 j) ?_
  intro p e s m below meth c s₁ K hx hby hml hown hnm hret hlk hZ X0 e0 hnd
  have N0 := Fr.nil n0
  refine m_iconst K X0.here hx hby (0 : Int32) d_prog_6_10_0 rfl rfl ?_
  refine m_istoreN K X0.here hx hby #[.val (.ref a1), .val (.int j), .val (.int (0 : Int32))] d_prog_6_10_1 rfl rfl ?_
  refine m_aloadN K X0.here hx hby d_prog_6_10_2 rfl rfl rfl ?_
  refine k_getF K X0 hx hby hZ hown (host := "") (Or.inl (hw _ (List.mem_of_getElem? (i := 101) rfl))) Via.refl e0 F_occupied_a1 d_prog_6_10_3 rfl fun T1 X1 e1 => ?_
  refine m_iloadN K X1.here hx hby d_prog_6_10_6 rfl rfl ?_
  refine k_ldR K X1 hx hby hZ e1 rfl A_bo (v := (.ref xk)) hj0 hj d_prog_6_10_7 rfl ?_
  refine m_iloadN K X1.here hx hby d_prog_6_10_8 rfl rfl ?_
  refine k_ldZ K X1 hx hby hZ e1 A_xk (v := (.int (0 : Int32))) (by decide) rfl d_prog_6_10_9 rfl ?_
  refine m_ifN K X1.here hx hby (q := 13) d_prog_6_10_10 ((if0 _ _).trans (teq (by decide : (0 : Int32) = (0 : Int32))).2) rfl ?_
  refine m_iinc K X1.here hx hby #[.val (.ref a1), .val (.int j), .val (.int (1 : Int32))] d_prog_6_10_13 rfl rfl rfl ?_
  refine m_goto K X1.here hx hby (q := 2) d_prog_6_10_16 (by decide) rfl ?_
  refine m_aloadN K X1.here hx hby d_prog_6_10_2 rfl rfl rfl ?_
  refine k_getF K X1 hx hby hZ hown (host := "") (Or.inl (hw _ (List.mem_of_getElem? (i := 101) rfl))) Via.refl e1 F_occupied_a1 d_prog_6_10_3 rfl fun T2 X2 e2 => ?_
  refine m_iloadN K X2.here hx hby d_prog_6_10_6 rfl rfl ?_
  refine k_ldR K X2 hx hby hZ e2 rfl A_bo (v := (.ref xk)) hj0 hj d_prog_6_10_7 rfl ?_
  refine m_iloadN K X2.here hx hby d_prog_6_10_8 rfl rfl ?_
  refine k_ldZ K X2 hx hby hZ e2 A_xk (v := (.int (0 : Int32))) (by decide) rfl d_prog_6_10_9 rfl ?_
  refine m_ifN K X2.here hx hby (q := 13) d_prog_6_10_10 ((if0 _ _).trans (teq (by decide : (0 : Int32) = (0 : Int32))).2) rfl ?_
  refine m_iinc K X2.here hx hby #[.val (.ref a1), .val (.int j), .val (.int (2 : Int32))] d_prog_6_10_13 rfl rfl rfl ?_
  refine m_goto K X2.here hx hby (q := 2) d_prog_6_10_16 (by decide) rfl ?_
  refine m_aloadN K X2.here hx hby d_prog_6_10_2 rfl rfl rfl ?_
  refine k_getF K X2 hx hby hZ hown (host := "") (Or.inl (hw _ (List.mem_of_getElem? (i := 101) rfl))) Via.refl e2 F_occupied_a1 d_prog_6_10_3 rfl fun T3 X3 e3 => ?_
  refine m_iloadN K X3.here hx hby d_prog_6_10_6 rfl rfl ?_
  refine k_ldR K X3 hx hby hZ e3 rfl A_bo (v := (.ref xk)) hj0 hj d_prog_6_10_7 rfl ?_
  refine m_iloadN K X3.here hx hby d_prog_6_10_8 rfl rfl ?_
  refine k_ldZ K X3 hx hby hZ e3 A_xk (v := (.int (1 : Int32))) (by decide) rfl d_prog_6_10_9 rfl ?_
  refine m_ifY K X3.here hx hby (q := 19) d_prog_6_10_10 ((if0 _ _).trans (feq (by decide : ¬ ((1 : Int32) = (0 : Int32)))).2) (by decide) rfl ?_
  refine m_aloadN K X3.here hx hby d_prog_6_10_19 rfl rfl rfl ?_
  refine k_getF K X3 hx hby hZ hown (host := "") (Or.inl (hw _ (List.mem_of_getElem? (i := 101) rfl))) Via.refl e3 F_occupied_a1 d_prog_6_10_20 rfl fun T4 X4 e4 => ?_
  refine m_iloadN K X4.here hx hby d_prog_6_10_23 rfl rfl ?_
  refine k_ldR K X4 hx hby hZ e4 rfl A_bo (v := (.ref xk)) hj0 hj d_prog_6_10_24 rfl ?_
  refine m_iloadN K X4.here hx hby d_prog_6_10_25 rfl rfl ?_
  refine m_iconst K X4.here hx hby (0 : Int32) d_prog_6_10_26 rfl rfl ?_
  refine k_stZ K X4 hx hby hZ e4 A_xk (by decide) (Nat.le_of_ble_eq_true rfl) d_prog_6_10_27 rfl fun T5 h5 X5 e5 W5 V5 => ?_
  replace V5 : Av Z h5 xk .boolean [(.int (0 : Int32)), (.int (0 : Int32)), (.int (0 : Int32)), (.int (1 : Int32)), (.int (1 : Int32))] := V5
  have N5 := Fr.snoc X5 N0 g_xk
  refine m_aloadN K X5.here hx hby d_prog_6_10_28 rfl rfl rfl ?_
  refine k_getF K X5 hx hby hZ hown (host := "") (Or.inl (hw _ (List.mem_of_getElem? (i := 103) rfl))) Via.refl e5 (F_uncovered_a1.other W5 (Or.inl ne_a1_xk)) d_prog_6_10_29 rfl fun T6 X6 e6 => ?_
  refine m_iloadN K X6.here hx hby d_prog_6_10_32 rfl rfl ?_
  refine m_dup2 K X6.here hx hby d_prog_6_10_33 rfl rfl rfl ?_
  refine k_ldZ K X6 hx hby hZ e6 (A_bu.other W5 (Ne.symm ne_xk_bu)) (v := (.int (0 : Int32))) hj0 hu d_prog_6_10_34 rfl ?_
  refine m_iloadN K X6.here hx hby d_prog_6_10_35 rfl rfl ?_
  refine m_iconst K X6.here hx hby (4 : Int32) d_prog_6_10_36 rfl rfl ?_
  refine m_icmpY K X6.here hx hby (q := 44) d_prog_6_10_37 (feq (by decide : ¬ ((2 : Int32) = (4 : Int32)))).2 (by decide) rfl ?_
  refine m_iconst K X6.here hx hby (0 : Int32) d_prog_6_10_44 rfl rfl ?_
  refine m_ior K X6.here hx hby (0 : Int32) d_prog_6_10_45 rfl rfl ?_
  refine k_stZ K X6 hx hby hZ e6 (A_bu.other W5 (Ne.symm ne_xk_bu)) hj0 (own_ltl0 hu) d_prog_6_10_46 rfl fun T7 h7 X7 e7 W7 V7 => ?_
  have N7 := Fr.snoc X7 N5 g_bu
  exact Go.retV X7 hx hby hlk hret d_prog_6_10_47 (by decide) (by decide) (by rw [e7]; exact ⟨rfl, N7, (((Keep.refl h0 [xk, bu]).wr W5 (Or.inl (by simp))).wr W7 (Or.inl (by simp))), (V5.other W7 ne_xk_bu), V7⟩)
theorem eftk3 (m : MethodId) (x0 : Addr) (x1 : Int32) : entryFrame m #[(.ref x0), (.int x1)] 3 = mkF m 0 #[.val (.ref x0), .val (.int x1), .unset] [] := by first | (simp [entryFrame, mkF, argsToLocals, Value.category]; done) | rfl
set_option maxRecDepth 65536 in
set_option maxHeartbeats 40000000 in
theorem ctk3 (l : Launch) (Z : State) (a0 : Array Value) (hw : ∀ d ∈ tables_1, d.before a0 Z = true) (a1 : Addr) (j : Int32) (bo : Addr) (bu : Addr) (xk : Addr) (os : (List Value)) (ub : (List Value)) (h0 : Heap) (n0 : Nat) (Z0 : n0 ≤ h0.size) (E_a1 : Exa Z h0 a1 "com/example/craterworks/craterworks/SharesStation") (F_occupied_a1 : Fld Z h0 a1 "com/example/craterworks/craterworks/SharesStation" "occupied" "[[Z" (.ref bo)) (F_uncovered_a1 : Fld Z h0 a1 "com/example/craterworks/craterworks/SharesStation" "uncovered" "[Z" (.ref bu)) (A_bo : Av Z h0 bo (.array .boolean) os) (A_xk : Av Z h0 xk .boolean [(.int (0 : Int32)), (.int (0 : Int32)), (.int (0 : Int32)), (.int (1 : Int32)), (.int (1 : Int32))]) (A_bu : Av Z h0 bu .boolean ub) (g_xk : n0 ≤ xk) (g_bu : n0 ≤ bu) (ne_a1_xk : a1 ≠ xk) (ne_a1_bu : a1 ≠ bu) (ne_bo_xk : bo ≠ xk) (ne_bo_bu : bo ≠ bu) (ne_xk_bu : xk ≠ bu) (hj0 : ¬ j < 0) (hj : os[j.toNatClampNeg]? = some (.ref xk)) (hu : ub[j.toNatClampNeg]? = some (.int (0 : Int32))) :
    Con l Z (⟨"com/example/craterworks/craterworks/SharesStation", "take", "(I)V"⟩ : MethodName) prog_6_method_10_code 3 none ({ frames := 0, cells := 0, slots := 0, locals := 0 } : Room) [] #[(.ref a1), (.int j)] h0 (fun v h L => v = none ∧ Fr n0 L ∧ Keep h0 h [xk, bu] ∧ Av Z h xk .boolean [(.int (0 : Int32)), (.int (0 : Int32)), (.int (0 : Int32)), (.int (0 : Int32)), (.int (1 : Int32))] ∧ Av Z h bu .boolean (ub.set j.toNatClampNeg (.int (nar .boolean (0 : Int32))))) := by
  refine Con.of (plainFor_of_name pn_com_example_craterworks_craterworks_SharesStation) #[.val (.ref a1), .val (.int j), .unset] (fun m => eftk3 m a1 j) ?_
  intro p e s m below meth c s₁ K hx hby hml hown hnm hret hlk hZ X0 e0 hnd
  have N0 := Fr.nil n0
  refine m_iconst K X0.here hx hby (0 : Int32) d_prog_6_10_0 rfl rfl ?_
  refine m_istoreN K X0.here hx hby #[.val (.ref a1), .val (.int j), .val (.int (0 : Int32))] d_prog_6_10_1 rfl rfl ?_
  refine m_aloadN K X0.here hx hby d_prog_6_10_2 rfl rfl rfl ?_
  refine k_getF K X0 hx hby hZ hown (host := "") (Or.inl (hw _ (List.mem_of_getElem? (i := 101) rfl))) Via.refl e0 F_occupied_a1 d_prog_6_10_3 rfl fun T1 X1 e1 => ?_
  refine m_iloadN K X1.here hx hby d_prog_6_10_6 rfl rfl ?_
  refine k_ldR K X1 hx hby hZ e1 rfl A_bo (v := (.ref xk)) hj0 hj d_prog_6_10_7 rfl ?_
  refine m_iloadN K X1.here hx hby d_prog_6_10_8 rfl rfl ?_
  refine k_ldZ K X1 hx hby hZ e1 A_xk (v := (.int (0 : Int32))) (by decide) rfl d_prog_6_10_9 rfl ?_
  refine m_ifN K X1.here hx hby (q := 13) d_prog_6_10_10 ((if0 _ _).trans (teq (by decide : (0 : Int32) = (0 : Int32))).2) rfl ?_
  refine m_iinc K X1.here hx hby #[.val (.ref a1), .val (.int j), .val (.int (1 : Int32))] d_prog_6_10_13 rfl rfl rfl ?_
  refine m_goto K X1.here hx hby (q := 2) d_prog_6_10_16 (by decide) rfl ?_
  refine m_aloadN K X1.here hx hby d_prog_6_10_2 rfl rfl rfl ?_
  refine k_getF K X1 hx hby hZ hown (host := "") (Or.inl (hw _ (List.mem_of_getElem? (i := 101) rfl))) Via.refl e1 F_occupied_a1 d_prog_6_10_3 rfl fun T2 X2 e2 => ?_
  refine m_iloadN K X2.here hx hby d_prog_6_10_6 rfl rfl ?_
  refine k_ldR K X2 hx hby hZ e2 rfl A_bo (v := (.ref xk)) hj0 hj d_prog_6_10_7 rfl ?_
  refine m_iloadN K X2.here hx hby d_prog_6_10_8 rfl rfl ?_
  refine k_ldZ K X2 hx hby hZ e2 A_xk (v := (.int (0 : Int32))) (by decide) rfl d_prog_6_10_9 rfl ?_
  refine m_ifN K X2.here hx hby (q := 13) d_prog_6_10_10 ((if0 _ _).trans (teq (by decide : (0 : Int32) = (0 : Int32))).2) rfl ?_
  refine m_iinc K X2.here hx hby #[.val (.ref a1), .val (.int j), .val (.int (2 : Int32))] d_prog_6_10_13 rfl rfl rfl ?_
  refine m_goto K X2.here hx hby (q := 2) d_prog_6_10_16 (by decide) rfl ?_
  refine m_aloadN K X2.here hx hby d_prog_6_10_2 rfl rfl rfl ?_
  refine k_getF K X2 hx hby hZ hown (host := "") (Or.inl (hw _ (List.mem_of_getElem? (i := 101) rfl))) Via.refl e2 F_occupied_a1 d_prog_6_10_3 rfl fun T3 X3 e3 => ?_
  refine m_iloadN K X3.here hx hby d_prog_6_10_6 rfl rfl ?_
  refine k_ldR K X3 hx hby hZ e3 rfl A_bo (v := (.ref xk)) hj0 hj d_prog_6_10_7 rfl ?_
  refine m_iloadN K X3.here hx hby d_prog_6_10_8 rfl rfl ?_
  refine k_ldZ K X3 hx hby hZ e3 A_xk (v := (.int (0 : Int32))) (by decide) rfl d_prog_6_10_9 rfl ?_
  refine m_ifN K X3.here hx hby (q := 13) d_prog_6_10_10 ((if0 _ _).trans (teq (by decide : (0 : Int32) = (0 : Int32))).2) rfl ?_
  refine m_iinc K X3.here hx hby #[.val (.ref a1), .val (.int j), .val (.int (3 : Int32))] d_prog_6_10_13 rfl rfl rfl ?_
  refine m_goto K X3.here hx hby (q := 2) d_prog_6_10_16 (by decide) rfl ?_
  refine m_aloadN K X3.here hx hby d_prog_6_10_2 rfl rfl rfl ?_
  refine k_getF K X3 hx hby hZ hown (host := "") (Or.inl (hw _ (List.mem_of_getElem? (i := 101) rfl))) Via.refl e3 F_occupied_a1 d_prog_6_10_3 rfl fun T4 X4 e4 => ?_
  refine m_iloadN K X4.here hx hby d_prog_6_10_6 rfl rfl ?_
  refine k_ldR K X4 hx hby hZ e4 rfl A_bo (v := (.ref xk)) hj0 hj d_prog_6_10_7 rfl ?_
  refine m_iloadN K X4.here hx hby d_prog_6_10_8 rfl rfl ?_
  refine k_ldZ K X4 hx hby hZ e4 A_xk (v := (.int (1 : Int32))) (by decide) rfl d_prog_6_10_9 rfl ?_
  refine m_ifY K X4.here hx hby (q := 19) d_prog_6_10_10 ((if0 _ _).trans (feq (by decide : ¬ ((1 : Int32) = (0 : Int32)))).2) (by decide) rfl ?_
  refine m_aloadN K X4.here hx hby d_prog_6_10_19 rfl rfl rfl ?_
  refine k_getF K X4 hx hby hZ hown (host := "") (Or.inl (hw _ (List.mem_of_getElem? (i := 101) rfl))) Via.refl e4 F_occupied_a1 d_prog_6_10_20 rfl fun T5 X5 e5 => ?_
  refine m_iloadN K X5.here hx hby d_prog_6_10_23 rfl rfl ?_
  refine k_ldR K X5 hx hby hZ e5 rfl A_bo (v := (.ref xk)) hj0 hj d_prog_6_10_24 rfl ?_
  refine m_iloadN K X5.here hx hby d_prog_6_10_25 rfl rfl ?_
  refine m_iconst K X5.here hx hby (0 : Int32) d_prog_6_10_26 rfl rfl ?_
  refine k_stZ K X5 hx hby hZ e5 A_xk (by decide) (Nat.le_of_ble_eq_true rfl) d_prog_6_10_27 rfl fun T6 h6 X6 e6 W6 V6 => ?_
  replace V6 : Av Z h6 xk .boolean [(.int (0 : Int32)), (.int (0 : Int32)), (.int (0 : Int32)), (.int (0 : Int32)), (.int (1 : Int32))] := V6
  have N6 := Fr.snoc X6 N0 g_xk
  refine m_aloadN K X6.here hx hby d_prog_6_10_28 rfl rfl rfl ?_
  refine k_getF K X6 hx hby hZ hown (host := "") (Or.inl (hw _ (List.mem_of_getElem? (i := 103) rfl))) Via.refl e6 (F_uncovered_a1.other W6 (Or.inl ne_a1_xk)) d_prog_6_10_29 rfl fun T7 X7 e7 => ?_
  refine m_iloadN K X7.here hx hby d_prog_6_10_32 rfl rfl ?_
  refine m_dup2 K X7.here hx hby d_prog_6_10_33 rfl rfl rfl ?_
  refine k_ldZ K X7 hx hby hZ e7 (A_bu.other W6 (Ne.symm ne_xk_bu)) (v := (.int (0 : Int32))) hj0 hu d_prog_6_10_34 rfl ?_
  refine m_iloadN K X7.here hx hby d_prog_6_10_35 rfl rfl ?_
  refine m_iconst K X7.here hx hby (4 : Int32) d_prog_6_10_36 rfl rfl ?_
  refine m_icmpY K X7.here hx hby (q := 44) d_prog_6_10_37 (feq (by decide : ¬ ((3 : Int32) = (4 : Int32)))).2 (by decide) rfl ?_
  refine m_iconst K X7.here hx hby (0 : Int32) d_prog_6_10_44 rfl rfl ?_
  refine m_ior K X7.here hx hby (0 : Int32) d_prog_6_10_45 rfl rfl ?_
  refine k_stZ K X7 hx hby hZ e7 (A_bu.other W6 (Ne.symm ne_xk_bu)) hj0 (own_ltl0 hu) d_prog_6_10_46 rfl fun T8 h8 X8 e8 W8 V8 => ?_
  have N8 := Fr.snoc X8 N6 g_bu
  exact Go.retV X8 hx hby hlk hret d_prog_6_10_47 (by decide) (by decide) (by rw [e8]; exact ⟨rfl, N8, (((Keep.refl h0 [xk, bu]).wr W6 (Or.inl (by simp))).wr W8 (Or.inl (by simp))), (V6.other W8 ne_xk_bu), V8⟩)
theorem d_prog_6_10_40 : decode prog_6_method_10_code 40 = .ok (.iconst 1, 1) := by decide +kernel
theorem d_prog_6_10_41 : decode prog_6_method_10_code 41 = .ok (.goto 4, 3) := by decide +kernel
theorem eftk4 (m : MethodId) (x0 : Addr) (x1 : Int32) : entryFrame m #[(.ref x0), (.int x1)] 3 = mkF m 0 #[.val (.ref x0), .val (.int x1), .unset] [] := by first | (simp [entryFrame, mkF, argsToLocals, Value.category]; done) | rfl
set_option maxRecDepth 65536 in
set_option maxHeartbeats 40000000 in
theorem ctk4 (l : Launch) (Z : State) (a0 : Array Value) (hw : ∀ d ∈ tables_1, d.before a0 Z = true) (a1 : Addr) (j : Int32) (bo : Addr) (bu : Addr) (xk : Addr) (os : (List Value)) (ub : (List Value)) (h0 : Heap) (n0 : Nat) (Z0 : n0 ≤ h0.size) (E_a1 : Exa Z h0 a1 "com/example/craterworks/craterworks/SharesStation") (F_occupied_a1 : Fld Z h0 a1 "com/example/craterworks/craterworks/SharesStation" "occupied" "[[Z" (.ref bo)) (F_uncovered_a1 : Fld Z h0 a1 "com/example/craterworks/craterworks/SharesStation" "uncovered" "[Z" (.ref bu)) (A_bo : Av Z h0 bo (.array .boolean) os) (A_xk : Av Z h0 xk .boolean [(.int (0 : Int32)), (.int (0 : Int32)), (.int (0 : Int32)), (.int (0 : Int32)), (.int (1 : Int32))]) (A_bu : Av Z h0 bu .boolean ub) (g_xk : n0 ≤ xk) (g_bu : n0 ≤ bu) (ne_a1_xk : a1 ≠ xk) (ne_a1_bu : a1 ≠ bu) (ne_bo_xk : bo ≠ xk) (ne_bo_bu : bo ≠ bu) (ne_xk_bu : xk ≠ bu) (hj0 : ¬ j < 0) (hj : os[j.toNatClampNeg]? = some (.ref xk)) (hu : ub[j.toNatClampNeg]? = some (.int (0 : Int32))) :
    Con l Z (⟨"com/example/craterworks/craterworks/SharesStation", "take", "(I)V"⟩ : MethodName) prog_6_method_10_code 3 none ({ frames := 0, cells := 0, slots := 0, locals := 0 } : Room) [] #[(.ref a1), (.int j)] h0 (fun v h L => v = none ∧ Fr n0 L ∧ Keep h0 h [xk, bu] ∧ Av Z h xk .boolean [(.int (0 : Int32)), (.int (0 : Int32)), (.int (0 : Int32)), (.int (0 : Int32)), (.int (0 : Int32))] ∧ Av Z h bu .boolean (ub.set j.toNatClampNeg (.int (nar .boolean (1 : Int32))))) := by
  refine Con.of (plainFor_of_name pn_com_example_craterworks_craterworks_SharesStation) #[.val (.ref a1), .val (.int j), .unset] (fun m => eftk4 m a1 j) ?_
  intro p e s m below meth c s₁ K hx hby hml hown hnm hret hlk hZ X0 e0 hnd
  have N0 := Fr.nil n0
  refine m_iconst K X0.here hx hby (0 : Int32) d_prog_6_10_0 rfl rfl ?_
  refine m_istoreN K X0.here hx hby #[.val (.ref a1), .val (.int j), .val (.int (0 : Int32))] d_prog_6_10_1 rfl rfl ?_
  refine m_aloadN K X0.here hx hby d_prog_6_10_2 rfl rfl rfl ?_
  refine k_getF K X0 hx hby hZ hown (host := "") (Or.inl (hw _ (List.mem_of_getElem? (i := 101) rfl))) Via.refl e0 F_occupied_a1 d_prog_6_10_3 rfl fun T1 X1 e1 => ?_
  refine m_iloadN K X1.here hx hby d_prog_6_10_6 rfl rfl ?_
  refine k_ldR K X1 hx hby hZ e1 rfl A_bo (v := (.ref xk)) hj0 hj d_prog_6_10_7 rfl ?_
  refine m_iloadN K X1.here hx hby d_prog_6_10_8 rfl rfl ?_
  refine k_ldZ K X1 hx hby hZ e1 A_xk (v := (.int (0 : Int32))) (by decide) rfl d_prog_6_10_9 rfl ?_
  refine m_ifN K X1.here hx hby (q := 13) d_prog_6_10_10 ((if0 _ _).trans (teq (by decide : (0 : Int32) = (0 : Int32))).2) rfl ?_
  refine m_iinc K X1.here hx hby #[.val (.ref a1), .val (.int j), .val (.int (1 : Int32))] d_prog_6_10_13 rfl rfl rfl ?_
  refine m_goto K X1.here hx hby (q := 2) d_prog_6_10_16 (by decide) rfl ?_
  refine m_aloadN K X1.here hx hby d_prog_6_10_2 rfl rfl rfl ?_
  refine k_getF K X1 hx hby hZ hown (host := "") (Or.inl (hw _ (List.mem_of_getElem? (i := 101) rfl))) Via.refl e1 F_occupied_a1 d_prog_6_10_3 rfl fun T2 X2 e2 => ?_
  refine m_iloadN K X2.here hx hby d_prog_6_10_6 rfl rfl ?_
  refine k_ldR K X2 hx hby hZ e2 rfl A_bo (v := (.ref xk)) hj0 hj d_prog_6_10_7 rfl ?_
  refine m_iloadN K X2.here hx hby d_prog_6_10_8 rfl rfl ?_
  refine k_ldZ K X2 hx hby hZ e2 A_xk (v := (.int (0 : Int32))) (by decide) rfl d_prog_6_10_9 rfl ?_
  refine m_ifN K X2.here hx hby (q := 13) d_prog_6_10_10 ((if0 _ _).trans (teq (by decide : (0 : Int32) = (0 : Int32))).2) rfl ?_
  refine m_iinc K X2.here hx hby #[.val (.ref a1), .val (.int j), .val (.int (2 : Int32))] d_prog_6_10_13 rfl rfl rfl ?_
  refine m_goto K X2.here hx hby (q := 2) d_prog_6_10_16 (by decide) rfl ?_
  refine m_aloadN K X2.here hx hby d_prog_6_10_2 rfl rfl rfl ?_
  refine k_getF K X2 hx hby hZ hown (host := "") (Or.inl (hw _ (List.mem_of_getElem? (i := 101) rfl))) Via.refl e2 F_occupied_a1 d_prog_6_10_3 rfl fun T3 X3 e3 => ?_
  refine m_iloadN K X3.here hx hby d_prog_6_10_6 rfl rfl ?_
  refine k_ldR K X3 hx hby hZ e3 rfl A_bo (v := (.ref xk)) hj0 hj d_prog_6_10_7 rfl ?_
  refine m_iloadN K X3.here hx hby d_prog_6_10_8 rfl rfl ?_
  refine k_ldZ K X3 hx hby hZ e3 A_xk (v := (.int (0 : Int32))) (by decide) rfl d_prog_6_10_9 rfl ?_
  refine m_ifN K X3.here hx hby (q := 13) d_prog_6_10_10 ((if0 _ _).trans (teq (by decide : (0 : Int32) = (0 : Int32))).2) rfl ?_
  refine m_iinc K X3.here hx hby #[.val (.ref a1), .val (.int j), .val (.int (3 : Int32))] d_prog_6_10_13 rfl rfl rfl ?_
  refine m_goto K X3.here hx hby (q := 2) d_prog_6_10_16 (by decide) rfl ?_
  refine m_aloadN K X3.here hx hby d_prog_6_10_2 rfl rfl rfl ?_
  refine k_getF K X3 hx hby hZ hown (host := "") (Or.inl (hw _ (List.mem_of_getElem? (i := 101) rfl))) Via.refl e3 F_occupied_a1 d_prog_6_10_3 rfl fun T4 X4 e4 => ?_
  refine m_iloadN K X4.here hx hby d_prog_6_10_6 rfl rfl ?_
  refine k_ldR K X4 hx hby hZ e4 rfl A_bo (v := (.ref xk)) hj0 hj d_prog_6_10_7 rfl ?_
  refine m_iloadN K X4.here hx hby d_prog_6_10_8 rfl rfl ?_
  refine k_ldZ K X4 hx hby hZ e4 A_xk (v := (.int (0 : Int32))) (by decide) rfl d_prog_6_10_9 rfl ?_
  refine m_ifN K X4.here hx hby (q := 13) d_prog_6_10_10 ((if0 _ _).trans (teq (by decide : (0 : Int32) = (0 : Int32))).2) rfl ?_
  refine m_iinc K X4.here hx hby #[.val (.ref a1), .val (.int j), .val (.int (4 : Int32))] d_prog_6_10_13 rfl rfl rfl ?_
  refine m_goto K X4.here hx hby (q := 2) d_prog_6_10_16 (by decide) rfl ?_
  refine m_aloadN K X4.here hx hby d_prog_6_10_2 rfl rfl rfl ?_
  refine k_getF K X4 hx hby hZ hown (host := "") (Or.inl (hw _ (List.mem_of_getElem? (i := 101) rfl))) Via.refl e4 F_occupied_a1 d_prog_6_10_3 rfl fun T5 X5 e5 => ?_
  refine m_iloadN K X5.here hx hby d_prog_6_10_6 rfl rfl ?_
  refine k_ldR K X5 hx hby hZ e5 rfl A_bo (v := (.ref xk)) hj0 hj d_prog_6_10_7 rfl ?_
  refine m_iloadN K X5.here hx hby d_prog_6_10_8 rfl rfl ?_
  refine k_ldZ K X5 hx hby hZ e5 A_xk (v := (.int (1 : Int32))) (by decide) rfl d_prog_6_10_9 rfl ?_
  refine m_ifY K X5.here hx hby (q := 19) d_prog_6_10_10 ((if0 _ _).trans (feq (by decide : ¬ ((1 : Int32) = (0 : Int32)))).2) (by decide) rfl ?_
  refine m_aloadN K X5.here hx hby d_prog_6_10_19 rfl rfl rfl ?_
  refine k_getF K X5 hx hby hZ hown (host := "") (Or.inl (hw _ (List.mem_of_getElem? (i := 101) rfl))) Via.refl e5 F_occupied_a1 d_prog_6_10_20 rfl fun T6 X6 e6 => ?_
  refine m_iloadN K X6.here hx hby d_prog_6_10_23 rfl rfl ?_
  refine k_ldR K X6 hx hby hZ e6 rfl A_bo (v := (.ref xk)) hj0 hj d_prog_6_10_24 rfl ?_
  refine m_iloadN K X6.here hx hby d_prog_6_10_25 rfl rfl ?_
  refine m_iconst K X6.here hx hby (0 : Int32) d_prog_6_10_26 rfl rfl ?_
  refine k_stZ K X6 hx hby hZ e6 A_xk (by decide) (Nat.le_of_ble_eq_true rfl) d_prog_6_10_27 rfl fun T7 h7 X7 e7 W7 V7 => ?_
  replace V7 : Av Z h7 xk .boolean [(.int (0 : Int32)), (.int (0 : Int32)), (.int (0 : Int32)), (.int (0 : Int32)), (.int (0 : Int32))] := V7
  have N7 := Fr.snoc X7 N0 g_xk
  refine m_aloadN K X7.here hx hby d_prog_6_10_28 rfl rfl rfl ?_
  refine k_getF K X7 hx hby hZ hown (host := "") (Or.inl (hw _ (List.mem_of_getElem? (i := 103) rfl))) Via.refl e7 (F_uncovered_a1.other W7 (Or.inl ne_a1_xk)) d_prog_6_10_29 rfl fun T8 X8 e8 => ?_
  refine m_iloadN K X8.here hx hby d_prog_6_10_32 rfl rfl ?_
  refine m_dup2 K X8.here hx hby d_prog_6_10_33 rfl rfl rfl ?_
  refine k_ldZ K X8 hx hby hZ e8 (A_bu.other W7 (Ne.symm ne_xk_bu)) (v := (.int (0 : Int32))) hj0 hu d_prog_6_10_34 rfl ?_
  refine m_iloadN K X8.here hx hby d_prog_6_10_35 rfl rfl ?_
  refine m_iconst K X8.here hx hby (4 : Int32) d_prog_6_10_36 rfl rfl ?_
  refine m_icmpN K X8.here hx hby (q := 40) d_prog_6_10_37 (teq (by decide : (4 : Int32) = (4 : Int32))).2 rfl ?_
  refine m_iconst K X8.here hx hby (1 : Int32) d_prog_6_10_40 rfl rfl ?_
  refine m_goto K X8.here hx hby (q := 45) d_prog_6_10_41 (by decide) rfl ?_
  refine m_ior K X8.here hx hby (1 : Int32) d_prog_6_10_45 rfl rfl ?_
  refine k_stZ K X8 hx hby hZ e8 (A_bu.other W7 (Ne.symm ne_xk_bu)) hj0 (own_ltl0 hu) d_prog_6_10_46 rfl fun T9 h9 X9 e9 W9 V9 => ?_
  have N9 := Fr.snoc X9 N7 g_bu
  exact Go.retV X9 hx hby hlk hret d_prog_6_10_47 (by decide) (by decide) (by rw [e9]; exact ⟨rfl, N9, (((Keep.refl h0 [xk, bu]).wr W7 (Or.inl (by simp))).wr W9 (Or.inl (by simp))), (V7.other W9 ne_xk_bu), V9⟩)
theorem eftk6 (m : MethodId) (x0 : Addr) (x1 : Int32) : entryFrame m #[(.ref x0), (.int x1)] 3 = mkF m 0 #[.val (.ref x0), .val (.int x1), .unset] [] := by first | (simp [entryFrame, mkF, argsToLocals, Value.category]; done) | rfl
set_option maxRecDepth 65536 in
set_option maxHeartbeats 40000000 in
theorem ctk6 (l : Launch) (Z : State) (a0 : Array Value) (hw : ∀ d ∈ tables_1, d.before a0 Z = true) (a1 : Addr) (j : Int32) (bo : Addr) (bu : Addr) (xk : Addr) (os : (List Value)) (ub : (List Value)) (h0 : Heap) (n0 : Nat) (Z0 : n0 ≤ h0.size) (E_a1 : Exa Z h0 a1 "com/example/craterworks/craterworks/SharesStation") (F_occupied_a1 : Fld Z h0 a1 "com/example/craterworks/craterworks/SharesStation" "occupied" "[[Z" (.ref bo)) (F_uncovered_a1 : Fld Z h0 a1 "com/example/craterworks/craterworks/SharesStation" "uncovered" "[Z" (.ref bu)) (A_bo : Av Z h0 bo (.array .boolean) os) (A_xk : Av Z h0 xk .boolean [(.int (0 : Int32)), (.int (0 : Int32)), (.int (0 : Int32)), (.int (1 : Int32)), (.int (0 : Int32))]) (A_bu : Av Z h0 bu .boolean ub) (g_xk : n0 ≤ xk) (g_bu : n0 ≤ bu) (ne_a1_xk : a1 ≠ xk) (ne_a1_bu : a1 ≠ bu) (ne_bo_xk : bo ≠ xk) (ne_bo_bu : bo ≠ bu) (ne_xk_bu : xk ≠ bu) (hj0 : ¬ j < 0) (hj : os[j.toNatClampNeg]? = some (.ref xk)) (hu : ub[j.toNatClampNeg]? = some (.int (1 : Int32))) :
    Con l Z (⟨"com/example/craterworks/craterworks/SharesStation", "take", "(I)V"⟩ : MethodName) prog_6_method_10_code 3 none ({ frames := 0, cells := 0, slots := 0, locals := 0 } : Room) [] #[(.ref a1), (.int j)] h0 (fun v h L => v = none ∧ Fr n0 L ∧ Keep h0 h [xk, bu] ∧ Av Z h xk .boolean [(.int (0 : Int32)), (.int (0 : Int32)), (.int (0 : Int32)), (.int (0 : Int32)), (.int (0 : Int32))] ∧ Av Z h bu .boolean (ub.set j.toNatClampNeg (.int (nar .boolean (1 : Int32))))) := by
  refine Con.of (plainFor_of_name pn_com_example_craterworks_craterworks_SharesStation) #[.val (.ref a1), .val (.int j), .unset] (fun m => eftk6 m a1 j) ?_
  intro p e s m below meth c s₁ K hx hby hml hown hnm hret hlk hZ X0 e0 hnd
  have N0 := Fr.nil n0
  refine m_iconst K X0.here hx hby (0 : Int32) d_prog_6_10_0 rfl rfl ?_
  refine m_istoreN K X0.here hx hby #[.val (.ref a1), .val (.int j), .val (.int (0 : Int32))] d_prog_6_10_1 rfl rfl ?_
  refine m_aloadN K X0.here hx hby d_prog_6_10_2 rfl rfl rfl ?_
  refine k_getF K X0 hx hby hZ hown (host := "") (Or.inl (hw _ (List.mem_of_getElem? (i := 101) rfl))) Via.refl e0 F_occupied_a1 d_prog_6_10_3 rfl fun T1 X1 e1 => ?_
  refine m_iloadN K X1.here hx hby d_prog_6_10_6 rfl rfl ?_
  refine k_ldR K X1 hx hby hZ e1 rfl A_bo (v := (.ref xk)) hj0 hj d_prog_6_10_7 rfl ?_
  refine m_iloadN K X1.here hx hby d_prog_6_10_8 rfl rfl ?_
  refine k_ldZ K X1 hx hby hZ e1 A_xk (v := (.int (0 : Int32))) (by decide) rfl d_prog_6_10_9 rfl ?_
  refine m_ifN K X1.here hx hby (q := 13) d_prog_6_10_10 ((if0 _ _).trans (teq (by decide : (0 : Int32) = (0 : Int32))).2) rfl ?_
  refine m_iinc K X1.here hx hby #[.val (.ref a1), .val (.int j), .val (.int (1 : Int32))] d_prog_6_10_13 rfl rfl rfl ?_
  refine m_goto K X1.here hx hby (q := 2) d_prog_6_10_16 (by decide) rfl ?_
  refine m_aloadN K X1.here hx hby d_prog_6_10_2 rfl rfl rfl ?_
  refine k_getF K X1 hx hby hZ hown (host := "") (Or.inl (hw _ (List.mem_of_getElem? (i := 101) rfl))) Via.refl e1 F_occupied_a1 d_prog_6_10_3 rfl fun T2 X2 e2 => ?_
  refine m_iloadN K X2.here hx hby d_prog_6_10_6 rfl rfl ?_
  refine k_ldR K X2 hx hby hZ e2 rfl A_bo (v := (.ref xk)) hj0 hj d_prog_6_10_7 rfl ?_
  refine m_iloadN K X2.here hx hby d_prog_6_10_8 rfl rfl ?_
  refine k_ldZ K X2 hx hby hZ e2 A_xk (v := (.int (0 : Int32))) (by decide) rfl d_prog_6_10_9 rfl ?_
  refine m_ifN K X2.here hx hby (q := 13) d_prog_6_10_10 ((if0 _ _).trans (teq (by decide : (0 : Int32) = (0 : Int32))).2) rfl ?_
  refine m_iinc K X2.here hx hby #[.val (.ref a1), .val (.int j), .val (.int (2 : Int32))] d_prog_6_10_13 rfl rfl rfl ?_
  refine m_goto K X2.here hx hby (q := 2) d_prog_6_10_16 (by decide) rfl ?_
  refine m_aloadN K X2.here hx hby d_prog_6_10_2 rfl rfl rfl ?_
  refine k_getF K X2 hx hby hZ hown (host := "") (Or.inl (hw _ (List.mem_of_getElem? (i := 101) rfl))) Via.refl e2 F_occupied_a1 d_prog_6_10_3 rfl fun T3 X3 e3 => ?_
  refine m_iloadN K X3.here hx hby d_prog_6_10_6 rfl rfl ?_
  refine k_ldR K X3 hx hby hZ e3 rfl A_bo (v := (.ref xk)) hj0 hj d_prog_6_10_7 rfl ?_
  refine m_iloadN K X3.here hx hby d_prog_6_10_8 rfl rfl ?_
  refine k_ldZ K X3 hx hby hZ e3 A_xk (v := (.int (0 : Int32))) (by decide) rfl d_prog_6_10_9 rfl ?_
  refine m_ifN K X3.here hx hby (q := 13) d_prog_6_10_10 ((if0 _ _).trans (teq (by decide : (0 : Int32) = (0 : Int32))).2) rfl ?_
  refine m_iinc K X3.here hx hby #[.val (.ref a1), .val (.int j), .val (.int (3 : Int32))] d_prog_6_10_13 rfl rfl rfl ?_
  refine m_goto K X3.here hx hby (q := 2) d_prog_6_10_16 (by decide) rfl ?_
  refine m_aloadN K X3.here hx hby d_prog_6_10_2 rfl rfl rfl ?_
  refine k_getF K X3 hx hby hZ hown (host := "") (Or.inl (hw _ (List.mem_of_getElem? (i := 101) rfl))) Via.refl e3 F_occupied_a1 d_prog_6_10_3 rfl fun T4 X4 e4 => ?_
  refine m_iloadN K X4.here hx hby d_prog_6_10_6 rfl rfl ?_
  refine k_ldR K X4 hx hby hZ e4 rfl A_bo (v := (.ref xk)) hj0 hj d_prog_6_10_7 rfl ?_
  refine m_iloadN K X4.here hx hby d_prog_6_10_8 rfl rfl ?_
  refine k_ldZ K X4 hx hby hZ e4 A_xk (v := (.int (1 : Int32))) (by decide) rfl d_prog_6_10_9 rfl ?_
  refine m_ifY K X4.here hx hby (q := 19) d_prog_6_10_10 ((if0 _ _).trans (feq (by decide : ¬ ((1 : Int32) = (0 : Int32)))).2) (by decide) rfl ?_
  refine m_aloadN K X4.here hx hby d_prog_6_10_19 rfl rfl rfl ?_
  refine k_getF K X4 hx hby hZ hown (host := "") (Or.inl (hw _ (List.mem_of_getElem? (i := 101) rfl))) Via.refl e4 F_occupied_a1 d_prog_6_10_20 rfl fun T5 X5 e5 => ?_
  refine m_iloadN K X5.here hx hby d_prog_6_10_23 rfl rfl ?_
  refine k_ldR K X5 hx hby hZ e5 rfl A_bo (v := (.ref xk)) hj0 hj d_prog_6_10_24 rfl ?_
  refine m_iloadN K X5.here hx hby d_prog_6_10_25 rfl rfl ?_
  refine m_iconst K X5.here hx hby (0 : Int32) d_prog_6_10_26 rfl rfl ?_
  refine k_stZ K X5 hx hby hZ e5 A_xk (by decide) (Nat.le_of_ble_eq_true rfl) d_prog_6_10_27 rfl fun T6 h6 X6 e6 W6 V6 => ?_
  replace V6 : Av Z h6 xk .boolean [(.int (0 : Int32)), (.int (0 : Int32)), (.int (0 : Int32)), (.int (0 : Int32)), (.int (0 : Int32))] := V6
  have N6 := Fr.snoc X6 N0 g_xk
  refine m_aloadN K X6.here hx hby d_prog_6_10_28 rfl rfl rfl ?_
  refine k_getF K X6 hx hby hZ hown (host := "") (Or.inl (hw _ (List.mem_of_getElem? (i := 103) rfl))) Via.refl e6 (F_uncovered_a1.other W6 (Or.inl ne_a1_xk)) d_prog_6_10_29 rfl fun T7 X7 e7 => ?_
  refine m_iloadN K X7.here hx hby d_prog_6_10_32 rfl rfl ?_
  refine m_dup2 K X7.here hx hby d_prog_6_10_33 rfl rfl rfl ?_
  refine k_ldZ K X7 hx hby hZ e7 (A_bu.other W6 (Ne.symm ne_xk_bu)) (v := (.int (1 : Int32))) hj0 hu d_prog_6_10_34 rfl ?_
  refine m_iloadN K X7.here hx hby d_prog_6_10_35 rfl rfl ?_
  refine m_iconst K X7.here hx hby (4 : Int32) d_prog_6_10_36 rfl rfl ?_
  refine m_icmpY K X7.here hx hby (q := 44) d_prog_6_10_37 (feq (by decide : ¬ ((3 : Int32) = (4 : Int32)))).2 (by decide) rfl ?_
  refine m_iconst K X7.here hx hby (0 : Int32) d_prog_6_10_44 rfl rfl ?_
  refine m_ior K X7.here hx hby (1 : Int32) d_prog_6_10_45 rfl rfl ?_
  refine k_stZ K X7 hx hby hZ e7 (A_bu.other W6 (Ne.symm ne_xk_bu)) hj0 (own_ltl0 hu) d_prog_6_10_46 rfl fun T8 h8 X8 e8 W8 V8 => ?_
  have N8 := Fr.snoc X8 N6 g_bu
  exact Go.retV X8 hx hby hlk hret d_prog_6_10_47 (by decide) (by decide) (by rw [e8]; exact ⟨rfl, N8, (((Keep.refl h0 [xk, bu]).wr W6 (Or.inl (by simp))).wr W8 (Or.inl (by simp))), (V6.other W8 ne_xk_bu), V8⟩)
theorem d_prog_6_12_0 : decode prog_6_method_12_code 0 = .ok (.iconst 3, 1) := by decide +kernel
theorem d_prog_6_12_1 : decode prog_6_method_12_code 1 = .ok (.istore_n 2, 1) := by decide +kernel
theorem d_prog_6_12_2 : decode prog_6_method_12_code 2 = .ok (.aload_n 0, 1) := by decide +kernel
theorem d_prog_6_12_3 : decode prog_6_method_12_code 3 = .ok (.getfield 11, 3) := by decide +kernel
theorem d_prog_6_12_6 : decode prog_6_method_12_code 6 = .ok (.iload_n 1, 1) := by decide +kernel
theorem d_prog_6_12_7 : decode prog_6_method_12_code 7 = .ok (.aaload, 1) := by decide +kernel
theorem d_prog_6_12_8 : decode prog_6_method_12_code 8 = .ok (.iload_n 2, 1) := by decide +kernel
theorem d_prog_6_12_9 : decode prog_6_method_12_code 9 = .ok (.baload, 1) := by decide +kernel
theorem d_prog_6_12_10 : decode prog_6_method_12_code 10 = .ok (.ifCond .eq 9, 3) := by decide +kernel
theorem d_prog_6_12_19 : decode prog_6_method_12_code 19 = .ok (.aload_n 0, 1) := by decide +kernel
theorem d_prog_6_12_20 : decode prog_6_method_12_code 20 = .ok (.getfield 11, 3) := by decide +kernel
theorem d_prog_6_12_23 : decode prog_6_method_12_code 23 = .ok (.iload_n 1, 1) := by decide +kernel
theorem d_prog_6_12_24 : decode prog_6_method_12_code 24 = .ok (.aaload, 1) := by decide +kernel
theorem d_prog_6_12_25 : decode prog_6_method_12_code 25 = .ok (.iload_n 2, 1) := by decide +kernel
theorem d_prog_6_12_26 : decode prog_6_method_12_code 26 = .ok (.iconst 1, 1) := by decide +kernel
theorem d_prog_6_12_27 : decode prog_6_method_12_code 27 = .ok (.bastore, 1) := by decide +kernel
theorem d_prog_6_12_28 : decode prog_6_method_12_code 28 = .ok (.return_, 1) := by decide +kernel
theorem efsh5 (m : MethodId) (x0 : Addr) (x1 : Int32) : entryFrame m #[(.ref x0), (.int x1)] 3 = mkF m 0 #[.val (.ref x0), .val (.int x1), .unset] [] := by first | (simp [entryFrame, mkF, argsToLocals, Value.category]; done) | rfl
set_option maxRecDepth 65536 in
set_option maxHeartbeats 40000000 in
theorem csh5 (l : Launch) (Z : State) (a0 : Array Value) (hw : ∀ d ∈ tables_1, d.before a0 Z = true) (a1 : Addr) (j : Int32) (bo : Addr) (xk : Addr) (os : (List Value)) (h0 : Heap) (n0 : Nat) (Z0 : n0 ≤ h0.size) (E_a1 : Exa Z h0 a1 "com/example/craterworks/craterworks/SharesStation") (F_occupied_a1 : Fld Z h0 a1 "com/example/craterworks/craterworks/SharesStation" "occupied" "[[Z" (.ref bo)) (A_bo : Av Z h0 bo (.array .boolean) os) (A_xk : Av Z h0 xk .boolean [(.int (0 : Int32)), (.int (0 : Int32)), (.int (0 : Int32)), (.int (0 : Int32)), (.int (0 : Int32))]) (g_xk : n0 ≤ xk) (ne_a1_xk : a1 ≠ xk) (ne_bo_xk : bo ≠ xk) (hj0 : ¬ j < 0) (hj : os[j.toNatClampNeg]? = some (.ref xk)) :
    Con l Z (⟨"com/example/craterworks/craterworks/SharesStation", "sendHome", "(I)V"⟩ : MethodName) prog_6_method_12_code 3 none ({ frames := 0, cells := 0, slots := 0, locals := 0 } : Room) [] #[(.ref a1), (.int j)] h0 (fun v h L => v = none ∧ Fr n0 L ∧ Keep h0 h [xk] ∧ Av Z h xk .boolean [(.int (0 : Int32)), (.int (0 : Int32)), (.int (0 : Int32)), (.int (1 : Int32)), (.int (0 : Int32))]) := by
  refine Con.of (plainFor_of_name pn_com_example_craterworks_craterworks_SharesStation) #[.val (.ref a1), .val (.int j), .unset] (fun m => efsh5 m a1 j) ?_
  intro p e s m below meth c s₁ K hx hby hml hown hnm hret hlk hZ X0 e0 hnd
  have N0 := Fr.nil n0
  refine m_iconst K X0.here hx hby (3 : Int32) d_prog_6_12_0 rfl rfl ?_
  refine m_istoreN K X0.here hx hby #[.val (.ref a1), .val (.int j), .val (.int (3 : Int32))] d_prog_6_12_1 rfl rfl ?_
  refine m_aloadN K X0.here hx hby d_prog_6_12_2 rfl rfl rfl ?_
  refine k_getF K X0 hx hby hZ hown (host := "") (Or.inl (hw _ (List.mem_of_getElem? (i := 101) rfl))) Via.refl e0 F_occupied_a1 d_prog_6_12_3 rfl fun T1 X1 e1 => ?_
  refine m_iloadN K X1.here hx hby d_prog_6_12_6 rfl rfl ?_
  refine k_ldR K X1 hx hby hZ e1 rfl A_bo (v := (.ref xk)) hj0 hj d_prog_6_12_7 rfl ?_
  refine m_iloadN K X1.here hx hby d_prog_6_12_8 rfl rfl ?_
  refine k_ldZ K X1 hx hby hZ e1 A_xk (v := (.int (0 : Int32))) (by decide) rfl d_prog_6_12_9 rfl ?_
  refine m_ifY K X1.here hx hby (q := 19) d_prog_6_12_10 ((if0 _ _).trans (teq (by decide : (0 : Int32) = (0 : Int32))).1) (by decide) rfl ?_
  refine m_aloadN K X1.here hx hby d_prog_6_12_19 rfl rfl rfl ?_
  refine k_getF K X1 hx hby hZ hown (host := "") (Or.inl (hw _ (List.mem_of_getElem? (i := 101) rfl))) Via.refl e1 F_occupied_a1 d_prog_6_12_20 rfl fun T2 X2 e2 => ?_
  refine m_iloadN K X2.here hx hby d_prog_6_12_23 rfl rfl ?_
  refine k_ldR K X2 hx hby hZ e2 rfl A_bo (v := (.ref xk)) hj0 hj d_prog_6_12_24 rfl ?_
  refine m_iloadN K X2.here hx hby d_prog_6_12_25 rfl rfl ?_
  refine m_iconst K X2.here hx hby (1 : Int32) d_prog_6_12_26 rfl rfl ?_
  refine k_stZ K X2 hx hby hZ e2 A_xk (by decide) (Nat.le_of_ble_eq_true rfl) d_prog_6_12_27 rfl fun T3 h3 X3 e3 W3 V3 => ?_
  replace V3 : Av Z h3 xk .boolean [(.int (0 : Int32)), (.int (0 : Int32)), (.int (0 : Int32)), (.int (1 : Int32)), (.int (0 : Int32))] := V3
  have N3 := Fr.snoc X3 N0 g_xk
  exact Go.retV X3 hx hby hlk hret d_prog_6_12_28 (by decide) (by decide) (by rw [e3]; exact ⟨rfl, N3, ((Keep.refl h0 [xk]).wr W3 (Or.inl (by simp))), V3⟩)
theorem d_jdk_41_11_0 : decode jdk_41_method_11_code 0 = .ok (.iload_n 0, 1) := by decide +kernel
theorem d_jdk_41_11_1 : decode jdk_41_method_11_code 1 = .ok (.ifCond .lt 8, 3) := by decide +kernel
theorem d_jdk_41_11_4 : decode jdk_41_method_11_code 4 = .ok (.iload_n 0, 1) := by decide +kernel
theorem d_jdk_41_11_5 : decode jdk_41_method_11_code 5 = .ok (.iload_n 1, 1) := by decide +kernel
theorem d_jdk_41_11_6 : decode jdk_41_method_11_code 6 = .ok (.if_icmp .lt 10, 3) := by decide +kernel
theorem d_jdk_41_11_16 : decode jdk_41_method_11_code 16 = .ok (.iload_n 0, 1) := by decide +kernel
theorem d_jdk_41_11_17 : decode jdk_41_method_11_code 17 = .ok (.ireturn, 1) := by decide +kernel
theorem pn_jdk_internal_util_Preconditions : plainName "jdk/internal/util/Preconditions" = true := by first | (simp [plainName, overriddenIn]; done) | decide +kernel
theorem efck (m : MethodId) (x0 : Int32) (x1 : Int32) : entryFrame m #[(.int x0), (.int x1), .null] 3 = mkF m 0 #[.val (.int x0), .val (.int x1), .val .null] [] := by first | (simp [entryFrame, mkF, argsToLocals, Value.category]; done) | rfl
set_option maxRecDepth 65536 in
set_option maxHeartbeats 40000000 in
theorem cck (l : Launch) (Z : State) (a0 : Array Value) (hw : ∀ d ∈ tables_1, d.before a0 Z = true) (j : Int32) (n : Int32) (h0 : Heap) (n0 : Nat) (Z0 : n0 ≤ h0.size) (h0_ : ¬ (j < (0 : Int32))) (h1_ : j < n) :
    Con l Z (⟨"jdk/internal/util/Preconditions", "checkIndex", "(IILjava/util/function/BiFunction;)I"⟩ : MethodName) jdk_41_method_11_code 3 (some .int) ({ frames := 0, cells := 0, slots := 0, locals := 0 } : Room) [] #[(.int j), (.int n), .null] h0 (fun v h L => v = some (.int j) ∧ h = h0 ∧ L = []) := by
  refine Con.of (plainFor_of_name pn_jdk_internal_util_Preconditions) #[.val (.int j), .val (.int n), .val .null] (fun m => efck m j n) ?_
  intro p e s m below meth c s₁ K hx hby hml hown hnm hret hlk hZ X0 e0 hnd
  have N0 := Fr.nil n0
  refine m_iloadN K X0.here hx hby d_jdk_41_11_0 rfl rfl ?_
  refine m_ifN K X0.here hx hby (q := 4) d_jdk_41_11_1 ((if0 _ _).trans (flt h0_).1) rfl ?_
  refine m_iloadN K X0.here hx hby d_jdk_41_11_4 rfl rfl ?_
  refine m_iloadN K X0.here hx hby d_jdk_41_11_5 rfl rfl ?_
  refine m_icmpY K X0.here hx hby (q := 16) d_jdk_41_11_6 (tlt h1_).1 (by decide) rfl ?_
  refine m_iloadN K X0.here hx hby d_jdk_41_11_16 rfl rfl ?_
  exact Go.retI X0 hx hby hlk hret d_jdk_41_11_17 (by decide) (by decide) (⟨rfl, e0, rfl⟩)
theorem d_jdk_31_17_0 : decode jdk_31_method_17_code 0 = .ok (.iload_n 0, 1) := by decide +kernel
theorem d_jdk_31_17_1 : decode jdk_31_method_17_code 1 = .ok (.iload_n 1, 1) := by decide +kernel
theorem d_jdk_31_17_2 : decode jdk_31_method_17_code 2 = .ok (.aconst_null, 1) := by decide +kernel
theorem d_jdk_31_17_3 : decode jdk_31_method_17_code 3 = .ok (.invokestatic 105, 3) := by decide +kernel
theorem d_jdk_31_17_6 : decode jdk_31_method_17_code 6 = .ok (.ireturn, 1) := by decide +kernel
theorem pn_java_util_Objects : plainName "java/util/Objects" = true := by first | (simp [plainName, overriddenIn]; done) | decide +kernel
theorem pd_4 : parseMethodDescriptor "(IILjava/util/function/BiFunction;)I" = some ⟨[.int, .int, (.object "java/util/function/BiFunction")], some .int⟩ := by decide +kernel
theorem efco (m : MethodId) (x0 : Int32) (x1 : Int32) : entryFrame m #[(.int x0), (.int x1)] 2 = mkF m 0 #[.val (.int x0), .val (.int x1)] [] := by first | (simp [entryFrame, mkF, argsToLocals, Value.category]; done) | rfl
set_option maxRecDepth 65536 in
set_option maxHeartbeats 40000000 in
theorem cco (l : Launch) (Z : State) (a0 : Array Value) (hw : ∀ d ∈ tables_1, d.before a0 Z = true) (j : Int32) (n : Int32) (h0 : Heap) (n0 : Nat) (Z0 : n0 ≤ h0.size) (h0_ : ¬ (j < (0 : Int32))) (h1_ : j < n) :
    Con l Z (⟨"java/util/Objects", "checkIndex", "(II)I"⟩ : MethodName) jdk_31_method_17_code 2 (some .int) ({ frames := 1, cells := 0, slots := 0, locals := 14 } : Room) [] #[(.int j), (.int n)] h0 (fun v h L => v = some (.int j) ∧ h = h0 ∧ L = []) := by
  refine Con.of (plainFor_of_name pn_java_util_Objects) #[.val (.int j), .val (.int n)] (fun m => efco m j n) ?_
  intro p e s m below meth c s₁ K hx hby hml hown hnm hret hlk hZ X0 e0 hnd
  have N0 := Fr.nil n0
  refine m_iloadN K X0.here hx hby d_jdk_31_17_0 rfl rfl ?_
  refine m_iloadN K X0.here hx hby d_jdk_31_17_1 rfl rfl ?_
  refine m_null K X0.here hx hby d_jdk_31_17_2 rfl ?_
  refine k_callS K X0 hx hby hZ [(.int j), (.int n), .null] [] hown (hw _ (List.mem_of_getElem? (i := 139) rfl)) (hw _ (List.mem_of_getElem? (i := 140) rfl)) (hw _ (List.mem_of_getElem? (i := 141) rfl)) (hw _ (List.mem_of_getElem? (i := 142) rfl)) (cck l Z a0 hw j n h0 n0 Z0 h0_ h1_) e0 rfl rfl pd_4 rfl d_jdk_31_17_3 (by rw [hml]; rfl) rfl (by decide) (by decide) (Nat.le_of_ble_eq_true rfl) (by decide) (by decide) fun v1 T1 L1 X1 q1 => ?_
  obtain ⟨rfl, e1, rfl⟩ := q1
  replace X1 := own_px X1
  refine k_some K (w := (.int j)) ?_
  exact Go.retI X1 hx hby hlk hret d_jdk_31_17_6 (by decide) (by decide) (⟨rfl, e1, rfl⟩)
theorem d_jdk_38_18_0 : decode jdk_38_method_18_code 0 = .ok (.aload_n 0, 1) := by decide +kernel
theorem d_jdk_38_18_1 : decode jdk_38_method_18_code 1 = .ok (.getfield 9, 3) := by decide +kernel
theorem d_jdk_38_18_4 : decode jdk_38_method_18_code 4 = .ok (.iload_n 1, 1) := by decide +kernel
theorem d_jdk_38_18_5 : decode jdk_38_method_18_code 5 = .ok (.aaload, 1) := by decide +kernel
theorem d_jdk_38_18_6 : decode jdk_38_method_18_code 6 = .ok (.areturn, 1) := by decide +kernel
theorem pn_java_util_ArrayList : plainName "java/util/ArrayList" = true := by first | (simp [plainName, overriddenIn]; done) | decide +kernel
theorem efed (m : MethodId) (x0 : Addr) (x1 : Int32) : entryFrame m #[(.ref x0), (.int x1)] 2 = mkF m 0 #[.val (.ref x0), .val (.int x1)] [] := by first | (simp [entryFrame, mkF, argsToLocals, Value.category]; done) | rfl
set_option maxRecDepth 65536 in
set_option maxHeartbeats 40000000 in
theorem ced (l : Launch) (Z : State) (a0 : Array Value) (hw : ∀ d ∈ tables_1, d.before a0 Z = true) (a1 : Addr) (j : Int32) (ea : Addr) (es : (List Value)) (rr : Addr) (h0 : Heap) (n0 : Nat) (Z0 : n0 ≤ h0.size) (F_elementData_a1 : Fld Z h0 a1 "java/util/ArrayList" "elementData" "[Ljava/lang/Object;" (.ref ea)) (A_ea : Av Z h0 ea (.object "java/lang/Object") es) (hi0 : ¬ j < 0) (hi : es[j.toNatClampNeg]? = some (.ref rr)) :
    Con l Z (⟨"java/util/ArrayList", "elementData", "(I)Ljava/lang/Object;"⟩ : MethodName) jdk_38_method_18_code 2 (some (.object "java/lang/Object")) ({ frames := 0, cells := 0, slots := 0, locals := 0 } : Room) [] #[(.ref a1), (.int j)] h0 (fun v h L => v = some (.ref rr) ∧ h = h0 ∧ L = []) := by
  refine Con.of (plainFor_of_name pn_java_util_ArrayList) #[.val (.ref a1), .val (.int j)] (fun m => efed m a1 j) ?_
  intro p e s m below meth c s₁ K hx hby hml hown hnm hret hlk hZ X0 e0 hnd
  have N0 := Fr.nil n0
  refine m_aloadN K X0.here hx hby d_jdk_38_18_0 rfl rfl rfl ?_
  refine k_getF K X0 hx hby hZ hown (host := "") (Or.inl (hw _ (List.mem_of_getElem? (i := 24) rfl))) Via.refl e0 F_elementData_a1 d_jdk_38_18_1 rfl fun T1 X1 e1 => ?_
  refine m_iloadN K X1.here hx hby d_jdk_38_18_4 rfl rfl ?_
  refine k_ldR K X1 hx hby hZ e1 rfl A_ea (v := (.ref rr)) hi0 hi d_jdk_38_18_5 rfl ?_
  exact Go.retO X1 hx hby hlk hret rfl (Or.inr (Or.inr (Or.inr (Or.inr ⟨rfl, rfl, rfl⟩)))) d_jdk_38_18_6 (by decide) (by decide) (⟨rfl, e1, rfl⟩)
theorem d_jdk_38_20_0 : decode jdk_38_method_20_code 0 = .ok (.iload_n 1, 1) := by decide +kernel
theorem d_jdk_38_20_1 : decode jdk_38_method_20_code 1 = .ok (.aload_n 0, 1) := by decide +kernel
theorem d_jdk_38_20_2 : decode jdk_38_method_20_code 2 = .ok (.getfield 48, 3) := by decide +kernel
theorem d_jdk_38_20_5 : decode jdk_38_method_20_code 5 = .ok (.invokestatic 118, 3) := by decide +kernel
theorem d_jdk_38_20_8 : decode jdk_38_method_20_code 8 = .ok (.pop, 1) := by decide +kernel
theorem d_jdk_38_20_9 : decode jdk_38_method_20_code 9 = .ok (.aload_n 0, 1) := by decide +kernel
theorem d_jdk_38_20_10 : decode jdk_38_method_20_code 10 = .ok (.iload_n 1, 1) := by decide +kernel
theorem d_jdk_38_20_11 : decode jdk_38_method_20_code 11 = .ok (.invokevirtual 123, 3) := by decide +kernel
theorem d_jdk_38_20_14 : decode jdk_38_method_20_code 14 = .ok (.areturn, 1) := by decide +kernel
theorem pd_5 : parseMethodDescriptor "(II)I" = some ⟨[.int, .int], some .int⟩ := by decide +kernel
theorem pd_6 : parseMethodDescriptor "(I)Ljava/lang/Object;" = some ⟨[.int], some (.object "java/lang/Object")⟩ := by decide +kernel
theorem efgt (m : MethodId) (x0 : Addr) (x1 : Int32) : entryFrame m #[(.ref x0), (.int x1)] 2 = mkF m 0 #[.val (.ref x0), .val (.int x1)] [] := by first | (simp [entryFrame, mkF, argsToLocals, Value.category]; done) | rfl
set_option maxRecDepth 65536 in
set_option maxHeartbeats 40000000 in
theorem cgt (l : Launch) (Z : State) (a0 : Array Value) (hw : ∀ d ∈ tables_1, d.before a0 Z = true) (a1 : Addr) (j : Int32) (sz : Int32) (ea : Addr) (es : (List Value)) (rr : Addr) (h0 : Heap) (n0 : Nat) (Z0 : n0 ≤ h0.size) (E_a1 : Exa Z h0 a1 "java/util/ArrayList") (F_size_a1 : Fld Z h0 a1 "java/util/ArrayList" "size" "I" (.int sz)) (F_elementData_a1 : Fld Z h0 a1 "java/util/ArrayList" "elementData" "[Ljava/lang/Object;" (.ref ea)) (A_ea : Av Z h0 ea (.object "java/lang/Object") es) (hi0 : ¬ j < 0) (hi : es[j.toNatClampNeg]? = some (.ref rr)) (hi1 : j < sz) :
    Con l Z (⟨"java/util/ArrayList", "get", "(I)Ljava/lang/Object;"⟩ : MethodName) jdk_38_method_20_code 2 (some (.object "java/lang/Object")) ({ frames := 2, cells := 0, slots := 0, locals := 27 } : Room) [] #[(.ref a1), (.int j)] h0 (fun v h L => v = some (.ref rr) ∧ h = h0 ∧ L = []) := by
  refine Con.of (plainFor_of_name pn_java_util_ArrayList) #[.val (.ref a1), .val (.int j)] (fun m => efgt m a1 j) ?_
  intro p e s m below meth c s₁ K hx hby hml hown hnm hret hlk hZ X0 e0 hnd
  have N0 := Fr.nil n0
  refine m_iloadN K X0.here hx hby d_jdk_38_20_0 rfl rfl ?_
  refine m_aloadN K X0.here hx hby d_jdk_38_20_1 rfl rfl rfl ?_
  refine k_getF K X0 hx hby hZ hown (host := "") (Or.inl (hw _ (List.mem_of_getElem? (i := 44) rfl))) Via.refl e0 F_size_a1 d_jdk_38_20_2 rfl fun T1 X1 e1 => ?_
  refine k_callS K X1 hx hby hZ [(.int j), (.int sz)] [] hown (hw _ (List.mem_of_getElem? (i := 135) rfl)) (hw _ (List.mem_of_getElem? (i := 136) rfl)) (hw _ (List.mem_of_getElem? (i := 137) rfl)) (hw _ (List.mem_of_getElem? (i := 138) rfl)) (cco l Z a0 hw j sz h0 n0 Z0 hi0 hi1) e1 rfl rfl pd_5 rfl d_jdk_38_20_5 (by rw [hml]; rfl) rfl (by decide) (by decide) (Nat.le_of_ble_eq_true rfl) (by decide) (by decide) fun v2 T2 L2 X2 q2 => ?_
  obtain ⟨rfl, e2, rfl⟩ := q2
  replace X2 := own_px X2
  refine k_some K (w := (.int j)) ?_
  refine m_pop K X2.here hx hby d_jdk_38_20_8 rfl rfl ?_
  refine m_aloadN K X2.here hx hby d_jdk_38_20_9 rfl rfl rfl ?_
  refine m_iloadN K X2.here hx hby d_jdk_38_20_10 rfl rfl ?_
  refine k_callV K X2 hx hby hZ a1 [(.int j)] [] hown (hw _ (List.mem_of_getElem? (i := 143) rfl)) (hw _ (List.mem_of_getElem? (i := 144) rfl)) (notFace_of_selects (args := #[]) (mvT hZ.wide (hw _ (List.mem_of_getElem? (i := 146) rfl)))) (hw _ (List.mem_of_getElem? (i := 146) rfl)) (hw _ (List.mem_of_getElem? (i := 145) rfl)) (hw _ (List.mem_of_getElem? (i := 2) rfl)) (hw _ (List.mem_of_getElem? (i := 147) rfl)) (ced l Z a0 hw a1 j ea es rr h0 n0 Z0 F_elementData_a1 A_ea hi0 hi) e2 E_a1 rfl rfl pd_6 rfl d_jdk_38_20_11 (by rw [hml]; rfl) rfl (by decide) (by decide) (Nat.le_of_ble_eq_true rfl) (by decide) (by decide) fun v3 T3 L3 X3 q3 => ?_
  obtain ⟨rfl, e3, rfl⟩ := q3
  replace X3 := own_px X3
  refine k_some K (w := (.ref rr)) ?_
  exact Go.retO X3 hx hby hlk hret rfl (Or.inr (Or.inr (Or.inr (Or.inr ⟨rfl, rfl, rfl⟩)))) d_jdk_38_20_14 (by decide) (by decide) (⟨rfl, e3, rfl⟩)
theorem d_jdk_33_27_0 : decode jdk_33_method_27_code 0 = .ok (.aload_n 0, 1) := by decide +kernel
theorem d_jdk_33_27_1 : decode jdk_33_method_27_code 1 = .ok (.getfield 205, 3) := by decide +kernel
theorem d_jdk_33_27_4 : decode jdk_33_method_27_code 4 = .ok (.ireturn, 1) := by decide +kernel
theorem pn_java_lang_Integer : plainName "java/lang/Integer" = true := by first | (simp [plainName, overriddenIn]; done) | decide +kernel
theorem efiv (m : MethodId) (x0 : Addr) : entryFrame m #[(.ref x0)] 1 = mkF m 0 #[.val (.ref x0)] [] := by first | (simp [entryFrame, mkF, argsToLocals, Value.category]; done) | rfl
set_option maxRecDepth 65536 in
set_option maxHeartbeats 40000000 in
theorem civ (l : Launch) (Z : State) (a0 : Array Value) (hw : ∀ d ∈ tables_1, d.before a0 Z = true) (a1 : Addr) (n : Int32) (h0 : Heap) (n0 : Nat) (Z0 : n0 ≤ h0.size) (F_value_a1 : Fld Z h0 a1 "java/lang/Integer" "value" "I" (.int n)) :
    Con l Z (⟨"java/lang/Integer", "intValue", "()I"⟩ : MethodName) jdk_33_method_27_code 1 (some .int) ({ frames := 0, cells := 0, slots := 0, locals := 0 } : Room) [] #[(.ref a1)] h0 (fun v h L => v = some (.int n) ∧ h = h0 ∧ L = []) := by
  refine Con.of (plainFor_of_name pn_java_lang_Integer) #[.val (.ref a1)] (fun m => efiv m a1) ?_
  intro p e s m below meth c s₁ K hx hby hml hown hnm hret hlk hZ X0 e0 hnd
  have N0 := Fr.nil n0
  refine m_aloadN K X0.here hx hby d_jdk_33_27_0 rfl rfl rfl ?_
  refine k_getF K X0 hx hby hZ hown (host := "") (Or.inl (hw _ (List.mem_of_getElem? (i := 89) rfl))) Via.refl e0 F_value_a1 d_jdk_33_27_1 rfl fun T1 X1 e1 => ?_
  exact Go.retI X1 hx hby hlk hret d_jdk_33_27_4 (by decide) (by decide) (⟨rfl, e1, rfl⟩)
def wvi_1 (pk : Nat) (y0 : Int32) : Int32 := (if (cx pk 0) = (0 : Int32) then ((0 : Int32) + y0) else (0 : Int32))
def wvi_2 (pk : Nat) (y0 : Int32) (y1 : Int32) : Int32 := (if (cx pk 1) = (0 : Int32) then ((wvi_1 pk y0) + y1) else (wvi_1 pk y0))
def wvi_3 (pk : Nat) (y0 : Int32) (y1 : Int32) (y2 : Int32) : Int32 := (if (cx pk 2) = (0 : Int32) then ((wvi_2 pk y0 y1) + y2) else (wvi_2 pk y0 y1))
def wvi_4 (pk : Nat) (y0 : Int32) (y1 : Int32) (y2 : Int32) (y3 : Int32) : Int32 := (if (cx pk 3) = (0 : Int32) then ((wvi_3 pk y0 y1 y2) + y3) else (wvi_3 pk y0 y1 y2))
def wvi_5 (pk : Nat) (y0 : Int32) (y1 : Int32) (y2 : Int32) (y3 : Int32) (y4 : Int32) : Int32 := (if (cx pk 4) = (0 : Int32) then ((wvi_4 pk y0 y1 y2 y3) + y4) else (wvi_4 pk y0 y1 y2 y3))
def VCV (pk : Nat) (y0 y1 y2 y3 y4 : Int32) : Int32 := (wvi_5 pk y0 y1 y2 y3 y4)
theorem d_prog_6_15_0 : decode prog_6_method_15_code 0 = .ok (.iconst 0, 1) := by decide +kernel
theorem d_prog_6_15_1 : decode prog_6_method_15_code 1 = .ok (.istore_n 2, 1) := by decide +kernel
theorem d_prog_6_15_2 : decode prog_6_method_15_code 2 = .ok (.iconst 0, 1) := by decide +kernel
theorem d_prog_6_15_3 : decode prog_6_method_15_code 3 = .ok (.istore_n 3, 1) := by decide +kernel
theorem d_prog_6_15_4 : decode prog_6_method_15_code 4 = .ok (.iload_n 3, 1) := by decide +kernel
theorem d_prog_6_15_5 : decode prog_6_method_15_code 5 = .ok (.iconst 5, 1) := by decide +kernel
theorem d_prog_6_15_6 : decode prog_6_method_15_code 6 = .ok (.if_icmp .ge 48, 3) := by decide +kernel
theorem d_prog_6_15_9 : decode prog_6_method_15_code 9 = .ok (.aload_n 0, 1) := by decide +kernel
theorem d_prog_6_15_10 : decode prog_6_method_15_code 10 = .ok (.getfield 11, 3) := by decide +kernel
theorem d_prog_6_15_13 : decode prog_6_method_15_code 13 = .ok (.iload_n 1, 1) := by decide +kernel
theorem d_prog_6_15_14 : decode prog_6_method_15_code 14 = .ok (.aaload, 1) := by decide +kernel
theorem d_prog_6_15_15 : decode prog_6_method_15_code 15 = .ok (.iload_n 3, 1) := by decide +kernel
theorem d_prog_6_15_16 : decode prog_6_method_15_code 16 = .ok (.baload, 1) := by decide +kernel
theorem d_prog_6_15_17 : decode prog_6_method_15_code 17 = .ok (.ifCond .ne 31, 3) := by decide +kernel
theorem d_prog_6_15_20 : decode prog_6_method_15_code 20 = .ok (.iload_n 2, 1) := by decide +kernel
theorem d_prog_6_15_21 : decode prog_6_method_15_code 21 = .ok (.aload_n 0, 1) := by decide +kernel
theorem d_prog_6_15_22 : decode prog_6_method_15_code 22 = .ok (.getfield 18, 3) := by decide +kernel
theorem d_prog_6_15_25 : decode prog_6_method_15_code 25 = .ok (.iload_n 1, 1) := by decide +kernel
theorem d_prog_6_15_26 : decode prog_6_method_15_code 26 = .ok (.invokeinterface 57 2, 5) := by decide +kernel
theorem d_prog_6_15_31 : decode prog_6_method_15_code 31 = .ok (.checkcast 58, 3) := by decide +kernel
theorem d_prog_6_15_34 : decode prog_6_method_15_code 34 = .ok (.iload_n 3, 1) := by decide +kernel
theorem d_prog_6_15_35 : decode prog_6_method_15_code 35 = .ok (.invokeinterface 57 2, 5) := by decide +kernel
theorem d_prog_6_15_40 : decode prog_6_method_15_code 40 = .ok (.checkcast 63, 3) := by decide +kernel
theorem d_prog_6_15_43 : decode prog_6_method_15_code 43 = .ok (.invokevirtual 65, 3) := by decide +kernel
theorem d_prog_6_15_46 : decode prog_6_method_15_code 46 = .ok (.iadd, 1) := by decide +kernel
theorem d_prog_6_15_47 : decode prog_6_method_15_code 47 = .ok (.istore_n 2, 1) := by decide +kernel
theorem d_prog_6_15_48 : decode prog_6_method_15_code 48 = .ok (.iinc 3 1, 3) := by decide +kernel
theorem d_prog_6_15_51 : decode prog_6_method_15_code 51 = .ok (.goto (-47), 3) := by decide +kernel
theorem d_prog_6_15_54 : decode prog_6_method_15_code 54 = .ok (.iload_n 2, 1) := by decide +kernel
theorem d_prog_6_15_55 : decode prog_6_method_15_code 55 = .ok (.ireturn, 1) := by decide +kernel
theorem pd_7 : parseMethodDescriptor "()I" = some ⟨[], some .int⟩ := by decide +kernel
theorem efvi (m : MethodId) (x0 : Addr) (x1 : Int32) : entryFrame m #[(.ref x0), (.int x1)] 4 = mkF m 0 #[.val (.ref x0), .val (.int x1), .unset, .unset] [] := by first | (simp [entryFrame, mkF, argsToLocals, Value.category]; done) | rfl
set_option maxRecDepth 65536 in
set_option maxHeartbeats 40000000 in
theorem cvi (l : Launch) (Z : State) (a0 : Array Value) (hw : ∀ d ∈ tables_1, d.before a0 Z = true) (a1 : Addr) (j : Int32) (bo : Addr) (os : (List Value)) (xk : Addr) (pk : Nat) (ic : Addr) (ea : Addr) (es : (List Value)) (lk : Addr) (ek : Addr) (u0 : Addr) (u1 : Addr) (u2 : Addr) (u3 : Addr) (u4 : Addr) (y0 : Int32) (y1 : Int32) (y2 : Int32) (y3 : Int32) (y4 : Int32) (h0 : Heap) (n0 : Nat) (Z0 : n0 ≤ h0.size) (E_ic : Exa Z h0 ic "java/util/ArrayList") (E_lk : Exa Z h0 lk "java/util/ArrayList") (E_u0 : Exa Z h0 u0 "java/lang/Integer") (E_u1 : Exa Z h0 u1 "java/lang/Integer") (E_u2 : Exa Z h0 u2 "java/lang/Integer") (E_u3 : Exa Z h0 u3 "java/lang/Integer") (E_u4 : Exa Z h0 u4 "java/lang/Integer") (F_occupied_a1 : Fld Z h0 a1 "com/example/craterworks/craterworks/SharesStation" "occupied" "[[Z" (.ref bo)) (F_icons_a1 : Fld Z h0 a1 "com/example/craterworks/craterworks/SharesStation" "icons" "Ljava/util/List;" (.ref ic)) (F_size_ic : Fld Z h0 ic "java/util/ArrayList" "size" "I" (.int (3 : Int32))) (F_elementData_ic : Fld Z h0 ic "java/util/ArrayList" "elementData" "[Ljava/lang/Object;" (.ref ea)) (F_size_lk : Fld Z h0 lk "java/util/ArrayList" "size" "I" (.int (5 : Int32))) (F_elementData_lk : Fld Z h0 lk "java/util/ArrayList" "elementData" "[Ljava/lang/Object;" (.ref ek)) (F_value_u0 : Fld Z h0 u0 "java/lang/Integer" "value" "I" (.int y0)) (F_value_u1 : Fld Z h0 u1 "java/lang/Integer" "value" "I" (.int y1)) (F_value_u2 : Fld Z h0 u2 "java/lang/Integer" "value" "I" (.int y2)) (F_value_u3 : Fld Z h0 u3 "java/lang/Integer" "value" "I" (.int y3)) (F_value_u4 : Fld Z h0 u4 "java/lang/Integer" "value" "I" (.int y4)) (A_bo : Av Z h0 bo (.array .boolean) os) (A_xk : Av Z h0 xk .boolean [(.int (cx pk 0)), (.int (cx pk 1)), (.int (cx pk 2)), (.int (cx pk 3)), (.int (cx pk 4))]) (A_ea : Av Z h0 ea (.object "java/lang/Object") es) (A_ek : Av Z h0 ek (.object "java/lang/Object") [(.ref u0), (.ref u1), (.ref u2), (.ref u3), (.ref u4), .null, .null, .null, .null, .null]) (hj0 : ¬ j < 0) (hj : os[j.toNatClampNeg]? = some (.ref xk)) (hl : es[j.toNatClampNeg]? = some (.ref lk)) (h3 : j < (3 : Int32)) :
    Con l Z (⟨"com/example/craterworks/craterworks/SharesStation", "visibleCoins", "(I)I"⟩ : MethodName) prog_6_method_15_code 4 (some .int) ({ frames := 3, cells := 0, slots := 0, locals := 41 } : Room) [] #[(.ref a1), (.int j)] h0 (fun v h L => v = some (.int (VCV pk y0 y1 y2 y3 y4)) ∧ h = h0 ∧ L = []) := by
  refine Con.of (plainFor_of_name pn_com_example_craterworks_craterworks_SharesStation) #[.val (.ref a1), .val (.int j), .unset, .unset] (fun m => efvi m a1 j) ?_
  intro p e s m below meth c s₁ K hx hby hml hown hnm hret hlk hZ X0 e0 hnd
  have N0 := Fr.nil n0
  refine m_iconst K X0.here hx hby (0 : Int32) d_prog_6_15_0 rfl rfl ?_
  refine m_istoreN K X0.here hx hby #[.val (.ref a1), .val (.int j), .val (.int (0 : Int32)), .unset] d_prog_6_15_1 rfl rfl ?_
  refine m_iconst K X0.here hx hby (0 : Int32) d_prog_6_15_2 rfl rfl ?_
  refine m_istoreN K X0.here hx hby #[.val (.ref a1), .val (.int j), .val (.int (0 : Int32)), .val (.int (0 : Int32))] d_prog_6_15_3 rfl rfl ?_
  refine m_iloadN K X0.here hx hby d_prog_6_15_4 rfl rfl ?_
  refine m_iconst K X0.here hx hby (5 : Int32) d_prog_6_15_5 rfl rfl ?_
  refine m_icmpN K X0.here hx hby (q := 9) d_prog_6_15_6 (tlt (by decide : (0 : Int32) < (5 : Int32))).2.1 rfl ?_
  refine m_aloadN K X0.here hx hby d_prog_6_15_9 rfl rfl rfl ?_
  refine k_getF K X0 hx hby hZ hown (host := "") (Or.inl (hw _ (List.mem_of_getElem? (i := 101) rfl))) Via.refl e0 F_occupied_a1 d_prog_6_15_10 rfl fun T1 X1 e1 => ?_
  refine m_iloadN K X1.here hx hby d_prog_6_15_13 rfl rfl ?_
  refine k_ldR K X1 hx hby hZ e1 rfl A_bo (v := (.ref xk)) hj0 hj d_prog_6_15_14 rfl ?_
  refine m_iloadN K X1.here hx hby d_prog_6_15_15 rfl rfl ?_
  refine k_ldZ K X1 hx hby hZ e1 A_xk (v := (.int (cx pk 0))) (by decide) rfl d_prog_6_15_16 rfl ?_
  obtain ⟨T9, X9, e9, st9⟩ : Mx X1 h0 (mkF m 48 #[.val (.ref a1), .val (.int j), .val (.int (wvi_1 pk y0)), .val (.int (0 : Int32))] []) (T1.setTop (mkF m 17 #[.val (.ref a1), .val (.int j), .val (.int (0 : Int32)), .val (.int (0 : Int32))] [(.int (cx pk 0))])) := by
    refine Mx.with fun K => ?_
    by_cases hc17_2 : (cx pk 0) = (0 : Int32)
    · refine m_ifN K X1.here hx hby (q := 20) d_prog_6_15_17 ((if0 _ _).trans (teq hc17_2).2) rfl ?_
      refine m_iloadN K X1.here hx hby d_prog_6_15_20 rfl rfl ?_
      refine m_aloadN K X1.here hx hby d_prog_6_15_21 rfl rfl rfl ?_
      refine k_getF K X1 hx hby hZ hown (host := "") (Or.inl (hw _ (List.mem_of_getElem? (i := 105) rfl))) Via.refl e1 F_icons_a1 d_prog_6_15_22 rfl fun T3 X3 e3 => ?_
      refine m_iloadN K X3.here hx hby d_prog_6_15_25 rfl rfl ?_
      refine k_callI K X3 hx hby hZ ic [(.int j)] [(.int (0 : Int32))] hown (hw _ (List.mem_of_getElem? (i := 127) rfl)) (hw _ (List.mem_of_getElem? (i := 128) rfl)) (mvT hZ.wide (hw _ (List.mem_of_getElem? (i := 129) rfl))) (hw _ (List.mem_of_getElem? (i := 130) rfl)) (hw _ (List.mem_of_getElem? (i := 131) rfl)) (hw _ (List.mem_of_getElem? (i := 132) rfl)) (hw _ (List.mem_of_getElem? (i := 133) rfl)) (hw _ (List.mem_of_getElem? (i := 74) rfl)) (hw _ (List.mem_of_getElem? (i := 2) rfl)) (hw _ (List.mem_of_getElem? (i := 134) rfl)) (cgt l Z a0 hw ic j (3 : Int32) ea es lk h0 n0 Z0 E_ic F_size_ic F_elementData_ic A_ea hj0 hl h3) e3 E_ic rfl rfl pd_6 rfl d_prog_6_15_26 (by rw [hml]; rfl) rfl (by decide) (by decide) (Nat.le_of_ble_eq_true rfl) (by decide) (by decide) fun v4 T4 L4 X4 q4 => ?_
      obtain ⟨rfl, e4, rfl⟩ := q4
      replace X4 := own_px X4
      refine k_some K (w := (.ref lk)) ?_
      refine k_cast K X4 hx hby hZ hown (hw _ (List.mem_of_getElem? (i := 148) rfl)) e4 (Ins.of_exa E_lk (hw _ (List.mem_of_getElem? (i := 74) rfl))) d_prog_6_15_31 rfl fun T5 X5 e5 => ?_
      refine m_iloadN K X5.here hx hby d_prog_6_15_34 rfl rfl ?_
      refine k_callI K X5 hx hby hZ lk [(.int (0 : Int32))] [(.int (0 : Int32))] hown (hw _ (List.mem_of_getElem? (i := 127) rfl)) (hw _ (List.mem_of_getElem? (i := 128) rfl)) (mvT hZ.wide (hw _ (List.mem_of_getElem? (i := 129) rfl))) (hw _ (List.mem_of_getElem? (i := 130) rfl)) (hw _ (List.mem_of_getElem? (i := 131) rfl)) (hw _ (List.mem_of_getElem? (i := 132) rfl)) (hw _ (List.mem_of_getElem? (i := 133) rfl)) (hw _ (List.mem_of_getElem? (i := 74) rfl)) (hw _ (List.mem_of_getElem? (i := 2) rfl)) (hw _ (List.mem_of_getElem? (i := 134) rfl)) (cgt l Z a0 hw lk (0 : Int32) (5 : Int32) ek [(.ref u0), (.ref u1), (.ref u2), (.ref u3), (.ref u4), .null, .null, .null, .null, .null] u0 h0 n0 Z0 E_lk F_size_lk F_elementData_lk A_ek (by decide) rfl (by decide)) e5 E_lk rfl rfl pd_6 rfl d_prog_6_15_35 (by rw [hml]; rfl) rfl (by decide) (by decide) (Nat.le_of_ble_eq_true rfl) (by decide) (by decide) fun v6 T6 L6 X6 q6 => ?_
      obtain ⟨rfl, e6, rfl⟩ := q6
      replace X6 := own_px X6
      refine k_some K (w := (.ref u0)) ?_
      refine k_cast K X6 hx hby hZ hown (hw _ (List.mem_of_getElem? (i := 149) rfl)) e6 (Ins.self E_u0) d_prog_6_15_40 rfl fun T7 X7 e7 => ?_
      refine k_callV K X7 hx hby hZ u0 [] [(.int (0 : Int32))] hown (hw _ (List.mem_of_getElem? (i := 150) rfl)) (hw _ (List.mem_of_getElem? (i := 151) rfl)) (notFace_of_selects (args := #[]) (mvT hZ.wide (hw _ (List.mem_of_getElem? (i := 153) rfl)))) (hw _ (List.mem_of_getElem? (i := 153) rfl)) (hw _ (List.mem_of_getElem? (i := 152) rfl)) (hw _ (List.mem_of_getElem? (i := 32) rfl)) (hw _ (List.mem_of_getElem? (i := 154) rfl)) (civ l Z a0 hw u0 y0 h0 n0 Z0 F_value_u0) e7 E_u0 rfl rfl pd_7 rfl d_prog_6_15_43 (by rw [hml]; rfl) rfl (by decide) (by decide) (Nat.le_of_ble_eq_true rfl) (by decide) (by decide) fun v8 T8 L8 X8 q8 => ?_
      obtain ⟨rfl, e8, rfl⟩ := q8
      replace X8 := own_px X8
      refine k_some K (w := (.int y0)) ?_
      refine m_iadd K X8.here hx hby ((0 : Int32) + y0) d_prog_6_15_46 rfl rfl ?_
      refine m_istoreN K X8.here hx hby #[.val (.ref a1), .val (.int j), .val (.int ((0 : Int32) + y0)), .val (.int (0 : Int32))] d_prog_6_15_47 rfl rfl ?_
      rw [show ((wvi_1 pk y0) : Int32) = ((0 : Int32) + y0) from if_pos hc17_2]
      exact Mx.here X8 e8
    · refine m_ifY K X1.here hx hby (q := 48) d_prog_6_15_17 ((if0 _ _).trans (feq hc17_2).2) (by decide) rfl ?_
      rw [show ((wvi_1 pk y0) : Int32) = (0 : Int32) from if_neg hc17_2]
      exact Mx.here X1 e1
  refine k_go K st9 ?_
  refine m_iinc K X9.here hx hby #[.val (.ref a1), .val (.int j), .val (.int (wvi_1 pk y0)), .val (.int (1 : Int32))] d_prog_6_15_48 rfl rfl rfl ?_
  refine m_goto K X9.here hx hby (q := 4) d_prog_6_15_51 (by decide) rfl ?_
  refine m_iloadN K X9.here hx hby d_prog_6_15_4 rfl rfl ?_
  refine m_iconst K X9.here hx hby (5 : Int32) d_prog_6_15_5 rfl rfl ?_
  refine m_icmpN K X9.here hx hby (q := 9) d_prog_6_15_6 (tlt (by decide : (1 : Int32) < (5 : Int32))).2.1 rfl ?_
  refine m_aloadN K X9.here hx hby d_prog_6_15_9 rfl rfl rfl ?_
  refine k_getF K X9 hx hby hZ hown (host := "") (Or.inl (hw _ (List.mem_of_getElem? (i := 101) rfl))) Via.refl e9 F_occupied_a1 d_prog_6_15_10 rfl fun T10 X10 e10 => ?_
  refine m_iloadN K X10.here hx hby d_prog_6_15_13 rfl rfl ?_
  refine k_ldR K X10 hx hby hZ e10 rfl A_bo (v := (.ref xk)) hj0 hj d_prog_6_15_14 rfl ?_
  refine m_iloadN K X10.here hx hby d_prog_6_15_15 rfl rfl ?_
  refine k_ldZ K X10 hx hby hZ e10 A_xk (v := (.int (cx pk 1))) (by decide) rfl d_prog_6_15_16 rfl ?_
  obtain ⟨T18, X18, e18, st18⟩ : Mx X10 h0 (mkF m 48 #[.val (.ref a1), .val (.int j), .val (.int (wvi_2 pk y0 y1)), .val (.int (1 : Int32))] []) (T10.setTop (mkF m 17 #[.val (.ref a1), .val (.int j), .val (.int (wvi_1 pk y0)), .val (.int (1 : Int32))] [(.int (cx pk 1))])) := by
    refine Mx.with fun K => ?_
    by_cases hc17_11 : (cx pk 1) = (0 : Int32)
    · refine m_ifN K X10.here hx hby (q := 20) d_prog_6_15_17 ((if0 _ _).trans (teq hc17_11).2) rfl ?_
      refine m_iloadN K X10.here hx hby d_prog_6_15_20 rfl rfl ?_
      refine m_aloadN K X10.here hx hby d_prog_6_15_21 rfl rfl rfl ?_
      refine k_getF K X10 hx hby hZ hown (host := "") (Or.inl (hw _ (List.mem_of_getElem? (i := 105) rfl))) Via.refl e10 F_icons_a1 d_prog_6_15_22 rfl fun T12 X12 e12 => ?_
      refine m_iloadN K X12.here hx hby d_prog_6_15_25 rfl rfl ?_
      refine k_callI K X12 hx hby hZ ic [(.int j)] [(.int (wvi_1 pk y0))] hown (hw _ (List.mem_of_getElem? (i := 127) rfl)) (hw _ (List.mem_of_getElem? (i := 128) rfl)) (mvT hZ.wide (hw _ (List.mem_of_getElem? (i := 129) rfl))) (hw _ (List.mem_of_getElem? (i := 130) rfl)) (hw _ (List.mem_of_getElem? (i := 131) rfl)) (hw _ (List.mem_of_getElem? (i := 132) rfl)) (hw _ (List.mem_of_getElem? (i := 133) rfl)) (hw _ (List.mem_of_getElem? (i := 74) rfl)) (hw _ (List.mem_of_getElem? (i := 2) rfl)) (hw _ (List.mem_of_getElem? (i := 134) rfl)) (cgt l Z a0 hw ic j (3 : Int32) ea es lk h0 n0 Z0 E_ic F_size_ic F_elementData_ic A_ea hj0 hl h3) e12 E_ic rfl rfl pd_6 rfl d_prog_6_15_26 (by rw [hml]; rfl) rfl (by decide) (by decide) (Nat.le_of_ble_eq_true rfl) (by decide) (by decide) fun v13 T13 L13 X13 q13 => ?_
      obtain ⟨rfl, e13, rfl⟩ := q13
      replace X13 := own_px X13
      refine k_some K (w := (.ref lk)) ?_
      refine k_cast K X13 hx hby hZ hown (hw _ (List.mem_of_getElem? (i := 148) rfl)) e13 (Ins.of_exa E_lk (hw _ (List.mem_of_getElem? (i := 74) rfl))) d_prog_6_15_31 rfl fun T14 X14 e14 => ?_
      refine m_iloadN K X14.here hx hby d_prog_6_15_34 rfl rfl ?_
      refine k_callI K X14 hx hby hZ lk [(.int (1 : Int32))] [(.int (wvi_1 pk y0))] hown (hw _ (List.mem_of_getElem? (i := 127) rfl)) (hw _ (List.mem_of_getElem? (i := 128) rfl)) (mvT hZ.wide (hw _ (List.mem_of_getElem? (i := 129) rfl))) (hw _ (List.mem_of_getElem? (i := 130) rfl)) (hw _ (List.mem_of_getElem? (i := 131) rfl)) (hw _ (List.mem_of_getElem? (i := 132) rfl)) (hw _ (List.mem_of_getElem? (i := 133) rfl)) (hw _ (List.mem_of_getElem? (i := 74) rfl)) (hw _ (List.mem_of_getElem? (i := 2) rfl)) (hw _ (List.mem_of_getElem? (i := 134) rfl)) (cgt l Z a0 hw lk (1 : Int32) (5 : Int32) ek [(.ref u0), (.ref u1), (.ref u2), (.ref u3), (.ref u4), .null, .null, .null, .null, .null] u1 h0 n0 Z0 E_lk F_size_lk F_elementData_lk A_ek (by decide) rfl (by decide)) e14 E_lk rfl rfl pd_6 rfl d_prog_6_15_35 (by rw [hml]; rfl) rfl (by decide) (by decide) (Nat.le_of_ble_eq_true rfl) (by decide) (by decide) fun v15 T15 L15 X15 q15 => ?_
      obtain ⟨rfl, e15, rfl⟩ := q15
      replace X15 := own_px X15
      refine k_some K (w := (.ref u1)) ?_
      refine k_cast K X15 hx hby hZ hown (hw _ (List.mem_of_getElem? (i := 149) rfl)) e15 (Ins.self E_u1) d_prog_6_15_40 rfl fun T16 X16 e16 => ?_
      refine k_callV K X16 hx hby hZ u1 [] [(.int (wvi_1 pk y0))] hown (hw _ (List.mem_of_getElem? (i := 150) rfl)) (hw _ (List.mem_of_getElem? (i := 151) rfl)) (notFace_of_selects (args := #[]) (mvT hZ.wide (hw _ (List.mem_of_getElem? (i := 153) rfl)))) (hw _ (List.mem_of_getElem? (i := 153) rfl)) (hw _ (List.mem_of_getElem? (i := 152) rfl)) (hw _ (List.mem_of_getElem? (i := 32) rfl)) (hw _ (List.mem_of_getElem? (i := 154) rfl)) (civ l Z a0 hw u1 y1 h0 n0 Z0 F_value_u1) e16 E_u1 rfl rfl pd_7 rfl d_prog_6_15_43 (by rw [hml]; rfl) rfl (by decide) (by decide) (Nat.le_of_ble_eq_true rfl) (by decide) (by decide) fun v17 T17 L17 X17 q17 => ?_
      obtain ⟨rfl, e17, rfl⟩ := q17
      replace X17 := own_px X17
      refine k_some K (w := (.int y1)) ?_
      refine m_iadd K X17.here hx hby ((wvi_1 pk y0) + y1) d_prog_6_15_46 rfl rfl ?_
      refine m_istoreN K X17.here hx hby #[.val (.ref a1), .val (.int j), .val (.int ((wvi_1 pk y0) + y1)), .val (.int (1 : Int32))] d_prog_6_15_47 rfl rfl ?_
      rw [show ((wvi_2 pk y0 y1) : Int32) = ((wvi_1 pk y0) + y1) from if_pos hc17_11]
      exact Mx.here X17 e17
    · refine m_ifY K X10.here hx hby (q := 48) d_prog_6_15_17 ((if0 _ _).trans (feq hc17_11).2) (by decide) rfl ?_
      rw [show ((wvi_2 pk y0 y1) : Int32) = (wvi_1 pk y0) from if_neg hc17_11]
      exact Mx.here X10 e10
  refine k_go K st18 ?_
  refine m_iinc K X18.here hx hby #[.val (.ref a1), .val (.int j), .val (.int (wvi_2 pk y0 y1)), .val (.int (2 : Int32))] d_prog_6_15_48 rfl rfl rfl ?_
  refine m_goto K X18.here hx hby (q := 4) d_prog_6_15_51 (by decide) rfl ?_
  refine m_iloadN K X18.here hx hby d_prog_6_15_4 rfl rfl ?_
  refine m_iconst K X18.here hx hby (5 : Int32) d_prog_6_15_5 rfl rfl ?_
  refine m_icmpN K X18.here hx hby (q := 9) d_prog_6_15_6 (tlt (by decide : (2 : Int32) < (5 : Int32))).2.1 rfl ?_
  refine m_aloadN K X18.here hx hby d_prog_6_15_9 rfl rfl rfl ?_
  refine k_getF K X18 hx hby hZ hown (host := "") (Or.inl (hw _ (List.mem_of_getElem? (i := 101) rfl))) Via.refl e18 F_occupied_a1 d_prog_6_15_10 rfl fun T19 X19 e19 => ?_
  refine m_iloadN K X19.here hx hby d_prog_6_15_13 rfl rfl ?_
  refine k_ldR K X19 hx hby hZ e19 rfl A_bo (v := (.ref xk)) hj0 hj d_prog_6_15_14 rfl ?_
  refine m_iloadN K X19.here hx hby d_prog_6_15_15 rfl rfl ?_
  refine k_ldZ K X19 hx hby hZ e19 A_xk (v := (.int (cx pk 2))) (by decide) rfl d_prog_6_15_16 rfl ?_
  obtain ⟨T27, X27, e27, st27⟩ : Mx X19 h0 (mkF m 48 #[.val (.ref a1), .val (.int j), .val (.int (wvi_3 pk y0 y1 y2)), .val (.int (2 : Int32))] []) (T19.setTop (mkF m 17 #[.val (.ref a1), .val (.int j), .val (.int (wvi_2 pk y0 y1)), .val (.int (2 : Int32))] [(.int (cx pk 2))])) := by
    refine Mx.with fun K => ?_
    by_cases hc17_20 : (cx pk 2) = (0 : Int32)
    · refine m_ifN K X19.here hx hby (q := 20) d_prog_6_15_17 ((if0 _ _).trans (teq hc17_20).2) rfl ?_
      refine m_iloadN K X19.here hx hby d_prog_6_15_20 rfl rfl ?_
      refine m_aloadN K X19.here hx hby d_prog_6_15_21 rfl rfl rfl ?_
      refine k_getF K X19 hx hby hZ hown (host := "") (Or.inl (hw _ (List.mem_of_getElem? (i := 105) rfl))) Via.refl e19 F_icons_a1 d_prog_6_15_22 rfl fun T21 X21 e21 => ?_
      refine m_iloadN K X21.here hx hby d_prog_6_15_25 rfl rfl ?_
      refine k_callI K X21 hx hby hZ ic [(.int j)] [(.int (wvi_2 pk y0 y1))] hown (hw _ (List.mem_of_getElem? (i := 127) rfl)) (hw _ (List.mem_of_getElem? (i := 128) rfl)) (mvT hZ.wide (hw _ (List.mem_of_getElem? (i := 129) rfl))) (hw _ (List.mem_of_getElem? (i := 130) rfl)) (hw _ (List.mem_of_getElem? (i := 131) rfl)) (hw _ (List.mem_of_getElem? (i := 132) rfl)) (hw _ (List.mem_of_getElem? (i := 133) rfl)) (hw _ (List.mem_of_getElem? (i := 74) rfl)) (hw _ (List.mem_of_getElem? (i := 2) rfl)) (hw _ (List.mem_of_getElem? (i := 134) rfl)) (cgt l Z a0 hw ic j (3 : Int32) ea es lk h0 n0 Z0 E_ic F_size_ic F_elementData_ic A_ea hj0 hl h3) e21 E_ic rfl rfl pd_6 rfl d_prog_6_15_26 (by rw [hml]; rfl) rfl (by decide) (by decide) (Nat.le_of_ble_eq_true rfl) (by decide) (by decide) fun v22 T22 L22 X22 q22 => ?_
      obtain ⟨rfl, e22, rfl⟩ := q22
      replace X22 := own_px X22
      refine k_some K (w := (.ref lk)) ?_
      refine k_cast K X22 hx hby hZ hown (hw _ (List.mem_of_getElem? (i := 148) rfl)) e22 (Ins.of_exa E_lk (hw _ (List.mem_of_getElem? (i := 74) rfl))) d_prog_6_15_31 rfl fun T23 X23 e23 => ?_
      refine m_iloadN K X23.here hx hby d_prog_6_15_34 rfl rfl ?_
      refine k_callI K X23 hx hby hZ lk [(.int (2 : Int32))] [(.int (wvi_2 pk y0 y1))] hown (hw _ (List.mem_of_getElem? (i := 127) rfl)) (hw _ (List.mem_of_getElem? (i := 128) rfl)) (mvT hZ.wide (hw _ (List.mem_of_getElem? (i := 129) rfl))) (hw _ (List.mem_of_getElem? (i := 130) rfl)) (hw _ (List.mem_of_getElem? (i := 131) rfl)) (hw _ (List.mem_of_getElem? (i := 132) rfl)) (hw _ (List.mem_of_getElem? (i := 133) rfl)) (hw _ (List.mem_of_getElem? (i := 74) rfl)) (hw _ (List.mem_of_getElem? (i := 2) rfl)) (hw _ (List.mem_of_getElem? (i := 134) rfl)) (cgt l Z a0 hw lk (2 : Int32) (5 : Int32) ek [(.ref u0), (.ref u1), (.ref u2), (.ref u3), (.ref u4), .null, .null, .null, .null, .null] u2 h0 n0 Z0 E_lk F_size_lk F_elementData_lk A_ek (by decide) rfl (by decide)) e23 E_lk rfl rfl pd_6 rfl d_prog_6_15_35 (by rw [hml]; rfl) rfl (by decide) (by decide) (Nat.le_of_ble_eq_true rfl) (by decide) (by decide) fun v24 T24 L24 X24 q24 => ?_
      obtain ⟨rfl, e24, rfl⟩ := q24
      replace X24 := own_px X24
      refine k_some K (w := (.ref u2)) ?_
      refine k_cast K X24 hx hby hZ hown (hw _ (List.mem_of_getElem? (i := 149) rfl)) e24 (Ins.self E_u2) d_prog_6_15_40 rfl fun T25 X25 e25 => ?_
      refine k_callV K X25 hx hby hZ u2 [] [(.int (wvi_2 pk y0 y1))] hown (hw _ (List.mem_of_getElem? (i := 150) rfl)) (hw _ (List.mem_of_getElem? (i := 151) rfl)) (notFace_of_selects (args := #[]) (mvT hZ.wide (hw _ (List.mem_of_getElem? (i := 153) rfl)))) (hw _ (List.mem_of_getElem? (i := 153) rfl)) (hw _ (List.mem_of_getElem? (i := 152) rfl)) (hw _ (List.mem_of_getElem? (i := 32) rfl)) (hw _ (List.mem_of_getElem? (i := 154) rfl)) (civ l Z a0 hw u2 y2 h0 n0 Z0 F_value_u2) e25 E_u2 rfl rfl pd_7 rfl d_prog_6_15_43 (by rw [hml]; rfl) rfl (by decide) (by decide) (Nat.le_of_ble_eq_true rfl) (by decide) (by decide) fun v26 T26 L26 X26 q26 => ?_
      obtain ⟨rfl, e26, rfl⟩ := q26
      replace X26 := own_px X26
      refine k_some K (w := (.int y2)) ?_
      refine m_iadd K X26.here hx hby ((wvi_2 pk y0 y1) + y2) d_prog_6_15_46 rfl rfl ?_
      refine m_istoreN K X26.here hx hby #[.val (.ref a1), .val (.int j), .val (.int ((wvi_2 pk y0 y1) + y2)), .val (.int (2 : Int32))] d_prog_6_15_47 rfl rfl ?_
      rw [show ((wvi_3 pk y0 y1 y2) : Int32) = ((wvi_2 pk y0 y1) + y2) from if_pos hc17_20]
      exact Mx.here X26 e26
    · refine m_ifY K X19.here hx hby (q := 48) d_prog_6_15_17 ((if0 _ _).trans (feq hc17_20).2) (by decide) rfl ?_
      rw [show ((wvi_3 pk y0 y1 y2) : Int32) = (wvi_2 pk y0 y1) from if_neg hc17_20]
      exact Mx.here X19 e19
  refine k_go K st27 ?_
  refine m_iinc K X27.here hx hby #[.val (.ref a1), .val (.int j), .val (.int (wvi_3 pk y0 y1 y2)), .val (.int (3 : Int32))] d_prog_6_15_48 rfl rfl rfl ?_
  refine m_goto K X27.here hx hby (q := 4) d_prog_6_15_51 (by decide) rfl ?_
  refine m_iloadN K X27.here hx hby d_prog_6_15_4 rfl rfl ?_
  refine m_iconst K X27.here hx hby (5 : Int32) d_prog_6_15_5 rfl rfl ?_
  refine m_icmpN K X27.here hx hby (q := 9) d_prog_6_15_6 (tlt (by decide : (3 : Int32) < (5 : Int32))).2.1 rfl ?_
  refine m_aloadN K X27.here hx hby d_prog_6_15_9 rfl rfl rfl ?_
  refine k_getF K X27 hx hby hZ hown (host := "") (Or.inl (hw _ (List.mem_of_getElem? (i := 101) rfl))) Via.refl e27 F_occupied_a1 d_prog_6_15_10 rfl fun T28 X28 e28 => ?_
  refine m_iloadN K X28.here hx hby d_prog_6_15_13 rfl rfl ?_
  refine k_ldR K X28 hx hby hZ e28 rfl A_bo (v := (.ref xk)) hj0 hj d_prog_6_15_14 rfl ?_
  refine m_iloadN K X28.here hx hby d_prog_6_15_15 rfl rfl ?_
  refine k_ldZ K X28 hx hby hZ e28 A_xk (v := (.int (cx pk 3))) (by decide) rfl d_prog_6_15_16 rfl ?_
  obtain ⟨T36, X36, e36, st36⟩ : Mx X28 h0 (mkF m 48 #[.val (.ref a1), .val (.int j), .val (.int (wvi_4 pk y0 y1 y2 y3)), .val (.int (3 : Int32))] []) (T28.setTop (mkF m 17 #[.val (.ref a1), .val (.int j), .val (.int (wvi_3 pk y0 y1 y2)), .val (.int (3 : Int32))] [(.int (cx pk 3))])) := by
    refine Mx.with fun K => ?_
    by_cases hc17_29 : (cx pk 3) = (0 : Int32)
    · refine m_ifN K X28.here hx hby (q := 20) d_prog_6_15_17 ((if0 _ _).trans (teq hc17_29).2) rfl ?_
      refine m_iloadN K X28.here hx hby d_prog_6_15_20 rfl rfl ?_
      refine m_aloadN K X28.here hx hby d_prog_6_15_21 rfl rfl rfl ?_
      refine k_getF K X28 hx hby hZ hown (host := "") (Or.inl (hw _ (List.mem_of_getElem? (i := 105) rfl))) Via.refl e28 F_icons_a1 d_prog_6_15_22 rfl fun T30 X30 e30 => ?_
      refine m_iloadN K X30.here hx hby d_prog_6_15_25 rfl rfl ?_
      refine k_callI K X30 hx hby hZ ic [(.int j)] [(.int (wvi_3 pk y0 y1 y2))] hown (hw _ (List.mem_of_getElem? (i := 127) rfl)) (hw _ (List.mem_of_getElem? (i := 128) rfl)) (mvT hZ.wide (hw _ (List.mem_of_getElem? (i := 129) rfl))) (hw _ (List.mem_of_getElem? (i := 130) rfl)) (hw _ (List.mem_of_getElem? (i := 131) rfl)) (hw _ (List.mem_of_getElem? (i := 132) rfl)) (hw _ (List.mem_of_getElem? (i := 133) rfl)) (hw _ (List.mem_of_getElem? (i := 74) rfl)) (hw _ (List.mem_of_getElem? (i := 2) rfl)) (hw _ (List.mem_of_getElem? (i := 134) rfl)) (cgt l Z a0 hw ic j (3 : Int32) ea es lk h0 n0 Z0 E_ic F_size_ic F_elementData_ic A_ea hj0 hl h3) e30 E_ic rfl rfl pd_6 rfl d_prog_6_15_26 (by rw [hml]; rfl) rfl (by decide) (by decide) (Nat.le_of_ble_eq_true rfl) (by decide) (by decide) fun v31 T31 L31 X31 q31 => ?_
      obtain ⟨rfl, e31, rfl⟩ := q31
      replace X31 := own_px X31
      refine k_some K (w := (.ref lk)) ?_
      refine k_cast K X31 hx hby hZ hown (hw _ (List.mem_of_getElem? (i := 148) rfl)) e31 (Ins.of_exa E_lk (hw _ (List.mem_of_getElem? (i := 74) rfl))) d_prog_6_15_31 rfl fun T32 X32 e32 => ?_
      refine m_iloadN K X32.here hx hby d_prog_6_15_34 rfl rfl ?_
      refine k_callI K X32 hx hby hZ lk [(.int (3 : Int32))] [(.int (wvi_3 pk y0 y1 y2))] hown (hw _ (List.mem_of_getElem? (i := 127) rfl)) (hw _ (List.mem_of_getElem? (i := 128) rfl)) (mvT hZ.wide (hw _ (List.mem_of_getElem? (i := 129) rfl))) (hw _ (List.mem_of_getElem? (i := 130) rfl)) (hw _ (List.mem_of_getElem? (i := 131) rfl)) (hw _ (List.mem_of_getElem? (i := 132) rfl)) (hw _ (List.mem_of_getElem? (i := 133) rfl)) (hw _ (List.mem_of_getElem? (i := 74) rfl)) (hw _ (List.mem_of_getElem? (i := 2) rfl)) (hw _ (List.mem_of_getElem? (i := 134) rfl)) (cgt l Z a0 hw lk (3 : Int32) (5 : Int32) ek [(.ref u0), (.ref u1), (.ref u2), (.ref u3), (.ref u4), .null, .null, .null, .null, .null] u3 h0 n0 Z0 E_lk F_size_lk F_elementData_lk A_ek (by decide) rfl (by decide)) e32 E_lk rfl rfl pd_6 rfl d_prog_6_15_35 (by rw [hml]; rfl) rfl (by decide) (by decide) (Nat.le_of_ble_eq_true rfl) (by decide) (by decide) fun v33 T33 L33 X33 q33 => ?_
      obtain ⟨rfl, e33, rfl⟩ := q33
      replace X33 := own_px X33
      refine k_some K (w := (.ref u3)) ?_
      refine k_cast K X33 hx hby hZ hown (hw _ (List.mem_of_getElem? (i := 149) rfl)) e33 (Ins.self E_u3) d_prog_6_15_40 rfl fun T34 X34 e34 => ?_
      refine k_callV K X34 hx hby hZ u3 [] [(.int (wvi_3 pk y0 y1 y2))] hown (hw _ (List.mem_of_getElem? (i := 150) rfl)) (hw _ (List.mem_of_getElem? (i := 151) rfl)) (notFace_of_selects (args := #[]) (mvT hZ.wide (hw _ (List.mem_of_getElem? (i := 153) rfl)))) (hw _ (List.mem_of_getElem? (i := 153) rfl)) (hw _ (List.mem_of_getElem? (i := 152) rfl)) (hw _ (List.mem_of_getElem? (i := 32) rfl)) (hw _ (List.mem_of_getElem? (i := 154) rfl)) (civ l Z a0 hw u3 y3 h0 n0 Z0 F_value_u3) e34 E_u3 rfl rfl pd_7 rfl d_prog_6_15_43 (by rw [hml]; rfl) rfl (by decide) (by decide) (Nat.le_of_ble_eq_true rfl) (by decide) (by decide) fun v35 T35 L35 X35 q35 => ?_
      obtain ⟨rfl, e35, rfl⟩ := q35
      replace X35 := own_px X35
      refine k_some K (w := (.int y3)) ?_
      refine m_iadd K X35.here hx hby ((wvi_3 pk y0 y1 y2) + y3) d_prog_6_15_46 rfl rfl ?_
      refine m_istoreN K X35.here hx hby #[.val (.ref a1), .val (.int j), .val (.int ((wvi_3 pk y0 y1 y2) + y3)), .val (.int (3 : Int32))] d_prog_6_15_47 rfl rfl ?_
      rw [show ((wvi_4 pk y0 y1 y2 y3) : Int32) = ((wvi_3 pk y0 y1 y2) + y3) from if_pos hc17_29]
      exact Mx.here X35 e35
    · refine m_ifY K X28.here hx hby (q := 48) d_prog_6_15_17 ((if0 _ _).trans (feq hc17_29).2) (by decide) rfl ?_
      rw [show ((wvi_4 pk y0 y1 y2 y3) : Int32) = (wvi_3 pk y0 y1 y2) from if_neg hc17_29]
      exact Mx.here X28 e28
  refine k_go K st36 ?_
  refine m_iinc K X36.here hx hby #[.val (.ref a1), .val (.int j), .val (.int (wvi_4 pk y0 y1 y2 y3)), .val (.int (4 : Int32))] d_prog_6_15_48 rfl rfl rfl ?_
  refine m_goto K X36.here hx hby (q := 4) d_prog_6_15_51 (by decide) rfl ?_
  refine m_iloadN K X36.here hx hby d_prog_6_15_4 rfl rfl ?_
  refine m_iconst K X36.here hx hby (5 : Int32) d_prog_6_15_5 rfl rfl ?_
  refine m_icmpN K X36.here hx hby (q := 9) d_prog_6_15_6 (tlt (by decide : (4 : Int32) < (5 : Int32))).2.1 rfl ?_
  refine m_aloadN K X36.here hx hby d_prog_6_15_9 rfl rfl rfl ?_
  refine k_getF K X36 hx hby hZ hown (host := "") (Or.inl (hw _ (List.mem_of_getElem? (i := 101) rfl))) Via.refl e36 F_occupied_a1 d_prog_6_15_10 rfl fun T37 X37 e37 => ?_
  refine m_iloadN K X37.here hx hby d_prog_6_15_13 rfl rfl ?_
  refine k_ldR K X37 hx hby hZ e37 rfl A_bo (v := (.ref xk)) hj0 hj d_prog_6_15_14 rfl ?_
  refine m_iloadN K X37.here hx hby d_prog_6_15_15 rfl rfl ?_
  refine k_ldZ K X37 hx hby hZ e37 A_xk (v := (.int (cx pk 4))) (by decide) rfl d_prog_6_15_16 rfl ?_
  obtain ⟨T45, X45, e45, st45⟩ : Mx X37 h0 (mkF m 48 #[.val (.ref a1), .val (.int j), .val (.int (wvi_5 pk y0 y1 y2 y3 y4)), .val (.int (4 : Int32))] []) (T37.setTop (mkF m 17 #[.val (.ref a1), .val (.int j), .val (.int (wvi_4 pk y0 y1 y2 y3)), .val (.int (4 : Int32))] [(.int (cx pk 4))])) := by
    refine Mx.with fun K => ?_
    by_cases hc17_38 : (cx pk 4) = (0 : Int32)
    · refine m_ifN K X37.here hx hby (q := 20) d_prog_6_15_17 ((if0 _ _).trans (teq hc17_38).2) rfl ?_
      refine m_iloadN K X37.here hx hby d_prog_6_15_20 rfl rfl ?_
      refine m_aloadN K X37.here hx hby d_prog_6_15_21 rfl rfl rfl ?_
      refine k_getF K X37 hx hby hZ hown (host := "") (Or.inl (hw _ (List.mem_of_getElem? (i := 105) rfl))) Via.refl e37 F_icons_a1 d_prog_6_15_22 rfl fun T39 X39 e39 => ?_
      refine m_iloadN K X39.here hx hby d_prog_6_15_25 rfl rfl ?_
      refine k_callI K X39 hx hby hZ ic [(.int j)] [(.int (wvi_4 pk y0 y1 y2 y3))] hown (hw _ (List.mem_of_getElem? (i := 127) rfl)) (hw _ (List.mem_of_getElem? (i := 128) rfl)) (mvT hZ.wide (hw _ (List.mem_of_getElem? (i := 129) rfl))) (hw _ (List.mem_of_getElem? (i := 130) rfl)) (hw _ (List.mem_of_getElem? (i := 131) rfl)) (hw _ (List.mem_of_getElem? (i := 132) rfl)) (hw _ (List.mem_of_getElem? (i := 133) rfl)) (hw _ (List.mem_of_getElem? (i := 74) rfl)) (hw _ (List.mem_of_getElem? (i := 2) rfl)) (hw _ (List.mem_of_getElem? (i := 134) rfl)) (cgt l Z a0 hw ic j (3 : Int32) ea es lk h0 n0 Z0 E_ic F_size_ic F_elementData_ic A_ea hj0 hl h3) e39 E_ic rfl rfl pd_6 rfl d_prog_6_15_26 (by rw [hml]; rfl) rfl (by decide) (by decide) (Nat.le_of_ble_eq_true rfl) (by decide) (by decide) fun v40 T40 L40 X40 q40 => ?_
      obtain ⟨rfl, e40, rfl⟩ := q40
      replace X40 := own_px X40
      refine k_some K (w := (.ref lk)) ?_
      refine k_cast K X40 hx hby hZ hown (hw _ (List.mem_of_getElem? (i := 148) rfl)) e40 (Ins.of_exa E_lk (hw _ (List.mem_of_getElem? (i := 74) rfl))) d_prog_6_15_31 rfl fun T41 X41 e41 => ?_
      refine m_iloadN K X41.here hx hby d_prog_6_15_34 rfl rfl ?_
      refine k_callI K X41 hx hby hZ lk [(.int (4 : Int32))] [(.int (wvi_4 pk y0 y1 y2 y3))] hown (hw _ (List.mem_of_getElem? (i := 127) rfl)) (hw _ (List.mem_of_getElem? (i := 128) rfl)) (mvT hZ.wide (hw _ (List.mem_of_getElem? (i := 129) rfl))) (hw _ (List.mem_of_getElem? (i := 130) rfl)) (hw _ (List.mem_of_getElem? (i := 131) rfl)) (hw _ (List.mem_of_getElem? (i := 132) rfl)) (hw _ (List.mem_of_getElem? (i := 133) rfl)) (hw _ (List.mem_of_getElem? (i := 74) rfl)) (hw _ (List.mem_of_getElem? (i := 2) rfl)) (hw _ (List.mem_of_getElem? (i := 134) rfl)) (cgt l Z a0 hw lk (4 : Int32) (5 : Int32) ek [(.ref u0), (.ref u1), (.ref u2), (.ref u3), (.ref u4), .null, .null, .null, .null, .null] u4 h0 n0 Z0 E_lk F_size_lk F_elementData_lk A_ek (by decide) rfl (by decide)) e41 E_lk rfl rfl pd_6 rfl d_prog_6_15_35 (by rw [hml]; rfl) rfl (by decide) (by decide) (Nat.le_of_ble_eq_true rfl) (by decide) (by decide) fun v42 T42 L42 X42 q42 => ?_
      obtain ⟨rfl, e42, rfl⟩ := q42
      replace X42 := own_px X42
      refine k_some K (w := (.ref u4)) ?_
      refine k_cast K X42 hx hby hZ hown (hw _ (List.mem_of_getElem? (i := 149) rfl)) e42 (Ins.self E_u4) d_prog_6_15_40 rfl fun T43 X43 e43 => ?_
      refine k_callV K X43 hx hby hZ u4 [] [(.int (wvi_4 pk y0 y1 y2 y3))] hown (hw _ (List.mem_of_getElem? (i := 150) rfl)) (hw _ (List.mem_of_getElem? (i := 151) rfl)) (notFace_of_selects (args := #[]) (mvT hZ.wide (hw _ (List.mem_of_getElem? (i := 153) rfl)))) (hw _ (List.mem_of_getElem? (i := 153) rfl)) (hw _ (List.mem_of_getElem? (i := 152) rfl)) (hw _ (List.mem_of_getElem? (i := 32) rfl)) (hw _ (List.mem_of_getElem? (i := 154) rfl)) (civ l Z a0 hw u4 y4 h0 n0 Z0 F_value_u4) e43 E_u4 rfl rfl pd_7 rfl d_prog_6_15_43 (by rw [hml]; rfl) rfl (by decide) (by decide) (Nat.le_of_ble_eq_true rfl) (by decide) (by decide) fun v44 T44 L44 X44 q44 => ?_
      obtain ⟨rfl, e44, rfl⟩ := q44
      replace X44 := own_px X44
      refine k_some K (w := (.int y4)) ?_
      refine m_iadd K X44.here hx hby ((wvi_4 pk y0 y1 y2 y3) + y4) d_prog_6_15_46 rfl rfl ?_
      refine m_istoreN K X44.here hx hby #[.val (.ref a1), .val (.int j), .val (.int ((wvi_4 pk y0 y1 y2 y3) + y4)), .val (.int (4 : Int32))] d_prog_6_15_47 rfl rfl ?_
      rw [show ((wvi_5 pk y0 y1 y2 y3 y4) : Int32) = ((wvi_4 pk y0 y1 y2 y3) + y4) from if_pos hc17_38]
      exact Mx.here X44 e44
    · refine m_ifY K X37.here hx hby (q := 48) d_prog_6_15_17 ((if0 _ _).trans (feq hc17_38).2) (by decide) rfl ?_
      rw [show ((wvi_5 pk y0 y1 y2 y3 y4) : Int32) = (wvi_4 pk y0 y1 y2 y3) from if_neg hc17_38]
      exact Mx.here X37 e37
  refine k_go K st45 ?_
  refine m_iinc K X45.here hx hby #[.val (.ref a1), .val (.int j), .val (.int (wvi_5 pk y0 y1 y2 y3 y4)), .val (.int (5 : Int32))] d_prog_6_15_48 rfl rfl rfl ?_
  refine m_goto K X45.here hx hby (q := 4) d_prog_6_15_51 (by decide) rfl ?_
  refine m_iloadN K X45.here hx hby d_prog_6_15_4 rfl rfl ?_
  refine m_iconst K X45.here hx hby (5 : Int32) d_prog_6_15_5 rfl rfl ?_
  refine m_icmpY K X45.here hx hby (q := 54) d_prog_6_15_6 (flt (by decide : ¬ ((5 : Int32) < (5 : Int32)))).2.1 (by decide) rfl ?_
  refine m_iloadN K X45.here hx hby d_prog_6_15_54 rfl rfl ?_
  exact Go.retI X45 hx hby hlk hret d_prog_6_15_55 (by decide) (by decide) (⟨rfl, e45, rfl⟩)
def Bd (n0 lo hi x : Nat) : Prop := x < n0 ∨ (lo ≤ x ∧ x < hi)
/-- a list of five boxes; n0, lo, hi: where its cells lie -/
def Lc (Z : State) (h : Heap) (n0 lo hi : Nat) (l : Addr) (y0 y1 y2 y3 y4 : Int32) : Prop := ∃ e b0 b1 b2 b3 b4 : Addr, Exa Z h l "java/util/ArrayList" ∧ Fld Z h l "java/util/ArrayList" "size" "I" (.int (5 : Int32)) ∧ Fld Z h l "java/util/ArrayList" "elementData" "[Ljava/lang/Object;" (.ref e) ∧ Av Z h e (.object "java/lang/Object") [.ref b0, .ref b1, .ref b2, .ref b3, .ref b4, .null, .null, .null, .null, .null] ∧ Exa Z h b0 "java/lang/Integer" ∧ Fld Z h b0 "java/lang/Integer" "value" "I" (.int y0) ∧ Exa Z h b1 "java/lang/Integer" ∧ Fld Z h b1 "java/lang/Integer" "value" "I" (.int y1) ∧ Exa Z h b2 "java/lang/Integer" ∧ Fld Z h b2 "java/lang/Integer" "value" "I" (.int y2) ∧ Exa Z h b3 "java/lang/Integer" ∧ Fld Z h b3 "java/lang/Integer" "value" "I" (.int y3) ∧ Exa Z h b4 "java/lang/Integer" ∧ Fld Z h b4 "java/lang/Integer" "value" "I" (.int y4) ∧ Bd n0 lo hi l ∧ Bd n0 lo hi e ∧ Bd n0 lo hi b0 ∧ Bd n0 lo hi b1 ∧ Bd n0 lo hi b2 ∧ Bd n0 lo hi b3 ∧ Bd n0 lo hi b4
section
variable {Z : State} {h h' : Heap} {n0 lo hi : Nat} {l : Addr} {y0 y1 y2 y3 y4 : Int32}
theorem Lc.ext (F : Lc Z h n0 lo hi l y0 y1 y2 y3 y4) (E : Ext h h') : Lc Z h' n0 lo hi l y0 y1 y2 y3 y4 := by
  obtain ⟨e, b0, b1, b2, b3, b4, El, Fs, Fe, Ae, Eb0, Fb0, Eb1, Fb1, Eb2, Fb2, Eb3, Fb3, Eb4, Fb4, Bl, Be, Bb0, Bb1, Bb2, Bb3, Bb4⟩ := F
  exact ⟨e, b0, b1, b2, b3, b4, El.ext E, Fs.ext E, Fe.ext E, Ae.ext E, Eb0.ext E, Fb0.ext E, Eb1.ext E, Fb1.ext E, Eb2.ext E, Fb2.ext E, Eb3.ext E, Fb3.ext E, Eb4.ext E, Fb4.ext E, Bl, Be, Bb0, Bb1, Bb2, Bb3, Bb4⟩
theorem Lc.keep {ws : List Addr} (F : Lc Z h n0 lo hi l y0 y1 y2 y3 y4) (K : Keep h h' ws) (q : ∀ x, Bd n0 lo hi x → x ∉ ws) : Lc Z h' n0 lo hi l y0 y1 y2 y3 y4 := by
  obtain ⟨e, b0, b1, b2, b3, b4, El, Fs, Fe, Ae, Eb0, Fb0, Eb1, Fb1, Eb2, Fb2, Eb3, Fb3, Eb4, Fb4, Bl, Be, Bb0, Bb1, Bb2, Bb3, Bb4⟩ := F
  exact ⟨e, b0, b1, b2, b3, b4, El.keep K, Fs.keep K (q _ Bl), Fe.keep K (q _ Bl), Ae.keep K (q _ Be), Eb0.keep K, Fb0.keep K (q _ Bb0), Eb1.keep K, Fb1.keep K (q _ Bb1), Eb2.keep K, Fb2.keep K (q _ Bb2), Eb3.keep K, Fb3.keep K (q _ Bb3), Eb4.keep K, Fb4.keep K (q _ Bb4), Bl, Be, Bb0, Bb1, Bb2, Bb3, Bb4⟩
theorem Bd.no {n0 lo hi x a : Nat} (B : Bd n0 lo hi x) (g : n0 ≤ a) (q : a < lo ∨ hi ≤ a) : x ≠ a := by
  unfold Bd at B
  omega
end
/-- the three columns of icons -/
def Ic (Z : State) (h : Heap) (ic : Addr) : Prop := ∃ (ea l0 l1 l2 : Addr) (a0 a1 a2 b0 b1 b2 c0 c1 c2 : Nat), Exa Z h ic "java/util/ArrayList" ∧ Fld Z h ic "java/util/ArrayList" "size" "I" (.int (3 : Int32)) ∧ Fld Z h ic "java/util/ArrayList" "elementData" "[Ljava/lang/Object;" (.ref ea) ∧ Av Z h ea (.object "java/lang/Object") [.ref l0, .ref l1, .ref l2, .null, .null, .null, .null, .null, .null, .null] ∧ Lc Z h a0 a1 a2 l0 1 2 4 8 16 ∧ Lc Z h b0 b1 b2 l1 32 64 128 256 512 ∧ Lc Z h c0 c1 c2 l2 1024 2048 4096 8192 16384
theorem Ic.ext {Z : State} {h h' : Heap} {ic : Addr} (F : Ic Z h ic) (E : Ext h h') : Ic Z h' ic := by
  obtain ⟨ea, l0, l1, l2, a0, a1, a2, b0, b1, b2, c0, c1, c2, f1, f2, f3, f4, f5, f6, f7⟩ := F
  exact ⟨ea, l0, l1, l2, a0, a1, a2, b0, b1, b2, c0, c1, c2, f1.ext E, f2.ext E, f3.ext E, f4.ext E, f5.ext E, f6.ext E, f7.ext E⟩
theorem own_ek {h1 h h' : Heap} {ws : List Addr} (E : Ext h1 h) (K : Keep h h' ws) (q : ∀ x ∈ ws, h1.size ≤ x) : Ext h1 h' := ⟨Nat.le_trans E.1 K.1, fun x c r => K.2.1 x c (E.2 x c r) fun z => absurd (Array.getElem?_eq_some_iff.mp r).1 (Nat.not_lt.mpr (q x z))⟩
theorem own_ee {h1 h h' : Heap} (E : Ext h1 h) (E' : Ext h h') : Ext h1 h' := ⟨Nat.le_trans E.1 E'.1, fun x c r => E'.2 x c (E.2 x c r)⟩
theorem vi0 (l : Launch) (Z : State) (a0 : Array Value) (hw : ∀ d ∈ tables_1, d.before a0 Z = true) (a1 : Addr) (bo : Addr) (ic : Addr) (xk : Addr) (pk : Nat) (os : (List Value)) (h0 : Heap) (n0 : Nat) (Z0 : n0 ≤ h0.size) (F_occupied_a1 : Fld Z h0 a1 "com/example/craterworks/craterworks/SharesStation" "occupied" "[[Z" (.ref bo)) (F_icons_a1 : Fld Z h0 a1 "com/example/craterworks/craterworks/SharesStation" "icons" "Ljava/util/List;" (.ref ic)) (A_bo : Av Z h0 bo (.array .boolean) os) (A_xk : Av Z h0 xk .boolean [(.int (cx pk 0)), (.int (cx pk 1)), (.int (cx pk 2)), (.int (cx pk 3)), (.int (cx pk 4))]) (hj : os[(0 : Int32).toNatClampNeg]? = some (.ref xk)) (HI : Ic Z h0 ic) :
    Con l Z (⟨"com/example/craterworks/craterworks/SharesStation", "visibleCoins", "(I)I"⟩ : MethodName) prog_6_method_15_code 4 (some .int) ({ frames := 3, cells := 0, slots := 0, locals := 41 } : Room) [] #[(.ref a1), (.int (0 : Int32))] h0 (fun v h L => v = some (.int (VCV pk 1 2 4 8 16)) ∧ h = h0 ∧ L = []) := by
  obtain ⟨ea, l0, l1, l2, _, _, _, _, _, _, _, _, _, f1, f2, f3, f4, f5, f6, f7⟩ := HI
  obtain ⟨e, b0, b1, b2, b3, b4, El, Fs, Fe, Ae, Eb0, Fb0, Eb1, Fb1, Eb2, Fb2, Eb3, Fb3, Eb4, Fb4, -⟩ := f5
  exact cvi l Z a0 hw a1 (0) bo os xk pk ic ea _ l0 e b0 b1 b2 b3 b4 1 2 4 8 16 h0 n0 Z0 f1 El Eb0 Eb1 Eb2 Eb3 Eb4 F_occupied_a1 F_icons_a1 f2 f3 Fs Fe Fb0 Fb1 Fb2 Fb3 Fb4 A_bo A_xk f4 Ae (by decide) hj rfl (by decide)
theorem vi1 (l : Launch) (Z : State) (a0 : Array Value) (hw : ∀ d ∈ tables_1, d.before a0 Z = true) (a1 : Addr) (bo : Addr) (ic : Addr) (xk : Addr) (pk : Nat) (os : (List Value)) (h0 : Heap) (n0 : Nat) (Z0 : n0 ≤ h0.size) (F_occupied_a1 : Fld Z h0 a1 "com/example/craterworks/craterworks/SharesStation" "occupied" "[[Z" (.ref bo)) (F_icons_a1 : Fld Z h0 a1 "com/example/craterworks/craterworks/SharesStation" "icons" "Ljava/util/List;" (.ref ic)) (A_bo : Av Z h0 bo (.array .boolean) os) (A_xk : Av Z h0 xk .boolean [(.int (cx pk 0)), (.int (cx pk 1)), (.int (cx pk 2)), (.int (cx pk 3)), (.int (cx pk 4))]) (hj : os[(1 : Int32).toNatClampNeg]? = some (.ref xk)) (HI : Ic Z h0 ic) :
    Con l Z (⟨"com/example/craterworks/craterworks/SharesStation", "visibleCoins", "(I)I"⟩ : MethodName) prog_6_method_15_code 4 (some .int) ({ frames := 3, cells := 0, slots := 0, locals := 41 } : Room) [] #[(.ref a1), (.int (1 : Int32))] h0 (fun v h L => v = some (.int (VCV pk 32 64 128 256 512)) ∧ h = h0 ∧ L = []) := by
  obtain ⟨ea, l0, l1, l2, _, _, _, _, _, _, _, _, _, f1, f2, f3, f4, f5, f6, f7⟩ := HI
  obtain ⟨e, b0, b1, b2, b3, b4, El, Fs, Fe, Ae, Eb0, Fb0, Eb1, Fb1, Eb2, Fb2, Eb3, Fb3, Eb4, Fb4, -⟩ := f6
  exact cvi l Z a0 hw a1 (1) bo os xk pk ic ea _ l1 e b0 b1 b2 b3 b4 32 64 128 256 512 h0 n0 Z0 f1 El Eb0 Eb1 Eb2 Eb3 Eb4 F_occupied_a1 F_icons_a1 f2 f3 Fs Fe Fb0 Fb1 Fb2 Fb3 Fb4 A_bo A_xk f4 Ae (by decide) hj rfl (by decide)
theorem vi2 (l : Launch) (Z : State) (a0 : Array Value) (hw : ∀ d ∈ tables_1, d.before a0 Z = true) (a1 : Addr) (bo : Addr) (ic : Addr) (xk : Addr) (pk : Nat) (os : (List Value)) (h0 : Heap) (n0 : Nat) (Z0 : n0 ≤ h0.size) (F_occupied_a1 : Fld Z h0 a1 "com/example/craterworks/craterworks/SharesStation" "occupied" "[[Z" (.ref bo)) (F_icons_a1 : Fld Z h0 a1 "com/example/craterworks/craterworks/SharesStation" "icons" "Ljava/util/List;" (.ref ic)) (A_bo : Av Z h0 bo (.array .boolean) os) (A_xk : Av Z h0 xk .boolean [(.int (cx pk 0)), (.int (cx pk 1)), (.int (cx pk 2)), (.int (cx pk 3)), (.int (cx pk 4))]) (hj : os[(2 : Int32).toNatClampNeg]? = some (.ref xk)) (HI : Ic Z h0 ic) :
    Con l Z (⟨"com/example/craterworks/craterworks/SharesStation", "visibleCoins", "(I)I"⟩ : MethodName) prog_6_method_15_code 4 (some .int) ({ frames := 3, cells := 0, slots := 0, locals := 41 } : Room) [] #[(.ref a1), (.int (2 : Int32))] h0 (fun v h L => v = some (.int (VCV pk 1024 2048 4096 8192 16384)) ∧ h = h0 ∧ L = []) := by
  obtain ⟨ea, l0, l1, l2, _, _, _, _, _, _, _, _, _, f1, f2, f3, f4, f5, f6, f7⟩ := HI
  obtain ⟨e, b0, b1, b2, b3, b4, El, Fs, Fe, Ae, Eb0, Fb0, Eb1, Fb1, Eb2, Fb2, Eb3, Fb3, Eb4, Fb4, -⟩ := f7
  exact cvi l Z a0 hw a1 (2) bo os xk pk ic ea _ l2 e b0 b1 b2 b3 b4 1024 2048 4096 8192 16384 h0 n0 Z0 f1 El Eb0 Eb1 Eb2 Eb3 Eb4 F_occupied_a1 F_icons_a1 f2 f3 Fs Fe Fb0 Fb1 Fb2 Fb3 Fb4 A_bo A_xk f4 Ae (by decide) hj rfl (by decide)
def wvs_1 (p0 : Nat) (p1 : Nat) : Int32 := (((0 : Int32) + (VCV p0 1 2 4 8 16)) + (VCV p1 32 64 128 256 512))
def wvs_2 (p0 : Nat) (p1 : Nat) (p2 : Nat) : Int32 := ((wvs_1 p0 p1) + (VCV p2 1024 2048 4096 8192 16384))
def VSV (p0 p1 p2 : Nat) : Int32 := (wvs_2 p0 p1 p2)
theorem d_prog_6_14_0 : decode prog_6_method_14_code 0 = .ok (.iconst 0, 1) := by decide +kernel
theorem d_prog_6_14_1 : decode prog_6_method_14_code 1 = .ok (.istore_n 1, 1) := by decide +kernel
theorem d_prog_6_14_2 : decode prog_6_method_14_code 2 = .ok (.iconst 0, 1) := by decide +kernel
theorem d_prog_6_14_3 : decode prog_6_method_14_code 3 = .ok (.istore_n 2, 1) := by decide +kernel
theorem d_prog_6_14_4 : decode prog_6_method_14_code 4 = .ok (.iload_n 2, 1) := by decide +kernel
theorem d_prog_6_14_5 : decode prog_6_method_14_code 5 = .ok (.iconst 3, 1) := by decide +kernel
theorem d_prog_6_14_6 : decode prog_6_method_14_code 6 = .ok (.if_icmp .ge 17, 3) := by decide +kernel
theorem d_prog_6_14_9 : decode prog_6_method_14_code 9 = .ok (.iload_n 1, 1) := by decide +kernel
theorem d_prog_6_14_10 : decode prog_6_method_14_code 10 = .ok (.aload_n 0, 1) := by decide +kernel
theorem d_prog_6_14_11 : decode prog_6_method_14_code 11 = .ok (.iload_n 2, 1) := by decide +kernel
theorem d_prog_6_14_12 : decode prog_6_method_14_code 12 = .ok (.invokevirtual 54, 3) := by decide +kernel
theorem d_prog_6_14_15 : decode prog_6_method_14_code 15 = .ok (.iadd, 1) := by decide +kernel
theorem d_prog_6_14_16 : decode prog_6_method_14_code 16 = .ok (.istore_n 1, 1) := by decide +kernel
theorem d_prog_6_14_17 : decode prog_6_method_14_code 17 = .ok (.iinc 2 1, 3) := by decide +kernel
theorem d_prog_6_14_20 : decode prog_6_method_14_code 20 = .ok (.goto (-16), 3) := by decide +kernel
theorem d_prog_6_14_23 : decode prog_6_method_14_code 23 = .ok (.iload_n 1, 1) := by decide +kernel
theorem d_prog_6_14_24 : decode prog_6_method_14_code 24 = .ok (.ireturn, 1) := by decide +kernel
theorem efvs (m : MethodId) (x0 : Addr) : entryFrame m #[(.ref x0)] 3 = mkF m 0 #[.val (.ref x0), .unset, .unset] [] := by first | (simp [entryFrame, mkF, argsToLocals, Value.category]; done) | rfl
set_option maxRecDepth 65536 in
set_option maxHeartbeats 40000000 in
theorem cvs (l : Launch) (Z : State) (a0 : Array Value) (hw : ∀ d ∈ tables_1, d.before a0 Z = true) (a1 : Addr) (bo : Addr) (ic : Addr) (x0 : Addr) (x1 : Addr) (x2 : Addr) (p0 : Nat) (p1 : Nat) (p2 : Nat) (h0 : Heap) (n0 : Nat) (Z0 : n0 ≤ h0.size) (E_a1 : Exa Z h0 a1 "com/example/craterworks/craterworks/SharesStation") (F_occupied_a1 : Fld Z h0 a1 "com/example/craterworks/craterworks/SharesStation" "occupied" "[[Z" (.ref bo)) (F_icons_a1 : Fld Z h0 a1 "com/example/craterworks/craterworks/SharesStation" "icons" "Ljava/util/List;" (.ref ic)) (A_bo : Av Z h0 bo (.array .boolean) [(.ref x0), (.ref x1), (.ref x2)]) (A_x0 : Av Z h0 x0 .boolean [(.int (cx p0 0)), (.int (cx p0 1)), (.int (cx p0 2)), (.int (cx p0 3)), (.int (cx p0 4))]) (A_x1 : Av Z h0 x1 .boolean [(.int (cx p1 0)), (.int (cx p1 1)), (.int (cx p1 2)), (.int (cx p1 3)), (.int (cx p1 4))]) (A_x2 : Av Z h0 x2 .boolean [(.int (cx p2 0)), (.int (cx p2 1)), (.int (cx p2 2)), (.int (cx p2 3)), (.int (cx p2 4))]) (HI : Ic Z h0 ic) :
    Con l Z (⟨"com/example/craterworks/craterworks/SharesStation", "visibleCoins", "()I"⟩ : MethodName) prog_6_method_14_code 3 (some .int) ({ frames := 4, cells := 0, slots := 0, locals := 57 } : Room) [] #[(.ref a1)] h0 (fun v h L => v = some (.int (VSV p0 p1 p2)) ∧ h = h0 ∧ L = []) := by
  refine Con.of (plainFor_of_name pn_com_example_craterworks_craterworks_SharesStation) #[.val (.ref a1), .unset, .unset] (fun m => efvs m a1) ?_
  intro p e s m below meth c s₁ K hx hby hml hown hnm hret hlk hZ X0 e0 hnd
  have N0 := Fr.nil n0
  refine m_iconst K X0.here hx hby (0 : Int32) d_prog_6_14_0 rfl rfl ?_
  refine m_istoreN K X0.here hx hby #[.val (.ref a1), .val (.int (0 : Int32)), .unset] d_prog_6_14_1 rfl rfl ?_
  refine m_iconst K X0.here hx hby (0 : Int32) d_prog_6_14_2 rfl rfl ?_
  refine m_istoreN K X0.here hx hby #[.val (.ref a1), .val (.int (0 : Int32)), .val (.int (0 : Int32))] d_prog_6_14_3 rfl rfl ?_
  refine m_iloadN K X0.here hx hby d_prog_6_14_4 rfl rfl ?_
  refine m_iconst K X0.here hx hby (3 : Int32) d_prog_6_14_5 rfl rfl ?_
  refine m_icmpN K X0.here hx hby (q := 9) d_prog_6_14_6 (tlt (by decide : (0 : Int32) < (3 : Int32))).2.1 rfl ?_
  refine m_iloadN K X0.here hx hby d_prog_6_14_9 rfl rfl ?_
  refine m_aloadN K X0.here hx hby d_prog_6_14_10 rfl rfl rfl ?_
  refine m_iloadN K X0.here hx hby d_prog_6_14_11 rfl rfl ?_
  refine k_callV K X0 hx hby hZ a1 [(.int (0 : Int32))] [(.int (0 : Int32))] hown (hw _ (List.mem_of_getElem? (i := 122) rfl)) (hw _ (List.mem_of_getElem? (i := 123) rfl)) (notFace_of_selects (args := #[]) (mvT hZ.wide (hw _ (List.mem_of_getElem? (i := 125) rfl)))) (hw _ (List.mem_of_getElem? (i := 125) rfl)) (hw _ (List.mem_of_getElem? (i := 124) rfl)) (hw _ (List.mem_of_getElem? (i := 93) rfl)) (hw _ (List.mem_of_getElem? (i := 126) rfl)) (vi0 l Z a0 hw a1 bo ic x0 p0 [(.ref x0), (.ref x1), (.ref x2)] h0 n0 Z0 F_occupied_a1 F_icons_a1 A_bo A_x0 rfl HI) e0 E_a1 rfl rfl pd_0 rfl d_prog_6_14_12 (by rw [hml]; rfl) rfl (by decide) (by decide) (Nat.le_of_ble_eq_true rfl) (by decide) (by decide) fun v1 T1 L1 X1 q1 => ?_
  obtain ⟨rfl, e1, rfl⟩ := q1
  replace X1 := own_px X1
  refine k_some K (w := (.int (VCV p0 1 2 4 8 16))) ?_
  refine m_iadd K X1.here hx hby ((0 : Int32) + (VCV p0 1 2 4 8 16)) d_prog_6_14_15 rfl rfl ?_
  refine m_istoreN K X1.here hx hby #[.val (.ref a1), .val (.int ((0 : Int32) + (VCV p0 1 2 4 8 16))), .val (.int (0 : Int32))] d_prog_6_14_16 rfl rfl ?_
  refine m_iinc K X1.here hx hby #[.val (.ref a1), .val (.int ((0 : Int32) + (VCV p0 1 2 4 8 16))), .val (.int (1 : Int32))] d_prog_6_14_17 rfl rfl rfl ?_
  refine m_goto K X1.here hx hby (q := 4) d_prog_6_14_20 (by decide) rfl ?_
  refine m_iloadN K X1.here hx hby d_prog_6_14_4 rfl rfl ?_
  refine m_iconst K X1.here hx hby (3 : Int32) d_prog_6_14_5 rfl rfl ?_
  refine m_icmpN K X1.here hx hby (q := 9) d_prog_6_14_6 (tlt (by decide : (1 : Int32) < (3 : Int32))).2.1 rfl ?_
  refine m_iloadN K X1.here hx hby d_prog_6_14_9 rfl rfl ?_
  refine m_aloadN K X1.here hx hby d_prog_6_14_10 rfl rfl rfl ?_
  refine m_iloadN K X1.here hx hby d_prog_6_14_11 rfl rfl ?_
  refine k_callV K X1 hx hby hZ a1 [(.int (1 : Int32))] [(.int ((0 : Int32) + (VCV p0 1 2 4 8 16)))] hown (hw _ (List.mem_of_getElem? (i := 122) rfl)) (hw _ (List.mem_of_getElem? (i := 123) rfl)) (notFace_of_selects (args := #[]) (mvT hZ.wide (hw _ (List.mem_of_getElem? (i := 125) rfl)))) (hw _ (List.mem_of_getElem? (i := 125) rfl)) (hw _ (List.mem_of_getElem? (i := 124) rfl)) (hw _ (List.mem_of_getElem? (i := 93) rfl)) (hw _ (List.mem_of_getElem? (i := 126) rfl)) (vi1 l Z a0 hw a1 bo ic x1 p1 [(.ref x0), (.ref x1), (.ref x2)] h0 n0 Z0 F_occupied_a1 F_icons_a1 A_bo A_x1 rfl HI) e1 E_a1 rfl rfl pd_0 rfl d_prog_6_14_12 (by rw [hml]; rfl) rfl (by decide) (by decide) (Nat.le_of_ble_eq_true rfl) (by decide) (by decide) fun v2 T2 L2 X2 q2 => ?_
  obtain ⟨rfl, e2, rfl⟩ := q2
  replace X2 := own_px X2
  refine k_some K (w := (.int (VCV p1 32 64 128 256 512))) ?_
  refine m_iadd K X2.here hx hby (wvs_1 p0 p1) d_prog_6_14_15 rfl rfl ?_
  refine m_istoreN K X2.here hx hby #[.val (.ref a1), .val (.int (wvs_1 p0 p1)), .val (.int (1 : Int32))] d_prog_6_14_16 rfl rfl ?_
  refine m_iinc K X2.here hx hby #[.val (.ref a1), .val (.int (wvs_1 p0 p1)), .val (.int (2 : Int32))] d_prog_6_14_17 rfl rfl rfl ?_
  refine m_goto K X2.here hx hby (q := 4) d_prog_6_14_20 (by decide) rfl ?_
  refine m_iloadN K X2.here hx hby d_prog_6_14_4 rfl rfl ?_
  refine m_iconst K X2.here hx hby (3 : Int32) d_prog_6_14_5 rfl rfl ?_
  refine m_icmpN K X2.here hx hby (q := 9) d_prog_6_14_6 (tlt (by decide : (2 : Int32) < (3 : Int32))).2.1 rfl ?_
  refine m_iloadN K X2.here hx hby d_prog_6_14_9 rfl rfl ?_
  refine m_aloadN K X2.here hx hby d_prog_6_14_10 rfl rfl rfl ?_
  refine m_iloadN K X2.here hx hby d_prog_6_14_11 rfl rfl ?_
  refine k_callV K X2 hx hby hZ a1 [(.int (2 : Int32))] [(.int (wvs_1 p0 p1))] hown (hw _ (List.mem_of_getElem? (i := 122) rfl)) (hw _ (List.mem_of_getElem? (i := 123) rfl)) (notFace_of_selects (args := #[]) (mvT hZ.wide (hw _ (List.mem_of_getElem? (i := 125) rfl)))) (hw _ (List.mem_of_getElem? (i := 125) rfl)) (hw _ (List.mem_of_getElem? (i := 124) rfl)) (hw _ (List.mem_of_getElem? (i := 93) rfl)) (hw _ (List.mem_of_getElem? (i := 126) rfl)) (vi2 l Z a0 hw a1 bo ic x2 p2 [(.ref x0), (.ref x1), (.ref x2)] h0 n0 Z0 F_occupied_a1 F_icons_a1 A_bo A_x2 rfl HI) e2 E_a1 rfl rfl pd_0 rfl d_prog_6_14_12 (by rw [hml]; rfl) rfl (by decide) (by decide) (Nat.le_of_ble_eq_true rfl) (by decide) (by decide) fun v3 T3 L3 X3 q3 => ?_
  obtain ⟨rfl, e3, rfl⟩ := q3
  replace X3 := own_px X3
  refine k_some K (w := (.int (VCV p2 1024 2048 4096 8192 16384))) ?_
  refine m_iadd K X3.here hx hby (wvs_2 p0 p1 p2) d_prog_6_14_15 rfl rfl ?_
  refine m_istoreN K X3.here hx hby #[.val (.ref a1), .val (.int (wvs_2 p0 p1 p2)), .val (.int (2 : Int32))] d_prog_6_14_16 rfl rfl ?_
  refine m_iinc K X3.here hx hby #[.val (.ref a1), .val (.int (wvs_2 p0 p1 p2)), .val (.int (3 : Int32))] d_prog_6_14_17 rfl rfl rfl ?_
  refine m_goto K X3.here hx hby (q := 4) d_prog_6_14_20 (by decide) rfl ?_
  refine m_iloadN K X3.here hx hby d_prog_6_14_4 rfl rfl ?_
  refine m_iconst K X3.here hx hby (3 : Int32) d_prog_6_14_5 rfl rfl ?_
  refine m_icmpY K X3.here hx hby (q := 23) d_prog_6_14_6 (flt (by decide : ¬ ((3 : Int32) < (3 : Int32)))).2.1 (by decide) rfl ?_
  refine m_iloadN K X3.here hx hby d_prog_6_14_23 rfl rfl ?_
  exact Go.retI X3 hx hby hlk hret d_prog_6_14_24 (by decide) (by decide) (⟨rfl, e3, rfl⟩)
def Sn (Z : State) (h : Heap) (n0 : Nat) (a : Addr) (p0 p1 p2 : Nat) : Prop := ∃ (bo bu x0 x1 x2 ic : Addr) (h1 : Heap), Exa Z h a "com/example/craterworks/craterworks/SharesStation" ∧ Fld Z h a "com/example/craterworks/craterworks/SharesStation" "occupied" "[[Z" (.ref bo) ∧ Fld Z h a "com/example/craterworks/craterworks/SharesStation" "uncovered" "[Z" (.ref bu) ∧ Fld Z h a "com/example/craterworks/craterworks/SharesStation" "icons" "Ljava/util/List;" (.ref ic) ∧ Av Z h bo (.array .boolean) [.ref x0, .ref x1, .ref x2] ∧ Av Z h x0 .boolean [.int (cx p0 0), .int (cx p0 1), .int (cx p0 2), .int (cx p0 3), .int (cx p0 4)] ∧ Av Z h x1 .boolean [.int (cx p1 0), .int (cx p1 1), .int (cx p1 2), .int (cx p1 3), .int (cx p1 4)] ∧ Av Z h x2 .boolean [.int (cx p2 0), .int (cx p2 1), .int (cx p2 2), .int (cx p2 3), .int (cx p2 4)] ∧ Av Z h bu .boolean [.int (ux p0), .int (ux p1), .int (ux p2)] ∧ (a ≠ x0 ∧ a ≠ x1 ∧ a ≠ x2 ∧ a ≠ bu ∧ bo ≠ x0 ∧ bo ≠ x1 ∧ bo ≠ x2 ∧ bo ≠ bu ∧ x0 ≠ bu ∧ x1 ≠ bu ∧ x2 ≠ bu ∧ x0 ≠ x1 ∧ x0 ≠ x2 ∧ x1 ≠ x2) ∧ (n0 ≤ x0 ∧ n0 ≤ x1 ∧ n0 ≤ x2 ∧ n0 ≤ bu) ∧ (h1.size ≤ x0 ∧ h1.size ≤ x1 ∧ h1.size ≤ x2 ∧ h1.size ≤ bu) ∧ Ext h1 h ∧ Ic Z h1 ic
theorem Sn.exa {Z : State} {h : Heap} {n0 : Nat} {a : Addr} {p0 p1 p2 : Nat} (F : Sn Z h n0 a p0 p1 p2) : Exa Z h a "com/example/craterworks/craterworks/SharesStation" := by
  obtain ⟨_, _, _, _, _, _, _, E, -⟩ := F
  exact E
theorem takeP (l : Launch) (Z : State) (a0 : Array Value) (hw : ∀ d ∈ tables_1, d.before a0 Z = true) (a1 : Addr) (j : Int32) (bo : Addr) (bu : Addr) (xk : Addr) (os : (List Value)) (ub : (List Value)) (p : Nat) (h0 : Heap) (n0 : Nat) (Z0 : n0 ≤ h0.size) (E_a1 : Exa Z h0 a1 "com/example/craterworks/craterworks/SharesStation") (F_occupied_a1 : Fld Z h0 a1 "com/example/craterworks/craterworks/SharesStation" "occupied" "[[Z" (.ref bo)) (F_uncovered_a1 : Fld Z h0 a1 "com/example/craterworks/craterworks/SharesStation" "uncovered" "[Z" (.ref bu)) (A_bo : Av Z h0 bo (.array .boolean) os) (A_xk : Av Z h0 xk .boolean [.int (cx p 0), .int (cx p 1), .int (cx p 2), .int (cx p 3), .int (cx p 4)]) (A_bu : Av Z h0 bu .boolean ub) (g_xk : n0 ≤ xk) (g_bu : n0 ≤ bu) (ne_a1_xk : a1 ≠ xk) (ne_a1_bu : a1 ≠ bu) (ne_bo_xk : bo ≠ xk) (ne_bo_bu : bo ≠ bu) (ne_xk_bu : xk ≠ bu) (hj0 : ¬ j < 0) (hj : os[j.toNatClampNeg]? = some (.ref xk)) (hu : ub[j.toNatClampNeg]? = some (.int (ux p))) (hp : p ≤ 4 ∨ p = 6) :
    Con l Z (⟨"com/example/craterworks/craterworks/SharesStation", "take", "(I)V"⟩ : MethodName) prog_6_method_10_code 3 none ({ frames := 0, cells := 0, slots := 0, locals := 0 } : Room) [] #[.ref a1, .int j] h0 (fun v h L => v = none ∧ Fr n0 L ∧ Keep h0 h [xk, bu] ∧ Av Z h xk .boolean [.int (cx (tk1 p) 0), .int (cx (tk1 p) 1), .int (cx (tk1 p) 2), .int (cx (tk1 p) 3), .int (cx (tk1 p) 4)] ∧ Av Z h bu .boolean (ub.set j.toNatClampNeg (.int (ux (tk1 p))))) := by
  match p, hp with
  | 0, _ =>
    have t := ctk0 l Z a0 hw a1 j bo bu xk os ub h0 n0 Z0 E_a1 F_occupied_a1 F_uncovered_a1 A_bo A_xk A_bu g_xk g_bu ne_a1_xk ne_a1_bu ne_bo_xk ne_bo_bu ne_xk_bu hj0 hj hu
    rw [show nar .boolean (0 : Int32) = 0 from by decide] at t
    exact t
  | 1, _ =>
    have t := ctk1 l Z a0 hw a1 j bo bu xk os ub h0 n0 Z0 E_a1 F_occupied_a1 F_uncovered_a1 A_bo A_xk A_bu g_xk g_bu ne_a1_xk ne_a1_bu ne_bo_xk ne_bo_bu ne_xk_bu hj0 hj hu
    rw [show nar .boolean (0 : Int32) = 0 from by decide] at t
    exact t
  | 2, _ =>
    have t := ctk2 l Z a0 hw a1 j bo bu xk os ub h0 n0 Z0 E_a1 F_occupied_a1 F_uncovered_a1 A_bo A_xk A_bu g_xk g_bu ne_a1_xk ne_a1_bu ne_bo_xk ne_bo_bu ne_xk_bu hj0 hj hu
    rw [show nar .boolean (0 : Int32) = 0 from by decide] at t
    exact t
  | 3, _ =>
    have t := ctk3 l Z a0 hw a1 j bo bu xk os ub h0 n0 Z0 E_a1 F_occupied_a1 F_uncovered_a1 A_bo A_xk A_bu g_xk g_bu ne_a1_xk ne_a1_bu ne_bo_xk ne_bo_bu ne_xk_bu hj0 hj hu
    rw [show nar .boolean (0 : Int32) = 0 from by decide] at t
    exact t
  | 4, _ =>
    have t := ctk4 l Z a0 hw a1 j bo bu xk os ub h0 n0 Z0 E_a1 F_occupied_a1 F_uncovered_a1 A_bo A_xk A_bu g_xk g_bu ne_a1_xk ne_a1_bu ne_bo_xk ne_bo_bu ne_xk_bu hj0 hj hu
    rw [show nar .boolean (1 : Int32) = 1 from by decide] at t
    exact t
  | 6, _ =>
    have t := ctk6 l Z a0 hw a1 j bo bu xk os ub h0 n0 Z0 E_a1 F_occupied_a1 F_uncovered_a1 A_bo A_xk A_bu g_xk g_bu ne_a1_xk ne_a1_bu ne_bo_xk ne_bo_bu ne_xk_bu hj0 hj hu
    rw [show nar .boolean (1 : Int32) = 1 from by decide] at t
    exact t
  | 5, h => exact absurd h (by decide)
  | q + 7, h => exact absurd h (by omega)
def tk (j : Int32) (i : Int32) (p : Nat) : Nat := if j = i then tk1 p else p
def cs (j : Int32) (i : Int32) (p : Nat) : Nat := if j = i then 6 else p
def okc (j : Int32) (p0 p1 p2 : Nat) : Bool := let p := if j = 0 then p0 else if j = 1 then p1 else p2; decide (p ≤ 4) || decide (p = 6)
def ok5 (j : Int32) (p0 p1 p2 : Nat) : Bool := let p := if j = 0 then p0 else if j = 1 then p1 else p2; decide (p = 5)
theorem take_s (l : Launch) (Z : State) (a0 : Array Value) (hw : ∀ d ∈ tables_1, d.before a0 Z = true) (a : Addr) (j : Int32) (p0 p1 p2 : Nat) (h0 : Heap) (n0 : Nat) (Z0 : n0 ≤ h0.size) (hj : j = 0 ∨ j = 1 ∨ j = 2) (hp : okc j p0 p1 p2 = true) (F : Sn Z h0 n0 a p0 p1 p2) :
    Con l Z (⟨"com/example/craterworks/craterworks/SharesStation", "take", "(I)V"⟩ : MethodName) prog_6_method_10_code 3 none ({ frames := 0, cells := 0, slots := 0, locals := 0 } : Room) [] #[.ref a, .int j] h0 (fun v h L => v = none ∧ Fr n0 L ∧ h0.size ≤ h.size ∧ Sn Z h n0 a (tk j 0 p0) (tk j 1 p1) (tk j 2 p2)) := by
  obtain ⟨bo, bu, x0, x1, x2, ic, h1, Ea, Fo, Fu, Fi, Ab, A0, A1, A2, Au, ⟨na0, na1, na2, nau, nb0, nb1, nb2, nbu, n0u, n1u, n2u, n01, n02, n12⟩, ⟨g0, g1, g2, gu⟩, ⟨z0, z1, z2, zu⟩, EE, HI⟩ := F
  rcases hj with rfl | rfl | rfl
  · refine (takeP l Z a0 hw a (0) bo bu x0 _ _ p0 h0 n0 Z0 Ea Fo Fu Ab A0 Au g0 gu na0 nau nb0 nbu n0u (by decide) rfl rfl (by simpa [okc] using hp)).mono fun v h L ⟨hv, N, K, A, U⟩ => ⟨hv, N, K.1, ?_⟩
    exact ⟨bo, bu, x0, x1, x2, ic, h1, Ea.keep K, Fo.keep K (ninS na0 (ninS nau nin0)), Fu.keep K (ninS na0 (ninS nau nin0)), Fi.keep K (ninS na0 (ninS nau nin0)), Ab.keep K (ninS nb0 (ninS nbu nin0)), A, A1.keep K (ninS n01.symm (ninS n1u nin0)), A2.keep K (ninS n02.symm (ninS n2u nin0)), U, ⟨na0, na1, na2, nau, nb0, nb1, nb2, nbu, n0u, n1u, n2u, n01, n02, n12⟩, ⟨g0, g1, g2, gu⟩, ⟨z0, z1, z2, zu⟩, own_ek EE K (allS z0 (allS zu all0)), HI⟩
  · refine (takeP l Z a0 hw a (1) bo bu x1 _ _ p1 h0 n0 Z0 Ea Fo Fu Ab A1 Au g1 gu na1 nau nb1 nbu n1u (by decide) rfl rfl (by simpa [okc] using hp)).mono fun v h L ⟨hv, N, K, A, U⟩ => ⟨hv, N, K.1, ?_⟩
    exact ⟨bo, bu, x0, x1, x2, ic, h1, Ea.keep K, Fo.keep K (ninS na1 (ninS nau nin0)), Fu.keep K (ninS na1 (ninS nau nin0)), Fi.keep K (ninS na1 (ninS nau nin0)), Ab.keep K (ninS nb1 (ninS nbu nin0)), A0.keep K (ninS n01 (ninS n0u nin0)), A, A2.keep K (ninS n12.symm (ninS n2u nin0)), U, ⟨na0, na1, na2, nau, nb0, nb1, nb2, nbu, n0u, n1u, n2u, n01, n02, n12⟩, ⟨g0, g1, g2, gu⟩, ⟨z0, z1, z2, zu⟩, own_ek EE K (allS z1 (allS zu all0)), HI⟩
  · refine (takeP l Z a0 hw a (2) bo bu x2 _ _ p2 h0 n0 Z0 Ea Fo Fu Ab A2 Au g2 gu na2 nau nb2 nbu n2u (by decide) rfl rfl (by simpa [okc] using hp)).mono fun v h L ⟨hv, N, K, A, U⟩ => ⟨hv, N, K.1, ?_⟩
    exact ⟨bo, bu, x0, x1, x2, ic, h1, Ea.keep K, Fo.keep K (ninS na2 (ninS nau nin0)), Fu.keep K (ninS na2 (ninS nau nin0)), Fi.keep K (ninS na2 (ninS nau nin0)), Ab.keep K (ninS nb2 (ninS nbu nin0)), A0.keep K (ninS n02 (ninS n0u nin0)), A1.keep K (ninS n12 (ninS n1u nin0)), A, U, ⟨na0, na1, na2, nau, nb0, nb1, nb2, nbu, n0u, n1u, n2u, n01, n02, n12⟩, ⟨g0, g1, g2, gu⟩, ⟨z0, z1, z2, zu⟩, own_ek EE K (allS z2 (allS zu all0)), HI⟩
theorem send_s (l : Launch) (Z : State) (a0 : Array Value) (hw : ∀ d ∈ tables_1, d.before a0 Z = true) (a : Addr) (j : Int32) (p0 p1 p2 : Nat) (h0 : Heap) (n0 : Nat) (Z0 : n0 ≤ h0.size) (hj : j = 0 ∨ j = 1 ∨ j = 2) (hp : ok5 j p0 p1 p2 = true) (F : Sn Z h0 n0 a p0 p1 p2) :
    Con l Z (⟨"com/example/craterworks/craterworks/SharesStation", "sendHome", "(I)V"⟩ : MethodName) prog_6_method_12_code 3 none ({ frames := 0, cells := 0, slots := 0, locals := 0 } : Room) [] #[.ref a, .int j] h0 (fun v h L => v = none ∧ Fr n0 L ∧ h0.size ≤ h.size ∧ Sn Z h n0 a (cs j 0 p0) (cs j 1 p1) (cs j 2 p2)) := by
  obtain ⟨bo, bu, x0, x1, x2, ic, h1, Ea, Fo, Fu, Fi, Ab, A0, A1, A2, Au, ⟨na0, na1, na2, nau, nb0, nb1, nb2, nbu, n0u, n1u, n2u, n01, n02, n12⟩, ⟨g0, g1, g2, gu⟩, ⟨z0, z1, z2, zu⟩, EE, HI⟩ := F
  rcases hj with rfl | rfl | rfl
  · obtain rfl : p0 = 5 := by simpa [ok5] using hp
    refine (csh5 l Z a0 hw a (0) bo x0 _ h0 n0 Z0 Ea Fo Ab A0 g0 na0 nb0 (by decide) rfl).mono fun v h L ⟨hv, N, K, A⟩ => ⟨hv, N, K.1, ?_⟩
    exact ⟨bo, bu, x0, x1, x2, ic, h1, Ea.keep K, Fo.keep K (ninS na0 nin0), Fu.keep K (ninS na0 nin0), Fi.keep K (ninS na0 nin0), Ab.keep K (ninS nb0 nin0), A, A1.keep K (ninS n01.symm nin0), A2.keep K (ninS n02.symm nin0), Au.keep K (ninS n0u.symm nin0), ⟨na0, na1, na2, nau, nb0, nb1, nb2, nbu, n0u, n1u, n2u, n01, n02, n12⟩, ⟨g0, g1, g2, gu⟩, ⟨z0, z1, z2, zu⟩, own_ek EE K (allS z0 all0), HI⟩
  · obtain rfl : p1 = 5 := by simpa [ok5] using hp
    refine (csh5 l Z a0 hw a (1) bo x1 _ h0 n0 Z0 Ea Fo Ab A1 g1 na1 nb1 (by decide) rfl).mono fun v h L ⟨hv, N, K, A⟩ => ⟨hv, N, K.1, ?_⟩
    exact ⟨bo, bu, x0, x1, x2, ic, h1, Ea.keep K, Fo.keep K (ninS na1 nin0), Fu.keep K (ninS na1 nin0), Fi.keep K (ninS na1 nin0), Ab.keep K (ninS nb1 nin0), A0.keep K (ninS n01 nin0), A, A2.keep K (ninS n12.symm nin0), Au.keep K (ninS n1u.symm nin0), ⟨na0, na1, na2, nau, nb0, nb1, nb2, nbu, n0u, n1u, n2u, n01, n02, n12⟩, ⟨g0, g1, g2, gu⟩, ⟨z0, z1, z2, zu⟩, own_ek EE K (allS z1 all0), HI⟩
  · obtain rfl : p2 = 5 := by simpa [ok5] using hp
    refine (csh5 l Z a0 hw a (2) bo x2 _ h0 n0 Z0 Ea Fo Ab A2 g2 na2 nb2 (by decide) rfl).mono fun v h L ⟨hv, N, K, A⟩ => ⟨hv, N, K.1, ?_⟩
    exact ⟨bo, bu, x0, x1, x2, ic, h1, Ea.keep K, Fo.keep K (ninS na2 nin0), Fu.keep K (ninS na2 nin0), Fi.keep K (ninS na2 nin0), Ab.keep K (ninS nb2 nin0), A0.keep K (ninS n02 nin0), A1.keep K (ninS n12 nin0), A, Au.keep K (ninS n2u.symm nin0), ⟨na0, na1, na2, nau, nb0, nb1, nb2, nbu, n0u, n1u, n2u, n01, n02, n12⟩, ⟨g0, g1, g2, gu⟩, ⟨z0, z1, z2, zu⟩, own_ek EE K (allS z2 all0), HI⟩
theorem vis_s (l : Launch) (Z : State) (a0 : Array Value) (hw : ∀ d ∈ tables_1, d.before a0 Z = true) (a : Addr) (p0 p1 p2 : Nat) (h0 : Heap) (n0 : Nat) (Z0 : n0 ≤ h0.size) (F : Sn Z h0 n0 a p0 p1 p2) :
    Con l Z (⟨"com/example/craterworks/craterworks/SharesStation", "visibleCoins", "()I"⟩ : MethodName) prog_6_method_14_code 3 (some .int) ({ frames := 4, cells := 0, slots := 0, locals := 57 } : Room) [] #[.ref a] h0 (fun v h L => v = some (.int (VSV p0 p1 p2)) ∧ h = h0 ∧ L = []) := by
  obtain ⟨bo, bu, x0, x1, x2, ic, h1, Ea, Fo, Fu, Fi, Ab, A0, A1, A2, Au, ⟨na0, na1, na2, nau, nb0, nb1, nb2, nbu, n0u, n1u, n2u, n01, n02, n12⟩, ⟨g0, g1, g2, gu⟩, ⟨z0, z1, z2, zu⟩, EE, HI⟩ := F
  exact cvs l Z a0 hw a bo ic x0 x1 x2 p0 p1 p2 h0 n0 Z0 Ea Fo Fi Ab A0 A1 A2 (HI.ext EE)
theorem home_s (l : Launch) (Z : State) (a0 : Array Value) (hw : ∀ d ∈ tables_1, d.before a0 Z = true) (a : Addr) (p0 p1 p2 : Nat) (h0 : Heap) (n0 : Nat) (Z0 : n0 ≤ h0.size) (hz : MBV p0 p1 p2 = 0) (F : Sn Z h0 n0 a p0 p1 p2) :
    Con l Z (⟨"com/example/craterworks/craterworks/SharesStation", "homeColumn", "()I"⟩ : MethodName) prog_6_method_6_code 1 (some .int) ({ frames := 3, cells := 1, slots := 1, locals := 3074 } : Room) [] #[.ref a] h0 (fun v h L => v = some (.int (MCV p0 p1 p2)) ∧ Fr n0 L ∧ Keep h0 h []) := by
  obtain ⟨bo, bu, x0, x1, x2, ic, h1, Ea, Fo, Fu, Fi, Ab, A0, A1, A2, Au, ⟨na0, na1, na2, nau, nb0, nb1, nb2, nbu, n0u, n1u, n2u, n01, n02, n12⟩, ⟨g0, g1, g2, gu⟩, ⟨z0, z1, z2, zu⟩, EE, HI⟩ := F
  exact chc l Z a0 hw a bo bu x0 x1 x2 p0 p1 p2 h0 n0 Z0 Ea Fo Fu Ab A0 A1 A2 Au hz
theorem d_jdk_29_65_0 : decode jdk_29_method_65_code 0 = .ok (.iload_n 0, 1) := by decide +kernel
theorem d_jdk_29_65_1 : decode jdk_29_method_65_code 1 = .ok (.iload_n 1, 1) := by decide +kernel
theorem d_jdk_29_65_2 : decode jdk_29_method_65_code 2 = .ok (.if_icmp .lt 7, 3) := by decide +kernel
theorem d_jdk_29_65_5 : decode jdk_29_method_65_code 5 = .ok (.iload_n 0, 1) := by decide +kernel
theorem d_jdk_29_65_6 : decode jdk_29_method_65_code 6 = .ok (.goto 4, 3) := by decide +kernel
theorem d_jdk_29_65_10 : decode jdk_29_method_65_code 10 = .ok (.ireturn, 1) := by decide +kernel
theorem efmx (m : MethodId) (x0 : Int32) (x1 : Int32) : entryFrame m #[(.int x0), (.int x1)] 2 = mkF m 0 #[.val (.int x0), .val (.int x1)] [] := by first | (simp [entryFrame, mkF, argsToLocals, Value.category]; done) | rfl
set_option maxRecDepth 65536 in
set_option maxHeartbeats 40000000 in
theorem cmx (l : Launch) (Z : State) (a0 : Array Value) (hw : ∀ d ∈ tables_1, d.before a0 Z = true)  (h0 : Heap) (n0 : Nat) (Z0 : n0 ≤ h0.size) :
    Con l Z (⟨"java/lang/Math", "max", "(II)I"⟩ : MethodName) jdk_29_method_65_code 2 (some .int) ({ frames := 0, cells := 0, slots := 0, locals := 0 } : Room) [] #[(.int (10 : Int32)), (.int (1 : Int32))] h0 (fun v h L => v = some (.int (10 : Int32)) ∧ h = h0 ∧ L = []) := by
  refine Con.of (Jvm.Free.JP.mathPlain rfl (by decide +kernel)) #[.val (.int (10 : Int32)), .val (.int (1 : Int32))] (fun m => efmx m (10 : Int32) (1 : Int32)) ?_
  intro p e s m below meth c s₁ K hx hby hml hown hnm hret hlk hZ X0 e0 hnd
  have N0 := Fr.nil n0
  refine m_iloadN K X0.here hx hby d_jdk_29_65_0 rfl rfl ?_
  refine m_iloadN K X0.here hx hby d_jdk_29_65_1 rfl rfl ?_
  refine m_icmpN K X0.here hx hby (q := 5) d_jdk_29_65_2 (flt (by decide : ¬ ((10 : Int32) < (1 : Int32)))).1 rfl ?_
  refine m_iloadN K X0.here hx hby d_jdk_29_65_5 rfl rfl ?_
  refine m_goto K X0.here hx hby (q := 10) d_jdk_29_65_6 (by decide) rfl ?_
  exact Go.retI X0 hx hby hlk hret d_jdk_29_65_10 (by decide) (by decide) (⟨rfl, e0, rfl⟩)
def wmi_1 (p1 : Int32) (p2 : Int32) : Int32 := (if p2 < p1 then p2 else p1)
def MNI (p1 : Int32) (p2 : Int32) : Int32 := (wmi_1 p1 p2)
theorem d_jdk_29_69_0 : decode jdk_29_method_69_code 0 = .ok (.iload_n 0, 1) := by decide +kernel
theorem d_jdk_29_69_1 : decode jdk_29_method_69_code 1 = .ok (.iload_n 1, 1) := by decide +kernel
theorem d_jdk_29_69_2 : decode jdk_29_method_69_code 2 = .ok (.if_icmp .gt 7, 3) := by decide +kernel
theorem d_jdk_29_69_5 : decode jdk_29_method_69_code 5 = .ok (.iload_n 0, 1) := by decide +kernel
theorem d_jdk_29_69_6 : decode jdk_29_method_69_code 6 = .ok (.goto 4, 3) := by decide +kernel
theorem d_jdk_29_69_9 : decode jdk_29_method_69_code 9 = .ok (.iload_n 1, 1) := by decide +kernel
theorem d_jdk_29_69_10 : decode jdk_29_method_69_code 10 = .ok (.ireturn, 1) := by decide +kernel
theorem efmi (m : MethodId) (x0 : Int32) (x1 : Int32) : entryFrame m #[(.int x0), (.int x1)] 2 = mkF m 0 #[.val (.int x0), .val (.int x1)] [] := by first | (simp [entryFrame, mkF, argsToLocals, Value.category]; done) | rfl
set_option maxRecDepth 65536 in
set_option maxHeartbeats 40000000 in
theorem c_mni (l : Launch) (Z : State) (a0 : Array Value) (hw : ∀ d ∈ tables_1, d.before a0 Z = true) (p1 : Int32) (p2 : Int32) (h0 : Heap) (n0 : Nat) (Z0 : n0 ≤ h0.size) :
    Con l Z (⟨"java/lang/Math", "min", "(II)I"⟩ : MethodName) jdk_29_method_69_code 2 (some .int) ({ frames := 0, cells := 0, slots := 0, locals := 0 } : Room) [] #[(.int p1), (.int p2)] h0 (fun v h L => v = some (.int (MNI p1 p2)) ∧ h = h0 ∧ L = []) := by
  refine Con.of (Jvm.Free.JP.mathPlain rfl (by decide +kernel)) #[.val (.int p1), .val (.int p2)] (fun m => efmi m p1 p2) ?_
  intro p e s m below meth c s₁ K hx hby hml hown hnm hret hlk hZ X0 e0 hnd
  have N0 := Fr.nil n0
  refine m_iloadN K X0.here hx hby d_jdk_29_69_0 rfl rfl ?_
  refine m_iloadN K X0.here hx hby d_jdk_29_69_1 rfl rfl ?_
  obtain ⟨T2, X2, e2, st2⟩ : Mx X0 h0 (mkF m 10 #[.val (.int p1), .val (.int p2)] [(.int (wmi_1 p1 p2))]) (s₁.setTop (mkF m 2 #[.val (.int p1), .val (.int p2)] [(.int p2), (.int p1)])) := by
    refine Mx.with fun K => ?_
    by_cases hc2_1 : p2 < p1
    · refine m_icmpY K X0.here hx hby (q := 9) d_jdk_29_69_2 (tlt hc2_1).2.2.1 (by decide) rfl ?_
      refine m_iloadN K X0.here hx hby d_jdk_29_69_9 rfl rfl ?_
      rw [show ((wmi_1 p1 p2) : Int32) = p2 from if_pos hc2_1]
      exact Mx.here X0 e0
    · refine m_icmpN K X0.here hx hby (q := 5) d_jdk_29_69_2 (flt hc2_1).2.2.1 rfl ?_
      refine m_iloadN K X0.here hx hby d_jdk_29_69_5 rfl rfl ?_
      refine m_goto K X0.here hx hby (q := 10) d_jdk_29_69_6 (by decide) rfl ?_
      rw [show ((wmi_1 p1 p2) : Int32) = p1 from if_neg hc2_1]
      exact Mx.here X0 e0
  refine k_go K st2 ?_
  exact Go.retI X2 hx hby hlk hret d_jdk_29_69_10 (by decide) (by decide) (⟨congrArg (fun z => some (Value.int z)) (rfl), e2, rfl⟩)
theorem d_jdk_22_1_0 : decode jdk_22_method_1_code 0 = .ok (.aload_n 0, 1) := by decide +kernel
theorem d_jdk_22_1_1 : decode jdk_22_method_1_code 1 = .ok (.invokespecial 1, 3) := by decide +kernel
theorem d_jdk_22_1_4 : decode jdk_22_method_1_code 4 = .ok (.return_, 1) := by decide +kernel
theorem pn_java_util_AbstractCollection : plainName "java/util/AbstractCollection" = true := by first | (simp [plainName, overriddenIn]; done) | decide +kernel
theorem ef3 (m : MethodId) (x0 : Addr) : entryFrame m #[(.ref x0)] 1 = mkF m 0 #[.val (.ref x0)] [] := by first | (simp [entryFrame, mkF, argsToLocals, Value.category]; done) | rfl
set_option maxRecDepth 65536 in
set_option maxHeartbeats 40000000 in
theorem c3 (l : Launch) (Z : State) (a0 : Array Value) (hw : ∀ d ∈ tables_1, d.before a0 Z = true) (a1 : Addr) (h0 : Heap) (n0 : Nat) (Z0 : n0 ≤ h0.size) :
    Con l Z (⟨"java/util/AbstractCollection", "<init>", "()V"⟩ : MethodName) jdk_22_method_1_code 1 none ({ frames := 1, cells := 0, slots := 0, locals := 12 } : Room) [] #[(.ref a1)] h0 (fun v h L => v = none ∧ h = h0 ∧ L = []) := by
  refine Con.of (plainFor_of_name pn_java_util_AbstractCollection) #[.val (.ref a1)] (fun m => ef3 m a1) ?_
  intro p e s m below meth c s₁ K hx hby hml hown hnm hret hlk hZ X0 e0 hnd
  have N0 := Fr.nil n0
  refine m_aloadN K X0.here hx hby d_jdk_22_1_0 rfl rfl rfl ?_
  refine k_initO K X0 hx hby hZ hown (hw _ (List.mem_of_getElem? (i := 18) rfl)) (hw _ (List.mem_of_getElem? (i := 19) rfl)) (hw _ (List.mem_of_getElem? (i := 20) rfl)) e0 d_jdk_22_1_1 (by rw [hml]; rfl) rfl (by decide) (Nat.le_of_ble_eq_true rfl) fun T1 X1 e1 => ?_
  exact Go.retV X1 hx hby hlk hret d_jdk_22_1_4 (by decide) (by decide) (⟨rfl, e1, rfl⟩)
theorem d_jdk_39_1_0 : decode jdk_39_method_1_code 0 = .ok (.aload_n 0, 1) := by decide +kernel
theorem d_jdk_39_1_1 : decode jdk_39_method_1_code 1 = .ok (.invokespecial 1, 3) := by decide +kernel
theorem d_jdk_39_1_4 : decode jdk_39_method_1_code 4 = .ok (.aload_n 0, 1) := by decide +kernel
theorem d_jdk_39_1_5 : decode jdk_39_method_1_code 5 = .ok (.iconst 0, 1) := by decide +kernel
theorem d_jdk_39_1_6 : decode jdk_39_method_1_code 6 = .ok (.putfield 7, 3) := by decide +kernel
theorem d_jdk_39_1_9 : decode jdk_39_method_1_code 9 = .ok (.return_, 1) := by decide +kernel
theorem pn_java_util_AbstractList : plainName "java/util/AbstractList" = true := by first | (simp [plainName, overriddenIn]; done) | decide +kernel
theorem pd_8 : parseMethodDescriptor "()V" = some ⟨[], none⟩ := by decide +kernel
theorem ef2 (m : MethodId) (x0 : Addr) : entryFrame m #[(.ref x0)] 1 = mkF m 0 #[.val (.ref x0)] [] := by first | (simp [entryFrame, mkF, argsToLocals, Value.category]; done) | rfl
set_option maxRecDepth 65536 in
set_option maxHeartbeats 40000000 in
theorem c2 (l : Launch) (Z : State) (a0 : Array Value) (hw : ∀ d ∈ tables_1, d.before a0 Z = true) (a1 : Addr) (u1 : Int32) (h0 : Heap) (n0 : Nat) (Z0 : n0 ≤ h0.size) (E_a1 : Exa Z h0 a1 "java/util/ArrayList") (F_modCount_a1 : Fld Z h0 a1 "java/util/AbstractList" "modCount" "I" (.int u1)) (F_elementData_a1 : Fld Z h0 a1 "java/util/ArrayList" "elementData" "[Ljava/lang/Object;" .null) (F_size_a1 : Fld Z h0 a1 "java/util/ArrayList" "size" "I" (.int (0 : Int32))) (g_a1 : n0 ≤ a1) :
    Con l Z (⟨"java/util/AbstractList", "<init>", "()V"⟩ : MethodName) jdk_39_method_1_code 1 none ({ frames := 2, cells := 0, slots := 0, locals := 24 } : Room) [] #[(.ref a1)] h0 (fun v h L => v = none ∧ Fr n0 L ∧ Keep h0 h [a1] ∧ Fld Z h a1 "java/util/AbstractList" "modCount" "I" (.int (0 : Int32)) ∧ Fld Z h a1 "java/util/ArrayList" "elementData" "[Ljava/lang/Object;" .null ∧ Fld Z h a1 "java/util/ArrayList" "size" "I" (.int (0 : Int32))) := by
  refine Con.of (plainFor_of_name pn_java_util_AbstractList) #[.val (.ref a1)] (fun m => ef2 m a1) ?_
  intro p e s m below meth c s₁ K hx hby hml hown hnm hret hlk hZ X0 e0 hnd
  have N0 := Fr.nil n0
  refine m_aloadN K X0.here hx hby d_jdk_39_1_0 rfl rfl rfl ?_
  refine k_callP K X0 hx hby hZ a1 [] [] hown (hw _ (List.mem_of_getElem? (i := 12) rfl)) (hw _ (List.mem_of_getElem? (i := 13) rfl)) (hw _ (List.mem_of_getElem? (i := 16) rfl)) (hw _ (List.mem_of_getElem? (i := 17) rfl)) rfl (c3 l Z a0 hw a1 h0 n0 Z0) e0 rfl rfl pd_8 rfl d_jdk_39_1_1 (by rw [hml]; rfl) rfl (by decide) (by decide) (Nat.le_of_ble_eq_true rfl) (by decide) (by decide) fun v1 T1 L1 X1 q1 => ?_
  obtain ⟨rfl, e1, rfl⟩ := q1
  replace X1 := own_px X1
  refine k_none K ?_
  refine m_aloadN K X1.here hx hby d_jdk_39_1_4 rfl rfl rfl ?_
  refine m_iconst K X1.here hx hby (0 : Int32) d_jdk_39_1_5 rfl rfl ?_
  refine k_putF K X1 hx hby hZ hown (host := "") (Or.inl (hw _ (List.mem_of_getElem? (i := 21) rfl))) Via.refl e1 F_modCount_a1 E_a1 (Or.inl (hw _ (List.mem_of_getElem? (i := 22) rfl))) (hw _ (List.mem_of_getElem? (i := 1) rfl)) (ty := .int) (by decide) rfl rfl d_jdk_39_1_6 rfl fun T2 h2 X2 e2 W2 => ?_
  have Fw2 := F_modCount_a1.same W2
  have N2 := Fr.snoc X2 N0 g_a1
  exact Go.retV X2 hx hby hlk hret d_jdk_39_1_9 (by decide) (by decide) (by rw [e2]; exact ⟨rfl, N2, ((Keep.refl h0 [a1]).wr W2 (Or.inl (by simp))), Fw2, (F_elementData_a1.other W2 (Or.inr (slot_ne (Or.inl (hw _ (List.mem_of_getElem? (i := 25) rfl))) (Or.inl (hw _ (List.mem_of_getElem? (i := 22) rfl))) (by decide) (t := (.array (.object "java/lang/Object"))) (t' := .int) (by decide) (by decide)))), (F_size_a1.other W2 (Or.inr (slot_ne (Or.inl (hw _ (List.mem_of_getElem? (i := 45) rfl))) (Or.inl (hw _ (List.mem_of_getElem? (i := 22) rfl))) (by decide) (t := .int) (t' := .int) (by decide) (by decide))))⟩)
theorem d_jdk_38_2_0 : decode jdk_38_method_2_code 0 = .ok (.aload_n 0, 1) := by decide +kernel
theorem d_jdk_38_2_1 : decode jdk_38_method_2_code 1 = .ok (.invokespecial 1, 3) := by decide +kernel
theorem d_jdk_38_2_4 : decode jdk_38_method_2_code 4 = .ok (.aload_n 0, 1) := by decide +kernel
theorem d_jdk_38_2_5 : decode jdk_38_method_2_code 5 = .ok (.getstatic 39, 3) := by decide +kernel
theorem d_jdk_38_2_8 : decode jdk_38_method_2_code 8 = .ok (.putfield 9, 3) := by decide +kernel
theorem d_jdk_38_2_11 : decode jdk_38_method_2_code 11 = .ok (.return_, 1) := by decide +kernel
theorem ef1 (m : MethodId) (x0 : Addr) : entryFrame m #[(.ref x0)] 1 = mkF m 0 #[.val (.ref x0)] [] := by first | (simp [entryFrame, mkF, argsToLocals, Value.category]; done) | rfl
set_option maxRecDepth 65536 in
set_option maxHeartbeats 40000000 in
theorem c1 (l : Launch) (Z : State) (a0 : Array Value) (hw : ∀ d ∈ tables_1, d.before a0 Z = true) (a1 : Addr) (u1 : Int32) (d1 : Addr) (h0 : Heap) (n0 : Nat) (Z0 : n0 ≤ h0.size) (E_a1 : Exa Z h0 a1 "java/util/ArrayList") (F_modCount_a1 : Fld Z h0 a1 "java/util/AbstractList" "modCount" "I" (.int u1)) (F_elementData_a1 : Fld Z h0 a1 "java/util/ArrayList" "elementData" "[Ljava/lang/Object;" .null) (F_size_a1 : Fld Z h0 a1 "java/util/ArrayList" "size" "I" (.int (0 : Int32))) (S_ArrayList_DEFAULTCAPACITY_EMPTY_ELEMENTDATA : Sta Z Z.heap "java/util/ArrayList" "DEFAULTCAPACITY_EMPTY_ELEMENTDATA" "[Ljava/lang/Object;" (.ref d1)) (O0 : Old Z n0 h0) (g_a1 : n0 ≤ a1) :
    Con l Z (⟨"java/util/ArrayList", "<init>", "()V"⟩ : MethodName) jdk_38_method_2_code 1 none ({ frames := 3, cells := 0, slots := 0, locals := 36 } : Room) [] #[(.ref a1)] h0 (fun v h L => v = none ∧ Fr n0 L ∧ Keep h0 h [a1] ∧ Fld Z h a1 "java/util/AbstractList" "modCount" "I" (.int (0 : Int32)) ∧ Fld Z h a1 "java/util/ArrayList" "elementData" "[Ljava/lang/Object;" (.ref d1) ∧ Fld Z h a1 "java/util/ArrayList" "size" "I" (.int (0 : Int32))) := by
  refine Con.of (plainFor_of_name pn_java_util_ArrayList) #[.val (.ref a1)] (fun m => ef1 m a1) ?_
  intro p e s m below meth c s₁ K hx hby hml hown hnm hret hlk hZ X0 e0 hnd
  have N0 := Fr.nil n0
  refine m_aloadN K X0.here hx hby d_jdk_38_2_0 rfl rfl rfl ?_
  refine k_callP K X0 hx hby hZ a1 [] [] hown (hw _ (List.mem_of_getElem? (i := 6) rfl)) (hw _ (List.mem_of_getElem? (i := 7) rfl)) (hw _ (List.mem_of_getElem? (i := 10) rfl)) (hw _ (List.mem_of_getElem? (i := 11) rfl)) rfl (c2 l Z a0 hw a1 u1 h0 n0 Z0 E_a1 F_modCount_a1 F_elementData_a1 F_size_a1 g_a1) e0 rfl rfl pd_8 rfl d_jdk_38_2_1 (by rw [hml]; rfl) rfl (by decide) (by decide) (Nat.le_of_ble_eq_true rfl) (by decide) (by decide) fun v1 T1 L1 X1 q1 => ?_
  obtain ⟨rfl, Nq1, K1, Fp1_0, Fp1_1, Fp1_2⟩ := q1
  have N1 := Fr.app N0 Nq1
  refine k_none K ?_
  refine m_aloadN K X1.here hx hby d_jdk_38_2_4 rfl rfl rfl ?_
  refine k_getS K X1 hx hby hZ hown (host := "") (Or.inl (hw _ (List.mem_of_getElem? (i := 23) rfl))) Via.refl rfl (S_ArrayList_DEFAULTCAPACITY_EMPTY_ELEMENTDATA.ext (O0.keep K1 (allS g_a1 all0)).2) d_jdk_38_2_5 rfl fun T2 X2 e2 => ?_
  refine k_putF K X2 hx hby hZ hown (host := "") (Or.inl (hw _ (List.mem_of_getElem? (i := 24) rfl))) Via.refl e2 Fp1_1 (E_a1.keep K1) (Or.inl (hw _ (List.mem_of_getElem? (i := 25) rfl))) (hw _ (List.mem_of_getElem? (i := 1) rfl)) (ty := (.array (.object "java/lang/Object"))) (by decide) rfl rfl d_jdk_38_2_8 rfl fun T3 h3 X3 e3 W3 => ?_
  have Fw3 := Fp1_1.same W3
  have N3 := Fr.snoc X3 N1 g_a1
  exact Go.retV X3 hx hby hlk hret d_jdk_38_2_11 (by decide) (by decide) (by rw [e3]; exact ⟨rfl, N3, (((Keep.refl h0 [a1]).trans K1 (allS (Or.inl (by simp)) all0)).wr W3 (Or.inl (by simp))), (Fp1_0.other W3 (Or.inr (slot_ne (Or.inl (hw _ (List.mem_of_getElem? (i := 22) rfl))) (Or.inl (hw _ (List.mem_of_getElem? (i := 25) rfl))) (by decide) (t := .int) (t' := (.array (.object "java/lang/Object"))) (by decide) (by decide)))), Fw3, (Fp1_2.other W3 (Or.inr (slot_ne (Or.inl (hw _ (List.mem_of_getElem? (i := 45) rfl))) (Or.inl (hw _ (List.mem_of_getElem? (i := 25) rfl))) (by decide) (t := .int) (t' := (.array (.object "java/lang/Object"))) (by decide) (by decide))))⟩)
theorem d_jdk_18_1_0 : decode jdk_18_method_1_code 0 = .ok (.aload_n 0, 1) := by decide +kernel
theorem d_jdk_18_1_1 : decode jdk_18_method_1_code 1 = .ok (.invokespecial 1, 3) := by decide +kernel
theorem d_jdk_18_1_4 : decode jdk_18_method_1_code 4 = .ok (.return_, 1) := by decide +kernel
theorem pn_java_lang_Number : plainName "java/lang/Number" = true := by first | (simp [plainName, overriddenIn]; done) | decide +kernel
theorem efni (m : MethodId) (x0 : Addr) : entryFrame m #[(.ref x0)] 1 = mkF m 0 #[.val (.ref x0)] [] := by first | (simp [entryFrame, mkF, argsToLocals, Value.category]; done) | rfl
set_option maxRecDepth 65536 in
set_option maxHeartbeats 40000000 in
theorem cni (l : Launch) (Z : State) (a0 : Array Value) (hw : ∀ d ∈ tables_1, d.before a0 Z = true) (a1 : Addr) (h0 : Heap) (n0 : Nat) (Z0 : n0 ≤ h0.size) :
    Con l Z (⟨"java/lang/Number", "<init>", "()V"⟩ : MethodName) jdk_18_method_1_code 1 none ({ frames := 1, cells := 0, slots := 0, locals := 12 } : Room) [] #[(.ref a1)] h0 (fun v h L => v = none ∧ h = h0 ∧ L = []) := by
  refine Con.of (plainFor_of_name pn_java_lang_Number) #[.val (.ref a1)] (fun m => efni m a1) ?_
  intro p e s m below meth c s₁ K hx hby hml hown hnm hret hlk hZ X0 e0 hnd
  have N0 := Fr.nil n0
  refine m_aloadN K X0.here hx hby d_jdk_18_1_0 rfl rfl rfl ?_
  refine k_initO K X0 hx hby hZ hown (hw _ (List.mem_of_getElem? (i := 88) rfl)) (hw _ (List.mem_of_getElem? (i := 19) rfl)) (hw _ (List.mem_of_getElem? (i := 20) rfl)) e0 d_jdk_18_1_1 (by rw [hml]; rfl) rfl (by decide) (Nat.le_of_ble_eq_true rfl) fun T1 X1 e1 => ?_
  exact Go.retV X1 hx hby hlk hret d_jdk_18_1_4 (by decide) (by decide) (⟨rfl, e1, rfl⟩)
theorem d_jdk_33_23_0 : decode jdk_33_method_23_code 0 = .ok (.aload_n 0, 1) := by decide +kernel
theorem d_jdk_33_23_1 : decode jdk_33_method_23_code 1 = .ok (.invokespecial 202, 3) := by decide +kernel
theorem d_jdk_33_23_4 : decode jdk_33_method_23_code 4 = .ok (.aload_n 0, 1) := by decide +kernel
theorem d_jdk_33_23_5 : decode jdk_33_method_23_code 5 = .ok (.iload_n 1, 1) := by decide +kernel
theorem d_jdk_33_23_6 : decode jdk_33_method_23_code 6 = .ok (.putfield 205, 3) := by decide +kernel
theorem d_jdk_33_23_9 : decode jdk_33_method_23_code 9 = .ok (.return_, 1) := by decide +kernel
theorem efii (m : MethodId) (x0 : Addr) (x1 : Int32) : entryFrame m #[(.ref x0), (.int x1)] 2 = mkF m 0 #[.val (.ref x0), .val (.int x1)] [] := by first | (simp [entryFrame, mkF, argsToLocals, Value.category]; done) | rfl
set_option maxRecDepth 65536 in
set_option maxHeartbeats 40000000 in
theorem cii (l : Launch) (Z : State) (a0 : Array Value) (hw : ∀ d ∈ tables_1, d.before a0 Z = true) (a1 : Addr) (n : Int32) (u1 : Int32) (h0 : Heap) (n0 : Nat) (Z0 : n0 ≤ h0.size) (E_a1 : Exa Z h0 a1 "java/lang/Integer") (F_value_a1 : Fld Z h0 a1 "java/lang/Integer" "value" "I" (.int u1)) (g_a1 : n0 ≤ a1) :
    Con l Z (⟨"java/lang/Integer", "<init>", "(I)V"⟩ : MethodName) jdk_33_method_23_code 2 none ({ frames := 2, cells := 0, slots := 0, locals := 24 } : Room) [] #[(.ref a1), (.int n)] h0 (fun v h L => v = none ∧ Fr n0 L ∧ Keep h0 h [a1] ∧ Fld Z h a1 "java/lang/Integer" "value" "I" (.int n)) := by
  refine Con.of (plainFor_of_name pn_java_lang_Integer) #[.val (.ref a1), .val (.int n)] (fun m => efii m a1 n) ?_
  intro p e s m below meth c s₁ K hx hby hml hown hnm hret hlk hZ X0 e0 hnd
  have N0 := Fr.nil n0
  refine m_aloadN K X0.here hx hby d_jdk_33_23_0 rfl rfl rfl ?_
  refine k_callP K X0 hx hby hZ a1 [] [] hown (hw _ (List.mem_of_getElem? (i := 82) rfl)) (hw _ (List.mem_of_getElem? (i := 83) rfl)) (hw _ (List.mem_of_getElem? (i := 86) rfl)) (hw _ (List.mem_of_getElem? (i := 87) rfl)) rfl (cni l Z a0 hw a1 h0 n0 Z0) e0 rfl rfl pd_8 rfl d_jdk_33_23_1 (by rw [hml]; rfl) rfl (by decide) (by decide) (Nat.le_of_ble_eq_true rfl) (by decide) (by decide) fun v1 T1 L1 X1 q1 => ?_
  obtain ⟨rfl, e1, rfl⟩ := q1
  replace X1 := own_px X1
  refine k_none K ?_
  refine m_aloadN K X1.here hx hby d_jdk_33_23_4 rfl rfl rfl ?_
  refine m_iloadN K X1.here hx hby d_jdk_33_23_5 rfl rfl ?_
  refine k_putF K X1 hx hby hZ hown (host := "") (Or.inl (hw _ (List.mem_of_getElem? (i := 89) rfl))) Via.refl e1 F_value_a1 E_a1 (Or.inr ⟨(hw _ (List.mem_of_getElem? (i := 90) rfl)), rfl, hnm⟩) (hw _ (List.mem_of_getElem? (i := 77) rfl)) (ty := .int) (by decide) rfl rfl d_jdk_33_23_6 rfl fun T2 h2 X2 e2 W2 => ?_
  have Fw2 := F_value_a1.same W2
  have N2 := Fr.snoc X2 N0 g_a1
  exact Go.retV X2 hx hby hlk hret d_jdk_33_23_9 (by decide) (by decide) (by rw [e2]; exact ⟨rfl, N2, ((Keep.refl h0 [a1]).wr W2 (Or.inl (by simp))), Fw2⟩)
theorem d_jdk_33_22_0 : decode jdk_33_method_22_code 0 = .ok (.iload_n 0, 1) := by decide +kernel
theorem d_jdk_33_22_1 : decode jdk_33_method_22_code 1 = .ok (.bipush (-128), 2) := by decide +kernel
theorem d_jdk_33_22_3 : decode jdk_33_method_22_code 3 = .ok (.if_icmp .lt 20, 3) := by decide +kernel
theorem d_jdk_33_22_6 : decode jdk_33_method_22_code 6 = .ok (.iload_n 0, 1) := by decide +kernel
theorem d_jdk_33_22_7 : decode jdk_33_method_22_code 7 = .ok (.getstatic 191, 3) := by decide +kernel
theorem d_jdk_33_22_10 : decode jdk_33_method_22_code 10 = .ok (.if_icmp .gt 13, 3) := by decide +kernel
theorem d_jdk_33_22_13 : decode jdk_33_method_22_code 13 = .ok (.getstatic 195, 3) := by decide +kernel
theorem d_jdk_33_22_16 : decode jdk_33_method_22_code 16 = .ok (.iload_n 0, 1) := by decide +kernel
theorem d_jdk_33_22_17 : decode jdk_33_method_22_code 17 = .ok (.sipush 128, 3) := by decide +kernel
theorem d_jdk_33_22_20 : decode jdk_33_method_22_code 20 = .ok (.iadd, 1) := by decide +kernel
theorem d_jdk_33_22_21 : decode jdk_33_method_22_code 21 = .ok (.aaload, 1) := by decide +kernel
theorem d_jdk_33_22_22 : decode jdk_33_method_22_code 22 = .ok (.areturn, 1) := by decide +kernel
theorem efvo0 (m : MethodId) (x0 : Int32) : entryFrame m #[(.int x0)] 1 = mkF m 0 #[.val (.int x0)] [] := by first | (simp [entryFrame, mkF, argsToLocals, Value.category]; done) | rfl
set_option maxRecDepth 65536 in
set_option maxHeartbeats 40000000 in
theorem cvo0 (l : Launch) (Z : State) (a0 : Array Value) (hw : ∀ d ∈ tables_1, d.before a0 Z = true) (ca : Addr) (bx : (List Value)) (sv : Addr) (h0 : Heap) (n0 : Nat) (Z0 : n0 ≤ h0.size) (S_Integer_IntegerCache_high : Sta Z Z.heap "java/lang/Integer$IntegerCache" "high" "I" (.int (127 : Int32))) (S_Integer_IntegerCache_cache : Sta Z Z.heap "java/lang/Integer$IntegerCache" "cache" "[Ljava/lang/Integer;" (.ref ca)) (O0 : Old Z n0 h0) (ACA : Av Z Z.heap ca (.object "java/lang/Integer") bx) (A7 : bx[129]? = some (.ref sv)) :
    Con l Z (⟨"java/lang/Integer", "valueOf", "(I)Ljava/lang/Integer;"⟩ : MethodName) jdk_33_method_22_code 1 (some (.object "java/lang/Integer")) ({ frames := 0, cells := 0, slots := 0, locals := 0 } : Room) [] #[(.int (1 : Int32))] h0 (fun v h L => v = some (.ref sv) ∧ h = h0 ∧ L = []) := by
  refine Con.of (plainFor_of_name pn_java_lang_Integer) #[.val (.int (1 : Int32))] (fun m => efvo0 m (1 : Int32)) ?_
  intro p e s m below meth c s₁ K hx hby hml hown hnm hret hlk hZ X0 e0 hnd
  have N0 := Fr.nil n0
  refine m_iloadN K X0.here hx hby d_jdk_33_22_0 rfl rfl ?_
  refine m_bipush K X0.here hx hby (-128 : Int32) d_jdk_33_22_1 rfl rfl ?_
  refine m_icmpN K X0.here hx hby (q := 6) d_jdk_33_22_3 (flt (by decide : ¬ ((1 : Int32) < (-128 : Int32)))).1 rfl ?_
  refine m_iloadN K X0.here hx hby d_jdk_33_22_6 rfl rfl ?_
  refine k_getS K X0 hx hby hZ hown (host := "") (Or.inl (hw _ (List.mem_of_getElem? (i := 34) rfl))) Via.refl e0 (S_Integer_IntegerCache_high.ext O0.2) d_jdk_33_22_7 rfl fun T1 X1 e1 => ?_
  refine m_icmpN K X1.here hx hby (q := 13) d_jdk_33_22_10 (flt (by decide : ¬ ((127 : Int32) < (1 : Int32)))).2.2.1 rfl ?_
  refine k_getS K X1 hx hby hZ hown (host := "") (Or.inl (hw _ (List.mem_of_getElem? (i := 36) rfl))) Via.refl e1 (S_Integer_IntegerCache_cache.ext O0.2) d_jdk_33_22_13 rfl fun T2 X2 e2 => ?_
  refine m_iloadN K X2.here hx hby d_jdk_33_22_16 rfl rfl ?_
  refine m_sipush K X2.here hx hby (128 : Int32) d_jdk_33_22_17 rfl rfl ?_
  refine m_iadd K X2.here hx hby (129 : Int32) d_jdk_33_22_20 rfl rfl ?_
  refine k_ldR K X2 hx hby hZ e2 rfl (ACA.ext O0.2) (v := (.ref sv)) (by decide) A7 d_jdk_33_22_21 rfl ?_
  exact Go.retO X2 hx hby hlk hret rfl (Or.inr (Or.inr (Or.inr (Or.inr ⟨rfl, rfl, rfl⟩)))) d_jdk_33_22_22 (by decide) (by decide) (⟨rfl, e2, rfl⟩)
theorem efvo1 (m : MethodId) (x0 : Int32) : entryFrame m #[(.int x0)] 1 = mkF m 0 #[.val (.int x0)] [] := by first | (simp [entryFrame, mkF, argsToLocals, Value.category]; done) | rfl
set_option maxRecDepth 65536 in
set_option maxHeartbeats 40000000 in
theorem cvo1 (l : Launch) (Z : State) (a0 : Array Value) (hw : ∀ d ∈ tables_1, d.before a0 Z = true) (ca : Addr) (bx : (List Value)) (sv : Addr) (h0 : Heap) (n0 : Nat) (Z0 : n0 ≤ h0.size) (S_Integer_IntegerCache_high : Sta Z Z.heap "java/lang/Integer$IntegerCache" "high" "I" (.int (127 : Int32))) (S_Integer_IntegerCache_cache : Sta Z Z.heap "java/lang/Integer$IntegerCache" "cache" "[Ljava/lang/Integer;" (.ref ca)) (O0 : Old Z n0 h0) (ACA : Av Z Z.heap ca (.object "java/lang/Integer") bx) (A7 : bx[130]? = some (.ref sv)) :
    Con l Z (⟨"java/lang/Integer", "valueOf", "(I)Ljava/lang/Integer;"⟩ : MethodName) jdk_33_method_22_code 1 (some (.object "java/lang/Integer")) ({ frames := 0, cells := 0, slots := 0, locals := 0 } : Room) [] #[(.int (2 : Int32))] h0 (fun v h L => v = some (.ref sv) ∧ h = h0 ∧ L = []) := by
  refine Con.of (plainFor_of_name pn_java_lang_Integer) #[.val (.int (2 : Int32))] (fun m => efvo1 m (2 : Int32)) ?_
  intro p e s m below meth c s₁ K hx hby hml hown hnm hret hlk hZ X0 e0 hnd
  have N0 := Fr.nil n0
  refine m_iloadN K X0.here hx hby d_jdk_33_22_0 rfl rfl ?_
  refine m_bipush K X0.here hx hby (-128 : Int32) d_jdk_33_22_1 rfl rfl ?_
  refine m_icmpN K X0.here hx hby (q := 6) d_jdk_33_22_3 (flt (by decide : ¬ ((2 : Int32) < (-128 : Int32)))).1 rfl ?_
  refine m_iloadN K X0.here hx hby d_jdk_33_22_6 rfl rfl ?_
  refine k_getS K X0 hx hby hZ hown (host := "") (Or.inl (hw _ (List.mem_of_getElem? (i := 34) rfl))) Via.refl e0 (S_Integer_IntegerCache_high.ext O0.2) d_jdk_33_22_7 rfl fun T1 X1 e1 => ?_
  refine m_icmpN K X1.here hx hby (q := 13) d_jdk_33_22_10 (flt (by decide : ¬ ((127 : Int32) < (2 : Int32)))).2.2.1 rfl ?_
  refine k_getS K X1 hx hby hZ hown (host := "") (Or.inl (hw _ (List.mem_of_getElem? (i := 36) rfl))) Via.refl e1 (S_Integer_IntegerCache_cache.ext O0.2) d_jdk_33_22_13 rfl fun T2 X2 e2 => ?_
  refine m_iloadN K X2.here hx hby d_jdk_33_22_16 rfl rfl ?_
  refine m_sipush K X2.here hx hby (128 : Int32) d_jdk_33_22_17 rfl rfl ?_
  refine m_iadd K X2.here hx hby (130 : Int32) d_jdk_33_22_20 rfl rfl ?_
  refine k_ldR K X2 hx hby hZ e2 rfl (ACA.ext O0.2) (v := (.ref sv)) (by decide) A7 d_jdk_33_22_21 rfl ?_
  exact Go.retO X2 hx hby hlk hret rfl (Or.inr (Or.inr (Or.inr (Or.inr ⟨rfl, rfl, rfl⟩)))) d_jdk_33_22_22 (by decide) (by decide) (⟨rfl, e2, rfl⟩)
theorem efvo2 (m : MethodId) (x0 : Int32) : entryFrame m #[(.int x0)] 1 = mkF m 0 #[.val (.int x0)] [] := by first | (simp [entryFrame, mkF, argsToLocals, Value.category]; done) | rfl
set_option maxRecDepth 65536 in
set_option maxHeartbeats 40000000 in
theorem cvo2 (l : Launch) (Z : State) (a0 : Array Value) (hw : ∀ d ∈ tables_1, d.before a0 Z = true) (ca : Addr) (bx : (List Value)) (sv : Addr) (h0 : Heap) (n0 : Nat) (Z0 : n0 ≤ h0.size) (S_Integer_IntegerCache_high : Sta Z Z.heap "java/lang/Integer$IntegerCache" "high" "I" (.int (127 : Int32))) (S_Integer_IntegerCache_cache : Sta Z Z.heap "java/lang/Integer$IntegerCache" "cache" "[Ljava/lang/Integer;" (.ref ca)) (O0 : Old Z n0 h0) (ACA : Av Z Z.heap ca (.object "java/lang/Integer") bx) (A7 : bx[132]? = some (.ref sv)) :
    Con l Z (⟨"java/lang/Integer", "valueOf", "(I)Ljava/lang/Integer;"⟩ : MethodName) jdk_33_method_22_code 1 (some (.object "java/lang/Integer")) ({ frames := 0, cells := 0, slots := 0, locals := 0 } : Room) [] #[(.int (4 : Int32))] h0 (fun v h L => v = some (.ref sv) ∧ h = h0 ∧ L = []) := by
  refine Con.of (plainFor_of_name pn_java_lang_Integer) #[.val (.int (4 : Int32))] (fun m => efvo2 m (4 : Int32)) ?_
  intro p e s m below meth c s₁ K hx hby hml hown hnm hret hlk hZ X0 e0 hnd
  have N0 := Fr.nil n0
  refine m_iloadN K X0.here hx hby d_jdk_33_22_0 rfl rfl ?_
  refine m_bipush K X0.here hx hby (-128 : Int32) d_jdk_33_22_1 rfl rfl ?_
  refine m_icmpN K X0.here hx hby (q := 6) d_jdk_33_22_3 (flt (by decide : ¬ ((4 : Int32) < (-128 : Int32)))).1 rfl ?_
  refine m_iloadN K X0.here hx hby d_jdk_33_22_6 rfl rfl ?_
  refine k_getS K X0 hx hby hZ hown (host := "") (Or.inl (hw _ (List.mem_of_getElem? (i := 34) rfl))) Via.refl e0 (S_Integer_IntegerCache_high.ext O0.2) d_jdk_33_22_7 rfl fun T1 X1 e1 => ?_
  refine m_icmpN K X1.here hx hby (q := 13) d_jdk_33_22_10 (flt (by decide : ¬ ((127 : Int32) < (4 : Int32)))).2.2.1 rfl ?_
  refine k_getS K X1 hx hby hZ hown (host := "") (Or.inl (hw _ (List.mem_of_getElem? (i := 36) rfl))) Via.refl e1 (S_Integer_IntegerCache_cache.ext O0.2) d_jdk_33_22_13 rfl fun T2 X2 e2 => ?_
  refine m_iloadN K X2.here hx hby d_jdk_33_22_16 rfl rfl ?_
  refine m_sipush K X2.here hx hby (128 : Int32) d_jdk_33_22_17 rfl rfl ?_
  refine m_iadd K X2.here hx hby (132 : Int32) d_jdk_33_22_20 rfl rfl ?_
  refine k_ldR K X2 hx hby hZ e2 rfl (ACA.ext O0.2) (v := (.ref sv)) (by decide) A7 d_jdk_33_22_21 rfl ?_
  exact Go.retO X2 hx hby hlk hret rfl (Or.inr (Or.inr (Or.inr (Or.inr ⟨rfl, rfl, rfl⟩)))) d_jdk_33_22_22 (by decide) (by decide) (⟨rfl, e2, rfl⟩)
theorem efvo3 (m : MethodId) (x0 : Int32) : entryFrame m #[(.int x0)] 1 = mkF m 0 #[.val (.int x0)] [] := by first | (simp [entryFrame, mkF, argsToLocals, Value.category]; done) | rfl
set_option maxRecDepth 65536 in
set_option maxHeartbeats 40000000 in
theorem cvo3 (l : Launch) (Z : State) (a0 : Array Value) (hw : ∀ d ∈ tables_1, d.before a0 Z = true) (ca : Addr) (bx : (List Value)) (sv : Addr) (h0 : Heap) (n0 : Nat) (Z0 : n0 ≤ h0.size) (S_Integer_IntegerCache_high : Sta Z Z.heap "java/lang/Integer$IntegerCache" "high" "I" (.int (127 : Int32))) (S_Integer_IntegerCache_cache : Sta Z Z.heap "java/lang/Integer$IntegerCache" "cache" "[Ljava/lang/Integer;" (.ref ca)) (O0 : Old Z n0 h0) (ACA : Av Z Z.heap ca (.object "java/lang/Integer") bx) (A7 : bx[136]? = some (.ref sv)) :
    Con l Z (⟨"java/lang/Integer", "valueOf", "(I)Ljava/lang/Integer;"⟩ : MethodName) jdk_33_method_22_code 1 (some (.object "java/lang/Integer")) ({ frames := 0, cells := 0, slots := 0, locals := 0 } : Room) [] #[(.int (8 : Int32))] h0 (fun v h L => v = some (.ref sv) ∧ h = h0 ∧ L = []) := by
  refine Con.of (plainFor_of_name pn_java_lang_Integer) #[.val (.int (8 : Int32))] (fun m => efvo3 m (8 : Int32)) ?_
  intro p e s m below meth c s₁ K hx hby hml hown hnm hret hlk hZ X0 e0 hnd
  have N0 := Fr.nil n0
  refine m_iloadN K X0.here hx hby d_jdk_33_22_0 rfl rfl ?_
  refine m_bipush K X0.here hx hby (-128 : Int32) d_jdk_33_22_1 rfl rfl ?_
  refine m_icmpN K X0.here hx hby (q := 6) d_jdk_33_22_3 (flt (by decide : ¬ ((8 : Int32) < (-128 : Int32)))).1 rfl ?_
  refine m_iloadN K X0.here hx hby d_jdk_33_22_6 rfl rfl ?_
  refine k_getS K X0 hx hby hZ hown (host := "") (Or.inl (hw _ (List.mem_of_getElem? (i := 34) rfl))) Via.refl e0 (S_Integer_IntegerCache_high.ext O0.2) d_jdk_33_22_7 rfl fun T1 X1 e1 => ?_
  refine m_icmpN K X1.here hx hby (q := 13) d_jdk_33_22_10 (flt (by decide : ¬ ((127 : Int32) < (8 : Int32)))).2.2.1 rfl ?_
  refine k_getS K X1 hx hby hZ hown (host := "") (Or.inl (hw _ (List.mem_of_getElem? (i := 36) rfl))) Via.refl e1 (S_Integer_IntegerCache_cache.ext O0.2) d_jdk_33_22_13 rfl fun T2 X2 e2 => ?_
  refine m_iloadN K X2.here hx hby d_jdk_33_22_16 rfl rfl ?_
  refine m_sipush K X2.here hx hby (128 : Int32) d_jdk_33_22_17 rfl rfl ?_
  refine m_iadd K X2.here hx hby (136 : Int32) d_jdk_33_22_20 rfl rfl ?_
  refine k_ldR K X2 hx hby hZ e2 rfl (ACA.ext O0.2) (v := (.ref sv)) (by decide) A7 d_jdk_33_22_21 rfl ?_
  exact Go.retO X2 hx hby hlk hret rfl (Or.inr (Or.inr (Or.inr (Or.inr ⟨rfl, rfl, rfl⟩)))) d_jdk_33_22_22 (by decide) (by decide) (⟨rfl, e2, rfl⟩)
theorem efvo4 (m : MethodId) (x0 : Int32) : entryFrame m #[(.int x0)] 1 = mkF m 0 #[.val (.int x0)] [] := by first | (simp [entryFrame, mkF, argsToLocals, Value.category]; done) | rfl
set_option maxRecDepth 65536 in
set_option maxHeartbeats 40000000 in
theorem cvo4 (l : Launch) (Z : State) (a0 : Array Value) (hw : ∀ d ∈ tables_1, d.before a0 Z = true) (ca : Addr) (bx : (List Value)) (sv : Addr) (h0 : Heap) (n0 : Nat) (Z0 : n0 ≤ h0.size) (S_Integer_IntegerCache_high : Sta Z Z.heap "java/lang/Integer$IntegerCache" "high" "I" (.int (127 : Int32))) (S_Integer_IntegerCache_cache : Sta Z Z.heap "java/lang/Integer$IntegerCache" "cache" "[Ljava/lang/Integer;" (.ref ca)) (O0 : Old Z n0 h0) (ACA : Av Z Z.heap ca (.object "java/lang/Integer") bx) (A7 : bx[144]? = some (.ref sv)) :
    Con l Z (⟨"java/lang/Integer", "valueOf", "(I)Ljava/lang/Integer;"⟩ : MethodName) jdk_33_method_22_code 1 (some (.object "java/lang/Integer")) ({ frames := 0, cells := 0, slots := 0, locals := 0 } : Room) [] #[(.int (16 : Int32))] h0 (fun v h L => v = some (.ref sv) ∧ h = h0 ∧ L = []) := by
  refine Con.of (plainFor_of_name pn_java_lang_Integer) #[.val (.int (16 : Int32))] (fun m => efvo4 m (16 : Int32)) ?_
  intro p e s m below meth c s₁ K hx hby hml hown hnm hret hlk hZ X0 e0 hnd
  have N0 := Fr.nil n0
  refine m_iloadN K X0.here hx hby d_jdk_33_22_0 rfl rfl ?_
  refine m_bipush K X0.here hx hby (-128 : Int32) d_jdk_33_22_1 rfl rfl ?_
  refine m_icmpN K X0.here hx hby (q := 6) d_jdk_33_22_3 (flt (by decide : ¬ ((16 : Int32) < (-128 : Int32)))).1 rfl ?_
  refine m_iloadN K X0.here hx hby d_jdk_33_22_6 rfl rfl ?_
  refine k_getS K X0 hx hby hZ hown (host := "") (Or.inl (hw _ (List.mem_of_getElem? (i := 34) rfl))) Via.refl e0 (S_Integer_IntegerCache_high.ext O0.2) d_jdk_33_22_7 rfl fun T1 X1 e1 => ?_
  refine m_icmpN K X1.here hx hby (q := 13) d_jdk_33_22_10 (flt (by decide : ¬ ((127 : Int32) < (16 : Int32)))).2.2.1 rfl ?_
  refine k_getS K X1 hx hby hZ hown (host := "") (Or.inl (hw _ (List.mem_of_getElem? (i := 36) rfl))) Via.refl e1 (S_Integer_IntegerCache_cache.ext O0.2) d_jdk_33_22_13 rfl fun T2 X2 e2 => ?_
  refine m_iloadN K X2.here hx hby d_jdk_33_22_16 rfl rfl ?_
  refine m_sipush K X2.here hx hby (128 : Int32) d_jdk_33_22_17 rfl rfl ?_
  refine m_iadd K X2.here hx hby (144 : Int32) d_jdk_33_22_20 rfl rfl ?_
  refine k_ldR K X2 hx hby hZ e2 rfl (ACA.ext O0.2) (v := (.ref sv)) (by decide) A7 d_jdk_33_22_21 rfl ?_
  exact Go.retO X2 hx hby hlk hret rfl (Or.inr (Or.inr (Or.inr (Or.inr ⟨rfl, rfl, rfl⟩)))) d_jdk_33_22_22 (by decide) (by decide) (⟨rfl, e2, rfl⟩)
theorem efvo5 (m : MethodId) (x0 : Int32) : entryFrame m #[(.int x0)] 1 = mkF m 0 #[.val (.int x0)] [] := by first | (simp [entryFrame, mkF, argsToLocals, Value.category]; done) | rfl
set_option maxRecDepth 65536 in
set_option maxHeartbeats 40000000 in
theorem cvo5 (l : Launch) (Z : State) (a0 : Array Value) (hw : ∀ d ∈ tables_1, d.before a0 Z = true) (ca : Addr) (bx : (List Value)) (sv : Addr) (h0 : Heap) (n0 : Nat) (Z0 : n0 ≤ h0.size) (S_Integer_IntegerCache_high : Sta Z Z.heap "java/lang/Integer$IntegerCache" "high" "I" (.int (127 : Int32))) (S_Integer_IntegerCache_cache : Sta Z Z.heap "java/lang/Integer$IntegerCache" "cache" "[Ljava/lang/Integer;" (.ref ca)) (O0 : Old Z n0 h0) (ACA : Av Z Z.heap ca (.object "java/lang/Integer") bx) (A7 : bx[160]? = some (.ref sv)) :
    Con l Z (⟨"java/lang/Integer", "valueOf", "(I)Ljava/lang/Integer;"⟩ : MethodName) jdk_33_method_22_code 1 (some (.object "java/lang/Integer")) ({ frames := 0, cells := 0, slots := 0, locals := 0 } : Room) [] #[(.int (32 : Int32))] h0 (fun v h L => v = some (.ref sv) ∧ h = h0 ∧ L = []) := by
  refine Con.of (plainFor_of_name pn_java_lang_Integer) #[.val (.int (32 : Int32))] (fun m => efvo5 m (32 : Int32)) ?_
  intro p e s m below meth c s₁ K hx hby hml hown hnm hret hlk hZ X0 e0 hnd
  have N0 := Fr.nil n0
  refine m_iloadN K X0.here hx hby d_jdk_33_22_0 rfl rfl ?_
  refine m_bipush K X0.here hx hby (-128 : Int32) d_jdk_33_22_1 rfl rfl ?_
  refine m_icmpN K X0.here hx hby (q := 6) d_jdk_33_22_3 (flt (by decide : ¬ ((32 : Int32) < (-128 : Int32)))).1 rfl ?_
  refine m_iloadN K X0.here hx hby d_jdk_33_22_6 rfl rfl ?_
  refine k_getS K X0 hx hby hZ hown (host := "") (Or.inl (hw _ (List.mem_of_getElem? (i := 34) rfl))) Via.refl e0 (S_Integer_IntegerCache_high.ext O0.2) d_jdk_33_22_7 rfl fun T1 X1 e1 => ?_
  refine m_icmpN K X1.here hx hby (q := 13) d_jdk_33_22_10 (flt (by decide : ¬ ((127 : Int32) < (32 : Int32)))).2.2.1 rfl ?_
  refine k_getS K X1 hx hby hZ hown (host := "") (Or.inl (hw _ (List.mem_of_getElem? (i := 36) rfl))) Via.refl e1 (S_Integer_IntegerCache_cache.ext O0.2) d_jdk_33_22_13 rfl fun T2 X2 e2 => ?_
  refine m_iloadN K X2.here hx hby d_jdk_33_22_16 rfl rfl ?_
  refine m_sipush K X2.here hx hby (128 : Int32) d_jdk_33_22_17 rfl rfl ?_
  refine m_iadd K X2.here hx hby (160 : Int32) d_jdk_33_22_20 rfl rfl ?_
  refine k_ldR K X2 hx hby hZ e2 rfl (ACA.ext O0.2) (v := (.ref sv)) (by decide) A7 d_jdk_33_22_21 rfl ?_
  exact Go.retO X2 hx hby hlk hret rfl (Or.inr (Or.inr (Or.inr (Or.inr ⟨rfl, rfl, rfl⟩)))) d_jdk_33_22_22 (by decide) (by decide) (⟨rfl, e2, rfl⟩)
theorem efvo6 (m : MethodId) (x0 : Int32) : entryFrame m #[(.int x0)] 1 = mkF m 0 #[.val (.int x0)] [] := by first | (simp [entryFrame, mkF, argsToLocals, Value.category]; done) | rfl
set_option maxRecDepth 65536 in
set_option maxHeartbeats 40000000 in
theorem cvo6 (l : Launch) (Z : State) (a0 : Array Value) (hw : ∀ d ∈ tables_1, d.before a0 Z = true) (ca : Addr) (bx : (List Value)) (sv : Addr) (h0 : Heap) (n0 : Nat) (Z0 : n0 ≤ h0.size) (S_Integer_IntegerCache_high : Sta Z Z.heap "java/lang/Integer$IntegerCache" "high" "I" (.int (127 : Int32))) (S_Integer_IntegerCache_cache : Sta Z Z.heap "java/lang/Integer$IntegerCache" "cache" "[Ljava/lang/Integer;" (.ref ca)) (O0 : Old Z n0 h0) (ACA : Av Z Z.heap ca (.object "java/lang/Integer") bx) (A7 : bx[192]? = some (.ref sv)) :
    Con l Z (⟨"java/lang/Integer", "valueOf", "(I)Ljava/lang/Integer;"⟩ : MethodName) jdk_33_method_22_code 1 (some (.object "java/lang/Integer")) ({ frames := 0, cells := 0, slots := 0, locals := 0 } : Room) [] #[(.int (64 : Int32))] h0 (fun v h L => v = some (.ref sv) ∧ h = h0 ∧ L = []) := by
  refine Con.of (plainFor_of_name pn_java_lang_Integer) #[.val (.int (64 : Int32))] (fun m => efvo6 m (64 : Int32)) ?_
  intro p e s m below meth c s₁ K hx hby hml hown hnm hret hlk hZ X0 e0 hnd
  have N0 := Fr.nil n0
  refine m_iloadN K X0.here hx hby d_jdk_33_22_0 rfl rfl ?_
  refine m_bipush K X0.here hx hby (-128 : Int32) d_jdk_33_22_1 rfl rfl ?_
  refine m_icmpN K X0.here hx hby (q := 6) d_jdk_33_22_3 (flt (by decide : ¬ ((64 : Int32) < (-128 : Int32)))).1 rfl ?_
  refine m_iloadN K X0.here hx hby d_jdk_33_22_6 rfl rfl ?_
  refine k_getS K X0 hx hby hZ hown (host := "") (Or.inl (hw _ (List.mem_of_getElem? (i := 34) rfl))) Via.refl e0 (S_Integer_IntegerCache_high.ext O0.2) d_jdk_33_22_7 rfl fun T1 X1 e1 => ?_
  refine m_icmpN K X1.here hx hby (q := 13) d_jdk_33_22_10 (flt (by decide : ¬ ((127 : Int32) < (64 : Int32)))).2.2.1 rfl ?_
  refine k_getS K X1 hx hby hZ hown (host := "") (Or.inl (hw _ (List.mem_of_getElem? (i := 36) rfl))) Via.refl e1 (S_Integer_IntegerCache_cache.ext O0.2) d_jdk_33_22_13 rfl fun T2 X2 e2 => ?_
  refine m_iloadN K X2.here hx hby d_jdk_33_22_16 rfl rfl ?_
  refine m_sipush K X2.here hx hby (128 : Int32) d_jdk_33_22_17 rfl rfl ?_
  refine m_iadd K X2.here hx hby (192 : Int32) d_jdk_33_22_20 rfl rfl ?_
  refine k_ldR K X2 hx hby hZ e2 rfl (ACA.ext O0.2) (v := (.ref sv)) (by decide) A7 d_jdk_33_22_21 rfl ?_
  exact Go.retO X2 hx hby hlk hret rfl (Or.inr (Or.inr (Or.inr (Or.inr ⟨rfl, rfl, rfl⟩)))) d_jdk_33_22_22 (by decide) (by decide) (⟨rfl, e2, rfl⟩)
theorem d_jdk_33_22_23 : decode jdk_33_method_22_code 23 = .ok (.new 1, 3) := by decide +kernel
theorem d_jdk_33_22_26 : decode jdk_33_method_22_code 26 = .ok (.dup, 1) := by decide +kernel
theorem d_jdk_33_22_27 : decode jdk_33_method_22_code 27 = .ok (.iload_n 0, 1) := by decide +kernel
theorem d_jdk_33_22_28 : decode jdk_33_method_22_code 28 = .ok (.invokespecial 199, 3) := by decide +kernel
theorem d_jdk_33_22_31 : decode jdk_33_method_22_code 31 = .ok (.areturn, 1) := by decide +kernel
theorem pd_9 : parseMethodDescriptor "(I)V" = some ⟨[.int], none⟩ := by decide +kernel
theorem efvon (m : MethodId) (x0 : Int32) : entryFrame m #[(.int x0)] 1 = mkF m 0 #[.val (.int x0)] [] := by first | (simp [entryFrame, mkF, argsToLocals, Value.category]; done) | rfl
set_option maxRecDepth 65536 in
set_option maxHeartbeats 40000000 in
theorem cvon (l : Launch) (Z : State) (a0 : Array Value) (hw : ∀ d ∈ tables_1, d.before a0 Z = true) (n : Int32) (h0 : Heap) (n0 : Nat) (Z0 : n0 ≤ h0.size) (S_Integer_IntegerCache_high : Sta Z Z.heap "java/lang/Integer$IntegerCache" "high" "I" (.int (127 : Int32))) (O0 : Old Z n0 h0) (hv0 : ¬ (n < (-128 : Int32))) (hv1 : (127 : Int32) < n) :
    Con l Z (⟨"java/lang/Integer", "valueOf", "(I)Ljava/lang/Integer;"⟩ : MethodName) jdk_33_method_22_code 1 (some (.object "java/lang/Integer")) ({ frames := 3, cells := 1, slots := 1, locals := 38 } : Room) [] #[(.int n)] h0 (fun v h L => ∃ b : Addr, v = some (.ref b) ∧ Fr n0 L ∧ Keep h0 h [] ∧ h0.size ≤ b ∧ Exa Z h b "java/lang/Integer" ∧ Fld Z h b "java/lang/Integer" "value" "I" (.int n)) := by
  refine Con.of (plainFor_of_name pn_java_lang_Integer) #[.val (.int n)] (fun m => efvon m n) ?_
  intro p e s m below meth c s₁ K hx hby hml hown hnm hret hlk hZ X0 e0 hnd
  have N0 := Fr.nil n0
  refine m_iloadN K X0.here hx hby d_jdk_33_22_0 rfl rfl ?_
  refine m_bipush K X0.here hx hby (-128 : Int32) d_jdk_33_22_1 rfl rfl ?_
  refine m_icmpN K X0.here hx hby (q := 6) d_jdk_33_22_3 (flt hv0).1 rfl ?_
  refine m_iloadN K X0.here hx hby d_jdk_33_22_6 rfl rfl ?_
  refine k_getS K X0 hx hby hZ hown (host := "") (Or.inl (hw _ (List.mem_of_getElem? (i := 34) rfl))) Via.refl e0 (S_Integer_IntegerCache_high.ext O0.2) d_jdk_33_22_7 rfl fun T1 X1 e1 => ?_
  refine m_icmpY K X1.here hx hby (q := 23) d_jdk_33_22_10 (tlt hv1).2.2.1 (by decide) rfl ?_
  refine k_newO K X1 hx hby hZ hown (hw _ (List.mem_of_getElem? (i := 76) rfl)) (hw _ (List.mem_of_getElem? (i := 77) rfl)) (hw _ (List.mem_of_getElem? (i := 32) rfl)) e1 d_jdk_33_22_23 rfl (by decide) (by decide) fun T2 h2 b2 X2 e2 E2 g2 A2 D2 => ?_
  have sz_b2 : h0.size ≤ b2 := Nat.le_trans (Nat.le_refl _) (Nat.le_of_eq g2.symm)
  have g_b2 : n0 ≤ b2 := Nat.le_trans Z0 sz_b2
  have F_value_b2 : Fld Z h2 b2 "java/lang/Integer" "value" "I" (.int (0 : Int32)) := D2 (Or.inr (hw _ (List.mem_of_getElem? (i := 90) rfl))) (ty := .int) (by decide)
  refine m_dup K X2.here hx hby d_jdk_33_22_26 rfl rfl ?_
  refine m_iloadN K X2.here hx hby d_jdk_33_22_27 rfl rfl ?_
  refine k_callP K X2 hx hby hZ b2 [(.int n)] [(.ref b2)] hown (hw _ (List.mem_of_getElem? (i := 78) rfl)) (hw _ (List.mem_of_getElem? (i := 79) rfl)) (hw _ (List.mem_of_getElem? (i := 32) rfl)) (hw _ (List.mem_of_getElem? (i := 81) rfl)) rfl (cii l Z a0 hw b2 n (0 : Int32) h2 n0 (Nat.le_trans Z0 (Nat.le_trans (Nat.le_refl _) E2.1)) A2 F_value_b2 g_b2) e2 rfl rfl pd_9 rfl d_jdk_33_22_28 (by rw [hml]; rfl) rfl (by decide) (by decide) (Nat.le_of_ble_eq_true rfl) (by decide) (by decide) fun v3 T3 L3 X3 q3 => ?_
  obtain ⟨rfl, Nq3, K3, Fp3_0⟩ := q3
  have N3 := Fr.app N0 Nq3
  refine k_none K ?_
  exact Go.retO X3 hx hby hlk hret rfl (Or.inr (Or.inr (Or.inr (Or.inr ⟨rfl, rfl, rfl⟩)))) d_jdk_33_22_31 (by decide) (by decide) (⟨b2, rfl, N3, (((Keep.refl h0 []).ext E2).trans K3 (allS (Or.inr sz_b2) all0)), sz_b2, (A2.keep K3), Fp3_0⟩)
theorem d_jdk_38_6_0 : decode jdk_38_method_6_code 0 = .ok (.aload_n 0, 1) := by decide +kernel
theorem d_jdk_38_6_1 : decode jdk_38_method_6_code 1 = .ok (.getfield 9, 3) := by decide +kernel
theorem d_jdk_38_6_4 : decode jdk_38_method_6_code 4 = .ok (.arraylength, 1) := by decide +kernel
theorem d_jdk_38_6_5 : decode jdk_38_method_6_code 5 = .ok (.istore_n 2, 1) := by decide +kernel
theorem d_jdk_38_6_6 : decode jdk_38_method_6_code 6 = .ok (.iload_n 2, 1) := by decide +kernel
theorem d_jdk_38_6_7 : decode jdk_38_method_6_code 7 = .ok (.ifCond .gt 13, 3) := by decide +kernel
theorem d_jdk_38_6_10 : decode jdk_38_method_6_code 10 = .ok (.aload_n 0, 1) := by decide +kernel
theorem d_jdk_38_6_11 : decode jdk_38_method_6_code 11 = .ok (.getfield 9, 3) := by decide +kernel
theorem d_jdk_38_6_14 : decode jdk_38_method_6_code 14 = .ok (.getstatic 39, 3) := by decide +kernel
theorem d_jdk_38_6_17 : decode jdk_38_method_6_code 17 = .ok (.if_acmp .eq 28, 3) := by decide +kernel
theorem d_jdk_38_6_45 : decode jdk_38_method_6_code 45 = .ok (.aload_n 0, 1) := by decide +kernel
theorem d_jdk_38_6_46 : decode jdk_38_method_6_code 46 = .ok (.bipush 10, 2) := by decide +kernel
theorem d_jdk_38_6_48 : decode jdk_38_method_6_code 48 = .ok (.iload_n 1, 1) := by decide +kernel
theorem d_jdk_38_6_49 : decode jdk_38_method_6_code 49 = .ok (.invokestatic 79, 3) := by decide +kernel
theorem d_jdk_38_6_52 : decode jdk_38_method_6_code 52 = .ok (.anewarray 7, 3) := by decide +kernel
theorem d_jdk_38_6_55 : decode jdk_38_method_6_code 55 = .ok (.dup_x1, 1) := by decide +kernel
theorem d_jdk_38_6_56 : decode jdk_38_method_6_code 56 = .ok (.putfield 9, 3) := by decide +kernel
theorem d_jdk_38_6_59 : decode jdk_38_method_6_code 59 = .ok (.areturn, 1) := by decide +kernel
theorem ef6 (m : MethodId) (x0 : Addr) (x1 : Int32) : entryFrame m #[(.ref x0), (.int x1)] 4 = mkF m 0 #[.val (.ref x0), .val (.int x1), .unset, .unset] [] := by first | (simp [entryFrame, mkF, argsToLocals, Value.category]; done) | rfl
set_option maxRecDepth 65536 in
set_option maxHeartbeats 40000000 in
theorem c6 (l : Launch) (Z : State) (a0 : Array Value) (hw : ∀ d ∈ tables_1, d.before a0 Z = true) (a1 : Addr) (d1 : Addr) (h0 : Heap) (n0 : Nat) (Z0 : n0 ≤ h0.size) (E_a1 : Exa Z h0 a1 "java/util/ArrayList") (F_modCount_a1 : Fld Z h0 a1 "java/util/AbstractList" "modCount" "I" (.int (1 : Int32))) (F_elementData_a1 : Fld Z h0 a1 "java/util/ArrayList" "elementData" "[Ljava/lang/Object;" (.ref d1)) (F_size_a1 : Fld Z h0 a1 "java/util/ArrayList" "size" "I" (.int (0 : Int32))) (A_d1 : Av Z h0 d1 (.object "java/lang/Object") []) (S_ArrayList_DEFAULTCAPACITY_EMPTY_ELEMENTDATA : Sta Z Z.heap "java/util/ArrayList" "DEFAULTCAPACITY_EMPTY_ELEMENTDATA" "[Ljava/lang/Object;" (.ref d1)) (O0 : Old Z n0 h0) (g_a1 : n0 ≤ a1) :
    Con l Z (⟨"java/util/ArrayList", "grow", "(I)[Ljava/lang/Object;"⟩ : MethodName) jdk_38_method_6_code 4 (some (.array (.object "java/lang/Object"))) ({ frames := 1, cells := 1, slots := 10, locals := 14 } : Room) [] #[(.ref a1), (.int (1 : Int32))] h0 (fun v h L => ∃ ba : Addr, v = some (.ref ba) ∧ Fr n0 L ∧ Keep h0 h [a1] ∧ h0.size ≤ ba ∧ Fld Z h a1 "java/util/AbstractList" "modCount" "I" (.int (1 : Int32)) ∧ Fld Z h a1 "java/util/ArrayList" "elementData" "[Ljava/lang/Object;" (.ref ba) ∧ Fld Z h a1 "java/util/ArrayList" "size" "I" (.int (0 : Int32)) ∧ Avr Z h ba "java/lang/Object" [.null, .null, .null, .null, .null, .null, .null, .null, .null, .null]) := by
  refine Con.of (plainFor_of_name pn_java_util_ArrayList) #[.val (.ref a1), .val (.int (1 : Int32)), .unset, .unset] (fun m => ef6 m a1 (1 : Int32)) ?_
  intro p e s m below meth c s₁ K hx hby hml hown hnm hret hlk hZ X0 e0 hnd
  have N0 := Fr.nil n0
  refine m_aloadN K X0.here hx hby d_jdk_38_6_0 rfl rfl rfl ?_
  refine k_getF K X0 hx hby hZ hown (host := "") (Or.inl (hw _ (List.mem_of_getElem? (i := 24) rfl))) Via.refl e0 F_elementData_a1 d_jdk_38_6_1 rfl fun T1 X1 e1 => ?_
  refine k_len K X1 hx hby hZ (0 : Int32) e1 A_d1 rfl d_jdk_38_6_4 rfl ?_
  refine m_istoreN K X1.here hx hby #[.val (.ref a1), .val (.int (1 : Int32)), .val (.int (0 : Int32)), .unset] d_jdk_38_6_5 rfl rfl ?_
  refine m_iloadN K X1.here hx hby d_jdk_38_6_6 rfl rfl ?_
  refine m_ifN K X1.here hx hby (q := 10) d_jdk_38_6_7 ((if0 _ _).trans (flt (by decide : ¬ ((0 : Int32) < (0 : Int32)))).2.2.1) rfl ?_
  refine m_aloadN K X1.here hx hby d_jdk_38_6_10 rfl rfl rfl ?_
  refine k_getF K X1 hx hby hZ hown (host := "") (Or.inl (hw _ (List.mem_of_getElem? (i := 24) rfl))) Via.refl e1 F_elementData_a1 d_jdk_38_6_11 rfl fun T2 X2 e2 => ?_
  refine k_getS K X2 hx hby hZ hown (host := "") (Or.inl (hw _ (List.mem_of_getElem? (i := 23) rfl))) Via.refl e2 (S_ArrayList_DEFAULTCAPACITY_EMPTY_ELEMENTDATA.ext O0.2) d_jdk_38_6_14 rfl fun T3 X3 e3 => ?_
  refine m_acmp K X3 hx hby (q := 45) true d_jdk_38_6_17 rfl rfl (decide_eq_true rfl) (by decide) rfl ?_
  refine m_aloadN K X3.here hx hby d_jdk_38_6_45 rfl rfl rfl ?_
  refine m_bipush K X3.here hx hby (10 : Int32) d_jdk_38_6_46 rfl rfl ?_
  refine m_iloadN K X3.here hx hby d_jdk_38_6_48 rfl rfl ?_
  refine k_callS K X3 hx hby hZ [(.int (10 : Int32)), (.int (1 : Int32))] [(.ref a1)] hown (hw _ (List.mem_of_getElem? (i := 61) rfl)) (hw _ (List.mem_of_getElem? (i := 62) rfl)) (hw _ (List.mem_of_getElem? (i := 63) rfl)) (hw _ (List.mem_of_getElem? (i := 64) rfl)) (cmx l Z a0 hw  h0 n0 Z0) e3 rfl rfl pd_5 rfl d_jdk_38_6_49 (by rw [hml]; rfl) rfl (by decide) (by decide) (Nat.le_of_ble_eq_true rfl) (by decide) (by decide) fun v4 T4 L4 X4 q4 => ?_
  obtain ⟨rfl, e4, rfl⟩ := q4
  replace X4 := own_px X4
  refine k_some K (w := (.int (10 : Int32))) ?_
  refine k_newR K X4 hx hby hZ 10 10 hown (hw _ (List.mem_of_getElem? (i := 65) rfl)) (hw _ (List.mem_of_getElem? (i := 66) rfl)) e4 d_jdk_38_6_52 rfl (by decide) rfl (by decide) (by decide) (by decide) (by decide) fun T5 h5 b5 X5 e5 E5 g5 U_b5 => ?_
  have sz_b5 : h0.size ≤ b5 := Nat.le_trans (Nat.le_refl _) (Nat.le_of_eq g5.symm)
  have g_b5 : n0 ≤ b5 := Nat.le_trans Z0 sz_b5
  replace U_b5 : Avr Z h5 b5 "java/lang/Object" [.null, .null, .null, .null, .null, .null, .null, .null, .null, .null] := U_b5
  refine m_dupX1 K X5.here hx hby d_jdk_38_6_55 rfl rfl rfl ?_
  refine k_putF K X5 hx hby hZ hown (host := "") (Or.inl (hw _ (List.mem_of_getElem? (i := 24) rfl))) Via.refl e5 (F_elementData_a1.ext E5) (E_a1.ext E5) (Or.inl (hw _ (List.mem_of_getElem? (i := 25) rfl))) (hw _ (List.mem_of_getElem? (i := 1) rfl)) (ty := (.array (.object "java/lang/Object"))) (by decide) rfl rfl d_jdk_38_6_56 rfl fun T6 h6 X6 e6 W6 => ?_
  have Fw6 := (F_elementData_a1.ext E5).same W6
  have N6 := Fr.snoc X6 N0 g_a1
  exact Go.retO X6 hx hby hlk hret rfl (Or.inr (Or.inr (Or.inr (Or.inr ⟨rfl, rfl, rfl⟩)))) d_jdk_38_6_59 (by decide) (by decide) (by rw [e6]; exact ⟨b5, rfl, N6, (((Keep.refl h0 [a1]).ext E5).wr W6 (Or.inl (by simp))), sz_b5, ((F_modCount_a1.ext E5).other W6 (Or.inr (slot_ne (Or.inl (hw _ (List.mem_of_getElem? (i := 22) rfl))) (Or.inl (hw _ (List.mem_of_getElem? (i := 25) rfl))) (by decide) (t := .int) (t' := (.array (.object "java/lang/Object"))) (by decide) (by decide)))), Fw6, ((F_size_a1.ext E5).other W6 (Or.inr (slot_ne (Or.inl (hw _ (List.mem_of_getElem? (i := 45) rfl))) (Or.inl (hw _ (List.mem_of_getElem? (i := 25) rfl))) (by decide) (t := .int) (t' := (.array (.object "java/lang/Object"))) (by decide) (by decide)))), (U_b5.other W6 (Ne.symm (Nat.ne_of_lt (Nat.lt_of_lt_of_le (Nat.lt_of_lt_of_le E_a1.lt (Nat.le_refl _)) (Nat.le_of_eq g5.symm)))))⟩)
theorem d_jdk_38_7_0 : decode jdk_38_method_7_code 0 = .ok (.aload_n 0, 1) := by decide +kernel
theorem d_jdk_38_7_1 : decode jdk_38_method_7_code 1 = .ok (.aload_n 0, 1) := by decide +kernel
theorem d_jdk_38_7_2 : decode jdk_38_method_7_code 2 = .ok (.getfield 48, 3) := by decide +kernel
theorem d_jdk_38_7_5 : decode jdk_38_method_7_code 5 = .ok (.iconst 1, 1) := by decide +kernel
theorem d_jdk_38_7_6 : decode jdk_38_method_7_code 6 = .ok (.iadd, 1) := by decide +kernel
theorem d_jdk_38_7_7 : decode jdk_38_method_7_code 7 = .ok (.invokevirtual 69, 3) := by decide +kernel
theorem d_jdk_38_7_10 : decode jdk_38_method_7_code 10 = .ok (.areturn, 1) := by decide +kernel
theorem pd_10 : parseMethodDescriptor "(I)[Ljava/lang/Object;" = some ⟨[.int], some (.array (.object "java/lang/Object"))⟩ := by decide +kernel
theorem ef7 (m : MethodId) (x0 : Addr) : entryFrame m #[(.ref x0)] 1 = mkF m 0 #[.val (.ref x0)] [] := by first | (simp [entryFrame, mkF, argsToLocals, Value.category]; done) | rfl
set_option maxRecDepth 65536 in
set_option maxHeartbeats 40000000 in
theorem c7 (l : Launch) (Z : State) (a0 : Array Value) (hw : ∀ d ∈ tables_1, d.before a0 Z = true) (a1 : Addr) (d1 : Addr) (h0 : Heap) (n0 : Nat) (Z0 : n0 ≤ h0.size) (E_a1 : Exa Z h0 a1 "java/util/ArrayList") (F_modCount_a1 : Fld Z h0 a1 "java/util/AbstractList" "modCount" "I" (.int (1 : Int32))) (F_elementData_a1 : Fld Z h0 a1 "java/util/ArrayList" "elementData" "[Ljava/lang/Object;" (.ref d1)) (F_size_a1 : Fld Z h0 a1 "java/util/ArrayList" "size" "I" (.int (0 : Int32))) (A_d1 : Av Z h0 d1 (.object "java/lang/Object") []) (S_ArrayList_DEFAULTCAPACITY_EMPTY_ELEMENTDATA : Sta Z Z.heap "java/util/ArrayList" "DEFAULTCAPACITY_EMPTY_ELEMENTDATA" "[Ljava/lang/Object;" (.ref d1)) (O0 : Old Z n0 h0) (g_a1 : n0 ≤ a1) :
    Con l Z (⟨"java/util/ArrayList", "grow", "()[Ljava/lang/Object;"⟩ : MethodName) jdk_38_method_7_code 1 (some (.array (.object "java/lang/Object"))) ({ frames := 2, cells := 1, slots := 10, locals := 29 } : Room) [] #[(.ref a1)] h0 (fun v h L => ∃ ba : Addr, v = some (.ref ba) ∧ Fr n0 L ∧ Keep h0 h [a1] ∧ h0.size ≤ ba ∧ Fld Z h a1 "java/util/AbstractList" "modCount" "I" (.int (1 : Int32)) ∧ Fld Z h a1 "java/util/ArrayList" "elementData" "[Ljava/lang/Object;" (.ref ba) ∧ Fld Z h a1 "java/util/ArrayList" "size" "I" (.int (0 : Int32)) ∧ Avr Z h ba "java/lang/Object" [.null, .null, .null, .null, .null, .null, .null, .null, .null, .null]) := by
  refine Con.of (plainFor_of_name pn_java_util_ArrayList) #[.val (.ref a1)] (fun m => ef7 m a1) ?_
  intro p e s m below meth c s₁ K hx hby hml hown hnm hret hlk hZ X0 e0 hnd
  have N0 := Fr.nil n0
  refine m_aloadN K X0.here hx hby d_jdk_38_7_0 rfl rfl rfl ?_
  refine m_aloadN K X0.here hx hby d_jdk_38_7_1 rfl rfl rfl ?_
  refine k_getF K X0 hx hby hZ hown (host := "") (Or.inl (hw _ (List.mem_of_getElem? (i := 44) rfl))) Via.refl e0 F_size_a1 d_jdk_38_7_2 rfl fun T1 X1 e1 => ?_
  refine m_iconst K X1.here hx hby (1 : Int32) d_jdk_38_7_5 rfl rfl ?_
  refine m_iadd K X1.here hx hby (1 : Int32) d_jdk_38_7_6 rfl rfl ?_
  refine k_callR K X1 hx hby hZ a1 [(.int (1 : Int32))] [] hown (hw _ (List.mem_of_getElem? (i := 56) rfl)) (hw _ (List.mem_of_getElem? (i := 57) rfl)) (hw _ (List.mem_of_getElem? (i := 59) rfl)) (hw _ (List.mem_of_getElem? (i := 58) rfl)) (hw _ (List.mem_of_getElem? (i := 2) rfl)) (hw _ (List.mem_of_getElem? (i := 60) rfl)) (c6 l Z a0 hw a1 d1 h0 n0 Z0 E_a1 F_modCount_a1 F_elementData_a1 F_size_a1 A_d1 S_ArrayList_DEFAULTCAPACITY_EMPTY_ELEMENTDATA O0 g_a1) e1 E_a1 rfl rfl pd_10 rfl d_jdk_38_7_7 (by rw [hml]; rfl) rfl (by decide) (by decide) (Nat.le_of_ble_eq_true rfl) (by decide) (by decide) fun v2 T2 L2 X2 q2 => ?_
  obtain ⟨b2_ba, rfl, Nq2, K2, sq_b2_ba, Fp2_0, Fp2_1, Fp2_2, Ap2_0⟩ := q2
  have N2 := Fr.app N0 Nq2
  have sz_b2_ba : h0.size ≤ b2_ba := Nat.le_trans (Nat.le_refl _) sq_b2_ba
  have g_b2_ba : n0 ≤ b2_ba := Nat.le_trans Z0 sz_b2_ba
  refine k_some K (w := (.ref b2_ba)) ?_
  exact Go.retO X2 hx hby hlk hret rfl (Or.inr (Or.inr (Or.inr (Or.inr ⟨rfl, rfl, rfl⟩)))) d_jdk_38_7_10 (by decide) (by decide) (⟨b2_ba, rfl, N2, ((Keep.refl h0 [a1]).trans K2 (allS (Or.inl (by simp)) all0)), sz_b2_ba, Fp2_0, Fp2_1, Fp2_2, Ap2_0⟩)
theorem d_jdk_38_24_0 : decode jdk_38_method_24_code 0 = .ok (.iload_n 3, 1) := by decide +kernel
theorem d_jdk_38_24_1 : decode jdk_38_method_24_code 1 = .ok (.aload_n 2, 1) := by decide +kernel
theorem d_jdk_38_24_2 : decode jdk_38_method_24_code 2 = .ok (.arraylength, 1) := by decide +kernel
theorem d_jdk_38_24_3 : decode jdk_38_method_24_code 3 = .ok (.if_icmp .ne 8, 3) := by decide +kernel
theorem d_jdk_38_24_6 : decode jdk_38_method_24_code 6 = .ok (.aload_n 0, 1) := by decide +kernel
theorem d_jdk_38_24_7 : decode jdk_38_method_24_code 7 = .ok (.invokevirtual 129, 3) := by decide +kernel
theorem d_jdk_38_24_10 : decode jdk_38_method_24_code 10 = .ok (.astore_n 2, 1) := by decide +kernel
theorem d_jdk_38_24_11 : decode jdk_38_method_24_code 11 = .ok (.aload_n 2, 1) := by decide +kernel
theorem d_jdk_38_24_12 : decode jdk_38_method_24_code 12 = .ok (.iload_n 3, 1) := by decide +kernel
theorem d_jdk_38_24_13 : decode jdk_38_method_24_code 13 = .ok (.aload_n 1, 1) := by decide +kernel
theorem d_jdk_38_24_14 : decode jdk_38_method_24_code 14 = .ok (.aastore, 1) := by decide +kernel
theorem d_jdk_38_24_15 : decode jdk_38_method_24_code 15 = .ok (.aload_n 0, 1) := by decide +kernel
theorem d_jdk_38_24_16 : decode jdk_38_method_24_code 16 = .ok (.iload_n 3, 1) := by decide +kernel
theorem d_jdk_38_24_17 : decode jdk_38_method_24_code 17 = .ok (.iconst 1, 1) := by decide +kernel
theorem d_jdk_38_24_18 : decode jdk_38_method_24_code 18 = .ok (.iadd, 1) := by decide +kernel
theorem d_jdk_38_24_19 : decode jdk_38_method_24_code 19 = .ok (.putfield 48, 3) := by decide +kernel
theorem d_jdk_38_24_22 : decode jdk_38_method_24_code 22 = .ok (.return_, 1) := by decide +kernel
theorem pd_11 : parseMethodDescriptor "()[Ljava/lang/Object;" = some ⟨[], some (.array (.object "java/lang/Object"))⟩ := by decide +kernel
theorem ef8i (m : MethodId) (x0 : Addr) (x1 : Addr) (x2 : Addr) (x3 : Int32) : entryFrame m #[(.ref x0), (.ref x1), (.ref x2), (.int x3)] 4 = mkF m 0 #[.val (.ref x0), .val (.ref x1), .val (.ref x2), .val (.int x3)] [] := by first | (simp [entryFrame, mkF, argsToLocals, Value.category]; done) | rfl
set_option maxRecDepth 65536 in
set_option maxHeartbeats 40000000 in
theorem c8i (l : Launch) (Z : State) (a0 : Array Value) (hw : ∀ d ∈ tables_1, d.before a0 Z = true) (a1 : Addr) (a2 : Addr) (d1 : Addr) (h0 : Heap) (n0 : Nat) (Z0 : n0 ≤ h0.size) (E_a1 : Exa Z h0 a1 "java/util/ArrayList") (E_a2 : Exa Z h0 a2 "java/lang/Integer") (F_modCount_a1 : Fld Z h0 a1 "java/util/AbstractList" "modCount" "I" (.int (1 : Int32))) (F_elementData_a1 : Fld Z h0 a1 "java/util/ArrayList" "elementData" "[Ljava/lang/Object;" (.ref d1)) (F_size_a1 : Fld Z h0 a1 "java/util/ArrayList" "size" "I" (.int (0 : Int32))) (A_d1 : Av Z h0 d1 (.object "java/lang/Object") []) (S_ArrayList_DEFAULTCAPACITY_EMPTY_ELEMENTDATA : Sta Z Z.heap "java/util/ArrayList" "DEFAULTCAPACITY_EMPTY_ELEMENTDATA" "[Ljava/lang/Object;" (.ref d1)) (O0 : Old Z n0 h0) (g_a1 : n0 ≤ a1) :
    Con l Z (⟨"java/util/ArrayList", "add", "(Ljava/lang/Object;[Ljava/lang/Object;I)V"⟩ : MethodName) jdk_38_method_24_code 4 none ({ frames := 3, cells := 1, slots := 10, locals := 41 } : Room) [] #[(.ref a1), (.ref a2), (.ref d1), (.int (0 : Int32))] h0 (fun v h L => ∃ ba : Addr, v = none ∧ Fr n0 L ∧ Keep h0 h [a1] ∧ h0.size ≤ ba ∧ Fld Z h a1 "java/util/AbstractList" "modCount" "I" (.int (1 : Int32)) ∧ Fld Z h a1 "java/util/ArrayList" "elementData" "[Ljava/lang/Object;" (.ref ba) ∧ Fld Z h a1 "java/util/ArrayList" "size" "I" (.int (1 : Int32)) ∧ Avr Z h ba "java/lang/Object" [(.ref a2), .null, .null, .null, .null, .null, .null, .null, .null, .null]) := by
  refine Con.of (plainFor_of_name pn_java_util_ArrayList) #[.val (.ref a1), .val (.ref a2), .val (.ref d1), .val (.int (0 : Int32))] (fun m => ef8i m a1 a2 d1 (0 : Int32)) ?_
  intro p e s m below meth c s₁ K hx hby hml hown hnm hret hlk hZ X0 e0 hnd
  have N0 := Fr.nil n0
  refine m_iloadN K X0.here hx hby d_jdk_38_24_0 rfl rfl ?_
  refine m_aloadN K X0.here hx hby d_jdk_38_24_1 rfl rfl rfl ?_
  refine k_len K X0 hx hby hZ (0 : Int32) e0 A_d1 rfl d_jdk_38_24_2 rfl ?_
  refine m_icmpN K X0.here hx hby (q := 6) d_jdk_38_24_3 (teq (by decide : (0 : Int32) = (0 : Int32))).2 rfl ?_
  refine m_aloadN K X0.here hx hby d_jdk_38_24_6 rfl rfl rfl ?_
  refine k_callR K X0 hx hby hZ a1 [] [] hown (hw _ (List.mem_of_getElem? (i := 51) rfl)) (hw _ (List.mem_of_getElem? (i := 52) rfl)) (hw _ (List.mem_of_getElem? (i := 54) rfl)) (hw _ (List.mem_of_getElem? (i := 53) rfl)) (hw _ (List.mem_of_getElem? (i := 2) rfl)) (hw _ (List.mem_of_getElem? (i := 55) rfl)) (c7 l Z a0 hw a1 d1 h0 n0 Z0 E_a1 F_modCount_a1 F_elementData_a1 F_size_a1 A_d1 S_ArrayList_DEFAULTCAPACITY_EMPTY_ELEMENTDATA O0 g_a1) e0 E_a1 rfl rfl pd_11 rfl d_jdk_38_24_7 (by rw [hml]; rfl) rfl (by decide) (by decide) (Nat.le_of_ble_eq_true rfl) (by decide) (by decide) fun v1 T1 L1 X1 q1 => ?_
  obtain ⟨b1_ba, rfl, Nq1, K1, sq_b1_ba, Fp1_0, Fp1_1, Fp1_2, Ap1_0⟩ := q1
  have N1 := Fr.app N0 Nq1
  have sz_b1_ba : h0.size ≤ b1_ba := Nat.le_trans (Nat.le_refl _) sq_b1_ba
  have g_b1_ba : n0 ≤ b1_ba := Nat.le_trans Z0 sz_b1_ba
  refine k_some K (w := (.ref b1_ba)) ?_
  refine m_astoreN K X1.here hx hby #[.val (.ref a1), .val (.ref a2), .val (.ref b1_ba), .val (.int (0 : Int32))] d_jdk_38_24_10 rfl rfl rfl ?_
  refine m_aloadN K X1.here hx hby d_jdk_38_24_11 rfl rfl rfl ?_
  refine m_iloadN K X1.here hx hby d_jdk_38_24_12 rfl rfl ?_
  refine m_aloadN K X1.here hx hby d_jdk_38_24_13 rfl rfl rfl ?_
  refine k_stR K X1 hx hby hZ rfl Ap1_0 (by decide) (Nat.le_of_ble_eq_true rfl) (Or.inr ⟨_, rfl, (Ins.of_exa (E_a2.keep K1) (hw _ (List.mem_of_getElem? (i := 67) rfl)))⟩) d_jdk_38_24_14 rfl fun T2 h2 X2 e2 W2 V2 => ?_
  replace V2 : Avr Z h2 b1_ba "java/lang/Object" [(.ref a2), .null, .null, .null, .null, .null, .null, .null, .null, .null] := V2
  have N2 := Fr.snoc X2 N1 g_b1_ba
  refine m_aloadN K X2.here hx hby d_jdk_38_24_15 rfl rfl rfl ?_
  refine m_iloadN K X2.here hx hby d_jdk_38_24_16 rfl rfl ?_
  refine m_iconst K X2.here hx hby (1 : Int32) d_jdk_38_24_17 rfl rfl ?_
  refine m_iadd K X2.here hx hby (1 : Int32) d_jdk_38_24_18 rfl rfl ?_
  refine k_putF K X2 hx hby hZ hown (host := "") (Or.inl (hw _ (List.mem_of_getElem? (i := 44) rfl))) Via.refl e2 (Fp1_2.other W2 (Or.inl (Nat.ne_of_lt (Nat.lt_of_lt_of_le (Nat.lt_of_lt_of_le E_a1.lt (Nat.le_refl _)) sq_b1_ba)))) ((E_a1.keep K1).wr W2) (Or.inl (hw _ (List.mem_of_getElem? (i := 45) rfl))) (hw _ (List.mem_of_getElem? (i := 1) rfl)) (ty := .int) (by decide) rfl rfl d_jdk_38_24_19 rfl fun T3 h3 X3 e3 W3 => ?_
  have Fw3 := (Fp1_2.other W2 (Or.inl (Nat.ne_of_lt (Nat.lt_of_lt_of_le (Nat.lt_of_lt_of_le E_a1.lt (Nat.le_refl _)) sq_b1_ba)))).same W3
  have N3 := Fr.snoc X3 N2 g_a1
  exact Go.retV X3 hx hby hlk hret d_jdk_38_24_22 (by decide) (by decide) (by rw [e3]; exact ⟨b1_ba, rfl, N3, ((((Keep.refl h0 [a1]).trans K1 (allS (Or.inl (by simp)) all0)).wr W2 (Or.inr sz_b1_ba)).wr W3 (Or.inl (by simp))), sz_b1_ba, ((Fp1_0.other W2 (Or.inl (Nat.ne_of_lt (Nat.lt_of_lt_of_le (Nat.lt_of_lt_of_le E_a1.lt (Nat.le_refl _)) sq_b1_ba)))).other W3 (Or.inr (slot_ne (Or.inl (hw _ (List.mem_of_getElem? (i := 22) rfl))) (Or.inl (hw _ (List.mem_of_getElem? (i := 45) rfl))) (by decide) (t := .int) (t' := .int) (by decide) (by decide)))), ((Fp1_1.other W2 (Or.inl (Nat.ne_of_lt (Nat.lt_of_lt_of_le (Nat.lt_of_lt_of_le E_a1.lt (Nat.le_refl _)) sq_b1_ba)))).other W3 (Or.inr (slot_ne (Or.inl (hw _ (List.mem_of_getElem? (i := 25) rfl))) (Or.inl (hw _ (List.mem_of_getElem? (i := 45) rfl))) (by decide) (t := (.array (.object "java/lang/Object"))) (t' := .int) (by decide) (by decide)))), Fw3, (V2.other W3 (Ne.symm (Nat.ne_of_lt (Nat.lt_of_lt_of_le (Nat.lt_of_lt_of_le E_a1.lt (Nat.le_refl _)) sq_b1_ba))))⟩)
theorem d_jdk_38_25_0 : decode jdk_38_method_25_code 0 = .ok (.aload_n 0, 1) := by decide +kernel
theorem d_jdk_38_25_1 : decode jdk_38_method_25_code 1 = .ok (.dup, 1) := by decide +kernel
theorem d_jdk_38_25_2 : decode jdk_38_method_25_code 2 = .ok (.getfield 63, 3) := by decide +kernel
theorem d_jdk_38_25_5 : decode jdk_38_method_25_code 5 = .ok (.iconst 1, 1) := by decide +kernel
theorem d_jdk_38_25_6 : decode jdk_38_method_25_code 6 = .ok (.iadd, 1) := by decide +kernel
theorem d_jdk_38_25_7 : decode jdk_38_method_25_code 7 = .ok (.putfield 63, 3) := by decide +kernel
theorem d_jdk_38_25_10 : decode jdk_38_method_25_code 10 = .ok (.aload_n 0, 1) := by decide +kernel
theorem d_jdk_38_25_11 : decode jdk_38_method_25_code 11 = .ok (.aload_n 1, 1) := by decide +kernel
theorem d_jdk_38_25_12 : decode jdk_38_method_25_code 12 = .ok (.aload_n 0, 1) := by decide +kernel
theorem d_jdk_38_25_13 : decode jdk_38_method_25_code 13 = .ok (.getfield 9, 3) := by decide +kernel
theorem d_jdk_38_25_16 : decode jdk_38_method_25_code 16 = .ok (.aload_n 0, 1) := by decide +kernel
theorem d_jdk_38_25_17 : decode jdk_38_method_25_code 17 = .ok (.getfield 48, 3) := by decide +kernel
theorem d_jdk_38_25_20 : decode jdk_38_method_25_code 20 = .ok (.invokevirtual 131, 3) := by decide +kernel
theorem d_jdk_38_25_23 : decode jdk_38_method_25_code 23 = .ok (.iconst 1, 1) := by decide +kernel
theorem d_jdk_38_25_24 : decode jdk_38_method_25_code 24 = .ok (.ireturn, 1) := by decide +kernel
theorem pd_12 : parseMethodDescriptor "(Ljava/lang/Object;[Ljava/lang/Object;I)V" = some ⟨[(.object "java/lang/Object"), (.array (.object "java/lang/Object")), .int], none⟩ := by decide +kernel
theorem ef9i (m : MethodId) (x0 : Addr) (x1 : Addr) : entryFrame m #[(.ref x0), (.ref x1)] 2 = mkF m 0 #[.val (.ref x0), .val (.ref x1)] [] := by first | (simp [entryFrame, mkF, argsToLocals, Value.category]; done) | rfl
set_option maxRecDepth 65536 in
set_option maxHeartbeats 40000000 in
theorem c9i (l : Launch) (Z : State) (a0 : Array Value) (hw : ∀ d ∈ tables_1, d.before a0 Z = true) (a1 : Addr) (a2 : Addr) (d1 : Addr) (h0 : Heap) (n0 : Nat) (Z0 : n0 ≤ h0.size) (E_a1 : Exa Z h0 a1 "java/util/ArrayList") (E_a2 : Exa Z h0 a2 "java/lang/Integer") (F_modCount_a1 : Fld Z h0 a1 "java/util/AbstractList" "modCount" "I" (.int (0 : Int32))) (F_elementData_a1 : Fld Z h0 a1 "java/util/ArrayList" "elementData" "[Ljava/lang/Object;" (.ref d1)) (F_size_a1 : Fld Z h0 a1 "java/util/ArrayList" "size" "I" (.int (0 : Int32))) (A_d1 : Av Z h0 d1 (.object "java/lang/Object") []) (S_ArrayList_DEFAULTCAPACITY_EMPTY_ELEMENTDATA : Sta Z Z.heap "java/util/ArrayList" "DEFAULTCAPACITY_EMPTY_ELEMENTDATA" "[Ljava/lang/Object;" (.ref d1)) (O0 : Old Z n0 h0) (g_a1 : n0 ≤ a1) (ne_d1_a1 : d1 ≠ a1) :
    Con l Z (⟨"java/util/ArrayList", "add", "(Ljava/lang/Object;)Z"⟩ : MethodName) jdk_38_method_25_code 2 (some .boolean) ({ frames := 4, cells := 1, slots := 10, locals := 56 } : Room) [] #[(.ref a1), (.ref a2)] h0 (fun v h L => ∃ ba : Addr, v = some (.int (1 : Int32)) ∧ Fr n0 L ∧ Keep h0 h [a1] ∧ h0.size ≤ ba ∧ Fld Z h a1 "java/util/AbstractList" "modCount" "I" (.int (1 : Int32)) ∧ Fld Z h a1 "java/util/ArrayList" "elementData" "[Ljava/lang/Object;" (.ref ba) ∧ Fld Z h a1 "java/util/ArrayList" "size" "I" (.int (1 : Int32)) ∧ Avr Z h ba "java/lang/Object" [(.ref a2), .null, .null, .null, .null, .null, .null, .null, .null, .null]) := by
  refine Con.of (plainFor_of_name pn_java_util_ArrayList) #[.val (.ref a1), .val (.ref a2)] (fun m => ef9i m a1 a2) ?_
  intro p e s m below meth c s₁ K hx hby hml hown hnm hret hlk hZ X0 e0 hnd
  have N0 := Fr.nil n0
  refine m_aloadN K X0.here hx hby d_jdk_38_25_0 rfl rfl rfl ?_
  refine m_dup K X0.here hx hby d_jdk_38_25_1 rfl rfl ?_
  refine k_getF K X0 hx hby hZ hown (host := "") (Or.inl (hw _ (List.mem_of_getElem? (i := 42) rfl))) (Via.of (hw _ (List.mem_of_getElem? (i := 43) rfl))) e0 F_modCount_a1 d_jdk_38_25_2 rfl fun T1 X1 e1 => ?_
  refine m_iconst K X1.here hx hby (1 : Int32) d_jdk_38_25_5 rfl rfl ?_
  refine m_iadd K X1.here hx hby (1 : Int32) d_jdk_38_25_6 rfl rfl ?_
  refine k_putF K X1 hx hby hZ hown (host := "") (Or.inl (hw _ (List.mem_of_getElem? (i := 42) rfl))) (Via.of (hw _ (List.mem_of_getElem? (i := 43) rfl))) e1 F_modCount_a1 E_a1 (Or.inl (hw _ (List.mem_of_getElem? (i := 22) rfl))) (hw _ (List.mem_of_getElem? (i := 1) rfl)) (ty := .int) (by decide) rfl rfl d_jdk_38_25_7 rfl fun T2 h2 X2 e2 W2 => ?_
  have Fw2 := F_modCount_a1.same W2
  have N2 := Fr.snoc X2 N0 g_a1
  refine m_aloadN K X2.here hx hby d_jdk_38_25_10 rfl rfl rfl ?_
  refine m_aloadN K X2.here hx hby d_jdk_38_25_11 rfl rfl rfl ?_
  refine m_aloadN K X2.here hx hby d_jdk_38_25_12 rfl rfl rfl ?_
  refine k_getF K X2 hx hby hZ hown (host := "") (Or.inl (hw _ (List.mem_of_getElem? (i := 24) rfl))) Via.refl e2 (F_elementData_a1.other W2 (Or.inr (slot_ne (Or.inl (hw _ (List.mem_of_getElem? (i := 25) rfl))) (Or.inl (hw _ (List.mem_of_getElem? (i := 22) rfl))) (by decide) (t := (.array (.object "java/lang/Object"))) (t' := .int) (by decide) (by decide)))) d_jdk_38_25_13 rfl fun T3 X3 e3 => ?_
  refine m_aloadN K X3.here hx hby d_jdk_38_25_16 rfl rfl rfl ?_
  refine k_getF K X3 hx hby hZ hown (host := "") (Or.inl (hw _ (List.mem_of_getElem? (i := 44) rfl))) Via.refl e3 (F_size_a1.other W2 (Or.inr (slot_ne (Or.inl (hw _ (List.mem_of_getElem? (i := 45) rfl))) (Or.inl (hw _ (List.mem_of_getElem? (i := 22) rfl))) (by decide) (t := .int) (t' := .int) (by decide) (by decide)))) d_jdk_38_25_17 rfl fun T4 X4 e4 => ?_
  refine k_callR K X4 hx hby hZ a1 [(.ref a2), (.ref d1), (.int (0 : Int32))] [] hown (hw _ (List.mem_of_getElem? (i := 46) rfl)) (hw _ (List.mem_of_getElem? (i := 47) rfl)) (hw _ (List.mem_of_getElem? (i := 49) rfl)) (hw _ (List.mem_of_getElem? (i := 48) rfl)) (hw _ (List.mem_of_getElem? (i := 2) rfl)) (hw _ (List.mem_of_getElem? (i := 50) rfl)) (c8i l Z a0 hw a1 a2 d1 h2 n0 (Nat.le_trans Z0 (Nat.le_trans (Nat.le_refl _) (Keep.of_wr W2).1)) (E_a1.wr W2) (E_a2.wr W2) Fw2 (F_elementData_a1.other W2 (Or.inr (slot_ne (Or.inl (hw _ (List.mem_of_getElem? (i := 25) rfl))) (Or.inl (hw _ (List.mem_of_getElem? (i := 22) rfl))) (by decide) (t := (.array (.object "java/lang/Object"))) (t' := .int) (by decide) (by decide)))) (F_size_a1.other W2 (Or.inr (slot_ne (Or.inl (hw _ (List.mem_of_getElem? (i := 45) rfl))) (Or.inl (hw _ (List.mem_of_getElem? (i := 22) rfl))) (by decide) (t := .int) (t' := .int) (by decide) (by decide)))) (A_d1.other W2 ne_d1_a1) S_ArrayList_DEFAULTCAPACITY_EMPTY_ELEMENTDATA (O0.wr W2 g_a1) g_a1) e4 (E_a1.wr W2) rfl rfl pd_12 rfl d_jdk_38_25_20 (by rw [hml]; rfl) rfl (by decide) (by decide) (Nat.le_of_ble_eq_true rfl) (by decide) (by decide) fun v5 T5 L5 X5 q5 => ?_
  obtain ⟨b5_ba, rfl, Nq5, K5, sq_b5_ba, Fp5_0, Fp5_1, Fp5_2, Ap5_0⟩ := q5
  have N5 := Fr.app N2 Nq5
  have sz_b5_ba : h0.size ≤ b5_ba := Nat.le_trans (Nat.le_trans (Nat.le_refl _) (Keep.of_wr W2).1) sq_b5_ba
  have g_b5_ba : n0 ≤ b5_ba := Nat.le_trans Z0 sz_b5_ba
  refine k_none K ?_
  refine m_iconst K X5.here hx hby (1 : Int32) d_jdk_38_25_23 rfl rfl ?_
  exact Go.retN X5 hx hby hlk hret (by simp) d_jdk_38_25_24 (by decide) (by decide) (by decide) (⟨b5_ba, rfl, N5, (((Keep.refl h0 [a1]).wr W2 (Or.inl (by simp))).trans K5 (allS (Or.inl (by simp)) all0)), sz_b5_ba, Fp5_0, Fp5_1, Fp5_2, Ap5_0⟩)
theorem ef8i1 (m : MethodId) (x0 : Addr) (x1 : Addr) (x2 : Addr) (x3 : Int32) : entryFrame m #[(.ref x0), (.ref x1), (.ref x2), (.int x3)] 4 = mkF m 0 #[.val (.ref x0), .val (.ref x1), .val (.ref x2), .val (.int x3)] [] := by first | (simp [entryFrame, mkF, argsToLocals, Value.category]; done) | rfl
set_option maxRecDepth 65536 in
set_option maxHeartbeats 40000000 in
theorem c8i1 (l : Launch) (Z : State) (a0 : Array Value) (hw : ∀ d ∈ tables_1, d.before a0 Z = true) (a1 : Addr) (a2 : Addr) (ba : Addr) (r0 : Addr) (h0 : Heap) (n0 : Nat) (Z0 : n0 ≤ h0.size) (E_a1 : Exa Z h0 a1 "java/util/ArrayList") (E_a2 : Exa Z h0 a2 "java/lang/Integer") (F_modCount_a1 : Fld Z h0 a1 "java/util/AbstractList" "modCount" "I" (.int (2 : Int32))) (F_elementData_a1 : Fld Z h0 a1 "java/util/ArrayList" "elementData" "[Ljava/lang/Object;" (.ref ba)) (F_size_a1 : Fld Z h0 a1 "java/util/ArrayList" "size" "I" (.int (1 : Int32))) (A_ba : Avr Z h0 ba "java/lang/Object" [(.ref r0), .null, .null, .null, .null, .null, .null, .null, .null, .null]) (g_a1 : n0 ≤ a1) (g_ba : n0 ≤ ba) (ne_a1_ba : a1 ≠ ba) :
    Con l Z (⟨"java/util/ArrayList", "add", "(Ljava/lang/Object;[Ljava/lang/Object;I)V"⟩ : MethodName) jdk_38_method_24_code 4 none ({ frames := 0, cells := 0, slots := 0, locals := 0 } : Room) [] #[(.ref a1), (.ref a2), (.ref ba), (.int (1 : Int32))] h0 (fun v h L => v = none ∧ Fr n0 L ∧ Keep h0 h [a1, ba] ∧ Fld Z h a1 "java/util/AbstractList" "modCount" "I" (.int (2 : Int32)) ∧ Fld Z h a1 "java/util/ArrayList" "elementData" "[Ljava/lang/Object;" (.ref ba) ∧ Fld Z h a1 "java/util/ArrayList" "size" "I" (.int (2 : Int32)) ∧ Avr Z h ba "java/lang/Object" [(.ref r0), (.ref a2), .null, .null, .null, .null, .null, .null, .null, .null]) := by
  refine Con.of (plainFor_of_name pn_java_util_ArrayList) #[.val (.ref a1), .val (.ref a2), .val (.ref ba), .val (.int (1 : Int32))] (fun m => ef8i1 m a1 a2 ba (1 : Int32)) ?_
  intro p e s m below meth c s₁ K hx hby hml hown hnm hret hlk hZ X0 e0 hnd
  have N0 := Fr.nil n0
  refine m_iloadN K X0.here hx hby d_jdk_38_24_0 rfl rfl ?_
  refine m_aloadN K X0.here hx hby d_jdk_38_24_1 rfl rfl rfl ?_
  refine k_len K X0 hx hby hZ (10 : Int32) e0 A_ba.av rfl d_jdk_38_24_2 rfl ?_
  refine m_icmpY K X0.here hx hby (q := 11) d_jdk_38_24_3 (feq (by decide : ¬ ((1 : Int32) = (10 : Int32)))).2 (by decide) rfl ?_
  refine m_aloadN K X0.here hx hby d_jdk_38_24_11 rfl rfl rfl ?_
  refine m_iloadN K X0.here hx hby d_jdk_38_24_12 rfl rfl ?_
  refine m_aloadN K X0.here hx hby d_jdk_38_24_13 rfl rfl rfl ?_
  refine k_stR K X0 hx hby hZ e0 A_ba (by decide) (Nat.le_of_ble_eq_true rfl) (Or.inr ⟨_, rfl, (Ins.of_exa E_a2 (hw _ (List.mem_of_getElem? (i := 67) rfl)))⟩) d_jdk_38_24_14 rfl fun T1 h1 X1 e1 W1 V1 => ?_
  replace V1 : Avr Z h1 ba "java/lang/Object" [(.ref r0), (.ref a2), .null, .null, .null, .null, .null, .null, .null, .null] := V1
  have N1 := Fr.snoc X1 N0 g_ba
  refine m_aloadN K X1.here hx hby d_jdk_38_24_15 rfl rfl rfl ?_
  refine m_iloadN K X1.here hx hby d_jdk_38_24_16 rfl rfl ?_
  refine m_iconst K X1.here hx hby (1 : Int32) d_jdk_38_24_17 rfl rfl ?_
  refine m_iadd K X1.here hx hby (2 : Int32) d_jdk_38_24_18 rfl rfl ?_
  refine k_putF K X1 hx hby hZ hown (host := "") (Or.inl (hw _ (List.mem_of_getElem? (i := 44) rfl))) Via.refl e1 (F_size_a1.other W1 (Or.inl ne_a1_ba)) (E_a1.wr W1) (Or.inl (hw _ (List.mem_of_getElem? (i := 45) rfl))) (hw _ (List.mem_of_getElem? (i := 1) rfl)) (ty := .int) (by decide) rfl rfl d_jdk_38_24_19 rfl fun T2 h2 X2 e2 W2 => ?_
  have Fw2 := (F_size_a1.other W1 (Or.inl ne_a1_ba)).same W2
  have N2 := Fr.snoc X2 N1 g_a1
  exact Go.retV X2 hx hby hlk hret d_jdk_38_24_22 (by decide) (by decide) (by rw [e2]; exact ⟨rfl, N2, (((Keep.refl h0 [a1, ba]).wr W1 (Or.inl (by simp))).wr W2 (Or.inl (by simp))), ((F_modCount_a1.other W1 (Or.inl ne_a1_ba)).other W2 (Or.inr (slot_ne (Or.inl (hw _ (List.mem_of_getElem? (i := 22) rfl))) (Or.inl (hw _ (List.mem_of_getElem? (i := 45) rfl))) (by decide) (t := .int) (t' := .int) (by decide) (by decide)))), ((F_elementData_a1.other W1 (Or.inl ne_a1_ba)).other W2 (Or.inr (slot_ne (Or.inl (hw _ (List.mem_of_getElem? (i := 25) rfl))) (Or.inl (hw _ (List.mem_of_getElem? (i := 45) rfl))) (by decide) (t := (.array (.object "java/lang/Object"))) (t' := .int) (by decide) (by decide)))), Fw2, (V1.other W2 (Ne.symm ne_a1_ba))⟩)
theorem ef9i1 (m : MethodId) (x0 : Addr) (x1 : Addr) : entryFrame m #[(.ref x0), (.ref x1)] 2 = mkF m 0 #[.val (.ref x0), .val (.ref x1)] [] := by first | (simp [entryFrame, mkF, argsToLocals, Value.category]; done) | rfl
set_option maxRecDepth 65536 in
set_option maxHeartbeats 40000000 in
theorem c9i1 (l : Launch) (Z : State) (a0 : Array Value) (hw : ∀ d ∈ tables_1, d.before a0 Z = true) (a1 : Addr) (a2 : Addr) (ba : Addr) (r0 : Addr) (h0 : Heap) (n0 : Nat) (Z0 : n0 ≤ h0.size) (E_a1 : Exa Z h0 a1 "java/util/ArrayList") (E_a2 : Exa Z h0 a2 "java/lang/Integer") (F_modCount_a1 : Fld Z h0 a1 "java/util/AbstractList" "modCount" "I" (.int (1 : Int32))) (F_elementData_a1 : Fld Z h0 a1 "java/util/ArrayList" "elementData" "[Ljava/lang/Object;" (.ref ba)) (F_size_a1 : Fld Z h0 a1 "java/util/ArrayList" "size" "I" (.int (1 : Int32))) (A_ba : Avr Z h0 ba "java/lang/Object" [(.ref r0), .null, .null, .null, .null, .null, .null, .null, .null, .null]) (g_a1 : n0 ≤ a1) (g_ba : n0 ≤ ba) (ne_a1_ba : a1 ≠ ba) :
    Con l Z (⟨"java/util/ArrayList", "add", "(Ljava/lang/Object;)Z"⟩ : MethodName) jdk_38_method_25_code 2 (some .boolean) ({ frames := 1, cells := 0, slots := 0, locals := 15 } : Room) [] #[(.ref a1), (.ref a2)] h0 (fun v h L => v = some (.int (1 : Int32)) ∧ Fr n0 L ∧ Keep h0 h [a1, ba] ∧ Fld Z h a1 "java/util/AbstractList" "modCount" "I" (.int (2 : Int32)) ∧ Fld Z h a1 "java/util/ArrayList" "elementData" "[Ljava/lang/Object;" (.ref ba) ∧ Fld Z h a1 "java/util/ArrayList" "size" "I" (.int (2 : Int32)) ∧ Avr Z h ba "java/lang/Object" [(.ref r0), (.ref a2), .null, .null, .null, .null, .null, .null, .null, .null]) := by
  refine Con.of (plainFor_of_name pn_java_util_ArrayList) #[.val (.ref a1), .val (.ref a2)] (fun m => ef9i1 m a1 a2) ?_
  intro p e s m below meth c s₁ K hx hby hml hown hnm hret hlk hZ X0 e0 hnd
  have N0 := Fr.nil n0
  refine m_aloadN K X0.here hx hby d_jdk_38_25_0 rfl rfl rfl ?_
  refine m_dup K X0.here hx hby d_jdk_38_25_1 rfl rfl ?_
  refine k_getF K X0 hx hby hZ hown (host := "") (Or.inl (hw _ (List.mem_of_getElem? (i := 42) rfl))) (Via.of (hw _ (List.mem_of_getElem? (i := 43) rfl))) e0 F_modCount_a1 d_jdk_38_25_2 rfl fun T1 X1 e1 => ?_
  refine m_iconst K X1.here hx hby (1 : Int32) d_jdk_38_25_5 rfl rfl ?_
  refine m_iadd K X1.here hx hby (2 : Int32) d_jdk_38_25_6 rfl rfl ?_
  refine k_putF K X1 hx hby hZ hown (host := "") (Or.inl (hw _ (List.mem_of_getElem? (i := 42) rfl))) (Via.of (hw _ (List.mem_of_getElem? (i := 43) rfl))) e1 F_modCount_a1 E_a1 (Or.inl (hw _ (List.mem_of_getElem? (i := 22) rfl))) (hw _ (List.mem_of_getElem? (i := 1) rfl)) (ty := .int) (by decide) rfl rfl d_jdk_38_25_7 rfl fun T2 h2 X2 e2 W2 => ?_
  have Fw2 := F_modCount_a1.same W2
  have N2 := Fr.snoc X2 N0 g_a1
  refine m_aloadN K X2.here hx hby d_jdk_38_25_10 rfl rfl rfl ?_
  refine m_aloadN K X2.here hx hby d_jdk_38_25_11 rfl rfl rfl ?_
  refine m_aloadN K X2.here hx hby d_jdk_38_25_12 rfl rfl rfl ?_
  refine k_getF K X2 hx hby hZ hown (host := "") (Or.inl (hw _ (List.mem_of_getElem? (i := 24) rfl))) Via.refl e2 (F_elementData_a1.other W2 (Or.inr (slot_ne (Or.inl (hw _ (List.mem_of_getElem? (i := 25) rfl))) (Or.inl (hw _ (List.mem_of_getElem? (i := 22) rfl))) (by decide) (t := (.array (.object "java/lang/Object"))) (t' := .int) (by decide) (by decide)))) d_jdk_38_25_13 rfl fun T3 X3 e3 => ?_
  refine m_aloadN K X3.here hx hby d_jdk_38_25_16 rfl rfl rfl ?_
  refine k_getF K X3 hx hby hZ hown (host := "") (Or.inl (hw _ (List.mem_of_getElem? (i := 44) rfl))) Via.refl e3 (F_size_a1.other W2 (Or.inr (slot_ne (Or.inl (hw _ (List.mem_of_getElem? (i := 45) rfl))) (Or.inl (hw _ (List.mem_of_getElem? (i := 22) rfl))) (by decide) (t := .int) (t' := .int) (by decide) (by decide)))) d_jdk_38_25_17 rfl fun T4 X4 e4 => ?_
  refine k_callR K X4 hx hby hZ a1 [(.ref a2), (.ref ba), (.int (1 : Int32))] [] hown (hw _ (List.mem_of_getElem? (i := 46) rfl)) (hw _ (List.mem_of_getElem? (i := 47) rfl)) (hw _ (List.mem_of_getElem? (i := 49) rfl)) (hw _ (List.mem_of_getElem? (i := 48) rfl)) (hw _ (List.mem_of_getElem? (i := 2) rfl)) (hw _ (List.mem_of_getElem? (i := 50) rfl)) (c8i1 l Z a0 hw a1 a2 ba r0 h2 n0 (Nat.le_trans Z0 (Nat.le_trans (Nat.le_refl _) (Keep.of_wr W2).1)) (E_a1.wr W2) (E_a2.wr W2) Fw2 (F_elementData_a1.other W2 (Or.inr (slot_ne (Or.inl (hw _ (List.mem_of_getElem? (i := 25) rfl))) (Or.inl (hw _ (List.mem_of_getElem? (i := 22) rfl))) (by decide) (t := (.array (.object "java/lang/Object"))) (t' := .int) (by decide) (by decide)))) (F_size_a1.other W2 (Or.inr (slot_ne (Or.inl (hw _ (List.mem_of_getElem? (i := 45) rfl))) (Or.inl (hw _ (List.mem_of_getElem? (i := 22) rfl))) (by decide) (t := .int) (t' := .int) (by decide) (by decide)))) (A_ba.other W2 (Ne.symm ne_a1_ba)) g_a1 g_ba ne_a1_ba) e4 (E_a1.wr W2) rfl rfl pd_12 rfl d_jdk_38_25_20 (by rw [hml]; rfl) rfl (by decide) (by decide) (Nat.le_of_ble_eq_true rfl) (by decide) (by decide) fun v5 T5 L5 X5 q5 => ?_
  obtain ⟨rfl, Nq5, K5, Fp5_0, Fp5_1, Fp5_2, Ap5_0⟩ := q5
  have N5 := Fr.app N2 Nq5
  refine k_none K ?_
  refine m_iconst K X5.here hx hby (1 : Int32) d_jdk_38_25_23 rfl rfl ?_
  exact Go.retN X5 hx hby hlk hret (by simp) d_jdk_38_25_24 (by decide) (by decide) (by decide) (⟨rfl, N5, (((Keep.refl h0 [a1, ba]).wr W2 (Or.inl (by simp))).trans K5 (allS (Or.inl (by simp)) (allS (Or.inl (by simp)) all0))), Fp5_0, Fp5_1, Fp5_2, Ap5_0⟩)
theorem ef8i2 (m : MethodId) (x0 : Addr) (x1 : Addr) (x2 : Addr) (x3 : Int32) : entryFrame m #[(.ref x0), (.ref x1), (.ref x2), (.int x3)] 4 = mkF m 0 #[.val (.ref x0), .val (.ref x1), .val (.ref x2), .val (.int x3)] [] := by first | (simp [entryFrame, mkF, argsToLocals, Value.category]; done) | rfl
set_option maxRecDepth 65536 in
set_option maxHeartbeats 40000000 in
theorem c8i2 (l : Launch) (Z : State) (a0 : Array Value) (hw : ∀ d ∈ tables_1, d.before a0 Z = true) (a1 : Addr) (a2 : Addr) (ba : Addr) (r0 : Addr) (r1 : Addr) (h0 : Heap) (n0 : Nat) (Z0 : n0 ≤ h0.size) (E_a1 : Exa Z h0 a1 "java/util/ArrayList") (E_a2 : Exa Z h0 a2 "java/lang/Integer") (F_modCount_a1 : Fld Z h0 a1 "java/util/AbstractList" "modCount" "I" (.int (3 : Int32))) (F_elementData_a1 : Fld Z h0 a1 "java/util/ArrayList" "elementData" "[Ljava/lang/Object;" (.ref ba)) (F_size_a1 : Fld Z h0 a1 "java/util/ArrayList" "size" "I" (.int (2 : Int32))) (A_ba : Avr Z h0 ba "java/lang/Object" [(.ref r0), (.ref r1), .null, .null, .null, .null, .null, .null, .null, .null]) (g_a1 : n0 ≤ a1) (g_ba : n0 ≤ ba) (ne_a1_ba : a1 ≠ ba) :
    Con l Z (⟨"java/util/ArrayList", "add", "(Ljava/lang/Object;[Ljava/lang/Object;I)V"⟩ : MethodName) jdk_38_method_24_code 4 none ({ frames := 0, cells := 0, slots := 0, locals := 0 } : Room) [] #[(.ref a1), (.ref a2), (.ref ba), (.int (2 : Int32))] h0 (fun v h L => v = none ∧ Fr n0 L ∧ Keep h0 h [a1, ba] ∧ Fld Z h a1 "java/util/AbstractList" "modCount" "I" (.int (3 : Int32)) ∧ Fld Z h a1 "java/util/ArrayList" "elementData" "[Ljava/lang/Object;" (.ref ba) ∧ Fld Z h a1 "java/util/ArrayList" "size" "I" (.int (3 : Int32)) ∧ Avr Z h ba "java/lang/Object" [(.ref r0), (.ref r1), (.ref a2), .null, .null, .null, .null, .null, .null, .null]) := by
  refine Con.of (plainFor_of_name pn_java_util_ArrayList) #[.val (.ref a1), .val (.ref a2), .val (.ref ba), .val (.int (2 : Int32))] (fun m => ef8i2 m a1 a2 ba (2 : Int32)) ?_
  intro p e s m below meth c s₁ K hx hby hml hown hnm hret hlk hZ X0 e0 hnd
  have N0 := Fr.nil n0
  refine m_iloadN K X0.here hx hby d_jdk_38_24_0 rfl rfl ?_
  refine m_aloadN K X0.here hx hby d_jdk_38_24_1 rfl rfl rfl ?_
  refine k_len K X0 hx hby hZ (10 : Int32) e0 A_ba.av rfl d_jdk_38_24_2 rfl ?_
  refine m_icmpY K X0.here hx hby (q := 11) d_jdk_38_24_3 (feq (by decide : ¬ ((2 : Int32) = (10 : Int32)))).2 (by decide) rfl ?_
  refine m_aloadN K X0.here hx hby d_jdk_38_24_11 rfl rfl rfl ?_
  refine m_iloadN K X0.here hx hby d_jdk_38_24_12 rfl rfl ?_
  refine m_aloadN K X0.here hx hby d_jdk_38_24_13 rfl rfl rfl ?_
  refine k_stR K X0 hx hby hZ e0 A_ba (by decide) (Nat.le_of_ble_eq_true rfl) (Or.inr ⟨_, rfl, (Ins.of_exa E_a2 (hw _ (List.mem_of_getElem? (i := 67) rfl)))⟩) d_jdk_38_24_14 rfl fun T1 h1 X1 e1 W1 V1 => ?_
  replace V1 : Avr Z h1 ba "java/lang/Object" [(.ref r0), (.ref r1), (.ref a2), .null, .null, .null, .null, .null, .null, .null] := V1
  have N1 := Fr.snoc X1 N0 g_ba
  refine m_aloadN K X1.here hx hby d_jdk_38_24_15 rfl rfl rfl ?_
  refine m_iloadN K X1.here hx hby d_jdk_38_24_16 rfl rfl ?_
  refine m_iconst K X1.here hx hby (1 : Int32) d_jdk_38_24_17 rfl rfl ?_
  refine m_iadd K X1.here hx hby (3 : Int32) d_jdk_38_24_18 rfl rfl ?_
  refine k_putF K X1 hx hby hZ hown (host := "") (Or.inl (hw _ (List.mem_of_getElem? (i := 44) rfl))) Via.refl e1 (F_size_a1.other W1 (Or.inl ne_a1_ba)) (E_a1.wr W1) (Or.inl (hw _ (List.mem_of_getElem? (i := 45) rfl))) (hw _ (List.mem_of_getElem? (i := 1) rfl)) (ty := .int) (by decide) rfl rfl d_jdk_38_24_19 rfl fun T2 h2 X2 e2 W2 => ?_
  have Fw2 := (F_size_a1.other W1 (Or.inl ne_a1_ba)).same W2
  have N2 := Fr.snoc X2 N1 g_a1
  exact Go.retV X2 hx hby hlk hret d_jdk_38_24_22 (by decide) (by decide) (by rw [e2]; exact ⟨rfl, N2, (((Keep.refl h0 [a1, ba]).wr W1 (Or.inl (by simp))).wr W2 (Or.inl (by simp))), ((F_modCount_a1.other W1 (Or.inl ne_a1_ba)).other W2 (Or.inr (slot_ne (Or.inl (hw _ (List.mem_of_getElem? (i := 22) rfl))) (Or.inl (hw _ (List.mem_of_getElem? (i := 45) rfl))) (by decide) (t := .int) (t' := .int) (by decide) (by decide)))), ((F_elementData_a1.other W1 (Or.inl ne_a1_ba)).other W2 (Or.inr (slot_ne (Or.inl (hw _ (List.mem_of_getElem? (i := 25) rfl))) (Or.inl (hw _ (List.mem_of_getElem? (i := 45) rfl))) (by decide) (t := (.array (.object "java/lang/Object"))) (t' := .int) (by decide) (by decide)))), Fw2, (V1.other W2 (Ne.symm ne_a1_ba))⟩)
theorem ef9i2 (m : MethodId) (x0 : Addr) (x1 : Addr) : entryFrame m #[(.ref x0), (.ref x1)] 2 = mkF m 0 #[.val (.ref x0), .val (.ref x1)] [] := by first | (simp [entryFrame, mkF, argsToLocals, Value.category]; done) | rfl
set_option maxRecDepth 65536 in
set_option maxHeartbeats 40000000 in
theorem c9i2 (l : Launch) (Z : State) (a0 : Array Value) (hw : ∀ d ∈ tables_1, d.before a0 Z = true) (a1 : Addr) (a2 : Addr) (ba : Addr) (r0 : Addr) (r1 : Addr) (h0 : Heap) (n0 : Nat) (Z0 : n0 ≤ h0.size) (E_a1 : Exa Z h0 a1 "java/util/ArrayList") (E_a2 : Exa Z h0 a2 "java/lang/Integer") (F_modCount_a1 : Fld Z h0 a1 "java/util/AbstractList" "modCount" "I" (.int (2 : Int32))) (F_elementData_a1 : Fld Z h0 a1 "java/util/ArrayList" "elementData" "[Ljava/lang/Object;" (.ref ba)) (F_size_a1 : Fld Z h0 a1 "java/util/ArrayList" "size" "I" (.int (2 : Int32))) (A_ba : Avr Z h0 ba "java/lang/Object" [(.ref r0), (.ref r1), .null, .null, .null, .null, .null, .null, .null, .null]) (g_a1 : n0 ≤ a1) (g_ba : n0 ≤ ba) (ne_a1_ba : a1 ≠ ba) :
    Con l Z (⟨"java/util/ArrayList", "add", "(Ljava/lang/Object;)Z"⟩ : MethodName) jdk_38_method_25_code 2 (some .boolean) ({ frames := 1, cells := 0, slots := 0, locals := 15 } : Room) [] #[(.ref a1), (.ref a2)] h0 (fun v h L => v = some (.int (1 : Int32)) ∧ Fr n0 L ∧ Keep h0 h [a1, ba] ∧ Fld Z h a1 "java/util/AbstractList" "modCount" "I" (.int (3 : Int32)) ∧ Fld Z h a1 "java/util/ArrayList" "elementData" "[Ljava/lang/Object;" (.ref ba) ∧ Fld Z h a1 "java/util/ArrayList" "size" "I" (.int (3 : Int32)) ∧ Avr Z h ba "java/lang/Object" [(.ref r0), (.ref r1), (.ref a2), .null, .null, .null, .null, .null, .null, .null]) := by
  refine Con.of (plainFor_of_name pn_java_util_ArrayList) #[.val (.ref a1), .val (.ref a2)] (fun m => ef9i2 m a1 a2) ?_
  intro p e s m below meth c s₁ K hx hby hml hown hnm hret hlk hZ X0 e0 hnd
  have N0 := Fr.nil n0
  refine m_aloadN K X0.here hx hby d_jdk_38_25_0 rfl rfl rfl ?_
  refine m_dup K X0.here hx hby d_jdk_38_25_1 rfl rfl ?_
  refine k_getF K X0 hx hby hZ hown (host := "") (Or.inl (hw _ (List.mem_of_getElem? (i := 42) rfl))) (Via.of (hw _ (List.mem_of_getElem? (i := 43) rfl))) e0 F_modCount_a1 d_jdk_38_25_2 rfl fun T1 X1 e1 => ?_
  refine m_iconst K X1.here hx hby (1 : Int32) d_jdk_38_25_5 rfl rfl ?_
  refine m_iadd K X1.here hx hby (3 : Int32) d_jdk_38_25_6 rfl rfl ?_
  refine k_putF K X1 hx hby hZ hown (host := "") (Or.inl (hw _ (List.mem_of_getElem? (i := 42) rfl))) (Via.of (hw _ (List.mem_of_getElem? (i := 43) rfl))) e1 F_modCount_a1 E_a1 (Or.inl (hw _ (List.mem_of_getElem? (i := 22) rfl))) (hw _ (List.mem_of_getElem? (i := 1) rfl)) (ty := .int) (by decide) rfl rfl d_jdk_38_25_7 rfl fun T2 h2 X2 e2 W2 => ?_
  have Fw2 := F_modCount_a1.same W2
  have N2 := Fr.snoc X2 N0 g_a1
  refine m_aloadN K X2.here hx hby d_jdk_38_25_10 rfl rfl rfl ?_
  refine m_aloadN K X2.here hx hby d_jdk_38_25_11 rfl rfl rfl ?_
  refine m_aloadN K X2.here hx hby d_jdk_38_25_12 rfl rfl rfl ?_
  refine k_getF K X2 hx hby hZ hown (host := "") (Or.inl (hw _ (List.mem_of_getElem? (i := 24) rfl))) Via.refl e2 (F_elementData_a1.other W2 (Or.inr (slot_ne (Or.inl (hw _ (List.mem_of_getElem? (i := 25) rfl))) (Or.inl (hw _ (List.mem_of_getElem? (i := 22) rfl))) (by decide) (t := (.array (.object "java/lang/Object"))) (t' := .int) (by decide) (by decide)))) d_jdk_38_25_13 rfl fun T3 X3 e3 => ?_
  refine m_aloadN K X3.here hx hby d_jdk_38_25_16 rfl rfl rfl ?_
  refine k_getF K X3 hx hby hZ hown (host := "") (Or.inl (hw _ (List.mem_of_getElem? (i := 44) rfl))) Via.refl e3 (F_size_a1.other W2 (Or.inr (slot_ne (Or.inl (hw _ (List.mem_of_getElem? (i := 45) rfl))) (Or.inl (hw _ (List.mem_of_getElem? (i := 22) rfl))) (by decide) (t := .int) (t' := .int) (by decide) (by decide)))) d_jdk_38_25_17 rfl fun T4 X4 e4 => ?_
  refine k_callR K X4 hx hby hZ a1 [(.ref a2), (.ref ba), (.int (2 : Int32))] [] hown (hw _ (List.mem_of_getElem? (i := 46) rfl)) (hw _ (List.mem_of_getElem? (i := 47) rfl)) (hw _ (List.mem_of_getElem? (i := 49) rfl)) (hw _ (List.mem_of_getElem? (i := 48) rfl)) (hw _ (List.mem_of_getElem? (i := 2) rfl)) (hw _ (List.mem_of_getElem? (i := 50) rfl)) (c8i2 l Z a0 hw a1 a2 ba r0 r1 h2 n0 (Nat.le_trans Z0 (Nat.le_trans (Nat.le_refl _) (Keep.of_wr W2).1)) (E_a1.wr W2) (E_a2.wr W2) Fw2 (F_elementData_a1.other W2 (Or.inr (slot_ne (Or.inl (hw _ (List.mem_of_getElem? (i := 25) rfl))) (Or.inl (hw _ (List.mem_of_getElem? (i := 22) rfl))) (by decide) (t := (.array (.object "java/lang/Object"))) (t' := .int) (by decide) (by decide)))) (F_size_a1.other W2 (Or.inr (slot_ne (Or.inl (hw _ (List.mem_of_getElem? (i := 45) rfl))) (Or.inl (hw _ (List.mem_of_getElem? (i := 22) rfl))) (by decide) (t := .int) (t' := .int) (by decide) (by decide)))) (A_ba.other W2 (Ne.symm ne_a1_ba)) g_a1 g_ba ne_a1_ba) e4 (E_a1.wr W2) rfl rfl pd_12 rfl d_jdk_38_25_20 (by rw [hml]; rfl) rfl (by decide) (by decide) (Nat.le_of_ble_eq_true rfl) (by decide) (by decide) fun v5 T5 L5 X5 q5 => ?_
  obtain ⟨rfl, Nq5, K5, Fp5_0, Fp5_1, Fp5_2, Ap5_0⟩ := q5
  have N5 := Fr.app N2 Nq5
  refine k_none K ?_
  refine m_iconst K X5.here hx hby (1 : Int32) d_jdk_38_25_23 rfl rfl ?_
  exact Go.retN X5 hx hby hlk hret (by simp) d_jdk_38_25_24 (by decide) (by decide) (by decide) (⟨rfl, N5, (((Keep.refl h0 [a1, ba]).wr W2 (Or.inl (by simp))).trans K5 (allS (Or.inl (by simp)) (allS (Or.inl (by simp)) all0))), Fp5_0, Fp5_1, Fp5_2, Ap5_0⟩)
theorem ef8i3 (m : MethodId) (x0 : Addr) (x1 : Addr) (x2 : Addr) (x3 : Int32) : entryFrame m #[(.ref x0), (.ref x1), (.ref x2), (.int x3)] 4 = mkF m 0 #[.val (.ref x0), .val (.ref x1), .val (.ref x2), .val (.int x3)] [] := by first | (simp [entryFrame, mkF, argsToLocals, Value.category]; done) | rfl
set_option maxRecDepth 65536 in
set_option maxHeartbeats 40000000 in
theorem c8i3 (l : Launch) (Z : State) (a0 : Array Value) (hw : ∀ d ∈ tables_1, d.before a0 Z = true) (a1 : Addr) (a2 : Addr) (ba : Addr) (r0 : Addr) (r1 : Addr) (r2 : Addr) (h0 : Heap) (n0 : Nat) (Z0 : n0 ≤ h0.size) (E_a1 : Exa Z h0 a1 "java/util/ArrayList") (E_a2 : Exa Z h0 a2 "java/lang/Integer") (F_modCount_a1 : Fld Z h0 a1 "java/util/AbstractList" "modCount" "I" (.int (4 : Int32))) (F_elementData_a1 : Fld Z h0 a1 "java/util/ArrayList" "elementData" "[Ljava/lang/Object;" (.ref ba)) (F_size_a1 : Fld Z h0 a1 "java/util/ArrayList" "size" "I" (.int (3 : Int32))) (A_ba : Avr Z h0 ba "java/lang/Object" [(.ref r0), (.ref r1), (.ref r2), .null, .null, .null, .null, .null, .null, .null]) (g_a1 : n0 ≤ a1) (g_ba : n0 ≤ ba) (ne_a1_ba : a1 ≠ ba) :
    Con l Z (⟨"java/util/ArrayList", "add", "(Ljava/lang/Object;[Ljava/lang/Object;I)V"⟩ : MethodName) jdk_38_method_24_code 4 none ({ frames := 0, cells := 0, slots := 0, locals := 0 } : Room) [] #[(.ref a1), (.ref a2), (.ref ba), (.int (3 : Int32))] h0 (fun v h L => v = none ∧ Fr n0 L ∧ Keep h0 h [a1, ba] ∧ Fld Z h a1 "java/util/AbstractList" "modCount" "I" (.int (4 : Int32)) ∧ Fld Z h a1 "java/util/ArrayList" "elementData" "[Ljava/lang/Object;" (.ref ba) ∧ Fld Z h a1 "java/util/ArrayList" "size" "I" (.int (4 : Int32)) ∧ Avr Z h ba "java/lang/Object" [(.ref r0), (.ref r1), (.ref r2), (.ref a2), .null, .null, .null, .null, .null, .null]) := by
  refine Con.of (plainFor_of_name pn_java_util_ArrayList) #[.val (.ref a1), .val (.ref a2), .val (.ref ba), .val (.int (3 : Int32))] (fun m => ef8i3 m a1 a2 ba (3 : Int32)) ?_
  intro p e s m below meth c s₁ K hx hby hml hown hnm hret hlk hZ X0 e0 hnd
  have N0 := Fr.nil n0
  refine m_iloadN K X0.here hx hby d_jdk_38_24_0 rfl rfl ?_
  refine m_aloadN K X0.here hx hby d_jdk_38_24_1 rfl rfl rfl ?_
  refine k_len K X0 hx hby hZ (10 : Int32) e0 A_ba.av rfl d_jdk_38_24_2 rfl ?_
  refine m_icmpY K X0.here hx hby (q := 11) d_jdk_38_24_3 (feq (by decide : ¬ ((3 : Int32) = (10 : Int32)))).2 (by decide) rfl ?_
  refine m_aloadN K X0.here hx hby d_jdk_38_24_11 rfl rfl rfl ?_
  refine m_iloadN K X0.here hx hby d_jdk_38_24_12 rfl rfl ?_
  refine m_aloadN K X0.here hx hby d_jdk_38_24_13 rfl rfl rfl ?_
  refine k_stR K X0 hx hby hZ e0 A_ba (by decide) (Nat.le_of_ble_eq_true rfl) (Or.inr ⟨_, rfl, (Ins.of_exa E_a2 (hw _ (List.mem_of_getElem? (i := 67) rfl)))⟩) d_jdk_38_24_14 rfl fun T1 h1 X1 e1 W1 V1 => ?_
  replace V1 : Avr Z h1 ba "java/lang/Object" [(.ref r0), (.ref r1), (.ref r2), (.ref a2), .null, .null, .null, .null, .null, .null] := V1
  have N1 := Fr.snoc X1 N0 g_ba
  refine m_aloadN K X1.here hx hby d_jdk_38_24_15 rfl rfl rfl ?_
  refine m_iloadN K X1.here hx hby d_jdk_38_24_16 rfl rfl ?_
  refine m_iconst K X1.here hx hby (1 : Int32) d_jdk_38_24_17 rfl rfl ?_
  refine m_iadd K X1.here hx hby (4 : Int32) d_jdk_38_24_18 rfl rfl ?_
  refine k_putF K X1 hx hby hZ hown (host := "") (Or.inl (hw _ (List.mem_of_getElem? (i := 44) rfl))) Via.refl e1 (F_size_a1.other W1 (Or.inl ne_a1_ba)) (E_a1.wr W1) (Or.inl (hw _ (List.mem_of_getElem? (i := 45) rfl))) (hw _ (List.mem_of_getElem? (i := 1) rfl)) (ty := .int) (by decide) rfl rfl d_jdk_38_24_19 rfl fun T2 h2 X2 e2 W2 => ?_
  have Fw2 := (F_size_a1.other W1 (Or.inl ne_a1_ba)).same W2
  have N2 := Fr.snoc X2 N1 g_a1
  exact Go.retV X2 hx hby hlk hret d_jdk_38_24_22 (by decide) (by decide) (by rw [e2]; exact ⟨rfl, N2, (((Keep.refl h0 [a1, ba]).wr W1 (Or.inl (by simp))).wr W2 (Or.inl (by simp))), ((F_modCount_a1.other W1 (Or.inl ne_a1_ba)).other W2 (Or.inr (slot_ne (Or.inl (hw _ (List.mem_of_getElem? (i := 22) rfl))) (Or.inl (hw _ (List.mem_of_getElem? (i := 45) rfl))) (by decide) (t := .int) (t' := .int) (by decide) (by decide)))), ((F_elementData_a1.other W1 (Or.inl ne_a1_ba)).other W2 (Or.inr (slot_ne (Or.inl (hw _ (List.mem_of_getElem? (i := 25) rfl))) (Or.inl (hw _ (List.mem_of_getElem? (i := 45) rfl))) (by decide) (t := (.array (.object "java/lang/Object"))) (t' := .int) (by decide) (by decide)))), Fw2, (V1.other W2 (Ne.symm ne_a1_ba))⟩)
theorem ef9i3 (m : MethodId) (x0 : Addr) (x1 : Addr) : entryFrame m #[(.ref x0), (.ref x1)] 2 = mkF m 0 #[.val (.ref x0), .val (.ref x1)] [] := by first | (simp [entryFrame, mkF, argsToLocals, Value.category]; done) | rfl
set_option maxRecDepth 65536 in
set_option maxHeartbeats 40000000 in
theorem c9i3 (l : Launch) (Z : State) (a0 : Array Value) (hw : ∀ d ∈ tables_1, d.before a0 Z = true) (a1 : Addr) (a2 : Addr) (ba : Addr) (r0 : Addr) (r1 : Addr) (r2 : Addr) (h0 : Heap) (n0 : Nat) (Z0 : n0 ≤ h0.size) (E_a1 : Exa Z h0 a1 "java/util/ArrayList") (E_a2 : Exa Z h0 a2 "java/lang/Integer") (F_modCount_a1 : Fld Z h0 a1 "java/util/AbstractList" "modCount" "I" (.int (3 : Int32))) (F_elementData_a1 : Fld Z h0 a1 "java/util/ArrayList" "elementData" "[Ljava/lang/Object;" (.ref ba)) (F_size_a1 : Fld Z h0 a1 "java/util/ArrayList" "size" "I" (.int (3 : Int32))) (A_ba : Avr Z h0 ba "java/lang/Object" [(.ref r0), (.ref r1), (.ref r2), .null, .null, .null, .null, .null, .null, .null]) (g_a1 : n0 ≤ a1) (g_ba : n0 ≤ ba) (ne_a1_ba : a1 ≠ ba) :
    Con l Z (⟨"java/util/ArrayList", "add", "(Ljava/lang/Object;)Z"⟩ : MethodName) jdk_38_method_25_code 2 (some .boolean) ({ frames := 1, cells := 0, slots := 0, locals := 15 } : Room) [] #[(.ref a1), (.ref a2)] h0 (fun v h L => v = some (.int (1 : Int32)) ∧ Fr n0 L ∧ Keep h0 h [a1, ba] ∧ Fld Z h a1 "java/util/AbstractList" "modCount" "I" (.int (4 : Int32)) ∧ Fld Z h a1 "java/util/ArrayList" "elementData" "[Ljava/lang/Object;" (.ref ba) ∧ Fld Z h a1 "java/util/ArrayList" "size" "I" (.int (4 : Int32)) ∧ Avr Z h ba "java/lang/Object" [(.ref r0), (.ref r1), (.ref r2), (.ref a2), .null, .null, .null, .null, .null, .null]) := by
  refine Con.of (plainFor_of_name pn_java_util_ArrayList) #[.val (.ref a1), .val (.ref a2)] (fun m => ef9i3 m a1 a2) ?_
  intro p e s m below meth c s₁ K hx hby hml hown hnm hret hlk hZ X0 e0 hnd
  have N0 := Fr.nil n0
  refine m_aloadN K X0.here hx hby d_jdk_38_25_0 rfl rfl rfl ?_
  refine m_dup K X0.here hx hby d_jdk_38_25_1 rfl rfl ?_
  refine k_getF K X0 hx hby hZ hown (host := "") (Or.inl (hw _ (List.mem_of_getElem? (i := 42) rfl))) (Via.of (hw _ (List.mem_of_getElem? (i := 43) rfl))) e0 F_modCount_a1 d_jdk_38_25_2 rfl fun T1 X1 e1 => ?_
  refine m_iconst K X1.here hx hby (1 : Int32) d_jdk_38_25_5 rfl rfl ?_
  refine m_iadd K X1.here hx hby (4 : Int32) d_jdk_38_25_6 rfl rfl ?_
  refine k_putF K X1 hx hby hZ hown (host := "") (Or.inl (hw _ (List.mem_of_getElem? (i := 42) rfl))) (Via.of (hw _ (List.mem_of_getElem? (i := 43) rfl))) e1 F_modCount_a1 E_a1 (Or.inl (hw _ (List.mem_of_getElem? (i := 22) rfl))) (hw _ (List.mem_of_getElem? (i := 1) rfl)) (ty := .int) (by decide) rfl rfl d_jdk_38_25_7 rfl fun T2 h2 X2 e2 W2 => ?_
  have Fw2 := F_modCount_a1.same W2
  have N2 := Fr.snoc X2 N0 g_a1
  refine m_aloadN K X2.here hx hby d_jdk_38_25_10 rfl rfl rfl ?_
  refine m_aloadN K X2.here hx hby d_jdk_38_25_11 rfl rfl rfl ?_
  refine m_aloadN K X2.here hx hby d_jdk_38_25_12 rfl rfl rfl ?_
  refine k_getF K X2 hx hby hZ hown (host := "") (Or.inl (hw _ (List.mem_of_getElem? (i := 24) rfl))) Via.refl e2 (F_elementData_a1.other W2 (Or.inr (slot_ne (Or.inl (hw _ (List.mem_of_getElem? (i := 25) rfl))) (Or.inl (hw _ (List.mem_of_getElem? (i := 22) rfl))) (by decide) (t := (.array (.object "java/lang/Object"))) (t' := .int) (by decide) (by decide)))) d_jdk_38_25_13 rfl fun T3 X3 e3 => ?_
  refine m_aloadN K X3.here hx hby d_jdk_38_25_16 rfl rfl rfl ?_
  refine k_getF K X3 hx hby hZ hown (host := "") (Or.inl (hw _ (List.mem_of_getElem? (i := 44) rfl))) Via.refl e3 (F_size_a1.other W2 (Or.inr (slot_ne (Or.inl (hw _ (List.mem_of_getElem? (i := 45) rfl))) (Or.inl (hw _ (List.mem_of_getElem? (i := 22) rfl))) (by decide) (t := .int) (t' := .int) (by decide) (by decide)))) d_jdk_38_25_17 rfl fun T4 X4 e4 => ?_
  refine k_callR K X4 hx hby hZ a1 [(.ref a2), (.ref ba), (.int (3 : Int32))] [] hown (hw _ (List.mem_of_getElem? (i := 46) rfl)) (hw _ (List.mem_of_getElem? (i := 47) rfl)) (hw _ (List.mem_of_getElem? (i := 49) rfl)) (hw _ (List.mem_of_getElem? (i := 48) rfl)) (hw _ (List.mem_of_getElem? (i := 2) rfl)) (hw _ (List.mem_of_getElem? (i := 50) rfl)) (c8i3 l Z a0 hw a1 a2 ba r0 r1 r2 h2 n0 (Nat.le_trans Z0 (Nat.le_trans (Nat.le_refl _) (Keep.of_wr W2).1)) (E_a1.wr W2) (E_a2.wr W2) Fw2 (F_elementData_a1.other W2 (Or.inr (slot_ne (Or.inl (hw _ (List.mem_of_getElem? (i := 25) rfl))) (Or.inl (hw _ (List.mem_of_getElem? (i := 22) rfl))) (by decide) (t := (.array (.object "java/lang/Object"))) (t' := .int) (by decide) (by decide)))) (F_size_a1.other W2 (Or.inr (slot_ne (Or.inl (hw _ (List.mem_of_getElem? (i := 45) rfl))) (Or.inl (hw _ (List.mem_of_getElem? (i := 22) rfl))) (by decide) (t := .int) (t' := .int) (by decide) (by decide)))) (A_ba.other W2 (Ne.symm ne_a1_ba)) g_a1 g_ba ne_a1_ba) e4 (E_a1.wr W2) rfl rfl pd_12 rfl d_jdk_38_25_20 (by rw [hml]; rfl) rfl (by decide) (by decide) (Nat.le_of_ble_eq_true rfl) (by decide) (by decide) fun v5 T5 L5 X5 q5 => ?_
  obtain ⟨rfl, Nq5, K5, Fp5_0, Fp5_1, Fp5_2, Ap5_0⟩ := q5
  have N5 := Fr.app N2 Nq5
  refine k_none K ?_
  refine m_iconst K X5.here hx hby (1 : Int32) d_jdk_38_25_23 rfl rfl ?_
  exact Go.retN X5 hx hby hlk hret (by simp) d_jdk_38_25_24 (by decide) (by decide) (by decide) (⟨rfl, N5, (((Keep.refl h0 [a1, ba]).wr W2 (Or.inl (by simp))).trans K5 (allS (Or.inl (by simp)) (allS (Or.inl (by simp)) all0))), Fp5_0, Fp5_1, Fp5_2, Ap5_0⟩)
theorem ef8i4 (m : MethodId) (x0 : Addr) (x1 : Addr) (x2 : Addr) (x3 : Int32) : entryFrame m #[(.ref x0), (.ref x1), (.ref x2), (.int x3)] 4 = mkF m 0 #[.val (.ref x0), .val (.ref x1), .val (.ref x2), .val (.int x3)] [] := by first | (simp [entryFrame, mkF, argsToLocals, Value.category]; done) | rfl
set_option maxRecDepth 65536 in
set_option maxHeartbeats 40000000 in
theorem c8i4 (l : Launch) (Z : State) (a0 : Array Value) (hw : ∀ d ∈ tables_1, d.before a0 Z = true) (a1 : Addr) (a2 : Addr) (ba : Addr) (r0 : Addr) (r1 : Addr) (r2 : Addr) (r3 : Addr) (h0 : Heap) (n0 : Nat) (Z0 : n0 ≤ h0.size) (E_a1 : Exa Z h0 a1 "java/util/ArrayList") (E_a2 : Exa Z h0 a2 "java/lang/Integer") (F_modCount_a1 : Fld Z h0 a1 "java/util/AbstractList" "modCount" "I" (.int (5 : Int32))) (F_elementData_a1 : Fld Z h0 a1 "java/util/ArrayList" "elementData" "[Ljava/lang/Object;" (.ref ba)) (F_size_a1 : Fld Z h0 a1 "java/util/ArrayList" "size" "I" (.int (4 : Int32))) (A_ba : Avr Z h0 ba "java/lang/Object" [(.ref r0), (.ref r1), (.ref r2), (.ref r3), .null, .null, .null, .null, .null, .null]) (g_a1 : n0 ≤ a1) (g_ba : n0 ≤ ba) (ne_a1_ba : a1 ≠ ba) :
    Con l Z (⟨"java/util/ArrayList", "add", "(Ljava/lang/Object;[Ljava/lang/Object;I)V"⟩ : MethodName) jdk_38_method_24_code 4 none ({ frames := 0, cells := 0, slots := 0, locals := 0 } : Room) [] #[(.ref a1), (.ref a2), (.ref ba), (.int (4 : Int32))] h0 (fun v h L => v = none ∧ Fr n0 L ∧ Keep h0 h [a1, ba] ∧ Fld Z h a1 "java/util/AbstractList" "modCount" "I" (.int (5 : Int32)) ∧ Fld Z h a1 "java/util/ArrayList" "elementData" "[Ljava/lang/Object;" (.ref ba) ∧ Fld Z h a1 "java/util/ArrayList" "size" "I" (.int (5 : Int32)) ∧ Avr Z h ba "java/lang/Object" [(.ref r0), (.ref r1), (.ref r2), (.ref r3), (.ref a2), .null, .null, .null, .null, .null]) := by
  refine Con.of (plainFor_of_name pn_java_util_ArrayList) #[.val (.ref a1), .val (.ref a2), .val (.ref ba), .val (.int (4 : Int32))] (fun m => ef8i4 m a1 a2 ba (4 : Int32)) ?_
  intro p e s m below meth c s₁ K hx hby hml hown hnm hret hlk hZ X0 e0 hnd
  have N0 := Fr.nil n0
  refine m_iloadN K X0.here hx hby d_jdk_38_24_0 rfl rfl ?_
  refine m_aloadN K X0.here hx hby d_jdk_38_24_1 rfl rfl rfl ?_
  refine k_len K X0 hx hby hZ (10 : Int32) e0 A_ba.av rfl d_jdk_38_24_2 rfl ?_
  refine m_icmpY K X0.here hx hby (q := 11) d_jdk_38_24_3 (feq (by decide : ¬ ((4 : Int32) = (10 : Int32)))).2 (by decide) rfl ?_
  refine m_aloadN K X0.here hx hby d_jdk_38_24_11 rfl rfl rfl ?_
  refine m_iloadN K X0.here hx hby d_jdk_38_24_12 rfl rfl ?_
  refine m_aloadN K X0.here hx hby d_jdk_38_24_13 rfl rfl rfl ?_
  refine k_stR K X0 hx hby hZ e0 A_ba (by decide) (Nat.le_of_ble_eq_true rfl) (Or.inr ⟨_, rfl, (Ins.of_exa E_a2 (hw _ (List.mem_of_getElem? (i := 67) rfl)))⟩) d_jdk_38_24_14 rfl fun T1 h1 X1 e1 W1 V1 => ?_
  replace V1 : Avr Z h1 ba "java/lang/Object" [(.ref r0), (.ref r1), (.ref r2), (.ref r3), (.ref a2), .null, .null, .null, .null, .null] := V1
  have N1 := Fr.snoc X1 N0 g_ba
  refine m_aloadN K X1.here hx hby d_jdk_38_24_15 rfl rfl rfl ?_
  refine m_iloadN K X1.here hx hby d_jdk_38_24_16 rfl rfl ?_
  refine m_iconst K X1.here hx hby (1 : Int32) d_jdk_38_24_17 rfl rfl ?_
  refine m_iadd K X1.here hx hby (5 : Int32) d_jdk_38_24_18 rfl rfl ?_
  refine k_putF K X1 hx hby hZ hown (host := "") (Or.inl (hw _ (List.mem_of_getElem? (i := 44) rfl))) Via.refl e1 (F_size_a1.other W1 (Or.inl ne_a1_ba)) (E_a1.wr W1) (Or.inl (hw _ (List.mem_of_getElem? (i := 45) rfl))) (hw _ (List.mem_of_getElem? (i := 1) rfl)) (ty := .int) (by decide) rfl rfl d_jdk_38_24_19 rfl fun T2 h2 X2 e2 W2 => ?_
  have Fw2 := (F_size_a1.other W1 (Or.inl ne_a1_ba)).same W2
  have N2 := Fr.snoc X2 N1 g_a1
  exact Go.retV X2 hx hby hlk hret d_jdk_38_24_22 (by decide) (by decide) (by rw [e2]; exact ⟨rfl, N2, (((Keep.refl h0 [a1, ba]).wr W1 (Or.inl (by simp))).wr W2 (Or.inl (by simp))), ((F_modCount_a1.other W1 (Or.inl ne_a1_ba)).other W2 (Or.inr (slot_ne (Or.inl (hw _ (List.mem_of_getElem? (i := 22) rfl))) (Or.inl (hw _ (List.mem_of_getElem? (i := 45) rfl))) (by decide) (t := .int) (t' := .int) (by decide) (by decide)))), ((F_elementData_a1.other W1 (Or.inl ne_a1_ba)).other W2 (Or.inr (slot_ne (Or.inl (hw _ (List.mem_of_getElem? (i := 25) rfl))) (Or.inl (hw _ (List.mem_of_getElem? (i := 45) rfl))) (by decide) (t := (.array (.object "java/lang/Object"))) (t' := .int) (by decide) (by decide)))), Fw2, (V1.other W2 (Ne.symm ne_a1_ba))⟩)
theorem ef9i4 (m : MethodId) (x0 : Addr) (x1 : Addr) : entryFrame m #[(.ref x0), (.ref x1)] 2 = mkF m 0 #[.val (.ref x0), .val (.ref x1)] [] := by first | (simp [entryFrame, mkF, argsToLocals, Value.category]; done) | rfl
set_option maxRecDepth 65536 in
set_option maxHeartbeats 40000000 in
theorem c9i4 (l : Launch) (Z : State) (a0 : Array Value) (hw : ∀ d ∈ tables_1, d.before a0 Z = true) (a1 : Addr) (a2 : Addr) (ba : Addr) (r0 : Addr) (r1 : Addr) (r2 : Addr) (r3 : Addr) (h0 : Heap) (n0 : Nat) (Z0 : n0 ≤ h0.size) (E_a1 : Exa Z h0 a1 "java/util/ArrayList") (E_a2 : Exa Z h0 a2 "java/lang/Integer") (F_modCount_a1 : Fld Z h0 a1 "java/util/AbstractList" "modCount" "I" (.int (4 : Int32))) (F_elementData_a1 : Fld Z h0 a1 "java/util/ArrayList" "elementData" "[Ljava/lang/Object;" (.ref ba)) (F_size_a1 : Fld Z h0 a1 "java/util/ArrayList" "size" "I" (.int (4 : Int32))) (A_ba : Avr Z h0 ba "java/lang/Object" [(.ref r0), (.ref r1), (.ref r2), (.ref r3), .null, .null, .null, .null, .null, .null]) (g_a1 : n0 ≤ a1) (g_ba : n0 ≤ ba) (ne_a1_ba : a1 ≠ ba) :
    Con l Z (⟨"java/util/ArrayList", "add", "(Ljava/lang/Object;)Z"⟩ : MethodName) jdk_38_method_25_code 2 (some .boolean) ({ frames := 1, cells := 0, slots := 0, locals := 15 } : Room) [] #[(.ref a1), (.ref a2)] h0 (fun v h L => v = some (.int (1 : Int32)) ∧ Fr n0 L ∧ Keep h0 h [a1, ba] ∧ Fld Z h a1 "java/util/AbstractList" "modCount" "I" (.int (5 : Int32)) ∧ Fld Z h a1 "java/util/ArrayList" "elementData" "[Ljava/lang/Object;" (.ref ba) ∧ Fld Z h a1 "java/util/ArrayList" "size" "I" (.int (5 : Int32)) ∧ Avr Z h ba "java/lang/Object" [(.ref r0), (.ref r1), (.ref r2), (.ref r3), (.ref a2), .null, .null, .null, .null, .null]) := by
  refine Con.of (plainFor_of_name pn_java_util_ArrayList) #[.val (.ref a1), .val (.ref a2)] (fun m => ef9i4 m a1 a2) ?_
  intro p e s m below meth c s₁ K hx hby hml hown hnm hret hlk hZ X0 e0 hnd
  have N0 := Fr.nil n0
  refine m_aloadN K X0.here hx hby d_jdk_38_25_0 rfl rfl rfl ?_
  refine m_dup K X0.here hx hby d_jdk_38_25_1 rfl rfl ?_
  refine k_getF K X0 hx hby hZ hown (host := "") (Or.inl (hw _ (List.mem_of_getElem? (i := 42) rfl))) (Via.of (hw _ (List.mem_of_getElem? (i := 43) rfl))) e0 F_modCount_a1 d_jdk_38_25_2 rfl fun T1 X1 e1 => ?_
  refine m_iconst K X1.here hx hby (1 : Int32) d_jdk_38_25_5 rfl rfl ?_
  refine m_iadd K X1.here hx hby (5 : Int32) d_jdk_38_25_6 rfl rfl ?_
  refine k_putF K X1 hx hby hZ hown (host := "") (Or.inl (hw _ (List.mem_of_getElem? (i := 42) rfl))) (Via.of (hw _ (List.mem_of_getElem? (i := 43) rfl))) e1 F_modCount_a1 E_a1 (Or.inl (hw _ (List.mem_of_getElem? (i := 22) rfl))) (hw _ (List.mem_of_getElem? (i := 1) rfl)) (ty := .int) (by decide) rfl rfl d_jdk_38_25_7 rfl fun T2 h2 X2 e2 W2 => ?_
  have Fw2 := F_modCount_a1.same W2
  have N2 := Fr.snoc X2 N0 g_a1
  refine m_aloadN K X2.here hx hby d_jdk_38_25_10 rfl rfl rfl ?_
  refine m_aloadN K X2.here hx hby d_jdk_38_25_11 rfl rfl rfl ?_
  refine m_aloadN K X2.here hx hby d_jdk_38_25_12 rfl rfl rfl ?_
  refine k_getF K X2 hx hby hZ hown (host := "") (Or.inl (hw _ (List.mem_of_getElem? (i := 24) rfl))) Via.refl e2 (F_elementData_a1.other W2 (Or.inr (slot_ne (Or.inl (hw _ (List.mem_of_getElem? (i := 25) rfl))) (Or.inl (hw _ (List.mem_of_getElem? (i := 22) rfl))) (by decide) (t := (.array (.object "java/lang/Object"))) (t' := .int) (by decide) (by decide)))) d_jdk_38_25_13 rfl fun T3 X3 e3 => ?_
  refine m_aloadN K X3.here hx hby d_jdk_38_25_16 rfl rfl rfl ?_
  refine k_getF K X3 hx hby hZ hown (host := "") (Or.inl (hw _ (List.mem_of_getElem? (i := 44) rfl))) Via.refl e3 (F_size_a1.other W2 (Or.inr (slot_ne (Or.inl (hw _ (List.mem_of_getElem? (i := 45) rfl))) (Or.inl (hw _ (List.mem_of_getElem? (i := 22) rfl))) (by decide) (t := .int) (t' := .int) (by decide) (by decide)))) d_jdk_38_25_17 rfl fun T4 X4 e4 => ?_
  refine k_callR K X4 hx hby hZ a1 [(.ref a2), (.ref ba), (.int (4 : Int32))] [] hown (hw _ (List.mem_of_getElem? (i := 46) rfl)) (hw _ (List.mem_of_getElem? (i := 47) rfl)) (hw _ (List.mem_of_getElem? (i := 49) rfl)) (hw _ (List.mem_of_getElem? (i := 48) rfl)) (hw _ (List.mem_of_getElem? (i := 2) rfl)) (hw _ (List.mem_of_getElem? (i := 50) rfl)) (c8i4 l Z a0 hw a1 a2 ba r0 r1 r2 r3 h2 n0 (Nat.le_trans Z0 (Nat.le_trans (Nat.le_refl _) (Keep.of_wr W2).1)) (E_a1.wr W2) (E_a2.wr W2) Fw2 (F_elementData_a1.other W2 (Or.inr (slot_ne (Or.inl (hw _ (List.mem_of_getElem? (i := 25) rfl))) (Or.inl (hw _ (List.mem_of_getElem? (i := 22) rfl))) (by decide) (t := (.array (.object "java/lang/Object"))) (t' := .int) (by decide) (by decide)))) (F_size_a1.other W2 (Or.inr (slot_ne (Or.inl (hw _ (List.mem_of_getElem? (i := 45) rfl))) (Or.inl (hw _ (List.mem_of_getElem? (i := 22) rfl))) (by decide) (t := .int) (t' := .int) (by decide) (by decide)))) (A_ba.other W2 (Ne.symm ne_a1_ba)) g_a1 g_ba ne_a1_ba) e4 (E_a1.wr W2) rfl rfl pd_12 rfl d_jdk_38_25_20 (by rw [hml]; rfl) rfl (by decide) (by decide) (Nat.le_of_ble_eq_true rfl) (by decide) (by decide) fun v5 T5 L5 X5 q5 => ?_
  obtain ⟨rfl, Nq5, K5, Fp5_0, Fp5_1, Fp5_2, Ap5_0⟩ := q5
  have N5 := Fr.app N2 Nq5
  refine k_none K ?_
  refine m_iconst K X5.here hx hby (1 : Int32) d_jdk_38_25_23 rfl rfl ?_
  exact Go.retN X5 hx hby hlk hret (by simp) d_jdk_38_25_24 (by decide) (by decide) (by decide) (⟨rfl, N5, (((Keep.refl h0 [a1, ba]).wr W2 (Or.inl (by simp))).trans K5 (allS (Or.inl (by simp)) (allS (Or.inl (by simp)) all0))), Fp5_0, Fp5_1, Fp5_2, Ap5_0⟩)
theorem ef8l (m : MethodId) (x0 : Addr) (x1 : Addr) (x2 : Addr) (x3 : Int32) : entryFrame m #[(.ref x0), (.ref x1), (.ref x2), (.int x3)] 4 = mkF m 0 #[.val (.ref x0), .val (.ref x1), .val (.ref x2), .val (.int x3)] [] := by first | (simp [entryFrame, mkF, argsToLocals, Value.category]; done) | rfl
set_option maxRecDepth 65536 in
set_option maxHeartbeats 40000000 in
theorem c8l (l : Launch) (Z : State) (a0 : Array Value) (hw : ∀ d ∈ tables_1, d.before a0 Z = true) (a1 : Addr) (a2 : Addr) (d1 : Addr) (h0 : Heap) (n0 : Nat) (Z0 : n0 ≤ h0.size) (E_a1 : Exa Z h0 a1 "java/util/ArrayList") (E_a2 : Exa Z h0 a2 "java/util/ArrayList") (F_modCount_a1 : Fld Z h0 a1 "java/util/AbstractList" "modCount" "I" (.int (1 : Int32))) (F_elementData_a1 : Fld Z h0 a1 "java/util/ArrayList" "elementData" "[Ljava/lang/Object;" (.ref d1)) (F_size_a1 : Fld Z h0 a1 "java/util/ArrayList" "size" "I" (.int (0 : Int32))) (A_d1 : Av Z h0 d1 (.object "java/lang/Object") []) (S_ArrayList_DEFAULTCAPACITY_EMPTY_ELEMENTDATA : Sta Z Z.heap "java/util/ArrayList" "DEFAULTCAPACITY_EMPTY_ELEMENTDATA" "[Ljava/lang/Object;" (.ref d1)) (O0 : Old Z n0 h0) (g_a1 : n0 ≤ a1) :
    Con l Z (⟨"java/util/ArrayList", "add", "(Ljava/lang/Object;[Ljava/lang/Object;I)V"⟩ : MethodName) jdk_38_method_24_code 4 none ({ frames := 3, cells := 1, slots := 10, locals := 41 } : Room) [] #[(.ref a1), (.ref a2), (.ref d1), (.int (0 : Int32))] h0 (fun v h L => ∃ ba : Addr, v = none ∧ Fr n0 L ∧ Keep h0 h [a1] ∧ h0.size ≤ ba ∧ Fld Z h a1 "java/util/AbstractList" "modCount" "I" (.int (1 : Int32)) ∧ Fld Z h a1 "java/util/ArrayList" "elementData" "[Ljava/lang/Object;" (.ref ba) ∧ Fld Z h a1 "java/util/ArrayList" "size" "I" (.int (1 : Int32)) ∧ Avr Z h ba "java/lang/Object" [(.ref a2), .null, .null, .null, .null, .null, .null, .null, .null, .null]) := by
  refine Con.of (plainFor_of_name pn_java_util_ArrayList) #[.val (.ref a1), .val (.ref a2), .val (.ref d1), .val (.int (0 : Int32))] (fun m => ef8l m a1 a2 d1 (0 : Int32)) ?_
  intro p e s m below meth c s₁ K hx hby hml hown hnm hret hlk hZ X0 e0 hnd
  have N0 := Fr.nil n0
  refine m_iloadN K X0.here hx hby d_jdk_38_24_0 rfl rfl ?_
  refine m_aloadN K X0.here hx hby d_jdk_38_24_1 rfl rfl rfl ?_
  refine k_len K X0 hx hby hZ (0 : Int32) e0 A_d1 rfl d_jdk_38_24_2 rfl ?_
  refine m_icmpN K X0.here hx hby (q := 6) d_jdk_38_24_3 (teq (by decide : (0 : Int32) = (0 : Int32))).2 rfl ?_
  refine m_aloadN K X0.here hx hby d_jdk_38_24_6 rfl rfl rfl ?_
  refine k_callR K X0 hx hby hZ a1 [] [] hown (hw _ (List.mem_of_getElem? (i := 51) rfl)) (hw _ (List.mem_of_getElem? (i := 52) rfl)) (hw _ (List.mem_of_getElem? (i := 54) rfl)) (hw _ (List.mem_of_getElem? (i := 53) rfl)) (hw _ (List.mem_of_getElem? (i := 2) rfl)) (hw _ (List.mem_of_getElem? (i := 55) rfl)) (c7 l Z a0 hw a1 d1 h0 n0 Z0 E_a1 F_modCount_a1 F_elementData_a1 F_size_a1 A_d1 S_ArrayList_DEFAULTCAPACITY_EMPTY_ELEMENTDATA O0 g_a1) e0 E_a1 rfl rfl pd_11 rfl d_jdk_38_24_7 (by rw [hml]; rfl) rfl (by decide) (by decide) (Nat.le_of_ble_eq_true rfl) (by decide) (by decide) fun v1 T1 L1 X1 q1 => ?_
  obtain ⟨b1_ba, rfl, Nq1, K1, sq_b1_ba, Fp1_0, Fp1_1, Fp1_2, Ap1_0⟩ := q1
  have N1 := Fr.app N0 Nq1
  have sz_b1_ba : h0.size ≤ b1_ba := Nat.le_trans (Nat.le_refl _) sq_b1_ba
  have g_b1_ba : n0 ≤ b1_ba := Nat.le_trans Z0 sz_b1_ba
  refine k_some K (w := (.ref b1_ba)) ?_
  refine m_astoreN K X1.here hx hby #[.val (.ref a1), .val (.ref a2), .val (.ref b1_ba), .val (.int (0 : Int32))] d_jdk_38_24_10 rfl rfl rfl ?_
  refine m_aloadN K X1.here hx hby d_jdk_38_24_11 rfl rfl rfl ?_
  refine m_iloadN K X1.here hx hby d_jdk_38_24_12 rfl rfl ?_
  refine m_aloadN K X1.here hx hby d_jdk_38_24_13 rfl rfl rfl ?_
  refine k_stR K X1 hx hby hZ rfl Ap1_0 (by decide) (Nat.le_of_ble_eq_true rfl) (Or.inr ⟨_, rfl, (Ins.of_exa (E_a2.keep K1) (hw _ (List.mem_of_getElem? (i := 75) rfl)))⟩) d_jdk_38_24_14 rfl fun T2 h2 X2 e2 W2 V2 => ?_
  replace V2 : Avr Z h2 b1_ba "java/lang/Object" [(.ref a2), .null, .null, .null, .null, .null, .null, .null, .null, .null] := V2
  have N2 := Fr.snoc X2 N1 g_b1_ba
  refine m_aloadN K X2.here hx hby d_jdk_38_24_15 rfl rfl rfl ?_
  refine m_iloadN K X2.here hx hby d_jdk_38_24_16 rfl rfl ?_
  refine m_iconst K X2.here hx hby (1 : Int32) d_jdk_38_24_17 rfl rfl ?_
  refine m_iadd K X2.here hx hby (1 : Int32) d_jdk_38_24_18 rfl rfl ?_
  refine k_putF K X2 hx hby hZ hown (host := "") (Or.inl (hw _ (List.mem_of_getElem? (i := 44) rfl))) Via.refl e2 (Fp1_2.other W2 (Or.inl (Nat.ne_of_lt (Nat.lt_of_lt_of_le (Nat.lt_of_lt_of_le E_a1.lt (Nat.le_refl _)) sq_b1_ba)))) ((E_a1.keep K1).wr W2) (Or.inl (hw _ (List.mem_of_getElem? (i := 45) rfl))) (hw _ (List.mem_of_getElem? (i := 1) rfl)) (ty := .int) (by decide) rfl rfl d_jdk_38_24_19 rfl fun T3 h3 X3 e3 W3 => ?_
  have Fw3 := (Fp1_2.other W2 (Or.inl (Nat.ne_of_lt (Nat.lt_of_lt_of_le (Nat.lt_of_lt_of_le E_a1.lt (Nat.le_refl _)) sq_b1_ba)))).same W3
  have N3 := Fr.snoc X3 N2 g_a1
  exact Go.retV X3 hx hby hlk hret d_jdk_38_24_22 (by decide) (by decide) (by rw [e3]; exact ⟨b1_ba, rfl, N3, ((((Keep.refl h0 [a1]).trans K1 (allS (Or.inl (by simp)) all0)).wr W2 (Or.inr sz_b1_ba)).wr W3 (Or.inl (by simp))), sz_b1_ba, ((Fp1_0.other W2 (Or.inl (Nat.ne_of_lt (Nat.lt_of_lt_of_le (Nat.lt_of_lt_of_le E_a1.lt (Nat.le_refl _)) sq_b1_ba)))).other W3 (Or.inr (slot_ne (Or.inl (hw _ (List.mem_of_getElem? (i := 22) rfl))) (Or.inl (hw _ (List.mem_of_getElem? (i := 45) rfl))) (by decide) (t := .int) (t' := .int) (by decide) (by decide)))), ((Fp1_1.other W2 (Or.inl (Nat.ne_of_lt (Nat.lt_of_lt_of_le (Nat.lt_of_lt_of_le E_a1.lt (Nat.le_refl _)) sq_b1_ba)))).other W3 (Or.inr (slot_ne (Or.inl (hw _ (List.mem_of_getElem? (i := 25) rfl))) (Or.inl (hw _ (List.mem_of_getElem? (i := 45) rfl))) (by decide) (t := (.array (.object "java/lang/Object"))) (t' := .int) (by decide) (by decide)))), Fw3, (V2.other W3 (Ne.symm (Nat.ne_of_lt (Nat.lt_of_lt_of_le (Nat.lt_of_lt_of_le E_a1.lt (Nat.le_refl _)) sq_b1_ba))))⟩)
theorem ef9l (m : MethodId) (x0 : Addr) (x1 : Addr) : entryFrame m #[(.ref x0), (.ref x1)] 2 = mkF m 0 #[.val (.ref x0), .val (.ref x1)] [] := by first | (simp [entryFrame, mkF, argsToLocals, Value.category]; done) | rfl
set_option maxRecDepth 65536 in
set_option maxHeartbeats 40000000 in
theorem c9l (l : Launch) (Z : State) (a0 : Array Value) (hw : ∀ d ∈ tables_1, d.before a0 Z = true) (a1 : Addr) (a2 : Addr) (d1 : Addr) (h0 : Heap) (n0 : Nat) (Z0 : n0 ≤ h0.size) (E_a1 : Exa Z h0 a1 "java/util/ArrayList") (E_a2 : Exa Z h0 a2 "java/util/ArrayList") (F_modCount_a1 : Fld Z h0 a1 "java/util/AbstractList" "modCount" "I" (.int (0 : Int32))) (F_elementData_a1 : Fld Z h0 a1 "java/util/ArrayList" "elementData" "[Ljava/lang/Object;" (.ref d1)) (F_size_a1 : Fld Z h0 a1 "java/util/ArrayList" "size" "I" (.int (0 : Int32))) (A_d1 : Av Z h0 d1 (.object "java/lang/Object") []) (S_ArrayList_DEFAULTCAPACITY_EMPTY_ELEMENTDATA : Sta Z Z.heap "java/util/ArrayList" "DEFAULTCAPACITY_EMPTY_ELEMENTDATA" "[Ljava/lang/Object;" (.ref d1)) (O0 : Old Z n0 h0) (g_a1 : n0 ≤ a1) (ne_d1_a1 : d1 ≠ a1) :
    Con l Z (⟨"java/util/ArrayList", "add", "(Ljava/lang/Object;)Z"⟩ : MethodName) jdk_38_method_25_code 2 (some .boolean) ({ frames := 4, cells := 1, slots := 10, locals := 56 } : Room) [] #[(.ref a1), (.ref a2)] h0 (fun v h L => ∃ ba : Addr, v = some (.int (1 : Int32)) ∧ Fr n0 L ∧ Keep h0 h [a1] ∧ h0.size ≤ ba ∧ Fld Z h a1 "java/util/AbstractList" "modCount" "I" (.int (1 : Int32)) ∧ Fld Z h a1 "java/util/ArrayList" "elementData" "[Ljava/lang/Object;" (.ref ba) ∧ Fld Z h a1 "java/util/ArrayList" "size" "I" (.int (1 : Int32)) ∧ Avr Z h ba "java/lang/Object" [(.ref a2), .null, .null, .null, .null, .null, .null, .null, .null, .null]) := by
  refine Con.of (plainFor_of_name pn_java_util_ArrayList) #[.val (.ref a1), .val (.ref a2)] (fun m => ef9l m a1 a2) ?_
  intro p e s m below meth c s₁ K hx hby hml hown hnm hret hlk hZ X0 e0 hnd
  have N0 := Fr.nil n0
  refine m_aloadN K X0.here hx hby d_jdk_38_25_0 rfl rfl rfl ?_
  refine m_dup K X0.here hx hby d_jdk_38_25_1 rfl rfl ?_
  refine k_getF K X0 hx hby hZ hown (host := "") (Or.inl (hw _ (List.mem_of_getElem? (i := 42) rfl))) (Via.of (hw _ (List.mem_of_getElem? (i := 43) rfl))) e0 F_modCount_a1 d_jdk_38_25_2 rfl fun T1 X1 e1 => ?_
  refine m_iconst K X1.here hx hby (1 : Int32) d_jdk_38_25_5 rfl rfl ?_
  refine m_iadd K X1.here hx hby (1 : Int32) d_jdk_38_25_6 rfl rfl ?_
  refine k_putF K X1 hx hby hZ hown (host := "") (Or.inl (hw _ (List.mem_of_getElem? (i := 42) rfl))) (Via.of (hw _ (List.mem_of_getElem? (i := 43) rfl))) e1 F_modCount_a1 E_a1 (Or.inl (hw _ (List.mem_of_getElem? (i := 22) rfl))) (hw _ (List.mem_of_getElem? (i := 1) rfl)) (ty := .int) (by decide) rfl rfl d_jdk_38_25_7 rfl fun T2 h2 X2 e2 W2 => ?_
  have Fw2 := F_modCount_a1.same W2
  have N2 := Fr.snoc X2 N0 g_a1
  refine m_aloadN K X2.here hx hby d_jdk_38_25_10 rfl rfl rfl ?_
  refine m_aloadN K X2.here hx hby d_jdk_38_25_11 rfl rfl rfl ?_
  refine m_aloadN K X2.here hx hby d_jdk_38_25_12 rfl rfl rfl ?_
  refine k_getF K X2 hx hby hZ hown (host := "") (Or.inl (hw _ (List.mem_of_getElem? (i := 24) rfl))) Via.refl e2 (F_elementData_a1.other W2 (Or.inr (slot_ne (Or.inl (hw _ (List.mem_of_getElem? (i := 25) rfl))) (Or.inl (hw _ (List.mem_of_getElem? (i := 22) rfl))) (by decide) (t := (.array (.object "java/lang/Object"))) (t' := .int) (by decide) (by decide)))) d_jdk_38_25_13 rfl fun T3 X3 e3 => ?_
  refine m_aloadN K X3.here hx hby d_jdk_38_25_16 rfl rfl rfl ?_
  refine k_getF K X3 hx hby hZ hown (host := "") (Or.inl (hw _ (List.mem_of_getElem? (i := 44) rfl))) Via.refl e3 (F_size_a1.other W2 (Or.inr (slot_ne (Or.inl (hw _ (List.mem_of_getElem? (i := 45) rfl))) (Or.inl (hw _ (List.mem_of_getElem? (i := 22) rfl))) (by decide) (t := .int) (t' := .int) (by decide) (by decide)))) d_jdk_38_25_17 rfl fun T4 X4 e4 => ?_
  refine k_callR K X4 hx hby hZ a1 [(.ref a2), (.ref d1), (.int (0 : Int32))] [] hown (hw _ (List.mem_of_getElem? (i := 46) rfl)) (hw _ (List.mem_of_getElem? (i := 47) rfl)) (hw _ (List.mem_of_getElem? (i := 49) rfl)) (hw _ (List.mem_of_getElem? (i := 48) rfl)) (hw _ (List.mem_of_getElem? (i := 2) rfl)) (hw _ (List.mem_of_getElem? (i := 50) rfl)) (c8l l Z a0 hw a1 a2 d1 h2 n0 (Nat.le_trans Z0 (Nat.le_trans (Nat.le_refl _) (Keep.of_wr W2).1)) (E_a1.wr W2) (E_a2.wr W2) Fw2 (F_elementData_a1.other W2 (Or.inr (slot_ne (Or.inl (hw _ (List.mem_of_getElem? (i := 25) rfl))) (Or.inl (hw _ (List.mem_of_getElem? (i := 22) rfl))) (by decide) (t := (.array (.object "java/lang/Object"))) (t' := .int) (by decide) (by decide)))) (F_size_a1.other W2 (Or.inr (slot_ne (Or.inl (hw _ (List.mem_of_getElem? (i := 45) rfl))) (Or.inl (hw _ (List.mem_of_getElem? (i := 22) rfl))) (by decide) (t := .int) (t' := .int) (by decide) (by decide)))) (A_d1.other W2 ne_d1_a1) S_ArrayList_DEFAULTCAPACITY_EMPTY_ELEMENTDATA (O0.wr W2 g_a1) g_a1) e4 (E_a1.wr W2) rfl rfl pd_12 rfl d_jdk_38_25_20 (by rw [hml]; rfl) rfl (by decide) (by decide) (Nat.le_of_ble_eq_true rfl) (by decide) (by decide) fun v5 T5 L5 X5 q5 => ?_
  obtain ⟨b5_ba, rfl, Nq5, K5, sq_b5_ba, Fp5_0, Fp5_1, Fp5_2, Ap5_0⟩ := q5
  have N5 := Fr.app N2 Nq5
  have sz_b5_ba : h0.size ≤ b5_ba := Nat.le_trans (Nat.le_trans (Nat.le_refl _) (Keep.of_wr W2).1) sq_b5_ba
  have g_b5_ba : n0 ≤ b5_ba := Nat.le_trans Z0 sz_b5_ba
  refine k_none K ?_
  refine m_iconst K X5.here hx hby (1 : Int32) d_jdk_38_25_23 rfl rfl ?_
  exact Go.retN X5 hx hby hlk hret (by simp) d_jdk_38_25_24 (by decide) (by decide) (by decide) (⟨b5_ba, rfl, N5, (((Keep.refl h0 [a1]).wr W2 (Or.inl (by simp))).trans K5 (allS (Or.inl (by simp)) all0)), sz_b5_ba, Fp5_0, Fp5_1, Fp5_2, Ap5_0⟩)
theorem ef8l1 (m : MethodId) (x0 : Addr) (x1 : Addr) (x2 : Addr) (x3 : Int32) : entryFrame m #[(.ref x0), (.ref x1), (.ref x2), (.int x3)] 4 = mkF m 0 #[.val (.ref x0), .val (.ref x1), .val (.ref x2), .val (.int x3)] [] := by first | (simp [entryFrame, mkF, argsToLocals, Value.category]; done) | rfl
set_option maxRecDepth 65536 in
set_option maxHeartbeats 40000000 in
theorem c8l1 (l : Launch) (Z : State) (a0 : Array Value) (hw : ∀ d ∈ tables_1, d.before a0 Z = true) (a1 : Addr) (a2 : Addr) (ba : Addr) (r0 : Addr) (h0 : Heap) (n0 : Nat) (Z0 : n0 ≤ h0.size) (E_a1 : Exa Z h0 a1 "java/util/ArrayList") (E_a2 : Exa Z h0 a2 "java/util/ArrayList") (F_modCount_a1 : Fld Z h0 a1 "java/util/AbstractList" "modCount" "I" (.int (2 : Int32))) (F_elementData_a1 : Fld Z h0 a1 "java/util/ArrayList" "elementData" "[Ljava/lang/Object;" (.ref ba)) (F_size_a1 : Fld Z h0 a1 "java/util/ArrayList" "size" "I" (.int (1 : Int32))) (A_ba : Avr Z h0 ba "java/lang/Object" [(.ref r0), .null, .null, .null, .null, .null, .null, .null, .null, .null]) (g_a1 : n0 ≤ a1) (g_ba : n0 ≤ ba) (ne_a1_ba : a1 ≠ ba) :
    Con l Z (⟨"java/util/ArrayList", "add", "(Ljava/lang/Object;[Ljava/lang/Object;I)V"⟩ : MethodName) jdk_38_method_24_code 4 none ({ frames := 0, cells := 0, slots := 0, locals := 0 } : Room) [] #[(.ref a1), (.ref a2), (.ref ba), (.int (1 : Int32))] h0 (fun v h L => v = none ∧ Fr n0 L ∧ Keep h0 h [a1, ba] ∧ Fld Z h a1 "java/util/AbstractList" "modCount" "I" (.int (2 : Int32)) ∧ Fld Z h a1 "java/util/ArrayList" "elementData" "[Ljava/lang/Object;" (.ref ba) ∧ Fld Z h a1 "java/util/ArrayList" "size" "I" (.int (2 : Int32)) ∧ Avr Z h ba "java/lang/Object" [(.ref r0), (.ref a2), .null, .null, .null, .null, .null, .null, .null, .null]) := by
  refine Con.of (plainFor_of_name pn_java_util_ArrayList) #[.val (.ref a1), .val (.ref a2), .val (.ref ba), .val (.int (1 : Int32))] (fun m => ef8l1 m a1 a2 ba (1 : Int32)) ?_
  intro p e s m below meth c s₁ K hx hby hml hown hnm hret hlk hZ X0 e0 hnd
  have N0 := Fr.nil n0
  refine m_iloadN K X0.here hx hby d_jdk_38_24_0 rfl rfl ?_
  refine m_aloadN K X0.here hx hby d_jdk_38_24_1 rfl rfl rfl ?_
  refine k_len K X0 hx hby hZ (10 : Int32) e0 A_ba.av rfl d_jdk_38_24_2 rfl ?_
  refine m_icmpY K X0.here hx hby (q := 11) d_jdk_38_24_3 (feq (by decide : ¬ ((1 : Int32) = (10 : Int32)))).2 (by decide) rfl ?_
  refine m_aloadN K X0.here hx hby d_jdk_38_24_11 rfl rfl rfl ?_
  refine m_iloadN K X0.here hx hby d_jdk_38_24_12 rfl rfl ?_
  refine m_aloadN K X0.here hx hby d_jdk_38_24_13 rfl rfl rfl ?_
  refine k_stR K X0 hx hby hZ e0 A_ba (by decide) (Nat.le_of_ble_eq_true rfl) (Or.inr ⟨_, rfl, (Ins.of_exa E_a2 (hw _ (List.mem_of_getElem? (i := 75) rfl)))⟩) d_jdk_38_24_14 rfl fun T1 h1 X1 e1 W1 V1 => ?_
  replace V1 : Avr Z h1 ba "java/lang/Object" [(.ref r0), (.ref a2), .null, .null, .null, .null, .null, .null, .null, .null] := V1
  have N1 := Fr.snoc X1 N0 g_ba
  refine m_aloadN K X1.here hx hby d_jdk_38_24_15 rfl rfl rfl ?_
  refine m_iloadN K X1.here hx hby d_jdk_38_24_16 rfl rfl ?_
  refine m_iconst K X1.here hx hby (1 : Int32) d_jdk_38_24_17 rfl rfl ?_
  refine m_iadd K X1.here hx hby (2 : Int32) d_jdk_38_24_18 rfl rfl ?_
  refine k_putF K X1 hx hby hZ hown (host := "") (Or.inl (hw _ (List.mem_of_getElem? (i := 44) rfl))) Via.refl e1 (F_size_a1.other W1 (Or.inl ne_a1_ba)) (E_a1.wr W1) (Or.inl (hw _ (List.mem_of_getElem? (i := 45) rfl))) (hw _ (List.mem_of_getElem? (i := 1) rfl)) (ty := .int) (by decide) rfl rfl d_jdk_38_24_19 rfl fun T2 h2 X2 e2 W2 => ?_
  have Fw2 := (F_size_a1.other W1 (Or.inl ne_a1_ba)).same W2
  have N2 := Fr.snoc X2 N1 g_a1
  exact Go.retV X2 hx hby hlk hret d_jdk_38_24_22 (by decide) (by decide) (by rw [e2]; exact ⟨rfl, N2, (((Keep.refl h0 [a1, ba]).wr W1 (Or.inl (by simp))).wr W2 (Or.inl (by simp))), ((F_modCount_a1.other W1 (Or.inl ne_a1_ba)).other W2 (Or.inr (slot_ne (Or.inl (hw _ (List.mem_of_getElem? (i := 22) rfl))) (Or.inl (hw _ (List.mem_of_getElem? (i := 45) rfl))) (by decide) (t := .int) (t' := .int) (by decide) (by decide)))), ((F_elementData_a1.other W1 (Or.inl ne_a1_ba)).other W2 (Or.inr (slot_ne (Or.inl (hw _ (List.mem_of_getElem? (i := 25) rfl))) (Or.inl (hw _ (List.mem_of_getElem? (i := 45) rfl))) (by decide) (t := (.array (.object "java/lang/Object"))) (t' := .int) (by decide) (by decide)))), Fw2, (V1.other W2 (Ne.symm ne_a1_ba))⟩)
theorem ef9l1 (m : MethodId) (x0 : Addr) (x1 : Addr) : entryFrame m #[(.ref x0), (.ref x1)] 2 = mkF m 0 #[.val (.ref x0), .val (.ref x1)] [] := by first | (simp [entryFrame, mkF, argsToLocals, Value.category]; done) | rfl
set_option maxRecDepth 65536 in
set_option maxHeartbeats 40000000 in
theorem c9l1 (l : Launch) (Z : State) (a0 : Array Value) (hw : ∀ d ∈ tables_1, d.before a0 Z = true) (a1 : Addr) (a2 : Addr) (ba : Addr) (r0 : Addr) (h0 : Heap) (n0 : Nat) (Z0 : n0 ≤ h0.size) (E_a1 : Exa Z h0 a1 "java/util/ArrayList") (E_a2 : Exa Z h0 a2 "java/util/ArrayList") (F_modCount_a1 : Fld Z h0 a1 "java/util/AbstractList" "modCount" "I" (.int (1 : Int32))) (F_elementData_a1 : Fld Z h0 a1 "java/util/ArrayList" "elementData" "[Ljava/lang/Object;" (.ref ba)) (F_size_a1 : Fld Z h0 a1 "java/util/ArrayList" "size" "I" (.int (1 : Int32))) (A_ba : Avr Z h0 ba "java/lang/Object" [(.ref r0), .null, .null, .null, .null, .null, .null, .null, .null, .null]) (g_a1 : n0 ≤ a1) (g_ba : n0 ≤ ba) (ne_a1_ba : a1 ≠ ba) :
    Con l Z (⟨"java/util/ArrayList", "add", "(Ljava/lang/Object;)Z"⟩ : MethodName) jdk_38_method_25_code 2 (some .boolean) ({ frames := 1, cells := 0, slots := 0, locals := 15 } : Room) [] #[(.ref a1), (.ref a2)] h0 (fun v h L => v = some (.int (1 : Int32)) ∧ Fr n0 L ∧ Keep h0 h [a1, ba] ∧ Fld Z h a1 "java/util/AbstractList" "modCount" "I" (.int (2 : Int32)) ∧ Fld Z h a1 "java/util/ArrayList" "elementData" "[Ljava/lang/Object;" (.ref ba) ∧ Fld Z h a1 "java/util/ArrayList" "size" "I" (.int (2 : Int32)) ∧ Avr Z h ba "java/lang/Object" [(.ref r0), (.ref a2), .null, .null, .null, .null, .null, .null, .null, .null]) := by
  refine Con.of (plainFor_of_name pn_java_util_ArrayList) #[.val (.ref a1), .val (.ref a2)] (fun m => ef9l1 m a1 a2) ?_
  intro p e s m below meth c s₁ K hx hby hml hown hnm hret hlk hZ X0 e0 hnd
  have N0 := Fr.nil n0
  refine m_aloadN K X0.here hx hby d_jdk_38_25_0 rfl rfl rfl ?_
  refine m_dup K X0.here hx hby d_jdk_38_25_1 rfl rfl ?_
  refine k_getF K X0 hx hby hZ hown (host := "") (Or.inl (hw _ (List.mem_of_getElem? (i := 42) rfl))) (Via.of (hw _ (List.mem_of_getElem? (i := 43) rfl))) e0 F_modCount_a1 d_jdk_38_25_2 rfl fun T1 X1 e1 => ?_
  refine m_iconst K X1.here hx hby (1 : Int32) d_jdk_38_25_5 rfl rfl ?_
  refine m_iadd K X1.here hx hby (2 : Int32) d_jdk_38_25_6 rfl rfl ?_
  refine k_putF K X1 hx hby hZ hown (host := "") (Or.inl (hw _ (List.mem_of_getElem? (i := 42) rfl))) (Via.of (hw _ (List.mem_of_getElem? (i := 43) rfl))) e1 F_modCount_a1 E_a1 (Or.inl (hw _ (List.mem_of_getElem? (i := 22) rfl))) (hw _ (List.mem_of_getElem? (i := 1) rfl)) (ty := .int) (by decide) rfl rfl d_jdk_38_25_7 rfl fun T2 h2 X2 e2 W2 => ?_
  have Fw2 := F_modCount_a1.same W2
  have N2 := Fr.snoc X2 N0 g_a1
  refine m_aloadN K X2.here hx hby d_jdk_38_25_10 rfl rfl rfl ?_
  refine m_aloadN K X2.here hx hby d_jdk_38_25_11 rfl rfl rfl ?_
  refine m_aloadN K X2.here hx hby d_jdk_38_25_12 rfl rfl rfl ?_
  refine k_getF K X2 hx hby hZ hown (host := "") (Or.inl (hw _ (List.mem_of_getElem? (i := 24) rfl))) Via.refl e2 (F_elementData_a1.other W2 (Or.inr (slot_ne (Or.inl (hw _ (List.mem_of_getElem? (i := 25) rfl))) (Or.inl (hw _ (List.mem_of_getElem? (i := 22) rfl))) (by decide) (t := (.array (.object "java/lang/Object"))) (t' := .int) (by decide) (by decide)))) d_jdk_38_25_13 rfl fun T3 X3 e3 => ?_
  refine m_aloadN K X3.here hx hby d_jdk_38_25_16 rfl rfl rfl ?_
  refine k_getF K X3 hx hby hZ hown (host := "") (Or.inl (hw _ (List.mem_of_getElem? (i := 44) rfl))) Via.refl e3 (F_size_a1.other W2 (Or.inr (slot_ne (Or.inl (hw _ (List.mem_of_getElem? (i := 45) rfl))) (Or.inl (hw _ (List.mem_of_getElem? (i := 22) rfl))) (by decide) (t := .int) (t' := .int) (by decide) (by decide)))) d_jdk_38_25_17 rfl fun T4 X4 e4 => ?_
  refine k_callR K X4 hx hby hZ a1 [(.ref a2), (.ref ba), (.int (1 : Int32))] [] hown (hw _ (List.mem_of_getElem? (i := 46) rfl)) (hw _ (List.mem_of_getElem? (i := 47) rfl)) (hw _ (List.mem_of_getElem? (i := 49) rfl)) (hw _ (List.mem_of_getElem? (i := 48) rfl)) (hw _ (List.mem_of_getElem? (i := 2) rfl)) (hw _ (List.mem_of_getElem? (i := 50) rfl)) (c8l1 l Z a0 hw a1 a2 ba r0 h2 n0 (Nat.le_trans Z0 (Nat.le_trans (Nat.le_refl _) (Keep.of_wr W2).1)) (E_a1.wr W2) (E_a2.wr W2) Fw2 (F_elementData_a1.other W2 (Or.inr (slot_ne (Or.inl (hw _ (List.mem_of_getElem? (i := 25) rfl))) (Or.inl (hw _ (List.mem_of_getElem? (i := 22) rfl))) (by decide) (t := (.array (.object "java/lang/Object"))) (t' := .int) (by decide) (by decide)))) (F_size_a1.other W2 (Or.inr (slot_ne (Or.inl (hw _ (List.mem_of_getElem? (i := 45) rfl))) (Or.inl (hw _ (List.mem_of_getElem? (i := 22) rfl))) (by decide) (t := .int) (t' := .int) (by decide) (by decide)))) (A_ba.other W2 (Ne.symm ne_a1_ba)) g_a1 g_ba ne_a1_ba) e4 (E_a1.wr W2) rfl rfl pd_12 rfl d_jdk_38_25_20 (by rw [hml]; rfl) rfl (by decide) (by decide) (Nat.le_of_ble_eq_true rfl) (by decide) (by decide) fun v5 T5 L5 X5 q5 => ?_
  obtain ⟨rfl, Nq5, K5, Fp5_0, Fp5_1, Fp5_2, Ap5_0⟩ := q5
  have N5 := Fr.app N2 Nq5
  refine k_none K ?_
  refine m_iconst K X5.here hx hby (1 : Int32) d_jdk_38_25_23 rfl rfl ?_
  exact Go.retN X5 hx hby hlk hret (by simp) d_jdk_38_25_24 (by decide) (by decide) (by decide) (⟨rfl, N5, (((Keep.refl h0 [a1, ba]).wr W2 (Or.inl (by simp))).trans K5 (allS (Or.inl (by simp)) (allS (Or.inl (by simp)) all0))), Fp5_0, Fp5_1, Fp5_2, Ap5_0⟩)
theorem ef8l2 (m : MethodId) (x0 : Addr) (x1 : Addr) (x2 : Addr) (x3 : Int32) : entryFrame m #[(.ref x0), (.ref x1), (.ref x2), (.int x3)] 4 = mkF m 0 #[.val (.ref x0), .val (.ref x1), .val (.ref x2), .val (.int x3)] [] := by first | (simp [entryFrame, mkF, argsToLocals, Value.category]; done) | rfl
set_option maxRecDepth 65536 in
set_option maxHeartbeats 40000000 in
theorem c8l2 (l : Launch) (Z : State) (a0 : Array Value) (hw : ∀ d ∈ tables_1, d.before a0 Z = true) (a1 : Addr) (a2 : Addr) (ba : Addr) (r0 : Addr) (r1 : Addr) (h0 : Heap) (n0 : Nat) (Z0 : n0 ≤ h0.size) (E_a1 : Exa Z h0 a1 "java/util/ArrayList") (E_a2 : Exa Z h0 a2 "java/util/ArrayList") (F_modCount_a1 : Fld Z h0 a1 "java/util/AbstractList" "modCount" "I" (.int (3 : Int32))) (F_elementData_a1 : Fld Z h0 a1 "java/util/ArrayList" "elementData" "[Ljava/lang/Object;" (.ref ba)) (F_size_a1 : Fld Z h0 a1 "java/util/ArrayList" "size" "I" (.int (2 : Int32))) (A_ba : Avr Z h0 ba "java/lang/Object" [(.ref r0), (.ref r1), .null, .null, .null, .null, .null, .null, .null, .null]) (g_a1 : n0 ≤ a1) (g_ba : n0 ≤ ba) (ne_a1_ba : a1 ≠ ba) :
    Con l Z (⟨"java/util/ArrayList", "add", "(Ljava/lang/Object;[Ljava/lang/Object;I)V"⟩ : MethodName) jdk_38_method_24_code 4 none ({ frames := 0, cells := 0, slots := 0, locals := 0 } : Room) [] #[(.ref a1), (.ref a2), (.ref ba), (.int (2 : Int32))] h0 (fun v h L => v = none ∧ Fr n0 L ∧ Keep h0 h [a1, ba] ∧ Fld Z h a1 "java/util/AbstractList" "modCount" "I" (.int (3 : Int32)) ∧ Fld Z h a1 "java/util/ArrayList" "elementData" "[Ljava/lang/Object;" (.ref ba) ∧ Fld Z h a1 "java/util/ArrayList" "size" "I" (.int (3 : Int32)) ∧ Avr Z h ba "java/lang/Object" [(.ref r0), (.ref r1), (.ref a2), .null, .null, .null, .null, .null, .null, .null]) := by
  refine Con.of (plainFor_of_name pn_java_util_ArrayList) #[.val (.ref a1), .val (.ref a2), .val (.ref ba), .val (.int (2 : Int32))] (fun m => ef8l2 m a1 a2 ba (2 : Int32)) ?_
  intro p e s m below meth c s₁ K hx hby hml hown hnm hret hlk hZ X0 e0 hnd
  have N0 := Fr.nil n0
  refine m_iloadN K X0.here hx hby d_jdk_38_24_0 rfl rfl ?_
  refine m_aloadN K X0.here hx hby d_jdk_38_24_1 rfl rfl rfl ?_
  refine k_len K X0 hx hby hZ (10 : Int32) e0 A_ba.av rfl d_jdk_38_24_2 rfl ?_
  refine m_icmpY K X0.here hx hby (q := 11) d_jdk_38_24_3 (feq (by decide : ¬ ((2 : Int32) = (10 : Int32)))).2 (by decide) rfl ?_
  refine m_aloadN K X0.here hx hby d_jdk_38_24_11 rfl rfl rfl ?_
  refine m_iloadN K X0.here hx hby d_jdk_38_24_12 rfl rfl ?_
  refine m_aloadN K X0.here hx hby d_jdk_38_24_13 rfl rfl rfl ?_
  refine k_stR K X0 hx hby hZ e0 A_ba (by decide) (Nat.le_of_ble_eq_true rfl) (Or.inr ⟨_, rfl, (Ins.of_exa E_a2 (hw _ (List.mem_of_getElem? (i := 75) rfl)))⟩) d_jdk_38_24_14 rfl fun T1 h1 X1 e1 W1 V1 => ?_
  replace V1 : Avr Z h1 ba "java/lang/Object" [(.ref r0), (.ref r1), (.ref a2), .null, .null, .null, .null, .null, .null, .null] := V1
  have N1 := Fr.snoc X1 N0 g_ba
  refine m_aloadN K X1.here hx hby d_jdk_38_24_15 rfl rfl rfl ?_
  refine m_iloadN K X1.here hx hby d_jdk_38_24_16 rfl rfl ?_
  refine m_iconst K X1.here hx hby (1 : Int32) d_jdk_38_24_17 rfl rfl ?_
  refine m_iadd K X1.here hx hby (3 : Int32) d_jdk_38_24_18 rfl rfl ?_
  refine k_putF K X1 hx hby hZ hown (host := "") (Or.inl (hw _ (List.mem_of_getElem? (i := 44) rfl))) Via.refl e1 (F_size_a1.other W1 (Or.inl ne_a1_ba)) (E_a1.wr W1) (Or.inl (hw _ (List.mem_of_getElem? (i := 45) rfl))) (hw _ (List.mem_of_getElem? (i := 1) rfl)) (ty := .int) (by decide) rfl rfl d_jdk_38_24_19 rfl fun T2 h2 X2 e2 W2 => ?_
  have Fw2 := (F_size_a1.other W1 (Or.inl ne_a1_ba)).same W2
  have N2 := Fr.snoc X2 N1 g_a1
  exact Go.retV X2 hx hby hlk hret d_jdk_38_24_22 (by decide) (by decide) (by rw [e2]; exact ⟨rfl, N2, (((Keep.refl h0 [a1, ba]).wr W1 (Or.inl (by simp))).wr W2 (Or.inl (by simp))), ((F_modCount_a1.other W1 (Or.inl ne_a1_ba)).other W2 (Or.inr (slot_ne (Or.inl (hw _ (List.mem_of_getElem? (i := 22) rfl))) (Or.inl (hw _ (List.mem_of_getElem? (i := 45) rfl))) (by decide) (t := .int) (t' := .int) (by decide) (by decide)))), ((F_elementData_a1.other W1 (Or.inl ne_a1_ba)).other W2 (Or.inr (slot_ne (Or.inl (hw _ (List.mem_of_getElem? (i := 25) rfl))) (Or.inl (hw _ (List.mem_of_getElem? (i := 45) rfl))) (by decide) (t := (.array (.object "java/lang/Object"))) (t' := .int) (by decide) (by decide)))), Fw2, (V1.other W2 (Ne.symm ne_a1_ba))⟩)
theorem ef9l2 (m : MethodId) (x0 : Addr) (x1 : Addr) : entryFrame m #[(.ref x0), (.ref x1)] 2 = mkF m 0 #[.val (.ref x0), .val (.ref x1)] [] := by first | (simp [entryFrame, mkF, argsToLocals, Value.category]; done) | rfl
set_option maxRecDepth 65536 in
set_option maxHeartbeats 40000000 in
theorem c9l2 (l : Launch) (Z : State) (a0 : Array Value) (hw : ∀ d ∈ tables_1, d.before a0 Z = true) (a1 : Addr) (a2 : Addr) (ba : Addr) (r0 : Addr) (r1 : Addr) (h0 : Heap) (n0 : Nat) (Z0 : n0 ≤ h0.size) (E_a1 : Exa Z h0 a1 "java/util/ArrayList") (E_a2 : Exa Z h0 a2 "java/util/ArrayList") (F_modCount_a1 : Fld Z h0 a1 "java/util/AbstractList" "modCount" "I" (.int (2 : Int32))) (F_elementData_a1 : Fld Z h0 a1 "java/util/ArrayList" "elementData" "[Ljava/lang/Object;" (.ref ba)) (F_size_a1 : Fld Z h0 a1 "java/util/ArrayList" "size" "I" (.int (2 : Int32))) (A_ba : Avr Z h0 ba "java/lang/Object" [(.ref r0), (.ref r1), .null, .null, .null, .null, .null, .null, .null, .null]) (g_a1 : n0 ≤ a1) (g_ba : n0 ≤ ba) (ne_a1_ba : a1 ≠ ba) :
    Con l Z (⟨"java/util/ArrayList", "add", "(Ljava/lang/Object;)Z"⟩ : MethodName) jdk_38_method_25_code 2 (some .boolean) ({ frames := 1, cells := 0, slots := 0, locals := 15 } : Room) [] #[(.ref a1), (.ref a2)] h0 (fun v h L => v = some (.int (1 : Int32)) ∧ Fr n0 L ∧ Keep h0 h [a1, ba] ∧ Fld Z h a1 "java/util/AbstractList" "modCount" "I" (.int (3 : Int32)) ∧ Fld Z h a1 "java/util/ArrayList" "elementData" "[Ljava/lang/Object;" (.ref ba) ∧ Fld Z h a1 "java/util/ArrayList" "size" "I" (.int (3 : Int32)) ∧ Avr Z h ba "java/lang/Object" [(.ref r0), (.ref r1), (.ref a2), .null, .null, .null, .null, .null, .null, .null]) := by
  refine Con.of (plainFor_of_name pn_java_util_ArrayList) #[.val (.ref a1), .val (.ref a2)] (fun m => ef9l2 m a1 a2) ?_
  intro p e s m below meth c s₁ K hx hby hml hown hnm hret hlk hZ X0 e0 hnd
  have N0 := Fr.nil n0
  refine m_aloadN K X0.here hx hby d_jdk_38_25_0 rfl rfl rfl ?_
  refine m_dup K X0.here hx hby d_jdk_38_25_1 rfl rfl ?_
  refine k_getF K X0 hx hby hZ hown (host := "") (Or.inl (hw _ (List.mem_of_getElem? (i := 42) rfl))) (Via.of (hw _ (List.mem_of_getElem? (i := 43) rfl))) e0 F_modCount_a1 d_jdk_38_25_2 rfl fun T1 X1 e1 => ?_
  refine m_iconst K X1.here hx hby (1 : Int32) d_jdk_38_25_5 rfl rfl ?_
  refine m_iadd K X1.here hx hby (3 : Int32) d_jdk_38_25_6 rfl rfl ?_
  refine k_putF K X1 hx hby hZ hown (host := "") (Or.inl (hw _ (List.mem_of_getElem? (i := 42) rfl))) (Via.of (hw _ (List.mem_of_getElem? (i := 43) rfl))) e1 F_modCount_a1 E_a1 (Or.inl (hw _ (List.mem_of_getElem? (i := 22) rfl))) (hw _ (List.mem_of_getElem? (i := 1) rfl)) (ty := .int) (by decide) rfl rfl d_jdk_38_25_7 rfl fun T2 h2 X2 e2 W2 => ?_
  have Fw2 := F_modCount_a1.same W2
  have N2 := Fr.snoc X2 N0 g_a1
  refine m_aloadN K X2.here hx hby d_jdk_38_25_10 rfl rfl rfl ?_
  refine m_aloadN K X2.here hx hby d_jdk_38_25_11 rfl rfl rfl ?_
  refine m_aloadN K X2.here hx hby d_jdk_38_25_12 rfl rfl rfl ?_
  refine k_getF K X2 hx hby hZ hown (host := "") (Or.inl (hw _ (List.mem_of_getElem? (i := 24) rfl))) Via.refl e2 (F_elementData_a1.other W2 (Or.inr (slot_ne (Or.inl (hw _ (List.mem_of_getElem? (i := 25) rfl))) (Or.inl (hw _ (List.mem_of_getElem? (i := 22) rfl))) (by decide) (t := (.array (.object "java/lang/Object"))) (t' := .int) (by decide) (by decide)))) d_jdk_38_25_13 rfl fun T3 X3 e3 => ?_
  refine m_aloadN K X3.here hx hby d_jdk_38_25_16 rfl rfl rfl ?_
  refine k_getF K X3 hx hby hZ hown (host := "") (Or.inl (hw _ (List.mem_of_getElem? (i := 44) rfl))) Via.refl e3 (F_size_a1.other W2 (Or.inr (slot_ne (Or.inl (hw _ (List.mem_of_getElem? (i := 45) rfl))) (Or.inl (hw _ (List.mem_of_getElem? (i := 22) rfl))) (by decide) (t := .int) (t' := .int) (by decide) (by decide)))) d_jdk_38_25_17 rfl fun T4 X4 e4 => ?_
  refine k_callR K X4 hx hby hZ a1 [(.ref a2), (.ref ba), (.int (2 : Int32))] [] hown (hw _ (List.mem_of_getElem? (i := 46) rfl)) (hw _ (List.mem_of_getElem? (i := 47) rfl)) (hw _ (List.mem_of_getElem? (i := 49) rfl)) (hw _ (List.mem_of_getElem? (i := 48) rfl)) (hw _ (List.mem_of_getElem? (i := 2) rfl)) (hw _ (List.mem_of_getElem? (i := 50) rfl)) (c8l2 l Z a0 hw a1 a2 ba r0 r1 h2 n0 (Nat.le_trans Z0 (Nat.le_trans (Nat.le_refl _) (Keep.of_wr W2).1)) (E_a1.wr W2) (E_a2.wr W2) Fw2 (F_elementData_a1.other W2 (Or.inr (slot_ne (Or.inl (hw _ (List.mem_of_getElem? (i := 25) rfl))) (Or.inl (hw _ (List.mem_of_getElem? (i := 22) rfl))) (by decide) (t := (.array (.object "java/lang/Object"))) (t' := .int) (by decide) (by decide)))) (F_size_a1.other W2 (Or.inr (slot_ne (Or.inl (hw _ (List.mem_of_getElem? (i := 45) rfl))) (Or.inl (hw _ (List.mem_of_getElem? (i := 22) rfl))) (by decide) (t := .int) (t' := .int) (by decide) (by decide)))) (A_ba.other W2 (Ne.symm ne_a1_ba)) g_a1 g_ba ne_a1_ba) e4 (E_a1.wr W2) rfl rfl pd_12 rfl d_jdk_38_25_20 (by rw [hml]; rfl) rfl (by decide) (by decide) (Nat.le_of_ble_eq_true rfl) (by decide) (by decide) fun v5 T5 L5 X5 q5 => ?_
  obtain ⟨rfl, Nq5, K5, Fp5_0, Fp5_1, Fp5_2, Ap5_0⟩ := q5
  have N5 := Fr.app N2 Nq5
  refine k_none K ?_
  refine m_iconst K X5.here hx hby (1 : Int32) d_jdk_38_25_23 rfl rfl ?_
  exact Go.retN X5 hx hby hlk hret (by simp) d_jdk_38_25_24 (by decide) (by decide) (by decide) (⟨rfl, N5, (((Keep.refl h0 [a1, ba]).wr W2 (Or.inl (by simp))).trans K5 (allS (Or.inl (by simp)) (allS (Or.inl (by simp)) all0))), Fp5_0, Fp5_1, Fp5_2, Ap5_0⟩)
theorem d_method_2_0 : decode method_2_code 0 = .ok (.new 7, 3) := by decide +kernel
theorem d_method_2_3 : decode method_2_code 3 = .ok (.dup, 1) := by decide +kernel
theorem d_method_2_4 : decode method_2_code 4 = .ok (.invokespecial 9, 3) := by decide +kernel
theorem d_method_2_7 : decode method_2_code 7 = .ok (.astore_n 1, 1) := by decide +kernel
theorem d_method_2_8 : decode method_2_code 8 = .ok (.iconst 5, 1) := by decide +kernel
theorem d_method_2_9 : decode method_2_code 9 = .ok (.iload_n 0, 1) := by decide +kernel
theorem d_method_2_10 : decode method_2_code 10 = .ok (.imul, 1) := by decide +kernel
theorem d_method_2_11 : decode method_2_code 11 = .ok (.istore_n 2, 1) := by decide +kernel
theorem d_method_2_12 : decode method_2_code 12 = .ok (.aload_n 1, 1) := by decide +kernel
theorem d_method_2_13 : decode method_2_code 13 = .ok (.iconst 1, 1) := by decide +kernel
theorem d_method_2_14 : decode method_2_code 14 = .ok (.iload_n 2, 1) := by decide +kernel
theorem d_method_2_15 : decode method_2_code 15 = .ok (.ishl, 1) := by decide +kernel
theorem d_method_2_16 : decode method_2_code 16 = .ok (.invokestatic 10, 3) := by decide +kernel
theorem d_method_2_19 : decode method_2_code 19 = .ok (.invokevirtual 16, 3) := by decide +kernel
theorem d_method_2_22 : decode method_2_code 22 = .ok (.pop, 1) := by decide +kernel
theorem d_method_2_23 : decode method_2_code 23 = .ok (.aload_n 1, 1) := by decide +kernel
theorem d_method_2_24 : decode method_2_code 24 = .ok (.iconst 1, 1) := by decide +kernel
theorem d_method_2_25 : decode method_2_code 25 = .ok (.iload_n 2, 1) := by decide +kernel
theorem d_method_2_26 : decode method_2_code 26 = .ok (.iconst 1, 1) := by decide +kernel
theorem d_method_2_27 : decode method_2_code 27 = .ok (.iadd, 1) := by decide +kernel
theorem d_method_2_28 : decode method_2_code 28 = .ok (.ishl, 1) := by decide +kernel
theorem d_method_2_29 : decode method_2_code 29 = .ok (.invokestatic 10, 3) := by decide +kernel
theorem d_method_2_32 : decode method_2_code 32 = .ok (.invokevirtual 16, 3) := by decide +kernel
theorem d_method_2_35 : decode method_2_code 35 = .ok (.pop, 1) := by decide +kernel
theorem d_method_2_36 : decode method_2_code 36 = .ok (.aload_n 1, 1) := by decide +kernel
theorem d_method_2_37 : decode method_2_code 37 = .ok (.iconst 1, 1) := by decide +kernel
theorem d_method_2_38 : decode method_2_code 38 = .ok (.iload_n 2, 1) := by decide +kernel
theorem d_method_2_39 : decode method_2_code 39 = .ok (.iconst 2, 1) := by decide +kernel
theorem d_method_2_40 : decode method_2_code 40 = .ok (.iadd, 1) := by decide +kernel
theorem d_method_2_41 : decode method_2_code 41 = .ok (.ishl, 1) := by decide +kernel
theorem d_method_2_42 : decode method_2_code 42 = .ok (.invokestatic 10, 3) := by decide +kernel
theorem d_method_2_45 : decode method_2_code 45 = .ok (.invokevirtual 16, 3) := by decide +kernel
theorem d_method_2_48 : decode method_2_code 48 = .ok (.pop, 1) := by decide +kernel
theorem d_method_2_49 : decode method_2_code 49 = .ok (.aload_n 1, 1) := by decide +kernel
theorem d_method_2_50 : decode method_2_code 50 = .ok (.iconst 1, 1) := by decide +kernel
theorem d_method_2_51 : decode method_2_code 51 = .ok (.iload_n 2, 1) := by decide +kernel
theorem d_method_2_52 : decode method_2_code 52 = .ok (.iconst 3, 1) := by decide +kernel
theorem d_method_2_53 : decode method_2_code 53 = .ok (.iadd, 1) := by decide +kernel
theorem d_method_2_54 : decode method_2_code 54 = .ok (.ishl, 1) := by decide +kernel
theorem d_method_2_55 : decode method_2_code 55 = .ok (.invokestatic 10, 3) := by decide +kernel
theorem d_method_2_58 : decode method_2_code 58 = .ok (.invokevirtual 16, 3) := by decide +kernel
theorem d_method_2_61 : decode method_2_code 61 = .ok (.pop, 1) := by decide +kernel
theorem d_method_2_62 : decode method_2_code 62 = .ok (.aload_n 1, 1) := by decide +kernel
theorem d_method_2_63 : decode method_2_code 63 = .ok (.iconst 1, 1) := by decide +kernel
theorem d_method_2_64 : decode method_2_code 64 = .ok (.iload_n 2, 1) := by decide +kernel
theorem d_method_2_65 : decode method_2_code 65 = .ok (.iconst 4, 1) := by decide +kernel
theorem d_method_2_66 : decode method_2_code 66 = .ok (.iadd, 1) := by decide +kernel
theorem d_method_2_67 : decode method_2_code 67 = .ok (.ishl, 1) := by decide +kernel
theorem d_method_2_68 : decode method_2_code 68 = .ok (.invokestatic 10, 3) := by decide +kernel
theorem d_method_2_71 : decode method_2_code 71 = .ok (.invokevirtual 16, 3) := by decide +kernel
theorem d_method_2_74 : decode method_2_code 74 = .ok (.pop, 1) := by decide +kernel
theorem d_method_2_75 : decode method_2_code 75 = .ok (.aload_n 1, 1) := by decide +kernel
theorem d_method_2_76 : decode method_2_code 76 = .ok (.areturn, 1) := by decide +kernel
theorem pn_com_example_craterworks_craterworks_SharesStationTakePinLaw : plainName "com/example/craterworks/craterworks/SharesStationTakePinLaw" = true := by first | (simp [plainName, overriddenIn]; done) | decide +kernel
theorem pd_13 : parseMethodDescriptor "(I)Ljava/lang/Integer;" = some ⟨[.int], some (.object "java/lang/Integer")⟩ := by decide +kernel
theorem pd_14 : parseMethodDescriptor "(Ljava/lang/Object;)Z" = some ⟨[(.object "java/lang/Object")], some .boolean⟩ := by decide +kernel
theorem efcol0 (m : MethodId) (x0 : Int32) : entryFrame m #[(.int x0)] 3 = mkF m 0 #[.val (.int x0), .unset, .unset] [] := by first | (simp [entryFrame, mkF, argsToLocals, Value.category]; done) | rfl
set_option maxRecDepth 65536 in
set_option maxHeartbeats 40000000 in
theorem ccol0 (l : Launch) (Z : State) (a0 : Array Value) (hw : ∀ d ∈ tables_1, d.before a0 Z = true) (d1 : Addr) (ca : Addr) (bx : (List Value)) (s0 : Addr) (s1 : Addr) (s2 : Addr) (s3 : Addr) (s4 : Addr) (h0 : Heap) (n0 : Nat) (Z0 : n0 ≤ h0.size) (E_s0 : Exa Z h0 s0 "java/lang/Integer") (E_s1 : Exa Z h0 s1 "java/lang/Integer") (E_s2 : Exa Z h0 s2 "java/lang/Integer") (E_s3 : Exa Z h0 s3 "java/lang/Integer") (E_s4 : Exa Z h0 s4 "java/lang/Integer") (F_value_s0 : Fld Z h0 s0 "java/lang/Integer" "value" "I" (.int (1 : Int32))) (F_value_s1 : Fld Z h0 s1 "java/lang/Integer" "value" "I" (.int (2 : Int32))) (F_value_s2 : Fld Z h0 s2 "java/lang/Integer" "value" "I" (.int (4 : Int32))) (F_value_s3 : Fld Z h0 s3 "java/lang/Integer" "value" "I" (.int (8 : Int32))) (F_value_s4 : Fld Z h0 s4 "java/lang/Integer" "value" "I" (.int (16 : Int32))) (A_d1 : Av Z h0 d1 (.object "java/lang/Object") []) (S_ArrayList_DEFAULTCAPACITY_EMPTY_ELEMENTDATA : Sta Z Z.heap "java/util/ArrayList" "DEFAULTCAPACITY_EMPTY_ELEMENTDATA" "[Ljava/lang/Object;" (.ref d1)) (S_Integer_IntegerCache_high : Sta Z Z.heap "java/lang/Integer$IntegerCache" "high" "I" (.int (127 : Int32))) (S_Integer_IntegerCache_cache : Sta Z Z.heap "java/lang/Integer$IntegerCache" "cache" "[Ljava/lang/Integer;" (.ref ca)) (O0 : Old Z n0 h0) (ACA : Av Z Z.heap ca (.object "java/lang/Integer") bx) (A7_0 : bx[129]? = some (.ref s0)) (A7_1 : bx[130]? = some (.ref s1)) (A7_2 : bx[132]? = some (.ref s2)) (A7_3 : bx[136]? = some (.ref s3)) (A7_4 : bx[144]? = some (.ref s4)) (hs0 : s0 < n0) (hs1 : s1 < n0) (hs2 : s2 < n0) (hs3 : s3 < n0) (hs4 : s4 < n0) :
    Con l Z (⟨"com/example/craterworks/craterworks/SharesStationTakePinLaw", "column", "(I)Ljava/util/List;"⟩ : MethodName) method_2_code 3 (some (.object "java/util/List")) ({ frames := 5, cells := 2, slots := 13, locals := 69 } : Room) [] #[(.int (0 : Int32))] h0 (fun v h L => ∃ b : Addr, v = some (.ref b) ∧ Fr n0 L ∧ Keep h0 h [] ∧ h0.size ≤ b ∧ Exa Z h b "java/util/ArrayList" ∧ Lc Z h n0 h0.size h.size b 1 2 4 8 16) := by
  refine Con.of (plainFor_of_name pn_com_example_craterworks_craterworks_SharesStationTakePinLaw) #[.val (.int (0 : Int32)), .unset, .unset] (fun m => efcol0 m (0 : Int32)) ?_
  intro p e s m below meth c s₁ K hx hby hml hown hnm hret hlk hZ X0 e0 hnd
  have N0 := Fr.nil n0
  refine k_newO K X0 hx hby hZ hown (hw _ (List.mem_of_getElem? (i := 0) rfl)) (hw _ (List.mem_of_getElem? (i := 1) rfl)) (hw _ (List.mem_of_getElem? (i := 2) rfl)) e0 d_method_2_0 rfl (by decide) (by decide) fun T1 h1 b1 X1 e1 E1 g1 A1 D1 => ?_
  have sz_b1 : h0.size ≤ b1 := Nat.le_trans (Nat.le_refl _) (Nat.le_of_eq g1.symm)
  have g_b1 : n0 ≤ b1 := Nat.le_trans Z0 sz_b1
  have F_modCount_b1 : Fld Z h1 b1 "java/util/AbstractList" "modCount" "I" (.int (0 : Int32)) := D1 (Or.inl (hw _ (List.mem_of_getElem? (i := 22) rfl))) (ty := .int) (by decide)
  have F_elementData_b1 : Fld Z h1 b1 "java/util/ArrayList" "elementData" "[Ljava/lang/Object;" .null := D1 (Or.inl (hw _ (List.mem_of_getElem? (i := 25) rfl))) (ty := (.array (.object "java/lang/Object"))) (by decide)
  have F_size_b1 : Fld Z h1 b1 "java/util/ArrayList" "size" "I" (.int (0 : Int32)) := D1 (Or.inl (hw _ (List.mem_of_getElem? (i := 45) rfl))) (ty := .int) (by decide)
  refine m_dup K X1.here hx hby d_method_2_3 rfl rfl ?_
  refine k_callP K X1 hx hby hZ b1 [] [(.ref b1)] hown (hw _ (List.mem_of_getElem? (i := 3) rfl)) (hw _ (List.mem_of_getElem? (i := 4) rfl)) (hw _ (List.mem_of_getElem? (i := 2) rfl)) (hw _ (List.mem_of_getElem? (i := 5) rfl)) rfl (c1 l Z a0 hw b1 (0 : Int32) d1 h1 n0 (Nat.le_trans Z0 (Nat.le_trans (Nat.le_refl _) E1.1)) A1 F_modCount_b1 F_elementData_b1 F_size_b1 S_ArrayList_DEFAULTCAPACITY_EMPTY_ELEMENTDATA (O0.ext E1) g_b1) e1 rfl rfl pd_8 rfl d_method_2_4 (by rw [hml]; rfl) rfl (by decide) (by decide) (Nat.le_of_ble_eq_true rfl) (by decide) (by decide) fun v2 T2 L2 X2 q2 => ?_
  obtain ⟨rfl, Nq2, K2, Fp2_0, Fp2_1, Fp2_2⟩ := q2
  have N2 := Fr.app N0 Nq2
  refine k_none K ?_
  refine m_astoreN K X2.here hx hby #[.val (.int (0 : Int32)), .val (.ref b1), .unset] d_method_2_7 rfl rfl rfl ?_
  refine m_iconst K X2.here hx hby (5 : Int32) d_method_2_8 rfl rfl ?_
  refine m_iloadN K X2.here hx hby d_method_2_9 rfl rfl ?_
  refine m_imul K X2.here hx hby (0 : Int32) d_method_2_10 rfl rfl ?_
  refine m_istoreN K X2.here hx hby #[.val (.int (0 : Int32)), .val (.ref b1), .val (.int (0 : Int32))] d_method_2_11 rfl rfl ?_
  refine m_aloadN K X2.here hx hby d_method_2_12 rfl rfl rfl ?_
  refine m_iconst K X2.here hx hby (1 : Int32) d_method_2_13 rfl rfl ?_
  refine m_iloadN K X2.here hx hby d_method_2_14 rfl rfl ?_
  refine m_ishl K X2.here hx hby (1 : Int32) d_method_2_15 rfl rfl ?_
  refine k_callS K X2 hx hby hZ [(.int (1 : Int32))] [(.ref b1)] hown (hw _ (List.mem_of_getElem? (i := 30) rfl)) (hw _ (List.mem_of_getElem? (i := 31) rfl)) (hw _ (List.mem_of_getElem? (i := 32) rfl)) (hw _ (List.mem_of_getElem? (i := 33) rfl)) (cvo0 l Z a0 hw ca bx s0 T2.heap n0 (Nat.le_trans Z0 (Nat.le_trans (Nat.le_trans (Nat.le_refl _) E1.1) K2.1)) S_Integer_IntegerCache_high S_Integer_IntegerCache_cache ((O0.ext E1).keep K2 (allS g_b1 all0)) ACA A7_0) rfl rfl rfl pd_13 rfl d_method_2_16 (by rw [hml]; rfl) rfl (by decide) (by decide) (Nat.le_of_ble_eq_true rfl) (by decide) (by decide) fun v3 T3 L3 X3 q3 => ?_
  obtain ⟨rfl, e3, rfl⟩ := q3
  replace X3 := own_px X3
  refine k_some K (w := (.ref s0)) ?_
  refine k_callV K X3 hx hby hZ b1 [(.ref s0)] [] hown (hw _ (List.mem_of_getElem? (i := 37) rfl)) (hw _ (List.mem_of_getElem? (i := 38) rfl)) (notFace_of_selects (args := #[]) (mvT hZ.wide (hw _ (List.mem_of_getElem? (i := 40) rfl)))) (hw _ (List.mem_of_getElem? (i := 40) rfl)) (hw _ (List.mem_of_getElem? (i := 39) rfl)) (hw _ (List.mem_of_getElem? (i := 2) rfl)) (hw _ (List.mem_of_getElem? (i := 41) rfl)) (c9i l Z a0 hw b1 s0 d1 T2.heap n0 (Nat.le_trans Z0 (Nat.le_trans (Nat.le_trans (Nat.le_refl _) E1.1) K2.1)) (A1.keep K2) ((E_s0.ext E1).keep K2) Fp2_0 Fp2_1 Fp2_2 ((A_d1.ext E1).keep K2 (ninS (Nat.ne_of_lt (Nat.lt_of_lt_of_le (Nat.lt_of_lt_of_le A_d1.lt (Nat.le_refl _)) (Nat.le_of_eq g1.symm))) nin0)) S_ArrayList_DEFAULTCAPACITY_EMPTY_ELEMENTDATA ((O0.ext E1).keep K2 (allS g_b1 all0)) g_b1 (Nat.ne_of_lt (Nat.lt_of_lt_of_le (Nat.lt_of_lt_of_le A_d1.lt (Nat.le_refl _)) (Nat.le_of_eq g1.symm)))) e3 (A1.keep K2) rfl rfl pd_14 rfl d_method_2_19 (by rw [hml]; rfl) rfl (by decide) (by decide) (Nat.le_of_ble_eq_true rfl) (by decide) (by decide) fun v4 T4 L4 X4 q4 => ?_
  obtain ⟨b4_ba, rfl, Nq4, K4, sq_b4_ba, Fp4_0, Fp4_1, Fp4_2, Ap4_0⟩ := q4
  have N4 := Fr.app N2 Nq4
  have sz_b4_ba : h0.size ≤ b4_ba := Nat.le_trans (Nat.le_trans (Nat.le_trans (Nat.le_refl _) E1.1) K2.1) sq_b4_ba
  have g_b4_ba : n0 ≤ b4_ba := Nat.le_trans Z0 sz_b4_ba
  refine k_some K (w := (.int (1 : Int32))) ?_
  refine m_pop K X4.here hx hby d_method_2_22 rfl rfl ?_
  refine m_aloadN K X4.here hx hby d_method_2_23 rfl rfl rfl ?_
  refine m_iconst K X4.here hx hby (1 : Int32) d_method_2_24 rfl rfl ?_
  refine m_iloadN K X4.here hx hby d_method_2_25 rfl rfl ?_
  refine m_iconst K X4.here hx hby (1 : Int32) d_method_2_26 rfl rfl ?_
  refine m_iadd K X4.here hx hby (1 : Int32) d_method_2_27 rfl rfl ?_
  refine m_ishl K X4.here hx hby (2 : Int32) d_method_2_28 rfl rfl ?_
  refine k_callS K X4 hx hby hZ [(.int (2 : Int32))] [(.ref b1)] hown (hw _ (List.mem_of_getElem? (i := 30) rfl)) (hw _ (List.mem_of_getElem? (i := 31) rfl)) (hw _ (List.mem_of_getElem? (i := 32) rfl)) (hw _ (List.mem_of_getElem? (i := 33) rfl)) (cvo1 l Z a0 hw ca bx s1 T4.heap n0 (Nat.le_trans Z0 (Nat.le_trans (Nat.le_trans (Nat.le_trans (Nat.le_refl _) E1.1) K2.1) K4.1)) S_Integer_IntegerCache_high S_Integer_IntegerCache_cache (((O0.ext E1).keep K2 (allS g_b1 all0)).keep K4 (allS g_b1 all0)) ACA A7_1) rfl rfl rfl pd_13 rfl d_method_2_29 (by rw [hml]; rfl) rfl (by decide) (by decide) (Nat.le_of_ble_eq_true rfl) (by decide) (by decide) fun v5 T5 L5 X5 q5 => ?_
  obtain ⟨rfl, e5, rfl⟩ := q5
  replace X5 := own_px X5
  refine k_some K (w := (.ref s1)) ?_
  refine k_callV K X5 hx hby hZ b1 [(.ref s1)] [] hown (hw _ (List.mem_of_getElem? (i := 37) rfl)) (hw _ (List.mem_of_getElem? (i := 38) rfl)) (notFace_of_selects (args := #[]) (mvT hZ.wide (hw _ (List.mem_of_getElem? (i := 40) rfl)))) (hw _ (List.mem_of_getElem? (i := 40) rfl)) (hw _ (List.mem_of_getElem? (i := 39) rfl)) (hw _ (List.mem_of_getElem? (i := 2) rfl)) (hw _ (List.mem_of_getElem? (i := 41) rfl)) (c9i1 l Z a0 hw b1 s1 b4_ba s0 T4.heap n0 (Nat.le_trans Z0 (Nat.le_trans (Nat.le_trans (Nat.le_trans (Nat.le_refl _) E1.1) K2.1) K4.1)) ((A1.keep K2).keep K4) (((E_s1.ext E1).keep K2).keep K4) Fp4_0 Fp4_1 Fp4_2 Ap4_0 g_b1 g_b4_ba (Nat.ne_of_lt (Nat.lt_of_lt_of_le (Nat.lt_of_lt_of_le A1.lt (Nat.le_trans (Nat.le_refl _) K2.1)) sq_b4_ba))) e5 ((A1.keep K2).keep K4) rfl rfl pd_14 rfl d_method_2_32 (by rw [hml]; rfl) rfl (by decide) (by decide) (Nat.le_of_ble_eq_true rfl) (by decide) (by decide) fun v6 T6 L6 X6 q6 => ?_
  obtain ⟨rfl, Nq6, K6, Fp6_0, Fp6_1, Fp6_2, Ap6_0⟩ := q6
  have N6 := Fr.app N4 Nq6
  refine k_some K (w := (.int (1 : Int32))) ?_
  refine m_pop K X6.here hx hby d_method_2_35 rfl rfl ?_
  refine m_aloadN K X6.here hx hby d_method_2_36 rfl rfl rfl ?_
  refine m_iconst K X6.here hx hby (1 : Int32) d_method_2_37 rfl rfl ?_
  refine m_iloadN K X6.here hx hby d_method_2_38 rfl rfl ?_
  refine m_iconst K X6.here hx hby (2 : Int32) d_method_2_39 rfl rfl ?_
  refine m_iadd K X6.here hx hby (2 : Int32) d_method_2_40 rfl rfl ?_
  refine m_ishl K X6.here hx hby (4 : Int32) d_method_2_41 rfl rfl ?_
  refine k_callS K X6 hx hby hZ [(.int (4 : Int32))] [(.ref b1)] hown (hw _ (List.mem_of_getElem? (i := 30) rfl)) (hw _ (List.mem_of_getElem? (i := 31) rfl)) (hw _ (List.mem_of_getElem? (i := 32) rfl)) (hw _ (List.mem_of_getElem? (i := 33) rfl)) (cvo2 l Z a0 hw ca bx s2 T6.heap n0 (Nat.le_trans Z0 (Nat.le_trans (Nat.le_trans (Nat.le_trans (Nat.le_trans (Nat.le_refl _) E1.1) K2.1) K4.1) K6.1)) S_Integer_IntegerCache_high S_Integer_IntegerCache_cache ((((O0.ext E1).keep K2 (allS g_b1 all0)).keep K4 (allS g_b1 all0)).keep K6 (allS g_b1 (allS g_b4_ba all0))) ACA A7_2) rfl rfl rfl pd_13 rfl d_method_2_42 (by rw [hml]; rfl) rfl (by decide) (by decide) (Nat.le_of_ble_eq_true rfl) (by decide) (by decide) fun v7 T7 L7 X7 q7 => ?_
  obtain ⟨rfl, e7, rfl⟩ := q7
  replace X7 := own_px X7
  refine k_some K (w := (.ref s2)) ?_
  refine k_callV K X7 hx hby hZ b1 [(.ref s2)] [] hown (hw _ (List.mem_of_getElem? (i := 37) rfl)) (hw _ (List.mem_of_getElem? (i := 38) rfl)) (notFace_of_selects (args := #[]) (mvT hZ.wide (hw _ (List.mem_of_getElem? (i := 40) rfl)))) (hw _ (List.mem_of_getElem? (i := 40) rfl)) (hw _ (List.mem_of_getElem? (i := 39) rfl)) (hw _ (List.mem_of_getElem? (i := 2) rfl)) (hw _ (List.mem_of_getElem? (i := 41) rfl)) (c9i2 l Z a0 hw b1 s2 b4_ba s0 s1 T6.heap n0 (Nat.le_trans Z0 (Nat.le_trans (Nat.le_trans (Nat.le_trans (Nat.le_trans (Nat.le_refl _) E1.1) K2.1) K4.1) K6.1)) (((A1.keep K2).keep K4).keep K6) ((((E_s2.ext E1).keep K2).keep K4).keep K6) Fp6_0 Fp6_1 Fp6_2 Ap6_0 g_b1 g_b4_ba (Nat.ne_of_lt (Nat.lt_of_lt_of_le (Nat.lt_of_lt_of_le A1.lt (Nat.le_trans (Nat.le_refl _) K2.1)) sq_b4_ba))) e7 (((A1.keep K2).keep K4).keep K6) rfl rfl pd_14 rfl d_method_2_45 (by rw [hml]; rfl) rfl (by decide) (by decide) (Nat.le_of_ble_eq_true rfl) (by decide) (by decide) fun v8 T8 L8 X8 q8 => ?_
  obtain ⟨rfl, Nq8, K8, Fp8_0, Fp8_1, Fp8_2, Ap8_0⟩ := q8
  have N8 := Fr.app N6 Nq8
  refine k_some K (w := (.int (1 : Int32))) ?_
  refine m_pop K X8.here hx hby d_method_2_48 rfl rfl ?_
  refine m_aloadN K X8.here hx hby d_method_2_49 rfl rfl rfl ?_
  refine m_iconst K X8.here hx hby (1 : Int32) d_method_2_50 rfl rfl ?_
  refine m_iloadN K X8.here hx hby d_method_2_51 rfl rfl ?_
  refine m_iconst K X8.here hx hby (3 : Int32) d_method_2_52 rfl rfl ?_
  refine m_iadd K X8.here hx hby (3 : Int32) d_method_2_53 rfl rfl ?_
  refine m_ishl K X8.here hx hby (8 : Int32) d_method_2_54 rfl rfl ?_
  refine k_callS K X8 hx hby hZ [(.int (8 : Int32))] [(.ref b1)] hown (hw _ (List.mem_of_getElem? (i := 30) rfl)) (hw _ (List.mem_of_getElem? (i := 31) rfl)) (hw _ (List.mem_of_getElem? (i := 32) rfl)) (hw _ (List.mem_of_getElem? (i := 33) rfl)) (cvo3 l Z a0 hw ca bx s3 T8.heap n0 (Nat.le_trans Z0 (Nat.le_trans (Nat.le_trans (Nat.le_trans (Nat.le_trans (Nat.le_trans (Nat.le_refl _) E1.1) K2.1) K4.1) K6.1) K8.1)) S_Integer_IntegerCache_high S_Integer_IntegerCache_cache (((((O0.ext E1).keep K2 (allS g_b1 all0)).keep K4 (allS g_b1 all0)).keep K6 (allS g_b1 (allS g_b4_ba all0))).keep K8 (allS g_b1 (allS g_b4_ba all0))) ACA A7_3) rfl rfl rfl pd_13 rfl d_method_2_55 (by rw [hml]; rfl) rfl (by decide) (by decide) (Nat.le_of_ble_eq_true rfl) (by decide) (by decide) fun v9 T9 L9 X9 q9 => ?_
  obtain ⟨rfl, e9, rfl⟩ := q9
  replace X9 := own_px X9
  refine k_some K (w := (.ref s3)) ?_
  refine k_callV K X9 hx hby hZ b1 [(.ref s3)] [] hown (hw _ (List.mem_of_getElem? (i := 37) rfl)) (hw _ (List.mem_of_getElem? (i := 38) rfl)) (notFace_of_selects (args := #[]) (mvT hZ.wide (hw _ (List.mem_of_getElem? (i := 40) rfl)))) (hw _ (List.mem_of_getElem? (i := 40) rfl)) (hw _ (List.mem_of_getElem? (i := 39) rfl)) (hw _ (List.mem_of_getElem? (i := 2) rfl)) (hw _ (List.mem_of_getElem? (i := 41) rfl)) (c9i3 l Z a0 hw b1 s3 b4_ba s0 s1 s2 T8.heap n0 (Nat.le_trans Z0 (Nat.le_trans (Nat.le_trans (Nat.le_trans (Nat.le_trans (Nat.le_trans (Nat.le_refl _) E1.1) K2.1) K4.1) K6.1) K8.1)) ((((A1.keep K2).keep K4).keep K6).keep K8) (((((E_s3.ext E1).keep K2).keep K4).keep K6).keep K8) Fp8_0 Fp8_1 Fp8_2 Ap8_0 g_b1 g_b4_ba (Nat.ne_of_lt (Nat.lt_of_lt_of_le (Nat.lt_of_lt_of_le A1.lt (Nat.le_trans (Nat.le_refl _) K2.1)) sq_b4_ba))) e9 ((((A1.keep K2).keep K4).keep K6).keep K8) rfl rfl pd_14 rfl d_method_2_58 (by rw [hml]; rfl) rfl (by decide) (by decide) (Nat.le_of_ble_eq_true rfl) (by decide) (by decide) fun v10 T10 L10 X10 q10 => ?_
  obtain ⟨rfl, Nq10, K10, Fp10_0, Fp10_1, Fp10_2, Ap10_0⟩ := q10
  have N10 := Fr.app N8 Nq10
  refine k_some K (w := (.int (1 : Int32))) ?_
  refine m_pop K X10.here hx hby d_method_2_61 rfl rfl ?_
  refine m_aloadN K X10.here hx hby d_method_2_62 rfl rfl rfl ?_
  refine m_iconst K X10.here hx hby (1 : Int32) d_method_2_63 rfl rfl ?_
  refine m_iloadN K X10.here hx hby d_method_2_64 rfl rfl ?_
  refine m_iconst K X10.here hx hby (4 : Int32) d_method_2_65 rfl rfl ?_
  refine m_iadd K X10.here hx hby (4 : Int32) d_method_2_66 rfl rfl ?_
  refine m_ishl K X10.here hx hby (16 : Int32) d_method_2_67 rfl rfl ?_
  refine k_callS K X10 hx hby hZ [(.int (16 : Int32))] [(.ref b1)] hown (hw _ (List.mem_of_getElem? (i := 30) rfl)) (hw _ (List.mem_of_getElem? (i := 31) rfl)) (hw _ (List.mem_of_getElem? (i := 32) rfl)) (hw _ (List.mem_of_getElem? (i := 33) rfl)) (cvo4 l Z a0 hw ca bx s4 T10.heap n0 (Nat.le_trans Z0 (Nat.le_trans (Nat.le_trans (Nat.le_trans (Nat.le_trans (Nat.le_trans (Nat.le_trans (Nat.le_refl _) E1.1) K2.1) K4.1) K6.1) K8.1) K10.1)) S_Integer_IntegerCache_high S_Integer_IntegerCache_cache ((((((O0.ext E1).keep K2 (allS g_b1 all0)).keep K4 (allS g_b1 all0)).keep K6 (allS g_b1 (allS g_b4_ba all0))).keep K8 (allS g_b1 (allS g_b4_ba all0))).keep K10 (allS g_b1 (allS g_b4_ba all0))) ACA A7_4) rfl rfl rfl pd_13 rfl d_method_2_68 (by rw [hml]; rfl) rfl (by decide) (by decide) (Nat.le_of_ble_eq_true rfl) (by decide) (by decide) fun v11 T11 L11 X11 q11 => ?_
  obtain ⟨rfl, e11, rfl⟩ := q11
  replace X11 := own_px X11
  refine k_some K (w := (.ref s4)) ?_
  refine k_callV K X11 hx hby hZ b1 [(.ref s4)] [] hown (hw _ (List.mem_of_getElem? (i := 37) rfl)) (hw _ (List.mem_of_getElem? (i := 38) rfl)) (notFace_of_selects (args := #[]) (mvT hZ.wide (hw _ (List.mem_of_getElem? (i := 40) rfl)))) (hw _ (List.mem_of_getElem? (i := 40) rfl)) (hw _ (List.mem_of_getElem? (i := 39) rfl)) (hw _ (List.mem_of_getElem? (i := 2) rfl)) (hw _ (List.mem_of_getElem? (i := 41) rfl)) (c9i4 l Z a0 hw b1 s4 b4_ba s0 s1 s2 s3 T10.heap n0 (Nat.le_trans Z0 (Nat.le_trans (Nat.le_trans (Nat.le_trans (Nat.le_trans (Nat.le_trans (Nat.le_trans (Nat.le_refl _) E1.1) K2.1) K4.1) K6.1) K8.1) K10.1)) (((((A1.keep K2).keep K4).keep K6).keep K8).keep K10) ((((((E_s4.ext E1).keep K2).keep K4).keep K6).keep K8).keep K10) Fp10_0 Fp10_1 Fp10_2 Ap10_0 g_b1 g_b4_ba (Nat.ne_of_lt (Nat.lt_of_lt_of_le (Nat.lt_of_lt_of_le A1.lt (Nat.le_trans (Nat.le_refl _) K2.1)) sq_b4_ba))) e11 (((((A1.keep K2).keep K4).keep K6).keep K8).keep K10) rfl rfl pd_14 rfl d_method_2_71 (by rw [hml]; rfl) rfl (by decide) (by decide) (Nat.le_of_ble_eq_true rfl) (by decide) (by decide) fun v12 T12 L12 X12 q12 => ?_
  obtain ⟨rfl, Nq12, K12, Fp12_0, Fp12_1, Fp12_2, Ap12_0⟩ := q12
  have N12 := Fr.app N10 Nq12
  refine k_some K (w := (.int (1 : Int32))) ?_
  refine m_pop K X12.here hx hby d_method_2_74 rfl rfl ?_
  refine m_aloadN K X12.here hx hby d_method_2_75 rfl rfl rfl ?_
  exact Go.retO X12 hx hby hlk hret rfl (Or.inr (Or.inr (Or.inr (Or.inr ⟨rfl, rfl, rfl⟩)))) d_method_2_76 (by decide) (by decide) (⟨b1, rfl, N12, ((((((((Keep.refl h0 []).ext E1).trans K2 (allS (Or.inr sz_b1) all0)).trans K4 (allS (Or.inr sz_b1) all0)).trans K6 (allS (Or.inr sz_b1) (allS (Or.inr sz_b4_ba) all0))).trans K8 (allS (Or.inr sz_b1) (allS (Or.inr sz_b4_ba) all0))).trans K10 (allS (Or.inr sz_b1) (allS (Or.inr sz_b4_ba) all0))).trans K12 (allS (Or.inr sz_b1) (allS (Or.inr sz_b4_ba) all0))), sz_b1, ((((((A1.keep K2).keep K4).keep K6).keep K8).keep K10).keep K12), ⟨b4_ba, s0, s1, s2, s3, s4, ((((((A1.keep K2).keep K4).keep K6).keep K8).keep K10).keep K12), Fp12_2, Fp12_1, (Ap12_0).av, (((((((E_s0.ext E1).keep K2).keep K4).keep K6).keep K8).keep K10).keep K12), (((((((F_value_s0.ext E1).keep K2 (ninS (Nat.ne_of_lt (Nat.lt_of_lt_of_le (Nat.lt_of_lt_of_le E_s0.lt (Nat.le_refl _)) (Nat.le_of_eq g1.symm))) nin0)).keep K4 (ninS (Nat.ne_of_lt (Nat.lt_of_lt_of_le (Nat.lt_of_lt_of_le E_s0.lt (Nat.le_refl _)) (Nat.le_of_eq g1.symm))) nin0)).keep K6 (ninS (Nat.ne_of_lt (Nat.lt_of_lt_of_le (Nat.lt_of_lt_of_le E_s0.lt (Nat.le_refl _)) (Nat.le_of_eq g1.symm))) (ninS (Nat.ne_of_lt (Nat.lt_of_lt_of_le (Nat.lt_of_lt_of_le E_s0.lt (Nat.le_trans (Nat.le_trans (Nat.le_refl _) E1.1) K2.1)) sq_b4_ba)) nin0))).keep K8 (ninS (Nat.ne_of_lt (Nat.lt_of_lt_of_le (Nat.lt_of_lt_of_le E_s0.lt (Nat.le_refl _)) (Nat.le_of_eq g1.symm))) (ninS (Nat.ne_of_lt (Nat.lt_of_lt_of_le (Nat.lt_of_lt_of_le E_s0.lt (Nat.le_trans (Nat.le_trans (Nat.le_refl _) E1.1) K2.1)) sq_b4_ba)) nin0))).keep K10 (ninS (Nat.ne_of_lt (Nat.lt_of_lt_of_le (Nat.lt_of_lt_of_le E_s0.lt (Nat.le_refl _)) (Nat.le_of_eq g1.symm))) (ninS (Nat.ne_of_lt (Nat.lt_of_lt_of_le (Nat.lt_of_lt_of_le E_s0.lt (Nat.le_trans (Nat.le_trans (Nat.le_refl _) E1.1) K2.1)) sq_b4_ba)) nin0))).keep K12 (ninS (Nat.ne_of_lt (Nat.lt_of_lt_of_le (Nat.lt_of_lt_of_le E_s0.lt (Nat.le_refl _)) (Nat.le_of_eq g1.symm))) (ninS (Nat.ne_of_lt (Nat.lt_of_lt_of_le (Nat.lt_of_lt_of_le E_s0.lt (Nat.le_trans (Nat.le_trans (Nat.le_refl _) E1.1) K2.1)) sq_b4_ba)) nin0))), (((((((E_s1.ext E1).keep K2).keep K4).keep K6).keep K8).keep K10).keep K12), (((((((F_value_s1.ext E1).keep K2 (ninS (Nat.ne_of_lt (Nat.lt_of_lt_of_le (Nat.lt_of_lt_of_le E_s1.lt (Nat.le_refl _)) (Nat.le_of_eq g1.symm))) nin0)).keep K4 (ninS (Nat.ne_of_lt (Nat.lt_of_lt_of_le (Nat.lt_of_lt_of_le E_s1.lt (Nat.le_refl _)) (Nat.le_of_eq g1.symm))) nin0)).keep K6 (ninS (Nat.ne_of_lt (Nat.lt_of_lt_of_le (Nat.lt_of_lt_of_le E_s1.lt (Nat.le_refl _)) (Nat.le_of_eq g1.symm))) (ninS (Nat.ne_of_lt (Nat.lt_of_lt_of_le (Nat.lt_of_lt_of_le E_s1.lt (Nat.le_trans (Nat.le_trans (Nat.le_refl _) E1.1) K2.1)) sq_b4_ba)) nin0))).keep K8 (ninS (Nat.ne_of_lt (Nat.lt_of_lt_of_le (Nat.lt_of_lt_of_le E_s1.lt (Nat.le_refl _)) (Nat.le_of_eq g1.symm))) (ninS (Nat.ne_of_lt (Nat.lt_of_lt_of_le (Nat.lt_of_lt_of_le E_s1.lt (Nat.le_trans (Nat.le_trans (Nat.le_refl _) E1.1) K2.1)) sq_b4_ba)) nin0))).keep K10 (ninS (Nat.ne_of_lt (Nat.lt_of_lt_of_le (Nat.lt_of_lt_of_le E_s1.lt (Nat.le_refl _)) (Nat.le_of_eq g1.symm))) (ninS (Nat.ne_of_lt (Nat.lt_of_lt_of_le (Nat.lt_of_lt_of_le E_s1.lt (Nat.le_trans (Nat.le_trans (Nat.le_refl _) E1.1) K2.1)) sq_b4_ba)) nin0))).keep K12 (ninS (Nat.ne_of_lt (Nat.lt_of_lt_of_le (Nat.lt_of_lt_of_le E_s1.lt (Nat.le_refl _)) (Nat.le_of_eq g1.symm))) (ninS (Nat.ne_of_lt (Nat.lt_of_lt_of_le (Nat.lt_of_lt_of_le E_s1.lt (Nat.le_trans (Nat.le_trans (Nat.le_refl _) E1.1) K2.1)) sq_b4_ba)) nin0))), (((((((E_s2.ext E1).keep K2).keep K4).keep K6).keep K8).keep K10).keep K12), (((((((F_value_s2.ext E1).keep K2 (ninS (Nat.ne_of_lt (Nat.lt_of_lt_of_le (Nat.lt_of_lt_of_le E_s2.lt (Nat.le_refl _)) (Nat.le_of_eq g1.symm))) nin0)).keep K4 (ninS (Nat.ne_of_lt (Nat.lt_of_lt_of_le (Nat.lt_of_lt_of_le E_s2.lt (Nat.le_refl _)) (Nat.le_of_eq g1.symm))) nin0)).keep K6 (ninS (Nat.ne_of_lt (Nat.lt_of_lt_of_le (Nat.lt_of_lt_of_le E_s2.lt (Nat.le_refl _)) (Nat.le_of_eq g1.symm))) (ninS (Nat.ne_of_lt (Nat.lt_of_lt_of_le (Nat.lt_of_lt_of_le E_s2.lt (Nat.le_trans (Nat.le_trans (Nat.le_refl _) E1.1) K2.1)) sq_b4_ba)) nin0))).keep K8 (ninS (Nat.ne_of_lt (Nat.lt_of_lt_of_le (Nat.lt_of_lt_of_le E_s2.lt (Nat.le_refl _)) (Nat.le_of_eq g1.symm))) (ninS (Nat.ne_of_lt (Nat.lt_of_lt_of_le (Nat.lt_of_lt_of_le E_s2.lt (Nat.le_trans (Nat.le_trans (Nat.le_refl _) E1.1) K2.1)) sq_b4_ba)) nin0))).keep K10 (ninS (Nat.ne_of_lt (Nat.lt_of_lt_of_le (Nat.lt_of_lt_of_le E_s2.lt (Nat.le_refl _)) (Nat.le_of_eq g1.symm))) (ninS (Nat.ne_of_lt (Nat.lt_of_lt_of_le (Nat.lt_of_lt_of_le E_s2.lt (Nat.le_trans (Nat.le_trans (Nat.le_refl _) E1.1) K2.1)) sq_b4_ba)) nin0))).keep K12 (ninS (Nat.ne_of_lt (Nat.lt_of_lt_of_le (Nat.lt_of_lt_of_le E_s2.lt (Nat.le_refl _)) (Nat.le_of_eq g1.symm))) (ninS (Nat.ne_of_lt (Nat.lt_of_lt_of_le (Nat.lt_of_lt_of_le E_s2.lt (Nat.le_trans (Nat.le_trans (Nat.le_refl _) E1.1) K2.1)) sq_b4_ba)) nin0))), (((((((E_s3.ext E1).keep K2).keep K4).keep K6).keep K8).keep K10).keep K12), (((((((F_value_s3.ext E1).keep K2 (ninS (Nat.ne_of_lt (Nat.lt_of_lt_of_le (Nat.lt_of_lt_of_le E_s3.lt (Nat.le_refl _)) (Nat.le_of_eq g1.symm))) nin0)).keep K4 (ninS (Nat.ne_of_lt (Nat.lt_of_lt_of_le (Nat.lt_of_lt_of_le E_s3.lt (Nat.le_refl _)) (Nat.le_of_eq g1.symm))) nin0)).keep K6 (ninS (Nat.ne_of_lt (Nat.lt_of_lt_of_le (Nat.lt_of_lt_of_le E_s3.lt (Nat.le_refl _)) (Nat.le_of_eq g1.symm))) (ninS (Nat.ne_of_lt (Nat.lt_of_lt_of_le (Nat.lt_of_lt_of_le E_s3.lt (Nat.le_trans (Nat.le_trans (Nat.le_refl _) E1.1) K2.1)) sq_b4_ba)) nin0))).keep K8 (ninS (Nat.ne_of_lt (Nat.lt_of_lt_of_le (Nat.lt_of_lt_of_le E_s3.lt (Nat.le_refl _)) (Nat.le_of_eq g1.symm))) (ninS (Nat.ne_of_lt (Nat.lt_of_lt_of_le (Nat.lt_of_lt_of_le E_s3.lt (Nat.le_trans (Nat.le_trans (Nat.le_refl _) E1.1) K2.1)) sq_b4_ba)) nin0))).keep K10 (ninS (Nat.ne_of_lt (Nat.lt_of_lt_of_le (Nat.lt_of_lt_of_le E_s3.lt (Nat.le_refl _)) (Nat.le_of_eq g1.symm))) (ninS (Nat.ne_of_lt (Nat.lt_of_lt_of_le (Nat.lt_of_lt_of_le E_s3.lt (Nat.le_trans (Nat.le_trans (Nat.le_refl _) E1.1) K2.1)) sq_b4_ba)) nin0))).keep K12 (ninS (Nat.ne_of_lt (Nat.lt_of_lt_of_le (Nat.lt_of_lt_of_le E_s3.lt (Nat.le_refl _)) (Nat.le_of_eq g1.symm))) (ninS (Nat.ne_of_lt (Nat.lt_of_lt_of_le (Nat.lt_of_lt_of_le E_s3.lt (Nat.le_trans (Nat.le_trans (Nat.le_refl _) E1.1) K2.1)) sq_b4_ba)) nin0))), (((((((E_s4.ext E1).keep K2).keep K4).keep K6).keep K8).keep K10).keep K12), (((((((F_value_s4.ext E1).keep K2 (ninS (Nat.ne_of_lt (Nat.lt_of_lt_of_le (Nat.lt_of_lt_of_le E_s4.lt (Nat.le_refl _)) (Nat.le_of_eq g1.symm))) nin0)).keep K4 (ninS (Nat.ne_of_lt (Nat.lt_of_lt_of_le (Nat.lt_of_lt_of_le E_s4.lt (Nat.le_refl _)) (Nat.le_of_eq g1.symm))) nin0)).keep K6 (ninS (Nat.ne_of_lt (Nat.lt_of_lt_of_le (Nat.lt_of_lt_of_le E_s4.lt (Nat.le_refl _)) (Nat.le_of_eq g1.symm))) (ninS (Nat.ne_of_lt (Nat.lt_of_lt_of_le (Nat.lt_of_lt_of_le E_s4.lt (Nat.le_trans (Nat.le_trans (Nat.le_refl _) E1.1) K2.1)) sq_b4_ba)) nin0))).keep K8 (ninS (Nat.ne_of_lt (Nat.lt_of_lt_of_le (Nat.lt_of_lt_of_le E_s4.lt (Nat.le_refl _)) (Nat.le_of_eq g1.symm))) (ninS (Nat.ne_of_lt (Nat.lt_of_lt_of_le (Nat.lt_of_lt_of_le E_s4.lt (Nat.le_trans (Nat.le_trans (Nat.le_refl _) E1.1) K2.1)) sq_b4_ba)) nin0))).keep K10 (ninS (Nat.ne_of_lt (Nat.lt_of_lt_of_le (Nat.lt_of_lt_of_le E_s4.lt (Nat.le_refl _)) (Nat.le_of_eq g1.symm))) (ninS (Nat.ne_of_lt (Nat.lt_of_lt_of_le (Nat.lt_of_lt_of_le E_s4.lt (Nat.le_trans (Nat.le_trans (Nat.le_refl _) E1.1) K2.1)) sq_b4_ba)) nin0))).keep K12 (ninS (Nat.ne_of_lt (Nat.lt_of_lt_of_le (Nat.lt_of_lt_of_le E_s4.lt (Nat.le_refl _)) (Nat.le_of_eq g1.symm))) (ninS (Nat.ne_of_lt (Nat.lt_of_lt_of_le (Nat.lt_of_lt_of_le E_s4.lt (Nat.le_trans (Nat.le_trans (Nat.le_refl _) E1.1) K2.1)) sq_b4_ba)) nin0))), (Or.inr ⟨sz_b1, (((((((A1.keep K2).keep K4).keep K6).keep K8).keep K10).keep K12)).lt⟩), (Or.inr ⟨sz_b4_ba, (Ap12_0).lt⟩), (Or.inl hs0), (Or.inl hs1), (Or.inl hs2), (Or.inl hs3), (Or.inl hs4)⟩⟩)
theorem efcol1 (m : MethodId) (x0 : Int32) : entryFrame m #[(.int x0)] 3 = mkF m 0 #[.val (.int x0), .unset, .unset] [] := by first | (simp [entryFrame, mkF, argsToLocals, Value.category]; done) | rfl
set_option maxRecDepth 65536 in
set_option maxHeartbeats 40000000 in
theorem ccol1 (l : Launch) (Z : State) (a0 : Array Value) (hw : ∀ d ∈ tables_1, d.before a0 Z = true) (d1 : Addr) (ca : Addr) (bx : (List Value)) (s5 : Addr) (s6 : Addr) (h0 : Heap) (n0 : Nat) (Z0 : n0 ≤ h0.size) (E_s5 : Exa Z h0 s5 "java/lang/Integer") (E_s6 : Exa Z h0 s6 "java/lang/Integer") (F_value_s5 : Fld Z h0 s5 "java/lang/Integer" "value" "I" (.int (32 : Int32))) (F_value_s6 : Fld Z h0 s6 "java/lang/Integer" "value" "I" (.int (64 : Int32))) (A_d1 : Av Z h0 d1 (.object "java/lang/Object") []) (S_ArrayList_DEFAULTCAPACITY_EMPTY_ELEMENTDATA : Sta Z Z.heap "java/util/ArrayList" "DEFAULTCAPACITY_EMPTY_ELEMENTDATA" "[Ljava/lang/Object;" (.ref d1)) (S_Integer_IntegerCache_high : Sta Z Z.heap "java/lang/Integer$IntegerCache" "high" "I" (.int (127 : Int32))) (S_Integer_IntegerCache_cache : Sta Z Z.heap "java/lang/Integer$IntegerCache" "cache" "[Ljava/lang/Integer;" (.ref ca)) (O0 : Old Z n0 h0) (ACA : Av Z Z.heap ca (.object "java/lang/Integer") bx) (A7_5 : bx[160]? = some (.ref s5)) (A7_6 : bx[192]? = some (.ref s6)) (hs5 : s5 < n0) (hs6 : s6 < n0) :
    Con l Z (⟨"com/example/craterworks/craterworks/SharesStationTakePinLaw", "column", "(I)Ljava/util/List;"⟩ : MethodName) method_2_code 3 (some (.object "java/util/List")) ({ frames := 5, cells := 5, slots := 16, locals := 69 } : Room) [] #[(.int (1 : Int32))] h0 (fun v h L => ∃ b : Addr, v = some (.ref b) ∧ Fr n0 L ∧ Keep h0 h [] ∧ h0.size ≤ b ∧ Exa Z h b "java/util/ArrayList" ∧ Lc Z h n0 h0.size h.size b 32 64 128 256 512) := by
  refine Con.of (plainFor_of_name pn_com_example_craterworks_craterworks_SharesStationTakePinLaw) #[.val (.int (1 : Int32)), .unset, .unset] (fun m => efcol1 m (1 : Int32)) ?_
  intro p e s m below meth c s₁ K hx hby hml hown hnm hret hlk hZ X0 e0 hnd
  have N0 := Fr.nil n0
  refine k_newO K X0 hx hby hZ hown (hw _ (List.mem_of_getElem? (i := 0) rfl)) (hw _ (List.mem_of_getElem? (i := 1) rfl)) (hw _ (List.mem_of_getElem? (i := 2) rfl)) e0 d_method_2_0 rfl (by decide) (by decide) fun T1 h1 b1 X1 e1 E1 g1 A1 D1 => ?_
  have sz_b1 : h0.size ≤ b1 := Nat.le_trans (Nat.le_refl _) (Nat.le_of_eq g1.symm)
  have g_b1 : n0 ≤ b1 := Nat.le_trans Z0 sz_b1
  have F_modCount_b1 : Fld Z h1 b1 "java/util/AbstractList" "modCount" "I" (.int (0 : Int32)) := D1 (Or.inl (hw _ (List.mem_of_getElem? (i := 22) rfl))) (ty := .int) (by decide)
  have F_elementData_b1 : Fld Z h1 b1 "java/util/ArrayList" "elementData" "[Ljava/lang/Object;" .null := D1 (Or.inl (hw _ (List.mem_of_getElem? (i := 25) rfl))) (ty := (.array (.object "java/lang/Object"))) (by decide)
  have F_size_b1 : Fld Z h1 b1 "java/util/ArrayList" "size" "I" (.int (0 : Int32)) := D1 (Or.inl (hw _ (List.mem_of_getElem? (i := 45) rfl))) (ty := .int) (by decide)
  refine m_dup K X1.here hx hby d_method_2_3 rfl rfl ?_
  refine k_callP K X1 hx hby hZ b1 [] [(.ref b1)] hown (hw _ (List.mem_of_getElem? (i := 3) rfl)) (hw _ (List.mem_of_getElem? (i := 4) rfl)) (hw _ (List.mem_of_getElem? (i := 2) rfl)) (hw _ (List.mem_of_getElem? (i := 5) rfl)) rfl (c1 l Z a0 hw b1 (0 : Int32) d1 h1 n0 (Nat.le_trans Z0 (Nat.le_trans (Nat.le_refl _) E1.1)) A1 F_modCount_b1 F_elementData_b1 F_size_b1 S_ArrayList_DEFAULTCAPACITY_EMPTY_ELEMENTDATA (O0.ext E1) g_b1) e1 rfl rfl pd_8 rfl d_method_2_4 (by rw [hml]; rfl) rfl (by decide) (by decide) (Nat.le_of_ble_eq_true rfl) (by decide) (by decide) fun v2 T2 L2 X2 q2 => ?_
  obtain ⟨rfl, Nq2, K2, Fp2_0, Fp2_1, Fp2_2⟩ := q2
  have N2 := Fr.app N0 Nq2
  refine k_none K ?_
  refine m_astoreN K X2.here hx hby #[.val (.int (1 : Int32)), .val (.ref b1), .unset] d_method_2_7 rfl rfl rfl ?_
  refine m_iconst K X2.here hx hby (5 : Int32) d_method_2_8 rfl rfl ?_
  refine m_iloadN K X2.here hx hby d_method_2_9 rfl rfl ?_
  refine m_imul K X2.here hx hby (5 : Int32) d_method_2_10 rfl rfl ?_
  refine m_istoreN K X2.here hx hby #[.val (.int (1 : Int32)), .val (.ref b1), .val (.int (5 : Int32))] d_method_2_11 rfl rfl ?_
  refine m_aloadN K X2.here hx hby d_method_2_12 rfl rfl rfl ?_
  refine m_iconst K X2.here hx hby (1 : Int32) d_method_2_13 rfl rfl ?_
  refine m_iloadN K X2.here hx hby d_method_2_14 rfl rfl ?_
  refine m_ishl K X2.here hx hby (32 : Int32) d_method_2_15 rfl rfl ?_
  refine k_callS K X2 hx hby hZ [(.int (32 : Int32))] [(.ref b1)] hown (hw _ (List.mem_of_getElem? (i := 30) rfl)) (hw _ (List.mem_of_getElem? (i := 31) rfl)) (hw _ (List.mem_of_getElem? (i := 32) rfl)) (hw _ (List.mem_of_getElem? (i := 33) rfl)) (cvo5 l Z a0 hw ca bx s5 T2.heap n0 (Nat.le_trans Z0 (Nat.le_trans (Nat.le_trans (Nat.le_refl _) E1.1) K2.1)) S_Integer_IntegerCache_high S_Integer_IntegerCache_cache ((O0.ext E1).keep K2 (allS g_b1 all0)) ACA A7_5) rfl rfl rfl pd_13 rfl d_method_2_16 (by rw [hml]; rfl) rfl (by decide) (by decide) (Nat.le_of_ble_eq_true rfl) (by decide) (by decide) fun v3 T3 L3 X3 q3 => ?_
  obtain ⟨rfl, e3, rfl⟩ := q3
  replace X3 := own_px X3
  refine k_some K (w := (.ref s5)) ?_
  refine k_callV K X3 hx hby hZ b1 [(.ref s5)] [] hown (hw _ (List.mem_of_getElem? (i := 37) rfl)) (hw _ (List.mem_of_getElem? (i := 38) rfl)) (notFace_of_selects (args := #[]) (mvT hZ.wide (hw _ (List.mem_of_getElem? (i := 40) rfl)))) (hw _ (List.mem_of_getElem? (i := 40) rfl)) (hw _ (List.mem_of_getElem? (i := 39) rfl)) (hw _ (List.mem_of_getElem? (i := 2) rfl)) (hw _ (List.mem_of_getElem? (i := 41) rfl)) (c9i l Z a0 hw b1 s5 d1 T2.heap n0 (Nat.le_trans Z0 (Nat.le_trans (Nat.le_trans (Nat.le_refl _) E1.1) K2.1)) (A1.keep K2) ((E_s5.ext E1).keep K2) Fp2_0 Fp2_1 Fp2_2 ((A_d1.ext E1).keep K2 (ninS (Nat.ne_of_lt (Nat.lt_of_lt_of_le (Nat.lt_of_lt_of_le A_d1.lt (Nat.le_refl _)) (Nat.le_of_eq g1.symm))) nin0)) S_ArrayList_DEFAULTCAPACITY_EMPTY_ELEMENTDATA ((O0.ext E1).keep K2 (allS g_b1 all0)) g_b1 (Nat.ne_of_lt (Nat.lt_of_lt_of_le (Nat.lt_of_lt_of_le A_d1.lt (Nat.le_refl _)) (Nat.le_of_eq g1.symm)))) e3 (A1.keep K2) rfl rfl pd_14 rfl d_method_2_19 (by rw [hml]; rfl) rfl (by decide) (by decide) (Nat.le_of_ble_eq_true rfl) (by decide) (by decide) fun v4 T4 L4 X4 q4 => ?_
  obtain ⟨b4_ba, rfl, Nq4, K4, sq_b4_ba, Fp4_0, Fp4_1, Fp4_2, Ap4_0⟩ := q4
  have N4 := Fr.app N2 Nq4
  have sz_b4_ba : h0.size ≤ b4_ba := Nat.le_trans (Nat.le_trans (Nat.le_trans (Nat.le_refl _) E1.1) K2.1) sq_b4_ba
  have g_b4_ba : n0 ≤ b4_ba := Nat.le_trans Z0 sz_b4_ba
  refine k_some K (w := (.int (1 : Int32))) ?_
  refine m_pop K X4.here hx hby d_method_2_22 rfl rfl ?_
  refine m_aloadN K X4.here hx hby d_method_2_23 rfl rfl rfl ?_
  refine m_iconst K X4.here hx hby (1 : Int32) d_method_2_24 rfl rfl ?_
  refine m_iloadN K X4.here hx hby d_method_2_25 rfl rfl ?_
  refine m_iconst K X4.here hx hby (1 : Int32) d_method_2_26 rfl rfl ?_
  refine m_iadd K X4.here hx hby (6 : Int32) d_method_2_27 rfl rfl ?_
  refine m_ishl K X4.here hx hby (64 : Int32) d_method_2_28 rfl rfl ?_
  refine k_callS K X4 hx hby hZ [(.int (64 : Int32))] [(.ref b1)] hown (hw _ (List.mem_of_getElem? (i := 30) rfl)) (hw _ (List.mem_of_getElem? (i := 31) rfl)) (hw _ (List.mem_of_getElem? (i := 32) rfl)) (hw _ (List.mem_of_getElem? (i := 33) rfl)) (cvo6 l Z a0 hw ca bx s6 T4.heap n0 (Nat.le_trans Z0 (Nat.le_trans (Nat.le_trans (Nat.le_trans (Nat.le_refl _) E1.1) K2.1) K4.1)) S_Integer_IntegerCache_high S_Integer_IntegerCache_cache (((O0.ext E1).keep K2 (allS g_b1 all0)).keep K4 (allS g_b1 all0)) ACA A7_6) rfl rfl rfl pd_13 rfl d_method_2_29 (by rw [hml]; rfl) rfl (by decide) (by decide) (Nat.le_of_ble_eq_true rfl) (by decide) (by decide) fun v5 T5 L5 X5 q5 => ?_
  obtain ⟨rfl, e5, rfl⟩ := q5
  replace X5 := own_px X5
  refine k_some K (w := (.ref s6)) ?_
  refine k_callV K X5 hx hby hZ b1 [(.ref s6)] [] hown (hw _ (List.mem_of_getElem? (i := 37) rfl)) (hw _ (List.mem_of_getElem? (i := 38) rfl)) (notFace_of_selects (args := #[]) (mvT hZ.wide (hw _ (List.mem_of_getElem? (i := 40) rfl)))) (hw _ (List.mem_of_getElem? (i := 40) rfl)) (hw _ (List.mem_of_getElem? (i := 39) rfl)) (hw _ (List.mem_of_getElem? (i := 2) rfl)) (hw _ (List.mem_of_getElem? (i := 41) rfl)) (c9i1 l Z a0 hw b1 s6 b4_ba s5 T4.heap n0 (Nat.le_trans Z0 (Nat.le_trans (Nat.le_trans (Nat.le_trans (Nat.le_refl _) E1.1) K2.1) K4.1)) ((A1.keep K2).keep K4) (((E_s6.ext E1).keep K2).keep K4) Fp4_0 Fp4_1 Fp4_2 Ap4_0 g_b1 g_b4_ba (Nat.ne_of_lt (Nat.lt_of_lt_of_le (Nat.lt_of_lt_of_le A1.lt (Nat.le_trans (Nat.le_refl _) K2.1)) sq_b4_ba))) e5 ((A1.keep K2).keep K4) rfl rfl pd_14 rfl d_method_2_32 (by rw [hml]; rfl) rfl (by decide) (by decide) (Nat.le_of_ble_eq_true rfl) (by decide) (by decide) fun v6 T6 L6 X6 q6 => ?_
  obtain ⟨rfl, Nq6, K6, Fp6_0, Fp6_1, Fp6_2, Ap6_0⟩ := q6
  have N6 := Fr.app N4 Nq6
  refine k_some K (w := (.int (1 : Int32))) ?_
  refine m_pop K X6.here hx hby d_method_2_35 rfl rfl ?_
  refine m_aloadN K X6.here hx hby d_method_2_36 rfl rfl rfl ?_
  refine m_iconst K X6.here hx hby (1 : Int32) d_method_2_37 rfl rfl ?_
  refine m_iloadN K X6.here hx hby d_method_2_38 rfl rfl ?_
  refine m_iconst K X6.here hx hby (2 : Int32) d_method_2_39 rfl rfl ?_
  refine m_iadd K X6.here hx hby (7 : Int32) d_method_2_40 rfl rfl ?_
  refine m_ishl K X6.here hx hby (128 : Int32) d_method_2_41 rfl rfl ?_
  refine k_callS K X6 hx hby hZ [(.int (128 : Int32))] [(.ref b1)] hown (hw _ (List.mem_of_getElem? (i := 30) rfl)) (hw _ (List.mem_of_getElem? (i := 31) rfl)) (hw _ (List.mem_of_getElem? (i := 32) rfl)) (hw _ (List.mem_of_getElem? (i := 33) rfl)) (cvon l Z a0 hw (128 : Int32) T6.heap n0 (Nat.le_trans Z0 (Nat.le_trans (Nat.le_trans (Nat.le_trans (Nat.le_trans (Nat.le_refl _) E1.1) K2.1) K4.1) K6.1)) S_Integer_IntegerCache_high ((((O0.ext E1).keep K2 (allS g_b1 all0)).keep K4 (allS g_b1 all0)).keep K6 (allS g_b1 (allS g_b4_ba all0))) (by decide) (by decide)) rfl rfl rfl pd_13 rfl d_method_2_42 (by rw [hml]; rfl) rfl (by decide) (by decide) (Nat.le_of_ble_eq_true rfl) (by decide) (by decide) fun v7 T7 L7 X7 q7 => ?_
  obtain ⟨b7_b, rfl, Nq7, K7, sq_b7_b, E_b7_b, Fp7_0⟩ := q7
  have N7 := Fr.app N6 Nq7
  have sz_b7_b : h0.size ≤ b7_b := Nat.le_trans (Nat.le_trans (Nat.le_trans (Nat.le_trans (Nat.le_trans (Nat.le_refl _) E1.1) K2.1) K4.1) K6.1) sq_b7_b
  have g_b7_b : n0 ≤ b7_b := Nat.le_trans Z0 sz_b7_b
  refine k_some K (w := (.ref b7_b)) ?_
  refine k_callV K X7 hx hby hZ b1 [(.ref b7_b)] [] hown (hw _ (List.mem_of_getElem? (i := 37) rfl)) (hw _ (List.mem_of_getElem? (i := 38) rfl)) (notFace_of_selects (args := #[]) (mvT hZ.wide (hw _ (List.mem_of_getElem? (i := 40) rfl)))) (hw _ (List.mem_of_getElem? (i := 40) rfl)) (hw _ (List.mem_of_getElem? (i := 39) rfl)) (hw _ (List.mem_of_getElem? (i := 2) rfl)) (hw _ (List.mem_of_getElem? (i := 41) rfl)) (c9i2 l Z a0 hw b1 b7_b b4_ba s5 s6 T7.heap n0 (Nat.le_trans Z0 (Nat.le_trans (Nat.le_trans (Nat.le_trans (Nat.le_trans (Nat.le_trans (Nat.le_refl _) E1.1) K2.1) K4.1) K6.1) K7.1)) ((((A1.keep K2).keep K4).keep K6).keep K7) E_b7_b (Fp6_0.keep K7 nin0) (Fp6_1.keep K7 nin0) (Fp6_2.keep K7 nin0) (Ap6_0.keep K7 nin0) g_b1 g_b4_ba (Nat.ne_of_lt (Nat.lt_of_lt_of_le (Nat.lt_of_lt_of_le A1.lt (Nat.le_trans (Nat.le_refl _) K2.1)) sq_b4_ba))) rfl ((((A1.keep K2).keep K4).keep K6).keep K7) rfl rfl pd_14 rfl d_method_2_45 (by rw [hml]; rfl) rfl (by decide) (by decide) (Nat.le_of_ble_eq_true rfl) (by decide) (by decide) fun v8 T8 L8 X8 q8 => ?_
  obtain ⟨rfl, Nq8, K8, Fp8_0, Fp8_1, Fp8_2, Ap8_0⟩ := q8
  have N8 := Fr.app N7 Nq8
  refine k_some K (w := (.int (1 : Int32))) ?_
  refine m_pop K X8.here hx hby d_method_2_48 rfl rfl ?_
  refine m_aloadN K X8.here hx hby d_method_2_49 rfl rfl rfl ?_
  refine m_iconst K X8.here hx hby (1 : Int32) d_method_2_50 rfl rfl ?_
  refine m_iloadN K X8.here hx hby d_method_2_51 rfl rfl ?_
  refine m_iconst K X8.here hx hby (3 : Int32) d_method_2_52 rfl rfl ?_
  refine m_iadd K X8.here hx hby (8 : Int32) d_method_2_53 rfl rfl ?_
  refine m_ishl K X8.here hx hby (256 : Int32) d_method_2_54 rfl rfl ?_
  refine k_callS K X8 hx hby hZ [(.int (256 : Int32))] [(.ref b1)] hown (hw _ (List.mem_of_getElem? (i := 30) rfl)) (hw _ (List.mem_of_getElem? (i := 31) rfl)) (hw _ (List.mem_of_getElem? (i := 32) rfl)) (hw _ (List.mem_of_getElem? (i := 33) rfl)) (cvon l Z a0 hw (256 : Int32) T8.heap n0 (Nat.le_trans Z0 (Nat.le_trans (Nat.le_trans (Nat.le_trans (Nat.le_trans (Nat.le_trans (Nat.le_trans (Nat.le_refl _) E1.1) K2.1) K4.1) K6.1) K7.1) K8.1)) S_Integer_IntegerCache_high ((((((O0.ext E1).keep K2 (allS g_b1 all0)).keep K4 (allS g_b1 all0)).keep K6 (allS g_b1 (allS g_b4_ba all0))).keep K7 all0).keep K8 (allS g_b1 (allS g_b4_ba all0))) (by decide) (by decide)) rfl rfl rfl pd_13 rfl d_method_2_55 (by rw [hml]; rfl) rfl (by decide) (by decide) (Nat.le_of_ble_eq_true rfl) (by decide) (by decide) fun v9 T9 L9 X9 q9 => ?_
  obtain ⟨b9_b, rfl, Nq9, K9, sq_b9_b, E_b9_b, Fp9_0⟩ := q9
  have N9 := Fr.app N8 Nq9
  have sz_b9_b : h0.size ≤ b9_b := Nat.le_trans (Nat.le_trans (Nat.le_trans (Nat.le_trans (Nat.le_trans (Nat.le_trans (Nat.le_trans (Nat.le_refl _) E1.1) K2.1) K4.1) K6.1) K7.1) K8.1) sq_b9_b
  have g_b9_b : n0 ≤ b9_b := Nat.le_trans Z0 sz_b9_b
  refine k_some K (w := (.ref b9_b)) ?_
  refine k_callV K X9 hx hby hZ b1 [(.ref b9_b)] [] hown (hw _ (List.mem_of_getElem? (i := 37) rfl)) (hw _ (List.mem_of_getElem? (i := 38) rfl)) (notFace_of_selects (args := #[]) (mvT hZ.wide (hw _ (List.mem_of_getElem? (i := 40) rfl)))) (hw _ (List.mem_of_getElem? (i := 40) rfl)) (hw _ (List.mem_of_getElem? (i := 39) rfl)) (hw _ (List.mem_of_getElem? (i := 2) rfl)) (hw _ (List.mem_of_getElem? (i := 41) rfl)) (c9i3 l Z a0 hw b1 b9_b b4_ba s5 s6 b7_b T9.heap n0 (Nat.le_trans Z0 (Nat.le_trans (Nat.le_trans (Nat.le_trans (Nat.le_trans (Nat.le_trans (Nat.le_trans (Nat.le_trans (Nat.le_refl _) E1.1) K2.1) K4.1) K6.1) K7.1) K8.1) K9.1)) ((((((A1.keep K2).keep K4).keep K6).keep K7).keep K8).keep K9) E_b9_b (Fp8_0.keep K9 nin0) (Fp8_1.keep K9 nin0) (Fp8_2.keep K9 nin0) (Ap8_0.keep K9 nin0) g_b1 g_b4_ba (Nat.ne_of_lt (Nat.lt_of_lt_of_le (Nat.lt_of_lt_of_le A1.lt (Nat.le_trans (Nat.le_refl _) K2.1)) sq_b4_ba))) rfl ((((((A1.keep K2).keep K4).keep K6).keep K7).keep K8).keep K9) rfl rfl pd_14 rfl d_method_2_58 (by rw [hml]; rfl) rfl (by decide) (by decide) (Nat.le_of_ble_eq_true rfl) (by decide) (by decide) fun v10 T10 L10 X10 q10 => ?_
  obtain ⟨rfl, Nq10, K10, Fp10_0, Fp10_1, Fp10_2, Ap10_0⟩ := q10
  have N10 := Fr.app N9 Nq10
  refine k_some K (w := (.int (1 : Int32))) ?_
  refine m_pop K X10.here hx hby d_method_2_61 rfl rfl ?_
  refine m_aloadN K X10.here hx hby d_method_2_62 rfl rfl rfl ?_
  refine m_iconst K X10.here hx hby (1 : Int32) d_method_2_63 rfl rfl ?_
  refine m_iloadN K X10.here hx hby d_method_2_64 rfl rfl ?_
  refine m_iconst K X10.here hx hby (4 : Int32) d_method_2_65 rfl rfl ?_
  refine m_iadd K X10.here hx hby (9 : Int32) d_method_2_66 rfl rfl ?_
  refine m_ishl K X10.here hx hby (512 : Int32) d_method_2_67 rfl rfl ?_
  refine k_callS K X10 hx hby hZ [(.int (512 : Int32))] [(.ref b1)] hown (hw _ (List.mem_of_getElem? (i := 30) rfl)) (hw _ (List.mem_of_getElem? (i := 31) rfl)) (hw _ (List.mem_of_getElem? (i := 32) rfl)) (hw _ (List.mem_of_getElem? (i := 33) rfl)) (cvon l Z a0 hw (512 : Int32) T10.heap n0 (Nat.le_trans Z0 (Nat.le_trans (Nat.le_trans (Nat.le_trans (Nat.le_trans (Nat.le_trans (Nat.le_trans (Nat.le_trans (Nat.le_trans (Nat.le_refl _) E1.1) K2.1) K4.1) K6.1) K7.1) K8.1) K9.1) K10.1)) S_Integer_IntegerCache_high ((((((((O0.ext E1).keep K2 (allS g_b1 all0)).keep K4 (allS g_b1 all0)).keep K6 (allS g_b1 (allS g_b4_ba all0))).keep K7 all0).keep K8 (allS g_b1 (allS g_b4_ba all0))).keep K9 all0).keep K10 (allS g_b1 (allS g_b4_ba all0))) (by decide) (by decide)) rfl rfl rfl pd_13 rfl d_method_2_68 (by rw [hml]; rfl) rfl (by decide) (by decide) (Nat.le_of_ble_eq_true rfl) (by decide) (by decide) fun v11 T11 L11 X11 q11 => ?_
  obtain ⟨b11_b, rfl, Nq11, K11, sq_b11_b, E_b11_b, Fp11_0⟩ := q11
  have N11 := Fr.app N10 Nq11
  have sz_b11_b : h0.size ≤ b11_b := Nat.le_trans (Nat.le_trans (Nat.le_trans (Nat.le_trans (Nat.le_trans (Nat.le_trans (Nat.le_trans (Nat.le_trans (Nat.le_trans (Nat.le_refl _) E1.1) K2.1) K4.1) K6.1) K7.1) K8.1) K9.1) K10.1) sq_b11_b
  have g_b11_b : n0 ≤ b11_b := Nat.le_trans Z0 sz_b11_b
  refine k_some K (w := (.ref b11_b)) ?_
  refine k_callV K X11 hx hby hZ b1 [(.ref b11_b)] [] hown (hw _ (List.mem_of_getElem? (i := 37) rfl)) (hw _ (List.mem_of_getElem? (i := 38) rfl)) (notFace_of_selects (args := #[]) (mvT hZ.wide (hw _ (List.mem_of_getElem? (i := 40) rfl)))) (hw _ (List.mem_of_getElem? (i := 40) rfl)) (hw _ (List.mem_of_getElem? (i := 39) rfl)) (hw _ (List.mem_of_getElem? (i := 2) rfl)) (hw _ (List.mem_of_getElem? (i := 41) rfl)) (c9i4 l Z a0 hw b1 b11_b b4_ba s5 s6 b7_b b9_b T11.heap n0 (Nat.le_trans Z0 (Nat.le_trans (Nat.le_trans (Nat.le_trans (Nat.le_trans (Nat.le_trans (Nat.le_trans (Nat.le_trans (Nat.le_trans (Nat.le_trans (Nat.le_refl _) E1.1) K2.1) K4.1) K6.1) K7.1) K8.1) K9.1) K10.1) K11.1)) ((((((((A1.keep K2).keep K4).keep K6).keep K7).keep K8).keep K9).keep K10).keep K11) E_b11_b (Fp10_0.keep K11 nin0) (Fp10_1.keep K11 nin0) (Fp10_2.keep K11 nin0) (Ap10_0.keep K11 nin0) g_b1 g_b4_ba (Nat.ne_of_lt (Nat.lt_of_lt_of_le (Nat.lt_of_lt_of_le A1.lt (Nat.le_trans (Nat.le_refl _) K2.1)) sq_b4_ba))) rfl ((((((((A1.keep K2).keep K4).keep K6).keep K7).keep K8).keep K9).keep K10).keep K11) rfl rfl pd_14 rfl d_method_2_71 (by rw [hml]; rfl) rfl (by decide) (by decide) (Nat.le_of_ble_eq_true rfl) (by decide) (by decide) fun v12 T12 L12 X12 q12 => ?_
  obtain ⟨rfl, Nq12, K12, Fp12_0, Fp12_1, Fp12_2, Ap12_0⟩ := q12
  have N12 := Fr.app N11 Nq12
  refine k_some K (w := (.int (1 : Int32))) ?_
  refine m_pop K X12.here hx hby d_method_2_74 rfl rfl ?_
  refine m_aloadN K X12.here hx hby d_method_2_75 rfl rfl rfl ?_
  exact Go.retO X12 hx hby hlk hret rfl (Or.inr (Or.inr (Or.inr (Or.inr ⟨rfl, rfl, rfl⟩)))) d_method_2_76 (by decide) (by decide) (⟨b1, rfl, N12, (((((((((((Keep.refl h0 []).ext E1).trans K2 (allS (Or.inr sz_b1) all0)).trans K4 (allS (Or.inr sz_b1) all0)).trans K6 (allS (Or.inr sz_b1) (allS (Or.inr sz_b4_ba) all0))).trans K7 all0).trans K8 (allS (Or.inr sz_b1) (allS (Or.inr sz_b4_ba) all0))).trans K9 all0).trans K10 (allS (Or.inr sz_b1) (allS (Or.inr sz_b4_ba) all0))).trans K11 all0).trans K12 (allS (Or.inr sz_b1) (allS (Or.inr sz_b4_ba) all0))), sz_b1, (((((((((A1.keep K2).keep K4).keep K6).keep K7).keep K8).keep K9).keep K10).keep K11).keep K12), ⟨b4_ba, s5, s6, b7_b, b9_b, b11_b, (((((((((A1.keep K2).keep K4).keep K6).keep K7).keep K8).keep K9).keep K10).keep K11).keep K12), Fp12_2, Fp12_1, (Ap12_0).av, ((((((((((E_s5.ext E1).keep K2).keep K4).keep K6).keep K7).keep K8).keep K9).keep K10).keep K11).keep K12), ((((((((((F_value_s5.ext E1).keep K2 (ninS (Nat.ne_of_lt (Nat.lt_of_lt_of_le (Nat.lt_of_lt_of_le E_s5.lt (Nat.le_refl _)) (Nat.le_of_eq g1.symm))) nin0)).keep K4 (ninS (Nat.ne_of_lt (Nat.lt_of_lt_of_le (Nat.lt_of_lt_of_le E_s5.lt (Nat.le_refl _)) (Nat.le_of_eq g1.symm))) nin0)).keep K6 (ninS (Nat.ne_of_lt (Nat.lt_of_lt_of_le (Nat.lt_of_lt_of_le E_s5.lt (Nat.le_refl _)) (Nat.le_of_eq g1.symm))) (ninS (Nat.ne_of_lt (Nat.lt_of_lt_of_le (Nat.lt_of_lt_of_le E_s5.lt (Nat.le_trans (Nat.le_trans (Nat.le_refl _) E1.1) K2.1)) sq_b4_ba)) nin0))).keep K7 nin0).keep K8 (ninS (Nat.ne_of_lt (Nat.lt_of_lt_of_le (Nat.lt_of_lt_of_le E_s5.lt (Nat.le_refl _)) (Nat.le_of_eq g1.symm))) (ninS (Nat.ne_of_lt (Nat.lt_of_lt_of_le (Nat.lt_of_lt_of_le E_s5.lt (Nat.le_trans (Nat.le_trans (Nat.le_refl _) E1.1) K2.1)) sq_b4_ba)) nin0))).keep K9 nin0).keep K10 (ninS (Nat.ne_of_lt (Nat.lt_of_lt_of_le (Nat.lt_of_lt_of_le E_s5.lt (Nat.le_refl _)) (Nat.le_of_eq g1.symm))) (ninS (Nat.ne_of_lt (Nat.lt_of_lt_of_le (Nat.lt_of_lt_of_le E_s5.lt (Nat.le_trans (Nat.le_trans (Nat.le_refl _) E1.1) K2.1)) sq_b4_ba)) nin0))).keep K11 nin0).keep K12 (ninS (Nat.ne_of_lt (Nat.lt_of_lt_of_le (Nat.lt_of_lt_of_le E_s5.lt (Nat.le_refl _)) (Nat.le_of_eq g1.symm))) (ninS (Nat.ne_of_lt (Nat.lt_of_lt_of_le (Nat.lt_of_lt_of_le E_s5.lt (Nat.le_trans (Nat.le_trans (Nat.le_refl _) E1.1) K2.1)) sq_b4_ba)) nin0))), ((((((((((E_s6.ext E1).keep K2).keep K4).keep K6).keep K7).keep K8).keep K9).keep K10).keep K11).keep K12), ((((((((((F_value_s6.ext E1).keep K2 (ninS (Nat.ne_of_lt (Nat.lt_of_lt_of_le (Nat.lt_of_lt_of_le E_s6.lt (Nat.le_refl _)) (Nat.le_of_eq g1.symm))) nin0)).keep K4 (ninS (Nat.ne_of_lt (Nat.lt_of_lt_of_le (Nat.lt_of_lt_of_le E_s6.lt (Nat.le_refl _)) (Nat.le_of_eq g1.symm))) nin0)).keep K6 (ninS (Nat.ne_of_lt (Nat.lt_of_lt_of_le (Nat.lt_of_lt_of_le E_s6.lt (Nat.le_refl _)) (Nat.le_of_eq g1.symm))) (ninS (Nat.ne_of_lt (Nat.lt_of_lt_of_le (Nat.lt_of_lt_of_le E_s6.lt (Nat.le_trans (Nat.le_trans (Nat.le_refl _) E1.1) K2.1)) sq_b4_ba)) nin0))).keep K7 nin0).keep K8 (ninS (Nat.ne_of_lt (Nat.lt_of_lt_of_le (Nat.lt_of_lt_of_le E_s6.lt (Nat.le_refl _)) (Nat.le_of_eq g1.symm))) (ninS (Nat.ne_of_lt (Nat.lt_of_lt_of_le (Nat.lt_of_lt_of_le E_s6.lt (Nat.le_trans (Nat.le_trans (Nat.le_refl _) E1.1) K2.1)) sq_b4_ba)) nin0))).keep K9 nin0).keep K10 (ninS (Nat.ne_of_lt (Nat.lt_of_lt_of_le (Nat.lt_of_lt_of_le E_s6.lt (Nat.le_refl _)) (Nat.le_of_eq g1.symm))) (ninS (Nat.ne_of_lt (Nat.lt_of_lt_of_le (Nat.lt_of_lt_of_le E_s6.lt (Nat.le_trans (Nat.le_trans (Nat.le_refl _) E1.1) K2.1)) sq_b4_ba)) nin0))).keep K11 nin0).keep K12 (ninS (Nat.ne_of_lt (Nat.lt_of_lt_of_le (Nat.lt_of_lt_of_le E_s6.lt (Nat.le_refl _)) (Nat.le_of_eq g1.symm))) (ninS (Nat.ne_of_lt (Nat.lt_of_lt_of_le (Nat.lt_of_lt_of_le E_s6.lt (Nat.le_trans (Nat.le_trans (Nat.le_refl _) E1.1) K2.1)) sq_b4_ba)) nin0))), (((((E_b7_b.keep K8).keep K9).keep K10).keep K11).keep K12), (((((Fp7_0.keep K8 (ninS (Ne.symm (Nat.ne_of_lt (Nat.lt_of_lt_of_le (Nat.lt_of_lt_of_le A1.lt (Nat.le_trans (Nat.le_trans (Nat.le_trans (Nat.le_refl _) K2.1) K4.1) K6.1)) sq_b7_b))) (ninS (Ne.symm (Nat.ne_of_lt (Nat.lt_of_lt_of_le (Nat.lt_of_lt_of_le Ap4_0.lt (Nat.le_trans (Nat.le_refl _) K6.1)) sq_b7_b))) nin0))).keep K9 nin0).keep K10 (ninS (Ne.symm (Nat.ne_of_lt (Nat.lt_of_lt_of_le (Nat.lt_of_lt_of_le A1.lt (Nat.le_trans (Nat.le_trans (Nat.le_trans (Nat.le_refl _) K2.1) K4.1) K6.1)) sq_b7_b))) (ninS (Ne.symm (Nat.ne_of_lt (Nat.lt_of_lt_of_le (Nat.lt_of_lt_of_le Ap4_0.lt (Nat.le_trans (Nat.le_refl _) K6.1)) sq_b7_b))) nin0))).keep K11 nin0).keep K12 (ninS (Ne.symm (Nat.ne_of_lt (Nat.lt_of_lt_of_le (Nat.lt_of_lt_of_le A1.lt (Nat.le_trans (Nat.le_trans (Nat.le_trans (Nat.le_refl _) K2.1) K4.1) K6.1)) sq_b7_b))) (ninS (Ne.symm (Nat.ne_of_lt (Nat.lt_of_lt_of_le (Nat.lt_of_lt_of_le Ap4_0.lt (Nat.le_trans (Nat.le_refl _) K6.1)) sq_b7_b))) nin0))), (((E_b9_b.keep K10).keep K11).keep K12), (((Fp9_0.keep K10 (ninS (Ne.symm (Nat.ne_of_lt (Nat.lt_of_lt_of_le (Nat.lt_of_lt_of_le A1.lt (Nat.le_trans (Nat.le_trans (Nat.le_trans (Nat.le_trans (Nat.le_trans (Nat.le_refl _) K2.1) K4.1) K6.1) K7.1) K8.1)) sq_b9_b))) (ninS (Ne.symm (Nat.ne_of_lt (Nat.lt_of_lt_of_le (Nat.lt_of_lt_of_le Ap4_0.lt (Nat.le_trans (Nat.le_trans (Nat.le_trans (Nat.le_refl _) K6.1) K7.1) K8.1)) sq_b9_b))) nin0))).keep K11 nin0).keep K12 (ninS (Ne.symm (Nat.ne_of_lt (Nat.lt_of_lt_of_le (Nat.lt_of_lt_of_le A1.lt (Nat.le_trans (Nat.le_trans (Nat.le_trans (Nat.le_trans (Nat.le_trans (Nat.le_refl _) K2.1) K4.1) K6.1) K7.1) K8.1)) sq_b9_b))) (ninS (Ne.symm (Nat.ne_of_lt (Nat.lt_of_lt_of_le (Nat.lt_of_lt_of_le Ap4_0.lt (Nat.le_trans (Nat.le_trans (Nat.le_trans (Nat.le_refl _) K6.1) K7.1) K8.1)) sq_b9_b))) nin0))), (E_b11_b.keep K12), (Fp11_0.keep K12 (ninS (Ne.symm (Nat.ne_of_lt (Nat.lt_of_lt_of_le (Nat.lt_of_lt_of_le A1.lt (Nat.le_trans (Nat.le_trans (Nat.le_trans (Nat.le_trans (Nat.le_trans (Nat.le_trans (Nat.le_trans (Nat.le_refl _) K2.1) K4.1) K6.1) K7.1) K8.1) K9.1) K10.1)) sq_b11_b))) (ninS (Ne.symm (Nat.ne_of_lt (Nat.lt_of_lt_of_le (Nat.lt_of_lt_of_le Ap4_0.lt (Nat.le_trans (Nat.le_trans (Nat.le_trans (Nat.le_trans (Nat.le_trans (Nat.le_refl _) K6.1) K7.1) K8.1) K9.1) K10.1)) sq_b11_b))) nin0))), (Or.inr ⟨sz_b1, ((((((((((A1.keep K2).keep K4).keep K6).keep K7).keep K8).keep K9).keep K10).keep K11).keep K12)).lt⟩), (Or.inr ⟨sz_b4_ba, (Ap12_0).lt⟩), (Or.inl hs5), (Or.inl hs6), (Or.inr ⟨sz_b7_b, ((((((E_b7_b.keep K8).keep K9).keep K10).keep K11).keep K12)).lt⟩), (Or.inr ⟨sz_b9_b, ((((E_b9_b.keep K10).keep K11).keep K12)).lt⟩), (Or.inr ⟨sz_b11_b, ((E_b11_b.keep K12)).lt⟩)⟩⟩)
theorem efcol2 (m : MethodId) (x0 : Int32) : entryFrame m #[(.int x0)] 3 = mkF m 0 #[.val (.int x0), .unset, .unset] [] := by first | (simp [entryFrame, mkF, argsToLocals, Value.category]; done) | rfl
set_option maxRecDepth 65536 in
set_option maxHeartbeats 40000000 in
theorem ccol2 (l : Launch) (Z : State) (a0 : Array Value) (hw : ∀ d ∈ tables_1, d.before a0 Z = true) (d1 : Addr) (ca : Addr) (bx : (List Value)) (h0 : Heap) (n0 : Nat) (Z0 : n0 ≤ h0.size) (A_d1 : Av Z h0 d1 (.object "java/lang/Object") []) (S_ArrayList_DEFAULTCAPACITY_EMPTY_ELEMENTDATA : Sta Z Z.heap "java/util/ArrayList" "DEFAULTCAPACITY_EMPTY_ELEMENTDATA" "[Ljava/lang/Object;" (.ref d1)) (S_Integer_IntegerCache_high : Sta Z Z.heap "java/lang/Integer$IntegerCache" "high" "I" (.int (127 : Int32))) (S_Integer_IntegerCache_cache : Sta Z Z.heap "java/lang/Integer$IntegerCache" "cache" "[Ljava/lang/Integer;" (.ref ca)) (O0 : Old Z n0 h0) (ACA : Av Z Z.heap ca (.object "java/lang/Integer") bx) :
    Con l Z (⟨"com/example/craterworks/craterworks/SharesStationTakePinLaw", "column", "(I)Ljava/util/List;"⟩ : MethodName) method_2_code 3 (some (.object "java/util/List")) ({ frames := 5, cells := 7, slots := 18, locals := 69 } : Room) [] #[(.int (2 : Int32))] h0 (fun v h L => ∃ b : Addr, v = some (.ref b) ∧ Fr n0 L ∧ Keep h0 h [] ∧ h0.size ≤ b ∧ Exa Z h b "java/util/ArrayList" ∧ Lc Z h n0 h0.size h.size b 1024 2048 4096 8192 16384) := by
  refine Con.of (plainFor_of_name pn_com_example_craterworks_craterworks_SharesStationTakePinLaw) #[.val (.int (2 : Int32)), .unset, .unset] (fun m => efcol2 m (2 : Int32)) ?_
  intro p e s m below meth c s₁ K hx hby hml hown hnm hret hlk hZ X0 e0 hnd
  have N0 := Fr.nil n0
  refine k_newO K X0 hx hby hZ hown (hw _ (List.mem_of_getElem? (i := 0) rfl)) (hw _ (List.mem_of_getElem? (i := 1) rfl)) (hw _ (List.mem_of_getElem? (i := 2) rfl)) e0 d_method_2_0 rfl (by decide) (by decide) fun T1 h1 b1 X1 e1 E1 g1 A1 D1 => ?_
  have sz_b1 : h0.size ≤ b1 := Nat.le_trans (Nat.le_refl _) (Nat.le_of_eq g1.symm)
  have g_b1 : n0 ≤ b1 := Nat.le_trans Z0 sz_b1
  have F_modCount_b1 : Fld Z h1 b1 "java/util/AbstractList" "modCount" "I" (.int (0 : Int32)) := D1 (Or.inl (hw _ (List.mem_of_getElem? (i := 22) rfl))) (ty := .int) (by decide)
  have F_elementData_b1 : Fld Z h1 b1 "java/util/ArrayList" "elementData" "[Ljava/lang/Object;" .null := D1 (Or.inl (hw _ (List.mem_of_getElem? (i := 25) rfl))) (ty := (.array (.object "java/lang/Object"))) (by decide)
  have F_size_b1 : Fld Z h1 b1 "java/util/ArrayList" "size" "I" (.int (0 : Int32)) := D1 (Or.inl (hw _ (List.mem_of_getElem? (i := 45) rfl))) (ty := .int) (by decide)
  refine m_dup K X1.here hx hby d_method_2_3 rfl rfl ?_
  refine k_callP K X1 hx hby hZ b1 [] [(.ref b1)] hown (hw _ (List.mem_of_getElem? (i := 3) rfl)) (hw _ (List.mem_of_getElem? (i := 4) rfl)) (hw _ (List.mem_of_getElem? (i := 2) rfl)) (hw _ (List.mem_of_getElem? (i := 5) rfl)) rfl (c1 l Z a0 hw b1 (0 : Int32) d1 h1 n0 (Nat.le_trans Z0 (Nat.le_trans (Nat.le_refl _) E1.1)) A1 F_modCount_b1 F_elementData_b1 F_size_b1 S_ArrayList_DEFAULTCAPACITY_EMPTY_ELEMENTDATA (O0.ext E1) g_b1) e1 rfl rfl pd_8 rfl d_method_2_4 (by rw [hml]; rfl) rfl (by decide) (by decide) (Nat.le_of_ble_eq_true rfl) (by decide) (by decide) fun v2 T2 L2 X2 q2 => ?_
  obtain ⟨rfl, Nq2, K2, Fp2_0, Fp2_1, Fp2_2⟩ := q2
  have N2 := Fr.app N0 Nq2
  refine k_none K ?_
  refine m_astoreN K X2.here hx hby #[.val (.int (2 : Int32)), .val (.ref b1), .unset] d_method_2_7 rfl rfl rfl ?_
  refine m_iconst K X2.here hx hby (5 : Int32) d_method_2_8 rfl rfl ?_
  refine m_iloadN K X2.here hx hby d_method_2_9 rfl rfl ?_
  refine m_imul K X2.here hx hby (10 : Int32) d_method_2_10 rfl rfl ?_
  refine m_istoreN K X2.here hx hby #[.val (.int (2 : Int32)), .val (.ref b1), .val (.int (10 : Int32))] d_method_2_11 rfl rfl ?_
  refine m_aloadN K X2.here hx hby d_method_2_12 rfl rfl rfl ?_
  refine m_iconst K X2.here hx hby (1 : Int32) d_method_2_13 rfl rfl ?_
  refine m_iloadN K X2.here hx hby d_method_2_14 rfl rfl ?_
  refine m_ishl K X2.here hx hby (1024 : Int32) d_method_2_15 rfl rfl ?_
  refine k_callS K X2 hx hby hZ [(.int (1024 : Int32))] [(.ref b1)] hown (hw _ (List.mem_of_getElem? (i := 30) rfl)) (hw _ (List.mem_of_getElem? (i := 31) rfl)) (hw _ (List.mem_of_getElem? (i := 32) rfl)) (hw _ (List.mem_of_getElem? (i := 33) rfl)) (cvon l Z a0 hw (1024 : Int32) T2.heap n0 (Nat.le_trans Z0 (Nat.le_trans (Nat.le_trans (Nat.le_refl _) E1.1) K2.1)) S_Integer_IntegerCache_high ((O0.ext E1).keep K2 (allS g_b1 all0)) (by decide) (by decide)) rfl rfl rfl pd_13 rfl d_method_2_16 (by rw [hml]; rfl) rfl (by decide) (by decide) (Nat.le_of_ble_eq_true rfl) (by decide) (by decide) fun v3 T3 L3 X3 q3 => ?_
  obtain ⟨b3_b, rfl, Nq3, K3, sq_b3_b, E_b3_b, Fp3_0⟩ := q3
  have N3 := Fr.app N2 Nq3
  have sz_b3_b : h0.size ≤ b3_b := Nat.le_trans (Nat.le_trans (Nat.le_trans (Nat.le_refl _) E1.1) K2.1) sq_b3_b
  have g_b3_b : n0 ≤ b3_b := Nat.le_trans Z0 sz_b3_b
  refine k_some K (w := (.ref b3_b)) ?_
  refine k_callV K X3 hx hby hZ b1 [(.ref b3_b)] [] hown (hw _ (List.mem_of_getElem? (i := 37) rfl)) (hw _ (List.mem_of_getElem? (i := 38) rfl)) (notFace_of_selects (args := #[]) (mvT hZ.wide (hw _ (List.mem_of_getElem? (i := 40) rfl)))) (hw _ (List.mem_of_getElem? (i := 40) rfl)) (hw _ (List.mem_of_getElem? (i := 39) rfl)) (hw _ (List.mem_of_getElem? (i := 2) rfl)) (hw _ (List.mem_of_getElem? (i := 41) rfl)) (c9i l Z a0 hw b1 b3_b d1 T3.heap n0 (Nat.le_trans Z0 (Nat.le_trans (Nat.le_trans (Nat.le_trans (Nat.le_refl _) E1.1) K2.1) K3.1)) ((A1.keep K2).keep K3) E_b3_b (Fp2_0.keep K3 nin0) (Fp2_1.keep K3 nin0) (Fp2_2.keep K3 nin0) (((A_d1.ext E1).keep K2 (ninS (Nat.ne_of_lt (Nat.lt_of_lt_of_le (Nat.lt_of_lt_of_le A_d1.lt (Nat.le_refl _)) (Nat.le_of_eq g1.symm))) nin0)).keep K3 nin0) S_ArrayList_DEFAULTCAPACITY_EMPTY_ELEMENTDATA (((O0.ext E1).keep K2 (allS g_b1 all0)).keep K3 all0) g_b1 (Nat.ne_of_lt (Nat.lt_of_lt_of_le (Nat.lt_of_lt_of_le A_d1.lt (Nat.le_refl _)) (Nat.le_of_eq g1.symm)))) rfl ((A1.keep K2).keep K3) rfl rfl pd_14 rfl d_method_2_19 (by rw [hml]; rfl) rfl (by decide) (by decide) (Nat.le_of_ble_eq_true rfl) (by decide) (by decide) fun v4 T4 L4 X4 q4 => ?_
  obtain ⟨b4_ba, rfl, Nq4, K4, sq_b4_ba, Fp4_0, Fp4_1, Fp4_2, Ap4_0⟩ := q4
  have N4 := Fr.app N3 Nq4
  have sz_b4_ba : h0.size ≤ b4_ba := Nat.le_trans (Nat.le_trans (Nat.le_trans (Nat.le_trans (Nat.le_refl _) E1.1) K2.1) K3.1) sq_b4_ba
  have g_b4_ba : n0 ≤ b4_ba := Nat.le_trans Z0 sz_b4_ba
  refine k_some K (w := (.int (1 : Int32))) ?_
  refine m_pop K X4.here hx hby d_method_2_22 rfl rfl ?_
  refine m_aloadN K X4.here hx hby d_method_2_23 rfl rfl rfl ?_
  refine m_iconst K X4.here hx hby (1 : Int32) d_method_2_24 rfl rfl ?_
  refine m_iloadN K X4.here hx hby d_method_2_25 rfl rfl ?_
  refine m_iconst K X4.here hx hby (1 : Int32) d_method_2_26 rfl rfl ?_
  refine m_iadd K X4.here hx hby (11 : Int32) d_method_2_27 rfl rfl ?_
  refine m_ishl K X4.here hx hby (2048 : Int32) d_method_2_28 rfl rfl ?_
  refine k_callS K X4 hx hby hZ [(.int (2048 : Int32))] [(.ref b1)] hown (hw _ (List.mem_of_getElem? (i := 30) rfl)) (hw _ (List.mem_of_getElem? (i := 31) rfl)) (hw _ (List.mem_of_getElem? (i := 32) rfl)) (hw _ (List.mem_of_getElem? (i := 33) rfl)) (cvon l Z a0 hw (2048 : Int32) T4.heap n0 (Nat.le_trans Z0 (Nat.le_trans (Nat.le_trans (Nat.le_trans (Nat.le_trans (Nat.le_refl _) E1.1) K2.1) K3.1) K4.1)) S_Integer_IntegerCache_high ((((O0.ext E1).keep K2 (allS g_b1 all0)).keep K3 all0).keep K4 (allS g_b1 all0)) (by decide) (by decide)) rfl rfl rfl pd_13 rfl d_method_2_29 (by rw [hml]; rfl) rfl (by decide) (by decide) (Nat.le_of_ble_eq_true rfl) (by decide) (by decide) fun v5 T5 L5 X5 q5 => ?_
  obtain ⟨b5_b, rfl, Nq5, K5, sq_b5_b, E_b5_b, Fp5_0⟩ := q5
  have N5 := Fr.app N4 Nq5
  have sz_b5_b : h0.size ≤ b5_b := Nat.le_trans (Nat.le_trans (Nat.le_trans (Nat.le_trans (Nat.le_trans (Nat.le_refl _) E1.1) K2.1) K3.1) K4.1) sq_b5_b
  have g_b5_b : n0 ≤ b5_b := Nat.le_trans Z0 sz_b5_b
  refine k_some K (w := (.ref b5_b)) ?_
  refine k_callV K X5 hx hby hZ b1 [(.ref b5_b)] [] hown (hw _ (List.mem_of_getElem? (i := 37) rfl)) (hw _ (List.mem_of_getElem? (i := 38) rfl)) (notFace_of_selects (args := #[]) (mvT hZ.wide (hw _ (List.mem_of_getElem? (i := 40) rfl)))) (hw _ (List.mem_of_getElem? (i := 40) rfl)) (hw _ (List.mem_of_getElem? (i := 39) rfl)) (hw _ (List.mem_of_getElem? (i := 2) rfl)) (hw _ (List.mem_of_getElem? (i := 41) rfl)) (c9i1 l Z a0 hw b1 b5_b b4_ba b3_b T5.heap n0 (Nat.le_trans Z0 (Nat.le_trans (Nat.le_trans (Nat.le_trans (Nat.le_trans (Nat.le_trans (Nat.le_refl _) E1.1) K2.1) K3.1) K4.1) K5.1)) ((((A1.keep K2).keep K3).keep K4).keep K5) E_b5_b (Fp4_0.keep K5 nin0) (Fp4_1.keep K5 nin0) (Fp4_2.keep K5 nin0) (Ap4_0.keep K5 nin0) g_b1 g_b4_ba (Nat.ne_of_lt (Nat.lt_of_lt_of_le (Nat.lt_of_lt_of_le A1.lt (Nat.le_trans (Nat.le_trans (Nat.le_refl _) K2.1) K3.1)) sq_b4_ba))) rfl ((((A1.keep K2).keep K3).keep K4).keep K5) rfl rfl pd_14 rfl d_method_2_32 (by rw [hml]; rfl) rfl (by decide) (by decide) (Nat.le_of_ble_eq_true rfl) (by decide) (by decide) fun v6 T6 L6 X6 q6 => ?_
  obtain ⟨rfl, Nq6, K6, Fp6_0, Fp6_1, Fp6_2, Ap6_0⟩ := q6
  have N6 := Fr.app N5 Nq6
  refine k_some K (w := (.int (1 : Int32))) ?_
  refine m_pop K X6.here hx hby d_method_2_35 rfl rfl ?_
  refine m_aloadN K X6.here hx hby d_method_2_36 rfl rfl rfl ?_
  refine m_iconst K X6.here hx hby (1 : Int32) d_method_2_37 rfl rfl ?_
  refine m_iloadN K X6.here hx hby d_method_2_38 rfl rfl ?_
  refine m_iconst K X6.here hx hby (2 : Int32) d_method_2_39 rfl rfl ?_
  refine m_iadd K X6.here hx hby (12 : Int32) d_method_2_40 rfl rfl ?_
  refine m_ishl K X6.here hx hby (4096 : Int32) d_method_2_41 rfl rfl ?_
  refine k_callS K X6 hx hby hZ [(.int (4096 : Int32))] [(.ref b1)] hown (hw _ (List.mem_of_getElem? (i := 30) rfl)) (hw _ (List.mem_of_getElem? (i := 31) rfl)) (hw _ (List.mem_of_getElem? (i := 32) rfl)) (hw _ (List.mem_of_getElem? (i := 33) rfl)) (cvon l Z a0 hw (4096 : Int32) T6.heap n0 (Nat.le_trans Z0 (Nat.le_trans (Nat.le_trans (Nat.le_trans (Nat.le_trans (Nat.le_trans (Nat.le_trans (Nat.le_refl _) E1.1) K2.1) K3.1) K4.1) K5.1) K6.1)) S_Integer_IntegerCache_high ((((((O0.ext E1).keep K2 (allS g_b1 all0)).keep K3 all0).keep K4 (allS g_b1 all0)).keep K5 all0).keep K6 (allS g_b1 (allS g_b4_ba all0))) (by decide) (by decide)) rfl rfl rfl pd_13 rfl d_method_2_42 (by rw [hml]; rfl) rfl (by decide) (by decide) (Nat.le_of_ble_eq_true rfl) (by decide) (by decide) fun v7 T7 L7 X7 q7 => ?_
  obtain ⟨b7_b, rfl, Nq7, K7, sq_b7_b, E_b7_b, Fp7_0⟩ := q7
  have N7 := Fr.app N6 Nq7
  have sz_b7_b : h0.size ≤ b7_b := Nat.le_trans (Nat.le_trans (Nat.le_trans (Nat.le_trans (Nat.le_trans (Nat.le_trans (Nat.le_trans (Nat.le_refl _) E1.1) K2.1) K3.1) K4.1) K5.1) K6.1) sq_b7_b
  have g_b7_b : n0 ≤ b7_b := Nat.le_trans Z0 sz_b7_b
  refine k_some K (w := (.ref b7_b)) ?_
  refine k_callV K X7 hx hby hZ b1 [(.ref b7_b)] [] hown (hw _ (List.mem_of_getElem? (i := 37) rfl)) (hw _ (List.mem_of_getElem? (i := 38) rfl)) (notFace_of_selects (args := #[]) (mvT hZ.wide (hw _ (List.mem_of_getElem? (i := 40) rfl)))) (hw _ (List.mem_of_getElem? (i := 40) rfl)) (hw _ (List.mem_of_getElem? (i := 39) rfl)) (hw _ (List.mem_of_getElem? (i := 2) rfl)) (hw _ (List.mem_of_getElem? (i := 41) rfl)) (c9i2 l Z a0 hw b1 b7_b b4_ba b3_b b5_b T7.heap n0 (Nat.le_trans Z0 (Nat.le_trans (Nat.le_trans (Nat.le_trans (Nat.le_trans (Nat.le_trans (Nat.le_trans (Nat.le_trans (Nat.le_refl _) E1.1) K2.1) K3.1) K4.1) K5.1) K6.1) K7.1)) ((((((A1.keep K2).keep K3).keep K4).keep K5).keep K6).keep K7) E_b7_b (Fp6_0.keep K7 nin0) (Fp6_1.keep K7 nin0) (Fp6_2.keep K7 nin0) (Ap6_0.keep K7 nin0) g_b1 g_b4_ba (Nat.ne_of_lt (Nat.lt_of_lt_of_le (Nat.lt_of_lt_of_le A1.lt (Nat.le_trans (Nat.le_trans (Nat.le_refl _) K2.1) K3.1)) sq_b4_ba))) rfl ((((((A1.keep K2).keep K3).keep K4).keep K5).keep K6).keep K7) rfl rfl pd_14 rfl d_method_2_45 (by rw [hml]; rfl) rfl (by decide) (by decide) (Nat.le_of_ble_eq_true rfl) (by decide) (by decide) fun v8 T8 L8 X8 q8 => ?_
  obtain ⟨rfl, Nq8, K8, Fp8_0, Fp8_1, Fp8_2, Ap8_0⟩ := q8
  have N8 := Fr.app N7 Nq8
  refine k_some K (w := (.int (1 : Int32))) ?_
  refine m_pop K X8.here hx hby d_method_2_48 rfl rfl ?_
  refine m_aloadN K X8.here hx hby d_method_2_49 rfl rfl rfl ?_
  refine m_iconst K X8.here hx hby (1 : Int32) d_method_2_50 rfl rfl ?_
  refine m_iloadN K X8.here hx hby d_method_2_51 rfl rfl ?_
  refine m_iconst K X8.here hx hby (3 : Int32) d_method_2_52 rfl rfl ?_
  refine m_iadd K X8.here hx hby (13 : Int32) d_method_2_53 rfl rfl ?_
  refine m_ishl K X8.here hx hby (8192 : Int32) d_method_2_54 rfl rfl ?_
  refine k_callS K X8 hx hby hZ [(.int (8192 : Int32))] [(.ref b1)] hown (hw _ (List.mem_of_getElem? (i := 30) rfl)) (hw _ (List.mem_of_getElem? (i := 31) rfl)) (hw _ (List.mem_of_getElem? (i := 32) rfl)) (hw _ (List.mem_of_getElem? (i := 33) rfl)) (cvon l Z a0 hw (8192 : Int32) T8.heap n0 (Nat.le_trans Z0 (Nat.le_trans (Nat.le_trans (Nat.le_trans (Nat.le_trans (Nat.le_trans (Nat.le_trans (Nat.le_trans (Nat.le_trans (Nat.le_refl _) E1.1) K2.1) K3.1) K4.1) K5.1) K6.1) K7.1) K8.1)) S_Integer_IntegerCache_high ((((((((O0.ext E1).keep K2 (allS g_b1 all0)).keep K3 all0).keep K4 (allS g_b1 all0)).keep K5 all0).keep K6 (allS g_b1 (allS g_b4_ba all0))).keep K7 all0).keep K8 (allS g_b1 (allS g_b4_ba all0))) (by decide) (by decide)) rfl rfl rfl pd_13 rfl d_method_2_55 (by rw [hml]; rfl) rfl (by decide) (by decide) (Nat.le_of_ble_eq_true rfl) (by decide) (by decide) fun v9 T9 L9 X9 q9 => ?_
  obtain ⟨b9_b, rfl, Nq9, K9, sq_b9_b, E_b9_b, Fp9_0⟩ := q9
  have N9 := Fr.app N8 Nq9
  have sz_b9_b : h0.size ≤ b9_b := Nat.le_trans (Nat.le_trans (Nat.le_trans (Nat.le_trans (Nat.le_trans (Nat.le_trans (Nat.le_trans (Nat.le_trans (Nat.le_trans (Nat.le_refl _) E1.1) K2.1) K3.1) K4.1) K5.1) K6.1) K7.1) K8.1) sq_b9_b
  have g_b9_b : n0 ≤ b9_b := Nat.le_trans Z0 sz_b9_b
  refine k_some K (w := (.ref b9_b)) ?_
  refine k_callV K X9 hx hby hZ b1 [(.ref b9_b)] [] hown (hw _ (List.mem_of_getElem? (i := 37) rfl)) (hw _ (List.mem_of_getElem? (i := 38) rfl)) (notFace_of_selects (args := #[]) (mvT hZ.wide (hw _ (List.mem_of_getElem? (i := 40) rfl)))) (hw _ (List.mem_of_getElem? (i := 40) rfl)) (hw _ (List.mem_of_getElem? (i := 39) rfl)) (hw _ (List.mem_of_getElem? (i := 2) rfl)) (hw _ (List.mem_of_getElem? (i := 41) rfl)) (c9i3 l Z a0 hw b1 b9_b b4_ba b3_b b5_b b7_b T9.heap n0 (Nat.le_trans Z0 (Nat.le_trans (Nat.le_trans (Nat.le_trans (Nat.le_trans (Nat.le_trans (Nat.le_trans (Nat.le_trans (Nat.le_trans (Nat.le_trans (Nat.le_refl _) E1.1) K2.1) K3.1) K4.1) K5.1) K6.1) K7.1) K8.1) K9.1)) ((((((((A1.keep K2).keep K3).keep K4).keep K5).keep K6).keep K7).keep K8).keep K9) E_b9_b (Fp8_0.keep K9 nin0) (Fp8_1.keep K9 nin0) (Fp8_2.keep K9 nin0) (Ap8_0.keep K9 nin0) g_b1 g_b4_ba (Nat.ne_of_lt (Nat.lt_of_lt_of_le (Nat.lt_of_lt_of_le A1.lt (Nat.le_trans (Nat.le_trans (Nat.le_refl _) K2.1) K3.1)) sq_b4_ba))) rfl ((((((((A1.keep K2).keep K3).keep K4).keep K5).keep K6).keep K7).keep K8).keep K9) rfl rfl pd_14 rfl d_method_2_58 (by rw [hml]; rfl) rfl (by decide) (by decide) (Nat.le_of_ble_eq_true rfl) (by decide) (by decide) fun v10 T10 L10 X10 q10 => ?_
  obtain ⟨rfl, Nq10, K10, Fp10_0, Fp10_1, Fp10_2, Ap10_0⟩ := q10
  have N10 := Fr.app N9 Nq10
  refine k_some K (w := (.int (1 : Int32))) ?_
  refine m_pop K X10.here hx hby d_method_2_61 rfl rfl ?_
  refine m_aloadN K X10.here hx hby d_method_2_62 rfl rfl rfl ?_
  refine m_iconst K X10.here hx hby (1 : Int32) d_method_2_63 rfl rfl ?_
  refine m_iloadN K X10.here hx hby d_method_2_64 rfl rfl ?_
  refine m_iconst K X10.here hx hby (4 : Int32) d_method_2_65 rfl rfl ?_
  refine m_iadd K X10.here hx hby (14 : Int32) d_method_2_66 rfl rfl ?_
  refine m_ishl K X10.here hx hby (16384 : Int32) d_method_2_67 rfl rfl ?_
  refine k_callS K X10 hx hby hZ [(.int (16384 : Int32))] [(.ref b1)] hown (hw _ (List.mem_of_getElem? (i := 30) rfl)) (hw _ (List.mem_of_getElem? (i := 31) rfl)) (hw _ (List.mem_of_getElem? (i := 32) rfl)) (hw _ (List.mem_of_getElem? (i := 33) rfl)) (cvon l Z a0 hw (16384 : Int32) T10.heap n0 (Nat.le_trans Z0 (Nat.le_trans (Nat.le_trans (Nat.le_trans (Nat.le_trans (Nat.le_trans (Nat.le_trans (Nat.le_trans (Nat.le_trans (Nat.le_trans (Nat.le_trans (Nat.le_refl _) E1.1) K2.1) K3.1) K4.1) K5.1) K6.1) K7.1) K8.1) K9.1) K10.1)) S_Integer_IntegerCache_high ((((((((((O0.ext E1).keep K2 (allS g_b1 all0)).keep K3 all0).keep K4 (allS g_b1 all0)).keep K5 all0).keep K6 (allS g_b1 (allS g_b4_ba all0))).keep K7 all0).keep K8 (allS g_b1 (allS g_b4_ba all0))).keep K9 all0).keep K10 (allS g_b1 (allS g_b4_ba all0))) (by decide) (by decide)) rfl rfl rfl pd_13 rfl d_method_2_68 (by rw [hml]; rfl) rfl (by decide) (by decide) (Nat.le_of_ble_eq_true rfl) (by decide) (by decide) fun v11 T11 L11 X11 q11 => ?_
  obtain ⟨b11_b, rfl, Nq11, K11, sq_b11_b, E_b11_b, Fp11_0⟩ := q11
  have N11 := Fr.app N10 Nq11
  have sz_b11_b : h0.size ≤ b11_b := Nat.le_trans (Nat.le_trans (Nat.le_trans (Nat.le_trans (Nat.le_trans (Nat.le_trans (Nat.le_trans (Nat.le_trans (Nat.le_trans (Nat.le_trans (Nat.le_trans (Nat.le_refl _) E1.1) K2.1) K3.1) K4.1) K5.1) K6.1) K7.1) K8.1) K9.1) K10.1) sq_b11_b
  have g_b11_b : n0 ≤ b11_b := Nat.le_trans Z0 sz_b11_b
  refine k_some K (w := (.ref b11_b)) ?_
  refine k_callV K X11 hx hby hZ b1 [(.ref b11_b)] [] hown (hw _ (List.mem_of_getElem? (i := 37) rfl)) (hw _ (List.mem_of_getElem? (i := 38) rfl)) (notFace_of_selects (args := #[]) (mvT hZ.wide (hw _ (List.mem_of_getElem? (i := 40) rfl)))) (hw _ (List.mem_of_getElem? (i := 40) rfl)) (hw _ (List.mem_of_getElem? (i := 39) rfl)) (hw _ (List.mem_of_getElem? (i := 2) rfl)) (hw _ (List.mem_of_getElem? (i := 41) rfl)) (c9i4 l Z a0 hw b1 b11_b b4_ba b3_b b5_b b7_b b9_b T11.heap n0 (Nat.le_trans Z0 (Nat.le_trans (Nat.le_trans (Nat.le_trans (Nat.le_trans (Nat.le_trans (Nat.le_trans (Nat.le_trans (Nat.le_trans (Nat.le_trans (Nat.le_trans (Nat.le_trans (Nat.le_refl _) E1.1) K2.1) K3.1) K4.1) K5.1) K6.1) K7.1) K8.1) K9.1) K10.1) K11.1)) ((((((((((A1.keep K2).keep K3).keep K4).keep K5).keep K6).keep K7).keep K8).keep K9).keep K10).keep K11) E_b11_b (Fp10_0.keep K11 nin0) (Fp10_1.keep K11 nin0) (Fp10_2.keep K11 nin0) (Ap10_0.keep K11 nin0) g_b1 g_b4_ba (Nat.ne_of_lt (Nat.lt_of_lt_of_le (Nat.lt_of_lt_of_le A1.lt (Nat.le_trans (Nat.le_trans (Nat.le_refl _) K2.1) K3.1)) sq_b4_ba))) rfl ((((((((((A1.keep K2).keep K3).keep K4).keep K5).keep K6).keep K7).keep K8).keep K9).keep K10).keep K11) rfl rfl pd_14 rfl d_method_2_71 (by rw [hml]; rfl) rfl (by decide) (by decide) (Nat.le_of_ble_eq_true rfl) (by decide) (by decide) fun v12 T12 L12 X12 q12 => ?_
  obtain ⟨rfl, Nq12, K12, Fp12_0, Fp12_1, Fp12_2, Ap12_0⟩ := q12
  have N12 := Fr.app N11 Nq12
  refine k_some K (w := (.int (1 : Int32))) ?_
  refine m_pop K X12.here hx hby d_method_2_74 rfl rfl ?_
  refine m_aloadN K X12.here hx hby d_method_2_75 rfl rfl rfl ?_
  exact Go.retO X12 hx hby hlk hret rfl (Or.inr (Or.inr (Or.inr (Or.inr ⟨rfl, rfl, rfl⟩)))) d_method_2_76 (by decide) (by decide) (⟨b1, rfl, N12, (((((((((((((Keep.refl h0 []).ext E1).trans K2 (allS (Or.inr sz_b1) all0)).trans K3 all0).trans K4 (allS (Or.inr sz_b1) all0)).trans K5 all0).trans K6 (allS (Or.inr sz_b1) (allS (Or.inr sz_b4_ba) all0))).trans K7 all0).trans K8 (allS (Or.inr sz_b1) (allS (Or.inr sz_b4_ba) all0))).trans K9 all0).trans K10 (allS (Or.inr sz_b1) (allS (Or.inr sz_b4_ba) all0))).trans K11 all0).trans K12 (allS (Or.inr sz_b1) (allS (Or.inr sz_b4_ba) all0))), sz_b1, (((((((((((A1.keep K2).keep K3).keep K4).keep K5).keep K6).keep K7).keep K8).keep K9).keep K10).keep K11).keep K12), ⟨b4_ba, b3_b, b5_b, b7_b, b9_b, b11_b, (((((((((((A1.keep K2).keep K3).keep K4).keep K5).keep K6).keep K7).keep K8).keep K9).keep K10).keep K11).keep K12), Fp12_2, Fp12_1, (Ap12_0).av, (((((((((E_b3_b.keep K4).keep K5).keep K6).keep K7).keep K8).keep K9).keep K10).keep K11).keep K12), (((((((((Fp3_0.keep K4 (ninS (Ne.symm (Nat.ne_of_lt (Nat.lt_of_lt_of_le (Nat.lt_of_lt_of_le A1.lt (Nat.le_trans (Nat.le_refl _) K2.1)) sq_b3_b))) nin0)).keep K5 nin0).keep K6 (ninS (Ne.symm (Nat.ne_of_lt (Nat.lt_of_lt_of_le (Nat.lt_of_lt_of_le A1.lt (Nat.le_trans (Nat.le_refl _) K2.1)) sq_b3_b))) (ninS (Nat.ne_of_lt (Nat.lt_of_lt_of_le (Nat.lt_of_lt_of_le E_b3_b.lt (Nat.le_refl _)) sq_b4_ba)) nin0))).keep K7 nin0).keep K8 (ninS (Ne.symm (Nat.ne_of_lt (Nat.lt_of_lt_of_le (Nat.lt_of_lt_of_le A1.lt (Nat.le_trans (Nat.le_refl _) K2.1)) sq_b3_b))) (ninS (Nat.ne_of_lt (Nat.lt_of_lt_of_le (Nat.lt_of_lt_of_le E_b3_b.lt (Nat.le_refl _)) sq_b4_ba)) nin0))).keep K9 nin0).keep K10 (ninS (Ne.symm (Nat.ne_of_lt (Nat.lt_of_lt_of_le (Nat.lt_of_lt_of_le A1.lt (Nat.le_trans (Nat.le_refl _) K2.1)) sq_b3_b))) (ninS (Nat.ne_of_lt (Nat.lt_of_lt_of_le (Nat.lt_of_lt_of_le E_b3_b.lt (Nat.le_refl _)) sq_b4_ba)) nin0))).keep K11 nin0).keep K12 (ninS (Ne.symm (Nat.ne_of_lt (Nat.lt_of_lt_of_le (Nat.lt_of_lt_of_le A1.lt (Nat.le_trans (Nat.le_refl _) K2.1)) sq_b3_b))) (ninS (Nat.ne_of_lt (Nat.lt_of_lt_of_le (Nat.lt_of_lt_of_le E_b3_b.lt (Nat.le_refl _)) sq_b4_ba)) nin0))), (((((((E_b5_b.keep K6).keep K7).keep K8).keep K9).keep K10).keep K11).keep K12), (((((((Fp5_0.keep K6 (ninS (Ne.symm (Nat.ne_of_lt (Nat.lt_of_lt_of_le (Nat.lt_of_lt_of_le A1.lt (Nat.le_trans (Nat.le_trans (Nat.le_trans (Nat.le_refl _) K2.1) K3.1) K4.1)) sq_b5_b))) (ninS (Ne.symm (Nat.ne_of_lt (Nat.lt_of_lt_of_le (Nat.lt_of_lt_of_le Ap4_0.lt (Nat.le_refl _)) sq_b5_b))) nin0))).keep K7 nin0).keep K8 (ninS (Ne.symm (Nat.ne_of_lt (Nat.lt_of_lt_of_le (Nat.lt_of_lt_of_le A1.lt (Nat.le_trans (Nat.le_trans (Nat.le_trans (Nat.le_refl _) K2.1) K3.1) K4.1)) sq_b5_b))) (ninS (Ne.symm (Nat.ne_of_lt (Nat.lt_of_lt_of_le (Nat.lt_of_lt_of_le Ap4_0.lt (Nat.le_refl _)) sq_b5_b))) nin0))).keep K9 nin0).keep K10 (ninS (Ne.symm (Nat.ne_of_lt (Nat.lt_of_lt_of_le (Nat.lt_of_lt_of_le A1.lt (Nat.le_trans (Nat.le_trans (Nat.le_trans (Nat.le_refl _) K2.1) K3.1) K4.1)) sq_b5_b))) (ninS (Ne.symm (Nat.ne_of_lt (Nat.lt_of_lt_of_le (Nat.lt_of_lt_of_le Ap4_0.lt (Nat.le_refl _)) sq_b5_b))) nin0))).keep K11 nin0).keep K12 (ninS (Ne.symm (Nat.ne_of_lt (Nat.lt_of_lt_of_le (Nat.lt_of_lt_of_le A1.lt (Nat.le_trans (Nat.le_trans (Nat.le_trans (Nat.le_refl _) K2.1) K3.1) K4.1)) sq_b5_b))) (ninS (Ne.symm (Nat.ne_of_lt (Nat.lt_of_lt_of_le (Nat.lt_of_lt_of_le Ap4_0.lt (Nat.le_refl _)) sq_b5_b))) nin0))), (((((E_b7_b.keep K8).keep K9).keep K10).keep K11).keep K12), (((((Fp7_0.keep K8 (ninS (Ne.symm (Nat.ne_of_lt (Nat.lt_of_lt_of_le (Nat.lt_of_lt_of_le A1.lt (Nat.le_trans (Nat.le_trans (Nat.le_trans (Nat.le_trans (Nat.le_trans (Nat.le_refl _) K2.1) K3.1) K4.1) K5.1) K6.1)) sq_b7_b))) (ninS (Ne.symm (Nat.ne_of_lt (Nat.lt_of_lt_of_le (Nat.lt_of_lt_of_le Ap4_0.lt (Nat.le_trans (Nat.le_trans (Nat.le_refl _) K5.1) K6.1)) sq_b7_b))) nin0))).keep K9 nin0).keep K10 (ninS (Ne.symm (Nat.ne_of_lt (Nat.lt_of_lt_of_le (Nat.lt_of_lt_of_le A1.lt (Nat.le_trans (Nat.le_trans (Nat.le_trans (Nat.le_trans (Nat.le_trans (Nat.le_refl _) K2.1) K3.1) K4.1) K5.1) K6.1)) sq_b7_b))) (ninS (Ne.symm (Nat.ne_of_lt (Nat.lt_of_lt_of_le (Nat.lt_of_lt_of_le Ap4_0.lt (Nat.le_trans (Nat.le_trans (Nat.le_refl _) K5.1) K6.1)) sq_b7_b))) nin0))).keep K11 nin0).keep K12 (ninS (Ne.symm (Nat.ne_of_lt (Nat.lt_of_lt_of_le (Nat.lt_of_lt_of_le A1.lt (Nat.le_trans (Nat.le_trans (Nat.le_trans (Nat.le_trans (Nat.le_trans (Nat.le_refl _) K2.1) K3.1) K4.1) K5.1) K6.1)) sq_b7_b))) (ninS (Ne.symm (Nat.ne_of_lt (Nat.lt_of_lt_of_le (Nat.lt_of_lt_of_le Ap4_0.lt (Nat.le_trans (Nat.le_trans (Nat.le_refl _) K5.1) K6.1)) sq_b7_b))) nin0))), (((E_b9_b.keep K10).keep K11).keep K12), (((Fp9_0.keep K10 (ninS (Ne.symm (Nat.ne_of_lt (Nat.lt_of_lt_of_le (Nat.lt_of_lt_of_le A1.lt (Nat.le_trans (Nat.le_trans (Nat.le_trans (Nat.le_trans (Nat.le_trans (Nat.le_trans (Nat.le_trans (Nat.le_refl _) K2.1) K3.1) K4.1) K5.1) K6.1) K7.1) K8.1)) sq_b9_b))) (ninS (Ne.symm (Nat.ne_of_lt (Nat.lt_of_lt_of_le (Nat.lt_of_lt_of_le Ap4_0.lt (Nat.le_trans (Nat.le_trans (Nat.le_trans (Nat.le_trans (Nat.le_refl _) K5.1) K6.1) K7.1) K8.1)) sq_b9_b))) nin0))).keep K11 nin0).keep K12 (ninS (Ne.symm (Nat.ne_of_lt (Nat.lt_of_lt_of_le (Nat.lt_of_lt_of_le A1.lt (Nat.le_trans (Nat.le_trans (Nat.le_trans (Nat.le_trans (Nat.le_trans (Nat.le_trans (Nat.le_trans (Nat.le_refl _) K2.1) K3.1) K4.1) K5.1) K6.1) K7.1) K8.1)) sq_b9_b))) (ninS (Ne.symm (Nat.ne_of_lt (Nat.lt_of_lt_of_le (Nat.lt_of_lt_of_le Ap4_0.lt (Nat.le_trans (Nat.le_trans (Nat.le_trans (Nat.le_trans (Nat.le_refl _) K5.1) K6.1) K7.1) K8.1)) sq_b9_b))) nin0))), (E_b11_b.keep K12), (Fp11_0.keep K12 (ninS (Ne.symm (Nat.ne_of_lt (Nat.lt_of_lt_of_le (Nat.lt_of_lt_of_le A1.lt (Nat.le_trans (Nat.le_trans (Nat.le_trans (Nat.le_trans (Nat.le_trans (Nat.le_trans (Nat.le_trans (Nat.le_trans (Nat.le_trans (Nat.le_refl _) K2.1) K3.1) K4.1) K5.1) K6.1) K7.1) K8.1) K9.1) K10.1)) sq_b11_b))) (ninS (Ne.symm (Nat.ne_of_lt (Nat.lt_of_lt_of_le (Nat.lt_of_lt_of_le Ap4_0.lt (Nat.le_trans (Nat.le_trans (Nat.le_trans (Nat.le_trans (Nat.le_trans (Nat.le_trans (Nat.le_refl _) K5.1) K6.1) K7.1) K8.1) K9.1) K10.1)) sq_b11_b))) nin0))), (Or.inr ⟨sz_b1, ((((((((((((A1.keep K2).keep K3).keep K4).keep K5).keep K6).keep K7).keep K8).keep K9).keep K10).keep K11).keep K12)).lt⟩), (Or.inr ⟨sz_b4_ba, (Ap12_0).lt⟩), (Or.inr ⟨sz_b3_b, ((((((((((E_b3_b.keep K4).keep K5).keep K6).keep K7).keep K8).keep K9).keep K10).keep K11).keep K12)).lt⟩), (Or.inr ⟨sz_b5_b, ((((((((E_b5_b.keep K6).keep K7).keep K8).keep K9).keep K10).keep K11).keep K12)).lt⟩), (Or.inr ⟨sz_b7_b, ((((((E_b7_b.keep K8).keep K9).keep K10).keep K11).keep K12)).lt⟩), (Or.inr ⟨sz_b9_b, ((((E_b9_b.keep K10).keep K11).keep K12)).lt⟩), (Or.inr ⟨sz_b11_b, ((E_b11_b.keep K12)).lt⟩)⟩⟩)
theorem d_jdk_65_111_0 : decode jdk_65_method_111_code 0 = .ok (.iconst 0, 1) := by decide +kernel
theorem d_jdk_65_111_1 : decode jdk_65_method_111_code 1 = .ok (.istore_n 2, 1) := by decide +kernel
theorem d_jdk_65_111_2 : decode jdk_65_method_111_code 2 = .ok (.aload_n 0, 1) := by decide +kernel
theorem d_jdk_65_111_3 : decode jdk_65_method_111_code 3 = .ok (.arraylength, 1) := by decide +kernel
theorem d_jdk_65_111_4 : decode jdk_65_method_111_code 4 = .ok (.istore_n 3, 1) := by decide +kernel
theorem d_jdk_65_111_5 : decode jdk_65_method_111_code 5 = .ok (.iload_n 2, 1) := by decide +kernel
theorem d_jdk_65_111_6 : decode jdk_65_method_111_code 6 = .ok (.iload_n 3, 1) := by decide +kernel
theorem d_jdk_65_111_7 : decode jdk_65_method_111_code 7 = .ok (.if_icmp .ge 13, 3) := by decide +kernel
theorem d_jdk_65_111_10 : decode jdk_65_method_111_code 10 = .ok (.aload_n 0, 1) := by decide +kernel
theorem d_jdk_65_111_11 : decode jdk_65_method_111_code 11 = .ok (.iload_n 2, 1) := by decide +kernel
theorem d_jdk_65_111_12 : decode jdk_65_method_111_code 12 = .ok (.iload_n 1, 1) := by decide +kernel
theorem d_jdk_65_111_13 : decode jdk_65_method_111_code 13 = .ok (.bastore, 1) := by decide +kernel
theorem d_jdk_65_111_14 : decode jdk_65_method_111_code 14 = .ok (.iinc 2 1, 3) := by decide +kernel
theorem d_jdk_65_111_17 : decode jdk_65_method_111_code 17 = .ok (.goto (-12), 3) := by decide +kernel
theorem d_jdk_65_111_20 : decode jdk_65_method_111_code 20 = .ok (.return_, 1) := by decide +kernel
theorem pn_java_util_Arrays : plainName "java/util/Arrays" = true := by first | (simp [plainName, overriddenIn]; done) | decide +kernel
theorem effi (m : MethodId) (x0 : Addr) (x1 : Int32) : entryFrame m #[(.ref x0), (.int x1)] 4 = mkF m 0 #[.val (.ref x0), .val (.int x1), .unset, .unset] [] := by first | (simp [entryFrame, mkF, argsToLocals, Value.category]; done) | rfl
set_option maxRecDepth 65536 in
set_option maxHeartbeats 40000000 in
theorem cfi (l : Launch) (Z : State) (a0 : Array Value) (hw : ∀ d ∈ tables_1, d.before a0 Z = true) (a1 : Addr) (h0 : Heap) (n0 : Nat) (Z0 : n0 ≤ h0.size) (A_a1 : Av Z h0 a1 .boolean [(.int (0 : Int32)), (.int (0 : Int32)), (.int (0 : Int32)), (.int (0 : Int32)), (.int (0 : Int32))]) (g_a1 : n0 ≤ a1) :
    Con l Z (⟨"java/util/Arrays", "fill", "([ZZ)V"⟩ : MethodName) jdk_65_method_111_code 4 none ({ frames := 0, cells := 0, slots := 0, locals := 0 } : Room) [] #[(.ref a1), (.int (1 : Int32))] h0 (fun v h L => v = none ∧ Fr n0 L ∧ Keep h0 h [a1] ∧ Av Z h a1 .boolean [(.int (1 : Int32)), (.int (1 : Int32)), (.int (1 : Int32)), (.int (1 : Int32)), (.int (1 : Int32))]) := by
  refine Con.of (plainFor_of_name pn_java_util_Arrays) #[.val (.ref a1), .val (.int (1 : Int32)), .unset, .unset] (fun m => effi m a1 (1 : Int32)) ?_
  intro p e s m below meth c s₁ K hx hby hml hown hnm hret hlk hZ X0 e0 hnd
  have N0 := Fr.nil n0
  refine m_iconst K X0.here hx hby (0 : Int32) d_jdk_65_111_0 rfl rfl ?_
  refine m_istoreN K X0.here hx hby #[.val (.ref a1), .val (.int (1 : Int32)), .val (.int (0 : Int32)), .unset] d_jdk_65_111_1 rfl rfl ?_
  refine m_aloadN K X0.here hx hby d_jdk_65_111_2 rfl rfl rfl ?_
  refine k_len K X0 hx hby hZ (5 : Int32) e0 A_a1 rfl d_jdk_65_111_3 rfl ?_
  refine m_istoreN K X0.here hx hby #[.val (.ref a1), .val (.int (1 : Int32)), .val (.int (0 : Int32)), .val (.int (5 : Int32))] d_jdk_65_111_4 rfl rfl ?_
  refine m_iloadN K X0.here hx hby d_jdk_65_111_5 rfl rfl ?_
  refine m_iloadN K X0.here hx hby d_jdk_65_111_6 rfl rfl ?_
  refine m_icmpN K X0.here hx hby (q := 10) d_jdk_65_111_7 (tlt (by decide : (0 : Int32) < (5 : Int32))).2.1 rfl ?_
  refine m_aloadN K X0.here hx hby d_jdk_65_111_10 rfl rfl rfl ?_
  refine m_iloadN K X0.here hx hby d_jdk_65_111_11 rfl rfl ?_
  refine m_iloadN K X0.here hx hby d_jdk_65_111_12 rfl rfl ?_
  refine k_stZ K X0 hx hby hZ e0 A_a1 (by decide) (Nat.le_of_ble_eq_true rfl) d_jdk_65_111_13 rfl fun T1 h1 X1 e1 W1 V1 => ?_
  replace V1 : Av Z h1 a1 .boolean [(.int (1 : Int32)), (.int (0 : Int32)), (.int (0 : Int32)), (.int (0 : Int32)), (.int (0 : Int32))] := V1
  have N1 := Fr.snoc X1 N0 g_a1
  refine m_iinc K X1.here hx hby #[.val (.ref a1), .val (.int (1 : Int32)), .val (.int (1 : Int32)), .val (.int (5 : Int32))] d_jdk_65_111_14 rfl rfl rfl ?_
  refine m_goto K X1.here hx hby (q := 5) d_jdk_65_111_17 (by decide) rfl ?_
  refine m_iloadN K X1.here hx hby d_jdk_65_111_5 rfl rfl ?_
  refine m_iloadN K X1.here hx hby d_jdk_65_111_6 rfl rfl ?_
  refine m_icmpN K X1.here hx hby (q := 10) d_jdk_65_111_7 (tlt (by decide : (1 : Int32) < (5 : Int32))).2.1 rfl ?_
  refine m_aloadN K X1.here hx hby d_jdk_65_111_10 rfl rfl rfl ?_
  refine m_iloadN K X1.here hx hby d_jdk_65_111_11 rfl rfl ?_
  refine m_iloadN K X1.here hx hby d_jdk_65_111_12 rfl rfl ?_
  refine k_stZ K X1 hx hby hZ e1 V1 (by decide) (Nat.le_of_ble_eq_true rfl) d_jdk_65_111_13 rfl fun T2 h2 X2 e2 W2 V2 => ?_
  replace V2 : Av Z h2 a1 .boolean [(.int (1 : Int32)), (.int (1 : Int32)), (.int (0 : Int32)), (.int (0 : Int32)), (.int (0 : Int32))] := V2
  have N2 := Fr.snoc X2 N1 g_a1
  refine m_iinc K X2.here hx hby #[.val (.ref a1), .val (.int (1 : Int32)), .val (.int (2 : Int32)), .val (.int (5 : Int32))] d_jdk_65_111_14 rfl rfl rfl ?_
  refine m_goto K X2.here hx hby (q := 5) d_jdk_65_111_17 (by decide) rfl ?_
  refine m_iloadN K X2.here hx hby d_jdk_65_111_5 rfl rfl ?_
  refine m_iloadN K X2.here hx hby d_jdk_65_111_6 rfl rfl ?_
  refine m_icmpN K X2.here hx hby (q := 10) d_jdk_65_111_7 (tlt (by decide : (2 : Int32) < (5 : Int32))).2.1 rfl ?_
  refine m_aloadN K X2.here hx hby d_jdk_65_111_10 rfl rfl rfl ?_
  refine m_iloadN K X2.here hx hby d_jdk_65_111_11 rfl rfl ?_
  refine m_iloadN K X2.here hx hby d_jdk_65_111_12 rfl rfl ?_
  refine k_stZ K X2 hx hby hZ e2 V2 (by decide) (Nat.le_of_ble_eq_true rfl) d_jdk_65_111_13 rfl fun T3 h3 X3 e3 W3 V3 => ?_
  replace V3 : Av Z h3 a1 .boolean [(.int (1 : Int32)), (.int (1 : Int32)), (.int (1 : Int32)), (.int (0 : Int32)), (.int (0 : Int32))] := V3
  have N3 := Fr.snoc X3 N2 g_a1
  refine m_iinc K X3.here hx hby #[.val (.ref a1), .val (.int (1 : Int32)), .val (.int (3 : Int32)), .val (.int (5 : Int32))] d_jdk_65_111_14 rfl rfl rfl ?_
  refine m_goto K X3.here hx hby (q := 5) d_jdk_65_111_17 (by decide) rfl ?_
  refine m_iloadN K X3.here hx hby d_jdk_65_111_5 rfl rfl ?_
  refine m_iloadN K X3.here hx hby d_jdk_65_111_6 rfl rfl ?_
  refine m_icmpN K X3.here hx hby (q := 10) d_jdk_65_111_7 (tlt (by decide : (3 : Int32) < (5 : Int32))).2.1 rfl ?_
  refine m_aloadN K X3.here hx hby d_jdk_65_111_10 rfl rfl rfl ?_
  refine m_iloadN K X3.here hx hby d_jdk_65_111_11 rfl rfl ?_
  refine m_iloadN K X3.here hx hby d_jdk_65_111_12 rfl rfl ?_
  refine k_stZ K X3 hx hby hZ e3 V3 (by decide) (Nat.le_of_ble_eq_true rfl) d_jdk_65_111_13 rfl fun T4 h4 X4 e4 W4 V4 => ?_
  replace V4 : Av Z h4 a1 .boolean [(.int (1 : Int32)), (.int (1 : Int32)), (.int (1 : Int32)), (.int (1 : Int32)), (.int (0 : Int32))] := V4
  have N4 := Fr.snoc X4 N3 g_a1
  refine m_iinc K X4.here hx hby #[.val (.ref a1), .val (.int (1 : Int32)), .val (.int (4 : Int32)), .val (.int (5 : Int32))] d_jdk_65_111_14 rfl rfl rfl ?_
  refine m_goto K X4.here hx hby (q := 5) d_jdk_65_111_17 (by decide) rfl ?_
  refine m_iloadN K X4.here hx hby d_jdk_65_111_5 rfl rfl ?_
  refine m_iloadN K X4.here hx hby d_jdk_65_111_6 rfl rfl ?_
  refine m_icmpN K X4.here hx hby (q := 10) d_jdk_65_111_7 (tlt (by decide : (4 : Int32) < (5 : Int32))).2.1 rfl ?_
  refine m_aloadN K X4.here hx hby d_jdk_65_111_10 rfl rfl rfl ?_
  refine m_iloadN K X4.here hx hby d_jdk_65_111_11 rfl rfl ?_
  refine m_iloadN K X4.here hx hby d_jdk_65_111_12 rfl rfl ?_
  refine k_stZ K X4 hx hby hZ e4 V4 (by decide) (Nat.le_of_ble_eq_true rfl) d_jdk_65_111_13 rfl fun T5 h5 X5 e5 W5 V5 => ?_
  replace V5 : Av Z h5 a1 .boolean [(.int (1 : Int32)), (.int (1 : Int32)), (.int (1 : Int32)), (.int (1 : Int32)), (.int (1 : Int32))] := V5
  have N5 := Fr.snoc X5 N4 g_a1
  refine m_iinc K X5.here hx hby #[.val (.ref a1), .val (.int (1 : Int32)), .val (.int (5 : Int32)), .val (.int (5 : Int32))] d_jdk_65_111_14 rfl rfl rfl ?_
  refine m_goto K X5.here hx hby (q := 5) d_jdk_65_111_17 (by decide) rfl ?_
  refine m_iloadN K X5.here hx hby d_jdk_65_111_5 rfl rfl ?_
  refine m_iloadN K X5.here hx hby d_jdk_65_111_6 rfl rfl ?_
  refine m_icmpY K X5.here hx hby (q := 20) d_jdk_65_111_7 (flt (by decide : ¬ ((5 : Int32) < (5 : Int32)))).2.1 (by decide) rfl ?_
  exact Go.retV X5 hx hby hlk hret d_jdk_65_111_20 (by decide) (by decide) (by rw [e5]; exact ⟨rfl, N5, ((((((Keep.refl h0 [a1]).wr W1 (Or.inl (by simp))).wr W2 (Or.inl (by simp))).wr W3 (Or.inl (by simp))).wr W4 (Or.inl (by simp))).wr W5 (Or.inl (by simp))), V5⟩)
theorem d_prog_6_1_0 : decode prog_6_method_1_code 0 = .ok (.aload_n 0, 1) := by decide +kernel
theorem d_prog_6_1_1 : decode prog_6_method_1_code 1 = .ok (.invokespecial 3, 3) := by decide +kernel
theorem d_prog_6_1_4 : decode prog_6_method_1_code 4 = .ok (.aload_n 0, 1) := by decide +kernel
theorem d_prog_6_1_5 : decode prog_6_method_1_code 5 = .ok (.iconst 3, 1) := by decide +kernel
theorem d_prog_6_1_6 : decode prog_6_method_1_code 6 = .ok (.iconst 5, 1) := by decide +kernel
theorem d_prog_6_1_7 : decode prog_6_method_1_code 7 = .ok (.multianewarray 9 2, 4) := by decide +kernel
theorem d_prog_6_1_11 : decode prog_6_method_1_code 11 = .ok (.putfield 11, 3) := by decide +kernel
theorem d_prog_6_1_14 : decode prog_6_method_1_code 14 = .ok (.aload_n 0, 1) := by decide +kernel
theorem d_prog_6_1_15 : decode prog_6_method_1_code 15 = .ok (.iconst 3, 1) := by decide +kernel
theorem d_prog_6_1_16 : decode prog_6_method_1_code 16 = .ok (.newarray .boolean, 2) := by decide +kernel
theorem d_prog_6_1_18 : decode prog_6_method_1_code 18 = .ok (.putfield 14, 3) := by decide +kernel
theorem d_prog_6_1_21 : decode prog_6_method_1_code 21 = .ok (.aload_n 0, 1) := by decide +kernel
theorem d_prog_6_1_22 : decode prog_6_method_1_code 22 = .ok (.aload_n 1, 1) := by decide +kernel
theorem d_prog_6_1_23 : decode prog_6_method_1_code 23 = .ok (.putfield 18, 3) := by decide +kernel
theorem d_prog_6_1_26 : decode prog_6_method_1_code 26 = .ok (.aload_n 0, 1) := by decide +kernel
theorem d_prog_6_1_27 : decode prog_6_method_1_code 27 = .ok (.getfield 11, 3) := by decide +kernel
theorem d_prog_6_1_30 : decode prog_6_method_1_code 30 = .ok (.astore_n 2, 1) := by decide +kernel
theorem d_prog_6_1_31 : decode prog_6_method_1_code 31 = .ok (.aload_n 2, 1) := by decide +kernel
theorem d_prog_6_1_32 : decode prog_6_method_1_code 32 = .ok (.arraylength, 1) := by decide +kernel
theorem d_prog_6_1_33 : decode prog_6_method_1_code 33 = .ok (.istore_n 3, 1) := by decide +kernel
theorem d_prog_6_1_34 : decode prog_6_method_1_code 34 = .ok (.iconst 0, 1) := by decide +kernel
theorem d_prog_6_1_35 : decode prog_6_method_1_code 35 = .ok (.istore 4, 2) := by decide +kernel
theorem d_prog_6_1_37 : decode prog_6_method_1_code 37 = .ok (.iload 4, 2) := by decide +kernel
theorem d_prog_6_1_39 : decode prog_6_method_1_code 39 = .ok (.iload_n 3, 1) := by decide +kernel
theorem d_prog_6_1_40 : decode prog_6_method_1_code 40 = .ok (.if_icmp .ge 21, 3) := by decide +kernel
theorem d_prog_6_1_43 : decode prog_6_method_1_code 43 = .ok (.aload_n 2, 1) := by decide +kernel
theorem d_prog_6_1_44 : decode prog_6_method_1_code 44 = .ok (.iload 4, 2) := by decide +kernel
theorem d_prog_6_1_46 : decode prog_6_method_1_code 46 = .ok (.aaload, 1) := by decide +kernel
theorem d_prog_6_1_47 : decode prog_6_method_1_code 47 = .ok (.astore 5, 2) := by decide +kernel
theorem d_prog_6_1_49 : decode prog_6_method_1_code 49 = .ok (.aload 5, 2) := by decide +kernel
theorem d_prog_6_1_51 : decode prog_6_method_1_code 51 = .ok (.iconst 1, 1) := by decide +kernel
theorem d_prog_6_1_52 : decode prog_6_method_1_code 52 = .ok (.invokestatic 22, 3) := by decide +kernel
theorem d_prog_6_1_55 : decode prog_6_method_1_code 55 = .ok (.iinc 4 1, 3) := by decide +kernel
theorem d_prog_6_1_58 : decode prog_6_method_1_code 58 = .ok (.goto (-21), 3) := by decide +kernel
theorem d_prog_6_1_61 : decode prog_6_method_1_code 61 = .ok (.return_, 1) := by decide +kernel
theorem pd_15 : parseMethodDescriptor "([ZZ)V" = some ⟨[(.array .boolean), .boolean], none⟩ := by decide +kernel
theorem efsi (m : MethodId) (x0 : Addr) (x1 : Addr) : entryFrame m #[(.ref x0), (.ref x1)] 6 = mkF m 0 #[.val (.ref x0), .val (.ref x1), .unset, .unset, .unset, .unset] [] := by first | (simp [entryFrame, mkF, argsToLocals, Value.category]; done) | rfl
set_option maxRecDepth 65536 in
set_option maxHeartbeats 40000000 in
theorem csi (l : Launch) (Z : State) (a0 : Array Value) (hw : ∀ d ∈ tables_1, d.before a0 Z = true) (a1 : Addr) (a2 : Addr) (h0 : Heap) (n0 : Nat) (Z0 : n0 ≤ h0.size) (E_a1 : Exa Z h0 a1 "com/example/craterworks/craterworks/SharesStation") (F_occupied_a1 : Fld Z h0 a1 "com/example/craterworks/craterworks/SharesStation" "occupied" "[[Z" .null) (F_uncovered_a1 : Fld Z h0 a1 "com/example/craterworks/craterworks/SharesStation" "uncovered" "[Z" .null) (F_icons_a1 : Fld Z h0 a1 "com/example/craterworks/craterworks/SharesStation" "icons" "Ljava/util/List;" .null) (g_a1 : n0 ≤ a1) :
    Con l Z (⟨"com/example/craterworks/craterworks/SharesStation", "<init>", "(Ljava/util/List;)V"⟩ : MethodName) prog_6_method_1_code 6 none ({ frames := 1, cells := 5, slots := 21, locals := 15 } : Room) [] #[(.ref a1), (.ref a2)] h0 (fun v h L => ∃ bo : Addr, ∃ x0 : Addr, ∃ x1 : Addr, ∃ x2 : Addr, ∃ bu : Addr, v = none ∧ Fr n0 L ∧ Keep h0 h [a1] ∧ h0.size ≤ bo ∧ h0.size ≤ x0 ∧ h0.size ≤ x1 ∧ h0.size ≤ x2 ∧ h0.size ≤ bu ∧ bo ≠ x0 ∧ bo ≠ x1 ∧ bo ≠ x2 ∧ bo ≠ bu ∧ x0 ≠ x1 ∧ x0 ≠ x2 ∧ x0 ≠ bu ∧ x1 ≠ x2 ∧ x1 ≠ bu ∧ x2 ≠ bu ∧ Fld Z h a1 "com/example/craterworks/craterworks/SharesStation" "occupied" "[[Z" (.ref bo) ∧ Fld Z h a1 "com/example/craterworks/craterworks/SharesStation" "uncovered" "[Z" (.ref bu) ∧ Fld Z h a1 "com/example/craterworks/craterworks/SharesStation" "icons" "Ljava/util/List;" (.ref a2) ∧ Av Z h bo (.array .boolean) [(.ref x0), (.ref x1), (.ref x2)] ∧ Av Z h x0 .boolean [(.int (1 : Int32)), (.int (1 : Int32)), (.int (1 : Int32)), (.int (1 : Int32)), (.int (1 : Int32))] ∧ Av Z h x1 .boolean [(.int (1 : Int32)), (.int (1 : Int32)), (.int (1 : Int32)), (.int (1 : Int32)), (.int (1 : Int32))] ∧ Av Z h x2 .boolean [(.int (1 : Int32)), (.int (1 : Int32)), (.int (1 : Int32)), (.int (1 : Int32)), (.int (1 : Int32))] ∧ Av Z h bu .boolean [(.int (0 : Int32)), (.int (0 : Int32)), (.int (0 : Int32))]) := by
  refine Con.of (plainFor_of_name pn_com_example_craterworks_craterworks_SharesStation) #[.val (.ref a1), .val (.ref a2), .unset, .unset, .unset, .unset] (fun m => efsi m a1 a2) ?_
  intro p e s m below meth c s₁ K hx hby hml hown hnm hret hlk hZ X0 e0 hnd
  have N0 := Fr.nil n0
  refine m_aloadN K X0.here hx hby d_prog_6_1_0 rfl rfl rfl ?_
  refine k_initO K X0 hx hby hZ hown (hw _ (List.mem_of_getElem? (i := 97) rfl)) (hw _ (List.mem_of_getElem? (i := 19) rfl)) (hw _ (List.mem_of_getElem? (i := 20) rfl)) e0 d_prog_6_1_1 (by rw [hml]; rfl) rfl (by decide) (Nat.le_of_ble_eq_true rfl) fun T1 X1 e1 => ?_
  refine m_aloadN K X1.here hx hby d_prog_6_1_4 rfl rfl rfl ?_
  refine m_iconst K X1.here hx hby (3 : Int32) d_prog_6_1_5 rfl rfl ?_
  refine m_iconst K X1.here hx hby (5 : Int32) d_prog_6_1_6 rfl rfl ?_
  obtain ⟨T2, h2, cA2, cB2, X2, e2, E2, A2, OA2, EA2, IN2, st2⟩ := gridM X1 hx hZ.wide hown (ty := .boolean) (C := "[Z") (ad := "[[Z") (by decide) (by decide) (hw _ (List.mem_of_getElem? (i := 98) rfl)) (hw _ (List.mem_of_getElem? (i := 99) rfl)) (hw _ (List.mem_of_getElem? (i := 100) rfl)) e1 (g := (mkF m 7 #[.val (.ref a1), .val (.ref a2), .unset, .unset, .unset, .unset] [(.int (5 : Int32)), (.int (3 : Int32)), (.ref a1)])) rfl (hb hby d_prog_6_1_7) rfl (by decide) (by decide) (N := 3) rfl rfl (cap := 5) (by decide) (by decide) (by decide) rfl rfl (by decide) (by decide)
  obtain ⟨b2, g2⟩ : ∃ z, z = h0.size := ⟨_, rfl⟩
  rw [← g2] at A2 EA2 st2 IN2
  have sz_b2 : h0.size ≤ b2 := Nat.le_trans (Nat.le_refl _) (Nat.le_of_eq g2.symm)
  have g_b2 : n0 ≤ b2 := Nat.le_trans Z0 sz_b2
  obtain ⟨b2_0, gb2_0⟩ : ∃ z, z = b2 + 1 + 0 := ⟨_, rfl⟩
  obtain ⟨b2_1, gb2_1⟩ : ∃ z, z = b2 + 1 + 1 := ⟨_, rfl⟩
  obtain ⟨b2_2, gb2_2⟩ : ∃ z, z = b2 + 1 + 2 := ⟨_, rfl⟩
  replace A2 : Arv Z h2 b2 cA2 (.array .boolean) (3 : Int32) ([b2_0, b2_1, b2_2].map .ref) .null := by subst gb2_0 gb2_1 gb2_2; exact A2
  have V_b2 : Av Z h2 b2 (.array .boolean) [(.ref b2_0), (.ref b2_1), (.ref b2_2)] := Av.ofArv A2 rfl
  have V_b2_0 : Av Z h2 b2_0 .boolean [(.int (0 : Int32)), (.int (0 : Int32)), (.int (0 : Int32)), (.int (0 : Int32)), (.int (0 : Int32))] := Av.new (IN2 0 b2_0 (by subst gb2_0 gb2_1 gb2_2; rfl)).1 rfl
  have sz_b2_0 : h0.size ≤ b2_0 := Nat.le_trans sz_b2 (own_le gb2_0)
  have g_b2_0 : n0 ≤ b2_0 := Nat.le_trans Z0 sz_b2_0
  have V_b2_1 : Av Z h2 b2_1 .boolean [(.int (0 : Int32)), (.int (0 : Int32)), (.int (0 : Int32)), (.int (0 : Int32)), (.int (0 : Int32))] := Av.new (IN2 1 b2_1 (by subst gb2_0 gb2_1 gb2_2; rfl)).1 rfl
  have sz_b2_1 : h0.size ≤ b2_1 := Nat.le_trans sz_b2 (own_le gb2_1)
  have g_b2_1 : n0 ≤ b2_1 := Nat.le_trans Z0 sz_b2_1
  have V_b2_2 : Av Z h2 b2_2 .boolean [(.int (0 : Int32)), (.int (0 : Int32)), (.int (0 : Int32)), (.int (0 : Int32)), (.int (0 : Int32))] := Av.new (IN2 2 b2_2 (by subst gb2_0 gb2_1 gb2_2; rfl)).1 rfl
  have sz_b2_2 : h0.size ≤ b2_2 := Nat.le_trans sz_b2 (own_le gb2_2)
  have g_b2_2 : n0 ≤ b2_2 := Nat.le_trans Z0 sz_b2_2
  refine k_go K st2 ?_
  show Go _ _ _ _ _ _ _ (T2.setTop (mkF m 11 #[.val (.ref a1), .val (.ref a2), .unset, .unset, .unset, .unset] [(.ref b2), (.ref a1)]))
  refine k_putF K X2 hx hby hZ hown (host := "") (Or.inl (hw _ (List.mem_of_getElem? (i := 101) rfl))) Via.refl e2 (F_occupied_a1.ext E2) (E_a1.ext E2) (Or.inr ⟨(hw _ (List.mem_of_getElem? (i := 102) rfl)), rfl, hnm⟩) (hw _ (List.mem_of_getElem? (i := 92) rfl)) (ty := (.array (.array .boolean))) (by decide) rfl rfl d_prog_6_1_11 rfl fun T3 h3 X3 e3 W3 => ?_
  have Fw3 := (F_occupied_a1.ext E2).same W3
  have N3 := Fr.snoc X3 N0 g_a1
  refine m_aloadN K X3.here hx hby d_prog_6_1_14 rfl rfl rfl ?_
  refine m_iconst K X3.here hx hby (3 : Int32) d_prog_6_1_15 rfl rfl ?_
  refine k_newP K X3 hx hby hZ 3 3 (hw _ (List.mem_of_getElem? (i := 100) rfl)) e3 d_prog_6_1_16 rfl (by decide) rfl (by decide) (by decide) (by decide) (by decide) fun T4 h4 b4 X4 e4 E4 g4 V_b4 => ?_
  have sz_b4 : h0.size ≤ b4 := Nat.le_trans (Nat.le_trans (Nat.le_trans (Nat.le_refl _) E2.1) (Keep.of_wr W3).1) (Nat.le_of_eq g4.symm)
  have g_b4 : n0 ≤ b4 := Nat.le_trans Z0 sz_b4
  replace V_b4 : Av Z h4 b4 .boolean [(.int (0 : Int32)), (.int (0 : Int32)), (.int (0 : Int32))] := V_b4
  refine k_putF K X4 hx hby hZ hown (host := "") (Or.inl (hw _ (List.mem_of_getElem? (i := 103) rfl))) Via.refl e4 (((F_uncovered_a1.ext E2).other W3 (Or.inr (slot_ne (Or.inr (hw _ (List.mem_of_getElem? (i := 104) rfl))) (Or.inr (hw _ (List.mem_of_getElem? (i := 102) rfl))) (by decide) (t := (.array .boolean)) (t' := (.array (.array .boolean))) (by decide) (by decide)))).ext E4) (((E_a1.ext E2).wr W3).ext E4) (Or.inr ⟨(hw _ (List.mem_of_getElem? (i := 104) rfl)), rfl, hnm⟩) (hw _ (List.mem_of_getElem? (i := 92) rfl)) (ty := (.array .boolean)) (by decide) rfl rfl d_prog_6_1_18 rfl fun T5 h5 X5 e5 W5 => ?_
  have Fw5 := (((F_uncovered_a1.ext E2).other W3 (Or.inr (slot_ne (Or.inr (hw _ (List.mem_of_getElem? (i := 104) rfl))) (Or.inr (hw _ (List.mem_of_getElem? (i := 102) rfl))) (by decide) (t := (.array .boolean)) (t' := (.array (.array .boolean))) (by decide) (by decide)))).ext E4).same W5
  have N5 := Fr.snoc X5 N3 g_a1
  refine m_aloadN K X5.here hx hby d_prog_6_1_21 rfl rfl rfl ?_
  refine m_aloadN K X5.here hx hby d_prog_6_1_22 rfl rfl rfl ?_
  refine k_putF K X5 hx hby hZ hown (host := "") (Or.inl (hw _ (List.mem_of_getElem? (i := 105) rfl))) Via.refl e5 ((((F_icons_a1.ext E2).other W3 (Or.inr (slot_ne (Or.inr (hw _ (List.mem_of_getElem? (i := 106) rfl))) (Or.inr (hw _ (List.mem_of_getElem? (i := 102) rfl))) (by decide) (t := (.object "java/util/List")) (t' := (.array (.array .boolean))) (by decide) (by decide)))).ext E4).other W5 (Or.inr (slot_ne (Or.inr (hw _ (List.mem_of_getElem? (i := 106) rfl))) (Or.inr (hw _ (List.mem_of_getElem? (i := 104) rfl))) (by decide) (t := (.object "java/util/List")) (t' := (.array .boolean)) (by decide) (by decide)))) ((((E_a1.ext E2).wr W3).ext E4).wr W5) (Or.inr ⟨(hw _ (List.mem_of_getElem? (i := 106) rfl)), rfl, hnm⟩) (hw _ (List.mem_of_getElem? (i := 92) rfl)) (ty := (.object "java/util/List")) (by decide) rfl rfl d_prog_6_1_23 rfl fun T6 h6 X6 e6 W6 => ?_
  have Fw6 := ((((F_icons_a1.ext E2).other W3 (Or.inr (slot_ne (Or.inr (hw _ (List.mem_of_getElem? (i := 106) rfl))) (Or.inr (hw _ (List.mem_of_getElem? (i := 102) rfl))) (by decide) (t := (.object "java/util/List")) (t' := (.array (.array .boolean))) (by decide) (by decide)))).ext E4).other W5 (Or.inr (slot_ne (Or.inr (hw _ (List.mem_of_getElem? (i := 106) rfl))) (Or.inr (hw _ (List.mem_of_getElem? (i := 104) rfl))) (by decide) (t := (.object "java/util/List")) (t' := (.array .boolean)) (by decide) (by decide)))).same W6
  have N6 := Fr.snoc X6 N5 g_a1
  refine m_aloadN K X6.here hx hby d_prog_6_1_26 rfl rfl rfl ?_
  refine k_getF K X6 hx hby hZ hown (host := "") (Or.inl (hw _ (List.mem_of_getElem? (i := 101) rfl))) Via.refl e6 (((Fw3.ext E4).other W5 (Or.inr (slot_ne (Or.inr (hw _ (List.mem_of_getElem? (i := 102) rfl))) (Or.inr (hw _ (List.mem_of_getElem? (i := 104) rfl))) (by decide) (t := (.array (.array .boolean))) (t' := (.array .boolean)) (by decide) (by decide)))).other W6 (Or.inr (slot_ne (Or.inr (hw _ (List.mem_of_getElem? (i := 102) rfl))) (Or.inr (hw _ (List.mem_of_getElem? (i := 106) rfl))) (by decide) (t := (.array (.array .boolean))) (t' := (.object "java/util/List")) (by decide) (by decide)))) d_prog_6_1_27 rfl fun T7 X7 e7 => ?_
  refine m_astoreN K X7.here hx hby #[.val (.ref a1), .val (.ref a2), .val (.ref b2), .unset, .unset, .unset] d_prog_6_1_30 rfl rfl rfl ?_
  refine m_aloadN K X7.here hx hby d_prog_6_1_31 rfl rfl rfl ?_
  refine k_len K X7 hx hby hZ (3 : Int32) e7 ((((V_b2.other W3 (Ne.symm (Nat.ne_of_lt (Nat.lt_of_lt_of_le (Nat.lt_of_lt_of_le E_a1.lt (Nat.le_refl _)) (Nat.le_of_eq g2.symm))))).ext E4).other W5 (Ne.symm (Nat.ne_of_lt (Nat.lt_of_lt_of_le (Nat.lt_of_lt_of_le E_a1.lt (Nat.le_refl _)) (Nat.le_of_eq g2.symm))))).other W6 (Ne.symm (Nat.ne_of_lt (Nat.lt_of_lt_of_le (Nat.lt_of_lt_of_le E_a1.lt (Nat.le_refl _)) (Nat.le_of_eq g2.symm))))) rfl d_prog_6_1_32 rfl ?_
  refine m_istoreN K X7.here hx hby #[.val (.ref a1), .val (.ref a2), .val (.ref b2), .val (.int (3 : Int32)), .unset, .unset] d_prog_6_1_33 rfl rfl ?_
  refine m_iconst K X7.here hx hby (0 : Int32) d_prog_6_1_34 rfl rfl ?_
  refine m_istore K X7.here hx hby #[.val (.ref a1), .val (.ref a2), .val (.ref b2), .val (.int (3 : Int32)), .val (.int (0 : Int32)), .unset] d_prog_6_1_35 rfl rfl ?_
  refine m_iload K X7.here hx hby d_prog_6_1_37 rfl rfl ?_
  refine m_iloadN K X7.here hx hby d_prog_6_1_39 rfl rfl ?_
  refine m_icmpN K X7.here hx hby (q := 43) d_prog_6_1_40 (tlt (by decide : (0 : Int32) < (3 : Int32))).2.1 rfl ?_
  refine m_aloadN K X7.here hx hby d_prog_6_1_43 rfl rfl rfl ?_
  refine m_iload K X7.here hx hby d_prog_6_1_44 rfl rfl ?_
  refine k_ldR K X7 hx hby hZ e7 rfl ((((V_b2.other W3 (Ne.symm (Nat.ne_of_lt (Nat.lt_of_lt_of_le (Nat.lt_of_lt_of_le E_a1.lt (Nat.le_refl _)) (Nat.le_of_eq g2.symm))))).ext E4).other W5 (Ne.symm (Nat.ne_of_lt (Nat.lt_of_lt_of_le (Nat.lt_of_lt_of_le E_a1.lt (Nat.le_refl _)) (Nat.le_of_eq g2.symm))))).other W6 (Ne.symm (Nat.ne_of_lt (Nat.lt_of_lt_of_le (Nat.lt_of_lt_of_le E_a1.lt (Nat.le_refl _)) (Nat.le_of_eq g2.symm))))) (v := (.ref b2_0)) (by decide) rfl d_prog_6_1_46 rfl ?_
  refine m_astore K X7.here hx hby #[.val (.ref a1), .val (.ref a2), .val (.ref b2), .val (.int (3 : Int32)), .val (.int (0 : Int32)), .val (.ref b2_0)] d_prog_6_1_47 rfl rfl rfl ?_
  refine m_aload K X7.here hx hby d_prog_6_1_49 rfl rfl rfl ?_
  refine m_iconst K X7.here hx hby (1 : Int32) d_prog_6_1_51 rfl rfl ?_
  refine k_callS K X7 hx hby hZ [(.ref b2_0), (.int (1 : Int32))] [] hown (hw _ (List.mem_of_getElem? (i := 107) rfl)) (hw _ (List.mem_of_getElem? (i := 108) rfl)) (hw _ (List.mem_of_getElem? (i := 109) rfl)) (hw _ (List.mem_of_getElem? (i := 110) rfl)) (cfi l Z a0 hw b2_0 h6 n0 (Nat.le_trans Z0 (Nat.le_trans (Nat.le_trans (Nat.le_trans (Nat.le_trans (Nat.le_trans (Nat.le_refl _) E2.1) (Keep.of_wr W3).1) E4.1) (Keep.of_wr W5).1) (Keep.of_wr W6).1)) ((((V_b2_0.other W3 (Ne.symm (Nat.ne_of_lt (Nat.lt_of_lt_of_le (Nat.lt_of_lt_of_le E_a1.lt (Nat.le_refl _)) (own_ge g2 gb2_0))))).ext E4).other W5 (Ne.symm (Nat.ne_of_lt (Nat.lt_of_lt_of_le (Nat.lt_of_lt_of_le E_a1.lt (Nat.le_refl _)) (own_ge g2 gb2_0))))).other W6 (Ne.symm (Nat.ne_of_lt (Nat.lt_of_lt_of_le (Nat.lt_of_lt_of_le E_a1.lt (Nat.le_refl _)) (own_ge g2 gb2_0))))) g_b2_0) e7 rfl rfl pd_15 rfl d_prog_6_1_52 (by rw [hml]; rfl) rfl (by decide) (by decide) (Nat.le_of_ble_eq_true rfl) (by decide) (by decide) fun v8 T8 L8 X8 q8 => ?_
  obtain ⟨rfl, Nq8, K8, Ap8_0⟩ := q8
  have N8 := Fr.app N6 Nq8
  refine k_none K ?_
  refine m_iinc K X8.here hx hby #[.val (.ref a1), .val (.ref a2), .val (.ref b2), .val (.int (3 : Int32)), .val (.int (1 : Int32)), .val (.ref b2_0)] d_prog_6_1_55 rfl rfl rfl ?_
  refine m_goto K X8.here hx hby (q := 37) d_prog_6_1_58 (by decide) rfl ?_
  refine m_iload K X8.here hx hby d_prog_6_1_37 rfl rfl ?_
  refine m_iloadN K X8.here hx hby d_prog_6_1_39 rfl rfl ?_
  refine m_icmpN K X8.here hx hby (q := 43) d_prog_6_1_40 (tlt (by decide : (1 : Int32) < (3 : Int32))).2.1 rfl ?_
  refine m_aloadN K X8.here hx hby d_prog_6_1_43 rfl rfl rfl ?_
  refine m_iload K X8.here hx hby d_prog_6_1_44 rfl rfl ?_
  refine k_ldR K X8 hx hby hZ rfl rfl (((((V_b2.other W3 (Ne.symm (Nat.ne_of_lt (Nat.lt_of_lt_of_le (Nat.lt_of_lt_of_le E_a1.lt (Nat.le_refl _)) (Nat.le_of_eq g2.symm))))).ext E4).other W5 (Ne.symm (Nat.ne_of_lt (Nat.lt_of_lt_of_le (Nat.lt_of_lt_of_le E_a1.lt (Nat.le_refl _)) (Nat.le_of_eq g2.symm))))).other W6 (Ne.symm (Nat.ne_of_lt (Nat.lt_of_lt_of_le (Nat.lt_of_lt_of_le E_a1.lt (Nat.le_refl _)) (Nat.le_of_eq g2.symm))))).keep K8 (ninS (own_ne gb2_0) nin0)) (v := (.ref b2_1)) (by decide) rfl d_prog_6_1_46 rfl ?_
  refine m_astore K X8.here hx hby #[.val (.ref a1), .val (.ref a2), .val (.ref b2), .val (.int (3 : Int32)), .val (.int (1 : Int32)), .val (.ref b2_1)] d_prog_6_1_47 rfl rfl rfl ?_
  refine m_aload K X8.here hx hby d_prog_6_1_49 rfl rfl rfl ?_
  refine m_iconst K X8.here hx hby (1 : Int32) d_prog_6_1_51 rfl rfl ?_
  refine k_callS K X8 hx hby hZ [(.ref b2_1), (.int (1 : Int32))] [] hown (hw _ (List.mem_of_getElem? (i := 107) rfl)) (hw _ (List.mem_of_getElem? (i := 108) rfl)) (hw _ (List.mem_of_getElem? (i := 109) rfl)) (hw _ (List.mem_of_getElem? (i := 110) rfl)) (cfi l Z a0 hw b2_1 T8.heap n0 (Nat.le_trans Z0 (Nat.le_trans (Nat.le_trans (Nat.le_trans (Nat.le_trans (Nat.le_trans (Nat.le_trans (Nat.le_refl _) E2.1) (Keep.of_wr W3).1) E4.1) (Keep.of_wr W5).1) (Keep.of_wr W6).1) K8.1)) (((((V_b2_1.other W3 (Ne.symm (Nat.ne_of_lt (Nat.lt_of_lt_of_le (Nat.lt_of_lt_of_le E_a1.lt (Nat.le_refl _)) (own_ge g2 gb2_1))))).ext E4).other W5 (Ne.symm (Nat.ne_of_lt (Nat.lt_of_lt_of_le (Nat.lt_of_lt_of_le E_a1.lt (Nat.le_refl _)) (own_ge g2 gb2_1))))).other W6 (Ne.symm (Nat.ne_of_lt (Nat.lt_of_lt_of_le (Nat.lt_of_lt_of_le E_a1.lt (Nat.le_refl _)) (own_ge g2 gb2_1))))).keep K8 (ninS (Ne.symm (own_ne2 gb2_0 gb2_1 (by decide))) nin0)) g_b2_1) rfl rfl rfl pd_15 rfl d_prog_6_1_52 (by rw [hml]; rfl) rfl (by decide) (by decide) (Nat.le_of_ble_eq_true rfl) (by decide) (by decide) fun v9 T9 L9 X9 q9 => ?_
  obtain ⟨rfl, Nq9, K9, Ap9_0⟩ := q9
  have N9 := Fr.app N8 Nq9
  refine k_none K ?_
  refine m_iinc K X9.here hx hby #[.val (.ref a1), .val (.ref a2), .val (.ref b2), .val (.int (3 : Int32)), .val (.int (2 : Int32)), .val (.ref b2_1)] d_prog_6_1_55 rfl rfl rfl ?_
  refine m_goto K X9.here hx hby (q := 37) d_prog_6_1_58 (by decide) rfl ?_
  refine m_iload K X9.here hx hby d_prog_6_1_37 rfl rfl ?_
  refine m_iloadN K X9.here hx hby d_prog_6_1_39 rfl rfl ?_
  refine m_icmpN K X9.here hx hby (q := 43) d_prog_6_1_40 (tlt (by decide : (2 : Int32) < (3 : Int32))).2.1 rfl ?_
  refine m_aloadN K X9.here hx hby d_prog_6_1_43 rfl rfl rfl ?_
  refine m_iload K X9.here hx hby d_prog_6_1_44 rfl rfl ?_
  refine k_ldR K X9 hx hby hZ rfl rfl ((((((V_b2.other W3 (Ne.symm (Nat.ne_of_lt (Nat.lt_of_lt_of_le (Nat.lt_of_lt_of_le E_a1.lt (Nat.le_refl _)) (Nat.le_of_eq g2.symm))))).ext E4).other W5 (Ne.symm (Nat.ne_of_lt (Nat.lt_of_lt_of_le (Nat.lt_of_lt_of_le E_a1.lt (Nat.le_refl _)) (Nat.le_of_eq g2.symm))))).other W6 (Ne.symm (Nat.ne_of_lt (Nat.lt_of_lt_of_le (Nat.lt_of_lt_of_le E_a1.lt (Nat.le_refl _)) (Nat.le_of_eq g2.symm))))).keep K8 (ninS (own_ne gb2_0) nin0)).keep K9 (ninS (own_ne gb2_1) nin0)) (v := (.ref b2_2)) (by decide) rfl d_prog_6_1_46 rfl ?_
  refine m_astore K X9.here hx hby #[.val (.ref a1), .val (.ref a2), .val (.ref b2), .val (.int (3 : Int32)), .val (.int (2 : Int32)), .val (.ref b2_2)] d_prog_6_1_47 rfl rfl rfl ?_
  refine m_aload K X9.here hx hby d_prog_6_1_49 rfl rfl rfl ?_
  refine m_iconst K X9.here hx hby (1 : Int32) d_prog_6_1_51 rfl rfl ?_
  refine k_callS K X9 hx hby hZ [(.ref b2_2), (.int (1 : Int32))] [] hown (hw _ (List.mem_of_getElem? (i := 107) rfl)) (hw _ (List.mem_of_getElem? (i := 108) rfl)) (hw _ (List.mem_of_getElem? (i := 109) rfl)) (hw _ (List.mem_of_getElem? (i := 110) rfl)) (cfi l Z a0 hw b2_2 T9.heap n0 (Nat.le_trans Z0 (Nat.le_trans (Nat.le_trans (Nat.le_trans (Nat.le_trans (Nat.le_trans (Nat.le_trans (Nat.le_trans (Nat.le_refl _) E2.1) (Keep.of_wr W3).1) E4.1) (Keep.of_wr W5).1) (Keep.of_wr W6).1) K8.1) K9.1)) ((((((V_b2_2.other W3 (Ne.symm (Nat.ne_of_lt (Nat.lt_of_lt_of_le (Nat.lt_of_lt_of_le E_a1.lt (Nat.le_refl _)) (own_ge g2 gb2_2))))).ext E4).other W5 (Ne.symm (Nat.ne_of_lt (Nat.lt_of_lt_of_le (Nat.lt_of_lt_of_le E_a1.lt (Nat.le_refl _)) (own_ge g2 gb2_2))))).other W6 (Ne.symm (Nat.ne_of_lt (Nat.lt_of_lt_of_le (Nat.lt_of_lt_of_le E_a1.lt (Nat.le_refl _)) (own_ge g2 gb2_2))))).keep K8 (ninS (Ne.symm (own_ne2 gb2_0 gb2_2 (by decide))) nin0)).keep K9 (ninS (Ne.symm (own_ne2 gb2_1 gb2_2 (by decide))) nin0)) g_b2_2) rfl rfl rfl pd_15 rfl d_prog_6_1_52 (by rw [hml]; rfl) rfl (by decide) (by decide) (Nat.le_of_ble_eq_true rfl) (by decide) (by decide) fun v10 T10 L10 X10 q10 => ?_
  obtain ⟨rfl, Nq10, K10, Ap10_0⟩ := q10
  have N10 := Fr.app N9 Nq10
  refine k_none K ?_
  refine m_iinc K X10.here hx hby #[.val (.ref a1), .val (.ref a2), .val (.ref b2), .val (.int (3 : Int32)), .val (.int (3 : Int32)), .val (.ref b2_2)] d_prog_6_1_55 rfl rfl rfl ?_
  refine m_goto K X10.here hx hby (q := 37) d_prog_6_1_58 (by decide) rfl ?_
  refine m_iload K X10.here hx hby d_prog_6_1_37 rfl rfl ?_
  refine m_iloadN K X10.here hx hby d_prog_6_1_39 rfl rfl ?_
  refine m_icmpY K X10.here hx hby (q := 61) d_prog_6_1_40 (flt (by decide : ¬ ((3 : Int32) < (3 : Int32)))).2.1 (by decide) rfl ?_
  exact Go.retV X10 hx hby hlk hret d_prog_6_1_61 (by decide) (by decide) (⟨b2, b2_0, b2_1, b2_2, b4, rfl, N10, (((((((((Keep.refl h0 [a1]).ext E2).wr W3 (Or.inl (by simp))).ext E4).wr W5 (Or.inl (by simp))).wr W6 (Or.inl (by simp))).trans K8 (allS (Or.inr sz_b2_0) all0)).trans K9 (allS (Or.inr sz_b2_1) all0)).trans K10 (allS (Or.inr sz_b2_2) all0)), sz_b2, sz_b2_0, sz_b2_1, sz_b2_2, sz_b4, (own_ne gb2_0), (own_ne gb2_1), (own_ne gb2_2), (Nat.ne_of_lt (Nat.lt_of_lt_of_le (Nat.lt_of_lt_of_le V_b2.lt (Nat.le_trans (Nat.le_refl _) (Keep.of_wr W3).1)) (Nat.le_of_eq g4.symm))), (own_ne2 gb2_0 gb2_1 (by decide)), (own_ne2 gb2_0 gb2_2 (by decide)), (Nat.ne_of_lt (Nat.lt_of_lt_of_le (Nat.lt_of_lt_of_le V_b2_0.lt (Nat.le_trans (Nat.le_refl _) (Keep.of_wr W3).1)) (Nat.le_of_eq g4.symm))), (own_ne2 gb2_1 gb2_2 (by decide)), (Nat.ne_of_lt (Nat.lt_of_lt_of_le (Nat.lt_of_lt_of_le V_b2_1.lt (Nat.le_trans (Nat.le_refl _) (Keep.of_wr W3).1)) (Nat.le_of_eq g4.symm))), (Nat.ne_of_lt (Nat.lt_of_lt_of_le (Nat.lt_of_lt_of_le V_b2_2.lt (Nat.le_trans (Nat.le_refl _) (Keep.of_wr W3).1)) (Nat.le_of_eq g4.symm))), ((((((Fw3.ext E4).other W5 (Or.inr (slot_ne (Or.inr (hw _ (List.mem_of_getElem? (i := 102) rfl))) (Or.inr (hw _ (List.mem_of_getElem? (i := 104) rfl))) (by decide) (t := (.array (.array .boolean))) (t' := (.array .boolean)) (by decide) (by decide)))).other W6 (Or.inr (slot_ne (Or.inr (hw _ (List.mem_of_getElem? (i := 102) rfl))) (Or.inr (hw _ (List.mem_of_getElem? (i := 106) rfl))) (by decide) (t := (.array (.array .boolean))) (t' := (.object "java/util/List")) (by decide) (by decide)))).keep K8 (ninS (Nat.ne_of_lt (Nat.lt_of_lt_of_le (Nat.lt_of_lt_of_le E_a1.lt (Nat.le_refl _)) (own_ge g2 gb2_0))) nin0)).keep K9 (ninS (Nat.ne_of_lt (Nat.lt_of_lt_of_le (Nat.lt_of_lt_of_le E_a1.lt (Nat.le_refl _)) (own_ge g2 gb2_1))) nin0)).keep K10 (ninS (Nat.ne_of_lt (Nat.lt_of_lt_of_le (Nat.lt_of_lt_of_le E_a1.lt (Nat.le_refl _)) (own_ge g2 gb2_2))) nin0)), ((((Fw5.other W6 (Or.inr (slot_ne (Or.inr (hw _ (List.mem_of_getElem? (i := 104) rfl))) (Or.inr (hw _ (List.mem_of_getElem? (i := 106) rfl))) (by decide) (t := (.array .boolean)) (t' := (.object "java/util/List")) (by decide) (by decide)))).keep K8 (ninS (Nat.ne_of_lt (Nat.lt_of_lt_of_le (Nat.lt_of_lt_of_le E_a1.lt (Nat.le_refl _)) (own_ge g2 gb2_0))) nin0)).keep K9 (ninS (Nat.ne_of_lt (Nat.lt_of_lt_of_le (Nat.lt_of_lt_of_le E_a1.lt (Nat.le_refl _)) (own_ge g2 gb2_1))) nin0)).keep K10 (ninS (Nat.ne_of_lt (Nat.lt_of_lt_of_le (Nat.lt_of_lt_of_le E_a1.lt (Nat.le_refl _)) (own_ge g2 gb2_2))) nin0)), (((Fw6.keep K8 (ninS (Nat.ne_of_lt (Nat.lt_of_lt_of_le (Nat.lt_of_lt_of_le E_a1.lt (Nat.le_refl _)) (own_ge g2 gb2_0))) nin0)).keep K9 (ninS (Nat.ne_of_lt (Nat.lt_of_lt_of_le (Nat.lt_of_lt_of_le E_a1.lt (Nat.le_refl _)) (own_ge g2 gb2_1))) nin0)).keep K10 (ninS (Nat.ne_of_lt (Nat.lt_of_lt_of_le (Nat.lt_of_lt_of_le E_a1.lt (Nat.le_refl _)) (own_ge g2 gb2_2))) nin0)), (((((((V_b2.other W3 (Ne.symm (Nat.ne_of_lt (Nat.lt_of_lt_of_le (Nat.lt_of_lt_of_le E_a1.lt (Nat.le_refl _)) (Nat.le_of_eq g2.symm))))).ext E4).other W5 (Ne.symm (Nat.ne_of_lt (Nat.lt_of_lt_of_le (Nat.lt_of_lt_of_le E_a1.lt (Nat.le_refl _)) (Nat.le_of_eq g2.symm))))).other W6 (Ne.symm (Nat.ne_of_lt (Nat.lt_of_lt_of_le (Nat.lt_of_lt_of_le E_a1.lt (Nat.le_refl _)) (Nat.le_of_eq g2.symm))))).keep K8 (ninS (own_ne gb2_0) nin0)).keep K9 (ninS (own_ne gb2_1) nin0)).keep K10 (ninS (own_ne gb2_2) nin0)), ((Ap8_0.keep K9 (ninS (own_ne2 gb2_0 gb2_1 (by decide)) nin0)).keep K10 (ninS (own_ne2 gb2_0 gb2_2 (by decide)) nin0)), (Ap9_0.keep K10 (ninS (own_ne2 gb2_1 gb2_2 (by decide)) nin0)), Ap10_0, (((((V_b4.other W5 (Ne.symm (Nat.ne_of_lt (Nat.lt_of_lt_of_le (Nat.lt_of_lt_of_le E_a1.lt (Nat.le_trans (Nat.le_trans (Nat.le_refl _) E2.1) (Keep.of_wr W3).1)) (Nat.le_of_eq g4.symm))))).other W6 (Ne.symm (Nat.ne_of_lt (Nat.lt_of_lt_of_le (Nat.lt_of_lt_of_le E_a1.lt (Nat.le_trans (Nat.le_trans (Nat.le_refl _) E2.1) (Keep.of_wr W3).1)) (Nat.le_of_eq g4.symm))))).keep K8 (ninS (Ne.symm (Nat.ne_of_lt (Nat.lt_of_lt_of_le (Nat.lt_of_lt_of_le V_b2_0.lt (Nat.le_trans (Nat.le_refl _) (Keep.of_wr W3).1)) (Nat.le_of_eq g4.symm)))) nin0)).keep K9 (ninS (Ne.symm (Nat.ne_of_lt (Nat.lt_of_lt_of_le (Nat.lt_of_lt_of_le V_b2_1.lt (Nat.le_trans (Nat.le_refl _) (Keep.of_wr W3).1)) (Nat.le_of_eq g4.symm)))) nin0)).keep K10 (ninS (Ne.symm (Nat.ne_of_lt (Nat.lt_of_lt_of_le (Nat.lt_of_lt_of_le V_b2_2.lt (Nat.le_trans (Nat.le_refl _) (Keep.of_wr W3).1)) (Nat.le_of_eq g4.symm)))) nin0))⟩)
def w0_1 (i1 : Int32) : Int32 := ((i1 &&& (2147483647 : Int32)) % (3 : Int32))
def w0_2 (i1 : Int32) (i3 : Int32) : Int32 := (((w0_1 i1) + (1 : Int32)) + (i3 &&& (1 : Int32)))
def w0_3 (i2 : Int32) : Int32 := ((i2 &&& (2147483647 : Int32)) % (6 : Int32))
def w0_4 (i1 : Int32) : Int32 := ((1 : Int32) <<< (((5 : Int32) * (w0_1 i1)) &&& 31))
def w0_5 (i1 : Int32) (i3 : Int32) : Int32 := ((5 : Int32) * ((w0_2 i1 i3) % (3 : Int32)))
def w0_6 (i1 : Int32) (i3 : Int32) : Int32 := ((1 : Int32) <<< ((w0_5 i1 i3) &&& 31))
def w0_7 (i1 : Int32) (i3 : Int32) : Int32 := (MNI (w0_1 i1) ((w0_2 i1 i3) % (3 : Int32)))
def w0_8 (i1 : Int32) : Int32 := ((3 : Int32) <<< (((5 : Int32) * (w0_1 i1)) &&& 31))
def w0_9 (i1 : Int32) : Int32 := ((7 : Int32) <<< (((5 : Int32) * (w0_1 i1)) &&& 31))
def w0_10 (i1 : Int32) : Int32 := ((15 : Int32) <<< (((5 : Int32) * (w0_1 i1)) &&& 31))
def w0_11 (i1 : Int32) : Int32 := ((31 : Int32) <<< (((5 : Int32) * (w0_1 i1)) &&& 31))
def cd6 (c d : Int32) : Prop := (c = 0 ∧ d = 1) ∨ (c = 0 ∧ d = 2) ∨ (c = 1 ∧ d = 2) ∨ (c = 1 ∧ d = 0) ∨ (c = 2 ∧ d = 0) ∨ (c = 2 ∧ d = 1)
theorem own_six {c d : Int32} (h : cd6 c d) {P : Int32 → Int32 → Bool} (q : (P 0 1 && P 0 2 && P 1 2 && P 1 0 && P 2 0 && P 2 1) = true) : P c d = true := by
  simp only [Bool.and_eq_true] at q
  obtain ⟨⟨⟨⟨⟨q1, q2⟩, q3⟩, q4⟩, q5⟩, q6⟩ := q
  rcases h with ⟨rfl, rfl⟩ | ⟨rfl, rfl⟩ | ⟨rfl, rfl⟩ | ⟨rfl, rfl⟩ | ⟨rfl, rfl⟩ | ⟨rfl, rfl⟩ <;> assumption
theorem own_c3 (i1 : Int32) : w0_1 i1 = 0 ∨ w0_1 i1 = 1 ∨ w0_1 i1 = 2 := by
  have hm := c_mask i1 (2147483647 : Int32) 31 (by decide) (by decide)
  have hv := (c_iremV (i1 &&& (2147483647 : Int32)) (3 : Int32)).1 (by omega) (by decide)
  have e : (3 : Int32).toInt = 3 := rfl
  rw [e] at hv
  have h0 : 0 ≤ (w0_1 i1).toInt := hv.1
  have h3 : (w0_1 i1).toInt < 3 := hv.2.1
  have e0 : (0 : Int32).toInt = 0 := rfl
  have e1 : (1 : Int32).toInt = 1 := rfl
  have e2 : (2 : Int32).toInt = 2 := rfl
  simp only [← Int32.toInt_inj]
  omega
theorem own_n (i2 : Int32) : w0_3 i2 = 0 ∨ w0_3 i2 = 1 ∨ w0_3 i2 = 2 ∨ w0_3 i2 = 3 ∨ w0_3 i2 = 4 ∨ w0_3 i2 = 5 := by
  have hm := c_mask i2 (2147483647 : Int32) 31 (by decide) (by decide)
  have hv := (c_iremV (i2 &&& (2147483647 : Int32)) (6 : Int32)).1 (by omega) (by decide)
  have e : (6 : Int32).toInt = 6 := rfl
  rw [e] at hv
  have h0 : 0 ≤ (w0_3 i2).toInt := hv.1
  have h3 : (w0_3 i2).toInt < 6 := hv.2.1
  have e0 : (0 : Int32).toInt = 0 := rfl
  have e1 : (1 : Int32).toInt = 1 := rfl
  have e2 : (2 : Int32).toInt = 2 := rfl
  have e3 : (3 : Int32).toInt = 3 := rfl
  have e4 : (4 : Int32).toInt = 4 := rfl
  have e5 : (5 : Int32).toInt = 5 := rfl
  simp only [← Int32.toInt_inj]
  omega
theorem own_b1 (i3 : Int32) : (i3 &&& (1 : Int32)) = 0 ∨ (i3 &&& (1 : Int32)) = 1 := by
  have hm := c_mask i3 (1 : Int32) 1 (by decide) (by decide)
  have e0 : (0 : Int32).toInt = 0 := rfl
  have e1 : (1 : Int32).toInt = 1 := rfl
  simp only [← Int32.toInt_inj]
  omega
theorem own_cd (i1 i3 : Int32) : cd6 (w0_1 i1) ((w0_2 i1 i3) % (3 : Int32)) := by
  unfold cd6 w0_2
  rcases own_c3 i1 with h | h | h <;> rcases own_b1 i3 with g | g <;> rw [h, g] <;> decide
theorem own_d3 (i1 i3 : Int32) : (w0_2 i1 i3) % (3 : Int32) = 0 ∨ (w0_2 i1 i3) % (3 : Int32) = 1 ∨ (w0_2 i1 i3) % (3 : Int32) = 2 := by
  rcases own_cd i1 i3 with ⟨-, h⟩ | ⟨-, h⟩ | ⟨-, h⟩ | ⟨-, h⟩ | ⟨-, h⟩ | ⟨-, h⟩ <;> simp [h]
theorem pd_16 : parseMethodDescriptor "(I)Ljava/util/List;" = some ⟨[.int], some (.object "java/util/List")⟩ := by decide +kernel
theorem pd_17 : parseMethodDescriptor "(Ljava/util/List;)V" = some ⟨[(.object "java/util/List")], none⟩ := by decide +kernel
theorem ef0 (m : MethodId) (x0 : Int32) (x1 : Int32) (x2 : Int32) : entryFrame m #[(.int x0), (.int x1), (.int x2)] maxLocals = mkF m 0 #[.val (.int x0), .val (.int x1), .val (.int x2), .unset, .unset, .unset, .unset, .unset, .unset, .unset, .unset, .unset] [] := by first | (simp [entryFrame, mkF, argsToLocals, Value.category, maxLocals]; done) | rfl
set_option maxRecDepth 65536 in
set_option maxHeartbeats 40000000 in
theorem law0 (l : Launch) (Z : State) (a0 : Array Value) (hw : ∀ d ∈ tables_1, d.before a0 Z = true) (ws : List Jvm.Cond) (i1 : Int32) (i2 : Int32) (i3 : Int32) (d1 : Addr) (ca : Addr) (bx : List Value) (s0 : Addr) (s1 : Addr) (s2 : Addr) (s3 : Addr) (s4 : Addr) (s5 : Addr) (s6 : Addr) (h0 : Heap) (n0 : Nat) (Z0 : n0 ≤ h0.size) (S_ArrayList_DEFAULTCAPACITY_EMPTY_ELEMENTDATA : Sta Z Z.heap "java/util/ArrayList" "DEFAULTCAPACITY_EMPTY_ELEMENTDATA" "[Ljava/lang/Object;" (.ref d1)) (S_Integer_IntegerCache_high : Sta Z Z.heap "java/lang/Integer$IntegerCache" "high" "I" (.int (127 : Int32))) (S_Integer_IntegerCache_cache : Sta Z Z.heap "java/lang/Integer$IntegerCache" "cache" "[Ljava/lang/Integer;" (.ref ca)) (O0 : Old Z n0 h0) (AD : Av Z h0 d1 (.object "java/lang/Object") []) (ACA : Av Z Z.heap ca (.object "java/lang/Integer") bx) (A7_0 : bx[129]? = some (.ref s0)) (ES0 : Exa Z h0 s0 "java/lang/Integer") (FS0 : Fld Z h0 s0 "java/lang/Integer" "value" "I" (.int (1 : Int32))) (hs0 : s0 < n0) (A7_1 : bx[130]? = some (.ref s1)) (ES1 : Exa Z h0 s1 "java/lang/Integer") (FS1 : Fld Z h0 s1 "java/lang/Integer" "value" "I" (.int (2 : Int32))) (hs1 : s1 < n0) (A7_2 : bx[132]? = some (.ref s2)) (ES2 : Exa Z h0 s2 "java/lang/Integer") (FS2 : Fld Z h0 s2 "java/lang/Integer" "value" "I" (.int (4 : Int32))) (hs2 : s2 < n0) (A7_3 : bx[136]? = some (.ref s3)) (ES3 : Exa Z h0 s3 "java/lang/Integer") (FS3 : Fld Z h0 s3 "java/lang/Integer" "value" "I" (.int (8 : Int32))) (hs3 : s3 < n0) (A7_4 : bx[144]? = some (.ref s4)) (ES4 : Exa Z h0 s4 "java/lang/Integer") (FS4 : Fld Z h0 s4 "java/lang/Integer" "value" "I" (.int (16 : Int32))) (hs4 : s4 < n0) (A7_5 : bx[160]? = some (.ref s5)) (ES5 : Exa Z h0 s5 "java/lang/Integer") (FS5 : Fld Z h0 s5 "java/lang/Integer" "value" "I" (.int (32 : Int32))) (hs5 : s5 < n0) (A7_6 : bx[192]? = some (.ref s6)) (ES6 : Exa Z h0 s6 "java/lang/Integer") (FS6 : Fld Z h0 s6 "java/lang/Integer" "value" "I" (.int (64 : Int32))) (hs6 : s6 < n0) :
    Con l Z x code maxLocals ret room_1 ws #[(.int i1), (.int i2), (.int i3)] h0 (fun v h L => v = some (.int 1) ∧ Fr n0 L) := by
  refine Con.of (plainFor_of_name pn_com_example_craterworks_craterworks_SharesStationTakePinLaw) #[.val (.int i1), .val (.int i2), .val (.int i3), .unset, .unset, .unset, .unset, .unset, .unset, .unset, .unset, .unset] (fun m => ef0 m i1 i2 i3) ?_
  intro p e s m below meth c s₁ K hx hby hml hown hnm hret hlk hZ X0 e0 hnd
  have N0 := Fr.nil n0
  refine k_newO K X0 hx hby hZ hown (hw _ (List.mem_of_getElem? (i := 0) rfl)) (hw _ (List.mem_of_getElem? (i := 1) rfl)) (hw _ (List.mem_of_getElem? (i := 2) rfl)) e0 at_0 rfl (by decide) (by decide) fun T1 h1 b1 X1 e1 E1 g1 A1 D1 => ?_
  have sz_b1 : h0.size ≤ b1 := Nat.le_trans (Nat.le_refl _) (Nat.le_of_eq g1.symm)
  have g_b1 : n0 ≤ b1 := Nat.le_trans Z0 sz_b1
  have F_modCount_b1 : Fld Z h1 b1 "java/util/AbstractList" "modCount" "I" (.int (0 : Int32)) := D1 (Or.inl (hw _ (List.mem_of_getElem? (i := 22) rfl))) (ty := .int) (by decide)
  have F_elementData_b1 : Fld Z h1 b1 "java/util/ArrayList" "elementData" "[Ljava/lang/Object;" .null := D1 (Or.inl (hw _ (List.mem_of_getElem? (i := 25) rfl))) (ty := (.array (.object "java/lang/Object"))) (by decide)
  have F_size_b1 : Fld Z h1 b1 "java/util/ArrayList" "size" "I" (.int (0 : Int32)) := D1 (Or.inl (hw _ (List.mem_of_getElem? (i := 45) rfl))) (ty := .int) (by decide)
  refine m_dup K X1.here hx hby at_3 rfl rfl ?_
  refine k_callP K X1 hx hby hZ b1 [] [(.ref b1)] hown (hw _ (List.mem_of_getElem? (i := 3) rfl)) (hw _ (List.mem_of_getElem? (i := 4) rfl)) (hw _ (List.mem_of_getElem? (i := 2) rfl)) (hw _ (List.mem_of_getElem? (i := 5) rfl)) rfl (c1 l Z a0 hw b1 (0 : Int32) d1 h1 n0 (Nat.le_trans Z0 (Nat.le_trans (Nat.le_refl _) E1.1)) A1 F_modCount_b1 F_elementData_b1 F_size_b1 S_ArrayList_DEFAULTCAPACITY_EMPTY_ELEMENTDATA (O0.ext E1) g_b1) e1 rfl rfl pd_8 rfl at_4 (by rw [hml]; rfl) rfl (by decide) (by decide) (Nat.le_of_ble_eq_true rfl) (by decide) (by decide) fun v2 T2 L2 X2 q2 => ?_
  obtain ⟨rfl, Nq2, K2, Fp2_0, Fp2_1, Fp2_2⟩ := q2
  have N2 := Fr.app N0 Nq2
  refine k_none K ?_
  refine m_astoreN K X2.here hx hby #[.val (.int i1), .val (.int i2), .val (.int i3), .val (.ref b1), .unset, .unset, .unset, .unset, .unset, .unset, .unset, .unset] at_7 rfl rfl rfl ?_
  refine m_aloadN K X2.here hx hby at_8 rfl rfl rfl ?_
  refine m_iconst K X2.here hx hby (0 : Int32) at_9 rfl rfl ?_
  have lo0 : b1 < T2.heap.size := ((A1.keep K2)).lt
  refine k_callS K X2 hx hby hZ [(.int (0 : Int32))] [(.ref b1)] hown (hw _ (List.mem_of_getElem? (i := 26) rfl)) (hw _ (List.mem_of_getElem? (i := 27) rfl)) (hw _ (List.mem_of_getElem? (i := 28) rfl)) (hw _ (List.mem_of_getElem? (i := 29) rfl)) (ccol0 l Z a0 hw d1 ca bx s0 s1 s2 s3 s4 T2.heap n0 (Nat.le_trans Z0 (Nat.le_trans (Nat.le_trans (Nat.le_refl _) E1.1) K2.1)) ((ES0.ext E1).keep K2) ((ES1.ext E1).keep K2) ((ES2.ext E1).keep K2) ((ES3.ext E1).keep K2) ((ES4.ext E1).keep K2) ((FS0.ext E1).keep K2 (ninS (Nat.ne_of_lt (Nat.lt_of_lt_of_le (Nat.lt_of_lt_of_le ES0.lt (Nat.le_refl _)) (Nat.le_of_eq g1.symm))) nin0)) ((FS1.ext E1).keep K2 (ninS (Nat.ne_of_lt (Nat.lt_of_lt_of_le (Nat.lt_of_lt_of_le ES1.lt (Nat.le_refl _)) (Nat.le_of_eq g1.symm))) nin0)) ((FS2.ext E1).keep K2 (ninS (Nat.ne_of_lt (Nat.lt_of_lt_of_le (Nat.lt_of_lt_of_le ES2.lt (Nat.le_refl _)) (Nat.le_of_eq g1.symm))) nin0)) ((FS3.ext E1).keep K2 (ninS (Nat.ne_of_lt (Nat.lt_of_lt_of_le (Nat.lt_of_lt_of_le ES3.lt (Nat.le_refl _)) (Nat.le_of_eq g1.symm))) nin0)) ((FS4.ext E1).keep K2 (ninS (Nat.ne_of_lt (Nat.lt_of_lt_of_le (Nat.lt_of_lt_of_le ES4.lt (Nat.le_refl _)) (Nat.le_of_eq g1.symm))) nin0)) ((AD.ext E1).keep K2 (ninS (Nat.ne_of_lt (Nat.lt_of_lt_of_le (Nat.lt_of_lt_of_le AD.lt (Nat.le_refl _)) (Nat.le_of_eq g1.symm))) nin0)) S_ArrayList_DEFAULTCAPACITY_EMPTY_ELEMENTDATA S_Integer_IntegerCache_high S_Integer_IntegerCache_cache ((O0.ext E1).keep K2 (allS g_b1 all0)) ACA A7_0 A7_1 A7_2 A7_3 A7_4 hs0 hs1 hs2 hs3 hs4) rfl rfl rfl pd_16 rfl at_10 (by rw [hml]; rfl) rfl (by decide) (by decide) (Nat.le_of_ble_eq_true rfl) (by decide) (by decide) fun v3 T3 L3 X3 q3 => ?_
  obtain ⟨b3_b, rfl, Nq3, K3, sq_b3_b, E_b3_b, pr3_0⟩ := q3
  have N3 := Fr.app N2 Nq3
  have sz_b3_b : h0.size ≤ b3_b := Nat.le_trans (Nat.le_trans (Nat.le_trans (Nat.le_refl _) E1.1) K2.1) sq_b3_b
  have g_b3_b : n0 ≤ b3_b := Nat.le_trans Z0 sz_b3_b
  refine k_some K (w := (.ref b3_b)) ?_
  refine k_callI K X3 hx hby hZ b1 [(.ref b3_b)] [] hown (hw _ (List.mem_of_getElem? (i := 68) rfl)) (hw _ (List.mem_of_getElem? (i := 69) rfl)) (mvT hZ.wide (hw _ (List.mem_of_getElem? (i := 70) rfl))) (hw _ (List.mem_of_getElem? (i := 71) rfl)) (hw _ (List.mem_of_getElem? (i := 39) rfl)) (hw _ (List.mem_of_getElem? (i := 72) rfl)) (hw _ (List.mem_of_getElem? (i := 73) rfl)) (hw _ (List.mem_of_getElem? (i := 74) rfl)) (hw _ (List.mem_of_getElem? (i := 2) rfl)) (hw _ (List.mem_of_getElem? (i := 41) rfl)) (c9l l Z a0 hw b1 b3_b d1 T3.heap n0 (Nat.le_trans Z0 (Nat.le_trans (Nat.le_trans (Nat.le_trans (Nat.le_refl _) E1.1) K2.1) K3.1)) ((A1.keep K2).keep K3) E_b3_b (Fp2_0.keep K3 nin0) (Fp2_1.keep K3 nin0) (Fp2_2.keep K3 nin0) (((AD.ext E1).keep K2 (ninS (Nat.ne_of_lt (Nat.lt_of_lt_of_le (Nat.lt_of_lt_of_le AD.lt (Nat.le_refl _)) (Nat.le_of_eq g1.symm))) nin0)).keep K3 nin0) S_ArrayList_DEFAULTCAPACITY_EMPTY_ELEMENTDATA (((O0.ext E1).keep K2 (allS g_b1 all0)).keep K3 all0) g_b1 (Nat.ne_of_lt (Nat.lt_of_lt_of_le (Nat.lt_of_lt_of_le AD.lt (Nat.le_refl _)) (Nat.le_of_eq g1.symm)))) rfl ((A1.keep K2).keep K3) rfl rfl pd_14 rfl at_13 (by rw [hml]; rfl) rfl (by decide) (by decide) (Nat.le_of_ble_eq_true rfl) (by decide) (by decide) fun v4 T4 L4 X4 q4 => ?_
  obtain ⟨b4_ba, rfl, Nq4, K4, sq_b4_ba, Fp4_0, Fp4_1, Fp4_2, Ap4_0⟩ := q4
  have N4 := Fr.app N3 Nq4
  have sz_b4_ba : h0.size ≤ b4_ba := Nat.le_trans (Nat.le_trans (Nat.le_trans (Nat.le_trans (Nat.le_refl _) E1.1) K2.1) K3.1) sq_b4_ba
  have g_b4_ba : n0 ≤ b4_ba := Nat.le_trans Z0 sz_b4_ba
  have lc0_4 := pr3_0.keep K4 (fun x B => ninS (B.no g_b1 (Or.inl lo0)) nin0)
  refine k_some K (w := (.int (1 : Int32))) ?_
  refine m_pop K X4.here hx hby at_18 rfl rfl ?_
  refine m_aloadN K X4.here hx hby at_19 rfl rfl rfl ?_
  refine m_iconst K X4.here hx hby (1 : Int32) at_20 rfl rfl ?_
  have lo1 : b1 < T4.heap.size := ((((A1.keep K2).keep K3).keep K4)).lt
  have le1 : b4_ba < T4.heap.size := (Ap4_0).lt
  refine k_callS K X4 hx hby hZ [(.int (1 : Int32))] [(.ref b1)] hown (hw _ (List.mem_of_getElem? (i := 26) rfl)) (hw _ (List.mem_of_getElem? (i := 27) rfl)) (hw _ (List.mem_of_getElem? (i := 28) rfl)) (hw _ (List.mem_of_getElem? (i := 29) rfl)) (ccol1 l Z a0 hw d1 ca bx s5 s6 T4.heap n0 (Nat.le_trans Z0 (Nat.le_trans (Nat.le_trans (Nat.le_trans (Nat.le_trans (Nat.le_refl _) E1.1) K2.1) K3.1) K4.1)) ((((ES5.ext E1).keep K2).keep K3).keep K4) ((((ES6.ext E1).keep K2).keep K3).keep K4) ((((FS5.ext E1).keep K2 (ninS (Nat.ne_of_lt (Nat.lt_of_lt_of_le (Nat.lt_of_lt_of_le ES5.lt (Nat.le_refl _)) (Nat.le_of_eq g1.symm))) nin0)).keep K3 nin0).keep K4 (ninS (Nat.ne_of_lt (Nat.lt_of_lt_of_le (Nat.lt_of_lt_of_le ES5.lt (Nat.le_refl _)) (Nat.le_of_eq g1.symm))) nin0)) ((((FS6.ext E1).keep K2 (ninS (Nat.ne_of_lt (Nat.lt_of_lt_of_le (Nat.lt_of_lt_of_le ES6.lt (Nat.le_refl _)) (Nat.le_of_eq g1.symm))) nin0)).keep K3 nin0).keep K4 (ninS (Nat.ne_of_lt (Nat.lt_of_lt_of_le (Nat.lt_of_lt_of_le ES6.lt (Nat.le_refl _)) (Nat.le_of_eq g1.symm))) nin0)) ((((AD.ext E1).keep K2 (ninS (Nat.ne_of_lt (Nat.lt_of_lt_of_le (Nat.lt_of_lt_of_le AD.lt (Nat.le_refl _)) (Nat.le_of_eq g1.symm))) nin0)).keep K3 nin0).keep K4 (ninS (Nat.ne_of_lt (Nat.lt_of_lt_of_le (Nat.lt_of_lt_of_le AD.lt (Nat.le_refl _)) (Nat.le_of_eq g1.symm))) nin0)) S_ArrayList_DEFAULTCAPACITY_EMPTY_ELEMENTDATA S_Integer_IntegerCache_high S_Integer_IntegerCache_cache ((((O0.ext E1).keep K2 (allS g_b1 all0)).keep K3 all0).keep K4 (allS g_b1 all0)) ACA A7_5 A7_6 hs5 hs6) rfl rfl rfl pd_16 rfl at_21 (by rw [hml]; rfl) rfl (by decide) (by decide) (Nat.le_of_ble_eq_true rfl) (by decide) (by decide) fun v5 T5 L5 X5 q5 => ?_
  obtain ⟨b5_b, rfl, Nq5, K5, sq_b5_b, E_b5_b, pr5_0⟩ := q5
  have N5 := Fr.app N4 Nq5
  have sz_b5_b : h0.size ≤ b5_b := Nat.le_trans (Nat.le_trans (Nat.le_trans (Nat.le_trans (Nat.le_trans (Nat.le_refl _) E1.1) K2.1) K3.1) K4.1) sq_b5_b
  have g_b5_b : n0 ≤ b5_b := Nat.le_trans Z0 sz_b5_b
  have lc0_5 := lc0_4.keep K5 (fun _ _ => nin0)
  refine k_some K (w := (.ref b5_b)) ?_
  refine k_callI K X5 hx hby hZ b1 [(.ref b5_b)] [] hown (hw _ (List.mem_of_getElem? (i := 68) rfl)) (hw _ (List.mem_of_getElem? (i := 69) rfl)) (mvT hZ.wide (hw _ (List.mem_of_getElem? (i := 70) rfl))) (hw _ (List.mem_of_getElem? (i := 71) rfl)) (hw _ (List.mem_of_getElem? (i := 39) rfl)) (hw _ (List.mem_of_getElem? (i := 72) rfl)) (hw _ (List.mem_of_getElem? (i := 73) rfl)) (hw _ (List.mem_of_getElem? (i := 74) rfl)) (hw _ (List.mem_of_getElem? (i := 2) rfl)) (hw _ (List.mem_of_getElem? (i := 41) rfl)) (c9l1 l Z a0 hw b1 b5_b b4_ba b3_b T5.heap n0 (Nat.le_trans Z0 (Nat.le_trans (Nat.le_trans (Nat.le_trans (Nat.le_trans (Nat.le_trans (Nat.le_refl _) E1.1) K2.1) K3.1) K4.1) K5.1)) ((((A1.keep K2).keep K3).keep K4).keep K5) E_b5_b (Fp4_0.keep K5 nin0) (Fp4_1.keep K5 nin0) (Fp4_2.keep K5 nin0) (Ap4_0.keep K5 nin0) g_b1 g_b4_ba (Nat.ne_of_lt (Nat.lt_of_lt_of_le (Nat.lt_of_lt_of_le A1.lt (Nat.le_trans (Nat.le_trans (Nat.le_refl _) K2.1) K3.1)) sq_b4_ba))) rfl ((((A1.keep K2).keep K3).keep K4).keep K5) rfl rfl pd_14 rfl at_24 (by rw [hml]; rfl) rfl (by decide) (by decide) (Nat.le_of_ble_eq_true rfl) (by decide) (by decide) fun v6 T6 L6 X6 q6 => ?_
  obtain ⟨rfl, Nq6, K6, Fp6_0, Fp6_1, Fp6_2, Ap6_0⟩ := q6
  have N6 := Fr.app N5 Nq6
  have lc0_6 := lc0_5.keep K6 (fun x B => ninS (B.no g_b1 (Or.inl lo0)) (ninS (B.no g_b4_ba (Or.inr sq_b4_ba)) nin0))
  have lc1_6 := pr5_0.keep K6 (fun x B => ninS (B.no g_b1 (Or.inl lo1)) (ninS (B.no g_b4_ba (Or.inl le1)) nin0))
  refine k_some K (w := (.int (1 : Int32))) ?_
  refine m_pop K X6.here hx hby at_29 rfl rfl ?_
  refine m_aloadN K X6.here hx hby at_30 rfl rfl rfl ?_
  refine m_iconst K X6.here hx hby (2 : Int32) at_31 rfl rfl ?_
  have lo2 : b1 < T6.heap.size := ((((((A1.keep K2).keep K3).keep K4).keep K5).keep K6)).lt
  have le2 : b4_ba < T6.heap.size := (Ap6_0).lt
  refine k_callS K X6 hx hby hZ [(.int (2 : Int32))] [(.ref b1)] hown (hw _ (List.mem_of_getElem? (i := 26) rfl)) (hw _ (List.mem_of_getElem? (i := 27) rfl)) (hw _ (List.mem_of_getElem? (i := 28) rfl)) (hw _ (List.mem_of_getElem? (i := 29) rfl)) (ccol2 l Z a0 hw d1 ca bx T6.heap n0 (Nat.le_trans Z0 (Nat.le_trans (Nat.le_trans (Nat.le_trans (Nat.le_trans (Nat.le_trans (Nat.le_trans (Nat.le_refl _) E1.1) K2.1) K3.1) K4.1) K5.1) K6.1)) ((((((AD.ext E1).keep K2 (ninS (Nat.ne_of_lt (Nat.lt_of_lt_of_le (Nat.lt_of_lt_of_le AD.lt (Nat.le_refl _)) (Nat.le_of_eq g1.symm))) nin0)).keep K3 nin0).keep K4 (ninS (Nat.ne_of_lt (Nat.lt_of_lt_of_le (Nat.lt_of_lt_of_le AD.lt (Nat.le_refl _)) (Nat.le_of_eq g1.symm))) nin0)).keep K5 nin0).keep K6 (ninS (Nat.ne_of_lt (Nat.lt_of_lt_of_le (Nat.lt_of_lt_of_le AD.lt (Nat.le_refl _)) (Nat.le_of_eq g1.symm))) (ninS (Nat.ne_of_lt (Nat.lt_of_lt_of_le (Nat.lt_of_lt_of_le AD.lt (Nat.le_trans (Nat.le_trans (Nat.le_trans (Nat.le_refl _) E1.1) K2.1) K3.1)) sq_b4_ba)) nin0))) S_ArrayList_DEFAULTCAPACITY_EMPTY_ELEMENTDATA S_Integer_IntegerCache_high S_Integer_IntegerCache_cache ((((((O0.ext E1).keep K2 (allS g_b1 all0)).keep K3 all0).keep K4 (allS g_b1 all0)).keep K5 all0).keep K6 (allS g_b1 (allS g_b4_ba all0))) ACA) rfl rfl rfl pd_16 rfl at_32 (by rw [hml]; rfl) rfl (by decide) (by decide) (Nat.le_of_ble_eq_true rfl) (by decide) (by decide) fun v7 T7 L7 X7 q7 => ?_
  obtain ⟨b7_b, rfl, Nq7, K7, sq_b7_b, E_b7_b, pr7_0⟩ := q7
  have N7 := Fr.app N6 Nq7
  have sz_b7_b : h0.size ≤ b7_b := Nat.le_trans (Nat.le_trans (Nat.le_trans (Nat.le_trans (Nat.le_trans (Nat.le_trans (Nat.le_trans (Nat.le_refl _) E1.1) K2.1) K3.1) K4.1) K5.1) K6.1) sq_b7_b
  have g_b7_b : n0 ≤ b7_b := Nat.le_trans Z0 sz_b7_b
  have lc0_7 := lc0_6.keep K7 (fun _ _ => nin0)
  have lc1_7 := lc1_6.keep K7 (fun _ _ => nin0)
  refine k_some K (w := (.ref b7_b)) ?_
  refine k_callI K X7 hx hby hZ b1 [(.ref b7_b)] [] hown (hw _ (List.mem_of_getElem? (i := 68) rfl)) (hw _ (List.mem_of_getElem? (i := 69) rfl)) (mvT hZ.wide (hw _ (List.mem_of_getElem? (i := 70) rfl))) (hw _ (List.mem_of_getElem? (i := 71) rfl)) (hw _ (List.mem_of_getElem? (i := 39) rfl)) (hw _ (List.mem_of_getElem? (i := 72) rfl)) (hw _ (List.mem_of_getElem? (i := 73) rfl)) (hw _ (List.mem_of_getElem? (i := 74) rfl)) (hw _ (List.mem_of_getElem? (i := 2) rfl)) (hw _ (List.mem_of_getElem? (i := 41) rfl)) (c9l2 l Z a0 hw b1 b7_b b4_ba b3_b b5_b T7.heap n0 (Nat.le_trans Z0 (Nat.le_trans (Nat.le_trans (Nat.le_trans (Nat.le_trans (Nat.le_trans (Nat.le_trans (Nat.le_trans (Nat.le_refl _) E1.1) K2.1) K3.1) K4.1) K5.1) K6.1) K7.1)) ((((((A1.keep K2).keep K3).keep K4).keep K5).keep K6).keep K7) E_b7_b (Fp6_0.keep K7 nin0) (Fp6_1.keep K7 nin0) (Fp6_2.keep K7 nin0) (Ap6_0.keep K7 nin0) g_b1 g_b4_ba (Nat.ne_of_lt (Nat.lt_of_lt_of_le (Nat.lt_of_lt_of_le A1.lt (Nat.le_trans (Nat.le_trans (Nat.le_refl _) K2.1) K3.1)) sq_b4_ba))) rfl ((((((A1.keep K2).keep K3).keep K4).keep K5).keep K6).keep K7) rfl rfl pd_14 rfl at_35 (by rw [hml]; rfl) rfl (by decide) (by decide) (Nat.le_of_ble_eq_true rfl) (by decide) (by decide) fun v8 T8 L8 X8 q8 => ?_
  obtain ⟨rfl, Nq8, K8, Fp8_0, Fp8_1, Fp8_2, Ap8_0⟩ := q8
  have N8 := Fr.app N7 Nq8
  have lc0_8 := lc0_7.keep K8 (fun x B => ninS (B.no g_b1 (Or.inl lo0)) (ninS (B.no g_b4_ba (Or.inr sq_b4_ba)) nin0))
  have lc1_8 := lc1_7.keep K8 (fun x B => ninS (B.no g_b1 (Or.inl lo1)) (ninS (B.no g_b4_ba (Or.inl le1)) nin0))
  have lc2_8 := pr7_0.keep K8 (fun x B => ninS (B.no g_b1 (Or.inl lo2)) (ninS (B.no g_b4_ba (Or.inl le2)) nin0))
  refine k_some K (w := (.int (1 : Int32))) ?_
  refine m_pop K X8.here hx hby at_40 rfl rfl ?_
  have HI0 : Ic Z T8.heap b1 := ⟨b4_ba, b3_b, b5_b, b7_b, n0, T2.heap.size, T3.heap.size, n0, T4.heap.size, T5.heap.size, n0, T6.heap.size, T7.heap.size, (((((((A1.keep K2).keep K3).keep K4).keep K5).keep K6).keep K7).keep K8), Fp8_2, Fp8_1, (Ap8_0).av, lc0_8, lc1_8, lc2_8⟩
  refine k_newO K X8 hx hby hZ hown (hw _ (List.mem_of_getElem? (i := 91) rfl)) (hw _ (List.mem_of_getElem? (i := 92) rfl)) (hw _ (List.mem_of_getElem? (i := 93) rfl)) rfl at_41 rfl (by decide) (by decide) fun T9 h9 b9 X9 e9 E9 g9 A9 D9 => ?_
  have sz_b9 : h0.size ≤ b9 := Nat.le_trans (Nat.le_trans (Nat.le_trans (Nat.le_trans (Nat.le_trans (Nat.le_trans (Nat.le_trans (Nat.le_trans (Nat.le_trans (Nat.le_refl _) E1.1) K2.1) K3.1) K4.1) K5.1) K6.1) K7.1) K8.1) (Nat.le_of_eq g9.symm)
  have g_b9 : n0 ≤ b9 := Nat.le_trans Z0 sz_b9
  have F_occupied_b9 : Fld Z h9 b9 "com/example/craterworks/craterworks/SharesStation" "occupied" "[[Z" .null := D9 (Or.inr (hw _ (List.mem_of_getElem? (i := 102) rfl))) (ty := (.array (.array .boolean))) (by decide)
  have F_uncovered_b9 : Fld Z h9 b9 "com/example/craterworks/craterworks/SharesStation" "uncovered" "[Z" .null := D9 (Or.inr (hw _ (List.mem_of_getElem? (i := 104) rfl))) (ty := (.array .boolean)) (by decide)
  have F_icons_b9 : Fld Z h9 b9 "com/example/craterworks/craterworks/SharesStation" "icons" "Ljava/util/List;" .null := D9 (Or.inr (hw _ (List.mem_of_getElem? (i := 106) rfl))) (ty := (.object "java/util/List")) (by decide)
  refine m_dup K X9.here hx hby at_44 rfl rfl ?_
  refine m_aloadN K X9.here hx hby at_45 rfl rfl rfl ?_
  refine k_callP K X9 hx hby hZ b9 [(.ref b1)] [(.ref b9)] hown (hw _ (List.mem_of_getElem? (i := 94) rfl)) (hw _ (List.mem_of_getElem? (i := 95) rfl)) (hw _ (List.mem_of_getElem? (i := 93) rfl)) (hw _ (List.mem_of_getElem? (i := 96) rfl)) rfl (csi l Z a0 hw b9 b1 h9 n0 (Nat.le_trans Z0 (Nat.le_trans (Nat.le_trans (Nat.le_trans (Nat.le_trans (Nat.le_trans (Nat.le_trans (Nat.le_trans (Nat.le_trans (Nat.le_trans (Nat.le_refl _) E1.1) K2.1) K3.1) K4.1) K5.1) K6.1) K7.1) K8.1) E9.1)) A9 F_occupied_b9 F_uncovered_b9 F_icons_b9 g_b9) e9 rfl rfl pd_17 rfl at_46 (by rw [hml]; rfl) rfl (by decide) (by decide) (Nat.le_of_ble_eq_true rfl) (by decide) (by decide) fun v10 T10 L10 X10 q10 => ?_
  obtain ⟨b10_bo, b10_x0, b10_x1, b10_x2, b10_bu, rfl, Nq10, K10, sq_b10_bo, sq_b10_x0, sq_b10_x1, sq_b10_x2, sq_b10_bu, nq10_bo_x0, nq10_bo_x1, nq10_bo_x2, nq10_bo_bu, nq10_x0_x1, nq10_x0_x2, nq10_x0_bu, nq10_x1_x2, nq10_x1_bu, nq10_x2_bu, Fp10_0, Fp10_1, Fp10_2, Ap10_0, Ap10_1, Ap10_2, Ap10_3, Ap10_4⟩ := q10
  have N10 := Fr.app N8 Nq10
  have sz_b10_bo : h0.size ≤ b10_bo := Nat.le_trans (Nat.le_trans (Nat.le_trans (Nat.le_trans (Nat.le_trans (Nat.le_trans (Nat.le_trans (Nat.le_trans (Nat.le_trans (Nat.le_trans (Nat.le_refl _) E1.1) K2.1) K3.1) K4.1) K5.1) K6.1) K7.1) K8.1) E9.1) sq_b10_bo
  have g_b10_bo : n0 ≤ b10_bo := Nat.le_trans Z0 sz_b10_bo
  have sz_b10_x0 : h0.size ≤ b10_x0 := Nat.le_trans (Nat.le_trans (Nat.le_trans (Nat.le_trans (Nat.le_trans (Nat.le_trans (Nat.le_trans (Nat.le_trans (Nat.le_trans (Nat.le_trans (Nat.le_refl _) E1.1) K2.1) K3.1) K4.1) K5.1) K6.1) K7.1) K8.1) E9.1) sq_b10_x0
  have g_b10_x0 : n0 ≤ b10_x0 := Nat.le_trans Z0 sz_b10_x0
  have sz_b10_x1 : h0.size ≤ b10_x1 := Nat.le_trans (Nat.le_trans (Nat.le_trans (Nat.le_trans (Nat.le_trans (Nat.le_trans (Nat.le_trans (Nat.le_trans (Nat.le_trans (Nat.le_trans (Nat.le_refl _) E1.1) K2.1) K3.1) K4.1) K5.1) K6.1) K7.1) K8.1) E9.1) sq_b10_x1
  have g_b10_x1 : n0 ≤ b10_x1 := Nat.le_trans Z0 sz_b10_x1
  have sz_b10_x2 : h0.size ≤ b10_x2 := Nat.le_trans (Nat.le_trans (Nat.le_trans (Nat.le_trans (Nat.le_trans (Nat.le_trans (Nat.le_trans (Nat.le_trans (Nat.le_trans (Nat.le_trans (Nat.le_refl _) E1.1) K2.1) K3.1) K4.1) K5.1) K6.1) K7.1) K8.1) E9.1) sq_b10_x2
  have g_b10_x2 : n0 ≤ b10_x2 := Nat.le_trans Z0 sz_b10_x2
  have sz_b10_bu : h0.size ≤ b10_bu := Nat.le_trans (Nat.le_trans (Nat.le_trans (Nat.le_trans (Nat.le_trans (Nat.le_trans (Nat.le_trans (Nat.le_trans (Nat.le_trans (Nat.le_trans (Nat.le_refl _) E1.1) K2.1) K3.1) K4.1) K5.1) K6.1) K7.1) K8.1) E9.1) sq_b10_bu
  have g_b10_bu : n0 ≤ b10_bu := Nat.le_trans Z0 sz_b10_bu
  refine k_none K ?_
  have S0 : Sn Z T10.heap n0 b9 0 0 0 := ⟨b10_bo, b10_bu, b10_x0, b10_x1, b10_x2, b1, T8.heap, (A9.keep K10), Fp10_0, Fp10_1, Fp10_2, Ap10_0, Ap10_1, Ap10_2, Ap10_3, Ap10_4, ⟨(Nat.ne_of_lt (Nat.lt_of_lt_of_le (Nat.lt_of_lt_of_le A9.lt (Nat.le_refl _)) sq_b10_x0)), (Nat.ne_of_lt (Nat.lt_of_lt_of_le (Nat.lt_of_lt_of_le A9.lt (Nat.le_refl _)) sq_b10_x1)), (Nat.ne_of_lt (Nat.lt_of_lt_of_le (Nat.lt_of_lt_of_le A9.lt (Nat.le_refl _)) sq_b10_x2)), (Nat.ne_of_lt (Nat.lt_of_lt_of_le (Nat.lt_of_lt_of_le A9.lt (Nat.le_refl _)) sq_b10_bu)), nq10_bo_x0, nq10_bo_x1, nq10_bo_x2, nq10_bo_bu, nq10_x0_bu, nq10_x1_bu, nq10_x2_bu, nq10_x0_x1, nq10_x0_x2, nq10_x1_x2⟩, ⟨g_b10_x0, g_b10_x1, g_b10_x2, g_b10_bu⟩, ⟨Nat.le_trans E9.1 sq_b10_x0, Nat.le_trans E9.1 sq_b10_x1, Nat.le_trans E9.1 sq_b10_x2, Nat.le_trans E9.1 sq_b10_bu⟩, own_ek E9 K10 (allS (Nat.le_of_eq g9.symm) all0), HI0⟩
  refine m_astore K X10.here hx hby #[.val (.int i1), .val (.int i2), .val (.int i3), .val (.ref b1), .val (.ref b9), .unset, .unset, .unset, .unset, .unset, .unset, .unset] at_49 rfl rfl rfl ?_
  refine m_iloadN K X10.here hx hby at_51 rfl rfl ?_
  refine m_ldc K X10 hx hby hZ hown (hw _ (List.mem_of_getElem? (i := 111) rfl)) at_52 rfl ?_
  refine m_iand K X10.here hx hby (i1 &&& (2147483647 : Int32)) at_54 rfl rfl ?_
  refine m_iconst K X10.here hx hby (3 : Int32) at_55 rfl rfl ?_
  refine m_irem K X10.here hx hby (w0_1 i1) at_56 (by decide) rfl rfl ?_
  refine m_istore K X10.here hx hby #[.val (.int i1), .val (.int i2), .val (.int i3), .val (.ref b1), .val (.ref b9), .val (.int (w0_1 i1)), .unset, .unset, .unset, .unset, .unset, .unset] at_57 rfl rfl ?_
  refine m_iload K X10.here hx hby at_59 rfl rfl ?_
  refine m_iconst K X10.here hx hby (1 : Int32) at_61 rfl rfl ?_
  refine m_iadd K X10.here hx hby ((w0_1 i1) + (1 : Int32)) at_62 rfl rfl ?_
  refine m_iloadN K X10.here hx hby at_63 rfl rfl ?_
  refine m_iconst K X10.here hx hby (1 : Int32) at_64 rfl rfl ?_
  refine m_iand K X10.here hx hby (i3 &&& (1 : Int32)) at_65 rfl rfl ?_
  refine m_iadd K X10.here hx hby (w0_2 i1 i3) at_66 rfl rfl ?_
  refine m_iconst K X10.here hx hby (3 : Int32) at_67 rfl rfl ?_
  refine m_irem K X10.here hx hby ((w0_2 i1 i3) % (3 : Int32)) at_68 (by decide) rfl rfl ?_
  refine m_istore K X10.here hx hby #[.val (.int i1), .val (.int i2), .val (.int i3), .val (.ref b1), .val (.ref b9), .val (.int (w0_1 i1)), .val (.int ((w0_2 i1 i3) % (3 : Int32))), .unset, .unset, .unset, .unset, .unset] at_69 rfl rfl ?_
  refine m_iloadN K X10.here hx hby at_71 rfl rfl ?_
  refine m_ldc K X10 hx hby hZ hown (hw _ (List.mem_of_getElem? (i := 111) rfl)) at_72 rfl ?_
  refine m_iand K X10.here hx hby (i2 &&& (2147483647 : Int32)) at_74 rfl rfl ?_
  refine m_bipush K X10.here hx hby (6 : Int32) at_75 rfl rfl ?_
  refine m_irem K X10.here hx hby (w0_3 i2) at_77 (by decide) rfl rfl ?_
  refine m_istore K X10.here hx hby #[.val (.int i1), .val (.int i2), .val (.int i3), .val (.ref b1), .val (.ref b9), .val (.int (w0_1 i1)), .val (.int ((w0_2 i1 i3) % (3 : Int32))), .val (.int (w0_3 i2)), .unset, .unset, .unset, .unset] at_78 rfl rfl ?_
  rcases own_n i2 with hn | hn | hn | hn | hn | hn
  · rw [hn]
    refine m_iload K X10.here hx hby at_80 rfl rfl ?_
    refine m_ifY K X10.here hx hby (q := 92) at_82 ((if0 _ _).trans (flt (by decide : ¬ ((0 : Int32) < (0 : Int32)))).2.2.2) (by decide) rfl ?_
    refine m_iload K X10.here hx hby at_92 rfl rfl ?_
    refine m_iconst K X10.here hx hby (1 : Int32) at_94 rfl rfl ?_
    refine m_icmpY K X10.here hx hby (q := 105) at_95 (flt (by decide : ¬ ((1 : Int32) < (0 : Int32)))).2.2.2 (by decide) rfl ?_
    refine m_iload K X10.here hx hby at_105 rfl rfl ?_
    refine m_iconst K X10.here hx hby (2 : Int32) at_107 rfl rfl ?_
    refine m_icmpY K X10.here hx hby (q := 118) at_108 (flt (by decide : ¬ ((2 : Int32) < (0 : Int32)))).2.2.2 (by decide) rfl ?_
    refine m_iload K X10.here hx hby at_118 rfl rfl ?_
    refine m_iconst K X10.here hx hby (3 : Int32) at_120 rfl rfl ?_
    refine m_icmpY K X10.here hx hby (q := 131) at_121 (flt (by decide : ¬ ((3 : Int32) < (0 : Int32)))).2.2.2 (by decide) rfl ?_
    refine m_iload K X10.here hx hby at_131 rfl rfl ?_
    refine m_iconst K X10.here hx hby (4 : Int32) at_133 rfl rfl ?_
    refine m_icmpY K X10.here hx hby (q := 144) at_134 (flt (by decide : ¬ ((4 : Int32) < (0 : Int32)))).2.2.2 (by decide) rfl ?_
    refine m_iload K X10.here hx hby at_144 rfl rfl ?_
    refine m_iconst K X10.here hx hby (5 : Int32) at_146 rfl rfl ?_
    refine m_icmpY K X10.here hx hby (q := 157) at_147 (feq (by decide : ¬ ((0 : Int32) = (5 : Int32)))).2 (by decide) rfl ?_
    refine m_aload K X10.here hx hby at_157 rfl rfl rfl ?_
    refine m_iload K X10.here hx hby at_159 rfl rfl ?_
    refine k_callV K X10 hx hby hZ b9 [(.int ((w0_2 i1 i3) % (3 : Int32)))] [] hown (hw _ (List.mem_of_getElem? (i := 112) rfl)) (hw _ (List.mem_of_getElem? (i := 113) rfl)) (notFace_of_selects (args := #[]) (mvT hZ.wide (hw _ (List.mem_of_getElem? (i := 115) rfl)))) (hw _ (List.mem_of_getElem? (i := 115) rfl)) (hw _ (List.mem_of_getElem? (i := 114) rfl)) (hw _ (List.mem_of_getElem? (i := 93) rfl)) (hw _ (List.mem_of_getElem? (i := 116) rfl)) (take_s l Z a0 hw b9 ((w0_2 i1 i3) % (3 : Int32)) 0 0 0 T10.heap n0 (Nat.le_trans Z0 (Nat.le_trans (Nat.le_trans (Nat.le_trans (Nat.le_trans (Nat.le_trans (Nat.le_trans (Nat.le_trans (Nat.le_trans (Nat.le_trans (Nat.le_trans (Nat.le_refl _) E1.1) K2.1) K3.1) K4.1) K5.1) K6.1) K7.1) K8.1) E9.1) K10.1)) (own_d3 i1 i3) (own_six (own_cd i1 i3) (P := fun c d => okc d 0 0 0) (by decide +kernel)) S0) rfl (A9.keep K10) rfl rfl pd_9 rfl at_161 (by rw [hml]; rfl) rfl (by decide) (by decide) (Nat.le_of_ble_eq_true rfl) (by decide) (by decide) fun v11 T11 L11 X11 q11 => ?_
    obtain ⟨rfl, Nq11, sz11, S11⟩ := q11
    have N11 := Fr.app N10 Nq11
    have K11 : T10.heap.size ≤ T11.heap.size ∧ True := ⟨sz11, trivial⟩
    refine k_none K ?_
    refine m_aload K X11.here hx hby at_164 rfl rfl rfl ?_
    refine m_iload K X11.here hx hby at_166 rfl rfl ?_
    refine k_callV K X11 hx hby hZ b9 [(.int (w0_1 i1))] [] hown (hw _ (List.mem_of_getElem? (i := 112) rfl)) (hw _ (List.mem_of_getElem? (i := 113) rfl)) (notFace_of_selects (args := #[]) (mvT hZ.wide (hw _ (List.mem_of_getElem? (i := 115) rfl)))) (hw _ (List.mem_of_getElem? (i := 115) rfl)) (hw _ (List.mem_of_getElem? (i := 114) rfl)) (hw _ (List.mem_of_getElem? (i := 93) rfl)) (hw _ (List.mem_of_getElem? (i := 116) rfl)) (take_s l Z a0 hw b9 (w0_1 i1) (tk ((w0_2 i1 i3) % (3 : Int32)) 0 0) (tk ((w0_2 i1 i3) % (3 : Int32)) 1 0) (tk ((w0_2 i1 i3) % (3 : Int32)) 2 0) T11.heap n0 (Nat.le_trans Z0 (Nat.le_trans (Nat.le_trans (Nat.le_trans (Nat.le_trans (Nat.le_trans (Nat.le_trans (Nat.le_trans (Nat.le_trans (Nat.le_trans (Nat.le_trans (Nat.le_trans (Nat.le_refl _) E1.1) K2.1) K3.1) K4.1) K5.1) K6.1) K7.1) K8.1) E9.1) K10.1) K11.1)) (own_c3 i1) (own_six (own_cd i1 i3) (P := fun c d => okc c (tk d 0 0) (tk d 1 0) (tk d 2 0)) (by decide +kernel)) S11) rfl (Sn.exa S11) rfl rfl pd_9 rfl at_168 (by rw [hml]; rfl) rfl (by decide) (by decide) (Nat.le_of_ble_eq_true rfl) (by decide) (by decide) fun v12 T12 L12 X12 q12 => ?_
    obtain ⟨rfl, Nq12, sz12, S12⟩ := q12
    have N12 := Fr.app N11 Nq12
    have K12 : T11.heap.size ≤ T12.heap.size ∧ True := ⟨sz12, trivial⟩
    refine k_none K ?_
    refine m_iload K X12.here hx hby at_171 rfl rfl ?_
    refine m_iconst K X12.here hx hby (5 : Int32) at_173 rfl rfl ?_
    refine m_icmpY K X12.here hx hby (q := 181) at_174 (feq (by decide : ¬ ((0 : Int32) = (5 : Int32)))).2 (by decide) rfl ?_
    refine m_iload K X12.here hx hby at_181 rfl rfl ?_
    refine m_iconst K X12.here hx hby (1 : Int32) at_183 rfl rfl ?_
    refine m_iadd K X12.here hx hby (1 : Int32) at_184 rfl rfl ?_
    refine m_istore K X12.here hx hby #[.val (.int i1), .val (.int i2), .val (.int i3), .val (.ref b1), .val (.ref b9), .val (.int (w0_1 i1)), .val (.int ((w0_2 i1 i3) % (3 : Int32))), .val (.int (0 : Int32)), .val (.int (1 : Int32)), .unset, .unset, .unset] at_185 rfl rfl ?_
    refine m_iconst K X12.here hx hby (1 : Int32) at_187 rfl rfl ?_
    refine m_iload K X12.here hx hby at_188 rfl rfl ?_
    refine m_ishl K X12.here hx hby (2 : Int32) at_190 rfl rfl ?_
    refine m_iconst K X12.here hx hby (1 : Int32) at_191 rfl rfl ?_
    refine m_isub K X12.here hx hby (1 : Int32) at_192 rfl rfl ?_
    refine m_istore K X12.here hx hby #[.val (.int i1), .val (.int i2), .val (.int i3), .val (.ref b1), .val (.ref b9), .val (.int (w0_1 i1)), .val (.int ((w0_2 i1 i3) % (3 : Int32))), .val (.int (0 : Int32)), .val (.int (1 : Int32)), .val (.int (1 : Int32)), .unset, .unset] at_193 rfl rfl ?_
    refine m_iload K X12.here hx hby at_195 rfl rfl ?_
    refine m_iconst K X12.here hx hby (5 : Int32) at_197 rfl rfl ?_
    refine m_iload K X12.here hx hby at_198 rfl rfl ?_
    refine m_imul K X12.here hx hby ((5 : Int32) * (w0_1 i1)) at_200 rfl rfl ?_
    refine m_ishl K X12.here hx hby (w0_4 i1) at_201 rfl rfl ?_
    refine m_iconst K X12.here hx hby (1 : Int32) at_202 rfl rfl ?_
    refine m_iconst K X12.here hx hby (5 : Int32) at_203 rfl rfl ?_
    refine m_iload K X12.here hx hby at_204 rfl rfl ?_
    refine m_imul K X12.here hx hby (w0_5 i1 i3) at_206 rfl rfl ?_
    refine m_ishl K X12.here hx hby (w0_6 i1 i3) at_207 rfl rfl ?_
    refine m_ior K X12.here hx hby ((w0_4 i1) ||| (w0_6 i1 i3)) at_208 rfl rfl ?_
    refine m_istore K X12.here hx hby #[.val (.int i1), .val (.int i2), .val (.int i3), .val (.ref b1), .val (.ref b9), .val (.int (w0_1 i1)), .val (.int ((w0_2 i1 i3) % (3 : Int32))), .val (.int (0 : Int32)), .val (.int (1 : Int32)), .val (.int (1 : Int32)), .val (.int ((w0_4 i1) ||| (w0_6 i1 i3))), .unset] at_209 rfl rfl ?_
    refine m_iload K X12.here hx hby at_211 rfl rfl ?_
    refine m_iconst K X12.here hx hby (5 : Int32) at_213 rfl rfl ?_
    refine m_icmpY K X12.here hx hby (q := 224) at_214 (feq (by decide : ¬ ((1 : Int32) = (5 : Int32)))).2 (by decide) rfl ?_
    refine m_iload K X12.here hx hby at_224 rfl rfl ?_
    refine m_iconst K X12.here hx hby (1 : Int32) at_226 rfl rfl ?_
    refine m_icmpY K X12.here hx hby (q := 237) at_227 (flt (by decide : ¬ ((1 : Int32) < (1 : Int32)))).2.2.2 (by decide) rfl ?_
    refine m_iload K X12.here hx hby at_237 rfl rfl ?_
    refine m_iload K X12.here hx hby at_239 rfl rfl ?_
    refine k_callS K X12 hx hby hZ [(.int (w0_1 i1)), (.int ((w0_2 i1 i3) % (3 : Int32)))] [] hown (hw _ (List.mem_of_getElem? (i := 184) rfl)) (hw _ (List.mem_of_getElem? (i := 185) rfl)) (hw _ (List.mem_of_getElem? (i := 63) rfl)) (hw _ (List.mem_of_getElem? (i := 186) rfl)) (c_mni l Z a0 hw (w0_1 i1) ((w0_2 i1 i3) % (3 : Int32)) T12.heap n0 (Nat.le_trans Z0 (Nat.le_trans (Nat.le_trans (Nat.le_trans (Nat.le_trans (Nat.le_trans (Nat.le_trans (Nat.le_trans (Nat.le_trans (Nat.le_trans (Nat.le_trans (Nat.le_trans (Nat.le_trans (Nat.le_refl _) E1.1) K2.1) K3.1) K4.1) K5.1) K6.1) K7.1) K8.1) E9.1) K10.1) K11.1) K12.1))) rfl rfl rfl pd_5 rfl at_241 (by rw [hml]; rfl) rfl (by decide) (by decide) (Nat.le_of_ble_eq_true rfl) (by decide) (by decide) fun v13 T13 L13 X13 q13 => ?_
    obtain ⟨rfl, e13, rfl⟩ := q13
    replace X13 := own_px X13
    refine k_some K (w := (.int (w0_7 i1 i3))) ?_
    refine m_istore K X13.here hx hby #[.val (.int i1), .val (.int i2), .val (.int i3), .val (.ref b1), .val (.ref b9), .val (.int (w0_1 i1)), .val (.int ((w0_2 i1 i3) % (3 : Int32))), .val (.int (0 : Int32)), .val (.int (1 : Int32)), .val (.int (1 : Int32)), .val (.int ((w0_4 i1) ||| (w0_6 i1 i3))), .val (.int (w0_7 i1 i3))] at_244 rfl rfl ?_
    refine m_aload K X13.here hx hby at_246 rfl rfl rfl ?_
    refine k_callV K X13 hx hby hZ b9 [] [] hown (hw _ (List.mem_of_getElem? (i := 117) rfl)) (hw _ (List.mem_of_getElem? (i := 118) rfl)) (notFace_of_selects (args := #[]) (mvT hZ.wide (hw _ (List.mem_of_getElem? (i := 120) rfl)))) (hw _ (List.mem_of_getElem? (i := 120) rfl)) (hw _ (List.mem_of_getElem? (i := 119) rfl)) (hw _ (List.mem_of_getElem? (i := 93) rfl)) (hw _ (List.mem_of_getElem? (i := 121) rfl)) (vis_s l Z a0 hw b9 (tk (w0_1 i1) 0 (tk ((w0_2 i1 i3) % (3 : Int32)) 0 0)) (tk (w0_1 i1) 1 (tk ((w0_2 i1 i3) % (3 : Int32)) 1 0)) (tk (w0_1 i1) 2 (tk ((w0_2 i1 i3) % (3 : Int32)) 2 0)) T12.heap n0 (Nat.le_trans Z0 (Nat.le_trans (Nat.le_trans (Nat.le_trans (Nat.le_trans (Nat.le_trans (Nat.le_trans (Nat.le_trans (Nat.le_trans (Nat.le_trans (Nat.le_trans (Nat.le_trans (Nat.le_trans (Nat.le_refl _) E1.1) K2.1) K3.1) K4.1) K5.1) K6.1) K7.1) K8.1) E9.1) K10.1) K11.1) K12.1)) S12) e13 (Sn.exa S12) rfl rfl pd_7 rfl at_248 (by rw [hml]; rfl) rfl (by decide) (by decide) (Nat.le_of_ble_eq_true rfl) (by decide) (by decide) fun v14 T14 L14 X14 q14 => ?_
    obtain ⟨rfl, e14, rfl⟩ := q14
    replace X14 := own_px X14
    refine k_some K (w := (.int (VSV (tk (w0_1 i1) 0 (tk ((w0_2 i1 i3) % (3 : Int32)) 0 0)) (tk (w0_1 i1) 1 (tk ((w0_2 i1 i3) % (3 : Int32)) 1 0)) (tk (w0_1 i1) 2 (tk ((w0_2 i1 i3) % (3 : Int32)) 2 0))))) ?_
    refine m_iload K X14.here hx hby at_251 rfl rfl ?_
    refine m_icmpN K X14.here hx hby (q := 256) at_253 (teq (show (VSV (tk (w0_1 i1) 0 (tk ((w0_2 i1 i3) % (3 : Int32)) 0 0)) (tk (w0_1 i1) 1 (tk ((w0_2 i1 i3) % (3 : Int32)) 1 0)) (tk (w0_1 i1) 2 (tk ((w0_2 i1 i3) % (3 : Int32)) 2 0))) = ((w0_4 i1) ||| (w0_6 i1 i3)) from of_decide_eq_true (own_six (own_cd i1 i3) (P := fun c d => decide ((VSV (tk c 0 (tk d 0 0)) (tk c 1 (tk d 1 0)) (tk c 2 (tk d 2 0))) = ((((1 : Int32) <<< (((5 : Int32) * c) &&& 31))) ||| (((1 : Int32) <<< ((((5 : Int32) * d)) &&& 31)))))) (by decide +kernel)))).2 rfl ?_
    refine m_aload K X14.here hx hby at_256 rfl rfl rfl ?_
    refine k_callV K X14 hx hby hZ b9 [] [] hown (hw _ (List.mem_of_getElem? (i := 155) rfl)) (hw _ (List.mem_of_getElem? (i := 156) rfl)) (notFace_of_selects (args := #[]) (mvT hZ.wide (hw _ (List.mem_of_getElem? (i := 158) rfl)))) (hw _ (List.mem_of_getElem? (i := 158) rfl)) (hw _ (List.mem_of_getElem? (i := 157) rfl)) (hw _ (List.mem_of_getElem? (i := 93) rfl)) (hw _ (List.mem_of_getElem? (i := 159) rfl)) (home_s l Z a0 hw b9 (tk (w0_1 i1) 0 (tk ((w0_2 i1 i3) % (3 : Int32)) 0 0)) (tk (w0_1 i1) 1 (tk ((w0_2 i1 i3) % (3 : Int32)) 1 0)) (tk (w0_1 i1) 2 (tk ((w0_2 i1 i3) % (3 : Int32)) 2 0)) T12.heap n0 (Nat.le_trans Z0 (Nat.le_trans (Nat.le_trans (Nat.le_trans (Nat.le_trans (Nat.le_trans (Nat.le_trans (Nat.le_trans (Nat.le_trans (Nat.le_trans (Nat.le_trans (Nat.le_trans (Nat.le_trans (Nat.le_refl _) E1.1) K2.1) K3.1) K4.1) K5.1) K6.1) K7.1) K8.1) E9.1) K10.1) K11.1) K12.1)) (of_decide_eq_true (own_six (own_cd i1 i3) (P := fun c d => decide (MBV (tk c 0 (tk d 0 0)) (tk c 1 (tk d 1 0)) (tk c 2 (tk d 2 0)) = 0)) (by decide +kernel))) S12) e14 (Sn.exa S12) rfl rfl pd_7 rfl at_258 (by rw [hml]; rfl) rfl (by decide) (by decide) (Nat.le_of_ble_eq_true rfl) (by decide) (by decide) fun v15 T15 L15 X15 q15 => ?_
    obtain ⟨rfl, Nq15, K15⟩ := q15
    have N15 := Fr.app N12 Nq15
    refine k_some K (w := (.int (MCV (tk (w0_1 i1) 0 (tk ((w0_2 i1 i3) % (3 : Int32)) 0 0)) (tk (w0_1 i1) 1 (tk ((w0_2 i1 i3) % (3 : Int32)) 1 0)) (tk (w0_1 i1) 2 (tk ((w0_2 i1 i3) % (3 : Int32)) 2 0))))) ?_
    refine m_iload K X15.here hx hby at_261 rfl rfl ?_
    refine m_icmpN K X15.here hx hby (q := 266) at_263 (teq (show (MCV (tk (w0_1 i1) 0 (tk ((w0_2 i1 i3) % (3 : Int32)) 0 0)) (tk (w0_1 i1) 1 (tk ((w0_2 i1 i3) % (3 : Int32)) 1 0)) (tk (w0_1 i1) 2 (tk ((w0_2 i1 i3) % (3 : Int32)) 2 0))) = (w0_7 i1 i3) from of_decide_eq_true (own_six (own_cd i1 i3) (P := fun c d => decide ((MCV (tk c 0 (tk d 0 0)) (tk c 1 (tk d 1 0)) (tk c 2 (tk d 2 0))) = ((MNI c d)))) (by decide +kernel)))).2 rfl ?_
    refine m_iconst K X15.here hx hby (1 : Int32) at_266 rfl rfl ?_
    refine m_goto K X15.here hx hby (q := 271) at_267 (by decide) rfl ?_
    exact Go.retN X15 hx hby hlk hret (by simp) at_271 (by decide) (by decide) (by decide) (⟨rfl, N15⟩)
  · rw [hn]
    refine m_iload K X10.here hx hby at_80 rfl rfl ?_
    refine m_ifN K X10.here hx hby (q := 85) at_82 ((if0 _ _).trans (tlt (by decide : (0 : Int32) < (1 : Int32))).2.2.2) rfl ?_
    refine m_aload K X10.here hx hby at_85 rfl rfl rfl ?_
    refine m_iload K X10.here hx hby at_87 rfl rfl ?_
    refine k_callV K X10 hx hby hZ b9 [(.int (w0_1 i1))] [] hown (hw _ (List.mem_of_getElem? (i := 112) rfl)) (hw _ (List.mem_of_getElem? (i := 113) rfl)) (notFace_of_selects (args := #[]) (mvT hZ.wide (hw _ (List.mem_of_getElem? (i := 115) rfl)))) (hw _ (List.mem_of_getElem? (i := 115) rfl)) (hw _ (List.mem_of_getElem? (i := 114) rfl)) (hw _ (List.mem_of_getElem? (i := 93) rfl)) (hw _ (List.mem_of_getElem? (i := 116) rfl)) (take_s l Z a0 hw b9 (w0_1 i1) 0 0 0 T10.heap n0 (Nat.le_trans Z0 (Nat.le_trans (Nat.le_trans (Nat.le_trans (Nat.le_trans (Nat.le_trans (Nat.le_trans (Nat.le_trans (Nat.le_trans (Nat.le_trans (Nat.le_trans (Nat.le_refl _) E1.1) K2.1) K3.1) K4.1) K5.1) K6.1) K7.1) K8.1) E9.1) K10.1)) (own_c3 i1) (own_six (own_cd i1 i3) (P := fun c d => okc c 0 0 0) (by decide +kernel)) S0) rfl (A9.keep K10) rfl rfl pd_9 rfl at_89 (by rw [hml]; rfl) rfl (by decide) (by decide) (Nat.le_of_ble_eq_true rfl) (by decide) (by decide) fun v16 T16 L16 X16 q16 => ?_
    obtain ⟨rfl, Nq16, sz16, S16⟩ := q16
    have N16 := Fr.app N10 Nq16
    have K16 : T10.heap.size ≤ T16.heap.size ∧ True := ⟨sz16, trivial⟩
    refine k_none K ?_
    refine m_iload K X16.here hx hby at_92 rfl rfl ?_
    refine m_iconst K X16.here hx hby (1 : Int32) at_94 rfl rfl ?_
    refine m_icmpY K X16.here hx hby (q := 105) at_95 (flt (by decide : ¬ ((1 : Int32) < (1 : Int32)))).2.2.2 (by decide) rfl ?_
    refine m_iload K X16.here hx hby at_105 rfl rfl ?_
    refine m_iconst K X16.here hx hby (2 : Int32) at_107 rfl rfl ?_
    refine m_icmpY K X16.here hx hby (q := 118) at_108 (flt (by decide : ¬ ((2 : Int32) < (1 : Int32)))).2.2.2 (by decide) rfl ?_
    refine m_iload K X16.here hx hby at_118 rfl rfl ?_
    refine m_iconst K X16.here hx hby (3 : Int32) at_120 rfl rfl ?_
    refine m_icmpY K X16.here hx hby (q := 131) at_121 (flt (by decide : ¬ ((3 : Int32) < (1 : Int32)))).2.2.2 (by decide) rfl ?_
    refine m_iload K X16.here hx hby at_131 rfl rfl ?_
    refine m_iconst K X16.here hx hby (4 : Int32) at_133 rfl rfl ?_
    refine m_icmpY K X16.here hx hby (q := 144) at_134 (flt (by decide : ¬ ((4 : Int32) < (1 : Int32)))).2.2.2 (by decide) rfl ?_
    refine m_iload K X16.here hx hby at_144 rfl rfl ?_
    refine m_iconst K X16.here hx hby (5 : Int32) at_146 rfl rfl ?_
    refine m_icmpY K X16.here hx hby (q := 157) at_147 (feq (by decide : ¬ ((1 : Int32) = (5 : Int32)))).2 (by decide) rfl ?_
    refine m_aload K X16.here hx hby at_157 rfl rfl rfl ?_
    refine m_iload K X16.here hx hby at_159 rfl rfl ?_
    refine k_callV K X16 hx hby hZ b9 [(.int ((w0_2 i1 i3) % (3 : Int32)))] [] hown (hw _ (List.mem_of_getElem? (i := 112) rfl)) (hw _ (List.mem_of_getElem? (i := 113) rfl)) (notFace_of_selects (args := #[]) (mvT hZ.wide (hw _ (List.mem_of_getElem? (i := 115) rfl)))) (hw _ (List.mem_of_getElem? (i := 115) rfl)) (hw _ (List.mem_of_getElem? (i := 114) rfl)) (hw _ (List.mem_of_getElem? (i := 93) rfl)) (hw _ (List.mem_of_getElem? (i := 116) rfl)) (take_s l Z a0 hw b9 ((w0_2 i1 i3) % (3 : Int32)) (tk (w0_1 i1) 0 0) (tk (w0_1 i1) 1 0) (tk (w0_1 i1) 2 0) T16.heap n0 (Nat.le_trans Z0 (Nat.le_trans (Nat.le_trans (Nat.le_trans (Nat.le_trans (Nat.le_trans (Nat.le_trans (Nat.le_trans (Nat.le_trans (Nat.le_trans (Nat.le_trans (Nat.le_trans (Nat.le_refl _) E1.1) K2.1) K3.1) K4.1) K5.1) K6.1) K7.1) K8.1) E9.1) K10.1) K16.1)) (own_d3 i1 i3) (own_six (own_cd i1 i3) (P := fun c d => okc d (tk c 0 0) (tk c 1 0) (tk c 2 0)) (by decide +kernel)) S16) rfl (Sn.exa S16) rfl rfl pd_9 rfl at_161 (by rw [hml]; rfl) rfl (by decide) (by decide) (Nat.le_of_ble_eq_true rfl) (by decide) (by decide) fun v17 T17 L17 X17 q17 => ?_
    obtain ⟨rfl, Nq17, sz17, S17⟩ := q17
    have N17 := Fr.app N16 Nq17
    have K17 : T16.heap.size ≤ T17.heap.size ∧ True := ⟨sz17, trivial⟩
    refine k_none K ?_
    refine m_aload K X17.here hx hby at_164 rfl rfl rfl ?_
    refine m_iload K X17.here hx hby at_166 rfl rfl ?_
    refine k_callV K X17 hx hby hZ b9 [(.int (w0_1 i1))] [] hown (hw _ (List.mem_of_getElem? (i := 112) rfl)) (hw _ (List.mem_of_getElem? (i := 113) rfl)) (notFace_of_selects (args := #[]) (mvT hZ.wide (hw _ (List.mem_of_getElem? (i := 115) rfl)))) (hw _ (List.mem_of_getElem? (i := 115) rfl)) (hw _ (List.mem_of_getElem? (i := 114) rfl)) (hw _ (List.mem_of_getElem? (i := 93) rfl)) (hw _ (List.mem_of_getElem? (i := 116) rfl)) (take_s l Z a0 hw b9 (w0_1 i1) (tk ((w0_2 i1 i3) % (3 : Int32)) 0 (tk (w0_1 i1) 0 0)) (tk ((w0_2 i1 i3) % (3 : Int32)) 1 (tk (w0_1 i1) 1 0)) (tk ((w0_2 i1 i3) % (3 : Int32)) 2 (tk (w0_1 i1) 2 0)) T17.heap n0 (Nat.le_trans Z0 (Nat.le_trans (Nat.le_trans (Nat.le_trans (Nat.le_trans (Nat.le_trans (Nat.le_trans (Nat.le_trans (Nat.le_trans (Nat.le_trans (Nat.le_trans (Nat.le_trans (Nat.le_trans (Nat.le_refl _) E1.1) K2.1) K3.1) K4.1) K5.1) K6.1) K7.1) K8.1) E9.1) K10.1) K16.1) K17.1)) (own_c3 i1) (own_six (own_cd i1 i3) (P := fun c d => okc c (tk d 0 (tk c 0 0)) (tk d 1 (tk c 1 0)) (tk d 2 (tk c 2 0))) (by decide +kernel)) S17) rfl (Sn.exa S17) rfl rfl pd_9 rfl at_168 (by rw [hml]; rfl) rfl (by decide) (by decide) (Nat.le_of_ble_eq_true rfl) (by decide) (by decide) fun v18 T18 L18 X18 q18 => ?_
    obtain ⟨rfl, Nq18, sz18, S18⟩ := q18
    have N18 := Fr.app N17 Nq18
    have K18 : T17.heap.size ≤ T18.heap.size ∧ True := ⟨sz18, trivial⟩
    refine k_none K ?_
    refine m_iload K X18.here hx hby at_171 rfl rfl ?_
    refine m_iconst K X18.here hx hby (5 : Int32) at_173 rfl rfl ?_
    refine m_icmpY K X18.here hx hby (q := 181) at_174 (feq (by decide : ¬ ((1 : Int32) = (5 : Int32)))).2 (by decide) rfl ?_
    refine m_iload K X18.here hx hby at_181 rfl rfl ?_
    refine m_iconst K X18.here hx hby (1 : Int32) at_183 rfl rfl ?_
    refine m_iadd K X18.here hx hby (2 : Int32) at_184 rfl rfl ?_
    refine m_istore K X18.here hx hby #[.val (.int i1), .val (.int i2), .val (.int i3), .val (.ref b1), .val (.ref b9), .val (.int (w0_1 i1)), .val (.int ((w0_2 i1 i3) % (3 : Int32))), .val (.int (1 : Int32)), .val (.int (2 : Int32)), .unset, .unset, .unset] at_185 rfl rfl ?_
    refine m_iconst K X18.here hx hby (1 : Int32) at_187 rfl rfl ?_
    refine m_iload K X18.here hx hby at_188 rfl rfl ?_
    refine m_ishl K X18.here hx hby (4 : Int32) at_190 rfl rfl ?_
    refine m_iconst K X18.here hx hby (1 : Int32) at_191 rfl rfl ?_
    refine m_isub K X18.here hx hby (3 : Int32) at_192 rfl rfl ?_
    refine m_istore K X18.here hx hby #[.val (.int i1), .val (.int i2), .val (.int i3), .val (.ref b1), .val (.ref b9), .val (.int (w0_1 i1)), .val (.int ((w0_2 i1 i3) % (3 : Int32))), .val (.int (1 : Int32)), .val (.int (2 : Int32)), .val (.int (3 : Int32)), .unset, .unset] at_193 rfl rfl ?_
    refine m_iload K X18.here hx hby at_195 rfl rfl ?_
    refine m_iconst K X18.here hx hby (5 : Int32) at_197 rfl rfl ?_
    refine m_iload K X18.here hx hby at_198 rfl rfl ?_
    refine m_imul K X18.here hx hby ((5 : Int32) * (w0_1 i1)) at_200 rfl rfl ?_
    refine m_ishl K X18.here hx hby (w0_8 i1) at_201 rfl rfl ?_
    refine m_iconst K X18.here hx hby (1 : Int32) at_202 rfl rfl ?_
    refine m_iconst K X18.here hx hby (5 : Int32) at_203 rfl rfl ?_
    refine m_iload K X18.here hx hby at_204 rfl rfl ?_
    refine m_imul K X18.here hx hby (w0_5 i1 i3) at_206 rfl rfl ?_
    refine m_ishl K X18.here hx hby (w0_6 i1 i3) at_207 rfl rfl ?_
    refine m_ior K X18.here hx hby ((w0_8 i1) ||| (w0_6 i1 i3)) at_208 rfl rfl ?_
    refine m_istore K X18.here hx hby #[.val (.int i1), .val (.int i2), .val (.int i3), .val (.ref b1), .val (.ref b9), .val (.int (w0_1 i1)), .val (.int ((w0_2 i1 i3) % (3 : Int32))), .val (.int (1 : Int32)), .val (.int (2 : Int32)), .val (.int (3 : Int32)), .val (.int ((w0_8 i1) ||| (w0_6 i1 i3))), .unset] at_209 rfl rfl ?_
    refine m_iload K X18.here hx hby at_211 rfl rfl ?_
    refine m_iconst K X18.here hx hby (5 : Int32) at_213 rfl rfl ?_
    refine m_icmpY K X18.here hx hby (q := 224) at_214 (feq (by decide : ¬ ((2 : Int32) = (5 : Int32)))).2 (by decide) rfl ?_
    refine m_iload K X18.here hx hby at_224 rfl rfl ?_
    refine m_iconst K X18.here hx hby (1 : Int32) at_226 rfl rfl ?_
    refine m_icmpN K X18.here hx hby (q := 230) at_227 (tlt (by decide : (1 : Int32) < (2 : Int32))).2.2.2 rfl ?_
    refine m_iload K X18.here hx hby at_230 rfl rfl ?_
    refine m_istore K X18.here hx hby #[.val (.int i1), .val (.int i2), .val (.int i3), .val (.ref b1), .val (.ref b9), .val (.int (w0_1 i1)), .val (.int ((w0_2 i1 i3) % (3 : Int32))), .val (.int (1 : Int32)), .val (.int (2 : Int32)), .val (.int (3 : Int32)), .val (.int ((w0_8 i1) ||| (w0_6 i1 i3))), .val (.int (w0_1 i1))] at_232 rfl rfl ?_
    refine m_goto K X18.here hx hby (q := 246) at_234 (by decide) rfl ?_
    refine m_aload K X18.here hx hby at_246 rfl rfl rfl ?_
    refine k_callV K X18 hx hby hZ b9 [] [] hown (hw _ (List.mem_of_getElem? (i := 117) rfl)) (hw _ (List.mem_of_getElem? (i := 118) rfl)) (notFace_of_selects (args := #[]) (mvT hZ.wide (hw _ (List.mem_of_getElem? (i := 120) rfl)))) (hw _ (List.mem_of_getElem? (i := 120) rfl)) (hw _ (List.mem_of_getElem? (i := 119) rfl)) (hw _ (List.mem_of_getElem? (i := 93) rfl)) (hw _ (List.mem_of_getElem? (i := 121) rfl)) (vis_s l Z a0 hw b9 (tk (w0_1 i1) 0 (tk ((w0_2 i1 i3) % (3 : Int32)) 0 (tk (w0_1 i1) 0 0))) (tk (w0_1 i1) 1 (tk ((w0_2 i1 i3) % (3 : Int32)) 1 (tk (w0_1 i1) 1 0))) (tk (w0_1 i1) 2 (tk ((w0_2 i1 i3) % (3 : Int32)) 2 (tk (w0_1 i1) 2 0))) T18.heap n0 (Nat.le_trans Z0 (Nat.le_trans (Nat.le_trans (Nat.le_trans (Nat.le_trans (Nat.le_trans (Nat.le_trans (Nat.le_trans (Nat.le_trans (Nat.le_trans (Nat.le_trans (Nat.le_trans (Nat.le_trans (Nat.le_trans (Nat.le_refl _) E1.1) K2.1) K3.1) K4.1) K5.1) K6.1) K7.1) K8.1) E9.1) K10.1) K16.1) K17.1) K18.1)) S18) rfl (Sn.exa S18) rfl rfl pd_7 rfl at_248 (by rw [hml]; rfl) rfl (by decide) (by decide) (Nat.le_of_ble_eq_true rfl) (by decide) (by decide) fun v19 T19 L19 X19 q19 => ?_
    obtain ⟨rfl, e19, rfl⟩ := q19
    replace X19 := own_px X19
    refine k_some K (w := (.int (VSV (tk (w0_1 i1) 0 (tk ((w0_2 i1 i3) % (3 : Int32)) 0 (tk (w0_1 i1) 0 0))) (tk (w0_1 i1) 1 (tk ((w0_2 i1 i3) % (3 : Int32)) 1 (tk (w0_1 i1) 1 0))) (tk (w0_1 i1) 2 (tk ((w0_2 i1 i3) % (3 : Int32)) 2 (tk (w0_1 i1) 2 0)))))) ?_
    refine m_iload K X19.here hx hby at_251 rfl rfl ?_
    refine m_icmpN K X19.here hx hby (q := 256) at_253 (teq (show (VSV (tk (w0_1 i1) 0 (tk ((w0_2 i1 i3) % (3 : Int32)) 0 (tk (w0_1 i1) 0 0))) (tk (w0_1 i1) 1 (tk ((w0_2 i1 i3) % (3 : Int32)) 1 (tk (w0_1 i1) 1 0))) (tk (w0_1 i1) 2 (tk ((w0_2 i1 i3) % (3 : Int32)) 2 (tk (w0_1 i1) 2 0)))) = ((w0_8 i1) ||| (w0_6 i1 i3)) from of_decide_eq_true (own_six (own_cd i1 i3) (P := fun c d => decide ((VSV (tk c 0 (tk d 0 (tk c 0 0))) (tk c 1 (tk d 1 (tk c 1 0))) (tk c 2 (tk d 2 (tk c 2 0)))) = ((((3 : Int32) <<< (((5 : Int32) * c) &&& 31))) ||| (((1 : Int32) <<< ((((5 : Int32) * d)) &&& 31)))))) (by decide +kernel)))).2 rfl ?_
    refine m_aload K X19.here hx hby at_256 rfl rfl rfl ?_
    refine k_callV K X19 hx hby hZ b9 [] [] hown (hw _ (List.mem_of_getElem? (i := 155) rfl)) (hw _ (List.mem_of_getElem? (i := 156) rfl)) (notFace_of_selects (args := #[]) (mvT hZ.wide (hw _ (List.mem_of_getElem? (i := 158) rfl)))) (hw _ (List.mem_of_getElem? (i := 158) rfl)) (hw _ (List.mem_of_getElem? (i := 157) rfl)) (hw _ (List.mem_of_getElem? (i := 93) rfl)) (hw _ (List.mem_of_getElem? (i := 159) rfl)) (home_s l Z a0 hw b9 (tk (w0_1 i1) 0 (tk ((w0_2 i1 i3) % (3 : Int32)) 0 (tk (w0_1 i1) 0 0))) (tk (w0_1 i1) 1 (tk ((w0_2 i1 i3) % (3 : Int32)) 1 (tk (w0_1 i1) 1 0))) (tk (w0_1 i1) 2 (tk ((w0_2 i1 i3) % (3 : Int32)) 2 (tk (w0_1 i1) 2 0))) T18.heap n0 (Nat.le_trans Z0 (Nat.le_trans (Nat.le_trans (Nat.le_trans (Nat.le_trans (Nat.le_trans (Nat.le_trans (Nat.le_trans (Nat.le_trans (Nat.le_trans (Nat.le_trans (Nat.le_trans (Nat.le_trans (Nat.le_trans (Nat.le_refl _) E1.1) K2.1) K3.1) K4.1) K5.1) K6.1) K7.1) K8.1) E9.1) K10.1) K16.1) K17.1) K18.1)) (of_decide_eq_true (own_six (own_cd i1 i3) (P := fun c d => decide (MBV (tk c 0 (tk d 0 (tk c 0 0))) (tk c 1 (tk d 1 (tk c 1 0))) (tk c 2 (tk d 2 (tk c 2 0))) = 0)) (by decide +kernel))) S18) e19 (Sn.exa S18) rfl rfl pd_7 rfl at_258 (by rw [hml]; rfl) rfl (by decide) (by decide) (Nat.le_of_ble_eq_true rfl) (by decide) (by decide) fun v20 T20 L20 X20 q20 => ?_
    obtain ⟨rfl, Nq20, K20⟩ := q20
    have N20 := Fr.app N18 Nq20
    refine k_some K (w := (.int (MCV (tk (w0_1 i1) 0 (tk ((w0_2 i1 i3) % (3 : Int32)) 0 (tk (w0_1 i1) 0 0))) (tk (w0_1 i1) 1 (tk ((w0_2 i1 i3) % (3 : Int32)) 1 (tk (w0_1 i1) 1 0))) (tk (w0_1 i1) 2 (tk ((w0_2 i1 i3) % (3 : Int32)) 2 (tk (w0_1 i1) 2 0)))))) ?_
    refine m_iload K X20.here hx hby at_261 rfl rfl ?_
    refine m_icmpN K X20.here hx hby (q := 266) at_263 (teq (show (MCV (tk (w0_1 i1) 0 (tk ((w0_2 i1 i3) % (3 : Int32)) 0 (tk (w0_1 i1) 0 0))) (tk (w0_1 i1) 1 (tk ((w0_2 i1 i3) % (3 : Int32)) 1 (tk (w0_1 i1) 1 0))) (tk (w0_1 i1) 2 (tk ((w0_2 i1 i3) % (3 : Int32)) 2 (tk (w0_1 i1) 2 0)))) = (w0_1 i1) from of_decide_eq_true (own_six (own_cd i1 i3) (P := fun c d => decide ((MCV (tk c 0 (tk d 0 (tk c 0 0))) (tk c 1 (tk d 1 (tk c 1 0))) (tk c 2 (tk d 2 (tk c 2 0)))) = c)) (by decide +kernel)))).2 rfl ?_
    refine m_iconst K X20.here hx hby (1 : Int32) at_266 rfl rfl ?_
    refine m_goto K X20.here hx hby (q := 271) at_267 (by decide) rfl ?_
    exact Go.retN X20 hx hby hlk hret (by simp) at_271 (by decide) (by decide) (by decide) (⟨rfl, N20⟩)
  · rw [hn]
    refine m_iload K X10.here hx hby at_80 rfl rfl ?_
    refine m_ifN K X10.here hx hby (q := 85) at_82 ((if0 _ _).trans (tlt (by decide : (0 : Int32) < (2 : Int32))).2.2.2) rfl ?_
    refine m_aload K X10.here hx hby at_85 rfl rfl rfl ?_
    refine m_iload K X10.here hx hby at_87 rfl rfl ?_
    refine k_callV K X10 hx hby hZ b9 [(.int (w0_1 i1))] [] hown (hw _ (List.mem_of_getElem? (i := 112) rfl)) (hw _ (List.mem_of_getElem? (i := 113) rfl)) (notFace_of_selects (args := #[]) (mvT hZ.wide (hw _ (List.mem_of_getElem? (i := 115) rfl)))) (hw _ (List.mem_of_getElem? (i := 115) rfl)) (hw _ (List.mem_of_getElem? (i := 114) rfl)) (hw _ (List.mem_of_getElem? (i := 93) rfl)) (hw _ (List.mem_of_getElem? (i := 116) rfl)) (take_s l Z a0 hw b9 (w0_1 i1) 0 0 0 T10.heap n0 (Nat.le_trans Z0 (Nat.le_trans (Nat.le_trans (Nat.le_trans (Nat.le_trans (Nat.le_trans (Nat.le_trans (Nat.le_trans (Nat.le_trans (Nat.le_trans (Nat.le_trans (Nat.le_refl _) E1.1) K2.1) K3.1) K4.1) K5.1) K6.1) K7.1) K8.1) E9.1) K10.1)) (own_c3 i1) (own_six (own_cd i1 i3) (P := fun c d => okc c 0 0 0) (by decide +kernel)) S0) rfl (A9.keep K10) rfl rfl pd_9 rfl at_89 (by rw [hml]; rfl) rfl (by decide) (by decide) (Nat.le_of_ble_eq_true rfl) (by decide) (by decide) fun v21 T21 L21 X21 q21 => ?_
    obtain ⟨rfl, Nq21, sz21, S21⟩ := q21
    have N21 := Fr.app N10 Nq21
    have K21 : T10.heap.size ≤ T21.heap.size ∧ True := ⟨sz21, trivial⟩
    refine k_none K ?_
    refine m_iload K X21.here hx hby at_92 rfl rfl ?_
    refine m_iconst K X21.here hx hby (1 : Int32) at_94 rfl rfl ?_
    refine m_icmpN K X21.here hx hby (q := 98) at_95 (tlt (by decide : (1 : Int32) < (2 : Int32))).2.2.2 rfl ?_
    refine m_aload K X21.here hx hby at_98 rfl rfl rfl ?_
    refine m_iload K X21.here hx hby at_100 rfl rfl ?_
    refine k_callV K X21 hx hby hZ b9 [(.int (w0_1 i1))] [] hown (hw _ (List.mem_of_getElem? (i := 112) rfl)) (hw _ (List.mem_of_getElem? (i := 113) rfl)) (notFace_of_selects (args := #[]) (mvT hZ.wide (hw _ (List.mem_of_getElem? (i := 115) rfl)))) (hw _ (List.mem_of_getElem? (i := 115) rfl)) (hw _ (List.mem_of_getElem? (i := 114) rfl)) (hw _ (List.mem_of_getElem? (i := 93) rfl)) (hw _ (List.mem_of_getElem? (i := 116) rfl)) (take_s l Z a0 hw b9 (w0_1 i1) (tk (w0_1 i1) 0 0) (tk (w0_1 i1) 1 0) (tk (w0_1 i1) 2 0) T21.heap n0 (Nat.le_trans Z0 (Nat.le_trans (Nat.le_trans (Nat.le_trans (Nat.le_trans (Nat.le_trans (Nat.le_trans (Nat.le_trans (Nat.le_trans (Nat.le_trans (Nat.le_trans (Nat.le_trans (Nat.le_refl _) E1.1) K2.1) K3.1) K4.1) K5.1) K6.1) K7.1) K8.1) E9.1) K10.1) K21.1)) (own_c3 i1) (own_six (own_cd i1 i3) (P := fun c d => okc c (tk c 0 0) (tk c 1 0) (tk c 2 0)) (by decide +kernel)) S21) rfl (Sn.exa S21) rfl rfl pd_9 rfl at_102 (by rw [hml]; rfl) rfl (by decide) (by decide) (Nat.le_of_ble_eq_true rfl) (by decide) (by decide) fun v22 T22 L22 X22 q22 => ?_
    obtain ⟨rfl, Nq22, sz22, S22⟩ := q22
    have N22 := Fr.app N21 Nq22
    have K22 : T21.heap.size ≤ T22.heap.size ∧ True := ⟨sz22, trivial⟩
    refine k_none K ?_
    refine m_iload K X22.here hx hby at_105 rfl rfl ?_
    refine m_iconst K X22.here hx hby (2 : Int32) at_107 rfl rfl ?_
    refine m_icmpY K X22.here hx hby (q := 118) at_108 (flt (by decide : ¬ ((2 : Int32) < (2 : Int32)))).2.2.2 (by decide) rfl ?_
    refine m_iload K X22.here hx hby at_118 rfl rfl ?_
    refine m_iconst K X22.here hx hby (3 : Int32) at_120 rfl rfl ?_
    refine m_icmpY K X22.here hx hby (q := 131) at_121 (flt (by decide : ¬ ((3 : Int32) < (2 : Int32)))).2.2.2 (by decide) rfl ?_
    refine m_iload K X22.here hx hby at_131 rfl rfl ?_
    refine m_iconst K X22.here hx hby (4 : Int32) at_133 rfl rfl ?_
    refine m_icmpY K X22.here hx hby (q := 144) at_134 (flt (by decide : ¬ ((4 : Int32) < (2 : Int32)))).2.2.2 (by decide) rfl ?_
    refine m_iload K X22.here hx hby at_144 rfl rfl ?_
    refine m_iconst K X22.here hx hby (5 : Int32) at_146 rfl rfl ?_
    refine m_icmpY K X22.here hx hby (q := 157) at_147 (feq (by decide : ¬ ((2 : Int32) = (5 : Int32)))).2 (by decide) rfl ?_
    refine m_aload K X22.here hx hby at_157 rfl rfl rfl ?_
    refine m_iload K X22.here hx hby at_159 rfl rfl ?_
    refine k_callV K X22 hx hby hZ b9 [(.int ((w0_2 i1 i3) % (3 : Int32)))] [] hown (hw _ (List.mem_of_getElem? (i := 112) rfl)) (hw _ (List.mem_of_getElem? (i := 113) rfl)) (notFace_of_selects (args := #[]) (mvT hZ.wide (hw _ (List.mem_of_getElem? (i := 115) rfl)))) (hw _ (List.mem_of_getElem? (i := 115) rfl)) (hw _ (List.mem_of_getElem? (i := 114) rfl)) (hw _ (List.mem_of_getElem? (i := 93) rfl)) (hw _ (List.mem_of_getElem? (i := 116) rfl)) (take_s l Z a0 hw b9 ((w0_2 i1 i3) % (3 : Int32)) (tk (w0_1 i1) 0 (tk (w0_1 i1) 0 0)) (tk (w0_1 i1) 1 (tk (w0_1 i1) 1 0)) (tk (w0_1 i1) 2 (tk (w0_1 i1) 2 0)) T22.heap n0 (Nat.le_trans Z0 (Nat.le_trans (Nat.le_trans (Nat.le_trans (Nat.le_trans (Nat.le_trans (Nat.le_trans (Nat.le_trans (Nat.le_trans (Nat.le_trans (Nat.le_trans (Nat.le_trans (Nat.le_trans (Nat.le_refl _) E1.1) K2.1) K3.1) K4.1) K5.1) K6.1) K7.1) K8.1) E9.1) K10.1) K21.1) K22.1)) (own_d3 i1 i3) (own_six (own_cd i1 i3) (P := fun c d => okc d (tk c 0 (tk c 0 0)) (tk c 1 (tk c 1 0)) (tk c 2 (tk c 2 0))) (by decide +kernel)) S22) rfl (Sn.exa S22) rfl rfl pd_9 rfl at_161 (by rw [hml]; rfl) rfl (by decide) (by decide) (Nat.le_of_ble_eq_true rfl) (by decide) (by decide) fun v23 T23 L23 X23 q23 => ?_
    obtain ⟨rfl, Nq23, sz23, S23⟩ := q23
    have N23 := Fr.app N22 Nq23
    have K23 : T22.heap.size ≤ T23.heap.size ∧ True := ⟨sz23, trivial⟩
    refine k_none K ?_
    refine m_aload K X23.here hx hby at_164 rfl rfl rfl ?_
    refine m_iload K X23.here hx hby at_166 rfl rfl ?_
    refine k_callV K X23 hx hby hZ b9 [(.int (w0_1 i1))] [] hown (hw _ (List.mem_of_getElem? (i := 112) rfl)) (hw _ (List.mem_of_getElem? (i := 113) rfl)) (notFace_of_selects (args := #[]) (mvT hZ.wide (hw _ (List.mem_of_getElem? (i := 115) rfl)))) (hw _ (List.mem_of_getElem? (i := 115) rfl)) (hw _ (List.mem_of_getElem? (i := 114) rfl)) (hw _ (List.mem_of_getElem? (i := 93) rfl)) (hw _ (List.mem_of_getElem? (i := 116) rfl)) (take_s l Z a0 hw b9 (w0_1 i1) (tk ((w0_2 i1 i3) % (3 : Int32)) 0 (tk (w0_1 i1) 0 (tk (w0_1 i1) 0 0))) (tk ((w0_2 i1 i3) % (3 : Int32)) 1 (tk (w0_1 i1) 1 (tk (w0_1 i1) 1 0))) (tk ((w0_2 i1 i3) % (3 : Int32)) 2 (tk (w0_1 i1) 2 (tk (w0_1 i1) 2 0))) T23.heap n0 (Nat.le_trans Z0 (Nat.le_trans (Nat.le_trans (Nat.le_trans (Nat.le_trans (Nat.le_trans (Nat.le_trans (Nat.le_trans (Nat.le_trans (Nat.le_trans (Nat.le_trans (Nat.le_trans (Nat.le_trans (Nat.le_trans (Nat.le_refl _) E1.1) K2.1) K3.1) K4.1) K5.1) K6.1) K7.1) K8.1) E9.1) K10.1) K21.1) K22.1) K23.1)) (own_c3 i1) (own_six (own_cd i1 i3) (P := fun c d => okc c (tk d 0 (tk c 0 (tk c 0 0))) (tk d 1 (tk c 1 (tk c 1 0))) (tk d 2 (tk c 2 (tk c 2 0)))) (by decide +kernel)) S23) rfl (Sn.exa S23) rfl rfl pd_9 rfl at_168 (by rw [hml]; rfl) rfl (by decide) (by decide) (Nat.le_of_ble_eq_true rfl) (by decide) (by decide) fun v24 T24 L24 X24 q24 => ?_
    obtain ⟨rfl, Nq24, sz24, S24⟩ := q24
    have N24 := Fr.app N23 Nq24
    have K24 : T23.heap.size ≤ T24.heap.size ∧ True := ⟨sz24, trivial⟩
    refine k_none K ?_
    refine m_iload K X24.here hx hby at_171 rfl rfl ?_
    refine m_iconst K X24.here hx hby (5 : Int32) at_173 rfl rfl ?_
    refine m_icmpY K X24.here hx hby (q := 181) at_174 (feq (by decide : ¬ ((2 : Int32) = (5 : Int32)))).2 (by decide) rfl ?_
    refine m_iload K X24.here hx hby at_181 rfl rfl ?_
    refine m_iconst K X24.here hx hby (1 : Int32) at_183 rfl rfl ?_
    refine m_iadd K X24.here hx hby (3 : Int32) at_184 rfl rfl ?_
    refine m_istore K X24.here hx hby #[.val (.int i1), .val (.int i2), .val (.int i3), .val (.ref b1), .val (.ref b9), .val (.int (w0_1 i1)), .val (.int ((w0_2 i1 i3) % (3 : Int32))), .val (.int (2 : Int32)), .val (.int (3 : Int32)), .unset, .unset, .unset] at_185 rfl rfl ?_
    refine m_iconst K X24.here hx hby (1 : Int32) at_187 rfl rfl ?_
    refine m_iload K X24.here hx hby at_188 rfl rfl ?_
    refine m_ishl K X24.here hx hby (8 : Int32) at_190 rfl rfl ?_
    refine m_iconst K X24.here hx hby (1 : Int32) at_191 rfl rfl ?_
    refine m_isub K X24.here hx hby (7 : Int32) at_192 rfl rfl ?_
    refine m_istore K X24.here hx hby #[.val (.int i1), .val (.int i2), .val (.int i3), .val (.ref b1), .val (.ref b9), .val (.int (w0_1 i1)), .val (.int ((w0_2 i1 i3) % (3 : Int32))), .val (.int (2 : Int32)), .val (.int (3 : Int32)), .val (.int (7 : Int32)), .unset, .unset] at_193 rfl rfl ?_
    refine m_iload K X24.here hx hby at_195 rfl rfl ?_
    refine m_iconst K X24.here hx hby (5 : Int32) at_197 rfl rfl ?_
    refine m_iload K X24.here hx hby at_198 rfl rfl ?_
    refine m_imul K X24.here hx hby ((5 : Int32) * (w0_1 i1)) at_200 rfl rfl ?_
    refine m_ishl K X24.here hx hby (w0_9 i1) at_201 rfl rfl ?_
    refine m_iconst K X24.here hx hby (1 : Int32) at_202 rfl rfl ?_
    refine m_iconst K X24.here hx hby (5 : Int32) at_203 rfl rfl ?_
    refine m_iload K X24.here hx hby at_204 rfl rfl ?_
    refine m_imul K X24.here hx hby (w0_5 i1 i3) at_206 rfl rfl ?_
    refine m_ishl K X24.here hx hby (w0_6 i1 i3) at_207 rfl rfl ?_
    refine m_ior K X24.here hx hby ((w0_9 i1) ||| (w0_6 i1 i3)) at_208 rfl rfl ?_
    refine m_istore K X24.here hx hby #[.val (.int i1), .val (.int i2), .val (.int i3), .val (.ref b1), .val (.ref b9), .val (.int (w0_1 i1)), .val (.int ((w0_2 i1 i3) % (3 : Int32))), .val (.int (2 : Int32)), .val (.int (3 : Int32)), .val (.int (7 : Int32)), .val (.int ((w0_9 i1) ||| (w0_6 i1 i3))), .unset] at_209 rfl rfl ?_
    refine m_iload K X24.here hx hby at_211 rfl rfl ?_
    refine m_iconst K X24.here hx hby (5 : Int32) at_213 rfl rfl ?_
    refine m_icmpY K X24.here hx hby (q := 224) at_214 (feq (by decide : ¬ ((3 : Int32) = (5 : Int32)))).2 (by decide) rfl ?_
    refine m_iload K X24.here hx hby at_224 rfl rfl ?_
    refine m_iconst K X24.here hx hby (1 : Int32) at_226 rfl rfl ?_
    refine m_icmpN K X24.here hx hby (q := 230) at_227 (tlt (by decide : (1 : Int32) < (3 : Int32))).2.2.2 rfl ?_
    refine m_iload K X24.here hx hby at_230 rfl rfl ?_
    refine m_istore K X24.here hx hby #[.val (.int i1), .val (.int i2), .val (.int i3), .val (.ref b1), .val (.ref b9), .val (.int (w0_1 i1)), .val (.int ((w0_2 i1 i3) % (3 : Int32))), .val (.int (2 : Int32)), .val (.int (3 : Int32)), .val (.int (7 : Int32)), .val (.int ((w0_9 i1) ||| (w0_6 i1 i3))), .val (.int (w0_1 i1))] at_232 rfl rfl ?_
    refine m_goto K X24.here hx hby (q := 246) at_234 (by decide) rfl ?_
    refine m_aload K X24.here hx hby at_246 rfl rfl rfl ?_
    refine k_callV K X24 hx hby hZ b9 [] [] hown (hw _ (List.mem_of_getElem? (i := 117) rfl)) (hw _ (List.mem_of_getElem? (i := 118) rfl)) (notFace_of_selects (args := #[]) (mvT hZ.wide (hw _ (List.mem_of_getElem? (i := 120) rfl)))) (hw _ (List.mem_of_getElem? (i := 120) rfl)) (hw _ (List.mem_of_getElem? (i := 119) rfl)) (hw _ (List.mem_of_getElem? (i := 93) rfl)) (hw _ (List.mem_of_getElem? (i := 121) rfl)) (vis_s l Z a0 hw b9 (tk (w0_1 i1) 0 (tk ((w0_2 i1 i3) % (3 : Int32)) 0 (tk (w0_1 i1) 0 (tk (w0_1 i1) 0 0)))) (tk (w0_1 i1) 1 (tk ((w0_2 i1 i3) % (3 : Int32)) 1 (tk (w0_1 i1) 1 (tk (w0_1 i1) 1 0)))) (tk (w0_1 i1) 2 (tk ((w0_2 i1 i3) % (3 : Int32)) 2 (tk (w0_1 i1) 2 (tk (w0_1 i1) 2 0)))) T24.heap n0 (Nat.le_trans Z0 (Nat.le_trans (Nat.le_trans (Nat.le_trans (Nat.le_trans (Nat.le_trans (Nat.le_trans (Nat.le_trans (Nat.le_trans (Nat.le_trans (Nat.le_trans (Nat.le_trans (Nat.le_trans (Nat.le_trans (Nat.le_trans (Nat.le_refl _) E1.1) K2.1) K3.1) K4.1) K5.1) K6.1) K7.1) K8.1) E9.1) K10.1) K21.1) K22.1) K23.1) K24.1)) S24) rfl (Sn.exa S24) rfl rfl pd_7 rfl at_248 (by rw [hml]; rfl) rfl (by decide) (by decide) (Nat.le_of_ble_eq_true rfl) (by decide) (by decide) fun v25 T25 L25 X25 q25 => ?_
    obtain ⟨rfl, e25, rfl⟩ := q25
    replace X25 := own_px X25
    refine k_some K (w := (.int (VSV (tk (w0_1 i1) 0 (tk ((w0_2 i1 i3) % (3 : Int32)) 0 (tk (w0_1 i1) 0 (tk (w0_1 i1) 0 0)))) (tk (w0_1 i1) 1 (tk ((w0_2 i1 i3) % (3 : Int32)) 1 (tk (w0_1 i1) 1 (tk (w0_1 i1) 1 0)))) (tk (w0_1 i1) 2 (tk ((w0_2 i1 i3) % (3 : Int32)) 2 (tk (w0_1 i1) 2 (tk (w0_1 i1) 2 0))))))) ?_
    refine m_iload K X25.here hx hby at_251 rfl rfl ?_
    refine m_icmpN K X25.here hx hby (q := 256) at_253 (teq (show (VSV (tk (w0_1 i1) 0 (tk ((w0_2 i1 i3) % (3 : Int32)) 0 (tk (w0_1 i1) 0 (tk (w0_1 i1) 0 0)))) (tk (w0_1 i1) 1 (tk ((w0_2 i1 i3) % (3 : Int32)) 1 (tk (w0_1 i1) 1 (tk (w0_1 i1) 1 0)))) (tk (w0_1 i1) 2 (tk ((w0_2 i1 i3) % (3 : Int32)) 2 (tk (w0_1 i1) 2 (tk (w0_1 i1) 2 0))))) = ((w0_9 i1) ||| (w0_6 i1 i3)) from of_decide_eq_true (own_six (own_cd i1 i3) (P := fun c d => decide ((VSV (tk c 0 (tk d 0 (tk c 0 (tk c 0 0)))) (tk c 1 (tk d 1 (tk c 1 (tk c 1 0)))) (tk c 2 (tk d 2 (tk c 2 (tk c 2 0))))) = ((((7 : Int32) <<< (((5 : Int32) * c) &&& 31))) ||| (((1 : Int32) <<< ((((5 : Int32) * d)) &&& 31)))))) (by decide +kernel)))).2 rfl ?_
    refine m_aload K X25.here hx hby at_256 rfl rfl rfl ?_
    refine k_callV K X25 hx hby hZ b9 [] [] hown (hw _ (List.mem_of_getElem? (i := 155) rfl)) (hw _ (List.mem_of_getElem? (i := 156) rfl)) (notFace_of_selects (args := #[]) (mvT hZ.wide (hw _ (List.mem_of_getElem? (i := 158) rfl)))) (hw _ (List.mem_of_getElem? (i := 158) rfl)) (hw _ (List.mem_of_getElem? (i := 157) rfl)) (hw _ (List.mem_of_getElem? (i := 93) rfl)) (hw _ (List.mem_of_getElem? (i := 159) rfl)) (home_s l Z a0 hw b9 (tk (w0_1 i1) 0 (tk ((w0_2 i1 i3) % (3 : Int32)) 0 (tk (w0_1 i1) 0 (tk (w0_1 i1) 0 0)))) (tk (w0_1 i1) 1 (tk ((w0_2 i1 i3) % (3 : Int32)) 1 (tk (w0_1 i1) 1 (tk (w0_1 i1) 1 0)))) (tk (w0_1 i1) 2 (tk ((w0_2 i1 i3) % (3 : Int32)) 2 (tk (w0_1 i1) 2 (tk (w0_1 i1) 2 0)))) T24.heap n0 (Nat.le_trans Z0 (Nat.le_trans (Nat.le_trans (Nat.le_trans (Nat.le_trans (Nat.le_trans (Nat.le_trans (Nat.le_trans (Nat.le_trans (Nat.le_trans (Nat.le_trans (Nat.le_trans (Nat.le_trans (Nat.le_trans (Nat.le_trans (Nat.le_refl _) E1.1) K2.1) K3.1) K4.1) K5.1) K6.1) K7.1) K8.1) E9.1) K10.1) K21.1) K22.1) K23.1) K24.1)) (of_decide_eq_true (own_six (own_cd i1 i3) (P := fun c d => decide (MBV (tk c 0 (tk d 0 (tk c 0 (tk c 0 0)))) (tk c 1 (tk d 1 (tk c 1 (tk c 1 0)))) (tk c 2 (tk d 2 (tk c 2 (tk c 2 0)))) = 0)) (by decide +kernel))) S24) e25 (Sn.exa S24) rfl rfl pd_7 rfl at_258 (by rw [hml]; rfl) rfl (by decide) (by decide) (Nat.le_of_ble_eq_true rfl) (by decide) (by decide) fun v26 T26 L26 X26 q26 => ?_
    obtain ⟨rfl, Nq26, K26⟩ := q26
    have N26 := Fr.app N24 Nq26
    refine k_some K (w := (.int (MCV (tk (w0_1 i1) 0 (tk ((w0_2 i1 i3) % (3 : Int32)) 0 (tk (w0_1 i1) 0 (tk (w0_1 i1) 0 0)))) (tk (w0_1 i1) 1 (tk ((w0_2 i1 i3) % (3 : Int32)) 1 (tk (w0_1 i1) 1 (tk (w0_1 i1) 1 0)))) (tk (w0_1 i1) 2 (tk ((w0_2 i1 i3) % (3 : Int32)) 2 (tk (w0_1 i1) 2 (tk (w0_1 i1) 2 0))))))) ?_
    refine m_iload K X26.here hx hby at_261 rfl rfl ?_
    refine m_icmpN K X26.here hx hby (q := 266) at_263 (teq (show (MCV (tk (w0_1 i1) 0 (tk ((w0_2 i1 i3) % (3 : Int32)) 0 (tk (w0_1 i1) 0 (tk (w0_1 i1) 0 0)))) (tk (w0_1 i1) 1 (tk ((w0_2 i1 i3) % (3 : Int32)) 1 (tk (w0_1 i1) 1 (tk (w0_1 i1) 1 0)))) (tk (w0_1 i1) 2 (tk ((w0_2 i1 i3) % (3 : Int32)) 2 (tk (w0_1 i1) 2 (tk (w0_1 i1) 2 0))))) = (w0_1 i1) from of_decide_eq_true (own_six (own_cd i1 i3) (P := fun c d => decide ((MCV (tk c 0 (tk d 0 (tk c 0 (tk c 0 0)))) (tk c 1 (tk d 1 (tk c 1 (tk c 1 0)))) (tk c 2 (tk d 2 (tk c 2 (tk c 2 0))))) = c)) (by decide +kernel)))).2 rfl ?_
    refine m_iconst K X26.here hx hby (1 : Int32) at_266 rfl rfl ?_
    refine m_goto K X26.here hx hby (q := 271) at_267 (by decide) rfl ?_
    exact Go.retN X26 hx hby hlk hret (by simp) at_271 (by decide) (by decide) (by decide) (⟨rfl, N26⟩)
  · rw [hn]
    refine m_iload K X10.here hx hby at_80 rfl rfl ?_
    refine m_ifN K X10.here hx hby (q := 85) at_82 ((if0 _ _).trans (tlt (by decide : (0 : Int32) < (3 : Int32))).2.2.2) rfl ?_
    refine m_aload K X10.here hx hby at_85 rfl rfl rfl ?_
    refine m_iload K X10.here hx hby at_87 rfl rfl ?_
    refine k_callV K X10 hx hby hZ b9 [(.int (w0_1 i1))] [] hown (hw _ (List.mem_of_getElem? (i := 112) rfl)) (hw _ (List.mem_of_getElem? (i := 113) rfl)) (notFace_of_selects (args := #[]) (mvT hZ.wide (hw _ (List.mem_of_getElem? (i := 115) rfl)))) (hw _ (List.mem_of_getElem? (i := 115) rfl)) (hw _ (List.mem_of_getElem? (i := 114) rfl)) (hw _ (List.mem_of_getElem? (i := 93) rfl)) (hw _ (List.mem_of_getElem? (i := 116) rfl)) (take_s l Z a0 hw b9 (w0_1 i1) 0 0 0 T10.heap n0 (Nat.le_trans Z0 (Nat.le_trans (Nat.le_trans (Nat.le_trans (Nat.le_trans (Nat.le_trans (Nat.le_trans (Nat.le_trans (Nat.le_trans (Nat.le_trans (Nat.le_trans (Nat.le_refl _) E1.1) K2.1) K3.1) K4.1) K5.1) K6.1) K7.1) K8.1) E9.1) K10.1)) (own_c3 i1) (own_six (own_cd i1 i3) (P := fun c d => okc c 0 0 0) (by decide +kernel)) S0) rfl (A9.keep K10) rfl rfl pd_9 rfl at_89 (by rw [hml]; rfl) rfl (by decide) (by decide) (Nat.le_of_ble_eq_true rfl) (by decide) (by decide) fun v27 T27 L27 X27 q27 => ?_
    obtain ⟨rfl, Nq27, sz27, S27⟩ := q27
    have N27 := Fr.app N10 Nq27
    have K27 : T10.heap.size ≤ T27.heap.size ∧ True := ⟨sz27, trivial⟩
    refine k_none K ?_
    refine m_iload K X27.here hx hby at_92 rfl rfl ?_
    refine m_iconst K X27.here hx hby (1 : Int32) at_94 rfl rfl ?_
    refine m_icmpN K X27.here hx hby (q := 98) at_95 (tlt (by decide : (1 : Int32) < (3 : Int32))).2.2.2 rfl ?_
    refine m_aload K X27.here hx hby at_98 rfl rfl rfl ?_
    refine m_iload K X27.here hx hby at_100 rfl rfl ?_
    refine k_callV K X27 hx hby hZ b9 [(.int (w0_1 i1))] [] hown (hw _ (List.mem_of_getElem? (i := 112) rfl)) (hw _ (List.mem_of_getElem? (i := 113) rfl)) (notFace_of_selects (args := #[]) (mvT hZ.wide (hw _ (List.mem_of_getElem? (i := 115) rfl)))) (hw _ (List.mem_of_getElem? (i := 115) rfl)) (hw _ (List.mem_of_getElem? (i := 114) rfl)) (hw _ (List.mem_of_getElem? (i := 93) rfl)) (hw _ (List.mem_of_getElem? (i := 116) rfl)) (take_s l Z a0 hw b9 (w0_1 i1) (tk (w0_1 i1) 0 0) (tk (w0_1 i1) 1 0) (tk (w0_1 i1) 2 0) T27.heap n0 (Nat.le_trans Z0 (Nat.le_trans (Nat.le_trans (Nat.le_trans (Nat.le_trans (Nat.le_trans (Nat.le_trans (Nat.le_trans (Nat.le_trans (Nat.le_trans (Nat.le_trans (Nat.le_trans (Nat.le_refl _) E1.1) K2.1) K3.1) K4.1) K5.1) K6.1) K7.1) K8.1) E9.1) K10.1) K27.1)) (own_c3 i1) (own_six (own_cd i1 i3) (P := fun c d => okc c (tk c 0 0) (tk c 1 0) (tk c 2 0)) (by decide +kernel)) S27) rfl (Sn.exa S27) rfl rfl pd_9 rfl at_102 (by rw [hml]; rfl) rfl (by decide) (by decide) (Nat.le_of_ble_eq_true rfl) (by decide) (by decide) fun v28 T28 L28 X28 q28 => ?_
    obtain ⟨rfl, Nq28, sz28, S28⟩ := q28
    have N28 := Fr.app N27 Nq28
    have K28 : T27.heap.size ≤ T28.heap.size ∧ True := ⟨sz28, trivial⟩
    refine k_none K ?_
    refine m_iload K X28.here hx hby at_105 rfl rfl ?_
    refine m_iconst K X28.here hx hby (2 : Int32) at_107 rfl rfl ?_
    refine m_icmpN K X28.here hx hby (q := 111) at_108 (tlt (by decide : (2 : Int32) < (3 : Int32))).2.2.2 rfl ?_
    refine m_aload K X28.here hx hby at_111 rfl rfl rfl ?_
    refine m_iload K X28.here hx hby at_113 rfl rfl ?_
    refine k_callV K X28 hx hby hZ b9 [(.int (w0_1 i1))] [] hown (hw _ (List.mem_of_getElem? (i := 112) rfl)) (hw _ (List.mem_of_getElem? (i := 113) rfl)) (notFace_of_selects (args := #[]) (mvT hZ.wide (hw _ (List.mem_of_getElem? (i := 115) rfl)))) (hw _ (List.mem_of_getElem? (i := 115) rfl)) (hw _ (List.mem_of_getElem? (i := 114) rfl)) (hw _ (List.mem_of_getElem? (i := 93) rfl)) (hw _ (List.mem_of_getElem? (i := 116) rfl)) (take_s l Z a0 hw b9 (w0_1 i1) (tk (w0_1 i1) 0 (tk (w0_1 i1) 0 0)) (tk (w0_1 i1) 1 (tk (w0_1 i1) 1 0)) (tk (w0_1 i1) 2 (tk (w0_1 i1) 2 0)) T28.heap n0 (Nat.le_trans Z0 (Nat.le_trans (Nat.le_trans (Nat.le_trans (Nat.le_trans (Nat.le_trans (Nat.le_trans (Nat.le_trans (Nat.le_trans (Nat.le_trans (Nat.le_trans (Nat.le_trans (Nat.le_trans (Nat.le_refl _) E1.1) K2.1) K3.1) K4.1) K5.1) K6.1) K7.1) K8.1) E9.1) K10.1) K27.1) K28.1)) (own_c3 i1) (own_six (own_cd i1 i3) (P := fun c d => okc c (tk c 0 (tk c 0 0)) (tk c 1 (tk c 1 0)) (tk c 2 (tk c 2 0))) (by decide +kernel)) S28) rfl (Sn.exa S28) rfl rfl pd_9 rfl at_115 (by rw [hml]; rfl) rfl (by decide) (by decide) (Nat.le_of_ble_eq_true rfl) (by decide) (by decide) fun v29 T29 L29 X29 q29 => ?_
    obtain ⟨rfl, Nq29, sz29, S29⟩ := q29
    have N29 := Fr.app N28 Nq29
    have K29 : T28.heap.size ≤ T29.heap.size ∧ True := ⟨sz29, trivial⟩
    refine k_none K ?_
    refine m_iload K X29.here hx hby at_118 rfl rfl ?_
    refine m_iconst K X29.here hx hby (3 : Int32) at_120 rfl rfl ?_
    refine m_icmpY K X29.here hx hby (q := 131) at_121 (flt (by decide : ¬ ((3 : Int32) < (3 : Int32)))).2.2.2 (by decide) rfl ?_
    refine m_iload K X29.here hx hby at_131 rfl rfl ?_
    refine m_iconst K X29.here hx hby (4 : Int32) at_133 rfl rfl ?_
    refine m_icmpY K X29.here hx hby (q := 144) at_134 (flt (by decide : ¬ ((4 : Int32) < (3 : Int32)))).2.2.2 (by decide) rfl ?_
    refine m_iload K X29.here hx hby at_144 rfl rfl ?_
    refine m_iconst K X29.here hx hby (5 : Int32) at_146 rfl rfl ?_
    refine m_icmpY K X29.here hx hby (q := 157) at_147 (feq (by decide : ¬ ((3 : Int32) = (5 : Int32)))).2 (by decide) rfl ?_
    refine m_aload K X29.here hx hby at_157 rfl rfl rfl ?_
    refine m_iload K X29.here hx hby at_159 rfl rfl ?_
    refine k_callV K X29 hx hby hZ b9 [(.int ((w0_2 i1 i3) % (3 : Int32)))] [] hown (hw _ (List.mem_of_getElem? (i := 112) rfl)) (hw _ (List.mem_of_getElem? (i := 113) rfl)) (notFace_of_selects (args := #[]) (mvT hZ.wide (hw _ (List.mem_of_getElem? (i := 115) rfl)))) (hw _ (List.mem_of_getElem? (i := 115) rfl)) (hw _ (List.mem_of_getElem? (i := 114) rfl)) (hw _ (List.mem_of_getElem? (i := 93) rfl)) (hw _ (List.mem_of_getElem? (i := 116) rfl)) (take_s l Z a0 hw b9 ((w0_2 i1 i3) % (3 : Int32)) (tk (w0_1 i1) 0 (tk (w0_1 i1) 0 (tk (w0_1 i1) 0 0))) (tk (w0_1 i1) 1 (tk (w0_1 i1) 1 (tk (w0_1 i1) 1 0))) (tk (w0_1 i1) 2 (tk (w0_1 i1) 2 (tk (w0_1 i1) 2 0))) T29.heap n0 (Nat.le_trans Z0 (Nat.le_trans (Nat.le_trans (Nat.le_trans (Nat.le_trans (Nat.le_trans (Nat.le_trans (Nat.le_trans (Nat.le_trans (Nat.le_trans (Nat.le_trans (Nat.le_trans (Nat.le_trans (Nat.le_trans (Nat.le_refl _) E1.1) K2.1) K3.1) K4.1) K5.1) K6.1) K7.1) K8.1) E9.1) K10.1) K27.1) K28.1) K29.1)) (own_d3 i1 i3) (own_six (own_cd i1 i3) (P := fun c d => okc d (tk c 0 (tk c 0 (tk c 0 0))) (tk c 1 (tk c 1 (tk c 1 0))) (tk c 2 (tk c 2 (tk c 2 0)))) (by decide +kernel)) S29) rfl (Sn.exa S29) rfl rfl pd_9 rfl at_161 (by rw [hml]; rfl) rfl (by decide) (by decide) (Nat.le_of_ble_eq_true rfl) (by decide) (by decide) fun v30 T30 L30 X30 q30 => ?_
    obtain ⟨rfl, Nq30, sz30, S30⟩ := q30
    have N30 := Fr.app N29 Nq30
    have K30 : T29.heap.size ≤ T30.heap.size ∧ True := ⟨sz30, trivial⟩
    refine k_none K ?_
    refine m_aload K X30.here hx hby at_164 rfl rfl rfl ?_
    refine m_iload K X30.here hx hby at_166 rfl rfl ?_
    refine k_callV K X30 hx hby hZ b9 [(.int (w0_1 i1))] [] hown (hw _ (List.mem_of_getElem? (i := 112) rfl)) (hw _ (List.mem_of_getElem? (i := 113) rfl)) (notFace_of_selects (args := #[]) (mvT hZ.wide (hw _ (List.mem_of_getElem? (i := 115) rfl)))) (hw _ (List.mem_of_getElem? (i := 115) rfl)) (hw _ (List.mem_of_getElem? (i := 114) rfl)) (hw _ (List.mem_of_getElem? (i := 93) rfl)) (hw _ (List.mem_of_getElem? (i := 116) rfl)) (take_s l Z a0 hw b9 (w0_1 i1) (tk ((w0_2 i1 i3) % (3 : Int32)) 0 (tk (w0_1 i1) 0 (tk (w0_1 i1) 0 (tk (w0_1 i1) 0 0)))) (tk ((w0_2 i1 i3) % (3 : Int32)) 1 (tk (w0_1 i1) 1 (tk (w0_1 i1) 1 (tk (w0_1 i1) 1 0)))) (tk ((w0_2 i1 i3) % (3 : Int32)) 2 (tk (w0_1 i1) 2 (tk (w0_1 i1) 2 (tk (w0_1 i1) 2 0)))) T30.heap n0 (Nat.le_trans Z0 (Nat.le_trans (Nat.le_trans (Nat.le_trans (Nat.le_trans (Nat.le_trans (Nat.le_trans (Nat.le_trans (Nat.le_trans (Nat.le_trans (Nat.le_trans (Nat.le_trans (Nat.le_trans (Nat.le_trans (Nat.le_trans (Nat.le_refl _) E1.1) K2.1) K3.1) K4.1) K5.1) K6.1) K7.1) K8.1) E9.1) K10.1) K27.1) K28.1) K29.1) K30.1)) (own_c3 i1) (own_six (own_cd i1 i3) (P := fun c d => okc c (tk d 0 (tk c 0 (tk c 0 (tk c 0 0)))) (tk d 1 (tk c 1 (tk c 1 (tk c 1 0)))) (tk d 2 (tk c 2 (tk c 2 (tk c 2 0))))) (by decide +kernel)) S30) rfl (Sn.exa S30) rfl rfl pd_9 rfl at_168 (by rw [hml]; rfl) rfl (by decide) (by decide) (Nat.le_of_ble_eq_true rfl) (by decide) (by decide) fun v31 T31 L31 X31 q31 => ?_
    obtain ⟨rfl, Nq31, sz31, S31⟩ := q31
    have N31 := Fr.app N30 Nq31
    have K31 : T30.heap.size ≤ T31.heap.size ∧ True := ⟨sz31, trivial⟩
    refine k_none K ?_
    refine m_iload K X31.here hx hby at_171 rfl rfl ?_
    refine m_iconst K X31.here hx hby (5 : Int32) at_173 rfl rfl ?_
    refine m_icmpY K X31.here hx hby (q := 181) at_174 (feq (by decide : ¬ ((3 : Int32) = (5 : Int32)))).2 (by decide) rfl ?_
    refine m_iload K X31.here hx hby at_181 rfl rfl ?_
    refine m_iconst K X31.here hx hby (1 : Int32) at_183 rfl rfl ?_
    refine m_iadd K X31.here hx hby (4 : Int32) at_184 rfl rfl ?_
    refine m_istore K X31.here hx hby #[.val (.int i1), .val (.int i2), .val (.int i3), .val (.ref b1), .val (.ref b9), .val (.int (w0_1 i1)), .val (.int ((w0_2 i1 i3) % (3 : Int32))), .val (.int (3 : Int32)), .val (.int (4 : Int32)), .unset, .unset, .unset] at_185 rfl rfl ?_
    refine m_iconst K X31.here hx hby (1 : Int32) at_187 rfl rfl ?_
    refine m_iload K X31.here hx hby at_188 rfl rfl ?_
    refine m_ishl K X31.here hx hby (16 : Int32) at_190 rfl rfl ?_
    refine m_iconst K X31.here hx hby (1 : Int32) at_191 rfl rfl ?_
    refine m_isub K X31.here hx hby (15 : Int32) at_192 rfl rfl ?_
    refine m_istore K X31.here hx hby #[.val (.int i1), .val (.int i2), .val (.int i3), .val (.ref b1), .val (.ref b9), .val (.int (w0_1 i1)), .val (.int ((w0_2 i1 i3) % (3 : Int32))), .val (.int (3 : Int32)), .val (.int (4 : Int32)), .val (.int (15 : Int32)), .unset, .unset] at_193 rfl rfl ?_
    refine m_iload K X31.here hx hby at_195 rfl rfl ?_
    refine m_iconst K X31.here hx hby (5 : Int32) at_197 rfl rfl ?_
    refine m_iload K X31.here hx hby at_198 rfl rfl ?_
    refine m_imul K X31.here hx hby ((5 : Int32) * (w0_1 i1)) at_200 rfl rfl ?_
    refine m_ishl K X31.here hx hby (w0_10 i1) at_201 rfl rfl ?_
    refine m_iconst K X31.here hx hby (1 : Int32) at_202 rfl rfl ?_
    refine m_iconst K X31.here hx hby (5 : Int32) at_203 rfl rfl ?_
    refine m_iload K X31.here hx hby at_204 rfl rfl ?_
    refine m_imul K X31.here hx hby (w0_5 i1 i3) at_206 rfl rfl ?_
    refine m_ishl K X31.here hx hby (w0_6 i1 i3) at_207 rfl rfl ?_
    refine m_ior K X31.here hx hby ((w0_10 i1) ||| (w0_6 i1 i3)) at_208 rfl rfl ?_
    refine m_istore K X31.here hx hby #[.val (.int i1), .val (.int i2), .val (.int i3), .val (.ref b1), .val (.ref b9), .val (.int (w0_1 i1)), .val (.int ((w0_2 i1 i3) % (3 : Int32))), .val (.int (3 : Int32)), .val (.int (4 : Int32)), .val (.int (15 : Int32)), .val (.int ((w0_10 i1) ||| (w0_6 i1 i3))), .unset] at_209 rfl rfl ?_
    refine m_iload K X31.here hx hby at_211 rfl rfl ?_
    refine m_iconst K X31.here hx hby (5 : Int32) at_213 rfl rfl ?_
    refine m_icmpY K X31.here hx hby (q := 224) at_214 (feq (by decide : ¬ ((4 : Int32) = (5 : Int32)))).2 (by decide) rfl ?_
    refine m_iload K X31.here hx hby at_224 rfl rfl ?_
    refine m_iconst K X31.here hx hby (1 : Int32) at_226 rfl rfl ?_
    refine m_icmpN K X31.here hx hby (q := 230) at_227 (tlt (by decide : (1 : Int32) < (4 : Int32))).2.2.2 rfl ?_
    refine m_iload K X31.here hx hby at_230 rfl rfl ?_
    refine m_istore K X31.here hx hby #[.val (.int i1), .val (.int i2), .val (.int i3), .val (.ref b1), .val (.ref b9), .val (.int (w0_1 i1)), .val (.int ((w0_2 i1 i3) % (3 : Int32))), .val (.int (3 : Int32)), .val (.int (4 : Int32)), .val (.int (15 : Int32)), .val (.int ((w0_10 i1) ||| (w0_6 i1 i3))), .val (.int (w0_1 i1))] at_232 rfl rfl ?_
    refine m_goto K X31.here hx hby (q := 246) at_234 (by decide) rfl ?_
    refine m_aload K X31.here hx hby at_246 rfl rfl rfl ?_
    refine k_callV K X31 hx hby hZ b9 [] [] hown (hw _ (List.mem_of_getElem? (i := 117) rfl)) (hw _ (List.mem_of_getElem? (i := 118) rfl)) (notFace_of_selects (args := #[]) (mvT hZ.wide (hw _ (List.mem_of_getElem? (i := 120) rfl)))) (hw _ (List.mem_of_getElem? (i := 120) rfl)) (hw _ (List.mem_of_getElem? (i := 119) rfl)) (hw _ (List.mem_of_getElem? (i := 93) rfl)) (hw _ (List.mem_of_getElem? (i := 121) rfl)) (vis_s l Z a0 hw b9 (tk (w0_1 i1) 0 (tk ((w0_2 i1 i3) % (3 : Int32)) 0 (tk (w0_1 i1) 0 (tk (w0_1 i1) 0 (tk (w0_1 i1) 0 0))))) (tk (w0_1 i1) 1 (tk ((w0_2 i1 i3) % (3 : Int32)) 1 (tk (w0_1 i1) 1 (tk (w0_1 i1) 1 (tk (w0_1 i1) 1 0))))) (tk (w0_1 i1) 2 (tk ((w0_2 i1 i3) % (3 : Int32)) 2 (tk (w0_1 i1) 2 (tk (w0_1 i1) 2 (tk (w0_1 i1) 2 0))))) T31.heap n0 (Nat.le_trans Z0 (Nat.le_trans (Nat.le_trans (Nat.le_trans (Nat.le_trans (Nat.le_trans (Nat.le_trans (Nat.le_trans (Nat.le_trans (Nat.le_trans (Nat.le_trans (Nat.le_trans (Nat.le_trans (Nat.le_trans (Nat.le_trans (Nat.le_trans (Nat.le_refl _) E1.1) K2.1) K3.1) K4.1) K5.1) K6.1) K7.1) K8.1) E9.1) K10.1) K27.1) K28.1) K29.1) K30.1) K31.1)) S31) rfl (Sn.exa S31) rfl rfl pd_7 rfl at_248 (by rw [hml]; rfl) rfl (by decide) (by decide) (Nat.le_of_ble_eq_true rfl) (by decide) (by decide) fun v32 T32 L32 X32 q32 => ?_
    obtain ⟨rfl, e32, rfl⟩ := q32
    replace X32 := own_px X32
    refine k_some K (w := (.int (VSV (tk (w0_1 i1) 0 (tk ((w0_2 i1 i3) % (3 : Int32)) 0 (tk (w0_1 i1) 0 (tk (w0_1 i1) 0 (tk (w0_1 i1) 0 0))))) (tk (w0_1 i1) 1 (tk ((w0_2 i1 i3) % (3 : Int32)) 1 (tk (w0_1 i1) 1 (tk (w0_1 i1) 1 (tk (w0_1 i1) 1 0))))) (tk (w0_1 i1) 2 (tk ((w0_2 i1 i3) % (3 : Int32)) 2 (tk (w0_1 i1) 2 (tk (w0_1 i1) 2 (tk (w0_1 i1) 2 0)))))))) ?_
    refine m_iload K X32.here hx hby at_251 rfl rfl ?_
    refine m_icmpN K X32.here hx hby (q := 256) at_253 (teq (show (VSV (tk (w0_1 i1) 0 (tk ((w0_2 i1 i3) % (3 : Int32)) 0 (tk (w0_1 i1) 0 (tk (w0_1 i1) 0 (tk (w0_1 i1) 0 0))))) (tk (w0_1 i1) 1 (tk ((w0_2 i1 i3) % (3 : Int32)) 1 (tk (w0_1 i1) 1 (tk (w0_1 i1) 1 (tk (w0_1 i1) 1 0))))) (tk (w0_1 i1) 2 (tk ((w0_2 i1 i3) % (3 : Int32)) 2 (tk (w0_1 i1) 2 (tk (w0_1 i1) 2 (tk (w0_1 i1) 2 0)))))) = ((w0_10 i1) ||| (w0_6 i1 i3)) from of_decide_eq_true (own_six (own_cd i1 i3) (P := fun c d => decide ((VSV (tk c 0 (tk d 0 (tk c 0 (tk c 0 (tk c 0 0))))) (tk c 1 (tk d 1 (tk c 1 (tk c 1 (tk c 1 0))))) (tk c 2 (tk d 2 (tk c 2 (tk c 2 (tk c 2 0)))))) = ((((15 : Int32) <<< (((5 : Int32) * c) &&& 31))) ||| (((1 : Int32) <<< ((((5 : Int32) * d)) &&& 31)))))) (by decide +kernel)))).2 rfl ?_
    refine m_aload K X32.here hx hby at_256 rfl rfl rfl ?_
    refine k_callV K X32 hx hby hZ b9 [] [] hown (hw _ (List.mem_of_getElem? (i := 155) rfl)) (hw _ (List.mem_of_getElem? (i := 156) rfl)) (notFace_of_selects (args := #[]) (mvT hZ.wide (hw _ (List.mem_of_getElem? (i := 158) rfl)))) (hw _ (List.mem_of_getElem? (i := 158) rfl)) (hw _ (List.mem_of_getElem? (i := 157) rfl)) (hw _ (List.mem_of_getElem? (i := 93) rfl)) (hw _ (List.mem_of_getElem? (i := 159) rfl)) (home_s l Z a0 hw b9 (tk (w0_1 i1) 0 (tk ((w0_2 i1 i3) % (3 : Int32)) 0 (tk (w0_1 i1) 0 (tk (w0_1 i1) 0 (tk (w0_1 i1) 0 0))))) (tk (w0_1 i1) 1 (tk ((w0_2 i1 i3) % (3 : Int32)) 1 (tk (w0_1 i1) 1 (tk (w0_1 i1) 1 (tk (w0_1 i1) 1 0))))) (tk (w0_1 i1) 2 (tk ((w0_2 i1 i3) % (3 : Int32)) 2 (tk (w0_1 i1) 2 (tk (w0_1 i1) 2 (tk (w0_1 i1) 2 0))))) T31.heap n0 (Nat.le_trans Z0 (Nat.le_trans (Nat.le_trans (Nat.le_trans (Nat.le_trans (Nat.le_trans (Nat.le_trans (Nat.le_trans (Nat.le_trans (Nat.le_trans (Nat.le_trans (Nat.le_trans (Nat.le_trans (Nat.le_trans (Nat.le_trans (Nat.le_trans (Nat.le_refl _) E1.1) K2.1) K3.1) K4.1) K5.1) K6.1) K7.1) K8.1) E9.1) K10.1) K27.1) K28.1) K29.1) K30.1) K31.1)) (of_decide_eq_true (own_six (own_cd i1 i3) (P := fun c d => decide (MBV (tk c 0 (tk d 0 (tk c 0 (tk c 0 (tk c 0 0))))) (tk c 1 (tk d 1 (tk c 1 (tk c 1 (tk c 1 0))))) (tk c 2 (tk d 2 (tk c 2 (tk c 2 (tk c 2 0))))) = 0)) (by decide +kernel))) S31) e32 (Sn.exa S31) rfl rfl pd_7 rfl at_258 (by rw [hml]; rfl) rfl (by decide) (by decide) (Nat.le_of_ble_eq_true rfl) (by decide) (by decide) fun v33 T33 L33 X33 q33 => ?_
    obtain ⟨rfl, Nq33, K33⟩ := q33
    have N33 := Fr.app N31 Nq33
    refine k_some K (w := (.int (MCV (tk (w0_1 i1) 0 (tk ((w0_2 i1 i3) % (3 : Int32)) 0 (tk (w0_1 i1) 0 (tk (w0_1 i1) 0 (tk (w0_1 i1) 0 0))))) (tk (w0_1 i1) 1 (tk ((w0_2 i1 i3) % (3 : Int32)) 1 (tk (w0_1 i1) 1 (tk (w0_1 i1) 1 (tk (w0_1 i1) 1 0))))) (tk (w0_1 i1) 2 (tk ((w0_2 i1 i3) % (3 : Int32)) 2 (tk (w0_1 i1) 2 (tk (w0_1 i1) 2 (tk (w0_1 i1) 2 0)))))))) ?_
    refine m_iload K X33.here hx hby at_261 rfl rfl ?_
    refine m_icmpN K X33.here hx hby (q := 266) at_263 (teq (show (MCV (tk (w0_1 i1) 0 (tk ((w0_2 i1 i3) % (3 : Int32)) 0 (tk (w0_1 i1) 0 (tk (w0_1 i1) 0 (tk (w0_1 i1) 0 0))))) (tk (w0_1 i1) 1 (tk ((w0_2 i1 i3) % (3 : Int32)) 1 (tk (w0_1 i1) 1 (tk (w0_1 i1) 1 (tk (w0_1 i1) 1 0))))) (tk (w0_1 i1) 2 (tk ((w0_2 i1 i3) % (3 : Int32)) 2 (tk (w0_1 i1) 2 (tk (w0_1 i1) 2 (tk (w0_1 i1) 2 0)))))) = (w0_1 i1) from of_decide_eq_true (own_six (own_cd i1 i3) (P := fun c d => decide ((MCV (tk c 0 (tk d 0 (tk c 0 (tk c 0 (tk c 0 0))))) (tk c 1 (tk d 1 (tk c 1 (tk c 1 (tk c 1 0))))) (tk c 2 (tk d 2 (tk c 2 (tk c 2 (tk c 2 0)))))) = c)) (by decide +kernel)))).2 rfl ?_
    refine m_iconst K X33.here hx hby (1 : Int32) at_266 rfl rfl ?_
    refine m_goto K X33.here hx hby (q := 271) at_267 (by decide) rfl ?_
    exact Go.retN X33 hx hby hlk hret (by simp) at_271 (by decide) (by decide) (by decide) (⟨rfl, N33⟩)
  · rw [hn]
    refine m_iload K X10.here hx hby at_80 rfl rfl ?_
    refine m_ifN K X10.here hx hby (q := 85) at_82 ((if0 _ _).trans (tlt (by decide : (0 : Int32) < (4 : Int32))).2.2.2) rfl ?_
    refine m_aload K X10.here hx hby at_85 rfl rfl rfl ?_
    refine m_iload K X10.here hx hby at_87 rfl rfl ?_
    refine k_callV K X10 hx hby hZ b9 [(.int (w0_1 i1))] [] hown (hw _ (List.mem_of_getElem? (i := 112) rfl)) (hw _ (List.mem_of_getElem? (i := 113) rfl)) (notFace_of_selects (args := #[]) (mvT hZ.wide (hw _ (List.mem_of_getElem? (i := 115) rfl)))) (hw _ (List.mem_of_getElem? (i := 115) rfl)) (hw _ (List.mem_of_getElem? (i := 114) rfl)) (hw _ (List.mem_of_getElem? (i := 93) rfl)) (hw _ (List.mem_of_getElem? (i := 116) rfl)) (take_s l Z a0 hw b9 (w0_1 i1) 0 0 0 T10.heap n0 (Nat.le_trans Z0 (Nat.le_trans (Nat.le_trans (Nat.le_trans (Nat.le_trans (Nat.le_trans (Nat.le_trans (Nat.le_trans (Nat.le_trans (Nat.le_trans (Nat.le_trans (Nat.le_refl _) E1.1) K2.1) K3.1) K4.1) K5.1) K6.1) K7.1) K8.1) E9.1) K10.1)) (own_c3 i1) (own_six (own_cd i1 i3) (P := fun c d => okc c 0 0 0) (by decide +kernel)) S0) rfl (A9.keep K10) rfl rfl pd_9 rfl at_89 (by rw [hml]; rfl) rfl (by decide) (by decide) (Nat.le_of_ble_eq_true rfl) (by decide) (by decide) fun v34 T34 L34 X34 q34 => ?_
    obtain ⟨rfl, Nq34, sz34, S34⟩ := q34
    have N34 := Fr.app N10 Nq34
    have K34 : T10.heap.size ≤ T34.heap.size ∧ True := ⟨sz34, trivial⟩
    refine k_none K ?_
    refine m_iload K X34.here hx hby at_92 rfl rfl ?_
    refine m_iconst K X34.here hx hby (1 : Int32) at_94 rfl rfl ?_
    refine m_icmpN K X34.here hx hby (q := 98) at_95 (tlt (by decide : (1 : Int32) < (4 : Int32))).2.2.2 rfl ?_
    refine m_aload K X34.here hx hby at_98 rfl rfl rfl ?_
    refine m_iload K X34.here hx hby at_100 rfl rfl ?_
    refine k_callV K X34 hx hby hZ b9 [(.int (w0_1 i1))] [] hown (hw _ (List.mem_of_getElem? (i := 112) rfl)) (hw _ (List.mem_of_getElem? (i := 113) rfl)) (notFace_of_selects (args := #[]) (mvT hZ.wide (hw _ (List.mem_of_getElem? (i := 115) rfl)))) (hw _ (List.mem_of_getElem? (i := 115) rfl)) (hw _ (List.mem_of_getElem? (i := 114) rfl)) (hw _ (List.mem_of_getElem? (i := 93) rfl)) (hw _ (List.mem_of_getElem? (i := 116) rfl)) (take_s l Z a0 hw b9 (w0_1 i1) (tk (w0_1 i1) 0 0) (tk (w0_1 i1) 1 0) (tk (w0_1 i1) 2 0) T34.heap n0 (Nat.le_trans Z0 (Nat.le_trans (Nat.le_trans (Nat.le_trans (Nat.le_trans (Nat.le_trans (Nat.le_trans (Nat.le_trans (Nat.le_trans (Nat.le_trans (Nat.le_trans (Nat.le_trans (Nat.le_refl _) E1.1) K2.1) K3.1) K4.1) K5.1) K6.1) K7.1) K8.1) E9.1) K10.1) K34.1)) (own_c3 i1) (own_six (own_cd i1 i3) (P := fun c d => okc c (tk c 0 0) (tk c 1 0) (tk c 2 0)) (by decide +kernel)) S34) rfl (Sn.exa S34) rfl rfl pd_9 rfl at_102 (by rw [hml]; rfl) rfl (by decide) (by decide) (Nat.le_of_ble_eq_true rfl) (by decide) (by decide) fun v35 T35 L35 X35 q35 => ?_
    obtain ⟨rfl, Nq35, sz35, S35⟩ := q35
    have N35 := Fr.app N34 Nq35
    have K35 : T34.heap.size ≤ T35.heap.size ∧ True := ⟨sz35, trivial⟩
    refine k_none K ?_
    refine m_iload K X35.here hx hby at_105 rfl rfl ?_
    refine m_iconst K X35.here hx hby (2 : Int32) at_107 rfl rfl ?_
    refine m_icmpN K X35.here hx hby (q := 111) at_108 (tlt (by decide : (2 : Int32) < (4 : Int32))).2.2.2 rfl ?_
    refine m_aload K X35.here hx hby at_111 rfl rfl rfl ?_
    refine m_iload K X35.here hx hby at_113 rfl rfl ?_
    refine k_callV K X35 hx hby hZ b9 [(.int (w0_1 i1))] [] hown (hw _ (List.mem_of_getElem? (i := 112) rfl)) (hw _ (List.mem_of_getElem? (i := 113) rfl)) (notFace_of_selects (args := #[]) (mvT hZ.wide (hw _ (List.mem_of_getElem? (i := 115) rfl)))) (hw _ (List.mem_of_getElem? (i := 115) rfl)) (hw _ (List.mem_of_getElem? (i := 114) rfl)) (hw _ (List.mem_of_getElem? (i := 93) rfl)) (hw _ (List.mem_of_getElem? (i := 116) rfl)) (take_s l Z a0 hw b9 (w0_1 i1) (tk (w0_1 i1) 0 (tk (w0_1 i1) 0 0)) (tk (w0_1 i1) 1 (tk (w0_1 i1) 1 0)) (tk (w0_1 i1) 2 (tk (w0_1 i1) 2 0)) T35.heap n0 (Nat.le_trans Z0 (Nat.le_trans (Nat.le_trans (Nat.le_trans (Nat.le_trans (Nat.le_trans (Nat.le_trans (Nat.le_trans (Nat.le_trans (Nat.le_trans (Nat.le_trans (Nat.le_trans (Nat.le_trans (Nat.le_refl _) E1.1) K2.1) K3.1) K4.1) K5.1) K6.1) K7.1) K8.1) E9.1) K10.1) K34.1) K35.1)) (own_c3 i1) (own_six (own_cd i1 i3) (P := fun c d => okc c (tk c 0 (tk c 0 0)) (tk c 1 (tk c 1 0)) (tk c 2 (tk c 2 0))) (by decide +kernel)) S35) rfl (Sn.exa S35) rfl rfl pd_9 rfl at_115 (by rw [hml]; rfl) rfl (by decide) (by decide) (Nat.le_of_ble_eq_true rfl) (by decide) (by decide) fun v36 T36 L36 X36 q36 => ?_
    obtain ⟨rfl, Nq36, sz36, S36⟩ := q36
    have N36 := Fr.app N35 Nq36
    have K36 : T35.heap.size ≤ T36.heap.size ∧ True := ⟨sz36, trivial⟩
    refine k_none K ?_
    refine m_iload K X36.here hx hby at_118 rfl rfl ?_
    refine m_iconst K X36.here hx hby (3 : Int32) at_120 rfl rfl ?_
    refine m_icmpN K X36.here hx hby (q := 124) at_121 (tlt (by decide : (3 : Int32) < (4 : Int32))).2.2.2 rfl ?_
    refine m_aload K X36.here hx hby at_124 rfl rfl rfl ?_
    refine m_iload K X36.here hx hby at_126 rfl rfl ?_
    refine k_callV K X36 hx hby hZ b9 [(.int (w0_1 i1))] [] hown (hw _ (List.mem_of_getElem? (i := 112) rfl)) (hw _ (List.mem_of_getElem? (i := 113) rfl)) (notFace_of_selects (args := #[]) (mvT hZ.wide (hw _ (List.mem_of_getElem? (i := 115) rfl)))) (hw _ (List.mem_of_getElem? (i := 115) rfl)) (hw _ (List.mem_of_getElem? (i := 114) rfl)) (hw _ (List.mem_of_getElem? (i := 93) rfl)) (hw _ (List.mem_of_getElem? (i := 116) rfl)) (take_s l Z a0 hw b9 (w0_1 i1) (tk (w0_1 i1) 0 (tk (w0_1 i1) 0 (tk (w0_1 i1) 0 0))) (tk (w0_1 i1) 1 (tk (w0_1 i1) 1 (tk (w0_1 i1) 1 0))) (tk (w0_1 i1) 2 (tk (w0_1 i1) 2 (tk (w0_1 i1) 2 0))) T36.heap n0 (Nat.le_trans Z0 (Nat.le_trans (Nat.le_trans (Nat.le_trans (Nat.le_trans (Nat.le_trans (Nat.le_trans (Nat.le_trans (Nat.le_trans (Nat.le_trans (Nat.le_trans (Nat.le_trans (Nat.le_trans (Nat.le_trans (Nat.le_refl _) E1.1) K2.1) K3.1) K4.1) K5.1) K6.1) K7.1) K8.1) E9.1) K10.1) K34.1) K35.1) K36.1)) (own_c3 i1) (own_six (own_cd i1 i3) (P := fun c d => okc c (tk c 0 (tk c 0 (tk c 0 0))) (tk c 1 (tk c 1 (tk c 1 0))) (tk c 2 (tk c 2 (tk c 2 0)))) (by decide +kernel)) S36) rfl (Sn.exa S36) rfl rfl pd_9 rfl at_128 (by rw [hml]; rfl) rfl (by decide) (by decide) (Nat.le_of_ble_eq_true rfl) (by decide) (by decide) fun v37 T37 L37 X37 q37 => ?_
    obtain ⟨rfl, Nq37, sz37, S37⟩ := q37
    have N37 := Fr.app N36 Nq37
    have K37 : T36.heap.size ≤ T37.heap.size ∧ True := ⟨sz37, trivial⟩
    refine k_none K ?_
    refine m_iload K X37.here hx hby at_131 rfl rfl ?_
    refine m_iconst K X37.here hx hby (4 : Int32) at_133 rfl rfl ?_
    refine m_icmpY K X37.here hx hby (q := 144) at_134 (flt (by decide : ¬ ((4 : Int32) < (4 : Int32)))).2.2.2 (by decide) rfl ?_
    refine m_iload K X37.here hx hby at_144 rfl rfl ?_
    refine m_iconst K X37.here hx hby (5 : Int32) at_146 rfl rfl ?_
    refine m_icmpY K X37.here hx hby (q := 157) at_147 (feq (by decide : ¬ ((4 : Int32) = (5 : Int32)))).2 (by decide) rfl ?_
    refine m_aload K X37.here hx hby at_157 rfl rfl rfl ?_
    refine m_iload K X37.here hx hby at_159 rfl rfl ?_
    refine k_callV K X37 hx hby hZ b9 [(.int ((w0_2 i1 i3) % (3 : Int32)))] [] hown (hw _ (List.mem_of_getElem? (i := 112) rfl)) (hw _ (List.mem_of_getElem? (i := 113) rfl)) (notFace_of_selects (args := #[]) (mvT hZ.wide (hw _ (List.mem_of_getElem? (i := 115) rfl)))) (hw _ (List.mem_of_getElem? (i := 115) rfl)) (hw _ (List.mem_of_getElem? (i := 114) rfl)) (hw _ (List.mem_of_getElem? (i := 93) rfl)) (hw _ (List.mem_of_getElem? (i := 116) rfl)) (take_s l Z a0 hw b9 ((w0_2 i1 i3) % (3 : Int32)) (tk (w0_1 i1) 0 (tk (w0_1 i1) 0 (tk (w0_1 i1) 0 (tk (w0_1 i1) 0 0)))) (tk (w0_1 i1) 1 (tk (w0_1 i1) 1 (tk (w0_1 i1) 1 (tk (w0_1 i1) 1 0)))) (tk (w0_1 i1) 2 (tk (w0_1 i1) 2 (tk (w0_1 i1) 2 (tk (w0_1 i1) 2 0)))) T37.heap n0 (Nat.le_trans Z0 (Nat.le_trans (Nat.le_trans (Nat.le_trans (Nat.le_trans (Nat.le_trans (Nat.le_trans (Nat.le_trans (Nat.le_trans (Nat.le_trans (Nat.le_trans (Nat.le_trans (Nat.le_trans (Nat.le_trans (Nat.le_trans (Nat.le_refl _) E1.1) K2.1) K3.1) K4.1) K5.1) K6.1) K7.1) K8.1) E9.1) K10.1) K34.1) K35.1) K36.1) K37.1)) (own_d3 i1 i3) (own_six (own_cd i1 i3) (P := fun c d => okc d (tk c 0 (tk c 0 (tk c 0 (tk c 0 0)))) (tk c 1 (tk c 1 (tk c 1 (tk c 1 0)))) (tk c 2 (tk c 2 (tk c 2 (tk c 2 0))))) (by decide +kernel)) S37) rfl (Sn.exa S37) rfl rfl pd_9 rfl at_161 (by rw [hml]; rfl) rfl (by decide) (by decide) (Nat.le_of_ble_eq_true rfl) (by decide) (by decide) fun v38 T38 L38 X38 q38 => ?_
    obtain ⟨rfl, Nq38, sz38, S38⟩ := q38
    have N38 := Fr.app N37 Nq38
    have K38 : T37.heap.size ≤ T38.heap.size ∧ True := ⟨sz38, trivial⟩
    refine k_none K ?_
    refine m_aload K X38.here hx hby at_164 rfl rfl rfl ?_
    refine m_iload K X38.here hx hby at_166 rfl rfl ?_
    refine k_callV K X38 hx hby hZ b9 [(.int (w0_1 i1))] [] hown (hw _ (List.mem_of_getElem? (i := 112) rfl)) (hw _ (List.mem_of_getElem? (i := 113) rfl)) (notFace_of_selects (args := #[]) (mvT hZ.wide (hw _ (List.mem_of_getElem? (i := 115) rfl)))) (hw _ (List.mem_of_getElem? (i := 115) rfl)) (hw _ (List.mem_of_getElem? (i := 114) rfl)) (hw _ (List.mem_of_getElem? (i := 93) rfl)) (hw _ (List.mem_of_getElem? (i := 116) rfl)) (take_s l Z a0 hw b9 (w0_1 i1) (tk ((w0_2 i1 i3) % (3 : Int32)) 0 (tk (w0_1 i1) 0 (tk (w0_1 i1) 0 (tk (w0_1 i1) 0 (tk (w0_1 i1) 0 0))))) (tk ((w0_2 i1 i3) % (3 : Int32)) 1 (tk (w0_1 i1) 1 (tk (w0_1 i1) 1 (tk (w0_1 i1) 1 (tk (w0_1 i1) 1 0))))) (tk ((w0_2 i1 i3) % (3 : Int32)) 2 (tk (w0_1 i1) 2 (tk (w0_1 i1) 2 (tk (w0_1 i1) 2 (tk (w0_1 i1) 2 0))))) T38.heap n0 (Nat.le_trans Z0 (Nat.le_trans (Nat.le_trans (Nat.le_trans (Nat.le_trans (Nat.le_trans (Nat.le_trans (Nat.le_trans (Nat.le_trans (Nat.le_trans (Nat.le_trans (Nat.le_trans (Nat.le_trans (Nat.le_trans (Nat.le_trans (Nat.le_trans (Nat.le_refl _) E1.1) K2.1) K3.1) K4.1) K5.1) K6.1) K7.1) K8.1) E9.1) K10.1) K34.1) K35.1) K36.1) K37.1) K38.1)) (own_c3 i1) (own_six (own_cd i1 i3) (P := fun c d => okc c (tk d 0 (tk c 0 (tk c 0 (tk c 0 (tk c 0 0))))) (tk d 1 (tk c 1 (tk c 1 (tk c 1 (tk c 1 0))))) (tk d 2 (tk c 2 (tk c 2 (tk c 2 (tk c 2 0)))))) (by decide +kernel)) S38) rfl (Sn.exa S38) rfl rfl pd_9 rfl at_168 (by rw [hml]; rfl) rfl (by decide) (by decide) (Nat.le_of_ble_eq_true rfl) (by decide) (by decide) fun v39 T39 L39 X39 q39 => ?_
    obtain ⟨rfl, Nq39, sz39, S39⟩ := q39
    have N39 := Fr.app N38 Nq39
    have K39 : T38.heap.size ≤ T39.heap.size ∧ True := ⟨sz39, trivial⟩
    refine k_none K ?_
    refine m_iload K X39.here hx hby at_171 rfl rfl ?_
    refine m_iconst K X39.here hx hby (5 : Int32) at_173 rfl rfl ?_
    refine m_icmpY K X39.here hx hby (q := 181) at_174 (feq (by decide : ¬ ((4 : Int32) = (5 : Int32)))).2 (by decide) rfl ?_
    refine m_iload K X39.here hx hby at_181 rfl rfl ?_
    refine m_iconst K X39.here hx hby (1 : Int32) at_183 rfl rfl ?_
    refine m_iadd K X39.here hx hby (5 : Int32) at_184 rfl rfl ?_
    refine m_istore K X39.here hx hby #[.val (.int i1), .val (.int i2), .val (.int i3), .val (.ref b1), .val (.ref b9), .val (.int (w0_1 i1)), .val (.int ((w0_2 i1 i3) % (3 : Int32))), .val (.int (4 : Int32)), .val (.int (5 : Int32)), .unset, .unset, .unset] at_185 rfl rfl ?_
    refine m_iconst K X39.here hx hby (1 : Int32) at_187 rfl rfl ?_
    refine m_iload K X39.here hx hby at_188 rfl rfl ?_
    refine m_ishl K X39.here hx hby (32 : Int32) at_190 rfl rfl ?_
    refine m_iconst K X39.here hx hby (1 : Int32) at_191 rfl rfl ?_
    refine m_isub K X39.here hx hby (31 : Int32) at_192 rfl rfl ?_
    refine m_istore K X39.here hx hby #[.val (.int i1), .val (.int i2), .val (.int i3), .val (.ref b1), .val (.ref b9), .val (.int (w0_1 i1)), .val (.int ((w0_2 i1 i3) % (3 : Int32))), .val (.int (4 : Int32)), .val (.int (5 : Int32)), .val (.int (31 : Int32)), .unset, .unset] at_193 rfl rfl ?_
    refine m_iload K X39.here hx hby at_195 rfl rfl ?_
    refine m_iconst K X39.here hx hby (5 : Int32) at_197 rfl rfl ?_
    refine m_iload K X39.here hx hby at_198 rfl rfl ?_
    refine m_imul K X39.here hx hby ((5 : Int32) * (w0_1 i1)) at_200 rfl rfl ?_
    refine m_ishl K X39.here hx hby (w0_11 i1) at_201 rfl rfl ?_
    refine m_iconst K X39.here hx hby (1 : Int32) at_202 rfl rfl ?_
    refine m_iconst K X39.here hx hby (5 : Int32) at_203 rfl rfl ?_
    refine m_iload K X39.here hx hby at_204 rfl rfl ?_
    refine m_imul K X39.here hx hby (w0_5 i1 i3) at_206 rfl rfl ?_
    refine m_ishl K X39.here hx hby (w0_6 i1 i3) at_207 rfl rfl ?_
    refine m_ior K X39.here hx hby ((w0_11 i1) ||| (w0_6 i1 i3)) at_208 rfl rfl ?_
    refine m_istore K X39.here hx hby #[.val (.int i1), .val (.int i2), .val (.int i3), .val (.ref b1), .val (.ref b9), .val (.int (w0_1 i1)), .val (.int ((w0_2 i1 i3) % (3 : Int32))), .val (.int (4 : Int32)), .val (.int (5 : Int32)), .val (.int (31 : Int32)), .val (.int ((w0_11 i1) ||| (w0_6 i1 i3))), .unset] at_209 rfl rfl ?_
    refine m_iload K X39.here hx hby at_211 rfl rfl ?_
    refine m_iconst K X39.here hx hby (5 : Int32) at_213 rfl rfl ?_
    refine m_icmpN K X39.here hx hby (q := 217) at_214 (teq (by decide : (5 : Int32) = (5 : Int32))).2 rfl ?_
    refine m_iload K X39.here hx hby at_217 rfl rfl ?_
    refine m_istore K X39.here hx hby #[.val (.int i1), .val (.int i2), .val (.int i3), .val (.ref b1), .val (.ref b9), .val (.int (w0_1 i1)), .val (.int ((w0_2 i1 i3) % (3 : Int32))), .val (.int (4 : Int32)), .val (.int (5 : Int32)), .val (.int (31 : Int32)), .val (.int ((w0_11 i1) ||| (w0_6 i1 i3))), .val (.int ((w0_2 i1 i3) % (3 : Int32)))] at_219 rfl rfl ?_
    refine m_goto K X39.here hx hby (q := 246) at_221 (by decide) rfl ?_
    refine m_aload K X39.here hx hby at_246 rfl rfl rfl ?_
    refine k_callV K X39 hx hby hZ b9 [] [] hown (hw _ (List.mem_of_getElem? (i := 117) rfl)) (hw _ (List.mem_of_getElem? (i := 118) rfl)) (notFace_of_selects (args := #[]) (mvT hZ.wide (hw _ (List.mem_of_getElem? (i := 120) rfl)))) (hw _ (List.mem_of_getElem? (i := 120) rfl)) (hw _ (List.mem_of_getElem? (i := 119) rfl)) (hw _ (List.mem_of_getElem? (i := 93) rfl)) (hw _ (List.mem_of_getElem? (i := 121) rfl)) (vis_s l Z a0 hw b9 (tk (w0_1 i1) 0 (tk ((w0_2 i1 i3) % (3 : Int32)) 0 (tk (w0_1 i1) 0 (tk (w0_1 i1) 0 (tk (w0_1 i1) 0 (tk (w0_1 i1) 0 0)))))) (tk (w0_1 i1) 1 (tk ((w0_2 i1 i3) % (3 : Int32)) 1 (tk (w0_1 i1) 1 (tk (w0_1 i1) 1 (tk (w0_1 i1) 1 (tk (w0_1 i1) 1 0)))))) (tk (w0_1 i1) 2 (tk ((w0_2 i1 i3) % (3 : Int32)) 2 (tk (w0_1 i1) 2 (tk (w0_1 i1) 2 (tk (w0_1 i1) 2 (tk (w0_1 i1) 2 0)))))) T39.heap n0 (Nat.le_trans Z0 (Nat.le_trans (Nat.le_trans (Nat.le_trans (Nat.le_trans (Nat.le_trans (Nat.le_trans (Nat.le_trans (Nat.le_trans (Nat.le_trans (Nat.le_trans (Nat.le_trans (Nat.le_trans (Nat.le_trans (Nat.le_trans (Nat.le_trans (Nat.le_trans (Nat.le_refl _) E1.1) K2.1) K3.1) K4.1) K5.1) K6.1) K7.1) K8.1) E9.1) K10.1) K34.1) K35.1) K36.1) K37.1) K38.1) K39.1)) S39) rfl (Sn.exa S39) rfl rfl pd_7 rfl at_248 (by rw [hml]; rfl) rfl (by decide) (by decide) (Nat.le_of_ble_eq_true rfl) (by decide) (by decide) fun v40 T40 L40 X40 q40 => ?_
    obtain ⟨rfl, e40, rfl⟩ := q40
    replace X40 := own_px X40
    refine k_some K (w := (.int (VSV (tk (w0_1 i1) 0 (tk ((w0_2 i1 i3) % (3 : Int32)) 0 (tk (w0_1 i1) 0 (tk (w0_1 i1) 0 (tk (w0_1 i1) 0 (tk (w0_1 i1) 0 0)))))) (tk (w0_1 i1) 1 (tk ((w0_2 i1 i3) % (3 : Int32)) 1 (tk (w0_1 i1) 1 (tk (w0_1 i1) 1 (tk (w0_1 i1) 1 (tk (w0_1 i1) 1 0)))))) (tk (w0_1 i1) 2 (tk ((w0_2 i1 i3) % (3 : Int32)) 2 (tk (w0_1 i1) 2 (tk (w0_1 i1) 2 (tk (w0_1 i1) 2 (tk (w0_1 i1) 2 0))))))))) ?_
    refine m_iload K X40.here hx hby at_251 rfl rfl ?_
    refine m_icmpN K X40.here hx hby (q := 256) at_253 (teq (show (VSV (tk (w0_1 i1) 0 (tk ((w0_2 i1 i3) % (3 : Int32)) 0 (tk (w0_1 i1) 0 (tk (w0_1 i1) 0 (tk (w0_1 i1) 0 (tk (w0_1 i1) 0 0)))))) (tk (w0_1 i1) 1 (tk ((w0_2 i1 i3) % (3 : Int32)) 1 (tk (w0_1 i1) 1 (tk (w0_1 i1) 1 (tk (w0_1 i1) 1 (tk (w0_1 i1) 1 0)))))) (tk (w0_1 i1) 2 (tk ((w0_2 i1 i3) % (3 : Int32)) 2 (tk (w0_1 i1) 2 (tk (w0_1 i1) 2 (tk (w0_1 i1) 2 (tk (w0_1 i1) 2 0))))))) = ((w0_11 i1) ||| (w0_6 i1 i3)) from of_decide_eq_true (own_six (own_cd i1 i3) (P := fun c d => decide ((VSV (tk c 0 (tk d 0 (tk c 0 (tk c 0 (tk c 0 (tk c 0 0)))))) (tk c 1 (tk d 1 (tk c 1 (tk c 1 (tk c 1 (tk c 1 0)))))) (tk c 2 (tk d 2 (tk c 2 (tk c 2 (tk c 2 (tk c 2 0))))))) = ((((31 : Int32) <<< (((5 : Int32) * c) &&& 31))) ||| (((1 : Int32) <<< ((((5 : Int32) * d)) &&& 31)))))) (by decide +kernel)))).2 rfl ?_
    refine m_aload K X40.here hx hby at_256 rfl rfl rfl ?_
    refine k_callV K X40 hx hby hZ b9 [] [] hown (hw _ (List.mem_of_getElem? (i := 155) rfl)) (hw _ (List.mem_of_getElem? (i := 156) rfl)) (notFace_of_selects (args := #[]) (mvT hZ.wide (hw _ (List.mem_of_getElem? (i := 158) rfl)))) (hw _ (List.mem_of_getElem? (i := 158) rfl)) (hw _ (List.mem_of_getElem? (i := 157) rfl)) (hw _ (List.mem_of_getElem? (i := 93) rfl)) (hw _ (List.mem_of_getElem? (i := 159) rfl)) (home_s l Z a0 hw b9 (tk (w0_1 i1) 0 (tk ((w0_2 i1 i3) % (3 : Int32)) 0 (tk (w0_1 i1) 0 (tk (w0_1 i1) 0 (tk (w0_1 i1) 0 (tk (w0_1 i1) 0 0)))))) (tk (w0_1 i1) 1 (tk ((w0_2 i1 i3) % (3 : Int32)) 1 (tk (w0_1 i1) 1 (tk (w0_1 i1) 1 (tk (w0_1 i1) 1 (tk (w0_1 i1) 1 0)))))) (tk (w0_1 i1) 2 (tk ((w0_2 i1 i3) % (3 : Int32)) 2 (tk (w0_1 i1) 2 (tk (w0_1 i1) 2 (tk (w0_1 i1) 2 (tk (w0_1 i1) 2 0)))))) T39.heap n0 (Nat.le_trans Z0 (Nat.le_trans (Nat.le_trans (Nat.le_trans (Nat.le_trans (Nat.le_trans (Nat.le_trans (Nat.le_trans (Nat.le_trans (Nat.le_trans (Nat.le_trans (Nat.le_trans (Nat.le_trans (Nat.le_trans (Nat.le_trans (Nat.le_trans (Nat.le_trans (Nat.le_refl _) E1.1) K2.1) K3.1) K4.1) K5.1) K6.1) K7.1) K8.1) E9.1) K10.1) K34.1) K35.1) K36.1) K37.1) K38.1) K39.1)) (of_decide_eq_true (own_six (own_cd i1 i3) (P := fun c d => decide (MBV (tk c 0 (tk d 0 (tk c 0 (tk c 0 (tk c 0 (tk c 0 0)))))) (tk c 1 (tk d 1 (tk c 1 (tk c 1 (tk c 1 (tk c 1 0)))))) (tk c 2 (tk d 2 (tk c 2 (tk c 2 (tk c 2 (tk c 2 0)))))) = 0)) (by decide +kernel))) S39) e40 (Sn.exa S39) rfl rfl pd_7 rfl at_258 (by rw [hml]; rfl) rfl (by decide) (by decide) (Nat.le_of_ble_eq_true rfl) (by decide) (by decide) fun v41 T41 L41 X41 q41 => ?_
    obtain ⟨rfl, Nq41, K41⟩ := q41
    have N41 := Fr.app N39 Nq41
    refine k_some K (w := (.int (MCV (tk (w0_1 i1) 0 (tk ((w0_2 i1 i3) % (3 : Int32)) 0 (tk (w0_1 i1) 0 (tk (w0_1 i1) 0 (tk (w0_1 i1) 0 (tk (w0_1 i1) 0 0)))))) (tk (w0_1 i1) 1 (tk ((w0_2 i1 i3) % (3 : Int32)) 1 (tk (w0_1 i1) 1 (tk (w0_1 i1) 1 (tk (w0_1 i1) 1 (tk (w0_1 i1) 1 0)))))) (tk (w0_1 i1) 2 (tk ((w0_2 i1 i3) % (3 : Int32)) 2 (tk (w0_1 i1) 2 (tk (w0_1 i1) 2 (tk (w0_1 i1) 2 (tk (w0_1 i1) 2 0))))))))) ?_
    refine m_iload K X41.here hx hby at_261 rfl rfl ?_
    refine m_icmpN K X41.here hx hby (q := 266) at_263 (teq (show (MCV (tk (w0_1 i1) 0 (tk ((w0_2 i1 i3) % (3 : Int32)) 0 (tk (w0_1 i1) 0 (tk (w0_1 i1) 0 (tk (w0_1 i1) 0 (tk (w0_1 i1) 0 0)))))) (tk (w0_1 i1) 1 (tk ((w0_2 i1 i3) % (3 : Int32)) 1 (tk (w0_1 i1) 1 (tk (w0_1 i1) 1 (tk (w0_1 i1) 1 (tk (w0_1 i1) 1 0)))))) (tk (w0_1 i1) 2 (tk ((w0_2 i1 i3) % (3 : Int32)) 2 (tk (w0_1 i1) 2 (tk (w0_1 i1) 2 (tk (w0_1 i1) 2 (tk (w0_1 i1) 2 0))))))) = ((w0_2 i1 i3) % (3 : Int32)) from of_decide_eq_true (own_six (own_cd i1 i3) (P := fun c d => decide ((MCV (tk c 0 (tk d 0 (tk c 0 (tk c 0 (tk c 0 (tk c 0 0)))))) (tk c 1 (tk d 1 (tk c 1 (tk c 1 (tk c 1 (tk c 1 0)))))) (tk c 2 (tk d 2 (tk c 2 (tk c 2 (tk c 2 (tk c 2 0))))))) = d)) (by decide +kernel)))).2 rfl ?_
    refine m_iconst K X41.here hx hby (1 : Int32) at_266 rfl rfl ?_
    refine m_goto K X41.here hx hby (q := 271) at_267 (by decide) rfl ?_
    exact Go.retN X41 hx hby hlk hret (by simp) at_271 (by decide) (by decide) (by decide) (⟨rfl, N41⟩)
  · rw [hn]
    refine m_iload K X10.here hx hby at_80 rfl rfl ?_
    refine m_ifN K X10.here hx hby (q := 85) at_82 ((if0 _ _).trans (tlt (by decide : (0 : Int32) < (5 : Int32))).2.2.2) rfl ?_
    refine m_aload K X10.here hx hby at_85 rfl rfl rfl ?_
    refine m_iload K X10.here hx hby at_87 rfl rfl ?_
    refine k_callV K X10 hx hby hZ b9 [(.int (w0_1 i1))] [] hown (hw _ (List.mem_of_getElem? (i := 112) rfl)) (hw _ (List.mem_of_getElem? (i := 113) rfl)) (notFace_of_selects (args := #[]) (mvT hZ.wide (hw _ (List.mem_of_getElem? (i := 115) rfl)))) (hw _ (List.mem_of_getElem? (i := 115) rfl)) (hw _ (List.mem_of_getElem? (i := 114) rfl)) (hw _ (List.mem_of_getElem? (i := 93) rfl)) (hw _ (List.mem_of_getElem? (i := 116) rfl)) (take_s l Z a0 hw b9 (w0_1 i1) 0 0 0 T10.heap n0 (Nat.le_trans Z0 (Nat.le_trans (Nat.le_trans (Nat.le_trans (Nat.le_trans (Nat.le_trans (Nat.le_trans (Nat.le_trans (Nat.le_trans (Nat.le_trans (Nat.le_trans (Nat.le_refl _) E1.1) K2.1) K3.1) K4.1) K5.1) K6.1) K7.1) K8.1) E9.1) K10.1)) (own_c3 i1) (own_six (own_cd i1 i3) (P := fun c d => okc c 0 0 0) (by decide +kernel)) S0) rfl (A9.keep K10) rfl rfl pd_9 rfl at_89 (by rw [hml]; rfl) rfl (by decide) (by decide) (Nat.le_of_ble_eq_true rfl) (by decide) (by decide) fun v42 T42 L42 X42 q42 => ?_
    obtain ⟨rfl, Nq42, sz42, S42⟩ := q42
    have N42 := Fr.app N10 Nq42
    have K42 : T10.heap.size ≤ T42.heap.size ∧ True := ⟨sz42, trivial⟩
    refine k_none K ?_
    refine m_iload K X42.here hx hby at_92 rfl rfl ?_
    refine m_iconst K X42.here hx hby (1 : Int32) at_94 rfl rfl ?_
    refine m_icmpN K X42.here hx hby (q := 98) at_95 (tlt (by decide : (1 : Int32) < (5 : Int32))).2.2.2 rfl ?_
    refine m_aload K X42.here hx hby at_98 rfl rfl rfl ?_
    refine m_iload K X42.here hx hby at_100 rfl rfl ?_
    refine k_callV K X42 hx hby hZ b9 [(.int (w0_1 i1))] [] hown (hw _ (List.mem_of_getElem? (i := 112) rfl)) (hw _ (List.mem_of_getElem? (i := 113) rfl)) (notFace_of_selects (args := #[]) (mvT hZ.wide (hw _ (List.mem_of_getElem? (i := 115) rfl)))) (hw _ (List.mem_of_getElem? (i := 115) rfl)) (hw _ (List.mem_of_getElem? (i := 114) rfl)) (hw _ (List.mem_of_getElem? (i := 93) rfl)) (hw _ (List.mem_of_getElem? (i := 116) rfl)) (take_s l Z a0 hw b9 (w0_1 i1) (tk (w0_1 i1) 0 0) (tk (w0_1 i1) 1 0) (tk (w0_1 i1) 2 0) T42.heap n0 (Nat.le_trans Z0 (Nat.le_trans (Nat.le_trans (Nat.le_trans (Nat.le_trans (Nat.le_trans (Nat.le_trans (Nat.le_trans (Nat.le_trans (Nat.le_trans (Nat.le_trans (Nat.le_trans (Nat.le_refl _) E1.1) K2.1) K3.1) K4.1) K5.1) K6.1) K7.1) K8.1) E9.1) K10.1) K42.1)) (own_c3 i1) (own_six (own_cd i1 i3) (P := fun c d => okc c (tk c 0 0) (tk c 1 0) (tk c 2 0)) (by decide +kernel)) S42) rfl (Sn.exa S42) rfl rfl pd_9 rfl at_102 (by rw [hml]; rfl) rfl (by decide) (by decide) (Nat.le_of_ble_eq_true rfl) (by decide) (by decide) fun v43 T43 L43 X43 q43 => ?_
    obtain ⟨rfl, Nq43, sz43, S43⟩ := q43
    have N43 := Fr.app N42 Nq43
    have K43 : T42.heap.size ≤ T43.heap.size ∧ True := ⟨sz43, trivial⟩
    refine k_none K ?_
    refine m_iload K X43.here hx hby at_105 rfl rfl ?_
    refine m_iconst K X43.here hx hby (2 : Int32) at_107 rfl rfl ?_
    refine m_icmpN K X43.here hx hby (q := 111) at_108 (tlt (by decide : (2 : Int32) < (5 : Int32))).2.2.2 rfl ?_
    refine m_aload K X43.here hx hby at_111 rfl rfl rfl ?_
    refine m_iload K X43.here hx hby at_113 rfl rfl ?_
    refine k_callV K X43 hx hby hZ b9 [(.int (w0_1 i1))] [] hown (hw _ (List.mem_of_getElem? (i := 112) rfl)) (hw _ (List.mem_of_getElem? (i := 113) rfl)) (notFace_of_selects (args := #[]) (mvT hZ.wide (hw _ (List.mem_of_getElem? (i := 115) rfl)))) (hw _ (List.mem_of_getElem? (i := 115) rfl)) (hw _ (List.mem_of_getElem? (i := 114) rfl)) (hw _ (List.mem_of_getElem? (i := 93) rfl)) (hw _ (List.mem_of_getElem? (i := 116) rfl)) (take_s l Z a0 hw b9 (w0_1 i1) (tk (w0_1 i1) 0 (tk (w0_1 i1) 0 0)) (tk (w0_1 i1) 1 (tk (w0_1 i1) 1 0)) (tk (w0_1 i1) 2 (tk (w0_1 i1) 2 0)) T43.heap n0 (Nat.le_trans Z0 (Nat.le_trans (Nat.le_trans (Nat.le_trans (Nat.le_trans (Nat.le_trans (Nat.le_trans (Nat.le_trans (Nat.le_trans (Nat.le_trans (Nat.le_trans (Nat.le_trans (Nat.le_trans (Nat.le_refl _) E1.1) K2.1) K3.1) K4.1) K5.1) K6.1) K7.1) K8.1) E9.1) K10.1) K42.1) K43.1)) (own_c3 i1) (own_six (own_cd i1 i3) (P := fun c d => okc c (tk c 0 (tk c 0 0)) (tk c 1 (tk c 1 0)) (tk c 2 (tk c 2 0))) (by decide +kernel)) S43) rfl (Sn.exa S43) rfl rfl pd_9 rfl at_115 (by rw [hml]; rfl) rfl (by decide) (by decide) (Nat.le_of_ble_eq_true rfl) (by decide) (by decide) fun v44 T44 L44 X44 q44 => ?_
    obtain ⟨rfl, Nq44, sz44, S44⟩ := q44
    have N44 := Fr.app N43 Nq44
    have K44 : T43.heap.size ≤ T44.heap.size ∧ True := ⟨sz44, trivial⟩
    refine k_none K ?_
    refine m_iload K X44.here hx hby at_118 rfl rfl ?_
    refine m_iconst K X44.here hx hby (3 : Int32) at_120 rfl rfl ?_
    refine m_icmpN K X44.here hx hby (q := 124) at_121 (tlt (by decide : (3 : Int32) < (5 : Int32))).2.2.2 rfl ?_
    refine m_aload K X44.here hx hby at_124 rfl rfl rfl ?_
    refine m_iload K X44.here hx hby at_126 rfl rfl ?_
    refine k_callV K X44 hx hby hZ b9 [(.int (w0_1 i1))] [] hown (hw _ (List.mem_of_getElem? (i := 112) rfl)) (hw _ (List.mem_of_getElem? (i := 113) rfl)) (notFace_of_selects (args := #[]) (mvT hZ.wide (hw _ (List.mem_of_getElem? (i := 115) rfl)))) (hw _ (List.mem_of_getElem? (i := 115) rfl)) (hw _ (List.mem_of_getElem? (i := 114) rfl)) (hw _ (List.mem_of_getElem? (i := 93) rfl)) (hw _ (List.mem_of_getElem? (i := 116) rfl)) (take_s l Z a0 hw b9 (w0_1 i1) (tk (w0_1 i1) 0 (tk (w0_1 i1) 0 (tk (w0_1 i1) 0 0))) (tk (w0_1 i1) 1 (tk (w0_1 i1) 1 (tk (w0_1 i1) 1 0))) (tk (w0_1 i1) 2 (tk (w0_1 i1) 2 (tk (w0_1 i1) 2 0))) T44.heap n0 (Nat.le_trans Z0 (Nat.le_trans (Nat.le_trans (Nat.le_trans (Nat.le_trans (Nat.le_trans (Nat.le_trans (Nat.le_trans (Nat.le_trans (Nat.le_trans (Nat.le_trans (Nat.le_trans (Nat.le_trans (Nat.le_trans (Nat.le_refl _) E1.1) K2.1) K3.1) K4.1) K5.1) K6.1) K7.1) K8.1) E9.1) K10.1) K42.1) K43.1) K44.1)) (own_c3 i1) (own_six (own_cd i1 i3) (P := fun c d => okc c (tk c 0 (tk c 0 (tk c 0 0))) (tk c 1 (tk c 1 (tk c 1 0))) (tk c 2 (tk c 2 (tk c 2 0)))) (by decide +kernel)) S44) rfl (Sn.exa S44) rfl rfl pd_9 rfl at_128 (by rw [hml]; rfl) rfl (by decide) (by decide) (Nat.le_of_ble_eq_true rfl) (by decide) (by decide) fun v45 T45 L45 X45 q45 => ?_
    obtain ⟨rfl, Nq45, sz45, S45⟩ := q45
    have N45 := Fr.app N44 Nq45
    have K45 : T44.heap.size ≤ T45.heap.size ∧ True := ⟨sz45, trivial⟩
    refine k_none K ?_
    refine m_iload K X45.here hx hby at_131 rfl rfl ?_
    refine m_iconst K X45.here hx hby (4 : Int32) at_133 rfl rfl ?_
    refine m_icmpN K X45.here hx hby (q := 137) at_134 (tlt (by decide : (4 : Int32) < (5 : Int32))).2.2.2 rfl ?_
    refine m_aload K X45.here hx hby at_137 rfl rfl rfl ?_
    refine m_iload K X45.here hx hby at_139 rfl rfl ?_
    refine k_callV K X45 hx hby hZ b9 [(.int (w0_1 i1))] [] hown (hw _ (List.mem_of_getElem? (i := 112) rfl)) (hw _ (List.mem_of_getElem? (i := 113) rfl)) (notFace_of_selects (args := #[]) (mvT hZ.wide (hw _ (List.mem_of_getElem? (i := 115) rfl)))) (hw _ (List.mem_of_getElem? (i := 115) rfl)) (hw _ (List.mem_of_getElem? (i := 114) rfl)) (hw _ (List.mem_of_getElem? (i := 93) rfl)) (hw _ (List.mem_of_getElem? (i := 116) rfl)) (take_s l Z a0 hw b9 (w0_1 i1) (tk (w0_1 i1) 0 (tk (w0_1 i1) 0 (tk (w0_1 i1) 0 (tk (w0_1 i1) 0 0)))) (tk (w0_1 i1) 1 (tk (w0_1 i1) 1 (tk (w0_1 i1) 1 (tk (w0_1 i1) 1 0)))) (tk (w0_1 i1) 2 (tk (w0_1 i1) 2 (tk (w0_1 i1) 2 (tk (w0_1 i1) 2 0)))) T45.heap n0 (Nat.le_trans Z0 (Nat.le_trans (Nat.le_trans (Nat.le_trans (Nat.le_trans (Nat.le_trans (Nat.le_trans (Nat.le_trans (Nat.le_trans (Nat.le_trans (Nat.le_trans (Nat.le_trans (Nat.le_trans (Nat.le_trans (Nat.le_trans (Nat.le_refl _) E1.1) K2.1) K3.1) K4.1) K5.1) K6.1) K7.1) K8.1) E9.1) K10.1) K42.1) K43.1) K44.1) K45.1)) (own_c3 i1) (own_six (own_cd i1 i3) (P := fun c d => okc c (tk c 0 (tk c 0 (tk c 0 (tk c 0 0)))) (tk c 1 (tk c 1 (tk c 1 (tk c 1 0)))) (tk c 2 (tk c 2 (tk c 2 (tk c 2 0))))) (by decide +kernel)) S45) rfl (Sn.exa S45) rfl rfl pd_9 rfl at_141 (by rw [hml]; rfl) rfl (by decide) (by decide) (Nat.le_of_ble_eq_true rfl) (by decide) (by decide) fun v46 T46 L46 X46 q46 => ?_
    obtain ⟨rfl, Nq46, sz46, S46⟩ := q46
    have N46 := Fr.app N45 Nq46
    have K46 : T45.heap.size ≤ T46.heap.size ∧ True := ⟨sz46, trivial⟩
    refine k_none K ?_
    refine m_iload K X46.here hx hby at_144 rfl rfl ?_
    refine m_iconst K X46.here hx hby (5 : Int32) at_146 rfl rfl ?_
    refine m_icmpN K X46.here hx hby (q := 150) at_147 (teq (by decide : (5 : Int32) = (5 : Int32))).2 rfl ?_
    refine m_aload K X46.here hx hby at_150 rfl rfl rfl ?_
    refine m_iload K X46.here hx hby at_152 rfl rfl ?_
    refine k_callV K X46 hx hby hZ b9 [(.int (w0_1 i1))] [] hown (hw _ (List.mem_of_getElem? (i := 187) rfl)) (hw _ (List.mem_of_getElem? (i := 188) rfl)) (notFace_of_selects (args := #[]) (mvT hZ.wide (hw _ (List.mem_of_getElem? (i := 190) rfl)))) (hw _ (List.mem_of_getElem? (i := 190) rfl)) (hw _ (List.mem_of_getElem? (i := 189) rfl)) (hw _ (List.mem_of_getElem? (i := 93) rfl)) (hw _ (List.mem_of_getElem? (i := 191) rfl)) (send_s l Z a0 hw b9 (w0_1 i1) (tk (w0_1 i1) 0 (tk (w0_1 i1) 0 (tk (w0_1 i1) 0 (tk (w0_1 i1) 0 (tk (w0_1 i1) 0 0))))) (tk (w0_1 i1) 1 (tk (w0_1 i1) 1 (tk (w0_1 i1) 1 (tk (w0_1 i1) 1 (tk (w0_1 i1) 1 0))))) (tk (w0_1 i1) 2 (tk (w0_1 i1) 2 (tk (w0_1 i1) 2 (tk (w0_1 i1) 2 (tk (w0_1 i1) 2 0))))) T46.heap n0 (Nat.le_trans Z0 (Nat.le_trans (Nat.le_trans (Nat.le_trans (Nat.le_trans (Nat.le_trans (Nat.le_trans (Nat.le_trans (Nat.le_trans (Nat.le_trans (Nat.le_trans (Nat.le_trans (Nat.le_trans (Nat.le_trans (Nat.le_trans (Nat.le_trans (Nat.le_refl _) E1.1) K2.1) K3.1) K4.1) K5.1) K6.1) K7.1) K8.1) E9.1) K10.1) K42.1) K43.1) K44.1) K45.1) K46.1)) (own_c3 i1) (own_six (own_cd i1 i3) (P := fun c d => ok5 c (tk c 0 (tk c 0 (tk c 0 (tk c 0 (tk c 0 0))))) (tk c 1 (tk c 1 (tk c 1 (tk c 1 (tk c 1 0))))) (tk c 2 (tk c 2 (tk c 2 (tk c 2 (tk c 2 0)))))) (by decide +kernel)) S46) rfl (Sn.exa S46) rfl rfl pd_9 rfl at_154 (by rw [hml]; rfl) rfl (by decide) (by decide) (Nat.le_of_ble_eq_true rfl) (by decide) (by decide) fun v47 T47 L47 X47 q47 => ?_
    obtain ⟨rfl, Nq47, sz47, S47⟩ := q47
    have N47 := Fr.app N46 Nq47
    have K47 : T46.heap.size ≤ T47.heap.size ∧ True := ⟨sz47, trivial⟩
    refine k_none K ?_
    refine m_aload K X47.here hx hby at_157 rfl rfl rfl ?_
    refine m_iload K X47.here hx hby at_159 rfl rfl ?_
    refine k_callV K X47 hx hby hZ b9 [(.int ((w0_2 i1 i3) % (3 : Int32)))] [] hown (hw _ (List.mem_of_getElem? (i := 112) rfl)) (hw _ (List.mem_of_getElem? (i := 113) rfl)) (notFace_of_selects (args := #[]) (mvT hZ.wide (hw _ (List.mem_of_getElem? (i := 115) rfl)))) (hw _ (List.mem_of_getElem? (i := 115) rfl)) (hw _ (List.mem_of_getElem? (i := 114) rfl)) (hw _ (List.mem_of_getElem? (i := 93) rfl)) (hw _ (List.mem_of_getElem? (i := 116) rfl)) (take_s l Z a0 hw b9 ((w0_2 i1 i3) % (3 : Int32)) (cs (w0_1 i1) 0 (tk (w0_1 i1) 0 (tk (w0_1 i1) 0 (tk (w0_1 i1) 0 (tk (w0_1 i1) 0 (tk (w0_1 i1) 0 0)))))) (cs (w0_1 i1) 1 (tk (w0_1 i1) 1 (tk (w0_1 i1) 1 (tk (w0_1 i1) 1 (tk (w0_1 i1) 1 (tk (w0_1 i1) 1 0)))))) (cs (w0_1 i1) 2 (tk (w0_1 i1) 2 (tk (w0_1 i1) 2 (tk (w0_1 i1) 2 (tk (w0_1 i1) 2 (tk (w0_1 i1) 2 0)))))) T47.heap n0 (Nat.le_trans Z0 (Nat.le_trans (Nat.le_trans (Nat.le_trans (Nat.le_trans (Nat.le_trans (Nat.le_trans (Nat.le_trans (Nat.le_trans (Nat.le_trans (Nat.le_trans (Nat.le_trans (Nat.le_trans (Nat.le_trans (Nat.le_trans (Nat.le_trans (Nat.le_trans (Nat.le_refl _) E1.1) K2.1) K3.1) K4.1) K5.1) K6.1) K7.1) K8.1) E9.1) K10.1) K42.1) K43.1) K44.1) K45.1) K46.1) K47.1)) (own_d3 i1 i3) (own_six (own_cd i1 i3) (P := fun c d => okc d (cs c 0 (tk c 0 (tk c 0 (tk c 0 (tk c 0 (tk c 0 0)))))) (cs c 1 (tk c 1 (tk c 1 (tk c 1 (tk c 1 (tk c 1 0)))))) (cs c 2 (tk c 2 (tk c 2 (tk c 2 (tk c 2 (tk c 2 0))))))) (by decide +kernel)) S47) rfl (Sn.exa S47) rfl rfl pd_9 rfl at_161 (by rw [hml]; rfl) rfl (by decide) (by decide) (Nat.le_of_ble_eq_true rfl) (by decide) (by decide) fun v48 T48 L48 X48 q48 => ?_
    obtain ⟨rfl, Nq48, sz48, S48⟩ := q48
    have N48 := Fr.app N47 Nq48
    have K48 : T47.heap.size ≤ T48.heap.size ∧ True := ⟨sz48, trivial⟩
    refine k_none K ?_
    refine m_aload K X48.here hx hby at_164 rfl rfl rfl ?_
    refine m_iload K X48.here hx hby at_166 rfl rfl ?_
    refine k_callV K X48 hx hby hZ b9 [(.int (w0_1 i1))] [] hown (hw _ (List.mem_of_getElem? (i := 112) rfl)) (hw _ (List.mem_of_getElem? (i := 113) rfl)) (notFace_of_selects (args := #[]) (mvT hZ.wide (hw _ (List.mem_of_getElem? (i := 115) rfl)))) (hw _ (List.mem_of_getElem? (i := 115) rfl)) (hw _ (List.mem_of_getElem? (i := 114) rfl)) (hw _ (List.mem_of_getElem? (i := 93) rfl)) (hw _ (List.mem_of_getElem? (i := 116) rfl)) (take_s l Z a0 hw b9 (w0_1 i1) (tk ((w0_2 i1 i3) % (3 : Int32)) 0 (cs (w0_1 i1) 0 (tk (w0_1 i1) 0 (tk (w0_1 i1) 0 (tk (w0_1 i1) 0 (tk (w0_1 i1) 0 (tk (w0_1 i1) 0 0))))))) (tk ((w0_2 i1 i3) % (3 : Int32)) 1 (cs (w0_1 i1) 1 (tk (w0_1 i1) 1 (tk (w0_1 i1) 1 (tk (w0_1 i1) 1 (tk (w0_1 i1) 1 (tk (w0_1 i1) 1 0))))))) (tk ((w0_2 i1 i3) % (3 : Int32)) 2 (cs (w0_1 i1) 2 (tk (w0_1 i1) 2 (tk (w0_1 i1) 2 (tk (w0_1 i1) 2 (tk (w0_1 i1) 2 (tk (w0_1 i1) 2 0))))))) T48.heap n0 (Nat.le_trans Z0 (Nat.le_trans (Nat.le_trans (Nat.le_trans (Nat.le_trans (Nat.le_trans (Nat.le_trans (Nat.le_trans (Nat.le_trans (Nat.le_trans (Nat.le_trans (Nat.le_trans (Nat.le_trans (Nat.le_trans (Nat.le_trans (Nat.le_trans (Nat.le_trans (Nat.le_trans (Nat.le_refl _) E1.1) K2.1) K3.1) K4.1) K5.1) K6.1) K7.1) K8.1) E9.1) K10.1) K42.1) K43.1) K44.1) K45.1) K46.1) K47.1) K48.1)) (own_c3 i1) (own_six (own_cd i1 i3) (P := fun c d => okc c (tk d 0 (cs c 0 (tk c 0 (tk c 0 (tk c 0 (tk c 0 (tk c 0 0))))))) (tk d 1 (cs c 1 (tk c 1 (tk c 1 (tk c 1 (tk c 1 (tk c 1 0))))))) (tk d 2 (cs c 2 (tk c 2 (tk c 2 (tk c 2 (tk c 2 (tk c 2 0)))))))) (by decide +kernel)) S48) rfl (Sn.exa S48) rfl rfl pd_9 rfl at_168 (by rw [hml]; rfl) rfl (by decide) (by decide) (Nat.le_of_ble_eq_true rfl) (by decide) (by decide) fun v49 T49 L49 X49 q49 => ?_
    obtain ⟨rfl, Nq49, sz49, S49⟩ := q49
    have N49 := Fr.app N48 Nq49
    have K49 : T48.heap.size ≤ T49.heap.size ∧ True := ⟨sz49, trivial⟩
    refine k_none K ?_
    refine m_iload K X49.here hx hby at_171 rfl rfl ?_
    refine m_iconst K X49.here hx hby (5 : Int32) at_173 rfl rfl ?_
    refine m_icmpN K X49.here hx hby (q := 177) at_174 (teq (by decide : (5 : Int32) = (5 : Int32))).2 rfl ?_
    refine m_iconst K X49.here hx hby (5 : Int32) at_177 rfl rfl ?_
    refine m_goto K X49.here hx hby (q := 185) at_178 (by decide) rfl ?_
    refine m_istore K X49.here hx hby #[.val (.int i1), .val (.int i2), .val (.int i3), .val (.ref b1), .val (.ref b9), .val (.int (w0_1 i1)), .val (.int ((w0_2 i1 i3) % (3 : Int32))), .val (.int (5 : Int32)), .val (.int (5 : Int32)), .unset, .unset, .unset] at_185 rfl rfl ?_
    refine m_iconst K X49.here hx hby (1 : Int32) at_187 rfl rfl ?_
    refine m_iload K X49.here hx hby at_188 rfl rfl ?_
    refine m_ishl K X49.here hx hby (32 : Int32) at_190 rfl rfl ?_
    refine m_iconst K X49.here hx hby (1 : Int32) at_191 rfl rfl ?_
    refine m_isub K X49.here hx hby (31 : Int32) at_192 rfl rfl ?_
    refine m_istore K X49.here hx hby #[.val (.int i1), .val (.int i2), .val (.int i3), .val (.ref b1), .val (.ref b9), .val (.int (w0_1 i1)), .val (.int ((w0_2 i1 i3) % (3 : Int32))), .val (.int (5 : Int32)), .val (.int (5 : Int32)), .val (.int (31 : Int32)), .unset, .unset] at_193 rfl rfl ?_
    refine m_iload K X49.here hx hby at_195 rfl rfl ?_
    refine m_iconst K X49.here hx hby (5 : Int32) at_197 rfl rfl ?_
    refine m_iload K X49.here hx hby at_198 rfl rfl ?_
    refine m_imul K X49.here hx hby ((5 : Int32) * (w0_1 i1)) at_200 rfl rfl ?_
    refine m_ishl K X49.here hx hby (w0_11 i1) at_201 rfl rfl ?_
    refine m_iconst K X49.here hx hby (1 : Int32) at_202 rfl rfl ?_
    refine m_iconst K X49.here hx hby (5 : Int32) at_203 rfl rfl ?_
    refine m_iload K X49.here hx hby at_204 rfl rfl ?_
    refine m_imul K X49.here hx hby (w0_5 i1 i3) at_206 rfl rfl ?_
    refine m_ishl K X49.here hx hby (w0_6 i1 i3) at_207 rfl rfl ?_
    refine m_ior K X49.here hx hby ((w0_11 i1) ||| (w0_6 i1 i3)) at_208 rfl rfl ?_
    refine m_istore K X49.here hx hby #[.val (.int i1), .val (.int i2), .val (.int i3), .val (.ref b1), .val (.ref b9), .val (.int (w0_1 i1)), .val (.int ((w0_2 i1 i3) % (3 : Int32))), .val (.int (5 : Int32)), .val (.int (5 : Int32)), .val (.int (31 : Int32)), .val (.int ((w0_11 i1) ||| (w0_6 i1 i3))), .unset] at_209 rfl rfl ?_
    refine m_iload K X49.here hx hby at_211 rfl rfl ?_
    refine m_iconst K X49.here hx hby (5 : Int32) at_213 rfl rfl ?_
    refine m_icmpN K X49.here hx hby (q := 217) at_214 (teq (by decide : (5 : Int32) = (5 : Int32))).2 rfl ?_
    refine m_iload K X49.here hx hby at_217 rfl rfl ?_
    refine m_istore K X49.here hx hby #[.val (.int i1), .val (.int i2), .val (.int i3), .val (.ref b1), .val (.ref b9), .val (.int (w0_1 i1)), .val (.int ((w0_2 i1 i3) % (3 : Int32))), .val (.int (5 : Int32)), .val (.int (5 : Int32)), .val (.int (31 : Int32)), .val (.int ((w0_11 i1) ||| (w0_6 i1 i3))), .val (.int ((w0_2 i1 i3) % (3 : Int32)))] at_219 rfl rfl ?_
    refine m_goto K X49.here hx hby (q := 246) at_221 (by decide) rfl ?_
    refine m_aload K X49.here hx hby at_246 rfl rfl rfl ?_
    refine k_callV K X49 hx hby hZ b9 [] [] hown (hw _ (List.mem_of_getElem? (i := 117) rfl)) (hw _ (List.mem_of_getElem? (i := 118) rfl)) (notFace_of_selects (args := #[]) (mvT hZ.wide (hw _ (List.mem_of_getElem? (i := 120) rfl)))) (hw _ (List.mem_of_getElem? (i := 120) rfl)) (hw _ (List.mem_of_getElem? (i := 119) rfl)) (hw _ (List.mem_of_getElem? (i := 93) rfl)) (hw _ (List.mem_of_getElem? (i := 121) rfl)) (vis_s l Z a0 hw b9 (tk (w0_1 i1) 0 (tk ((w0_2 i1 i3) % (3 : Int32)) 0 (cs (w0_1 i1) 0 (tk (w0_1 i1) 0 (tk (w0_1 i1) 0 (tk (w0_1 i1) 0 (tk (w0_1 i1) 0 (tk (w0_1 i1) 0 0)))))))) (tk (w0_1 i1) 1 (tk ((w0_2 i1 i3) % (3 : Int32)) 1 (cs (w0_1 i1) 1 (tk (w0_1 i1) 1 (tk (w0_1 i1) 1 (tk (w0_1 i1) 1 (tk (w0_1 i1) 1 (tk (w0_1 i1) 1 0)))))))) (tk (w0_1 i1) 2 (tk ((w0_2 i1 i3) % (3 : Int32)) 2 (cs (w0_1 i1) 2 (tk (w0_1 i1) 2 (tk (w0_1 i1) 2 (tk (w0_1 i1) 2 (tk (w0_1 i1) 2 (tk (w0_1 i1) 2 0)))))))) T49.heap n0 (Nat.le_trans Z0 (Nat.le_trans (Nat.le_trans (Nat.le_trans (Nat.le_trans (Nat.le_trans (Nat.le_trans (Nat.le_trans (Nat.le_trans (Nat.le_trans (Nat.le_trans (Nat.le_trans (Nat.le_trans (Nat.le_trans (Nat.le_trans (Nat.le_trans (Nat.le_trans (Nat.le_trans (Nat.le_trans (Nat.le_refl _) E1.1) K2.1) K3.1) K4.1) K5.1) K6.1) K7.1) K8.1) E9.1) K10.1) K42.1) K43.1) K44.1) K45.1) K46.1) K47.1) K48.1) K49.1)) S49) rfl (Sn.exa S49) rfl rfl pd_7 rfl at_248 (by rw [hml]; rfl) rfl (by decide) (by decide) (Nat.le_of_ble_eq_true rfl) (by decide) (by decide) fun v50 T50 L50 X50 q50 => ?_
    obtain ⟨rfl, e50, rfl⟩ := q50
    replace X50 := own_px X50
    refine k_some K (w := (.int (VSV (tk (w0_1 i1) 0 (tk ((w0_2 i1 i3) % (3 : Int32)) 0 (cs (w0_1 i1) 0 (tk (w0_1 i1) 0 (tk (w0_1 i1) 0 (tk (w0_1 i1) 0 (tk (w0_1 i1) 0 (tk (w0_1 i1) 0 0)))))))) (tk (w0_1 i1) 1 (tk ((w0_2 i1 i3) % (3 : Int32)) 1 (cs (w0_1 i1) 1 (tk (w0_1 i1) 1 (tk (w0_1 i1) 1 (tk (w0_1 i1) 1 (tk (w0_1 i1) 1 (tk (w0_1 i1) 1 0)))))))) (tk (w0_1 i1) 2 (tk ((w0_2 i1 i3) % (3 : Int32)) 2 (cs (w0_1 i1) 2 (tk (w0_1 i1) 2 (tk (w0_1 i1) 2 (tk (w0_1 i1) 2 (tk (w0_1 i1) 2 (tk (w0_1 i1) 2 0))))))))))) ?_
    refine m_iload K X50.here hx hby at_251 rfl rfl ?_
    refine m_icmpN K X50.here hx hby (q := 256) at_253 (teq (show (VSV (tk (w0_1 i1) 0 (tk ((w0_2 i1 i3) % (3 : Int32)) 0 (cs (w0_1 i1) 0 (tk (w0_1 i1) 0 (tk (w0_1 i1) 0 (tk (w0_1 i1) 0 (tk (w0_1 i1) 0 (tk (w0_1 i1) 0 0)))))))) (tk (w0_1 i1) 1 (tk ((w0_2 i1 i3) % (3 : Int32)) 1 (cs (w0_1 i1) 1 (tk (w0_1 i1) 1 (tk (w0_1 i1) 1 (tk (w0_1 i1) 1 (tk (w0_1 i1) 1 (tk (w0_1 i1) 1 0)))))))) (tk (w0_1 i1) 2 (tk ((w0_2 i1 i3) % (3 : Int32)) 2 (cs (w0_1 i1) 2 (tk (w0_1 i1) 2 (tk (w0_1 i1) 2 (tk (w0_1 i1) 2 (tk (w0_1 i1) 2 (tk (w0_1 i1) 2 0))))))))) = ((w0_11 i1) ||| (w0_6 i1 i3)) from of_decide_eq_true (own_six (own_cd i1 i3) (P := fun c d => decide ((VSV (tk c 0 (tk d 0 (cs c 0 (tk c 0 (tk c 0 (tk c 0 (tk c 0 (tk c 0 0)))))))) (tk c 1 (tk d 1 (cs c 1 (tk c 1 (tk c 1 (tk c 1 (tk c 1 (tk c 1 0)))))))) (tk c 2 (tk d 2 (cs c 2 (tk c 2 (tk c 2 (tk c 2 (tk c 2 (tk c 2 0))))))))) = ((((31 : Int32) <<< (((5 : Int32) * c) &&& 31))) ||| (((1 : Int32) <<< ((((5 : Int32) * d)) &&& 31)))))) (by decide +kernel)))).2 rfl ?_
    refine m_aload K X50.here hx hby at_256 rfl rfl rfl ?_
    refine k_callV K X50 hx hby hZ b9 [] [] hown (hw _ (List.mem_of_getElem? (i := 155) rfl)) (hw _ (List.mem_of_getElem? (i := 156) rfl)) (notFace_of_selects (args := #[]) (mvT hZ.wide (hw _ (List.mem_of_getElem? (i := 158) rfl)))) (hw _ (List.mem_of_getElem? (i := 158) rfl)) (hw _ (List.mem_of_getElem? (i := 157) rfl)) (hw _ (List.mem_of_getElem? (i := 93) rfl)) (hw _ (List.mem_of_getElem? (i := 159) rfl)) (home_s l Z a0 hw b9 (tk (w0_1 i1) 0 (tk ((w0_2 i1 i3) % (3 : Int32)) 0 (cs (w0_1 i1) 0 (tk (w0_1 i1) 0 (tk (w0_1 i1) 0 (tk (w0_1 i1) 0 (tk (w0_1 i1) 0 (tk (w0_1 i1) 0 0)))))))) (tk (w0_1 i1) 1 (tk ((w0_2 i1 i3) % (3 : Int32)) 1 (cs (w0_1 i1) 1 (tk (w0_1 i1) 1 (tk (w0_1 i1) 1 (tk (w0_1 i1) 1 (tk (w0_1 i1) 1 (tk (w0_1 i1) 1 0)))))))) (tk (w0_1 i1) 2 (tk ((w0_2 i1 i3) % (3 : Int32)) 2 (cs (w0_1 i1) 2 (tk (w0_1 i1) 2 (tk (w0_1 i1) 2 (tk (w0_1 i1) 2 (tk (w0_1 i1) 2 (tk (w0_1 i1) 2 0)))))))) T49.heap n0 (Nat.le_trans Z0 (Nat.le_trans (Nat.le_trans (Nat.le_trans (Nat.le_trans (Nat.le_trans (Nat.le_trans (Nat.le_trans (Nat.le_trans (Nat.le_trans (Nat.le_trans (Nat.le_trans (Nat.le_trans (Nat.le_trans (Nat.le_trans (Nat.le_trans (Nat.le_trans (Nat.le_trans (Nat.le_trans (Nat.le_refl _) E1.1) K2.1) K3.1) K4.1) K5.1) K6.1) K7.1) K8.1) E9.1) K10.1) K42.1) K43.1) K44.1) K45.1) K46.1) K47.1) K48.1) K49.1)) (of_decide_eq_true (own_six (own_cd i1 i3) (P := fun c d => decide (MBV (tk c 0 (tk d 0 (cs c 0 (tk c 0 (tk c 0 (tk c 0 (tk c 0 (tk c 0 0)))))))) (tk c 1 (tk d 1 (cs c 1 (tk c 1 (tk c 1 (tk c 1 (tk c 1 (tk c 1 0)))))))) (tk c 2 (tk d 2 (cs c 2 (tk c 2 (tk c 2 (tk c 2 (tk c 2 (tk c 2 0)))))))) = 0)) (by decide +kernel))) S49) e50 (Sn.exa S49) rfl rfl pd_7 rfl at_258 (by rw [hml]; rfl) rfl (by decide) (by decide) (Nat.le_of_ble_eq_true rfl) (by decide) (by decide) fun v51 T51 L51 X51 q51 => ?_
    obtain ⟨rfl, Nq51, K51⟩ := q51
    have N51 := Fr.app N49 Nq51
    refine k_some K (w := (.int (MCV (tk (w0_1 i1) 0 (tk ((w0_2 i1 i3) % (3 : Int32)) 0 (cs (w0_1 i1) 0 (tk (w0_1 i1) 0 (tk (w0_1 i1) 0 (tk (w0_1 i1) 0 (tk (w0_1 i1) 0 (tk (w0_1 i1) 0 0)))))))) (tk (w0_1 i1) 1 (tk ((w0_2 i1 i3) % (3 : Int32)) 1 (cs (w0_1 i1) 1 (tk (w0_1 i1) 1 (tk (w0_1 i1) 1 (tk (w0_1 i1) 1 (tk (w0_1 i1) 1 (tk (w0_1 i1) 1 0)))))))) (tk (w0_1 i1) 2 (tk ((w0_2 i1 i3) % (3 : Int32)) 2 (cs (w0_1 i1) 2 (tk (w0_1 i1) 2 (tk (w0_1 i1) 2 (tk (w0_1 i1) 2 (tk (w0_1 i1) 2 (tk (w0_1 i1) 2 0))))))))))) ?_
    refine m_iload K X51.here hx hby at_261 rfl rfl ?_
    refine m_icmpN K X51.here hx hby (q := 266) at_263 (teq (show (MCV (tk (w0_1 i1) 0 (tk ((w0_2 i1 i3) % (3 : Int32)) 0 (cs (w0_1 i1) 0 (tk (w0_1 i1) 0 (tk (w0_1 i1) 0 (tk (w0_1 i1) 0 (tk (w0_1 i1) 0 (tk (w0_1 i1) 0 0)))))))) (tk (w0_1 i1) 1 (tk ((w0_2 i1 i3) % (3 : Int32)) 1 (cs (w0_1 i1) 1 (tk (w0_1 i1) 1 (tk (w0_1 i1) 1 (tk (w0_1 i1) 1 (tk (w0_1 i1) 1 (tk (w0_1 i1) 1 0)))))))) (tk (w0_1 i1) 2 (tk ((w0_2 i1 i3) % (3 : Int32)) 2 (cs (w0_1 i1) 2 (tk (w0_1 i1) 2 (tk (w0_1 i1) 2 (tk (w0_1 i1) 2 (tk (w0_1 i1) 2 (tk (w0_1 i1) 2 0))))))))) = ((w0_2 i1 i3) % (3 : Int32)) from of_decide_eq_true (own_six (own_cd i1 i3) (P := fun c d => decide ((MCV (tk c 0 (tk d 0 (cs c 0 (tk c 0 (tk c 0 (tk c 0 (tk c 0 (tk c 0 0)))))))) (tk c 1 (tk d 1 (cs c 1 (tk c 1 (tk c 1 (tk c 1 (tk c 1 (tk c 1 0)))))))) (tk c 2 (tk d 2 (cs c 2 (tk c 2 (tk c 2 (tk c 2 (tk c 2 (tk c 2 0))))))))) = d)) (by decide +kernel)))).2 rfl ?_
    refine m_iconst K X51.here hx hby (1 : Int32) at_266 rfl rfl ?_
    refine m_goto K X51.here hx hby (q := 271) at_267 (by decide) rfl ?_
    exact Go.retN X51 hx hby hlk hret (by simp) at_271 (by decide) (by decide) (by decide) (⟨rfl, N51⟩)
theorem own_eqi {t : Term} {k : Int32} {args : Array Value} {first s : State} {o : Option Outcome} {idx : List Nat} (h : (Jvm.Cond.eq t (Term.int k)).value args first o s idx = some true) : t.eval args first o idx s = some (.int k) := by
  obtain ⟨x, y, h1, h2, k1, k2⟩ := cmp_v (Or.inl h)
  rw [Term.int_eval] at h2
  cases h2
  obtain ⟨z, rfl⟩ := k2
  have e : (Jvm.Cond.eq t (Term.int k)).value args first o s idx = some (decide (z = k)) := by simp [Jvm.Cond.value, h1, Term.int_eval]
  rw [h1, gotT e h]
theorem own_lenv {t : Term} {n : Int32} {x : Addr} {cl : Cell} {args : Array Value} {first s : State} {o : Option Outcome} {idx : List Nat} (h : (Term.length t).eval args first o idx s = some (.int n)) (ht : t.eval args first o idx s = some (.ref x)) (ha : s.arrayAt? x = some cl) : cl.slots.size < 2147483648 ∧ cl.slots.size.toInt32 = n := by
  simp only [Term.eval, ht, Option.bind_eq_bind, Option.bind_some, ha] at h
  by_cases hn : cl.slots.size < 2147483648
  · rw [if_pos hn] at h; cases h; exact ⟨hn, rfl⟩
  · rw [if_neg hn] at h; cases h
theorem own_full {cl : Cell} {vs : List Value} (hs : cl.slots.size = vs.length) (H : HasL cl 0 vs) : cl.slots = vs.toArray := by
  refine Array.ext_getElem? fun i => ?_
  by_cases q : i < vs.length
  · have := HasL.at (dv := .null) vs 0 H i q
    rw [Nat.zero_add] at this
    rw [this]; simp [q]
  · rw [Array.getElem?_eq_none (by omega), List.getElem?_toArray, List.getElem?_eq_none (by omega)]
theorem own_sz0 {n : Nat} (h : n < 2147483648) (e : n.toInt32 = 0) : n = 0 := by
  have := congrArg Int32.toInt e
  rw [Nat.toInt32, Int32.toInt_ofNat_small (by omega)] at this
  exact Int.ofNat.inj this
theorem own_bx {c : Cell} {j : Int32} (h : c.slots.size < 2147483648) (e : c.slots.size.toInt32 = 256) (h0 : ¬ j < 0) (h1 : j.toNatClampNeg < 256) : ¬ (j < 0 ∨ c.slots.size ≤ j.toNatClampNeg) := by
  have := congrArg Int32.toInt e
  rw [Nat.toInt32, Int32.toInt_ofNat_small (by omega)] at this
  have q : (256 : Int32).toInt = 256 := rfl
  rw [q] at this
  rintro (x | x)
  · exact h0 x
  · omega
set_option maxRecDepth 65536 in
set_option maxHeartbeats 40000000 in
theorem comes_1 {Post : Tables → Env → Array Value → State → Outcome → State → Prop} (hpost : ∀ tb e args s v u, (limb_1_1.after args s (.returned v) u = true ∧ limb_1_2.after args s (.returned v) u = true ∧ True) → ReturnedEndW s (.returned v) u (Jvm.fieldLocs frame_1_writes args s ++ Jvm.arrayLocs frame_1_arrays args s ++ Jvm.staticLocs frame_1_statics s) 56 256 → Post tb e args s (.returned v) u) :
    ArmFor flags0 classFile x code maxLocals ret World_1 tables_1 room_1 Calls_1 rest_1 Pre_1 Post := by
  intro l hfl _ _ p e ha hc hk s m args below hf hA hF happ hP
  obtain ⟨hcalls, hrest, hpre⟩ := hP
  obtain ⟨-, -, -, hnamed, -, -, -, hat⟩ := (Spec.applies_iff hf).mp happ
  obtain ⟨hg, hn⟩ := and_e (Cond.before_iff.mp (show (Jvm.Cond.and given_1 narrow_1).before args s = true from hpre))
  obtain ⟨g1, g2⟩ := and_e hg
  obtain ⟨w0, w1, w2, rfl⟩ : ∃ w0 w1 w2 : Value, args = #[w0, w1, w2] := by
    have hs : args.size = 3 := by simpa [Cond.value, given_1] using g1
    obtain ⟨L⟩ := args
    match L, hs with
    | [w0, w1, w2], _ => exact ⟨w0, w1, w2, rfl⟩
  obtain ⟨k0, r0⟩ := and_e g2
  obtain ⟨i0, z0⟩ := is_v k0
  obtain rfl : w0 = (.int i0) := Option.some.inj z0
  obtain ⟨k1, r1⟩ := and_e r0
  obtain ⟨i1, z1⟩ := is_v k1
  obtain rfl : w1 = (.int i1) := Option.some.inj z1
  obtain ⟨i2, z2⟩ := is_v r1
  obtain rfl : w2 = (.int i2) := Option.some.inj z2
  have hw := fun d (hd : d ∈ tables_1) => atoms_spec (ws := Jvm.Cond.code x code maxLocals ret :: tables_1) hat d (List.mem_cons_of_mem _ hd)
  have hfit : Fit s := fun {y c} hc i hi => by
    obtain ⟨ha, rfl⟩ := Array.getElem?_eq_some_iff.mp hc
    have q := List.all_eq_true.mp ((Array.all_eq_true_iff_forall_mem.mp hF) _ (Array.getElem_mem ha)) i (List.mem_range.mpr hi)
    simpa [Array.getElem?_eq_getElem hi] using q
  obtain ⟨hsets, hown0⟩ := atoms_of _ (rest_1_c_eq ▸ (show rest_1_c.before _ s = true from hrest))
  obtain ⟨d1, e_D⟩ := exa_v (Cond.before_iff.mp (hsets _ (List.mem_of_getElem? (i := 7) rfl)))
  have S_D := Sta.start e_D (Or.inr ⟨(hw _ (List.mem_of_getElem? (i := 2) rfl)), (hsets _ (List.mem_of_getElem? (i := 2) rfl))⟩)
  obtain ⟨cD, AD0⟩ := Arr.start e_D (Cond.before_iff.mp (hsets _ (List.mem_of_getElem? (i := 6) rfl)))
  obtain ⟨lD, lD2⟩ := own_lenv (own_eqi (Cond.before_iff.mp (hsets _ (List.mem_of_getElem? (i := 8) rfl)))) e_D (AD0.fin (Vm.Alike.refl _))
  have AD : Av s s.heap d1 (.object "java/lang/Object") [] := ⟨cD, AD0, Array.eq_empty_of_size_eq_zero (own_sz0 lD lD2)⟩
  have S_H := Sta.start (own_eqi (Cond.before_iff.mp (hsets _ (List.mem_of_getElem? (i := 12) rfl)))) (Or.inr ⟨(hw _ (List.mem_of_getElem? (i := 35) rfl)), (hsets _ (List.mem_of_getElem? (i := 9) rfl))⟩)
  obtain ⟨ca, e_C⟩ := exa_v (Cond.before_iff.mp (hsets _ (List.mem_of_getElem? (i := 14) rfl)))
  have S_C := Sta.start e_C (Or.inr ⟨(hw _ (List.mem_of_getElem? (i := 35) rfl)), (hsets _ (List.mem_of_getElem? (i := 11) rfl))⟩)
  obtain ⟨cC, AC0⟩ := Arr.start e_C (Cond.before_iff.mp (hsets _ (List.mem_of_getElem? (i := 13) rfl)))
  obtain ⟨lC, lC2⟩ := own_lenv (own_eqi (Cond.before_iff.mp (hsets _ (List.mem_of_getElem? (i := 15) rfl)))) e_C (AC0.fin (Vm.Alike.refl _))
  obtain ⟨-, -, -, hbx⟩ := Bxs.start (z := 256) (val := fun j => .int (j - 128)) (fun _ => e_C) AC0 lC lC2 (by decide) (Cond.before_iff.mp (hsets _ (List.mem_of_getElem? (i := 16) rfl))) (fun X j nn h => eqv_i (by simp [Term.eval, Binary.apply]; exact (back32 nn).1) h)
  obtain ⟨s0, A7_0, ES0, FZ0⟩ := hbx 129 (own_bx lC lC2 (by decide) (by decide))
  have FS0 : Fld s s.heap s0 "java/lang/Integer" "value" "I" (.int (1 : Int32)) := by rw [show (1 : Int32) = 129 - 128 from by decide]; exact FZ0
  obtain ⟨s1, A7_1, ES1, FZ1⟩ := hbx 130 (own_bx lC lC2 (by decide) (by decide))
  have FS1 : Fld s s.heap s1 "java/lang/Integer" "value" "I" (.int (2 : Int32)) := by rw [show (2 : Int32) = 130 - 128 from by decide]; exact FZ1
  obtain ⟨s2, A7_2, ES2, FZ2⟩ := hbx 132 (own_bx lC lC2 (by decide) (by decide))
  have FS2 : Fld s s.heap s2 "java/lang/Integer" "value" "I" (.int (4 : Int32)) := by rw [show (4 : Int32) = 132 - 128 from by decide]; exact FZ2
  obtain ⟨s3, A7_3, ES3, FZ3⟩ := hbx 136 (own_bx lC lC2 (by decide) (by decide))
  have FS3 : Fld s s.heap s3 "java/lang/Integer" "value" "I" (.int (8 : Int32)) := by rw [show (8 : Int32) = 136 - 128 from by decide]; exact FZ3
  obtain ⟨s4, A7_4, ES4, FZ4⟩ := hbx 144 (own_bx lC lC2 (by decide) (by decide))
  have FS4 : Fld s s.heap s4 "java/lang/Integer" "value" "I" (.int (16 : Int32)) := by rw [show (16 : Int32) = 144 - 128 from by decide]; exact FZ4
  obtain ⟨s5, A7_5, ES5, FZ5⟩ := hbx 160 (own_bx lC lC2 (by decide) (by decide))
  have FS5 : Fld s s.heap s5 "java/lang/Integer" "value" "I" (.int (32 : Int32)) := by rw [show (32 : Int32) = 160 - 128 from by decide]; exact FZ5
  obtain ⟨s6, A7_6, ES6, FZ6⟩ := hbx 192 (own_bx lC lC2 (by decide) (by decide))
  have FS6 : Fld s s.heap s6 "java/lang/Integer" "value" "I" (.int (64 : Int32)) := by rw [show (64 : Int32) = 192 - 128 from by decide]; exact FZ6
  obtain ⟨n, o, h1, h2, h3, _, L, rfl, ⟨rfl, N⟩, hq⟩ := law0 l s _ hw tables_1 i0 i1 i2 d1 ca cC.slots.toList s0 s1 s2 s3 s4 s5 s6 s.heap s.heap.size (Nat.le_refl _) S_D S_H S_C (Old.start s) AD ⟨cC, AC0, rfl⟩ ((Array.getElem?_toList ..).trans A7_0) ES0 FS0 ES0.lt ((Array.getElem?_toList ..).trans A7_1) ES1 FS1 ES1.lt ((Array.getElem?_toList ..).trans A7_2) ES2 FS2 ES2.lt ((Array.getElem?_toList ..).trans A7_3) ES3 FS3 ES3.lt ((Array.getElem?_toList ..).trans A7_4) ES4 FS4 ES4.lt ((Array.getElem?_toList ..).trans A7_5) ES5 FS5 ES5.lt ((Array.getElem?_toList ..).trans A7_6) ES6 FS6 ES6.lt p e ha hc hk s m _ below hf ((Spec.applies_iff_loose hf).mp happ).1 ⟨rfl, State.WarmedH.refl s, rfl⟩ trivial
  refine ⟨n, _, h1, h2, h3, hpost _ _ _ _ _ _ ⟨Cond.after_iff.mpr rfl, Cond.after_iff.mpr (eq_i res_at (Term.int_eval (1)) rfl), trivial⟩ (ReturnedEndW.of_narrow hq.1 hq.2.1 ((hq.2.2.sift fun y hy => Or.inr (N y hy)).mono (by decide) (by decide)))⟩
theorem main_1_1 : Claimed_1_1 := comes_1 fun _ _ _ _ _ _ h hF => ⟨h.1, hF⟩
theorem main_1_2 : Claimed_1_2 := comes_1 fun _ _ _ _ _ _ h hF => ⟨h.2.1, hF⟩
end Jvm.Pilot.@@N@@
namespace Jvm.Pilot.@@N@@
open Jvm Jvm.ClassFile Sem Op Lib Jvm.Free Jvm.Stand Jvm.Pilot.@@N@@.Jvm.D
/-! MADE BY PROGRAM (witnessworld.py) out of the Statement's table words and the real class files: 31 classes; the members and pool entries that the words name. The judged class is class 1, her method 2. -/
namespace start1
open Jvm.ClassFile
def u (s : String) : CpInfo := .utf8 (stringToUtf16 s)
/-- a pool by its gaps: so many unusable entries, then the entry; so many at the end -/
def gap : Nat → List CpInfo → List CpInfo
  | 0, r => r
  | n + 1, r => .unusable :: gap n r
def poolList (es : List (Nat × CpInfo)) (last : Nat) : List CpInfo := es.foldr (fun e r => gap e.1 (e.2 :: r)) (gap last [])
def pool (es : List (Nat × CpInfo)) (last : Nat) : Array CpInfo := ⟨poolList es last⟩
def fileOf (pool : Array CpInfo) (this : Nat) (attrs : Array Attribute := #[]) (ms : Array MethodInfo := #[]) (fl : Nat := 33) (sup : Nat := 0) (ifs : Array Nat := #[]) (fds : Array FieldInfo := #[]) : ClassFile where
  minorVersion := 0
  majorVersion := 65
  constantPool := pool
  accessFlags := fl
  thisClass := this
  superClass := sup
  interfaces := ifs
  fields := fds
  methods := ms
  attributes := attrs
def plain (name : String) (sup : Option ClassId) : Class where
  name := name
  kind := .ordinary
  loader := none
  accessFlags := 33
  super := sup
  interfaces := #[]
  cf := none
  fields := #[]
  methods := #[]
  instanceTypes := #[]
  staticTypes := #[]
  resolved := #[]
  callSites := []
  init := .initialized
  statics := none
  mirror := none

def pool0 : Array CpInfo := pool [(5, u "<init>"), (0, u "()V"), (1, .class_ 10), (1, u "java/lang/Object")] 113

def k0c0 : Code := { maxStack := 0, maxLocals := 1, code := object_method_1_code, exceptionTable := #[], attributes := #[] }
def k0m0 : Method := { name := "<init>", desc := "()V", sig := { parameters := [], returnType := none }, accessFlags := 1, code := some k0c0 }
/-- java/lang/Object -/
def k0 : Class := { plain "java/lang/Object" none with
  accessFlags := 33
  interfaces := #[]
  cf := some (fileOf pool0 8 #[] #[{ accessFlags := 1, nameIndex := 5, descriptorIndex := 6, attributes := #[] }] 33 0 #[] #[])
  fields := #[]
  methods := #[k0m0]
  instanceTypes := #[]
  staticTypes := #[]
  resolved := Array.replicate 124 none
  statics := none }

def pool1 : Array CpInfo := pool [(2, .class_ 4), (0, .nameAndType 5 6), (0, u "java/lang/Object"), (0, u "<init>"), (0, u "()V"), (0, .class_ 8), (0, u "java/util/ArrayList"), (0, .methodref 7 3), (0, .methodref 11 12), (0, .class_ 13), (0, .nameAndType 14 15), (0, u "java/lang/Integer"), (0, u "valueOf"), (0, u "(I)Ljava/lang/Integer;"), (0, .methodref 7 17), (0, .nameAndType 18 19), (0, u "add"), (0, u "(Ljava/lang/Object;)Z"), (0, .methodref 21 22), (0, .class_ 23), (0, .nameAndType 24 25), (0, u "com/example/craterworks/craterworks/SharesStationTakePinLaw"), (0, u "column"), (0, u "(I)Ljava/util/List;"), (0, .interfaceMethodref 27 17), (0, .class_ 28), (0, u "java/util/List"), (0, .class_ 30), (0, u "com/example/craterworks/craterworks/SharesStation"), (0, .methodref 29 32), (0, .nameAndType 5 33), (0, u "(Ljava/util/List;)V"), (0, .integer 2147483647), (0, .methodref 29 36), (0, .nameAndType 37 38), (0, u "take"), (0, u "(I)V"), (0, .methodref 29 40), (0, .nameAndType 41 38), (0, u "sendHome"), (0, .methodref 43 44), (0, .class_ 45), (0, .nameAndType 46 47), (0, u "java/lang/Math"), (0, u "min"), (0, u "(II)I"), (0, .methodref 29 49), (0, .nameAndType 50 51), (0, u "visibleCoins"), (0, u "()I"), (0, .methodref 29 53), (0, .nameAndType 54 51), (0, u "homeColumn"), (4, u "law"), (0, u "(III)Z")] 3

def k1m0 : Method := { name := "<init>", desc := "()V", sig := { parameters := [], returnType := none }, accessFlags := 1, code := none }
def k1c1 : Code := { maxStack := 4, maxLocals := 3, code := method_2_code, exceptionTable := #[], attributes := #[] }
def k1m1 : Method := { name := "column", desc := "(I)Ljava/util/List;", sig := { parameters := [.int], returnType := some (.object "java/util/List") }, accessFlags := 10, code := some k1c1 }
def k1c2 : Code := { maxStack := 4, maxLocals := 12, code := code, exceptionTable := #[], attributes := #[] }
def k1m2 : Method := { name := "law", desc := "(III)Z", sig := { parameters := [.int, .int, .int], returnType := some .boolean }, accessFlags := 9, code := some k1c2 }
/-- com/example/craterworks/craterworks/SharesStationTakePinLaw -/
def k1 : Class := { plain "com/example/craterworks/craterworks/SharesStationTakePinLaw" (some 0) with
  accessFlags := 49
  interfaces := #[]
  cf := some (fileOf pool1 21 #[] #[{ accessFlags := 1, nameIndex := 5, descriptorIndex := 6, attributes := #[] }, { accessFlags := 10, nameIndex := 24, descriptorIndex := 25, attributes := #[] }, { accessFlags := 9, nameIndex := 59, descriptorIndex := 60, attributes := #[] }] 49 2 #[] #[])
  fields := #[]
  methods := #[k1m0, k1m1, k1m2]
  instanceTypes := #[]
  staticTypes := #[]
  resolved := Array.replicate 64 none
  statics := none }

def pool2 : Array CpInfo := pool [(8, .class_ 10), (1, u "java/lang/Iterable"), (24, .class_ 36), (0, u "java/lang/Object")] 25

/-- java/lang/Iterable -/
def k2 : Class := { plain "java/lang/Iterable" (some 0) with
  accessFlags := 1537
  interfaces := #[]
  cf := some (fileOf pool2 8 #[] #[] 1537 35 #[] #[])
  fields := #[]
  methods := #[]
  instanceTypes := #[]
  staticTypes := #[]
  resolved := Array.replicate 62 none
  statics := none }

def pool3 : Array CpInfo := pool [(10, .class_ 12), (1, u "java/util/Collection"), (47, .class_ 61), (0, u "java/lang/Object"), (0, .class_ 63), (0, u "java/lang/Iterable")] 51

/-- java/util/Collection -/
def k3 : Class := { plain "java/util/Collection" (some 0) with
  accessFlags := 1537
  interfaces := #[2]
  cf := some (fileOf pool3 10 #[] #[] 1537 60 #[62] #[])
  fields := #[]
  methods := #[]
  instanceTypes := #[]
  staticTypes := #[]
  resolved := Array.replicate 115 none
  statics := none }

def pool4 : Array CpInfo := pool [(1, .methodref 2 3), (0, .class_ 4), (0, .nameAndType 5 6), (0, u "java/lang/Object"), (0, u "<init>"), (0, u "()V"), (1, .class_ 10), (1, u "java/util/AbstractCollection"), (66, .class_ 78), (0, u "java/util/Collection")] 81

def k4c0 : Code := { maxStack := 1, maxLocals := 1, code := jdk_22_method_1_code, exceptionTable := #[], attributes := #[] }
def k4m0 : Method := { name := "<init>", desc := "()V", sig := { parameters := [], returnType := none }, accessFlags := 4, code := some k4c0 }
/-- java/util/AbstractCollection -/
def k4 : Class := { plain "java/util/AbstractCollection" (some 0) with
  accessFlags := 1057
  interfaces := #[3]
  cf := some (fileOf pool4 8 #[] #[{ accessFlags := 4, nameIndex := 5, descriptorIndex := 6, attributes := #[] }] 1057 2 #[77] #[])
  fields := #[]
  methods := #[k4m0]
  instanceTypes := #[]
  staticTypes := #[]
  resolved := Array.replicate 160 none
  statics := none }

def pool5 : Array CpInfo := pool [(8, .class_ 10), (1, u "java/util/SequencedCollection"), (15, .class_ 27), (0, u "java/lang/Object"), (0, .class_ 29), (0, u "java/util/Collection")] 27

/-- java/util/SequencedCollection -/
def k5 : Class := { plain "java/util/SequencedCollection" (some 0) with
  accessFlags := 1537
  interfaces := #[3]
  cf := some (fileOf pool5 8 #[] #[] 1537 26 #[28] #[])
  fields := #[]
  methods := #[]
  instanceTypes := #[]
  staticTypes := #[]
  resolved := Array.replicate 57 none
  statics := none }

def pool6 : Array CpInfo := pool [(8, .class_ 10), (1, u "java/util/List"), (49, u "add"), (3, u "(Ljava/lang/Object;)Z"), (10, u "get"), (0, u "(I)Ljava/lang/Object;"), (26, .class_ 104), (0, u "java/lang/Object"), (15, .class_ 121), (0, u "java/util/SequencedCollection")] 129

def k6m0 : Method := { name := "add", desc := "(Ljava/lang/Object;)Z", sig := { parameters := [(.object "java/lang/Object")], returnType := some .boolean }, accessFlags := 1025, code := none }
def k6m1 : Method := { name := "get", desc := "(I)Ljava/lang/Object;", sig := { parameters := [.int], returnType := some (.object "java/lang/Object") }, accessFlags := 1025, code := none }
/-- java/util/List -/
def k6 : Class := { plain "java/util/List" (some 0) with
  accessFlags := 1537
  interfaces := #[5]
  cf := some (fileOf pool6 8 #[] #[{ accessFlags := 1025, nameIndex := 60, descriptorIndex := 64, attributes := #[] }, { accessFlags := 1025, nameIndex := 75, descriptorIndex := 76, attributes := #[] }] 1537 103 #[120] #[])
  fields := #[]
  methods := #[k6m0, k6m1]
  instanceTypes := #[]
  staticTypes := #[]
  resolved := Array.replicate 251 none
  statics := none }

def pool7 : Array CpInfo := pool [(1, .methodref 2 3), (0, .class_ 4), (0, .nameAndType 5 6), (0, u "java/util/AbstractCollection"), (0, u "<init>"), (0, u "()V"), (0, .fieldref 8 9), (0, .class_ 10), (0, .nameAndType 11 12), (0, u "java/util/AbstractList"), (0, u "modCount"), (0, u "I"), (64, .class_ 78), (0, u "java/util/AbstractList$Itr"), (3, .class_ 83), (0, u "java/util/AbstractList$ListItr"), (9, .class_ 94), (0, u "java/util/AbstractList$RandomAccessSubList"), (3, .class_ 99), (0, u "java/util/AbstractList$SubList"), (33, .class_ 134), (0, u "java/util/List"), (73, .class_ 209), (0, u "java/util/AbstractList$SubList$1"), (0, .class_ 211), (0, u "java/util/AbstractList$RandomAccessSpliterator")] 6

def k7c0 : Code := { maxStack := 2, maxLocals := 1, code := jdk_39_method_1_code, exceptionTable := #[], attributes := #[] }
def k7m0 : Method := { name := "<init>", desc := "()V", sig := { parameters := [], returnType := none }, accessFlags := 4, code := some k7c0 }
/-- java/util/AbstractList -/
def k7 : Class := { plain "java/util/AbstractList" (some 4) with
  accessFlags := 1057
  interfaces := #[6]
  cf := some (fileOf pool7 8 #[.nestMembers #[93, 98, 208, 210, 82, 77]] #[{ accessFlags := 4, nameIndex := 5, descriptorIndex := 6, attributes := #[] }] 1057 2 #[133] #[{ accessFlags := 132, nameIndex := 11, descriptorIndex := 12, attributes := #[] }])
  fields := #[{ name := "modCount", type := .int, accessFlags := 132, slot := 0, constantValue := 0 }]
  methods := #[k7m0]
  instanceTypes := #[.int]
  staticTypes := #[]
  resolved := Array.replicate 218 none
  statics := none }

def pool8 : Array CpInfo := pool [(1, .class_ 2), (0, u "java/util/RandomAccess"), (0, .class_ 4), (0, u "java/lang/Object")] 2

/-- java/util/RandomAccess -/
def k8 : Class := { plain "java/util/RandomAccess" (some 0) with
  accessFlags := 1537
  interfaces := #[]
  cf := some (fileOf pool8 1 #[] #[] 1537 3 #[] #[])
  fields := #[]
  methods := #[]
  instanceTypes := #[]
  staticTypes := #[]
  resolved := Array.replicate 7 none
  statics := none }

def pool9 : Array CpInfo := pool [(1, .class_ 2), (0, u "java/lang/Cloneable"), (0, .class_ 4), (0, u "java/lang/Object")] 2

/-- java/lang/Cloneable -/
def k9 : Class := { plain "java/lang/Cloneable" (some 0) with
  accessFlags := 1537
  interfaces := #[]
  cf := some (fileOf pool9 1 #[] #[] 1537 3 #[] #[])
  fields := #[]
  methods := #[]
  instanceTypes := #[]
  staticTypes := #[]
  resolved := Array.replicate 7 none
  statics := none }

def pool10 : Array CpInfo := pool [(1, .class_ 2), (0, u "java/io/Serializable"), (0, .class_ 4), (0, u "java/lang/Object")] 2

/-- java/io/Serializable -/
def k10 : Class := { plain "java/io/Serializable" (some 0) with
  accessFlags := 1537
  interfaces := #[]
  cf := some (fileOf pool10 1 #[] #[] 1537 3 #[] #[])
  fields := #[]
  methods := #[]
  instanceTypes := #[]
  staticTypes := #[]
  resolved := Array.replicate 7 none
  statics := none }

def pool11 : Array CpInfo := pool [(1, .methodref 2 3), (0, .class_ 4), (0, .nameAndType 5 6), (0, u "java/util/AbstractList"), (0, u "<init>"), (0, u "()V"), (0, .class_ 8), (0, u "java/lang/Object"), (0, .fieldref 10 11), (0, .class_ 12), (0, .nameAndType 13 14), (0, u "java/util/ArrayList"), (0, u "elementData"), (0, u "[Ljava/lang/Object;"), (2, u "EMPTY_ELEMENTDATA"), (21, .fieldref 10 40), (0, .nameAndType 41 14), (0, u "DEFAULTCAPACITY_EMPTY_ELEMENTDATA"), (5, u "()[Ljava/lang/Object;"), (0, .fieldref 10 49), (0, .nameAndType 50 51), (0, u "size"), (0, u "I"), (11, .fieldref 10 64), (0, .nameAndType 65 51), (0, u "modCount"), (3, .methodref 10 70), (0, .nameAndType 71 72), (0, u "grow"), (0, u "(I)[Ljava/lang/Object;"), (6, .methodref 80 81), (0, .class_ 82), (0, .nameAndType 83 84), (0, u "java/lang/Math"), (0, u "max"), (0, u "(II)I"), (11, u "(Ljava/lang/Object;)Z"), (21, .methodref 119 120), (0, .class_ 121), (0, .nameAndType 122 84), (0, u "java/util/Objects"), (0, u "checkIndex"), (0, .methodref 10 124), (0, .nameAndType 13 125), (0, u "(I)Ljava/lang/Object;"), (3, .methodref 10 130), (0, .nameAndType 71 47), (0, .methodref 10 132), (0, .nameAndType 133 134), (0, u "add"), (0, u "(Ljava/lang/Object;[Ljava/lang/Object;I)V"), (13, .class_ 149), (0, u "java/util/List"), (112, .class_ 263), (0, u "java/util/ArrayList$ListItr"), (3, .class_ 268), (0, u "java/util/ArrayList$Itr"), (7, .class_ 277), (0, u "java/util/ArrayList$SubList"), (12, .class_ 291), (0, u "java/util/ArrayList$ArrayListSpliterator"), (37, .class_ 330), (0, u "java/util/RandomAccess"), (0, .class_ 332), (0, u "java/lang/Cloneable"), (0, .class_ 334), (0, u "java/io/Serializable"), (0, u "serialVersionUID"), (0, u "J"), (3, u "DEFAULT_CAPACITY"), (40, u "get"), (118, .class_ 501), (0, u "java/util/ArrayList$SubList$2"), (0, .class_ 503), (0, u "java/util/ArrayList$SubList$1")] 5

def k11c0 : Code := { maxStack := 2, maxLocals := 1, code := jdk_38_method_2_code, exceptionTable := #[], attributes := #[] }
def k11m0 : Method := { name := "<init>", desc := "()V", sig := { parameters := [], returnType := none }, accessFlags := 1, code := some k11c0 }
def k11c1 : Code := { maxStack := 4, maxLocals := 4, code := jdk_38_method_6_code, exceptionTable := #[], attributes := #[] }
def k11m1 : Method := { name := "grow", desc := "(I)[Ljava/lang/Object;", sig := { parameters := [.int], returnType := some (.array (.object "java/lang/Object")) }, accessFlags := 2, code := some k11c1 }
def k11c2 : Code := { maxStack := 3, maxLocals := 1, code := jdk_38_method_7_code, exceptionTable := #[], attributes := #[] }
def k11m2 : Method := { name := "grow", desc := "()[Ljava/lang/Object;", sig := { parameters := [], returnType := some (.array (.object "java/lang/Object")) }, accessFlags := 2, code := some k11c2 }
def k11c3 : Code := { maxStack := 2, maxLocals := 2, code := jdk_38_method_18_code, exceptionTable := #[], attributes := #[] }
def k11m3 : Method := { name := "elementData", desc := "(I)Ljava/lang/Object;", sig := { parameters := [.int], returnType := some (.object "java/lang/Object") }, accessFlags := 0, code := some k11c3 }
def k11c4 : Code := { maxStack := 2, maxLocals := 2, code := jdk_38_method_20_code, exceptionTable := #[], attributes := #[] }
def k11m4 : Method := { name := "get", desc := "(I)Ljava/lang/Object;", sig := { parameters := [.int], returnType := some (.object "java/lang/Object") }, accessFlags := 1, code := some k11c4 }
def k11c5 : Code := { maxStack := 3, maxLocals := 4, code := jdk_38_method_24_code, exceptionTable := #[], attributes := #[] }
def k11m5 : Method := { name := "add", desc := "(Ljava/lang/Object;[Ljava/lang/Object;I)V", sig := { parameters := [(.object "java/lang/Object"), (.array (.object "java/lang/Object")), .int], returnType := none }, accessFlags := 2, code := some k11c5 }
def k11c6 : Code := { maxStack := 4, maxLocals := 2, code := jdk_38_method_25_code, exceptionTable := #[], attributes := #[] }
def k11m6 : Method := { name := "add", desc := "(Ljava/lang/Object;)Z", sig := { parameters := [(.object "java/lang/Object")], returnType := some .boolean }, accessFlags := 1, code := some k11c6 }
/-- java/util/ArrayList -/
def k11 : Class := { plain "java/util/ArrayList" (some 7) with
  accessFlags := 33
  interfaces := #[6, 8, 9, 10]
  cf := some (fileOf pool11 10 #[.nestMembers #[290, 276, 500, 502, 262, 267]] #[{ accessFlags := 1, nameIndex := 5, descriptorIndex := 6, attributes := #[] }, { accessFlags := 2, nameIndex := 71, descriptorIndex := 72, attributes := #[] }, { accessFlags := 2, nameIndex := 71, descriptorIndex := 47, attributes := #[] }, { accessFlags := 0, nameIndex := 13, descriptorIndex := 125, attributes := #[] }, { accessFlags := 1, nameIndex := 381, descriptorIndex := 125, attributes := #[] }, { accessFlags := 2, nameIndex := 133, descriptorIndex := 134, attributes := #[] }, { accessFlags := 1, nameIndex := 133, descriptorIndex := 96, attributes := #[] }] 33 2 #[148, 329, 331, 333] #[{ accessFlags := 26, nameIndex := 335, descriptorIndex := 336, attributes := #[] }, { accessFlags := 26, nameIndex := 340, descriptorIndex := 51, attributes := #[] }, { accessFlags := 26, nameIndex := 17, descriptorIndex := 14, attributes := #[] }, { accessFlags := 26, nameIndex := 41, descriptorIndex := 14, attributes := #[] }, { accessFlags := 128, nameIndex := 13, descriptorIndex := 14, attributes := #[] }, { accessFlags := 2, nameIndex := 50, descriptorIndex := 51, attributes := #[] }])
  fields := #[{ name := "serialVersionUID", type := .long, accessFlags := 26, slot := 0, constantValue := 0 }, { name := "DEFAULT_CAPACITY", type := .int, accessFlags := 26, slot := 1, constantValue := 0 }, { name := "EMPTY_ELEMENTDATA", type := (.array (.object "java/lang/Object")), accessFlags := 26, slot := 2, constantValue := 0 }, { name := "DEFAULTCAPACITY_EMPTY_ELEMENTDATA", type := (.array (.object "java/lang/Object")), accessFlags := 26, slot := 3, constantValue := 0 }, { name := "elementData", type := (.array (.object "java/lang/Object")), accessFlags := 128, slot := 1, constantValue := 0 }, { name := "size", type := .int, accessFlags := 2, slot := 2, constantValue := 0 }]
  methods := #[k11m0, k11m1, k11m2, k11m3, k11m4, k11m5, k11m6]
  instanceTypes := #[.int, (.array (.object "java/lang/Object")), .int]
  staticTypes := #[.long, .int, (.array (.object "java/lang/Object")), (.array (.object "java/lang/Object"))]
  resolved := Array.replicate 509 none
  statics := some 0 }

def pool12 : Array CpInfo := pool [(1, .methodref 2 3), (0, .class_ 4), (0, .nameAndType 5 6), (0, u "java/lang/Object"), (0, u "<init>"), (0, u "()V"), (1, .class_ 10), (1, u "java/lang/Number"), (2, .class_ 14), (0, u "java/io/Serializable"), (0, u "serialVersionUID"), (0, u "J")] 20

def k12c0 : Code := { maxStack := 1, maxLocals := 1, code := jdk_18_method_1_code, exceptionTable := #[], attributes := #[] }
def k12m0 : Method := { name := "<init>", desc := "()V", sig := { parameters := [], returnType := none }, accessFlags := 1, code := some k12c0 }
/-- java/lang/Number -/
def k12 : Class := { plain "java/lang/Number" (some 0) with
  accessFlags := 1057
  interfaces := #[10]
  cf := some (fileOf pool12 8 #[] #[{ accessFlags := 1, nameIndex := 5, descriptorIndex := 6, attributes := #[] }] 1057 2 #[13] #[{ accessFlags := 26, nameIndex := 15, descriptorIndex := 16, attributes := #[] }])
  fields := #[{ name := "serialVersionUID", type := .long, accessFlags := 26, slot := 0, constantValue := 0 }]
  methods := #[k12m0]
  instanceTypes := #[]
  staticTypes := #[.long]
  resolved := Array.replicate 37 none
  statics := none }

def pool13 : Array CpInfo := pool [(1, .class_ 2), (0, u "java/lang/Comparable"), (0, .class_ 4), (0, u "java/lang/Object")] 7

/-- java/lang/Comparable -/
def k13 : Class := { plain "java/lang/Comparable" (some 0) with
  accessFlags := 1537
  interfaces := #[]
  cf := some (fileOf pool13 1 #[] #[] 1537 3 #[] #[])
  fields := #[]
  methods := #[]
  instanceTypes := #[]
  staticTypes := #[]
  resolved := Array.replicate 12 none
  statics := none }

def pool14 : Array CpInfo := pool [(1, .class_ 2), (0, u "java/lang/constant/Constable"), (0, .class_ 4), (0, u "java/lang/Object")] 6

/-- java/lang/constant/Constable -/
def k14 : Class := { plain "java/lang/constant/Constable" (some 0) with
  accessFlags := 1537
  interfaces := #[]
  cf := some (fileOf pool14 1 #[] #[] 1537 3 #[] #[])
  fields := #[]
  methods := #[]
  instanceTypes := #[]
  staticTypes := #[]
  resolved := Array.replicate 11 none
  statics := none }

def pool15 : Array CpInfo := pool [(1, .class_ 2), (0, u "java/lang/constant/ConstantDesc"), (0, .class_ 4), (0, u "java/lang/Object")] 32

/-- java/lang/constant/ConstantDesc -/
def k15 : Class := { plain "java/lang/constant/ConstantDesc" (some 0) with
  accessFlags := 1537
  interfaces := #[]
  cf := some (fileOf pool15 1 #[] #[] 1537 3 #[] #[])
  fields := #[]
  methods := #[]
  instanceTypes := #[]
  staticTypes := #[]
  resolved := Array.replicate 37 none
  statics := none }

def pool16 : Array CpInfo := pool [(1, .class_ 2), (0, u "java/lang/Integer"), (16, u "digits"), (0, u "[C"), (46, u "<init>"), (17, u "DigitOnes"), (0, u "[B"), (2, u "DigitTens"), (10, .nameAndType 67 101), (0, u "()V"), (19, u "()I"), (65, u "valueOf"), (0, u "(I)Ljava/lang/Integer;"), (0, .class_ 190), (0, u "java/lang/Integer$IntegerCache"), (0, .fieldref 189 192), (0, .nameAndType 193 194), (0, u "high"), (0, u "I"), (0, .fieldref 189 196), (0, .nameAndType 197 198), (0, u "cache"), (0, u "[Ljava/lang/Integer;"), (0, .methodref 1 200), (0, .nameAndType 67 201), (0, u "(I)V"), (0, .methodref 203 100), (0, .class_ 204), (0, u "java/lang/Number"), (0, .fieldref 1 206), (0, .nameAndType 207 194), (0, u "value"), (5, u "intValue"), (88, u "TYPE"), (0, u "Ljava/lang/Class;"), (0, .class_ 305), (0, u "java/lang/Comparable"), (0, .class_ 307), (0, u "java/lang/constant/Constable"), (0, .class_ 309), (0, u "java/lang/constant/ConstantDesc"), (0, u "MIN_VALUE"), (1, u "MAX_VALUE"), (3, u "SIZE"), (1, u "BYTES"), (1, u "serialVersionUID"), (0, u "J")] 131

def k16c0 : Code := { maxStack := 3, maxLocals := 1, code := jdk_33_method_22_code, exceptionTable := #[], attributes := #[] }
def k16m0 : Method := { name := "valueOf", desc := "(I)Ljava/lang/Integer;", sig := { parameters := [.int], returnType := some (.object "java/lang/Integer") }, accessFlags := 9, code := some k16c0 }
def k16c1 : Code := { maxStack := 2, maxLocals := 2, code := jdk_33_method_23_code, exceptionTable := #[], attributes := #[] }
def k16m1 : Method := { name := "<init>", desc := "(I)V", sig := { parameters := [.int], returnType := none }, accessFlags := 1, code := some k16c1 }
def k16c2 : Code := { maxStack := 1, maxLocals := 1, code := jdk_33_method_27_code, exceptionTable := #[], attributes := #[] }
def k16m2 : Method := { name := "intValue", desc := "()I", sig := { parameters := [], returnType := some .int }, accessFlags := 1, code := some k16c2 }
/-- java/lang/Integer -/
def k16 : Class := { plain "java/lang/Integer" (some 12) with
  accessFlags := 49
  interfaces := #[13, 14, 15]
  cf := some (fileOf pool16 1 #[.nestMembers #[189]] #[{ accessFlags := 9, nameIndex := 187, descriptorIndex := 188, attributes := #[] }, { accessFlags := 1, nameIndex := 67, descriptorIndex := 201, attributes := #[] }, { accessFlags := 1, nameIndex := 213, descriptorIndex := 121, attributes := #[] }] 49 203 #[304, 306, 308] #[{ accessFlags := 25, nameIndex := 310, descriptorIndex := 194, attributes := #[] }, { accessFlags := 25, nameIndex := 312, descriptorIndex := 194, attributes := #[] }, { accessFlags := 25, nameIndex := 302, descriptorIndex := 303, attributes := #[] }, { accessFlags := 24, nameIndex := 19, descriptorIndex := 20, attributes := #[] }, { accessFlags := 24, nameIndex := 89, descriptorIndex := 86, attributes := #[] }, { accessFlags := 24, nameIndex := 85, descriptorIndex := 86, attributes := #[] }, { accessFlags := 18, nameIndex := 207, descriptorIndex := 194, attributes := #[] }, { accessFlags := 25, nameIndex := 316, descriptorIndex := 194, attributes := #[] }, { accessFlags := 25, nameIndex := 318, descriptorIndex := 194, attributes := #[] }, { accessFlags := 26, nameIndex := 320, descriptorIndex := 321, attributes := #[] }])
  fields := #[{ name := "MIN_VALUE", type := .int, accessFlags := 25, slot := 0, constantValue := 0 }, { name := "MAX_VALUE", type := .int, accessFlags := 25, slot := 1, constantValue := 0 }, { name := "TYPE", type := (.object "java/lang/Class"), accessFlags := 25, slot := 2, constantValue := 0 }, { name := "digits", type := (.array .char), accessFlags := 24, slot := 3, constantValue := 0 }, { name := "DigitTens", type := (.array .byte), accessFlags := 24, slot := 4, constantValue := 0 }, { name := "DigitOnes", type := (.array .byte), accessFlags := 24, slot := 5, constantValue := 0 }, { name := "value", type := .int, accessFlags := 18, slot := 0, constantValue := 0 }, { name := "SIZE", type := .int, accessFlags := 25, slot := 6, constantValue := 0 }, { name := "BYTES", type := .int, accessFlags := 25, slot := 7, constantValue := 0 }, { name := "serialVersionUID", type := .long, accessFlags := 26, slot := 8, constantValue := 0 }]
  methods := #[k16m0, k16m1, k16m2]
  instanceTypes := #[.int]
  staticTypes := #[.int, .int, (.object "java/lang/Class"), (.array .char), (.array .byte), (.array .byte), .int, .int, .long]
  resolved := Array.replicate 453 none
  statics := none }

def pool17 : Array CpInfo := pool [(2, .class_ 4), (1, u "java/lang/Object"), (0, u "<init>"), (0, u "()V"), (0, .class_ 8), (0, u "java/lang/Integer"), (7, .class_ 18), (1, u "java/lang/Integer$IntegerCache"), (0, u "$assertionsDisabled"), (0, u "Z"), (26, u "high"), (0, u "I"), (8, u "archivedCache"), (0, u "[Ljava/lang/Integer;"), (12, u "cache"), (0, u "low")] 27

def k17m0 : Method := { name := "<init>", desc := "()V", sig := { parameters := [], returnType := none }, accessFlags := 2, code := none }
/-- java/lang/Integer$IntegerCache -/
def k17 : Class := { plain "java/lang/Integer$IntegerCache" (some 0) with
  accessFlags := 48
  interfaces := #[]
  cf := some (fileOf pool17 16 #[.nestHost 7] #[{ accessFlags := 2, nameIndex := 5, descriptorIndex := 6, attributes := #[] }] 48 2 #[] #[{ accessFlags := 24, nameIndex := 72, descriptorIndex := 48, attributes := #[] }, { accessFlags := 24, nameIndex := 47, descriptorIndex := 48, attributes := #[] }, { accessFlags := 24, nameIndex := 71, descriptorIndex := 58, attributes := #[] }, { accessFlags := 8, nameIndex := 57, descriptorIndex := 58, attributes := #[] }, { accessFlags := 4120, nameIndex := 19, descriptorIndex := 20, attributes := #[] }])
  fields := #[{ name := "low", type := .int, accessFlags := 24, slot := 0, constantValue := 0 }, { name := "high", type := .int, accessFlags := 24, slot := 1, constantValue := 0 }, { name := "cache", type := (.array (.object "java/lang/Integer")), accessFlags := 24, slot := 2, constantValue := 0 }, { name := "archivedCache", type := (.array (.object "java/lang/Integer")), accessFlags := 8, slot := 3, constantValue := 0 }, { name := "$assertionsDisabled", type := .boolean, accessFlags := 4120, slot := 4, constantValue := 0 }]
  methods := #[k17m0]
  instanceTypes := #[]
  staticTypes := #[.int, .int, (.array (.object "java/lang/Integer")), (.array (.object "java/lang/Integer")), .boolean]
  resolved := Array.replicate 100 none
  statics := some 1 }

def pool18 : Array CpInfo := pool [(1, .class_ 2), (0, u "java/lang/Math"), (1, .class_ 6), (1, u "java/lang/Object"), (0, u "<init>"), (0, u "()V"), (89, .class_ 100), (1, u "java/lang/Math$RandomNumberGeneratorHolder"), (71, u "negativeZeroFloatBits"), (0, u "J"), (2, u "negativeZeroDoubleBits"), (21, u "max"), (2, u "min"), (43, u "$assertionsDisabled"), (0, u "Z"), (88, u "(II)I"), (2, u "twoToTheDoubleScaleDown"), (0, u "D"), (4, u "twoToTheDoubleScaleUp"), (9, u "E"), (3, u "PI"), (2, u "TAU"), (2, u "DEGREES_TO_RADIANS"), (0, u "RADIANS_TO_DEGREES")] 94

def k18m0 : Method := { name := "<init>", desc := "()V", sig := { parameters := [], returnType := none }, accessFlags := 2, code := none }
def k18c1 : Code := { maxStack := 2, maxLocals := 2, code := jdk_29_method_65_code, exceptionTable := #[], attributes := #[] }
def k18m1 : Method := { name := "max", desc := "(II)I", sig := { parameters := [.int, .int], returnType := some .int }, accessFlags := 9, code := some k18c1 }
def k18c2 : Code := { maxStack := 2, maxLocals := 2, code := jdk_29_method_69_code, exceptionTable := #[], attributes := #[] }
def k18m2 : Method := { name := "min", desc := "(II)I", sig := { parameters := [.int, .int], returnType := some .int }, accessFlags := 9, code := some k18c2 }
/-- java/lang/Math -/
def k18 : Class := { plain "java/lang/Math" (some 0) with
  accessFlags := 49
  interfaces := #[]
  cf := some (fileOf pool18 1 #[.nestMembers #[98]] #[{ accessFlags := 2, nameIndex := 7, descriptorIndex := 8, attributes := #[] }, { accessFlags := 9, nameIndex := 198, descriptorIndex := 335, attributes := #[] }, { accessFlags := 9, nameIndex := 201, descriptorIndex := 335, attributes := #[] }] 49 4 #[] #[{ accessFlags := 25, nameIndex := 354, descriptorIndex := 339, attributes := #[] }, { accessFlags := 25, nameIndex := 358, descriptorIndex := 339, attributes := #[] }, { accessFlags := 25, nameIndex := 361, descriptorIndex := 339, attributes := #[] }, { accessFlags := 26, nameIndex := 364, descriptorIndex := 339, attributes := #[] }, { accessFlags := 26, nameIndex := 365, descriptorIndex := 339, attributes := #[] }, { accessFlags := 26, nameIndex := 172, descriptorIndex := 173, attributes := #[] }, { accessFlags := 26, nameIndex := 176, descriptorIndex := 173, attributes := #[] }, { accessFlags := 8, nameIndex := 344, descriptorIndex := 339, attributes := #[] }, { accessFlags := 8, nameIndex := 338, descriptorIndex := 339, attributes := #[] }, { accessFlags := 4120, nameIndex := 245, descriptorIndex := 246, attributes := #[] }])
  fields := #[{ name := "E", type := .double, accessFlags := 25, slot := 0, constantValue := 0 }, { name := "PI", type := .double, accessFlags := 25, slot := 1, constantValue := 0 }, { name := "TAU", type := .double, accessFlags := 25, slot := 2, constantValue := 0 }, { name := "DEGREES_TO_RADIANS", type := .double, accessFlags := 26, slot := 3, constantValue := 0 }, { name := "RADIANS_TO_DEGREES", type := .double, accessFlags := 26, slot := 4, constantValue := 0 }, { name := "negativeZeroFloatBits", type := .long, accessFlags := 26, slot := 5, constantValue := 0 }, { name := "negativeZeroDoubleBits", type := .long, accessFlags := 26, slot := 6, constantValue := 0 }, { name := "twoToTheDoubleScaleUp", type := .double, accessFlags := 8, slot := 7, constantValue := 0 }, { name := "twoToTheDoubleScaleDown", type := .double, accessFlags := 8, slot := 8, constantValue := 0 }, { name := "$assertionsDisabled", type := .boolean, accessFlags := 4120, slot := 9, constantValue := 0 }]
  methods := #[k18m0, k18m1, k18m2]
  instanceTypes := #[]
  staticTypes := #[.double, .double, .double, .double, .double, .long, .long, .double, .double, .boolean]
  resolved := Array.replicate 460 none
  statics := none }

def pool19 : Array CpInfo := pool [(1, .class_ 2), (0, u "com/example/craterworks/craterworks/SharesStation"), (0, .methodref 4 5), (0, .class_ 6), (0, .nameAndType 7 8), (0, u "java/lang/Object"), (0, u "<init>"), (0, u "()V"), (0, .class_ 10), (0, u "[[Z"), (0, .fieldref 1 12), (0, .nameAndType 13 10), (0, u "occupied"), (0, .fieldref 1 15), (0, .nameAndType 16 17), (0, u "uncovered"), (0, u "[Z"), (0, .fieldref 1 19), (0, .nameAndType 20 21), (0, u "icons"), (0, u "Ljava/util/List;"), (0, .methodref 23 24), (0, .class_ 25), (0, .nameAndType 26 27), (0, u "java/util/Arrays"), (0, u "fill"), (0, u "([ZZ)V"), (3, u "()I"), (1, .nameAndType 34 35), (0, u "test"), (0, u "(Lcom/example/craterworks/craterworks/SharesStation;)Ljava/util/function/IntPredicate;"), (0, .methodref 1 37), (0, .nameAndType 38 39), (0, u "mainColumn"), (0, u "(Ljava/util/function/IntPredicate;)I"), (0, .invokeDynamic 1 33), (0, .interfaceMethodref 42 43), (0, .class_ 44), (0, .nameAndType 34 45), (0, u "java/util/function/IntPredicate"), (0, u "(I)Z"), (0, .methodref 1 47), (0, .nameAndType 48 49), (0, u "beats"), (0, u "(IIZ)Z"), (0, .methodref 1 51), (0, .nameAndType 52 53), (0, u "emptyCells"), (0, u "(I)I"), (0, .methodref 1 55), (0, .nameAndType 56 53), (0, u "visibleCoins"), (0, .interfaceMethodref 58 59), (0, .class_ 60), (0, .nameAndType 61 62), (0, u "java/util/List"), (0, u "get"), (0, u "(I)Ljava/lang/Object;"), (0, .class_ 64), (0, u "java/lang/Integer"), (0, .methodref 63 66), (0, .nameAndType 67 31), (0, u "intValue"), (0, u "COLUMNS"), (0, u "I"), (2, u "CELLS"), (1, u "BRANCHES"), (1, u "BARRED"), (3, u "(Ljava/util/List;)V"), (5, u "homeColumn"), (1, u "take"), (0, u "(I)V"), (0, u "hasRoom"), (0, u "sendHome"), (4, .methodType 45), (3, .methodHandle 5 101), (0, .methodref 1 102), (0, .nameAndType 90 45), (0, .methodHandle 6 104), (0, .methodref 105 106), (0, .class_ 107), (0, .nameAndType 108 109), (0, u "java/lang/invoke/LambdaMetafactory"), (0, u "metafactory"), (0, u "(Ljava/lang/invoke/MethodHandles$Lookup;Ljava/lang/String;Ljava/lang/invoke/MethodType;Ljava/lang/invoke/MethodType;Ljava/lang/invoke/MethodHandle;Ljava/lang/invoke/MethodType;)Ljava/lang/invoke/CallSite;")] 6

def k19c0 : Code := { maxStack := 3, maxLocals := 6, code := prog_6_method_1_code, exceptionTable := #[], attributes := #[] }
def k19m0 : Method := { name := "<init>", desc := "(Ljava/util/List;)V", sig := { parameters := [(.object "java/util/List")], returnType := none }, accessFlags := 0, code := some k19c0 }
def k19c1 : Code := { maxStack := 2, maxLocals := 7, code := prog_6_method_4_code, exceptionTable := #[], attributes := #[] }
def k19m1 : Method := { name := "emptyCells", desc := "(I)I", sig := { parameters := [.int], returnType := some .int }, accessFlags := 0, code := some k19c1 }
def k19c2 : Code := { maxStack := 2, maxLocals := 1, code := prog_6_method_6_code, exceptionTable := #[], attributes := #[] }
def k19m2 : Method := { name := "homeColumn", desc := "()I", sig := { parameters := [], returnType := some .int }, accessFlags := 0, code := some k19c2 }
def k19c3 : Code := { maxStack := 4, maxLocals := 6, code := prog_6_method_7_code, exceptionTable := #[], attributes := #[] }
def k19m3 : Method := { name := "mainColumn", desc := "(Ljava/util/function/IntPredicate;)I", sig := { parameters := [(.object "java/util/function/IntPredicate")], returnType := some .int }, accessFlags := 2, code := some k19c3 }
def k19c4 : Code := { maxStack := 3, maxLocals := 5, code := prog_6_method_8_code, exceptionTable := #[], attributes := #[] }
def k19m4 : Method := { name := "beats", desc := "(IIZ)Z", sig := { parameters := [.int, .int, .boolean], returnType := some .boolean }, accessFlags := 2, code := some k19c4 }
def k19c5 : Code := { maxStack := 5, maxLocals := 3, code := prog_6_method_10_code, exceptionTable := #[], attributes := #[] }
def k19m5 : Method := { name := "take", desc := "(I)V", sig := { parameters := [.int], returnType := none }, accessFlags := 0, code := some k19c5 }
def k19c6 : Code := { maxStack := 2, maxLocals := 3, code := prog_6_method_11_code, exceptionTable := #[], attributes := #[] }
def k19m6 : Method := { name := "hasRoom", desc := "(I)Z", sig := { parameters := [.int], returnType := some .boolean }, accessFlags := 0, code := some k19c6 }
def k19c7 : Code := { maxStack := 3, maxLocals := 3, code := prog_6_method_12_code, exceptionTable := #[], attributes := #[] }
def k19m7 : Method := { name := "sendHome", desc := "(I)V", sig := { parameters := [.int], returnType := none }, accessFlags := 0, code := some k19c7 }
def k19c8 : Code := { maxStack := 3, maxLocals := 3, code := prog_6_method_14_code, exceptionTable := #[], attributes := #[] }
def k19m8 : Method := { name := "visibleCoins", desc := "()I", sig := { parameters := [], returnType := some .int }, accessFlags := 0, code := some k19c8 }
def k19c9 : Code := { maxStack := 3, maxLocals := 4, code := prog_6_method_15_code, exceptionTable := #[], attributes := #[] }
def k19m9 : Method := { name := "visibleCoins", desc := "(I)I", sig := { parameters := [.int], returnType := some .int }, accessFlags := 0, code := some k19c9 }
/-- com/example/craterworks/craterworks/SharesStation -/
def k19 : Class := { plain "com/example/craterworks/craterworks/SharesStation" (some 0) with
  accessFlags := 48
  interfaces := #[]
  cf := some (fileOf pool19 1 #[.bootstrapMethods #[⟨0, #[]⟩, ⟨103, #[96, 100, 96]⟩]] #[{ accessFlags := 0, nameIndex := 7, descriptorIndex := 80, attributes := #[] }, { accessFlags := 0, nameIndex := 52, descriptorIndex := 53, attributes := #[] }, { accessFlags := 0, nameIndex := 86, descriptorIndex := 31, attributes := #[] }, { accessFlags := 2, nameIndex := 38, descriptorIndex := 39, attributes := #[] }, { accessFlags := 2, nameIndex := 48, descriptorIndex := 49, attributes := #[] }, { accessFlags := 0, nameIndex := 88, descriptorIndex := 89, attributes := #[] }, { accessFlags := 0, nameIndex := 90, descriptorIndex := 45, attributes := #[] }, { accessFlags := 0, nameIndex := 91, descriptorIndex := 89, attributes := #[] }, { accessFlags := 0, nameIndex := 56, descriptorIndex := 31, attributes := #[] }, { accessFlags := 0, nameIndex := 56, descriptorIndex := 53, attributes := #[] }] 48 4 #[] #[{ accessFlags := 24, nameIndex := 68, descriptorIndex := 69, attributes := #[] }, { accessFlags := 24, nameIndex := 72, descriptorIndex := 69, attributes := #[] }, { accessFlags := 24, nameIndex := 74, descriptorIndex := 69, attributes := #[] }, { accessFlags := 26, nameIndex := 76, descriptorIndex := 69, attributes := #[] }, { accessFlags := 18, nameIndex := 20, descriptorIndex := 21, attributes := #[] }, { accessFlags := 18, nameIndex := 13, descriptorIndex := 10, attributes := #[] }, { accessFlags := 18, nameIndex := 16, descriptorIndex := 17, attributes := #[] }])
  fields := #[{ name := "COLUMNS", type := .int, accessFlags := 24, slot := 0, constantValue := 0 }, { name := "CELLS", type := .int, accessFlags := 24, slot := 1, constantValue := 0 }, { name := "BRANCHES", type := .int, accessFlags := 24, slot := 2, constantValue := 0 }, { name := "BARRED", type := .int, accessFlags := 26, slot := 3, constantValue := 0 }, { name := "icons", type := (.object "java/util/List"), accessFlags := 18, slot := 0, constantValue := 0 }, { name := "occupied", type := (.array (.array .boolean)), accessFlags := 18, slot := 1, constantValue := 0 }, { name := "uncovered", type := (.array .boolean), accessFlags := 18, slot := 2, constantValue := 0 }]
  methods := #[k19m0, k19m1, k19m2, k19m3, k19m4, k19m5, k19m6, k19m7, k19m8, k19m9]
  instanceTypes := #[(.object "java/util/List"), (.array (.array .boolean)), (.array .boolean)]
  staticTypes := #[.int, .int, .int, .int]
  resolved := Array.replicate 116 none
  callSites := [(2, 2, .makes 30)]
  statics := none }

def pool20 : Array CpInfo := pool [(2, .class_ 4), (1, u "java/lang/Object"), (0, u "<init>"), (0, u "()V"), (7, .class_ 16), (1, u "java/util/Arrays"), (57, .class_ 76), (1, u "java/util/Arrays$NaturalOrder"), (36, .class_ 115), (1, u "java/util/Arrays$LegacyMergeSort"), (1, u "Z"), (257, .class_ 376), (0, u "java/util/Arrays$ArrayList"), (68, u "$assertionsDisabled"), (269, u "MIN_ARRAY_SORT_GRAN"), (0, u "I"), (2, u "INSERTIONSORT_THRESHOLD"), (120, u "fill"), (11, u "([ZZ)V"), (122, .class_ 976), (0, u "java/util/Arrays$ArrayItr")] 52

def k20m0 : Method := { name := "<init>", desc := "()V", sig := { parameters := [], returnType := none }, accessFlags := 2, code := none }
def k20c1 : Code := { maxStack := 3, maxLocals := 4, code := jdk_65_method_111_code, exceptionTable := #[], attributes := #[] }
def k20m1 : Method := { name := "fill", desc := "([ZZ)V", sig := { parameters := [(.array .boolean), .boolean], returnType := none }, accessFlags := 9, code := some k20c1 }
/-- java/util/Arrays -/
def k20 : Class := { plain "java/util/Arrays" (some 0) with
  accessFlags := 49
  interfaces := #[]
  cf := some (fileOf pool20 14 #[.nestMembers #[975, 375, 113, 74]] #[{ accessFlags := 2, nameIndex := 5, descriptorIndex := 6, attributes := #[] }, { accessFlags := 9, nameIndex := 840, descriptorIndex := 852, attributes := #[] }] 49 2 #[] #[{ accessFlags := 26, nameIndex := 715, descriptorIndex := 716, attributes := #[] }, { accessFlags := 26, nameIndex := 719, descriptorIndex := 716, attributes := #[] }, { accessFlags := 4120, nameIndex := 445, descriptorIndex := 117, attributes := #[] }])
  fields := #[{ name := "MIN_ARRAY_SORT_GRAN", type := .int, accessFlags := 26, slot := 0, constantValue := 0 }, { name := "INSERTIONSORT_THRESHOLD", type := .int, accessFlags := 26, slot := 1, constantValue := 0 }, { name := "$assertionsDisabled", type := .boolean, accessFlags := 4120, slot := 2, constantValue := 0 }]
  methods := #[k20m0, k20m1]
  instanceTypes := #[]
  staticTypes := #[.int, .int, .boolean]
  resolved := Array.replicate 1029 none
  statics := none }

def pool21 : Array CpInfo := pool [(2, .class_ 4), (1, u "java/lang/Object"), (0, u "<init>"), (0, u "()V"), (35, .class_ 44), (1, u "java/util/Objects"), (60, .methodref 106 107), (0, .class_ 108), (0, .nameAndType 109 110), (0, u "jdk/internal/util/Preconditions"), (0, u "checkIndex"), (0, u "(IILjava/util/function/BiFunction;)I"), (60, u "(II)I")] 12

def k21m0 : Method := { name := "<init>", desc := "()V", sig := { parameters := [], returnType := none }, accessFlags := 2, code := none }
def k21c1 : Code := { maxStack := 3, maxLocals := 2, code := jdk_31_method_17_code, exceptionTable := #[], attributes := #[] }
def k21m1 : Method := { name := "checkIndex", desc := "(II)I", sig := { parameters := [.int, .int], returnType := some .int }, accessFlags := 9, code := some k21c1 }
/-- java/util/Objects -/
def k21 : Class := { plain "java/util/Objects" (some 0) with
  accessFlags := 49
  interfaces := #[]
  cf := some (fileOf pool21 42 #[] #[{ accessFlags := 2, nameIndex := 5, descriptorIndex := 6, attributes := #[] }, { accessFlags := 9, nameIndex := 109, descriptorIndex := 171, attributes := #[] }] 49 2 #[] #[])
  fields := #[]
  methods := #[k21m0, k21m1]
  instanceTypes := #[]
  staticTypes := #[]
  resolved := Array.replicate 184 none
  statics := none }

def pool22 : Array CpInfo := pool [(2, .class_ 4), (1, u "java/lang/Object"), (0, u "<init>"), (0, u "()V"), (17, .class_ 26), (1, u "jdk/internal/util/Preconditions"), (6, u "checkIndex"), (21, .class_ 56), (0, u "jdk/internal/util/Preconditions$4"), (57, .class_ 115), (0, u "jdk/internal/util/Preconditions$1"), (7, u "SIOOBE_FORMATTER"), (0, u "Ljava/util/function/BiFunction;"), (0, .class_ 126), (0, u "jdk/internal/util/Preconditions$2"), (3, u "AIOOBE_FORMATTER"), (0, .class_ 132), (0, u "jdk/internal/util/Preconditions$3"), (3, u "IOOBE_FORMATTER"), (41, u "(IILjava/util/function/BiFunction;)I")] 15

def k22m0 : Method := { name := "<init>", desc := "()V", sig := { parameters := [], returnType := none }, accessFlags := 1, code := none }
def k22c1 : Code := { maxStack := 3, maxLocals := 3, code := jdk_41_method_11_code, exceptionTable := #[], attributes := #[] }
def k22m1 : Method := { name := "checkIndex", desc := "(IILjava/util/function/BiFunction;)I", sig := { parameters := [.int, .int, (.object "java/util/function/BiFunction")], returnType := some .int }, accessFlags := 9, code := some k22c1 }
/-- jdk/internal/util/Preconditions -/
def k22 : Class := { plain "jdk/internal/util/Preconditions" (some 0) with
  accessFlags := 33
  interfaces := #[]
  cf := some (fileOf pool22 24 #[.nestMembers #[55, 131, 125, 114]] #[{ accessFlags := 1, nameIndex := 5, descriptorIndex := 6, attributes := #[] }, { accessFlags := 9, nameIndex := 33, descriptorIndex := 178, attributes := #[] }] 33 2 #[] #[{ accessFlags := 25, nameIndex := 123, descriptorIndex := 124, attributes := #[] }, { accessFlags := 25, nameIndex := 130, descriptorIndex := 124, attributes := #[] }, { accessFlags := 25, nameIndex := 136, descriptorIndex := 124, attributes := #[] }])
  fields := #[{ name := "SIOOBE_FORMATTER", type := (.object "java/util/function/BiFunction"), accessFlags := 25, slot := 0, constantValue := 0 }, { name := "AIOOBE_FORMATTER", type := (.object "java/util/function/BiFunction"), accessFlags := 25, slot := 1, constantValue := 0 }, { name := "IOOBE_FORMATTER", type := (.object "java/util/function/BiFunction"), accessFlags := 25, slot := 2, constantValue := 0 }]
  methods := #[k22m0, k22m1]
  instanceTypes := #[]
  staticTypes := #[(.object "java/util/function/BiFunction"), (.object "java/util/function/BiFunction"), (.object "java/util/function/BiFunction")]
  resolved := Array.replicate 194 none
  statics := none }

def pool23 : Array CpInfo := pool [(9, u "test"), (6, .class_ 18), (1, u "java/util/function/IntPredicate"), (0, u "(I)Z"), (0, .class_ 21), (0, u "java/lang/Object")] 45

def k23m0 : Method := { name := "test", desc := "(I)Z", sig := { parameters := [.int], returnType := some .boolean }, accessFlags := 1025, code := none }
/-- java/util/function/IntPredicate -/
def k23 : Class := { plain "java/util/function/IntPredicate" (some 0) with
  accessFlags := 1537
  interfaces := #[]
  cf := some (fileOf pool23 16 #[] #[{ accessFlags := 1025, nameIndex := 9, descriptorIndex := 19, attributes := #[] }] 1537 20 #[] #[])
  fields := #[]
  methods := #[k23m0]
  instanceTypes := #[]
  staticTypes := #[]
  resolved := Array.replicate 67 none
  statics := none }

/-- the primitive boolean -/
def k24 : Class := { plain "boolean" none with kind := .primitive 'Z', accessFlags := 0x411 }
/-- [Z -/
def k25 : Class := { plain "[Z" (some 0) with kind := .array 24 .boolean, interfaces := #[9, 10], accessFlags := 1041 }

/-- the primitive byte -/
def k26 : Class := { plain "byte" none with kind := .primitive 'B', accessFlags := 0x411 }
/-- [B -/
def k27 : Class := { plain "[B" (some 0) with kind := .array 26 .byte, interfaces := #[9, 10], accessFlags := 1041 }

/-- [Ljava/lang/Integer; -/
def k28 : Class := { plain "[Ljava/lang/Integer;" (some 0) with kind := .array 16 (.object "java/lang/Integer"), interfaces := #[9, 10], accessFlags := 1041 }

/-- [Ljava/lang/Object; -/
def k29 : Class := { plain "[Ljava/lang/Object;" (some 0) with kind := .array 0 (.object "java/lang/Object"), interfaces := #[9, 10], accessFlags := 1041 }

def classes0 : Array Class := #[k0, k1, k2, k3, k4, k5, k6, k7, k8, k9, k10, k11, k12, k13, k14, k15, k16, k17, k18, k19, k20, k21, k22, k23, k24, k25, k26, k27, k28, k29]
/-- the class that the rule has made for the site at 2 of com/example/craterworks/craterworks/SharesStation.homeColumn -/
def k30 : Class := Jvm.LamKit.madeRec { classes := classes0 } "com/example/craterworks/craterworks/SharesStation" (Jvm.Lambda.Shape.mk "java/util/function/IntPredicate" "test" (Jvm.ClassFile.MethodDescriptor.mk ([Jvm.ClassFile.FieldType.int] : List Jvm.ClassFile.FieldType) (Option.some Jvm.ClassFile.FieldType.boolean)) ([(Jvm.ClassFile.FieldType.object "com/example/craterworks/craterworks/SharesStation")] : List Jvm.ClassFile.FieldType) (5 : Nat) "com/example/craterworks/craterworks/SharesStation" "hasRoom" (Jvm.ClassFile.MethodDescriptor.mk ([Jvm.ClassFile.FieldType.int] : List Jvm.ClassFile.FieldType) (Option.some Jvm.ClassFile.FieldType.boolean)) false (Jvm.ClassFile.MethodDescriptor.mk ([Jvm.ClassFile.FieldType.int] : List Jvm.ClassFile.FieldType) (Option.some Jvm.ClassFile.FieldType.boolean))) 30

/-- [[Z -/
def k31 : Class := { plain "[[Z" (some 0) with kind := .array 25 (.array .boolean), interfaces := #[9, 10], accessFlags := 1041 }

def heap : Heap := #[{ cls := 11, slots := #[.long 0, .int 0, .ref 259, .ref 260], vm := .statics 11 },
  { cls := 17, slots := #[.int 0, .int 127, .ref 2, .null, .int 0], vm := .statics 17 },
  { cls := 28, slots := #[.ref 3, .ref 4, .ref 5, .ref 6, .ref 7, .ref 8, .ref 9, .ref 10, .ref 11, .ref 12, .ref 13, .ref 14, .ref 15, .ref 16, .ref 17, .ref 18, .ref 19, .ref 20, .ref 21, .ref 22, .ref 23, .ref 24, .ref 25, .ref 26, .ref 27, .ref 28, .ref 29, .ref 30, .ref 31, .ref 32, .ref 33, .ref 34, .ref 35, .ref 36, .ref 37, .ref 38, .ref 39, .ref 40, .ref 41, .ref 42, .ref 43, .ref 44, .ref 45, .ref 46, .ref 47, .ref 48, .ref 49, .ref 50, .ref 51, .ref 52, .ref 53, .ref 54, .ref 55, .ref 56, .ref 57, .ref 58, .ref 59, .ref 60, .ref 61, .ref 62, .ref 63, .ref 64, .ref 65, .ref 66, .ref 67, .ref 68, .ref 69, .ref 70, .ref 71, .ref 72, .ref 73, .ref 74, .ref 75, .ref 76, .ref 77, .ref 78, .ref 79, .ref 80, .ref 81, .ref 82, .ref 83, .ref 84, .ref 85, .ref 86, .ref 87, .ref 88, .ref 89, .ref 90, .ref 91, .ref 92, .ref 93, .ref 94, .ref 95, .ref 96, .ref 97, .ref 98, .ref 99, .ref 100, .ref 101, .ref 102, .ref 103, .ref 104, .ref 105, .ref 106, .ref 107, .ref 108, .ref 109, .ref 110, .ref 111, .ref 112, .ref 113, .ref 114, .ref 115, .ref 116, .ref 117, .ref 118, .ref 119, .ref 120, .ref 121, .ref 122, .ref 123, .ref 124, .ref 125, .ref 126, .ref 127, .ref 128, .ref 129, .ref 130, .ref 131, .ref 132, .ref 133, .ref 134, .ref 135, .ref 136, .ref 137, .ref 138, .ref 139, .ref 140, .ref 141, .ref 142, .ref 143, .ref 144, .ref 145, .ref 146, .ref 147, .ref 148, .ref 149, .ref 150, .ref 151, .ref 152, .ref 153, .ref 154, .ref 155, .ref 156, .ref 157, .ref 158, .ref 159, .ref 160, .ref 161, .ref 162, .ref 163, .ref 164, .ref 165, .ref 166, .ref 167, .ref 168, .ref 169, .ref 170, .ref 171, .ref 172, .ref 173, .ref 174, .ref 175, .ref 176, .ref 177, .ref 178, .ref 179, .ref 180, .ref 181, .ref 182, .ref 183, .ref 184, .ref 185, .ref 186, .ref 187, .ref 188, .ref 189, .ref 190, .ref 191, .ref 192, .ref 193, .ref 194, .ref 195, .ref 196, .ref 197, .ref 198, .ref 199, .ref 200, .ref 201, .ref 202, .ref 203, .ref 204, .ref 205, .ref 206, .ref 207, .ref 208, .ref 209, .ref 210, .ref 211, .ref 212, .ref 213, .ref 214, .ref 215, .ref 216, .ref 217, .ref 218, .ref 219, .ref 220, .ref 221, .ref 222, .ref 223, .ref 224, .ref 225, .ref 226, .ref 227, .ref 228, .ref 229, .ref 230, .ref 231, .ref 232, .ref 233, .ref 234, .ref 235, .ref 236, .ref 237, .ref 238, .ref 239, .ref 240, .ref 241, .ref 242, .ref 243, .ref 244, .ref 245, .ref 246, .ref 247, .ref 248, .ref 249, .ref 250, .ref 251, .ref 252, .ref 253, .ref 254, .ref 255, .ref 256, .ref 257, .ref 258], vm := .none },
  { cls := 16, slots := #[.int (-128)], vm := .none },
  { cls := 16, slots := #[.int (-127)], vm := .none },
  { cls := 16, slots := #[.int (-126)], vm := .none },
  { cls := 16, slots := #[.int (-125)], vm := .none },
  { cls := 16, slots := #[.int (-124)], vm := .none },
  { cls := 16, slots := #[.int (-123)], vm := .none },
  { cls := 16, slots := #[.int (-122)], vm := .none },
  { cls := 16, slots := #[.int (-121)], vm := .none },
  { cls := 16, slots := #[.int (-120)], vm := .none },
  { cls := 16, slots := #[.int (-119)], vm := .none },
  { cls := 16, slots := #[.int (-118)], vm := .none },
  { cls := 16, slots := #[.int (-117)], vm := .none },
  { cls := 16, slots := #[.int (-116)], vm := .none },
  { cls := 16, slots := #[.int (-115)], vm := .none },
  { cls := 16, slots := #[.int (-114)], vm := .none },
  { cls := 16, slots := #[.int (-113)], vm := .none },
  { cls := 16, slots := #[.int (-112)], vm := .none },
  { cls := 16, slots := #[.int (-111)], vm := .none },
  { cls := 16, slots := #[.int (-110)], vm := .none },
  { cls := 16, slots := #[.int (-109)], vm := .none },
  { cls := 16, slots := #[.int (-108)], vm := .none },
  { cls := 16, slots := #[.int (-107)], vm := .none },
  { cls := 16, slots := #[.int (-106)], vm := .none },
  { cls := 16, slots := #[.int (-105)], vm := .none },
  { cls := 16, slots := #[.int (-104)], vm := .none },
  { cls := 16, slots := #[.int (-103)], vm := .none },
  { cls := 16, slots := #[.int (-102)], vm := .none },
  { cls := 16, slots := #[.int (-101)], vm := .none },
  { cls := 16, slots := #[.int (-100)], vm := .none },
  { cls := 16, slots := #[.int (-99)], vm := .none },
  { cls := 16, slots := #[.int (-98)], vm := .none },
  { cls := 16, slots := #[.int (-97)], vm := .none },
  { cls := 16, slots := #[.int (-96)], vm := .none },
  { cls := 16, slots := #[.int (-95)], vm := .none },
  { cls := 16, slots := #[.int (-94)], vm := .none },
  { cls := 16, slots := #[.int (-93)], vm := .none },
  { cls := 16, slots := #[.int (-92)], vm := .none },
  { cls := 16, slots := #[.int (-91)], vm := .none },
  { cls := 16, slots := #[.int (-90)], vm := .none },
  { cls := 16, slots := #[.int (-89)], vm := .none },
  { cls := 16, slots := #[.int (-88)], vm := .none },
  { cls := 16, slots := #[.int (-87)], vm := .none },
  { cls := 16, slots := #[.int (-86)], vm := .none },
  { cls := 16, slots := #[.int (-85)], vm := .none },
  { cls := 16, slots := #[.int (-84)], vm := .none },
  { cls := 16, slots := #[.int (-83)], vm := .none },
  { cls := 16, slots := #[.int (-82)], vm := .none },
  { cls := 16, slots := #[.int (-81)], vm := .none },
  { cls := 16, slots := #[.int (-80)], vm := .none },
  { cls := 16, slots := #[.int (-79)], vm := .none },
  { cls := 16, slots := #[.int (-78)], vm := .none },
  { cls := 16, slots := #[.int (-77)], vm := .none },
  { cls := 16, slots := #[.int (-76)], vm := .none },
  { cls := 16, slots := #[.int (-75)], vm := .none },
  { cls := 16, slots := #[.int (-74)], vm := .none },
  { cls := 16, slots := #[.int (-73)], vm := .none },
  { cls := 16, slots := #[.int (-72)], vm := .none },
  { cls := 16, slots := #[.int (-71)], vm := .none },
  { cls := 16, slots := #[.int (-70)], vm := .none },
  { cls := 16, slots := #[.int (-69)], vm := .none },
  { cls := 16, slots := #[.int (-68)], vm := .none },
  { cls := 16, slots := #[.int (-67)], vm := .none },
  { cls := 16, slots := #[.int (-66)], vm := .none },
  { cls := 16, slots := #[.int (-65)], vm := .none },
  { cls := 16, slots := #[.int (-64)], vm := .none },
  { cls := 16, slots := #[.int (-63)], vm := .none },
  { cls := 16, slots := #[.int (-62)], vm := .none },
  { cls := 16, slots := #[.int (-61)], vm := .none },
  { cls := 16, slots := #[.int (-60)], vm := .none },
  { cls := 16, slots := #[.int (-59)], vm := .none },
  { cls := 16, slots := #[.int (-58)], vm := .none },
  { cls := 16, slots := #[.int (-57)], vm := .none },
  { cls := 16, slots := #[.int (-56)], vm := .none },
  { cls := 16, slots := #[.int (-55)], vm := .none },
  { cls := 16, slots := #[.int (-54)], vm := .none },
  { cls := 16, slots := #[.int (-53)], vm := .none },
  { cls := 16, slots := #[.int (-52)], vm := .none },
  { cls := 16, slots := #[.int (-51)], vm := .none },
  { cls := 16, slots := #[.int (-50)], vm := .none },
  { cls := 16, slots := #[.int (-49)], vm := .none },
  { cls := 16, slots := #[.int (-48)], vm := .none },
  { cls := 16, slots := #[.int (-47)], vm := .none },
  { cls := 16, slots := #[.int (-46)], vm := .none },
  { cls := 16, slots := #[.int (-45)], vm := .none },
  { cls := 16, slots := #[.int (-44)], vm := .none },
  { cls := 16, slots := #[.int (-43)], vm := .none },
  { cls := 16, slots := #[.int (-42)], vm := .none },
  { cls := 16, slots := #[.int (-41)], vm := .none },
  { cls := 16, slots := #[.int (-40)], vm := .none },
  { cls := 16, slots := #[.int (-39)], vm := .none },
  { cls := 16, slots := #[.int (-38)], vm := .none },
  { cls := 16, slots := #[.int (-37)], vm := .none },
  { cls := 16, slots := #[.int (-36)], vm := .none },
  { cls := 16, slots := #[.int (-35)], vm := .none },
  { cls := 16, slots := #[.int (-34)], vm := .none },
  { cls := 16, slots := #[.int (-33)], vm := .none },
  { cls := 16, slots := #[.int (-32)], vm := .none },
  { cls := 16, slots := #[.int (-31)], vm := .none },
  { cls := 16, slots := #[.int (-30)], vm := .none },
  { cls := 16, slots := #[.int (-29)], vm := .none },
  { cls := 16, slots := #[.int (-28)], vm := .none },
  { cls := 16, slots := #[.int (-27)], vm := .none },
  { cls := 16, slots := #[.int (-26)], vm := .none },
  { cls := 16, slots := #[.int (-25)], vm := .none },
  { cls := 16, slots := #[.int (-24)], vm := .none },
  { cls := 16, slots := #[.int (-23)], vm := .none },
  { cls := 16, slots := #[.int (-22)], vm := .none },
  { cls := 16, slots := #[.int (-21)], vm := .none },
  { cls := 16, slots := #[.int (-20)], vm := .none },
  { cls := 16, slots := #[.int (-19)], vm := .none },
  { cls := 16, slots := #[.int (-18)], vm := .none },
  { cls := 16, slots := #[.int (-17)], vm := .none },
  { cls := 16, slots := #[.int (-16)], vm := .none },
  { cls := 16, slots := #[.int (-15)], vm := .none },
  { cls := 16, slots := #[.int (-14)], vm := .none },
  { cls := 16, slots := #[.int (-13)], vm := .none },
  { cls := 16, slots := #[.int (-12)], vm := .none },
  { cls := 16, slots := #[.int (-11)], vm := .none },
  { cls := 16, slots := #[.int (-10)], vm := .none },
  { cls := 16, slots := #[.int (-9)], vm := .none },
  { cls := 16, slots := #[.int (-8)], vm := .none },
  { cls := 16, slots := #[.int (-7)], vm := .none },
  { cls := 16, slots := #[.int (-6)], vm := .none },
  { cls := 16, slots := #[.int (-5)], vm := .none },
  { cls := 16, slots := #[.int (-4)], vm := .none },
  { cls := 16, slots := #[.int (-3)], vm := .none },
  { cls := 16, slots := #[.int (-2)], vm := .none },
  { cls := 16, slots := #[.int (-1)], vm := .none },
  { cls := 16, slots := #[.int 0], vm := .none },
  { cls := 16, slots := #[.int 1], vm := .none },
  { cls := 16, slots := #[.int 2], vm := .none },
  { cls := 16, slots := #[.int 3], vm := .none },
  { cls := 16, slots := #[.int 4], vm := .none },
  { cls := 16, slots := #[.int 5], vm := .none },
  { cls := 16, slots := #[.int 6], vm := .none },
  { cls := 16, slots := #[.int 7], vm := .none },
  { cls := 16, slots := #[.int 8], vm := .none },
  { cls := 16, slots := #[.int 9], vm := .none },
  { cls := 16, slots := #[.int 10], vm := .none },
  { cls := 16, slots := #[.int 11], vm := .none },
  { cls := 16, slots := #[.int 12], vm := .none },
  { cls := 16, slots := #[.int 13], vm := .none },
  { cls := 16, slots := #[.int 14], vm := .none },
  { cls := 16, slots := #[.int 15], vm := .none },
  { cls := 16, slots := #[.int 16], vm := .none },
  { cls := 16, slots := #[.int 17], vm := .none },
  { cls := 16, slots := #[.int 18], vm := .none },
  { cls := 16, slots := #[.int 19], vm := .none },
  { cls := 16, slots := #[.int 20], vm := .none },
  { cls := 16, slots := #[.int 21], vm := .none },
  { cls := 16, slots := #[.int 22], vm := .none },
  { cls := 16, slots := #[.int 23], vm := .none },
  { cls := 16, slots := #[.int 24], vm := .none },
  { cls := 16, slots := #[.int 25], vm := .none },
  { cls := 16, slots := #[.int 26], vm := .none },
  { cls := 16, slots := #[.int 27], vm := .none },
  { cls := 16, slots := #[.int 28], vm := .none },
  { cls := 16, slots := #[.int 29], vm := .none },
  { cls := 16, slots := #[.int 30], vm := .none },
  { cls := 16, slots := #[.int 31], vm := .none },
  { cls := 16, slots := #[.int 32], vm := .none },
  { cls := 16, slots := #[.int 33], vm := .none },
  { cls := 16, slots := #[.int 34], vm := .none },
  { cls := 16, slots := #[.int 35], vm := .none },
  { cls := 16, slots := #[.int 36], vm := .none },
  { cls := 16, slots := #[.int 37], vm := .none },
  { cls := 16, slots := #[.int 38], vm := .none },
  { cls := 16, slots := #[.int 39], vm := .none },
  { cls := 16, slots := #[.int 40], vm := .none },
  { cls := 16, slots := #[.int 41], vm := .none },
  { cls := 16, slots := #[.int 42], vm := .none },
  { cls := 16, slots := #[.int 43], vm := .none },
  { cls := 16, slots := #[.int 44], vm := .none },
  { cls := 16, slots := #[.int 45], vm := .none },
  { cls := 16, slots := #[.int 46], vm := .none },
  { cls := 16, slots := #[.int 47], vm := .none },
  { cls := 16, slots := #[.int 48], vm := .none },
  { cls := 16, slots := #[.int 49], vm := .none },
  { cls := 16, slots := #[.int 50], vm := .none },
  { cls := 16, slots := #[.int 51], vm := .none },
  { cls := 16, slots := #[.int 52], vm := .none },
  { cls := 16, slots := #[.int 53], vm := .none },
  { cls := 16, slots := #[.int 54], vm := .none },
  { cls := 16, slots := #[.int 55], vm := .none },
  { cls := 16, slots := #[.int 56], vm := .none },
  { cls := 16, slots := #[.int 57], vm := .none },
  { cls := 16, slots := #[.int 58], vm := .none },
  { cls := 16, slots := #[.int 59], vm := .none },
  { cls := 16, slots := #[.int 60], vm := .none },
  { cls := 16, slots := #[.int 61], vm := .none },
  { cls := 16, slots := #[.int 62], vm := .none },
  { cls := 16, slots := #[.int 63], vm := .none },
  { cls := 16, slots := #[.int 64], vm := .none },
  { cls := 16, slots := #[.int 65], vm := .none },
  { cls := 16, slots := #[.int 66], vm := .none },
  { cls := 16, slots := #[.int 67], vm := .none },
  { cls := 16, slots := #[.int 68], vm := .none },
  { cls := 16, slots := #[.int 69], vm := .none },
  { cls := 16, slots := #[.int 70], vm := .none },
  { cls := 16, slots := #[.int 71], vm := .none },
  { cls := 16, slots := #[.int 72], vm := .none },
  { cls := 16, slots := #[.int 73], vm := .none },
  { cls := 16, slots := #[.int 74], vm := .none },
  { cls := 16, slots := #[.int 75], vm := .none },
  { cls := 16, slots := #[.int 76], vm := .none },
  { cls := 16, slots := #[.int 77], vm := .none },
  { cls := 16, slots := #[.int 78], vm := .none },
  { cls := 16, slots := #[.int 79], vm := .none },
  { cls := 16, slots := #[.int 80], vm := .none },
  { cls := 16, slots := #[.int 81], vm := .none },
  { cls := 16, slots := #[.int 82], vm := .none },
  { cls := 16, slots := #[.int 83], vm := .none },
  { cls := 16, slots := #[.int 84], vm := .none },
  { cls := 16, slots := #[.int 85], vm := .none },
  { cls := 16, slots := #[.int 86], vm := .none },
  { cls := 16, slots := #[.int 87], vm := .none },
  { cls := 16, slots := #[.int 88], vm := .none },
  { cls := 16, slots := #[.int 89], vm := .none },
  { cls := 16, slots := #[.int 90], vm := .none },
  { cls := 16, slots := #[.int 91], vm := .none },
  { cls := 16, slots := #[.int 92], vm := .none },
  { cls := 16, slots := #[.int 93], vm := .none },
  { cls := 16, slots := #[.int 94], vm := .none },
  { cls := 16, slots := #[.int 95], vm := .none },
  { cls := 16, slots := #[.int 96], vm := .none },
  { cls := 16, slots := #[.int 97], vm := .none },
  { cls := 16, slots := #[.int 98], vm := .none },
  { cls := 16, slots := #[.int 99], vm := .none },
  { cls := 16, slots := #[.int 100], vm := .none },
  { cls := 16, slots := #[.int 101], vm := .none },
  { cls := 16, slots := #[.int 102], vm := .none },
  { cls := 16, slots := #[.int 103], vm := .none },
  { cls := 16, slots := #[.int 104], vm := .none },
  { cls := 16, slots := #[.int 105], vm := .none },
  { cls := 16, slots := #[.int 106], vm := .none },
  { cls := 16, slots := #[.int 107], vm := .none },
  { cls := 16, slots := #[.int 108], vm := .none },
  { cls := 16, slots := #[.int 109], vm := .none },
  { cls := 16, slots := #[.int 110], vm := .none },
  { cls := 16, slots := #[.int 111], vm := .none },
  { cls := 16, slots := #[.int 112], vm := .none },
  { cls := 16, slots := #[.int 113], vm := .none },
  { cls := 16, slots := #[.int 114], vm := .none },
  { cls := 16, slots := #[.int 115], vm := .none },
  { cls := 16, slots := #[.int 116], vm := .none },
  { cls := 16, slots := #[.int 117], vm := .none },
  { cls := 16, slots := #[.int 118], vm := .none },
  { cls := 16, slots := #[.int 119], vm := .none },
  { cls := 16, slots := #[.int 120], vm := .none },
  { cls := 16, slots := #[.int 121], vm := .none },
  { cls := 16, slots := #[.int 122], vm := .none },
  { cls := 16, slots := #[.int 123], vm := .none },
  { cls := 16, slots := #[.int 124], vm := .none },
  { cls := 16, slots := #[.int 125], vm := .none },
  { cls := 16, slots := #[.int 126], vm := .none },
  { cls := 16, slots := #[.int 127], vm := .none },
  { cls := 29, slots := #[], vm := .none },
  { cls := 29, slots := #[], vm := .none }]
def classes : Array Class := #[k0, k1, k2, k3, k4, k5, k6, k7, k8, k9, k10, k11, k12, k13, k14, k15, k16, k17, k18, k19, k20, k21, k22, k23, k24, k25, k26, k27, k28, k29, k30, k31]
def interned : List (Array UInt16 × Addr) := []
def slotsUsed : Nat := 521
def theMethod : MethodId := ⟨1, 2⟩
def args0 : Array Value := #[.int 1, .int 2, .int 0]
def aboutOver (below : List Frame) : State where
  vm := { classes := classes, interned := interned.toArray }
  heap := heap
  slotsUsed := slotsUsed
  threads := #[{ frames := .invoking theMethod args0 :: below }]
def below0 : List Frame := [.native { method := ⟨0, 0⟩, args := #[] }]
def about1 : State := aboutOver below0
def p0 : Program := .bare "" "" ""
def e0 : Env := launch0.env 0 0 0
theorem w_frames : about1.frames = Frame.invoking theMethod args0 :: below0 := rfl
set_option maxRecDepth 65536 in
theorem w_args : argsFit about1.vm theMethod args0 = true := by decide +kernel
set_option maxRecDepth 65536 in
theorem w_heap : heapFits about1 = true := by decide +kernel
set_option maxRecDepth 65536 in
theorem w_runnable : about1.curStatus? = some .runnable := by decide +kernel
set_option maxRecDepth 65536 in
theorem w_alone : about1.alone = true := by decide +kernel
set_option maxRecDepth 65536 in
theorem w_named : about1.methodNamed? x = some theMethod := by decide +kernel
set_option maxRecDepth 65536 in
theorem w_hears : about1.hears theMethod below0 = true := by decide +kernel
set_option maxRecDepth 65536 in
theorem w_ripe : about1.ripe theMethod args0 below0 = true := by decide +kernel
theorem w_running : about1.status = .running := rfl
set_option maxRecDepth 65536 in
theorem w_room : about1.hasRoom e0.platform room_1 = true :=
  launch0.hasRoom_least _ room_1 (by decide +kernel) (by decide +kernel) (by decide +kernel) (by decide +kernel) (by decide +kernel) (by decide +kernel)
theorem allAtoms_all (ts : List Jvm.Cond) (a : Array Jvm.Value) (st : Jvm.State) : (allAtoms ts).before a st = ts.all (fun c => c.before a st) := by
  induction ts with
  | nil => rfl
  | cons c t ih =>
    show (Jvm.Cond.and c (allAtoms t)).before a st = _
    rw [Jvm.Cond.before_and, ih, List.all_cons]
def words1 : List Jvm.Cond := Jvm.Cond.code x code maxLocals ret :: tables_1
/-- a 'code' word, met by the world's own term for the bytes: nothing is compared byte by byte -/
theorem code_word {y : MethodName} {bytes : ByteArray} {mx : Nat} {rt : Option FieldType} {a : Array Value} {s : State} {m : MethodId} {meth : Method} {c : Code} (h1 : s.methodNamed? y = some m) (h2 : s.vm.method? m = some meth) (h3 : meth.code = some c) (h4 : c.code = bytes)
    (h5 : (c.maxLocals == mx && c.exceptionTable.isEmpty && decide (c.maxStack ≤ mostOperands) && decide (meth.sig.returnType = rt) && !meth.locks && decide (parseMethodDescriptor y.desc = some meth.sig)) = true) : (Jvm.Cond.code y bytes mx rt).before a s = true := by
  simp only [Bool.and_eq_true, beq_iff_eq, Bool.not_eq_true', decide_eq_true_eq] at h5
  obtain ⟨⟨⟨⟨⟨g1, g2⟩, g3⟩, g4⟩, g5⟩, g6⟩ := h5
  simp [Cond.before, Cond.holds, Cond.value, h1, h2, h3, h4, g1, g2, g3, g4, g5, g6]
def isCode : Jvm.Cond → Bool
  | .code _ _ _ _ => true
  | _ => false
theorem all_split {L : List Jvm.Cond} {P : Jvm.Cond → Bool} (h1 : L.all (fun c => isCode c || P c) = true) (h2 : ∀ c ∈ L.filter isCode, P c = true) : L.all P = true := by
  refine List.all_eq_true.mpr fun c hc => ?_
  have h := List.all_eq_true.mp h1 c hc
  rcases Bool.eq_false_or_eq_true (isCode c) with hi | hi
  · exact h2 c (List.mem_filter.mpr ⟨hc, hi⟩)
  · simpa [hi] using h
set_option maxRecDepth 65536 in
theorem w_c0 : (Jvm.Cond.code x code maxLocals ret).before args0 about1 = true := code_word (m := ⟨1, 2⟩) (meth := k1m2) (c := k1c2) (by decide +kernel) rfl rfl rfl (by decide +kernel)
set_option maxRecDepth 65536 in
theorem w_c1 : (Jvm.Cond.code ({ cls := "java/util/ArrayList", name := "<init>", desc := "()V" } : Jvm.MethodName) jdk_38_method_2_code (1 : Nat) (Option.none : Option Jvm.ClassFile.FieldType)).before args0 about1 = true := code_word (m := ⟨11, 0⟩) (meth := k11m0) (c := k11c0) (by decide +kernel) rfl rfl rfl (by decide +kernel)
set_option maxRecDepth 65536 in
theorem w_c2 : (Jvm.Cond.code ({ cls := "java/util/AbstractList", name := "<init>", desc := "()V" } : Jvm.MethodName) jdk_39_method_1_code (1 : Nat) (Option.none : Option Jvm.ClassFile.FieldType)).before args0 about1 = true := code_word (m := ⟨7, 0⟩) (meth := k7m0) (c := k7c0) (by decide +kernel) rfl rfl rfl (by decide +kernel)
set_option maxRecDepth 65536 in
theorem w_c3 : (Jvm.Cond.code ({ cls := "java/util/AbstractCollection", name := "<init>", desc := "()V" } : Jvm.MethodName) jdk_22_method_1_code (1 : Nat) (Option.none : Option Jvm.ClassFile.FieldType)).before args0 about1 = true := code_word (m := ⟨4, 0⟩) (meth := k4m0) (c := k4c0) (by decide +kernel) rfl rfl rfl (by decide +kernel)
set_option maxRecDepth 65536 in
theorem w_c4 : (Jvm.Cond.code ({ cls := "java/lang/Object", name := "<init>", desc := "()V" } : Jvm.MethodName) object_method_1_code (1 : Nat) (Option.none : Option Jvm.ClassFile.FieldType)).before args0 about1 = true := code_word (m := ⟨0, 0⟩) (meth := k0m0) (c := k0c0) (by decide +kernel) rfl rfl rfl (by decide +kernel)
set_option maxRecDepth 65536 in
theorem w_c5 : (Jvm.Cond.code ({ cls := "com/example/craterworks/craterworks/SharesStationTakePinLaw", name := "column", desc := "(I)Ljava/util/List;" } : Jvm.MethodName) method_2_code (3 : Nat) (Option.some (Jvm.ClassFile.FieldType.object "java/util/List"))).before args0 about1 = true := code_word (m := ⟨1, 1⟩) (meth := k1m1) (c := k1c1) (by decide +kernel) rfl rfl rfl (by decide +kernel)
set_option maxRecDepth 65536 in
theorem w_c6 : (Jvm.Cond.code ({ cls := "java/lang/Integer", name := "valueOf", desc := "(I)Ljava/lang/Integer;" } : Jvm.MethodName) jdk_33_method_22_code (1 : Nat) (Option.some (Jvm.ClassFile.FieldType.object "java/lang/Integer"))).before args0 about1 = true := code_word (m := ⟨16, 0⟩) (meth := k16m0) (c := k16c0) (by decide +kernel) rfl rfl rfl (by decide +kernel)
set_option maxRecDepth 65536 in
theorem w_c7 : (Jvm.Cond.code ({ cls := "java/util/ArrayList", name := "add", desc := "(Ljava/lang/Object;)Z" } : Jvm.MethodName) jdk_38_method_25_code (2 : Nat) (Option.some Jvm.ClassFile.FieldType.boolean)).before args0 about1 = true := code_word (m := ⟨11, 6⟩) (meth := k11m6) (c := k11c6) (by decide +kernel) rfl rfl rfl (by decide +kernel)
set_option maxRecDepth 65536 in
theorem w_c8 : (Jvm.Cond.code ({ cls := "java/util/ArrayList", name := "add", desc := "(Ljava/lang/Object;[Ljava/lang/Object;I)V" } : Jvm.MethodName) jdk_38_method_24_code (4 : Nat) (Option.none : Option Jvm.ClassFile.FieldType)).before args0 about1 = true := code_word (m := ⟨11, 5⟩) (meth := k11m5) (c := k11c5) (by decide +kernel) rfl rfl rfl (by decide +kernel)
set_option maxRecDepth 65536 in
theorem w_c9 : (Jvm.Cond.code ({ cls := "java/util/ArrayList", name := "grow", desc := "()[Ljava/lang/Object;" } : Jvm.MethodName) jdk_38_method_7_code (1 : Nat) (Option.some (Jvm.ClassFile.FieldType.array (Jvm.ClassFile.FieldType.object "java/lang/Object")))).before args0 about1 = true := code_word (m := ⟨11, 2⟩) (meth := k11m2) (c := k11c2) (by decide +kernel) rfl rfl rfl (by decide +kernel)
set_option maxRecDepth 65536 in
theorem w_c10 : (Jvm.Cond.code ({ cls := "java/util/ArrayList", name := "grow", desc := "(I)[Ljava/lang/Object;" } : Jvm.MethodName) jdk_38_method_6_code (4 : Nat) (Option.some (Jvm.ClassFile.FieldType.array (Jvm.ClassFile.FieldType.object "java/lang/Object")))).before args0 about1 = true := code_word (m := ⟨11, 1⟩) (meth := k11m1) (c := k11c1) (by decide +kernel) rfl rfl rfl (by decide +kernel)
set_option maxRecDepth 65536 in
theorem w_c11 : (Jvm.Cond.code ({ cls := "java/lang/Math", name := "max", desc := "(II)I" } : Jvm.MethodName) jdk_29_method_65_code (2 : Nat) (Option.some Jvm.ClassFile.FieldType.int)).before args0 about1 = true := code_word (m := ⟨18, 1⟩) (meth := k18m1) (c := k18c1) (by decide +kernel) rfl rfl rfl (by decide +kernel)
set_option maxRecDepth 65536 in
theorem w_c12 : (Jvm.Cond.code ({ cls := "java/lang/Integer", name := "<init>", desc := "(I)V" } : Jvm.MethodName) jdk_33_method_23_code (2 : Nat) (Option.none : Option Jvm.ClassFile.FieldType)).before args0 about1 = true := code_word (m := ⟨16, 1⟩) (meth := k16m1) (c := k16c1) (by decide +kernel) rfl rfl rfl (by decide +kernel)
set_option maxRecDepth 65536 in
theorem w_c13 : (Jvm.Cond.code ({ cls := "java/lang/Number", name := "<init>", desc := "()V" } : Jvm.MethodName) jdk_18_method_1_code (1 : Nat) (Option.none : Option Jvm.ClassFile.FieldType)).before args0 about1 = true := code_word (m := ⟨12, 0⟩) (meth := k12m0) (c := k12c0) (by decide +kernel) rfl rfl rfl (by decide +kernel)
set_option maxRecDepth 65536 in
theorem w_c14 : (Jvm.Cond.code ({ cls := "com/example/craterworks/craterworks/SharesStation", name := "<init>", desc := "(Ljava/util/List;)V" } : Jvm.MethodName) prog_6_method_1_code (6 : Nat) (Option.none : Option Jvm.ClassFile.FieldType)).before args0 about1 = true := code_word (m := ⟨19, 0⟩) (meth := k19m0) (c := k19c0) (by decide +kernel) rfl rfl rfl (by decide +kernel)
set_option maxRecDepth 65536 in
theorem w_c15 : (Jvm.Cond.code ({ cls := "java/util/Arrays", name := "fill", desc := "([ZZ)V" } : Jvm.MethodName) jdk_65_method_111_code (4 : Nat) (Option.none : Option Jvm.ClassFile.FieldType)).before args0 about1 = true := code_word (m := ⟨20, 1⟩) (meth := k20m1) (c := k20c1) (by decide +kernel) rfl rfl rfl (by decide +kernel)
set_option maxRecDepth 65536 in
theorem w_c16 : (Jvm.Cond.code ({ cls := "com/example/craterworks/craterworks/SharesStation", name := "take", desc := "(I)V" } : Jvm.MethodName) prog_6_method_10_code (3 : Nat) (Option.none : Option Jvm.ClassFile.FieldType)).before args0 about1 = true := code_word (m := ⟨19, 5⟩) (meth := k19m5) (c := k19c5) (by decide +kernel) rfl rfl rfl (by decide +kernel)
set_option maxRecDepth 65536 in
theorem w_c17 : (Jvm.Cond.code ({ cls := "com/example/craterworks/craterworks/SharesStation", name := "visibleCoins", desc := "()I" } : Jvm.MethodName) prog_6_method_14_code (3 : Nat) (Option.some Jvm.ClassFile.FieldType.int)).before args0 about1 = true := code_word (m := ⟨19, 8⟩) (meth := k19m8) (c := k19c8) (by decide +kernel) rfl rfl rfl (by decide +kernel)
set_option maxRecDepth 65536 in
theorem w_c18 : (Jvm.Cond.code ({ cls := "com/example/craterworks/craterworks/SharesStation", name := "visibleCoins", desc := "(I)I" } : Jvm.MethodName) prog_6_method_15_code (4 : Nat) (Option.some Jvm.ClassFile.FieldType.int)).before args0 about1 = true := code_word (m := ⟨19, 9⟩) (meth := k19m9) (c := k19c9) (by decide +kernel) rfl rfl rfl (by decide +kernel)
set_option maxRecDepth 65536 in
theorem w_c19 : (Jvm.Cond.code ({ cls := "java/util/ArrayList", name := "get", desc := "(I)Ljava/lang/Object;" } : Jvm.MethodName) jdk_38_method_20_code (2 : Nat) (Option.some (Jvm.ClassFile.FieldType.object "java/lang/Object"))).before args0 about1 = true := code_word (m := ⟨11, 4⟩) (meth := k11m4) (c := k11c4) (by decide +kernel) rfl rfl rfl (by decide +kernel)
set_option maxRecDepth 65536 in
theorem w_c20 : (Jvm.Cond.code ({ cls := "java/util/Objects", name := "checkIndex", desc := "(II)I" } : Jvm.MethodName) jdk_31_method_17_code (2 : Nat) (Option.some Jvm.ClassFile.FieldType.int)).before args0 about1 = true := code_word (m := ⟨21, 1⟩) (meth := k21m1) (c := k21c1) (by decide +kernel) rfl rfl rfl (by decide +kernel)
set_option maxRecDepth 65536 in
theorem w_c21 : (Jvm.Cond.code ({ cls := "jdk/internal/util/Preconditions", name := "checkIndex", desc := "(IILjava/util/function/BiFunction;)I" } : Jvm.MethodName) jdk_41_method_11_code (3 : Nat) (Option.some Jvm.ClassFile.FieldType.int)).before args0 about1 = true := code_word (m := ⟨22, 1⟩) (meth := k22m1) (c := k22c1) (by decide +kernel) rfl rfl rfl (by decide +kernel)
set_option maxRecDepth 65536 in
theorem w_c22 : (Jvm.Cond.code ({ cls := "java/util/ArrayList", name := "elementData", desc := "(I)Ljava/lang/Object;" } : Jvm.MethodName) jdk_38_method_18_code (2 : Nat) (Option.some (Jvm.ClassFile.FieldType.object "java/lang/Object"))).before args0 about1 = true := code_word (m := ⟨11, 3⟩) (meth := k11m3) (c := k11c3) (by decide +kernel) rfl rfl rfl (by decide +kernel)
set_option maxRecDepth 65536 in
theorem w_c23 : (Jvm.Cond.code ({ cls := "java/lang/Integer", name := "intValue", desc := "()I" } : Jvm.MethodName) jdk_33_method_27_code (1 : Nat) (Option.some Jvm.ClassFile.FieldType.int)).before args0 about1 = true := code_word (m := ⟨16, 2⟩) (meth := k16m2) (c := k16c2) (by decide +kernel) rfl rfl rfl (by decide +kernel)
set_option maxRecDepth 65536 in
theorem w_c24 : (Jvm.Cond.code ({ cls := "com/example/craterworks/craterworks/SharesStation", name := "homeColumn", desc := "()I" } : Jvm.MethodName) prog_6_method_6_code (1 : Nat) (Option.some Jvm.ClassFile.FieldType.int)).before args0 about1 = true := code_word (m := ⟨19, 2⟩) (meth := k19m2) (c := k19c2) (by decide +kernel) rfl rfl rfl (by decide +kernel)
set_option maxRecDepth 65536 in
theorem w_c25 : (Jvm.Cond.code ({ cls := "com/example/craterworks/craterworks/SharesStation", name := "mainColumn", desc := "(Ljava/util/function/IntPredicate;)I" } : Jvm.MethodName) prog_6_method_7_code (6 : Nat) (Option.some Jvm.ClassFile.FieldType.int)).before args0 about1 = true := code_word (m := ⟨19, 3⟩) (meth := k19m3) (c := k19c3) (by decide +kernel) rfl rfl rfl (by decide +kernel)
set_option maxRecDepth 65536 in
theorem w_c26 : (Jvm.Cond.code ({ cls := "com/example/craterworks/craterworks/SharesStation", name := "hasRoom", desc := "(I)Z" } : Jvm.MethodName) prog_6_method_11_code (3 : Nat) (Option.some Jvm.ClassFile.FieldType.boolean)).before args0 about1 = true := code_word (m := ⟨19, 6⟩) (meth := k19m6) (c := k19c6) (by decide +kernel) rfl rfl rfl (by decide +kernel)
set_option maxRecDepth 65536 in
theorem w_c27 : (Jvm.Cond.code ({ cls := "com/example/craterworks/craterworks/SharesStation", name := "beats", desc := "(IIZ)Z" } : Jvm.MethodName) prog_6_method_8_code (5 : Nat) (Option.some Jvm.ClassFile.FieldType.boolean)).before args0 about1 = true := code_word (m := ⟨19, 4⟩) (meth := k19m4) (c := k19c4) (by decide +kernel) rfl rfl rfl (by decide +kernel)
set_option maxRecDepth 65536 in
theorem w_c28 : (Jvm.Cond.code ({ cls := "com/example/craterworks/craterworks/SharesStation", name := "emptyCells", desc := "(I)I" } : Jvm.MethodName) prog_6_method_4_code (7 : Nat) (Option.some Jvm.ClassFile.FieldType.int)).before args0 about1 = true := code_word (m := ⟨19, 1⟩) (meth := k19m1) (c := k19c1) (by decide +kernel) rfl rfl rfl (by decide +kernel)
set_option maxRecDepth 65536 in
theorem w_c29 : (Jvm.Cond.code ({ cls := "java/lang/Math", name := "min", desc := "(II)I" } : Jvm.MethodName) jdk_29_method_69_code (2 : Nat) (Option.some Jvm.ClassFile.FieldType.int)).before args0 about1 = true := code_word (m := ⟨18, 2⟩) (meth := k18m2) (c := k18c2) (by decide +kernel) rfl rfl rfl (by decide +kernel)
set_option maxRecDepth 65536 in
theorem w_c30 : (Jvm.Cond.code ({ cls := "com/example/craterworks/craterworks/SharesStation", name := "sendHome", desc := "(I)V" } : Jvm.MethodName) prog_6_method_12_code (3 : Nat) (Option.none : Option Jvm.ClassFile.FieldType)).before args0 about1 = true := code_word (m := ⟨19, 7⟩) (meth := k19m7) (c := k19c7) (by decide +kernel) rfl rfl rfl (by decide +kernel)
def codes1 : List Jvm.Cond := [Jvm.Cond.code x code maxLocals ret, Jvm.Cond.code ({ cls := "java/util/ArrayList", name := "<init>", desc := "()V" } : Jvm.MethodName) jdk_38_method_2_code (1 : Nat) (Option.none : Option Jvm.ClassFile.FieldType), Jvm.Cond.code ({ cls := "java/util/AbstractList", name := "<init>", desc := "()V" } : Jvm.MethodName) jdk_39_method_1_code (1 : Nat) (Option.none : Option Jvm.ClassFile.FieldType), Jvm.Cond.code ({ cls := "java/util/AbstractCollection", name := "<init>", desc := "()V" } : Jvm.MethodName) jdk_22_method_1_code (1 : Nat) (Option.none : Option Jvm.ClassFile.FieldType), Jvm.Cond.code ({ cls := "java/lang/Object", name := "<init>", desc := "()V" } : Jvm.MethodName) object_method_1_code (1 : Nat) (Option.none : Option Jvm.ClassFile.FieldType), Jvm.Cond.code ({ cls := "com/example/craterworks/craterworks/SharesStationTakePinLaw", name := "column", desc := "(I)Ljava/util/List;" } : Jvm.MethodName) method_2_code (3 : Nat) (Option.some (Jvm.ClassFile.FieldType.object "java/util/List")), Jvm.Cond.code ({ cls := "java/lang/Integer", name := "valueOf", desc := "(I)Ljava/lang/Integer;" } : Jvm.MethodName) jdk_33_method_22_code (1 : Nat) (Option.some (Jvm.ClassFile.FieldType.object "java/lang/Integer")), Jvm.Cond.code ({ cls := "java/util/ArrayList", name := "add", desc := "(Ljava/lang/Object;)Z" } : Jvm.MethodName) jdk_38_method_25_code (2 : Nat) (Option.some Jvm.ClassFile.FieldType.boolean), Jvm.Cond.code ({ cls := "java/util/ArrayList", name := "add", desc := "(Ljava/lang/Object;[Ljava/lang/Object;I)V" } : Jvm.MethodName) jdk_38_method_24_code (4 : Nat) (Option.none : Option Jvm.ClassFile.FieldType), Jvm.Cond.code ({ cls := "java/util/ArrayList", name := "grow", desc := "()[Ljava/lang/Object;" } : Jvm.MethodName) jdk_38_method_7_code (1 : Nat) (Option.some (Jvm.ClassFile.FieldType.array (Jvm.ClassFile.FieldType.object "java/lang/Object"))), Jvm.Cond.code ({ cls := "java/util/ArrayList", name := "grow", desc := "(I)[Ljava/lang/Object;" } : Jvm.MethodName) jdk_38_method_6_code (4 : Nat) (Option.some (Jvm.ClassFile.FieldType.array (Jvm.ClassFile.FieldType.object "java/lang/Object"))), Jvm.Cond.code ({ cls := "java/lang/Math", name := "max", desc := "(II)I" } : Jvm.MethodName) jdk_29_method_65_code (2 : Nat) (Option.some Jvm.ClassFile.FieldType.int), Jvm.Cond.code ({ cls := "java/lang/Integer", name := "<init>", desc := "(I)V" } : Jvm.MethodName) jdk_33_method_23_code (2 : Nat) (Option.none : Option Jvm.ClassFile.FieldType), Jvm.Cond.code ({ cls := "java/lang/Number", name := "<init>", desc := "()V" } : Jvm.MethodName) jdk_18_method_1_code (1 : Nat) (Option.none : Option Jvm.ClassFile.FieldType), Jvm.Cond.code ({ cls := "com/example/craterworks/craterworks/SharesStation", name := "<init>", desc := "(Ljava/util/List;)V" } : Jvm.MethodName) prog_6_method_1_code (6 : Nat) (Option.none : Option Jvm.ClassFile.FieldType), Jvm.Cond.code ({ cls := "java/util/Arrays", name := "fill", desc := "([ZZ)V" } : Jvm.MethodName) jdk_65_method_111_code (4 : Nat) (Option.none : Option Jvm.ClassFile.FieldType), Jvm.Cond.code ({ cls := "com/example/craterworks/craterworks/SharesStation", name := "take", desc := "(I)V" } : Jvm.MethodName) prog_6_method_10_code (3 : Nat) (Option.none : Option Jvm.ClassFile.FieldType), Jvm.Cond.code ({ cls := "com/example/craterworks/craterworks/SharesStation", name := "visibleCoins", desc := "()I" } : Jvm.MethodName) prog_6_method_14_code (3 : Nat) (Option.some Jvm.ClassFile.FieldType.int), Jvm.Cond.code ({ cls := "com/example/craterworks/craterworks/SharesStation", name := "visibleCoins", desc := "(I)I" } : Jvm.MethodName) prog_6_method_15_code (4 : Nat) (Option.some Jvm.ClassFile.FieldType.int), Jvm.Cond.code ({ cls := "java/util/ArrayList", name := "get", desc := "(I)Ljava/lang/Object;" } : Jvm.MethodName) jdk_38_method_20_code (2 : Nat) (Option.some (Jvm.ClassFile.FieldType.object "java/lang/Object")), Jvm.Cond.code ({ cls := "java/util/Objects", name := "checkIndex", desc := "(II)I" } : Jvm.MethodName) jdk_31_method_17_code (2 : Nat) (Option.some Jvm.ClassFile.FieldType.int), Jvm.Cond.code ({ cls := "jdk/internal/util/Preconditions", name := "checkIndex", desc := "(IILjava/util/function/BiFunction;)I" } : Jvm.MethodName) jdk_41_method_11_code (3 : Nat) (Option.some Jvm.ClassFile.FieldType.int), Jvm.Cond.code ({ cls := "java/util/ArrayList", name := "elementData", desc := "(I)Ljava/lang/Object;" } : Jvm.MethodName) jdk_38_method_18_code (2 : Nat) (Option.some (Jvm.ClassFile.FieldType.object "java/lang/Object")), Jvm.Cond.code ({ cls := "java/lang/Integer", name := "intValue", desc := "()I" } : Jvm.MethodName) jdk_33_method_27_code (1 : Nat) (Option.some Jvm.ClassFile.FieldType.int), Jvm.Cond.code ({ cls := "com/example/craterworks/craterworks/SharesStation", name := "homeColumn", desc := "()I" } : Jvm.MethodName) prog_6_method_6_code (1 : Nat) (Option.some Jvm.ClassFile.FieldType.int), Jvm.Cond.code ({ cls := "com/example/craterworks/craterworks/SharesStation", name := "mainColumn", desc := "(Ljava/util/function/IntPredicate;)I" } : Jvm.MethodName) prog_6_method_7_code (6 : Nat) (Option.some Jvm.ClassFile.FieldType.int), Jvm.Cond.code ({ cls := "com/example/craterworks/craterworks/SharesStation", name := "hasRoom", desc := "(I)Z" } : Jvm.MethodName) prog_6_method_11_code (3 : Nat) (Option.some Jvm.ClassFile.FieldType.boolean), Jvm.Cond.code ({ cls := "com/example/craterworks/craterworks/SharesStation", name := "beats", desc := "(IIZ)Z" } : Jvm.MethodName) prog_6_method_8_code (5 : Nat) (Option.some Jvm.ClassFile.FieldType.boolean), Jvm.Cond.code ({ cls := "com/example/craterworks/craterworks/SharesStation", name := "emptyCells", desc := "(I)I" } : Jvm.MethodName) prog_6_method_4_code (7 : Nat) (Option.some Jvm.ClassFile.FieldType.int), Jvm.Cond.code ({ cls := "java/lang/Math", name := "min", desc := "(II)I" } : Jvm.MethodName) jdk_29_method_69_code (2 : Nat) (Option.some Jvm.ClassFile.FieldType.int), Jvm.Cond.code ({ cls := "com/example/craterworks/craterworks/SharesStation", name := "sendHome", desc := "(I)V" } : Jvm.MethodName) prog_6_method_12_code (3 : Nat) (Option.none : Option Jvm.ClassFile.FieldType)]
set_option maxRecDepth 65536 in
theorem codes_eq : words1.filter isCode = codes1 := rfl
theorem w_codes : ∀ c ∈ words1.filter isCode, c.before args0 about1 = true := by
  rw [codes_eq]
  intro c hc
  simp only [codes1, List.mem_cons, List.not_mem_nil, or_false] at hc
  rcases hc with rfl | rfl | rfl | rfl | rfl | rfl | rfl | rfl | rfl | rfl | rfl | rfl | rfl | rfl | rfl | rfl | rfl | rfl | rfl | rfl | rfl | rfl | rfl | rfl | rfl | rfl | rfl | rfl | rfl | rfl | rfl
  · exact w_c0
  · exact w_c1
  · exact w_c2
  · exact w_c3
  · exact w_c4
  · exact w_c5
  · exact w_c6
  · exact w_c7
  · exact w_c8
  · exact w_c9
  · exact w_c10
  · exact w_c11
  · exact w_c12
  · exact w_c13
  · exact w_c14
  · exact w_c15
  · exact w_c16
  · exact w_c17
  · exact w_c18
  · exact w_c19
  · exact w_c20
  · exact w_c21
  · exact w_c22
  · exact w_c23
  · exact w_c24
  · exact w_c25
  · exact w_c26
  · exact w_c27
  · exact w_c28
  · exact w_c29
  · exact w_c30
set_option maxRecDepth 65536 in
theorem w_t1 : (words1.take 24).all (fun c => isCode c || c.before args0 about1) = true := by decide +kernel
set_option maxRecDepth 65536 in
theorem w_t2 : ((words1.drop 24).take 24).all (fun c => isCode c || c.before args0 about1) = true := by decide +kernel
set_option maxRecDepth 65536 in
theorem w_t3 : (((words1.drop 24).drop 24).take 24).all (fun c => isCode c || c.before args0 about1) = true := by decide +kernel
set_option maxRecDepth 65536 in
theorem w_t4 : ((((words1.drop 24).drop 24).drop 24).take 24).all (fun c => isCode c || c.before args0 about1) = true := by decide +kernel
set_option maxRecDepth 65536 in
theorem w_t5 : (((((words1.drop 24).drop 24).drop 24).drop 24).take 24).all (fun c => isCode c || c.before args0 about1) = true := by decide +kernel
set_option maxRecDepth 65536 in
theorem w_t6 : ((((((words1.drop 24).drop 24).drop 24).drop 24).drop 24).take 24).all (fun c => isCode c || c.before args0 about1) = true := by decide +kernel
set_option maxRecDepth 65536 in
theorem w_t7 : (((((((words1.drop 24).drop 24).drop 24).drop 24).drop 24).drop 24).take 24).all (fun c => isCode c || c.before args0 about1) = true := by decide +kernel
set_option maxRecDepth 65536 in
theorem w_t8 : ((((((((words1.drop 24).drop 24).drop 24).drop 24).drop 24).drop 24).drop 24).take 24).all (fun c => isCode c || c.before args0 about1) = true := by decide +kernel
set_option maxRecDepth 65536 in
theorem w_t9 : ((((((((words1.drop 24).drop 24).drop 24).drop 24).drop 24).drop 24).drop 24).drop 24).all (fun c => isCode c || c.before args0 about1) = true := by decide +kernel
theorem w_tables : (allAtoms (Jvm.Cond.code x code maxLocals ret :: tables_1)).before args0 about1 = true := by
  rw [allAtoms_all]
  show words1.all (fun c => c.before args0 about1) = true
  refine all_split ?_ w_codes
  rw [← List.take_append_drop 24 words1, List.all_append, w_t1, ← List.take_append_drop 24 (words1.drop 24), List.all_append, w_t2, ← List.take_append_drop 24 ((words1.drop 24).drop 24), List.all_append, w_t3, ← List.take_append_drop 24 (((words1.drop 24).drop 24).drop 24), List.all_append, w_t4, ← List.take_append_drop 24 ((((words1.drop 24).drop 24).drop 24).drop 24), List.all_append, w_t5, ← List.take_append_drop 24 (((((words1.drop 24).drop 24).drop 24).drop 24).drop 24), List.all_append, w_t6, ← List.take_append_drop 24 ((((((words1.drop 24).drop 24).drop 24).drop 24).drop 24).drop 24), List.all_append, w_t7, ← List.take_append_drop 24 (((((((words1.drop 24).drop 24).drop 24).drop 24).drop 24).drop 24).drop 24), List.all_append, w_t8, w_t9]
  rfl
set_option maxRecDepth 65536 in
theorem w_rest : rest_1_c.before args0 about1 = true := by decide +kernel
set_option maxRecDepth 65536 in
theorem w_case : (Jvm.Cond.and given_1 narrow_1).before args0 about1 = true := by decide +kernel
theorem w_applies : (headSpec (Jvm.Cond.code x code maxLocals ret :: tables_1) room_1).applies x e0.platform about1 = true :=
  (Spec.applies_iff w_frames).mpr ⟨w_running, w_runnable, w_alone, w_named, w_hears, w_ripe, w_room, w_tables⟩
theorem atStart : AtStart classFile x code maxLocals ret World_1 tables_1 room_1 Calls_1 rest_1 Pre_1 launch0 p0 e0 about1 theMethod args0 below0 :=
  ⟨lists_1, trivial, launch0.admits_env _ _ _, launch0.least_env, fairChoices_fair.cas, fairChoices_fair.clock, w_frames, w_args, w_heap, w_applies, trivial, w_rest, w_case⟩
end start1
theorem witness_1 : WitnessClaimed_1 := ⟨start1.p0, start1.e0, start1.about1, start1.theMethod, start1.args0, start1.below0, start1.atStart⟩
end Jvm.Pilot.@@N@@
