import JvmDerived
import JvmDerived.Pilot.@@N@@Statement
import JvmDerived.Pilot.@@N@@Code
set_option linter.unusedVariables false
set_option linter.unusedSimpArgs false
namespace Jvm.RoadKit
open Sem ClassFile Op Lib Jvm.Stand Jvm.Free Jvm.LawKit
section New
variable {p : Program} {l : Launch} {e : Env} {R : Room} {s : State} {m : MethodId} {args : Array Value} {below : List Frame} {meth : Method} {c : Code} {T : State} {locs : List Loc} {cells slots : Nat}
theorem retI (X : Stand p l e R s m args below meth c T locs cells slots) (hx : p.tables.exec = Jvm.exec) {pc : Nat} {Ls : Array Slot} {z : Int32} {rest : List Value} (hret : meth.sig.returnType = some .int) (hd : decode c.code pc = .ok (.ireturn, 1)) {fs : List Frame}
    (hl : ∀ (f : JFrame) (acts : List Action), f.method = m → f.locked = none → f.entered = [] → (doReturn e (T.setTop f) acts (some (.int z))).1 = T.setFrames fs) : Steps p.tables e below (T.setTop (mkF m pc Ls (.int z :: rest))) (T.setFrames fs) := by
  have hm' : T.vm.method? m = some meth := X.method'
  have hn : narrow .int (.int z) = .int z := rfl
  show Steps p.tables e below (T.setTop { method := m, pc := pc, locals := Ls, stack := _ :: rest, locked := none }) _
  jvm_step X.here [X.here.top, hx, hd, hm', hret, hn]
  first | (intro acts; rw [hl _ acts rfl rfl rfl]) | rw [hl _ _ rfl rfl rfl]
  exact Steps.refl _
end New
end Jvm.RoadKit
namespace Jvm.Pilot.@@N@@
open Jvm Jvm.ClassFile Sem Op Lib Jvm.Free Jvm.Stand Jvm.LawKit Jvm.RoadKit Bundle Jvm.Pilot.@@N@@.Jvm.D
/-! own: the rest of a run, told backwards; the contract of a body; steps and calls -/
section OwnBase
variable {p : Program} {l : Launch} {e : Env} {R : Room} {s : State} {m : MethodId} {args : Array Value} {below : List Frame} {meth : Method} {c : Code} {T : State} {locs : List Loc} {cells slots : Nat} {Z : State} {a0 : Array Value} {h : Heap} {bs : ByteArray} {pc q : Nat} {Ls : Array Slot} {S : List Value} {G : State → Prop}
abbrev PQ := Option Value → Heap → List Loc → Prop
def Cl (p : Program) (e : Env) (below : List Frame) (G : State → Prop) : Prop := ∀ (A B : State), (∀ t, Steps p.tables e below B t → Steps p.tables e below A t) → G B → G A
def Go (p : Program) (e : Env) (below : List Frame) (s : State) (C N : Nat) (Q : PQ) (A : State) : Prop :=
  ∃ s₂ o, Steps p.tables e below A s₂ ∧ s₂.status = .running ∧ Ended s₂ below o ∧ ∃ v L, o = .returned v ∧ Q v s₂.heap L ∧ FrameEnd s o s₂ L C N
theorem Go.cl {C N : Nat} {Q : PQ} : Cl p e below (Go p e below s C N Q) := fun A B k ⟨s2, o, h1, r⟩ => ⟨s2, o, k _ h1, r⟩
theorem Go.with {C N : Nat} {Q : PQ} {A : State} (k : Cl p e below (Go p e below s C N Q) → Go p e below s C N Q A) : Go p e below s C N Q A := k Go.cl
theorem Go.leave (X : Stand p l e R s m args below meth c T locs cells slots) {v : Option Value} (hv : meth.sig.returnType = none → v = none) (hlk : meth.locks = false) {C N : Nat} {Q : PQ} (hc : cells ≤ C) (hn : slots ≤ N) (q : Q v T.heap locs) {A : State}
    (k : ∀ fs, (∀ (f : JFrame) (acts : List Action), f.method = m → f.locked = none → f.entered = [] → (doReturn e (T.setTop f) acts v).1 = T.setFrames fs) → Steps p.tables e below A (T.setFrames fs)) : Go p e below s C N Q A := by
  obtain ⟨fs, hr, hrun, hended, hW, hsame⟩ := X.leave hv hlk
  exact ⟨_, _, k fs hr, hrun, hended, _, _, rfl, q, ⟨_, rfl⟩, hW, hsame.mono hc hn⟩
theorem Go.retI (X : Stand p l e R s m args below meth c T locs cells slots) (hx : p.tables.exec = Jvm.exec) (hby : c.code = bs) (hlk : meth.locks = false) {z : Int32} (hret : meth.sig.returnType = some .int) (hd : decode bs pc = .ok (.ireturn, 1)) {C N : Nat} {Q : PQ} (hc : cells ≤ C) (hn : slots ≤ N) (q : Q (some (.int z)) T.heap locs) :
    Go p e below s C N Q (T.setTop (mkF m pc Ls (.int z :: S))) :=
  Go.leave X (fun h => by rw [hret] at h; cases h) hlk hc hn q fun _ hr => Jvm.RoadKit.retI X hx hret (hb hby hd) hr
theorem Go.retN (X : Stand p l e R s m args below meth c T locs cells slots) (hx : p.tables.exec = Jvm.exec) (hby : c.code = bs) (hlk : meth.locks = false) {z : Int32} {t : FieldType} (hret : meth.sig.returnType = some t) (ht : t = .boolean ∨ t = .byte ∨ t = .char ∨ t = .short) (hd : decode bs pc = .ok (.ireturn, 1)) {C N : Nat} {Q : PQ} (hc : cells ≤ C) (hn : slots ≤ N) (hz : nar t z = z) (q : Q (some (.int z)) T.heap locs) :
    Go p e below s C N Q (T.setTop (mkF m pc Ls (.int z :: S))) :=
  Go.leave X (fun h => by rw [hret] at h; cases h) hlk hc hn q fun _ hr => Jvm.RoadKit.retN X hx hret ht (hb hby hd) (by rw [hz]; exact hr)
theorem Go.retV (X : Stand p l e R s m args below meth c T locs cells slots) (hx : p.tables.exec = Jvm.exec) (hby : c.code = bs) (hlk : meth.locks = false) (hret : meth.sig.returnType = none) (hd : decode bs pc = .ok (.return_, 1)) {C N : Nat} {Q : PQ} (hc : cells ≤ C) (hn : slots ≤ N) (q : Q none T.heap locs) :
    Go p e below s C N Q (T.setTop (mkF m pc Ls [])) :=
  Go.leave X (fun _ => rfl) hlk hc hn q fun _ hr => X.returnOut hx hret (hb hby hd) hr
theorem Go.retO (X : Stand p l e R s m args below meth c T locs cells slots) (hx : p.tables.exec = Jvm.exec) (hby : c.code = bs) (hlk : meth.locks = false) {w : Value} {t : FieldType} {i : Instr} (hret : meth.sig.returnType = some t) (hnw : narrow t w = w)
    (hi : (i = .ireturn ∧ (t = .int ∨ t = .boolean ∨ t = .byte ∨ t = .char ∨ t = .short) ∧ ∃ z, w = .int z) ∨ (i = .lreturn ∧ t = .long ∧ ∃ z, w = .long z) ∨ (i = .dreturn ∧ t = .double ∧ ∃ z, w = .double z) ∨ (i = .freturn ∧ t = .float ∧ ∃ z, w = .float z) ∨ (i = .areturn ∧ t.isReference = true ∧ w.isRef = true))
    (hd : decode bs pc = .ok (i, 1)) {C N : Nat} {Q : PQ} (hc : cells ≤ C) (hn : slots ≤ N) (q : Q (some w) T.heap locs) :
    Go p e below s C N Q (T.setTop (mkF m pc Ls (w :: S))) :=
  Go.leave X (fun h => by rw [hret] at h; cases h) hlk hc hn q fun _ hr => Jvm.RoadKit.retOut X hx hret hnw hi (hb hby hd) hr
/-- two roads meet: at a state like X's, at the heap h, with the frame g' -/
def Mx (X : Stand p l e R s m args below meth c T locs cells slots) (h : Heap) (g' : JFrame) (A : State) : Prop := ∃ T', Stand p l e R s m args below meth c T' locs cells slots ∧ T'.heap = h ∧ ∀ t, Steps p.tables e below (T'.setTop g') t → Steps p.tables e below A t
theorem Mx.cl {X : Stand p l e R s m args below meth c T locs cells slots} {g' : JFrame} : Cl p e below (Mx X h g') := fun A B k ⟨T', X', e', st⟩ => ⟨T', X', e', fun t r => k _ (st t r)⟩
theorem Mx.with {X : Stand p l e R s m args below meth c T locs cells slots} {g' : JFrame} {A : State} (k : Cl p e below (Mx X h g') → Mx X h g' A) : Mx X h g' A := k Mx.cl
theorem Mx.here {X : Stand p l e R s m args below meth c T locs cells slots} {g' : JFrame} {T' : State} (X' : Stand p l e R s m args below meth c T' locs cells slots) (e' : T'.heap = h) : Mx X h g' (T'.setTop g') := ⟨T', X', e', fun _ k => k⟩
theorem own_nar01 {z : Int32} (h : z = 0 ∨ z = 1) : nar .boolean z = z := by rcases h with rfl | rfl <;> rfl
theorem own_px (X : Stand p l e R s m args below meth c T (locs ++ []) (cells + 0) (slots + 0)) : Stand p l e R s m args below meth c T locs cells slots := by rw [List.append_nil] at X; exact X
theorem k_go (K : Cl p e below G) {A B : State} (st : ∀ t, Steps p.tables e below B t → Steps p.tables e below A t) (hr : G B) : G A := K A B st hr
theorem k_some (K : Cl p e below G) {w : Value} (hr : G (T.setTop (mkF m q Ls (w :: S)))) : G (T.setTop (mkF m q Ls ((some w).toList ++ S))) := hr
theorem k_none (K : Cl p e below G) (hr : G (T.setTop (mkF m q Ls S))) : G (T.setTop (mkF m q Ls ((none : Option Value).toList ++ S))) := hr
theorem own_irem (x y : Int32) : x - (x / y) * y = x % y := by
  apply Int32.toInt_inj.mp
  have h1 := Int32.le_toInt (x % y)
  have h2 := Int32.toInt_lt (x % y)
  rw [Int32.toInt_sub, Int32.toInt_mul, Int32.toInt_div, Int.bmod_mul_bmod, Int.sub_bmod_bmod, Int.mul_comm (x.toInt.tdiv y.toInt), ← Int.tmod_def, ← Int32.toInt_mod]
  exact Int.bmod_eq_of_le_mul_two (by omega) (by omega)
theorem m_iload (K : Cl p e below G) (h : At T m c below) (hx : p.tables.exec = Jvm.exec) (hby : c.code = bs) {k : Nat} {v : Int32} (hd : decode bs pc = .ok (.iload k, 2)) (hl : Ls[k]? = some (.val (.int v))) (hq : pc + 2 = q) (hr : G (T.setTop (mkF m q Ls (.int v :: S)))) : G (T.setTop (mkF m pc Ls S)) := by subst hq; exact K _ _ (fun t k => Jvm.Free.XS.iload h hx rfl (hb hby hd) hl k) hr
theorem m_iloadN (K : Cl p e below G) (h : At T m c below) (hx : p.tables.exec = Jvm.exec) (hby : c.code = bs) {k : Fin 4} {v : Int32} (hd : decode bs pc = .ok (.iload_n k, 1)) (hl : Ls[k.val]? = some (.val (.int v))) (hq : pc + 1 = q) (hr : G (T.setTop (mkF m q Ls (.int v :: S)))) : G (T.setTop (mkF m pc Ls S)) := by subst hq; exact K _ _ (fun t k => Jvm.Free.XS.iloadN h hx rfl (hb hby hd) hl k) hr
theorem m_istore (K : Cl p e below G) (h : At T m c below) (hx : p.tables.exec = Jvm.exec) (hby : c.code = bs) {k : Nat} {v : Int32} (l' : Array Slot) (hd : decode bs pc = .ok (.istore k, 2)) (hl : storeLocals Ls k (.int v) = some l') (hq : pc + 2 = q) (hr : G (T.setTop (mkF m q l' S))) : G (T.setTop (mkF m pc Ls (.int v :: S))) := by subst hq; exact K _ _ (fun t k => Jvm.Free.XS.istore h hx rfl (hb hby hd) rfl hl k) hr
theorem m_istoreN (K : Cl p e below G) (h : At T m c below) (hx : p.tables.exec = Jvm.exec) (hby : c.code = bs) {k : Fin 4} {v : Int32} (l' : Array Slot) (hd : decode bs pc = .ok (.istore_n k, 1)) (hl : storeLocals Ls k.val (.int v) = some l') (hq : pc + 1 = q) (hr : G (T.setTop (mkF m q l' S))) : G (T.setTop (mkF m pc Ls (.int v :: S))) := by subst hq; exact K _ _ (fun t k => Jvm.Free.XS.istoreN h hx rfl (hb hby hd) rfl hl k) hr
theorem m_lload (K : Cl p e below G) (h : At T m c below) (hx : p.tables.exec = Jvm.exec) (hby : c.code = bs) {k : Nat} {v : Int64} (hd : decode bs pc = .ok (.lload k, 2)) (hl : Ls[k]? = some (.val (.long v))) (hq : pc + 2 = q) (hr : G (T.setTop (mkF m q Ls (.long v :: S)))) : G (T.setTop (mkF m pc Ls S)) := by subst hq; exact K _ _ (fun t k => Jvm.Free.XS.lload h hx rfl (hb hby hd) hl k) hr
theorem m_lloadN (K : Cl p e below G) (h : At T m c below) (hx : p.tables.exec = Jvm.exec) (hby : c.code = bs) {k : Fin 4} {v : Int64} (hd : decode bs pc = .ok (.lload_n k, 1)) (hl : Ls[k.val]? = some (.val (.long v))) (hq : pc + 1 = q) (hr : G (T.setTop (mkF m q Ls (.long v :: S)))) : G (T.setTop (mkF m pc Ls S)) := by subst hq; exact K _ _ (fun t k => Jvm.Free.XS.lloadN h hx rfl (hb hby hd) hl k) hr
theorem m_lstore (K : Cl p e below G) (h : At T m c below) (hx : p.tables.exec = Jvm.exec) (hby : c.code = bs) {k : Nat} {v : Int64} (l' : Array Slot) (hd : decode bs pc = .ok (.lstore k, 2)) (hl : storeLocals Ls k (.long v) = some l') (hq : pc + 2 = q) (hr : G (T.setTop (mkF m q l' S))) : G (T.setTop (mkF m pc Ls (.long v :: S))) := by subst hq; exact K _ _ (fun t k => Jvm.Free.XS.lstore h hx rfl (hb hby hd) rfl hl k) hr
theorem m_lstoreN (K : Cl p e below G) (h : At T m c below) (hx : p.tables.exec = Jvm.exec) (hby : c.code = bs) {k : Fin 4} {v : Int64} (l' : Array Slot) (hd : decode bs pc = .ok (.lstore_n k, 1)) (hl : storeLocals Ls k.val (.long v) = some l') (hq : pc + 1 = q) (hr : G (T.setTop (mkF m q l' S))) : G (T.setTop (mkF m pc Ls (.long v :: S))) := by subst hq; exact K _ _ (fun t k => Jvm.Free.XS.lstoreN h hx rfl (hb hby hd) rfl hl k) hr
theorem m_dload (K : Cl p e below G) (h : At T m c below) (hx : p.tables.exec = Jvm.exec) (hby : c.code = bs) {k : Nat} {v : UInt64} (hd : decode bs pc = .ok (.dload k, 2)) (hl : Ls[k]? = some (.val (.double v))) (hq : pc + 2 = q) (hr : G (T.setTop (mkF m q Ls (.double v :: S)))) : G (T.setTop (mkF m pc Ls S)) := by subst hq; exact K _ _ (fun t k => Jvm.Free.XS.dload h hx rfl (hb hby hd) hl k) hr
theorem m_dloadN (K : Cl p e below G) (h : At T m c below) (hx : p.tables.exec = Jvm.exec) (hby : c.code = bs) {k : Fin 4} {v : UInt64} (hd : decode bs pc = .ok (.dload_n k, 1)) (hl : Ls[k.val]? = some (.val (.double v))) (hq : pc + 1 = q) (hr : G (T.setTop (mkF m q Ls (.double v :: S)))) : G (T.setTop (mkF m pc Ls S)) := by subst hq; exact K _ _ (fun t k => Jvm.Free.XS.dloadN h hx rfl (hb hby hd) hl k) hr
theorem m_dstore (K : Cl p e below G) (h : At T m c below) (hx : p.tables.exec = Jvm.exec) (hby : c.code = bs) {k : Nat} {v : UInt64} (l' : Array Slot) (hd : decode bs pc = .ok (.dstore k, 2)) (hl : storeLocals Ls k (.double v) = some l') (hq : pc + 2 = q) (hr : G (T.setTop (mkF m q l' S))) : G (T.setTop (mkF m pc Ls (.double v :: S))) := by subst hq; exact K _ _ (fun t k => Jvm.Free.XS.dstore h hx rfl (hb hby hd) rfl hl k) hr
theorem m_dstoreN (K : Cl p e below G) (h : At T m c below) (hx : p.tables.exec = Jvm.exec) (hby : c.code = bs) {k : Fin 4} {v : UInt64} (l' : Array Slot) (hd : decode bs pc = .ok (.dstore_n k, 1)) (hl : storeLocals Ls k.val (.double v) = some l') (hq : pc + 1 = q) (hr : G (T.setTop (mkF m q l' S))) : G (T.setTop (mkF m pc Ls (.double v :: S))) := by subst hq; exact K _ _ (fun t k => Jvm.Free.XS.dstoreN h hx rfl (hb hby hd) rfl hl k) hr
theorem m_aload (K : Cl p e below G) (h : At T m c below) (hx : p.tables.exec = Jvm.exec) (hby : c.code = bs) {k : Nat} {v : Value} (hd : decode bs pc = .ok (.aload k, 2)) (hl : Ls[k]? = some (.val v)) (hv : v.isRef = true) (hq : pc + 2 = q) (hr : G (T.setTop (mkF m q Ls (v :: S)))) : G (T.setTop (mkF m pc Ls S)) := by subst hq; exact K _ _ (fun t k => Jvm.Free.XS.aload h hx rfl (hb hby hd) hl hv k) hr
theorem m_aloadN (K : Cl p e below G) (h : At T m c below) (hx : p.tables.exec = Jvm.exec) (hby : c.code = bs) {k : Fin 4} {v : Value} (hd : decode bs pc = .ok (.aload_n k, 1)) (hl : Ls[k.val]? = some (.val v)) (hv : v.isRef = true) (hq : pc + 1 = q) (hr : G (T.setTop (mkF m q Ls (v :: S)))) : G (T.setTop (mkF m pc Ls S)) := by subst hq; exact K _ _ (fun t k => Jvm.Free.XS.aloadN h hx rfl (hb hby hd) hl hv k) hr
theorem m_astore (K : Cl p e below G) (h : At T m c below) (hx : p.tables.exec = Jvm.exec) (hby : c.code = bs) {k : Nat} {v : Value} (l' : Array Slot) (hd : decode bs pc = .ok (.astore k, 2)) (hv : v.isRef = true) (hl : storeLocals Ls k v = some l') (hq : pc + 2 = q) (hr : G (T.setTop (mkF m q l' S))) : G (T.setTop (mkF m pc Ls (v :: S))) := by subst hq; exact K _ _ (fun t k => Jvm.Free.XS.astore h hx rfl (hb hby hd) rfl hv hl k) hr
theorem m_astoreN (K : Cl p e below G) (h : At T m c below) (hx : p.tables.exec = Jvm.exec) (hby : c.code = bs) {k : Fin 4} {v : Value} (l' : Array Slot) (hd : decode bs pc = .ok (.astore_n k, 1)) (hv : v.isRef = true) (hl : storeLocals Ls k.val v = some l') (hq : pc + 1 = q) (hr : G (T.setTop (mkF m q l' S))) : G (T.setTop (mkF m pc Ls (v :: S))) := by subst hq; exact K _ _ (fun t k => Jvm.Free.XS.astoreN h hx rfl (hb hby hd) rfl hv hl k) hr
theorem m_iconst (K : Cl p e below G) (h : At T m c below) (hx : p.tables.exec = Jvm.exec) (hby : c.code = bs) {i : Int} (z : Int32) (hd : decode bs pc = .ok (.iconst i, 1)) (hz : Int32.ofInt i = z) (hq : pc + 1 = q) (hr : G (T.setTop (mkF m q Ls (.int z :: S)))) : G (T.setTop (mkF m pc Ls S)) := by subst hq; subst hz; exact K _ _ (fun t k => Jvm.Free.XS.iconst h hx rfl (hb hby hd) k) hr
theorem m_bipush (K : Cl p e below G) (h : At T m c below) (hx : p.tables.exec = Jvm.exec) (hby : c.code = bs) {i : Int} (z : Int32) (hd : decode bs pc = .ok (.bipush i, 2)) (hz : (Int8.ofInt i).toInt32 = z) (hq : pc + 2 = q) (hr : G (T.setTop (mkF m q Ls (.int z :: S)))) : G (T.setTop (mkF m pc Ls S)) := by subst hq; subst hz; exact K _ _ (fun t k => Jvm.Free.XS.bipush h hx rfl (hb hby hd) k) hr
theorem m_sipush (K : Cl p e below G) (h : At T m c below) (hx : p.tables.exec = Jvm.exec) (hby : c.code = bs) {i : Int} (z : Int32) (hd : decode bs pc = .ok (.sipush i, 3)) (hz : (Int16.ofInt i).toInt32 = z) (hq : pc + 3 = q) (hr : G (T.setTop (mkF m q Ls (.int z :: S)))) : G (T.setTop (mkF m pc Ls S)) := by subst hq; subst hz; exact K _ _ (fun t k => Jvm.Free.XS.sipush h hx rfl (hb hby hd) k) hr
theorem m_lconst (K : Cl p e below G) (h : At T m c below) (hx : p.tables.exec = Jvm.exec) (hby : c.code = bs) {k : Fin 2} (z : Int64) (hd : decode bs pc = .ok (.lconst k, 1)) (hz : Int64.ofNat k.val = z) (hq : pc + 1 = q) (hr : G (T.setTop (mkF m q Ls (.long z :: S)))) : G (T.setTop (mkF m pc Ls S)) := by subst hq; subst hz; exact K _ _ (fun t k => Jvm.Free.XS.lconst h hx rfl (hb hby hd) k) hr
theorem m_null (K : Cl p e below G) (h : At T m c below) (hx : p.tables.exec = Jvm.exec) (hby : c.code = bs)  (hd : decode bs pc = .ok (.aconst_null, 1)) (hq : pc + 1 = q) (hr : G (T.setTop (mkF m q Ls (.null :: S)))) : G (T.setTop (mkF m pc Ls S)) := by subst hq; exact K _ _ (fun t k => Jvm.Free.XS.aconstNull h hx rfl (hb hby hd) k) hr
theorem m_iadd (K : Cl p e below G) (h : At T m c below) (hx : p.tables.exec = Jvm.exec) (hby : c.code = bs) {x y : Int32} (z : Int32) (hd : decode bs pc = .ok (.iadd, 1)) (hz : x + y = z) (hq : pc + 1 = q) (hr : G (T.setTop (mkF m q Ls (.int z :: S)))) : G (T.setTop (mkF m pc Ls (.int y :: .int x :: S))) := by subst hq; subst hz; exact K _ _ (fun t k => Jvm.Free.XS.iadd h hx rfl (hb hby hd) rfl k) hr
theorem m_isub (K : Cl p e below G) (h : At T m c below) (hx : p.tables.exec = Jvm.exec) (hby : c.code = bs) {x y : Int32} (z : Int32) (hd : decode bs pc = .ok (.isub, 1)) (hz : x - y = z) (hq : pc + 1 = q) (hr : G (T.setTop (mkF m q Ls (.int z :: S)))) : G (T.setTop (mkF m pc Ls (.int y :: .int x :: S))) := by subst hq; subst hz; exact K _ _ (fun t k => Jvm.Free.XS.isub h hx rfl (hb hby hd) rfl k) hr
theorem m_imul (K : Cl p e below G) (h : At T m c below) (hx : p.tables.exec = Jvm.exec) (hby : c.code = bs) {x y : Int32} (z : Int32) (hd : decode bs pc = .ok (.imul, 1)) (hz : x * y = z) (hq : pc + 1 = q) (hr : G (T.setTop (mkF m q Ls (.int z :: S)))) : G (T.setTop (mkF m pc Ls (.int y :: .int x :: S))) := by subst hq; subst hz; exact K _ _ (fun t k => Jvm.Free.XS.imul h hx rfl (hb hby hd) rfl k) hr
theorem m_iand (K : Cl p e below G) (h : At T m c below) (hx : p.tables.exec = Jvm.exec) (hby : c.code = bs) {x y : Int32} (z : Int32) (hd : decode bs pc = .ok (.iand, 1)) (hz : x &&& y = z) (hq : pc + 1 = q) (hr : G (T.setTop (mkF m q Ls (.int z :: S)))) : G (T.setTop (mkF m pc Ls (.int y :: .int x :: S))) := by subst hq; subst hz; exact K _ _ (fun t k => Jvm.Free.XS.iand h hx rfl (hb hby hd) rfl k) hr
theorem m_ior (K : Cl p e below G) (h : At T m c below) (hx : p.tables.exec = Jvm.exec) (hby : c.code = bs) {x y : Int32} (z : Int32) (hd : decode bs pc = .ok (.ior, 1)) (hz : x ||| y = z) (hq : pc + 1 = q) (hr : G (T.setTop (mkF m q Ls (.int z :: S)))) : G (T.setTop (mkF m pc Ls (.int y :: .int x :: S))) := by subst hq; subst hz; exact K _ _ (fun t k => Jvm.Free.XS.ior h hx rfl (hb hby hd) rfl k) hr
theorem m_ixor (K : Cl p e below G) (h : At T m c below) (hx : p.tables.exec = Jvm.exec) (hby : c.code = bs) {x y : Int32} (z : Int32) (hd : decode bs pc = .ok (.ixor, 1)) (hz : x ^^^ y = z) (hq : pc + 1 = q) (hr : G (T.setTop (mkF m q Ls (.int z :: S)))) : G (T.setTop (mkF m pc Ls (.int y :: .int x :: S))) := by subst hq; subst hz; exact K _ _ (fun t k => Jvm.Free.XS.ixor h hx rfl (hb hby hd) rfl k) hr
theorem m_idiv (K : Cl p e below G) (h : At T m c below) (hx : p.tables.exec = Jvm.exec) (hby : c.code = bs) {x y : Int32} (z : Int32) (hd : decode bs pc = .ok (.idiv, 1)) (hy : y ≠ 0) (hz : x / y = z) (hq : pc + 1 = q) (hr : G (T.setTop (mkF m q Ls (.int z :: S)))) : G (T.setTop (mkF m pc Ls (.int y :: .int x :: S))) := by subst hq; subst hz; exact K _ _ (fun t k => Jvm.Free.XS.idiv h hx rfl (hb hby hd) rfl hy k) hr
theorem m_ladd (K : Cl p e below G) (h : At T m c below) (hx : p.tables.exec = Jvm.exec) (hby : c.code = bs) {x y : Int64} (z : Int64) (hd : decode bs pc = .ok (.ladd, 1)) (hz : x + y = z) (hq : pc + 1 = q) (hr : G (T.setTop (mkF m q Ls (.long z :: S)))) : G (T.setTop (mkF m pc Ls (.long y :: .long x :: S))) := by subst hq; subst hz; exact K _ _ (fun t k => Jvm.Free.XS.ladd h hx rfl (hb hby hd) rfl k) hr
theorem m_lsub (K : Cl p e below G) (h : At T m c below) (hx : p.tables.exec = Jvm.exec) (hby : c.code = bs) {x y : Int64} (z : Int64) (hd : decode bs pc = .ok (.lsub, 1)) (hz : x - y = z) (hq : pc + 1 = q) (hr : G (T.setTop (mkF m q Ls (.long z :: S)))) : G (T.setTop (mkF m pc Ls (.long y :: .long x :: S))) := by subst hq; subst hz; exact K _ _ (fun t k => Jvm.Free.XS.lsub h hx rfl (hb hby hd) rfl k) hr
theorem m_lmul (K : Cl p e below G) (h : At T m c below) (hx : p.tables.exec = Jvm.exec) (hby : c.code = bs) {x y : Int64} (z : Int64) (hd : decode bs pc = .ok (.lmul, 1)) (hz : x * y = z) (hq : pc + 1 = q) (hr : G (T.setTop (mkF m q Ls (.long z :: S)))) : G (T.setTop (mkF m pc Ls (.long y :: .long x :: S))) := by subst hq; subst hz; exact K _ _ (fun t k => Jvm.Free.XS.lmul h hx rfl (hb hby hd) rfl k) hr
theorem m_land (K : Cl p e below G) (h : At T m c below) (hx : p.tables.exec = Jvm.exec) (hby : c.code = bs) {x y : Int64} (z : Int64) (hd : decode bs pc = .ok (.land, 1)) (hz : x &&& y = z) (hq : pc + 1 = q) (hr : G (T.setTop (mkF m q Ls (.long z :: S)))) : G (T.setTop (mkF m pc Ls (.long y :: .long x :: S))) := by subst hq; subst hz; exact K _ _ (fun t k => Jvm.Free.XS.land h hx rfl (hb hby hd) rfl k) hr
theorem m_lor (K : Cl p e below G) (h : At T m c below) (hx : p.tables.exec = Jvm.exec) (hby : c.code = bs) {x y : Int64} (z : Int64) (hd : decode bs pc = .ok (.lor, 1)) (hz : x ||| y = z) (hq : pc + 1 = q) (hr : G (T.setTop (mkF m q Ls (.long z :: S)))) : G (T.setTop (mkF m pc Ls (.long y :: .long x :: S))) := by subst hq; subst hz; exact K _ _ (fun t k => Jvm.Free.XS.lor h hx rfl (hb hby hd) rfl k) hr
theorem m_lxor (K : Cl p e below G) (h : At T m c below) (hx : p.tables.exec = Jvm.exec) (hby : c.code = bs) {x y : Int64} (z : Int64) (hd : decode bs pc = .ok (.lxor, 1)) (hz : x ^^^ y = z) (hq : pc + 1 = q) (hr : G (T.setTop (mkF m q Ls (.long z :: S)))) : G (T.setTop (mkF m pc Ls (.long y :: .long x :: S))) := by subst hq; subst hz; exact K _ _ (fun t k => Jvm.Free.XS.lxor h hx rfl (hb hby hd) rfl k) hr
theorem m_ldiv (K : Cl p e below G) (h : At T m c below) (hx : p.tables.exec = Jvm.exec) (hby : c.code = bs) {x y : Int64} (z : Int64) (hd : decode bs pc = .ok (.ldiv, 1)) (hy : y ≠ 0) (hz : x / y = z) (hq : pc + 1 = q) (hr : G (T.setTop (mkF m q Ls (.long z :: S)))) : G (T.setTop (mkF m pc Ls (.long y :: .long x :: S))) := by subst hq; subst hz; exact K _ _ (fun t k => Jvm.Free.XS.ldiv h hx rfl (hb hby hd) rfl hy k) hr
theorem m_irem (K : Cl p e below G) (h : At T m c below) (hx : p.tables.exec = Jvm.exec) (hby : c.code = bs) {x y : Int32} (z : Int32) (hd : decode bs pc = .ok (.irem, 1)) (hy : y ≠ 0) (hz : x % y = z) (hq : pc + 1 = q) (hr : G (T.setTop (mkF m q Ls (.int z :: S)))) : G (T.setTop (mkF m pc Ls (.int y :: .int x :: S))) := by subst hq; subst hz; rw [← own_irem] at hr; exact K _ _ (fun t k => Jvm.Free.XS.irem h hx rfl (hb hby hd) rfl hy k) hr
theorem m_lrem (K : Cl p e below G) (h : At T m c below) (hx : p.tables.exec = Jvm.exec) (hby : c.code = bs) {x y : Int64} (z : Int64) (hd : decode bs pc = .ok (.lrem, 1)) (hy : y ≠ 0) (hz : x - (x / y) * y = z) (hq : pc + 1 = q) (hr : G (T.setTop (mkF m q Ls (.long z :: S)))) : G (T.setTop (mkF m pc Ls (.long y :: .long x :: S))) := by subst hq; subst hz; exact K _ _ (fun t k => Jvm.Free.XS.lrem h hx rfl (hb hby hd) rfl hy k) hr
theorem m_ishl (K : Cl p e below G) (h : At T m c below) (hx : p.tables.exec = Jvm.exec) (hby : c.code = bs) {x : Int32} {y : Int32} (z : Int32) (hd : decode bs pc = .ok (.ishl, 1)) (hz : x <<< (y &&& 31) = z) (hq : pc + 1 = q) (hr : G (T.setTop (mkF m q Ls (.int z :: S)))) : G (T.setTop (mkF m pc Ls (.int y :: .int x :: S))) := by subst hq; subst hz; exact K _ _ (fun t k => Jvm.Free.XS.ishl h hx rfl (hb hby hd) rfl k) hr
theorem m_ishr (K : Cl p e below G) (h : At T m c below) (hx : p.tables.exec = Jvm.exec) (hby : c.code = bs) {x : Int32} {y : Int32} (z : Int32) (hd : decode bs pc = .ok (.ishr, 1)) (hz : x >>> (y &&& 31) = z) (hq : pc + 1 = q) (hr : G (T.setTop (mkF m q Ls (.int z :: S)))) : G (T.setTop (mkF m pc Ls (.int y :: .int x :: S))) := by subst hq; subst hz; exact K _ _ (fun t k => Jvm.Free.XS.ishr h hx rfl (hb hby hd) rfl k) hr
theorem m_iushr (K : Cl p e below G) (h : At T m c below) (hx : p.tables.exec = Jvm.exec) (hby : c.code = bs) {x : Int32} {y : Int32} (z : Int32) (hd : decode bs pc = .ok (.iushr, 1)) (hz : (x.toUInt32 >>> (y &&& 31).toUInt32).toInt32 = z) (hq : pc + 1 = q) (hr : G (T.setTop (mkF m q Ls (.int z :: S)))) : G (T.setTop (mkF m pc Ls (.int y :: .int x :: S))) := by subst hq; subst hz; exact K _ _ (fun t k => Jvm.Free.XS.iushr h hx rfl (hb hby hd) rfl k) hr
theorem m_lshl (K : Cl p e below G) (h : At T m c below) (hx : p.tables.exec = Jvm.exec) (hby : c.code = bs) {x : Int64} {y : Int32} (z : Int64) (hd : decode bs pc = .ok (.lshl, 1)) (hz : x <<< (y &&& 0x3f).toInt64 = z) (hq : pc + 1 = q) (hr : G (T.setTop (mkF m q Ls (.long z :: S)))) : G (T.setTop (mkF m pc Ls (.int y :: .long x :: S))) := by subst hq; subst hz; exact K _ _ (fun t k => Jvm.Free.XS.lshl h hx rfl (hb hby hd) rfl k) hr
theorem m_lshr (K : Cl p e below G) (h : At T m c below) (hx : p.tables.exec = Jvm.exec) (hby : c.code = bs) {x : Int64} {y : Int32} (z : Int64) (hd : decode bs pc = .ok (.lshr, 1)) (hz : x >>> (y &&& 0x3f).toInt64 = z) (hq : pc + 1 = q) (hr : G (T.setTop (mkF m q Ls (.long z :: S)))) : G (T.setTop (mkF m pc Ls (.int y :: .long x :: S))) := by subst hq; subst hz; exact K _ _ (fun t k => Jvm.Free.XS.lshr h hx rfl (hb hby hd) rfl k) hr
theorem m_lushr (K : Cl p e below G) (h : At T m c below) (hx : p.tables.exec = Jvm.exec) (hby : c.code = bs) {x : Int64} {y : Int32} (z : Int64) (hd : decode bs pc = .ok (.lushr, 1)) (hz : (x.toUInt64 >>> (y &&& 0x3f).toInt64.toUInt64).toInt64 = z) (hq : pc + 1 = q) (hr : G (T.setTop (mkF m q Ls (.long z :: S)))) : G (T.setTop (mkF m pc Ls (.int y :: .long x :: S))) := by subst hq; subst hz; exact K _ _ (fun t k => Jvm.Free.XS.lushr h hx rfl (hb hby hd) rfl k) hr
theorem m_ineg (K : Cl p e below G) (h : At T m c below) (hx : p.tables.exec = Jvm.exec) (hby : c.code = bs) {x : Int32} (z : Int32) (hd : decode bs pc = .ok (.ineg, 1)) (hz : -x = z) (hq : pc + 1 = q) (hr : G (T.setTop (mkF m q Ls (.int z :: S)))) : G (T.setTop (mkF m pc Ls (.int x :: S))) := by subst hq; subst hz; exact K _ _ (fun t k => Jvm.Free.XS.ineg h hx rfl (hb hby hd) rfl k) hr
theorem m_lneg (K : Cl p e below G) (h : At T m c below) (hx : p.tables.exec = Jvm.exec) (hby : c.code = bs) {x : Int64} (z : Int64) (hd : decode bs pc = .ok (.lneg, 1)) (hz : -x = z) (hq : pc + 1 = q) (hr : G (T.setTop (mkF m q Ls (.long z :: S)))) : G (T.setTop (mkF m pc Ls (.long x :: S))) := by subst hq; subst hz; exact K _ _ (fun t k => Jvm.Free.XS.lneg h hx rfl (hb hby hd) rfl k) hr
theorem m_i2l (K : Cl p e below G) (h : At T m c below) (hx : p.tables.exec = Jvm.exec) (hby : c.code = bs) {x : Int32} (z : Int64) (hd : decode bs pc = .ok (.i2l, 1)) (hz : x.toInt64 = z) (hq : pc + 1 = q) (hr : G (T.setTop (mkF m q Ls (.long z :: S)))) : G (T.setTop (mkF m pc Ls (.int x :: S))) := by subst hq; subst hz; exact K _ _ (fun t k => Jvm.Free.XS.i2l h hx rfl (hb hby hd) rfl k) hr
theorem m_l2i (K : Cl p e below G) (h : At T m c below) (hx : p.tables.exec = Jvm.exec) (hby : c.code = bs) {x : Int64} (z : Int32) (hd : decode bs pc = .ok (.l2i, 1)) (hz : x.toInt32 = z) (hq : pc + 1 = q) (hr : G (T.setTop (mkF m q Ls (.int z :: S)))) : G (T.setTop (mkF m pc Ls (.long x :: S))) := by subst hq; subst hz; exact K _ _ (fun t k => Jvm.Free.XS.l2i h hx rfl (hb hby hd) rfl k) hr
theorem m_i2b (K : Cl p e below G) (h : At T m c below) (hx : p.tables.exec = Jvm.exec) (hby : c.code = bs) {x : Int32} (z : Int32) (hd : decode bs pc = .ok (.i2b, 1)) (hz : x.toInt8.toInt32 = z) (hq : pc + 1 = q) (hr : G (T.setTop (mkF m q Ls (.int z :: S)))) : G (T.setTop (mkF m pc Ls (.int x :: S))) := by subst hq; subst hz; exact K _ _ (fun t k => Jvm.Free.XS.i2b h hx rfl (hb hby hd) rfl k) hr
theorem m_i2s (K : Cl p e below G) (h : At T m c below) (hx : p.tables.exec = Jvm.exec) (hby : c.code = bs) {x : Int32} (z : Int32) (hd : decode bs pc = .ok (.i2s, 1)) (hz : x.toInt16.toInt32 = z) (hq : pc + 1 = q) (hr : G (T.setTop (mkF m q Ls (.int z :: S)))) : G (T.setTop (mkF m pc Ls (.int x :: S))) := by subst hq; subst hz; exact K _ _ (fun t k => Jvm.Free.XS.i2s h hx rfl (hb hby hd) rfl k) hr
theorem m_i2c (K : Cl p e below G) (h : At T m c below) (hx : p.tables.exec = Jvm.exec) (hby : c.code = bs) {x : Int32} (z : Int32) (hd : decode bs pc = .ok (.i2c, 1)) (hz : x.toUInt32.toUInt16.toUInt32.toInt32 = z) (hq : pc + 1 = q) (hr : G (T.setTop (mkF m q Ls (.int z :: S)))) : G (T.setTop (mkF m pc Ls (.int x :: S))) := by subst hq; subst hz; exact K _ _ (fun t k => Jvm.Free.XS.i2c h hx rfl (hb hby hd) rfl k) hr
theorem m_lcmp (K : Cl p e below G) (h : At T m c below) (hx : p.tables.exec = Jvm.exec) (hby : c.code = bs) {x y : Int64} (z : Int32) (hd : decode bs pc = .ok (.lcmp, 1)) (hz : lcmpW x y = z) (hq : pc + 1 = q) (hr : G (T.setTop (mkF m q Ls (.int z :: S)))) : G (T.setTop (mkF m pc Ls (.long y :: .long x :: S))) := by subst hq; subst hz; exact K _ _ (fun t k => Jvm.Free.XS.lcmp h hx rfl (hb hby hd) rfl k) hr
theorem m_iinc (K : Cl p e below G) (h : At T m c below) (hx : p.tables.exec = Jvm.exec) (hby : c.code = bs) {k : Nat} {i : Int} {x : Int32} (l' : Array Slot) (hd : decode bs pc = .ok (.iinc k i, 3)) (hl : Ls[k]? = some (.val (.int x))) (hl' : storeLocals Ls k (.int (x + Int32.ofInt i)) = some l') (hq : pc + 3 = q) (hr : G (T.setTop (mkF m q l' S))) : G (T.setTop (mkF m pc Ls S)) := by subst hq; exact K _ _ (fun t k => Jvm.Free.XS.iinc h hx rfl (hb hby hd) hl hl' k) hr
theorem m_dup (K : Cl p e below G) (h : At T m c below) (hx : p.tables.exec = Jvm.exec) (hby : c.code = bs) {v : Value} (hd : decode bs pc = .ok (.dup, 1)) (hv : v.category = 1) (hq : pc + 1 = q) (hr : G (T.setTop (mkF m q Ls (v :: v :: S)))) : G (T.setTop (mkF m pc Ls (v :: S))) := by subst hq; exact K _ _ (fun t k => Jvm.Free.XS.dup h hx rfl (hb hby hd) rfl hv k) hr
theorem m_dupX1 (K : Cl p e below G) (h : At T m c below) (hx : p.tables.exec = Jvm.exec) (hby : c.code = bs) {v w : Value} (hd : decode bs pc = .ok (.dup_x1, 1)) (hv : v.category = 1) (hw : w.category = 1) (hq : pc + 1 = q) (hr : G (T.setTop (mkF m q Ls (v :: w :: v :: S)))) : G (T.setTop (mkF m pc Ls (v :: w :: S))) := by subst hq; exact K _ _ (fun t k => Jvm.Free.XS.dupX1 h hx rfl (hb hby hd) rfl hv hw k) hr
theorem m_dup2 (K : Cl p e below G) (h : At T m c below) (hx : p.tables.exec = Jvm.exec) (hby : c.code = bs) {v w : Value} (hd : decode bs pc = .ok (.dup2, 1)) (hv : v.category = 1) (hw : w.category = 1) (hq : pc + 1 = q) (hr : G (T.setTop (mkF m q Ls (v :: w :: v :: w :: S)))) : G (T.setTop (mkF m pc Ls (v :: w :: S))) := by subst hq; refine K _ _ (fun t k => ?_) hr; cases v <;> cases w <;> simp [Value.category] at hv hw <;> (jvm_step h [h.top, hx, hb hby hd, Value.category]; exact k)
theorem m_dup2L (K : Cl p e below G) (h : At T m c below) (hx : p.tables.exec = Jvm.exec) (hby : c.code = bs) {v : Int64} (hd : decode bs pc = .ok (.dup2, 1)) (hq : pc + 1 = q) (hr : G (T.setTop (mkF m q Ls (.long v :: .long v :: S)))) : G (T.setTop (mkF m pc Ls (.long v :: S))) := by subst hq; refine K _ _ (fun t k => ?_) hr; jvm_step h [h.top, hx, hb hby hd, Value.category]; exact k
theorem m_pop (K : Cl p e below G) (h : At T m c below) (hx : p.tables.exec = Jvm.exec) (hby : c.code = bs) {v : Value} (hd : decode bs pc = .ok (.pop, 1)) (hv : v.category = 1) (hq : pc + 1 = q) (hr : G (T.setTop (mkF m q Ls S))) : G (T.setTop (mkF m pc Ls (v :: S))) := by subst hq; exact K _ _ (fun t k => Jvm.Free.XS.pop h hx rfl (hb hby hd) rfl hv k) hr
theorem m_l2d (K : Cl p e below G) (h : At T m c below) (hx : p.tables.exec = Jvm.exec) (hby : c.code = bs) {x : Int64} (v : UInt64) (hd : decode bs pc = .ok (.l2d, 1)) (hv : FP.l2d x = v) (hq : pc + 1 = q) (hr : G (T.setTop (mkF m q Ls (.double v :: S)))) : G (T.setTop (mkF m pc Ls (.long x :: S))) := by subst hq; exact K _ _ (fun t k => Jvm.Free.XS.l2dS h hx rfl (hb hby hd) rfl hv k) hr
theorem m_i2d (K : Cl p e below G) (h : At T m c below) (hx : p.tables.exec = Jvm.exec) (hby : c.code = bs) {x : Int32} (v : UInt64) (hd : decode bs pc = .ok (.i2d, 1)) (hv : FP.i2d x = v) (hq : pc + 1 = q) (hr : G (T.setTop (mkF m q Ls (.double v :: S)))) : G (T.setTop (mkF m pc Ls (.int x :: S))) := by subst hq; exact K _ _ (fun t k => Jvm.Free.XS.i2dS h hx rfl (hb hby hd) rfl hv k) hr
theorem m_dconst0 (K : Cl p e below G) (h : At T m c below) (hx : p.tables.exec = Jvm.exec) (hby : c.code = bs) (v : UInt64) (hd : decode bs pc = .ok (.dconst 0, 1)) (hv : FP.dconst0 = v) (hq : pc + 1 = q) (hr : G (T.setTop (mkF m q Ls (.double v :: S)))) : G (T.setTop (mkF m pc Ls S)) := by subst hq; exact K _ _ (fun t k => Jvm.Free.XS.dconst0 h hx rfl (hb hby hd) hv k) hr
theorem m_dneg (K : Cl p e below G) (h : At T m c below) (hx : p.tables.exec = Jvm.exec) (hby : c.code = bs) {x : UInt64} (v : UInt64) (hd : decode bs pc = .ok (.dneg, 1)) (hv : FP.dneg x = v) (hq : pc + 1 = q) (hr : G (T.setTop (mkF m q Ls (.double v :: S)))) : G (T.setTop (mkF m pc Ls (.double x :: S))) := by subst hq; exact K _ _ (fun t k => Jvm.Free.XS.dnegS h hx rfl (hb hby hd) rfl hv k) hr
theorem m_dcmp (K : Cl p e below G) (h : At T m c below) (hx : p.tables.exec = Jvm.exec) (hby : c.code = bs) {o : CmpOp} {x y : UInt64} (v : Int32) (hd : decode bs pc = .ok (.dcmp o, 1)) (hv : cmpValue (FP.dcmp x y) o = v) (hq : pc + 1 = q) (hr : G (T.setTop (mkF m q Ls (.int v :: S)))) : G (T.setTop (mkF m pc Ls (.double y :: .double x :: S))) := by subst hq; exact K _ _ (fun t k => Jvm.Free.XS.dcmpS h hx rfl (hb hby hd) rfl hv k) hr
theorem m_dadd (K : Cl p e below G) (h : At T m c below) (hx : p.tables.exec = Jvm.exec) (hby : c.code = bs) {x y : UInt64} (v : UInt64) (hd : decode bs pc = .ok (.dadd, 1)) (hn : Jvm.Free.Fl.NoNaN64 (FP.dadd x y)) (hv : FP.dadd x y = v) (hq : pc + 1 = q) (hr : G (T.setTop (mkF m q Ls (.double v :: S)))) : G (T.setTop (mkF m pc Ls (.double y :: .double x :: S))) := by subst hq; exact K _ _ (fun t k => Jvm.Free.XS.daddS h hx rfl (hb hby hd) rfl hn hv k) hr
theorem m_dsub (K : Cl p e below G) (h : At T m c below) (hx : p.tables.exec = Jvm.exec) (hby : c.code = bs) {x y : UInt64} (v : UInt64) (hd : decode bs pc = .ok (.dsub, 1)) (hn : Jvm.Free.Fl.NoNaN64 (FP.dsub x y)) (hv : FP.dsub x y = v) (hq : pc + 1 = q) (hr : G (T.setTop (mkF m q Ls (.double v :: S)))) : G (T.setTop (mkF m pc Ls (.double y :: .double x :: S))) := by subst hq; exact K _ _ (fun t k => Jvm.Free.XS.dsubS h hx rfl (hb hby hd) rfl hn hv k) hr
theorem m_dmul (K : Cl p e below G) (h : At T m c below) (hx : p.tables.exec = Jvm.exec) (hby : c.code = bs) {x y : UInt64} (v : UInt64) (hd : decode bs pc = .ok (.dmul, 1)) (hn : Jvm.Free.Fl.NoNaN64 (FP.dmul x y)) (hv : FP.dmul x y = v) (hq : pc + 1 = q) (hr : G (T.setTop (mkF m q Ls (.double v :: S)))) : G (T.setTop (mkF m pc Ls (.double y :: .double x :: S))) := by subst hq; exact K _ _ (fun t k => Jvm.Free.XS.dmulS h hx rfl (hb hby hd) rfl hn hv k) hr
theorem m_ddiv (K : Cl p e below G) (h : At T m c below) (hx : p.tables.exec = Jvm.exec) (hby : c.code = bs) {x y : UInt64} (v : UInt64) (hd : decode bs pc = .ok (.ddiv, 1)) (hn : Jvm.Free.Fl.NoNaN64 (FP.ddiv x y)) (hv : FP.ddiv x y = v) (hq : pc + 1 = q) (hr : G (T.setTop (mkF m q Ls (.double v :: S)))) : G (T.setTop (mkF m pc Ls (.double y :: .double x :: S))) := by subst hq; exact K _ _ (fun t k => Jvm.Free.XS.ddivS h hx rfl (hb hby hd) rfl hn hv k) hr
theorem m_goto (K : Cl p e below G) (h : At T m c below) (hx : p.tables.exec = Jvm.exec) (hby : c.code = bs)  {o : Int} (hd : decode bs pc = .ok (.goto o, 3)) (ho : 0 ≤ (pc : Int) + o) (hq : ((pc : Int) + o).toNat = q) (hr : G (T.setTop (mkF m q Ls S))) : G (T.setTop (mkF m pc Ls S)) := by exact K _ _ (fun t k => Jvm.Free.XS.goto h hx rfl rfl (hb hby hd) ho hq k) hr
theorem m_ifY (K : Cl p e below G) (h : At T m c below) (hx : p.tables.exec = Jvm.exec) (hby : c.code = bs) {cd : ClassFile.Cond} {x : Int32} {o : Int} (hd : decode bs pc = .ok (.ifCond cd o, 3)) (hc : ifCond.holds cd x = true) (ho : 0 ≤ (pc : Int) + o) (hq : ((pc : Int) + o).toNat = q) (hr : G (T.setTop (mkF m q Ls S))) : G (T.setTop (mkF m pc Ls (.int x :: S))) := by exact K _ _ (fun t k => Jvm.Free.XS.ifYes h hx rfl rfl (hb hby hd) rfl hc ho hq k) hr
theorem m_icmpY (K : Cl p e below G) (h : At T m c below) (hx : p.tables.exec = Jvm.exec) (hby : c.code = bs) {cd : ClassFile.Cond} {x y : Int32} {o : Int} (hd : decode bs pc = .ok (.if_icmp cd o, 3)) (hc : if_icmp.holds cd x y = true) (ho : 0 ≤ (pc : Int) + o) (hq : ((pc : Int) + o).toNat = q) (hr : G (T.setTop (mkF m q Ls S))) : G (T.setTop (mkF m pc Ls (.int y :: .int x :: S))) := by exact K _ _ (fun t k => Jvm.Free.XS.icmpYes h hx rfl rfl (hb hby hd) rfl hc ho hq k) hr
theorem m_nullY (K : Cl p e below G) (h : At T m c below) (hx : p.tables.exec = Jvm.exec) (hby : c.code = bs)  {o : Int} (hd : decode bs pc = .ok (.ifnull o, 3)) (ho : 0 ≤ (pc : Int) + o) (hq : ((pc : Int) + o).toNat = q) (hr : G (T.setTop (mkF m q Ls S))) : G (T.setTop (mkF m pc Ls (.null :: S))) := by exact K _ _ (fun t k => Jvm.Free.XS.ifnullYes h hx rfl rfl (hb hby hd) rfl ho hq k) hr
theorem m_nnY (K : Cl p e below G) (h : At T m c below) (hx : p.tables.exec = Jvm.exec) (hby : c.code = bs) {a : Addr} {o : Int} (hd : decode bs pc = .ok (.ifnonnull o, 3)) (ho : 0 ≤ (pc : Int) + o) (hq : ((pc : Int) + o).toNat = q) (hr : G (T.setTop (mkF m q Ls S))) : G (T.setTop (mkF m pc Ls (.ref a :: S))) := by exact K _ _ (fun t k => Jvm.Free.XS.ifnonnullYes h hx rfl rfl (hb hby hd) rfl ho hq k) hr
theorem m_ifN (K : Cl p e below G) (h : At T m c below) (hx : p.tables.exec = Jvm.exec) (hby : c.code = bs) {cd : ClassFile.Cond} {o : Int} {x : Int32} (hd : decode bs pc = .ok (.ifCond cd o, 3)) (hc : ifCond.holds cd x = false) (hq : pc + 3 = q) (hr : G (T.setTop (mkF m q Ls S))) : G (T.setTop (mkF m pc Ls (.int x :: S))) := by subst hq; exact K _ _ (fun t k => Jvm.Free.XS.ifNo h hx rfl (hb hby hd) rfl hc k) hr
theorem m_icmpN (K : Cl p e below G) (h : At T m c below) (hx : p.tables.exec = Jvm.exec) (hby : c.code = bs) {cd : ClassFile.Cond} {o : Int} {x y : Int32} (hd : decode bs pc = .ok (.if_icmp cd o, 3)) (hc : if_icmp.holds cd x y = false) (hq : pc + 3 = q) (hr : G (T.setTop (mkF m q Ls S))) : G (T.setTop (mkF m pc Ls (.int y :: .int x :: S))) := by subst hq; exact K _ _ (fun t k => Jvm.Free.XS.icmpNo h hx rfl (hb hby hd) rfl hc k) hr
theorem m_nullN (K : Cl p e below G) (h : At T m c below) (hx : p.tables.exec = Jvm.exec) (hby : c.code = bs) {o : Int} {a : Addr} (hd : decode bs pc = .ok (.ifnull o, 3)) (hq : pc + 3 = q) (hr : G (T.setTop (mkF m q Ls S))) : G (T.setTop (mkF m pc Ls (.ref a :: S))) := by subst hq; exact K _ _ (fun t k => Jvm.Free.XS.ifnullNo h hx rfl (hb hby hd) rfl k) hr
theorem m_nnN (K : Cl p e below G) (h : At T m c below) (hx : p.tables.exec = Jvm.exec) (hby : c.code = bs) {o : Int} (hd : decode bs pc = .ok (.ifnonnull o, 3)) (hq : pc + 3 = q) (hr : G (T.setTop (mkF m q Ls S))) : G (T.setTop (mkF m pc Ls (.null :: S))) := by subst hq; exact K _ _ (fun t k => Jvm.Free.XS.ifnonnullNo h hx rfl (hb hby hd) rfl k) hr
theorem m_acmp (K : Cl p e below G) (X : Stand p l e R s m args below meth c T locs cells slots) (hx : p.tables.exec = Jvm.exec) (hby : c.code = bs) {cd : ACond} {x y : Value} {o : Int} (same : Bool) (hd : decode bs pc = .ok (.if_acmp cd o, 3)) (h1 : x.isRef = true) (h2 : y.isRef = true) (hs : decide (x = y) = same) (ho : 0 ≤ (pc : Int) + o) (hq : q = if acV cd same = true then ((pc : Int) + o).toNat else pc + 3) (hr : G (T.setTop (mkF m q Ls S))) : G (T.setTop (mkF m pc Ls (y :: x :: S))) := K _ _ (fun t k => Jvm.RoadKit.acmp (g := mkF m pc Ls (y :: x :: S)) X hx rfl h1 h2 rfl (hb hby hd) rfl hs ho hq k) hr
theorem m_ldc (K : Cl p e below G) (X : Stand p l e R s m args below meth c T locs cells slots) (hx : p.tables.exec = Jvm.exec) (hby : c.code = bs) (hZ : Z.Warmed39 s.vm) {own : String} {i : Nat} {v : Int32} (hown : s.vm.findClass own = some m.cls) (w : (Jvm.Cond.constant own i v).before a0 Z = true) (hd : decode bs pc = .ok (.ldc i, 2)) (hq : pc + 2 = q) (hr : G (T.setTop (mkF m q Ls (.int v :: S)))) : G (T.setTop (mkF m pc Ls S)) := by subst hq; exact K _ _ (fun t k => X.ldcInt hx hown (mvT hZ w) (g := mkF m pc Ls S) rfl (hb hby hd) _ k) hr
theorem m_ldcw (K : Cl p e below G) (X : Stand p l e R s m args below meth c T locs cells slots) (hx : p.tables.exec = Jvm.exec) (hby : c.code = bs) (hZ : Z.Warmed39 s.vm) {own : String} {i : Nat} {v : Int32} (hown : s.vm.findClass own = some m.cls) (w : (Jvm.Cond.constant own i v).before a0 Z = true) (hd : decode bs pc = .ok (.ldc_w i, 3)) (hq : pc + 3 = q) (hr : G (T.setTop (mkF m q Ls (.int v :: S)))) : G (T.setTop (mkF m pc Ls S)) := by subst hq; exact K _ _ (fun t k => X.ldcwInt hx hown (mvT hZ w) (g := mkF m pc Ls S) rfl (hb hby hd) _ k) hr
theorem m_ldc2 (K : Cl p e below G) (X : Stand p l e R s m args below meth c T locs cells slots) (hx : p.tables.exec = Jvm.exec) (hby : c.code = bs) (hZ : Z.Warmed39 s.vm) {own : String} {i : Nat} {v : Int64} (hown : s.vm.findClass own = some m.cls) (w : (Jvm.Cond.constantLong own i v).before a0 Z = true) (hd : decode bs pc = .ok (.ldc2_w i, 3)) (hq : pc + 3 = q) (hr : G (T.setTop (mkF m q Ls (.long v :: S)))) : G (T.setTop (mkF m pc Ls S)) := by subst hq; exact K _ _ (fun t k => X.ldc2Long hx hown (mvT hZ w) (g := mkF m pc Ls S) rfl (hb hby hd) _ k) hr
theorem m_ldc2D (K : Cl p e below G) (X : Stand p l e R s m args below meth c T locs cells slots) (hx : p.tables.exec = Jvm.exec) (hby : c.code = bs) (hZ : Z.Warmed39 s.vm) {own : String} {i : Nat} {v : UInt64} (hown : s.vm.findClass own = some m.cls) (w : (Jvm.Cond.constantDouble own i v).before a0 Z = true) (hd : decode bs pc = .ok (.ldc2_w i, 3)) (hq : pc + 3 = q) (hr : G (T.setTop (mkF m q Ls (.double v :: S)))) : G (T.setTop (mkF m pc Ls S)) := by subst hq; exact K _ _ (fun t k => X.ldc2DoubleC hx hown (mvT hZ w) (g := mkF m pc Ls S) rfl (hb hby hd) _ k) hr
theorem k_getF (K : Cl p e below G) (X : Stand p l e R s m args below meth c T locs cells slots) (hx : p.tables.exec = Jvm.exec) (hby : c.code = bs) (hZ : Z.Warmed39 s.vm) {own R0 O n d host : String} {i : Nat} (hown : s.vm.findClass own = some m.cls) (w : (Jvm.Cond.fieldLink own i R0 n d).before a0 Z = true ∨ (Jvm.Cond.fieldLinkNest own i R0 n d host).before a0 Z = true) (via : Via Z R0 O n d) (eT : T.heap = h) {a : Addr} {v : Value} (F : Fld Z h a O n d v) (hd : decode bs pc = .ok (.getfield i, 3)) (hq : pc + 3 = q) (k : ∀ T', Stand p l e R s m args below meth c T' locs cells slots → T'.heap = h → G (T'.setTop (mkF m q Ls (v :: S)))) : G (T.setTop (mkF m pc Ls (.ref a :: S))) := by
  subst hq
  obtain ⟨T', X', e', st⟩ := getF X hx hZ hown w via eT F (g := mkF m pc Ls (.ref a :: S)) rfl rfl (hb hby hd)
  exact K _ _ st (k T' X' e')
theorem k_getS (K : Cl p e below G) (X : Stand p l e R s m args below meth c T locs cells slots) (hx : p.tables.exec = Jvm.exec) (hby : c.code = bs) (hZ : Z.Warmed39 s.vm) {own R0 O n d host : String} {i : Nat} (hown : s.vm.findClass own = some m.cls) (w : (Jvm.Cond.fieldLink own i R0 n d).before a0 Z = true ∨ (Jvm.Cond.fieldLinkNest own i R0 n d host).before a0 Z = true) (via : Via Z R0 O n d) (eT : T.heap = h) {v : Value} (F : Sta Z h O n d v) (hd : decode bs pc = .ok (.getstatic i, 3)) (hq : pc + 3 = q) (k : ∀ T', Stand p l e R s m args below meth c T' locs cells slots → T'.heap = h → G (T'.setTop (mkF m q Ls (v :: S)))) : G (T.setTop (mkF m pc Ls S)) := by
  subst hq
  obtain ⟨T', X', e', st⟩ := getS2 X hx hZ hown w via eT F (g := mkF m pc Ls S) rfl (hb hby hd)
  exact K _ _ st (k T' X' e')
theorem k_putF (K : Cl p e below G) (X : Stand p l e R s m args below meth c T locs cells slots) (hx : p.tables.exec = Jvm.exec) (hby : c.code = bs) (hZ : Z.Warmed39 s.vm) {own R0 O n d host C : String} {i kk : Nat} {ty : FieldType} (hown : s.vm.findClass own = some m.cls) (w : (Jvm.Cond.fieldLink own i R0 n d).before a0 Z = true ∨ (Jvm.Cond.fieldLinkNest own i R0 n d host).before a0 Z = true) (via : Via Z R0 O n d) (eT : T.heap = h) {a : Addr} {v old : Value} (F : Fld Z h a O n d old) (E : Exa Z h a C) (L : (Jvm.Cond.lays C O n d).before a0 Z = true ∨ ((Jvm.Cond.laysFinal C O n d).before a0 Z = true ∧ own = O ∧ meth.name = "<init>")) (wi : (Jvm.Cond.instantiable C kk).before a0 Z = true) (hty : parseFieldDescriptor d = some ty) (hn : narrow ty v = v) (hf : fits ty v = true) (hd : decode bs pc = .ok (.putfield i, 3)) (hq : pc + 3 = q)
    (k : ∀ T' h', Stand p l e R s m args below meth c T' (locs ++ [⟨a, Jvm.RoadKit.slotOf Z O n d⟩]) cells slots → T'.heap = h' → Wr h h' a (Jvm.RoadKit.slotOf Z O n d) v → G (T'.setTop (mkF m q Ls S))) : G (T.setTop (mkF m pc Ls (v :: .ref a :: S))) := by
  subst hq
  obtain ⟨T', h', X', e', W', st⟩ := putF X hx hZ hown w via eT F E L wi hty hn hf (g := mkF m pc Ls (v :: .ref a :: S)) rfl rfl (hb hby hd)
  exact K _ _ st (k T' h' X' e' W')
theorem k_newO (K : Cl p e below G) (X : Stand p l e R s m args below meth c T locs cells slots) (hx : p.tables.exec = Jvm.exec) (hby : c.code = bs) (hZ : Z.Warmed39 s.vm) {own C : String} {i n : Nat} (hown : s.vm.findClass own = some m.cls) (w : (Jvm.Cond.classLink own i C).before a0 Z = true) (wi : (Jvm.Cond.instantiable C n).before a0 Z = true) (wz : (Jvm.Cond.initialized C).before a0 Z = true) (eT : T.heap = h) (hd : decode bs pc = .ok (.new i, 3)) (hq : pc + 3 = q) (hc : cells + 1 ≤ R.cells) (hl : slots + n ≤ R.slots)
    (k : ∀ T' h' b, Stand p l e R s m args below meth c T' locs (cells + 1) (slots + n) → T'.heap = h' → Ext h h' → b = h.size → Exa Z h' b C → (∀ {O nm d : String} {ty : FieldType}, Laid Z a0 C O nm d → parseFieldDescriptor d = some ty → Fld Z h' b O nm d (defaultValue ty)) → G (T'.setTop (mkF m q Ls (.ref b :: S)))) : G (T.setTop (mkF m pc Ls S)) := by
  subst hq
  obtain ⟨T', h', X', e', E', A', D', -, st⟩ := newO X hx hZ hown w wi wz eT (g := mkF m pc Ls S) rfl (hb hby hd) hc hl
  exact K _ _ st (k T' h' _ X' e' E' rfl A' D')
theorem k_initO (K : Cl p e below G) (X : Stand p l e R s m args below meth c T locs cells slots) (hx : p.tables.exec = Jvm.exec) (hby : c.code = bs) (hZ : Z.Warmed39 s.vm) {own : String} {i : Nat} (hown : s.vm.findClass own = some m.cls) (w1 : (Jvm.Cond.methodLink own i ⟨"java/lang/Object", "<init>", "()V"⟩).before a0 Z = true) (w2 : (Jvm.Cond.instanceMethod ⟨"java/lang/Object", "<init>", "()V"⟩).before a0 Z = true) (w3 : (Jvm.Cond.code ⟨"java/lang/Object", "<init>", "()V"⟩ object_method_1_code 1 none).before a0 Z = true) (eT : T.heap = h) {a : Addr} (hd : decode bs pc = .ok (.invokespecial i, 3)) (hsz : Ls.size = c.maxLocals) (hq : pc + 3 = q) (hf : 1 ≤ R.frames) (hlo : (S.map fun v => v.category).sum + 12 ≤ R.locals)
    (k : ∀ T', Stand p l e R s m args below meth c T' locs cells slots → T'.heap = h → G (T'.setTop (mkF m q Ls S))) : G (T.setTop (mkF m pc Ls (.ref a :: S))) := by
  subst hq
  obtain ⟨T', X', e', st⟩ := initO X hx hZ hown w1 w2 w3 eT (g := mkF m pc Ls (.ref a :: S)) rfl hsz rfl (hb hby hd) hf (W := (S.map fun v => v.category).sum) (by show 2 * 0 + _ ≤ _; exact Nat.le_of_eq (Nat.zero_add _)) hlo
  exact K _ _ st (k T' X' e')
theorem k_cast (K : Cl p e below G) (X : Stand p l e R s m args below meth c T locs cells slots) (hx : p.tables.exec = Jvm.exec) (hby : c.code = bs) (hZ : Z.Warmed39 s.vm) {own C : String} {i : Nat} (hown : s.vm.findClass own = some m.cls) (w : (Jvm.Cond.classLink own i C).before a0 Z = true) (eT : T.heap = h) {a : Addr} (I : Ins Z h a C true) (hd : decode bs pc = .ok (.checkcast i, 3)) (hq : pc + 3 = q) (k : ∀ T', Stand p l e R s m args below meth c T' locs cells slots → T'.heap = h → G (T'.setTop (mkF m q Ls (.ref a :: S)))) : G (T.setTop (mkF m pc Ls (.ref a :: S))) := by
  subst hq
  obtain ⟨T', X', e', st⟩ := castY X hx hZ hown w eT I (g := mkF m pc Ls (.ref a :: S)) rfl rfl (hb hby hd)
  exact K _ _ st (k T' X' e')
def Con (l : Launch) (Z : State) (y : MethodName) (bytes : ByteArray) (maxL : Nat) (ret : Option FieldType) (rm : Room) (ws : List Jvm.Cond) (as' : Array Value) (h : Heap) (Q : PQ) : Prop :=
  MetFree l y (head1 (Jvm.Cond.code y bytes maxL ret :: ws) rm) (fun a U => a = as' ∧ Z.Warmed39 U.vm ∧ U.heap = h) (fun _ _ _ _ _ => True) (fun _ U o U' => ∃ v L, o = .returned v ∧ Q v U'.heap L ∧ FrameEnd U o U' L rm.cells rm.slots)
theorem Con.of {y : MethodName} {bytes : ByteArray} {maxL : Nat} {ret : Option FieldType} {rm : Room} {ws : List Jvm.Cond} {as' : Array Value} {Q : PQ} (hpl : plainFor y = true) (Ls : Array Slot) (hef : ∀ m, entryFrame m as' maxL = mkF m 0 Ls [])
    (body : ∀ p e s m below meth c s₁, Cl p e below (Go p e below s rm.cells rm.slots Q) → p.tables.exec = Jvm.exec → c.code = bytes → c.maxLocals = maxL → s.vm.findClass y.cls = some m.cls → meth.name = y.name → meth.sig.returnType = ret → meth.locks = false → Z.Warmed39 s.vm → Stand p l e rm s m as' below meth c s₁ [] 0 0 → s₁.heap = h →
      Go p e below s rm.cells rm.slots Q (s₁.setTop (mkF m 0 Ls []))) : Con l Z y bytes maxL ret rm ws as' h Q := by
  refine MetFree.of_bodySF hpl hisR ?_
  intro p e s m args below meth c s₁ Bd hml0 hP hK
  obtain ⟨rfl, hZ, hh⟩ := hP
  have r := body p e s m below meth c s₁ Go.cl Bd.exec Bd.bytes hml0 (findClass_of_methodNamed Bd.named) (name_of_methodNamed Bd.named Bd.method).1 Bd.returns Bd.notSynchronized hZ (Stand.of_body Bd) (by rw [← hh, Bd.state]; rfl)
  rw [← hef m] at r
  exact r
theorem Con.back {y : MethodName} {bytes : ByteArray} {maxL : Nat} {ret : Option FieldType} {rm : Room} {as' : Array Value} {Q : PQ} {len W : Nat} (K : Con l Z y bytes maxL ret rm [] as' h Q)
    (hZ : Z.Warmed39 s.vm) (wc : (Jvm.Cond.code y bytes maxL ret).before a0 Z = true) (wz : (Jvm.Cond.initialized y.cls).before a0 Z = true) (hf : rm.frames + 1 ≤ R.frames) (hl : W + (maxL + 11) + rm.locals ≤ R.locals) :
    Back l R p e below s args y len W (fun A a => a = as' ∧ A.U.heap = h ∧ A.cells + rm.cells ≤ R.cells ∧ A.slots + rm.slots ≤ R.slots)
      (fun A _ v B => ∃ L, Q v B.U.heap L ∧ B.locs = A.locs ++ L ∧ B.cells = A.cells + rm.cells ∧ B.slots = A.slots + rm.slots) := backOf K hZ wc wz hf hl
theorem k_callS (K : Cl p e below G) (X : Stand p l e R s m args below meth c T locs cells slots) (hx : p.tables.exec = Jvm.exec) (hby : c.code = bs) (hZ : Z.Warmed39 s.vm) {own : String} {i : Nat} {y : MethodName} {bytes : ByteArray} {maxL : Nat} {ret : Option FieldType} {rm : Room} {Q : PQ} {as' : Array Value} {ps : List FieldType} {r : Option FieldType} (argsL rest : List Value) (hown : s.vm.findClass own = some m.cls) (w1 : (Jvm.Cond.methodLink own i y).before a0 Z = true) (w2 : (Jvm.Cond.static y).before a0 Z = true) (w3 : (Jvm.Cond.initialized y.cls).before a0 Z = true) (w4 : (Jvm.Cond.code y bytes maxL ret).before a0 Z = true)
    (C : Con l Z y bytes maxL ret rm [] as' h Q) (eT : T.heap = h) (has : argsL.toArray = as') (hs : S = argsL.reverse ++ rest) (hps : parseMethodDescriptor y.desc = some ⟨ps, r⟩) (hl : argsL.length = ps.length) (hd : decode bs pc = .ok (.invokestatic i, 3)) (hsz : Ls.size = c.maxLocals) (hq : pc + 3 = q) (hy : y.cls ≠ "java/lang/invoke/MethodHandle" ∧ y.cls ≠ "java/lang/invoke/VarHandle") (hf : rm.frames + 1 ≤ R.frames) (hlo : (rest.map fun v => v.category).sum + (maxL + 11) + rm.locals ≤ R.locals) (hc : cells + rm.cells ≤ R.cells) (hn : slots + rm.slots ≤ R.slots)
    (k : ∀ v T' L, Stand p l e R s m args below meth c T' (locs ++ L) (cells + rm.cells) (slots + rm.slots) → Q v T'.heap L → G (T'.setTop (mkF m q Ls (v.toList ++ rest)))) : G (T.setTop (mkF m pc Ls S)) := by
  subst has hs hq
  obtain ⟨v, _, ⟨T', L', k', n'⟩, -, X', ⟨Lc, hQ, l1, y1, z1⟩, st⟩ := Jvm.LawKit.callS X hx (y := y) hown (mvT hZ w1) (mvT hZ w2) (mvT hZ w3) (mvT hZ w4) hy (C.back (W := (rest.map fun v => v.category).sum) hZ w4 w3 hf hlo) (g := mkF m pc Ls (argsL.reverse ++ rest)) rfl hsz (argsL := argsL) (rest := rest) (lenOf hps hl) rfl (by show 2 * 0 + _ ≤ _; exact Nat.le_of_eq (Nat.zero_add _)) (hb hby hd) (fun _ _ => ⟨rfl, eT, hc, hn⟩)
  dsimp only at X' l1 y1 z1 st hQ
  subst l1 y1 z1
  exact K _ _ st (k v T' Lc X' hQ)
theorem k_callP (K : Cl p e below G) (X : Stand p l e R s m args below meth c T locs cells slots) (hx : p.tables.exec = Jvm.exec) (hby : c.code = bs) (hZ : Z.Warmed39 s.vm) {own : String} {i : Nat} {y : MethodName} {bytes : ByteArray} {maxL : Nat} {rm : Room} {Q : PQ} {as' : Array Value} {ps : List FieldType} {r : Option FieldType} (a : Addr) (argsL rest : List Value) (hown : s.vm.findClass own = some m.cls) (w1 : (Jvm.Cond.methodLink own i y).before a0 Z = true) (w2 : (Jvm.Cond.instanceMethod y).before a0 Z = true) (w3 : (Jvm.Cond.initialized y.cls).before a0 Z = true) (w4 : (Jvm.Cond.code y bytes maxL none).before a0 Z = true) (hy1 : y.name = "<init>")
    (C : Con l Z y bytes maxL none rm [] as' h Q) (eT : T.heap = h) (has : (.ref a :: argsL).toArray = as') (hs : S = argsL.reverse ++ .ref a :: rest) (hps : parseMethodDescriptor y.desc = some ⟨ps, r⟩) (hl : argsL.length = ps.length) (hd : decode bs pc = .ok (.invokespecial i, 3)) (hsz : Ls.size = c.maxLocals) (hq : pc + 3 = q) (hy : y.cls ≠ "java/lang/invoke/MethodHandle" ∧ y.cls ≠ "java/lang/invoke/VarHandle") (hf : rm.frames + 1 ≤ R.frames) (hlo : (rest.map fun v => v.category).sum + (maxL + 11) + rm.locals ≤ R.locals) (hc : cells + rm.cells ≤ R.cells) (hn : slots + rm.slots ≤ R.slots)
    (k : ∀ v T' L, Stand p l e R s m args below meth c T' (locs ++ L) (cells + rm.cells) (slots + rm.slots) → Q v T'.heap L → G (T'.setTop (mkF m q Ls (v.toList ++ rest)))) : G (T.setTop (mkF m pc Ls S)) := by
  subst has hs hq
  obtain ⟨v, _, ⟨T', L', k', n'⟩, -, X', ⟨Lc, hQ, l1, y1, z1⟩, st⟩ := X.specialBack hx (y := y) hy1 hown (mvT hZ w1) (mvT hZ w2) (mvT hZ w4) hy (C.back (W := (rest.map fun v => v.category).sum) hZ w4 w3 hf hlo) (g := mkF m pc Ls (argsL.reverse ++ .ref a :: rest)) rfl hsz (Steps.refl _) (a := a) (argsL := argsL) (rest := rest) (lenOf hps hl) rfl (by show 2 * 0 + _ ≤ _; exact Nat.le_of_eq (Nat.zero_add _)) (hb hby hd) (fun _ _ => ⟨rfl, eT, hc, hn⟩)
  dsimp only at X' l1 y1 z1 st hQ
  subst l1 y1 z1
  exact K _ _ (fun t k => st.trans k) (k v T' Lc X' hQ)
theorem k_callV (K : Cl p e below G) (X : Stand p l e R s m args below meth c T locs cells slots) (hx : p.tables.exec = Jvm.exec) (hby : c.code = bs) (hZ : Z.Warmed39 s.vm) {own : String} {i : Nat} {y : MethodName} {bytes : ByteArray} {maxL : Nat} {ret : Option FieldType} {rm : Room} {Q : PQ} {as' : Array Value} {ps : List FieldType} {r : Option FieldType} {z : MethodName} {C0 : String} (a : Addr) (argsL rest : List Value) (hown : s.vm.findClass own = some m.cls) (w1 : (Jvm.Cond.methodLink own i y).before a0 Z = true) (w2 : (Jvm.Cond.declares y).before a0 Z = true) (hnf : NotFace s y) (w5 : (Jvm.Cond.selects C0 y z).before a0 Z = true) (w6 : (Jvm.Cond.instanceMethod z).before a0 Z = true) (w3 : (Jvm.Cond.initialized z.cls).before a0 Z = true) (w4 : (Jvm.Cond.code z bytes maxL ret).before a0 Z = true)
    (C : Con l Z z bytes maxL ret rm [] as' h Q) (eT : T.heap = h) (E : Exa Z h a C0) (has : (.ref a :: argsL).toArray = as') (hs : S = argsL.reverse ++ .ref a :: rest) (hps : parseMethodDescriptor y.desc = some ⟨ps, r⟩) (hl : argsL.length = ps.length) (hd : decode bs pc = .ok (.invokevirtual i, 3)) (hsz : Ls.size = c.maxLocals) (hq : pc + 3 = q) (hy : y.cls ≠ "java/lang/invoke/MethodHandle" ∧ y.cls ≠ "java/lang/invoke/VarHandle") (hf : rm.frames + 1 ≤ R.frames) (hlo : (rest.map fun v => v.category).sum + (maxL + 11) + rm.locals ≤ R.locals) (hc : cells + rm.cells ≤ R.cells) (hn : slots + rm.slots ≤ R.slots)
    (k : ∀ v T' L, Stand p l e R s m args below meth c T' (locs ++ L) (cells + rm.cells) (slots + rm.slots) → Q v T'.heap L → G (T'.setTop (mkF m q Ls (v.toList ++ rest)))) : G (T.setTop (mkF m pc Ls S)) := by
  subst has hs hq
  obtain ⟨cq, kq, qa, qb, qc⟩ := isOf hZ eT E
  obtain ⟨v, _, ⟨T', L', k', n'⟩, -, X', ⟨Lc, hQ, l1, y1, z1⟩, st⟩ := X.virtualBack hx (y := y) (z := z) hown (mvT hZ w1) (mvT hZ w2) hnf (mvT hZ w5) (mvT hZ w6) hy (C.back (W := (rest.map fun v => v.category).sum) hZ w4 w3 hf hlo) qa qc (g := mkF m pc Ls (argsL.reverse ++ .ref a :: rest)) rfl hsz (Steps.refl _) (argsL := argsL) (rest := rest) (lenOf hps hl) rfl (by show 2 * 0 + _ ≤ _; exact Nat.le_of_eq (Nat.zero_add _)) (hb hby hd) (fun _ _ => ⟨rfl, eT, hc, hn⟩)
  dsimp only at X' l1 y1 z1 st hQ
  subst l1 y1 z1
  exact K _ _ (fun t k => st.trans k) (k v T' Lc X' hQ)
theorem k_callR (K : Cl p e below G) (X : Stand p l e R s m args below meth c T locs cells slots) (hx : p.tables.exec = Jvm.exec) (hby : c.code = bs) (hZ : Z.Warmed39 s.vm) {own : String} {i : Nat} {y : MethodName} {bytes : ByteArray} {maxL : Nat} {ret : Option FieldType} {rm : Room} {Q : PQ} {as' : Array Value} {ps : List FieldType} {r : Option FieldType} (a : Addr) (argsL rest : List Value) (hown : s.vm.findClass own = some m.cls) (w1 : (Jvm.Cond.methodLink own i y).before a0 Z = true) (w2 : (Jvm.Cond.instanceMethod y).before a0 Z = true) (w5 : (Jvm.Cond.selects y.cls y y).before a0 Z = true) (w6 : (Jvm.Cond.privateMethod y).before a0 Z = true) (w3 : (Jvm.Cond.initialized y.cls).before a0 Z = true) (w4 : (Jvm.Cond.code y bytes maxL ret).before a0 Z = true)
    (C : Con l Z y bytes maxL ret rm [] as' h Q) (eT : T.heap = h) {C0 : String} (E : Exa Z h a C0) (has : (.ref a :: argsL).toArray = as') (hs : S = argsL.reverse ++ .ref a :: rest) (hps : parseMethodDescriptor y.desc = some ⟨ps, r⟩) (hl : argsL.length = ps.length) (hd : decode bs pc = .ok (.invokevirtual i, 3)) (hsz : Ls.size = c.maxLocals) (hq : pc + 3 = q) (hy : y.cls ≠ "java/lang/invoke/MethodHandle" ∧ y.cls ≠ "java/lang/invoke/VarHandle") (hf : rm.frames + 1 ≤ R.frames) (hlo : (rest.map fun v => v.category).sum + (maxL + 11) + rm.locals ≤ R.locals) (hc : cells + rm.cells ≤ R.cells) (hn : slots + rm.slots ≤ R.slots)
    (k : ∀ v T' L, Stand p l e R s m args below meth c T' (locs ++ L) (cells + rm.cells) (slots + rm.slots) → Q v T'.heap L → G (T'.setTop (mkF m q Ls (v.toList ++ rest)))) : G (T.setTop (mkF m pc Ls S)) := by
  subst has hs hq
  obtain ⟨cq, qa, qc⟩ := E.cell
  obtain ⟨v, _, ⟨T', L', k', n'⟩, -, X', ⟨Lc, hQ, l1, y1, z1⟩, st⟩ := X.privateBack hx (y := y) hown (mvT hZ w1) (mvT hZ w2) (mvT hZ w5) (Cond.privateMethod_at (args := #[]) (mvP hZ w6)) (mvT hZ w4) hy (C.back (W := (rest.map fun v => v.category).sum) hZ w4 w3 hf hlo) (g := mkF m pc Ls (argsL.reverse ++ .ref a :: rest)) rfl hsz (Steps.refl _) (a := a) (by rw [eT]; exact qa) qc (argsL := argsL) (rest := rest) (lenOf hps hl) rfl (by show 2 * 0 + _ ≤ _; exact Nat.le_of_eq (Nat.zero_add _)) (hb hby hd) (fun _ _ => ⟨rfl, eT, hc, hn⟩)
  dsimp only at X' l1 y1 z1 st hQ
  subst l1 y1 z1
  exact K _ _ (fun t k => st.trans k) (k v T' Lc X' hQ)
theorem k_callSU (K : Cl p e below G) (X : Stand p l e R s m args below meth c T locs cells slots) (hx : p.tables.exec = Jvm.exec) (hby : c.code = bs) (hZ : Z.Warmed39 s.vm) {own : String} {i : Nat} {y : MethodName} {bytes : ByteArray} {maxL : Nat} {ret : Option FieldType} {rm : Room} {Q : PQ} {as' : Array Value} {ps : List FieldType} {r : Option FieldType} {ow : String} (argsL rest : List Value) (hown : s.vm.findClass own = some m.cls) (w1 : (Jvm.Cond.methodLink own i y).before a0 Z = true) (w5 : (Jvm.Cond.sameMethod y.cls ow y.name y.desc).before a0 Z = true) (w2 : (Jvm.Cond.static ⟨ow, y.name, y.desc⟩).before a0 Z = true) (w3 : (Jvm.Cond.initialized ow).before a0 Z = true) (w4 : (Jvm.Cond.code ⟨ow, y.name, y.desc⟩ bytes maxL ret).before a0 Z = true)
    (C : Con l Z ⟨ow, y.name, y.desc⟩ bytes maxL ret rm [] as' h Q) (eT : T.heap = h) (has : argsL.toArray = as') (hs : S = argsL.reverse ++ rest) (hps : parseMethodDescriptor y.desc = some ⟨ps, r⟩) (hl : argsL.length = ps.length) (hd : decode bs pc = .ok (.invokestatic i, 3)) (hsz : Ls.size = c.maxLocals) (hq : pc + 3 = q) (hy : ow ≠ "java/lang/invoke/MethodHandle" ∧ ow ≠ "java/lang/invoke/VarHandle") (hf : rm.frames + 1 ≤ R.frames) (hlo : (rest.map fun v => v.category).sum + (maxL + 11) + rm.locals ≤ R.locals) (hc : cells + rm.cells ≤ R.cells) (hn : slots + rm.slots ≤ R.slots)
    (k : ∀ v T' L, Stand p l e R s m args below meth c T' (locs ++ L) (cells + rm.cells) (slots + rm.slots) → Q v T'.heap L → G (T'.setTop (mkF m q Ls (v.toList ++ rest)))) : G (T.setTop (mkF m pc Ls S)) := by
  subst has hs hq
  have wc := mvT (args := args) hZ w4
  obtain ⟨mk, hnamed⟩ := Cond.code_named wc
  obtain ⟨methM, cM, hmethM, -, -, -, -, -, -, hsigM⟩ := Cond.code_spec hnamed wc
  obtain ⟨v, _, ⟨T', L', k', n'⟩, -, X', ⟨Lc, hQ, l1, y1, z1⟩, st⟩ := X.staticBackUp hx (x := y) (owner := ow) hown (mvT hZ w1) (mvT hZ w5) (mvT hZ w2) (mvT hZ w3) hnamed hmethM hsigM hy (C.back (W := (rest.map fun v => v.category).sum) hZ w4 w3 hf hlo) (g := mkF m pc Ls (argsL.reverse ++ rest)) rfl hsz (Steps.refl _) (argsL := argsL) (rest := rest) (lenOf hps hl) rfl (by show 2 * 0 + _ ≤ _; exact Nat.le_of_eq (Nat.zero_add _)) (hb hby hd) (fun _ _ => ⟨rfl, eT, hc, hn⟩)
  dsimp only at X' l1 y1 z1 st hQ
  subst l1 y1 z1
  exact K _ _ (fun t k => st.trans k) (k v T' Lc X' hQ)
theorem k_callI (K : Cl p e below G) (X : Stand p l e R s m args below meth c T locs cells slots) (hx : p.tables.exec = Jvm.exec) (hby : c.code = bs) (hZ : Z.Warmed39 s.vm) {own : String} {i : Nat} {y : MethodName} {bytes : ByteArray} {maxL : Nat} {ret : Option FieldType} {rm : Room} {Q : PQ} {as' : Array Value} {ps : List FieldType} {r : Option FieldType} {z : MethodName} {C0 : String} {cnt : Nat} (a : Addr) (argsL rest : List Value) (hown : s.vm.findClass own = some m.cls) (w1 : (Jvm.Cond.methodLink own i y).before a0 Z = true) (w2 : (Jvm.Cond.declares y).before a0 Z = true) (w7 : (Jvm.Cond.interfaceMethod y.cls y.cls y.name y.desc).before args s = true) (w5 : (Jvm.Cond.selects C0 y z).before a0 Z = true) (w6 : (Jvm.Cond.instanceMethod z).before a0 Z = true) (w8 : (Jvm.Cond.publicMethod z).before a0 Z = true) (w9 : (Jvm.Cond.unhidden C0 y.name y.desc).before a0 Z = true) (wa : (Jvm.Cond.castable C0 y.cls).before a0 Z = true) (w3 : (Jvm.Cond.initialized z.cls).before a0 Z = true) (w4 : (Jvm.Cond.code z bytes maxL ret).before a0 Z = true)
    (C : Con l Z z bytes maxL ret rm [] as' h Q) (eT : T.heap = h) (E : Exa Z h a C0) (has : (.ref a :: argsL).toArray = as') (hs : S = argsL.reverse ++ .ref a :: rest) (hps : parseMethodDescriptor y.desc = some ⟨ps, r⟩) (hl : argsL.length = ps.length) (hd : decode bs pc = .ok (.invokeinterface i cnt, 5)) (hsz : Ls.size = c.maxLocals) (hq : pc + 5 = q) (hy : y.cls ≠ "java/lang/invoke/MethodHandle" ∧ y.cls ≠ "java/lang/invoke/VarHandle") (hf : rm.frames + 1 ≤ R.frames) (hlo : (rest.map fun v => v.category).sum + (maxL + 11) + rm.locals ≤ R.locals) (hc : cells + rm.cells ≤ R.cells) (hn : slots + rm.slots ≤ R.slots)
    (k : ∀ v T' L, Stand p l e R s m args below meth c T' (locs ++ L) (cells + rm.cells) (slots + rm.slots) → Q v T'.heap L → G (T'.setTop (mkF m q Ls (v.toList ++ rest)))) : G (T.setTop (mkF m pc Ls S)) := by
  subst has hs hq
  obtain ⟨cq, kq, qa, qb, qc⟩ := isOf hZ eT E
  obtain ⟨v, _, ⟨T', L', k', n'⟩, -, X', ⟨Lc, hQ, l1, y1, z1⟩, st⟩ := X.interfaceBack hx (xi := y) (y := z) hown (mvT hZ w1) (mvT hZ w2) w7 (mvT hZ w5) (mvT hZ w6) (mvT hZ w8) (mvT hZ w9) (mvT hZ wa) hy (C.back (W := (rest.map fun v => v.category).sum) hZ w4 w3 hf hlo) qa qb qc (g := mkF m pc Ls (argsL.reverse ++ .ref a :: rest)) rfl hsz (Steps.refl _) (argsL := argsL) (rest := rest) (lenOf hps hl) rfl (by show 2 * 0 + _ ≤ _; exact Nat.le_of_eq (Nat.zero_add _)) (hb hby hd) (fun _ _ => ⟨rfl, eT, hc, hn⟩)
  dsimp only at X' l1 y1 z1 st hQ
  subst l1 y1 z1
  exact K _ _ (fun t k => st.trans k) (k v T' Lc X' hQ)
end OwnBase
section OwnArr
variable {p : Program} {l : Launch} {e : Env} {R : Room} {s : State} {m : MethodId} {args : Array Value} {below : List Frame} {meth : Method} {c : Code} {T : State} {locs : List Loc} {cells slots : Nat} {Z : State} {a0 : Array Value} {h h' : Heap} {a b : Addr} {ty : FieldType} {vs : List Value} {v : Value} {sl : Nat} {ws : List Addr} {bs : ByteArray} {pc q : Nat} {Ls : Array Slot} {S : List Value} {G : State → Prop}
def Av (Z : State) (h : Heap) (a : Addr) (ty : FieldType) (vs : List Value) : Prop := ∃ cl : Cell, Arr Z h a cl ty ∧ cl.slots = vs.toArray
theorem Av.lt (F : Av Z h a ty vs) : a < h.size := by obtain ⟨_, A, -⟩ := F; exact A.lt
theorem Av.ext (F : Av Z h a ty vs) (E : Ext h h') : Av Z h' a ty vs := by obtain ⟨c, A, r⟩ := F; exact ⟨c, A.ext E, r⟩
theorem Av.other (F : Av Z h b ty vs) (W : Wr h h' a sl v) (q : b ≠ a) : Av Z h' b ty vs := by obtain ⟨c, A, r⟩ := F; exact ⟨c, A.other W q, r⟩
theorem Av.keep (F : Av Z h a ty vs) (K : Keep h h' ws) (q : a ∉ ws) : Av Z h' a ty vs := by obtain ⟨c, A, r⟩ := F; exact ⟨c, ⟨K.2.1 a c A.1 q, A.2⟩, r⟩
theorem Av.new {k : ClassId} {z : Int32} {n : Nat} (A : Arr Z h a (newA k ty z) ty) (hn : z.toNatClampNeg = n) : Av Z h a ty (List.replicate n (defaultValue ty)) := ⟨_, A, by subst hn; simp [newA]⟩
theorem Av.set (F : Av Z h a ty vs) (W : Wr h h' a sl v) : Av Z h' a ty (vs.set sl v) := by
  obtain ⟨c, A, r⟩ := F
  exact ⟨_, A.same W, by simp [Cell.setSlot, r]⟩
theorem Av.ofArv {k : ClassId} {z : Int32} {d : Value} (A : Arv Z h a k ty z vs d) (hl : z.toNatClampNeg = vs.length) : Av Z h a ty vs := by
  obtain ⟨cl, A, -, S, -, H, -⟩ := A
  refine ⟨cl, A, Array.ext_getElem? fun i => ?_⟩
  by_cases q : i < vs.length
  · have := H i (by omega)
    rw [this]
    simp [q]
  · rw [Array.getElem?_eq_none (by omega), List.getElem?_toArray, List.getElem?_eq_none (by omega)]
theorem own_in {cl : Cell} {j : Int32} (r : cl.slots = vs.toArray) (h0 : ¬ j < 0) (h1 : j.toNatClampNeg < vs.length) : ¬ (j < 0 ∨ cl.slots.size ≤ j.toNatClampNeg) := by
  rintro (q | q)
  · exact h0 q
  · rw [r, List.size_toArray] at q; omega
theorem own_at {cl : Cell} {i : Nat} (r : cl.slots = vs.toArray) (hv : vs[i]? = some v) : cl.slots[i]? = some v := by rw [r]; simpa using hv
theorem own_ltl0 {i : Nat} (hv : vs[i]? = some v) : i < vs.length := (List.getElem?_eq_some_iff.mp hv).1
theorem k_ldI (K : Cl p e below G) (X : Stand p l e R s m args below meth c T locs cells slots) (hx : p.tables.exec = Jvm.exec) (hby : c.code = bs) (hZ : Z.Warmed39 s.vm) (eT : T.heap = h) (F : Av Z h a .int vs) {j : Int32} (h0 : ¬ j < 0) (hv : vs[j.toNatClampNeg]? = some v) (hd : decode bs pc = .ok (.iaload, 1)) (hq : pc + 1 = q) (hr : G (T.setTop (mkF m q Ls (v :: S)))) : G (T.setTop (mkF m pc Ls (.int j :: .ref a :: S))) := by
  subst hq
  obtain ⟨cl, A, r⟩ := F
  exact K _ _ (X.iaload hx (j := j) (v := v) (by rw [eT]; exact A.1) (State.isArrayOf_alike hZ.alike A.2.1) A.2.2 (own_in r h0 (own_ltl0 hv)) (own_at r hv) (g := mkF m pc Ls (.int j :: .ref a :: S)) rfl rfl (hb hby hd)) hr
theorem k_ldJ (K : Cl p e below G) (X : Stand p l e R s m args below meth c T locs cells slots) (hx : p.tables.exec = Jvm.exec) (hby : c.code = bs) (hZ : Z.Warmed39 s.vm) (eT : T.heap = h) (F : Av Z h a .long vs) {j : Int32} (h0 : ¬ j < 0) (hv : vs[j.toNatClampNeg]? = some v) (hd : decode bs pc = .ok (.laload, 1)) (hq : pc + 1 = q) (hr : G (T.setTop (mkF m q Ls (v :: S)))) : G (T.setTop (mkF m pc Ls (.int j :: .ref a :: S))) := by
  subst hq
  obtain ⟨cl, A, r⟩ := F
  exact K _ _ (X.laload hx (j := j) (v := v) (by rw [eT]; exact A.1) (State.isArrayOf_alike hZ.alike A.2.1) A.2.2 (own_in r h0 (own_ltl0 hv)) (own_at r hv) (g := mkF m pc Ls (.int j :: .ref a :: S)) rfl rfl (hb hby hd)) hr
theorem k_ldC (K : Cl p e below G) (X : Stand p l e R s m args below meth c T locs cells slots) (hx : p.tables.exec = Jvm.exec) (hby : c.code = bs) (hZ : Z.Warmed39 s.vm) (eT : T.heap = h) (F : Av Z h a .char vs) {j : Int32} (h0 : ¬ j < 0) (hv : vs[j.toNatClampNeg]? = some v) (hd : decode bs pc = .ok (.caload, 1)) (hq : pc + 1 = q) (hr : G (T.setTop (mkF m q Ls (v :: S)))) : G (T.setTop (mkF m pc Ls (.int j :: .ref a :: S))) := by
  subst hq
  obtain ⟨cl, A, r⟩ := F
  exact K _ _ (X.caload hx (j := j) (v := v) (by rw [eT]; exact A.1) (State.isArrayOf_alike hZ.alike A.2.1) A.2.2 (own_in r h0 (own_ltl0 hv)) (own_at r hv) (g := mkF m pc Ls (.int j :: .ref a :: S)) rfl rfl (hb hby hd)) hr
theorem k_ldB (K : Cl p e below G) (X : Stand p l e R s m args below meth c T locs cells slots) (hx : p.tables.exec = Jvm.exec) (hby : c.code = bs) (hZ : Z.Warmed39 s.vm) (eT : T.heap = h) (F : Av Z h a .byte vs) {j : Int32} (h0 : ¬ j < 0) (hv : vs[j.toNatClampNeg]? = some v) (hd : decode bs pc = .ok (.baload, 1)) (hq : pc + 1 = q) (hr : G (T.setTop (mkF m q Ls (v :: S)))) : G (T.setTop (mkF m pc Ls (.int j :: .ref a :: S))) := by
  subst hq
  obtain ⟨cl, A, r⟩ := F
  exact K _ _ (X.baloadBytes hx (j := j) (v := v) (by rw [eT]; exact A.1) (State.isArrayOf_alike hZ.alike A.2.1) A.2.2 (own_in r h0 (own_ltl0 hv)) (own_at r hv) (g := mkF m pc Ls (.int j :: .ref a :: S)) rfl rfl (hb hby hd)) hr
theorem k_ldZ (K : Cl p e below G) (X : Stand p l e R s m args below meth c T locs cells slots) (hx : p.tables.exec = Jvm.exec) (hby : c.code = bs) (hZ : Z.Warmed39 s.vm) (eT : T.heap = h) (F : Av Z h a .boolean vs) {j : Int32} (h0 : ¬ j < 0) (hv : vs[j.toNatClampNeg]? = some v) (hd : decode bs pc = .ok (.baload, 1)) (hq : pc + 1 = q) (hr : G (T.setTop (mkF m q Ls (v :: S)))) : G (T.setTop (mkF m pc Ls (.int j :: .ref a :: S))) := by
  subst hq
  obtain ⟨cl, A, r⟩ := F
  exact K _ _ (X.baloadBooleans hx (j := j) (v := v) (by rw [eT]; exact A.1) (State.isArrayOf_alike hZ.alike A.2.1) A.2.2 (own_in r h0 (own_ltl0 hv)) (own_at r hv) (g := mkF m pc Ls (.int j :: .ref a :: S)) rfl rfl (hb hby hd)) hr
theorem k_ldD (K : Cl p e below G) (X : Stand p l e R s m args below meth c T locs cells slots) (hx : p.tables.exec = Jvm.exec) (hby : c.code = bs) (hZ : Z.Warmed39 s.vm) (eT : T.heap = h) (F : Av Z h a .double vs) {j : Int32} (h0 : ¬ j < 0) (hv : vs[j.toNatClampNeg]? = some v) (hd : decode bs pc = .ok (.daload, 1)) (hq : pc + 1 = q) (hr : G (T.setTop (mkF m q Ls (v :: S)))) : G (T.setTop (mkF m pc Ls (.int j :: .ref a :: S))) := by
  subst hq
  obtain ⟨cl, A, r⟩ := F
  exact K _ _ (X.daload hx (j := j) (v := v) (by rw [eT]; exact A.1) (State.isArrayOf_alike hZ.alike A.2.1) A.2.2 (own_in r h0 (own_ltl0 hv)) (own_at r hv) (g := mkF m pc Ls (.int j :: .ref a :: S)) rfl rfl (hb hby hd)) hr
theorem k_ldR (K : Cl p e below G) (X : Stand p l e R s m args below meth c T locs cells slots) (hx : p.tables.exec = Jvm.exec) (hby : c.code = bs) (hZ : Z.Warmed39 s.vm) (eT : T.heap = h) (hty : ty.isReference = true) (F : Av Z h a ty vs) {j : Int32} (h0 : ¬ j < 0) (hv : vs[j.toNatClampNeg]? = some v) (hd : decode bs pc = .ok (.aaload, 1)) (hq : pc + 1 = q) (hr : G (T.setTop (mkF m q Ls (v :: S)))) : G (T.setTop (mkF m pc Ls (.int j :: .ref a :: S))) := by
  subst hq
  obtain ⟨cl, A, r⟩ := F
  exact K _ _ (X.aaload hx (j := j) (v := v) (by rw [eT]; exact A.1) (State.isArrayOf_alike hZ.alike A.2.1) hty A.2.2 (own_in r h0 (own_ltl0 hv)) (own_at r hv) (g := mkF m pc Ls (.int j :: .ref a :: S)) rfl rfl (hb hby hd)) hr
theorem k_len (K : Cl p e below G) (X : Stand p l e R s m args below meth c T locs cells slots) (hx : p.tables.exec = Jvm.exec) (hby : c.code = bs) (hZ : Z.Warmed39 s.vm) (z : Int32) (eT : T.heap = h) (F : Av Z h a ty vs) (hz : Int32.ofNat vs.length = z) (hd : decode bs pc = .ok (.arraylength, 1)) (hq : pc + 1 = q) (hr : G (T.setTop (mkF m q Ls (.int z :: S)))) : G (T.setTop (mkF m pc Ls (.ref a :: S))) := by
  subst hq
  obtain ⟨cl, A, r⟩ := F
  have hl : cl.slots.size.toInt32 = z := by rw [r, List.size_toArray]; exact hz
  have st := X.arraylength hx (by rw [eT]; exact A.1) (State.isArrayOf_alike hZ.alike A.2.1) (g := mkF m pc Ls (.ref a :: S)) rfl rfl (hb hby hd)
  rw [hl] at st
  exact K _ _ st hr
theorem k_stI (K : Cl p e below G) (X : Stand p l e R s m args below meth c T locs cells slots) (hx : p.tables.exec = Jvm.exec) (hby : c.code = bs) (hZ : Z.Warmed39 s.vm) (eT : T.heap = h) (F : Av Z h a .int vs) {j : Int32} {x : Int32} (h0 : ¬ j < 0) (h1 : j.toNatClampNeg < vs.length) (hd : decode bs pc = .ok (.iastore, 1)) (hq : pc + 1 = q) (k : ∀ T' h', Stand p l e R s m args below meth c T' (locs ++ [⟨a, j.toNatClampNeg⟩]) cells slots → T'.heap = h' → Wr h h' a j.toNatClampNeg (.int x) → Av Z h' a .int (vs.set j.toNatClampNeg (.int x)) → G (T'.setTop (mkF m q Ls S))) : G (T.setTop (mkF m pc Ls (.int x :: .int j :: .ref a :: S))) := by
  subst hq
  obtain ⟨cl, A, r⟩ := F
  obtain ⟨T', h', X', e', W', st⟩ := stI X hx hZ eT A (j := j) (own_in r h0 h1) (g := mkF m pc Ls (.int x :: .int j :: .ref a :: S)) rfl rfl (hb hby hd)
  exact K _ _ st (k T' h' X' e' W' (Av.set ⟨cl, A, r⟩ W'))
theorem k_stJ (K : Cl p e below G) (X : Stand p l e R s m args below meth c T locs cells slots) (hx : p.tables.exec = Jvm.exec) (hby : c.code = bs) (hZ : Z.Warmed39 s.vm) (eT : T.heap = h) (F : Av Z h a .long vs) {j : Int32} {x : Int64} (h0 : ¬ j < 0) (h1 : j.toNatClampNeg < vs.length) (hd : decode bs pc = .ok (.lastore, 1)) (hq : pc + 1 = q) (k : ∀ T' h', Stand p l e R s m args below meth c T' (locs ++ [⟨a, j.toNatClampNeg⟩]) cells slots → T'.heap = h' → Wr h h' a j.toNatClampNeg (.long x) → Av Z h' a .long (vs.set j.toNatClampNeg (.long x)) → G (T'.setTop (mkF m q Ls S))) : G (T.setTop (mkF m pc Ls (.long x :: .int j :: .ref a :: S))) := by
  subst hq
  obtain ⟨cl, A, r⟩ := F
  obtain ⟨T', h', X', e', W', st⟩ := stJ X hx hZ eT A (j := j) (own_in r h0 h1) (g := mkF m pc Ls (.long x :: .int j :: .ref a :: S)) rfl rfl (hb hby hd)
  exact K _ _ st (k T' h' X' e' W' (Av.set ⟨cl, A, r⟩ W'))
theorem k_stC (K : Cl p e below G) (X : Stand p l e R s m args below meth c T locs cells slots) (hx : p.tables.exec = Jvm.exec) (hby : c.code = bs) (hZ : Z.Warmed39 s.vm) (eT : T.heap = h) (F : Av Z h a .char vs) {j : Int32} {x : Int32} (h0 : ¬ j < 0) (h1 : j.toNatClampNeg < vs.length) (hd : decode bs pc = .ok (.castore, 1)) (hq : pc + 1 = q) (k : ∀ T' h', Stand p l e R s m args below meth c T' (locs ++ [⟨a, j.toNatClampNeg⟩]) cells slots → T'.heap = h' → Wr h h' a j.toNatClampNeg (.int (nar .char x)) → Av Z h' a .char (vs.set j.toNatClampNeg (.int (nar .char x))) → G (T'.setTop (mkF m q Ls S))) : G (T.setTop (mkF m pc Ls (.int x :: .int j :: .ref a :: S))) := by
  subst hq
  obtain ⟨cl, A, r⟩ := F
  obtain ⟨T', h', X', e', W', st⟩ := stC X hx hZ eT A (j := j) (own_in r h0 h1) (g := mkF m pc Ls (.int x :: .int j :: .ref a :: S)) rfl rfl (hb hby hd)
  exact K _ _ st (k T' h' X' e' W' (Av.set ⟨cl, A, r⟩ W'))
theorem k_stB (K : Cl p e below G) (X : Stand p l e R s m args below meth c T locs cells slots) (hx : p.tables.exec = Jvm.exec) (hby : c.code = bs) (hZ : Z.Warmed39 s.vm) (eT : T.heap = h) (F : Av Z h a .byte vs) {j : Int32} {x : Int32} (h0 : ¬ j < 0) (h1 : j.toNatClampNeg < vs.length) (hd : decode bs pc = .ok (.bastore, 1)) (hq : pc + 1 = q) (k : ∀ T' h', Stand p l e R s m args below meth c T' (locs ++ [⟨a, j.toNatClampNeg⟩]) cells slots → T'.heap = h' → Wr h h' a j.toNatClampNeg (.int (nar .byte x)) → Av Z h' a .byte (vs.set j.toNatClampNeg (.int (nar .byte x))) → G (T'.setTop (mkF m q Ls S))) : G (T.setTop (mkF m pc Ls (.int x :: .int j :: .ref a :: S))) := by
  subst hq
  obtain ⟨cl, A, r⟩ := F
  obtain ⟨T', h', X', e', W', st⟩ := stB X hx hZ eT A (j := j) (own_in r h0 h1) (g := mkF m pc Ls (.int x :: .int j :: .ref a :: S)) rfl rfl (hb hby hd)
  exact K _ _ st (k T' h' X' e' W' (Av.set ⟨cl, A, r⟩ W'))
theorem k_stZ (K : Cl p e below G) (X : Stand p l e R s m args below meth c T locs cells slots) (hx : p.tables.exec = Jvm.exec) (hby : c.code = bs) (hZ : Z.Warmed39 s.vm) (eT : T.heap = h) (F : Av Z h a .boolean vs) {j : Int32} {x : Int32} (h0 : ¬ j < 0) (h1 : j.toNatClampNeg < vs.length) (hd : decode bs pc = .ok (.bastore, 1)) (hq : pc + 1 = q) (k : ∀ T' h', Stand p l e R s m args below meth c T' (locs ++ [⟨a, j.toNatClampNeg⟩]) cells slots → T'.heap = h' → Wr h h' a j.toNatClampNeg (.int (nar .boolean x)) → Av Z h' a .boolean (vs.set j.toNatClampNeg (.int (nar .boolean x))) → G (T'.setTop (mkF m q Ls S))) : G (T.setTop (mkF m pc Ls (.int x :: .int j :: .ref a :: S))) := by
  subst hq
  obtain ⟨cl, A, r⟩ := F
  obtain ⟨T', h', X', e', W', st⟩ := stZ X hx hZ eT A (j := j) (own_in r h0 h1) (g := mkF m pc Ls (.int x :: .int j :: .ref a :: S)) rfl rfl (hb hby hd)
  exact K _ _ st (k T' h' X' e' W' (Av.set ⟨cl, A, r⟩ W'))
theorem k_stD (K : Cl p e below G) (X : Stand p l e R s m args below meth c T locs cells slots) (hx : p.tables.exec = Jvm.exec) (hby : c.code = bs) (hZ : Z.Warmed39 s.vm) (eT : T.heap = h) (F : Av Z h a .double vs) {j : Int32} {x : UInt64} (h0 : ¬ j < 0) (h1 : j.toNatClampNeg < vs.length) (hd : decode bs pc = .ok (.dastore, 1)) (hq : pc + 1 = q) (k : ∀ T' h', Stand p l e R s m args below meth c T' (locs ++ [⟨a, j.toNatClampNeg⟩]) cells slots → T'.heap = h' → Wr h h' a j.toNatClampNeg (.double x) → Av Z h' a .double (vs.set j.toNatClampNeg (.double x)) → G (T'.setTop (mkF m q Ls S))) : G (T.setTop (mkF m pc Ls (.double x :: .int j :: .ref a :: S))) := by
  subst hq
  obtain ⟨cl, A, r⟩ := F
  obtain ⟨T', h', X', e', W', st⟩ := stD X hx hZ eT A (j := j) (own_in r h0 h1) (g := mkF m pc Ls (.double x :: .int j :: .ref a :: S)) rfl rfl (hb hby hd)
  exact K _ _ st (k T' h' X' e' W' (Av.set ⟨cl, A, r⟩ W'))
def Avr (Z : State) (h : Heap) (a : Addr) (C : String) (vs : List Value) : Prop := ∃ cl : Cell, Arr Z h a cl (.object C) ∧ cl.slots = vs.toArray ∧ Ovr Z cl.cls C
variable {C : String}
theorem Avr.av (F : Avr Z h a C vs) : Av Z h a (.object C) vs := by obtain ⟨c, A, r, -⟩ := F; exact ⟨c, A, r⟩
theorem Avr.lt (F : Avr Z h a C vs) : a < h.size := F.av.lt
theorem Avr.ext (F : Avr Z h a C vs) (E : Ext h h') : Avr Z h' a C vs := by obtain ⟨c, A, r⟩ := F; exact ⟨c, A.ext E, r⟩
theorem Avr.other (F : Avr Z h b C vs) (W : Wr h h' a sl v) (q : b ≠ a) : Avr Z h' b C vs := by obtain ⟨c, A, r⟩ := F; exact ⟨c, A.other W q, r⟩
theorem Avr.keep (F : Avr Z h a C vs) (K : Keep h h' ws) (q : a ∉ ws) : Avr Z h' a C vs := by obtain ⟨c, A, r⟩ := F; exact ⟨c, ⟨K.2.1 a c A.1 q, A.2⟩, r⟩
theorem Avr.new {k : ClassId} {z : Int32} {n : Nat} (A : Arr Z h a (newA k (.object C) z) (.object C)) (O : Ovr Z k C) (hn : z.toNatClampNeg = n) : Avr Z h a C (List.replicate n .null) := ⟨_, A, by subst hn; simp [newA, defaultValue], O⟩
theorem Avr.set (F : Avr Z h a C vs) (W : Wr h h' a sl v) : Avr Z h' a C (vs.set sl v) := by
  obtain ⟨c, A, r, O⟩ := F
  exact ⟨_, A.same W, by simp [Cell.setSlot, r], O⟩
theorem k_stR (K : Cl p e below G) (X : Stand p l e R s m args below meth c T locs cells slots) (hx : p.tables.exec = Jvm.exec) (hby : c.code = bs) (hZ : Z.Warmed39 s.vm) (eT : T.heap = h) (F : Avr Z h a C vs) {j : Int32} (h0 : ¬ j < 0) (h1 : j.toNatClampNeg < vs.length) (hv : v = .null ∨ ∃ y, v = .ref y ∧ Ins Z h y C true) (hd : decode bs pc = .ok (.aastore, 1)) (hq : pc + 1 = q) (k : ∀ T' h', Stand p l e R s m args below meth c T' (locs ++ [⟨a, j.toNatClampNeg⟩]) cells slots → T'.heap = h' → Wr h h' a j.toNatClampNeg v → Avr Z h' a C (vs.set j.toNatClampNeg v) → G (T'.setTop (mkF m q Ls S))) : G (T.setTop (mkF m pc Ls (v :: .int j :: .ref a :: S))) := by
  subst hq
  obtain ⟨cl, A, r, O⟩ := F
  have St : Sto Z h a v := by
    rcases hv with rfl | ⟨y, rfl, I⟩
    · exact Or.inl rfl
    · exact Sto.of A O I
  obtain ⟨T', h', X', e', W', st⟩ := stR X hx hZ eT A (j := j) (own_in r h0 h1) rfl St (g := mkF m pc Ls (v :: .int j :: .ref a :: S)) rfl rfl (hb hby hd)
  exact K _ _ st (k T' h' X' e' W' (Avr.set ⟨cl, A, r, O⟩ W'))
theorem k_newP (K : Cl p e below G) (X : Stand p l e R s m args below meth c T locs cells slots) (hx : p.tables.exec = Jvm.exec) (hby : c.code = bs) (hZ : Z.Warmed39 s.vm) {aty : ArrayType} {n : Int32} (N cap : Nat) (w : (Jvm.Cond.arrayClass (newarray.typeOf aty)).before a0 Z = true) (eT : T.heap = h) (hd : decode bs pc = .ok (.newarray aty, 2)) (hq : pc + 2 = q) (hn : ¬ n < 0) (hN : n.toNatClampNeg = N) (hcap : N ≤ cap) (hcb : cap * 8 ≤ 536870912) (hc : cells + 1 ≤ R.cells) (hl : slots + cap ≤ R.slots)
    (k : ∀ T' h' b, Stand p l e R s m args below meth c T' locs (cells + 1) (slots + cap) → T'.heap = h' → Ext h h' → b = h.size → Av Z h' b (newarray.typeOf aty) (List.replicate N (defaultValue (newarray.typeOf aty))) → G (T'.setTop (mkF m q Ls (.ref b :: S)))) : G (T.setTop (mkF m pc Ls (.int n :: S))) := by
  subst hq hN
  obtain ⟨T', h', kA, X', e', E', A', st⟩ := newP X hx hZ w eT (g := mkF m pc Ls (.int n :: S)) rfl (hb hby hd) rfl hn hcap hcb hc hl
  exact K _ _ st (k T' h' _ X' e' E' rfl (Av.new A' rfl))
theorem k_newR (K : Cl p e below G) (X : Stand p l e R s m args below meth c T locs cells slots) (hx : p.tables.exec = Jvm.exec) (hby : c.code = bs) (hZ : Z.Warmed39 s.vm) {own : String} {i : Nat} {n : Int32} (N cap : Nat) (hown : s.vm.findClass own = some m.cls) (w1 : (Jvm.Cond.classLink own i C).before a0 Z = true) (w2 : (Jvm.Cond.arrayOver (.object C)).before a0 Z = true) (eT : T.heap = h) (hd : decode bs pc = .ok (.anewarray i, 3)) (hq : pc + 3 = q) (hn : ¬ n < 0) (hN : n.toNatClampNeg = N) (hcap : N ≤ cap) (hcb : cap * 8 ≤ 536870912) (hc : cells + 1 ≤ R.cells) (hl : slots + cap ≤ R.slots)
    (k : ∀ T' h' b, Stand p l e R s m args below meth c T' locs (cells + 1) (slots + cap) → T'.heap = h' → Ext h h' → b = h.size → Avr Z h' b C (List.replicate N .null) → G (T'.setTop (mkF m q Ls (.ref b :: S)))) : G (T.setTop (mkF m pc Ls (.int n :: S))) := by
  subst hq hN
  obtain ⟨T', h', kA, X', e', E', A', O', st⟩ := newR X hx hZ hown w1 w2 eT (g := mkF m pc Ls (.int n :: S)) rfl (hb hby hd) rfl hn hcap hcb hc hl
  exact K _ _ st (k T' h' _ X' e' E' rfl (Avr.new A' O' rfl))
theorem own_ge {H : Heap} {b c : Addr} {j : Nat} (g : b = H.size) (q : c = b + 1 + j) : H.size ≤ c := by subst g q; exact Nat.le_trans (Nat.le_add_right _ _) (Nat.le_add_right _ _)
theorem own_le {b c : Addr} {j : Nat} (q : c = b + 1 + j) : b ≤ c := by subst q; exact Nat.le_trans (Nat.le_add_right _ _) (Nat.le_add_right _ _)
theorem own_ne {b c : Addr} {j : Nat} (q : c = b + 1 + j) : b ≠ c := by subst q; exact Nat.ne_of_lt (Nat.lt_of_lt_of_le (Nat.lt_succ_self _) (Nat.le_add_right _ _))
theorem own_ne2 {b c d : Addr} {i j : Nat} (q : c = b + 1 + i) (r : d = b + 1 + j) (h : i ≠ j) : c ≠ d := by subst q r; exact fun e => h (Nat.add_left_cancel e)
end OwnArr
theorem W {Z : State} {a0 : Array Value} (hw : ∀ d ∈ tables_1, d.before a0 Z = true) (i : Nat) {d : Jvm.Cond} (h : tables_1[i]? = some d) : d.before a0 Z = true := hw _ (List.mem_of_getElem? h)
section OwnWide
variable {p : Program} {l : Launch} {e : Env} {R : Room} {s : State} {m : MethodId} {args : Array Value} {below : List Frame} {meth : Method} {c : Code} {T : State} {locs : List Loc} {cells slots : Nat} {Z : State} {a0 : Array Value} {h h' : Heap} {a b : Addr} {ty : FieldType} {vs : List Value} {v : Value} {sl : Nat} {ws : List Addr} {bs : ByteArray} {pc q : Nat} {Ls : Array Slot} {S : List Value} {G : State → Prop}
variable {vm0 : Vm} {k0 : Nat}
def GoW (p : Program) (e : Env) (below : List Frame) (s : State) (C N : Nat) (Q : PQ) (A : State) : Prop :=
  ∃ s₂ o, Steps p.tables e below A s₂ ∧ s₂.status = .running ∧ Ended s₂ below o ∧ ∃ v L, o = .returned v ∧ Q v s₂.heap L ∧ ReturnedEndW s o s₂ L C N
theorem GoW.cl {C N : Nat} {Q : PQ} : Cl p e below (GoW p e below s C N Q) := fun A B k ⟨s2, o, h1, r⟩ => ⟨s2, o, k _ h1, r⟩
theorem GoW.of_go {C N : Nat} {Q : PQ} {A : State} (g : Go p e below s C N Q A) : GoW p e below s C N Q A := by
  obtain ⟨s2, o, h1, h2, h3, v, L, h4, h5, h6⟩ := g
  exact ⟨s2, o, h1, h2, h3, v, L, h4, h5, ReturnedEndW.of_narrow h6.1 h6.2.1 h6.2.2⟩
theorem GoW.of_since {C N : Nat} {Q : PQ} {A : State} (hS : s.Since vm0 k0) (g : Go p e below (s.setVm vm0) C N (fun v h L => Q v h L ∧ k0 ≤ h.size) A) : GoW p e below s C N Q A := by
  obtain ⟨s2, o, h1, h2, h3, v, L, h4, ⟨h5, h5'⟩, h6⟩ := g
  obtain ⟨a, b, c⟩ := hS.ended h6.2.1 h5' h6.2.2
  exact ⟨s2, o, h1, h2, h3, v, L, h4, h5, h6.1, a, b, c⟩
def ConW (l : Launch) (Z : State) (y : MethodName) (bytes : ByteArray) (maxL : Nat) (ret : Option FieldType) (rm : Room) (ws : List Jvm.Cond) (as' : Array Value) (h : Heap) (Q : PQ) : Prop :=
  MetFree l y (head1 (Jvm.Cond.code y bytes maxL ret :: ws) rm) (fun a U => a = as' ∧ Z.Warmed39 U.vm ∧ U.heap = h ∧ U.vm.interned = Z.vm.interned) (fun _ _ _ _ _ => True) (fun _ U o U' => ∃ v L, o = .returned v ∧ Q v U'.heap L ∧ ReturnedEndW U o U' L rm.cells rm.slots)
theorem ConW.of {y : MethodName} {bytes : ByteArray} {maxL : Nat} {ret : Option FieldType} {rm : Room} {ws : List Jvm.Cond} {as' : Array Value} {Q : PQ} (hpl : plainFor y = true) (Ls : Array Slot) (hef : ∀ m, entryFrame m as' maxL = mkF m 0 Ls [])
    (body : ∀ p e s m below meth c s₁, Cl p e below (GoW p e below s rm.cells rm.slots Q) → p.tables.exec = Jvm.exec → c.code = bytes → c.maxLocals = maxL → s.vm.findClass y.cls = some m.cls → meth.name = y.name → meth.sig.returnType = ret → meth.locks = false → Z.Warmed39 s.vm → Stand p l e rm s m as' below meth c s₁ [] 0 0 → s₁.heap = h → s.heap = h → s.vm.interned = Z.vm.interned →
      GoW p e below s rm.cells rm.slots Q (s₁.setTop (mkF m 0 Ls []))) : ConW l Z y bytes maxL ret rm ws as' h Q := by
  refine MetFree.of_bodySF hpl hisR ?_
  intro p e s m args below meth c s₁ Bd hml0 hP hK
  obtain ⟨rfl, hZ, hh, hI⟩ := hP
  have r := body p e s m below meth c s₁ GoW.cl Bd.exec Bd.bytes hml0 (findClass_of_methodNamed Bd.named) (name_of_methodNamed Bd.named Bd.method).1 Bd.returns Bd.notSynchronized hZ (Stand.of_body Bd) (by rw [← hh, Bd.state]; rfl) hh hI
  rw [← hef m] at r
  exact r
theorem ConW.back {y : MethodName} {bytes : ByteArray} {maxL : Nat} {ret : Option FieldType} {rm : Room} {as' : Array Value} {Q : PQ} {len W : Nat} (K : ConW l Z y bytes maxL ret rm [] as' h Q)
    (hZ : Z.Warmed39 s.vm) (hI : s.vm.interned = Z.vm.interned) (wc : (Jvm.Cond.code y bytes maxL ret).before a0 Z = true) (wz : (Jvm.Cond.initialized y.cls).before a0 Z = true) (hf : rm.frames + 1 ≤ R.frames) (hl : W + (maxL + 11) + rm.locals ≤ R.locals) :
    BackS l R p e below s args y len W (fun A a => a = as' ∧ A.U.heap = h ∧ A.cells + rm.cells ≤ R.cells ∧ A.slots + rm.slots ≤ R.slots)
      (fun A _ v B => ∃ L, Q v B.U.heap L ∧ B.locs = A.locs ++ L ∧ B.cells = A.cells + rm.cells ∧ B.slots = A.slots + rm.slots) :=
  BackS.of_freeW (bytes := bytes) (maxL := maxL) (ret := ret) (E := fun _ _ o t L k n => k = rm.cells ∧ n = rm.slots ∧ ∃ v, o = .returned v ∧ Q v t.heap L) K hf hl
    (fun m meth c A a Y hp => have hU : Z.Warmed39 A.U.vm := wtrans hZ Y.warmed
      ⟨by show (Cond.and _ .tt).before a A.U = true; rw [Cond.before_and, mv hU wc]; rfl, mv hU wc, mv hU wz, hp.2.2.1, hp.2.2.2⟩)
    (fun m meth c A a g mk Y hp => ⟨hp.1, wtrans hZ Y.warmed, hp.2.1, Y.warmed.interned_eq.trans hI⟩) (fun _ _ _ _ _ _ _ _ _ => trivial)
    (fun _ _ _ _ ⟨v, L, h1, h2, h3⟩ => ⟨L, _, _, h3, rfl, rfl, v, h1, h2⟩)
    (fun m meth c A a g mk v t L k n Y hp _ _ ⟨e1, e2, v', e3, e4⟩ => by cases e3; subst e1 e2; exact ⟨L, e4, rfl, rfl, rfl⟩)
theorem k_callPW (K : Cl p e below G) (X : Stand p l e R s m args below meth c T locs cells slots) (hx : p.tables.exec = Jvm.exec) (hby : c.code = bs) (hZ : Z.Warmed39 s.vm) (hI : s.vm.interned = Z.vm.interned) {own : String} {i : Nat} {y : MethodName} {bytes : ByteArray} {maxL : Nat} {rm : Room} {Q : PQ} {as' : Array Value} {ps : List FieldType} {r : Option FieldType} (a : Addr) (argsL rest : List Value) (hown : s.vm.findClass own = some m.cls) (w1 : (Jvm.Cond.methodLink own i y).before a0 Z = true) (w2 : (Jvm.Cond.instanceMethod y).before a0 Z = true) (w3 : (Jvm.Cond.initialized y.cls).before a0 Z = true) (w4 : (Jvm.Cond.code y bytes maxL none).before a0 Z = true) (hy1 : y.name = "<init>")
    (C : ConW l Z y bytes maxL none rm [] as' h Q) (eT : T.heap = h) (has : (.ref a :: argsL).toArray = as') (hs : S = argsL.reverse ++ .ref a :: rest) (hps : parseMethodDescriptor y.desc = some ⟨ps, r⟩) (hl : argsL.length = ps.length) (hd : decode bs pc = .ok (.invokespecial i, 3)) (hsz : Ls.size = c.maxLocals) (hq : pc + 3 = q) (hy : y.cls ≠ "java/lang/invoke/MethodHandle" ∧ y.cls ≠ "java/lang/invoke/VarHandle") (hf : rm.frames + 1 ≤ R.frames) (hlo : (rest.map fun v => v.category).sum + (maxL + 11) + rm.locals ≤ R.locals) (hc : cells + rm.cells ≤ R.cells) (hn : slots + rm.slots ≤ R.slots)
    (k : ∀ v T' L, Stand p l e R (s.setVm T'.vm) m args below meth c T' (locs ++ L) (cells + rm.cells) (slots + rm.slots) → Q v T'.heap L → s.Since T'.vm T'.heap.size → Z.Warmed39 (s.setVm T'.vm).vm → (s.setVm T'.vm).vm.findClass own = some m.cls → G (T'.setTop (mkF m q Ls (v.toList ++ rest)))) : G (T.setTop (mkF m pc Ls S)) := by
  subst has hs hq
  obtain ⟨v, _, ⟨T', L', k', n'⟩, -, X', hS, -, ⟨Lc, hQ, l1, y1, z1⟩, st⟩ := X.specialBackS hx (y := y) hy1 hown (mvT hZ w1) (mvT hZ w2) (mvT hZ w4) hy (C.back (W := (rest.map fun v => v.category).sum) hZ hI w4 w3 hf hlo) (g := mkF m pc Ls (argsL.reverse ++ .ref a :: rest)) rfl hsz (Steps.refl _) (a := a) (argsL := argsL) (rest := rest) (lenOf hps hl) rfl (by show 2 * 0 + _ ≤ _; exact Nat.le_of_eq (Nat.zero_add _)) (hb hby hd) (fun _ _ => ⟨rfl, eT, hc, hn⟩)
  dsimp only at X' l1 y1 z1 st hQ hS
  subst l1 y1 z1
  exact K _ _ (fun t k => st.trans k) (k v T' Lc X' hQ hS (State.Warmed39.trans (t := s) hZ hS.1) ((hS.1.alike.findClass _ _).trans hown))
theorem k_callSW (K : Cl p e below G) (X : Stand p l e R s m args below meth c T locs cells slots) (hx : p.tables.exec = Jvm.exec) (hby : c.code = bs) (hZ : Z.Warmed39 s.vm) (hI : s.vm.interned = Z.vm.interned) {own : String} {i : Nat} {y : MethodName} {bytes : ByteArray} {maxL : Nat} {ret : Option FieldType} {rm : Room} {Q : PQ} {as' : Array Value} {ps : List FieldType} {r : Option FieldType} (argsL rest : List Value) (hown : s.vm.findClass own = some m.cls) (w1 : (Jvm.Cond.methodLink own i y).before a0 Z = true) (w2 : (Jvm.Cond.static y).before a0 Z = true) (w3 : (Jvm.Cond.initialized y.cls).before a0 Z = true) (w4 : (Jvm.Cond.code y bytes maxL ret).before a0 Z = true)
    (C : ConW l Z y bytes maxL ret rm [] as' h Q) (eT : T.heap = h) (has : argsL.toArray = as') (hs : S = argsL.reverse ++ rest) (hps : parseMethodDescriptor y.desc = some ⟨ps, r⟩) (hl : argsL.length = ps.length) (hd : decode bs pc = .ok (.invokestatic i, 3)) (hsz : Ls.size = c.maxLocals) (hq : pc + 3 = q) (hy : y.cls ≠ "java/lang/invoke/MethodHandle" ∧ y.cls ≠ "java/lang/invoke/VarHandle") (hf : rm.frames + 1 ≤ R.frames) (hlo : (rest.map fun v => v.category).sum + (maxL + 11) + rm.locals ≤ R.locals) (hc : cells + rm.cells ≤ R.cells) (hn : slots + rm.slots ≤ R.slots)
    (k : ∀ v T' L, Stand p l e R (s.setVm T'.vm) m args below meth c T' (locs ++ L) (cells + rm.cells) (slots + rm.slots) → Q v T'.heap L → s.Since T'.vm T'.heap.size → Z.Warmed39 (s.setVm T'.vm).vm → (s.setVm T'.vm).vm.findClass own = some m.cls → G (T'.setTop (mkF m q Ls (v.toList ++ rest)))) : G (T.setTop (mkF m pc Ls S)) := by
  subst has hs hq
  obtain ⟨v, _, ⟨T', L', k', n'⟩, -, X', hS, -, ⟨Lc, hQ, l1, y1, z1⟩, st⟩ := Jvm.RoadKit.callSS X hx (y := y) hown (mvT hZ w1) (mvT hZ w2) (mvT hZ w3) (mvT hZ w4) hy (C.back (W := (rest.map fun v => v.category).sum) hZ hI w4 w3 hf hlo) (g := mkF m pc Ls (argsL.reverse ++ rest)) rfl hsz (argsL := argsL) (rest := rest) (lenOf hps hl) rfl (by show 2 * 0 + _ ≤ _; exact Nat.le_of_eq (Nat.zero_add _)) (hb hby hd) (fun _ _ => ⟨rfl, eT, hc, hn⟩)
  dsimp only at X' l1 y1 z1 st hQ hS
  subst l1 y1 z1
  exact K _ _ (fun t k => st.trans k) (k v T' Lc X' hQ hS (State.Warmed39.trans (t := s) hZ hS.1) ((hS.1.alike.findClass _ _).trans hown))
theorem k_ldcS (K : Cl p e below G) (X : Stand p l e R s m args below meth c T locs cells slots) (hx : p.tables.exec = Jvm.exec) (hby : c.code = bs) (hZ : Z.Warmed39 s.vm) (hI : s.vm.interned = Z.vm.interned) {own text : String} {i : Nat} (hown : s.vm.findClass own = some m.cls) (w : (Jvm.Cond.stringLink own i text).before a0 Z = true) (wS : ∀ a ∈ Bundle.stringAtoms, a.before a0 Z = true)
    (eT : T.heap = h) (N : Fr s.heap.size locs) (hkeep : ∀ (b : Addr) (cl : Cell), Z.heap[b]? = some cl → s.heap[b]? = some cl) (hh : Jvm.Lit.constHeld Z own i) (hcw : Jvm.Lit.compactW.before a0 Z = true)
    {vs : List Value} (z : Int32) (ht : (∀ c ∈ text.toList, c.toNat < 256) ∧ text.toList.map (fun c => Value.int (Jvm.Lit.byteI c.toNat.toUInt16)) = vs) (hz : ¬ z < 0) (hl : z.toNatClampNeg = vs.length) (hd : decode bs pc = .ok (.ldc i, 2)) (hq : pc + 2 = q) (n : Nat) (hn : 4 * text.toList.length ≤ n) (hbig : n ≤ 536870912) (hc : cells + 2 ≤ R.cells) (hl' : slots + (n + 4) ≤ R.slots)
    (k : ∀ a T' h' k1 b, Stand p l e R (s.setVm T'.vm) m args below meth c T' locs (cells + 2) (slots + (n + 4)) → T'.heap = h' → Ext h h' → s.Since T'.vm k1 → k1 ≤ h'.size → Z.Warmed39 (s.setVm T'.vm).vm → (s.setVm T'.vm).vm.findClass own = some m.cls →
      Exa Z h' a "java/lang/String" → Fld Z h' a "java/lang/String" "coder" "B" (.int 0) → Fld Z h' a "java/lang/String" "value" "[B" (.ref b) → Av Z h' b .byte vs → Lit (s.setVm T'.vm) own i a → G (T'.setTop (mkF m q Ls (.ref a :: S)))) : G (T.setTop (mkF m pc Ls S)) := by
  subst hq
  obtain ⟨a, T', h', k1, b, kk, r1, r2, r3, r4, r5, r6, r7, r8, r9, r10, r11, -, -, -, r15, st⟩ := ldcSVL (s := s) (vm0 := s.vm) (Ts := []) (z := z) (show Stand p l e R (s.setVm s.vm) m args below meth c T locs cells slots from X) hx hZ hown w wS eT (k0 := 0) ((State.WarmedH.refl s).since 0) (Nat.zero_le _) N hkeep ⟨#[], by rw [hI]; simp, fun q hq => by simp at hq⟩ (by simp) hh hcw ht hz hl (g := mkF m pc Ls S) rfl (hb hby hd) hn hbig hc hl'
  exact K _ _ st (k a T' h' k1 b r1 r2 r3 r4 r5 r6 r7 r8 r9 r10 (Av.ofArv r11 hl) r15)
theorem k_ldcA (K : Cl p e below G) (X : Stand p l e R (s.setVm vm0) m args below meth c T locs cells slots) (hx : p.tables.exec = Jvm.exec) (hby : c.code = bs) (hZ : Z.Warmed39 (s.setVm vm0).vm) {own text : String} {i : Nat} (hown : (s.setVm vm0).vm.findClass own = some m.cls) (w : (Jvm.Cond.stringLink own i text).before a0 Z = true) {x : Addr} (L : Lit (s.setVm vm0) own i x)
    (hd : decode bs pc = .ok (.ldc i, 2)) (hq : pc + 2 = q) (hr : G (T.setTop (mkF m q Ls (.ref x :: S)))) : G (T.setTop (mkF m pc Ls S)) := by
  subst hq
  exact K _ _ (ldcAgain (s := s) (vm0 := vm0) X hx hZ hown w L (g := mkF m pc Ls S) rfl (hb hby hd)) hr
theorem own_objArr {C : String} {n : Nat} (E : Exa Z h a C) (F : Av Z h b ty vs) (w : (Jvm.Cond.instantiable C n).before a0 Z = true) : a ≠ b := fun q => by
  obtain ⟨cl, A, -⟩ := F
  subst q
  obtain ⟨cell, k, h1, h2, h3, -, -⟩ := E
  cases h1.symm.trans A.1
  obtain ⟨c0, k0, g1, g2, g3⟩ := Cond.instantiable_spec w
  cases h2.symm.trans g1
  obtain ⟨-, k9, e1, comp, e2⟩ := A.2.1
  cases e1.symm.trans g2
  simp_all
end OwnWide
def BLO (c : Int32) : Int32 := nar .byte ((c >>> ((0 : Int32) &&& 31)).toInt8.toInt32)
def BHI (c : Int32) : Int32 := nar .byte ((c >>> ((8 : Int32) &&& 31)).toInt8.toInt32)
def GCH (x y : Int32) : Int32 := (((x &&& (255 : Int32)) <<< ((0 : Int32) &&& 31)) ||| ((y &&& (255 : Int32)) <<< ((8 : Int32) &&& 31))).toUInt32.toUInt16.toUInt32.toInt32
def LCH (x : Int32) : Int32 := (x &&& (255 : Int32)).toUInt32.toUInt16.toUInt32.toInt32
theorem own_nc (x : Int32) : nar .char (x.toUInt32.toUInt16.toUInt32.toInt32) = x.toUInt32.toUInt16.toUInt32.toInt32 := by
  show (x.toUInt32.toUInt16.toUInt32.toInt32).toUInt32.toUInt16.toUInt32.toInt32 = _
  have e : (x.toUInt32.toUInt16.toUInt32.toInt32).toUInt32.toUInt16 = x.toUInt32.toUInt16 := by
    rw [UInt32.toUInt32_toInt32]; exact UInt16.toUInt16_toUInt32 _
  rw [e]
theorem own_e (c : Int32) (h : nar .char c = c) : c = Int32.ofNat (c.toUInt32.toUInt16.toNat) := by
  have h' : c.toUInt32.toUInt16.toUInt32.toInt32 = c := h
  generalize c.toUInt32.toUInt16 = u at h'
  subst h'
  have hb := u.toNat_lt
  apply Int32.toBitVec_inj.mp
  apply BitVec.eq_of_toNat_eq
  simp
theorem own_lch (x : Int32) : ¬ ((255 : Int32) < LCH x) := by
  have hm := c_mask x (255 : Int32) 8 (by decide) (by decide)
  have h0 : 0 ≤ (x &&& (255 : Int32)).toInt ∧ (x &&& (255 : Int32)).toInt < 256 := by omega
  have e : LCH x = x &&& (255 : Int32) := by
    unfold LCH
    generalize x &&& (255 : Int32) = y at h0
    obtain ⟨n, hn, rfl⟩ : ∃ n : Nat, n < 256 ∧ y = Int32.ofNat n := ⟨y.toInt.toNat, by omega, Int32.toInt_inj.mp (by rw [Int32.toInt_ofNat_small (by omega)]; omega)⟩
    have : ∀ n : Fin 256, (Int32.ofNat n.val).toUInt32.toUInt16.toUInt32.toInt32 = Int32.ofNat n.val := by decide +kernel
    exact this ⟨n, hn⟩
  rw [e, Int32.lt_iff_toInt_lt]
  have e1 : (255 : Int32).toInt = 255 := rfl
  omega
theorem own_rec (c : Int32) (h : nar .char c = c) : GCH (BLO c) (BHI c) = c := by
  have h' : c.toUInt32.toUInt16.toUInt32.toInt32 = c := h
  have hc := c_i2c c
  rw [h'] at hc
  apply Int32.toInt_inj.mp
  have s0 := c_ishr c (0 : Int32) 0 (by decide)
  have s8 := c_ishr c (8 : Int32) 8 (by decide)
  have eL : BLO c = ((c >>> ((0 : Int32) &&& 31)).toInt8.toInt32).toInt8.toInt32 := rfl
  have eH : BHI c = ((c >>> ((8 : Int32) &&& 31)).toInt8.toInt32).toInt8.toInt32 := rfl
  have l1 := c_i2b (c >>> ((0 : Int32) &&& 31))
  have l2 := c_i2b ((c >>> ((0 : Int32) &&& 31)).toInt8.toInt32)
  have h1 := c_i2b (c >>> ((8 : Int32) &&& 31))
  have h2 := c_i2b ((c >>> ((8 : Int32) &&& 31)).toInt8.toInt32)
  rw [← eL] at l2
  rw [← eH] at h2
  have mL := c_mask (BLO c) (255 : Int32) 8 (by decide) (by decide)
  have mH := c_mask (BHI c) (255 : Int32) 8 (by decide) (by decide)
  have xL := c_ishl (BLO c &&& (255 : Int32)) (0 : Int32) 0 (by decide)
  have xH := c_ishl (BHI c &&& (255 : Int32)) (8 : Int32) 8 (by decide)
  have rL := rng32 ((BLO c &&& (255 : Int32)) <<< ((0 : Int32) &&& 31))
  have rH := rng32 ((BHI c &&& (255 : Int32)) <<< ((8 : Int32) &&& 31))
  have o1 := c_or' ((BLO c &&& (255 : Int32)) <<< ((0 : Int32) &&& 31)) ((BHI c &&& (255 : Int32)) <<< ((8 : Int32) &&& 31)) 8 (by decide) 256 (by decide)
  have ro := rng32 (((BLO c &&& (255 : Int32)) <<< ((0 : Int32) &&& 31)) ||| ((BHI c &&& (255 : Int32)) <<< ((8 : Int32) &&& 31)))
  have i1 := c_i2c (((BLO c &&& (255 : Int32)) <<< ((0 : Int32) &&& 31)) ||| ((BHI c &&& (255 : Int32)) <<< ((8 : Int32) &&& 31)))
  unfold GCH
  generalize ((BLO c &&& (255 : Int32)) <<< ((0 : Int32) &&& 31)) ||| ((BHI c &&& (255 : Int32)) <<< ((8 : Int32) &&& 31)) = o at *
  omega
theorem own_rgt (c : Int32) (h : nar .char c = c) (g : (255 : Int32) < c) : (255 : Int32) < GCH (BLO c) (BHI c) := by rw [own_rec c h]; exact g
theorem own_rle (c : Int32) (h : nar .char c = c) (g : ¬ ((255 : Int32) < c)) : ¬ ((255 : Int32) < GCH (BLO c) (BHI c)) := by rw [own_rec c h]; exact g
def SSt (Z : State) (cz : Int32) (vf : Value) : Prop := Sta Z Z.heap "java/lang/String" "COMPACT_STRINGS" "Z" (.int cz) ∧ Sta Z Z.heap "jdk/internal/util/Preconditions" "SIOOBE_FORMATTER" "Ljava/util/function/BiFunction;" vf ∧ Sta Z Z.heap "java/lang/StringUTF16" "$assertionsDisabled" "Z" (.int (1 : Int32)) ∧ Sta Z Z.heap "java/lang/StringUTF16" "HI_BYTE_SHIFT" "I" (.int (0 : Int32)) ∧ Sta Z Z.heap "java/lang/StringUTF16" "LO_BYTE_SHIFT" "I" (.int (8 : Int32)) ∧ ¬ (cz = (0 : Int32)) ∧ vf.isRef = true
theorem SSt.cs {Z : State} {cz : Int32} {vf : Value} (h : SSt Z cz vf) : Sta Z Z.heap "java/lang/String" "COMPACT_STRINGS" "Z" (.int cz) := h.1
theorem SSt.si {Z : State} {cz : Int32} {vf : Value} (h : SSt Z cz vf) : Sta Z Z.heap "jdk/internal/util/Preconditions" "SIOOBE_FORMATTER" "Ljava/util/function/BiFunction;" vf := h.2.1
theorem SSt.ad {Z : State} {cz : Int32} {vf : Value} (h : SSt Z cz vf) : Sta Z Z.heap "java/lang/StringUTF16" "$assertionsDisabled" "Z" (.int (1 : Int32)) := h.2.2.1
theorem SSt.hi {Z : State} {cz : Int32} {vf : Value} (h : SSt Z cz vf) : Sta Z Z.heap "java/lang/StringUTF16" "HI_BYTE_SHIFT" "I" (.int (0 : Int32)) := h.2.2.2.1
theorem SSt.lo {Z : State} {cz : Int32} {vf : Value} (h : SSt Z cz vf) : Sta Z Z.heap "java/lang/StringUTF16" "LO_BYTE_SHIFT" "I" (.int (8 : Int32)) := h.2.2.2.2.1
theorem SSt.cz {Z : State} {cz : Int32} {vf : Value} (h : SSt Z cz vf) : ¬ (cz = (0 : Int32)) := h.2.2.2.2.2.1
theorem SSt.rf {Z : State} {cz : Int32} {vf : Value} (h : SSt Z cz vf) : vf.isRef = true := h.2.2.2.2.2.2
theorem own_wS {Z : State} {a0 : Array Value} (hw : ∀ d ∈ tables_1, d.before a0 Z = true) : ∀ a ∈ Bundle.stringAtoms, a.before a0 Z = true := by
  intro a ha
  simp only [Bundle.stringAtoms, Bundle.sN, List.mem_cons, List.not_mem_nil, or_false] at ha
  rcases ha with rfl | rfl | rfl | rfl | rfl | rfl | rfl
  · exact (W hw 7 rfl)
  · exact (W hw 6 rfl)
  · exact (W hw 19 rfl)
  · exact (W hw 20 rfl)
  · exact (W hw 21 rfl)
  · exact (W hw 22 rfl)
  · exact (W hw 23 rfl)
theorem d_jdk_41_11_0 : decode jdk_41_method_11_code 0 = .ok (.iload_n 0, 1) := by decide +kernel
theorem d_jdk_41_11_1 : decode jdk_41_method_11_code 1 = .ok (.ifCond .lt 8, 3) := by decide +kernel
theorem d_jdk_41_11_4 : decode jdk_41_method_11_code 4 = .ok (.iload_n 0, 1) := by decide +kernel
theorem d_jdk_41_11_5 : decode jdk_41_method_11_code 5 = .ok (.iload_n 1, 1) := by decide +kernel
theorem d_jdk_41_11_6 : decode jdk_41_method_11_code 6 = .ok (.if_icmp .lt 10, 3) := by decide +kernel
theorem d_jdk_41_11_16 : decode jdk_41_method_11_code 16 = .ok (.iload_n 0, 1) := by decide +kernel
theorem d_jdk_41_11_17 : decode jdk_41_method_11_code 17 = .ok (.ireturn, 1) := by decide +kernel
theorem pn_jdk_internal_util_Preconditions : plainName "jdk/internal/util/Preconditions" = true := by first | (simp [plainName, overriddenIn]; done) | decide +kernel
theorem efpin (m : MethodId) (x0 : Int32) (x1 : Int32) : entryFrame m #[(.int x0), (.int x1), .null] 3 = mkF m 0 #[.val (.int x0), .val (.int x1), .val .null] [] := by first | (simp [entryFrame, mkF, argsToLocals, Value.category]; done) | rfl
set_option maxRecDepth 65536 in
set_option maxHeartbeats 40000000 in
theorem cpin (l : Launch) (Z : State) (a0 : Array Value) (hw : ∀ d ∈ tables_1, d.before a0 Z = true) (p1 : Int32) (p2 : Int32) (h0 : Heap) (n0 : Nat) (Z0 : n0 ≤ h0.size) (g0 : ¬ (p1 < (0 : Int32))) (g1 : p1 < p2) :
    Con l Z (⟨"jdk/internal/util/Preconditions", "checkIndex", "(IILjava/util/function/BiFunction;)I"⟩ : MethodName) jdk_41_method_11_code 3 (some .int) ({ frames := 0, cells := 0, slots := 0, locals := 0 } : Room) [] #[(.int p1), (.int p2), .null] h0 (fun v h L => v = some (.int p1) ∧ h = h0 ∧ L = []) := by
  refine Con.of (plainFor_of_name pn_jdk_internal_util_Preconditions) #[.val (.int p1), .val (.int p2), .val .null] (fun m => efpin m p1 p2) ?_
  intro p e s m below meth c s₁ K hx hby hml hown hnm hret hlk hZ X0 e0
  have N0 := Fr.nil n0
  refine m_iloadN K X0.here hx hby d_jdk_41_11_0 rfl rfl ?_
  refine m_ifN K X0.here hx hby (q := 4) d_jdk_41_11_1 ((if0 _ _).trans (flt g0).1) rfl ?_
  refine m_iloadN K X0.here hx hby d_jdk_41_11_4 rfl rfl ?_
  refine m_iloadN K X0.here hx hby d_jdk_41_11_5 rfl rfl ?_
  refine m_icmpY K X0.here hx hby (q := 16) d_jdk_41_11_6 (tlt g1).1 (by decide) rfl ?_
  refine m_iloadN K X0.here hx hby d_jdk_41_11_16 rfl rfl ?_
  exact Go.retI X0 hx hby hlk hret d_jdk_41_11_17 (by decide) (by decide) (⟨rfl, e0, rfl⟩)
theorem d_jdk_42_155_0 : decode jdk_42_method_155_code 0 = .ok (.iload_n 0, 1) := by decide +kernel
theorem d_jdk_42_155_1 : decode jdk_42_method_155_code 1 = .ok (.iload_n 1, 1) := by decide +kernel
theorem d_jdk_42_155_2 : decode jdk_42_method_155_code 2 = .ok (.getstatic 1053, 3) := by decide +kernel
theorem d_jdk_42_155_5 : decode jdk_42_method_155_code 5 = .ok (.invokestatic 1059, 3) := by decide +kernel
theorem d_jdk_42_155_8 : decode jdk_42_method_155_code 8 = .ok (.pop, 1) := by decide +kernel
theorem d_jdk_42_155_9 : decode jdk_42_method_155_code 9 = .ok (.return_, 1) := by decide +kernel
theorem pn_java_lang_String : plainName "java/lang/String" = true := by first | (simp [plainName, overriddenIn]; done) | decide +kernel
theorem pd_0 : parseMethodDescriptor "(IILjava/util/function/BiFunction;)I" = some ⟨[.int, .int, (.object "java/util/function/BiFunction")], some .int⟩ := by decide +kernel
theorem efckn (m : MethodId) (x0 : Int32) (x1 : Int32) : entryFrame m #[(.int x0), (.int x1)] 2 = mkF m 0 #[.val (.int x0), .val (.int x1)] [] := by first | (simp [entryFrame, mkF, argsToLocals, Value.category]; done) | rfl
set_option maxRecDepth 65536 in
set_option maxHeartbeats 40000000 in
theorem cckn (l : Launch) (Z : State) (a0 : Array Value) (hw : ∀ d ∈ tables_1, d.before a0 Z = true) (p1 : Int32) (p2 : Int32) (h0 : Heap) (n0 : Nat) (Z0 : n0 ≤ h0.size) (S_Preconditions_SIOOBE_FORMATTER : Sta Z Z.heap "jdk/internal/util/Preconditions" "SIOOBE_FORMATTER" "Ljava/util/function/BiFunction;" .null) (O0 : Old Z n0 h0) (g0 : ¬ (p1 < (0 : Int32))) (g1 : p1 < p2) :
    Con l Z (⟨"java/lang/String", "checkIndex", "(II)V"⟩ : MethodName) jdk_42_method_155_code 2 none ({ frames := 1, cells := 0, slots := 0, locals := 14 } : Room) [] #[(.int p1), (.int p2)] h0 (fun v h L => v = none ∧ h = h0 ∧ L = []) := by
  refine Con.of (plainFor_of_name pn_java_lang_String) #[.val (.int p1), .val (.int p2)] (fun m => efckn m p1 p2) ?_
  intro p e s m below meth c s₁ K hx hby hml hown hnm hret hlk hZ X0 e0
  have N0 := Fr.nil n0
  refine m_iloadN K X0.here hx hby d_jdk_42_155_0 rfl rfl ?_
  refine m_iloadN K X0.here hx hby d_jdk_42_155_1 rfl rfl ?_
  refine k_getS K X0 hx hby hZ hown (host := "") (Or.inl (W hw 68 rfl)) Via.refl e0 (S_Preconditions_SIOOBE_FORMATTER.ext O0.2) d_jdk_42_155_2 rfl fun T1 X1 e1 => ?_
  refine k_callS K X1 hx hby hZ [(.int p1), (.int p2), .null] [] hown (W hw 70 rfl) (W hw 71 rfl) (W hw 69 rfl) (W hw 72 rfl) (cpin l Z a0 hw p1 p2 h0 n0 Z0 g0 g1) e1 rfl rfl pd_0 rfl d_jdk_42_155_5 (by rw [hml]; rfl) rfl (by decide) (by decide) (Nat.le_of_ble_eq_true rfl) (by decide) (by decide) fun v2 T2 L2 X2 q2 => ?_
  obtain ⟨rfl, e2, rfl⟩ := q2
  replace X2 := own_px X2
  refine k_some K (w := (.int p1)) ?_
  refine m_pop K X2.here hx hby d_jdk_42_155_8 rfl rfl ?_
  exact Go.retV X2 hx hby hlk hret d_jdk_42_155_9 (by decide) (by decide) (⟨rfl, e2, rfl⟩)
theorem efpir (m : MethodId) (x0 : Int32) (x1 : Int32) (x2 : Addr) : entryFrame m #[(.int x0), (.int x1), (.ref x2)] 3 = mkF m 0 #[.val (.int x0), .val (.int x1), .val (.ref x2)] [] := by first | (simp [entryFrame, mkF, argsToLocals, Value.category]; done) | rfl
set_option maxRecDepth 65536 in
set_option maxHeartbeats 40000000 in
theorem cpir (l : Launch) (Z : State) (a0 : Array Value) (hw : ∀ d ∈ tables_1, d.before a0 Z = true) (p1 : Int32) (p2 : Int32) (f1 : Addr) (h0 : Heap) (n0 : Nat) (Z0 : n0 ≤ h0.size) (g0 : ¬ (p1 < (0 : Int32))) (g1 : p1 < p2) :
    Con l Z (⟨"jdk/internal/util/Preconditions", "checkIndex", "(IILjava/util/function/BiFunction;)I"⟩ : MethodName) jdk_41_method_11_code 3 (some .int) ({ frames := 0, cells := 0, slots := 0, locals := 0 } : Room) [] #[(.int p1), (.int p2), (.ref f1)] h0 (fun v h L => v = some (.int p1) ∧ h = h0 ∧ L = []) := by
  refine Con.of (plainFor_of_name pn_jdk_internal_util_Preconditions) #[.val (.int p1), .val (.int p2), .val (.ref f1)] (fun m => efpir m p1 p2 f1) ?_
  intro p e s m below meth c s₁ K hx hby hml hown hnm hret hlk hZ X0 e0
  have N0 := Fr.nil n0
  refine m_iloadN K X0.here hx hby d_jdk_41_11_0 rfl rfl ?_
  refine m_ifN K X0.here hx hby (q := 4) d_jdk_41_11_1 ((if0 _ _).trans (flt g0).1) rfl ?_
  refine m_iloadN K X0.here hx hby d_jdk_41_11_4 rfl rfl ?_
  refine m_iloadN K X0.here hx hby d_jdk_41_11_5 rfl rfl ?_
  refine m_icmpY K X0.here hx hby (q := 16) d_jdk_41_11_6 (tlt g1).1 (by decide) rfl ?_
  refine m_iloadN K X0.here hx hby d_jdk_41_11_16 rfl rfl ?_
  exact Go.retI X0 hx hby hlk hret d_jdk_41_11_17 (by decide) (by decide) (⟨rfl, e0, rfl⟩)
theorem efckr (m : MethodId) (x0 : Int32) (x1 : Int32) : entryFrame m #[(.int x0), (.int x1)] 2 = mkF m 0 #[.val (.int x0), .val (.int x1)] [] := by first | (simp [entryFrame, mkF, argsToLocals, Value.category]; done) | rfl
set_option maxRecDepth 65536 in
set_option maxHeartbeats 40000000 in
theorem cckr (l : Launch) (Z : State) (a0 : Array Value) (hw : ∀ d ∈ tables_1, d.before a0 Z = true) (p1 : Int32) (p2 : Int32) (f1 : Addr) (h0 : Heap) (n0 : Nat) (Z0 : n0 ≤ h0.size) (S_Preconditions_SIOOBE_FORMATTER : Sta Z Z.heap "jdk/internal/util/Preconditions" "SIOOBE_FORMATTER" "Ljava/util/function/BiFunction;" (.ref f1)) (O0 : Old Z n0 h0) (g0 : ¬ (p1 < (0 : Int32))) (g1 : p1 < p2) :
    Con l Z (⟨"java/lang/String", "checkIndex", "(II)V"⟩ : MethodName) jdk_42_method_155_code 2 none ({ frames := 1, cells := 0, slots := 0, locals := 14 } : Room) [] #[(.int p1), (.int p2)] h0 (fun v h L => v = none ∧ h = h0 ∧ L = []) := by
  refine Con.of (plainFor_of_name pn_java_lang_String) #[.val (.int p1), .val (.int p2)] (fun m => efckr m p1 p2) ?_
  intro p e s m below meth c s₁ K hx hby hml hown hnm hret hlk hZ X0 e0
  have N0 := Fr.nil n0
  refine m_iloadN K X0.here hx hby d_jdk_42_155_0 rfl rfl ?_
  refine m_iloadN K X0.here hx hby d_jdk_42_155_1 rfl rfl ?_
  refine k_getS K X0 hx hby hZ hown (host := "") (Or.inl (W hw 68 rfl)) Via.refl e0 (S_Preconditions_SIOOBE_FORMATTER.ext O0.2) d_jdk_42_155_2 rfl fun T1 X1 e1 => ?_
  refine k_callS K X1 hx hby hZ [(.int p1), (.int p2), (.ref f1)] [] hown (W hw 70 rfl) (W hw 71 rfl) (W hw 69 rfl) (W hw 72 rfl) (cpir l Z a0 hw p1 p2 f1 h0 n0 Z0 g0 g1) e1 rfl rfl pd_0 rfl d_jdk_42_155_5 (by rw [hml]; rfl) rfl (by decide) (by decide) (Nat.le_of_ble_eq_true rfl) (by decide) (by decide) fun v2 T2 L2 X2 q2 => ?_
  obtain ⟨rfl, e2, rfl⟩ := q2
  replace X2 := own_px X2
  refine k_some K (w := (.int p1)) ?_
  refine m_pop K X2.here hx hby d_jdk_42_155_8 rfl rfl ?_
  exact Go.retV X2 hx hby hlk hret d_jdk_42_155_9 (by decide) (by decide) (⟨rfl, e2, rfl⟩)
theorem cck (l : Launch) (Z : State) (a0 : Array Value) (hw : ∀ d ∈ tables_1, d.before a0 Z = true) (p1 p2 : Int32) (cz : Int32) (vf : Value) (h0 : Heap) (n0 : Nat) (Z0 : n0 ≤ h0.size) (O0 : Old Z n0 h0) (SS : SSt Z cz vf) (g0 : ¬ (p1 < (0 : Int32))) (g1 : p1 < p2) :
    Con l Z (⟨"java/lang/String", "checkIndex", "(II)V"⟩ : MethodName) jdk_42_method_155_code 2 none ({ frames := 1, cells := 0, slots := 0, locals := 14 } : Room) [] #[.int p1, .int p2] h0 (fun v h L => v = none ∧ h = h0 ∧ L = []) := by
  rcases ref_cases SS.rf with rfl | ⟨f1, rfl⟩
  · exact cckn l Z a0 hw p1 p2 h0 n0 Z0 SS.si O0 g0 g1
  · exact cckr l Z a0 hw p1 p2 f1 h0 n0 Z0 SS.si O0 g0 g1
theorem d_jdk_42_152_0 : decode jdk_42_method_152_code 0 = .ok (.getstatic 38, 3) := by decide +kernel
theorem d_jdk_42_152_3 : decode jdk_42_method_152_code 3 = .ok (.ifCond .eq 10, 3) := by decide +kernel
theorem d_jdk_42_152_6 : decode jdk_42_method_152_code 6 = .ok (.aload_n 0, 1) := by decide +kernel
theorem d_jdk_42_152_7 : decode jdk_42_method_152_code 7 = .ok (.getfield 15, 3) := by decide +kernel
theorem d_jdk_42_152_10 : decode jdk_42_method_152_code 10 = .ok (.goto 4, 3) := by decide +kernel
theorem d_jdk_42_152_14 : decode jdk_42_method_152_code 14 = .ok (.ireturn, 1) := by decide +kernel
theorem efco0 (m : MethodId) (x0 : Addr) : entryFrame m #[(.ref x0)] 1 = mkF m 0 #[.val (.ref x0)] [] := by first | (simp [entryFrame, mkF, argsToLocals, Value.category]; done) | rfl
set_option maxRecDepth 65536 in
set_option maxHeartbeats 40000000 in
theorem cco0 (l : Launch) (Z : State) (a0 : Array Value) (hw : ∀ d ∈ tables_1, d.before a0 Z = true) (a1 : Addr) (cz : Int32) (vf : Value) (h0 : Heap) (n0 : Nat) (Z0 : n0 ≤ h0.size) (F_coder_a1 : Fld Z h0 a1 "java/lang/String" "coder" "B" (.int (0 : Int32))) (O0 : Old Z n0 h0) (SS : SSt Z cz vf) :
    Con l Z (⟨"java/lang/String", "coder", "()B"⟩ : MethodName) jdk_42_method_152_code 1 (some .byte) ({ frames := 0, cells := 0, slots := 0, locals := 0 } : Room) [] #[(.ref a1)] h0 (fun v h L => v = some (.int (0 : Int32)) ∧ h = h0 ∧ L = []) := by
  refine Con.of (plainFor_of_name pn_java_lang_String) #[.val (.ref a1)] (fun m => efco0 m a1) ?_
  intro p e s m below meth c s₁ K hx hby hml hown hnm hret hlk hZ X0 e0
  have N0 := Fr.nil n0
  refine k_getS K X0 hx hby hZ hown (host := "") (Or.inl (W hw 40 rfl)) Via.refl e0 (SS.cs.ext O0.2) d_jdk_42_152_0 rfl fun T1 X1 e1 => ?_
  refine m_ifN K X1.here hx hby (q := 6) d_jdk_42_152_3 ((if0 _ _).trans (feq SS.cz).1) rfl ?_
  refine m_aloadN K X1.here hx hby d_jdk_42_152_6 rfl rfl rfl ?_
  refine k_getF K X1 hx hby hZ hown (host := "") (Or.inl (W hw 25 rfl)) Via.refl e1 F_coder_a1 d_jdk_42_152_7 rfl fun T2 X2 e2 => ?_
  refine m_goto K X2.here hx hby (q := 14) d_jdk_42_152_10 (by decide) rfl ?_
  exact Go.retN X2 hx hby hlk hret (by simp) d_jdk_42_152_14 (by decide) (by decide) (by decide) (⟨rfl, e2, rfl⟩)
theorem d_jdk_42_154_0 : decode jdk_42_method_154_code 0 = .ok (.getstatic 38, 3) := by decide +kernel
theorem d_jdk_42_154_3 : decode jdk_42_method_154_code 3 = .ok (.ifCond .eq 14, 3) := by decide +kernel
theorem d_jdk_42_154_6 : decode jdk_42_method_154_code 6 = .ok (.aload_n 0, 1) := by decide +kernel
theorem d_jdk_42_154_7 : decode jdk_42_method_154_code 7 = .ok (.getfield 15, 3) := by decide +kernel
theorem d_jdk_42_154_10 : decode jdk_42_method_154_code 10 = .ok (.ifCond .ne 7, 3) := by decide +kernel
theorem d_jdk_42_154_13 : decode jdk_42_method_154_code 13 = .ok (.iconst 1, 1) := by decide +kernel
theorem d_jdk_42_154_14 : decode jdk_42_method_154_code 14 = .ok (.goto 4, 3) := by decide +kernel
theorem d_jdk_42_154_18 : decode jdk_42_method_154_code 18 = .ok (.ireturn, 1) := by decide +kernel
theorem efil0 (m : MethodId) (x0 : Addr) : entryFrame m #[(.ref x0)] 1 = mkF m 0 #[.val (.ref x0)] [] := by first | (simp [entryFrame, mkF, argsToLocals, Value.category]; done) | rfl
set_option maxRecDepth 65536 in
set_option maxHeartbeats 40000000 in
theorem cil0 (l : Launch) (Z : State) (a0 : Array Value) (hw : ∀ d ∈ tables_1, d.before a0 Z = true) (a1 : Addr) (cz : Int32) (vf : Value) (h0 : Heap) (n0 : Nat) (Z0 : n0 ≤ h0.size) (F_coder_a1 : Fld Z h0 a1 "java/lang/String" "coder" "B" (.int (0 : Int32))) (O0 : Old Z n0 h0) (SS : SSt Z cz vf) :
    Con l Z (⟨"java/lang/String", "isLatin1", "()Z"⟩ : MethodName) jdk_42_method_154_code 1 (some .boolean) ({ frames := 0, cells := 0, slots := 0, locals := 0 } : Room) [] #[(.ref a1)] h0 (fun v h L => v = some (.int (1 : Int32)) ∧ h = h0 ∧ L = []) := by
  refine Con.of (plainFor_of_name pn_java_lang_String) #[.val (.ref a1)] (fun m => efil0 m a1) ?_
  intro p e s m below meth c s₁ K hx hby hml hown hnm hret hlk hZ X0 e0
  have N0 := Fr.nil n0
  refine k_getS K X0 hx hby hZ hown (host := "") (Or.inl (W hw 40 rfl)) Via.refl e0 (SS.cs.ext O0.2) d_jdk_42_154_0 rfl fun T1 X1 e1 => ?_
  refine m_ifN K X1.here hx hby (q := 6) d_jdk_42_154_3 ((if0 _ _).trans (feq SS.cz).1) rfl ?_
  refine m_aloadN K X1.here hx hby d_jdk_42_154_6 rfl rfl rfl ?_
  refine k_getF K X1 hx hby hZ hown (host := "") (Or.inl (W hw 25 rfl)) Via.refl e1 F_coder_a1 d_jdk_42_154_7 rfl fun T2 X2 e2 => ?_
  refine m_ifN K X2.here hx hby (q := 13) d_jdk_42_154_10 ((if0 _ _).trans (teq (by decide : (0 : Int32) = (0 : Int32))).2) rfl ?_
  refine m_iconst K X2.here hx hby (1 : Int32) d_jdk_42_154_13 rfl rfl ?_
  refine m_goto K X2.here hx hby (q := 18) d_jdk_42_154_14 (by decide) rfl ?_
  exact Go.retN X2 hx hby hlk hret (by simp) d_jdk_42_154_18 (by decide) (by decide) (by decide) (⟨rfl, e2, rfl⟩)
theorem efco1 (m : MethodId) (x0 : Addr) : entryFrame m #[(.ref x0)] 1 = mkF m 0 #[.val (.ref x0)] [] := by first | (simp [entryFrame, mkF, argsToLocals, Value.category]; done) | rfl
set_option maxRecDepth 65536 in
set_option maxHeartbeats 40000000 in
theorem cco1 (l : Launch) (Z : State) (a0 : Array Value) (hw : ∀ d ∈ tables_1, d.before a0 Z = true) (a1 : Addr) (cz : Int32) (vf : Value) (h0 : Heap) (n0 : Nat) (Z0 : n0 ≤ h0.size) (F_coder_a1 : Fld Z h0 a1 "java/lang/String" "coder" "B" (.int (1 : Int32))) (O0 : Old Z n0 h0) (SS : SSt Z cz vf) :
    Con l Z (⟨"java/lang/String", "coder", "()B"⟩ : MethodName) jdk_42_method_152_code 1 (some .byte) ({ frames := 0, cells := 0, slots := 0, locals := 0 } : Room) [] #[(.ref a1)] h0 (fun v h L => v = some (.int (1 : Int32)) ∧ h = h0 ∧ L = []) := by
  refine Con.of (plainFor_of_name pn_java_lang_String) #[.val (.ref a1)] (fun m => efco1 m a1) ?_
  intro p e s m below meth c s₁ K hx hby hml hown hnm hret hlk hZ X0 e0
  have N0 := Fr.nil n0
  refine k_getS K X0 hx hby hZ hown (host := "") (Or.inl (W hw 40 rfl)) Via.refl e0 (SS.cs.ext O0.2) d_jdk_42_152_0 rfl fun T1 X1 e1 => ?_
  refine m_ifN K X1.here hx hby (q := 6) d_jdk_42_152_3 ((if0 _ _).trans (feq SS.cz).1) rfl ?_
  refine m_aloadN K X1.here hx hby d_jdk_42_152_6 rfl rfl rfl ?_
  refine k_getF K X1 hx hby hZ hown (host := "") (Or.inl (W hw 25 rfl)) Via.refl e1 F_coder_a1 d_jdk_42_152_7 rfl fun T2 X2 e2 => ?_
  refine m_goto K X2.here hx hby (q := 14) d_jdk_42_152_10 (by decide) rfl ?_
  exact Go.retN X2 hx hby hlk hret (by simp) d_jdk_42_152_14 (by decide) (by decide) (by decide) (⟨rfl, e2, rfl⟩)
theorem d_jdk_42_154_17 : decode jdk_42_method_154_code 17 = .ok (.iconst 0, 1) := by decide +kernel
theorem efil1 (m : MethodId) (x0 : Addr) : entryFrame m #[(.ref x0)] 1 = mkF m 0 #[.val (.ref x0)] [] := by first | (simp [entryFrame, mkF, argsToLocals, Value.category]; done) | rfl
set_option maxRecDepth 65536 in
set_option maxHeartbeats 40000000 in
theorem cil1 (l : Launch) (Z : State) (a0 : Array Value) (hw : ∀ d ∈ tables_1, d.before a0 Z = true) (a1 : Addr) (cz : Int32) (vf : Value) (h0 : Heap) (n0 : Nat) (Z0 : n0 ≤ h0.size) (F_coder_a1 : Fld Z h0 a1 "java/lang/String" "coder" "B" (.int (1 : Int32))) (O0 : Old Z n0 h0) (SS : SSt Z cz vf) :
    Con l Z (⟨"java/lang/String", "isLatin1", "()Z"⟩ : MethodName) jdk_42_method_154_code 1 (some .boolean) ({ frames := 0, cells := 0, slots := 0, locals := 0 } : Room) [] #[(.ref a1)] h0 (fun v h L => v = some (.int (0 : Int32)) ∧ h = h0 ∧ L = []) := by
  refine Con.of (plainFor_of_name pn_java_lang_String) #[.val (.ref a1)] (fun m => efil1 m a1) ?_
  intro p e s m below meth c s₁ K hx hby hml hown hnm hret hlk hZ X0 e0
  have N0 := Fr.nil n0
  refine k_getS K X0 hx hby hZ hown (host := "") (Or.inl (W hw 40 rfl)) Via.refl e0 (SS.cs.ext O0.2) d_jdk_42_154_0 rfl fun T1 X1 e1 => ?_
  refine m_ifN K X1.here hx hby (q := 6) d_jdk_42_154_3 ((if0 _ _).trans (feq SS.cz).1) rfl ?_
  refine m_aloadN K X1.here hx hby d_jdk_42_154_6 rfl rfl rfl ?_
  refine k_getF K X1 hx hby hZ hown (host := "") (Or.inl (W hw 25 rfl)) Via.refl e1 F_coder_a1 d_jdk_42_154_7 rfl fun T2 X2 e2 => ?_
  refine m_ifY K X2.here hx hby (q := 17) d_jdk_42_154_10 ((if0 _ _).trans (feq (by decide : ¬ ((1 : Int32) = (0 : Int32)))).2) (by decide) rfl ?_
  refine m_iconst K X2.here hx hby (0 : Int32) d_jdk_42_154_17 rfl rfl ?_
  exact Go.retN X2 hx hby hlk hret (by simp) d_jdk_42_154_18 (by decide) (by decide) (by decide) (⟨rfl, e2, rfl⟩)
theorem d_jdk_52_3_0 : decode jdk_52_method_3_code 0 = .ok (.iload_n 0, 1) := by decide +kernel
theorem d_jdk_52_3_1 : decode jdk_52_method_3_code 1 = .ok (.ifCond .ge 11, 3) := by decide +kernel
theorem d_jdk_52_3_12 : decode jdk_52_method_3_code 12 = .ok (.iload_n 0, 1) := by decide +kernel
theorem d_jdk_52_3_13 : decode jdk_52_method_3_code 13 = .ok (.ldc 20, 2) := by decide +kernel
theorem d_jdk_52_3_15 : decode jdk_52_method_3_code 15 = .ok (.if_icmp .lt 40, 3) := by decide +kernel
theorem d_jdk_52_3_55 : decode jdk_52_method_3_code 55 = .ok (.iload_n 0, 1) := by decide +kernel
theorem d_jdk_52_3_56 : decode jdk_52_method_3_code 56 = .ok (.iconst 1, 1) := by decide +kernel
theorem d_jdk_52_3_57 : decode jdk_52_method_3_code 57 = .ok (.ishl, 1) := by decide +kernel
theorem d_jdk_52_3_58 : decode jdk_52_method_3_code 58 = .ok (.ireturn, 1) := by decide +kernel
theorem pn_java_lang_StringUTF16 : plainName "java/lang/StringUTF16" = true := by first | (simp [plainName, overriddenIn]; done) | decide +kernel
theorem efnl1 (m : MethodId) (x0 : Int32) : entryFrame m #[(.int x0)] 1 = mkF m 0 #[.val (.int x0)] [] := by first | (simp [entryFrame, mkF, argsToLocals, Value.category]; done) | rfl
set_option maxRecDepth 65536 in
set_option maxHeartbeats 40000000 in
theorem cnl1 (l : Launch) (Z : State) (a0 : Array Value) (hw : ∀ d ∈ tables_1, d.before a0 Z = true) (cz : Int32) (vf : Value) (h0 : Heap) (n0 : Nat) (Z0 : n0 ≤ h0.size) (O0 : Old Z n0 h0) (SS : SSt Z cz vf) :
    Con l Z (⟨"java/lang/StringUTF16", "newBytesLength", "(I)I"⟩ : MethodName) jdk_52_method_3_code 1 (some .int) ({ frames := 0, cells := 0, slots := 0, locals := 0 } : Room) [] #[(.int (1 : Int32))] h0 (fun v h L => v = some (.int (2 : Int32)) ∧ h = h0 ∧ L = []) := by
  refine Con.of (plainFor_of_name pn_java_lang_StringUTF16) #[.val (.int (1 : Int32))] (fun m => efnl1 m (1 : Int32)) ?_
  intro p e s m below meth c s₁ K hx hby hml hown hnm hret hlk hZ X0 e0
  have N0 := Fr.nil n0
  refine m_iloadN K X0.here hx hby d_jdk_52_3_0 rfl rfl ?_
  refine m_ifY K X0.here hx hby (q := 12) d_jdk_52_3_1 ((if0 _ _).trans (flt (by decide : ¬ ((1 : Int32) < (0 : Int32)))).2.1) (by decide) rfl ?_
  refine m_iloadN K X0.here hx hby d_jdk_52_3_12 rfl rfl ?_
  refine m_ldc K X0 hx hby hZ hown (W hw 83 rfl) d_jdk_52_3_13 rfl ?_
  refine m_icmpY K X0.here hx hby (q := 55) d_jdk_52_3_15 (tlt (by decide : (1 : Int32) < (1073741823 : Int32))).1 (by decide) rfl ?_
  refine m_iloadN K X0.here hx hby d_jdk_52_3_55 rfl rfl ?_
  refine m_iconst K X0.here hx hby (1 : Int32) d_jdk_52_3_56 rfl rfl ?_
  refine m_ishl K X0.here hx hby (2 : Int32) d_jdk_52_3_57 rfl rfl ?_
  exact Go.retI X0 hx hby hlk hret d_jdk_52_3_58 (by decide) (by decide) (⟨rfl, e0, rfl⟩)
theorem d_jdk_52_2_0 : decode jdk_52_method_2_code 0 = .ok (.iload_n 0, 1) := by decide +kernel
theorem d_jdk_52_2_1 : decode jdk_52_method_2_code 1 = .ok (.invokestatic 11, 3) := by decide +kernel
theorem d_jdk_52_2_4 : decode jdk_52_method_2_code 4 = .ok (.newarray .byte, 2) := by decide +kernel
theorem d_jdk_52_2_6 : decode jdk_52_method_2_code 6 = .ok (.areturn, 1) := by decide +kernel
theorem pd_1 : parseMethodDescriptor "(I)I" = some ⟨[.int], some .int⟩ := by decide +kernel
theorem efnf1 (m : MethodId) (x0 : Int32) : entryFrame m #[(.int x0)] 1 = mkF m 0 #[.val (.int x0)] [] := by first | (simp [entryFrame, mkF, argsToLocals, Value.category]; done) | rfl
set_option maxRecDepth 65536 in
set_option maxHeartbeats 40000000 in
theorem cnf1 (l : Launch) (Z : State) (a0 : Array Value) (hw : ∀ d ∈ tables_1, d.before a0 Z = true) (cz : Int32) (vf : Value) (h0 : Heap) (n0 : Nat) (Z0 : n0 ≤ h0.size) (O0 : Old Z n0 h0) (SS : SSt Z cz vf) :
    Con l Z (⟨"java/lang/StringUTF16", "newBytesFor", "(I)[B"⟩ : MethodName) jdk_52_method_2_code 1 (some (.array .byte)) ({ frames := 1, cells := 1, slots := 2, locals := 12 } : Room) [] #[(.int (1 : Int32))] h0 (fun v h L => ∃ bv : Addr, v = some (.ref bv) ∧ Fr n0 L ∧ Keep h0 h [] ∧ h0.size ≤ bv ∧ Av Z h bv .byte [(.int (0 : Int32)), (.int (0 : Int32))]) := by
  refine Con.of (plainFor_of_name pn_java_lang_StringUTF16) #[.val (.int (1 : Int32))] (fun m => efnf1 m (1 : Int32)) ?_
  intro p e s m below meth c s₁ K hx hby hml hown hnm hret hlk hZ X0 e0
  have N0 := Fr.nil n0
  refine m_iloadN K X0.here hx hby d_jdk_52_2_0 rfl rfl ?_
  refine k_callS K X0 hx hby hZ [(.int (1 : Int32))] [] hown (W hw 80 rfl) (W hw 81 rfl) (W hw 43 rfl) (W hw 82 rfl) (cnl1 l Z a0 hw cz vf h0 n0 Z0 O0 SS) e0 rfl rfl pd_1 rfl d_jdk_52_2_1 (by rw [hml]; rfl) rfl (by decide) (by decide) (Nat.le_of_ble_eq_true rfl) (by decide) (by decide) fun v1 T1 L1 X1 q1 => ?_
  obtain ⟨rfl, e1, rfl⟩ := q1
  replace X1 := own_px X1
  refine k_some K (w := (.int (2 : Int32))) ?_
  refine k_newP K X1 hx hby hZ 2 2 (W hw 19 rfl) e1 d_jdk_52_2_4 rfl (by decide) rfl (by decide) (by decide) (by decide) (by decide) fun T2 h2 b2 X2 e2 E2 g2 V_b2 => ?_
  have sz_b2 : h0.size ≤ b2 := Nat.le_trans (Nat.le_refl _) (Nat.le_of_eq g2.symm)
  have g_b2 : n0 ≤ b2 := Nat.le_trans Z0 sz_b2
  replace V_b2 : Av Z h2 b2 .byte [(.int (0 : Int32)), (.int (0 : Int32))] := V_b2
  exact Go.retO X2 hx hby hlk hret rfl (Or.inr (Or.inr (Or.inr (Or.inr ⟨rfl, rfl, rfl⟩)))) d_jdk_52_2_6 (by decide) (by decide) (by rw [e2]; exact ⟨b2, rfl, N0, ((Keep.refl h0 []).ext E2), sz_b2, V_b2⟩)
theorem d_jdk_52_6_0 : decode jdk_52_method_6_code 0 = .ok (.aload_n 0, 1) := by decide +kernel
theorem d_jdk_52_6_1 : decode jdk_52_method_6_code 1 = .ok (.arraylength, 1) := by decide +kernel
theorem d_jdk_52_6_2 : decode jdk_52_method_6_code 2 = .ok (.iconst 1, 1) := by decide +kernel
theorem d_jdk_52_6_3 : decode jdk_52_method_6_code 3 = .ok (.ishr, 1) := by decide +kernel
theorem d_jdk_52_6_4 : decode jdk_52_method_6_code 4 = .ok (.ireturn, 1) := by decide +kernel
theorem eful1 (m : MethodId) (x0 : Addr) : entryFrame m #[(.ref x0)] 1 = mkF m 0 #[.val (.ref x0)] [] := by first | (simp [entryFrame, mkF, argsToLocals, Value.category]; done) | rfl
set_option maxRecDepth 65536 in
set_option maxHeartbeats 40000000 in
theorem cul1 (l : Launch) (Z : State) (a0 : Array Value) (hw : ∀ d ∈ tables_1, d.before a0 Z = true) (a1 : Addr) (cz : Int32) (vf : Value) (y0 : Int32) (y1 : Int32) (h0 : Heap) (n0 : Nat) (Z0 : n0 ≤ h0.size) (A_a1 : Av Z h0 a1 .byte [(.int y0), (.int y1)]) (O0 : Old Z n0 h0) (SS : SSt Z cz vf) :
    Con l Z (⟨"java/lang/StringUTF16", "length", "([B)I"⟩ : MethodName) jdk_52_method_6_code 1 (some .int) ({ frames := 0, cells := 0, slots := 0, locals := 0 } : Room) [] #[(.ref a1)] h0 (fun v h L => v = some (.int (1 : Int32)) ∧ h = h0 ∧ L = []) := by
  refine Con.of (plainFor_of_name pn_java_lang_StringUTF16) #[.val (.ref a1)] (fun m => eful1 m a1) ?_
  intro p e s m below meth c s₁ K hx hby hml hown hnm hret hlk hZ X0 e0
  have N0 := Fr.nil n0
  refine m_aloadN K X0.here hx hby d_jdk_52_6_0 rfl rfl rfl ?_
  refine k_len K X0 hx hby hZ (2 : Int32) e0 A_a1 rfl d_jdk_52_6_1 rfl ?_
  refine m_iconst K X0.here hx hby (1 : Int32) d_jdk_52_6_2 rfl rfl ?_
  refine m_ishr K X0.here hx hby (1 : Int32) d_jdk_52_6_3 rfl rfl ?_
  exact Go.retI X0 hx hby hlk hret d_jdk_52_6_4 (by decide) (by decide) (⟨rfl, e0, rfl⟩)
theorem d_jdk_52_91_0 : decode jdk_52_method_91_code 0 = .ok (.iload_n 0, 1) := by decide +kernel
theorem d_jdk_52_91_1 : decode jdk_52_method_91_code 1 = .ok (.aload_n 1, 1) := by decide +kernel
theorem d_jdk_52_91_2 : decode jdk_52_method_91_code 2 = .ok (.invokestatic 48, 3) := by decide +kernel
theorem d_jdk_52_91_5 : decode jdk_52_method_91_code 5 = .ok (.invokestatic 414, 3) := by decide +kernel
theorem d_jdk_52_91_8 : decode jdk_52_method_91_code 8 = .ok (.return_, 1) := by decide +kernel
theorem pd_2 : parseMethodDescriptor "([B)I" = some ⟨[(.array .byte)], some .int⟩ := by decide +kernel
theorem pd_3 : parseMethodDescriptor "(II)V" = some ⟨[.int, .int], none⟩ := by decide +kernel
theorem efuk1 (m : MethodId) (x0 : Int32) (x1 : Addr) : entryFrame m #[(.int x0), (.ref x1)] 2 = mkF m 0 #[.val (.int x0), .val (.ref x1)] [] := by first | (simp [entryFrame, mkF, argsToLocals, Value.category]; done) | rfl
set_option maxRecDepth 65536 in
set_option maxHeartbeats 40000000 in
theorem cuk1 (l : Launch) (Z : State) (a0 : Array Value) (hw : ∀ d ∈ tables_1, d.before a0 Z = true) (p1 : Int32) (a1 : Addr) (cz : Int32) (vf : Value) (y0 : Int32) (y1 : Int32) (h0 : Heap) (n0 : Nat) (Z0 : n0 ≤ h0.size) (A_a1 : Av Z h0 a1 .byte [(.int y0), (.int y1)]) (O0 : Old Z n0 h0) (SS : SSt Z cz vf) (g0 : ¬ (p1 < (0 : Int32))) (g1 : p1 < (1 : Int32)) :
    Con l Z (⟨"java/lang/StringUTF16", "checkIndex", "(I[B)V"⟩ : MethodName) jdk_52_method_91_code 2 none ({ frames := 2, cells := 0, slots := 0, locals := 27 } : Room) [] #[(.int p1), (.ref a1)] h0 (fun v h L => v = none ∧ h = h0 ∧ L = []) := by
  refine Con.of (plainFor_of_name pn_java_lang_StringUTF16) #[.val (.int p1), .val (.ref a1)] (fun m => efuk1 m p1 a1) ?_
  intro p e s m below meth c s₁ K hx hby hml hown hnm hret hlk hZ X0 e0
  have N0 := Fr.nil n0
  refine m_iloadN K X0.here hx hby d_jdk_52_91_0 rfl rfl ?_
  refine m_aloadN K X0.here hx hby d_jdk_52_91_1 rfl rfl rfl ?_
  refine k_callS K X0 hx hby hZ [(.ref a1)] [(.int p1)] hown (W hw 99 rfl) (W hw 100 rfl) (W hw 43 rfl) (W hw 101 rfl) (cul1 l Z a0 hw a1 cz vf y0 y1 h0 n0 Z0 A_a1 O0 SS) e0 rfl rfl pd_2 rfl d_jdk_52_91_2 (by rw [hml]; rfl) rfl (by decide) (by decide) (Nat.le_of_ble_eq_true rfl) (by decide) (by decide) fun v1 T1 L1 X1 q1 => ?_
  obtain ⟨rfl, e1, rfl⟩ := q1
  replace X1 := own_px X1
  refine k_some K (w := (.int (1 : Int32))) ?_
  refine k_callS K X1 hx hby hZ [(.int p1), (.int (1 : Int32))] [] hown (W hw 102 rfl) (W hw 66 rfl) (W hw 7 rfl) (W hw 67 rfl) (cck l Z a0 hw p1 (1 : Int32) cz vf h0 n0 Z0 O0 SS g0 g1) e1 rfl rfl pd_3 rfl d_jdk_52_91_5 (by rw [hml]; rfl) rfl (by decide) (by decide) (Nat.le_of_ble_eq_true rfl) (by decide) (by decide) fun v2 T2 L2 X2 q2 => ?_
  obtain ⟨rfl, e2, rfl⟩ := q2
  replace X2 := own_px X2
  refine k_none K ?_
  exact Go.retV X2 hx hby hlk hret d_jdk_52_91_8 (by decide) (by decide) (⟨rfl, e2, rfl⟩)
def wpc1_0_1 (p3 : Int32) : Int32 := ((p3 >>> ((0 : Int32) &&& 31)).toInt8.toInt32)
def wpc1_0_2 (p3 : Int32) : Int32 := ((p3 >>> ((8 : Int32) &&& 31)).toInt8.toInt32)
theorem d_jdk_52_4_0 : decode jdk_52_method_4_code 0 = .ok (.getstatic 44, 3) := by decide +kernel
theorem d_jdk_52_4_3 : decode jdk_52_method_4_code 3 = .ok (.ifCond .ne 25, 3) := by decide +kernel
theorem d_jdk_52_4_28 : decode jdk_52_method_4_code 28 = .ok (.iload_n 1, 1) := by decide +kernel
theorem d_jdk_52_4_29 : decode jdk_52_method_4_code 29 = .ok (.iconst 1, 1) := by decide +kernel
theorem d_jdk_52_4_30 : decode jdk_52_method_4_code 30 = .ok (.ishl, 1) := by decide +kernel
theorem d_jdk_52_4_31 : decode jdk_52_method_4_code 31 = .ok (.istore_n 1, 1) := by decide +kernel
theorem d_jdk_52_4_32 : decode jdk_52_method_4_code 32 = .ok (.aload_n 0, 1) := by decide +kernel
theorem d_jdk_52_4_33 : decode jdk_52_method_4_code 33 = .ok (.iload_n 1, 1) := by decide +kernel
theorem d_jdk_52_4_34 : decode jdk_52_method_4_code 34 = .ok (.iinc 1 1, 3) := by decide +kernel
theorem d_jdk_52_4_37 : decode jdk_52_method_4_code 37 = .ok (.iload_n 2, 1) := by decide +kernel
theorem d_jdk_52_4_38 : decode jdk_52_method_4_code 38 = .ok (.getstatic 59, 3) := by decide +kernel
theorem d_jdk_52_4_41 : decode jdk_52_method_4_code 41 = .ok (.ishr, 1) := by decide +kernel
theorem d_jdk_52_4_42 : decode jdk_52_method_4_code 42 = .ok (.i2b, 1) := by decide +kernel
theorem d_jdk_52_4_43 : decode jdk_52_method_4_code 43 = .ok (.bastore, 1) := by decide +kernel
theorem d_jdk_52_4_44 : decode jdk_52_method_4_code 44 = .ok (.aload_n 0, 1) := by decide +kernel
theorem d_jdk_52_4_45 : decode jdk_52_method_4_code 45 = .ok (.iload_n 1, 1) := by decide +kernel
theorem d_jdk_52_4_46 : decode jdk_52_method_4_code 46 = .ok (.iload_n 2, 1) := by decide +kernel
theorem d_jdk_52_4_47 : decode jdk_52_method_4_code 47 = .ok (.getstatic 63, 3) := by decide +kernel
theorem d_jdk_52_4_50 : decode jdk_52_method_4_code 50 = .ok (.ishr, 1) := by decide +kernel
theorem d_jdk_52_4_51 : decode jdk_52_method_4_code 51 = .ok (.i2b, 1) := by decide +kernel
theorem d_jdk_52_4_52 : decode jdk_52_method_4_code 52 = .ok (.bastore, 1) := by decide +kernel
theorem d_jdk_52_4_53 : decode jdk_52_method_4_code 53 = .ok (.return_, 1) := by decide +kernel
theorem efpc1_0 (m : MethodId) (x0 : Addr) (x1 : Int32) (x2 : Int32) : entryFrame m #[(.ref x0), (.int x1), (.int x2)] 3 = mkF m 0 #[.val (.ref x0), .val (.int x1), .val (.int x2)] [] := by first | (simp [entryFrame, mkF, argsToLocals, Value.category]; done) | rfl
set_option maxRecDepth 65536 in
set_option maxHeartbeats 40000000 in
theorem cpc1_0 (l : Launch) (Z : State) (a0 : Array Value) (hw : ∀ d ∈ tables_1, d.before a0 Z = true) (a1 : Addr) (p3 : Int32) (cz : Int32) (vf : Value) (y0 : Int32) (y1 : Int32) (h0 : Heap) (n0 : Nat) (Z0 : n0 ≤ h0.size) (A_a1 : Av Z h0 a1 .byte [(.int y0), (.int y1)]) (O0 : Old Z n0 h0) (g_a1 : n0 ≤ a1) (SS : SSt Z cz vf) :
    Con l Z (⟨"java/lang/StringUTF16", "putChar", "([BII)V"⟩ : MethodName) jdk_52_method_4_code 3 none ({ frames := 0, cells := 0, slots := 0, locals := 0 } : Room) [] #[(.ref a1), (.int (0 : Int32)), (.int p3)] h0 (fun v h L => v = none ∧ Fr n0 L ∧ Keep h0 h [a1] ∧ Av Z h a1 .byte [(.int (BLO p3)), (.int (BHI p3))]) := by
  refine Con.of (plainFor_of_name pn_java_lang_StringUTF16) #[.val (.ref a1), .val (.int (0 : Int32)), .val (.int p3)] (fun m => efpc1_0 m a1 (0 : Int32) p3) ?_
  intro p e s m below meth c s₁ K hx hby hml hown hnm hret hlk hZ X0 e0
  have N0 := Fr.nil n0
  refine k_getS K X0 hx hby hZ hown (host := "") (Or.inl (W hw 87 rfl)) Via.refl e0 (SS.ad.ext O0.2) d_jdk_52_4_0 rfl fun T1 X1 e1 => ?_
  refine m_ifY K X1.here hx hby (q := 28) d_jdk_52_4_3 ((if0 _ _).trans (feq (by decide : ¬ ((1 : Int32) = (0 : Int32)))).2) (by decide) rfl ?_
  refine m_iloadN K X1.here hx hby d_jdk_52_4_28 rfl rfl ?_
  refine m_iconst K X1.here hx hby (1 : Int32) d_jdk_52_4_29 rfl rfl ?_
  refine m_ishl K X1.here hx hby (0 : Int32) d_jdk_52_4_30 rfl rfl ?_
  refine m_istoreN K X1.here hx hby #[.val (.ref a1), .val (.int (0 : Int32)), .val (.int p3)] d_jdk_52_4_31 rfl rfl ?_
  refine m_aloadN K X1.here hx hby d_jdk_52_4_32 rfl rfl rfl ?_
  refine m_iloadN K X1.here hx hby d_jdk_52_4_33 rfl rfl ?_
  refine m_iinc K X1.here hx hby #[.val (.ref a1), .val (.int (1 : Int32)), .val (.int p3)] d_jdk_52_4_34 rfl rfl rfl ?_
  refine m_iloadN K X1.here hx hby d_jdk_52_4_37 rfl rfl ?_
  refine k_getS K X1 hx hby hZ hown (host := "") (Or.inl (W hw 88 rfl)) Via.refl e1 (SS.hi.ext O0.2) d_jdk_52_4_38 rfl fun T2 X2 e2 => ?_
  refine m_ishr K X2.here hx hby (p3 >>> ((0 : Int32) &&& 31)) d_jdk_52_4_41 rfl rfl ?_
  refine m_i2b K X2.here hx hby (wpc1_0_1 p3) d_jdk_52_4_42 rfl rfl ?_
  refine k_stB K X2 hx hby hZ e2 A_a1 (by decide) (Nat.le_of_ble_eq_true rfl) d_jdk_52_4_43 rfl fun T3 h3 X3 e3 W3 V3 => ?_
  replace V3 : Av Z h3 a1 .byte [(.int (nar .byte (wpc1_0_1 p3))), (.int y1)] := V3
  have N3 := Fr.snoc X3 N0 g_a1
  refine m_aloadN K X3.here hx hby d_jdk_52_4_44 rfl rfl rfl ?_
  refine m_iloadN K X3.here hx hby d_jdk_52_4_45 rfl rfl ?_
  refine m_iloadN K X3.here hx hby d_jdk_52_4_46 rfl rfl ?_
  refine k_getS K X3 hx hby hZ hown (host := "") (Or.inl (W hw 89 rfl)) Via.refl e3 (SS.lo.ext (O0.wr W3 g_a1).2) d_jdk_52_4_47 rfl fun T4 X4 e4 => ?_
  refine m_ishr K X4.here hx hby (p3 >>> ((8 : Int32) &&& 31)) d_jdk_52_4_50 rfl rfl ?_
  refine m_i2b K X4.here hx hby (wpc1_0_2 p3) d_jdk_52_4_51 rfl rfl ?_
  refine k_stB K X4 hx hby hZ e4 V3 (by decide) (Nat.le_of_ble_eq_true rfl) d_jdk_52_4_52 rfl fun T5 h5 X5 e5 W5 V5 => ?_
  replace V5 : Av Z h5 a1 .byte [(.int (nar .byte (wpc1_0_1 p3))), (.int (nar .byte (wpc1_0_2 p3)))] := V5
  have N5 := Fr.snoc X5 N3 g_a1
  exact Go.retV X5 hx hby hlk hret d_jdk_52_4_53 (by decide) (by decide) (by rw [e5]; exact ⟨rfl, N5, (((Keep.refl h0 [a1]).wr W3 (Or.inl (by simp))).wr W5 (Or.inl (by simp))), V5⟩)
def wgc1_0_1 (y0 : Int32) : Int32 := ((y0 &&& (255 : Int32)) <<< ((0 : Int32) &&& 31))
def wgc1_0_2 (y1 : Int32) : Int32 := ((y1 &&& (255 : Int32)) <<< ((8 : Int32) &&& 31))
def wgc1_0_3 (y0 : Int32) (y1 : Int32) : Int32 := (((wgc1_0_1 y0) ||| (wgc1_0_2 y1)).toUInt32.toUInt16.toUInt32.toInt32)
theorem d_jdk_52_5_0 : decode jdk_52_method_5_code 0 = .ok (.getstatic 44, 3) := by decide +kernel
theorem d_jdk_52_5_3 : decode jdk_52_method_5_code 3 = .ok (.ifCond .ne 25, 3) := by decide +kernel
theorem d_jdk_52_5_28 : decode jdk_52_method_5_code 28 = .ok (.iload_n 1, 1) := by decide +kernel
theorem d_jdk_52_5_29 : decode jdk_52_method_5_code 29 = .ok (.iconst 1, 1) := by decide +kernel
theorem d_jdk_52_5_30 : decode jdk_52_method_5_code 30 = .ok (.ishl, 1) := by decide +kernel
theorem d_jdk_52_5_31 : decode jdk_52_method_5_code 31 = .ok (.istore_n 1, 1) := by decide +kernel
theorem d_jdk_52_5_32 : decode jdk_52_method_5_code 32 = .ok (.aload_n 0, 1) := by decide +kernel
theorem d_jdk_52_5_33 : decode jdk_52_method_5_code 33 = .ok (.iload_n 1, 1) := by decide +kernel
theorem d_jdk_52_5_34 : decode jdk_52_method_5_code 34 = .ok (.iinc 1 1, 3) := by decide +kernel
theorem d_jdk_52_5_37 : decode jdk_52_method_5_code 37 = .ok (.baload, 1) := by decide +kernel
theorem d_jdk_52_5_38 : decode jdk_52_method_5_code 38 = .ok (.sipush 255, 3) := by decide +kernel
theorem d_jdk_52_5_41 : decode jdk_52_method_5_code 41 = .ok (.iand, 1) := by decide +kernel
theorem d_jdk_52_5_42 : decode jdk_52_method_5_code 42 = .ok (.getstatic 59, 3) := by decide +kernel
theorem d_jdk_52_5_45 : decode jdk_52_method_5_code 45 = .ok (.ishl, 1) := by decide +kernel
theorem d_jdk_52_5_46 : decode jdk_52_method_5_code 46 = .ok (.aload_n 0, 1) := by decide +kernel
theorem d_jdk_52_5_47 : decode jdk_52_method_5_code 47 = .ok (.iload_n 1, 1) := by decide +kernel
theorem d_jdk_52_5_48 : decode jdk_52_method_5_code 48 = .ok (.baload, 1) := by decide +kernel
theorem d_jdk_52_5_49 : decode jdk_52_method_5_code 49 = .ok (.sipush 255, 3) := by decide +kernel
theorem d_jdk_52_5_52 : decode jdk_52_method_5_code 52 = .ok (.iand, 1) := by decide +kernel
theorem d_jdk_52_5_53 : decode jdk_52_method_5_code 53 = .ok (.getstatic 63, 3) := by decide +kernel
theorem d_jdk_52_5_56 : decode jdk_52_method_5_code 56 = .ok (.ishl, 1) := by decide +kernel
theorem d_jdk_52_5_57 : decode jdk_52_method_5_code 57 = .ok (.ior, 1) := by decide +kernel
theorem d_jdk_52_5_58 : decode jdk_52_method_5_code 58 = .ok (.i2c, 1) := by decide +kernel
theorem d_jdk_52_5_59 : decode jdk_52_method_5_code 59 = .ok (.ireturn, 1) := by decide +kernel
theorem efgc1_0 (m : MethodId) (x0 : Addr) (x1 : Int32) : entryFrame m #[(.ref x0), (.int x1)] 2 = mkF m 0 #[.val (.ref x0), .val (.int x1)] [] := by first | (simp [entryFrame, mkF, argsToLocals, Value.category]; done) | rfl
set_option maxRecDepth 65536 in
set_option maxHeartbeats 40000000 in
theorem cgc1_0 (l : Launch) (Z : State) (a0 : Array Value) (hw : ∀ d ∈ tables_1, d.before a0 Z = true) (a1 : Addr) (cz : Int32) (vf : Value) (y0 : Int32) (y1 : Int32) (h0 : Heap) (n0 : Nat) (Z0 : n0 ≤ h0.size) (A_a1 : Av Z h0 a1 .byte [(.int y0), (.int y1)]) (O0 : Old Z n0 h0) (SS : SSt Z cz vf) :
    Con l Z (⟨"java/lang/StringUTF16", "getChar", "([BI)C"⟩ : MethodName) jdk_52_method_5_code 2 (some .char) ({ frames := 0, cells := 0, slots := 0, locals := 0 } : Room) [] #[(.ref a1), (.int (0 : Int32))] h0 (fun v h L => v = some (.int (GCH y0 y1)) ∧ h = h0 ∧ L = []) := by
  refine Con.of (plainFor_of_name pn_java_lang_StringUTF16) #[.val (.ref a1), .val (.int (0 : Int32))] (fun m => efgc1_0 m a1 (0 : Int32)) ?_
  intro p e s m below meth c s₁ K hx hby hml hown hnm hret hlk hZ X0 e0
  have N0 := Fr.nil n0
  refine k_getS K X0 hx hby hZ hown (host := "") (Or.inl (W hw 87 rfl)) Via.refl e0 (SS.ad.ext O0.2) d_jdk_52_5_0 rfl fun T1 X1 e1 => ?_
  refine m_ifY K X1.here hx hby (q := 28) d_jdk_52_5_3 ((if0 _ _).trans (feq (by decide : ¬ ((1 : Int32) = (0 : Int32)))).2) (by decide) rfl ?_
  refine m_iloadN K X1.here hx hby d_jdk_52_5_28 rfl rfl ?_
  refine m_iconst K X1.here hx hby (1 : Int32) d_jdk_52_5_29 rfl rfl ?_
  refine m_ishl K X1.here hx hby (0 : Int32) d_jdk_52_5_30 rfl rfl ?_
  refine m_istoreN K X1.here hx hby #[.val (.ref a1), .val (.int (0 : Int32))] d_jdk_52_5_31 rfl rfl ?_
  refine m_aloadN K X1.here hx hby d_jdk_52_5_32 rfl rfl rfl ?_
  refine m_iloadN K X1.here hx hby d_jdk_52_5_33 rfl rfl ?_
  refine m_iinc K X1.here hx hby #[.val (.ref a1), .val (.int (1 : Int32))] d_jdk_52_5_34 rfl rfl rfl ?_
  refine k_ldB K X1 hx hby hZ e1 A_a1 (v := (.int y0)) (by decide) rfl d_jdk_52_5_37 rfl ?_
  refine m_sipush K X1.here hx hby (255 : Int32) d_jdk_52_5_38 rfl rfl ?_
  refine m_iand K X1.here hx hby (y0 &&& (255 : Int32)) d_jdk_52_5_41 rfl rfl ?_
  refine k_getS K X1 hx hby hZ hown (host := "") (Or.inl (W hw 88 rfl)) Via.refl e1 (SS.hi.ext O0.2) d_jdk_52_5_42 rfl fun T2 X2 e2 => ?_
  refine m_ishl K X2.here hx hby (wgc1_0_1 y0) d_jdk_52_5_45 rfl rfl ?_
  refine m_aloadN K X2.here hx hby d_jdk_52_5_46 rfl rfl rfl ?_
  refine m_iloadN K X2.here hx hby d_jdk_52_5_47 rfl rfl ?_
  refine k_ldB K X2 hx hby hZ e2 A_a1 (v := (.int y1)) (by decide) rfl d_jdk_52_5_48 rfl ?_
  refine m_sipush K X2.here hx hby (255 : Int32) d_jdk_52_5_49 rfl rfl ?_
  refine m_iand K X2.here hx hby (y1 &&& (255 : Int32)) d_jdk_52_5_52 rfl rfl ?_
  refine k_getS K X2 hx hby hZ hown (host := "") (Or.inl (W hw 89 rfl)) Via.refl e2 (SS.lo.ext O0.2) d_jdk_52_5_53 rfl fun T3 X3 e3 => ?_
  refine m_ishl K X3.here hx hby (wgc1_0_2 y1) d_jdk_52_5_56 rfl rfl ?_
  refine m_ior K X3.here hx hby ((wgc1_0_1 y0) ||| (wgc1_0_2 y1)) d_jdk_52_5_57 rfl rfl ?_
  refine m_i2c K X3.here hx hby (wgc1_0_3 y0 y1) d_jdk_52_5_58 rfl rfl ?_
  exact Go.retN X3 hx hby hlk hret (by simp) d_jdk_52_5_59 (by decide) (by decide) (own_nc _) (⟨rfl, e3, rfl⟩)
theorem d_jdk_52_83_0 : decode jdk_52_method_83_code 0 = .ok (.iload_n 1, 1) := by decide +kernel
theorem d_jdk_52_83_1 : decode jdk_52_method_83_code 1 = .ok (.aload_n 0, 1) := by decide +kernel
theorem d_jdk_52_83_2 : decode jdk_52_method_83_code 2 = .ok (.invokestatic 67, 3) := by decide +kernel
theorem d_jdk_52_83_5 : decode jdk_52_method_83_code 5 = .ok (.aload_n 0, 1) := by decide +kernel
theorem d_jdk_52_83_6 : decode jdk_52_method_83_code 6 = .ok (.iload_n 1, 1) := by decide +kernel
theorem d_jdk_52_83_7 : decode jdk_52_method_83_code 7 = .ok (.invokestatic 71, 3) := by decide +kernel
theorem d_jdk_52_83_10 : decode jdk_52_method_83_code 10 = .ok (.ireturn, 1) := by decide +kernel
theorem pd_4 : parseMethodDescriptor "(I[B)V" = some ⟨[.int, (.array .byte)], none⟩ := by decide +kernel
theorem pd_5 : parseMethodDescriptor "([BI)C" = some ⟨[(.array .byte), .int], some .char⟩ := by decide +kernel
theorem efuc1_0 (m : MethodId) (x0 : Addr) (x1 : Int32) : entryFrame m #[(.ref x0), (.int x1)] 2 = mkF m 0 #[.val (.ref x0), .val (.int x1)] [] := by first | (simp [entryFrame, mkF, argsToLocals, Value.category]; done) | rfl
set_option maxRecDepth 65536 in
set_option maxHeartbeats 40000000 in
theorem cuc1_0 (l : Launch) (Z : State) (a0 : Array Value) (hw : ∀ d ∈ tables_1, d.before a0 Z = true) (a1 : Addr) (cz : Int32) (vf : Value) (y0 : Int32) (y1 : Int32) (h0 : Heap) (n0 : Nat) (Z0 : n0 ≤ h0.size) (A_a1 : Av Z h0 a1 .byte [(.int y0), (.int y1)]) (O0 : Old Z n0 h0) (SS : SSt Z cz vf) :
    Con l Z (⟨"java/lang/StringUTF16", "charAt", "([BI)C"⟩ : MethodName) jdk_52_method_83_code 2 (some .char) ({ frames := 3, cells := 0, slots := 0, locals := 40 } : Room) [] #[(.ref a1), (.int (0 : Int32))] h0 (fun v h L => v = some (.int (GCH y0 y1)) ∧ h = h0 ∧ L = []) := by
  refine Con.of (plainFor_of_name pn_java_lang_StringUTF16) #[.val (.ref a1), .val (.int (0 : Int32))] (fun m => efuc1_0 m a1 (0 : Int32)) ?_
  intro p e s m below meth c s₁ K hx hby hml hown hnm hret hlk hZ X0 e0
  have N0 := Fr.nil n0
  refine m_iloadN K X0.here hx hby d_jdk_52_83_0 rfl rfl ?_
  refine m_aloadN K X0.here hx hby d_jdk_52_83_1 rfl rfl rfl ?_
  refine k_callS K X0 hx hby hZ [(.int (0 : Int32)), (.ref a1)] [] hown (W hw 96 rfl) (W hw 97 rfl) (W hw 43 rfl) (W hw 98 rfl) (cuk1 l Z a0 hw (0 : Int32) a1 cz vf y0 y1 h0 n0 Z0 A_a1 O0 SS (by first | decide | omega) (by first | decide | omega)) e0 rfl rfl pd_4 rfl d_jdk_52_83_2 (by rw [hml]; rfl) rfl (by decide) (by decide) (Nat.le_of_ble_eq_true rfl) (by decide) (by decide) fun v1 T1 L1 X1 q1 => ?_
  obtain ⟨rfl, e1, rfl⟩ := q1
  replace X1 := own_px X1
  refine k_none K ?_
  refine m_aloadN K X1.here hx hby d_jdk_52_83_5 rfl rfl rfl ?_
  refine m_iloadN K X1.here hx hby d_jdk_52_83_6 rfl rfl ?_
  refine k_callS K X1 hx hby hZ [(.ref a1), (.int (0 : Int32))] [] hown (W hw 90 rfl) (W hw 91 rfl) (W hw 43 rfl) (W hw 92 rfl) (cgc1_0 l Z a0 hw a1 cz vf y0 y1 h0 n0 Z0 A_a1 O0 SS) e1 rfl rfl pd_5 rfl d_jdk_52_83_7 (by rw [hml]; rfl) rfl (by decide) (by decide) (Nat.le_of_ble_eq_true rfl) (by decide) (by decide) fun v2 T2 L2 X2 q2 => ?_
  obtain ⟨rfl, e2, rfl⟩ := q2
  replace X2 := own_px X2
  refine k_some K (w := (.int (GCH y0 y1))) ?_
  exact Go.retN X2 hx hby hlk hret (by simp) d_jdk_52_83_10 (by decide) (by decide) (own_nc _) (⟨rfl, e2, rfl⟩)
theorem d_jdk_42_56_0 : decode jdk_42_method_56_code 0 = .ok (.aload_n 0, 1) := by decide +kernel
theorem d_jdk_42_56_1 : decode jdk_42_method_56_code 1 = .ok (.invokevirtual 492, 3) := by decide +kernel
theorem d_jdk_42_56_4 : decode jdk_42_method_56_code 4 = .ok (.ifCond .eq 12, 3) := by decide +kernel
theorem d_jdk_42_56_16 : decode jdk_42_method_56_code 16 = .ok (.aload_n 0, 1) := by decide +kernel
theorem d_jdk_42_56_17 : decode jdk_42_method_56_code 17 = .ok (.getfield 9, 3) := by decide +kernel
theorem d_jdk_42_56_20 : decode jdk_42_method_56_code 20 = .ok (.iload_n 1, 1) := by decide +kernel
theorem d_jdk_42_56_21 : decode jdk_42_method_56_code 21 = .ok (.invokestatic 498, 3) := by decide +kernel
theorem d_jdk_42_56_24 : decode jdk_42_method_56_code 24 = .ok (.ireturn, 1) := by decide +kernel
theorem pd_6 : parseMethodDescriptor "()Z" = some ⟨[], some .boolean⟩ := by decide +kernel
theorem efcu1_0 (m : MethodId) (x0 : Addr) (x1 : Int32) : entryFrame m #[(.ref x0), (.int x1)] 2 = mkF m 0 #[.val (.ref x0), .val (.int x1)] [] := by first | (simp [entryFrame, mkF, argsToLocals, Value.category]; done) | rfl
set_option maxRecDepth 65536 in
set_option maxHeartbeats 40000000 in
theorem ccu1_0 (l : Launch) (Z : State) (a0 : Array Value) (hw : ∀ d ∈ tables_1, d.before a0 Z = true) (a1 : Addr) (cz : Int32) (vf : Value) (a2 : Addr) (y0 : Int32) (y1 : Int32) (h0 : Heap) (n0 : Nat) (Z0 : n0 ≤ h0.size) (E_a1 : Exa Z h0 a1 "java/lang/String") (F_value_a1 : Fld Z h0 a1 "java/lang/String" "value" "[B" (.ref a2)) (F_coder_a1 : Fld Z h0 a1 "java/lang/String" "coder" "B" (.int (1 : Int32))) (A_a2 : Av Z h0 a2 .byte [(.int y0), (.int y1)]) (O0 : Old Z n0 h0) (SS : SSt Z cz vf) :
    Con l Z (⟨"java/lang/String", "charAt", "(I)C"⟩ : MethodName) jdk_42_method_56_code 2 (some .char) ({ frames := 4, cells := 0, slots := 0, locals := 53 } : Room) [] #[(.ref a1), (.int (0 : Int32))] h0 (fun v h L => v = some (.int (GCH y0 y1)) ∧ h = h0 ∧ L = []) := by
  refine Con.of (plainFor_of_name pn_java_lang_String) #[.val (.ref a1), .val (.int (0 : Int32))] (fun m => efcu1_0 m a1 (0 : Int32)) ?_
  intro p e s m below meth c s₁ K hx hby hml hown hnm hret hlk hZ X0 e0
  have N0 := Fr.nil n0
  refine m_aloadN K X0.here hx hby d_jdk_42_56_0 rfl rfl rfl ?_
  refine k_callV K X0 hx hby hZ a1 [] [] hown (W hw 56 rfl) (W hw 57 rfl) (notFace_of_selects (args := #[]) (mvT hZ (W hw 59 rfl))) (W hw 59 rfl) (W hw 58 rfl) (W hw 7 rfl) (W hw 60 rfl) (cil1 l Z a0 hw a1 cz vf h0 n0 Z0 F_coder_a1 O0 SS) e0 E_a1 rfl rfl pd_6 rfl d_jdk_42_56_1 (by rw [hml]; rfl) rfl (by decide) (by decide) (Nat.le_of_ble_eq_true rfl) (by decide) (by decide) fun v1 T1 L1 X1 q1 => ?_
  obtain ⟨rfl, e1, rfl⟩ := q1
  replace X1 := own_px X1
  refine k_some K (w := (.int (0 : Int32))) ?_
  refine m_ifY K X1.here hx hby (q := 16) d_jdk_42_56_4 ((if0 _ _).trans (teq (by decide : (0 : Int32) = (0 : Int32))).1) (by decide) rfl ?_
  refine m_aloadN K X1.here hx hby d_jdk_42_56_16 rfl rfl rfl ?_
  refine k_getF K X1 hx hby hZ hown (host := "") (Or.inl (W hw 24 rfl)) Via.refl e1 F_value_a1 d_jdk_42_56_17 rfl fun T2 X2 e2 => ?_
  refine m_iloadN K X2.here hx hby d_jdk_42_56_20 rfl rfl ?_
  refine k_callS K X2 hx hby hZ [(.ref a2), (.int (0 : Int32))] [] hown (W hw 93 rfl) (W hw 94 rfl) (W hw 43 rfl) (W hw 95 rfl) (cuc1_0 l Z a0 hw a2 cz vf y0 y1 h0 n0 Z0 A_a2 O0 SS) e2 rfl rfl pd_5 rfl d_jdk_42_56_21 (by rw [hml]; rfl) rfl (by decide) (by decide) (Nat.le_of_ble_eq_true rfl) (by decide) (by decide) fun v3 T3 L3 X3 q3 => ?_
  obtain ⟨rfl, e3, rfl⟩ := q3
  replace X3 := own_px X3
  refine k_some K (w := (.int (GCH y0 y1))) ?_
  exact Go.retN X3 hx hby hlk hret (by simp) d_jdk_42_56_24 (by decide) (by decide) (own_nc _) (⟨rfl, e3, rfl⟩)
theorem d_jdk_52_14_0 : decode jdk_52_method_14_code 0 = .ok (.iload_n 2, 1) := by decide +kernel
theorem d_jdk_52_14_1 : decode jdk_52_method_14_code 1 = .ok (.invokestatic 107, 3) := by decide +kernel
theorem d_jdk_52_14_4 : decode jdk_52_method_14_code 4 = .ok (.astore_n 3, 1) := by decide +kernel
theorem d_jdk_52_14_5 : decode jdk_52_method_14_code 5 = .ok (.iconst 0, 1) := by decide +kernel
theorem d_jdk_52_14_6 : decode jdk_52_method_14_code 6 = .ok (.istore 4, 2) := by decide +kernel
theorem d_jdk_52_14_8 : decode jdk_52_method_14_code 8 = .ok (.iload 4, 2) := by decide +kernel
theorem d_jdk_52_14_10 : decode jdk_52_method_14_code 10 = .ok (.iload_n 2, 1) := by decide +kernel
theorem d_jdk_52_14_11 : decode jdk_52_method_14_code 11 = .ok (.if_icmp .ge 21, 3) := by decide +kernel
theorem d_jdk_52_14_14 : decode jdk_52_method_14_code 14 = .ok (.aload_n 3, 1) := by decide +kernel
theorem d_jdk_52_14_15 : decode jdk_52_method_14_code 15 = .ok (.iload 4, 2) := by decide +kernel
theorem d_jdk_52_14_17 : decode jdk_52_method_14_code 17 = .ok (.aload_n 0, 1) := by decide +kernel
theorem d_jdk_52_14_18 : decode jdk_52_method_14_code 18 = .ok (.iload_n 1, 1) := by decide +kernel
theorem d_jdk_52_14_19 : decode jdk_52_method_14_code 19 = .ok (.caload, 1) := by decide +kernel
theorem d_jdk_52_14_20 : decode jdk_52_method_14_code 20 = .ok (.invokestatic 111, 3) := by decide +kernel
theorem d_jdk_52_14_23 : decode jdk_52_method_14_code 23 = .ok (.iinc 1 1, 3) := by decide +kernel
theorem d_jdk_52_14_26 : decode jdk_52_method_14_code 26 = .ok (.iinc 4 1, 3) := by decide +kernel
theorem d_jdk_52_14_29 : decode jdk_52_method_14_code 29 = .ok (.goto (-21), 3) := by decide +kernel
theorem d_jdk_52_14_32 : decode jdk_52_method_14_code 32 = .ok (.aload_n 3, 1) := by decide +kernel
theorem d_jdk_52_14_33 : decode jdk_52_method_14_code 33 = .ok (.areturn, 1) := by decide +kernel
theorem pd_7 : parseMethodDescriptor "(I)[B" = some ⟨[.int], some (.array .byte)⟩ := by decide +kernel
theorem pd_8 : parseMethodDescriptor "([BII)V" = some ⟨[(.array .byte), .int, .int], none⟩ := by decide +kernel
theorem eftb1 (m : MethodId) (x0 : Addr) (x1 : Int32) (x2 : Int32) : entryFrame m #[(.ref x0), (.int x1), (.int x2)] 5 = mkF m 0 #[.val (.ref x0), .val (.int x1), .val (.int x2), .unset, .unset] [] := by first | (simp [entryFrame, mkF, argsToLocals, Value.category]; done) | rfl
set_option maxRecDepth 65536 in
set_option maxHeartbeats 40000000 in
theorem ctb1 (l : Launch) (Z : State) (a0 : Array Value) (hw : ∀ d ∈ tables_1, d.before a0 Z = true) (a1 : Addr) (cz : Int32) (vf : Value) (c0 : Int32) (h0 : Heap) (n0 : Nat) (Z0 : n0 ≤ h0.size) (A_a1 : Av Z h0 a1 .char [(.int c0)]) (O0 : Old Z n0 h0) (SS : SSt Z cz vf) :
    Con l Z (⟨"java/lang/StringUTF16", "toBytes", "([CII)[B"⟩ : MethodName) jdk_52_method_14_code 5 (some (.array .byte)) ({ frames := 2, cells := 1, slots := 2, locals := 24 } : Room) [] #[(.ref a1), (.int (0 : Int32)), (.int (1 : Int32))] h0 (fun v h L => ∃ bv : Addr, v = some (.ref bv) ∧ Fr n0 L ∧ Keep h0 h [] ∧ h0.size ≤ bv ∧ Av Z h bv .byte [(.int (BLO c0)), (.int (BHI c0))]) := by
  refine Con.of (plainFor_of_name pn_java_lang_StringUTF16) #[.val (.ref a1), .val (.int (0 : Int32)), .val (.int (1 : Int32)), .unset, .unset] (fun m => eftb1 m a1 (0 : Int32) (1 : Int32)) ?_
  intro p e s m below meth c s₁ K hx hby hml hown hnm hret hlk hZ X0 e0
  have N0 := Fr.nil n0
  refine m_iloadN K X0.here hx hby d_jdk_52_14_0 rfl rfl ?_
  refine k_callS K X0 hx hby hZ [(.int (1 : Int32))] [] hown (W hw 77 rfl) (W hw 78 rfl) (W hw 43 rfl) (W hw 79 rfl) (cnf1 l Z a0 hw cz vf h0 n0 Z0 O0 SS) e0 rfl rfl pd_7 rfl d_jdk_52_14_1 (by rw [hml]; rfl) rfl (by decide) (by decide) (Nat.le_of_ble_eq_true rfl) (by decide) (by decide) fun v1 T1 L1 X1 q1 => ?_
  obtain ⟨b1_bv, rfl, Nq1, K1, sq_b1_bv, Ap1_0⟩ := q1
  have N1 := Fr.app N0 Nq1
  have sz_b1_bv : h0.size ≤ b1_bv := Nat.le_trans (Nat.le_refl _) sq_b1_bv
  have g_b1_bv : n0 ≤ b1_bv := Nat.le_trans Z0 sz_b1_bv
  refine k_some K (w := (.ref b1_bv)) ?_
  refine m_astoreN K X1.here hx hby #[.val (.ref a1), .val (.int (0 : Int32)), .val (.int (1 : Int32)), .val (.ref b1_bv), .unset] d_jdk_52_14_4 rfl rfl rfl ?_
  refine m_iconst K X1.here hx hby (0 : Int32) d_jdk_52_14_5 rfl rfl ?_
  refine m_istore K X1.here hx hby #[.val (.ref a1), .val (.int (0 : Int32)), .val (.int (1 : Int32)), .val (.ref b1_bv), .val (.int (0 : Int32))] d_jdk_52_14_6 rfl rfl ?_
  refine m_iload K X1.here hx hby d_jdk_52_14_8 rfl rfl ?_
  refine m_iloadN K X1.here hx hby d_jdk_52_14_10 rfl rfl ?_
  refine m_icmpN K X1.here hx hby (q := 14) d_jdk_52_14_11 (tlt (by decide : (0 : Int32) < (1 : Int32))).2.1 rfl ?_
  refine m_aloadN K X1.here hx hby d_jdk_52_14_14 rfl rfl rfl ?_
  refine m_iload K X1.here hx hby d_jdk_52_14_15 rfl rfl ?_
  refine m_aloadN K X1.here hx hby d_jdk_52_14_17 rfl rfl rfl ?_
  refine m_iloadN K X1.here hx hby d_jdk_52_14_18 rfl rfl ?_
  refine k_ldC K X1 hx hby hZ rfl (A_a1.keep K1 nin0) (v := (.int c0)) (by decide) rfl d_jdk_52_14_19 rfl ?_
  refine k_callS K X1 hx hby hZ [(.ref b1_bv), (.int (0 : Int32)), (.int c0)] [] hown (W hw 84 rfl) (W hw 85 rfl) (W hw 43 rfl) (W hw 86 rfl) (cpc1_0 l Z a0 hw b1_bv c0 cz vf (0 : Int32) (0 : Int32) T1.heap n0 (Nat.le_trans Z0 (Nat.le_trans (Nat.le_refl _) K1.1)) Ap1_0 (O0.keep K1 all0) g_b1_bv SS) rfl rfl rfl pd_8 rfl d_jdk_52_14_20 (by rw [hml]; rfl) rfl (by decide) (by decide) (Nat.le_of_ble_eq_true rfl) (by decide) (by decide) fun v2 T2 L2 X2 q2 => ?_
  obtain ⟨rfl, Nq2, K2, Ap2_0⟩ := q2
  have N2 := Fr.app N1 Nq2
  refine k_none K ?_
  refine m_iinc K X2.here hx hby #[.val (.ref a1), .val (.int (1 : Int32)), .val (.int (1 : Int32)), .val (.ref b1_bv), .val (.int (0 : Int32))] d_jdk_52_14_23 rfl rfl rfl ?_
  refine m_iinc K X2.here hx hby #[.val (.ref a1), .val (.int (1 : Int32)), .val (.int (1 : Int32)), .val (.ref b1_bv), .val (.int (1 : Int32))] d_jdk_52_14_26 rfl rfl rfl ?_
  refine m_goto K X2.here hx hby (q := 8) d_jdk_52_14_29 (by decide) rfl ?_
  refine m_iload K X2.here hx hby d_jdk_52_14_8 rfl rfl ?_
  refine m_iloadN K X2.here hx hby d_jdk_52_14_10 rfl rfl ?_
  refine m_icmpY K X2.here hx hby (q := 32) d_jdk_52_14_11 (flt (by decide : ¬ ((1 : Int32) < (1 : Int32)))).2.1 (by decide) rfl ?_
  refine m_aloadN K X2.here hx hby d_jdk_52_14_32 rfl rfl rfl ?_
  exact Go.retO X2 hx hby hlk hret rfl (Or.inr (Or.inr (Or.inr (Or.inr ⟨rfl, rfl, rfl⟩)))) d_jdk_52_14_33 (by decide) (by decide) (⟨b1_bv, rfl, N2, (((Keep.refl h0 []).trans K1 all0).trans K2 (allS (Or.inr sz_b1_bv) all0)), sz_b1_bv, Ap2_0⟩)
theorem d_jdk_42_54_0 : decode jdk_42_method_54_code 0 = .ok (.aload_n 0, 1) := by decide +kernel
theorem d_jdk_42_54_1 : decode jdk_42_method_54_code 1 = .ok (.getfield 9, 3) := by decide +kernel
theorem d_jdk_42_54_4 : decode jdk_42_method_54_code 4 = .ok (.arraylength, 1) := by decide +kernel
theorem d_jdk_42_54_5 : decode jdk_42_method_54_code 5 = .ok (.aload_n 0, 1) := by decide +kernel
theorem d_jdk_42_54_6 : decode jdk_42_method_54_code 6 = .ok (.invokevirtual 335, 3) := by decide +kernel
theorem d_jdk_42_54_9 : decode jdk_42_method_54_code 9 = .ok (.ishr, 1) := by decide +kernel
theorem d_jdk_42_54_10 : decode jdk_42_method_54_code 10 = .ok (.ireturn, 1) := by decide +kernel
theorem pd_9 : parseMethodDescriptor "()B" = some ⟨[], some .byte⟩ := by decide +kernel
theorem eflu1 (m : MethodId) (x0 : Addr) : entryFrame m #[(.ref x0)] 1 = mkF m 0 #[.val (.ref x0)] [] := by first | (simp [entryFrame, mkF, argsToLocals, Value.category]; done) | rfl
set_option maxRecDepth 65536 in
set_option maxHeartbeats 40000000 in
theorem clu1 (l : Launch) (Z : State) (a0 : Array Value) (hw : ∀ d ∈ tables_1, d.before a0 Z = true) (a1 : Addr) (cz : Int32) (vf : Value) (a2 : Addr) (y0 : Int32) (y1 : Int32) (h0 : Heap) (n0 : Nat) (Z0 : n0 ≤ h0.size) (E_a1 : Exa Z h0 a1 "java/lang/String") (F_value_a1 : Fld Z h0 a1 "java/lang/String" "value" "[B" (.ref a2)) (F_coder_a1 : Fld Z h0 a1 "java/lang/String" "coder" "B" (.int (1 : Int32))) (A_a2 : Av Z h0 a2 .byte [(.int y0), (.int y1)]) (O0 : Old Z n0 h0) (SS : SSt Z cz vf) :
    Con l Z (⟨"java/lang/String", "length", "()I"⟩ : MethodName) jdk_42_method_54_code 1 (some .int) ({ frames := 1, cells := 0, slots := 0, locals := 13 } : Room) [] #[(.ref a1)] h0 (fun v h L => v = some (.int (1 : Int32)) ∧ h = h0 ∧ L = []) := by
  refine Con.of (plainFor_of_name pn_java_lang_String) #[.val (.ref a1)] (fun m => eflu1 m a1) ?_
  intro p e s m below meth c s₁ K hx hby hml hown hnm hret hlk hZ X0 e0
  have N0 := Fr.nil n0
  refine m_aloadN K X0.here hx hby d_jdk_42_54_0 rfl rfl rfl ?_
  refine k_getF K X0 hx hby hZ hown (host := "") (Or.inl (W hw 24 rfl)) Via.refl e0 F_value_a1 d_jdk_42_54_1 rfl fun T1 X1 e1 => ?_
  refine k_len K X1 hx hby hZ (2 : Int32) e1 A_a2 rfl d_jdk_42_54_4 rfl ?_
  refine m_aloadN K X1.here hx hby d_jdk_42_54_5 rfl rfl rfl ?_
  refine k_callV K X1 hx hby hZ a1 [] [(.int (2 : Int32))] hown (W hw 35 rfl) (W hw 36 rfl) (notFace_of_selects (args := #[]) (mvT hZ (W hw 38 rfl))) (W hw 38 rfl) (W hw 37 rfl) (W hw 7 rfl) (W hw 39 rfl) (cco1 l Z a0 hw a1 cz vf h0 n0 Z0 F_coder_a1 O0 SS) e1 E_a1 rfl rfl pd_9 rfl d_jdk_42_54_6 (by rw [hml]; rfl) rfl (by decide) (by decide) (Nat.le_of_ble_eq_true rfl) (by decide) (by decide) fun v2 T2 L2 X2 q2 => ?_
  obtain ⟨rfl, e2, rfl⟩ := q2
  replace X2 := own_px X2
  refine k_some K (w := (.int (1 : Int32))) ?_
  refine m_ishr K X2.here hx hby (1 : Int32) d_jdk_42_54_9 rfl rfl ?_
  exact Go.retI X2 hx hby hlk hret d_jdk_42_54_10 (by decide) (by decide) (⟨rfl, e2, rfl⟩)
theorem efnl2 (m : MethodId) (x0 : Int32) : entryFrame m #[(.int x0)] 1 = mkF m 0 #[.val (.int x0)] [] := by first | (simp [entryFrame, mkF, argsToLocals, Value.category]; done) | rfl
set_option maxRecDepth 65536 in
set_option maxHeartbeats 40000000 in
theorem cnl2 (l : Launch) (Z : State) (a0 : Array Value) (hw : ∀ d ∈ tables_1, d.before a0 Z = true) (cz : Int32) (vf : Value) (h0 : Heap) (n0 : Nat) (Z0 : n0 ≤ h0.size) (O0 : Old Z n0 h0) (SS : SSt Z cz vf) :
    Con l Z (⟨"java/lang/StringUTF16", "newBytesLength", "(I)I"⟩ : MethodName) jdk_52_method_3_code 1 (some .int) ({ frames := 0, cells := 0, slots := 0, locals := 0 } : Room) [] #[(.int (2 : Int32))] h0 (fun v h L => v = some (.int (4 : Int32)) ∧ h = h0 ∧ L = []) := by
  refine Con.of (plainFor_of_name pn_java_lang_StringUTF16) #[.val (.int (2 : Int32))] (fun m => efnl2 m (2 : Int32)) ?_
  intro p e s m below meth c s₁ K hx hby hml hown hnm hret hlk hZ X0 e0
  have N0 := Fr.nil n0
  refine m_iloadN K X0.here hx hby d_jdk_52_3_0 rfl rfl ?_
  refine m_ifY K X0.here hx hby (q := 12) d_jdk_52_3_1 ((if0 _ _).trans (flt (by decide : ¬ ((2 : Int32) < (0 : Int32)))).2.1) (by decide) rfl ?_
  refine m_iloadN K X0.here hx hby d_jdk_52_3_12 rfl rfl ?_
  refine m_ldc K X0 hx hby hZ hown (W hw 83 rfl) d_jdk_52_3_13 rfl ?_
  refine m_icmpY K X0.here hx hby (q := 55) d_jdk_52_3_15 (tlt (by decide : (2 : Int32) < (1073741823 : Int32))).1 (by decide) rfl ?_
  refine m_iloadN K X0.here hx hby d_jdk_52_3_55 rfl rfl ?_
  refine m_iconst K X0.here hx hby (1 : Int32) d_jdk_52_3_56 rfl rfl ?_
  refine m_ishl K X0.here hx hby (4 : Int32) d_jdk_52_3_57 rfl rfl ?_
  exact Go.retI X0 hx hby hlk hret d_jdk_52_3_58 (by decide) (by decide) (⟨rfl, e0, rfl⟩)
theorem efnf2 (m : MethodId) (x0 : Int32) : entryFrame m #[(.int x0)] 1 = mkF m 0 #[.val (.int x0)] [] := by first | (simp [entryFrame, mkF, argsToLocals, Value.category]; done) | rfl
set_option maxRecDepth 65536 in
set_option maxHeartbeats 40000000 in
theorem cnf2 (l : Launch) (Z : State) (a0 : Array Value) (hw : ∀ d ∈ tables_1, d.before a0 Z = true) (cz : Int32) (vf : Value) (h0 : Heap) (n0 : Nat) (Z0 : n0 ≤ h0.size) (O0 : Old Z n0 h0) (SS : SSt Z cz vf) :
    Con l Z (⟨"java/lang/StringUTF16", "newBytesFor", "(I)[B"⟩ : MethodName) jdk_52_method_2_code 1 (some (.array .byte)) ({ frames := 1, cells := 1, slots := 4, locals := 12 } : Room) [] #[(.int (2 : Int32))] h0 (fun v h L => ∃ bv : Addr, v = some (.ref bv) ∧ Fr n0 L ∧ Keep h0 h [] ∧ h0.size ≤ bv ∧ Av Z h bv .byte [(.int (0 : Int32)), (.int (0 : Int32)), (.int (0 : Int32)), (.int (0 : Int32))]) := by
  refine Con.of (plainFor_of_name pn_java_lang_StringUTF16) #[.val (.int (2 : Int32))] (fun m => efnf2 m (2 : Int32)) ?_
  intro p e s m below meth c s₁ K hx hby hml hown hnm hret hlk hZ X0 e0
  have N0 := Fr.nil n0
  refine m_iloadN K X0.here hx hby d_jdk_52_2_0 rfl rfl ?_
  refine k_callS K X0 hx hby hZ [(.int (2 : Int32))] [] hown (W hw 80 rfl) (W hw 81 rfl) (W hw 43 rfl) (W hw 82 rfl) (cnl2 l Z a0 hw cz vf h0 n0 Z0 O0 SS) e0 rfl rfl pd_1 rfl d_jdk_52_2_1 (by rw [hml]; rfl) rfl (by decide) (by decide) (Nat.le_of_ble_eq_true rfl) (by decide) (by decide) fun v1 T1 L1 X1 q1 => ?_
  obtain ⟨rfl, e1, rfl⟩ := q1
  replace X1 := own_px X1
  refine k_some K (w := (.int (4 : Int32))) ?_
  refine k_newP K X1 hx hby hZ 4 4 (W hw 19 rfl) e1 d_jdk_52_2_4 rfl (by decide) rfl (by decide) (by decide) (by decide) (by decide) fun T2 h2 b2 X2 e2 E2 g2 V_b2 => ?_
  have sz_b2 : h0.size ≤ b2 := Nat.le_trans (Nat.le_refl _) (Nat.le_of_eq g2.symm)
  have g_b2 : n0 ≤ b2 := Nat.le_trans Z0 sz_b2
  replace V_b2 : Av Z h2 b2 .byte [(.int (0 : Int32)), (.int (0 : Int32)), (.int (0 : Int32)), (.int (0 : Int32))] := V_b2
  exact Go.retO X2 hx hby hlk hret rfl (Or.inr (Or.inr (Or.inr (Or.inr ⟨rfl, rfl, rfl⟩)))) d_jdk_52_2_6 (by decide) (by decide) (by rw [e2]; exact ⟨b2, rfl, N0, ((Keep.refl h0 []).ext E2), sz_b2, V_b2⟩)
theorem eful2 (m : MethodId) (x0 : Addr) : entryFrame m #[(.ref x0)] 1 = mkF m 0 #[.val (.ref x0)] [] := by first | (simp [entryFrame, mkF, argsToLocals, Value.category]; done) | rfl
set_option maxRecDepth 65536 in
set_option maxHeartbeats 40000000 in
theorem cul2 (l : Launch) (Z : State) (a0 : Array Value) (hw : ∀ d ∈ tables_1, d.before a0 Z = true) (a1 : Addr) (cz : Int32) (vf : Value) (y0 : Int32) (y1 : Int32) (y2 : Int32) (y3 : Int32) (h0 : Heap) (n0 : Nat) (Z0 : n0 ≤ h0.size) (A_a1 : Av Z h0 a1 .byte [(.int y0), (.int y1), (.int y2), (.int y3)]) (O0 : Old Z n0 h0) (SS : SSt Z cz vf) :
    Con l Z (⟨"java/lang/StringUTF16", "length", "([B)I"⟩ : MethodName) jdk_52_method_6_code 1 (some .int) ({ frames := 0, cells := 0, slots := 0, locals := 0 } : Room) [] #[(.ref a1)] h0 (fun v h L => v = some (.int (2 : Int32)) ∧ h = h0 ∧ L = []) := by
  refine Con.of (plainFor_of_name pn_java_lang_StringUTF16) #[.val (.ref a1)] (fun m => eful2 m a1) ?_
  intro p e s m below meth c s₁ K hx hby hml hown hnm hret hlk hZ X0 e0
  have N0 := Fr.nil n0
  refine m_aloadN K X0.here hx hby d_jdk_52_6_0 rfl rfl rfl ?_
  refine k_len K X0 hx hby hZ (4 : Int32) e0 A_a1 rfl d_jdk_52_6_1 rfl ?_
  refine m_iconst K X0.here hx hby (1 : Int32) d_jdk_52_6_2 rfl rfl ?_
  refine m_ishr K X0.here hx hby (2 : Int32) d_jdk_52_6_3 rfl rfl ?_
  exact Go.retI X0 hx hby hlk hret d_jdk_52_6_4 (by decide) (by decide) (⟨rfl, e0, rfl⟩)
theorem efuk2 (m : MethodId) (x0 : Int32) (x1 : Addr) : entryFrame m #[(.int x0), (.ref x1)] 2 = mkF m 0 #[.val (.int x0), .val (.ref x1)] [] := by first | (simp [entryFrame, mkF, argsToLocals, Value.category]; done) | rfl
set_option maxRecDepth 65536 in
set_option maxHeartbeats 40000000 in
theorem cuk2 (l : Launch) (Z : State) (a0 : Array Value) (hw : ∀ d ∈ tables_1, d.before a0 Z = true) (p1 : Int32) (a1 : Addr) (cz : Int32) (vf : Value) (y0 : Int32) (y1 : Int32) (y2 : Int32) (y3 : Int32) (h0 : Heap) (n0 : Nat) (Z0 : n0 ≤ h0.size) (A_a1 : Av Z h0 a1 .byte [(.int y0), (.int y1), (.int y2), (.int y3)]) (O0 : Old Z n0 h0) (SS : SSt Z cz vf) (g0 : ¬ (p1 < (0 : Int32))) (g1 : p1 < (2 : Int32)) :
    Con l Z (⟨"java/lang/StringUTF16", "checkIndex", "(I[B)V"⟩ : MethodName) jdk_52_method_91_code 2 none ({ frames := 2, cells := 0, slots := 0, locals := 27 } : Room) [] #[(.int p1), (.ref a1)] h0 (fun v h L => v = none ∧ h = h0 ∧ L = []) := by
  refine Con.of (plainFor_of_name pn_java_lang_StringUTF16) #[.val (.int p1), .val (.ref a1)] (fun m => efuk2 m p1 a1) ?_
  intro p e s m below meth c s₁ K hx hby hml hown hnm hret hlk hZ X0 e0
  have N0 := Fr.nil n0
  refine m_iloadN K X0.here hx hby d_jdk_52_91_0 rfl rfl ?_
  refine m_aloadN K X0.here hx hby d_jdk_52_91_1 rfl rfl rfl ?_
  refine k_callS K X0 hx hby hZ [(.ref a1)] [(.int p1)] hown (W hw 99 rfl) (W hw 100 rfl) (W hw 43 rfl) (W hw 101 rfl) (cul2 l Z a0 hw a1 cz vf y0 y1 y2 y3 h0 n0 Z0 A_a1 O0 SS) e0 rfl rfl pd_2 rfl d_jdk_52_91_2 (by rw [hml]; rfl) rfl (by decide) (by decide) (Nat.le_of_ble_eq_true rfl) (by decide) (by decide) fun v1 T1 L1 X1 q1 => ?_
  obtain ⟨rfl, e1, rfl⟩ := q1
  replace X1 := own_px X1
  refine k_some K (w := (.int (2 : Int32))) ?_
  refine k_callS K X1 hx hby hZ [(.int p1), (.int (2 : Int32))] [] hown (W hw 102 rfl) (W hw 66 rfl) (W hw 7 rfl) (W hw 67 rfl) (cck l Z a0 hw p1 (2 : Int32) cz vf h0 n0 Z0 O0 SS g0 g1) e1 rfl rfl pd_3 rfl d_jdk_52_91_5 (by rw [hml]; rfl) rfl (by decide) (by decide) (Nat.le_of_ble_eq_true rfl) (by decide) (by decide) fun v2 T2 L2 X2 q2 => ?_
  obtain ⟨rfl, e2, rfl⟩ := q2
  replace X2 := own_px X2
  refine k_none K ?_
  exact Go.retV X2 hx hby hlk hret d_jdk_52_91_8 (by decide) (by decide) (⟨rfl, e2, rfl⟩)
def wpc2_0_1 (p3 : Int32) : Int32 := ((p3 >>> ((0 : Int32) &&& 31)).toInt8.toInt32)
def wpc2_0_2 (p3 : Int32) : Int32 := ((p3 >>> ((8 : Int32) &&& 31)).toInt8.toInt32)
theorem efpc2_0 (m : MethodId) (x0 : Addr) (x1 : Int32) (x2 : Int32) : entryFrame m #[(.ref x0), (.int x1), (.int x2)] 3 = mkF m 0 #[.val (.ref x0), .val (.int x1), .val (.int x2)] [] := by first | (simp [entryFrame, mkF, argsToLocals, Value.category]; done) | rfl
set_option maxRecDepth 65536 in
set_option maxHeartbeats 40000000 in
theorem cpc2_0 (l : Launch) (Z : State) (a0 : Array Value) (hw : ∀ d ∈ tables_1, d.before a0 Z = true) (a1 : Addr) (p3 : Int32) (cz : Int32) (vf : Value) (y0 : Int32) (y1 : Int32) (y2 : Int32) (y3 : Int32) (h0 : Heap) (n0 : Nat) (Z0 : n0 ≤ h0.size) (A_a1 : Av Z h0 a1 .byte [(.int y0), (.int y1), (.int y2), (.int y3)]) (O0 : Old Z n0 h0) (g_a1 : n0 ≤ a1) (SS : SSt Z cz vf) :
    Con l Z (⟨"java/lang/StringUTF16", "putChar", "([BII)V"⟩ : MethodName) jdk_52_method_4_code 3 none ({ frames := 0, cells := 0, slots := 0, locals := 0 } : Room) [] #[(.ref a1), (.int (0 : Int32)), (.int p3)] h0 (fun v h L => v = none ∧ Fr n0 L ∧ Keep h0 h [a1] ∧ Av Z h a1 .byte [(.int (BLO p3)), (.int (BHI p3)), (.int y2), (.int y3)]) := by
  refine Con.of (plainFor_of_name pn_java_lang_StringUTF16) #[.val (.ref a1), .val (.int (0 : Int32)), .val (.int p3)] (fun m => efpc2_0 m a1 (0 : Int32) p3) ?_
  intro p e s m below meth c s₁ K hx hby hml hown hnm hret hlk hZ X0 e0
  have N0 := Fr.nil n0
  refine k_getS K X0 hx hby hZ hown (host := "") (Or.inl (W hw 87 rfl)) Via.refl e0 (SS.ad.ext O0.2) d_jdk_52_4_0 rfl fun T1 X1 e1 => ?_
  refine m_ifY K X1.here hx hby (q := 28) d_jdk_52_4_3 ((if0 _ _).trans (feq (by decide : ¬ ((1 : Int32) = (0 : Int32)))).2) (by decide) rfl ?_
  refine m_iloadN K X1.here hx hby d_jdk_52_4_28 rfl rfl ?_
  refine m_iconst K X1.here hx hby (1 : Int32) d_jdk_52_4_29 rfl rfl ?_
  refine m_ishl K X1.here hx hby (0 : Int32) d_jdk_52_4_30 rfl rfl ?_
  refine m_istoreN K X1.here hx hby #[.val (.ref a1), .val (.int (0 : Int32)), .val (.int p3)] d_jdk_52_4_31 rfl rfl ?_
  refine m_aloadN K X1.here hx hby d_jdk_52_4_32 rfl rfl rfl ?_
  refine m_iloadN K X1.here hx hby d_jdk_52_4_33 rfl rfl ?_
  refine m_iinc K X1.here hx hby #[.val (.ref a1), .val (.int (1 : Int32)), .val (.int p3)] d_jdk_52_4_34 rfl rfl rfl ?_
  refine m_iloadN K X1.here hx hby d_jdk_52_4_37 rfl rfl ?_
  refine k_getS K X1 hx hby hZ hown (host := "") (Or.inl (W hw 88 rfl)) Via.refl e1 (SS.hi.ext O0.2) d_jdk_52_4_38 rfl fun T2 X2 e2 => ?_
  refine m_ishr K X2.here hx hby (p3 >>> ((0 : Int32) &&& 31)) d_jdk_52_4_41 rfl rfl ?_
  refine m_i2b K X2.here hx hby (wpc2_0_1 p3) d_jdk_52_4_42 rfl rfl ?_
  refine k_stB K X2 hx hby hZ e2 A_a1 (by decide) (Nat.le_of_ble_eq_true rfl) d_jdk_52_4_43 rfl fun T3 h3 X3 e3 W3 V3 => ?_
  replace V3 : Av Z h3 a1 .byte [(.int (nar .byte (wpc2_0_1 p3))), (.int y1), (.int y2), (.int y3)] := V3
  have N3 := Fr.snoc X3 N0 g_a1
  refine m_aloadN K X3.here hx hby d_jdk_52_4_44 rfl rfl rfl ?_
  refine m_iloadN K X3.here hx hby d_jdk_52_4_45 rfl rfl ?_
  refine m_iloadN K X3.here hx hby d_jdk_52_4_46 rfl rfl ?_
  refine k_getS K X3 hx hby hZ hown (host := "") (Or.inl (W hw 89 rfl)) Via.refl e3 (SS.lo.ext (O0.wr W3 g_a1).2) d_jdk_52_4_47 rfl fun T4 X4 e4 => ?_
  refine m_ishr K X4.here hx hby (p3 >>> ((8 : Int32) &&& 31)) d_jdk_52_4_50 rfl rfl ?_
  refine m_i2b K X4.here hx hby (wpc2_0_2 p3) d_jdk_52_4_51 rfl rfl ?_
  refine k_stB K X4 hx hby hZ e4 V3 (by decide) (Nat.le_of_ble_eq_true rfl) d_jdk_52_4_52 rfl fun T5 h5 X5 e5 W5 V5 => ?_
  replace V5 : Av Z h5 a1 .byte [(.int (nar .byte (wpc2_0_1 p3))), (.int (nar .byte (wpc2_0_2 p3))), (.int y2), (.int y3)] := V5
  have N5 := Fr.snoc X5 N3 g_a1
  exact Go.retV X5 hx hby hlk hret d_jdk_52_4_53 (by decide) (by decide) (by rw [e5]; exact ⟨rfl, N5, (((Keep.refl h0 [a1]).wr W3 (Or.inl (by simp))).wr W5 (Or.inl (by simp))), V5⟩)
def wgc2_0_1 (y0 : Int32) : Int32 := ((y0 &&& (255 : Int32)) <<< ((0 : Int32) &&& 31))
def wgc2_0_2 (y1 : Int32) : Int32 := ((y1 &&& (255 : Int32)) <<< ((8 : Int32) &&& 31))
def wgc2_0_3 (y0 : Int32) (y1 : Int32) : Int32 := (((wgc2_0_1 y0) ||| (wgc2_0_2 y1)).toUInt32.toUInt16.toUInt32.toInt32)
theorem efgc2_0 (m : MethodId) (x0 : Addr) (x1 : Int32) : entryFrame m #[(.ref x0), (.int x1)] 2 = mkF m 0 #[.val (.ref x0), .val (.int x1)] [] := by first | (simp [entryFrame, mkF, argsToLocals, Value.category]; done) | rfl
set_option maxRecDepth 65536 in
set_option maxHeartbeats 40000000 in
theorem cgc2_0 (l : Launch) (Z : State) (a0 : Array Value) (hw : ∀ d ∈ tables_1, d.before a0 Z = true) (a1 : Addr) (cz : Int32) (vf : Value) (y0 : Int32) (y1 : Int32) (y2 : Int32) (y3 : Int32) (h0 : Heap) (n0 : Nat) (Z0 : n0 ≤ h0.size) (A_a1 : Av Z h0 a1 .byte [(.int y0), (.int y1), (.int y2), (.int y3)]) (O0 : Old Z n0 h0) (SS : SSt Z cz vf) :
    Con l Z (⟨"java/lang/StringUTF16", "getChar", "([BI)C"⟩ : MethodName) jdk_52_method_5_code 2 (some .char) ({ frames := 0, cells := 0, slots := 0, locals := 0 } : Room) [] #[(.ref a1), (.int (0 : Int32))] h0 (fun v h L => v = some (.int (GCH y0 y1)) ∧ h = h0 ∧ L = []) := by
  refine Con.of (plainFor_of_name pn_java_lang_StringUTF16) #[.val (.ref a1), .val (.int (0 : Int32))] (fun m => efgc2_0 m a1 (0 : Int32)) ?_
  intro p e s m below meth c s₁ K hx hby hml hown hnm hret hlk hZ X0 e0
  have N0 := Fr.nil n0
  refine k_getS K X0 hx hby hZ hown (host := "") (Or.inl (W hw 87 rfl)) Via.refl e0 (SS.ad.ext O0.2) d_jdk_52_5_0 rfl fun T1 X1 e1 => ?_
  refine m_ifY K X1.here hx hby (q := 28) d_jdk_52_5_3 ((if0 _ _).trans (feq (by decide : ¬ ((1 : Int32) = (0 : Int32)))).2) (by decide) rfl ?_
  refine m_iloadN K X1.here hx hby d_jdk_52_5_28 rfl rfl ?_
  refine m_iconst K X1.here hx hby (1 : Int32) d_jdk_52_5_29 rfl rfl ?_
  refine m_ishl K X1.here hx hby (0 : Int32) d_jdk_52_5_30 rfl rfl ?_
  refine m_istoreN K X1.here hx hby #[.val (.ref a1), .val (.int (0 : Int32))] d_jdk_52_5_31 rfl rfl ?_
  refine m_aloadN K X1.here hx hby d_jdk_52_5_32 rfl rfl rfl ?_
  refine m_iloadN K X1.here hx hby d_jdk_52_5_33 rfl rfl ?_
  refine m_iinc K X1.here hx hby #[.val (.ref a1), .val (.int (1 : Int32))] d_jdk_52_5_34 rfl rfl rfl ?_
  refine k_ldB K X1 hx hby hZ e1 A_a1 (v := (.int y0)) (by decide) rfl d_jdk_52_5_37 rfl ?_
  refine m_sipush K X1.here hx hby (255 : Int32) d_jdk_52_5_38 rfl rfl ?_
  refine m_iand K X1.here hx hby (y0 &&& (255 : Int32)) d_jdk_52_5_41 rfl rfl ?_
  refine k_getS K X1 hx hby hZ hown (host := "") (Or.inl (W hw 88 rfl)) Via.refl e1 (SS.hi.ext O0.2) d_jdk_52_5_42 rfl fun T2 X2 e2 => ?_
  refine m_ishl K X2.here hx hby (wgc2_0_1 y0) d_jdk_52_5_45 rfl rfl ?_
  refine m_aloadN K X2.here hx hby d_jdk_52_5_46 rfl rfl rfl ?_
  refine m_iloadN K X2.here hx hby d_jdk_52_5_47 rfl rfl ?_
  refine k_ldB K X2 hx hby hZ e2 A_a1 (v := (.int y1)) (by decide) rfl d_jdk_52_5_48 rfl ?_
  refine m_sipush K X2.here hx hby (255 : Int32) d_jdk_52_5_49 rfl rfl ?_
  refine m_iand K X2.here hx hby (y1 &&& (255 : Int32)) d_jdk_52_5_52 rfl rfl ?_
  refine k_getS K X2 hx hby hZ hown (host := "") (Or.inl (W hw 89 rfl)) Via.refl e2 (SS.lo.ext O0.2) d_jdk_52_5_53 rfl fun T3 X3 e3 => ?_
  refine m_ishl K X3.here hx hby (wgc2_0_2 y1) d_jdk_52_5_56 rfl rfl ?_
  refine m_ior K X3.here hx hby ((wgc2_0_1 y0) ||| (wgc2_0_2 y1)) d_jdk_52_5_57 rfl rfl ?_
  refine m_i2c K X3.here hx hby (wgc2_0_3 y0 y1) d_jdk_52_5_58 rfl rfl ?_
  exact Go.retN X3 hx hby hlk hret (by simp) d_jdk_52_5_59 (by decide) (by decide) (own_nc _) (⟨rfl, e3, rfl⟩)
theorem efuc2_0 (m : MethodId) (x0 : Addr) (x1 : Int32) : entryFrame m #[(.ref x0), (.int x1)] 2 = mkF m 0 #[.val (.ref x0), .val (.int x1)] [] := by first | (simp [entryFrame, mkF, argsToLocals, Value.category]; done) | rfl
set_option maxRecDepth 65536 in
set_option maxHeartbeats 40000000 in
theorem cuc2_0 (l : Launch) (Z : State) (a0 : Array Value) (hw : ∀ d ∈ tables_1, d.before a0 Z = true) (a1 : Addr) (cz : Int32) (vf : Value) (y0 : Int32) (y1 : Int32) (y2 : Int32) (y3 : Int32) (h0 : Heap) (n0 : Nat) (Z0 : n0 ≤ h0.size) (A_a1 : Av Z h0 a1 .byte [(.int y0), (.int y1), (.int y2), (.int y3)]) (O0 : Old Z n0 h0) (SS : SSt Z cz vf) :
    Con l Z (⟨"java/lang/StringUTF16", "charAt", "([BI)C"⟩ : MethodName) jdk_52_method_83_code 2 (some .char) ({ frames := 3, cells := 0, slots := 0, locals := 40 } : Room) [] #[(.ref a1), (.int (0 : Int32))] h0 (fun v h L => v = some (.int (GCH y0 y1)) ∧ h = h0 ∧ L = []) := by
  refine Con.of (plainFor_of_name pn_java_lang_StringUTF16) #[.val (.ref a1), .val (.int (0 : Int32))] (fun m => efuc2_0 m a1 (0 : Int32)) ?_
  intro p e s m below meth c s₁ K hx hby hml hown hnm hret hlk hZ X0 e0
  have N0 := Fr.nil n0
  refine m_iloadN K X0.here hx hby d_jdk_52_83_0 rfl rfl ?_
  refine m_aloadN K X0.here hx hby d_jdk_52_83_1 rfl rfl rfl ?_
  refine k_callS K X0 hx hby hZ [(.int (0 : Int32)), (.ref a1)] [] hown (W hw 96 rfl) (W hw 97 rfl) (W hw 43 rfl) (W hw 98 rfl) (cuk2 l Z a0 hw (0 : Int32) a1 cz vf y0 y1 y2 y3 h0 n0 Z0 A_a1 O0 SS (by first | decide | omega) (by first | decide | omega)) e0 rfl rfl pd_4 rfl d_jdk_52_83_2 (by rw [hml]; rfl) rfl (by decide) (by decide) (Nat.le_of_ble_eq_true rfl) (by decide) (by decide) fun v1 T1 L1 X1 q1 => ?_
  obtain ⟨rfl, e1, rfl⟩ := q1
  replace X1 := own_px X1
  refine k_none K ?_
  refine m_aloadN K X1.here hx hby d_jdk_52_83_5 rfl rfl rfl ?_
  refine m_iloadN K X1.here hx hby d_jdk_52_83_6 rfl rfl ?_
  refine k_callS K X1 hx hby hZ [(.ref a1), (.int (0 : Int32))] [] hown (W hw 90 rfl) (W hw 91 rfl) (W hw 43 rfl) (W hw 92 rfl) (cgc2_0 l Z a0 hw a1 cz vf y0 y1 y2 y3 h0 n0 Z0 A_a1 O0 SS) e1 rfl rfl pd_5 rfl d_jdk_52_83_7 (by rw [hml]; rfl) rfl (by decide) (by decide) (Nat.le_of_ble_eq_true rfl) (by decide) (by decide) fun v2 T2 L2 X2 q2 => ?_
  obtain ⟨rfl, e2, rfl⟩ := q2
  replace X2 := own_px X2
  refine k_some K (w := (.int (GCH y0 y1))) ?_
  exact Go.retN X2 hx hby hlk hret (by simp) d_jdk_52_83_10 (by decide) (by decide) (own_nc _) (⟨rfl, e2, rfl⟩)
theorem efcu2_0 (m : MethodId) (x0 : Addr) (x1 : Int32) : entryFrame m #[(.ref x0), (.int x1)] 2 = mkF m 0 #[.val (.ref x0), .val (.int x1)] [] := by first | (simp [entryFrame, mkF, argsToLocals, Value.category]; done) | rfl
set_option maxRecDepth 65536 in
set_option maxHeartbeats 40000000 in
theorem ccu2_0 (l : Launch) (Z : State) (a0 : Array Value) (hw : ∀ d ∈ tables_1, d.before a0 Z = true) (a1 : Addr) (cz : Int32) (vf : Value) (a2 : Addr) (y0 : Int32) (y1 : Int32) (y2 : Int32) (y3 : Int32) (h0 : Heap) (n0 : Nat) (Z0 : n0 ≤ h0.size) (E_a1 : Exa Z h0 a1 "java/lang/String") (F_value_a1 : Fld Z h0 a1 "java/lang/String" "value" "[B" (.ref a2)) (F_coder_a1 : Fld Z h0 a1 "java/lang/String" "coder" "B" (.int (1 : Int32))) (A_a2 : Av Z h0 a2 .byte [(.int y0), (.int y1), (.int y2), (.int y3)]) (O0 : Old Z n0 h0) (SS : SSt Z cz vf) :
    Con l Z (⟨"java/lang/String", "charAt", "(I)C"⟩ : MethodName) jdk_42_method_56_code 2 (some .char) ({ frames := 4, cells := 0, slots := 0, locals := 53 } : Room) [] #[(.ref a1), (.int (0 : Int32))] h0 (fun v h L => v = some (.int (GCH y0 y1)) ∧ h = h0 ∧ L = []) := by
  refine Con.of (plainFor_of_name pn_java_lang_String) #[.val (.ref a1), .val (.int (0 : Int32))] (fun m => efcu2_0 m a1 (0 : Int32)) ?_
  intro p e s m below meth c s₁ K hx hby hml hown hnm hret hlk hZ X0 e0
  have N0 := Fr.nil n0
  refine m_aloadN K X0.here hx hby d_jdk_42_56_0 rfl rfl rfl ?_
  refine k_callV K X0 hx hby hZ a1 [] [] hown (W hw 56 rfl) (W hw 57 rfl) (notFace_of_selects (args := #[]) (mvT hZ (W hw 59 rfl))) (W hw 59 rfl) (W hw 58 rfl) (W hw 7 rfl) (W hw 60 rfl) (cil1 l Z a0 hw a1 cz vf h0 n0 Z0 F_coder_a1 O0 SS) e0 E_a1 rfl rfl pd_6 rfl d_jdk_42_56_1 (by rw [hml]; rfl) rfl (by decide) (by decide) (Nat.le_of_ble_eq_true rfl) (by decide) (by decide) fun v1 T1 L1 X1 q1 => ?_
  obtain ⟨rfl, e1, rfl⟩ := q1
  replace X1 := own_px X1
  refine k_some K (w := (.int (0 : Int32))) ?_
  refine m_ifY K X1.here hx hby (q := 16) d_jdk_42_56_4 ((if0 _ _).trans (teq (by decide : (0 : Int32) = (0 : Int32))).1) (by decide) rfl ?_
  refine m_aloadN K X1.here hx hby d_jdk_42_56_16 rfl rfl rfl ?_
  refine k_getF K X1 hx hby hZ hown (host := "") (Or.inl (W hw 24 rfl)) Via.refl e1 F_value_a1 d_jdk_42_56_17 rfl fun T2 X2 e2 => ?_
  refine m_iloadN K X2.here hx hby d_jdk_42_56_20 rfl rfl ?_
  refine k_callS K X2 hx hby hZ [(.ref a2), (.int (0 : Int32))] [] hown (W hw 93 rfl) (W hw 94 rfl) (W hw 43 rfl) (W hw 95 rfl) (cuc2_0 l Z a0 hw a2 cz vf y0 y1 y2 y3 h0 n0 Z0 A_a2 O0 SS) e2 rfl rfl pd_5 rfl d_jdk_42_56_21 (by rw [hml]; rfl) rfl (by decide) (by decide) (Nat.le_of_ble_eq_true rfl) (by decide) (by decide) fun v3 T3 L3 X3 q3 => ?_
  obtain ⟨rfl, e3, rfl⟩ := q3
  replace X3 := own_px X3
  refine k_some K (w := (.int (GCH y0 y1))) ?_
  exact Go.retN X3 hx hby hlk hret (by simp) d_jdk_42_56_24 (by decide) (by decide) (own_nc _) (⟨rfl, e3, rfl⟩)
def wpc2_1_1 (p3 : Int32) : Int32 := ((p3 >>> ((0 : Int32) &&& 31)).toInt8.toInt32)
def wpc2_1_2 (p3 : Int32) : Int32 := ((p3 >>> ((8 : Int32) &&& 31)).toInt8.toInt32)
theorem efpc2_1 (m : MethodId) (x0 : Addr) (x1 : Int32) (x2 : Int32) : entryFrame m #[(.ref x0), (.int x1), (.int x2)] 3 = mkF m 0 #[.val (.ref x0), .val (.int x1), .val (.int x2)] [] := by first | (simp [entryFrame, mkF, argsToLocals, Value.category]; done) | rfl
set_option maxRecDepth 65536 in
set_option maxHeartbeats 40000000 in
theorem cpc2_1 (l : Launch) (Z : State) (a0 : Array Value) (hw : ∀ d ∈ tables_1, d.before a0 Z = true) (a1 : Addr) (p3 : Int32) (cz : Int32) (vf : Value) (y0 : Int32) (y1 : Int32) (y2 : Int32) (y3 : Int32) (h0 : Heap) (n0 : Nat) (Z0 : n0 ≤ h0.size) (A_a1 : Av Z h0 a1 .byte [(.int y0), (.int y1), (.int y2), (.int y3)]) (O0 : Old Z n0 h0) (g_a1 : n0 ≤ a1) (SS : SSt Z cz vf) :
    Con l Z (⟨"java/lang/StringUTF16", "putChar", "([BII)V"⟩ : MethodName) jdk_52_method_4_code 3 none ({ frames := 0, cells := 0, slots := 0, locals := 0 } : Room) [] #[(.ref a1), (.int (1 : Int32)), (.int p3)] h0 (fun v h L => v = none ∧ Fr n0 L ∧ Keep h0 h [a1] ∧ Av Z h a1 .byte [(.int y0), (.int y1), (.int (BLO p3)), (.int (BHI p3))]) := by
  refine Con.of (plainFor_of_name pn_java_lang_StringUTF16) #[.val (.ref a1), .val (.int (1 : Int32)), .val (.int p3)] (fun m => efpc2_1 m a1 (1 : Int32) p3) ?_
  intro p e s m below meth c s₁ K hx hby hml hown hnm hret hlk hZ X0 e0
  have N0 := Fr.nil n0
  refine k_getS K X0 hx hby hZ hown (host := "") (Or.inl (W hw 87 rfl)) Via.refl e0 (SS.ad.ext O0.2) d_jdk_52_4_0 rfl fun T1 X1 e1 => ?_
  refine m_ifY K X1.here hx hby (q := 28) d_jdk_52_4_3 ((if0 _ _).trans (feq (by decide : ¬ ((1 : Int32) = (0 : Int32)))).2) (by decide) rfl ?_
  refine m_iloadN K X1.here hx hby d_jdk_52_4_28 rfl rfl ?_
  refine m_iconst K X1.here hx hby (1 : Int32) d_jdk_52_4_29 rfl rfl ?_
  refine m_ishl K X1.here hx hby (2 : Int32) d_jdk_52_4_30 rfl rfl ?_
  refine m_istoreN K X1.here hx hby #[.val (.ref a1), .val (.int (2 : Int32)), .val (.int p3)] d_jdk_52_4_31 rfl rfl ?_
  refine m_aloadN K X1.here hx hby d_jdk_52_4_32 rfl rfl rfl ?_
  refine m_iloadN K X1.here hx hby d_jdk_52_4_33 rfl rfl ?_
  refine m_iinc K X1.here hx hby #[.val (.ref a1), .val (.int (3 : Int32)), .val (.int p3)] d_jdk_52_4_34 rfl rfl rfl ?_
  refine m_iloadN K X1.here hx hby d_jdk_52_4_37 rfl rfl ?_
  refine k_getS K X1 hx hby hZ hown (host := "") (Or.inl (W hw 88 rfl)) Via.refl e1 (SS.hi.ext O0.2) d_jdk_52_4_38 rfl fun T2 X2 e2 => ?_
  refine m_ishr K X2.here hx hby (p3 >>> ((0 : Int32) &&& 31)) d_jdk_52_4_41 rfl rfl ?_
  refine m_i2b K X2.here hx hby (wpc2_1_1 p3) d_jdk_52_4_42 rfl rfl ?_
  refine k_stB K X2 hx hby hZ e2 A_a1 (by decide) (Nat.le_of_ble_eq_true rfl) d_jdk_52_4_43 rfl fun T3 h3 X3 e3 W3 V3 => ?_
  replace V3 : Av Z h3 a1 .byte [(.int y0), (.int y1), (.int (nar .byte (wpc2_1_1 p3))), (.int y3)] := V3
  have N3 := Fr.snoc X3 N0 g_a1
  refine m_aloadN K X3.here hx hby d_jdk_52_4_44 rfl rfl rfl ?_
  refine m_iloadN K X3.here hx hby d_jdk_52_4_45 rfl rfl ?_
  refine m_iloadN K X3.here hx hby d_jdk_52_4_46 rfl rfl ?_
  refine k_getS K X3 hx hby hZ hown (host := "") (Or.inl (W hw 89 rfl)) Via.refl e3 (SS.lo.ext (O0.wr W3 g_a1).2) d_jdk_52_4_47 rfl fun T4 X4 e4 => ?_
  refine m_ishr K X4.here hx hby (p3 >>> ((8 : Int32) &&& 31)) d_jdk_52_4_50 rfl rfl ?_
  refine m_i2b K X4.here hx hby (wpc2_1_2 p3) d_jdk_52_4_51 rfl rfl ?_
  refine k_stB K X4 hx hby hZ e4 V3 (by decide) (Nat.le_of_ble_eq_true rfl) d_jdk_52_4_52 rfl fun T5 h5 X5 e5 W5 V5 => ?_
  replace V5 : Av Z h5 a1 .byte [(.int y0), (.int y1), (.int (nar .byte (wpc2_1_1 p3))), (.int (nar .byte (wpc2_1_2 p3)))] := V5
  have N5 := Fr.snoc X5 N3 g_a1
  exact Go.retV X5 hx hby hlk hret d_jdk_52_4_53 (by decide) (by decide) (by rw [e5]; exact ⟨rfl, N5, (((Keep.refl h0 [a1]).wr W3 (Or.inl (by simp))).wr W5 (Or.inl (by simp))), V5⟩)
def wgc2_1_1 (y2 : Int32) : Int32 := ((y2 &&& (255 : Int32)) <<< ((0 : Int32) &&& 31))
def wgc2_1_2 (y3 : Int32) : Int32 := ((y3 &&& (255 : Int32)) <<< ((8 : Int32) &&& 31))
def wgc2_1_3 (y2 : Int32) (y3 : Int32) : Int32 := (((wgc2_1_1 y2) ||| (wgc2_1_2 y3)).toUInt32.toUInt16.toUInt32.toInt32)
theorem efgc2_1 (m : MethodId) (x0 : Addr) (x1 : Int32) : entryFrame m #[(.ref x0), (.int x1)] 2 = mkF m 0 #[.val (.ref x0), .val (.int x1)] [] := by first | (simp [entryFrame, mkF, argsToLocals, Value.category]; done) | rfl
set_option maxRecDepth 65536 in
set_option maxHeartbeats 40000000 in
theorem cgc2_1 (l : Launch) (Z : State) (a0 : Array Value) (hw : ∀ d ∈ tables_1, d.before a0 Z = true) (a1 : Addr) (cz : Int32) (vf : Value) (y0 : Int32) (y1 : Int32) (y2 : Int32) (y3 : Int32) (h0 : Heap) (n0 : Nat) (Z0 : n0 ≤ h0.size) (A_a1 : Av Z h0 a1 .byte [(.int y0), (.int y1), (.int y2), (.int y3)]) (O0 : Old Z n0 h0) (SS : SSt Z cz vf) :
    Con l Z (⟨"java/lang/StringUTF16", "getChar", "([BI)C"⟩ : MethodName) jdk_52_method_5_code 2 (some .char) ({ frames := 0, cells := 0, slots := 0, locals := 0 } : Room) [] #[(.ref a1), (.int (1 : Int32))] h0 (fun v h L => v = some (.int (GCH y2 y3)) ∧ h = h0 ∧ L = []) := by
  refine Con.of (plainFor_of_name pn_java_lang_StringUTF16) #[.val (.ref a1), .val (.int (1 : Int32))] (fun m => efgc2_1 m a1 (1 : Int32)) ?_
  intro p e s m below meth c s₁ K hx hby hml hown hnm hret hlk hZ X0 e0
  have N0 := Fr.nil n0
  refine k_getS K X0 hx hby hZ hown (host := "") (Or.inl (W hw 87 rfl)) Via.refl e0 (SS.ad.ext O0.2) d_jdk_52_5_0 rfl fun T1 X1 e1 => ?_
  refine m_ifY K X1.here hx hby (q := 28) d_jdk_52_5_3 ((if0 _ _).trans (feq (by decide : ¬ ((1 : Int32) = (0 : Int32)))).2) (by decide) rfl ?_
  refine m_iloadN K X1.here hx hby d_jdk_52_5_28 rfl rfl ?_
  refine m_iconst K X1.here hx hby (1 : Int32) d_jdk_52_5_29 rfl rfl ?_
  refine m_ishl K X1.here hx hby (2 : Int32) d_jdk_52_5_30 rfl rfl ?_
  refine m_istoreN K X1.here hx hby #[.val (.ref a1), .val (.int (2 : Int32))] d_jdk_52_5_31 rfl rfl ?_
  refine m_aloadN K X1.here hx hby d_jdk_52_5_32 rfl rfl rfl ?_
  refine m_iloadN K X1.here hx hby d_jdk_52_5_33 rfl rfl ?_
  refine m_iinc K X1.here hx hby #[.val (.ref a1), .val (.int (3 : Int32))] d_jdk_52_5_34 rfl rfl rfl ?_
  refine k_ldB K X1 hx hby hZ e1 A_a1 (v := (.int y2)) (by decide) rfl d_jdk_52_5_37 rfl ?_
  refine m_sipush K X1.here hx hby (255 : Int32) d_jdk_52_5_38 rfl rfl ?_
  refine m_iand K X1.here hx hby (y2 &&& (255 : Int32)) d_jdk_52_5_41 rfl rfl ?_
  refine k_getS K X1 hx hby hZ hown (host := "") (Or.inl (W hw 88 rfl)) Via.refl e1 (SS.hi.ext O0.2) d_jdk_52_5_42 rfl fun T2 X2 e2 => ?_
  refine m_ishl K X2.here hx hby (wgc2_1_1 y2) d_jdk_52_5_45 rfl rfl ?_
  refine m_aloadN K X2.here hx hby d_jdk_52_5_46 rfl rfl rfl ?_
  refine m_iloadN K X2.here hx hby d_jdk_52_5_47 rfl rfl ?_
  refine k_ldB K X2 hx hby hZ e2 A_a1 (v := (.int y3)) (by decide) rfl d_jdk_52_5_48 rfl ?_
  refine m_sipush K X2.here hx hby (255 : Int32) d_jdk_52_5_49 rfl rfl ?_
  refine m_iand K X2.here hx hby (y3 &&& (255 : Int32)) d_jdk_52_5_52 rfl rfl ?_
  refine k_getS K X2 hx hby hZ hown (host := "") (Or.inl (W hw 89 rfl)) Via.refl e2 (SS.lo.ext O0.2) d_jdk_52_5_53 rfl fun T3 X3 e3 => ?_
  refine m_ishl K X3.here hx hby (wgc2_1_2 y3) d_jdk_52_5_56 rfl rfl ?_
  refine m_ior K X3.here hx hby ((wgc2_1_1 y2) ||| (wgc2_1_2 y3)) d_jdk_52_5_57 rfl rfl ?_
  refine m_i2c K X3.here hx hby (wgc2_1_3 y2 y3) d_jdk_52_5_58 rfl rfl ?_
  exact Go.retN X3 hx hby hlk hret (by simp) d_jdk_52_5_59 (by decide) (by decide) (own_nc _) (⟨rfl, e3, rfl⟩)
theorem efuc2_1 (m : MethodId) (x0 : Addr) (x1 : Int32) : entryFrame m #[(.ref x0), (.int x1)] 2 = mkF m 0 #[.val (.ref x0), .val (.int x1)] [] := by first | (simp [entryFrame, mkF, argsToLocals, Value.category]; done) | rfl
set_option maxRecDepth 65536 in
set_option maxHeartbeats 40000000 in
theorem cuc2_1 (l : Launch) (Z : State) (a0 : Array Value) (hw : ∀ d ∈ tables_1, d.before a0 Z = true) (a1 : Addr) (cz : Int32) (vf : Value) (y0 : Int32) (y1 : Int32) (y2 : Int32) (y3 : Int32) (h0 : Heap) (n0 : Nat) (Z0 : n0 ≤ h0.size) (A_a1 : Av Z h0 a1 .byte [(.int y0), (.int y1), (.int y2), (.int y3)]) (O0 : Old Z n0 h0) (SS : SSt Z cz vf) :
    Con l Z (⟨"java/lang/StringUTF16", "charAt", "([BI)C"⟩ : MethodName) jdk_52_method_83_code 2 (some .char) ({ frames := 3, cells := 0, slots := 0, locals := 40 } : Room) [] #[(.ref a1), (.int (1 : Int32))] h0 (fun v h L => v = some (.int (GCH y2 y3)) ∧ h = h0 ∧ L = []) := by
  refine Con.of (plainFor_of_name pn_java_lang_StringUTF16) #[.val (.ref a1), .val (.int (1 : Int32))] (fun m => efuc2_1 m a1 (1 : Int32)) ?_
  intro p e s m below meth c s₁ K hx hby hml hown hnm hret hlk hZ X0 e0
  have N0 := Fr.nil n0
  refine m_iloadN K X0.here hx hby d_jdk_52_83_0 rfl rfl ?_
  refine m_aloadN K X0.here hx hby d_jdk_52_83_1 rfl rfl rfl ?_
  refine k_callS K X0 hx hby hZ [(.int (1 : Int32)), (.ref a1)] [] hown (W hw 96 rfl) (W hw 97 rfl) (W hw 43 rfl) (W hw 98 rfl) (cuk2 l Z a0 hw (1 : Int32) a1 cz vf y0 y1 y2 y3 h0 n0 Z0 A_a1 O0 SS (by first | decide | omega) (by first | decide | omega)) e0 rfl rfl pd_4 rfl d_jdk_52_83_2 (by rw [hml]; rfl) rfl (by decide) (by decide) (Nat.le_of_ble_eq_true rfl) (by decide) (by decide) fun v1 T1 L1 X1 q1 => ?_
  obtain ⟨rfl, e1, rfl⟩ := q1
  replace X1 := own_px X1
  refine k_none K ?_
  refine m_aloadN K X1.here hx hby d_jdk_52_83_5 rfl rfl rfl ?_
  refine m_iloadN K X1.here hx hby d_jdk_52_83_6 rfl rfl ?_
  refine k_callS K X1 hx hby hZ [(.ref a1), (.int (1 : Int32))] [] hown (W hw 90 rfl) (W hw 91 rfl) (W hw 43 rfl) (W hw 92 rfl) (cgc2_1 l Z a0 hw a1 cz vf y0 y1 y2 y3 h0 n0 Z0 A_a1 O0 SS) e1 rfl rfl pd_5 rfl d_jdk_52_83_7 (by rw [hml]; rfl) rfl (by decide) (by decide) (Nat.le_of_ble_eq_true rfl) (by decide) (by decide) fun v2 T2 L2 X2 q2 => ?_
  obtain ⟨rfl, e2, rfl⟩ := q2
  replace X2 := own_px X2
  refine k_some K (w := (.int (GCH y2 y3))) ?_
  exact Go.retN X2 hx hby hlk hret (by simp) d_jdk_52_83_10 (by decide) (by decide) (own_nc _) (⟨rfl, e2, rfl⟩)
theorem efcu2_1 (m : MethodId) (x0 : Addr) (x1 : Int32) : entryFrame m #[(.ref x0), (.int x1)] 2 = mkF m 0 #[.val (.ref x0), .val (.int x1)] [] := by first | (simp [entryFrame, mkF, argsToLocals, Value.category]; done) | rfl
set_option maxRecDepth 65536 in
set_option maxHeartbeats 40000000 in
theorem ccu2_1 (l : Launch) (Z : State) (a0 : Array Value) (hw : ∀ d ∈ tables_1, d.before a0 Z = true) (a1 : Addr) (cz : Int32) (vf : Value) (a2 : Addr) (y0 : Int32) (y1 : Int32) (y2 : Int32) (y3 : Int32) (h0 : Heap) (n0 : Nat) (Z0 : n0 ≤ h0.size) (E_a1 : Exa Z h0 a1 "java/lang/String") (F_value_a1 : Fld Z h0 a1 "java/lang/String" "value" "[B" (.ref a2)) (F_coder_a1 : Fld Z h0 a1 "java/lang/String" "coder" "B" (.int (1 : Int32))) (A_a2 : Av Z h0 a2 .byte [(.int y0), (.int y1), (.int y2), (.int y3)]) (O0 : Old Z n0 h0) (SS : SSt Z cz vf) :
    Con l Z (⟨"java/lang/String", "charAt", "(I)C"⟩ : MethodName) jdk_42_method_56_code 2 (some .char) ({ frames := 4, cells := 0, slots := 0, locals := 53 } : Room) [] #[(.ref a1), (.int (1 : Int32))] h0 (fun v h L => v = some (.int (GCH y2 y3)) ∧ h = h0 ∧ L = []) := by
  refine Con.of (plainFor_of_name pn_java_lang_String) #[.val (.ref a1), .val (.int (1 : Int32))] (fun m => efcu2_1 m a1 (1 : Int32)) ?_
  intro p e s m below meth c s₁ K hx hby hml hown hnm hret hlk hZ X0 e0
  have N0 := Fr.nil n0
  refine m_aloadN K X0.here hx hby d_jdk_42_56_0 rfl rfl rfl ?_
  refine k_callV K X0 hx hby hZ a1 [] [] hown (W hw 56 rfl) (W hw 57 rfl) (notFace_of_selects (args := #[]) (mvT hZ (W hw 59 rfl))) (W hw 59 rfl) (W hw 58 rfl) (W hw 7 rfl) (W hw 60 rfl) (cil1 l Z a0 hw a1 cz vf h0 n0 Z0 F_coder_a1 O0 SS) e0 E_a1 rfl rfl pd_6 rfl d_jdk_42_56_1 (by rw [hml]; rfl) rfl (by decide) (by decide) (Nat.le_of_ble_eq_true rfl) (by decide) (by decide) fun v1 T1 L1 X1 q1 => ?_
  obtain ⟨rfl, e1, rfl⟩ := q1
  replace X1 := own_px X1
  refine k_some K (w := (.int (0 : Int32))) ?_
  refine m_ifY K X1.here hx hby (q := 16) d_jdk_42_56_4 ((if0 _ _).trans (teq (by decide : (0 : Int32) = (0 : Int32))).1) (by decide) rfl ?_
  refine m_aloadN K X1.here hx hby d_jdk_42_56_16 rfl rfl rfl ?_
  refine k_getF K X1 hx hby hZ hown (host := "") (Or.inl (W hw 24 rfl)) Via.refl e1 F_value_a1 d_jdk_42_56_17 rfl fun T2 X2 e2 => ?_
  refine m_iloadN K X2.here hx hby d_jdk_42_56_20 rfl rfl ?_
  refine k_callS K X2 hx hby hZ [(.ref a2), (.int (1 : Int32))] [] hown (W hw 93 rfl) (W hw 94 rfl) (W hw 43 rfl) (W hw 95 rfl) (cuc2_1 l Z a0 hw a2 cz vf y0 y1 y2 y3 h0 n0 Z0 A_a2 O0 SS) e2 rfl rfl pd_5 rfl d_jdk_42_56_21 (by rw [hml]; rfl) rfl (by decide) (by decide) (Nat.le_of_ble_eq_true rfl) (by decide) (by decide) fun v3 T3 L3 X3 q3 => ?_
  obtain ⟨rfl, e3, rfl⟩ := q3
  replace X3 := own_px X3
  refine k_some K (w := (.int (GCH y2 y3))) ?_
  exact Go.retN X3 hx hby hlk hret (by simp) d_jdk_42_56_24 (by decide) (by decide) (own_nc _) (⟨rfl, e3, rfl⟩)
theorem eftb2 (m : MethodId) (x0 : Addr) (x1 : Int32) (x2 : Int32) : entryFrame m #[(.ref x0), (.int x1), (.int x2)] 5 = mkF m 0 #[.val (.ref x0), .val (.int x1), .val (.int x2), .unset, .unset] [] := by first | (simp [entryFrame, mkF, argsToLocals, Value.category]; done) | rfl
set_option maxRecDepth 65536 in
set_option maxHeartbeats 40000000 in
theorem ctb2 (l : Launch) (Z : State) (a0 : Array Value) (hw : ∀ d ∈ tables_1, d.before a0 Z = true) (a1 : Addr) (cz : Int32) (vf : Value) (c0 : Int32) (c1 : Int32) (h0 : Heap) (n0 : Nat) (Z0 : n0 ≤ h0.size) (A_a1 : Av Z h0 a1 .char [(.int c0), (.int c1)]) (O0 : Old Z n0 h0) (SS : SSt Z cz vf) :
    Con l Z (⟨"java/lang/StringUTF16", "toBytes", "([CII)[B"⟩ : MethodName) jdk_52_method_14_code 5 (some (.array .byte)) ({ frames := 2, cells := 1, slots := 4, locals := 24 } : Room) [] #[(.ref a1), (.int (0 : Int32)), (.int (2 : Int32))] h0 (fun v h L => ∃ bv : Addr, v = some (.ref bv) ∧ Fr n0 L ∧ Keep h0 h [] ∧ h0.size ≤ bv ∧ Av Z h bv .byte [(.int (BLO c0)), (.int (BHI c0)), (.int (BLO c1)), (.int (BHI c1))]) := by
  refine Con.of (plainFor_of_name pn_java_lang_StringUTF16) #[.val (.ref a1), .val (.int (0 : Int32)), .val (.int (2 : Int32)), .unset, .unset] (fun m => eftb2 m a1 (0 : Int32) (2 : Int32)) ?_
  intro p e s m below meth c s₁ K hx hby hml hown hnm hret hlk hZ X0 e0
  have N0 := Fr.nil n0
  refine m_iloadN K X0.here hx hby d_jdk_52_14_0 rfl rfl ?_
  refine k_callS K X0 hx hby hZ [(.int (2 : Int32))] [] hown (W hw 77 rfl) (W hw 78 rfl) (W hw 43 rfl) (W hw 79 rfl) (cnf2 l Z a0 hw cz vf h0 n0 Z0 O0 SS) e0 rfl rfl pd_7 rfl d_jdk_52_14_1 (by rw [hml]; rfl) rfl (by decide) (by decide) (Nat.le_of_ble_eq_true rfl) (by decide) (by decide) fun v1 T1 L1 X1 q1 => ?_
  obtain ⟨b1_bv, rfl, Nq1, K1, sq_b1_bv, Ap1_0⟩ := q1
  have N1 := Fr.app N0 Nq1
  have sz_b1_bv : h0.size ≤ b1_bv := Nat.le_trans (Nat.le_refl _) sq_b1_bv
  have g_b1_bv : n0 ≤ b1_bv := Nat.le_trans Z0 sz_b1_bv
  refine k_some K (w := (.ref b1_bv)) ?_
  refine m_astoreN K X1.here hx hby #[.val (.ref a1), .val (.int (0 : Int32)), .val (.int (2 : Int32)), .val (.ref b1_bv), .unset] d_jdk_52_14_4 rfl rfl rfl ?_
  refine m_iconst K X1.here hx hby (0 : Int32) d_jdk_52_14_5 rfl rfl ?_
  refine m_istore K X1.here hx hby #[.val (.ref a1), .val (.int (0 : Int32)), .val (.int (2 : Int32)), .val (.ref b1_bv), .val (.int (0 : Int32))] d_jdk_52_14_6 rfl rfl ?_
  refine m_iload K X1.here hx hby d_jdk_52_14_8 rfl rfl ?_
  refine m_iloadN K X1.here hx hby d_jdk_52_14_10 rfl rfl ?_
  refine m_icmpN K X1.here hx hby (q := 14) d_jdk_52_14_11 (tlt (by decide : (0 : Int32) < (2 : Int32))).2.1 rfl ?_
  refine m_aloadN K X1.here hx hby d_jdk_52_14_14 rfl rfl rfl ?_
  refine m_iload K X1.here hx hby d_jdk_52_14_15 rfl rfl ?_
  refine m_aloadN K X1.here hx hby d_jdk_52_14_17 rfl rfl rfl ?_
  refine m_iloadN K X1.here hx hby d_jdk_52_14_18 rfl rfl ?_
  refine k_ldC K X1 hx hby hZ rfl (A_a1.keep K1 nin0) (v := (.int c0)) (by decide) rfl d_jdk_52_14_19 rfl ?_
  refine k_callS K X1 hx hby hZ [(.ref b1_bv), (.int (0 : Int32)), (.int c0)] [] hown (W hw 84 rfl) (W hw 85 rfl) (W hw 43 rfl) (W hw 86 rfl) (cpc2_0 l Z a0 hw b1_bv c0 cz vf (0 : Int32) (0 : Int32) (0 : Int32) (0 : Int32) T1.heap n0 (Nat.le_trans Z0 (Nat.le_trans (Nat.le_refl _) K1.1)) Ap1_0 (O0.keep K1 all0) g_b1_bv SS) rfl rfl rfl pd_8 rfl d_jdk_52_14_20 (by rw [hml]; rfl) rfl (by decide) (by decide) (Nat.le_of_ble_eq_true rfl) (by decide) (by decide) fun v2 T2 L2 X2 q2 => ?_
  obtain ⟨rfl, Nq2, K2, Ap2_0⟩ := q2
  have N2 := Fr.app N1 Nq2
  refine k_none K ?_
  refine m_iinc K X2.here hx hby #[.val (.ref a1), .val (.int (1 : Int32)), .val (.int (2 : Int32)), .val (.ref b1_bv), .val (.int (0 : Int32))] d_jdk_52_14_23 rfl rfl rfl ?_
  refine m_iinc K X2.here hx hby #[.val (.ref a1), .val (.int (1 : Int32)), .val (.int (2 : Int32)), .val (.ref b1_bv), .val (.int (1 : Int32))] d_jdk_52_14_26 rfl rfl rfl ?_
  refine m_goto K X2.here hx hby (q := 8) d_jdk_52_14_29 (by decide) rfl ?_
  refine m_iload K X2.here hx hby d_jdk_52_14_8 rfl rfl ?_
  refine m_iloadN K X2.here hx hby d_jdk_52_14_10 rfl rfl ?_
  refine m_icmpN K X2.here hx hby (q := 14) d_jdk_52_14_11 (tlt (by decide : (1 : Int32) < (2 : Int32))).2.1 rfl ?_
  refine m_aloadN K X2.here hx hby d_jdk_52_14_14 rfl rfl rfl ?_
  refine m_iload K X2.here hx hby d_jdk_52_14_15 rfl rfl ?_
  refine m_aloadN K X2.here hx hby d_jdk_52_14_17 rfl rfl rfl ?_
  refine m_iloadN K X2.here hx hby d_jdk_52_14_18 rfl rfl ?_
  refine k_ldC K X2 hx hby hZ rfl ((A_a1.keep K1 nin0).keep K2 (ninS (Nat.ne_of_lt (Nat.lt_of_lt_of_le (Nat.lt_of_lt_of_le A_a1.lt (Nat.le_refl _)) sq_b1_bv)) nin0)) (v := (.int c1)) (by decide) rfl d_jdk_52_14_19 rfl ?_
  refine k_callS K X2 hx hby hZ [(.ref b1_bv), (.int (1 : Int32)), (.int c1)] [] hown (W hw 84 rfl) (W hw 85 rfl) (W hw 43 rfl) (W hw 86 rfl) (cpc2_1 l Z a0 hw b1_bv c1 cz vf (BLO c0) (BHI c0) (0 : Int32) (0 : Int32) T2.heap n0 (Nat.le_trans Z0 (Nat.le_trans (Nat.le_trans (Nat.le_refl _) K1.1) K2.1)) Ap2_0 ((O0.keep K1 all0).keep K2 (allS g_b1_bv all0)) g_b1_bv SS) rfl rfl rfl pd_8 rfl d_jdk_52_14_20 (by rw [hml]; rfl) rfl (by decide) (by decide) (Nat.le_of_ble_eq_true rfl) (by decide) (by decide) fun v3 T3 L3 X3 q3 => ?_
  obtain ⟨rfl, Nq3, K3, Ap3_0⟩ := q3
  have N3 := Fr.app N2 Nq3
  refine k_none K ?_
  refine m_iinc K X3.here hx hby #[.val (.ref a1), .val (.int (2 : Int32)), .val (.int (2 : Int32)), .val (.ref b1_bv), .val (.int (1 : Int32))] d_jdk_52_14_23 rfl rfl rfl ?_
  refine m_iinc K X3.here hx hby #[.val (.ref a1), .val (.int (2 : Int32)), .val (.int (2 : Int32)), .val (.ref b1_bv), .val (.int (2 : Int32))] d_jdk_52_14_26 rfl rfl rfl ?_
  refine m_goto K X3.here hx hby (q := 8) d_jdk_52_14_29 (by decide) rfl ?_
  refine m_iload K X3.here hx hby d_jdk_52_14_8 rfl rfl ?_
  refine m_iloadN K X3.here hx hby d_jdk_52_14_10 rfl rfl ?_
  refine m_icmpY K X3.here hx hby (q := 32) d_jdk_52_14_11 (flt (by decide : ¬ ((2 : Int32) < (2 : Int32)))).2.1 (by decide) rfl ?_
  refine m_aloadN K X3.here hx hby d_jdk_52_14_32 rfl rfl rfl ?_
  exact Go.retO X3 hx hby hlk hret rfl (Or.inr (Or.inr (Or.inr (Or.inr ⟨rfl, rfl, rfl⟩)))) d_jdk_52_14_33 (by decide) (by decide) (⟨b1_bv, rfl, N3, ((((Keep.refl h0 []).trans K1 all0).trans K2 (allS (Or.inr sz_b1_bv) all0)).trans K3 (allS (Or.inr sz_b1_bv) all0)), sz_b1_bv, Ap3_0⟩)
theorem eflu2 (m : MethodId) (x0 : Addr) : entryFrame m #[(.ref x0)] 1 = mkF m 0 #[.val (.ref x0)] [] := by first | (simp [entryFrame, mkF, argsToLocals, Value.category]; done) | rfl
set_option maxRecDepth 65536 in
set_option maxHeartbeats 40000000 in
theorem clu2 (l : Launch) (Z : State) (a0 : Array Value) (hw : ∀ d ∈ tables_1, d.before a0 Z = true) (a1 : Addr) (cz : Int32) (vf : Value) (a2 : Addr) (y0 : Int32) (y1 : Int32) (y2 : Int32) (y3 : Int32) (h0 : Heap) (n0 : Nat) (Z0 : n0 ≤ h0.size) (E_a1 : Exa Z h0 a1 "java/lang/String") (F_value_a1 : Fld Z h0 a1 "java/lang/String" "value" "[B" (.ref a2)) (F_coder_a1 : Fld Z h0 a1 "java/lang/String" "coder" "B" (.int (1 : Int32))) (A_a2 : Av Z h0 a2 .byte [(.int y0), (.int y1), (.int y2), (.int y3)]) (O0 : Old Z n0 h0) (SS : SSt Z cz vf) :
    Con l Z (⟨"java/lang/String", "length", "()I"⟩ : MethodName) jdk_42_method_54_code 1 (some .int) ({ frames := 1, cells := 0, slots := 0, locals := 13 } : Room) [] #[(.ref a1)] h0 (fun v h L => v = some (.int (2 : Int32)) ∧ h = h0 ∧ L = []) := by
  refine Con.of (plainFor_of_name pn_java_lang_String) #[.val (.ref a1)] (fun m => eflu2 m a1) ?_
  intro p e s m below meth c s₁ K hx hby hml hown hnm hret hlk hZ X0 e0
  have N0 := Fr.nil n0
  refine m_aloadN K X0.here hx hby d_jdk_42_54_0 rfl rfl rfl ?_
  refine k_getF K X0 hx hby hZ hown (host := "") (Or.inl (W hw 24 rfl)) Via.refl e0 F_value_a1 d_jdk_42_54_1 rfl fun T1 X1 e1 => ?_
  refine k_len K X1 hx hby hZ (4 : Int32) e1 A_a2 rfl d_jdk_42_54_4 rfl ?_
  refine m_aloadN K X1.here hx hby d_jdk_42_54_5 rfl rfl rfl ?_
  refine k_callV K X1 hx hby hZ a1 [] [(.int (4 : Int32))] hown (W hw 35 rfl) (W hw 36 rfl) (notFace_of_selects (args := #[]) (mvT hZ (W hw 38 rfl))) (W hw 38 rfl) (W hw 37 rfl) (W hw 7 rfl) (W hw 39 rfl) (cco1 l Z a0 hw a1 cz vf h0 n0 Z0 F_coder_a1 O0 SS) e1 E_a1 rfl rfl pd_9 rfl d_jdk_42_54_6 (by rw [hml]; rfl) rfl (by decide) (by decide) (Nat.le_of_ble_eq_true rfl) (by decide) (by decide) fun v2 T2 L2 X2 q2 => ?_
  obtain ⟨rfl, e2, rfl⟩ := q2
  replace X2 := own_px X2
  refine k_some K (w := (.int (1 : Int32))) ?_
  refine m_ishr K X2.here hx hby (2 : Int32) d_jdk_42_54_9 rfl rfl ?_
  exact Go.retI X2 hx hby hlk hret d_jdk_42_54_10 (by decide) (by decide) (⟨rfl, e2, rfl⟩)
theorem efnl3 (m : MethodId) (x0 : Int32) : entryFrame m #[(.int x0)] 1 = mkF m 0 #[.val (.int x0)] [] := by first | (simp [entryFrame, mkF, argsToLocals, Value.category]; done) | rfl
set_option maxRecDepth 65536 in
set_option maxHeartbeats 40000000 in
theorem cnl3 (l : Launch) (Z : State) (a0 : Array Value) (hw : ∀ d ∈ tables_1, d.before a0 Z = true) (cz : Int32) (vf : Value) (h0 : Heap) (n0 : Nat) (Z0 : n0 ≤ h0.size) (O0 : Old Z n0 h0) (SS : SSt Z cz vf) :
    Con l Z (⟨"java/lang/StringUTF16", "newBytesLength", "(I)I"⟩ : MethodName) jdk_52_method_3_code 1 (some .int) ({ frames := 0, cells := 0, slots := 0, locals := 0 } : Room) [] #[(.int (3 : Int32))] h0 (fun v h L => v = some (.int (6 : Int32)) ∧ h = h0 ∧ L = []) := by
  refine Con.of (plainFor_of_name pn_java_lang_StringUTF16) #[.val (.int (3 : Int32))] (fun m => efnl3 m (3 : Int32)) ?_
  intro p e s m below meth c s₁ K hx hby hml hown hnm hret hlk hZ X0 e0
  have N0 := Fr.nil n0
  refine m_iloadN K X0.here hx hby d_jdk_52_3_0 rfl rfl ?_
  refine m_ifY K X0.here hx hby (q := 12) d_jdk_52_3_1 ((if0 _ _).trans (flt (by decide : ¬ ((3 : Int32) < (0 : Int32)))).2.1) (by decide) rfl ?_
  refine m_iloadN K X0.here hx hby d_jdk_52_3_12 rfl rfl ?_
  refine m_ldc K X0 hx hby hZ hown (W hw 83 rfl) d_jdk_52_3_13 rfl ?_
  refine m_icmpY K X0.here hx hby (q := 55) d_jdk_52_3_15 (tlt (by decide : (3 : Int32) < (1073741823 : Int32))).1 (by decide) rfl ?_
  refine m_iloadN K X0.here hx hby d_jdk_52_3_55 rfl rfl ?_
  refine m_iconst K X0.here hx hby (1 : Int32) d_jdk_52_3_56 rfl rfl ?_
  refine m_ishl K X0.here hx hby (6 : Int32) d_jdk_52_3_57 rfl rfl ?_
  exact Go.retI X0 hx hby hlk hret d_jdk_52_3_58 (by decide) (by decide) (⟨rfl, e0, rfl⟩)
theorem efnf3 (m : MethodId) (x0 : Int32) : entryFrame m #[(.int x0)] 1 = mkF m 0 #[.val (.int x0)] [] := by first | (simp [entryFrame, mkF, argsToLocals, Value.category]; done) | rfl
set_option maxRecDepth 65536 in
set_option maxHeartbeats 40000000 in
theorem cnf3 (l : Launch) (Z : State) (a0 : Array Value) (hw : ∀ d ∈ tables_1, d.before a0 Z = true) (cz : Int32) (vf : Value) (h0 : Heap) (n0 : Nat) (Z0 : n0 ≤ h0.size) (O0 : Old Z n0 h0) (SS : SSt Z cz vf) :
    Con l Z (⟨"java/lang/StringUTF16", "newBytesFor", "(I)[B"⟩ : MethodName) jdk_52_method_2_code 1 (some (.array .byte)) ({ frames := 1, cells := 1, slots := 6, locals := 12 } : Room) [] #[(.int (3 : Int32))] h0 (fun v h L => ∃ bv : Addr, v = some (.ref bv) ∧ Fr n0 L ∧ Keep h0 h [] ∧ h0.size ≤ bv ∧ Av Z h bv .byte [(.int (0 : Int32)), (.int (0 : Int32)), (.int (0 : Int32)), (.int (0 : Int32)), (.int (0 : Int32)), (.int (0 : Int32))]) := by
  refine Con.of (plainFor_of_name pn_java_lang_StringUTF16) #[.val (.int (3 : Int32))] (fun m => efnf3 m (3 : Int32)) ?_
  intro p e s m below meth c s₁ K hx hby hml hown hnm hret hlk hZ X0 e0
  have N0 := Fr.nil n0
  refine m_iloadN K X0.here hx hby d_jdk_52_2_0 rfl rfl ?_
  refine k_callS K X0 hx hby hZ [(.int (3 : Int32))] [] hown (W hw 80 rfl) (W hw 81 rfl) (W hw 43 rfl) (W hw 82 rfl) (cnl3 l Z a0 hw cz vf h0 n0 Z0 O0 SS) e0 rfl rfl pd_1 rfl d_jdk_52_2_1 (by rw [hml]; rfl) rfl (by decide) (by decide) (Nat.le_of_ble_eq_true rfl) (by decide) (by decide) fun v1 T1 L1 X1 q1 => ?_
  obtain ⟨rfl, e1, rfl⟩ := q1
  replace X1 := own_px X1
  refine k_some K (w := (.int (6 : Int32))) ?_
  refine k_newP K X1 hx hby hZ 6 6 (W hw 19 rfl) e1 d_jdk_52_2_4 rfl (by decide) rfl (by decide) (by decide) (by decide) (by decide) fun T2 h2 b2 X2 e2 E2 g2 V_b2 => ?_
  have sz_b2 : h0.size ≤ b2 := Nat.le_trans (Nat.le_refl _) (Nat.le_of_eq g2.symm)
  have g_b2 : n0 ≤ b2 := Nat.le_trans Z0 sz_b2
  replace V_b2 : Av Z h2 b2 .byte [(.int (0 : Int32)), (.int (0 : Int32)), (.int (0 : Int32)), (.int (0 : Int32)), (.int (0 : Int32)), (.int (0 : Int32))] := V_b2
  exact Go.retO X2 hx hby hlk hret rfl (Or.inr (Or.inr (Or.inr (Or.inr ⟨rfl, rfl, rfl⟩)))) d_jdk_52_2_6 (by decide) (by decide) (by rw [e2]; exact ⟨b2, rfl, N0, ((Keep.refl h0 []).ext E2), sz_b2, V_b2⟩)
theorem eful3 (m : MethodId) (x0 : Addr) : entryFrame m #[(.ref x0)] 1 = mkF m 0 #[.val (.ref x0)] [] := by first | (simp [entryFrame, mkF, argsToLocals, Value.category]; done) | rfl
set_option maxRecDepth 65536 in
set_option maxHeartbeats 40000000 in
theorem cul3 (l : Launch) (Z : State) (a0 : Array Value) (hw : ∀ d ∈ tables_1, d.before a0 Z = true) (a1 : Addr) (cz : Int32) (vf : Value) (y0 : Int32) (y1 : Int32) (y2 : Int32) (y3 : Int32) (y4 : Int32) (y5 : Int32) (h0 : Heap) (n0 : Nat) (Z0 : n0 ≤ h0.size) (A_a1 : Av Z h0 a1 .byte [(.int y0), (.int y1), (.int y2), (.int y3), (.int y4), (.int y5)]) (O0 : Old Z n0 h0) (SS : SSt Z cz vf) :
    Con l Z (⟨"java/lang/StringUTF16", "length", "([B)I"⟩ : MethodName) jdk_52_method_6_code 1 (some .int) ({ frames := 0, cells := 0, slots := 0, locals := 0 } : Room) [] #[(.ref a1)] h0 (fun v h L => v = some (.int (3 : Int32)) ∧ h = h0 ∧ L = []) := by
  refine Con.of (plainFor_of_name pn_java_lang_StringUTF16) #[.val (.ref a1)] (fun m => eful3 m a1) ?_
  intro p e s m below meth c s₁ K hx hby hml hown hnm hret hlk hZ X0 e0
  have N0 := Fr.nil n0
  refine m_aloadN K X0.here hx hby d_jdk_52_6_0 rfl rfl rfl ?_
  refine k_len K X0 hx hby hZ (6 : Int32) e0 A_a1 rfl d_jdk_52_6_1 rfl ?_
  refine m_iconst K X0.here hx hby (1 : Int32) d_jdk_52_6_2 rfl rfl ?_
  refine m_ishr K X0.here hx hby (3 : Int32) d_jdk_52_6_3 rfl rfl ?_
  exact Go.retI X0 hx hby hlk hret d_jdk_52_6_4 (by decide) (by decide) (⟨rfl, e0, rfl⟩)
theorem efuk3 (m : MethodId) (x0 : Int32) (x1 : Addr) : entryFrame m #[(.int x0), (.ref x1)] 2 = mkF m 0 #[.val (.int x0), .val (.ref x1)] [] := by first | (simp [entryFrame, mkF, argsToLocals, Value.category]; done) | rfl
set_option maxRecDepth 65536 in
set_option maxHeartbeats 40000000 in
theorem cuk3 (l : Launch) (Z : State) (a0 : Array Value) (hw : ∀ d ∈ tables_1, d.before a0 Z = true) (p1 : Int32) (a1 : Addr) (cz : Int32) (vf : Value) (y0 : Int32) (y1 : Int32) (y2 : Int32) (y3 : Int32) (y4 : Int32) (y5 : Int32) (h0 : Heap) (n0 : Nat) (Z0 : n0 ≤ h0.size) (A_a1 : Av Z h0 a1 .byte [(.int y0), (.int y1), (.int y2), (.int y3), (.int y4), (.int y5)]) (O0 : Old Z n0 h0) (SS : SSt Z cz vf) (g0 : ¬ (p1 < (0 : Int32))) (g1 : p1 < (3 : Int32)) :
    Con l Z (⟨"java/lang/StringUTF16", "checkIndex", "(I[B)V"⟩ : MethodName) jdk_52_method_91_code 2 none ({ frames := 2, cells := 0, slots := 0, locals := 27 } : Room) [] #[(.int p1), (.ref a1)] h0 (fun v h L => v = none ∧ h = h0 ∧ L = []) := by
  refine Con.of (plainFor_of_name pn_java_lang_StringUTF16) #[.val (.int p1), .val (.ref a1)] (fun m => efuk3 m p1 a1) ?_
  intro p e s m below meth c s₁ K hx hby hml hown hnm hret hlk hZ X0 e0
  have N0 := Fr.nil n0
  refine m_iloadN K X0.here hx hby d_jdk_52_91_0 rfl rfl ?_
  refine m_aloadN K X0.here hx hby d_jdk_52_91_1 rfl rfl rfl ?_
  refine k_callS K X0 hx hby hZ [(.ref a1)] [(.int p1)] hown (W hw 99 rfl) (W hw 100 rfl) (W hw 43 rfl) (W hw 101 rfl) (cul3 l Z a0 hw a1 cz vf y0 y1 y2 y3 y4 y5 h0 n0 Z0 A_a1 O0 SS) e0 rfl rfl pd_2 rfl d_jdk_52_91_2 (by rw [hml]; rfl) rfl (by decide) (by decide) (Nat.le_of_ble_eq_true rfl) (by decide) (by decide) fun v1 T1 L1 X1 q1 => ?_
  obtain ⟨rfl, e1, rfl⟩ := q1
  replace X1 := own_px X1
  refine k_some K (w := (.int (3 : Int32))) ?_
  refine k_callS K X1 hx hby hZ [(.int p1), (.int (3 : Int32))] [] hown (W hw 102 rfl) (W hw 66 rfl) (W hw 7 rfl) (W hw 67 rfl) (cck l Z a0 hw p1 (3 : Int32) cz vf h0 n0 Z0 O0 SS g0 g1) e1 rfl rfl pd_3 rfl d_jdk_52_91_5 (by rw [hml]; rfl) rfl (by decide) (by decide) (Nat.le_of_ble_eq_true rfl) (by decide) (by decide) fun v2 T2 L2 X2 q2 => ?_
  obtain ⟨rfl, e2, rfl⟩ := q2
  replace X2 := own_px X2
  refine k_none K ?_
  exact Go.retV X2 hx hby hlk hret d_jdk_52_91_8 (by decide) (by decide) (⟨rfl, e2, rfl⟩)
def wpc3_0_1 (p3 : Int32) : Int32 := ((p3 >>> ((0 : Int32) &&& 31)).toInt8.toInt32)
def wpc3_0_2 (p3 : Int32) : Int32 := ((p3 >>> ((8 : Int32) &&& 31)).toInt8.toInt32)
theorem efpc3_0 (m : MethodId) (x0 : Addr) (x1 : Int32) (x2 : Int32) : entryFrame m #[(.ref x0), (.int x1), (.int x2)] 3 = mkF m 0 #[.val (.ref x0), .val (.int x1), .val (.int x2)] [] := by first | (simp [entryFrame, mkF, argsToLocals, Value.category]; done) | rfl
set_option maxRecDepth 65536 in
set_option maxHeartbeats 40000000 in
theorem cpc3_0 (l : Launch) (Z : State) (a0 : Array Value) (hw : ∀ d ∈ tables_1, d.before a0 Z = true) (a1 : Addr) (p3 : Int32) (cz : Int32) (vf : Value) (y0 : Int32) (y1 : Int32) (y2 : Int32) (y3 : Int32) (y4 : Int32) (y5 : Int32) (h0 : Heap) (n0 : Nat) (Z0 : n0 ≤ h0.size) (A_a1 : Av Z h0 a1 .byte [(.int y0), (.int y1), (.int y2), (.int y3), (.int y4), (.int y5)]) (O0 : Old Z n0 h0) (g_a1 : n0 ≤ a1) (SS : SSt Z cz vf) :
    Con l Z (⟨"java/lang/StringUTF16", "putChar", "([BII)V"⟩ : MethodName) jdk_52_method_4_code 3 none ({ frames := 0, cells := 0, slots := 0, locals := 0 } : Room) [] #[(.ref a1), (.int (0 : Int32)), (.int p3)] h0 (fun v h L => v = none ∧ Fr n0 L ∧ Keep h0 h [a1] ∧ Av Z h a1 .byte [(.int (BLO p3)), (.int (BHI p3)), (.int y2), (.int y3), (.int y4), (.int y5)]) := by
  refine Con.of (plainFor_of_name pn_java_lang_StringUTF16) #[.val (.ref a1), .val (.int (0 : Int32)), .val (.int p3)] (fun m => efpc3_0 m a1 (0 : Int32) p3) ?_
  intro p e s m below meth c s₁ K hx hby hml hown hnm hret hlk hZ X0 e0
  have N0 := Fr.nil n0
  refine k_getS K X0 hx hby hZ hown (host := "") (Or.inl (W hw 87 rfl)) Via.refl e0 (SS.ad.ext O0.2) d_jdk_52_4_0 rfl fun T1 X1 e1 => ?_
  refine m_ifY K X1.here hx hby (q := 28) d_jdk_52_4_3 ((if0 _ _).trans (feq (by decide : ¬ ((1 : Int32) = (0 : Int32)))).2) (by decide) rfl ?_
  refine m_iloadN K X1.here hx hby d_jdk_52_4_28 rfl rfl ?_
  refine m_iconst K X1.here hx hby (1 : Int32) d_jdk_52_4_29 rfl rfl ?_
  refine m_ishl K X1.here hx hby (0 : Int32) d_jdk_52_4_30 rfl rfl ?_
  refine m_istoreN K X1.here hx hby #[.val (.ref a1), .val (.int (0 : Int32)), .val (.int p3)] d_jdk_52_4_31 rfl rfl ?_
  refine m_aloadN K X1.here hx hby d_jdk_52_4_32 rfl rfl rfl ?_
  refine m_iloadN K X1.here hx hby d_jdk_52_4_33 rfl rfl ?_
  refine m_iinc K X1.here hx hby #[.val (.ref a1), .val (.int (1 : Int32)), .val (.int p3)] d_jdk_52_4_34 rfl rfl rfl ?_
  refine m_iloadN K X1.here hx hby d_jdk_52_4_37 rfl rfl ?_
  refine k_getS K X1 hx hby hZ hown (host := "") (Or.inl (W hw 88 rfl)) Via.refl e1 (SS.hi.ext O0.2) d_jdk_52_4_38 rfl fun T2 X2 e2 => ?_
  refine m_ishr K X2.here hx hby (p3 >>> ((0 : Int32) &&& 31)) d_jdk_52_4_41 rfl rfl ?_
  refine m_i2b K X2.here hx hby (wpc3_0_1 p3) d_jdk_52_4_42 rfl rfl ?_
  refine k_stB K X2 hx hby hZ e2 A_a1 (by decide) (Nat.le_of_ble_eq_true rfl) d_jdk_52_4_43 rfl fun T3 h3 X3 e3 W3 V3 => ?_
  replace V3 : Av Z h3 a1 .byte [(.int (nar .byte (wpc3_0_1 p3))), (.int y1), (.int y2), (.int y3), (.int y4), (.int y5)] := V3
  have N3 := Fr.snoc X3 N0 g_a1
  refine m_aloadN K X3.here hx hby d_jdk_52_4_44 rfl rfl rfl ?_
  refine m_iloadN K X3.here hx hby d_jdk_52_4_45 rfl rfl ?_
  refine m_iloadN K X3.here hx hby d_jdk_52_4_46 rfl rfl ?_
  refine k_getS K X3 hx hby hZ hown (host := "") (Or.inl (W hw 89 rfl)) Via.refl e3 (SS.lo.ext (O0.wr W3 g_a1).2) d_jdk_52_4_47 rfl fun T4 X4 e4 => ?_
  refine m_ishr K X4.here hx hby (p3 >>> ((8 : Int32) &&& 31)) d_jdk_52_4_50 rfl rfl ?_
  refine m_i2b K X4.here hx hby (wpc3_0_2 p3) d_jdk_52_4_51 rfl rfl ?_
  refine k_stB K X4 hx hby hZ e4 V3 (by decide) (Nat.le_of_ble_eq_true rfl) d_jdk_52_4_52 rfl fun T5 h5 X5 e5 W5 V5 => ?_
  replace V5 : Av Z h5 a1 .byte [(.int (nar .byte (wpc3_0_1 p3))), (.int (nar .byte (wpc3_0_2 p3))), (.int y2), (.int y3), (.int y4), (.int y5)] := V5
  have N5 := Fr.snoc X5 N3 g_a1
  exact Go.retV X5 hx hby hlk hret d_jdk_52_4_53 (by decide) (by decide) (by rw [e5]; exact ⟨rfl, N5, (((Keep.refl h0 [a1]).wr W3 (Or.inl (by simp))).wr W5 (Or.inl (by simp))), V5⟩)
def wgc3_0_1 (y0 : Int32) : Int32 := ((y0 &&& (255 : Int32)) <<< ((0 : Int32) &&& 31))
def wgc3_0_2 (y1 : Int32) : Int32 := ((y1 &&& (255 : Int32)) <<< ((8 : Int32) &&& 31))
def wgc3_0_3 (y0 : Int32) (y1 : Int32) : Int32 := (((wgc3_0_1 y0) ||| (wgc3_0_2 y1)).toUInt32.toUInt16.toUInt32.toInt32)
theorem efgc3_0 (m : MethodId) (x0 : Addr) (x1 : Int32) : entryFrame m #[(.ref x0), (.int x1)] 2 = mkF m 0 #[.val (.ref x0), .val (.int x1)] [] := by first | (simp [entryFrame, mkF, argsToLocals, Value.category]; done) | rfl
set_option maxRecDepth 65536 in
set_option maxHeartbeats 40000000 in
theorem cgc3_0 (l : Launch) (Z : State) (a0 : Array Value) (hw : ∀ d ∈ tables_1, d.before a0 Z = true) (a1 : Addr) (cz : Int32) (vf : Value) (y0 : Int32) (y1 : Int32) (y2 : Int32) (y3 : Int32) (y4 : Int32) (y5 : Int32) (h0 : Heap) (n0 : Nat) (Z0 : n0 ≤ h0.size) (A_a1 : Av Z h0 a1 .byte [(.int y0), (.int y1), (.int y2), (.int y3), (.int y4), (.int y5)]) (O0 : Old Z n0 h0) (SS : SSt Z cz vf) :
    Con l Z (⟨"java/lang/StringUTF16", "getChar", "([BI)C"⟩ : MethodName) jdk_52_method_5_code 2 (some .char) ({ frames := 0, cells := 0, slots := 0, locals := 0 } : Room) [] #[(.ref a1), (.int (0 : Int32))] h0 (fun v h L => v = some (.int (GCH y0 y1)) ∧ h = h0 ∧ L = []) := by
  refine Con.of (plainFor_of_name pn_java_lang_StringUTF16) #[.val (.ref a1), .val (.int (0 : Int32))] (fun m => efgc3_0 m a1 (0 : Int32)) ?_
  intro p e s m below meth c s₁ K hx hby hml hown hnm hret hlk hZ X0 e0
  have N0 := Fr.nil n0
  refine k_getS K X0 hx hby hZ hown (host := "") (Or.inl (W hw 87 rfl)) Via.refl e0 (SS.ad.ext O0.2) d_jdk_52_5_0 rfl fun T1 X1 e1 => ?_
  refine m_ifY K X1.here hx hby (q := 28) d_jdk_52_5_3 ((if0 _ _).trans (feq (by decide : ¬ ((1 : Int32) = (0 : Int32)))).2) (by decide) rfl ?_
  refine m_iloadN K X1.here hx hby d_jdk_52_5_28 rfl rfl ?_
  refine m_iconst K X1.here hx hby (1 : Int32) d_jdk_52_5_29 rfl rfl ?_
  refine m_ishl K X1.here hx hby (0 : Int32) d_jdk_52_5_30 rfl rfl ?_
  refine m_istoreN K X1.here hx hby #[.val (.ref a1), .val (.int (0 : Int32))] d_jdk_52_5_31 rfl rfl ?_
  refine m_aloadN K X1.here hx hby d_jdk_52_5_32 rfl rfl rfl ?_
  refine m_iloadN K X1.here hx hby d_jdk_52_5_33 rfl rfl ?_
  refine m_iinc K X1.here hx hby #[.val (.ref a1), .val (.int (1 : Int32))] d_jdk_52_5_34 rfl rfl rfl ?_
  refine k_ldB K X1 hx hby hZ e1 A_a1 (v := (.int y0)) (by decide) rfl d_jdk_52_5_37 rfl ?_
  refine m_sipush K X1.here hx hby (255 : Int32) d_jdk_52_5_38 rfl rfl ?_
  refine m_iand K X1.here hx hby (y0 &&& (255 : Int32)) d_jdk_52_5_41 rfl rfl ?_
  refine k_getS K X1 hx hby hZ hown (host := "") (Or.inl (W hw 88 rfl)) Via.refl e1 (SS.hi.ext O0.2) d_jdk_52_5_42 rfl fun T2 X2 e2 => ?_
  refine m_ishl K X2.here hx hby (wgc3_0_1 y0) d_jdk_52_5_45 rfl rfl ?_
  refine m_aloadN K X2.here hx hby d_jdk_52_5_46 rfl rfl rfl ?_
  refine m_iloadN K X2.here hx hby d_jdk_52_5_47 rfl rfl ?_
  refine k_ldB K X2 hx hby hZ e2 A_a1 (v := (.int y1)) (by decide) rfl d_jdk_52_5_48 rfl ?_
  refine m_sipush K X2.here hx hby (255 : Int32) d_jdk_52_5_49 rfl rfl ?_
  refine m_iand K X2.here hx hby (y1 &&& (255 : Int32)) d_jdk_52_5_52 rfl rfl ?_
  refine k_getS K X2 hx hby hZ hown (host := "") (Or.inl (W hw 89 rfl)) Via.refl e2 (SS.lo.ext O0.2) d_jdk_52_5_53 rfl fun T3 X3 e3 => ?_
  refine m_ishl K X3.here hx hby (wgc3_0_2 y1) d_jdk_52_5_56 rfl rfl ?_
  refine m_ior K X3.here hx hby ((wgc3_0_1 y0) ||| (wgc3_0_2 y1)) d_jdk_52_5_57 rfl rfl ?_
  refine m_i2c K X3.here hx hby (wgc3_0_3 y0 y1) d_jdk_52_5_58 rfl rfl ?_
  exact Go.retN X3 hx hby hlk hret (by simp) d_jdk_52_5_59 (by decide) (by decide) (own_nc _) (⟨rfl, e3, rfl⟩)
theorem efuc3_0 (m : MethodId) (x0 : Addr) (x1 : Int32) : entryFrame m #[(.ref x0), (.int x1)] 2 = mkF m 0 #[.val (.ref x0), .val (.int x1)] [] := by first | (simp [entryFrame, mkF, argsToLocals, Value.category]; done) | rfl
set_option maxRecDepth 65536 in
set_option maxHeartbeats 40000000 in
theorem cuc3_0 (l : Launch) (Z : State) (a0 : Array Value) (hw : ∀ d ∈ tables_1, d.before a0 Z = true) (a1 : Addr) (cz : Int32) (vf : Value) (y0 : Int32) (y1 : Int32) (y2 : Int32) (y3 : Int32) (y4 : Int32) (y5 : Int32) (h0 : Heap) (n0 : Nat) (Z0 : n0 ≤ h0.size) (A_a1 : Av Z h0 a1 .byte [(.int y0), (.int y1), (.int y2), (.int y3), (.int y4), (.int y5)]) (O0 : Old Z n0 h0) (SS : SSt Z cz vf) :
    Con l Z (⟨"java/lang/StringUTF16", "charAt", "([BI)C"⟩ : MethodName) jdk_52_method_83_code 2 (some .char) ({ frames := 3, cells := 0, slots := 0, locals := 40 } : Room) [] #[(.ref a1), (.int (0 : Int32))] h0 (fun v h L => v = some (.int (GCH y0 y1)) ∧ h = h0 ∧ L = []) := by
  refine Con.of (plainFor_of_name pn_java_lang_StringUTF16) #[.val (.ref a1), .val (.int (0 : Int32))] (fun m => efuc3_0 m a1 (0 : Int32)) ?_
  intro p e s m below meth c s₁ K hx hby hml hown hnm hret hlk hZ X0 e0
  have N0 := Fr.nil n0
  refine m_iloadN K X0.here hx hby d_jdk_52_83_0 rfl rfl ?_
  refine m_aloadN K X0.here hx hby d_jdk_52_83_1 rfl rfl rfl ?_
  refine k_callS K X0 hx hby hZ [(.int (0 : Int32)), (.ref a1)] [] hown (W hw 96 rfl) (W hw 97 rfl) (W hw 43 rfl) (W hw 98 rfl) (cuk3 l Z a0 hw (0 : Int32) a1 cz vf y0 y1 y2 y3 y4 y5 h0 n0 Z0 A_a1 O0 SS (by first | decide | omega) (by first | decide | omega)) e0 rfl rfl pd_4 rfl d_jdk_52_83_2 (by rw [hml]; rfl) rfl (by decide) (by decide) (Nat.le_of_ble_eq_true rfl) (by decide) (by decide) fun v1 T1 L1 X1 q1 => ?_
  obtain ⟨rfl, e1, rfl⟩ := q1
  replace X1 := own_px X1
  refine k_none K ?_
  refine m_aloadN K X1.here hx hby d_jdk_52_83_5 rfl rfl rfl ?_
  refine m_iloadN K X1.here hx hby d_jdk_52_83_6 rfl rfl ?_
  refine k_callS K X1 hx hby hZ [(.ref a1), (.int (0 : Int32))] [] hown (W hw 90 rfl) (W hw 91 rfl) (W hw 43 rfl) (W hw 92 rfl) (cgc3_0 l Z a0 hw a1 cz vf y0 y1 y2 y3 y4 y5 h0 n0 Z0 A_a1 O0 SS) e1 rfl rfl pd_5 rfl d_jdk_52_83_7 (by rw [hml]; rfl) rfl (by decide) (by decide) (Nat.le_of_ble_eq_true rfl) (by decide) (by decide) fun v2 T2 L2 X2 q2 => ?_
  obtain ⟨rfl, e2, rfl⟩ := q2
  replace X2 := own_px X2
  refine k_some K (w := (.int (GCH y0 y1))) ?_
  exact Go.retN X2 hx hby hlk hret (by simp) d_jdk_52_83_10 (by decide) (by decide) (own_nc _) (⟨rfl, e2, rfl⟩)
theorem efcu3_0 (m : MethodId) (x0 : Addr) (x1 : Int32) : entryFrame m #[(.ref x0), (.int x1)] 2 = mkF m 0 #[.val (.ref x0), .val (.int x1)] [] := by first | (simp [entryFrame, mkF, argsToLocals, Value.category]; done) | rfl
set_option maxRecDepth 65536 in
set_option maxHeartbeats 40000000 in
theorem ccu3_0 (l : Launch) (Z : State) (a0 : Array Value) (hw : ∀ d ∈ tables_1, d.before a0 Z = true) (a1 : Addr) (cz : Int32) (vf : Value) (a2 : Addr) (y0 : Int32) (y1 : Int32) (y2 : Int32) (y3 : Int32) (y4 : Int32) (y5 : Int32) (h0 : Heap) (n0 : Nat) (Z0 : n0 ≤ h0.size) (E_a1 : Exa Z h0 a1 "java/lang/String") (F_value_a1 : Fld Z h0 a1 "java/lang/String" "value" "[B" (.ref a2)) (F_coder_a1 : Fld Z h0 a1 "java/lang/String" "coder" "B" (.int (1 : Int32))) (A_a2 : Av Z h0 a2 .byte [(.int y0), (.int y1), (.int y2), (.int y3), (.int y4), (.int y5)]) (O0 : Old Z n0 h0) (SS : SSt Z cz vf) :
    Con l Z (⟨"java/lang/String", "charAt", "(I)C"⟩ : MethodName) jdk_42_method_56_code 2 (some .char) ({ frames := 4, cells := 0, slots := 0, locals := 53 } : Room) [] #[(.ref a1), (.int (0 : Int32))] h0 (fun v h L => v = some (.int (GCH y0 y1)) ∧ h = h0 ∧ L = []) := by
  refine Con.of (plainFor_of_name pn_java_lang_String) #[.val (.ref a1), .val (.int (0 : Int32))] (fun m => efcu3_0 m a1 (0 : Int32)) ?_
  intro p e s m below meth c s₁ K hx hby hml hown hnm hret hlk hZ X0 e0
  have N0 := Fr.nil n0
  refine m_aloadN K X0.here hx hby d_jdk_42_56_0 rfl rfl rfl ?_
  refine k_callV K X0 hx hby hZ a1 [] [] hown (W hw 56 rfl) (W hw 57 rfl) (notFace_of_selects (args := #[]) (mvT hZ (W hw 59 rfl))) (W hw 59 rfl) (W hw 58 rfl) (W hw 7 rfl) (W hw 60 rfl) (cil1 l Z a0 hw a1 cz vf h0 n0 Z0 F_coder_a1 O0 SS) e0 E_a1 rfl rfl pd_6 rfl d_jdk_42_56_1 (by rw [hml]; rfl) rfl (by decide) (by decide) (Nat.le_of_ble_eq_true rfl) (by decide) (by decide) fun v1 T1 L1 X1 q1 => ?_
  obtain ⟨rfl, e1, rfl⟩ := q1
  replace X1 := own_px X1
  refine k_some K (w := (.int (0 : Int32))) ?_
  refine m_ifY K X1.here hx hby (q := 16) d_jdk_42_56_4 ((if0 _ _).trans (teq (by decide : (0 : Int32) = (0 : Int32))).1) (by decide) rfl ?_
  refine m_aloadN K X1.here hx hby d_jdk_42_56_16 rfl rfl rfl ?_
  refine k_getF K X1 hx hby hZ hown (host := "") (Or.inl (W hw 24 rfl)) Via.refl e1 F_value_a1 d_jdk_42_56_17 rfl fun T2 X2 e2 => ?_
  refine m_iloadN K X2.here hx hby d_jdk_42_56_20 rfl rfl ?_
  refine k_callS K X2 hx hby hZ [(.ref a2), (.int (0 : Int32))] [] hown (W hw 93 rfl) (W hw 94 rfl) (W hw 43 rfl) (W hw 95 rfl) (cuc3_0 l Z a0 hw a2 cz vf y0 y1 y2 y3 y4 y5 h0 n0 Z0 A_a2 O0 SS) e2 rfl rfl pd_5 rfl d_jdk_42_56_21 (by rw [hml]; rfl) rfl (by decide) (by decide) (Nat.le_of_ble_eq_true rfl) (by decide) (by decide) fun v3 T3 L3 X3 q3 => ?_
  obtain ⟨rfl, e3, rfl⟩ := q3
  replace X3 := own_px X3
  refine k_some K (w := (.int (GCH y0 y1))) ?_
  exact Go.retN X3 hx hby hlk hret (by simp) d_jdk_42_56_24 (by decide) (by decide) (own_nc _) (⟨rfl, e3, rfl⟩)
def wpc3_1_1 (p3 : Int32) : Int32 := ((p3 >>> ((0 : Int32) &&& 31)).toInt8.toInt32)
def wpc3_1_2 (p3 : Int32) : Int32 := ((p3 >>> ((8 : Int32) &&& 31)).toInt8.toInt32)
theorem efpc3_1 (m : MethodId) (x0 : Addr) (x1 : Int32) (x2 : Int32) : entryFrame m #[(.ref x0), (.int x1), (.int x2)] 3 = mkF m 0 #[.val (.ref x0), .val (.int x1), .val (.int x2)] [] := by first | (simp [entryFrame, mkF, argsToLocals, Value.category]; done) | rfl
set_option maxRecDepth 65536 in
set_option maxHeartbeats 40000000 in
theorem cpc3_1 (l : Launch) (Z : State) (a0 : Array Value) (hw : ∀ d ∈ tables_1, d.before a0 Z = true) (a1 : Addr) (p3 : Int32) (cz : Int32) (vf : Value) (y0 : Int32) (y1 : Int32) (y2 : Int32) (y3 : Int32) (y4 : Int32) (y5 : Int32) (h0 : Heap) (n0 : Nat) (Z0 : n0 ≤ h0.size) (A_a1 : Av Z h0 a1 .byte [(.int y0), (.int y1), (.int y2), (.int y3), (.int y4), (.int y5)]) (O0 : Old Z n0 h0) (g_a1 : n0 ≤ a1) (SS : SSt Z cz vf) :
    Con l Z (⟨"java/lang/StringUTF16", "putChar", "([BII)V"⟩ : MethodName) jdk_52_method_4_code 3 none ({ frames := 0, cells := 0, slots := 0, locals := 0 } : Room) [] #[(.ref a1), (.int (1 : Int32)), (.int p3)] h0 (fun v h L => v = none ∧ Fr n0 L ∧ Keep h0 h [a1] ∧ Av Z h a1 .byte [(.int y0), (.int y1), (.int (BLO p3)), (.int (BHI p3)), (.int y4), (.int y5)]) := by
  refine Con.of (plainFor_of_name pn_java_lang_StringUTF16) #[.val (.ref a1), .val (.int (1 : Int32)), .val (.int p3)] (fun m => efpc3_1 m a1 (1 : Int32) p3) ?_
  intro p e s m below meth c s₁ K hx hby hml hown hnm hret hlk hZ X0 e0
  have N0 := Fr.nil n0
  refine k_getS K X0 hx hby hZ hown (host := "") (Or.inl (W hw 87 rfl)) Via.refl e0 (SS.ad.ext O0.2) d_jdk_52_4_0 rfl fun T1 X1 e1 => ?_
  refine m_ifY K X1.here hx hby (q := 28) d_jdk_52_4_3 ((if0 _ _).trans (feq (by decide : ¬ ((1 : Int32) = (0 : Int32)))).2) (by decide) rfl ?_
  refine m_iloadN K X1.here hx hby d_jdk_52_4_28 rfl rfl ?_
  refine m_iconst K X1.here hx hby (1 : Int32) d_jdk_52_4_29 rfl rfl ?_
  refine m_ishl K X1.here hx hby (2 : Int32) d_jdk_52_4_30 rfl rfl ?_
  refine m_istoreN K X1.here hx hby #[.val (.ref a1), .val (.int (2 : Int32)), .val (.int p3)] d_jdk_52_4_31 rfl rfl ?_
  refine m_aloadN K X1.here hx hby d_jdk_52_4_32 rfl rfl rfl ?_
  refine m_iloadN K X1.here hx hby d_jdk_52_4_33 rfl rfl ?_
  refine m_iinc K X1.here hx hby #[.val (.ref a1), .val (.int (3 : Int32)), .val (.int p3)] d_jdk_52_4_34 rfl rfl rfl ?_
  refine m_iloadN K X1.here hx hby d_jdk_52_4_37 rfl rfl ?_
  refine k_getS K X1 hx hby hZ hown (host := "") (Or.inl (W hw 88 rfl)) Via.refl e1 (SS.hi.ext O0.2) d_jdk_52_4_38 rfl fun T2 X2 e2 => ?_
  refine m_ishr K X2.here hx hby (p3 >>> ((0 : Int32) &&& 31)) d_jdk_52_4_41 rfl rfl ?_
  refine m_i2b K X2.here hx hby (wpc3_1_1 p3) d_jdk_52_4_42 rfl rfl ?_
  refine k_stB K X2 hx hby hZ e2 A_a1 (by decide) (Nat.le_of_ble_eq_true rfl) d_jdk_52_4_43 rfl fun T3 h3 X3 e3 W3 V3 => ?_
  replace V3 : Av Z h3 a1 .byte [(.int y0), (.int y1), (.int (nar .byte (wpc3_1_1 p3))), (.int y3), (.int y4), (.int y5)] := V3
  have N3 := Fr.snoc X3 N0 g_a1
  refine m_aloadN K X3.here hx hby d_jdk_52_4_44 rfl rfl rfl ?_
  refine m_iloadN K X3.here hx hby d_jdk_52_4_45 rfl rfl ?_
  refine m_iloadN K X3.here hx hby d_jdk_52_4_46 rfl rfl ?_
  refine k_getS K X3 hx hby hZ hown (host := "") (Or.inl (W hw 89 rfl)) Via.refl e3 (SS.lo.ext (O0.wr W3 g_a1).2) d_jdk_52_4_47 rfl fun T4 X4 e4 => ?_
  refine m_ishr K X4.here hx hby (p3 >>> ((8 : Int32) &&& 31)) d_jdk_52_4_50 rfl rfl ?_
  refine m_i2b K X4.here hx hby (wpc3_1_2 p3) d_jdk_52_4_51 rfl rfl ?_
  refine k_stB K X4 hx hby hZ e4 V3 (by decide) (Nat.le_of_ble_eq_true rfl) d_jdk_52_4_52 rfl fun T5 h5 X5 e5 W5 V5 => ?_
  replace V5 : Av Z h5 a1 .byte [(.int y0), (.int y1), (.int (nar .byte (wpc3_1_1 p3))), (.int (nar .byte (wpc3_1_2 p3))), (.int y4), (.int y5)] := V5
  have N5 := Fr.snoc X5 N3 g_a1
  exact Go.retV X5 hx hby hlk hret d_jdk_52_4_53 (by decide) (by decide) (by rw [e5]; exact ⟨rfl, N5, (((Keep.refl h0 [a1]).wr W3 (Or.inl (by simp))).wr W5 (Or.inl (by simp))), V5⟩)
def wgc3_1_1 (y2 : Int32) : Int32 := ((y2 &&& (255 : Int32)) <<< ((0 : Int32) &&& 31))
def wgc3_1_2 (y3 : Int32) : Int32 := ((y3 &&& (255 : Int32)) <<< ((8 : Int32) &&& 31))
def wgc3_1_3 (y2 : Int32) (y3 : Int32) : Int32 := (((wgc3_1_1 y2) ||| (wgc3_1_2 y3)).toUInt32.toUInt16.toUInt32.toInt32)
theorem efgc3_1 (m : MethodId) (x0 : Addr) (x1 : Int32) : entryFrame m #[(.ref x0), (.int x1)] 2 = mkF m 0 #[.val (.ref x0), .val (.int x1)] [] := by first | (simp [entryFrame, mkF, argsToLocals, Value.category]; done) | rfl
set_option maxRecDepth 65536 in
set_option maxHeartbeats 40000000 in
theorem cgc3_1 (l : Launch) (Z : State) (a0 : Array Value) (hw : ∀ d ∈ tables_1, d.before a0 Z = true) (a1 : Addr) (cz : Int32) (vf : Value) (y0 : Int32) (y1 : Int32) (y2 : Int32) (y3 : Int32) (y4 : Int32) (y5 : Int32) (h0 : Heap) (n0 : Nat) (Z0 : n0 ≤ h0.size) (A_a1 : Av Z h0 a1 .byte [(.int y0), (.int y1), (.int y2), (.int y3), (.int y4), (.int y5)]) (O0 : Old Z n0 h0) (SS : SSt Z cz vf) :
    Con l Z (⟨"java/lang/StringUTF16", "getChar", "([BI)C"⟩ : MethodName) jdk_52_method_5_code 2 (some .char) ({ frames := 0, cells := 0, slots := 0, locals := 0 } : Room) [] #[(.ref a1), (.int (1 : Int32))] h0 (fun v h L => v = some (.int (GCH y2 y3)) ∧ h = h0 ∧ L = []) := by
  refine Con.of (plainFor_of_name pn_java_lang_StringUTF16) #[.val (.ref a1), .val (.int (1 : Int32))] (fun m => efgc3_1 m a1 (1 : Int32)) ?_
  intro p e s m below meth c s₁ K hx hby hml hown hnm hret hlk hZ X0 e0
  have N0 := Fr.nil n0
  refine k_getS K X0 hx hby hZ hown (host := "") (Or.inl (W hw 87 rfl)) Via.refl e0 (SS.ad.ext O0.2) d_jdk_52_5_0 rfl fun T1 X1 e1 => ?_
  refine m_ifY K X1.here hx hby (q := 28) d_jdk_52_5_3 ((if0 _ _).trans (feq (by decide : ¬ ((1 : Int32) = (0 : Int32)))).2) (by decide) rfl ?_
  refine m_iloadN K X1.here hx hby d_jdk_52_5_28 rfl rfl ?_
  refine m_iconst K X1.here hx hby (1 : Int32) d_jdk_52_5_29 rfl rfl ?_
  refine m_ishl K X1.here hx hby (2 : Int32) d_jdk_52_5_30 rfl rfl ?_
  refine m_istoreN K X1.here hx hby #[.val (.ref a1), .val (.int (2 : Int32))] d_jdk_52_5_31 rfl rfl ?_
  refine m_aloadN K X1.here hx hby d_jdk_52_5_32 rfl rfl rfl ?_
  refine m_iloadN K X1.here hx hby d_jdk_52_5_33 rfl rfl ?_
  refine m_iinc K X1.here hx hby #[.val (.ref a1), .val (.int (3 : Int32))] d_jdk_52_5_34 rfl rfl rfl ?_
  refine k_ldB K X1 hx hby hZ e1 A_a1 (v := (.int y2)) (by decide) rfl d_jdk_52_5_37 rfl ?_
  refine m_sipush K X1.here hx hby (255 : Int32) d_jdk_52_5_38 rfl rfl ?_
  refine m_iand K X1.here hx hby (y2 &&& (255 : Int32)) d_jdk_52_5_41 rfl rfl ?_
  refine k_getS K X1 hx hby hZ hown (host := "") (Or.inl (W hw 88 rfl)) Via.refl e1 (SS.hi.ext O0.2) d_jdk_52_5_42 rfl fun T2 X2 e2 => ?_
  refine m_ishl K X2.here hx hby (wgc3_1_1 y2) d_jdk_52_5_45 rfl rfl ?_
  refine m_aloadN K X2.here hx hby d_jdk_52_5_46 rfl rfl rfl ?_
  refine m_iloadN K X2.here hx hby d_jdk_52_5_47 rfl rfl ?_
  refine k_ldB K X2 hx hby hZ e2 A_a1 (v := (.int y3)) (by decide) rfl d_jdk_52_5_48 rfl ?_
  refine m_sipush K X2.here hx hby (255 : Int32) d_jdk_52_5_49 rfl rfl ?_
  refine m_iand K X2.here hx hby (y3 &&& (255 : Int32)) d_jdk_52_5_52 rfl rfl ?_
  refine k_getS K X2 hx hby hZ hown (host := "") (Or.inl (W hw 89 rfl)) Via.refl e2 (SS.lo.ext O0.2) d_jdk_52_5_53 rfl fun T3 X3 e3 => ?_
  refine m_ishl K X3.here hx hby (wgc3_1_2 y3) d_jdk_52_5_56 rfl rfl ?_
  refine m_ior K X3.here hx hby ((wgc3_1_1 y2) ||| (wgc3_1_2 y3)) d_jdk_52_5_57 rfl rfl ?_
  refine m_i2c K X3.here hx hby (wgc3_1_3 y2 y3) d_jdk_52_5_58 rfl rfl ?_
  exact Go.retN X3 hx hby hlk hret (by simp) d_jdk_52_5_59 (by decide) (by decide) (own_nc _) (⟨rfl, e3, rfl⟩)
theorem efuc3_1 (m : MethodId) (x0 : Addr) (x1 : Int32) : entryFrame m #[(.ref x0), (.int x1)] 2 = mkF m 0 #[.val (.ref x0), .val (.int x1)] [] := by first | (simp [entryFrame, mkF, argsToLocals, Value.category]; done) | rfl
set_option maxRecDepth 65536 in
set_option maxHeartbeats 40000000 in
theorem cuc3_1 (l : Launch) (Z : State) (a0 : Array Value) (hw : ∀ d ∈ tables_1, d.before a0 Z = true) (a1 : Addr) (cz : Int32) (vf : Value) (y0 : Int32) (y1 : Int32) (y2 : Int32) (y3 : Int32) (y4 : Int32) (y5 : Int32) (h0 : Heap) (n0 : Nat) (Z0 : n0 ≤ h0.size) (A_a1 : Av Z h0 a1 .byte [(.int y0), (.int y1), (.int y2), (.int y3), (.int y4), (.int y5)]) (O0 : Old Z n0 h0) (SS : SSt Z cz vf) :
    Con l Z (⟨"java/lang/StringUTF16", "charAt", "([BI)C"⟩ : MethodName) jdk_52_method_83_code 2 (some .char) ({ frames := 3, cells := 0, slots := 0, locals := 40 } : Room) [] #[(.ref a1), (.int (1 : Int32))] h0 (fun v h L => v = some (.int (GCH y2 y3)) ∧ h = h0 ∧ L = []) := by
  refine Con.of (plainFor_of_name pn_java_lang_StringUTF16) #[.val (.ref a1), .val (.int (1 : Int32))] (fun m => efuc3_1 m a1 (1 : Int32)) ?_
  intro p e s m below meth c s₁ K hx hby hml hown hnm hret hlk hZ X0 e0
  have N0 := Fr.nil n0
  refine m_iloadN K X0.here hx hby d_jdk_52_83_0 rfl rfl ?_
  refine m_aloadN K X0.here hx hby d_jdk_52_83_1 rfl rfl rfl ?_
  refine k_callS K X0 hx hby hZ [(.int (1 : Int32)), (.ref a1)] [] hown (W hw 96 rfl) (W hw 97 rfl) (W hw 43 rfl) (W hw 98 rfl) (cuk3 l Z a0 hw (1 : Int32) a1 cz vf y0 y1 y2 y3 y4 y5 h0 n0 Z0 A_a1 O0 SS (by first | decide | omega) (by first | decide | omega)) e0 rfl rfl pd_4 rfl d_jdk_52_83_2 (by rw [hml]; rfl) rfl (by decide) (by decide) (Nat.le_of_ble_eq_true rfl) (by decide) (by decide) fun v1 T1 L1 X1 q1 => ?_
  obtain ⟨rfl, e1, rfl⟩ := q1
  replace X1 := own_px X1
  refine k_none K ?_
  refine m_aloadN K X1.here hx hby d_jdk_52_83_5 rfl rfl rfl ?_
  refine m_iloadN K X1.here hx hby d_jdk_52_83_6 rfl rfl ?_
  refine k_callS K X1 hx hby hZ [(.ref a1), (.int (1 : Int32))] [] hown (W hw 90 rfl) (W hw 91 rfl) (W hw 43 rfl) (W hw 92 rfl) (cgc3_1 l Z a0 hw a1 cz vf y0 y1 y2 y3 y4 y5 h0 n0 Z0 A_a1 O0 SS) e1 rfl rfl pd_5 rfl d_jdk_52_83_7 (by rw [hml]; rfl) rfl (by decide) (by decide) (Nat.le_of_ble_eq_true rfl) (by decide) (by decide) fun v2 T2 L2 X2 q2 => ?_
  obtain ⟨rfl, e2, rfl⟩ := q2
  replace X2 := own_px X2
  refine k_some K (w := (.int (GCH y2 y3))) ?_
  exact Go.retN X2 hx hby hlk hret (by simp) d_jdk_52_83_10 (by decide) (by decide) (own_nc _) (⟨rfl, e2, rfl⟩)
theorem efcu3_1 (m : MethodId) (x0 : Addr) (x1 : Int32) : entryFrame m #[(.ref x0), (.int x1)] 2 = mkF m 0 #[.val (.ref x0), .val (.int x1)] [] := by first | (simp [entryFrame, mkF, argsToLocals, Value.category]; done) | rfl
set_option maxRecDepth 65536 in
set_option maxHeartbeats 40000000 in
theorem ccu3_1 (l : Launch) (Z : State) (a0 : Array Value) (hw : ∀ d ∈ tables_1, d.before a0 Z = true) (a1 : Addr) (cz : Int32) (vf : Value) (a2 : Addr) (y0 : Int32) (y1 : Int32) (y2 : Int32) (y3 : Int32) (y4 : Int32) (y5 : Int32) (h0 : Heap) (n0 : Nat) (Z0 : n0 ≤ h0.size) (E_a1 : Exa Z h0 a1 "java/lang/String") (F_value_a1 : Fld Z h0 a1 "java/lang/String" "value" "[B" (.ref a2)) (F_coder_a1 : Fld Z h0 a1 "java/lang/String" "coder" "B" (.int (1 : Int32))) (A_a2 : Av Z h0 a2 .byte [(.int y0), (.int y1), (.int y2), (.int y3), (.int y4), (.int y5)]) (O0 : Old Z n0 h0) (SS : SSt Z cz vf) :
    Con l Z (⟨"java/lang/String", "charAt", "(I)C"⟩ : MethodName) jdk_42_method_56_code 2 (some .char) ({ frames := 4, cells := 0, slots := 0, locals := 53 } : Room) [] #[(.ref a1), (.int (1 : Int32))] h0 (fun v h L => v = some (.int (GCH y2 y3)) ∧ h = h0 ∧ L = []) := by
  refine Con.of (plainFor_of_name pn_java_lang_String) #[.val (.ref a1), .val (.int (1 : Int32))] (fun m => efcu3_1 m a1 (1 : Int32)) ?_
  intro p e s m below meth c s₁ K hx hby hml hown hnm hret hlk hZ X0 e0
  have N0 := Fr.nil n0
  refine m_aloadN K X0.here hx hby d_jdk_42_56_0 rfl rfl rfl ?_
  refine k_callV K X0 hx hby hZ a1 [] [] hown (W hw 56 rfl) (W hw 57 rfl) (notFace_of_selects (args := #[]) (mvT hZ (W hw 59 rfl))) (W hw 59 rfl) (W hw 58 rfl) (W hw 7 rfl) (W hw 60 rfl) (cil1 l Z a0 hw a1 cz vf h0 n0 Z0 F_coder_a1 O0 SS) e0 E_a1 rfl rfl pd_6 rfl d_jdk_42_56_1 (by rw [hml]; rfl) rfl (by decide) (by decide) (Nat.le_of_ble_eq_true rfl) (by decide) (by decide) fun v1 T1 L1 X1 q1 => ?_
  obtain ⟨rfl, e1, rfl⟩ := q1
  replace X1 := own_px X1
  refine k_some K (w := (.int (0 : Int32))) ?_
  refine m_ifY K X1.here hx hby (q := 16) d_jdk_42_56_4 ((if0 _ _).trans (teq (by decide : (0 : Int32) = (0 : Int32))).1) (by decide) rfl ?_
  refine m_aloadN K X1.here hx hby d_jdk_42_56_16 rfl rfl rfl ?_
  refine k_getF K X1 hx hby hZ hown (host := "") (Or.inl (W hw 24 rfl)) Via.refl e1 F_value_a1 d_jdk_42_56_17 rfl fun T2 X2 e2 => ?_
  refine m_iloadN K X2.here hx hby d_jdk_42_56_20 rfl rfl ?_
  refine k_callS K X2 hx hby hZ [(.ref a2), (.int (1 : Int32))] [] hown (W hw 93 rfl) (W hw 94 rfl) (W hw 43 rfl) (W hw 95 rfl) (cuc3_1 l Z a0 hw a2 cz vf y0 y1 y2 y3 y4 y5 h0 n0 Z0 A_a2 O0 SS) e2 rfl rfl pd_5 rfl d_jdk_42_56_21 (by rw [hml]; rfl) rfl (by decide) (by decide) (Nat.le_of_ble_eq_true rfl) (by decide) (by decide) fun v3 T3 L3 X3 q3 => ?_
  obtain ⟨rfl, e3, rfl⟩ := q3
  replace X3 := own_px X3
  refine k_some K (w := (.int (GCH y2 y3))) ?_
  exact Go.retN X3 hx hby hlk hret (by simp) d_jdk_42_56_24 (by decide) (by decide) (own_nc _) (⟨rfl, e3, rfl⟩)
def wpc3_2_1 (p3 : Int32) : Int32 := ((p3 >>> ((0 : Int32) &&& 31)).toInt8.toInt32)
def wpc3_2_2 (p3 : Int32) : Int32 := ((p3 >>> ((8 : Int32) &&& 31)).toInt8.toInt32)
theorem efpc3_2 (m : MethodId) (x0 : Addr) (x1 : Int32) (x2 : Int32) : entryFrame m #[(.ref x0), (.int x1), (.int x2)] 3 = mkF m 0 #[.val (.ref x0), .val (.int x1), .val (.int x2)] [] := by first | (simp [entryFrame, mkF, argsToLocals, Value.category]; done) | rfl
set_option maxRecDepth 65536 in
set_option maxHeartbeats 40000000 in
theorem cpc3_2 (l : Launch) (Z : State) (a0 : Array Value) (hw : ∀ d ∈ tables_1, d.before a0 Z = true) (a1 : Addr) (p3 : Int32) (cz : Int32) (vf : Value) (y0 : Int32) (y1 : Int32) (y2 : Int32) (y3 : Int32) (y4 : Int32) (y5 : Int32) (h0 : Heap) (n0 : Nat) (Z0 : n0 ≤ h0.size) (A_a1 : Av Z h0 a1 .byte [(.int y0), (.int y1), (.int y2), (.int y3), (.int y4), (.int y5)]) (O0 : Old Z n0 h0) (g_a1 : n0 ≤ a1) (SS : SSt Z cz vf) :
    Con l Z (⟨"java/lang/StringUTF16", "putChar", "([BII)V"⟩ : MethodName) jdk_52_method_4_code 3 none ({ frames := 0, cells := 0, slots := 0, locals := 0 } : Room) [] #[(.ref a1), (.int (2 : Int32)), (.int p3)] h0 (fun v h L => v = none ∧ Fr n0 L ∧ Keep h0 h [a1] ∧ Av Z h a1 .byte [(.int y0), (.int y1), (.int y2), (.int y3), (.int (BLO p3)), (.int (BHI p3))]) := by
  refine Con.of (plainFor_of_name pn_java_lang_StringUTF16) #[.val (.ref a1), .val (.int (2 : Int32)), .val (.int p3)] (fun m => efpc3_2 m a1 (2 : Int32) p3) ?_
  intro p e s m below meth c s₁ K hx hby hml hown hnm hret hlk hZ X0 e0
  have N0 := Fr.nil n0
  refine k_getS K X0 hx hby hZ hown (host := "") (Or.inl (W hw 87 rfl)) Via.refl e0 (SS.ad.ext O0.2) d_jdk_52_4_0 rfl fun T1 X1 e1 => ?_
  refine m_ifY K X1.here hx hby (q := 28) d_jdk_52_4_3 ((if0 _ _).trans (feq (by decide : ¬ ((1 : Int32) = (0 : Int32)))).2) (by decide) rfl ?_
  refine m_iloadN K X1.here hx hby d_jdk_52_4_28 rfl rfl ?_
  refine m_iconst K X1.here hx hby (1 : Int32) d_jdk_52_4_29 rfl rfl ?_
  refine m_ishl K X1.here hx hby (4 : Int32) d_jdk_52_4_30 rfl rfl ?_
  refine m_istoreN K X1.here hx hby #[.val (.ref a1), .val (.int (4 : Int32)), .val (.int p3)] d_jdk_52_4_31 rfl rfl ?_
  refine m_aloadN K X1.here hx hby d_jdk_52_4_32 rfl rfl rfl ?_
  refine m_iloadN K X1.here hx hby d_jdk_52_4_33 rfl rfl ?_
  refine m_iinc K X1.here hx hby #[.val (.ref a1), .val (.int (5 : Int32)), .val (.int p3)] d_jdk_52_4_34 rfl rfl rfl ?_
  refine m_iloadN K X1.here hx hby d_jdk_52_4_37 rfl rfl ?_
  refine k_getS K X1 hx hby hZ hown (host := "") (Or.inl (W hw 88 rfl)) Via.refl e1 (SS.hi.ext O0.2) d_jdk_52_4_38 rfl fun T2 X2 e2 => ?_
  refine m_ishr K X2.here hx hby (p3 >>> ((0 : Int32) &&& 31)) d_jdk_52_4_41 rfl rfl ?_
  refine m_i2b K X2.here hx hby (wpc3_2_1 p3) d_jdk_52_4_42 rfl rfl ?_
  refine k_stB K X2 hx hby hZ e2 A_a1 (by decide) (Nat.le_of_ble_eq_true rfl) d_jdk_52_4_43 rfl fun T3 h3 X3 e3 W3 V3 => ?_
  replace V3 : Av Z h3 a1 .byte [(.int y0), (.int y1), (.int y2), (.int y3), (.int (nar .byte (wpc3_2_1 p3))), (.int y5)] := V3
  have N3 := Fr.snoc X3 N0 g_a1
  refine m_aloadN K X3.here hx hby d_jdk_52_4_44 rfl rfl rfl ?_
  refine m_iloadN K X3.here hx hby d_jdk_52_4_45 rfl rfl ?_
  refine m_iloadN K X3.here hx hby d_jdk_52_4_46 rfl rfl ?_
  refine k_getS K X3 hx hby hZ hown (host := "") (Or.inl (W hw 89 rfl)) Via.refl e3 (SS.lo.ext (O0.wr W3 g_a1).2) d_jdk_52_4_47 rfl fun T4 X4 e4 => ?_
  refine m_ishr K X4.here hx hby (p3 >>> ((8 : Int32) &&& 31)) d_jdk_52_4_50 rfl rfl ?_
  refine m_i2b K X4.here hx hby (wpc3_2_2 p3) d_jdk_52_4_51 rfl rfl ?_
  refine k_stB K X4 hx hby hZ e4 V3 (by decide) (Nat.le_of_ble_eq_true rfl) d_jdk_52_4_52 rfl fun T5 h5 X5 e5 W5 V5 => ?_
  replace V5 : Av Z h5 a1 .byte [(.int y0), (.int y1), (.int y2), (.int y3), (.int (nar .byte (wpc3_2_1 p3))), (.int (nar .byte (wpc3_2_2 p3)))] := V5
  have N5 := Fr.snoc X5 N3 g_a1
  exact Go.retV X5 hx hby hlk hret d_jdk_52_4_53 (by decide) (by decide) (by rw [e5]; exact ⟨rfl, N5, (((Keep.refl h0 [a1]).wr W3 (Or.inl (by simp))).wr W5 (Or.inl (by simp))), V5⟩)
def wgc3_2_1 (y4 : Int32) : Int32 := ((y4 &&& (255 : Int32)) <<< ((0 : Int32) &&& 31))
def wgc3_2_2 (y5 : Int32) : Int32 := ((y5 &&& (255 : Int32)) <<< ((8 : Int32) &&& 31))
def wgc3_2_3 (y4 : Int32) (y5 : Int32) : Int32 := (((wgc3_2_1 y4) ||| (wgc3_2_2 y5)).toUInt32.toUInt16.toUInt32.toInt32)
theorem efgc3_2 (m : MethodId) (x0 : Addr) (x1 : Int32) : entryFrame m #[(.ref x0), (.int x1)] 2 = mkF m 0 #[.val (.ref x0), .val (.int x1)] [] := by first | (simp [entryFrame, mkF, argsToLocals, Value.category]; done) | rfl
set_option maxRecDepth 65536 in
set_option maxHeartbeats 40000000 in
theorem cgc3_2 (l : Launch) (Z : State) (a0 : Array Value) (hw : ∀ d ∈ tables_1, d.before a0 Z = true) (a1 : Addr) (cz : Int32) (vf : Value) (y0 : Int32) (y1 : Int32) (y2 : Int32) (y3 : Int32) (y4 : Int32) (y5 : Int32) (h0 : Heap) (n0 : Nat) (Z0 : n0 ≤ h0.size) (A_a1 : Av Z h0 a1 .byte [(.int y0), (.int y1), (.int y2), (.int y3), (.int y4), (.int y5)]) (O0 : Old Z n0 h0) (SS : SSt Z cz vf) :
    Con l Z (⟨"java/lang/StringUTF16", "getChar", "([BI)C"⟩ : MethodName) jdk_52_method_5_code 2 (some .char) ({ frames := 0, cells := 0, slots := 0, locals := 0 } : Room) [] #[(.ref a1), (.int (2 : Int32))] h0 (fun v h L => v = some (.int (GCH y4 y5)) ∧ h = h0 ∧ L = []) := by
  refine Con.of (plainFor_of_name pn_java_lang_StringUTF16) #[.val (.ref a1), .val (.int (2 : Int32))] (fun m => efgc3_2 m a1 (2 : Int32)) ?_
  intro p e s m below meth c s₁ K hx hby hml hown hnm hret hlk hZ X0 e0
  have N0 := Fr.nil n0
  refine k_getS K X0 hx hby hZ hown (host := "") (Or.inl (W hw 87 rfl)) Via.refl e0 (SS.ad.ext O0.2) d_jdk_52_5_0 rfl fun T1 X1 e1 => ?_
  refine m_ifY K X1.here hx hby (q := 28) d_jdk_52_5_3 ((if0 _ _).trans (feq (by decide : ¬ ((1 : Int32) = (0 : Int32)))).2) (by decide) rfl ?_
  refine m_iloadN K X1.here hx hby d_jdk_52_5_28 rfl rfl ?_
  refine m_iconst K X1.here hx hby (1 : Int32) d_jdk_52_5_29 rfl rfl ?_
  refine m_ishl K X1.here hx hby (4 : Int32) d_jdk_52_5_30 rfl rfl ?_
  refine m_istoreN K X1.here hx hby #[.val (.ref a1), .val (.int (4 : Int32))] d_jdk_52_5_31 rfl rfl ?_
  refine m_aloadN K X1.here hx hby d_jdk_52_5_32 rfl rfl rfl ?_
  refine m_iloadN K X1.here hx hby d_jdk_52_5_33 rfl rfl ?_
  refine m_iinc K X1.here hx hby #[.val (.ref a1), .val (.int (5 : Int32))] d_jdk_52_5_34 rfl rfl rfl ?_
  refine k_ldB K X1 hx hby hZ e1 A_a1 (v := (.int y4)) (by decide) rfl d_jdk_52_5_37 rfl ?_
  refine m_sipush K X1.here hx hby (255 : Int32) d_jdk_52_5_38 rfl rfl ?_
  refine m_iand K X1.here hx hby (y4 &&& (255 : Int32)) d_jdk_52_5_41 rfl rfl ?_
  refine k_getS K X1 hx hby hZ hown (host := "") (Or.inl (W hw 88 rfl)) Via.refl e1 (SS.hi.ext O0.2) d_jdk_52_5_42 rfl fun T2 X2 e2 => ?_
  refine m_ishl K X2.here hx hby (wgc3_2_1 y4) d_jdk_52_5_45 rfl rfl ?_
  refine m_aloadN K X2.here hx hby d_jdk_52_5_46 rfl rfl rfl ?_
  refine m_iloadN K X2.here hx hby d_jdk_52_5_47 rfl rfl ?_
  refine k_ldB K X2 hx hby hZ e2 A_a1 (v := (.int y5)) (by decide) rfl d_jdk_52_5_48 rfl ?_
  refine m_sipush K X2.here hx hby (255 : Int32) d_jdk_52_5_49 rfl rfl ?_
  refine m_iand K X2.here hx hby (y5 &&& (255 : Int32)) d_jdk_52_5_52 rfl rfl ?_
  refine k_getS K X2 hx hby hZ hown (host := "") (Or.inl (W hw 89 rfl)) Via.refl e2 (SS.lo.ext O0.2) d_jdk_52_5_53 rfl fun T3 X3 e3 => ?_
  refine m_ishl K X3.here hx hby (wgc3_2_2 y5) d_jdk_52_5_56 rfl rfl ?_
  refine m_ior K X3.here hx hby ((wgc3_2_1 y4) ||| (wgc3_2_2 y5)) d_jdk_52_5_57 rfl rfl ?_
  refine m_i2c K X3.here hx hby (wgc3_2_3 y4 y5) d_jdk_52_5_58 rfl rfl ?_
  exact Go.retN X3 hx hby hlk hret (by simp) d_jdk_52_5_59 (by decide) (by decide) (own_nc _) (⟨rfl, e3, rfl⟩)
theorem efuc3_2 (m : MethodId) (x0 : Addr) (x1 : Int32) : entryFrame m #[(.ref x0), (.int x1)] 2 = mkF m 0 #[.val (.ref x0), .val (.int x1)] [] := by first | (simp [entryFrame, mkF, argsToLocals, Value.category]; done) | rfl
set_option maxRecDepth 65536 in
set_option maxHeartbeats 40000000 in
theorem cuc3_2 (l : Launch) (Z : State) (a0 : Array Value) (hw : ∀ d ∈ tables_1, d.before a0 Z = true) (a1 : Addr) (cz : Int32) (vf : Value) (y0 : Int32) (y1 : Int32) (y2 : Int32) (y3 : Int32) (y4 : Int32) (y5 : Int32) (h0 : Heap) (n0 : Nat) (Z0 : n0 ≤ h0.size) (A_a1 : Av Z h0 a1 .byte [(.int y0), (.int y1), (.int y2), (.int y3), (.int y4), (.int y5)]) (O0 : Old Z n0 h0) (SS : SSt Z cz vf) :
    Con l Z (⟨"java/lang/StringUTF16", "charAt", "([BI)C"⟩ : MethodName) jdk_52_method_83_code 2 (some .char) ({ frames := 3, cells := 0, slots := 0, locals := 40 } : Room) [] #[(.ref a1), (.int (2 : Int32))] h0 (fun v h L => v = some (.int (GCH y4 y5)) ∧ h = h0 ∧ L = []) := by
  refine Con.of (plainFor_of_name pn_java_lang_StringUTF16) #[.val (.ref a1), .val (.int (2 : Int32))] (fun m => efuc3_2 m a1 (2 : Int32)) ?_
  intro p e s m below meth c s₁ K hx hby hml hown hnm hret hlk hZ X0 e0
  have N0 := Fr.nil n0
  refine m_iloadN K X0.here hx hby d_jdk_52_83_0 rfl rfl ?_
  refine m_aloadN K X0.here hx hby d_jdk_52_83_1 rfl rfl rfl ?_
  refine k_callS K X0 hx hby hZ [(.int (2 : Int32)), (.ref a1)] [] hown (W hw 96 rfl) (W hw 97 rfl) (W hw 43 rfl) (W hw 98 rfl) (cuk3 l Z a0 hw (2 : Int32) a1 cz vf y0 y1 y2 y3 y4 y5 h0 n0 Z0 A_a1 O0 SS (by first | decide | omega) (by first | decide | omega)) e0 rfl rfl pd_4 rfl d_jdk_52_83_2 (by rw [hml]; rfl) rfl (by decide) (by decide) (Nat.le_of_ble_eq_true rfl) (by decide) (by decide) fun v1 T1 L1 X1 q1 => ?_
  obtain ⟨rfl, e1, rfl⟩ := q1
  replace X1 := own_px X1
  refine k_none K ?_
  refine m_aloadN K X1.here hx hby d_jdk_52_83_5 rfl rfl rfl ?_
  refine m_iloadN K X1.here hx hby d_jdk_52_83_6 rfl rfl ?_
  refine k_callS K X1 hx hby hZ [(.ref a1), (.int (2 : Int32))] [] hown (W hw 90 rfl) (W hw 91 rfl) (W hw 43 rfl) (W hw 92 rfl) (cgc3_2 l Z a0 hw a1 cz vf y0 y1 y2 y3 y4 y5 h0 n0 Z0 A_a1 O0 SS) e1 rfl rfl pd_5 rfl d_jdk_52_83_7 (by rw [hml]; rfl) rfl (by decide) (by decide) (Nat.le_of_ble_eq_true rfl) (by decide) (by decide) fun v2 T2 L2 X2 q2 => ?_
  obtain ⟨rfl, e2, rfl⟩ := q2
  replace X2 := own_px X2
  refine k_some K (w := (.int (GCH y4 y5))) ?_
  exact Go.retN X2 hx hby hlk hret (by simp) d_jdk_52_83_10 (by decide) (by decide) (own_nc _) (⟨rfl, e2, rfl⟩)
theorem efcu3_2 (m : MethodId) (x0 : Addr) (x1 : Int32) : entryFrame m #[(.ref x0), (.int x1)] 2 = mkF m 0 #[.val (.ref x0), .val (.int x1)] [] := by first | (simp [entryFrame, mkF, argsToLocals, Value.category]; done) | rfl
set_option maxRecDepth 65536 in
set_option maxHeartbeats 40000000 in
theorem ccu3_2 (l : Launch) (Z : State) (a0 : Array Value) (hw : ∀ d ∈ tables_1, d.before a0 Z = true) (a1 : Addr) (cz : Int32) (vf : Value) (a2 : Addr) (y0 : Int32) (y1 : Int32) (y2 : Int32) (y3 : Int32) (y4 : Int32) (y5 : Int32) (h0 : Heap) (n0 : Nat) (Z0 : n0 ≤ h0.size) (E_a1 : Exa Z h0 a1 "java/lang/String") (F_value_a1 : Fld Z h0 a1 "java/lang/String" "value" "[B" (.ref a2)) (F_coder_a1 : Fld Z h0 a1 "java/lang/String" "coder" "B" (.int (1 : Int32))) (A_a2 : Av Z h0 a2 .byte [(.int y0), (.int y1), (.int y2), (.int y3), (.int y4), (.int y5)]) (O0 : Old Z n0 h0) (SS : SSt Z cz vf) :
    Con l Z (⟨"java/lang/String", "charAt", "(I)C"⟩ : MethodName) jdk_42_method_56_code 2 (some .char) ({ frames := 4, cells := 0, slots := 0, locals := 53 } : Room) [] #[(.ref a1), (.int (2 : Int32))] h0 (fun v h L => v = some (.int (GCH y4 y5)) ∧ h = h0 ∧ L = []) := by
  refine Con.of (plainFor_of_name pn_java_lang_String) #[.val (.ref a1), .val (.int (2 : Int32))] (fun m => efcu3_2 m a1 (2 : Int32)) ?_
  intro p e s m below meth c s₁ K hx hby hml hown hnm hret hlk hZ X0 e0
  have N0 := Fr.nil n0
  refine m_aloadN K X0.here hx hby d_jdk_42_56_0 rfl rfl rfl ?_
  refine k_callV K X0 hx hby hZ a1 [] [] hown (W hw 56 rfl) (W hw 57 rfl) (notFace_of_selects (args := #[]) (mvT hZ (W hw 59 rfl))) (W hw 59 rfl) (W hw 58 rfl) (W hw 7 rfl) (W hw 60 rfl) (cil1 l Z a0 hw a1 cz vf h0 n0 Z0 F_coder_a1 O0 SS) e0 E_a1 rfl rfl pd_6 rfl d_jdk_42_56_1 (by rw [hml]; rfl) rfl (by decide) (by decide) (Nat.le_of_ble_eq_true rfl) (by decide) (by decide) fun v1 T1 L1 X1 q1 => ?_
  obtain ⟨rfl, e1, rfl⟩ := q1
  replace X1 := own_px X1
  refine k_some K (w := (.int (0 : Int32))) ?_
  refine m_ifY K X1.here hx hby (q := 16) d_jdk_42_56_4 ((if0 _ _).trans (teq (by decide : (0 : Int32) = (0 : Int32))).1) (by decide) rfl ?_
  refine m_aloadN K X1.here hx hby d_jdk_42_56_16 rfl rfl rfl ?_
  refine k_getF K X1 hx hby hZ hown (host := "") (Or.inl (W hw 24 rfl)) Via.refl e1 F_value_a1 d_jdk_42_56_17 rfl fun T2 X2 e2 => ?_
  refine m_iloadN K X2.here hx hby d_jdk_42_56_20 rfl rfl ?_
  refine k_callS K X2 hx hby hZ [(.ref a2), (.int (2 : Int32))] [] hown (W hw 93 rfl) (W hw 94 rfl) (W hw 43 rfl) (W hw 95 rfl) (cuc3_2 l Z a0 hw a2 cz vf y0 y1 y2 y3 y4 y5 h0 n0 Z0 A_a2 O0 SS) e2 rfl rfl pd_5 rfl d_jdk_42_56_21 (by rw [hml]; rfl) rfl (by decide) (by decide) (Nat.le_of_ble_eq_true rfl) (by decide) (by decide) fun v3 T3 L3 X3 q3 => ?_
  obtain ⟨rfl, e3, rfl⟩ := q3
  replace X3 := own_px X3
  refine k_some K (w := (.int (GCH y4 y5))) ?_
  exact Go.retN X3 hx hby hlk hret (by simp) d_jdk_42_56_24 (by decide) (by decide) (own_nc _) (⟨rfl, e3, rfl⟩)
theorem eftb3 (m : MethodId) (x0 : Addr) (x1 : Int32) (x2 : Int32) : entryFrame m #[(.ref x0), (.int x1), (.int x2)] 5 = mkF m 0 #[.val (.ref x0), .val (.int x1), .val (.int x2), .unset, .unset] [] := by first | (simp [entryFrame, mkF, argsToLocals, Value.category]; done) | rfl
set_option maxRecDepth 65536 in
set_option maxHeartbeats 40000000 in
theorem ctb3 (l : Launch) (Z : State) (a0 : Array Value) (hw : ∀ d ∈ tables_1, d.before a0 Z = true) (a1 : Addr) (cz : Int32) (vf : Value) (c0 : Int32) (c1 : Int32) (c2 : Int32) (h0 : Heap) (n0 : Nat) (Z0 : n0 ≤ h0.size) (A_a1 : Av Z h0 a1 .char [(.int c0), (.int c1), (.int c2)]) (O0 : Old Z n0 h0) (SS : SSt Z cz vf) :
    Con l Z (⟨"java/lang/StringUTF16", "toBytes", "([CII)[B"⟩ : MethodName) jdk_52_method_14_code 5 (some (.array .byte)) ({ frames := 2, cells := 1, slots := 6, locals := 24 } : Room) [] #[(.ref a1), (.int (0 : Int32)), (.int (3 : Int32))] h0 (fun v h L => ∃ bv : Addr, v = some (.ref bv) ∧ Fr n0 L ∧ Keep h0 h [] ∧ h0.size ≤ bv ∧ Av Z h bv .byte [(.int (BLO c0)), (.int (BHI c0)), (.int (BLO c1)), (.int (BHI c1)), (.int (BLO c2)), (.int (BHI c2))]) := by
  refine Con.of (plainFor_of_name pn_java_lang_StringUTF16) #[.val (.ref a1), .val (.int (0 : Int32)), .val (.int (3 : Int32)), .unset, .unset] (fun m => eftb3 m a1 (0 : Int32) (3 : Int32)) ?_
  intro p e s m below meth c s₁ K hx hby hml hown hnm hret hlk hZ X0 e0
  have N0 := Fr.nil n0
  refine m_iloadN K X0.here hx hby d_jdk_52_14_0 rfl rfl ?_
  refine k_callS K X0 hx hby hZ [(.int (3 : Int32))] [] hown (W hw 77 rfl) (W hw 78 rfl) (W hw 43 rfl) (W hw 79 rfl) (cnf3 l Z a0 hw cz vf h0 n0 Z0 O0 SS) e0 rfl rfl pd_7 rfl d_jdk_52_14_1 (by rw [hml]; rfl) rfl (by decide) (by decide) (Nat.le_of_ble_eq_true rfl) (by decide) (by decide) fun v1 T1 L1 X1 q1 => ?_
  obtain ⟨b1_bv, rfl, Nq1, K1, sq_b1_bv, Ap1_0⟩ := q1
  have N1 := Fr.app N0 Nq1
  have sz_b1_bv : h0.size ≤ b1_bv := Nat.le_trans (Nat.le_refl _) sq_b1_bv
  have g_b1_bv : n0 ≤ b1_bv := Nat.le_trans Z0 sz_b1_bv
  refine k_some K (w := (.ref b1_bv)) ?_
  refine m_astoreN K X1.here hx hby #[.val (.ref a1), .val (.int (0 : Int32)), .val (.int (3 : Int32)), .val (.ref b1_bv), .unset] d_jdk_52_14_4 rfl rfl rfl ?_
  refine m_iconst K X1.here hx hby (0 : Int32) d_jdk_52_14_5 rfl rfl ?_
  refine m_istore K X1.here hx hby #[.val (.ref a1), .val (.int (0 : Int32)), .val (.int (3 : Int32)), .val (.ref b1_bv), .val (.int (0 : Int32))] d_jdk_52_14_6 rfl rfl ?_
  refine m_iload K X1.here hx hby d_jdk_52_14_8 rfl rfl ?_
  refine m_iloadN K X1.here hx hby d_jdk_52_14_10 rfl rfl ?_
  refine m_icmpN K X1.here hx hby (q := 14) d_jdk_52_14_11 (tlt (by decide : (0 : Int32) < (3 : Int32))).2.1 rfl ?_
  refine m_aloadN K X1.here hx hby d_jdk_52_14_14 rfl rfl rfl ?_
  refine m_iload K X1.here hx hby d_jdk_52_14_15 rfl rfl ?_
  refine m_aloadN K X1.here hx hby d_jdk_52_14_17 rfl rfl rfl ?_
  refine m_iloadN K X1.here hx hby d_jdk_52_14_18 rfl rfl ?_
  refine k_ldC K X1 hx hby hZ rfl (A_a1.keep K1 nin0) (v := (.int c0)) (by decide) rfl d_jdk_52_14_19 rfl ?_
  refine k_callS K X1 hx hby hZ [(.ref b1_bv), (.int (0 : Int32)), (.int c0)] [] hown (W hw 84 rfl) (W hw 85 rfl) (W hw 43 rfl) (W hw 86 rfl) (cpc3_0 l Z a0 hw b1_bv c0 cz vf (0 : Int32) (0 : Int32) (0 : Int32) (0 : Int32) (0 : Int32) (0 : Int32) T1.heap n0 (Nat.le_trans Z0 (Nat.le_trans (Nat.le_refl _) K1.1)) Ap1_0 (O0.keep K1 all0) g_b1_bv SS) rfl rfl rfl pd_8 rfl d_jdk_52_14_20 (by rw [hml]; rfl) rfl (by decide) (by decide) (Nat.le_of_ble_eq_true rfl) (by decide) (by decide) fun v2 T2 L2 X2 q2 => ?_
  obtain ⟨rfl, Nq2, K2, Ap2_0⟩ := q2
  have N2 := Fr.app N1 Nq2
  refine k_none K ?_
  refine m_iinc K X2.here hx hby #[.val (.ref a1), .val (.int (1 : Int32)), .val (.int (3 : Int32)), .val (.ref b1_bv), .val (.int (0 : Int32))] d_jdk_52_14_23 rfl rfl rfl ?_
  refine m_iinc K X2.here hx hby #[.val (.ref a1), .val (.int (1 : Int32)), .val (.int (3 : Int32)), .val (.ref b1_bv), .val (.int (1 : Int32))] d_jdk_52_14_26 rfl rfl rfl ?_
  refine m_goto K X2.here hx hby (q := 8) d_jdk_52_14_29 (by decide) rfl ?_
  refine m_iload K X2.here hx hby d_jdk_52_14_8 rfl rfl ?_
  refine m_iloadN K X2.here hx hby d_jdk_52_14_10 rfl rfl ?_
  refine m_icmpN K X2.here hx hby (q := 14) d_jdk_52_14_11 (tlt (by decide : (1 : Int32) < (3 : Int32))).2.1 rfl ?_
  refine m_aloadN K X2.here hx hby d_jdk_52_14_14 rfl rfl rfl ?_
  refine m_iload K X2.here hx hby d_jdk_52_14_15 rfl rfl ?_
  refine m_aloadN K X2.here hx hby d_jdk_52_14_17 rfl rfl rfl ?_
  refine m_iloadN K X2.here hx hby d_jdk_52_14_18 rfl rfl ?_
  refine k_ldC K X2 hx hby hZ rfl ((A_a1.keep K1 nin0).keep K2 (ninS (Nat.ne_of_lt (Nat.lt_of_lt_of_le (Nat.lt_of_lt_of_le A_a1.lt (Nat.le_refl _)) sq_b1_bv)) nin0)) (v := (.int c1)) (by decide) rfl d_jdk_52_14_19 rfl ?_
  refine k_callS K X2 hx hby hZ [(.ref b1_bv), (.int (1 : Int32)), (.int c1)] [] hown (W hw 84 rfl) (W hw 85 rfl) (W hw 43 rfl) (W hw 86 rfl) (cpc3_1 l Z a0 hw b1_bv c1 cz vf (BLO c0) (BHI c0) (0 : Int32) (0 : Int32) (0 : Int32) (0 : Int32) T2.heap n0 (Nat.le_trans Z0 (Nat.le_trans (Nat.le_trans (Nat.le_refl _) K1.1) K2.1)) Ap2_0 ((O0.keep K1 all0).keep K2 (allS g_b1_bv all0)) g_b1_bv SS) rfl rfl rfl pd_8 rfl d_jdk_52_14_20 (by rw [hml]; rfl) rfl (by decide) (by decide) (Nat.le_of_ble_eq_true rfl) (by decide) (by decide) fun v3 T3 L3 X3 q3 => ?_
  obtain ⟨rfl, Nq3, K3, Ap3_0⟩ := q3
  have N3 := Fr.app N2 Nq3
  refine k_none K ?_
  refine m_iinc K X3.here hx hby #[.val (.ref a1), .val (.int (2 : Int32)), .val (.int (3 : Int32)), .val (.ref b1_bv), .val (.int (1 : Int32))] d_jdk_52_14_23 rfl rfl rfl ?_
  refine m_iinc K X3.here hx hby #[.val (.ref a1), .val (.int (2 : Int32)), .val (.int (3 : Int32)), .val (.ref b1_bv), .val (.int (2 : Int32))] d_jdk_52_14_26 rfl rfl rfl ?_
  refine m_goto K X3.here hx hby (q := 8) d_jdk_52_14_29 (by decide) rfl ?_
  refine m_iload K X3.here hx hby d_jdk_52_14_8 rfl rfl ?_
  refine m_iloadN K X3.here hx hby d_jdk_52_14_10 rfl rfl ?_
  refine m_icmpN K X3.here hx hby (q := 14) d_jdk_52_14_11 (tlt (by decide : (2 : Int32) < (3 : Int32))).2.1 rfl ?_
  refine m_aloadN K X3.here hx hby d_jdk_52_14_14 rfl rfl rfl ?_
  refine m_iload K X3.here hx hby d_jdk_52_14_15 rfl rfl ?_
  refine m_aloadN K X3.here hx hby d_jdk_52_14_17 rfl rfl rfl ?_
  refine m_iloadN K X3.here hx hby d_jdk_52_14_18 rfl rfl ?_
  refine k_ldC K X3 hx hby hZ rfl (((A_a1.keep K1 nin0).keep K2 (ninS (Nat.ne_of_lt (Nat.lt_of_lt_of_le (Nat.lt_of_lt_of_le A_a1.lt (Nat.le_refl _)) sq_b1_bv)) nin0)).keep K3 (ninS (Nat.ne_of_lt (Nat.lt_of_lt_of_le (Nat.lt_of_lt_of_le A_a1.lt (Nat.le_refl _)) sq_b1_bv)) nin0)) (v := (.int c2)) (by decide) rfl d_jdk_52_14_19 rfl ?_
  refine k_callS K X3 hx hby hZ [(.ref b1_bv), (.int (2 : Int32)), (.int c2)] [] hown (W hw 84 rfl) (W hw 85 rfl) (W hw 43 rfl) (W hw 86 rfl) (cpc3_2 l Z a0 hw b1_bv c2 cz vf (BLO c0) (BHI c0) (BLO c1) (BHI c1) (0 : Int32) (0 : Int32) T3.heap n0 (Nat.le_trans Z0 (Nat.le_trans (Nat.le_trans (Nat.le_trans (Nat.le_refl _) K1.1) K2.1) K3.1)) Ap3_0 (((O0.keep K1 all0).keep K2 (allS g_b1_bv all0)).keep K3 (allS g_b1_bv all0)) g_b1_bv SS) rfl rfl rfl pd_8 rfl d_jdk_52_14_20 (by rw [hml]; rfl) rfl (by decide) (by decide) (Nat.le_of_ble_eq_true rfl) (by decide) (by decide) fun v4 T4 L4 X4 q4 => ?_
  obtain ⟨rfl, Nq4, K4, Ap4_0⟩ := q4
  have N4 := Fr.app N3 Nq4
  refine k_none K ?_
  refine m_iinc K X4.here hx hby #[.val (.ref a1), .val (.int (3 : Int32)), .val (.int (3 : Int32)), .val (.ref b1_bv), .val (.int (2 : Int32))] d_jdk_52_14_23 rfl rfl rfl ?_
  refine m_iinc K X4.here hx hby #[.val (.ref a1), .val (.int (3 : Int32)), .val (.int (3 : Int32)), .val (.ref b1_bv), .val (.int (3 : Int32))] d_jdk_52_14_26 rfl rfl rfl ?_
  refine m_goto K X4.here hx hby (q := 8) d_jdk_52_14_29 (by decide) rfl ?_
  refine m_iload K X4.here hx hby d_jdk_52_14_8 rfl rfl ?_
  refine m_iloadN K X4.here hx hby d_jdk_52_14_10 rfl rfl ?_
  refine m_icmpY K X4.here hx hby (q := 32) d_jdk_52_14_11 (flt (by decide : ¬ ((3 : Int32) < (3 : Int32)))).2.1 (by decide) rfl ?_
  refine m_aloadN K X4.here hx hby d_jdk_52_14_32 rfl rfl rfl ?_
  exact Go.retO X4 hx hby hlk hret rfl (Or.inr (Or.inr (Or.inr (Or.inr ⟨rfl, rfl, rfl⟩)))) d_jdk_52_14_33 (by decide) (by decide) (⟨b1_bv, rfl, N4, (((((Keep.refl h0 []).trans K1 all0).trans K2 (allS (Or.inr sz_b1_bv) all0)).trans K3 (allS (Or.inr sz_b1_bv) all0)).trans K4 (allS (Or.inr sz_b1_bv) all0)), sz_b1_bv, Ap4_0⟩)
theorem eflu3 (m : MethodId) (x0 : Addr) : entryFrame m #[(.ref x0)] 1 = mkF m 0 #[.val (.ref x0)] [] := by first | (simp [entryFrame, mkF, argsToLocals, Value.category]; done) | rfl
set_option maxRecDepth 65536 in
set_option maxHeartbeats 40000000 in
theorem clu3 (l : Launch) (Z : State) (a0 : Array Value) (hw : ∀ d ∈ tables_1, d.before a0 Z = true) (a1 : Addr) (cz : Int32) (vf : Value) (a2 : Addr) (y0 : Int32) (y1 : Int32) (y2 : Int32) (y3 : Int32) (y4 : Int32) (y5 : Int32) (h0 : Heap) (n0 : Nat) (Z0 : n0 ≤ h0.size) (E_a1 : Exa Z h0 a1 "java/lang/String") (F_value_a1 : Fld Z h0 a1 "java/lang/String" "value" "[B" (.ref a2)) (F_coder_a1 : Fld Z h0 a1 "java/lang/String" "coder" "B" (.int (1 : Int32))) (A_a2 : Av Z h0 a2 .byte [(.int y0), (.int y1), (.int y2), (.int y3), (.int y4), (.int y5)]) (O0 : Old Z n0 h0) (SS : SSt Z cz vf) :
    Con l Z (⟨"java/lang/String", "length", "()I"⟩ : MethodName) jdk_42_method_54_code 1 (some .int) ({ frames := 1, cells := 0, slots := 0, locals := 13 } : Room) [] #[(.ref a1)] h0 (fun v h L => v = some (.int (3 : Int32)) ∧ h = h0 ∧ L = []) := by
  refine Con.of (plainFor_of_name pn_java_lang_String) #[.val (.ref a1)] (fun m => eflu3 m a1) ?_
  intro p e s m below meth c s₁ K hx hby hml hown hnm hret hlk hZ X0 e0
  have N0 := Fr.nil n0
  refine m_aloadN K X0.here hx hby d_jdk_42_54_0 rfl rfl rfl ?_
  refine k_getF K X0 hx hby hZ hown (host := "") (Or.inl (W hw 24 rfl)) Via.refl e0 F_value_a1 d_jdk_42_54_1 rfl fun T1 X1 e1 => ?_
  refine k_len K X1 hx hby hZ (6 : Int32) e1 A_a2 rfl d_jdk_42_54_4 rfl ?_
  refine m_aloadN K X1.here hx hby d_jdk_42_54_5 rfl rfl rfl ?_
  refine k_callV K X1 hx hby hZ a1 [] [(.int (6 : Int32))] hown (W hw 35 rfl) (W hw 36 rfl) (notFace_of_selects (args := #[]) (mvT hZ (W hw 38 rfl))) (W hw 38 rfl) (W hw 37 rfl) (W hw 7 rfl) (W hw 39 rfl) (cco1 l Z a0 hw a1 cz vf h0 n0 Z0 F_coder_a1 O0 SS) e1 E_a1 rfl rfl pd_9 rfl d_jdk_42_54_6 (by rw [hml]; rfl) rfl (by decide) (by decide) (Nat.le_of_ble_eq_true rfl) (by decide) (by decide) fun v2 T2 L2 X2 q2 => ?_
  obtain ⟨rfl, e2, rfl⟩ := q2
  replace X2 := own_px X2
  refine k_some K (w := (.int (1 : Int32))) ?_
  refine m_ishr K X2.here hx hby (3 : Int32) d_jdk_42_54_9 rfl rfl ?_
  exact Go.retI X2 hx hby hlk hret d_jdk_42_54_10 (by decide) (by decide) (⟨rfl, e2, rfl⟩)
theorem efnl4 (m : MethodId) (x0 : Int32) : entryFrame m #[(.int x0)] 1 = mkF m 0 #[.val (.int x0)] [] := by first | (simp [entryFrame, mkF, argsToLocals, Value.category]; done) | rfl
set_option maxRecDepth 65536 in
set_option maxHeartbeats 40000000 in
theorem cnl4 (l : Launch) (Z : State) (a0 : Array Value) (hw : ∀ d ∈ tables_1, d.before a0 Z = true) (cz : Int32) (vf : Value) (h0 : Heap) (n0 : Nat) (Z0 : n0 ≤ h0.size) (O0 : Old Z n0 h0) (SS : SSt Z cz vf) :
    Con l Z (⟨"java/lang/StringUTF16", "newBytesLength", "(I)I"⟩ : MethodName) jdk_52_method_3_code 1 (some .int) ({ frames := 0, cells := 0, slots := 0, locals := 0 } : Room) [] #[(.int (4 : Int32))] h0 (fun v h L => v = some (.int (8 : Int32)) ∧ h = h0 ∧ L = []) := by
  refine Con.of (plainFor_of_name pn_java_lang_StringUTF16) #[.val (.int (4 : Int32))] (fun m => efnl4 m (4 : Int32)) ?_
  intro p e s m below meth c s₁ K hx hby hml hown hnm hret hlk hZ X0 e0
  have N0 := Fr.nil n0
  refine m_iloadN K X0.here hx hby d_jdk_52_3_0 rfl rfl ?_
  refine m_ifY K X0.here hx hby (q := 12) d_jdk_52_3_1 ((if0 _ _).trans (flt (by decide : ¬ ((4 : Int32) < (0 : Int32)))).2.1) (by decide) rfl ?_
  refine m_iloadN K X0.here hx hby d_jdk_52_3_12 rfl rfl ?_
  refine m_ldc K X0 hx hby hZ hown (W hw 83 rfl) d_jdk_52_3_13 rfl ?_
  refine m_icmpY K X0.here hx hby (q := 55) d_jdk_52_3_15 (tlt (by decide : (4 : Int32) < (1073741823 : Int32))).1 (by decide) rfl ?_
  refine m_iloadN K X0.here hx hby d_jdk_52_3_55 rfl rfl ?_
  refine m_iconst K X0.here hx hby (1 : Int32) d_jdk_52_3_56 rfl rfl ?_
  refine m_ishl K X0.here hx hby (8 : Int32) d_jdk_52_3_57 rfl rfl ?_
  exact Go.retI X0 hx hby hlk hret d_jdk_52_3_58 (by decide) (by decide) (⟨rfl, e0, rfl⟩)
theorem efnf4 (m : MethodId) (x0 : Int32) : entryFrame m #[(.int x0)] 1 = mkF m 0 #[.val (.int x0)] [] := by first | (simp [entryFrame, mkF, argsToLocals, Value.category]; done) | rfl
set_option maxRecDepth 65536 in
set_option maxHeartbeats 40000000 in
theorem cnf4 (l : Launch) (Z : State) (a0 : Array Value) (hw : ∀ d ∈ tables_1, d.before a0 Z = true) (cz : Int32) (vf : Value) (h0 : Heap) (n0 : Nat) (Z0 : n0 ≤ h0.size) (O0 : Old Z n0 h0) (SS : SSt Z cz vf) :
    Con l Z (⟨"java/lang/StringUTF16", "newBytesFor", "(I)[B"⟩ : MethodName) jdk_52_method_2_code 1 (some (.array .byte)) ({ frames := 1, cells := 1, slots := 8, locals := 12 } : Room) [] #[(.int (4 : Int32))] h0 (fun v h L => ∃ bv : Addr, v = some (.ref bv) ∧ Fr n0 L ∧ Keep h0 h [] ∧ h0.size ≤ bv ∧ Av Z h bv .byte [(.int (0 : Int32)), (.int (0 : Int32)), (.int (0 : Int32)), (.int (0 : Int32)), (.int (0 : Int32)), (.int (0 : Int32)), (.int (0 : Int32)), (.int (0 : Int32))]) := by
  refine Con.of (plainFor_of_name pn_java_lang_StringUTF16) #[.val (.int (4 : Int32))] (fun m => efnf4 m (4 : Int32)) ?_
  intro p e s m below meth c s₁ K hx hby hml hown hnm hret hlk hZ X0 e0
  have N0 := Fr.nil n0
  refine m_iloadN K X0.here hx hby d_jdk_52_2_0 rfl rfl ?_
  refine k_callS K X0 hx hby hZ [(.int (4 : Int32))] [] hown (W hw 80 rfl) (W hw 81 rfl) (W hw 43 rfl) (W hw 82 rfl) (cnl4 l Z a0 hw cz vf h0 n0 Z0 O0 SS) e0 rfl rfl pd_1 rfl d_jdk_52_2_1 (by rw [hml]; rfl) rfl (by decide) (by decide) (Nat.le_of_ble_eq_true rfl) (by decide) (by decide) fun v1 T1 L1 X1 q1 => ?_
  obtain ⟨rfl, e1, rfl⟩ := q1
  replace X1 := own_px X1
  refine k_some K (w := (.int (8 : Int32))) ?_
  refine k_newP K X1 hx hby hZ 8 8 (W hw 19 rfl) e1 d_jdk_52_2_4 rfl (by decide) rfl (by decide) (by decide) (by decide) (by decide) fun T2 h2 b2 X2 e2 E2 g2 V_b2 => ?_
  have sz_b2 : h0.size ≤ b2 := Nat.le_trans (Nat.le_refl _) (Nat.le_of_eq g2.symm)
  have g_b2 : n0 ≤ b2 := Nat.le_trans Z0 sz_b2
  replace V_b2 : Av Z h2 b2 .byte [(.int (0 : Int32)), (.int (0 : Int32)), (.int (0 : Int32)), (.int (0 : Int32)), (.int (0 : Int32)), (.int (0 : Int32)), (.int (0 : Int32)), (.int (0 : Int32))] := V_b2
  exact Go.retO X2 hx hby hlk hret rfl (Or.inr (Or.inr (Or.inr (Or.inr ⟨rfl, rfl, rfl⟩)))) d_jdk_52_2_6 (by decide) (by decide) (by rw [e2]; exact ⟨b2, rfl, N0, ((Keep.refl h0 []).ext E2), sz_b2, V_b2⟩)
theorem eful4 (m : MethodId) (x0 : Addr) : entryFrame m #[(.ref x0)] 1 = mkF m 0 #[.val (.ref x0)] [] := by first | (simp [entryFrame, mkF, argsToLocals, Value.category]; done) | rfl
set_option maxRecDepth 65536 in
set_option maxHeartbeats 40000000 in
theorem cul4 (l : Launch) (Z : State) (a0 : Array Value) (hw : ∀ d ∈ tables_1, d.before a0 Z = true) (a1 : Addr) (cz : Int32) (vf : Value) (y0 : Int32) (y1 : Int32) (y2 : Int32) (y3 : Int32) (y4 : Int32) (y5 : Int32) (y6 : Int32) (y7 : Int32) (h0 : Heap) (n0 : Nat) (Z0 : n0 ≤ h0.size) (A_a1 : Av Z h0 a1 .byte [(.int y0), (.int y1), (.int y2), (.int y3), (.int y4), (.int y5), (.int y6), (.int y7)]) (O0 : Old Z n0 h0) (SS : SSt Z cz vf) :
    Con l Z (⟨"java/lang/StringUTF16", "length", "([B)I"⟩ : MethodName) jdk_52_method_6_code 1 (some .int) ({ frames := 0, cells := 0, slots := 0, locals := 0 } : Room) [] #[(.ref a1)] h0 (fun v h L => v = some (.int (4 : Int32)) ∧ h = h0 ∧ L = []) := by
  refine Con.of (plainFor_of_name pn_java_lang_StringUTF16) #[.val (.ref a1)] (fun m => eful4 m a1) ?_
  intro p e s m below meth c s₁ K hx hby hml hown hnm hret hlk hZ X0 e0
  have N0 := Fr.nil n0
  refine m_aloadN K X0.here hx hby d_jdk_52_6_0 rfl rfl rfl ?_
  refine k_len K X0 hx hby hZ (8 : Int32) e0 A_a1 rfl d_jdk_52_6_1 rfl ?_
  refine m_iconst K X0.here hx hby (1 : Int32) d_jdk_52_6_2 rfl rfl ?_
  refine m_ishr K X0.here hx hby (4 : Int32) d_jdk_52_6_3 rfl rfl ?_
  exact Go.retI X0 hx hby hlk hret d_jdk_52_6_4 (by decide) (by decide) (⟨rfl, e0, rfl⟩)
theorem efuk4 (m : MethodId) (x0 : Int32) (x1 : Addr) : entryFrame m #[(.int x0), (.ref x1)] 2 = mkF m 0 #[.val (.int x0), .val (.ref x1)] [] := by first | (simp [entryFrame, mkF, argsToLocals, Value.category]; done) | rfl
set_option maxRecDepth 65536 in
set_option maxHeartbeats 40000000 in
theorem cuk4 (l : Launch) (Z : State) (a0 : Array Value) (hw : ∀ d ∈ tables_1, d.before a0 Z = true) (p1 : Int32) (a1 : Addr) (cz : Int32) (vf : Value) (y0 : Int32) (y1 : Int32) (y2 : Int32) (y3 : Int32) (y4 : Int32) (y5 : Int32) (y6 : Int32) (y7 : Int32) (h0 : Heap) (n0 : Nat) (Z0 : n0 ≤ h0.size) (A_a1 : Av Z h0 a1 .byte [(.int y0), (.int y1), (.int y2), (.int y3), (.int y4), (.int y5), (.int y6), (.int y7)]) (O0 : Old Z n0 h0) (SS : SSt Z cz vf) (g0 : ¬ (p1 < (0 : Int32))) (g1 : p1 < (4 : Int32)) :
    Con l Z (⟨"java/lang/StringUTF16", "checkIndex", "(I[B)V"⟩ : MethodName) jdk_52_method_91_code 2 none ({ frames := 2, cells := 0, slots := 0, locals := 27 } : Room) [] #[(.int p1), (.ref a1)] h0 (fun v h L => v = none ∧ h = h0 ∧ L = []) := by
  refine Con.of (plainFor_of_name pn_java_lang_StringUTF16) #[.val (.int p1), .val (.ref a1)] (fun m => efuk4 m p1 a1) ?_
  intro p e s m below meth c s₁ K hx hby hml hown hnm hret hlk hZ X0 e0
  have N0 := Fr.nil n0
  refine m_iloadN K X0.here hx hby d_jdk_52_91_0 rfl rfl ?_
  refine m_aloadN K X0.here hx hby d_jdk_52_91_1 rfl rfl rfl ?_
  refine k_callS K X0 hx hby hZ [(.ref a1)] [(.int p1)] hown (W hw 99 rfl) (W hw 100 rfl) (W hw 43 rfl) (W hw 101 rfl) (cul4 l Z a0 hw a1 cz vf y0 y1 y2 y3 y4 y5 y6 y7 h0 n0 Z0 A_a1 O0 SS) e0 rfl rfl pd_2 rfl d_jdk_52_91_2 (by rw [hml]; rfl) rfl (by decide) (by decide) (Nat.le_of_ble_eq_true rfl) (by decide) (by decide) fun v1 T1 L1 X1 q1 => ?_
  obtain ⟨rfl, e1, rfl⟩ := q1
  replace X1 := own_px X1
  refine k_some K (w := (.int (4 : Int32))) ?_
  refine k_callS K X1 hx hby hZ [(.int p1), (.int (4 : Int32))] [] hown (W hw 102 rfl) (W hw 66 rfl) (W hw 7 rfl) (W hw 67 rfl) (cck l Z a0 hw p1 (4 : Int32) cz vf h0 n0 Z0 O0 SS g0 g1) e1 rfl rfl pd_3 rfl d_jdk_52_91_5 (by rw [hml]; rfl) rfl (by decide) (by decide) (Nat.le_of_ble_eq_true rfl) (by decide) (by decide) fun v2 T2 L2 X2 q2 => ?_
  obtain ⟨rfl, e2, rfl⟩ := q2
  replace X2 := own_px X2
  refine k_none K ?_
  exact Go.retV X2 hx hby hlk hret d_jdk_52_91_8 (by decide) (by decide) (⟨rfl, e2, rfl⟩)
def wpc4_0_1 (p3 : Int32) : Int32 := ((p3 >>> ((0 : Int32) &&& 31)).toInt8.toInt32)
def wpc4_0_2 (p3 : Int32) : Int32 := ((p3 >>> ((8 : Int32) &&& 31)).toInt8.toInt32)
theorem efpc4_0 (m : MethodId) (x0 : Addr) (x1 : Int32) (x2 : Int32) : entryFrame m #[(.ref x0), (.int x1), (.int x2)] 3 = mkF m 0 #[.val (.ref x0), .val (.int x1), .val (.int x2)] [] := by first | (simp [entryFrame, mkF, argsToLocals, Value.category]; done) | rfl
set_option maxRecDepth 65536 in
set_option maxHeartbeats 40000000 in
theorem cpc4_0 (l : Launch) (Z : State) (a0 : Array Value) (hw : ∀ d ∈ tables_1, d.before a0 Z = true) (a1 : Addr) (p3 : Int32) (cz : Int32) (vf : Value) (y0 : Int32) (y1 : Int32) (y2 : Int32) (y3 : Int32) (y4 : Int32) (y5 : Int32) (y6 : Int32) (y7 : Int32) (h0 : Heap) (n0 : Nat) (Z0 : n0 ≤ h0.size) (A_a1 : Av Z h0 a1 .byte [(.int y0), (.int y1), (.int y2), (.int y3), (.int y4), (.int y5), (.int y6), (.int y7)]) (O0 : Old Z n0 h0) (g_a1 : n0 ≤ a1) (SS : SSt Z cz vf) :
    Con l Z (⟨"java/lang/StringUTF16", "putChar", "([BII)V"⟩ : MethodName) jdk_52_method_4_code 3 none ({ frames := 0, cells := 0, slots := 0, locals := 0 } : Room) [] #[(.ref a1), (.int (0 : Int32)), (.int p3)] h0 (fun v h L => v = none ∧ Fr n0 L ∧ Keep h0 h [a1] ∧ Av Z h a1 .byte [(.int (BLO p3)), (.int (BHI p3)), (.int y2), (.int y3), (.int y4), (.int y5), (.int y6), (.int y7)]) := by
  refine Con.of (plainFor_of_name pn_java_lang_StringUTF16) #[.val (.ref a1), .val (.int (0 : Int32)), .val (.int p3)] (fun m => efpc4_0 m a1 (0 : Int32) p3) ?_
  intro p e s m below meth c s₁ K hx hby hml hown hnm hret hlk hZ X0 e0
  have N0 := Fr.nil n0
  refine k_getS K X0 hx hby hZ hown (host := "") (Or.inl (W hw 87 rfl)) Via.refl e0 (SS.ad.ext O0.2) d_jdk_52_4_0 rfl fun T1 X1 e1 => ?_
  refine m_ifY K X1.here hx hby (q := 28) d_jdk_52_4_3 ((if0 _ _).trans (feq (by decide : ¬ ((1 : Int32) = (0 : Int32)))).2) (by decide) rfl ?_
  refine m_iloadN K X1.here hx hby d_jdk_52_4_28 rfl rfl ?_
  refine m_iconst K X1.here hx hby (1 : Int32) d_jdk_52_4_29 rfl rfl ?_
  refine m_ishl K X1.here hx hby (0 : Int32) d_jdk_52_4_30 rfl rfl ?_
  refine m_istoreN K X1.here hx hby #[.val (.ref a1), .val (.int (0 : Int32)), .val (.int p3)] d_jdk_52_4_31 rfl rfl ?_
  refine m_aloadN K X1.here hx hby d_jdk_52_4_32 rfl rfl rfl ?_
  refine m_iloadN K X1.here hx hby d_jdk_52_4_33 rfl rfl ?_
  refine m_iinc K X1.here hx hby #[.val (.ref a1), .val (.int (1 : Int32)), .val (.int p3)] d_jdk_52_4_34 rfl rfl rfl ?_
  refine m_iloadN K X1.here hx hby d_jdk_52_4_37 rfl rfl ?_
  refine k_getS K X1 hx hby hZ hown (host := "") (Or.inl (W hw 88 rfl)) Via.refl e1 (SS.hi.ext O0.2) d_jdk_52_4_38 rfl fun T2 X2 e2 => ?_
  refine m_ishr K X2.here hx hby (p3 >>> ((0 : Int32) &&& 31)) d_jdk_52_4_41 rfl rfl ?_
  refine m_i2b K X2.here hx hby (wpc4_0_1 p3) d_jdk_52_4_42 rfl rfl ?_
  refine k_stB K X2 hx hby hZ e2 A_a1 (by decide) (Nat.le_of_ble_eq_true rfl) d_jdk_52_4_43 rfl fun T3 h3 X3 e3 W3 V3 => ?_
  replace V3 : Av Z h3 a1 .byte [(.int (nar .byte (wpc4_0_1 p3))), (.int y1), (.int y2), (.int y3), (.int y4), (.int y5), (.int y6), (.int y7)] := V3
  have N3 := Fr.snoc X3 N0 g_a1
  refine m_aloadN K X3.here hx hby d_jdk_52_4_44 rfl rfl rfl ?_
  refine m_iloadN K X3.here hx hby d_jdk_52_4_45 rfl rfl ?_
  refine m_iloadN K X3.here hx hby d_jdk_52_4_46 rfl rfl ?_
  refine k_getS K X3 hx hby hZ hown (host := "") (Or.inl (W hw 89 rfl)) Via.refl e3 (SS.lo.ext (O0.wr W3 g_a1).2) d_jdk_52_4_47 rfl fun T4 X4 e4 => ?_
  refine m_ishr K X4.here hx hby (p3 >>> ((8 : Int32) &&& 31)) d_jdk_52_4_50 rfl rfl ?_
  refine m_i2b K X4.here hx hby (wpc4_0_2 p3) d_jdk_52_4_51 rfl rfl ?_
  refine k_stB K X4 hx hby hZ e4 V3 (by decide) (Nat.le_of_ble_eq_true rfl) d_jdk_52_4_52 rfl fun T5 h5 X5 e5 W5 V5 => ?_
  replace V5 : Av Z h5 a1 .byte [(.int (nar .byte (wpc4_0_1 p3))), (.int (nar .byte (wpc4_0_2 p3))), (.int y2), (.int y3), (.int y4), (.int y5), (.int y6), (.int y7)] := V5
  have N5 := Fr.snoc X5 N3 g_a1
  exact Go.retV X5 hx hby hlk hret d_jdk_52_4_53 (by decide) (by decide) (by rw [e5]; exact ⟨rfl, N5, (((Keep.refl h0 [a1]).wr W3 (Or.inl (by simp))).wr W5 (Or.inl (by simp))), V5⟩)
def wgc4_0_1 (y0 : Int32) : Int32 := ((y0 &&& (255 : Int32)) <<< ((0 : Int32) &&& 31))
def wgc4_0_2 (y1 : Int32) : Int32 := ((y1 &&& (255 : Int32)) <<< ((8 : Int32) &&& 31))
def wgc4_0_3 (y0 : Int32) (y1 : Int32) : Int32 := (((wgc4_0_1 y0) ||| (wgc4_0_2 y1)).toUInt32.toUInt16.toUInt32.toInt32)
theorem efgc4_0 (m : MethodId) (x0 : Addr) (x1 : Int32) : entryFrame m #[(.ref x0), (.int x1)] 2 = mkF m 0 #[.val (.ref x0), .val (.int x1)] [] := by first | (simp [entryFrame, mkF, argsToLocals, Value.category]; done) | rfl
set_option maxRecDepth 65536 in
set_option maxHeartbeats 40000000 in
theorem cgc4_0 (l : Launch) (Z : State) (a0 : Array Value) (hw : ∀ d ∈ tables_1, d.before a0 Z = true) (a1 : Addr) (cz : Int32) (vf : Value) (y0 : Int32) (y1 : Int32) (y2 : Int32) (y3 : Int32) (y4 : Int32) (y5 : Int32) (y6 : Int32) (y7 : Int32) (h0 : Heap) (n0 : Nat) (Z0 : n0 ≤ h0.size) (A_a1 : Av Z h0 a1 .byte [(.int y0), (.int y1), (.int y2), (.int y3), (.int y4), (.int y5), (.int y6), (.int y7)]) (O0 : Old Z n0 h0) (SS : SSt Z cz vf) :
    Con l Z (⟨"java/lang/StringUTF16", "getChar", "([BI)C"⟩ : MethodName) jdk_52_method_5_code 2 (some .char) ({ frames := 0, cells := 0, slots := 0, locals := 0 } : Room) [] #[(.ref a1), (.int (0 : Int32))] h0 (fun v h L => v = some (.int (GCH y0 y1)) ∧ h = h0 ∧ L = []) := by
  refine Con.of (plainFor_of_name pn_java_lang_StringUTF16) #[.val (.ref a1), .val (.int (0 : Int32))] (fun m => efgc4_0 m a1 (0 : Int32)) ?_
  intro p e s m below meth c s₁ K hx hby hml hown hnm hret hlk hZ X0 e0
  have N0 := Fr.nil n0
  refine k_getS K X0 hx hby hZ hown (host := "") (Or.inl (W hw 87 rfl)) Via.refl e0 (SS.ad.ext O0.2) d_jdk_52_5_0 rfl fun T1 X1 e1 => ?_
  refine m_ifY K X1.here hx hby (q := 28) d_jdk_52_5_3 ((if0 _ _).trans (feq (by decide : ¬ ((1 : Int32) = (0 : Int32)))).2) (by decide) rfl ?_
  refine m_iloadN K X1.here hx hby d_jdk_52_5_28 rfl rfl ?_
  refine m_iconst K X1.here hx hby (1 : Int32) d_jdk_52_5_29 rfl rfl ?_
  refine m_ishl K X1.here hx hby (0 : Int32) d_jdk_52_5_30 rfl rfl ?_
  refine m_istoreN K X1.here hx hby #[.val (.ref a1), .val (.int (0 : Int32))] d_jdk_52_5_31 rfl rfl ?_
  refine m_aloadN K X1.here hx hby d_jdk_52_5_32 rfl rfl rfl ?_
  refine m_iloadN K X1.here hx hby d_jdk_52_5_33 rfl rfl ?_
  refine m_iinc K X1.here hx hby #[.val (.ref a1), .val (.int (1 : Int32))] d_jdk_52_5_34 rfl rfl rfl ?_
  refine k_ldB K X1 hx hby hZ e1 A_a1 (v := (.int y0)) (by decide) rfl d_jdk_52_5_37 rfl ?_
  refine m_sipush K X1.here hx hby (255 : Int32) d_jdk_52_5_38 rfl rfl ?_
  refine m_iand K X1.here hx hby (y0 &&& (255 : Int32)) d_jdk_52_5_41 rfl rfl ?_
  refine k_getS K X1 hx hby hZ hown (host := "") (Or.inl (W hw 88 rfl)) Via.refl e1 (SS.hi.ext O0.2) d_jdk_52_5_42 rfl fun T2 X2 e2 => ?_
  refine m_ishl K X2.here hx hby (wgc4_0_1 y0) d_jdk_52_5_45 rfl rfl ?_
  refine m_aloadN K X2.here hx hby d_jdk_52_5_46 rfl rfl rfl ?_
  refine m_iloadN K X2.here hx hby d_jdk_52_5_47 rfl rfl ?_
  refine k_ldB K X2 hx hby hZ e2 A_a1 (v := (.int y1)) (by decide) rfl d_jdk_52_5_48 rfl ?_
  refine m_sipush K X2.here hx hby (255 : Int32) d_jdk_52_5_49 rfl rfl ?_
  refine m_iand K X2.here hx hby (y1 &&& (255 : Int32)) d_jdk_52_5_52 rfl rfl ?_
  refine k_getS K X2 hx hby hZ hown (host := "") (Or.inl (W hw 89 rfl)) Via.refl e2 (SS.lo.ext O0.2) d_jdk_52_5_53 rfl fun T3 X3 e3 => ?_
  refine m_ishl K X3.here hx hby (wgc4_0_2 y1) d_jdk_52_5_56 rfl rfl ?_
  refine m_ior K X3.here hx hby ((wgc4_0_1 y0) ||| (wgc4_0_2 y1)) d_jdk_52_5_57 rfl rfl ?_
  refine m_i2c K X3.here hx hby (wgc4_0_3 y0 y1) d_jdk_52_5_58 rfl rfl ?_
  exact Go.retN X3 hx hby hlk hret (by simp) d_jdk_52_5_59 (by decide) (by decide) (own_nc _) (⟨rfl, e3, rfl⟩)
theorem efuc4_0 (m : MethodId) (x0 : Addr) (x1 : Int32) : entryFrame m #[(.ref x0), (.int x1)] 2 = mkF m 0 #[.val (.ref x0), .val (.int x1)] [] := by first | (simp [entryFrame, mkF, argsToLocals, Value.category]; done) | rfl
set_option maxRecDepth 65536 in
set_option maxHeartbeats 40000000 in
theorem cuc4_0 (l : Launch) (Z : State) (a0 : Array Value) (hw : ∀ d ∈ tables_1, d.before a0 Z = true) (a1 : Addr) (cz : Int32) (vf : Value) (y0 : Int32) (y1 : Int32) (y2 : Int32) (y3 : Int32) (y4 : Int32) (y5 : Int32) (y6 : Int32) (y7 : Int32) (h0 : Heap) (n0 : Nat) (Z0 : n0 ≤ h0.size) (A_a1 : Av Z h0 a1 .byte [(.int y0), (.int y1), (.int y2), (.int y3), (.int y4), (.int y5), (.int y6), (.int y7)]) (O0 : Old Z n0 h0) (SS : SSt Z cz vf) :
    Con l Z (⟨"java/lang/StringUTF16", "charAt", "([BI)C"⟩ : MethodName) jdk_52_method_83_code 2 (some .char) ({ frames := 3, cells := 0, slots := 0, locals := 40 } : Room) [] #[(.ref a1), (.int (0 : Int32))] h0 (fun v h L => v = some (.int (GCH y0 y1)) ∧ h = h0 ∧ L = []) := by
  refine Con.of (plainFor_of_name pn_java_lang_StringUTF16) #[.val (.ref a1), .val (.int (0 : Int32))] (fun m => efuc4_0 m a1 (0 : Int32)) ?_
  intro p e s m below meth c s₁ K hx hby hml hown hnm hret hlk hZ X0 e0
  have N0 := Fr.nil n0
  refine m_iloadN K X0.here hx hby d_jdk_52_83_0 rfl rfl ?_
  refine m_aloadN K X0.here hx hby d_jdk_52_83_1 rfl rfl rfl ?_
  refine k_callS K X0 hx hby hZ [(.int (0 : Int32)), (.ref a1)] [] hown (W hw 96 rfl) (W hw 97 rfl) (W hw 43 rfl) (W hw 98 rfl) (cuk4 l Z a0 hw (0 : Int32) a1 cz vf y0 y1 y2 y3 y4 y5 y6 y7 h0 n0 Z0 A_a1 O0 SS (by first | decide | omega) (by first | decide | omega)) e0 rfl rfl pd_4 rfl d_jdk_52_83_2 (by rw [hml]; rfl) rfl (by decide) (by decide) (Nat.le_of_ble_eq_true rfl) (by decide) (by decide) fun v1 T1 L1 X1 q1 => ?_
  obtain ⟨rfl, e1, rfl⟩ := q1
  replace X1 := own_px X1
  refine k_none K ?_
  refine m_aloadN K X1.here hx hby d_jdk_52_83_5 rfl rfl rfl ?_
  refine m_iloadN K X1.here hx hby d_jdk_52_83_6 rfl rfl ?_
  refine k_callS K X1 hx hby hZ [(.ref a1), (.int (0 : Int32))] [] hown (W hw 90 rfl) (W hw 91 rfl) (W hw 43 rfl) (W hw 92 rfl) (cgc4_0 l Z a0 hw a1 cz vf y0 y1 y2 y3 y4 y5 y6 y7 h0 n0 Z0 A_a1 O0 SS) e1 rfl rfl pd_5 rfl d_jdk_52_83_7 (by rw [hml]; rfl) rfl (by decide) (by decide) (Nat.le_of_ble_eq_true rfl) (by decide) (by decide) fun v2 T2 L2 X2 q2 => ?_
  obtain ⟨rfl, e2, rfl⟩ := q2
  replace X2 := own_px X2
  refine k_some K (w := (.int (GCH y0 y1))) ?_
  exact Go.retN X2 hx hby hlk hret (by simp) d_jdk_52_83_10 (by decide) (by decide) (own_nc _) (⟨rfl, e2, rfl⟩)
theorem efcu4_0 (m : MethodId) (x0 : Addr) (x1 : Int32) : entryFrame m #[(.ref x0), (.int x1)] 2 = mkF m 0 #[.val (.ref x0), .val (.int x1)] [] := by first | (simp [entryFrame, mkF, argsToLocals, Value.category]; done) | rfl
set_option maxRecDepth 65536 in
set_option maxHeartbeats 40000000 in
theorem ccu4_0 (l : Launch) (Z : State) (a0 : Array Value) (hw : ∀ d ∈ tables_1, d.before a0 Z = true) (a1 : Addr) (cz : Int32) (vf : Value) (a2 : Addr) (y0 : Int32) (y1 : Int32) (y2 : Int32) (y3 : Int32) (y4 : Int32) (y5 : Int32) (y6 : Int32) (y7 : Int32) (h0 : Heap) (n0 : Nat) (Z0 : n0 ≤ h0.size) (E_a1 : Exa Z h0 a1 "java/lang/String") (F_value_a1 : Fld Z h0 a1 "java/lang/String" "value" "[B" (.ref a2)) (F_coder_a1 : Fld Z h0 a1 "java/lang/String" "coder" "B" (.int (1 : Int32))) (A_a2 : Av Z h0 a2 .byte [(.int y0), (.int y1), (.int y2), (.int y3), (.int y4), (.int y5), (.int y6), (.int y7)]) (O0 : Old Z n0 h0) (SS : SSt Z cz vf) :
    Con l Z (⟨"java/lang/String", "charAt", "(I)C"⟩ : MethodName) jdk_42_method_56_code 2 (some .char) ({ frames := 4, cells := 0, slots := 0, locals := 53 } : Room) [] #[(.ref a1), (.int (0 : Int32))] h0 (fun v h L => v = some (.int (GCH y0 y1)) ∧ h = h0 ∧ L = []) := by
  refine Con.of (plainFor_of_name pn_java_lang_String) #[.val (.ref a1), .val (.int (0 : Int32))] (fun m => efcu4_0 m a1 (0 : Int32)) ?_
  intro p e s m below meth c s₁ K hx hby hml hown hnm hret hlk hZ X0 e0
  have N0 := Fr.nil n0
  refine m_aloadN K X0.here hx hby d_jdk_42_56_0 rfl rfl rfl ?_
  refine k_callV K X0 hx hby hZ a1 [] [] hown (W hw 56 rfl) (W hw 57 rfl) (notFace_of_selects (args := #[]) (mvT hZ (W hw 59 rfl))) (W hw 59 rfl) (W hw 58 rfl) (W hw 7 rfl) (W hw 60 rfl) (cil1 l Z a0 hw a1 cz vf h0 n0 Z0 F_coder_a1 O0 SS) e0 E_a1 rfl rfl pd_6 rfl d_jdk_42_56_1 (by rw [hml]; rfl) rfl (by decide) (by decide) (Nat.le_of_ble_eq_true rfl) (by decide) (by decide) fun v1 T1 L1 X1 q1 => ?_
  obtain ⟨rfl, e1, rfl⟩ := q1
  replace X1 := own_px X1
  refine k_some K (w := (.int (0 : Int32))) ?_
  refine m_ifY K X1.here hx hby (q := 16) d_jdk_42_56_4 ((if0 _ _).trans (teq (by decide : (0 : Int32) = (0 : Int32))).1) (by decide) rfl ?_
  refine m_aloadN K X1.here hx hby d_jdk_42_56_16 rfl rfl rfl ?_
  refine k_getF K X1 hx hby hZ hown (host := "") (Or.inl (W hw 24 rfl)) Via.refl e1 F_value_a1 d_jdk_42_56_17 rfl fun T2 X2 e2 => ?_
  refine m_iloadN K X2.here hx hby d_jdk_42_56_20 rfl rfl ?_
  refine k_callS K X2 hx hby hZ [(.ref a2), (.int (0 : Int32))] [] hown (W hw 93 rfl) (W hw 94 rfl) (W hw 43 rfl) (W hw 95 rfl) (cuc4_0 l Z a0 hw a2 cz vf y0 y1 y2 y3 y4 y5 y6 y7 h0 n0 Z0 A_a2 O0 SS) e2 rfl rfl pd_5 rfl d_jdk_42_56_21 (by rw [hml]; rfl) rfl (by decide) (by decide) (Nat.le_of_ble_eq_true rfl) (by decide) (by decide) fun v3 T3 L3 X3 q3 => ?_
  obtain ⟨rfl, e3, rfl⟩ := q3
  replace X3 := own_px X3
  refine k_some K (w := (.int (GCH y0 y1))) ?_
  exact Go.retN X3 hx hby hlk hret (by simp) d_jdk_42_56_24 (by decide) (by decide) (own_nc _) (⟨rfl, e3, rfl⟩)
def wpc4_1_1 (p3 : Int32) : Int32 := ((p3 >>> ((0 : Int32) &&& 31)).toInt8.toInt32)
def wpc4_1_2 (p3 : Int32) : Int32 := ((p3 >>> ((8 : Int32) &&& 31)).toInt8.toInt32)
theorem efpc4_1 (m : MethodId) (x0 : Addr) (x1 : Int32) (x2 : Int32) : entryFrame m #[(.ref x0), (.int x1), (.int x2)] 3 = mkF m 0 #[.val (.ref x0), .val (.int x1), .val (.int x2)] [] := by first | (simp [entryFrame, mkF, argsToLocals, Value.category]; done) | rfl
set_option maxRecDepth 65536 in
set_option maxHeartbeats 40000000 in
theorem cpc4_1 (l : Launch) (Z : State) (a0 : Array Value) (hw : ∀ d ∈ tables_1, d.before a0 Z = true) (a1 : Addr) (p3 : Int32) (cz : Int32) (vf : Value) (y0 : Int32) (y1 : Int32) (y2 : Int32) (y3 : Int32) (y4 : Int32) (y5 : Int32) (y6 : Int32) (y7 : Int32) (h0 : Heap) (n0 : Nat) (Z0 : n0 ≤ h0.size) (A_a1 : Av Z h0 a1 .byte [(.int y0), (.int y1), (.int y2), (.int y3), (.int y4), (.int y5), (.int y6), (.int y7)]) (O0 : Old Z n0 h0) (g_a1 : n0 ≤ a1) (SS : SSt Z cz vf) :
    Con l Z (⟨"java/lang/StringUTF16", "putChar", "([BII)V"⟩ : MethodName) jdk_52_method_4_code 3 none ({ frames := 0, cells := 0, slots := 0, locals := 0 } : Room) [] #[(.ref a1), (.int (1 : Int32)), (.int p3)] h0 (fun v h L => v = none ∧ Fr n0 L ∧ Keep h0 h [a1] ∧ Av Z h a1 .byte [(.int y0), (.int y1), (.int (BLO p3)), (.int (BHI p3)), (.int y4), (.int y5), (.int y6), (.int y7)]) := by
  refine Con.of (plainFor_of_name pn_java_lang_StringUTF16) #[.val (.ref a1), .val (.int (1 : Int32)), .val (.int p3)] (fun m => efpc4_1 m a1 (1 : Int32) p3) ?_
  intro p e s m below meth c s₁ K hx hby hml hown hnm hret hlk hZ X0 e0
  have N0 := Fr.nil n0
  refine k_getS K X0 hx hby hZ hown (host := "") (Or.inl (W hw 87 rfl)) Via.refl e0 (SS.ad.ext O0.2) d_jdk_52_4_0 rfl fun T1 X1 e1 => ?_
  refine m_ifY K X1.here hx hby (q := 28) d_jdk_52_4_3 ((if0 _ _).trans (feq (by decide : ¬ ((1 : Int32) = (0 : Int32)))).2) (by decide) rfl ?_
  refine m_iloadN K X1.here hx hby d_jdk_52_4_28 rfl rfl ?_
  refine m_iconst K X1.here hx hby (1 : Int32) d_jdk_52_4_29 rfl rfl ?_
  refine m_ishl K X1.here hx hby (2 : Int32) d_jdk_52_4_30 rfl rfl ?_
  refine m_istoreN K X1.here hx hby #[.val (.ref a1), .val (.int (2 : Int32)), .val (.int p3)] d_jdk_52_4_31 rfl rfl ?_
  refine m_aloadN K X1.here hx hby d_jdk_52_4_32 rfl rfl rfl ?_
  refine m_iloadN K X1.here hx hby d_jdk_52_4_33 rfl rfl ?_
  refine m_iinc K X1.here hx hby #[.val (.ref a1), .val (.int (3 : Int32)), .val (.int p3)] d_jdk_52_4_34 rfl rfl rfl ?_
  refine m_iloadN K X1.here hx hby d_jdk_52_4_37 rfl rfl ?_
  refine k_getS K X1 hx hby hZ hown (host := "") (Or.inl (W hw 88 rfl)) Via.refl e1 (SS.hi.ext O0.2) d_jdk_52_4_38 rfl fun T2 X2 e2 => ?_
  refine m_ishr K X2.here hx hby (p3 >>> ((0 : Int32) &&& 31)) d_jdk_52_4_41 rfl rfl ?_
  refine m_i2b K X2.here hx hby (wpc4_1_1 p3) d_jdk_52_4_42 rfl rfl ?_
  refine k_stB K X2 hx hby hZ e2 A_a1 (by decide) (Nat.le_of_ble_eq_true rfl) d_jdk_52_4_43 rfl fun T3 h3 X3 e3 W3 V3 => ?_
  replace V3 : Av Z h3 a1 .byte [(.int y0), (.int y1), (.int (nar .byte (wpc4_1_1 p3))), (.int y3), (.int y4), (.int y5), (.int y6), (.int y7)] := V3
  have N3 := Fr.snoc X3 N0 g_a1
  refine m_aloadN K X3.here hx hby d_jdk_52_4_44 rfl rfl rfl ?_
  refine m_iloadN K X3.here hx hby d_jdk_52_4_45 rfl rfl ?_
  refine m_iloadN K X3.here hx hby d_jdk_52_4_46 rfl rfl ?_
  refine k_getS K X3 hx hby hZ hown (host := "") (Or.inl (W hw 89 rfl)) Via.refl e3 (SS.lo.ext (O0.wr W3 g_a1).2) d_jdk_52_4_47 rfl fun T4 X4 e4 => ?_
  refine m_ishr K X4.here hx hby (p3 >>> ((8 : Int32) &&& 31)) d_jdk_52_4_50 rfl rfl ?_
  refine m_i2b K X4.here hx hby (wpc4_1_2 p3) d_jdk_52_4_51 rfl rfl ?_
  refine k_stB K X4 hx hby hZ e4 V3 (by decide) (Nat.le_of_ble_eq_true rfl) d_jdk_52_4_52 rfl fun T5 h5 X5 e5 W5 V5 => ?_
  replace V5 : Av Z h5 a1 .byte [(.int y0), (.int y1), (.int (nar .byte (wpc4_1_1 p3))), (.int (nar .byte (wpc4_1_2 p3))), (.int y4), (.int y5), (.int y6), (.int y7)] := V5
  have N5 := Fr.snoc X5 N3 g_a1
  exact Go.retV X5 hx hby hlk hret d_jdk_52_4_53 (by decide) (by decide) (by rw [e5]; exact ⟨rfl, N5, (((Keep.refl h0 [a1]).wr W3 (Or.inl (by simp))).wr W5 (Or.inl (by simp))), V5⟩)
def wgc4_1_1 (y2 : Int32) : Int32 := ((y2 &&& (255 : Int32)) <<< ((0 : Int32) &&& 31))
def wgc4_1_2 (y3 : Int32) : Int32 := ((y3 &&& (255 : Int32)) <<< ((8 : Int32) &&& 31))
def wgc4_1_3 (y2 : Int32) (y3 : Int32) : Int32 := (((wgc4_1_1 y2) ||| (wgc4_1_2 y3)).toUInt32.toUInt16.toUInt32.toInt32)
theorem efgc4_1 (m : MethodId) (x0 : Addr) (x1 : Int32) : entryFrame m #[(.ref x0), (.int x1)] 2 = mkF m 0 #[.val (.ref x0), .val (.int x1)] [] := by first | (simp [entryFrame, mkF, argsToLocals, Value.category]; done) | rfl
set_option maxRecDepth 65536 in
set_option maxHeartbeats 40000000 in
theorem cgc4_1 (l : Launch) (Z : State) (a0 : Array Value) (hw : ∀ d ∈ tables_1, d.before a0 Z = true) (a1 : Addr) (cz : Int32) (vf : Value) (y0 : Int32) (y1 : Int32) (y2 : Int32) (y3 : Int32) (y4 : Int32) (y5 : Int32) (y6 : Int32) (y7 : Int32) (h0 : Heap) (n0 : Nat) (Z0 : n0 ≤ h0.size) (A_a1 : Av Z h0 a1 .byte [(.int y0), (.int y1), (.int y2), (.int y3), (.int y4), (.int y5), (.int y6), (.int y7)]) (O0 : Old Z n0 h0) (SS : SSt Z cz vf) :
    Con l Z (⟨"java/lang/StringUTF16", "getChar", "([BI)C"⟩ : MethodName) jdk_52_method_5_code 2 (some .char) ({ frames := 0, cells := 0, slots := 0, locals := 0 } : Room) [] #[(.ref a1), (.int (1 : Int32))] h0 (fun v h L => v = some (.int (GCH y2 y3)) ∧ h = h0 ∧ L = []) := by
  refine Con.of (plainFor_of_name pn_java_lang_StringUTF16) #[.val (.ref a1), .val (.int (1 : Int32))] (fun m => efgc4_1 m a1 (1 : Int32)) ?_
  intro p e s m below meth c s₁ K hx hby hml hown hnm hret hlk hZ X0 e0
  have N0 := Fr.nil n0
  refine k_getS K X0 hx hby hZ hown (host := "") (Or.inl (W hw 87 rfl)) Via.refl e0 (SS.ad.ext O0.2) d_jdk_52_5_0 rfl fun T1 X1 e1 => ?_
  refine m_ifY K X1.here hx hby (q := 28) d_jdk_52_5_3 ((if0 _ _).trans (feq (by decide : ¬ ((1 : Int32) = (0 : Int32)))).2) (by decide) rfl ?_
  refine m_iloadN K X1.here hx hby d_jdk_52_5_28 rfl rfl ?_
  refine m_iconst K X1.here hx hby (1 : Int32) d_jdk_52_5_29 rfl rfl ?_
  refine m_ishl K X1.here hx hby (2 : Int32) d_jdk_52_5_30 rfl rfl ?_
  refine m_istoreN K X1.here hx hby #[.val (.ref a1), .val (.int (2 : Int32))] d_jdk_52_5_31 rfl rfl ?_
  refine m_aloadN K X1.here hx hby d_jdk_52_5_32 rfl rfl rfl ?_
  refine m_iloadN K X1.here hx hby d_jdk_52_5_33 rfl rfl ?_
  refine m_iinc K X1.here hx hby #[.val (.ref a1), .val (.int (3 : Int32))] d_jdk_52_5_34 rfl rfl rfl ?_
  refine k_ldB K X1 hx hby hZ e1 A_a1 (v := (.int y2)) (by decide) rfl d_jdk_52_5_37 rfl ?_
  refine m_sipush K X1.here hx hby (255 : Int32) d_jdk_52_5_38 rfl rfl ?_
  refine m_iand K X1.here hx hby (y2 &&& (255 : Int32)) d_jdk_52_5_41 rfl rfl ?_
  refine k_getS K X1 hx hby hZ hown (host := "") (Or.inl (W hw 88 rfl)) Via.refl e1 (SS.hi.ext O0.2) d_jdk_52_5_42 rfl fun T2 X2 e2 => ?_
  refine m_ishl K X2.here hx hby (wgc4_1_1 y2) d_jdk_52_5_45 rfl rfl ?_
  refine m_aloadN K X2.here hx hby d_jdk_52_5_46 rfl rfl rfl ?_
  refine m_iloadN K X2.here hx hby d_jdk_52_5_47 rfl rfl ?_
  refine k_ldB K X2 hx hby hZ e2 A_a1 (v := (.int y3)) (by decide) rfl d_jdk_52_5_48 rfl ?_
  refine m_sipush K X2.here hx hby (255 : Int32) d_jdk_52_5_49 rfl rfl ?_
  refine m_iand K X2.here hx hby (y3 &&& (255 : Int32)) d_jdk_52_5_52 rfl rfl ?_
  refine k_getS K X2 hx hby hZ hown (host := "") (Or.inl (W hw 89 rfl)) Via.refl e2 (SS.lo.ext O0.2) d_jdk_52_5_53 rfl fun T3 X3 e3 => ?_
  refine m_ishl K X3.here hx hby (wgc4_1_2 y3) d_jdk_52_5_56 rfl rfl ?_
  refine m_ior K X3.here hx hby ((wgc4_1_1 y2) ||| (wgc4_1_2 y3)) d_jdk_52_5_57 rfl rfl ?_
  refine m_i2c K X3.here hx hby (wgc4_1_3 y2 y3) d_jdk_52_5_58 rfl rfl ?_
  exact Go.retN X3 hx hby hlk hret (by simp) d_jdk_52_5_59 (by decide) (by decide) (own_nc _) (⟨rfl, e3, rfl⟩)
theorem efuc4_1 (m : MethodId) (x0 : Addr) (x1 : Int32) : entryFrame m #[(.ref x0), (.int x1)] 2 = mkF m 0 #[.val (.ref x0), .val (.int x1)] [] := by first | (simp [entryFrame, mkF, argsToLocals, Value.category]; done) | rfl
set_option maxRecDepth 65536 in
set_option maxHeartbeats 40000000 in
theorem cuc4_1 (l : Launch) (Z : State) (a0 : Array Value) (hw : ∀ d ∈ tables_1, d.before a0 Z = true) (a1 : Addr) (cz : Int32) (vf : Value) (y0 : Int32) (y1 : Int32) (y2 : Int32) (y3 : Int32) (y4 : Int32) (y5 : Int32) (y6 : Int32) (y7 : Int32) (h0 : Heap) (n0 : Nat) (Z0 : n0 ≤ h0.size) (A_a1 : Av Z h0 a1 .byte [(.int y0), (.int y1), (.int y2), (.int y3), (.int y4), (.int y5), (.int y6), (.int y7)]) (O0 : Old Z n0 h0) (SS : SSt Z cz vf) :
    Con l Z (⟨"java/lang/StringUTF16", "charAt", "([BI)C"⟩ : MethodName) jdk_52_method_83_code 2 (some .char) ({ frames := 3, cells := 0, slots := 0, locals := 40 } : Room) [] #[(.ref a1), (.int (1 : Int32))] h0 (fun v h L => v = some (.int (GCH y2 y3)) ∧ h = h0 ∧ L = []) := by
  refine Con.of (plainFor_of_name pn_java_lang_StringUTF16) #[.val (.ref a1), .val (.int (1 : Int32))] (fun m => efuc4_1 m a1 (1 : Int32)) ?_
  intro p e s m below meth c s₁ K hx hby hml hown hnm hret hlk hZ X0 e0
  have N0 := Fr.nil n0
  refine m_iloadN K X0.here hx hby d_jdk_52_83_0 rfl rfl ?_
  refine m_aloadN K X0.here hx hby d_jdk_52_83_1 rfl rfl rfl ?_
  refine k_callS K X0 hx hby hZ [(.int (1 : Int32)), (.ref a1)] [] hown (W hw 96 rfl) (W hw 97 rfl) (W hw 43 rfl) (W hw 98 rfl) (cuk4 l Z a0 hw (1 : Int32) a1 cz vf y0 y1 y2 y3 y4 y5 y6 y7 h0 n0 Z0 A_a1 O0 SS (by first | decide | omega) (by first | decide | omega)) e0 rfl rfl pd_4 rfl d_jdk_52_83_2 (by rw [hml]; rfl) rfl (by decide) (by decide) (Nat.le_of_ble_eq_true rfl) (by decide) (by decide) fun v1 T1 L1 X1 q1 => ?_
  obtain ⟨rfl, e1, rfl⟩ := q1
  replace X1 := own_px X1
  refine k_none K ?_
  refine m_aloadN K X1.here hx hby d_jdk_52_83_5 rfl rfl rfl ?_
  refine m_iloadN K X1.here hx hby d_jdk_52_83_6 rfl rfl ?_
  refine k_callS K X1 hx hby hZ [(.ref a1), (.int (1 : Int32))] [] hown (W hw 90 rfl) (W hw 91 rfl) (W hw 43 rfl) (W hw 92 rfl) (cgc4_1 l Z a0 hw a1 cz vf y0 y1 y2 y3 y4 y5 y6 y7 h0 n0 Z0 A_a1 O0 SS) e1 rfl rfl pd_5 rfl d_jdk_52_83_7 (by rw [hml]; rfl) rfl (by decide) (by decide) (Nat.le_of_ble_eq_true rfl) (by decide) (by decide) fun v2 T2 L2 X2 q2 => ?_
  obtain ⟨rfl, e2, rfl⟩ := q2
  replace X2 := own_px X2
  refine k_some K (w := (.int (GCH y2 y3))) ?_
  exact Go.retN X2 hx hby hlk hret (by simp) d_jdk_52_83_10 (by decide) (by decide) (own_nc _) (⟨rfl, e2, rfl⟩)
theorem efcu4_1 (m : MethodId) (x0 : Addr) (x1 : Int32) : entryFrame m #[(.ref x0), (.int x1)] 2 = mkF m 0 #[.val (.ref x0), .val (.int x1)] [] := by first | (simp [entryFrame, mkF, argsToLocals, Value.category]; done) | rfl
set_option maxRecDepth 65536 in
set_option maxHeartbeats 40000000 in
theorem ccu4_1 (l : Launch) (Z : State) (a0 : Array Value) (hw : ∀ d ∈ tables_1, d.before a0 Z = true) (a1 : Addr) (cz : Int32) (vf : Value) (a2 : Addr) (y0 : Int32) (y1 : Int32) (y2 : Int32) (y3 : Int32) (y4 : Int32) (y5 : Int32) (y6 : Int32) (y7 : Int32) (h0 : Heap) (n0 : Nat) (Z0 : n0 ≤ h0.size) (E_a1 : Exa Z h0 a1 "java/lang/String") (F_value_a1 : Fld Z h0 a1 "java/lang/String" "value" "[B" (.ref a2)) (F_coder_a1 : Fld Z h0 a1 "java/lang/String" "coder" "B" (.int (1 : Int32))) (A_a2 : Av Z h0 a2 .byte [(.int y0), (.int y1), (.int y2), (.int y3), (.int y4), (.int y5), (.int y6), (.int y7)]) (O0 : Old Z n0 h0) (SS : SSt Z cz vf) :
    Con l Z (⟨"java/lang/String", "charAt", "(I)C"⟩ : MethodName) jdk_42_method_56_code 2 (some .char) ({ frames := 4, cells := 0, slots := 0, locals := 53 } : Room) [] #[(.ref a1), (.int (1 : Int32))] h0 (fun v h L => v = some (.int (GCH y2 y3)) ∧ h = h0 ∧ L = []) := by
  refine Con.of (plainFor_of_name pn_java_lang_String) #[.val (.ref a1), .val (.int (1 : Int32))] (fun m => efcu4_1 m a1 (1 : Int32)) ?_
  intro p e s m below meth c s₁ K hx hby hml hown hnm hret hlk hZ X0 e0
  have N0 := Fr.nil n0
  refine m_aloadN K X0.here hx hby d_jdk_42_56_0 rfl rfl rfl ?_
  refine k_callV K X0 hx hby hZ a1 [] [] hown (W hw 56 rfl) (W hw 57 rfl) (notFace_of_selects (args := #[]) (mvT hZ (W hw 59 rfl))) (W hw 59 rfl) (W hw 58 rfl) (W hw 7 rfl) (W hw 60 rfl) (cil1 l Z a0 hw a1 cz vf h0 n0 Z0 F_coder_a1 O0 SS) e0 E_a1 rfl rfl pd_6 rfl d_jdk_42_56_1 (by rw [hml]; rfl) rfl (by decide) (by decide) (Nat.le_of_ble_eq_true rfl) (by decide) (by decide) fun v1 T1 L1 X1 q1 => ?_
  obtain ⟨rfl, e1, rfl⟩ := q1
  replace X1 := own_px X1
  refine k_some K (w := (.int (0 : Int32))) ?_
  refine m_ifY K X1.here hx hby (q := 16) d_jdk_42_56_4 ((if0 _ _).trans (teq (by decide : (0 : Int32) = (0 : Int32))).1) (by decide) rfl ?_
  refine m_aloadN K X1.here hx hby d_jdk_42_56_16 rfl rfl rfl ?_
  refine k_getF K X1 hx hby hZ hown (host := "") (Or.inl (W hw 24 rfl)) Via.refl e1 F_value_a1 d_jdk_42_56_17 rfl fun T2 X2 e2 => ?_
  refine m_iloadN K X2.here hx hby d_jdk_42_56_20 rfl rfl ?_
  refine k_callS K X2 hx hby hZ [(.ref a2), (.int (1 : Int32))] [] hown (W hw 93 rfl) (W hw 94 rfl) (W hw 43 rfl) (W hw 95 rfl) (cuc4_1 l Z a0 hw a2 cz vf y0 y1 y2 y3 y4 y5 y6 y7 h0 n0 Z0 A_a2 O0 SS) e2 rfl rfl pd_5 rfl d_jdk_42_56_21 (by rw [hml]; rfl) rfl (by decide) (by decide) (Nat.le_of_ble_eq_true rfl) (by decide) (by decide) fun v3 T3 L3 X3 q3 => ?_
  obtain ⟨rfl, e3, rfl⟩ := q3
  replace X3 := own_px X3
  refine k_some K (w := (.int (GCH y2 y3))) ?_
  exact Go.retN X3 hx hby hlk hret (by simp) d_jdk_42_56_24 (by decide) (by decide) (own_nc _) (⟨rfl, e3, rfl⟩)
def wpc4_2_1 (p3 : Int32) : Int32 := ((p3 >>> ((0 : Int32) &&& 31)).toInt8.toInt32)
def wpc4_2_2 (p3 : Int32) : Int32 := ((p3 >>> ((8 : Int32) &&& 31)).toInt8.toInt32)
theorem efpc4_2 (m : MethodId) (x0 : Addr) (x1 : Int32) (x2 : Int32) : entryFrame m #[(.ref x0), (.int x1), (.int x2)] 3 = mkF m 0 #[.val (.ref x0), .val (.int x1), .val (.int x2)] [] := by first | (simp [entryFrame, mkF, argsToLocals, Value.category]; done) | rfl
set_option maxRecDepth 65536 in
set_option maxHeartbeats 40000000 in
theorem cpc4_2 (l : Launch) (Z : State) (a0 : Array Value) (hw : ∀ d ∈ tables_1, d.before a0 Z = true) (a1 : Addr) (p3 : Int32) (cz : Int32) (vf : Value) (y0 : Int32) (y1 : Int32) (y2 : Int32) (y3 : Int32) (y4 : Int32) (y5 : Int32) (y6 : Int32) (y7 : Int32) (h0 : Heap) (n0 : Nat) (Z0 : n0 ≤ h0.size) (A_a1 : Av Z h0 a1 .byte [(.int y0), (.int y1), (.int y2), (.int y3), (.int y4), (.int y5), (.int y6), (.int y7)]) (O0 : Old Z n0 h0) (g_a1 : n0 ≤ a1) (SS : SSt Z cz vf) :
    Con l Z (⟨"java/lang/StringUTF16", "putChar", "([BII)V"⟩ : MethodName) jdk_52_method_4_code 3 none ({ frames := 0, cells := 0, slots := 0, locals := 0 } : Room) [] #[(.ref a1), (.int (2 : Int32)), (.int p3)] h0 (fun v h L => v = none ∧ Fr n0 L ∧ Keep h0 h [a1] ∧ Av Z h a1 .byte [(.int y0), (.int y1), (.int y2), (.int y3), (.int (BLO p3)), (.int (BHI p3)), (.int y6), (.int y7)]) := by
  refine Con.of (plainFor_of_name pn_java_lang_StringUTF16) #[.val (.ref a1), .val (.int (2 : Int32)), .val (.int p3)] (fun m => efpc4_2 m a1 (2 : Int32) p3) ?_
  intro p e s m below meth c s₁ K hx hby hml hown hnm hret hlk hZ X0 e0
  have N0 := Fr.nil n0
  refine k_getS K X0 hx hby hZ hown (host := "") (Or.inl (W hw 87 rfl)) Via.refl e0 (SS.ad.ext O0.2) d_jdk_52_4_0 rfl fun T1 X1 e1 => ?_
  refine m_ifY K X1.here hx hby (q := 28) d_jdk_52_4_3 ((if0 _ _).trans (feq (by decide : ¬ ((1 : Int32) = (0 : Int32)))).2) (by decide) rfl ?_
  refine m_iloadN K X1.here hx hby d_jdk_52_4_28 rfl rfl ?_
  refine m_iconst K X1.here hx hby (1 : Int32) d_jdk_52_4_29 rfl rfl ?_
  refine m_ishl K X1.here hx hby (4 : Int32) d_jdk_52_4_30 rfl rfl ?_
  refine m_istoreN K X1.here hx hby #[.val (.ref a1), .val (.int (4 : Int32)), .val (.int p3)] d_jdk_52_4_31 rfl rfl ?_
  refine m_aloadN K X1.here hx hby d_jdk_52_4_32 rfl rfl rfl ?_
  refine m_iloadN K X1.here hx hby d_jdk_52_4_33 rfl rfl ?_
  refine m_iinc K X1.here hx hby #[.val (.ref a1), .val (.int (5 : Int32)), .val (.int p3)] d_jdk_52_4_34 rfl rfl rfl ?_
  refine m_iloadN K X1.here hx hby d_jdk_52_4_37 rfl rfl ?_
  refine k_getS K X1 hx hby hZ hown (host := "") (Or.inl (W hw 88 rfl)) Via.refl e1 (SS.hi.ext O0.2) d_jdk_52_4_38 rfl fun T2 X2 e2 => ?_
  refine m_ishr K X2.here hx hby (p3 >>> ((0 : Int32) &&& 31)) d_jdk_52_4_41 rfl rfl ?_
  refine m_i2b K X2.here hx hby (wpc4_2_1 p3) d_jdk_52_4_42 rfl rfl ?_
  refine k_stB K X2 hx hby hZ e2 A_a1 (by decide) (Nat.le_of_ble_eq_true rfl) d_jdk_52_4_43 rfl fun T3 h3 X3 e3 W3 V3 => ?_
  replace V3 : Av Z h3 a1 .byte [(.int y0), (.int y1), (.int y2), (.int y3), (.int (nar .byte (wpc4_2_1 p3))), (.int y5), (.int y6), (.int y7)] := V3
  have N3 := Fr.snoc X3 N0 g_a1
  refine m_aloadN K X3.here hx hby d_jdk_52_4_44 rfl rfl rfl ?_
  refine m_iloadN K X3.here hx hby d_jdk_52_4_45 rfl rfl ?_
  refine m_iloadN K X3.here hx hby d_jdk_52_4_46 rfl rfl ?_
  refine k_getS K X3 hx hby hZ hown (host := "") (Or.inl (W hw 89 rfl)) Via.refl e3 (SS.lo.ext (O0.wr W3 g_a1).2) d_jdk_52_4_47 rfl fun T4 X4 e4 => ?_
  refine m_ishr K X4.here hx hby (p3 >>> ((8 : Int32) &&& 31)) d_jdk_52_4_50 rfl rfl ?_
  refine m_i2b K X4.here hx hby (wpc4_2_2 p3) d_jdk_52_4_51 rfl rfl ?_
  refine k_stB K X4 hx hby hZ e4 V3 (by decide) (Nat.le_of_ble_eq_true rfl) d_jdk_52_4_52 rfl fun T5 h5 X5 e5 W5 V5 => ?_
  replace V5 : Av Z h5 a1 .byte [(.int y0), (.int y1), (.int y2), (.int y3), (.int (nar .byte (wpc4_2_1 p3))), (.int (nar .byte (wpc4_2_2 p3))), (.int y6), (.int y7)] := V5
  have N5 := Fr.snoc X5 N3 g_a1
  exact Go.retV X5 hx hby hlk hret d_jdk_52_4_53 (by decide) (by decide) (by rw [e5]; exact ⟨rfl, N5, (((Keep.refl h0 [a1]).wr W3 (Or.inl (by simp))).wr W5 (Or.inl (by simp))), V5⟩)
def wgc4_2_1 (y4 : Int32) : Int32 := ((y4 &&& (255 : Int32)) <<< ((0 : Int32) &&& 31))
def wgc4_2_2 (y5 : Int32) : Int32 := ((y5 &&& (255 : Int32)) <<< ((8 : Int32) &&& 31))
def wgc4_2_3 (y4 : Int32) (y5 : Int32) : Int32 := (((wgc4_2_1 y4) ||| (wgc4_2_2 y5)).toUInt32.toUInt16.toUInt32.toInt32)
theorem efgc4_2 (m : MethodId) (x0 : Addr) (x1 : Int32) : entryFrame m #[(.ref x0), (.int x1)] 2 = mkF m 0 #[.val (.ref x0), .val (.int x1)] [] := by first | (simp [entryFrame, mkF, argsToLocals, Value.category]; done) | rfl
set_option maxRecDepth 65536 in
set_option maxHeartbeats 40000000 in
theorem cgc4_2 (l : Launch) (Z : State) (a0 : Array Value) (hw : ∀ d ∈ tables_1, d.before a0 Z = true) (a1 : Addr) (cz : Int32) (vf : Value) (y0 : Int32) (y1 : Int32) (y2 : Int32) (y3 : Int32) (y4 : Int32) (y5 : Int32) (y6 : Int32) (y7 : Int32) (h0 : Heap) (n0 : Nat) (Z0 : n0 ≤ h0.size) (A_a1 : Av Z h0 a1 .byte [(.int y0), (.int y1), (.int y2), (.int y3), (.int y4), (.int y5), (.int y6), (.int y7)]) (O0 : Old Z n0 h0) (SS : SSt Z cz vf) :
    Con l Z (⟨"java/lang/StringUTF16", "getChar", "([BI)C"⟩ : MethodName) jdk_52_method_5_code 2 (some .char) ({ frames := 0, cells := 0, slots := 0, locals := 0 } : Room) [] #[(.ref a1), (.int (2 : Int32))] h0 (fun v h L => v = some (.int (GCH y4 y5)) ∧ h = h0 ∧ L = []) := by
  refine Con.of (plainFor_of_name pn_java_lang_StringUTF16) #[.val (.ref a1), .val (.int (2 : Int32))] (fun m => efgc4_2 m a1 (2 : Int32)) ?_
  intro p e s m below meth c s₁ K hx hby hml hown hnm hret hlk hZ X0 e0
  have N0 := Fr.nil n0
  refine k_getS K X0 hx hby hZ hown (host := "") (Or.inl (W hw 87 rfl)) Via.refl e0 (SS.ad.ext O0.2) d_jdk_52_5_0 rfl fun T1 X1 e1 => ?_
  refine m_ifY K X1.here hx hby (q := 28) d_jdk_52_5_3 ((if0 _ _).trans (feq (by decide : ¬ ((1 : Int32) = (0 : Int32)))).2) (by decide) rfl ?_
  refine m_iloadN K X1.here hx hby d_jdk_52_5_28 rfl rfl ?_
  refine m_iconst K X1.here hx hby (1 : Int32) d_jdk_52_5_29 rfl rfl ?_
  refine m_ishl K X1.here hx hby (4 : Int32) d_jdk_52_5_30 rfl rfl ?_
  refine m_istoreN K X1.here hx hby #[.val (.ref a1), .val (.int (4 : Int32))] d_jdk_52_5_31 rfl rfl ?_
  refine m_aloadN K X1.here hx hby d_jdk_52_5_32 rfl rfl rfl ?_
  refine m_iloadN K X1.here hx hby d_jdk_52_5_33 rfl rfl ?_
  refine m_iinc K X1.here hx hby #[.val (.ref a1), .val (.int (5 : Int32))] d_jdk_52_5_34 rfl rfl rfl ?_
  refine k_ldB K X1 hx hby hZ e1 A_a1 (v := (.int y4)) (by decide) rfl d_jdk_52_5_37 rfl ?_
  refine m_sipush K X1.here hx hby (255 : Int32) d_jdk_52_5_38 rfl rfl ?_
  refine m_iand K X1.here hx hby (y4 &&& (255 : Int32)) d_jdk_52_5_41 rfl rfl ?_
  refine k_getS K X1 hx hby hZ hown (host := "") (Or.inl (W hw 88 rfl)) Via.refl e1 (SS.hi.ext O0.2) d_jdk_52_5_42 rfl fun T2 X2 e2 => ?_
  refine m_ishl K X2.here hx hby (wgc4_2_1 y4) d_jdk_52_5_45 rfl rfl ?_
  refine m_aloadN K X2.here hx hby d_jdk_52_5_46 rfl rfl rfl ?_
  refine m_iloadN K X2.here hx hby d_jdk_52_5_47 rfl rfl ?_
  refine k_ldB K X2 hx hby hZ e2 A_a1 (v := (.int y5)) (by decide) rfl d_jdk_52_5_48 rfl ?_
  refine m_sipush K X2.here hx hby (255 : Int32) d_jdk_52_5_49 rfl rfl ?_
  refine m_iand K X2.here hx hby (y5 &&& (255 : Int32)) d_jdk_52_5_52 rfl rfl ?_
  refine k_getS K X2 hx hby hZ hown (host := "") (Or.inl (W hw 89 rfl)) Via.refl e2 (SS.lo.ext O0.2) d_jdk_52_5_53 rfl fun T3 X3 e3 => ?_
  refine m_ishl K X3.here hx hby (wgc4_2_2 y5) d_jdk_52_5_56 rfl rfl ?_
  refine m_ior K X3.here hx hby ((wgc4_2_1 y4) ||| (wgc4_2_2 y5)) d_jdk_52_5_57 rfl rfl ?_
  refine m_i2c K X3.here hx hby (wgc4_2_3 y4 y5) d_jdk_52_5_58 rfl rfl ?_
  exact Go.retN X3 hx hby hlk hret (by simp) d_jdk_52_5_59 (by decide) (by decide) (own_nc _) (⟨rfl, e3, rfl⟩)
theorem efuc4_2 (m : MethodId) (x0 : Addr) (x1 : Int32) : entryFrame m #[(.ref x0), (.int x1)] 2 = mkF m 0 #[.val (.ref x0), .val (.int x1)] [] := by first | (simp [entryFrame, mkF, argsToLocals, Value.category]; done) | rfl
set_option maxRecDepth 65536 in
set_option maxHeartbeats 40000000 in
theorem cuc4_2 (l : Launch) (Z : State) (a0 : Array Value) (hw : ∀ d ∈ tables_1, d.before a0 Z = true) (a1 : Addr) (cz : Int32) (vf : Value) (y0 : Int32) (y1 : Int32) (y2 : Int32) (y3 : Int32) (y4 : Int32) (y5 : Int32) (y6 : Int32) (y7 : Int32) (h0 : Heap) (n0 : Nat) (Z0 : n0 ≤ h0.size) (A_a1 : Av Z h0 a1 .byte [(.int y0), (.int y1), (.int y2), (.int y3), (.int y4), (.int y5), (.int y6), (.int y7)]) (O0 : Old Z n0 h0) (SS : SSt Z cz vf) :
    Con l Z (⟨"java/lang/StringUTF16", "charAt", "([BI)C"⟩ : MethodName) jdk_52_method_83_code 2 (some .char) ({ frames := 3, cells := 0, slots := 0, locals := 40 } : Room) [] #[(.ref a1), (.int (2 : Int32))] h0 (fun v h L => v = some (.int (GCH y4 y5)) ∧ h = h0 ∧ L = []) := by
  refine Con.of (plainFor_of_name pn_java_lang_StringUTF16) #[.val (.ref a1), .val (.int (2 : Int32))] (fun m => efuc4_2 m a1 (2 : Int32)) ?_
  intro p e s m below meth c s₁ K hx hby hml hown hnm hret hlk hZ X0 e0
  have N0 := Fr.nil n0
  refine m_iloadN K X0.here hx hby d_jdk_52_83_0 rfl rfl ?_
  refine m_aloadN K X0.here hx hby d_jdk_52_83_1 rfl rfl rfl ?_
  refine k_callS K X0 hx hby hZ [(.int (2 : Int32)), (.ref a1)] [] hown (W hw 96 rfl) (W hw 97 rfl) (W hw 43 rfl) (W hw 98 rfl) (cuk4 l Z a0 hw (2 : Int32) a1 cz vf y0 y1 y2 y3 y4 y5 y6 y7 h0 n0 Z0 A_a1 O0 SS (by first | decide | omega) (by first | decide | omega)) e0 rfl rfl pd_4 rfl d_jdk_52_83_2 (by rw [hml]; rfl) rfl (by decide) (by decide) (Nat.le_of_ble_eq_true rfl) (by decide) (by decide) fun v1 T1 L1 X1 q1 => ?_
  obtain ⟨rfl, e1, rfl⟩ := q1
  replace X1 := own_px X1
  refine k_none K ?_
  refine m_aloadN K X1.here hx hby d_jdk_52_83_5 rfl rfl rfl ?_
  refine m_iloadN K X1.here hx hby d_jdk_52_83_6 rfl rfl ?_
  refine k_callS K X1 hx hby hZ [(.ref a1), (.int (2 : Int32))] [] hown (W hw 90 rfl) (W hw 91 rfl) (W hw 43 rfl) (W hw 92 rfl) (cgc4_2 l Z a0 hw a1 cz vf y0 y1 y2 y3 y4 y5 y6 y7 h0 n0 Z0 A_a1 O0 SS) e1 rfl rfl pd_5 rfl d_jdk_52_83_7 (by rw [hml]; rfl) rfl (by decide) (by decide) (Nat.le_of_ble_eq_true rfl) (by decide) (by decide) fun v2 T2 L2 X2 q2 => ?_
  obtain ⟨rfl, e2, rfl⟩ := q2
  replace X2 := own_px X2
  refine k_some K (w := (.int (GCH y4 y5))) ?_
  exact Go.retN X2 hx hby hlk hret (by simp) d_jdk_52_83_10 (by decide) (by decide) (own_nc _) (⟨rfl, e2, rfl⟩)
theorem efcu4_2 (m : MethodId) (x0 : Addr) (x1 : Int32) : entryFrame m #[(.ref x0), (.int x1)] 2 = mkF m 0 #[.val (.ref x0), .val (.int x1)] [] := by first | (simp [entryFrame, mkF, argsToLocals, Value.category]; done) | rfl
set_option maxRecDepth 65536 in
set_option maxHeartbeats 40000000 in
theorem ccu4_2 (l : Launch) (Z : State) (a0 : Array Value) (hw : ∀ d ∈ tables_1, d.before a0 Z = true) (a1 : Addr) (cz : Int32) (vf : Value) (a2 : Addr) (y0 : Int32) (y1 : Int32) (y2 : Int32) (y3 : Int32) (y4 : Int32) (y5 : Int32) (y6 : Int32) (y7 : Int32) (h0 : Heap) (n0 : Nat) (Z0 : n0 ≤ h0.size) (E_a1 : Exa Z h0 a1 "java/lang/String") (F_value_a1 : Fld Z h0 a1 "java/lang/String" "value" "[B" (.ref a2)) (F_coder_a1 : Fld Z h0 a1 "java/lang/String" "coder" "B" (.int (1 : Int32))) (A_a2 : Av Z h0 a2 .byte [(.int y0), (.int y1), (.int y2), (.int y3), (.int y4), (.int y5), (.int y6), (.int y7)]) (O0 : Old Z n0 h0) (SS : SSt Z cz vf) :
    Con l Z (⟨"java/lang/String", "charAt", "(I)C"⟩ : MethodName) jdk_42_method_56_code 2 (some .char) ({ frames := 4, cells := 0, slots := 0, locals := 53 } : Room) [] #[(.ref a1), (.int (2 : Int32))] h0 (fun v h L => v = some (.int (GCH y4 y5)) ∧ h = h0 ∧ L = []) := by
  refine Con.of (plainFor_of_name pn_java_lang_String) #[.val (.ref a1), .val (.int (2 : Int32))] (fun m => efcu4_2 m a1 (2 : Int32)) ?_
  intro p e s m below meth c s₁ K hx hby hml hown hnm hret hlk hZ X0 e0
  have N0 := Fr.nil n0
  refine m_aloadN K X0.here hx hby d_jdk_42_56_0 rfl rfl rfl ?_
  refine k_callV K X0 hx hby hZ a1 [] [] hown (W hw 56 rfl) (W hw 57 rfl) (notFace_of_selects (args := #[]) (mvT hZ (W hw 59 rfl))) (W hw 59 rfl) (W hw 58 rfl) (W hw 7 rfl) (W hw 60 rfl) (cil1 l Z a0 hw a1 cz vf h0 n0 Z0 F_coder_a1 O0 SS) e0 E_a1 rfl rfl pd_6 rfl d_jdk_42_56_1 (by rw [hml]; rfl) rfl (by decide) (by decide) (Nat.le_of_ble_eq_true rfl) (by decide) (by decide) fun v1 T1 L1 X1 q1 => ?_
  obtain ⟨rfl, e1, rfl⟩ := q1
  replace X1 := own_px X1
  refine k_some K (w := (.int (0 : Int32))) ?_
  refine m_ifY K X1.here hx hby (q := 16) d_jdk_42_56_4 ((if0 _ _).trans (teq (by decide : (0 : Int32) = (0 : Int32))).1) (by decide) rfl ?_
  refine m_aloadN K X1.here hx hby d_jdk_42_56_16 rfl rfl rfl ?_
  refine k_getF K X1 hx hby hZ hown (host := "") (Or.inl (W hw 24 rfl)) Via.refl e1 F_value_a1 d_jdk_42_56_17 rfl fun T2 X2 e2 => ?_
  refine m_iloadN K X2.here hx hby d_jdk_42_56_20 rfl rfl ?_
  refine k_callS K X2 hx hby hZ [(.ref a2), (.int (2 : Int32))] [] hown (W hw 93 rfl) (W hw 94 rfl) (W hw 43 rfl) (W hw 95 rfl) (cuc4_2 l Z a0 hw a2 cz vf y0 y1 y2 y3 y4 y5 y6 y7 h0 n0 Z0 A_a2 O0 SS) e2 rfl rfl pd_5 rfl d_jdk_42_56_21 (by rw [hml]; rfl) rfl (by decide) (by decide) (Nat.le_of_ble_eq_true rfl) (by decide) (by decide) fun v3 T3 L3 X3 q3 => ?_
  obtain ⟨rfl, e3, rfl⟩ := q3
  replace X3 := own_px X3
  refine k_some K (w := (.int (GCH y4 y5))) ?_
  exact Go.retN X3 hx hby hlk hret (by simp) d_jdk_42_56_24 (by decide) (by decide) (own_nc _) (⟨rfl, e3, rfl⟩)
def wpc4_3_1 (p3 : Int32) : Int32 := ((p3 >>> ((0 : Int32) &&& 31)).toInt8.toInt32)
def wpc4_3_2 (p3 : Int32) : Int32 := ((p3 >>> ((8 : Int32) &&& 31)).toInt8.toInt32)
theorem efpc4_3 (m : MethodId) (x0 : Addr) (x1 : Int32) (x2 : Int32) : entryFrame m #[(.ref x0), (.int x1), (.int x2)] 3 = mkF m 0 #[.val (.ref x0), .val (.int x1), .val (.int x2)] [] := by first | (simp [entryFrame, mkF, argsToLocals, Value.category]; done) | rfl
set_option maxRecDepth 65536 in
set_option maxHeartbeats 40000000 in
theorem cpc4_3 (l : Launch) (Z : State) (a0 : Array Value) (hw : ∀ d ∈ tables_1, d.before a0 Z = true) (a1 : Addr) (p3 : Int32) (cz : Int32) (vf : Value) (y0 : Int32) (y1 : Int32) (y2 : Int32) (y3 : Int32) (y4 : Int32) (y5 : Int32) (y6 : Int32) (y7 : Int32) (h0 : Heap) (n0 : Nat) (Z0 : n0 ≤ h0.size) (A_a1 : Av Z h0 a1 .byte [(.int y0), (.int y1), (.int y2), (.int y3), (.int y4), (.int y5), (.int y6), (.int y7)]) (O0 : Old Z n0 h0) (g_a1 : n0 ≤ a1) (SS : SSt Z cz vf) :
    Con l Z (⟨"java/lang/StringUTF16", "putChar", "([BII)V"⟩ : MethodName) jdk_52_method_4_code 3 none ({ frames := 0, cells := 0, slots := 0, locals := 0 } : Room) [] #[(.ref a1), (.int (3 : Int32)), (.int p3)] h0 (fun v h L => v = none ∧ Fr n0 L ∧ Keep h0 h [a1] ∧ Av Z h a1 .byte [(.int y0), (.int y1), (.int y2), (.int y3), (.int y4), (.int y5), (.int (BLO p3)), (.int (BHI p3))]) := by
  refine Con.of (plainFor_of_name pn_java_lang_StringUTF16) #[.val (.ref a1), .val (.int (3 : Int32)), .val (.int p3)] (fun m => efpc4_3 m a1 (3 : Int32) p3) ?_
  intro p e s m below meth c s₁ K hx hby hml hown hnm hret hlk hZ X0 e0
  have N0 := Fr.nil n0
  refine k_getS K X0 hx hby hZ hown (host := "") (Or.inl (W hw 87 rfl)) Via.refl e0 (SS.ad.ext O0.2) d_jdk_52_4_0 rfl fun T1 X1 e1 => ?_
  refine m_ifY K X1.here hx hby (q := 28) d_jdk_52_4_3 ((if0 _ _).trans (feq (by decide : ¬ ((1 : Int32) = (0 : Int32)))).2) (by decide) rfl ?_
  refine m_iloadN K X1.here hx hby d_jdk_52_4_28 rfl rfl ?_
  refine m_iconst K X1.here hx hby (1 : Int32) d_jdk_52_4_29 rfl rfl ?_
  refine m_ishl K X1.here hx hby (6 : Int32) d_jdk_52_4_30 rfl rfl ?_
  refine m_istoreN K X1.here hx hby #[.val (.ref a1), .val (.int (6 : Int32)), .val (.int p3)] d_jdk_52_4_31 rfl rfl ?_
  refine m_aloadN K X1.here hx hby d_jdk_52_4_32 rfl rfl rfl ?_
  refine m_iloadN K X1.here hx hby d_jdk_52_4_33 rfl rfl ?_
  refine m_iinc K X1.here hx hby #[.val (.ref a1), .val (.int (7 : Int32)), .val (.int p3)] d_jdk_52_4_34 rfl rfl rfl ?_
  refine m_iloadN K X1.here hx hby d_jdk_52_4_37 rfl rfl ?_
  refine k_getS K X1 hx hby hZ hown (host := "") (Or.inl (W hw 88 rfl)) Via.refl e1 (SS.hi.ext O0.2) d_jdk_52_4_38 rfl fun T2 X2 e2 => ?_
  refine m_ishr K X2.here hx hby (p3 >>> ((0 : Int32) &&& 31)) d_jdk_52_4_41 rfl rfl ?_
  refine m_i2b K X2.here hx hby (wpc4_3_1 p3) d_jdk_52_4_42 rfl rfl ?_
  refine k_stB K X2 hx hby hZ e2 A_a1 (by decide) (Nat.le_of_ble_eq_true rfl) d_jdk_52_4_43 rfl fun T3 h3 X3 e3 W3 V3 => ?_
  replace V3 : Av Z h3 a1 .byte [(.int y0), (.int y1), (.int y2), (.int y3), (.int y4), (.int y5), (.int (nar .byte (wpc4_3_1 p3))), (.int y7)] := V3
  have N3 := Fr.snoc X3 N0 g_a1
  refine m_aloadN K X3.here hx hby d_jdk_52_4_44 rfl rfl rfl ?_
  refine m_iloadN K X3.here hx hby d_jdk_52_4_45 rfl rfl ?_
  refine m_iloadN K X3.here hx hby d_jdk_52_4_46 rfl rfl ?_
  refine k_getS K X3 hx hby hZ hown (host := "") (Or.inl (W hw 89 rfl)) Via.refl e3 (SS.lo.ext (O0.wr W3 g_a1).2) d_jdk_52_4_47 rfl fun T4 X4 e4 => ?_
  refine m_ishr K X4.here hx hby (p3 >>> ((8 : Int32) &&& 31)) d_jdk_52_4_50 rfl rfl ?_
  refine m_i2b K X4.here hx hby (wpc4_3_2 p3) d_jdk_52_4_51 rfl rfl ?_
  refine k_stB K X4 hx hby hZ e4 V3 (by decide) (Nat.le_of_ble_eq_true rfl) d_jdk_52_4_52 rfl fun T5 h5 X5 e5 W5 V5 => ?_
  replace V5 : Av Z h5 a1 .byte [(.int y0), (.int y1), (.int y2), (.int y3), (.int y4), (.int y5), (.int (nar .byte (wpc4_3_1 p3))), (.int (nar .byte (wpc4_3_2 p3)))] := V5
  have N5 := Fr.snoc X5 N3 g_a1
  exact Go.retV X5 hx hby hlk hret d_jdk_52_4_53 (by decide) (by decide) (by rw [e5]; exact ⟨rfl, N5, (((Keep.refl h0 [a1]).wr W3 (Or.inl (by simp))).wr W5 (Or.inl (by simp))), V5⟩)
def wgc4_3_1 (y6 : Int32) : Int32 := ((y6 &&& (255 : Int32)) <<< ((0 : Int32) &&& 31))
def wgc4_3_2 (y7 : Int32) : Int32 := ((y7 &&& (255 : Int32)) <<< ((8 : Int32) &&& 31))
def wgc4_3_3 (y6 : Int32) (y7 : Int32) : Int32 := (((wgc4_3_1 y6) ||| (wgc4_3_2 y7)).toUInt32.toUInt16.toUInt32.toInt32)
theorem efgc4_3 (m : MethodId) (x0 : Addr) (x1 : Int32) : entryFrame m #[(.ref x0), (.int x1)] 2 = mkF m 0 #[.val (.ref x0), .val (.int x1)] [] := by first | (simp [entryFrame, mkF, argsToLocals, Value.category]; done) | rfl
set_option maxRecDepth 65536 in
set_option maxHeartbeats 40000000 in
theorem cgc4_3 (l : Launch) (Z : State) (a0 : Array Value) (hw : ∀ d ∈ tables_1, d.before a0 Z = true) (a1 : Addr) (cz : Int32) (vf : Value) (y0 : Int32) (y1 : Int32) (y2 : Int32) (y3 : Int32) (y4 : Int32) (y5 : Int32) (y6 : Int32) (y7 : Int32) (h0 : Heap) (n0 : Nat) (Z0 : n0 ≤ h0.size) (A_a1 : Av Z h0 a1 .byte [(.int y0), (.int y1), (.int y2), (.int y3), (.int y4), (.int y5), (.int y6), (.int y7)]) (O0 : Old Z n0 h0) (SS : SSt Z cz vf) :
    Con l Z (⟨"java/lang/StringUTF16", "getChar", "([BI)C"⟩ : MethodName) jdk_52_method_5_code 2 (some .char) ({ frames := 0, cells := 0, slots := 0, locals := 0 } : Room) [] #[(.ref a1), (.int (3 : Int32))] h0 (fun v h L => v = some (.int (GCH y6 y7)) ∧ h = h0 ∧ L = []) := by
  refine Con.of (plainFor_of_name pn_java_lang_StringUTF16) #[.val (.ref a1), .val (.int (3 : Int32))] (fun m => efgc4_3 m a1 (3 : Int32)) ?_
  intro p e s m below meth c s₁ K hx hby hml hown hnm hret hlk hZ X0 e0
  have N0 := Fr.nil n0
  refine k_getS K X0 hx hby hZ hown (host := "") (Or.inl (W hw 87 rfl)) Via.refl e0 (SS.ad.ext O0.2) d_jdk_52_5_0 rfl fun T1 X1 e1 => ?_
  refine m_ifY K X1.here hx hby (q := 28) d_jdk_52_5_3 ((if0 _ _).trans (feq (by decide : ¬ ((1 : Int32) = (0 : Int32)))).2) (by decide) rfl ?_
  refine m_iloadN K X1.here hx hby d_jdk_52_5_28 rfl rfl ?_
  refine m_iconst K X1.here hx hby (1 : Int32) d_jdk_52_5_29 rfl rfl ?_
  refine m_ishl K X1.here hx hby (6 : Int32) d_jdk_52_5_30 rfl rfl ?_
  refine m_istoreN K X1.here hx hby #[.val (.ref a1), .val (.int (6 : Int32))] d_jdk_52_5_31 rfl rfl ?_
  refine m_aloadN K X1.here hx hby d_jdk_52_5_32 rfl rfl rfl ?_
  refine m_iloadN K X1.here hx hby d_jdk_52_5_33 rfl rfl ?_
  refine m_iinc K X1.here hx hby #[.val (.ref a1), .val (.int (7 : Int32))] d_jdk_52_5_34 rfl rfl rfl ?_
  refine k_ldB K X1 hx hby hZ e1 A_a1 (v := (.int y6)) (by decide) rfl d_jdk_52_5_37 rfl ?_
  refine m_sipush K X1.here hx hby (255 : Int32) d_jdk_52_5_38 rfl rfl ?_
  refine m_iand K X1.here hx hby (y6 &&& (255 : Int32)) d_jdk_52_5_41 rfl rfl ?_
  refine k_getS K X1 hx hby hZ hown (host := "") (Or.inl (W hw 88 rfl)) Via.refl e1 (SS.hi.ext O0.2) d_jdk_52_5_42 rfl fun T2 X2 e2 => ?_
  refine m_ishl K X2.here hx hby (wgc4_3_1 y6) d_jdk_52_5_45 rfl rfl ?_
  refine m_aloadN K X2.here hx hby d_jdk_52_5_46 rfl rfl rfl ?_
  refine m_iloadN K X2.here hx hby d_jdk_52_5_47 rfl rfl ?_
  refine k_ldB K X2 hx hby hZ e2 A_a1 (v := (.int y7)) (by decide) rfl d_jdk_52_5_48 rfl ?_
  refine m_sipush K X2.here hx hby (255 : Int32) d_jdk_52_5_49 rfl rfl ?_
  refine m_iand K X2.here hx hby (y7 &&& (255 : Int32)) d_jdk_52_5_52 rfl rfl ?_
  refine k_getS K X2 hx hby hZ hown (host := "") (Or.inl (W hw 89 rfl)) Via.refl e2 (SS.lo.ext O0.2) d_jdk_52_5_53 rfl fun T3 X3 e3 => ?_
  refine m_ishl K X3.here hx hby (wgc4_3_2 y7) d_jdk_52_5_56 rfl rfl ?_
  refine m_ior K X3.here hx hby ((wgc4_3_1 y6) ||| (wgc4_3_2 y7)) d_jdk_52_5_57 rfl rfl ?_
  refine m_i2c K X3.here hx hby (wgc4_3_3 y6 y7) d_jdk_52_5_58 rfl rfl ?_
  exact Go.retN X3 hx hby hlk hret (by simp) d_jdk_52_5_59 (by decide) (by decide) (own_nc _) (⟨rfl, e3, rfl⟩)
theorem efuc4_3 (m : MethodId) (x0 : Addr) (x1 : Int32) : entryFrame m #[(.ref x0), (.int x1)] 2 = mkF m 0 #[.val (.ref x0), .val (.int x1)] [] := by first | (simp [entryFrame, mkF, argsToLocals, Value.category]; done) | rfl
set_option maxRecDepth 65536 in
set_option maxHeartbeats 40000000 in
theorem cuc4_3 (l : Launch) (Z : State) (a0 : Array Value) (hw : ∀ d ∈ tables_1, d.before a0 Z = true) (a1 : Addr) (cz : Int32) (vf : Value) (y0 : Int32) (y1 : Int32) (y2 : Int32) (y3 : Int32) (y4 : Int32) (y5 : Int32) (y6 : Int32) (y7 : Int32) (h0 : Heap) (n0 : Nat) (Z0 : n0 ≤ h0.size) (A_a1 : Av Z h0 a1 .byte [(.int y0), (.int y1), (.int y2), (.int y3), (.int y4), (.int y5), (.int y6), (.int y7)]) (O0 : Old Z n0 h0) (SS : SSt Z cz vf) :
    Con l Z (⟨"java/lang/StringUTF16", "charAt", "([BI)C"⟩ : MethodName) jdk_52_method_83_code 2 (some .char) ({ frames := 3, cells := 0, slots := 0, locals := 40 } : Room) [] #[(.ref a1), (.int (3 : Int32))] h0 (fun v h L => v = some (.int (GCH y6 y7)) ∧ h = h0 ∧ L = []) := by
  refine Con.of (plainFor_of_name pn_java_lang_StringUTF16) #[.val (.ref a1), .val (.int (3 : Int32))] (fun m => efuc4_3 m a1 (3 : Int32)) ?_
  intro p e s m below meth c s₁ K hx hby hml hown hnm hret hlk hZ X0 e0
  have N0 := Fr.nil n0
  refine m_iloadN K X0.here hx hby d_jdk_52_83_0 rfl rfl ?_
  refine m_aloadN K X0.here hx hby d_jdk_52_83_1 rfl rfl rfl ?_
  refine k_callS K X0 hx hby hZ [(.int (3 : Int32)), (.ref a1)] [] hown (W hw 96 rfl) (W hw 97 rfl) (W hw 43 rfl) (W hw 98 rfl) (cuk4 l Z a0 hw (3 : Int32) a1 cz vf y0 y1 y2 y3 y4 y5 y6 y7 h0 n0 Z0 A_a1 O0 SS (by first | decide | omega) (by first | decide | omega)) e0 rfl rfl pd_4 rfl d_jdk_52_83_2 (by rw [hml]; rfl) rfl (by decide) (by decide) (Nat.le_of_ble_eq_true rfl) (by decide) (by decide) fun v1 T1 L1 X1 q1 => ?_
  obtain ⟨rfl, e1, rfl⟩ := q1
  replace X1 := own_px X1
  refine k_none K ?_
  refine m_aloadN K X1.here hx hby d_jdk_52_83_5 rfl rfl rfl ?_
  refine m_iloadN K X1.here hx hby d_jdk_52_83_6 rfl rfl ?_
  refine k_callS K X1 hx hby hZ [(.ref a1), (.int (3 : Int32))] [] hown (W hw 90 rfl) (W hw 91 rfl) (W hw 43 rfl) (W hw 92 rfl) (cgc4_3 l Z a0 hw a1 cz vf y0 y1 y2 y3 y4 y5 y6 y7 h0 n0 Z0 A_a1 O0 SS) e1 rfl rfl pd_5 rfl d_jdk_52_83_7 (by rw [hml]; rfl) rfl (by decide) (by decide) (Nat.le_of_ble_eq_true rfl) (by decide) (by decide) fun v2 T2 L2 X2 q2 => ?_
  obtain ⟨rfl, e2, rfl⟩ := q2
  replace X2 := own_px X2
  refine k_some K (w := (.int (GCH y6 y7))) ?_
  exact Go.retN X2 hx hby hlk hret (by simp) d_jdk_52_83_10 (by decide) (by decide) (own_nc _) (⟨rfl, e2, rfl⟩)
theorem efcu4_3 (m : MethodId) (x0 : Addr) (x1 : Int32) : entryFrame m #[(.ref x0), (.int x1)] 2 = mkF m 0 #[.val (.ref x0), .val (.int x1)] [] := by first | (simp [entryFrame, mkF, argsToLocals, Value.category]; done) | rfl
set_option maxRecDepth 65536 in
set_option maxHeartbeats 40000000 in
theorem ccu4_3 (l : Launch) (Z : State) (a0 : Array Value) (hw : ∀ d ∈ tables_1, d.before a0 Z = true) (a1 : Addr) (cz : Int32) (vf : Value) (a2 : Addr) (y0 : Int32) (y1 : Int32) (y2 : Int32) (y3 : Int32) (y4 : Int32) (y5 : Int32) (y6 : Int32) (y7 : Int32) (h0 : Heap) (n0 : Nat) (Z0 : n0 ≤ h0.size) (E_a1 : Exa Z h0 a1 "java/lang/String") (F_value_a1 : Fld Z h0 a1 "java/lang/String" "value" "[B" (.ref a2)) (F_coder_a1 : Fld Z h0 a1 "java/lang/String" "coder" "B" (.int (1 : Int32))) (A_a2 : Av Z h0 a2 .byte [(.int y0), (.int y1), (.int y2), (.int y3), (.int y4), (.int y5), (.int y6), (.int y7)]) (O0 : Old Z n0 h0) (SS : SSt Z cz vf) :
    Con l Z (⟨"java/lang/String", "charAt", "(I)C"⟩ : MethodName) jdk_42_method_56_code 2 (some .char) ({ frames := 4, cells := 0, slots := 0, locals := 53 } : Room) [] #[(.ref a1), (.int (3 : Int32))] h0 (fun v h L => v = some (.int (GCH y6 y7)) ∧ h = h0 ∧ L = []) := by
  refine Con.of (plainFor_of_name pn_java_lang_String) #[.val (.ref a1), .val (.int (3 : Int32))] (fun m => efcu4_3 m a1 (3 : Int32)) ?_
  intro p e s m below meth c s₁ K hx hby hml hown hnm hret hlk hZ X0 e0
  have N0 := Fr.nil n0
  refine m_aloadN K X0.here hx hby d_jdk_42_56_0 rfl rfl rfl ?_
  refine k_callV K X0 hx hby hZ a1 [] [] hown (W hw 56 rfl) (W hw 57 rfl) (notFace_of_selects (args := #[]) (mvT hZ (W hw 59 rfl))) (W hw 59 rfl) (W hw 58 rfl) (W hw 7 rfl) (W hw 60 rfl) (cil1 l Z a0 hw a1 cz vf h0 n0 Z0 F_coder_a1 O0 SS) e0 E_a1 rfl rfl pd_6 rfl d_jdk_42_56_1 (by rw [hml]; rfl) rfl (by decide) (by decide) (Nat.le_of_ble_eq_true rfl) (by decide) (by decide) fun v1 T1 L1 X1 q1 => ?_
  obtain ⟨rfl, e1, rfl⟩ := q1
  replace X1 := own_px X1
  refine k_some K (w := (.int (0 : Int32))) ?_
  refine m_ifY K X1.here hx hby (q := 16) d_jdk_42_56_4 ((if0 _ _).trans (teq (by decide : (0 : Int32) = (0 : Int32))).1) (by decide) rfl ?_
  refine m_aloadN K X1.here hx hby d_jdk_42_56_16 rfl rfl rfl ?_
  refine k_getF K X1 hx hby hZ hown (host := "") (Or.inl (W hw 24 rfl)) Via.refl e1 F_value_a1 d_jdk_42_56_17 rfl fun T2 X2 e2 => ?_
  refine m_iloadN K X2.here hx hby d_jdk_42_56_20 rfl rfl ?_
  refine k_callS K X2 hx hby hZ [(.ref a2), (.int (3 : Int32))] [] hown (W hw 93 rfl) (W hw 94 rfl) (W hw 43 rfl) (W hw 95 rfl) (cuc4_3 l Z a0 hw a2 cz vf y0 y1 y2 y3 y4 y5 y6 y7 h0 n0 Z0 A_a2 O0 SS) e2 rfl rfl pd_5 rfl d_jdk_42_56_21 (by rw [hml]; rfl) rfl (by decide) (by decide) (Nat.le_of_ble_eq_true rfl) (by decide) (by decide) fun v3 T3 L3 X3 q3 => ?_
  obtain ⟨rfl, e3, rfl⟩ := q3
  replace X3 := own_px X3
  refine k_some K (w := (.int (GCH y6 y7))) ?_
  exact Go.retN X3 hx hby hlk hret (by simp) d_jdk_42_56_24 (by decide) (by decide) (own_nc _) (⟨rfl, e3, rfl⟩)
theorem eftb4 (m : MethodId) (x0 : Addr) (x1 : Int32) (x2 : Int32) : entryFrame m #[(.ref x0), (.int x1), (.int x2)] 5 = mkF m 0 #[.val (.ref x0), .val (.int x1), .val (.int x2), .unset, .unset] [] := by first | (simp [entryFrame, mkF, argsToLocals, Value.category]; done) | rfl
set_option maxRecDepth 65536 in
set_option maxHeartbeats 40000000 in
theorem ctb4 (l : Launch) (Z : State) (a0 : Array Value) (hw : ∀ d ∈ tables_1, d.before a0 Z = true) (a1 : Addr) (cz : Int32) (vf : Value) (c0 : Int32) (c1 : Int32) (c2 : Int32) (c3 : Int32) (h0 : Heap) (n0 : Nat) (Z0 : n0 ≤ h0.size) (A_a1 : Av Z h0 a1 .char [(.int c0), (.int c1), (.int c2), (.int c3)]) (O0 : Old Z n0 h0) (SS : SSt Z cz vf) :
    Con l Z (⟨"java/lang/StringUTF16", "toBytes", "([CII)[B"⟩ : MethodName) jdk_52_method_14_code 5 (some (.array .byte)) ({ frames := 2, cells := 1, slots := 8, locals := 24 } : Room) [] #[(.ref a1), (.int (0 : Int32)), (.int (4 : Int32))] h0 (fun v h L => ∃ bv : Addr, v = some (.ref bv) ∧ Fr n0 L ∧ Keep h0 h [] ∧ h0.size ≤ bv ∧ Av Z h bv .byte [(.int (BLO c0)), (.int (BHI c0)), (.int (BLO c1)), (.int (BHI c1)), (.int (BLO c2)), (.int (BHI c2)), (.int (BLO c3)), (.int (BHI c3))]) := by
  refine Con.of (plainFor_of_name pn_java_lang_StringUTF16) #[.val (.ref a1), .val (.int (0 : Int32)), .val (.int (4 : Int32)), .unset, .unset] (fun m => eftb4 m a1 (0 : Int32) (4 : Int32)) ?_
  intro p e s m below meth c s₁ K hx hby hml hown hnm hret hlk hZ X0 e0
  have N0 := Fr.nil n0
  refine m_iloadN K X0.here hx hby d_jdk_52_14_0 rfl rfl ?_
  refine k_callS K X0 hx hby hZ [(.int (4 : Int32))] [] hown (W hw 77 rfl) (W hw 78 rfl) (W hw 43 rfl) (W hw 79 rfl) (cnf4 l Z a0 hw cz vf h0 n0 Z0 O0 SS) e0 rfl rfl pd_7 rfl d_jdk_52_14_1 (by rw [hml]; rfl) rfl (by decide) (by decide) (Nat.le_of_ble_eq_true rfl) (by decide) (by decide) fun v1 T1 L1 X1 q1 => ?_
  obtain ⟨b1_bv, rfl, Nq1, K1, sq_b1_bv, Ap1_0⟩ := q1
  have N1 := Fr.app N0 Nq1
  have sz_b1_bv : h0.size ≤ b1_bv := Nat.le_trans (Nat.le_refl _) sq_b1_bv
  have g_b1_bv : n0 ≤ b1_bv := Nat.le_trans Z0 sz_b1_bv
  refine k_some K (w := (.ref b1_bv)) ?_
  refine m_astoreN K X1.here hx hby #[.val (.ref a1), .val (.int (0 : Int32)), .val (.int (4 : Int32)), .val (.ref b1_bv), .unset] d_jdk_52_14_4 rfl rfl rfl ?_
  refine m_iconst K X1.here hx hby (0 : Int32) d_jdk_52_14_5 rfl rfl ?_
  refine m_istore K X1.here hx hby #[.val (.ref a1), .val (.int (0 : Int32)), .val (.int (4 : Int32)), .val (.ref b1_bv), .val (.int (0 : Int32))] d_jdk_52_14_6 rfl rfl ?_
  refine m_iload K X1.here hx hby d_jdk_52_14_8 rfl rfl ?_
  refine m_iloadN K X1.here hx hby d_jdk_52_14_10 rfl rfl ?_
  refine m_icmpN K X1.here hx hby (q := 14) d_jdk_52_14_11 (tlt (by decide : (0 : Int32) < (4 : Int32))).2.1 rfl ?_
  refine m_aloadN K X1.here hx hby d_jdk_52_14_14 rfl rfl rfl ?_
  refine m_iload K X1.here hx hby d_jdk_52_14_15 rfl rfl ?_
  refine m_aloadN K X1.here hx hby d_jdk_52_14_17 rfl rfl rfl ?_
  refine m_iloadN K X1.here hx hby d_jdk_52_14_18 rfl rfl ?_
  refine k_ldC K X1 hx hby hZ rfl (A_a1.keep K1 nin0) (v := (.int c0)) (by decide) rfl d_jdk_52_14_19 rfl ?_
  refine k_callS K X1 hx hby hZ [(.ref b1_bv), (.int (0 : Int32)), (.int c0)] [] hown (W hw 84 rfl) (W hw 85 rfl) (W hw 43 rfl) (W hw 86 rfl) (cpc4_0 l Z a0 hw b1_bv c0 cz vf (0 : Int32) (0 : Int32) (0 : Int32) (0 : Int32) (0 : Int32) (0 : Int32) (0 : Int32) (0 : Int32) T1.heap n0 (Nat.le_trans Z0 (Nat.le_trans (Nat.le_refl _) K1.1)) Ap1_0 (O0.keep K1 all0) g_b1_bv SS) rfl rfl rfl pd_8 rfl d_jdk_52_14_20 (by rw [hml]; rfl) rfl (by decide) (by decide) (Nat.le_of_ble_eq_true rfl) (by decide) (by decide) fun v2 T2 L2 X2 q2 => ?_
  obtain ⟨rfl, Nq2, K2, Ap2_0⟩ := q2
  have N2 := Fr.app N1 Nq2
  refine k_none K ?_
  refine m_iinc K X2.here hx hby #[.val (.ref a1), .val (.int (1 : Int32)), .val (.int (4 : Int32)), .val (.ref b1_bv), .val (.int (0 : Int32))] d_jdk_52_14_23 rfl rfl rfl ?_
  refine m_iinc K X2.here hx hby #[.val (.ref a1), .val (.int (1 : Int32)), .val (.int (4 : Int32)), .val (.ref b1_bv), .val (.int (1 : Int32))] d_jdk_52_14_26 rfl rfl rfl ?_
  refine m_goto K X2.here hx hby (q := 8) d_jdk_52_14_29 (by decide) rfl ?_
  refine m_iload K X2.here hx hby d_jdk_52_14_8 rfl rfl ?_
  refine m_iloadN K X2.here hx hby d_jdk_52_14_10 rfl rfl ?_
  refine m_icmpN K X2.here hx hby (q := 14) d_jdk_52_14_11 (tlt (by decide : (1 : Int32) < (4 : Int32))).2.1 rfl ?_
  refine m_aloadN K X2.here hx hby d_jdk_52_14_14 rfl rfl rfl ?_
  refine m_iload K X2.here hx hby d_jdk_52_14_15 rfl rfl ?_
  refine m_aloadN K X2.here hx hby d_jdk_52_14_17 rfl rfl rfl ?_
  refine m_iloadN K X2.here hx hby d_jdk_52_14_18 rfl rfl ?_
  refine k_ldC K X2 hx hby hZ rfl ((A_a1.keep K1 nin0).keep K2 (ninS (Nat.ne_of_lt (Nat.lt_of_lt_of_le (Nat.lt_of_lt_of_le A_a1.lt (Nat.le_refl _)) sq_b1_bv)) nin0)) (v := (.int c1)) (by decide) rfl d_jdk_52_14_19 rfl ?_
  refine k_callS K X2 hx hby hZ [(.ref b1_bv), (.int (1 : Int32)), (.int c1)] [] hown (W hw 84 rfl) (W hw 85 rfl) (W hw 43 rfl) (W hw 86 rfl) (cpc4_1 l Z a0 hw b1_bv c1 cz vf (BLO c0) (BHI c0) (0 : Int32) (0 : Int32) (0 : Int32) (0 : Int32) (0 : Int32) (0 : Int32) T2.heap n0 (Nat.le_trans Z0 (Nat.le_trans (Nat.le_trans (Nat.le_refl _) K1.1) K2.1)) Ap2_0 ((O0.keep K1 all0).keep K2 (allS g_b1_bv all0)) g_b1_bv SS) rfl rfl rfl pd_8 rfl d_jdk_52_14_20 (by rw [hml]; rfl) rfl (by decide) (by decide) (Nat.le_of_ble_eq_true rfl) (by decide) (by decide) fun v3 T3 L3 X3 q3 => ?_
  obtain ⟨rfl, Nq3, K3, Ap3_0⟩ := q3
  have N3 := Fr.app N2 Nq3
  refine k_none K ?_
  refine m_iinc K X3.here hx hby #[.val (.ref a1), .val (.int (2 : Int32)), .val (.int (4 : Int32)), .val (.ref b1_bv), .val (.int (1 : Int32))] d_jdk_52_14_23 rfl rfl rfl ?_
  refine m_iinc K X3.here hx hby #[.val (.ref a1), .val (.int (2 : Int32)), .val (.int (4 : Int32)), .val (.ref b1_bv), .val (.int (2 : Int32))] d_jdk_52_14_26 rfl rfl rfl ?_
  refine m_goto K X3.here hx hby (q := 8) d_jdk_52_14_29 (by decide) rfl ?_
  refine m_iload K X3.here hx hby d_jdk_52_14_8 rfl rfl ?_
  refine m_iloadN K X3.here hx hby d_jdk_52_14_10 rfl rfl ?_
  refine m_icmpN K X3.here hx hby (q := 14) d_jdk_52_14_11 (tlt (by decide : (2 : Int32) < (4 : Int32))).2.1 rfl ?_
  refine m_aloadN K X3.here hx hby d_jdk_52_14_14 rfl rfl rfl ?_
  refine m_iload K X3.here hx hby d_jdk_52_14_15 rfl rfl ?_
  refine m_aloadN K X3.here hx hby d_jdk_52_14_17 rfl rfl rfl ?_
  refine m_iloadN K X3.here hx hby d_jdk_52_14_18 rfl rfl ?_
  refine k_ldC K X3 hx hby hZ rfl (((A_a1.keep K1 nin0).keep K2 (ninS (Nat.ne_of_lt (Nat.lt_of_lt_of_le (Nat.lt_of_lt_of_le A_a1.lt (Nat.le_refl _)) sq_b1_bv)) nin0)).keep K3 (ninS (Nat.ne_of_lt (Nat.lt_of_lt_of_le (Nat.lt_of_lt_of_le A_a1.lt (Nat.le_refl _)) sq_b1_bv)) nin0)) (v := (.int c2)) (by decide) rfl d_jdk_52_14_19 rfl ?_
  refine k_callS K X3 hx hby hZ [(.ref b1_bv), (.int (2 : Int32)), (.int c2)] [] hown (W hw 84 rfl) (W hw 85 rfl) (W hw 43 rfl) (W hw 86 rfl) (cpc4_2 l Z a0 hw b1_bv c2 cz vf (BLO c0) (BHI c0) (BLO c1) (BHI c1) (0 : Int32) (0 : Int32) (0 : Int32) (0 : Int32) T3.heap n0 (Nat.le_trans Z0 (Nat.le_trans (Nat.le_trans (Nat.le_trans (Nat.le_refl _) K1.1) K2.1) K3.1)) Ap3_0 (((O0.keep K1 all0).keep K2 (allS g_b1_bv all0)).keep K3 (allS g_b1_bv all0)) g_b1_bv SS) rfl rfl rfl pd_8 rfl d_jdk_52_14_20 (by rw [hml]; rfl) rfl (by decide) (by decide) (Nat.le_of_ble_eq_true rfl) (by decide) (by decide) fun v4 T4 L4 X4 q4 => ?_
  obtain ⟨rfl, Nq4, K4, Ap4_0⟩ := q4
  have N4 := Fr.app N3 Nq4
  refine k_none K ?_
  refine m_iinc K X4.here hx hby #[.val (.ref a1), .val (.int (3 : Int32)), .val (.int (4 : Int32)), .val (.ref b1_bv), .val (.int (2 : Int32))] d_jdk_52_14_23 rfl rfl rfl ?_
  refine m_iinc K X4.here hx hby #[.val (.ref a1), .val (.int (3 : Int32)), .val (.int (4 : Int32)), .val (.ref b1_bv), .val (.int (3 : Int32))] d_jdk_52_14_26 rfl rfl rfl ?_
  refine m_goto K X4.here hx hby (q := 8) d_jdk_52_14_29 (by decide) rfl ?_
  refine m_iload K X4.here hx hby d_jdk_52_14_8 rfl rfl ?_
  refine m_iloadN K X4.here hx hby d_jdk_52_14_10 rfl rfl ?_
  refine m_icmpN K X4.here hx hby (q := 14) d_jdk_52_14_11 (tlt (by decide : (3 : Int32) < (4 : Int32))).2.1 rfl ?_
  refine m_aloadN K X4.here hx hby d_jdk_52_14_14 rfl rfl rfl ?_
  refine m_iload K X4.here hx hby d_jdk_52_14_15 rfl rfl ?_
  refine m_aloadN K X4.here hx hby d_jdk_52_14_17 rfl rfl rfl ?_
  refine m_iloadN K X4.here hx hby d_jdk_52_14_18 rfl rfl ?_
  refine k_ldC K X4 hx hby hZ rfl ((((A_a1.keep K1 nin0).keep K2 (ninS (Nat.ne_of_lt (Nat.lt_of_lt_of_le (Nat.lt_of_lt_of_le A_a1.lt (Nat.le_refl _)) sq_b1_bv)) nin0)).keep K3 (ninS (Nat.ne_of_lt (Nat.lt_of_lt_of_le (Nat.lt_of_lt_of_le A_a1.lt (Nat.le_refl _)) sq_b1_bv)) nin0)).keep K4 (ninS (Nat.ne_of_lt (Nat.lt_of_lt_of_le (Nat.lt_of_lt_of_le A_a1.lt (Nat.le_refl _)) sq_b1_bv)) nin0)) (v := (.int c3)) (by decide) rfl d_jdk_52_14_19 rfl ?_
  refine k_callS K X4 hx hby hZ [(.ref b1_bv), (.int (3 : Int32)), (.int c3)] [] hown (W hw 84 rfl) (W hw 85 rfl) (W hw 43 rfl) (W hw 86 rfl) (cpc4_3 l Z a0 hw b1_bv c3 cz vf (BLO c0) (BHI c0) (BLO c1) (BHI c1) (BLO c2) (BHI c2) (0 : Int32) (0 : Int32) T4.heap n0 (Nat.le_trans Z0 (Nat.le_trans (Nat.le_trans (Nat.le_trans (Nat.le_trans (Nat.le_refl _) K1.1) K2.1) K3.1) K4.1)) Ap4_0 ((((O0.keep K1 all0).keep K2 (allS g_b1_bv all0)).keep K3 (allS g_b1_bv all0)).keep K4 (allS g_b1_bv all0)) g_b1_bv SS) rfl rfl rfl pd_8 rfl d_jdk_52_14_20 (by rw [hml]; rfl) rfl (by decide) (by decide) (Nat.le_of_ble_eq_true rfl) (by decide) (by decide) fun v5 T5 L5 X5 q5 => ?_
  obtain ⟨rfl, Nq5, K5, Ap5_0⟩ := q5
  have N5 := Fr.app N4 Nq5
  refine k_none K ?_
  refine m_iinc K X5.here hx hby #[.val (.ref a1), .val (.int (4 : Int32)), .val (.int (4 : Int32)), .val (.ref b1_bv), .val (.int (3 : Int32))] d_jdk_52_14_23 rfl rfl rfl ?_
  refine m_iinc K X5.here hx hby #[.val (.ref a1), .val (.int (4 : Int32)), .val (.int (4 : Int32)), .val (.ref b1_bv), .val (.int (4 : Int32))] d_jdk_52_14_26 rfl rfl rfl ?_
  refine m_goto K X5.here hx hby (q := 8) d_jdk_52_14_29 (by decide) rfl ?_
  refine m_iload K X5.here hx hby d_jdk_52_14_8 rfl rfl ?_
  refine m_iloadN K X5.here hx hby d_jdk_52_14_10 rfl rfl ?_
  refine m_icmpY K X5.here hx hby (q := 32) d_jdk_52_14_11 (flt (by decide : ¬ ((4 : Int32) < (4 : Int32)))).2.1 (by decide) rfl ?_
  refine m_aloadN K X5.here hx hby d_jdk_52_14_32 rfl rfl rfl ?_
  exact Go.retO X5 hx hby hlk hret rfl (Or.inr (Or.inr (Or.inr (Or.inr ⟨rfl, rfl, rfl⟩)))) d_jdk_52_14_33 (by decide) (by decide) (⟨b1_bv, rfl, N5, ((((((Keep.refl h0 []).trans K1 all0).trans K2 (allS (Or.inr sz_b1_bv) all0)).trans K3 (allS (Or.inr sz_b1_bv) all0)).trans K4 (allS (Or.inr sz_b1_bv) all0)).trans K5 (allS (Or.inr sz_b1_bv) all0)), sz_b1_bv, Ap5_0⟩)
theorem eflu4 (m : MethodId) (x0 : Addr) : entryFrame m #[(.ref x0)] 1 = mkF m 0 #[.val (.ref x0)] [] := by first | (simp [entryFrame, mkF, argsToLocals, Value.category]; done) | rfl
set_option maxRecDepth 65536 in
set_option maxHeartbeats 40000000 in
theorem clu4 (l : Launch) (Z : State) (a0 : Array Value) (hw : ∀ d ∈ tables_1, d.before a0 Z = true) (a1 : Addr) (cz : Int32) (vf : Value) (a2 : Addr) (y0 : Int32) (y1 : Int32) (y2 : Int32) (y3 : Int32) (y4 : Int32) (y5 : Int32) (y6 : Int32) (y7 : Int32) (h0 : Heap) (n0 : Nat) (Z0 : n0 ≤ h0.size) (E_a1 : Exa Z h0 a1 "java/lang/String") (F_value_a1 : Fld Z h0 a1 "java/lang/String" "value" "[B" (.ref a2)) (F_coder_a1 : Fld Z h0 a1 "java/lang/String" "coder" "B" (.int (1 : Int32))) (A_a2 : Av Z h0 a2 .byte [(.int y0), (.int y1), (.int y2), (.int y3), (.int y4), (.int y5), (.int y6), (.int y7)]) (O0 : Old Z n0 h0) (SS : SSt Z cz vf) :
    Con l Z (⟨"java/lang/String", "length", "()I"⟩ : MethodName) jdk_42_method_54_code 1 (some .int) ({ frames := 1, cells := 0, slots := 0, locals := 13 } : Room) [] #[(.ref a1)] h0 (fun v h L => v = some (.int (4 : Int32)) ∧ h = h0 ∧ L = []) := by
  refine Con.of (plainFor_of_name pn_java_lang_String) #[.val (.ref a1)] (fun m => eflu4 m a1) ?_
  intro p e s m below meth c s₁ K hx hby hml hown hnm hret hlk hZ X0 e0
  have N0 := Fr.nil n0
  refine m_aloadN K X0.here hx hby d_jdk_42_54_0 rfl rfl rfl ?_
  refine k_getF K X0 hx hby hZ hown (host := "") (Or.inl (W hw 24 rfl)) Via.refl e0 F_value_a1 d_jdk_42_54_1 rfl fun T1 X1 e1 => ?_
  refine k_len K X1 hx hby hZ (8 : Int32) e1 A_a2 rfl d_jdk_42_54_4 rfl ?_
  refine m_aloadN K X1.here hx hby d_jdk_42_54_5 rfl rfl rfl ?_
  refine k_callV K X1 hx hby hZ a1 [] [(.int (8 : Int32))] hown (W hw 35 rfl) (W hw 36 rfl) (notFace_of_selects (args := #[]) (mvT hZ (W hw 38 rfl))) (W hw 38 rfl) (W hw 37 rfl) (W hw 7 rfl) (W hw 39 rfl) (cco1 l Z a0 hw a1 cz vf h0 n0 Z0 F_coder_a1 O0 SS) e1 E_a1 rfl rfl pd_9 rfl d_jdk_42_54_6 (by rw [hml]; rfl) rfl (by decide) (by decide) (Nat.le_of_ble_eq_true rfl) (by decide) (by decide) fun v2 T2 L2 X2 q2 => ?_
  obtain ⟨rfl, e2, rfl⟩ := q2
  replace X2 := own_px X2
  refine k_some K (w := (.int (1 : Int32))) ?_
  refine m_ishr K X2.here hx hby (4 : Int32) d_jdk_42_54_9 rfl rfl ?_
  exact Go.retI X2 hx hby hlk hret d_jdk_42_54_10 (by decide) (by decide) (⟨rfl, e2, rfl⟩)
theorem efll0 (m : MethodId) (x0 : Addr) : entryFrame m #[(.ref x0)] 1 = mkF m 0 #[.val (.ref x0)] [] := by first | (simp [entryFrame, mkF, argsToLocals, Value.category]; done) | rfl
set_option maxRecDepth 65536 in
set_option maxHeartbeats 40000000 in
theorem cll0 (l : Launch) (Z : State) (a0 : Array Value) (hw : ∀ d ∈ tables_1, d.before a0 Z = true) (a1 : Addr) (cz : Int32) (vf : Value) (a2 : Addr) (h0 : Heap) (n0 : Nat) (Z0 : n0 ≤ h0.size) (E_a1 : Exa Z h0 a1 "java/lang/String") (F_value_a1 : Fld Z h0 a1 "java/lang/String" "value" "[B" (.ref a2)) (F_coder_a1 : Fld Z h0 a1 "java/lang/String" "coder" "B" (.int (0 : Int32))) (A_a2 : Av Z h0 a2 .byte []) (O0 : Old Z n0 h0) (SS : SSt Z cz vf) :
    Con l Z (⟨"java/lang/String", "length", "()I"⟩ : MethodName) jdk_42_method_54_code 1 (some .int) ({ frames := 1, cells := 0, slots := 0, locals := 13 } : Room) [] #[(.ref a1)] h0 (fun v h L => v = some (.int (0 : Int32)) ∧ h = h0 ∧ L = []) := by
  refine Con.of (plainFor_of_name pn_java_lang_String) #[.val (.ref a1)] (fun m => efll0 m a1) ?_
  intro p e s m below meth c s₁ K hx hby hml hown hnm hret hlk hZ X0 e0
  have N0 := Fr.nil n0
  refine m_aloadN K X0.here hx hby d_jdk_42_54_0 rfl rfl rfl ?_
  refine k_getF K X0 hx hby hZ hown (host := "") (Or.inl (W hw 24 rfl)) Via.refl e0 F_value_a1 d_jdk_42_54_1 rfl fun T1 X1 e1 => ?_
  refine k_len K X1 hx hby hZ (0 : Int32) e1 A_a2 rfl d_jdk_42_54_4 rfl ?_
  refine m_aloadN K X1.here hx hby d_jdk_42_54_5 rfl rfl rfl ?_
  refine k_callV K X1 hx hby hZ a1 [] [(.int (0 : Int32))] hown (W hw 35 rfl) (W hw 36 rfl) (notFace_of_selects (args := #[]) (mvT hZ (W hw 38 rfl))) (W hw 38 rfl) (W hw 37 rfl) (W hw 7 rfl) (W hw 39 rfl) (cco0 l Z a0 hw a1 cz vf h0 n0 Z0 F_coder_a1 O0 SS) e1 E_a1 rfl rfl pd_9 rfl d_jdk_42_54_6 (by rw [hml]; rfl) rfl (by decide) (by decide) (Nat.le_of_ble_eq_true rfl) (by decide) (by decide) fun v2 T2 L2 X2 q2 => ?_
  obtain ⟨rfl, e2, rfl⟩ := q2
  replace X2 := own_px X2
  refine k_some K (w := (.int (0 : Int32))) ?_
  refine m_ishr K X2.here hx hby (0 : Int32) d_jdk_42_54_9 rfl rfl ?_
  exact Go.retI X2 hx hby hlk hret d_jdk_42_54_10 (by decide) (by decide) (⟨rfl, e2, rfl⟩)
theorem efll1 (m : MethodId) (x0 : Addr) : entryFrame m #[(.ref x0)] 1 = mkF m 0 #[.val (.ref x0)] [] := by first | (simp [entryFrame, mkF, argsToLocals, Value.category]; done) | rfl
set_option maxRecDepth 65536 in
set_option maxHeartbeats 40000000 in
theorem cll1 (l : Launch) (Z : State) (a0 : Array Value) (hw : ∀ d ∈ tables_1, d.before a0 Z = true) (a1 : Addr) (cz : Int32) (vf : Value) (a2 : Addr) (y0 : Int32) (h0 : Heap) (n0 : Nat) (Z0 : n0 ≤ h0.size) (E_a1 : Exa Z h0 a1 "java/lang/String") (F_value_a1 : Fld Z h0 a1 "java/lang/String" "value" "[B" (.ref a2)) (F_coder_a1 : Fld Z h0 a1 "java/lang/String" "coder" "B" (.int (0 : Int32))) (A_a2 : Av Z h0 a2 .byte [(.int y0)]) (O0 : Old Z n0 h0) (SS : SSt Z cz vf) :
    Con l Z (⟨"java/lang/String", "length", "()I"⟩ : MethodName) jdk_42_method_54_code 1 (some .int) ({ frames := 1, cells := 0, slots := 0, locals := 13 } : Room) [] #[(.ref a1)] h0 (fun v h L => v = some (.int (1 : Int32)) ∧ h = h0 ∧ L = []) := by
  refine Con.of (plainFor_of_name pn_java_lang_String) #[.val (.ref a1)] (fun m => efll1 m a1) ?_
  intro p e s m below meth c s₁ K hx hby hml hown hnm hret hlk hZ X0 e0
  have N0 := Fr.nil n0
  refine m_aloadN K X0.here hx hby d_jdk_42_54_0 rfl rfl rfl ?_
  refine k_getF K X0 hx hby hZ hown (host := "") (Or.inl (W hw 24 rfl)) Via.refl e0 F_value_a1 d_jdk_42_54_1 rfl fun T1 X1 e1 => ?_
  refine k_len K X1 hx hby hZ (1 : Int32) e1 A_a2 rfl d_jdk_42_54_4 rfl ?_
  refine m_aloadN K X1.here hx hby d_jdk_42_54_5 rfl rfl rfl ?_
  refine k_callV K X1 hx hby hZ a1 [] [(.int (1 : Int32))] hown (W hw 35 rfl) (W hw 36 rfl) (notFace_of_selects (args := #[]) (mvT hZ (W hw 38 rfl))) (W hw 38 rfl) (W hw 37 rfl) (W hw 7 rfl) (W hw 39 rfl) (cco0 l Z a0 hw a1 cz vf h0 n0 Z0 F_coder_a1 O0 SS) e1 E_a1 rfl rfl pd_9 rfl d_jdk_42_54_6 (by rw [hml]; rfl) rfl (by decide) (by decide) (Nat.le_of_ble_eq_true rfl) (by decide) (by decide) fun v2 T2 L2 X2 q2 => ?_
  obtain ⟨rfl, e2, rfl⟩ := q2
  replace X2 := own_px X2
  refine k_some K (w := (.int (0 : Int32))) ?_
  refine m_ishr K X2.here hx hby (1 : Int32) d_jdk_42_54_9 rfl rfl ?_
  exact Go.retI X2 hx hby hlk hret d_jdk_42_54_10 (by decide) (by decide) (⟨rfl, e2, rfl⟩)
def wlc1_0_1 (y0 : Int32) : Int32 := ((y0 &&& (255 : Int32)).toUInt32.toUInt16.toUInt32.toInt32)
theorem d_jdk_43_2_0 : decode jdk_43_method_2_code 0 = .ok (.iload_n 1, 1) := by decide +kernel
theorem d_jdk_43_2_1 : decode jdk_43_method_2_code 1 = .ok (.aload_n 0, 1) := by decide +kernel
theorem d_jdk_43_2_2 : decode jdk_43_method_2_code 2 = .ok (.arraylength, 1) := by decide +kernel
theorem d_jdk_43_2_3 : decode jdk_43_method_2_code 3 = .ok (.invokestatic 9, 3) := by decide +kernel
theorem d_jdk_43_2_6 : decode jdk_43_method_2_code 6 = .ok (.aload_n 0, 1) := by decide +kernel
theorem d_jdk_43_2_7 : decode jdk_43_method_2_code 7 = .ok (.iload_n 1, 1) := by decide +kernel
theorem d_jdk_43_2_8 : decode jdk_43_method_2_code 8 = .ok (.baload, 1) := by decide +kernel
theorem d_jdk_43_2_9 : decode jdk_43_method_2_code 9 = .ok (.sipush 255, 3) := by decide +kernel
theorem d_jdk_43_2_12 : decode jdk_43_method_2_code 12 = .ok (.iand, 1) := by decide +kernel
theorem d_jdk_43_2_13 : decode jdk_43_method_2_code 13 = .ok (.i2c, 1) := by decide +kernel
theorem d_jdk_43_2_14 : decode jdk_43_method_2_code 14 = .ok (.ireturn, 1) := by decide +kernel
theorem pn_java_lang_StringLatin1 : plainName "java/lang/StringLatin1" = true := by first | (simp [plainName, overriddenIn]; done) | decide +kernel
theorem eflc1_0 (m : MethodId) (x0 : Addr) (x1 : Int32) : entryFrame m #[(.ref x0), (.int x1)] 2 = mkF m 0 #[.val (.ref x0), .val (.int x1)] [] := by first | (simp [entryFrame, mkF, argsToLocals, Value.category]; done) | rfl
set_option maxRecDepth 65536 in
set_option maxHeartbeats 40000000 in
theorem clc1_0 (l : Launch) (Z : State) (a0 : Array Value) (hw : ∀ d ∈ tables_1, d.before a0 Z = true) (a1 : Addr) (cz : Int32) (vf : Value) (y0 : Int32) (h0 : Heap) (n0 : Nat) (Z0 : n0 ≤ h0.size) (A_a1 : Av Z h0 a1 .byte [(.int y0)]) (O0 : Old Z n0 h0) (SS : SSt Z cz vf) :
    Con l Z (⟨"java/lang/StringLatin1", "charAt", "([BI)C"⟩ : MethodName) jdk_43_method_2_code 2 (some .char) ({ frames := 2, cells := 0, slots := 0, locals := 27 } : Room) [] #[(.ref a1), (.int (0 : Int32))] h0 (fun v h L => v = some (.int (LCH y0)) ∧ h = h0 ∧ L = []) := by
  refine Con.of (plainFor_of_name pn_java_lang_StringLatin1) #[.val (.ref a1), .val (.int (0 : Int32))] (fun m => eflc1_0 m a1 (0 : Int32)) ?_
  intro p e s m below meth c s₁ K hx hby hml hown hnm hret hlk hZ X0 e0
  have N0 := Fr.nil n0
  refine m_iloadN K X0.here hx hby d_jdk_43_2_0 rfl rfl ?_
  refine m_aloadN K X0.here hx hby d_jdk_43_2_1 rfl rfl rfl ?_
  refine k_len K X0 hx hby hZ (1 : Int32) e0 A_a1 rfl d_jdk_43_2_2 rfl ?_
  refine k_callS K X0 hx hby hZ [(.int (0 : Int32)), (.int (1 : Int32))] [] hown (W hw 65 rfl) (W hw 66 rfl) (W hw 7 rfl) (W hw 67 rfl) (cck l Z a0 hw (0 : Int32) (1 : Int32) cz vf h0 n0 Z0 O0 SS (by first | decide | omega) (by first | decide | omega)) e0 rfl rfl pd_3 rfl d_jdk_43_2_3 (by rw [hml]; rfl) rfl (by decide) (by decide) (Nat.le_of_ble_eq_true rfl) (by decide) (by decide) fun v1 T1 L1 X1 q1 => ?_
  obtain ⟨rfl, e1, rfl⟩ := q1
  replace X1 := own_px X1
  refine k_none K ?_
  refine m_aloadN K X1.here hx hby d_jdk_43_2_6 rfl rfl rfl ?_
  refine m_iloadN K X1.here hx hby d_jdk_43_2_7 rfl rfl ?_
  refine k_ldB K X1 hx hby hZ e1 A_a1 (v := (.int y0)) (by decide) rfl d_jdk_43_2_8 rfl ?_
  refine m_sipush K X1.here hx hby (255 : Int32) d_jdk_43_2_9 rfl rfl ?_
  refine m_iand K X1.here hx hby (y0 &&& (255 : Int32)) d_jdk_43_2_12 rfl rfl ?_
  refine m_i2c K X1.here hx hby (wlc1_0_1 y0) d_jdk_43_2_13 rfl rfl ?_
  exact Go.retN X1 hx hby hlk hret (by simp) d_jdk_43_2_14 (by decide) (by decide) (own_nc _) (⟨rfl, e1, rfl⟩)
theorem d_jdk_42_56_7 : decode jdk_42_method_56_code 7 = .ok (.aload_n 0, 1) := by decide +kernel
theorem d_jdk_42_56_8 : decode jdk_42_method_56_code 8 = .ok (.getfield 9, 3) := by decide +kernel
theorem d_jdk_42_56_11 : decode jdk_42_method_56_code 11 = .ok (.iload_n 1, 1) := by decide +kernel
theorem d_jdk_42_56_12 : decode jdk_42_method_56_code 12 = .ok (.invokestatic 495, 3) := by decide +kernel
theorem d_jdk_42_56_15 : decode jdk_42_method_56_code 15 = .ok (.ireturn, 1) := by decide +kernel
theorem efcl1_0 (m : MethodId) (x0 : Addr) (x1 : Int32) : entryFrame m #[(.ref x0), (.int x1)] 2 = mkF m 0 #[.val (.ref x0), .val (.int x1)] [] := by first | (simp [entryFrame, mkF, argsToLocals, Value.category]; done) | rfl
set_option maxRecDepth 65536 in
set_option maxHeartbeats 40000000 in
theorem ccl1_0 (l : Launch) (Z : State) (a0 : Array Value) (hw : ∀ d ∈ tables_1, d.before a0 Z = true) (a1 : Addr) (cz : Int32) (vf : Value) (a2 : Addr) (y0 : Int32) (h0 : Heap) (n0 : Nat) (Z0 : n0 ≤ h0.size) (E_a1 : Exa Z h0 a1 "java/lang/String") (F_value_a1 : Fld Z h0 a1 "java/lang/String" "value" "[B" (.ref a2)) (F_coder_a1 : Fld Z h0 a1 "java/lang/String" "coder" "B" (.int (0 : Int32))) (A_a2 : Av Z h0 a2 .byte [(.int y0)]) (O0 : Old Z n0 h0) (SS : SSt Z cz vf) :
    Con l Z (⟨"java/lang/String", "charAt", "(I)C"⟩ : MethodName) jdk_42_method_56_code 2 (some .char) ({ frames := 3, cells := 0, slots := 0, locals := 40 } : Room) [] #[(.ref a1), (.int (0 : Int32))] h0 (fun v h L => v = some (.int (LCH y0)) ∧ h = h0 ∧ L = []) := by
  refine Con.of (plainFor_of_name pn_java_lang_String) #[.val (.ref a1), .val (.int (0 : Int32))] (fun m => efcl1_0 m a1 (0 : Int32)) ?_
  intro p e s m below meth c s₁ K hx hby hml hown hnm hret hlk hZ X0 e0
  have N0 := Fr.nil n0
  refine m_aloadN K X0.here hx hby d_jdk_42_56_0 rfl rfl rfl ?_
  refine k_callV K X0 hx hby hZ a1 [] [] hown (W hw 56 rfl) (W hw 57 rfl) (notFace_of_selects (args := #[]) (mvT hZ (W hw 59 rfl))) (W hw 59 rfl) (W hw 58 rfl) (W hw 7 rfl) (W hw 60 rfl) (cil0 l Z a0 hw a1 cz vf h0 n0 Z0 F_coder_a1 O0 SS) e0 E_a1 rfl rfl pd_6 rfl d_jdk_42_56_1 (by rw [hml]; rfl) rfl (by decide) (by decide) (Nat.le_of_ble_eq_true rfl) (by decide) (by decide) fun v1 T1 L1 X1 q1 => ?_
  obtain ⟨rfl, e1, rfl⟩ := q1
  replace X1 := own_px X1
  refine k_some K (w := (.int (1 : Int32))) ?_
  refine m_ifN K X1.here hx hby (q := 7) d_jdk_42_56_4 ((if0 _ _).trans (feq (by decide : ¬ ((1 : Int32) = (0 : Int32)))).1) rfl ?_
  refine m_aloadN K X1.here hx hby d_jdk_42_56_7 rfl rfl rfl ?_
  refine k_getF K X1 hx hby hZ hown (host := "") (Or.inl (W hw 24 rfl)) Via.refl e1 F_value_a1 d_jdk_42_56_8 rfl fun T2 X2 e2 => ?_
  refine m_iloadN K X2.here hx hby d_jdk_42_56_11 rfl rfl ?_
  refine k_callS K X2 hx hby hZ [(.ref a2), (.int (0 : Int32))] [] hown (W hw 61 rfl) (W hw 62 rfl) (W hw 63 rfl) (W hw 64 rfl) (clc1_0 l Z a0 hw a2 cz vf y0 h0 n0 Z0 A_a2 O0 SS) e2 rfl rfl pd_5 rfl d_jdk_42_56_12 (by rw [hml]; rfl) rfl (by decide) (by decide) (Nat.le_of_ble_eq_true rfl) (by decide) (by decide) fun v3 T3 L3 X3 q3 => ?_
  obtain ⟨rfl, e3, rfl⟩ := q3
  replace X3 := own_px X3
  refine k_some K (w := (.int (LCH y0))) ?_
  exact Go.retN X3 hx hby hlk hret (by simp) d_jdk_42_56_15 (by decide) (by decide) (own_nc _) (⟨rfl, e3, rfl⟩)
theorem efll2 (m : MethodId) (x0 : Addr) : entryFrame m #[(.ref x0)] 1 = mkF m 0 #[.val (.ref x0)] [] := by first | (simp [entryFrame, mkF, argsToLocals, Value.category]; done) | rfl
set_option maxRecDepth 65536 in
set_option maxHeartbeats 40000000 in
theorem cll2 (l : Launch) (Z : State) (a0 : Array Value) (hw : ∀ d ∈ tables_1, d.before a0 Z = true) (a1 : Addr) (cz : Int32) (vf : Value) (a2 : Addr) (y0 : Int32) (y1 : Int32) (h0 : Heap) (n0 : Nat) (Z0 : n0 ≤ h0.size) (E_a1 : Exa Z h0 a1 "java/lang/String") (F_value_a1 : Fld Z h0 a1 "java/lang/String" "value" "[B" (.ref a2)) (F_coder_a1 : Fld Z h0 a1 "java/lang/String" "coder" "B" (.int (0 : Int32))) (A_a2 : Av Z h0 a2 .byte [(.int y0), (.int y1)]) (O0 : Old Z n0 h0) (SS : SSt Z cz vf) :
    Con l Z (⟨"java/lang/String", "length", "()I"⟩ : MethodName) jdk_42_method_54_code 1 (some .int) ({ frames := 1, cells := 0, slots := 0, locals := 13 } : Room) [] #[(.ref a1)] h0 (fun v h L => v = some (.int (2 : Int32)) ∧ h = h0 ∧ L = []) := by
  refine Con.of (plainFor_of_name pn_java_lang_String) #[.val (.ref a1)] (fun m => efll2 m a1) ?_
  intro p e s m below meth c s₁ K hx hby hml hown hnm hret hlk hZ X0 e0
  have N0 := Fr.nil n0
  refine m_aloadN K X0.here hx hby d_jdk_42_54_0 rfl rfl rfl ?_
  refine k_getF K X0 hx hby hZ hown (host := "") (Or.inl (W hw 24 rfl)) Via.refl e0 F_value_a1 d_jdk_42_54_1 rfl fun T1 X1 e1 => ?_
  refine k_len K X1 hx hby hZ (2 : Int32) e1 A_a2 rfl d_jdk_42_54_4 rfl ?_
  refine m_aloadN K X1.here hx hby d_jdk_42_54_5 rfl rfl rfl ?_
  refine k_callV K X1 hx hby hZ a1 [] [(.int (2 : Int32))] hown (W hw 35 rfl) (W hw 36 rfl) (notFace_of_selects (args := #[]) (mvT hZ (W hw 38 rfl))) (W hw 38 rfl) (W hw 37 rfl) (W hw 7 rfl) (W hw 39 rfl) (cco0 l Z a0 hw a1 cz vf h0 n0 Z0 F_coder_a1 O0 SS) e1 E_a1 rfl rfl pd_9 rfl d_jdk_42_54_6 (by rw [hml]; rfl) rfl (by decide) (by decide) (Nat.le_of_ble_eq_true rfl) (by decide) (by decide) fun v2 T2 L2 X2 q2 => ?_
  obtain ⟨rfl, e2, rfl⟩ := q2
  replace X2 := own_px X2
  refine k_some K (w := (.int (0 : Int32))) ?_
  refine m_ishr K X2.here hx hby (2 : Int32) d_jdk_42_54_9 rfl rfl ?_
  exact Go.retI X2 hx hby hlk hret d_jdk_42_54_10 (by decide) (by decide) (⟨rfl, e2, rfl⟩)
def wlc2_0_1 (y0 : Int32) : Int32 := ((y0 &&& (255 : Int32)).toUInt32.toUInt16.toUInt32.toInt32)
theorem eflc2_0 (m : MethodId) (x0 : Addr) (x1 : Int32) : entryFrame m #[(.ref x0), (.int x1)] 2 = mkF m 0 #[.val (.ref x0), .val (.int x1)] [] := by first | (simp [entryFrame, mkF, argsToLocals, Value.category]; done) | rfl
set_option maxRecDepth 65536 in
set_option maxHeartbeats 40000000 in
theorem clc2_0 (l : Launch) (Z : State) (a0 : Array Value) (hw : ∀ d ∈ tables_1, d.before a0 Z = true) (a1 : Addr) (cz : Int32) (vf : Value) (y0 : Int32) (y1 : Int32) (h0 : Heap) (n0 : Nat) (Z0 : n0 ≤ h0.size) (A_a1 : Av Z h0 a1 .byte [(.int y0), (.int y1)]) (O0 : Old Z n0 h0) (SS : SSt Z cz vf) :
    Con l Z (⟨"java/lang/StringLatin1", "charAt", "([BI)C"⟩ : MethodName) jdk_43_method_2_code 2 (some .char) ({ frames := 2, cells := 0, slots := 0, locals := 27 } : Room) [] #[(.ref a1), (.int (0 : Int32))] h0 (fun v h L => v = some (.int (LCH y0)) ∧ h = h0 ∧ L = []) := by
  refine Con.of (plainFor_of_name pn_java_lang_StringLatin1) #[.val (.ref a1), .val (.int (0 : Int32))] (fun m => eflc2_0 m a1 (0 : Int32)) ?_
  intro p e s m below meth c s₁ K hx hby hml hown hnm hret hlk hZ X0 e0
  have N0 := Fr.nil n0
  refine m_iloadN K X0.here hx hby d_jdk_43_2_0 rfl rfl ?_
  refine m_aloadN K X0.here hx hby d_jdk_43_2_1 rfl rfl rfl ?_
  refine k_len K X0 hx hby hZ (2 : Int32) e0 A_a1 rfl d_jdk_43_2_2 rfl ?_
  refine k_callS K X0 hx hby hZ [(.int (0 : Int32)), (.int (2 : Int32))] [] hown (W hw 65 rfl) (W hw 66 rfl) (W hw 7 rfl) (W hw 67 rfl) (cck l Z a0 hw (0 : Int32) (2 : Int32) cz vf h0 n0 Z0 O0 SS (by first | decide | omega) (by first | decide | omega)) e0 rfl rfl pd_3 rfl d_jdk_43_2_3 (by rw [hml]; rfl) rfl (by decide) (by decide) (Nat.le_of_ble_eq_true rfl) (by decide) (by decide) fun v1 T1 L1 X1 q1 => ?_
  obtain ⟨rfl, e1, rfl⟩ := q1
  replace X1 := own_px X1
  refine k_none K ?_
  refine m_aloadN K X1.here hx hby d_jdk_43_2_6 rfl rfl rfl ?_
  refine m_iloadN K X1.here hx hby d_jdk_43_2_7 rfl rfl ?_
  refine k_ldB K X1 hx hby hZ e1 A_a1 (v := (.int y0)) (by decide) rfl d_jdk_43_2_8 rfl ?_
  refine m_sipush K X1.here hx hby (255 : Int32) d_jdk_43_2_9 rfl rfl ?_
  refine m_iand K X1.here hx hby (y0 &&& (255 : Int32)) d_jdk_43_2_12 rfl rfl ?_
  refine m_i2c K X1.here hx hby (wlc2_0_1 y0) d_jdk_43_2_13 rfl rfl ?_
  exact Go.retN X1 hx hby hlk hret (by simp) d_jdk_43_2_14 (by decide) (by decide) (own_nc _) (⟨rfl, e1, rfl⟩)
theorem efcl2_0 (m : MethodId) (x0 : Addr) (x1 : Int32) : entryFrame m #[(.ref x0), (.int x1)] 2 = mkF m 0 #[.val (.ref x0), .val (.int x1)] [] := by first | (simp [entryFrame, mkF, argsToLocals, Value.category]; done) | rfl
set_option maxRecDepth 65536 in
set_option maxHeartbeats 40000000 in
theorem ccl2_0 (l : Launch) (Z : State) (a0 : Array Value) (hw : ∀ d ∈ tables_1, d.before a0 Z = true) (a1 : Addr) (cz : Int32) (vf : Value) (a2 : Addr) (y0 : Int32) (y1 : Int32) (h0 : Heap) (n0 : Nat) (Z0 : n0 ≤ h0.size) (E_a1 : Exa Z h0 a1 "java/lang/String") (F_value_a1 : Fld Z h0 a1 "java/lang/String" "value" "[B" (.ref a2)) (F_coder_a1 : Fld Z h0 a1 "java/lang/String" "coder" "B" (.int (0 : Int32))) (A_a2 : Av Z h0 a2 .byte [(.int y0), (.int y1)]) (O0 : Old Z n0 h0) (SS : SSt Z cz vf) :
    Con l Z (⟨"java/lang/String", "charAt", "(I)C"⟩ : MethodName) jdk_42_method_56_code 2 (some .char) ({ frames := 3, cells := 0, slots := 0, locals := 40 } : Room) [] #[(.ref a1), (.int (0 : Int32))] h0 (fun v h L => v = some (.int (LCH y0)) ∧ h = h0 ∧ L = []) := by
  refine Con.of (plainFor_of_name pn_java_lang_String) #[.val (.ref a1), .val (.int (0 : Int32))] (fun m => efcl2_0 m a1 (0 : Int32)) ?_
  intro p e s m below meth c s₁ K hx hby hml hown hnm hret hlk hZ X0 e0
  have N0 := Fr.nil n0
  refine m_aloadN K X0.here hx hby d_jdk_42_56_0 rfl rfl rfl ?_
  refine k_callV K X0 hx hby hZ a1 [] [] hown (W hw 56 rfl) (W hw 57 rfl) (notFace_of_selects (args := #[]) (mvT hZ (W hw 59 rfl))) (W hw 59 rfl) (W hw 58 rfl) (W hw 7 rfl) (W hw 60 rfl) (cil0 l Z a0 hw a1 cz vf h0 n0 Z0 F_coder_a1 O0 SS) e0 E_a1 rfl rfl pd_6 rfl d_jdk_42_56_1 (by rw [hml]; rfl) rfl (by decide) (by decide) (Nat.le_of_ble_eq_true rfl) (by decide) (by decide) fun v1 T1 L1 X1 q1 => ?_
  obtain ⟨rfl, e1, rfl⟩ := q1
  replace X1 := own_px X1
  refine k_some K (w := (.int (1 : Int32))) ?_
  refine m_ifN K X1.here hx hby (q := 7) d_jdk_42_56_4 ((if0 _ _).trans (feq (by decide : ¬ ((1 : Int32) = (0 : Int32)))).1) rfl ?_
  refine m_aloadN K X1.here hx hby d_jdk_42_56_7 rfl rfl rfl ?_
  refine k_getF K X1 hx hby hZ hown (host := "") (Or.inl (W hw 24 rfl)) Via.refl e1 F_value_a1 d_jdk_42_56_8 rfl fun T2 X2 e2 => ?_
  refine m_iloadN K X2.here hx hby d_jdk_42_56_11 rfl rfl ?_
  refine k_callS K X2 hx hby hZ [(.ref a2), (.int (0 : Int32))] [] hown (W hw 61 rfl) (W hw 62 rfl) (W hw 63 rfl) (W hw 64 rfl) (clc2_0 l Z a0 hw a2 cz vf y0 y1 h0 n0 Z0 A_a2 O0 SS) e2 rfl rfl pd_5 rfl d_jdk_42_56_12 (by rw [hml]; rfl) rfl (by decide) (by decide) (Nat.le_of_ble_eq_true rfl) (by decide) (by decide) fun v3 T3 L3 X3 q3 => ?_
  obtain ⟨rfl, e3, rfl⟩ := q3
  replace X3 := own_px X3
  refine k_some K (w := (.int (LCH y0))) ?_
  exact Go.retN X3 hx hby hlk hret (by simp) d_jdk_42_56_15 (by decide) (by decide) (own_nc _) (⟨rfl, e3, rfl⟩)
def wlc2_1_1 (y1 : Int32) : Int32 := ((y1 &&& (255 : Int32)).toUInt32.toUInt16.toUInt32.toInt32)
theorem eflc2_1 (m : MethodId) (x0 : Addr) (x1 : Int32) : entryFrame m #[(.ref x0), (.int x1)] 2 = mkF m 0 #[.val (.ref x0), .val (.int x1)] [] := by first | (simp [entryFrame, mkF, argsToLocals, Value.category]; done) | rfl
set_option maxRecDepth 65536 in
set_option maxHeartbeats 40000000 in
theorem clc2_1 (l : Launch) (Z : State) (a0 : Array Value) (hw : ∀ d ∈ tables_1, d.before a0 Z = true) (a1 : Addr) (cz : Int32) (vf : Value) (y0 : Int32) (y1 : Int32) (h0 : Heap) (n0 : Nat) (Z0 : n0 ≤ h0.size) (A_a1 : Av Z h0 a1 .byte [(.int y0), (.int y1)]) (O0 : Old Z n0 h0) (SS : SSt Z cz vf) :
    Con l Z (⟨"java/lang/StringLatin1", "charAt", "([BI)C"⟩ : MethodName) jdk_43_method_2_code 2 (some .char) ({ frames := 2, cells := 0, slots := 0, locals := 27 } : Room) [] #[(.ref a1), (.int (1 : Int32))] h0 (fun v h L => v = some (.int (LCH y1)) ∧ h = h0 ∧ L = []) := by
  refine Con.of (plainFor_of_name pn_java_lang_StringLatin1) #[.val (.ref a1), .val (.int (1 : Int32))] (fun m => eflc2_1 m a1 (1 : Int32)) ?_
  intro p e s m below meth c s₁ K hx hby hml hown hnm hret hlk hZ X0 e0
  have N0 := Fr.nil n0
  refine m_iloadN K X0.here hx hby d_jdk_43_2_0 rfl rfl ?_
  refine m_aloadN K X0.here hx hby d_jdk_43_2_1 rfl rfl rfl ?_
  refine k_len K X0 hx hby hZ (2 : Int32) e0 A_a1 rfl d_jdk_43_2_2 rfl ?_
  refine k_callS K X0 hx hby hZ [(.int (1 : Int32)), (.int (2 : Int32))] [] hown (W hw 65 rfl) (W hw 66 rfl) (W hw 7 rfl) (W hw 67 rfl) (cck l Z a0 hw (1 : Int32) (2 : Int32) cz vf h0 n0 Z0 O0 SS (by first | decide | omega) (by first | decide | omega)) e0 rfl rfl pd_3 rfl d_jdk_43_2_3 (by rw [hml]; rfl) rfl (by decide) (by decide) (Nat.le_of_ble_eq_true rfl) (by decide) (by decide) fun v1 T1 L1 X1 q1 => ?_
  obtain ⟨rfl, e1, rfl⟩ := q1
  replace X1 := own_px X1
  refine k_none K ?_
  refine m_aloadN K X1.here hx hby d_jdk_43_2_6 rfl rfl rfl ?_
  refine m_iloadN K X1.here hx hby d_jdk_43_2_7 rfl rfl ?_
  refine k_ldB K X1 hx hby hZ e1 A_a1 (v := (.int y1)) (by decide) rfl d_jdk_43_2_8 rfl ?_
  refine m_sipush K X1.here hx hby (255 : Int32) d_jdk_43_2_9 rfl rfl ?_
  refine m_iand K X1.here hx hby (y1 &&& (255 : Int32)) d_jdk_43_2_12 rfl rfl ?_
  refine m_i2c K X1.here hx hby (wlc2_1_1 y1) d_jdk_43_2_13 rfl rfl ?_
  exact Go.retN X1 hx hby hlk hret (by simp) d_jdk_43_2_14 (by decide) (by decide) (own_nc _) (⟨rfl, e1, rfl⟩)
theorem efcl2_1 (m : MethodId) (x0 : Addr) (x1 : Int32) : entryFrame m #[(.ref x0), (.int x1)] 2 = mkF m 0 #[.val (.ref x0), .val (.int x1)] [] := by first | (simp [entryFrame, mkF, argsToLocals, Value.category]; done) | rfl
set_option maxRecDepth 65536 in
set_option maxHeartbeats 40000000 in
theorem ccl2_1 (l : Launch) (Z : State) (a0 : Array Value) (hw : ∀ d ∈ tables_1, d.before a0 Z = true) (a1 : Addr) (cz : Int32) (vf : Value) (a2 : Addr) (y0 : Int32) (y1 : Int32) (h0 : Heap) (n0 : Nat) (Z0 : n0 ≤ h0.size) (E_a1 : Exa Z h0 a1 "java/lang/String") (F_value_a1 : Fld Z h0 a1 "java/lang/String" "value" "[B" (.ref a2)) (F_coder_a1 : Fld Z h0 a1 "java/lang/String" "coder" "B" (.int (0 : Int32))) (A_a2 : Av Z h0 a2 .byte [(.int y0), (.int y1)]) (O0 : Old Z n0 h0) (SS : SSt Z cz vf) :
    Con l Z (⟨"java/lang/String", "charAt", "(I)C"⟩ : MethodName) jdk_42_method_56_code 2 (some .char) ({ frames := 3, cells := 0, slots := 0, locals := 40 } : Room) [] #[(.ref a1), (.int (1 : Int32))] h0 (fun v h L => v = some (.int (LCH y1)) ∧ h = h0 ∧ L = []) := by
  refine Con.of (plainFor_of_name pn_java_lang_String) #[.val (.ref a1), .val (.int (1 : Int32))] (fun m => efcl2_1 m a1 (1 : Int32)) ?_
  intro p e s m below meth c s₁ K hx hby hml hown hnm hret hlk hZ X0 e0
  have N0 := Fr.nil n0
  refine m_aloadN K X0.here hx hby d_jdk_42_56_0 rfl rfl rfl ?_
  refine k_callV K X0 hx hby hZ a1 [] [] hown (W hw 56 rfl) (W hw 57 rfl) (notFace_of_selects (args := #[]) (mvT hZ (W hw 59 rfl))) (W hw 59 rfl) (W hw 58 rfl) (W hw 7 rfl) (W hw 60 rfl) (cil0 l Z a0 hw a1 cz vf h0 n0 Z0 F_coder_a1 O0 SS) e0 E_a1 rfl rfl pd_6 rfl d_jdk_42_56_1 (by rw [hml]; rfl) rfl (by decide) (by decide) (Nat.le_of_ble_eq_true rfl) (by decide) (by decide) fun v1 T1 L1 X1 q1 => ?_
  obtain ⟨rfl, e1, rfl⟩ := q1
  replace X1 := own_px X1
  refine k_some K (w := (.int (1 : Int32))) ?_
  refine m_ifN K X1.here hx hby (q := 7) d_jdk_42_56_4 ((if0 _ _).trans (feq (by decide : ¬ ((1 : Int32) = (0 : Int32)))).1) rfl ?_
  refine m_aloadN K X1.here hx hby d_jdk_42_56_7 rfl rfl rfl ?_
  refine k_getF K X1 hx hby hZ hown (host := "") (Or.inl (W hw 24 rfl)) Via.refl e1 F_value_a1 d_jdk_42_56_8 rfl fun T2 X2 e2 => ?_
  refine m_iloadN K X2.here hx hby d_jdk_42_56_11 rfl rfl ?_
  refine k_callS K X2 hx hby hZ [(.ref a2), (.int (1 : Int32))] [] hown (W hw 61 rfl) (W hw 62 rfl) (W hw 63 rfl) (W hw 64 rfl) (clc2_1 l Z a0 hw a2 cz vf y0 y1 h0 n0 Z0 A_a2 O0 SS) e2 rfl rfl pd_5 rfl d_jdk_42_56_12 (by rw [hml]; rfl) rfl (by decide) (by decide) (Nat.le_of_ble_eq_true rfl) (by decide) (by decide) fun v3 T3 L3 X3 q3 => ?_
  obtain ⟨rfl, e3, rfl⟩ := q3
  replace X3 := own_px X3
  refine k_some K (w := (.int (LCH y1))) ?_
  exact Go.retN X3 hx hby hlk hret (by simp) d_jdk_42_56_15 (by decide) (by decide) (own_nc _) (⟨rfl, e3, rfl⟩)
theorem efll3 (m : MethodId) (x0 : Addr) : entryFrame m #[(.ref x0)] 1 = mkF m 0 #[.val (.ref x0)] [] := by first | (simp [entryFrame, mkF, argsToLocals, Value.category]; done) | rfl
set_option maxRecDepth 65536 in
set_option maxHeartbeats 40000000 in
theorem cll3 (l : Launch) (Z : State) (a0 : Array Value) (hw : ∀ d ∈ tables_1, d.before a0 Z = true) (a1 : Addr) (cz : Int32) (vf : Value) (a2 : Addr) (y0 : Int32) (y1 : Int32) (y2 : Int32) (h0 : Heap) (n0 : Nat) (Z0 : n0 ≤ h0.size) (E_a1 : Exa Z h0 a1 "java/lang/String") (F_value_a1 : Fld Z h0 a1 "java/lang/String" "value" "[B" (.ref a2)) (F_coder_a1 : Fld Z h0 a1 "java/lang/String" "coder" "B" (.int (0 : Int32))) (A_a2 : Av Z h0 a2 .byte [(.int y0), (.int y1), (.int y2)]) (O0 : Old Z n0 h0) (SS : SSt Z cz vf) :
    Con l Z (⟨"java/lang/String", "length", "()I"⟩ : MethodName) jdk_42_method_54_code 1 (some .int) ({ frames := 1, cells := 0, slots := 0, locals := 13 } : Room) [] #[(.ref a1)] h0 (fun v h L => v = some (.int (3 : Int32)) ∧ h = h0 ∧ L = []) := by
  refine Con.of (plainFor_of_name pn_java_lang_String) #[.val (.ref a1)] (fun m => efll3 m a1) ?_
  intro p e s m below meth c s₁ K hx hby hml hown hnm hret hlk hZ X0 e0
  have N0 := Fr.nil n0
  refine m_aloadN K X0.here hx hby d_jdk_42_54_0 rfl rfl rfl ?_
  refine k_getF K X0 hx hby hZ hown (host := "") (Or.inl (W hw 24 rfl)) Via.refl e0 F_value_a1 d_jdk_42_54_1 rfl fun T1 X1 e1 => ?_
  refine k_len K X1 hx hby hZ (3 : Int32) e1 A_a2 rfl d_jdk_42_54_4 rfl ?_
  refine m_aloadN K X1.here hx hby d_jdk_42_54_5 rfl rfl rfl ?_
  refine k_callV K X1 hx hby hZ a1 [] [(.int (3 : Int32))] hown (W hw 35 rfl) (W hw 36 rfl) (notFace_of_selects (args := #[]) (mvT hZ (W hw 38 rfl))) (W hw 38 rfl) (W hw 37 rfl) (W hw 7 rfl) (W hw 39 rfl) (cco0 l Z a0 hw a1 cz vf h0 n0 Z0 F_coder_a1 O0 SS) e1 E_a1 rfl rfl pd_9 rfl d_jdk_42_54_6 (by rw [hml]; rfl) rfl (by decide) (by decide) (Nat.le_of_ble_eq_true rfl) (by decide) (by decide) fun v2 T2 L2 X2 q2 => ?_
  obtain ⟨rfl, e2, rfl⟩ := q2
  replace X2 := own_px X2
  refine k_some K (w := (.int (0 : Int32))) ?_
  refine m_ishr K X2.here hx hby (3 : Int32) d_jdk_42_54_9 rfl rfl ?_
  exact Go.retI X2 hx hby hlk hret d_jdk_42_54_10 (by decide) (by decide) (⟨rfl, e2, rfl⟩)
def wlc3_0_1 (y0 : Int32) : Int32 := ((y0 &&& (255 : Int32)).toUInt32.toUInt16.toUInt32.toInt32)
theorem eflc3_0 (m : MethodId) (x0 : Addr) (x1 : Int32) : entryFrame m #[(.ref x0), (.int x1)] 2 = mkF m 0 #[.val (.ref x0), .val (.int x1)] [] := by first | (simp [entryFrame, mkF, argsToLocals, Value.category]; done) | rfl
set_option maxRecDepth 65536 in
set_option maxHeartbeats 40000000 in
theorem clc3_0 (l : Launch) (Z : State) (a0 : Array Value) (hw : ∀ d ∈ tables_1, d.before a0 Z = true) (a1 : Addr) (cz : Int32) (vf : Value) (y0 : Int32) (y1 : Int32) (y2 : Int32) (h0 : Heap) (n0 : Nat) (Z0 : n0 ≤ h0.size) (A_a1 : Av Z h0 a1 .byte [(.int y0), (.int y1), (.int y2)]) (O0 : Old Z n0 h0) (SS : SSt Z cz vf) :
    Con l Z (⟨"java/lang/StringLatin1", "charAt", "([BI)C"⟩ : MethodName) jdk_43_method_2_code 2 (some .char) ({ frames := 2, cells := 0, slots := 0, locals := 27 } : Room) [] #[(.ref a1), (.int (0 : Int32))] h0 (fun v h L => v = some (.int (LCH y0)) ∧ h = h0 ∧ L = []) := by
  refine Con.of (plainFor_of_name pn_java_lang_StringLatin1) #[.val (.ref a1), .val (.int (0 : Int32))] (fun m => eflc3_0 m a1 (0 : Int32)) ?_
  intro p e s m below meth c s₁ K hx hby hml hown hnm hret hlk hZ X0 e0
  have N0 := Fr.nil n0
  refine m_iloadN K X0.here hx hby d_jdk_43_2_0 rfl rfl ?_
  refine m_aloadN K X0.here hx hby d_jdk_43_2_1 rfl rfl rfl ?_
  refine k_len K X0 hx hby hZ (3 : Int32) e0 A_a1 rfl d_jdk_43_2_2 rfl ?_
  refine k_callS K X0 hx hby hZ [(.int (0 : Int32)), (.int (3 : Int32))] [] hown (W hw 65 rfl) (W hw 66 rfl) (W hw 7 rfl) (W hw 67 rfl) (cck l Z a0 hw (0 : Int32) (3 : Int32) cz vf h0 n0 Z0 O0 SS (by first | decide | omega) (by first | decide | omega)) e0 rfl rfl pd_3 rfl d_jdk_43_2_3 (by rw [hml]; rfl) rfl (by decide) (by decide) (Nat.le_of_ble_eq_true rfl) (by decide) (by decide) fun v1 T1 L1 X1 q1 => ?_
  obtain ⟨rfl, e1, rfl⟩ := q1
  replace X1 := own_px X1
  refine k_none K ?_
  refine m_aloadN K X1.here hx hby d_jdk_43_2_6 rfl rfl rfl ?_
  refine m_iloadN K X1.here hx hby d_jdk_43_2_7 rfl rfl ?_
  refine k_ldB K X1 hx hby hZ e1 A_a1 (v := (.int y0)) (by decide) rfl d_jdk_43_2_8 rfl ?_
  refine m_sipush K X1.here hx hby (255 : Int32) d_jdk_43_2_9 rfl rfl ?_
  refine m_iand K X1.here hx hby (y0 &&& (255 : Int32)) d_jdk_43_2_12 rfl rfl ?_
  refine m_i2c K X1.here hx hby (wlc3_0_1 y0) d_jdk_43_2_13 rfl rfl ?_
  exact Go.retN X1 hx hby hlk hret (by simp) d_jdk_43_2_14 (by decide) (by decide) (own_nc _) (⟨rfl, e1, rfl⟩)
theorem efcl3_0 (m : MethodId) (x0 : Addr) (x1 : Int32) : entryFrame m #[(.ref x0), (.int x1)] 2 = mkF m 0 #[.val (.ref x0), .val (.int x1)] [] := by first | (simp [entryFrame, mkF, argsToLocals, Value.category]; done) | rfl
set_option maxRecDepth 65536 in
set_option maxHeartbeats 40000000 in
theorem ccl3_0 (l : Launch) (Z : State) (a0 : Array Value) (hw : ∀ d ∈ tables_1, d.before a0 Z = true) (a1 : Addr) (cz : Int32) (vf : Value) (a2 : Addr) (y0 : Int32) (y1 : Int32) (y2 : Int32) (h0 : Heap) (n0 : Nat) (Z0 : n0 ≤ h0.size) (E_a1 : Exa Z h0 a1 "java/lang/String") (F_value_a1 : Fld Z h0 a1 "java/lang/String" "value" "[B" (.ref a2)) (F_coder_a1 : Fld Z h0 a1 "java/lang/String" "coder" "B" (.int (0 : Int32))) (A_a2 : Av Z h0 a2 .byte [(.int y0), (.int y1), (.int y2)]) (O0 : Old Z n0 h0) (SS : SSt Z cz vf) :
    Con l Z (⟨"java/lang/String", "charAt", "(I)C"⟩ : MethodName) jdk_42_method_56_code 2 (some .char) ({ frames := 3, cells := 0, slots := 0, locals := 40 } : Room) [] #[(.ref a1), (.int (0 : Int32))] h0 (fun v h L => v = some (.int (LCH y0)) ∧ h = h0 ∧ L = []) := by
  refine Con.of (plainFor_of_name pn_java_lang_String) #[.val (.ref a1), .val (.int (0 : Int32))] (fun m => efcl3_0 m a1 (0 : Int32)) ?_
  intro p e s m below meth c s₁ K hx hby hml hown hnm hret hlk hZ X0 e0
  have N0 := Fr.nil n0
  refine m_aloadN K X0.here hx hby d_jdk_42_56_0 rfl rfl rfl ?_
  refine k_callV K X0 hx hby hZ a1 [] [] hown (W hw 56 rfl) (W hw 57 rfl) (notFace_of_selects (args := #[]) (mvT hZ (W hw 59 rfl))) (W hw 59 rfl) (W hw 58 rfl) (W hw 7 rfl) (W hw 60 rfl) (cil0 l Z a0 hw a1 cz vf h0 n0 Z0 F_coder_a1 O0 SS) e0 E_a1 rfl rfl pd_6 rfl d_jdk_42_56_1 (by rw [hml]; rfl) rfl (by decide) (by decide) (Nat.le_of_ble_eq_true rfl) (by decide) (by decide) fun v1 T1 L1 X1 q1 => ?_
  obtain ⟨rfl, e1, rfl⟩ := q1
  replace X1 := own_px X1
  refine k_some K (w := (.int (1 : Int32))) ?_
  refine m_ifN K X1.here hx hby (q := 7) d_jdk_42_56_4 ((if0 _ _).trans (feq (by decide : ¬ ((1 : Int32) = (0 : Int32)))).1) rfl ?_
  refine m_aloadN K X1.here hx hby d_jdk_42_56_7 rfl rfl rfl ?_
  refine k_getF K X1 hx hby hZ hown (host := "") (Or.inl (W hw 24 rfl)) Via.refl e1 F_value_a1 d_jdk_42_56_8 rfl fun T2 X2 e2 => ?_
  refine m_iloadN K X2.here hx hby d_jdk_42_56_11 rfl rfl ?_
  refine k_callS K X2 hx hby hZ [(.ref a2), (.int (0 : Int32))] [] hown (W hw 61 rfl) (W hw 62 rfl) (W hw 63 rfl) (W hw 64 rfl) (clc3_0 l Z a0 hw a2 cz vf y0 y1 y2 h0 n0 Z0 A_a2 O0 SS) e2 rfl rfl pd_5 rfl d_jdk_42_56_12 (by rw [hml]; rfl) rfl (by decide) (by decide) (Nat.le_of_ble_eq_true rfl) (by decide) (by decide) fun v3 T3 L3 X3 q3 => ?_
  obtain ⟨rfl, e3, rfl⟩ := q3
  replace X3 := own_px X3
  refine k_some K (w := (.int (LCH y0))) ?_
  exact Go.retN X3 hx hby hlk hret (by simp) d_jdk_42_56_15 (by decide) (by decide) (own_nc _) (⟨rfl, e3, rfl⟩)
def wlc3_1_1 (y1 : Int32) : Int32 := ((y1 &&& (255 : Int32)).toUInt32.toUInt16.toUInt32.toInt32)
theorem eflc3_1 (m : MethodId) (x0 : Addr) (x1 : Int32) : entryFrame m #[(.ref x0), (.int x1)] 2 = mkF m 0 #[.val (.ref x0), .val (.int x1)] [] := by first | (simp [entryFrame, mkF, argsToLocals, Value.category]; done) | rfl
set_option maxRecDepth 65536 in
set_option maxHeartbeats 40000000 in
theorem clc3_1 (l : Launch) (Z : State) (a0 : Array Value) (hw : ∀ d ∈ tables_1, d.before a0 Z = true) (a1 : Addr) (cz : Int32) (vf : Value) (y0 : Int32) (y1 : Int32) (y2 : Int32) (h0 : Heap) (n0 : Nat) (Z0 : n0 ≤ h0.size) (A_a1 : Av Z h0 a1 .byte [(.int y0), (.int y1), (.int y2)]) (O0 : Old Z n0 h0) (SS : SSt Z cz vf) :
    Con l Z (⟨"java/lang/StringLatin1", "charAt", "([BI)C"⟩ : MethodName) jdk_43_method_2_code 2 (some .char) ({ frames := 2, cells := 0, slots := 0, locals := 27 } : Room) [] #[(.ref a1), (.int (1 : Int32))] h0 (fun v h L => v = some (.int (LCH y1)) ∧ h = h0 ∧ L = []) := by
  refine Con.of (plainFor_of_name pn_java_lang_StringLatin1) #[.val (.ref a1), .val (.int (1 : Int32))] (fun m => eflc3_1 m a1 (1 : Int32)) ?_
  intro p e s m below meth c s₁ K hx hby hml hown hnm hret hlk hZ X0 e0
  have N0 := Fr.nil n0
  refine m_iloadN K X0.here hx hby d_jdk_43_2_0 rfl rfl ?_
  refine m_aloadN K X0.here hx hby d_jdk_43_2_1 rfl rfl rfl ?_
  refine k_len K X0 hx hby hZ (3 : Int32) e0 A_a1 rfl d_jdk_43_2_2 rfl ?_
  refine k_callS K X0 hx hby hZ [(.int (1 : Int32)), (.int (3 : Int32))] [] hown (W hw 65 rfl) (W hw 66 rfl) (W hw 7 rfl) (W hw 67 rfl) (cck l Z a0 hw (1 : Int32) (3 : Int32) cz vf h0 n0 Z0 O0 SS (by first | decide | omega) (by first | decide | omega)) e0 rfl rfl pd_3 rfl d_jdk_43_2_3 (by rw [hml]; rfl) rfl (by decide) (by decide) (Nat.le_of_ble_eq_true rfl) (by decide) (by decide) fun v1 T1 L1 X1 q1 => ?_
  obtain ⟨rfl, e1, rfl⟩ := q1
  replace X1 := own_px X1
  refine k_none K ?_
  refine m_aloadN K X1.here hx hby d_jdk_43_2_6 rfl rfl rfl ?_
  refine m_iloadN K X1.here hx hby d_jdk_43_2_7 rfl rfl ?_
  refine k_ldB K X1 hx hby hZ e1 A_a1 (v := (.int y1)) (by decide) rfl d_jdk_43_2_8 rfl ?_
  refine m_sipush K X1.here hx hby (255 : Int32) d_jdk_43_2_9 rfl rfl ?_
  refine m_iand K X1.here hx hby (y1 &&& (255 : Int32)) d_jdk_43_2_12 rfl rfl ?_
  refine m_i2c K X1.here hx hby (wlc3_1_1 y1) d_jdk_43_2_13 rfl rfl ?_
  exact Go.retN X1 hx hby hlk hret (by simp) d_jdk_43_2_14 (by decide) (by decide) (own_nc _) (⟨rfl, e1, rfl⟩)
theorem efcl3_1 (m : MethodId) (x0 : Addr) (x1 : Int32) : entryFrame m #[(.ref x0), (.int x1)] 2 = mkF m 0 #[.val (.ref x0), .val (.int x1)] [] := by first | (simp [entryFrame, mkF, argsToLocals, Value.category]; done) | rfl
set_option maxRecDepth 65536 in
set_option maxHeartbeats 40000000 in
theorem ccl3_1 (l : Launch) (Z : State) (a0 : Array Value) (hw : ∀ d ∈ tables_1, d.before a0 Z = true) (a1 : Addr) (cz : Int32) (vf : Value) (a2 : Addr) (y0 : Int32) (y1 : Int32) (y2 : Int32) (h0 : Heap) (n0 : Nat) (Z0 : n0 ≤ h0.size) (E_a1 : Exa Z h0 a1 "java/lang/String") (F_value_a1 : Fld Z h0 a1 "java/lang/String" "value" "[B" (.ref a2)) (F_coder_a1 : Fld Z h0 a1 "java/lang/String" "coder" "B" (.int (0 : Int32))) (A_a2 : Av Z h0 a2 .byte [(.int y0), (.int y1), (.int y2)]) (O0 : Old Z n0 h0) (SS : SSt Z cz vf) :
    Con l Z (⟨"java/lang/String", "charAt", "(I)C"⟩ : MethodName) jdk_42_method_56_code 2 (some .char) ({ frames := 3, cells := 0, slots := 0, locals := 40 } : Room) [] #[(.ref a1), (.int (1 : Int32))] h0 (fun v h L => v = some (.int (LCH y1)) ∧ h = h0 ∧ L = []) := by
  refine Con.of (plainFor_of_name pn_java_lang_String) #[.val (.ref a1), .val (.int (1 : Int32))] (fun m => efcl3_1 m a1 (1 : Int32)) ?_
  intro p e s m below meth c s₁ K hx hby hml hown hnm hret hlk hZ X0 e0
  have N0 := Fr.nil n0
  refine m_aloadN K X0.here hx hby d_jdk_42_56_0 rfl rfl rfl ?_
  refine k_callV K X0 hx hby hZ a1 [] [] hown (W hw 56 rfl) (W hw 57 rfl) (notFace_of_selects (args := #[]) (mvT hZ (W hw 59 rfl))) (W hw 59 rfl) (W hw 58 rfl) (W hw 7 rfl) (W hw 60 rfl) (cil0 l Z a0 hw a1 cz vf h0 n0 Z0 F_coder_a1 O0 SS) e0 E_a1 rfl rfl pd_6 rfl d_jdk_42_56_1 (by rw [hml]; rfl) rfl (by decide) (by decide) (Nat.le_of_ble_eq_true rfl) (by decide) (by decide) fun v1 T1 L1 X1 q1 => ?_
  obtain ⟨rfl, e1, rfl⟩ := q1
  replace X1 := own_px X1
  refine k_some K (w := (.int (1 : Int32))) ?_
  refine m_ifN K X1.here hx hby (q := 7) d_jdk_42_56_4 ((if0 _ _).trans (feq (by decide : ¬ ((1 : Int32) = (0 : Int32)))).1) rfl ?_
  refine m_aloadN K X1.here hx hby d_jdk_42_56_7 rfl rfl rfl ?_
  refine k_getF K X1 hx hby hZ hown (host := "") (Or.inl (W hw 24 rfl)) Via.refl e1 F_value_a1 d_jdk_42_56_8 rfl fun T2 X2 e2 => ?_
  refine m_iloadN K X2.here hx hby d_jdk_42_56_11 rfl rfl ?_
  refine k_callS K X2 hx hby hZ [(.ref a2), (.int (1 : Int32))] [] hown (W hw 61 rfl) (W hw 62 rfl) (W hw 63 rfl) (W hw 64 rfl) (clc3_1 l Z a0 hw a2 cz vf y0 y1 y2 h0 n0 Z0 A_a2 O0 SS) e2 rfl rfl pd_5 rfl d_jdk_42_56_12 (by rw [hml]; rfl) rfl (by decide) (by decide) (Nat.le_of_ble_eq_true rfl) (by decide) (by decide) fun v3 T3 L3 X3 q3 => ?_
  obtain ⟨rfl, e3, rfl⟩ := q3
  replace X3 := own_px X3
  refine k_some K (w := (.int (LCH y1))) ?_
  exact Go.retN X3 hx hby hlk hret (by simp) d_jdk_42_56_15 (by decide) (by decide) (own_nc _) (⟨rfl, e3, rfl⟩)
def wlc3_2_1 (y2 : Int32) : Int32 := ((y2 &&& (255 : Int32)).toUInt32.toUInt16.toUInt32.toInt32)
theorem eflc3_2 (m : MethodId) (x0 : Addr) (x1 : Int32) : entryFrame m #[(.ref x0), (.int x1)] 2 = mkF m 0 #[.val (.ref x0), .val (.int x1)] [] := by first | (simp [entryFrame, mkF, argsToLocals, Value.category]; done) | rfl
set_option maxRecDepth 65536 in
set_option maxHeartbeats 40000000 in
theorem clc3_2 (l : Launch) (Z : State) (a0 : Array Value) (hw : ∀ d ∈ tables_1, d.before a0 Z = true) (a1 : Addr) (cz : Int32) (vf : Value) (y0 : Int32) (y1 : Int32) (y2 : Int32) (h0 : Heap) (n0 : Nat) (Z0 : n0 ≤ h0.size) (A_a1 : Av Z h0 a1 .byte [(.int y0), (.int y1), (.int y2)]) (O0 : Old Z n0 h0) (SS : SSt Z cz vf) :
    Con l Z (⟨"java/lang/StringLatin1", "charAt", "([BI)C"⟩ : MethodName) jdk_43_method_2_code 2 (some .char) ({ frames := 2, cells := 0, slots := 0, locals := 27 } : Room) [] #[(.ref a1), (.int (2 : Int32))] h0 (fun v h L => v = some (.int (LCH y2)) ∧ h = h0 ∧ L = []) := by
  refine Con.of (plainFor_of_name pn_java_lang_StringLatin1) #[.val (.ref a1), .val (.int (2 : Int32))] (fun m => eflc3_2 m a1 (2 : Int32)) ?_
  intro p e s m below meth c s₁ K hx hby hml hown hnm hret hlk hZ X0 e0
  have N0 := Fr.nil n0
  refine m_iloadN K X0.here hx hby d_jdk_43_2_0 rfl rfl ?_
  refine m_aloadN K X0.here hx hby d_jdk_43_2_1 rfl rfl rfl ?_
  refine k_len K X0 hx hby hZ (3 : Int32) e0 A_a1 rfl d_jdk_43_2_2 rfl ?_
  refine k_callS K X0 hx hby hZ [(.int (2 : Int32)), (.int (3 : Int32))] [] hown (W hw 65 rfl) (W hw 66 rfl) (W hw 7 rfl) (W hw 67 rfl) (cck l Z a0 hw (2 : Int32) (3 : Int32) cz vf h0 n0 Z0 O0 SS (by first | decide | omega) (by first | decide | omega)) e0 rfl rfl pd_3 rfl d_jdk_43_2_3 (by rw [hml]; rfl) rfl (by decide) (by decide) (Nat.le_of_ble_eq_true rfl) (by decide) (by decide) fun v1 T1 L1 X1 q1 => ?_
  obtain ⟨rfl, e1, rfl⟩ := q1
  replace X1 := own_px X1
  refine k_none K ?_
  refine m_aloadN K X1.here hx hby d_jdk_43_2_6 rfl rfl rfl ?_
  refine m_iloadN K X1.here hx hby d_jdk_43_2_7 rfl rfl ?_
  refine k_ldB K X1 hx hby hZ e1 A_a1 (v := (.int y2)) (by decide) rfl d_jdk_43_2_8 rfl ?_
  refine m_sipush K X1.here hx hby (255 : Int32) d_jdk_43_2_9 rfl rfl ?_
  refine m_iand K X1.here hx hby (y2 &&& (255 : Int32)) d_jdk_43_2_12 rfl rfl ?_
  refine m_i2c K X1.here hx hby (wlc3_2_1 y2) d_jdk_43_2_13 rfl rfl ?_
  exact Go.retN X1 hx hby hlk hret (by simp) d_jdk_43_2_14 (by decide) (by decide) (own_nc _) (⟨rfl, e1, rfl⟩)
theorem efcl3_2 (m : MethodId) (x0 : Addr) (x1 : Int32) : entryFrame m #[(.ref x0), (.int x1)] 2 = mkF m 0 #[.val (.ref x0), .val (.int x1)] [] := by first | (simp [entryFrame, mkF, argsToLocals, Value.category]; done) | rfl
set_option maxRecDepth 65536 in
set_option maxHeartbeats 40000000 in
theorem ccl3_2 (l : Launch) (Z : State) (a0 : Array Value) (hw : ∀ d ∈ tables_1, d.before a0 Z = true) (a1 : Addr) (cz : Int32) (vf : Value) (a2 : Addr) (y0 : Int32) (y1 : Int32) (y2 : Int32) (h0 : Heap) (n0 : Nat) (Z0 : n0 ≤ h0.size) (E_a1 : Exa Z h0 a1 "java/lang/String") (F_value_a1 : Fld Z h0 a1 "java/lang/String" "value" "[B" (.ref a2)) (F_coder_a1 : Fld Z h0 a1 "java/lang/String" "coder" "B" (.int (0 : Int32))) (A_a2 : Av Z h0 a2 .byte [(.int y0), (.int y1), (.int y2)]) (O0 : Old Z n0 h0) (SS : SSt Z cz vf) :
    Con l Z (⟨"java/lang/String", "charAt", "(I)C"⟩ : MethodName) jdk_42_method_56_code 2 (some .char) ({ frames := 3, cells := 0, slots := 0, locals := 40 } : Room) [] #[(.ref a1), (.int (2 : Int32))] h0 (fun v h L => v = some (.int (LCH y2)) ∧ h = h0 ∧ L = []) := by
  refine Con.of (plainFor_of_name pn_java_lang_String) #[.val (.ref a1), .val (.int (2 : Int32))] (fun m => efcl3_2 m a1 (2 : Int32)) ?_
  intro p e s m below meth c s₁ K hx hby hml hown hnm hret hlk hZ X0 e0
  have N0 := Fr.nil n0
  refine m_aloadN K X0.here hx hby d_jdk_42_56_0 rfl rfl rfl ?_
  refine k_callV K X0 hx hby hZ a1 [] [] hown (W hw 56 rfl) (W hw 57 rfl) (notFace_of_selects (args := #[]) (mvT hZ (W hw 59 rfl))) (W hw 59 rfl) (W hw 58 rfl) (W hw 7 rfl) (W hw 60 rfl) (cil0 l Z a0 hw a1 cz vf h0 n0 Z0 F_coder_a1 O0 SS) e0 E_a1 rfl rfl pd_6 rfl d_jdk_42_56_1 (by rw [hml]; rfl) rfl (by decide) (by decide) (Nat.le_of_ble_eq_true rfl) (by decide) (by decide) fun v1 T1 L1 X1 q1 => ?_
  obtain ⟨rfl, e1, rfl⟩ := q1
  replace X1 := own_px X1
  refine k_some K (w := (.int (1 : Int32))) ?_
  refine m_ifN K X1.here hx hby (q := 7) d_jdk_42_56_4 ((if0 _ _).trans (feq (by decide : ¬ ((1 : Int32) = (0 : Int32)))).1) rfl ?_
  refine m_aloadN K X1.here hx hby d_jdk_42_56_7 rfl rfl rfl ?_
  refine k_getF K X1 hx hby hZ hown (host := "") (Or.inl (W hw 24 rfl)) Via.refl e1 F_value_a1 d_jdk_42_56_8 rfl fun T2 X2 e2 => ?_
  refine m_iloadN K X2.here hx hby d_jdk_42_56_11 rfl rfl ?_
  refine k_callS K X2 hx hby hZ [(.ref a2), (.int (2 : Int32))] [] hown (W hw 61 rfl) (W hw 62 rfl) (W hw 63 rfl) (W hw 64 rfl) (clc3_2 l Z a0 hw a2 cz vf y0 y1 y2 h0 n0 Z0 A_a2 O0 SS) e2 rfl rfl pd_5 rfl d_jdk_42_56_12 (by rw [hml]; rfl) rfl (by decide) (by decide) (Nat.le_of_ble_eq_true rfl) (by decide) (by decide) fun v3 T3 L3 X3 q3 => ?_
  obtain ⟨rfl, e3, rfl⟩ := q3
  replace X3 := own_px X3
  refine k_some K (w := (.int (LCH y2))) ?_
  exact Go.retN X3 hx hby hlk hret (by simp) d_jdk_42_56_15 (by decide) (by decide) (own_nc _) (⟨rfl, e3, rfl⟩)
theorem efll4 (m : MethodId) (x0 : Addr) : entryFrame m #[(.ref x0)] 1 = mkF m 0 #[.val (.ref x0)] [] := by first | (simp [entryFrame, mkF, argsToLocals, Value.category]; done) | rfl
set_option maxRecDepth 65536 in
set_option maxHeartbeats 40000000 in
theorem cll4 (l : Launch) (Z : State) (a0 : Array Value) (hw : ∀ d ∈ tables_1, d.before a0 Z = true) (a1 : Addr) (cz : Int32) (vf : Value) (a2 : Addr) (y0 : Int32) (y1 : Int32) (y2 : Int32) (y3 : Int32) (h0 : Heap) (n0 : Nat) (Z0 : n0 ≤ h0.size) (E_a1 : Exa Z h0 a1 "java/lang/String") (F_value_a1 : Fld Z h0 a1 "java/lang/String" "value" "[B" (.ref a2)) (F_coder_a1 : Fld Z h0 a1 "java/lang/String" "coder" "B" (.int (0 : Int32))) (A_a2 : Av Z h0 a2 .byte [(.int y0), (.int y1), (.int y2), (.int y3)]) (O0 : Old Z n0 h0) (SS : SSt Z cz vf) :
    Con l Z (⟨"java/lang/String", "length", "()I"⟩ : MethodName) jdk_42_method_54_code 1 (some .int) ({ frames := 1, cells := 0, slots := 0, locals := 13 } : Room) [] #[(.ref a1)] h0 (fun v h L => v = some (.int (4 : Int32)) ∧ h = h0 ∧ L = []) := by
  refine Con.of (plainFor_of_name pn_java_lang_String) #[.val (.ref a1)] (fun m => efll4 m a1) ?_
  intro p e s m below meth c s₁ K hx hby hml hown hnm hret hlk hZ X0 e0
  have N0 := Fr.nil n0
  refine m_aloadN K X0.here hx hby d_jdk_42_54_0 rfl rfl rfl ?_
  refine k_getF K X0 hx hby hZ hown (host := "") (Or.inl (W hw 24 rfl)) Via.refl e0 F_value_a1 d_jdk_42_54_1 rfl fun T1 X1 e1 => ?_
  refine k_len K X1 hx hby hZ (4 : Int32) e1 A_a2 rfl d_jdk_42_54_4 rfl ?_
  refine m_aloadN K X1.here hx hby d_jdk_42_54_5 rfl rfl rfl ?_
  refine k_callV K X1 hx hby hZ a1 [] [(.int (4 : Int32))] hown (W hw 35 rfl) (W hw 36 rfl) (notFace_of_selects (args := #[]) (mvT hZ (W hw 38 rfl))) (W hw 38 rfl) (W hw 37 rfl) (W hw 7 rfl) (W hw 39 rfl) (cco0 l Z a0 hw a1 cz vf h0 n0 Z0 F_coder_a1 O0 SS) e1 E_a1 rfl rfl pd_9 rfl d_jdk_42_54_6 (by rw [hml]; rfl) rfl (by decide) (by decide) (Nat.le_of_ble_eq_true rfl) (by decide) (by decide) fun v2 T2 L2 X2 q2 => ?_
  obtain ⟨rfl, e2, rfl⟩ := q2
  replace X2 := own_px X2
  refine k_some K (w := (.int (0 : Int32))) ?_
  refine m_ishr K X2.here hx hby (4 : Int32) d_jdk_42_54_9 rfl rfl ?_
  exact Go.retI X2 hx hby hlk hret d_jdk_42_54_10 (by decide) (by decide) (⟨rfl, e2, rfl⟩)
def wlc4_0_1 (y0 : Int32) : Int32 := ((y0 &&& (255 : Int32)).toUInt32.toUInt16.toUInt32.toInt32)
theorem eflc4_0 (m : MethodId) (x0 : Addr) (x1 : Int32) : entryFrame m #[(.ref x0), (.int x1)] 2 = mkF m 0 #[.val (.ref x0), .val (.int x1)] [] := by first | (simp [entryFrame, mkF, argsToLocals, Value.category]; done) | rfl
set_option maxRecDepth 65536 in
set_option maxHeartbeats 40000000 in
theorem clc4_0 (l : Launch) (Z : State) (a0 : Array Value) (hw : ∀ d ∈ tables_1, d.before a0 Z = true) (a1 : Addr) (cz : Int32) (vf : Value) (y0 : Int32) (y1 : Int32) (y2 : Int32) (y3 : Int32) (h0 : Heap) (n0 : Nat) (Z0 : n0 ≤ h0.size) (A_a1 : Av Z h0 a1 .byte [(.int y0), (.int y1), (.int y2), (.int y3)]) (O0 : Old Z n0 h0) (SS : SSt Z cz vf) :
    Con l Z (⟨"java/lang/StringLatin1", "charAt", "([BI)C"⟩ : MethodName) jdk_43_method_2_code 2 (some .char) ({ frames := 2, cells := 0, slots := 0, locals := 27 } : Room) [] #[(.ref a1), (.int (0 : Int32))] h0 (fun v h L => v = some (.int (LCH y0)) ∧ h = h0 ∧ L = []) := by
  refine Con.of (plainFor_of_name pn_java_lang_StringLatin1) #[.val (.ref a1), .val (.int (0 : Int32))] (fun m => eflc4_0 m a1 (0 : Int32)) ?_
  intro p e s m below meth c s₁ K hx hby hml hown hnm hret hlk hZ X0 e0
  have N0 := Fr.nil n0
  refine m_iloadN K X0.here hx hby d_jdk_43_2_0 rfl rfl ?_
  refine m_aloadN K X0.here hx hby d_jdk_43_2_1 rfl rfl rfl ?_
  refine k_len K X0 hx hby hZ (4 : Int32) e0 A_a1 rfl d_jdk_43_2_2 rfl ?_
  refine k_callS K X0 hx hby hZ [(.int (0 : Int32)), (.int (4 : Int32))] [] hown (W hw 65 rfl) (W hw 66 rfl) (W hw 7 rfl) (W hw 67 rfl) (cck l Z a0 hw (0 : Int32) (4 : Int32) cz vf h0 n0 Z0 O0 SS (by first | decide | omega) (by first | decide | omega)) e0 rfl rfl pd_3 rfl d_jdk_43_2_3 (by rw [hml]; rfl) rfl (by decide) (by decide) (Nat.le_of_ble_eq_true rfl) (by decide) (by decide) fun v1 T1 L1 X1 q1 => ?_
  obtain ⟨rfl, e1, rfl⟩ := q1
  replace X1 := own_px X1
  refine k_none K ?_
  refine m_aloadN K X1.here hx hby d_jdk_43_2_6 rfl rfl rfl ?_
  refine m_iloadN K X1.here hx hby d_jdk_43_2_7 rfl rfl ?_
  refine k_ldB K X1 hx hby hZ e1 A_a1 (v := (.int y0)) (by decide) rfl d_jdk_43_2_8 rfl ?_
  refine m_sipush K X1.here hx hby (255 : Int32) d_jdk_43_2_9 rfl rfl ?_
  refine m_iand K X1.here hx hby (y0 &&& (255 : Int32)) d_jdk_43_2_12 rfl rfl ?_
  refine m_i2c K X1.here hx hby (wlc4_0_1 y0) d_jdk_43_2_13 rfl rfl ?_
  exact Go.retN X1 hx hby hlk hret (by simp) d_jdk_43_2_14 (by decide) (by decide) (own_nc _) (⟨rfl, e1, rfl⟩)
theorem efcl4_0 (m : MethodId) (x0 : Addr) (x1 : Int32) : entryFrame m #[(.ref x0), (.int x1)] 2 = mkF m 0 #[.val (.ref x0), .val (.int x1)] [] := by first | (simp [entryFrame, mkF, argsToLocals, Value.category]; done) | rfl
set_option maxRecDepth 65536 in
set_option maxHeartbeats 40000000 in
theorem ccl4_0 (l : Launch) (Z : State) (a0 : Array Value) (hw : ∀ d ∈ tables_1, d.before a0 Z = true) (a1 : Addr) (cz : Int32) (vf : Value) (a2 : Addr) (y0 : Int32) (y1 : Int32) (y2 : Int32) (y3 : Int32) (h0 : Heap) (n0 : Nat) (Z0 : n0 ≤ h0.size) (E_a1 : Exa Z h0 a1 "java/lang/String") (F_value_a1 : Fld Z h0 a1 "java/lang/String" "value" "[B" (.ref a2)) (F_coder_a1 : Fld Z h0 a1 "java/lang/String" "coder" "B" (.int (0 : Int32))) (A_a2 : Av Z h0 a2 .byte [(.int y0), (.int y1), (.int y2), (.int y3)]) (O0 : Old Z n0 h0) (SS : SSt Z cz vf) :
    Con l Z (⟨"java/lang/String", "charAt", "(I)C"⟩ : MethodName) jdk_42_method_56_code 2 (some .char) ({ frames := 3, cells := 0, slots := 0, locals := 40 } : Room) [] #[(.ref a1), (.int (0 : Int32))] h0 (fun v h L => v = some (.int (LCH y0)) ∧ h = h0 ∧ L = []) := by
  refine Con.of (plainFor_of_name pn_java_lang_String) #[.val (.ref a1), .val (.int (0 : Int32))] (fun m => efcl4_0 m a1 (0 : Int32)) ?_
  intro p e s m below meth c s₁ K hx hby hml hown hnm hret hlk hZ X0 e0
  have N0 := Fr.nil n0
  refine m_aloadN K X0.here hx hby d_jdk_42_56_0 rfl rfl rfl ?_
  refine k_callV K X0 hx hby hZ a1 [] [] hown (W hw 56 rfl) (W hw 57 rfl) (notFace_of_selects (args := #[]) (mvT hZ (W hw 59 rfl))) (W hw 59 rfl) (W hw 58 rfl) (W hw 7 rfl) (W hw 60 rfl) (cil0 l Z a0 hw a1 cz vf h0 n0 Z0 F_coder_a1 O0 SS) e0 E_a1 rfl rfl pd_6 rfl d_jdk_42_56_1 (by rw [hml]; rfl) rfl (by decide) (by decide) (Nat.le_of_ble_eq_true rfl) (by decide) (by decide) fun v1 T1 L1 X1 q1 => ?_
  obtain ⟨rfl, e1, rfl⟩ := q1
  replace X1 := own_px X1
  refine k_some K (w := (.int (1 : Int32))) ?_
  refine m_ifN K X1.here hx hby (q := 7) d_jdk_42_56_4 ((if0 _ _).trans (feq (by decide : ¬ ((1 : Int32) = (0 : Int32)))).1) rfl ?_
  refine m_aloadN K X1.here hx hby d_jdk_42_56_7 rfl rfl rfl ?_
  refine k_getF K X1 hx hby hZ hown (host := "") (Or.inl (W hw 24 rfl)) Via.refl e1 F_value_a1 d_jdk_42_56_8 rfl fun T2 X2 e2 => ?_
  refine m_iloadN K X2.here hx hby d_jdk_42_56_11 rfl rfl ?_
  refine k_callS K X2 hx hby hZ [(.ref a2), (.int (0 : Int32))] [] hown (W hw 61 rfl) (W hw 62 rfl) (W hw 63 rfl) (W hw 64 rfl) (clc4_0 l Z a0 hw a2 cz vf y0 y1 y2 y3 h0 n0 Z0 A_a2 O0 SS) e2 rfl rfl pd_5 rfl d_jdk_42_56_12 (by rw [hml]; rfl) rfl (by decide) (by decide) (Nat.le_of_ble_eq_true rfl) (by decide) (by decide) fun v3 T3 L3 X3 q3 => ?_
  obtain ⟨rfl, e3, rfl⟩ := q3
  replace X3 := own_px X3
  refine k_some K (w := (.int (LCH y0))) ?_
  exact Go.retN X3 hx hby hlk hret (by simp) d_jdk_42_56_15 (by decide) (by decide) (own_nc _) (⟨rfl, e3, rfl⟩)
def wlc4_1_1 (y1 : Int32) : Int32 := ((y1 &&& (255 : Int32)).toUInt32.toUInt16.toUInt32.toInt32)
theorem eflc4_1 (m : MethodId) (x0 : Addr) (x1 : Int32) : entryFrame m #[(.ref x0), (.int x1)] 2 = mkF m 0 #[.val (.ref x0), .val (.int x1)] [] := by first | (simp [entryFrame, mkF, argsToLocals, Value.category]; done) | rfl
set_option maxRecDepth 65536 in
set_option maxHeartbeats 40000000 in
theorem clc4_1 (l : Launch) (Z : State) (a0 : Array Value) (hw : ∀ d ∈ tables_1, d.before a0 Z = true) (a1 : Addr) (cz : Int32) (vf : Value) (y0 : Int32) (y1 : Int32) (y2 : Int32) (y3 : Int32) (h0 : Heap) (n0 : Nat) (Z0 : n0 ≤ h0.size) (A_a1 : Av Z h0 a1 .byte [(.int y0), (.int y1), (.int y2), (.int y3)]) (O0 : Old Z n0 h0) (SS : SSt Z cz vf) :
    Con l Z (⟨"java/lang/StringLatin1", "charAt", "([BI)C"⟩ : MethodName) jdk_43_method_2_code 2 (some .char) ({ frames := 2, cells := 0, slots := 0, locals := 27 } : Room) [] #[(.ref a1), (.int (1 : Int32))] h0 (fun v h L => v = some (.int (LCH y1)) ∧ h = h0 ∧ L = []) := by
  refine Con.of (plainFor_of_name pn_java_lang_StringLatin1) #[.val (.ref a1), .val (.int (1 : Int32))] (fun m => eflc4_1 m a1 (1 : Int32)) ?_
  intro p e s m below meth c s₁ K hx hby hml hown hnm hret hlk hZ X0 e0
  have N0 := Fr.nil n0
  refine m_iloadN K X0.here hx hby d_jdk_43_2_0 rfl rfl ?_
  refine m_aloadN K X0.here hx hby d_jdk_43_2_1 rfl rfl rfl ?_
  refine k_len K X0 hx hby hZ (4 : Int32) e0 A_a1 rfl d_jdk_43_2_2 rfl ?_
  refine k_callS K X0 hx hby hZ [(.int (1 : Int32)), (.int (4 : Int32))] [] hown (W hw 65 rfl) (W hw 66 rfl) (W hw 7 rfl) (W hw 67 rfl) (cck l Z a0 hw (1 : Int32) (4 : Int32) cz vf h0 n0 Z0 O0 SS (by first | decide | omega) (by first | decide | omega)) e0 rfl rfl pd_3 rfl d_jdk_43_2_3 (by rw [hml]; rfl) rfl (by decide) (by decide) (Nat.le_of_ble_eq_true rfl) (by decide) (by decide) fun v1 T1 L1 X1 q1 => ?_
  obtain ⟨rfl, e1, rfl⟩ := q1
  replace X1 := own_px X1
  refine k_none K ?_
  refine m_aloadN K X1.here hx hby d_jdk_43_2_6 rfl rfl rfl ?_
  refine m_iloadN K X1.here hx hby d_jdk_43_2_7 rfl rfl ?_
  refine k_ldB K X1 hx hby hZ e1 A_a1 (v := (.int y1)) (by decide) rfl d_jdk_43_2_8 rfl ?_
  refine m_sipush K X1.here hx hby (255 : Int32) d_jdk_43_2_9 rfl rfl ?_
  refine m_iand K X1.here hx hby (y1 &&& (255 : Int32)) d_jdk_43_2_12 rfl rfl ?_
  refine m_i2c K X1.here hx hby (wlc4_1_1 y1) d_jdk_43_2_13 rfl rfl ?_
  exact Go.retN X1 hx hby hlk hret (by simp) d_jdk_43_2_14 (by decide) (by decide) (own_nc _) (⟨rfl, e1, rfl⟩)
theorem efcl4_1 (m : MethodId) (x0 : Addr) (x1 : Int32) : entryFrame m #[(.ref x0), (.int x1)] 2 = mkF m 0 #[.val (.ref x0), .val (.int x1)] [] := by first | (simp [entryFrame, mkF, argsToLocals, Value.category]; done) | rfl
set_option maxRecDepth 65536 in
set_option maxHeartbeats 40000000 in
theorem ccl4_1 (l : Launch) (Z : State) (a0 : Array Value) (hw : ∀ d ∈ tables_1, d.before a0 Z = true) (a1 : Addr) (cz : Int32) (vf : Value) (a2 : Addr) (y0 : Int32) (y1 : Int32) (y2 : Int32) (y3 : Int32) (h0 : Heap) (n0 : Nat) (Z0 : n0 ≤ h0.size) (E_a1 : Exa Z h0 a1 "java/lang/String") (F_value_a1 : Fld Z h0 a1 "java/lang/String" "value" "[B" (.ref a2)) (F_coder_a1 : Fld Z h0 a1 "java/lang/String" "coder" "B" (.int (0 : Int32))) (A_a2 : Av Z h0 a2 .byte [(.int y0), (.int y1), (.int y2), (.int y3)]) (O0 : Old Z n0 h0) (SS : SSt Z cz vf) :
    Con l Z (⟨"java/lang/String", "charAt", "(I)C"⟩ : MethodName) jdk_42_method_56_code 2 (some .char) ({ frames := 3, cells := 0, slots := 0, locals := 40 } : Room) [] #[(.ref a1), (.int (1 : Int32))] h0 (fun v h L => v = some (.int (LCH y1)) ∧ h = h0 ∧ L = []) := by
  refine Con.of (plainFor_of_name pn_java_lang_String) #[.val (.ref a1), .val (.int (1 : Int32))] (fun m => efcl4_1 m a1 (1 : Int32)) ?_
  intro p e s m below meth c s₁ K hx hby hml hown hnm hret hlk hZ X0 e0
  have N0 := Fr.nil n0
  refine m_aloadN K X0.here hx hby d_jdk_42_56_0 rfl rfl rfl ?_
  refine k_callV K X0 hx hby hZ a1 [] [] hown (W hw 56 rfl) (W hw 57 rfl) (notFace_of_selects (args := #[]) (mvT hZ (W hw 59 rfl))) (W hw 59 rfl) (W hw 58 rfl) (W hw 7 rfl) (W hw 60 rfl) (cil0 l Z a0 hw a1 cz vf h0 n0 Z0 F_coder_a1 O0 SS) e0 E_a1 rfl rfl pd_6 rfl d_jdk_42_56_1 (by rw [hml]; rfl) rfl (by decide) (by decide) (Nat.le_of_ble_eq_true rfl) (by decide) (by decide) fun v1 T1 L1 X1 q1 => ?_
  obtain ⟨rfl, e1, rfl⟩ := q1
  replace X1 := own_px X1
  refine k_some K (w := (.int (1 : Int32))) ?_
  refine m_ifN K X1.here hx hby (q := 7) d_jdk_42_56_4 ((if0 _ _).trans (feq (by decide : ¬ ((1 : Int32) = (0 : Int32)))).1) rfl ?_
  refine m_aloadN K X1.here hx hby d_jdk_42_56_7 rfl rfl rfl ?_
  refine k_getF K X1 hx hby hZ hown (host := "") (Or.inl (W hw 24 rfl)) Via.refl e1 F_value_a1 d_jdk_42_56_8 rfl fun T2 X2 e2 => ?_
  refine m_iloadN K X2.here hx hby d_jdk_42_56_11 rfl rfl ?_
  refine k_callS K X2 hx hby hZ [(.ref a2), (.int (1 : Int32))] [] hown (W hw 61 rfl) (W hw 62 rfl) (W hw 63 rfl) (W hw 64 rfl) (clc4_1 l Z a0 hw a2 cz vf y0 y1 y2 y3 h0 n0 Z0 A_a2 O0 SS) e2 rfl rfl pd_5 rfl d_jdk_42_56_12 (by rw [hml]; rfl) rfl (by decide) (by decide) (Nat.le_of_ble_eq_true rfl) (by decide) (by decide) fun v3 T3 L3 X3 q3 => ?_
  obtain ⟨rfl, e3, rfl⟩ := q3
  replace X3 := own_px X3
  refine k_some K (w := (.int (LCH y1))) ?_
  exact Go.retN X3 hx hby hlk hret (by simp) d_jdk_42_56_15 (by decide) (by decide) (own_nc _) (⟨rfl, e3, rfl⟩)
def wlc4_2_1 (y2 : Int32) : Int32 := ((y2 &&& (255 : Int32)).toUInt32.toUInt16.toUInt32.toInt32)
theorem eflc4_2 (m : MethodId) (x0 : Addr) (x1 : Int32) : entryFrame m #[(.ref x0), (.int x1)] 2 = mkF m 0 #[.val (.ref x0), .val (.int x1)] [] := by first | (simp [entryFrame, mkF, argsToLocals, Value.category]; done) | rfl
set_option maxRecDepth 65536 in
set_option maxHeartbeats 40000000 in
theorem clc4_2 (l : Launch) (Z : State) (a0 : Array Value) (hw : ∀ d ∈ tables_1, d.before a0 Z = true) (a1 : Addr) (cz : Int32) (vf : Value) (y0 : Int32) (y1 : Int32) (y2 : Int32) (y3 : Int32) (h0 : Heap) (n0 : Nat) (Z0 : n0 ≤ h0.size) (A_a1 : Av Z h0 a1 .byte [(.int y0), (.int y1), (.int y2), (.int y3)]) (O0 : Old Z n0 h0) (SS : SSt Z cz vf) :
    Con l Z (⟨"java/lang/StringLatin1", "charAt", "([BI)C"⟩ : MethodName) jdk_43_method_2_code 2 (some .char) ({ frames := 2, cells := 0, slots := 0, locals := 27 } : Room) [] #[(.ref a1), (.int (2 : Int32))] h0 (fun v h L => v = some (.int (LCH y2)) ∧ h = h0 ∧ L = []) := by
  refine Con.of (plainFor_of_name pn_java_lang_StringLatin1) #[.val (.ref a1), .val (.int (2 : Int32))] (fun m => eflc4_2 m a1 (2 : Int32)) ?_
  intro p e s m below meth c s₁ K hx hby hml hown hnm hret hlk hZ X0 e0
  have N0 := Fr.nil n0
  refine m_iloadN K X0.here hx hby d_jdk_43_2_0 rfl rfl ?_
  refine m_aloadN K X0.here hx hby d_jdk_43_2_1 rfl rfl rfl ?_
  refine k_len K X0 hx hby hZ (4 : Int32) e0 A_a1 rfl d_jdk_43_2_2 rfl ?_
  refine k_callS K X0 hx hby hZ [(.int (2 : Int32)), (.int (4 : Int32))] [] hown (W hw 65 rfl) (W hw 66 rfl) (W hw 7 rfl) (W hw 67 rfl) (cck l Z a0 hw (2 : Int32) (4 : Int32) cz vf h0 n0 Z0 O0 SS (by first | decide | omega) (by first | decide | omega)) e0 rfl rfl pd_3 rfl d_jdk_43_2_3 (by rw [hml]; rfl) rfl (by decide) (by decide) (Nat.le_of_ble_eq_true rfl) (by decide) (by decide) fun v1 T1 L1 X1 q1 => ?_
  obtain ⟨rfl, e1, rfl⟩ := q1
  replace X1 := own_px X1
  refine k_none K ?_
  refine m_aloadN K X1.here hx hby d_jdk_43_2_6 rfl rfl rfl ?_
  refine m_iloadN K X1.here hx hby d_jdk_43_2_7 rfl rfl ?_
  refine k_ldB K X1 hx hby hZ e1 A_a1 (v := (.int y2)) (by decide) rfl d_jdk_43_2_8 rfl ?_
  refine m_sipush K X1.here hx hby (255 : Int32) d_jdk_43_2_9 rfl rfl ?_
  refine m_iand K X1.here hx hby (y2 &&& (255 : Int32)) d_jdk_43_2_12 rfl rfl ?_
  refine m_i2c K X1.here hx hby (wlc4_2_1 y2) d_jdk_43_2_13 rfl rfl ?_
  exact Go.retN X1 hx hby hlk hret (by simp) d_jdk_43_2_14 (by decide) (by decide) (own_nc _) (⟨rfl, e1, rfl⟩)
theorem efcl4_2 (m : MethodId) (x0 : Addr) (x1 : Int32) : entryFrame m #[(.ref x0), (.int x1)] 2 = mkF m 0 #[.val (.ref x0), .val (.int x1)] [] := by first | (simp [entryFrame, mkF, argsToLocals, Value.category]; done) | rfl
set_option maxRecDepth 65536 in
set_option maxHeartbeats 40000000 in
theorem ccl4_2 (l : Launch) (Z : State) (a0 : Array Value) (hw : ∀ d ∈ tables_1, d.before a0 Z = true) (a1 : Addr) (cz : Int32) (vf : Value) (a2 : Addr) (y0 : Int32) (y1 : Int32) (y2 : Int32) (y3 : Int32) (h0 : Heap) (n0 : Nat) (Z0 : n0 ≤ h0.size) (E_a1 : Exa Z h0 a1 "java/lang/String") (F_value_a1 : Fld Z h0 a1 "java/lang/String" "value" "[B" (.ref a2)) (F_coder_a1 : Fld Z h0 a1 "java/lang/String" "coder" "B" (.int (0 : Int32))) (A_a2 : Av Z h0 a2 .byte [(.int y0), (.int y1), (.int y2), (.int y3)]) (O0 : Old Z n0 h0) (SS : SSt Z cz vf) :
    Con l Z (⟨"java/lang/String", "charAt", "(I)C"⟩ : MethodName) jdk_42_method_56_code 2 (some .char) ({ frames := 3, cells := 0, slots := 0, locals := 40 } : Room) [] #[(.ref a1), (.int (2 : Int32))] h0 (fun v h L => v = some (.int (LCH y2)) ∧ h = h0 ∧ L = []) := by
  refine Con.of (plainFor_of_name pn_java_lang_String) #[.val (.ref a1), .val (.int (2 : Int32))] (fun m => efcl4_2 m a1 (2 : Int32)) ?_
  intro p e s m below meth c s₁ K hx hby hml hown hnm hret hlk hZ X0 e0
  have N0 := Fr.nil n0
  refine m_aloadN K X0.here hx hby d_jdk_42_56_0 rfl rfl rfl ?_
  refine k_callV K X0 hx hby hZ a1 [] [] hown (W hw 56 rfl) (W hw 57 rfl) (notFace_of_selects (args := #[]) (mvT hZ (W hw 59 rfl))) (W hw 59 rfl) (W hw 58 rfl) (W hw 7 rfl) (W hw 60 rfl) (cil0 l Z a0 hw a1 cz vf h0 n0 Z0 F_coder_a1 O0 SS) e0 E_a1 rfl rfl pd_6 rfl d_jdk_42_56_1 (by rw [hml]; rfl) rfl (by decide) (by decide) (Nat.le_of_ble_eq_true rfl) (by decide) (by decide) fun v1 T1 L1 X1 q1 => ?_
  obtain ⟨rfl, e1, rfl⟩ := q1
  replace X1 := own_px X1
  refine k_some K (w := (.int (1 : Int32))) ?_
  refine m_ifN K X1.here hx hby (q := 7) d_jdk_42_56_4 ((if0 _ _).trans (feq (by decide : ¬ ((1 : Int32) = (0 : Int32)))).1) rfl ?_
  refine m_aloadN K X1.here hx hby d_jdk_42_56_7 rfl rfl rfl ?_
  refine k_getF K X1 hx hby hZ hown (host := "") (Or.inl (W hw 24 rfl)) Via.refl e1 F_value_a1 d_jdk_42_56_8 rfl fun T2 X2 e2 => ?_
  refine m_iloadN K X2.here hx hby d_jdk_42_56_11 rfl rfl ?_
  refine k_callS K X2 hx hby hZ [(.ref a2), (.int (2 : Int32))] [] hown (W hw 61 rfl) (W hw 62 rfl) (W hw 63 rfl) (W hw 64 rfl) (clc4_2 l Z a0 hw a2 cz vf y0 y1 y2 y3 h0 n0 Z0 A_a2 O0 SS) e2 rfl rfl pd_5 rfl d_jdk_42_56_12 (by rw [hml]; rfl) rfl (by decide) (by decide) (Nat.le_of_ble_eq_true rfl) (by decide) (by decide) fun v3 T3 L3 X3 q3 => ?_
  obtain ⟨rfl, e3, rfl⟩ := q3
  replace X3 := own_px X3
  refine k_some K (w := (.int (LCH y2))) ?_
  exact Go.retN X3 hx hby hlk hret (by simp) d_jdk_42_56_15 (by decide) (by decide) (own_nc _) (⟨rfl, e3, rfl⟩)
def wlc4_3_1 (y3 : Int32) : Int32 := ((y3 &&& (255 : Int32)).toUInt32.toUInt16.toUInt32.toInt32)
theorem eflc4_3 (m : MethodId) (x0 : Addr) (x1 : Int32) : entryFrame m #[(.ref x0), (.int x1)] 2 = mkF m 0 #[.val (.ref x0), .val (.int x1)] [] := by first | (simp [entryFrame, mkF, argsToLocals, Value.category]; done) | rfl
set_option maxRecDepth 65536 in
set_option maxHeartbeats 40000000 in
theorem clc4_3 (l : Launch) (Z : State) (a0 : Array Value) (hw : ∀ d ∈ tables_1, d.before a0 Z = true) (a1 : Addr) (cz : Int32) (vf : Value) (y0 : Int32) (y1 : Int32) (y2 : Int32) (y3 : Int32) (h0 : Heap) (n0 : Nat) (Z0 : n0 ≤ h0.size) (A_a1 : Av Z h0 a1 .byte [(.int y0), (.int y1), (.int y2), (.int y3)]) (O0 : Old Z n0 h0) (SS : SSt Z cz vf) :
    Con l Z (⟨"java/lang/StringLatin1", "charAt", "([BI)C"⟩ : MethodName) jdk_43_method_2_code 2 (some .char) ({ frames := 2, cells := 0, slots := 0, locals := 27 } : Room) [] #[(.ref a1), (.int (3 : Int32))] h0 (fun v h L => v = some (.int (LCH y3)) ∧ h = h0 ∧ L = []) := by
  refine Con.of (plainFor_of_name pn_java_lang_StringLatin1) #[.val (.ref a1), .val (.int (3 : Int32))] (fun m => eflc4_3 m a1 (3 : Int32)) ?_
  intro p e s m below meth c s₁ K hx hby hml hown hnm hret hlk hZ X0 e0
  have N0 := Fr.nil n0
  refine m_iloadN K X0.here hx hby d_jdk_43_2_0 rfl rfl ?_
  refine m_aloadN K X0.here hx hby d_jdk_43_2_1 rfl rfl rfl ?_
  refine k_len K X0 hx hby hZ (4 : Int32) e0 A_a1 rfl d_jdk_43_2_2 rfl ?_
  refine k_callS K X0 hx hby hZ [(.int (3 : Int32)), (.int (4 : Int32))] [] hown (W hw 65 rfl) (W hw 66 rfl) (W hw 7 rfl) (W hw 67 rfl) (cck l Z a0 hw (3 : Int32) (4 : Int32) cz vf h0 n0 Z0 O0 SS (by first | decide | omega) (by first | decide | omega)) e0 rfl rfl pd_3 rfl d_jdk_43_2_3 (by rw [hml]; rfl) rfl (by decide) (by decide) (Nat.le_of_ble_eq_true rfl) (by decide) (by decide) fun v1 T1 L1 X1 q1 => ?_
  obtain ⟨rfl, e1, rfl⟩ := q1
  replace X1 := own_px X1
  refine k_none K ?_
  refine m_aloadN K X1.here hx hby d_jdk_43_2_6 rfl rfl rfl ?_
  refine m_iloadN K X1.here hx hby d_jdk_43_2_7 rfl rfl ?_
  refine k_ldB K X1 hx hby hZ e1 A_a1 (v := (.int y3)) (by decide) rfl d_jdk_43_2_8 rfl ?_
  refine m_sipush K X1.here hx hby (255 : Int32) d_jdk_43_2_9 rfl rfl ?_
  refine m_iand K X1.here hx hby (y3 &&& (255 : Int32)) d_jdk_43_2_12 rfl rfl ?_
  refine m_i2c K X1.here hx hby (wlc4_3_1 y3) d_jdk_43_2_13 rfl rfl ?_
  exact Go.retN X1 hx hby hlk hret (by simp) d_jdk_43_2_14 (by decide) (by decide) (own_nc _) (⟨rfl, e1, rfl⟩)
theorem efcl4_3 (m : MethodId) (x0 : Addr) (x1 : Int32) : entryFrame m #[(.ref x0), (.int x1)] 2 = mkF m 0 #[.val (.ref x0), .val (.int x1)] [] := by first | (simp [entryFrame, mkF, argsToLocals, Value.category]; done) | rfl
set_option maxRecDepth 65536 in
set_option maxHeartbeats 40000000 in
theorem ccl4_3 (l : Launch) (Z : State) (a0 : Array Value) (hw : ∀ d ∈ tables_1, d.before a0 Z = true) (a1 : Addr) (cz : Int32) (vf : Value) (a2 : Addr) (y0 : Int32) (y1 : Int32) (y2 : Int32) (y3 : Int32) (h0 : Heap) (n0 : Nat) (Z0 : n0 ≤ h0.size) (E_a1 : Exa Z h0 a1 "java/lang/String") (F_value_a1 : Fld Z h0 a1 "java/lang/String" "value" "[B" (.ref a2)) (F_coder_a1 : Fld Z h0 a1 "java/lang/String" "coder" "B" (.int (0 : Int32))) (A_a2 : Av Z h0 a2 .byte [(.int y0), (.int y1), (.int y2), (.int y3)]) (O0 : Old Z n0 h0) (SS : SSt Z cz vf) :
    Con l Z (⟨"java/lang/String", "charAt", "(I)C"⟩ : MethodName) jdk_42_method_56_code 2 (some .char) ({ frames := 3, cells := 0, slots := 0, locals := 40 } : Room) [] #[(.ref a1), (.int (3 : Int32))] h0 (fun v h L => v = some (.int (LCH y3)) ∧ h = h0 ∧ L = []) := by
  refine Con.of (plainFor_of_name pn_java_lang_String) #[.val (.ref a1), .val (.int (3 : Int32))] (fun m => efcl4_3 m a1 (3 : Int32)) ?_
  intro p e s m below meth c s₁ K hx hby hml hown hnm hret hlk hZ X0 e0
  have N0 := Fr.nil n0
  refine m_aloadN K X0.here hx hby d_jdk_42_56_0 rfl rfl rfl ?_
  refine k_callV K X0 hx hby hZ a1 [] [] hown (W hw 56 rfl) (W hw 57 rfl) (notFace_of_selects (args := #[]) (mvT hZ (W hw 59 rfl))) (W hw 59 rfl) (W hw 58 rfl) (W hw 7 rfl) (W hw 60 rfl) (cil0 l Z a0 hw a1 cz vf h0 n0 Z0 F_coder_a1 O0 SS) e0 E_a1 rfl rfl pd_6 rfl d_jdk_42_56_1 (by rw [hml]; rfl) rfl (by decide) (by decide) (Nat.le_of_ble_eq_true rfl) (by decide) (by decide) fun v1 T1 L1 X1 q1 => ?_
  obtain ⟨rfl, e1, rfl⟩ := q1
  replace X1 := own_px X1
  refine k_some K (w := (.int (1 : Int32))) ?_
  refine m_ifN K X1.here hx hby (q := 7) d_jdk_42_56_4 ((if0 _ _).trans (feq (by decide : ¬ ((1 : Int32) = (0 : Int32)))).1) rfl ?_
  refine m_aloadN K X1.here hx hby d_jdk_42_56_7 rfl rfl rfl ?_
  refine k_getF K X1 hx hby hZ hown (host := "") (Or.inl (W hw 24 rfl)) Via.refl e1 F_value_a1 d_jdk_42_56_8 rfl fun T2 X2 e2 => ?_
  refine m_iloadN K X2.here hx hby d_jdk_42_56_11 rfl rfl ?_
  refine k_callS K X2 hx hby hZ [(.ref a2), (.int (3 : Int32))] [] hown (W hw 61 rfl) (W hw 62 rfl) (W hw 63 rfl) (W hw 64 rfl) (clc4_3 l Z a0 hw a2 cz vf y0 y1 y2 y3 h0 n0 Z0 A_a2 O0 SS) e2 rfl rfl pd_5 rfl d_jdk_42_56_12 (by rw [hml]; rfl) rfl (by decide) (by decide) (Nat.le_of_ble_eq_true rfl) (by decide) (by decide) fun v3 T3 L3 X3 q3 => ?_
  obtain ⟨rfl, e3, rfl⟩ := q3
  replace X3 := own_px X3
  refine k_some K (w := (.int (LCH y3))) ?_
  exact Go.retN X3 hx hby hlk hret (by simp) d_jdk_42_56_15 (by decide) (by decide) (own_nc _) (⟨rfl, e3, rfl⟩)
theorem d_jdk_52_21_0 : decode jdk_52_method_21_code 0 = .ok (.iconst 0, 1) := by decide +kernel
theorem d_jdk_52_21_1 : decode jdk_52_method_21_code 1 = .ok (.istore 5, 2) := by decide +kernel
theorem d_jdk_52_21_3 : decode jdk_52_method_21_code 3 = .ok (.iload 5, 2) := by decide +kernel
theorem d_jdk_52_21_5 : decode jdk_52_method_21_code 5 = .ok (.iload 4, 2) := by decide +kernel
theorem d_jdk_52_21_7 : decode jdk_52_method_21_code 7 = .ok (.if_icmp .ge 37, 3) := by decide +kernel
theorem d_jdk_52_21_10 : decode jdk_52_method_21_code 10 = .ok (.aload_n 0, 1) := by decide +kernel
theorem d_jdk_52_21_11 : decode jdk_52_method_21_code 11 = .ok (.iload_n 1, 1) := by decide +kernel
theorem d_jdk_52_21_12 : decode jdk_52_method_21_code 12 = .ok (.caload, 1) := by decide +kernel
theorem d_jdk_52_21_13 : decode jdk_52_method_21_code 13 = .ok (.istore 6, 2) := by decide +kernel
theorem d_jdk_52_21_15 : decode jdk_52_method_21_code 15 = .ok (.iload 6, 2) := by decide +kernel
theorem d_jdk_52_21_17 : decode jdk_52_method_21_code 17 = .ok (.sipush 255, 3) := by decide +kernel
theorem d_jdk_52_21_20 : decode jdk_52_method_21_code 20 = .ok (.if_icmp .le 6, 3) := by decide +kernel
theorem d_jdk_52_21_23 : decode jdk_52_method_21_code 23 = .ok (.iload 5, 2) := by decide +kernel
theorem d_jdk_52_21_25 : decode jdk_52_method_21_code 25 = .ok (.ireturn, 1) := by decide +kernel
theorem efcf1_0 (m : MethodId) (x0 : Addr) (x1 : Int32) (x2 : Addr) (x3 : Int32) (x4 : Int32) : entryFrame m #[(.ref x0), (.int x1), (.ref x2), (.int x3), (.int x4)] 7 = mkF m 0 #[.val (.ref x0), .val (.int x1), .val (.ref x2), .val (.int x3), .val (.int x4), .unset, .unset] [] := by first | (simp [entryFrame, mkF, argsToLocals, Value.category]; done) | rfl
set_option maxRecDepth 65536 in
set_option maxHeartbeats 40000000 in
theorem ccf1_0 (l : Launch) (Z : State) (a0 : Array Value) (hw : ∀ d ∈ tables_1, d.before a0 Z = true) (a1 : Addr) (a3 : Addr) (cz : Int32) (vf : Value) (c0 : Int32) (h0 : Heap) (n0 : Nat) (Z0 : n0 ≤ h0.size) (A_a1 : Av Z h0 a1 .char [(.int c0)]) (A_a3 : Av Z h0 a3 .byte [(.int (0 : Int32))]) (O0 : Old Z n0 h0) (g_a3 : n0 ≤ a3) (ne_a1_a3 : a1 ≠ a3) (SS : SSt Z cz vf) (hg : (255 : Int32) < c0) (hch_0 : nar .char c0 = c0) :
    Con l Z (⟨"java/lang/StringUTF16", "compress", "([CI[BII)I"⟩ : MethodName) jdk_52_method_21_code 7 (some .int) ({ frames := 0, cells := 0, slots := 0, locals := 0 } : Room) [] #[(.ref a1), (.int (0 : Int32)), (.ref a3), (.int (0 : Int32)), (.int (1 : Int32))] h0 (fun v h L => v = some (.int (0 : Int32)) ∧ Fr n0 L ∧ Keep h0 h [a3] ∧ Av Z h a3 .byte [(.int (0 : Int32))]) := by
  refine Con.of (plainFor_of_name pn_java_lang_StringUTF16) #[.val (.ref a1), .val (.int (0 : Int32)), .val (.ref a3), .val (.int (0 : Int32)), .val (.int (1 : Int32)), .unset, .unset] (fun m => efcf1_0 m a1 (0 : Int32) a3 (0 : Int32) (1 : Int32)) ?_
  intro p e s m below meth c s₁ K hx hby hml hown hnm hret hlk hZ X0 e0
  have N0 := Fr.nil n0
  refine m_iconst K X0.here hx hby (0 : Int32) d_jdk_52_21_0 rfl rfl ?_
  refine m_istore K X0.here hx hby #[.val (.ref a1), .val (.int (0 : Int32)), .val (.ref a3), .val (.int (0 : Int32)), .val (.int (1 : Int32)), .val (.int (0 : Int32)), .unset] d_jdk_52_21_1 rfl rfl ?_
  refine m_iload K X0.here hx hby d_jdk_52_21_3 rfl rfl ?_
  refine m_iload K X0.here hx hby d_jdk_52_21_5 rfl rfl ?_
  refine m_icmpN K X0.here hx hby (q := 10) d_jdk_52_21_7 (tlt (by decide : (0 : Int32) < (1 : Int32))).2.1 rfl ?_
  refine m_aloadN K X0.here hx hby d_jdk_52_21_10 rfl rfl rfl ?_
  refine m_iloadN K X0.here hx hby d_jdk_52_21_11 rfl rfl ?_
  refine k_ldC K X0 hx hby hZ e0 A_a1 (v := (.int c0)) (by decide) rfl d_jdk_52_21_12 rfl ?_
  refine m_istore K X0.here hx hby #[.val (.ref a1), .val (.int (0 : Int32)), .val (.ref a3), .val (.int (0 : Int32)), .val (.int (1 : Int32)), .val (.int (0 : Int32)), .val (.int c0)] d_jdk_52_21_13 rfl rfl ?_
  refine m_iload K X0.here hx hby d_jdk_52_21_15 rfl rfl ?_
  refine m_sipush K X0.here hx hby (255 : Int32) d_jdk_52_21_17 rfl rfl ?_
  refine m_icmpN K X0.here hx hby (q := 23) d_jdk_52_21_20 (tlt hg).2.2.2 rfl ?_
  refine m_iload K X0.here hx hby d_jdk_52_21_23 rfl rfl ?_
  exact Go.retI X0 hx hby hlk hret d_jdk_52_21_25 (by decide) (by decide) (by rw [e0]; exact ⟨rfl, N0, (Keep.refl h0 [a3]), A_a3⟩)
theorem d_jdk_52_16_0 : decode jdk_52_method_16_code 0 = .ok (.iload_n 2, 1) := by decide +kernel
theorem d_jdk_52_16_1 : decode jdk_52_method_16_code 1 = .ok (.newarray .byte, 2) := by decide +kernel
theorem d_jdk_52_16_3 : decode jdk_52_method_16_code 3 = .ok (.astore_n 3, 1) := by decide +kernel
theorem d_jdk_52_16_4 : decode jdk_52_method_16_code 4 = .ok (.aload_n 0, 1) := by decide +kernel
theorem d_jdk_52_16_5 : decode jdk_52_method_16_code 5 = .ok (.iload_n 1, 1) := by decide +kernel
theorem d_jdk_52_16_6 : decode jdk_52_method_16_code 6 = .ok (.aload_n 3, 1) := by decide +kernel
theorem d_jdk_52_16_7 : decode jdk_52_method_16_code 7 = .ok (.iconst 0, 1) := by decide +kernel
theorem d_jdk_52_16_8 : decode jdk_52_method_16_code 8 = .ok (.iload_n 2, 1) := by decide +kernel
theorem d_jdk_52_16_9 : decode jdk_52_method_16_code 9 = .ok (.invokestatic 115, 3) := by decide +kernel
theorem d_jdk_52_16_12 : decode jdk_52_method_16_code 12 = .ok (.istore 4, 2) := by decide +kernel
theorem d_jdk_52_16_14 : decode jdk_52_method_16_code 14 = .ok (.iload 4, 2) := by decide +kernel
theorem d_jdk_52_16_16 : decode jdk_52_method_16_code 16 = .ok (.iload_n 2, 1) := by decide +kernel
theorem d_jdk_52_16_17 : decode jdk_52_method_16_code 17 = .ok (.if_icmp .eq 40, 3) := by decide +kernel
theorem d_jdk_52_16_20 : decode jdk_52_method_16_code 20 = .ok (.aload_n 0, 1) := by decide +kernel
theorem d_jdk_52_16_21 : decode jdk_52_method_16_code 21 = .ok (.iload_n 1, 1) := by decide +kernel
theorem d_jdk_52_16_22 : decode jdk_52_method_16_code 22 = .ok (.iload_n 2, 1) := by decide +kernel
theorem d_jdk_52_16_23 : decode jdk_52_method_16_code 23 = .ok (.invokestatic 119, 3) := by decide +kernel
theorem d_jdk_52_16_26 : decode jdk_52_method_16_code 26 = .ok (.astore 5, 2) := by decide +kernel
theorem d_jdk_52_16_28 : decode jdk_52_method_16_code 28 = .ok (.aload 5, 2) := by decide +kernel
theorem d_jdk_52_16_30 : decode jdk_52_method_16_code 30 = .ok (.iload 4, 2) := by decide +kernel
theorem d_jdk_52_16_32 : decode jdk_52_method_16_code 32 = .ok (.invokestatic 71, 3) := by decide +kernel
theorem d_jdk_52_16_35 : decode jdk_52_method_16_code 35 = .ok (.sipush 255, 3) := by decide +kernel
theorem d_jdk_52_16_38 : decode jdk_52_method_16_code 38 = .ok (.if_icmp .gt 16, 3) := by decide +kernel
theorem d_jdk_52_16_54 : decode jdk_52_method_16_code 54 = .ok (.aload 5, 2) := by decide +kernel
theorem d_jdk_52_16_56 : decode jdk_52_method_16_code 56 = .ok (.areturn, 1) := by decide +kernel
theorem pd_10 : parseMethodDescriptor "([CI[BII)I" = some ⟨[(.array .char), .int, (.array .byte), .int, .int], some .int⟩ := by decide +kernel
theorem pd_11 : parseMethodDescriptor "([CII)[B" = some ⟨[(.array .char), .int, .int], some (.array .byte)⟩ := by decide +kernel
theorem efct1_0 (m : MethodId) (x0 : Addr) (x1 : Int32) (x2 : Int32) : entryFrame m #[(.ref x0), (.int x1), (.int x2)] 6 = mkF m 0 #[.val (.ref x0), .val (.int x1), .val (.int x2), .unset, .unset, .unset] [] := by first | (simp [entryFrame, mkF, argsToLocals, Value.category]; done) | rfl
set_option maxRecDepth 65536 in
set_option maxHeartbeats 40000000 in
theorem cct1_0 (l : Launch) (Z : State) (a0 : Array Value) (hw : ∀ d ∈ tables_1, d.before a0 Z = true) (a1 : Addr) (cz : Int32) (vf : Value) (c0 : Int32) (h0 : Heap) (n0 : Nat) (Z0 : n0 ≤ h0.size) (A_a1 : Av Z h0 a1 .char [(.int c0)]) (O0 : Old Z n0 h0) (SS : SSt Z cz vf) (hg : (255 : Int32) < c0) (hch_0 : nar .char c0 = c0) :
    Con l Z (⟨"java/lang/StringUTF16", "compress", "([CII)[B"⟩ : MethodName) jdk_52_method_16_code 6 (some (.array .byte)) ({ frames := 3, cells := 2, slots := 3, locals := 40 } : Room) [] #[(.ref a1), (.int (0 : Int32)), (.int (1 : Int32))] h0 (fun v h L => ∃ bv : Addr, v = some (.ref bv) ∧ Fr n0 L ∧ Keep h0 h [] ∧ h0.size ≤ bv ∧ Av Z h bv .byte [(.int (BLO c0)), (.int (BHI c0))]) := by
  refine Con.of (plainFor_of_name pn_java_lang_StringUTF16) #[.val (.ref a1), .val (.int (0 : Int32)), .val (.int (1 : Int32)), .unset, .unset, .unset] (fun m => efct1_0 m a1 (0 : Int32) (1 : Int32)) ?_
  intro p e s m below meth c s₁ K hx hby hml hown hnm hret hlk hZ X0 e0
  have N0 := Fr.nil n0
  refine m_iloadN K X0.here hx hby d_jdk_52_16_0 rfl rfl ?_
  refine k_newP K X0 hx hby hZ 1 1 (W hw 19 rfl) e0 d_jdk_52_16_1 rfl (by decide) rfl (by decide) (by decide) (by decide) (by decide) fun T1 h1 b1 X1 e1 E1 g1 V_b1 => ?_
  have sz_b1 : h0.size ≤ b1 := Nat.le_trans (Nat.le_refl _) (Nat.le_of_eq g1.symm)
  have g_b1 : n0 ≤ b1 := Nat.le_trans Z0 sz_b1
  replace V_b1 : Av Z h1 b1 .byte [(.int (0 : Int32))] := V_b1
  refine m_astoreN K X1.here hx hby #[.val (.ref a1), .val (.int (0 : Int32)), .val (.int (1 : Int32)), .val (.ref b1), .unset, .unset] d_jdk_52_16_3 rfl rfl rfl ?_
  refine m_aloadN K X1.here hx hby d_jdk_52_16_4 rfl rfl rfl ?_
  refine m_iloadN K X1.here hx hby d_jdk_52_16_5 rfl rfl ?_
  refine m_aloadN K X1.here hx hby d_jdk_52_16_6 rfl rfl rfl ?_
  refine m_iconst K X1.here hx hby (0 : Int32) d_jdk_52_16_7 rfl rfl ?_
  refine m_iloadN K X1.here hx hby d_jdk_52_16_8 rfl rfl ?_
  refine k_callS K X1 hx hby hZ [(.ref a1), (.int (0 : Int32)), (.ref b1), (.int (0 : Int32)), (.int (1 : Int32))] [] hown (W hw 45 rfl) (W hw 46 rfl) (W hw 43 rfl) (W hw 47 rfl) (ccf1_0 l Z a0 hw a1 b1 cz vf c0 h1 n0 (Nat.le_trans Z0 (Nat.le_trans (Nat.le_refl _) E1.1)) (A_a1.ext E1) V_b1 (O0.ext E1) g_b1 (Nat.ne_of_lt (Nat.lt_of_lt_of_le (Nat.lt_of_lt_of_le A_a1.lt (Nat.le_refl _)) (Nat.le_of_eq g1.symm))) SS hg hch_0) e1 rfl rfl pd_10 rfl d_jdk_52_16_9 (by rw [hml]; rfl) rfl (by decide) (by decide) (Nat.le_of_ble_eq_true rfl) (by decide) (by decide) fun v2 T2 L2 X2 q2 => ?_
  obtain ⟨rfl, Nq2, K2, Ap2_0⟩ := q2
  have N2 := Fr.app N0 Nq2
  refine k_some K (w := (.int (0 : Int32))) ?_
  refine m_istore K X2.here hx hby #[.val (.ref a1), .val (.int (0 : Int32)), .val (.int (1 : Int32)), .val (.ref b1), .val (.int (0 : Int32)), .unset] d_jdk_52_16_12 rfl rfl ?_
  refine m_iload K X2.here hx hby d_jdk_52_16_14 rfl rfl ?_
  refine m_iloadN K X2.here hx hby d_jdk_52_16_16 rfl rfl ?_
  refine m_icmpN K X2.here hx hby (q := 20) d_jdk_52_16_17 (feq (by decide : ¬ ((0 : Int32) = (1 : Int32)))).1 rfl ?_
  refine m_aloadN K X2.here hx hby d_jdk_52_16_20 rfl rfl rfl ?_
  refine m_iloadN K X2.here hx hby d_jdk_52_16_21 rfl rfl ?_
  refine m_iloadN K X2.here hx hby d_jdk_52_16_22 rfl rfl ?_
  refine k_callS K X2 hx hby hZ [(.ref a1), (.int (0 : Int32)), (.int (1 : Int32))] [] hown (W hw 74 rfl) (W hw 75 rfl) (W hw 43 rfl) (W hw 76 rfl) (ctb1 l Z a0 hw a1 cz vf c0 T2.heap n0 (Nat.le_trans Z0 (Nat.le_trans (Nat.le_trans (Nat.le_refl _) E1.1) K2.1)) ((A_a1.ext E1).keep K2 (ninS (Nat.ne_of_lt (Nat.lt_of_lt_of_le (Nat.lt_of_lt_of_le A_a1.lt (Nat.le_refl _)) (Nat.le_of_eq g1.symm))) nin0)) ((O0.ext E1).keep K2 (allS g_b1 all0)) SS) rfl rfl rfl pd_11 rfl d_jdk_52_16_23 (by rw [hml]; rfl) rfl (by decide) (by decide) (Nat.le_of_ble_eq_true rfl) (by decide) (by decide) fun v3 T3 L3 X3 q3 => ?_
  obtain ⟨b3_bv, rfl, Nq3, K3, sq_b3_bv, Ap3_0⟩ := q3
  have N3 := Fr.app N2 Nq3
  have sz_b3_bv : h0.size ≤ b3_bv := Nat.le_trans (Nat.le_trans (Nat.le_trans (Nat.le_refl _) E1.1) K2.1) sq_b3_bv
  have g_b3_bv : n0 ≤ b3_bv := Nat.le_trans Z0 sz_b3_bv
  refine k_some K (w := (.ref b3_bv)) ?_
  refine m_astore K X3.here hx hby #[.val (.ref a1), .val (.int (0 : Int32)), .val (.int (1 : Int32)), .val (.ref b1), .val (.int (0 : Int32)), .val (.ref b3_bv)] d_jdk_52_16_26 rfl rfl rfl ?_
  refine m_aload K X3.here hx hby d_jdk_52_16_28 rfl rfl rfl ?_
  refine m_iload K X3.here hx hby d_jdk_52_16_30 rfl rfl ?_
  refine k_callS K X3 hx hby hZ [(.ref b3_bv), (.int (0 : Int32))] [] hown (W hw 90 rfl) (W hw 91 rfl) (W hw 43 rfl) (W hw 92 rfl) (cgc1_0 l Z a0 hw b3_bv cz vf (BLO c0) (BHI c0) T3.heap n0 (Nat.le_trans Z0 (Nat.le_trans (Nat.le_trans (Nat.le_trans (Nat.le_refl _) E1.1) K2.1) K3.1)) Ap3_0 (((O0.ext E1).keep K2 (allS g_b1 all0)).keep K3 all0) SS) rfl rfl rfl pd_5 rfl d_jdk_52_16_32 (by rw [hml]; rfl) rfl (by decide) (by decide) (Nat.le_of_ble_eq_true rfl) (by decide) (by decide) fun v4 T4 L4 X4 q4 => ?_
  obtain ⟨rfl, e4, rfl⟩ := q4
  replace X4 := own_px X4
  refine k_some K (w := (.int (GCH (BLO c0) (BHI c0)))) ?_
  refine m_sipush K X4.here hx hby (255 : Int32) d_jdk_52_16_35 rfl rfl ?_
  refine m_icmpY K X4.here hx hby (q := 54) d_jdk_52_16_38 (tlt (own_rgt c0 hch_0 hg)).2.2.1 (by decide) rfl ?_
  refine m_aload K X4.here hx hby d_jdk_52_16_54 rfl rfl rfl ?_
  exact Go.retO X4 hx hby hlk hret rfl (Or.inr (Or.inr (Or.inr (Or.inr ⟨rfl, rfl, rfl⟩)))) d_jdk_52_16_56 (by decide) (by decide) (by rw [e4]; exact ⟨b3_bv, rfl, N3, ((((Keep.refl h0 []).ext E1).trans K2 (allS (Or.inr sz_b1) all0)).trans K3 all0), sz_b3_bv, Ap3_0⟩)
theorem d_jdk_52_15_0 : decode jdk_52_method_15_code 0 = .ok (.iload_n 1, 1) := by decide +kernel
theorem d_jdk_52_15_1 : decode jdk_52_method_15_code 1 = .ok (.aload_n 0, 1) := by decide +kernel
theorem d_jdk_52_15_2 : decode jdk_52_method_15_code 2 = .ok (.arraylength, 1) := by decide +kernel
theorem d_jdk_52_15_3 : decode jdk_52_method_15_code 3 = .ok (.isub, 1) := by decide +kernel
theorem d_jdk_52_15_4 : decode jdk_52_method_15_code 4 = .ok (.bipush 31, 2) := by decide +kernel
theorem d_jdk_52_15_6 : decode jdk_52_method_15_code 6 = .ok (.iushr, 1) := by decide +kernel
theorem d_jdk_52_15_7 : decode jdk_52_method_15_code 7 = .ok (.i2b, 1) := by decide +kernel
theorem d_jdk_52_15_8 : decode jdk_52_method_15_code 8 = .ok (.ireturn, 1) := by decide +kernel
theorem efcc1_2 (m : MethodId) (x0 : Addr) (x1 : Int32) : entryFrame m #[(.ref x0), (.int x1)] 2 = mkF m 0 #[.val (.ref x0), .val (.int x1)] [] := by first | (simp [entryFrame, mkF, argsToLocals, Value.category]; done) | rfl
set_option maxRecDepth 65536 in
set_option maxHeartbeats 40000000 in
theorem ccc1_2 (l : Launch) (Z : State) (a0 : Array Value) (hw : ∀ d ∈ tables_1, d.before a0 Z = true) (a1 : Addr) (cz : Int32) (vf : Value) (y0 : Int32) (y1 : Int32) (h0 : Heap) (n0 : Nat) (Z0 : n0 ≤ h0.size) (A_a1 : Av Z h0 a1 .byte [(.int y0), (.int y1)]) (O0 : Old Z n0 h0) (SS : SSt Z cz vf) :
    Con l Z (⟨"java/lang/StringUTF16", "coderFromArrayLen", "([BI)B"⟩ : MethodName) jdk_52_method_15_code 2 (some .byte) ({ frames := 0, cells := 0, slots := 0, locals := 0 } : Room) [] #[(.ref a1), (.int (1 : Int32))] h0 (fun v h L => v = some (.int (1 : Int32)) ∧ h = h0 ∧ L = []) := by
  refine Con.of (plainFor_of_name pn_java_lang_StringUTF16) #[.val (.ref a1), .val (.int (1 : Int32))] (fun m => efcc1_2 m a1 (1 : Int32)) ?_
  intro p e s m below meth c s₁ K hx hby hml hown hnm hret hlk hZ X0 e0
  have N0 := Fr.nil n0
  refine m_iloadN K X0.here hx hby d_jdk_52_15_0 rfl rfl ?_
  refine m_aloadN K X0.here hx hby d_jdk_52_15_1 rfl rfl rfl ?_
  refine k_len K X0 hx hby hZ (2 : Int32) e0 A_a1 rfl d_jdk_52_15_2 rfl ?_
  refine m_isub K X0.here hx hby (-1 : Int32) d_jdk_52_15_3 rfl rfl ?_
  refine m_bipush K X0.here hx hby (31 : Int32) d_jdk_52_15_4 rfl rfl ?_
  refine m_iushr K X0.here hx hby (1 : Int32) d_jdk_52_15_6 rfl rfl ?_
  refine m_i2b K X0.here hx hby (1 : Int32) d_jdk_52_15_7 rfl rfl ?_
  exact Go.retN X0 hx hby hlk hret (by simp) d_jdk_52_15_8 (by decide) (by decide) (by decide) (⟨rfl, e0, rfl⟩)
theorem d_jdk_42_149_0 : decode jdk_42_method_149_code 0 = .ok (.aload_n 0, 1) := by decide +kernel
theorem d_jdk_42_149_1 : decode jdk_42_method_149_code 1 = .ok (.invokespecial 1, 3) := by decide +kernel
theorem d_jdk_42_149_4 : decode jdk_42_method_149_code 4 = .ok (.iload_n 3, 1) := by decide +kernel
theorem d_jdk_42_149_5 : decode jdk_42_method_149_code 5 = .ok (.ifCond .ne 22, 3) := by decide +kernel
theorem d_jdk_42_149_27 : decode jdk_42_method_149_code 27 = .ok (.getstatic 38, 3) := by decide +kernel
theorem d_jdk_42_149_30 : decode jdk_42_method_149_code 30 = .ok (.ifCond .eq 28, 3) := by decide +kernel
theorem d_jdk_42_149_33 : decode jdk_42_method_149_code 33 = .ok (.aload_n 1, 1) := by decide +kernel
theorem d_jdk_42_149_34 : decode jdk_42_method_149_code 34 = .ok (.iload_n 2, 1) := by decide +kernel
theorem d_jdk_42_149_35 : decode jdk_42_method_149_code 35 = .ok (.iload_n 3, 1) := by decide +kernel
theorem d_jdk_42_149_36 : decode jdk_42_method_149_code 36 = .ok (.invokestatic 177, 3) := by decide +kernel
theorem d_jdk_42_149_39 : decode jdk_42_method_149_code 39 = .ok (.astore 5, 2) := by decide +kernel
theorem d_jdk_42_149_41 : decode jdk_42_method_149_code 41 = .ok (.aload_n 0, 1) := by decide +kernel
theorem d_jdk_42_149_42 : decode jdk_42_method_149_code 42 = .ok (.aload 5, 2) := by decide +kernel
theorem d_jdk_42_149_44 : decode jdk_42_method_149_code 44 = .ok (.iload_n 3, 1) := by decide +kernel
theorem d_jdk_42_149_45 : decode jdk_42_method_149_code 45 = .ok (.invokestatic 47, 3) := by decide +kernel
theorem d_jdk_42_149_48 : decode jdk_42_method_149_code 48 = .ok (.putfield 15, 3) := by decide +kernel
theorem d_jdk_42_149_51 : decode jdk_42_method_149_code 51 = .ok (.aload_n 0, 1) := by decide +kernel
theorem d_jdk_42_149_52 : decode jdk_42_method_149_code 52 = .ok (.aload 5, 2) := by decide +kernel
theorem d_jdk_42_149_54 : decode jdk_42_method_149_code 54 = .ok (.putfield 9, 3) := by decide +kernel
theorem d_jdk_42_149_57 : decode jdk_42_method_149_code 57 = .ok (.return_, 1) := by decide +kernel
theorem pd_12 : parseMethodDescriptor "([BI)B" = some ⟨[(.array .byte), .int], some .byte⟩ := by decide +kernel
theorem efsi1_0 (m : MethodId) (x0 : Addr) (x1 : Addr) (x2 : Int32) (x3 : Int32) : entryFrame m #[(.ref x0), (.ref x1), (.int x2), (.int x3), .null] 6 = mkF m 0 #[.val (.ref x0), .val (.ref x1), .val (.int x2), .val (.int x3), .val .null, .unset] [] := by first | (simp [entryFrame, mkF, argsToLocals, Value.category]; done) | rfl
set_option maxRecDepth 65536 in
set_option maxHeartbeats 40000000 in
theorem csi1_0 (l : Launch) (Z : State) (a0 : Array Value) (hw : ∀ d ∈ tables_1, d.before a0 Z = true) (a1 : Addr) (a2 : Addr) (cz : Int32) (vf : Value) (c0 : Int32) (h0 : Heap) (n0 : Nat) (Z0 : n0 ≤ h0.size) (E_a1 : Exa Z h0 a1 "java/lang/String") (F_value_a1 : Fld Z h0 a1 "java/lang/String" "value" "[B" .null) (F_coder_a1 : Fld Z h0 a1 "java/lang/String" "coder" "B" (.int (0 : Int32))) (A_a2 : Av Z h0 a2 .char [(.int c0)]) (O0 : Old Z n0 h0) (g_a1 : n0 ≤ a1) (SS : SSt Z cz vf) (hg : (255 : Int32) < c0) (hch_0 : nar .char c0 = c0) :
    Con l Z (⟨"java/lang/String", "<init>", "([CIILjava/lang/Void;)V"⟩ : MethodName) jdk_42_method_149_code 6 none ({ frames := 4, cells := 2, slots := 3, locals := 57 } : Room) [] #[(.ref a1), (.ref a2), (.int (0 : Int32)), (.int (1 : Int32)), .null] h0 (fun v h L => ∃ bv : Addr, v = none ∧ Fr n0 L ∧ Keep h0 h [a1] ∧ h0.size ≤ bv ∧ Fld Z h a1 "java/lang/String" "value" "[B" (.ref bv) ∧ Fld Z h a1 "java/lang/String" "coder" "B" (.int (1 : Int32)) ∧ Av Z h bv .byte [(.int (BLO c0)), (.int (BHI c0))]) := by
  refine Con.of (plainFor_of_name pn_java_lang_String) #[.val (.ref a1), .val (.ref a2), .val (.int (0 : Int32)), .val (.int (1 : Int32)), .val .null, .unset] (fun m => efsi1_0 m a1 a2 (0 : Int32) (1 : Int32)) ?_
  intro p e s m below meth c s₁ K hx hby hml hown hnm hret hlk hZ X0 e0
  have N0 := Fr.nil n0
  refine m_aloadN K X0.here hx hby d_jdk_42_149_0 rfl rfl rfl ?_
  refine k_initO K X0 hx hby hZ hown (W hw 15 rfl) (W hw 16 rfl) (W hw 17 rfl) e0 d_jdk_42_149_1 (by rw [hml]; rfl) rfl (by decide) (Nat.le_of_ble_eq_true rfl) fun T1 X1 e1 => ?_
  refine m_iloadN K X1.here hx hby d_jdk_42_149_4 rfl rfl ?_
  refine m_ifY K X1.here hx hby (q := 27) d_jdk_42_149_5 ((if0 _ _).trans (feq (by decide : ¬ ((1 : Int32) = (0 : Int32)))).2) (by decide) rfl ?_
  refine k_getS K X1 hx hby hZ hown (host := "") (Or.inl (W hw 40 rfl)) Via.refl e1 (SS.cs.ext O0.2) d_jdk_42_149_27 rfl fun T2 X2 e2 => ?_
  refine m_ifN K X2.here hx hby (q := 33) d_jdk_42_149_30 ((if0 _ _).trans (feq SS.cz).1) rfl ?_
  refine m_aloadN K X2.here hx hby d_jdk_42_149_33 rfl rfl rfl ?_
  refine m_iloadN K X2.here hx hby d_jdk_42_149_34 rfl rfl ?_
  refine m_iloadN K X2.here hx hby d_jdk_42_149_35 rfl rfl ?_
  refine k_callS K X2 hx hby hZ [(.ref a2), (.int (0 : Int32)), (.int (1 : Int32))] [] hown (W hw 41 rfl) (W hw 42 rfl) (W hw 43 rfl) (W hw 44 rfl) (cct1_0 l Z a0 hw a2 cz vf c0 h0 n0 Z0 A_a2 O0 SS hg hch_0) e2 rfl rfl pd_11 rfl d_jdk_42_149_36 (by rw [hml]; rfl) rfl (by decide) (by decide) (Nat.le_of_ble_eq_true rfl) (by decide) (by decide) fun v3 T3 L3 X3 q3 => ?_
  obtain ⟨b3_bv, rfl, Nq3, K3, sq_b3_bv, Ap3_0⟩ := q3
  have N3 := Fr.app N0 Nq3
  have sz_b3_bv : h0.size ≤ b3_bv := Nat.le_trans (Nat.le_refl _) sq_b3_bv
  have g_b3_bv : n0 ≤ b3_bv := Nat.le_trans Z0 sz_b3_bv
  refine k_some K (w := (.ref b3_bv)) ?_
  refine m_astore K X3.here hx hby #[.val (.ref a1), .val (.ref a2), .val (.int (0 : Int32)), .val (.int (1 : Int32)), .val .null, .val (.ref b3_bv)] d_jdk_42_149_39 rfl rfl rfl ?_
  refine m_aloadN K X3.here hx hby d_jdk_42_149_41 rfl rfl rfl ?_
  refine m_aload K X3.here hx hby d_jdk_42_149_42 rfl rfl rfl ?_
  refine m_iloadN K X3.here hx hby d_jdk_42_149_44 rfl rfl ?_
  refine k_callS K X3 hx hby hZ [(.ref b3_bv), (.int (1 : Int32))] [(.ref a1)] hown (W hw 48 rfl) (W hw 49 rfl) (W hw 43 rfl) (W hw 50 rfl) (ccc1_2 l Z a0 hw b3_bv cz vf (BLO c0) (BHI c0) T3.heap n0 (Nat.le_trans Z0 (Nat.le_trans (Nat.le_refl _) K3.1)) Ap3_0 (O0.keep K3 all0) SS) rfl rfl rfl pd_12 rfl d_jdk_42_149_45 (by rw [hml]; rfl) rfl (by decide) (by decide) (Nat.le_of_ble_eq_true rfl) (by decide) (by decide) fun v4 T4 L4 X4 q4 => ?_
  obtain ⟨rfl, e4, rfl⟩ := q4
  replace X4 := own_px X4
  refine k_some K (w := (.int (1 : Int32))) ?_
  refine k_putF K X4 hx hby hZ hown (host := "") (Or.inl (W hw 25 rfl)) Via.refl e4 (F_coder_a1.keep K3 nin0) (E_a1.keep K3) (Or.inr ⟨(W hw 21 rfl), rfl, hnm⟩) (W hw 6 rfl) (ty := .byte) (by decide) (by decide) (by decide) d_jdk_42_149_48 rfl fun T5 h5 X5 e5 W5 => ?_
  have Fw5 := (F_coder_a1.keep K3 nin0).same W5
  have N5 := Fr.snoc X5 N3 g_a1
  refine m_aloadN K X5.here hx hby d_jdk_42_149_51 rfl rfl rfl ?_
  refine m_aload K X5.here hx hby d_jdk_42_149_52 rfl rfl rfl ?_
  refine k_putF K X5 hx hby hZ hown (host := "") (Or.inl (W hw 24 rfl)) Via.refl e5 ((F_value_a1.keep K3 nin0).other W5 (Or.inr (slot_ne (Or.inr (W hw 20 rfl)) (Or.inr (W hw 21 rfl)) (by decide) (t := (.array .byte)) (t' := .byte) (by decide) (by decide)))) ((E_a1.keep K3).wr W5) (Or.inr ⟨(W hw 20 rfl), rfl, hnm⟩) (W hw 6 rfl) (ty := (.array .byte)) (by decide) rfl rfl d_jdk_42_149_54 rfl fun T6 h6 X6 e6 W6 => ?_
  have Fw6 := ((F_value_a1.keep K3 nin0).other W5 (Or.inr (slot_ne (Or.inr (W hw 20 rfl)) (Or.inr (W hw 21 rfl)) (by decide) (t := (.array .byte)) (t' := .byte) (by decide) (by decide)))).same W6
  have N6 := Fr.snoc X6 N5 g_a1
  exact Go.retV X6 hx hby hlk hret d_jdk_42_149_57 (by decide) (by decide) (by rw [e6]; exact ⟨b3_bv, rfl, N6, ((((Keep.refl h0 [a1]).trans K3 all0).wr W5 (Or.inl (by simp))).wr W6 (Or.inl (by simp))), sz_b3_bv, Fw6, (Fw5.other W6 (Or.inr (slot_ne (Or.inr (W hw 21 rfl)) (Or.inr (W hw 20 rfl)) (by decide) (t := .byte) (t' := (.array .byte)) (by decide) (by decide)))), ((Ap3_0.other W5 (Ne.symm (Nat.ne_of_lt (Nat.lt_of_lt_of_le (Nat.lt_of_lt_of_le E_a1.lt (Nat.le_refl _)) sq_b3_bv)))).other W6 (Ne.symm (Nat.ne_of_lt (Nat.lt_of_lt_of_le (Nat.lt_of_lt_of_le E_a1.lt (Nat.le_refl _)) sq_b3_bv))))⟩)
theorem d_jdk_42_3_0 : decode jdk_42_method_3_code 0 = .ok (.aload_n 0, 1) := by decide +kernel
theorem d_jdk_42_3_1 : decode jdk_42_method_3_code 1 = .ok (.aload_n 1, 1) := by decide +kernel
theorem d_jdk_42_3_2 : decode jdk_42_method_3_code 2 = .ok (.iconst 0, 1) := by decide +kernel
theorem d_jdk_42_3_3 : decode jdk_42_method_3_code 3 = .ok (.aload_n 1, 1) := by decide +kernel
theorem d_jdk_42_3_4 : decode jdk_42_method_3_code 4 = .ok (.arraylength, 1) := by decide +kernel
theorem d_jdk_42_3_5 : decode jdk_42_method_3_code 5 = .ok (.aconst_null, 1) := by decide +kernel
theorem d_jdk_42_3_6 : decode jdk_42_method_3_code 6 = .ok (.invokespecial 27, 3) := by decide +kernel
theorem d_jdk_42_3_9 : decode jdk_42_method_3_code 9 = .ok (.return_, 1) := by decide +kernel
theorem pd_13 : parseMethodDescriptor "([CIILjava/lang/Void;)V" = some ⟨[(.array .char), .int, .int, (.object "java/lang/Void")], none⟩ := by decide +kernel
theorem efsj1_0 (m : MethodId) (x0 : Addr) (x1 : Addr) : entryFrame m #[(.ref x0), (.ref x1)] 2 = mkF m 0 #[.val (.ref x0), .val (.ref x1)] [] := by first | (simp [entryFrame, mkF, argsToLocals, Value.category]; done) | rfl
set_option maxRecDepth 65536 in
set_option maxHeartbeats 40000000 in
theorem csj1_0 (l : Launch) (Z : State) (a0 : Array Value) (hw : ∀ d ∈ tables_1, d.before a0 Z = true) (a1 : Addr) (a2 : Addr) (cz : Int32) (vf : Value) (c0 : Int32) (h0 : Heap) (n0 : Nat) (Z0 : n0 ≤ h0.size) (E_a1 : Exa Z h0 a1 "java/lang/String") (F_value_a1 : Fld Z h0 a1 "java/lang/String" "value" "[B" .null) (F_coder_a1 : Fld Z h0 a1 "java/lang/String" "coder" "B" (.int (0 : Int32))) (A_a2 : Av Z h0 a2 .char [(.int c0)]) (O0 : Old Z n0 h0) (g_a1 : n0 ≤ a1) (SS : SSt Z cz vf) (hg : (255 : Int32) < c0) (hch_0 : nar .char c0 = c0) :
    Con l Z (⟨"java/lang/String", "<init>", "([C)V"⟩ : MethodName) jdk_42_method_3_code 2 none ({ frames := 5, cells := 2, slots := 3, locals := 74 } : Room) [] #[(.ref a1), (.ref a2)] h0 (fun v h L => ∃ bv : Addr, v = none ∧ Fr n0 L ∧ Keep h0 h [a1] ∧ h0.size ≤ bv ∧ Fld Z h a1 "java/lang/String" "value" "[B" (.ref bv) ∧ Fld Z h a1 "java/lang/String" "coder" "B" (.int (1 : Int32)) ∧ Av Z h bv .byte [(.int (BLO c0)), (.int (BHI c0))]) := by
  refine Con.of (plainFor_of_name pn_java_lang_String) #[.val (.ref a1), .val (.ref a2)] (fun m => efsj1_0 m a1 a2) ?_
  intro p e s m below meth c s₁ K hx hby hml hown hnm hret hlk hZ X0 e0
  have N0 := Fr.nil n0
  refine m_aloadN K X0.here hx hby d_jdk_42_3_0 rfl rfl rfl ?_
  refine m_aloadN K X0.here hx hby d_jdk_42_3_1 rfl rfl rfl ?_
  refine m_iconst K X0.here hx hby (0 : Int32) d_jdk_42_3_2 rfl rfl ?_
  refine m_aloadN K X0.here hx hby d_jdk_42_3_3 rfl rfl rfl ?_
  refine k_len K X0 hx hby hZ (1 : Int32) e0 A_a2 rfl d_jdk_42_3_4 rfl ?_
  refine m_null K X0.here hx hby d_jdk_42_3_5 rfl ?_
  refine k_callP K X0 hx hby hZ a1 [(.ref a2), (.int (0 : Int32)), (.int (1 : Int32)), .null] [] hown (W hw 11 rfl) (W hw 12 rfl) (W hw 7 rfl) (W hw 14 rfl) rfl (csi1_0 l Z a0 hw a1 a2 cz vf c0 h0 n0 Z0 E_a1 F_value_a1 F_coder_a1 A_a2 O0 g_a1 SS hg hch_0) e0 rfl rfl pd_13 rfl d_jdk_42_3_6 (by rw [hml]; rfl) rfl (by decide) (by decide) (Nat.le_of_ble_eq_true rfl) (by decide) (by decide) fun v1 T1 L1 X1 q1 => ?_
  obtain ⟨b1_bv, rfl, Nq1, K1, sq_b1_bv, Fp1_0, Fp1_1, Ap1_0⟩ := q1
  have N1 := Fr.app N0 Nq1
  have sz_b1_bv : h0.size ≤ b1_bv := Nat.le_trans (Nat.le_refl _) sq_b1_bv
  have g_b1_bv : n0 ≤ b1_bv := Nat.le_trans Z0 sz_b1_bv
  refine k_none K ?_
  exact Go.retV X1 hx hby hlk hret d_jdk_42_3_9 (by decide) (by decide) (⟨b1_bv, rfl, N1, ((Keep.refl h0 [a1]).trans K1 (allS (Or.inl (by simp)) all0)), sz_b1_bv, Fp1_0, Fp1_1, Ap1_0⟩)
theorem d_jdk_52_21_26 : decode jdk_52_method_21_code 26 = .ok (.aload_n 2, 1) := by decide +kernel
theorem d_jdk_52_21_27 : decode jdk_52_method_21_code 27 = .ok (.iload_n 3, 1) := by decide +kernel
theorem d_jdk_52_21_28 : decode jdk_52_method_21_code 28 = .ok (.iload 6, 2) := by decide +kernel
theorem d_jdk_52_21_30 : decode jdk_52_method_21_code 30 = .ok (.i2b, 1) := by decide +kernel
theorem d_jdk_52_21_31 : decode jdk_52_method_21_code 31 = .ok (.bastore, 1) := by decide +kernel
theorem d_jdk_52_21_32 : decode jdk_52_method_21_code 32 = .ok (.iinc 1 1, 3) := by decide +kernel
theorem d_jdk_52_21_35 : decode jdk_52_method_21_code 35 = .ok (.iinc 3 1, 3) := by decide +kernel
theorem d_jdk_52_21_38 : decode jdk_52_method_21_code 38 = .ok (.iinc 5 1, 3) := by decide +kernel
theorem d_jdk_52_21_41 : decode jdk_52_method_21_code 41 = .ok (.goto (-38), 3) := by decide +kernel
theorem d_jdk_52_21_44 : decode jdk_52_method_21_code 44 = .ok (.iload 4, 2) := by decide +kernel
theorem d_jdk_52_21_46 : decode jdk_52_method_21_code 46 = .ok (.ireturn, 1) := by decide +kernel
theorem efcf1_1 (m : MethodId) (x0 : Addr) (x1 : Int32) (x2 : Addr) (x3 : Int32) (x4 : Int32) : entryFrame m #[(.ref x0), (.int x1), (.ref x2), (.int x3), (.int x4)] 7 = mkF m 0 #[.val (.ref x0), .val (.int x1), .val (.ref x2), .val (.int x3), .val (.int x4), .unset, .unset] [] := by first | (simp [entryFrame, mkF, argsToLocals, Value.category]; done) | rfl
set_option maxRecDepth 65536 in
set_option maxHeartbeats 40000000 in
theorem ccf1_1 (l : Launch) (Z : State) (a0 : Array Value) (hw : ∀ d ∈ tables_1, d.before a0 Z = true) (a1 : Addr) (a3 : Addr) (cz : Int32) (vf : Value) (c0 : Int32) (h0 : Heap) (n0 : Nat) (Z0 : n0 ≤ h0.size) (A_a1 : Av Z h0 a1 .char [(.int c0)]) (A_a3 : Av Z h0 a3 .byte [(.int (0 : Int32))]) (O0 : Old Z n0 h0) (g_a3 : n0 ≤ a3) (ne_a1_a3 : a1 ≠ a3) (SS : SSt Z cz vf) (hl_0 : ¬ ((255 : Int32) < c0)) :
    Con l Z (⟨"java/lang/StringUTF16", "compress", "([CI[BII)I"⟩ : MethodName) jdk_52_method_21_code 7 (some .int) ({ frames := 0, cells := 0, slots := 0, locals := 0 } : Room) [] #[(.ref a1), (.int (0 : Int32)), (.ref a3), (.int (0 : Int32)), (.int (1 : Int32))] h0 (fun v h L => v = some (.int (1 : Int32)) ∧ Fr n0 L ∧ Keep h0 h [a3] ∧ Av Z h a3 .byte [(.int (nar .byte (c0.toInt8.toInt32)))]) := by
  refine Con.of (plainFor_of_name pn_java_lang_StringUTF16) #[.val (.ref a1), .val (.int (0 : Int32)), .val (.ref a3), .val (.int (0 : Int32)), .val (.int (1 : Int32)), .unset, .unset] (fun m => efcf1_1 m a1 (0 : Int32) a3 (0 : Int32) (1 : Int32)) ?_
  intro p e s m below meth c s₁ K hx hby hml hown hnm hret hlk hZ X0 e0
  have N0 := Fr.nil n0
  refine m_iconst K X0.here hx hby (0 : Int32) d_jdk_52_21_0 rfl rfl ?_
  refine m_istore K X0.here hx hby #[.val (.ref a1), .val (.int (0 : Int32)), .val (.ref a3), .val (.int (0 : Int32)), .val (.int (1 : Int32)), .val (.int (0 : Int32)), .unset] d_jdk_52_21_1 rfl rfl ?_
  refine m_iload K X0.here hx hby d_jdk_52_21_3 rfl rfl ?_
  refine m_iload K X0.here hx hby d_jdk_52_21_5 rfl rfl ?_
  refine m_icmpN K X0.here hx hby (q := 10) d_jdk_52_21_7 (tlt (by decide : (0 : Int32) < (1 : Int32))).2.1 rfl ?_
  refine m_aloadN K X0.here hx hby d_jdk_52_21_10 rfl rfl rfl ?_
  refine m_iloadN K X0.here hx hby d_jdk_52_21_11 rfl rfl ?_
  refine k_ldC K X0 hx hby hZ e0 A_a1 (v := (.int c0)) (by decide) rfl d_jdk_52_21_12 rfl ?_
  refine m_istore K X0.here hx hby #[.val (.ref a1), .val (.int (0 : Int32)), .val (.ref a3), .val (.int (0 : Int32)), .val (.int (1 : Int32)), .val (.int (0 : Int32)), .val (.int c0)] d_jdk_52_21_13 rfl rfl ?_
  refine m_iload K X0.here hx hby d_jdk_52_21_15 rfl rfl ?_
  refine m_sipush K X0.here hx hby (255 : Int32) d_jdk_52_21_17 rfl rfl ?_
  refine m_icmpY K X0.here hx hby (q := 26) d_jdk_52_21_20 (flt hl_0).2.2.2 (by decide) rfl ?_
  refine m_aloadN K X0.here hx hby d_jdk_52_21_26 rfl rfl rfl ?_
  refine m_iloadN K X0.here hx hby d_jdk_52_21_27 rfl rfl ?_
  refine m_iload K X0.here hx hby d_jdk_52_21_28 rfl rfl ?_
  refine m_i2b K X0.here hx hby (c0.toInt8.toInt32) d_jdk_52_21_30 rfl rfl ?_
  refine k_stB K X0 hx hby hZ e0 A_a3 (by decide) (Nat.le_of_ble_eq_true rfl) d_jdk_52_21_31 rfl fun T1 h1 X1 e1 W1 V1 => ?_
  replace V1 : Av Z h1 a3 .byte [(.int (nar .byte (c0.toInt8.toInt32)))] := V1
  have N1 := Fr.snoc X1 N0 g_a3
  refine m_iinc K X1.here hx hby #[.val (.ref a1), .val (.int (1 : Int32)), .val (.ref a3), .val (.int (0 : Int32)), .val (.int (1 : Int32)), .val (.int (0 : Int32)), .val (.int c0)] d_jdk_52_21_32 rfl rfl rfl ?_
  refine m_iinc K X1.here hx hby #[.val (.ref a1), .val (.int (1 : Int32)), .val (.ref a3), .val (.int (1 : Int32)), .val (.int (1 : Int32)), .val (.int (0 : Int32)), .val (.int c0)] d_jdk_52_21_35 rfl rfl rfl ?_
  refine m_iinc K X1.here hx hby #[.val (.ref a1), .val (.int (1 : Int32)), .val (.ref a3), .val (.int (1 : Int32)), .val (.int (1 : Int32)), .val (.int (1 : Int32)), .val (.int c0)] d_jdk_52_21_38 rfl rfl rfl ?_
  refine m_goto K X1.here hx hby (q := 3) d_jdk_52_21_41 (by decide) rfl ?_
  refine m_iload K X1.here hx hby d_jdk_52_21_3 rfl rfl ?_
  refine m_iload K X1.here hx hby d_jdk_52_21_5 rfl rfl ?_
  refine m_icmpY K X1.here hx hby (q := 44) d_jdk_52_21_7 (flt (by decide : ¬ ((1 : Int32) < (1 : Int32)))).2.1 (by decide) rfl ?_
  refine m_iload K X1.here hx hby d_jdk_52_21_44 rfl rfl ?_
  exact Go.retI X1 hx hby hlk hret d_jdk_52_21_46 (by decide) (by decide) (by rw [e1]; exact ⟨rfl, N1, ((Keep.refl h0 [a3]).wr W1 (Or.inl (by simp))), V1⟩)
theorem d_jdk_52_16_57 : decode jdk_52_method_16_code 57 = .ok (.aload_n 3, 1) := by decide +kernel
theorem d_jdk_52_16_58 : decode jdk_52_method_16_code 58 = .ok (.areturn, 1) := by decide +kernel
theorem efct1_1 (m : MethodId) (x0 : Addr) (x1 : Int32) (x2 : Int32) : entryFrame m #[(.ref x0), (.int x1), (.int x2)] 6 = mkF m 0 #[.val (.ref x0), .val (.int x1), .val (.int x2), .unset, .unset, .unset] [] := by first | (simp [entryFrame, mkF, argsToLocals, Value.category]; done) | rfl
set_option maxRecDepth 65536 in
set_option maxHeartbeats 40000000 in
theorem cct1_1 (l : Launch) (Z : State) (a0 : Array Value) (hw : ∀ d ∈ tables_1, d.before a0 Z = true) (a1 : Addr) (cz : Int32) (vf : Value) (c0 : Int32) (h0 : Heap) (n0 : Nat) (Z0 : n0 ≤ h0.size) (A_a1 : Av Z h0 a1 .char [(.int c0)]) (O0 : Old Z n0 h0) (SS : SSt Z cz vf) (hl_0 : ¬ ((255 : Int32) < c0)) :
    Con l Z (⟨"java/lang/StringUTF16", "compress", "([CII)[B"⟩ : MethodName) jdk_52_method_16_code 6 (some (.array .byte)) ({ frames := 1, cells := 1, slots := 1, locals := 18 } : Room) [] #[(.ref a1), (.int (0 : Int32)), (.int (1 : Int32))] h0 (fun v h L => ∃ bv : Addr, v = some (.ref bv) ∧ Fr n0 L ∧ Keep h0 h [] ∧ h0.size ≤ bv ∧ Av Z h bv .byte [(.int (nar .byte (c0.toInt8.toInt32)))]) := by
  refine Con.of (plainFor_of_name pn_java_lang_StringUTF16) #[.val (.ref a1), .val (.int (0 : Int32)), .val (.int (1 : Int32)), .unset, .unset, .unset] (fun m => efct1_1 m a1 (0 : Int32) (1 : Int32)) ?_
  intro p e s m below meth c s₁ K hx hby hml hown hnm hret hlk hZ X0 e0
  have N0 := Fr.nil n0
  refine m_iloadN K X0.here hx hby d_jdk_52_16_0 rfl rfl ?_
  refine k_newP K X0 hx hby hZ 1 1 (W hw 19 rfl) e0 d_jdk_52_16_1 rfl (by decide) rfl (by decide) (by decide) (by decide) (by decide) fun T1 h1 b1 X1 e1 E1 g1 V_b1 => ?_
  have sz_b1 : h0.size ≤ b1 := Nat.le_trans (Nat.le_refl _) (Nat.le_of_eq g1.symm)
  have g_b1 : n0 ≤ b1 := Nat.le_trans Z0 sz_b1
  replace V_b1 : Av Z h1 b1 .byte [(.int (0 : Int32))] := V_b1
  refine m_astoreN K X1.here hx hby #[.val (.ref a1), .val (.int (0 : Int32)), .val (.int (1 : Int32)), .val (.ref b1), .unset, .unset] d_jdk_52_16_3 rfl rfl rfl ?_
  refine m_aloadN K X1.here hx hby d_jdk_52_16_4 rfl rfl rfl ?_
  refine m_iloadN K X1.here hx hby d_jdk_52_16_5 rfl rfl ?_
  refine m_aloadN K X1.here hx hby d_jdk_52_16_6 rfl rfl rfl ?_
  refine m_iconst K X1.here hx hby (0 : Int32) d_jdk_52_16_7 rfl rfl ?_
  refine m_iloadN K X1.here hx hby d_jdk_52_16_8 rfl rfl ?_
  refine k_callS K X1 hx hby hZ [(.ref a1), (.int (0 : Int32)), (.ref b1), (.int (0 : Int32)), (.int (1 : Int32))] [] hown (W hw 45 rfl) (W hw 46 rfl) (W hw 43 rfl) (W hw 47 rfl) (ccf1_1 l Z a0 hw a1 b1 cz vf c0 h1 n0 (Nat.le_trans Z0 (Nat.le_trans (Nat.le_refl _) E1.1)) (A_a1.ext E1) V_b1 (O0.ext E1) g_b1 (Nat.ne_of_lt (Nat.lt_of_lt_of_le (Nat.lt_of_lt_of_le A_a1.lt (Nat.le_refl _)) (Nat.le_of_eq g1.symm))) SS hl_0) e1 rfl rfl pd_10 rfl d_jdk_52_16_9 (by rw [hml]; rfl) rfl (by decide) (by decide) (Nat.le_of_ble_eq_true rfl) (by decide) (by decide) fun v2 T2 L2 X2 q2 => ?_
  obtain ⟨rfl, Nq2, K2, Ap2_0⟩ := q2
  have N2 := Fr.app N0 Nq2
  refine k_some K (w := (.int (1 : Int32))) ?_
  refine m_istore K X2.here hx hby #[.val (.ref a1), .val (.int (0 : Int32)), .val (.int (1 : Int32)), .val (.ref b1), .val (.int (1 : Int32)), .unset] d_jdk_52_16_12 rfl rfl ?_
  refine m_iload K X2.here hx hby d_jdk_52_16_14 rfl rfl ?_
  refine m_iloadN K X2.here hx hby d_jdk_52_16_16 rfl rfl ?_
  refine m_icmpY K X2.here hx hby (q := 57) d_jdk_52_16_17 (teq (by decide : (1 : Int32) = (1 : Int32))).1 (by decide) rfl ?_
  refine m_aloadN K X2.here hx hby d_jdk_52_16_57 rfl rfl rfl ?_
  exact Go.retO X2 hx hby hlk hret rfl (Or.inr (Or.inr (Or.inr (Or.inr ⟨rfl, rfl, rfl⟩)))) d_jdk_52_16_58 (by decide) (by decide) (⟨b1, rfl, N2, (((Keep.refl h0 []).ext E1).trans K2 (allS (Or.inr sz_b1) all0)), sz_b1, Ap2_0⟩)
theorem efcc1_1 (m : MethodId) (x0 : Addr) (x1 : Int32) : entryFrame m #[(.ref x0), (.int x1)] 2 = mkF m 0 #[.val (.ref x0), .val (.int x1)] [] := by first | (simp [entryFrame, mkF, argsToLocals, Value.category]; done) | rfl
set_option maxRecDepth 65536 in
set_option maxHeartbeats 40000000 in
theorem ccc1_1 (l : Launch) (Z : State) (a0 : Array Value) (hw : ∀ d ∈ tables_1, d.before a0 Z = true) (a1 : Addr) (cz : Int32) (vf : Value) (y0 : Int32) (h0 : Heap) (n0 : Nat) (Z0 : n0 ≤ h0.size) (A_a1 : Av Z h0 a1 .byte [(.int y0)]) (O0 : Old Z n0 h0) (SS : SSt Z cz vf) :
    Con l Z (⟨"java/lang/StringUTF16", "coderFromArrayLen", "([BI)B"⟩ : MethodName) jdk_52_method_15_code 2 (some .byte) ({ frames := 0, cells := 0, slots := 0, locals := 0 } : Room) [] #[(.ref a1), (.int (1 : Int32))] h0 (fun v h L => v = some (.int (0 : Int32)) ∧ h = h0 ∧ L = []) := by
  refine Con.of (plainFor_of_name pn_java_lang_StringUTF16) #[.val (.ref a1), .val (.int (1 : Int32))] (fun m => efcc1_1 m a1 (1 : Int32)) ?_
  intro p e s m below meth c s₁ K hx hby hml hown hnm hret hlk hZ X0 e0
  have N0 := Fr.nil n0
  refine m_iloadN K X0.here hx hby d_jdk_52_15_0 rfl rfl ?_
  refine m_aloadN K X0.here hx hby d_jdk_52_15_1 rfl rfl rfl ?_
  refine k_len K X0 hx hby hZ (1 : Int32) e0 A_a1 rfl d_jdk_52_15_2 rfl ?_
  refine m_isub K X0.here hx hby (0 : Int32) d_jdk_52_15_3 rfl rfl ?_
  refine m_bipush K X0.here hx hby (31 : Int32) d_jdk_52_15_4 rfl rfl ?_
  refine m_iushr K X0.here hx hby (0 : Int32) d_jdk_52_15_6 rfl rfl ?_
  refine m_i2b K X0.here hx hby (0 : Int32) d_jdk_52_15_7 rfl rfl ?_
  exact Go.retN X0 hx hby hlk hret (by simp) d_jdk_52_15_8 (by decide) (by decide) (by decide) (⟨rfl, e0, rfl⟩)
theorem efsi1_1 (m : MethodId) (x0 : Addr) (x1 : Addr) (x2 : Int32) (x3 : Int32) : entryFrame m #[(.ref x0), (.ref x1), (.int x2), (.int x3), .null] 6 = mkF m 0 #[.val (.ref x0), .val (.ref x1), .val (.int x2), .val (.int x3), .val .null, .unset] [] := by first | (simp [entryFrame, mkF, argsToLocals, Value.category]; done) | rfl
set_option maxRecDepth 65536 in
set_option maxHeartbeats 40000000 in
theorem csi1_1 (l : Launch) (Z : State) (a0 : Array Value) (hw : ∀ d ∈ tables_1, d.before a0 Z = true) (a1 : Addr) (a2 : Addr) (cz : Int32) (vf : Value) (c0 : Int32) (h0 : Heap) (n0 : Nat) (Z0 : n0 ≤ h0.size) (E_a1 : Exa Z h0 a1 "java/lang/String") (F_value_a1 : Fld Z h0 a1 "java/lang/String" "value" "[B" .null) (F_coder_a1 : Fld Z h0 a1 "java/lang/String" "coder" "B" (.int (0 : Int32))) (A_a2 : Av Z h0 a2 .char [(.int c0)]) (O0 : Old Z n0 h0) (g_a1 : n0 ≤ a1) (SS : SSt Z cz vf) (hl_0 : ¬ ((255 : Int32) < c0)) :
    Con l Z (⟨"java/lang/String", "<init>", "([CIILjava/lang/Void;)V"⟩ : MethodName) jdk_42_method_149_code 6 none ({ frames := 2, cells := 1, slots := 1, locals := 35 } : Room) [] #[(.ref a1), (.ref a2), (.int (0 : Int32)), (.int (1 : Int32)), .null] h0 (fun v h L => ∃ bv : Addr, v = none ∧ Fr n0 L ∧ Keep h0 h [a1] ∧ h0.size ≤ bv ∧ Fld Z h a1 "java/lang/String" "value" "[B" (.ref bv) ∧ Fld Z h a1 "java/lang/String" "coder" "B" (.int (0 : Int32)) ∧ Av Z h bv .byte [(.int (nar .byte (c0.toInt8.toInt32)))]) := by
  refine Con.of (plainFor_of_name pn_java_lang_String) #[.val (.ref a1), .val (.ref a2), .val (.int (0 : Int32)), .val (.int (1 : Int32)), .val .null, .unset] (fun m => efsi1_1 m a1 a2 (0 : Int32) (1 : Int32)) ?_
  intro p e s m below meth c s₁ K hx hby hml hown hnm hret hlk hZ X0 e0
  have N0 := Fr.nil n0
  refine m_aloadN K X0.here hx hby d_jdk_42_149_0 rfl rfl rfl ?_
  refine k_initO K X0 hx hby hZ hown (W hw 15 rfl) (W hw 16 rfl) (W hw 17 rfl) e0 d_jdk_42_149_1 (by rw [hml]; rfl) rfl (by decide) (Nat.le_of_ble_eq_true rfl) fun T1 X1 e1 => ?_
  refine m_iloadN K X1.here hx hby d_jdk_42_149_4 rfl rfl ?_
  refine m_ifY K X1.here hx hby (q := 27) d_jdk_42_149_5 ((if0 _ _).trans (feq (by decide : ¬ ((1 : Int32) = (0 : Int32)))).2) (by decide) rfl ?_
  refine k_getS K X1 hx hby hZ hown (host := "") (Or.inl (W hw 40 rfl)) Via.refl e1 (SS.cs.ext O0.2) d_jdk_42_149_27 rfl fun T2 X2 e2 => ?_
  refine m_ifN K X2.here hx hby (q := 33) d_jdk_42_149_30 ((if0 _ _).trans (feq SS.cz).1) rfl ?_
  refine m_aloadN K X2.here hx hby d_jdk_42_149_33 rfl rfl rfl ?_
  refine m_iloadN K X2.here hx hby d_jdk_42_149_34 rfl rfl ?_
  refine m_iloadN K X2.here hx hby d_jdk_42_149_35 rfl rfl ?_
  refine k_callS K X2 hx hby hZ [(.ref a2), (.int (0 : Int32)), (.int (1 : Int32))] [] hown (W hw 41 rfl) (W hw 42 rfl) (W hw 43 rfl) (W hw 44 rfl) (cct1_1 l Z a0 hw a2 cz vf c0 h0 n0 Z0 A_a2 O0 SS hl_0) e2 rfl rfl pd_11 rfl d_jdk_42_149_36 (by rw [hml]; rfl) rfl (by decide) (by decide) (Nat.le_of_ble_eq_true rfl) (by decide) (by decide) fun v3 T3 L3 X3 q3 => ?_
  obtain ⟨b3_bv, rfl, Nq3, K3, sq_b3_bv, Ap3_0⟩ := q3
  have N3 := Fr.app N0 Nq3
  have sz_b3_bv : h0.size ≤ b3_bv := Nat.le_trans (Nat.le_refl _) sq_b3_bv
  have g_b3_bv : n0 ≤ b3_bv := Nat.le_trans Z0 sz_b3_bv
  refine k_some K (w := (.ref b3_bv)) ?_
  refine m_astore K X3.here hx hby #[.val (.ref a1), .val (.ref a2), .val (.int (0 : Int32)), .val (.int (1 : Int32)), .val .null, .val (.ref b3_bv)] d_jdk_42_149_39 rfl rfl rfl ?_
  refine m_aloadN K X3.here hx hby d_jdk_42_149_41 rfl rfl rfl ?_
  refine m_aload K X3.here hx hby d_jdk_42_149_42 rfl rfl rfl ?_
  refine m_iloadN K X3.here hx hby d_jdk_42_149_44 rfl rfl ?_
  refine k_callS K X3 hx hby hZ [(.ref b3_bv), (.int (1 : Int32))] [(.ref a1)] hown (W hw 48 rfl) (W hw 49 rfl) (W hw 43 rfl) (W hw 50 rfl) (ccc1_1 l Z a0 hw b3_bv cz vf (nar .byte (c0.toInt8.toInt32)) T3.heap n0 (Nat.le_trans Z0 (Nat.le_trans (Nat.le_refl _) K3.1)) Ap3_0 (O0.keep K3 all0) SS) rfl rfl rfl pd_12 rfl d_jdk_42_149_45 (by rw [hml]; rfl) rfl (by decide) (by decide) (Nat.le_of_ble_eq_true rfl) (by decide) (by decide) fun v4 T4 L4 X4 q4 => ?_
  obtain ⟨rfl, e4, rfl⟩ := q4
  replace X4 := own_px X4
  refine k_some K (w := (.int (0 : Int32))) ?_
  refine k_putF K X4 hx hby hZ hown (host := "") (Or.inl (W hw 25 rfl)) Via.refl e4 (F_coder_a1.keep K3 nin0) (E_a1.keep K3) (Or.inr ⟨(W hw 21 rfl), rfl, hnm⟩) (W hw 6 rfl) (ty := .byte) (by decide) (by decide) (by decide) d_jdk_42_149_48 rfl fun T5 h5 X5 e5 W5 => ?_
  have Fw5 := (F_coder_a1.keep K3 nin0).same W5
  have N5 := Fr.snoc X5 N3 g_a1
  refine m_aloadN K X5.here hx hby d_jdk_42_149_51 rfl rfl rfl ?_
  refine m_aload K X5.here hx hby d_jdk_42_149_52 rfl rfl rfl ?_
  refine k_putF K X5 hx hby hZ hown (host := "") (Or.inl (W hw 24 rfl)) Via.refl e5 ((F_value_a1.keep K3 nin0).other W5 (Or.inr (slot_ne (Or.inr (W hw 20 rfl)) (Or.inr (W hw 21 rfl)) (by decide) (t := (.array .byte)) (t' := .byte) (by decide) (by decide)))) ((E_a1.keep K3).wr W5) (Or.inr ⟨(W hw 20 rfl), rfl, hnm⟩) (W hw 6 rfl) (ty := (.array .byte)) (by decide) rfl rfl d_jdk_42_149_54 rfl fun T6 h6 X6 e6 W6 => ?_
  have Fw6 := ((F_value_a1.keep K3 nin0).other W5 (Or.inr (slot_ne (Or.inr (W hw 20 rfl)) (Or.inr (W hw 21 rfl)) (by decide) (t := (.array .byte)) (t' := .byte) (by decide) (by decide)))).same W6
  have N6 := Fr.snoc X6 N5 g_a1
  exact Go.retV X6 hx hby hlk hret d_jdk_42_149_57 (by decide) (by decide) (by rw [e6]; exact ⟨b3_bv, rfl, N6, ((((Keep.refl h0 [a1]).trans K3 all0).wr W5 (Or.inl (by simp))).wr W6 (Or.inl (by simp))), sz_b3_bv, Fw6, (Fw5.other W6 (Or.inr (slot_ne (Or.inr (W hw 21 rfl)) (Or.inr (W hw 20 rfl)) (by decide) (t := .byte) (t' := (.array .byte)) (by decide) (by decide)))), ((Ap3_0.other W5 (Ne.symm (Nat.ne_of_lt (Nat.lt_of_lt_of_le (Nat.lt_of_lt_of_le E_a1.lt (Nat.le_refl _)) sq_b3_bv)))).other W6 (Ne.symm (Nat.ne_of_lt (Nat.lt_of_lt_of_le (Nat.lt_of_lt_of_le E_a1.lt (Nat.le_refl _)) sq_b3_bv))))⟩)
theorem efsj1_1 (m : MethodId) (x0 : Addr) (x1 : Addr) : entryFrame m #[(.ref x0), (.ref x1)] 2 = mkF m 0 #[.val (.ref x0), .val (.ref x1)] [] := by first | (simp [entryFrame, mkF, argsToLocals, Value.category]; done) | rfl
set_option maxRecDepth 65536 in
set_option maxHeartbeats 40000000 in
theorem csj1_1 (l : Launch) (Z : State) (a0 : Array Value) (hw : ∀ d ∈ tables_1, d.before a0 Z = true) (a1 : Addr) (a2 : Addr) (cz : Int32) (vf : Value) (c0 : Int32) (h0 : Heap) (n0 : Nat) (Z0 : n0 ≤ h0.size) (E_a1 : Exa Z h0 a1 "java/lang/String") (F_value_a1 : Fld Z h0 a1 "java/lang/String" "value" "[B" .null) (F_coder_a1 : Fld Z h0 a1 "java/lang/String" "coder" "B" (.int (0 : Int32))) (A_a2 : Av Z h0 a2 .char [(.int c0)]) (O0 : Old Z n0 h0) (g_a1 : n0 ≤ a1) (SS : SSt Z cz vf) (hl_0 : ¬ ((255 : Int32) < c0)) :
    Con l Z (⟨"java/lang/String", "<init>", "([C)V"⟩ : MethodName) jdk_42_method_3_code 2 none ({ frames := 3, cells := 1, slots := 1, locals := 52 } : Room) [] #[(.ref a1), (.ref a2)] h0 (fun v h L => ∃ bv : Addr, v = none ∧ Fr n0 L ∧ Keep h0 h [a1] ∧ h0.size ≤ bv ∧ Fld Z h a1 "java/lang/String" "value" "[B" (.ref bv) ∧ Fld Z h a1 "java/lang/String" "coder" "B" (.int (0 : Int32)) ∧ Av Z h bv .byte [(.int (nar .byte (c0.toInt8.toInt32)))]) := by
  refine Con.of (plainFor_of_name pn_java_lang_String) #[.val (.ref a1), .val (.ref a2)] (fun m => efsj1_1 m a1 a2) ?_
  intro p e s m below meth c s₁ K hx hby hml hown hnm hret hlk hZ X0 e0
  have N0 := Fr.nil n0
  refine m_aloadN K X0.here hx hby d_jdk_42_3_0 rfl rfl rfl ?_
  refine m_aloadN K X0.here hx hby d_jdk_42_3_1 rfl rfl rfl ?_
  refine m_iconst K X0.here hx hby (0 : Int32) d_jdk_42_3_2 rfl rfl ?_
  refine m_aloadN K X0.here hx hby d_jdk_42_3_3 rfl rfl rfl ?_
  refine k_len K X0 hx hby hZ (1 : Int32) e0 A_a2 rfl d_jdk_42_3_4 rfl ?_
  refine m_null K X0.here hx hby d_jdk_42_3_5 rfl ?_
  refine k_callP K X0 hx hby hZ a1 [(.ref a2), (.int (0 : Int32)), (.int (1 : Int32)), .null] [] hown (W hw 11 rfl) (W hw 12 rfl) (W hw 7 rfl) (W hw 14 rfl) rfl (csi1_1 l Z a0 hw a1 a2 cz vf c0 h0 n0 Z0 E_a1 F_value_a1 F_coder_a1 A_a2 O0 g_a1 SS hl_0) e0 rfl rfl pd_13 rfl d_jdk_42_3_6 (by rw [hml]; rfl) rfl (by decide) (by decide) (Nat.le_of_ble_eq_true rfl) (by decide) (by decide) fun v1 T1 L1 X1 q1 => ?_
  obtain ⟨b1_bv, rfl, Nq1, K1, sq_b1_bv, Fp1_0, Fp1_1, Ap1_0⟩ := q1
  have N1 := Fr.app N0 Nq1
  have sz_b1_bv : h0.size ≤ b1_bv := Nat.le_trans (Nat.le_refl _) sq_b1_bv
  have g_b1_bv : n0 ≤ b1_bv := Nat.le_trans Z0 sz_b1_bv
  refine k_none K ?_
  exact Go.retV X1 hx hby hlk hret d_jdk_42_3_9 (by decide) (by decide) (⟨b1_bv, rfl, N1, ((Keep.refl h0 [a1]).trans K1 (allS (Or.inl (by simp)) all0)), sz_b1_bv, Fp1_0, Fp1_1, Ap1_0⟩)
theorem efcf2_0 (m : MethodId) (x0 : Addr) (x1 : Int32) (x2 : Addr) (x3 : Int32) (x4 : Int32) : entryFrame m #[(.ref x0), (.int x1), (.ref x2), (.int x3), (.int x4)] 7 = mkF m 0 #[.val (.ref x0), .val (.int x1), .val (.ref x2), .val (.int x3), .val (.int x4), .unset, .unset] [] := by first | (simp [entryFrame, mkF, argsToLocals, Value.category]; done) | rfl
set_option maxRecDepth 65536 in
set_option maxHeartbeats 40000000 in
theorem ccf2_0 (l : Launch) (Z : State) (a0 : Array Value) (hw : ∀ d ∈ tables_1, d.before a0 Z = true) (a1 : Addr) (a3 : Addr) (cz : Int32) (vf : Value) (c0 : Int32) (c1 : Int32) (h0 : Heap) (n0 : Nat) (Z0 : n0 ≤ h0.size) (A_a1 : Av Z h0 a1 .char [(.int c0), (.int c1)]) (A_a3 : Av Z h0 a3 .byte [(.int (0 : Int32)), (.int (0 : Int32))]) (O0 : Old Z n0 h0) (g_a3 : n0 ≤ a3) (ne_a1_a3 : a1 ≠ a3) (SS : SSt Z cz vf) (hg : (255 : Int32) < c0) (hch_0 : nar .char c0 = c0) (hch_1 : nar .char c1 = c1) :
    Con l Z (⟨"java/lang/StringUTF16", "compress", "([CI[BII)I"⟩ : MethodName) jdk_52_method_21_code 7 (some .int) ({ frames := 0, cells := 0, slots := 0, locals := 0 } : Room) [] #[(.ref a1), (.int (0 : Int32)), (.ref a3), (.int (0 : Int32)), (.int (2 : Int32))] h0 (fun v h L => v = some (.int (0 : Int32)) ∧ Fr n0 L ∧ Keep h0 h [a3] ∧ Av Z h a3 .byte [(.int (0 : Int32)), (.int (0 : Int32))]) := by
  refine Con.of (plainFor_of_name pn_java_lang_StringUTF16) #[.val (.ref a1), .val (.int (0 : Int32)), .val (.ref a3), .val (.int (0 : Int32)), .val (.int (2 : Int32)), .unset, .unset] (fun m => efcf2_0 m a1 (0 : Int32) a3 (0 : Int32) (2 : Int32)) ?_
  intro p e s m below meth c s₁ K hx hby hml hown hnm hret hlk hZ X0 e0
  have N0 := Fr.nil n0
  refine m_iconst K X0.here hx hby (0 : Int32) d_jdk_52_21_0 rfl rfl ?_
  refine m_istore K X0.here hx hby #[.val (.ref a1), .val (.int (0 : Int32)), .val (.ref a3), .val (.int (0 : Int32)), .val (.int (2 : Int32)), .val (.int (0 : Int32)), .unset] d_jdk_52_21_1 rfl rfl ?_
  refine m_iload K X0.here hx hby d_jdk_52_21_3 rfl rfl ?_
  refine m_iload K X0.here hx hby d_jdk_52_21_5 rfl rfl ?_
  refine m_icmpN K X0.here hx hby (q := 10) d_jdk_52_21_7 (tlt (by decide : (0 : Int32) < (2 : Int32))).2.1 rfl ?_
  refine m_aloadN K X0.here hx hby d_jdk_52_21_10 rfl rfl rfl ?_
  refine m_iloadN K X0.here hx hby d_jdk_52_21_11 rfl rfl ?_
  refine k_ldC K X0 hx hby hZ e0 A_a1 (v := (.int c0)) (by decide) rfl d_jdk_52_21_12 rfl ?_
  refine m_istore K X0.here hx hby #[.val (.ref a1), .val (.int (0 : Int32)), .val (.ref a3), .val (.int (0 : Int32)), .val (.int (2 : Int32)), .val (.int (0 : Int32)), .val (.int c0)] d_jdk_52_21_13 rfl rfl ?_
  refine m_iload K X0.here hx hby d_jdk_52_21_15 rfl rfl ?_
  refine m_sipush K X0.here hx hby (255 : Int32) d_jdk_52_21_17 rfl rfl ?_
  refine m_icmpN K X0.here hx hby (q := 23) d_jdk_52_21_20 (tlt hg).2.2.2 rfl ?_
  refine m_iload K X0.here hx hby d_jdk_52_21_23 rfl rfl ?_
  exact Go.retI X0 hx hby hlk hret d_jdk_52_21_25 (by decide) (by decide) (by rw [e0]; exact ⟨rfl, N0, (Keep.refl h0 [a3]), A_a3⟩)
theorem efct2_0 (m : MethodId) (x0 : Addr) (x1 : Int32) (x2 : Int32) : entryFrame m #[(.ref x0), (.int x1), (.int x2)] 6 = mkF m 0 #[.val (.ref x0), .val (.int x1), .val (.int x2), .unset, .unset, .unset] [] := by first | (simp [entryFrame, mkF, argsToLocals, Value.category]; done) | rfl
set_option maxRecDepth 65536 in
set_option maxHeartbeats 40000000 in
theorem cct2_0 (l : Launch) (Z : State) (a0 : Array Value) (hw : ∀ d ∈ tables_1, d.before a0 Z = true) (a1 : Addr) (cz : Int32) (vf : Value) (c0 : Int32) (c1 : Int32) (h0 : Heap) (n0 : Nat) (Z0 : n0 ≤ h0.size) (A_a1 : Av Z h0 a1 .char [(.int c0), (.int c1)]) (O0 : Old Z n0 h0) (SS : SSt Z cz vf) (hg : (255 : Int32) < c0) (hch_0 : nar .char c0 = c0) (hch_1 : nar .char c1 = c1) :
    Con l Z (⟨"java/lang/StringUTF16", "compress", "([CII)[B"⟩ : MethodName) jdk_52_method_16_code 6 (some (.array .byte)) ({ frames := 3, cells := 2, slots := 6, locals := 40 } : Room) [] #[(.ref a1), (.int (0 : Int32)), (.int (2 : Int32))] h0 (fun v h L => ∃ bv : Addr, v = some (.ref bv) ∧ Fr n0 L ∧ Keep h0 h [] ∧ h0.size ≤ bv ∧ Av Z h bv .byte [(.int (BLO c0)), (.int (BHI c0)), (.int (BLO c1)), (.int (BHI c1))]) := by
  refine Con.of (plainFor_of_name pn_java_lang_StringUTF16) #[.val (.ref a1), .val (.int (0 : Int32)), .val (.int (2 : Int32)), .unset, .unset, .unset] (fun m => efct2_0 m a1 (0 : Int32) (2 : Int32)) ?_
  intro p e s m below meth c s₁ K hx hby hml hown hnm hret hlk hZ X0 e0
  have N0 := Fr.nil n0
  refine m_iloadN K X0.here hx hby d_jdk_52_16_0 rfl rfl ?_
  refine k_newP K X0 hx hby hZ 2 2 (W hw 19 rfl) e0 d_jdk_52_16_1 rfl (by decide) rfl (by decide) (by decide) (by decide) (by decide) fun T1 h1 b1 X1 e1 E1 g1 V_b1 => ?_
  have sz_b1 : h0.size ≤ b1 := Nat.le_trans (Nat.le_refl _) (Nat.le_of_eq g1.symm)
  have g_b1 : n0 ≤ b1 := Nat.le_trans Z0 sz_b1
  replace V_b1 : Av Z h1 b1 .byte [(.int (0 : Int32)), (.int (0 : Int32))] := V_b1
  refine m_astoreN K X1.here hx hby #[.val (.ref a1), .val (.int (0 : Int32)), .val (.int (2 : Int32)), .val (.ref b1), .unset, .unset] d_jdk_52_16_3 rfl rfl rfl ?_
  refine m_aloadN K X1.here hx hby d_jdk_52_16_4 rfl rfl rfl ?_
  refine m_iloadN K X1.here hx hby d_jdk_52_16_5 rfl rfl ?_
  refine m_aloadN K X1.here hx hby d_jdk_52_16_6 rfl rfl rfl ?_
  refine m_iconst K X1.here hx hby (0 : Int32) d_jdk_52_16_7 rfl rfl ?_
  refine m_iloadN K X1.here hx hby d_jdk_52_16_8 rfl rfl ?_
  refine k_callS K X1 hx hby hZ [(.ref a1), (.int (0 : Int32)), (.ref b1), (.int (0 : Int32)), (.int (2 : Int32))] [] hown (W hw 45 rfl) (W hw 46 rfl) (W hw 43 rfl) (W hw 47 rfl) (ccf2_0 l Z a0 hw a1 b1 cz vf c0 c1 h1 n0 (Nat.le_trans Z0 (Nat.le_trans (Nat.le_refl _) E1.1)) (A_a1.ext E1) V_b1 (O0.ext E1) g_b1 (Nat.ne_of_lt (Nat.lt_of_lt_of_le (Nat.lt_of_lt_of_le A_a1.lt (Nat.le_refl _)) (Nat.le_of_eq g1.symm))) SS hg hch_0 hch_1) e1 rfl rfl pd_10 rfl d_jdk_52_16_9 (by rw [hml]; rfl) rfl (by decide) (by decide) (Nat.le_of_ble_eq_true rfl) (by decide) (by decide) fun v2 T2 L2 X2 q2 => ?_
  obtain ⟨rfl, Nq2, K2, Ap2_0⟩ := q2
  have N2 := Fr.app N0 Nq2
  refine k_some K (w := (.int (0 : Int32))) ?_
  refine m_istore K X2.here hx hby #[.val (.ref a1), .val (.int (0 : Int32)), .val (.int (2 : Int32)), .val (.ref b1), .val (.int (0 : Int32)), .unset] d_jdk_52_16_12 rfl rfl ?_
  refine m_iload K X2.here hx hby d_jdk_52_16_14 rfl rfl ?_
  refine m_iloadN K X2.here hx hby d_jdk_52_16_16 rfl rfl ?_
  refine m_icmpN K X2.here hx hby (q := 20) d_jdk_52_16_17 (feq (by decide : ¬ ((0 : Int32) = (2 : Int32)))).1 rfl ?_
  refine m_aloadN K X2.here hx hby d_jdk_52_16_20 rfl rfl rfl ?_
  refine m_iloadN K X2.here hx hby d_jdk_52_16_21 rfl rfl ?_
  refine m_iloadN K X2.here hx hby d_jdk_52_16_22 rfl rfl ?_
  refine k_callS K X2 hx hby hZ [(.ref a1), (.int (0 : Int32)), (.int (2 : Int32))] [] hown (W hw 74 rfl) (W hw 75 rfl) (W hw 43 rfl) (W hw 76 rfl) (ctb2 l Z a0 hw a1 cz vf c0 c1 T2.heap n0 (Nat.le_trans Z0 (Nat.le_trans (Nat.le_trans (Nat.le_refl _) E1.1) K2.1)) ((A_a1.ext E1).keep K2 (ninS (Nat.ne_of_lt (Nat.lt_of_lt_of_le (Nat.lt_of_lt_of_le A_a1.lt (Nat.le_refl _)) (Nat.le_of_eq g1.symm))) nin0)) ((O0.ext E1).keep K2 (allS g_b1 all0)) SS) rfl rfl rfl pd_11 rfl d_jdk_52_16_23 (by rw [hml]; rfl) rfl (by decide) (by decide) (Nat.le_of_ble_eq_true rfl) (by decide) (by decide) fun v3 T3 L3 X3 q3 => ?_
  obtain ⟨b3_bv, rfl, Nq3, K3, sq_b3_bv, Ap3_0⟩ := q3
  have N3 := Fr.app N2 Nq3
  have sz_b3_bv : h0.size ≤ b3_bv := Nat.le_trans (Nat.le_trans (Nat.le_trans (Nat.le_refl _) E1.1) K2.1) sq_b3_bv
  have g_b3_bv : n0 ≤ b3_bv := Nat.le_trans Z0 sz_b3_bv
  refine k_some K (w := (.ref b3_bv)) ?_
  refine m_astore K X3.here hx hby #[.val (.ref a1), .val (.int (0 : Int32)), .val (.int (2 : Int32)), .val (.ref b1), .val (.int (0 : Int32)), .val (.ref b3_bv)] d_jdk_52_16_26 rfl rfl rfl ?_
  refine m_aload K X3.here hx hby d_jdk_52_16_28 rfl rfl rfl ?_
  refine m_iload K X3.here hx hby d_jdk_52_16_30 rfl rfl ?_
  refine k_callS K X3 hx hby hZ [(.ref b3_bv), (.int (0 : Int32))] [] hown (W hw 90 rfl) (W hw 91 rfl) (W hw 43 rfl) (W hw 92 rfl) (cgc2_0 l Z a0 hw b3_bv cz vf (BLO c0) (BHI c0) (BLO c1) (BHI c1) T3.heap n0 (Nat.le_trans Z0 (Nat.le_trans (Nat.le_trans (Nat.le_trans (Nat.le_refl _) E1.1) K2.1) K3.1)) Ap3_0 (((O0.ext E1).keep K2 (allS g_b1 all0)).keep K3 all0) SS) rfl rfl rfl pd_5 rfl d_jdk_52_16_32 (by rw [hml]; rfl) rfl (by decide) (by decide) (Nat.le_of_ble_eq_true rfl) (by decide) (by decide) fun v4 T4 L4 X4 q4 => ?_
  obtain ⟨rfl, e4, rfl⟩ := q4
  replace X4 := own_px X4
  refine k_some K (w := (.int (GCH (BLO c0) (BHI c0)))) ?_
  refine m_sipush K X4.here hx hby (255 : Int32) d_jdk_52_16_35 rfl rfl ?_
  refine m_icmpY K X4.here hx hby (q := 54) d_jdk_52_16_38 (tlt (own_rgt c0 hch_0 hg)).2.2.1 (by decide) rfl ?_
  refine m_aload K X4.here hx hby d_jdk_52_16_54 rfl rfl rfl ?_
  exact Go.retO X4 hx hby hlk hret rfl (Or.inr (Or.inr (Or.inr (Or.inr ⟨rfl, rfl, rfl⟩)))) d_jdk_52_16_56 (by decide) (by decide) (by rw [e4]; exact ⟨b3_bv, rfl, N3, ((((Keep.refl h0 []).ext E1).trans K2 (allS (Or.inr sz_b1) all0)).trans K3 all0), sz_b3_bv, Ap3_0⟩)
theorem efcc2_4 (m : MethodId) (x0 : Addr) (x1 : Int32) : entryFrame m #[(.ref x0), (.int x1)] 2 = mkF m 0 #[.val (.ref x0), .val (.int x1)] [] := by first | (simp [entryFrame, mkF, argsToLocals, Value.category]; done) | rfl
set_option maxRecDepth 65536 in
set_option maxHeartbeats 40000000 in
theorem ccc2_4 (l : Launch) (Z : State) (a0 : Array Value) (hw : ∀ d ∈ tables_1, d.before a0 Z = true) (a1 : Addr) (cz : Int32) (vf : Value) (y0 : Int32) (y1 : Int32) (y2 : Int32) (y3 : Int32) (h0 : Heap) (n0 : Nat) (Z0 : n0 ≤ h0.size) (A_a1 : Av Z h0 a1 .byte [(.int y0), (.int y1), (.int y2), (.int y3)]) (O0 : Old Z n0 h0) (SS : SSt Z cz vf) :
    Con l Z (⟨"java/lang/StringUTF16", "coderFromArrayLen", "([BI)B"⟩ : MethodName) jdk_52_method_15_code 2 (some .byte) ({ frames := 0, cells := 0, slots := 0, locals := 0 } : Room) [] #[(.ref a1), (.int (2 : Int32))] h0 (fun v h L => v = some (.int (1 : Int32)) ∧ h = h0 ∧ L = []) := by
  refine Con.of (plainFor_of_name pn_java_lang_StringUTF16) #[.val (.ref a1), .val (.int (2 : Int32))] (fun m => efcc2_4 m a1 (2 : Int32)) ?_
  intro p e s m below meth c s₁ K hx hby hml hown hnm hret hlk hZ X0 e0
  have N0 := Fr.nil n0
  refine m_iloadN K X0.here hx hby d_jdk_52_15_0 rfl rfl ?_
  refine m_aloadN K X0.here hx hby d_jdk_52_15_1 rfl rfl rfl ?_
  refine k_len K X0 hx hby hZ (4 : Int32) e0 A_a1 rfl d_jdk_52_15_2 rfl ?_
  refine m_isub K X0.here hx hby (-2 : Int32) d_jdk_52_15_3 rfl rfl ?_
  refine m_bipush K X0.here hx hby (31 : Int32) d_jdk_52_15_4 rfl rfl ?_
  refine m_iushr K X0.here hx hby (1 : Int32) d_jdk_52_15_6 rfl rfl ?_
  refine m_i2b K X0.here hx hby (1 : Int32) d_jdk_52_15_7 rfl rfl ?_
  exact Go.retN X0 hx hby hlk hret (by simp) d_jdk_52_15_8 (by decide) (by decide) (by decide) (⟨rfl, e0, rfl⟩)
theorem efsi2_0 (m : MethodId) (x0 : Addr) (x1 : Addr) (x2 : Int32) (x3 : Int32) : entryFrame m #[(.ref x0), (.ref x1), (.int x2), (.int x3), .null] 6 = mkF m 0 #[.val (.ref x0), .val (.ref x1), .val (.int x2), .val (.int x3), .val .null, .unset] [] := by first | (simp [entryFrame, mkF, argsToLocals, Value.category]; done) | rfl
set_option maxRecDepth 65536 in
set_option maxHeartbeats 40000000 in
theorem csi2_0 (l : Launch) (Z : State) (a0 : Array Value) (hw : ∀ d ∈ tables_1, d.before a0 Z = true) (a1 : Addr) (a2 : Addr) (cz : Int32) (vf : Value) (c0 : Int32) (c1 : Int32) (h0 : Heap) (n0 : Nat) (Z0 : n0 ≤ h0.size) (E_a1 : Exa Z h0 a1 "java/lang/String") (F_value_a1 : Fld Z h0 a1 "java/lang/String" "value" "[B" .null) (F_coder_a1 : Fld Z h0 a1 "java/lang/String" "coder" "B" (.int (0 : Int32))) (A_a2 : Av Z h0 a2 .char [(.int c0), (.int c1)]) (O0 : Old Z n0 h0) (g_a1 : n0 ≤ a1) (SS : SSt Z cz vf) (hg : (255 : Int32) < c0) (hch_0 : nar .char c0 = c0) (hch_1 : nar .char c1 = c1) :
    Con l Z (⟨"java/lang/String", "<init>", "([CIILjava/lang/Void;)V"⟩ : MethodName) jdk_42_method_149_code 6 none ({ frames := 4, cells := 2, slots := 6, locals := 57 } : Room) [] #[(.ref a1), (.ref a2), (.int (0 : Int32)), (.int (2 : Int32)), .null] h0 (fun v h L => ∃ bv : Addr, v = none ∧ Fr n0 L ∧ Keep h0 h [a1] ∧ h0.size ≤ bv ∧ Fld Z h a1 "java/lang/String" "value" "[B" (.ref bv) ∧ Fld Z h a1 "java/lang/String" "coder" "B" (.int (1 : Int32)) ∧ Av Z h bv .byte [(.int (BLO c0)), (.int (BHI c0)), (.int (BLO c1)), (.int (BHI c1))]) := by
  refine Con.of (plainFor_of_name pn_java_lang_String) #[.val (.ref a1), .val (.ref a2), .val (.int (0 : Int32)), .val (.int (2 : Int32)), .val .null, .unset] (fun m => efsi2_0 m a1 a2 (0 : Int32) (2 : Int32)) ?_
  intro p e s m below meth c s₁ K hx hby hml hown hnm hret hlk hZ X0 e0
  have N0 := Fr.nil n0
  refine m_aloadN K X0.here hx hby d_jdk_42_149_0 rfl rfl rfl ?_
  refine k_initO K X0 hx hby hZ hown (W hw 15 rfl) (W hw 16 rfl) (W hw 17 rfl) e0 d_jdk_42_149_1 (by rw [hml]; rfl) rfl (by decide) (Nat.le_of_ble_eq_true rfl) fun T1 X1 e1 => ?_
  refine m_iloadN K X1.here hx hby d_jdk_42_149_4 rfl rfl ?_
  refine m_ifY K X1.here hx hby (q := 27) d_jdk_42_149_5 ((if0 _ _).trans (feq (by decide : ¬ ((2 : Int32) = (0 : Int32)))).2) (by decide) rfl ?_
  refine k_getS K X1 hx hby hZ hown (host := "") (Or.inl (W hw 40 rfl)) Via.refl e1 (SS.cs.ext O0.2) d_jdk_42_149_27 rfl fun T2 X2 e2 => ?_
  refine m_ifN K X2.here hx hby (q := 33) d_jdk_42_149_30 ((if0 _ _).trans (feq SS.cz).1) rfl ?_
  refine m_aloadN K X2.here hx hby d_jdk_42_149_33 rfl rfl rfl ?_
  refine m_iloadN K X2.here hx hby d_jdk_42_149_34 rfl rfl ?_
  refine m_iloadN K X2.here hx hby d_jdk_42_149_35 rfl rfl ?_
  refine k_callS K X2 hx hby hZ [(.ref a2), (.int (0 : Int32)), (.int (2 : Int32))] [] hown (W hw 41 rfl) (W hw 42 rfl) (W hw 43 rfl) (W hw 44 rfl) (cct2_0 l Z a0 hw a2 cz vf c0 c1 h0 n0 Z0 A_a2 O0 SS hg hch_0 hch_1) e2 rfl rfl pd_11 rfl d_jdk_42_149_36 (by rw [hml]; rfl) rfl (by decide) (by decide) (Nat.le_of_ble_eq_true rfl) (by decide) (by decide) fun v3 T3 L3 X3 q3 => ?_
  obtain ⟨b3_bv, rfl, Nq3, K3, sq_b3_bv, Ap3_0⟩ := q3
  have N3 := Fr.app N0 Nq3
  have sz_b3_bv : h0.size ≤ b3_bv := Nat.le_trans (Nat.le_refl _) sq_b3_bv
  have g_b3_bv : n0 ≤ b3_bv := Nat.le_trans Z0 sz_b3_bv
  refine k_some K (w := (.ref b3_bv)) ?_
  refine m_astore K X3.here hx hby #[.val (.ref a1), .val (.ref a2), .val (.int (0 : Int32)), .val (.int (2 : Int32)), .val .null, .val (.ref b3_bv)] d_jdk_42_149_39 rfl rfl rfl ?_
  refine m_aloadN K X3.here hx hby d_jdk_42_149_41 rfl rfl rfl ?_
  refine m_aload K X3.here hx hby d_jdk_42_149_42 rfl rfl rfl ?_
  refine m_iloadN K X3.here hx hby d_jdk_42_149_44 rfl rfl ?_
  refine k_callS K X3 hx hby hZ [(.ref b3_bv), (.int (2 : Int32))] [(.ref a1)] hown (W hw 48 rfl) (W hw 49 rfl) (W hw 43 rfl) (W hw 50 rfl) (ccc2_4 l Z a0 hw b3_bv cz vf (BLO c0) (BHI c0) (BLO c1) (BHI c1) T3.heap n0 (Nat.le_trans Z0 (Nat.le_trans (Nat.le_refl _) K3.1)) Ap3_0 (O0.keep K3 all0) SS) rfl rfl rfl pd_12 rfl d_jdk_42_149_45 (by rw [hml]; rfl) rfl (by decide) (by decide) (Nat.le_of_ble_eq_true rfl) (by decide) (by decide) fun v4 T4 L4 X4 q4 => ?_
  obtain ⟨rfl, e4, rfl⟩ := q4
  replace X4 := own_px X4
  refine k_some K (w := (.int (1 : Int32))) ?_
  refine k_putF K X4 hx hby hZ hown (host := "") (Or.inl (W hw 25 rfl)) Via.refl e4 (F_coder_a1.keep K3 nin0) (E_a1.keep K3) (Or.inr ⟨(W hw 21 rfl), rfl, hnm⟩) (W hw 6 rfl) (ty := .byte) (by decide) (by decide) (by decide) d_jdk_42_149_48 rfl fun T5 h5 X5 e5 W5 => ?_
  have Fw5 := (F_coder_a1.keep K3 nin0).same W5
  have N5 := Fr.snoc X5 N3 g_a1
  refine m_aloadN K X5.here hx hby d_jdk_42_149_51 rfl rfl rfl ?_
  refine m_aload K X5.here hx hby d_jdk_42_149_52 rfl rfl rfl ?_
  refine k_putF K X5 hx hby hZ hown (host := "") (Or.inl (W hw 24 rfl)) Via.refl e5 ((F_value_a1.keep K3 nin0).other W5 (Or.inr (slot_ne (Or.inr (W hw 20 rfl)) (Or.inr (W hw 21 rfl)) (by decide) (t := (.array .byte)) (t' := .byte) (by decide) (by decide)))) ((E_a1.keep K3).wr W5) (Or.inr ⟨(W hw 20 rfl), rfl, hnm⟩) (W hw 6 rfl) (ty := (.array .byte)) (by decide) rfl rfl d_jdk_42_149_54 rfl fun T6 h6 X6 e6 W6 => ?_
  have Fw6 := ((F_value_a1.keep K3 nin0).other W5 (Or.inr (slot_ne (Or.inr (W hw 20 rfl)) (Or.inr (W hw 21 rfl)) (by decide) (t := (.array .byte)) (t' := .byte) (by decide) (by decide)))).same W6
  have N6 := Fr.snoc X6 N5 g_a1
  exact Go.retV X6 hx hby hlk hret d_jdk_42_149_57 (by decide) (by decide) (by rw [e6]; exact ⟨b3_bv, rfl, N6, ((((Keep.refl h0 [a1]).trans K3 all0).wr W5 (Or.inl (by simp))).wr W6 (Or.inl (by simp))), sz_b3_bv, Fw6, (Fw5.other W6 (Or.inr (slot_ne (Or.inr (W hw 21 rfl)) (Or.inr (W hw 20 rfl)) (by decide) (t := .byte) (t' := (.array .byte)) (by decide) (by decide)))), ((Ap3_0.other W5 (Ne.symm (Nat.ne_of_lt (Nat.lt_of_lt_of_le (Nat.lt_of_lt_of_le E_a1.lt (Nat.le_refl _)) sq_b3_bv)))).other W6 (Ne.symm (Nat.ne_of_lt (Nat.lt_of_lt_of_le (Nat.lt_of_lt_of_le E_a1.lt (Nat.le_refl _)) sq_b3_bv))))⟩)
theorem efsj2_0 (m : MethodId) (x0 : Addr) (x1 : Addr) : entryFrame m #[(.ref x0), (.ref x1)] 2 = mkF m 0 #[.val (.ref x0), .val (.ref x1)] [] := by first | (simp [entryFrame, mkF, argsToLocals, Value.category]; done) | rfl
set_option maxRecDepth 65536 in
set_option maxHeartbeats 40000000 in
theorem csj2_0 (l : Launch) (Z : State) (a0 : Array Value) (hw : ∀ d ∈ tables_1, d.before a0 Z = true) (a1 : Addr) (a2 : Addr) (cz : Int32) (vf : Value) (c0 : Int32) (c1 : Int32) (h0 : Heap) (n0 : Nat) (Z0 : n0 ≤ h0.size) (E_a1 : Exa Z h0 a1 "java/lang/String") (F_value_a1 : Fld Z h0 a1 "java/lang/String" "value" "[B" .null) (F_coder_a1 : Fld Z h0 a1 "java/lang/String" "coder" "B" (.int (0 : Int32))) (A_a2 : Av Z h0 a2 .char [(.int c0), (.int c1)]) (O0 : Old Z n0 h0) (g_a1 : n0 ≤ a1) (SS : SSt Z cz vf) (hg : (255 : Int32) < c0) (hch_0 : nar .char c0 = c0) (hch_1 : nar .char c1 = c1) :
    Con l Z (⟨"java/lang/String", "<init>", "([C)V"⟩ : MethodName) jdk_42_method_3_code 2 none ({ frames := 5, cells := 2, slots := 6, locals := 74 } : Room) [] #[(.ref a1), (.ref a2)] h0 (fun v h L => ∃ bv : Addr, v = none ∧ Fr n0 L ∧ Keep h0 h [a1] ∧ h0.size ≤ bv ∧ Fld Z h a1 "java/lang/String" "value" "[B" (.ref bv) ∧ Fld Z h a1 "java/lang/String" "coder" "B" (.int (1 : Int32)) ∧ Av Z h bv .byte [(.int (BLO c0)), (.int (BHI c0)), (.int (BLO c1)), (.int (BHI c1))]) := by
  refine Con.of (plainFor_of_name pn_java_lang_String) #[.val (.ref a1), .val (.ref a2)] (fun m => efsj2_0 m a1 a2) ?_
  intro p e s m below meth c s₁ K hx hby hml hown hnm hret hlk hZ X0 e0
  have N0 := Fr.nil n0
  refine m_aloadN K X0.here hx hby d_jdk_42_3_0 rfl rfl rfl ?_
  refine m_aloadN K X0.here hx hby d_jdk_42_3_1 rfl rfl rfl ?_
  refine m_iconst K X0.here hx hby (0 : Int32) d_jdk_42_3_2 rfl rfl ?_
  refine m_aloadN K X0.here hx hby d_jdk_42_3_3 rfl rfl rfl ?_
  refine k_len K X0 hx hby hZ (2 : Int32) e0 A_a2 rfl d_jdk_42_3_4 rfl ?_
  refine m_null K X0.here hx hby d_jdk_42_3_5 rfl ?_
  refine k_callP K X0 hx hby hZ a1 [(.ref a2), (.int (0 : Int32)), (.int (2 : Int32)), .null] [] hown (W hw 11 rfl) (W hw 12 rfl) (W hw 7 rfl) (W hw 14 rfl) rfl (csi2_0 l Z a0 hw a1 a2 cz vf c0 c1 h0 n0 Z0 E_a1 F_value_a1 F_coder_a1 A_a2 O0 g_a1 SS hg hch_0 hch_1) e0 rfl rfl pd_13 rfl d_jdk_42_3_6 (by rw [hml]; rfl) rfl (by decide) (by decide) (Nat.le_of_ble_eq_true rfl) (by decide) (by decide) fun v1 T1 L1 X1 q1 => ?_
  obtain ⟨b1_bv, rfl, Nq1, K1, sq_b1_bv, Fp1_0, Fp1_1, Ap1_0⟩ := q1
  have N1 := Fr.app N0 Nq1
  have sz_b1_bv : h0.size ≤ b1_bv := Nat.le_trans (Nat.le_refl _) sq_b1_bv
  have g_b1_bv : n0 ≤ b1_bv := Nat.le_trans Z0 sz_b1_bv
  refine k_none K ?_
  exact Go.retV X1 hx hby hlk hret d_jdk_42_3_9 (by decide) (by decide) (⟨b1_bv, rfl, N1, ((Keep.refl h0 [a1]).trans K1 (allS (Or.inl (by simp)) all0)), sz_b1_bv, Fp1_0, Fp1_1, Ap1_0⟩)
theorem efcf2_1 (m : MethodId) (x0 : Addr) (x1 : Int32) (x2 : Addr) (x3 : Int32) (x4 : Int32) : entryFrame m #[(.ref x0), (.int x1), (.ref x2), (.int x3), (.int x4)] 7 = mkF m 0 #[.val (.ref x0), .val (.int x1), .val (.ref x2), .val (.int x3), .val (.int x4), .unset, .unset] [] := by first | (simp [entryFrame, mkF, argsToLocals, Value.category]; done) | rfl
set_option maxRecDepth 65536 in
set_option maxHeartbeats 40000000 in
theorem ccf2_1 (l : Launch) (Z : State) (a0 : Array Value) (hw : ∀ d ∈ tables_1, d.before a0 Z = true) (a1 : Addr) (a3 : Addr) (cz : Int32) (vf : Value) (c0 : Int32) (c1 : Int32) (h0 : Heap) (n0 : Nat) (Z0 : n0 ≤ h0.size) (A_a1 : Av Z h0 a1 .char [(.int c0), (.int c1)]) (A_a3 : Av Z h0 a3 .byte [(.int (0 : Int32)), (.int (0 : Int32))]) (O0 : Old Z n0 h0) (g_a3 : n0 ≤ a3) (ne_a1_a3 : a1 ≠ a3) (SS : SSt Z cz vf) (hl_0 : ¬ ((255 : Int32) < c0)) (hg : (255 : Int32) < c1) (hch_0 : nar .char c0 = c0) (hch_1 : nar .char c1 = c1) :
    Con l Z (⟨"java/lang/StringUTF16", "compress", "([CI[BII)I"⟩ : MethodName) jdk_52_method_21_code 7 (some .int) ({ frames := 0, cells := 0, slots := 0, locals := 0 } : Room) [] #[(.ref a1), (.int (0 : Int32)), (.ref a3), (.int (0 : Int32)), (.int (2 : Int32))] h0 (fun v h L => v = some (.int (1 : Int32)) ∧ Fr n0 L ∧ Keep h0 h [a3] ∧ Av Z h a3 .byte [(.int (nar .byte (c0.toInt8.toInt32))), (.int (0 : Int32))]) := by
  refine Con.of (plainFor_of_name pn_java_lang_StringUTF16) #[.val (.ref a1), .val (.int (0 : Int32)), .val (.ref a3), .val (.int (0 : Int32)), .val (.int (2 : Int32)), .unset, .unset] (fun m => efcf2_1 m a1 (0 : Int32) a3 (0 : Int32) (2 : Int32)) ?_
  intro p e s m below meth c s₁ K hx hby hml hown hnm hret hlk hZ X0 e0
  have N0 := Fr.nil n0
  refine m_iconst K X0.here hx hby (0 : Int32) d_jdk_52_21_0 rfl rfl ?_
  refine m_istore K X0.here hx hby #[.val (.ref a1), .val (.int (0 : Int32)), .val (.ref a3), .val (.int (0 : Int32)), .val (.int (2 : Int32)), .val (.int (0 : Int32)), .unset] d_jdk_52_21_1 rfl rfl ?_
  refine m_iload K X0.here hx hby d_jdk_52_21_3 rfl rfl ?_
  refine m_iload K X0.here hx hby d_jdk_52_21_5 rfl rfl ?_
  refine m_icmpN K X0.here hx hby (q := 10) d_jdk_52_21_7 (tlt (by decide : (0 : Int32) < (2 : Int32))).2.1 rfl ?_
  refine m_aloadN K X0.here hx hby d_jdk_52_21_10 rfl rfl rfl ?_
  refine m_iloadN K X0.here hx hby d_jdk_52_21_11 rfl rfl ?_
  refine k_ldC K X0 hx hby hZ e0 A_a1 (v := (.int c0)) (by decide) rfl d_jdk_52_21_12 rfl ?_
  refine m_istore K X0.here hx hby #[.val (.ref a1), .val (.int (0 : Int32)), .val (.ref a3), .val (.int (0 : Int32)), .val (.int (2 : Int32)), .val (.int (0 : Int32)), .val (.int c0)] d_jdk_52_21_13 rfl rfl ?_
  refine m_iload K X0.here hx hby d_jdk_52_21_15 rfl rfl ?_
  refine m_sipush K X0.here hx hby (255 : Int32) d_jdk_52_21_17 rfl rfl ?_
  refine m_icmpY K X0.here hx hby (q := 26) d_jdk_52_21_20 (flt hl_0).2.2.2 (by decide) rfl ?_
  refine m_aloadN K X0.here hx hby d_jdk_52_21_26 rfl rfl rfl ?_
  refine m_iloadN K X0.here hx hby d_jdk_52_21_27 rfl rfl ?_
  refine m_iload K X0.here hx hby d_jdk_52_21_28 rfl rfl ?_
  refine m_i2b K X0.here hx hby (c0.toInt8.toInt32) d_jdk_52_21_30 rfl rfl ?_
  refine k_stB K X0 hx hby hZ e0 A_a3 (by decide) (Nat.le_of_ble_eq_true rfl) d_jdk_52_21_31 rfl fun T1 h1 X1 e1 W1 V1 => ?_
  replace V1 : Av Z h1 a3 .byte [(.int (nar .byte (c0.toInt8.toInt32))), (.int (0 : Int32))] := V1
  have N1 := Fr.snoc X1 N0 g_a3
  refine m_iinc K X1.here hx hby #[.val (.ref a1), .val (.int (1 : Int32)), .val (.ref a3), .val (.int (0 : Int32)), .val (.int (2 : Int32)), .val (.int (0 : Int32)), .val (.int c0)] d_jdk_52_21_32 rfl rfl rfl ?_
  refine m_iinc K X1.here hx hby #[.val (.ref a1), .val (.int (1 : Int32)), .val (.ref a3), .val (.int (1 : Int32)), .val (.int (2 : Int32)), .val (.int (0 : Int32)), .val (.int c0)] d_jdk_52_21_35 rfl rfl rfl ?_
  refine m_iinc K X1.here hx hby #[.val (.ref a1), .val (.int (1 : Int32)), .val (.ref a3), .val (.int (1 : Int32)), .val (.int (2 : Int32)), .val (.int (1 : Int32)), .val (.int c0)] d_jdk_52_21_38 rfl rfl rfl ?_
  refine m_goto K X1.here hx hby (q := 3) d_jdk_52_21_41 (by decide) rfl ?_
  refine m_iload K X1.here hx hby d_jdk_52_21_3 rfl rfl ?_
  refine m_iload K X1.here hx hby d_jdk_52_21_5 rfl rfl ?_
  refine m_icmpN K X1.here hx hby (q := 10) d_jdk_52_21_7 (tlt (by decide : (1 : Int32) < (2 : Int32))).2.1 rfl ?_
  refine m_aloadN K X1.here hx hby d_jdk_52_21_10 rfl rfl rfl ?_
  refine m_iloadN K X1.here hx hby d_jdk_52_21_11 rfl rfl ?_
  refine k_ldC K X1 hx hby hZ e1 (A_a1.other W1 ne_a1_a3) (v := (.int c1)) (by decide) rfl d_jdk_52_21_12 rfl ?_
  refine m_istore K X1.here hx hby #[.val (.ref a1), .val (.int (1 : Int32)), .val (.ref a3), .val (.int (1 : Int32)), .val (.int (2 : Int32)), .val (.int (1 : Int32)), .val (.int c1)] d_jdk_52_21_13 rfl rfl ?_
  refine m_iload K X1.here hx hby d_jdk_52_21_15 rfl rfl ?_
  refine m_sipush K X1.here hx hby (255 : Int32) d_jdk_52_21_17 rfl rfl ?_
  refine m_icmpN K X1.here hx hby (q := 23) d_jdk_52_21_20 (tlt hg).2.2.2 rfl ?_
  refine m_iload K X1.here hx hby d_jdk_52_21_23 rfl rfl ?_
  exact Go.retI X1 hx hby hlk hret d_jdk_52_21_25 (by decide) (by decide) (by rw [e1]; exact ⟨rfl, N1, ((Keep.refl h0 [a3]).wr W1 (Or.inl (by simp))), V1⟩)
theorem efct2_1 (m : MethodId) (x0 : Addr) (x1 : Int32) (x2 : Int32) : entryFrame m #[(.ref x0), (.int x1), (.int x2)] 6 = mkF m 0 #[.val (.ref x0), .val (.int x1), .val (.int x2), .unset, .unset, .unset] [] := by first | (simp [entryFrame, mkF, argsToLocals, Value.category]; done) | rfl
set_option maxRecDepth 65536 in
set_option maxHeartbeats 40000000 in
theorem cct2_1 (l : Launch) (Z : State) (a0 : Array Value) (hw : ∀ d ∈ tables_1, d.before a0 Z = true) (a1 : Addr) (cz : Int32) (vf : Value) (c0 : Int32) (c1 : Int32) (h0 : Heap) (n0 : Nat) (Z0 : n0 ≤ h0.size) (A_a1 : Av Z h0 a1 .char [(.int c0), (.int c1)]) (O0 : Old Z n0 h0) (SS : SSt Z cz vf) (hl_0 : ¬ ((255 : Int32) < c0)) (hg : (255 : Int32) < c1) (hch_0 : nar .char c0 = c0) (hch_1 : nar .char c1 = c1) :
    Con l Z (⟨"java/lang/StringUTF16", "compress", "([CII)[B"⟩ : MethodName) jdk_52_method_16_code 6 (some (.array .byte)) ({ frames := 3, cells := 2, slots := 6, locals := 40 } : Room) [] #[(.ref a1), (.int (0 : Int32)), (.int (2 : Int32))] h0 (fun v h L => ∃ bv : Addr, v = some (.ref bv) ∧ Fr n0 L ∧ Keep h0 h [] ∧ h0.size ≤ bv ∧ Av Z h bv .byte [(.int (BLO c0)), (.int (BHI c0)), (.int (BLO c1)), (.int (BHI c1))]) := by
  refine Con.of (plainFor_of_name pn_java_lang_StringUTF16) #[.val (.ref a1), .val (.int (0 : Int32)), .val (.int (2 : Int32)), .unset, .unset, .unset] (fun m => efct2_1 m a1 (0 : Int32) (2 : Int32)) ?_
  intro p e s m below meth c s₁ K hx hby hml hown hnm hret hlk hZ X0 e0
  have N0 := Fr.nil n0
  refine m_iloadN K X0.here hx hby d_jdk_52_16_0 rfl rfl ?_
  refine k_newP K X0 hx hby hZ 2 2 (W hw 19 rfl) e0 d_jdk_52_16_1 rfl (by decide) rfl (by decide) (by decide) (by decide) (by decide) fun T1 h1 b1 X1 e1 E1 g1 V_b1 => ?_
  have sz_b1 : h0.size ≤ b1 := Nat.le_trans (Nat.le_refl _) (Nat.le_of_eq g1.symm)
  have g_b1 : n0 ≤ b1 := Nat.le_trans Z0 sz_b1
  replace V_b1 : Av Z h1 b1 .byte [(.int (0 : Int32)), (.int (0 : Int32))] := V_b1
  refine m_astoreN K X1.here hx hby #[.val (.ref a1), .val (.int (0 : Int32)), .val (.int (2 : Int32)), .val (.ref b1), .unset, .unset] d_jdk_52_16_3 rfl rfl rfl ?_
  refine m_aloadN K X1.here hx hby d_jdk_52_16_4 rfl rfl rfl ?_
  refine m_iloadN K X1.here hx hby d_jdk_52_16_5 rfl rfl ?_
  refine m_aloadN K X1.here hx hby d_jdk_52_16_6 rfl rfl rfl ?_
  refine m_iconst K X1.here hx hby (0 : Int32) d_jdk_52_16_7 rfl rfl ?_
  refine m_iloadN K X1.here hx hby d_jdk_52_16_8 rfl rfl ?_
  refine k_callS K X1 hx hby hZ [(.ref a1), (.int (0 : Int32)), (.ref b1), (.int (0 : Int32)), (.int (2 : Int32))] [] hown (W hw 45 rfl) (W hw 46 rfl) (W hw 43 rfl) (W hw 47 rfl) (ccf2_1 l Z a0 hw a1 b1 cz vf c0 c1 h1 n0 (Nat.le_trans Z0 (Nat.le_trans (Nat.le_refl _) E1.1)) (A_a1.ext E1) V_b1 (O0.ext E1) g_b1 (Nat.ne_of_lt (Nat.lt_of_lt_of_le (Nat.lt_of_lt_of_le A_a1.lt (Nat.le_refl _)) (Nat.le_of_eq g1.symm))) SS hl_0 hg hch_0 hch_1) e1 rfl rfl pd_10 rfl d_jdk_52_16_9 (by rw [hml]; rfl) rfl (by decide) (by decide) (Nat.le_of_ble_eq_true rfl) (by decide) (by decide) fun v2 T2 L2 X2 q2 => ?_
  obtain ⟨rfl, Nq2, K2, Ap2_0⟩ := q2
  have N2 := Fr.app N0 Nq2
  refine k_some K (w := (.int (1 : Int32))) ?_
  refine m_istore K X2.here hx hby #[.val (.ref a1), .val (.int (0 : Int32)), .val (.int (2 : Int32)), .val (.ref b1), .val (.int (1 : Int32)), .unset] d_jdk_52_16_12 rfl rfl ?_
  refine m_iload K X2.here hx hby d_jdk_52_16_14 rfl rfl ?_
  refine m_iloadN K X2.here hx hby d_jdk_52_16_16 rfl rfl ?_
  refine m_icmpN K X2.here hx hby (q := 20) d_jdk_52_16_17 (feq (by decide : ¬ ((1 : Int32) = (2 : Int32)))).1 rfl ?_
  refine m_aloadN K X2.here hx hby d_jdk_52_16_20 rfl rfl rfl ?_
  refine m_iloadN K X2.here hx hby d_jdk_52_16_21 rfl rfl ?_
  refine m_iloadN K X2.here hx hby d_jdk_52_16_22 rfl rfl ?_
  refine k_callS K X2 hx hby hZ [(.ref a1), (.int (0 : Int32)), (.int (2 : Int32))] [] hown (W hw 74 rfl) (W hw 75 rfl) (W hw 43 rfl) (W hw 76 rfl) (ctb2 l Z a0 hw a1 cz vf c0 c1 T2.heap n0 (Nat.le_trans Z0 (Nat.le_trans (Nat.le_trans (Nat.le_refl _) E1.1) K2.1)) ((A_a1.ext E1).keep K2 (ninS (Nat.ne_of_lt (Nat.lt_of_lt_of_le (Nat.lt_of_lt_of_le A_a1.lt (Nat.le_refl _)) (Nat.le_of_eq g1.symm))) nin0)) ((O0.ext E1).keep K2 (allS g_b1 all0)) SS) rfl rfl rfl pd_11 rfl d_jdk_52_16_23 (by rw [hml]; rfl) rfl (by decide) (by decide) (Nat.le_of_ble_eq_true rfl) (by decide) (by decide) fun v3 T3 L3 X3 q3 => ?_
  obtain ⟨b3_bv, rfl, Nq3, K3, sq_b3_bv, Ap3_0⟩ := q3
  have N3 := Fr.app N2 Nq3
  have sz_b3_bv : h0.size ≤ b3_bv := Nat.le_trans (Nat.le_trans (Nat.le_trans (Nat.le_refl _) E1.1) K2.1) sq_b3_bv
  have g_b3_bv : n0 ≤ b3_bv := Nat.le_trans Z0 sz_b3_bv
  refine k_some K (w := (.ref b3_bv)) ?_
  refine m_astore K X3.here hx hby #[.val (.ref a1), .val (.int (0 : Int32)), .val (.int (2 : Int32)), .val (.ref b1), .val (.int (1 : Int32)), .val (.ref b3_bv)] d_jdk_52_16_26 rfl rfl rfl ?_
  refine m_aload K X3.here hx hby d_jdk_52_16_28 rfl rfl rfl ?_
  refine m_iload K X3.here hx hby d_jdk_52_16_30 rfl rfl ?_
  refine k_callS K X3 hx hby hZ [(.ref b3_bv), (.int (1 : Int32))] [] hown (W hw 90 rfl) (W hw 91 rfl) (W hw 43 rfl) (W hw 92 rfl) (cgc2_1 l Z a0 hw b3_bv cz vf (BLO c0) (BHI c0) (BLO c1) (BHI c1) T3.heap n0 (Nat.le_trans Z0 (Nat.le_trans (Nat.le_trans (Nat.le_trans (Nat.le_refl _) E1.1) K2.1) K3.1)) Ap3_0 (((O0.ext E1).keep K2 (allS g_b1 all0)).keep K3 all0) SS) rfl rfl rfl pd_5 rfl d_jdk_52_16_32 (by rw [hml]; rfl) rfl (by decide) (by decide) (Nat.le_of_ble_eq_true rfl) (by decide) (by decide) fun v4 T4 L4 X4 q4 => ?_
  obtain ⟨rfl, e4, rfl⟩ := q4
  replace X4 := own_px X4
  refine k_some K (w := (.int (GCH (BLO c1) (BHI c1)))) ?_
  refine m_sipush K X4.here hx hby (255 : Int32) d_jdk_52_16_35 rfl rfl ?_
  refine m_icmpY K X4.here hx hby (q := 54) d_jdk_52_16_38 (tlt (own_rgt c1 hch_1 hg)).2.2.1 (by decide) rfl ?_
  refine m_aload K X4.here hx hby d_jdk_52_16_54 rfl rfl rfl ?_
  exact Go.retO X4 hx hby hlk hret rfl (Or.inr (Or.inr (Or.inr (Or.inr ⟨rfl, rfl, rfl⟩)))) d_jdk_52_16_56 (by decide) (by decide) (by rw [e4]; exact ⟨b3_bv, rfl, N3, ((((Keep.refl h0 []).ext E1).trans K2 (allS (Or.inr sz_b1) all0)).trans K3 all0), sz_b3_bv, Ap3_0⟩)
theorem efsi2_1 (m : MethodId) (x0 : Addr) (x1 : Addr) (x2 : Int32) (x3 : Int32) : entryFrame m #[(.ref x0), (.ref x1), (.int x2), (.int x3), .null] 6 = mkF m 0 #[.val (.ref x0), .val (.ref x1), .val (.int x2), .val (.int x3), .val .null, .unset] [] := by first | (simp [entryFrame, mkF, argsToLocals, Value.category]; done) | rfl
set_option maxRecDepth 65536 in
set_option maxHeartbeats 40000000 in
theorem csi2_1 (l : Launch) (Z : State) (a0 : Array Value) (hw : ∀ d ∈ tables_1, d.before a0 Z = true) (a1 : Addr) (a2 : Addr) (cz : Int32) (vf : Value) (c0 : Int32) (c1 : Int32) (h0 : Heap) (n0 : Nat) (Z0 : n0 ≤ h0.size) (E_a1 : Exa Z h0 a1 "java/lang/String") (F_value_a1 : Fld Z h0 a1 "java/lang/String" "value" "[B" .null) (F_coder_a1 : Fld Z h0 a1 "java/lang/String" "coder" "B" (.int (0 : Int32))) (A_a2 : Av Z h0 a2 .char [(.int c0), (.int c1)]) (O0 : Old Z n0 h0) (g_a1 : n0 ≤ a1) (SS : SSt Z cz vf) (hl_0 : ¬ ((255 : Int32) < c0)) (hg : (255 : Int32) < c1) (hch_0 : nar .char c0 = c0) (hch_1 : nar .char c1 = c1) :
    Con l Z (⟨"java/lang/String", "<init>", "([CIILjava/lang/Void;)V"⟩ : MethodName) jdk_42_method_149_code 6 none ({ frames := 4, cells := 2, slots := 6, locals := 57 } : Room) [] #[(.ref a1), (.ref a2), (.int (0 : Int32)), (.int (2 : Int32)), .null] h0 (fun v h L => ∃ bv : Addr, v = none ∧ Fr n0 L ∧ Keep h0 h [a1] ∧ h0.size ≤ bv ∧ Fld Z h a1 "java/lang/String" "value" "[B" (.ref bv) ∧ Fld Z h a1 "java/lang/String" "coder" "B" (.int (1 : Int32)) ∧ Av Z h bv .byte [(.int (BLO c0)), (.int (BHI c0)), (.int (BLO c1)), (.int (BHI c1))]) := by
  refine Con.of (plainFor_of_name pn_java_lang_String) #[.val (.ref a1), .val (.ref a2), .val (.int (0 : Int32)), .val (.int (2 : Int32)), .val .null, .unset] (fun m => efsi2_1 m a1 a2 (0 : Int32) (2 : Int32)) ?_
  intro p e s m below meth c s₁ K hx hby hml hown hnm hret hlk hZ X0 e0
  have N0 := Fr.nil n0
  refine m_aloadN K X0.here hx hby d_jdk_42_149_0 rfl rfl rfl ?_
  refine k_initO K X0 hx hby hZ hown (W hw 15 rfl) (W hw 16 rfl) (W hw 17 rfl) e0 d_jdk_42_149_1 (by rw [hml]; rfl) rfl (by decide) (Nat.le_of_ble_eq_true rfl) fun T1 X1 e1 => ?_
  refine m_iloadN K X1.here hx hby d_jdk_42_149_4 rfl rfl ?_
  refine m_ifY K X1.here hx hby (q := 27) d_jdk_42_149_5 ((if0 _ _).trans (feq (by decide : ¬ ((2 : Int32) = (0 : Int32)))).2) (by decide) rfl ?_
  refine k_getS K X1 hx hby hZ hown (host := "") (Or.inl (W hw 40 rfl)) Via.refl e1 (SS.cs.ext O0.2) d_jdk_42_149_27 rfl fun T2 X2 e2 => ?_
  refine m_ifN K X2.here hx hby (q := 33) d_jdk_42_149_30 ((if0 _ _).trans (feq SS.cz).1) rfl ?_
  refine m_aloadN K X2.here hx hby d_jdk_42_149_33 rfl rfl rfl ?_
  refine m_iloadN K X2.here hx hby d_jdk_42_149_34 rfl rfl ?_
  refine m_iloadN K X2.here hx hby d_jdk_42_149_35 rfl rfl ?_
  refine k_callS K X2 hx hby hZ [(.ref a2), (.int (0 : Int32)), (.int (2 : Int32))] [] hown (W hw 41 rfl) (W hw 42 rfl) (W hw 43 rfl) (W hw 44 rfl) (cct2_1 l Z a0 hw a2 cz vf c0 c1 h0 n0 Z0 A_a2 O0 SS hl_0 hg hch_0 hch_1) e2 rfl rfl pd_11 rfl d_jdk_42_149_36 (by rw [hml]; rfl) rfl (by decide) (by decide) (Nat.le_of_ble_eq_true rfl) (by decide) (by decide) fun v3 T3 L3 X3 q3 => ?_
  obtain ⟨b3_bv, rfl, Nq3, K3, sq_b3_bv, Ap3_0⟩ := q3
  have N3 := Fr.app N0 Nq3
  have sz_b3_bv : h0.size ≤ b3_bv := Nat.le_trans (Nat.le_refl _) sq_b3_bv
  have g_b3_bv : n0 ≤ b3_bv := Nat.le_trans Z0 sz_b3_bv
  refine k_some K (w := (.ref b3_bv)) ?_
  refine m_astore K X3.here hx hby #[.val (.ref a1), .val (.ref a2), .val (.int (0 : Int32)), .val (.int (2 : Int32)), .val .null, .val (.ref b3_bv)] d_jdk_42_149_39 rfl rfl rfl ?_
  refine m_aloadN K X3.here hx hby d_jdk_42_149_41 rfl rfl rfl ?_
  refine m_aload K X3.here hx hby d_jdk_42_149_42 rfl rfl rfl ?_
  refine m_iloadN K X3.here hx hby d_jdk_42_149_44 rfl rfl ?_
  refine k_callS K X3 hx hby hZ [(.ref b3_bv), (.int (2 : Int32))] [(.ref a1)] hown (W hw 48 rfl) (W hw 49 rfl) (W hw 43 rfl) (W hw 50 rfl) (ccc2_4 l Z a0 hw b3_bv cz vf (BLO c0) (BHI c0) (BLO c1) (BHI c1) T3.heap n0 (Nat.le_trans Z0 (Nat.le_trans (Nat.le_refl _) K3.1)) Ap3_0 (O0.keep K3 all0) SS) rfl rfl rfl pd_12 rfl d_jdk_42_149_45 (by rw [hml]; rfl) rfl (by decide) (by decide) (Nat.le_of_ble_eq_true rfl) (by decide) (by decide) fun v4 T4 L4 X4 q4 => ?_
  obtain ⟨rfl, e4, rfl⟩ := q4
  replace X4 := own_px X4
  refine k_some K (w := (.int (1 : Int32))) ?_
  refine k_putF K X4 hx hby hZ hown (host := "") (Or.inl (W hw 25 rfl)) Via.refl e4 (F_coder_a1.keep K3 nin0) (E_a1.keep K3) (Or.inr ⟨(W hw 21 rfl), rfl, hnm⟩) (W hw 6 rfl) (ty := .byte) (by decide) (by decide) (by decide) d_jdk_42_149_48 rfl fun T5 h5 X5 e5 W5 => ?_
  have Fw5 := (F_coder_a1.keep K3 nin0).same W5
  have N5 := Fr.snoc X5 N3 g_a1
  refine m_aloadN K X5.here hx hby d_jdk_42_149_51 rfl rfl rfl ?_
  refine m_aload K X5.here hx hby d_jdk_42_149_52 rfl rfl rfl ?_
  refine k_putF K X5 hx hby hZ hown (host := "") (Or.inl (W hw 24 rfl)) Via.refl e5 ((F_value_a1.keep K3 nin0).other W5 (Or.inr (slot_ne (Or.inr (W hw 20 rfl)) (Or.inr (W hw 21 rfl)) (by decide) (t := (.array .byte)) (t' := .byte) (by decide) (by decide)))) ((E_a1.keep K3).wr W5) (Or.inr ⟨(W hw 20 rfl), rfl, hnm⟩) (W hw 6 rfl) (ty := (.array .byte)) (by decide) rfl rfl d_jdk_42_149_54 rfl fun T6 h6 X6 e6 W6 => ?_
  have Fw6 := ((F_value_a1.keep K3 nin0).other W5 (Or.inr (slot_ne (Or.inr (W hw 20 rfl)) (Or.inr (W hw 21 rfl)) (by decide) (t := (.array .byte)) (t' := .byte) (by decide) (by decide)))).same W6
  have N6 := Fr.snoc X6 N5 g_a1
  exact Go.retV X6 hx hby hlk hret d_jdk_42_149_57 (by decide) (by decide) (by rw [e6]; exact ⟨b3_bv, rfl, N6, ((((Keep.refl h0 [a1]).trans K3 all0).wr W5 (Or.inl (by simp))).wr W6 (Or.inl (by simp))), sz_b3_bv, Fw6, (Fw5.other W6 (Or.inr (slot_ne (Or.inr (W hw 21 rfl)) (Or.inr (W hw 20 rfl)) (by decide) (t := .byte) (t' := (.array .byte)) (by decide) (by decide)))), ((Ap3_0.other W5 (Ne.symm (Nat.ne_of_lt (Nat.lt_of_lt_of_le (Nat.lt_of_lt_of_le E_a1.lt (Nat.le_refl _)) sq_b3_bv)))).other W6 (Ne.symm (Nat.ne_of_lt (Nat.lt_of_lt_of_le (Nat.lt_of_lt_of_le E_a1.lt (Nat.le_refl _)) sq_b3_bv))))⟩)
theorem efsj2_1 (m : MethodId) (x0 : Addr) (x1 : Addr) : entryFrame m #[(.ref x0), (.ref x1)] 2 = mkF m 0 #[.val (.ref x0), .val (.ref x1)] [] := by first | (simp [entryFrame, mkF, argsToLocals, Value.category]; done) | rfl
set_option maxRecDepth 65536 in
set_option maxHeartbeats 40000000 in
theorem csj2_1 (l : Launch) (Z : State) (a0 : Array Value) (hw : ∀ d ∈ tables_1, d.before a0 Z = true) (a1 : Addr) (a2 : Addr) (cz : Int32) (vf : Value) (c0 : Int32) (c1 : Int32) (h0 : Heap) (n0 : Nat) (Z0 : n0 ≤ h0.size) (E_a1 : Exa Z h0 a1 "java/lang/String") (F_value_a1 : Fld Z h0 a1 "java/lang/String" "value" "[B" .null) (F_coder_a1 : Fld Z h0 a1 "java/lang/String" "coder" "B" (.int (0 : Int32))) (A_a2 : Av Z h0 a2 .char [(.int c0), (.int c1)]) (O0 : Old Z n0 h0) (g_a1 : n0 ≤ a1) (SS : SSt Z cz vf) (hl_0 : ¬ ((255 : Int32) < c0)) (hg : (255 : Int32) < c1) (hch_0 : nar .char c0 = c0) (hch_1 : nar .char c1 = c1) :
    Con l Z (⟨"java/lang/String", "<init>", "([C)V"⟩ : MethodName) jdk_42_method_3_code 2 none ({ frames := 5, cells := 2, slots := 6, locals := 74 } : Room) [] #[(.ref a1), (.ref a2)] h0 (fun v h L => ∃ bv : Addr, v = none ∧ Fr n0 L ∧ Keep h0 h [a1] ∧ h0.size ≤ bv ∧ Fld Z h a1 "java/lang/String" "value" "[B" (.ref bv) ∧ Fld Z h a1 "java/lang/String" "coder" "B" (.int (1 : Int32)) ∧ Av Z h bv .byte [(.int (BLO c0)), (.int (BHI c0)), (.int (BLO c1)), (.int (BHI c1))]) := by
  refine Con.of (plainFor_of_name pn_java_lang_String) #[.val (.ref a1), .val (.ref a2)] (fun m => efsj2_1 m a1 a2) ?_
  intro p e s m below meth c s₁ K hx hby hml hown hnm hret hlk hZ X0 e0
  have N0 := Fr.nil n0
  refine m_aloadN K X0.here hx hby d_jdk_42_3_0 rfl rfl rfl ?_
  refine m_aloadN K X0.here hx hby d_jdk_42_3_1 rfl rfl rfl ?_
  refine m_iconst K X0.here hx hby (0 : Int32) d_jdk_42_3_2 rfl rfl ?_
  refine m_aloadN K X0.here hx hby d_jdk_42_3_3 rfl rfl rfl ?_
  refine k_len K X0 hx hby hZ (2 : Int32) e0 A_a2 rfl d_jdk_42_3_4 rfl ?_
  refine m_null K X0.here hx hby d_jdk_42_3_5 rfl ?_
  refine k_callP K X0 hx hby hZ a1 [(.ref a2), (.int (0 : Int32)), (.int (2 : Int32)), .null] [] hown (W hw 11 rfl) (W hw 12 rfl) (W hw 7 rfl) (W hw 14 rfl) rfl (csi2_1 l Z a0 hw a1 a2 cz vf c0 c1 h0 n0 Z0 E_a1 F_value_a1 F_coder_a1 A_a2 O0 g_a1 SS hl_0 hg hch_0 hch_1) e0 rfl rfl pd_13 rfl d_jdk_42_3_6 (by rw [hml]; rfl) rfl (by decide) (by decide) (Nat.le_of_ble_eq_true rfl) (by decide) (by decide) fun v1 T1 L1 X1 q1 => ?_
  obtain ⟨b1_bv, rfl, Nq1, K1, sq_b1_bv, Fp1_0, Fp1_1, Ap1_0⟩ := q1
  have N1 := Fr.app N0 Nq1
  have sz_b1_bv : h0.size ≤ b1_bv := Nat.le_trans (Nat.le_refl _) sq_b1_bv
  have g_b1_bv : n0 ≤ b1_bv := Nat.le_trans Z0 sz_b1_bv
  refine k_none K ?_
  exact Go.retV X1 hx hby hlk hret d_jdk_42_3_9 (by decide) (by decide) (⟨b1_bv, rfl, N1, ((Keep.refl h0 [a1]).trans K1 (allS (Or.inl (by simp)) all0)), sz_b1_bv, Fp1_0, Fp1_1, Ap1_0⟩)
theorem efcf2_2 (m : MethodId) (x0 : Addr) (x1 : Int32) (x2 : Addr) (x3 : Int32) (x4 : Int32) : entryFrame m #[(.ref x0), (.int x1), (.ref x2), (.int x3), (.int x4)] 7 = mkF m 0 #[.val (.ref x0), .val (.int x1), .val (.ref x2), .val (.int x3), .val (.int x4), .unset, .unset] [] := by first | (simp [entryFrame, mkF, argsToLocals, Value.category]; done) | rfl
set_option maxRecDepth 65536 in
set_option maxHeartbeats 40000000 in
theorem ccf2_2 (l : Launch) (Z : State) (a0 : Array Value) (hw : ∀ d ∈ tables_1, d.before a0 Z = true) (a1 : Addr) (a3 : Addr) (cz : Int32) (vf : Value) (c0 : Int32) (c1 : Int32) (h0 : Heap) (n0 : Nat) (Z0 : n0 ≤ h0.size) (A_a1 : Av Z h0 a1 .char [(.int c0), (.int c1)]) (A_a3 : Av Z h0 a3 .byte [(.int (0 : Int32)), (.int (0 : Int32))]) (O0 : Old Z n0 h0) (g_a3 : n0 ≤ a3) (ne_a1_a3 : a1 ≠ a3) (SS : SSt Z cz vf) (hl_0 : ¬ ((255 : Int32) < c0)) (hl_1 : ¬ ((255 : Int32) < c1)) :
    Con l Z (⟨"java/lang/StringUTF16", "compress", "([CI[BII)I"⟩ : MethodName) jdk_52_method_21_code 7 (some .int) ({ frames := 0, cells := 0, slots := 0, locals := 0 } : Room) [] #[(.ref a1), (.int (0 : Int32)), (.ref a3), (.int (0 : Int32)), (.int (2 : Int32))] h0 (fun v h L => v = some (.int (2 : Int32)) ∧ Fr n0 L ∧ Keep h0 h [a3] ∧ Av Z h a3 .byte [(.int (nar .byte (c0.toInt8.toInt32))), (.int (nar .byte (c1.toInt8.toInt32)))]) := by
  refine Con.of (plainFor_of_name pn_java_lang_StringUTF16) #[.val (.ref a1), .val (.int (0 : Int32)), .val (.ref a3), .val (.int (0 : Int32)), .val (.int (2 : Int32)), .unset, .unset] (fun m => efcf2_2 m a1 (0 : Int32) a3 (0 : Int32) (2 : Int32)) ?_
  intro p e s m below meth c s₁ K hx hby hml hown hnm hret hlk hZ X0 e0
  have N0 := Fr.nil n0
  refine m_iconst K X0.here hx hby (0 : Int32) d_jdk_52_21_0 rfl rfl ?_
  refine m_istore K X0.here hx hby #[.val (.ref a1), .val (.int (0 : Int32)), .val (.ref a3), .val (.int (0 : Int32)), .val (.int (2 : Int32)), .val (.int (0 : Int32)), .unset] d_jdk_52_21_1 rfl rfl ?_
  refine m_iload K X0.here hx hby d_jdk_52_21_3 rfl rfl ?_
  refine m_iload K X0.here hx hby d_jdk_52_21_5 rfl rfl ?_
  refine m_icmpN K X0.here hx hby (q := 10) d_jdk_52_21_7 (tlt (by decide : (0 : Int32) < (2 : Int32))).2.1 rfl ?_
  refine m_aloadN K X0.here hx hby d_jdk_52_21_10 rfl rfl rfl ?_
  refine m_iloadN K X0.here hx hby d_jdk_52_21_11 rfl rfl ?_
  refine k_ldC K X0 hx hby hZ e0 A_a1 (v := (.int c0)) (by decide) rfl d_jdk_52_21_12 rfl ?_
  refine m_istore K X0.here hx hby #[.val (.ref a1), .val (.int (0 : Int32)), .val (.ref a3), .val (.int (0 : Int32)), .val (.int (2 : Int32)), .val (.int (0 : Int32)), .val (.int c0)] d_jdk_52_21_13 rfl rfl ?_
  refine m_iload K X0.here hx hby d_jdk_52_21_15 rfl rfl ?_
  refine m_sipush K X0.here hx hby (255 : Int32) d_jdk_52_21_17 rfl rfl ?_
  refine m_icmpY K X0.here hx hby (q := 26) d_jdk_52_21_20 (flt hl_0).2.2.2 (by decide) rfl ?_
  refine m_aloadN K X0.here hx hby d_jdk_52_21_26 rfl rfl rfl ?_
  refine m_iloadN K X0.here hx hby d_jdk_52_21_27 rfl rfl ?_
  refine m_iload K X0.here hx hby d_jdk_52_21_28 rfl rfl ?_
  refine m_i2b K X0.here hx hby (c0.toInt8.toInt32) d_jdk_52_21_30 rfl rfl ?_
  refine k_stB K X0 hx hby hZ e0 A_a3 (by decide) (Nat.le_of_ble_eq_true rfl) d_jdk_52_21_31 rfl fun T1 h1 X1 e1 W1 V1 => ?_
  replace V1 : Av Z h1 a3 .byte [(.int (nar .byte (c0.toInt8.toInt32))), (.int (0 : Int32))] := V1
  have N1 := Fr.snoc X1 N0 g_a3
  refine m_iinc K X1.here hx hby #[.val (.ref a1), .val (.int (1 : Int32)), .val (.ref a3), .val (.int (0 : Int32)), .val (.int (2 : Int32)), .val (.int (0 : Int32)), .val (.int c0)] d_jdk_52_21_32 rfl rfl rfl ?_
  refine m_iinc K X1.here hx hby #[.val (.ref a1), .val (.int (1 : Int32)), .val (.ref a3), .val (.int (1 : Int32)), .val (.int (2 : Int32)), .val (.int (0 : Int32)), .val (.int c0)] d_jdk_52_21_35 rfl rfl rfl ?_
  refine m_iinc K X1.here hx hby #[.val (.ref a1), .val (.int (1 : Int32)), .val (.ref a3), .val (.int (1 : Int32)), .val (.int (2 : Int32)), .val (.int (1 : Int32)), .val (.int c0)] d_jdk_52_21_38 rfl rfl rfl ?_
  refine m_goto K X1.here hx hby (q := 3) d_jdk_52_21_41 (by decide) rfl ?_
  refine m_iload K X1.here hx hby d_jdk_52_21_3 rfl rfl ?_
  refine m_iload K X1.here hx hby d_jdk_52_21_5 rfl rfl ?_
  refine m_icmpN K X1.here hx hby (q := 10) d_jdk_52_21_7 (tlt (by decide : (1 : Int32) < (2 : Int32))).2.1 rfl ?_
  refine m_aloadN K X1.here hx hby d_jdk_52_21_10 rfl rfl rfl ?_
  refine m_iloadN K X1.here hx hby d_jdk_52_21_11 rfl rfl ?_
  refine k_ldC K X1 hx hby hZ e1 (A_a1.other W1 ne_a1_a3) (v := (.int c1)) (by decide) rfl d_jdk_52_21_12 rfl ?_
  refine m_istore K X1.here hx hby #[.val (.ref a1), .val (.int (1 : Int32)), .val (.ref a3), .val (.int (1 : Int32)), .val (.int (2 : Int32)), .val (.int (1 : Int32)), .val (.int c1)] d_jdk_52_21_13 rfl rfl ?_
  refine m_iload K X1.here hx hby d_jdk_52_21_15 rfl rfl ?_
  refine m_sipush K X1.here hx hby (255 : Int32) d_jdk_52_21_17 rfl rfl ?_
  refine m_icmpY K X1.here hx hby (q := 26) d_jdk_52_21_20 (flt hl_1).2.2.2 (by decide) rfl ?_
  refine m_aloadN K X1.here hx hby d_jdk_52_21_26 rfl rfl rfl ?_
  refine m_iloadN K X1.here hx hby d_jdk_52_21_27 rfl rfl ?_
  refine m_iload K X1.here hx hby d_jdk_52_21_28 rfl rfl ?_
  refine m_i2b K X1.here hx hby (c1.toInt8.toInt32) d_jdk_52_21_30 rfl rfl ?_
  refine k_stB K X1 hx hby hZ e1 V1 (by decide) (Nat.le_of_ble_eq_true rfl) d_jdk_52_21_31 rfl fun T2 h2 X2 e2 W2 V2 => ?_
  replace V2 : Av Z h2 a3 .byte [(.int (nar .byte (c0.toInt8.toInt32))), (.int (nar .byte (c1.toInt8.toInt32)))] := V2
  have N2 := Fr.snoc X2 N1 g_a3
  refine m_iinc K X2.here hx hby #[.val (.ref a1), .val (.int (2 : Int32)), .val (.ref a3), .val (.int (1 : Int32)), .val (.int (2 : Int32)), .val (.int (1 : Int32)), .val (.int c1)] d_jdk_52_21_32 rfl rfl rfl ?_
  refine m_iinc K X2.here hx hby #[.val (.ref a1), .val (.int (2 : Int32)), .val (.ref a3), .val (.int (2 : Int32)), .val (.int (2 : Int32)), .val (.int (1 : Int32)), .val (.int c1)] d_jdk_52_21_35 rfl rfl rfl ?_
  refine m_iinc K X2.here hx hby #[.val (.ref a1), .val (.int (2 : Int32)), .val (.ref a3), .val (.int (2 : Int32)), .val (.int (2 : Int32)), .val (.int (2 : Int32)), .val (.int c1)] d_jdk_52_21_38 rfl rfl rfl ?_
  refine m_goto K X2.here hx hby (q := 3) d_jdk_52_21_41 (by decide) rfl ?_
  refine m_iload K X2.here hx hby d_jdk_52_21_3 rfl rfl ?_
  refine m_iload K X2.here hx hby d_jdk_52_21_5 rfl rfl ?_
  refine m_icmpY K X2.here hx hby (q := 44) d_jdk_52_21_7 (flt (by decide : ¬ ((2 : Int32) < (2 : Int32)))).2.1 (by decide) rfl ?_
  refine m_iload K X2.here hx hby d_jdk_52_21_44 rfl rfl ?_
  exact Go.retI X2 hx hby hlk hret d_jdk_52_21_46 (by decide) (by decide) (by rw [e2]; exact ⟨rfl, N2, (((Keep.refl h0 [a3]).wr W1 (Or.inl (by simp))).wr W2 (Or.inl (by simp))), V2⟩)
theorem efct2_2 (m : MethodId) (x0 : Addr) (x1 : Int32) (x2 : Int32) : entryFrame m #[(.ref x0), (.int x1), (.int x2)] 6 = mkF m 0 #[.val (.ref x0), .val (.int x1), .val (.int x2), .unset, .unset, .unset] [] := by first | (simp [entryFrame, mkF, argsToLocals, Value.category]; done) | rfl
set_option maxRecDepth 65536 in
set_option maxHeartbeats 40000000 in
theorem cct2_2 (l : Launch) (Z : State) (a0 : Array Value) (hw : ∀ d ∈ tables_1, d.before a0 Z = true) (a1 : Addr) (cz : Int32) (vf : Value) (c0 : Int32) (c1 : Int32) (h0 : Heap) (n0 : Nat) (Z0 : n0 ≤ h0.size) (A_a1 : Av Z h0 a1 .char [(.int c0), (.int c1)]) (O0 : Old Z n0 h0) (SS : SSt Z cz vf) (hl_0 : ¬ ((255 : Int32) < c0)) (hl_1 : ¬ ((255 : Int32) < c1)) :
    Con l Z (⟨"java/lang/StringUTF16", "compress", "([CII)[B"⟩ : MethodName) jdk_52_method_16_code 6 (some (.array .byte)) ({ frames := 1, cells := 1, slots := 2, locals := 18 } : Room) [] #[(.ref a1), (.int (0 : Int32)), (.int (2 : Int32))] h0 (fun v h L => ∃ bv : Addr, v = some (.ref bv) ∧ Fr n0 L ∧ Keep h0 h [] ∧ h0.size ≤ bv ∧ Av Z h bv .byte [(.int (nar .byte (c0.toInt8.toInt32))), (.int (nar .byte (c1.toInt8.toInt32)))]) := by
  refine Con.of (plainFor_of_name pn_java_lang_StringUTF16) #[.val (.ref a1), .val (.int (0 : Int32)), .val (.int (2 : Int32)), .unset, .unset, .unset] (fun m => efct2_2 m a1 (0 : Int32) (2 : Int32)) ?_
  intro p e s m below meth c s₁ K hx hby hml hown hnm hret hlk hZ X0 e0
  have N0 := Fr.nil n0
  refine m_iloadN K X0.here hx hby d_jdk_52_16_0 rfl rfl ?_
  refine k_newP K X0 hx hby hZ 2 2 (W hw 19 rfl) e0 d_jdk_52_16_1 rfl (by decide) rfl (by decide) (by decide) (by decide) (by decide) fun T1 h1 b1 X1 e1 E1 g1 V_b1 => ?_
  have sz_b1 : h0.size ≤ b1 := Nat.le_trans (Nat.le_refl _) (Nat.le_of_eq g1.symm)
  have g_b1 : n0 ≤ b1 := Nat.le_trans Z0 sz_b1
  replace V_b1 : Av Z h1 b1 .byte [(.int (0 : Int32)), (.int (0 : Int32))] := V_b1
  refine m_astoreN K X1.here hx hby #[.val (.ref a1), .val (.int (0 : Int32)), .val (.int (2 : Int32)), .val (.ref b1), .unset, .unset] d_jdk_52_16_3 rfl rfl rfl ?_
  refine m_aloadN K X1.here hx hby d_jdk_52_16_4 rfl rfl rfl ?_
  refine m_iloadN K X1.here hx hby d_jdk_52_16_5 rfl rfl ?_
  refine m_aloadN K X1.here hx hby d_jdk_52_16_6 rfl rfl rfl ?_
  refine m_iconst K X1.here hx hby (0 : Int32) d_jdk_52_16_7 rfl rfl ?_
  refine m_iloadN K X1.here hx hby d_jdk_52_16_8 rfl rfl ?_
  refine k_callS K X1 hx hby hZ [(.ref a1), (.int (0 : Int32)), (.ref b1), (.int (0 : Int32)), (.int (2 : Int32))] [] hown (W hw 45 rfl) (W hw 46 rfl) (W hw 43 rfl) (W hw 47 rfl) (ccf2_2 l Z a0 hw a1 b1 cz vf c0 c1 h1 n0 (Nat.le_trans Z0 (Nat.le_trans (Nat.le_refl _) E1.1)) (A_a1.ext E1) V_b1 (O0.ext E1) g_b1 (Nat.ne_of_lt (Nat.lt_of_lt_of_le (Nat.lt_of_lt_of_le A_a1.lt (Nat.le_refl _)) (Nat.le_of_eq g1.symm))) SS hl_0 hl_1) e1 rfl rfl pd_10 rfl d_jdk_52_16_9 (by rw [hml]; rfl) rfl (by decide) (by decide) (Nat.le_of_ble_eq_true rfl) (by decide) (by decide) fun v2 T2 L2 X2 q2 => ?_
  obtain ⟨rfl, Nq2, K2, Ap2_0⟩ := q2
  have N2 := Fr.app N0 Nq2
  refine k_some K (w := (.int (2 : Int32))) ?_
  refine m_istore K X2.here hx hby #[.val (.ref a1), .val (.int (0 : Int32)), .val (.int (2 : Int32)), .val (.ref b1), .val (.int (2 : Int32)), .unset] d_jdk_52_16_12 rfl rfl ?_
  refine m_iload K X2.here hx hby d_jdk_52_16_14 rfl rfl ?_
  refine m_iloadN K X2.here hx hby d_jdk_52_16_16 rfl rfl ?_
  refine m_icmpY K X2.here hx hby (q := 57) d_jdk_52_16_17 (teq (by decide : (2 : Int32) = (2 : Int32))).1 (by decide) rfl ?_
  refine m_aloadN K X2.here hx hby d_jdk_52_16_57 rfl rfl rfl ?_
  exact Go.retO X2 hx hby hlk hret rfl (Or.inr (Or.inr (Or.inr (Or.inr ⟨rfl, rfl, rfl⟩)))) d_jdk_52_16_58 (by decide) (by decide) (⟨b1, rfl, N2, (((Keep.refl h0 []).ext E1).trans K2 (allS (Or.inr sz_b1) all0)), sz_b1, Ap2_0⟩)
theorem efcc2_2 (m : MethodId) (x0 : Addr) (x1 : Int32) : entryFrame m #[(.ref x0), (.int x1)] 2 = mkF m 0 #[.val (.ref x0), .val (.int x1)] [] := by first | (simp [entryFrame, mkF, argsToLocals, Value.category]; done) | rfl
set_option maxRecDepth 65536 in
set_option maxHeartbeats 40000000 in
theorem ccc2_2 (l : Launch) (Z : State) (a0 : Array Value) (hw : ∀ d ∈ tables_1, d.before a0 Z = true) (a1 : Addr) (cz : Int32) (vf : Value) (y0 : Int32) (y1 : Int32) (h0 : Heap) (n0 : Nat) (Z0 : n0 ≤ h0.size) (A_a1 : Av Z h0 a1 .byte [(.int y0), (.int y1)]) (O0 : Old Z n0 h0) (SS : SSt Z cz vf) :
    Con l Z (⟨"java/lang/StringUTF16", "coderFromArrayLen", "([BI)B"⟩ : MethodName) jdk_52_method_15_code 2 (some .byte) ({ frames := 0, cells := 0, slots := 0, locals := 0 } : Room) [] #[(.ref a1), (.int (2 : Int32))] h0 (fun v h L => v = some (.int (0 : Int32)) ∧ h = h0 ∧ L = []) := by
  refine Con.of (plainFor_of_name pn_java_lang_StringUTF16) #[.val (.ref a1), .val (.int (2 : Int32))] (fun m => efcc2_2 m a1 (2 : Int32)) ?_
  intro p e s m below meth c s₁ K hx hby hml hown hnm hret hlk hZ X0 e0
  have N0 := Fr.nil n0
  refine m_iloadN K X0.here hx hby d_jdk_52_15_0 rfl rfl ?_
  refine m_aloadN K X0.here hx hby d_jdk_52_15_1 rfl rfl rfl ?_
  refine k_len K X0 hx hby hZ (2 : Int32) e0 A_a1 rfl d_jdk_52_15_2 rfl ?_
  refine m_isub K X0.here hx hby (0 : Int32) d_jdk_52_15_3 rfl rfl ?_
  refine m_bipush K X0.here hx hby (31 : Int32) d_jdk_52_15_4 rfl rfl ?_
  refine m_iushr K X0.here hx hby (0 : Int32) d_jdk_52_15_6 rfl rfl ?_
  refine m_i2b K X0.here hx hby (0 : Int32) d_jdk_52_15_7 rfl rfl ?_
  exact Go.retN X0 hx hby hlk hret (by simp) d_jdk_52_15_8 (by decide) (by decide) (by decide) (⟨rfl, e0, rfl⟩)
theorem efsi2_2 (m : MethodId) (x0 : Addr) (x1 : Addr) (x2 : Int32) (x3 : Int32) : entryFrame m #[(.ref x0), (.ref x1), (.int x2), (.int x3), .null] 6 = mkF m 0 #[.val (.ref x0), .val (.ref x1), .val (.int x2), .val (.int x3), .val .null, .unset] [] := by first | (simp [entryFrame, mkF, argsToLocals, Value.category]; done) | rfl
set_option maxRecDepth 65536 in
set_option maxHeartbeats 40000000 in
theorem csi2_2 (l : Launch) (Z : State) (a0 : Array Value) (hw : ∀ d ∈ tables_1, d.before a0 Z = true) (a1 : Addr) (a2 : Addr) (cz : Int32) (vf : Value) (c0 : Int32) (c1 : Int32) (h0 : Heap) (n0 : Nat) (Z0 : n0 ≤ h0.size) (E_a1 : Exa Z h0 a1 "java/lang/String") (F_value_a1 : Fld Z h0 a1 "java/lang/String" "value" "[B" .null) (F_coder_a1 : Fld Z h0 a1 "java/lang/String" "coder" "B" (.int (0 : Int32))) (A_a2 : Av Z h0 a2 .char [(.int c0), (.int c1)]) (O0 : Old Z n0 h0) (g_a1 : n0 ≤ a1) (SS : SSt Z cz vf) (hl_0 : ¬ ((255 : Int32) < c0)) (hl_1 : ¬ ((255 : Int32) < c1)) :
    Con l Z (⟨"java/lang/String", "<init>", "([CIILjava/lang/Void;)V"⟩ : MethodName) jdk_42_method_149_code 6 none ({ frames := 2, cells := 1, slots := 2, locals := 35 } : Room) [] #[(.ref a1), (.ref a2), (.int (0 : Int32)), (.int (2 : Int32)), .null] h0 (fun v h L => ∃ bv : Addr, v = none ∧ Fr n0 L ∧ Keep h0 h [a1] ∧ h0.size ≤ bv ∧ Fld Z h a1 "java/lang/String" "value" "[B" (.ref bv) ∧ Fld Z h a1 "java/lang/String" "coder" "B" (.int (0 : Int32)) ∧ Av Z h bv .byte [(.int (nar .byte (c0.toInt8.toInt32))), (.int (nar .byte (c1.toInt8.toInt32)))]) := by
  refine Con.of (plainFor_of_name pn_java_lang_String) #[.val (.ref a1), .val (.ref a2), .val (.int (0 : Int32)), .val (.int (2 : Int32)), .val .null, .unset] (fun m => efsi2_2 m a1 a2 (0 : Int32) (2 : Int32)) ?_
  intro p e s m below meth c s₁ K hx hby hml hown hnm hret hlk hZ X0 e0
  have N0 := Fr.nil n0
  refine m_aloadN K X0.here hx hby d_jdk_42_149_0 rfl rfl rfl ?_
  refine k_initO K X0 hx hby hZ hown (W hw 15 rfl) (W hw 16 rfl) (W hw 17 rfl) e0 d_jdk_42_149_1 (by rw [hml]; rfl) rfl (by decide) (Nat.le_of_ble_eq_true rfl) fun T1 X1 e1 => ?_
  refine m_iloadN K X1.here hx hby d_jdk_42_149_4 rfl rfl ?_
  refine m_ifY K X1.here hx hby (q := 27) d_jdk_42_149_5 ((if0 _ _).trans (feq (by decide : ¬ ((2 : Int32) = (0 : Int32)))).2) (by decide) rfl ?_
  refine k_getS K X1 hx hby hZ hown (host := "") (Or.inl (W hw 40 rfl)) Via.refl e1 (SS.cs.ext O0.2) d_jdk_42_149_27 rfl fun T2 X2 e2 => ?_
  refine m_ifN K X2.here hx hby (q := 33) d_jdk_42_149_30 ((if0 _ _).trans (feq SS.cz).1) rfl ?_
  refine m_aloadN K X2.here hx hby d_jdk_42_149_33 rfl rfl rfl ?_
  refine m_iloadN K X2.here hx hby d_jdk_42_149_34 rfl rfl ?_
  refine m_iloadN K X2.here hx hby d_jdk_42_149_35 rfl rfl ?_
  refine k_callS K X2 hx hby hZ [(.ref a2), (.int (0 : Int32)), (.int (2 : Int32))] [] hown (W hw 41 rfl) (W hw 42 rfl) (W hw 43 rfl) (W hw 44 rfl) (cct2_2 l Z a0 hw a2 cz vf c0 c1 h0 n0 Z0 A_a2 O0 SS hl_0 hl_1) e2 rfl rfl pd_11 rfl d_jdk_42_149_36 (by rw [hml]; rfl) rfl (by decide) (by decide) (Nat.le_of_ble_eq_true rfl) (by decide) (by decide) fun v3 T3 L3 X3 q3 => ?_
  obtain ⟨b3_bv, rfl, Nq3, K3, sq_b3_bv, Ap3_0⟩ := q3
  have N3 := Fr.app N0 Nq3
  have sz_b3_bv : h0.size ≤ b3_bv := Nat.le_trans (Nat.le_refl _) sq_b3_bv
  have g_b3_bv : n0 ≤ b3_bv := Nat.le_trans Z0 sz_b3_bv
  refine k_some K (w := (.ref b3_bv)) ?_
  refine m_astore K X3.here hx hby #[.val (.ref a1), .val (.ref a2), .val (.int (0 : Int32)), .val (.int (2 : Int32)), .val .null, .val (.ref b3_bv)] d_jdk_42_149_39 rfl rfl rfl ?_
  refine m_aloadN K X3.here hx hby d_jdk_42_149_41 rfl rfl rfl ?_
  refine m_aload K X3.here hx hby d_jdk_42_149_42 rfl rfl rfl ?_
  refine m_iloadN K X3.here hx hby d_jdk_42_149_44 rfl rfl ?_
  refine k_callS K X3 hx hby hZ [(.ref b3_bv), (.int (2 : Int32))] [(.ref a1)] hown (W hw 48 rfl) (W hw 49 rfl) (W hw 43 rfl) (W hw 50 rfl) (ccc2_2 l Z a0 hw b3_bv cz vf (nar .byte (c0.toInt8.toInt32)) (nar .byte (c1.toInt8.toInt32)) T3.heap n0 (Nat.le_trans Z0 (Nat.le_trans (Nat.le_refl _) K3.1)) Ap3_0 (O0.keep K3 all0) SS) rfl rfl rfl pd_12 rfl d_jdk_42_149_45 (by rw [hml]; rfl) rfl (by decide) (by decide) (Nat.le_of_ble_eq_true rfl) (by decide) (by decide) fun v4 T4 L4 X4 q4 => ?_
  obtain ⟨rfl, e4, rfl⟩ := q4
  replace X4 := own_px X4
  refine k_some K (w := (.int (0 : Int32))) ?_
  refine k_putF K X4 hx hby hZ hown (host := "") (Or.inl (W hw 25 rfl)) Via.refl e4 (F_coder_a1.keep K3 nin0) (E_a1.keep K3) (Or.inr ⟨(W hw 21 rfl), rfl, hnm⟩) (W hw 6 rfl) (ty := .byte) (by decide) (by decide) (by decide) d_jdk_42_149_48 rfl fun T5 h5 X5 e5 W5 => ?_
  have Fw5 := (F_coder_a1.keep K3 nin0).same W5
  have N5 := Fr.snoc X5 N3 g_a1
  refine m_aloadN K X5.here hx hby d_jdk_42_149_51 rfl rfl rfl ?_
  refine m_aload K X5.here hx hby d_jdk_42_149_52 rfl rfl rfl ?_
  refine k_putF K X5 hx hby hZ hown (host := "") (Or.inl (W hw 24 rfl)) Via.refl e5 ((F_value_a1.keep K3 nin0).other W5 (Or.inr (slot_ne (Or.inr (W hw 20 rfl)) (Or.inr (W hw 21 rfl)) (by decide) (t := (.array .byte)) (t' := .byte) (by decide) (by decide)))) ((E_a1.keep K3).wr W5) (Or.inr ⟨(W hw 20 rfl), rfl, hnm⟩) (W hw 6 rfl) (ty := (.array .byte)) (by decide) rfl rfl d_jdk_42_149_54 rfl fun T6 h6 X6 e6 W6 => ?_
  have Fw6 := ((F_value_a1.keep K3 nin0).other W5 (Or.inr (slot_ne (Or.inr (W hw 20 rfl)) (Or.inr (W hw 21 rfl)) (by decide) (t := (.array .byte)) (t' := .byte) (by decide) (by decide)))).same W6
  have N6 := Fr.snoc X6 N5 g_a1
  exact Go.retV X6 hx hby hlk hret d_jdk_42_149_57 (by decide) (by decide) (by rw [e6]; exact ⟨b3_bv, rfl, N6, ((((Keep.refl h0 [a1]).trans K3 all0).wr W5 (Or.inl (by simp))).wr W6 (Or.inl (by simp))), sz_b3_bv, Fw6, (Fw5.other W6 (Or.inr (slot_ne (Or.inr (W hw 21 rfl)) (Or.inr (W hw 20 rfl)) (by decide) (t := .byte) (t' := (.array .byte)) (by decide) (by decide)))), ((Ap3_0.other W5 (Ne.symm (Nat.ne_of_lt (Nat.lt_of_lt_of_le (Nat.lt_of_lt_of_le E_a1.lt (Nat.le_refl _)) sq_b3_bv)))).other W6 (Ne.symm (Nat.ne_of_lt (Nat.lt_of_lt_of_le (Nat.lt_of_lt_of_le E_a1.lt (Nat.le_refl _)) sq_b3_bv))))⟩)
theorem efsj2_2 (m : MethodId) (x0 : Addr) (x1 : Addr) : entryFrame m #[(.ref x0), (.ref x1)] 2 = mkF m 0 #[.val (.ref x0), .val (.ref x1)] [] := by first | (simp [entryFrame, mkF, argsToLocals, Value.category]; done) | rfl
set_option maxRecDepth 65536 in
set_option maxHeartbeats 40000000 in
theorem csj2_2 (l : Launch) (Z : State) (a0 : Array Value) (hw : ∀ d ∈ tables_1, d.before a0 Z = true) (a1 : Addr) (a2 : Addr) (cz : Int32) (vf : Value) (c0 : Int32) (c1 : Int32) (h0 : Heap) (n0 : Nat) (Z0 : n0 ≤ h0.size) (E_a1 : Exa Z h0 a1 "java/lang/String") (F_value_a1 : Fld Z h0 a1 "java/lang/String" "value" "[B" .null) (F_coder_a1 : Fld Z h0 a1 "java/lang/String" "coder" "B" (.int (0 : Int32))) (A_a2 : Av Z h0 a2 .char [(.int c0), (.int c1)]) (O0 : Old Z n0 h0) (g_a1 : n0 ≤ a1) (SS : SSt Z cz vf) (hl_0 : ¬ ((255 : Int32) < c0)) (hl_1 : ¬ ((255 : Int32) < c1)) :
    Con l Z (⟨"java/lang/String", "<init>", "([C)V"⟩ : MethodName) jdk_42_method_3_code 2 none ({ frames := 3, cells := 1, slots := 2, locals := 52 } : Room) [] #[(.ref a1), (.ref a2)] h0 (fun v h L => ∃ bv : Addr, v = none ∧ Fr n0 L ∧ Keep h0 h [a1] ∧ h0.size ≤ bv ∧ Fld Z h a1 "java/lang/String" "value" "[B" (.ref bv) ∧ Fld Z h a1 "java/lang/String" "coder" "B" (.int (0 : Int32)) ∧ Av Z h bv .byte [(.int (nar .byte (c0.toInt8.toInt32))), (.int (nar .byte (c1.toInt8.toInt32)))]) := by
  refine Con.of (plainFor_of_name pn_java_lang_String) #[.val (.ref a1), .val (.ref a2)] (fun m => efsj2_2 m a1 a2) ?_
  intro p e s m below meth c s₁ K hx hby hml hown hnm hret hlk hZ X0 e0
  have N0 := Fr.nil n0
  refine m_aloadN K X0.here hx hby d_jdk_42_3_0 rfl rfl rfl ?_
  refine m_aloadN K X0.here hx hby d_jdk_42_3_1 rfl rfl rfl ?_
  refine m_iconst K X0.here hx hby (0 : Int32) d_jdk_42_3_2 rfl rfl ?_
  refine m_aloadN K X0.here hx hby d_jdk_42_3_3 rfl rfl rfl ?_
  refine k_len K X0 hx hby hZ (2 : Int32) e0 A_a2 rfl d_jdk_42_3_4 rfl ?_
  refine m_null K X0.here hx hby d_jdk_42_3_5 rfl ?_
  refine k_callP K X0 hx hby hZ a1 [(.ref a2), (.int (0 : Int32)), (.int (2 : Int32)), .null] [] hown (W hw 11 rfl) (W hw 12 rfl) (W hw 7 rfl) (W hw 14 rfl) rfl (csi2_2 l Z a0 hw a1 a2 cz vf c0 c1 h0 n0 Z0 E_a1 F_value_a1 F_coder_a1 A_a2 O0 g_a1 SS hl_0 hl_1) e0 rfl rfl pd_13 rfl d_jdk_42_3_6 (by rw [hml]; rfl) rfl (by decide) (by decide) (Nat.le_of_ble_eq_true rfl) (by decide) (by decide) fun v1 T1 L1 X1 q1 => ?_
  obtain ⟨b1_bv, rfl, Nq1, K1, sq_b1_bv, Fp1_0, Fp1_1, Ap1_0⟩ := q1
  have N1 := Fr.app N0 Nq1
  have sz_b1_bv : h0.size ≤ b1_bv := Nat.le_trans (Nat.le_refl _) sq_b1_bv
  have g_b1_bv : n0 ≤ b1_bv := Nat.le_trans Z0 sz_b1_bv
  refine k_none K ?_
  exact Go.retV X1 hx hby hlk hret d_jdk_42_3_9 (by decide) (by decide) (⟨b1_bv, rfl, N1, ((Keep.refl h0 [a1]).trans K1 (allS (Or.inl (by simp)) all0)), sz_b1_bv, Fp1_0, Fp1_1, Ap1_0⟩)
theorem efcf3_0 (m : MethodId) (x0 : Addr) (x1 : Int32) (x2 : Addr) (x3 : Int32) (x4 : Int32) : entryFrame m #[(.ref x0), (.int x1), (.ref x2), (.int x3), (.int x4)] 7 = mkF m 0 #[.val (.ref x0), .val (.int x1), .val (.ref x2), .val (.int x3), .val (.int x4), .unset, .unset] [] := by first | (simp [entryFrame, mkF, argsToLocals, Value.category]; done) | rfl
set_option maxRecDepth 65536 in
set_option maxHeartbeats 40000000 in
theorem ccf3_0 (l : Launch) (Z : State) (a0 : Array Value) (hw : ∀ d ∈ tables_1, d.before a0 Z = true) (a1 : Addr) (a3 : Addr) (cz : Int32) (vf : Value) (c0 : Int32) (c1 : Int32) (c2 : Int32) (h0 : Heap) (n0 : Nat) (Z0 : n0 ≤ h0.size) (A_a1 : Av Z h0 a1 .char [(.int c0), (.int c1), (.int c2)]) (A_a3 : Av Z h0 a3 .byte [(.int (0 : Int32)), (.int (0 : Int32)), (.int (0 : Int32))]) (O0 : Old Z n0 h0) (g_a3 : n0 ≤ a3) (ne_a1_a3 : a1 ≠ a3) (SS : SSt Z cz vf) (hg : (255 : Int32) < c0) (hch_0 : nar .char c0 = c0) (hch_1 : nar .char c1 = c1) (hch_2 : nar .char c2 = c2) :
    Con l Z (⟨"java/lang/StringUTF16", "compress", "([CI[BII)I"⟩ : MethodName) jdk_52_method_21_code 7 (some .int) ({ frames := 0, cells := 0, slots := 0, locals := 0 } : Room) [] #[(.ref a1), (.int (0 : Int32)), (.ref a3), (.int (0 : Int32)), (.int (3 : Int32))] h0 (fun v h L => v = some (.int (0 : Int32)) ∧ Fr n0 L ∧ Keep h0 h [a3] ∧ Av Z h a3 .byte [(.int (0 : Int32)), (.int (0 : Int32)), (.int (0 : Int32))]) := by
  refine Con.of (plainFor_of_name pn_java_lang_StringUTF16) #[.val (.ref a1), .val (.int (0 : Int32)), .val (.ref a3), .val (.int (0 : Int32)), .val (.int (3 : Int32)), .unset, .unset] (fun m => efcf3_0 m a1 (0 : Int32) a3 (0 : Int32) (3 : Int32)) ?_
  intro p e s m below meth c s₁ K hx hby hml hown hnm hret hlk hZ X0 e0
  have N0 := Fr.nil n0
  refine m_iconst K X0.here hx hby (0 : Int32) d_jdk_52_21_0 rfl rfl ?_
  refine m_istore K X0.here hx hby #[.val (.ref a1), .val (.int (0 : Int32)), .val (.ref a3), .val (.int (0 : Int32)), .val (.int (3 : Int32)), .val (.int (0 : Int32)), .unset] d_jdk_52_21_1 rfl rfl ?_
  refine m_iload K X0.here hx hby d_jdk_52_21_3 rfl rfl ?_
  refine m_iload K X0.here hx hby d_jdk_52_21_5 rfl rfl ?_
  refine m_icmpN K X0.here hx hby (q := 10) d_jdk_52_21_7 (tlt (by decide : (0 : Int32) < (3 : Int32))).2.1 rfl ?_
  refine m_aloadN K X0.here hx hby d_jdk_52_21_10 rfl rfl rfl ?_
  refine m_iloadN K X0.here hx hby d_jdk_52_21_11 rfl rfl ?_
  refine k_ldC K X0 hx hby hZ e0 A_a1 (v := (.int c0)) (by decide) rfl d_jdk_52_21_12 rfl ?_
  refine m_istore K X0.here hx hby #[.val (.ref a1), .val (.int (0 : Int32)), .val (.ref a3), .val (.int (0 : Int32)), .val (.int (3 : Int32)), .val (.int (0 : Int32)), .val (.int c0)] d_jdk_52_21_13 rfl rfl ?_
  refine m_iload K X0.here hx hby d_jdk_52_21_15 rfl rfl ?_
  refine m_sipush K X0.here hx hby (255 : Int32) d_jdk_52_21_17 rfl rfl ?_
  refine m_icmpN K X0.here hx hby (q := 23) d_jdk_52_21_20 (tlt hg).2.2.2 rfl ?_
  refine m_iload K X0.here hx hby d_jdk_52_21_23 rfl rfl ?_
  exact Go.retI X0 hx hby hlk hret d_jdk_52_21_25 (by decide) (by decide) (by rw [e0]; exact ⟨rfl, N0, (Keep.refl h0 [a3]), A_a3⟩)
theorem efct3_0 (m : MethodId) (x0 : Addr) (x1 : Int32) (x2 : Int32) : entryFrame m #[(.ref x0), (.int x1), (.int x2)] 6 = mkF m 0 #[.val (.ref x0), .val (.int x1), .val (.int x2), .unset, .unset, .unset] [] := by first | (simp [entryFrame, mkF, argsToLocals, Value.category]; done) | rfl
set_option maxRecDepth 65536 in
set_option maxHeartbeats 40000000 in
theorem cct3_0 (l : Launch) (Z : State) (a0 : Array Value) (hw : ∀ d ∈ tables_1, d.before a0 Z = true) (a1 : Addr) (cz : Int32) (vf : Value) (c0 : Int32) (c1 : Int32) (c2 : Int32) (h0 : Heap) (n0 : Nat) (Z0 : n0 ≤ h0.size) (A_a1 : Av Z h0 a1 .char [(.int c0), (.int c1), (.int c2)]) (O0 : Old Z n0 h0) (SS : SSt Z cz vf) (hg : (255 : Int32) < c0) (hch_0 : nar .char c0 = c0) (hch_1 : nar .char c1 = c1) (hch_2 : nar .char c2 = c2) :
    Con l Z (⟨"java/lang/StringUTF16", "compress", "([CII)[B"⟩ : MethodName) jdk_52_method_16_code 6 (some (.array .byte)) ({ frames := 3, cells := 2, slots := 9, locals := 40 } : Room) [] #[(.ref a1), (.int (0 : Int32)), (.int (3 : Int32))] h0 (fun v h L => ∃ bv : Addr, v = some (.ref bv) ∧ Fr n0 L ∧ Keep h0 h [] ∧ h0.size ≤ bv ∧ Av Z h bv .byte [(.int (BLO c0)), (.int (BHI c0)), (.int (BLO c1)), (.int (BHI c1)), (.int (BLO c2)), (.int (BHI c2))]) := by
  refine Con.of (plainFor_of_name pn_java_lang_StringUTF16) #[.val (.ref a1), .val (.int (0 : Int32)), .val (.int (3 : Int32)), .unset, .unset, .unset] (fun m => efct3_0 m a1 (0 : Int32) (3 : Int32)) ?_
  intro p e s m below meth c s₁ K hx hby hml hown hnm hret hlk hZ X0 e0
  have N0 := Fr.nil n0
  refine m_iloadN K X0.here hx hby d_jdk_52_16_0 rfl rfl ?_
  refine k_newP K X0 hx hby hZ 3 3 (W hw 19 rfl) e0 d_jdk_52_16_1 rfl (by decide) rfl (by decide) (by decide) (by decide) (by decide) fun T1 h1 b1 X1 e1 E1 g1 V_b1 => ?_
  have sz_b1 : h0.size ≤ b1 := Nat.le_trans (Nat.le_refl _) (Nat.le_of_eq g1.symm)
  have g_b1 : n0 ≤ b1 := Nat.le_trans Z0 sz_b1
  replace V_b1 : Av Z h1 b1 .byte [(.int (0 : Int32)), (.int (0 : Int32)), (.int (0 : Int32))] := V_b1
  refine m_astoreN K X1.here hx hby #[.val (.ref a1), .val (.int (0 : Int32)), .val (.int (3 : Int32)), .val (.ref b1), .unset, .unset] d_jdk_52_16_3 rfl rfl rfl ?_
  refine m_aloadN K X1.here hx hby d_jdk_52_16_4 rfl rfl rfl ?_
  refine m_iloadN K X1.here hx hby d_jdk_52_16_5 rfl rfl ?_
  refine m_aloadN K X1.here hx hby d_jdk_52_16_6 rfl rfl rfl ?_
  refine m_iconst K X1.here hx hby (0 : Int32) d_jdk_52_16_7 rfl rfl ?_
  refine m_iloadN K X1.here hx hby d_jdk_52_16_8 rfl rfl ?_
  refine k_callS K X1 hx hby hZ [(.ref a1), (.int (0 : Int32)), (.ref b1), (.int (0 : Int32)), (.int (3 : Int32))] [] hown (W hw 45 rfl) (W hw 46 rfl) (W hw 43 rfl) (W hw 47 rfl) (ccf3_0 l Z a0 hw a1 b1 cz vf c0 c1 c2 h1 n0 (Nat.le_trans Z0 (Nat.le_trans (Nat.le_refl _) E1.1)) (A_a1.ext E1) V_b1 (O0.ext E1) g_b1 (Nat.ne_of_lt (Nat.lt_of_lt_of_le (Nat.lt_of_lt_of_le A_a1.lt (Nat.le_refl _)) (Nat.le_of_eq g1.symm))) SS hg hch_0 hch_1 hch_2) e1 rfl rfl pd_10 rfl d_jdk_52_16_9 (by rw [hml]; rfl) rfl (by decide) (by decide) (Nat.le_of_ble_eq_true rfl) (by decide) (by decide) fun v2 T2 L2 X2 q2 => ?_
  obtain ⟨rfl, Nq2, K2, Ap2_0⟩ := q2
  have N2 := Fr.app N0 Nq2
  refine k_some K (w := (.int (0 : Int32))) ?_
  refine m_istore K X2.here hx hby #[.val (.ref a1), .val (.int (0 : Int32)), .val (.int (3 : Int32)), .val (.ref b1), .val (.int (0 : Int32)), .unset] d_jdk_52_16_12 rfl rfl ?_
  refine m_iload K X2.here hx hby d_jdk_52_16_14 rfl rfl ?_
  refine m_iloadN K X2.here hx hby d_jdk_52_16_16 rfl rfl ?_
  refine m_icmpN K X2.here hx hby (q := 20) d_jdk_52_16_17 (feq (by decide : ¬ ((0 : Int32) = (3 : Int32)))).1 rfl ?_
  refine m_aloadN K X2.here hx hby d_jdk_52_16_20 rfl rfl rfl ?_
  refine m_iloadN K X2.here hx hby d_jdk_52_16_21 rfl rfl ?_
  refine m_iloadN K X2.here hx hby d_jdk_52_16_22 rfl rfl ?_
  refine k_callS K X2 hx hby hZ [(.ref a1), (.int (0 : Int32)), (.int (3 : Int32))] [] hown (W hw 74 rfl) (W hw 75 rfl) (W hw 43 rfl) (W hw 76 rfl) (ctb3 l Z a0 hw a1 cz vf c0 c1 c2 T2.heap n0 (Nat.le_trans Z0 (Nat.le_trans (Nat.le_trans (Nat.le_refl _) E1.1) K2.1)) ((A_a1.ext E1).keep K2 (ninS (Nat.ne_of_lt (Nat.lt_of_lt_of_le (Nat.lt_of_lt_of_le A_a1.lt (Nat.le_refl _)) (Nat.le_of_eq g1.symm))) nin0)) ((O0.ext E1).keep K2 (allS g_b1 all0)) SS) rfl rfl rfl pd_11 rfl d_jdk_52_16_23 (by rw [hml]; rfl) rfl (by decide) (by decide) (Nat.le_of_ble_eq_true rfl) (by decide) (by decide) fun v3 T3 L3 X3 q3 => ?_
  obtain ⟨b3_bv, rfl, Nq3, K3, sq_b3_bv, Ap3_0⟩ := q3
  have N3 := Fr.app N2 Nq3
  have sz_b3_bv : h0.size ≤ b3_bv := Nat.le_trans (Nat.le_trans (Nat.le_trans (Nat.le_refl _) E1.1) K2.1) sq_b3_bv
  have g_b3_bv : n0 ≤ b3_bv := Nat.le_trans Z0 sz_b3_bv
  refine k_some K (w := (.ref b3_bv)) ?_
  refine m_astore K X3.here hx hby #[.val (.ref a1), .val (.int (0 : Int32)), .val (.int (3 : Int32)), .val (.ref b1), .val (.int (0 : Int32)), .val (.ref b3_bv)] d_jdk_52_16_26 rfl rfl rfl ?_
  refine m_aload K X3.here hx hby d_jdk_52_16_28 rfl rfl rfl ?_
  refine m_iload K X3.here hx hby d_jdk_52_16_30 rfl rfl ?_
  refine k_callS K X3 hx hby hZ [(.ref b3_bv), (.int (0 : Int32))] [] hown (W hw 90 rfl) (W hw 91 rfl) (W hw 43 rfl) (W hw 92 rfl) (cgc3_0 l Z a0 hw b3_bv cz vf (BLO c0) (BHI c0) (BLO c1) (BHI c1) (BLO c2) (BHI c2) T3.heap n0 (Nat.le_trans Z0 (Nat.le_trans (Nat.le_trans (Nat.le_trans (Nat.le_refl _) E1.1) K2.1) K3.1)) Ap3_0 (((O0.ext E1).keep K2 (allS g_b1 all0)).keep K3 all0) SS) rfl rfl rfl pd_5 rfl d_jdk_52_16_32 (by rw [hml]; rfl) rfl (by decide) (by decide) (Nat.le_of_ble_eq_true rfl) (by decide) (by decide) fun v4 T4 L4 X4 q4 => ?_
  obtain ⟨rfl, e4, rfl⟩ := q4
  replace X4 := own_px X4
  refine k_some K (w := (.int (GCH (BLO c0) (BHI c0)))) ?_
  refine m_sipush K X4.here hx hby (255 : Int32) d_jdk_52_16_35 rfl rfl ?_
  refine m_icmpY K X4.here hx hby (q := 54) d_jdk_52_16_38 (tlt (own_rgt c0 hch_0 hg)).2.2.1 (by decide) rfl ?_
  refine m_aload K X4.here hx hby d_jdk_52_16_54 rfl rfl rfl ?_
  exact Go.retO X4 hx hby hlk hret rfl (Or.inr (Or.inr (Or.inr (Or.inr ⟨rfl, rfl, rfl⟩)))) d_jdk_52_16_56 (by decide) (by decide) (by rw [e4]; exact ⟨b3_bv, rfl, N3, ((((Keep.refl h0 []).ext E1).trans K2 (allS (Or.inr sz_b1) all0)).trans K3 all0), sz_b3_bv, Ap3_0⟩)
theorem efcc3_6 (m : MethodId) (x0 : Addr) (x1 : Int32) : entryFrame m #[(.ref x0), (.int x1)] 2 = mkF m 0 #[.val (.ref x0), .val (.int x1)] [] := by first | (simp [entryFrame, mkF, argsToLocals, Value.category]; done) | rfl
set_option maxRecDepth 65536 in
set_option maxHeartbeats 40000000 in
theorem ccc3_6 (l : Launch) (Z : State) (a0 : Array Value) (hw : ∀ d ∈ tables_1, d.before a0 Z = true) (a1 : Addr) (cz : Int32) (vf : Value) (y0 : Int32) (y1 : Int32) (y2 : Int32) (y3 : Int32) (y4 : Int32) (y5 : Int32) (h0 : Heap) (n0 : Nat) (Z0 : n0 ≤ h0.size) (A_a1 : Av Z h0 a1 .byte [(.int y0), (.int y1), (.int y2), (.int y3), (.int y4), (.int y5)]) (O0 : Old Z n0 h0) (SS : SSt Z cz vf) :
    Con l Z (⟨"java/lang/StringUTF16", "coderFromArrayLen", "([BI)B"⟩ : MethodName) jdk_52_method_15_code 2 (some .byte) ({ frames := 0, cells := 0, slots := 0, locals := 0 } : Room) [] #[(.ref a1), (.int (3 : Int32))] h0 (fun v h L => v = some (.int (1 : Int32)) ∧ h = h0 ∧ L = []) := by
  refine Con.of (plainFor_of_name pn_java_lang_StringUTF16) #[.val (.ref a1), .val (.int (3 : Int32))] (fun m => efcc3_6 m a1 (3 : Int32)) ?_
  intro p e s m below meth c s₁ K hx hby hml hown hnm hret hlk hZ X0 e0
  have N0 := Fr.nil n0
  refine m_iloadN K X0.here hx hby d_jdk_52_15_0 rfl rfl ?_
  refine m_aloadN K X0.here hx hby d_jdk_52_15_1 rfl rfl rfl ?_
  refine k_len K X0 hx hby hZ (6 : Int32) e0 A_a1 rfl d_jdk_52_15_2 rfl ?_
  refine m_isub K X0.here hx hby (-3 : Int32) d_jdk_52_15_3 rfl rfl ?_
  refine m_bipush K X0.here hx hby (31 : Int32) d_jdk_52_15_4 rfl rfl ?_
  refine m_iushr K X0.here hx hby (1 : Int32) d_jdk_52_15_6 rfl rfl ?_
  refine m_i2b K X0.here hx hby (1 : Int32) d_jdk_52_15_7 rfl rfl ?_
  exact Go.retN X0 hx hby hlk hret (by simp) d_jdk_52_15_8 (by decide) (by decide) (by decide) (⟨rfl, e0, rfl⟩)
theorem efsi3_0 (m : MethodId) (x0 : Addr) (x1 : Addr) (x2 : Int32) (x3 : Int32) : entryFrame m #[(.ref x0), (.ref x1), (.int x2), (.int x3), .null] 6 = mkF m 0 #[.val (.ref x0), .val (.ref x1), .val (.int x2), .val (.int x3), .val .null, .unset] [] := by first | (simp [entryFrame, mkF, argsToLocals, Value.category]; done) | rfl
set_option maxRecDepth 65536 in
set_option maxHeartbeats 40000000 in
theorem csi3_0 (l : Launch) (Z : State) (a0 : Array Value) (hw : ∀ d ∈ tables_1, d.before a0 Z = true) (a1 : Addr) (a2 : Addr) (cz : Int32) (vf : Value) (c0 : Int32) (c1 : Int32) (c2 : Int32) (h0 : Heap) (n0 : Nat) (Z0 : n0 ≤ h0.size) (E_a1 : Exa Z h0 a1 "java/lang/String") (F_value_a1 : Fld Z h0 a1 "java/lang/String" "value" "[B" .null) (F_coder_a1 : Fld Z h0 a1 "java/lang/String" "coder" "B" (.int (0 : Int32))) (A_a2 : Av Z h0 a2 .char [(.int c0), (.int c1), (.int c2)]) (O0 : Old Z n0 h0) (g_a1 : n0 ≤ a1) (SS : SSt Z cz vf) (hg : (255 : Int32) < c0) (hch_0 : nar .char c0 = c0) (hch_1 : nar .char c1 = c1) (hch_2 : nar .char c2 = c2) :
    Con l Z (⟨"java/lang/String", "<init>", "([CIILjava/lang/Void;)V"⟩ : MethodName) jdk_42_method_149_code 6 none ({ frames := 4, cells := 2, slots := 9, locals := 57 } : Room) [] #[(.ref a1), (.ref a2), (.int (0 : Int32)), (.int (3 : Int32)), .null] h0 (fun v h L => ∃ bv : Addr, v = none ∧ Fr n0 L ∧ Keep h0 h [a1] ∧ h0.size ≤ bv ∧ Fld Z h a1 "java/lang/String" "value" "[B" (.ref bv) ∧ Fld Z h a1 "java/lang/String" "coder" "B" (.int (1 : Int32)) ∧ Av Z h bv .byte [(.int (BLO c0)), (.int (BHI c0)), (.int (BLO c1)), (.int (BHI c1)), (.int (BLO c2)), (.int (BHI c2))]) := by
  refine Con.of (plainFor_of_name pn_java_lang_String) #[.val (.ref a1), .val (.ref a2), .val (.int (0 : Int32)), .val (.int (3 : Int32)), .val .null, .unset] (fun m => efsi3_0 m a1 a2 (0 : Int32) (3 : Int32)) ?_
  intro p e s m below meth c s₁ K hx hby hml hown hnm hret hlk hZ X0 e0
  have N0 := Fr.nil n0
  refine m_aloadN K X0.here hx hby d_jdk_42_149_0 rfl rfl rfl ?_
  refine k_initO K X0 hx hby hZ hown (W hw 15 rfl) (W hw 16 rfl) (W hw 17 rfl) e0 d_jdk_42_149_1 (by rw [hml]; rfl) rfl (by decide) (Nat.le_of_ble_eq_true rfl) fun T1 X1 e1 => ?_
  refine m_iloadN K X1.here hx hby d_jdk_42_149_4 rfl rfl ?_
  refine m_ifY K X1.here hx hby (q := 27) d_jdk_42_149_5 ((if0 _ _).trans (feq (by decide : ¬ ((3 : Int32) = (0 : Int32)))).2) (by decide) rfl ?_
  refine k_getS K X1 hx hby hZ hown (host := "") (Or.inl (W hw 40 rfl)) Via.refl e1 (SS.cs.ext O0.2) d_jdk_42_149_27 rfl fun T2 X2 e2 => ?_
  refine m_ifN K X2.here hx hby (q := 33) d_jdk_42_149_30 ((if0 _ _).trans (feq SS.cz).1) rfl ?_
  refine m_aloadN K X2.here hx hby d_jdk_42_149_33 rfl rfl rfl ?_
  refine m_iloadN K X2.here hx hby d_jdk_42_149_34 rfl rfl ?_
  refine m_iloadN K X2.here hx hby d_jdk_42_149_35 rfl rfl ?_
  refine k_callS K X2 hx hby hZ [(.ref a2), (.int (0 : Int32)), (.int (3 : Int32))] [] hown (W hw 41 rfl) (W hw 42 rfl) (W hw 43 rfl) (W hw 44 rfl) (cct3_0 l Z a0 hw a2 cz vf c0 c1 c2 h0 n0 Z0 A_a2 O0 SS hg hch_0 hch_1 hch_2) e2 rfl rfl pd_11 rfl d_jdk_42_149_36 (by rw [hml]; rfl) rfl (by decide) (by decide) (Nat.le_of_ble_eq_true rfl) (by decide) (by decide) fun v3 T3 L3 X3 q3 => ?_
  obtain ⟨b3_bv, rfl, Nq3, K3, sq_b3_bv, Ap3_0⟩ := q3
  have N3 := Fr.app N0 Nq3
  have sz_b3_bv : h0.size ≤ b3_bv := Nat.le_trans (Nat.le_refl _) sq_b3_bv
  have g_b3_bv : n0 ≤ b3_bv := Nat.le_trans Z0 sz_b3_bv
  refine k_some K (w := (.ref b3_bv)) ?_
  refine m_astore K X3.here hx hby #[.val (.ref a1), .val (.ref a2), .val (.int (0 : Int32)), .val (.int (3 : Int32)), .val .null, .val (.ref b3_bv)] d_jdk_42_149_39 rfl rfl rfl ?_
  refine m_aloadN K X3.here hx hby d_jdk_42_149_41 rfl rfl rfl ?_
  refine m_aload K X3.here hx hby d_jdk_42_149_42 rfl rfl rfl ?_
  refine m_iloadN K X3.here hx hby d_jdk_42_149_44 rfl rfl ?_
  refine k_callS K X3 hx hby hZ [(.ref b3_bv), (.int (3 : Int32))] [(.ref a1)] hown (W hw 48 rfl) (W hw 49 rfl) (W hw 43 rfl) (W hw 50 rfl) (ccc3_6 l Z a0 hw b3_bv cz vf (BLO c0) (BHI c0) (BLO c1) (BHI c1) (BLO c2) (BHI c2) T3.heap n0 (Nat.le_trans Z0 (Nat.le_trans (Nat.le_refl _) K3.1)) Ap3_0 (O0.keep K3 all0) SS) rfl rfl rfl pd_12 rfl d_jdk_42_149_45 (by rw [hml]; rfl) rfl (by decide) (by decide) (Nat.le_of_ble_eq_true rfl) (by decide) (by decide) fun v4 T4 L4 X4 q4 => ?_
  obtain ⟨rfl, e4, rfl⟩ := q4
  replace X4 := own_px X4
  refine k_some K (w := (.int (1 : Int32))) ?_
  refine k_putF K X4 hx hby hZ hown (host := "") (Or.inl (W hw 25 rfl)) Via.refl e4 (F_coder_a1.keep K3 nin0) (E_a1.keep K3) (Or.inr ⟨(W hw 21 rfl), rfl, hnm⟩) (W hw 6 rfl) (ty := .byte) (by decide) (by decide) (by decide) d_jdk_42_149_48 rfl fun T5 h5 X5 e5 W5 => ?_
  have Fw5 := (F_coder_a1.keep K3 nin0).same W5
  have N5 := Fr.snoc X5 N3 g_a1
  refine m_aloadN K X5.here hx hby d_jdk_42_149_51 rfl rfl rfl ?_
  refine m_aload K X5.here hx hby d_jdk_42_149_52 rfl rfl rfl ?_
  refine k_putF K X5 hx hby hZ hown (host := "") (Or.inl (W hw 24 rfl)) Via.refl e5 ((F_value_a1.keep K3 nin0).other W5 (Or.inr (slot_ne (Or.inr (W hw 20 rfl)) (Or.inr (W hw 21 rfl)) (by decide) (t := (.array .byte)) (t' := .byte) (by decide) (by decide)))) ((E_a1.keep K3).wr W5) (Or.inr ⟨(W hw 20 rfl), rfl, hnm⟩) (W hw 6 rfl) (ty := (.array .byte)) (by decide) rfl rfl d_jdk_42_149_54 rfl fun T6 h6 X6 e6 W6 => ?_
  have Fw6 := ((F_value_a1.keep K3 nin0).other W5 (Or.inr (slot_ne (Or.inr (W hw 20 rfl)) (Or.inr (W hw 21 rfl)) (by decide) (t := (.array .byte)) (t' := .byte) (by decide) (by decide)))).same W6
  have N6 := Fr.snoc X6 N5 g_a1
  exact Go.retV X6 hx hby hlk hret d_jdk_42_149_57 (by decide) (by decide) (by rw [e6]; exact ⟨b3_bv, rfl, N6, ((((Keep.refl h0 [a1]).trans K3 all0).wr W5 (Or.inl (by simp))).wr W6 (Or.inl (by simp))), sz_b3_bv, Fw6, (Fw5.other W6 (Or.inr (slot_ne (Or.inr (W hw 21 rfl)) (Or.inr (W hw 20 rfl)) (by decide) (t := .byte) (t' := (.array .byte)) (by decide) (by decide)))), ((Ap3_0.other W5 (Ne.symm (Nat.ne_of_lt (Nat.lt_of_lt_of_le (Nat.lt_of_lt_of_le E_a1.lt (Nat.le_refl _)) sq_b3_bv)))).other W6 (Ne.symm (Nat.ne_of_lt (Nat.lt_of_lt_of_le (Nat.lt_of_lt_of_le E_a1.lt (Nat.le_refl _)) sq_b3_bv))))⟩)
theorem efsj3_0 (m : MethodId) (x0 : Addr) (x1 : Addr) : entryFrame m #[(.ref x0), (.ref x1)] 2 = mkF m 0 #[.val (.ref x0), .val (.ref x1)] [] := by first | (simp [entryFrame, mkF, argsToLocals, Value.category]; done) | rfl
set_option maxRecDepth 65536 in
set_option maxHeartbeats 40000000 in
theorem csj3_0 (l : Launch) (Z : State) (a0 : Array Value) (hw : ∀ d ∈ tables_1, d.before a0 Z = true) (a1 : Addr) (a2 : Addr) (cz : Int32) (vf : Value) (c0 : Int32) (c1 : Int32) (c2 : Int32) (h0 : Heap) (n0 : Nat) (Z0 : n0 ≤ h0.size) (E_a1 : Exa Z h0 a1 "java/lang/String") (F_value_a1 : Fld Z h0 a1 "java/lang/String" "value" "[B" .null) (F_coder_a1 : Fld Z h0 a1 "java/lang/String" "coder" "B" (.int (0 : Int32))) (A_a2 : Av Z h0 a2 .char [(.int c0), (.int c1), (.int c2)]) (O0 : Old Z n0 h0) (g_a1 : n0 ≤ a1) (SS : SSt Z cz vf) (hg : (255 : Int32) < c0) (hch_0 : nar .char c0 = c0) (hch_1 : nar .char c1 = c1) (hch_2 : nar .char c2 = c2) :
    Con l Z (⟨"java/lang/String", "<init>", "([C)V"⟩ : MethodName) jdk_42_method_3_code 2 none ({ frames := 5, cells := 2, slots := 9, locals := 74 } : Room) [] #[(.ref a1), (.ref a2)] h0 (fun v h L => ∃ bv : Addr, v = none ∧ Fr n0 L ∧ Keep h0 h [a1] ∧ h0.size ≤ bv ∧ Fld Z h a1 "java/lang/String" "value" "[B" (.ref bv) ∧ Fld Z h a1 "java/lang/String" "coder" "B" (.int (1 : Int32)) ∧ Av Z h bv .byte [(.int (BLO c0)), (.int (BHI c0)), (.int (BLO c1)), (.int (BHI c1)), (.int (BLO c2)), (.int (BHI c2))]) := by
  refine Con.of (plainFor_of_name pn_java_lang_String) #[.val (.ref a1), .val (.ref a2)] (fun m => efsj3_0 m a1 a2) ?_
  intro p e s m below meth c s₁ K hx hby hml hown hnm hret hlk hZ X0 e0
  have N0 := Fr.nil n0
  refine m_aloadN K X0.here hx hby d_jdk_42_3_0 rfl rfl rfl ?_
  refine m_aloadN K X0.here hx hby d_jdk_42_3_1 rfl rfl rfl ?_
  refine m_iconst K X0.here hx hby (0 : Int32) d_jdk_42_3_2 rfl rfl ?_
  refine m_aloadN K X0.here hx hby d_jdk_42_3_3 rfl rfl rfl ?_
  refine k_len K X0 hx hby hZ (3 : Int32) e0 A_a2 rfl d_jdk_42_3_4 rfl ?_
  refine m_null K X0.here hx hby d_jdk_42_3_5 rfl ?_
  refine k_callP K X0 hx hby hZ a1 [(.ref a2), (.int (0 : Int32)), (.int (3 : Int32)), .null] [] hown (W hw 11 rfl) (W hw 12 rfl) (W hw 7 rfl) (W hw 14 rfl) rfl (csi3_0 l Z a0 hw a1 a2 cz vf c0 c1 c2 h0 n0 Z0 E_a1 F_value_a1 F_coder_a1 A_a2 O0 g_a1 SS hg hch_0 hch_1 hch_2) e0 rfl rfl pd_13 rfl d_jdk_42_3_6 (by rw [hml]; rfl) rfl (by decide) (by decide) (Nat.le_of_ble_eq_true rfl) (by decide) (by decide) fun v1 T1 L1 X1 q1 => ?_
  obtain ⟨b1_bv, rfl, Nq1, K1, sq_b1_bv, Fp1_0, Fp1_1, Ap1_0⟩ := q1
  have N1 := Fr.app N0 Nq1
  have sz_b1_bv : h0.size ≤ b1_bv := Nat.le_trans (Nat.le_refl _) sq_b1_bv
  have g_b1_bv : n0 ≤ b1_bv := Nat.le_trans Z0 sz_b1_bv
  refine k_none K ?_
  exact Go.retV X1 hx hby hlk hret d_jdk_42_3_9 (by decide) (by decide) (⟨b1_bv, rfl, N1, ((Keep.refl h0 [a1]).trans K1 (allS (Or.inl (by simp)) all0)), sz_b1_bv, Fp1_0, Fp1_1, Ap1_0⟩)
theorem efcf3_1 (m : MethodId) (x0 : Addr) (x1 : Int32) (x2 : Addr) (x3 : Int32) (x4 : Int32) : entryFrame m #[(.ref x0), (.int x1), (.ref x2), (.int x3), (.int x4)] 7 = mkF m 0 #[.val (.ref x0), .val (.int x1), .val (.ref x2), .val (.int x3), .val (.int x4), .unset, .unset] [] := by first | (simp [entryFrame, mkF, argsToLocals, Value.category]; done) | rfl
set_option maxRecDepth 65536 in
set_option maxHeartbeats 40000000 in
theorem ccf3_1 (l : Launch) (Z : State) (a0 : Array Value) (hw : ∀ d ∈ tables_1, d.before a0 Z = true) (a1 : Addr) (a3 : Addr) (cz : Int32) (vf : Value) (c0 : Int32) (c1 : Int32) (c2 : Int32) (h0 : Heap) (n0 : Nat) (Z0 : n0 ≤ h0.size) (A_a1 : Av Z h0 a1 .char [(.int c0), (.int c1), (.int c2)]) (A_a3 : Av Z h0 a3 .byte [(.int (0 : Int32)), (.int (0 : Int32)), (.int (0 : Int32))]) (O0 : Old Z n0 h0) (g_a3 : n0 ≤ a3) (ne_a1_a3 : a1 ≠ a3) (SS : SSt Z cz vf) (hl_0 : ¬ ((255 : Int32) < c0)) (hg : (255 : Int32) < c1) (hch_0 : nar .char c0 = c0) (hch_1 : nar .char c1 = c1) (hch_2 : nar .char c2 = c2) :
    Con l Z (⟨"java/lang/StringUTF16", "compress", "([CI[BII)I"⟩ : MethodName) jdk_52_method_21_code 7 (some .int) ({ frames := 0, cells := 0, slots := 0, locals := 0 } : Room) [] #[(.ref a1), (.int (0 : Int32)), (.ref a3), (.int (0 : Int32)), (.int (3 : Int32))] h0 (fun v h L => v = some (.int (1 : Int32)) ∧ Fr n0 L ∧ Keep h0 h [a3] ∧ Av Z h a3 .byte [(.int (nar .byte (c0.toInt8.toInt32))), (.int (0 : Int32)), (.int (0 : Int32))]) := by
  refine Con.of (plainFor_of_name pn_java_lang_StringUTF16) #[.val (.ref a1), .val (.int (0 : Int32)), .val (.ref a3), .val (.int (0 : Int32)), .val (.int (3 : Int32)), .unset, .unset] (fun m => efcf3_1 m a1 (0 : Int32) a3 (0 : Int32) (3 : Int32)) ?_
  intro p e s m below meth c s₁ K hx hby hml hown hnm hret hlk hZ X0 e0
  have N0 := Fr.nil n0
  refine m_iconst K X0.here hx hby (0 : Int32) d_jdk_52_21_0 rfl rfl ?_
  refine m_istore K X0.here hx hby #[.val (.ref a1), .val (.int (0 : Int32)), .val (.ref a3), .val (.int (0 : Int32)), .val (.int (3 : Int32)), .val (.int (0 : Int32)), .unset] d_jdk_52_21_1 rfl rfl ?_
  refine m_iload K X0.here hx hby d_jdk_52_21_3 rfl rfl ?_
  refine m_iload K X0.here hx hby d_jdk_52_21_5 rfl rfl ?_
  refine m_icmpN K X0.here hx hby (q := 10) d_jdk_52_21_7 (tlt (by decide : (0 : Int32) < (3 : Int32))).2.1 rfl ?_
  refine m_aloadN K X0.here hx hby d_jdk_52_21_10 rfl rfl rfl ?_
  refine m_iloadN K X0.here hx hby d_jdk_52_21_11 rfl rfl ?_
  refine k_ldC K X0 hx hby hZ e0 A_a1 (v := (.int c0)) (by decide) rfl d_jdk_52_21_12 rfl ?_
  refine m_istore K X0.here hx hby #[.val (.ref a1), .val (.int (0 : Int32)), .val (.ref a3), .val (.int (0 : Int32)), .val (.int (3 : Int32)), .val (.int (0 : Int32)), .val (.int c0)] d_jdk_52_21_13 rfl rfl ?_
  refine m_iload K X0.here hx hby d_jdk_52_21_15 rfl rfl ?_
  refine m_sipush K X0.here hx hby (255 : Int32) d_jdk_52_21_17 rfl rfl ?_
  refine m_icmpY K X0.here hx hby (q := 26) d_jdk_52_21_20 (flt hl_0).2.2.2 (by decide) rfl ?_
  refine m_aloadN K X0.here hx hby d_jdk_52_21_26 rfl rfl rfl ?_
  refine m_iloadN K X0.here hx hby d_jdk_52_21_27 rfl rfl ?_
  refine m_iload K X0.here hx hby d_jdk_52_21_28 rfl rfl ?_
  refine m_i2b K X0.here hx hby (c0.toInt8.toInt32) d_jdk_52_21_30 rfl rfl ?_
  refine k_stB K X0 hx hby hZ e0 A_a3 (by decide) (Nat.le_of_ble_eq_true rfl) d_jdk_52_21_31 rfl fun T1 h1 X1 e1 W1 V1 => ?_
  replace V1 : Av Z h1 a3 .byte [(.int (nar .byte (c0.toInt8.toInt32))), (.int (0 : Int32)), (.int (0 : Int32))] := V1
  have N1 := Fr.snoc X1 N0 g_a3
  refine m_iinc K X1.here hx hby #[.val (.ref a1), .val (.int (1 : Int32)), .val (.ref a3), .val (.int (0 : Int32)), .val (.int (3 : Int32)), .val (.int (0 : Int32)), .val (.int c0)] d_jdk_52_21_32 rfl rfl rfl ?_
  refine m_iinc K X1.here hx hby #[.val (.ref a1), .val (.int (1 : Int32)), .val (.ref a3), .val (.int (1 : Int32)), .val (.int (3 : Int32)), .val (.int (0 : Int32)), .val (.int c0)] d_jdk_52_21_35 rfl rfl rfl ?_
  refine m_iinc K X1.here hx hby #[.val (.ref a1), .val (.int (1 : Int32)), .val (.ref a3), .val (.int (1 : Int32)), .val (.int (3 : Int32)), .val (.int (1 : Int32)), .val (.int c0)] d_jdk_52_21_38 rfl rfl rfl ?_
  refine m_goto K X1.here hx hby (q := 3) d_jdk_52_21_41 (by decide) rfl ?_
  refine m_iload K X1.here hx hby d_jdk_52_21_3 rfl rfl ?_
  refine m_iload K X1.here hx hby d_jdk_52_21_5 rfl rfl ?_
  refine m_icmpN K X1.here hx hby (q := 10) d_jdk_52_21_7 (tlt (by decide : (1 : Int32) < (3 : Int32))).2.1 rfl ?_
  refine m_aloadN K X1.here hx hby d_jdk_52_21_10 rfl rfl rfl ?_
  refine m_iloadN K X1.here hx hby d_jdk_52_21_11 rfl rfl ?_
  refine k_ldC K X1 hx hby hZ e1 (A_a1.other W1 ne_a1_a3) (v := (.int c1)) (by decide) rfl d_jdk_52_21_12 rfl ?_
  refine m_istore K X1.here hx hby #[.val (.ref a1), .val (.int (1 : Int32)), .val (.ref a3), .val (.int (1 : Int32)), .val (.int (3 : Int32)), .val (.int (1 : Int32)), .val (.int c1)] d_jdk_52_21_13 rfl rfl ?_
  refine m_iload K X1.here hx hby d_jdk_52_21_15 rfl rfl ?_
  refine m_sipush K X1.here hx hby (255 : Int32) d_jdk_52_21_17 rfl rfl ?_
  refine m_icmpN K X1.here hx hby (q := 23) d_jdk_52_21_20 (tlt hg).2.2.2 rfl ?_
  refine m_iload K X1.here hx hby d_jdk_52_21_23 rfl rfl ?_
  exact Go.retI X1 hx hby hlk hret d_jdk_52_21_25 (by decide) (by decide) (by rw [e1]; exact ⟨rfl, N1, ((Keep.refl h0 [a3]).wr W1 (Or.inl (by simp))), V1⟩)
theorem efct3_1 (m : MethodId) (x0 : Addr) (x1 : Int32) (x2 : Int32) : entryFrame m #[(.ref x0), (.int x1), (.int x2)] 6 = mkF m 0 #[.val (.ref x0), .val (.int x1), .val (.int x2), .unset, .unset, .unset] [] := by first | (simp [entryFrame, mkF, argsToLocals, Value.category]; done) | rfl
set_option maxRecDepth 65536 in
set_option maxHeartbeats 40000000 in
theorem cct3_1 (l : Launch) (Z : State) (a0 : Array Value) (hw : ∀ d ∈ tables_1, d.before a0 Z = true) (a1 : Addr) (cz : Int32) (vf : Value) (c0 : Int32) (c1 : Int32) (c2 : Int32) (h0 : Heap) (n0 : Nat) (Z0 : n0 ≤ h0.size) (A_a1 : Av Z h0 a1 .char [(.int c0), (.int c1), (.int c2)]) (O0 : Old Z n0 h0) (SS : SSt Z cz vf) (hl_0 : ¬ ((255 : Int32) < c0)) (hg : (255 : Int32) < c1) (hch_0 : nar .char c0 = c0) (hch_1 : nar .char c1 = c1) (hch_2 : nar .char c2 = c2) :
    Con l Z (⟨"java/lang/StringUTF16", "compress", "([CII)[B"⟩ : MethodName) jdk_52_method_16_code 6 (some (.array .byte)) ({ frames := 3, cells := 2, slots := 9, locals := 40 } : Room) [] #[(.ref a1), (.int (0 : Int32)), (.int (3 : Int32))] h0 (fun v h L => ∃ bv : Addr, v = some (.ref bv) ∧ Fr n0 L ∧ Keep h0 h [] ∧ h0.size ≤ bv ∧ Av Z h bv .byte [(.int (BLO c0)), (.int (BHI c0)), (.int (BLO c1)), (.int (BHI c1)), (.int (BLO c2)), (.int (BHI c2))]) := by
  refine Con.of (plainFor_of_name pn_java_lang_StringUTF16) #[.val (.ref a1), .val (.int (0 : Int32)), .val (.int (3 : Int32)), .unset, .unset, .unset] (fun m => efct3_1 m a1 (0 : Int32) (3 : Int32)) ?_
  intro p e s m below meth c s₁ K hx hby hml hown hnm hret hlk hZ X0 e0
  have N0 := Fr.nil n0
  refine m_iloadN K X0.here hx hby d_jdk_52_16_0 rfl rfl ?_
  refine k_newP K X0 hx hby hZ 3 3 (W hw 19 rfl) e0 d_jdk_52_16_1 rfl (by decide) rfl (by decide) (by decide) (by decide) (by decide) fun T1 h1 b1 X1 e1 E1 g1 V_b1 => ?_
  have sz_b1 : h0.size ≤ b1 := Nat.le_trans (Nat.le_refl _) (Nat.le_of_eq g1.symm)
  have g_b1 : n0 ≤ b1 := Nat.le_trans Z0 sz_b1
  replace V_b1 : Av Z h1 b1 .byte [(.int (0 : Int32)), (.int (0 : Int32)), (.int (0 : Int32))] := V_b1
  refine m_astoreN K X1.here hx hby #[.val (.ref a1), .val (.int (0 : Int32)), .val (.int (3 : Int32)), .val (.ref b1), .unset, .unset] d_jdk_52_16_3 rfl rfl rfl ?_
  refine m_aloadN K X1.here hx hby d_jdk_52_16_4 rfl rfl rfl ?_
  refine m_iloadN K X1.here hx hby d_jdk_52_16_5 rfl rfl ?_
  refine m_aloadN K X1.here hx hby d_jdk_52_16_6 rfl rfl rfl ?_
  refine m_iconst K X1.here hx hby (0 : Int32) d_jdk_52_16_7 rfl rfl ?_
  refine m_iloadN K X1.here hx hby d_jdk_52_16_8 rfl rfl ?_
  refine k_callS K X1 hx hby hZ [(.ref a1), (.int (0 : Int32)), (.ref b1), (.int (0 : Int32)), (.int (3 : Int32))] [] hown (W hw 45 rfl) (W hw 46 rfl) (W hw 43 rfl) (W hw 47 rfl) (ccf3_1 l Z a0 hw a1 b1 cz vf c0 c1 c2 h1 n0 (Nat.le_trans Z0 (Nat.le_trans (Nat.le_refl _) E1.1)) (A_a1.ext E1) V_b1 (O0.ext E1) g_b1 (Nat.ne_of_lt (Nat.lt_of_lt_of_le (Nat.lt_of_lt_of_le A_a1.lt (Nat.le_refl _)) (Nat.le_of_eq g1.symm))) SS hl_0 hg hch_0 hch_1 hch_2) e1 rfl rfl pd_10 rfl d_jdk_52_16_9 (by rw [hml]; rfl) rfl (by decide) (by decide) (Nat.le_of_ble_eq_true rfl) (by decide) (by decide) fun v2 T2 L2 X2 q2 => ?_
  obtain ⟨rfl, Nq2, K2, Ap2_0⟩ := q2
  have N2 := Fr.app N0 Nq2
  refine k_some K (w := (.int (1 : Int32))) ?_
  refine m_istore K X2.here hx hby #[.val (.ref a1), .val (.int (0 : Int32)), .val (.int (3 : Int32)), .val (.ref b1), .val (.int (1 : Int32)), .unset] d_jdk_52_16_12 rfl rfl ?_
  refine m_iload K X2.here hx hby d_jdk_52_16_14 rfl rfl ?_
  refine m_iloadN K X2.here hx hby d_jdk_52_16_16 rfl rfl ?_
  refine m_icmpN K X2.here hx hby (q := 20) d_jdk_52_16_17 (feq (by decide : ¬ ((1 : Int32) = (3 : Int32)))).1 rfl ?_
  refine m_aloadN K X2.here hx hby d_jdk_52_16_20 rfl rfl rfl ?_
  refine m_iloadN K X2.here hx hby d_jdk_52_16_21 rfl rfl ?_
  refine m_iloadN K X2.here hx hby d_jdk_52_16_22 rfl rfl ?_
  refine k_callS K X2 hx hby hZ [(.ref a1), (.int (0 : Int32)), (.int (3 : Int32))] [] hown (W hw 74 rfl) (W hw 75 rfl) (W hw 43 rfl) (W hw 76 rfl) (ctb3 l Z a0 hw a1 cz vf c0 c1 c2 T2.heap n0 (Nat.le_trans Z0 (Nat.le_trans (Nat.le_trans (Nat.le_refl _) E1.1) K2.1)) ((A_a1.ext E1).keep K2 (ninS (Nat.ne_of_lt (Nat.lt_of_lt_of_le (Nat.lt_of_lt_of_le A_a1.lt (Nat.le_refl _)) (Nat.le_of_eq g1.symm))) nin0)) ((O0.ext E1).keep K2 (allS g_b1 all0)) SS) rfl rfl rfl pd_11 rfl d_jdk_52_16_23 (by rw [hml]; rfl) rfl (by decide) (by decide) (Nat.le_of_ble_eq_true rfl) (by decide) (by decide) fun v3 T3 L3 X3 q3 => ?_
  obtain ⟨b3_bv, rfl, Nq3, K3, sq_b3_bv, Ap3_0⟩ := q3
  have N3 := Fr.app N2 Nq3
  have sz_b3_bv : h0.size ≤ b3_bv := Nat.le_trans (Nat.le_trans (Nat.le_trans (Nat.le_refl _) E1.1) K2.1) sq_b3_bv
  have g_b3_bv : n0 ≤ b3_bv := Nat.le_trans Z0 sz_b3_bv
  refine k_some K (w := (.ref b3_bv)) ?_
  refine m_astore K X3.here hx hby #[.val (.ref a1), .val (.int (0 : Int32)), .val (.int (3 : Int32)), .val (.ref b1), .val (.int (1 : Int32)), .val (.ref b3_bv)] d_jdk_52_16_26 rfl rfl rfl ?_
  refine m_aload K X3.here hx hby d_jdk_52_16_28 rfl rfl rfl ?_
  refine m_iload K X3.here hx hby d_jdk_52_16_30 rfl rfl ?_
  refine k_callS K X3 hx hby hZ [(.ref b3_bv), (.int (1 : Int32))] [] hown (W hw 90 rfl) (W hw 91 rfl) (W hw 43 rfl) (W hw 92 rfl) (cgc3_1 l Z a0 hw b3_bv cz vf (BLO c0) (BHI c0) (BLO c1) (BHI c1) (BLO c2) (BHI c2) T3.heap n0 (Nat.le_trans Z0 (Nat.le_trans (Nat.le_trans (Nat.le_trans (Nat.le_refl _) E1.1) K2.1) K3.1)) Ap3_0 (((O0.ext E1).keep K2 (allS g_b1 all0)).keep K3 all0) SS) rfl rfl rfl pd_5 rfl d_jdk_52_16_32 (by rw [hml]; rfl) rfl (by decide) (by decide) (Nat.le_of_ble_eq_true rfl) (by decide) (by decide) fun v4 T4 L4 X4 q4 => ?_
  obtain ⟨rfl, e4, rfl⟩ := q4
  replace X4 := own_px X4
  refine k_some K (w := (.int (GCH (BLO c1) (BHI c1)))) ?_
  refine m_sipush K X4.here hx hby (255 : Int32) d_jdk_52_16_35 rfl rfl ?_
  refine m_icmpY K X4.here hx hby (q := 54) d_jdk_52_16_38 (tlt (own_rgt c1 hch_1 hg)).2.2.1 (by decide) rfl ?_
  refine m_aload K X4.here hx hby d_jdk_52_16_54 rfl rfl rfl ?_
  exact Go.retO X4 hx hby hlk hret rfl (Or.inr (Or.inr (Or.inr (Or.inr ⟨rfl, rfl, rfl⟩)))) d_jdk_52_16_56 (by decide) (by decide) (by rw [e4]; exact ⟨b3_bv, rfl, N3, ((((Keep.refl h0 []).ext E1).trans K2 (allS (Or.inr sz_b1) all0)).trans K3 all0), sz_b3_bv, Ap3_0⟩)
theorem efsi3_1 (m : MethodId) (x0 : Addr) (x1 : Addr) (x2 : Int32) (x3 : Int32) : entryFrame m #[(.ref x0), (.ref x1), (.int x2), (.int x3), .null] 6 = mkF m 0 #[.val (.ref x0), .val (.ref x1), .val (.int x2), .val (.int x3), .val .null, .unset] [] := by first | (simp [entryFrame, mkF, argsToLocals, Value.category]; done) | rfl
set_option maxRecDepth 65536 in
set_option maxHeartbeats 40000000 in
theorem csi3_1 (l : Launch) (Z : State) (a0 : Array Value) (hw : ∀ d ∈ tables_1, d.before a0 Z = true) (a1 : Addr) (a2 : Addr) (cz : Int32) (vf : Value) (c0 : Int32) (c1 : Int32) (c2 : Int32) (h0 : Heap) (n0 : Nat) (Z0 : n0 ≤ h0.size) (E_a1 : Exa Z h0 a1 "java/lang/String") (F_value_a1 : Fld Z h0 a1 "java/lang/String" "value" "[B" .null) (F_coder_a1 : Fld Z h0 a1 "java/lang/String" "coder" "B" (.int (0 : Int32))) (A_a2 : Av Z h0 a2 .char [(.int c0), (.int c1), (.int c2)]) (O0 : Old Z n0 h0) (g_a1 : n0 ≤ a1) (SS : SSt Z cz vf) (hl_0 : ¬ ((255 : Int32) < c0)) (hg : (255 : Int32) < c1) (hch_0 : nar .char c0 = c0) (hch_1 : nar .char c1 = c1) (hch_2 : nar .char c2 = c2) :
    Con l Z (⟨"java/lang/String", "<init>", "([CIILjava/lang/Void;)V"⟩ : MethodName) jdk_42_method_149_code 6 none ({ frames := 4, cells := 2, slots := 9, locals := 57 } : Room) [] #[(.ref a1), (.ref a2), (.int (0 : Int32)), (.int (3 : Int32)), .null] h0 (fun v h L => ∃ bv : Addr, v = none ∧ Fr n0 L ∧ Keep h0 h [a1] ∧ h0.size ≤ bv ∧ Fld Z h a1 "java/lang/String" "value" "[B" (.ref bv) ∧ Fld Z h a1 "java/lang/String" "coder" "B" (.int (1 : Int32)) ∧ Av Z h bv .byte [(.int (BLO c0)), (.int (BHI c0)), (.int (BLO c1)), (.int (BHI c1)), (.int (BLO c2)), (.int (BHI c2))]) := by
  refine Con.of (plainFor_of_name pn_java_lang_String) #[.val (.ref a1), .val (.ref a2), .val (.int (0 : Int32)), .val (.int (3 : Int32)), .val .null, .unset] (fun m => efsi3_1 m a1 a2 (0 : Int32) (3 : Int32)) ?_
  intro p e s m below meth c s₁ K hx hby hml hown hnm hret hlk hZ X0 e0
  have N0 := Fr.nil n0
  refine m_aloadN K X0.here hx hby d_jdk_42_149_0 rfl rfl rfl ?_
  refine k_initO K X0 hx hby hZ hown (W hw 15 rfl) (W hw 16 rfl) (W hw 17 rfl) e0 d_jdk_42_149_1 (by rw [hml]; rfl) rfl (by decide) (Nat.le_of_ble_eq_true rfl) fun T1 X1 e1 => ?_
  refine m_iloadN K X1.here hx hby d_jdk_42_149_4 rfl rfl ?_
  refine m_ifY K X1.here hx hby (q := 27) d_jdk_42_149_5 ((if0 _ _).trans (feq (by decide : ¬ ((3 : Int32) = (0 : Int32)))).2) (by decide) rfl ?_
  refine k_getS K X1 hx hby hZ hown (host := "") (Or.inl (W hw 40 rfl)) Via.refl e1 (SS.cs.ext O0.2) d_jdk_42_149_27 rfl fun T2 X2 e2 => ?_
  refine m_ifN K X2.here hx hby (q := 33) d_jdk_42_149_30 ((if0 _ _).trans (feq SS.cz).1) rfl ?_
  refine m_aloadN K X2.here hx hby d_jdk_42_149_33 rfl rfl rfl ?_
  refine m_iloadN K X2.here hx hby d_jdk_42_149_34 rfl rfl ?_
  refine m_iloadN K X2.here hx hby d_jdk_42_149_35 rfl rfl ?_
  refine k_callS K X2 hx hby hZ [(.ref a2), (.int (0 : Int32)), (.int (3 : Int32))] [] hown (W hw 41 rfl) (W hw 42 rfl) (W hw 43 rfl) (W hw 44 rfl) (cct3_1 l Z a0 hw a2 cz vf c0 c1 c2 h0 n0 Z0 A_a2 O0 SS hl_0 hg hch_0 hch_1 hch_2) e2 rfl rfl pd_11 rfl d_jdk_42_149_36 (by rw [hml]; rfl) rfl (by decide) (by decide) (Nat.le_of_ble_eq_true rfl) (by decide) (by decide) fun v3 T3 L3 X3 q3 => ?_
  obtain ⟨b3_bv, rfl, Nq3, K3, sq_b3_bv, Ap3_0⟩ := q3
  have N3 := Fr.app N0 Nq3
  have sz_b3_bv : h0.size ≤ b3_bv := Nat.le_trans (Nat.le_refl _) sq_b3_bv
  have g_b3_bv : n0 ≤ b3_bv := Nat.le_trans Z0 sz_b3_bv
  refine k_some K (w := (.ref b3_bv)) ?_
  refine m_astore K X3.here hx hby #[.val (.ref a1), .val (.ref a2), .val (.int (0 : Int32)), .val (.int (3 : Int32)), .val .null, .val (.ref b3_bv)] d_jdk_42_149_39 rfl rfl rfl ?_
  refine m_aloadN K X3.here hx hby d_jdk_42_149_41 rfl rfl rfl ?_
  refine m_aload K X3.here hx hby d_jdk_42_149_42 rfl rfl rfl ?_
  refine m_iloadN K X3.here hx hby d_jdk_42_149_44 rfl rfl ?_
  refine k_callS K X3 hx hby hZ [(.ref b3_bv), (.int (3 : Int32))] [(.ref a1)] hown (W hw 48 rfl) (W hw 49 rfl) (W hw 43 rfl) (W hw 50 rfl) (ccc3_6 l Z a0 hw b3_bv cz vf (BLO c0) (BHI c0) (BLO c1) (BHI c1) (BLO c2) (BHI c2) T3.heap n0 (Nat.le_trans Z0 (Nat.le_trans (Nat.le_refl _) K3.1)) Ap3_0 (O0.keep K3 all0) SS) rfl rfl rfl pd_12 rfl d_jdk_42_149_45 (by rw [hml]; rfl) rfl (by decide) (by decide) (Nat.le_of_ble_eq_true rfl) (by decide) (by decide) fun v4 T4 L4 X4 q4 => ?_
  obtain ⟨rfl, e4, rfl⟩ := q4
  replace X4 := own_px X4
  refine k_some K (w := (.int (1 : Int32))) ?_
  refine k_putF K X4 hx hby hZ hown (host := "") (Or.inl (W hw 25 rfl)) Via.refl e4 (F_coder_a1.keep K3 nin0) (E_a1.keep K3) (Or.inr ⟨(W hw 21 rfl), rfl, hnm⟩) (W hw 6 rfl) (ty := .byte) (by decide) (by decide) (by decide) d_jdk_42_149_48 rfl fun T5 h5 X5 e5 W5 => ?_
  have Fw5 := (F_coder_a1.keep K3 nin0).same W5
  have N5 := Fr.snoc X5 N3 g_a1
  refine m_aloadN K X5.here hx hby d_jdk_42_149_51 rfl rfl rfl ?_
  refine m_aload K X5.here hx hby d_jdk_42_149_52 rfl rfl rfl ?_
  refine k_putF K X5 hx hby hZ hown (host := "") (Or.inl (W hw 24 rfl)) Via.refl e5 ((F_value_a1.keep K3 nin0).other W5 (Or.inr (slot_ne (Or.inr (W hw 20 rfl)) (Or.inr (W hw 21 rfl)) (by decide) (t := (.array .byte)) (t' := .byte) (by decide) (by decide)))) ((E_a1.keep K3).wr W5) (Or.inr ⟨(W hw 20 rfl), rfl, hnm⟩) (W hw 6 rfl) (ty := (.array .byte)) (by decide) rfl rfl d_jdk_42_149_54 rfl fun T6 h6 X6 e6 W6 => ?_
  have Fw6 := ((F_value_a1.keep K3 nin0).other W5 (Or.inr (slot_ne (Or.inr (W hw 20 rfl)) (Or.inr (W hw 21 rfl)) (by decide) (t := (.array .byte)) (t' := .byte) (by decide) (by decide)))).same W6
  have N6 := Fr.snoc X6 N5 g_a1
  exact Go.retV X6 hx hby hlk hret d_jdk_42_149_57 (by decide) (by decide) (by rw [e6]; exact ⟨b3_bv, rfl, N6, ((((Keep.refl h0 [a1]).trans K3 all0).wr W5 (Or.inl (by simp))).wr W6 (Or.inl (by simp))), sz_b3_bv, Fw6, (Fw5.other W6 (Or.inr (slot_ne (Or.inr (W hw 21 rfl)) (Or.inr (W hw 20 rfl)) (by decide) (t := .byte) (t' := (.array .byte)) (by decide) (by decide)))), ((Ap3_0.other W5 (Ne.symm (Nat.ne_of_lt (Nat.lt_of_lt_of_le (Nat.lt_of_lt_of_le E_a1.lt (Nat.le_refl _)) sq_b3_bv)))).other W6 (Ne.symm (Nat.ne_of_lt (Nat.lt_of_lt_of_le (Nat.lt_of_lt_of_le E_a1.lt (Nat.le_refl _)) sq_b3_bv))))⟩)
theorem efsj3_1 (m : MethodId) (x0 : Addr) (x1 : Addr) : entryFrame m #[(.ref x0), (.ref x1)] 2 = mkF m 0 #[.val (.ref x0), .val (.ref x1)] [] := by first | (simp [entryFrame, mkF, argsToLocals, Value.category]; done) | rfl
set_option maxRecDepth 65536 in
set_option maxHeartbeats 40000000 in
theorem csj3_1 (l : Launch) (Z : State) (a0 : Array Value) (hw : ∀ d ∈ tables_1, d.before a0 Z = true) (a1 : Addr) (a2 : Addr) (cz : Int32) (vf : Value) (c0 : Int32) (c1 : Int32) (c2 : Int32) (h0 : Heap) (n0 : Nat) (Z0 : n0 ≤ h0.size) (E_a1 : Exa Z h0 a1 "java/lang/String") (F_value_a1 : Fld Z h0 a1 "java/lang/String" "value" "[B" .null) (F_coder_a1 : Fld Z h0 a1 "java/lang/String" "coder" "B" (.int (0 : Int32))) (A_a2 : Av Z h0 a2 .char [(.int c0), (.int c1), (.int c2)]) (O0 : Old Z n0 h0) (g_a1 : n0 ≤ a1) (SS : SSt Z cz vf) (hl_0 : ¬ ((255 : Int32) < c0)) (hg : (255 : Int32) < c1) (hch_0 : nar .char c0 = c0) (hch_1 : nar .char c1 = c1) (hch_2 : nar .char c2 = c2) :
    Con l Z (⟨"java/lang/String", "<init>", "([C)V"⟩ : MethodName) jdk_42_method_3_code 2 none ({ frames := 5, cells := 2, slots := 9, locals := 74 } : Room) [] #[(.ref a1), (.ref a2)] h0 (fun v h L => ∃ bv : Addr, v = none ∧ Fr n0 L ∧ Keep h0 h [a1] ∧ h0.size ≤ bv ∧ Fld Z h a1 "java/lang/String" "value" "[B" (.ref bv) ∧ Fld Z h a1 "java/lang/String" "coder" "B" (.int (1 : Int32)) ∧ Av Z h bv .byte [(.int (BLO c0)), (.int (BHI c0)), (.int (BLO c1)), (.int (BHI c1)), (.int (BLO c2)), (.int (BHI c2))]) := by
  refine Con.of (plainFor_of_name pn_java_lang_String) #[.val (.ref a1), .val (.ref a2)] (fun m => efsj3_1 m a1 a2) ?_
  intro p e s m below meth c s₁ K hx hby hml hown hnm hret hlk hZ X0 e0
  have N0 := Fr.nil n0
  refine m_aloadN K X0.here hx hby d_jdk_42_3_0 rfl rfl rfl ?_
  refine m_aloadN K X0.here hx hby d_jdk_42_3_1 rfl rfl rfl ?_
  refine m_iconst K X0.here hx hby (0 : Int32) d_jdk_42_3_2 rfl rfl ?_
  refine m_aloadN K X0.here hx hby d_jdk_42_3_3 rfl rfl rfl ?_
  refine k_len K X0 hx hby hZ (3 : Int32) e0 A_a2 rfl d_jdk_42_3_4 rfl ?_
  refine m_null K X0.here hx hby d_jdk_42_3_5 rfl ?_
  refine k_callP K X0 hx hby hZ a1 [(.ref a2), (.int (0 : Int32)), (.int (3 : Int32)), .null] [] hown (W hw 11 rfl) (W hw 12 rfl) (W hw 7 rfl) (W hw 14 rfl) rfl (csi3_1 l Z a0 hw a1 a2 cz vf c0 c1 c2 h0 n0 Z0 E_a1 F_value_a1 F_coder_a1 A_a2 O0 g_a1 SS hl_0 hg hch_0 hch_1 hch_2) e0 rfl rfl pd_13 rfl d_jdk_42_3_6 (by rw [hml]; rfl) rfl (by decide) (by decide) (Nat.le_of_ble_eq_true rfl) (by decide) (by decide) fun v1 T1 L1 X1 q1 => ?_
  obtain ⟨b1_bv, rfl, Nq1, K1, sq_b1_bv, Fp1_0, Fp1_1, Ap1_0⟩ := q1
  have N1 := Fr.app N0 Nq1
  have sz_b1_bv : h0.size ≤ b1_bv := Nat.le_trans (Nat.le_refl _) sq_b1_bv
  have g_b1_bv : n0 ≤ b1_bv := Nat.le_trans Z0 sz_b1_bv
  refine k_none K ?_
  exact Go.retV X1 hx hby hlk hret d_jdk_42_3_9 (by decide) (by decide) (⟨b1_bv, rfl, N1, ((Keep.refl h0 [a1]).trans K1 (allS (Or.inl (by simp)) all0)), sz_b1_bv, Fp1_0, Fp1_1, Ap1_0⟩)
theorem efcf3_2 (m : MethodId) (x0 : Addr) (x1 : Int32) (x2 : Addr) (x3 : Int32) (x4 : Int32) : entryFrame m #[(.ref x0), (.int x1), (.ref x2), (.int x3), (.int x4)] 7 = mkF m 0 #[.val (.ref x0), .val (.int x1), .val (.ref x2), .val (.int x3), .val (.int x4), .unset, .unset] [] := by first | (simp [entryFrame, mkF, argsToLocals, Value.category]; done) | rfl
set_option maxRecDepth 65536 in
set_option maxHeartbeats 40000000 in
theorem ccf3_2 (l : Launch) (Z : State) (a0 : Array Value) (hw : ∀ d ∈ tables_1, d.before a0 Z = true) (a1 : Addr) (a3 : Addr) (cz : Int32) (vf : Value) (c0 : Int32) (c1 : Int32) (c2 : Int32) (h0 : Heap) (n0 : Nat) (Z0 : n0 ≤ h0.size) (A_a1 : Av Z h0 a1 .char [(.int c0), (.int c1), (.int c2)]) (A_a3 : Av Z h0 a3 .byte [(.int (0 : Int32)), (.int (0 : Int32)), (.int (0 : Int32))]) (O0 : Old Z n0 h0) (g_a3 : n0 ≤ a3) (ne_a1_a3 : a1 ≠ a3) (SS : SSt Z cz vf) (hl_0 : ¬ ((255 : Int32) < c0)) (hl_1 : ¬ ((255 : Int32) < c1)) (hg : (255 : Int32) < c2) (hch_0 : nar .char c0 = c0) (hch_1 : nar .char c1 = c1) (hch_2 : nar .char c2 = c2) :
    Con l Z (⟨"java/lang/StringUTF16", "compress", "([CI[BII)I"⟩ : MethodName) jdk_52_method_21_code 7 (some .int) ({ frames := 0, cells := 0, slots := 0, locals := 0 } : Room) [] #[(.ref a1), (.int (0 : Int32)), (.ref a3), (.int (0 : Int32)), (.int (3 : Int32))] h0 (fun v h L => v = some (.int (2 : Int32)) ∧ Fr n0 L ∧ Keep h0 h [a3] ∧ Av Z h a3 .byte [(.int (nar .byte (c0.toInt8.toInt32))), (.int (nar .byte (c1.toInt8.toInt32))), (.int (0 : Int32))]) := by
  refine Con.of (plainFor_of_name pn_java_lang_StringUTF16) #[.val (.ref a1), .val (.int (0 : Int32)), .val (.ref a3), .val (.int (0 : Int32)), .val (.int (3 : Int32)), .unset, .unset] (fun m => efcf3_2 m a1 (0 : Int32) a3 (0 : Int32) (3 : Int32)) ?_
  intro p e s m below meth c s₁ K hx hby hml hown hnm hret hlk hZ X0 e0
  have N0 := Fr.nil n0
  refine m_iconst K X0.here hx hby (0 : Int32) d_jdk_52_21_0 rfl rfl ?_
  refine m_istore K X0.here hx hby #[.val (.ref a1), .val (.int (0 : Int32)), .val (.ref a3), .val (.int (0 : Int32)), .val (.int (3 : Int32)), .val (.int (0 : Int32)), .unset] d_jdk_52_21_1 rfl rfl ?_
  refine m_iload K X0.here hx hby d_jdk_52_21_3 rfl rfl ?_
  refine m_iload K X0.here hx hby d_jdk_52_21_5 rfl rfl ?_
  refine m_icmpN K X0.here hx hby (q := 10) d_jdk_52_21_7 (tlt (by decide : (0 : Int32) < (3 : Int32))).2.1 rfl ?_
  refine m_aloadN K X0.here hx hby d_jdk_52_21_10 rfl rfl rfl ?_
  refine m_iloadN K X0.here hx hby d_jdk_52_21_11 rfl rfl ?_
  refine k_ldC K X0 hx hby hZ e0 A_a1 (v := (.int c0)) (by decide) rfl d_jdk_52_21_12 rfl ?_
  refine m_istore K X0.here hx hby #[.val (.ref a1), .val (.int (0 : Int32)), .val (.ref a3), .val (.int (0 : Int32)), .val (.int (3 : Int32)), .val (.int (0 : Int32)), .val (.int c0)] d_jdk_52_21_13 rfl rfl ?_
  refine m_iload K X0.here hx hby d_jdk_52_21_15 rfl rfl ?_
  refine m_sipush K X0.here hx hby (255 : Int32) d_jdk_52_21_17 rfl rfl ?_
  refine m_icmpY K X0.here hx hby (q := 26) d_jdk_52_21_20 (flt hl_0).2.2.2 (by decide) rfl ?_
  refine m_aloadN K X0.here hx hby d_jdk_52_21_26 rfl rfl rfl ?_
  refine m_iloadN K X0.here hx hby d_jdk_52_21_27 rfl rfl ?_
  refine m_iload K X0.here hx hby d_jdk_52_21_28 rfl rfl ?_
  refine m_i2b K X0.here hx hby (c0.toInt8.toInt32) d_jdk_52_21_30 rfl rfl ?_
  refine k_stB K X0 hx hby hZ e0 A_a3 (by decide) (Nat.le_of_ble_eq_true rfl) d_jdk_52_21_31 rfl fun T1 h1 X1 e1 W1 V1 => ?_
  replace V1 : Av Z h1 a3 .byte [(.int (nar .byte (c0.toInt8.toInt32))), (.int (0 : Int32)), (.int (0 : Int32))] := V1
  have N1 := Fr.snoc X1 N0 g_a3
  refine m_iinc K X1.here hx hby #[.val (.ref a1), .val (.int (1 : Int32)), .val (.ref a3), .val (.int (0 : Int32)), .val (.int (3 : Int32)), .val (.int (0 : Int32)), .val (.int c0)] d_jdk_52_21_32 rfl rfl rfl ?_
  refine m_iinc K X1.here hx hby #[.val (.ref a1), .val (.int (1 : Int32)), .val (.ref a3), .val (.int (1 : Int32)), .val (.int (3 : Int32)), .val (.int (0 : Int32)), .val (.int c0)] d_jdk_52_21_35 rfl rfl rfl ?_
  refine m_iinc K X1.here hx hby #[.val (.ref a1), .val (.int (1 : Int32)), .val (.ref a3), .val (.int (1 : Int32)), .val (.int (3 : Int32)), .val (.int (1 : Int32)), .val (.int c0)] d_jdk_52_21_38 rfl rfl rfl ?_
  refine m_goto K X1.here hx hby (q := 3) d_jdk_52_21_41 (by decide) rfl ?_
  refine m_iload K X1.here hx hby d_jdk_52_21_3 rfl rfl ?_
  refine m_iload K X1.here hx hby d_jdk_52_21_5 rfl rfl ?_
  refine m_icmpN K X1.here hx hby (q := 10) d_jdk_52_21_7 (tlt (by decide : (1 : Int32) < (3 : Int32))).2.1 rfl ?_
  refine m_aloadN K X1.here hx hby d_jdk_52_21_10 rfl rfl rfl ?_
  refine m_iloadN K X1.here hx hby d_jdk_52_21_11 rfl rfl ?_
  refine k_ldC K X1 hx hby hZ e1 (A_a1.other W1 ne_a1_a3) (v := (.int c1)) (by decide) rfl d_jdk_52_21_12 rfl ?_
  refine m_istore K X1.here hx hby #[.val (.ref a1), .val (.int (1 : Int32)), .val (.ref a3), .val (.int (1 : Int32)), .val (.int (3 : Int32)), .val (.int (1 : Int32)), .val (.int c1)] d_jdk_52_21_13 rfl rfl ?_
  refine m_iload K X1.here hx hby d_jdk_52_21_15 rfl rfl ?_
  refine m_sipush K X1.here hx hby (255 : Int32) d_jdk_52_21_17 rfl rfl ?_
  refine m_icmpY K X1.here hx hby (q := 26) d_jdk_52_21_20 (flt hl_1).2.2.2 (by decide) rfl ?_
  refine m_aloadN K X1.here hx hby d_jdk_52_21_26 rfl rfl rfl ?_
  refine m_iloadN K X1.here hx hby d_jdk_52_21_27 rfl rfl ?_
  refine m_iload K X1.here hx hby d_jdk_52_21_28 rfl rfl ?_
  refine m_i2b K X1.here hx hby (c1.toInt8.toInt32) d_jdk_52_21_30 rfl rfl ?_
  refine k_stB K X1 hx hby hZ e1 V1 (by decide) (Nat.le_of_ble_eq_true rfl) d_jdk_52_21_31 rfl fun T2 h2 X2 e2 W2 V2 => ?_
  replace V2 : Av Z h2 a3 .byte [(.int (nar .byte (c0.toInt8.toInt32))), (.int (nar .byte (c1.toInt8.toInt32))), (.int (0 : Int32))] := V2
  have N2 := Fr.snoc X2 N1 g_a3
  refine m_iinc K X2.here hx hby #[.val (.ref a1), .val (.int (2 : Int32)), .val (.ref a3), .val (.int (1 : Int32)), .val (.int (3 : Int32)), .val (.int (1 : Int32)), .val (.int c1)] d_jdk_52_21_32 rfl rfl rfl ?_
  refine m_iinc K X2.here hx hby #[.val (.ref a1), .val (.int (2 : Int32)), .val (.ref a3), .val (.int (2 : Int32)), .val (.int (3 : Int32)), .val (.int (1 : Int32)), .val (.int c1)] d_jdk_52_21_35 rfl rfl rfl ?_
  refine m_iinc K X2.here hx hby #[.val (.ref a1), .val (.int (2 : Int32)), .val (.ref a3), .val (.int (2 : Int32)), .val (.int (3 : Int32)), .val (.int (2 : Int32)), .val (.int c1)] d_jdk_52_21_38 rfl rfl rfl ?_
  refine m_goto K X2.here hx hby (q := 3) d_jdk_52_21_41 (by decide) rfl ?_
  refine m_iload K X2.here hx hby d_jdk_52_21_3 rfl rfl ?_
  refine m_iload K X2.here hx hby d_jdk_52_21_5 rfl rfl ?_
  refine m_icmpN K X2.here hx hby (q := 10) d_jdk_52_21_7 (tlt (by decide : (2 : Int32) < (3 : Int32))).2.1 rfl ?_
  refine m_aloadN K X2.here hx hby d_jdk_52_21_10 rfl rfl rfl ?_
  refine m_iloadN K X2.here hx hby d_jdk_52_21_11 rfl rfl ?_
  refine k_ldC K X2 hx hby hZ e2 ((A_a1.other W1 ne_a1_a3).other W2 ne_a1_a3) (v := (.int c2)) (by decide) rfl d_jdk_52_21_12 rfl ?_
  refine m_istore K X2.here hx hby #[.val (.ref a1), .val (.int (2 : Int32)), .val (.ref a3), .val (.int (2 : Int32)), .val (.int (3 : Int32)), .val (.int (2 : Int32)), .val (.int c2)] d_jdk_52_21_13 rfl rfl ?_
  refine m_iload K X2.here hx hby d_jdk_52_21_15 rfl rfl ?_
  refine m_sipush K X2.here hx hby (255 : Int32) d_jdk_52_21_17 rfl rfl ?_
  refine m_icmpN K X2.here hx hby (q := 23) d_jdk_52_21_20 (tlt hg).2.2.2 rfl ?_
  refine m_iload K X2.here hx hby d_jdk_52_21_23 rfl rfl ?_
  exact Go.retI X2 hx hby hlk hret d_jdk_52_21_25 (by decide) (by decide) (by rw [e2]; exact ⟨rfl, N2, (((Keep.refl h0 [a3]).wr W1 (Or.inl (by simp))).wr W2 (Or.inl (by simp))), V2⟩)
theorem efct3_2 (m : MethodId) (x0 : Addr) (x1 : Int32) (x2 : Int32) : entryFrame m #[(.ref x0), (.int x1), (.int x2)] 6 = mkF m 0 #[.val (.ref x0), .val (.int x1), .val (.int x2), .unset, .unset, .unset] [] := by first | (simp [entryFrame, mkF, argsToLocals, Value.category]; done) | rfl
set_option maxRecDepth 65536 in
set_option maxHeartbeats 40000000 in
theorem cct3_2 (l : Launch) (Z : State) (a0 : Array Value) (hw : ∀ d ∈ tables_1, d.before a0 Z = true) (a1 : Addr) (cz : Int32) (vf : Value) (c0 : Int32) (c1 : Int32) (c2 : Int32) (h0 : Heap) (n0 : Nat) (Z0 : n0 ≤ h0.size) (A_a1 : Av Z h0 a1 .char [(.int c0), (.int c1), (.int c2)]) (O0 : Old Z n0 h0) (SS : SSt Z cz vf) (hl_0 : ¬ ((255 : Int32) < c0)) (hl_1 : ¬ ((255 : Int32) < c1)) (hg : (255 : Int32) < c2) (hch_0 : nar .char c0 = c0) (hch_1 : nar .char c1 = c1) (hch_2 : nar .char c2 = c2) :
    Con l Z (⟨"java/lang/StringUTF16", "compress", "([CII)[B"⟩ : MethodName) jdk_52_method_16_code 6 (some (.array .byte)) ({ frames := 3, cells := 2, slots := 9, locals := 40 } : Room) [] #[(.ref a1), (.int (0 : Int32)), (.int (3 : Int32))] h0 (fun v h L => ∃ bv : Addr, v = some (.ref bv) ∧ Fr n0 L ∧ Keep h0 h [] ∧ h0.size ≤ bv ∧ Av Z h bv .byte [(.int (BLO c0)), (.int (BHI c0)), (.int (BLO c1)), (.int (BHI c1)), (.int (BLO c2)), (.int (BHI c2))]) := by
  refine Con.of (plainFor_of_name pn_java_lang_StringUTF16) #[.val (.ref a1), .val (.int (0 : Int32)), .val (.int (3 : Int32)), .unset, .unset, .unset] (fun m => efct3_2 m a1 (0 : Int32) (3 : Int32)) ?_
  intro p e s m below meth c s₁ K hx hby hml hown hnm hret hlk hZ X0 e0
  have N0 := Fr.nil n0
  refine m_iloadN K X0.here hx hby d_jdk_52_16_0 rfl rfl ?_
  refine k_newP K X0 hx hby hZ 3 3 (W hw 19 rfl) e0 d_jdk_52_16_1 rfl (by decide) rfl (by decide) (by decide) (by decide) (by decide) fun T1 h1 b1 X1 e1 E1 g1 V_b1 => ?_
  have sz_b1 : h0.size ≤ b1 := Nat.le_trans (Nat.le_refl _) (Nat.le_of_eq g1.symm)
  have g_b1 : n0 ≤ b1 := Nat.le_trans Z0 sz_b1
  replace V_b1 : Av Z h1 b1 .byte [(.int (0 : Int32)), (.int (0 : Int32)), (.int (0 : Int32))] := V_b1
  refine m_astoreN K X1.here hx hby #[.val (.ref a1), .val (.int (0 : Int32)), .val (.int (3 : Int32)), .val (.ref b1), .unset, .unset] d_jdk_52_16_3 rfl rfl rfl ?_
  refine m_aloadN K X1.here hx hby d_jdk_52_16_4 rfl rfl rfl ?_
  refine m_iloadN K X1.here hx hby d_jdk_52_16_5 rfl rfl ?_
  refine m_aloadN K X1.here hx hby d_jdk_52_16_6 rfl rfl rfl ?_
  refine m_iconst K X1.here hx hby (0 : Int32) d_jdk_52_16_7 rfl rfl ?_
  refine m_iloadN K X1.here hx hby d_jdk_52_16_8 rfl rfl ?_
  refine k_callS K X1 hx hby hZ [(.ref a1), (.int (0 : Int32)), (.ref b1), (.int (0 : Int32)), (.int (3 : Int32))] [] hown (W hw 45 rfl) (W hw 46 rfl) (W hw 43 rfl) (W hw 47 rfl) (ccf3_2 l Z a0 hw a1 b1 cz vf c0 c1 c2 h1 n0 (Nat.le_trans Z0 (Nat.le_trans (Nat.le_refl _) E1.1)) (A_a1.ext E1) V_b1 (O0.ext E1) g_b1 (Nat.ne_of_lt (Nat.lt_of_lt_of_le (Nat.lt_of_lt_of_le A_a1.lt (Nat.le_refl _)) (Nat.le_of_eq g1.symm))) SS hl_0 hl_1 hg hch_0 hch_1 hch_2) e1 rfl rfl pd_10 rfl d_jdk_52_16_9 (by rw [hml]; rfl) rfl (by decide) (by decide) (Nat.le_of_ble_eq_true rfl) (by decide) (by decide) fun v2 T2 L2 X2 q2 => ?_
  obtain ⟨rfl, Nq2, K2, Ap2_0⟩ := q2
  have N2 := Fr.app N0 Nq2
  refine k_some K (w := (.int (2 : Int32))) ?_
  refine m_istore K X2.here hx hby #[.val (.ref a1), .val (.int (0 : Int32)), .val (.int (3 : Int32)), .val (.ref b1), .val (.int (2 : Int32)), .unset] d_jdk_52_16_12 rfl rfl ?_
  refine m_iload K X2.here hx hby d_jdk_52_16_14 rfl rfl ?_
  refine m_iloadN K X2.here hx hby d_jdk_52_16_16 rfl rfl ?_
  refine m_icmpN K X2.here hx hby (q := 20) d_jdk_52_16_17 (feq (by decide : ¬ ((2 : Int32) = (3 : Int32)))).1 rfl ?_
  refine m_aloadN K X2.here hx hby d_jdk_52_16_20 rfl rfl rfl ?_
  refine m_iloadN K X2.here hx hby d_jdk_52_16_21 rfl rfl ?_
  refine m_iloadN K X2.here hx hby d_jdk_52_16_22 rfl rfl ?_
  refine k_callS K X2 hx hby hZ [(.ref a1), (.int (0 : Int32)), (.int (3 : Int32))] [] hown (W hw 74 rfl) (W hw 75 rfl) (W hw 43 rfl) (W hw 76 rfl) (ctb3 l Z a0 hw a1 cz vf c0 c1 c2 T2.heap n0 (Nat.le_trans Z0 (Nat.le_trans (Nat.le_trans (Nat.le_refl _) E1.1) K2.1)) ((A_a1.ext E1).keep K2 (ninS (Nat.ne_of_lt (Nat.lt_of_lt_of_le (Nat.lt_of_lt_of_le A_a1.lt (Nat.le_refl _)) (Nat.le_of_eq g1.symm))) nin0)) ((O0.ext E1).keep K2 (allS g_b1 all0)) SS) rfl rfl rfl pd_11 rfl d_jdk_52_16_23 (by rw [hml]; rfl) rfl (by decide) (by decide) (Nat.le_of_ble_eq_true rfl) (by decide) (by decide) fun v3 T3 L3 X3 q3 => ?_
  obtain ⟨b3_bv, rfl, Nq3, K3, sq_b3_bv, Ap3_0⟩ := q3
  have N3 := Fr.app N2 Nq3
  have sz_b3_bv : h0.size ≤ b3_bv := Nat.le_trans (Nat.le_trans (Nat.le_trans (Nat.le_refl _) E1.1) K2.1) sq_b3_bv
  have g_b3_bv : n0 ≤ b3_bv := Nat.le_trans Z0 sz_b3_bv
  refine k_some K (w := (.ref b3_bv)) ?_
  refine m_astore K X3.here hx hby #[.val (.ref a1), .val (.int (0 : Int32)), .val (.int (3 : Int32)), .val (.ref b1), .val (.int (2 : Int32)), .val (.ref b3_bv)] d_jdk_52_16_26 rfl rfl rfl ?_
  refine m_aload K X3.here hx hby d_jdk_52_16_28 rfl rfl rfl ?_
  refine m_iload K X3.here hx hby d_jdk_52_16_30 rfl rfl ?_
  refine k_callS K X3 hx hby hZ [(.ref b3_bv), (.int (2 : Int32))] [] hown (W hw 90 rfl) (W hw 91 rfl) (W hw 43 rfl) (W hw 92 rfl) (cgc3_2 l Z a0 hw b3_bv cz vf (BLO c0) (BHI c0) (BLO c1) (BHI c1) (BLO c2) (BHI c2) T3.heap n0 (Nat.le_trans Z0 (Nat.le_trans (Nat.le_trans (Nat.le_trans (Nat.le_refl _) E1.1) K2.1) K3.1)) Ap3_0 (((O0.ext E1).keep K2 (allS g_b1 all0)).keep K3 all0) SS) rfl rfl rfl pd_5 rfl d_jdk_52_16_32 (by rw [hml]; rfl) rfl (by decide) (by decide) (Nat.le_of_ble_eq_true rfl) (by decide) (by decide) fun v4 T4 L4 X4 q4 => ?_
  obtain ⟨rfl, e4, rfl⟩ := q4
  replace X4 := own_px X4
  refine k_some K (w := (.int (GCH (BLO c2) (BHI c2)))) ?_
  refine m_sipush K X4.here hx hby (255 : Int32) d_jdk_52_16_35 rfl rfl ?_
  refine m_icmpY K X4.here hx hby (q := 54) d_jdk_52_16_38 (tlt (own_rgt c2 hch_2 hg)).2.2.1 (by decide) rfl ?_
  refine m_aload K X4.here hx hby d_jdk_52_16_54 rfl rfl rfl ?_
  exact Go.retO X4 hx hby hlk hret rfl (Or.inr (Or.inr (Or.inr (Or.inr ⟨rfl, rfl, rfl⟩)))) d_jdk_52_16_56 (by decide) (by decide) (by rw [e4]; exact ⟨b3_bv, rfl, N3, ((((Keep.refl h0 []).ext E1).trans K2 (allS (Or.inr sz_b1) all0)).trans K3 all0), sz_b3_bv, Ap3_0⟩)
theorem efsi3_2 (m : MethodId) (x0 : Addr) (x1 : Addr) (x2 : Int32) (x3 : Int32) : entryFrame m #[(.ref x0), (.ref x1), (.int x2), (.int x3), .null] 6 = mkF m 0 #[.val (.ref x0), .val (.ref x1), .val (.int x2), .val (.int x3), .val .null, .unset] [] := by first | (simp [entryFrame, mkF, argsToLocals, Value.category]; done) | rfl
set_option maxRecDepth 65536 in
set_option maxHeartbeats 40000000 in
theorem csi3_2 (l : Launch) (Z : State) (a0 : Array Value) (hw : ∀ d ∈ tables_1, d.before a0 Z = true) (a1 : Addr) (a2 : Addr) (cz : Int32) (vf : Value) (c0 : Int32) (c1 : Int32) (c2 : Int32) (h0 : Heap) (n0 : Nat) (Z0 : n0 ≤ h0.size) (E_a1 : Exa Z h0 a1 "java/lang/String") (F_value_a1 : Fld Z h0 a1 "java/lang/String" "value" "[B" .null) (F_coder_a1 : Fld Z h0 a1 "java/lang/String" "coder" "B" (.int (0 : Int32))) (A_a2 : Av Z h0 a2 .char [(.int c0), (.int c1), (.int c2)]) (O0 : Old Z n0 h0) (g_a1 : n0 ≤ a1) (SS : SSt Z cz vf) (hl_0 : ¬ ((255 : Int32) < c0)) (hl_1 : ¬ ((255 : Int32) < c1)) (hg : (255 : Int32) < c2) (hch_0 : nar .char c0 = c0) (hch_1 : nar .char c1 = c1) (hch_2 : nar .char c2 = c2) :
    Con l Z (⟨"java/lang/String", "<init>", "([CIILjava/lang/Void;)V"⟩ : MethodName) jdk_42_method_149_code 6 none ({ frames := 4, cells := 2, slots := 9, locals := 57 } : Room) [] #[(.ref a1), (.ref a2), (.int (0 : Int32)), (.int (3 : Int32)), .null] h0 (fun v h L => ∃ bv : Addr, v = none ∧ Fr n0 L ∧ Keep h0 h [a1] ∧ h0.size ≤ bv ∧ Fld Z h a1 "java/lang/String" "value" "[B" (.ref bv) ∧ Fld Z h a1 "java/lang/String" "coder" "B" (.int (1 : Int32)) ∧ Av Z h bv .byte [(.int (BLO c0)), (.int (BHI c0)), (.int (BLO c1)), (.int (BHI c1)), (.int (BLO c2)), (.int (BHI c2))]) := by
  refine Con.of (plainFor_of_name pn_java_lang_String) #[.val (.ref a1), .val (.ref a2), .val (.int (0 : Int32)), .val (.int (3 : Int32)), .val .null, .unset] (fun m => efsi3_2 m a1 a2 (0 : Int32) (3 : Int32)) ?_
  intro p e s m below meth c s₁ K hx hby hml hown hnm hret hlk hZ X0 e0
  have N0 := Fr.nil n0
  refine m_aloadN K X0.here hx hby d_jdk_42_149_0 rfl rfl rfl ?_
  refine k_initO K X0 hx hby hZ hown (W hw 15 rfl) (W hw 16 rfl) (W hw 17 rfl) e0 d_jdk_42_149_1 (by rw [hml]; rfl) rfl (by decide) (Nat.le_of_ble_eq_true rfl) fun T1 X1 e1 => ?_
  refine m_iloadN K X1.here hx hby d_jdk_42_149_4 rfl rfl ?_
  refine m_ifY K X1.here hx hby (q := 27) d_jdk_42_149_5 ((if0 _ _).trans (feq (by decide : ¬ ((3 : Int32) = (0 : Int32)))).2) (by decide) rfl ?_
  refine k_getS K X1 hx hby hZ hown (host := "") (Or.inl (W hw 40 rfl)) Via.refl e1 (SS.cs.ext O0.2) d_jdk_42_149_27 rfl fun T2 X2 e2 => ?_
  refine m_ifN K X2.here hx hby (q := 33) d_jdk_42_149_30 ((if0 _ _).trans (feq SS.cz).1) rfl ?_
  refine m_aloadN K X2.here hx hby d_jdk_42_149_33 rfl rfl rfl ?_
  refine m_iloadN K X2.here hx hby d_jdk_42_149_34 rfl rfl ?_
  refine m_iloadN K X2.here hx hby d_jdk_42_149_35 rfl rfl ?_
  refine k_callS K X2 hx hby hZ [(.ref a2), (.int (0 : Int32)), (.int (3 : Int32))] [] hown (W hw 41 rfl) (W hw 42 rfl) (W hw 43 rfl) (W hw 44 rfl) (cct3_2 l Z a0 hw a2 cz vf c0 c1 c2 h0 n0 Z0 A_a2 O0 SS hl_0 hl_1 hg hch_0 hch_1 hch_2) e2 rfl rfl pd_11 rfl d_jdk_42_149_36 (by rw [hml]; rfl) rfl (by decide) (by decide) (Nat.le_of_ble_eq_true rfl) (by decide) (by decide) fun v3 T3 L3 X3 q3 => ?_
  obtain ⟨b3_bv, rfl, Nq3, K3, sq_b3_bv, Ap3_0⟩ := q3
  have N3 := Fr.app N0 Nq3
  have sz_b3_bv : h0.size ≤ b3_bv := Nat.le_trans (Nat.le_refl _) sq_b3_bv
  have g_b3_bv : n0 ≤ b3_bv := Nat.le_trans Z0 sz_b3_bv
  refine k_some K (w := (.ref b3_bv)) ?_
  refine m_astore K X3.here hx hby #[.val (.ref a1), .val (.ref a2), .val (.int (0 : Int32)), .val (.int (3 : Int32)), .val .null, .val (.ref b3_bv)] d_jdk_42_149_39 rfl rfl rfl ?_
  refine m_aloadN K X3.here hx hby d_jdk_42_149_41 rfl rfl rfl ?_
  refine m_aload K X3.here hx hby d_jdk_42_149_42 rfl rfl rfl ?_
  refine m_iloadN K X3.here hx hby d_jdk_42_149_44 rfl rfl ?_
  refine k_callS K X3 hx hby hZ [(.ref b3_bv), (.int (3 : Int32))] [(.ref a1)] hown (W hw 48 rfl) (W hw 49 rfl) (W hw 43 rfl) (W hw 50 rfl) (ccc3_6 l Z a0 hw b3_bv cz vf (BLO c0) (BHI c0) (BLO c1) (BHI c1) (BLO c2) (BHI c2) T3.heap n0 (Nat.le_trans Z0 (Nat.le_trans (Nat.le_refl _) K3.1)) Ap3_0 (O0.keep K3 all0) SS) rfl rfl rfl pd_12 rfl d_jdk_42_149_45 (by rw [hml]; rfl) rfl (by decide) (by decide) (Nat.le_of_ble_eq_true rfl) (by decide) (by decide) fun v4 T4 L4 X4 q4 => ?_
  obtain ⟨rfl, e4, rfl⟩ := q4
  replace X4 := own_px X4
  refine k_some K (w := (.int (1 : Int32))) ?_
  refine k_putF K X4 hx hby hZ hown (host := "") (Or.inl (W hw 25 rfl)) Via.refl e4 (F_coder_a1.keep K3 nin0) (E_a1.keep K3) (Or.inr ⟨(W hw 21 rfl), rfl, hnm⟩) (W hw 6 rfl) (ty := .byte) (by decide) (by decide) (by decide) d_jdk_42_149_48 rfl fun T5 h5 X5 e5 W5 => ?_
  have Fw5 := (F_coder_a1.keep K3 nin0).same W5
  have N5 := Fr.snoc X5 N3 g_a1
  refine m_aloadN K X5.here hx hby d_jdk_42_149_51 rfl rfl rfl ?_
  refine m_aload K X5.here hx hby d_jdk_42_149_52 rfl rfl rfl ?_
  refine k_putF K X5 hx hby hZ hown (host := "") (Or.inl (W hw 24 rfl)) Via.refl e5 ((F_value_a1.keep K3 nin0).other W5 (Or.inr (slot_ne (Or.inr (W hw 20 rfl)) (Or.inr (W hw 21 rfl)) (by decide) (t := (.array .byte)) (t' := .byte) (by decide) (by decide)))) ((E_a1.keep K3).wr W5) (Or.inr ⟨(W hw 20 rfl), rfl, hnm⟩) (W hw 6 rfl) (ty := (.array .byte)) (by decide) rfl rfl d_jdk_42_149_54 rfl fun T6 h6 X6 e6 W6 => ?_
  have Fw6 := ((F_value_a1.keep K3 nin0).other W5 (Or.inr (slot_ne (Or.inr (W hw 20 rfl)) (Or.inr (W hw 21 rfl)) (by decide) (t := (.array .byte)) (t' := .byte) (by decide) (by decide)))).same W6
  have N6 := Fr.snoc X6 N5 g_a1
  exact Go.retV X6 hx hby hlk hret d_jdk_42_149_57 (by decide) (by decide) (by rw [e6]; exact ⟨b3_bv, rfl, N6, ((((Keep.refl h0 [a1]).trans K3 all0).wr W5 (Or.inl (by simp))).wr W6 (Or.inl (by simp))), sz_b3_bv, Fw6, (Fw5.other W6 (Or.inr (slot_ne (Or.inr (W hw 21 rfl)) (Or.inr (W hw 20 rfl)) (by decide) (t := .byte) (t' := (.array .byte)) (by decide) (by decide)))), ((Ap3_0.other W5 (Ne.symm (Nat.ne_of_lt (Nat.lt_of_lt_of_le (Nat.lt_of_lt_of_le E_a1.lt (Nat.le_refl _)) sq_b3_bv)))).other W6 (Ne.symm (Nat.ne_of_lt (Nat.lt_of_lt_of_le (Nat.lt_of_lt_of_le E_a1.lt (Nat.le_refl _)) sq_b3_bv))))⟩)
theorem efsj3_2 (m : MethodId) (x0 : Addr) (x1 : Addr) : entryFrame m #[(.ref x0), (.ref x1)] 2 = mkF m 0 #[.val (.ref x0), .val (.ref x1)] [] := by first | (simp [entryFrame, mkF, argsToLocals, Value.category]; done) | rfl
set_option maxRecDepth 65536 in
set_option maxHeartbeats 40000000 in
theorem csj3_2 (l : Launch) (Z : State) (a0 : Array Value) (hw : ∀ d ∈ tables_1, d.before a0 Z = true) (a1 : Addr) (a2 : Addr) (cz : Int32) (vf : Value) (c0 : Int32) (c1 : Int32) (c2 : Int32) (h0 : Heap) (n0 : Nat) (Z0 : n0 ≤ h0.size) (E_a1 : Exa Z h0 a1 "java/lang/String") (F_value_a1 : Fld Z h0 a1 "java/lang/String" "value" "[B" .null) (F_coder_a1 : Fld Z h0 a1 "java/lang/String" "coder" "B" (.int (0 : Int32))) (A_a2 : Av Z h0 a2 .char [(.int c0), (.int c1), (.int c2)]) (O0 : Old Z n0 h0) (g_a1 : n0 ≤ a1) (SS : SSt Z cz vf) (hl_0 : ¬ ((255 : Int32) < c0)) (hl_1 : ¬ ((255 : Int32) < c1)) (hg : (255 : Int32) < c2) (hch_0 : nar .char c0 = c0) (hch_1 : nar .char c1 = c1) (hch_2 : nar .char c2 = c2) :
    Con l Z (⟨"java/lang/String", "<init>", "([C)V"⟩ : MethodName) jdk_42_method_3_code 2 none ({ frames := 5, cells := 2, slots := 9, locals := 74 } : Room) [] #[(.ref a1), (.ref a2)] h0 (fun v h L => ∃ bv : Addr, v = none ∧ Fr n0 L ∧ Keep h0 h [a1] ∧ h0.size ≤ bv ∧ Fld Z h a1 "java/lang/String" "value" "[B" (.ref bv) ∧ Fld Z h a1 "java/lang/String" "coder" "B" (.int (1 : Int32)) ∧ Av Z h bv .byte [(.int (BLO c0)), (.int (BHI c0)), (.int (BLO c1)), (.int (BHI c1)), (.int (BLO c2)), (.int (BHI c2))]) := by
  refine Con.of (plainFor_of_name pn_java_lang_String) #[.val (.ref a1), .val (.ref a2)] (fun m => efsj3_2 m a1 a2) ?_
  intro p e s m below meth c s₁ K hx hby hml hown hnm hret hlk hZ X0 e0
  have N0 := Fr.nil n0
  refine m_aloadN K X0.here hx hby d_jdk_42_3_0 rfl rfl rfl ?_
  refine m_aloadN K X0.here hx hby d_jdk_42_3_1 rfl rfl rfl ?_
  refine m_iconst K X0.here hx hby (0 : Int32) d_jdk_42_3_2 rfl rfl ?_
  refine m_aloadN K X0.here hx hby d_jdk_42_3_3 rfl rfl rfl ?_
  refine k_len K X0 hx hby hZ (3 : Int32) e0 A_a2 rfl d_jdk_42_3_4 rfl ?_
  refine m_null K X0.here hx hby d_jdk_42_3_5 rfl ?_
  refine k_callP K X0 hx hby hZ a1 [(.ref a2), (.int (0 : Int32)), (.int (3 : Int32)), .null] [] hown (W hw 11 rfl) (W hw 12 rfl) (W hw 7 rfl) (W hw 14 rfl) rfl (csi3_2 l Z a0 hw a1 a2 cz vf c0 c1 c2 h0 n0 Z0 E_a1 F_value_a1 F_coder_a1 A_a2 O0 g_a1 SS hl_0 hl_1 hg hch_0 hch_1 hch_2) e0 rfl rfl pd_13 rfl d_jdk_42_3_6 (by rw [hml]; rfl) rfl (by decide) (by decide) (Nat.le_of_ble_eq_true rfl) (by decide) (by decide) fun v1 T1 L1 X1 q1 => ?_
  obtain ⟨b1_bv, rfl, Nq1, K1, sq_b1_bv, Fp1_0, Fp1_1, Ap1_0⟩ := q1
  have N1 := Fr.app N0 Nq1
  have sz_b1_bv : h0.size ≤ b1_bv := Nat.le_trans (Nat.le_refl _) sq_b1_bv
  have g_b1_bv : n0 ≤ b1_bv := Nat.le_trans Z0 sz_b1_bv
  refine k_none K ?_
  exact Go.retV X1 hx hby hlk hret d_jdk_42_3_9 (by decide) (by decide) (⟨b1_bv, rfl, N1, ((Keep.refl h0 [a1]).trans K1 (allS (Or.inl (by simp)) all0)), sz_b1_bv, Fp1_0, Fp1_1, Ap1_0⟩)
theorem efcf3_3 (m : MethodId) (x0 : Addr) (x1 : Int32) (x2 : Addr) (x3 : Int32) (x4 : Int32) : entryFrame m #[(.ref x0), (.int x1), (.ref x2), (.int x3), (.int x4)] 7 = mkF m 0 #[.val (.ref x0), .val (.int x1), .val (.ref x2), .val (.int x3), .val (.int x4), .unset, .unset] [] := by first | (simp [entryFrame, mkF, argsToLocals, Value.category]; done) | rfl
set_option maxRecDepth 65536 in
set_option maxHeartbeats 40000000 in
theorem ccf3_3 (l : Launch) (Z : State) (a0 : Array Value) (hw : ∀ d ∈ tables_1, d.before a0 Z = true) (a1 : Addr) (a3 : Addr) (cz : Int32) (vf : Value) (c0 : Int32) (c1 : Int32) (c2 : Int32) (h0 : Heap) (n0 : Nat) (Z0 : n0 ≤ h0.size) (A_a1 : Av Z h0 a1 .char [(.int c0), (.int c1), (.int c2)]) (A_a3 : Av Z h0 a3 .byte [(.int (0 : Int32)), (.int (0 : Int32)), (.int (0 : Int32))]) (O0 : Old Z n0 h0) (g_a3 : n0 ≤ a3) (ne_a1_a3 : a1 ≠ a3) (SS : SSt Z cz vf) (hl_0 : ¬ ((255 : Int32) < c0)) (hl_1 : ¬ ((255 : Int32) < c1)) (hl_2 : ¬ ((255 : Int32) < c2)) :
    Con l Z (⟨"java/lang/StringUTF16", "compress", "([CI[BII)I"⟩ : MethodName) jdk_52_method_21_code 7 (some .int) ({ frames := 0, cells := 0, slots := 0, locals := 0 } : Room) [] #[(.ref a1), (.int (0 : Int32)), (.ref a3), (.int (0 : Int32)), (.int (3 : Int32))] h0 (fun v h L => v = some (.int (3 : Int32)) ∧ Fr n0 L ∧ Keep h0 h [a3] ∧ Av Z h a3 .byte [(.int (nar .byte (c0.toInt8.toInt32))), (.int (nar .byte (c1.toInt8.toInt32))), (.int (nar .byte (c2.toInt8.toInt32)))]) := by
  refine Con.of (plainFor_of_name pn_java_lang_StringUTF16) #[.val (.ref a1), .val (.int (0 : Int32)), .val (.ref a3), .val (.int (0 : Int32)), .val (.int (3 : Int32)), .unset, .unset] (fun m => efcf3_3 m a1 (0 : Int32) a3 (0 : Int32) (3 : Int32)) ?_
  intro p e s m below meth c s₁ K hx hby hml hown hnm hret hlk hZ X0 e0
  have N0 := Fr.nil n0
  refine m_iconst K X0.here hx hby (0 : Int32) d_jdk_52_21_0 rfl rfl ?_
  refine m_istore K X0.here hx hby #[.val (.ref a1), .val (.int (0 : Int32)), .val (.ref a3), .val (.int (0 : Int32)), .val (.int (3 : Int32)), .val (.int (0 : Int32)), .unset] d_jdk_52_21_1 rfl rfl ?_
  refine m_iload K X0.here hx hby d_jdk_52_21_3 rfl rfl ?_
  refine m_iload K X0.here hx hby d_jdk_52_21_5 rfl rfl ?_
  refine m_icmpN K X0.here hx hby (q := 10) d_jdk_52_21_7 (tlt (by decide : (0 : Int32) < (3 : Int32))).2.1 rfl ?_
  refine m_aloadN K X0.here hx hby d_jdk_52_21_10 rfl rfl rfl ?_
  refine m_iloadN K X0.here hx hby d_jdk_52_21_11 rfl rfl ?_
  refine k_ldC K X0 hx hby hZ e0 A_a1 (v := (.int c0)) (by decide) rfl d_jdk_52_21_12 rfl ?_
  refine m_istore K X0.here hx hby #[.val (.ref a1), .val (.int (0 : Int32)), .val (.ref a3), .val (.int (0 : Int32)), .val (.int (3 : Int32)), .val (.int (0 : Int32)), .val (.int c0)] d_jdk_52_21_13 rfl rfl ?_
  refine m_iload K X0.here hx hby d_jdk_52_21_15 rfl rfl ?_
  refine m_sipush K X0.here hx hby (255 : Int32) d_jdk_52_21_17 rfl rfl ?_
  refine m_icmpY K X0.here hx hby (q := 26) d_jdk_52_21_20 (flt hl_0).2.2.2 (by decide) rfl ?_
  refine m_aloadN K X0.here hx hby d_jdk_52_21_26 rfl rfl rfl ?_
  refine m_iloadN K X0.here hx hby d_jdk_52_21_27 rfl rfl ?_
  refine m_iload K X0.here hx hby d_jdk_52_21_28 rfl rfl ?_
  refine m_i2b K X0.here hx hby (c0.toInt8.toInt32) d_jdk_52_21_30 rfl rfl ?_
  refine k_stB K X0 hx hby hZ e0 A_a3 (by decide) (Nat.le_of_ble_eq_true rfl) d_jdk_52_21_31 rfl fun T1 h1 X1 e1 W1 V1 => ?_
  replace V1 : Av Z h1 a3 .byte [(.int (nar .byte (c0.toInt8.toInt32))), (.int (0 : Int32)), (.int (0 : Int32))] := V1
  have N1 := Fr.snoc X1 N0 g_a3
  refine m_iinc K X1.here hx hby #[.val (.ref a1), .val (.int (1 : Int32)), .val (.ref a3), .val (.int (0 : Int32)), .val (.int (3 : Int32)), .val (.int (0 : Int32)), .val (.int c0)] d_jdk_52_21_32 rfl rfl rfl ?_
  refine m_iinc K X1.here hx hby #[.val (.ref a1), .val (.int (1 : Int32)), .val (.ref a3), .val (.int (1 : Int32)), .val (.int (3 : Int32)), .val (.int (0 : Int32)), .val (.int c0)] d_jdk_52_21_35 rfl rfl rfl ?_
  refine m_iinc K X1.here hx hby #[.val (.ref a1), .val (.int (1 : Int32)), .val (.ref a3), .val (.int (1 : Int32)), .val (.int (3 : Int32)), .val (.int (1 : Int32)), .val (.int c0)] d_jdk_52_21_38 rfl rfl rfl ?_
  refine m_goto K X1.here hx hby (q := 3) d_jdk_52_21_41 (by decide) rfl ?_
  refine m_iload K X1.here hx hby d_jdk_52_21_3 rfl rfl ?_
  refine m_iload K X1.here hx hby d_jdk_52_21_5 rfl rfl ?_
  refine m_icmpN K X1.here hx hby (q := 10) d_jdk_52_21_7 (tlt (by decide : (1 : Int32) < (3 : Int32))).2.1 rfl ?_
  refine m_aloadN K X1.here hx hby d_jdk_52_21_10 rfl rfl rfl ?_
  refine m_iloadN K X1.here hx hby d_jdk_52_21_11 rfl rfl ?_
  refine k_ldC K X1 hx hby hZ e1 (A_a1.other W1 ne_a1_a3) (v := (.int c1)) (by decide) rfl d_jdk_52_21_12 rfl ?_
  refine m_istore K X1.here hx hby #[.val (.ref a1), .val (.int (1 : Int32)), .val (.ref a3), .val (.int (1 : Int32)), .val (.int (3 : Int32)), .val (.int (1 : Int32)), .val (.int c1)] d_jdk_52_21_13 rfl rfl ?_
  refine m_iload K X1.here hx hby d_jdk_52_21_15 rfl rfl ?_
  refine m_sipush K X1.here hx hby (255 : Int32) d_jdk_52_21_17 rfl rfl ?_
  refine m_icmpY K X1.here hx hby (q := 26) d_jdk_52_21_20 (flt hl_1).2.2.2 (by decide) rfl ?_
  refine m_aloadN K X1.here hx hby d_jdk_52_21_26 rfl rfl rfl ?_
  refine m_iloadN K X1.here hx hby d_jdk_52_21_27 rfl rfl ?_
  refine m_iload K X1.here hx hby d_jdk_52_21_28 rfl rfl ?_
  refine m_i2b K X1.here hx hby (c1.toInt8.toInt32) d_jdk_52_21_30 rfl rfl ?_
  refine k_stB K X1 hx hby hZ e1 V1 (by decide) (Nat.le_of_ble_eq_true rfl) d_jdk_52_21_31 rfl fun T2 h2 X2 e2 W2 V2 => ?_
  replace V2 : Av Z h2 a3 .byte [(.int (nar .byte (c0.toInt8.toInt32))), (.int (nar .byte (c1.toInt8.toInt32))), (.int (0 : Int32))] := V2
  have N2 := Fr.snoc X2 N1 g_a3
  refine m_iinc K X2.here hx hby #[.val (.ref a1), .val (.int (2 : Int32)), .val (.ref a3), .val (.int (1 : Int32)), .val (.int (3 : Int32)), .val (.int (1 : Int32)), .val (.int c1)] d_jdk_52_21_32 rfl rfl rfl ?_
  refine m_iinc K X2.here hx hby #[.val (.ref a1), .val (.int (2 : Int32)), .val (.ref a3), .val (.int (2 : Int32)), .val (.int (3 : Int32)), .val (.int (1 : Int32)), .val (.int c1)] d_jdk_52_21_35 rfl rfl rfl ?_
  refine m_iinc K X2.here hx hby #[.val (.ref a1), .val (.int (2 : Int32)), .val (.ref a3), .val (.int (2 : Int32)), .val (.int (3 : Int32)), .val (.int (2 : Int32)), .val (.int c1)] d_jdk_52_21_38 rfl rfl rfl ?_
  refine m_goto K X2.here hx hby (q := 3) d_jdk_52_21_41 (by decide) rfl ?_
  refine m_iload K X2.here hx hby d_jdk_52_21_3 rfl rfl ?_
  refine m_iload K X2.here hx hby d_jdk_52_21_5 rfl rfl ?_
  refine m_icmpN K X2.here hx hby (q := 10) d_jdk_52_21_7 (tlt (by decide : (2 : Int32) < (3 : Int32))).2.1 rfl ?_
  refine m_aloadN K X2.here hx hby d_jdk_52_21_10 rfl rfl rfl ?_
  refine m_iloadN K X2.here hx hby d_jdk_52_21_11 rfl rfl ?_
  refine k_ldC K X2 hx hby hZ e2 ((A_a1.other W1 ne_a1_a3).other W2 ne_a1_a3) (v := (.int c2)) (by decide) rfl d_jdk_52_21_12 rfl ?_
  refine m_istore K X2.here hx hby #[.val (.ref a1), .val (.int (2 : Int32)), .val (.ref a3), .val (.int (2 : Int32)), .val (.int (3 : Int32)), .val (.int (2 : Int32)), .val (.int c2)] d_jdk_52_21_13 rfl rfl ?_
  refine m_iload K X2.here hx hby d_jdk_52_21_15 rfl rfl ?_
  refine m_sipush K X2.here hx hby (255 : Int32) d_jdk_52_21_17 rfl rfl ?_
  refine m_icmpY K X2.here hx hby (q := 26) d_jdk_52_21_20 (flt hl_2).2.2.2 (by decide) rfl ?_
  refine m_aloadN K X2.here hx hby d_jdk_52_21_26 rfl rfl rfl ?_
  refine m_iloadN K X2.here hx hby d_jdk_52_21_27 rfl rfl ?_
  refine m_iload K X2.here hx hby d_jdk_52_21_28 rfl rfl ?_
  refine m_i2b K X2.here hx hby (c2.toInt8.toInt32) d_jdk_52_21_30 rfl rfl ?_
  refine k_stB K X2 hx hby hZ e2 V2 (by decide) (Nat.le_of_ble_eq_true rfl) d_jdk_52_21_31 rfl fun T3 h3 X3 e3 W3 V3 => ?_
  replace V3 : Av Z h3 a3 .byte [(.int (nar .byte (c0.toInt8.toInt32))), (.int (nar .byte (c1.toInt8.toInt32))), (.int (nar .byte (c2.toInt8.toInt32)))] := V3
  have N3 := Fr.snoc X3 N2 g_a3
  refine m_iinc K X3.here hx hby #[.val (.ref a1), .val (.int (3 : Int32)), .val (.ref a3), .val (.int (2 : Int32)), .val (.int (3 : Int32)), .val (.int (2 : Int32)), .val (.int c2)] d_jdk_52_21_32 rfl rfl rfl ?_
  refine m_iinc K X3.here hx hby #[.val (.ref a1), .val (.int (3 : Int32)), .val (.ref a3), .val (.int (3 : Int32)), .val (.int (3 : Int32)), .val (.int (2 : Int32)), .val (.int c2)] d_jdk_52_21_35 rfl rfl rfl ?_
  refine m_iinc K X3.here hx hby #[.val (.ref a1), .val (.int (3 : Int32)), .val (.ref a3), .val (.int (3 : Int32)), .val (.int (3 : Int32)), .val (.int (3 : Int32)), .val (.int c2)] d_jdk_52_21_38 rfl rfl rfl ?_
  refine m_goto K X3.here hx hby (q := 3) d_jdk_52_21_41 (by decide) rfl ?_
  refine m_iload K X3.here hx hby d_jdk_52_21_3 rfl rfl ?_
  refine m_iload K X3.here hx hby d_jdk_52_21_5 rfl rfl ?_
  refine m_icmpY K X3.here hx hby (q := 44) d_jdk_52_21_7 (flt (by decide : ¬ ((3 : Int32) < (3 : Int32)))).2.1 (by decide) rfl ?_
  refine m_iload K X3.here hx hby d_jdk_52_21_44 rfl rfl ?_
  exact Go.retI X3 hx hby hlk hret d_jdk_52_21_46 (by decide) (by decide) (by rw [e3]; exact ⟨rfl, N3, ((((Keep.refl h0 [a3]).wr W1 (Or.inl (by simp))).wr W2 (Or.inl (by simp))).wr W3 (Or.inl (by simp))), V3⟩)
theorem efct3_3 (m : MethodId) (x0 : Addr) (x1 : Int32) (x2 : Int32) : entryFrame m #[(.ref x0), (.int x1), (.int x2)] 6 = mkF m 0 #[.val (.ref x0), .val (.int x1), .val (.int x2), .unset, .unset, .unset] [] := by first | (simp [entryFrame, mkF, argsToLocals, Value.category]; done) | rfl
set_option maxRecDepth 65536 in
set_option maxHeartbeats 40000000 in
theorem cct3_3 (l : Launch) (Z : State) (a0 : Array Value) (hw : ∀ d ∈ tables_1, d.before a0 Z = true) (a1 : Addr) (cz : Int32) (vf : Value) (c0 : Int32) (c1 : Int32) (c2 : Int32) (h0 : Heap) (n0 : Nat) (Z0 : n0 ≤ h0.size) (A_a1 : Av Z h0 a1 .char [(.int c0), (.int c1), (.int c2)]) (O0 : Old Z n0 h0) (SS : SSt Z cz vf) (hl_0 : ¬ ((255 : Int32) < c0)) (hl_1 : ¬ ((255 : Int32) < c1)) (hl_2 : ¬ ((255 : Int32) < c2)) :
    Con l Z (⟨"java/lang/StringUTF16", "compress", "([CII)[B"⟩ : MethodName) jdk_52_method_16_code 6 (some (.array .byte)) ({ frames := 1, cells := 1, slots := 3, locals := 18 } : Room) [] #[(.ref a1), (.int (0 : Int32)), (.int (3 : Int32))] h0 (fun v h L => ∃ bv : Addr, v = some (.ref bv) ∧ Fr n0 L ∧ Keep h0 h [] ∧ h0.size ≤ bv ∧ Av Z h bv .byte [(.int (nar .byte (c0.toInt8.toInt32))), (.int (nar .byte (c1.toInt8.toInt32))), (.int (nar .byte (c2.toInt8.toInt32)))]) := by
  refine Con.of (plainFor_of_name pn_java_lang_StringUTF16) #[.val (.ref a1), .val (.int (0 : Int32)), .val (.int (3 : Int32)), .unset, .unset, .unset] (fun m => efct3_3 m a1 (0 : Int32) (3 : Int32)) ?_
  intro p e s m below meth c s₁ K hx hby hml hown hnm hret hlk hZ X0 e0
  have N0 := Fr.nil n0
  refine m_iloadN K X0.here hx hby d_jdk_52_16_0 rfl rfl ?_
  refine k_newP K X0 hx hby hZ 3 3 (W hw 19 rfl) e0 d_jdk_52_16_1 rfl (by decide) rfl (by decide) (by decide) (by decide) (by decide) fun T1 h1 b1 X1 e1 E1 g1 V_b1 => ?_
  have sz_b1 : h0.size ≤ b1 := Nat.le_trans (Nat.le_refl _) (Nat.le_of_eq g1.symm)
  have g_b1 : n0 ≤ b1 := Nat.le_trans Z0 sz_b1
  replace V_b1 : Av Z h1 b1 .byte [(.int (0 : Int32)), (.int (0 : Int32)), (.int (0 : Int32))] := V_b1
  refine m_astoreN K X1.here hx hby #[.val (.ref a1), .val (.int (0 : Int32)), .val (.int (3 : Int32)), .val (.ref b1), .unset, .unset] d_jdk_52_16_3 rfl rfl rfl ?_
  refine m_aloadN K X1.here hx hby d_jdk_52_16_4 rfl rfl rfl ?_
  refine m_iloadN K X1.here hx hby d_jdk_52_16_5 rfl rfl ?_
  refine m_aloadN K X1.here hx hby d_jdk_52_16_6 rfl rfl rfl ?_
  refine m_iconst K X1.here hx hby (0 : Int32) d_jdk_52_16_7 rfl rfl ?_
  refine m_iloadN K X1.here hx hby d_jdk_52_16_8 rfl rfl ?_
  refine k_callS K X1 hx hby hZ [(.ref a1), (.int (0 : Int32)), (.ref b1), (.int (0 : Int32)), (.int (3 : Int32))] [] hown (W hw 45 rfl) (W hw 46 rfl) (W hw 43 rfl) (W hw 47 rfl) (ccf3_3 l Z a0 hw a1 b1 cz vf c0 c1 c2 h1 n0 (Nat.le_trans Z0 (Nat.le_trans (Nat.le_refl _) E1.1)) (A_a1.ext E1) V_b1 (O0.ext E1) g_b1 (Nat.ne_of_lt (Nat.lt_of_lt_of_le (Nat.lt_of_lt_of_le A_a1.lt (Nat.le_refl _)) (Nat.le_of_eq g1.symm))) SS hl_0 hl_1 hl_2) e1 rfl rfl pd_10 rfl d_jdk_52_16_9 (by rw [hml]; rfl) rfl (by decide) (by decide) (Nat.le_of_ble_eq_true rfl) (by decide) (by decide) fun v2 T2 L2 X2 q2 => ?_
  obtain ⟨rfl, Nq2, K2, Ap2_0⟩ := q2
  have N2 := Fr.app N0 Nq2
  refine k_some K (w := (.int (3 : Int32))) ?_
  refine m_istore K X2.here hx hby #[.val (.ref a1), .val (.int (0 : Int32)), .val (.int (3 : Int32)), .val (.ref b1), .val (.int (3 : Int32)), .unset] d_jdk_52_16_12 rfl rfl ?_
  refine m_iload K X2.here hx hby d_jdk_52_16_14 rfl rfl ?_
  refine m_iloadN K X2.here hx hby d_jdk_52_16_16 rfl rfl ?_
  refine m_icmpY K X2.here hx hby (q := 57) d_jdk_52_16_17 (teq (by decide : (3 : Int32) = (3 : Int32))).1 (by decide) rfl ?_
  refine m_aloadN K X2.here hx hby d_jdk_52_16_57 rfl rfl rfl ?_
  exact Go.retO X2 hx hby hlk hret rfl (Or.inr (Or.inr (Or.inr (Or.inr ⟨rfl, rfl, rfl⟩)))) d_jdk_52_16_58 (by decide) (by decide) (⟨b1, rfl, N2, (((Keep.refl h0 []).ext E1).trans K2 (allS (Or.inr sz_b1) all0)), sz_b1, Ap2_0⟩)
theorem efcc3_3 (m : MethodId) (x0 : Addr) (x1 : Int32) : entryFrame m #[(.ref x0), (.int x1)] 2 = mkF m 0 #[.val (.ref x0), .val (.int x1)] [] := by first | (simp [entryFrame, mkF, argsToLocals, Value.category]; done) | rfl
set_option maxRecDepth 65536 in
set_option maxHeartbeats 40000000 in
theorem ccc3_3 (l : Launch) (Z : State) (a0 : Array Value) (hw : ∀ d ∈ tables_1, d.before a0 Z = true) (a1 : Addr) (cz : Int32) (vf : Value) (y0 : Int32) (y1 : Int32) (y2 : Int32) (h0 : Heap) (n0 : Nat) (Z0 : n0 ≤ h0.size) (A_a1 : Av Z h0 a1 .byte [(.int y0), (.int y1), (.int y2)]) (O0 : Old Z n0 h0) (SS : SSt Z cz vf) :
    Con l Z (⟨"java/lang/StringUTF16", "coderFromArrayLen", "([BI)B"⟩ : MethodName) jdk_52_method_15_code 2 (some .byte) ({ frames := 0, cells := 0, slots := 0, locals := 0 } : Room) [] #[(.ref a1), (.int (3 : Int32))] h0 (fun v h L => v = some (.int (0 : Int32)) ∧ h = h0 ∧ L = []) := by
  refine Con.of (plainFor_of_name pn_java_lang_StringUTF16) #[.val (.ref a1), .val (.int (3 : Int32))] (fun m => efcc3_3 m a1 (3 : Int32)) ?_
  intro p e s m below meth c s₁ K hx hby hml hown hnm hret hlk hZ X0 e0
  have N0 := Fr.nil n0
  refine m_iloadN K X0.here hx hby d_jdk_52_15_0 rfl rfl ?_
  refine m_aloadN K X0.here hx hby d_jdk_52_15_1 rfl rfl rfl ?_
  refine k_len K X0 hx hby hZ (3 : Int32) e0 A_a1 rfl d_jdk_52_15_2 rfl ?_
  refine m_isub K X0.here hx hby (0 : Int32) d_jdk_52_15_3 rfl rfl ?_
  refine m_bipush K X0.here hx hby (31 : Int32) d_jdk_52_15_4 rfl rfl ?_
  refine m_iushr K X0.here hx hby (0 : Int32) d_jdk_52_15_6 rfl rfl ?_
  refine m_i2b K X0.here hx hby (0 : Int32) d_jdk_52_15_7 rfl rfl ?_
  exact Go.retN X0 hx hby hlk hret (by simp) d_jdk_52_15_8 (by decide) (by decide) (by decide) (⟨rfl, e0, rfl⟩)
theorem efsi3_3 (m : MethodId) (x0 : Addr) (x1 : Addr) (x2 : Int32) (x3 : Int32) : entryFrame m #[(.ref x0), (.ref x1), (.int x2), (.int x3), .null] 6 = mkF m 0 #[.val (.ref x0), .val (.ref x1), .val (.int x2), .val (.int x3), .val .null, .unset] [] := by first | (simp [entryFrame, mkF, argsToLocals, Value.category]; done) | rfl
set_option maxRecDepth 65536 in
set_option maxHeartbeats 40000000 in
theorem csi3_3 (l : Launch) (Z : State) (a0 : Array Value) (hw : ∀ d ∈ tables_1, d.before a0 Z = true) (a1 : Addr) (a2 : Addr) (cz : Int32) (vf : Value) (c0 : Int32) (c1 : Int32) (c2 : Int32) (h0 : Heap) (n0 : Nat) (Z0 : n0 ≤ h0.size) (E_a1 : Exa Z h0 a1 "java/lang/String") (F_value_a1 : Fld Z h0 a1 "java/lang/String" "value" "[B" .null) (F_coder_a1 : Fld Z h0 a1 "java/lang/String" "coder" "B" (.int (0 : Int32))) (A_a2 : Av Z h0 a2 .char [(.int c0), (.int c1), (.int c2)]) (O0 : Old Z n0 h0) (g_a1 : n0 ≤ a1) (SS : SSt Z cz vf) (hl_0 : ¬ ((255 : Int32) < c0)) (hl_1 : ¬ ((255 : Int32) < c1)) (hl_2 : ¬ ((255 : Int32) < c2)) :
    Con l Z (⟨"java/lang/String", "<init>", "([CIILjava/lang/Void;)V"⟩ : MethodName) jdk_42_method_149_code 6 none ({ frames := 2, cells := 1, slots := 3, locals := 35 } : Room) [] #[(.ref a1), (.ref a2), (.int (0 : Int32)), (.int (3 : Int32)), .null] h0 (fun v h L => ∃ bv : Addr, v = none ∧ Fr n0 L ∧ Keep h0 h [a1] ∧ h0.size ≤ bv ∧ Fld Z h a1 "java/lang/String" "value" "[B" (.ref bv) ∧ Fld Z h a1 "java/lang/String" "coder" "B" (.int (0 : Int32)) ∧ Av Z h bv .byte [(.int (nar .byte (c0.toInt8.toInt32))), (.int (nar .byte (c1.toInt8.toInt32))), (.int (nar .byte (c2.toInt8.toInt32)))]) := by
  refine Con.of (plainFor_of_name pn_java_lang_String) #[.val (.ref a1), .val (.ref a2), .val (.int (0 : Int32)), .val (.int (3 : Int32)), .val .null, .unset] (fun m => efsi3_3 m a1 a2 (0 : Int32) (3 : Int32)) ?_
  intro p e s m below meth c s₁ K hx hby hml hown hnm hret hlk hZ X0 e0
  have N0 := Fr.nil n0
  refine m_aloadN K X0.here hx hby d_jdk_42_149_0 rfl rfl rfl ?_
  refine k_initO K X0 hx hby hZ hown (W hw 15 rfl) (W hw 16 rfl) (W hw 17 rfl) e0 d_jdk_42_149_1 (by rw [hml]; rfl) rfl (by decide) (Nat.le_of_ble_eq_true rfl) fun T1 X1 e1 => ?_
  refine m_iloadN K X1.here hx hby d_jdk_42_149_4 rfl rfl ?_
  refine m_ifY K X1.here hx hby (q := 27) d_jdk_42_149_5 ((if0 _ _).trans (feq (by decide : ¬ ((3 : Int32) = (0 : Int32)))).2) (by decide) rfl ?_
  refine k_getS K X1 hx hby hZ hown (host := "") (Or.inl (W hw 40 rfl)) Via.refl e1 (SS.cs.ext O0.2) d_jdk_42_149_27 rfl fun T2 X2 e2 => ?_
  refine m_ifN K X2.here hx hby (q := 33) d_jdk_42_149_30 ((if0 _ _).trans (feq SS.cz).1) rfl ?_
  refine m_aloadN K X2.here hx hby d_jdk_42_149_33 rfl rfl rfl ?_
  refine m_iloadN K X2.here hx hby d_jdk_42_149_34 rfl rfl ?_
  refine m_iloadN K X2.here hx hby d_jdk_42_149_35 rfl rfl ?_
  refine k_callS K X2 hx hby hZ [(.ref a2), (.int (0 : Int32)), (.int (3 : Int32))] [] hown (W hw 41 rfl) (W hw 42 rfl) (W hw 43 rfl) (W hw 44 rfl) (cct3_3 l Z a0 hw a2 cz vf c0 c1 c2 h0 n0 Z0 A_a2 O0 SS hl_0 hl_1 hl_2) e2 rfl rfl pd_11 rfl d_jdk_42_149_36 (by rw [hml]; rfl) rfl (by decide) (by decide) (Nat.le_of_ble_eq_true rfl) (by decide) (by decide) fun v3 T3 L3 X3 q3 => ?_
  obtain ⟨b3_bv, rfl, Nq3, K3, sq_b3_bv, Ap3_0⟩ := q3
  have N3 := Fr.app N0 Nq3
  have sz_b3_bv : h0.size ≤ b3_bv := Nat.le_trans (Nat.le_refl _) sq_b3_bv
  have g_b3_bv : n0 ≤ b3_bv := Nat.le_trans Z0 sz_b3_bv
  refine k_some K (w := (.ref b3_bv)) ?_
  refine m_astore K X3.here hx hby #[.val (.ref a1), .val (.ref a2), .val (.int (0 : Int32)), .val (.int (3 : Int32)), .val .null, .val (.ref b3_bv)] d_jdk_42_149_39 rfl rfl rfl ?_
  refine m_aloadN K X3.here hx hby d_jdk_42_149_41 rfl rfl rfl ?_
  refine m_aload K X3.here hx hby d_jdk_42_149_42 rfl rfl rfl ?_
  refine m_iloadN K X3.here hx hby d_jdk_42_149_44 rfl rfl ?_
  refine k_callS K X3 hx hby hZ [(.ref b3_bv), (.int (3 : Int32))] [(.ref a1)] hown (W hw 48 rfl) (W hw 49 rfl) (W hw 43 rfl) (W hw 50 rfl) (ccc3_3 l Z a0 hw b3_bv cz vf (nar .byte (c0.toInt8.toInt32)) (nar .byte (c1.toInt8.toInt32)) (nar .byte (c2.toInt8.toInt32)) T3.heap n0 (Nat.le_trans Z0 (Nat.le_trans (Nat.le_refl _) K3.1)) Ap3_0 (O0.keep K3 all0) SS) rfl rfl rfl pd_12 rfl d_jdk_42_149_45 (by rw [hml]; rfl) rfl (by decide) (by decide) (Nat.le_of_ble_eq_true rfl) (by decide) (by decide) fun v4 T4 L4 X4 q4 => ?_
  obtain ⟨rfl, e4, rfl⟩ := q4
  replace X4 := own_px X4
  refine k_some K (w := (.int (0 : Int32))) ?_
  refine k_putF K X4 hx hby hZ hown (host := "") (Or.inl (W hw 25 rfl)) Via.refl e4 (F_coder_a1.keep K3 nin0) (E_a1.keep K3) (Or.inr ⟨(W hw 21 rfl), rfl, hnm⟩) (W hw 6 rfl) (ty := .byte) (by decide) (by decide) (by decide) d_jdk_42_149_48 rfl fun T5 h5 X5 e5 W5 => ?_
  have Fw5 := (F_coder_a1.keep K3 nin0).same W5
  have N5 := Fr.snoc X5 N3 g_a1
  refine m_aloadN K X5.here hx hby d_jdk_42_149_51 rfl rfl rfl ?_
  refine m_aload K X5.here hx hby d_jdk_42_149_52 rfl rfl rfl ?_
  refine k_putF K X5 hx hby hZ hown (host := "") (Or.inl (W hw 24 rfl)) Via.refl e5 ((F_value_a1.keep K3 nin0).other W5 (Or.inr (slot_ne (Or.inr (W hw 20 rfl)) (Or.inr (W hw 21 rfl)) (by decide) (t := (.array .byte)) (t' := .byte) (by decide) (by decide)))) ((E_a1.keep K3).wr W5) (Or.inr ⟨(W hw 20 rfl), rfl, hnm⟩) (W hw 6 rfl) (ty := (.array .byte)) (by decide) rfl rfl d_jdk_42_149_54 rfl fun T6 h6 X6 e6 W6 => ?_
  have Fw6 := ((F_value_a1.keep K3 nin0).other W5 (Or.inr (slot_ne (Or.inr (W hw 20 rfl)) (Or.inr (W hw 21 rfl)) (by decide) (t := (.array .byte)) (t' := .byte) (by decide) (by decide)))).same W6
  have N6 := Fr.snoc X6 N5 g_a1
  exact Go.retV X6 hx hby hlk hret d_jdk_42_149_57 (by decide) (by decide) (by rw [e6]; exact ⟨b3_bv, rfl, N6, ((((Keep.refl h0 [a1]).trans K3 all0).wr W5 (Or.inl (by simp))).wr W6 (Or.inl (by simp))), sz_b3_bv, Fw6, (Fw5.other W6 (Or.inr (slot_ne (Or.inr (W hw 21 rfl)) (Or.inr (W hw 20 rfl)) (by decide) (t := .byte) (t' := (.array .byte)) (by decide) (by decide)))), ((Ap3_0.other W5 (Ne.symm (Nat.ne_of_lt (Nat.lt_of_lt_of_le (Nat.lt_of_lt_of_le E_a1.lt (Nat.le_refl _)) sq_b3_bv)))).other W6 (Ne.symm (Nat.ne_of_lt (Nat.lt_of_lt_of_le (Nat.lt_of_lt_of_le E_a1.lt (Nat.le_refl _)) sq_b3_bv))))⟩)
theorem efsj3_3 (m : MethodId) (x0 : Addr) (x1 : Addr) : entryFrame m #[(.ref x0), (.ref x1)] 2 = mkF m 0 #[.val (.ref x0), .val (.ref x1)] [] := by first | (simp [entryFrame, mkF, argsToLocals, Value.category]; done) | rfl
set_option maxRecDepth 65536 in
set_option maxHeartbeats 40000000 in
theorem csj3_3 (l : Launch) (Z : State) (a0 : Array Value) (hw : ∀ d ∈ tables_1, d.before a0 Z = true) (a1 : Addr) (a2 : Addr) (cz : Int32) (vf : Value) (c0 : Int32) (c1 : Int32) (c2 : Int32) (h0 : Heap) (n0 : Nat) (Z0 : n0 ≤ h0.size) (E_a1 : Exa Z h0 a1 "java/lang/String") (F_value_a1 : Fld Z h0 a1 "java/lang/String" "value" "[B" .null) (F_coder_a1 : Fld Z h0 a1 "java/lang/String" "coder" "B" (.int (0 : Int32))) (A_a2 : Av Z h0 a2 .char [(.int c0), (.int c1), (.int c2)]) (O0 : Old Z n0 h0) (g_a1 : n0 ≤ a1) (SS : SSt Z cz vf) (hl_0 : ¬ ((255 : Int32) < c0)) (hl_1 : ¬ ((255 : Int32) < c1)) (hl_2 : ¬ ((255 : Int32) < c2)) :
    Con l Z (⟨"java/lang/String", "<init>", "([C)V"⟩ : MethodName) jdk_42_method_3_code 2 none ({ frames := 3, cells := 1, slots := 3, locals := 52 } : Room) [] #[(.ref a1), (.ref a2)] h0 (fun v h L => ∃ bv : Addr, v = none ∧ Fr n0 L ∧ Keep h0 h [a1] ∧ h0.size ≤ bv ∧ Fld Z h a1 "java/lang/String" "value" "[B" (.ref bv) ∧ Fld Z h a1 "java/lang/String" "coder" "B" (.int (0 : Int32)) ∧ Av Z h bv .byte [(.int (nar .byte (c0.toInt8.toInt32))), (.int (nar .byte (c1.toInt8.toInt32))), (.int (nar .byte (c2.toInt8.toInt32)))]) := by
  refine Con.of (plainFor_of_name pn_java_lang_String) #[.val (.ref a1), .val (.ref a2)] (fun m => efsj3_3 m a1 a2) ?_
  intro p e s m below meth c s₁ K hx hby hml hown hnm hret hlk hZ X0 e0
  have N0 := Fr.nil n0
  refine m_aloadN K X0.here hx hby d_jdk_42_3_0 rfl rfl rfl ?_
  refine m_aloadN K X0.here hx hby d_jdk_42_3_1 rfl rfl rfl ?_
  refine m_iconst K X0.here hx hby (0 : Int32) d_jdk_42_3_2 rfl rfl ?_
  refine m_aloadN K X0.here hx hby d_jdk_42_3_3 rfl rfl rfl ?_
  refine k_len K X0 hx hby hZ (3 : Int32) e0 A_a2 rfl d_jdk_42_3_4 rfl ?_
  refine m_null K X0.here hx hby d_jdk_42_3_5 rfl ?_
  refine k_callP K X0 hx hby hZ a1 [(.ref a2), (.int (0 : Int32)), (.int (3 : Int32)), .null] [] hown (W hw 11 rfl) (W hw 12 rfl) (W hw 7 rfl) (W hw 14 rfl) rfl (csi3_3 l Z a0 hw a1 a2 cz vf c0 c1 c2 h0 n0 Z0 E_a1 F_value_a1 F_coder_a1 A_a2 O0 g_a1 SS hl_0 hl_1 hl_2) e0 rfl rfl pd_13 rfl d_jdk_42_3_6 (by rw [hml]; rfl) rfl (by decide) (by decide) (Nat.le_of_ble_eq_true rfl) (by decide) (by decide) fun v1 T1 L1 X1 q1 => ?_
  obtain ⟨b1_bv, rfl, Nq1, K1, sq_b1_bv, Fp1_0, Fp1_1, Ap1_0⟩ := q1
  have N1 := Fr.app N0 Nq1
  have sz_b1_bv : h0.size ≤ b1_bv := Nat.le_trans (Nat.le_refl _) sq_b1_bv
  have g_b1_bv : n0 ≤ b1_bv := Nat.le_trans Z0 sz_b1_bv
  refine k_none K ?_
  exact Go.retV X1 hx hby hlk hret d_jdk_42_3_9 (by decide) (by decide) (⟨b1_bv, rfl, N1, ((Keep.refl h0 [a1]).trans K1 (allS (Or.inl (by simp)) all0)), sz_b1_bv, Fp1_0, Fp1_1, Ap1_0⟩)
theorem efcf4_0 (m : MethodId) (x0 : Addr) (x1 : Int32) (x2 : Addr) (x3 : Int32) (x4 : Int32) : entryFrame m #[(.ref x0), (.int x1), (.ref x2), (.int x3), (.int x4)] 7 = mkF m 0 #[.val (.ref x0), .val (.int x1), .val (.ref x2), .val (.int x3), .val (.int x4), .unset, .unset] [] := by first | (simp [entryFrame, mkF, argsToLocals, Value.category]; done) | rfl
set_option maxRecDepth 65536 in
set_option maxHeartbeats 40000000 in
theorem ccf4_0 (l : Launch) (Z : State) (a0 : Array Value) (hw : ∀ d ∈ tables_1, d.before a0 Z = true) (a1 : Addr) (a3 : Addr) (cz : Int32) (vf : Value) (c0 : Int32) (c1 : Int32) (c2 : Int32) (c3 : Int32) (h0 : Heap) (n0 : Nat) (Z0 : n0 ≤ h0.size) (A_a1 : Av Z h0 a1 .char [(.int c0), (.int c1), (.int c2), (.int c3)]) (A_a3 : Av Z h0 a3 .byte [(.int (0 : Int32)), (.int (0 : Int32)), (.int (0 : Int32)), (.int (0 : Int32))]) (O0 : Old Z n0 h0) (g_a3 : n0 ≤ a3) (ne_a1_a3 : a1 ≠ a3) (SS : SSt Z cz vf) (hg : (255 : Int32) < c0) (hch_0 : nar .char c0 = c0) (hch_1 : nar .char c1 = c1) (hch_2 : nar .char c2 = c2) (hch_3 : nar .char c3 = c3) :
    Con l Z (⟨"java/lang/StringUTF16", "compress", "([CI[BII)I"⟩ : MethodName) jdk_52_method_21_code 7 (some .int) ({ frames := 0, cells := 0, slots := 0, locals := 0 } : Room) [] #[(.ref a1), (.int (0 : Int32)), (.ref a3), (.int (0 : Int32)), (.int (4 : Int32))] h0 (fun v h L => v = some (.int (0 : Int32)) ∧ Fr n0 L ∧ Keep h0 h [a3] ∧ Av Z h a3 .byte [(.int (0 : Int32)), (.int (0 : Int32)), (.int (0 : Int32)), (.int (0 : Int32))]) := by
  refine Con.of (plainFor_of_name pn_java_lang_StringUTF16) #[.val (.ref a1), .val (.int (0 : Int32)), .val (.ref a3), .val (.int (0 : Int32)), .val (.int (4 : Int32)), .unset, .unset] (fun m => efcf4_0 m a1 (0 : Int32) a3 (0 : Int32) (4 : Int32)) ?_
  intro p e s m below meth c s₁ K hx hby hml hown hnm hret hlk hZ X0 e0
  have N0 := Fr.nil n0
  refine m_iconst K X0.here hx hby (0 : Int32) d_jdk_52_21_0 rfl rfl ?_
  refine m_istore K X0.here hx hby #[.val (.ref a1), .val (.int (0 : Int32)), .val (.ref a3), .val (.int (0 : Int32)), .val (.int (4 : Int32)), .val (.int (0 : Int32)), .unset] d_jdk_52_21_1 rfl rfl ?_
  refine m_iload K X0.here hx hby d_jdk_52_21_3 rfl rfl ?_
  refine m_iload K X0.here hx hby d_jdk_52_21_5 rfl rfl ?_
  refine m_icmpN K X0.here hx hby (q := 10) d_jdk_52_21_7 (tlt (by decide : (0 : Int32) < (4 : Int32))).2.1 rfl ?_
  refine m_aloadN K X0.here hx hby d_jdk_52_21_10 rfl rfl rfl ?_
  refine m_iloadN K X0.here hx hby d_jdk_52_21_11 rfl rfl ?_
  refine k_ldC K X0 hx hby hZ e0 A_a1 (v := (.int c0)) (by decide) rfl d_jdk_52_21_12 rfl ?_
  refine m_istore K X0.here hx hby #[.val (.ref a1), .val (.int (0 : Int32)), .val (.ref a3), .val (.int (0 : Int32)), .val (.int (4 : Int32)), .val (.int (0 : Int32)), .val (.int c0)] d_jdk_52_21_13 rfl rfl ?_
  refine m_iload K X0.here hx hby d_jdk_52_21_15 rfl rfl ?_
  refine m_sipush K X0.here hx hby (255 : Int32) d_jdk_52_21_17 rfl rfl ?_
  refine m_icmpN K X0.here hx hby (q := 23) d_jdk_52_21_20 (tlt hg).2.2.2 rfl ?_
  refine m_iload K X0.here hx hby d_jdk_52_21_23 rfl rfl ?_
  exact Go.retI X0 hx hby hlk hret d_jdk_52_21_25 (by decide) (by decide) (by rw [e0]; exact ⟨rfl, N0, (Keep.refl h0 [a3]), A_a3⟩)
theorem efct4_0 (m : MethodId) (x0 : Addr) (x1 : Int32) (x2 : Int32) : entryFrame m #[(.ref x0), (.int x1), (.int x2)] 6 = mkF m 0 #[.val (.ref x0), .val (.int x1), .val (.int x2), .unset, .unset, .unset] [] := by first | (simp [entryFrame, mkF, argsToLocals, Value.category]; done) | rfl
set_option maxRecDepth 65536 in
set_option maxHeartbeats 40000000 in
theorem cct4_0 (l : Launch) (Z : State) (a0 : Array Value) (hw : ∀ d ∈ tables_1, d.before a0 Z = true) (a1 : Addr) (cz : Int32) (vf : Value) (c0 : Int32) (c1 : Int32) (c2 : Int32) (c3 : Int32) (h0 : Heap) (n0 : Nat) (Z0 : n0 ≤ h0.size) (A_a1 : Av Z h0 a1 .char [(.int c0), (.int c1), (.int c2), (.int c3)]) (O0 : Old Z n0 h0) (SS : SSt Z cz vf) (hg : (255 : Int32) < c0) (hch_0 : nar .char c0 = c0) (hch_1 : nar .char c1 = c1) (hch_2 : nar .char c2 = c2) (hch_3 : nar .char c3 = c3) :
    Con l Z (⟨"java/lang/StringUTF16", "compress", "([CII)[B"⟩ : MethodName) jdk_52_method_16_code 6 (some (.array .byte)) ({ frames := 3, cells := 2, slots := 12, locals := 40 } : Room) [] #[(.ref a1), (.int (0 : Int32)), (.int (4 : Int32))] h0 (fun v h L => ∃ bv : Addr, v = some (.ref bv) ∧ Fr n0 L ∧ Keep h0 h [] ∧ h0.size ≤ bv ∧ Av Z h bv .byte [(.int (BLO c0)), (.int (BHI c0)), (.int (BLO c1)), (.int (BHI c1)), (.int (BLO c2)), (.int (BHI c2)), (.int (BLO c3)), (.int (BHI c3))]) := by
  refine Con.of (plainFor_of_name pn_java_lang_StringUTF16) #[.val (.ref a1), .val (.int (0 : Int32)), .val (.int (4 : Int32)), .unset, .unset, .unset] (fun m => efct4_0 m a1 (0 : Int32) (4 : Int32)) ?_
  intro p e s m below meth c s₁ K hx hby hml hown hnm hret hlk hZ X0 e0
  have N0 := Fr.nil n0
  refine m_iloadN K X0.here hx hby d_jdk_52_16_0 rfl rfl ?_
  refine k_newP K X0 hx hby hZ 4 4 (W hw 19 rfl) e0 d_jdk_52_16_1 rfl (by decide) rfl (by decide) (by decide) (by decide) (by decide) fun T1 h1 b1 X1 e1 E1 g1 V_b1 => ?_
  have sz_b1 : h0.size ≤ b1 := Nat.le_trans (Nat.le_refl _) (Nat.le_of_eq g1.symm)
  have g_b1 : n0 ≤ b1 := Nat.le_trans Z0 sz_b1
  replace V_b1 : Av Z h1 b1 .byte [(.int (0 : Int32)), (.int (0 : Int32)), (.int (0 : Int32)), (.int (0 : Int32))] := V_b1
  refine m_astoreN K X1.here hx hby #[.val (.ref a1), .val (.int (0 : Int32)), .val (.int (4 : Int32)), .val (.ref b1), .unset, .unset] d_jdk_52_16_3 rfl rfl rfl ?_
  refine m_aloadN K X1.here hx hby d_jdk_52_16_4 rfl rfl rfl ?_
  refine m_iloadN K X1.here hx hby d_jdk_52_16_5 rfl rfl ?_
  refine m_aloadN K X1.here hx hby d_jdk_52_16_6 rfl rfl rfl ?_
  refine m_iconst K X1.here hx hby (0 : Int32) d_jdk_52_16_7 rfl rfl ?_
  refine m_iloadN K X1.here hx hby d_jdk_52_16_8 rfl rfl ?_
  refine k_callS K X1 hx hby hZ [(.ref a1), (.int (0 : Int32)), (.ref b1), (.int (0 : Int32)), (.int (4 : Int32))] [] hown (W hw 45 rfl) (W hw 46 rfl) (W hw 43 rfl) (W hw 47 rfl) (ccf4_0 l Z a0 hw a1 b1 cz vf c0 c1 c2 c3 h1 n0 (Nat.le_trans Z0 (Nat.le_trans (Nat.le_refl _) E1.1)) (A_a1.ext E1) V_b1 (O0.ext E1) g_b1 (Nat.ne_of_lt (Nat.lt_of_lt_of_le (Nat.lt_of_lt_of_le A_a1.lt (Nat.le_refl _)) (Nat.le_of_eq g1.symm))) SS hg hch_0 hch_1 hch_2 hch_3) e1 rfl rfl pd_10 rfl d_jdk_52_16_9 (by rw [hml]; rfl) rfl (by decide) (by decide) (Nat.le_of_ble_eq_true rfl) (by decide) (by decide) fun v2 T2 L2 X2 q2 => ?_
  obtain ⟨rfl, Nq2, K2, Ap2_0⟩ := q2
  have N2 := Fr.app N0 Nq2
  refine k_some K (w := (.int (0 : Int32))) ?_
  refine m_istore K X2.here hx hby #[.val (.ref a1), .val (.int (0 : Int32)), .val (.int (4 : Int32)), .val (.ref b1), .val (.int (0 : Int32)), .unset] d_jdk_52_16_12 rfl rfl ?_
  refine m_iload K X2.here hx hby d_jdk_52_16_14 rfl rfl ?_
  refine m_iloadN K X2.here hx hby d_jdk_52_16_16 rfl rfl ?_
  refine m_icmpN K X2.here hx hby (q := 20) d_jdk_52_16_17 (feq (by decide : ¬ ((0 : Int32) = (4 : Int32)))).1 rfl ?_
  refine m_aloadN K X2.here hx hby d_jdk_52_16_20 rfl rfl rfl ?_
  refine m_iloadN K X2.here hx hby d_jdk_52_16_21 rfl rfl ?_
  refine m_iloadN K X2.here hx hby d_jdk_52_16_22 rfl rfl ?_
  refine k_callS K X2 hx hby hZ [(.ref a1), (.int (0 : Int32)), (.int (4 : Int32))] [] hown (W hw 74 rfl) (W hw 75 rfl) (W hw 43 rfl) (W hw 76 rfl) (ctb4 l Z a0 hw a1 cz vf c0 c1 c2 c3 T2.heap n0 (Nat.le_trans Z0 (Nat.le_trans (Nat.le_trans (Nat.le_refl _) E1.1) K2.1)) ((A_a1.ext E1).keep K2 (ninS (Nat.ne_of_lt (Nat.lt_of_lt_of_le (Nat.lt_of_lt_of_le A_a1.lt (Nat.le_refl _)) (Nat.le_of_eq g1.symm))) nin0)) ((O0.ext E1).keep K2 (allS g_b1 all0)) SS) rfl rfl rfl pd_11 rfl d_jdk_52_16_23 (by rw [hml]; rfl) rfl (by decide) (by decide) (Nat.le_of_ble_eq_true rfl) (by decide) (by decide) fun v3 T3 L3 X3 q3 => ?_
  obtain ⟨b3_bv, rfl, Nq3, K3, sq_b3_bv, Ap3_0⟩ := q3
  have N3 := Fr.app N2 Nq3
  have sz_b3_bv : h0.size ≤ b3_bv := Nat.le_trans (Nat.le_trans (Nat.le_trans (Nat.le_refl _) E1.1) K2.1) sq_b3_bv
  have g_b3_bv : n0 ≤ b3_bv := Nat.le_trans Z0 sz_b3_bv
  refine k_some K (w := (.ref b3_bv)) ?_
  refine m_astore K X3.here hx hby #[.val (.ref a1), .val (.int (0 : Int32)), .val (.int (4 : Int32)), .val (.ref b1), .val (.int (0 : Int32)), .val (.ref b3_bv)] d_jdk_52_16_26 rfl rfl rfl ?_
  refine m_aload K X3.here hx hby d_jdk_52_16_28 rfl rfl rfl ?_
  refine m_iload K X3.here hx hby d_jdk_52_16_30 rfl rfl ?_
  refine k_callS K X3 hx hby hZ [(.ref b3_bv), (.int (0 : Int32))] [] hown (W hw 90 rfl) (W hw 91 rfl) (W hw 43 rfl) (W hw 92 rfl) (cgc4_0 l Z a0 hw b3_bv cz vf (BLO c0) (BHI c0) (BLO c1) (BHI c1) (BLO c2) (BHI c2) (BLO c3) (BHI c3) T3.heap n0 (Nat.le_trans Z0 (Nat.le_trans (Nat.le_trans (Nat.le_trans (Nat.le_refl _) E1.1) K2.1) K3.1)) Ap3_0 (((O0.ext E1).keep K2 (allS g_b1 all0)).keep K3 all0) SS) rfl rfl rfl pd_5 rfl d_jdk_52_16_32 (by rw [hml]; rfl) rfl (by decide) (by decide) (Nat.le_of_ble_eq_true rfl) (by decide) (by decide) fun v4 T4 L4 X4 q4 => ?_
  obtain ⟨rfl, e4, rfl⟩ := q4
  replace X4 := own_px X4
  refine k_some K (w := (.int (GCH (BLO c0) (BHI c0)))) ?_
  refine m_sipush K X4.here hx hby (255 : Int32) d_jdk_52_16_35 rfl rfl ?_
  refine m_icmpY K X4.here hx hby (q := 54) d_jdk_52_16_38 (tlt (own_rgt c0 hch_0 hg)).2.2.1 (by decide) rfl ?_
  refine m_aload K X4.here hx hby d_jdk_52_16_54 rfl rfl rfl ?_
  exact Go.retO X4 hx hby hlk hret rfl (Or.inr (Or.inr (Or.inr (Or.inr ⟨rfl, rfl, rfl⟩)))) d_jdk_52_16_56 (by decide) (by decide) (by rw [e4]; exact ⟨b3_bv, rfl, N3, ((((Keep.refl h0 []).ext E1).trans K2 (allS (Or.inr sz_b1) all0)).trans K3 all0), sz_b3_bv, Ap3_0⟩)
theorem efcc4_8 (m : MethodId) (x0 : Addr) (x1 : Int32) : entryFrame m #[(.ref x0), (.int x1)] 2 = mkF m 0 #[.val (.ref x0), .val (.int x1)] [] := by first | (simp [entryFrame, mkF, argsToLocals, Value.category]; done) | rfl
set_option maxRecDepth 65536 in
set_option maxHeartbeats 40000000 in
theorem ccc4_8 (l : Launch) (Z : State) (a0 : Array Value) (hw : ∀ d ∈ tables_1, d.before a0 Z = true) (a1 : Addr) (cz : Int32) (vf : Value) (y0 : Int32) (y1 : Int32) (y2 : Int32) (y3 : Int32) (y4 : Int32) (y5 : Int32) (y6 : Int32) (y7 : Int32) (h0 : Heap) (n0 : Nat) (Z0 : n0 ≤ h0.size) (A_a1 : Av Z h0 a1 .byte [(.int y0), (.int y1), (.int y2), (.int y3), (.int y4), (.int y5), (.int y6), (.int y7)]) (O0 : Old Z n0 h0) (SS : SSt Z cz vf) :
    Con l Z (⟨"java/lang/StringUTF16", "coderFromArrayLen", "([BI)B"⟩ : MethodName) jdk_52_method_15_code 2 (some .byte) ({ frames := 0, cells := 0, slots := 0, locals := 0 } : Room) [] #[(.ref a1), (.int (4 : Int32))] h0 (fun v h L => v = some (.int (1 : Int32)) ∧ h = h0 ∧ L = []) := by
  refine Con.of (plainFor_of_name pn_java_lang_StringUTF16) #[.val (.ref a1), .val (.int (4 : Int32))] (fun m => efcc4_8 m a1 (4 : Int32)) ?_
  intro p e s m below meth c s₁ K hx hby hml hown hnm hret hlk hZ X0 e0
  have N0 := Fr.nil n0
  refine m_iloadN K X0.here hx hby d_jdk_52_15_0 rfl rfl ?_
  refine m_aloadN K X0.here hx hby d_jdk_52_15_1 rfl rfl rfl ?_
  refine k_len K X0 hx hby hZ (8 : Int32) e0 A_a1 rfl d_jdk_52_15_2 rfl ?_
  refine m_isub K X0.here hx hby (-4 : Int32) d_jdk_52_15_3 rfl rfl ?_
  refine m_bipush K X0.here hx hby (31 : Int32) d_jdk_52_15_4 rfl rfl ?_
  refine m_iushr K X0.here hx hby (1 : Int32) d_jdk_52_15_6 rfl rfl ?_
  refine m_i2b K X0.here hx hby (1 : Int32) d_jdk_52_15_7 rfl rfl ?_
  exact Go.retN X0 hx hby hlk hret (by simp) d_jdk_52_15_8 (by decide) (by decide) (by decide) (⟨rfl, e0, rfl⟩)
theorem efsi4_0 (m : MethodId) (x0 : Addr) (x1 : Addr) (x2 : Int32) (x3 : Int32) : entryFrame m #[(.ref x0), (.ref x1), (.int x2), (.int x3), .null] 6 = mkF m 0 #[.val (.ref x0), .val (.ref x1), .val (.int x2), .val (.int x3), .val .null, .unset] [] := by first | (simp [entryFrame, mkF, argsToLocals, Value.category]; done) | rfl
set_option maxRecDepth 65536 in
set_option maxHeartbeats 40000000 in
theorem csi4_0 (l : Launch) (Z : State) (a0 : Array Value) (hw : ∀ d ∈ tables_1, d.before a0 Z = true) (a1 : Addr) (a2 : Addr) (cz : Int32) (vf : Value) (c0 : Int32) (c1 : Int32) (c2 : Int32) (c3 : Int32) (h0 : Heap) (n0 : Nat) (Z0 : n0 ≤ h0.size) (E_a1 : Exa Z h0 a1 "java/lang/String") (F_value_a1 : Fld Z h0 a1 "java/lang/String" "value" "[B" .null) (F_coder_a1 : Fld Z h0 a1 "java/lang/String" "coder" "B" (.int (0 : Int32))) (A_a2 : Av Z h0 a2 .char [(.int c0), (.int c1), (.int c2), (.int c3)]) (O0 : Old Z n0 h0) (g_a1 : n0 ≤ a1) (SS : SSt Z cz vf) (hg : (255 : Int32) < c0) (hch_0 : nar .char c0 = c0) (hch_1 : nar .char c1 = c1) (hch_2 : nar .char c2 = c2) (hch_3 : nar .char c3 = c3) :
    Con l Z (⟨"java/lang/String", "<init>", "([CIILjava/lang/Void;)V"⟩ : MethodName) jdk_42_method_149_code 6 none ({ frames := 4, cells := 2, slots := 12, locals := 57 } : Room) [] #[(.ref a1), (.ref a2), (.int (0 : Int32)), (.int (4 : Int32)), .null] h0 (fun v h L => ∃ bv : Addr, v = none ∧ Fr n0 L ∧ Keep h0 h [a1] ∧ h0.size ≤ bv ∧ Fld Z h a1 "java/lang/String" "value" "[B" (.ref bv) ∧ Fld Z h a1 "java/lang/String" "coder" "B" (.int (1 : Int32)) ∧ Av Z h bv .byte [(.int (BLO c0)), (.int (BHI c0)), (.int (BLO c1)), (.int (BHI c1)), (.int (BLO c2)), (.int (BHI c2)), (.int (BLO c3)), (.int (BHI c3))]) := by
  refine Con.of (plainFor_of_name pn_java_lang_String) #[.val (.ref a1), .val (.ref a2), .val (.int (0 : Int32)), .val (.int (4 : Int32)), .val .null, .unset] (fun m => efsi4_0 m a1 a2 (0 : Int32) (4 : Int32)) ?_
  intro p e s m below meth c s₁ K hx hby hml hown hnm hret hlk hZ X0 e0
  have N0 := Fr.nil n0
  refine m_aloadN K X0.here hx hby d_jdk_42_149_0 rfl rfl rfl ?_
  refine k_initO K X0 hx hby hZ hown (W hw 15 rfl) (W hw 16 rfl) (W hw 17 rfl) e0 d_jdk_42_149_1 (by rw [hml]; rfl) rfl (by decide) (Nat.le_of_ble_eq_true rfl) fun T1 X1 e1 => ?_
  refine m_iloadN K X1.here hx hby d_jdk_42_149_4 rfl rfl ?_
  refine m_ifY K X1.here hx hby (q := 27) d_jdk_42_149_5 ((if0 _ _).trans (feq (by decide : ¬ ((4 : Int32) = (0 : Int32)))).2) (by decide) rfl ?_
  refine k_getS K X1 hx hby hZ hown (host := "") (Or.inl (W hw 40 rfl)) Via.refl e1 (SS.cs.ext O0.2) d_jdk_42_149_27 rfl fun T2 X2 e2 => ?_
  refine m_ifN K X2.here hx hby (q := 33) d_jdk_42_149_30 ((if0 _ _).trans (feq SS.cz).1) rfl ?_
  refine m_aloadN K X2.here hx hby d_jdk_42_149_33 rfl rfl rfl ?_
  refine m_iloadN K X2.here hx hby d_jdk_42_149_34 rfl rfl ?_
  refine m_iloadN K X2.here hx hby d_jdk_42_149_35 rfl rfl ?_
  refine k_callS K X2 hx hby hZ [(.ref a2), (.int (0 : Int32)), (.int (4 : Int32))] [] hown (W hw 41 rfl) (W hw 42 rfl) (W hw 43 rfl) (W hw 44 rfl) (cct4_0 l Z a0 hw a2 cz vf c0 c1 c2 c3 h0 n0 Z0 A_a2 O0 SS hg hch_0 hch_1 hch_2 hch_3) e2 rfl rfl pd_11 rfl d_jdk_42_149_36 (by rw [hml]; rfl) rfl (by decide) (by decide) (Nat.le_of_ble_eq_true rfl) (by decide) (by decide) fun v3 T3 L3 X3 q3 => ?_
  obtain ⟨b3_bv, rfl, Nq3, K3, sq_b3_bv, Ap3_0⟩ := q3
  have N3 := Fr.app N0 Nq3
  have sz_b3_bv : h0.size ≤ b3_bv := Nat.le_trans (Nat.le_refl _) sq_b3_bv
  have g_b3_bv : n0 ≤ b3_bv := Nat.le_trans Z0 sz_b3_bv
  refine k_some K (w := (.ref b3_bv)) ?_
  refine m_astore K X3.here hx hby #[.val (.ref a1), .val (.ref a2), .val (.int (0 : Int32)), .val (.int (4 : Int32)), .val .null, .val (.ref b3_bv)] d_jdk_42_149_39 rfl rfl rfl ?_
  refine m_aloadN K X3.here hx hby d_jdk_42_149_41 rfl rfl rfl ?_
  refine m_aload K X3.here hx hby d_jdk_42_149_42 rfl rfl rfl ?_
  refine m_iloadN K X3.here hx hby d_jdk_42_149_44 rfl rfl ?_
  refine k_callS K X3 hx hby hZ [(.ref b3_bv), (.int (4 : Int32))] [(.ref a1)] hown (W hw 48 rfl) (W hw 49 rfl) (W hw 43 rfl) (W hw 50 rfl) (ccc4_8 l Z a0 hw b3_bv cz vf (BLO c0) (BHI c0) (BLO c1) (BHI c1) (BLO c2) (BHI c2) (BLO c3) (BHI c3) T3.heap n0 (Nat.le_trans Z0 (Nat.le_trans (Nat.le_refl _) K3.1)) Ap3_0 (O0.keep K3 all0) SS) rfl rfl rfl pd_12 rfl d_jdk_42_149_45 (by rw [hml]; rfl) rfl (by decide) (by decide) (Nat.le_of_ble_eq_true rfl) (by decide) (by decide) fun v4 T4 L4 X4 q4 => ?_
  obtain ⟨rfl, e4, rfl⟩ := q4
  replace X4 := own_px X4
  refine k_some K (w := (.int (1 : Int32))) ?_
  refine k_putF K X4 hx hby hZ hown (host := "") (Or.inl (W hw 25 rfl)) Via.refl e4 (F_coder_a1.keep K3 nin0) (E_a1.keep K3) (Or.inr ⟨(W hw 21 rfl), rfl, hnm⟩) (W hw 6 rfl) (ty := .byte) (by decide) (by decide) (by decide) d_jdk_42_149_48 rfl fun T5 h5 X5 e5 W5 => ?_
  have Fw5 := (F_coder_a1.keep K3 nin0).same W5
  have N5 := Fr.snoc X5 N3 g_a1
  refine m_aloadN K X5.here hx hby d_jdk_42_149_51 rfl rfl rfl ?_
  refine m_aload K X5.here hx hby d_jdk_42_149_52 rfl rfl rfl ?_
  refine k_putF K X5 hx hby hZ hown (host := "") (Or.inl (W hw 24 rfl)) Via.refl e5 ((F_value_a1.keep K3 nin0).other W5 (Or.inr (slot_ne (Or.inr (W hw 20 rfl)) (Or.inr (W hw 21 rfl)) (by decide) (t := (.array .byte)) (t' := .byte) (by decide) (by decide)))) ((E_a1.keep K3).wr W5) (Or.inr ⟨(W hw 20 rfl), rfl, hnm⟩) (W hw 6 rfl) (ty := (.array .byte)) (by decide) rfl rfl d_jdk_42_149_54 rfl fun T6 h6 X6 e6 W6 => ?_
  have Fw6 := ((F_value_a1.keep K3 nin0).other W5 (Or.inr (slot_ne (Or.inr (W hw 20 rfl)) (Or.inr (W hw 21 rfl)) (by decide) (t := (.array .byte)) (t' := .byte) (by decide) (by decide)))).same W6
  have N6 := Fr.snoc X6 N5 g_a1
  exact Go.retV X6 hx hby hlk hret d_jdk_42_149_57 (by decide) (by decide) (by rw [e6]; exact ⟨b3_bv, rfl, N6, ((((Keep.refl h0 [a1]).trans K3 all0).wr W5 (Or.inl (by simp))).wr W6 (Or.inl (by simp))), sz_b3_bv, Fw6, (Fw5.other W6 (Or.inr (slot_ne (Or.inr (W hw 21 rfl)) (Or.inr (W hw 20 rfl)) (by decide) (t := .byte) (t' := (.array .byte)) (by decide) (by decide)))), ((Ap3_0.other W5 (Ne.symm (Nat.ne_of_lt (Nat.lt_of_lt_of_le (Nat.lt_of_lt_of_le E_a1.lt (Nat.le_refl _)) sq_b3_bv)))).other W6 (Ne.symm (Nat.ne_of_lt (Nat.lt_of_lt_of_le (Nat.lt_of_lt_of_le E_a1.lt (Nat.le_refl _)) sq_b3_bv))))⟩)
theorem efsj4_0 (m : MethodId) (x0 : Addr) (x1 : Addr) : entryFrame m #[(.ref x0), (.ref x1)] 2 = mkF m 0 #[.val (.ref x0), .val (.ref x1)] [] := by first | (simp [entryFrame, mkF, argsToLocals, Value.category]; done) | rfl
set_option maxRecDepth 65536 in
set_option maxHeartbeats 40000000 in
theorem csj4_0 (l : Launch) (Z : State) (a0 : Array Value) (hw : ∀ d ∈ tables_1, d.before a0 Z = true) (a1 : Addr) (a2 : Addr) (cz : Int32) (vf : Value) (c0 : Int32) (c1 : Int32) (c2 : Int32) (c3 : Int32) (h0 : Heap) (n0 : Nat) (Z0 : n0 ≤ h0.size) (E_a1 : Exa Z h0 a1 "java/lang/String") (F_value_a1 : Fld Z h0 a1 "java/lang/String" "value" "[B" .null) (F_coder_a1 : Fld Z h0 a1 "java/lang/String" "coder" "B" (.int (0 : Int32))) (A_a2 : Av Z h0 a2 .char [(.int c0), (.int c1), (.int c2), (.int c3)]) (O0 : Old Z n0 h0) (g_a1 : n0 ≤ a1) (SS : SSt Z cz vf) (hg : (255 : Int32) < c0) (hch_0 : nar .char c0 = c0) (hch_1 : nar .char c1 = c1) (hch_2 : nar .char c2 = c2) (hch_3 : nar .char c3 = c3) :
    Con l Z (⟨"java/lang/String", "<init>", "([C)V"⟩ : MethodName) jdk_42_method_3_code 2 none ({ frames := 5, cells := 2, slots := 12, locals := 74 } : Room) [] #[(.ref a1), (.ref a2)] h0 (fun v h L => ∃ bv : Addr, v = none ∧ Fr n0 L ∧ Keep h0 h [a1] ∧ h0.size ≤ bv ∧ Fld Z h a1 "java/lang/String" "value" "[B" (.ref bv) ∧ Fld Z h a1 "java/lang/String" "coder" "B" (.int (1 : Int32)) ∧ Av Z h bv .byte [(.int (BLO c0)), (.int (BHI c0)), (.int (BLO c1)), (.int (BHI c1)), (.int (BLO c2)), (.int (BHI c2)), (.int (BLO c3)), (.int (BHI c3))]) := by
  refine Con.of (plainFor_of_name pn_java_lang_String) #[.val (.ref a1), .val (.ref a2)] (fun m => efsj4_0 m a1 a2) ?_
  intro p e s m below meth c s₁ K hx hby hml hown hnm hret hlk hZ X0 e0
  have N0 := Fr.nil n0
  refine m_aloadN K X0.here hx hby d_jdk_42_3_0 rfl rfl rfl ?_
  refine m_aloadN K X0.here hx hby d_jdk_42_3_1 rfl rfl rfl ?_
  refine m_iconst K X0.here hx hby (0 : Int32) d_jdk_42_3_2 rfl rfl ?_
  refine m_aloadN K X0.here hx hby d_jdk_42_3_3 rfl rfl rfl ?_
  refine k_len K X0 hx hby hZ (4 : Int32) e0 A_a2 rfl d_jdk_42_3_4 rfl ?_
  refine m_null K X0.here hx hby d_jdk_42_3_5 rfl ?_
  refine k_callP K X0 hx hby hZ a1 [(.ref a2), (.int (0 : Int32)), (.int (4 : Int32)), .null] [] hown (W hw 11 rfl) (W hw 12 rfl) (W hw 7 rfl) (W hw 14 rfl) rfl (csi4_0 l Z a0 hw a1 a2 cz vf c0 c1 c2 c3 h0 n0 Z0 E_a1 F_value_a1 F_coder_a1 A_a2 O0 g_a1 SS hg hch_0 hch_1 hch_2 hch_3) e0 rfl rfl pd_13 rfl d_jdk_42_3_6 (by rw [hml]; rfl) rfl (by decide) (by decide) (Nat.le_of_ble_eq_true rfl) (by decide) (by decide) fun v1 T1 L1 X1 q1 => ?_
  obtain ⟨b1_bv, rfl, Nq1, K1, sq_b1_bv, Fp1_0, Fp1_1, Ap1_0⟩ := q1
  have N1 := Fr.app N0 Nq1
  have sz_b1_bv : h0.size ≤ b1_bv := Nat.le_trans (Nat.le_refl _) sq_b1_bv
  have g_b1_bv : n0 ≤ b1_bv := Nat.le_trans Z0 sz_b1_bv
  refine k_none K ?_
  exact Go.retV X1 hx hby hlk hret d_jdk_42_3_9 (by decide) (by decide) (⟨b1_bv, rfl, N1, ((Keep.refl h0 [a1]).trans K1 (allS (Or.inl (by simp)) all0)), sz_b1_bv, Fp1_0, Fp1_1, Ap1_0⟩)
theorem efcf4_1 (m : MethodId) (x0 : Addr) (x1 : Int32) (x2 : Addr) (x3 : Int32) (x4 : Int32) : entryFrame m #[(.ref x0), (.int x1), (.ref x2), (.int x3), (.int x4)] 7 = mkF m 0 #[.val (.ref x0), .val (.int x1), .val (.ref x2), .val (.int x3), .val (.int x4), .unset, .unset] [] := by first | (simp [entryFrame, mkF, argsToLocals, Value.category]; done) | rfl
set_option maxRecDepth 65536 in
set_option maxHeartbeats 40000000 in
theorem ccf4_1 (l : Launch) (Z : State) (a0 : Array Value) (hw : ∀ d ∈ tables_1, d.before a0 Z = true) (a1 : Addr) (a3 : Addr) (cz : Int32) (vf : Value) (c0 : Int32) (c1 : Int32) (c2 : Int32) (c3 : Int32) (h0 : Heap) (n0 : Nat) (Z0 : n0 ≤ h0.size) (A_a1 : Av Z h0 a1 .char [(.int c0), (.int c1), (.int c2), (.int c3)]) (A_a3 : Av Z h0 a3 .byte [(.int (0 : Int32)), (.int (0 : Int32)), (.int (0 : Int32)), (.int (0 : Int32))]) (O0 : Old Z n0 h0) (g_a3 : n0 ≤ a3) (ne_a1_a3 : a1 ≠ a3) (SS : SSt Z cz vf) (hl_0 : ¬ ((255 : Int32) < c0)) (hg : (255 : Int32) < c1) (hch_0 : nar .char c0 = c0) (hch_1 : nar .char c1 = c1) (hch_2 : nar .char c2 = c2) (hch_3 : nar .char c3 = c3) :
    Con l Z (⟨"java/lang/StringUTF16", "compress", "([CI[BII)I"⟩ : MethodName) jdk_52_method_21_code 7 (some .int) ({ frames := 0, cells := 0, slots := 0, locals := 0 } : Room) [] #[(.ref a1), (.int (0 : Int32)), (.ref a3), (.int (0 : Int32)), (.int (4 : Int32))] h0 (fun v h L => v = some (.int (1 : Int32)) ∧ Fr n0 L ∧ Keep h0 h [a3] ∧ Av Z h a3 .byte [(.int (nar .byte (c0.toInt8.toInt32))), (.int (0 : Int32)), (.int (0 : Int32)), (.int (0 : Int32))]) := by
  refine Con.of (plainFor_of_name pn_java_lang_StringUTF16) #[.val (.ref a1), .val (.int (0 : Int32)), .val (.ref a3), .val (.int (0 : Int32)), .val (.int (4 : Int32)), .unset, .unset] (fun m => efcf4_1 m a1 (0 : Int32) a3 (0 : Int32) (4 : Int32)) ?_
  intro p e s m below meth c s₁ K hx hby hml hown hnm hret hlk hZ X0 e0
  have N0 := Fr.nil n0
  refine m_iconst K X0.here hx hby (0 : Int32) d_jdk_52_21_0 rfl rfl ?_
  refine m_istore K X0.here hx hby #[.val (.ref a1), .val (.int (0 : Int32)), .val (.ref a3), .val (.int (0 : Int32)), .val (.int (4 : Int32)), .val (.int (0 : Int32)), .unset] d_jdk_52_21_1 rfl rfl ?_
  refine m_iload K X0.here hx hby d_jdk_52_21_3 rfl rfl ?_
  refine m_iload K X0.here hx hby d_jdk_52_21_5 rfl rfl ?_
  refine m_icmpN K X0.here hx hby (q := 10) d_jdk_52_21_7 (tlt (by decide : (0 : Int32) < (4 : Int32))).2.1 rfl ?_
  refine m_aloadN K X0.here hx hby d_jdk_52_21_10 rfl rfl rfl ?_
  refine m_iloadN K X0.here hx hby d_jdk_52_21_11 rfl rfl ?_
  refine k_ldC K X0 hx hby hZ e0 A_a1 (v := (.int c0)) (by decide) rfl d_jdk_52_21_12 rfl ?_
  refine m_istore K X0.here hx hby #[.val (.ref a1), .val (.int (0 : Int32)), .val (.ref a3), .val (.int (0 : Int32)), .val (.int (4 : Int32)), .val (.int (0 : Int32)), .val (.int c0)] d_jdk_52_21_13 rfl rfl ?_
  refine m_iload K X0.here hx hby d_jdk_52_21_15 rfl rfl ?_
  refine m_sipush K X0.here hx hby (255 : Int32) d_jdk_52_21_17 rfl rfl ?_
  refine m_icmpY K X0.here hx hby (q := 26) d_jdk_52_21_20 (flt hl_0).2.2.2 (by decide) rfl ?_
  refine m_aloadN K X0.here hx hby d_jdk_52_21_26 rfl rfl rfl ?_
  refine m_iloadN K X0.here hx hby d_jdk_52_21_27 rfl rfl ?_
  refine m_iload K X0.here hx hby d_jdk_52_21_28 rfl rfl ?_
  refine m_i2b K X0.here hx hby (c0.toInt8.toInt32) d_jdk_52_21_30 rfl rfl ?_
  refine k_stB K X0 hx hby hZ e0 A_a3 (by decide) (Nat.le_of_ble_eq_true rfl) d_jdk_52_21_31 rfl fun T1 h1 X1 e1 W1 V1 => ?_
  replace V1 : Av Z h1 a3 .byte [(.int (nar .byte (c0.toInt8.toInt32))), (.int (0 : Int32)), (.int (0 : Int32)), (.int (0 : Int32))] := V1
  have N1 := Fr.snoc X1 N0 g_a3
  refine m_iinc K X1.here hx hby #[.val (.ref a1), .val (.int (1 : Int32)), .val (.ref a3), .val (.int (0 : Int32)), .val (.int (4 : Int32)), .val (.int (0 : Int32)), .val (.int c0)] d_jdk_52_21_32 rfl rfl rfl ?_
  refine m_iinc K X1.here hx hby #[.val (.ref a1), .val (.int (1 : Int32)), .val (.ref a3), .val (.int (1 : Int32)), .val (.int (4 : Int32)), .val (.int (0 : Int32)), .val (.int c0)] d_jdk_52_21_35 rfl rfl rfl ?_
  refine m_iinc K X1.here hx hby #[.val (.ref a1), .val (.int (1 : Int32)), .val (.ref a3), .val (.int (1 : Int32)), .val (.int (4 : Int32)), .val (.int (1 : Int32)), .val (.int c0)] d_jdk_52_21_38 rfl rfl rfl ?_
  refine m_goto K X1.here hx hby (q := 3) d_jdk_52_21_41 (by decide) rfl ?_
  refine m_iload K X1.here hx hby d_jdk_52_21_3 rfl rfl ?_
  refine m_iload K X1.here hx hby d_jdk_52_21_5 rfl rfl ?_
  refine m_icmpN K X1.here hx hby (q := 10) d_jdk_52_21_7 (tlt (by decide : (1 : Int32) < (4 : Int32))).2.1 rfl ?_
  refine m_aloadN K X1.here hx hby d_jdk_52_21_10 rfl rfl rfl ?_
  refine m_iloadN K X1.here hx hby d_jdk_52_21_11 rfl rfl ?_
  refine k_ldC K X1 hx hby hZ e1 (A_a1.other W1 ne_a1_a3) (v := (.int c1)) (by decide) rfl d_jdk_52_21_12 rfl ?_
  refine m_istore K X1.here hx hby #[.val (.ref a1), .val (.int (1 : Int32)), .val (.ref a3), .val (.int (1 : Int32)), .val (.int (4 : Int32)), .val (.int (1 : Int32)), .val (.int c1)] d_jdk_52_21_13 rfl rfl ?_
  refine m_iload K X1.here hx hby d_jdk_52_21_15 rfl rfl ?_
  refine m_sipush K X1.here hx hby (255 : Int32) d_jdk_52_21_17 rfl rfl ?_
  refine m_icmpN K X1.here hx hby (q := 23) d_jdk_52_21_20 (tlt hg).2.2.2 rfl ?_
  refine m_iload K X1.here hx hby d_jdk_52_21_23 rfl rfl ?_
  exact Go.retI X1 hx hby hlk hret d_jdk_52_21_25 (by decide) (by decide) (by rw [e1]; exact ⟨rfl, N1, ((Keep.refl h0 [a3]).wr W1 (Or.inl (by simp))), V1⟩)
theorem efct4_1 (m : MethodId) (x0 : Addr) (x1 : Int32) (x2 : Int32) : entryFrame m #[(.ref x0), (.int x1), (.int x2)] 6 = mkF m 0 #[.val (.ref x0), .val (.int x1), .val (.int x2), .unset, .unset, .unset] [] := by first | (simp [entryFrame, mkF, argsToLocals, Value.category]; done) | rfl
set_option maxRecDepth 65536 in
set_option maxHeartbeats 40000000 in
theorem cct4_1 (l : Launch) (Z : State) (a0 : Array Value) (hw : ∀ d ∈ tables_1, d.before a0 Z = true) (a1 : Addr) (cz : Int32) (vf : Value) (c0 : Int32) (c1 : Int32) (c2 : Int32) (c3 : Int32) (h0 : Heap) (n0 : Nat) (Z0 : n0 ≤ h0.size) (A_a1 : Av Z h0 a1 .char [(.int c0), (.int c1), (.int c2), (.int c3)]) (O0 : Old Z n0 h0) (SS : SSt Z cz vf) (hl_0 : ¬ ((255 : Int32) < c0)) (hg : (255 : Int32) < c1) (hch_0 : nar .char c0 = c0) (hch_1 : nar .char c1 = c1) (hch_2 : nar .char c2 = c2) (hch_3 : nar .char c3 = c3) :
    Con l Z (⟨"java/lang/StringUTF16", "compress", "([CII)[B"⟩ : MethodName) jdk_52_method_16_code 6 (some (.array .byte)) ({ frames := 3, cells := 2, slots := 12, locals := 40 } : Room) [] #[(.ref a1), (.int (0 : Int32)), (.int (4 : Int32))] h0 (fun v h L => ∃ bv : Addr, v = some (.ref bv) ∧ Fr n0 L ∧ Keep h0 h [] ∧ h0.size ≤ bv ∧ Av Z h bv .byte [(.int (BLO c0)), (.int (BHI c0)), (.int (BLO c1)), (.int (BHI c1)), (.int (BLO c2)), (.int (BHI c2)), (.int (BLO c3)), (.int (BHI c3))]) := by
  refine Con.of (plainFor_of_name pn_java_lang_StringUTF16) #[.val (.ref a1), .val (.int (0 : Int32)), .val (.int (4 : Int32)), .unset, .unset, .unset] (fun m => efct4_1 m a1 (0 : Int32) (4 : Int32)) ?_
  intro p e s m below meth c s₁ K hx hby hml hown hnm hret hlk hZ X0 e0
  have N0 := Fr.nil n0
  refine m_iloadN K X0.here hx hby d_jdk_52_16_0 rfl rfl ?_
  refine k_newP K X0 hx hby hZ 4 4 (W hw 19 rfl) e0 d_jdk_52_16_1 rfl (by decide) rfl (by decide) (by decide) (by decide) (by decide) fun T1 h1 b1 X1 e1 E1 g1 V_b1 => ?_
  have sz_b1 : h0.size ≤ b1 := Nat.le_trans (Nat.le_refl _) (Nat.le_of_eq g1.symm)
  have g_b1 : n0 ≤ b1 := Nat.le_trans Z0 sz_b1
  replace V_b1 : Av Z h1 b1 .byte [(.int (0 : Int32)), (.int (0 : Int32)), (.int (0 : Int32)), (.int (0 : Int32))] := V_b1
  refine m_astoreN K X1.here hx hby #[.val (.ref a1), .val (.int (0 : Int32)), .val (.int (4 : Int32)), .val (.ref b1), .unset, .unset] d_jdk_52_16_3 rfl rfl rfl ?_
  refine m_aloadN K X1.here hx hby d_jdk_52_16_4 rfl rfl rfl ?_
  refine m_iloadN K X1.here hx hby d_jdk_52_16_5 rfl rfl ?_
  refine m_aloadN K X1.here hx hby d_jdk_52_16_6 rfl rfl rfl ?_
  refine m_iconst K X1.here hx hby (0 : Int32) d_jdk_52_16_7 rfl rfl ?_
  refine m_iloadN K X1.here hx hby d_jdk_52_16_8 rfl rfl ?_
  refine k_callS K X1 hx hby hZ [(.ref a1), (.int (0 : Int32)), (.ref b1), (.int (0 : Int32)), (.int (4 : Int32))] [] hown (W hw 45 rfl) (W hw 46 rfl) (W hw 43 rfl) (W hw 47 rfl) (ccf4_1 l Z a0 hw a1 b1 cz vf c0 c1 c2 c3 h1 n0 (Nat.le_trans Z0 (Nat.le_trans (Nat.le_refl _) E1.1)) (A_a1.ext E1) V_b1 (O0.ext E1) g_b1 (Nat.ne_of_lt (Nat.lt_of_lt_of_le (Nat.lt_of_lt_of_le A_a1.lt (Nat.le_refl _)) (Nat.le_of_eq g1.symm))) SS hl_0 hg hch_0 hch_1 hch_2 hch_3) e1 rfl rfl pd_10 rfl d_jdk_52_16_9 (by rw [hml]; rfl) rfl (by decide) (by decide) (Nat.le_of_ble_eq_true rfl) (by decide) (by decide) fun v2 T2 L2 X2 q2 => ?_
  obtain ⟨rfl, Nq2, K2, Ap2_0⟩ := q2
  have N2 := Fr.app N0 Nq2
  refine k_some K (w := (.int (1 : Int32))) ?_
  refine m_istore K X2.here hx hby #[.val (.ref a1), .val (.int (0 : Int32)), .val (.int (4 : Int32)), .val (.ref b1), .val (.int (1 : Int32)), .unset] d_jdk_52_16_12 rfl rfl ?_
  refine m_iload K X2.here hx hby d_jdk_52_16_14 rfl rfl ?_
  refine m_iloadN K X2.here hx hby d_jdk_52_16_16 rfl rfl ?_
  refine m_icmpN K X2.here hx hby (q := 20) d_jdk_52_16_17 (feq (by decide : ¬ ((1 : Int32) = (4 : Int32)))).1 rfl ?_
  refine m_aloadN K X2.here hx hby d_jdk_52_16_20 rfl rfl rfl ?_
  refine m_iloadN K X2.here hx hby d_jdk_52_16_21 rfl rfl ?_
  refine m_iloadN K X2.here hx hby d_jdk_52_16_22 rfl rfl ?_
  refine k_callS K X2 hx hby hZ [(.ref a1), (.int (0 : Int32)), (.int (4 : Int32))] [] hown (W hw 74 rfl) (W hw 75 rfl) (W hw 43 rfl) (W hw 76 rfl) (ctb4 l Z a0 hw a1 cz vf c0 c1 c2 c3 T2.heap n0 (Nat.le_trans Z0 (Nat.le_trans (Nat.le_trans (Nat.le_refl _) E1.1) K2.1)) ((A_a1.ext E1).keep K2 (ninS (Nat.ne_of_lt (Nat.lt_of_lt_of_le (Nat.lt_of_lt_of_le A_a1.lt (Nat.le_refl _)) (Nat.le_of_eq g1.symm))) nin0)) ((O0.ext E1).keep K2 (allS g_b1 all0)) SS) rfl rfl rfl pd_11 rfl d_jdk_52_16_23 (by rw [hml]; rfl) rfl (by decide) (by decide) (Nat.le_of_ble_eq_true rfl) (by decide) (by decide) fun v3 T3 L3 X3 q3 => ?_
  obtain ⟨b3_bv, rfl, Nq3, K3, sq_b3_bv, Ap3_0⟩ := q3
  have N3 := Fr.app N2 Nq3
  have sz_b3_bv : h0.size ≤ b3_bv := Nat.le_trans (Nat.le_trans (Nat.le_trans (Nat.le_refl _) E1.1) K2.1) sq_b3_bv
  have g_b3_bv : n0 ≤ b3_bv := Nat.le_trans Z0 sz_b3_bv
  refine k_some K (w := (.ref b3_bv)) ?_
  refine m_astore K X3.here hx hby #[.val (.ref a1), .val (.int (0 : Int32)), .val (.int (4 : Int32)), .val (.ref b1), .val (.int (1 : Int32)), .val (.ref b3_bv)] d_jdk_52_16_26 rfl rfl rfl ?_
  refine m_aload K X3.here hx hby d_jdk_52_16_28 rfl rfl rfl ?_
  refine m_iload K X3.here hx hby d_jdk_52_16_30 rfl rfl ?_
  refine k_callS K X3 hx hby hZ [(.ref b3_bv), (.int (1 : Int32))] [] hown (W hw 90 rfl) (W hw 91 rfl) (W hw 43 rfl) (W hw 92 rfl) (cgc4_1 l Z a0 hw b3_bv cz vf (BLO c0) (BHI c0) (BLO c1) (BHI c1) (BLO c2) (BHI c2) (BLO c3) (BHI c3) T3.heap n0 (Nat.le_trans Z0 (Nat.le_trans (Nat.le_trans (Nat.le_trans (Nat.le_refl _) E1.1) K2.1) K3.1)) Ap3_0 (((O0.ext E1).keep K2 (allS g_b1 all0)).keep K3 all0) SS) rfl rfl rfl pd_5 rfl d_jdk_52_16_32 (by rw [hml]; rfl) rfl (by decide) (by decide) (Nat.le_of_ble_eq_true rfl) (by decide) (by decide) fun v4 T4 L4 X4 q4 => ?_
  obtain ⟨rfl, e4, rfl⟩ := q4
  replace X4 := own_px X4
  refine k_some K (w := (.int (GCH (BLO c1) (BHI c1)))) ?_
  refine m_sipush K X4.here hx hby (255 : Int32) d_jdk_52_16_35 rfl rfl ?_
  refine m_icmpY K X4.here hx hby (q := 54) d_jdk_52_16_38 (tlt (own_rgt c1 hch_1 hg)).2.2.1 (by decide) rfl ?_
  refine m_aload K X4.here hx hby d_jdk_52_16_54 rfl rfl rfl ?_
  exact Go.retO X4 hx hby hlk hret rfl (Or.inr (Or.inr (Or.inr (Or.inr ⟨rfl, rfl, rfl⟩)))) d_jdk_52_16_56 (by decide) (by decide) (by rw [e4]; exact ⟨b3_bv, rfl, N3, ((((Keep.refl h0 []).ext E1).trans K2 (allS (Or.inr sz_b1) all0)).trans K3 all0), sz_b3_bv, Ap3_0⟩)
theorem efsi4_1 (m : MethodId) (x0 : Addr) (x1 : Addr) (x2 : Int32) (x3 : Int32) : entryFrame m #[(.ref x0), (.ref x1), (.int x2), (.int x3), .null] 6 = mkF m 0 #[.val (.ref x0), .val (.ref x1), .val (.int x2), .val (.int x3), .val .null, .unset] [] := by first | (simp [entryFrame, mkF, argsToLocals, Value.category]; done) | rfl
set_option maxRecDepth 65536 in
set_option maxHeartbeats 40000000 in
theorem csi4_1 (l : Launch) (Z : State) (a0 : Array Value) (hw : ∀ d ∈ tables_1, d.before a0 Z = true) (a1 : Addr) (a2 : Addr) (cz : Int32) (vf : Value) (c0 : Int32) (c1 : Int32) (c2 : Int32) (c3 : Int32) (h0 : Heap) (n0 : Nat) (Z0 : n0 ≤ h0.size) (E_a1 : Exa Z h0 a1 "java/lang/String") (F_value_a1 : Fld Z h0 a1 "java/lang/String" "value" "[B" .null) (F_coder_a1 : Fld Z h0 a1 "java/lang/String" "coder" "B" (.int (0 : Int32))) (A_a2 : Av Z h0 a2 .char [(.int c0), (.int c1), (.int c2), (.int c3)]) (O0 : Old Z n0 h0) (g_a1 : n0 ≤ a1) (SS : SSt Z cz vf) (hl_0 : ¬ ((255 : Int32) < c0)) (hg : (255 : Int32) < c1) (hch_0 : nar .char c0 = c0) (hch_1 : nar .char c1 = c1) (hch_2 : nar .char c2 = c2) (hch_3 : nar .char c3 = c3) :
    Con l Z (⟨"java/lang/String", "<init>", "([CIILjava/lang/Void;)V"⟩ : MethodName) jdk_42_method_149_code 6 none ({ frames := 4, cells := 2, slots := 12, locals := 57 } : Room) [] #[(.ref a1), (.ref a2), (.int (0 : Int32)), (.int (4 : Int32)), .null] h0 (fun v h L => ∃ bv : Addr, v = none ∧ Fr n0 L ∧ Keep h0 h [a1] ∧ h0.size ≤ bv ∧ Fld Z h a1 "java/lang/String" "value" "[B" (.ref bv) ∧ Fld Z h a1 "java/lang/String" "coder" "B" (.int (1 : Int32)) ∧ Av Z h bv .byte [(.int (BLO c0)), (.int (BHI c0)), (.int (BLO c1)), (.int (BHI c1)), (.int (BLO c2)), (.int (BHI c2)), (.int (BLO c3)), (.int (BHI c3))]) := by
  refine Con.of (plainFor_of_name pn_java_lang_String) #[.val (.ref a1), .val (.ref a2), .val (.int (0 : Int32)), .val (.int (4 : Int32)), .val .null, .unset] (fun m => efsi4_1 m a1 a2 (0 : Int32) (4 : Int32)) ?_
  intro p e s m below meth c s₁ K hx hby hml hown hnm hret hlk hZ X0 e0
  have N0 := Fr.nil n0
  refine m_aloadN K X0.here hx hby d_jdk_42_149_0 rfl rfl rfl ?_
  refine k_initO K X0 hx hby hZ hown (W hw 15 rfl) (W hw 16 rfl) (W hw 17 rfl) e0 d_jdk_42_149_1 (by rw [hml]; rfl) rfl (by decide) (Nat.le_of_ble_eq_true rfl) fun T1 X1 e1 => ?_
  refine m_iloadN K X1.here hx hby d_jdk_42_149_4 rfl rfl ?_
  refine m_ifY K X1.here hx hby (q := 27) d_jdk_42_149_5 ((if0 _ _).trans (feq (by decide : ¬ ((4 : Int32) = (0 : Int32)))).2) (by decide) rfl ?_
  refine k_getS K X1 hx hby hZ hown (host := "") (Or.inl (W hw 40 rfl)) Via.refl e1 (SS.cs.ext O0.2) d_jdk_42_149_27 rfl fun T2 X2 e2 => ?_
  refine m_ifN K X2.here hx hby (q := 33) d_jdk_42_149_30 ((if0 _ _).trans (feq SS.cz).1) rfl ?_
  refine m_aloadN K X2.here hx hby d_jdk_42_149_33 rfl rfl rfl ?_
  refine m_iloadN K X2.here hx hby d_jdk_42_149_34 rfl rfl ?_
  refine m_iloadN K X2.here hx hby d_jdk_42_149_35 rfl rfl ?_
  refine k_callS K X2 hx hby hZ [(.ref a2), (.int (0 : Int32)), (.int (4 : Int32))] [] hown (W hw 41 rfl) (W hw 42 rfl) (W hw 43 rfl) (W hw 44 rfl) (cct4_1 l Z a0 hw a2 cz vf c0 c1 c2 c3 h0 n0 Z0 A_a2 O0 SS hl_0 hg hch_0 hch_1 hch_2 hch_3) e2 rfl rfl pd_11 rfl d_jdk_42_149_36 (by rw [hml]; rfl) rfl (by decide) (by decide) (Nat.le_of_ble_eq_true rfl) (by decide) (by decide) fun v3 T3 L3 X3 q3 => ?_
  obtain ⟨b3_bv, rfl, Nq3, K3, sq_b3_bv, Ap3_0⟩ := q3
  have N3 := Fr.app N0 Nq3
  have sz_b3_bv : h0.size ≤ b3_bv := Nat.le_trans (Nat.le_refl _) sq_b3_bv
  have g_b3_bv : n0 ≤ b3_bv := Nat.le_trans Z0 sz_b3_bv
  refine k_some K (w := (.ref b3_bv)) ?_
  refine m_astore K X3.here hx hby #[.val (.ref a1), .val (.ref a2), .val (.int (0 : Int32)), .val (.int (4 : Int32)), .val .null, .val (.ref b3_bv)] d_jdk_42_149_39 rfl rfl rfl ?_
  refine m_aloadN K X3.here hx hby d_jdk_42_149_41 rfl rfl rfl ?_
  refine m_aload K X3.here hx hby d_jdk_42_149_42 rfl rfl rfl ?_
  refine m_iloadN K X3.here hx hby d_jdk_42_149_44 rfl rfl ?_
  refine k_callS K X3 hx hby hZ [(.ref b3_bv), (.int (4 : Int32))] [(.ref a1)] hown (W hw 48 rfl) (W hw 49 rfl) (W hw 43 rfl) (W hw 50 rfl) (ccc4_8 l Z a0 hw b3_bv cz vf (BLO c0) (BHI c0) (BLO c1) (BHI c1) (BLO c2) (BHI c2) (BLO c3) (BHI c3) T3.heap n0 (Nat.le_trans Z0 (Nat.le_trans (Nat.le_refl _) K3.1)) Ap3_0 (O0.keep K3 all0) SS) rfl rfl rfl pd_12 rfl d_jdk_42_149_45 (by rw [hml]; rfl) rfl (by decide) (by decide) (Nat.le_of_ble_eq_true rfl) (by decide) (by decide) fun v4 T4 L4 X4 q4 => ?_
  obtain ⟨rfl, e4, rfl⟩ := q4
  replace X4 := own_px X4
  refine k_some K (w := (.int (1 : Int32))) ?_
  refine k_putF K X4 hx hby hZ hown (host := "") (Or.inl (W hw 25 rfl)) Via.refl e4 (F_coder_a1.keep K3 nin0) (E_a1.keep K3) (Or.inr ⟨(W hw 21 rfl), rfl, hnm⟩) (W hw 6 rfl) (ty := .byte) (by decide) (by decide) (by decide) d_jdk_42_149_48 rfl fun T5 h5 X5 e5 W5 => ?_
  have Fw5 := (F_coder_a1.keep K3 nin0).same W5
  have N5 := Fr.snoc X5 N3 g_a1
  refine m_aloadN K X5.here hx hby d_jdk_42_149_51 rfl rfl rfl ?_
  refine m_aload K X5.here hx hby d_jdk_42_149_52 rfl rfl rfl ?_
  refine k_putF K X5 hx hby hZ hown (host := "") (Or.inl (W hw 24 rfl)) Via.refl e5 ((F_value_a1.keep K3 nin0).other W5 (Or.inr (slot_ne (Or.inr (W hw 20 rfl)) (Or.inr (W hw 21 rfl)) (by decide) (t := (.array .byte)) (t' := .byte) (by decide) (by decide)))) ((E_a1.keep K3).wr W5) (Or.inr ⟨(W hw 20 rfl), rfl, hnm⟩) (W hw 6 rfl) (ty := (.array .byte)) (by decide) rfl rfl d_jdk_42_149_54 rfl fun T6 h6 X6 e6 W6 => ?_
  have Fw6 := ((F_value_a1.keep K3 nin0).other W5 (Or.inr (slot_ne (Or.inr (W hw 20 rfl)) (Or.inr (W hw 21 rfl)) (by decide) (t := (.array .byte)) (t' := .byte) (by decide) (by decide)))).same W6
  have N6 := Fr.snoc X6 N5 g_a1
  exact Go.retV X6 hx hby hlk hret d_jdk_42_149_57 (by decide) (by decide) (by rw [e6]; exact ⟨b3_bv, rfl, N6, ((((Keep.refl h0 [a1]).trans K3 all0).wr W5 (Or.inl (by simp))).wr W6 (Or.inl (by simp))), sz_b3_bv, Fw6, (Fw5.other W6 (Or.inr (slot_ne (Or.inr (W hw 21 rfl)) (Or.inr (W hw 20 rfl)) (by decide) (t := .byte) (t' := (.array .byte)) (by decide) (by decide)))), ((Ap3_0.other W5 (Ne.symm (Nat.ne_of_lt (Nat.lt_of_lt_of_le (Nat.lt_of_lt_of_le E_a1.lt (Nat.le_refl _)) sq_b3_bv)))).other W6 (Ne.symm (Nat.ne_of_lt (Nat.lt_of_lt_of_le (Nat.lt_of_lt_of_le E_a1.lt (Nat.le_refl _)) sq_b3_bv))))⟩)
theorem efsj4_1 (m : MethodId) (x0 : Addr) (x1 : Addr) : entryFrame m #[(.ref x0), (.ref x1)] 2 = mkF m 0 #[.val (.ref x0), .val (.ref x1)] [] := by first | (simp [entryFrame, mkF, argsToLocals, Value.category]; done) | rfl
set_option maxRecDepth 65536 in
set_option maxHeartbeats 40000000 in
theorem csj4_1 (l : Launch) (Z : State) (a0 : Array Value) (hw : ∀ d ∈ tables_1, d.before a0 Z = true) (a1 : Addr) (a2 : Addr) (cz : Int32) (vf : Value) (c0 : Int32) (c1 : Int32) (c2 : Int32) (c3 : Int32) (h0 : Heap) (n0 : Nat) (Z0 : n0 ≤ h0.size) (E_a1 : Exa Z h0 a1 "java/lang/String") (F_value_a1 : Fld Z h0 a1 "java/lang/String" "value" "[B" .null) (F_coder_a1 : Fld Z h0 a1 "java/lang/String" "coder" "B" (.int (0 : Int32))) (A_a2 : Av Z h0 a2 .char [(.int c0), (.int c1), (.int c2), (.int c3)]) (O0 : Old Z n0 h0) (g_a1 : n0 ≤ a1) (SS : SSt Z cz vf) (hl_0 : ¬ ((255 : Int32) < c0)) (hg : (255 : Int32) < c1) (hch_0 : nar .char c0 = c0) (hch_1 : nar .char c1 = c1) (hch_2 : nar .char c2 = c2) (hch_3 : nar .char c3 = c3) :
    Con l Z (⟨"java/lang/String", "<init>", "([C)V"⟩ : MethodName) jdk_42_method_3_code 2 none ({ frames := 5, cells := 2, slots := 12, locals := 74 } : Room) [] #[(.ref a1), (.ref a2)] h0 (fun v h L => ∃ bv : Addr, v = none ∧ Fr n0 L ∧ Keep h0 h [a1] ∧ h0.size ≤ bv ∧ Fld Z h a1 "java/lang/String" "value" "[B" (.ref bv) ∧ Fld Z h a1 "java/lang/String" "coder" "B" (.int (1 : Int32)) ∧ Av Z h bv .byte [(.int (BLO c0)), (.int (BHI c0)), (.int (BLO c1)), (.int (BHI c1)), (.int (BLO c2)), (.int (BHI c2)), (.int (BLO c3)), (.int (BHI c3))]) := by
  refine Con.of (plainFor_of_name pn_java_lang_String) #[.val (.ref a1), .val (.ref a2)] (fun m => efsj4_1 m a1 a2) ?_
  intro p e s m below meth c s₁ K hx hby hml hown hnm hret hlk hZ X0 e0
  have N0 := Fr.nil n0
  refine m_aloadN K X0.here hx hby d_jdk_42_3_0 rfl rfl rfl ?_
  refine m_aloadN K X0.here hx hby d_jdk_42_3_1 rfl rfl rfl ?_
  refine m_iconst K X0.here hx hby (0 : Int32) d_jdk_42_3_2 rfl rfl ?_
  refine m_aloadN K X0.here hx hby d_jdk_42_3_3 rfl rfl rfl ?_
  refine k_len K X0 hx hby hZ (4 : Int32) e0 A_a2 rfl d_jdk_42_3_4 rfl ?_
  refine m_null K X0.here hx hby d_jdk_42_3_5 rfl ?_
  refine k_callP K X0 hx hby hZ a1 [(.ref a2), (.int (0 : Int32)), (.int (4 : Int32)), .null] [] hown (W hw 11 rfl) (W hw 12 rfl) (W hw 7 rfl) (W hw 14 rfl) rfl (csi4_1 l Z a0 hw a1 a2 cz vf c0 c1 c2 c3 h0 n0 Z0 E_a1 F_value_a1 F_coder_a1 A_a2 O0 g_a1 SS hl_0 hg hch_0 hch_1 hch_2 hch_3) e0 rfl rfl pd_13 rfl d_jdk_42_3_6 (by rw [hml]; rfl) rfl (by decide) (by decide) (Nat.le_of_ble_eq_true rfl) (by decide) (by decide) fun v1 T1 L1 X1 q1 => ?_
  obtain ⟨b1_bv, rfl, Nq1, K1, sq_b1_bv, Fp1_0, Fp1_1, Ap1_0⟩ := q1
  have N1 := Fr.app N0 Nq1
  have sz_b1_bv : h0.size ≤ b1_bv := Nat.le_trans (Nat.le_refl _) sq_b1_bv
  have g_b1_bv : n0 ≤ b1_bv := Nat.le_trans Z0 sz_b1_bv
  refine k_none K ?_
  exact Go.retV X1 hx hby hlk hret d_jdk_42_3_9 (by decide) (by decide) (⟨b1_bv, rfl, N1, ((Keep.refl h0 [a1]).trans K1 (allS (Or.inl (by simp)) all0)), sz_b1_bv, Fp1_0, Fp1_1, Ap1_0⟩)
theorem efcf4_2 (m : MethodId) (x0 : Addr) (x1 : Int32) (x2 : Addr) (x3 : Int32) (x4 : Int32) : entryFrame m #[(.ref x0), (.int x1), (.ref x2), (.int x3), (.int x4)] 7 = mkF m 0 #[.val (.ref x0), .val (.int x1), .val (.ref x2), .val (.int x3), .val (.int x4), .unset, .unset] [] := by first | (simp [entryFrame, mkF, argsToLocals, Value.category]; done) | rfl
set_option maxRecDepth 65536 in
set_option maxHeartbeats 40000000 in
theorem ccf4_2 (l : Launch) (Z : State) (a0 : Array Value) (hw : ∀ d ∈ tables_1, d.before a0 Z = true) (a1 : Addr) (a3 : Addr) (cz : Int32) (vf : Value) (c0 : Int32) (c1 : Int32) (c2 : Int32) (c3 : Int32) (h0 : Heap) (n0 : Nat) (Z0 : n0 ≤ h0.size) (A_a1 : Av Z h0 a1 .char [(.int c0), (.int c1), (.int c2), (.int c3)]) (A_a3 : Av Z h0 a3 .byte [(.int (0 : Int32)), (.int (0 : Int32)), (.int (0 : Int32)), (.int (0 : Int32))]) (O0 : Old Z n0 h0) (g_a3 : n0 ≤ a3) (ne_a1_a3 : a1 ≠ a3) (SS : SSt Z cz vf) (hl_0 : ¬ ((255 : Int32) < c0)) (hl_1 : ¬ ((255 : Int32) < c1)) (hg : (255 : Int32) < c2) (hch_0 : nar .char c0 = c0) (hch_1 : nar .char c1 = c1) (hch_2 : nar .char c2 = c2) (hch_3 : nar .char c3 = c3) :
    Con l Z (⟨"java/lang/StringUTF16", "compress", "([CI[BII)I"⟩ : MethodName) jdk_52_method_21_code 7 (some .int) ({ frames := 0, cells := 0, slots := 0, locals := 0 } : Room) [] #[(.ref a1), (.int (0 : Int32)), (.ref a3), (.int (0 : Int32)), (.int (4 : Int32))] h0 (fun v h L => v = some (.int (2 : Int32)) ∧ Fr n0 L ∧ Keep h0 h [a3] ∧ Av Z h a3 .byte [(.int (nar .byte (c0.toInt8.toInt32))), (.int (nar .byte (c1.toInt8.toInt32))), (.int (0 : Int32)), (.int (0 : Int32))]) := by
  refine Con.of (plainFor_of_name pn_java_lang_StringUTF16) #[.val (.ref a1), .val (.int (0 : Int32)), .val (.ref a3), .val (.int (0 : Int32)), .val (.int (4 : Int32)), .unset, .unset] (fun m => efcf4_2 m a1 (0 : Int32) a3 (0 : Int32) (4 : Int32)) ?_
  intro p e s m below meth c s₁ K hx hby hml hown hnm hret hlk hZ X0 e0
  have N0 := Fr.nil n0
  refine m_iconst K X0.here hx hby (0 : Int32) d_jdk_52_21_0 rfl rfl ?_
  refine m_istore K X0.here hx hby #[.val (.ref a1), .val (.int (0 : Int32)), .val (.ref a3), .val (.int (0 : Int32)), .val (.int (4 : Int32)), .val (.int (0 : Int32)), .unset] d_jdk_52_21_1 rfl rfl ?_
  refine m_iload K X0.here hx hby d_jdk_52_21_3 rfl rfl ?_
  refine m_iload K X0.here hx hby d_jdk_52_21_5 rfl rfl ?_
  refine m_icmpN K X0.here hx hby (q := 10) d_jdk_52_21_7 (tlt (by decide : (0 : Int32) < (4 : Int32))).2.1 rfl ?_
  refine m_aloadN K X0.here hx hby d_jdk_52_21_10 rfl rfl rfl ?_
  refine m_iloadN K X0.here hx hby d_jdk_52_21_11 rfl rfl ?_
  refine k_ldC K X0 hx hby hZ e0 A_a1 (v := (.int c0)) (by decide) rfl d_jdk_52_21_12 rfl ?_
  refine m_istore K X0.here hx hby #[.val (.ref a1), .val (.int (0 : Int32)), .val (.ref a3), .val (.int (0 : Int32)), .val (.int (4 : Int32)), .val (.int (0 : Int32)), .val (.int c0)] d_jdk_52_21_13 rfl rfl ?_
  refine m_iload K X0.here hx hby d_jdk_52_21_15 rfl rfl ?_
  refine m_sipush K X0.here hx hby (255 : Int32) d_jdk_52_21_17 rfl rfl ?_
  refine m_icmpY K X0.here hx hby (q := 26) d_jdk_52_21_20 (flt hl_0).2.2.2 (by decide) rfl ?_
  refine m_aloadN K X0.here hx hby d_jdk_52_21_26 rfl rfl rfl ?_
  refine m_iloadN K X0.here hx hby d_jdk_52_21_27 rfl rfl ?_
  refine m_iload K X0.here hx hby d_jdk_52_21_28 rfl rfl ?_
  refine m_i2b K X0.here hx hby (c0.toInt8.toInt32) d_jdk_52_21_30 rfl rfl ?_
  refine k_stB K X0 hx hby hZ e0 A_a3 (by decide) (Nat.le_of_ble_eq_true rfl) d_jdk_52_21_31 rfl fun T1 h1 X1 e1 W1 V1 => ?_
  replace V1 : Av Z h1 a3 .byte [(.int (nar .byte (c0.toInt8.toInt32))), (.int (0 : Int32)), (.int (0 : Int32)), (.int (0 : Int32))] := V1
  have N1 := Fr.snoc X1 N0 g_a3
  refine m_iinc K X1.here hx hby #[.val (.ref a1), .val (.int (1 : Int32)), .val (.ref a3), .val (.int (0 : Int32)), .val (.int (4 : Int32)), .val (.int (0 : Int32)), .val (.int c0)] d_jdk_52_21_32 rfl rfl rfl ?_
  refine m_iinc K X1.here hx hby #[.val (.ref a1), .val (.int (1 : Int32)), .val (.ref a3), .val (.int (1 : Int32)), .val (.int (4 : Int32)), .val (.int (0 : Int32)), .val (.int c0)] d_jdk_52_21_35 rfl rfl rfl ?_
  refine m_iinc K X1.here hx hby #[.val (.ref a1), .val (.int (1 : Int32)), .val (.ref a3), .val (.int (1 : Int32)), .val (.int (4 : Int32)), .val (.int (1 : Int32)), .val (.int c0)] d_jdk_52_21_38 rfl rfl rfl ?_
  refine m_goto K X1.here hx hby (q := 3) d_jdk_52_21_41 (by decide) rfl ?_
  refine m_iload K X1.here hx hby d_jdk_52_21_3 rfl rfl ?_
  refine m_iload K X1.here hx hby d_jdk_52_21_5 rfl rfl ?_
  refine m_icmpN K X1.here hx hby (q := 10) d_jdk_52_21_7 (tlt (by decide : (1 : Int32) < (4 : Int32))).2.1 rfl ?_
  refine m_aloadN K X1.here hx hby d_jdk_52_21_10 rfl rfl rfl ?_
  refine m_iloadN K X1.here hx hby d_jdk_52_21_11 rfl rfl ?_
  refine k_ldC K X1 hx hby hZ e1 (A_a1.other W1 ne_a1_a3) (v := (.int c1)) (by decide) rfl d_jdk_52_21_12 rfl ?_
  refine m_istore K X1.here hx hby #[.val (.ref a1), .val (.int (1 : Int32)), .val (.ref a3), .val (.int (1 : Int32)), .val (.int (4 : Int32)), .val (.int (1 : Int32)), .val (.int c1)] d_jdk_52_21_13 rfl rfl ?_
  refine m_iload K X1.here hx hby d_jdk_52_21_15 rfl rfl ?_
  refine m_sipush K X1.here hx hby (255 : Int32) d_jdk_52_21_17 rfl rfl ?_
  refine m_icmpY K X1.here hx hby (q := 26) d_jdk_52_21_20 (flt hl_1).2.2.2 (by decide) rfl ?_
  refine m_aloadN K X1.here hx hby d_jdk_52_21_26 rfl rfl rfl ?_
  refine m_iloadN K X1.here hx hby d_jdk_52_21_27 rfl rfl ?_
  refine m_iload K X1.here hx hby d_jdk_52_21_28 rfl rfl ?_
  refine m_i2b K X1.here hx hby (c1.toInt8.toInt32) d_jdk_52_21_30 rfl rfl ?_
  refine k_stB K X1 hx hby hZ e1 V1 (by decide) (Nat.le_of_ble_eq_true rfl) d_jdk_52_21_31 rfl fun T2 h2 X2 e2 W2 V2 => ?_
  replace V2 : Av Z h2 a3 .byte [(.int (nar .byte (c0.toInt8.toInt32))), (.int (nar .byte (c1.toInt8.toInt32))), (.int (0 : Int32)), (.int (0 : Int32))] := V2
  have N2 := Fr.snoc X2 N1 g_a3
  refine m_iinc K X2.here hx hby #[.val (.ref a1), .val (.int (2 : Int32)), .val (.ref a3), .val (.int (1 : Int32)), .val (.int (4 : Int32)), .val (.int (1 : Int32)), .val (.int c1)] d_jdk_52_21_32 rfl rfl rfl ?_
  refine m_iinc K X2.here hx hby #[.val (.ref a1), .val (.int (2 : Int32)), .val (.ref a3), .val (.int (2 : Int32)), .val (.int (4 : Int32)), .val (.int (1 : Int32)), .val (.int c1)] d_jdk_52_21_35 rfl rfl rfl ?_
  refine m_iinc K X2.here hx hby #[.val (.ref a1), .val (.int (2 : Int32)), .val (.ref a3), .val (.int (2 : Int32)), .val (.int (4 : Int32)), .val (.int (2 : Int32)), .val (.int c1)] d_jdk_52_21_38 rfl rfl rfl ?_
  refine m_goto K X2.here hx hby (q := 3) d_jdk_52_21_41 (by decide) rfl ?_
  refine m_iload K X2.here hx hby d_jdk_52_21_3 rfl rfl ?_
  refine m_iload K X2.here hx hby d_jdk_52_21_5 rfl rfl ?_
  refine m_icmpN K X2.here hx hby (q := 10) d_jdk_52_21_7 (tlt (by decide : (2 : Int32) < (4 : Int32))).2.1 rfl ?_
  refine m_aloadN K X2.here hx hby d_jdk_52_21_10 rfl rfl rfl ?_
  refine m_iloadN K X2.here hx hby d_jdk_52_21_11 rfl rfl ?_
  refine k_ldC K X2 hx hby hZ e2 ((A_a1.other W1 ne_a1_a3).other W2 ne_a1_a3) (v := (.int c2)) (by decide) rfl d_jdk_52_21_12 rfl ?_
  refine m_istore K X2.here hx hby #[.val (.ref a1), .val (.int (2 : Int32)), .val (.ref a3), .val (.int (2 : Int32)), .val (.int (4 : Int32)), .val (.int (2 : Int32)), .val (.int c2)] d_jdk_52_21_13 rfl rfl ?_
  refine m_iload K X2.here hx hby d_jdk_52_21_15 rfl rfl ?_
  refine m_sipush K X2.here hx hby (255 : Int32) d_jdk_52_21_17 rfl rfl ?_
  refine m_icmpN K X2.here hx hby (q := 23) d_jdk_52_21_20 (tlt hg).2.2.2 rfl ?_
  refine m_iload K X2.here hx hby d_jdk_52_21_23 rfl rfl ?_
  exact Go.retI X2 hx hby hlk hret d_jdk_52_21_25 (by decide) (by decide) (by rw [e2]; exact ⟨rfl, N2, (((Keep.refl h0 [a3]).wr W1 (Or.inl (by simp))).wr W2 (Or.inl (by simp))), V2⟩)
theorem efct4_2 (m : MethodId) (x0 : Addr) (x1 : Int32) (x2 : Int32) : entryFrame m #[(.ref x0), (.int x1), (.int x2)] 6 = mkF m 0 #[.val (.ref x0), .val (.int x1), .val (.int x2), .unset, .unset, .unset] [] := by first | (simp [entryFrame, mkF, argsToLocals, Value.category]; done) | rfl
set_option maxRecDepth 65536 in
set_option maxHeartbeats 40000000 in
theorem cct4_2 (l : Launch) (Z : State) (a0 : Array Value) (hw : ∀ d ∈ tables_1, d.before a0 Z = true) (a1 : Addr) (cz : Int32) (vf : Value) (c0 : Int32) (c1 : Int32) (c2 : Int32) (c3 : Int32) (h0 : Heap) (n0 : Nat) (Z0 : n0 ≤ h0.size) (A_a1 : Av Z h0 a1 .char [(.int c0), (.int c1), (.int c2), (.int c3)]) (O0 : Old Z n0 h0) (SS : SSt Z cz vf) (hl_0 : ¬ ((255 : Int32) < c0)) (hl_1 : ¬ ((255 : Int32) < c1)) (hg : (255 : Int32) < c2) (hch_0 : nar .char c0 = c0) (hch_1 : nar .char c1 = c1) (hch_2 : nar .char c2 = c2) (hch_3 : nar .char c3 = c3) :
    Con l Z (⟨"java/lang/StringUTF16", "compress", "([CII)[B"⟩ : MethodName) jdk_52_method_16_code 6 (some (.array .byte)) ({ frames := 3, cells := 2, slots := 12, locals := 40 } : Room) [] #[(.ref a1), (.int (0 : Int32)), (.int (4 : Int32))] h0 (fun v h L => ∃ bv : Addr, v = some (.ref bv) ∧ Fr n0 L ∧ Keep h0 h [] ∧ h0.size ≤ bv ∧ Av Z h bv .byte [(.int (BLO c0)), (.int (BHI c0)), (.int (BLO c1)), (.int (BHI c1)), (.int (BLO c2)), (.int (BHI c2)), (.int (BLO c3)), (.int (BHI c3))]) := by
  refine Con.of (plainFor_of_name pn_java_lang_StringUTF16) #[.val (.ref a1), .val (.int (0 : Int32)), .val (.int (4 : Int32)), .unset, .unset, .unset] (fun m => efct4_2 m a1 (0 : Int32) (4 : Int32)) ?_
  intro p e s m below meth c s₁ K hx hby hml hown hnm hret hlk hZ X0 e0
  have N0 := Fr.nil n0
  refine m_iloadN K X0.here hx hby d_jdk_52_16_0 rfl rfl ?_
  refine k_newP K X0 hx hby hZ 4 4 (W hw 19 rfl) e0 d_jdk_52_16_1 rfl (by decide) rfl (by decide) (by decide) (by decide) (by decide) fun T1 h1 b1 X1 e1 E1 g1 V_b1 => ?_
  have sz_b1 : h0.size ≤ b1 := Nat.le_trans (Nat.le_refl _) (Nat.le_of_eq g1.symm)
  have g_b1 : n0 ≤ b1 := Nat.le_trans Z0 sz_b1
  replace V_b1 : Av Z h1 b1 .byte [(.int (0 : Int32)), (.int (0 : Int32)), (.int (0 : Int32)), (.int (0 : Int32))] := V_b1
  refine m_astoreN K X1.here hx hby #[.val (.ref a1), .val (.int (0 : Int32)), .val (.int (4 : Int32)), .val (.ref b1), .unset, .unset] d_jdk_52_16_3 rfl rfl rfl ?_
  refine m_aloadN K X1.here hx hby d_jdk_52_16_4 rfl rfl rfl ?_
  refine m_iloadN K X1.here hx hby d_jdk_52_16_5 rfl rfl ?_
  refine m_aloadN K X1.here hx hby d_jdk_52_16_6 rfl rfl rfl ?_
  refine m_iconst K X1.here hx hby (0 : Int32) d_jdk_52_16_7 rfl rfl ?_
  refine m_iloadN K X1.here hx hby d_jdk_52_16_8 rfl rfl ?_
  refine k_callS K X1 hx hby hZ [(.ref a1), (.int (0 : Int32)), (.ref b1), (.int (0 : Int32)), (.int (4 : Int32))] [] hown (W hw 45 rfl) (W hw 46 rfl) (W hw 43 rfl) (W hw 47 rfl) (ccf4_2 l Z a0 hw a1 b1 cz vf c0 c1 c2 c3 h1 n0 (Nat.le_trans Z0 (Nat.le_trans (Nat.le_refl _) E1.1)) (A_a1.ext E1) V_b1 (O0.ext E1) g_b1 (Nat.ne_of_lt (Nat.lt_of_lt_of_le (Nat.lt_of_lt_of_le A_a1.lt (Nat.le_refl _)) (Nat.le_of_eq g1.symm))) SS hl_0 hl_1 hg hch_0 hch_1 hch_2 hch_3) e1 rfl rfl pd_10 rfl d_jdk_52_16_9 (by rw [hml]; rfl) rfl (by decide) (by decide) (Nat.le_of_ble_eq_true rfl) (by decide) (by decide) fun v2 T2 L2 X2 q2 => ?_
  obtain ⟨rfl, Nq2, K2, Ap2_0⟩ := q2
  have N2 := Fr.app N0 Nq2
  refine k_some K (w := (.int (2 : Int32))) ?_
  refine m_istore K X2.here hx hby #[.val (.ref a1), .val (.int (0 : Int32)), .val (.int (4 : Int32)), .val (.ref b1), .val (.int (2 : Int32)), .unset] d_jdk_52_16_12 rfl rfl ?_
  refine m_iload K X2.here hx hby d_jdk_52_16_14 rfl rfl ?_
  refine m_iloadN K X2.here hx hby d_jdk_52_16_16 rfl rfl ?_
  refine m_icmpN K X2.here hx hby (q := 20) d_jdk_52_16_17 (feq (by decide : ¬ ((2 : Int32) = (4 : Int32)))).1 rfl ?_
  refine m_aloadN K X2.here hx hby d_jdk_52_16_20 rfl rfl rfl ?_
  refine m_iloadN K X2.here hx hby d_jdk_52_16_21 rfl rfl ?_
  refine m_iloadN K X2.here hx hby d_jdk_52_16_22 rfl rfl ?_
  refine k_callS K X2 hx hby hZ [(.ref a1), (.int (0 : Int32)), (.int (4 : Int32))] [] hown (W hw 74 rfl) (W hw 75 rfl) (W hw 43 rfl) (W hw 76 rfl) (ctb4 l Z a0 hw a1 cz vf c0 c1 c2 c3 T2.heap n0 (Nat.le_trans Z0 (Nat.le_trans (Nat.le_trans (Nat.le_refl _) E1.1) K2.1)) ((A_a1.ext E1).keep K2 (ninS (Nat.ne_of_lt (Nat.lt_of_lt_of_le (Nat.lt_of_lt_of_le A_a1.lt (Nat.le_refl _)) (Nat.le_of_eq g1.symm))) nin0)) ((O0.ext E1).keep K2 (allS g_b1 all0)) SS) rfl rfl rfl pd_11 rfl d_jdk_52_16_23 (by rw [hml]; rfl) rfl (by decide) (by decide) (Nat.le_of_ble_eq_true rfl) (by decide) (by decide) fun v3 T3 L3 X3 q3 => ?_
  obtain ⟨b3_bv, rfl, Nq3, K3, sq_b3_bv, Ap3_0⟩ := q3
  have N3 := Fr.app N2 Nq3
  have sz_b3_bv : h0.size ≤ b3_bv := Nat.le_trans (Nat.le_trans (Nat.le_trans (Nat.le_refl _) E1.1) K2.1) sq_b3_bv
  have g_b3_bv : n0 ≤ b3_bv := Nat.le_trans Z0 sz_b3_bv
  refine k_some K (w := (.ref b3_bv)) ?_
  refine m_astore K X3.here hx hby #[.val (.ref a1), .val (.int (0 : Int32)), .val (.int (4 : Int32)), .val (.ref b1), .val (.int (2 : Int32)), .val (.ref b3_bv)] d_jdk_52_16_26 rfl rfl rfl ?_
  refine m_aload K X3.here hx hby d_jdk_52_16_28 rfl rfl rfl ?_
  refine m_iload K X3.here hx hby d_jdk_52_16_30 rfl rfl ?_
  refine k_callS K X3 hx hby hZ [(.ref b3_bv), (.int (2 : Int32))] [] hown (W hw 90 rfl) (W hw 91 rfl) (W hw 43 rfl) (W hw 92 rfl) (cgc4_2 l Z a0 hw b3_bv cz vf (BLO c0) (BHI c0) (BLO c1) (BHI c1) (BLO c2) (BHI c2) (BLO c3) (BHI c3) T3.heap n0 (Nat.le_trans Z0 (Nat.le_trans (Nat.le_trans (Nat.le_trans (Nat.le_refl _) E1.1) K2.1) K3.1)) Ap3_0 (((O0.ext E1).keep K2 (allS g_b1 all0)).keep K3 all0) SS) rfl rfl rfl pd_5 rfl d_jdk_52_16_32 (by rw [hml]; rfl) rfl (by decide) (by decide) (Nat.le_of_ble_eq_true rfl) (by decide) (by decide) fun v4 T4 L4 X4 q4 => ?_
  obtain ⟨rfl, e4, rfl⟩ := q4
  replace X4 := own_px X4
  refine k_some K (w := (.int (GCH (BLO c2) (BHI c2)))) ?_
  refine m_sipush K X4.here hx hby (255 : Int32) d_jdk_52_16_35 rfl rfl ?_
  refine m_icmpY K X4.here hx hby (q := 54) d_jdk_52_16_38 (tlt (own_rgt c2 hch_2 hg)).2.2.1 (by decide) rfl ?_
  refine m_aload K X4.here hx hby d_jdk_52_16_54 rfl rfl rfl ?_
  exact Go.retO X4 hx hby hlk hret rfl (Or.inr (Or.inr (Or.inr (Or.inr ⟨rfl, rfl, rfl⟩)))) d_jdk_52_16_56 (by decide) (by decide) (by rw [e4]; exact ⟨b3_bv, rfl, N3, ((((Keep.refl h0 []).ext E1).trans K2 (allS (Or.inr sz_b1) all0)).trans K3 all0), sz_b3_bv, Ap3_0⟩)
theorem efsi4_2 (m : MethodId) (x0 : Addr) (x1 : Addr) (x2 : Int32) (x3 : Int32) : entryFrame m #[(.ref x0), (.ref x1), (.int x2), (.int x3), .null] 6 = mkF m 0 #[.val (.ref x0), .val (.ref x1), .val (.int x2), .val (.int x3), .val .null, .unset] [] := by first | (simp [entryFrame, mkF, argsToLocals, Value.category]; done) | rfl
set_option maxRecDepth 65536 in
set_option maxHeartbeats 40000000 in
theorem csi4_2 (l : Launch) (Z : State) (a0 : Array Value) (hw : ∀ d ∈ tables_1, d.before a0 Z = true) (a1 : Addr) (a2 : Addr) (cz : Int32) (vf : Value) (c0 : Int32) (c1 : Int32) (c2 : Int32) (c3 : Int32) (h0 : Heap) (n0 : Nat) (Z0 : n0 ≤ h0.size) (E_a1 : Exa Z h0 a1 "java/lang/String") (F_value_a1 : Fld Z h0 a1 "java/lang/String" "value" "[B" .null) (F_coder_a1 : Fld Z h0 a1 "java/lang/String" "coder" "B" (.int (0 : Int32))) (A_a2 : Av Z h0 a2 .char [(.int c0), (.int c1), (.int c2), (.int c3)]) (O0 : Old Z n0 h0) (g_a1 : n0 ≤ a1) (SS : SSt Z cz vf) (hl_0 : ¬ ((255 : Int32) < c0)) (hl_1 : ¬ ((255 : Int32) < c1)) (hg : (255 : Int32) < c2) (hch_0 : nar .char c0 = c0) (hch_1 : nar .char c1 = c1) (hch_2 : nar .char c2 = c2) (hch_3 : nar .char c3 = c3) :
    Con l Z (⟨"java/lang/String", "<init>", "([CIILjava/lang/Void;)V"⟩ : MethodName) jdk_42_method_149_code 6 none ({ frames := 4, cells := 2, slots := 12, locals := 57 } : Room) [] #[(.ref a1), (.ref a2), (.int (0 : Int32)), (.int (4 : Int32)), .null] h0 (fun v h L => ∃ bv : Addr, v = none ∧ Fr n0 L ∧ Keep h0 h [a1] ∧ h0.size ≤ bv ∧ Fld Z h a1 "java/lang/String" "value" "[B" (.ref bv) ∧ Fld Z h a1 "java/lang/String" "coder" "B" (.int (1 : Int32)) ∧ Av Z h bv .byte [(.int (BLO c0)), (.int (BHI c0)), (.int (BLO c1)), (.int (BHI c1)), (.int (BLO c2)), (.int (BHI c2)), (.int (BLO c3)), (.int (BHI c3))]) := by
  refine Con.of (plainFor_of_name pn_java_lang_String) #[.val (.ref a1), .val (.ref a2), .val (.int (0 : Int32)), .val (.int (4 : Int32)), .val .null, .unset] (fun m => efsi4_2 m a1 a2 (0 : Int32) (4 : Int32)) ?_
  intro p e s m below meth c s₁ K hx hby hml hown hnm hret hlk hZ X0 e0
  have N0 := Fr.nil n0
  refine m_aloadN K X0.here hx hby d_jdk_42_149_0 rfl rfl rfl ?_
  refine k_initO K X0 hx hby hZ hown (W hw 15 rfl) (W hw 16 rfl) (W hw 17 rfl) e0 d_jdk_42_149_1 (by rw [hml]; rfl) rfl (by decide) (Nat.le_of_ble_eq_true rfl) fun T1 X1 e1 => ?_
  refine m_iloadN K X1.here hx hby d_jdk_42_149_4 rfl rfl ?_
  refine m_ifY K X1.here hx hby (q := 27) d_jdk_42_149_5 ((if0 _ _).trans (feq (by decide : ¬ ((4 : Int32) = (0 : Int32)))).2) (by decide) rfl ?_
  refine k_getS K X1 hx hby hZ hown (host := "") (Or.inl (W hw 40 rfl)) Via.refl e1 (SS.cs.ext O0.2) d_jdk_42_149_27 rfl fun T2 X2 e2 => ?_
  refine m_ifN K X2.here hx hby (q := 33) d_jdk_42_149_30 ((if0 _ _).trans (feq SS.cz).1) rfl ?_
  refine m_aloadN K X2.here hx hby d_jdk_42_149_33 rfl rfl rfl ?_
  refine m_iloadN K X2.here hx hby d_jdk_42_149_34 rfl rfl ?_
  refine m_iloadN K X2.here hx hby d_jdk_42_149_35 rfl rfl ?_
  refine k_callS K X2 hx hby hZ [(.ref a2), (.int (0 : Int32)), (.int (4 : Int32))] [] hown (W hw 41 rfl) (W hw 42 rfl) (W hw 43 rfl) (W hw 44 rfl) (cct4_2 l Z a0 hw a2 cz vf c0 c1 c2 c3 h0 n0 Z0 A_a2 O0 SS hl_0 hl_1 hg hch_0 hch_1 hch_2 hch_3) e2 rfl rfl pd_11 rfl d_jdk_42_149_36 (by rw [hml]; rfl) rfl (by decide) (by decide) (Nat.le_of_ble_eq_true rfl) (by decide) (by decide) fun v3 T3 L3 X3 q3 => ?_
  obtain ⟨b3_bv, rfl, Nq3, K3, sq_b3_bv, Ap3_0⟩ := q3
  have N3 := Fr.app N0 Nq3
  have sz_b3_bv : h0.size ≤ b3_bv := Nat.le_trans (Nat.le_refl _) sq_b3_bv
  have g_b3_bv : n0 ≤ b3_bv := Nat.le_trans Z0 sz_b3_bv
  refine k_some K (w := (.ref b3_bv)) ?_
  refine m_astore K X3.here hx hby #[.val (.ref a1), .val (.ref a2), .val (.int (0 : Int32)), .val (.int (4 : Int32)), .val .null, .val (.ref b3_bv)] d_jdk_42_149_39 rfl rfl rfl ?_
  refine m_aloadN K X3.here hx hby d_jdk_42_149_41 rfl rfl rfl ?_
  refine m_aload K X3.here hx hby d_jdk_42_149_42 rfl rfl rfl ?_
  refine m_iloadN K X3.here hx hby d_jdk_42_149_44 rfl rfl ?_
  refine k_callS K X3 hx hby hZ [(.ref b3_bv), (.int (4 : Int32))] [(.ref a1)] hown (W hw 48 rfl) (W hw 49 rfl) (W hw 43 rfl) (W hw 50 rfl) (ccc4_8 l Z a0 hw b3_bv cz vf (BLO c0) (BHI c0) (BLO c1) (BHI c1) (BLO c2) (BHI c2) (BLO c3) (BHI c3) T3.heap n0 (Nat.le_trans Z0 (Nat.le_trans (Nat.le_refl _) K3.1)) Ap3_0 (O0.keep K3 all0) SS) rfl rfl rfl pd_12 rfl d_jdk_42_149_45 (by rw [hml]; rfl) rfl (by decide) (by decide) (Nat.le_of_ble_eq_true rfl) (by decide) (by decide) fun v4 T4 L4 X4 q4 => ?_
  obtain ⟨rfl, e4, rfl⟩ := q4
  replace X4 := own_px X4
  refine k_some K (w := (.int (1 : Int32))) ?_
  refine k_putF K X4 hx hby hZ hown (host := "") (Or.inl (W hw 25 rfl)) Via.refl e4 (F_coder_a1.keep K3 nin0) (E_a1.keep K3) (Or.inr ⟨(W hw 21 rfl), rfl, hnm⟩) (W hw 6 rfl) (ty := .byte) (by decide) (by decide) (by decide) d_jdk_42_149_48 rfl fun T5 h5 X5 e5 W5 => ?_
  have Fw5 := (F_coder_a1.keep K3 nin0).same W5
  have N5 := Fr.snoc X5 N3 g_a1
  refine m_aloadN K X5.here hx hby d_jdk_42_149_51 rfl rfl rfl ?_
  refine m_aload K X5.here hx hby d_jdk_42_149_52 rfl rfl rfl ?_
  refine k_putF K X5 hx hby hZ hown (host := "") (Or.inl (W hw 24 rfl)) Via.refl e5 ((F_value_a1.keep K3 nin0).other W5 (Or.inr (slot_ne (Or.inr (W hw 20 rfl)) (Or.inr (W hw 21 rfl)) (by decide) (t := (.array .byte)) (t' := .byte) (by decide) (by decide)))) ((E_a1.keep K3).wr W5) (Or.inr ⟨(W hw 20 rfl), rfl, hnm⟩) (W hw 6 rfl) (ty := (.array .byte)) (by decide) rfl rfl d_jdk_42_149_54 rfl fun T6 h6 X6 e6 W6 => ?_
  have Fw6 := ((F_value_a1.keep K3 nin0).other W5 (Or.inr (slot_ne (Or.inr (W hw 20 rfl)) (Or.inr (W hw 21 rfl)) (by decide) (t := (.array .byte)) (t' := .byte) (by decide) (by decide)))).same W6
  have N6 := Fr.snoc X6 N5 g_a1
  exact Go.retV X6 hx hby hlk hret d_jdk_42_149_57 (by decide) (by decide) (by rw [e6]; exact ⟨b3_bv, rfl, N6, ((((Keep.refl h0 [a1]).trans K3 all0).wr W5 (Or.inl (by simp))).wr W6 (Or.inl (by simp))), sz_b3_bv, Fw6, (Fw5.other W6 (Or.inr (slot_ne (Or.inr (W hw 21 rfl)) (Or.inr (W hw 20 rfl)) (by decide) (t := .byte) (t' := (.array .byte)) (by decide) (by decide)))), ((Ap3_0.other W5 (Ne.symm (Nat.ne_of_lt (Nat.lt_of_lt_of_le (Nat.lt_of_lt_of_le E_a1.lt (Nat.le_refl _)) sq_b3_bv)))).other W6 (Ne.symm (Nat.ne_of_lt (Nat.lt_of_lt_of_le (Nat.lt_of_lt_of_le E_a1.lt (Nat.le_refl _)) sq_b3_bv))))⟩)
theorem efsj4_2 (m : MethodId) (x0 : Addr) (x1 : Addr) : entryFrame m #[(.ref x0), (.ref x1)] 2 = mkF m 0 #[.val (.ref x0), .val (.ref x1)] [] := by first | (simp [entryFrame, mkF, argsToLocals, Value.category]; done) | rfl
set_option maxRecDepth 65536 in
set_option maxHeartbeats 40000000 in
theorem csj4_2 (l : Launch) (Z : State) (a0 : Array Value) (hw : ∀ d ∈ tables_1, d.before a0 Z = true) (a1 : Addr) (a2 : Addr) (cz : Int32) (vf : Value) (c0 : Int32) (c1 : Int32) (c2 : Int32) (c3 : Int32) (h0 : Heap) (n0 : Nat) (Z0 : n0 ≤ h0.size) (E_a1 : Exa Z h0 a1 "java/lang/String") (F_value_a1 : Fld Z h0 a1 "java/lang/String" "value" "[B" .null) (F_coder_a1 : Fld Z h0 a1 "java/lang/String" "coder" "B" (.int (0 : Int32))) (A_a2 : Av Z h0 a2 .char [(.int c0), (.int c1), (.int c2), (.int c3)]) (O0 : Old Z n0 h0) (g_a1 : n0 ≤ a1) (SS : SSt Z cz vf) (hl_0 : ¬ ((255 : Int32) < c0)) (hl_1 : ¬ ((255 : Int32) < c1)) (hg : (255 : Int32) < c2) (hch_0 : nar .char c0 = c0) (hch_1 : nar .char c1 = c1) (hch_2 : nar .char c2 = c2) (hch_3 : nar .char c3 = c3) :
    Con l Z (⟨"java/lang/String", "<init>", "([C)V"⟩ : MethodName) jdk_42_method_3_code 2 none ({ frames := 5, cells := 2, slots := 12, locals := 74 } : Room) [] #[(.ref a1), (.ref a2)] h0 (fun v h L => ∃ bv : Addr, v = none ∧ Fr n0 L ∧ Keep h0 h [a1] ∧ h0.size ≤ bv ∧ Fld Z h a1 "java/lang/String" "value" "[B" (.ref bv) ∧ Fld Z h a1 "java/lang/String" "coder" "B" (.int (1 : Int32)) ∧ Av Z h bv .byte [(.int (BLO c0)), (.int (BHI c0)), (.int (BLO c1)), (.int (BHI c1)), (.int (BLO c2)), (.int (BHI c2)), (.int (BLO c3)), (.int (BHI c3))]) := by
  refine Con.of (plainFor_of_name pn_java_lang_String) #[.val (.ref a1), .val (.ref a2)] (fun m => efsj4_2 m a1 a2) ?_
  intro p e s m below meth c s₁ K hx hby hml hown hnm hret hlk hZ X0 e0
  have N0 := Fr.nil n0
  refine m_aloadN K X0.here hx hby d_jdk_42_3_0 rfl rfl rfl ?_
  refine m_aloadN K X0.here hx hby d_jdk_42_3_1 rfl rfl rfl ?_
  refine m_iconst K X0.here hx hby (0 : Int32) d_jdk_42_3_2 rfl rfl ?_
  refine m_aloadN K X0.here hx hby d_jdk_42_3_3 rfl rfl rfl ?_
  refine k_len K X0 hx hby hZ (4 : Int32) e0 A_a2 rfl d_jdk_42_3_4 rfl ?_
  refine m_null K X0.here hx hby d_jdk_42_3_5 rfl ?_
  refine k_callP K X0 hx hby hZ a1 [(.ref a2), (.int (0 : Int32)), (.int (4 : Int32)), .null] [] hown (W hw 11 rfl) (W hw 12 rfl) (W hw 7 rfl) (W hw 14 rfl) rfl (csi4_2 l Z a0 hw a1 a2 cz vf c0 c1 c2 c3 h0 n0 Z0 E_a1 F_value_a1 F_coder_a1 A_a2 O0 g_a1 SS hl_0 hl_1 hg hch_0 hch_1 hch_2 hch_3) e0 rfl rfl pd_13 rfl d_jdk_42_3_6 (by rw [hml]; rfl) rfl (by decide) (by decide) (Nat.le_of_ble_eq_true rfl) (by decide) (by decide) fun v1 T1 L1 X1 q1 => ?_
  obtain ⟨b1_bv, rfl, Nq1, K1, sq_b1_bv, Fp1_0, Fp1_1, Ap1_0⟩ := q1
  have N1 := Fr.app N0 Nq1
  have sz_b1_bv : h0.size ≤ b1_bv := Nat.le_trans (Nat.le_refl _) sq_b1_bv
  have g_b1_bv : n0 ≤ b1_bv := Nat.le_trans Z0 sz_b1_bv
  refine k_none K ?_
  exact Go.retV X1 hx hby hlk hret d_jdk_42_3_9 (by decide) (by decide) (⟨b1_bv, rfl, N1, ((Keep.refl h0 [a1]).trans K1 (allS (Or.inl (by simp)) all0)), sz_b1_bv, Fp1_0, Fp1_1, Ap1_0⟩)
theorem efcf4_3 (m : MethodId) (x0 : Addr) (x1 : Int32) (x2 : Addr) (x3 : Int32) (x4 : Int32) : entryFrame m #[(.ref x0), (.int x1), (.ref x2), (.int x3), (.int x4)] 7 = mkF m 0 #[.val (.ref x0), .val (.int x1), .val (.ref x2), .val (.int x3), .val (.int x4), .unset, .unset] [] := by first | (simp [entryFrame, mkF, argsToLocals, Value.category]; done) | rfl
set_option maxRecDepth 65536 in
set_option maxHeartbeats 40000000 in
theorem ccf4_3 (l : Launch) (Z : State) (a0 : Array Value) (hw : ∀ d ∈ tables_1, d.before a0 Z = true) (a1 : Addr) (a3 : Addr) (cz : Int32) (vf : Value) (c0 : Int32) (c1 : Int32) (c2 : Int32) (c3 : Int32) (h0 : Heap) (n0 : Nat) (Z0 : n0 ≤ h0.size) (A_a1 : Av Z h0 a1 .char [(.int c0), (.int c1), (.int c2), (.int c3)]) (A_a3 : Av Z h0 a3 .byte [(.int (0 : Int32)), (.int (0 : Int32)), (.int (0 : Int32)), (.int (0 : Int32))]) (O0 : Old Z n0 h0) (g_a3 : n0 ≤ a3) (ne_a1_a3 : a1 ≠ a3) (SS : SSt Z cz vf) (hl_0 : ¬ ((255 : Int32) < c0)) (hl_1 : ¬ ((255 : Int32) < c1)) (hl_2 : ¬ ((255 : Int32) < c2)) (hg : (255 : Int32) < c3) (hch_0 : nar .char c0 = c0) (hch_1 : nar .char c1 = c1) (hch_2 : nar .char c2 = c2) (hch_3 : nar .char c3 = c3) :
    Con l Z (⟨"java/lang/StringUTF16", "compress", "([CI[BII)I"⟩ : MethodName) jdk_52_method_21_code 7 (some .int) ({ frames := 0, cells := 0, slots := 0, locals := 0 } : Room) [] #[(.ref a1), (.int (0 : Int32)), (.ref a3), (.int (0 : Int32)), (.int (4 : Int32))] h0 (fun v h L => v = some (.int (3 : Int32)) ∧ Fr n0 L ∧ Keep h0 h [a3] ∧ Av Z h a3 .byte [(.int (nar .byte (c0.toInt8.toInt32))), (.int (nar .byte (c1.toInt8.toInt32))), (.int (nar .byte (c2.toInt8.toInt32))), (.int (0 : Int32))]) := by
  refine Con.of (plainFor_of_name pn_java_lang_StringUTF16) #[.val (.ref a1), .val (.int (0 : Int32)), .val (.ref a3), .val (.int (0 : Int32)), .val (.int (4 : Int32)), .unset, .unset] (fun m => efcf4_3 m a1 (0 : Int32) a3 (0 : Int32) (4 : Int32)) ?_
  intro p e s m below meth c s₁ K hx hby hml hown hnm hret hlk hZ X0 e0
  have N0 := Fr.nil n0
  refine m_iconst K X0.here hx hby (0 : Int32) d_jdk_52_21_0 rfl rfl ?_
  refine m_istore K X0.here hx hby #[.val (.ref a1), .val (.int (0 : Int32)), .val (.ref a3), .val (.int (0 : Int32)), .val (.int (4 : Int32)), .val (.int (0 : Int32)), .unset] d_jdk_52_21_1 rfl rfl ?_
  refine m_iload K X0.here hx hby d_jdk_52_21_3 rfl rfl ?_
  refine m_iload K X0.here hx hby d_jdk_52_21_5 rfl rfl ?_
  refine m_icmpN K X0.here hx hby (q := 10) d_jdk_52_21_7 (tlt (by decide : (0 : Int32) < (4 : Int32))).2.1 rfl ?_
  refine m_aloadN K X0.here hx hby d_jdk_52_21_10 rfl rfl rfl ?_
  refine m_iloadN K X0.here hx hby d_jdk_52_21_11 rfl rfl ?_
  refine k_ldC K X0 hx hby hZ e0 A_a1 (v := (.int c0)) (by decide) rfl d_jdk_52_21_12 rfl ?_
  refine m_istore K X0.here hx hby #[.val (.ref a1), .val (.int (0 : Int32)), .val (.ref a3), .val (.int (0 : Int32)), .val (.int (4 : Int32)), .val (.int (0 : Int32)), .val (.int c0)] d_jdk_52_21_13 rfl rfl ?_
  refine m_iload K X0.here hx hby d_jdk_52_21_15 rfl rfl ?_
  refine m_sipush K X0.here hx hby (255 : Int32) d_jdk_52_21_17 rfl rfl ?_
  refine m_icmpY K X0.here hx hby (q := 26) d_jdk_52_21_20 (flt hl_0).2.2.2 (by decide) rfl ?_
  refine m_aloadN K X0.here hx hby d_jdk_52_21_26 rfl rfl rfl ?_
  refine m_iloadN K X0.here hx hby d_jdk_52_21_27 rfl rfl ?_
  refine m_iload K X0.here hx hby d_jdk_52_21_28 rfl rfl ?_
  refine m_i2b K X0.here hx hby (c0.toInt8.toInt32) d_jdk_52_21_30 rfl rfl ?_
  refine k_stB K X0 hx hby hZ e0 A_a3 (by decide) (Nat.le_of_ble_eq_true rfl) d_jdk_52_21_31 rfl fun T1 h1 X1 e1 W1 V1 => ?_
  replace V1 : Av Z h1 a3 .byte [(.int (nar .byte (c0.toInt8.toInt32))), (.int (0 : Int32)), (.int (0 : Int32)), (.int (0 : Int32))] := V1
  have N1 := Fr.snoc X1 N0 g_a3
  refine m_iinc K X1.here hx hby #[.val (.ref a1), .val (.int (1 : Int32)), .val (.ref a3), .val (.int (0 : Int32)), .val (.int (4 : Int32)), .val (.int (0 : Int32)), .val (.int c0)] d_jdk_52_21_32 rfl rfl rfl ?_
  refine m_iinc K X1.here hx hby #[.val (.ref a1), .val (.int (1 : Int32)), .val (.ref a3), .val (.int (1 : Int32)), .val (.int (4 : Int32)), .val (.int (0 : Int32)), .val (.int c0)] d_jdk_52_21_35 rfl rfl rfl ?_
  refine m_iinc K X1.here hx hby #[.val (.ref a1), .val (.int (1 : Int32)), .val (.ref a3), .val (.int (1 : Int32)), .val (.int (4 : Int32)), .val (.int (1 : Int32)), .val (.int c0)] d_jdk_52_21_38 rfl rfl rfl ?_
  refine m_goto K X1.here hx hby (q := 3) d_jdk_52_21_41 (by decide) rfl ?_
  refine m_iload K X1.here hx hby d_jdk_52_21_3 rfl rfl ?_
  refine m_iload K X1.here hx hby d_jdk_52_21_5 rfl rfl ?_
  refine m_icmpN K X1.here hx hby (q := 10) d_jdk_52_21_7 (tlt (by decide : (1 : Int32) < (4 : Int32))).2.1 rfl ?_
  refine m_aloadN K X1.here hx hby d_jdk_52_21_10 rfl rfl rfl ?_
  refine m_iloadN K X1.here hx hby d_jdk_52_21_11 rfl rfl ?_
  refine k_ldC K X1 hx hby hZ e1 (A_a1.other W1 ne_a1_a3) (v := (.int c1)) (by decide) rfl d_jdk_52_21_12 rfl ?_
  refine m_istore K X1.here hx hby #[.val (.ref a1), .val (.int (1 : Int32)), .val (.ref a3), .val (.int (1 : Int32)), .val (.int (4 : Int32)), .val (.int (1 : Int32)), .val (.int c1)] d_jdk_52_21_13 rfl rfl ?_
  refine m_iload K X1.here hx hby d_jdk_52_21_15 rfl rfl ?_
  refine m_sipush K X1.here hx hby (255 : Int32) d_jdk_52_21_17 rfl rfl ?_
  refine m_icmpY K X1.here hx hby (q := 26) d_jdk_52_21_20 (flt hl_1).2.2.2 (by decide) rfl ?_
  refine m_aloadN K X1.here hx hby d_jdk_52_21_26 rfl rfl rfl ?_
  refine m_iloadN K X1.here hx hby d_jdk_52_21_27 rfl rfl ?_
  refine m_iload K X1.here hx hby d_jdk_52_21_28 rfl rfl ?_
  refine m_i2b K X1.here hx hby (c1.toInt8.toInt32) d_jdk_52_21_30 rfl rfl ?_
  refine k_stB K X1 hx hby hZ e1 V1 (by decide) (Nat.le_of_ble_eq_true rfl) d_jdk_52_21_31 rfl fun T2 h2 X2 e2 W2 V2 => ?_
  replace V2 : Av Z h2 a3 .byte [(.int (nar .byte (c0.toInt8.toInt32))), (.int (nar .byte (c1.toInt8.toInt32))), (.int (0 : Int32)), (.int (0 : Int32))] := V2
  have N2 := Fr.snoc X2 N1 g_a3
  refine m_iinc K X2.here hx hby #[.val (.ref a1), .val (.int (2 : Int32)), .val (.ref a3), .val (.int (1 : Int32)), .val (.int (4 : Int32)), .val (.int (1 : Int32)), .val (.int c1)] d_jdk_52_21_32 rfl rfl rfl ?_
  refine m_iinc K X2.here hx hby #[.val (.ref a1), .val (.int (2 : Int32)), .val (.ref a3), .val (.int (2 : Int32)), .val (.int (4 : Int32)), .val (.int (1 : Int32)), .val (.int c1)] d_jdk_52_21_35 rfl rfl rfl ?_
  refine m_iinc K X2.here hx hby #[.val (.ref a1), .val (.int (2 : Int32)), .val (.ref a3), .val (.int (2 : Int32)), .val (.int (4 : Int32)), .val (.int (2 : Int32)), .val (.int c1)] d_jdk_52_21_38 rfl rfl rfl ?_
  refine m_goto K X2.here hx hby (q := 3) d_jdk_52_21_41 (by decide) rfl ?_
  refine m_iload K X2.here hx hby d_jdk_52_21_3 rfl rfl ?_
  refine m_iload K X2.here hx hby d_jdk_52_21_5 rfl rfl ?_
  refine m_icmpN K X2.here hx hby (q := 10) d_jdk_52_21_7 (tlt (by decide : (2 : Int32) < (4 : Int32))).2.1 rfl ?_
  refine m_aloadN K X2.here hx hby d_jdk_52_21_10 rfl rfl rfl ?_
  refine m_iloadN K X2.here hx hby d_jdk_52_21_11 rfl rfl ?_
  refine k_ldC K X2 hx hby hZ e2 ((A_a1.other W1 ne_a1_a3).other W2 ne_a1_a3) (v := (.int c2)) (by decide) rfl d_jdk_52_21_12 rfl ?_
  refine m_istore K X2.here hx hby #[.val (.ref a1), .val (.int (2 : Int32)), .val (.ref a3), .val (.int (2 : Int32)), .val (.int (4 : Int32)), .val (.int (2 : Int32)), .val (.int c2)] d_jdk_52_21_13 rfl rfl ?_
  refine m_iload K X2.here hx hby d_jdk_52_21_15 rfl rfl ?_
  refine m_sipush K X2.here hx hby (255 : Int32) d_jdk_52_21_17 rfl rfl ?_
  refine m_icmpY K X2.here hx hby (q := 26) d_jdk_52_21_20 (flt hl_2).2.2.2 (by decide) rfl ?_
  refine m_aloadN K X2.here hx hby d_jdk_52_21_26 rfl rfl rfl ?_
  refine m_iloadN K X2.here hx hby d_jdk_52_21_27 rfl rfl ?_
  refine m_iload K X2.here hx hby d_jdk_52_21_28 rfl rfl ?_
  refine m_i2b K X2.here hx hby (c2.toInt8.toInt32) d_jdk_52_21_30 rfl rfl ?_
  refine k_stB K X2 hx hby hZ e2 V2 (by decide) (Nat.le_of_ble_eq_true rfl) d_jdk_52_21_31 rfl fun T3 h3 X3 e3 W3 V3 => ?_
  replace V3 : Av Z h3 a3 .byte [(.int (nar .byte (c0.toInt8.toInt32))), (.int (nar .byte (c1.toInt8.toInt32))), (.int (nar .byte (c2.toInt8.toInt32))), (.int (0 : Int32))] := V3
  have N3 := Fr.snoc X3 N2 g_a3
  refine m_iinc K X3.here hx hby #[.val (.ref a1), .val (.int (3 : Int32)), .val (.ref a3), .val (.int (2 : Int32)), .val (.int (4 : Int32)), .val (.int (2 : Int32)), .val (.int c2)] d_jdk_52_21_32 rfl rfl rfl ?_
  refine m_iinc K X3.here hx hby #[.val (.ref a1), .val (.int (3 : Int32)), .val (.ref a3), .val (.int (3 : Int32)), .val (.int (4 : Int32)), .val (.int (2 : Int32)), .val (.int c2)] d_jdk_52_21_35 rfl rfl rfl ?_
  refine m_iinc K X3.here hx hby #[.val (.ref a1), .val (.int (3 : Int32)), .val (.ref a3), .val (.int (3 : Int32)), .val (.int (4 : Int32)), .val (.int (3 : Int32)), .val (.int c2)] d_jdk_52_21_38 rfl rfl rfl ?_
  refine m_goto K X3.here hx hby (q := 3) d_jdk_52_21_41 (by decide) rfl ?_
  refine m_iload K X3.here hx hby d_jdk_52_21_3 rfl rfl ?_
  refine m_iload K X3.here hx hby d_jdk_52_21_5 rfl rfl ?_
  refine m_icmpN K X3.here hx hby (q := 10) d_jdk_52_21_7 (tlt (by decide : (3 : Int32) < (4 : Int32))).2.1 rfl ?_
  refine m_aloadN K X3.here hx hby d_jdk_52_21_10 rfl rfl rfl ?_
  refine m_iloadN K X3.here hx hby d_jdk_52_21_11 rfl rfl ?_
  refine k_ldC K X3 hx hby hZ e3 (((A_a1.other W1 ne_a1_a3).other W2 ne_a1_a3).other W3 ne_a1_a3) (v := (.int c3)) (by decide) rfl d_jdk_52_21_12 rfl ?_
  refine m_istore K X3.here hx hby #[.val (.ref a1), .val (.int (3 : Int32)), .val (.ref a3), .val (.int (3 : Int32)), .val (.int (4 : Int32)), .val (.int (3 : Int32)), .val (.int c3)] d_jdk_52_21_13 rfl rfl ?_
  refine m_iload K X3.here hx hby d_jdk_52_21_15 rfl rfl ?_
  refine m_sipush K X3.here hx hby (255 : Int32) d_jdk_52_21_17 rfl rfl ?_
  refine m_icmpN K X3.here hx hby (q := 23) d_jdk_52_21_20 (tlt hg).2.2.2 rfl ?_
  refine m_iload K X3.here hx hby d_jdk_52_21_23 rfl rfl ?_
  exact Go.retI X3 hx hby hlk hret d_jdk_52_21_25 (by decide) (by decide) (by rw [e3]; exact ⟨rfl, N3, ((((Keep.refl h0 [a3]).wr W1 (Or.inl (by simp))).wr W2 (Or.inl (by simp))).wr W3 (Or.inl (by simp))), V3⟩)
theorem efct4_3 (m : MethodId) (x0 : Addr) (x1 : Int32) (x2 : Int32) : entryFrame m #[(.ref x0), (.int x1), (.int x2)] 6 = mkF m 0 #[.val (.ref x0), .val (.int x1), .val (.int x2), .unset, .unset, .unset] [] := by first | (simp [entryFrame, mkF, argsToLocals, Value.category]; done) | rfl
set_option maxRecDepth 65536 in
set_option maxHeartbeats 40000000 in
theorem cct4_3 (l : Launch) (Z : State) (a0 : Array Value) (hw : ∀ d ∈ tables_1, d.before a0 Z = true) (a1 : Addr) (cz : Int32) (vf : Value) (c0 : Int32) (c1 : Int32) (c2 : Int32) (c3 : Int32) (h0 : Heap) (n0 : Nat) (Z0 : n0 ≤ h0.size) (A_a1 : Av Z h0 a1 .char [(.int c0), (.int c1), (.int c2), (.int c3)]) (O0 : Old Z n0 h0) (SS : SSt Z cz vf) (hl_0 : ¬ ((255 : Int32) < c0)) (hl_1 : ¬ ((255 : Int32) < c1)) (hl_2 : ¬ ((255 : Int32) < c2)) (hg : (255 : Int32) < c3) (hch_0 : nar .char c0 = c0) (hch_1 : nar .char c1 = c1) (hch_2 : nar .char c2 = c2) (hch_3 : nar .char c3 = c3) :
    Con l Z (⟨"java/lang/StringUTF16", "compress", "([CII)[B"⟩ : MethodName) jdk_52_method_16_code 6 (some (.array .byte)) ({ frames := 3, cells := 2, slots := 12, locals := 40 } : Room) [] #[(.ref a1), (.int (0 : Int32)), (.int (4 : Int32))] h0 (fun v h L => ∃ bv : Addr, v = some (.ref bv) ∧ Fr n0 L ∧ Keep h0 h [] ∧ h0.size ≤ bv ∧ Av Z h bv .byte [(.int (BLO c0)), (.int (BHI c0)), (.int (BLO c1)), (.int (BHI c1)), (.int (BLO c2)), (.int (BHI c2)), (.int (BLO c3)), (.int (BHI c3))]) := by
  refine Con.of (plainFor_of_name pn_java_lang_StringUTF16) #[.val (.ref a1), .val (.int (0 : Int32)), .val (.int (4 : Int32)), .unset, .unset, .unset] (fun m => efct4_3 m a1 (0 : Int32) (4 : Int32)) ?_
  intro p e s m below meth c s₁ K hx hby hml hown hnm hret hlk hZ X0 e0
  have N0 := Fr.nil n0
  refine m_iloadN K X0.here hx hby d_jdk_52_16_0 rfl rfl ?_
  refine k_newP K X0 hx hby hZ 4 4 (W hw 19 rfl) e0 d_jdk_52_16_1 rfl (by decide) rfl (by decide) (by decide) (by decide) (by decide) fun T1 h1 b1 X1 e1 E1 g1 V_b1 => ?_
  have sz_b1 : h0.size ≤ b1 := Nat.le_trans (Nat.le_refl _) (Nat.le_of_eq g1.symm)
  have g_b1 : n0 ≤ b1 := Nat.le_trans Z0 sz_b1
  replace V_b1 : Av Z h1 b1 .byte [(.int (0 : Int32)), (.int (0 : Int32)), (.int (0 : Int32)), (.int (0 : Int32))] := V_b1
  refine m_astoreN K X1.here hx hby #[.val (.ref a1), .val (.int (0 : Int32)), .val (.int (4 : Int32)), .val (.ref b1), .unset, .unset] d_jdk_52_16_3 rfl rfl rfl ?_
  refine m_aloadN K X1.here hx hby d_jdk_52_16_4 rfl rfl rfl ?_
  refine m_iloadN K X1.here hx hby d_jdk_52_16_5 rfl rfl ?_
  refine m_aloadN K X1.here hx hby d_jdk_52_16_6 rfl rfl rfl ?_
  refine m_iconst K X1.here hx hby (0 : Int32) d_jdk_52_16_7 rfl rfl ?_
  refine m_iloadN K X1.here hx hby d_jdk_52_16_8 rfl rfl ?_
  refine k_callS K X1 hx hby hZ [(.ref a1), (.int (0 : Int32)), (.ref b1), (.int (0 : Int32)), (.int (4 : Int32))] [] hown (W hw 45 rfl) (W hw 46 rfl) (W hw 43 rfl) (W hw 47 rfl) (ccf4_3 l Z a0 hw a1 b1 cz vf c0 c1 c2 c3 h1 n0 (Nat.le_trans Z0 (Nat.le_trans (Nat.le_refl _) E1.1)) (A_a1.ext E1) V_b1 (O0.ext E1) g_b1 (Nat.ne_of_lt (Nat.lt_of_lt_of_le (Nat.lt_of_lt_of_le A_a1.lt (Nat.le_refl _)) (Nat.le_of_eq g1.symm))) SS hl_0 hl_1 hl_2 hg hch_0 hch_1 hch_2 hch_3) e1 rfl rfl pd_10 rfl d_jdk_52_16_9 (by rw [hml]; rfl) rfl (by decide) (by decide) (Nat.le_of_ble_eq_true rfl) (by decide) (by decide) fun v2 T2 L2 X2 q2 => ?_
  obtain ⟨rfl, Nq2, K2, Ap2_0⟩ := q2
  have N2 := Fr.app N0 Nq2
  refine k_some K (w := (.int (3 : Int32))) ?_
  refine m_istore K X2.here hx hby #[.val (.ref a1), .val (.int (0 : Int32)), .val (.int (4 : Int32)), .val (.ref b1), .val (.int (3 : Int32)), .unset] d_jdk_52_16_12 rfl rfl ?_
  refine m_iload K X2.here hx hby d_jdk_52_16_14 rfl rfl ?_
  refine m_iloadN K X2.here hx hby d_jdk_52_16_16 rfl rfl ?_
  refine m_icmpN K X2.here hx hby (q := 20) d_jdk_52_16_17 (feq (by decide : ¬ ((3 : Int32) = (4 : Int32)))).1 rfl ?_
  refine m_aloadN K X2.here hx hby d_jdk_52_16_20 rfl rfl rfl ?_
  refine m_iloadN K X2.here hx hby d_jdk_52_16_21 rfl rfl ?_
  refine m_iloadN K X2.here hx hby d_jdk_52_16_22 rfl rfl ?_
  refine k_callS K X2 hx hby hZ [(.ref a1), (.int (0 : Int32)), (.int (4 : Int32))] [] hown (W hw 74 rfl) (W hw 75 rfl) (W hw 43 rfl) (W hw 76 rfl) (ctb4 l Z a0 hw a1 cz vf c0 c1 c2 c3 T2.heap n0 (Nat.le_trans Z0 (Nat.le_trans (Nat.le_trans (Nat.le_refl _) E1.1) K2.1)) ((A_a1.ext E1).keep K2 (ninS (Nat.ne_of_lt (Nat.lt_of_lt_of_le (Nat.lt_of_lt_of_le A_a1.lt (Nat.le_refl _)) (Nat.le_of_eq g1.symm))) nin0)) ((O0.ext E1).keep K2 (allS g_b1 all0)) SS) rfl rfl rfl pd_11 rfl d_jdk_52_16_23 (by rw [hml]; rfl) rfl (by decide) (by decide) (Nat.le_of_ble_eq_true rfl) (by decide) (by decide) fun v3 T3 L3 X3 q3 => ?_
  obtain ⟨b3_bv, rfl, Nq3, K3, sq_b3_bv, Ap3_0⟩ := q3
  have N3 := Fr.app N2 Nq3
  have sz_b3_bv : h0.size ≤ b3_bv := Nat.le_trans (Nat.le_trans (Nat.le_trans (Nat.le_refl _) E1.1) K2.1) sq_b3_bv
  have g_b3_bv : n0 ≤ b3_bv := Nat.le_trans Z0 sz_b3_bv
  refine k_some K (w := (.ref b3_bv)) ?_
  refine m_astore K X3.here hx hby #[.val (.ref a1), .val (.int (0 : Int32)), .val (.int (4 : Int32)), .val (.ref b1), .val (.int (3 : Int32)), .val (.ref b3_bv)] d_jdk_52_16_26 rfl rfl rfl ?_
  refine m_aload K X3.here hx hby d_jdk_52_16_28 rfl rfl rfl ?_
  refine m_iload K X3.here hx hby d_jdk_52_16_30 rfl rfl ?_
  refine k_callS K X3 hx hby hZ [(.ref b3_bv), (.int (3 : Int32))] [] hown (W hw 90 rfl) (W hw 91 rfl) (W hw 43 rfl) (W hw 92 rfl) (cgc4_3 l Z a0 hw b3_bv cz vf (BLO c0) (BHI c0) (BLO c1) (BHI c1) (BLO c2) (BHI c2) (BLO c3) (BHI c3) T3.heap n0 (Nat.le_trans Z0 (Nat.le_trans (Nat.le_trans (Nat.le_trans (Nat.le_refl _) E1.1) K2.1) K3.1)) Ap3_0 (((O0.ext E1).keep K2 (allS g_b1 all0)).keep K3 all0) SS) rfl rfl rfl pd_5 rfl d_jdk_52_16_32 (by rw [hml]; rfl) rfl (by decide) (by decide) (Nat.le_of_ble_eq_true rfl) (by decide) (by decide) fun v4 T4 L4 X4 q4 => ?_
  obtain ⟨rfl, e4, rfl⟩ := q4
  replace X4 := own_px X4
  refine k_some K (w := (.int (GCH (BLO c3) (BHI c3)))) ?_
  refine m_sipush K X4.here hx hby (255 : Int32) d_jdk_52_16_35 rfl rfl ?_
  refine m_icmpY K X4.here hx hby (q := 54) d_jdk_52_16_38 (tlt (own_rgt c3 hch_3 hg)).2.2.1 (by decide) rfl ?_
  refine m_aload K X4.here hx hby d_jdk_52_16_54 rfl rfl rfl ?_
  exact Go.retO X4 hx hby hlk hret rfl (Or.inr (Or.inr (Or.inr (Or.inr ⟨rfl, rfl, rfl⟩)))) d_jdk_52_16_56 (by decide) (by decide) (by rw [e4]; exact ⟨b3_bv, rfl, N3, ((((Keep.refl h0 []).ext E1).trans K2 (allS (Or.inr sz_b1) all0)).trans K3 all0), sz_b3_bv, Ap3_0⟩)
theorem efsi4_3 (m : MethodId) (x0 : Addr) (x1 : Addr) (x2 : Int32) (x3 : Int32) : entryFrame m #[(.ref x0), (.ref x1), (.int x2), (.int x3), .null] 6 = mkF m 0 #[.val (.ref x0), .val (.ref x1), .val (.int x2), .val (.int x3), .val .null, .unset] [] := by first | (simp [entryFrame, mkF, argsToLocals, Value.category]; done) | rfl
set_option maxRecDepth 65536 in
set_option maxHeartbeats 40000000 in
theorem csi4_3 (l : Launch) (Z : State) (a0 : Array Value) (hw : ∀ d ∈ tables_1, d.before a0 Z = true) (a1 : Addr) (a2 : Addr) (cz : Int32) (vf : Value) (c0 : Int32) (c1 : Int32) (c2 : Int32) (c3 : Int32) (h0 : Heap) (n0 : Nat) (Z0 : n0 ≤ h0.size) (E_a1 : Exa Z h0 a1 "java/lang/String") (F_value_a1 : Fld Z h0 a1 "java/lang/String" "value" "[B" .null) (F_coder_a1 : Fld Z h0 a1 "java/lang/String" "coder" "B" (.int (0 : Int32))) (A_a2 : Av Z h0 a2 .char [(.int c0), (.int c1), (.int c2), (.int c3)]) (O0 : Old Z n0 h0) (g_a1 : n0 ≤ a1) (SS : SSt Z cz vf) (hl_0 : ¬ ((255 : Int32) < c0)) (hl_1 : ¬ ((255 : Int32) < c1)) (hl_2 : ¬ ((255 : Int32) < c2)) (hg : (255 : Int32) < c3) (hch_0 : nar .char c0 = c0) (hch_1 : nar .char c1 = c1) (hch_2 : nar .char c2 = c2) (hch_3 : nar .char c3 = c3) :
    Con l Z (⟨"java/lang/String", "<init>", "([CIILjava/lang/Void;)V"⟩ : MethodName) jdk_42_method_149_code 6 none ({ frames := 4, cells := 2, slots := 12, locals := 57 } : Room) [] #[(.ref a1), (.ref a2), (.int (0 : Int32)), (.int (4 : Int32)), .null] h0 (fun v h L => ∃ bv : Addr, v = none ∧ Fr n0 L ∧ Keep h0 h [a1] ∧ h0.size ≤ bv ∧ Fld Z h a1 "java/lang/String" "value" "[B" (.ref bv) ∧ Fld Z h a1 "java/lang/String" "coder" "B" (.int (1 : Int32)) ∧ Av Z h bv .byte [(.int (BLO c0)), (.int (BHI c0)), (.int (BLO c1)), (.int (BHI c1)), (.int (BLO c2)), (.int (BHI c2)), (.int (BLO c3)), (.int (BHI c3))]) := by
  refine Con.of (plainFor_of_name pn_java_lang_String) #[.val (.ref a1), .val (.ref a2), .val (.int (0 : Int32)), .val (.int (4 : Int32)), .val .null, .unset] (fun m => efsi4_3 m a1 a2 (0 : Int32) (4 : Int32)) ?_
  intro p e s m below meth c s₁ K hx hby hml hown hnm hret hlk hZ X0 e0
  have N0 := Fr.nil n0
  refine m_aloadN K X0.here hx hby d_jdk_42_149_0 rfl rfl rfl ?_
  refine k_initO K X0 hx hby hZ hown (W hw 15 rfl) (W hw 16 rfl) (W hw 17 rfl) e0 d_jdk_42_149_1 (by rw [hml]; rfl) rfl (by decide) (Nat.le_of_ble_eq_true rfl) fun T1 X1 e1 => ?_
  refine m_iloadN K X1.here hx hby d_jdk_42_149_4 rfl rfl ?_
  refine m_ifY K X1.here hx hby (q := 27) d_jdk_42_149_5 ((if0 _ _).trans (feq (by decide : ¬ ((4 : Int32) = (0 : Int32)))).2) (by decide) rfl ?_
  refine k_getS K X1 hx hby hZ hown (host := "") (Or.inl (W hw 40 rfl)) Via.refl e1 (SS.cs.ext O0.2) d_jdk_42_149_27 rfl fun T2 X2 e2 => ?_
  refine m_ifN K X2.here hx hby (q := 33) d_jdk_42_149_30 ((if0 _ _).trans (feq SS.cz).1) rfl ?_
  refine m_aloadN K X2.here hx hby d_jdk_42_149_33 rfl rfl rfl ?_
  refine m_iloadN K X2.here hx hby d_jdk_42_149_34 rfl rfl ?_
  refine m_iloadN K X2.here hx hby d_jdk_42_149_35 rfl rfl ?_
  refine k_callS K X2 hx hby hZ [(.ref a2), (.int (0 : Int32)), (.int (4 : Int32))] [] hown (W hw 41 rfl) (W hw 42 rfl) (W hw 43 rfl) (W hw 44 rfl) (cct4_3 l Z a0 hw a2 cz vf c0 c1 c2 c3 h0 n0 Z0 A_a2 O0 SS hl_0 hl_1 hl_2 hg hch_0 hch_1 hch_2 hch_3) e2 rfl rfl pd_11 rfl d_jdk_42_149_36 (by rw [hml]; rfl) rfl (by decide) (by decide) (Nat.le_of_ble_eq_true rfl) (by decide) (by decide) fun v3 T3 L3 X3 q3 => ?_
  obtain ⟨b3_bv, rfl, Nq3, K3, sq_b3_bv, Ap3_0⟩ := q3
  have N3 := Fr.app N0 Nq3
  have sz_b3_bv : h0.size ≤ b3_bv := Nat.le_trans (Nat.le_refl _) sq_b3_bv
  have g_b3_bv : n0 ≤ b3_bv := Nat.le_trans Z0 sz_b3_bv
  refine k_some K (w := (.ref b3_bv)) ?_
  refine m_astore K X3.here hx hby #[.val (.ref a1), .val (.ref a2), .val (.int (0 : Int32)), .val (.int (4 : Int32)), .val .null, .val (.ref b3_bv)] d_jdk_42_149_39 rfl rfl rfl ?_
  refine m_aloadN K X3.here hx hby d_jdk_42_149_41 rfl rfl rfl ?_
  refine m_aload K X3.here hx hby d_jdk_42_149_42 rfl rfl rfl ?_
  refine m_iloadN K X3.here hx hby d_jdk_42_149_44 rfl rfl ?_
  refine k_callS K X3 hx hby hZ [(.ref b3_bv), (.int (4 : Int32))] [(.ref a1)] hown (W hw 48 rfl) (W hw 49 rfl) (W hw 43 rfl) (W hw 50 rfl) (ccc4_8 l Z a0 hw b3_bv cz vf (BLO c0) (BHI c0) (BLO c1) (BHI c1) (BLO c2) (BHI c2) (BLO c3) (BHI c3) T3.heap n0 (Nat.le_trans Z0 (Nat.le_trans (Nat.le_refl _) K3.1)) Ap3_0 (O0.keep K3 all0) SS) rfl rfl rfl pd_12 rfl d_jdk_42_149_45 (by rw [hml]; rfl) rfl (by decide) (by decide) (Nat.le_of_ble_eq_true rfl) (by decide) (by decide) fun v4 T4 L4 X4 q4 => ?_
  obtain ⟨rfl, e4, rfl⟩ := q4
  replace X4 := own_px X4
  refine k_some K (w := (.int (1 : Int32))) ?_
  refine k_putF K X4 hx hby hZ hown (host := "") (Or.inl (W hw 25 rfl)) Via.refl e4 (F_coder_a1.keep K3 nin0) (E_a1.keep K3) (Or.inr ⟨(W hw 21 rfl), rfl, hnm⟩) (W hw 6 rfl) (ty := .byte) (by decide) (by decide) (by decide) d_jdk_42_149_48 rfl fun T5 h5 X5 e5 W5 => ?_
  have Fw5 := (F_coder_a1.keep K3 nin0).same W5
  have N5 := Fr.snoc X5 N3 g_a1
  refine m_aloadN K X5.here hx hby d_jdk_42_149_51 rfl rfl rfl ?_
  refine m_aload K X5.here hx hby d_jdk_42_149_52 rfl rfl rfl ?_
  refine k_putF K X5 hx hby hZ hown (host := "") (Or.inl (W hw 24 rfl)) Via.refl e5 ((F_value_a1.keep K3 nin0).other W5 (Or.inr (slot_ne (Or.inr (W hw 20 rfl)) (Or.inr (W hw 21 rfl)) (by decide) (t := (.array .byte)) (t' := .byte) (by decide) (by decide)))) ((E_a1.keep K3).wr W5) (Or.inr ⟨(W hw 20 rfl), rfl, hnm⟩) (W hw 6 rfl) (ty := (.array .byte)) (by decide) rfl rfl d_jdk_42_149_54 rfl fun T6 h6 X6 e6 W6 => ?_
  have Fw6 := ((F_value_a1.keep K3 nin0).other W5 (Or.inr (slot_ne (Or.inr (W hw 20 rfl)) (Or.inr (W hw 21 rfl)) (by decide) (t := (.array .byte)) (t' := .byte) (by decide) (by decide)))).same W6
  have N6 := Fr.snoc X6 N5 g_a1
  exact Go.retV X6 hx hby hlk hret d_jdk_42_149_57 (by decide) (by decide) (by rw [e6]; exact ⟨b3_bv, rfl, N6, ((((Keep.refl h0 [a1]).trans K3 all0).wr W5 (Or.inl (by simp))).wr W6 (Or.inl (by simp))), sz_b3_bv, Fw6, (Fw5.other W6 (Or.inr (slot_ne (Or.inr (W hw 21 rfl)) (Or.inr (W hw 20 rfl)) (by decide) (t := .byte) (t' := (.array .byte)) (by decide) (by decide)))), ((Ap3_0.other W5 (Ne.symm (Nat.ne_of_lt (Nat.lt_of_lt_of_le (Nat.lt_of_lt_of_le E_a1.lt (Nat.le_refl _)) sq_b3_bv)))).other W6 (Ne.symm (Nat.ne_of_lt (Nat.lt_of_lt_of_le (Nat.lt_of_lt_of_le E_a1.lt (Nat.le_refl _)) sq_b3_bv))))⟩)
theorem efsj4_3 (m : MethodId) (x0 : Addr) (x1 : Addr) : entryFrame m #[(.ref x0), (.ref x1)] 2 = mkF m 0 #[.val (.ref x0), .val (.ref x1)] [] := by first | (simp [entryFrame, mkF, argsToLocals, Value.category]; done) | rfl
set_option maxRecDepth 65536 in
set_option maxHeartbeats 40000000 in
theorem csj4_3 (l : Launch) (Z : State) (a0 : Array Value) (hw : ∀ d ∈ tables_1, d.before a0 Z = true) (a1 : Addr) (a2 : Addr) (cz : Int32) (vf : Value) (c0 : Int32) (c1 : Int32) (c2 : Int32) (c3 : Int32) (h0 : Heap) (n0 : Nat) (Z0 : n0 ≤ h0.size) (E_a1 : Exa Z h0 a1 "java/lang/String") (F_value_a1 : Fld Z h0 a1 "java/lang/String" "value" "[B" .null) (F_coder_a1 : Fld Z h0 a1 "java/lang/String" "coder" "B" (.int (0 : Int32))) (A_a2 : Av Z h0 a2 .char [(.int c0), (.int c1), (.int c2), (.int c3)]) (O0 : Old Z n0 h0) (g_a1 : n0 ≤ a1) (SS : SSt Z cz vf) (hl_0 : ¬ ((255 : Int32) < c0)) (hl_1 : ¬ ((255 : Int32) < c1)) (hl_2 : ¬ ((255 : Int32) < c2)) (hg : (255 : Int32) < c3) (hch_0 : nar .char c0 = c0) (hch_1 : nar .char c1 = c1) (hch_2 : nar .char c2 = c2) (hch_3 : nar .char c3 = c3) :
    Con l Z (⟨"java/lang/String", "<init>", "([C)V"⟩ : MethodName) jdk_42_method_3_code 2 none ({ frames := 5, cells := 2, slots := 12, locals := 74 } : Room) [] #[(.ref a1), (.ref a2)] h0 (fun v h L => ∃ bv : Addr, v = none ∧ Fr n0 L ∧ Keep h0 h [a1] ∧ h0.size ≤ bv ∧ Fld Z h a1 "java/lang/String" "value" "[B" (.ref bv) ∧ Fld Z h a1 "java/lang/String" "coder" "B" (.int (1 : Int32)) ∧ Av Z h bv .byte [(.int (BLO c0)), (.int (BHI c0)), (.int (BLO c1)), (.int (BHI c1)), (.int (BLO c2)), (.int (BHI c2)), (.int (BLO c3)), (.int (BHI c3))]) := by
  refine Con.of (plainFor_of_name pn_java_lang_String) #[.val (.ref a1), .val (.ref a2)] (fun m => efsj4_3 m a1 a2) ?_
  intro p e s m below meth c s₁ K hx hby hml hown hnm hret hlk hZ X0 e0
  have N0 := Fr.nil n0
  refine m_aloadN K X0.here hx hby d_jdk_42_3_0 rfl rfl rfl ?_
  refine m_aloadN K X0.here hx hby d_jdk_42_3_1 rfl rfl rfl ?_
  refine m_iconst K X0.here hx hby (0 : Int32) d_jdk_42_3_2 rfl rfl ?_
  refine m_aloadN K X0.here hx hby d_jdk_42_3_3 rfl rfl rfl ?_
  refine k_len K X0 hx hby hZ (4 : Int32) e0 A_a2 rfl d_jdk_42_3_4 rfl ?_
  refine m_null K X0.here hx hby d_jdk_42_3_5 rfl ?_
  refine k_callP K X0 hx hby hZ a1 [(.ref a2), (.int (0 : Int32)), (.int (4 : Int32)), .null] [] hown (W hw 11 rfl) (W hw 12 rfl) (W hw 7 rfl) (W hw 14 rfl) rfl (csi4_3 l Z a0 hw a1 a2 cz vf c0 c1 c2 c3 h0 n0 Z0 E_a1 F_value_a1 F_coder_a1 A_a2 O0 g_a1 SS hl_0 hl_1 hl_2 hg hch_0 hch_1 hch_2 hch_3) e0 rfl rfl pd_13 rfl d_jdk_42_3_6 (by rw [hml]; rfl) rfl (by decide) (by decide) (Nat.le_of_ble_eq_true rfl) (by decide) (by decide) fun v1 T1 L1 X1 q1 => ?_
  obtain ⟨b1_bv, rfl, Nq1, K1, sq_b1_bv, Fp1_0, Fp1_1, Ap1_0⟩ := q1
  have N1 := Fr.app N0 Nq1
  have sz_b1_bv : h0.size ≤ b1_bv := Nat.le_trans (Nat.le_refl _) sq_b1_bv
  have g_b1_bv : n0 ≤ b1_bv := Nat.le_trans Z0 sz_b1_bv
  refine k_none K ?_
  exact Go.retV X1 hx hby hlk hret d_jdk_42_3_9 (by decide) (by decide) (⟨b1_bv, rfl, N1, ((Keep.refl h0 [a1]).trans K1 (allS (Or.inl (by simp)) all0)), sz_b1_bv, Fp1_0, Fp1_1, Ap1_0⟩)
theorem efcf4_4 (m : MethodId) (x0 : Addr) (x1 : Int32) (x2 : Addr) (x3 : Int32) (x4 : Int32) : entryFrame m #[(.ref x0), (.int x1), (.ref x2), (.int x3), (.int x4)] 7 = mkF m 0 #[.val (.ref x0), .val (.int x1), .val (.ref x2), .val (.int x3), .val (.int x4), .unset, .unset] [] := by first | (simp [entryFrame, mkF, argsToLocals, Value.category]; done) | rfl
set_option maxRecDepth 65536 in
set_option maxHeartbeats 40000000 in
theorem ccf4_4 (l : Launch) (Z : State) (a0 : Array Value) (hw : ∀ d ∈ tables_1, d.before a0 Z = true) (a1 : Addr) (a3 : Addr) (cz : Int32) (vf : Value) (c0 : Int32) (c1 : Int32) (c2 : Int32) (c3 : Int32) (h0 : Heap) (n0 : Nat) (Z0 : n0 ≤ h0.size) (A_a1 : Av Z h0 a1 .char [(.int c0), (.int c1), (.int c2), (.int c3)]) (A_a3 : Av Z h0 a3 .byte [(.int (0 : Int32)), (.int (0 : Int32)), (.int (0 : Int32)), (.int (0 : Int32))]) (O0 : Old Z n0 h0) (g_a3 : n0 ≤ a3) (ne_a1_a3 : a1 ≠ a3) (SS : SSt Z cz vf) (hl_0 : ¬ ((255 : Int32) < c0)) (hl_1 : ¬ ((255 : Int32) < c1)) (hl_2 : ¬ ((255 : Int32) < c2)) (hl_3 : ¬ ((255 : Int32) < c3)) :
    Con l Z (⟨"java/lang/StringUTF16", "compress", "([CI[BII)I"⟩ : MethodName) jdk_52_method_21_code 7 (some .int) ({ frames := 0, cells := 0, slots := 0, locals := 0 } : Room) [] #[(.ref a1), (.int (0 : Int32)), (.ref a3), (.int (0 : Int32)), (.int (4 : Int32))] h0 (fun v h L => v = some (.int (4 : Int32)) ∧ Fr n0 L ∧ Keep h0 h [a3] ∧ Av Z h a3 .byte [(.int (nar .byte (c0.toInt8.toInt32))), (.int (nar .byte (c1.toInt8.toInt32))), (.int (nar .byte (c2.toInt8.toInt32))), (.int (nar .byte (c3.toInt8.toInt32)))]) := by
  refine Con.of (plainFor_of_name pn_java_lang_StringUTF16) #[.val (.ref a1), .val (.int (0 : Int32)), .val (.ref a3), .val (.int (0 : Int32)), .val (.int (4 : Int32)), .unset, .unset] (fun m => efcf4_4 m a1 (0 : Int32) a3 (0 : Int32) (4 : Int32)) ?_
  intro p e s m below meth c s₁ K hx hby hml hown hnm hret hlk hZ X0 e0
  have N0 := Fr.nil n0
  refine m_iconst K X0.here hx hby (0 : Int32) d_jdk_52_21_0 rfl rfl ?_
  refine m_istore K X0.here hx hby #[.val (.ref a1), .val (.int (0 : Int32)), .val (.ref a3), .val (.int (0 : Int32)), .val (.int (4 : Int32)), .val (.int (0 : Int32)), .unset] d_jdk_52_21_1 rfl rfl ?_
  refine m_iload K X0.here hx hby d_jdk_52_21_3 rfl rfl ?_
  refine m_iload K X0.here hx hby d_jdk_52_21_5 rfl rfl ?_
  refine m_icmpN K X0.here hx hby (q := 10) d_jdk_52_21_7 (tlt (by decide : (0 : Int32) < (4 : Int32))).2.1 rfl ?_
  refine m_aloadN K X0.here hx hby d_jdk_52_21_10 rfl rfl rfl ?_
  refine m_iloadN K X0.here hx hby d_jdk_52_21_11 rfl rfl ?_
  refine k_ldC K X0 hx hby hZ e0 A_a1 (v := (.int c0)) (by decide) rfl d_jdk_52_21_12 rfl ?_
  refine m_istore K X0.here hx hby #[.val (.ref a1), .val (.int (0 : Int32)), .val (.ref a3), .val (.int (0 : Int32)), .val (.int (4 : Int32)), .val (.int (0 : Int32)), .val (.int c0)] d_jdk_52_21_13 rfl rfl ?_
  refine m_iload K X0.here hx hby d_jdk_52_21_15 rfl rfl ?_
  refine m_sipush K X0.here hx hby (255 : Int32) d_jdk_52_21_17 rfl rfl ?_
  refine m_icmpY K X0.here hx hby (q := 26) d_jdk_52_21_20 (flt hl_0).2.2.2 (by decide) rfl ?_
  refine m_aloadN K X0.here hx hby d_jdk_52_21_26 rfl rfl rfl ?_
  refine m_iloadN K X0.here hx hby d_jdk_52_21_27 rfl rfl ?_
  refine m_iload K X0.here hx hby d_jdk_52_21_28 rfl rfl ?_
  refine m_i2b K X0.here hx hby (c0.toInt8.toInt32) d_jdk_52_21_30 rfl rfl ?_
  refine k_stB K X0 hx hby hZ e0 A_a3 (by decide) (Nat.le_of_ble_eq_true rfl) d_jdk_52_21_31 rfl fun T1 h1 X1 e1 W1 V1 => ?_
  replace V1 : Av Z h1 a3 .byte [(.int (nar .byte (c0.toInt8.toInt32))), (.int (0 : Int32)), (.int (0 : Int32)), (.int (0 : Int32))] := V1
  have N1 := Fr.snoc X1 N0 g_a3
  refine m_iinc K X1.here hx hby #[.val (.ref a1), .val (.int (1 : Int32)), .val (.ref a3), .val (.int (0 : Int32)), .val (.int (4 : Int32)), .val (.int (0 : Int32)), .val (.int c0)] d_jdk_52_21_32 rfl rfl rfl ?_
  refine m_iinc K X1.here hx hby #[.val (.ref a1), .val (.int (1 : Int32)), .val (.ref a3), .val (.int (1 : Int32)), .val (.int (4 : Int32)), .val (.int (0 : Int32)), .val (.int c0)] d_jdk_52_21_35 rfl rfl rfl ?_
  refine m_iinc K X1.here hx hby #[.val (.ref a1), .val (.int (1 : Int32)), .val (.ref a3), .val (.int (1 : Int32)), .val (.int (4 : Int32)), .val (.int (1 : Int32)), .val (.int c0)] d_jdk_52_21_38 rfl rfl rfl ?_
  refine m_goto K X1.here hx hby (q := 3) d_jdk_52_21_41 (by decide) rfl ?_
  refine m_iload K X1.here hx hby d_jdk_52_21_3 rfl rfl ?_
  refine m_iload K X1.here hx hby d_jdk_52_21_5 rfl rfl ?_
  refine m_icmpN K X1.here hx hby (q := 10) d_jdk_52_21_7 (tlt (by decide : (1 : Int32) < (4 : Int32))).2.1 rfl ?_
  refine m_aloadN K X1.here hx hby d_jdk_52_21_10 rfl rfl rfl ?_
  refine m_iloadN K X1.here hx hby d_jdk_52_21_11 rfl rfl ?_
  refine k_ldC K X1 hx hby hZ e1 (A_a1.other W1 ne_a1_a3) (v := (.int c1)) (by decide) rfl d_jdk_52_21_12 rfl ?_
  refine m_istore K X1.here hx hby #[.val (.ref a1), .val (.int (1 : Int32)), .val (.ref a3), .val (.int (1 : Int32)), .val (.int (4 : Int32)), .val (.int (1 : Int32)), .val (.int c1)] d_jdk_52_21_13 rfl rfl ?_
  refine m_iload K X1.here hx hby d_jdk_52_21_15 rfl rfl ?_
  refine m_sipush K X1.here hx hby (255 : Int32) d_jdk_52_21_17 rfl rfl ?_
  refine m_icmpY K X1.here hx hby (q := 26) d_jdk_52_21_20 (flt hl_1).2.2.2 (by decide) rfl ?_
  refine m_aloadN K X1.here hx hby d_jdk_52_21_26 rfl rfl rfl ?_
  refine m_iloadN K X1.here hx hby d_jdk_52_21_27 rfl rfl ?_
  refine m_iload K X1.here hx hby d_jdk_52_21_28 rfl rfl ?_
  refine m_i2b K X1.here hx hby (c1.toInt8.toInt32) d_jdk_52_21_30 rfl rfl ?_
  refine k_stB K X1 hx hby hZ e1 V1 (by decide) (Nat.le_of_ble_eq_true rfl) d_jdk_52_21_31 rfl fun T2 h2 X2 e2 W2 V2 => ?_
  replace V2 : Av Z h2 a3 .byte [(.int (nar .byte (c0.toInt8.toInt32))), (.int (nar .byte (c1.toInt8.toInt32))), (.int (0 : Int32)), (.int (0 : Int32))] := V2
  have N2 := Fr.snoc X2 N1 g_a3
  refine m_iinc K X2.here hx hby #[.val (.ref a1), .val (.int (2 : Int32)), .val (.ref a3), .val (.int (1 : Int32)), .val (.int (4 : Int32)), .val (.int (1 : Int32)), .val (.int c1)] d_jdk_52_21_32 rfl rfl rfl ?_
  refine m_iinc K X2.here hx hby #[.val (.ref a1), .val (.int (2 : Int32)), .val (.ref a3), .val (.int (2 : Int32)), .val (.int (4 : Int32)), .val (.int (1 : Int32)), .val (.int c1)] d_jdk_52_21_35 rfl rfl rfl ?_
  refine m_iinc K X2.here hx hby #[.val (.ref a1), .val (.int (2 : Int32)), .val (.ref a3), .val (.int (2 : Int32)), .val (.int (4 : Int32)), .val (.int (2 : Int32)), .val (.int c1)] d_jdk_52_21_38 rfl rfl rfl ?_
  refine m_goto K X2.here hx hby (q := 3) d_jdk_52_21_41 (by decide) rfl ?_
  refine m_iload K X2.here hx hby d_jdk_52_21_3 rfl rfl ?_
  refine m_iload K X2.here hx hby d_jdk_52_21_5 rfl rfl ?_
  refine m_icmpN K X2.here hx hby (q := 10) d_jdk_52_21_7 (tlt (by decide : (2 : Int32) < (4 : Int32))).2.1 rfl ?_
  refine m_aloadN K X2.here hx hby d_jdk_52_21_10 rfl rfl rfl ?_
  refine m_iloadN K X2.here hx hby d_jdk_52_21_11 rfl rfl ?_
  refine k_ldC K X2 hx hby hZ e2 ((A_a1.other W1 ne_a1_a3).other W2 ne_a1_a3) (v := (.int c2)) (by decide) rfl d_jdk_52_21_12 rfl ?_
  refine m_istore K X2.here hx hby #[.val (.ref a1), .val (.int (2 : Int32)), .val (.ref a3), .val (.int (2 : Int32)), .val (.int (4 : Int32)), .val (.int (2 : Int32)), .val (.int c2)] d_jdk_52_21_13 rfl rfl ?_
  refine m_iload K X2.here hx hby d_jdk_52_21_15 rfl rfl ?_
  refine m_sipush K X2.here hx hby (255 : Int32) d_jdk_52_21_17 rfl rfl ?_
  refine m_icmpY K X2.here hx hby (q := 26) d_jdk_52_21_20 (flt hl_2).2.2.2 (by decide) rfl ?_
  refine m_aloadN K X2.here hx hby d_jdk_52_21_26 rfl rfl rfl ?_
  refine m_iloadN K X2.here hx hby d_jdk_52_21_27 rfl rfl ?_
  refine m_iload K X2.here hx hby d_jdk_52_21_28 rfl rfl ?_
  refine m_i2b K X2.here hx hby (c2.toInt8.toInt32) d_jdk_52_21_30 rfl rfl ?_
  refine k_stB K X2 hx hby hZ e2 V2 (by decide) (Nat.le_of_ble_eq_true rfl) d_jdk_52_21_31 rfl fun T3 h3 X3 e3 W3 V3 => ?_
  replace V3 : Av Z h3 a3 .byte [(.int (nar .byte (c0.toInt8.toInt32))), (.int (nar .byte (c1.toInt8.toInt32))), (.int (nar .byte (c2.toInt8.toInt32))), (.int (0 : Int32))] := V3
  have N3 := Fr.snoc X3 N2 g_a3
  refine m_iinc K X3.here hx hby #[.val (.ref a1), .val (.int (3 : Int32)), .val (.ref a3), .val (.int (2 : Int32)), .val (.int (4 : Int32)), .val (.int (2 : Int32)), .val (.int c2)] d_jdk_52_21_32 rfl rfl rfl ?_
  refine m_iinc K X3.here hx hby #[.val (.ref a1), .val (.int (3 : Int32)), .val (.ref a3), .val (.int (3 : Int32)), .val (.int (4 : Int32)), .val (.int (2 : Int32)), .val (.int c2)] d_jdk_52_21_35 rfl rfl rfl ?_
  refine m_iinc K X3.here hx hby #[.val (.ref a1), .val (.int (3 : Int32)), .val (.ref a3), .val (.int (3 : Int32)), .val (.int (4 : Int32)), .val (.int (3 : Int32)), .val (.int c2)] d_jdk_52_21_38 rfl rfl rfl ?_
  refine m_goto K X3.here hx hby (q := 3) d_jdk_52_21_41 (by decide) rfl ?_
  refine m_iload K X3.here hx hby d_jdk_52_21_3 rfl rfl ?_
  refine m_iload K X3.here hx hby d_jdk_52_21_5 rfl rfl ?_
  refine m_icmpN K X3.here hx hby (q := 10) d_jdk_52_21_7 (tlt (by decide : (3 : Int32) < (4 : Int32))).2.1 rfl ?_
  refine m_aloadN K X3.here hx hby d_jdk_52_21_10 rfl rfl rfl ?_
  refine m_iloadN K X3.here hx hby d_jdk_52_21_11 rfl rfl ?_
  refine k_ldC K X3 hx hby hZ e3 (((A_a1.other W1 ne_a1_a3).other W2 ne_a1_a3).other W3 ne_a1_a3) (v := (.int c3)) (by decide) rfl d_jdk_52_21_12 rfl ?_
  refine m_istore K X3.here hx hby #[.val (.ref a1), .val (.int (3 : Int32)), .val (.ref a3), .val (.int (3 : Int32)), .val (.int (4 : Int32)), .val (.int (3 : Int32)), .val (.int c3)] d_jdk_52_21_13 rfl rfl ?_
  refine m_iload K X3.here hx hby d_jdk_52_21_15 rfl rfl ?_
  refine m_sipush K X3.here hx hby (255 : Int32) d_jdk_52_21_17 rfl rfl ?_
  refine m_icmpY K X3.here hx hby (q := 26) d_jdk_52_21_20 (flt hl_3).2.2.2 (by decide) rfl ?_
  refine m_aloadN K X3.here hx hby d_jdk_52_21_26 rfl rfl rfl ?_
  refine m_iloadN K X3.here hx hby d_jdk_52_21_27 rfl rfl ?_
  refine m_iload K X3.here hx hby d_jdk_52_21_28 rfl rfl ?_
  refine m_i2b K X3.here hx hby (c3.toInt8.toInt32) d_jdk_52_21_30 rfl rfl ?_
  refine k_stB K X3 hx hby hZ e3 V3 (by decide) (Nat.le_of_ble_eq_true rfl) d_jdk_52_21_31 rfl fun T4 h4 X4 e4 W4 V4 => ?_
  replace V4 : Av Z h4 a3 .byte [(.int (nar .byte (c0.toInt8.toInt32))), (.int (nar .byte (c1.toInt8.toInt32))), (.int (nar .byte (c2.toInt8.toInt32))), (.int (nar .byte (c3.toInt8.toInt32)))] := V4
  have N4 := Fr.snoc X4 N3 g_a3
  refine m_iinc K X4.here hx hby #[.val (.ref a1), .val (.int (4 : Int32)), .val (.ref a3), .val (.int (3 : Int32)), .val (.int (4 : Int32)), .val (.int (3 : Int32)), .val (.int c3)] d_jdk_52_21_32 rfl rfl rfl ?_
  refine m_iinc K X4.here hx hby #[.val (.ref a1), .val (.int (4 : Int32)), .val (.ref a3), .val (.int (4 : Int32)), .val (.int (4 : Int32)), .val (.int (3 : Int32)), .val (.int c3)] d_jdk_52_21_35 rfl rfl rfl ?_
  refine m_iinc K X4.here hx hby #[.val (.ref a1), .val (.int (4 : Int32)), .val (.ref a3), .val (.int (4 : Int32)), .val (.int (4 : Int32)), .val (.int (4 : Int32)), .val (.int c3)] d_jdk_52_21_38 rfl rfl rfl ?_
  refine m_goto K X4.here hx hby (q := 3) d_jdk_52_21_41 (by decide) rfl ?_
  refine m_iload K X4.here hx hby d_jdk_52_21_3 rfl rfl ?_
  refine m_iload K X4.here hx hby d_jdk_52_21_5 rfl rfl ?_
  refine m_icmpY K X4.here hx hby (q := 44) d_jdk_52_21_7 (flt (by decide : ¬ ((4 : Int32) < (4 : Int32)))).2.1 (by decide) rfl ?_
  refine m_iload K X4.here hx hby d_jdk_52_21_44 rfl rfl ?_
  exact Go.retI X4 hx hby hlk hret d_jdk_52_21_46 (by decide) (by decide) (by rw [e4]; exact ⟨rfl, N4, (((((Keep.refl h0 [a3]).wr W1 (Or.inl (by simp))).wr W2 (Or.inl (by simp))).wr W3 (Or.inl (by simp))).wr W4 (Or.inl (by simp))), V4⟩)
theorem efct4_4 (m : MethodId) (x0 : Addr) (x1 : Int32) (x2 : Int32) : entryFrame m #[(.ref x0), (.int x1), (.int x2)] 6 = mkF m 0 #[.val (.ref x0), .val (.int x1), .val (.int x2), .unset, .unset, .unset] [] := by first | (simp [entryFrame, mkF, argsToLocals, Value.category]; done) | rfl
set_option maxRecDepth 65536 in
set_option maxHeartbeats 40000000 in
theorem cct4_4 (l : Launch) (Z : State) (a0 : Array Value) (hw : ∀ d ∈ tables_1, d.before a0 Z = true) (a1 : Addr) (cz : Int32) (vf : Value) (c0 : Int32) (c1 : Int32) (c2 : Int32) (c3 : Int32) (h0 : Heap) (n0 : Nat) (Z0 : n0 ≤ h0.size) (A_a1 : Av Z h0 a1 .char [(.int c0), (.int c1), (.int c2), (.int c3)]) (O0 : Old Z n0 h0) (SS : SSt Z cz vf) (hl_0 : ¬ ((255 : Int32) < c0)) (hl_1 : ¬ ((255 : Int32) < c1)) (hl_2 : ¬ ((255 : Int32) < c2)) (hl_3 : ¬ ((255 : Int32) < c3)) :
    Con l Z (⟨"java/lang/StringUTF16", "compress", "([CII)[B"⟩ : MethodName) jdk_52_method_16_code 6 (some (.array .byte)) ({ frames := 1, cells := 1, slots := 4, locals := 18 } : Room) [] #[(.ref a1), (.int (0 : Int32)), (.int (4 : Int32))] h0 (fun v h L => ∃ bv : Addr, v = some (.ref bv) ∧ Fr n0 L ∧ Keep h0 h [] ∧ h0.size ≤ bv ∧ Av Z h bv .byte [(.int (nar .byte (c0.toInt8.toInt32))), (.int (nar .byte (c1.toInt8.toInt32))), (.int (nar .byte (c2.toInt8.toInt32))), (.int (nar .byte (c3.toInt8.toInt32)))]) := by
  refine Con.of (plainFor_of_name pn_java_lang_StringUTF16) #[.val (.ref a1), .val (.int (0 : Int32)), .val (.int (4 : Int32)), .unset, .unset, .unset] (fun m => efct4_4 m a1 (0 : Int32) (4 : Int32)) ?_
  intro p e s m below meth c s₁ K hx hby hml hown hnm hret hlk hZ X0 e0
  have N0 := Fr.nil n0
  refine m_iloadN K X0.here hx hby d_jdk_52_16_0 rfl rfl ?_
  refine k_newP K X0 hx hby hZ 4 4 (W hw 19 rfl) e0 d_jdk_52_16_1 rfl (by decide) rfl (by decide) (by decide) (by decide) (by decide) fun T1 h1 b1 X1 e1 E1 g1 V_b1 => ?_
  have sz_b1 : h0.size ≤ b1 := Nat.le_trans (Nat.le_refl _) (Nat.le_of_eq g1.symm)
  have g_b1 : n0 ≤ b1 := Nat.le_trans Z0 sz_b1
  replace V_b1 : Av Z h1 b1 .byte [(.int (0 : Int32)), (.int (0 : Int32)), (.int (0 : Int32)), (.int (0 : Int32))] := V_b1
  refine m_astoreN K X1.here hx hby #[.val (.ref a1), .val (.int (0 : Int32)), .val (.int (4 : Int32)), .val (.ref b1), .unset, .unset] d_jdk_52_16_3 rfl rfl rfl ?_
  refine m_aloadN K X1.here hx hby d_jdk_52_16_4 rfl rfl rfl ?_
  refine m_iloadN K X1.here hx hby d_jdk_52_16_5 rfl rfl ?_
  refine m_aloadN K X1.here hx hby d_jdk_52_16_6 rfl rfl rfl ?_
  refine m_iconst K X1.here hx hby (0 : Int32) d_jdk_52_16_7 rfl rfl ?_
  refine m_iloadN K X1.here hx hby d_jdk_52_16_8 rfl rfl ?_
  refine k_callS K X1 hx hby hZ [(.ref a1), (.int (0 : Int32)), (.ref b1), (.int (0 : Int32)), (.int (4 : Int32))] [] hown (W hw 45 rfl) (W hw 46 rfl) (W hw 43 rfl) (W hw 47 rfl) (ccf4_4 l Z a0 hw a1 b1 cz vf c0 c1 c2 c3 h1 n0 (Nat.le_trans Z0 (Nat.le_trans (Nat.le_refl _) E1.1)) (A_a1.ext E1) V_b1 (O0.ext E1) g_b1 (Nat.ne_of_lt (Nat.lt_of_lt_of_le (Nat.lt_of_lt_of_le A_a1.lt (Nat.le_refl _)) (Nat.le_of_eq g1.symm))) SS hl_0 hl_1 hl_2 hl_3) e1 rfl rfl pd_10 rfl d_jdk_52_16_9 (by rw [hml]; rfl) rfl (by decide) (by decide) (Nat.le_of_ble_eq_true rfl) (by decide) (by decide) fun v2 T2 L2 X2 q2 => ?_
  obtain ⟨rfl, Nq2, K2, Ap2_0⟩ := q2
  have N2 := Fr.app N0 Nq2
  refine k_some K (w := (.int (4 : Int32))) ?_
  refine m_istore K X2.here hx hby #[.val (.ref a1), .val (.int (0 : Int32)), .val (.int (4 : Int32)), .val (.ref b1), .val (.int (4 : Int32)), .unset] d_jdk_52_16_12 rfl rfl ?_
  refine m_iload K X2.here hx hby d_jdk_52_16_14 rfl rfl ?_
  refine m_iloadN K X2.here hx hby d_jdk_52_16_16 rfl rfl ?_
  refine m_icmpY K X2.here hx hby (q := 57) d_jdk_52_16_17 (teq (by decide : (4 : Int32) = (4 : Int32))).1 (by decide) rfl ?_
  refine m_aloadN K X2.here hx hby d_jdk_52_16_57 rfl rfl rfl ?_
  exact Go.retO X2 hx hby hlk hret rfl (Or.inr (Or.inr (Or.inr (Or.inr ⟨rfl, rfl, rfl⟩)))) d_jdk_52_16_58 (by decide) (by decide) (⟨b1, rfl, N2, (((Keep.refl h0 []).ext E1).trans K2 (allS (Or.inr sz_b1) all0)), sz_b1, Ap2_0⟩)
theorem efcc4_4 (m : MethodId) (x0 : Addr) (x1 : Int32) : entryFrame m #[(.ref x0), (.int x1)] 2 = mkF m 0 #[.val (.ref x0), .val (.int x1)] [] := by first | (simp [entryFrame, mkF, argsToLocals, Value.category]; done) | rfl
set_option maxRecDepth 65536 in
set_option maxHeartbeats 40000000 in
theorem ccc4_4 (l : Launch) (Z : State) (a0 : Array Value) (hw : ∀ d ∈ tables_1, d.before a0 Z = true) (a1 : Addr) (cz : Int32) (vf : Value) (y0 : Int32) (y1 : Int32) (y2 : Int32) (y3 : Int32) (h0 : Heap) (n0 : Nat) (Z0 : n0 ≤ h0.size) (A_a1 : Av Z h0 a1 .byte [(.int y0), (.int y1), (.int y2), (.int y3)]) (O0 : Old Z n0 h0) (SS : SSt Z cz vf) :
    Con l Z (⟨"java/lang/StringUTF16", "coderFromArrayLen", "([BI)B"⟩ : MethodName) jdk_52_method_15_code 2 (some .byte) ({ frames := 0, cells := 0, slots := 0, locals := 0 } : Room) [] #[(.ref a1), (.int (4 : Int32))] h0 (fun v h L => v = some (.int (0 : Int32)) ∧ h = h0 ∧ L = []) := by
  refine Con.of (plainFor_of_name pn_java_lang_StringUTF16) #[.val (.ref a1), .val (.int (4 : Int32))] (fun m => efcc4_4 m a1 (4 : Int32)) ?_
  intro p e s m below meth c s₁ K hx hby hml hown hnm hret hlk hZ X0 e0
  have N0 := Fr.nil n0
  refine m_iloadN K X0.here hx hby d_jdk_52_15_0 rfl rfl ?_
  refine m_aloadN K X0.here hx hby d_jdk_52_15_1 rfl rfl rfl ?_
  refine k_len K X0 hx hby hZ (4 : Int32) e0 A_a1 rfl d_jdk_52_15_2 rfl ?_
  refine m_isub K X0.here hx hby (0 : Int32) d_jdk_52_15_3 rfl rfl ?_
  refine m_bipush K X0.here hx hby (31 : Int32) d_jdk_52_15_4 rfl rfl ?_
  refine m_iushr K X0.here hx hby (0 : Int32) d_jdk_52_15_6 rfl rfl ?_
  refine m_i2b K X0.here hx hby (0 : Int32) d_jdk_52_15_7 rfl rfl ?_
  exact Go.retN X0 hx hby hlk hret (by simp) d_jdk_52_15_8 (by decide) (by decide) (by decide) (⟨rfl, e0, rfl⟩)
theorem efsi4_4 (m : MethodId) (x0 : Addr) (x1 : Addr) (x2 : Int32) (x3 : Int32) : entryFrame m #[(.ref x0), (.ref x1), (.int x2), (.int x3), .null] 6 = mkF m 0 #[.val (.ref x0), .val (.ref x1), .val (.int x2), .val (.int x3), .val .null, .unset] [] := by first | (simp [entryFrame, mkF, argsToLocals, Value.category]; done) | rfl
set_option maxRecDepth 65536 in
set_option maxHeartbeats 40000000 in
theorem csi4_4 (l : Launch) (Z : State) (a0 : Array Value) (hw : ∀ d ∈ tables_1, d.before a0 Z = true) (a1 : Addr) (a2 : Addr) (cz : Int32) (vf : Value) (c0 : Int32) (c1 : Int32) (c2 : Int32) (c3 : Int32) (h0 : Heap) (n0 : Nat) (Z0 : n0 ≤ h0.size) (E_a1 : Exa Z h0 a1 "java/lang/String") (F_value_a1 : Fld Z h0 a1 "java/lang/String" "value" "[B" .null) (F_coder_a1 : Fld Z h0 a1 "java/lang/String" "coder" "B" (.int (0 : Int32))) (A_a2 : Av Z h0 a2 .char [(.int c0), (.int c1), (.int c2), (.int c3)]) (O0 : Old Z n0 h0) (g_a1 : n0 ≤ a1) (SS : SSt Z cz vf) (hl_0 : ¬ ((255 : Int32) < c0)) (hl_1 : ¬ ((255 : Int32) < c1)) (hl_2 : ¬ ((255 : Int32) < c2)) (hl_3 : ¬ ((255 : Int32) < c3)) :
    Con l Z (⟨"java/lang/String", "<init>", "([CIILjava/lang/Void;)V"⟩ : MethodName) jdk_42_method_149_code 6 none ({ frames := 2, cells := 1, slots := 4, locals := 35 } : Room) [] #[(.ref a1), (.ref a2), (.int (0 : Int32)), (.int (4 : Int32)), .null] h0 (fun v h L => ∃ bv : Addr, v = none ∧ Fr n0 L ∧ Keep h0 h [a1] ∧ h0.size ≤ bv ∧ Fld Z h a1 "java/lang/String" "value" "[B" (.ref bv) ∧ Fld Z h a1 "java/lang/String" "coder" "B" (.int (0 : Int32)) ∧ Av Z h bv .byte [(.int (nar .byte (c0.toInt8.toInt32))), (.int (nar .byte (c1.toInt8.toInt32))), (.int (nar .byte (c2.toInt8.toInt32))), (.int (nar .byte (c3.toInt8.toInt32)))]) := by
  refine Con.of (plainFor_of_name pn_java_lang_String) #[.val (.ref a1), .val (.ref a2), .val (.int (0 : Int32)), .val (.int (4 : Int32)), .val .null, .unset] (fun m => efsi4_4 m a1 a2 (0 : Int32) (4 : Int32)) ?_
  intro p e s m below meth c s₁ K hx hby hml hown hnm hret hlk hZ X0 e0
  have N0 := Fr.nil n0
  refine m_aloadN K X0.here hx hby d_jdk_42_149_0 rfl rfl rfl ?_
  refine k_initO K X0 hx hby hZ hown (W hw 15 rfl) (W hw 16 rfl) (W hw 17 rfl) e0 d_jdk_42_149_1 (by rw [hml]; rfl) rfl (by decide) (Nat.le_of_ble_eq_true rfl) fun T1 X1 e1 => ?_
  refine m_iloadN K X1.here hx hby d_jdk_42_149_4 rfl rfl ?_
  refine m_ifY K X1.here hx hby (q := 27) d_jdk_42_149_5 ((if0 _ _).trans (feq (by decide : ¬ ((4 : Int32) = (0 : Int32)))).2) (by decide) rfl ?_
  refine k_getS K X1 hx hby hZ hown (host := "") (Or.inl (W hw 40 rfl)) Via.refl e1 (SS.cs.ext O0.2) d_jdk_42_149_27 rfl fun T2 X2 e2 => ?_
  refine m_ifN K X2.here hx hby (q := 33) d_jdk_42_149_30 ((if0 _ _).trans (feq SS.cz).1) rfl ?_
  refine m_aloadN K X2.here hx hby d_jdk_42_149_33 rfl rfl rfl ?_
  refine m_iloadN K X2.here hx hby d_jdk_42_149_34 rfl rfl ?_
  refine m_iloadN K X2.here hx hby d_jdk_42_149_35 rfl rfl ?_
  refine k_callS K X2 hx hby hZ [(.ref a2), (.int (0 : Int32)), (.int (4 : Int32))] [] hown (W hw 41 rfl) (W hw 42 rfl) (W hw 43 rfl) (W hw 44 rfl) (cct4_4 l Z a0 hw a2 cz vf c0 c1 c2 c3 h0 n0 Z0 A_a2 O0 SS hl_0 hl_1 hl_2 hl_3) e2 rfl rfl pd_11 rfl d_jdk_42_149_36 (by rw [hml]; rfl) rfl (by decide) (by decide) (Nat.le_of_ble_eq_true rfl) (by decide) (by decide) fun v3 T3 L3 X3 q3 => ?_
  obtain ⟨b3_bv, rfl, Nq3, K3, sq_b3_bv, Ap3_0⟩ := q3
  have N3 := Fr.app N0 Nq3
  have sz_b3_bv : h0.size ≤ b3_bv := Nat.le_trans (Nat.le_refl _) sq_b3_bv
  have g_b3_bv : n0 ≤ b3_bv := Nat.le_trans Z0 sz_b3_bv
  refine k_some K (w := (.ref b3_bv)) ?_
  refine m_astore K X3.here hx hby #[.val (.ref a1), .val (.ref a2), .val (.int (0 : Int32)), .val (.int (4 : Int32)), .val .null, .val (.ref b3_bv)] d_jdk_42_149_39 rfl rfl rfl ?_
  refine m_aloadN K X3.here hx hby d_jdk_42_149_41 rfl rfl rfl ?_
  refine m_aload K X3.here hx hby d_jdk_42_149_42 rfl rfl rfl ?_
  refine m_iloadN K X3.here hx hby d_jdk_42_149_44 rfl rfl ?_
  refine k_callS K X3 hx hby hZ [(.ref b3_bv), (.int (4 : Int32))] [(.ref a1)] hown (W hw 48 rfl) (W hw 49 rfl) (W hw 43 rfl) (W hw 50 rfl) (ccc4_4 l Z a0 hw b3_bv cz vf (nar .byte (c0.toInt8.toInt32)) (nar .byte (c1.toInt8.toInt32)) (nar .byte (c2.toInt8.toInt32)) (nar .byte (c3.toInt8.toInt32)) T3.heap n0 (Nat.le_trans Z0 (Nat.le_trans (Nat.le_refl _) K3.1)) Ap3_0 (O0.keep K3 all0) SS) rfl rfl rfl pd_12 rfl d_jdk_42_149_45 (by rw [hml]; rfl) rfl (by decide) (by decide) (Nat.le_of_ble_eq_true rfl) (by decide) (by decide) fun v4 T4 L4 X4 q4 => ?_
  obtain ⟨rfl, e4, rfl⟩ := q4
  replace X4 := own_px X4
  refine k_some K (w := (.int (0 : Int32))) ?_
  refine k_putF K X4 hx hby hZ hown (host := "") (Or.inl (W hw 25 rfl)) Via.refl e4 (F_coder_a1.keep K3 nin0) (E_a1.keep K3) (Or.inr ⟨(W hw 21 rfl), rfl, hnm⟩) (W hw 6 rfl) (ty := .byte) (by decide) (by decide) (by decide) d_jdk_42_149_48 rfl fun T5 h5 X5 e5 W5 => ?_
  have Fw5 := (F_coder_a1.keep K3 nin0).same W5
  have N5 := Fr.snoc X5 N3 g_a1
  refine m_aloadN K X5.here hx hby d_jdk_42_149_51 rfl rfl rfl ?_
  refine m_aload K X5.here hx hby d_jdk_42_149_52 rfl rfl rfl ?_
  refine k_putF K X5 hx hby hZ hown (host := "") (Or.inl (W hw 24 rfl)) Via.refl e5 ((F_value_a1.keep K3 nin0).other W5 (Or.inr (slot_ne (Or.inr (W hw 20 rfl)) (Or.inr (W hw 21 rfl)) (by decide) (t := (.array .byte)) (t' := .byte) (by decide) (by decide)))) ((E_a1.keep K3).wr W5) (Or.inr ⟨(W hw 20 rfl), rfl, hnm⟩) (W hw 6 rfl) (ty := (.array .byte)) (by decide) rfl rfl d_jdk_42_149_54 rfl fun T6 h6 X6 e6 W6 => ?_
  have Fw6 := ((F_value_a1.keep K3 nin0).other W5 (Or.inr (slot_ne (Or.inr (W hw 20 rfl)) (Or.inr (W hw 21 rfl)) (by decide) (t := (.array .byte)) (t' := .byte) (by decide) (by decide)))).same W6
  have N6 := Fr.snoc X6 N5 g_a1
  exact Go.retV X6 hx hby hlk hret d_jdk_42_149_57 (by decide) (by decide) (by rw [e6]; exact ⟨b3_bv, rfl, N6, ((((Keep.refl h0 [a1]).trans K3 all0).wr W5 (Or.inl (by simp))).wr W6 (Or.inl (by simp))), sz_b3_bv, Fw6, (Fw5.other W6 (Or.inr (slot_ne (Or.inr (W hw 21 rfl)) (Or.inr (W hw 20 rfl)) (by decide) (t := .byte) (t' := (.array .byte)) (by decide) (by decide)))), ((Ap3_0.other W5 (Ne.symm (Nat.ne_of_lt (Nat.lt_of_lt_of_le (Nat.lt_of_lt_of_le E_a1.lt (Nat.le_refl _)) sq_b3_bv)))).other W6 (Ne.symm (Nat.ne_of_lt (Nat.lt_of_lt_of_le (Nat.lt_of_lt_of_le E_a1.lt (Nat.le_refl _)) sq_b3_bv))))⟩)
theorem efsj4_4 (m : MethodId) (x0 : Addr) (x1 : Addr) : entryFrame m #[(.ref x0), (.ref x1)] 2 = mkF m 0 #[.val (.ref x0), .val (.ref x1)] [] := by first | (simp [entryFrame, mkF, argsToLocals, Value.category]; done) | rfl
set_option maxRecDepth 65536 in
set_option maxHeartbeats 40000000 in
theorem csj4_4 (l : Launch) (Z : State) (a0 : Array Value) (hw : ∀ d ∈ tables_1, d.before a0 Z = true) (a1 : Addr) (a2 : Addr) (cz : Int32) (vf : Value) (c0 : Int32) (c1 : Int32) (c2 : Int32) (c3 : Int32) (h0 : Heap) (n0 : Nat) (Z0 : n0 ≤ h0.size) (E_a1 : Exa Z h0 a1 "java/lang/String") (F_value_a1 : Fld Z h0 a1 "java/lang/String" "value" "[B" .null) (F_coder_a1 : Fld Z h0 a1 "java/lang/String" "coder" "B" (.int (0 : Int32))) (A_a2 : Av Z h0 a2 .char [(.int c0), (.int c1), (.int c2), (.int c3)]) (O0 : Old Z n0 h0) (g_a1 : n0 ≤ a1) (SS : SSt Z cz vf) (hl_0 : ¬ ((255 : Int32) < c0)) (hl_1 : ¬ ((255 : Int32) < c1)) (hl_2 : ¬ ((255 : Int32) < c2)) (hl_3 : ¬ ((255 : Int32) < c3)) :
    Con l Z (⟨"java/lang/String", "<init>", "([C)V"⟩ : MethodName) jdk_42_method_3_code 2 none ({ frames := 3, cells := 1, slots := 4, locals := 52 } : Room) [] #[(.ref a1), (.ref a2)] h0 (fun v h L => ∃ bv : Addr, v = none ∧ Fr n0 L ∧ Keep h0 h [a1] ∧ h0.size ≤ bv ∧ Fld Z h a1 "java/lang/String" "value" "[B" (.ref bv) ∧ Fld Z h a1 "java/lang/String" "coder" "B" (.int (0 : Int32)) ∧ Av Z h bv .byte [(.int (nar .byte (c0.toInt8.toInt32))), (.int (nar .byte (c1.toInt8.toInt32))), (.int (nar .byte (c2.toInt8.toInt32))), (.int (nar .byte (c3.toInt8.toInt32)))]) := by
  refine Con.of (plainFor_of_name pn_java_lang_String) #[.val (.ref a1), .val (.ref a2)] (fun m => efsj4_4 m a1 a2) ?_
  intro p e s m below meth c s₁ K hx hby hml hown hnm hret hlk hZ X0 e0
  have N0 := Fr.nil n0
  refine m_aloadN K X0.here hx hby d_jdk_42_3_0 rfl rfl rfl ?_
  refine m_aloadN K X0.here hx hby d_jdk_42_3_1 rfl rfl rfl ?_
  refine m_iconst K X0.here hx hby (0 : Int32) d_jdk_42_3_2 rfl rfl ?_
  refine m_aloadN K X0.here hx hby d_jdk_42_3_3 rfl rfl rfl ?_
  refine k_len K X0 hx hby hZ (4 : Int32) e0 A_a2 rfl d_jdk_42_3_4 rfl ?_
  refine m_null K X0.here hx hby d_jdk_42_3_5 rfl ?_
  refine k_callP K X0 hx hby hZ a1 [(.ref a2), (.int (0 : Int32)), (.int (4 : Int32)), .null] [] hown (W hw 11 rfl) (W hw 12 rfl) (W hw 7 rfl) (W hw 14 rfl) rfl (csi4_4 l Z a0 hw a1 a2 cz vf c0 c1 c2 c3 h0 n0 Z0 E_a1 F_value_a1 F_coder_a1 A_a2 O0 g_a1 SS hl_0 hl_1 hl_2 hl_3) e0 rfl rfl pd_13 rfl d_jdk_42_3_6 (by rw [hml]; rfl) rfl (by decide) (by decide) (Nat.le_of_ble_eq_true rfl) (by decide) (by decide) fun v1 T1 L1 X1 q1 => ?_
  obtain ⟨b1_bv, rfl, Nq1, K1, sq_b1_bv, Fp1_0, Fp1_1, Ap1_0⟩ := q1
  have N1 := Fr.app N0 Nq1
  have sz_b1_bv : h0.size ≤ b1_bv := Nat.le_trans (Nat.le_refl _) sq_b1_bv
  have g_b1_bv : n0 ≤ b1_bv := Nat.le_trans Z0 sz_b1_bv
  refine k_none K ?_
  exact Go.retV X1 hx hby hlk hret d_jdk_42_3_9 (by decide) (by decide) (⟨b1_bv, rfl, N1, ((Keep.refl h0 [a1]).trans K1 (allS (Or.inl (by simp)) all0)), sz_b1_bv, Fp1_0, Fp1_1, Ap1_0⟩)
theorem d_jdk_42_149_8 : decode jdk_42_method_149_code 8 = .ok (.aload_n 0, 1) := by decide +kernel
theorem d_jdk_42_149_9 : decode jdk_42_method_149_code 9 = .ok (.ldc 7, 2) := by decide +kernel
theorem d_jdk_42_149_11 : decode jdk_42_method_149_code 11 = .ok (.getfield 9, 3) := by decide +kernel
theorem d_jdk_42_149_14 : decode jdk_42_method_149_code 14 = .ok (.putfield 9, 3) := by decide +kernel
theorem d_jdk_42_149_17 : decode jdk_42_method_149_code 17 = .ok (.aload_n 0, 1) := by decide +kernel
theorem d_jdk_42_149_18 : decode jdk_42_method_149_code 18 = .ok (.ldc 7, 2) := by decide +kernel
theorem d_jdk_42_149_20 : decode jdk_42_method_149_code 20 = .ok (.getfield 15, 3) := by decide +kernel
theorem d_jdk_42_149_23 : decode jdk_42_method_149_code 23 = .ok (.putfield 15, 3) := by decide +kernel
theorem d_jdk_42_149_26 : decode jdk_42_method_149_code 26 = .ok (.return_, 1) := by decide +kernel
theorem efsiw (m : MethodId) (x0 : Addr) (x1 : Addr) (x2 : Int32) (x3 : Int32) : entryFrame m #[(.ref x0), (.ref x1), (.int x2), (.int x3), .null] 6 = mkF m 0 #[.val (.ref x0), .val (.ref x1), .val (.int x2), .val (.int x3), .val .null, .unset] [] := by first | (simp [entryFrame, mkF, argsToLocals, Value.category]; done) | rfl
set_option maxRecDepth 65536 in
set_option maxHeartbeats 40000000 in
theorem csiw (l : Launch) (Z : State) (a0 : Array Value) (hw : ∀ d ∈ tables_1, d.before a0 Z = true) (a1 : Addr) (a2 : Addr) (h0 : Heap) (n0 : Nat) (Z0 : n0 ≤ h0.size) (E_a1 : Exa Z h0 a1 "java/lang/String") (F_value_a1 : Fld Z h0 a1 "java/lang/String" "value" "[B" .null) (F_coder_a1 : Fld Z h0 a1 "java/lang/String" "coder" "B" (.int (0 : Int32))) (O0 : Old Z n0 h0) (g_a1 : n0 ≤ a1) (HH : Jvm.Lit.constHeld Z "java/lang/String" 7) (HCW : Jvm.Lit.compactW.before a0 Z = true) :
    ConW l Z (⟨"java/lang/String", "<init>", "([CIILjava/lang/Void;)V"⟩ : MethodName) jdk_42_method_149_code 6 none ({ frames := 1, cells := 2, slots := 4, locals := 12 } : Room) [] #[(.ref a1), (.ref a2), (.int (0 : Int32)), (.int (0 : Int32)), .null] h0 (fun v h L => ∃ bb : Addr, v = none ∧ Fr n0 L ∧ Keep h0 h [a1] ∧ Fld Z h a1 "java/lang/String" "value" "[B" (.ref bb) ∧ Fld Z h a1 "java/lang/String" "coder" "B" (.int (0 : Int32)) ∧ Av Z h bb .byte []) := by
  refine ConW.of (plainFor_of_name pn_java_lang_String) #[.val (.ref a1), .val (.ref a2), .val (.int (0 : Int32)), .val (.int (0 : Int32)), .val .null, .unset] (fun m => efsiw m a1 a2 (0 : Int32) (0 : Int32)) ?_
  intro p e s m below meth c s₁ K hx hby hml hown hnm hret hlk hZ X0 e0 hs0 hI
  have N0 := Fr.nil n0
  refine m_aloadN K X0.here hx hby d_jdk_42_149_0 rfl rfl rfl ?_
  refine k_initO K X0 hx hby hZ hown (W hw 15 rfl) (W hw 16 rfl) (W hw 17 rfl) e0 d_jdk_42_149_1 (by rw [hml]; rfl) rfl (by decide) (Nat.le_of_ble_eq_true rfl) fun T1 X1 e1 => ?_
  refine m_iloadN K X1.here hx hby d_jdk_42_149_4 rfl rfl ?_
  refine m_ifN K X1.here hx hby (q := 8) d_jdk_42_149_5 ((if0 _ _).trans (teq (by decide : (0 : Int32) = (0 : Int32))).2) rfl ?_
  refine m_aloadN K X1.here hx hby d_jdk_42_149_8 rfl rfl rfl ?_
  refine k_ldcS K X1 hx hby hZ hI hown (W hw 18 rfl) (own_wS hw) e1 (Fr.nil _) (fun x cl hx' => by rw [hs0]; exact O0.2.2 x cl hx') HH HCW 0 ⟨fun c hc => by simp at hc, rfl⟩ (by decide) rfl d_jdk_42_149_9 rfl 0 (by decide) (by decide) (by decide) (by decide) fun b2 T2 h2 k2 bb2 X2 e2 E2 hS2 hk2 hZ hown A2 Fc2 Fv2 V2 Lt2 => ?_
  have ne2_a1 : b2 ≠ a1 := Fld.ne Fv2 (F_value_a1.ext E2) nofun
  have nb2_a1 : a1 ≠ bb2 := own_objArr (E_a1.ext E2) V2 (W hw 6 rfl)
  refine k_getF K X2 hx hby hZ hown (host := "") (Or.inl (W hw 24 rfl)) Via.refl e2 Fv2 d_jdk_42_149_11 rfl fun T3 X3 e3 => ?_
  refine k_putF K X3 hx hby hZ hown (host := "") (Or.inl (W hw 24 rfl)) Via.refl e3 (F_value_a1.ext E2) (E_a1.ext E2) (Or.inr ⟨(W hw 20 rfl), rfl, hnm⟩) (W hw 6 rfl) (ty := (.array .byte)) (by decide) rfl rfl d_jdk_42_149_14 rfl fun T4 h4 X4 e4 W4 => ?_
  have Fw4 := (F_value_a1.ext E2).same W4
  have N4 := Fr.snoc X4 N0 g_a1
  refine m_aloadN K X4.here hx hby d_jdk_42_149_17 rfl rfl rfl ?_
  refine k_ldcA K X4 hx hby hZ hown (W hw 18 rfl) Lt2 d_jdk_42_149_18 rfl ?_
  refine k_getF K X4 hx hby hZ hown (host := "") (Or.inl (W hw 25 rfl)) Via.refl e4 (Fc2.other W4 (Or.inl ne2_a1)) d_jdk_42_149_20 rfl fun T5 X5 e5 => ?_
  refine k_putF K X5 hx hby hZ hown (host := "") (Or.inl (W hw 25 rfl)) Via.refl e5 ((F_coder_a1.ext E2).other W4 (Or.inr (slot_ne (Or.inr (W hw 21 rfl)) (Or.inr (W hw 20 rfl)) (by decide) (t := .byte) (t' := (.array .byte)) (by decide) (by decide)))) ((E_a1.ext E2).wr W4) (Or.inr ⟨(W hw 21 rfl), rfl, hnm⟩) (W hw 6 rfl) (ty := .byte) (by decide) (by decide) (by decide) d_jdk_42_149_23 rfl fun T6 h6 X6 e6 W6 => ?_
  have Fw6 := ((F_coder_a1.ext E2).other W4 (Or.inr (slot_ne (Or.inr (W hw 21 rfl)) (Or.inr (W hw 20 rfl)) (by decide) (t := .byte) (t' := (.array .byte)) (by decide) (by decide)))).same W6
  have N6 := Fr.snoc X6 N4 g_a1
  exact GoW.of_since hS2 (Go.retV X6 hx hby hlk hret d_jdk_42_149_26 (by decide) (by decide) (⟨(by rw [e6]; exact ⟨bb2, rfl, N6, ((((Keep.refl h0 [a1]).ext E2).wr W4 (Or.inl (by simp))).wr W6 (Or.inl (by simp))), (Fw4.other W6 (Or.inr (slot_ne (Or.inr (W hw 20 rfl)) (Or.inr (W hw 21 rfl)) (by decide) (t := (.array .byte)) (t' := .byte) (by decide) (by decide)))), Fw6, ((V2.other W4 (Ne.symm nb2_a1)).other W6 (Ne.symm nb2_a1))⟩), (by rw [e6]; exact (Nat.le_trans hk2 (Nat.le_trans (Nat.le_trans (Nat.le_refl _) (Keep.of_wr W4).1) (Keep.of_wr W6).1)))⟩))
theorem efsjw (m : MethodId) (x0 : Addr) (x1 : Addr) : entryFrame m #[(.ref x0), (.ref x1)] 2 = mkF m 0 #[.val (.ref x0), .val (.ref x1)] [] := by first | (simp [entryFrame, mkF, argsToLocals, Value.category]; done) | rfl
set_option maxRecDepth 65536 in
set_option maxHeartbeats 40000000 in
theorem csjw (l : Launch) (Z : State) (a0 : Array Value) (hw : ∀ d ∈ tables_1, d.before a0 Z = true) (a1 : Addr) (a2 : Addr) (h0 : Heap) (n0 : Nat) (Z0 : n0 ≤ h0.size) (E_a1 : Exa Z h0 a1 "java/lang/String") (F_value_a1 : Fld Z h0 a1 "java/lang/String" "value" "[B" .null) (F_coder_a1 : Fld Z h0 a1 "java/lang/String" "coder" "B" (.int (0 : Int32))) (A_a2 : Av Z h0 a2 .char []) (O0 : Old Z n0 h0) (g_a1 : n0 ≤ a1) (HH : Jvm.Lit.constHeld Z "java/lang/String" 7) (HCW : Jvm.Lit.compactW.before a0 Z = true) :
    ConW l Z (⟨"java/lang/String", "<init>", "([C)V"⟩ : MethodName) jdk_42_method_3_code 2 none ({ frames := 2, cells := 2, slots := 4, locals := 29 } : Room) [] #[(.ref a1), (.ref a2)] h0 (fun v h L => ∃ bb : Addr, v = none ∧ Fr n0 L ∧ Keep h0 h [a1] ∧ Fld Z h a1 "java/lang/String" "value" "[B" (.ref bb) ∧ Fld Z h a1 "java/lang/String" "coder" "B" (.int (0 : Int32)) ∧ Av Z h bb .byte []) := by
  refine ConW.of (plainFor_of_name pn_java_lang_String) #[.val (.ref a1), .val (.ref a2)] (fun m => efsjw m a1 a2) ?_
  intro p e s m below meth c s₁ K hx hby hml hown hnm hret hlk hZ X0 e0 hs0 hI
  have N0 := Fr.nil n0
  refine m_aloadN K X0.here hx hby d_jdk_42_3_0 rfl rfl rfl ?_
  refine m_aloadN K X0.here hx hby d_jdk_42_3_1 rfl rfl rfl ?_
  refine m_iconst K X0.here hx hby (0 : Int32) d_jdk_42_3_2 rfl rfl ?_
  refine m_aloadN K X0.here hx hby d_jdk_42_3_3 rfl rfl rfl ?_
  refine k_len K X0 hx hby hZ (0 : Int32) e0 A_a2 rfl d_jdk_42_3_4 rfl ?_
  refine m_null K X0.here hx hby d_jdk_42_3_5 rfl ?_
  refine k_callPW K X0 hx hby hZ hI a1 [(.ref a2), (.int (0 : Int32)), (.int (0 : Int32)), .null] [] hown (W hw 11 rfl) (W hw 12 rfl) (W hw 7 rfl) (W hw 14 rfl) rfl (csiw l Z a0 hw a1 a2 h0 n0 Z0 E_a1 F_value_a1 F_coder_a1 O0 g_a1 HH HCW) e0 rfl rfl pd_13 rfl d_jdk_42_3_6 (by rw [hml]; rfl) rfl (by decide) (by decide) (Nat.le_of_ble_eq_true rfl) (by decide) (by decide) fun v1 T1 L1 X1 q1 hS1 hZ hown => ?_
  obtain ⟨bb_1, rfl, Nq1, K1, Fp1_0, Fp1_1, Ap1_0⟩ := q1
  have N1 := Fr.app N0 Nq1
  refine k_none K ?_
  exact GoW.of_since hS1 (Go.retV X1 hx hby hlk hret d_jdk_42_3_9 (by decide) (by decide) (⟨(⟨bb_1, rfl, N1, ((Keep.refl h0 [a1]).trans K1 (allS (Or.inl (by simp)) all0)), Fp1_0, Fp1_1, Ap1_0⟩), (Nat.le_refl _)⟩))
theorem d_prog_40_4_0 : decode prog_40_method_4_code 0 = .ok (.iconst 0, 1) := by decide +kernel
theorem d_prog_40_4_1 : decode prog_40_method_4_code 1 = .ok (.istore_n 1, 1) := by decide +kernel
theorem d_prog_40_4_2 : decode prog_40_method_4_code 2 = .ok (.iload_n 1, 1) := by decide +kernel
theorem d_prog_40_4_3 : decode prog_40_method_4_code 3 = .ok (.aload_n 0, 1) := by decide +kernel
theorem d_prog_40_4_4 : decode prog_40_method_4_code 4 = .ok (.invokevirtual 17, 3) := by decide +kernel
theorem d_prog_40_4_7 : decode prog_40_method_4_code 7 = .ok (.if_icmp .ge 22, 3) := by decide +kernel
theorem d_prog_40_4_29 : decode prog_40_method_4_code 29 = .ok (.iconst 1, 1) := by decide +kernel
theorem d_prog_40_4_30 : decode prog_40_method_4_code 30 = .ok (.ireturn, 1) := by decide +kernel
theorem pn_com_example_stamp2_stamp2_memory_Footprint : plainName "com/example/stamp2/stamp2/memory/Footprint" = true := by first | (simp [plainName, overriddenIn]; done) | decide +kernel
theorem pd_14 : parseMethodDescriptor "()I" = some ⟨[], some .int⟩ := by decide +kernel
theorem effl0 (m : MethodId) (x0 : Addr) : entryFrame m #[(.ref x0)] 2 = mkF m 0 #[.val (.ref x0), .unset] [] := by first | (simp [entryFrame, mkF, argsToLocals, Value.category]; done) | rfl
set_option maxRecDepth 65536 in
set_option maxHeartbeats 40000000 in
theorem cfl0 (l : Launch) (Z : State) (a0 : Array Value) (hw : ∀ d ∈ tables_1, d.before a0 Z = true) (a1 : Addr) (cz : Int32) (vf : Value) (a2 : Addr) (h0 : Heap) (n0 : Nat) (Z0 : n0 ≤ h0.size) (E_a1 : Exa Z h0 a1 "java/lang/String") (F_value_a1 : Fld Z h0 a1 "java/lang/String" "value" "[B" (.ref a2)) (F_coder_a1 : Fld Z h0 a1 "java/lang/String" "coder" "B" (.int (0 : Int32))) (A_a2 : Av Z h0 a2 .byte []) (O0 : Old Z n0 h0) (SS : SSt Z cz vf) :
    Con l Z (⟨"com/example/stamp2/stamp2/memory/Footprint", "isLatin1", "(Ljava/lang/String;)Z"⟩ : MethodName) prog_40_method_4_code 2 (some .boolean) ({ frames := 2, cells := 0, slots := 0, locals := 26 } : Room) [] #[(.ref a1)] h0 (fun v h L => v = some (.int (1 : Int32)) ∧ h = h0 ∧ L = []) := by
  refine Con.of (plainFor_of_name pn_com_example_stamp2_stamp2_memory_Footprint) #[.val (.ref a1), .unset] (fun m => effl0 m a1) ?_
  intro p e s m below meth c s₁ K hx hby hml hown hnm hret hlk hZ X0 e0
  have N0 := Fr.nil n0
  refine m_iconst K X0.here hx hby (0 : Int32) d_prog_40_4_0 rfl rfl ?_
  refine m_istoreN K X0.here hx hby #[.val (.ref a1), .val (.int (0 : Int32))] d_prog_40_4_1 rfl rfl ?_
  refine m_iloadN K X0.here hx hby d_prog_40_4_2 rfl rfl ?_
  refine m_aloadN K X0.here hx hby d_prog_40_4_3 rfl rfl rfl ?_
  refine k_callV K X0 hx hby hZ a1 [] [(.int (0 : Int32))] hown (W hw 30 rfl) (W hw 31 rfl) (notFace_of_selects (args := #[]) (mvT hZ (W hw 33 rfl))) (W hw 33 rfl) (W hw 32 rfl) (W hw 7 rfl) (W hw 34 rfl) (cll0 l Z a0 hw a1 cz vf a2 h0 n0 Z0 E_a1 F_value_a1 F_coder_a1 A_a2 O0 SS) e0 E_a1 rfl rfl pd_14 rfl d_prog_40_4_4 (by rw [hml]; rfl) rfl (by decide) (by decide) (Nat.le_of_ble_eq_true rfl) (by decide) (by decide) fun v1 T1 L1 X1 q1 => ?_
  obtain ⟨rfl, e1, rfl⟩ := q1
  replace X1 := own_px X1
  refine k_some K (w := (.int (0 : Int32))) ?_
  refine m_icmpY K X1.here hx hby (q := 29) d_prog_40_4_7 (flt (by decide : ¬ ((0 : Int32) < (0 : Int32)))).2.1 (by decide) rfl ?_
  refine m_iconst K X1.here hx hby (1 : Int32) d_prog_40_4_29 rfl rfl ?_
  exact Go.retN X1 hx hby hlk hret (by simp) d_prog_40_4_30 (by decide) (by decide) (by decide) (⟨rfl, e1, rfl⟩)
theorem d_prog_40_4_10 : decode prog_40_method_4_code 10 = .ok (.aload_n 0, 1) := by decide +kernel
theorem d_prog_40_4_11 : decode prog_40_method_4_code 11 = .ok (.iload_n 1, 1) := by decide +kernel
theorem d_prog_40_4_12 : decode prog_40_method_4_code 12 = .ok (.invokevirtual 23, 3) := by decide +kernel
theorem d_prog_40_4_15 : decode prog_40_method_4_code 15 = .ok (.sipush 255, 3) := by decide +kernel
theorem d_prog_40_4_18 : decode prog_40_method_4_code 18 = .ok (.if_icmp .le 5, 3) := by decide +kernel
theorem d_prog_40_4_23 : decode prog_40_method_4_code 23 = .ok (.iinc 1 1, 3) := by decide +kernel
theorem d_prog_40_4_26 : decode prog_40_method_4_code 26 = .ok (.goto (-24), 3) := by decide +kernel
theorem pd_15 : parseMethodDescriptor "(I)C" = some ⟨[.int], some .char⟩ := by decide +kernel
theorem effl1 (m : MethodId) (x0 : Addr) : entryFrame m #[(.ref x0)] 2 = mkF m 0 #[.val (.ref x0), .unset] [] := by first | (simp [entryFrame, mkF, argsToLocals, Value.category]; done) | rfl
set_option maxRecDepth 65536 in
set_option maxHeartbeats 40000000 in
theorem cfl1 (l : Launch) (Z : State) (a0 : Array Value) (hw : ∀ d ∈ tables_1, d.before a0 Z = true) (a1 : Addr) (cz : Int32) (vf : Value) (a2 : Addr) (y0 : Int32) (h0 : Heap) (n0 : Nat) (Z0 : n0 ≤ h0.size) (E_a1 : Exa Z h0 a1 "java/lang/String") (F_value_a1 : Fld Z h0 a1 "java/lang/String" "value" "[B" (.ref a2)) (F_coder_a1 : Fld Z h0 a1 "java/lang/String" "coder" "B" (.int (0 : Int32))) (A_a2 : Av Z h0 a2 .byte [(.int y0)]) (O0 : Old Z n0 h0) (SS : SSt Z cz vf) :
    Con l Z (⟨"com/example/stamp2/stamp2/memory/Footprint", "isLatin1", "(Ljava/lang/String;)Z"⟩ : MethodName) prog_40_method_4_code 2 (some .boolean) ({ frames := 4, cells := 0, slots := 0, locals := 53 } : Room) [] #[(.ref a1)] h0 (fun v h L => v = some (.int (1 : Int32)) ∧ h = h0 ∧ L = []) := by
  refine Con.of (plainFor_of_name pn_com_example_stamp2_stamp2_memory_Footprint) #[.val (.ref a1), .unset] (fun m => effl1 m a1) ?_
  intro p e s m below meth c s₁ K hx hby hml hown hnm hret hlk hZ X0 e0
  have N0 := Fr.nil n0
  refine m_iconst K X0.here hx hby (0 : Int32) d_prog_40_4_0 rfl rfl ?_
  refine m_istoreN K X0.here hx hby #[.val (.ref a1), .val (.int (0 : Int32))] d_prog_40_4_1 rfl rfl ?_
  refine m_iloadN K X0.here hx hby d_prog_40_4_2 rfl rfl ?_
  refine m_aloadN K X0.here hx hby d_prog_40_4_3 rfl rfl rfl ?_
  refine k_callV K X0 hx hby hZ a1 [] [(.int (0 : Int32))] hown (W hw 30 rfl) (W hw 31 rfl) (notFace_of_selects (args := #[]) (mvT hZ (W hw 33 rfl))) (W hw 33 rfl) (W hw 32 rfl) (W hw 7 rfl) (W hw 34 rfl) (cll1 l Z a0 hw a1 cz vf a2 y0 h0 n0 Z0 E_a1 F_value_a1 F_coder_a1 A_a2 O0 SS) e0 E_a1 rfl rfl pd_14 rfl d_prog_40_4_4 (by rw [hml]; rfl) rfl (by decide) (by decide) (Nat.le_of_ble_eq_true rfl) (by decide) (by decide) fun v1 T1 L1 X1 q1 => ?_
  obtain ⟨rfl, e1, rfl⟩ := q1
  replace X1 := own_px X1
  refine k_some K (w := (.int (1 : Int32))) ?_
  refine m_icmpN K X1.here hx hby (q := 10) d_prog_40_4_7 (tlt (by decide : (0 : Int32) < (1 : Int32))).2.1 rfl ?_
  refine m_aloadN K X1.here hx hby d_prog_40_4_10 rfl rfl rfl ?_
  refine m_iloadN K X1.here hx hby d_prog_40_4_11 rfl rfl ?_
  refine k_callV K X1 hx hby hZ a1 [(.int (0 : Int32))] [] hown (W hw 51 rfl) (W hw 52 rfl) (notFace_of_selects (args := #[]) (mvT hZ (W hw 54 rfl))) (W hw 54 rfl) (W hw 53 rfl) (W hw 7 rfl) (W hw 55 rfl) (ccl1_0 l Z a0 hw a1 cz vf a2 y0 h0 n0 Z0 E_a1 F_value_a1 F_coder_a1 A_a2 O0 SS) e1 E_a1 rfl rfl pd_15 rfl d_prog_40_4_12 (by rw [hml]; rfl) rfl (by decide) (by decide) (Nat.le_of_ble_eq_true rfl) (by decide) (by decide) fun v2 T2 L2 X2 q2 => ?_
  obtain ⟨rfl, e2, rfl⟩ := q2
  replace X2 := own_px X2
  refine k_some K (w := (.int (LCH y0))) ?_
  refine m_sipush K X2.here hx hby (255 : Int32) d_prog_40_4_15 rfl rfl ?_
  refine m_icmpY K X2.here hx hby (q := 23) d_prog_40_4_18 (flt (own_lch y0)).2.2.2 (by decide) rfl ?_
  refine m_iinc K X2.here hx hby #[.val (.ref a1), .val (.int (1 : Int32))] d_prog_40_4_23 rfl rfl rfl ?_
  refine m_goto K X2.here hx hby (q := 2) d_prog_40_4_26 (by decide) rfl ?_
  refine m_iloadN K X2.here hx hby d_prog_40_4_2 rfl rfl ?_
  refine m_aloadN K X2.here hx hby d_prog_40_4_3 rfl rfl rfl ?_
  refine k_callV K X2 hx hby hZ a1 [] [(.int (1 : Int32))] hown (W hw 30 rfl) (W hw 31 rfl) (notFace_of_selects (args := #[]) (mvT hZ (W hw 33 rfl))) (W hw 33 rfl) (W hw 32 rfl) (W hw 7 rfl) (W hw 34 rfl) (cll1 l Z a0 hw a1 cz vf a2 y0 h0 n0 Z0 E_a1 F_value_a1 F_coder_a1 A_a2 O0 SS) e2 E_a1 rfl rfl pd_14 rfl d_prog_40_4_4 (by rw [hml]; rfl) rfl (by decide) (by decide) (Nat.le_of_ble_eq_true rfl) (by decide) (by decide) fun v3 T3 L3 X3 q3 => ?_
  obtain ⟨rfl, e3, rfl⟩ := q3
  replace X3 := own_px X3
  refine k_some K (w := (.int (1 : Int32))) ?_
  refine m_icmpY K X3.here hx hby (q := 29) d_prog_40_4_7 (flt (by decide : ¬ ((1 : Int32) < (1 : Int32)))).2.1 (by decide) rfl ?_
  refine m_iconst K X3.here hx hby (1 : Int32) d_prog_40_4_29 rfl rfl ?_
  exact Go.retN X3 hx hby hlk hret (by simp) d_prog_40_4_30 (by decide) (by decide) (by decide) (⟨rfl, e3, rfl⟩)
theorem d_prog_40_4_21 : decode prog_40_method_4_code 21 = .ok (.iconst 0, 1) := by decide +kernel
theorem d_prog_40_4_22 : decode prog_40_method_4_code 22 = .ok (.ireturn, 1) := by decide +kernel
theorem effl1_0 (m : MethodId) (x0 : Addr) : entryFrame m #[(.ref x0)] 2 = mkF m 0 #[.val (.ref x0), .unset] [] := by first | (simp [entryFrame, mkF, argsToLocals, Value.category]; done) | rfl
set_option maxRecDepth 65536 in
set_option maxHeartbeats 40000000 in
theorem cfl1_0 (l : Launch) (Z : State) (a0 : Array Value) (hw : ∀ d ∈ tables_1, d.before a0 Z = true) (a1 : Addr) (cz : Int32) (vf : Value) (a2 : Addr) (c0 : Int32) (h0 : Heap) (n0 : Nat) (Z0 : n0 ≤ h0.size) (E_a1 : Exa Z h0 a1 "java/lang/String") (F_value_a1 : Fld Z h0 a1 "java/lang/String" "value" "[B" (.ref a2)) (F_coder_a1 : Fld Z h0 a1 "java/lang/String" "coder" "B" (.int (1 : Int32))) (A_a2 : Av Z h0 a2 .byte [(.int (BLO c0)), (.int (BHI c0))]) (O0 : Old Z n0 h0) (SS : SSt Z cz vf) (hg : (255 : Int32) < c0) (hch_0 : nar .char c0 = c0) :
    Con l Z (⟨"com/example/stamp2/stamp2/memory/Footprint", "isLatin1", "(Ljava/lang/String;)Z"⟩ : MethodName) prog_40_method_4_code 2 (some .boolean) ({ frames := 5, cells := 0, slots := 0, locals := 66 } : Room) [] #[(.ref a1)] h0 (fun v h L => v = some (.int (0 : Int32)) ∧ h = h0 ∧ L = []) := by
  refine Con.of (plainFor_of_name pn_com_example_stamp2_stamp2_memory_Footprint) #[.val (.ref a1), .unset] (fun m => effl1_0 m a1) ?_
  intro p e s m below meth c s₁ K hx hby hml hown hnm hret hlk hZ X0 e0
  have N0 := Fr.nil n0
  refine m_iconst K X0.here hx hby (0 : Int32) d_prog_40_4_0 rfl rfl ?_
  refine m_istoreN K X0.here hx hby #[.val (.ref a1), .val (.int (0 : Int32))] d_prog_40_4_1 rfl rfl ?_
  refine m_iloadN K X0.here hx hby d_prog_40_4_2 rfl rfl ?_
  refine m_aloadN K X0.here hx hby d_prog_40_4_3 rfl rfl rfl ?_
  refine k_callV K X0 hx hby hZ a1 [] [(.int (0 : Int32))] hown (W hw 30 rfl) (W hw 31 rfl) (notFace_of_selects (args := #[]) (mvT hZ (W hw 33 rfl))) (W hw 33 rfl) (W hw 32 rfl) (W hw 7 rfl) (W hw 34 rfl) (clu1 l Z a0 hw a1 cz vf a2 (BLO c0) (BHI c0) h0 n0 Z0 E_a1 F_value_a1 F_coder_a1 A_a2 O0 SS) e0 E_a1 rfl rfl pd_14 rfl d_prog_40_4_4 (by rw [hml]; rfl) rfl (by decide) (by decide) (Nat.le_of_ble_eq_true rfl) (by decide) (by decide) fun v1 T1 L1 X1 q1 => ?_
  obtain ⟨rfl, e1, rfl⟩ := q1
  replace X1 := own_px X1
  refine k_some K (w := (.int (1 : Int32))) ?_
  refine m_icmpN K X1.here hx hby (q := 10) d_prog_40_4_7 (tlt (by decide : (0 : Int32) < (1 : Int32))).2.1 rfl ?_
  refine m_aloadN K X1.here hx hby d_prog_40_4_10 rfl rfl rfl ?_
  refine m_iloadN K X1.here hx hby d_prog_40_4_11 rfl rfl ?_
  refine k_callV K X1 hx hby hZ a1 [(.int (0 : Int32))] [] hown (W hw 51 rfl) (W hw 52 rfl) (notFace_of_selects (args := #[]) (mvT hZ (W hw 54 rfl))) (W hw 54 rfl) (W hw 53 rfl) (W hw 7 rfl) (W hw 55 rfl) (ccu1_0 l Z a0 hw a1 cz vf a2 (BLO c0) (BHI c0) h0 n0 Z0 E_a1 F_value_a1 F_coder_a1 A_a2 O0 SS) e1 E_a1 rfl rfl pd_15 rfl d_prog_40_4_12 (by rw [hml]; rfl) rfl (by decide) (by decide) (Nat.le_of_ble_eq_true rfl) (by decide) (by decide) fun v2 T2 L2 X2 q2 => ?_
  obtain ⟨rfl, e2, rfl⟩ := q2
  replace X2 := own_px X2
  refine k_some K (w := (.int (GCH (BLO c0) (BHI c0)))) ?_
  refine m_sipush K X2.here hx hby (255 : Int32) d_prog_40_4_15 rfl rfl ?_
  refine m_icmpN K X2.here hx hby (q := 21) d_prog_40_4_18 (tlt (own_rgt c0 hch_0 hg)).2.2.2 rfl ?_
  refine m_iconst K X2.here hx hby (0 : Int32) d_prog_40_4_21 rfl rfl ?_
  exact Go.retN X2 hx hby hlk hret (by simp) d_prog_40_4_22 (by decide) (by decide) (by decide) (⟨rfl, e2, rfl⟩)
theorem effl2 (m : MethodId) (x0 : Addr) : entryFrame m #[(.ref x0)] 2 = mkF m 0 #[.val (.ref x0), .unset] [] := by first | (simp [entryFrame, mkF, argsToLocals, Value.category]; done) | rfl
set_option maxRecDepth 65536 in
set_option maxHeartbeats 40000000 in
theorem cfl2 (l : Launch) (Z : State) (a0 : Array Value) (hw : ∀ d ∈ tables_1, d.before a0 Z = true) (a1 : Addr) (cz : Int32) (vf : Value) (a2 : Addr) (y0 : Int32) (y1 : Int32) (h0 : Heap) (n0 : Nat) (Z0 : n0 ≤ h0.size) (E_a1 : Exa Z h0 a1 "java/lang/String") (F_value_a1 : Fld Z h0 a1 "java/lang/String" "value" "[B" (.ref a2)) (F_coder_a1 : Fld Z h0 a1 "java/lang/String" "coder" "B" (.int (0 : Int32))) (A_a2 : Av Z h0 a2 .byte [(.int y0), (.int y1)]) (O0 : Old Z n0 h0) (SS : SSt Z cz vf) :
    Con l Z (⟨"com/example/stamp2/stamp2/memory/Footprint", "isLatin1", "(Ljava/lang/String;)Z"⟩ : MethodName) prog_40_method_4_code 2 (some .boolean) ({ frames := 4, cells := 0, slots := 0, locals := 53 } : Room) [] #[(.ref a1)] h0 (fun v h L => v = some (.int (1 : Int32)) ∧ h = h0 ∧ L = []) := by
  refine Con.of (plainFor_of_name pn_com_example_stamp2_stamp2_memory_Footprint) #[.val (.ref a1), .unset] (fun m => effl2 m a1) ?_
  intro p e s m below meth c s₁ K hx hby hml hown hnm hret hlk hZ X0 e0
  have N0 := Fr.nil n0
  refine m_iconst K X0.here hx hby (0 : Int32) d_prog_40_4_0 rfl rfl ?_
  refine m_istoreN K X0.here hx hby #[.val (.ref a1), .val (.int (0 : Int32))] d_prog_40_4_1 rfl rfl ?_
  refine m_iloadN K X0.here hx hby d_prog_40_4_2 rfl rfl ?_
  refine m_aloadN K X0.here hx hby d_prog_40_4_3 rfl rfl rfl ?_
  refine k_callV K X0 hx hby hZ a1 [] [(.int (0 : Int32))] hown (W hw 30 rfl) (W hw 31 rfl) (notFace_of_selects (args := #[]) (mvT hZ (W hw 33 rfl))) (W hw 33 rfl) (W hw 32 rfl) (W hw 7 rfl) (W hw 34 rfl) (cll2 l Z a0 hw a1 cz vf a2 y0 y1 h0 n0 Z0 E_a1 F_value_a1 F_coder_a1 A_a2 O0 SS) e0 E_a1 rfl rfl pd_14 rfl d_prog_40_4_4 (by rw [hml]; rfl) rfl (by decide) (by decide) (Nat.le_of_ble_eq_true rfl) (by decide) (by decide) fun v1 T1 L1 X1 q1 => ?_
  obtain ⟨rfl, e1, rfl⟩ := q1
  replace X1 := own_px X1
  refine k_some K (w := (.int (2 : Int32))) ?_
  refine m_icmpN K X1.here hx hby (q := 10) d_prog_40_4_7 (tlt (by decide : (0 : Int32) < (2 : Int32))).2.1 rfl ?_
  refine m_aloadN K X1.here hx hby d_prog_40_4_10 rfl rfl rfl ?_
  refine m_iloadN K X1.here hx hby d_prog_40_4_11 rfl rfl ?_
  refine k_callV K X1 hx hby hZ a1 [(.int (0 : Int32))] [] hown (W hw 51 rfl) (W hw 52 rfl) (notFace_of_selects (args := #[]) (mvT hZ (W hw 54 rfl))) (W hw 54 rfl) (W hw 53 rfl) (W hw 7 rfl) (W hw 55 rfl) (ccl2_0 l Z a0 hw a1 cz vf a2 y0 y1 h0 n0 Z0 E_a1 F_value_a1 F_coder_a1 A_a2 O0 SS) e1 E_a1 rfl rfl pd_15 rfl d_prog_40_4_12 (by rw [hml]; rfl) rfl (by decide) (by decide) (Nat.le_of_ble_eq_true rfl) (by decide) (by decide) fun v2 T2 L2 X2 q2 => ?_
  obtain ⟨rfl, e2, rfl⟩ := q2
  replace X2 := own_px X2
  refine k_some K (w := (.int (LCH y0))) ?_
  refine m_sipush K X2.here hx hby (255 : Int32) d_prog_40_4_15 rfl rfl ?_
  refine m_icmpY K X2.here hx hby (q := 23) d_prog_40_4_18 (flt (own_lch y0)).2.2.2 (by decide) rfl ?_
  refine m_iinc K X2.here hx hby #[.val (.ref a1), .val (.int (1 : Int32))] d_prog_40_4_23 rfl rfl rfl ?_
  refine m_goto K X2.here hx hby (q := 2) d_prog_40_4_26 (by decide) rfl ?_
  refine m_iloadN K X2.here hx hby d_prog_40_4_2 rfl rfl ?_
  refine m_aloadN K X2.here hx hby d_prog_40_4_3 rfl rfl rfl ?_
  refine k_callV K X2 hx hby hZ a1 [] [(.int (1 : Int32))] hown (W hw 30 rfl) (W hw 31 rfl) (notFace_of_selects (args := #[]) (mvT hZ (W hw 33 rfl))) (W hw 33 rfl) (W hw 32 rfl) (W hw 7 rfl) (W hw 34 rfl) (cll2 l Z a0 hw a1 cz vf a2 y0 y1 h0 n0 Z0 E_a1 F_value_a1 F_coder_a1 A_a2 O0 SS) e2 E_a1 rfl rfl pd_14 rfl d_prog_40_4_4 (by rw [hml]; rfl) rfl (by decide) (by decide) (Nat.le_of_ble_eq_true rfl) (by decide) (by decide) fun v3 T3 L3 X3 q3 => ?_
  obtain ⟨rfl, e3, rfl⟩ := q3
  replace X3 := own_px X3
  refine k_some K (w := (.int (2 : Int32))) ?_
  refine m_icmpN K X3.here hx hby (q := 10) d_prog_40_4_7 (tlt (by decide : (1 : Int32) < (2 : Int32))).2.1 rfl ?_
  refine m_aloadN K X3.here hx hby d_prog_40_4_10 rfl rfl rfl ?_
  refine m_iloadN K X3.here hx hby d_prog_40_4_11 rfl rfl ?_
  refine k_callV K X3 hx hby hZ a1 [(.int (1 : Int32))] [] hown (W hw 51 rfl) (W hw 52 rfl) (notFace_of_selects (args := #[]) (mvT hZ (W hw 54 rfl))) (W hw 54 rfl) (W hw 53 rfl) (W hw 7 rfl) (W hw 55 rfl) (ccl2_1 l Z a0 hw a1 cz vf a2 y0 y1 h0 n0 Z0 E_a1 F_value_a1 F_coder_a1 A_a2 O0 SS) e3 E_a1 rfl rfl pd_15 rfl d_prog_40_4_12 (by rw [hml]; rfl) rfl (by decide) (by decide) (Nat.le_of_ble_eq_true rfl) (by decide) (by decide) fun v4 T4 L4 X4 q4 => ?_
  obtain ⟨rfl, e4, rfl⟩ := q4
  replace X4 := own_px X4
  refine k_some K (w := (.int (LCH y1))) ?_
  refine m_sipush K X4.here hx hby (255 : Int32) d_prog_40_4_15 rfl rfl ?_
  refine m_icmpY K X4.here hx hby (q := 23) d_prog_40_4_18 (flt (own_lch y1)).2.2.2 (by decide) rfl ?_
  refine m_iinc K X4.here hx hby #[.val (.ref a1), .val (.int (2 : Int32))] d_prog_40_4_23 rfl rfl rfl ?_
  refine m_goto K X4.here hx hby (q := 2) d_prog_40_4_26 (by decide) rfl ?_
  refine m_iloadN K X4.here hx hby d_prog_40_4_2 rfl rfl ?_
  refine m_aloadN K X4.here hx hby d_prog_40_4_3 rfl rfl rfl ?_
  refine k_callV K X4 hx hby hZ a1 [] [(.int (2 : Int32))] hown (W hw 30 rfl) (W hw 31 rfl) (notFace_of_selects (args := #[]) (mvT hZ (W hw 33 rfl))) (W hw 33 rfl) (W hw 32 rfl) (W hw 7 rfl) (W hw 34 rfl) (cll2 l Z a0 hw a1 cz vf a2 y0 y1 h0 n0 Z0 E_a1 F_value_a1 F_coder_a1 A_a2 O0 SS) e4 E_a1 rfl rfl pd_14 rfl d_prog_40_4_4 (by rw [hml]; rfl) rfl (by decide) (by decide) (Nat.le_of_ble_eq_true rfl) (by decide) (by decide) fun v5 T5 L5 X5 q5 => ?_
  obtain ⟨rfl, e5, rfl⟩ := q5
  replace X5 := own_px X5
  refine k_some K (w := (.int (2 : Int32))) ?_
  refine m_icmpY K X5.here hx hby (q := 29) d_prog_40_4_7 (flt (by decide : ¬ ((2 : Int32) < (2 : Int32)))).2.1 (by decide) rfl ?_
  refine m_iconst K X5.here hx hby (1 : Int32) d_prog_40_4_29 rfl rfl ?_
  exact Go.retN X5 hx hby hlk hret (by simp) d_prog_40_4_30 (by decide) (by decide) (by decide) (⟨rfl, e5, rfl⟩)
theorem effl2_0 (m : MethodId) (x0 : Addr) : entryFrame m #[(.ref x0)] 2 = mkF m 0 #[.val (.ref x0), .unset] [] := by first | (simp [entryFrame, mkF, argsToLocals, Value.category]; done) | rfl
set_option maxRecDepth 65536 in
set_option maxHeartbeats 40000000 in
theorem cfl2_0 (l : Launch) (Z : State) (a0 : Array Value) (hw : ∀ d ∈ tables_1, d.before a0 Z = true) (a1 : Addr) (cz : Int32) (vf : Value) (a2 : Addr) (c0 : Int32) (c1 : Int32) (h0 : Heap) (n0 : Nat) (Z0 : n0 ≤ h0.size) (E_a1 : Exa Z h0 a1 "java/lang/String") (F_value_a1 : Fld Z h0 a1 "java/lang/String" "value" "[B" (.ref a2)) (F_coder_a1 : Fld Z h0 a1 "java/lang/String" "coder" "B" (.int (1 : Int32))) (A_a2 : Av Z h0 a2 .byte [(.int (BLO c0)), (.int (BHI c0)), (.int (BLO c1)), (.int (BHI c1))]) (O0 : Old Z n0 h0) (SS : SSt Z cz vf) (hg : (255 : Int32) < c0) (hch_0 : nar .char c0 = c0) (hch_1 : nar .char c1 = c1) :
    Con l Z (⟨"com/example/stamp2/stamp2/memory/Footprint", "isLatin1", "(Ljava/lang/String;)Z"⟩ : MethodName) prog_40_method_4_code 2 (some .boolean) ({ frames := 5, cells := 0, slots := 0, locals := 66 } : Room) [] #[(.ref a1)] h0 (fun v h L => v = some (.int (0 : Int32)) ∧ h = h0 ∧ L = []) := by
  refine Con.of (plainFor_of_name pn_com_example_stamp2_stamp2_memory_Footprint) #[.val (.ref a1), .unset] (fun m => effl2_0 m a1) ?_
  intro p e s m below meth c s₁ K hx hby hml hown hnm hret hlk hZ X0 e0
  have N0 := Fr.nil n0
  refine m_iconst K X0.here hx hby (0 : Int32) d_prog_40_4_0 rfl rfl ?_
  refine m_istoreN K X0.here hx hby #[.val (.ref a1), .val (.int (0 : Int32))] d_prog_40_4_1 rfl rfl ?_
  refine m_iloadN K X0.here hx hby d_prog_40_4_2 rfl rfl ?_
  refine m_aloadN K X0.here hx hby d_prog_40_4_3 rfl rfl rfl ?_
  refine k_callV K X0 hx hby hZ a1 [] [(.int (0 : Int32))] hown (W hw 30 rfl) (W hw 31 rfl) (notFace_of_selects (args := #[]) (mvT hZ (W hw 33 rfl))) (W hw 33 rfl) (W hw 32 rfl) (W hw 7 rfl) (W hw 34 rfl) (clu2 l Z a0 hw a1 cz vf a2 (BLO c0) (BHI c0) (BLO c1) (BHI c1) h0 n0 Z0 E_a1 F_value_a1 F_coder_a1 A_a2 O0 SS) e0 E_a1 rfl rfl pd_14 rfl d_prog_40_4_4 (by rw [hml]; rfl) rfl (by decide) (by decide) (Nat.le_of_ble_eq_true rfl) (by decide) (by decide) fun v1 T1 L1 X1 q1 => ?_
  obtain ⟨rfl, e1, rfl⟩ := q1
  replace X1 := own_px X1
  refine k_some K (w := (.int (2 : Int32))) ?_
  refine m_icmpN K X1.here hx hby (q := 10) d_prog_40_4_7 (tlt (by decide : (0 : Int32) < (2 : Int32))).2.1 rfl ?_
  refine m_aloadN K X1.here hx hby d_prog_40_4_10 rfl rfl rfl ?_
  refine m_iloadN K X1.here hx hby d_prog_40_4_11 rfl rfl ?_
  refine k_callV K X1 hx hby hZ a1 [(.int (0 : Int32))] [] hown (W hw 51 rfl) (W hw 52 rfl) (notFace_of_selects (args := #[]) (mvT hZ (W hw 54 rfl))) (W hw 54 rfl) (W hw 53 rfl) (W hw 7 rfl) (W hw 55 rfl) (ccu2_0 l Z a0 hw a1 cz vf a2 (BLO c0) (BHI c0) (BLO c1) (BHI c1) h0 n0 Z0 E_a1 F_value_a1 F_coder_a1 A_a2 O0 SS) e1 E_a1 rfl rfl pd_15 rfl d_prog_40_4_12 (by rw [hml]; rfl) rfl (by decide) (by decide) (Nat.le_of_ble_eq_true rfl) (by decide) (by decide) fun v2 T2 L2 X2 q2 => ?_
  obtain ⟨rfl, e2, rfl⟩ := q2
  replace X2 := own_px X2
  refine k_some K (w := (.int (GCH (BLO c0) (BHI c0)))) ?_
  refine m_sipush K X2.here hx hby (255 : Int32) d_prog_40_4_15 rfl rfl ?_
  refine m_icmpN K X2.here hx hby (q := 21) d_prog_40_4_18 (tlt (own_rgt c0 hch_0 hg)).2.2.2 rfl ?_
  refine m_iconst K X2.here hx hby (0 : Int32) d_prog_40_4_21 rfl rfl ?_
  exact Go.retN X2 hx hby hlk hret (by simp) d_prog_40_4_22 (by decide) (by decide) (by decide) (⟨rfl, e2, rfl⟩)
theorem effl2_1 (m : MethodId) (x0 : Addr) : entryFrame m #[(.ref x0)] 2 = mkF m 0 #[.val (.ref x0), .unset] [] := by first | (simp [entryFrame, mkF, argsToLocals, Value.category]; done) | rfl
set_option maxRecDepth 65536 in
set_option maxHeartbeats 40000000 in
theorem cfl2_1 (l : Launch) (Z : State) (a0 : Array Value) (hw : ∀ d ∈ tables_1, d.before a0 Z = true) (a1 : Addr) (cz : Int32) (vf : Value) (a2 : Addr) (c0 : Int32) (c1 : Int32) (h0 : Heap) (n0 : Nat) (Z0 : n0 ≤ h0.size) (E_a1 : Exa Z h0 a1 "java/lang/String") (F_value_a1 : Fld Z h0 a1 "java/lang/String" "value" "[B" (.ref a2)) (F_coder_a1 : Fld Z h0 a1 "java/lang/String" "coder" "B" (.int (1 : Int32))) (A_a2 : Av Z h0 a2 .byte [(.int (BLO c0)), (.int (BHI c0)), (.int (BLO c1)), (.int (BHI c1))]) (O0 : Old Z n0 h0) (SS : SSt Z cz vf) (hl_0 : ¬ ((255 : Int32) < c0)) (hg : (255 : Int32) < c1) (hch_0 : nar .char c0 = c0) (hch_1 : nar .char c1 = c1) :
    Con l Z (⟨"com/example/stamp2/stamp2/memory/Footprint", "isLatin1", "(Ljava/lang/String;)Z"⟩ : MethodName) prog_40_method_4_code 2 (some .boolean) ({ frames := 5, cells := 0, slots := 0, locals := 66 } : Room) [] #[(.ref a1)] h0 (fun v h L => v = some (.int (0 : Int32)) ∧ h = h0 ∧ L = []) := by
  refine Con.of (plainFor_of_name pn_com_example_stamp2_stamp2_memory_Footprint) #[.val (.ref a1), .unset] (fun m => effl2_1 m a1) ?_
  intro p e s m below meth c s₁ K hx hby hml hown hnm hret hlk hZ X0 e0
  have N0 := Fr.nil n0
  refine m_iconst K X0.here hx hby (0 : Int32) d_prog_40_4_0 rfl rfl ?_
  refine m_istoreN K X0.here hx hby #[.val (.ref a1), .val (.int (0 : Int32))] d_prog_40_4_1 rfl rfl ?_
  refine m_iloadN K X0.here hx hby d_prog_40_4_2 rfl rfl ?_
  refine m_aloadN K X0.here hx hby d_prog_40_4_3 rfl rfl rfl ?_
  refine k_callV K X0 hx hby hZ a1 [] [(.int (0 : Int32))] hown (W hw 30 rfl) (W hw 31 rfl) (notFace_of_selects (args := #[]) (mvT hZ (W hw 33 rfl))) (W hw 33 rfl) (W hw 32 rfl) (W hw 7 rfl) (W hw 34 rfl) (clu2 l Z a0 hw a1 cz vf a2 (BLO c0) (BHI c0) (BLO c1) (BHI c1) h0 n0 Z0 E_a1 F_value_a1 F_coder_a1 A_a2 O0 SS) e0 E_a1 rfl rfl pd_14 rfl d_prog_40_4_4 (by rw [hml]; rfl) rfl (by decide) (by decide) (Nat.le_of_ble_eq_true rfl) (by decide) (by decide) fun v1 T1 L1 X1 q1 => ?_
  obtain ⟨rfl, e1, rfl⟩ := q1
  replace X1 := own_px X1
  refine k_some K (w := (.int (2 : Int32))) ?_
  refine m_icmpN K X1.here hx hby (q := 10) d_prog_40_4_7 (tlt (by decide : (0 : Int32) < (2 : Int32))).2.1 rfl ?_
  refine m_aloadN K X1.here hx hby d_prog_40_4_10 rfl rfl rfl ?_
  refine m_iloadN K X1.here hx hby d_prog_40_4_11 rfl rfl ?_
  refine k_callV K X1 hx hby hZ a1 [(.int (0 : Int32))] [] hown (W hw 51 rfl) (W hw 52 rfl) (notFace_of_selects (args := #[]) (mvT hZ (W hw 54 rfl))) (W hw 54 rfl) (W hw 53 rfl) (W hw 7 rfl) (W hw 55 rfl) (ccu2_0 l Z a0 hw a1 cz vf a2 (BLO c0) (BHI c0) (BLO c1) (BHI c1) h0 n0 Z0 E_a1 F_value_a1 F_coder_a1 A_a2 O0 SS) e1 E_a1 rfl rfl pd_15 rfl d_prog_40_4_12 (by rw [hml]; rfl) rfl (by decide) (by decide) (Nat.le_of_ble_eq_true rfl) (by decide) (by decide) fun v2 T2 L2 X2 q2 => ?_
  obtain ⟨rfl, e2, rfl⟩ := q2
  replace X2 := own_px X2
  refine k_some K (w := (.int (GCH (BLO c0) (BHI c0)))) ?_
  refine m_sipush K X2.here hx hby (255 : Int32) d_prog_40_4_15 rfl rfl ?_
  refine m_icmpY K X2.here hx hby (q := 23) d_prog_40_4_18 (flt (own_rle c0 hch_0 hl_0)).2.2.2 (by decide) rfl ?_
  refine m_iinc K X2.here hx hby #[.val (.ref a1), .val (.int (1 : Int32))] d_prog_40_4_23 rfl rfl rfl ?_
  refine m_goto K X2.here hx hby (q := 2) d_prog_40_4_26 (by decide) rfl ?_
  refine m_iloadN K X2.here hx hby d_prog_40_4_2 rfl rfl ?_
  refine m_aloadN K X2.here hx hby d_prog_40_4_3 rfl rfl rfl ?_
  refine k_callV K X2 hx hby hZ a1 [] [(.int (1 : Int32))] hown (W hw 30 rfl) (W hw 31 rfl) (notFace_of_selects (args := #[]) (mvT hZ (W hw 33 rfl))) (W hw 33 rfl) (W hw 32 rfl) (W hw 7 rfl) (W hw 34 rfl) (clu2 l Z a0 hw a1 cz vf a2 (BLO c0) (BHI c0) (BLO c1) (BHI c1) h0 n0 Z0 E_a1 F_value_a1 F_coder_a1 A_a2 O0 SS) e2 E_a1 rfl rfl pd_14 rfl d_prog_40_4_4 (by rw [hml]; rfl) rfl (by decide) (by decide) (Nat.le_of_ble_eq_true rfl) (by decide) (by decide) fun v3 T3 L3 X3 q3 => ?_
  obtain ⟨rfl, e3, rfl⟩ := q3
  replace X3 := own_px X3
  refine k_some K (w := (.int (2 : Int32))) ?_
  refine m_icmpN K X3.here hx hby (q := 10) d_prog_40_4_7 (tlt (by decide : (1 : Int32) < (2 : Int32))).2.1 rfl ?_
  refine m_aloadN K X3.here hx hby d_prog_40_4_10 rfl rfl rfl ?_
  refine m_iloadN K X3.here hx hby d_prog_40_4_11 rfl rfl ?_
  refine k_callV K X3 hx hby hZ a1 [(.int (1 : Int32))] [] hown (W hw 51 rfl) (W hw 52 rfl) (notFace_of_selects (args := #[]) (mvT hZ (W hw 54 rfl))) (W hw 54 rfl) (W hw 53 rfl) (W hw 7 rfl) (W hw 55 rfl) (ccu2_1 l Z a0 hw a1 cz vf a2 (BLO c0) (BHI c0) (BLO c1) (BHI c1) h0 n0 Z0 E_a1 F_value_a1 F_coder_a1 A_a2 O0 SS) e3 E_a1 rfl rfl pd_15 rfl d_prog_40_4_12 (by rw [hml]; rfl) rfl (by decide) (by decide) (Nat.le_of_ble_eq_true rfl) (by decide) (by decide) fun v4 T4 L4 X4 q4 => ?_
  obtain ⟨rfl, e4, rfl⟩ := q4
  replace X4 := own_px X4
  refine k_some K (w := (.int (GCH (BLO c1) (BHI c1)))) ?_
  refine m_sipush K X4.here hx hby (255 : Int32) d_prog_40_4_15 rfl rfl ?_
  refine m_icmpN K X4.here hx hby (q := 21) d_prog_40_4_18 (tlt (own_rgt c1 hch_1 hg)).2.2.2 rfl ?_
  refine m_iconst K X4.here hx hby (0 : Int32) d_prog_40_4_21 rfl rfl ?_
  exact Go.retN X4 hx hby hlk hret (by simp) d_prog_40_4_22 (by decide) (by decide) (by decide) (⟨rfl, e4, rfl⟩)
theorem effl3 (m : MethodId) (x0 : Addr) : entryFrame m #[(.ref x0)] 2 = mkF m 0 #[.val (.ref x0), .unset] [] := by first | (simp [entryFrame, mkF, argsToLocals, Value.category]; done) | rfl
set_option maxRecDepth 65536 in
set_option maxHeartbeats 40000000 in
theorem cfl3 (l : Launch) (Z : State) (a0 : Array Value) (hw : ∀ d ∈ tables_1, d.before a0 Z = true) (a1 : Addr) (cz : Int32) (vf : Value) (a2 : Addr) (y0 : Int32) (y1 : Int32) (y2 : Int32) (h0 : Heap) (n0 : Nat) (Z0 : n0 ≤ h0.size) (E_a1 : Exa Z h0 a1 "java/lang/String") (F_value_a1 : Fld Z h0 a1 "java/lang/String" "value" "[B" (.ref a2)) (F_coder_a1 : Fld Z h0 a1 "java/lang/String" "coder" "B" (.int (0 : Int32))) (A_a2 : Av Z h0 a2 .byte [(.int y0), (.int y1), (.int y2)]) (O0 : Old Z n0 h0) (SS : SSt Z cz vf) :
    Con l Z (⟨"com/example/stamp2/stamp2/memory/Footprint", "isLatin1", "(Ljava/lang/String;)Z"⟩ : MethodName) prog_40_method_4_code 2 (some .boolean) ({ frames := 4, cells := 0, slots := 0, locals := 53 } : Room) [] #[(.ref a1)] h0 (fun v h L => v = some (.int (1 : Int32)) ∧ h = h0 ∧ L = []) := by
  refine Con.of (plainFor_of_name pn_com_example_stamp2_stamp2_memory_Footprint) #[.val (.ref a1), .unset] (fun m => effl3 m a1) ?_
  intro p e s m below meth c s₁ K hx hby hml hown hnm hret hlk hZ X0 e0
  have N0 := Fr.nil n0
  refine m_iconst K X0.here hx hby (0 : Int32) d_prog_40_4_0 rfl rfl ?_
  refine m_istoreN K X0.here hx hby #[.val (.ref a1), .val (.int (0 : Int32))] d_prog_40_4_1 rfl rfl ?_
  refine m_iloadN K X0.here hx hby d_prog_40_4_2 rfl rfl ?_
  refine m_aloadN K X0.here hx hby d_prog_40_4_3 rfl rfl rfl ?_
  refine k_callV K X0 hx hby hZ a1 [] [(.int (0 : Int32))] hown (W hw 30 rfl) (W hw 31 rfl) (notFace_of_selects (args := #[]) (mvT hZ (W hw 33 rfl))) (W hw 33 rfl) (W hw 32 rfl) (W hw 7 rfl) (W hw 34 rfl) (cll3 l Z a0 hw a1 cz vf a2 y0 y1 y2 h0 n0 Z0 E_a1 F_value_a1 F_coder_a1 A_a2 O0 SS) e0 E_a1 rfl rfl pd_14 rfl d_prog_40_4_4 (by rw [hml]; rfl) rfl (by decide) (by decide) (Nat.le_of_ble_eq_true rfl) (by decide) (by decide) fun v1 T1 L1 X1 q1 => ?_
  obtain ⟨rfl, e1, rfl⟩ := q1
  replace X1 := own_px X1
  refine k_some K (w := (.int (3 : Int32))) ?_
  refine m_icmpN K X1.here hx hby (q := 10) d_prog_40_4_7 (tlt (by decide : (0 : Int32) < (3 : Int32))).2.1 rfl ?_
  refine m_aloadN K X1.here hx hby d_prog_40_4_10 rfl rfl rfl ?_
  refine m_iloadN K X1.here hx hby d_prog_40_4_11 rfl rfl ?_
  refine k_callV K X1 hx hby hZ a1 [(.int (0 : Int32))] [] hown (W hw 51 rfl) (W hw 52 rfl) (notFace_of_selects (args := #[]) (mvT hZ (W hw 54 rfl))) (W hw 54 rfl) (W hw 53 rfl) (W hw 7 rfl) (W hw 55 rfl) (ccl3_0 l Z a0 hw a1 cz vf a2 y0 y1 y2 h0 n0 Z0 E_a1 F_value_a1 F_coder_a1 A_a2 O0 SS) e1 E_a1 rfl rfl pd_15 rfl d_prog_40_4_12 (by rw [hml]; rfl) rfl (by decide) (by decide) (Nat.le_of_ble_eq_true rfl) (by decide) (by decide) fun v2 T2 L2 X2 q2 => ?_
  obtain ⟨rfl, e2, rfl⟩ := q2
  replace X2 := own_px X2
  refine k_some K (w := (.int (LCH y0))) ?_
  refine m_sipush K X2.here hx hby (255 : Int32) d_prog_40_4_15 rfl rfl ?_
  refine m_icmpY K X2.here hx hby (q := 23) d_prog_40_4_18 (flt (own_lch y0)).2.2.2 (by decide) rfl ?_
  refine m_iinc K X2.here hx hby #[.val (.ref a1), .val (.int (1 : Int32))] d_prog_40_4_23 rfl rfl rfl ?_
  refine m_goto K X2.here hx hby (q := 2) d_prog_40_4_26 (by decide) rfl ?_
  refine m_iloadN K X2.here hx hby d_prog_40_4_2 rfl rfl ?_
  refine m_aloadN K X2.here hx hby d_prog_40_4_3 rfl rfl rfl ?_
  refine k_callV K X2 hx hby hZ a1 [] [(.int (1 : Int32))] hown (W hw 30 rfl) (W hw 31 rfl) (notFace_of_selects (args := #[]) (mvT hZ (W hw 33 rfl))) (W hw 33 rfl) (W hw 32 rfl) (W hw 7 rfl) (W hw 34 rfl) (cll3 l Z a0 hw a1 cz vf a2 y0 y1 y2 h0 n0 Z0 E_a1 F_value_a1 F_coder_a1 A_a2 O0 SS) e2 E_a1 rfl rfl pd_14 rfl d_prog_40_4_4 (by rw [hml]; rfl) rfl (by decide) (by decide) (Nat.le_of_ble_eq_true rfl) (by decide) (by decide) fun v3 T3 L3 X3 q3 => ?_
  obtain ⟨rfl, e3, rfl⟩ := q3
  replace X3 := own_px X3
  refine k_some K (w := (.int (3 : Int32))) ?_
  refine m_icmpN K X3.here hx hby (q := 10) d_prog_40_4_7 (tlt (by decide : (1 : Int32) < (3 : Int32))).2.1 rfl ?_
  refine m_aloadN K X3.here hx hby d_prog_40_4_10 rfl rfl rfl ?_
  refine m_iloadN K X3.here hx hby d_prog_40_4_11 rfl rfl ?_
  refine k_callV K X3 hx hby hZ a1 [(.int (1 : Int32))] [] hown (W hw 51 rfl) (W hw 52 rfl) (notFace_of_selects (args := #[]) (mvT hZ (W hw 54 rfl))) (W hw 54 rfl) (W hw 53 rfl) (W hw 7 rfl) (W hw 55 rfl) (ccl3_1 l Z a0 hw a1 cz vf a2 y0 y1 y2 h0 n0 Z0 E_a1 F_value_a1 F_coder_a1 A_a2 O0 SS) e3 E_a1 rfl rfl pd_15 rfl d_prog_40_4_12 (by rw [hml]; rfl) rfl (by decide) (by decide) (Nat.le_of_ble_eq_true rfl) (by decide) (by decide) fun v4 T4 L4 X4 q4 => ?_
  obtain ⟨rfl, e4, rfl⟩ := q4
  replace X4 := own_px X4
  refine k_some K (w := (.int (LCH y1))) ?_
  refine m_sipush K X4.here hx hby (255 : Int32) d_prog_40_4_15 rfl rfl ?_
  refine m_icmpY K X4.here hx hby (q := 23) d_prog_40_4_18 (flt (own_lch y1)).2.2.2 (by decide) rfl ?_
  refine m_iinc K X4.here hx hby #[.val (.ref a1), .val (.int (2 : Int32))] d_prog_40_4_23 rfl rfl rfl ?_
  refine m_goto K X4.here hx hby (q := 2) d_prog_40_4_26 (by decide) rfl ?_
  refine m_iloadN K X4.here hx hby d_prog_40_4_2 rfl rfl ?_
  refine m_aloadN K X4.here hx hby d_prog_40_4_3 rfl rfl rfl ?_
  refine k_callV K X4 hx hby hZ a1 [] [(.int (2 : Int32))] hown (W hw 30 rfl) (W hw 31 rfl) (notFace_of_selects (args := #[]) (mvT hZ (W hw 33 rfl))) (W hw 33 rfl) (W hw 32 rfl) (W hw 7 rfl) (W hw 34 rfl) (cll3 l Z a0 hw a1 cz vf a2 y0 y1 y2 h0 n0 Z0 E_a1 F_value_a1 F_coder_a1 A_a2 O0 SS) e4 E_a1 rfl rfl pd_14 rfl d_prog_40_4_4 (by rw [hml]; rfl) rfl (by decide) (by decide) (Nat.le_of_ble_eq_true rfl) (by decide) (by decide) fun v5 T5 L5 X5 q5 => ?_
  obtain ⟨rfl, e5, rfl⟩ := q5
  replace X5 := own_px X5
  refine k_some K (w := (.int (3 : Int32))) ?_
  refine m_icmpN K X5.here hx hby (q := 10) d_prog_40_4_7 (tlt (by decide : (2 : Int32) < (3 : Int32))).2.1 rfl ?_
  refine m_aloadN K X5.here hx hby d_prog_40_4_10 rfl rfl rfl ?_
  refine m_iloadN K X5.here hx hby d_prog_40_4_11 rfl rfl ?_
  refine k_callV K X5 hx hby hZ a1 [(.int (2 : Int32))] [] hown (W hw 51 rfl) (W hw 52 rfl) (notFace_of_selects (args := #[]) (mvT hZ (W hw 54 rfl))) (W hw 54 rfl) (W hw 53 rfl) (W hw 7 rfl) (W hw 55 rfl) (ccl3_2 l Z a0 hw a1 cz vf a2 y0 y1 y2 h0 n0 Z0 E_a1 F_value_a1 F_coder_a1 A_a2 O0 SS) e5 E_a1 rfl rfl pd_15 rfl d_prog_40_4_12 (by rw [hml]; rfl) rfl (by decide) (by decide) (Nat.le_of_ble_eq_true rfl) (by decide) (by decide) fun v6 T6 L6 X6 q6 => ?_
  obtain ⟨rfl, e6, rfl⟩ := q6
  replace X6 := own_px X6
  refine k_some K (w := (.int (LCH y2))) ?_
  refine m_sipush K X6.here hx hby (255 : Int32) d_prog_40_4_15 rfl rfl ?_
  refine m_icmpY K X6.here hx hby (q := 23) d_prog_40_4_18 (flt (own_lch y2)).2.2.2 (by decide) rfl ?_
  refine m_iinc K X6.here hx hby #[.val (.ref a1), .val (.int (3 : Int32))] d_prog_40_4_23 rfl rfl rfl ?_
  refine m_goto K X6.here hx hby (q := 2) d_prog_40_4_26 (by decide) rfl ?_
  refine m_iloadN K X6.here hx hby d_prog_40_4_2 rfl rfl ?_
  refine m_aloadN K X6.here hx hby d_prog_40_4_3 rfl rfl rfl ?_
  refine k_callV K X6 hx hby hZ a1 [] [(.int (3 : Int32))] hown (W hw 30 rfl) (W hw 31 rfl) (notFace_of_selects (args := #[]) (mvT hZ (W hw 33 rfl))) (W hw 33 rfl) (W hw 32 rfl) (W hw 7 rfl) (W hw 34 rfl) (cll3 l Z a0 hw a1 cz vf a2 y0 y1 y2 h0 n0 Z0 E_a1 F_value_a1 F_coder_a1 A_a2 O0 SS) e6 E_a1 rfl rfl pd_14 rfl d_prog_40_4_4 (by rw [hml]; rfl) rfl (by decide) (by decide) (Nat.le_of_ble_eq_true rfl) (by decide) (by decide) fun v7 T7 L7 X7 q7 => ?_
  obtain ⟨rfl, e7, rfl⟩ := q7
  replace X7 := own_px X7
  refine k_some K (w := (.int (3 : Int32))) ?_
  refine m_icmpY K X7.here hx hby (q := 29) d_prog_40_4_7 (flt (by decide : ¬ ((3 : Int32) < (3 : Int32)))).2.1 (by decide) rfl ?_
  refine m_iconst K X7.here hx hby (1 : Int32) d_prog_40_4_29 rfl rfl ?_
  exact Go.retN X7 hx hby hlk hret (by simp) d_prog_40_4_30 (by decide) (by decide) (by decide) (⟨rfl, e7, rfl⟩)
theorem effl3_0 (m : MethodId) (x0 : Addr) : entryFrame m #[(.ref x0)] 2 = mkF m 0 #[.val (.ref x0), .unset] [] := by first | (simp [entryFrame, mkF, argsToLocals, Value.category]; done) | rfl
set_option maxRecDepth 65536 in
set_option maxHeartbeats 40000000 in
theorem cfl3_0 (l : Launch) (Z : State) (a0 : Array Value) (hw : ∀ d ∈ tables_1, d.before a0 Z = true) (a1 : Addr) (cz : Int32) (vf : Value) (a2 : Addr) (c0 : Int32) (c1 : Int32) (c2 : Int32) (h0 : Heap) (n0 : Nat) (Z0 : n0 ≤ h0.size) (E_a1 : Exa Z h0 a1 "java/lang/String") (F_value_a1 : Fld Z h0 a1 "java/lang/String" "value" "[B" (.ref a2)) (F_coder_a1 : Fld Z h0 a1 "java/lang/String" "coder" "B" (.int (1 : Int32))) (A_a2 : Av Z h0 a2 .byte [(.int (BLO c0)), (.int (BHI c0)), (.int (BLO c1)), (.int (BHI c1)), (.int (BLO c2)), (.int (BHI c2))]) (O0 : Old Z n0 h0) (SS : SSt Z cz vf) (hg : (255 : Int32) < c0) (hch_0 : nar .char c0 = c0) (hch_1 : nar .char c1 = c1) (hch_2 : nar .char c2 = c2) :
    Con l Z (⟨"com/example/stamp2/stamp2/memory/Footprint", "isLatin1", "(Ljava/lang/String;)Z"⟩ : MethodName) prog_40_method_4_code 2 (some .boolean) ({ frames := 5, cells := 0, slots := 0, locals := 66 } : Room) [] #[(.ref a1)] h0 (fun v h L => v = some (.int (0 : Int32)) ∧ h = h0 ∧ L = []) := by
  refine Con.of (plainFor_of_name pn_com_example_stamp2_stamp2_memory_Footprint) #[.val (.ref a1), .unset] (fun m => effl3_0 m a1) ?_
  intro p e s m below meth c s₁ K hx hby hml hown hnm hret hlk hZ X0 e0
  have N0 := Fr.nil n0
  refine m_iconst K X0.here hx hby (0 : Int32) d_prog_40_4_0 rfl rfl ?_
  refine m_istoreN K X0.here hx hby #[.val (.ref a1), .val (.int (0 : Int32))] d_prog_40_4_1 rfl rfl ?_
  refine m_iloadN K X0.here hx hby d_prog_40_4_2 rfl rfl ?_
  refine m_aloadN K X0.here hx hby d_prog_40_4_3 rfl rfl rfl ?_
  refine k_callV K X0 hx hby hZ a1 [] [(.int (0 : Int32))] hown (W hw 30 rfl) (W hw 31 rfl) (notFace_of_selects (args := #[]) (mvT hZ (W hw 33 rfl))) (W hw 33 rfl) (W hw 32 rfl) (W hw 7 rfl) (W hw 34 rfl) (clu3 l Z a0 hw a1 cz vf a2 (BLO c0) (BHI c0) (BLO c1) (BHI c1) (BLO c2) (BHI c2) h0 n0 Z0 E_a1 F_value_a1 F_coder_a1 A_a2 O0 SS) e0 E_a1 rfl rfl pd_14 rfl d_prog_40_4_4 (by rw [hml]; rfl) rfl (by decide) (by decide) (Nat.le_of_ble_eq_true rfl) (by decide) (by decide) fun v1 T1 L1 X1 q1 => ?_
  obtain ⟨rfl, e1, rfl⟩ := q1
  replace X1 := own_px X1
  refine k_some K (w := (.int (3 : Int32))) ?_
  refine m_icmpN K X1.here hx hby (q := 10) d_prog_40_4_7 (tlt (by decide : (0 : Int32) < (3 : Int32))).2.1 rfl ?_
  refine m_aloadN K X1.here hx hby d_prog_40_4_10 rfl rfl rfl ?_
  refine m_iloadN K X1.here hx hby d_prog_40_4_11 rfl rfl ?_
  refine k_callV K X1 hx hby hZ a1 [(.int (0 : Int32))] [] hown (W hw 51 rfl) (W hw 52 rfl) (notFace_of_selects (args := #[]) (mvT hZ (W hw 54 rfl))) (W hw 54 rfl) (W hw 53 rfl) (W hw 7 rfl) (W hw 55 rfl) (ccu3_0 l Z a0 hw a1 cz vf a2 (BLO c0) (BHI c0) (BLO c1) (BHI c1) (BLO c2) (BHI c2) h0 n0 Z0 E_a1 F_value_a1 F_coder_a1 A_a2 O0 SS) e1 E_a1 rfl rfl pd_15 rfl d_prog_40_4_12 (by rw [hml]; rfl) rfl (by decide) (by decide) (Nat.le_of_ble_eq_true rfl) (by decide) (by decide) fun v2 T2 L2 X2 q2 => ?_
  obtain ⟨rfl, e2, rfl⟩ := q2
  replace X2 := own_px X2
  refine k_some K (w := (.int (GCH (BLO c0) (BHI c0)))) ?_
  refine m_sipush K X2.here hx hby (255 : Int32) d_prog_40_4_15 rfl rfl ?_
  refine m_icmpN K X2.here hx hby (q := 21) d_prog_40_4_18 (tlt (own_rgt c0 hch_0 hg)).2.2.2 rfl ?_
  refine m_iconst K X2.here hx hby (0 : Int32) d_prog_40_4_21 rfl rfl ?_
  exact Go.retN X2 hx hby hlk hret (by simp) d_prog_40_4_22 (by decide) (by decide) (by decide) (⟨rfl, e2, rfl⟩)
theorem effl3_1 (m : MethodId) (x0 : Addr) : entryFrame m #[(.ref x0)] 2 = mkF m 0 #[.val (.ref x0), .unset] [] := by first | (simp [entryFrame, mkF, argsToLocals, Value.category]; done) | rfl
set_option maxRecDepth 65536 in
set_option maxHeartbeats 40000000 in
theorem cfl3_1 (l : Launch) (Z : State) (a0 : Array Value) (hw : ∀ d ∈ tables_1, d.before a0 Z = true) (a1 : Addr) (cz : Int32) (vf : Value) (a2 : Addr) (c0 : Int32) (c1 : Int32) (c2 : Int32) (h0 : Heap) (n0 : Nat) (Z0 : n0 ≤ h0.size) (E_a1 : Exa Z h0 a1 "java/lang/String") (F_value_a1 : Fld Z h0 a1 "java/lang/String" "value" "[B" (.ref a2)) (F_coder_a1 : Fld Z h0 a1 "java/lang/String" "coder" "B" (.int (1 : Int32))) (A_a2 : Av Z h0 a2 .byte [(.int (BLO c0)), (.int (BHI c0)), (.int (BLO c1)), (.int (BHI c1)), (.int (BLO c2)), (.int (BHI c2))]) (O0 : Old Z n0 h0) (SS : SSt Z cz vf) (hl_0 : ¬ ((255 : Int32) < c0)) (hg : (255 : Int32) < c1) (hch_0 : nar .char c0 = c0) (hch_1 : nar .char c1 = c1) (hch_2 : nar .char c2 = c2) :
    Con l Z (⟨"com/example/stamp2/stamp2/memory/Footprint", "isLatin1", "(Ljava/lang/String;)Z"⟩ : MethodName) prog_40_method_4_code 2 (some .boolean) ({ frames := 5, cells := 0, slots := 0, locals := 66 } : Room) [] #[(.ref a1)] h0 (fun v h L => v = some (.int (0 : Int32)) ∧ h = h0 ∧ L = []) := by
  refine Con.of (plainFor_of_name pn_com_example_stamp2_stamp2_memory_Footprint) #[.val (.ref a1), .unset] (fun m => effl3_1 m a1) ?_
  intro p e s m below meth c s₁ K hx hby hml hown hnm hret hlk hZ X0 e0
  have N0 := Fr.nil n0
  refine m_iconst K X0.here hx hby (0 : Int32) d_prog_40_4_0 rfl rfl ?_
  refine m_istoreN K X0.here hx hby #[.val (.ref a1), .val (.int (0 : Int32))] d_prog_40_4_1 rfl rfl ?_
  refine m_iloadN K X0.here hx hby d_prog_40_4_2 rfl rfl ?_
  refine m_aloadN K X0.here hx hby d_prog_40_4_3 rfl rfl rfl ?_
  refine k_callV K X0 hx hby hZ a1 [] [(.int (0 : Int32))] hown (W hw 30 rfl) (W hw 31 rfl) (notFace_of_selects (args := #[]) (mvT hZ (W hw 33 rfl))) (W hw 33 rfl) (W hw 32 rfl) (W hw 7 rfl) (W hw 34 rfl) (clu3 l Z a0 hw a1 cz vf a2 (BLO c0) (BHI c0) (BLO c1) (BHI c1) (BLO c2) (BHI c2) h0 n0 Z0 E_a1 F_value_a1 F_coder_a1 A_a2 O0 SS) e0 E_a1 rfl rfl pd_14 rfl d_prog_40_4_4 (by rw [hml]; rfl) rfl (by decide) (by decide) (Nat.le_of_ble_eq_true rfl) (by decide) (by decide) fun v1 T1 L1 X1 q1 => ?_
  obtain ⟨rfl, e1, rfl⟩ := q1
  replace X1 := own_px X1
  refine k_some K (w := (.int (3 : Int32))) ?_
  refine m_icmpN K X1.here hx hby (q := 10) d_prog_40_4_7 (tlt (by decide : (0 : Int32) < (3 : Int32))).2.1 rfl ?_
  refine m_aloadN K X1.here hx hby d_prog_40_4_10 rfl rfl rfl ?_
  refine m_iloadN K X1.here hx hby d_prog_40_4_11 rfl rfl ?_
  refine k_callV K X1 hx hby hZ a1 [(.int (0 : Int32))] [] hown (W hw 51 rfl) (W hw 52 rfl) (notFace_of_selects (args := #[]) (mvT hZ (W hw 54 rfl))) (W hw 54 rfl) (W hw 53 rfl) (W hw 7 rfl) (W hw 55 rfl) (ccu3_0 l Z a0 hw a1 cz vf a2 (BLO c0) (BHI c0) (BLO c1) (BHI c1) (BLO c2) (BHI c2) h0 n0 Z0 E_a1 F_value_a1 F_coder_a1 A_a2 O0 SS) e1 E_a1 rfl rfl pd_15 rfl d_prog_40_4_12 (by rw [hml]; rfl) rfl (by decide) (by decide) (Nat.le_of_ble_eq_true rfl) (by decide) (by decide) fun v2 T2 L2 X2 q2 => ?_
  obtain ⟨rfl, e2, rfl⟩ := q2
  replace X2 := own_px X2
  refine k_some K (w := (.int (GCH (BLO c0) (BHI c0)))) ?_
  refine m_sipush K X2.here hx hby (255 : Int32) d_prog_40_4_15 rfl rfl ?_
  refine m_icmpY K X2.here hx hby (q := 23) d_prog_40_4_18 (flt (own_rle c0 hch_0 hl_0)).2.2.2 (by decide) rfl ?_
  refine m_iinc K X2.here hx hby #[.val (.ref a1), .val (.int (1 : Int32))] d_prog_40_4_23 rfl rfl rfl ?_
  refine m_goto K X2.here hx hby (q := 2) d_prog_40_4_26 (by decide) rfl ?_
  refine m_iloadN K X2.here hx hby d_prog_40_4_2 rfl rfl ?_
  refine m_aloadN K X2.here hx hby d_prog_40_4_3 rfl rfl rfl ?_
  refine k_callV K X2 hx hby hZ a1 [] [(.int (1 : Int32))] hown (W hw 30 rfl) (W hw 31 rfl) (notFace_of_selects (args := #[]) (mvT hZ (W hw 33 rfl))) (W hw 33 rfl) (W hw 32 rfl) (W hw 7 rfl) (W hw 34 rfl) (clu3 l Z a0 hw a1 cz vf a2 (BLO c0) (BHI c0) (BLO c1) (BHI c1) (BLO c2) (BHI c2) h0 n0 Z0 E_a1 F_value_a1 F_coder_a1 A_a2 O0 SS) e2 E_a1 rfl rfl pd_14 rfl d_prog_40_4_4 (by rw [hml]; rfl) rfl (by decide) (by decide) (Nat.le_of_ble_eq_true rfl) (by decide) (by decide) fun v3 T3 L3 X3 q3 => ?_
  obtain ⟨rfl, e3, rfl⟩ := q3
  replace X3 := own_px X3
  refine k_some K (w := (.int (3 : Int32))) ?_
  refine m_icmpN K X3.here hx hby (q := 10) d_prog_40_4_7 (tlt (by decide : (1 : Int32) < (3 : Int32))).2.1 rfl ?_
  refine m_aloadN K X3.here hx hby d_prog_40_4_10 rfl rfl rfl ?_
  refine m_iloadN K X3.here hx hby d_prog_40_4_11 rfl rfl ?_
  refine k_callV K X3 hx hby hZ a1 [(.int (1 : Int32))] [] hown (W hw 51 rfl) (W hw 52 rfl) (notFace_of_selects (args := #[]) (mvT hZ (W hw 54 rfl))) (W hw 54 rfl) (W hw 53 rfl) (W hw 7 rfl) (W hw 55 rfl) (ccu3_1 l Z a0 hw a1 cz vf a2 (BLO c0) (BHI c0) (BLO c1) (BHI c1) (BLO c2) (BHI c2) h0 n0 Z0 E_a1 F_value_a1 F_coder_a1 A_a2 O0 SS) e3 E_a1 rfl rfl pd_15 rfl d_prog_40_4_12 (by rw [hml]; rfl) rfl (by decide) (by decide) (Nat.le_of_ble_eq_true rfl) (by decide) (by decide) fun v4 T4 L4 X4 q4 => ?_
  obtain ⟨rfl, e4, rfl⟩ := q4
  replace X4 := own_px X4
  refine k_some K (w := (.int (GCH (BLO c1) (BHI c1)))) ?_
  refine m_sipush K X4.here hx hby (255 : Int32) d_prog_40_4_15 rfl rfl ?_
  refine m_icmpN K X4.here hx hby (q := 21) d_prog_40_4_18 (tlt (own_rgt c1 hch_1 hg)).2.2.2 rfl ?_
  refine m_iconst K X4.here hx hby (0 : Int32) d_prog_40_4_21 rfl rfl ?_
  exact Go.retN X4 hx hby hlk hret (by simp) d_prog_40_4_22 (by decide) (by decide) (by decide) (⟨rfl, e4, rfl⟩)
theorem effl3_2 (m : MethodId) (x0 : Addr) : entryFrame m #[(.ref x0)] 2 = mkF m 0 #[.val (.ref x0), .unset] [] := by first | (simp [entryFrame, mkF, argsToLocals, Value.category]; done) | rfl
set_option maxRecDepth 65536 in
set_option maxHeartbeats 40000000 in
theorem cfl3_2 (l : Launch) (Z : State) (a0 : Array Value) (hw : ∀ d ∈ tables_1, d.before a0 Z = true) (a1 : Addr) (cz : Int32) (vf : Value) (a2 : Addr) (c0 : Int32) (c1 : Int32) (c2 : Int32) (h0 : Heap) (n0 : Nat) (Z0 : n0 ≤ h0.size) (E_a1 : Exa Z h0 a1 "java/lang/String") (F_value_a1 : Fld Z h0 a1 "java/lang/String" "value" "[B" (.ref a2)) (F_coder_a1 : Fld Z h0 a1 "java/lang/String" "coder" "B" (.int (1 : Int32))) (A_a2 : Av Z h0 a2 .byte [(.int (BLO c0)), (.int (BHI c0)), (.int (BLO c1)), (.int (BHI c1)), (.int (BLO c2)), (.int (BHI c2))]) (O0 : Old Z n0 h0) (SS : SSt Z cz vf) (hl_0 : ¬ ((255 : Int32) < c0)) (hl_1 : ¬ ((255 : Int32) < c1)) (hg : (255 : Int32) < c2) (hch_0 : nar .char c0 = c0) (hch_1 : nar .char c1 = c1) (hch_2 : nar .char c2 = c2) :
    Con l Z (⟨"com/example/stamp2/stamp2/memory/Footprint", "isLatin1", "(Ljava/lang/String;)Z"⟩ : MethodName) prog_40_method_4_code 2 (some .boolean) ({ frames := 5, cells := 0, slots := 0, locals := 66 } : Room) [] #[(.ref a1)] h0 (fun v h L => v = some (.int (0 : Int32)) ∧ h = h0 ∧ L = []) := by
  refine Con.of (plainFor_of_name pn_com_example_stamp2_stamp2_memory_Footprint) #[.val (.ref a1), .unset] (fun m => effl3_2 m a1) ?_
  intro p e s m below meth c s₁ K hx hby hml hown hnm hret hlk hZ X0 e0
  have N0 := Fr.nil n0
  refine m_iconst K X0.here hx hby (0 : Int32) d_prog_40_4_0 rfl rfl ?_
  refine m_istoreN K X0.here hx hby #[.val (.ref a1), .val (.int (0 : Int32))] d_prog_40_4_1 rfl rfl ?_
  refine m_iloadN K X0.here hx hby d_prog_40_4_2 rfl rfl ?_
  refine m_aloadN K X0.here hx hby d_prog_40_4_3 rfl rfl rfl ?_
  refine k_callV K X0 hx hby hZ a1 [] [(.int (0 : Int32))] hown (W hw 30 rfl) (W hw 31 rfl) (notFace_of_selects (args := #[]) (mvT hZ (W hw 33 rfl))) (W hw 33 rfl) (W hw 32 rfl) (W hw 7 rfl) (W hw 34 rfl) (clu3 l Z a0 hw a1 cz vf a2 (BLO c0) (BHI c0) (BLO c1) (BHI c1) (BLO c2) (BHI c2) h0 n0 Z0 E_a1 F_value_a1 F_coder_a1 A_a2 O0 SS) e0 E_a1 rfl rfl pd_14 rfl d_prog_40_4_4 (by rw [hml]; rfl) rfl (by decide) (by decide) (Nat.le_of_ble_eq_true rfl) (by decide) (by decide) fun v1 T1 L1 X1 q1 => ?_
  obtain ⟨rfl, e1, rfl⟩ := q1
  replace X1 := own_px X1
  refine k_some K (w := (.int (3 : Int32))) ?_
  refine m_icmpN K X1.here hx hby (q := 10) d_prog_40_4_7 (tlt (by decide : (0 : Int32) < (3 : Int32))).2.1 rfl ?_
  refine m_aloadN K X1.here hx hby d_prog_40_4_10 rfl rfl rfl ?_
  refine m_iloadN K X1.here hx hby d_prog_40_4_11 rfl rfl ?_
  refine k_callV K X1 hx hby hZ a1 [(.int (0 : Int32))] [] hown (W hw 51 rfl) (W hw 52 rfl) (notFace_of_selects (args := #[]) (mvT hZ (W hw 54 rfl))) (W hw 54 rfl) (W hw 53 rfl) (W hw 7 rfl) (W hw 55 rfl) (ccu3_0 l Z a0 hw a1 cz vf a2 (BLO c0) (BHI c0) (BLO c1) (BHI c1) (BLO c2) (BHI c2) h0 n0 Z0 E_a1 F_value_a1 F_coder_a1 A_a2 O0 SS) e1 E_a1 rfl rfl pd_15 rfl d_prog_40_4_12 (by rw [hml]; rfl) rfl (by decide) (by decide) (Nat.le_of_ble_eq_true rfl) (by decide) (by decide) fun v2 T2 L2 X2 q2 => ?_
  obtain ⟨rfl, e2, rfl⟩ := q2
  replace X2 := own_px X2
  refine k_some K (w := (.int (GCH (BLO c0) (BHI c0)))) ?_
  refine m_sipush K X2.here hx hby (255 : Int32) d_prog_40_4_15 rfl rfl ?_
  refine m_icmpY K X2.here hx hby (q := 23) d_prog_40_4_18 (flt (own_rle c0 hch_0 hl_0)).2.2.2 (by decide) rfl ?_
  refine m_iinc K X2.here hx hby #[.val (.ref a1), .val (.int (1 : Int32))] d_prog_40_4_23 rfl rfl rfl ?_
  refine m_goto K X2.here hx hby (q := 2) d_prog_40_4_26 (by decide) rfl ?_
  refine m_iloadN K X2.here hx hby d_prog_40_4_2 rfl rfl ?_
  refine m_aloadN K X2.here hx hby d_prog_40_4_3 rfl rfl rfl ?_
  refine k_callV K X2 hx hby hZ a1 [] [(.int (1 : Int32))] hown (W hw 30 rfl) (W hw 31 rfl) (notFace_of_selects (args := #[]) (mvT hZ (W hw 33 rfl))) (W hw 33 rfl) (W hw 32 rfl) (W hw 7 rfl) (W hw 34 rfl) (clu3 l Z a0 hw a1 cz vf a2 (BLO c0) (BHI c0) (BLO c1) (BHI c1) (BLO c2) (BHI c2) h0 n0 Z0 E_a1 F_value_a1 F_coder_a1 A_a2 O0 SS) e2 E_a1 rfl rfl pd_14 rfl d_prog_40_4_4 (by rw [hml]; rfl) rfl (by decide) (by decide) (Nat.le_of_ble_eq_true rfl) (by decide) (by decide) fun v3 T3 L3 X3 q3 => ?_
  obtain ⟨rfl, e3, rfl⟩ := q3
  replace X3 := own_px X3
  refine k_some K (w := (.int (3 : Int32))) ?_
  refine m_icmpN K X3.here hx hby (q := 10) d_prog_40_4_7 (tlt (by decide : (1 : Int32) < (3 : Int32))).2.1 rfl ?_
  refine m_aloadN K X3.here hx hby d_prog_40_4_10 rfl rfl rfl ?_
  refine m_iloadN K X3.here hx hby d_prog_40_4_11 rfl rfl ?_
  refine k_callV K X3 hx hby hZ a1 [(.int (1 : Int32))] [] hown (W hw 51 rfl) (W hw 52 rfl) (notFace_of_selects (args := #[]) (mvT hZ (W hw 54 rfl))) (W hw 54 rfl) (W hw 53 rfl) (W hw 7 rfl) (W hw 55 rfl) (ccu3_1 l Z a0 hw a1 cz vf a2 (BLO c0) (BHI c0) (BLO c1) (BHI c1) (BLO c2) (BHI c2) h0 n0 Z0 E_a1 F_value_a1 F_coder_a1 A_a2 O0 SS) e3 E_a1 rfl rfl pd_15 rfl d_prog_40_4_12 (by rw [hml]; rfl) rfl (by decide) (by decide) (Nat.le_of_ble_eq_true rfl) (by decide) (by decide) fun v4 T4 L4 X4 q4 => ?_
  obtain ⟨rfl, e4, rfl⟩ := q4
  replace X4 := own_px X4
  refine k_some K (w := (.int (GCH (BLO c1) (BHI c1)))) ?_
  refine m_sipush K X4.here hx hby (255 : Int32) d_prog_40_4_15 rfl rfl ?_
  refine m_icmpY K X4.here hx hby (q := 23) d_prog_40_4_18 (flt (own_rle c1 hch_1 hl_1)).2.2.2 (by decide) rfl ?_
  refine m_iinc K X4.here hx hby #[.val (.ref a1), .val (.int (2 : Int32))] d_prog_40_4_23 rfl rfl rfl ?_
  refine m_goto K X4.here hx hby (q := 2) d_prog_40_4_26 (by decide) rfl ?_
  refine m_iloadN K X4.here hx hby d_prog_40_4_2 rfl rfl ?_
  refine m_aloadN K X4.here hx hby d_prog_40_4_3 rfl rfl rfl ?_
  refine k_callV K X4 hx hby hZ a1 [] [(.int (2 : Int32))] hown (W hw 30 rfl) (W hw 31 rfl) (notFace_of_selects (args := #[]) (mvT hZ (W hw 33 rfl))) (W hw 33 rfl) (W hw 32 rfl) (W hw 7 rfl) (W hw 34 rfl) (clu3 l Z a0 hw a1 cz vf a2 (BLO c0) (BHI c0) (BLO c1) (BHI c1) (BLO c2) (BHI c2) h0 n0 Z0 E_a1 F_value_a1 F_coder_a1 A_a2 O0 SS) e4 E_a1 rfl rfl pd_14 rfl d_prog_40_4_4 (by rw [hml]; rfl) rfl (by decide) (by decide) (Nat.le_of_ble_eq_true rfl) (by decide) (by decide) fun v5 T5 L5 X5 q5 => ?_
  obtain ⟨rfl, e5, rfl⟩ := q5
  replace X5 := own_px X5
  refine k_some K (w := (.int (3 : Int32))) ?_
  refine m_icmpN K X5.here hx hby (q := 10) d_prog_40_4_7 (tlt (by decide : (2 : Int32) < (3 : Int32))).2.1 rfl ?_
  refine m_aloadN K X5.here hx hby d_prog_40_4_10 rfl rfl rfl ?_
  refine m_iloadN K X5.here hx hby d_prog_40_4_11 rfl rfl ?_
  refine k_callV K X5 hx hby hZ a1 [(.int (2 : Int32))] [] hown (W hw 51 rfl) (W hw 52 rfl) (notFace_of_selects (args := #[]) (mvT hZ (W hw 54 rfl))) (W hw 54 rfl) (W hw 53 rfl) (W hw 7 rfl) (W hw 55 rfl) (ccu3_2 l Z a0 hw a1 cz vf a2 (BLO c0) (BHI c0) (BLO c1) (BHI c1) (BLO c2) (BHI c2) h0 n0 Z0 E_a1 F_value_a1 F_coder_a1 A_a2 O0 SS) e5 E_a1 rfl rfl pd_15 rfl d_prog_40_4_12 (by rw [hml]; rfl) rfl (by decide) (by decide) (Nat.le_of_ble_eq_true rfl) (by decide) (by decide) fun v6 T6 L6 X6 q6 => ?_
  obtain ⟨rfl, e6, rfl⟩ := q6
  replace X6 := own_px X6
  refine k_some K (w := (.int (GCH (BLO c2) (BHI c2)))) ?_
  refine m_sipush K X6.here hx hby (255 : Int32) d_prog_40_4_15 rfl rfl ?_
  refine m_icmpN K X6.here hx hby (q := 21) d_prog_40_4_18 (tlt (own_rgt c2 hch_2 hg)).2.2.2 rfl ?_
  refine m_iconst K X6.here hx hby (0 : Int32) d_prog_40_4_21 rfl rfl ?_
  exact Go.retN X6 hx hby hlk hret (by simp) d_prog_40_4_22 (by decide) (by decide) (by decide) (⟨rfl, e6, rfl⟩)
theorem effl4 (m : MethodId) (x0 : Addr) : entryFrame m #[(.ref x0)] 2 = mkF m 0 #[.val (.ref x0), .unset] [] := by first | (simp [entryFrame, mkF, argsToLocals, Value.category]; done) | rfl
set_option maxRecDepth 65536 in
set_option maxHeartbeats 40000000 in
theorem cfl4 (l : Launch) (Z : State) (a0 : Array Value) (hw : ∀ d ∈ tables_1, d.before a0 Z = true) (a1 : Addr) (cz : Int32) (vf : Value) (a2 : Addr) (y0 : Int32) (y1 : Int32) (y2 : Int32) (y3 : Int32) (h0 : Heap) (n0 : Nat) (Z0 : n0 ≤ h0.size) (E_a1 : Exa Z h0 a1 "java/lang/String") (F_value_a1 : Fld Z h0 a1 "java/lang/String" "value" "[B" (.ref a2)) (F_coder_a1 : Fld Z h0 a1 "java/lang/String" "coder" "B" (.int (0 : Int32))) (A_a2 : Av Z h0 a2 .byte [(.int y0), (.int y1), (.int y2), (.int y3)]) (O0 : Old Z n0 h0) (SS : SSt Z cz vf) :
    Con l Z (⟨"com/example/stamp2/stamp2/memory/Footprint", "isLatin1", "(Ljava/lang/String;)Z"⟩ : MethodName) prog_40_method_4_code 2 (some .boolean) ({ frames := 4, cells := 0, slots := 0, locals := 53 } : Room) [] #[(.ref a1)] h0 (fun v h L => v = some (.int (1 : Int32)) ∧ h = h0 ∧ L = []) := by
  refine Con.of (plainFor_of_name pn_com_example_stamp2_stamp2_memory_Footprint) #[.val (.ref a1), .unset] (fun m => effl4 m a1) ?_
  intro p e s m below meth c s₁ K hx hby hml hown hnm hret hlk hZ X0 e0
  have N0 := Fr.nil n0
  refine m_iconst K X0.here hx hby (0 : Int32) d_prog_40_4_0 rfl rfl ?_
  refine m_istoreN K X0.here hx hby #[.val (.ref a1), .val (.int (0 : Int32))] d_prog_40_4_1 rfl rfl ?_
  refine m_iloadN K X0.here hx hby d_prog_40_4_2 rfl rfl ?_
  refine m_aloadN K X0.here hx hby d_prog_40_4_3 rfl rfl rfl ?_
  refine k_callV K X0 hx hby hZ a1 [] [(.int (0 : Int32))] hown (W hw 30 rfl) (W hw 31 rfl) (notFace_of_selects (args := #[]) (mvT hZ (W hw 33 rfl))) (W hw 33 rfl) (W hw 32 rfl) (W hw 7 rfl) (W hw 34 rfl) (cll4 l Z a0 hw a1 cz vf a2 y0 y1 y2 y3 h0 n0 Z0 E_a1 F_value_a1 F_coder_a1 A_a2 O0 SS) e0 E_a1 rfl rfl pd_14 rfl d_prog_40_4_4 (by rw [hml]; rfl) rfl (by decide) (by decide) (Nat.le_of_ble_eq_true rfl) (by decide) (by decide) fun v1 T1 L1 X1 q1 => ?_
  obtain ⟨rfl, e1, rfl⟩ := q1
  replace X1 := own_px X1
  refine k_some K (w := (.int (4 : Int32))) ?_
  refine m_icmpN K X1.here hx hby (q := 10) d_prog_40_4_7 (tlt (by decide : (0 : Int32) < (4 : Int32))).2.1 rfl ?_
  refine m_aloadN K X1.here hx hby d_prog_40_4_10 rfl rfl rfl ?_
  refine m_iloadN K X1.here hx hby d_prog_40_4_11 rfl rfl ?_
  refine k_callV K X1 hx hby hZ a1 [(.int (0 : Int32))] [] hown (W hw 51 rfl) (W hw 52 rfl) (notFace_of_selects (args := #[]) (mvT hZ (W hw 54 rfl))) (W hw 54 rfl) (W hw 53 rfl) (W hw 7 rfl) (W hw 55 rfl) (ccl4_0 l Z a0 hw a1 cz vf a2 y0 y1 y2 y3 h0 n0 Z0 E_a1 F_value_a1 F_coder_a1 A_a2 O0 SS) e1 E_a1 rfl rfl pd_15 rfl d_prog_40_4_12 (by rw [hml]; rfl) rfl (by decide) (by decide) (Nat.le_of_ble_eq_true rfl) (by decide) (by decide) fun v2 T2 L2 X2 q2 => ?_
  obtain ⟨rfl, e2, rfl⟩ := q2
  replace X2 := own_px X2
  refine k_some K (w := (.int (LCH y0))) ?_
  refine m_sipush K X2.here hx hby (255 : Int32) d_prog_40_4_15 rfl rfl ?_
  refine m_icmpY K X2.here hx hby (q := 23) d_prog_40_4_18 (flt (own_lch y0)).2.2.2 (by decide) rfl ?_
  refine m_iinc K X2.here hx hby #[.val (.ref a1), .val (.int (1 : Int32))] d_prog_40_4_23 rfl rfl rfl ?_
  refine m_goto K X2.here hx hby (q := 2) d_prog_40_4_26 (by decide) rfl ?_
  refine m_iloadN K X2.here hx hby d_prog_40_4_2 rfl rfl ?_
  refine m_aloadN K X2.here hx hby d_prog_40_4_3 rfl rfl rfl ?_
  refine k_callV K X2 hx hby hZ a1 [] [(.int (1 : Int32))] hown (W hw 30 rfl) (W hw 31 rfl) (notFace_of_selects (args := #[]) (mvT hZ (W hw 33 rfl))) (W hw 33 rfl) (W hw 32 rfl) (W hw 7 rfl) (W hw 34 rfl) (cll4 l Z a0 hw a1 cz vf a2 y0 y1 y2 y3 h0 n0 Z0 E_a1 F_value_a1 F_coder_a1 A_a2 O0 SS) e2 E_a1 rfl rfl pd_14 rfl d_prog_40_4_4 (by rw [hml]; rfl) rfl (by decide) (by decide) (Nat.le_of_ble_eq_true rfl) (by decide) (by decide) fun v3 T3 L3 X3 q3 => ?_
  obtain ⟨rfl, e3, rfl⟩ := q3
  replace X3 := own_px X3
  refine k_some K (w := (.int (4 : Int32))) ?_
  refine m_icmpN K X3.here hx hby (q := 10) d_prog_40_4_7 (tlt (by decide : (1 : Int32) < (4 : Int32))).2.1 rfl ?_
  refine m_aloadN K X3.here hx hby d_prog_40_4_10 rfl rfl rfl ?_
  refine m_iloadN K X3.here hx hby d_prog_40_4_11 rfl rfl ?_
  refine k_callV K X3 hx hby hZ a1 [(.int (1 : Int32))] [] hown (W hw 51 rfl) (W hw 52 rfl) (notFace_of_selects (args := #[]) (mvT hZ (W hw 54 rfl))) (W hw 54 rfl) (W hw 53 rfl) (W hw 7 rfl) (W hw 55 rfl) (ccl4_1 l Z a0 hw a1 cz vf a2 y0 y1 y2 y3 h0 n0 Z0 E_a1 F_value_a1 F_coder_a1 A_a2 O0 SS) e3 E_a1 rfl rfl pd_15 rfl d_prog_40_4_12 (by rw [hml]; rfl) rfl (by decide) (by decide) (Nat.le_of_ble_eq_true rfl) (by decide) (by decide) fun v4 T4 L4 X4 q4 => ?_
  obtain ⟨rfl, e4, rfl⟩ := q4
  replace X4 := own_px X4
  refine k_some K (w := (.int (LCH y1))) ?_
  refine m_sipush K X4.here hx hby (255 : Int32) d_prog_40_4_15 rfl rfl ?_
  refine m_icmpY K X4.here hx hby (q := 23) d_prog_40_4_18 (flt (own_lch y1)).2.2.2 (by decide) rfl ?_
  refine m_iinc K X4.here hx hby #[.val (.ref a1), .val (.int (2 : Int32))] d_prog_40_4_23 rfl rfl rfl ?_
  refine m_goto K X4.here hx hby (q := 2) d_prog_40_4_26 (by decide) rfl ?_
  refine m_iloadN K X4.here hx hby d_prog_40_4_2 rfl rfl ?_
  refine m_aloadN K X4.here hx hby d_prog_40_4_3 rfl rfl rfl ?_
  refine k_callV K X4 hx hby hZ a1 [] [(.int (2 : Int32))] hown (W hw 30 rfl) (W hw 31 rfl) (notFace_of_selects (args := #[]) (mvT hZ (W hw 33 rfl))) (W hw 33 rfl) (W hw 32 rfl) (W hw 7 rfl) (W hw 34 rfl) (cll4 l Z a0 hw a1 cz vf a2 y0 y1 y2 y3 h0 n0 Z0 E_a1 F_value_a1 F_coder_a1 A_a2 O0 SS) e4 E_a1 rfl rfl pd_14 rfl d_prog_40_4_4 (by rw [hml]; rfl) rfl (by decide) (by decide) (Nat.le_of_ble_eq_true rfl) (by decide) (by decide) fun v5 T5 L5 X5 q5 => ?_
  obtain ⟨rfl, e5, rfl⟩ := q5
  replace X5 := own_px X5
  refine k_some K (w := (.int (4 : Int32))) ?_
  refine m_icmpN K X5.here hx hby (q := 10) d_prog_40_4_7 (tlt (by decide : (2 : Int32) < (4 : Int32))).2.1 rfl ?_
  refine m_aloadN K X5.here hx hby d_prog_40_4_10 rfl rfl rfl ?_
  refine m_iloadN K X5.here hx hby d_prog_40_4_11 rfl rfl ?_
  refine k_callV K X5 hx hby hZ a1 [(.int (2 : Int32))] [] hown (W hw 51 rfl) (W hw 52 rfl) (notFace_of_selects (args := #[]) (mvT hZ (W hw 54 rfl))) (W hw 54 rfl) (W hw 53 rfl) (W hw 7 rfl) (W hw 55 rfl) (ccl4_2 l Z a0 hw a1 cz vf a2 y0 y1 y2 y3 h0 n0 Z0 E_a1 F_value_a1 F_coder_a1 A_a2 O0 SS) e5 E_a1 rfl rfl pd_15 rfl d_prog_40_4_12 (by rw [hml]; rfl) rfl (by decide) (by decide) (Nat.le_of_ble_eq_true rfl) (by decide) (by decide) fun v6 T6 L6 X6 q6 => ?_
  obtain ⟨rfl, e6, rfl⟩ := q6
  replace X6 := own_px X6
  refine k_some K (w := (.int (LCH y2))) ?_
  refine m_sipush K X6.here hx hby (255 : Int32) d_prog_40_4_15 rfl rfl ?_
  refine m_icmpY K X6.here hx hby (q := 23) d_prog_40_4_18 (flt (own_lch y2)).2.2.2 (by decide) rfl ?_
  refine m_iinc K X6.here hx hby #[.val (.ref a1), .val (.int (3 : Int32))] d_prog_40_4_23 rfl rfl rfl ?_
  refine m_goto K X6.here hx hby (q := 2) d_prog_40_4_26 (by decide) rfl ?_
  refine m_iloadN K X6.here hx hby d_prog_40_4_2 rfl rfl ?_
  refine m_aloadN K X6.here hx hby d_prog_40_4_3 rfl rfl rfl ?_
  refine k_callV K X6 hx hby hZ a1 [] [(.int (3 : Int32))] hown (W hw 30 rfl) (W hw 31 rfl) (notFace_of_selects (args := #[]) (mvT hZ (W hw 33 rfl))) (W hw 33 rfl) (W hw 32 rfl) (W hw 7 rfl) (W hw 34 rfl) (cll4 l Z a0 hw a1 cz vf a2 y0 y1 y2 y3 h0 n0 Z0 E_a1 F_value_a1 F_coder_a1 A_a2 O0 SS) e6 E_a1 rfl rfl pd_14 rfl d_prog_40_4_4 (by rw [hml]; rfl) rfl (by decide) (by decide) (Nat.le_of_ble_eq_true rfl) (by decide) (by decide) fun v7 T7 L7 X7 q7 => ?_
  obtain ⟨rfl, e7, rfl⟩ := q7
  replace X7 := own_px X7
  refine k_some K (w := (.int (4 : Int32))) ?_
  refine m_icmpN K X7.here hx hby (q := 10) d_prog_40_4_7 (tlt (by decide : (3 : Int32) < (4 : Int32))).2.1 rfl ?_
  refine m_aloadN K X7.here hx hby d_prog_40_4_10 rfl rfl rfl ?_
  refine m_iloadN K X7.here hx hby d_prog_40_4_11 rfl rfl ?_
  refine k_callV K X7 hx hby hZ a1 [(.int (3 : Int32))] [] hown (W hw 51 rfl) (W hw 52 rfl) (notFace_of_selects (args := #[]) (mvT hZ (W hw 54 rfl))) (W hw 54 rfl) (W hw 53 rfl) (W hw 7 rfl) (W hw 55 rfl) (ccl4_3 l Z a0 hw a1 cz vf a2 y0 y1 y2 y3 h0 n0 Z0 E_a1 F_value_a1 F_coder_a1 A_a2 O0 SS) e7 E_a1 rfl rfl pd_15 rfl d_prog_40_4_12 (by rw [hml]; rfl) rfl (by decide) (by decide) (Nat.le_of_ble_eq_true rfl) (by decide) (by decide) fun v8 T8 L8 X8 q8 => ?_
  obtain ⟨rfl, e8, rfl⟩ := q8
  replace X8 := own_px X8
  refine k_some K (w := (.int (LCH y3))) ?_
  refine m_sipush K X8.here hx hby (255 : Int32) d_prog_40_4_15 rfl rfl ?_
  refine m_icmpY K X8.here hx hby (q := 23) d_prog_40_4_18 (flt (own_lch y3)).2.2.2 (by decide) rfl ?_
  refine m_iinc K X8.here hx hby #[.val (.ref a1), .val (.int (4 : Int32))] d_prog_40_4_23 rfl rfl rfl ?_
  refine m_goto K X8.here hx hby (q := 2) d_prog_40_4_26 (by decide) rfl ?_
  refine m_iloadN K X8.here hx hby d_prog_40_4_2 rfl rfl ?_
  refine m_aloadN K X8.here hx hby d_prog_40_4_3 rfl rfl rfl ?_
  refine k_callV K X8 hx hby hZ a1 [] [(.int (4 : Int32))] hown (W hw 30 rfl) (W hw 31 rfl) (notFace_of_selects (args := #[]) (mvT hZ (W hw 33 rfl))) (W hw 33 rfl) (W hw 32 rfl) (W hw 7 rfl) (W hw 34 rfl) (cll4 l Z a0 hw a1 cz vf a2 y0 y1 y2 y3 h0 n0 Z0 E_a1 F_value_a1 F_coder_a1 A_a2 O0 SS) e8 E_a1 rfl rfl pd_14 rfl d_prog_40_4_4 (by rw [hml]; rfl) rfl (by decide) (by decide) (Nat.le_of_ble_eq_true rfl) (by decide) (by decide) fun v9 T9 L9 X9 q9 => ?_
  obtain ⟨rfl, e9, rfl⟩ := q9
  replace X9 := own_px X9
  refine k_some K (w := (.int (4 : Int32))) ?_
  refine m_icmpY K X9.here hx hby (q := 29) d_prog_40_4_7 (flt (by decide : ¬ ((4 : Int32) < (4 : Int32)))).2.1 (by decide) rfl ?_
  refine m_iconst K X9.here hx hby (1 : Int32) d_prog_40_4_29 rfl rfl ?_
  exact Go.retN X9 hx hby hlk hret (by simp) d_prog_40_4_30 (by decide) (by decide) (by decide) (⟨rfl, e9, rfl⟩)
theorem effl4_0 (m : MethodId) (x0 : Addr) : entryFrame m #[(.ref x0)] 2 = mkF m 0 #[.val (.ref x0), .unset] [] := by first | (simp [entryFrame, mkF, argsToLocals, Value.category]; done) | rfl
set_option maxRecDepth 65536 in
set_option maxHeartbeats 40000000 in
theorem cfl4_0 (l : Launch) (Z : State) (a0 : Array Value) (hw : ∀ d ∈ tables_1, d.before a0 Z = true) (a1 : Addr) (cz : Int32) (vf : Value) (a2 : Addr) (c0 : Int32) (c1 : Int32) (c2 : Int32) (c3 : Int32) (h0 : Heap) (n0 : Nat) (Z0 : n0 ≤ h0.size) (E_a1 : Exa Z h0 a1 "java/lang/String") (F_value_a1 : Fld Z h0 a1 "java/lang/String" "value" "[B" (.ref a2)) (F_coder_a1 : Fld Z h0 a1 "java/lang/String" "coder" "B" (.int (1 : Int32))) (A_a2 : Av Z h0 a2 .byte [(.int (BLO c0)), (.int (BHI c0)), (.int (BLO c1)), (.int (BHI c1)), (.int (BLO c2)), (.int (BHI c2)), (.int (BLO c3)), (.int (BHI c3))]) (O0 : Old Z n0 h0) (SS : SSt Z cz vf) (hg : (255 : Int32) < c0) (hch_0 : nar .char c0 = c0) (hch_1 : nar .char c1 = c1) (hch_2 : nar .char c2 = c2) (hch_3 : nar .char c3 = c3) :
    Con l Z (⟨"com/example/stamp2/stamp2/memory/Footprint", "isLatin1", "(Ljava/lang/String;)Z"⟩ : MethodName) prog_40_method_4_code 2 (some .boolean) ({ frames := 5, cells := 0, slots := 0, locals := 66 } : Room) [] #[(.ref a1)] h0 (fun v h L => v = some (.int (0 : Int32)) ∧ h = h0 ∧ L = []) := by
  refine Con.of (plainFor_of_name pn_com_example_stamp2_stamp2_memory_Footprint) #[.val (.ref a1), .unset] (fun m => effl4_0 m a1) ?_
  intro p e s m below meth c s₁ K hx hby hml hown hnm hret hlk hZ X0 e0
  have N0 := Fr.nil n0
  refine m_iconst K X0.here hx hby (0 : Int32) d_prog_40_4_0 rfl rfl ?_
  refine m_istoreN K X0.here hx hby #[.val (.ref a1), .val (.int (0 : Int32))] d_prog_40_4_1 rfl rfl ?_
  refine m_iloadN K X0.here hx hby d_prog_40_4_2 rfl rfl ?_
  refine m_aloadN K X0.here hx hby d_prog_40_4_3 rfl rfl rfl ?_
  refine k_callV K X0 hx hby hZ a1 [] [(.int (0 : Int32))] hown (W hw 30 rfl) (W hw 31 rfl) (notFace_of_selects (args := #[]) (mvT hZ (W hw 33 rfl))) (W hw 33 rfl) (W hw 32 rfl) (W hw 7 rfl) (W hw 34 rfl) (clu4 l Z a0 hw a1 cz vf a2 (BLO c0) (BHI c0) (BLO c1) (BHI c1) (BLO c2) (BHI c2) (BLO c3) (BHI c3) h0 n0 Z0 E_a1 F_value_a1 F_coder_a1 A_a2 O0 SS) e0 E_a1 rfl rfl pd_14 rfl d_prog_40_4_4 (by rw [hml]; rfl) rfl (by decide) (by decide) (Nat.le_of_ble_eq_true rfl) (by decide) (by decide) fun v1 T1 L1 X1 q1 => ?_
  obtain ⟨rfl, e1, rfl⟩ := q1
  replace X1 := own_px X1
  refine k_some K (w := (.int (4 : Int32))) ?_
  refine m_icmpN K X1.here hx hby (q := 10) d_prog_40_4_7 (tlt (by decide : (0 : Int32) < (4 : Int32))).2.1 rfl ?_
  refine m_aloadN K X1.here hx hby d_prog_40_4_10 rfl rfl rfl ?_
  refine m_iloadN K X1.here hx hby d_prog_40_4_11 rfl rfl ?_
  refine k_callV K X1 hx hby hZ a1 [(.int (0 : Int32))] [] hown (W hw 51 rfl) (W hw 52 rfl) (notFace_of_selects (args := #[]) (mvT hZ (W hw 54 rfl))) (W hw 54 rfl) (W hw 53 rfl) (W hw 7 rfl) (W hw 55 rfl) (ccu4_0 l Z a0 hw a1 cz vf a2 (BLO c0) (BHI c0) (BLO c1) (BHI c1) (BLO c2) (BHI c2) (BLO c3) (BHI c3) h0 n0 Z0 E_a1 F_value_a1 F_coder_a1 A_a2 O0 SS) e1 E_a1 rfl rfl pd_15 rfl d_prog_40_4_12 (by rw [hml]; rfl) rfl (by decide) (by decide) (Nat.le_of_ble_eq_true rfl) (by decide) (by decide) fun v2 T2 L2 X2 q2 => ?_
  obtain ⟨rfl, e2, rfl⟩ := q2
  replace X2 := own_px X2
  refine k_some K (w := (.int (GCH (BLO c0) (BHI c0)))) ?_
  refine m_sipush K X2.here hx hby (255 : Int32) d_prog_40_4_15 rfl rfl ?_
  refine m_icmpN K X2.here hx hby (q := 21) d_prog_40_4_18 (tlt (own_rgt c0 hch_0 hg)).2.2.2 rfl ?_
  refine m_iconst K X2.here hx hby (0 : Int32) d_prog_40_4_21 rfl rfl ?_
  exact Go.retN X2 hx hby hlk hret (by simp) d_prog_40_4_22 (by decide) (by decide) (by decide) (⟨rfl, e2, rfl⟩)
theorem effl4_1 (m : MethodId) (x0 : Addr) : entryFrame m #[(.ref x0)] 2 = mkF m 0 #[.val (.ref x0), .unset] [] := by first | (simp [entryFrame, mkF, argsToLocals, Value.category]; done) | rfl
set_option maxRecDepth 65536 in
set_option maxHeartbeats 40000000 in
theorem cfl4_1 (l : Launch) (Z : State) (a0 : Array Value) (hw : ∀ d ∈ tables_1, d.before a0 Z = true) (a1 : Addr) (cz : Int32) (vf : Value) (a2 : Addr) (c0 : Int32) (c1 : Int32) (c2 : Int32) (c3 : Int32) (h0 : Heap) (n0 : Nat) (Z0 : n0 ≤ h0.size) (E_a1 : Exa Z h0 a1 "java/lang/String") (F_value_a1 : Fld Z h0 a1 "java/lang/String" "value" "[B" (.ref a2)) (F_coder_a1 : Fld Z h0 a1 "java/lang/String" "coder" "B" (.int (1 : Int32))) (A_a2 : Av Z h0 a2 .byte [(.int (BLO c0)), (.int (BHI c0)), (.int (BLO c1)), (.int (BHI c1)), (.int (BLO c2)), (.int (BHI c2)), (.int (BLO c3)), (.int (BHI c3))]) (O0 : Old Z n0 h0) (SS : SSt Z cz vf) (hl_0 : ¬ ((255 : Int32) < c0)) (hg : (255 : Int32) < c1) (hch_0 : nar .char c0 = c0) (hch_1 : nar .char c1 = c1) (hch_2 : nar .char c2 = c2) (hch_3 : nar .char c3 = c3) :
    Con l Z (⟨"com/example/stamp2/stamp2/memory/Footprint", "isLatin1", "(Ljava/lang/String;)Z"⟩ : MethodName) prog_40_method_4_code 2 (some .boolean) ({ frames := 5, cells := 0, slots := 0, locals := 66 } : Room) [] #[(.ref a1)] h0 (fun v h L => v = some (.int (0 : Int32)) ∧ h = h0 ∧ L = []) := by
  refine Con.of (plainFor_of_name pn_com_example_stamp2_stamp2_memory_Footprint) #[.val (.ref a1), .unset] (fun m => effl4_1 m a1) ?_
  intro p e s m below meth c s₁ K hx hby hml hown hnm hret hlk hZ X0 e0
  have N0 := Fr.nil n0
  refine m_iconst K X0.here hx hby (0 : Int32) d_prog_40_4_0 rfl rfl ?_
  refine m_istoreN K X0.here hx hby #[.val (.ref a1), .val (.int (0 : Int32))] d_prog_40_4_1 rfl rfl ?_
  refine m_iloadN K X0.here hx hby d_prog_40_4_2 rfl rfl ?_
  refine m_aloadN K X0.here hx hby d_prog_40_4_3 rfl rfl rfl ?_
  refine k_callV K X0 hx hby hZ a1 [] [(.int (0 : Int32))] hown (W hw 30 rfl) (W hw 31 rfl) (notFace_of_selects (args := #[]) (mvT hZ (W hw 33 rfl))) (W hw 33 rfl) (W hw 32 rfl) (W hw 7 rfl) (W hw 34 rfl) (clu4 l Z a0 hw a1 cz vf a2 (BLO c0) (BHI c0) (BLO c1) (BHI c1) (BLO c2) (BHI c2) (BLO c3) (BHI c3) h0 n0 Z0 E_a1 F_value_a1 F_coder_a1 A_a2 O0 SS) e0 E_a1 rfl rfl pd_14 rfl d_prog_40_4_4 (by rw [hml]; rfl) rfl (by decide) (by decide) (Nat.le_of_ble_eq_true rfl) (by decide) (by decide) fun v1 T1 L1 X1 q1 => ?_
  obtain ⟨rfl, e1, rfl⟩ := q1
  replace X1 := own_px X1
  refine k_some K (w := (.int (4 : Int32))) ?_
  refine m_icmpN K X1.here hx hby (q := 10) d_prog_40_4_7 (tlt (by decide : (0 : Int32) < (4 : Int32))).2.1 rfl ?_
  refine m_aloadN K X1.here hx hby d_prog_40_4_10 rfl rfl rfl ?_
  refine m_iloadN K X1.here hx hby d_prog_40_4_11 rfl rfl ?_
  refine k_callV K X1 hx hby hZ a1 [(.int (0 : Int32))] [] hown (W hw 51 rfl) (W hw 52 rfl) (notFace_of_selects (args := #[]) (mvT hZ (W hw 54 rfl))) (W hw 54 rfl) (W hw 53 rfl) (W hw 7 rfl) (W hw 55 rfl) (ccu4_0 l Z a0 hw a1 cz vf a2 (BLO c0) (BHI c0) (BLO c1) (BHI c1) (BLO c2) (BHI c2) (BLO c3) (BHI c3) h0 n0 Z0 E_a1 F_value_a1 F_coder_a1 A_a2 O0 SS) e1 E_a1 rfl rfl pd_15 rfl d_prog_40_4_12 (by rw [hml]; rfl) rfl (by decide) (by decide) (Nat.le_of_ble_eq_true rfl) (by decide) (by decide) fun v2 T2 L2 X2 q2 => ?_
  obtain ⟨rfl, e2, rfl⟩ := q2
  replace X2 := own_px X2
  refine k_some K (w := (.int (GCH (BLO c0) (BHI c0)))) ?_
  refine m_sipush K X2.here hx hby (255 : Int32) d_prog_40_4_15 rfl rfl ?_
  refine m_icmpY K X2.here hx hby (q := 23) d_prog_40_4_18 (flt (own_rle c0 hch_0 hl_0)).2.2.2 (by decide) rfl ?_
  refine m_iinc K X2.here hx hby #[.val (.ref a1), .val (.int (1 : Int32))] d_prog_40_4_23 rfl rfl rfl ?_
  refine m_goto K X2.here hx hby (q := 2) d_prog_40_4_26 (by decide) rfl ?_
  refine m_iloadN K X2.here hx hby d_prog_40_4_2 rfl rfl ?_
  refine m_aloadN K X2.here hx hby d_prog_40_4_3 rfl rfl rfl ?_
  refine k_callV K X2 hx hby hZ a1 [] [(.int (1 : Int32))] hown (W hw 30 rfl) (W hw 31 rfl) (notFace_of_selects (args := #[]) (mvT hZ (W hw 33 rfl))) (W hw 33 rfl) (W hw 32 rfl) (W hw 7 rfl) (W hw 34 rfl) (clu4 l Z a0 hw a1 cz vf a2 (BLO c0) (BHI c0) (BLO c1) (BHI c1) (BLO c2) (BHI c2) (BLO c3) (BHI c3) h0 n0 Z0 E_a1 F_value_a1 F_coder_a1 A_a2 O0 SS) e2 E_a1 rfl rfl pd_14 rfl d_prog_40_4_4 (by rw [hml]; rfl) rfl (by decide) (by decide) (Nat.le_of_ble_eq_true rfl) (by decide) (by decide) fun v3 T3 L3 X3 q3 => ?_
  obtain ⟨rfl, e3, rfl⟩ := q3
  replace X3 := own_px X3
  refine k_some K (w := (.int (4 : Int32))) ?_
  refine m_icmpN K X3.here hx hby (q := 10) d_prog_40_4_7 (tlt (by decide : (1 : Int32) < (4 : Int32))).2.1 rfl ?_
  refine m_aloadN K X3.here hx hby d_prog_40_4_10 rfl rfl rfl ?_
  refine m_iloadN K X3.here hx hby d_prog_40_4_11 rfl rfl ?_
  refine k_callV K X3 hx hby hZ a1 [(.int (1 : Int32))] [] hown (W hw 51 rfl) (W hw 52 rfl) (notFace_of_selects (args := #[]) (mvT hZ (W hw 54 rfl))) (W hw 54 rfl) (W hw 53 rfl) (W hw 7 rfl) (W hw 55 rfl) (ccu4_1 l Z a0 hw a1 cz vf a2 (BLO c0) (BHI c0) (BLO c1) (BHI c1) (BLO c2) (BHI c2) (BLO c3) (BHI c3) h0 n0 Z0 E_a1 F_value_a1 F_coder_a1 A_a2 O0 SS) e3 E_a1 rfl rfl pd_15 rfl d_prog_40_4_12 (by rw [hml]; rfl) rfl (by decide) (by decide) (Nat.le_of_ble_eq_true rfl) (by decide) (by decide) fun v4 T4 L4 X4 q4 => ?_
  obtain ⟨rfl, e4, rfl⟩ := q4
  replace X4 := own_px X4
  refine k_some K (w := (.int (GCH (BLO c1) (BHI c1)))) ?_
  refine m_sipush K X4.here hx hby (255 : Int32) d_prog_40_4_15 rfl rfl ?_
  refine m_icmpN K X4.here hx hby (q := 21) d_prog_40_4_18 (tlt (own_rgt c1 hch_1 hg)).2.2.2 rfl ?_
  refine m_iconst K X4.here hx hby (0 : Int32) d_prog_40_4_21 rfl rfl ?_
  exact Go.retN X4 hx hby hlk hret (by simp) d_prog_40_4_22 (by decide) (by decide) (by decide) (⟨rfl, e4, rfl⟩)
theorem effl4_2 (m : MethodId) (x0 : Addr) : entryFrame m #[(.ref x0)] 2 = mkF m 0 #[.val (.ref x0), .unset] [] := by first | (simp [entryFrame, mkF, argsToLocals, Value.category]; done) | rfl
set_option maxRecDepth 65536 in
set_option maxHeartbeats 40000000 in
theorem cfl4_2 (l : Launch) (Z : State) (a0 : Array Value) (hw : ∀ d ∈ tables_1, d.before a0 Z = true) (a1 : Addr) (cz : Int32) (vf : Value) (a2 : Addr) (c0 : Int32) (c1 : Int32) (c2 : Int32) (c3 : Int32) (h0 : Heap) (n0 : Nat) (Z0 : n0 ≤ h0.size) (E_a1 : Exa Z h0 a1 "java/lang/String") (F_value_a1 : Fld Z h0 a1 "java/lang/String" "value" "[B" (.ref a2)) (F_coder_a1 : Fld Z h0 a1 "java/lang/String" "coder" "B" (.int (1 : Int32))) (A_a2 : Av Z h0 a2 .byte [(.int (BLO c0)), (.int (BHI c0)), (.int (BLO c1)), (.int (BHI c1)), (.int (BLO c2)), (.int (BHI c2)), (.int (BLO c3)), (.int (BHI c3))]) (O0 : Old Z n0 h0) (SS : SSt Z cz vf) (hl_0 : ¬ ((255 : Int32) < c0)) (hl_1 : ¬ ((255 : Int32) < c1)) (hg : (255 : Int32) < c2) (hch_0 : nar .char c0 = c0) (hch_1 : nar .char c1 = c1) (hch_2 : nar .char c2 = c2) (hch_3 : nar .char c3 = c3) :
    Con l Z (⟨"com/example/stamp2/stamp2/memory/Footprint", "isLatin1", "(Ljava/lang/String;)Z"⟩ : MethodName) prog_40_method_4_code 2 (some .boolean) ({ frames := 5, cells := 0, slots := 0, locals := 66 } : Room) [] #[(.ref a1)] h0 (fun v h L => v = some (.int (0 : Int32)) ∧ h = h0 ∧ L = []) := by
  refine Con.of (plainFor_of_name pn_com_example_stamp2_stamp2_memory_Footprint) #[.val (.ref a1), .unset] (fun m => effl4_2 m a1) ?_
  intro p e s m below meth c s₁ K hx hby hml hown hnm hret hlk hZ X0 e0
  have N0 := Fr.nil n0
  refine m_iconst K X0.here hx hby (0 : Int32) d_prog_40_4_0 rfl rfl ?_
  refine m_istoreN K X0.here hx hby #[.val (.ref a1), .val (.int (0 : Int32))] d_prog_40_4_1 rfl rfl ?_
  refine m_iloadN K X0.here hx hby d_prog_40_4_2 rfl rfl ?_
  refine m_aloadN K X0.here hx hby d_prog_40_4_3 rfl rfl rfl ?_
  refine k_callV K X0 hx hby hZ a1 [] [(.int (0 : Int32))] hown (W hw 30 rfl) (W hw 31 rfl) (notFace_of_selects (args := #[]) (mvT hZ (W hw 33 rfl))) (W hw 33 rfl) (W hw 32 rfl) (W hw 7 rfl) (W hw 34 rfl) (clu4 l Z a0 hw a1 cz vf a2 (BLO c0) (BHI c0) (BLO c1) (BHI c1) (BLO c2) (BHI c2) (BLO c3) (BHI c3) h0 n0 Z0 E_a1 F_value_a1 F_coder_a1 A_a2 O0 SS) e0 E_a1 rfl rfl pd_14 rfl d_prog_40_4_4 (by rw [hml]; rfl) rfl (by decide) (by decide) (Nat.le_of_ble_eq_true rfl) (by decide) (by decide) fun v1 T1 L1 X1 q1 => ?_
  obtain ⟨rfl, e1, rfl⟩ := q1
  replace X1 := own_px X1
  refine k_some K (w := (.int (4 : Int32))) ?_
  refine m_icmpN K X1.here hx hby (q := 10) d_prog_40_4_7 (tlt (by decide : (0 : Int32) < (4 : Int32))).2.1 rfl ?_
  refine m_aloadN K X1.here hx hby d_prog_40_4_10 rfl rfl rfl ?_
  refine m_iloadN K X1.here hx hby d_prog_40_4_11 rfl rfl ?_
  refine k_callV K X1 hx hby hZ a1 [(.int (0 : Int32))] [] hown (W hw 51 rfl) (W hw 52 rfl) (notFace_of_selects (args := #[]) (mvT hZ (W hw 54 rfl))) (W hw 54 rfl) (W hw 53 rfl) (W hw 7 rfl) (W hw 55 rfl) (ccu4_0 l Z a0 hw a1 cz vf a2 (BLO c0) (BHI c0) (BLO c1) (BHI c1) (BLO c2) (BHI c2) (BLO c3) (BHI c3) h0 n0 Z0 E_a1 F_value_a1 F_coder_a1 A_a2 O0 SS) e1 E_a1 rfl rfl pd_15 rfl d_prog_40_4_12 (by rw [hml]; rfl) rfl (by decide) (by decide) (Nat.le_of_ble_eq_true rfl) (by decide) (by decide) fun v2 T2 L2 X2 q2 => ?_
  obtain ⟨rfl, e2, rfl⟩ := q2
  replace X2 := own_px X2
  refine k_some K (w := (.int (GCH (BLO c0) (BHI c0)))) ?_
  refine m_sipush K X2.here hx hby (255 : Int32) d_prog_40_4_15 rfl rfl ?_
  refine m_icmpY K X2.here hx hby (q := 23) d_prog_40_4_18 (flt (own_rle c0 hch_0 hl_0)).2.2.2 (by decide) rfl ?_
  refine m_iinc K X2.here hx hby #[.val (.ref a1), .val (.int (1 : Int32))] d_prog_40_4_23 rfl rfl rfl ?_
  refine m_goto K X2.here hx hby (q := 2) d_prog_40_4_26 (by decide) rfl ?_
  refine m_iloadN K X2.here hx hby d_prog_40_4_2 rfl rfl ?_
  refine m_aloadN K X2.here hx hby d_prog_40_4_3 rfl rfl rfl ?_
  refine k_callV K X2 hx hby hZ a1 [] [(.int (1 : Int32))] hown (W hw 30 rfl) (W hw 31 rfl) (notFace_of_selects (args := #[]) (mvT hZ (W hw 33 rfl))) (W hw 33 rfl) (W hw 32 rfl) (W hw 7 rfl) (W hw 34 rfl) (clu4 l Z a0 hw a1 cz vf a2 (BLO c0) (BHI c0) (BLO c1) (BHI c1) (BLO c2) (BHI c2) (BLO c3) (BHI c3) h0 n0 Z0 E_a1 F_value_a1 F_coder_a1 A_a2 O0 SS) e2 E_a1 rfl rfl pd_14 rfl d_prog_40_4_4 (by rw [hml]; rfl) rfl (by decide) (by decide) (Nat.le_of_ble_eq_true rfl) (by decide) (by decide) fun v3 T3 L3 X3 q3 => ?_
  obtain ⟨rfl, e3, rfl⟩ := q3
  replace X3 := own_px X3
  refine k_some K (w := (.int (4 : Int32))) ?_
  refine m_icmpN K X3.here hx hby (q := 10) d_prog_40_4_7 (tlt (by decide : (1 : Int32) < (4 : Int32))).2.1 rfl ?_
  refine m_aloadN K X3.here hx hby d_prog_40_4_10 rfl rfl rfl ?_
  refine m_iloadN K X3.here hx hby d_prog_40_4_11 rfl rfl ?_
  refine k_callV K X3 hx hby hZ a1 [(.int (1 : Int32))] [] hown (W hw 51 rfl) (W hw 52 rfl) (notFace_of_selects (args := #[]) (mvT hZ (W hw 54 rfl))) (W hw 54 rfl) (W hw 53 rfl) (W hw 7 rfl) (W hw 55 rfl) (ccu4_1 l Z a0 hw a1 cz vf a2 (BLO c0) (BHI c0) (BLO c1) (BHI c1) (BLO c2) (BHI c2) (BLO c3) (BHI c3) h0 n0 Z0 E_a1 F_value_a1 F_coder_a1 A_a2 O0 SS) e3 E_a1 rfl rfl pd_15 rfl d_prog_40_4_12 (by rw [hml]; rfl) rfl (by decide) (by decide) (Nat.le_of_ble_eq_true rfl) (by decide) (by decide) fun v4 T4 L4 X4 q4 => ?_
  obtain ⟨rfl, e4, rfl⟩ := q4
  replace X4 := own_px X4
  refine k_some K (w := (.int (GCH (BLO c1) (BHI c1)))) ?_
  refine m_sipush K X4.here hx hby (255 : Int32) d_prog_40_4_15 rfl rfl ?_
  refine m_icmpY K X4.here hx hby (q := 23) d_prog_40_4_18 (flt (own_rle c1 hch_1 hl_1)).2.2.2 (by decide) rfl ?_
  refine m_iinc K X4.here hx hby #[.val (.ref a1), .val (.int (2 : Int32))] d_prog_40_4_23 rfl rfl rfl ?_
  refine m_goto K X4.here hx hby (q := 2) d_prog_40_4_26 (by decide) rfl ?_
  refine m_iloadN K X4.here hx hby d_prog_40_4_2 rfl rfl ?_
  refine m_aloadN K X4.here hx hby d_prog_40_4_3 rfl rfl rfl ?_
  refine k_callV K X4 hx hby hZ a1 [] [(.int (2 : Int32))] hown (W hw 30 rfl) (W hw 31 rfl) (notFace_of_selects (args := #[]) (mvT hZ (W hw 33 rfl))) (W hw 33 rfl) (W hw 32 rfl) (W hw 7 rfl) (W hw 34 rfl) (clu4 l Z a0 hw a1 cz vf a2 (BLO c0) (BHI c0) (BLO c1) (BHI c1) (BLO c2) (BHI c2) (BLO c3) (BHI c3) h0 n0 Z0 E_a1 F_value_a1 F_coder_a1 A_a2 O0 SS) e4 E_a1 rfl rfl pd_14 rfl d_prog_40_4_4 (by rw [hml]; rfl) rfl (by decide) (by decide) (Nat.le_of_ble_eq_true rfl) (by decide) (by decide) fun v5 T5 L5 X5 q5 => ?_
  obtain ⟨rfl, e5, rfl⟩ := q5
  replace X5 := own_px X5
  refine k_some K (w := (.int (4 : Int32))) ?_
  refine m_icmpN K X5.here hx hby (q := 10) d_prog_40_4_7 (tlt (by decide : (2 : Int32) < (4 : Int32))).2.1 rfl ?_
  refine m_aloadN K X5.here hx hby d_prog_40_4_10 rfl rfl rfl ?_
  refine m_iloadN K X5.here hx hby d_prog_40_4_11 rfl rfl ?_
  refine k_callV K X5 hx hby hZ a1 [(.int (2 : Int32))] [] hown (W hw 51 rfl) (W hw 52 rfl) (notFace_of_selects (args := #[]) (mvT hZ (W hw 54 rfl))) (W hw 54 rfl) (W hw 53 rfl) (W hw 7 rfl) (W hw 55 rfl) (ccu4_2 l Z a0 hw a1 cz vf a2 (BLO c0) (BHI c0) (BLO c1) (BHI c1) (BLO c2) (BHI c2) (BLO c3) (BHI c3) h0 n0 Z0 E_a1 F_value_a1 F_coder_a1 A_a2 O0 SS) e5 E_a1 rfl rfl pd_15 rfl d_prog_40_4_12 (by rw [hml]; rfl) rfl (by decide) (by decide) (Nat.le_of_ble_eq_true rfl) (by decide) (by decide) fun v6 T6 L6 X6 q6 => ?_
  obtain ⟨rfl, e6, rfl⟩ := q6
  replace X6 := own_px X6
  refine k_some K (w := (.int (GCH (BLO c2) (BHI c2)))) ?_
  refine m_sipush K X6.here hx hby (255 : Int32) d_prog_40_4_15 rfl rfl ?_
  refine m_icmpN K X6.here hx hby (q := 21) d_prog_40_4_18 (tlt (own_rgt c2 hch_2 hg)).2.2.2 rfl ?_
  refine m_iconst K X6.here hx hby (0 : Int32) d_prog_40_4_21 rfl rfl ?_
  exact Go.retN X6 hx hby hlk hret (by simp) d_prog_40_4_22 (by decide) (by decide) (by decide) (⟨rfl, e6, rfl⟩)
theorem effl4_3 (m : MethodId) (x0 : Addr) : entryFrame m #[(.ref x0)] 2 = mkF m 0 #[.val (.ref x0), .unset] [] := by first | (simp [entryFrame, mkF, argsToLocals, Value.category]; done) | rfl
set_option maxRecDepth 65536 in
set_option maxHeartbeats 40000000 in
theorem cfl4_3 (l : Launch) (Z : State) (a0 : Array Value) (hw : ∀ d ∈ tables_1, d.before a0 Z = true) (a1 : Addr) (cz : Int32) (vf : Value) (a2 : Addr) (c0 : Int32) (c1 : Int32) (c2 : Int32) (c3 : Int32) (h0 : Heap) (n0 : Nat) (Z0 : n0 ≤ h0.size) (E_a1 : Exa Z h0 a1 "java/lang/String") (F_value_a1 : Fld Z h0 a1 "java/lang/String" "value" "[B" (.ref a2)) (F_coder_a1 : Fld Z h0 a1 "java/lang/String" "coder" "B" (.int (1 : Int32))) (A_a2 : Av Z h0 a2 .byte [(.int (BLO c0)), (.int (BHI c0)), (.int (BLO c1)), (.int (BHI c1)), (.int (BLO c2)), (.int (BHI c2)), (.int (BLO c3)), (.int (BHI c3))]) (O0 : Old Z n0 h0) (SS : SSt Z cz vf) (hl_0 : ¬ ((255 : Int32) < c0)) (hl_1 : ¬ ((255 : Int32) < c1)) (hl_2 : ¬ ((255 : Int32) < c2)) (hg : (255 : Int32) < c3) (hch_0 : nar .char c0 = c0) (hch_1 : nar .char c1 = c1) (hch_2 : nar .char c2 = c2) (hch_3 : nar .char c3 = c3) :
    Con l Z (⟨"com/example/stamp2/stamp2/memory/Footprint", "isLatin1", "(Ljava/lang/String;)Z"⟩ : MethodName) prog_40_method_4_code 2 (some .boolean) ({ frames := 5, cells := 0, slots := 0, locals := 66 } : Room) [] #[(.ref a1)] h0 (fun v h L => v = some (.int (0 : Int32)) ∧ h = h0 ∧ L = []) := by
  refine Con.of (plainFor_of_name pn_com_example_stamp2_stamp2_memory_Footprint) #[.val (.ref a1), .unset] (fun m => effl4_3 m a1) ?_
  intro p e s m below meth c s₁ K hx hby hml hown hnm hret hlk hZ X0 e0
  have N0 := Fr.nil n0
  refine m_iconst K X0.here hx hby (0 : Int32) d_prog_40_4_0 rfl rfl ?_
  refine m_istoreN K X0.here hx hby #[.val (.ref a1), .val (.int (0 : Int32))] d_prog_40_4_1 rfl rfl ?_
  refine m_iloadN K X0.here hx hby d_prog_40_4_2 rfl rfl ?_
  refine m_aloadN K X0.here hx hby d_prog_40_4_3 rfl rfl rfl ?_
  refine k_callV K X0 hx hby hZ a1 [] [(.int (0 : Int32))] hown (W hw 30 rfl) (W hw 31 rfl) (notFace_of_selects (args := #[]) (mvT hZ (W hw 33 rfl))) (W hw 33 rfl) (W hw 32 rfl) (W hw 7 rfl) (W hw 34 rfl) (clu4 l Z a0 hw a1 cz vf a2 (BLO c0) (BHI c0) (BLO c1) (BHI c1) (BLO c2) (BHI c2) (BLO c3) (BHI c3) h0 n0 Z0 E_a1 F_value_a1 F_coder_a1 A_a2 O0 SS) e0 E_a1 rfl rfl pd_14 rfl d_prog_40_4_4 (by rw [hml]; rfl) rfl (by decide) (by decide) (Nat.le_of_ble_eq_true rfl) (by decide) (by decide) fun v1 T1 L1 X1 q1 => ?_
  obtain ⟨rfl, e1, rfl⟩ := q1
  replace X1 := own_px X1
  refine k_some K (w := (.int (4 : Int32))) ?_
  refine m_icmpN K X1.here hx hby (q := 10) d_prog_40_4_7 (tlt (by decide : (0 : Int32) < (4 : Int32))).2.1 rfl ?_
  refine m_aloadN K X1.here hx hby d_prog_40_4_10 rfl rfl rfl ?_
  refine m_iloadN K X1.here hx hby d_prog_40_4_11 rfl rfl ?_
  refine k_callV K X1 hx hby hZ a1 [(.int (0 : Int32))] [] hown (W hw 51 rfl) (W hw 52 rfl) (notFace_of_selects (args := #[]) (mvT hZ (W hw 54 rfl))) (W hw 54 rfl) (W hw 53 rfl) (W hw 7 rfl) (W hw 55 rfl) (ccu4_0 l Z a0 hw a1 cz vf a2 (BLO c0) (BHI c0) (BLO c1) (BHI c1) (BLO c2) (BHI c2) (BLO c3) (BHI c3) h0 n0 Z0 E_a1 F_value_a1 F_coder_a1 A_a2 O0 SS) e1 E_a1 rfl rfl pd_15 rfl d_prog_40_4_12 (by rw [hml]; rfl) rfl (by decide) (by decide) (Nat.le_of_ble_eq_true rfl) (by decide) (by decide) fun v2 T2 L2 X2 q2 => ?_
  obtain ⟨rfl, e2, rfl⟩ := q2
  replace X2 := own_px X2
  refine k_some K (w := (.int (GCH (BLO c0) (BHI c0)))) ?_
  refine m_sipush K X2.here hx hby (255 : Int32) d_prog_40_4_15 rfl rfl ?_
  refine m_icmpY K X2.here hx hby (q := 23) d_prog_40_4_18 (flt (own_rle c0 hch_0 hl_0)).2.2.2 (by decide) rfl ?_
  refine m_iinc K X2.here hx hby #[.val (.ref a1), .val (.int (1 : Int32))] d_prog_40_4_23 rfl rfl rfl ?_
  refine m_goto K X2.here hx hby (q := 2) d_prog_40_4_26 (by decide) rfl ?_
  refine m_iloadN K X2.here hx hby d_prog_40_4_2 rfl rfl ?_
  refine m_aloadN K X2.here hx hby d_prog_40_4_3 rfl rfl rfl ?_
  refine k_callV K X2 hx hby hZ a1 [] [(.int (1 : Int32))] hown (W hw 30 rfl) (W hw 31 rfl) (notFace_of_selects (args := #[]) (mvT hZ (W hw 33 rfl))) (W hw 33 rfl) (W hw 32 rfl) (W hw 7 rfl) (W hw 34 rfl) (clu4 l Z a0 hw a1 cz vf a2 (BLO c0) (BHI c0) (BLO c1) (BHI c1) (BLO c2) (BHI c2) (BLO c3) (BHI c3) h0 n0 Z0 E_a1 F_value_a1 F_coder_a1 A_a2 O0 SS) e2 E_a1 rfl rfl pd_14 rfl d_prog_40_4_4 (by rw [hml]; rfl) rfl (by decide) (by decide) (Nat.le_of_ble_eq_true rfl) (by decide) (by decide) fun v3 T3 L3 X3 q3 => ?_
  obtain ⟨rfl, e3, rfl⟩ := q3
  replace X3 := own_px X3
  refine k_some K (w := (.int (4 : Int32))) ?_
  refine m_icmpN K X3.here hx hby (q := 10) d_prog_40_4_7 (tlt (by decide : (1 : Int32) < (4 : Int32))).2.1 rfl ?_
  refine m_aloadN K X3.here hx hby d_prog_40_4_10 rfl rfl rfl ?_
  refine m_iloadN K X3.here hx hby d_prog_40_4_11 rfl rfl ?_
  refine k_callV K X3 hx hby hZ a1 [(.int (1 : Int32))] [] hown (W hw 51 rfl) (W hw 52 rfl) (notFace_of_selects (args := #[]) (mvT hZ (W hw 54 rfl))) (W hw 54 rfl) (W hw 53 rfl) (W hw 7 rfl) (W hw 55 rfl) (ccu4_1 l Z a0 hw a1 cz vf a2 (BLO c0) (BHI c0) (BLO c1) (BHI c1) (BLO c2) (BHI c2) (BLO c3) (BHI c3) h0 n0 Z0 E_a1 F_value_a1 F_coder_a1 A_a2 O0 SS) e3 E_a1 rfl rfl pd_15 rfl d_prog_40_4_12 (by rw [hml]; rfl) rfl (by decide) (by decide) (Nat.le_of_ble_eq_true rfl) (by decide) (by decide) fun v4 T4 L4 X4 q4 => ?_
  obtain ⟨rfl, e4, rfl⟩ := q4
  replace X4 := own_px X4
  refine k_some K (w := (.int (GCH (BLO c1) (BHI c1)))) ?_
  refine m_sipush K X4.here hx hby (255 : Int32) d_prog_40_4_15 rfl rfl ?_
  refine m_icmpY K X4.here hx hby (q := 23) d_prog_40_4_18 (flt (own_rle c1 hch_1 hl_1)).2.2.2 (by decide) rfl ?_
  refine m_iinc K X4.here hx hby #[.val (.ref a1), .val (.int (2 : Int32))] d_prog_40_4_23 rfl rfl rfl ?_
  refine m_goto K X4.here hx hby (q := 2) d_prog_40_4_26 (by decide) rfl ?_
  refine m_iloadN K X4.here hx hby d_prog_40_4_2 rfl rfl ?_
  refine m_aloadN K X4.here hx hby d_prog_40_4_3 rfl rfl rfl ?_
  refine k_callV K X4 hx hby hZ a1 [] [(.int (2 : Int32))] hown (W hw 30 rfl) (W hw 31 rfl) (notFace_of_selects (args := #[]) (mvT hZ (W hw 33 rfl))) (W hw 33 rfl) (W hw 32 rfl) (W hw 7 rfl) (W hw 34 rfl) (clu4 l Z a0 hw a1 cz vf a2 (BLO c0) (BHI c0) (BLO c1) (BHI c1) (BLO c2) (BHI c2) (BLO c3) (BHI c3) h0 n0 Z0 E_a1 F_value_a1 F_coder_a1 A_a2 O0 SS) e4 E_a1 rfl rfl pd_14 rfl d_prog_40_4_4 (by rw [hml]; rfl) rfl (by decide) (by decide) (Nat.le_of_ble_eq_true rfl) (by decide) (by decide) fun v5 T5 L5 X5 q5 => ?_
  obtain ⟨rfl, e5, rfl⟩ := q5
  replace X5 := own_px X5
  refine k_some K (w := (.int (4 : Int32))) ?_
  refine m_icmpN K X5.here hx hby (q := 10) d_prog_40_4_7 (tlt (by decide : (2 : Int32) < (4 : Int32))).2.1 rfl ?_
  refine m_aloadN K X5.here hx hby d_prog_40_4_10 rfl rfl rfl ?_
  refine m_iloadN K X5.here hx hby d_prog_40_4_11 rfl rfl ?_
  refine k_callV K X5 hx hby hZ a1 [(.int (2 : Int32))] [] hown (W hw 51 rfl) (W hw 52 rfl) (notFace_of_selects (args := #[]) (mvT hZ (W hw 54 rfl))) (W hw 54 rfl) (W hw 53 rfl) (W hw 7 rfl) (W hw 55 rfl) (ccu4_2 l Z a0 hw a1 cz vf a2 (BLO c0) (BHI c0) (BLO c1) (BHI c1) (BLO c2) (BHI c2) (BLO c3) (BHI c3) h0 n0 Z0 E_a1 F_value_a1 F_coder_a1 A_a2 O0 SS) e5 E_a1 rfl rfl pd_15 rfl d_prog_40_4_12 (by rw [hml]; rfl) rfl (by decide) (by decide) (Nat.le_of_ble_eq_true rfl) (by decide) (by decide) fun v6 T6 L6 X6 q6 => ?_
  obtain ⟨rfl, e6, rfl⟩ := q6
  replace X6 := own_px X6
  refine k_some K (w := (.int (GCH (BLO c2) (BHI c2)))) ?_
  refine m_sipush K X6.here hx hby (255 : Int32) d_prog_40_4_15 rfl rfl ?_
  refine m_icmpY K X6.here hx hby (q := 23) d_prog_40_4_18 (flt (own_rle c2 hch_2 hl_2)).2.2.2 (by decide) rfl ?_
  refine m_iinc K X6.here hx hby #[.val (.ref a1), .val (.int (3 : Int32))] d_prog_40_4_23 rfl rfl rfl ?_
  refine m_goto K X6.here hx hby (q := 2) d_prog_40_4_26 (by decide) rfl ?_
  refine m_iloadN K X6.here hx hby d_prog_40_4_2 rfl rfl ?_
  refine m_aloadN K X6.here hx hby d_prog_40_4_3 rfl rfl rfl ?_
  refine k_callV K X6 hx hby hZ a1 [] [(.int (3 : Int32))] hown (W hw 30 rfl) (W hw 31 rfl) (notFace_of_selects (args := #[]) (mvT hZ (W hw 33 rfl))) (W hw 33 rfl) (W hw 32 rfl) (W hw 7 rfl) (W hw 34 rfl) (clu4 l Z a0 hw a1 cz vf a2 (BLO c0) (BHI c0) (BLO c1) (BHI c1) (BLO c2) (BHI c2) (BLO c3) (BHI c3) h0 n0 Z0 E_a1 F_value_a1 F_coder_a1 A_a2 O0 SS) e6 E_a1 rfl rfl pd_14 rfl d_prog_40_4_4 (by rw [hml]; rfl) rfl (by decide) (by decide) (Nat.le_of_ble_eq_true rfl) (by decide) (by decide) fun v7 T7 L7 X7 q7 => ?_
  obtain ⟨rfl, e7, rfl⟩ := q7
  replace X7 := own_px X7
  refine k_some K (w := (.int (4 : Int32))) ?_
  refine m_icmpN K X7.here hx hby (q := 10) d_prog_40_4_7 (tlt (by decide : (3 : Int32) < (4 : Int32))).2.1 rfl ?_
  refine m_aloadN K X7.here hx hby d_prog_40_4_10 rfl rfl rfl ?_
  refine m_iloadN K X7.here hx hby d_prog_40_4_11 rfl rfl ?_
  refine k_callV K X7 hx hby hZ a1 [(.int (3 : Int32))] [] hown (W hw 51 rfl) (W hw 52 rfl) (notFace_of_selects (args := #[]) (mvT hZ (W hw 54 rfl))) (W hw 54 rfl) (W hw 53 rfl) (W hw 7 rfl) (W hw 55 rfl) (ccu4_3 l Z a0 hw a1 cz vf a2 (BLO c0) (BHI c0) (BLO c1) (BHI c1) (BLO c2) (BHI c2) (BLO c3) (BHI c3) h0 n0 Z0 E_a1 F_value_a1 F_coder_a1 A_a2 O0 SS) e7 E_a1 rfl rfl pd_15 rfl d_prog_40_4_12 (by rw [hml]; rfl) rfl (by decide) (by decide) (Nat.le_of_ble_eq_true rfl) (by decide) (by decide) fun v8 T8 L8 X8 q8 => ?_
  obtain ⟨rfl, e8, rfl⟩ := q8
  replace X8 := own_px X8
  refine k_some K (w := (.int (GCH (BLO c3) (BHI c3)))) ?_
  refine m_sipush K X8.here hx hby (255 : Int32) d_prog_40_4_15 rfl rfl ?_
  refine m_icmpN K X8.here hx hby (q := 21) d_prog_40_4_18 (tlt (own_rgt c3 hch_3 hg)).2.2.2 rfl ?_
  refine m_iconst K X8.here hx hby (0 : Int32) d_prog_40_4_21 rfl rfl ?_
  exact Go.retN X8 hx hby hlk hret (by simp) d_prog_40_4_22 (by decide) (by decide) (by decide) (⟨rfl, e8, rfl⟩)
def wdr_1 (p1 : Int32) : Int32 := ((p1.toUInt32 >>> ((16 : Int32) &&& 31).toUInt32).toInt32)
def wdr_2 (p1 : Int32) : Int32 := ((p1 &&& (511 : Int32)).toUInt32.toUInt16.toUInt32.toInt32)
def wdr_3 (p1 : Int32) : Int32 := ((p1 &&& (65535 : Int32)).toUInt32.toUInt16.toUInt32.toInt32)
def DRAW (p1 : Int32) : Int32 := (if ((wdr_1 p1) &&& (1 : Int32)) = (0 : Int32) then (wdr_2 p1) else (wdr_3 p1))
theorem d_method_3_0 : decode method_3_code 0 = .ok (.iload_n 0, 1) := by decide +kernel
theorem d_method_3_1 : decode method_3_code 1 = .ok (.bipush 16, 2) := by decide +kernel
theorem d_method_3_3 : decode method_3_code 3 = .ok (.iushr, 1) := by decide +kernel
theorem d_method_3_4 : decode method_3_code 4 = .ok (.iconst 1, 1) := by decide +kernel
theorem d_method_3_5 : decode method_3_code 5 = .ok (.iand, 1) := by decide +kernel
theorem d_method_3_6 : decode method_3_code 6 = .ok (.ifCond .ne 10, 3) := by decide +kernel
theorem d_method_3_9 : decode method_3_code 9 = .ok (.iload_n 0, 1) := by decide +kernel
theorem d_method_3_10 : decode method_3_code 10 = .ok (.sipush 511, 3) := by decide +kernel
theorem d_method_3_13 : decode method_3_code 13 = .ok (.iand, 1) := by decide +kernel
theorem d_method_3_14 : decode method_3_code 14 = .ok (.i2c, 1) := by decide +kernel
theorem d_method_3_15 : decode method_3_code 15 = .ok (.ireturn, 1) := by decide +kernel
theorem d_method_3_16 : decode method_3_code 16 = .ok (.iload_n 0, 1) := by decide +kernel
theorem d_method_3_17 : decode method_3_code 17 = .ok (.ldc 24, 2) := by decide +kernel
theorem d_method_3_19 : decode method_3_code 19 = .ok (.iand, 1) := by decide +kernel
theorem d_method_3_20 : decode method_3_code 20 = .ok (.i2c, 1) := by decide +kernel
theorem d_method_3_21 : decode method_3_code 21 = .ok (.ireturn, 1) := by decide +kernel
theorem pn_com_example_stamp2_stamp2_memory_FootprintIsLatin1PinLaw : plainName "com/example/stamp2/stamp2/memory/FootprintIsLatin1PinLaw" = true := by first | (simp [plainName, overriddenIn]; done) | decide +kernel
theorem efdr (m : MethodId) (x0 : Int32) : entryFrame m #[(.int x0)] 1 = mkF m 0 #[.val (.int x0)] [] := by first | (simp [entryFrame, mkF, argsToLocals, Value.category]; done) | rfl
set_option maxRecDepth 65536 in
set_option maxHeartbeats 40000000 in
theorem c_dr (l : Launch) (Z : State) (a0 : Array Value) (hw : ∀ d ∈ tables_1, d.before a0 Z = true) (p1 : Int32) (h0 : Heap) (n0 : Nat) (Z0 : n0 ≤ h0.size) :
    Con l Z (⟨"com/example/stamp2/stamp2/memory/FootprintIsLatin1PinLaw", "draw", "(I)C"⟩ : MethodName) method_3_code 1 (some .char) ({ frames := 0, cells := 0, slots := 0, locals := 0 } : Room) [] #[(.int p1)] h0 (fun v h L => v = some (.int (DRAW p1)) ∧ h = h0 ∧ L = []) := by
  refine Con.of (plainFor_of_name pn_com_example_stamp2_stamp2_memory_FootprintIsLatin1PinLaw) #[.val (.int p1)] (fun m => efdr m p1) ?_
  intro p e s m below meth c s₁ K hx hby hml hown hnm hret hlk hZ X0 e0
  have N0 := Fr.nil n0
  refine m_iloadN K X0.here hx hby d_method_3_0 rfl rfl ?_
  refine m_bipush K X0.here hx hby (16 : Int32) d_method_3_1 rfl rfl ?_
  refine m_iushr K X0.here hx hby (wdr_1 p1) d_method_3_3 rfl rfl ?_
  refine m_iconst K X0.here hx hby (1 : Int32) d_method_3_4 rfl rfl ?_
  refine m_iand K X0.here hx hby ((wdr_1 p1) &&& (1 : Int32)) d_method_3_5 rfl rfl ?_
  by_cases hc6_1 : ((wdr_1 p1) &&& (1 : Int32)) = (0 : Int32)
  · refine m_ifN K X0.here hx hby (q := 9) d_method_3_6 ((if0 _ _).trans (teq hc6_1).2) rfl ?_
    refine m_iloadN K X0.here hx hby d_method_3_9 rfl rfl ?_
    refine m_sipush K X0.here hx hby (511 : Int32) d_method_3_10 rfl rfl ?_
    refine m_iand K X0.here hx hby (p1 &&& (511 : Int32)) d_method_3_13 rfl rfl ?_
    refine m_i2c K X0.here hx hby (wdr_2 p1) d_method_3_14 rfl rfl ?_
    exact Go.retN X0 hx hby hlk hret (by simp) d_method_3_15 (by decide) (by decide) (own_nc _) (⟨congrArg (fun z => some (Value.int z)) (Eq.symm (by rw [DRAW, if_pos hc6_1])), e0, rfl⟩)
  · refine m_ifY K X0.here hx hby (q := 16) d_method_3_6 ((if0 _ _).trans (feq hc6_1).2) (by decide) rfl ?_
    refine m_iloadN K X0.here hx hby d_method_3_16 rfl rfl ?_
    refine m_ldc K X0 hx hby hZ hown (W hw 73 rfl) d_method_3_17 rfl ?_
    refine m_iand K X0.here hx hby (p1 &&& (65535 : Int32)) d_method_3_19 rfl rfl ?_
    refine m_i2c K X0.here hx hby (wdr_3 p1) d_method_3_20 rfl rfl ?_
    exact Go.retN X0 hx hby hlk hret (by simp) d_method_3_21 (by decide) (by decide) (own_nc _) (⟨congrArg (fun z => some (Value.int z)) (Eq.symm (by rw [DRAW, if_neg hc6_1])), e0, rfl⟩)
theorem own_dr (p : Int32) : nar .char (DRAW p) = DRAW p := by
  unfold DRAW
  repeat' split
  all_goals exact own_nc _
theorem own_len (p1 : Int32) : (p1 &&& (7 : Int32)) % (5 : Int32) = 0 ∨ (p1 &&& (7 : Int32)) % (5 : Int32) = 1 ∨ (p1 &&& (7 : Int32)) % (5 : Int32) = 2 ∨ (p1 &&& (7 : Int32)) % (5 : Int32) = 3 ∨ (p1 &&& (7 : Int32)) % (5 : Int32) = 4 := by
  have hm := c_mask p1 (7 : Int32) 3 (by decide) (by decide)
  have h0 : 0 ≤ (p1 &&& (7 : Int32)).toInt ∧ (p1 &&& (7 : Int32)).toInt < 8 := by omega
  generalize p1 &&& (7 : Int32) = y at h0
  obtain ⟨n, hn, rfl⟩ : ∃ n : Nat, n < 8 ∧ y = Int32.ofNat n := ⟨y.toInt.toNat, by omega, Int32.toInt_inj.mp (by rw [Int32.toInt_ofNat_small (by omega)]; omega)⟩
  have : ∀ n : Fin 8, (Int32.ofNat n.val) % (5 : Int32) = 0 ∨ (Int32.ofNat n.val) % (5 : Int32) = 1 ∨ (Int32.ofNat n.val) % (5 : Int32) = 2 ∨ (Int32.ofNat n.val) % (5 : Int32) = 3 ∨ (Int32.ofNat n.val) % (5 : Int32) = 4 := by decide +kernel
  exact this ⟨n, hn⟩
theorem pd_16 : parseMethodDescriptor "([C)V" = some ⟨[(.array .char)], none⟩ := by decide +kernel
theorem pd_17 : parseMethodDescriptor "(Ljava/lang/String;)Z" = some ⟨[(.object "java/lang/String")], some .boolean⟩ := by decide +kernel
theorem ef0 (m : MethodId) (x0 : Int32) (x1 : Int32) (x2 : Int32) (x3 : Int32) (x4 : Int32) : entryFrame m #[(.int x0), (.int x1), (.int x2), (.int x3), (.int x4)] maxLocals = mkF m 0 #[.val (.int x0), .val (.int x1), .val (.int x2), .val (.int x3), .val (.int x4), .unset, .unset, .unset, .unset, .unset, .unset, .unset] [] := by first | (simp [entryFrame, mkF, argsToLocals, Value.category, maxLocals]; done) | rfl
set_option maxRecDepth 65536 in
set_option maxHeartbeats 40000000 in
theorem law0 (l : Launch) (Z : State) (a0 : Array Value) (hw : ∀ d ∈ tables_1, d.before a0 Z = true) (ws : List Jvm.Cond) (p1 : Int32) (p2 : Int32) (p3 : Int32) (p4 : Int32) (p5 : Int32) (cz : Int32) (vf : Value) (h0 : Heap) (n0 : Nat) (Z0 : n0 ≤ h0.size) (O0 : Old Z n0 h0) (SS : SSt Z cz vf) (HH : Jvm.Lit.constHeld Z "java/lang/String" 7) (HCW : Jvm.Lit.compactW.before a0 Z = true) :
    ConW l Z x code maxLocals ret room_1 ws #[(.int p1), (.int p2), (.int p3), (.int p4), (.int p5)] h0 (fun v h L => v = some (.int 1) ∧ Fr n0 L) := by
  refine ConW.of (plainFor_of_name pn_com_example_stamp2_stamp2_memory_FootprintIsLatin1PinLaw) #[.val (.int p1), .val (.int p2), .val (.int p3), .val (.int p4), .val (.int p5), .unset, .unset, .unset, .unset, .unset, .unset, .unset] (fun m => ef0 m p1 p2 p3 p4 p5) ?_
  intro p e s m below meth c s₁ K hx hby hml hown hnm hret hlk hZ X0 e0 hs0 hI
  have N0 := Fr.nil n0
  refine m_iloadN K X0.here hx hby at_0 rfl rfl ?_
  refine m_bipush K X0.here hx hby (7 : Int32) at_1 rfl rfl ?_
  refine m_iand K X0.here hx hby (p1 &&& (7 : Int32)) at_3 rfl rfl ?_
  refine m_iconst K X0.here hx hby (5 : Int32) at_4 rfl rfl ?_
  refine m_irem K X0.here hx hby ((p1 &&& (7 : Int32)) % (5 : Int32)) at_5 (by decide) rfl rfl ?_
  refine m_istore K X0.here hx hby #[.val (.int p1), .val (.int p2), .val (.int p3), .val (.int p4), .val (.int p5), .val (.int ((p1 &&& (7 : Int32)) % (5 : Int32))), .unset, .unset, .unset, .unset, .unset, .unset] at_6 rfl rfl ?_
  refine m_iloadN K X0.here hx hby at_8 rfl rfl ?_
  refine k_callS K X0 hx hby hZ [(.int p2)] [] hown (W hw 0 rfl) (W hw 1 rfl) (W hw 2 rfl) (W hw 3 rfl) (c_dr l Z a0 hw p2 h0 n0 Z0) e0 rfl rfl pd_15 rfl at_9 (by rw [hml]; rfl) rfl (by decide) (by decide) (Nat.le_of_ble_eq_true rfl) (by decide) (by decide) fun v1 T1 L1 X1 q1 => ?_
  obtain ⟨rfl, e1, rfl⟩ := q1
  replace X1 := own_px X1
  refine k_some K (w := (.int (DRAW p2))) ?_
  refine m_istore K X1.here hx hby #[.val (.int p1), .val (.int p2), .val (.int p3), .val (.int p4), .val (.int p5), .val (.int ((p1 &&& (7 : Int32)) % (5 : Int32))), .val (.int (DRAW p2)), .unset, .unset, .unset, .unset, .unset] at_12 rfl rfl ?_
  refine m_iloadN K X1.here hx hby at_14 rfl rfl ?_
  refine k_callS K X1 hx hby hZ [(.int p3)] [] hown (W hw 0 rfl) (W hw 1 rfl) (W hw 2 rfl) (W hw 3 rfl) (c_dr l Z a0 hw p3 h0 n0 Z0) e1 rfl rfl pd_15 rfl at_15 (by rw [hml]; rfl) rfl (by decide) (by decide) (Nat.le_of_ble_eq_true rfl) (by decide) (by decide) fun v2 T2 L2 X2 q2 => ?_
  obtain ⟨rfl, e2, rfl⟩ := q2
  replace X2 := own_px X2
  refine k_some K (w := (.int (DRAW p3))) ?_
  refine m_istore K X2.here hx hby #[.val (.int p1), .val (.int p2), .val (.int p3), .val (.int p4), .val (.int p5), .val (.int ((p1 &&& (7 : Int32)) % (5 : Int32))), .val (.int (DRAW p2)), .val (.int (DRAW p3)), .unset, .unset, .unset, .unset] at_18 rfl rfl ?_
  refine m_iloadN K X2.here hx hby at_20 rfl rfl ?_
  refine k_callS K X2 hx hby hZ [(.int p4)] [] hown (W hw 0 rfl) (W hw 1 rfl) (W hw 2 rfl) (W hw 3 rfl) (c_dr l Z a0 hw p4 h0 n0 Z0) e2 rfl rfl pd_15 rfl at_21 (by rw [hml]; rfl) rfl (by decide) (by decide) (Nat.le_of_ble_eq_true rfl) (by decide) (by decide) fun v3 T3 L3 X3 q3 => ?_
  obtain ⟨rfl, e3, rfl⟩ := q3
  replace X3 := own_px X3
  refine k_some K (w := (.int (DRAW p4))) ?_
  refine m_istore K X3.here hx hby #[.val (.int p1), .val (.int p2), .val (.int p3), .val (.int p4), .val (.int p5), .val (.int ((p1 &&& (7 : Int32)) % (5 : Int32))), .val (.int (DRAW p2)), .val (.int (DRAW p3)), .val (.int (DRAW p4)), .unset, .unset, .unset] at_24 rfl rfl ?_
  refine m_iload K X3.here hx hby at_26 rfl rfl ?_
  refine k_callS K X3 hx hby hZ [(.int p5)] [] hown (W hw 0 rfl) (W hw 1 rfl) (W hw 2 rfl) (W hw 3 rfl) (c_dr l Z a0 hw p5 h0 n0 Z0) e3 rfl rfl pd_15 rfl at_28 (by rw [hml]; rfl) rfl (by decide) (by decide) (Nat.le_of_ble_eq_true rfl) (by decide) (by decide) fun v4 T4 L4 X4 q4 => ?_
  obtain ⟨rfl, e4, rfl⟩ := q4
  replace X4 := own_px X4
  refine k_some K (w := (.int (DRAW p5))) ?_
  refine m_istore K X4.here hx hby #[.val (.int p1), .val (.int p2), .val (.int p3), .val (.int p4), .val (.int p5), .val (.int ((p1 &&& (7 : Int32)) % (5 : Int32))), .val (.int (DRAW p2)), .val (.int (DRAW p3)), .val (.int (DRAW p4)), .val (.int (DRAW p5)), .unset, .unset] at_31 rfl rfl ?_
  rcases own_len p1 with hlen | hlen | hlen | hlen | hlen
  · rw [show ((p1 &&& (7 : Int32)) % (5 : Int32)) = (0 : Int32) from hlen]
    refine m_iload K X4.here hx hby at_33 rfl rfl ?_
    refine m_ifN K X4.here hx hby (q := 38) at_35 ((if0 _ _).trans (teq (by decide : (0 : Int32) = (0 : Int32))).2) rfl ?_
    refine m_iconst K X4.here hx hby (0 : Int32) at_38 rfl rfl ?_
    refine k_newP K X4 hx hby hZ 0 0 (W hw 4 rfl) e4 at_39 rfl (by decide) rfl (by decide) (by decide) (by decide) (by decide) fun T5 h5 b5 X5 e5 E5 g5 V_b5 => ?_
    have sz_b5 : h0.size ≤ b5 := Nat.le_trans (Nat.le_refl _) (Nat.le_of_eq g5.symm)
    have g_b5 : n0 ≤ b5 := Nat.le_trans Z0 sz_b5
    replace V_b5 : Av Z h5 b5 .char [] := V_b5
    refine m_astore K X5.here hx hby #[.val (.int p1), .val (.int p2), .val (.int p3), .val (.int p4), .val (.int p5), .val (.int (0 : Int32)), .val (.int (DRAW p2)), .val (.int (DRAW p3)), .val (.int (DRAW p4)), .val (.int (DRAW p5)), .val (.ref b5), .unset] at_41 rfl rfl rfl ?_
    refine m_goto K X5.here hx hby (q := 143) at_43 (by decide) rfl ?_
    refine m_iload K X5.here hx hby at_143 rfl rfl ?_
    refine m_iconst K X5.here hx hby (1 : Int32) at_145 rfl rfl ?_
    refine m_icmpY K X5.here hx hby (q := 157) at_146 (tlt (by decide : (0 : Int32) < (1 : Int32))).1 (by decide) rfl ?_
    refine m_iload K X5.here hx hby at_157 rfl rfl ?_
    refine m_iconst K X5.here hx hby (2 : Int32) at_159 rfl rfl ?_
    refine m_icmpY K X5.here hx hby (q := 171) at_160 (tlt (by decide : (0 : Int32) < (2 : Int32))).1 (by decide) rfl ?_
    refine m_iload K X5.here hx hby at_171 rfl rfl ?_
    refine m_iconst K X5.here hx hby (3 : Int32) at_173 rfl rfl ?_
    refine m_icmpY K X5.here hx hby (q := 185) at_174 (tlt (by decide : (0 : Int32) < (3 : Int32))).1 (by decide) rfl ?_
    refine m_iload K X5.here hx hby at_185 rfl rfl ?_
    refine m_iconst K X5.here hx hby (4 : Int32) at_187 rfl rfl ?_
    refine m_icmpY K X5.here hx hby (q := 199) at_188 (tlt (by decide : (0 : Int32) < (4 : Int32))).1 (by decide) rfl ?_
    refine m_iconst K X5.here hx hby (1 : Int32) at_199 rfl rfl ?_
    refine m_goto K X5.here hx hby (q := 204) at_200 (by decide) rfl ?_
    refine m_istore K X5.here hx hby #[.val (.int p1), .val (.int p2), .val (.int p3), .val (.int p4), .val (.int p5), .val (.int (0 : Int32)), .val (.int (DRAW p2)), .val (.int (DRAW p3)), .val (.int (DRAW p4)), .val (.int (DRAW p5)), .val (.ref b5), .val (.int (1 : Int32))] at_204 rfl rfl ?_
    refine k_newO K X5 hx hby hZ hown (W hw 5 rfl) (W hw 6 rfl) (W hw 7 rfl) e5 at_206 rfl (by decide) (by decide) fun T6 h6 b6 X6 e6 E6 g6 A6 D6 => ?_
    have sz_b6 : h0.size ≤ b6 := Nat.le_trans (Nat.le_trans (Nat.le_refl _) E5.1) (Nat.le_of_eq g6.symm)
    have g_b6 : n0 ≤ b6 := Nat.le_trans Z0 sz_b6
    have F_value_b6 : Fld Z h6 b6 "java/lang/String" "value" "[B" .null := D6 (Or.inr (W hw 20 rfl)) (ty := (.array .byte)) (by decide)
    have F_coder_b6 : Fld Z h6 b6 "java/lang/String" "coder" "B" (.int (0 : Int32)) := D6 (Or.inr (W hw 21 rfl)) (ty := .byte) (by decide)
    refine m_dup K X6.here hx hby at_209 rfl rfl ?_
    refine m_aload K X6.here hx hby at_210 rfl rfl rfl ?_
    refine k_callPW K X6 hx hby hZ hI b6 [(.ref b5)] [(.ref b6)] hown (W hw 8 rfl) (W hw 9 rfl) (W hw 7 rfl) (W hw 10 rfl) rfl (csjw l Z a0 hw b6 b5 h6 n0 (Nat.le_trans Z0 (Nat.le_trans (Nat.le_trans (Nat.le_refl _) E5.1) E6.1)) A6 F_value_b6 F_coder_b6 (V_b5.ext E6) ((O0.ext E5).ext E6) g_b6 HH HCW) e6 rfl rfl pd_16 rfl at_212 (by rw [hml]; rfl) rfl (by decide) (by decide) (Nat.le_of_ble_eq_true rfl) (by decide) (by decide) fun v7 T7 L7 X7 q7 hS7 hZ hown => ?_
    obtain ⟨bb_7, rfl, Nq7, K7, Fp7_0, Fp7_1, Ap7_0⟩ := q7
    have N7 := Fr.app N0 Nq7
    refine k_none K ?_
    refine k_callS K X7 hx hby hZ [(.ref b6)] [] hown (W hw 26 rfl) (W hw 27 rfl) (W hw 28 rfl) (W hw 29 rfl) (cfl0 l Z a0 hw b6 cz vf bb_7 T7.heap n0 (Nat.le_trans Z0 (Nat.le_trans (Nat.le_trans (Nat.le_trans (Nat.le_refl _) E5.1) E6.1) K7.1)) (A6.keep K7) Fp7_0 Fp7_1 Ap7_0 (((O0.ext E5).ext E6).keep K7 (allS g_b6 all0)) SS) rfl rfl rfl pd_17 rfl at_215 (by rw [hml]; rfl) rfl (by decide) (by decide) (Nat.le_of_ble_eq_true rfl) (by decide) (by decide) fun v8 T8 L8 X8 q8 => ?_
    obtain ⟨rfl, e8, rfl⟩ := q8
    replace X8 := own_px X8
    refine k_some K (w := (.int (1 : Int32))) ?_
    refine m_iload K X8.here hx hby at_218 rfl rfl ?_
    refine m_icmpN K X8.here hx hby (q := 223) at_220 (teq (by decide : (1 : Int32) = (1 : Int32))).2 rfl ?_
    refine m_iconst K X8.here hx hby (1 : Int32) at_223 rfl rfl ?_
    refine m_goto K X8.here hx hby (q := 228) at_224 (by decide) rfl ?_
    exact GoW.of_since hS7 (Go.retN X8 hx hby hlk hret (by simp) at_228 (by decide) (by decide) (by decide) (⟨(⟨rfl, N7⟩), (by rw [e8]; exact (Nat.le_refl _))⟩))
  · rw [show ((p1 &&& (7 : Int32)) % (5 : Int32)) = (1 : Int32) from hlen]
    refine m_iload K X4.here hx hby at_33 rfl rfl ?_
    refine m_ifY K X4.here hx hby (q := 46) at_35 ((if0 _ _).trans (feq (by decide : ¬ ((1 : Int32) = (0 : Int32)))).2) (by decide) rfl ?_
    refine m_iload K X4.here hx hby at_46 rfl rfl ?_
    refine m_iconst K X4.here hx hby (1 : Int32) at_48 rfl rfl ?_
    refine m_icmpN K X4.here hx hby (q := 52) at_49 (teq (by decide : (1 : Int32) = (1 : Int32))).2 rfl ?_
    refine m_iconst K X4.here hx hby (1 : Int32) at_52 rfl rfl ?_
    refine k_newP K X4 hx hby hZ 1 1 (W hw 4 rfl) e4 at_53 rfl (by decide) rfl (by decide) (by decide) (by decide) (by decide) fun T9 h9 b9 X9 e9 E9 g9 V_b9 => ?_
    have sz_b9 : h0.size ≤ b9 := Nat.le_trans (Nat.le_refl _) (Nat.le_of_eq g9.symm)
    have g_b9 : n0 ≤ b9 := Nat.le_trans Z0 sz_b9
    replace V_b9 : Av Z h9 b9 .char [(.int (0 : Int32))] := V_b9
    refine m_dup K X9.here hx hby at_55 rfl rfl ?_
    refine m_iconst K X9.here hx hby (0 : Int32) at_56 rfl rfl ?_
    refine m_iload K X9.here hx hby at_57 rfl rfl ?_
    refine k_stC K X9 hx hby hZ e9 V_b9 (by decide) (Nat.le_of_ble_eq_true rfl) at_59 rfl fun T10 h10 X10 e10 W10 V10 => ?_
    replace V10 : Av Z h10 b9 .char [(.int (DRAW p2))] := by have q := V10; rw [show nar .char (DRAW p2) = (DRAW p2) from own_dr p2] at q; exact q
    have N10 := Fr.snoc X10 N0 g_b9
    refine m_astore K X10.here hx hby #[.val (.int p1), .val (.int p2), .val (.int p3), .val (.int p4), .val (.int p5), .val (.int (1 : Int32)), .val (.int (DRAW p2)), .val (.int (DRAW p3)), .val (.int (DRAW p4)), .val (.int (DRAW p5)), .val (.ref b9), .unset] at_60 rfl rfl rfl ?_
    refine m_goto K X10.here hx hby (q := 143) at_62 (by decide) rfl ?_
    refine m_iload K X10.here hx hby at_143 rfl rfl ?_
    refine m_iconst K X10.here hx hby (1 : Int32) at_145 rfl rfl ?_
    refine m_icmpN K X10.here hx hby (q := 149) at_146 (flt (by decide : ¬ ((1 : Int32) < (1 : Int32)))).1 rfl ?_
    refine m_iload K X10.here hx hby at_149 rfl rfl ?_
    refine m_sipush K X10.here hx hby (255 : Int32) at_151 rfl rfl ?_
    by_cases hc154_11 : (255 : Int32) < (DRAW p2)
    · refine m_icmpY K X10.here hx hby (q := 203) at_154 (tlt hc154_11).2.2.1 (by decide) rfl ?_
      refine m_iconst K X10.here hx hby (0 : Int32) at_203 rfl rfl ?_
      refine m_istore K X10.here hx hby #[.val (.int p1), .val (.int p2), .val (.int p3), .val (.int p4), .val (.int p5), .val (.int (1 : Int32)), .val (.int (DRAW p2)), .val (.int (DRAW p3)), .val (.int (DRAW p4)), .val (.int (DRAW p5)), .val (.ref b9), .val (.int (0 : Int32))] at_204 rfl rfl ?_
      refine k_newO K X10 hx hby hZ hown (W hw 5 rfl) (W hw 6 rfl) (W hw 7 rfl) e10 at_206 rfl (by decide) (by decide) fun T12 h12 b12 X12 e12 E12 g12 A12 D12 => ?_
      have sz_b12 : h0.size ≤ b12 := Nat.le_trans (Nat.le_trans (Nat.le_trans (Nat.le_refl _) E9.1) (Keep.of_wr W10).1) (Nat.le_of_eq g12.symm)
      have g_b12 : n0 ≤ b12 := Nat.le_trans Z0 sz_b12
      have F_value_b12 : Fld Z h12 b12 "java/lang/String" "value" "[B" .null := D12 (Or.inr (W hw 20 rfl)) (ty := (.array .byte)) (by decide)
      have F_coder_b12 : Fld Z h12 b12 "java/lang/String" "coder" "B" (.int (0 : Int32)) := D12 (Or.inr (W hw 21 rfl)) (ty := .byte) (by decide)
      refine m_dup K X12.here hx hby at_209 rfl rfl ?_
      refine m_aload K X12.here hx hby at_210 rfl rfl rfl ?_
      refine k_callP K X12 hx hby hZ b12 [(.ref b9)] [(.ref b12)] hown (W hw 8 rfl) (W hw 9 rfl) (W hw 7 rfl) (W hw 10 rfl) rfl (csj1_0 l Z a0 hw b12 b9 cz vf (DRAW p2) h12 n0 (Nat.le_trans Z0 (Nat.le_trans (Nat.le_trans (Nat.le_trans (Nat.le_refl _) E9.1) (Keep.of_wr W10).1) E12.1)) A12 F_value_b12 F_coder_b12 (V10.ext E12) (((O0.ext E9).wr W10 g_b9).ext E12) g_b12 SS hc154_11 (own_dr p2)) e12 rfl rfl pd_16 rfl at_212 (by rw [hml]; rfl) rfl (by decide) (by decide) (Nat.le_of_ble_eq_true rfl) (by decide) (by decide) fun v13 T13 L13 X13 q13 => ?_
      obtain ⟨b13_bv, rfl, Nq13, K13, sq_b13_bv, Fp13_0, Fp13_1, Ap13_0⟩ := q13
      have N13 := Fr.app N10 Nq13
      have sz_b13_bv : h0.size ≤ b13_bv := Nat.le_trans (Nat.le_trans (Nat.le_trans (Nat.le_trans (Nat.le_refl _) E9.1) (Keep.of_wr W10).1) E12.1) sq_b13_bv
      have g_b13_bv : n0 ≤ b13_bv := Nat.le_trans Z0 sz_b13_bv
      refine k_none K ?_
      refine k_callS K X13 hx hby hZ [(.ref b12)] [] hown (W hw 26 rfl) (W hw 27 rfl) (W hw 28 rfl) (W hw 29 rfl) (cfl1_0 l Z a0 hw b12 cz vf b13_bv (DRAW p2) T13.heap n0 (Nat.le_trans Z0 (Nat.le_trans (Nat.le_trans (Nat.le_trans (Nat.le_trans (Nat.le_refl _) E9.1) (Keep.of_wr W10).1) E12.1) K13.1)) (A12.keep K13) Fp13_0 Fp13_1 Ap13_0 ((((O0.ext E9).wr W10 g_b9).ext E12).keep K13 (allS g_b12 all0)) SS hc154_11 (own_dr p2)) rfl rfl rfl pd_17 rfl at_215 (by rw [hml]; rfl) rfl (by decide) (by decide) (Nat.le_of_ble_eq_true rfl) (by decide) (by decide) fun v14 T14 L14 X14 q14 => ?_
      obtain ⟨rfl, e14, rfl⟩ := q14
      replace X14 := own_px X14
      refine k_some K (w := (.int (0 : Int32))) ?_
      refine m_iload K X14.here hx hby at_218 rfl rfl ?_
      refine m_icmpN K X14.here hx hby (q := 223) at_220 (teq (by decide : (0 : Int32) = (0 : Int32))).2 rfl ?_
      refine m_iconst K X14.here hx hby (1 : Int32) at_223 rfl rfl ?_
      refine m_goto K X14.here hx hby (q := 228) at_224 (by decide) rfl ?_
      exact GoW.of_go (Go.retN X14 hx hby hlk hret (by simp) at_228 (by decide) (by decide) (by decide) (⟨rfl, N13⟩))
    · refine m_icmpN K X10.here hx hby (q := 157) at_154 (flt hc154_11).2.2.1 rfl ?_
      refine m_iload K X10.here hx hby at_157 rfl rfl ?_
      refine m_iconst K X10.here hx hby (2 : Int32) at_159 rfl rfl ?_
      refine m_icmpY K X10.here hx hby (q := 171) at_160 (tlt (by decide : (1 : Int32) < (2 : Int32))).1 (by decide) rfl ?_
      refine m_iload K X10.here hx hby at_171 rfl rfl ?_
      refine m_iconst K X10.here hx hby (3 : Int32) at_173 rfl rfl ?_
      refine m_icmpY K X10.here hx hby (q := 185) at_174 (tlt (by decide : (1 : Int32) < (3 : Int32))).1 (by decide) rfl ?_
      refine m_iload K X10.here hx hby at_185 rfl rfl ?_
      refine m_iconst K X10.here hx hby (4 : Int32) at_187 rfl rfl ?_
      refine m_icmpY K X10.here hx hby (q := 199) at_188 (tlt (by decide : (1 : Int32) < (4 : Int32))).1 (by decide) rfl ?_
      refine m_iconst K X10.here hx hby (1 : Int32) at_199 rfl rfl ?_
      refine m_goto K X10.here hx hby (q := 204) at_200 (by decide) rfl ?_
      refine m_istore K X10.here hx hby #[.val (.int p1), .val (.int p2), .val (.int p3), .val (.int p4), .val (.int p5), .val (.int (1 : Int32)), .val (.int (DRAW p2)), .val (.int (DRAW p3)), .val (.int (DRAW p4)), .val (.int (DRAW p5)), .val (.ref b9), .val (.int (1 : Int32))] at_204 rfl rfl ?_
      refine k_newO K X10 hx hby hZ hown (W hw 5 rfl) (W hw 6 rfl) (W hw 7 rfl) e10 at_206 rfl (by decide) (by decide) fun T15 h15 b15 X15 e15 E15 g15 A15 D15 => ?_
      have sz_b15 : h0.size ≤ b15 := Nat.le_trans (Nat.le_trans (Nat.le_trans (Nat.le_refl _) E9.1) (Keep.of_wr W10).1) (Nat.le_of_eq g15.symm)
      have g_b15 : n0 ≤ b15 := Nat.le_trans Z0 sz_b15
      have F_value_b15 : Fld Z h15 b15 "java/lang/String" "value" "[B" .null := D15 (Or.inr (W hw 20 rfl)) (ty := (.array .byte)) (by decide)
      have F_coder_b15 : Fld Z h15 b15 "java/lang/String" "coder" "B" (.int (0 : Int32)) := D15 (Or.inr (W hw 21 rfl)) (ty := .byte) (by decide)
      refine m_dup K X15.here hx hby at_209 rfl rfl ?_
      refine m_aload K X15.here hx hby at_210 rfl rfl rfl ?_
      refine k_callP K X15 hx hby hZ b15 [(.ref b9)] [(.ref b15)] hown (W hw 8 rfl) (W hw 9 rfl) (W hw 7 rfl) (W hw 10 rfl) rfl (csj1_1 l Z a0 hw b15 b9 cz vf (DRAW p2) h15 n0 (Nat.le_trans Z0 (Nat.le_trans (Nat.le_trans (Nat.le_trans (Nat.le_refl _) E9.1) (Keep.of_wr W10).1) E15.1)) A15 F_value_b15 F_coder_b15 (V10.ext E15) (((O0.ext E9).wr W10 g_b9).ext E15) g_b15 SS hc154_11) e15 rfl rfl pd_16 rfl at_212 (by rw [hml]; rfl) rfl (by decide) (by decide) (Nat.le_of_ble_eq_true rfl) (by decide) (by decide) fun v16 T16 L16 X16 q16 => ?_
      obtain ⟨b16_bv, rfl, Nq16, K16, sq_b16_bv, Fp16_0, Fp16_1, Ap16_0⟩ := q16
      have N16 := Fr.app N10 Nq16
      have sz_b16_bv : h0.size ≤ b16_bv := Nat.le_trans (Nat.le_trans (Nat.le_trans (Nat.le_trans (Nat.le_refl _) E9.1) (Keep.of_wr W10).1) E15.1) sq_b16_bv
      have g_b16_bv : n0 ≤ b16_bv := Nat.le_trans Z0 sz_b16_bv
      refine k_none K ?_
      refine k_callS K X16 hx hby hZ [(.ref b15)] [] hown (W hw 26 rfl) (W hw 27 rfl) (W hw 28 rfl) (W hw 29 rfl) (cfl1 l Z a0 hw b15 cz vf b16_bv (nar .byte ((DRAW p2).toInt8.toInt32)) T16.heap n0 (Nat.le_trans Z0 (Nat.le_trans (Nat.le_trans (Nat.le_trans (Nat.le_trans (Nat.le_refl _) E9.1) (Keep.of_wr W10).1) E15.1) K16.1)) (A15.keep K16) Fp16_0 Fp16_1 Ap16_0 ((((O0.ext E9).wr W10 g_b9).ext E15).keep K16 (allS g_b15 all0)) SS) rfl rfl rfl pd_17 rfl at_215 (by rw [hml]; rfl) rfl (by decide) (by decide) (Nat.le_of_ble_eq_true rfl) (by decide) (by decide) fun v17 T17 L17 X17 q17 => ?_
      obtain ⟨rfl, e17, rfl⟩ := q17
      replace X17 := own_px X17
      refine k_some K (w := (.int (1 : Int32))) ?_
      refine m_iload K X17.here hx hby at_218 rfl rfl ?_
      refine m_icmpN K X17.here hx hby (q := 223) at_220 (teq (by decide : (1 : Int32) = (1 : Int32))).2 rfl ?_
      refine m_iconst K X17.here hx hby (1 : Int32) at_223 rfl rfl ?_
      refine m_goto K X17.here hx hby (q := 228) at_224 (by decide) rfl ?_
      exact GoW.of_go (Go.retN X17 hx hby hlk hret (by simp) at_228 (by decide) (by decide) (by decide) (⟨rfl, N16⟩))
  · rw [show ((p1 &&& (7 : Int32)) % (5 : Int32)) = (2 : Int32) from hlen]
    refine m_iload K X4.here hx hby at_33 rfl rfl ?_
    refine m_ifY K X4.here hx hby (q := 46) at_35 ((if0 _ _).trans (feq (by decide : ¬ ((2 : Int32) = (0 : Int32)))).2) (by decide) rfl ?_
    refine m_iload K X4.here hx hby at_46 rfl rfl ?_
    refine m_iconst K X4.here hx hby (1 : Int32) at_48 rfl rfl ?_
    refine m_icmpY K X4.here hx hby (q := 65) at_49 (feq (by decide : ¬ ((2 : Int32) = (1 : Int32)))).2 (by decide) rfl ?_
    refine m_iload K X4.here hx hby at_65 rfl rfl ?_
    refine m_iconst K X4.here hx hby (2 : Int32) at_67 rfl rfl ?_
    refine m_icmpN K X4.here hx hby (q := 71) at_68 (teq (by decide : (2 : Int32) = (2 : Int32))).2 rfl ?_
    refine m_iconst K X4.here hx hby (2 : Int32) at_71 rfl rfl ?_
    refine k_newP K X4 hx hby hZ 2 2 (W hw 4 rfl) e4 at_72 rfl (by decide) rfl (by decide) (by decide) (by decide) (by decide) fun T18 h18 b18 X18 e18 E18 g18 V_b18 => ?_
    have sz_b18 : h0.size ≤ b18 := Nat.le_trans (Nat.le_refl _) (Nat.le_of_eq g18.symm)
    have g_b18 : n0 ≤ b18 := Nat.le_trans Z0 sz_b18
    replace V_b18 : Av Z h18 b18 .char [(.int (0 : Int32)), (.int (0 : Int32))] := V_b18
    refine m_dup K X18.here hx hby at_74 rfl rfl ?_
    refine m_iconst K X18.here hx hby (0 : Int32) at_75 rfl rfl ?_
    refine m_iload K X18.here hx hby at_76 rfl rfl ?_
    refine k_stC K X18 hx hby hZ e18 V_b18 (by decide) (Nat.le_of_ble_eq_true rfl) at_78 rfl fun T19 h19 X19 e19 W19 V19 => ?_
    replace V19 : Av Z h19 b18 .char [(.int (DRAW p2)), (.int (0 : Int32))] := by have q := V19; rw [show nar .char (DRAW p2) = (DRAW p2) from own_dr p2] at q; exact q
    have N19 := Fr.snoc X19 N0 g_b18
    refine m_dup K X19.here hx hby at_79 rfl rfl ?_
    refine m_iconst K X19.here hx hby (1 : Int32) at_80 rfl rfl ?_
    refine m_iload K X19.here hx hby at_81 rfl rfl ?_
    refine k_stC K X19 hx hby hZ e19 V19 (by decide) (Nat.le_of_ble_eq_true rfl) at_83 rfl fun T20 h20 X20 e20 W20 V20 => ?_
    replace V20 : Av Z h20 b18 .char [(.int (DRAW p2)), (.int (DRAW p3))] := by have q := V20; rw [show nar .char (DRAW p3) = (DRAW p3) from own_dr p3] at q; exact q
    have N20 := Fr.snoc X20 N19 g_b18
    refine m_astore K X20.here hx hby #[.val (.int p1), .val (.int p2), .val (.int p3), .val (.int p4), .val (.int p5), .val (.int (2 : Int32)), .val (.int (DRAW p2)), .val (.int (DRAW p3)), .val (.int (DRAW p4)), .val (.int (DRAW p5)), .val (.ref b18), .unset] at_84 rfl rfl rfl ?_
    refine m_goto K X20.here hx hby (q := 143) at_86 (by decide) rfl ?_
    refine m_iload K X20.here hx hby at_143 rfl rfl ?_
    refine m_iconst K X20.here hx hby (1 : Int32) at_145 rfl rfl ?_
    refine m_icmpN K X20.here hx hby (q := 149) at_146 (flt (by decide : ¬ ((2 : Int32) < (1 : Int32)))).1 rfl ?_
    refine m_iload K X20.here hx hby at_149 rfl rfl ?_
    refine m_sipush K X20.here hx hby (255 : Int32) at_151 rfl rfl ?_
    by_cases hc154_21 : (255 : Int32) < (DRAW p2)
    · refine m_icmpY K X20.here hx hby (q := 203) at_154 (tlt hc154_21).2.2.1 (by decide) rfl ?_
      refine m_iconst K X20.here hx hby (0 : Int32) at_203 rfl rfl ?_
      refine m_istore K X20.here hx hby #[.val (.int p1), .val (.int p2), .val (.int p3), .val (.int p4), .val (.int p5), .val (.int (2 : Int32)), .val (.int (DRAW p2)), .val (.int (DRAW p3)), .val (.int (DRAW p4)), .val (.int (DRAW p5)), .val (.ref b18), .val (.int (0 : Int32))] at_204 rfl rfl ?_
      refine k_newO K X20 hx hby hZ hown (W hw 5 rfl) (W hw 6 rfl) (W hw 7 rfl) e20 at_206 rfl (by decide) (by decide) fun T22 h22 b22 X22 e22 E22 g22 A22 D22 => ?_
      have sz_b22 : h0.size ≤ b22 := Nat.le_trans (Nat.le_trans (Nat.le_trans (Nat.le_trans (Nat.le_refl _) E18.1) (Keep.of_wr W19).1) (Keep.of_wr W20).1) (Nat.le_of_eq g22.symm)
      have g_b22 : n0 ≤ b22 := Nat.le_trans Z0 sz_b22
      have F_value_b22 : Fld Z h22 b22 "java/lang/String" "value" "[B" .null := D22 (Or.inr (W hw 20 rfl)) (ty := (.array .byte)) (by decide)
      have F_coder_b22 : Fld Z h22 b22 "java/lang/String" "coder" "B" (.int (0 : Int32)) := D22 (Or.inr (W hw 21 rfl)) (ty := .byte) (by decide)
      refine m_dup K X22.here hx hby at_209 rfl rfl ?_
      refine m_aload K X22.here hx hby at_210 rfl rfl rfl ?_
      refine k_callP K X22 hx hby hZ b22 [(.ref b18)] [(.ref b22)] hown (W hw 8 rfl) (W hw 9 rfl) (W hw 7 rfl) (W hw 10 rfl) rfl (csj2_0 l Z a0 hw b22 b18 cz vf (DRAW p2) (DRAW p3) h22 n0 (Nat.le_trans Z0 (Nat.le_trans (Nat.le_trans (Nat.le_trans (Nat.le_trans (Nat.le_refl _) E18.1) (Keep.of_wr W19).1) (Keep.of_wr W20).1) E22.1)) A22 F_value_b22 F_coder_b22 (V20.ext E22) ((((O0.ext E18).wr W19 g_b18).wr W20 g_b18).ext E22) g_b22 SS hc154_21 (own_dr p2) (own_dr p3)) e22 rfl rfl pd_16 rfl at_212 (by rw [hml]; rfl) rfl (by decide) (by decide) (Nat.le_of_ble_eq_true rfl) (by decide) (by decide) fun v23 T23 L23 X23 q23 => ?_
      obtain ⟨b23_bv, rfl, Nq23, K23, sq_b23_bv, Fp23_0, Fp23_1, Ap23_0⟩ := q23
      have N23 := Fr.app N20 Nq23
      have sz_b23_bv : h0.size ≤ b23_bv := Nat.le_trans (Nat.le_trans (Nat.le_trans (Nat.le_trans (Nat.le_trans (Nat.le_refl _) E18.1) (Keep.of_wr W19).1) (Keep.of_wr W20).1) E22.1) sq_b23_bv
      have g_b23_bv : n0 ≤ b23_bv := Nat.le_trans Z0 sz_b23_bv
      refine k_none K ?_
      refine k_callS K X23 hx hby hZ [(.ref b22)] [] hown (W hw 26 rfl) (W hw 27 rfl) (W hw 28 rfl) (W hw 29 rfl) (cfl2_0 l Z a0 hw b22 cz vf b23_bv (DRAW p2) (DRAW p3) T23.heap n0 (Nat.le_trans Z0 (Nat.le_trans (Nat.le_trans (Nat.le_trans (Nat.le_trans (Nat.le_trans (Nat.le_refl _) E18.1) (Keep.of_wr W19).1) (Keep.of_wr W20).1) E22.1) K23.1)) (A22.keep K23) Fp23_0 Fp23_1 Ap23_0 (((((O0.ext E18).wr W19 g_b18).wr W20 g_b18).ext E22).keep K23 (allS g_b22 all0)) SS hc154_21 (own_dr p2) (own_dr p3)) rfl rfl rfl pd_17 rfl at_215 (by rw [hml]; rfl) rfl (by decide) (by decide) (Nat.le_of_ble_eq_true rfl) (by decide) (by decide) fun v24 T24 L24 X24 q24 => ?_
      obtain ⟨rfl, e24, rfl⟩ := q24
      replace X24 := own_px X24
      refine k_some K (w := (.int (0 : Int32))) ?_
      refine m_iload K X24.here hx hby at_218 rfl rfl ?_
      refine m_icmpN K X24.here hx hby (q := 223) at_220 (teq (by decide : (0 : Int32) = (0 : Int32))).2 rfl ?_
      refine m_iconst K X24.here hx hby (1 : Int32) at_223 rfl rfl ?_
      refine m_goto K X24.here hx hby (q := 228) at_224 (by decide) rfl ?_
      exact GoW.of_go (Go.retN X24 hx hby hlk hret (by simp) at_228 (by decide) (by decide) (by decide) (⟨rfl, N23⟩))
    · refine m_icmpN K X20.here hx hby (q := 157) at_154 (flt hc154_21).2.2.1 rfl ?_
      refine m_iload K X20.here hx hby at_157 rfl rfl ?_
      refine m_iconst K X20.here hx hby (2 : Int32) at_159 rfl rfl ?_
      refine m_icmpN K X20.here hx hby (q := 163) at_160 (flt (by decide : ¬ ((2 : Int32) < (2 : Int32)))).1 rfl ?_
      refine m_iload K X20.here hx hby at_163 rfl rfl ?_
      refine m_sipush K X20.here hx hby (255 : Int32) at_165 rfl rfl ?_
      by_cases hc168_25 : (255 : Int32) < (DRAW p3)
      · refine m_icmpY K X20.here hx hby (q := 203) at_168 (tlt hc168_25).2.2.1 (by decide) rfl ?_
        refine m_iconst K X20.here hx hby (0 : Int32) at_203 rfl rfl ?_
        refine m_istore K X20.here hx hby #[.val (.int p1), .val (.int p2), .val (.int p3), .val (.int p4), .val (.int p5), .val (.int (2 : Int32)), .val (.int (DRAW p2)), .val (.int (DRAW p3)), .val (.int (DRAW p4)), .val (.int (DRAW p5)), .val (.ref b18), .val (.int (0 : Int32))] at_204 rfl rfl ?_
        refine k_newO K X20 hx hby hZ hown (W hw 5 rfl) (W hw 6 rfl) (W hw 7 rfl) e20 at_206 rfl (by decide) (by decide) fun T26 h26 b26 X26 e26 E26 g26 A26 D26 => ?_
        have sz_b26 : h0.size ≤ b26 := Nat.le_trans (Nat.le_trans (Nat.le_trans (Nat.le_trans (Nat.le_refl _) E18.1) (Keep.of_wr W19).1) (Keep.of_wr W20).1) (Nat.le_of_eq g26.symm)
        have g_b26 : n0 ≤ b26 := Nat.le_trans Z0 sz_b26
        have F_value_b26 : Fld Z h26 b26 "java/lang/String" "value" "[B" .null := D26 (Or.inr (W hw 20 rfl)) (ty := (.array .byte)) (by decide)
        have F_coder_b26 : Fld Z h26 b26 "java/lang/String" "coder" "B" (.int (0 : Int32)) := D26 (Or.inr (W hw 21 rfl)) (ty := .byte) (by decide)
        refine m_dup K X26.here hx hby at_209 rfl rfl ?_
        refine m_aload K X26.here hx hby at_210 rfl rfl rfl ?_
        refine k_callP K X26 hx hby hZ b26 [(.ref b18)] [(.ref b26)] hown (W hw 8 rfl) (W hw 9 rfl) (W hw 7 rfl) (W hw 10 rfl) rfl (csj2_1 l Z a0 hw b26 b18 cz vf (DRAW p2) (DRAW p3) h26 n0 (Nat.le_trans Z0 (Nat.le_trans (Nat.le_trans (Nat.le_trans (Nat.le_trans (Nat.le_refl _) E18.1) (Keep.of_wr W19).1) (Keep.of_wr W20).1) E26.1)) A26 F_value_b26 F_coder_b26 (V20.ext E26) ((((O0.ext E18).wr W19 g_b18).wr W20 g_b18).ext E26) g_b26 SS hc154_21 hc168_25 (own_dr p2) (own_dr p3)) e26 rfl rfl pd_16 rfl at_212 (by rw [hml]; rfl) rfl (by decide) (by decide) (Nat.le_of_ble_eq_true rfl) (by decide) (by decide) fun v27 T27 L27 X27 q27 => ?_
        obtain ⟨b27_bv, rfl, Nq27, K27, sq_b27_bv, Fp27_0, Fp27_1, Ap27_0⟩ := q27
        have N27 := Fr.app N20 Nq27
        have sz_b27_bv : h0.size ≤ b27_bv := Nat.le_trans (Nat.le_trans (Nat.le_trans (Nat.le_trans (Nat.le_trans (Nat.le_refl _) E18.1) (Keep.of_wr W19).1) (Keep.of_wr W20).1) E26.1) sq_b27_bv
        have g_b27_bv : n0 ≤ b27_bv := Nat.le_trans Z0 sz_b27_bv
        refine k_none K ?_
        refine k_callS K X27 hx hby hZ [(.ref b26)] [] hown (W hw 26 rfl) (W hw 27 rfl) (W hw 28 rfl) (W hw 29 rfl) (cfl2_1 l Z a0 hw b26 cz vf b27_bv (DRAW p2) (DRAW p3) T27.heap n0 (Nat.le_trans Z0 (Nat.le_trans (Nat.le_trans (Nat.le_trans (Nat.le_trans (Nat.le_trans (Nat.le_refl _) E18.1) (Keep.of_wr W19).1) (Keep.of_wr W20).1) E26.1) K27.1)) (A26.keep K27) Fp27_0 Fp27_1 Ap27_0 (((((O0.ext E18).wr W19 g_b18).wr W20 g_b18).ext E26).keep K27 (allS g_b26 all0)) SS hc154_21 hc168_25 (own_dr p2) (own_dr p3)) rfl rfl rfl pd_17 rfl at_215 (by rw [hml]; rfl) rfl (by decide) (by decide) (Nat.le_of_ble_eq_true rfl) (by decide) (by decide) fun v28 T28 L28 X28 q28 => ?_
        obtain ⟨rfl, e28, rfl⟩ := q28
        replace X28 := own_px X28
        refine k_some K (w := (.int (0 : Int32))) ?_
        refine m_iload K X28.here hx hby at_218 rfl rfl ?_
        refine m_icmpN K X28.here hx hby (q := 223) at_220 (teq (by decide : (0 : Int32) = (0 : Int32))).2 rfl ?_
        refine m_iconst K X28.here hx hby (1 : Int32) at_223 rfl rfl ?_
        refine m_goto K X28.here hx hby (q := 228) at_224 (by decide) rfl ?_
        exact GoW.of_go (Go.retN X28 hx hby hlk hret (by simp) at_228 (by decide) (by decide) (by decide) (⟨rfl, N27⟩))
      · refine m_icmpN K X20.here hx hby (q := 171) at_168 (flt hc168_25).2.2.1 rfl ?_
        refine m_iload K X20.here hx hby at_171 rfl rfl ?_
        refine m_iconst K X20.here hx hby (3 : Int32) at_173 rfl rfl ?_
        refine m_icmpY K X20.here hx hby (q := 185) at_174 (tlt (by decide : (2 : Int32) < (3 : Int32))).1 (by decide) rfl ?_
        refine m_iload K X20.here hx hby at_185 rfl rfl ?_
        refine m_iconst K X20.here hx hby (4 : Int32) at_187 rfl rfl ?_
        refine m_icmpY K X20.here hx hby (q := 199) at_188 (tlt (by decide : (2 : Int32) < (4 : Int32))).1 (by decide) rfl ?_
        refine m_iconst K X20.here hx hby (1 : Int32) at_199 rfl rfl ?_
        refine m_goto K X20.here hx hby (q := 204) at_200 (by decide) rfl ?_
        refine m_istore K X20.here hx hby #[.val (.int p1), .val (.int p2), .val (.int p3), .val (.int p4), .val (.int p5), .val (.int (2 : Int32)), .val (.int (DRAW p2)), .val (.int (DRAW p3)), .val (.int (DRAW p4)), .val (.int (DRAW p5)), .val (.ref b18), .val (.int (1 : Int32))] at_204 rfl rfl ?_
        refine k_newO K X20 hx hby hZ hown (W hw 5 rfl) (W hw 6 rfl) (W hw 7 rfl) e20 at_206 rfl (by decide) (by decide) fun T29 h29 b29 X29 e29 E29 g29 A29 D29 => ?_
        have sz_b29 : h0.size ≤ b29 := Nat.le_trans (Nat.le_trans (Nat.le_trans (Nat.le_trans (Nat.le_refl _) E18.1) (Keep.of_wr W19).1) (Keep.of_wr W20).1) (Nat.le_of_eq g29.symm)
        have g_b29 : n0 ≤ b29 := Nat.le_trans Z0 sz_b29
        have F_value_b29 : Fld Z h29 b29 "java/lang/String" "value" "[B" .null := D29 (Or.inr (W hw 20 rfl)) (ty := (.array .byte)) (by decide)
        have F_coder_b29 : Fld Z h29 b29 "java/lang/String" "coder" "B" (.int (0 : Int32)) := D29 (Or.inr (W hw 21 rfl)) (ty := .byte) (by decide)
        refine m_dup K X29.here hx hby at_209 rfl rfl ?_
        refine m_aload K X29.here hx hby at_210 rfl rfl rfl ?_
        refine k_callP K X29 hx hby hZ b29 [(.ref b18)] [(.ref b29)] hown (W hw 8 rfl) (W hw 9 rfl) (W hw 7 rfl) (W hw 10 rfl) rfl (csj2_2 l Z a0 hw b29 b18 cz vf (DRAW p2) (DRAW p3) h29 n0 (Nat.le_trans Z0 (Nat.le_trans (Nat.le_trans (Nat.le_trans (Nat.le_trans (Nat.le_refl _) E18.1) (Keep.of_wr W19).1) (Keep.of_wr W20).1) E29.1)) A29 F_value_b29 F_coder_b29 (V20.ext E29) ((((O0.ext E18).wr W19 g_b18).wr W20 g_b18).ext E29) g_b29 SS hc154_21 hc168_25) e29 rfl rfl pd_16 rfl at_212 (by rw [hml]; rfl) rfl (by decide) (by decide) (Nat.le_of_ble_eq_true rfl) (by decide) (by decide) fun v30 T30 L30 X30 q30 => ?_
        obtain ⟨b30_bv, rfl, Nq30, K30, sq_b30_bv, Fp30_0, Fp30_1, Ap30_0⟩ := q30
        have N30 := Fr.app N20 Nq30
        have sz_b30_bv : h0.size ≤ b30_bv := Nat.le_trans (Nat.le_trans (Nat.le_trans (Nat.le_trans (Nat.le_trans (Nat.le_refl _) E18.1) (Keep.of_wr W19).1) (Keep.of_wr W20).1) E29.1) sq_b30_bv
        have g_b30_bv : n0 ≤ b30_bv := Nat.le_trans Z0 sz_b30_bv
        refine k_none K ?_
        refine k_callS K X30 hx hby hZ [(.ref b29)] [] hown (W hw 26 rfl) (W hw 27 rfl) (W hw 28 rfl) (W hw 29 rfl) (cfl2 l Z a0 hw b29 cz vf b30_bv (nar .byte ((DRAW p2).toInt8.toInt32)) (nar .byte ((DRAW p3).toInt8.toInt32)) T30.heap n0 (Nat.le_trans Z0 (Nat.le_trans (Nat.le_trans (Nat.le_trans (Nat.le_trans (Nat.le_trans (Nat.le_refl _) E18.1) (Keep.of_wr W19).1) (Keep.of_wr W20).1) E29.1) K30.1)) (A29.keep K30) Fp30_0 Fp30_1 Ap30_0 (((((O0.ext E18).wr W19 g_b18).wr W20 g_b18).ext E29).keep K30 (allS g_b29 all0)) SS) rfl rfl rfl pd_17 rfl at_215 (by rw [hml]; rfl) rfl (by decide) (by decide) (Nat.le_of_ble_eq_true rfl) (by decide) (by decide) fun v31 T31 L31 X31 q31 => ?_
        obtain ⟨rfl, e31, rfl⟩ := q31
        replace X31 := own_px X31
        refine k_some K (w := (.int (1 : Int32))) ?_
        refine m_iload K X31.here hx hby at_218 rfl rfl ?_
        refine m_icmpN K X31.here hx hby (q := 223) at_220 (teq (by decide : (1 : Int32) = (1 : Int32))).2 rfl ?_
        refine m_iconst K X31.here hx hby (1 : Int32) at_223 rfl rfl ?_
        refine m_goto K X31.here hx hby (q := 228) at_224 (by decide) rfl ?_
        exact GoW.of_go (Go.retN X31 hx hby hlk hret (by simp) at_228 (by decide) (by decide) (by decide) (⟨rfl, N30⟩))
  · rw [show ((p1 &&& (7 : Int32)) % (5 : Int32)) = (3 : Int32) from hlen]
    refine m_iload K X4.here hx hby at_33 rfl rfl ?_
    refine m_ifY K X4.here hx hby (q := 46) at_35 ((if0 _ _).trans (feq (by decide : ¬ ((3 : Int32) = (0 : Int32)))).2) (by decide) rfl ?_
    refine m_iload K X4.here hx hby at_46 rfl rfl ?_
    refine m_iconst K X4.here hx hby (1 : Int32) at_48 rfl rfl ?_
    refine m_icmpY K X4.here hx hby (q := 65) at_49 (feq (by decide : ¬ ((3 : Int32) = (1 : Int32)))).2 (by decide) rfl ?_
    refine m_iload K X4.here hx hby at_65 rfl rfl ?_
    refine m_iconst K X4.here hx hby (2 : Int32) at_67 rfl rfl ?_
    refine m_icmpY K X4.here hx hby (q := 89) at_68 (feq (by decide : ¬ ((3 : Int32) = (2 : Int32)))).2 (by decide) rfl ?_
    refine m_iload K X4.here hx hby at_89 rfl rfl ?_
    refine m_iconst K X4.here hx hby (3 : Int32) at_91 rfl rfl ?_
    refine m_icmpN K X4.here hx hby (q := 95) at_92 (teq (by decide : (3 : Int32) = (3 : Int32))).2 rfl ?_
    refine m_iconst K X4.here hx hby (3 : Int32) at_95 rfl rfl ?_
    refine k_newP K X4 hx hby hZ 3 3 (W hw 4 rfl) e4 at_96 rfl (by decide) rfl (by decide) (by decide) (by decide) (by decide) fun T32 h32 b32 X32 e32 E32 g32 V_b32 => ?_
    have sz_b32 : h0.size ≤ b32 := Nat.le_trans (Nat.le_refl _) (Nat.le_of_eq g32.symm)
    have g_b32 : n0 ≤ b32 := Nat.le_trans Z0 sz_b32
    replace V_b32 : Av Z h32 b32 .char [(.int (0 : Int32)), (.int (0 : Int32)), (.int (0 : Int32))] := V_b32
    refine m_dup K X32.here hx hby at_98 rfl rfl ?_
    refine m_iconst K X32.here hx hby (0 : Int32) at_99 rfl rfl ?_
    refine m_iload K X32.here hx hby at_100 rfl rfl ?_
    refine k_stC K X32 hx hby hZ e32 V_b32 (by decide) (Nat.le_of_ble_eq_true rfl) at_102 rfl fun T33 h33 X33 e33 W33 V33 => ?_
    replace V33 : Av Z h33 b32 .char [(.int (DRAW p2)), (.int (0 : Int32)), (.int (0 : Int32))] := by have q := V33; rw [show nar .char (DRAW p2) = (DRAW p2) from own_dr p2] at q; exact q
    have N33 := Fr.snoc X33 N0 g_b32
    refine m_dup K X33.here hx hby at_103 rfl rfl ?_
    refine m_iconst K X33.here hx hby (1 : Int32) at_104 rfl rfl ?_
    refine m_iload K X33.here hx hby at_105 rfl rfl ?_
    refine k_stC K X33 hx hby hZ e33 V33 (by decide) (Nat.le_of_ble_eq_true rfl) at_107 rfl fun T34 h34 X34 e34 W34 V34 => ?_
    replace V34 : Av Z h34 b32 .char [(.int (DRAW p2)), (.int (DRAW p3)), (.int (0 : Int32))] := by have q := V34; rw [show nar .char (DRAW p3) = (DRAW p3) from own_dr p3] at q; exact q
    have N34 := Fr.snoc X34 N33 g_b32
    refine m_dup K X34.here hx hby at_108 rfl rfl ?_
    refine m_iconst K X34.here hx hby (2 : Int32) at_109 rfl rfl ?_
    refine m_iload K X34.here hx hby at_110 rfl rfl ?_
    refine k_stC K X34 hx hby hZ e34 V34 (by decide) (Nat.le_of_ble_eq_true rfl) at_112 rfl fun T35 h35 X35 e35 W35 V35 => ?_
    replace V35 : Av Z h35 b32 .char [(.int (DRAW p2)), (.int (DRAW p3)), (.int (DRAW p4))] := by have q := V35; rw [show nar .char (DRAW p4) = (DRAW p4) from own_dr p4] at q; exact q
    have N35 := Fr.snoc X35 N34 g_b32
    refine m_astore K X35.here hx hby #[.val (.int p1), .val (.int p2), .val (.int p3), .val (.int p4), .val (.int p5), .val (.int (3 : Int32)), .val (.int (DRAW p2)), .val (.int (DRAW p3)), .val (.int (DRAW p4)), .val (.int (DRAW p5)), .val (.ref b32), .unset] at_113 rfl rfl rfl ?_
    refine m_goto K X35.here hx hby (q := 143) at_115 (by decide) rfl ?_
    refine m_iload K X35.here hx hby at_143 rfl rfl ?_
    refine m_iconst K X35.here hx hby (1 : Int32) at_145 rfl rfl ?_
    refine m_icmpN K X35.here hx hby (q := 149) at_146 (flt (by decide : ¬ ((3 : Int32) < (1 : Int32)))).1 rfl ?_
    refine m_iload K X35.here hx hby at_149 rfl rfl ?_
    refine m_sipush K X35.here hx hby (255 : Int32) at_151 rfl rfl ?_
    by_cases hc154_36 : (255 : Int32) < (DRAW p2)
    · refine m_icmpY K X35.here hx hby (q := 203) at_154 (tlt hc154_36).2.2.1 (by decide) rfl ?_
      refine m_iconst K X35.here hx hby (0 : Int32) at_203 rfl rfl ?_
      refine m_istore K X35.here hx hby #[.val (.int p1), .val (.int p2), .val (.int p3), .val (.int p4), .val (.int p5), .val (.int (3 : Int32)), .val (.int (DRAW p2)), .val (.int (DRAW p3)), .val (.int (DRAW p4)), .val (.int (DRAW p5)), .val (.ref b32), .val (.int (0 : Int32))] at_204 rfl rfl ?_
      refine k_newO K X35 hx hby hZ hown (W hw 5 rfl) (W hw 6 rfl) (W hw 7 rfl) e35 at_206 rfl (by decide) (by decide) fun T37 h37 b37 X37 e37 E37 g37 A37 D37 => ?_
      have sz_b37 : h0.size ≤ b37 := Nat.le_trans (Nat.le_trans (Nat.le_trans (Nat.le_trans (Nat.le_trans (Nat.le_refl _) E32.1) (Keep.of_wr W33).1) (Keep.of_wr W34).1) (Keep.of_wr W35).1) (Nat.le_of_eq g37.symm)
      have g_b37 : n0 ≤ b37 := Nat.le_trans Z0 sz_b37
      have F_value_b37 : Fld Z h37 b37 "java/lang/String" "value" "[B" .null := D37 (Or.inr (W hw 20 rfl)) (ty := (.array .byte)) (by decide)
      have F_coder_b37 : Fld Z h37 b37 "java/lang/String" "coder" "B" (.int (0 : Int32)) := D37 (Or.inr (W hw 21 rfl)) (ty := .byte) (by decide)
      refine m_dup K X37.here hx hby at_209 rfl rfl ?_
      refine m_aload K X37.here hx hby at_210 rfl rfl rfl ?_
      refine k_callP K X37 hx hby hZ b37 [(.ref b32)] [(.ref b37)] hown (W hw 8 rfl) (W hw 9 rfl) (W hw 7 rfl) (W hw 10 rfl) rfl (csj3_0 l Z a0 hw b37 b32 cz vf (DRAW p2) (DRAW p3) (DRAW p4) h37 n0 (Nat.le_trans Z0 (Nat.le_trans (Nat.le_trans (Nat.le_trans (Nat.le_trans (Nat.le_trans (Nat.le_refl _) E32.1) (Keep.of_wr W33).1) (Keep.of_wr W34).1) (Keep.of_wr W35).1) E37.1)) A37 F_value_b37 F_coder_b37 (V35.ext E37) (((((O0.ext E32).wr W33 g_b32).wr W34 g_b32).wr W35 g_b32).ext E37) g_b37 SS hc154_36 (own_dr p2) (own_dr p3) (own_dr p4)) e37 rfl rfl pd_16 rfl at_212 (by rw [hml]; rfl) rfl (by decide) (by decide) (Nat.le_of_ble_eq_true rfl) (by decide) (by decide) fun v38 T38 L38 X38 q38 => ?_
      obtain ⟨b38_bv, rfl, Nq38, K38, sq_b38_bv, Fp38_0, Fp38_1, Ap38_0⟩ := q38
      have N38 := Fr.app N35 Nq38
      have sz_b38_bv : h0.size ≤ b38_bv := Nat.le_trans (Nat.le_trans (Nat.le_trans (Nat.le_trans (Nat.le_trans (Nat.le_trans (Nat.le_refl _) E32.1) (Keep.of_wr W33).1) (Keep.of_wr W34).1) (Keep.of_wr W35).1) E37.1) sq_b38_bv
      have g_b38_bv : n0 ≤ b38_bv := Nat.le_trans Z0 sz_b38_bv
      refine k_none K ?_
      refine k_callS K X38 hx hby hZ [(.ref b37)] [] hown (W hw 26 rfl) (W hw 27 rfl) (W hw 28 rfl) (W hw 29 rfl) (cfl3_0 l Z a0 hw b37 cz vf b38_bv (DRAW p2) (DRAW p3) (DRAW p4) T38.heap n0 (Nat.le_trans Z0 (Nat.le_trans (Nat.le_trans (Nat.le_trans (Nat.le_trans (Nat.le_trans (Nat.le_trans (Nat.le_refl _) E32.1) (Keep.of_wr W33).1) (Keep.of_wr W34).1) (Keep.of_wr W35).1) E37.1) K38.1)) (A37.keep K38) Fp38_0 Fp38_1 Ap38_0 ((((((O0.ext E32).wr W33 g_b32).wr W34 g_b32).wr W35 g_b32).ext E37).keep K38 (allS g_b37 all0)) SS hc154_36 (own_dr p2) (own_dr p3) (own_dr p4)) rfl rfl rfl pd_17 rfl at_215 (by rw [hml]; rfl) rfl (by decide) (by decide) (Nat.le_of_ble_eq_true rfl) (by decide) (by decide) fun v39 T39 L39 X39 q39 => ?_
      obtain ⟨rfl, e39, rfl⟩ := q39
      replace X39 := own_px X39
      refine k_some K (w := (.int (0 : Int32))) ?_
      refine m_iload K X39.here hx hby at_218 rfl rfl ?_
      refine m_icmpN K X39.here hx hby (q := 223) at_220 (teq (by decide : (0 : Int32) = (0 : Int32))).2 rfl ?_
      refine m_iconst K X39.here hx hby (1 : Int32) at_223 rfl rfl ?_
      refine m_goto K X39.here hx hby (q := 228) at_224 (by decide) rfl ?_
      exact GoW.of_go (Go.retN X39 hx hby hlk hret (by simp) at_228 (by decide) (by decide) (by decide) (⟨rfl, N38⟩))
    · refine m_icmpN K X35.here hx hby (q := 157) at_154 (flt hc154_36).2.2.1 rfl ?_
      refine m_iload K X35.here hx hby at_157 rfl rfl ?_
      refine m_iconst K X35.here hx hby (2 : Int32) at_159 rfl rfl ?_
      refine m_icmpN K X35.here hx hby (q := 163) at_160 (flt (by decide : ¬ ((3 : Int32) < (2 : Int32)))).1 rfl ?_
      refine m_iload K X35.here hx hby at_163 rfl rfl ?_
      refine m_sipush K X35.here hx hby (255 : Int32) at_165 rfl rfl ?_
      by_cases hc168_40 : (255 : Int32) < (DRAW p3)
      · refine m_icmpY K X35.here hx hby (q := 203) at_168 (tlt hc168_40).2.2.1 (by decide) rfl ?_
        refine m_iconst K X35.here hx hby (0 : Int32) at_203 rfl rfl ?_
        refine m_istore K X35.here hx hby #[.val (.int p1), .val (.int p2), .val (.int p3), .val (.int p4), .val (.int p5), .val (.int (3 : Int32)), .val (.int (DRAW p2)), .val (.int (DRAW p3)), .val (.int (DRAW p4)), .val (.int (DRAW p5)), .val (.ref b32), .val (.int (0 : Int32))] at_204 rfl rfl ?_
        refine k_newO K X35 hx hby hZ hown (W hw 5 rfl) (W hw 6 rfl) (W hw 7 rfl) e35 at_206 rfl (by decide) (by decide) fun T41 h41 b41 X41 e41 E41 g41 A41 D41 => ?_
        have sz_b41 : h0.size ≤ b41 := Nat.le_trans (Nat.le_trans (Nat.le_trans (Nat.le_trans (Nat.le_trans (Nat.le_refl _) E32.1) (Keep.of_wr W33).1) (Keep.of_wr W34).1) (Keep.of_wr W35).1) (Nat.le_of_eq g41.symm)
        have g_b41 : n0 ≤ b41 := Nat.le_trans Z0 sz_b41
        have F_value_b41 : Fld Z h41 b41 "java/lang/String" "value" "[B" .null := D41 (Or.inr (W hw 20 rfl)) (ty := (.array .byte)) (by decide)
        have F_coder_b41 : Fld Z h41 b41 "java/lang/String" "coder" "B" (.int (0 : Int32)) := D41 (Or.inr (W hw 21 rfl)) (ty := .byte) (by decide)
        refine m_dup K X41.here hx hby at_209 rfl rfl ?_
        refine m_aload K X41.here hx hby at_210 rfl rfl rfl ?_
        refine k_callP K X41 hx hby hZ b41 [(.ref b32)] [(.ref b41)] hown (W hw 8 rfl) (W hw 9 rfl) (W hw 7 rfl) (W hw 10 rfl) rfl (csj3_1 l Z a0 hw b41 b32 cz vf (DRAW p2) (DRAW p3) (DRAW p4) h41 n0 (Nat.le_trans Z0 (Nat.le_trans (Nat.le_trans (Nat.le_trans (Nat.le_trans (Nat.le_trans (Nat.le_refl _) E32.1) (Keep.of_wr W33).1) (Keep.of_wr W34).1) (Keep.of_wr W35).1) E41.1)) A41 F_value_b41 F_coder_b41 (V35.ext E41) (((((O0.ext E32).wr W33 g_b32).wr W34 g_b32).wr W35 g_b32).ext E41) g_b41 SS hc154_36 hc168_40 (own_dr p2) (own_dr p3) (own_dr p4)) e41 rfl rfl pd_16 rfl at_212 (by rw [hml]; rfl) rfl (by decide) (by decide) (Nat.le_of_ble_eq_true rfl) (by decide) (by decide) fun v42 T42 L42 X42 q42 => ?_
        obtain ⟨b42_bv, rfl, Nq42, K42, sq_b42_bv, Fp42_0, Fp42_1, Ap42_0⟩ := q42
        have N42 := Fr.app N35 Nq42
        have sz_b42_bv : h0.size ≤ b42_bv := Nat.le_trans (Nat.le_trans (Nat.le_trans (Nat.le_trans (Nat.le_trans (Nat.le_trans (Nat.le_refl _) E32.1) (Keep.of_wr W33).1) (Keep.of_wr W34).1) (Keep.of_wr W35).1) E41.1) sq_b42_bv
        have g_b42_bv : n0 ≤ b42_bv := Nat.le_trans Z0 sz_b42_bv
        refine k_none K ?_
        refine k_callS K X42 hx hby hZ [(.ref b41)] [] hown (W hw 26 rfl) (W hw 27 rfl) (W hw 28 rfl) (W hw 29 rfl) (cfl3_1 l Z a0 hw b41 cz vf b42_bv (DRAW p2) (DRAW p3) (DRAW p4) T42.heap n0 (Nat.le_trans Z0 (Nat.le_trans (Nat.le_trans (Nat.le_trans (Nat.le_trans (Nat.le_trans (Nat.le_trans (Nat.le_refl _) E32.1) (Keep.of_wr W33).1) (Keep.of_wr W34).1) (Keep.of_wr W35).1) E41.1) K42.1)) (A41.keep K42) Fp42_0 Fp42_1 Ap42_0 ((((((O0.ext E32).wr W33 g_b32).wr W34 g_b32).wr W35 g_b32).ext E41).keep K42 (allS g_b41 all0)) SS hc154_36 hc168_40 (own_dr p2) (own_dr p3) (own_dr p4)) rfl rfl rfl pd_17 rfl at_215 (by rw [hml]; rfl) rfl (by decide) (by decide) (Nat.le_of_ble_eq_true rfl) (by decide) (by decide) fun v43 T43 L43 X43 q43 => ?_
        obtain ⟨rfl, e43, rfl⟩ := q43
        replace X43 := own_px X43
        refine k_some K (w := (.int (0 : Int32))) ?_
        refine m_iload K X43.here hx hby at_218 rfl rfl ?_
        refine m_icmpN K X43.here hx hby (q := 223) at_220 (teq (by decide : (0 : Int32) = (0 : Int32))).2 rfl ?_
        refine m_iconst K X43.here hx hby (1 : Int32) at_223 rfl rfl ?_
        refine m_goto K X43.here hx hby (q := 228) at_224 (by decide) rfl ?_
        exact GoW.of_go (Go.retN X43 hx hby hlk hret (by simp) at_228 (by decide) (by decide) (by decide) (⟨rfl, N42⟩))
      · refine m_icmpN K X35.here hx hby (q := 171) at_168 (flt hc168_40).2.2.1 rfl ?_
        refine m_iload K X35.here hx hby at_171 rfl rfl ?_
        refine m_iconst K X35.here hx hby (3 : Int32) at_173 rfl rfl ?_
        refine m_icmpN K X35.here hx hby (q := 177) at_174 (flt (by decide : ¬ ((3 : Int32) < (3 : Int32)))).1 rfl ?_
        refine m_iload K X35.here hx hby at_177 rfl rfl ?_
        refine m_sipush K X35.here hx hby (255 : Int32) at_179 rfl rfl ?_
        by_cases hc182_44 : (255 : Int32) < (DRAW p4)
        · refine m_icmpY K X35.here hx hby (q := 203) at_182 (tlt hc182_44).2.2.1 (by decide) rfl ?_
          refine m_iconst K X35.here hx hby (0 : Int32) at_203 rfl rfl ?_
          refine m_istore K X35.here hx hby #[.val (.int p1), .val (.int p2), .val (.int p3), .val (.int p4), .val (.int p5), .val (.int (3 : Int32)), .val (.int (DRAW p2)), .val (.int (DRAW p3)), .val (.int (DRAW p4)), .val (.int (DRAW p5)), .val (.ref b32), .val (.int (0 : Int32))] at_204 rfl rfl ?_
          refine k_newO K X35 hx hby hZ hown (W hw 5 rfl) (W hw 6 rfl) (W hw 7 rfl) e35 at_206 rfl (by decide) (by decide) fun T45 h45 b45 X45 e45 E45 g45 A45 D45 => ?_
          have sz_b45 : h0.size ≤ b45 := Nat.le_trans (Nat.le_trans (Nat.le_trans (Nat.le_trans (Nat.le_trans (Nat.le_refl _) E32.1) (Keep.of_wr W33).1) (Keep.of_wr W34).1) (Keep.of_wr W35).1) (Nat.le_of_eq g45.symm)
          have g_b45 : n0 ≤ b45 := Nat.le_trans Z0 sz_b45
          have F_value_b45 : Fld Z h45 b45 "java/lang/String" "value" "[B" .null := D45 (Or.inr (W hw 20 rfl)) (ty := (.array .byte)) (by decide)
          have F_coder_b45 : Fld Z h45 b45 "java/lang/String" "coder" "B" (.int (0 : Int32)) := D45 (Or.inr (W hw 21 rfl)) (ty := .byte) (by decide)
          refine m_dup K X45.here hx hby at_209 rfl rfl ?_
          refine m_aload K X45.here hx hby at_210 rfl rfl rfl ?_
          refine k_callP K X45 hx hby hZ b45 [(.ref b32)] [(.ref b45)] hown (W hw 8 rfl) (W hw 9 rfl) (W hw 7 rfl) (W hw 10 rfl) rfl (csj3_2 l Z a0 hw b45 b32 cz vf (DRAW p2) (DRAW p3) (DRAW p4) h45 n0 (Nat.le_trans Z0 (Nat.le_trans (Nat.le_trans (Nat.le_trans (Nat.le_trans (Nat.le_trans (Nat.le_refl _) E32.1) (Keep.of_wr W33).1) (Keep.of_wr W34).1) (Keep.of_wr W35).1) E45.1)) A45 F_value_b45 F_coder_b45 (V35.ext E45) (((((O0.ext E32).wr W33 g_b32).wr W34 g_b32).wr W35 g_b32).ext E45) g_b45 SS hc154_36 hc168_40 hc182_44 (own_dr p2) (own_dr p3) (own_dr p4)) e45 rfl rfl pd_16 rfl at_212 (by rw [hml]; rfl) rfl (by decide) (by decide) (Nat.le_of_ble_eq_true rfl) (by decide) (by decide) fun v46 T46 L46 X46 q46 => ?_
          obtain ⟨b46_bv, rfl, Nq46, K46, sq_b46_bv, Fp46_0, Fp46_1, Ap46_0⟩ := q46
          have N46 := Fr.app N35 Nq46
          have sz_b46_bv : h0.size ≤ b46_bv := Nat.le_trans (Nat.le_trans (Nat.le_trans (Nat.le_trans (Nat.le_trans (Nat.le_trans (Nat.le_refl _) E32.1) (Keep.of_wr W33).1) (Keep.of_wr W34).1) (Keep.of_wr W35).1) E45.1) sq_b46_bv
          have g_b46_bv : n0 ≤ b46_bv := Nat.le_trans Z0 sz_b46_bv
          refine k_none K ?_
          refine k_callS K X46 hx hby hZ [(.ref b45)] [] hown (W hw 26 rfl) (W hw 27 rfl) (W hw 28 rfl) (W hw 29 rfl) (cfl3_2 l Z a0 hw b45 cz vf b46_bv (DRAW p2) (DRAW p3) (DRAW p4) T46.heap n0 (Nat.le_trans Z0 (Nat.le_trans (Nat.le_trans (Nat.le_trans (Nat.le_trans (Nat.le_trans (Nat.le_trans (Nat.le_refl _) E32.1) (Keep.of_wr W33).1) (Keep.of_wr W34).1) (Keep.of_wr W35).1) E45.1) K46.1)) (A45.keep K46) Fp46_0 Fp46_1 Ap46_0 ((((((O0.ext E32).wr W33 g_b32).wr W34 g_b32).wr W35 g_b32).ext E45).keep K46 (allS g_b45 all0)) SS hc154_36 hc168_40 hc182_44 (own_dr p2) (own_dr p3) (own_dr p4)) rfl rfl rfl pd_17 rfl at_215 (by rw [hml]; rfl) rfl (by decide) (by decide) (Nat.le_of_ble_eq_true rfl) (by decide) (by decide) fun v47 T47 L47 X47 q47 => ?_
          obtain ⟨rfl, e47, rfl⟩ := q47
          replace X47 := own_px X47
          refine k_some K (w := (.int (0 : Int32))) ?_
          refine m_iload K X47.here hx hby at_218 rfl rfl ?_
          refine m_icmpN K X47.here hx hby (q := 223) at_220 (teq (by decide : (0 : Int32) = (0 : Int32))).2 rfl ?_
          refine m_iconst K X47.here hx hby (1 : Int32) at_223 rfl rfl ?_
          refine m_goto K X47.here hx hby (q := 228) at_224 (by decide) rfl ?_
          exact GoW.of_go (Go.retN X47 hx hby hlk hret (by simp) at_228 (by decide) (by decide) (by decide) (⟨rfl, N46⟩))
        · refine m_icmpN K X35.here hx hby (q := 185) at_182 (flt hc182_44).2.2.1 rfl ?_
          refine m_iload K X35.here hx hby at_185 rfl rfl ?_
          refine m_iconst K X35.here hx hby (4 : Int32) at_187 rfl rfl ?_
          refine m_icmpY K X35.here hx hby (q := 199) at_188 (tlt (by decide : (3 : Int32) < (4 : Int32))).1 (by decide) rfl ?_
          refine m_iconst K X35.here hx hby (1 : Int32) at_199 rfl rfl ?_
          refine m_goto K X35.here hx hby (q := 204) at_200 (by decide) rfl ?_
          refine m_istore K X35.here hx hby #[.val (.int p1), .val (.int p2), .val (.int p3), .val (.int p4), .val (.int p5), .val (.int (3 : Int32)), .val (.int (DRAW p2)), .val (.int (DRAW p3)), .val (.int (DRAW p4)), .val (.int (DRAW p5)), .val (.ref b32), .val (.int (1 : Int32))] at_204 rfl rfl ?_
          refine k_newO K X35 hx hby hZ hown (W hw 5 rfl) (W hw 6 rfl) (W hw 7 rfl) e35 at_206 rfl (by decide) (by decide) fun T48 h48 b48 X48 e48 E48 g48 A48 D48 => ?_
          have sz_b48 : h0.size ≤ b48 := Nat.le_trans (Nat.le_trans (Nat.le_trans (Nat.le_trans (Nat.le_trans (Nat.le_refl _) E32.1) (Keep.of_wr W33).1) (Keep.of_wr W34).1) (Keep.of_wr W35).1) (Nat.le_of_eq g48.symm)
          have g_b48 : n0 ≤ b48 := Nat.le_trans Z0 sz_b48
          have F_value_b48 : Fld Z h48 b48 "java/lang/String" "value" "[B" .null := D48 (Or.inr (W hw 20 rfl)) (ty := (.array .byte)) (by decide)
          have F_coder_b48 : Fld Z h48 b48 "java/lang/String" "coder" "B" (.int (0 : Int32)) := D48 (Or.inr (W hw 21 rfl)) (ty := .byte) (by decide)
          refine m_dup K X48.here hx hby at_209 rfl rfl ?_
          refine m_aload K X48.here hx hby at_210 rfl rfl rfl ?_
          refine k_callP K X48 hx hby hZ b48 [(.ref b32)] [(.ref b48)] hown (W hw 8 rfl) (W hw 9 rfl) (W hw 7 rfl) (W hw 10 rfl) rfl (csj3_3 l Z a0 hw b48 b32 cz vf (DRAW p2) (DRAW p3) (DRAW p4) h48 n0 (Nat.le_trans Z0 (Nat.le_trans (Nat.le_trans (Nat.le_trans (Nat.le_trans (Nat.le_trans (Nat.le_refl _) E32.1) (Keep.of_wr W33).1) (Keep.of_wr W34).1) (Keep.of_wr W35).1) E48.1)) A48 F_value_b48 F_coder_b48 (V35.ext E48) (((((O0.ext E32).wr W33 g_b32).wr W34 g_b32).wr W35 g_b32).ext E48) g_b48 SS hc154_36 hc168_40 hc182_44) e48 rfl rfl pd_16 rfl at_212 (by rw [hml]; rfl) rfl (by decide) (by decide) (Nat.le_of_ble_eq_true rfl) (by decide) (by decide) fun v49 T49 L49 X49 q49 => ?_
          obtain ⟨b49_bv, rfl, Nq49, K49, sq_b49_bv, Fp49_0, Fp49_1, Ap49_0⟩ := q49
          have N49 := Fr.app N35 Nq49
          have sz_b49_bv : h0.size ≤ b49_bv := Nat.le_trans (Nat.le_trans (Nat.le_trans (Nat.le_trans (Nat.le_trans (Nat.le_trans (Nat.le_refl _) E32.1) (Keep.of_wr W33).1) (Keep.of_wr W34).1) (Keep.of_wr W35).1) E48.1) sq_b49_bv
          have g_b49_bv : n0 ≤ b49_bv := Nat.le_trans Z0 sz_b49_bv
          refine k_none K ?_
          refine k_callS K X49 hx hby hZ [(.ref b48)] [] hown (W hw 26 rfl) (W hw 27 rfl) (W hw 28 rfl) (W hw 29 rfl) (cfl3 l Z a0 hw b48 cz vf b49_bv (nar .byte ((DRAW p2).toInt8.toInt32)) (nar .byte ((DRAW p3).toInt8.toInt32)) (nar .byte ((DRAW p4).toInt8.toInt32)) T49.heap n0 (Nat.le_trans Z0 (Nat.le_trans (Nat.le_trans (Nat.le_trans (Nat.le_trans (Nat.le_trans (Nat.le_trans (Nat.le_refl _) E32.1) (Keep.of_wr W33).1) (Keep.of_wr W34).1) (Keep.of_wr W35).1) E48.1) K49.1)) (A48.keep K49) Fp49_0 Fp49_1 Ap49_0 ((((((O0.ext E32).wr W33 g_b32).wr W34 g_b32).wr W35 g_b32).ext E48).keep K49 (allS g_b48 all0)) SS) rfl rfl rfl pd_17 rfl at_215 (by rw [hml]; rfl) rfl (by decide) (by decide) (Nat.le_of_ble_eq_true rfl) (by decide) (by decide) fun v50 T50 L50 X50 q50 => ?_
          obtain ⟨rfl, e50, rfl⟩ := q50
          replace X50 := own_px X50
          refine k_some K (w := (.int (1 : Int32))) ?_
          refine m_iload K X50.here hx hby at_218 rfl rfl ?_
          refine m_icmpN K X50.here hx hby (q := 223) at_220 (teq (by decide : (1 : Int32) = (1 : Int32))).2 rfl ?_
          refine m_iconst K X50.here hx hby (1 : Int32) at_223 rfl rfl ?_
          refine m_goto K X50.here hx hby (q := 228) at_224 (by decide) rfl ?_
          exact GoW.of_go (Go.retN X50 hx hby hlk hret (by simp) at_228 (by decide) (by decide) (by decide) (⟨rfl, N49⟩))
  · rw [show ((p1 &&& (7 : Int32)) % (5 : Int32)) = (4 : Int32) from hlen]
    refine m_iload K X4.here hx hby at_33 rfl rfl ?_
    refine m_ifY K X4.here hx hby (q := 46) at_35 ((if0 _ _).trans (feq (by decide : ¬ ((4 : Int32) = (0 : Int32)))).2) (by decide) rfl ?_
    refine m_iload K X4.here hx hby at_46 rfl rfl ?_
    refine m_iconst K X4.here hx hby (1 : Int32) at_48 rfl rfl ?_
    refine m_icmpY K X4.here hx hby (q := 65) at_49 (feq (by decide : ¬ ((4 : Int32) = (1 : Int32)))).2 (by decide) rfl ?_
    refine m_iload K X4.here hx hby at_65 rfl rfl ?_
    refine m_iconst K X4.here hx hby (2 : Int32) at_67 rfl rfl ?_
    refine m_icmpY K X4.here hx hby (q := 89) at_68 (feq (by decide : ¬ ((4 : Int32) = (2 : Int32)))).2 (by decide) rfl ?_
    refine m_iload K X4.here hx hby at_89 rfl rfl ?_
    refine m_iconst K X4.here hx hby (3 : Int32) at_91 rfl rfl ?_
    refine m_icmpY K X4.here hx hby (q := 118) at_92 (feq (by decide : ¬ ((4 : Int32) = (3 : Int32)))).2 (by decide) rfl ?_
    refine m_iconst K X4.here hx hby (4 : Int32) at_118 rfl rfl ?_
    refine k_newP K X4 hx hby hZ 4 4 (W hw 4 rfl) e4 at_119 rfl (by decide) rfl (by decide) (by decide) (by decide) (by decide) fun T51 h51 b51 X51 e51 E51 g51 V_b51 => ?_
    have sz_b51 : h0.size ≤ b51 := Nat.le_trans (Nat.le_refl _) (Nat.le_of_eq g51.symm)
    have g_b51 : n0 ≤ b51 := Nat.le_trans Z0 sz_b51
    replace V_b51 : Av Z h51 b51 .char [(.int (0 : Int32)), (.int (0 : Int32)), (.int (0 : Int32)), (.int (0 : Int32))] := V_b51
    refine m_dup K X51.here hx hby at_121 rfl rfl ?_
    refine m_iconst K X51.here hx hby (0 : Int32) at_122 rfl rfl ?_
    refine m_iload K X51.here hx hby at_123 rfl rfl ?_
    refine k_stC K X51 hx hby hZ e51 V_b51 (by decide) (Nat.le_of_ble_eq_true rfl) at_125 rfl fun T52 h52 X52 e52 W52 V52 => ?_
    replace V52 : Av Z h52 b51 .char [(.int (DRAW p2)), (.int (0 : Int32)), (.int (0 : Int32)), (.int (0 : Int32))] := by have q := V52; rw [show nar .char (DRAW p2) = (DRAW p2) from own_dr p2] at q; exact q
    have N52 := Fr.snoc X52 N0 g_b51
    refine m_dup K X52.here hx hby at_126 rfl rfl ?_
    refine m_iconst K X52.here hx hby (1 : Int32) at_127 rfl rfl ?_
    refine m_iload K X52.here hx hby at_128 rfl rfl ?_
    refine k_stC K X52 hx hby hZ e52 V52 (by decide) (Nat.le_of_ble_eq_true rfl) at_130 rfl fun T53 h53 X53 e53 W53 V53 => ?_
    replace V53 : Av Z h53 b51 .char [(.int (DRAW p2)), (.int (DRAW p3)), (.int (0 : Int32)), (.int (0 : Int32))] := by have q := V53; rw [show nar .char (DRAW p3) = (DRAW p3) from own_dr p3] at q; exact q
    have N53 := Fr.snoc X53 N52 g_b51
    refine m_dup K X53.here hx hby at_131 rfl rfl ?_
    refine m_iconst K X53.here hx hby (2 : Int32) at_132 rfl rfl ?_
    refine m_iload K X53.here hx hby at_133 rfl rfl ?_
    refine k_stC K X53 hx hby hZ e53 V53 (by decide) (Nat.le_of_ble_eq_true rfl) at_135 rfl fun T54 h54 X54 e54 W54 V54 => ?_
    replace V54 : Av Z h54 b51 .char [(.int (DRAW p2)), (.int (DRAW p3)), (.int (DRAW p4)), (.int (0 : Int32))] := by have q := V54; rw [show nar .char (DRAW p4) = (DRAW p4) from own_dr p4] at q; exact q
    have N54 := Fr.snoc X54 N53 g_b51
    refine m_dup K X54.here hx hby at_136 rfl rfl ?_
    refine m_iconst K X54.here hx hby (3 : Int32) at_137 rfl rfl ?_
    refine m_iload K X54.here hx hby at_138 rfl rfl ?_
    refine k_stC K X54 hx hby hZ e54 V54 (by decide) (Nat.le_of_ble_eq_true rfl) at_140 rfl fun T55 h55 X55 e55 W55 V55 => ?_
    replace V55 : Av Z h55 b51 .char [(.int (DRAW p2)), (.int (DRAW p3)), (.int (DRAW p4)), (.int (DRAW p5))] := by have q := V55; rw [show nar .char (DRAW p5) = (DRAW p5) from own_dr p5] at q; exact q
    have N55 := Fr.snoc X55 N54 g_b51
    refine m_astore K X55.here hx hby #[.val (.int p1), .val (.int p2), .val (.int p3), .val (.int p4), .val (.int p5), .val (.int (4 : Int32)), .val (.int (DRAW p2)), .val (.int (DRAW p3)), .val (.int (DRAW p4)), .val (.int (DRAW p5)), .val (.ref b51), .unset] at_141 rfl rfl rfl ?_
    refine m_iload K X55.here hx hby at_143 rfl rfl ?_
    refine m_iconst K X55.here hx hby (1 : Int32) at_145 rfl rfl ?_
    refine m_icmpN K X55.here hx hby (q := 149) at_146 (flt (by decide : ¬ ((4 : Int32) < (1 : Int32)))).1 rfl ?_
    refine m_iload K X55.here hx hby at_149 rfl rfl ?_
    refine m_sipush K X55.here hx hby (255 : Int32) at_151 rfl rfl ?_
    by_cases hc154_56 : (255 : Int32) < (DRAW p2)
    · refine m_icmpY K X55.here hx hby (q := 203) at_154 (tlt hc154_56).2.2.1 (by decide) rfl ?_
      refine m_iconst K X55.here hx hby (0 : Int32) at_203 rfl rfl ?_
      refine m_istore K X55.here hx hby #[.val (.int p1), .val (.int p2), .val (.int p3), .val (.int p4), .val (.int p5), .val (.int (4 : Int32)), .val (.int (DRAW p2)), .val (.int (DRAW p3)), .val (.int (DRAW p4)), .val (.int (DRAW p5)), .val (.ref b51), .val (.int (0 : Int32))] at_204 rfl rfl ?_
      refine k_newO K X55 hx hby hZ hown (W hw 5 rfl) (W hw 6 rfl) (W hw 7 rfl) e55 at_206 rfl (by decide) (by decide) fun T57 h57 b57 X57 e57 E57 g57 A57 D57 => ?_
      have sz_b57 : h0.size ≤ b57 := Nat.le_trans (Nat.le_trans (Nat.le_trans (Nat.le_trans (Nat.le_trans (Nat.le_trans (Nat.le_refl _) E51.1) (Keep.of_wr W52).1) (Keep.of_wr W53).1) (Keep.of_wr W54).1) (Keep.of_wr W55).1) (Nat.le_of_eq g57.symm)
      have g_b57 : n0 ≤ b57 := Nat.le_trans Z0 sz_b57
      have F_value_b57 : Fld Z h57 b57 "java/lang/String" "value" "[B" .null := D57 (Or.inr (W hw 20 rfl)) (ty := (.array .byte)) (by decide)
      have F_coder_b57 : Fld Z h57 b57 "java/lang/String" "coder" "B" (.int (0 : Int32)) := D57 (Or.inr (W hw 21 rfl)) (ty := .byte) (by decide)
      refine m_dup K X57.here hx hby at_209 rfl rfl ?_
      refine m_aload K X57.here hx hby at_210 rfl rfl rfl ?_
      refine k_callP K X57 hx hby hZ b57 [(.ref b51)] [(.ref b57)] hown (W hw 8 rfl) (W hw 9 rfl) (W hw 7 rfl) (W hw 10 rfl) rfl (csj4_0 l Z a0 hw b57 b51 cz vf (DRAW p2) (DRAW p3) (DRAW p4) (DRAW p5) h57 n0 (Nat.le_trans Z0 (Nat.le_trans (Nat.le_trans (Nat.le_trans (Nat.le_trans (Nat.le_trans (Nat.le_trans (Nat.le_refl _) E51.1) (Keep.of_wr W52).1) (Keep.of_wr W53).1) (Keep.of_wr W54).1) (Keep.of_wr W55).1) E57.1)) A57 F_value_b57 F_coder_b57 (V55.ext E57) ((((((O0.ext E51).wr W52 g_b51).wr W53 g_b51).wr W54 g_b51).wr W55 g_b51).ext E57) g_b57 SS hc154_56 (own_dr p2) (own_dr p3) (own_dr p4) (own_dr p5)) e57 rfl rfl pd_16 rfl at_212 (by rw [hml]; rfl) rfl (by decide) (by decide) (Nat.le_of_ble_eq_true rfl) (by decide) (by decide) fun v58 T58 L58 X58 q58 => ?_
      obtain ⟨b58_bv, rfl, Nq58, K58, sq_b58_bv, Fp58_0, Fp58_1, Ap58_0⟩ := q58
      have N58 := Fr.app N55 Nq58
      have sz_b58_bv : h0.size ≤ b58_bv := Nat.le_trans (Nat.le_trans (Nat.le_trans (Nat.le_trans (Nat.le_trans (Nat.le_trans (Nat.le_trans (Nat.le_refl _) E51.1) (Keep.of_wr W52).1) (Keep.of_wr W53).1) (Keep.of_wr W54).1) (Keep.of_wr W55).1) E57.1) sq_b58_bv
      have g_b58_bv : n0 ≤ b58_bv := Nat.le_trans Z0 sz_b58_bv
      refine k_none K ?_
      refine k_callS K X58 hx hby hZ [(.ref b57)] [] hown (W hw 26 rfl) (W hw 27 rfl) (W hw 28 rfl) (W hw 29 rfl) (cfl4_0 l Z a0 hw b57 cz vf b58_bv (DRAW p2) (DRAW p3) (DRAW p4) (DRAW p5) T58.heap n0 (Nat.le_trans Z0 (Nat.le_trans (Nat.le_trans (Nat.le_trans (Nat.le_trans (Nat.le_trans (Nat.le_trans (Nat.le_trans (Nat.le_refl _) E51.1) (Keep.of_wr W52).1) (Keep.of_wr W53).1) (Keep.of_wr W54).1) (Keep.of_wr W55).1) E57.1) K58.1)) (A57.keep K58) Fp58_0 Fp58_1 Ap58_0 (((((((O0.ext E51).wr W52 g_b51).wr W53 g_b51).wr W54 g_b51).wr W55 g_b51).ext E57).keep K58 (allS g_b57 all0)) SS hc154_56 (own_dr p2) (own_dr p3) (own_dr p4) (own_dr p5)) rfl rfl rfl pd_17 rfl at_215 (by rw [hml]; rfl) rfl (by decide) (by decide) (Nat.le_of_ble_eq_true rfl) (by decide) (by decide) fun v59 T59 L59 X59 q59 => ?_
      obtain ⟨rfl, e59, rfl⟩ := q59
      replace X59 := own_px X59
      refine k_some K (w := (.int (0 : Int32))) ?_
      refine m_iload K X59.here hx hby at_218 rfl rfl ?_
      refine m_icmpN K X59.here hx hby (q := 223) at_220 (teq (by decide : (0 : Int32) = (0 : Int32))).2 rfl ?_
      refine m_iconst K X59.here hx hby (1 : Int32) at_223 rfl rfl ?_
      refine m_goto K X59.here hx hby (q := 228) at_224 (by decide) rfl ?_
      exact GoW.of_go (Go.retN X59 hx hby hlk hret (by simp) at_228 (by decide) (by decide) (by decide) (⟨rfl, N58⟩))
    · refine m_icmpN K X55.here hx hby (q := 157) at_154 (flt hc154_56).2.2.1 rfl ?_
      refine m_iload K X55.here hx hby at_157 rfl rfl ?_
      refine m_iconst K X55.here hx hby (2 : Int32) at_159 rfl rfl ?_
      refine m_icmpN K X55.here hx hby (q := 163) at_160 (flt (by decide : ¬ ((4 : Int32) < (2 : Int32)))).1 rfl ?_
      refine m_iload K X55.here hx hby at_163 rfl rfl ?_
      refine m_sipush K X55.here hx hby (255 : Int32) at_165 rfl rfl ?_
      by_cases hc168_60 : (255 : Int32) < (DRAW p3)
      · refine m_icmpY K X55.here hx hby (q := 203) at_168 (tlt hc168_60).2.2.1 (by decide) rfl ?_
        refine m_iconst K X55.here hx hby (0 : Int32) at_203 rfl rfl ?_
        refine m_istore K X55.here hx hby #[.val (.int p1), .val (.int p2), .val (.int p3), .val (.int p4), .val (.int p5), .val (.int (4 : Int32)), .val (.int (DRAW p2)), .val (.int (DRAW p3)), .val (.int (DRAW p4)), .val (.int (DRAW p5)), .val (.ref b51), .val (.int (0 : Int32))] at_204 rfl rfl ?_
        refine k_newO K X55 hx hby hZ hown (W hw 5 rfl) (W hw 6 rfl) (W hw 7 rfl) e55 at_206 rfl (by decide) (by decide) fun T61 h61 b61 X61 e61 E61 g61 A61 D61 => ?_
        have sz_b61 : h0.size ≤ b61 := Nat.le_trans (Nat.le_trans (Nat.le_trans (Nat.le_trans (Nat.le_trans (Nat.le_trans (Nat.le_refl _) E51.1) (Keep.of_wr W52).1) (Keep.of_wr W53).1) (Keep.of_wr W54).1) (Keep.of_wr W55).1) (Nat.le_of_eq g61.symm)
        have g_b61 : n0 ≤ b61 := Nat.le_trans Z0 sz_b61
        have F_value_b61 : Fld Z h61 b61 "java/lang/String" "value" "[B" .null := D61 (Or.inr (W hw 20 rfl)) (ty := (.array .byte)) (by decide)
        have F_coder_b61 : Fld Z h61 b61 "java/lang/String" "coder" "B" (.int (0 : Int32)) := D61 (Or.inr (W hw 21 rfl)) (ty := .byte) (by decide)
        refine m_dup K X61.here hx hby at_209 rfl rfl ?_
        refine m_aload K X61.here hx hby at_210 rfl rfl rfl ?_
        refine k_callP K X61 hx hby hZ b61 [(.ref b51)] [(.ref b61)] hown (W hw 8 rfl) (W hw 9 rfl) (W hw 7 rfl) (W hw 10 rfl) rfl (csj4_1 l Z a0 hw b61 b51 cz vf (DRAW p2) (DRAW p3) (DRAW p4) (DRAW p5) h61 n0 (Nat.le_trans Z0 (Nat.le_trans (Nat.le_trans (Nat.le_trans (Nat.le_trans (Nat.le_trans (Nat.le_trans (Nat.le_refl _) E51.1) (Keep.of_wr W52).1) (Keep.of_wr W53).1) (Keep.of_wr W54).1) (Keep.of_wr W55).1) E61.1)) A61 F_value_b61 F_coder_b61 (V55.ext E61) ((((((O0.ext E51).wr W52 g_b51).wr W53 g_b51).wr W54 g_b51).wr W55 g_b51).ext E61) g_b61 SS hc154_56 hc168_60 (own_dr p2) (own_dr p3) (own_dr p4) (own_dr p5)) e61 rfl rfl pd_16 rfl at_212 (by rw [hml]; rfl) rfl (by decide) (by decide) (Nat.le_of_ble_eq_true rfl) (by decide) (by decide) fun v62 T62 L62 X62 q62 => ?_
        obtain ⟨b62_bv, rfl, Nq62, K62, sq_b62_bv, Fp62_0, Fp62_1, Ap62_0⟩ := q62
        have N62 := Fr.app N55 Nq62
        have sz_b62_bv : h0.size ≤ b62_bv := Nat.le_trans (Nat.le_trans (Nat.le_trans (Nat.le_trans (Nat.le_trans (Nat.le_trans (Nat.le_trans (Nat.le_refl _) E51.1) (Keep.of_wr W52).1) (Keep.of_wr W53).1) (Keep.of_wr W54).1) (Keep.of_wr W55).1) E61.1) sq_b62_bv
        have g_b62_bv : n0 ≤ b62_bv := Nat.le_trans Z0 sz_b62_bv
        refine k_none K ?_
        refine k_callS K X62 hx hby hZ [(.ref b61)] [] hown (W hw 26 rfl) (W hw 27 rfl) (W hw 28 rfl) (W hw 29 rfl) (cfl4_1 l Z a0 hw b61 cz vf b62_bv (DRAW p2) (DRAW p3) (DRAW p4) (DRAW p5) T62.heap n0 (Nat.le_trans Z0 (Nat.le_trans (Nat.le_trans (Nat.le_trans (Nat.le_trans (Nat.le_trans (Nat.le_trans (Nat.le_trans (Nat.le_refl _) E51.1) (Keep.of_wr W52).1) (Keep.of_wr W53).1) (Keep.of_wr W54).1) (Keep.of_wr W55).1) E61.1) K62.1)) (A61.keep K62) Fp62_0 Fp62_1 Ap62_0 (((((((O0.ext E51).wr W52 g_b51).wr W53 g_b51).wr W54 g_b51).wr W55 g_b51).ext E61).keep K62 (allS g_b61 all0)) SS hc154_56 hc168_60 (own_dr p2) (own_dr p3) (own_dr p4) (own_dr p5)) rfl rfl rfl pd_17 rfl at_215 (by rw [hml]; rfl) rfl (by decide) (by decide) (Nat.le_of_ble_eq_true rfl) (by decide) (by decide) fun v63 T63 L63 X63 q63 => ?_
        obtain ⟨rfl, e63, rfl⟩ := q63
        replace X63 := own_px X63
        refine k_some K (w := (.int (0 : Int32))) ?_
        refine m_iload K X63.here hx hby at_218 rfl rfl ?_
        refine m_icmpN K X63.here hx hby (q := 223) at_220 (teq (by decide : (0 : Int32) = (0 : Int32))).2 rfl ?_
        refine m_iconst K X63.here hx hby (1 : Int32) at_223 rfl rfl ?_
        refine m_goto K X63.here hx hby (q := 228) at_224 (by decide) rfl ?_
        exact GoW.of_go (Go.retN X63 hx hby hlk hret (by simp) at_228 (by decide) (by decide) (by decide) (⟨rfl, N62⟩))
      · refine m_icmpN K X55.here hx hby (q := 171) at_168 (flt hc168_60).2.2.1 rfl ?_
        refine m_iload K X55.here hx hby at_171 rfl rfl ?_
        refine m_iconst K X55.here hx hby (3 : Int32) at_173 rfl rfl ?_
        refine m_icmpN K X55.here hx hby (q := 177) at_174 (flt (by decide : ¬ ((4 : Int32) < (3 : Int32)))).1 rfl ?_
        refine m_iload K X55.here hx hby at_177 rfl rfl ?_
        refine m_sipush K X55.here hx hby (255 : Int32) at_179 rfl rfl ?_
        by_cases hc182_64 : (255 : Int32) < (DRAW p4)
        · refine m_icmpY K X55.here hx hby (q := 203) at_182 (tlt hc182_64).2.2.1 (by decide) rfl ?_
          refine m_iconst K X55.here hx hby (0 : Int32) at_203 rfl rfl ?_
          refine m_istore K X55.here hx hby #[.val (.int p1), .val (.int p2), .val (.int p3), .val (.int p4), .val (.int p5), .val (.int (4 : Int32)), .val (.int (DRAW p2)), .val (.int (DRAW p3)), .val (.int (DRAW p4)), .val (.int (DRAW p5)), .val (.ref b51), .val (.int (0 : Int32))] at_204 rfl rfl ?_
          refine k_newO K X55 hx hby hZ hown (W hw 5 rfl) (W hw 6 rfl) (W hw 7 rfl) e55 at_206 rfl (by decide) (by decide) fun T65 h65 b65 X65 e65 E65 g65 A65 D65 => ?_
          have sz_b65 : h0.size ≤ b65 := Nat.le_trans (Nat.le_trans (Nat.le_trans (Nat.le_trans (Nat.le_trans (Nat.le_trans (Nat.le_refl _) E51.1) (Keep.of_wr W52).1) (Keep.of_wr W53).1) (Keep.of_wr W54).1) (Keep.of_wr W55).1) (Nat.le_of_eq g65.symm)
          have g_b65 : n0 ≤ b65 := Nat.le_trans Z0 sz_b65
          have F_value_b65 : Fld Z h65 b65 "java/lang/String" "value" "[B" .null := D65 (Or.inr (W hw 20 rfl)) (ty := (.array .byte)) (by decide)
          have F_coder_b65 : Fld Z h65 b65 "java/lang/String" "coder" "B" (.int (0 : Int32)) := D65 (Or.inr (W hw 21 rfl)) (ty := .byte) (by decide)
          refine m_dup K X65.here hx hby at_209 rfl rfl ?_
          refine m_aload K X65.here hx hby at_210 rfl rfl rfl ?_
          refine k_callP K X65 hx hby hZ b65 [(.ref b51)] [(.ref b65)] hown (W hw 8 rfl) (W hw 9 rfl) (W hw 7 rfl) (W hw 10 rfl) rfl (csj4_2 l Z a0 hw b65 b51 cz vf (DRAW p2) (DRAW p3) (DRAW p4) (DRAW p5) h65 n0 (Nat.le_trans Z0 (Nat.le_trans (Nat.le_trans (Nat.le_trans (Nat.le_trans (Nat.le_trans (Nat.le_trans (Nat.le_refl _) E51.1) (Keep.of_wr W52).1) (Keep.of_wr W53).1) (Keep.of_wr W54).1) (Keep.of_wr W55).1) E65.1)) A65 F_value_b65 F_coder_b65 (V55.ext E65) ((((((O0.ext E51).wr W52 g_b51).wr W53 g_b51).wr W54 g_b51).wr W55 g_b51).ext E65) g_b65 SS hc154_56 hc168_60 hc182_64 (own_dr p2) (own_dr p3) (own_dr p4) (own_dr p5)) e65 rfl rfl pd_16 rfl at_212 (by rw [hml]; rfl) rfl (by decide) (by decide) (Nat.le_of_ble_eq_true rfl) (by decide) (by decide) fun v66 T66 L66 X66 q66 => ?_
          obtain ⟨b66_bv, rfl, Nq66, K66, sq_b66_bv, Fp66_0, Fp66_1, Ap66_0⟩ := q66
          have N66 := Fr.app N55 Nq66
          have sz_b66_bv : h0.size ≤ b66_bv := Nat.le_trans (Nat.le_trans (Nat.le_trans (Nat.le_trans (Nat.le_trans (Nat.le_trans (Nat.le_trans (Nat.le_refl _) E51.1) (Keep.of_wr W52).1) (Keep.of_wr W53).1) (Keep.of_wr W54).1) (Keep.of_wr W55).1) E65.1) sq_b66_bv
          have g_b66_bv : n0 ≤ b66_bv := Nat.le_trans Z0 sz_b66_bv
          refine k_none K ?_
          refine k_callS K X66 hx hby hZ [(.ref b65)] [] hown (W hw 26 rfl) (W hw 27 rfl) (W hw 28 rfl) (W hw 29 rfl) (cfl4_2 l Z a0 hw b65 cz vf b66_bv (DRAW p2) (DRAW p3) (DRAW p4) (DRAW p5) T66.heap n0 (Nat.le_trans Z0 (Nat.le_trans (Nat.le_trans (Nat.le_trans (Nat.le_trans (Nat.le_trans (Nat.le_trans (Nat.le_trans (Nat.le_refl _) E51.1) (Keep.of_wr W52).1) (Keep.of_wr W53).1) (Keep.of_wr W54).1) (Keep.of_wr W55).1) E65.1) K66.1)) (A65.keep K66) Fp66_0 Fp66_1 Ap66_0 (((((((O0.ext E51).wr W52 g_b51).wr W53 g_b51).wr W54 g_b51).wr W55 g_b51).ext E65).keep K66 (allS g_b65 all0)) SS hc154_56 hc168_60 hc182_64 (own_dr p2) (own_dr p3) (own_dr p4) (own_dr p5)) rfl rfl rfl pd_17 rfl at_215 (by rw [hml]; rfl) rfl (by decide) (by decide) (Nat.le_of_ble_eq_true rfl) (by decide) (by decide) fun v67 T67 L67 X67 q67 => ?_
          obtain ⟨rfl, e67, rfl⟩ := q67
          replace X67 := own_px X67
          refine k_some K (w := (.int (0 : Int32))) ?_
          refine m_iload K X67.here hx hby at_218 rfl rfl ?_
          refine m_icmpN K X67.here hx hby (q := 223) at_220 (teq (by decide : (0 : Int32) = (0 : Int32))).2 rfl ?_
          refine m_iconst K X67.here hx hby (1 : Int32) at_223 rfl rfl ?_
          refine m_goto K X67.here hx hby (q := 228) at_224 (by decide) rfl ?_
          exact GoW.of_go (Go.retN X67 hx hby hlk hret (by simp) at_228 (by decide) (by decide) (by decide) (⟨rfl, N66⟩))
        · refine m_icmpN K X55.here hx hby (q := 185) at_182 (flt hc182_64).2.2.1 rfl ?_
          refine m_iload K X55.here hx hby at_185 rfl rfl ?_
          refine m_iconst K X55.here hx hby (4 : Int32) at_187 rfl rfl ?_
          refine m_icmpN K X55.here hx hby (q := 191) at_188 (flt (by decide : ¬ ((4 : Int32) < (4 : Int32)))).1 rfl ?_
          refine m_iload K X55.here hx hby at_191 rfl rfl ?_
          refine m_sipush K X55.here hx hby (255 : Int32) at_193 rfl rfl ?_
          by_cases hc196_68 : (255 : Int32) < (DRAW p5)
          · refine m_icmpY K X55.here hx hby (q := 203) at_196 (tlt hc196_68).2.2.1 (by decide) rfl ?_
            refine m_iconst K X55.here hx hby (0 : Int32) at_203 rfl rfl ?_
            refine m_istore K X55.here hx hby #[.val (.int p1), .val (.int p2), .val (.int p3), .val (.int p4), .val (.int p5), .val (.int (4 : Int32)), .val (.int (DRAW p2)), .val (.int (DRAW p3)), .val (.int (DRAW p4)), .val (.int (DRAW p5)), .val (.ref b51), .val (.int (0 : Int32))] at_204 rfl rfl ?_
            refine k_newO K X55 hx hby hZ hown (W hw 5 rfl) (W hw 6 rfl) (W hw 7 rfl) e55 at_206 rfl (by decide) (by decide) fun T69 h69 b69 X69 e69 E69 g69 A69 D69 => ?_
            have sz_b69 : h0.size ≤ b69 := Nat.le_trans (Nat.le_trans (Nat.le_trans (Nat.le_trans (Nat.le_trans (Nat.le_trans (Nat.le_refl _) E51.1) (Keep.of_wr W52).1) (Keep.of_wr W53).1) (Keep.of_wr W54).1) (Keep.of_wr W55).1) (Nat.le_of_eq g69.symm)
            have g_b69 : n0 ≤ b69 := Nat.le_trans Z0 sz_b69
            have F_value_b69 : Fld Z h69 b69 "java/lang/String" "value" "[B" .null := D69 (Or.inr (W hw 20 rfl)) (ty := (.array .byte)) (by decide)
            have F_coder_b69 : Fld Z h69 b69 "java/lang/String" "coder" "B" (.int (0 : Int32)) := D69 (Or.inr (W hw 21 rfl)) (ty := .byte) (by decide)
            refine m_dup K X69.here hx hby at_209 rfl rfl ?_
            refine m_aload K X69.here hx hby at_210 rfl rfl rfl ?_
            refine k_callP K X69 hx hby hZ b69 [(.ref b51)] [(.ref b69)] hown (W hw 8 rfl) (W hw 9 rfl) (W hw 7 rfl) (W hw 10 rfl) rfl (csj4_3 l Z a0 hw b69 b51 cz vf (DRAW p2) (DRAW p3) (DRAW p4) (DRAW p5) h69 n0 (Nat.le_trans Z0 (Nat.le_trans (Nat.le_trans (Nat.le_trans (Nat.le_trans (Nat.le_trans (Nat.le_trans (Nat.le_refl _) E51.1) (Keep.of_wr W52).1) (Keep.of_wr W53).1) (Keep.of_wr W54).1) (Keep.of_wr W55).1) E69.1)) A69 F_value_b69 F_coder_b69 (V55.ext E69) ((((((O0.ext E51).wr W52 g_b51).wr W53 g_b51).wr W54 g_b51).wr W55 g_b51).ext E69) g_b69 SS hc154_56 hc168_60 hc182_64 hc196_68 (own_dr p2) (own_dr p3) (own_dr p4) (own_dr p5)) e69 rfl rfl pd_16 rfl at_212 (by rw [hml]; rfl) rfl (by decide) (by decide) (Nat.le_of_ble_eq_true rfl) (by decide) (by decide) fun v70 T70 L70 X70 q70 => ?_
            obtain ⟨b70_bv, rfl, Nq70, K70, sq_b70_bv, Fp70_0, Fp70_1, Ap70_0⟩ := q70
            have N70 := Fr.app N55 Nq70
            have sz_b70_bv : h0.size ≤ b70_bv := Nat.le_trans (Nat.le_trans (Nat.le_trans (Nat.le_trans (Nat.le_trans (Nat.le_trans (Nat.le_trans (Nat.le_refl _) E51.1) (Keep.of_wr W52).1) (Keep.of_wr W53).1) (Keep.of_wr W54).1) (Keep.of_wr W55).1) E69.1) sq_b70_bv
            have g_b70_bv : n0 ≤ b70_bv := Nat.le_trans Z0 sz_b70_bv
            refine k_none K ?_
            refine k_callS K X70 hx hby hZ [(.ref b69)] [] hown (W hw 26 rfl) (W hw 27 rfl) (W hw 28 rfl) (W hw 29 rfl) (cfl4_3 l Z a0 hw b69 cz vf b70_bv (DRAW p2) (DRAW p3) (DRAW p4) (DRAW p5) T70.heap n0 (Nat.le_trans Z0 (Nat.le_trans (Nat.le_trans (Nat.le_trans (Nat.le_trans (Nat.le_trans (Nat.le_trans (Nat.le_trans (Nat.le_refl _) E51.1) (Keep.of_wr W52).1) (Keep.of_wr W53).1) (Keep.of_wr W54).1) (Keep.of_wr W55).1) E69.1) K70.1)) (A69.keep K70) Fp70_0 Fp70_1 Ap70_0 (((((((O0.ext E51).wr W52 g_b51).wr W53 g_b51).wr W54 g_b51).wr W55 g_b51).ext E69).keep K70 (allS g_b69 all0)) SS hc154_56 hc168_60 hc182_64 hc196_68 (own_dr p2) (own_dr p3) (own_dr p4) (own_dr p5)) rfl rfl rfl pd_17 rfl at_215 (by rw [hml]; rfl) rfl (by decide) (by decide) (Nat.le_of_ble_eq_true rfl) (by decide) (by decide) fun v71 T71 L71 X71 q71 => ?_
            obtain ⟨rfl, e71, rfl⟩ := q71
            replace X71 := own_px X71
            refine k_some K (w := (.int (0 : Int32))) ?_
            refine m_iload K X71.here hx hby at_218 rfl rfl ?_
            refine m_icmpN K X71.here hx hby (q := 223) at_220 (teq (by decide : (0 : Int32) = (0 : Int32))).2 rfl ?_
            refine m_iconst K X71.here hx hby (1 : Int32) at_223 rfl rfl ?_
            refine m_goto K X71.here hx hby (q := 228) at_224 (by decide) rfl ?_
            exact GoW.of_go (Go.retN X71 hx hby hlk hret (by simp) at_228 (by decide) (by decide) (by decide) (⟨rfl, N70⟩))
          · refine m_icmpN K X55.here hx hby (q := 199) at_196 (flt hc196_68).2.2.1 rfl ?_
            refine m_iconst K X55.here hx hby (1 : Int32) at_199 rfl rfl ?_
            refine m_goto K X55.here hx hby (q := 204) at_200 (by decide) rfl ?_
            refine m_istore K X55.here hx hby #[.val (.int p1), .val (.int p2), .val (.int p3), .val (.int p4), .val (.int p5), .val (.int (4 : Int32)), .val (.int (DRAW p2)), .val (.int (DRAW p3)), .val (.int (DRAW p4)), .val (.int (DRAW p5)), .val (.ref b51), .val (.int (1 : Int32))] at_204 rfl rfl ?_
            refine k_newO K X55 hx hby hZ hown (W hw 5 rfl) (W hw 6 rfl) (W hw 7 rfl) e55 at_206 rfl (by decide) (by decide) fun T72 h72 b72 X72 e72 E72 g72 A72 D72 => ?_
            have sz_b72 : h0.size ≤ b72 := Nat.le_trans (Nat.le_trans (Nat.le_trans (Nat.le_trans (Nat.le_trans (Nat.le_trans (Nat.le_refl _) E51.1) (Keep.of_wr W52).1) (Keep.of_wr W53).1) (Keep.of_wr W54).1) (Keep.of_wr W55).1) (Nat.le_of_eq g72.symm)
            have g_b72 : n0 ≤ b72 := Nat.le_trans Z0 sz_b72
            have F_value_b72 : Fld Z h72 b72 "java/lang/String" "value" "[B" .null := D72 (Or.inr (W hw 20 rfl)) (ty := (.array .byte)) (by decide)
            have F_coder_b72 : Fld Z h72 b72 "java/lang/String" "coder" "B" (.int (0 : Int32)) := D72 (Or.inr (W hw 21 rfl)) (ty := .byte) (by decide)
            refine m_dup K X72.here hx hby at_209 rfl rfl ?_
            refine m_aload K X72.here hx hby at_210 rfl rfl rfl ?_
            refine k_callP K X72 hx hby hZ b72 [(.ref b51)] [(.ref b72)] hown (W hw 8 rfl) (W hw 9 rfl) (W hw 7 rfl) (W hw 10 rfl) rfl (csj4_4 l Z a0 hw b72 b51 cz vf (DRAW p2) (DRAW p3) (DRAW p4) (DRAW p5) h72 n0 (Nat.le_trans Z0 (Nat.le_trans (Nat.le_trans (Nat.le_trans (Nat.le_trans (Nat.le_trans (Nat.le_trans (Nat.le_refl _) E51.1) (Keep.of_wr W52).1) (Keep.of_wr W53).1) (Keep.of_wr W54).1) (Keep.of_wr W55).1) E72.1)) A72 F_value_b72 F_coder_b72 (V55.ext E72) ((((((O0.ext E51).wr W52 g_b51).wr W53 g_b51).wr W54 g_b51).wr W55 g_b51).ext E72) g_b72 SS hc154_56 hc168_60 hc182_64 hc196_68) e72 rfl rfl pd_16 rfl at_212 (by rw [hml]; rfl) rfl (by decide) (by decide) (Nat.le_of_ble_eq_true rfl) (by decide) (by decide) fun v73 T73 L73 X73 q73 => ?_
            obtain ⟨b73_bv, rfl, Nq73, K73, sq_b73_bv, Fp73_0, Fp73_1, Ap73_0⟩ := q73
            have N73 := Fr.app N55 Nq73
            have sz_b73_bv : h0.size ≤ b73_bv := Nat.le_trans (Nat.le_trans (Nat.le_trans (Nat.le_trans (Nat.le_trans (Nat.le_trans (Nat.le_trans (Nat.le_refl _) E51.1) (Keep.of_wr W52).1) (Keep.of_wr W53).1) (Keep.of_wr W54).1) (Keep.of_wr W55).1) E72.1) sq_b73_bv
            have g_b73_bv : n0 ≤ b73_bv := Nat.le_trans Z0 sz_b73_bv
            refine k_none K ?_
            refine k_callS K X73 hx hby hZ [(.ref b72)] [] hown (W hw 26 rfl) (W hw 27 rfl) (W hw 28 rfl) (W hw 29 rfl) (cfl4 l Z a0 hw b72 cz vf b73_bv (nar .byte ((DRAW p2).toInt8.toInt32)) (nar .byte ((DRAW p3).toInt8.toInt32)) (nar .byte ((DRAW p4).toInt8.toInt32)) (nar .byte ((DRAW p5).toInt8.toInt32)) T73.heap n0 (Nat.le_trans Z0 (Nat.le_trans (Nat.le_trans (Nat.le_trans (Nat.le_trans (Nat.le_trans (Nat.le_trans (Nat.le_trans (Nat.le_refl _) E51.1) (Keep.of_wr W52).1) (Keep.of_wr W53).1) (Keep.of_wr W54).1) (Keep.of_wr W55).1) E72.1) K73.1)) (A72.keep K73) Fp73_0 Fp73_1 Ap73_0 (((((((O0.ext E51).wr W52 g_b51).wr W53 g_b51).wr W54 g_b51).wr W55 g_b51).ext E72).keep K73 (allS g_b72 all0)) SS) rfl rfl rfl pd_17 rfl at_215 (by rw [hml]; rfl) rfl (by decide) (by decide) (Nat.le_of_ble_eq_true rfl) (by decide) (by decide) fun v74 T74 L74 X74 q74 => ?_
            obtain ⟨rfl, e74, rfl⟩ := q74
            replace X74 := own_px X74
            refine k_some K (w := (.int (1 : Int32))) ?_
            refine m_iload K X74.here hx hby at_218 rfl rfl ?_
            refine m_icmpN K X74.here hx hby (q := 223) at_220 (teq (by decide : (1 : Int32) = (1 : Int32))).2 rfl ?_
            refine m_iconst K X74.here hx hby (1 : Int32) at_223 rfl rfl ?_
            refine m_goto K X74.here hx hby (q := 228) at_224 (by decide) rfl ?_
            exact GoW.of_go (Go.retN X74 hx hby hlk hret (by simp) at_228 (by decide) (by decide) (by decide) (⟨rfl, N73⟩))
theorem own_eqi {t : Term} {k : Int32} {args : Array Value} {first s : State} {o : Option Outcome} {idx : List Nat} (h : (Jvm.Cond.eq t (Term.int k)).value args first o s idx = some true) : t.eval args first o idx s = some (.int k) := by
  obtain ⟨x, y, h1, h2, k1, k2⟩ := cmp_v (Or.inl h)
  rw [Term.int_eval] at h2
  cases h2
  obtain ⟨z, rfl⟩ := k2
  have e : (Jvm.Cond.eq t (Term.int k)).value args first o s idx = some (decide (z = k)) := by simp [Jvm.Cond.value, h1, Term.int_eval]
  rw [h1, gotT e h]
theorem own_lenv {t : Term} {n : Int32} {x : Addr} {cl : Cell} {args : Array Value} {first s : State} {o : Option Outcome} {idx : List Nat} (h : (Term.length t).eval args first o idx s = some (.int n)) (ht : t.eval args first o idx s = some (.ref x)) (ha : s.arrayAt? x = some cl) : cl.slots.size < 2147483648 ∧ cl.slots.size.toInt32 = n := by
  simp only [Term.eval, ht, Option.bind_eq_bind, Option.bind_some, ha] at h
  by_cases hn : cl.slots.size < 2147483648
  · rw [if_pos hn] at h; cases h; exact ⟨hn, rfl⟩
  · rw [if_neg hn] at h; cases h
theorem own_full {cl : Cell} {vs : List Value} (hs : cl.slots.size = vs.length) (H : HasL cl 0 vs) : cl.slots = vs.toArray := by
  refine Array.ext_getElem? fun i => ?_
  by_cases q : i < vs.length
  · have := HasL.at (dv := .null) vs 0 H i q
    rw [Nat.zero_add] at this
    rw [this]; simp [q]
  · rw [Array.getElem?_eq_none (by omega), List.getElem?_toArray, List.getElem?_eq_none (by omega)]
theorem own_isRef {t : Term} {args : Array Value} {first s : State} {o : Option Outcome} {idx : List Nat} (h : (Jvm.Cond.isRef t).value args first o s idx = some true) : ∃ v, t.eval args first o idx s = some v ∧ v.isRef = true := by
  simp only [Jvm.Cond.value] at h
  cases e : t.eval args first o idx s with
  | none => simp [e] at h
  | some v => refine ⟨v, rfl, ?_⟩; cases v <;> simp_all [Value.isRef]
theorem own_not0 {t : Term} {args : Array Value} {s : State} {cz : Int32} (e : t.eval args s none [] s = some (.int cz)) (h : (Jvm.Cond.not (Jvm.Cond.eq t (Jvm.Term.int 0))).value args s none s [] = some true) : ¬ (cz = (0 : Int32)) := by
  intro q
  subst q
  simp [Jvm.Cond.value, e, Term.int_eval] at h
set_option maxRecDepth 65536 in
set_option maxHeartbeats 40000000 in
theorem comes_1 {Post : Tables → Env → Array Value → State → Outcome → State → Prop} (hpost : ∀ tb e args s v u, (limb_1_1.after args s (.returned v) u = true ∧ limb_1_2.after args s (.returned v) u = true ∧ True) → ReturnedEndW s (.returned v) u (Jvm.fieldLocs frame_1_writes args s ++ Jvm.arrayLocs frame_1_arrays args s ++ Jvm.staticLocs frame_1_statics s) 24 1152 → Post tb e args s (.returned v) u) :
    ArmFor flags0 classFile x code maxLocals ret World_1 tables_1 room_1 Calls_1 rest_1 Pre_1 Post := by
  intro l hfl _ _ p e ha hc hk s m args below hf hA hF happ hP
  obtain ⟨hcalls, hrest, hpre⟩ := hP
  obtain ⟨-, -, -, hnamed, -, -, -, hat⟩ := (Spec.applies_iff hf).mp happ
  obtain ⟨hg, hn⟩ := and_e (Cond.before_iff.mp (show (Jvm.Cond.and given_1 narrow_1).before args s = true from hpre))
  obtain ⟨g1, g2⟩ := and_e hg
  obtain ⟨w0, w1, w2, w3, w4, rfl⟩ : ∃ w0 w1 w2 w3 w4 : Value, args = #[w0, w1, w2, w3, w4] := by
    have hs : args.size = 5 := by simpa [Cond.value, given_1] using g1
    obtain ⟨L⟩ := args
    match L, hs with
    | [w0, w1, w2, w3, w4], _ => exact ⟨w0, w1, w2, w3, w4, rfl⟩
  obtain ⟨k0, r0⟩ := and_e g2
  obtain ⟨i0, z0⟩ := is_v k0
  obtain rfl : w0 = (.int i0) := Option.some.inj z0
  obtain ⟨k1, r1⟩ := and_e r0
  obtain ⟨i1, z1⟩ := is_v k1
  obtain rfl : w1 = (.int i1) := Option.some.inj z1
  obtain ⟨k2, r2⟩ := and_e r1
  obtain ⟨i2, z2⟩ := is_v k2
  obtain rfl : w2 = (.int i2) := Option.some.inj z2
  obtain ⟨k3, r3⟩ := and_e r2
  obtain ⟨i3, z3⟩ := is_v k3
  obtain rfl : w3 = (.int i3) := Option.some.inj z3
  obtain ⟨i4, z4⟩ := is_v r3
  obtain rfl : w4 = (.int i4) := Option.some.inj z4
  have hw := fun d (hd : d ∈ tables_1) => atoms_spec (ws := Jvm.Cond.code x code maxLocals ret :: tables_1) hat d (List.mem_cons_of_mem _ hd)
  have hfit : Fit s := fun {y c} hc i hi => by
    obtain ⟨ha, rfl⟩ := Array.getElem?_eq_some_iff.mp hc
    have q := List.all_eq_true.mp ((Array.all_eq_true_iff_forall_mem.mp hF) _ (Array.getElem_mem ha)) i (List.mem_range.mpr hi)
    simpa [Array.getElem?_eq_getElem hi] using q
  obtain ⟨hsets, hown0⟩ := atoms_of _ (rest_1_c_eq ▸ (show rest_1_c.before _ s = true from hrest))
  obtain ⟨cz, e_CS⟩ := is_v (Cond.before_iff.mp (hsets _ (List.mem_of_getElem? (i := 1) rfl)))
  obtain ⟨vf, e_SI, hrf⟩ := own_isRef (Cond.before_iff.mp (hsets _ (List.mem_of_getElem? (i := 8) rfl)))
  have HCW : Jvm.Lit.compactW.before _ s = true := (hsets _ (List.mem_of_getElem? (i := 2) rfl))
  have hcz : ¬ (cz = (0 : Int32)) := own_not0 e_CS (Cond.before_iff.mp HCW)
  have SS : SSt s cz vf := ⟨Sta.start e_CS (Or.inl (hsets _ (List.mem_of_getElem? (i := 0) rfl))), Sta.start e_SI (Or.inl (hsets _ (List.mem_of_getElem? (i := 7) rfl))), Sta.start (own_eqi (Cond.before_iff.mp (hsets _ (List.mem_of_getElem? (i := 12) rfl)))) (Or.inl (hsets _ (List.mem_of_getElem? (i := 11) rfl))), Sta.start (own_eqi (Cond.before_iff.mp (hsets _ (List.mem_of_getElem? (i := 15) rfl)))) (Or.inl (hsets _ (List.mem_of_getElem? (i := 14) rfl))), Sta.start (own_eqi (Cond.before_iff.mp (hsets _ (List.mem_of_getElem? (i := 18) rfl)))) (Or.inl (hsets _ (List.mem_of_getElem? (i := 17) rfl))), hcz, hrf⟩
  have HH : Jvm.Lit.constHeld s "java/lang/String" 7 := hcalls.1 _ (List.mem_singleton.mpr rfl)
  obtain ⟨n, o, h1, h2, h3, _, L, rfl, ⟨rfl, N⟩, hq⟩ := law0 l s _ hw tables_1 i0 i1 i2 i3 i4 cz vf s.heap s.heap.size (Nat.le_refl _) (Old.start s) SS HH HCW p e ha hc hk s m _ below hf ((Spec.applies_iff_loose hf).mp happ).1 ⟨rfl, State.Warmed39.refl s, rfl, rfl⟩ trivial
  refine ⟨n, _, h1, h2, h3, hpost _ _ _ _ _ _ ⟨Cond.after_iff.mpr rfl, Cond.after_iff.mpr (eq_i res_at (Term.int_eval (1)) rfl), trivial⟩ ⟨hq.1, hq.2.1, hq.2.2.1, (hq.2.2.2.sift fun y hy => Or.inr (N y hy)).mono (by decide) (by decide)⟩⟩
theorem main_1_1 : Claimed_1_1 := comes_1 fun _ _ _ _ _ _ h hF => ⟨h.1, hF⟩
theorem main_1_2 : Claimed_1_2 := comes_1 fun _ _ _ _ _ _ h hF => ⟨h.2.1, hF⟩
end Jvm.Pilot.@@N@@
namespace Jvm.Pilot.@@N@@
open Jvm Jvm.ClassFile Sem Op Lib Jvm.Free Jvm.Stand Jvm.Pilot.@@N@@.Jvm.D
/-! MADE BY PROGRAM (witnessworld.py) out of the Statement's table words and the real class files: 20 classes; the members and pool entries that the words name. The judged class is class 1, her method 1. -/
namespace start1
open Jvm.ClassFile
def u (s : String) : CpInfo := .utf8 (stringToUtf16 s)
/-- a pool by its gaps: so many unusable entries, then the entry; so many at the end -/
def gap : Nat → List CpInfo → List CpInfo
  | 0, r => r
  | n + 1, r => .unusable :: gap n r
def poolList (es : List (Nat × CpInfo)) (last : Nat) : List CpInfo := es.foldr (fun e r => gap e.1 (e.2 :: r)) (gap last [])
def pool (es : List (Nat × CpInfo)) (last : Nat) : Array CpInfo := ⟨poolList es last⟩
def fileOf (pool : Array CpInfo) (this : Nat) (attrs : Array Attribute := #[]) (ms : Array MethodInfo := #[]) (fl : Nat := 33) (sup : Nat := 0) (ifs : Array Nat := #[]) (fds : Array FieldInfo := #[]) : ClassFile where
  minorVersion := 0
  majorVersion := 65
  constantPool := pool
  accessFlags := fl
  thisClass := this
  superClass := sup
  interfaces := ifs
  fields := fds
  methods := ms
  attributes := attrs
def plain (name : String) (sup : Option ClassId) : Class where
  name := name
  kind := .ordinary
  loader := none
  accessFlags := 33
  super := sup
  interfaces := #[]
  cf := none
  fields := #[]
  methods := #[]
  instanceTypes := #[]
  staticTypes := #[]
  resolved := #[]
  callSites := []
  init := .initialized
  statics := none
  mirror := none

def pool0 : Array CpInfo := pool [(5, u "<init>"), (0, u "()V"), (1, .class_ 10), (1, u "java/lang/Object")] 113

def k0c0 : Code := { maxStack := 0, maxLocals := 1, code := object_method_1_code, exceptionTable := #[], attributes := #[] }
def k0m0 : Method := { name := "<init>", desc := "()V", sig := { parameters := [], returnType := none }, accessFlags := 1, code := some k0c0 }
/-- java/lang/Object -/
def k0 : Class := { plain "java/lang/Object" none with
  accessFlags := 33
  interfaces := #[]
  cf := some (fileOf pool0 8 #[] #[{ accessFlags := 1, nameIndex := 5, descriptorIndex := 6, attributes := #[] }] 33 0 #[] #[])
  fields := #[]
  methods := #[k0m0]
  instanceTypes := #[]
  staticTypes := #[]
  resolved := Array.replicate 124 none
  statics := none }

def pool1 : Array CpInfo := pool [(2, .class_ 4), (1, u "java/lang/Object"), (0, u "<init>"), (0, u "()V"), (0, .methodref 8 9), (0, .class_ 10), (0, .nameAndType 11 12), (0, u "com/example/stamp2/stamp2/memory/FootprintIsLatin1PinLaw"), (0, u "draw"), (0, u "(I)C"), (0, .class_ 14), (0, u "java/lang/String"), (0, .methodref 13 16), (0, .nameAndType 5 17), (0, u "([C)V"), (0, .methodref 19 20), (0, .class_ 21), (0, .nameAndType 22 23), (0, u "com/example/stamp2/stamp2/memory/Footprint"), (0, u "isLatin1"), (0, u "(Ljava/lang/String;)Z"), (0, .integer 65535), (2, u "law"), (0, u "(IIIII)Z")] 5

def k1m0 : Method := { name := "<init>", desc := "()V", sig := { parameters := [], returnType := none }, accessFlags := 1, code := none }
def k1c1 : Code := { maxStack := 4, maxLocals := 12, code := code, exceptionTable := #[], attributes := #[] }
def k1m1 : Method := { name := "law", desc := "(IIIII)Z", sig := { parameters := [.int, .int, .int, .int, .int], returnType := some .boolean }, accessFlags := 9, code := some k1c1 }
def k1c2 : Code := { maxStack := 2, maxLocals := 1, code := method_3_code, exceptionTable := #[], attributes := #[] }
def k1m2 : Method := { name := "draw", desc := "(I)C", sig := { parameters := [.int], returnType := some .char }, accessFlags := 10, code := some k1c2 }
/-- com/example/stamp2/stamp2/memory/FootprintIsLatin1PinLaw -/
def k1 : Class := { plain "com/example/stamp2/stamp2/memory/FootprintIsLatin1PinLaw" (some 0) with
  accessFlags := 49
  interfaces := #[]
  cf := some (fileOf pool1 8 #[] #[{ accessFlags := 1, nameIndex := 5, descriptorIndex := 6, attributes := #[] }, { accessFlags := 9, nameIndex := 27, descriptorIndex := 28, attributes := #[] }, { accessFlags := 10, nameIndex := 11, descriptorIndex := 12, attributes := #[] }] 49 2 #[] #[])
  fields := #[]
  methods := #[k1m0, k1m1, k1m2]
  instanceTypes := #[]
  staticTypes := #[]
  resolved := Array.replicate 34 none
  statics := none }

def pool2 : Array CpInfo := pool [(1, .class_ 2), (0, u "java/io/Serializable"), (0, .class_ 4), (0, u "java/lang/Object")] 2

/-- java/io/Serializable -/
def k2 : Class := { plain "java/io/Serializable" (some 0) with
  accessFlags := 1537
  interfaces := #[]
  cf := some (fileOf pool2 1 #[] #[] 1537 3 #[] #[])
  fields := #[]
  methods := #[]
  instanceTypes := #[]
  staticTypes := #[]
  resolved := Array.replicate 7 none
  statics := none }

def pool3 : Array CpInfo := pool [(1, .class_ 2), (0, u "java/lang/Comparable"), (0, .class_ 4), (0, u "java/lang/Object")] 7

/-- java/lang/Comparable -/
def k3 : Class := { plain "java/lang/Comparable" (some 0) with
  accessFlags := 1537
  interfaces := #[]
  cf := some (fileOf pool3 1 #[] #[] 1537 3 #[] #[])
  fields := #[]
  methods := #[]
  instanceTypes := #[]
  staticTypes := #[]
  resolved := Array.replicate 12 none
  statics := none }

def pool4 : Array CpInfo := pool [(2, .class_ 4), (1, u "java/lang/CharSequence"), (42, .class_ 48), (0, u "java/lang/CharSequence$1CodePointIterator"), (10, .class_ 60), (0, u "java/lang/CharSequence$1CharIterator"), (5, .class_ 67), (0, u "java/lang/Object")] 63

/-- java/lang/CharSequence -/
def k4 : Class := { plain "java/lang/CharSequence" (some 0) with
  accessFlags := 1537
  interfaces := #[]
  cf := some (fileOf pool4 2 #[.nestMembers #[47, 59]] #[] 1537 66 #[] #[])
  fields := #[]
  methods := #[]
  instanceTypes := #[]
  staticTypes := #[]
  resolved := Array.replicate 131 none
  statics := none }

def pool5 : Array CpInfo := pool [(1, .class_ 2), (0, u "java/lang/constant/Constable"), (0, .class_ 4), (0, u "java/lang/Object")] 6

/-- java/lang/constant/Constable -/
def k5 : Class := { plain "java/lang/constant/Constable" (some 0) with
  accessFlags := 1537
  interfaces := #[]
  cf := some (fileOf pool5 1 #[] #[] 1537 3 #[] #[])
  fields := #[]
  methods := #[]
  instanceTypes := #[]
  staticTypes := #[]
  resolved := Array.replicate 11 none
  statics := none }

def pool6 : Array CpInfo := pool [(1, .class_ 2), (0, u "java/lang/constant/ConstantDesc"), (0, .class_ 4), (0, u "java/lang/Object")] 32

/-- java/lang/constant/ConstantDesc -/
def k6 : Class := { plain "java/lang/constant/ConstantDesc" (some 0) with
  accessFlags := 1537
  interfaces := #[]
  cf := some (fileOf pool6 1 #[] #[] 1537 3 #[] #[])
  fields := #[]
  methods := #[]
  instanceTypes := #[]
  staticTypes := #[]
  resolved := Array.replicate 37 none
  statics := none }

def pool7 : Array CpInfo := pool [(1, .methodref 2 3), (0, .class_ 4), (0, .nameAndType 5 6), (0, u "java/lang/Object"), (0, u "<init>"), (0, u "()V"), (0, .string 8), (0, u ""), (0, .fieldref 10 11), (0, .class_ 12), (0, .nameAndType 13 14), (0, u "java/lang/String"), (0, u "value"), (0, u "[B"), (0, .fieldref 10 16), (0, .nameAndType 17 18), (0, u "coder"), (0, u "B"), (2, u "hash"), (0, u "I"), (2, u "hashIsZero"), (0, u "Z"), (0, .methodref 10 28), (0, .nameAndType 5 29), (0, u "([CIILjava/lang/Void;)V"), (8, .fieldref 10 39), (0, .nameAndType 40 26), (0, u "COMPACT_STRINGS"), (1, .class_ 44), (1, u "java/lang/StringUTF16"), (0, u "compress"), (1, .methodref 42 48), (0, .nameAndType 49 50), (0, u "coderFromArrayLen"), (0, u "([BI)B"), (56, .class_ 109), (1, u "java/lang/StringLatin1"), (32, u "()Z"), (34, .methodref 42 178), (0, .nameAndType 45 179), (0, u "([CII)[B"), (154, u "()I"), (0, .methodref 10 336), (0, .nameAndType 17 337), (0, u "()B"), (25, u "([BI)C"), (27, u "(II)V"), (35, u "(I)C"), (64, .methodref 10 493), (0, .nameAndType 494 142), (0, u "isLatin1"), (0, .methodref 107 496), (0, .nameAndType 497 363), (0, u "charAt"), (0, .methodref 42 496), (2, u "checkIndex"), (5, u "length"), (67, .class_ 576), (0, u "java/lang/CharSequence"), (22, u "CASE_INSENSITIVE_ORDER"), (0, u "Ljava/util/Comparator;"), (409, u "([C)V"), (42, .fieldref 1054 1055), (0, .class_ 1056), (0, .nameAndType 1057 1058), (0, u "jdk/internal/util/Preconditions"), (0, u "SIOOBE_FORMATTER"), (0, u "Ljava/util/function/BiFunction;"), (0, .methodref 1054 1060), (0, .nameAndType 501 1061), (0, u "(IILjava/util/function/BiFunction;)I"), (39, u "serialPersistentFields"), (0, u "[Ljava/io/ObjectStreamField;"), (0, .class_ 1104), (0, u "java/lang/String$CaseInsensitiveComparator"), (1, .class_ 1107), (0, u "java/io/Serializable"), (0, .class_ 1109), (0, u "java/lang/Comparable"), (0, .class_ 1111), (0, u "java/lang/constant/Constable"), (0, .class_ 1113), (0, u "java/lang/constant/ConstantDesc"), (2, u "serialVersionUID"), (0, u "J"), (3, u "REPL"), (0, u "C"), (2, u "LATIN1"), (1, u "UTF16")] 323

def k7m0 : Method := { name := "<init>", desc := "()V", sig := { parameters := [], returnType := none }, accessFlags := 1, code := none }
def k7c1 : Code := { maxStack := 5, maxLocals := 2, code := jdk_42_method_3_code, exceptionTable := #[], attributes := #[] }
def k7m1 : Method := { name := "<init>", desc := "([C)V", sig := { parameters := [(.array .char)], returnType := none }, accessFlags := 1, code := some k7c1 }
def k7c2 : Code := { maxStack := 2, maxLocals := 1, code := jdk_42_method_54_code, exceptionTable := #[], attributes := #[] }
def k7m2 : Method := { name := "length", desc := "()I", sig := { parameters := [], returnType := some .int }, accessFlags := 1, code := some k7c2 }
def k7c3 : Code := { maxStack := 2, maxLocals := 2, code := jdk_42_method_56_code, exceptionTable := #[], attributes := #[] }
def k7m3 : Method := { name := "charAt", desc := "(I)C", sig := { parameters := [.int], returnType := some .char }, accessFlags := 1, code := some k7c3 }
def k7c4 : Code := { maxStack := 4, maxLocals := 6, code := jdk_42_method_149_code, exceptionTable := #[], attributes := #[] }
def k7m4 : Method := { name := "<init>", desc := "([CIILjava/lang/Void;)V", sig := { parameters := [(.array .char), .int, .int, (.object "java/lang/Void")], returnType := none }, accessFlags := 2, code := some k7c4 }
def k7c5 : Code := { maxStack := 1, maxLocals := 1, code := jdk_42_method_152_code, exceptionTable := #[], attributes := #[] }
def k7m5 : Method := { name := "coder", desc := "()B", sig := { parameters := [], returnType := some .byte }, accessFlags := 0, code := some k7c5 }
def k7c6 : Code := { maxStack := 1, maxLocals := 1, code := jdk_42_method_154_code, exceptionTable := #[], attributes := #[] }
def k7m6 : Method := { name := "isLatin1", desc := "()Z", sig := { parameters := [], returnType := some .boolean }, accessFlags := 0, code := some k7c6 }
def k7c7 : Code := { maxStack := 3, maxLocals := 2, code := jdk_42_method_155_code, exceptionTable := #[], attributes := #[] }
def k7m7 : Method := { name := "checkIndex", desc := "(II)V", sig := { parameters := [.int, .int], returnType := none }, accessFlags := 8, code := some k7c7 }
/-- java/lang/String -/
def k7 : Class := { plain "java/lang/String" (some 0) with
  accessFlags := 49
  interfaces := #[2, 3, 4, 5, 6]
  cf := some (fileOf pool7 10 #[.nestMembers #[1103]] #[{ accessFlags := 1, nameIndex := 5, descriptorIndex := 6, attributes := #[] }, { accessFlags := 1, nameIndex := 5, descriptorIndex := 1010, attributes := #[] }, { accessFlags := 1, nameIndex := 507, descriptorIndex := 334, attributes := #[] }, { accessFlags := 1, nameIndex := 497, descriptorIndex := 427, attributes := #[] }, { accessFlags := 2, nameIndex := 5, descriptorIndex := 29, attributes := #[] }, { accessFlags := 0, nameIndex := 17, descriptorIndex := 337, attributes := #[] }, { accessFlags := 0, nameIndex := 494, descriptorIndex := 142, attributes := #[] }, { accessFlags := 8, nameIndex := 501, descriptorIndex := 391, attributes := #[] }] 49 2 #[1106, 1108, 575, 1110, 1112] #[{ accessFlags := 18, nameIndex := 13, descriptorIndex := 14, attributes := #[] }, { accessFlags := 18, nameIndex := 17, descriptorIndex := 18, attributes := #[] }, { accessFlags := 2, nameIndex := 21, descriptorIndex := 22, attributes := #[] }, { accessFlags := 2, nameIndex := 25, descriptorIndex := 26, attributes := #[] }, { accessFlags := 26, nameIndex := 1116, descriptorIndex := 1117, attributes := #[] }, { accessFlags := 24, nameIndex := 40, descriptorIndex := 26, attributes := #[] }, { accessFlags := 26, nameIndex := 1101, descriptorIndex := 1102, attributes := #[] }, { accessFlags := 26, nameIndex := 1121, descriptorIndex := 1122, attributes := #[] }, { accessFlags := 25, nameIndex := 599, descriptorIndex := 600, attributes := #[] }, { accessFlags := 24, nameIndex := 1125, descriptorIndex := 18, attributes := #[] }, { accessFlags := 24, nameIndex := 1127, descriptorIndex := 18, attributes := #[] }])
  fields := #[{ name := "value", type := (.array .byte), accessFlags := 18, slot := 0, constantValue := 0 }, { name := "coder", type := .byte, accessFlags := 18, slot := 1, constantValue := 0 }, { name := "hash", type := .int, accessFlags := 2, slot := 2, constantValue := 0 }, { name := "hashIsZero", type := .boolean, accessFlags := 2, slot := 3, constantValue := 0 }, { name := "serialVersionUID", type := .long, accessFlags := 26, slot := 0, constantValue := 0 }, { name := "COMPACT_STRINGS", type := .boolean, accessFlags := 24, slot := 1, constantValue := 0 }, { name := "serialPersistentFields", type := (.array (.object "java/io/ObjectStreamField")), accessFlags := 26, slot := 2, constantValue := 0 }, { name := "REPL", type := .char, accessFlags := 26, slot := 3, constantValue := 0 }, { name := "CASE_INSENSITIVE_ORDER", type := (.object "java/util/Comparator"), accessFlags := 25, slot := 4, constantValue := 0 }, { name := "LATIN1", type := .byte, accessFlags := 24, slot := 5, constantValue := 0 }, { name := "UTF16", type := .byte, accessFlags := 24, slot := 6, constantValue := 0 }]
  methods := #[k7m0, k7m1, k7m2, k7m3, k7m4, k7m5, k7m6, k7m7]
  instanceTypes := #[(.array .byte), .byte, .int, .boolean]
  staticTypes := #[.long, .boolean, (.array (.object "java/io/ObjectStreamField")), .char, (.object "java/util/Comparator"), .byte, .byte]
  resolved := Array.replicate 1451 none
  statics := some 0 }

def pool8 : Array CpInfo := pool [(2, .class_ 4), (1, u "java/lang/Object"), (0, u "<init>"), (0, u "()V"), (0, .class_ 8), (0, u "com/example/stamp2/stamp2/memory/Footprint"), (8, .methodref 18 19), (0, .class_ 20), (0, .nameAndType 21 22), (0, u "java/lang/String"), (0, u "length"), (0, u "()I"), (0, .methodref 18 24), (0, .nameAndType 25 26), (0, u "charAt"), (0, u "(I)C"), (2, u "REFERENCE"), (0, u "I"), (2, u "HEADER"), (1, u "ARRAY_HEADER"), (1, u "ALIGNMENT"), (6, u "isLatin1"), (0, u "(Ljava/lang/String;)Z")] 3

def k8m0 : Method := { name := "<init>", desc := "()V", sig := { parameters := [], returnType := none }, accessFlags := 2, code := none }
def k8c1 : Code := { maxStack := 2, maxLocals := 2, code := prog_40_method_4_code, exceptionTable := #[], attributes := #[] }
def k8m1 : Method := { name := "isLatin1", desc := "(Ljava/lang/String;)Z", sig := { parameters := [(.object "java/lang/String")], returnType := some .boolean }, accessFlags := 9, code := some k8c1 }
/-- com/example/stamp2/stamp2/memory/Footprint -/
def k8 : Class := { plain "com/example/stamp2/stamp2/memory/Footprint" (some 0) with
  accessFlags := 49
  interfaces := #[]
  cf := some (fileOf pool8 7 #[] #[{ accessFlags := 2, nameIndex := 5, descriptorIndex := 6, attributes := #[] }, { accessFlags := 9, nameIndex := 44, descriptorIndex := 45, attributes := #[] }] 49 2 #[] #[{ accessFlags := 25, nameIndex := 29, descriptorIndex := 30, attributes := #[] }, { accessFlags := 26, nameIndex := 33, descriptorIndex := 30, attributes := #[] }, { accessFlags := 26, nameIndex := 35, descriptorIndex := 30, attributes := #[] }, { accessFlags := 26, nameIndex := 37, descriptorIndex := 30, attributes := #[] }])
  fields := #[{ name := "REFERENCE", type := .int, accessFlags := 25, slot := 0, constantValue := 0 }, { name := "HEADER", type := .int, accessFlags := 26, slot := 1, constantValue := 0 }, { name := "ARRAY_HEADER", type := .int, accessFlags := 26, slot := 2, constantValue := 0 }, { name := "ALIGNMENT", type := .int, accessFlags := 26, slot := 3, constantValue := 0 }]
  methods := #[k8m0, k8m1]
  instanceTypes := #[]
  staticTypes := #[.int, .int, .int, .int]
  resolved := Array.replicate 49 none
  statics := none }

def pool9 : Array CpInfo := pool [(3, .class_ 4), (0, u "java/lang/String"), (1, .class_ 8), (1, u "java/lang/Object"), (0, u "<init>"), (0, u "()V"), (0, .methodref 12 13), (0, .class_ 14), (0, .nameAndType 15 16), (0, u "java/lang/StringUTF16"), (0, u "newBytesLength"), (0, u "(I)I"), (3, .integer 1073741823), (23, .fieldref 12 45), (0, .nameAndType 46 47), (0, u "$assertionsDisabled"), (0, u "Z"), (0, .methodref 12 49), (0, .nameAndType 50 51), (0, u "length"), (0, u "([B)I"), (7, .fieldref 12 60), (0, .nameAndType 61 62), (0, u "HI_BYTE_SHIFT"), (0, u "I"), (0, .fieldref 12 64), (0, .nameAndType 65 62), (0, u "LO_BYTE_SHIFT"), (1, .methodref 12 68), (0, .nameAndType 69 70), (0, u "checkIndex"), (0, u "(I[B)V"), (0, .methodref 12 72), (0, .nameAndType 73 74), (0, u "getChar"), (0, u "([BI)C"), (32, .methodref 12 108), (0, .nameAndType 109 110), (0, u "newBytesFor"), (0, u "(I)[B"), (0, .methodref 12 112), (0, .nameAndType 113 114), (0, u "putChar"), (0, u "([BII)V"), (0, .methodref 12 116), (0, .nameAndType 117 118), (0, u "compress"), (0, u "([CI[BII)I"), (0, .methodref 12 120), (0, .nameAndType 121 122), (0, u "toBytes"), (0, u "([CII)[B"), (138, u "coderFromArrayLen"), (0, u "([BI)B"), (106, .class_ 371), (1, u "java/lang/StringUTF16$LinesSpliterator"), (20, u "charAt"), (21, .methodref 3 415), (0, .nameAndType 69 416), (0, u "(II)V"), (13, u "MAX_LENGTH"), (196, .class_ 628), (0, u "java/lang/StringUTF16$CodePointsSpliterator"), (0, .class_ 630), (0, u "java/lang/StringUTF16$CharsSpliterator")] 4

def k9m0 : Method := { name := "<init>", desc := "()V", sig := { parameters := [], returnType := none }, accessFlags := 0, code := none }
def k9c1 : Code := { maxStack := 1, maxLocals := 1, code := jdk_52_method_2_code, exceptionTable := #[], attributes := #[] }
def k9m1 : Method := { name := "newBytesFor", desc := "(I)[B", sig := { parameters := [.int], returnType := some (.array .byte) }, accessFlags := 9, code := some k9c1 }
def k9c2 : Code := { maxStack := 4, maxLocals := 1, code := jdk_52_method_3_code, exceptionTable := #[], attributes := #[] }
def k9m2 : Method := { name := "newBytesLength", desc := "(I)I", sig := { parameters := [.int], returnType := some .int }, accessFlags := 9, code := some k9c2 }
def k9c3 : Code := { maxStack := 4, maxLocals := 3, code := jdk_52_method_4_code, exceptionTable := #[], attributes := #[] }
def k9m3 : Method := { name := "putChar", desc := "([BII)V", sig := { parameters := [(.array .byte), .int, .int], returnType := none }, accessFlags := 8, code := some k9c3 }
def k9c4 : Code := { maxStack := 3, maxLocals := 2, code := jdk_52_method_5_code, exceptionTable := #[], attributes := #[] }
def k9m4 : Method := { name := "getChar", desc := "([BI)C", sig := { parameters := [(.array .byte), .int], returnType := some .char }, accessFlags := 8, code := some k9c4 }
def k9c5 : Code := { maxStack := 2, maxLocals := 1, code := jdk_52_method_6_code, exceptionTable := #[], attributes := #[] }
def k9m5 : Method := { name := "length", desc := "([B)I", sig := { parameters := [(.array .byte)], returnType := some .int }, accessFlags := 9, code := some k9c5 }
def k9c6 : Code := { maxStack := 4, maxLocals := 5, code := jdk_52_method_14_code, exceptionTable := #[], attributes := #[] }
def k9m6 : Method := { name := "toBytes", desc := "([CII)[B", sig := { parameters := [(.array .char), .int, .int], returnType := some (.array .byte) }, accessFlags := 9, code := some k9c6 }
def k9c7 : Code := { maxStack := 2, maxLocals := 2, code := jdk_52_method_15_code, exceptionTable := #[], attributes := #[] }
def k9m7 : Method := { name := "coderFromArrayLen", desc := "([BI)B", sig := { parameters := [(.array .byte), .int], returnType := some .byte }, accessFlags := 8, code := some k9c7 }
def k9c8 : Code := { maxStack := 5, maxLocals := 6, code := jdk_52_method_16_code, exceptionTable := #[], attributes := #[] }
def k9m8 : Method := { name := "compress", desc := "([CII)[B", sig := { parameters := [(.array .char), .int, .int], returnType := some (.array .byte) }, accessFlags := 9, code := some k9c8 }
def k9c9 : Code := { maxStack := 3, maxLocals := 7, code := jdk_52_method_21_code, exceptionTable := #[], attributes := #[] }
def k9m9 : Method := { name := "compress", desc := "([CI[BII)I", sig := { parameters := [(.array .char), .int, (.array .byte), .int, .int], returnType := some .int }, accessFlags := 9, code := some k9c9 }
def k9c10 : Code := { maxStack := 2, maxLocals := 2, code := jdk_52_method_83_code, exceptionTable := #[], attributes := #[] }
def k9m10 : Method := { name := "charAt", desc := "([BI)C", sig := { parameters := [(.array .byte), .int], returnType := some .char }, accessFlags := 9, code := some k9c10 }
def k9c11 : Code := { maxStack := 2, maxLocals := 2, code := jdk_52_method_91_code, exceptionTable := #[], attributes := #[] }
def k9m11 : Method := { name := "checkIndex", desc := "(I[B)V", sig := { parameters := [.int, (.array .byte)], returnType := none }, accessFlags := 9, code := some k9c11 }
/-- java/lang/StringUTF16 -/
def k9 : Class := { plain "java/lang/StringUTF16" (some 0) with
  accessFlags := 48
  interfaces := #[]
  cf := some (fileOf pool9 12 #[.nestMembers #[627, 629, 369]] #[{ accessFlags := 0, nameIndex := 9, descriptorIndex := 10, attributes := #[] }, { accessFlags := 9, nameIndex := 109, descriptorIndex := 110, attributes := #[] }, { accessFlags := 9, nameIndex := 15, descriptorIndex := 16, attributes := #[] }, { accessFlags := 8, nameIndex := 113, descriptorIndex := 114, attributes := #[] }, { accessFlags := 8, nameIndex := 73, descriptorIndex := 74, attributes := #[] }, { accessFlags := 9, nameIndex := 50, descriptorIndex := 51, attributes := #[] }, { accessFlags := 9, nameIndex := 121, descriptorIndex := 122, attributes := #[] }, { accessFlags := 8, nameIndex := 261, descriptorIndex := 262, attributes := #[] }, { accessFlags := 9, nameIndex := 117, descriptorIndex := 122, attributes := #[] }, { accessFlags := 9, nameIndex := 117, descriptorIndex := 118, attributes := #[] }, { accessFlags := 9, nameIndex := 392, descriptorIndex := 74, attributes := #[] }, { accessFlags := 9, nameIndex := 69, descriptorIndex := 70, attributes := #[] }] 48 6 #[] #[{ accessFlags := 26, nameIndex := 61, descriptorIndex := 62, attributes := #[] }, { accessFlags := 26, nameIndex := 65, descriptorIndex := 62, attributes := #[] }, { accessFlags := 24, nameIndex := 430, descriptorIndex := 62, attributes := #[] }, { accessFlags := 4120, nameIndex := 46, descriptorIndex := 47, attributes := #[] }])
  fields := #[{ name := "HI_BYTE_SHIFT", type := .int, accessFlags := 26, slot := 0, constantValue := 0 }, { name := "LO_BYTE_SHIFT", type := .int, accessFlags := 26, slot := 1, constantValue := 0 }, { name := "MAX_LENGTH", type := .int, accessFlags := 24, slot := 2, constantValue := 0 }, { name := "$assertionsDisabled", type := .boolean, accessFlags := 4120, slot := 3, constantValue := 0 }]
  methods := #[k9m0, k9m1, k9m2, k9m3, k9m4, k9m5, k9m6, k9m7, k9m8, k9m9, k9m10, k9m11]
  instanceTypes := #[]
  staticTypes := #[.int, .int, .int, .boolean]
  resolved := Array.replicate 635 none
  statics := some 1 }

def pool10 : Array CpInfo := pool [(1, .class_ 2), (0, u "java/lang/String"), (1, .class_ 6), (1, u "java/lang/Object"), (0, u "<init>"), (0, u "()V"), (0, .methodref 1 10), (0, .nameAndType 11 12), (0, u "checkIndex"), (0, u "(II)V"), (1, .class_ 16), (1, u "java/lang/StringLatin1"), (36, u "([BI)C"), (67, u "$assertionsDisabled"), (0, u "Z"), (98, .class_ 223), (1, u "java/lang/StringLatin1$LinesSpliterator"), (28, u "charAt"), (137, .class_ 391), (0, u "java/lang/StringLatin1$CharsSpliterator")] 3

def k10m0 : Method := { name := "<init>", desc := "()V", sig := { parameters := [], returnType := none }, accessFlags := 0, code := none }
def k10c1 : Code := { maxStack := 2, maxLocals := 2, code := jdk_43_method_2_code, exceptionTable := #[], attributes := #[] }
def k10m1 : Method := { name := "charAt", desc := "([BI)C", sig := { parameters := [(.array .byte), .int], returnType := some .char }, accessFlags := 9, code := some k10c1 }
/-- java/lang/StringLatin1 -/
def k10 : Class := { plain "java/lang/StringLatin1" (some 0) with
  accessFlags := 48
  interfaces := #[]
  cf := some (fileOf pool10 14 #[.nestMembers #[390, 221]] #[{ accessFlags := 0, nameIndex := 7, descriptorIndex := 8, attributes := #[] }, { accessFlags := 9, nameIndex := 252, descriptorIndex := 53, attributes := #[] }] 48 4 #[] #[{ accessFlags := 4120, nameIndex := 121, descriptorIndex := 122, attributes := #[] }])
  fields := #[{ name := "$assertionsDisabled", type := .boolean, accessFlags := 4120, slot := 0, constantValue := 0 }]
  methods := #[k10m0, k10m1]
  instanceTypes := #[]
  staticTypes := #[.boolean]
  resolved := Array.replicate 395 none
  statics := none }

def pool11 : Array CpInfo := pool [(2, .class_ 4), (1, u "java/lang/Object"), (0, u "<init>"), (0, u "()V"), (17, .class_ 26), (1, u "jdk/internal/util/Preconditions"), (6, u "checkIndex"), (21, .class_ 56), (0, u "jdk/internal/util/Preconditions$4"), (57, .class_ 115), (0, u "jdk/internal/util/Preconditions$1"), (7, u "SIOOBE_FORMATTER"), (0, u "Ljava/util/function/BiFunction;"), (0, .class_ 126), (0, u "jdk/internal/util/Preconditions$2"), (3, u "AIOOBE_FORMATTER"), (0, .class_ 132), (0, u "jdk/internal/util/Preconditions$3"), (3, u "IOOBE_FORMATTER"), (41, u "(IILjava/util/function/BiFunction;)I")] 15

def k11m0 : Method := { name := "<init>", desc := "()V", sig := { parameters := [], returnType := none }, accessFlags := 1, code := none }
def k11c1 : Code := { maxStack := 3, maxLocals := 3, code := jdk_41_method_11_code, exceptionTable := #[], attributes := #[] }
def k11m1 : Method := { name := "checkIndex", desc := "(IILjava/util/function/BiFunction;)I", sig := { parameters := [.int, .int, (.object "java/util/function/BiFunction")], returnType := some .int }, accessFlags := 9, code := some k11c1 }
/-- jdk/internal/util/Preconditions -/
def k11 : Class := { plain "jdk/internal/util/Preconditions" (some 0) with
  accessFlags := 33
  interfaces := #[]
  cf := some (fileOf pool11 24 #[.nestMembers #[55, 131, 125, 114]] #[{ accessFlags := 1, nameIndex := 5, descriptorIndex := 6, attributes := #[] }, { accessFlags := 9, nameIndex := 33, descriptorIndex := 178, attributes := #[] }] 33 2 #[] #[{ accessFlags := 25, nameIndex := 123, descriptorIndex := 124, attributes := #[] }, { accessFlags := 25, nameIndex := 130, descriptorIndex := 124, attributes := #[] }, { accessFlags := 25, nameIndex := 136, descriptorIndex := 124, attributes := #[] }])
  fields := #[{ name := "SIOOBE_FORMATTER", type := (.object "java/util/function/BiFunction"), accessFlags := 25, slot := 0, constantValue := 0 }, { name := "AIOOBE_FORMATTER", type := (.object "java/util/function/BiFunction"), accessFlags := 25, slot := 1, constantValue := 0 }, { name := "IOOBE_FORMATTER", type := (.object "java/util/function/BiFunction"), accessFlags := 25, slot := 2, constantValue := 0 }]
  methods := #[k11m0, k11m1]
  instanceTypes := #[]
  staticTypes := #[(.object "java/util/function/BiFunction"), (.object "java/util/function/BiFunction"), (.object "java/util/function/BiFunction")]
  resolved := Array.replicate 194 none
  statics := some 2 }

def pool12 : Array CpInfo := pool [(9, u "<init>"), (6, .class_ 18), (1, u "java/lang/Object"), (0, u "()V"), (1, .class_ 23), (1, u "jdk/internal/util/ArraysSupport"), (0, u "LOG2_ARRAY_LONG_INDEX_SCALE"), (0, u "I"), (2, u "U"), (0, u "Ljdk/internal/misc/Unsafe;"), (8, u "BIG_ENDIAN"), (0, u "Z"), (8, u "LOG2_BYTE_BIT_SIZE"), (4, u "LOG2_ARRAY_INT_INDEX_SCALE"), (54, u "JLA"), (0, u "Ljdk/internal/access/JavaLangAccess;"), (11, u "LOG2_ARRAY_BOOLEAN_INDEX_SCALE"), (9, u "LOG2_ARRAY_BYTE_INDEX_SCALE"), (5, u "LOG2_ARRAY_CHAR_INDEX_SCALE"), (5, u "LOG2_ARRAY_SHORT_INDEX_SCALE"), (18, u "LOG2_ARRAY_FLOAT_INDEX_SCALE"), (24, u "LOG2_ARRAY_DOUBLE_INDEX_SCALE"), (89, u "T_BOOLEAN"), (2, u "T_CHAR"), (1, u "T_FLOAT"), (1, u "T_DOUBLE"), (1, u "T_BYTE"), (1, u "T_SHORT"), (1, u "T_INT"), (1, u "T_LONG"), (1, u "SOFT_MAX_ARRAY_LENGTH")] 83

def k12m0 : Method := { name := "<init>", desc := "()V", sig := { parameters := [], returnType := none }, accessFlags := 2, code := none }
/-- jdk/internal/util/ArraysSupport -/
def k12 : Class := { plain "jdk/internal/util/ArraysSupport" (some 0) with
  accessFlags := 33
  interfaces := #[]
  cf := some (fileOf pool12 21 #[] #[{ accessFlags := 2, nameIndex := 9, descriptorIndex := 19, attributes := #[] }] 33 16 #[] #[{ accessFlags := 24, nameIndex := 28, descriptorIndex := 29, attributes := #[] }, { accessFlags := 26, nameIndex := 38, descriptorIndex := 39, attributes := #[] }, { accessFlags := 25, nameIndex := 121, descriptorIndex := 25, attributes := #[] }, { accessFlags := 25, nameIndex := 131, descriptorIndex := 25, attributes := #[] }, { accessFlags := 25, nameIndex := 137, descriptorIndex := 25, attributes := #[] }, { accessFlags := 25, nameIndex := 143, descriptorIndex := 25, attributes := #[] }, { accessFlags := 25, nameIndex := 53, descriptorIndex := 25, attributes := #[] }, { accessFlags := 25, nameIndex := 24, descriptorIndex := 25, attributes := #[] }, { accessFlags := 25, nameIndex := 162, descriptorIndex := 25, attributes := #[] }, { accessFlags := 25, nameIndex := 187, descriptorIndex := 25, attributes := #[] }, { accessFlags := 26, nameIndex := 48, descriptorIndex := 25, attributes := #[] }, { accessFlags := 25, nameIndex := 277, descriptorIndex := 25, attributes := #[] }, { accessFlags := 25, nameIndex := 280, descriptorIndex := 25, attributes := #[] }, { accessFlags := 25, nameIndex := 282, descriptorIndex := 25, attributes := #[] }, { accessFlags := 25, nameIndex := 284, descriptorIndex := 25, attributes := #[] }, { accessFlags := 25, nameIndex := 286, descriptorIndex := 25, attributes := #[] }, { accessFlags := 25, nameIndex := 288, descriptorIndex := 25, attributes := #[] }, { accessFlags := 25, nameIndex := 290, descriptorIndex := 25, attributes := #[] }, { accessFlags := 25, nameIndex := 292, descriptorIndex := 25, attributes := #[] }, { accessFlags := 26, nameIndex := 108, descriptorIndex := 109, attributes := #[] }, { accessFlags := 25, nameIndex := 294, descriptorIndex := 25, attributes := #[] }])
  fields := #[{ name := "U", type := (.object "jdk/internal/misc/Unsafe"), accessFlags := 24, slot := 0, constantValue := 0 }, { name := "BIG_ENDIAN", type := .boolean, accessFlags := 26, slot := 1, constantValue := 0 }, { name := "LOG2_ARRAY_BOOLEAN_INDEX_SCALE", type := .int, accessFlags := 25, slot := 2, constantValue := 0 }, { name := "LOG2_ARRAY_BYTE_INDEX_SCALE", type := .int, accessFlags := 25, slot := 3, constantValue := 0 }, { name := "LOG2_ARRAY_CHAR_INDEX_SCALE", type := .int, accessFlags := 25, slot := 4, constantValue := 0 }, { name := "LOG2_ARRAY_SHORT_INDEX_SCALE", type := .int, accessFlags := 25, slot := 5, constantValue := 0 }, { name := "LOG2_ARRAY_INT_INDEX_SCALE", type := .int, accessFlags := 25, slot := 6, constantValue := 0 }, { name := "LOG2_ARRAY_LONG_INDEX_SCALE", type := .int, accessFlags := 25, slot := 7, constantValue := 0 }, { name := "LOG2_ARRAY_FLOAT_INDEX_SCALE", type := .int, accessFlags := 25, slot := 8, constantValue := 0 }, { name := "LOG2_ARRAY_DOUBLE_INDEX_SCALE", type := .int, accessFlags := 25, slot := 9, constantValue := 0 }, { name := "LOG2_BYTE_BIT_SIZE", type := .int, accessFlags := 26, slot := 10, constantValue := 0 }, { name := "T_BOOLEAN", type := .int, accessFlags := 25, slot := 11, constantValue := 0 }, { name := "T_CHAR", type := .int, accessFlags := 25, slot := 12, constantValue := 0 }, { name := "T_FLOAT", type := .int, accessFlags := 25, slot := 13, constantValue := 0 }, { name := "T_DOUBLE", type := .int, accessFlags := 25, slot := 14, constantValue := 0 }, { name := "T_BYTE", type := .int, accessFlags := 25, slot := 15, constantValue := 0 }, { name := "T_SHORT", type := .int, accessFlags := 25, slot := 16, constantValue := 0 }, { name := "T_INT", type := .int, accessFlags := 25, slot := 17, constantValue := 0 }, { name := "T_LONG", type := .int, accessFlags := 25, slot := 18, constantValue := 0 }, { name := "JLA", type := (.object "jdk/internal/access/JavaLangAccess"), accessFlags := 26, slot := 19, constantValue := 0 }, { name := "SOFT_MAX_ARRAY_LENGTH", type := .int, accessFlags := 25, slot := 20, constantValue := 0 }]
  methods := #[k12m0]
  instanceTypes := #[]
  staticTypes := #[(.object "jdk/internal/misc/Unsafe"), .boolean, .int, .int, .int, .int, .int, .int, .int, .int, .int, .int, .int, .int, .int, .int, .int, .int, .int, (.object "jdk/internal/access/JavaLangAccess"), .int]
  resolved := Array.replicate 378 none
  statics := none }

def pool13 : Array CpInfo := pool [(1, u "java/lang/Cloneable"), (0, .class_ 1), (0, u "java/lang/Object"), (0, .class_ 3)] 3

/-- java/lang/Cloneable -/
def k13 : Class := { plain "java/lang/Cloneable" (some 0) with
  accessFlags := 1537
  interfaces := #[]
  cf := some (fileOf pool13 2 #[] #[] 1537 4 #[] #[])
  fields := #[]
  methods := #[]
  instanceTypes := #[]
  staticTypes := #[]
  resolved := Array.replicate 8 none
  statics := none }

/-- the primitive byte -/
def k14 : Class := { plain "byte" none with kind := .primitive 'B', accessFlags := 0x411 }
/-- [B -/
def k15 : Class := { plain "[B" (some 0) with kind := .array 14 .byte, interfaces := #[13, 2], accessFlags := 1041 }

/-- the primitive char -/
def k16 : Class := { plain "char" none with kind := .primitive 'C', accessFlags := 0x411 }
/-- [C -/
def k17 : Class := { plain "[C" (some 0) with kind := .array 16 .char, interfaces := #[13, 2], accessFlags := 1041 }

/-- the primitive int -/
def k18 : Class := { plain "int" none with kind := .primitive 'I', accessFlags := 0x411 }
/-- [I -/
def k19 : Class := { plain "[I" (some 0) with kind := .array 18 .int, interfaces := #[13, 2], accessFlags := 1041 }

def heap : Heap := #[{ cls := 7, slots := #[.long 0, .int 1, .null, .int 0, .null, .int 0, .int 0], vm := .statics 7 },
  { cls := 9, slots := #[.int 0, .int 8, .int 0, .int 1], vm := .statics 9 },
  { cls := 11, slots := #[.null, .null, .null], vm := .statics 11 }]
def classes : Array Class := #[k0, k1, k2, k3, k4, k5, k6, k7, k8, k9, k10, k11, k12, k13, k14, k15, k16, k17, k18, k19]
def interned : List (Array UInt16 × Addr) := []
def slotsUsed : Nat := 14
def theMethod : MethodId := ⟨1, 1⟩
def args0 : Array Value := #[.int 3, .int 65, .int 66, .int 67, .int 68]
def aboutOver (below : List Frame) : State where
  vm := { classes := classes, interned := interned.toArray }
  heap := heap
  slotsUsed := slotsUsed
  threads := #[{ frames := .invoking theMethod args0 :: below }]
def below0 : List Frame := [.native { method := ⟨0, 0⟩, args := #[] }]
def about1 : State := aboutOver below0
def p0 : Program := .bare "" "" ""
def e0 : Env := launch0.env 0 0 0
theorem w_frames : about1.frames = Frame.invoking theMethod args0 :: below0 := rfl
set_option maxRecDepth 65536 in
theorem w_args : argsFit about1.vm theMethod args0 = true := by decide +kernel
set_option maxRecDepth 65536 in
theorem w_heap : heapFits about1 = true := by decide +kernel
set_option maxRecDepth 65536 in
theorem w_runnable : about1.curStatus? = some .runnable := by decide +kernel
set_option maxRecDepth 65536 in
theorem w_alone : about1.alone = true := by decide +kernel
set_option maxRecDepth 65536 in
theorem w_named : about1.methodNamed? x = some theMethod := by decide +kernel
set_option maxRecDepth 65536 in
theorem w_hears : about1.hears theMethod below0 = true := by decide +kernel
set_option maxRecDepth 65536 in
theorem w_ripe : about1.ripe theMethod args0 below0 = true := by decide +kernel
theorem w_running : about1.status = .running := rfl
set_option maxRecDepth 65536 in
theorem w_room : about1.hasRoom e0.platform room_1 = true :=
  launch0.hasRoom_least _ room_1 (by decide +kernel) (by decide +kernel) (by decide +kernel) (by decide +kernel) (by decide +kernel) (by decide +kernel)
theorem allAtoms_all (ts : List Jvm.Cond) (a : Array Jvm.Value) (st : Jvm.State) : (allAtoms ts).before a st = ts.all (fun c => c.before a st) := by
  induction ts with
  | nil => rfl
  | cons c t ih =>
    show (Jvm.Cond.and c (allAtoms t)).before a st = _
    rw [Jvm.Cond.before_and, ih, List.all_cons]
def words1 : List Jvm.Cond := Jvm.Cond.code x code maxLocals ret :: tables_1
/-- a 'code' word, met by the world's own term for the bytes: nothing is compared byte by byte -/
theorem code_word {y : MethodName} {bytes : ByteArray} {mx : Nat} {rt : Option FieldType} {a : Array Value} {s : State} {m : MethodId} {meth : Method} {c : Code} (h1 : s.methodNamed? y = some m) (h2 : s.vm.method? m = some meth) (h3 : meth.code = some c) (h4 : c.code = bytes)
    (h5 : (c.maxLocals == mx && c.exceptionTable.isEmpty && decide (c.maxStack ≤ mostOperands) && decide (meth.sig.returnType = rt) && !meth.locks && decide (parseMethodDescriptor y.desc = some meth.sig)) = true) : (Jvm.Cond.code y bytes mx rt).before a s = true := by
  simp only [Bool.and_eq_true, beq_iff_eq, Bool.not_eq_true', decide_eq_true_eq] at h5
  obtain ⟨⟨⟨⟨⟨g1, g2⟩, g3⟩, g4⟩, g5⟩, g6⟩ := h5
  simp [Cond.before, Cond.holds, Cond.value, h1, h2, h3, h4, g1, g2, g3, g4, g5, g6]
def isCode : Jvm.Cond → Bool
  | .code _ _ _ _ => true
  | _ => false
theorem all_split {L : List Jvm.Cond} {P : Jvm.Cond → Bool} (h1 : L.all (fun c => isCode c || P c) = true) (h2 : ∀ c ∈ L.filter isCode, P c = true) : L.all P = true := by
  refine List.all_eq_true.mpr fun c hc => ?_
  have h := List.all_eq_true.mp h1 c hc
  rcases Bool.eq_false_or_eq_true (isCode c) with hi | hi
  · exact h2 c (List.mem_filter.mpr ⟨hc, hi⟩)
  · simpa [hi] using h
set_option maxRecDepth 65536 in
theorem w_c0 : (Jvm.Cond.code x code maxLocals ret).before args0 about1 = true := code_word (m := ⟨1, 1⟩) (meth := k1m1) (c := k1c1) (by decide +kernel) rfl rfl rfl (by decide +kernel)
set_option maxRecDepth 65536 in
theorem w_c1 : (Jvm.Cond.code ({ cls := "com/example/stamp2/stamp2/memory/FootprintIsLatin1PinLaw", name := "draw", desc := "(I)C" } : Jvm.MethodName) method_3_code (1 : Nat) (Option.some Jvm.ClassFile.FieldType.char)).before args0 about1 = true := code_word (m := ⟨1, 2⟩) (meth := k1m2) (c := k1c2) (by decide +kernel) rfl rfl rfl (by decide +kernel)
set_option maxRecDepth 65536 in
theorem w_c2 : (Jvm.Cond.code ({ cls := "java/lang/String", name := "<init>", desc := "([C)V" } : Jvm.MethodName) jdk_42_method_3_code (2 : Nat) (Option.none : Option Jvm.ClassFile.FieldType)).before args0 about1 = true := code_word (m := ⟨7, 1⟩) (meth := k7m1) (c := k7c1) (by decide +kernel) rfl rfl rfl (by decide +kernel)
set_option maxRecDepth 65536 in
theorem w_c3 : (Jvm.Cond.code ({ cls := "java/lang/String", name := "<init>", desc := "([CIILjava/lang/Void;)V" } : Jvm.MethodName) jdk_42_method_149_code (6 : Nat) (Option.none : Option Jvm.ClassFile.FieldType)).before args0 about1 = true := code_word (m := ⟨7, 4⟩) (meth := k7m4) (c := k7c4) (by decide +kernel) rfl rfl rfl (by decide +kernel)
set_option maxRecDepth 65536 in
theorem w_c4 : (Jvm.Cond.code ({ cls := "java/lang/Object", name := "<init>", desc := "()V" } : Jvm.MethodName) object_method_1_code (1 : Nat) (Option.none : Option Jvm.ClassFile.FieldType)).before args0 about1 = true := code_word (m := ⟨0, 0⟩) (meth := k0m0) (c := k0c0) (by decide +kernel) rfl rfl rfl (by decide +kernel)
set_option maxRecDepth 65536 in
theorem w_c5 : (Jvm.Cond.code ({ cls := "com/example/stamp2/stamp2/memory/Footprint", name := "isLatin1", desc := "(Ljava/lang/String;)Z" } : Jvm.MethodName) prog_40_method_4_code (2 : Nat) (Option.some Jvm.ClassFile.FieldType.boolean)).before args0 about1 = true := code_word (m := ⟨8, 1⟩) (meth := k8m1) (c := k8c1) (by decide +kernel) rfl rfl rfl (by decide +kernel)
set_option maxRecDepth 65536 in
theorem w_c6 : (Jvm.Cond.code ({ cls := "java/lang/String", name := "length", desc := "()I" } : Jvm.MethodName) jdk_42_method_54_code (1 : Nat) (Option.some Jvm.ClassFile.FieldType.int)).before args0 about1 = true := code_word (m := ⟨7, 2⟩) (meth := k7m2) (c := k7c2) (by decide +kernel) rfl rfl rfl (by decide +kernel)
set_option maxRecDepth 65536 in
theorem w_c7 : (Jvm.Cond.code ({ cls := "java/lang/String", name := "coder", desc := "()B" } : Jvm.MethodName) jdk_42_method_152_code (1 : Nat) (Option.some Jvm.ClassFile.FieldType.byte)).before args0 about1 = true := code_word (m := ⟨7, 5⟩) (meth := k7m5) (c := k7c5) (by decide +kernel) rfl rfl rfl (by decide +kernel)
set_option maxRecDepth 65536 in
theorem w_c8 : (Jvm.Cond.code ({ cls := "java/lang/StringUTF16", name := "compress", desc := "([CII)[B" } : Jvm.MethodName) jdk_52_method_16_code (6 : Nat) (Option.some (Jvm.ClassFile.FieldType.array Jvm.ClassFile.FieldType.byte))).before args0 about1 = true := code_word (m := ⟨9, 8⟩) (meth := k9m8) (c := k9c8) (by decide +kernel) rfl rfl rfl (by decide +kernel)
set_option maxRecDepth 65536 in
theorem w_c9 : (Jvm.Cond.code ({ cls := "java/lang/StringUTF16", name := "compress", desc := "([CI[BII)I" } : Jvm.MethodName) jdk_52_method_21_code (7 : Nat) (Option.some Jvm.ClassFile.FieldType.int)).before args0 about1 = true := code_word (m := ⟨9, 9⟩) (meth := k9m9) (c := k9c9) (by decide +kernel) rfl rfl rfl (by decide +kernel)
set_option maxRecDepth 65536 in
theorem w_c10 : (Jvm.Cond.code ({ cls := "java/lang/StringUTF16", name := "coderFromArrayLen", desc := "([BI)B" } : Jvm.MethodName) jdk_52_method_15_code (2 : Nat) (Option.some Jvm.ClassFile.FieldType.byte)).before args0 about1 = true := code_word (m := ⟨9, 7⟩) (meth := k9m7) (c := k9c7) (by decide +kernel) rfl rfl rfl (by decide +kernel)
set_option maxRecDepth 65536 in
theorem w_c11 : (Jvm.Cond.code ({ cls := "java/lang/String", name := "charAt", desc := "(I)C" } : Jvm.MethodName) jdk_42_method_56_code (2 : Nat) (Option.some Jvm.ClassFile.FieldType.char)).before args0 about1 = true := code_word (m := ⟨7, 3⟩) (meth := k7m3) (c := k7c3) (by decide +kernel) rfl rfl rfl (by decide +kernel)
set_option maxRecDepth 65536 in
theorem w_c12 : (Jvm.Cond.code ({ cls := "java/lang/String", name := "isLatin1", desc := "()Z" } : Jvm.MethodName) jdk_42_method_154_code (1 : Nat) (Option.some Jvm.ClassFile.FieldType.boolean)).before args0 about1 = true := code_word (m := ⟨7, 6⟩) (meth := k7m6) (c := k7c6) (by decide +kernel) rfl rfl rfl (by decide +kernel)
set_option maxRecDepth 65536 in
theorem w_c13 : (Jvm.Cond.code ({ cls := "java/lang/StringLatin1", name := "charAt", desc := "([BI)C" } : Jvm.MethodName) jdk_43_method_2_code (2 : Nat) (Option.some Jvm.ClassFile.FieldType.char)).before args0 about1 = true := code_word (m := ⟨10, 1⟩) (meth := k10m1) (c := k10c1) (by decide +kernel) rfl rfl rfl (by decide +kernel)
set_option maxRecDepth 65536 in
theorem w_c14 : (Jvm.Cond.code ({ cls := "java/lang/String", name := "checkIndex", desc := "(II)V" } : Jvm.MethodName) jdk_42_method_155_code (2 : Nat) (Option.none : Option Jvm.ClassFile.FieldType)).before args0 about1 = true := code_word (m := ⟨7, 7⟩) (meth := k7m7) (c := k7c7) (by decide +kernel) rfl rfl rfl (by decide +kernel)
set_option maxRecDepth 65536 in
theorem w_c15 : (Jvm.Cond.code ({ cls := "jdk/internal/util/Preconditions", name := "checkIndex", desc := "(IILjava/util/function/BiFunction;)I" } : Jvm.MethodName) jdk_41_method_11_code (3 : Nat) (Option.some Jvm.ClassFile.FieldType.int)).before args0 about1 = true := code_word (m := ⟨11, 1⟩) (meth := k11m1) (c := k11c1) (by decide +kernel) rfl rfl rfl (by decide +kernel)
set_option maxRecDepth 65536 in
theorem w_c16 : (Jvm.Cond.code ({ cls := "java/lang/StringUTF16", name := "toBytes", desc := "([CII)[B" } : Jvm.MethodName) jdk_52_method_14_code (5 : Nat) (Option.some (Jvm.ClassFile.FieldType.array Jvm.ClassFile.FieldType.byte))).before args0 about1 = true := code_word (m := ⟨9, 6⟩) (meth := k9m6) (c := k9c6) (by decide +kernel) rfl rfl rfl (by decide +kernel)
set_option maxRecDepth 65536 in
theorem w_c17 : (Jvm.Cond.code ({ cls := "java/lang/StringUTF16", name := "newBytesFor", desc := "(I)[B" } : Jvm.MethodName) jdk_52_method_2_code (1 : Nat) (Option.some (Jvm.ClassFile.FieldType.array Jvm.ClassFile.FieldType.byte))).before args0 about1 = true := code_word (m := ⟨9, 1⟩) (meth := k9m1) (c := k9c1) (by decide +kernel) rfl rfl rfl (by decide +kernel)
set_option maxRecDepth 65536 in
theorem w_c18 : (Jvm.Cond.code ({ cls := "java/lang/StringUTF16", name := "newBytesLength", desc := "(I)I" } : Jvm.MethodName) jdk_52_method_3_code (1 : Nat) (Option.some Jvm.ClassFile.FieldType.int)).before args0 about1 = true := code_word (m := ⟨9, 2⟩) (meth := k9m2) (c := k9c2) (by decide +kernel) rfl rfl rfl (by decide +kernel)
set_option maxRecDepth 65536 in
theorem w_c19 : (Jvm.Cond.code ({ cls := "java/lang/StringUTF16", name := "putChar", desc := "([BII)V" } : Jvm.MethodName) jdk_52_method_4_code (3 : Nat) (Option.none : Option Jvm.ClassFile.FieldType)).before args0 about1 = true := code_word (m := ⟨9, 3⟩) (meth := k9m3) (c := k9c3) (by decide +kernel) rfl rfl rfl (by decide +kernel)
set_option maxRecDepth 65536 in
theorem w_c20 : (Jvm.Cond.code ({ cls := "java/lang/StringUTF16", name := "getChar", desc := "([BI)C" } : Jvm.MethodName) jdk_52_method_5_code (2 : Nat) (Option.some Jvm.ClassFile.FieldType.char)).before args0 about1 = true := code_word (m := ⟨9, 4⟩) (meth := k9m4) (c := k9c4) (by decide +kernel) rfl rfl rfl (by decide +kernel)
set_option maxRecDepth 65536 in
theorem w_c21 : (Jvm.Cond.code ({ cls := "java/lang/StringUTF16", name := "charAt", desc := "([BI)C" } : Jvm.MethodName) jdk_52_method_83_code (2 : Nat) (Option.some Jvm.ClassFile.FieldType.char)).before args0 about1 = true := code_word (m := ⟨9, 10⟩) (meth := k9m10) (c := k9c10) (by decide +kernel) rfl rfl rfl (by decide +kernel)
set_option maxRecDepth 65536 in
theorem w_c22 : (Jvm.Cond.code ({ cls := "java/lang/StringUTF16", name := "checkIndex", desc := "(I[B)V" } : Jvm.MethodName) jdk_52_method_91_code (2 : Nat) (Option.none : Option Jvm.ClassFile.FieldType)).before args0 about1 = true := code_word (m := ⟨9, 11⟩) (meth := k9m11) (c := k9c11) (by decide +kernel) rfl rfl rfl (by decide +kernel)
set_option maxRecDepth 65536 in
theorem w_c23 : (Jvm.Cond.code ({ cls := "java/lang/StringUTF16", name := "length", desc := "([B)I" } : Jvm.MethodName) jdk_52_method_6_code (1 : Nat) (Option.some Jvm.ClassFile.FieldType.int)).before args0 about1 = true := code_word (m := ⟨9, 5⟩) (meth := k9m5) (c := k9c5) (by decide +kernel) rfl rfl rfl (by decide +kernel)
def codes1 : List Jvm.Cond := [Jvm.Cond.code x code maxLocals ret, Jvm.Cond.code ({ cls := "com/example/stamp2/stamp2/memory/FootprintIsLatin1PinLaw", name := "draw", desc := "(I)C" } : Jvm.MethodName) method_3_code (1 : Nat) (Option.some Jvm.ClassFile.FieldType.char), Jvm.Cond.code ({ cls := "java/lang/String", name := "<init>", desc := "([C)V" } : Jvm.MethodName) jdk_42_method_3_code (2 : Nat) (Option.none : Option Jvm.ClassFile.FieldType), Jvm.Cond.code ({ cls := "java/lang/String", name := "<init>", desc := "([CIILjava/lang/Void;)V" } : Jvm.MethodName) jdk_42_method_149_code (6 : Nat) (Option.none : Option Jvm.ClassFile.FieldType), Jvm.Cond.code ({ cls := "java/lang/Object", name := "<init>", desc := "()V" } : Jvm.MethodName) object_method_1_code (1 : Nat) (Option.none : Option Jvm.ClassFile.FieldType), Jvm.Cond.code ({ cls := "com/example/stamp2/stamp2/memory/Footprint", name := "isLatin1", desc := "(Ljava/lang/String;)Z" } : Jvm.MethodName) prog_40_method_4_code (2 : Nat) (Option.some Jvm.ClassFile.FieldType.boolean), Jvm.Cond.code ({ cls := "java/lang/String", name := "length", desc := "()I" } : Jvm.MethodName) jdk_42_method_54_code (1 : Nat) (Option.some Jvm.ClassFile.FieldType.int), Jvm.Cond.code ({ cls := "java/lang/String", name := "coder", desc := "()B" } : Jvm.MethodName) jdk_42_method_152_code (1 : Nat) (Option.some Jvm.ClassFile.FieldType.byte), Jvm.Cond.code ({ cls := "java/lang/StringUTF16", name := "compress", desc := "([CII)[B" } : Jvm.MethodName) jdk_52_method_16_code (6 : Nat) (Option.some (Jvm.ClassFile.FieldType.array Jvm.ClassFile.FieldType.byte)), Jvm.Cond.code ({ cls := "java/lang/StringUTF16", name := "compress", desc := "([CI[BII)I" } : Jvm.MethodName) jdk_52_method_21_code (7 : Nat) (Option.some Jvm.ClassFile.FieldType.int), Jvm.Cond.code ({ cls := "java/lang/StringUTF16", name := "coderFromArrayLen", desc := "([BI)B" } : Jvm.MethodName) jdk_52_method_15_code (2 : Nat) (Option.some Jvm.ClassFile.FieldType.byte), Jvm.Cond.code ({ cls := "java/lang/String", name := "charAt", desc := "(I)C" } : Jvm.MethodName) jdk_42_method_56_code (2 : Nat) (Option.some Jvm.ClassFile.FieldType.char), Jvm.Cond.code ({ cls := "java/lang/String", name := "isLatin1", desc := "()Z" } : Jvm.MethodName) jdk_42_method_154_code (1 : Nat) (Option.some Jvm.ClassFile.FieldType.boolean), Jvm.Cond.code ({ cls := "java/lang/StringLatin1", name := "charAt", desc := "([BI)C" } : Jvm.MethodName) jdk_43_method_2_code (2 : Nat) (Option.some Jvm.ClassFile.FieldType.char), Jvm.Cond.code ({ cls := "java/lang/String", name := "checkIndex", desc := "(II)V" } : Jvm.MethodName) jdk_42_method_155_code (2 : Nat) (Option.none : Option Jvm.ClassFile.FieldType), Jvm.Cond.code ({ cls := "jdk/internal/util/Preconditions", name := "checkIndex", desc := "(IILjava/util/function/BiFunction;)I" } : Jvm.MethodName) jdk_41_method_11_code (3 : Nat) (Option.some Jvm.ClassFile.FieldType.int), Jvm.Cond.code ({ cls := "java/lang/StringUTF16", name := "toBytes", desc := "([CII)[B" } : Jvm.MethodName) jdk_52_method_14_code (5 : Nat) (Option.some (Jvm.ClassFile.FieldType.array Jvm.ClassFile.FieldType.byte)), Jvm.Cond.code ({ cls := "java/lang/StringUTF16", name := "newBytesFor", desc := "(I)[B" } : Jvm.MethodName) jdk_52_method_2_code (1 : Nat) (Option.some (Jvm.ClassFile.FieldType.array Jvm.ClassFile.FieldType.byte)), Jvm.Cond.code ({ cls := "java/lang/StringUTF16", name := "newBytesLength", desc := "(I)I" } : Jvm.MethodName) jdk_52_method_3_code (1 : Nat) (Option.some Jvm.ClassFile.FieldType.int), Jvm.Cond.code ({ cls := "java/lang/StringUTF16", name := "putChar", desc := "([BII)V" } : Jvm.MethodName) jdk_52_method_4_code (3 : Nat) (Option.none : Option Jvm.ClassFile.FieldType), Jvm.Cond.code ({ cls := "java/lang/StringUTF16", name := "getChar", desc := "([BI)C" } : Jvm.MethodName) jdk_52_method_5_code (2 : Nat) (Option.some Jvm.ClassFile.FieldType.char), Jvm.Cond.code ({ cls := "java/lang/StringUTF16", name := "charAt", desc := "([BI)C" } : Jvm.MethodName) jdk_52_method_83_code (2 : Nat) (Option.some Jvm.ClassFile.FieldType.char), Jvm.Cond.code ({ cls := "java/lang/StringUTF16", name := "checkIndex", desc := "(I[B)V" } : Jvm.MethodName) jdk_52_method_91_code (2 : Nat) (Option.none : Option Jvm.ClassFile.FieldType), Jvm.Cond.code ({ cls := "java/lang/StringUTF16", name := "length", desc := "([B)I" } : Jvm.MethodName) jdk_52_method_6_code (1 : Nat) (Option.some Jvm.ClassFile.FieldType.int)]
set_option maxRecDepth 65536 in
theorem codes_eq : words1.filter isCode = codes1 := rfl
theorem w_codes : ∀ c ∈ words1.filter isCode, c.before args0 about1 = true := by
  rw [codes_eq]
  intro c hc
  simp only [codes1, List.mem_cons, List.not_mem_nil, or_false] at hc
  rcases hc with rfl | rfl | rfl | rfl | rfl | rfl | rfl | rfl | rfl | rfl | rfl | rfl | rfl | rfl | rfl | rfl | rfl | rfl | rfl | rfl | rfl | rfl | rfl | rfl
  · exact w_c0
  · exact w_c1
  · exact w_c2
  · exact w_c3
  · exact w_c4
  · exact w_c5
  · exact w_c6
  · exact w_c7
  · exact w_c8
  · exact w_c9
  · exact w_c10
  · exact w_c11
  · exact w_c12
  · exact w_c13
  · exact w_c14
  · exact w_c15
  · exact w_c16
  · exact w_c17
  · exact w_c18
  · exact w_c19
  · exact w_c20
  · exact w_c21
  · exact w_c22
  · exact w_c23
set_option maxRecDepth 65536 in
theorem w_t1 : (words1.take 24).all (fun c => isCode c || c.before args0 about1) = true := by decide +kernel
set_option maxRecDepth 65536 in
theorem w_t2 : ((words1.drop 24).take 24).all (fun c => isCode c || c.before args0 about1) = true := by decide +kernel
set_option maxRecDepth 65536 in
theorem w_t3 : (((words1.drop 24).drop 24).take 24).all (fun c => isCode c || c.before args0 about1) = true := by decide +kernel
set_option maxRecDepth 65536 in
theorem w_t4 : ((((words1.drop 24).drop 24).drop 24).take 24).all (fun c => isCode c || c.before args0 about1) = true := by decide +kernel
set_option maxRecDepth 65536 in
theorem w_t5 : ((((words1.drop 24).drop 24).drop 24).drop 24).all (fun c => isCode c || c.before args0 about1) = true := by decide +kernel
theorem w_tables : (allAtoms (Jvm.Cond.code x code maxLocals ret :: tables_1)).before args0 about1 = true := by
  rw [allAtoms_all]
  show words1.all (fun c => c.before args0 about1) = true
  refine all_split ?_ w_codes
  rw [← List.take_append_drop 24 words1, List.all_append, w_t1, ← List.take_append_drop 24 (words1.drop 24), List.all_append, w_t2, ← List.take_append_drop 24 ((words1.drop 24).drop 24), List.all_append, w_t3, ← List.take_append_drop 24 (((words1.drop 24).drop 24).drop 24), List.all_append, w_t4, w_t5]
  rfl
set_option maxRecDepth 65536 in
theorem w_rest : rest_1_c.before args0 about1 = true := by decide +kernel
set_option maxRecDepth 65536 in
theorem w_case : (Jvm.Cond.and given_1 narrow_1).before args0 about1 = true := by decide +kernel
set_option maxRecDepth 65536 in
theorem w_consts : constsHeld consts_1 about1 := Jvm.Lit.constsHeldB_iff.mp (by decide +kernel)
theorem w_applies : (headSpec (Jvm.Cond.code x code maxLocals ret :: tables_1) room_1).applies x e0.platform about1 = true :=
  (Spec.applies_iff w_frames).mpr ⟨w_running, w_runnable, w_alone, w_named, w_hears, w_ripe, w_room, w_tables⟩
theorem atStart : AtStart classFile x code maxLocals ret World_1 tables_1 room_1 Calls_1 rest_1 Pre_1 launch0 p0 e0 about1 theMethod args0 below0 :=
  ⟨lists_1, trivial, launch0.admits_env _ _ _, launch0.least_env, fairChoices_fair.cas, fairChoices_fair.clock, w_frames, w_args, w_heap, w_applies, ⟨w_consts, trivial⟩, w_rest, w_case⟩
end start1
theorem witness_1 : WitnessClaimed_1 := ⟨start1.p0, start1.e0, start1.about1, start1.theMethod, start1.args0, start1.below0, start1.atStart⟩
end Jvm.Pilot.@@N@@
