import JvmDerived
import JvmDerived.Pilot.@@N@@Statement
import JvmDerived.Pilot.@@N@@Code
set_option linter.unusedVariables false
set_option linter.unusedSimpArgs false
namespace Jvm.RoadKit
open Sem ClassFile Op Lib Jvm.Stand Jvm.Free Jvm.LawKit
section New
variable {p : Program} {l : Launch} {e : Env} {R : Room} {s : State} {m : MethodId} {args : Array Value} {below : List Frame} {meth : Method} {c : Code} {T : State} {locs : List Loc} {cells slots : Nat}
theorem retI (X : Stand p l e R s m args below meth c T locs cells slots) (hx : p.tables.exec = Jvm.exec) {pc : Nat} {Ls : Array Slot} {z : Int32} {rest : List Value} (hret : meth.sig.returnType = some .int) (hd : decode c.code pc = .ok (.ireturn, 1)) {fs : List Frame}
    (hl : ∀ (f : JFrame) (acts : List Action), f.method = m → f.locked = none → f.entered = [] → (doReturn e (T.setTop f) acts (some (.int z))).1 = T.setFrames fs) : Steps p.tables e below (T.setTop (mkF m pc Ls (.int z :: rest))) (T.setFrames fs) := by
  have hm' : T.vm.method? m = some meth := X.method'
  have hn : narrow .int (.int z) = .int z := rfl
  show Steps p.tables e below (T.setTop { method := m, pc := pc, locals := Ls, stack := _ :: rest, locked := none }) _
  jvm_step X.here [X.here.top, hx, hd, hm', hret, hn]
  first | (intro acts; rw [hl _ acts rfl rfl rfl]) | rw [hl _ _ rfl rfl rfl]
  exact Steps.refl _
end New
end Jvm.RoadKit
namespace Jvm.Pilot.@@N@@
open Jvm Jvm.ClassFile Sem Op Lib Jvm.Free Jvm.Stand Jvm.LawKit Jvm.RoadKit Bundle Jvm.Pilot.@@N@@.Jvm.D
/-! own: the rest of a run, told backwards; the contract of a body; steps and calls -/
section OwnBase
variable {p : Program} {l : Launch} {e : Env} {R : Room} {s : State} {m : MethodId} {args : Array Value} {below : List Frame} {meth : Method} {c : Code} {T : State} {locs : List Loc} {cells slots : Nat} {Z : State} {a0 : Array Value} {h : Heap} {bs : ByteArray} {pc q : Nat} {Ls : Array Slot} {S : List Value} {G : State → Prop}
abbrev PQ := Option Value → Heap → List Loc → Prop
def Cl (p : Program) (e : Env) (below : List Frame) (G : State → Prop) : Prop := ∀ (A B : State), (∀ t, Steps p.tables e below B t → Steps p.tables e below A t) → G B → G A
def Go (p : Program) (e : Env) (below : List Frame) (s : State) (C N : Nat) (Q : PQ) (A : State) : Prop :=
  ∃ s₂ o, Steps p.tables e below A s₂ ∧ s₂.status = .running ∧ Ended s₂ below o ∧ ∃ v L, o = .returned v ∧ Q v s₂.heap L ∧ FrameEnd s o s₂ L C N
theorem Go.cl {C N : Nat} {Q : PQ} : Cl p e below (Go p e below s C N Q) := fun A B k ⟨s2, o, h1, r⟩ => ⟨s2, o, k _ h1, r⟩
theorem Go.with {C N : Nat} {Q : PQ} {A : State} (k : Cl p e below (Go p e below s C N Q) → Go p e below s C N Q A) : Go p e below s C N Q A := k Go.cl
theorem Go.leave (X : Stand p l e R s m args below meth c T locs cells slots) {v : Option Value} (hv : meth.sig.returnType = none → v = none) (hlk : meth.locks = false) {C N : Nat} {Q : PQ} (hc : cells ≤ C) (hn : slots ≤ N) (q : Q v T.heap locs) {A : State}
    (k : ∀ fs, (∀ (f : JFrame) (acts : List Action), f.method = m → f.locked = none → f.entered = [] → (doReturn e (T.setTop f) acts v).1 = T.setFrames fs) → Steps p.tables e below A (T.setFrames fs)) : Go p e below s C N Q A := by
  obtain ⟨fs, hr, hrun, hended, hW, hsame⟩ := X.leave hv hlk
  exact ⟨_, _, k fs hr, hrun, hended, _, _, rfl, q, ⟨_, rfl⟩, hW, hsame.mono hc hn⟩
theorem Go.retI (X : Stand p l e R s m args below meth c T locs cells slots) (hx : p.tables.exec = Jvm.exec) (hby : c.code = bs) (hlk : meth.locks = false) {z : Int32} (hret : meth.sig.returnType = some .int) (hd : decode bs pc = .ok (.ireturn, 1)) {C N : Nat} {Q : PQ} (hc : cells ≤ C) (hn : slots ≤ N) (q : Q (some (.int z)) T.heap locs) :
    Go p e below s C N Q (T.setTop (mkF m pc Ls (.int z :: S))) :=
  Go.leave X (fun h => by rw [hret] at h; cases h) hlk hc hn q fun _ hr => Jvm.RoadKit.retI X hx hret (hb hby hd) hr
theorem Go.retN (X : Stand p l e R s m args below meth c T locs cells slots) (hx : p.tables.exec = Jvm.exec) (hby : c.code = bs) (hlk : meth.locks = false) {z : Int32} {t : FieldType} (hret : meth.sig.returnType = some t) (ht : t = .boolean ∨ t = .byte ∨ t = .char ∨ t = .short) (hd : decode bs pc = .ok (.ireturn, 1)) {C N : Nat} {Q : PQ} (hc : cells ≤ C) (hn : slots ≤ N) (hz : nar t z = z) (q : Q (some (.int z)) T.heap locs) :
    Go p e below s C N Q (T.setTop (mkF m pc Ls (.int z :: S))) :=
  Go.leave X (fun h => by rw [hret] at h; cases h) hlk hc hn q fun _ hr => Jvm.RoadKit.retN X hx hret ht (hb hby hd) (by rw [hz]; exact hr)
theorem Go.retV (X : Stand p l e R s m args below meth c T locs cells slots) (hx : p.tables.exec = Jvm.exec) (hby : c.code = bs) (hlk : meth.locks = false) (hret : meth.sig.returnType = none) (hd : decode bs pc = .ok (.return_, 1)) {C N : Nat} {Q : PQ} (hc : cells ≤ C) (hn : slots ≤ N) (q : Q none T.heap locs) :
    Go p e below s C N Q (T.setTop (mkF m pc Ls [])) :=
  Go.leave X (fun _ => rfl) hlk hc hn q fun _ hr => X.returnOut hx hret (hb hby hd) hr
theorem Go.retO (X : Stand p l e R s m args below meth c T locs cells slots) (hx : p.tables.exec = Jvm.exec) (hby : c.code = bs) (hlk : meth.locks = false) {w : Value} {t : FieldType} {i : Instr} (hret : meth.sig.returnType = some t) (hnw : narrow t w = w)
    (hi : (i = .ireturn ∧ (t = .int ∨ t = .boolean ∨ t = .byte ∨ t = .char ∨ t = .short) ∧ ∃ z, w = .int z) ∨ (i = .lreturn ∧ t = .long ∧ ∃ z, w = .long z) ∨ (i = .dreturn ∧ t = .double ∧ ∃ z, w = .double z) ∨ (i = .freturn ∧ t = .float ∧ ∃ z, w = .float z) ∨ (i = .areturn ∧ t.isReference = true ∧ w.isRef = true))
    (hd : decode bs pc = .ok (i, 1)) {C N : Nat} {Q : PQ} (hc : cells ≤ C) (hn : slots ≤ N) (q : Q (some w) T.heap locs) :
    Go p e below s C N Q (T.setTop (mkF m pc Ls (w :: S))) :=
  Go.leave X (fun h => by rw [hret] at h; cases h) hlk hc hn q fun _ hr => Jvm.RoadKit.retOut X hx hret hnw hi (hb hby hd) hr
/-- two roads meet: at a state like X's, at the heap h, with the frame g' -/
def Mx (X : Stand p l e R s m args below meth c T locs cells slots) (h : Heap) (g' : JFrame) (A : State) : Prop := ∃ T', Stand p l e R s m args below meth c T' locs cells slots ∧ T'.heap = h ∧ ∀ t, Steps p.tables e below (T'.setTop g') t → Steps p.tables e below A t
theorem Mx.cl {X : Stand p l e R s m args below meth c T locs cells slots} {g' : JFrame} : Cl p e below (Mx X h g') := fun A B k ⟨T', X', e', st⟩ => ⟨T', X', e', fun t r => k _ (st t r)⟩
theorem Mx.with {X : Stand p l e R s m args below meth c T locs cells slots} {g' : JFrame} {A : State} (k : Cl p e below (Mx X h g') → Mx X h g' A) : Mx X h g' A := k Mx.cl
theorem Mx.here {X : Stand p l e R s m args below meth c T locs cells slots} {g' : JFrame} {T' : State} (X' : Stand p l e R s m args below meth c T' locs cells slots) (e' : T'.heap = h) : Mx X h g' (T'.setTop g') := ⟨T', X', e', fun _ k => k⟩
theorem own_nar01 {z : Int32} (h : z = 0 ∨ z = 1) : nar .boolean z = z := by rcases h with rfl | rfl <;> rfl
theorem own_px (X : Stand p l e R s m args below meth c T (locs ++ []) (cells + 0) (slots + 0)) : Stand p l e R s m args below meth c T locs cells slots := by rw [List.append_nil] at X; exact X
theorem k_go (K : Cl p e below G) {A B : State} (st : ∀ t, Steps p.tables e below B t → Steps p.tables e below A t) (hr : G B) : G A := K A B st hr
theorem k_some (K : Cl p e below G) {w : Value} (hr : G (T.setTop (mkF m q Ls (w :: S)))) : G (T.setTop (mkF m q Ls ((some w).toList ++ S))) := hr
theorem k_none (K : Cl p e below G) (hr : G (T.setTop (mkF m q Ls S))) : G (T.setTop (mkF m q Ls ((none : Option Value).toList ++ S))) := hr
theorem own_irem (x y : Int32) : x - (x / y) * y = x % y := by
  apply Int32.toInt_inj.mp
  have h1 := Int32.le_toInt (x % y)
  have h2 := Int32.toInt_lt (x % y)
  rw [Int32.toInt_sub, Int32.toInt_mul, Int32.toInt_div, Int.bmod_mul_bmod, Int.sub_bmod_bmod, Int.mul_comm (x.toInt.tdiv y.toInt), ← Int.tmod_def, ← Int32.toInt_mod]
  exact Int.bmod_eq_of_le_mul_two (by omega) (by omega)
theorem m_iload (K : Cl p e below G) (h : At T m c below) (hx : p.tables.exec = Jvm.exec) (hby : c.code = bs) {k : Nat} {v : Int32} (hd : decode bs pc = .ok (.iload k, 2)) (hl : Ls[k]? = some (.val (.int v))) (hq : pc + 2 = q) (hr : G (T.setTop (mkF m q Ls (.int v :: S)))) : G (T.setTop (mkF m pc Ls S)) := by subst hq; exact K _ _ (fun t k => Jvm.Free.XS.iload h hx rfl (hb hby hd) hl k) hr
theorem m_iloadN (K : Cl p e below G) (h : At T m c below) (hx : p.tables.exec = Jvm.exec) (hby : c.code = bs) {k : Fin 4} {v : Int32} (hd : decode bs pc = .ok (.iload_n k, 1)) (hl : Ls[k.val]? = some (.val (.int v))) (hq : pc + 1 = q) (hr : G (T.setTop (mkF m q Ls (.int v :: S)))) : G (T.setTop (mkF m pc Ls S)) := by subst hq; exact K _ _ (fun t k => Jvm.Free.XS.iloadN h hx rfl (hb hby hd) hl k) hr
theorem m_istore (K : Cl p e below G) (h : At T m c below) (hx : p.tables.exec = Jvm.exec) (hby : c.code = bs) {k : Nat} {v : Int32} (l' : Array Slot) (hd : decode bs pc = .ok (.istore k, 2)) (hl : storeLocals Ls k (.int v) = some l') (hq : pc + 2 = q) (hr : G (T.setTop (mkF m q l' S))) : G (T.setTop (mkF m pc Ls (.int v :: S))) := by subst hq; exact K _ _ (fun t k => Jvm.Free.XS.istore h hx rfl (hb hby hd) rfl hl k) hr
theorem m_istoreN (K : Cl p e below G) (h : At T m c below) (hx : p.tables.exec = Jvm.exec) (hby : c.code = bs) {k : Fin 4} {v : Int32} (l' : Array Slot) (hd : decode bs pc = .ok (.istore_n k, 1)) (hl : storeLocals Ls k.val (.int v) = some l') (hq : pc + 1 = q) (hr : G (T.setTop (mkF m q l' S))) : G (T.setTop (mkF m pc Ls (.int v :: S))) := by subst hq; exact K _ _ (fun t k => Jvm.Free.XS.istoreN h hx rfl (hb hby hd) rfl hl k) hr
theorem m_lload (K : Cl p e below G) (h : At T m c below) (hx : p.tables.exec = Jvm.exec) (hby : c.code = bs) {k : Nat} {v : Int64} (hd : decode bs pc = .ok (.lload k, 2)) (hl : Ls[k]? = some (.val (.long v))) (hq : pc + 2 = q) (hr : G (T.setTop (mkF m q Ls (.long v :: S)))) : G (T.setTop (mkF m pc Ls S)) := by subst hq; exact K _ _ (fun t k => Jvm.Free.XS.lload h hx rfl (hb hby hd) hl k) hr
theorem m_lloadN (K : Cl p e below G) (h : At T m c below) (hx : p.tables.exec = Jvm.exec) (hby : c.code = bs) {k : Fin 4} {v : Int64} (hd : decode bs pc = .ok (.lload_n k, 1)) (hl : Ls[k.val]? = some (.val (.long v))) (hq : pc + 1 = q) (hr : G (T.setTop (mkF m q Ls (.long v :: S)))) : G (T.setTop (mkF m pc Ls S)) := by subst hq; exact K _ _ (fun t k => Jvm.Free.XS.lloadN h hx rfl (hb hby hd) hl k) hr
theorem m_lstore (K : Cl p e below G) (h : At T m c below) (hx : p.tables.exec = Jvm.exec) (hby : c.code = bs) {k : Nat} {v : Int64} (l' : Array Slot) (hd : decode bs pc = .ok (.lstore k, 2)) (hl : storeLocals Ls k (.long v) = some l') (hq : pc + 2 = q) (hr : G (T.setTop (mkF m q l' S))) : G (T.setTop (mkF m pc Ls (.long v :: S))) := by subst hq; exact K _ _ (fun t k => Jvm.Free.XS.lstore h hx rfl (hb hby hd) rfl hl k) hr
theorem m_lstoreN (K : Cl p e below G) (h : At T m c below) (hx : p.tables.exec = Jvm.exec) (hby : c.code = bs) {k : Fin 4} {v : Int64} (l' : Array Slot) (hd : decode bs pc = .ok (.lstore_n k, 1)) (hl : storeLocals Ls k.val (.long v) = some l') (hq : pc + 1 = q) (hr : G (T.setTop (mkF m q l' S))) : G (T.setTop (mkF m pc Ls (.long v :: S))) := by subst hq; exact K _ _ (fun t k => Jvm.Free.XS.lstoreN h hx rfl (hb hby hd) rfl hl k) hr
theorem m_dload (K : Cl p e below G) (h : At T m c below) (hx : p.tables.exec = Jvm.exec) (hby : c.code = bs) {k : Nat} {v : UInt64} (hd : decode bs pc = .ok (.dload k, 2)) (hl : Ls[k]? = some (.val (.double v))) (hq : pc + 2 = q) (hr : G (T.setTop (mkF m q Ls (.double v :: S)))) : G (T.setTop (mkF m pc Ls S)) := by subst hq; exact K _ _ (fun t k => Jvm.Free.XS.dload h hx rfl (hb hby hd) hl k) hr
theorem m_dloadN (K : Cl p e below G) (h : At T m c below) (hx : p.tables.exec = Jvm.exec) (hby : c.code = bs) {k : Fin 4} {v : UInt64} (hd : decode bs pc = .ok (.dload_n k, 1)) (hl : Ls[k.val]? = some (.val (.double v))) (hq : pc + 1 = q) (hr : G (T.setTop (mkF m q Ls (.double v :: S)))) : G (T.setTop (mkF m pc Ls S)) := by subst hq; exact K _ _ (fun t k => Jvm.Free.XS.dloadN h hx rfl (hb hby hd) hl k) hr
theorem m_dstore (K : Cl p e below G) (h : At T m c below) (hx : p.tables.exec = Jvm.exec) (hby : c.code = bs) {k : Nat} {v : UInt64} (l' : Array Slot) (hd : decode bs pc = .ok (.dstore k, 2)) (hl : storeLocals Ls k (.double v) = some l') (hq : pc + 2 = q) (hr : G (T.setTop (mkF m q l' S))) : G (T.setTop (mkF m pc Ls (.double v :: S))) := by subst hq; exact K _ _ (fun t k => Jvm.Free.XS.dstore h hx rfl (hb hby hd) rfl hl k) hr
theorem m_dstoreN (K : Cl p e below G) (h : At T m c below) (hx : p.tables.exec = Jvm.exec) (hby : c.code = bs) {k : Fin 4} {v : UInt64} (l' : Array Slot) (hd : decode bs pc = .ok (.dstore_n k, 1)) (hl : storeLocals Ls k.val (.double v) = some l') (hq : pc + 1 = q) (hr : G (T.setTop (mkF m q l' S))) : G (T.setTop (mkF m pc Ls (.double v :: S))) := by subst hq; exact K _ _ (fun t k => Jvm.Free.XS.dstoreN h hx rfl (hb hby hd) rfl hl k) hr
theorem m_aload (K : Cl p e below G) (h : At T m c below) (hx : p.tables.exec = Jvm.exec) (hby : c.code = bs) {k : Nat} {v : Value} (hd : decode bs pc = .ok (.aload k, 2)) (hl : Ls[k]? = some (.val v)) (hv : v.isRef = true) (hq : pc + 2 = q) (hr : G (T.setTop (mkF m q Ls (v :: S)))) : G (T.setTop (mkF m pc Ls S)) := by subst hq; exact K _ _ (fun t k => Jvm.Free.XS.aload h hx rfl (hb hby hd) hl hv k) hr
theorem m_aloadN (K : Cl p e below G) (h : At T m c below) (hx : p.tables.exec = Jvm.exec) (hby : c.code = bs) {k : Fin 4} {v : Value} (hd : decode bs pc = .ok (.aload_n k, 1)) (hl : Ls[k.val]? = some (.val v)) (hv : v.isRef = true) (hq : pc + 1 = q) (hr : G (T.setTop (mkF m q Ls (v :: S)))) : G (T.setTop (mkF m pc Ls S)) := by subst hq; exact K _ _ (fun t k => Jvm.Free.XS.aloadN h hx rfl (hb hby hd) hl hv k) hr
theorem m_astore (K : Cl p e below G) (h : At T m c below) (hx : p.tables.exec = Jvm.exec) (hby : c.code = bs) {k : Nat} {v : Value} (l' : Array Slot) (hd : decode bs pc = .ok (.astore k, 2)) (hv : v.isRef = true) (hl : storeLocals Ls k v = some l') (hq : pc + 2 = q) (hr : G (T.setTop (mkF m q l' S))) : G (T.setTop (mkF m pc Ls (v :: S))) := by subst hq; exact K _ _ (fun t k => Jvm.Free.XS.astore h hx rfl (hb hby hd) rfl hv hl k) hr
theorem m_astoreN (K : Cl p e below G) (h : At T m c below) (hx : p.tables.exec = Jvm.exec) (hby : c.code = bs) {k : Fin 4} {v : Value} (l' : Array Slot) (hd : decode bs pc = .ok (.astore_n k, 1)) (hv : v.isRef = true) (hl : storeLocals Ls k.val v = some l') (hq : pc + 1 = q) (hr : G (T.setTop (mkF m q l' S))) : G (T.setTop (mkF m pc Ls (v :: S))) := by subst hq; exact K _ _ (fun t k => Jvm.Free.XS.astoreN h hx rfl (hb hby hd) rfl hv hl k) hr
theorem m_iconst (K : Cl p e below G) (h : At T m c below) (hx : p.tables.exec = Jvm.exec) (hby : c.code = bs) {i : Int} (z : Int32) (hd : decode bs pc = .ok (.iconst i, 1)) (hz : Int32.ofInt i = z) (hq : pc + 1 = q) (hr : G (T.setTop (mkF m q Ls (.int z :: S)))) : G (T.setTop (mkF m pc Ls S)) := by subst hq; subst hz; exact K _ _ (fun t k => Jvm.Free.XS.iconst h hx rfl (hb hby hd) k) hr
theorem m_bipush (K : Cl p e below G) (h : At T m c below) (hx : p.tables.exec = Jvm.exec) (hby : c.code = bs) {i : Int} (z : Int32) (hd : decode bs pc = .ok (.bipush i, 2)) (hz : (Int8.ofInt i).toInt32 = z) (hq : pc + 2 = q) (hr : G (T.setTop (mkF m q Ls (.int z :: S)))) : G (T.setTop (mkF m pc Ls S)) := by subst hq; subst hz; exact K _ _ (fun t k => Jvm.Free.XS.bipush h hx rfl (hb hby hd) k) hr
theorem m_sipush (K : Cl p e below G) (h : At T m c below) (hx : p.tables.exec = Jvm.exec) (hby : c.code = bs) {i : Int} (z : Int32) (hd : decode bs pc = .ok (.sipush i, 3)) (hz : (Int16.ofInt i).toInt32 = z) (hq : pc + 3 = q) (hr : G (T.setTop (mkF m q Ls (.int z :: S)))) : G (T.setTop (mkF m pc Ls S)) := by subst hq; subst hz; exact K _ _ (fun t k => Jvm.Free.XS.sipush h hx rfl (hb hby hd) k) hr
theorem m_lconst (K : Cl p e below G) (h : At T m c below) (hx : p.tables.exec = Jvm.exec) (hby : c.code = bs) {k : Fin 2} (z : Int64) (hd : decode bs pc = .ok (.lconst k, 1)) (hz : Int64.ofNat k.val = z) (hq : pc + 1 = q) (hr : G (T.setTop (mkF m q Ls (.long z :: S)))) : G (T.setTop (mkF m pc Ls S)) := by subst hq; subst hz; exact K _ _ (fun t k => Jvm.Free.XS.lconst h hx rfl (hb hby hd) k) hr
theorem m_null (K : Cl p e below G) (h : At T m c below) (hx : p.tables.exec = Jvm.exec) (hby : c.code = bs)  (hd : decode bs pc = .ok (.aconst_null, 1)) (hq : pc + 1 = q) (hr : G (T.setTop (mkF m q Ls (.null :: S)))) : G (T.setTop (mkF m pc Ls S)) := by subst hq; exact K _ _ (fun t k => Jvm.Free.XS.aconstNull h hx rfl (hb hby hd) k) hr
theorem m_iadd (K : Cl p e below G) (h : At T m c below) (hx : p.tables.exec = Jvm.exec) (hby : c.code = bs) {x y : Int32} (z : Int32) (hd : decode bs pc = .ok (.iadd, 1)) (hz : x + y = z) (hq : pc + 1 = q) (hr : G (T.setTop (mkF m q Ls (.int z :: S)))) : G (T.setTop (mkF m pc Ls (.int y :: .int x :: S))) := by subst hq; subst hz; exact K _ _ (fun t k => Jvm.Free.XS.iadd h hx rfl (hb hby hd) rfl k) hr
theorem m_isub (K : Cl p e below G) (h : At T m c below) (hx : p.tables.exec = Jvm.exec) (hby : c.code = bs) {x y : Int32} (z : Int32) (hd : decode bs pc = .ok (.isub, 1)) (hz : x - y = z) (hq : pc + 1 = q) (hr : G (T.setTop (mkF m q Ls (.int z :: S)))) : G (T.setTop (mkF m pc Ls (.int y :: .int x :: S))) := by subst hq; subst hz; exact K _ _ (fun t k => Jvm.Free.XS.isub h hx rfl (hb hby hd) rfl k) hr
theorem m_imul (K : Cl p e below G) (h : At T m c below) (hx : p.tables.exec = Jvm.exec) (hby : c.code = bs) {x y : Int32} (z : Int32) (hd : decode bs pc = .ok (.imul, 1)) (hz : x * y = z) (hq : pc + 1 = q) (hr : G (T.setTop (mkF m q Ls (.int z :: S)))) : G (T.setTop (mkF m pc Ls (.int y :: .int x :: S))) := by subst hq; subst hz; exact K _ _ (fun t k => Jvm.Free.XS.imul h hx rfl (hb hby hd) rfl k) hr
theorem m_iand (K : Cl p e below G) (h : At T m c below) (hx : p.tables.exec = Jvm.exec) (hby : c.code = bs) {x y : Int32} (z : Int32) (hd : decode bs pc = .ok (.iand, 1)) (hz : x &&& y = z) (hq : pc + 1 = q) (hr : G (T.setTop (mkF m q Ls (.int z :: S)))) : G (T.setTop (mkF m pc Ls (.int y :: .int x :: S))) := by subst hq; subst hz; exact K _ _ (fun t k => Jvm.Free.XS.iand h hx rfl (hb hby hd) rfl k) hr
theorem m_ior (K : Cl p e below G) (h : At T m c below) (hx : p.tables.exec = Jvm.exec) (hby : c.code = bs) {x y : Int32} (z : Int32) (hd : decode bs pc = .ok (.ior, 1)) (hz : x ||| y = z) (hq : pc + 1 = q) (hr : G (T.setTop (mkF m q Ls (.int z :: S)))) : G (T.setTop (mkF m pc Ls (.int y :: .int x :: S))) := by subst hq; subst hz; exact K _ _ (fun t k => Jvm.Free.XS.ior h hx rfl (hb hby hd) rfl k) hr
theorem m_ixor (K : Cl p e below G) (h : At T m c below) (hx : p.tables.exec = Jvm.exec) (hby : c.code = bs) {x y : Int32} (z : Int32) (hd : decode bs pc = .ok (.ixor, 1)) (hz : x ^^^ y = z) (hq : pc + 1 = q) (hr : G (T.setTop (mkF m q Ls (.int z :: S)))) : G (T.setTop (mkF m pc Ls (.int y :: .int x :: S))) := by subst hq; subst hz; exact K _ _ (fun t k => Jvm.Free.XS.ixor h hx rfl (hb hby hd) rfl k) hr
theorem m_idiv (K : Cl p e below G) (h : At T m c below) (hx : p.tables.exec = Jvm.exec) (hby : c.code = bs) {x y : Int32} (z : Int32) (hd : decode bs pc = .ok (.idiv, 1)) (hy : y ≠ 0) (hz : x / y = z) (hq : pc + 1 = q) (hr : G (T.setTop (mkF m q Ls (.int z :: S)))) : G (T.setTop (mkF m pc Ls (.int y :: .int x :: S))) := by subst hq; subst hz; exact K _ _ (fun t k => Jvm.Free.XS.idiv h hx rfl (hb hby hd) rfl hy k) hr
theorem m_ladd (K : Cl p e below G) (h : At T m c below) (hx : p.tables.exec = Jvm.exec) (hby : c.code = bs) {x y : Int64} (z : Int64) (hd : decode bs pc = .ok (.ladd, 1)) (hz : x + y = z) (hq : pc + 1 = q) (hr : G (T.setTop (mkF m q Ls (.long z :: S)))) : G (T.setTop (mkF m pc Ls (.long y :: .long x :: S))) := by subst hq; subst hz; exact K _ _ (fun t k => Jvm.Free.XS.ladd h hx rfl (hb hby hd) rfl k) hr
theorem m_lsub (K : Cl p e below G) (h : At T m c below) (hx : p.tables.exec = Jvm.exec) (hby : c.code = bs) {x y : Int64} (z : Int64) (hd : decode bs pc = .ok (.lsub, 1)) (hz : x - y = z) (hq : pc + 1 = q) (hr : G (T.setTop (mkF m q Ls (.long z :: S)))) : G (T.setTop (mkF m pc Ls (.long y :: .long x :: S))) := by subst hq; subst hz; exact K _ _ (fun t k => Jvm.Free.XS.lsub h hx rfl (hb hby hd) rfl k) hr
theorem m_lmul (K : Cl p e below G) (h : At T m c below) (hx : p.tables.exec = Jvm.exec) (hby : c.code = bs) {x y : Int64} (z : Int64) (hd : decode bs pc = .ok (.lmul, 1)) (hz : x * y = z) (hq : pc + 1 = q) (hr : G (T.setTop (mkF m q Ls (.long z :: S)))) : G (T.setTop (mkF m pc Ls (.long y :: .long x :: S))) := by subst hq; subst hz; exact K _ _ (fun t k => Jvm.Free.XS.lmul h hx rfl (hb hby hd) rfl k) hr
theorem m_land (K : Cl p e below G) (h : At T m c below) (hx : p.tables.exec = Jvm.exec) (hby : c.code = bs) {x y : Int64} (z : Int64) (hd : decode bs pc = .ok (.land, 1)) (hz : x &&& y = z) (hq : pc + 1 = q) (hr : G (T.setTop (mkF m q Ls (.long z :: S)))) : G (T.setTop (mkF m pc Ls (.long y :: .long x :: S))) := by subst hq; subst hz; exact K _ _ (fun t k => Jvm.Free.XS.land h hx rfl (hb hby hd) rfl k) hr
theorem m_lor (K : Cl p e below G) (h : At T m c below) (hx : p.tables.exec = Jvm.exec) (hby : c.code = bs) {x y : Int64} (z : Int64) (hd : decode bs pc = .ok (.lor, 1)) (hz : x ||| y = z) (hq : pc + 1 = q) (hr : G (T.setTop (mkF m q Ls (.long z :: S)))) : G (T.setTop (mkF m pc Ls (.long y :: .long x :: S))) := by subst hq; subst hz; exact K _ _ (fun t k => Jvm.Free.XS.lor h hx rfl (hb hby hd) rfl k) hr
theorem m_lxor (K : Cl p e below G) (h : At T m c below) (hx : p.tables.exec = Jvm.exec) (hby : c.code = bs) {x y : Int64} (z : Int64) (hd : decode bs pc = .ok (.lxor, 1)) (hz : x ^^^ y = z) (hq : pc + 1 = q) (hr : G (T.setTop (mkF m q Ls (.long z :: S)))) : G (T.setTop (mkF m pc Ls (.long y :: .long x :: S))) := by subst hq; subst hz; exact K _ _ (fun t k => Jvm.Free.XS.lxor h hx rfl (hb hby hd) rfl k) hr
theorem m_ldiv (K : Cl p e below G) (h : At T m c below) (hx : p.tables.exec = Jvm.exec) (hby : c.code = bs) {x y : Int64} (z : Int64) (hd : decode bs pc = .ok (.ldiv, 1)) (hy : y ≠ 0) (hz : x / y = z) (hq : pc + 1 = q) (hr : G (T.setTop (mkF m q Ls (.long z :: S)))) : G (T.setTop (mkF m pc Ls (.long y :: .long x :: S))) := by subst hq; subst hz; exact K _ _ (fun t k => Jvm.Free.XS.ldiv h hx rfl (hb hby hd) rfl hy k) hr
theorem m_irem (K : Cl p e below G) (h : At T m c below) (hx : p.tables.exec = Jvm.exec) (hby : c.code = bs) {x y : Int32} (z : Int32) (hd : decode bs pc = .ok (.irem, 1)) (hy : y ≠ 0) (hz : x % y = z) (hq : pc + 1 = q) (hr : G (T.setTop (mkF m q Ls (.int z :: S)))) : G (T.setTop (mkF m pc Ls (.int y :: .int x :: S))) := by subst hq; subst hz; rw [← own_irem] at hr; exact K _ _ (fun t k => Jvm.Free.XS.irem h hx rfl (hb hby hd) rfl hy k) hr
theorem m_lrem (K : Cl p e below G) (h : At T m c below) (hx : p.tables.exec = Jvm.exec) (hby : c.code = bs) {x y : Int64} (z : Int64) (hd : decode bs pc = .ok (.lrem, 1)) (hy : y ≠ 0) (hz : x - (x / y) * y = z) (hq : pc + 1 = q) (hr : G (T.setTop (mkF m q Ls (.long z :: S)))) : G (T.setTop (mkF m pc Ls (.long y :: .long x :: S))) := by subst hq; subst hz; exact K _ _ (fun t k => Jvm.Free.XS.lrem h hx rfl (hb hby hd) rfl hy k) hr
theorem m_ishl (K : Cl p e below G) (h : At T m c below) (hx : p.tables.exec = Jvm.exec) (hby : c.code = bs) {x : Int32} {y : Int32} (z : Int32) (hd : decode bs pc = .ok (.ishl, 1)) (hz : x <<< (y &&& 31) = z) (hq : pc + 1 = q) (hr : G (T.setTop (mkF m q Ls (.int z :: S)))) : G (T.setTop (mkF m pc Ls (.int y :: .int x :: S))) := by subst hq; subst hz; exact K _ _ (fun t k => Jvm.Free.XS.ishl h hx rfl (hb hby hd) rfl k) hr
theorem m_ishr (K : Cl p e below G) (h : At T m c below) (hx : p.tables.exec = Jvm.exec) (hby : c.code = bs) {x : Int32} {y : Int32} (z : Int32) (hd : decode bs pc = .ok (.ishr, 1)) (hz : x >>> (y &&& 31) = z) (hq : pc + 1 = q) (hr : G (T.setTop (mkF m q Ls (.int z :: S)))) : G (T.setTop (mkF m pc Ls (.int y :: .int x :: S))) := by subst hq; subst hz; exact K _ _ (fun t k => Jvm.Free.XS.ishr h hx rfl (hb hby hd) rfl k) hr
theorem m_iushr (K : Cl p e below G) (h : At T m c below) (hx : p.tables.exec = Jvm.exec) (hby : c.code = bs) {x : Int32} {y : Int32} (z : Int32) (hd : decode bs pc = .ok (.iushr, 1)) (hz : (x.toUInt32 >>> (y &&& 31).toUInt32).toInt32 = z) (hq : pc + 1 = q) (hr : G (T.setTop (mkF m q Ls (.int z :: S)))) : G (T.setTop (mkF m pc Ls (.int y :: .int x :: S))) := by subst hq; subst hz; exact K _ _ (fun t k => Jvm.Free.XS.iushr h hx rfl (hb hby hd) rfl k) hr
theorem m_lshl (K : Cl p e below G) (h : At T m c below) (hx : p.tables.exec = Jvm.exec) (hby : c.code = bs) {x : Int64} {y : Int32} (z : Int64) (hd : decode bs pc = .ok (.lshl, 1)) (hz : x <<< (y &&& 0x3f).toInt64 = z) (hq : pc + 1 = q) (hr : G (T.setTop (mkF m q Ls (.long z :: S)))) : G (T.setTop (mkF m pc Ls (.int y :: .long x :: S))) := by subst hq; subst hz; exact K _ _ (fun t k => Jvm.Free.XS.lshl h hx rfl (hb hby hd) rfl k) hr
theorem m_lshr (K : Cl p e below G) (h : At T m c below) (hx : p.tables.exec = Jvm.exec) (hby : c.code = bs) {x : Int64} {y : Int32} (z : Int64) (hd : decode bs pc = .ok (.lshr, 1)) (hz : x >>> (y &&& 0x3f).toInt64 = z) (hq : pc + 1 = q) (hr : G (T.setTop (mkF m q Ls (.long z :: S)))) : G (T.setTop (mkF m pc Ls (.int y :: .long x :: S))) := by subst hq; subst hz; exact K _ _ (fun t k => Jvm.Free.XS.lshr h hx rfl (hb hby hd) rfl k) hr
theorem m_lushr (K : Cl p e below G) (h : At T m c below) (hx : p.tables.exec = Jvm.exec) (hby : c.code = bs) {x : Int64} {y : Int32} (z : Int64) (hd : decode bs pc = .ok (.lushr, 1)) (hz : (x.toUInt64 >>> (y &&& 0x3f).toInt64.toUInt64).toInt64 = z) (hq : pc + 1 = q) (hr : G (T.setTop (mkF m q Ls (.long z :: S)))) : G (T.setTop (mkF m pc Ls (.int y :: .long x :: S))) := by subst hq; subst hz; exact K _ _ (fun t k => Jvm.Free.XS.lushr h hx rfl (hb hby hd) rfl k) hr
theorem m_ineg (K : Cl p e below G) (h : At T m c below) (hx : p.tables.exec = Jvm.exec) (hby : c.code = bs) {x : Int32} (z : Int32) (hd : decode bs pc = .ok (.ineg, 1)) (hz : -x = z) (hq : pc + 1 = q) (hr : G (T.setTop (mkF m q Ls (.int z :: S)))) : G (T.setTop (mkF m pc Ls (.int x :: S))) := by subst hq; subst hz; exact K _ _ (fun t k => Jvm.Free.XS.ineg h hx rfl (hb hby hd) rfl k) hr
theorem m_lneg (K : Cl p e below G) (h : At T m c below) (hx : p.tables.exec = Jvm.exec) (hby : c.code = bs) {x : Int64} (z : Int64) (hd : decode bs pc = .ok (.lneg, 1)) (hz : -x = z) (hq : pc + 1 = q) (hr : G (T.setTop (mkF m q Ls (.long z :: S)))) : G (T.setTop (mkF m pc Ls (.long x :: S))) := by subst hq; subst hz; exact K _ _ (fun t k => Jvm.Free.XS.lneg h hx rfl (hb hby hd) rfl k) hr
theorem m_i2l (K : Cl p e below G) (h : At T m c below) (hx : p.tables.exec = Jvm.exec) (hby : c.code = bs) {x : Int32} (z : Int64) (hd : decode bs pc = .ok (.i2l, 1)) (hz : x.toInt64 = z) (hq : pc + 1 = q) (hr : G (T.setTop (mkF m q Ls (.long z :: S)))) : G (T.setTop (mkF m pc Ls (.int x :: S))) := by subst hq; subst hz; exact K _ _ (fun t k => Jvm.Free.XS.i2l h hx rfl (hb hby hd) rfl k) hr
theorem m_l2i (K : Cl p e below G) (h : At T m c below) (hx : p.tables.exec = Jvm.exec) (hby : c.code = bs) {x : Int64} (z : Int32) (hd : decode bs pc = .ok (.l2i, 1)) (hz : x.toInt32 = z) (hq : pc + 1 = q) (hr : G (T.setTop (mkF m q Ls (.int z :: S)))) : G (T.setTop (mkF m pc Ls (.long x :: S))) := by subst hq; subst hz; exact K _ _ (fun t k => Jvm.Free.XS.l2i h hx rfl (hb hby hd) rfl k) hr
theorem m_i2b (K : Cl p e below G) (h : At T m c below) (hx : p.tables.exec = Jvm.exec) (hby : c.code = bs) {x : Int32} (z : Int32) (hd : decode bs pc = .ok (.i2b, 1)) (hz : x.toInt8.toInt32 = z) (hq : pc + 1 = q) (hr : G (T.setTop (mkF m q Ls (.int z :: S)))) : G (T.setTop (mkF m pc Ls (.int x :: S))) := by subst hq; subst hz; exact K _ _ (fun t k => Jvm.Free.XS.i2b h hx rfl (hb hby hd) rfl k) hr
theorem m_i2s (K : Cl p e below G) (h : At T m c below) (hx : p.tables.exec = Jvm.exec) (hby : c.code = bs) {x : Int32} (z : Int32) (hd : decode bs pc = .ok (.i2s, 1)) (hz : x.toInt16.toInt32 = z) (hq : pc + 1 = q) (hr : G (T.setTop (mkF m q Ls (.int z :: S)))) : G (T.setTop (mkF m pc Ls (.int x :: S))) := by subst hq; subst hz; exact K _ _ (fun t k => Jvm.Free.XS.i2s h hx rfl (hb hby hd) rfl k) hr
theorem m_i2c (K : Cl p e below G) (h : At T m c below) (hx : p.tables.exec = Jvm.exec) (hby : c.code = bs) {x : Int32} (z : Int32) (hd : decode bs pc = .ok (.i2c, 1)) (hz : x.toUInt32.toUInt16.toUInt32.toInt32 = z) (hq : pc + 1 = q) (hr : G (T.setTop (mkF m q Ls (.int z :: S)))) : G (T.setTop (mkF m pc Ls (.int x :: S))) := by subst hq; subst hz; exact K _ _ (fun t k => Jvm.Free.XS.i2c h hx rfl (hb hby hd) rfl k) hr
theorem m_lcmp (K : Cl p e below G) (h : At T m c below) (hx : p.tables.exec = Jvm.exec) (hby : c.code = bs) {x y : Int64} (z : Int32) (hd : decode bs pc = .ok (.lcmp, 1)) (hz : lcmpW x y = z) (hq : pc + 1 = q) (hr : G (T.setTop (mkF m q Ls (.int z :: S)))) : G (T.setTop (mkF m pc Ls (.long y :: .long x :: S))) := by subst hq; subst hz; exact K _ _ (fun t k => Jvm.Free.XS.lcmp h hx rfl (hb hby hd) rfl k) hr
theorem m_iinc (K : Cl p e below G) (h : At T m c below) (hx : p.tables.exec = Jvm.exec) (hby : c.code = bs) {k : Nat} {i : Int} {x : Int32} (l' : Array Slot) (hd : decode bs pc = .ok (.iinc k i, 3)) (hl : Ls[k]? = some (.val (.int x))) (hl' : storeLocals Ls k (.int (x + Int32.ofInt i)) = some l') (hq : pc + 3 = q) (hr : G (T.setTop (mkF m q l' S))) : G (T.setTop (mkF m pc Ls S)) := by subst hq; exact K _ _ (fun t k => Jvm.Free.XS.iinc h hx rfl (hb hby hd) hl hl' k) hr
theorem m_dup (K : Cl p e below G) (h : At T m c below) (hx : p.tables.exec = Jvm.exec) (hby : c.code = bs) {v : Value} (hd : decode bs pc = .ok (.dup, 1)) (hv : v.category = 1) (hq : pc + 1 = q) (hr : G (T.setTop (mkF m q Ls (v :: v :: S)))) : G (T.setTop (mkF m pc Ls (v :: S))) := by subst hq; exact K _ _ (fun t k => Jvm.Free.XS.dup h hx rfl (hb hby hd) rfl hv k) hr
theorem m_dupX1 (K : Cl p e below G) (h : At T m c below) (hx : p.tables.exec = Jvm.exec) (hby : c.code = bs) {v w : Value} (hd : decode bs pc = .ok (.dup_x1, 1)) (hv : v.category = 1) (hw : w.category = 1) (hq : pc + 1 = q) (hr : G (T.setTop (mkF m q Ls (v :: w :: v :: S)))) : G (T.setTop (mkF m pc Ls (v :: w :: S))) := by subst hq; exact K _ _ (fun t k => Jvm.Free.XS.dupX1 h hx rfl (hb hby hd) rfl hv hw k) hr
theorem m_dup2 (K : Cl p e below G) (h : At T m c below) (hx : p.tables.exec = Jvm.exec) (hby : c.code = bs) {v w : Value} (hd : decode bs pc = .ok (.dup2, 1)) (hv : v.category = 1) (hw : w.category = 1) (hq : pc + 1 = q) (hr : G (T.setTop (mkF m q Ls (v :: w :: v :: w :: S)))) : G (T.setTop (mkF m pc Ls (v :: w :: S))) := by subst hq; refine K _ _ (fun t k => ?_) hr; cases v <;> cases w <;> simp [Value.category] at hv hw <;> (jvm_step h [h.top, hx, hb hby hd, Value.category]; exact k)
theorem m_dup2L (K : Cl p e below G) (h : At T m c below) (hx : p.tables.exec = Jvm.exec) (hby : c.code = bs) {v : Int64} (hd : decode bs pc = .ok (.dup2, 1)) (hq : pc + 1 = q) (hr : G (T.setTop (mkF m q Ls (.long v :: .long v :: S)))) : G (T.setTop (mkF m pc Ls (.long v :: S))) := by subst hq; refine K _ _ (fun t k => ?_) hr; jvm_step h [h.top, hx, hb hby hd, Value.category]; exact k
theorem m_pop (K : Cl p e below G) (h : At T m c below) (hx : p.tables.exec = Jvm.exec) (hby : c.code = bs) {v : Value} (hd : decode bs pc = .ok (.pop, 1)) (hv : v.category = 1) (hq : pc + 1 = q) (hr : G (T.setTop (mkF m q Ls S))) : G (T.setTop (mkF m pc Ls (v :: S))) := by subst hq; exact K _ _ (fun t k => Jvm.Free.XS.pop h hx rfl (hb hby hd) rfl hv k) hr
theorem m_goto (K : Cl p e below G) (h : At T m c below) (hx : p.tables.exec = Jvm.exec) (hby : c.code = bs)  {o : Int} (hd : decode bs pc = .ok (.goto o, 3)) (ho : 0 ≤ (pc : Int) + o) (hq : ((pc : Int) + o).toNat = q) (hr : G (T.setTop (mkF m q Ls S))) : G (T.setTop (mkF m pc Ls S)) := by exact K _ _ (fun t k => Jvm.Free.XS.goto h hx rfl rfl (hb hby hd) ho hq k) hr
theorem m_ifY (K : Cl p e below G) (h : At T m c below) (hx : p.tables.exec = Jvm.exec) (hby : c.code = bs) {cd : ClassFile.Cond} {x : Int32} {o : Int} (hd : decode bs pc = .ok (.ifCond cd o, 3)) (hc : ifCond.holds cd x = true) (ho : 0 ≤ (pc : Int) + o) (hq : ((pc : Int) + o).toNat = q) (hr : G (T.setTop (mkF m q Ls S))) : G (T.setTop (mkF m pc Ls (.int x :: S))) := by exact K _ _ (fun t k => Jvm.Free.XS.ifYes h hx rfl rfl (hb hby hd) rfl hc ho hq k) hr
theorem m_icmpY (K : Cl p e below G) (h : At T m c below) (hx : p.tables.exec = Jvm.exec) (hby : c.code = bs) {cd : ClassFile.Cond} {x y : Int32} {o : Int} (hd : decode bs pc = .ok (.if_icmp cd o, 3)) (hc : if_icmp.holds cd x y = true) (ho : 0 ≤ (pc : Int) + o) (hq : ((pc : Int) + o).toNat = q) (hr : G (T.setTop (mkF m q Ls S))) : G (T.setTop (mkF m pc Ls (.int y :: .int x :: S))) := by exact K _ _ (fun t k => Jvm.Free.XS.icmpYes h hx rfl rfl (hb hby hd) rfl hc ho hq k) hr
theorem m_nullY (K : Cl p e below G) (h : At T m c below) (hx : p.tables.exec = Jvm.exec) (hby : c.code = bs)  {o : Int} (hd : decode bs pc = .ok (.ifnull o, 3)) (ho : 0 ≤ (pc : Int) + o) (hq : ((pc : Int) + o).toNat = q) (hr : G (T.setTop (mkF m q Ls S))) : G (T.setTop (mkF m pc Ls (.null :: S))) := by exact K _ _ (fun t k => Jvm.Free.XS.ifnullYes h hx rfl rfl (hb hby hd) rfl ho hq k) hr
theorem m_nnY (K : Cl p e below G) (h : At T m c below) (hx : p.tables.exec = Jvm.exec) (hby : c.code = bs) {a : Addr} {o : Int} (hd : decode bs pc = .ok (.ifnonnull o, 3)) (ho : 0 ≤ (pc : Int) + o) (hq : ((pc : Int) + o).toNat = q) (hr : G (T.setTop (mkF m q Ls S))) : G (T.setTop (mkF m pc Ls (.ref a :: S))) := by exact K _ _ (fun t k => Jvm.Free.XS.ifnonnullYes h hx rfl rfl (hb hby hd) rfl ho hq k) hr
theorem m_ifN (K : Cl p e below G) (h : At T m c below) (hx : p.tables.exec = Jvm.exec) (hby : c.code = bs) {cd : ClassFile.Cond} {o : Int} {x : Int32} (hd : decode bs pc = .ok (.ifCond cd o, 3)) (hc : ifCond.holds cd x = false) (hq : pc + 3 = q) (hr : G (T.setTop (mkF m q Ls S))) : G (T.setTop (mkF m pc Ls (.int x :: S))) := by subst hq; exact K _ _ (fun t k => Jvm.Free.XS.ifNo h hx rfl (hb hby hd) rfl hc k) hr
theorem m_icmpN (K : Cl p e below G) (h : At T m c below) (hx : p.tables.exec = Jvm.exec) (hby : c.code = bs) {cd : ClassFile.Cond} {o : Int} {x y : Int32} (hd : decode bs pc = .ok (.if_icmp cd o, 3)) (hc : if_icmp.holds cd x y = false) (hq : pc + 3 = q) (hr : G (T.setTop (mkF m q Ls S))) : G (T.setTop (mkF m pc Ls (.int y :: .int x :: S))) := by subst hq; exact K _ _ (fun t k => Jvm.Free.XS.icmpNo h hx rfl (hb hby hd) rfl hc k) hr
theorem m_nullN (K : Cl p e below G) (h : At T m c below) (hx : p.tables.exec = Jvm.exec) (hby : c.code = bs) {o : Int} {a : Addr} (hd : decode bs pc = .ok (.ifnull o, 3)) (hq : pc + 3 = q) (hr : G (T.setTop (mkF m q Ls S))) : G (T.setTop (mkF m pc Ls (.ref a :: S))) := by subst hq; exact K _ _ (fun t k => Jvm.Free.XS.ifnullNo h hx rfl (hb hby hd) rfl k) hr
theorem m_nnN (K : Cl p e below G) (h : At T m c below) (hx : p.tables.exec = Jvm.exec) (hby : c.code = bs) {o : Int} (hd : decode bs pc = .ok (.ifnonnull o, 3)) (hq : pc + 3 = q) (hr : G (T.setTop (mkF m q Ls S))) : G (T.setTop (mkF m pc Ls (.null :: S))) := by subst hq; exact K _ _ (fun t k => Jvm.Free.XS.ifnonnullNo h hx rfl (hb hby hd) rfl k) hr
theorem m_acmp (K : Cl p e below G) (X : Stand p l e R s m args below meth c T locs cells slots) (hx : p.tables.exec = Jvm.exec) (hby : c.code = bs) {cd : ACond} {x y : Value} {o : Int} (same : Bool) (hd : decode bs pc = .ok (.if_acmp cd o, 3)) (h1 : x.isRef = true) (h2 : y.isRef = true) (hs : decide (x = y) = same) (ho : 0 ≤ (pc : Int) + o) (hq : q = if acV cd same = true then ((pc : Int) + o).toNat else pc + 3) (hr : G (T.setTop (mkF m q Ls S))) : G (T.setTop (mkF m pc Ls (y :: x :: S))) := K _ _ (fun t k => Jvm.RoadKit.acmp (g := mkF m pc Ls (y :: x :: S)) X hx rfl h1 h2 rfl (hb hby hd) rfl hs ho hq k) hr
theorem m_ldc (K : Cl p e below G) (X : Stand p l e R s m args below meth c T locs cells slots) (hx : p.tables.exec = Jvm.exec) (hby : c.code = bs) (hZ : Z.Warmed39 s.vm) {own : String} {i : Nat} {v : Int32} (hown : s.vm.findClass own = some m.cls) (w : (Jvm.Cond.constant own i v).before a0 Z = true) (hd : decode bs pc = .ok (.ldc i, 2)) (hq : pc + 2 = q) (hr : G (T.setTop (mkF m q Ls (.int v :: S)))) : G (T.setTop (mkF m pc Ls S)) := by subst hq; exact K _ _ (fun t k => X.ldcInt hx hown (mvT hZ w) (g := mkF m pc Ls S) rfl (hb hby hd) _ k) hr
theorem m_ldcw (K : Cl p e below G) (X : Stand p l e R s m args below meth c T locs cells slots) (hx : p.tables.exec = Jvm.exec) (hby : c.code = bs) (hZ : Z.Warmed39 s.vm) {own : String} {i : Nat} {v : Int32} (hown : s.vm.findClass own = some m.cls) (w : (Jvm.Cond.constant own i v).before a0 Z = true) (hd : decode bs pc = .ok (.ldc_w i, 3)) (hq : pc + 3 = q) (hr : G (T.setTop (mkF m q Ls (.int v :: S)))) : G (T.setTop (mkF m pc Ls S)) := by subst hq; exact K _ _ (fun t k => X.ldcwInt hx hown (mvT hZ w) (g := mkF m pc Ls S) rfl (hb hby hd) _ k) hr
theorem m_ldc2 (K : Cl p e below G) (X : Stand p l e R s m args below meth c T locs cells slots) (hx : p.tables.exec = Jvm.exec) (hby : c.code = bs) (hZ : Z.Warmed39 s.vm) {own : String} {i : Nat} {v : Int64} (hown : s.vm.findClass own = some m.cls) (w : (Jvm.Cond.constantLong own i v).before a0 Z = true) (hd : decode bs pc = .ok (.ldc2_w i, 3)) (hq : pc + 3 = q) (hr : G (T.setTop (mkF m q Ls (.long v :: S)))) : G (T.setTop (mkF m pc Ls S)) := by subst hq; exact K _ _ (fun t k => X.ldc2Long hx hown (mvT hZ w) (g := mkF m pc Ls S) rfl (hb hby hd) _ k) hr
theorem k_getF (K : Cl p e below G) (X : Stand p l e R s m args below meth c T locs cells slots) (hx : p.tables.exec = Jvm.exec) (hby : c.code = bs) (hZ : Z.Warmed39 s.vm) {own R0 O n d host : String} {i : Nat} (hown : s.vm.findClass own = some m.cls) (w : (Jvm.Cond.fieldLink own i R0 n d).before a0 Z = true ∨ (Jvm.Cond.fieldLinkNest own i R0 n d host).before a0 Z = true) (via : Via Z R0 O n d) (eT : T.heap = h) {a : Addr} {v : Value} (F : Fld Z h a O n d v) (hd : decode bs pc = .ok (.getfield i, 3)) (hq : pc + 3 = q) (k : ∀ T', Stand p l e R s m args below meth c T' locs cells slots → T'.heap = h → G (T'.setTop (mkF m q Ls (v :: S)))) : G (T.setTop (mkF m pc Ls (.ref a :: S))) := by
  subst hq
  obtain ⟨T', X', e', st⟩ := getF X hx hZ hown w via eT F (g := mkF m pc Ls (.ref a :: S)) rfl rfl (hb hby hd)
  exact K _ _ st (k T' X' e')
theorem k_getS (K : Cl p e below G) (X : Stand p l e R s m args below meth c T locs cells slots) (hx : p.tables.exec = Jvm.exec) (hby : c.code = bs) (hZ : Z.Warmed39 s.vm) {own R0 O n d host : String} {i : Nat} (hown : s.vm.findClass own = some m.cls) (w : (Jvm.Cond.fieldLink own i R0 n d).before a0 Z = true ∨ (Jvm.Cond.fieldLinkNest own i R0 n d host).before a0 Z = true) (via : Via Z R0 O n d) (eT : T.heap = h) {v : Value} (F : Sta Z h O n d v) (hd : decode bs pc = .ok (.getstatic i, 3)) (hq : pc + 3 = q) (k : ∀ T', Stand p l e R s m args below meth c T' locs cells slots → T'.heap = h → G (T'.setTop (mkF m q Ls (v :: S)))) : G (T.setTop (mkF m pc Ls S)) := by
  subst hq
  obtain ⟨T', X', e', st⟩ := getS2 X hx hZ hown w via eT F (g := mkF m pc Ls S) rfl (hb hby hd)
  exact K _ _ st (k T' X' e')
theorem k_putF (K : Cl p e below G) (X : Stand p l e R s m args below meth c T locs cells slots) (hx : p.tables.exec = Jvm.exec) (hby : c.code = bs) (hZ : Z.Warmed39 s.vm) {own R0 O n d host C : String} {i kk : Nat} {ty : FieldType} (hown : s.vm.findClass own = some m.cls) (w : (Jvm.Cond.fieldLink own i R0 n d).before a0 Z = true ∨ (Jvm.Cond.fieldLinkNest own i R0 n d host).before a0 Z = true) (via : Via Z R0 O n d) (eT : T.heap = h) {a : Addr} {v old : Value} (F : Fld Z h a O n d old) (E : Exa Z h a C) (L : (Jvm.Cond.lays C O n d).before a0 Z = true ∨ ((Jvm.Cond.laysFinal C O n d).before a0 Z = true ∧ own = O ∧ meth.name = "<init>")) (wi : (Jvm.Cond.instantiable C kk).before a0 Z = true) (hty : parseFieldDescriptor d = some ty) (hn : narrow ty v = v) (hf : fits ty v = true) (hd : decode bs pc = .ok (.putfield i, 3)) (hq : pc + 3 = q)
    (k : ∀ T' h', Stand p l e R s m args below meth c T' (locs ++ [⟨a, Jvm.RoadKit.slotOf Z O n d⟩]) cells slots → T'.heap = h' → Wr h h' a (Jvm.RoadKit.slotOf Z O n d) v → G (T'.setTop (mkF m q Ls S))) : G (T.setTop (mkF m pc Ls (v :: .ref a :: S))) := by
  subst hq
  obtain ⟨T', h', X', e', W', st⟩ := putF X hx hZ hown w via eT F E L wi hty hn hf (g := mkF m pc Ls (v :: .ref a :: S)) rfl rfl (hb hby hd)
  exact K _ _ st (k T' h' X' e' W')
theorem k_newO (K : Cl p e below G) (X : Stand p l e R s m args below meth c T locs cells slots) (hx : p.tables.exec = Jvm.exec) (hby : c.code = bs) (hZ : Z.Warmed39 s.vm) {own C : String} {i n : Nat} (hown : s.vm.findClass own = some m.cls) (w : (Jvm.Cond.classLink own i C).before a0 Z = true) (wi : (Jvm.Cond.instantiable C n).before a0 Z = true) (wz : (Jvm.Cond.initialized C).before a0 Z = true) (eT : T.heap = h) (hd : decode bs pc = .ok (.new i, 3)) (hq : pc + 3 = q) (hc : cells + 1 ≤ R.cells) (hl : slots + n ≤ R.slots)
    (k : ∀ T' h' b, Stand p l e R s m args below meth c T' locs (cells + 1) (slots + n) → T'.heap = h' → Ext h h' → b = h.size → Exa Z h' b C → (∀ {O nm d : String} {ty : FieldType}, Laid Z a0 C O nm d → parseFieldDescriptor d = some ty → Fld Z h' b O nm d (defaultValue ty)) → G (T'.setTop (mkF m q Ls (.ref b :: S)))) : G (T.setTop (mkF m pc Ls S)) := by
  subst hq
  obtain ⟨T', h', X', e', E', A', D', -, st⟩ := newO X hx hZ hown w wi wz eT (g := mkF m pc Ls S) rfl (hb hby hd) hc hl
  exact K _ _ st (k T' h' _ X' e' E' rfl A' D')
theorem k_cast (K : Cl p e below G) (X : Stand p l e R s m args below meth c T locs cells slots) (hx : p.tables.exec = Jvm.exec) (hby : c.code = bs) (hZ : Z.Warmed39 s.vm) {own C : String} {i : Nat} (hown : s.vm.findClass own = some m.cls) (w : (Jvm.Cond.classLink own i C).before a0 Z = true) (eT : T.heap = h) {a : Addr} (I : Ins Z h a C true) (hd : decode bs pc = .ok (.checkcast i, 3)) (hq : pc + 3 = q) (k : ∀ T', Stand p l e R s m args below meth c T' locs cells slots → T'.heap = h → G (T'.setTop (mkF m q Ls (.ref a :: S)))) : G (T.setTop (mkF m pc Ls (.ref a :: S))) := by
  subst hq
  obtain ⟨T', X', e', st⟩ := castY X hx hZ hown w eT I (g := mkF m pc Ls (.ref a :: S)) rfl rfl (hb hby hd)
  exact K _ _ st (k T' X' e')
def Con (l : Launch) (Z : State) (y : MethodName) (bytes : ByteArray) (maxL : Nat) (ret : Option FieldType) (rm : Room) (ws : List Jvm.Cond) (as' : Array Value) (h : Heap) (Q : PQ) : Prop :=
  MetFree l y (head1 (Jvm.Cond.code y bytes maxL ret :: ws) rm) (fun a U => a = as' ∧ Z.Warmed39 U.vm ∧ U.heap = h) (fun _ _ _ _ _ => True) (fun _ U o U' => ∃ v L, o = .returned v ∧ Q v U'.heap L ∧ FrameEnd U o U' L rm.cells rm.slots)
theorem Con.of {y : MethodName} {bytes : ByteArray} {maxL : Nat} {ret : Option FieldType} {rm : Room} {ws : List Jvm.Cond} {as' : Array Value} {Q : PQ} (hpl : plainFor y = true) (Ls : Array Slot) (hef : ∀ m, entryFrame m as' maxL = mkF m 0 Ls [])
    (body : ∀ p e s m below meth c s₁, Cl p e below (Go p e below s rm.cells rm.slots Q) → p.tables.exec = Jvm.exec → c.code = bytes → c.maxLocals = maxL → s.vm.findClass y.cls = some m.cls → meth.name = y.name → meth.sig.returnType = ret → meth.locks = false → Z.Warmed39 s.vm → Stand p l e rm s m as' below meth c s₁ [] 0 0 → s₁.heap = h →
      Go p e below s rm.cells rm.slots Q (s₁.setTop (mkF m 0 Ls []))) : Con l Z y bytes maxL ret rm ws as' h Q := by
  refine MetFree.of_bodySF hpl hisR ?_
  intro p e s m args below meth c s₁ Bd hml0 hP hK
  obtain ⟨rfl, hZ, hh⟩ := hP
  have r := body p e s m below meth c s₁ Go.cl Bd.exec Bd.bytes hml0 (findClass_of_methodNamed Bd.named) (name_of_methodNamed Bd.named Bd.method).1 Bd.returns Bd.notSynchronized hZ (Stand.of_body Bd) (by rw [← hh, Bd.state]; rfl)
  rw [← hef m] at r
  exact r
theorem Con.back {y : MethodName} {bytes : ByteArray} {maxL : Nat} {ret : Option FieldType} {rm : Room} {as' : Array Value} {Q : PQ} {len W : Nat} (K : Con l Z y bytes maxL ret rm [] as' h Q)
    (hZ : Z.Warmed39 s.vm) (wc : (Jvm.Cond.code y bytes maxL ret).before a0 Z = true) (wz : (Jvm.Cond.initialized y.cls).before a0 Z = true) (hf : rm.frames + 1 ≤ R.frames) (hl : W + (maxL + 11) + rm.locals ≤ R.locals) :
    Back l R p e below s args y len W (fun A a => a = as' ∧ A.U.heap = h ∧ A.cells + rm.cells ≤ R.cells ∧ A.slots + rm.slots ≤ R.slots)
      (fun A _ v B => ∃ L, Q v B.U.heap L ∧ B.locs = A.locs ++ L ∧ B.cells = A.cells + rm.cells ∧ B.slots = A.slots + rm.slots) := backOf K hZ wc wz hf hl
theorem k_callS (K : Cl p e below G) (X : Stand p l e R s m args below meth c T locs cells slots) (hx : p.tables.exec = Jvm.exec) (hby : c.code = bs) (hZ : Z.Warmed39 s.vm) {own : String} {i : Nat} {y : MethodName} {bytes : ByteArray} {maxL : Nat} {ret : Option FieldType} {rm : Room} {Q : PQ} {as' : Array Value} {ps : List FieldType} {r : Option FieldType} (argsL rest : List Value) (hown : s.vm.findClass own = some m.cls) (w1 : (Jvm.Cond.methodLink own i y).before a0 Z = true) (w2 : (Jvm.Cond.static y).before a0 Z = true) (w3 : (Jvm.Cond.initialized y.cls).before a0 Z = true) (w4 : (Jvm.Cond.code y bytes maxL ret).before a0 Z = true)
    (C : Con l Z y bytes maxL ret rm [] as' h Q) (eT : T.heap = h) (has : argsL.toArray = as') (hs : S = argsL.reverse ++ rest) (hps : parseMethodDescriptor y.desc = some ⟨ps, r⟩) (hl : argsL.length = ps.length) (hd : decode bs pc = .ok (.invokestatic i, 3)) (hsz : Ls.size = c.maxLocals) (hq : pc + 3 = q) (hy : y.cls ≠ "java/lang/invoke/MethodHandle" ∧ y.cls ≠ "java/lang/invoke/VarHandle") (hf : rm.frames + 1 ≤ R.frames) (hlo : (rest.map fun v => v.category).sum + (maxL + 11) + rm.locals ≤ R.locals) (hc : cells + rm.cells ≤ R.cells) (hn : slots + rm.slots ≤ R.slots)
    (k : ∀ v T' L, Stand p l e R s m args below meth c T' (locs ++ L) (cells + rm.cells) (slots + rm.slots) → Q v T'.heap L → G (T'.setTop (mkF m q Ls (v.toList ++ rest)))) : G (T.setTop (mkF m pc Ls S)) := by
  subst has hs hq
  obtain ⟨v, _, ⟨T', L', k', n'⟩, -, X', ⟨Lc, hQ, l1, y1, z1⟩, st⟩ := Jvm.LawKit.callS X hx (y := y) hown (mvT hZ w1) (mvT hZ w2) (mvT hZ w3) (mvT hZ w4) hy (C.back (W := (rest.map fun v => v.category).sum) hZ w4 w3 hf hlo) (g := mkF m pc Ls (argsL.reverse ++ rest)) rfl hsz (argsL := argsL) (rest := rest) (lenOf hps hl) rfl (by show 2 * 0 + _ ≤ _; exact Nat.le_of_eq (Nat.zero_add _)) (hb hby hd) (fun _ _ => ⟨rfl, eT, hc, hn⟩)
  dsimp only at X' l1 y1 z1 st hQ
  subst l1 y1 z1
  exact K _ _ st (k v T' Lc X' hQ)
theorem k_callP (K : Cl p e below G) (X : Stand p l e R s m args below meth c T locs cells slots) (hx : p.tables.exec = Jvm.exec) (hby : c.code = bs) (hZ : Z.Warmed39 s.vm) {own : String} {i : Nat} {y : MethodName} {bytes : ByteArray} {maxL : Nat} {rm : Room} {Q : PQ} {as' : Array Value} {ps : List FieldType} {r : Option FieldType} (a : Addr) (argsL rest : List Value) (hown : s.vm.findClass own = some m.cls) (w1 : (Jvm.Cond.methodLink own i y).before a0 Z = true) (w2 : (Jvm.Cond.instanceMethod y).before a0 Z = true) (w3 : (Jvm.Cond.initialized y.cls).before a0 Z = true) (w4 : (Jvm.Cond.code y bytes maxL none).before a0 Z = true) (hy1 : y.name = "<init>")
    (C : Con l Z y bytes maxL none rm [] as' h Q) (eT : T.heap = h) (has : (.ref a :: argsL).toArray = as') (hs : S = argsL.reverse ++ .ref a :: rest) (hps : parseMethodDescriptor y.desc = some ⟨ps, r⟩) (hl : argsL.length = ps.length) (hd : decode bs pc = .ok (.invokespecial i, 3)) (hsz : Ls.size = c.maxLocals) (hq : pc + 3 = q) (hy : y.cls ≠ "java/lang/invoke/MethodHandle" ∧ y.cls ≠ "java/lang/invoke/VarHandle") (hf : rm.frames + 1 ≤ R.frames) (hlo : (rest.map fun v => v.category).sum + (maxL + 11) + rm.locals ≤ R.locals) (hc : cells + rm.cells ≤ R.cells) (hn : slots + rm.slots ≤ R.slots)
    (k : ∀ v T' L, Stand p l e R s m args below meth c T' (locs ++ L) (cells + rm.cells) (slots + rm.slots) → Q v T'.heap L → G (T'.setTop (mkF m q Ls (v.toList ++ rest)))) : G (T.setTop (mkF m pc Ls S)) := by
  subst has hs hq
  obtain ⟨v, _, ⟨T', L', k', n'⟩, -, X', ⟨Lc, hQ, l1, y1, z1⟩, st⟩ := X.specialBack hx (y := y) hy1 hown (mvT hZ w1) (mvT hZ w2) (mvT hZ w4) hy (C.back (W := (rest.map fun v => v.category).sum) hZ w4 w3 hf hlo) (g := mkF m pc Ls (argsL.reverse ++ .ref a :: rest)) rfl hsz (Steps.refl _) (a := a) (argsL := argsL) (rest := rest) (lenOf hps hl) rfl (by show 2 * 0 + _ ≤ _; exact Nat.le_of_eq (Nat.zero_add _)) (hb hby hd) (fun _ _ => ⟨rfl, eT, hc, hn⟩)
  dsimp only at X' l1 y1 z1 st hQ
  subst l1 y1 z1
  exact K _ _ (fun t k => st.trans k) (k v T' Lc X' hQ)
theorem k_callV (K : Cl p e below G) (X : Stand p l e R s m args below meth c T locs cells slots) (hx : p.tables.exec = Jvm.exec) (hby : c.code = bs) (hZ : Z.Warmed39 s.vm) {own : String} {i : Nat} {y : MethodName} {bytes : ByteArray} {maxL : Nat} {ret : Option FieldType} {rm : Room} {Q : PQ} {as' : Array Value} {ps : List FieldType} {r : Option FieldType} {z : MethodName} {C0 : String} (a : Addr) (argsL rest : List Value) (hown : s.vm.findClass own = some m.cls) (w1 : (Jvm.Cond.methodLink own i y).before a0 Z = true) (w2 : (Jvm.Cond.declares y).before a0 Z = true) (hnf : NotFace s y) (w5 : (Jvm.Cond.selects C0 y z).before a0 Z = true) (w6 : (Jvm.Cond.instanceMethod z).before a0 Z = true) (w3 : (Jvm.Cond.initialized z.cls).before a0 Z = true) (w4 : (Jvm.Cond.code z bytes maxL ret).before a0 Z = true)
    (C : Con l Z z bytes maxL ret rm [] as' h Q) (eT : T.heap = h) (E : Exa Z h a C0) (has : (.ref a :: argsL).toArray = as') (hs : S = argsL.reverse ++ .ref a :: rest) (hps : parseMethodDescriptor y.desc = some ⟨ps, r⟩) (hl : argsL.length = ps.length) (hd : decode bs pc = .ok (.invokevirtual i, 3)) (hsz : Ls.size = c.maxLocals) (hq : pc + 3 = q) (hy : y.cls ≠ "java/lang/invoke/MethodHandle" ∧ y.cls ≠ "java/lang/invoke/VarHandle") (hf : rm.frames + 1 ≤ R.frames) (hlo : (rest.map fun v => v.category).sum + (maxL + 11) + rm.locals ≤ R.locals) (hc : cells + rm.cells ≤ R.cells) (hn : slots + rm.slots ≤ R.slots)
    (k : ∀ v T' L, Stand p l e R s m args below meth c T' (locs ++ L) (cells + rm.cells) (slots + rm.slots) → Q v T'.heap L → G (T'.setTop (mkF m q Ls (v.toList ++ rest)))) : G (T.setTop (mkF m pc Ls S)) := by
  subst has hs hq
  obtain ⟨cq, kq, qa, qb, qc⟩ := isOf hZ eT E
  obtain ⟨v, _, ⟨T', L', k', n'⟩, -, X', ⟨Lc, hQ, l1, y1, z1⟩, st⟩ := X.virtualBack hx (y := y) (z := z) hown (mvT hZ w1) (mvT hZ w2) hnf (mvT hZ w5) (mvT hZ w6) hy (C.back (W := (rest.map fun v => v.category).sum) hZ w4 w3 hf hlo) qa qc (g := mkF m pc Ls (argsL.reverse ++ .ref a :: rest)) rfl hsz (Steps.refl _) (argsL := argsL) (rest := rest) (lenOf hps hl) rfl (by show 2 * 0 + _ ≤ _; exact Nat.le_of_eq (Nat.zero_add _)) (hb hby hd) (fun _ _ => ⟨rfl, eT, hc, hn⟩)
  dsimp only at X' l1 y1 z1 st hQ
  subst l1 y1 z1
  exact K _ _ (fun t k => st.trans k) (k v T' Lc X' hQ)
theorem k_callI (K : Cl p e below G) (X : Stand p l e R s m args below meth c T locs cells slots) (hx : p.tables.exec = Jvm.exec) (hby : c.code = bs) (hZ : Z.Warmed39 s.vm) {own : String} {i : Nat} {y : MethodName} {bytes : ByteArray} {maxL : Nat} {ret : Option FieldType} {rm : Room} {Q : PQ} {as' : Array Value} {ps : List FieldType} {r : Option FieldType} {z : MethodName} {C0 : String} {cnt : Nat} (a : Addr) (argsL rest : List Value) (hown : s.vm.findClass own = some m.cls) (w1 : (Jvm.Cond.methodLink own i y).before a0 Z = true) (w2 : (Jvm.Cond.declares y).before a0 Z = true) (w7 : (Jvm.Cond.interfaceMethod y.cls y.cls y.name y.desc).before args s = true) (w5 : (Jvm.Cond.selects C0 y z).before a0 Z = true) (w6 : (Jvm.Cond.instanceMethod z).before a0 Z = true) (w8 : (Jvm.Cond.publicMethod z).before a0 Z = true) (w9 : (Jvm.Cond.unhidden C0 y.name y.desc).before a0 Z = true) (wa : (Jvm.Cond.castable C0 y.cls).before a0 Z = true) (w3 : (Jvm.Cond.initialized z.cls).before a0 Z = true) (w4 : (Jvm.Cond.code z bytes maxL ret).before a0 Z = true)
    (C : Con l Z z bytes maxL ret rm [] as' h Q) (eT : T.heap = h) (E : Exa Z h a C0) (has : (.ref a :: argsL).toArray = as') (hs : S = argsL.reverse ++ .ref a :: rest) (hps : parseMethodDescriptor y.desc = some ⟨ps, r⟩) (hl : argsL.length = ps.length) (hd : decode bs pc = .ok (.invokeinterface i cnt, 5)) (hsz : Ls.size = c.maxLocals) (hq : pc + 5 = q) (hy : y.cls ≠ "java/lang/invoke/MethodHandle" ∧ y.cls ≠ "java/lang/invoke/VarHandle") (hf : rm.frames + 1 ≤ R.frames) (hlo : (rest.map fun v => v.category).sum + (maxL + 11) + rm.locals ≤ R.locals) (hc : cells + rm.cells ≤ R.cells) (hn : slots + rm.slots ≤ R.slots)
    (k : ∀ v T' L, Stand p l e R s m args below meth c T' (locs ++ L) (cells + rm.cells) (slots + rm.slots) → Q v T'.heap L → G (T'.setTop (mkF m q Ls (v.toList ++ rest)))) : G (T.setTop (mkF m pc Ls S)) := by
  subst has hs hq
  obtain ⟨cq, kq, qa, qb, qc⟩ := isOf hZ eT E
  obtain ⟨v, _, ⟨T', L', k', n'⟩, -, X', ⟨Lc, hQ, l1, y1, z1⟩, st⟩ := X.interfaceBack hx (xi := y) (y := z) hown (mvT hZ w1) (mvT hZ w2) w7 (mvT hZ w5) (mvT hZ w6) (mvT hZ w8) (mvT hZ w9) (mvT hZ wa) hy (C.back (W := (rest.map fun v => v.category).sum) hZ w4 w3 hf hlo) qa qb qc (g := mkF m pc Ls (argsL.reverse ++ .ref a :: rest)) rfl hsz (Steps.refl _) (argsL := argsL) (rest := rest) (lenOf hps hl) rfl (by show 2 * 0 + _ ≤ _; exact Nat.le_of_eq (Nat.zero_add _)) (hb hby hd) (fun _ _ => ⟨rfl, eT, hc, hn⟩)
  dsimp only at X' l1 y1 z1 st hQ
  subst l1 y1 z1
  exact K _ _ (fun t k => st.trans k) (k v T' Lc X' hQ)
end OwnBase
section OwnArr
variable {p : Program} {l : Launch} {e : Env} {R : Room} {s : State} {m : MethodId} {args : Array Value} {below : List Frame} {meth : Method} {c : Code} {T : State} {locs : List Loc} {cells slots : Nat} {Z : State} {a0 : Array Value} {h h' : Heap} {a b : Addr} {ty : FieldType} {vs : List Value} {v : Value} {sl : Nat} {ws : List Addr} {bs : ByteArray} {pc q : Nat} {Ls : Array Slot} {S : List Value} {G : State → Prop}
def Av (Z : State) (h : Heap) (a : Addr) (ty : FieldType) (vs : List Value) : Prop := ∃ cl : Cell, Arr Z h a cl ty ∧ cl.slots = vs.toArray
theorem Av.lt (F : Av Z h a ty vs) : a < h.size := by obtain ⟨_, A, -⟩ := F; exact A.lt
theorem Av.ext (F : Av Z h a ty vs) (E : Ext h h') : Av Z h' a ty vs := by obtain ⟨c, A, r⟩ := F; exact ⟨c, A.ext E, r⟩
theorem Av.other (F : Av Z h b ty vs) (W : Wr h h' a sl v) (q : b ≠ a) : Av Z h' b ty vs := by obtain ⟨c, A, r⟩ := F; exact ⟨c, A.other W q, r⟩
theorem Av.keep (F : Av Z h a ty vs) (K : Keep h h' ws) (q : a ∉ ws) : Av Z h' a ty vs := by obtain ⟨c, A, r⟩ := F; exact ⟨c, ⟨K.2.1 a c A.1 q, A.2⟩, r⟩
theorem Av.new {k : ClassId} {z : Int32} {n : Nat} (A : Arr Z h a (newA k ty z) ty) (hn : z.toNatClampNeg = n) : Av Z h a ty (List.replicate n (defaultValue ty)) := ⟨_, A, by subst hn; simp [newA]⟩
theorem Av.set (F : Av Z h a ty vs) (W : Wr h h' a sl v) : Av Z h' a ty (vs.set sl v) := by
  obtain ⟨c, A, r⟩ := F
  exact ⟨_, A.same W, by simp [Cell.setSlot, r]⟩
theorem Av.ofArv {k : ClassId} {z : Int32} {d : Value} (A : Arv Z h a k ty z vs d) (hl : z.toNatClampNeg = vs.length) : Av Z h a ty vs := by
  obtain ⟨cl, A, -, S, -, H, -⟩ := A
  refine ⟨cl, A, Array.ext_getElem? fun i => ?_⟩
  by_cases q : i < vs.length
  · have := H i (by omega)
    rw [this]
    simp [q]
  · rw [Array.getElem?_eq_none (by omega), List.getElem?_toArray, List.getElem?_eq_none (by omega)]
theorem own_in {cl : Cell} {j : Int32} (r : cl.slots = vs.toArray) (h0 : ¬ j < 0) (h1 : j.toNatClampNeg < vs.length) : ¬ (j < 0 ∨ cl.slots.size ≤ j.toNatClampNeg) := by
  rintro (q | q)
  · exact h0 q
  · rw [r, List.size_toArray] at q; omega
theorem own_at {cl : Cell} {i : Nat} (r : cl.slots = vs.toArray) (hv : vs[i]? = some v) : cl.slots[i]? = some v := by rw [r]; simpa using hv
theorem own_ltl0 {i : Nat} (hv : vs[i]? = some v) : i < vs.length := (List.getElem?_eq_some_iff.mp hv).1
theorem k_ldI (K : Cl p e below G) (X : Stand p l e R s m args below meth c T locs cells slots) (hx : p.tables.exec = Jvm.exec) (hby : c.code = bs) (hZ : Z.Warmed39 s.vm) (eT : T.heap = h) (F : Av Z h a .int vs) {j : Int32} (h0 : ¬ j < 0) (hv : vs[j.toNatClampNeg]? = some v) (hd : decode bs pc = .ok (.iaload, 1)) (hq : pc + 1 = q) (hr : G (T.setTop (mkF m q Ls (v :: S)))) : G (T.setTop (mkF m pc Ls (.int j :: .ref a :: S))) := by
  subst hq
  obtain ⟨cl, A, r⟩ := F
  exact K _ _ (X.iaload hx (j := j) (v := v) (by rw [eT]; exact A.1) (State.isArrayOf_alike hZ.alike A.2.1) A.2.2 (own_in r h0 (own_ltl0 hv)) (own_at r hv) (g := mkF m pc Ls (.int j :: .ref a :: S)) rfl rfl (hb hby hd)) hr
theorem k_ldJ (K : Cl p e below G) (X : Stand p l e R s m args below meth c T locs cells slots) (hx : p.tables.exec = Jvm.exec) (hby : c.code = bs) (hZ : Z.Warmed39 s.vm) (eT : T.heap = h) (F : Av Z h a .long vs) {j : Int32} (h0 : ¬ j < 0) (hv : vs[j.toNatClampNeg]? = some v) (hd : decode bs pc = .ok (.laload, 1)) (hq : pc + 1 = q) (hr : G (T.setTop (mkF m q Ls (v :: S)))) : G (T.setTop (mkF m pc Ls (.int j :: .ref a :: S))) := by
  subst hq
  obtain ⟨cl, A, r⟩ := F
  exact K _ _ (X.laload hx (j := j) (v := v) (by rw [eT]; exact A.1) (State.isArrayOf_alike hZ.alike A.2.1) A.2.2 (own_in r h0 (own_ltl0 hv)) (own_at r hv) (g := mkF m pc Ls (.int j :: .ref a :: S)) rfl rfl (hb hby hd)) hr
theorem k_ldC (K : Cl p e below G) (X : Stand p l e R s m args below meth c T locs cells slots) (hx : p.tables.exec = Jvm.exec) (hby : c.code = bs) (hZ : Z.Warmed39 s.vm) (eT : T.heap = h) (F : Av Z h a .char vs) {j : Int32} (h0 : ¬ j < 0) (hv : vs[j.toNatClampNeg]? = some v) (hd : decode bs pc = .ok (.caload, 1)) (hq : pc + 1 = q) (hr : G (T.setTop (mkF m q Ls (v :: S)))) : G (T.setTop (mkF m pc Ls (.int j :: .ref a :: S))) := by
  subst hq
  obtain ⟨cl, A, r⟩ := F
  exact K _ _ (X.caload hx (j := j) (v := v) (by rw [eT]; exact A.1) (State.isArrayOf_alike hZ.alike A.2.1) A.2.2 (own_in r h0 (own_ltl0 hv)) (own_at r hv) (g := mkF m pc Ls (.int j :: .ref a :: S)) rfl rfl (hb hby hd)) hr
theorem k_ldB (K : Cl p e below G) (X : Stand p l e R s m args below meth c T locs cells slots) (hx : p.tables.exec = Jvm.exec) (hby : c.code = bs) (hZ : Z.Warmed39 s.vm) (eT : T.heap = h) (F : Av Z h a .byte vs) {j : Int32} (h0 : ¬ j < 0) (hv : vs[j.toNatClampNeg]? = some v) (hd : decode bs pc = .ok (.baload, 1)) (hq : pc + 1 = q) (hr : G (T.setTop (mkF m q Ls (v :: S)))) : G (T.setTop (mkF m pc Ls (.int j :: .ref a :: S))) := by
  subst hq
  obtain ⟨cl, A, r⟩ := F
  exact K _ _ (X.baloadBytes hx (j := j) (v := v) (by rw [eT]; exact A.1) (State.isArrayOf_alike hZ.alike A.2.1) A.2.2 (own_in r h0 (own_ltl0 hv)) (own_at r hv) (g := mkF m pc Ls (.int j :: .ref a :: S)) rfl rfl (hb hby hd)) hr
theorem k_ldZ (K : Cl p e below G) (X : Stand p l e R s m args below meth c T locs cells slots) (hx : p.tables.exec = Jvm.exec) (hby : c.code = bs) (hZ : Z.Warmed39 s.vm) (eT : T.heap = h) (F : Av Z h a .boolean vs) {j : Int32} (h0 : ¬ j < 0) (hv : vs[j.toNatClampNeg]? = some v) (hd : decode bs pc = .ok (.baload, 1)) (hq : pc + 1 = q) (hr : G (T.setTop (mkF m q Ls (v :: S)))) : G (T.setTop (mkF m pc Ls (.int j :: .ref a :: S))) := by
  subst hq
  obtain ⟨cl, A, r⟩ := F
  exact K _ _ (X.baloadBooleans hx (j := j) (v := v) (by rw [eT]; exact A.1) (State.isArrayOf_alike hZ.alike A.2.1) A.2.2 (own_in r h0 (own_ltl0 hv)) (own_at r hv) (g := mkF m pc Ls (.int j :: .ref a :: S)) rfl rfl (hb hby hd)) hr
theorem k_ldD (K : Cl p e below G) (X : Stand p l e R s m args below meth c T locs cells slots) (hx : p.tables.exec = Jvm.exec) (hby : c.code = bs) (hZ : Z.Warmed39 s.vm) (eT : T.heap = h) (F : Av Z h a .double vs) {j : Int32} (h0 : ¬ j < 0) (hv : vs[j.toNatClampNeg]? = some v) (hd : decode bs pc = .ok (.daload, 1)) (hq : pc + 1 = q) (hr : G (T.setTop (mkF m q Ls (v :: S)))) : G (T.setTop (mkF m pc Ls (.int j :: .ref a :: S))) := by
  subst hq
  obtain ⟨cl, A, r⟩ := F
  exact K _ _ (X.daload hx (j := j) (v := v) (by rw [eT]; exact A.1) (State.isArrayOf_alike hZ.alike A.2.1) A.2.2 (own_in r h0 (own_ltl0 hv)) (own_at r hv) (g := mkF m pc Ls (.int j :: .ref a :: S)) rfl rfl (hb hby hd)) hr
theorem k_ldR (K : Cl p e below G) (X : Stand p l e R s m args below meth c T locs cells slots) (hx : p.tables.exec = Jvm.exec) (hby : c.code = bs) (hZ : Z.Warmed39 s.vm) (eT : T.heap = h) (hty : ty.isReference = true) (F : Av Z h a ty vs) {j : Int32} (h0 : ¬ j < 0) (hv : vs[j.toNatClampNeg]? = some v) (hd : decode bs pc = .ok (.aaload, 1)) (hq : pc + 1 = q) (hr : G (T.setTop (mkF m q Ls (v :: S)))) : G (T.setTop (mkF m pc Ls (.int j :: .ref a :: S))) := by
  subst hq
  obtain ⟨cl, A, r⟩ := F
  exact K _ _ (X.aaload hx (j := j) (v := v) (by rw [eT]; exact A.1) (State.isArrayOf_alike hZ.alike A.2.1) hty A.2.2 (own_in r h0 (own_ltl0 hv)) (own_at r hv) (g := mkF m pc Ls (.int j :: .ref a :: S)) rfl rfl (hb hby hd)) hr
theorem k_len (K : Cl p e below G) (X : Stand p l e R s m args below meth c T locs cells slots) (hx : p.tables.exec = Jvm.exec) (hby : c.code = bs) (hZ : Z.Warmed39 s.vm) (z : Int32) (eT : T.heap = h) (F : Av Z h a ty vs) (hz : Int32.ofNat vs.length = z) (hd : decode bs pc = .ok (.arraylength, 1)) (hq : pc + 1 = q) (hr : G (T.setTop (mkF m q Ls (.int z :: S)))) : G (T.setTop (mkF m pc Ls (.ref a :: S))) := by
  subst hq
  obtain ⟨cl, A, r⟩ := F
  have hl : cl.slots.size.toInt32 = z := by rw [r, List.size_toArray]; exact hz
  have st := X.arraylength hx (by rw [eT]; exact A.1) (State.isArrayOf_alike hZ.alike A.2.1) (g := mkF m pc Ls (.ref a :: S)) rfl rfl (hb hby hd)
  rw [hl] at st
  exact K _ _ st hr
theorem k_stI (K : Cl p e below G) (X : Stand p l e R s m args below meth c T locs cells slots) (hx : p.tables.exec = Jvm.exec) (hby : c.code = bs) (hZ : Z.Warmed39 s.vm) (eT : T.heap = h) (F : Av Z h a .int vs) {j : Int32} {x : Int32} (h0 : ¬ j < 0) (h1 : j.toNatClampNeg < vs.length) (hd : decode bs pc = .ok (.iastore, 1)) (hq : pc + 1 = q) (k : ∀ T' h', Stand p l e R s m args below meth c T' (locs ++ [⟨a, j.toNatClampNeg⟩]) cells slots → T'.heap = h' → Wr h h' a j.toNatClampNeg (.int x) → Av Z h' a .int (vs.set j.toNatClampNeg (.int x)) → G (T'.setTop (mkF m q Ls S))) : G (T.setTop (mkF m pc Ls (.int x :: .int j :: .ref a :: S))) := by
  subst hq
  obtain ⟨cl, A, r⟩ := F
  obtain ⟨T', h', X', e', W', st⟩ := stI X hx hZ eT A (j := j) (own_in r h0 h1) (g := mkF m pc Ls (.int x :: .int j :: .ref a :: S)) rfl rfl (hb hby hd)
  exact K _ _ st (k T' h' X' e' W' (Av.set ⟨cl, A, r⟩ W'))
theorem k_stJ (K : Cl p e below G) (X : Stand p l e R s m args below meth c T locs cells slots) (hx : p.tables.exec = Jvm.exec) (hby : c.code = bs) (hZ : Z.Warmed39 s.vm) (eT : T.heap = h) (F : Av Z h a .long vs) {j : Int32} {x : Int64} (h0 : ¬ j < 0) (h1 : j.toNatClampNeg < vs.length) (hd : decode bs pc = .ok (.lastore, 1)) (hq : pc + 1 = q) (k : ∀ T' h', Stand p l e R s m args below meth c T' (locs ++ [⟨a, j.toNatClampNeg⟩]) cells slots → T'.heap = h' → Wr h h' a j.toNatClampNeg (.long x) → Av Z h' a .long (vs.set j.toNatClampNeg (.long x)) → G (T'.setTop (mkF m q Ls S))) : G (T.setTop (mkF m pc Ls (.long x :: .int j :: .ref a :: S))) := by
  subst hq
  obtain ⟨cl, A, r⟩ := F
  obtain ⟨T', h', X', e', W', st⟩ := stJ X hx hZ eT A (j := j) (own_in r h0 h1) (g := mkF m pc Ls (.long x :: .int j :: .ref a :: S)) rfl rfl (hb hby hd)
  exact K _ _ st (k T' h' X' e' W' (Av.set ⟨cl, A, r⟩ W'))
theorem k_stC (K : Cl p e below G) (X : Stand p l e R s m args below meth c T locs cells slots) (hx : p.tables.exec = Jvm.exec) (hby : c.code = bs) (hZ : Z.Warmed39 s.vm) (eT : T.heap = h) (F : Av Z h a .char vs) {j : Int32} {x : Int32} (h0 : ¬ j < 0) (h1 : j.toNatClampNeg < vs.length) (hd : decode bs pc = .ok (.castore, 1)) (hq : pc + 1 = q) (k : ∀ T' h', Stand p l e R s m args below meth c T' (locs ++ [⟨a, j.toNatClampNeg⟩]) cells slots → T'.heap = h' → Wr h h' a j.toNatClampNeg (.int (nar .char x)) → Av Z h' a .char (vs.set j.toNatClampNeg (.int (nar .char x))) → G (T'.setTop (mkF m q Ls S))) : G (T.setTop (mkF m pc Ls (.int x :: .int j :: .ref a :: S))) := by
  subst hq
  obtain ⟨cl, A, r⟩ := F
  obtain ⟨T', h', X', e', W', st⟩ := stC X hx hZ eT A (j := j) (own_in r h0 h1) (g := mkF m pc Ls (.int x :: .int j :: .ref a :: S)) rfl rfl (hb hby hd)
  exact K _ _ st (k T' h' X' e' W' (Av.set ⟨cl, A, r⟩ W'))
theorem k_stB (K : Cl p e below G) (X : Stand p l e R s m args below meth c T locs cells slots) (hx : p.tables.exec = Jvm.exec) (hby : c.code = bs) (hZ : Z.Warmed39 s.vm) (eT : T.heap = h) (F : Av Z h a .byte vs) {j : Int32} {x : Int32} (h0 : ¬ j < 0) (h1 : j.toNatClampNeg < vs.length) (hd : decode bs pc = .ok (.bastore, 1)) (hq : pc + 1 = q) (k : ∀ T' h', Stand p l e R s m args below meth c T' (locs ++ [⟨a, j.toNatClampNeg⟩]) cells slots → T'.heap = h' → Wr h h' a j.toNatClampNeg (.int (nar .byte x)) → Av Z h' a .byte (vs.set j.toNatClampNeg (.int (nar .byte x))) → G (T'.setTop (mkF m q Ls S))) : G (T.setTop (mkF m pc Ls (.int x :: .int j :: .ref a :: S))) := by
  subst hq
  obtain ⟨cl, A, r⟩ := F
  obtain ⟨T', h', X', e', W', st⟩ := stB X hx hZ eT A (j := j) (own_in r h0 h1) (g := mkF m pc Ls (.int x :: .int j :: .ref a :: S)) rfl rfl (hb hby hd)
  exact K _ _ st (k T' h' X' e' W' (Av.set ⟨cl, A, r⟩ W'))
theorem k_stZ (K : Cl p e below G) (X : Stand p l e R s m args below meth c T locs cells slots) (hx : p.tables.exec = Jvm.exec) (hby : c.code = bs) (hZ : Z.Warmed39 s.vm) (eT : T.heap = h) (F : Av Z h a .boolean vs) {j : Int32} {x : Int32} (h0 : ¬ j < 0) (h1 : j.toNatClampNeg < vs.length) (hd : decode bs pc = .ok (.bastore, 1)) (hq : pc + 1 = q) (k : ∀ T' h', Stand p l e R s m args below meth c T' (locs ++ [⟨a, j.toNatClampNeg⟩]) cells slots → T'.heap = h' → Wr h h' a j.toNatClampNeg (.int (nar .boolean x)) → Av Z h' a .boolean (vs.set j.toNatClampNeg (.int (nar .boolean x))) → G (T'.setTop (mkF m q Ls S))) : G (T.setTop (mkF m pc Ls (.int x :: .int j :: .ref a :: S))) := by
  subst hq
  obtain ⟨cl, A, r⟩ := F
  obtain ⟨T', h', X', e', W', st⟩ := stZ X hx hZ eT A (j := j) (own_in r h0 h1) (g := mkF m pc Ls (.int x :: .int j :: .ref a :: S)) rfl rfl (hb hby hd)
  exact K _ _ st (k T' h' X' e' W' (Av.set ⟨cl, A, r⟩ W'))
theorem k_stD (K : Cl p e below G) (X : Stand p l e R s m args below meth c T locs cells slots) (hx : p.tables.exec = Jvm.exec) (hby : c.code = bs) (hZ : Z.Warmed39 s.vm) (eT : T.heap = h) (F : Av Z h a .double vs) {j : Int32} {x : UInt64} (h0 : ¬ j < 0) (h1 : j.toNatClampNeg < vs.length) (hd : decode bs pc = .ok (.dastore, 1)) (hq : pc + 1 = q) (k : ∀ T' h', Stand p l e R s m args below meth c T' (locs ++ [⟨a, j.toNatClampNeg⟩]) cells slots → T'.heap = h' → Wr h h' a j.toNatClampNeg (.double x) → Av Z h' a .double (vs.set j.toNatClampNeg (.double x)) → G (T'.setTop (mkF m q Ls S))) : G (T.setTop (mkF m pc Ls (.double x :: .int j :: .ref a :: S))) := by
  subst hq
  obtain ⟨cl, A, r⟩ := F
  obtain ⟨T', h', X', e', W', st⟩ := stD X hx hZ eT A (j := j) (own_in r h0 h1) (g := mkF m pc Ls (.double x :: .int j :: .ref a :: S)) rfl rfl (hb hby hd)
  exact K _ _ st (k T' h' X' e' W' (Av.set ⟨cl, A, r⟩ W'))
def Avr (Z : State) (h : Heap) (a : Addr) (C : String) (vs : List Value) : Prop := ∃ cl : Cell, Arr Z h a cl (.object C) ∧ cl.slots = vs.toArray ∧ Ovr Z cl.cls C
variable {C : String}
theorem Avr.av (F : Avr Z h a C vs) : Av Z h a (.object C) vs := by obtain ⟨c, A, r, -⟩ := F; exact ⟨c, A, r⟩
theorem Avr.lt (F : Avr Z h a C vs) : a < h.size := F.av.lt
theorem Avr.ext (F : Avr Z h a C vs) (E : Ext h h') : Avr Z h' a C vs := by obtain ⟨c, A, r⟩ := F; exact ⟨c, A.ext E, r⟩
theorem Avr.other (F : Avr Z h b C vs) (W : Wr h h' a sl v) (q : b ≠ a) : Avr Z h' b C vs := by obtain ⟨c, A, r⟩ := F; exact ⟨c, A.other W q, r⟩
theorem Avr.keep (F : Avr Z h a C vs) (K : Keep h h' ws) (q : a ∉ ws) : Avr Z h' a C vs := by obtain ⟨c, A, r⟩ := F; exact ⟨c, ⟨K.2.1 a c A.1 q, A.2⟩, r⟩
theorem Avr.new {k : ClassId} {z : Int32} {n : Nat} (A : Arr Z h a (newA k (.object C) z) (.object C)) (O : Ovr Z k C) (hn : z.toNatClampNeg = n) : Avr Z h a C (List.replicate n .null) := ⟨_, A, by subst hn; simp [newA, defaultValue], O⟩
theorem Avr.set (F : Avr Z h a C vs) (W : Wr h h' a sl v) : Avr Z h' a C (vs.set sl v) := by
  obtain ⟨c, A, r, O⟩ := F
  exact ⟨_, A.same W, by simp [Cell.setSlot, r], O⟩
theorem k_stR (K : Cl p e below G) (X : Stand p l e R s m args below meth c T locs cells slots) (hx : p.tables.exec = Jvm.exec) (hby : c.code = bs) (hZ : Z.Warmed39 s.vm) (eT : T.heap = h) (F : Avr Z h a C vs) {j : Int32} (h0 : ¬ j < 0) (h1 : j.toNatClampNeg < vs.length) (hv : v = .null ∨ ∃ y, v = .ref y ∧ Ins Z h y C true) (hd : decode bs pc = .ok (.aastore, 1)) (hq : pc + 1 = q) (k : ∀ T' h', Stand p l e R s m args below meth c T' (locs ++ [⟨a, j.toNatClampNeg⟩]) cells slots → T'.heap = h' → Wr h h' a j.toNatClampNeg v → Avr Z h' a C (vs.set j.toNatClampNeg v) → G (T'.setTop (mkF m q Ls S))) : G (T.setTop (mkF m pc Ls (v :: .int j :: .ref a :: S))) := by
  subst hq
  obtain ⟨cl, A, r, O⟩ := F
  have St : Sto Z h a v := by
    rcases hv with rfl | ⟨y, rfl, I⟩
    · exact Or.inl rfl
    · exact Sto.of A O I
  obtain ⟨T', h', X', e', W', st⟩ := stR X hx hZ eT A (j := j) (own_in r h0 h1) rfl St (g := mkF m pc Ls (v :: .int j :: .ref a :: S)) rfl rfl (hb hby hd)
  exact K _ _ st (k T' h' X' e' W' (Avr.set ⟨cl, A, r, O⟩ W'))
theorem k_newP (K : Cl p e below G) (X : Stand p l e R s m args below meth c T locs cells slots) (hx : p.tables.exec = Jvm.exec) (hby : c.code = bs) (hZ : Z.Warmed39 s.vm) {aty : ArrayType} {n : Int32} (N cap : Nat) (w : (Jvm.Cond.arrayClass (newarray.typeOf aty)).before a0 Z = true) (eT : T.heap = h) (hd : decode bs pc = .ok (.newarray aty, 2)) (hq : pc + 2 = q) (hn : ¬ n < 0) (hN : n.toNatClampNeg = N) (hcap : N ≤ cap) (hcb : cap * 8 ≤ 536870912) (hc : cells + 1 ≤ R.cells) (hl : slots + cap ≤ R.slots)
    (k : ∀ T' h' b, Stand p l e R s m args below meth c T' locs (cells + 1) (slots + cap) → T'.heap = h' → Ext h h' → b = h.size → Av Z h' b (newarray.typeOf aty) (List.replicate N (defaultValue (newarray.typeOf aty))) → G (T'.setTop (mkF m q Ls (.ref b :: S)))) : G (T.setTop (mkF m pc Ls (.int n :: S))) := by
  subst hq hN
  obtain ⟨T', h', kA, X', e', E', A', st⟩ := newP X hx hZ w eT (g := mkF m pc Ls (.int n :: S)) rfl (hb hby hd) rfl hn hcap hcb hc hl
  exact K _ _ st (k T' h' _ X' e' E' rfl (Av.new A' rfl))
theorem k_newR (K : Cl p e below G) (X : Stand p l e R s m args below meth c T locs cells slots) (hx : p.tables.exec = Jvm.exec) (hby : c.code = bs) (hZ : Z.Warmed39 s.vm) {own : String} {i : Nat} {n : Int32} (N cap : Nat) (hown : s.vm.findClass own = some m.cls) (w1 : (Jvm.Cond.classLink own i C).before a0 Z = true) (w2 : (Jvm.Cond.arrayOver (.object C)).before a0 Z = true) (eT : T.heap = h) (hd : decode bs pc = .ok (.anewarray i, 3)) (hq : pc + 3 = q) (hn : ¬ n < 0) (hN : n.toNatClampNeg = N) (hcap : N ≤ cap) (hcb : cap * 8 ≤ 536870912) (hc : cells + 1 ≤ R.cells) (hl : slots + cap ≤ R.slots)
    (k : ∀ T' h' b, Stand p l e R s m args below meth c T' locs (cells + 1) (slots + cap) → T'.heap = h' → Ext h h' → b = h.size → Avr Z h' b C (List.replicate N .null) → G (T'.setTop (mkF m q Ls (.ref b :: S)))) : G (T.setTop (mkF m pc Ls (.int n :: S))) := by
  subst hq hN
  obtain ⟨T', h', kA, X', e', E', A', O', st⟩ := newR X hx hZ hown w1 w2 eT (g := mkF m pc Ls (.int n :: S)) rfl (hb hby hd) rfl hn hcap hcb hc hl
  exact K _ _ st (k T' h' _ X' e' E' rfl (Avr.new A' O' rfl))
theorem own_ge {H : Heap} {b c : Addr} {j : Nat} (g : b = H.size) (q : c = b + 1 + j) : H.size ≤ c := by subst g q; exact Nat.le_trans (Nat.le_add_right _ _) (Nat.le_add_right _ _)
theorem own_le {b c : Addr} {j : Nat} (q : c = b + 1 + j) : b ≤ c := by subst q; exact Nat.le_trans (Nat.le_add_right _ _) (Nat.le_add_right _ _)
theorem own_ne {b c : Addr} {j : Nat} (q : c = b + 1 + j) : b ≠ c := by subst q; exact Nat.ne_of_lt (Nat.lt_of_lt_of_le (Nat.lt_succ_self _) (Nat.le_add_right _ _))
theorem own_ne2 {b c d : Addr} {i j : Nat} (q : c = b + 1 + i) (r : d = b + 1 + j) (h : i ≠ j) : c ≠ d := by subst q r; exact fun e => h (Nat.add_left_cancel e)
end OwnArr
def w4_1 (p1 : Int32) (p3 : Int32) : Int32 := (if p3 < p1 then (0 : Int32) else (1 : Int32))
theorem w4_1_01 (p1 : Int32) (p3 : Int32) : (w4_1 p1 p3) = 0 ∨ (w4_1 p1 p3) = 1 := by
  unfold w4_1
  split
  · exact (Or.inl rfl)
  · exact (Or.inr rfl)
def w4_2 (p1 : Int32) (p2 : Int32) (p3 : Int32) : Int32 := (if p1 < p2 then (0 : Int32) else (w4_1 p1 p3))
theorem w4_2_01 (p1 : Int32) (p2 : Int32) (p3 : Int32) : (w4_2 p1 p2 p3) = 0 ∨ (w4_2 p1 p2 p3) = 1 := by
  unfold w4_2
  split
  · exact (Or.inl rfl)
  · exact (w4_1_01 p1 p3)
def BT (p1 : Int32) (p2 : Int32) (p3 : Int32) : Int32 := (w4_2 p1 p2 p3)
theorem BT_01 (p1 : Int32) (p2 : Int32) (p3 : Int32) : BT p1 p2 p3 = 0 ∨ BT p1 p2 p3 = 1 := by
  unfold BT
  repeat' split
  all_goals first | exact Or.inl rfl | exact Or.inr rfl | exact (w4_1_01 p1 p3) | exact (w4_2_01 p1 p2 p3)
theorem d_method_3_0 : decode method_3_code 0 = .ok (.iload_n 0, 1) := by decide +kernel
theorem d_method_3_1 : decode method_3_code 1 = .ok (.iload_n 1, 1) := by decide +kernel
theorem d_method_3_2 : decode method_3_code 2 = .ok (.if_icmp .lt 12, 3) := by decide +kernel
theorem d_method_3_5 : decode method_3_code 5 = .ok (.iload_n 0, 1) := by decide +kernel
theorem d_method_3_6 : decode method_3_code 6 = .ok (.iload_n 2, 1) := by decide +kernel
theorem d_method_3_7 : decode method_3_code 7 = .ok (.if_icmp .gt 7, 3) := by decide +kernel
theorem d_method_3_10 : decode method_3_code 10 = .ok (.iconst 1, 1) := by decide +kernel
theorem d_method_3_11 : decode method_3_code 11 = .ok (.goto 4, 3) := by decide +kernel
theorem d_method_3_14 : decode method_3_code 14 = .ok (.iconst 0, 1) := by decide +kernel
theorem d_method_3_15 : decode method_3_code 15 = .ok (.ireturn, 1) := by decide +kernel
theorem pn_com_example_able_broker_ablebroker_model_XmlNamesIsNameCharPinLaw : plainName "com/example/able_broker/ablebroker/model/XmlNamesIsNameCharPinLaw" = true := by first | (simp [plainName, overriddenIn]; done) | decide +kernel
theorem ef4 (m : MethodId) (x0 : Int32) (x1 : Int32) (x2 : Int32) : entryFrame m #[(.int x0), (.int x1), (.int x2)] 3 = mkF m 0 #[.val (.int x0), .val (.int x1), .val (.int x2)] [] := by first | (simp [entryFrame, mkF, argsToLocals, Value.category]; done) | rfl
set_option maxRecDepth 65536 in
set_option maxHeartbeats 40000000 in
theorem c4 (l : Launch) (Z : State) (a0 : Array Value) (hw : ∀ d ∈ tables_1, d.before a0 Z = true) (p1 : Int32) (p2 : Int32) (p3 : Int32) (h0 : Heap) (n0 : Nat) (Z0 : n0 ≤ h0.size) :
    Con l Z (⟨"com/example/able_broker/ablebroker/model/XmlNamesIsNameCharPinLaw", "between", "(III)Z"⟩ : MethodName) method_3_code 3 (some .boolean) ({ frames := 0, cells := 0, slots := 0, locals := 0 } : Room) [] #[(.int p1), (.int p2), (.int p3)] h0 (fun v h L => v = some (.int (BT p1 p2 p3)) ∧ h = h0 ∧ L = []) := by
  refine Con.of (plainFor_of_name pn_com_example_able_broker_ablebroker_model_XmlNamesIsNameCharPinLaw) #[.val (.int p1), .val (.int p2), .val (.int p3)] (fun m => ef4 m p1 p2 p3) ?_
  intro p e s m below meth c s₁ K hx hby hml hown hnm hret hlk hZ X0 e0
  have N0 := Fr.nil n0
  refine m_iloadN K X0.here hx hby d_method_3_0 rfl rfl ?_
  refine m_iloadN K X0.here hx hby d_method_3_1 rfl rfl ?_
  obtain ⟨T4, X4, e4, st4⟩ : Mx X0 h0 (mkF m 15 #[.val (.int p1), .val (.int p2), .val (.int p3)] [(.int (w4_2 p1 p2 p3))]) (s₁.setTop (mkF m 2 #[.val (.int p1), .val (.int p2), .val (.int p3)] [(.int p2), (.int p1)])) := by
    refine Mx.with fun K => ?_
    by_cases hc2_1 : p1 < p2
    · refine m_icmpY K X0.here hx hby (q := 14) d_method_3_2 (tlt hc2_1).1 (by decide) rfl ?_
      refine m_iconst K X0.here hx hby (0 : Int32) d_method_3_14 rfl rfl ?_
      rw [show ((w4_2 p1 p2 p3) : Int32) = (0 : Int32) from if_pos hc2_1]
      exact Mx.here X0 e0
    · refine m_icmpN K X0.here hx hby (q := 5) d_method_3_2 (flt hc2_1).1 rfl ?_
      refine m_iloadN K X0.here hx hby d_method_3_5 rfl rfl ?_
      refine m_iloadN K X0.here hx hby d_method_3_6 rfl rfl ?_
      obtain ⟨T3, X3, e3, st3⟩ : Mx X0 h0 (mkF m 15 #[.val (.int p1), .val (.int p2), .val (.int p3)] [(.int (w4_1 p1 p3))]) (s₁.setTop (mkF m 7 #[.val (.int p1), .val (.int p2), .val (.int p3)] [(.int p3), (.int p1)])) := by
        refine Mx.with fun K => ?_
        by_cases hc7_2 : p3 < p1
        · refine m_icmpY K X0.here hx hby (q := 14) d_method_3_7 (tlt hc7_2).2.2.1 (by decide) rfl ?_
          refine m_iconst K X0.here hx hby (0 : Int32) d_method_3_14 rfl rfl ?_
          rw [show ((w4_1 p1 p3) : Int32) = (0 : Int32) from if_pos hc7_2]
          exact Mx.here X0 e0
        · refine m_icmpN K X0.here hx hby (q := 10) d_method_3_7 (flt hc7_2).2.2.1 rfl ?_
          refine m_iconst K X0.here hx hby (1 : Int32) d_method_3_10 rfl rfl ?_
          refine m_goto K X0.here hx hby (q := 15) d_method_3_11 (by decide) rfl ?_
          rw [show ((w4_1 p1 p3) : Int32) = (1 : Int32) from if_neg hc7_2]
          exact Mx.here X0 e0
      refine k_go K st3 ?_
      rw [show ((w4_2 p1 p2 p3) : Int32) = (w4_1 p1 p3) from if_neg hc2_1]
      exact Mx.here X3 e3
  refine k_go K st4 ?_
  exact Go.retN X4 hx hby hlk hret (by simp) d_method_3_15 (by decide) (by decide) (own_nar01 (w4_2_01 p1 p2 p3)) (⟨congrArg (fun z => some (Value.int z)) (rfl), e4, rfl⟩)
def w3_1 (p1 : Int32) : Int32 := (if (BT p1 (97 : Int32) (122 : Int32)) = (0 : Int32) then (0 : Int32) else (1 : Int32))
theorem w3_1_01 (p1 : Int32) : (w3_1 p1) = 0 ∨ (w3_1 p1) = 1 := by
  unfold w3_1
  split
  · exact (Or.inl rfl)
  · exact (Or.inr rfl)
def w3_2 (p1 : Int32) : Int32 := (if (BT p1 (65 : Int32) (90 : Int32)) = (0 : Int32) then (w3_1 p1) else (1 : Int32))
theorem w3_2_01 (p1 : Int32) : (w3_2 p1) = 0 ∨ (w3_2 p1) = 1 := by
  unfold w3_2
  split
  · exact (w3_1_01 p1)
  · exact (Or.inr rfl)
def w3_3 (p1 : Int32) : Int32 := (if (BT p1 (48 : Int32) (57 : Int32)) = (0 : Int32) then (w3_2 p1) else (1 : Int32))
theorem w3_3_01 (p1 : Int32) : (w3_3 p1) = 0 ∨ (w3_3 p1) = 1 := by
  unfold w3_3
  split
  · exact (w3_2_01 p1)
  · exact (Or.inr rfl)
def w3_4 (p1 : Int32) : Int32 := (if p1 = (95 : Int32) then (1 : Int32) else (w3_3 p1))
theorem w3_4_01 (p1 : Int32) : (w3_4 p1) = 0 ∨ (w3_4 p1) = 1 := by
  unfold w3_4
  split
  · exact (Or.inr rfl)
  · exact (w3_3_01 p1)
def w3_5 (p1 : Int32) : Int32 := (if p1 = (46 : Int32) then (1 : Int32) else (w3_4 p1))
theorem w3_5_01 (p1 : Int32) : (w3_5 p1) = 0 ∨ (w3_5 p1) = 1 := by
  unfold w3_5
  split
  · exact (Or.inr rfl)
  · exact (w3_4_01 p1)
def w3_6 (p1 : Int32) : Int32 := (if p1 = (45 : Int32) then (1 : Int32) else (w3_5 p1))
theorem w3_6_01 (p1 : Int32) : (w3_6 p1) = 0 ∨ (w3_6 p1) = 1 := by
  unfold w3_6
  split
  · exact (Or.inr rfl)
  · exact (w3_5_01 p1)
def w3_7 (p1 : Int32) : Int32 := (if p1 = (183 : Int32) then (1 : Int32) else (0 : Int32))
theorem w3_7_01 (p1 : Int32) : (w3_7 p1) = 0 ∨ (w3_7 p1) = 1 := by
  unfold w3_7
  split
  · exact (Or.inr rfl)
  · exact (Or.inl rfl)
def w3_8 (p1 : Int32) : Int32 := (if p1 = (894 : Int32) then (0 : Int32) else (1 : Int32))
theorem w3_8_01 (p1 : Int32) : (w3_8 p1) = 0 ∨ (w3_8 p1) = 1 := by
  unfold w3_8
  split
  · exact (Or.inl rfl)
  · exact (Or.inr rfl)
def w3_9 (p1 : Int32) : Int32 := (if p1 = (247 : Int32) then (0 : Int32) else (w3_8 p1))
theorem w3_9_01 (p1 : Int32) : (w3_9 p1) = 0 ∨ (w3_9 p1) = 1 := by
  unfold w3_9
  split
  · exact (Or.inl rfl)
  · exact (w3_8_01 p1)
def w3_10 (p1 : Int32) : Int32 := (if p1 = (215 : Int32) then (0 : Int32) else (w3_9 p1))
theorem w3_10_01 (p1 : Int32) : (w3_10 p1) = 0 ∨ (w3_10 p1) = 1 := by
  unfold w3_10
  split
  · exact (Or.inl rfl)
  · exact (w3_9_01 p1)
def w3_11 (p1 : Int32) : Int32 := (BT p1 (8204 : Int32) (8205 : Int32))
def w3_12 (p1 : Int32) : Int32 := (BT p1 (8255 : Int32) (8256 : Int32))
def w3_13 (p1 : Int32) : Int32 := (BT p1 (8304 : Int32) (8591 : Int32))
def w3_14 (p1 : Int32) : Int32 := (BT p1 (11264 : Int32) (12271 : Int32))
def w3_15 (p1 : Int32) : Int32 := (if (w3_14 p1) = (0 : Int32) then (0 : Int32) else (1 : Int32))
theorem w3_15_01 (p1 : Int32) : (w3_15 p1) = 0 ∨ (w3_15 p1) = 1 := by
  unfold w3_15
  split
  · exact (Or.inl rfl)
  · exact (Or.inr rfl)
def w3_16 (p1 : Int32) : Int32 := (if (w3_13 p1) = (0 : Int32) then (w3_15 p1) else (1 : Int32))
theorem w3_16_01 (p1 : Int32) : (w3_16 p1) = 0 ∨ (w3_16 p1) = 1 := by
  unfold w3_16
  split
  · exact (w3_15_01 p1)
  · exact (Or.inr rfl)
def w3_17 (p1 : Int32) : Int32 := (if (w3_12 p1) = (0 : Int32) then (w3_16 p1) else (1 : Int32))
theorem w3_17_01 (p1 : Int32) : (w3_17 p1) = 0 ∨ (w3_17 p1) = 1 := by
  unfold w3_17
  split
  · exact (w3_16_01 p1)
  · exact (Or.inr rfl)
def w3_18 (p1 : Int32) : Int32 := (if (w3_11 p1) = (0 : Int32) then (w3_17 p1) else (1 : Int32))
theorem w3_18_01 (p1 : Int32) : (w3_18 p1) = 0 ∨ (w3_18 p1) = 1 := by
  unfold w3_18
  split
  · exact (w3_17_01 p1)
  · exact (Or.inr rfl)
def w3_19 (p1 : Int32) : Int32 := (BT p1 (12289 : Int32) (55295 : Int32))
def w3_20 (p1 : Int32) : Int32 := (BT p1 (63744 : Int32) (64975 : Int32))
def w3_21 (p1 : Int32) : Int32 := (BT p1 (65008 : Int32) (65533 : Int32))
def w3_22 (p1 : Int32) : Int32 := (if (w3_21 p1) = (0 : Int32) then (0 : Int32) else (1 : Int32))
theorem w3_22_01 (p1 : Int32) : (w3_22 p1) = 0 ∨ (w3_22 p1) = 1 := by
  unfold w3_22
  split
  · exact (Or.inl rfl)
  · exact (Or.inr rfl)
def w3_23 (p1 : Int32) : Int32 := (if (w3_20 p1) = (0 : Int32) then (w3_22 p1) else (1 : Int32))
theorem w3_23_01 (p1 : Int32) : (w3_23 p1) = 0 ∨ (w3_23 p1) = 1 := by
  unfold w3_23
  split
  · exact (w3_22_01 p1)
  · exact (Or.inr rfl)
def w3_24 (p1 : Int32) : Int32 := (if (w3_19 p1) = (0 : Int32) then (w3_23 p1) else (1 : Int32))
theorem w3_24_01 (p1 : Int32) : (w3_24 p1) = 0 ∨ (w3_24 p1) = 1 := by
  unfold w3_24
  split
  · exact (w3_23_01 p1)
  · exact (Or.inr rfl)
def REF (p1 : Int32) : Int32 := (if p1 < (0 : Int32) then (0 : Int32) else (if (983039 : Int32) < p1 then (0 : Int32) else (if p1 < (65536 : Int32) then (if p1 < (128 : Int32) then (w3_6 p1) else (if p1 < (192 : Int32) then (w3_7 p1) else (if p1 < (8192 : Int32) then (w3_10 p1) else (if p1 < (12288 : Int32) then (w3_18 p1) else (w3_24 p1))))) else (1 : Int32))))
theorem REF_01 (p1 : Int32) : REF p1 = 0 ∨ REF p1 = 1 := by
  unfold REF
  repeat' split
  all_goals first | exact Or.inl rfl | exact Or.inr rfl | exact (BT_01 p1 (48 : Int32) (57 : Int32)) | exact (BT_01 p1 (65 : Int32) (90 : Int32)) | exact (BT_01 p1 (97 : Int32) (122 : Int32)) | exact (w3_1_01 p1) | exact (w3_2_01 p1) | exact (w3_3_01 p1) | exact (w3_4_01 p1) | exact (w3_5_01 p1) | exact (w3_6_01 p1) | exact (w3_7_01 p1) | exact (w3_8_01 p1) | exact (w3_9_01 p1) | exact (w3_10_01 p1) | exact (BT_01 p1 (8204 : Int32) (8205 : Int32)) | exact (BT_01 p1 (8204 : Int32) (8205 : Int32)) | exact (BT_01 p1 (8255 : Int32) (8256 : Int32)) | exact (BT_01 p1 (8255 : Int32) (8256 : Int32)) | exact (BT_01 p1 (8304 : Int32) (8591 : Int32)) | exact (BT_01 p1 (8304 : Int32) (8591 : Int32)) | exact (BT_01 p1 (11264 : Int32) (12271 : Int32)) | exact (BT_01 p1 (11264 : Int32) (12271 : Int32)) | exact (w3_15_01 p1) | exact (w3_16_01 p1) | exact (w3_17_01 p1) | exact (w3_18_01 p1) | exact (BT_01 p1 (12289 : Int32) (55295 : Int32)) | exact (BT_01 p1 (12289 : Int32) (55295 : Int32)) | exact (BT_01 p1 (63744 : Int32) (64975 : Int32)) | exact (BT_01 p1 (63744 : Int32) (64975 : Int32)) | exact (BT_01 p1 (65008 : Int32) (65533 : Int32)) | exact (BT_01 p1 (65008 : Int32) (65533 : Int32)) | exact (w3_22_01 p1) | exact (w3_23_01 p1) | exact (w3_24_01 p1)
theorem d_method_4_0 : decode method_4_code 0 = .ok (.iload_n 0, 1) := by decide +kernel
theorem d_method_4_1 : decode method_4_code 1 = .ok (.ifCond .lt 9, 3) := by decide +kernel
theorem d_method_4_4 : decode method_4_code 4 = .ok (.iload_n 0, 1) := by decide +kernel
theorem d_method_4_5 : decode method_4_code 5 = .ok (.ldc 18, 2) := by decide +kernel
theorem d_method_4_7 : decode method_4_code 7 = .ok (.if_icmp .le 5, 3) := by decide +kernel
theorem d_method_4_10 : decode method_4_code 10 = .ok (.iconst 0, 1) := by decide +kernel
theorem d_method_4_11 : decode method_4_code 11 = .ok (.ireturn, 1) := by decide +kernel
theorem d_method_4_12 : decode method_4_code 12 = .ok (.iload_n 0, 1) := by decide +kernel
theorem d_method_4_13 : decode method_4_code 13 = .ok (.ldc 19, 2) := by decide +kernel
theorem d_method_4_15 : decode method_4_code 15 = .ok (.if_icmp .lt 5, 3) := by decide +kernel
theorem d_method_4_18 : decode method_4_code 18 = .ok (.iconst 1, 1) := by decide +kernel
theorem d_method_4_19 : decode method_4_code 19 = .ok (.ireturn, 1) := by decide +kernel
theorem d_method_4_20 : decode method_4_code 20 = .ok (.iload_n 0, 1) := by decide +kernel
theorem d_method_4_21 : decode method_4_code 21 = .ok (.sipush 128, 3) := by decide +kernel
theorem d_method_4_24 : decode method_4_code 24 = .ok (.if_icmp .ge 60, 3) := by decide +kernel
theorem d_method_4_27 : decode method_4_code 27 = .ok (.iload_n 0, 1) := by decide +kernel
theorem d_method_4_28 : decode method_4_code 28 = .ok (.bipush 45, 2) := by decide +kernel
theorem d_method_4_30 : decode method_4_code 30 = .ok (.if_icmp .eq 48, 3) := by decide +kernel
theorem d_method_4_33 : decode method_4_code 33 = .ok (.iload_n 0, 1) := by decide +kernel
theorem d_method_4_34 : decode method_4_code 34 = .ok (.bipush 46, 2) := by decide +kernel
theorem d_method_4_36 : decode method_4_code 36 = .ok (.if_icmp .eq 42, 3) := by decide +kernel
theorem d_method_4_39 : decode method_4_code 39 = .ok (.iload_n 0, 1) := by decide +kernel
theorem d_method_4_40 : decode method_4_code 40 = .ok (.bipush 95, 2) := by decide +kernel
theorem d_method_4_42 : decode method_4_code 42 = .ok (.if_icmp .eq 36, 3) := by decide +kernel
theorem d_method_4_45 : decode method_4_code 45 = .ok (.iload_n 0, 1) := by decide +kernel
theorem d_method_4_46 : decode method_4_code 46 = .ok (.bipush 48, 2) := by decide +kernel
theorem d_method_4_48 : decode method_4_code 48 = .ok (.bipush 57, 2) := by decide +kernel
theorem d_method_4_50 : decode method_4_code 50 = .ok (.invokestatic 20, 3) := by decide +kernel
theorem d_method_4_53 : decode method_4_code 53 = .ok (.ifCond .ne 25, 3) := by decide +kernel
theorem d_method_4_56 : decode method_4_code 56 = .ok (.iload_n 0, 1) := by decide +kernel
theorem d_method_4_57 : decode method_4_code 57 = .ok (.bipush 65, 2) := by decide +kernel
theorem d_method_4_59 : decode method_4_code 59 = .ok (.bipush 90, 2) := by decide +kernel
theorem d_method_4_61 : decode method_4_code 61 = .ok (.invokestatic 20, 3) := by decide +kernel
theorem d_method_4_64 : decode method_4_code 64 = .ok (.ifCond .ne 14, 3) := by decide +kernel
theorem d_method_4_67 : decode method_4_code 67 = .ok (.iload_n 0, 1) := by decide +kernel
theorem d_method_4_68 : decode method_4_code 68 = .ok (.bipush 97, 2) := by decide +kernel
theorem d_method_4_70 : decode method_4_code 70 = .ok (.bipush 122, 2) := by decide +kernel
theorem d_method_4_72 : decode method_4_code 72 = .ok (.invokestatic 20, 3) := by decide +kernel
theorem d_method_4_75 : decode method_4_code 75 = .ok (.ifCond .eq 7, 3) := by decide +kernel
theorem d_method_4_78 : decode method_4_code 78 = .ok (.iconst 1, 1) := by decide +kernel
theorem d_method_4_79 : decode method_4_code 79 = .ok (.goto 4, 3) := by decide +kernel
theorem d_method_4_82 : decode method_4_code 82 = .ok (.iconst 0, 1) := by decide +kernel
theorem d_method_4_83 : decode method_4_code 83 = .ok (.ireturn, 1) := by decide +kernel
theorem d_method_4_84 : decode method_4_code 84 = .ok (.iload_n 0, 1) := by decide +kernel
theorem d_method_4_85 : decode method_4_code 85 = .ok (.sipush 192, 3) := by decide +kernel
theorem d_method_4_88 : decode method_4_code 88 = .ok (.if_icmp .ge 16, 3) := by decide +kernel
theorem d_method_4_91 : decode method_4_code 91 = .ok (.iload_n 0, 1) := by decide +kernel
theorem d_method_4_92 : decode method_4_code 92 = .ok (.sipush 183, 3) := by decide +kernel
theorem d_method_4_95 : decode method_4_code 95 = .ok (.if_icmp .ne 7, 3) := by decide +kernel
theorem d_method_4_98 : decode method_4_code 98 = .ok (.iconst 1, 1) := by decide +kernel
theorem d_method_4_99 : decode method_4_code 99 = .ok (.goto 4, 3) := by decide +kernel
theorem d_method_4_102 : decode method_4_code 102 = .ok (.iconst 0, 1) := by decide +kernel
theorem d_method_4_103 : decode method_4_code 103 = .ok (.ireturn, 1) := by decide +kernel
theorem d_method_4_104 : decode method_4_code 104 = .ok (.iload_n 0, 1) := by decide +kernel
theorem d_method_4_105 : decode method_4_code 105 = .ok (.sipush 8192, 3) := by decide +kernel
theorem d_method_4_108 : decode method_4_code 108 = .ok (.if_icmp .ge 30, 3) := by decide +kernel
theorem d_method_4_111 : decode method_4_code 111 = .ok (.iload_n 0, 1) := by decide +kernel
theorem d_method_4_112 : decode method_4_code 112 = .ok (.sipush 215, 3) := by decide +kernel
theorem d_method_4_115 : decode method_4_code 115 = .ok (.if_icmp .eq 21, 3) := by decide +kernel
theorem d_method_4_118 : decode method_4_code 118 = .ok (.iload_n 0, 1) := by decide +kernel
theorem d_method_4_119 : decode method_4_code 119 = .ok (.sipush 247, 3) := by decide +kernel
theorem d_method_4_122 : decode method_4_code 122 = .ok (.if_icmp .eq 14, 3) := by decide +kernel
theorem d_method_4_125 : decode method_4_code 125 = .ok (.iload_n 0, 1) := by decide +kernel
theorem d_method_4_126 : decode method_4_code 126 = .ok (.sipush 894, 3) := by decide +kernel
theorem d_method_4_129 : decode method_4_code 129 = .ok (.if_icmp .eq 7, 3) := by decide +kernel
theorem d_method_4_132 : decode method_4_code 132 = .ok (.iconst 1, 1) := by decide +kernel
theorem d_method_4_133 : decode method_4_code 133 = .ok (.goto 4, 3) := by decide +kernel
theorem d_method_4_136 : decode method_4_code 136 = .ok (.iconst 0, 1) := by decide +kernel
theorem d_method_4_137 : decode method_4_code 137 = .ok (.ireturn, 1) := by decide +kernel
theorem d_method_4_138 : decode method_4_code 138 = .ok (.iload_n 0, 1) := by decide +kernel
theorem d_method_4_139 : decode method_4_code 139 = .ok (.sipush 12288, 3) := by decide +kernel
theorem d_method_4_142 : decode method_4_code 142 = .ok (.if_icmp .ge 61, 3) := by decide +kernel
theorem d_method_4_145 : decode method_4_code 145 = .ok (.iload_n 0, 1) := by decide +kernel
theorem d_method_4_146 : decode method_4_code 146 = .ok (.sipush 8204, 3) := by decide +kernel
theorem d_method_4_149 : decode method_4_code 149 = .ok (.sipush 8205, 3) := by decide +kernel
theorem d_method_4_152 : decode method_4_code 152 = .ok (.invokestatic 20, 3) := by decide +kernel
theorem d_method_4_155 : decode method_4_code 155 = .ok (.ifCond .ne 42, 3) := by decide +kernel
theorem d_method_4_158 : decode method_4_code 158 = .ok (.iload_n 0, 1) := by decide +kernel
theorem d_method_4_159 : decode method_4_code 159 = .ok (.sipush 8255, 3) := by decide +kernel
theorem d_method_4_162 : decode method_4_code 162 = .ok (.sipush 8256, 3) := by decide +kernel
theorem d_method_4_165 : decode method_4_code 165 = .ok (.invokestatic 20, 3) := by decide +kernel
theorem d_method_4_168 : decode method_4_code 168 = .ok (.ifCond .ne 29, 3) := by decide +kernel
theorem d_method_4_171 : decode method_4_code 171 = .ok (.iload_n 0, 1) := by decide +kernel
theorem d_method_4_172 : decode method_4_code 172 = .ok (.sipush 8304, 3) := by decide +kernel
theorem d_method_4_175 : decode method_4_code 175 = .ok (.sipush 8591, 3) := by decide +kernel
theorem d_method_4_178 : decode method_4_code 178 = .ok (.invokestatic 20, 3) := by decide +kernel
theorem d_method_4_181 : decode method_4_code 181 = .ok (.ifCond .ne 16, 3) := by decide +kernel
theorem d_method_4_184 : decode method_4_code 184 = .ok (.iload_n 0, 1) := by decide +kernel
theorem d_method_4_185 : decode method_4_code 185 = .ok (.sipush 11264, 3) := by decide +kernel
theorem d_method_4_188 : decode method_4_code 188 = .ok (.sipush 12271, 3) := by decide +kernel
theorem d_method_4_191 : decode method_4_code 191 = .ok (.invokestatic 20, 3) := by decide +kernel
theorem d_method_4_194 : decode method_4_code 194 = .ok (.ifCond .eq 7, 3) := by decide +kernel
theorem d_method_4_197 : decode method_4_code 197 = .ok (.iconst 1, 1) := by decide +kernel
theorem d_method_4_198 : decode method_4_code 198 = .ok (.goto 4, 3) := by decide +kernel
theorem d_method_4_201 : decode method_4_code 201 = .ok (.iconst 0, 1) := by decide +kernel
theorem d_method_4_202 : decode method_4_code 202 = .ok (.ireturn, 1) := by decide +kernel
theorem d_method_4_203 : decode method_4_code 203 = .ok (.iload_n 0, 1) := by decide +kernel
theorem d_method_4_204 : decode method_4_code 204 = .ok (.sipush 12289, 3) := by decide +kernel
theorem d_method_4_207 : decode method_4_code 207 = .ok (.ldc 24, 2) := by decide +kernel
theorem d_method_4_209 : decode method_4_code 209 = .ok (.invokestatic 20, 3) := by decide +kernel
theorem d_method_4_212 : decode method_4_code 212 = .ok (.ifCond .ne 25, 3) := by decide +kernel
theorem d_method_4_215 : decode method_4_code 215 = .ok (.iload_n 0, 1) := by decide +kernel
theorem d_method_4_216 : decode method_4_code 216 = .ok (.ldc 25, 2) := by decide +kernel
theorem d_method_4_218 : decode method_4_code 218 = .ok (.ldc 26, 2) := by decide +kernel
theorem d_method_4_220 : decode method_4_code 220 = .ok (.invokestatic 20, 3) := by decide +kernel
theorem d_method_4_223 : decode method_4_code 223 = .ok (.ifCond .ne 14, 3) := by decide +kernel
theorem d_method_4_226 : decode method_4_code 226 = .ok (.iload_n 0, 1) := by decide +kernel
theorem d_method_4_227 : decode method_4_code 227 = .ok (.ldc 27, 2) := by decide +kernel
theorem d_method_4_229 : decode method_4_code 229 = .ok (.ldc 28, 2) := by decide +kernel
theorem d_method_4_231 : decode method_4_code 231 = .ok (.invokestatic 20, 3) := by decide +kernel
theorem d_method_4_234 : decode method_4_code 234 = .ok (.ifCond .eq 7, 3) := by decide +kernel
theorem d_method_4_237 : decode method_4_code 237 = .ok (.iconst 1, 1) := by decide +kernel
theorem d_method_4_238 : decode method_4_code 238 = .ok (.goto 4, 3) := by decide +kernel
theorem d_method_4_241 : decode method_4_code 241 = .ok (.iconst 0, 1) := by decide +kernel
theorem d_method_4_242 : decode method_4_code 242 = .ok (.ireturn, 1) := by decide +kernel
theorem pd_0 : parseMethodDescriptor "(III)Z" = some ⟨[.int, .int, .int], some .boolean⟩ := by decide +kernel
theorem ef3 (m : MethodId) (x0 : Int32) : entryFrame m #[(.int x0)] 1 = mkF m 0 #[.val (.int x0)] [] := by first | (simp [entryFrame, mkF, argsToLocals, Value.category]; done) | rfl
set_option maxRecDepth 65536 in
set_option maxHeartbeats 40000000 in
theorem c3 (l : Launch) (Z : State) (a0 : Array Value) (hw : ∀ d ∈ tables_1, d.before a0 Z = true) (p1 : Int32) (h0 : Heap) (n0 : Nat) (Z0 : n0 ≤ h0.size) :
    Con l Z (⟨"com/example/able_broker/ablebroker/model/XmlNamesIsNameCharPinLaw", "reference", "(I)Z"⟩ : MethodName) method_4_code 1 (some .boolean) ({ frames := 1, cells := 0, slots := 0, locals := 14 } : Room) [] #[(.int p1)] h0 (fun v h L => v = some (.int (REF p1)) ∧ h = h0 ∧ L = []) := by
  refine Con.of (plainFor_of_name pn_com_example_able_broker_ablebroker_model_XmlNamesIsNameCharPinLaw) #[.val (.int p1)] (fun m => ef3 m p1) ?_
  intro p e s m below meth c s₁ K hx hby hml hown hnm hret hlk hZ X0 e0
  have N0 := Fr.nil n0
  refine m_iloadN K X0.here hx hby d_method_4_0 rfl rfl ?_
  by_cases hc1_1 : p1 < (0 : Int32)
  · refine m_ifY K X0.here hx hby (q := 10) d_method_4_1 ((if0 _ _).trans (tlt hc1_1).1) (by decide) rfl ?_
    refine m_iconst K X0.here hx hby (0 : Int32) d_method_4_10 rfl rfl ?_
    exact Go.retN X0 hx hby hlk hret (by simp) d_method_4_11 (by decide) (by decide) (by decide) (⟨congrArg (fun z => some (Value.int z)) (Eq.symm (by rw [REF, if_pos hc1_1])), e0, rfl⟩)
  · refine m_ifN K X0.here hx hby (q := 4) d_method_4_1 ((if0 _ _).trans (flt hc1_1).1) rfl ?_
    refine m_iloadN K X0.here hx hby d_method_4_4 rfl rfl ?_
    refine m_ldc K X0 hx hby hZ hown (hw _ (List.mem_of_getElem? (i := 15) rfl)) d_method_4_5 rfl ?_
    by_cases hc7_2 : (983039 : Int32) < p1
    · refine m_icmpN K X0.here hx hby (q := 10) d_method_4_7 (tlt hc7_2).2.2.2 rfl ?_
      refine m_iconst K X0.here hx hby (0 : Int32) d_method_4_10 rfl rfl ?_
      exact Go.retN X0 hx hby hlk hret (by simp) d_method_4_11 (by decide) (by decide) (by decide) (⟨congrArg (fun z => some (Value.int z)) (Eq.symm (by rw [REF, if_neg hc1_1, if_pos hc7_2])), e0, rfl⟩)
    · refine m_icmpY K X0.here hx hby (q := 12) d_method_4_7 (flt hc7_2).2.2.2 (by decide) rfl ?_
      refine m_iloadN K X0.here hx hby d_method_4_12 rfl rfl ?_
      refine m_ldc K X0 hx hby hZ hown (hw _ (List.mem_of_getElem? (i := 16) rfl)) d_method_4_13 rfl ?_
      by_cases hc15_3 : p1 < (65536 : Int32)
      · refine m_icmpY K X0.here hx hby (q := 20) d_method_4_15 (tlt hc15_3).1 (by decide) rfl ?_
        refine m_iloadN K X0.here hx hby d_method_4_20 rfl rfl ?_
        refine m_sipush K X0.here hx hby (128 : Int32) d_method_4_21 rfl rfl ?_
        by_cases hc24_4 : p1 < (128 : Int32)
        · refine m_icmpN K X0.here hx hby (q := 27) d_method_4_24 (tlt hc24_4).2.1 rfl ?_
          refine m_iloadN K X0.here hx hby d_method_4_27 rfl rfl ?_
          refine m_bipush K X0.here hx hby (45 : Int32) d_method_4_28 rfl rfl ?_
          obtain ⟨T19, X19, e19, st19⟩ : Mx X0 h0 (mkF m 83 #[.val (.int p1)] [(.int (w3_6 p1))]) (s₁.setTop (mkF m 30 #[.val (.int p1)] [(.int (45 : Int32)), (.int p1)])) := by
            refine Mx.with fun K => ?_
            by_cases hc30_5 : p1 = (45 : Int32)
            · refine m_icmpY K X0.here hx hby (q := 78) d_method_4_30 (teq hc30_5).1 (by decide) rfl ?_
              refine m_iconst K X0.here hx hby (1 : Int32) d_method_4_78 rfl rfl ?_
              refine m_goto K X0.here hx hby (q := 83) d_method_4_79 (by decide) rfl ?_
              rw [show ((w3_6 p1) : Int32) = (1 : Int32) from if_pos hc30_5]
              exact Mx.here X0 e0
            · refine m_icmpN K X0.here hx hby (q := 33) d_method_4_30 (feq hc30_5).1 rfl ?_
              refine m_iloadN K X0.here hx hby d_method_4_33 rfl rfl ?_
              refine m_bipush K X0.here hx hby (46 : Int32) d_method_4_34 rfl rfl ?_
              obtain ⟨T18, X18, e18, st18⟩ : Mx X0 h0 (mkF m 83 #[.val (.int p1)] [(.int (w3_5 p1))]) (s₁.setTop (mkF m 36 #[.val (.int p1)] [(.int (46 : Int32)), (.int p1)])) := by
                refine Mx.with fun K => ?_
                by_cases hc36_6 : p1 = (46 : Int32)
                · refine m_icmpY K X0.here hx hby (q := 78) d_method_4_36 (teq hc36_6).1 (by decide) rfl ?_
                  refine m_iconst K X0.here hx hby (1 : Int32) d_method_4_78 rfl rfl ?_
                  refine m_goto K X0.here hx hby (q := 83) d_method_4_79 (by decide) rfl ?_
                  rw [show ((w3_5 p1) : Int32) = (1 : Int32) from if_pos hc36_6]
                  exact Mx.here X0 e0
                · refine m_icmpN K X0.here hx hby (q := 39) d_method_4_36 (feq hc36_6).1 rfl ?_
                  refine m_iloadN K X0.here hx hby d_method_4_39 rfl rfl ?_
                  refine m_bipush K X0.here hx hby (95 : Int32) d_method_4_40 rfl rfl ?_
                  obtain ⟨T17, X17, e17, st17⟩ : Mx X0 h0 (mkF m 83 #[.val (.int p1)] [(.int (w3_4 p1))]) (s₁.setTop (mkF m 42 #[.val (.int p1)] [(.int (95 : Int32)), (.int p1)])) := by
                    refine Mx.with fun K => ?_
                    by_cases hc42_7 : p1 = (95 : Int32)
                    · refine m_icmpY K X0.here hx hby (q := 78) d_method_4_42 (teq hc42_7).1 (by decide) rfl ?_
                      refine m_iconst K X0.here hx hby (1 : Int32) d_method_4_78 rfl rfl ?_
                      refine m_goto K X0.here hx hby (q := 83) d_method_4_79 (by decide) rfl ?_
                      rw [show ((w3_4 p1) : Int32) = (1 : Int32) from if_pos hc42_7]
                      exact Mx.here X0 e0
                    · refine m_icmpN K X0.here hx hby (q := 45) d_method_4_42 (feq hc42_7).1 rfl ?_
                      refine m_iloadN K X0.here hx hby d_method_4_45 rfl rfl ?_
                      refine m_bipush K X0.here hx hby (48 : Int32) d_method_4_46 rfl rfl ?_
                      refine m_bipush K X0.here hx hby (57 : Int32) d_method_4_48 rfl rfl ?_
                      refine k_callS K X0 hx hby hZ [(.int p1), (.int (48 : Int32)), (.int (57 : Int32))] [] hown (hw _ (List.mem_of_getElem? (i := 17) rfl)) (hw _ (List.mem_of_getElem? (i := 18) rfl)) (hw _ (List.mem_of_getElem? (i := 13) rfl)) (hw _ (List.mem_of_getElem? (i := 19) rfl)) (c4 l Z a0 hw p1 (48 : Int32) (57 : Int32) h0 n0 Z0) e0 rfl rfl pd_0 rfl d_method_4_50 (by rw [hml]; rfl) rfl (by decide) (by decide) (Nat.le_of_ble_eq_true rfl) (by decide) (by decide) fun v8 T8 L8 X8 q8 => ?_
                      obtain ⟨rfl, e8, rfl⟩ := q8
                      replace X8 := own_px X8
                      refine k_some K (w := (.int (BT p1 (48 : Int32) (57 : Int32)))) ?_
                      obtain ⟨T16, X16, e16, st16⟩ : Mx X8 h0 (mkF m 83 #[.val (.int p1)] [(.int (w3_3 p1))]) (T8.setTop (mkF m 53 #[.val (.int p1)] [(.int (BT p1 (48 : Int32) (57 : Int32)))])) := by
                        refine Mx.with fun K => ?_
                        by_cases hc53_9 : (BT p1 (48 : Int32) (57 : Int32)) = (0 : Int32)
                        · refine m_ifN K X8.here hx hby (q := 56) d_method_4_53 ((if0 _ _).trans (teq hc53_9).2) rfl ?_
                          refine m_iloadN K X8.here hx hby d_method_4_56 rfl rfl ?_
                          refine m_bipush K X8.here hx hby (65 : Int32) d_method_4_57 rfl rfl ?_
                          refine m_bipush K X8.here hx hby (90 : Int32) d_method_4_59 rfl rfl ?_
                          refine k_callS K X8 hx hby hZ [(.int p1), (.int (65 : Int32)), (.int (90 : Int32))] [] hown (hw _ (List.mem_of_getElem? (i := 17) rfl)) (hw _ (List.mem_of_getElem? (i := 18) rfl)) (hw _ (List.mem_of_getElem? (i := 13) rfl)) (hw _ (List.mem_of_getElem? (i := 19) rfl)) (c4 l Z a0 hw p1 (65 : Int32) (90 : Int32) h0 n0 Z0) e8 rfl rfl pd_0 rfl d_method_4_61 (by rw [hml]; rfl) rfl (by decide) (by decide) (Nat.le_of_ble_eq_true rfl) (by decide) (by decide) fun v10 T10 L10 X10 q10 => ?_
                          obtain ⟨rfl, e10, rfl⟩ := q10
                          replace X10 := own_px X10
                          refine k_some K (w := (.int (BT p1 (65 : Int32) (90 : Int32)))) ?_
                          obtain ⟨T15, X15, e15, st15⟩ : Mx X10 h0 (mkF m 83 #[.val (.int p1)] [(.int (w3_2 p1))]) (T10.setTop (mkF m 64 #[.val (.int p1)] [(.int (BT p1 (65 : Int32) (90 : Int32)))])) := by
                            refine Mx.with fun K => ?_
                            by_cases hc64_11 : (BT p1 (65 : Int32) (90 : Int32)) = (0 : Int32)
                            · refine m_ifN K X10.here hx hby (q := 67) d_method_4_64 ((if0 _ _).trans (teq hc64_11).2) rfl ?_
                              refine m_iloadN K X10.here hx hby d_method_4_67 rfl rfl ?_
                              refine m_bipush K X10.here hx hby (97 : Int32) d_method_4_68 rfl rfl ?_
                              refine m_bipush K X10.here hx hby (122 : Int32) d_method_4_70 rfl rfl ?_
                              refine k_callS K X10 hx hby hZ [(.int p1), (.int (97 : Int32)), (.int (122 : Int32))] [] hown (hw _ (List.mem_of_getElem? (i := 17) rfl)) (hw _ (List.mem_of_getElem? (i := 18) rfl)) (hw _ (List.mem_of_getElem? (i := 13) rfl)) (hw _ (List.mem_of_getElem? (i := 19) rfl)) (c4 l Z a0 hw p1 (97 : Int32) (122 : Int32) h0 n0 Z0) e10 rfl rfl pd_0 rfl d_method_4_72 (by rw [hml]; rfl) rfl (by decide) (by decide) (Nat.le_of_ble_eq_true rfl) (by decide) (by decide) fun v12 T12 L12 X12 q12 => ?_
                              obtain ⟨rfl, e12, rfl⟩ := q12
                              replace X12 := own_px X12
                              refine k_some K (w := (.int (BT p1 (97 : Int32) (122 : Int32)))) ?_
                              obtain ⟨T14, X14, e14, st14⟩ : Mx X12 h0 (mkF m 83 #[.val (.int p1)] [(.int (w3_1 p1))]) (T12.setTop (mkF m 75 #[.val (.int p1)] [(.int (BT p1 (97 : Int32) (122 : Int32)))])) := by
                                refine Mx.with fun K => ?_
                                by_cases hc75_13 : (BT p1 (97 : Int32) (122 : Int32)) = (0 : Int32)
                                · refine m_ifY K X12.here hx hby (q := 82) d_method_4_75 ((if0 _ _).trans (teq hc75_13).1) (by decide) rfl ?_
                                  refine m_iconst K X12.here hx hby (0 : Int32) d_method_4_82 rfl rfl ?_
                                  rw [show ((w3_1 p1) : Int32) = (0 : Int32) from if_pos hc75_13]
                                  exact Mx.here X12 e12
                                · refine m_ifN K X12.here hx hby (q := 78) d_method_4_75 ((if0 _ _).trans (feq hc75_13).1) rfl ?_
                                  refine m_iconst K X12.here hx hby (1 : Int32) d_method_4_78 rfl rfl ?_
                                  refine m_goto K X12.here hx hby (q := 83) d_method_4_79 (by decide) rfl ?_
                                  rw [show ((w3_1 p1) : Int32) = (1 : Int32) from if_neg hc75_13]
                                  exact Mx.here X12 e12
                              refine k_go K st14 ?_
                              rw [show ((w3_2 p1) : Int32) = (w3_1 p1) from if_pos hc64_11]
                              exact Mx.here X14 e14
                            · refine m_ifY K X10.here hx hby (q := 78) d_method_4_64 ((if0 _ _).trans (feq hc64_11).2) (by decide) rfl ?_
                              refine m_iconst K X10.here hx hby (1 : Int32) d_method_4_78 rfl rfl ?_
                              refine m_goto K X10.here hx hby (q := 83) d_method_4_79 (by decide) rfl ?_
                              rw [show ((w3_2 p1) : Int32) = (1 : Int32) from if_neg hc64_11]
                              exact Mx.here X10 e10
                          refine k_go K st15 ?_
                          rw [show ((w3_3 p1) : Int32) = (w3_2 p1) from if_pos hc53_9]
                          exact Mx.here X15 e15
                        · refine m_ifY K X8.here hx hby (q := 78) d_method_4_53 ((if0 _ _).trans (feq hc53_9).2) (by decide) rfl ?_
                          refine m_iconst K X8.here hx hby (1 : Int32) d_method_4_78 rfl rfl ?_
                          refine m_goto K X8.here hx hby (q := 83) d_method_4_79 (by decide) rfl ?_
                          rw [show ((w3_3 p1) : Int32) = (1 : Int32) from if_neg hc53_9]
                          exact Mx.here X8 e8
                      refine k_go K st16 ?_
                      rw [show ((w3_4 p1) : Int32) = (w3_3 p1) from if_neg hc42_7]
                      exact Mx.here X16 e16
                  refine k_go K st17 ?_
                  rw [show ((w3_5 p1) : Int32) = (w3_4 p1) from if_neg hc36_6]
                  exact Mx.here X17 e17
              refine k_go K st18 ?_
              rw [show ((w3_6 p1) : Int32) = (w3_5 p1) from if_neg hc30_5]
              exact Mx.here X18 e18
          refine k_go K st19 ?_
          exact Go.retN X19 hx hby hlk hret (by simp) d_method_4_83 (by decide) (by decide) (own_nar01 (w3_6_01 p1)) (⟨congrArg (fun z => some (Value.int z)) (Eq.symm (by rw [REF, if_neg hc1_1, if_neg hc7_2, if_pos hc15_3, if_pos hc24_4])), e19, rfl⟩)
        · refine m_icmpY K X0.here hx hby (q := 84) d_method_4_24 (flt hc24_4).2.1 (by decide) rfl ?_
          refine m_iloadN K X0.here hx hby d_method_4_84 rfl rfl ?_
          refine m_sipush K X0.here hx hby (192 : Int32) d_method_4_85 rfl rfl ?_
          by_cases hc88_20 : p1 < (192 : Int32)
          · refine m_icmpN K X0.here hx hby (q := 91) d_method_4_88 (tlt hc88_20).2.1 rfl ?_
            refine m_iloadN K X0.here hx hby d_method_4_91 rfl rfl ?_
            refine m_sipush K X0.here hx hby (183 : Int32) d_method_4_92 rfl rfl ?_
            obtain ⟨T22, X22, e22, st22⟩ : Mx X0 h0 (mkF m 103 #[.val (.int p1)] [(.int (w3_7 p1))]) (s₁.setTop (mkF m 95 #[.val (.int p1)] [(.int (183 : Int32)), (.int p1)])) := by
              refine Mx.with fun K => ?_
              by_cases hc95_21 : p1 = (183 : Int32)
              · refine m_icmpN K X0.here hx hby (q := 98) d_method_4_95 (teq hc95_21).2 rfl ?_
                refine m_iconst K X0.here hx hby (1 : Int32) d_method_4_98 rfl rfl ?_
                refine m_goto K X0.here hx hby (q := 103) d_method_4_99 (by decide) rfl ?_
                rw [show ((w3_7 p1) : Int32) = (1 : Int32) from if_pos hc95_21]
                exact Mx.here X0 e0
              · refine m_icmpY K X0.here hx hby (q := 102) d_method_4_95 (feq hc95_21).2 (by decide) rfl ?_
                refine m_iconst K X0.here hx hby (0 : Int32) d_method_4_102 rfl rfl ?_
                rw [show ((w3_7 p1) : Int32) = (0 : Int32) from if_neg hc95_21]
                exact Mx.here X0 e0
            refine k_go K st22 ?_
            exact Go.retN X22 hx hby hlk hret (by simp) d_method_4_103 (by decide) (by decide) (own_nar01 (w3_7_01 p1)) (⟨congrArg (fun z => some (Value.int z)) (Eq.symm (by rw [REF, if_neg hc1_1, if_neg hc7_2, if_pos hc15_3, if_neg hc24_4, if_pos hc88_20])), e22, rfl⟩)
          · refine m_icmpY K X0.here hx hby (q := 104) d_method_4_88 (flt hc88_20).2.1 (by decide) rfl ?_
            refine m_iloadN K X0.here hx hby d_method_4_104 rfl rfl ?_
            refine m_sipush K X0.here hx hby (8192 : Int32) d_method_4_105 rfl rfl ?_
            by_cases hc108_23 : p1 < (8192 : Int32)
            · refine m_icmpN K X0.here hx hby (q := 111) d_method_4_108 (tlt hc108_23).2.1 rfl ?_
              refine m_iloadN K X0.here hx hby d_method_4_111 rfl rfl ?_
              refine m_sipush K X0.here hx hby (215 : Int32) d_method_4_112 rfl rfl ?_
              obtain ⟨T29, X29, e29, st29⟩ : Mx X0 h0 (mkF m 137 #[.val (.int p1)] [(.int (w3_10 p1))]) (s₁.setTop (mkF m 115 #[.val (.int p1)] [(.int (215 : Int32)), (.int p1)])) := by
                refine Mx.with fun K => ?_
                by_cases hc115_24 : p1 = (215 : Int32)
                · refine m_icmpY K X0.here hx hby (q := 136) d_method_4_115 (teq hc115_24).1 (by decide) rfl ?_
                  refine m_iconst K X0.here hx hby (0 : Int32) d_method_4_136 rfl rfl ?_
                  rw [show ((w3_10 p1) : Int32) = (0 : Int32) from if_pos hc115_24]
                  exact Mx.here X0 e0
                · refine m_icmpN K X0.here hx hby (q := 118) d_method_4_115 (feq hc115_24).1 rfl ?_
                  refine m_iloadN K X0.here hx hby d_method_4_118 rfl rfl ?_
                  refine m_sipush K X0.here hx hby (247 : Int32) d_method_4_119 rfl rfl ?_
                  obtain ⟨T28, X28, e28, st28⟩ : Mx X0 h0 (mkF m 137 #[.val (.int p1)] [(.int (w3_9 p1))]) (s₁.setTop (mkF m 122 #[.val (.int p1)] [(.int (247 : Int32)), (.int p1)])) := by
                    refine Mx.with fun K => ?_
                    by_cases hc122_25 : p1 = (247 : Int32)
                    · refine m_icmpY K X0.here hx hby (q := 136) d_method_4_122 (teq hc122_25).1 (by decide) rfl ?_
                      refine m_iconst K X0.here hx hby (0 : Int32) d_method_4_136 rfl rfl ?_
                      rw [show ((w3_9 p1) : Int32) = (0 : Int32) from if_pos hc122_25]
                      exact Mx.here X0 e0
                    · refine m_icmpN K X0.here hx hby (q := 125) d_method_4_122 (feq hc122_25).1 rfl ?_
                      refine m_iloadN K X0.here hx hby d_method_4_125 rfl rfl ?_
                      refine m_sipush K X0.here hx hby (894 : Int32) d_method_4_126 rfl rfl ?_
                      obtain ⟨T27, X27, e27, st27⟩ : Mx X0 h0 (mkF m 137 #[.val (.int p1)] [(.int (w3_8 p1))]) (s₁.setTop (mkF m 129 #[.val (.int p1)] [(.int (894 : Int32)), (.int p1)])) := by
                        refine Mx.with fun K => ?_
                        by_cases hc129_26 : p1 = (894 : Int32)
                        · refine m_icmpY K X0.here hx hby (q := 136) d_method_4_129 (teq hc129_26).1 (by decide) rfl ?_
                          refine m_iconst K X0.here hx hby (0 : Int32) d_method_4_136 rfl rfl ?_
                          rw [show ((w3_8 p1) : Int32) = (0 : Int32) from if_pos hc129_26]
                          exact Mx.here X0 e0
                        · refine m_icmpN K X0.here hx hby (q := 132) d_method_4_129 (feq hc129_26).1 rfl ?_
                          refine m_iconst K X0.here hx hby (1 : Int32) d_method_4_132 rfl rfl ?_
                          refine m_goto K X0.here hx hby (q := 137) d_method_4_133 (by decide) rfl ?_
                          rw [show ((w3_8 p1) : Int32) = (1 : Int32) from if_neg hc129_26]
                          exact Mx.here X0 e0
                      refine k_go K st27 ?_
                      rw [show ((w3_9 p1) : Int32) = (w3_8 p1) from if_neg hc122_25]
                      exact Mx.here X27 e27
                  refine k_go K st28 ?_
                  rw [show ((w3_10 p1) : Int32) = (w3_9 p1) from if_neg hc115_24]
                  exact Mx.here X28 e28
              refine k_go K st29 ?_
              exact Go.retN X29 hx hby hlk hret (by simp) d_method_4_137 (by decide) (by decide) (own_nar01 (w3_10_01 p1)) (⟨congrArg (fun z => some (Value.int z)) (Eq.symm (by rw [REF, if_neg hc1_1, if_neg hc7_2, if_pos hc15_3, if_neg hc24_4, if_neg hc88_20, if_pos hc108_23])), e29, rfl⟩)
            · refine m_icmpY K X0.here hx hby (q := 138) d_method_4_108 (flt hc108_23).2.1 (by decide) rfl ?_
              refine m_iloadN K X0.here hx hby d_method_4_138 rfl rfl ?_
              refine m_sipush K X0.here hx hby (12288 : Int32) d_method_4_139 rfl rfl ?_
              by_cases hc142_30 : p1 < (12288 : Int32)
              · refine m_icmpN K X0.here hx hby (q := 145) d_method_4_142 (tlt hc142_30).2.1 rfl ?_
                refine m_iloadN K X0.here hx hby d_method_4_145 rfl rfl ?_
                refine m_sipush K X0.here hx hby (8204 : Int32) d_method_4_146 rfl rfl ?_
                refine m_sipush K X0.here hx hby (8205 : Int32) d_method_4_149 rfl rfl ?_
                refine k_callS K X0 hx hby hZ [(.int p1), (.int (8204 : Int32)), (.int (8205 : Int32))] [] hown (hw _ (List.mem_of_getElem? (i := 17) rfl)) (hw _ (List.mem_of_getElem? (i := 18) rfl)) (hw _ (List.mem_of_getElem? (i := 13) rfl)) (hw _ (List.mem_of_getElem? (i := 19) rfl)) (c4 l Z a0 hw p1 (8204 : Int32) (8205 : Int32) h0 n0 Z0) e0 rfl rfl pd_0 rfl d_method_4_152 (by rw [hml]; rfl) rfl (by decide) (by decide) (Nat.le_of_ble_eq_true rfl) (by decide) (by decide) fun v31 T31 L31 X31 q31 => ?_
                obtain ⟨rfl, e31, rfl⟩ := q31
                replace X31 := own_px X31
                refine k_some K (w := (.int (w3_11 p1))) ?_
                obtain ⟨T42, X42, e42, st42⟩ : Mx X31 h0 (mkF m 202 #[.val (.int p1)] [(.int (w3_18 p1))]) (T31.setTop (mkF m 155 #[.val (.int p1)] [(.int (w3_11 p1))])) := by
                  refine Mx.with fun K => ?_
                  by_cases hc155_32 : (w3_11 p1) = (0 : Int32)
                  · refine m_ifN K X31.here hx hby (q := 158) d_method_4_155 ((if0 _ _).trans (teq hc155_32).2) rfl ?_
                    refine m_iloadN K X31.here hx hby d_method_4_158 rfl rfl ?_
                    refine m_sipush K X31.here hx hby (8255 : Int32) d_method_4_159 rfl rfl ?_
                    refine m_sipush K X31.here hx hby (8256 : Int32) d_method_4_162 rfl rfl ?_
                    refine k_callS K X31 hx hby hZ [(.int p1), (.int (8255 : Int32)), (.int (8256 : Int32))] [] hown (hw _ (List.mem_of_getElem? (i := 17) rfl)) (hw _ (List.mem_of_getElem? (i := 18) rfl)) (hw _ (List.mem_of_getElem? (i := 13) rfl)) (hw _ (List.mem_of_getElem? (i := 19) rfl)) (c4 l Z a0 hw p1 (8255 : Int32) (8256 : Int32) h0 n0 Z0) e31 rfl rfl pd_0 rfl d_method_4_165 (by rw [hml]; rfl) rfl (by decide) (by decide) (Nat.le_of_ble_eq_true rfl) (by decide) (by decide) fun v33 T33 L33 X33 q33 => ?_
                    obtain ⟨rfl, e33, rfl⟩ := q33
                    replace X33 := own_px X33
                    refine k_some K (w := (.int (w3_12 p1))) ?_
                    obtain ⟨T41, X41, e41, st41⟩ : Mx X33 h0 (mkF m 202 #[.val (.int p1)] [(.int (w3_17 p1))]) (T33.setTop (mkF m 168 #[.val (.int p1)] [(.int (w3_12 p1))])) := by
                      refine Mx.with fun K => ?_
                      by_cases hc168_34 : (w3_12 p1) = (0 : Int32)
                      · refine m_ifN K X33.here hx hby (q := 171) d_method_4_168 ((if0 _ _).trans (teq hc168_34).2) rfl ?_
                        refine m_iloadN K X33.here hx hby d_method_4_171 rfl rfl ?_
                        refine m_sipush K X33.here hx hby (8304 : Int32) d_method_4_172 rfl rfl ?_
                        refine m_sipush K X33.here hx hby (8591 : Int32) d_method_4_175 rfl rfl ?_
                        refine k_callS K X33 hx hby hZ [(.int p1), (.int (8304 : Int32)), (.int (8591 : Int32))] [] hown (hw _ (List.mem_of_getElem? (i := 17) rfl)) (hw _ (List.mem_of_getElem? (i := 18) rfl)) (hw _ (List.mem_of_getElem? (i := 13) rfl)) (hw _ (List.mem_of_getElem? (i := 19) rfl)) (c4 l Z a0 hw p1 (8304 : Int32) (8591 : Int32) h0 n0 Z0) e33 rfl rfl pd_0 rfl d_method_4_178 (by rw [hml]; rfl) rfl (by decide) (by decide) (Nat.le_of_ble_eq_true rfl) (by decide) (by decide) fun v35 T35 L35 X35 q35 => ?_
                        obtain ⟨rfl, e35, rfl⟩ := q35
                        replace X35 := own_px X35
                        refine k_some K (w := (.int (w3_13 p1))) ?_
                        obtain ⟨T40, X40, e40, st40⟩ : Mx X35 h0 (mkF m 202 #[.val (.int p1)] [(.int (w3_16 p1))]) (T35.setTop (mkF m 181 #[.val (.int p1)] [(.int (w3_13 p1))])) := by
                          refine Mx.with fun K => ?_
                          by_cases hc181_36 : (w3_13 p1) = (0 : Int32)
                          · refine m_ifN K X35.here hx hby (q := 184) d_method_4_181 ((if0 _ _).trans (teq hc181_36).2) rfl ?_
                            refine m_iloadN K X35.here hx hby d_method_4_184 rfl rfl ?_
                            refine m_sipush K X35.here hx hby (11264 : Int32) d_method_4_185 rfl rfl ?_
                            refine m_sipush K X35.here hx hby (12271 : Int32) d_method_4_188 rfl rfl ?_
                            refine k_callS K X35 hx hby hZ [(.int p1), (.int (11264 : Int32)), (.int (12271 : Int32))] [] hown (hw _ (List.mem_of_getElem? (i := 17) rfl)) (hw _ (List.mem_of_getElem? (i := 18) rfl)) (hw _ (List.mem_of_getElem? (i := 13) rfl)) (hw _ (List.mem_of_getElem? (i := 19) rfl)) (c4 l Z a0 hw p1 (11264 : Int32) (12271 : Int32) h0 n0 Z0) e35 rfl rfl pd_0 rfl d_method_4_191 (by rw [hml]; rfl) rfl (by decide) (by decide) (Nat.le_of_ble_eq_true rfl) (by decide) (by decide) fun v37 T37 L37 X37 q37 => ?_
                            obtain ⟨rfl, e37, rfl⟩ := q37
                            replace X37 := own_px X37
                            refine k_some K (w := (.int (w3_14 p1))) ?_
                            obtain ⟨T39, X39, e39, st39⟩ : Mx X37 h0 (mkF m 202 #[.val (.int p1)] [(.int (w3_15 p1))]) (T37.setTop (mkF m 194 #[.val (.int p1)] [(.int (w3_14 p1))])) := by
                              refine Mx.with fun K => ?_
                              by_cases hc194_38 : (w3_14 p1) = (0 : Int32)
                              · refine m_ifY K X37.here hx hby (q := 201) d_method_4_194 ((if0 _ _).trans (teq hc194_38).1) (by decide) rfl ?_
                                refine m_iconst K X37.here hx hby (0 : Int32) d_method_4_201 rfl rfl ?_
                                rw [show ((w3_15 p1) : Int32) = (0 : Int32) from if_pos hc194_38]
                                exact Mx.here X37 e37
                              · refine m_ifN K X37.here hx hby (q := 197) d_method_4_194 ((if0 _ _).trans (feq hc194_38).1) rfl ?_
                                refine m_iconst K X37.here hx hby (1 : Int32) d_method_4_197 rfl rfl ?_
                                refine m_goto K X37.here hx hby (q := 202) d_method_4_198 (by decide) rfl ?_
                                rw [show ((w3_15 p1) : Int32) = (1 : Int32) from if_neg hc194_38]
                                exact Mx.here X37 e37
                            refine k_go K st39 ?_
                            rw [show ((w3_16 p1) : Int32) = (w3_15 p1) from if_pos hc181_36]
                            exact Mx.here X39 e39
                          · refine m_ifY K X35.here hx hby (q := 197) d_method_4_181 ((if0 _ _).trans (feq hc181_36).2) (by decide) rfl ?_
                            refine m_iconst K X35.here hx hby (1 : Int32) d_method_4_197 rfl rfl ?_
                            refine m_goto K X35.here hx hby (q := 202) d_method_4_198 (by decide) rfl ?_
                            rw [show ((w3_16 p1) : Int32) = (1 : Int32) from if_neg hc181_36]
                            exact Mx.here X35 e35
                        refine k_go K st40 ?_
                        rw [show ((w3_17 p1) : Int32) = (w3_16 p1) from if_pos hc168_34]
                        exact Mx.here X40 e40
                      · refine m_ifY K X33.here hx hby (q := 197) d_method_4_168 ((if0 _ _).trans (feq hc168_34).2) (by decide) rfl ?_
                        refine m_iconst K X33.here hx hby (1 : Int32) d_method_4_197 rfl rfl ?_
                        refine m_goto K X33.here hx hby (q := 202) d_method_4_198 (by decide) rfl ?_
                        rw [show ((w3_17 p1) : Int32) = (1 : Int32) from if_neg hc168_34]
                        exact Mx.here X33 e33
                    refine k_go K st41 ?_
                    rw [show ((w3_18 p1) : Int32) = (w3_17 p1) from if_pos hc155_32]
                    exact Mx.here X41 e41
                  · refine m_ifY K X31.here hx hby (q := 197) d_method_4_155 ((if0 _ _).trans (feq hc155_32).2) (by decide) rfl ?_
                    refine m_iconst K X31.here hx hby (1 : Int32) d_method_4_197 rfl rfl ?_
                    refine m_goto K X31.here hx hby (q := 202) d_method_4_198 (by decide) rfl ?_
                    rw [show ((w3_18 p1) : Int32) = (1 : Int32) from if_neg hc155_32]
                    exact Mx.here X31 e31
                refine k_go K st42 ?_
                exact Go.retN X42 hx hby hlk hret (by simp) d_method_4_202 (by decide) (by decide) (own_nar01 (w3_18_01 p1)) (⟨congrArg (fun z => some (Value.int z)) (Eq.symm (by rw [REF, if_neg hc1_1, if_neg hc7_2, if_pos hc15_3, if_neg hc24_4, if_neg hc88_20, if_neg hc108_23, if_pos hc142_30])), e42, rfl⟩)
              · refine m_icmpY K X0.here hx hby (q := 203) d_method_4_142 (flt hc142_30).2.1 (by decide) rfl ?_
                refine m_iloadN K X0.here hx hby d_method_4_203 rfl rfl ?_
                refine m_sipush K X0.here hx hby (12289 : Int32) d_method_4_204 rfl rfl ?_
                refine m_ldc K X0 hx hby hZ hown (hw _ (List.mem_of_getElem? (i := 20) rfl)) d_method_4_207 rfl ?_
                refine k_callS K X0 hx hby hZ [(.int p1), (.int (12289 : Int32)), (.int (55295 : Int32))] [] hown (hw _ (List.mem_of_getElem? (i := 17) rfl)) (hw _ (List.mem_of_getElem? (i := 18) rfl)) (hw _ (List.mem_of_getElem? (i := 13) rfl)) (hw _ (List.mem_of_getElem? (i := 19) rfl)) (c4 l Z a0 hw p1 (12289 : Int32) (55295 : Int32) h0 n0 Z0) e0 rfl rfl pd_0 rfl d_method_4_209 (by rw [hml]; rfl) rfl (by decide) (by decide) (Nat.le_of_ble_eq_true rfl) (by decide) (by decide) fun v43 T43 L43 X43 q43 => ?_
                obtain ⟨rfl, e43, rfl⟩ := q43
                replace X43 := own_px X43
                refine k_some K (w := (.int (w3_19 p1))) ?_
                obtain ⟨T51, X51, e51, st51⟩ : Mx X43 h0 (mkF m 242 #[.val (.int p1)] [(.int (w3_24 p1))]) (T43.setTop (mkF m 212 #[.val (.int p1)] [(.int (w3_19 p1))])) := by
                  refine Mx.with fun K => ?_
                  by_cases hc212_44 : (w3_19 p1) = (0 : Int32)
                  · refine m_ifN K X43.here hx hby (q := 215) d_method_4_212 ((if0 _ _).trans (teq hc212_44).2) rfl ?_
                    refine m_iloadN K X43.here hx hby d_method_4_215 rfl rfl ?_
                    refine m_ldc K X43 hx hby hZ hown (hw _ (List.mem_of_getElem? (i := 21) rfl)) d_method_4_216 rfl ?_
                    refine m_ldc K X43 hx hby hZ hown (hw _ (List.mem_of_getElem? (i := 22) rfl)) d_method_4_218 rfl ?_
                    refine k_callS K X43 hx hby hZ [(.int p1), (.int (63744 : Int32)), (.int (64975 : Int32))] [] hown (hw _ (List.mem_of_getElem? (i := 17) rfl)) (hw _ (List.mem_of_getElem? (i := 18) rfl)) (hw _ (List.mem_of_getElem? (i := 13) rfl)) (hw _ (List.mem_of_getElem? (i := 19) rfl)) (c4 l Z a0 hw p1 (63744 : Int32) (64975 : Int32) h0 n0 Z0) e43 rfl rfl pd_0 rfl d_method_4_220 (by rw [hml]; rfl) rfl (by decide) (by decide) (Nat.le_of_ble_eq_true rfl) (by decide) (by decide) fun v45 T45 L45 X45 q45 => ?_
                    obtain ⟨rfl, e45, rfl⟩ := q45
                    replace X45 := own_px X45
                    refine k_some K (w := (.int (w3_20 p1))) ?_
                    obtain ⟨T50, X50, e50, st50⟩ : Mx X45 h0 (mkF m 242 #[.val (.int p1)] [(.int (w3_23 p1))]) (T45.setTop (mkF m 223 #[.val (.int p1)] [(.int (w3_20 p1))])) := by
                      refine Mx.with fun K => ?_
                      by_cases hc223_46 : (w3_20 p1) = (0 : Int32)
                      · refine m_ifN K X45.here hx hby (q := 226) d_method_4_223 ((if0 _ _).trans (teq hc223_46).2) rfl ?_
                        refine m_iloadN K X45.here hx hby d_method_4_226 rfl rfl ?_
                        refine m_ldc K X45 hx hby hZ hown (hw _ (List.mem_of_getElem? (i := 23) rfl)) d_method_4_227 rfl ?_
                        refine m_ldc K X45 hx hby hZ hown (hw _ (List.mem_of_getElem? (i := 24) rfl)) d_method_4_229 rfl ?_
                        refine k_callS K X45 hx hby hZ [(.int p1), (.int (65008 : Int32)), (.int (65533 : Int32))] [] hown (hw _ (List.mem_of_getElem? (i := 17) rfl)) (hw _ (List.mem_of_getElem? (i := 18) rfl)) (hw _ (List.mem_of_getElem? (i := 13) rfl)) (hw _ (List.mem_of_getElem? (i := 19) rfl)) (c4 l Z a0 hw p1 (65008 : Int32) (65533 : Int32) h0 n0 Z0) e45 rfl rfl pd_0 rfl d_method_4_231 (by rw [hml]; rfl) rfl (by decide) (by decide) (Nat.le_of_ble_eq_true rfl) (by decide) (by decide) fun v47 T47 L47 X47 q47 => ?_
                        obtain ⟨rfl, e47, rfl⟩ := q47
                        replace X47 := own_px X47
                        refine k_some K (w := (.int (w3_21 p1))) ?_
                        obtain ⟨T49, X49, e49, st49⟩ : Mx X47 h0 (mkF m 242 #[.val (.int p1)] [(.int (w3_22 p1))]) (T47.setTop (mkF m 234 #[.val (.int p1)] [(.int (w3_21 p1))])) := by
                          refine Mx.with fun K => ?_
                          by_cases hc234_48 : (w3_21 p1) = (0 : Int32)
                          · refine m_ifY K X47.here hx hby (q := 241) d_method_4_234 ((if0 _ _).trans (teq hc234_48).1) (by decide) rfl ?_
                            refine m_iconst K X47.here hx hby (0 : Int32) d_method_4_241 rfl rfl ?_
                            rw [show ((w3_22 p1) : Int32) = (0 : Int32) from if_pos hc234_48]
                            exact Mx.here X47 e47
                          · refine m_ifN K X47.here hx hby (q := 237) d_method_4_234 ((if0 _ _).trans (feq hc234_48).1) rfl ?_
                            refine m_iconst K X47.here hx hby (1 : Int32) d_method_4_237 rfl rfl ?_
                            refine m_goto K X47.here hx hby (q := 242) d_method_4_238 (by decide) rfl ?_
                            rw [show ((w3_22 p1) : Int32) = (1 : Int32) from if_neg hc234_48]
                            exact Mx.here X47 e47
                        refine k_go K st49 ?_
                        rw [show ((w3_23 p1) : Int32) = (w3_22 p1) from if_pos hc223_46]
                        exact Mx.here X49 e49
                      · refine m_ifY K X45.here hx hby (q := 237) d_method_4_223 ((if0 _ _).trans (feq hc223_46).2) (by decide) rfl ?_
                        refine m_iconst K X45.here hx hby (1 : Int32) d_method_4_237 rfl rfl ?_
                        refine m_goto K X45.here hx hby (q := 242) d_method_4_238 (by decide) rfl ?_
                        rw [show ((w3_23 p1) : Int32) = (1 : Int32) from if_neg hc223_46]
                        exact Mx.here X45 e45
                    refine k_go K st50 ?_
                    rw [show ((w3_24 p1) : Int32) = (w3_23 p1) from if_pos hc212_44]
                    exact Mx.here X50 e50
                  · refine m_ifY K X43.here hx hby (q := 237) d_method_4_212 ((if0 _ _).trans (feq hc212_44).2) (by decide) rfl ?_
                    refine m_iconst K X43.here hx hby (1 : Int32) d_method_4_237 rfl rfl ?_
                    refine m_goto K X43.here hx hby (q := 242) d_method_4_238 (by decide) rfl ?_
                    rw [show ((w3_24 p1) : Int32) = (1 : Int32) from if_neg hc212_44]
                    exact Mx.here X43 e43
                refine k_go K st51 ?_
                exact Go.retN X51 hx hby hlk hret (by simp) d_method_4_242 (by decide) (by decide) (own_nar01 (w3_24_01 p1)) (⟨congrArg (fun z => some (Value.int z)) (Eq.symm (by rw [REF, if_neg hc1_1, if_neg hc7_2, if_pos hc15_3, if_neg hc24_4, if_neg hc88_20, if_neg hc108_23, if_neg hc142_30])), e51, rfl⟩)
      · refine m_icmpN K X0.here hx hby (q := 18) d_method_4_15 (flt hc15_3).1 rfl ?_
        refine m_iconst K X0.here hx hby (1 : Int32) d_method_4_18 rfl rfl ?_
        exact Go.retN X0 hx hby hlk hret (by simp) d_method_4_19 (by decide) (by decide) (by decide) (⟨congrArg (fun z => some (Value.int z)) (Eq.symm (by rw [REF, if_neg hc1_1, if_neg hc7_2, if_neg hc15_3])), e0, rfl⟩)
def INR (c : Int32) : List Int32 → Int32
  | lo :: hh :: r => if c < lo then INR c r else if hh < c then INR c r else 1
  | _ => 0
theorem INR_01 (c : Int32) : ∀ l : List Int32, INR c l = 0 ∨ INR c l = 1
  | [] => Or.inl rfl
  | [_] => Or.inl rfl
  | lo :: hh :: r => by
    rw [INR]
    split
    · exact INR_01 c r
    · split
      · exact INR_01 c r
      · exact Or.inr rfl
theorem own_two {r : List Int32} {n : Nat} (h : r.length = 2 * (n + 1)) : ∃ lo hh r', r = lo :: hh :: r' := by
  match r, h with
  | lo :: hh :: r', _ => exact ⟨lo, hh, r', rfl⟩
  | [_], h => simp at h; omega
  | [], h => simp at h
theorem own_nat {k : Nat} (h : k < 2147483648) : (Int32.ofNat k).toInt = k := Int32.toInt_ofNat_small h
theorem own_nc {i : Int32} {k : Nat} (h : i.toInt = k) : i.toNatClampNeg = k := by simp only [Int32.toNatClampNeg, h]; rfl
section Ix
variable {zs pre r : List Int32} {i lo hh : Int32}
theorem own_i0 (hz : zs = pre ++ r) (hi : i = Int32.ofNat pre.length) (hl : zs.length < 2147483648) : i.toInt = pre.length := by
  have e : zs.length = pre.length + r.length := by rw [hz, List.length_append]
  rw [hi]; exact own_nat (by omega)
theorem own_i2 (hi : i = Int32.ofNat pre.length) : i + (2 : Int32) = Int32.ofNat (pre ++ [lo, hh]).length := by
  rw [hi, List.length_append, Int32.ofNat_add]; rfl
theorem own_ltl (hz : zs = pre ++ r) (hi : i = Int32.ofNat pre.length) (hl : zs.length < 2147483648) (hr : 0 < r.length) : i < Int32.ofNat zs.length := by
  have e : zs.length = pre.length + r.length := by rw [hz, List.length_append]
  rw [Int32.lt_iff_toInt_lt, own_i0 hz hi hl, own_nat hl]
  omega
theorem own_nn (hz : zs = pre ++ r) (hi : i = Int32.ofNat pre.length) (hl : zs.length < 2147483648) (hr : 0 < r.length) : ¬ i < 0 := by
  have e0 : (0 : Int32).toInt = 0 := rfl
  rw [Int32.lt_iff_toInt_lt, own_i0 hz hi hl, e0]
  omega
theorem own_e0 (hz : zs = pre ++ lo :: hh :: r) (hi : i = Int32.ofNat pre.length) (hl : zs.length < 2147483648) : (zs.map Value.int)[i.toNatClampNeg]? = some (.int lo) := by
  rw [own_nc (own_i0 hz hi hl), hz]; simp
theorem own_i1 (hz : zs = pre ++ lo :: hh :: r) (hi : i = Int32.ofNat pre.length) (hl : zs.length < 2147483648) : (i + (1 : Int32)).toInt = ((pre.length + 1 : Nat) : Int) := by
  have e : zs.length = pre.length + (r.length + 2) := by rw [hz, List.length_append]; rfl
  have h0 := own_i0 hz hi hl
  have ha := c_iadd i 1
  have e1 : (1 : Int32).toInt = 1 := rfl
  have hr := rng32 (i + 1)
  omega
theorem own_nn1 (hz : zs = pre ++ lo :: hh :: r) (hi : i = Int32.ofNat pre.length) (hl : zs.length < 2147483648) : ¬ (i + (1 : Int32)) < 0 := by
  have e0 : (0 : Int32).toInt = 0 := rfl
  rw [Int32.lt_iff_toInt_lt, own_i1 hz hi hl, e0]
  omega
theorem own_e1 (hz : zs = pre ++ lo :: hh :: r) (hi : i = Int32.ofNat pre.length) (hl : zs.length < 2147483648) : (zs.map Value.int)[(i + (1 : Int32)).toNatClampNeg]? = some (.int hh) := by
  rw [own_nc (own_i1 hz hi hl), hz]; simp
end Ix
def own_ZS : List Int32 := [65, 90, 95, 95, 97, 122, 192, 214, 216, 246, 248, 767, 880, 893, 895, 8191, 8204, 8205, 8304, 8591, 11264, 12271, 12289, 55295, 63744, 64975, 65008, 65533, 65536, 983039]
def own_ZO : List Int32 := [45, 46, 48, 57, 183, 183, 768, 879, 8255, 8256]
theorem d_prog_87_8_0 : decode prog_87_method_8_code 0 = .ok (.iconst 0, 1) := by decide +kernel
theorem d_prog_87_8_1 : decode prog_87_method_8_code 1 = .ok (.istore_n 2, 1) := by decide +kernel
theorem d_prog_87_8_2 : decode prog_87_method_8_code 2 = .ok (.iload_n 2, 1) := by decide +kernel
theorem d_prog_87_8_3 : decode prog_87_method_8_code 3 = .ok (.aload_n 1, 1) := by decide +kernel
theorem d_prog_87_8_4 : decode prog_87_method_8_code 4 = .ok (.arraylength, 1) := by decide +kernel
theorem d_prog_87_8_5 : decode prog_87_method_8_code 5 = .ok (.if_icmp .ge 27, 3) := by decide +kernel
theorem d_prog_87_8_8 : decode prog_87_method_8_code 8 = .ok (.iload_n 0, 1) := by decide +kernel
theorem d_prog_87_8_9 : decode prog_87_method_8_code 9 = .ok (.aload_n 1, 1) := by decide +kernel
theorem d_prog_87_8_10 : decode prog_87_method_8_code 10 = .ok (.iload_n 2, 1) := by decide +kernel
theorem d_prog_87_8_11 : decode prog_87_method_8_code 11 = .ok (.iaload, 1) := by decide +kernel
theorem d_prog_87_8_12 : decode prog_87_method_8_code 12 = .ok (.if_icmp .lt 14, 3) := by decide +kernel
theorem d_prog_87_8_15 : decode prog_87_method_8_code 15 = .ok (.iload_n 0, 1) := by decide +kernel
theorem d_prog_87_8_16 : decode prog_87_method_8_code 16 = .ok (.aload_n 1, 1) := by decide +kernel
theorem d_prog_87_8_17 : decode prog_87_method_8_code 17 = .ok (.iload_n 2, 1) := by decide +kernel
theorem d_prog_87_8_18 : decode prog_87_method_8_code 18 = .ok (.iconst 1, 1) := by decide +kernel
theorem d_prog_87_8_19 : decode prog_87_method_8_code 19 = .ok (.iadd, 1) := by decide +kernel
theorem d_prog_87_8_20 : decode prog_87_method_8_code 20 = .ok (.iaload, 1) := by decide +kernel
theorem d_prog_87_8_21 : decode prog_87_method_8_code 21 = .ok (.if_icmp .gt 5, 3) := by decide +kernel
theorem d_prog_87_8_24 : decode prog_87_method_8_code 24 = .ok (.iconst 1, 1) := by decide +kernel
theorem d_prog_87_8_25 : decode prog_87_method_8_code 25 = .ok (.ireturn, 1) := by decide +kernel
theorem d_prog_87_8_26 : decode prog_87_method_8_code 26 = .ok (.iinc 2 2, 3) := by decide +kernel
theorem d_prog_87_8_29 : decode prog_87_method_8_code 29 = .ok (.goto (-27), 3) := by decide +kernel
theorem d_prog_87_8_32 : decode prog_87_method_8_code 32 = .ok (.iconst 0, 1) := by decide +kernel
theorem d_prog_87_8_33 : decode prog_87_method_8_code 33 = .ok (.ireturn, 1) := by decide +kernel
theorem pn_com_example_able_broker_ablebroker_model_XmlNames : plainName "com/example/able_broker/ablebroker/model/XmlNames" = true := by first | (simp [plainName, overriddenIn]; done) | decide +kernel
theorem ef2 (m : MethodId) (x0 : Int32) (x1 : Addr) : entryFrame m #[(.int x0), (.ref x1)] 3 = mkF m 0 #[.val (.int x0), .val (.ref x1), .unset] [] := by first | (simp [entryFrame, mkF, argsToLocals, Value.category]; done) | rfl
set_option maxRecDepth 65536 in
set_option maxHeartbeats 40000000 in
theorem c2 (l : Launch) (Z : State) (a0 : Array Value) (hw : ∀ d ∈ tables_1, d.before a0 Z = true) (p1 : Int32) (a2 : Addr) (zs : List Int32) (h0 : Heap) (n0 : Nat) (Z0 : n0 ≤ h0.size) (AV : Av Z h0 a2 .int (zs.map Value.int)) (hl : zs.length < 2147483648) (he : zs.length % 2 = 0) :
    Con l Z (⟨"com/example/able_broker/ablebroker/model/XmlNames", "inRanges", "(I[I)Z"⟩ : MethodName) prog_87_method_8_code 3 (some .boolean) ({ frames := 0, cells := 0, slots := 0, locals := 0 } : Room) [] #[(.int p1), (.ref a2)] h0 (fun v h L => v = some (.int (INR p1 zs)) ∧ h = h0 ∧ L = []) := by
  refine Con.of (plainFor_of_name pn_com_example_able_broker_ablebroker_model_XmlNames) #[.val (.int p1), .val (.ref a2), .unset] (fun m => ef2 m p1 a2) ?_
  intro p e s m below meth c s₁ K hx hby hml hown hnm hret hlk hZ X0 e0
  have N0 := Fr.nil n0
  refine m_iconst K X0.here hx hby (0 : Int32) d_prog_87_8_0 rfl rfl ?_
  refine m_istoreN K X0.here hx hby #[.val (.int p1), .val (.ref a2), .val (.int (0 : Int32))] d_prog_87_8_1 rfl rfl ?_
  have loop : ∀ (n : Nat) (pre r : List Int32) (i : Int32), zs = pre ++ r → r.length = 2 * n → i = Int32.ofNat pre.length → Go p e below s 0 0 (fun v h L => v = some (.int (INR p1 r)) ∧ h = h0 ∧ L = []) (s₁.setTop (mkF m 2 #[.val (.int p1), .val (.ref a2), .val (.int i)] [])) := by
    intro n
    induction n with
    | zero =>
      intro pre r i hz hr hi
      obtain rfl : r = [] := List.length_eq_zero_iff.mp (by omega)
      have h5 : ¬ i < (Int32.ofNat zs.length) := by rw [hi, hz, List.append_nil]; exact fun q => Int32.lt_irrefl q
      refine Go.with fun K => ?_
      refine m_iloadN K X0.here hx hby d_prog_87_8_2 rfl rfl ?_
      refine m_aloadN K X0.here hx hby d_prog_87_8_3 rfl rfl rfl ?_
      refine k_len K X0 hx hby hZ (Int32.ofNat zs.length) e0 AV (by rw [List.length_map]) d_prog_87_8_4 rfl ?_
      refine m_icmpY K X0.here hx hby (q := 32) d_prog_87_8_5 (flt h5).2.1 (by decide) rfl ?_
      refine m_iconst K X0.here hx hby (0 : Int32) d_prog_87_8_32 rfl rfl ?_
      exact Go.retN X0 hx hby hlk hret (by simp) d_prog_87_8_33 (by decide) (by decide) (by decide) (⟨rfl, e0, rfl⟩)
    | succ n ih =>
      intro pre r i hz hr hi
      obtain ⟨lo, hh, r, rfl⟩ : ∃ lo hh r', r = lo :: hh :: r' := own_two hr
      have h5 : i < (Int32.ofNat zs.length) := own_ltl hz hi hl (by simp)
      have h0 : ¬ i < 0 := own_nn hz hi hl (by simp)
      have ha : (zs.map Value.int)[i.toNatClampNeg]? = some (.int lo) := own_e0 hz hi hl
      have h1 : ¬ (i + (1 : Int32)) < 0 := own_nn1 hz hi hl
      have hb1 : (zs.map Value.int)[(i + (1 : Int32)).toNatClampNeg]? = some (.int hh) := own_e1 hz hi hl
      refine Go.with fun K => ?_
      refine m_iloadN K X0.here hx hby d_prog_87_8_2 rfl rfl ?_
      refine m_aloadN K X0.here hx hby d_prog_87_8_3 rfl rfl rfl ?_
      refine k_len K X0 hx hby hZ (Int32.ofNat zs.length) e0 AV (by rw [List.length_map]) d_prog_87_8_4 rfl ?_
      refine m_icmpN K X0.here hx hby (q := 8) d_prog_87_8_5 (tlt h5).2.1 rfl ?_
      refine m_iloadN K X0.here hx hby d_prog_87_8_8 rfl rfl ?_
      refine m_aloadN K X0.here hx hby d_prog_87_8_9 rfl rfl rfl ?_
      refine m_iloadN K X0.here hx hby d_prog_87_8_10 rfl rfl ?_
      refine k_ldI K X0 hx hby hZ e0 AV (v := (.int lo)) h0 ha d_prog_87_8_11 rfl ?_
      by_cases hc12_1 : p1 < lo
      · refine m_icmpY K X0.here hx hby (q := 26) d_prog_87_8_12 (tlt hc12_1).1 (by decide) rfl ?_
        refine m_iinc K X0.here hx hby #[.val (.int p1), .val (.ref a2), .val (.int (i + (2 : Int32)))] d_prog_87_8_26 rfl rfl rfl ?_
        refine m_goto K X0.here hx hby (q := 2) d_prog_87_8_29 (by decide) rfl ?_
        rw [show INR p1 (lo :: hh :: r) = INR p1 r from by rw [INR, if_pos hc12_1]]
        exact ih (pre ++ [lo, hh]) r _ (by rw [hz]; simp) (by simp at hr; omega) (own_i2 hi)
      · refine m_icmpN K X0.here hx hby (q := 15) d_prog_87_8_12 (flt hc12_1).1 rfl ?_
        refine m_iloadN K X0.here hx hby d_prog_87_8_15 rfl rfl ?_
        refine m_aloadN K X0.here hx hby d_prog_87_8_16 rfl rfl rfl ?_
        refine m_iloadN K X0.here hx hby d_prog_87_8_17 rfl rfl ?_
        refine m_iconst K X0.here hx hby (1 : Int32) d_prog_87_8_18 rfl rfl ?_
        refine m_iadd K X0.here hx hby (i + (1 : Int32)) d_prog_87_8_19 rfl rfl ?_
        refine k_ldI K X0 hx hby hZ e0 AV (v := (.int hh)) h1 hb1 d_prog_87_8_20 rfl ?_
        by_cases hc21_2 : hh < p1
        · refine m_icmpY K X0.here hx hby (q := 26) d_prog_87_8_21 (tlt hc21_2).2.2.1 (by decide) rfl ?_
          refine m_iinc K X0.here hx hby #[.val (.int p1), .val (.ref a2), .val (.int (i + (2 : Int32)))] d_prog_87_8_26 rfl rfl rfl ?_
          refine m_goto K X0.here hx hby (q := 2) d_prog_87_8_29 (by decide) rfl ?_
          rw [show INR p1 (lo :: hh :: r) = INR p1 r from by rw [INR, if_neg hc12_1, if_pos hc21_2]]
          exact ih (pre ++ [lo, hh]) r _ (by rw [hz]; simp) (by simp at hr; omega) (own_i2 hi)
        · refine m_icmpN K X0.here hx hby (q := 24) d_prog_87_8_21 (flt hc21_2).2.2.1 rfl ?_
          refine m_iconst K X0.here hx hby (1 : Int32) d_prog_87_8_24 rfl rfl ?_
          exact Go.retN X0 hx hby hlk hret (by simp) d_prog_87_8_25 (by decide) (by decide) (by decide) (⟨congrArg (fun z => some (Value.int z)) (Eq.symm (by rw [INR, if_neg hc12_1, if_neg hc21_2])), e0, rfl⟩)
  exact loop (zs.length / 2) [] zs (0 : Int32) rfl (by omega) rfl
def w1_1 (p1 : Int32) : Int32 := (if (INR p1 own_ZO) = (0 : Int32) then (0 : Int32) else (1 : Int32))
theorem w1_1_01 (p1 : Int32) : (w1_1 p1) = 0 ∨ (w1_1 p1) = 1 := by
  unfold w1_1
  split
  · exact (Or.inl rfl)
  · exact (Or.inr rfl)
def w1_2 (p1 : Int32) : Int32 := (if (INR p1 own_ZS) = (0 : Int32) then (w1_1 p1) else (1 : Int32))
theorem w1_2_01 (p1 : Int32) : (w1_2 p1) = 0 ∨ (w1_2 p1) = 1 := by
  unfold w1_2
  split
  · exact (w1_1_01 p1)
  · exact (Or.inr rfl)
def NC (p1 : Int32) : Int32 := (w1_2 p1)
theorem d_prog_87_5_0 : decode prog_87_method_5_code 0 = .ok (.iload_n 0, 1) := by decide +kernel
theorem d_prog_87_5_1 : decode prog_87_method_5_code 1 = .ok (.getstatic 65, 3) := by decide +kernel
theorem d_prog_87_5_4 : decode prog_87_method_5_code 4 = .ok (.invokestatic 69, 3) := by decide +kernel
theorem d_prog_87_5_7 : decode prog_87_method_5_code 7 = .ok (.ifCond .ne 13, 3) := by decide +kernel
theorem d_prog_87_5_10 : decode prog_87_method_5_code 10 = .ok (.iload_n 0, 1) := by decide +kernel
theorem d_prog_87_5_11 : decode prog_87_method_5_code 11 = .ok (.getstatic 73, 3) := by decide +kernel
theorem d_prog_87_5_14 : decode prog_87_method_5_code 14 = .ok (.invokestatic 69, 3) := by decide +kernel
theorem d_prog_87_5_17 : decode prog_87_method_5_code 17 = .ok (.ifCond .eq 7, 3) := by decide +kernel
theorem d_prog_87_5_20 : decode prog_87_method_5_code 20 = .ok (.iconst 1, 1) := by decide +kernel
theorem d_prog_87_5_21 : decode prog_87_method_5_code 21 = .ok (.goto 4, 3) := by decide +kernel
theorem d_prog_87_5_24 : decode prog_87_method_5_code 24 = .ok (.iconst 0, 1) := by decide +kernel
theorem d_prog_87_5_25 : decode prog_87_method_5_code 25 = .ok (.ireturn, 1) := by decide +kernel
theorem pd_1 : parseMethodDescriptor "(I[I)Z" = some ⟨[.int, (.array .int)], some .boolean⟩ := by decide +kernel
theorem ef1 (m : MethodId) (x0 : Int32) : entryFrame m #[(.int x0)] 1 = mkF m 0 #[.val (.int x0)] [] := by first | (simp [entryFrame, mkF, argsToLocals, Value.category]; done) | rfl
set_option maxRecDepth 65536 in
set_option maxHeartbeats 40000000 in
theorem c1 (l : Launch) (Z : State) (a0 : Array Value) (hw : ∀ d ∈ tables_1, d.before a0 Z = true) (p1 : Int32) (aS aO : Addr) (h0 : Heap) (n0 : Nat) (Z0 : n0 ≤ h0.size) (SS : Sta Z h0 "com/example/able_broker/ablebroker/model/XmlNames" "NAME_START_RANGES" "[I" (.ref aS)) (SO : Sta Z h0 "com/example/able_broker/ablebroker/model/XmlNames" "NAME_ONLY_RANGES" "[I" (.ref aO)) (AS : Av Z h0 aS .int (own_ZS.map Value.int)) (AO : Av Z h0 aO .int (own_ZO.map Value.int)) :
    Con l Z (⟨"com/example/able_broker/ablebroker/model/XmlNames", "isNameChar", "(I)Z"⟩ : MethodName) prog_87_method_5_code 1 (some .boolean) ({ frames := 1, cells := 0, slots := 0, locals := 14 } : Room) [] #[(.int p1)] h0 (fun v h L => v = some (.int (NC p1)) ∧ h = h0 ∧ L = []) := by
  refine Con.of (plainFor_of_name pn_com_example_able_broker_ablebroker_model_XmlNames) #[.val (.int p1)] (fun m => ef1 m p1) ?_
  intro p e s m below meth c s₁ K hx hby hml hown hnm hret hlk hZ X0 e0
  have N0 := Fr.nil n0
  refine m_iloadN K X0.here hx hby d_prog_87_5_0 rfl rfl ?_
  refine k_getS K X0 hx hby hZ hown (host := "") (Or.inl (hw _ (List.mem_of_getElem? (i := 4) rfl))) Via.refl e0 SS d_prog_87_5_1 rfl fun T1 X1 e1 => ?_
  refine k_callS K X1 hx hby hZ [(.int p1), (.ref aS)] [] hown (hw _ (List.mem_of_getElem? (i := 6) rfl)) (hw _ (List.mem_of_getElem? (i := 7) rfl)) (hw _ (List.mem_of_getElem? (i := 2) rfl)) (hw _ (List.mem_of_getElem? (i := 8) rfl)) (c2 l Z a0 hw p1 aS own_ZS h0 n0 Z0 AS (by decide) (by decide)) e1 rfl rfl pd_1 rfl d_prog_87_5_4 (by rw [hml]; rfl) rfl (by decide) (by decide) (Nat.le_of_ble_eq_true rfl) (by decide) (by decide) fun v2 T2 L2 X2 q2 => ?_
  obtain ⟨rfl, e2, rfl⟩ := q2
  replace X2 := own_px X2
  refine k_some K (w := (.int (INR p1 own_ZS))) ?_
  obtain ⟨T8, X8, e8, st8⟩ : Mx X2 h0 (mkF m 25 #[.val (.int p1)] [(.int (w1_2 p1))]) (T2.setTop (mkF m 7 #[.val (.int p1)] [(.int (INR p1 own_ZS))])) := by
    refine Mx.with fun K => ?_
    by_cases hc7_3 : (INR p1 own_ZS) = (0 : Int32)
    · refine m_ifN K X2.here hx hby (q := 10) d_prog_87_5_7 ((if0 _ _).trans (teq hc7_3).2) rfl ?_
      refine m_iloadN K X2.here hx hby d_prog_87_5_10 rfl rfl ?_
      refine k_getS K X2 hx hby hZ hown (host := "") (Or.inl (hw _ (List.mem_of_getElem? (i := 9) rfl))) Via.refl e2 SO d_prog_87_5_11 rfl fun T4 X4 e4 => ?_
      refine k_callS K X4 hx hby hZ [(.int p1), (.ref aO)] [] hown (hw _ (List.mem_of_getElem? (i := 6) rfl)) (hw _ (List.mem_of_getElem? (i := 7) rfl)) (hw _ (List.mem_of_getElem? (i := 2) rfl)) (hw _ (List.mem_of_getElem? (i := 8) rfl)) (c2 l Z a0 hw p1 aO own_ZO h0 n0 Z0 AO (by decide) (by decide)) e4 rfl rfl pd_1 rfl d_prog_87_5_14 (by rw [hml]; rfl) rfl (by decide) (by decide) (Nat.le_of_ble_eq_true rfl) (by decide) (by decide) fun v5 T5 L5 X5 q5 => ?_
      obtain ⟨rfl, e5, rfl⟩ := q5
      replace X5 := own_px X5
      refine k_some K (w := (.int (INR p1 own_ZO))) ?_
      obtain ⟨T7, X7, e7, st7⟩ : Mx X5 h0 (mkF m 25 #[.val (.int p1)] [(.int (w1_1 p1))]) (T5.setTop (mkF m 17 #[.val (.int p1)] [(.int (INR p1 own_ZO))])) := by
        refine Mx.with fun K => ?_
        by_cases hc17_6 : (INR p1 own_ZO) = (0 : Int32)
        · refine m_ifY K X5.here hx hby (q := 24) d_prog_87_5_17 ((if0 _ _).trans (teq hc17_6).1) (by decide) rfl ?_
          refine m_iconst K X5.here hx hby (0 : Int32) d_prog_87_5_24 rfl rfl ?_
          rw [show ((w1_1 p1) : Int32) = (0 : Int32) from if_pos hc17_6]
          exact Mx.here X5 e5
        · refine m_ifN K X5.here hx hby (q := 20) d_prog_87_5_17 ((if0 _ _).trans (feq hc17_6).1) rfl ?_
          refine m_iconst K X5.here hx hby (1 : Int32) d_prog_87_5_20 rfl rfl ?_
          refine m_goto K X5.here hx hby (q := 25) d_prog_87_5_21 (by decide) rfl ?_
          rw [show ((w1_1 p1) : Int32) = (1 : Int32) from if_neg hc17_6]
          exact Mx.here X5 e5
      refine k_go K st7 ?_
      rw [show ((w1_2 p1) : Int32) = (w1_1 p1) from if_pos hc7_3]
      exact Mx.here X7 e7
    · refine m_ifY K X2.here hx hby (q := 20) d_prog_87_5_7 ((if0 _ _).trans (feq hc7_3).2) (by decide) rfl ?_
      refine m_iconst K X2.here hx hby (1 : Int32) d_prog_87_5_20 rfl rfl ?_
      refine m_goto K X2.here hx hby (q := 25) d_prog_87_5_21 (by decide) rfl ?_
      rw [show ((w1_2 p1) : Int32) = (1 : Int32) from if_neg hc7_3]
      exact Mx.here X2 e2
  refine k_go K st8 ?_
  exact Go.retN X8 hx hby hlk hret (by simp) d_prog_87_5_25 (by decide) (by decide) (own_nar01 (w1_2_01 p1)) (⟨rfl, e8, rfl⟩)
def w0_1 (p1 : Int32) : Int32 := (if (NC p1) = (REF p1) then (1 : Int32) else (0 : Int32))
theorem w0_1_01 (p1 : Int32) : (w0_1 p1) = 0 ∨ (w0_1 p1) = 1 := by
  unfold w0_1
  split
  · exact (Or.inr rfl)
  · exact (Or.inl rfl)
theorem own_ite1 {P : Prop} [Decidable P] {a b : Int32} : ((if P then a else b) = 1) ↔ ((P ∧ a = 1) ∨ (¬ P ∧ b = 1)) := by
  by_cases h : P <;> simp [h]
theorem own_zo {a : Int32} (h : a = 0 ∨ a = 1) : a = 0 ↔ ¬ a = 1 := by rcases h with rfl | rfl <;> decide
theorem own_bt1 (p lo hi : Int32) : BT p lo hi = 1 ↔ (lo.toInt ≤ p.toInt ∧ p.toInt ≤ hi.toInt) := by
  simp only [BT, w4_2, w4_1, own_ite1, Int32.lt_iff_toInt_lt]
  have z : ¬ (0 : Int32) = 1 := by decide
  simp only [z, and_false, false_or, and_true]
  omega
theorem own_bt0 (p lo hi : Int32) : BT p lo hi = 0 ↔ ¬ (lo.toInt ≤ p.toInt ∧ p.toInt ≤ hi.toInt) := by rw [own_zo (BT_01 p lo hi), own_bt1]
theorem own_inr1 (c lo hh : Int32) (r : List Int32) : INR c (lo :: hh :: r) = 1 ↔ ((lo.toInt ≤ c.toInt ∧ c.toInt ≤ hh.toInt) ∨ INR c r = 1) := by
  rw [INR, own_ite1, own_ite1]
  simp only [Int32.lt_iff_toInt_lt]
  constructor
  · rintro (⟨h, k⟩ | ⟨h, ⟨h2, k⟩ | ⟨h2, -⟩⟩)
    · exact Or.inr k
    · exact Or.inr k
    · exact Or.inl ⟨by omega, by omega⟩
  · rintro (⟨h, k⟩ | h)
    · exact Or.inr ⟨by omega, Or.inr ⟨by omega, trivial⟩⟩
    · by_cases q : c.toInt < lo.toInt
      · exact Or.inl ⟨q, h⟩
      · by_cases q2 : hh.toInt < c.toInt
        · exact Or.inr ⟨q, Or.inl ⟨q2, h⟩⟩
        · exact Or.inr ⟨q, Or.inr ⟨q2, trivial⟩⟩
theorem own_inr0 (c : Int32) : INR c [] = 1 ↔ False := by
  refine ⟨fun h => ?_, False.elim⟩
  rw [INR] at h
  · exact absurd h (by decide)
  · intro _ _ _ h; cases h
theorem own_nc1 (p1 : Int32) : NC p1 = 1 ↔ (INR p1 own_ZS = 1 ∨ INR p1 own_ZO = 1) := by
  have z : ¬ (0 : Int32) = 1 := by decide
  simp only [NC, w1_2, w1_1, own_ite1, own_zo (INR_01 p1 own_ZS), own_zo (INR_01 p1 own_ZO), z, and_false, false_or, and_true, Decidable.not_not]
  by_cases h : INR p1 own_ZS = 1 <;> by_cases k : INR p1 own_ZO = 1 <;> simp [h, k]
theorem own_omega (x : Int) : ((65 ≤ x ∧ x ≤ 90) ∨ (95 ≤ x ∧ x ≤ 95) ∨ (97 ≤ x ∧ x ≤ 122) ∨ (192 ≤ x ∧ x ≤ 214) ∨ (216 ≤ x ∧ x ≤ 246) ∨ (248 ≤ x ∧ x ≤ 767) ∨ (880 ≤ x ∧ x ≤ 893) ∨ (895 ≤ x ∧ x ≤ 8191) ∨ (8204 ≤ x ∧ x ≤ 8205) ∨ (8304 ≤ x ∧ x ≤ 8591) ∨ (11264 ≤ x ∧ x ≤ 12271) ∨ (12289 ≤ x ∧ x ≤ 55295) ∨ (63744 ≤ x ∧ x ≤ 64975) ∨ (65008 ≤ x ∧ x ≤ 65533) ∨ (65536 ≤ x ∧ x ≤ 983039) ∨ (45 ≤ x ∧ x ≤ 46) ∨ (48 ≤ x ∧ x ≤ 57) ∨ x = 183 ∨ (768 ≤ x ∧ x ≤ 879) ∨ (8255 ≤ x ∧ x ≤ 8256)) ↔
  (0 ≤ x ∧ x ≤ 983039 ∧ (65536 ≤ x ∨ (x < 128 ∧ (x = 45 ∨ x = 46 ∨ x = 95 ∨ (48 ≤ x ∧ x ≤ 57) ∨ (65 ≤ x ∧ x ≤ 90) ∨ (97 ≤ x ∧ x ≤ 122))) ∨ (128 ≤ x ∧ x < 192 ∧ x = 183) ∨ (192 ≤ x ∧ x < 8192 ∧ x ≠ 215 ∧ x ≠ 247 ∧ x ≠ 894) ∨ (8192 ≤ x ∧ x < 12288 ∧ ((8204 ≤ x ∧ x ≤ 8205) ∨ (8255 ≤ x ∧ x ≤ 8256) ∨ (8304 ≤ x ∧ x ≤ 8591) ∨ (11264 ≤ x ∧ x ≤ 12271))) ∨ (12288 ≤ x ∧ x < 65536 ∧ ((12289 ≤ x ∧ x ≤ 55295) ∨ (63744 ≤ x ∧ x ≤ 64975) ∨ (65008 ≤ x ∧ x ≤ 65533))))) := by omega
theorem own_nc2 (p1 : Int32) : NC p1 = 1 ↔ ((65 ≤ p1.toInt ∧ p1.toInt ≤ 90) ∨ (95 ≤ p1.toInt ∧ p1.toInt ≤ 95) ∨ (97 ≤ p1.toInt ∧ p1.toInt ≤ 122) ∨ (192 ≤ p1.toInt ∧ p1.toInt ≤ 214) ∨ (216 ≤ p1.toInt ∧ p1.toInt ≤ 246) ∨ (248 ≤ p1.toInt ∧ p1.toInt ≤ 767) ∨ (880 ≤ p1.toInt ∧ p1.toInt ≤ 893) ∨ (895 ≤ p1.toInt ∧ p1.toInt ≤ 8191) ∨ (8204 ≤ p1.toInt ∧ p1.toInt ≤ 8205) ∨ (8304 ≤ p1.toInt ∧ p1.toInt ≤ 8591) ∨ (11264 ≤ p1.toInt ∧ p1.toInt ≤ 12271) ∨ (12289 ≤ p1.toInt ∧ p1.toInt ≤ 55295) ∨ (63744 ≤ p1.toInt ∧ p1.toInt ≤ 64975) ∨ (65008 ≤ p1.toInt ∧ p1.toInt ≤ 65533) ∨ (65536 ≤ p1.toInt ∧ p1.toInt ≤ 983039) ∨ (45 ≤ p1.toInt ∧ p1.toInt ≤ 46) ∨ (48 ≤ p1.toInt ∧ p1.toInt ≤ 57) ∨ p1.toInt = 183 ∨ (768 ≤ p1.toInt ∧ p1.toInt ≤ 879) ∨ (8255 ≤ p1.toInt ∧ p1.toInt ≤ 8256)) := by
  rw [own_nc1, own_ZS, own_ZO]
  simp only [own_inr1, own_inr0, or_false, Int32.reduceToInt]
  have e : (183 ≤ p1.toInt ∧ p1.toInt ≤ 183) ↔ p1.toInt = 183 := by omega
  rw [e]
  simp only [or_assoc]
theorem own_ref2 (p1 : Int32) : REF p1 = 1 ↔ (0 ≤ p1.toInt ∧ p1.toInt ≤ 983039 ∧ (65536 ≤ p1.toInt ∨ (p1.toInt < 128 ∧ (p1.toInt = 45 ∨ p1.toInt = 46 ∨ p1.toInt = 95 ∨ (48 ≤ p1.toInt ∧ p1.toInt ≤ 57) ∨ (65 ≤ p1.toInt ∧ p1.toInt ≤ 90) ∨ (97 ≤ p1.toInt ∧ p1.toInt ≤ 122))) ∨ (128 ≤ p1.toInt ∧ p1.toInt < 192 ∧ p1.toInt = 183) ∨ (192 ≤ p1.toInt ∧ p1.toInt < 8192 ∧ p1.toInt ≠ 215 ∧ p1.toInt ≠ 247 ∧ p1.toInt ≠ 894) ∨ (8192 ≤ p1.toInt ∧ p1.toInt < 12288 ∧ ((8204 ≤ p1.toInt ∧ p1.toInt ≤ 8205) ∨ (8255 ≤ p1.toInt ∧ p1.toInt ≤ 8256) ∨ (8304 ≤ p1.toInt ∧ p1.toInt ≤ 8591) ∨ (11264 ≤ p1.toInt ∧ p1.toInt ≤ 12271))) ∨ (12288 ≤ p1.toInt ∧ p1.toInt < 65536 ∧ ((12289 ≤ p1.toInt ∧ p1.toInt ≤ 55295) ∨ (63744 ≤ p1.toInt ∧ p1.toInt ≤ 64975) ∨ (65008 ≤ p1.toInt ∧ p1.toInt ≤ 65533))))) := by
  have z : ¬ (0 : Int32) = 1 := by decide
  have z6 : w3_6 p1 = 1 ↔ (p1.toInt = 45 ∨ p1.toInt = 46 ∨ p1.toInt = 95 ∨ (48 ≤ p1.toInt ∧ p1.toInt ≤ 57) ∨ (65 ≤ p1.toInt ∧ p1.toInt ≤ 90) ∨ (97 ≤ p1.toInt ∧ p1.toInt ≤ 122)) := by
    simp only [w3_6, w3_5, w3_4, w3_3, w3_2, w3_1, own_ite1, own_bt0, z, and_false, false_or, or_false, and_true, eq_self]
    simp only [← Int32.toInt_inj, Int32.reduceToInt]
    omega
  have z7 : w3_7 p1 = 1 ↔ p1.toInt = 183 := by
    simp only [w3_7, own_ite1, z, and_false, or_false, and_true, eq_self]
    simp only [← Int32.toInt_inj, Int32.reduceToInt]
  have z10 : w3_10 p1 = 1 ↔ (p1.toInt ≠ 215 ∧ p1.toInt ≠ 247 ∧ p1.toInt ≠ 894) := by
    simp only [w3_10, w3_9, w3_8, own_ite1, z, and_false, false_or, or_false, and_true, eq_self]
    simp only [← Int32.toInt_inj, Int32.reduceToInt, ne_eq]
  have z18 : w3_18 p1 = 1 ↔ ((8204 ≤ p1.toInt ∧ p1.toInt ≤ 8205) ∨ (8255 ≤ p1.toInt ∧ p1.toInt ≤ 8256) ∨ (8304 ≤ p1.toInt ∧ p1.toInt ≤ 8591) ∨ (11264 ≤ p1.toInt ∧ p1.toInt ≤ 12271)) := by
    simp only [w3_18, w3_17, w3_16, w3_15, w3_14, w3_13, w3_12, w3_11, own_ite1, own_bt0, z, and_false, false_or, and_true, Int32.reduceToInt]
    omega
  have z24 : w3_24 p1 = 1 ↔ ((12289 ≤ p1.toInt ∧ p1.toInt ≤ 55295) ∨ (63744 ≤ p1.toInt ∧ p1.toInt ≤ 64975) ∨ (65008 ≤ p1.toInt ∧ p1.toInt ≤ 65533)) := by
    simp only [w3_24, w3_23, w3_22, w3_21, w3_20, w3_19, own_ite1, own_bt0, z, and_false, false_or, and_true, Int32.reduceToInt]
    omega
  simp only [REF, own_ite1, z6, z7, z10, z18, z24, z, and_false, false_or, and_true, Int32.lt_iff_toInt_lt, Int32.reduceToInt]
  omega
theorem plain (p1 : Int32) : w0_1 p1 = (1 : Int32) := by
  refine if_pos ?_
  have h : NC p1 = 1 ↔ REF p1 = 1 := by rw [own_nc2, own_ref2]; exact own_omega _
  rcases REF_01 p1 with r | r
  · have n : ¬ NC p1 = 1 := fun q => by rw [h.mp q] at r; exact absurd r (by decide)
    rw [r]
    exact (own_zo (w1_2_01 p1)).mpr n
  · rw [r]; exact h.mpr r
theorem pd_2 : parseMethodDescriptor "(I)Z" = some ⟨[.int], some .boolean⟩ := by decide +kernel
theorem ef0 (m : MethodId) (x0 : Int32) : entryFrame m #[(.int x0)] maxLocals = mkF m 0 #[.val (.int x0)] [] := by first | (simp [entryFrame, mkF, argsToLocals, Value.category, maxLocals]; done) | rfl
set_option maxRecDepth 65536 in
set_option maxHeartbeats 40000000 in
theorem law0 (l : Launch) (Z : State) (a0 : Array Value) (hw : ∀ d ∈ tables_1, d.before a0 Z = true) (ws : List Jvm.Cond) (p1 : Int32) (aS aO : Addr) (h0 : Heap) (n0 : Nat) (Z0 : n0 ≤ h0.size) (SS : Sta Z h0 "com/example/able_broker/ablebroker/model/XmlNames" "NAME_START_RANGES" "[I" (.ref aS)) (SO : Sta Z h0 "com/example/able_broker/ablebroker/model/XmlNames" "NAME_ONLY_RANGES" "[I" (.ref aO)) (AS : Av Z h0 aS .int (own_ZS.map Value.int)) (AO : Av Z h0 aO .int (own_ZO.map Value.int)) :
    Con l Z x code maxLocals ret room_1 ws #[(.int p1)] h0 (fun v h L => v = some (.int 1) ∧ Fr n0 L) := by
  refine Con.of (plainFor_of_name pn_com_example_able_broker_ablebroker_model_XmlNamesIsNameCharPinLaw) #[.val (.int p1)] (fun m => ef0 m p1) ?_
  intro p e s m below meth c s₁ K hx hby hml hown hnm hret hlk hZ X0 e0
  have N0 := Fr.nil n0
  refine m_iloadN K X0.here hx hby at_0 rfl rfl ?_
  refine k_callS K X0 hx hby hZ [(.int p1)] [] hown (hw _ (List.mem_of_getElem? (i := 0) rfl)) (hw _ (List.mem_of_getElem? (i := 1) rfl)) (hw _ (List.mem_of_getElem? (i := 2) rfl)) (hw _ (List.mem_of_getElem? (i := 3) rfl)) (c1 l Z a0 hw p1 aS aO h0 n0 Z0 SS SO AS AO) e0 rfl rfl pd_2 rfl at_1 (by rw [hml]; rfl) rfl (by decide) (by decide) (Nat.le_of_ble_eq_true rfl) (by decide) (by decide) fun v1 T1 L1 X1 q1 => ?_
  obtain ⟨rfl, e1, rfl⟩ := q1
  replace X1 := own_px X1
  refine k_some K (w := (.int (NC p1))) ?_
  refine m_iloadN K X1.here hx hby at_4 rfl rfl ?_
  refine k_callS K X1 hx hby hZ [(.int p1)] [(.int (NC p1))] hown (hw _ (List.mem_of_getElem? (i := 11) rfl)) (hw _ (List.mem_of_getElem? (i := 12) rfl)) (hw _ (List.mem_of_getElem? (i := 13) rfl)) (hw _ (List.mem_of_getElem? (i := 14) rfl)) (c3 l Z a0 hw p1 h0 n0 Z0) e1 rfl rfl pd_2 rfl at_5 (by rw [hml]; rfl) rfl (by decide) (by decide) (Nat.le_of_ble_eq_true rfl) (by decide) (by decide) fun v2 T2 L2 X2 q2 => ?_
  obtain ⟨rfl, e2, rfl⟩ := q2
  replace X2 := own_px X2
  refine k_some K (w := (.int (REF p1))) ?_
  obtain ⟨T4, X4, e4, st4⟩ : Mx X2 h0 (mkF m 16 #[.val (.int p1)] [(.int (w0_1 p1))]) (T2.setTop (mkF m 8 #[.val (.int p1)] [(.int (REF p1)), (.int (NC p1))])) := by
    refine Mx.with fun K => ?_
    by_cases hc8_3 : (NC p1) = (REF p1)
    · refine m_icmpN K X2.here hx hby (q := 11) at_8 (teq hc8_3).2 rfl ?_
      refine m_iconst K X2.here hx hby (1 : Int32) at_11 rfl rfl ?_
      refine m_goto K X2.here hx hby (q := 16) at_12 (by decide) rfl ?_
      rw [show ((w0_1 p1) : Int32) = (1 : Int32) from if_pos hc8_3]
      exact Mx.here X2 e2
    · refine m_icmpY K X2.here hx hby (q := 15) at_8 (feq hc8_3).2 (by decide) rfl ?_
      refine m_iconst K X2.here hx hby (0 : Int32) at_15 rfl rfl ?_
      rw [show ((w0_1 p1) : Int32) = (0 : Int32) from if_neg hc8_3]
      exact Mx.here X2 e2
  refine k_go K st4 ?_
  rw [plain p1]
  exact Go.retN X4 hx hby hlk hret (by simp) at_16 (by decide) (by decide) (by decide) (⟨rfl, N0⟩)
theorem own_eqi {t : Term} {k : Int32} {args : Array Value} {first s : State} {o : Option Outcome} {idx : List Nat} (h : (Jvm.Cond.eq t (Term.int k)).value args first o s idx = some true) : t.eval args first o idx s = some (.int k) := by
  obtain ⟨x, y, h1, h2, k1, k2⟩ := cmp_v (Or.inl h)
  rw [Term.int_eval] at h2
  cases h2
  obtain ⟨z, rfl⟩ := k2
  have e : (Jvm.Cond.eq t (Term.int k)).value args first o s idx = some (decide (z = k)) := by simp [Jvm.Cond.value, h1, Term.int_eval]
  rw [h1, gotT e h]
theorem own_lenv {t : Term} {n : Int32} {x : Addr} {cl : Cell} {args : Array Value} {first s : State} {o : Option Outcome} {idx : List Nat} (h : (Term.length t).eval args first o idx s = some (.int n)) (ht : t.eval args first o idx s = some (.ref x)) (ha : s.arrayAt? x = some cl) : cl.slots.size < 2147483648 ∧ cl.slots.size.toInt32 = n := by
  simp only [Term.eval, ht, Option.bind_eq_bind, Option.bind_some, ha] at h
  by_cases hn : cl.slots.size < 2147483648
  · rw [if_pos hn] at h; cases h; exact ⟨hn, rfl⟩
  · rw [if_neg hn] at h; cases h
theorem own_full {cl : Cell} {vs : List Value} (hs : cl.slots.size = vs.length) (H : HasL cl 0 vs) : cl.slots = vs.toArray := by
  refine Array.ext_getElem? fun i => ?_
  by_cases q : i < vs.length
  · have := HasL.at (dv := .null) vs 0 H i q
    rw [Nat.zero_add] at this
    rw [this]; simp [q]
  · rw [Array.getElem?_eq_none (by omega), List.getElem?_toArray, List.getElem?_eq_none (by omega)]
set_option maxRecDepth 65536 in
theorem own_pre {s : State} {args : Array Value} (hw : ∀ d ∈ tables_1, d.before args s = true) (hn : narrow_1.value args s none s [] = some true) : ∃ aS aO : Addr, Sta s s.heap "com/example/able_broker/ablebroker/model/XmlNames" "NAME_START_RANGES" "[I" (.ref aS) ∧ Sta s s.heap "com/example/able_broker/ablebroker/model/XmlNames" "NAME_ONLY_RANGES" "[I" (.ref aO) ∧ Av s s.heap aS .int (own_ZS.map Value.int) ∧ Av s s.heap aO .int (own_ZO.map Value.int) := by
  obtain ⟨n0, hn⟩ := and_e hn
  obtain ⟨n1, hn⟩ := and_e hn
  obtain ⟨n2, hn⟩ := and_e hn
  obtain ⟨n3, hn⟩ := and_e hn
  obtain ⟨n4, hn⟩ := and_e hn
  obtain ⟨n5, hn⟩ := and_e hn
  obtain ⟨n6, hn⟩ := and_e hn
  obtain ⟨n7, hn⟩ := and_e hn
  obtain ⟨n8, hn⟩ := and_e hn
  obtain ⟨n9, hn⟩ := and_e hn
  obtain ⟨n10, hn⟩ := and_e hn
  obtain ⟨n11, hn⟩ := and_e hn
  obtain ⟨n12, hn⟩ := and_e hn
  obtain ⟨n13, hn⟩ := and_e hn
  obtain ⟨n14, hn⟩ := and_e hn
  obtain ⟨n15, hn⟩ := and_e hn
  obtain ⟨n16, hn⟩ := and_e hn
  obtain ⟨n17, hn⟩ := and_e hn
  obtain ⟨n18, hn⟩ := and_e hn
  obtain ⟨n19, hn⟩ := and_e hn
  obtain ⟨n20, hn⟩ := and_e hn
  obtain ⟨n21, hn⟩ := and_e hn
  obtain ⟨n22, hn⟩ := and_e hn
  obtain ⟨n23, hn⟩ := and_e hn
  obtain ⟨n24, hn⟩ := and_e hn
  obtain ⟨n25, hn⟩ := and_e hn
  obtain ⟨n26, hn⟩ := and_e hn
  obtain ⟨n27, hn⟩ := and_e hn
  obtain ⟨n28, hn⟩ := and_e hn
  obtain ⟨n29, hn⟩ := and_e hn
  obtain ⟨n30, hn⟩ := and_e hn
  obtain ⟨n31, hn⟩ := and_e hn
  obtain ⟨n32, hn⟩ := and_e hn
  obtain ⟨n33, hn⟩ := and_e hn
  obtain ⟨n34, hn⟩ := and_e hn
  obtain ⟨n35, hn⟩ := and_e hn
  obtain ⟨n36, hn⟩ := and_e hn
  obtain ⟨n37, hn⟩ := and_e hn
  obtain ⟨n38, hn⟩ := and_e hn
  obtain ⟨n39, hn⟩ := and_e hn
  obtain ⟨n40, hn⟩ := and_e hn
  obtain ⟨n41, hn⟩ := and_e hn
  obtain ⟨n42, hn⟩ := and_e hn
  obtain ⟨aS, tS⟩ := arr_v n0
  obtain ⟨clS, ArS⟩ := Arr.start tS n0
  have SS := Sta.start tS (Or.inr ⟨(hw _ (List.mem_of_getElem? (i := 2) rfl)), (hw _ (List.mem_of_getElem? (i := 5) rfl))⟩)
  obtain ⟨lS, zS⟩ := own_lenv (own_eqi n1) tS (ArS.fin (Jvm.Vm.Alike.refl _))
  have yS : clS.slots.size = 30 := by have := congrArg Int32.toInt zS; rw [len_toInt lS] at this; have e : (30 : Int32).toInt = 30 := rfl; omega
  have eS0 := (elem_in (own_eqi n4) tS (Term.int_eval _) ArS.1).2
  have eS1 := (elem_in (own_eqi n5) tS (Term.int_eval _) ArS.1).2
  have eS2 := (elem_in (own_eqi n6) tS (Term.int_eval _) ArS.1).2
  have eS3 := (elem_in (own_eqi n7) tS (Term.int_eval _) ArS.1).2
  have eS4 := (elem_in (own_eqi n8) tS (Term.int_eval _) ArS.1).2
  have eS5 := (elem_in (own_eqi n9) tS (Term.int_eval _) ArS.1).2
  have eS6 := (elem_in (own_eqi n10) tS (Term.int_eval _) ArS.1).2
  have eS7 := (elem_in (own_eqi n11) tS (Term.int_eval _) ArS.1).2
  have eS8 := (elem_in (own_eqi n12) tS (Term.int_eval _) ArS.1).2
  have eS9 := (elem_in (own_eqi n13) tS (Term.int_eval _) ArS.1).2
  have eS10 := (elem_in (own_eqi n14) tS (Term.int_eval _) ArS.1).2
  have eS11 := (elem_in (own_eqi n15) tS (Term.int_eval _) ArS.1).2
  have eS12 := (elem_in (own_eqi n16) tS (Term.int_eval _) ArS.1).2
  have eS13 := (elem_in (own_eqi n17) tS (Term.int_eval _) ArS.1).2
  have eS14 := (elem_in (own_eqi n18) tS (Term.int_eval _) ArS.1).2
  have eS15 := (elem_in (own_eqi n19) tS (Term.int_eval _) ArS.1).2
  have eS16 := (elem_in (own_eqi n20) tS (Term.int_eval _) ArS.1).2
  have eS17 := (elem_in (own_eqi n21) tS (Term.int_eval _) ArS.1).2
  have eS18 := (elem_in (own_eqi n22) tS (Term.int_eval _) ArS.1).2
  have eS19 := (elem_in (own_eqi n23) tS (Term.int_eval _) ArS.1).2
  have eS20 := (elem_in (own_eqi n24) tS (Term.int_eval _) ArS.1).2
  have eS21 := (elem_in (own_eqi n25) tS (Term.int_eval _) ArS.1).2
  have eS22 := (elem_in (own_eqi n26) tS (Term.int_eval _) ArS.1).2
  have eS23 := (elem_in (own_eqi n27) tS (Term.int_eval _) ArS.1).2
  have eS24 := (elem_in (own_eqi n28) tS (Term.int_eval _) ArS.1).2
  have eS25 := (elem_in (own_eqi n29) tS (Term.int_eval _) ArS.1).2
  have eS26 := (elem_in (own_eqi n30) tS (Term.int_eval _) ArS.1).2
  have eS27 := (elem_in (own_eqi n31) tS (Term.int_eval _) ArS.1).2
  have eS28 := (elem_in (own_eqi n32) tS (Term.int_eval _) ArS.1).2
  have eS29 := (elem_in (own_eqi n33) tS (Term.int_eval _) ArS.1).2
  have HS : HasL clS 0 (own_ZS.map Value.int) := ⟨eS0, eS1, eS2, eS3, eS4, eS5, eS6, eS7, eS8, eS9, eS10, eS11, eS12, eS13, eS14, eS15, eS16, eS17, eS18, eS19, eS20, eS21, eS22, eS23, eS24, eS25, eS26, eS27, eS28, eS29, trivial⟩
  obtain ⟨aO, tO⟩ := arr_v n2
  obtain ⟨clO, ArO⟩ := Arr.start tO n2
  have SO := Sta.start tO (Or.inr ⟨(hw _ (List.mem_of_getElem? (i := 2) rfl)), (hw _ (List.mem_of_getElem? (i := 10) rfl))⟩)
  obtain ⟨lO, zO⟩ := own_lenv (own_eqi n3) tO (ArO.fin (Jvm.Vm.Alike.refl _))
  have yO : clO.slots.size = 10 := by have := congrArg Int32.toInt zO; rw [len_toInt lO] at this; have e : (10 : Int32).toInt = 10 := rfl; omega
  have eO0 := (elem_in (own_eqi n34) tO (Term.int_eval _) ArO.1).2
  have eO1 := (elem_in (own_eqi n35) tO (Term.int_eval _) ArO.1).2
  have eO2 := (elem_in (own_eqi n36) tO (Term.int_eval _) ArO.1).2
  have eO3 := (elem_in (own_eqi n37) tO (Term.int_eval _) ArO.1).2
  have eO4 := (elem_in (own_eqi n38) tO (Term.int_eval _) ArO.1).2
  have eO5 := (elem_in (own_eqi n39) tO (Term.int_eval _) ArO.1).2
  have eO6 := (elem_in (own_eqi n40) tO (Term.int_eval _) ArO.1).2
  have eO7 := (elem_in (own_eqi n41) tO (Term.int_eval _) ArO.1).2
  have eO8 := (elem_in (own_eqi n42) tO (Term.int_eval _) ArO.1).2
  have eO9 := (elem_in (own_eqi hn) tO (Term.int_eval _) ArO.1).2
  have HO : HasL clO 0 (own_ZO.map Value.int) := ⟨eO0, eO1, eO2, eO3, eO4, eO5, eO6, eO7, eO8, eO9, trivial⟩
  exact ⟨aS, aO, SS, SO, ⟨clS, ArS, own_full yS HS⟩, ⟨clO, ArO, own_full yO HO⟩⟩
set_option maxRecDepth 65536 in
set_option maxHeartbeats 40000000 in
theorem comes_1 {Post : Tables → Env → Array Value → State → Outcome → State → Prop} (hpost : ∀ tb e args s v u, (limb_1_1.after args s (.returned v) u = true ∧ limb_1_2.after args s (.returned v) u = true ∧ True) → FrameEnd s (.returned v) u (Jvm.fieldLocs frame_1_writes args s ++ Jvm.arrayLocs frame_1_arrays args s ++ Jvm.staticLocs frame_1_statics s) 0 0 → Post tb e args s (.returned v) u) :
    ArmFor flags0 classFile x code maxLocals ret World_1 tables_1 room_1 Calls_1 rest_1 Pre_1 Post := by
  intro l hfl _ _ p e ha hc hk s m args below hf hA hF happ hP
  obtain ⟨hcalls, hrest, hpre⟩ := hP
  obtain ⟨-, -, -, hnamed, -, -, -, hat⟩ := (Spec.applies_iff hf).mp happ
  obtain ⟨hg, hn⟩ := and_e (Cond.before_iff.mp (show (Jvm.Cond.and given_1 narrow_1).before args s = true from hpre))
  obtain ⟨g1, g2⟩ := and_e hg
  obtain ⟨w0, rfl⟩ : ∃ w0 : Value, args = #[w0] := by
    have hs : args.size = 1 := by simpa [Cond.value, given_1] using g1
    obtain ⟨L⟩ := args
    match L, hs with
    | [w0], _ => exact ⟨w0, rfl⟩
  obtain ⟨i0, z0⟩ := is_v g2
  obtain rfl : w0 = (.int i0) := Option.some.inj z0
  have hw := fun d (hd : d ∈ tables_1) => atoms_spec (ws := Jvm.Cond.code x code maxLocals ret :: tables_1) hat d (List.mem_cons_of_mem _ hd)
  have hfit : Fit s := fun {y c} hc i hi => by
    obtain ⟨ha, rfl⟩ := Array.getElem?_eq_some_iff.mp hc
    have q := List.all_eq_true.mp ((Array.all_eq_true_iff_forall_mem.mp hF) _ (Array.getElem_mem ha)) i (List.mem_range.mpr hi)
    simpa [Array.getElem?_eq_getElem hi] using q
  obtain ⟨aS, aO, SS, SO, AS, AO⟩ := own_pre hw hn
  obtain ⟨n, o, h1, h2, h3, _, L, rfl, ⟨rfl, N⟩, hq⟩ := law0 l s _ hw tables_1 i0 aS aO s.heap s.heap.size (Nat.le_refl _) SS SO AS AO p e ha hc hk s m _ below hf ((Spec.applies_iff_loose hf).mp happ).1 ⟨rfl, State.Warmed39.refl s, rfl⟩ trivial
  refine ⟨n, _, h1, h2, h3, hpost _ _ _ _ _ _ ⟨Cond.after_iff.mpr rfl, Cond.after_iff.mpr (eq_i res_at (Term.int_eval (1)) rfl), trivial⟩ ⟨hq.1, hq.2.1, (hq.2.2.sift fun y hy => Or.inr (N y hy)).mono (by decide) (by decide)⟩⟩
theorem main_1_1 : Claimed_1_1 := comes_1 fun _ _ _ _ _ _ h hF => ⟨h.1, hF⟩
theorem main_1_2 : Claimed_1_2 := comes_1 fun _ _ _ _ _ _ h hF => ⟨h.2.1, hF⟩
end Jvm.Pilot.@@N@@
namespace Jvm.Pilot.@@N@@
open Jvm Jvm.ClassFile Sem Op Lib Jvm.Free Jvm.Stand Jvm.Pilot.@@N@@.Jvm.D
/-! MADE BY PROGRAM (witnessworld.py) out of the Statement's table words and the real class files: 9 classes; the members and pool entries that the words name. The judged class is class 1, her method 1. -/
namespace start1
open Jvm.ClassFile
def u (s : String) : CpInfo := .utf8 (stringToUtf16 s)
/-- a pool by its gaps: so many unusable entries, then the entry; so many at the end -/
def gap : Nat → List CpInfo → List CpInfo
  | 0, r => r
  | n + 1, r => .unusable :: gap n r
def poolList (es : List (Nat × CpInfo)) (last : Nat) : List CpInfo := es.foldr (fun e r => gap e.1 (e.2 :: r)) (gap last [])
def pool (es : List (Nat × CpInfo)) (last : Nat) : Array CpInfo := ⟨poolList es last⟩
def fileOf (pool : Array CpInfo) (this : Nat) (attrs : Array Attribute := #[]) (ms : Array MethodInfo := #[]) (fl : Nat := 33) (sup : Nat := 0) (ifs : Array Nat := #[]) (fds : Array FieldInfo := #[]) : ClassFile where
  minorVersion := 0
  majorVersion := 65
  constantPool := pool
  accessFlags := fl
  thisClass := this
  superClass := sup
  interfaces := ifs
  fields := fds
  methods := ms
  attributes := attrs
def plain (name : String) (sup : Option ClassId) : Class where
  name := name
  kind := .ordinary
  loader := none
  accessFlags := 33
  super := sup
  interfaces := #[]
  cf := none
  fields := #[]
  methods := #[]
  instanceTypes := #[]
  staticTypes := #[]
  resolved := #[]
  callSites := []
  init := .initialized
  statics := none
  mirror := none

def pool0 : Array CpInfo := pool [(5, u "<init>"), (0, u "()V"), (1, .class_ 10), (1, u "java/lang/Object")] 113

def k0m0 : Method := { name := "<init>", desc := "()V", sig := { parameters := [], returnType := none }, accessFlags := 1, code := none }
/-- java/lang/Object -/
def k0 : Class := { plain "java/lang/Object" none with
  accessFlags := 33
  interfaces := #[]
  cf := some (fileOf pool0 8 #[] #[{ accessFlags := 1, nameIndex := 5, descriptorIndex := 6, attributes := #[] }] 33 0 #[] #[])
  fields := #[]
  methods := #[k0m0]
  instanceTypes := #[]
  staticTypes := #[]
  resolved := Array.replicate 124 none
  statics := none }

def pool1 : Array CpInfo := pool [(2, .class_ 4), (1, u "java/lang/Object"), (0, u "<init>"), (0, u "()V"), (0, .methodref 8 9), (0, .class_ 10), (0, .nameAndType 11 12), (0, u "com/example/able_broker/ablebroker/model/XmlNames"), (0, u "isNameChar"), (0, u "(I)Z"), (0, .methodref 14 15), (0, .class_ 16), (0, .nameAndType 17 12), (0, u "com/example/able_broker/ablebroker/model/XmlNamesIsNameCharPinLaw"), (0, u "reference"), (0, .integer 983039), (0, .integer 65536), (0, .methodref 14 21), (0, .nameAndType 22 23), (0, u "between"), (0, u "(III)Z"), (0, .integer 55295), (0, .integer 63744), (0, .integer 64975), (0, .integer 65008), (0, .integer 65533), (2, u "law")] 3

def k1m0 : Method := { name := "<init>", desc := "()V", sig := { parameters := [], returnType := none }, accessFlags := 2, code := none }
def k1c1 : Code := { maxStack := 2, maxLocals := 1, code := code, exceptionTable := #[], attributes := #[] }
def k1m1 : Method := { name := "law", desc := "(I)Z", sig := { parameters := [.int], returnType := some .boolean }, accessFlags := 9, code := some k1c1 }
def k1c2 : Code := { maxStack := 2, maxLocals := 3, code := method_3_code, exceptionTable := #[], attributes := #[] }
def k1m2 : Method := { name := "between", desc := "(III)Z", sig := { parameters := [.int, .int, .int], returnType := some .boolean }, accessFlags := 10, code := some k1c2 }
def k1c3 : Code := { maxStack := 3, maxLocals := 1, code := method_4_code, exceptionTable := #[], attributes := #[] }
def k1m3 : Method := { name := "reference", desc := "(I)Z", sig := { parameters := [.int], returnType := some .boolean }, accessFlags := 10, code := some k1c3 }
/-- com/example/able_broker/ablebroker/model/XmlNamesIsNameCharPinLaw -/
def k1 : Class := { plain "com/example/able_broker/ablebroker/model/XmlNamesIsNameCharPinLaw" (some 0) with
  accessFlags := 49
  interfaces := #[]
  cf := some (fileOf pool1 14 #[] #[{ accessFlags := 2, nameIndex := 5, descriptorIndex := 6, attributes := #[] }, { accessFlags := 9, nameIndex := 31, descriptorIndex := 12, attributes := #[] }, { accessFlags := 10, nameIndex := 22, descriptorIndex := 23, attributes := #[] }, { accessFlags := 10, nameIndex := 17, descriptorIndex := 12, attributes := #[] }] 49 2 #[] #[])
  fields := #[]
  methods := #[k1m0, k1m1, k1m2, k1m3]
  instanceTypes := #[]
  staticTypes := #[]
  resolved := Array.replicate 35 none
  statics := none }

def pool2 : Array CpInfo := pool [(2, .class_ 4), (1, u "java/lang/Object"), (0, u "<init>"), (0, u "()V"), (11, .class_ 20), (1, u "com/example/able_broker/ablebroker/model/XmlNames"), (1, u "(I)Z"), (42, .fieldref 18 66), (0, .nameAndType 67 68), (0, u "NAME_START_RANGES"), (0, u "[I"), (0, .methodref 18 70), (0, .nameAndType 71 72), (0, u "inRanges"), (0, u "(I[I)Z"), (0, .fieldref 18 74), (0, .nameAndType 75 68), (0, u "NAME_ONLY_RANGES"), (30, u "isNameChar")] 30

def k2m0 : Method := { name := "<init>", desc := "()V", sig := { parameters := [], returnType := none }, accessFlags := 2, code := none }
def k2c1 : Code := { maxStack := 2, maxLocals := 1, code := prog_87_method_5_code, exceptionTable := #[], attributes := #[] }
def k2m1 : Method := { name := "isNameChar", desc := "(I)Z", sig := { parameters := [.int], returnType := some .boolean }, accessFlags := 8, code := some k2c1 }
def k2c2 : Code := { maxStack := 4, maxLocals := 3, code := prog_87_method_8_code, exceptionTable := #[], attributes := #[] }
def k2m2 : Method := { name := "inRanges", desc := "(I[I)Z", sig := { parameters := [.int, (.array .int)], returnType := some .boolean }, accessFlags := 10, code := some k2c2 }
/-- com/example/able_broker/ablebroker/model/XmlNames -/
def k2 : Class := { plain "com/example/able_broker/ablebroker/model/XmlNames" (some 0) with
  accessFlags := 48
  interfaces := #[]
  cf := some (fileOf pool2 18 #[] #[{ accessFlags := 2, nameIndex := 5, descriptorIndex := 6, attributes := #[] }, { accessFlags := 8, nameIndex := 106, descriptorIndex := 22, attributes := #[] }, { accessFlags := 10, nameIndex := 71, descriptorIndex := 72, attributes := #[] }] 48 2 #[] #[{ accessFlags := 26, nameIndex := 67, descriptorIndex := 68, attributes := #[] }, { accessFlags := 26, nameIndex := 75, descriptorIndex := 68, attributes := #[] }])
  fields := #[{ name := "NAME_START_RANGES", type := (.array .int), accessFlags := 26, slot := 0, constantValue := 0 }, { name := "NAME_ONLY_RANGES", type := (.array .int), accessFlags := 26, slot := 1, constantValue := 0 }]
  methods := #[k2m0, k2m1, k2m2]
  instanceTypes := #[]
  staticTypes := #[(.array .int), (.array .int)]
  resolved := Array.replicate 137 none
  statics := some 0 }

def pool3 : Array CpInfo := pool [(1, u "java/lang/Cloneable"), (0, .class_ 1), (0, u "java/lang/Object"), (0, .class_ 3)] 3

/-- java/lang/Cloneable -/
def k3 : Class := { plain "java/lang/Cloneable" (some 0) with
  accessFlags := 1537
  interfaces := #[]
  cf := some (fileOf pool3 2 #[] #[] 1537 4 #[] #[])
  fields := #[]
  methods := #[]
  instanceTypes := #[]
  staticTypes := #[]
  resolved := Array.replicate 8 none
  statics := none }

def pool4 : Array CpInfo := pool [(1, u "java/io/Serializable"), (0, .class_ 1), (0, u "java/lang/Object"), (0, .class_ 3)] 3

/-- java/io/Serializable -/
def k4 : Class := { plain "java/io/Serializable" (some 0) with
  accessFlags := 1537
  interfaces := #[]
  cf := some (fileOf pool4 2 #[] #[] 1537 4 #[] #[])
  fields := #[]
  methods := #[]
  instanceTypes := #[]
  staticTypes := #[]
  resolved := Array.replicate 8 none
  statics := none }

/-- the primitive byte -/
def k5 : Class := { plain "byte" none with kind := .primitive 'B', accessFlags := 0x411 }
/-- [B -/
def k6 : Class := { plain "[B" (some 0) with kind := .array 5 .byte, interfaces := #[3, 4], accessFlags := 1041 }

/-- the primitive int -/
def k7 : Class := { plain "int" none with kind := .primitive 'I', accessFlags := 0x411 }
/-- [I -/
def k8 : Class := { plain "[I" (some 0) with kind := .array 7 .int, interfaces := #[3, 4], accessFlags := 1041 }

def heap : Heap := #[{ cls := 2, slots := #[.ref 1, .ref 2], vm := .statics 2 },
  { cls := 8, slots := #[.int 65, .int 90, .int 95, .int 95, .int 97, .int 122, .int 192, .int 214, .int 216, .int 246, .int 248, .int 767, .int 880, .int 893, .int 895, .int 8191, .int 8204, .int 8205, .int 8304, .int 8591, .int 11264, .int 12271, .int 12289, .int 55295, .int 63744, .int 64975, .int 65008, .int 65533, .int 65536, .int 983039], vm := .none },
  { cls := 8, slots := #[.int 45, .int 46, .int 48, .int 57, .int 183, .int 183, .int 768, .int 879, .int 8255, .int 8256], vm := .none }]
def classes : Array Class := #[k0, k1, k2, k3, k4, k5, k6, k7, k8]
def interned : List (Array UInt16 × Addr) := []
def slotsUsed : Nat := 42
def theMethod : MethodId := ⟨1, 1⟩
def args0 : Array Value := #[.int 70]
def aboutOver (below : List Frame) : State where
  vm := { classes := classes, interned := interned.toArray }
  heap := heap
  slotsUsed := slotsUsed
  threads := #[{ frames := .invoking theMethod args0 :: below }]
def below0 : List Frame := [.native { method := ⟨0, 0⟩, args := #[] }]
def about1 : State := aboutOver below0
def p0 : Program := .bare "" "" ""
def e0 : Env := launch0.env 0 0 0
theorem w_frames : about1.frames = Frame.invoking theMethod args0 :: below0 := rfl
set_option maxRecDepth 65536 in
theorem w_args : argsFit about1.vm theMethod args0 = true := by decide +kernel
set_option maxRecDepth 65536 in
theorem w_heap : heapFits about1 = true := by decide +kernel
set_option maxRecDepth 65536 in
theorem w_runnable : about1.curStatus? = some .runnable := by decide +kernel
set_option maxRecDepth 65536 in
theorem w_alone : about1.alone = true := by decide +kernel
set_option maxRecDepth 65536 in
theorem w_named : about1.methodNamed? x = some theMethod := by decide +kernel
set_option maxRecDepth 65536 in
theorem w_hears : about1.hears theMethod below0 = true := by decide +kernel
set_option maxRecDepth 65536 in
theorem w_ripe : about1.ripe theMethod args0 below0 = true := by decide +kernel
theorem w_running : about1.status = .running := rfl
set_option maxRecDepth 65536 in
theorem w_room : about1.hasRoom e0.platform room_1 = true :=
  launch0.hasRoom_least _ room_1 (by decide +kernel) (by decide +kernel) (by decide +kernel) (by decide +kernel) (by decide +kernel) (by decide +kernel)
theorem allAtoms_all (ts : List Jvm.Cond) (a : Array Jvm.Value) (st : Jvm.State) : (allAtoms ts).before a st = ts.all (fun c => c.before a st) := by
  induction ts with
  | nil => rfl
  | cons c t ih =>
    show (Jvm.Cond.and c (allAtoms t)).before a st = _
    rw [Jvm.Cond.before_and, ih, List.all_cons]
def words1 : List Jvm.Cond := Jvm.Cond.code x code maxLocals ret :: tables_1
/-- a 'code' word, met by the world's own term for the bytes: nothing is compared byte by byte -/
theorem code_word {y : MethodName} {bytes : ByteArray} {mx : Nat} {rt : Option FieldType} {a : Array Value} {s : State} {m : MethodId} {meth : Method} {c : Code} (h1 : s.methodNamed? y = some m) (h2 : s.vm.method? m = some meth) (h3 : meth.code = some c) (h4 : c.code = bytes)
    (h5 : (c.maxLocals == mx && c.exceptionTable.isEmpty && decide (c.maxStack ≤ mostOperands) && decide (meth.sig.returnType = rt) && !meth.locks && decide (parseMethodDescriptor y.desc = some meth.sig)) = true) : (Jvm.Cond.code y bytes mx rt).before a s = true := by
  simp only [Bool.and_eq_true, beq_iff_eq, Bool.not_eq_true', decide_eq_true_eq] at h5
  obtain ⟨⟨⟨⟨⟨g1, g2⟩, g3⟩, g4⟩, g5⟩, g6⟩ := h5
  simp [Cond.before, Cond.holds, Cond.value, h1, h2, h3, h4, g1, g2, g3, g4, g5, g6]
def isCode : Jvm.Cond → Bool
  | .code _ _ _ _ => true
  | _ => false
theorem all_split {L : List Jvm.Cond} {P : Jvm.Cond → Bool} (h1 : L.all (fun c => isCode c || P c) = true) (h2 : ∀ c ∈ L.filter isCode, P c = true) : L.all P = true := by
  refine List.all_eq_true.mpr fun c hc => ?_
  have h := List.all_eq_true.mp h1 c hc
  rcases Bool.eq_false_or_eq_true (isCode c) with hi | hi
  · exact h2 c (List.mem_filter.mpr ⟨hc, hi⟩)
  · simpa [hi] using h
set_option maxRecDepth 65536 in
theorem w_c0 : (Jvm.Cond.code x code maxLocals ret).before args0 about1 = true := code_word (m := ⟨1, 1⟩) (meth := k1m1) (c := k1c1) (by decide +kernel) rfl rfl rfl (by decide +kernel)
set_option maxRecDepth 65536 in
theorem w_c1 : (Jvm.Cond.code ({ cls := "com/example/able_broker/ablebroker/model/XmlNames", name := "isNameChar", desc := "(I)Z" } : Jvm.MethodName) prog_87_method_5_code (1 : Nat) (Option.some Jvm.ClassFile.FieldType.boolean)).before args0 about1 = true := code_word (m := ⟨2, 1⟩) (meth := k2m1) (c := k2c1) (by decide +kernel) rfl rfl rfl (by decide +kernel)
set_option maxRecDepth 65536 in
theorem w_c2 : (Jvm.Cond.code ({ cls := "com/example/able_broker/ablebroker/model/XmlNames", name := "inRanges", desc := "(I[I)Z" } : Jvm.MethodName) prog_87_method_8_code (3 : Nat) (Option.some Jvm.ClassFile.FieldType.boolean)).before args0 about1 = true := code_word (m := ⟨2, 2⟩) (meth := k2m2) (c := k2c2) (by decide +kernel) rfl rfl rfl (by decide +kernel)
set_option maxRecDepth 65536 in
theorem w_c3 : (Jvm.Cond.code ({ cls := "com/example/able_broker/ablebroker/model/XmlNamesIsNameCharPinLaw", name := "reference", desc := "(I)Z" } : Jvm.MethodName) method_4_code (1 : Nat) (Option.some Jvm.ClassFile.FieldType.boolean)).before args0 about1 = true := code_word (m := ⟨1, 3⟩) (meth := k1m3) (c := k1c3) (by decide +kernel) rfl rfl rfl (by decide +kernel)
set_option maxRecDepth 65536 in
theorem w_c4 : (Jvm.Cond.code ({ cls := "com/example/able_broker/ablebroker/model/XmlNamesIsNameCharPinLaw", name := "between", desc := "(III)Z" } : Jvm.MethodName) method_3_code (3 : Nat) (Option.some Jvm.ClassFile.FieldType.boolean)).before args0 about1 = true := code_word (m := ⟨1, 2⟩) (meth := k1m2) (c := k1c2) (by decide +kernel) rfl rfl rfl (by decide +kernel)
def codes1 : List Jvm.Cond := [Jvm.Cond.code x code maxLocals ret, Jvm.Cond.code ({ cls := "com/example/able_broker/ablebroker/model/XmlNames", name := "isNameChar", desc := "(I)Z" } : Jvm.MethodName) prog_87_method_5_code (1 : Nat) (Option.some Jvm.ClassFile.FieldType.boolean), Jvm.Cond.code ({ cls := "com/example/able_broker/ablebroker/model/XmlNames", name := "inRanges", desc := "(I[I)Z" } : Jvm.MethodName) prog_87_method_8_code (3 : Nat) (Option.some Jvm.ClassFile.FieldType.boolean), Jvm.Cond.code ({ cls := "com/example/able_broker/ablebroker/model/XmlNamesIsNameCharPinLaw", name := "reference", desc := "(I)Z" } : Jvm.MethodName) method_4_code (1 : Nat) (Option.some Jvm.ClassFile.FieldType.boolean), Jvm.Cond.code ({ cls := "com/example/able_broker/ablebroker/model/XmlNamesIsNameCharPinLaw", name := "between", desc := "(III)Z" } : Jvm.MethodName) method_3_code (3 : Nat) (Option.some Jvm.ClassFile.FieldType.boolean)]
set_option maxRecDepth 65536 in
theorem codes_eq : words1.filter isCode = codes1 := rfl
theorem w_codes : ∀ c ∈ words1.filter isCode, c.before args0 about1 = true := by
  rw [codes_eq]
  intro c hc
  simp only [codes1, List.mem_cons, List.not_mem_nil, or_false] at hc
  rcases hc with rfl | rfl | rfl | rfl | rfl
  · exact w_c0
  · exact w_c1
  · exact w_c2
  · exact w_c3
  · exact w_c4
set_option maxRecDepth 65536 in
theorem w_t1 : (words1.take 24).all (fun c => isCode c || c.before args0 about1) = true := by decide +kernel
set_option maxRecDepth 65536 in
theorem w_t2 : (words1.drop 24).all (fun c => isCode c || c.before args0 about1) = true := by decide +kernel
theorem w_tables : (allAtoms (Jvm.Cond.code x code maxLocals ret :: tables_1)).before args0 about1 = true := by
  rw [allAtoms_all]
  show words1.all (fun c => c.before args0 about1) = true
  refine all_split ?_ w_codes
  rw [← List.take_append_drop 24 words1, List.all_append, w_t1, w_t2]
  rfl
set_option maxRecDepth 65536 in
theorem w_case : (Jvm.Cond.and given_1 narrow_1).before args0 about1 = true := by decide +kernel
theorem w_applies : (headSpec (Jvm.Cond.code x code maxLocals ret :: tables_1) room_1).applies x e0.platform about1 = true :=
  (Spec.applies_iff w_frames).mpr ⟨w_running, w_runnable, w_alone, w_named, w_hears, w_ripe, w_room, w_tables⟩
theorem atStart : AtStart classFile x code maxLocals ret World_1 tables_1 room_1 Calls_1 rest_1 Pre_1 launch0 p0 e0 about1 theMethod args0 below0 :=
  ⟨lists_1, trivial, launch0.admits_env _ _ _, launch0.least_env, fairChoices_fair.cas, fairChoices_fair.clock, w_frames, w_args, w_heap, w_applies, trivial, trivial, w_case⟩
end start1
theorem witness_1 : WitnessClaimed_1 := ⟨start1.p0, start1.e0, start1.about1, start1.theMethod, start1.args0, start1.below0, start1.atStart⟩
end Jvm.Pilot.@@N@@
