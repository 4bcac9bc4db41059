import JvmDerived
import JvmDerived.Pilot.@@N@@Statement
import JvmDerived.Pilot.@@N@@Code
set_option linter.unusedVariables false
set_option linter.unusedSimpArgs false
namespace Jvm.RoadKit
open Sem ClassFile Op Lib Jvm.Stand Jvm.Free Jvm.LawKit
section New
variable {p : Program} {l : Launch} {e : Env} {R : Room} {s : State} {m : MethodId} {args : Array Value} {below : List Frame} {meth : Method} {c : Code} {T : State} {locs : List Loc} {cells slots : Nat}
theorem retI (X : Stand p l e R s m args below meth c T locs cells slots) (hx : p.tables.exec = Jvm.exec) {pc : Nat} {Ls : Array Slot} {z : Int32} {rest : List Value} (hret : meth.sig.returnType = some .int) (hd : decode c.code pc = .ok (.ireturn, 1)) {fs : List Frame}
    (hl : ∀ (f : JFrame) (acts : List Action), f.method = m → f.locked = none → f.entered = [] → (doReturn e (T.setTop f) acts (some (.int z))).1 = T.setFrames fs) : Steps p.tables e below (T.setTop (mkF m pc Ls (.int z :: rest))) (T.setFrames fs) := by
  have hm' : T.vm.method? m = some meth := X.method'
  have hn : narrow .int (.int z) = .int z := rfl
  show Steps p.tables e below (T.setTop { method := m, pc := pc, locals := Ls, stack := _ :: rest, locked := none }) _
  jvm_step X.here [X.here.top, hx, hd, hm', hret, hn]
  first | (intro acts; rw [hl _ acts rfl rfl rfl]) | rw [hl _ _ rfl rfl rfl]
  exact Steps.refl _
end New
end Jvm.RoadKit
namespace Jvm.Pilot.@@N@@
open Jvm Jvm.ClassFile Sem Op Lib Jvm.Free Jvm.Stand Jvm.LawKit Jvm.RoadKit Bundle Jvm.Pilot.@@N@@.Jvm.D
/-! own: the rest of a run, told backwards; the contract of a body; steps and calls -/
section OwnBase
variable {p : Program} {l : Launch} {e : Env} {R : Room} {s : State} {m : MethodId} {args : Array Value} {below : List Frame} {meth : Method} {c : Code} {T : State} {locs : List Loc} {cells slots : Nat} {Z : State} {a0 : Array Value} {h : Heap} {bs : ByteArray} {pc q : Nat} {Ls : Array Slot} {S : List Value} {G : State → Prop}
abbrev PQ := Option Value → Heap → List Loc → Prop
def Cl (p : Program) (e : Env) (below : List Frame) (G : State → Prop) : Prop := ∀ (A B : State), (∀ t, Steps p.tables e below B t → Steps p.tables e below A t) → G B → G A
def Go (p : Program) (e : Env) (below : List Frame) (s : State) (C N : Nat) (Q : PQ) (A : State) : Prop :=
  ∃ s₂ o, Steps p.tables e below A s₂ ∧ s₂.status = .running ∧ Ended s₂ below o ∧ ∃ v L, o = .returned v ∧ Q v s₂.heap L ∧ FrameEnd s o s₂ L C N
theorem Go.cl {C N : Nat} {Q : PQ} : Cl p e below (Go p e below s C N Q) := fun A B k ⟨s2, o, h1, r⟩ => ⟨s2, o, k _ h1, r⟩
theorem Go.with {C N : Nat} {Q : PQ} {A : State} (k : Cl p e below (Go p e below s C N Q) → Go p e below s C N Q A) : Go p e below s C N Q A := k Go.cl
theorem Go.leave (X : Stand p l e R s m args below meth c T locs cells slots) {v : Option Value} (hv : meth.sig.returnType = none → v = none) (hlk : meth.locks = false) {C N : Nat} {Q : PQ} (hc : cells ≤ C) (hn : slots ≤ N) (q : Q v T.heap locs) {A : State}
    (k : ∀ fs, (∀ (f : JFrame) (acts : List Action), f.method = m → f.locked = none → f.entered = [] → (doReturn e (T.setTop f) acts v).1 = T.setFrames fs) → Steps p.tables e below A (T.setFrames fs)) : Go p e below s C N Q A := by
  obtain ⟨fs, hr, hrun, hended, hW, hsame⟩ := X.leave hv hlk
  exact ⟨_, _, k fs hr, hrun, hended, _, _, rfl, q, ⟨_, rfl⟩, hW, hsame.mono hc hn⟩
theorem Go.retI (X : Stand p l e R s m args below meth c T locs cells slots) (hx : p.tables.exec = Jvm.exec) (hby : c.code = bs) (hlk : meth.locks = false) {z : Int32} (hret : meth.sig.returnType = some .int) (hd : decode bs pc = .ok (.ireturn, 1)) {C N : Nat} {Q : PQ} (hc : cells ≤ C) (hn : slots ≤ N) (q : Q (some (.int z)) T.heap locs) :
    Go p e below s C N Q (T.setTop (mkF m pc Ls (.int z :: S))) :=
  Go.leave X (fun h => by rw [hret] at h; cases h) hlk hc hn q fun _ hr => Jvm.RoadKit.retI X hx hret (hb hby hd) hr
theorem Go.retN (X : Stand p l e R s m args below meth c T locs cells slots) (hx : p.tables.exec = Jvm.exec) (hby : c.code = bs) (hlk : meth.locks = false) {z : Int32} {t : FieldType} (hret : meth.sig.returnType = some t) (ht : t = .boolean ∨ t = .byte ∨ t = .char ∨ t = .short) (hd : decode bs pc = .ok (.ireturn, 1)) {C N : Nat} {Q : PQ} (hc : cells ≤ C) (hn : slots ≤ N) (hz : nar t z = z) (q : Q (some (.int z)) T.heap locs) :
    Go p e below s C N Q (T.setTop (mkF m pc Ls (.int z :: S))) :=
  Go.leave X (fun h => by rw [hret] at h; cases h) hlk hc hn q fun _ hr => Jvm.RoadKit.retN X hx hret ht (hb hby hd) (by rw [hz]; exact hr)
theorem Go.retV (X : Stand p l e R s m args below meth c T locs cells slots) (hx : p.tables.exec = Jvm.exec) (hby : c.code = bs) (hlk : meth.locks = false) (hret : meth.sig.returnType = none) (hd : decode bs pc = .ok (.return_, 1)) {C N : Nat} {Q : PQ} (hc : cells ≤ C) (hn : slots ≤ N) (q : Q none T.heap locs) :
    Go p e below s C N Q (T.setTop (mkF m pc Ls [])) :=
  Go.leave X (fun _ => rfl) hlk hc hn q fun _ hr => X.returnOut hx hret (hb hby hd) hr
theorem Go.retO (X : Stand p l e R s m args below meth c T locs cells slots) (hx : p.tables.exec = Jvm.exec) (hby : c.code = bs) (hlk : meth.locks = false) {w : Value} {t : FieldType} {i : Instr} (hret : meth.sig.returnType = some t) (hnw : narrow t w = w)
    (hi : (i = .ireturn ∧ (t = .int ∨ t = .boolean ∨ t = .byte ∨ t = .char ∨ t = .short) ∧ ∃ z, w = .int z) ∨ (i = .lreturn ∧ t = .long ∧ ∃ z, w = .long z) ∨ (i = .dreturn ∧ t = .double ∧ ∃ z, w = .double z) ∨ (i = .freturn ∧ t = .float ∧ ∃ z, w = .float z) ∨ (i = .areturn ∧ t.isReference = true ∧ w.isRef = true))
    (hd : decode bs pc = .ok (i, 1)) {C N : Nat} {Q : PQ} (hc : cells ≤ C) (hn : slots ≤ N) (q : Q (some w) T.heap locs) :
    Go p e below s C N Q (T.setTop (mkF m pc Ls (w :: S))) :=
  Go.leave X (fun h => by rw [hret] at h; cases h) hlk hc hn q fun _ hr => Jvm.RoadKit.retOut X hx hret hnw hi (hb hby hd) hr
/-- two roads meet: at a state like X's, at the heap h, with the frame g' -/
def Mx (X : Stand p l e R s m args below meth c T locs cells slots) (h : Heap) (g' : JFrame) (A : State) : Prop := ∃ T', Stand p l e R s m args below meth c T' locs cells slots ∧ T'.heap = h ∧ ∀ t, Steps p.tables e below (T'.setTop g') t → Steps p.tables e below A t
theorem Mx.cl {X : Stand p l e R s m args below meth c T locs cells slots} {g' : JFrame} : Cl p e below (Mx X h g') := fun A B k ⟨T', X', e', st⟩ => ⟨T', X', e', fun t r => k _ (st t r)⟩
theorem Mx.with {X : Stand p l e R s m args below meth c T locs cells slots} {g' : JFrame} {A : State} (k : Cl p e below (Mx X h g') → Mx X h g' A) : Mx X h g' A := k Mx.cl
theorem Mx.here {X : Stand p l e R s m args below meth c T locs cells slots} {g' : JFrame} {T' : State} (X' : Stand p l e R s m args below meth c T' locs cells slots) (e' : T'.heap = h) : Mx X h g' (T'.setTop g') := ⟨T', X', e', fun _ k => k⟩
theorem own_nar01 {z : Int32} (h : z = 0 ∨ z = 1) : nar .boolean z = z := by rcases h with rfl | rfl <;> rfl
theorem own_px (X : Stand p l e R s m args below meth c T (locs ++ []) (cells + 0) (slots + 0)) : Stand p l e R s m args below meth c T locs cells slots := by rw [List.append_nil] at X; exact X
theorem k_go (K : Cl p e below G) {A B : State} (st : ∀ t, Steps p.tables e below B t → Steps p.tables e below A t) (hr : G B) : G A := K A B st hr
theorem k_some (K : Cl p e below G) {w : Value} (hr : G (T.setTop (mkF m q Ls (w :: S)))) : G (T.setTop (mkF m q Ls ((some w).toList ++ S))) := hr
theorem k_none (K : Cl p e below G) (hr : G (T.setTop (mkF m q Ls S))) : G (T.setTop (mkF m q Ls ((none : Option Value).toList ++ S))) := hr
theorem own_irem (x y : Int32) : x - (x / y) * y = x % y := by
  apply Int32.toInt_inj.mp
  have h1 := Int32.le_toInt (x % y)
  have h2 := Int32.toInt_lt (x % y)
  rw [Int32.toInt_sub, Int32.toInt_mul, Int32.toInt_div, Int.bmod_mul_bmod, Int.sub_bmod_bmod, Int.mul_comm (x.toInt.tdiv y.toInt), ← Int.tmod_def, ← Int32.toInt_mod]
  exact Int.bmod_eq_of_le_mul_two (by omega) (by omega)
theorem m_iload (K : Cl p e below G) (h : At T m c below) (hx : p.tables.exec = Jvm.exec) (hby : c.code = bs) {k : Nat} {v : Int32} (hd : decode bs pc = .ok (.iload k, 2)) (hl : Ls[k]? = some (.val (.int v))) (hq : pc + 2 = q) (hr : G (T.setTop (mkF m q Ls (.int v :: S)))) : G (T.setTop (mkF m pc Ls S)) := by subst hq; exact K _ _ (fun t k => Jvm.Free.XS.iload h hx rfl (hb hby hd) hl k) hr
theorem m_iloadN (K : Cl p e below G) (h : At T m c below) (hx : p.tables.exec = Jvm.exec) (hby : c.code = bs) {k : Fin 4} {v : Int32} (hd : decode bs pc = .ok (.iload_n k, 1)) (hl : Ls[k.val]? = some (.val (.int v))) (hq : pc + 1 = q) (hr : G (T.setTop (mkF m q Ls (.int v :: S)))) : G (T.setTop (mkF m pc Ls S)) := by subst hq; exact K _ _ (fun t k => Jvm.Free.XS.iloadN h hx rfl (hb hby hd) hl k) hr
theorem m_istore (K : Cl p e below G) (h : At T m c below) (hx : p.tables.exec = Jvm.exec) (hby : c.code = bs) {k : Nat} {v : Int32} (l' : Array Slot) (hd : decode bs pc = .ok (.istore k, 2)) (hl : storeLocals Ls k (.int v) = some l') (hq : pc + 2 = q) (hr : G (T.setTop (mkF m q l' S))) : G (T.setTop (mkF m pc Ls (.int v :: S))) := by subst hq; exact K _ _ (fun t k => Jvm.Free.XS.istore h hx rfl (hb hby hd) rfl hl k) hr
theorem m_istoreN (K : Cl p e below G) (h : At T m c below) (hx : p.tables.exec = Jvm.exec) (hby : c.code = bs) {k : Fin 4} {v : Int32} (l' : Array Slot) (hd : decode bs pc = .ok (.istore_n k, 1)) (hl : storeLocals Ls k.val (.int v) = some l') (hq : pc + 1 = q) (hr : G (T.setTop (mkF m q l' S))) : G (T.setTop (mkF m pc Ls (.int v :: S))) := by subst hq; exact K _ _ (fun t k => Jvm.Free.XS.istoreN h hx rfl (hb hby hd) rfl hl k) hr
theorem m_lload (K : Cl p e below G) (h : At T m c below) (hx : p.tables.exec = Jvm.exec) (hby : c.code = bs) {k : Nat} {v : Int64} (hd : decode bs pc = .ok (.lload k, 2)) (hl : Ls[k]? = some (.val (.long v))) (hq : pc + 2 = q) (hr : G (T.setTop (mkF m q Ls (.long v :: S)))) : G (T.setTop (mkF m pc Ls S)) := by subst hq; exact K _ _ (fun t k => Jvm.Free.XS.lload h hx rfl (hb hby hd) hl k) hr
theorem m_lloadN (K : Cl p e below G) (h : At T m c below) (hx : p.tables.exec = Jvm.exec) (hby : c.code = bs) {k : Fin 4} {v : Int64} (hd : decode bs pc = .ok (.lload_n k, 1)) (hl : Ls[k.val]? = some (.val (.long v))) (hq : pc + 1 = q) (hr : G (T.setTop (mkF m q Ls (.long v :: S)))) : G (T.setTop (mkF m pc Ls S)) := by subst hq; exact K _ _ (fun t k => Jvm.Free.XS.lloadN h hx rfl (hb hby hd) hl k) hr
theorem m_lstore (K : Cl p e below G) (h : At T m c below) (hx : p.tables.exec = Jvm.exec) (hby : c.code = bs) {k : Nat} {v : Int64} (l' : Array Slot) (hd : decode bs pc = .ok (.lstore k, 2)) (hl : storeLocals Ls k (.long v) = some l') (hq : pc + 2 = q) (hr : G (T.setTop (mkF m q l' S))) : G (T.setTop (mkF m pc Ls (.long v :: S))) := by subst hq; exact K _ _ (fun t k => Jvm.Free.XS.lstore h hx rfl (hb hby hd) rfl hl k) hr
theorem m_lstoreN (K : Cl p e below G) (h : At T m c below) (hx : p.tables.exec = Jvm.exec) (hby : c.code = bs) {k : Fin 4} {v : Int64} (l' : Array Slot) (hd : decode bs pc = .ok (.lstore_n k, 1)) (hl : storeLocals Ls k.val (.long v) = some l') (hq : pc + 1 = q) (hr : G (T.setTop (mkF m q l' S))) : G (T.setTop (mkF m pc Ls (.long v :: S))) := by subst hq; exact K _ _ (fun t k => Jvm.Free.XS.lstoreN h hx rfl (hb hby hd) rfl hl k) hr
theorem m_dload (K : Cl p e below G) (h : At T m c below) (hx : p.tables.exec = Jvm.exec) (hby : c.code = bs) {k : Nat} {v : UInt64} (hd : decode bs pc = .ok (.dload k, 2)) (hl : Ls[k]? = some (.val (.double v))) (hq : pc + 2 = q) (hr : G (T.setTop (mkF m q Ls (.double v :: S)))) : G (T.setTop (mkF m pc Ls S)) := by subst hq; exact K _ _ (fun t k => Jvm.Free.XS.dload h hx rfl (hb hby hd) hl k) hr
theorem m_dloadN (K : Cl p e below G) (h : At T m c below) (hx : p.tables.exec = Jvm.exec) (hby : c.code = bs) {k : Fin 4} {v : UInt64} (hd : decode bs pc = .ok (.dload_n k, 1)) (hl : Ls[k.val]? = some (.val (.double v))) (hq : pc + 1 = q) (hr : G (T.setTop (mkF m q Ls (.double v :: S)))) : G (T.setTop (mkF m pc Ls S)) := by subst hq; exact K _ _ (fun t k => Jvm.Free.XS.dloadN h hx rfl (hb hby hd) hl k) hr
theorem m_dstore (K : Cl p e below G) (h : At T m c below) (hx : p.tables.exec = Jvm.exec) (hby : c.code = bs) {k : Nat} {v : UInt64} (l' : Array Slot) (hd : decode bs pc = .ok (.dstore k, 2)) (hl : storeLocals Ls k (.double v) = some l') (hq : pc + 2 = q) (hr : G (T.setTop (mkF m q l' S))) : G (T.setTop (mkF m pc Ls (.double v :: S))) := by subst hq; exact K _ _ (fun t k => Jvm.Free.XS.dstore h hx rfl (hb hby hd) rfl hl k) hr
theorem m_dstoreN (K : Cl p e below G) (h : At T m c below) (hx : p.tables.exec = Jvm.exec) (hby : c.code = bs) {k : Fin 4} {v : UInt64} (l' : Array Slot) (hd : decode bs pc = .ok (.dstore_n k, 1)) (hl : storeLocals Ls k.val (.double v) = some l') (hq : pc + 1 = q) (hr : G (T.setTop (mkF m q l' S))) : G (T.setTop (mkF m pc Ls (.double v :: S))) := by subst hq; exact K _ _ (fun t k => Jvm.Free.XS.dstoreN h hx rfl (hb hby hd) rfl hl k) hr
theorem m_aload (K : Cl p e below G) (h : At T m c below) (hx : p.tables.exec = Jvm.exec) (hby : c.code = bs) {k : Nat} {v : Value} (hd : decode bs pc = .ok (.aload k, 2)) (hl : Ls[k]? = some (.val v)) (hv : v.isRef = true) (hq : pc + 2 = q) (hr : G (T.setTop (mkF m q Ls (v :: S)))) : G (T.setTop (mkF m pc Ls S)) := by subst hq; exact K _ _ (fun t k => Jvm.Free.XS.aload h hx rfl (hb hby hd) hl hv k) hr
theorem m_aloadN (K : Cl p e below G) (h : At T m c below) (hx : p.tables.exec = Jvm.exec) (hby : c.code = bs) {k : Fin 4} {v : Value} (hd : decode bs pc = .ok (.aload_n k, 1)) (hl : Ls[k.val]? = some (.val v)) (hv : v.isRef = true) (hq : pc + 1 = q) (hr : G (T.setTop (mkF m q Ls (v :: S)))) : G (T.setTop (mkF m pc Ls S)) := by subst hq; exact K _ _ (fun t k => Jvm.Free.XS.aloadN h hx rfl (hb hby hd) hl hv k) hr
theorem m_astore (K : Cl p e below G) (h : At T m c below) (hx : p.tables.exec = Jvm.exec) (hby : c.code = bs) {k : Nat} {v : Value} (l' : Array Slot) (hd : decode bs pc = .ok (.astore k, 2)) (hv : v.isRef = true) (hl : storeLocals Ls k v = some l') (hq : pc + 2 = q) (hr : G (T.setTop (mkF m q l' S))) : G (T.setTop (mkF m pc Ls (v :: S))) := by subst hq; exact K _ _ (fun t k => Jvm.Free.XS.astore h hx rfl (hb hby hd) rfl hv hl k) hr
theorem m_astoreN (K : Cl p e below G) (h : At T m c below) (hx : p.tables.exec = Jvm.exec) (hby : c.code = bs) {k : Fin 4} {v : Value} (l' : Array Slot) (hd : decode bs pc = .ok (.astore_n k, 1)) (hv : v.isRef = true) (hl : storeLocals Ls k.val v = some l') (hq : pc + 1 = q) (hr : G (T.setTop (mkF m q l' S))) : G (T.setTop (mkF m pc Ls (v :: S))) := by subst hq; exact K _ _ (fun t k => Jvm.Free.XS.astoreN h hx rfl (hb hby hd) rfl hv hl k) hr
theorem m_iconst (K : Cl p e below G) (h : At T m c below) (hx : p.tables.exec = Jvm.exec) (hby : c.code = bs) {i : Int} (z : Int32) (hd : decode bs pc = .ok (.iconst i, 1)) (hz : Int32.ofInt i = z) (hq : pc + 1 = q) (hr : G (T.setTop (mkF m q Ls (.int z :: S)))) : G (T.setTop (mkF m pc Ls S)) := by subst hq; subst hz; exact K _ _ (fun t k => Jvm.Free.XS.iconst h hx rfl (hb hby hd) k) hr
theorem m_bipush (K : Cl p e below G) (h : At T m c below) (hx : p.tables.exec = Jvm.exec) (hby : c.code = bs) {i : Int} (z : Int32) (hd : decode bs pc = .ok (.bipush i, 2)) (hz : (Int8.ofInt i).toInt32 = z) (hq : pc + 2 = q) (hr : G (T.setTop (mkF m q Ls (.int z :: S)))) : G (T.setTop (mkF m pc Ls S)) := by subst hq; subst hz; exact K _ _ (fun t k => Jvm.Free.XS.bipush h hx rfl (hb hby hd) k) hr
theorem m_sipush (K : Cl p e below G) (h : At T m c below) (hx : p.tables.exec = Jvm.exec) (hby : c.code = bs) {i : Int} (z : Int32) (hd : decode bs pc = .ok (.sipush i, 3)) (hz : (Int16.ofInt i).toInt32 = z) (hq : pc + 3 = q) (hr : G (T.setTop (mkF m q Ls (.int z :: S)))) : G (T.setTop (mkF m pc Ls S)) := by subst hq; subst hz; exact K _ _ (fun t k => Jvm.Free.XS.sipush h hx rfl (hb hby hd) k) hr
theorem m_lconst (K : Cl p e below G) (h : At T m c below) (hx : p.tables.exec = Jvm.exec) (hby : c.code = bs) {k : Fin 2} (z : Int64) (hd : decode bs pc = .ok (.lconst k, 1)) (hz : Int64.ofNat k.val = z) (hq : pc + 1 = q) (hr : G (T.setTop (mkF m q Ls (.long z :: S)))) : G (T.setTop (mkF m pc Ls S)) := by subst hq; subst hz; exact K _ _ (fun t k => Jvm.Free.XS.lconst h hx rfl (hb hby hd) k) hr
theorem m_null (K : Cl p e below G) (h : At T m c below) (hx : p.tables.exec = Jvm.exec) (hby : c.code = bs)  (hd : decode bs pc = .ok (.aconst_null, 1)) (hq : pc + 1 = q) (hr : G (T.setTop (mkF m q Ls (.null :: S)))) : G (T.setTop (mkF m pc Ls S)) := by subst hq; exact K _ _ (fun t k => Jvm.Free.XS.aconstNull h hx rfl (hb hby hd) k) hr
theorem m_iadd (K : Cl p e below G) (h : At T m c below) (hx : p.tables.exec = Jvm.exec) (hby : c.code = bs) {x y : Int32} (z : Int32) (hd : decode bs pc = .ok (.iadd, 1)) (hz : x + y = z) (hq : pc + 1 = q) (hr : G (T.setTop (mkF m q Ls (.int z :: S)))) : G (T.setTop (mkF m pc Ls (.int y :: .int x :: S))) := by subst hq; subst hz; exact K _ _ (fun t k => Jvm.Free.XS.iadd h hx rfl (hb hby hd) rfl k) hr
theorem m_isub (K : Cl p e below G) (h : At T m c below) (hx : p.tables.exec = Jvm.exec) (hby : c.code = bs) {x y : Int32} (z : Int32) (hd : decode bs pc = .ok (.isub, 1)) (hz : x - y = z) (hq : pc + 1 = q) (hr : G (T.setTop (mkF m q Ls (.int z :: S)))) : G (T.setTop (mkF m pc Ls (.int y :: .int x :: S))) := by subst hq; subst hz; exact K _ _ (fun t k => Jvm.Free.XS.isub h hx rfl (hb hby hd) rfl k) hr
theorem m_imul (K : Cl p e below G) (h : At T m c below) (hx : p.tables.exec = Jvm.exec) (hby : c.code = bs) {x y : Int32} (z : Int32) (hd : decode bs pc = .ok (.imul, 1)) (hz : x * y = z) (hq : pc + 1 = q) (hr : G (T.setTop (mkF m q Ls (.int z :: S)))) : G (T.setTop (mkF m pc Ls (.int y :: .int x :: S))) := by subst hq; subst hz; exact K _ _ (fun t k => Jvm.Free.XS.imul h hx rfl (hb hby hd) rfl k) hr
theorem m_iand (K : Cl p e below G) (h : At T m c below) (hx : p.tables.exec = Jvm.exec) (hby : c.code = bs) {x y : Int32} (z : Int32) (hd : decode bs pc = .ok (.iand, 1)) (hz : x &&& y = z) (hq : pc + 1 = q) (hr : G (T.setTop (mkF m q Ls (.int z :: S)))) : G (T.setTop (mkF m pc Ls (.int y :: .int x :: S))) := by subst hq; subst hz; exact K _ _ (fun t k => Jvm.Free.XS.iand h hx rfl (hb hby hd) rfl k) hr
theorem m_ior (K : Cl p e below G) (h : At T m c below) (hx : p.tables.exec = Jvm.exec) (hby : c.code = bs) {x y : Int32} (z : Int32) (hd : decode bs pc = .ok (.ior, 1)) (hz : x ||| y = z) (hq : pc + 1 = q) (hr : G (T.setTop (mkF m q Ls (.int z :: S)))) : G (T.setTop (mkF m pc Ls (.int y :: .int x :: S))) := by subst hq; subst hz; exact K _ _ (fun t k => Jvm.Free.XS.ior h hx rfl (hb hby hd) rfl k) hr
theorem m_ixor (K : Cl p e below G) (h : At T m c below) (hx : p.tables.exec = Jvm.exec) (hby : c.code = bs) {x y : Int32} (z : Int32) (hd : decode bs pc = .ok (.ixor, 1)) (hz : x ^^^ y = z) (hq : pc + 1 = q) (hr : G (T.setTop (mkF m q Ls (.int z :: S)))) : G (T.setTop (mkF m pc Ls (.int y :: .int x :: S))) := by subst hq; subst hz; exact K _ _ (fun t k => Jvm.Free.XS.ixor h hx rfl (hb hby hd) rfl k) hr
theorem m_idiv (K : Cl p e below G) (h : At T m c below) (hx : p.tables.exec = Jvm.exec) (hby : c.code = bs) {x y : Int32} (z : Int32) (hd : decode bs pc = .ok (.idiv, 1)) (hy : y ≠ 0) (hz : x / y = z) (hq : pc + 1 = q) (hr : G (T.setTop (mkF m q Ls (.int z :: S)))) : G (T.setTop (mkF m pc Ls (.int y :: .int x :: S))) := by subst hq; subst hz; exact K _ _ (fun t k => Jvm.Free.XS.idiv h hx rfl (hb hby hd) rfl hy k) hr
theorem m_ladd (K : Cl p e below G) (h : At T m c below) (hx : p.tables.exec = Jvm.exec) (hby : c.code = bs) {x y : Int64} (z : Int64) (hd : decode bs pc = .ok (.ladd, 1)) (hz : x + y = z) (hq : pc + 1 = q) (hr : G (T.setTop (mkF m q Ls (.long z :: S)))) : G (T.setTop (mkF m pc Ls (.long y :: .long x :: S))) := by subst hq; subst hz; exact K _ _ (fun t k => Jvm.Free.XS.ladd h hx rfl (hb hby hd) rfl k) hr
theorem m_lsub (K : Cl p e below G) (h : At T m c below) (hx : p.tables.exec = Jvm.exec) (hby : c.code = bs) {x y : Int64} (z : Int64) (hd : decode bs pc = .ok (.lsub, 1)) (hz : x - y = z) (hq : pc + 1 = q) (hr : G (T.setTop (mkF m q Ls (.long z :: S)))) : G (T.setTop (mkF m pc Ls (.long y :: .long x :: S))) := by subst hq; subst hz; exact K _ _ (fun t k => Jvm.Free.XS.lsub h hx rfl (hb hby hd) rfl k) hr
theorem m_lmul (K : Cl p e below G) (h : At T m c below) (hx : p.tables.exec = Jvm.exec) (hby : c.code = bs) {x y : Int64} (z : Int64) (hd : decode bs pc = .ok (.lmul, 1)) (hz : x * y = z) (hq : pc + 1 = q) (hr : G (T.setTop (mkF m q Ls (.long z :: S)))) : G (T.setTop (mkF m pc Ls (.long y :: .long x :: S))) := by subst hq; subst hz; exact K _ _ (fun t k => Jvm.Free.XS.lmul h hx rfl (hb hby hd) rfl k) hr
theorem m_land (K : Cl p e below G) (h : At T m c below) (hx : p.tables.exec = Jvm.exec) (hby : c.code = bs) {x y : Int64} (z : Int64) (hd : decode bs pc = .ok (.land, 1)) (hz : x &&& y = z) (hq : pc + 1 = q) (hr : G (T.setTop (mkF m q Ls (.long z :: S)))) : G (T.setTop (mkF m pc Ls (.long y :: .long x :: S))) := by subst hq; subst hz; exact K _ _ (fun t k => Jvm.Free.XS.land h hx rfl (hb hby hd) rfl k) hr
theorem m_lor (K : Cl p e below G) (h : At T m c below) (hx : p.tables.exec = Jvm.exec) (hby : c.code = bs) {x y : Int64} (z : Int64) (hd : decode bs pc = .ok (.lor, 1)) (hz : x ||| y = z) (hq : pc + 1 = q) (hr : G (T.setTop (mkF m q Ls (.long z :: S)))) : G (T.setTop (mkF m pc Ls (.long y :: .long x :: S))) := by subst hq; subst hz; exact K _ _ (fun t k => Jvm.Free.XS.lor h hx rfl (hb hby hd) rfl k) hr
theorem m_lxor (K : Cl p e below G) (h : At T m c below) (hx : p.tables.exec = Jvm.exec) (hby : c.code = bs) {x y : Int64} (z : Int64) (hd : decode bs pc = .ok (.lxor, 1)) (hz : x ^^^ y = z) (hq : pc + 1 = q) (hr : G (T.setTop (mkF m q Ls (.long z :: S)))) : G (T.setTop (mkF m pc Ls (.long y :: .long x :: S))) := by subst hq; subst hz; exact K _ _ (fun t k => Jvm.Free.XS.lxor h hx rfl (hb hby hd) rfl k) hr
theorem m_ldiv (K : Cl p e below G) (h : At T m c below) (hx : p.tables.exec = Jvm.exec) (hby : c.code = bs) {x y : Int64} (z : Int64) (hd : decode bs pc = .ok (.ldiv, 1)) (hy : y ≠ 0) (hz : x / y = z) (hq : pc + 1 = q) (hr : G (T.setTop (mkF m q Ls (.long z :: S)))) : G (T.setTop (mkF m pc Ls (.long y :: .long x :: S))) := by subst hq; subst hz; exact K _ _ (fun t k => Jvm.Free.XS.ldiv h hx rfl (hb hby hd) rfl hy k) hr
theorem m_irem (K : Cl p e below G) (h : At T m c below) (hx : p.tables.exec = Jvm.exec) (hby : c.code = bs) {x y : Int32} (z : Int32) (hd : decode bs pc = .ok (.irem, 1)) (hy : y ≠ 0) (hz : x % y = z) (hq : pc + 1 = q) (hr : G (T.setTop (mkF m q Ls (.int z :: S)))) : G (T.setTop (mkF m pc Ls (.int y :: .int x :: S))) := by subst hq; subst hz; rw [← own_irem] at hr; exact K _ _ (fun t k => Jvm.Free.XS.irem h hx rfl (hb hby hd) rfl hy k) hr
theorem m_lrem (K : Cl p e below G) (h : At T m c below) (hx : p.tables.exec = Jvm.exec) (hby : c.code = bs) {x y : Int64} (z : Int64) (hd : decode bs pc = .ok (.lrem, 1)) (hy : y ≠ 0) (hz : x - (x / y) * y = z) (hq : pc + 1 = q) (hr : G (T.setTop (mkF m q Ls (.long z :: S)))) : G (T.setTop (mkF m pc Ls (.long y :: .long x :: S))) := by subst hq; subst hz; exact K _ _ (fun t k => Jvm.Free.XS.lrem h hx rfl (hb hby hd) rfl hy k) hr
theorem m_ishl (K : Cl p e below G) (h : At T m c below) (hx : p.tables.exec = Jvm.exec) (hby : c.code = bs) {x : Int32} {y : Int32} (z : Int32) (hd : decode bs pc = .ok (.ishl, 1)) (hz : x <<< (y &&& 31) = z) (hq : pc + 1 = q) (hr : G (T.setTop (mkF m q Ls (.int z :: S)))) : G (T.setTop (mkF m pc Ls (.int y :: .int x :: S))) := by subst hq; subst hz; exact K _ _ (fun t k => Jvm.Free.XS.ishl h hx rfl (hb hby hd) rfl k) hr
theorem m_ishr (K : Cl p e below G) (h : At T m c below) (hx : p.tables.exec = Jvm.exec) (hby : c.code = bs) {x : Int32} {y : Int32} (z : Int32) (hd : decode bs pc = .ok (.ishr, 1)) (hz : x >>> (y &&& 31) = z) (hq : pc + 1 = q) (hr : G (T.setTop (mkF m q Ls (.int z :: S)))) : G (T.setTop (mkF m pc Ls (.int y :: .int x :: S))) := by subst hq; subst hz; exact K _ _ (fun t k => Jvm.Free.XS.ishr h hx rfl (hb hby hd) rfl k) hr
theorem m_iushr (K : Cl p e below G) (h : At T m c below) (hx : p.tables.exec = Jvm.exec) (hby : c.code = bs) {x : Int32} {y : Int32} (z : Int32) (hd : decode bs pc = .ok (.iushr, 1)) (hz : (x.toUInt32 >>> (y &&& 31).toUInt32).toInt32 = z) (hq : pc + 1 = q) (hr : G (T.setTop (mkF m q Ls (.int z :: S)))) : G (T.setTop (mkF m pc Ls (.int y :: .int x :: S))) := by subst hq; subst hz; exact K _ _ (fun t k => Jvm.Free.XS.iushr h hx rfl (hb hby hd) rfl k) hr
theorem m_lshl (K : Cl p e below G) (h : At T m c below) (hx : p.tables.exec = Jvm.exec) (hby : c.code = bs) {x : Int64} {y : Int32} (z : Int64) (hd : decode bs pc = .ok (.lshl, 1)) (hz : x <<< (y &&& 0x3f).toInt64 = z) (hq : pc + 1 = q) (hr : G (T.setTop (mkF m q Ls (.long z :: S)))) : G (T.setTop (mkF m pc Ls (.int y :: .long x :: S))) := by subst hq; subst hz; exact K _ _ (fun t k => Jvm.Free.XS.lshl h hx rfl (hb hby hd) rfl k) hr
theorem m_lshr (K : Cl p e below G) (h : At T m c below) (hx : p.tables.exec = Jvm.exec) (hby : c.code = bs) {x : Int64} {y : Int32} (z : Int64) (hd : decode bs pc = .ok (.lshr, 1)) (hz : x >>> (y &&& 0x3f).toInt64 = z) (hq : pc + 1 = q) (hr : G (T.setTop (mkF m q Ls (.long z :: S)))) : G (T.setTop (mkF m pc Ls (.int y :: .long x :: S))) := by subst hq; subst hz; exact K _ _ (fun t k => Jvm.Free.XS.lshr h hx rfl (hb hby hd) rfl k) hr
theorem m_lushr (K : Cl p e below G) (h : At T m c below) (hx : p.tables.exec = Jvm.exec) (hby : c.code = bs) {x : Int64} {y : Int32} (z : Int64) (hd : decode bs pc = .ok (.lushr, 1)) (hz : (x.toUInt64 >>> (y &&& 0x3f).toInt64.toUInt64).toInt64 = z) (hq : pc + 1 = q) (hr : G (T.setTop (mkF m q Ls (.long z :: S)))) : G (T.setTop (mkF m pc Ls (.int y :: .long x :: S))) := by subst hq; subst hz; exact K _ _ (fun t k => Jvm.Free.XS.lushr h hx rfl (hb hby hd) rfl k) hr
theorem m_ineg (K : Cl p e below G) (h : At T m c below) (hx : p.tables.exec = Jvm.exec) (hby : c.code = bs) {x : Int32} (z : Int32) (hd : decode bs pc = .ok (.ineg, 1)) (hz : -x = z) (hq : pc + 1 = q) (hr : G (T.setTop (mkF m q Ls (.int z :: S)))) : G (T.setTop (mkF m pc Ls (.int x :: S))) := by subst hq; subst hz; exact K _ _ (fun t k => Jvm.Free.XS.ineg h hx rfl (hb hby hd) rfl k) hr
theorem m_lneg (K : Cl p e below G) (h : At T m c below) (hx : p.tables.exec = Jvm.exec) (hby : c.code = bs) {x : Int64} (z : Int64) (hd : decode bs pc = .ok (.lneg, 1)) (hz : -x = z) (hq : pc + 1 = q) (hr : G (T.setTop (mkF m q Ls (.long z :: S)))) : G (T.setTop (mkF m pc Ls (.long x :: S))) := by subst hq; subst hz; exact K _ _ (fun t k => Jvm.Free.XS.lneg h hx rfl (hb hby hd) rfl k) hr
theorem m_i2l (K : Cl p e below G) (h : At T m c below) (hx : p.tables.exec = Jvm.exec) (hby : c.code = bs) {x : Int32} (z : Int64) (hd : decode bs pc = .ok (.i2l, 1)) (hz : x.toInt64 = z) (hq : pc + 1 = q) (hr : G (T.setTop (mkF m q Ls (.long z :: S)))) : G (T.setTop (mkF m pc Ls (.int x :: S))) := by subst hq; subst hz; exact K _ _ (fun t k => Jvm.Free.XS.i2l h hx rfl (hb hby hd) rfl k) hr
theorem m_l2i (K : Cl p e below G) (h : At T m c below) (hx : p.tables.exec = Jvm.exec) (hby : c.code = bs) {x : Int64} (z : Int32) (hd : decode bs pc = .ok (.l2i, 1)) (hz : x.toInt32 = z) (hq : pc + 1 = q) (hr : G (T.setTop (mkF m q Ls (.int z :: S)))) : G (T.setTop (mkF m pc Ls (.long x :: S))) := by subst hq; subst hz; exact K _ _ (fun t k => Jvm.Free.XS.l2i h hx rfl (hb hby hd) rfl k) hr
theorem m_i2b (K : Cl p e below G) (h : At T m c below) (hx : p.tables.exec = Jvm.exec) (hby : c.code = bs) {x : Int32} (z : Int32) (hd : decode bs pc = .ok (.i2b, 1)) (hz : x.toInt8.toInt32 = z) (hq : pc + 1 = q) (hr : G (T.setTop (mkF m q Ls (.int z :: S)))) : G (T.setTop (mkF m pc Ls (.int x :: S))) := by subst hq; subst hz; exact K _ _ (fun t k => Jvm.Free.XS.i2b h hx rfl (hb hby hd) rfl k) hr
theorem m_i2s (K : Cl p e below G) (h : At T m c below) (hx : p.tables.exec = Jvm.exec) (hby : c.code = bs) {x : Int32} (z : Int32) (hd : decode bs pc = .ok (.i2s, 1)) (hz : x.toInt16.toInt32 = z) (hq : pc + 1 = q) (hr : G (T.setTop (mkF m q Ls (.int z :: S)))) : G (T.setTop (mkF m pc Ls (.int x :: S))) := by subst hq; subst hz; exact K _ _ (fun t k => Jvm.Free.XS.i2s h hx rfl (hb hby hd) rfl k) hr
theorem m_i2c (K : Cl p e below G) (h : At T m c below) (hx : p.tables.exec = Jvm.exec) (hby : c.code = bs) {x : Int32} (z : Int32) (hd : decode bs pc = .ok (.i2c, 1)) (hz : x.toUInt32.toUInt16.toUInt32.toInt32 = z) (hq : pc + 1 = q) (hr : G (T.setTop (mkF m q Ls (.int z :: S)))) : G (T.setTop (mkF m pc Ls (.int x :: S))) := by subst hq; subst hz; exact K _ _ (fun t k => Jvm.Free.XS.i2c h hx rfl (hb hby hd) rfl k) hr
theorem m_lcmp (K : Cl p e below G) (h : At T m c below) (hx : p.tables.exec = Jvm.exec) (hby : c.code = bs) {x y : Int64} (z : Int32) (hd : decode bs pc = .ok (.lcmp, 1)) (hz : lcmpW x y = z) (hq : pc + 1 = q) (hr : G (T.setTop (mkF m q Ls (.int z :: S)))) : G (T.setTop (mkF m pc Ls (.long y :: .long x :: S))) := by subst hq; subst hz; exact K _ _ (fun t k => Jvm.Free.XS.lcmp h hx rfl (hb hby hd) rfl k) hr
theorem m_iinc (K : Cl p e below G) (h : At T m c below) (hx : p.tables.exec = Jvm.exec) (hby : c.code = bs) {k : Nat} {i : Int} {x : Int32} (l' : Array Slot) (hd : decode bs pc = .ok (.iinc k i, 3)) (hl : Ls[k]? = some (.val (.int x))) (hl' : storeLocals Ls k (.int (x + Int32.ofInt i)) = some l') (hq : pc + 3 = q) (hr : G (T.setTop (mkF m q l' S))) : G (T.setTop (mkF m pc Ls S)) := by subst hq; exact K _ _ (fun t k => Jvm.Free.XS.iinc h hx rfl (hb hby hd) hl hl' k) hr
theorem m_dup (K : Cl p e below G) (h : At T m c below) (hx : p.tables.exec = Jvm.exec) (hby : c.code = bs) {v : Value} (hd : decode bs pc = .ok (.dup, 1)) (hv : v.category = 1) (hq : pc + 1 = q) (hr : G (T.setTop (mkF m q Ls (v :: v :: S)))) : G (T.setTop (mkF m pc Ls (v :: S))) := by subst hq; exact K _ _ (fun t k => Jvm.Free.XS.dup h hx rfl (hb hby hd) rfl hv k) hr
theorem m_dupX1 (K : Cl p e below G) (h : At T m c below) (hx : p.tables.exec = Jvm.exec) (hby : c.code = bs) {v w : Value} (hd : decode bs pc = .ok (.dup_x1, 1)) (hv : v.category = 1) (hw : w.category = 1) (hq : pc + 1 = q) (hr : G (T.setTop (mkF m q Ls (v :: w :: v :: S)))) : G (T.setTop (mkF m pc Ls (v :: w :: S))) := by subst hq; exact K _ _ (fun t k => Jvm.Free.XS.dupX1 h hx rfl (hb hby hd) rfl hv hw k) hr
theorem m_dup2 (K : Cl p e below G) (h : At T m c below) (hx : p.tables.exec = Jvm.exec) (hby : c.code = bs) {v w : Value} (hd : decode bs pc = .ok (.dup2, 1)) (hv : v.category = 1) (hw : w.category = 1) (hq : pc + 1 = q) (hr : G (T.setTop (mkF m q Ls (v :: w :: v :: w :: S)))) : G (T.setTop (mkF m pc Ls (v :: w :: S))) := by subst hq; refine K _ _ (fun t k => ?_) hr; cases v <;> cases w <;> simp [Value.category] at hv hw <;> (jvm_step h [h.top, hx, hb hby hd, Value.category]; exact k)
theorem m_dup2L (K : Cl p e below G) (h : At T m c below) (hx : p.tables.exec = Jvm.exec) (hby : c.code = bs) {v : Int64} (hd : decode bs pc = .ok (.dup2, 1)) (hq : pc + 1 = q) (hr : G (T.setTop (mkF m q Ls (.long v :: .long v :: S)))) : G (T.setTop (mkF m pc Ls (.long v :: S))) := by subst hq; refine K _ _ (fun t k => ?_) hr; jvm_step h [h.top, hx, hb hby hd, Value.category]; exact k
theorem m_pop (K : Cl p e below G) (h : At T m c below) (hx : p.tables.exec = Jvm.exec) (hby : c.code = bs) {v : Value} (hd : decode bs pc = .ok (.pop, 1)) (hv : v.category = 1) (hq : pc + 1 = q) (hr : G (T.setTop (mkF m q Ls S))) : G (T.setTop (mkF m pc Ls (v :: S))) := by subst hq; exact K _ _ (fun t k => Jvm.Free.XS.pop h hx rfl (hb hby hd) rfl hv k) hr
theorem m_l2d (K : Cl p e below G) (h : At T m c below) (hx : p.tables.exec = Jvm.exec) (hby : c.code = bs) {x : Int64} (v : UInt64) (hd : decode bs pc = .ok (.l2d, 1)) (hv : FP.l2d x = v) (hq : pc + 1 = q) (hr : G (T.setTop (mkF m q Ls (.double v :: S)))) : G (T.setTop (mkF m pc Ls (.long x :: S))) := by subst hq; exact K _ _ (fun t k => Jvm.Free.XS.l2dS h hx rfl (hb hby hd) rfl hv k) hr
theorem m_i2d (K : Cl p e below G) (h : At T m c below) (hx : p.tables.exec = Jvm.exec) (hby : c.code = bs) {x : Int32} (v : UInt64) (hd : decode bs pc = .ok (.i2d, 1)) (hv : FP.i2d x = v) (hq : pc + 1 = q) (hr : G (T.setTop (mkF m q Ls (.double v :: S)))) : G (T.setTop (mkF m pc Ls (.int x :: S))) := by subst hq; exact K _ _ (fun t k => Jvm.Free.XS.i2dS h hx rfl (hb hby hd) rfl hv k) hr
theorem m_dconst0 (K : Cl p e below G) (h : At T m c below) (hx : p.tables.exec = Jvm.exec) (hby : c.code = bs) (v : UInt64) (hd : decode bs pc = .ok (.dconst 0, 1)) (hv : FP.dconst0 = v) (hq : pc + 1 = q) (hr : G (T.setTop (mkF m q Ls (.double v :: S)))) : G (T.setTop (mkF m pc Ls S)) := by subst hq; exact K _ _ (fun t k => Jvm.Free.XS.dconst0 h hx rfl (hb hby hd) hv k) hr
theorem m_dneg (K : Cl p e below G) (h : At T m c below) (hx : p.tables.exec = Jvm.exec) (hby : c.code = bs) {x : UInt64} (v : UInt64) (hd : decode bs pc = .ok (.dneg, 1)) (hv : FP.dneg x = v) (hq : pc + 1 = q) (hr : G (T.setTop (mkF m q Ls (.double v :: S)))) : G (T.setTop (mkF m pc Ls (.double x :: S))) := by subst hq; exact K _ _ (fun t k => Jvm.Free.XS.dnegS h hx rfl (hb hby hd) rfl hv k) hr
theorem m_dcmp (K : Cl p e below G) (h : At T m c below) (hx : p.tables.exec = Jvm.exec) (hby : c.code = bs) {o : CmpOp} {x y : UInt64} (v : Int32) (hd : decode bs pc = .ok (.dcmp o, 1)) (hv : cmpValue (FP.dcmp x y) o = v) (hq : pc + 1 = q) (hr : G (T.setTop (mkF m q Ls (.int v :: S)))) : G (T.setTop (mkF m pc Ls (.double y :: .double x :: S))) := by subst hq; exact K _ _ (fun t k => Jvm.Free.XS.dcmpS h hx rfl (hb hby hd) rfl hv k) hr
theorem m_dadd (K : Cl p e below G) (h : At T m c below) (hx : p.tables.exec = Jvm.exec) (hby : c.code = bs) {x y : UInt64} (v : UInt64) (hd : decode bs pc = .ok (.dadd, 1)) (hn : Jvm.Free.Fl.NoNaN64 (FP.dadd x y)) (hv : FP.dadd x y = v) (hq : pc + 1 = q) (hr : G (T.setTop (mkF m q Ls (.double v :: S)))) : G (T.setTop (mkF m pc Ls (.double y :: .double x :: S))) := by subst hq; exact K _ _ (fun t k => Jvm.Free.XS.daddS h hx rfl (hb hby hd) rfl hn hv k) hr
theorem m_dsub (K : Cl p e below G) (h : At T m c below) (hx : p.tables.exec = Jvm.exec) (hby : c.code = bs) {x y : UInt64} (v : UInt64) (hd : decode bs pc = .ok (.dsub, 1)) (hn : Jvm.Free.Fl.NoNaN64 (FP.dsub x y)) (hv : FP.dsub x y = v) (hq : pc + 1 = q) (hr : G (T.setTop (mkF m q Ls (.double v :: S)))) : G (T.setTop (mkF m pc Ls (.double y :: .double x :: S))) := by subst hq; exact K _ _ (fun t k => Jvm.Free.XS.dsubS h hx rfl (hb hby hd) rfl hn hv k) hr
theorem m_dmul (K : Cl p e below G) (h : At T m c below) (hx : p.tables.exec = Jvm.exec) (hby : c.code = bs) {x y : UInt64} (v : UInt64) (hd : decode bs pc = .ok (.dmul, 1)) (hn : Jvm.Free.Fl.NoNaN64 (FP.dmul x y)) (hv : FP.dmul x y = v) (hq : pc + 1 = q) (hr : G (T.setTop (mkF m q Ls (.double v :: S)))) : G (T.setTop (mkF m pc Ls (.double y :: .double x :: S))) := by subst hq; exact K _ _ (fun t k => Jvm.Free.XS.dmulS h hx rfl (hb hby hd) rfl hn hv k) hr
theorem m_ddiv (K : Cl p e below G) (h : At T m c below) (hx : p.tables.exec = Jvm.exec) (hby : c.code = bs) {x y : UInt64} (v : UInt64) (hd : decode bs pc = .ok (.ddiv, 1)) (hn : Jvm.Free.Fl.NoNaN64 (FP.ddiv x y)) (hv : FP.ddiv x y = v) (hq : pc + 1 = q) (hr : G (T.setTop (mkF m q Ls (.double v :: S)))) : G (T.setTop (mkF m pc Ls (.double y :: .double x :: S))) := by subst hq; exact K _ _ (fun t k => Jvm.Free.XS.ddivS h hx rfl (hb hby hd) rfl hn hv k) hr
theorem m_goto (K : Cl p e below G) (h : At T m c below) (hx : p.tables.exec = Jvm.exec) (hby : c.code = bs)  {o : Int} (hd : decode bs pc = .ok (.goto o, 3)) (ho : 0 ≤ (pc : Int) + o) (hq : ((pc : Int) + o).toNat = q) (hr : G (T.setTop (mkF m q Ls S))) : G (T.setTop (mkF m pc Ls S)) := by exact K _ _ (fun t k => Jvm.Free.XS.goto h hx rfl rfl (hb hby hd) ho hq k) hr
theorem m_ifY (K : Cl p e below G) (h : At T m c below) (hx : p.tables.exec = Jvm.exec) (hby : c.code = bs) {cd : ClassFile.Cond} {x : Int32} {o : Int} (hd : decode bs pc = .ok (.ifCond cd o, 3)) (hc : ifCond.holds cd x = true) (ho : 0 ≤ (pc : Int) + o) (hq : ((pc : Int) + o).toNat = q) (hr : G (T.setTop (mkF m q Ls S))) : G (T.setTop (mkF m pc Ls (.int x :: S))) := by exact K _ _ (fun t k => Jvm.Free.XS.ifYes h hx rfl rfl (hb hby hd) rfl hc ho hq k) hr
theorem m_icmpY (K : Cl p e below G) (h : At T m c below) (hx : p.tables.exec = Jvm.exec) (hby : c.code = bs) {cd : ClassFile.Cond} {x y : Int32} {o : Int} (hd : decode bs pc = .ok (.if_icmp cd o, 3)) (hc : if_icmp.holds cd x y = true) (ho : 0 ≤ (pc : Int) + o) (hq : ((pc : Int) + o).toNat = q) (hr : G (T.setTop (mkF m q Ls S))) : G (T.setTop (mkF m pc Ls (.int y :: .int x :: S))) := by exact K _ _ (fun t k => Jvm.Free.XS.icmpYes h hx rfl rfl (hb hby hd) rfl hc ho hq k) hr
theorem m_nullY (K : Cl p e below G) (h : At T m c below) (hx : p.tables.exec = Jvm.exec) (hby : c.code = bs)  {o : Int} (hd : decode bs pc = .ok (.ifnull o, 3)) (ho : 0 ≤ (pc : Int) + o) (hq : ((pc : Int) + o).toNat = q) (hr : G (T.setTop (mkF m q Ls S))) : G (T.setTop (mkF m pc Ls (.null :: S))) := by exact K _ _ (fun t k => Jvm.Free.XS.ifnullYes h hx rfl rfl (hb hby hd) rfl ho hq k) hr
theorem m_nnY (K : Cl p e below G) (h : At T m c below) (hx : p.tables.exec = Jvm.exec) (hby : c.code = bs) {a : Addr} {o : Int} (hd : decode bs pc = .ok (.ifnonnull o, 3)) (ho : 0 ≤ (pc : Int) + o) (hq : ((pc : Int) + o).toNat = q) (hr : G (T.setTop (mkF m q Ls S))) : G (T.setTop (mkF m pc Ls (.ref a :: S))) := by exact K _ _ (fun t k => Jvm.Free.XS.ifnonnullYes h hx rfl rfl (hb hby hd) rfl ho hq k) hr
theorem m_ifN (K : Cl p e below G) (h : At T m c below) (hx : p.tables.exec = Jvm.exec) (hby : c.code = bs) {cd : ClassFile.Cond} {o : Int} {x : Int32} (hd : decode bs pc = .ok (.ifCond cd o, 3)) (hc : ifCond.holds cd x = false) (hq : pc + 3 = q) (hr : G (T.setTop (mkF m q Ls S))) : G (T.setTop (mkF m pc Ls (.int x :: S))) := by subst hq; exact K _ _ (fun t k => Jvm.Free.XS.ifNo h hx rfl (hb hby hd) rfl hc k) hr
theorem m_icmpN (K : Cl p e below G) (h : At T m c below) (hx : p.tables.exec = Jvm.exec) (hby : c.code = bs) {cd : ClassFile.Cond} {o : Int} {x y : Int32} (hd : decode bs pc = .ok (.if_icmp cd o, 3)) (hc : if_icmp.holds cd x y = false) (hq : pc + 3 = q) (hr : G (T.setTop (mkF m q Ls S))) : G (T.setTop (mkF m pc Ls (.int y :: .int x :: S))) := by subst hq; exact K _ _ (fun t k => Jvm.Free.XS.icmpNo h hx rfl (hb hby hd) rfl hc k) hr
theorem m_nullN (K : Cl p e below G) (h : At T m c below) (hx : p.tables.exec = Jvm.exec) (hby : c.code = bs) {o : Int} {a : Addr} (hd : decode bs pc = .ok (.ifnull o, 3)) (hq : pc + 3 = q) (hr : G (T.setTop (mkF m q Ls S))) : G (T.setTop (mkF m pc Ls (.ref a :: S))) := by subst hq; exact K _ _ (fun t k => Jvm.Free.XS.ifnullNo h hx rfl (hb hby hd) rfl k) hr
theorem m_nnN (K : Cl p e below G) (h : At T m c below) (hx : p.tables.exec = Jvm.exec) (hby : c.code = bs) {o : Int} (hd : decode bs pc = .ok (.ifnonnull o, 3)) (hq : pc + 3 = q) (hr : G (T.setTop (mkF m q Ls S))) : G (T.setTop (mkF m pc Ls (.null :: S))) := by subst hq; exact K _ _ (fun t k => Jvm.Free.XS.ifnonnullNo h hx rfl (hb hby hd) rfl k) hr
theorem m_acmp (K : Cl p e below G) (X : Stand p l e R s m args below meth c T locs cells slots) (hx : p.tables.exec = Jvm.exec) (hby : c.code = bs) {cd : ACond} {x y : Value} {o : Int} (same : Bool) (hd : decode bs pc = .ok (.if_acmp cd o, 3)) (h1 : x.isRef = true) (h2 : y.isRef = true) (hs : decide (x = y) = same) (ho : 0 ≤ (pc : Int) + o) (hq : q = if acV cd same = true then ((pc : Int) + o).toNat else pc + 3) (hr : G (T.setTop (mkF m q Ls S))) : G (T.setTop (mkF m pc Ls (y :: x :: S))) := K _ _ (fun t k => Jvm.RoadKit.acmp (g := mkF m pc Ls (y :: x :: S)) X hx rfl h1 h2 rfl (hb hby hd) rfl hs ho hq k) hr
theorem m_ldc (K : Cl p e below G) (X : Stand p l e R s m args below meth c T locs cells slots) (hx : p.tables.exec = Jvm.exec) (hby : c.code = bs) (hZ : Z.Warmed39 s.vm) {own : String} {i : Nat} {v : Int32} (hown : s.vm.findClass own = some m.cls) (w : (Jvm.Cond.constant own i v).before a0 Z = true) (hd : decode bs pc = .ok (.ldc i, 2)) (hq : pc + 2 = q) (hr : G (T.setTop (mkF m q Ls (.int v :: S)))) : G (T.setTop (mkF m pc Ls S)) := by subst hq; exact K _ _ (fun t k => X.ldcInt hx hown (mvT hZ w) (g := mkF m pc Ls S) rfl (hb hby hd) _ k) hr
theorem m_ldcw (K : Cl p e below G) (X : Stand p l e R s m args below meth c T locs cells slots) (hx : p.tables.exec = Jvm.exec) (hby : c.code = bs) (hZ : Z.Warmed39 s.vm) {own : String} {i : Nat} {v : Int32} (hown : s.vm.findClass own = some m.cls) (w : (Jvm.Cond.constant own i v).before a0 Z = true) (hd : decode bs pc = .ok (.ldc_w i, 3)) (hq : pc + 3 = q) (hr : G (T.setTop (mkF m q Ls (.int v :: S)))) : G (T.setTop (mkF m pc Ls S)) := by subst hq; exact K _ _ (fun t k => X.ldcwInt hx hown (mvT hZ w) (g := mkF m pc Ls S) rfl (hb hby hd) _ k) hr
theorem m_ldc2 (K : Cl p e below G) (X : Stand p l e R s m args below meth c T locs cells slots) (hx : p.tables.exec = Jvm.exec) (hby : c.code = bs) (hZ : Z.Warmed39 s.vm) {own : String} {i : Nat} {v : Int64} (hown : s.vm.findClass own = some m.cls) (w : (Jvm.Cond.constantLong own i v).before a0 Z = true) (hd : decode bs pc = .ok (.ldc2_w i, 3)) (hq : pc + 3 = q) (hr : G (T.setTop (mkF m q Ls (.long v :: S)))) : G (T.setTop (mkF m pc Ls S)) := by subst hq; exact K _ _ (fun t k => X.ldc2Long hx hown (mvT hZ w) (g := mkF m pc Ls S) rfl (hb hby hd) _ k) hr
theorem k_getF (K : Cl p e below G) (X : Stand p l e R s m args below meth c T locs cells slots) (hx : p.tables.exec = Jvm.exec) (hby : c.code = bs) (hZ : Z.Warmed39 s.vm) {own R0 O n d host : String} {i : Nat} (hown : s.vm.findClass own = some m.cls) (w : (Jvm.Cond.fieldLink own i R0 n d).before a0 Z = true ∨ (Jvm.Cond.fieldLinkNest own i R0 n d host).before a0 Z = true) (via : Via Z R0 O n d) (eT : T.heap = h) {a : Addr} {v : Value} (F : Fld Z h a O n d v) (hd : decode bs pc = .ok (.getfield i, 3)) (hq : pc + 3 = q) (k : ∀ T', Stand p l e R s m args below meth c T' locs cells slots → T'.heap = h → G (T'.setTop (mkF m q Ls (v :: S)))) : G (T.setTop (mkF m pc Ls (.ref a :: S))) := by
  subst hq
  obtain ⟨T', X', e', st⟩ := getF X hx hZ hown w via eT F (g := mkF m pc Ls (.ref a :: S)) rfl rfl (hb hby hd)
  exact K _ _ st (k T' X' e')
theorem k_getS (K : Cl p e below G) (X : Stand p l e R s m args below meth c T locs cells slots) (hx : p.tables.exec = Jvm.exec) (hby : c.code = bs) (hZ : Z.Warmed39 s.vm) {own R0 O n d host : String} {i : Nat} (hown : s.vm.findClass own = some m.cls) (w : (Jvm.Cond.fieldLink own i R0 n d).before a0 Z = true ∨ (Jvm.Cond.fieldLinkNest own i R0 n d host).before a0 Z = true) (via : Via Z R0 O n d) (eT : T.heap = h) {v : Value} (F : Sta Z h O n d v) (hd : decode bs pc = .ok (.getstatic i, 3)) (hq : pc + 3 = q) (k : ∀ T', Stand p l e R s m args below meth c T' locs cells slots → T'.heap = h → G (T'.setTop (mkF m q Ls (v :: S)))) : G (T.setTop (mkF m pc Ls S)) := by
  subst hq
  obtain ⟨T', X', e', st⟩ := getS2 X hx hZ hown w via eT F (g := mkF m pc Ls S) rfl (hb hby hd)
  exact K _ _ st (k T' X' e')
theorem k_putF (K : Cl p e below G) (X : Stand p l e R s m args below meth c T locs cells slots) (hx : p.tables.exec = Jvm.exec) (hby : c.code = bs) (hZ : Z.Warmed39 s.vm) {own R0 O n d host C : String} {i kk : Nat} {ty : FieldType} (hown : s.vm.findClass own = some m.cls) (w : (Jvm.Cond.fieldLink own i R0 n d).before a0 Z = true ∨ (Jvm.Cond.fieldLinkNest own i R0 n d host).before a0 Z = true) (via : Via Z R0 O n d) (eT : T.heap = h) {a : Addr} {v old : Value} (F : Fld Z h a O n d old) (E : Exa Z h a C) (L : (Jvm.Cond.lays C O n d).before a0 Z = true ∨ ((Jvm.Cond.laysFinal C O n d).before a0 Z = true ∧ own = O ∧ meth.name = "<init>")) (wi : (Jvm.Cond.instantiable C kk).before a0 Z = true) (hty : parseFieldDescriptor d = some ty) (hn : narrow ty v = v) (hf : fits ty v = true) (hd : decode bs pc = .ok (.putfield i, 3)) (hq : pc + 3 = q)
    (k : ∀ T' h', Stand p l e R s m args below meth c T' (locs ++ [⟨a, Jvm.RoadKit.slotOf Z O n d⟩]) cells slots → T'.heap = h' → Wr h h' a (Jvm.RoadKit.slotOf Z O n d) v → G (T'.setTop (mkF m q Ls S))) : G (T.setTop (mkF m pc Ls (v :: .ref a :: S))) := by
  subst hq
  obtain ⟨T', h', X', e', W', st⟩ := putF X hx hZ hown w via eT F E L wi hty hn hf (g := mkF m pc Ls (v :: .ref a :: S)) rfl rfl (hb hby hd)
  exact K _ _ st (k T' h' X' e' W')
theorem k_newO (K : Cl p e below G) (X : Stand p l e R s m args below meth c T locs cells slots) (hx : p.tables.exec = Jvm.exec) (hby : c.code = bs) (hZ : Z.Warmed39 s.vm) {own C : String} {i n : Nat} (hown : s.vm.findClass own = some m.cls) (w : (Jvm.Cond.classLink own i C).before a0 Z = true) (wi : (Jvm.Cond.instantiable C n).before a0 Z = true) (wz : (Jvm.Cond.initialized C).before a0 Z = true) (eT : T.heap = h) (hd : decode bs pc = .ok (.new i, 3)) (hq : pc + 3 = q) (hc : cells + 1 ≤ R.cells) (hl : slots + n ≤ R.slots)
    (k : ∀ T' h' b, Stand p l e R s m args below meth c T' locs (cells + 1) (slots + n) → T'.heap = h' → Ext h h' → b = h.size → Exa Z h' b C → (∀ {O nm d : String} {ty : FieldType}, Laid Z a0 C O nm d → parseFieldDescriptor d = some ty → Fld Z h' b O nm d (defaultValue ty)) → G (T'.setTop (mkF m q Ls (.ref b :: S)))) : G (T.setTop (mkF m pc Ls S)) := by
  subst hq
  obtain ⟨T', h', X', e', E', A', D', -, st⟩ := newO X hx hZ hown w wi wz eT (g := mkF m pc Ls S) rfl (hb hby hd) hc hl
  exact K _ _ st (k T' h' _ X' e' E' rfl A' D')
theorem k_cast (K : Cl p e below G) (X : Stand p l e R s m args below meth c T locs cells slots) (hx : p.tables.exec = Jvm.exec) (hby : c.code = bs) (hZ : Z.Warmed39 s.vm) {own C : String} {i : Nat} (hown : s.vm.findClass own = some m.cls) (w : (Jvm.Cond.classLink own i C).before a0 Z = true) (eT : T.heap = h) {a : Addr} (I : Ins Z h a C true) (hd : decode bs pc = .ok (.checkcast i, 3)) (hq : pc + 3 = q) (k : ∀ T', Stand p l e R s m args below meth c T' locs cells slots → T'.heap = h → G (T'.setTop (mkF m q Ls (.ref a :: S)))) : G (T.setTop (mkF m pc Ls (.ref a :: S))) := by
  subst hq
  obtain ⟨T', X', e', st⟩ := castY X hx hZ hown w eT I (g := mkF m pc Ls (.ref a :: S)) rfl rfl (hb hby hd)
  exact K _ _ st (k T' X' e')
def Con (l : Launch) (Z : State) (y : MethodName) (bytes : ByteArray) (maxL : Nat) (ret : Option FieldType) (rm : Room) (ws : List Jvm.Cond) (as' : Array Value) (h : Heap) (Q : PQ) : Prop :=
  MetFree l y (head1 (Jvm.Cond.code y bytes maxL ret :: ws) rm) (fun a U => a = as' ∧ Z.Warmed39 U.vm ∧ U.heap = h) (fun _ _ _ _ _ => True) (fun _ U o U' => ∃ v L, o = .returned v ∧ Q v U'.heap L ∧ FrameEnd U o U' L rm.cells rm.slots)
theorem Con.of {y : MethodName} {bytes : ByteArray} {maxL : Nat} {ret : Option FieldType} {rm : Room} {ws : List Jvm.Cond} {as' : Array Value} {Q : PQ} (hpl : plainFor y = true) (Ls : Array Slot) (hef : ∀ m, entryFrame m as' maxL = mkF m 0 Ls [])
    (body : ∀ p e s m below meth c s₁, Cl p e below (Go p e below s rm.cells rm.slots Q) → p.tables.exec = Jvm.exec → c.code = bytes → c.maxLocals = maxL → s.vm.findClass y.cls = some m.cls → meth.name = y.name → meth.sig.returnType = ret → meth.locks = false → Z.Warmed39 s.vm → Stand p l e rm s m as' below meth c s₁ [] 0 0 → s₁.heap = h →
      Go p e below s rm.cells rm.slots Q (s₁.setTop (mkF m 0 Ls []))) : Con l Z y bytes maxL ret rm ws as' h Q := by
  refine MetFree.of_bodySF hpl hisR ?_
  intro p e s m args below meth c s₁ Bd hml0 hP hK
  obtain ⟨rfl, hZ, hh⟩ := hP
  have r := body p e s m below meth c s₁ Go.cl Bd.exec Bd.bytes hml0 (findClass_of_methodNamed Bd.named) (name_of_methodNamed Bd.named Bd.method).1 Bd.returns Bd.notSynchronized hZ (Stand.of_body Bd) (by rw [← hh, Bd.state]; rfl)
  rw [← hef m] at r
  exact r
theorem Con.back {y : MethodName} {bytes : ByteArray} {maxL : Nat} {ret : Option FieldType} {rm : Room} {as' : Array Value} {Q : PQ} {len W : Nat} (K : Con l Z y bytes maxL ret rm [] as' h Q)
    (hZ : Z.Warmed39 s.vm) (wc : (Jvm.Cond.code y bytes maxL ret).before a0 Z = true) (wz : (Jvm.Cond.initialized y.cls).before a0 Z = true) (hf : rm.frames + 1 ≤ R.frames) (hl : W + (maxL + 11) + rm.locals ≤ R.locals) :
    Back l R p e below s args y len W (fun A a => a = as' ∧ A.U.heap = h ∧ A.cells + rm.cells ≤ R.cells ∧ A.slots + rm.slots ≤ R.slots)
      (fun A _ v B => ∃ L, Q v B.U.heap L ∧ B.locs = A.locs ++ L ∧ B.cells = A.cells + rm.cells ∧ B.slots = A.slots + rm.slots) := backOf K hZ wc wz hf hl
theorem k_callS (K : Cl p e below G) (X : Stand p l e R s m args below meth c T locs cells slots) (hx : p.tables.exec = Jvm.exec) (hby : c.code = bs) (hZ : Z.Warmed39 s.vm) {own : String} {i : Nat} {y : MethodName} {bytes : ByteArray} {maxL : Nat} {ret : Option FieldType} {rm : Room} {Q : PQ} {as' : Array Value} {ps : List FieldType} {r : Option FieldType} (argsL rest : List Value) (hown : s.vm.findClass own = some m.cls) (w1 : (Jvm.Cond.methodLink own i y).before a0 Z = true) (w2 : (Jvm.Cond.static y).before a0 Z = true) (w3 : (Jvm.Cond.initialized y.cls).before a0 Z = true) (w4 : (Jvm.Cond.code y bytes maxL ret).before a0 Z = true)
    (C : Con l Z y bytes maxL ret rm [] as' h Q) (eT : T.heap = h) (has : argsL.toArray = as') (hs : S = argsL.reverse ++ rest) (hps : parseMethodDescriptor y.desc = some ⟨ps, r⟩) (hl : argsL.length = ps.length) (hd : decode bs pc = .ok (.invokestatic i, 3)) (hsz : Ls.size = c.maxLocals) (hq : pc + 3 = q) (hy : y.cls ≠ "java/lang/invoke/MethodHandle" ∧ y.cls ≠ "java/lang/invoke/VarHandle") (hf : rm.frames + 1 ≤ R.frames) (hlo : (rest.map fun v => v.category).sum + (maxL + 11) + rm.locals ≤ R.locals) (hc : cells + rm.cells ≤ R.cells) (hn : slots + rm.slots ≤ R.slots)
    (k : ∀ v T' L, Stand p l e R s m args below meth c T' (locs ++ L) (cells + rm.cells) (slots + rm.slots) → Q v T'.heap L → G (T'.setTop (mkF m q Ls (v.toList ++ rest)))) : G (T.setTop (mkF m pc Ls S)) := by
  subst has hs hq
  obtain ⟨v, _, ⟨T', L', k', n'⟩, -, X', ⟨Lc, hQ, l1, y1, z1⟩, st⟩ := Jvm.LawKit.callS X hx (y := y) hown (mvT hZ w1) (mvT hZ w2) (mvT hZ w3) (mvT hZ w4) hy (C.back (W := (rest.map fun v => v.category).sum) hZ w4 w3 hf hlo) (g := mkF m pc Ls (argsL.reverse ++ rest)) rfl hsz (argsL := argsL) (rest := rest) (lenOf hps hl) rfl (by show 2 * 0 + _ ≤ _; exact Nat.le_of_eq (Nat.zero_add _)) (hb hby hd) (fun _ _ => ⟨rfl, eT, hc, hn⟩)
  dsimp only at X' l1 y1 z1 st hQ
  subst l1 y1 z1
  exact K _ _ st (k v T' Lc X' hQ)
theorem k_callP (K : Cl p e below G) (X : Stand p l e R s m args below meth c T locs cells slots) (hx : p.tables.exec = Jvm.exec) (hby : c.code = bs) (hZ : Z.Warmed39 s.vm) {own : String} {i : Nat} {y : MethodName} {bytes : ByteArray} {maxL : Nat} {rm : Room} {Q : PQ} {as' : Array Value} {ps : List FieldType} {r : Option FieldType} (a : Addr) (argsL rest : List Value) (hown : s.vm.findClass own = some m.cls) (w1 : (Jvm.Cond.methodLink own i y).before a0 Z = true) (w2 : (Jvm.Cond.instanceMethod y).before a0 Z = true) (w3 : (Jvm.Cond.initialized y.cls).before a0 Z = true) (w4 : (Jvm.Cond.code y bytes maxL none).before a0 Z = true) (hy1 : y.name = "<init>")
    (C : Con l Z y bytes maxL none rm [] as' h Q) (eT : T.heap = h) (has : (.ref a :: argsL).toArray = as') (hs : S = argsL.reverse ++ .ref a :: rest) (hps : parseMethodDescriptor y.desc = some ⟨ps, r⟩) (hl : argsL.length = ps.length) (hd : decode bs pc = .ok (.invokespecial i, 3)) (hsz : Ls.size = c.maxLocals) (hq : pc + 3 = q) (hy : y.cls ≠ "java/lang/invoke/MethodHandle" ∧ y.cls ≠ "java/lang/invoke/VarHandle") (hf : rm.frames + 1 ≤ R.frames) (hlo : (rest.map fun v => v.category).sum + (maxL + 11) + rm.locals ≤ R.locals) (hc : cells + rm.cells ≤ R.cells) (hn : slots + rm.slots ≤ R.slots)
    (k : ∀ v T' L, Stand p l e R s m args below meth c T' (locs ++ L) (cells + rm.cells) (slots + rm.slots) → Q v T'.heap L → G (T'.setTop (mkF m q Ls (v.toList ++ rest)))) : G (T.setTop (mkF m pc Ls S)) := by
  subst has hs hq
  obtain ⟨v, _, ⟨T', L', k', n'⟩, -, X', ⟨Lc, hQ, l1, y1, z1⟩, st⟩ := X.specialBack hx (y := y) hy1 hown (mvT hZ w1) (mvT hZ w2) (mvT hZ w4) hy (C.back (W := (rest.map fun v => v.category).sum) hZ w4 w3 hf hlo) (g := mkF m pc Ls (argsL.reverse ++ .ref a :: rest)) rfl hsz (Steps.refl _) (a := a) (argsL := argsL) (rest := rest) (lenOf hps hl) rfl (by show 2 * 0 + _ ≤ _; exact Nat.le_of_eq (Nat.zero_add _)) (hb hby hd) (fun _ _ => ⟨rfl, eT, hc, hn⟩)
  dsimp only at X' l1 y1 z1 st hQ
  subst l1 y1 z1
  exact K _ _ (fun t k => st.trans k) (k v T' Lc X' hQ)
theorem k_callV (K : Cl p e below G) (X : Stand p l e R s m args below meth c T locs cells slots) (hx : p.tables.exec = Jvm.exec) (hby : c.code = bs) (hZ : Z.Warmed39 s.vm) {own : String} {i : Nat} {y : MethodName} {bytes : ByteArray} {maxL : Nat} {ret : Option FieldType} {rm : Room} {Q : PQ} {as' : Array Value} {ps : List FieldType} {r : Option FieldType} {z : MethodName} {C0 : String} (a : Addr) (argsL rest : List Value) (hown : s.vm.findClass own = some m.cls) (w1 : (Jvm.Cond.methodLink own i y).before a0 Z = true) (w2 : (Jvm.Cond.declares y).before a0 Z = true) (hnf : NotFace s y) (w5 : (Jvm.Cond.selects C0 y z).before a0 Z = true) (w6 : (Jvm.Cond.instanceMethod z).before a0 Z = true) (w3 : (Jvm.Cond.initialized z.cls).before a0 Z = true) (w4 : (Jvm.Cond.code z bytes maxL ret).before a0 Z = true)
    (C : Con l Z z bytes maxL ret rm [] as' h Q) (eT : T.heap = h) (E : Exa Z h a C0) (has : (.ref a :: argsL).toArray = as') (hs : S = argsL.reverse ++ .ref a :: rest) (hps : parseMethodDescriptor y.desc = some ⟨ps, r⟩) (hl : argsL.length = ps.length) (hd : decode bs pc = .ok (.invokevirtual i, 3)) (hsz : Ls.size = c.maxLocals) (hq : pc + 3 = q) (hy : y.cls ≠ "java/lang/invoke/MethodHandle" ∧ y.cls ≠ "java/lang/invoke/VarHandle") (hf : rm.frames + 1 ≤ R.frames) (hlo : (rest.map fun v => v.category).sum + (maxL + 11) + rm.locals ≤ R.locals) (hc : cells + rm.cells ≤ R.cells) (hn : slots + rm.slots ≤ R.slots)
    (k : ∀ v T' L, Stand p l e R s m args below meth c T' (locs ++ L) (cells + rm.cells) (slots + rm.slots) → Q v T'.heap L → G (T'.setTop (mkF m q Ls (v.toList ++ rest)))) : G (T.setTop (mkF m pc Ls S)) := by
  subst has hs hq
  obtain ⟨cq, kq, qa, qb, qc⟩ := isOf hZ eT E
  obtain ⟨v, _, ⟨T', L', k', n'⟩, -, X', ⟨Lc, hQ, l1, y1, z1⟩, st⟩ := X.virtualBack hx (y := y) (z := z) hown (mvT hZ w1) (mvT hZ w2) hnf (mvT hZ w5) (mvT hZ w6) hy (C.back (W := (rest.map fun v => v.category).sum) hZ w4 w3 hf hlo) qa qc (g := mkF m pc Ls (argsL.reverse ++ .ref a :: rest)) rfl hsz (Steps.refl _) (argsL := argsL) (rest := rest) (lenOf hps hl) rfl (by show 2 * 0 + _ ≤ _; exact Nat.le_of_eq (Nat.zero_add _)) (hb hby hd) (fun _ _ => ⟨rfl, eT, hc, hn⟩)
  dsimp only at X' l1 y1 z1 st hQ
  subst l1 y1 z1
  exact K _ _ (fun t k => st.trans k) (k v T' Lc X' hQ)
theorem k_callI (K : Cl p e below G) (X : Stand p l e R s m args below meth c T locs cells slots) (hx : p.tables.exec = Jvm.exec) (hby : c.code = bs) (hZ : Z.Warmed39 s.vm) {own : String} {i : Nat} {y : MethodName} {bytes : ByteArray} {maxL : Nat} {ret : Option FieldType} {rm : Room} {Q : PQ} {as' : Array Value} {ps : List FieldType} {r : Option FieldType} {z : MethodName} {C0 : String} {cnt : Nat} (a : Addr) (argsL rest : List Value) (hown : s.vm.findClass own = some m.cls) (w1 : (Jvm.Cond.methodLink own i y).before a0 Z = true) (w2 : (Jvm.Cond.declares y).before a0 Z = true) (w7 : (Jvm.Cond.interfaceMethod y.cls y.cls y.name y.desc).before args s = true) (w5 : (Jvm.Cond.selects C0 y z).before a0 Z = true) (w6 : (Jvm.Cond.instanceMethod z).before a0 Z = true) (w8 : (Jvm.Cond.publicMethod z).before a0 Z = true) (w9 : (Jvm.Cond.unhidden C0 y.name y.desc).before a0 Z = true) (wa : (Jvm.Cond.castable C0 y.cls).before a0 Z = true) (w3 : (Jvm.Cond.initialized z.cls).before a0 Z = true) (w4 : (Jvm.Cond.code z bytes maxL ret).before a0 Z = true)
    (C : Con l Z z bytes maxL ret rm [] as' h Q) (eT : T.heap = h) (E : Exa Z h a C0) (has : (.ref a :: argsL).toArray = as') (hs : S = argsL.reverse ++ .ref a :: rest) (hps : parseMethodDescriptor y.desc = some ⟨ps, r⟩) (hl : argsL.length = ps.length) (hd : decode bs pc = .ok (.invokeinterface i cnt, 5)) (hsz : Ls.size = c.maxLocals) (hq : pc + 5 = q) (hy : y.cls ≠ "java/lang/invoke/MethodHandle" ∧ y.cls ≠ "java/lang/invoke/VarHandle") (hf : rm.frames + 1 ≤ R.frames) (hlo : (rest.map fun v => v.category).sum + (maxL + 11) + rm.locals ≤ R.locals) (hc : cells + rm.cells ≤ R.cells) (hn : slots + rm.slots ≤ R.slots)
    (k : ∀ v T' L, Stand p l e R s m args below meth c T' (locs ++ L) (cells + rm.cells) (slots + rm.slots) → Q v T'.heap L → G (T'.setTop (mkF m q Ls (v.toList ++ rest)))) : G (T.setTop (mkF m pc Ls S)) := by
  subst has hs hq
  obtain ⟨cq, kq, qa, qb, qc⟩ := isOf hZ eT E
  obtain ⟨v, _, ⟨T', L', k', n'⟩, -, X', ⟨Lc, hQ, l1, y1, z1⟩, st⟩ := X.interfaceBack hx (xi := y) (y := z) hown (mvT hZ w1) (mvT hZ w2) w7 (mvT hZ w5) (mvT hZ w6) (mvT hZ w8) (mvT hZ w9) (mvT hZ wa) hy (C.back (W := (rest.map fun v => v.category).sum) hZ w4 w3 hf hlo) qa qb qc (g := mkF m pc Ls (argsL.reverse ++ .ref a :: rest)) rfl hsz (Steps.refl _) (argsL := argsL) (rest := rest) (lenOf hps hl) rfl (by show 2 * 0 + _ ≤ _; exact Nat.le_of_eq (Nat.zero_add _)) (hb hby hd) (fun _ _ => ⟨rfl, eT, hc, hn⟩)
  dsimp only at X' l1 y1 z1 st hQ
  subst l1 y1 z1
  exact K _ _ (fun t k => st.trans k) (k v T' Lc X' hQ)
end OwnBase
section OwnArr
variable {p : Program} {l : Launch} {e : Env} {R : Room} {s : State} {m : MethodId} {args : Array Value} {below : List Frame} {meth : Method} {c : Code} {T : State} {locs : List Loc} {cells slots : Nat} {Z : State} {a0 : Array Value} {h h' : Heap} {a b : Addr} {ty : FieldType} {vs : List Value} {v : Value} {sl : Nat} {ws : List Addr} {bs : ByteArray} {pc q : Nat} {Ls : Array Slot} {S : List Value} {G : State → Prop}
def Av (Z : State) (h : Heap) (a : Addr) (ty : FieldType) (vs : List Value) : Prop := ∃ cl : Cell, Arr Z h a cl ty ∧ cl.slots = vs.toArray
theorem Av.lt (F : Av Z h a ty vs) : a < h.size := by obtain ⟨_, A, -⟩ := F; exact A.lt
theorem Av.ext (F : Av Z h a ty vs) (E : Ext h h') : Av Z h' a ty vs := by obtain ⟨c, A, r⟩ := F; exact ⟨c, A.ext E, r⟩
theorem Av.other (F : Av Z h b ty vs) (W : Wr h h' a sl v) (q : b ≠ a) : Av Z h' b ty vs := by obtain ⟨c, A, r⟩ := F; exact ⟨c, A.other W q, r⟩
theorem Av.keep (F : Av Z h a ty vs) (K : Keep h h' ws) (q : a ∉ ws) : Av Z h' a ty vs := by obtain ⟨c, A, r⟩ := F; exact ⟨c, ⟨K.2.1 a c A.1 q, A.2⟩, r⟩
theorem Av.new {k : ClassId} {z : Int32} {n : Nat} (A : Arr Z h a (newA k ty z) ty) (hn : z.toNatClampNeg = n) : Av Z h a ty (List.replicate n (defaultValue ty)) := ⟨_, A, by subst hn; simp [newA]⟩
theorem Av.set (F : Av Z h a ty vs) (W : Wr h h' a sl v) : Av Z h' a ty (vs.set sl v) := by
  obtain ⟨c, A, r⟩ := F
  exact ⟨_, A.same W, by simp [Cell.setSlot, r]⟩
theorem Av.ofArv {k : ClassId} {z : Int32} {d : Value} (A : Arv Z h a k ty z vs d) (hl : z.toNatClampNeg = vs.length) : Av Z h a ty vs := by
  obtain ⟨cl, A, -, S, -, H, -⟩ := A
  refine ⟨cl, A, Array.ext_getElem? fun i => ?_⟩
  by_cases q : i < vs.length
  · have := H i (by omega)
    rw [this]
    simp [q]
  · rw [Array.getElem?_eq_none (by omega), List.getElem?_toArray, List.getElem?_eq_none (by omega)]
theorem own_in {cl : Cell} {j : Int32} (r : cl.slots = vs.toArray) (h0 : ¬ j < 0) (h1 : j.toNatClampNeg < vs.length) : ¬ (j < 0 ∨ cl.slots.size ≤ j.toNatClampNeg) := by
  rintro (q | q)
  · exact h0 q
  · rw [r, List.size_toArray] at q; omega
theorem own_at {cl : Cell} {i : Nat} (r : cl.slots = vs.toArray) (hv : vs[i]? = some v) : cl.slots[i]? = some v := by rw [r]; simpa using hv
theorem own_ltl0 {i : Nat} (hv : vs[i]? = some v) : i < vs.length := (List.getElem?_eq_some_iff.mp hv).1
theorem k_ldI (K : Cl p e below G) (X : Stand p l e R s m args below meth c T locs cells slots) (hx : p.tables.exec = Jvm.exec) (hby : c.code = bs) (hZ : Z.Warmed39 s.vm) (eT : T.heap = h) (F : Av Z h a .int vs) {j : Int32} (h0 : ¬ j < 0) (hv : vs[j.toNatClampNeg]? = some v) (hd : decode bs pc = .ok (.iaload, 1)) (hq : pc + 1 = q) (hr : G (T.setTop (mkF m q Ls (v :: S)))) : G (T.setTop (mkF m pc Ls (.int j :: .ref a :: S))) := by
  subst hq
  obtain ⟨cl, A, r⟩ := F
  exact K _ _ (X.iaload hx (j := j) (v := v) (by rw [eT]; exact A.1) (State.isArrayOf_alike hZ.alike A.2.1) A.2.2 (own_in r h0 (own_ltl0 hv)) (own_at r hv) (g := mkF m pc Ls (.int j :: .ref a :: S)) rfl rfl (hb hby hd)) hr
theorem k_ldJ (K : Cl p e below G) (X : Stand p l e R s m args below meth c T locs cells slots) (hx : p.tables.exec = Jvm.exec) (hby : c.code = bs) (hZ : Z.Warmed39 s.vm) (eT : T.heap = h) (F : Av Z h a .long vs) {j : Int32} (h0 : ¬ j < 0) (hv : vs[j.toNatClampNeg]? = some v) (hd : decode bs pc = .ok (.laload, 1)) (hq : pc + 1 = q) (hr : G (T.setTop (mkF m q Ls (v :: S)))) : G (T.setTop (mkF m pc Ls (.int j :: .ref a :: S))) := by
  subst hq
  obtain ⟨cl, A, r⟩ := F
  exact K _ _ (X.laload hx (j := j) (v := v) (by rw [eT]; exact A.1) (State.isArrayOf_alike hZ.alike A.2.1) A.2.2 (own_in r h0 (own_ltl0 hv)) (own_at r hv) (g := mkF m pc Ls (.int j :: .ref a :: S)) rfl rfl (hb hby hd)) hr
theorem k_ldC (K : Cl p e below G) (X : Stand p l e R s m args below meth c T locs cells slots) (hx : p.tables.exec = Jvm.exec) (hby : c.code = bs) (hZ : Z.Warmed39 s.vm) (eT : T.heap = h) (F : Av Z h a .char vs) {j : Int32} (h0 : ¬ j < 0) (hv : vs[j.toNatClampNeg]? = some v) (hd : decode bs pc = .ok (.caload, 1)) (hq : pc + 1 = q) (hr : G (T.setTop (mkF m q Ls (v :: S)))) : G (T.setTop (mkF m pc Ls (.int j :: .ref a :: S))) := by
  subst hq
  obtain ⟨cl, A, r⟩ := F
  exact K _ _ (X.caload hx (j := j) (v := v) (by rw [eT]; exact A.1) (State.isArrayOf_alike hZ.alike A.2.1) A.2.2 (own_in r h0 (own_ltl0 hv)) (own_at r hv) (g := mkF m pc Ls (.int j :: .ref a :: S)) rfl rfl (hb hby hd)) hr
theorem k_ldB (K : Cl p e below G) (X : Stand p l e R s m args below meth c T locs cells slots) (hx : p.tables.exec = Jvm.exec) (hby : c.code = bs) (hZ : Z.Warmed39 s.vm) (eT : T.heap = h) (F : Av Z h a .byte vs) {j : Int32} (h0 : ¬ j < 0) (hv : vs[j.toNatClampNeg]? = some v) (hd : decode bs pc = .ok (.baload, 1)) (hq : pc + 1 = q) (hr : G (T.setTop (mkF m q Ls (v :: S)))) : G (T.setTop (mkF m pc Ls (.int j :: .ref a :: S))) := by
  subst hq
  obtain ⟨cl, A, r⟩ := F
  exact K _ _ (X.baloadBytes hx (j := j) (v := v) (by rw [eT]; exact A.1) (State.isArrayOf_alike hZ.alike A.2.1) A.2.2 (own_in r h0 (own_ltl0 hv)) (own_at r hv) (g := mkF m pc Ls (.int j :: .ref a :: S)) rfl rfl (hb hby hd)) hr
theorem k_ldZ (K : Cl p e below G) (X : Stand p l e R s m args below meth c T locs cells slots) (hx : p.tables.exec = Jvm.exec) (hby : c.code = bs) (hZ : Z.Warmed39 s.vm) (eT : T.heap = h) (F : Av Z h a .boolean vs) {j : Int32} (h0 : ¬ j < 0) (hv : vs[j.toNatClampNeg]? = some v) (hd : decode bs pc = .ok (.baload, 1)) (hq : pc + 1 = q) (hr : G (T.setTop (mkF m q Ls (v :: S)))) : G (T.setTop (mkF m pc Ls (.int j :: .ref a :: S))) := by
  subst hq
  obtain ⟨cl, A, r⟩ := F
  exact K _ _ (X.baloadBooleans hx (j := j) (v := v) (by rw [eT]; exact A.1) (State.isArrayOf_alike hZ.alike A.2.1) A.2.2 (own_in r h0 (own_ltl0 hv)) (own_at r hv) (g := mkF m pc Ls (.int j :: .ref a :: S)) rfl rfl (hb hby hd)) hr
theorem k_ldD (K : Cl p e below G) (X : Stand p l e R s m args below meth c T locs cells slots) (hx : p.tables.exec = Jvm.exec) (hby : c.code = bs) (hZ : Z.Warmed39 s.vm) (eT : T.heap = h) (F : Av Z h a .double vs) {j : Int32} (h0 : ¬ j < 0) (hv : vs[j.toNatClampNeg]? = some v) (hd : decode bs pc = .ok (.daload, 1)) (hq : pc + 1 = q) (hr : G (T.setTop (mkF m q Ls (v :: S)))) : G (T.setTop (mkF m pc Ls (.int j :: .ref a :: S))) := by
  subst hq
  obtain ⟨cl, A, r⟩ := F
  exact K _ _ (X.daload hx (j := j) (v := v) (by rw [eT]; exact A.1) (State.isArrayOf_alike hZ.alike A.2.1) A.2.2 (own_in r h0 (own_ltl0 hv)) (own_at r hv) (g := mkF m pc Ls (.int j :: .ref a :: S)) rfl rfl (hb hby hd)) hr
theorem k_ldR (K : Cl p e below G) (X : Stand p l e R s m args below meth c T locs cells slots) (hx : p.tables.exec = Jvm.exec) (hby : c.code = bs) (hZ : Z.Warmed39 s.vm) (eT : T.heap = h) (hty : ty.isReference = true) (F : Av Z h a ty vs) {j : Int32} (h0 : ¬ j < 0) (hv : vs[j.toNatClampNeg]? = some v) (hd : decode bs pc = .ok (.aaload, 1)) (hq : pc + 1 = q) (hr : G (T.setTop (mkF m q Ls (v :: S)))) : G (T.setTop (mkF m pc Ls (.int j :: .ref a :: S))) := by
  subst hq
  obtain ⟨cl, A, r⟩ := F
  exact K _ _ (X.aaload hx (j := j) (v := v) (by rw [eT]; exact A.1) (State.isArrayOf_alike hZ.alike A.2.1) hty A.2.2 (own_in r h0 (own_ltl0 hv)) (own_at r hv) (g := mkF m pc Ls (.int j :: .ref a :: S)) rfl rfl (hb hby hd)) hr
theorem k_len (K : Cl p e below G) (X : Stand p l e R s m args below meth c T locs cells slots) (hx : p.tables.exec = Jvm.exec) (hby : c.code = bs) (hZ : Z.Warmed39 s.vm) (z : Int32) (eT : T.heap = h) (F : Av Z h a ty vs) (hz : Int32.ofNat vs.length = z) (hd : decode bs pc = .ok (.arraylength, 1)) (hq : pc + 1 = q) (hr : G (T.setTop (mkF m q Ls (.int z :: S)))) : G (T.setTop (mkF m pc Ls (.ref a :: S))) := by
  subst hq
  obtain ⟨cl, A, r⟩ := F
  have hl : cl.slots.size.toInt32 = z := by rw [r, List.size_toArray]; exact hz
  have st := X.arraylength hx (by rw [eT]; exact A.1) (State.isArrayOf_alike hZ.alike A.2.1) (g := mkF m pc Ls (.ref a :: S)) rfl rfl (hb hby hd)
  rw [hl] at st
  exact K _ _ st hr
theorem k_stI (K : Cl p e below G) (X : Stand p l e R s m args below meth c T locs cells slots) (hx : p.tables.exec = Jvm.exec) (hby : c.code = bs) (hZ : Z.Warmed39 s.vm) (eT : T.heap = h) (F : Av Z h a .int vs) {j : Int32} {x : Int32} (h0 : ¬ j < 0) (h1 : j.toNatClampNeg < vs.length) (hd : decode bs pc = .ok (.iastore, 1)) (hq : pc + 1 = q) (k : ∀ T' h', Stand p l e R s m args below meth c T' (locs ++ [⟨a, j.toNatClampNeg⟩]) cells slots → T'.heap = h' → Wr h h' a j.toNatClampNeg (.int x) → Av Z h' a .int (vs.set j.toNatClampNeg (.int x)) → G (T'.setTop (mkF m q Ls S))) : G (T.setTop (mkF m pc Ls (.int x :: .int j :: .ref a :: S))) := by
  subst hq
  obtain ⟨cl, A, r⟩ := F
  obtain ⟨T', h', X', e', W', st⟩ := stI X hx hZ eT A (j := j) (own_in r h0 h1) (g := mkF m pc Ls (.int x :: .int j :: .ref a :: S)) rfl rfl (hb hby hd)
  exact K _ _ st (k T' h' X' e' W' (Av.set ⟨cl, A, r⟩ W'))
theorem k_stJ (K : Cl p e below G) (X : Stand p l e R s m args below meth c T locs cells slots) (hx : p.tables.exec = Jvm.exec) (hby : c.code = bs) (hZ : Z.Warmed39 s.vm) (eT : T.heap = h) (F : Av Z h a .long vs) {j : Int32} {x : Int64} (h0 : ¬ j < 0) (h1 : j.toNatClampNeg < vs.length) (hd : decode bs pc = .ok (.lastore, 1)) (hq : pc + 1 = q) (k : ∀ T' h', Stand p l e R s m args below meth c T' (locs ++ [⟨a, j.toNatClampNeg⟩]) cells slots → T'.heap = h' → Wr h h' a j.toNatClampNeg (.long x) → Av Z h' a .long (vs.set j.toNatClampNeg (.long x)) → G (T'.setTop (mkF m q Ls S))) : G (T.setTop (mkF m pc Ls (.long x :: .int j :: .ref a :: S))) := by
  subst hq
  obtain ⟨cl, A, r⟩ := F
  obtain ⟨T', h', X', e', W', st⟩ := stJ X hx hZ eT A (j := j) (own_in r h0 h1) (g := mkF m pc Ls (.long x :: .int j :: .ref a :: S)) rfl rfl (hb hby hd)
  exact K _ _ st (k T' h' X' e' W' (Av.set ⟨cl, A, r⟩ W'))
theorem k_stC (K : Cl p e below G) (X : Stand p l e R s m args below meth c T locs cells slots) (hx : p.tables.exec = Jvm.exec) (hby : c.code = bs) (hZ : Z.Warmed39 s.vm) (eT : T.heap = h) (F : Av Z h a .char vs) {j : Int32} {x : Int32} (h0 : ¬ j < 0) (h1 : j.toNatClampNeg < vs.length) (hd : decode bs pc = .ok (.castore, 1)) (hq : pc + 1 = q) (k : ∀ T' h', Stand p l e R s m args below meth c T' (locs ++ [⟨a, j.toNatClampNeg⟩]) cells slots → T'.heap = h' → Wr h h' a j.toNatClampNeg (.int (nar .char x)) → Av Z h' a .char (vs.set j.toNatClampNeg (.int (nar .char x))) → G (T'.setTop (mkF m q Ls S))) : G (T.setTop (mkF m pc Ls (.int x :: .int j :: .ref a :: S))) := by
  subst hq
  obtain ⟨cl, A, r⟩ := F
  obtain ⟨T', h', X', e', W', st⟩ := stC X hx hZ eT A (j := j) (own_in r h0 h1) (g := mkF m pc Ls (.int x :: .int j :: .ref a :: S)) rfl rfl (hb hby hd)
  exact K _ _ st (k T' h' X' e' W' (Av.set ⟨cl, A, r⟩ W'))
theorem k_stB (K : Cl p e below G) (X : Stand p l e R s m args below meth c T locs cells slots) (hx : p.tables.exec = Jvm.exec) (hby : c.code = bs) (hZ : Z.Warmed39 s.vm) (eT : T.heap = h) (F : Av Z h a .byte vs) {j : Int32} {x : Int32} (h0 : ¬ j < 0) (h1 : j.toNatClampNeg < vs.length) (hd : decode bs pc = .ok (.bastore, 1)) (hq : pc + 1 = q) (k : ∀ T' h', Stand p l e R s m args below meth c T' (locs ++ [⟨a, j.toNatClampNeg⟩]) cells slots → T'.heap = h' → Wr h h' a j.toNatClampNeg (.int (nar .byte x)) → Av Z h' a .byte (vs.set j.toNatClampNeg (.int (nar .byte x))) → G (T'.setTop (mkF m q Ls S))) : G (T.setTop (mkF m pc Ls (.int x :: .int j :: .ref a :: S))) := by
  subst hq
  obtain ⟨cl, A, r⟩ := F
  obtain ⟨T', h', X', e', W', st⟩ := stB X hx hZ eT A (j := j) (own_in r h0 h1) (g := mkF m pc Ls (.int x :: .int j :: .ref a :: S)) rfl rfl (hb hby hd)
  exact K _ _ st (k T' h' X' e' W' (Av.set ⟨cl, A, r⟩ W'))
theorem k_stZ (K : Cl p e below G) (X : Stand p l e R s m args below meth c T locs cells slots) (hx : p.tables.exec = Jvm.exec) (hby : c.code = bs) (hZ : Z.Warmed39 s.vm) (eT : T.heap = h) (F : Av Z h a .boolean vs) {j : Int32} {x : Int32} (h0 : ¬ j < 0) (h1 : j.toNatClampNeg < vs.length) (hd : decode bs pc = .ok (.bastore, 1)) (hq : pc + 1 = q) (k : ∀ T' h', Stand p l e R s m args below meth c T' (locs ++ [⟨a, j.toNatClampNeg⟩]) cells slots → T'.heap = h' → Wr h h' a j.toNatClampNeg (.int (nar .boolean x)) → Av Z h' a .boolean (vs.set j.toNatClampNeg (.int (nar .boolean x))) → G (T'.setTop (mkF m q Ls S))) : G (T.setTop (mkF m pc Ls (.int x :: .int j :: .ref a :: S))) := by
  subst hq
  obtain ⟨cl, A, r⟩ := F
  obtain ⟨T', h', X', e', W', st⟩ := stZ X hx hZ eT A (j := j) (own_in r h0 h1) (g := mkF m pc Ls (.int x :: .int j :: .ref a :: S)) rfl rfl (hb hby hd)
  exact K _ _ st (k T' h' X' e' W' (Av.set ⟨cl, A, r⟩ W'))
theorem k_stD (K : Cl p e below G) (X : Stand p l e R s m args below meth c T locs cells slots) (hx : p.tables.exec = Jvm.exec) (hby : c.code = bs) (hZ : Z.Warmed39 s.vm) (eT : T.heap = h) (F : Av Z h a .double vs) {j : Int32} {x : UInt64} (h0 : ¬ j < 0) (h1 : j.toNatClampNeg < vs.length) (hd : decode bs pc = .ok (.dastore, 1)) (hq : pc + 1 = q) (k : ∀ T' h', Stand p l e R s m args below meth c T' (locs ++ [⟨a, j.toNatClampNeg⟩]) cells slots → T'.heap = h' → Wr h h' a j.toNatClampNeg (.double x) → Av Z h' a .double (vs.set j.toNatClampNeg (.double x)) → G (T'.setTop (mkF m q Ls S))) : G (T.setTop (mkF m pc Ls (.double x :: .int j :: .ref a :: S))) := by
  subst hq
  obtain ⟨cl, A, r⟩ := F
  obtain ⟨T', h', X', e', W', st⟩ := stD X hx hZ eT A (j := j) (own_in r h0 h1) (g := mkF m pc Ls (.double x :: .int j :: .ref a :: S)) rfl rfl (hb hby hd)
  exact K _ _ st (k T' h' X' e' W' (Av.set ⟨cl, A, r⟩ W'))
def Avr (Z : State) (h : Heap) (a : Addr) (C : String) (vs : List Value) : Prop := ∃ cl : Cell, Arr Z h a cl (.object C) ∧ cl.slots = vs.toArray ∧ Ovr Z cl.cls C
variable {C : String}
theorem Avr.av (F : Avr Z h a C vs) : Av Z h a (.object C) vs := by obtain ⟨c, A, r, -⟩ := F; exact ⟨c, A, r⟩
theorem Avr.lt (F : Avr Z h a C vs) : a < h.size := F.av.lt
theorem Avr.ext (F : Avr Z h a C vs) (E : Ext h h') : Avr Z h' a C vs := by obtain ⟨c, A, r⟩ := F; exact ⟨c, A.ext E, r⟩
theorem Avr.other (F : Avr Z h b C vs) (W : Wr h h' a sl v) (q : b ≠ a) : Avr Z h' b C vs := by obtain ⟨c, A, r⟩ := F; exact ⟨c, A.other W q, r⟩
theorem Avr.keep (F : Avr Z h a C vs) (K : Keep h h' ws) (q : a ∉ ws) : Avr Z h' a C vs := by obtain ⟨c, A, r⟩ := F; exact ⟨c, ⟨K.2.1 a c A.1 q, A.2⟩, r⟩
theorem Avr.new {k : ClassId} {z : Int32} {n : Nat} (A : Arr Z h a (newA k (.object C) z) (.object C)) (O : Ovr Z k C) (hn : z.toNatClampNeg = n) : Avr Z h a C (List.replicate n .null) := ⟨_, A, by subst hn; simp [newA, defaultValue], O⟩
theorem Avr.set (F : Avr Z h a C vs) (W : Wr h h' a sl v) : Avr Z h' a C (vs.set sl v) := by
  obtain ⟨c, A, r, O⟩ := F
  exact ⟨_, A.same W, by simp [Cell.setSlot, r], O⟩
theorem k_stR (K : Cl p e below G) (X : Stand p l e R s m args below meth c T locs cells slots) (hx : p.tables.exec = Jvm.exec) (hby : c.code = bs) (hZ : Z.Warmed39 s.vm) (eT : T.heap = h) (F : Avr Z h a C vs) {j : Int32} (h0 : ¬ j < 0) (h1 : j.toNatClampNeg < vs.length) (hv : v = .null ∨ ∃ y, v = .ref y ∧ Ins Z h y C true) (hd : decode bs pc = .ok (.aastore, 1)) (hq : pc + 1 = q) (k : ∀ T' h', Stand p l e R s m args below meth c T' (locs ++ [⟨a, j.toNatClampNeg⟩]) cells slots → T'.heap = h' → Wr h h' a j.toNatClampNeg v → Avr Z h' a C (vs.set j.toNatClampNeg v) → G (T'.setTop (mkF m q Ls S))) : G (T.setTop (mkF m pc Ls (v :: .int j :: .ref a :: S))) := by
  subst hq
  obtain ⟨cl, A, r, O⟩ := F
  have St : Sto Z h a v := by
    rcases hv with rfl | ⟨y, rfl, I⟩
    · exact Or.inl rfl
    · exact Sto.of A O I
  obtain ⟨T', h', X', e', W', st⟩ := stR X hx hZ eT A (j := j) (own_in r h0 h1) rfl St (g := mkF m pc Ls (v :: .int j :: .ref a :: S)) rfl rfl (hb hby hd)
  exact K _ _ st (k T' h' X' e' W' (Avr.set ⟨cl, A, r, O⟩ W'))
theorem k_newP (K : Cl p e below G) (X : Stand p l e R s m args below meth c T locs cells slots) (hx : p.tables.exec = Jvm.exec) (hby : c.code = bs) (hZ : Z.Warmed39 s.vm) {aty : ArrayType} {n : Int32} (N cap : Nat) (w : (Jvm.Cond.arrayClass (newarray.typeOf aty)).before a0 Z = true) (eT : T.heap = h) (hd : decode bs pc = .ok (.newarray aty, 2)) (hq : pc + 2 = q) (hn : ¬ n < 0) (hN : n.toNatClampNeg = N) (hcap : N ≤ cap) (hcb : cap * 8 ≤ 536870912) (hc : cells + 1 ≤ R.cells) (hl : slots + cap ≤ R.slots)
    (k : ∀ T' h' b, Stand p l e R s m args below meth c T' locs (cells + 1) (slots + cap) → T'.heap = h' → Ext h h' → b = h.size → Av Z h' b (newarray.typeOf aty) (List.replicate N (defaultValue (newarray.typeOf aty))) → G (T'.setTop (mkF m q Ls (.ref b :: S)))) : G (T.setTop (mkF m pc Ls (.int n :: S))) := by
  subst hq hN
  obtain ⟨T', h', kA, X', e', E', A', st⟩ := newP X hx hZ w eT (g := mkF m pc Ls (.int n :: S)) rfl (hb hby hd) rfl hn hcap hcb hc hl
  exact K _ _ st (k T' h' _ X' e' E' rfl (Av.new A' rfl))
theorem k_newR (K : Cl p e below G) (X : Stand p l e R s m args below meth c T locs cells slots) (hx : p.tables.exec = Jvm.exec) (hby : c.code = bs) (hZ : Z.Warmed39 s.vm) {own : String} {i : Nat} {n : Int32} (N cap : Nat) (hown : s.vm.findClass own = some m.cls) (w1 : (Jvm.Cond.classLink own i C).before a0 Z = true) (w2 : (Jvm.Cond.arrayOver (.object C)).before a0 Z = true) (eT : T.heap = h) (hd : decode bs pc = .ok (.anewarray i, 3)) (hq : pc + 3 = q) (hn : ¬ n < 0) (hN : n.toNatClampNeg = N) (hcap : N ≤ cap) (hcb : cap * 8 ≤ 536870912) (hc : cells + 1 ≤ R.cells) (hl : slots + cap ≤ R.slots)
    (k : ∀ T' h' b, Stand p l e R s m args below meth c T' locs (cells + 1) (slots + cap) → T'.heap = h' → Ext h h' → b = h.size → Avr Z h' b C (List.replicate N .null) → G (T'.setTop (mkF m q Ls (.ref b :: S)))) : G (T.setTop (mkF m pc Ls (.int n :: S))) := by
  subst hq hN
  obtain ⟨T', h', kA, X', e', E', A', O', st⟩ := newR X hx hZ hown w1 w2 eT (g := mkF m pc Ls (.int n :: S)) rfl (hb hby hd) rfl hn hcap hcb hc hl
  exact K _ _ st (k T' h' _ X' e' E' rfl (Avr.new A' O' rfl))
theorem own_ge {H : Heap} {b c : Addr} {j : Nat} (g : b = H.size) (q : c = b + 1 + j) : H.size ≤ c := by subst g q; exact Nat.le_trans (Nat.le_add_right _ _) (Nat.le_add_right _ _)
theorem own_le {b c : Addr} {j : Nat} (q : c = b + 1 + j) : b ≤ c := by subst q; exact Nat.le_trans (Nat.le_add_right _ _) (Nat.le_add_right _ _)
theorem own_ne {b c : Addr} {j : Nat} (q : c = b + 1 + j) : b ≠ c := by subst q; exact Nat.ne_of_lt (Nat.lt_of_lt_of_le (Nat.lt_succ_self _) (Nat.le_add_right _ _))
theorem own_ne2 {b c d : Addr} {i j : Nat} (q : c = b + 1 + i) (r : d = b + 1 + j) (h : i ≠ j) : c ≠ d := by subst q r; exact fun e => h (Nat.add_left_cancel e)
end OwnArr
def w1_1 (q1 : Int64) (p2 : Int32) : Int64 := ((q1.toUInt64 >>> (((21 : Int32) * p2) &&& 0x3f).toInt64.toUInt64).toInt64)
def w1_2 (q1 : Int64) (p2 : Int32) : Int64 := (((w1_1 q1 p2) &&& (2097151 : Int64)) - (1048576 : Int64))
def FLD (q1 : Int64) (p2 : Int32) : Int64 := (w1_2 q1 p2)
theorem d_method_2_0 : decode method_2_code 0 = .ok (.lload_n 0, 1) := by decide +kernel
theorem d_method_2_1 : decode method_2_code 1 = .ok (.bipush 21, 2) := by decide +kernel
theorem d_method_2_3 : decode method_2_code 3 = .ok (.iload_n 2, 1) := by decide +kernel
theorem d_method_2_4 : decode method_2_code 4 = .ok (.imul, 1) := by decide +kernel
theorem d_method_2_5 : decode method_2_code 5 = .ok (.lushr, 1) := by decide +kernel
theorem d_method_2_6 : decode method_2_code 6 = .ok (.ldc2_w 7, 3) := by decide +kernel
theorem d_method_2_9 : decode method_2_code 9 = .ok (.land, 1) := by decide +kernel
theorem d_method_2_10 : decode method_2_code 10 = .ok (.ldc2_w 9, 3) := by decide +kernel
theorem d_method_2_13 : decode method_2_code 13 = .ok (.lsub, 1) := by decide +kernel
theorem d_method_2_14 : decode method_2_code 14 = .ok (.lreturn, 1) := by decide +kernel
theorem pn_com_example_askance_askance_KdTreeSumOfSquaresPinLaw : plainName "com/example/askance/askance/KdTreeSumOfSquaresPinLaw" = true := by first | (simp [plainName, overriddenIn]; done) | decide +kernel
theorem ef1 (m : MethodId) (x0 : Int64) (x1 : Int32) : entryFrame m #[(.long x0), (.int x1)] 3 = mkF m 0 #[.val (.long x0), .second, .val (.int x1)] [] := by first | (simp [entryFrame, mkF, argsToLocals, Value.category]; done) | rfl
set_option maxRecDepth 65536 in
set_option maxHeartbeats 40000000 in
theorem c1 (l : Launch) (Z : State) (a0 : Array Value) (hw : ∀ d ∈ tables_1, d.before a0 Z = true) (q1 : Int64) (p2 : Int32) (h0 : Heap) (n0 : Nat) (Z0 : n0 ≤ h0.size) :
    Con l Z (⟨"com/example/askance/askance/KdTreeSumOfSquaresPinLaw", "field", "(JI)J"⟩ : MethodName) method_2_code 3 (some .long) ({ frames := 0, cells := 0, slots := 0, locals := 0 } : Room) [] #[(.long q1), (.int p2)] h0 (fun v h L => v = some (.long (FLD q1 p2)) ∧ h = h0 ∧ L = []) := by
  refine Con.of (plainFor_of_name pn_com_example_askance_askance_KdTreeSumOfSquaresPinLaw) #[.val (.long q1), .second, .val (.int p2)] (fun m => ef1 m q1 p2) ?_
  intro p e s m below meth c s₁ K hx hby hml hown hnm hret hlk hZ X0 e0
  have N0 := Fr.nil n0
  refine m_lloadN K X0.here hx hby d_method_2_0 rfl rfl ?_
  refine m_bipush K X0.here hx hby (21 : Int32) d_method_2_1 rfl rfl ?_
  refine m_iloadN K X0.here hx hby d_method_2_3 rfl rfl ?_
  refine m_imul K X0.here hx hby ((21 : Int32) * p2) d_method_2_4 rfl rfl ?_
  refine m_lushr K X0.here hx hby (w1_1 q1 p2) d_method_2_5 rfl rfl ?_
  refine m_ldc2 K X0 hx hby hZ hown (hw _ (List.mem_of_getElem? (i := 4) rfl)) d_method_2_6 rfl ?_
  refine m_land K X0.here hx hby ((w1_1 q1 p2) &&& (2097151 : Int64)) d_method_2_9 rfl rfl ?_
  refine m_ldc2 K X0 hx hby hZ hown (hw _ (List.mem_of_getElem? (i := 5) rfl)) d_method_2_10 rfl ?_
  refine m_lsub K X0.here hx hby (w1_2 q1 p2) d_method_2_13 rfl rfl ?_
  exact Go.retO X0 hx hby hlk hret rfl (Or.inr (Or.inl ⟨rfl, rfl, _, rfl⟩)) d_method_2_14 (by decide) (by decide) (⟨congrArg (fun z => some (Value.long z)) (rfl), e0, rfl⟩)
def SQ (q1 : Int64) : Int64 := (q1 * q1)
theorem d_method_3_0 : decode method_3_code 0 = .ok (.lload_n 0, 1) := by decide +kernel
theorem d_method_3_1 : decode method_3_code 1 = .ok (.lload_n 0, 1) := by decide +kernel
theorem d_method_3_2 : decode method_3_code 2 = .ok (.lmul, 1) := by decide +kernel
theorem d_method_3_3 : decode method_3_code 3 = .ok (.lreturn, 1) := by decide +kernel
theorem ef3 (m : MethodId) (x0 : Int64) : entryFrame m #[(.long x0)] 2 = mkF m 0 #[.val (.long x0), .second] [] := by first | (simp [entryFrame, mkF, argsToLocals, Value.category]; done) | rfl
set_option maxRecDepth 65536 in
set_option maxHeartbeats 40000000 in
theorem c3 (l : Launch) (Z : State) (a0 : Array Value) (hw : ∀ d ∈ tables_1, d.before a0 Z = true) (q1 : Int64) (h0 : Heap) (n0 : Nat) (Z0 : n0 ≤ h0.size) :
    Con l Z (⟨"com/example/askance/askance/KdTreeSumOfSquaresPinLaw", "sq", "(J)J"⟩ : MethodName) method_3_code 2 (some .long) ({ frames := 0, cells := 0, slots := 0, locals := 0 } : Room) [] #[(.long q1)] h0 (fun v h L => v = some (.long (SQ q1)) ∧ h = h0 ∧ L = []) := by
  refine Con.of (plainFor_of_name pn_com_example_askance_askance_KdTreeSumOfSquaresPinLaw) #[.val (.long q1), .second] (fun m => ef3 m q1) ?_
  intro p e s m below meth c s₁ K hx hby hml hown hnm hret hlk hZ X0 e0
  have N0 := Fr.nil n0
  refine m_lloadN K X0.here hx hby d_method_3_0 rfl rfl ?_
  refine m_lloadN K X0.here hx hby d_method_3_1 rfl rfl ?_
  refine m_lmul K X0.here hx hby (q1 * q1) d_method_3_2 rfl rfl ?_
  exact Go.retO X0 hx hby hlk hret rfl (Or.inr (Or.inl ⟨rfl, rfl, _, rfl⟩)) d_method_3_3 (by decide) (by decide) (⟨congrArg (fun z => some (Value.long z)) (rfl), e0, rfl⟩)
theorem own_d0 : FP.dconst0 = FP.l2d 0 := by decide +kernel
def Bd (k : Int) (a : Int64) : Prop := -k ≤ a.toInt ∧ a.toInt ≤ k
theorem own_bd0 : Bd 0 0 := ⟨by decide, by decide⟩
theorem Bd.b53 {k : Int} {a : Int64} (h : Bd k a) (hk : k < 9007199254740992) : B53 a := ⟨by have := h.1; omega, by have := h.2; omega⟩
theorem Bd.sub {j k : Int} {x y : Int64} (hx : Bd j x) (hy : Bd k y) (h : j + k < 9223372036854775808) : Bd (j + k) (x - y) := by
  obtain ⟨a1, a2⟩ := hx
  obtain ⟨b1, b2⟩ := hy
  have e : (x - y).toInt = x.toInt - y.toInt := by
    have hs := c_lsub x y
    have hr := rng64 (x - y)
    omega
  exact ⟨by omega, by omega⟩
theorem Bd.add {j k : Int} {x y : Int64} (hx : Bd j x) (hy : Bd k y) (h : j + k < 9223372036854775808) : Bd (j + k) (x + y) := by
  obtain ⟨a1, a2⟩ := hx
  obtain ⟨b1, b2⟩ := hy
  have e : (x + y).toInt = x.toInt + y.toInt := by
    have hs := c_ladd x y
    have hr := rng64 (x + y)
    omega
  exact ⟨by omega, by omega⟩
theorem Bd.sq {j : Int} {x : Int64} (hx : Bd j x) (h : j * j < 9223372036854775808) : Bd (j * j) (x * x) := by
  obtain ⟨a1, a2⟩ := hx
  have h1 : x.toInt * x.toInt ≤ j * j := by
    rcases Int.le_total 0 x.toInt with q | q
    · exact Int.mul_le_mul a2 a2 q (by omega)
    · have := Int.mul_le_mul (show -x.toInt ≤ j by omega) (show -x.toInt ≤ j by omega) (by omega) (by omega)
      rwa [Int.neg_mul_neg] at this
  have h0 : 0 ≤ x.toInt * x.toInt := by
    rcases Int.le_total 0 x.toInt with q | q
    · exact Int.mul_nonneg q q
    · have := Int.mul_nonneg (show 0 ≤ -x.toInt by omega) (show 0 ≤ -x.toInt by omega)
      rwa [Int.neg_mul_neg] at this
  have e : (x * x).toInt = x.toInt * x.toInt := by
    have hs := c_lmul x x
    have hr := rng64 (x * x)
    omega
  exact ⟨by omega, by omega⟩
theorem own_dsub {j k : Int} {x y : Int64} (hx : Bd j x) (hy : Bd k y) (h1 : j < 9007199254740992) (h2 : k < 9007199254740992) : FP.dsub (FP.l2d x) (FP.l2d y) = FP.l2d (x - y) := dsub_w (hx.b53 h1) (hy.b53 h2)
theorem own_dadd {j k : Int} {x y : Int64} (hx : Bd j x) (hy : Bd k y) (h1 : j < 9007199254740992) (h2 : k < 9007199254740992) : FP.dadd (FP.l2d x) (FP.l2d y) = FP.l2d (x + y) := dadd_w (hx.b53 h1) (hy.b53 h2)
theorem own_dmul {j : Int} {x : Int64} (hx : Bd j x) (h1 : j < 9007199254740992) (h2 : j * j < 9223372036854775808) : FP.dmul (FP.l2d x) (FP.l2d x) = FP.l2d (x * x) := by
  refine dmul_k hx.1 hx.2 hx.1 hx.2 h1 h1 h2 ?_ ?_ <;> (rintro ⟨rfl, q⟩; exact absurd q (by decide))
theorem own_fld (q : Int64) (p : Int32) : Bd 1048576 (FLD q p) := by
  have hm := c_maskL ((q.toUInt64 >>> (((21 : Int32) * p) &&& 0x3f).toInt64.toUInt64).toInt64) (2097151 : Int64) 21 (by decide) (by decide)
  have hs := c_lsub (((q.toUInt64 >>> (((21 : Int32) * p) &&& 0x3f).toInt64.toUInt64).toInt64) &&& (2097151 : Int64)) (1048576 : Int64)
  have hr := rng64 ((((q.toUInt64 >>> (((21 : Int32) * p) &&& 0x3f).toInt64.toUInt64).toInt64) &&& (2097151 : Int64)) - (1048576 : Int64))
  have e : (1048576 : Int64).toInt = 1048576 := by decide
  have g : FLD q p = (((q.toUInt64 >>> (((21 : Int32) * p) &&& 0x3f).toInt64.toUInt64).toInt64) &&& (2097151 : Int64)) - (1048576 : Int64) := rfl
  rw [g]
  exact ⟨by omega, by omega⟩
def SS_0_0  : Int64 := 0
theorem d_prog_7_7_0 : decode prog_7_method_7_code 0 = .ok (.dconst 0, 1) := by decide +kernel
theorem d_prog_7_7_1 : decode prog_7_method_7_code 1 = .ok (.dstore_n 3, 1) := by decide +kernel
theorem d_prog_7_7_2 : decode prog_7_method_7_code 2 = .ok (.iconst 0, 1) := by decide +kernel
theorem d_prog_7_7_3 : decode prog_7_method_7_code 3 = .ok (.istore 5, 2) := by decide +kernel
theorem d_prog_7_7_5 : decode prog_7_method_7_code 5 = .ok (.iload 5, 2) := by decide +kernel
theorem d_prog_7_7_7 : decode prog_7_method_7_code 7 = .ok (.aload_n 0, 1) := by decide +kernel
theorem d_prog_7_7_8 : decode prog_7_method_7_code 8 = .ok (.arraylength, 1) := by decide +kernel
theorem d_prog_7_7_9 : decode prog_7_method_7_code 9 = .ok (.if_icmp .ge 30, 3) := by decide +kernel
theorem d_prog_7_7_39 : decode prog_7_method_7_code 39 = .ok (.dload_n 3, 1) := by decide +kernel
theorem d_prog_7_7_40 : decode prog_7_method_7_code 40 = .ok (.dreturn, 1) := by decide +kernel
theorem pn_com_example_askance_askance_KdTree : plainName "com/example/askance/askance/KdTree" = true := by first | (simp [plainName, overriddenIn]; done) | decide +kernel
theorem ef2_0_0 (m : MethodId) (x0 : Addr) (x1 : Addr) (x2 : Int32) : entryFrame m #[(.ref x0), (.ref x1), (.int x2)] 8 = mkF m 0 #[.val (.ref x0), .val (.ref x1), .val (.int x2), .unset, .unset, .unset, .unset, .unset] [] := by first | (simp [entryFrame, mkF, argsToLocals, Value.category]; done) | rfl
set_option maxRecDepth 65536 in
set_option maxHeartbeats 40000000 in
theorem c2_0_0 (l : Launch) (Z : State) (a0 : Array Value) (hw : ∀ d ∈ tables_1, d.before a0 Z = true) (a1 : Addr) (a2 : Addr) (y0 : Int64) (y1 : Int64) (y2 : Int64) (y3 : Int64) (y4 : Int64) (y5 : Int64) (h0 : Heap) (n0 : Nat) (Z0 : n0 ≤ h0.size) (A_a1 : Av Z h0 a1 .double []) (A_a2 : Av Z h0 a2 .double [(.double (FP.l2d y0)), (.double (FP.l2d y1)), (.double (FP.l2d y2)), (.double (FP.l2d y3)), (.double (FP.l2d y4)), (.double (FP.l2d y5))]) :
    Con l Z (⟨"com/example/askance/askance/KdTree", "sumOfSquares", "([D[DI)D"⟩ : MethodName) prog_7_method_7_code 8 (some .double) ({ frames := 0, cells := 0, slots := 0, locals := 0 } : Room) [] #[(.ref a1), (.ref a2), (.int (0 : Int32))] h0 (fun v h L => v = some (.double (FP.l2d (SS_0_0 ))) ∧ h = h0 ∧ L = []) := by
  refine Con.of (plainFor_of_name pn_com_example_askance_askance_KdTree) #[.val (.ref a1), .val (.ref a2), .val (.int (0 : Int32)), .unset, .unset, .unset, .unset, .unset] (fun m => ef2_0_0 m a1 a2 (0 : Int32)) ?_
  intro p e s m below meth c s₁ K hx hby hml hown hnm hret hlk hZ X0 e0
  have N0 := Fr.nil n0
  refine m_dconst0 K X0.here hx hby (FP.l2d 0) d_prog_7_7_0 own_d0 rfl ?_
  refine m_dstoreN K X0.here hx hby #[.val (.ref a1), .val (.ref a2), .val (.int (0 : Int32)), .val (.double (FP.l2d 0)), .second, .unset, .unset, .unset] d_prog_7_7_1 rfl rfl ?_
  refine m_iconst K X0.here hx hby (0 : Int32) d_prog_7_7_2 rfl rfl ?_
  refine m_istore K X0.here hx hby #[.val (.ref a1), .val (.ref a2), .val (.int (0 : Int32)), .val (.double (FP.l2d 0)), .second, .val (.int (0 : Int32)), .unset, .unset] d_prog_7_7_3 rfl rfl ?_
  refine m_iload K X0.here hx hby d_prog_7_7_5 rfl rfl ?_
  refine m_aloadN K X0.here hx hby d_prog_7_7_7 rfl rfl rfl ?_
  refine k_len K X0 hx hby hZ (0 : Int32) e0 A_a1 rfl d_prog_7_7_8 rfl ?_
  refine m_icmpY K X0.here hx hby (q := 39) d_prog_7_7_9 (flt (by decide : ¬ ((0 : Int32) < (0 : Int32)))).2.1 (by decide) rfl ?_
  refine m_dloadN K X0.here hx hby d_prog_7_7_39 rfl rfl ?_
  exact Go.retO X0 hx hby hlk hret rfl (Or.inr (Or.inr (Or.inl ⟨rfl, rfl, _, rfl⟩))) d_prog_7_7_40 (by decide) (by decide) (⟨rfl, e0, rfl⟩)
def SS_0_1  : Int64 := 0
theorem ef2_0_1 (m : MethodId) (x0 : Addr) (x1 : Addr) (x2 : Int32) : entryFrame m #[(.ref x0), (.ref x1), (.int x2)] 8 = mkF m 0 #[.val (.ref x0), .val (.ref x1), .val (.int x2), .unset, .unset, .unset, .unset, .unset] [] := by first | (simp [entryFrame, mkF, argsToLocals, Value.category]; done) | rfl
set_option maxRecDepth 65536 in
set_option maxHeartbeats 40000000 in
theorem c2_0_1 (l : Launch) (Z : State) (a0 : Array Value) (hw : ∀ d ∈ tables_1, d.before a0 Z = true) (a1 : Addr) (a2 : Addr) (y0 : Int64) (y1 : Int64) (y2 : Int64) (y3 : Int64) (y4 : Int64) (y5 : Int64) (h0 : Heap) (n0 : Nat) (Z0 : n0 ≤ h0.size) (A_a1 : Av Z h0 a1 .double []) (A_a2 : Av Z h0 a2 .double [(.double (FP.l2d y0)), (.double (FP.l2d y1)), (.double (FP.l2d y2)), (.double (FP.l2d y3)), (.double (FP.l2d y4)), (.double (FP.l2d y5))]) :
    Con l Z (⟨"com/example/askance/askance/KdTree", "sumOfSquares", "([D[DI)D"⟩ : MethodName) prog_7_method_7_code 8 (some .double) ({ frames := 0, cells := 0, slots := 0, locals := 0 } : Room) [] #[(.ref a1), (.ref a2), (.int (1 : Int32))] h0 (fun v h L => v = some (.double (FP.l2d (SS_0_1 ))) ∧ h = h0 ∧ L = []) := by
  refine Con.of (plainFor_of_name pn_com_example_askance_askance_KdTree) #[.val (.ref a1), .val (.ref a2), .val (.int (1 : Int32)), .unset, .unset, .unset, .unset, .unset] (fun m => ef2_0_1 m a1 a2 (1 : Int32)) ?_
  intro p e s m below meth c s₁ K hx hby hml hown hnm hret hlk hZ X0 e0
  have N0 := Fr.nil n0
  refine m_dconst0 K X0.here hx hby (FP.l2d 0) d_prog_7_7_0 own_d0 rfl ?_
  refine m_dstoreN K X0.here hx hby #[.val (.ref a1), .val (.ref a2), .val (.int (1 : Int32)), .val (.double (FP.l2d 0)), .second, .unset, .unset, .unset] d_prog_7_7_1 rfl rfl ?_
  refine m_iconst K X0.here hx hby (0 : Int32) d_prog_7_7_2 rfl rfl ?_
  refine m_istore K X0.here hx hby #[.val (.ref a1), .val (.ref a2), .val (.int (1 : Int32)), .val (.double (FP.l2d 0)), .second, .val (.int (0 : Int32)), .unset, .unset] d_prog_7_7_3 rfl rfl ?_
  refine m_iload K X0.here hx hby d_prog_7_7_5 rfl rfl ?_
  refine m_aloadN K X0.here hx hby d_prog_7_7_7 rfl rfl rfl ?_
  refine k_len K X0 hx hby hZ (0 : Int32) e0 A_a1 rfl d_prog_7_7_8 rfl ?_
  refine m_icmpY K X0.here hx hby (q := 39) d_prog_7_7_9 (flt (by decide : ¬ ((0 : Int32) < (0 : Int32)))).2.1 (by decide) rfl ?_
  refine m_dloadN K X0.here hx hby d_prog_7_7_39 rfl rfl ?_
  exact Go.retO X0 hx hby hlk hret rfl (Or.inr (Or.inr (Or.inl ⟨rfl, rfl, _, rfl⟩))) d_prog_7_7_40 (by decide) (by decide) (⟨rfl, e0, rfl⟩)
def SS_0_2  : Int64 := 0
theorem ef2_0_2 (m : MethodId) (x0 : Addr) (x1 : Addr) (x2 : Int32) : entryFrame m #[(.ref x0), (.ref x1), (.int x2)] 8 = mkF m 0 #[.val (.ref x0), .val (.ref x1), .val (.int x2), .unset, .unset, .unset, .unset, .unset] [] := by first | (simp [entryFrame, mkF, argsToLocals, Value.category]; done) | rfl
set_option maxRecDepth 65536 in
set_option maxHeartbeats 40000000 in
theorem c2_0_2 (l : Launch) (Z : State) (a0 : Array Value) (hw : ∀ d ∈ tables_1, d.before a0 Z = true) (a1 : Addr) (a2 : Addr) (y0 : Int64) (y1 : Int64) (y2 : Int64) (y3 : Int64) (y4 : Int64) (y5 : Int64) (h0 : Heap) (n0 : Nat) (Z0 : n0 ≤ h0.size) (A_a1 : Av Z h0 a1 .double []) (A_a2 : Av Z h0 a2 .double [(.double (FP.l2d y0)), (.double (FP.l2d y1)), (.double (FP.l2d y2)), (.double (FP.l2d y3)), (.double (FP.l2d y4)), (.double (FP.l2d y5))]) :
    Con l Z (⟨"com/example/askance/askance/KdTree", "sumOfSquares", "([D[DI)D"⟩ : MethodName) prog_7_method_7_code 8 (some .double) ({ frames := 0, cells := 0, slots := 0, locals := 0 } : Room) [] #[(.ref a1), (.ref a2), (.int (2 : Int32))] h0 (fun v h L => v = some (.double (FP.l2d (SS_0_2 ))) ∧ h = h0 ∧ L = []) := by
  refine Con.of (plainFor_of_name pn_com_example_askance_askance_KdTree) #[.val (.ref a1), .val (.ref a2), .val (.int (2 : Int32)), .unset, .unset, .unset, .unset, .unset] (fun m => ef2_0_2 m a1 a2 (2 : Int32)) ?_
  intro p e s m below meth c s₁ K hx hby hml hown hnm hret hlk hZ X0 e0
  have N0 := Fr.nil n0
  refine m_dconst0 K X0.here hx hby (FP.l2d 0) d_prog_7_7_0 own_d0 rfl ?_
  refine m_dstoreN K X0.here hx hby #[.val (.ref a1), .val (.ref a2), .val (.int (2 : Int32)), .val (.double (FP.l2d 0)), .second, .unset, .unset, .unset] d_prog_7_7_1 rfl rfl ?_
  refine m_iconst K X0.here hx hby (0 : Int32) d_prog_7_7_2 rfl rfl ?_
  refine m_istore K X0.here hx hby #[.val (.ref a1), .val (.ref a2), .val (.int (2 : Int32)), .val (.double (FP.l2d 0)), .second, .val (.int (0 : Int32)), .unset, .unset] d_prog_7_7_3 rfl rfl ?_
  refine m_iload K X0.here hx hby d_prog_7_7_5 rfl rfl ?_
  refine m_aloadN K X0.here hx hby d_prog_7_7_7 rfl rfl rfl ?_
  refine k_len K X0 hx hby hZ (0 : Int32) e0 A_a1 rfl d_prog_7_7_8 rfl ?_
  refine m_icmpY K X0.here hx hby (q := 39) d_prog_7_7_9 (flt (by decide : ¬ ((0 : Int32) < (0 : Int32)))).2.1 (by decide) rfl ?_
  refine m_dloadN K X0.here hx hby d_prog_7_7_39 rfl rfl ?_
  exact Go.retO X0 hx hby hlk hret rfl (Or.inr (Or.inr (Or.inl ⟨rfl, rfl, _, rfl⟩))) d_prog_7_7_40 (by decide) (by decide) (⟨rfl, e0, rfl⟩)
def SS_0_3  : Int64 := 0
theorem ef2_0_3 (m : MethodId) (x0 : Addr) (x1 : Addr) (x2 : Int32) : entryFrame m #[(.ref x0), (.ref x1), (.int x2)] 8 = mkF m 0 #[.val (.ref x0), .val (.ref x1), .val (.int x2), .unset, .unset, .unset, .unset, .unset] [] := by first | (simp [entryFrame, mkF, argsToLocals, Value.category]; done) | rfl
set_option maxRecDepth 65536 in
set_option maxHeartbeats 40000000 in
theorem c2_0_3 (l : Launch) (Z : State) (a0 : Array Value) (hw : ∀ d ∈ tables_1, d.before a0 Z = true) (a1 : Addr) (a2 : Addr) (y0 : Int64) (y1 : Int64) (y2 : Int64) (y3 : Int64) (y4 : Int64) (y5 : Int64) (h0 : Heap) (n0 : Nat) (Z0 : n0 ≤ h0.size) (A_a1 : Av Z h0 a1 .double []) (A_a2 : Av Z h0 a2 .double [(.double (FP.l2d y0)), (.double (FP.l2d y1)), (.double (FP.l2d y2)), (.double (FP.l2d y3)), (.double (FP.l2d y4)), (.double (FP.l2d y5))]) :
    Con l Z (⟨"com/example/askance/askance/KdTree", "sumOfSquares", "([D[DI)D"⟩ : MethodName) prog_7_method_7_code 8 (some .double) ({ frames := 0, cells := 0, slots := 0, locals := 0 } : Room) [] #[(.ref a1), (.ref a2), (.int (3 : Int32))] h0 (fun v h L => v = some (.double (FP.l2d (SS_0_3 ))) ∧ h = h0 ∧ L = []) := by
  refine Con.of (plainFor_of_name pn_com_example_askance_askance_KdTree) #[.val (.ref a1), .val (.ref a2), .val (.int (3 : Int32)), .unset, .unset, .unset, .unset, .unset] (fun m => ef2_0_3 m a1 a2 (3 : Int32)) ?_
  intro p e s m below meth c s₁ K hx hby hml hown hnm hret hlk hZ X0 e0
  have N0 := Fr.nil n0
  refine m_dconst0 K X0.here hx hby (FP.l2d 0) d_prog_7_7_0 own_d0 rfl ?_
  refine m_dstoreN K X0.here hx hby #[.val (.ref a1), .val (.ref a2), .val (.int (3 : Int32)), .val (.double (FP.l2d 0)), .second, .unset, .unset, .unset] d_prog_7_7_1 rfl rfl ?_
  refine m_iconst K X0.here hx hby (0 : Int32) d_prog_7_7_2 rfl rfl ?_
  refine m_istore K X0.here hx hby #[.val (.ref a1), .val (.ref a2), .val (.int (3 : Int32)), .val (.double (FP.l2d 0)), .second, .val (.int (0 : Int32)), .unset, .unset] d_prog_7_7_3 rfl rfl ?_
  refine m_iload K X0.here hx hby d_prog_7_7_5 rfl rfl ?_
  refine m_aloadN K X0.here hx hby d_prog_7_7_7 rfl rfl rfl ?_
  refine k_len K X0 hx hby hZ (0 : Int32) e0 A_a1 rfl d_prog_7_7_8 rfl ?_
  refine m_icmpY K X0.here hx hby (q := 39) d_prog_7_7_9 (flt (by decide : ¬ ((0 : Int32) < (0 : Int32)))).2.1 (by decide) rfl ?_
  refine m_dloadN K X0.here hx hby d_prog_7_7_39 rfl rfl ?_
  exact Go.retO X0 hx hby hlk hret rfl (Or.inr (Or.inr (Or.inl ⟨rfl, rfl, _, rfl⟩))) d_prog_7_7_40 (by decide) (by decide) (⟨rfl, e0, rfl⟩)
def SS_1_0 (x0 : Int64) (y0 : Int64) : Int64 := (0 + ((x0 - y0) * (x0 - y0)))
theorem d_prog_7_7_12 : decode prog_7_method_7_code 12 = .ok (.aload_n 0, 1) := by decide +kernel
theorem d_prog_7_7_13 : decode prog_7_method_7_code 13 = .ok (.iload 5, 2) := by decide +kernel
theorem d_prog_7_7_15 : decode prog_7_method_7_code 15 = .ok (.daload, 1) := by decide +kernel
theorem d_prog_7_7_16 : decode prog_7_method_7_code 16 = .ok (.aload_n 1, 1) := by decide +kernel
theorem d_prog_7_7_17 : decode prog_7_method_7_code 17 = .ok (.iload_n 2, 1) := by decide +kernel
theorem d_prog_7_7_18 : decode prog_7_method_7_code 18 = .ok (.iload 5, 2) := by decide +kernel
theorem d_prog_7_7_20 : decode prog_7_method_7_code 20 = .ok (.iadd, 1) := by decide +kernel
theorem d_prog_7_7_21 : decode prog_7_method_7_code 21 = .ok (.daload, 1) := by decide +kernel
theorem d_prog_7_7_22 : decode prog_7_method_7_code 22 = .ok (.dsub, 1) := by decide +kernel
theorem d_prog_7_7_23 : decode prog_7_method_7_code 23 = .ok (.dstore 6, 2) := by decide +kernel
theorem d_prog_7_7_25 : decode prog_7_method_7_code 25 = .ok (.dload_n 3, 1) := by decide +kernel
theorem d_prog_7_7_26 : decode prog_7_method_7_code 26 = .ok (.dload 6, 2) := by decide +kernel
theorem d_prog_7_7_28 : decode prog_7_method_7_code 28 = .ok (.dload 6, 2) := by decide +kernel
theorem d_prog_7_7_30 : decode prog_7_method_7_code 30 = .ok (.dmul, 1) := by decide +kernel
theorem d_prog_7_7_31 : decode prog_7_method_7_code 31 = .ok (.dadd, 1) := by decide +kernel
theorem d_prog_7_7_32 : decode prog_7_method_7_code 32 = .ok (.dstore_n 3, 1) := by decide +kernel
theorem d_prog_7_7_33 : decode prog_7_method_7_code 33 = .ok (.iinc 5 1, 3) := by decide +kernel
theorem d_prog_7_7_36 : decode prog_7_method_7_code 36 = .ok (.goto (-31), 3) := by decide +kernel
theorem ef2_1_0 (m : MethodId) (x0 : Addr) (x1 : Addr) (x2 : Int32) : entryFrame m #[(.ref x0), (.ref x1), (.int x2)] 8 = mkF m 0 #[.val (.ref x0), .val (.ref x1), .val (.int x2), .unset, .unset, .unset, .unset, .unset] [] := by first | (simp [entryFrame, mkF, argsToLocals, Value.category]; done) | rfl
set_option maxRecDepth 65536 in
set_option maxHeartbeats 40000000 in
theorem c2_1_0 (l : Launch) (Z : State) (a0 : Array Value) (hw : ∀ d ∈ tables_1, d.before a0 Z = true) (a1 : Addr) (a2 : Addr) (x0 : Int64) (y0 : Int64) (y1 : Int64) (y2 : Int64) (y3 : Int64) (y4 : Int64) (y5 : Int64) (h0 : Heap) (n0 : Nat) (Z0 : n0 ≤ h0.size) (A_a1 : Av Z h0 a1 .double [(.double (FP.l2d x0))]) (A_a2 : Av Z h0 a2 .double [(.double (FP.l2d y0)), (.double (FP.l2d y1)), (.double (FP.l2d y2)), (.double (FP.l2d y3)), (.double (FP.l2d y4)), (.double (FP.l2d y5))]) (h_x0 : Bd 1048576 x0) (h_y0 : Bd 1048576 y0) :
    Con l Z (⟨"com/example/askance/askance/KdTree", "sumOfSquares", "([D[DI)D"⟩ : MethodName) prog_7_method_7_code 8 (some .double) ({ frames := 0, cells := 0, slots := 0, locals := 0 } : Room) [] #[(.ref a1), (.ref a2), (.int (0 : Int32))] h0 (fun v h L => v = some (.double (FP.l2d (SS_1_0 x0 y0))) ∧ h = h0 ∧ L = []) := by
  refine Con.of (plainFor_of_name pn_com_example_askance_askance_KdTree) #[.val (.ref a1), .val (.ref a2), .val (.int (0 : Int32)), .unset, .unset, .unset, .unset, .unset] (fun m => ef2_1_0 m a1 a2 (0 : Int32)) ?_
  intro p e s m below meth c s₁ K hx hby hml hown hnm hret hlk hZ X0 e0
  have N0 := Fr.nil n0
  refine m_dconst0 K X0.here hx hby (FP.l2d 0) d_prog_7_7_0 own_d0 rfl ?_
  refine m_dstoreN K X0.here hx hby #[.val (.ref a1), .val (.ref a2), .val (.int (0 : Int32)), .val (.double (FP.l2d 0)), .second, .unset, .unset, .unset] d_prog_7_7_1 rfl rfl ?_
  refine m_iconst K X0.here hx hby (0 : Int32) d_prog_7_7_2 rfl rfl ?_
  refine m_istore K X0.here hx hby #[.val (.ref a1), .val (.ref a2), .val (.int (0 : Int32)), .val (.double (FP.l2d 0)), .second, .val (.int (0 : Int32)), .unset, .unset] d_prog_7_7_3 rfl rfl ?_
  refine m_iload K X0.here hx hby d_prog_7_7_5 rfl rfl ?_
  refine m_aloadN K X0.here hx hby d_prog_7_7_7 rfl rfl rfl ?_
  refine k_len K X0 hx hby hZ (1 : Int32) e0 A_a1 rfl d_prog_7_7_8 rfl ?_
  refine m_icmpN K X0.here hx hby (q := 12) d_prog_7_7_9 (tlt (by decide : (0 : Int32) < (1 : Int32))).2.1 rfl ?_
  refine m_aloadN K X0.here hx hby d_prog_7_7_12 rfl rfl rfl ?_
  refine m_iload K X0.here hx hby d_prog_7_7_13 rfl rfl ?_
  refine k_ldD K X0 hx hby hZ e0 A_a1 (v := (.double (FP.l2d x0))) (by decide) rfl d_prog_7_7_15 rfl ?_
  refine m_aloadN K X0.here hx hby d_prog_7_7_16 rfl rfl rfl ?_
  refine m_iloadN K X0.here hx hby d_prog_7_7_17 rfl rfl ?_
  refine m_iload K X0.here hx hby d_prog_7_7_18 rfl rfl ?_
  refine m_iadd K X0.here hx hby (0 : Int32) d_prog_7_7_20 rfl rfl ?_
  refine k_ldD K X0 hx hby hZ e0 A_a2 (v := (.double (FP.l2d y0))) (by decide) rfl d_prog_7_7_21 rfl ?_
  refine m_dsub K X0.here hx hby (FP.l2d (x0 - y0)) d_prog_7_7_22 (nn_w (own_dsub h_x0 h_y0 (by decide) (by decide))) (own_dsub h_x0 h_y0 (by decide) (by decide)) rfl ?_
  refine m_dstore K X0.here hx hby #[.val (.ref a1), .val (.ref a2), .val (.int (0 : Int32)), .val (.double (FP.l2d 0)), .second, .val (.int (0 : Int32)), .val (.double (FP.l2d (x0 - y0))), .second] d_prog_7_7_23 rfl rfl ?_
  refine m_dloadN K X0.here hx hby d_prog_7_7_25 rfl rfl ?_
  refine m_dload K X0.here hx hby d_prog_7_7_26 rfl rfl ?_
  refine m_dload K X0.here hx hby d_prog_7_7_28 rfl rfl ?_
  refine m_dmul K X0.here hx hby (FP.l2d ((x0 - y0) * (x0 - y0))) d_prog_7_7_30 (nn_w (own_dmul (Bd.sub h_x0 h_y0 (by decide)) (by decide) (by decide))) (own_dmul (Bd.sub h_x0 h_y0 (by decide)) (by decide) (by decide)) rfl ?_
  refine m_dadd K X0.here hx hby (FP.l2d (0 + ((x0 - y0) * (x0 - y0)))) d_prog_7_7_31 (nn_w (own_dadd own_bd0 (Bd.sq (Bd.sub h_x0 h_y0 (by decide)) (by decide)) (by decide) (by decide))) (own_dadd own_bd0 (Bd.sq (Bd.sub h_x0 h_y0 (by decide)) (by decide)) (by decide) (by decide)) rfl ?_
  refine m_dstoreN K X0.here hx hby #[.val (.ref a1), .val (.ref a2), .val (.int (0 : Int32)), .val (.double (FP.l2d (0 + ((x0 - y0) * (x0 - y0))))), .second, .val (.int (0 : Int32)), .val (.double (FP.l2d (x0 - y0))), .second] d_prog_7_7_32 rfl rfl ?_
  refine m_iinc K X0.here hx hby #[.val (.ref a1), .val (.ref a2), .val (.int (0 : Int32)), .val (.double (FP.l2d (0 + ((x0 - y0) * (x0 - y0))))), .second, .val (.int (1 : Int32)), .val (.double (FP.l2d (x0 - y0))), .second] d_prog_7_7_33 rfl rfl rfl ?_
  refine m_goto K X0.here hx hby (q := 5) d_prog_7_7_36 (by decide) rfl ?_
  refine m_iload K X0.here hx hby d_prog_7_7_5 rfl rfl ?_
  refine m_aloadN K X0.here hx hby d_prog_7_7_7 rfl rfl rfl ?_
  refine k_len K X0 hx hby hZ (1 : Int32) e0 A_a1 rfl d_prog_7_7_8 rfl ?_
  refine m_icmpY K X0.here hx hby (q := 39) d_prog_7_7_9 (flt (by decide : ¬ ((1 : Int32) < (1 : Int32)))).2.1 (by decide) rfl ?_
  refine m_dloadN K X0.here hx hby d_prog_7_7_39 rfl rfl ?_
  exact Go.retO X0 hx hby hlk hret rfl (Or.inr (Or.inr (Or.inl ⟨rfl, rfl, _, rfl⟩))) d_prog_7_7_40 (by decide) (by decide) (⟨rfl, e0, rfl⟩)
def SS_1_1 (x0 : Int64) (y1 : Int64) : Int64 := (0 + ((x0 - y1) * (x0 - y1)))
theorem ef2_1_1 (m : MethodId) (x0 : Addr) (x1 : Addr) (x2 : Int32) : entryFrame m #[(.ref x0), (.ref x1), (.int x2)] 8 = mkF m 0 #[.val (.ref x0), .val (.ref x1), .val (.int x2), .unset, .unset, .unset, .unset, .unset] [] := by first | (simp [entryFrame, mkF, argsToLocals, Value.category]; done) | rfl
set_option maxRecDepth 65536 in
set_option maxHeartbeats 40000000 in
theorem c2_1_1 (l : Launch) (Z : State) (a0 : Array Value) (hw : ∀ d ∈ tables_1, d.before a0 Z = true) (a1 : Addr) (a2 : Addr) (x0 : Int64) (y0 : Int64) (y1 : Int64) (y2 : Int64) (y3 : Int64) (y4 : Int64) (y5 : Int64) (h0 : Heap) (n0 : Nat) (Z0 : n0 ≤ h0.size) (A_a1 : Av Z h0 a1 .double [(.double (FP.l2d x0))]) (A_a2 : Av Z h0 a2 .double [(.double (FP.l2d y0)), (.double (FP.l2d y1)), (.double (FP.l2d y2)), (.double (FP.l2d y3)), (.double (FP.l2d y4)), (.double (FP.l2d y5))]) (h_x0 : Bd 1048576 x0) (h_y1 : Bd 1048576 y1) :
    Con l Z (⟨"com/example/askance/askance/KdTree", "sumOfSquares", "([D[DI)D"⟩ : MethodName) prog_7_method_7_code 8 (some .double) ({ frames := 0, cells := 0, slots := 0, locals := 0 } : Room) [] #[(.ref a1), (.ref a2), (.int (1 : Int32))] h0 (fun v h L => v = some (.double (FP.l2d (SS_1_1 x0 y1))) ∧ h = h0 ∧ L = []) := by
  refine Con.of (plainFor_of_name pn_com_example_askance_askance_KdTree) #[.val (.ref a1), .val (.ref a2), .val (.int (1 : Int32)), .unset, .unset, .unset, .unset, .unset] (fun m => ef2_1_1 m a1 a2 (1 : Int32)) ?_
  intro p e s m below meth c s₁ K hx hby hml hown hnm hret hlk hZ X0 e0
  have N0 := Fr.nil n0
  refine m_dconst0 K X0.here hx hby (FP.l2d 0) d_prog_7_7_0 own_d0 rfl ?_
  refine m_dstoreN K X0.here hx hby #[.val (.ref a1), .val (.ref a2), .val (.int (1 : Int32)), .val (.double (FP.l2d 0)), .second, .unset, .unset, .unset] d_prog_7_7_1 rfl rfl ?_
  refine m_iconst K X0.here hx hby (0 : Int32) d_prog_7_7_2 rfl rfl ?_
  refine m_istore K X0.here hx hby #[.val (.ref a1), .val (.ref a2), .val (.int (1 : Int32)), .val (.double (FP.l2d 0)), .second, .val (.int (0 : Int32)), .unset, .unset] d_prog_7_7_3 rfl rfl ?_
  refine m_iload K X0.here hx hby d_prog_7_7_5 rfl rfl ?_
  refine m_aloadN K X0.here hx hby d_prog_7_7_7 rfl rfl rfl ?_
  refine k_len K X0 hx hby hZ (1 : Int32) e0 A_a1 rfl d_prog_7_7_8 rfl ?_
  refine m_icmpN K X0.here hx hby (q := 12) d_prog_7_7_9 (tlt (by decide : (0 : Int32) < (1 : Int32))).2.1 rfl ?_
  refine m_aloadN K X0.here hx hby d_prog_7_7_12 rfl rfl rfl ?_
  refine m_iload K X0.here hx hby d_prog_7_7_13 rfl rfl ?_
  refine k_ldD K X0 hx hby hZ e0 A_a1 (v := (.double (FP.l2d x0))) (by decide) rfl d_prog_7_7_15 rfl ?_
  refine m_aloadN K X0.here hx hby d_prog_7_7_16 rfl rfl rfl ?_
  refine m_iloadN K X0.here hx hby d_prog_7_7_17 rfl rfl ?_
  refine m_iload K X0.here hx hby d_prog_7_7_18 rfl rfl ?_
  refine m_iadd K X0.here hx hby (1 : Int32) d_prog_7_7_20 rfl rfl ?_
  refine k_ldD K X0 hx hby hZ e0 A_a2 (v := (.double (FP.l2d y1))) (by decide) rfl d_prog_7_7_21 rfl ?_
  refine m_dsub K X0.here hx hby (FP.l2d (x0 - y1)) d_prog_7_7_22 (nn_w (own_dsub h_x0 h_y1 (by decide) (by decide))) (own_dsub h_x0 h_y1 (by decide) (by decide)) rfl ?_
  refine m_dstore K X0.here hx hby #[.val (.ref a1), .val (.ref a2), .val (.int (1 : Int32)), .val (.double (FP.l2d 0)), .second, .val (.int (0 : Int32)), .val (.double (FP.l2d (x0 - y1))), .second] d_prog_7_7_23 rfl rfl ?_
  refine m_dloadN K X0.here hx hby d_prog_7_7_25 rfl rfl ?_
  refine m_dload K X0.here hx hby d_prog_7_7_26 rfl rfl ?_
  refine m_dload K X0.here hx hby d_prog_7_7_28 rfl rfl ?_
  refine m_dmul K X0.here hx hby (FP.l2d ((x0 - y1) * (x0 - y1))) d_prog_7_7_30 (nn_w (own_dmul (Bd.sub h_x0 h_y1 (by decide)) (by decide) (by decide))) (own_dmul (Bd.sub h_x0 h_y1 (by decide)) (by decide) (by decide)) rfl ?_
  refine m_dadd K X0.here hx hby (FP.l2d (0 + ((x0 - y1) * (x0 - y1)))) d_prog_7_7_31 (nn_w (own_dadd own_bd0 (Bd.sq (Bd.sub h_x0 h_y1 (by decide)) (by decide)) (by decide) (by decide))) (own_dadd own_bd0 (Bd.sq (Bd.sub h_x0 h_y1 (by decide)) (by decide)) (by decide) (by decide)) rfl ?_
  refine m_dstoreN K X0.here hx hby #[.val (.ref a1), .val (.ref a2), .val (.int (1 : Int32)), .val (.double (FP.l2d (0 + ((x0 - y1) * (x0 - y1))))), .second, .val (.int (0 : Int32)), .val (.double (FP.l2d (x0 - y1))), .second] d_prog_7_7_32 rfl rfl ?_
  refine m_iinc K X0.here hx hby #[.val (.ref a1), .val (.ref a2), .val (.int (1 : Int32)), .val (.double (FP.l2d (0 + ((x0 - y1) * (x0 - y1))))), .second, .val (.int (1 : Int32)), .val (.double (FP.l2d (x0 - y1))), .second] d_prog_7_7_33 rfl rfl rfl ?_
  refine m_goto K X0.here hx hby (q := 5) d_prog_7_7_36 (by decide) rfl ?_
  refine m_iload K X0.here hx hby d_prog_7_7_5 rfl rfl ?_
  refine m_aloadN K X0.here hx hby d_prog_7_7_7 rfl rfl rfl ?_
  refine k_len K X0 hx hby hZ (1 : Int32) e0 A_a1 rfl d_prog_7_7_8 rfl ?_
  refine m_icmpY K X0.here hx hby (q := 39) d_prog_7_7_9 (flt (by decide : ¬ ((1 : Int32) < (1 : Int32)))).2.1 (by decide) rfl ?_
  refine m_dloadN K X0.here hx hby d_prog_7_7_39 rfl rfl ?_
  exact Go.retO X0 hx hby hlk hret rfl (Or.inr (Or.inr (Or.inl ⟨rfl, rfl, _, rfl⟩))) d_prog_7_7_40 (by decide) (by decide) (⟨rfl, e0, rfl⟩)
def SS_1_2 (x0 : Int64) (y2 : Int64) : Int64 := (0 + ((x0 - y2) * (x0 - y2)))
theorem ef2_1_2 (m : MethodId) (x0 : Addr) (x1 : Addr) (x2 : Int32) : entryFrame m #[(.ref x0), (.ref x1), (.int x2)] 8 = mkF m 0 #[.val (.ref x0), .val (.ref x1), .val (.int x2), .unset, .unset, .unset, .unset, .unset] [] := by first | (simp [entryFrame, mkF, argsToLocals, Value.category]; done) | rfl
set_option maxRecDepth 65536 in
set_option maxHeartbeats 40000000 in
theorem c2_1_2 (l : Launch) (Z : State) (a0 : Array Value) (hw : ∀ d ∈ tables_1, d.before a0 Z = true) (a1 : Addr) (a2 : Addr) (x0 : Int64) (y0 : Int64) (y1 : Int64) (y2 : Int64) (y3 : Int64) (y4 : Int64) (y5 : Int64) (h0 : Heap) (n0 : Nat) (Z0 : n0 ≤ h0.size) (A_a1 : Av Z h0 a1 .double [(.double (FP.l2d x0))]) (A_a2 : Av Z h0 a2 .double [(.double (FP.l2d y0)), (.double (FP.l2d y1)), (.double (FP.l2d y2)), (.double (FP.l2d y3)), (.double (FP.l2d y4)), (.double (FP.l2d y5))]) (h_x0 : Bd 1048576 x0) (h_y2 : Bd 1048576 y2) :
    Con l Z (⟨"com/example/askance/askance/KdTree", "sumOfSquares", "([D[DI)D"⟩ : MethodName) prog_7_method_7_code 8 (some .double) ({ frames := 0, cells := 0, slots := 0, locals := 0 } : Room) [] #[(.ref a1), (.ref a2), (.int (2 : Int32))] h0 (fun v h L => v = some (.double (FP.l2d (SS_1_2 x0 y2))) ∧ h = h0 ∧ L = []) := by
  refine Con.of (plainFor_of_name pn_com_example_askance_askance_KdTree) #[.val (.ref a1), .val (.ref a2), .val (.int (2 : Int32)), .unset, .unset, .unset, .unset, .unset] (fun m => ef2_1_2 m a1 a2 (2 : Int32)) ?_
  intro p e s m below meth c s₁ K hx hby hml hown hnm hret hlk hZ X0 e0
  have N0 := Fr.nil n0
  refine m_dconst0 K X0.here hx hby (FP.l2d 0) d_prog_7_7_0 own_d0 rfl ?_
  refine m_dstoreN K X0.here hx hby #[.val (.ref a1), .val (.ref a2), .val (.int (2 : Int32)), .val (.double (FP.l2d 0)), .second, .unset, .unset, .unset] d_prog_7_7_1 rfl rfl ?_
  refine m_iconst K X0.here hx hby (0 : Int32) d_prog_7_7_2 rfl rfl ?_
  refine m_istore K X0.here hx hby #[.val (.ref a1), .val (.ref a2), .val (.int (2 : Int32)), .val (.double (FP.l2d 0)), .second, .val (.int (0 : Int32)), .unset, .unset] d_prog_7_7_3 rfl rfl ?_
  refine m_iload K X0.here hx hby d_prog_7_7_5 rfl rfl ?_
  refine m_aloadN K X0.here hx hby d_prog_7_7_7 rfl rfl rfl ?_
  refine k_len K X0 hx hby hZ (1 : Int32) e0 A_a1 rfl d_prog_7_7_8 rfl ?_
  refine m_icmpN K X0.here hx hby (q := 12) d_prog_7_7_9 (tlt (by decide : (0 : Int32) < (1 : Int32))).2.1 rfl ?_
  refine m_aloadN K X0.here hx hby d_prog_7_7_12 rfl rfl rfl ?_
  refine m_iload K X0.here hx hby d_prog_7_7_13 rfl rfl ?_
  refine k_ldD K X0 hx hby hZ e0 A_a1 (v := (.double (FP.l2d x0))) (by decide) rfl d_prog_7_7_15 rfl ?_
  refine m_aloadN K X0.here hx hby d_prog_7_7_16 rfl rfl rfl ?_
  refine m_iloadN K X0.here hx hby d_prog_7_7_17 rfl rfl ?_
  refine m_iload K X0.here hx hby d_prog_7_7_18 rfl rfl ?_
  refine m_iadd K X0.here hx hby (2 : Int32) d_prog_7_7_20 rfl rfl ?_
  refine k_ldD K X0 hx hby hZ e0 A_a2 (v := (.double (FP.l2d y2))) (by decide) rfl d_prog_7_7_21 rfl ?_
  refine m_dsub K X0.here hx hby (FP.l2d (x0 - y2)) d_prog_7_7_22 (nn_w (own_dsub h_x0 h_y2 (by decide) (by decide))) (own_dsub h_x0 h_y2 (by decide) (by decide)) rfl ?_
  refine m_dstore K X0.here hx hby #[.val (.ref a1), .val (.ref a2), .val (.int (2 : Int32)), .val (.double (FP.l2d 0)), .second, .val (.int (0 : Int32)), .val (.double (FP.l2d (x0 - y2))), .second] d_prog_7_7_23 rfl rfl ?_
  refine m_dloadN K X0.here hx hby d_prog_7_7_25 rfl rfl ?_
  refine m_dload K X0.here hx hby d_prog_7_7_26 rfl rfl ?_
  refine m_dload K X0.here hx hby d_prog_7_7_28 rfl rfl ?_
  refine m_dmul K X0.here hx hby (FP.l2d ((x0 - y2) * (x0 - y2))) d_prog_7_7_30 (nn_w (own_dmul (Bd.sub h_x0 h_y2 (by decide)) (by decide) (by decide))) (own_dmul (Bd.sub h_x0 h_y2 (by decide)) (by decide) (by decide)) rfl ?_
  refine m_dadd K X0.here hx hby (FP.l2d (0 + ((x0 - y2) * (x0 - y2)))) d_prog_7_7_31 (nn_w (own_dadd own_bd0 (Bd.sq (Bd.sub h_x0 h_y2 (by decide)) (by decide)) (by decide) (by decide))) (own_dadd own_bd0 (Bd.sq (Bd.sub h_x0 h_y2 (by decide)) (by decide)) (by decide) (by decide)) rfl ?_
  refine m_dstoreN K X0.here hx hby #[.val (.ref a1), .val (.ref a2), .val (.int (2 : Int32)), .val (.double (FP.l2d (0 + ((x0 - y2) * (x0 - y2))))), .second, .val (.int (0 : Int32)), .val (.double (FP.l2d (x0 - y2))), .second] d_prog_7_7_32 rfl rfl ?_
  refine m_iinc K X0.here hx hby #[.val (.ref a1), .val (.ref a2), .val (.int (2 : Int32)), .val (.double (FP.l2d (0 + ((x0 - y2) * (x0 - y2))))), .second, .val (.int (1 : Int32)), .val (.double (FP.l2d (x0 - y2))), .second] d_prog_7_7_33 rfl rfl rfl ?_
  refine m_goto K X0.here hx hby (q := 5) d_prog_7_7_36 (by decide) rfl ?_
  refine m_iload K X0.here hx hby d_prog_7_7_5 rfl rfl ?_
  refine m_aloadN K X0.here hx hby d_prog_7_7_7 rfl rfl rfl ?_
  refine k_len K X0 hx hby hZ (1 : Int32) e0 A_a1 rfl d_prog_7_7_8 rfl ?_
  refine m_icmpY K X0.here hx hby (q := 39) d_prog_7_7_9 (flt (by decide : ¬ ((1 : Int32) < (1 : Int32)))).2.1 (by decide) rfl ?_
  refine m_dloadN K X0.here hx hby d_prog_7_7_39 rfl rfl ?_
  exact Go.retO X0 hx hby hlk hret rfl (Or.inr (Or.inr (Or.inl ⟨rfl, rfl, _, rfl⟩))) d_prog_7_7_40 (by decide) (by decide) (⟨rfl, e0, rfl⟩)
def SS_1_3 (x0 : Int64) (y3 : Int64) : Int64 := (0 + ((x0 - y3) * (x0 - y3)))
theorem ef2_1_3 (m : MethodId) (x0 : Addr) (x1 : Addr) (x2 : Int32) : entryFrame m #[(.ref x0), (.ref x1), (.int x2)] 8 = mkF m 0 #[.val (.ref x0), .val (.ref x1), .val (.int x2), .unset, .unset, .unset, .unset, .unset] [] := by first | (simp [entryFrame, mkF, argsToLocals, Value.category]; done) | rfl
set_option maxRecDepth 65536 in
set_option maxHeartbeats 40000000 in
theorem c2_1_3 (l : Launch) (Z : State) (a0 : Array Value) (hw : ∀ d ∈ tables_1, d.before a0 Z = true) (a1 : Addr) (a2 : Addr) (x0 : Int64) (y0 : Int64) (y1 : Int64) (y2 : Int64) (y3 : Int64) (y4 : Int64) (y5 : Int64) (h0 : Heap) (n0 : Nat) (Z0 : n0 ≤ h0.size) (A_a1 : Av Z h0 a1 .double [(.double (FP.l2d x0))]) (A_a2 : Av Z h0 a2 .double [(.double (FP.l2d y0)), (.double (FP.l2d y1)), (.double (FP.l2d y2)), (.double (FP.l2d y3)), (.double (FP.l2d y4)), (.double (FP.l2d y5))]) (h_x0 : Bd 1048576 x0) (h_y3 : Bd 1048576 y3) :
    Con l Z (⟨"com/example/askance/askance/KdTree", "sumOfSquares", "([D[DI)D"⟩ : MethodName) prog_7_method_7_code 8 (some .double) ({ frames := 0, cells := 0, slots := 0, locals := 0 } : Room) [] #[(.ref a1), (.ref a2), (.int (3 : Int32))] h0 (fun v h L => v = some (.double (FP.l2d (SS_1_3 x0 y3))) ∧ h = h0 ∧ L = []) := by
  refine Con.of (plainFor_of_name pn_com_example_askance_askance_KdTree) #[.val (.ref a1), .val (.ref a2), .val (.int (3 : Int32)), .unset, .unset, .unset, .unset, .unset] (fun m => ef2_1_3 m a1 a2 (3 : Int32)) ?_
  intro p e s m below meth c s₁ K hx hby hml hown hnm hret hlk hZ X0 e0
  have N0 := Fr.nil n0
  refine m_dconst0 K X0.here hx hby (FP.l2d 0) d_prog_7_7_0 own_d0 rfl ?_
  refine m_dstoreN K X0.here hx hby #[.val (.ref a1), .val (.ref a2), .val (.int (3 : Int32)), .val (.double (FP.l2d 0)), .second, .unset, .unset, .unset] d_prog_7_7_1 rfl rfl ?_
  refine m_iconst K X0.here hx hby (0 : Int32) d_prog_7_7_2 rfl rfl ?_
  refine m_istore K X0.here hx hby #[.val (.ref a1), .val (.ref a2), .val (.int (3 : Int32)), .val (.double (FP.l2d 0)), .second, .val (.int (0 : Int32)), .unset, .unset] d_prog_7_7_3 rfl rfl ?_
  refine m_iload K X0.here hx hby d_prog_7_7_5 rfl rfl ?_
  refine m_aloadN K X0.here hx hby d_prog_7_7_7 rfl rfl rfl ?_
  refine k_len K X0 hx hby hZ (1 : Int32) e0 A_a1 rfl d_prog_7_7_8 rfl ?_
  refine m_icmpN K X0.here hx hby (q := 12) d_prog_7_7_9 (tlt (by decide : (0 : Int32) < (1 : Int32))).2.1 rfl ?_
  refine m_aloadN K X0.here hx hby d_prog_7_7_12 rfl rfl rfl ?_
  refine m_iload K X0.here hx hby d_prog_7_7_13 rfl rfl ?_
  refine k_ldD K X0 hx hby hZ e0 A_a1 (v := (.double (FP.l2d x0))) (by decide) rfl d_prog_7_7_15 rfl ?_
  refine m_aloadN K X0.here hx hby d_prog_7_7_16 rfl rfl rfl ?_
  refine m_iloadN K X0.here hx hby d_prog_7_7_17 rfl rfl ?_
  refine m_iload K X0.here hx hby d_prog_7_7_18 rfl rfl ?_
  refine m_iadd K X0.here hx hby (3 : Int32) d_prog_7_7_20 rfl rfl ?_
  refine k_ldD K X0 hx hby hZ e0 A_a2 (v := (.double (FP.l2d y3))) (by decide) rfl d_prog_7_7_21 rfl ?_
  refine m_dsub K X0.here hx hby (FP.l2d (x0 - y3)) d_prog_7_7_22 (nn_w (own_dsub h_x0 h_y3 (by decide) (by decide))) (own_dsub h_x0 h_y3 (by decide) (by decide)) rfl ?_
  refine m_dstore K X0.here hx hby #[.val (.ref a1), .val (.ref a2), .val (.int (3 : Int32)), .val (.double (FP.l2d 0)), .second, .val (.int (0 : Int32)), .val (.double (FP.l2d (x0 - y3))), .second] d_prog_7_7_23 rfl rfl ?_
  refine m_dloadN K X0.here hx hby d_prog_7_7_25 rfl rfl ?_
  refine m_dload K X0.here hx hby d_prog_7_7_26 rfl rfl ?_
  refine m_dload K X0.here hx hby d_prog_7_7_28 rfl rfl ?_
  refine m_dmul K X0.here hx hby (FP.l2d ((x0 - y3) * (x0 - y3))) d_prog_7_7_30 (nn_w (own_dmul (Bd.sub h_x0 h_y3 (by decide)) (by decide) (by decide))) (own_dmul (Bd.sub h_x0 h_y3 (by decide)) (by decide) (by decide)) rfl ?_
  refine m_dadd K X0.here hx hby (FP.l2d (0 + ((x0 - y3) * (x0 - y3)))) d_prog_7_7_31 (nn_w (own_dadd own_bd0 (Bd.sq (Bd.sub h_x0 h_y3 (by decide)) (by decide)) (by decide) (by decide))) (own_dadd own_bd0 (Bd.sq (Bd.sub h_x0 h_y3 (by decide)) (by decide)) (by decide) (by decide)) rfl ?_
  refine m_dstoreN K X0.here hx hby #[.val (.ref a1), .val (.ref a2), .val (.int (3 : Int32)), .val (.double (FP.l2d (0 + ((x0 - y3) * (x0 - y3))))), .second, .val (.int (0 : Int32)), .val (.double (FP.l2d (x0 - y3))), .second] d_prog_7_7_32 rfl rfl ?_
  refine m_iinc K X0.here hx hby #[.val (.ref a1), .val (.ref a2), .val (.int (3 : Int32)), .val (.double (FP.l2d (0 + ((x0 - y3) * (x0 - y3))))), .second, .val (.int (1 : Int32)), .val (.double (FP.l2d (x0 - y3))), .second] d_prog_7_7_33 rfl rfl rfl ?_
  refine m_goto K X0.here hx hby (q := 5) d_prog_7_7_36 (by decide) rfl ?_
  refine m_iload K X0.here hx hby d_prog_7_7_5 rfl rfl ?_
  refine m_aloadN K X0.here hx hby d_prog_7_7_7 rfl rfl rfl ?_
  refine k_len K X0 hx hby hZ (1 : Int32) e0 A_a1 rfl d_prog_7_7_8 rfl ?_
  refine m_icmpY K X0.here hx hby (q := 39) d_prog_7_7_9 (flt (by decide : ¬ ((1 : Int32) < (1 : Int32)))).2.1 (by decide) rfl ?_
  refine m_dloadN K X0.here hx hby d_prog_7_7_39 rfl rfl ?_
  exact Go.retO X0 hx hby hlk hret rfl (Or.inr (Or.inr (Or.inl ⟨rfl, rfl, _, rfl⟩))) d_prog_7_7_40 (by decide) (by decide) (⟨rfl, e0, rfl⟩)
def w2_2_0_1 (x0 : Int64) (x1 : Int64) (y0 : Int64) (y1 : Int64) : Int64 := ((0 + ((x0 - y0) * (x0 - y0))) + ((x1 - y1) * (x1 - y1)))
def SS_2_0 (x0 : Int64) (x1 : Int64) (y0 : Int64) (y1 : Int64) : Int64 := (w2_2_0_1 x0 x1 y0 y1)
theorem ef2_2_0 (m : MethodId) (x0 : Addr) (x1 : Addr) (x2 : Int32) : entryFrame m #[(.ref x0), (.ref x1), (.int x2)] 8 = mkF m 0 #[.val (.ref x0), .val (.ref x1), .val (.int x2), .unset, .unset, .unset, .unset, .unset] [] := by first | (simp [entryFrame, mkF, argsToLocals, Value.category]; done) | rfl
set_option maxRecDepth 65536 in
set_option maxHeartbeats 40000000 in
theorem c2_2_0 (l : Launch) (Z : State) (a0 : Array Value) (hw : ∀ d ∈ tables_1, d.before a0 Z = true) (a1 : Addr) (a2 : Addr) (x0 : Int64) (x1 : Int64) (y0 : Int64) (y1 : Int64) (y2 : Int64) (y3 : Int64) (y4 : Int64) (y5 : Int64) (h0 : Heap) (n0 : Nat) (Z0 : n0 ≤ h0.size) (A_a1 : Av Z h0 a1 .double [(.double (FP.l2d x0)), (.double (FP.l2d x1))]) (A_a2 : Av Z h0 a2 .double [(.double (FP.l2d y0)), (.double (FP.l2d y1)), (.double (FP.l2d y2)), (.double (FP.l2d y3)), (.double (FP.l2d y4)), (.double (FP.l2d y5))]) (h_x0 : Bd 1048576 x0) (h_x1 : Bd 1048576 x1) (h_y0 : Bd 1048576 y0) (h_y1 : Bd 1048576 y1) :
    Con l Z (⟨"com/example/askance/askance/KdTree", "sumOfSquares", "([D[DI)D"⟩ : MethodName) prog_7_method_7_code 8 (some .double) ({ frames := 0, cells := 0, slots := 0, locals := 0 } : Room) [] #[(.ref a1), (.ref a2), (.int (0 : Int32))] h0 (fun v h L => v = some (.double (FP.l2d (SS_2_0 x0 x1 y0 y1))) ∧ h = h0 ∧ L = []) := by
  refine Con.of (plainFor_of_name pn_com_example_askance_askance_KdTree) #[.val (.ref a1), .val (.ref a2), .val (.int (0 : Int32)), .unset, .unset, .unset, .unset, .unset] (fun m => ef2_2_0 m a1 a2 (0 : Int32)) ?_
  intro p e s m below meth c s₁ K hx hby hml hown hnm hret hlk hZ X0 e0
  have N0 := Fr.nil n0
  refine m_dconst0 K X0.here hx hby (FP.l2d 0) d_prog_7_7_0 own_d0 rfl ?_
  refine m_dstoreN K X0.here hx hby #[.val (.ref a1), .val (.ref a2), .val (.int (0 : Int32)), .val (.double (FP.l2d 0)), .second, .unset, .unset, .unset] d_prog_7_7_1 rfl rfl ?_
  refine m_iconst K X0.here hx hby (0 : Int32) d_prog_7_7_2 rfl rfl ?_
  refine m_istore K X0.here hx hby #[.val (.ref a1), .val (.ref a2), .val (.int (0 : Int32)), .val (.double (FP.l2d 0)), .second, .val (.int (0 : Int32)), .unset, .unset] d_prog_7_7_3 rfl rfl ?_
  refine m_iload K X0.here hx hby d_prog_7_7_5 rfl rfl ?_
  refine m_aloadN K X0.here hx hby d_prog_7_7_7 rfl rfl rfl ?_
  refine k_len K X0 hx hby hZ (2 : Int32) e0 A_a1 rfl d_prog_7_7_8 rfl ?_
  refine m_icmpN K X0.here hx hby (q := 12) d_prog_7_7_9 (tlt (by decide : (0 : Int32) < (2 : Int32))).2.1 rfl ?_
  refine m_aloadN K X0.here hx hby d_prog_7_7_12 rfl rfl rfl ?_
  refine m_iload K X0.here hx hby d_prog_7_7_13 rfl rfl ?_
  refine k_ldD K X0 hx hby hZ e0 A_a1 (v := (.double (FP.l2d x0))) (by decide) rfl d_prog_7_7_15 rfl ?_
  refine m_aloadN K X0.here hx hby d_prog_7_7_16 rfl rfl rfl ?_
  refine m_iloadN K X0.here hx hby d_prog_7_7_17 rfl rfl ?_
  refine m_iload K X0.here hx hby d_prog_7_7_18 rfl rfl ?_
  refine m_iadd K X0.here hx hby (0 : Int32) d_prog_7_7_20 rfl rfl ?_
  refine k_ldD K X0 hx hby hZ e0 A_a2 (v := (.double (FP.l2d y0))) (by decide) rfl d_prog_7_7_21 rfl ?_
  refine m_dsub K X0.here hx hby (FP.l2d (x0 - y0)) d_prog_7_7_22 (nn_w (own_dsub h_x0 h_y0 (by decide) (by decide))) (own_dsub h_x0 h_y0 (by decide) (by decide)) rfl ?_
  refine m_dstore K X0.here hx hby #[.val (.ref a1), .val (.ref a2), .val (.int (0 : Int32)), .val (.double (FP.l2d 0)), .second, .val (.int (0 : Int32)), .val (.double (FP.l2d (x0 - y0))), .second] d_prog_7_7_23 rfl rfl ?_
  refine m_dloadN K X0.here hx hby d_prog_7_7_25 rfl rfl ?_
  refine m_dload K X0.here hx hby d_prog_7_7_26 rfl rfl ?_
  refine m_dload K X0.here hx hby d_prog_7_7_28 rfl rfl ?_
  refine m_dmul K X0.here hx hby (FP.l2d ((x0 - y0) * (x0 - y0))) d_prog_7_7_30 (nn_w (own_dmul (Bd.sub h_x0 h_y0 (by decide)) (by decide) (by decide))) (own_dmul (Bd.sub h_x0 h_y0 (by decide)) (by decide) (by decide)) rfl ?_
  refine m_dadd K X0.here hx hby (FP.l2d (0 + ((x0 - y0) * (x0 - y0)))) d_prog_7_7_31 (nn_w (own_dadd own_bd0 (Bd.sq (Bd.sub h_x0 h_y0 (by decide)) (by decide)) (by decide) (by decide))) (own_dadd own_bd0 (Bd.sq (Bd.sub h_x0 h_y0 (by decide)) (by decide)) (by decide) (by decide)) rfl ?_
  refine m_dstoreN K X0.here hx hby #[.val (.ref a1), .val (.ref a2), .val (.int (0 : Int32)), .val (.double (FP.l2d (0 + ((x0 - y0) * (x0 - y0))))), .second, .val (.int (0 : Int32)), .val (.double (FP.l2d (x0 - y0))), .second] d_prog_7_7_32 rfl rfl ?_
  refine m_iinc K X0.here hx hby #[.val (.ref a1), .val (.ref a2), .val (.int (0 : Int32)), .val (.double (FP.l2d (0 + ((x0 - y0) * (x0 - y0))))), .second, .val (.int (1 : Int32)), .val (.double (FP.l2d (x0 - y0))), .second] d_prog_7_7_33 rfl rfl rfl ?_
  refine m_goto K X0.here hx hby (q := 5) d_prog_7_7_36 (by decide) rfl ?_
  refine m_iload K X0.here hx hby d_prog_7_7_5 rfl rfl ?_
  refine m_aloadN K X0.here hx hby d_prog_7_7_7 rfl rfl rfl ?_
  refine k_len K X0 hx hby hZ (2 : Int32) e0 A_a1 rfl d_prog_7_7_8 rfl ?_
  refine m_icmpN K X0.here hx hby (q := 12) d_prog_7_7_9 (tlt (by decide : (1 : Int32) < (2 : Int32))).2.1 rfl ?_
  refine m_aloadN K X0.here hx hby d_prog_7_7_12 rfl rfl rfl ?_
  refine m_iload K X0.here hx hby d_prog_7_7_13 rfl rfl ?_
  refine k_ldD K X0 hx hby hZ e0 A_a1 (v := (.double (FP.l2d x1))) (by decide) rfl d_prog_7_7_15 rfl ?_
  refine m_aloadN K X0.here hx hby d_prog_7_7_16 rfl rfl rfl ?_
  refine m_iloadN K X0.here hx hby d_prog_7_7_17 rfl rfl ?_
  refine m_iload K X0.here hx hby d_prog_7_7_18 rfl rfl ?_
  refine m_iadd K X0.here hx hby (1 : Int32) d_prog_7_7_20 rfl rfl ?_
  refine k_ldD K X0 hx hby hZ e0 A_a2 (v := (.double (FP.l2d y1))) (by decide) rfl d_prog_7_7_21 rfl ?_
  refine m_dsub K X0.here hx hby (FP.l2d (x1 - y1)) d_prog_7_7_22 (nn_w (own_dsub h_x1 h_y1 (by decide) (by decide))) (own_dsub h_x1 h_y1 (by decide) (by decide)) rfl ?_
  refine m_dstore K X0.here hx hby #[.val (.ref a1), .val (.ref a2), .val (.int (0 : Int32)), .val (.double (FP.l2d (0 + ((x0 - y0) * (x0 - y0))))), .second, .val (.int (1 : Int32)), .val (.double (FP.l2d (x1 - y1))), .second] d_prog_7_7_23 rfl rfl ?_
  refine m_dloadN K X0.here hx hby d_prog_7_7_25 rfl rfl ?_
  refine m_dload K X0.here hx hby d_prog_7_7_26 rfl rfl ?_
  refine m_dload K X0.here hx hby d_prog_7_7_28 rfl rfl ?_
  refine m_dmul K X0.here hx hby (FP.l2d ((x1 - y1) * (x1 - y1))) d_prog_7_7_30 (nn_w (own_dmul (Bd.sub h_x1 h_y1 (by decide)) (by decide) (by decide))) (own_dmul (Bd.sub h_x1 h_y1 (by decide)) (by decide) (by decide)) rfl ?_
  refine m_dadd K X0.here hx hby (FP.l2d (w2_2_0_1 x0 x1 y0 y1)) d_prog_7_7_31 (nn_w (own_dadd (Bd.add own_bd0 (Bd.sq (Bd.sub h_x0 h_y0 (by decide)) (by decide)) (by decide)) (Bd.sq (Bd.sub h_x1 h_y1 (by decide)) (by decide)) (by decide) (by decide))) (own_dadd (Bd.add own_bd0 (Bd.sq (Bd.sub h_x0 h_y0 (by decide)) (by decide)) (by decide)) (Bd.sq (Bd.sub h_x1 h_y1 (by decide)) (by decide)) (by decide) (by decide)) rfl ?_
  refine m_dstoreN K X0.here hx hby #[.val (.ref a1), .val (.ref a2), .val (.int (0 : Int32)), .val (.double (FP.l2d (w2_2_0_1 x0 x1 y0 y1))), .second, .val (.int (1 : Int32)), .val (.double (FP.l2d (x1 - y1))), .second] d_prog_7_7_32 rfl rfl ?_
  refine m_iinc K X0.here hx hby #[.val (.ref a1), .val (.ref a2), .val (.int (0 : Int32)), .val (.double (FP.l2d (w2_2_0_1 x0 x1 y0 y1))), .second, .val (.int (2 : Int32)), .val (.double (FP.l2d (x1 - y1))), .second] d_prog_7_7_33 rfl rfl rfl ?_
  refine m_goto K X0.here hx hby (q := 5) d_prog_7_7_36 (by decide) rfl ?_
  refine m_iload K X0.here hx hby d_prog_7_7_5 rfl rfl ?_
  refine m_aloadN K X0.here hx hby d_prog_7_7_7 rfl rfl rfl ?_
  refine k_len K X0 hx hby hZ (2 : Int32) e0 A_a1 rfl d_prog_7_7_8 rfl ?_
  refine m_icmpY K X0.here hx hby (q := 39) d_prog_7_7_9 (flt (by decide : ¬ ((2 : Int32) < (2 : Int32)))).2.1 (by decide) rfl ?_
  refine m_dloadN K X0.here hx hby d_prog_7_7_39 rfl rfl ?_
  exact Go.retO X0 hx hby hlk hret rfl (Or.inr (Or.inr (Or.inl ⟨rfl, rfl, _, rfl⟩))) d_prog_7_7_40 (by decide) (by decide) (⟨rfl, e0, rfl⟩)
def w2_2_1_1 (x0 : Int64) (x1 : Int64) (y1 : Int64) (y2 : Int64) : Int64 := ((0 + ((x0 - y1) * (x0 - y1))) + ((x1 - y2) * (x1 - y2)))
def SS_2_1 (x0 : Int64) (x1 : Int64) (y1 : Int64) (y2 : Int64) : Int64 := (w2_2_1_1 x0 x1 y1 y2)
theorem ef2_2_1 (m : MethodId) (x0 : Addr) (x1 : Addr) (x2 : Int32) : entryFrame m #[(.ref x0), (.ref x1), (.int x2)] 8 = mkF m 0 #[.val (.ref x0), .val (.ref x1), .val (.int x2), .unset, .unset, .unset, .unset, .unset] [] := by first | (simp [entryFrame, mkF, argsToLocals, Value.category]; done) | rfl
set_option maxRecDepth 65536 in
set_option maxHeartbeats 40000000 in
theorem c2_2_1 (l : Launch) (Z : State) (a0 : Array Value) (hw : ∀ d ∈ tables_1, d.before a0 Z = true) (a1 : Addr) (a2 : Addr) (x0 : Int64) (x1 : Int64) (y0 : Int64) (y1 : Int64) (y2 : Int64) (y3 : Int64) (y4 : Int64) (y5 : Int64) (h0 : Heap) (n0 : Nat) (Z0 : n0 ≤ h0.size) (A_a1 : Av Z h0 a1 .double [(.double (FP.l2d x0)), (.double (FP.l2d x1))]) (A_a2 : Av Z h0 a2 .double [(.double (FP.l2d y0)), (.double (FP.l2d y1)), (.double (FP.l2d y2)), (.double (FP.l2d y3)), (.double (FP.l2d y4)), (.double (FP.l2d y5))]) (h_x0 : Bd 1048576 x0) (h_x1 : Bd 1048576 x1) (h_y1 : Bd 1048576 y1) (h_y2 : Bd 1048576 y2) :
    Con l Z (⟨"com/example/askance/askance/KdTree", "sumOfSquares", "([D[DI)D"⟩ : MethodName) prog_7_method_7_code 8 (some .double) ({ frames := 0, cells := 0, slots := 0, locals := 0 } : Room) [] #[(.ref a1), (.ref a2), (.int (1 : Int32))] h0 (fun v h L => v = some (.double (FP.l2d (SS_2_1 x0 x1 y1 y2))) ∧ h = h0 ∧ L = []) := by
  refine Con.of (plainFor_of_name pn_com_example_askance_askance_KdTree) #[.val (.ref a1), .val (.ref a2), .val (.int (1 : Int32)), .unset, .unset, .unset, .unset, .unset] (fun m => ef2_2_1 m a1 a2 (1 : Int32)) ?_
  intro p e s m below meth c s₁ K hx hby hml hown hnm hret hlk hZ X0 e0
  have N0 := Fr.nil n0
  refine m_dconst0 K X0.here hx hby (FP.l2d 0) d_prog_7_7_0 own_d0 rfl ?_
  refine m_dstoreN K X0.here hx hby #[.val (.ref a1), .val (.ref a2), .val (.int (1 : Int32)), .val (.double (FP.l2d 0)), .second, .unset, .unset, .unset] d_prog_7_7_1 rfl rfl ?_
  refine m_iconst K X0.here hx hby (0 : Int32) d_prog_7_7_2 rfl rfl ?_
  refine m_istore K X0.here hx hby #[.val (.ref a1), .val (.ref a2), .val (.int (1 : Int32)), .val (.double (FP.l2d 0)), .second, .val (.int (0 : Int32)), .unset, .unset] d_prog_7_7_3 rfl rfl ?_
  refine m_iload K X0.here hx hby d_prog_7_7_5 rfl rfl ?_
  refine m_aloadN K X0.here hx hby d_prog_7_7_7 rfl rfl rfl ?_
  refine k_len K X0 hx hby hZ (2 : Int32) e0 A_a1 rfl d_prog_7_7_8 rfl ?_
  refine m_icmpN K X0.here hx hby (q := 12) d_prog_7_7_9 (tlt (by decide : (0 : Int32) < (2 : Int32))).2.1 rfl ?_
  refine m_aloadN K X0.here hx hby d_prog_7_7_12 rfl rfl rfl ?_
  refine m_iload K X0.here hx hby d_prog_7_7_13 rfl rfl ?_
  refine k_ldD K X0 hx hby hZ e0 A_a1 (v := (.double (FP.l2d x0))) (by decide) rfl d_prog_7_7_15 rfl ?_
  refine m_aloadN K X0.here hx hby d_prog_7_7_16 rfl rfl rfl ?_
  refine m_iloadN K X0.here hx hby d_prog_7_7_17 rfl rfl ?_
  refine m_iload K X0.here hx hby d_prog_7_7_18 rfl rfl ?_
  refine m_iadd K X0.here hx hby (1 : Int32) d_prog_7_7_20 rfl rfl ?_
  refine k_ldD K X0 hx hby hZ e0 A_a2 (v := (.double (FP.l2d y1))) (by decide) rfl d_prog_7_7_21 rfl ?_
  refine m_dsub K X0.here hx hby (FP.l2d (x0 - y1)) d_prog_7_7_22 (nn_w (own_dsub h_x0 h_y1 (by decide) (by decide))) (own_dsub h_x0 h_y1 (by decide) (by decide)) rfl ?_
  refine m_dstore K X0.here hx hby #[.val (.ref a1), .val (.ref a2), .val (.int (1 : Int32)), .val (.double (FP.l2d 0)), .second, .val (.int (0 : Int32)), .val (.double (FP.l2d (x0 - y1))), .second] d_prog_7_7_23 rfl rfl ?_
  refine m_dloadN K X0.here hx hby d_prog_7_7_25 rfl rfl ?_
  refine m_dload K X0.here hx hby d_prog_7_7_26 rfl rfl ?_
  refine m_dload K X0.here hx hby d_prog_7_7_28 rfl rfl ?_
  refine m_dmul K X0.here hx hby (FP.l2d ((x0 - y1) * (x0 - y1))) d_prog_7_7_30 (nn_w (own_dmul (Bd.sub h_x0 h_y1 (by decide)) (by decide) (by decide))) (own_dmul (Bd.sub h_x0 h_y1 (by decide)) (by decide) (by decide)) rfl ?_
  refine m_dadd K X0.here hx hby (FP.l2d (0 + ((x0 - y1) * (x0 - y1)))) d_prog_7_7_31 (nn_w (own_dadd own_bd0 (Bd.sq (Bd.sub h_x0 h_y1 (by decide)) (by decide)) (by decide) (by decide))) (own_dadd own_bd0 (Bd.sq (Bd.sub h_x0 h_y1 (by decide)) (by decide)) (by decide) (by decide)) rfl ?_
  refine m_dstoreN K X0.here hx hby #[.val (.ref a1), .val (.ref a2), .val (.int (1 : Int32)), .val (.double (FP.l2d (0 + ((x0 - y1) * (x0 - y1))))), .second, .val (.int (0 : Int32)), .val (.double (FP.l2d (x0 - y1))), .second] d_prog_7_7_32 rfl rfl ?_
  refine m_iinc K X0.here hx hby #[.val (.ref a1), .val (.ref a2), .val (.int (1 : Int32)), .val (.double (FP.l2d (0 + ((x0 - y1) * (x0 - y1))))), .second, .val (.int (1 : Int32)), .val (.double (FP.l2d (x0 - y1))), .second] d_prog_7_7_33 rfl rfl rfl ?_
  refine m_goto K X0.here hx hby (q := 5) d_prog_7_7_36 (by decide) rfl ?_
  refine m_iload K X0.here hx hby d_prog_7_7_5 rfl rfl ?_
  refine m_aloadN K X0.here hx hby d_prog_7_7_7 rfl rfl rfl ?_
  refine k_len K X0 hx hby hZ (2 : Int32) e0 A_a1 rfl d_prog_7_7_8 rfl ?_
  refine m_icmpN K X0.here hx hby (q := 12) d_prog_7_7_9 (tlt (by decide : (1 : Int32) < (2 : Int32))).2.1 rfl ?_
  refine m_aloadN K X0.here hx hby d_prog_7_7_12 rfl rfl rfl ?_
  refine m_iload K X0.here hx hby d_prog_7_7_13 rfl rfl ?_
  refine k_ldD K X0 hx hby hZ e0 A_a1 (v := (.double (FP.l2d x1))) (by decide) rfl d_prog_7_7_15 rfl ?_
  refine m_aloadN K X0.here hx hby d_prog_7_7_16 rfl rfl rfl ?_
  refine m_iloadN K X0.here hx hby d_prog_7_7_17 rfl rfl ?_
  refine m_iload K X0.here hx hby d_prog_7_7_18 rfl rfl ?_
  refine m_iadd K X0.here hx hby (2 : Int32) d_prog_7_7_20 rfl rfl ?_
  refine k_ldD K X0 hx hby hZ e0 A_a2 (v := (.double (FP.l2d y2))) (by decide) rfl d_prog_7_7_21 rfl ?_
  refine m_dsub K X0.here hx hby (FP.l2d (x1 - y2)) d_prog_7_7_22 (nn_w (own_dsub h_x1 h_y2 (by decide) (by decide))) (own_dsub h_x1 h_y2 (by decide) (by decide)) rfl ?_
  refine m_dstore K X0.here hx hby #[.val (.ref a1), .val (.ref a2), .val (.int (1 : Int32)), .val (.double (FP.l2d (0 + ((x0 - y1) * (x0 - y1))))), .second, .val (.int (1 : Int32)), .val (.double (FP.l2d (x1 - y2))), .second] d_prog_7_7_23 rfl rfl ?_
  refine m_dloadN K X0.here hx hby d_prog_7_7_25 rfl rfl ?_
  refine m_dload K X0.here hx hby d_prog_7_7_26 rfl rfl ?_
  refine m_dload K X0.here hx hby d_prog_7_7_28 rfl rfl ?_
  refine m_dmul K X0.here hx hby (FP.l2d ((x1 - y2) * (x1 - y2))) d_prog_7_7_30 (nn_w (own_dmul (Bd.sub h_x1 h_y2 (by decide)) (by decide) (by decide))) (own_dmul (Bd.sub h_x1 h_y2 (by decide)) (by decide) (by decide)) rfl ?_
  refine m_dadd K X0.here hx hby (FP.l2d (w2_2_1_1 x0 x1 y1 y2)) d_prog_7_7_31 (nn_w (own_dadd (Bd.add own_bd0 (Bd.sq (Bd.sub h_x0 h_y1 (by decide)) (by decide)) (by decide)) (Bd.sq (Bd.sub h_x1 h_y2 (by decide)) (by decide)) (by decide) (by decide))) (own_dadd (Bd.add own_bd0 (Bd.sq (Bd.sub h_x0 h_y1 (by decide)) (by decide)) (by decide)) (Bd.sq (Bd.sub h_x1 h_y2 (by decide)) (by decide)) (by decide) (by decide)) rfl ?_
  refine m_dstoreN K X0.here hx hby #[.val (.ref a1), .val (.ref a2), .val (.int (1 : Int32)), .val (.double (FP.l2d (w2_2_1_1 x0 x1 y1 y2))), .second, .val (.int (1 : Int32)), .val (.double (FP.l2d (x1 - y2))), .second] d_prog_7_7_32 rfl rfl ?_
  refine m_iinc K X0.here hx hby #[.val (.ref a1), .val (.ref a2), .val (.int (1 : Int32)), .val (.double (FP.l2d (w2_2_1_1 x0 x1 y1 y2))), .second, .val (.int (2 : Int32)), .val (.double (FP.l2d (x1 - y2))), .second] d_prog_7_7_33 rfl rfl rfl ?_
  refine m_goto K X0.here hx hby (q := 5) d_prog_7_7_36 (by decide) rfl ?_
  refine m_iload K X0.here hx hby d_prog_7_7_5 rfl rfl ?_
  refine m_aloadN K X0.here hx hby d_prog_7_7_7 rfl rfl rfl ?_
  refine k_len K X0 hx hby hZ (2 : Int32) e0 A_a1 rfl d_prog_7_7_8 rfl ?_
  refine m_icmpY K X0.here hx hby (q := 39) d_prog_7_7_9 (flt (by decide : ¬ ((2 : Int32) < (2 : Int32)))).2.1 (by decide) rfl ?_
  refine m_dloadN K X0.here hx hby d_prog_7_7_39 rfl rfl ?_
  exact Go.retO X0 hx hby hlk hret rfl (Or.inr (Or.inr (Or.inl ⟨rfl, rfl, _, rfl⟩))) d_prog_7_7_40 (by decide) (by decide) (⟨rfl, e0, rfl⟩)
def w2_2_2_1 (x0 : Int64) (x1 : Int64) (y2 : Int64) (y3 : Int64) : Int64 := ((0 + ((x0 - y2) * (x0 - y2))) + ((x1 - y3) * (x1 - y3)))
def SS_2_2 (x0 : Int64) (x1 : Int64) (y2 : Int64) (y3 : Int64) : Int64 := (w2_2_2_1 x0 x1 y2 y3)
theorem ef2_2_2 (m : MethodId) (x0 : Addr) (x1 : Addr) (x2 : Int32) : entryFrame m #[(.ref x0), (.ref x1), (.int x2)] 8 = mkF m 0 #[.val (.ref x0), .val (.ref x1), .val (.int x2), .unset, .unset, .unset, .unset, .unset] [] := by first | (simp [entryFrame, mkF, argsToLocals, Value.category]; done) | rfl
set_option maxRecDepth 65536 in
set_option maxHeartbeats 40000000 in
theorem c2_2_2 (l : Launch) (Z : State) (a0 : Array Value) (hw : ∀ d ∈ tables_1, d.before a0 Z = true) (a1 : Addr) (a2 : Addr) (x0 : Int64) (x1 : Int64) (y0 : Int64) (y1 : Int64) (y2 : Int64) (y3 : Int64) (y4 : Int64) (y5 : Int64) (h0 : Heap) (n0 : Nat) (Z0 : n0 ≤ h0.size) (A_a1 : Av Z h0 a1 .double [(.double (FP.l2d x0)), (.double (FP.l2d x1))]) (A_a2 : Av Z h0 a2 .double [(.double (FP.l2d y0)), (.double (FP.l2d y1)), (.double (FP.l2d y2)), (.double (FP.l2d y3)), (.double (FP.l2d y4)), (.double (FP.l2d y5))]) (h_x0 : Bd 1048576 x0) (h_x1 : Bd 1048576 x1) (h_y2 : Bd 1048576 y2) (h_y3 : Bd 1048576 y3) :
    Con l Z (⟨"com/example/askance/askance/KdTree", "sumOfSquares", "([D[DI)D"⟩ : MethodName) prog_7_method_7_code 8 (some .double) ({ frames := 0, cells := 0, slots := 0, locals := 0 } : Room) [] #[(.ref a1), (.ref a2), (.int (2 : Int32))] h0 (fun v h L => v = some (.double (FP.l2d (SS_2_2 x0 x1 y2 y3))) ∧ h = h0 ∧ L = []) := by
  refine Con.of (plainFor_of_name pn_com_example_askance_askance_KdTree) #[.val (.ref a1), .val (.ref a2), .val (.int (2 : Int32)), .unset, .unset, .unset, .unset, .unset] (fun m => ef2_2_2 m a1 a2 (2 : Int32)) ?_
  intro p e s m below meth c s₁ K hx hby hml hown hnm hret hlk hZ X0 e0
  have N0 := Fr.nil n0
  refine m_dconst0 K X0.here hx hby (FP.l2d 0) d_prog_7_7_0 own_d0 rfl ?_
  refine m_dstoreN K X0.here hx hby #[.val (.ref a1), .val (.ref a2), .val (.int (2 : Int32)), .val (.double (FP.l2d 0)), .second, .unset, .unset, .unset] d_prog_7_7_1 rfl rfl ?_
  refine m_iconst K X0.here hx hby (0 : Int32) d_prog_7_7_2 rfl rfl ?_
  refine m_istore K X0.here hx hby #[.val (.ref a1), .val (.ref a2), .val (.int (2 : Int32)), .val (.double (FP.l2d 0)), .second, .val (.int (0 : Int32)), .unset, .unset] d_prog_7_7_3 rfl rfl ?_
  refine m_iload K X0.here hx hby d_prog_7_7_5 rfl rfl ?_
  refine m_aloadN K X0.here hx hby d_prog_7_7_7 rfl rfl rfl ?_
  refine k_len K X0 hx hby hZ (2 : Int32) e0 A_a1 rfl d_prog_7_7_8 rfl ?_
  refine m_icmpN K X0.here hx hby (q := 12) d_prog_7_7_9 (tlt (by decide : (0 : Int32) < (2 : Int32))).2.1 rfl ?_
  refine m_aloadN K X0.here hx hby d_prog_7_7_12 rfl rfl rfl ?_
  refine m_iload K X0.here hx hby d_prog_7_7_13 rfl rfl ?_
  refine k_ldD K X0 hx hby hZ e0 A_a1 (v := (.double (FP.l2d x0))) (by decide) rfl d_prog_7_7_15 rfl ?_
  refine m_aloadN K X0.here hx hby d_prog_7_7_16 rfl rfl rfl ?_
  refine m_iloadN K X0.here hx hby d_prog_7_7_17 rfl rfl ?_
  refine m_iload K X0.here hx hby d_prog_7_7_18 rfl rfl ?_
  refine m_iadd K X0.here hx hby (2 : Int32) d_prog_7_7_20 rfl rfl ?_
  refine k_ldD K X0 hx hby hZ e0 A_a2 (v := (.double (FP.l2d y2))) (by decide) rfl d_prog_7_7_21 rfl ?_
  refine m_dsub K X0.here hx hby (FP.l2d (x0 - y2)) d_prog_7_7_22 (nn_w (own_dsub h_x0 h_y2 (by decide) (by decide))) (own_dsub h_x0 h_y2 (by decide) (by decide)) rfl ?_
  refine m_dstore K X0.here hx hby #[.val (.ref a1), .val (.ref a2), .val (.int (2 : Int32)), .val (.double (FP.l2d 0)), .second, .val (.int (0 : Int32)), .val (.double (FP.l2d (x0 - y2))), .second] d_prog_7_7_23 rfl rfl ?_
  refine m_dloadN K X0.here hx hby d_prog_7_7_25 rfl rfl ?_
  refine m_dload K X0.here hx hby d_prog_7_7_26 rfl rfl ?_
  refine m_dload K X0.here hx hby d_prog_7_7_28 rfl rfl ?_
  refine m_dmul K X0.here hx hby (FP.l2d ((x0 - y2) * (x0 - y2))) d_prog_7_7_30 (nn_w (own_dmul (Bd.sub h_x0 h_y2 (by decide)) (by decide) (by decide))) (own_dmul (Bd.sub h_x0 h_y2 (by decide)) (by decide) (by decide)) rfl ?_
  refine m_dadd K X0.here hx hby (FP.l2d (0 + ((x0 - y2) * (x0 - y2)))) d_prog_7_7_31 (nn_w (own_dadd own_bd0 (Bd.sq (Bd.sub h_x0 h_y2 (by decide)) (by decide)) (by decide) (by decide))) (own_dadd own_bd0 (Bd.sq (Bd.sub h_x0 h_y2 (by decide)) (by decide)) (by decide) (by decide)) rfl ?_
  refine m_dstoreN K X0.here hx hby #[.val (.ref a1), .val (.ref a2), .val (.int (2 : Int32)), .val (.double (FP.l2d (0 + ((x0 - y2) * (x0 - y2))))), .second, .val (.int (0 : Int32)), .val (.double (FP.l2d (x0 - y2))), .second] d_prog_7_7_32 rfl rfl ?_
  refine m_iinc K X0.here hx hby #[.val (.ref a1), .val (.ref a2), .val (.int (2 : Int32)), .val (.double (FP.l2d (0 + ((x0 - y2) * (x0 - y2))))), .second, .val (.int (1 : Int32)), .val (.double (FP.l2d (x0 - y2))), .second] d_prog_7_7_33 rfl rfl rfl ?_
  refine m_goto K X0.here hx hby (q := 5) d_prog_7_7_36 (by decide) rfl ?_
  refine m_iload K X0.here hx hby d_prog_7_7_5 rfl rfl ?_
  refine m_aloadN K X0.here hx hby d_prog_7_7_7 rfl rfl rfl ?_
  refine k_len K X0 hx hby hZ (2 : Int32) e0 A_a1 rfl d_prog_7_7_8 rfl ?_
  refine m_icmpN K X0.here hx hby (q := 12) d_prog_7_7_9 (tlt (by decide : (1 : Int32) < (2 : Int32))).2.1 rfl ?_
  refine m_aloadN K X0.here hx hby d_prog_7_7_12 rfl rfl rfl ?_
  refine m_iload K X0.here hx hby d_prog_7_7_13 rfl rfl ?_
  refine k_ldD K X0 hx hby hZ e0 A_a1 (v := (.double (FP.l2d x1))) (by decide) rfl d_prog_7_7_15 rfl ?_
  refine m_aloadN K X0.here hx hby d_prog_7_7_16 rfl rfl rfl ?_
  refine m_iloadN K X0.here hx hby d_prog_7_7_17 rfl rfl ?_
  refine m_iload K X0.here hx hby d_prog_7_7_18 rfl rfl ?_
  refine m_iadd K X0.here hx hby (3 : Int32) d_prog_7_7_20 rfl rfl ?_
  refine k_ldD K X0 hx hby hZ e0 A_a2 (v := (.double (FP.l2d y3))) (by decide) rfl d_prog_7_7_21 rfl ?_
  refine m_dsub K X0.here hx hby (FP.l2d (x1 - y3)) d_prog_7_7_22 (nn_w (own_dsub h_x1 h_y3 (by decide) (by decide))) (own_dsub h_x1 h_y3 (by decide) (by decide)) rfl ?_
  refine m_dstore K X0.here hx hby #[.val (.ref a1), .val (.ref a2), .val (.int (2 : Int32)), .val (.double (FP.l2d (0 + ((x0 - y2) * (x0 - y2))))), .second, .val (.int (1 : Int32)), .val (.double (FP.l2d (x1 - y3))), .second] d_prog_7_7_23 rfl rfl ?_
  refine m_dloadN K X0.here hx hby d_prog_7_7_25 rfl rfl ?_
  refine m_dload K X0.here hx hby d_prog_7_7_26 rfl rfl ?_
  refine m_dload K X0.here hx hby d_prog_7_7_28 rfl rfl ?_
  refine m_dmul K X0.here hx hby (FP.l2d ((x1 - y3) * (x1 - y3))) d_prog_7_7_30 (nn_w (own_dmul (Bd.sub h_x1 h_y3 (by decide)) (by decide) (by decide))) (own_dmul (Bd.sub h_x1 h_y3 (by decide)) (by decide) (by decide)) rfl ?_
  refine m_dadd K X0.here hx hby (FP.l2d (w2_2_2_1 x0 x1 y2 y3)) d_prog_7_7_31 (nn_w (own_dadd (Bd.add own_bd0 (Bd.sq (Bd.sub h_x0 h_y2 (by decide)) (by decide)) (by decide)) (Bd.sq (Bd.sub h_x1 h_y3 (by decide)) (by decide)) (by decide) (by decide))) (own_dadd (Bd.add own_bd0 (Bd.sq (Bd.sub h_x0 h_y2 (by decide)) (by decide)) (by decide)) (Bd.sq (Bd.sub h_x1 h_y3 (by decide)) (by decide)) (by decide) (by decide)) rfl ?_
  refine m_dstoreN K X0.here hx hby #[.val (.ref a1), .val (.ref a2), .val (.int (2 : Int32)), .val (.double (FP.l2d (w2_2_2_1 x0 x1 y2 y3))), .second, .val (.int (1 : Int32)), .val (.double (FP.l2d (x1 - y3))), .second] d_prog_7_7_32 rfl rfl ?_
  refine m_iinc K X0.here hx hby #[.val (.ref a1), .val (.ref a2), .val (.int (2 : Int32)), .val (.double (FP.l2d (w2_2_2_1 x0 x1 y2 y3))), .second, .val (.int (2 : Int32)), .val (.double (FP.l2d (x1 - y3))), .second] d_prog_7_7_33 rfl rfl rfl ?_
  refine m_goto K X0.here hx hby (q := 5) d_prog_7_7_36 (by decide) rfl ?_
  refine m_iload K X0.here hx hby d_prog_7_7_5 rfl rfl ?_
  refine m_aloadN K X0.here hx hby d_prog_7_7_7 rfl rfl rfl ?_
  refine k_len K X0 hx hby hZ (2 : Int32) e0 A_a1 rfl d_prog_7_7_8 rfl ?_
  refine m_icmpY K X0.here hx hby (q := 39) d_prog_7_7_9 (flt (by decide : ¬ ((2 : Int32) < (2 : Int32)))).2.1 (by decide) rfl ?_
  refine m_dloadN K X0.here hx hby d_prog_7_7_39 rfl rfl ?_
  exact Go.retO X0 hx hby hlk hret rfl (Or.inr (Or.inr (Or.inl ⟨rfl, rfl, _, rfl⟩))) d_prog_7_7_40 (by decide) (by decide) (⟨rfl, e0, rfl⟩)
def w2_2_3_1 (x0 : Int64) (x1 : Int64) (y3 : Int64) (y4 : Int64) : Int64 := ((0 + ((x0 - y3) * (x0 - y3))) + ((x1 - y4) * (x1 - y4)))
def SS_2_3 (x0 : Int64) (x1 : Int64) (y3 : Int64) (y4 : Int64) : Int64 := (w2_2_3_1 x0 x1 y3 y4)
theorem ef2_2_3 (m : MethodId) (x0 : Addr) (x1 : Addr) (x2 : Int32) : entryFrame m #[(.ref x0), (.ref x1), (.int x2)] 8 = mkF m 0 #[.val (.ref x0), .val (.ref x1), .val (.int x2), .unset, .unset, .unset, .unset, .unset] [] := by first | (simp [entryFrame, mkF, argsToLocals, Value.category]; done) | rfl
set_option maxRecDepth 65536 in
set_option maxHeartbeats 40000000 in
theorem c2_2_3 (l : Launch) (Z : State) (a0 : Array Value) (hw : ∀ d ∈ tables_1, d.before a0 Z = true) (a1 : Addr) (a2 : Addr) (x0 : Int64) (x1 : Int64) (y0 : Int64) (y1 : Int64) (y2 : Int64) (y3 : Int64) (y4 : Int64) (y5 : Int64) (h0 : Heap) (n0 : Nat) (Z0 : n0 ≤ h0.size) (A_a1 : Av Z h0 a1 .double [(.double (FP.l2d x0)), (.double (FP.l2d x1))]) (A_a2 : Av Z h0 a2 .double [(.double (FP.l2d y0)), (.double (FP.l2d y1)), (.double (FP.l2d y2)), (.double (FP.l2d y3)), (.double (FP.l2d y4)), (.double (FP.l2d y5))]) (h_x0 : Bd 1048576 x0) (h_x1 : Bd 1048576 x1) (h_y3 : Bd 1048576 y3) (h_y4 : Bd 1048576 y4) :
    Con l Z (⟨"com/example/askance/askance/KdTree", "sumOfSquares", "([D[DI)D"⟩ : MethodName) prog_7_method_7_code 8 (some .double) ({ frames := 0, cells := 0, slots := 0, locals := 0 } : Room) [] #[(.ref a1), (.ref a2), (.int (3 : Int32))] h0 (fun v h L => v = some (.double (FP.l2d (SS_2_3 x0 x1 y3 y4))) ∧ h = h0 ∧ L = []) := by
  refine Con.of (plainFor_of_name pn_com_example_askance_askance_KdTree) #[.val (.ref a1), .val (.ref a2), .val (.int (3 : Int32)), .unset, .unset, .unset, .unset, .unset] (fun m => ef2_2_3 m a1 a2 (3 : Int32)) ?_
  intro p e s m below meth c s₁ K hx hby hml hown hnm hret hlk hZ X0 e0
  have N0 := Fr.nil n0
  refine m_dconst0 K X0.here hx hby (FP.l2d 0) d_prog_7_7_0 own_d0 rfl ?_
  refine m_dstoreN K X0.here hx hby #[.val (.ref a1), .val (.ref a2), .val (.int (3 : Int32)), .val (.double (FP.l2d 0)), .second, .unset, .unset, .unset] d_prog_7_7_1 rfl rfl ?_
  refine m_iconst K X0.here hx hby (0 : Int32) d_prog_7_7_2 rfl rfl ?_
  refine m_istore K X0.here hx hby #[.val (.ref a1), .val (.ref a2), .val (.int (3 : Int32)), .val (.double (FP.l2d 0)), .second, .val (.int (0 : Int32)), .unset, .unset] d_prog_7_7_3 rfl rfl ?_
  refine m_iload K X0.here hx hby d_prog_7_7_5 rfl rfl ?_
  refine m_aloadN K X0.here hx hby d_prog_7_7_7 rfl rfl rfl ?_
  refine k_len K X0 hx hby hZ (2 : Int32) e0 A_a1 rfl d_prog_7_7_8 rfl ?_
  refine m_icmpN K X0.here hx hby (q := 12) d_prog_7_7_9 (tlt (by decide : (0 : Int32) < (2 : Int32))).2.1 rfl ?_
  refine m_aloadN K X0.here hx hby d_prog_7_7_12 rfl rfl rfl ?_
  refine m_iload K X0.here hx hby d_prog_7_7_13 rfl rfl ?_
  refine k_ldD K X0 hx hby hZ e0 A_a1 (v := (.double (FP.l2d x0))) (by decide) rfl d_prog_7_7_15 rfl ?_
  refine m_aloadN K X0.here hx hby d_prog_7_7_16 rfl rfl rfl ?_
  refine m_iloadN K X0.here hx hby d_prog_7_7_17 rfl rfl ?_
  refine m_iload K X0.here hx hby d_prog_7_7_18 rfl rfl ?_
  refine m_iadd K X0.here hx hby (3 : Int32) d_prog_7_7_20 rfl rfl ?_
  refine k_ldD K X0 hx hby hZ e0 A_a2 (v := (.double (FP.l2d y3))) (by decide) rfl d_prog_7_7_21 rfl ?_
  refine m_dsub K X0.here hx hby (FP.l2d (x0 - y3)) d_prog_7_7_22 (nn_w (own_dsub h_x0 h_y3 (by decide) (by decide))) (own_dsub h_x0 h_y3 (by decide) (by decide)) rfl ?_
  refine m_dstore K X0.here hx hby #[.val (.ref a1), .val (.ref a2), .val (.int (3 : Int32)), .val (.double (FP.l2d 0)), .second, .val (.int (0 : Int32)), .val (.double (FP.l2d (x0 - y3))), .second] d_prog_7_7_23 rfl rfl ?_
  refine m_dloadN K X0.here hx hby d_prog_7_7_25 rfl rfl ?_
  refine m_dload K X0.here hx hby d_prog_7_7_26 rfl rfl ?_
  refine m_dload K X0.here hx hby d_prog_7_7_28 rfl rfl ?_
  refine m_dmul K X0.here hx hby (FP.l2d ((x0 - y3) * (x0 - y3))) d_prog_7_7_30 (nn_w (own_dmul (Bd.sub h_x0 h_y3 (by decide)) (by decide) (by decide))) (own_dmul (Bd.sub h_x0 h_y3 (by decide)) (by decide) (by decide)) rfl ?_
  refine m_dadd K X0.here hx hby (FP.l2d (0 + ((x0 - y3) * (x0 - y3)))) d_prog_7_7_31 (nn_w (own_dadd own_bd0 (Bd.sq (Bd.sub h_x0 h_y3 (by decide)) (by decide)) (by decide) (by decide))) (own_dadd own_bd0 (Bd.sq (Bd.sub h_x0 h_y3 (by decide)) (by decide)) (by decide) (by decide)) rfl ?_
  refine m_dstoreN K X0.here hx hby #[.val (.ref a1), .val (.ref a2), .val (.int (3 : Int32)), .val (.double (FP.l2d (0 + ((x0 - y3) * (x0 - y3))))), .second, .val (.int (0 : Int32)), .val (.double (FP.l2d (x0 - y3))), .second] d_prog_7_7_32 rfl rfl ?_
  refine m_iinc K X0.here hx hby #[.val (.ref a1), .val (.ref a2), .val (.int (3 : Int32)), .val (.double (FP.l2d (0 + ((x0 - y3) * (x0 - y3))))), .second, .val (.int (1 : Int32)), .val (.double (FP.l2d (x0 - y3))), .second] d_prog_7_7_33 rfl rfl rfl ?_
  refine m_goto K X0.here hx hby (q := 5) d_prog_7_7_36 (by decide) rfl ?_
  refine m_iload K X0.here hx hby d_prog_7_7_5 rfl rfl ?_
  refine m_aloadN K X0.here hx hby d_prog_7_7_7 rfl rfl rfl ?_
  refine k_len K X0 hx hby hZ (2 : Int32) e0 A_a1 rfl d_prog_7_7_8 rfl ?_
  refine m_icmpN K X0.here hx hby (q := 12) d_prog_7_7_9 (tlt (by decide : (1 : Int32) < (2 : Int32))).2.1 rfl ?_
  refine m_aloadN K X0.here hx hby d_prog_7_7_12 rfl rfl rfl ?_
  refine m_iload K X0.here hx hby d_prog_7_7_13 rfl rfl ?_
  refine k_ldD K X0 hx hby hZ e0 A_a1 (v := (.double (FP.l2d x1))) (by decide) rfl d_prog_7_7_15 rfl ?_
  refine m_aloadN K X0.here hx hby d_prog_7_7_16 rfl rfl rfl ?_
  refine m_iloadN K X0.here hx hby d_prog_7_7_17 rfl rfl ?_
  refine m_iload K X0.here hx hby d_prog_7_7_18 rfl rfl ?_
  refine m_iadd K X0.here hx hby (4 : Int32) d_prog_7_7_20 rfl rfl ?_
  refine k_ldD K X0 hx hby hZ e0 A_a2 (v := (.double (FP.l2d y4))) (by decide) rfl d_prog_7_7_21 rfl ?_
  refine m_dsub K X0.here hx hby (FP.l2d (x1 - y4)) d_prog_7_7_22 (nn_w (own_dsub h_x1 h_y4 (by decide) (by decide))) (own_dsub h_x1 h_y4 (by decide) (by decide)) rfl ?_
  refine m_dstore K X0.here hx hby #[.val (.ref a1), .val (.ref a2), .val (.int (3 : Int32)), .val (.double (FP.l2d (0 + ((x0 - y3) * (x0 - y3))))), .second, .val (.int (1 : Int32)), .val (.double (FP.l2d (x1 - y4))), .second] d_prog_7_7_23 rfl rfl ?_
  refine m_dloadN K X0.here hx hby d_prog_7_7_25 rfl rfl ?_
  refine m_dload K X0.here hx hby d_prog_7_7_26 rfl rfl ?_
  refine m_dload K X0.here hx hby d_prog_7_7_28 rfl rfl ?_
  refine m_dmul K X0.here hx hby (FP.l2d ((x1 - y4) * (x1 - y4))) d_prog_7_7_30 (nn_w (own_dmul (Bd.sub h_x1 h_y4 (by decide)) (by decide) (by decide))) (own_dmul (Bd.sub h_x1 h_y4 (by decide)) (by decide) (by decide)) rfl ?_
  refine m_dadd K X0.here hx hby (FP.l2d (w2_2_3_1 x0 x1 y3 y4)) d_prog_7_7_31 (nn_w (own_dadd (Bd.add own_bd0 (Bd.sq (Bd.sub h_x0 h_y3 (by decide)) (by decide)) (by decide)) (Bd.sq (Bd.sub h_x1 h_y4 (by decide)) (by decide)) (by decide) (by decide))) (own_dadd (Bd.add own_bd0 (Bd.sq (Bd.sub h_x0 h_y3 (by decide)) (by decide)) (by decide)) (Bd.sq (Bd.sub h_x1 h_y4 (by decide)) (by decide)) (by decide) (by decide)) rfl ?_
  refine m_dstoreN K X0.here hx hby #[.val (.ref a1), .val (.ref a2), .val (.int (3 : Int32)), .val (.double (FP.l2d (w2_2_3_1 x0 x1 y3 y4))), .second, .val (.int (1 : Int32)), .val (.double (FP.l2d (x1 - y4))), .second] d_prog_7_7_32 rfl rfl ?_
  refine m_iinc K X0.here hx hby #[.val (.ref a1), .val (.ref a2), .val (.int (3 : Int32)), .val (.double (FP.l2d (w2_2_3_1 x0 x1 y3 y4))), .second, .val (.int (2 : Int32)), .val (.double (FP.l2d (x1 - y4))), .second] d_prog_7_7_33 rfl rfl rfl ?_
  refine m_goto K X0.here hx hby (q := 5) d_prog_7_7_36 (by decide) rfl ?_
  refine m_iload K X0.here hx hby d_prog_7_7_5 rfl rfl ?_
  refine m_aloadN K X0.here hx hby d_prog_7_7_7 rfl rfl rfl ?_
  refine k_len K X0 hx hby hZ (2 : Int32) e0 A_a1 rfl d_prog_7_7_8 rfl ?_
  refine m_icmpY K X0.here hx hby (q := 39) d_prog_7_7_9 (flt (by decide : ¬ ((2 : Int32) < (2 : Int32)))).2.1 (by decide) rfl ?_
  refine m_dloadN K X0.here hx hby d_prog_7_7_39 rfl rfl ?_
  exact Go.retO X0 hx hby hlk hret rfl (Or.inr (Or.inr (Or.inl ⟨rfl, rfl, _, rfl⟩))) d_prog_7_7_40 (by decide) (by decide) (⟨rfl, e0, rfl⟩)
def w2_3_0_1 (x0 : Int64) (x1 : Int64) (y0 : Int64) (y1 : Int64) : Int64 := ((0 + ((x0 - y0) * (x0 - y0))) + ((x1 - y1) * (x1 - y1)))
def w2_3_0_2 (x0 : Int64) (x1 : Int64) (x2 : Int64) (y0 : Int64) (y1 : Int64) (y2 : Int64) : Int64 := ((w2_3_0_1 x0 x1 y0 y1) + ((x2 - y2) * (x2 - y2)))
def SS_3_0 (x0 : Int64) (x1 : Int64) (x2 : Int64) (y0 : Int64) (y1 : Int64) (y2 : Int64) : Int64 := (w2_3_0_2 x0 x1 x2 y0 y1 y2)
theorem ef2_3_0 (m : MethodId) (x0 : Addr) (x1 : Addr) (x2 : Int32) : entryFrame m #[(.ref x0), (.ref x1), (.int x2)] 8 = mkF m 0 #[.val (.ref x0), .val (.ref x1), .val (.int x2), .unset, .unset, .unset, .unset, .unset] [] := by first | (simp [entryFrame, mkF, argsToLocals, Value.category]; done) | rfl
set_option maxRecDepth 65536 in
set_option maxHeartbeats 40000000 in
theorem c2_3_0 (l : Launch) (Z : State) (a0 : Array Value) (hw : ∀ d ∈ tables_1, d.before a0 Z = true) (a1 : Addr) (a2 : Addr) (x0 : Int64) (x1 : Int64) (x2 : Int64) (y0 : Int64) (y1 : Int64) (y2 : Int64) (y3 : Int64) (y4 : Int64) (y5 : Int64) (h0 : Heap) (n0 : Nat) (Z0 : n0 ≤ h0.size) (A_a1 : Av Z h0 a1 .double [(.double (FP.l2d x0)), (.double (FP.l2d x1)), (.double (FP.l2d x2))]) (A_a2 : Av Z h0 a2 .double [(.double (FP.l2d y0)), (.double (FP.l2d y1)), (.double (FP.l2d y2)), (.double (FP.l2d y3)), (.double (FP.l2d y4)), (.double (FP.l2d y5))]) (h_x0 : Bd 1048576 x0) (h_x1 : Bd 1048576 x1) (h_x2 : Bd 1048576 x2) (h_y0 : Bd 1048576 y0) (h_y1 : Bd 1048576 y1) (h_y2 : Bd 1048576 y2) :
    Con l Z (⟨"com/example/askance/askance/KdTree", "sumOfSquares", "([D[DI)D"⟩ : MethodName) prog_7_method_7_code 8 (some .double) ({ frames := 0, cells := 0, slots := 0, locals := 0 } : Room) [] #[(.ref a1), (.ref a2), (.int (0 : Int32))] h0 (fun v h L => v = some (.double (FP.l2d (SS_3_0 x0 x1 x2 y0 y1 y2))) ∧ h = h0 ∧ L = []) := by
  refine Con.of (plainFor_of_name pn_com_example_askance_askance_KdTree) #[.val (.ref a1), .val (.ref a2), .val (.int (0 : Int32)), .unset, .unset, .unset, .unset, .unset] (fun m => ef2_3_0 m a1 a2 (0 : Int32)) ?_
  intro p e s m below meth c s₁ K hx hby hml hown hnm hret hlk hZ X0 e0
  have N0 := Fr.nil n0
  refine m_dconst0 K X0.here hx hby (FP.l2d 0) d_prog_7_7_0 own_d0 rfl ?_
  refine m_dstoreN K X0.here hx hby #[.val (.ref a1), .val (.ref a2), .val (.int (0 : Int32)), .val (.double (FP.l2d 0)), .second, .unset, .unset, .unset] d_prog_7_7_1 rfl rfl ?_
  refine m_iconst K X0.here hx hby (0 : Int32) d_prog_7_7_2 rfl rfl ?_
  refine m_istore K X0.here hx hby #[.val (.ref a1), .val (.ref a2), .val (.int (0 : Int32)), .val (.double (FP.l2d 0)), .second, .val (.int (0 : Int32)), .unset, .unset] d_prog_7_7_3 rfl rfl ?_
  refine m_iload K X0.here hx hby d_prog_7_7_5 rfl rfl ?_
  refine m_aloadN K X0.here hx hby d_prog_7_7_7 rfl rfl rfl ?_
  refine k_len K X0 hx hby hZ (3 : Int32) e0 A_a1 rfl d_prog_7_7_8 rfl ?_
  refine m_icmpN K X0.here hx hby (q := 12) d_prog_7_7_9 (tlt (by decide : (0 : Int32) < (3 : Int32))).2.1 rfl ?_
  refine m_aloadN K X0.here hx hby d_prog_7_7_12 rfl rfl rfl ?_
  refine m_iload K X0.here hx hby d_prog_7_7_13 rfl rfl ?_
  refine k_ldD K X0 hx hby hZ e0 A_a1 (v := (.double (FP.l2d x0))) (by decide) rfl d_prog_7_7_15 rfl ?_
  refine m_aloadN K X0.here hx hby d_prog_7_7_16 rfl rfl rfl ?_
  refine m_iloadN K X0.here hx hby d_prog_7_7_17 rfl rfl ?_
  refine m_iload K X0.here hx hby d_prog_7_7_18 rfl rfl ?_
  refine m_iadd K X0.here hx hby (0 : Int32) d_prog_7_7_20 rfl rfl ?_
  refine k_ldD K X0 hx hby hZ e0 A_a2 (v := (.double (FP.l2d y0))) (by decide) rfl d_prog_7_7_21 rfl ?_
  refine m_dsub K X0.here hx hby (FP.l2d (x0 - y0)) d_prog_7_7_22 (nn_w (own_dsub h_x0 h_y0 (by decide) (by decide))) (own_dsub h_x0 h_y0 (by decide) (by decide)) rfl ?_
  refine m_dstore K X0.here hx hby #[.val (.ref a1), .val (.ref a2), .val (.int (0 : Int32)), .val (.double (FP.l2d 0)), .second, .val (.int (0 : Int32)), .val (.double (FP.l2d (x0 - y0))), .second] d_prog_7_7_23 rfl rfl ?_
  refine m_dloadN K X0.here hx hby d_prog_7_7_25 rfl rfl ?_
  refine m_dload K X0.here hx hby d_prog_7_7_26 rfl rfl ?_
  refine m_dload K X0.here hx hby d_prog_7_7_28 rfl rfl ?_
  refine m_dmul K X0.here hx hby (FP.l2d ((x0 - y0) * (x0 - y0))) d_prog_7_7_30 (nn_w (own_dmul (Bd.sub h_x0 h_y0 (by decide)) (by decide) (by decide))) (own_dmul (Bd.sub h_x0 h_y0 (by decide)) (by decide) (by decide)) rfl ?_
  refine m_dadd K X0.here hx hby (FP.l2d (0 + ((x0 - y0) * (x0 - y0)))) d_prog_7_7_31 (nn_w (own_dadd own_bd0 (Bd.sq (Bd.sub h_x0 h_y0 (by decide)) (by decide)) (by decide) (by decide))) (own_dadd own_bd0 (Bd.sq (Bd.sub h_x0 h_y0 (by decide)) (by decide)) (by decide) (by decide)) rfl ?_
  refine m_dstoreN K X0.here hx hby #[.val (.ref a1), .val (.ref a2), .val (.int (0 : Int32)), .val (.double (FP.l2d (0 + ((x0 - y0) * (x0 - y0))))), .second, .val (.int (0 : Int32)), .val (.double (FP.l2d (x0 - y0))), .second] d_prog_7_7_32 rfl rfl ?_
  refine m_iinc K X0.here hx hby #[.val (.ref a1), .val (.ref a2), .val (.int (0 : Int32)), .val (.double (FP.l2d (0 + ((x0 - y0) * (x0 - y0))))), .second, .val (.int (1 : Int32)), .val (.double (FP.l2d (x0 - y0))), .second] d_prog_7_7_33 rfl rfl rfl ?_
  refine m_goto K X0.here hx hby (q := 5) d_prog_7_7_36 (by decide) rfl ?_
  refine m_iload K X0.here hx hby d_prog_7_7_5 rfl rfl ?_
  refine m_aloadN K X0.here hx hby d_prog_7_7_7 rfl rfl rfl ?_
  refine k_len K X0 hx hby hZ (3 : Int32) e0 A_a1 rfl d_prog_7_7_8 rfl ?_
  refine m_icmpN K X0.here hx hby (q := 12) d_prog_7_7_9 (tlt (by decide : (1 : Int32) < (3 : Int32))).2.1 rfl ?_
  refine m_aloadN K X0.here hx hby d_prog_7_7_12 rfl rfl rfl ?_
  refine m_iload K X0.here hx hby d_prog_7_7_13 rfl rfl ?_
  refine k_ldD K X0 hx hby hZ e0 A_a1 (v := (.double (FP.l2d x1))) (by decide) rfl d_prog_7_7_15 rfl ?_
  refine m_aloadN K X0.here hx hby d_prog_7_7_16 rfl rfl rfl ?_
  refine m_iloadN K X0.here hx hby d_prog_7_7_17 rfl rfl ?_
  refine m_iload K X0.here hx hby d_prog_7_7_18 rfl rfl ?_
  refine m_iadd K X0.here hx hby (1 : Int32) d_prog_7_7_20 rfl rfl ?_
  refine k_ldD K X0 hx hby hZ e0 A_a2 (v := (.double (FP.l2d y1))) (by decide) rfl d_prog_7_7_21 rfl ?_
  refine m_dsub K X0.here hx hby (FP.l2d (x1 - y1)) d_prog_7_7_22 (nn_w (own_dsub h_x1 h_y1 (by decide) (by decide))) (own_dsub h_x1 h_y1 (by decide) (by decide)) rfl ?_
  refine m_dstore K X0.here hx hby #[.val (.ref a1), .val (.ref a2), .val (.int (0 : Int32)), .val (.double (FP.l2d (0 + ((x0 - y0) * (x0 - y0))))), .second, .val (.int (1 : Int32)), .val (.double (FP.l2d (x1 - y1))), .second] d_prog_7_7_23 rfl rfl ?_
  refine m_dloadN K X0.here hx hby d_prog_7_7_25 rfl rfl ?_
  refine m_dload K X0.here hx hby d_prog_7_7_26 rfl rfl ?_
  refine m_dload K X0.here hx hby d_prog_7_7_28 rfl rfl ?_
  refine m_dmul K X0.here hx hby (FP.l2d ((x1 - y1) * (x1 - y1))) d_prog_7_7_30 (nn_w (own_dmul (Bd.sub h_x1 h_y1 (by decide)) (by decide) (by decide))) (own_dmul (Bd.sub h_x1 h_y1 (by decide)) (by decide) (by decide)) rfl ?_
  refine m_dadd K X0.here hx hby (FP.l2d (w2_3_0_1 x0 x1 y0 y1)) d_prog_7_7_31 (nn_w (own_dadd (Bd.add own_bd0 (Bd.sq (Bd.sub h_x0 h_y0 (by decide)) (by decide)) (by decide)) (Bd.sq (Bd.sub h_x1 h_y1 (by decide)) (by decide)) (by decide) (by decide))) (own_dadd (Bd.add own_bd0 (Bd.sq (Bd.sub h_x0 h_y0 (by decide)) (by decide)) (by decide)) (Bd.sq (Bd.sub h_x1 h_y1 (by decide)) (by decide)) (by decide) (by decide)) rfl ?_
  refine m_dstoreN K X0.here hx hby #[.val (.ref a1), .val (.ref a2), .val (.int (0 : Int32)), .val (.double (FP.l2d (w2_3_0_1 x0 x1 y0 y1))), .second, .val (.int (1 : Int32)), .val (.double (FP.l2d (x1 - y1))), .second] d_prog_7_7_32 rfl rfl ?_
  refine m_iinc K X0.here hx hby #[.val (.ref a1), .val (.ref a2), .val (.int (0 : Int32)), .val (.double (FP.l2d (w2_3_0_1 x0 x1 y0 y1))), .second, .val (.int (2 : Int32)), .val (.double (FP.l2d (x1 - y1))), .second] d_prog_7_7_33 rfl rfl rfl ?_
  refine m_goto K X0.here hx hby (q := 5) d_prog_7_7_36 (by decide) rfl ?_
  refine m_iload K X0.here hx hby d_prog_7_7_5 rfl rfl ?_
  refine m_aloadN K X0.here hx hby d_prog_7_7_7 rfl rfl rfl ?_
  refine k_len K X0 hx hby hZ (3 : Int32) e0 A_a1 rfl d_prog_7_7_8 rfl ?_
  refine m_icmpN K X0.here hx hby (q := 12) d_prog_7_7_9 (tlt (by decide : (2 : Int32) < (3 : Int32))).2.1 rfl ?_
  refine m_aloadN K X0.here hx hby d_prog_7_7_12 rfl rfl rfl ?_
  refine m_iload K X0.here hx hby d_prog_7_7_13 rfl rfl ?_
  refine k_ldD K X0 hx hby hZ e0 A_a1 (v := (.double (FP.l2d x2))) (by decide) rfl d_prog_7_7_15 rfl ?_
  refine m_aloadN K X0.here hx hby d_prog_7_7_16 rfl rfl rfl ?_
  refine m_iloadN K X0.here hx hby d_prog_7_7_17 rfl rfl ?_
  refine m_iload K X0.here hx hby d_prog_7_7_18 rfl rfl ?_
  refine m_iadd K X0.here hx hby (2 : Int32) d_prog_7_7_20 rfl rfl ?_
  refine k_ldD K X0 hx hby hZ e0 A_a2 (v := (.double (FP.l2d y2))) (by decide) rfl d_prog_7_7_21 rfl ?_
  refine m_dsub K X0.here hx hby (FP.l2d (x2 - y2)) d_prog_7_7_22 (nn_w (own_dsub h_x2 h_y2 (by decide) (by decide))) (own_dsub h_x2 h_y2 (by decide) (by decide)) rfl ?_
  refine m_dstore K X0.here hx hby #[.val (.ref a1), .val (.ref a2), .val (.int (0 : Int32)), .val (.double (FP.l2d (w2_3_0_1 x0 x1 y0 y1))), .second, .val (.int (2 : Int32)), .val (.double (FP.l2d (x2 - y2))), .second] d_prog_7_7_23 rfl rfl ?_
  refine m_dloadN K X0.here hx hby d_prog_7_7_25 rfl rfl ?_
  refine m_dload K X0.here hx hby d_prog_7_7_26 rfl rfl ?_
  refine m_dload K X0.here hx hby d_prog_7_7_28 rfl rfl ?_
  refine m_dmul K X0.here hx hby (FP.l2d ((x2 - y2) * (x2 - y2))) d_prog_7_7_30 (nn_w (own_dmul (Bd.sub h_x2 h_y2 (by decide)) (by decide) (by decide))) (own_dmul (Bd.sub h_x2 h_y2 (by decide)) (by decide) (by decide)) rfl ?_
  refine m_dadd K X0.here hx hby (FP.l2d (w2_3_0_2 x0 x1 x2 y0 y1 y2)) d_prog_7_7_31 (nn_w (own_dadd (Bd.add (Bd.add own_bd0 (Bd.sq (Bd.sub h_x0 h_y0 (by decide)) (by decide)) (by decide)) (Bd.sq (Bd.sub h_x1 h_y1 (by decide)) (by decide)) (by decide)) (Bd.sq (Bd.sub h_x2 h_y2 (by decide)) (by decide)) (by decide) (by decide))) (own_dadd (Bd.add (Bd.add own_bd0 (Bd.sq (Bd.sub h_x0 h_y0 (by decide)) (by decide)) (by decide)) (Bd.sq (Bd.sub h_x1 h_y1 (by decide)) (by decide)) (by decide)) (Bd.sq (Bd.sub h_x2 h_y2 (by decide)) (by decide)) (by decide) (by decide)) rfl ?_
  refine m_dstoreN K X0.here hx hby #[.val (.ref a1), .val (.ref a2), .val (.int (0 : Int32)), .val (.double (FP.l2d (w2_3_0_2 x0 x1 x2 y0 y1 y2))), .second, .val (.int (2 : Int32)), .val (.double (FP.l2d (x2 - y2))), .second] d_prog_7_7_32 rfl rfl ?_
  refine m_iinc K X0.here hx hby #[.val (.ref a1), .val (.ref a2), .val (.int (0 : Int32)), .val (.double (FP.l2d (w2_3_0_2 x0 x1 x2 y0 y1 y2))), .second, .val (.int (3 : Int32)), .val (.double (FP.l2d (x2 - y2))), .second] d_prog_7_7_33 rfl rfl rfl ?_
  refine m_goto K X0.here hx hby (q := 5) d_prog_7_7_36 (by decide) rfl ?_
  refine m_iload K X0.here hx hby d_prog_7_7_5 rfl rfl ?_
  refine m_aloadN K X0.here hx hby d_prog_7_7_7 rfl rfl rfl ?_
  refine k_len K X0 hx hby hZ (3 : Int32) e0 A_a1 rfl d_prog_7_7_8 rfl ?_
  refine m_icmpY K X0.here hx hby (q := 39) d_prog_7_7_9 (flt (by decide : ¬ ((3 : Int32) < (3 : Int32)))).2.1 (by decide) rfl ?_
  refine m_dloadN K X0.here hx hby d_prog_7_7_39 rfl rfl ?_
  exact Go.retO X0 hx hby hlk hret rfl (Or.inr (Or.inr (Or.inl ⟨rfl, rfl, _, rfl⟩))) d_prog_7_7_40 (by decide) (by decide) (⟨rfl, e0, rfl⟩)
def w2_3_1_1 (x0 : Int64) (x1 : Int64) (y1 : Int64) (y2 : Int64) : Int64 := ((0 + ((x0 - y1) * (x0 - y1))) + ((x1 - y2) * (x1 - y2)))
def w2_3_1_2 (x0 : Int64) (x1 : Int64) (x2 : Int64) (y1 : Int64) (y2 : Int64) (y3 : Int64) : Int64 := ((w2_3_1_1 x0 x1 y1 y2) + ((x2 - y3) * (x2 - y3)))
def SS_3_1 (x0 : Int64) (x1 : Int64) (x2 : Int64) (y1 : Int64) (y2 : Int64) (y3 : Int64) : Int64 := (w2_3_1_2 x0 x1 x2 y1 y2 y3)
theorem ef2_3_1 (m : MethodId) (x0 : Addr) (x1 : Addr) (x2 : Int32) : entryFrame m #[(.ref x0), (.ref x1), (.int x2)] 8 = mkF m 0 #[.val (.ref x0), .val (.ref x1), .val (.int x2), .unset, .unset, .unset, .unset, .unset] [] := by first | (simp [entryFrame, mkF, argsToLocals, Value.category]; done) | rfl
set_option maxRecDepth 65536 in
set_option maxHeartbeats 40000000 in
theorem c2_3_1 (l : Launch) (Z : State) (a0 : Array Value) (hw : ∀ d ∈ tables_1, d.before a0 Z = true) (a1 : Addr) (a2 : Addr) (x0 : Int64) (x1 : Int64) (x2 : Int64) (y0 : Int64) (y1 : Int64) (y2 : Int64) (y3 : Int64) (y4 : Int64) (y5 : Int64) (h0 : Heap) (n0 : Nat) (Z0 : n0 ≤ h0.size) (A_a1 : Av Z h0 a1 .double [(.double (FP.l2d x0)), (.double (FP.l2d x1)), (.double (FP.l2d x2))]) (A_a2 : Av Z h0 a2 .double [(.double (FP.l2d y0)), (.double (FP.l2d y1)), (.double (FP.l2d y2)), (.double (FP.l2d y3)), (.double (FP.l2d y4)), (.double (FP.l2d y5))]) (h_x0 : Bd 1048576 x0) (h_x1 : Bd 1048576 x1) (h_x2 : Bd 1048576 x2) (h_y1 : Bd 1048576 y1) (h_y2 : Bd 1048576 y2) (h_y3 : Bd 1048576 y3) :
    Con l Z (⟨"com/example/askance/askance/KdTree", "sumOfSquares", "([D[DI)D"⟩ : MethodName) prog_7_method_7_code 8 (some .double) ({ frames := 0, cells := 0, slots := 0, locals := 0 } : Room) [] #[(.ref a1), (.ref a2), (.int (1 : Int32))] h0 (fun v h L => v = some (.double (FP.l2d (SS_3_1 x0 x1 x2 y1 y2 y3))) ∧ h = h0 ∧ L = []) := by
  refine Con.of (plainFor_of_name pn_com_example_askance_askance_KdTree) #[.val (.ref a1), .val (.ref a2), .val (.int (1 : Int32)), .unset, .unset, .unset, .unset, .unset] (fun m => ef2_3_1 m a1 a2 (1 : Int32)) ?_
  intro p e s m below meth c s₁ K hx hby hml hown hnm hret hlk hZ X0 e0
  have N0 := Fr.nil n0
  refine m_dconst0 K X0.here hx hby (FP.l2d 0) d_prog_7_7_0 own_d0 rfl ?_
  refine m_dstoreN K X0.here hx hby #[.val (.ref a1), .val (.ref a2), .val (.int (1 : Int32)), .val (.double (FP.l2d 0)), .second, .unset, .unset, .unset] d_prog_7_7_1 rfl rfl ?_
  refine m_iconst K X0.here hx hby (0 : Int32) d_prog_7_7_2 rfl rfl ?_
  refine m_istore K X0.here hx hby #[.val (.ref a1), .val (.ref a2), .val (.int (1 : Int32)), .val (.double (FP.l2d 0)), .second, .val (.int (0 : Int32)), .unset, .unset] d_prog_7_7_3 rfl rfl ?_
  refine m_iload K X0.here hx hby d_prog_7_7_5 rfl rfl ?_
  refine m_aloadN K X0.here hx hby d_prog_7_7_7 rfl rfl rfl ?_
  refine k_len K X0 hx hby hZ (3 : Int32) e0 A_a1 rfl d_prog_7_7_8 rfl ?_
  refine m_icmpN K X0.here hx hby (q := 12) d_prog_7_7_9 (tlt (by decide : (0 : Int32) < (3 : Int32))).2.1 rfl ?_
  refine m_aloadN K X0.here hx hby d_prog_7_7_12 rfl rfl rfl ?_
  refine m_iload K X0.here hx hby d_prog_7_7_13 rfl rfl ?_
  refine k_ldD K X0 hx hby hZ e0 A_a1 (v := (.double (FP.l2d x0))) (by decide) rfl d_prog_7_7_15 rfl ?_
  refine m_aloadN K X0.here hx hby d_prog_7_7_16 rfl rfl rfl ?_
  refine m_iloadN K X0.here hx hby d_prog_7_7_17 rfl rfl ?_
  refine m_iload K X0.here hx hby d_prog_7_7_18 rfl rfl ?_
  refine m_iadd K X0.here hx hby (1 : Int32) d_prog_7_7_20 rfl rfl ?_
  refine k_ldD K X0 hx hby hZ e0 A_a2 (v := (.double (FP.l2d y1))) (by decide) rfl d_prog_7_7_21 rfl ?_
  refine m_dsub K X0.here hx hby (FP.l2d (x0 - y1)) d_prog_7_7_22 (nn_w (own_dsub h_x0 h_y1 (by decide) (by decide))) (own_dsub h_x0 h_y1 (by decide) (by decide)) rfl ?_
  refine m_dstore K X0.here hx hby #[.val (.ref a1), .val (.ref a2), .val (.int (1 : Int32)), .val (.double (FP.l2d 0)), .second, .val (.int (0 : Int32)), .val (.double (FP.l2d (x0 - y1))), .second] d_prog_7_7_23 rfl rfl ?_
  refine m_dloadN K X0.here hx hby d_prog_7_7_25 rfl rfl ?_
  refine m_dload K X0.here hx hby d_prog_7_7_26 rfl rfl ?_
  refine m_dload K X0.here hx hby d_prog_7_7_28 rfl rfl ?_
  refine m_dmul K X0.here hx hby (FP.l2d ((x0 - y1) * (x0 - y1))) d_prog_7_7_30 (nn_w (own_dmul (Bd.sub h_x0 h_y1 (by decide)) (by decide) (by decide))) (own_dmul (Bd.sub h_x0 h_y1 (by decide)) (by decide) (by decide)) rfl ?_
  refine m_dadd K X0.here hx hby (FP.l2d (0 + ((x0 - y1) * (x0 - y1)))) d_prog_7_7_31 (nn_w (own_dadd own_bd0 (Bd.sq (Bd.sub h_x0 h_y1 (by decide)) (by decide)) (by decide) (by decide))) (own_dadd own_bd0 (Bd.sq (Bd.sub h_x0 h_y1 (by decide)) (by decide)) (by decide) (by decide)) rfl ?_
  refine m_dstoreN K X0.here hx hby #[.val (.ref a1), .val (.ref a2), .val (.int (1 : Int32)), .val (.double (FP.l2d (0 + ((x0 - y1) * (x0 - y1))))), .second, .val (.int (0 : Int32)), .val (.double (FP.l2d (x0 - y1))), .second] d_prog_7_7_32 rfl rfl ?_
  refine m_iinc K X0.here hx hby #[.val (.ref a1), .val (.ref a2), .val (.int (1 : Int32)), .val (.double (FP.l2d (0 + ((x0 - y1) * (x0 - y1))))), .second, .val (.int (1 : Int32)), .val (.double (FP.l2d (x0 - y1))), .second] d_prog_7_7_33 rfl rfl rfl ?_
  refine m_goto K X0.here hx hby (q := 5) d_prog_7_7_36 (by decide) rfl ?_
  refine m_iload K X0.here hx hby d_prog_7_7_5 rfl rfl ?_
  refine m_aloadN K X0.here hx hby d_prog_7_7_7 rfl rfl rfl ?_
  refine k_len K X0 hx hby hZ (3 : Int32) e0 A_a1 rfl d_prog_7_7_8 rfl ?_
  refine m_icmpN K X0.here hx hby (q := 12) d_prog_7_7_9 (tlt (by decide : (1 : Int32) < (3 : Int32))).2.1 rfl ?_
  refine m_aloadN K X0.here hx hby d_prog_7_7_12 rfl rfl rfl ?_
  refine m_iload K X0.here hx hby d_prog_7_7_13 rfl rfl ?_
  refine k_ldD K X0 hx hby hZ e0 A_a1 (v := (.double (FP.l2d x1))) (by decide) rfl d_prog_7_7_15 rfl ?_
  refine m_aloadN K X0.here hx hby d_prog_7_7_16 rfl rfl rfl ?_
  refine m_iloadN K X0.here hx hby d_prog_7_7_17 rfl rfl ?_
  refine m_iload K X0.here hx hby d_prog_7_7_18 rfl rfl ?_
  refine m_iadd K X0.here hx hby (2 : Int32) d_prog_7_7_20 rfl rfl ?_
  refine k_ldD K X0 hx hby hZ e0 A_a2 (v := (.double (FP.l2d y2))) (by decide) rfl d_prog_7_7_21 rfl ?_
  refine m_dsub K X0.here hx hby (FP.l2d (x1 - y2)) d_prog_7_7_22 (nn_w (own_dsub h_x1 h_y2 (by decide) (by decide))) (own_dsub h_x1 h_y2 (by decide) (by decide)) rfl ?_
  refine m_dstore K X0.here hx hby #[.val (.ref a1), .val (.ref a2), .val (.int (1 : Int32)), .val (.double (FP.l2d (0 + ((x0 - y1) * (x0 - y1))))), .second, .val (.int (1 : Int32)), .val (.double (FP.l2d (x1 - y2))), .second] d_prog_7_7_23 rfl rfl ?_
  refine m_dloadN K X0.here hx hby d_prog_7_7_25 rfl rfl ?_
  refine m_dload K X0.here hx hby d_prog_7_7_26 rfl rfl ?_
  refine m_dload K X0.here hx hby d_prog_7_7_28 rfl rfl ?_
  refine m_dmul K X0.here hx hby (FP.l2d ((x1 - y2) * (x1 - y2))) d_prog_7_7_30 (nn_w (own_dmul (Bd.sub h_x1 h_y2 (by decide)) (by decide) (by decide))) (own_dmul (Bd.sub h_x1 h_y2 (by decide)) (by decide) (by decide)) rfl ?_
  refine m_dadd K X0.here hx hby (FP.l2d (w2_3_1_1 x0 x1 y1 y2)) d_prog_7_7_31 (nn_w (own_dadd (Bd.add own_bd0 (Bd.sq (Bd.sub h_x0 h_y1 (by decide)) (by decide)) (by decide)) (Bd.sq (Bd.sub h_x1 h_y2 (by decide)) (by decide)) (by decide) (by decide))) (own_dadd (Bd.add own_bd0 (Bd.sq (Bd.sub h_x0 h_y1 (by decide)) (by decide)) (by decide)) (Bd.sq (Bd.sub h_x1 h_y2 (by decide)) (by decide)) (by decide) (by decide)) rfl ?_
  refine m_dstoreN K X0.here hx hby #[.val (.ref a1), .val (.ref a2), .val (.int (1 : Int32)), .val (.double (FP.l2d (w2_3_1_1 x0 x1 y1 y2))), .second, .val (.int (1 : Int32)), .val (.double (FP.l2d (x1 - y2))), .second] d_prog_7_7_32 rfl rfl ?_
  refine m_iinc K X0.here hx hby #[.val (.ref a1), .val (.ref a2), .val (.int (1 : Int32)), .val (.double (FP.l2d (w2_3_1_1 x0 x1 y1 y2))), .second, .val (.int (2 : Int32)), .val (.double (FP.l2d (x1 - y2))), .second] d_prog_7_7_33 rfl rfl rfl ?_
  refine m_goto K X0.here hx hby (q := 5) d_prog_7_7_36 (by decide) rfl ?_
  refine m_iload K X0.here hx hby d_prog_7_7_5 rfl rfl ?_
  refine m_aloadN K X0.here hx hby d_prog_7_7_7 rfl rfl rfl ?_
  refine k_len K X0 hx hby hZ (3 : Int32) e0 A_a1 rfl d_prog_7_7_8 rfl ?_
  refine m_icmpN K X0.here hx hby (q := 12) d_prog_7_7_9 (tlt (by decide : (2 : Int32) < (3 : Int32))).2.1 rfl ?_
  refine m_aloadN K X0.here hx hby d_prog_7_7_12 rfl rfl rfl ?_
  refine m_iload K X0.here hx hby d_prog_7_7_13 rfl rfl ?_
  refine k_ldD K X0 hx hby hZ e0 A_a1 (v := (.double (FP.l2d x2))) (by decide) rfl d_prog_7_7_15 rfl ?_
  refine m_aloadN K X0.here hx hby d_prog_7_7_16 rfl rfl rfl ?_
  refine m_iloadN K X0.here hx hby d_prog_7_7_17 rfl rfl ?_
  refine m_iload K X0.here hx hby d_prog_7_7_18 rfl rfl ?_
  refine m_iadd K X0.here hx hby (3 : Int32) d_prog_7_7_20 rfl rfl ?_
  refine k_ldD K X0 hx hby hZ e0 A_a2 (v := (.double (FP.l2d y3))) (by decide) rfl d_prog_7_7_21 rfl ?_
  refine m_dsub K X0.here hx hby (FP.l2d (x2 - y3)) d_prog_7_7_22 (nn_w (own_dsub h_x2 h_y3 (by decide) (by decide))) (own_dsub h_x2 h_y3 (by decide) (by decide)) rfl ?_
  refine m_dstore K X0.here hx hby #[.val (.ref a1), .val (.ref a2), .val (.int (1 : Int32)), .val (.double (FP.l2d (w2_3_1_1 x0 x1 y1 y2))), .second, .val (.int (2 : Int32)), .val (.double (FP.l2d (x2 - y3))), .second] d_prog_7_7_23 rfl rfl ?_
  refine m_dloadN K X0.here hx hby d_prog_7_7_25 rfl rfl ?_
  refine m_dload K X0.here hx hby d_prog_7_7_26 rfl rfl ?_
  refine m_dload K X0.here hx hby d_prog_7_7_28 rfl rfl ?_
  refine m_dmul K X0.here hx hby (FP.l2d ((x2 - y3) * (x2 - y3))) d_prog_7_7_30 (nn_w (own_dmul (Bd.sub h_x2 h_y3 (by decide)) (by decide) (by decide))) (own_dmul (Bd.sub h_x2 h_y3 (by decide)) (by decide) (by decide)) rfl ?_
  refine m_dadd K X0.here hx hby (FP.l2d (w2_3_1_2 x0 x1 x2 y1 y2 y3)) d_prog_7_7_31 (nn_w (own_dadd (Bd.add (Bd.add own_bd0 (Bd.sq (Bd.sub h_x0 h_y1 (by decide)) (by decide)) (by decide)) (Bd.sq (Bd.sub h_x1 h_y2 (by decide)) (by decide)) (by decide)) (Bd.sq (Bd.sub h_x2 h_y3 (by decide)) (by decide)) (by decide) (by decide))) (own_dadd (Bd.add (Bd.add own_bd0 (Bd.sq (Bd.sub h_x0 h_y1 (by decide)) (by decide)) (by decide)) (Bd.sq (Bd.sub h_x1 h_y2 (by decide)) (by decide)) (by decide)) (Bd.sq (Bd.sub h_x2 h_y3 (by decide)) (by decide)) (by decide) (by decide)) rfl ?_
  refine m_dstoreN K X0.here hx hby #[.val (.ref a1), .val (.ref a2), .val (.int (1 : Int32)), .val (.double (FP.l2d (w2_3_1_2 x0 x1 x2 y1 y2 y3))), .second, .val (.int (2 : Int32)), .val (.double (FP.l2d (x2 - y3))), .second] d_prog_7_7_32 rfl rfl ?_
  refine m_iinc K X0.here hx hby #[.val (.ref a1), .val (.ref a2), .val (.int (1 : Int32)), .val (.double (FP.l2d (w2_3_1_2 x0 x1 x2 y1 y2 y3))), .second, .val (.int (3 : Int32)), .val (.double (FP.l2d (x2 - y3))), .second] d_prog_7_7_33 rfl rfl rfl ?_
  refine m_goto K X0.here hx hby (q := 5) d_prog_7_7_36 (by decide) rfl ?_
  refine m_iload K X0.here hx hby d_prog_7_7_5 rfl rfl ?_
  refine m_aloadN K X0.here hx hby d_prog_7_7_7 rfl rfl rfl ?_
  refine k_len K X0 hx hby hZ (3 : Int32) e0 A_a1 rfl d_prog_7_7_8 rfl ?_
  refine m_icmpY K X0.here hx hby (q := 39) d_prog_7_7_9 (flt (by decide : ¬ ((3 : Int32) < (3 : Int32)))).2.1 (by decide) rfl ?_
  refine m_dloadN K X0.here hx hby d_prog_7_7_39 rfl rfl ?_
  exact Go.retO X0 hx hby hlk hret rfl (Or.inr (Or.inr (Or.inl ⟨rfl, rfl, _, rfl⟩))) d_prog_7_7_40 (by decide) (by decide) (⟨rfl, e0, rfl⟩)
def w2_3_2_1 (x0 : Int64) (x1 : Int64) (y2 : Int64) (y3 : Int64) : Int64 := ((0 + ((x0 - y2) * (x0 - y2))) + ((x1 - y3) * (x1 - y3)))
def w2_3_2_2 (x0 : Int64) (x1 : Int64) (x2 : Int64) (y2 : Int64) (y3 : Int64) (y4 : Int64) : Int64 := ((w2_3_2_1 x0 x1 y2 y3) + ((x2 - y4) * (x2 - y4)))
def SS_3_2 (x0 : Int64) (x1 : Int64) (x2 : Int64) (y2 : Int64) (y3 : Int64) (y4 : Int64) : Int64 := (w2_3_2_2 x0 x1 x2 y2 y3 y4)
theorem ef2_3_2 (m : MethodId) (x0 : Addr) (x1 : Addr) (x2 : Int32) : entryFrame m #[(.ref x0), (.ref x1), (.int x2)] 8 = mkF m 0 #[.val (.ref x0), .val (.ref x1), .val (.int x2), .unset, .unset, .unset, .unset, .unset] [] := by first | (simp [entryFrame, mkF, argsToLocals, Value.category]; done) | rfl
set_option maxRecDepth 65536 in
set_option maxHeartbeats 40000000 in
theorem c2_3_2 (l : Launch) (Z : State) (a0 : Array Value) (hw : ∀ d ∈ tables_1, d.before a0 Z = true) (a1 : Addr) (a2 : Addr) (x0 : Int64) (x1 : Int64) (x2 : Int64) (y0 : Int64) (y1 : Int64) (y2 : Int64) (y3 : Int64) (y4 : Int64) (y5 : Int64) (h0 : Heap) (n0 : Nat) (Z0 : n0 ≤ h0.size) (A_a1 : Av Z h0 a1 .double [(.double (FP.l2d x0)), (.double (FP.l2d x1)), (.double (FP.l2d x2))]) (A_a2 : Av Z h0 a2 .double [(.double (FP.l2d y0)), (.double (FP.l2d y1)), (.double (FP.l2d y2)), (.double (FP.l2d y3)), (.double (FP.l2d y4)), (.double (FP.l2d y5))]) (h_x0 : Bd 1048576 x0) (h_x1 : Bd 1048576 x1) (h_x2 : Bd 1048576 x2) (h_y2 : Bd 1048576 y2) (h_y3 : Bd 1048576 y3) (h_y4 : Bd 1048576 y4) :
    Con l Z (⟨"com/example/askance/askance/KdTree", "sumOfSquares", "([D[DI)D"⟩ : MethodName) prog_7_method_7_code 8 (some .double) ({ frames := 0, cells := 0, slots := 0, locals := 0 } : Room) [] #[(.ref a1), (.ref a2), (.int (2 : Int32))] h0 (fun v h L => v = some (.double (FP.l2d (SS_3_2 x0 x1 x2 y2 y3 y4))) ∧ h = h0 ∧ L = []) := by
  refine Con.of (plainFor_of_name pn_com_example_askance_askance_KdTree) #[.val (.ref a1), .val (.ref a2), .val (.int (2 : Int32)), .unset, .unset, .unset, .unset, .unset] (fun m => ef2_3_2 m a1 a2 (2 : Int32)) ?_
  intro p e s m below meth c s₁ K hx hby hml hown hnm hret hlk hZ X0 e0
  have N0 := Fr.nil n0
  refine m_dconst0 K X0.here hx hby (FP.l2d 0) d_prog_7_7_0 own_d0 rfl ?_
  refine m_dstoreN K X0.here hx hby #[.val (.ref a1), .val (.ref a2), .val (.int (2 : Int32)), .val (.double (FP.l2d 0)), .second, .unset, .unset, .unset] d_prog_7_7_1 rfl rfl ?_
  refine m_iconst K X0.here hx hby (0 : Int32) d_prog_7_7_2 rfl rfl ?_
  refine m_istore K X0.here hx hby #[.val (.ref a1), .val (.ref a2), .val (.int (2 : Int32)), .val (.double (FP.l2d 0)), .second, .val (.int (0 : Int32)), .unset, .unset] d_prog_7_7_3 rfl rfl ?_
  refine m_iload K X0.here hx hby d_prog_7_7_5 rfl rfl ?_
  refine m_aloadN K X0.here hx hby d_prog_7_7_7 rfl rfl rfl ?_
  refine k_len K X0 hx hby hZ (3 : Int32) e0 A_a1 rfl d_prog_7_7_8 rfl ?_
  refine m_icmpN K X0.here hx hby (q := 12) d_prog_7_7_9 (tlt (by decide : (0 : Int32) < (3 : Int32))).2.1 rfl ?_
  refine m_aloadN K X0.here hx hby d_prog_7_7_12 rfl rfl rfl ?_
  refine m_iload K X0.here hx hby d_prog_7_7_13 rfl rfl ?_
  refine k_ldD K X0 hx hby hZ e0 A_a1 (v := (.double (FP.l2d x0))) (by decide) rfl d_prog_7_7_15 rfl ?_
  refine m_aloadN K X0.here hx hby d_prog_7_7_16 rfl rfl rfl ?_
  refine m_iloadN K X0.here hx hby d_prog_7_7_17 rfl rfl ?_
  refine m_iload K X0.here hx hby d_prog_7_7_18 rfl rfl ?_
  refine m_iadd K X0.here hx hby (2 : Int32) d_prog_7_7_20 rfl rfl ?_
  refine k_ldD K X0 hx hby hZ e0 A_a2 (v := (.double (FP.l2d y2))) (by decide) rfl d_prog_7_7_21 rfl ?_
  refine m_dsub K X0.here hx hby (FP.l2d (x0 - y2)) d_prog_7_7_22 (nn_w (own_dsub h_x0 h_y2 (by decide) (by decide))) (own_dsub h_x0 h_y2 (by decide) (by decide)) rfl ?_
  refine m_dstore K X0.here hx hby #[.val (.ref a1), .val (.ref a2), .val (.int (2 : Int32)), .val (.double (FP.l2d 0)), .second, .val (.int (0 : Int32)), .val (.double (FP.l2d (x0 - y2))), .second] d_prog_7_7_23 rfl rfl ?_
  refine m_dloadN K X0.here hx hby d_prog_7_7_25 rfl rfl ?_
  refine m_dload K X0.here hx hby d_prog_7_7_26 rfl rfl ?_
  refine m_dload K X0.here hx hby d_prog_7_7_28 rfl rfl ?_
  refine m_dmul K X0.here hx hby (FP.l2d ((x0 - y2) * (x0 - y2))) d_prog_7_7_30 (nn_w (own_dmul (Bd.sub h_x0 h_y2 (by decide)) (by decide) (by decide))) (own_dmul (Bd.sub h_x0 h_y2 (by decide)) (by decide) (by decide)) rfl ?_
  refine m_dadd K X0.here hx hby (FP.l2d (0 + ((x0 - y2) * (x0 - y2)))) d_prog_7_7_31 (nn_w (own_dadd own_bd0 (Bd.sq (Bd.sub h_x0 h_y2 (by decide)) (by decide)) (by decide) (by decide))) (own_dadd own_bd0 (Bd.sq (Bd.sub h_x0 h_y2 (by decide)) (by decide)) (by decide) (by decide)) rfl ?_
  refine m_dstoreN K X0.here hx hby #[.val (.ref a1), .val (.ref a2), .val (.int (2 : Int32)), .val (.double (FP.l2d (0 + ((x0 - y2) * (x0 - y2))))), .second, .val (.int (0 : Int32)), .val (.double (FP.l2d (x0 - y2))), .second] d_prog_7_7_32 rfl rfl ?_
  refine m_iinc K X0.here hx hby #[.val (.ref a1), .val (.ref a2), .val (.int (2 : Int32)), .val (.double (FP.l2d (0 + ((x0 - y2) * (x0 - y2))))), .second, .val (.int (1 : Int32)), .val (.double (FP.l2d (x0 - y2))), .second] d_prog_7_7_33 rfl rfl rfl ?_
  refine m_goto K X0.here hx hby (q := 5) d_prog_7_7_36 (by decide) rfl ?_
  refine m_iload K X0.here hx hby d_prog_7_7_5 rfl rfl ?_
  refine m_aloadN K X0.here hx hby d_prog_7_7_7 rfl rfl rfl ?_
  refine k_len K X0 hx hby hZ (3 : Int32) e0 A_a1 rfl d_prog_7_7_8 rfl ?_
  refine m_icmpN K X0.here hx hby (q := 12) d_prog_7_7_9 (tlt (by decide : (1 : Int32) < (3 : Int32))).2.1 rfl ?_
  refine m_aloadN K X0.here hx hby d_prog_7_7_12 rfl rfl rfl ?_
  refine m_iload K X0.here hx hby d_prog_7_7_13 rfl rfl ?_
  refine k_ldD K X0 hx hby hZ e0 A_a1 (v := (.double (FP.l2d x1))) (by decide) rfl d_prog_7_7_15 rfl ?_
  refine m_aloadN K X0.here hx hby d_prog_7_7_16 rfl rfl rfl ?_
  refine m_iloadN K X0.here hx hby d_prog_7_7_17 rfl rfl ?_
  refine m_iload K X0.here hx hby d_prog_7_7_18 rfl rfl ?_
  refine m_iadd K X0.here hx hby (3 : Int32) d_prog_7_7_20 rfl rfl ?_
  refine k_ldD K X0 hx hby hZ e0 A_a2 (v := (.double (FP.l2d y3))) (by decide) rfl d_prog_7_7_21 rfl ?_
  refine m_dsub K X0.here hx hby (FP.l2d (x1 - y3)) d_prog_7_7_22 (nn_w (own_dsub h_x1 h_y3 (by decide) (by decide))) (own_dsub h_x1 h_y3 (by decide) (by decide)) rfl ?_
  refine m_dstore K X0.here hx hby #[.val (.ref a1), .val (.ref a2), .val (.int (2 : Int32)), .val (.double (FP.l2d (0 + ((x0 - y2) * (x0 - y2))))), .second, .val (.int (1 : Int32)), .val (.double (FP.l2d (x1 - y3))), .second] d_prog_7_7_23 rfl rfl ?_
  refine m_dloadN K X0.here hx hby d_prog_7_7_25 rfl rfl ?_
  refine m_dload K X0.here hx hby d_prog_7_7_26 rfl rfl ?_
  refine m_dload K X0.here hx hby d_prog_7_7_28 rfl rfl ?_
  refine m_dmul K X0.here hx hby (FP.l2d ((x1 - y3) * (x1 - y3))) d_prog_7_7_30 (nn_w (own_dmul (Bd.sub h_x1 h_y3 (by decide)) (by decide) (by decide))) (own_dmul (Bd.sub h_x1 h_y3 (by decide)) (by decide) (by decide)) rfl ?_
  refine m_dadd K X0.here hx hby (FP.l2d (w2_3_2_1 x0 x1 y2 y3)) d_prog_7_7_31 (nn_w (own_dadd (Bd.add own_bd0 (Bd.sq (Bd.sub h_x0 h_y2 (by decide)) (by decide)) (by decide)) (Bd.sq (Bd.sub h_x1 h_y3 (by decide)) (by decide)) (by decide) (by decide))) (own_dadd (Bd.add own_bd0 (Bd.sq (Bd.sub h_x0 h_y2 (by decide)) (by decide)) (by decide)) (Bd.sq (Bd.sub h_x1 h_y3 (by decide)) (by decide)) (by decide) (by decide)) rfl ?_
  refine m_dstoreN K X0.here hx hby #[.val (.ref a1), .val (.ref a2), .val (.int (2 : Int32)), .val (.double (FP.l2d (w2_3_2_1 x0 x1 y2 y3))), .second, .val (.int (1 : Int32)), .val (.double (FP.l2d (x1 - y3))), .second] d_prog_7_7_32 rfl rfl ?_
  refine m_iinc K X0.here hx hby #[.val (.ref a1), .val (.ref a2), .val (.int (2 : Int32)), .val (.double (FP.l2d (w2_3_2_1 x0 x1 y2 y3))), .second, .val (.int (2 : Int32)), .val (.double (FP.l2d (x1 - y3))), .second] d_prog_7_7_33 rfl rfl rfl ?_
  refine m_goto K X0.here hx hby (q := 5) d_prog_7_7_36 (by decide) rfl ?_
  refine m_iload K X0.here hx hby d_prog_7_7_5 rfl rfl ?_
  refine m_aloadN K X0.here hx hby d_prog_7_7_7 rfl rfl rfl ?_
  refine k_len K X0 hx hby hZ (3 : Int32) e0 A_a1 rfl d_prog_7_7_8 rfl ?_
  refine m_icmpN K X0.here hx hby (q := 12) d_prog_7_7_9 (tlt (by decide : (2 : Int32) < (3 : Int32))).2.1 rfl ?_
  refine m_aloadN K X0.here hx hby d_prog_7_7_12 rfl rfl rfl ?_
  refine m_iload K X0.here hx hby d_prog_7_7_13 rfl rfl ?_
  refine k_ldD K X0 hx hby hZ e0 A_a1 (v := (.double (FP.l2d x2))) (by decide) rfl d_prog_7_7_15 rfl ?_
  refine m_aloadN K X0.here hx hby d_prog_7_7_16 rfl rfl rfl ?_
  refine m_iloadN K X0.here hx hby d_prog_7_7_17 rfl rfl ?_
  refine m_iload K X0.here hx hby d_prog_7_7_18 rfl rfl ?_
  refine m_iadd K X0.here hx hby (4 : Int32) d_prog_7_7_20 rfl rfl ?_
  refine k_ldD K X0 hx hby hZ e0 A_a2 (v := (.double (FP.l2d y4))) (by decide) rfl d_prog_7_7_21 rfl ?_
  refine m_dsub K X0.here hx hby (FP.l2d (x2 - y4)) d_prog_7_7_22 (nn_w (own_dsub h_x2 h_y4 (by decide) (by decide))) (own_dsub h_x2 h_y4 (by decide) (by decide)) rfl ?_
  refine m_dstore K X0.here hx hby #[.val (.ref a1), .val (.ref a2), .val (.int (2 : Int32)), .val (.double (FP.l2d (w2_3_2_1 x0 x1 y2 y3))), .second, .val (.int (2 : Int32)), .val (.double (FP.l2d (x2 - y4))), .second] d_prog_7_7_23 rfl rfl ?_
  refine m_dloadN K X0.here hx hby d_prog_7_7_25 rfl rfl ?_
  refine m_dload K X0.here hx hby d_prog_7_7_26 rfl rfl ?_
  refine m_dload K X0.here hx hby d_prog_7_7_28 rfl rfl ?_
  refine m_dmul K X0.here hx hby (FP.l2d ((x2 - y4) * (x2 - y4))) d_prog_7_7_30 (nn_w (own_dmul (Bd.sub h_x2 h_y4 (by decide)) (by decide) (by decide))) (own_dmul (Bd.sub h_x2 h_y4 (by decide)) (by decide) (by decide)) rfl ?_
  refine m_dadd K X0.here hx hby (FP.l2d (w2_3_2_2 x0 x1 x2 y2 y3 y4)) d_prog_7_7_31 (nn_w (own_dadd (Bd.add (Bd.add own_bd0 (Bd.sq (Bd.sub h_x0 h_y2 (by decide)) (by decide)) (by decide)) (Bd.sq (Bd.sub h_x1 h_y3 (by decide)) (by decide)) (by decide)) (Bd.sq (Bd.sub h_x2 h_y4 (by decide)) (by decide)) (by decide) (by decide))) (own_dadd (Bd.add (Bd.add own_bd0 (Bd.sq (Bd.sub h_x0 h_y2 (by decide)) (by decide)) (by decide)) (Bd.sq (Bd.sub h_x1 h_y3 (by decide)) (by decide)) (by decide)) (Bd.sq (Bd.sub h_x2 h_y4 (by decide)) (by decide)) (by decide) (by decide)) rfl ?_
  refine m_dstoreN K X0.here hx hby #[.val (.ref a1), .val (.ref a2), .val (.int (2 : Int32)), .val (.double (FP.l2d (w2_3_2_2 x0 x1 x2 y2 y3 y4))), .second, .val (.int (2 : Int32)), .val (.double (FP.l2d (x2 - y4))), .second] d_prog_7_7_32 rfl rfl ?_
  refine m_iinc K X0.here hx hby #[.val (.ref a1), .val (.ref a2), .val (.int (2 : Int32)), .val (.double (FP.l2d (w2_3_2_2 x0 x1 x2 y2 y3 y4))), .second, .val (.int (3 : Int32)), .val (.double (FP.l2d (x2 - y4))), .second] d_prog_7_7_33 rfl rfl rfl ?_
  refine m_goto K X0.here hx hby (q := 5) d_prog_7_7_36 (by decide) rfl ?_
  refine m_iload K X0.here hx hby d_prog_7_7_5 rfl rfl ?_
  refine m_aloadN K X0.here hx hby d_prog_7_7_7 rfl rfl rfl ?_
  refine k_len K X0 hx hby hZ (3 : Int32) e0 A_a1 rfl d_prog_7_7_8 rfl ?_
  refine m_icmpY K X0.here hx hby (q := 39) d_prog_7_7_9 (flt (by decide : ¬ ((3 : Int32) < (3 : Int32)))).2.1 (by decide) rfl ?_
  refine m_dloadN K X0.here hx hby d_prog_7_7_39 rfl rfl ?_
  exact Go.retO X0 hx hby hlk hret rfl (Or.inr (Or.inr (Or.inl ⟨rfl, rfl, _, rfl⟩))) d_prog_7_7_40 (by decide) (by decide) (⟨rfl, e0, rfl⟩)
def w2_3_3_1 (x0 : Int64) (x1 : Int64) (y3 : Int64) (y4 : Int64) : Int64 := ((0 + ((x0 - y3) * (x0 - y3))) + ((x1 - y4) * (x1 - y4)))
def w2_3_3_2 (x0 : Int64) (x1 : Int64) (x2 : Int64) (y3 : Int64) (y4 : Int64) (y5 : Int64) : Int64 := ((w2_3_3_1 x0 x1 y3 y4) + ((x2 - y5) * (x2 - y5)))
def SS_3_3 (x0 : Int64) (x1 : Int64) (x2 : Int64) (y3 : Int64) (y4 : Int64) (y5 : Int64) : Int64 := (w2_3_3_2 x0 x1 x2 y3 y4 y5)
theorem ef2_3_3 (m : MethodId) (x0 : Addr) (x1 : Addr) (x2 : Int32) : entryFrame m #[(.ref x0), (.ref x1), (.int x2)] 8 = mkF m 0 #[.val (.ref x0), .val (.ref x1), .val (.int x2), .unset, .unset, .unset, .unset, .unset] [] := by first | (simp [entryFrame, mkF, argsToLocals, Value.category]; done) | rfl
set_option maxRecDepth 65536 in
set_option maxHeartbeats 40000000 in
theorem c2_3_3 (l : Launch) (Z : State) (a0 : Array Value) (hw : ∀ d ∈ tables_1, d.before a0 Z = true) (a1 : Addr) (a2 : Addr) (x0 : Int64) (x1 : Int64) (x2 : Int64) (y0 : Int64) (y1 : Int64) (y2 : Int64) (y3 : Int64) (y4 : Int64) (y5 : Int64) (h0 : Heap) (n0 : Nat) (Z0 : n0 ≤ h0.size) (A_a1 : Av Z h0 a1 .double [(.double (FP.l2d x0)), (.double (FP.l2d x1)), (.double (FP.l2d x2))]) (A_a2 : Av Z h0 a2 .double [(.double (FP.l2d y0)), (.double (FP.l2d y1)), (.double (FP.l2d y2)), (.double (FP.l2d y3)), (.double (FP.l2d y4)), (.double (FP.l2d y5))]) (h_x0 : Bd 1048576 x0) (h_x1 : Bd 1048576 x1) (h_x2 : Bd 1048576 x2) (h_y3 : Bd 1048576 y3) (h_y4 : Bd 1048576 y4) (h_y5 : Bd 1048576 y5) :
    Con l Z (⟨"com/example/askance/askance/KdTree", "sumOfSquares", "([D[DI)D"⟩ : MethodName) prog_7_method_7_code 8 (some .double) ({ frames := 0, cells := 0, slots := 0, locals := 0 } : Room) [] #[(.ref a1), (.ref a2), (.int (3 : Int32))] h0 (fun v h L => v = some (.double (FP.l2d (SS_3_3 x0 x1 x2 y3 y4 y5))) ∧ h = h0 ∧ L = []) := by
  refine Con.of (plainFor_of_name pn_com_example_askance_askance_KdTree) #[.val (.ref a1), .val (.ref a2), .val (.int (3 : Int32)), .unset, .unset, .unset, .unset, .unset] (fun m => ef2_3_3 m a1 a2 (3 : Int32)) ?_
  intro p e s m below meth c s₁ K hx hby hml hown hnm hret hlk hZ X0 e0
  have N0 := Fr.nil n0
  refine m_dconst0 K X0.here hx hby (FP.l2d 0) d_prog_7_7_0 own_d0 rfl ?_
  refine m_dstoreN K X0.here hx hby #[.val (.ref a1), .val (.ref a2), .val (.int (3 : Int32)), .val (.double (FP.l2d 0)), .second, .unset, .unset, .unset] d_prog_7_7_1 rfl rfl ?_
  refine m_iconst K X0.here hx hby (0 : Int32) d_prog_7_7_2 rfl rfl ?_
  refine m_istore K X0.here hx hby #[.val (.ref a1), .val (.ref a2), .val (.int (3 : Int32)), .val (.double (FP.l2d 0)), .second, .val (.int (0 : Int32)), .unset, .unset] d_prog_7_7_3 rfl rfl ?_
  refine m_iload K X0.here hx hby d_prog_7_7_5 rfl rfl ?_
  refine m_aloadN K X0.here hx hby d_prog_7_7_7 rfl rfl rfl ?_
  refine k_len K X0 hx hby hZ (3 : Int32) e0 A_a1 rfl d_prog_7_7_8 rfl ?_
  refine m_icmpN K X0.here hx hby (q := 12) d_prog_7_7_9 (tlt (by decide : (0 : Int32) < (3 : Int32))).2.1 rfl ?_
  refine m_aloadN K X0.here hx hby d_prog_7_7_12 rfl rfl rfl ?_
  refine m_iload K X0.here hx hby d_prog_7_7_13 rfl rfl ?_
  refine k_ldD K X0 hx hby hZ e0 A_a1 (v := (.double (FP.l2d x0))) (by decide) rfl d_prog_7_7_15 rfl ?_
  refine m_aloadN K X0.here hx hby d_prog_7_7_16 rfl rfl rfl ?_
  refine m_iloadN K X0.here hx hby d_prog_7_7_17 rfl rfl ?_
  refine m_iload K X0.here hx hby d_prog_7_7_18 rfl rfl ?_
  refine m_iadd K X0.here hx hby (3 : Int32) d_prog_7_7_20 rfl rfl ?_
  refine k_ldD K X0 hx hby hZ e0 A_a2 (v := (.double (FP.l2d y3))) (by decide) rfl d_prog_7_7_21 rfl ?_
  refine m_dsub K X0.here hx hby (FP.l2d (x0 - y3)) d_prog_7_7_22 (nn_w (own_dsub h_x0 h_y3 (by decide) (by decide))) (own_dsub h_x0 h_y3 (by decide) (by decide)) rfl ?_
  refine m_dstore K X0.here hx hby #[.val (.ref a1), .val (.ref a2), .val (.int (3 : Int32)), .val (.double (FP.l2d 0)), .second, .val (.int (0 : Int32)), .val (.double (FP.l2d (x0 - y3))), .second] d_prog_7_7_23 rfl rfl ?_
  refine m_dloadN K X0.here hx hby d_prog_7_7_25 rfl rfl ?_
  refine m_dload K X0.here hx hby d_prog_7_7_26 rfl rfl ?_
  refine m_dload K X0.here hx hby d_prog_7_7_28 rfl rfl ?_
  refine m_dmul K X0.here hx hby (FP.l2d ((x0 - y3) * (x0 - y3))) d_prog_7_7_30 (nn_w (own_dmul (Bd.sub h_x0 h_y3 (by decide)) (by decide) (by decide))) (own_dmul (Bd.sub h_x0 h_y3 (by decide)) (by decide) (by decide)) rfl ?_
  refine m_dadd K X0.here hx hby (FP.l2d (0 + ((x0 - y3) * (x0 - y3)))) d_prog_7_7_31 (nn_w (own_dadd own_bd0 (Bd.sq (Bd.sub h_x0 h_y3 (by decide)) (by decide)) (by decide) (by decide))) (own_dadd own_bd0 (Bd.sq (Bd.sub h_x0 h_y3 (by decide)) (by decide)) (by decide) (by decide)) rfl ?_
  refine m_dstoreN K X0.here hx hby #[.val (.ref a1), .val (.ref a2), .val (.int (3 : Int32)), .val (.double (FP.l2d (0 + ((x0 - y3) * (x0 - y3))))), .second, .val (.int (0 : Int32)), .val (.double (FP.l2d (x0 - y3))), .second] d_prog_7_7_32 rfl rfl ?_
  refine m_iinc K X0.here hx hby #[.val (.ref a1), .val (.ref a2), .val (.int (3 : Int32)), .val (.double (FP.l2d (0 + ((x0 - y3) * (x0 - y3))))), .second, .val (.int (1 : Int32)), .val (.double (FP.l2d (x0 - y3))), .second] d_prog_7_7_33 rfl rfl rfl ?_
  refine m_goto K X0.here hx hby (q := 5) d_prog_7_7_36 (by decide) rfl ?_
  refine m_iload K X0.here hx hby d_prog_7_7_5 rfl rfl ?_
  refine m_aloadN K X0.here hx hby d_prog_7_7_7 rfl rfl rfl ?_
  refine k_len K X0 hx hby hZ (3 : Int32) e0 A_a1 rfl d_prog_7_7_8 rfl ?_
  refine m_icmpN K X0.here hx hby (q := 12) d_prog_7_7_9 (tlt (by decide : (1 : Int32) < (3 : Int32))).2.1 rfl ?_
  refine m_aloadN K X0.here hx hby d_prog_7_7_12 rfl rfl rfl ?_
  refine m_iload K X0.here hx hby d_prog_7_7_13 rfl rfl ?_
  refine k_ldD K X0 hx hby hZ e0 A_a1 (v := (.double (FP.l2d x1))) (by decide) rfl d_prog_7_7_15 rfl ?_
  refine m_aloadN K X0.here hx hby d_prog_7_7_16 rfl rfl rfl ?_
  refine m_iloadN K X0.here hx hby d_prog_7_7_17 rfl rfl ?_
  refine m_iload K X0.here hx hby d_prog_7_7_18 rfl rfl ?_
  refine m_iadd K X0.here hx hby (4 : Int32) d_prog_7_7_20 rfl rfl ?_
  refine k_ldD K X0 hx hby hZ e0 A_a2 (v := (.double (FP.l2d y4))) (by decide) rfl d_prog_7_7_21 rfl ?_
  refine m_dsub K X0.here hx hby (FP.l2d (x1 - y4)) d_prog_7_7_22 (nn_w (own_dsub h_x1 h_y4 (by decide) (by decide))) (own_dsub h_x1 h_y4 (by decide) (by decide)) rfl ?_
  refine m_dstore K X0.here hx hby #[.val (.ref a1), .val (.ref a2), .val (.int (3 : Int32)), .val (.double (FP.l2d (0 + ((x0 - y3) * (x0 - y3))))), .second, .val (.int (1 : Int32)), .val (.double (FP.l2d (x1 - y4))), .second] d_prog_7_7_23 rfl rfl ?_
  refine m_dloadN K X0.here hx hby d_prog_7_7_25 rfl rfl ?_
  refine m_dload K X0.here hx hby d_prog_7_7_26 rfl rfl ?_
  refine m_dload K X0.here hx hby d_prog_7_7_28 rfl rfl ?_
  refine m_dmul K X0.here hx hby (FP.l2d ((x1 - y4) * (x1 - y4))) d_prog_7_7_30 (nn_w (own_dmul (Bd.sub h_x1 h_y4 (by decide)) (by decide) (by decide))) (own_dmul (Bd.sub h_x1 h_y4 (by decide)) (by decide) (by decide)) rfl ?_
  refine m_dadd K X0.here hx hby (FP.l2d (w2_3_3_1 x0 x1 y3 y4)) d_prog_7_7_31 (nn_w (own_dadd (Bd.add own_bd0 (Bd.sq (Bd.sub h_x0 h_y3 (by decide)) (by decide)) (by decide)) (Bd.sq (Bd.sub h_x1 h_y4 (by decide)) (by decide)) (by decide) (by decide))) (own_dadd (Bd.add own_bd0 (Bd.sq (Bd.sub h_x0 h_y3 (by decide)) (by decide)) (by decide)) (Bd.sq (Bd.sub h_x1 h_y4 (by decide)) (by decide)) (by decide) (by decide)) rfl ?_
  refine m_dstoreN K X0.here hx hby #[.val (.ref a1), .val (.ref a2), .val (.int (3 : Int32)), .val (.double (FP.l2d (w2_3_3_1 x0 x1 y3 y4))), .second, .val (.int (1 : Int32)), .val (.double (FP.l2d (x1 - y4))), .second] d_prog_7_7_32 rfl rfl ?_
  refine m_iinc K X0.here hx hby #[.val (.ref a1), .val (.ref a2), .val (.int (3 : Int32)), .val (.double (FP.l2d (w2_3_3_1 x0 x1 y3 y4))), .second, .val (.int (2 : Int32)), .val (.double (FP.l2d (x1 - y4))), .second] d_prog_7_7_33 rfl rfl rfl ?_
  refine m_goto K X0.here hx hby (q := 5) d_prog_7_7_36 (by decide) rfl ?_
  refine m_iload K X0.here hx hby d_prog_7_7_5 rfl rfl ?_
  refine m_aloadN K X0.here hx hby d_prog_7_7_7 rfl rfl rfl ?_
  refine k_len K X0 hx hby hZ (3 : Int32) e0 A_a1 rfl d_prog_7_7_8 rfl ?_
  refine m_icmpN K X0.here hx hby (q := 12) d_prog_7_7_9 (tlt (by decide : (2 : Int32) < (3 : Int32))).2.1 rfl ?_
  refine m_aloadN K X0.here hx hby d_prog_7_7_12 rfl rfl rfl ?_
  refine m_iload K X0.here hx hby d_prog_7_7_13 rfl rfl ?_
  refine k_ldD K X0 hx hby hZ e0 A_a1 (v := (.double (FP.l2d x2))) (by decide) rfl d_prog_7_7_15 rfl ?_
  refine m_aloadN K X0.here hx hby d_prog_7_7_16 rfl rfl rfl ?_
  refine m_iloadN K X0.here hx hby d_prog_7_7_17 rfl rfl ?_
  refine m_iload K X0.here hx hby d_prog_7_7_18 rfl rfl ?_
  refine m_iadd K X0.here hx hby (5 : Int32) d_prog_7_7_20 rfl rfl ?_
  refine k_ldD K X0 hx hby hZ e0 A_a2 (v := (.double (FP.l2d y5))) (by decide) rfl d_prog_7_7_21 rfl ?_
  refine m_dsub K X0.here hx hby (FP.l2d (x2 - y5)) d_prog_7_7_22 (nn_w (own_dsub h_x2 h_y5 (by decide) (by decide))) (own_dsub h_x2 h_y5 (by decide) (by decide)) rfl ?_
  refine m_dstore K X0.here hx hby #[.val (.ref a1), .val (.ref a2), .val (.int (3 : Int32)), .val (.double (FP.l2d (w2_3_3_1 x0 x1 y3 y4))), .second, .val (.int (2 : Int32)), .val (.double (FP.l2d (x2 - y5))), .second] d_prog_7_7_23 rfl rfl ?_
  refine m_dloadN K X0.here hx hby d_prog_7_7_25 rfl rfl ?_
  refine m_dload K X0.here hx hby d_prog_7_7_26 rfl rfl ?_
  refine m_dload K X0.here hx hby d_prog_7_7_28 rfl rfl ?_
  refine m_dmul K X0.here hx hby (FP.l2d ((x2 - y5) * (x2 - y5))) d_prog_7_7_30 (nn_w (own_dmul (Bd.sub h_x2 h_y5 (by decide)) (by decide) (by decide))) (own_dmul (Bd.sub h_x2 h_y5 (by decide)) (by decide) (by decide)) rfl ?_
  refine m_dadd K X0.here hx hby (FP.l2d (w2_3_3_2 x0 x1 x2 y3 y4 y5)) d_prog_7_7_31 (nn_w (own_dadd (Bd.add (Bd.add own_bd0 (Bd.sq (Bd.sub h_x0 h_y3 (by decide)) (by decide)) (by decide)) (Bd.sq (Bd.sub h_x1 h_y4 (by decide)) (by decide)) (by decide)) (Bd.sq (Bd.sub h_x2 h_y5 (by decide)) (by decide)) (by decide) (by decide))) (own_dadd (Bd.add (Bd.add own_bd0 (Bd.sq (Bd.sub h_x0 h_y3 (by decide)) (by decide)) (by decide)) (Bd.sq (Bd.sub h_x1 h_y4 (by decide)) (by decide)) (by decide)) (Bd.sq (Bd.sub h_x2 h_y5 (by decide)) (by decide)) (by decide) (by decide)) rfl ?_
  refine m_dstoreN K X0.here hx hby #[.val (.ref a1), .val (.ref a2), .val (.int (3 : Int32)), .val (.double (FP.l2d (w2_3_3_2 x0 x1 x2 y3 y4 y5))), .second, .val (.int (2 : Int32)), .val (.double (FP.l2d (x2 - y5))), .second] d_prog_7_7_32 rfl rfl ?_
  refine m_iinc K X0.here hx hby #[.val (.ref a1), .val (.ref a2), .val (.int (3 : Int32)), .val (.double (FP.l2d (w2_3_3_2 x0 x1 x2 y3 y4 y5))), .second, .val (.int (3 : Int32)), .val (.double (FP.l2d (x2 - y5))), .second] d_prog_7_7_33 rfl rfl rfl ?_
  refine m_goto K X0.here hx hby (q := 5) d_prog_7_7_36 (by decide) rfl ?_
  refine m_iload K X0.here hx hby d_prog_7_7_5 rfl rfl ?_
  refine m_aloadN K X0.here hx hby d_prog_7_7_7 rfl rfl rfl ?_
  refine k_len K X0 hx hby hZ (3 : Int32) e0 A_a1 rfl d_prog_7_7_8 rfl ?_
  refine m_icmpY K X0.here hx hby (q := 39) d_prog_7_7_9 (flt (by decide : ¬ ((3 : Int32) < (3 : Int32)))).2.1 (by decide) rfl ?_
  refine m_dloadN K X0.here hx hby d_prog_7_7_39 rfl rfl ?_
  exact Go.retO X0 hx hby hlk hret rfl (Or.inr (Or.inr (Or.inl ⟨rfl, rfl, _, rfl⟩))) d_prog_7_7_40 (by decide) (by decide) (⟨rfl, e0, rfl⟩)
def w0_1 (p1 : Int32) : Int32 := ((p1.toUInt32 >>> ((2 : Int32) &&& 31).toUInt32).toInt32)
def w0_2 (q2 : Int64) (q3 : Int64) : Int64 := ((FLD q2 (0 : Int32)) - (FLD q3 (0 : Int32)))
def w0_3 (q2 : Int64) (q3 : Int64) : Int64 := ((FLD q2 (0 : Int32)) - (FLD q3 (1 : Int32)))
def w0_4 (q2 : Int64) (q3 : Int64) : Int64 := ((FLD q2 (0 : Int32)) - (FLD q3 (2 : Int32)))
def w0_5 (q2 : Int64) (q4 : Int64) : Int64 := ((FLD q2 (0 : Int32)) - (FLD q4 (0 : Int32)))
def w0_6 (q2 : Int64) (q3 : Int64) : Int64 := ((FLD q2 (1 : Int32)) - (FLD q3 (1 : Int32)))
def w0_7 (q2 : Int64) (q3 : Int64) : Int64 := (((0 : Int64) + (SQ (w0_2 q2 q3))) + (SQ (w0_6 q2 q3)))
def w0_8 (q2 : Int64) (q3 : Int64) : Int64 := ((FLD q2 (1 : Int32)) - (FLD q3 (2 : Int32)))
def w0_9 (q2 : Int64) (q3 : Int64) : Int64 := (((0 : Int64) + (SQ (w0_3 q2 q3))) + (SQ (w0_8 q2 q3)))
def w0_10 (q2 : Int64) (q4 : Int64) : Int64 := ((FLD q2 (1 : Int32)) - (FLD q4 (0 : Int32)))
def w0_11 (q2 : Int64) (q3 : Int64) (q4 : Int64) : Int64 := (((0 : Int64) + (SQ (w0_4 q2 q3))) + (SQ (w0_10 q2 q4)))
def w0_12 (q2 : Int64) (q4 : Int64) : Int64 := ((FLD q2 (1 : Int32)) - (FLD q4 (1 : Int32)))
def w0_13 (q2 : Int64) (q4 : Int64) : Int64 := (((0 : Int64) + (SQ (w0_5 q2 q4))) + (SQ (w0_12 q2 q4)))
def w0_14 (q2 : Int64) (q3 : Int64) : Int64 := ((FLD q2 (2 : Int32)) - (FLD q3 (2 : Int32)))
def w0_15 (q2 : Int64) (q4 : Int64) : Int64 := ((FLD q2 (2 : Int32)) - (FLD q4 (0 : Int32)))
def w0_16 (q2 : Int64) (q4 : Int64) : Int64 := ((FLD q2 (2 : Int32)) - (FLD q4 (1 : Int32)))
def w0_17 (q2 : Int64) (q3 : Int64) (q4 : Int64) : Int64 := ((w0_11 q2 q3 q4) + (SQ (w0_16 q2 q4)))
def w0_18 (q2 : Int64) (q4 : Int64) : Int64 := ((FLD q2 (2 : Int32)) - (FLD q4 (2 : Int32)))
theorem own_m4 (x : Int32) : (x &&& (3 : Int32)) = 0 ∨ (x &&& (3 : Int32)) = 1 ∨ (x &&& (3 : Int32)) = 2 ∨ (x &&& (3 : Int32)) = 3 := by
  have hm := c_mask x (3 : Int32) 2 (by decide) (by decide)
  have e0 : (0 : Int32).toInt = 0 := rfl
  have e1 : (1 : Int32).toInt = 1 := rfl
  have e2 : (2 : Int32).toInt = 2 := rfl
  have e3 : (3 : Int32).toInt = 3 := rfl
  simp only [← Int32.toInt_inj]
  omega
theorem own_n (p1 : Int32) : (p1 &&& (3 : Int32)) = 0 ∨ (p1 &&& (3 : Int32)) = 1 ∨ (p1 &&& (3 : Int32)) = 2 ∨ (p1 &&& (3 : Int32)) = 3 := own_m4 p1
theorem own_o (p1 : Int32) : ((w0_1 p1) &&& (3 : Int32)) = 0 ∨ ((w0_1 p1) &&& (3 : Int32)) = 1 ∨ ((w0_1 p1) &&& (3 : Int32)) = 2 ∨ ((w0_1 p1) &&& (3 : Int32)) = 3 := own_m4 _
theorem pd_0 : parseMethodDescriptor "(JI)J" = some ⟨[.long, .int], some .long⟩ := by decide +kernel
theorem pd_1 : parseMethodDescriptor "([D[DI)D" = some ⟨[(.array .double), (.array .double), .int], some .double⟩ := by decide +kernel
theorem pd_2 : parseMethodDescriptor "(J)J" = some ⟨[.long], some .long⟩ := by decide +kernel
theorem ef0 (m : MethodId) (x0 : Int32) (x1 : Int64) (x2 : Int64) (x3 : Int64) : entryFrame m #[(.int x0), (.long x1), (.long x2), (.long x3)] maxLocals = mkF m 0 #[.val (.int x0), .val (.long x1), .second, .val (.long x2), .second, .val (.long x3), .second, .unset, .unset, .unset, .unset, .unset, .unset, .unset, .unset, .unset, .unset, .unset, .unset, .unset, .unset, .unset] [] := by first | (simp [entryFrame, mkF, argsToLocals, Value.category, maxLocals]; done) | rfl
set_option maxRecDepth 65536 in
set_option maxHeartbeats 40000000 in
theorem law0 (l : Launch) (Z : State) (a0 : Array Value) (hw : ∀ d ∈ tables_1, d.before a0 Z = true) (ws : List Jvm.Cond) (p1 : Int32) (q2 : Int64) (q3 : Int64) (q4 : Int64) (h0 : Heap) (n0 : Nat) (Z0 : n0 ≤ h0.size) :
    Con l Z x code maxLocals ret room_1 ws #[(.int p1), (.long q2), (.long q3), (.long q4)] h0 (fun v h L => v = some (.int 1) ∧ Fr n0 L) := by
  refine Con.of (plainFor_of_name pn_com_example_askance_askance_KdTreeSumOfSquaresPinLaw) #[.val (.int p1), .val (.long q2), .second, .val (.long q3), .second, .val (.long q4), .second, .unset, .unset, .unset, .unset, .unset, .unset, .unset, .unset, .unset, .unset, .unset, .unset, .unset, .unset, .unset] (fun m => ef0 m p1 q2 q3 q4) ?_
  intro p e s m below meth c s₁ K hx hby hml hown hnm hret hlk hZ X0 e0
  have N0 := Fr.nil n0
  refine m_iloadN K X0.here hx hby at_0 rfl rfl ?_
  refine m_iconst K X0.here hx hby (3 : Int32) at_1 rfl rfl ?_
  refine m_iand K X0.here hx hby (p1 &&& (3 : Int32)) at_2 rfl rfl ?_
  refine m_istore K X0.here hx hby #[.val (.int p1), .val (.long q2), .second, .val (.long q3), .second, .val (.long q4), .second, .val (.int (p1 &&& (3 : Int32))), .unset, .unset, .unset, .unset, .unset, .unset, .unset, .unset, .unset, .unset, .unset, .unset, .unset, .unset] at_3 rfl rfl ?_
  refine m_iloadN K X0.here hx hby at_5 rfl rfl ?_
  refine m_iconst K X0.here hx hby (2 : Int32) at_6 rfl rfl ?_
  refine m_iushr K X0.here hx hby (w0_1 p1) at_7 rfl rfl ?_
  refine m_iconst K X0.here hx hby (3 : Int32) at_8 rfl rfl ?_
  refine m_iand K X0.here hx hby ((w0_1 p1) &&& (3 : Int32)) at_9 rfl rfl ?_
  refine m_istore K X0.here hx hby #[.val (.int p1), .val (.long q2), .second, .val (.long q3), .second, .val (.long q4), .second, .val (.int (p1 &&& (3 : Int32))), .val (.int ((w0_1 p1) &&& (3 : Int32))), .unset, .unset, .unset, .unset, .unset, .unset, .unset, .unset, .unset, .unset, .unset, .unset, .unset] at_10 rfl rfl ?_
  refine m_lloadN K X0.here hx hby at_12 rfl rfl ?_
  refine m_iconst K X0.here hx hby (0 : Int32) at_13 rfl rfl ?_
  refine k_callS K X0 hx hby hZ [(.long q2), (.int (0 : Int32))] [] hown (hw _ (List.mem_of_getElem? (i := 0) rfl)) (hw _ (List.mem_of_getElem? (i := 1) rfl)) (hw _ (List.mem_of_getElem? (i := 2) rfl)) (hw _ (List.mem_of_getElem? (i := 3) rfl)) (c1 l Z a0 hw q2 (0 : Int32) h0 n0 Z0) e0 rfl rfl pd_0 rfl at_14 (by rw [hml]; rfl) rfl (by decide) (by decide) (Nat.le_of_ble_eq_true rfl) (by decide) (by decide) fun v1 T1 L1 X1 q1 => ?_
  obtain ⟨rfl, e1, rfl⟩ := q1
  replace X1 := own_px X1
  refine k_some K (w := (.long (FLD q2 (0 : Int32)))) ?_
  refine m_lstore K X1.here hx hby #[.val (.int p1), .val (.long q2), .second, .val (.long q3), .second, .val (.long q4), .second, .val (.int (p1 &&& (3 : Int32))), .val (.int ((w0_1 p1) &&& (3 : Int32))), .val (.long (FLD q2 (0 : Int32))), .second, .unset, .unset, .unset, .unset, .unset, .unset, .unset, .unset, .unset, .unset, .unset] at_17 rfl rfl ?_
  refine m_lloadN K X1.here hx hby at_19 rfl rfl ?_
  refine m_iconst K X1.here hx hby (1 : Int32) at_20 rfl rfl ?_
  refine k_callS K X1 hx hby hZ [(.long q2), (.int (1 : Int32))] [] hown (hw _ (List.mem_of_getElem? (i := 0) rfl)) (hw _ (List.mem_of_getElem? (i := 1) rfl)) (hw _ (List.mem_of_getElem? (i := 2) rfl)) (hw _ (List.mem_of_getElem? (i := 3) rfl)) (c1 l Z a0 hw q2 (1 : Int32) h0 n0 Z0) e1 rfl rfl pd_0 rfl at_21 (by rw [hml]; rfl) rfl (by decide) (by decide) (Nat.le_of_ble_eq_true rfl) (by decide) (by decide) fun v2 T2 L2 X2 q2 => ?_
  obtain ⟨rfl, e2, rfl⟩ := q2
  replace X2 := own_px X2
  refine k_some K (w := (.long (FLD q2 (1 : Int32)))) ?_
  refine m_lstore K X2.here hx hby #[.val (.int p1), .val (.long q2), .second, .val (.long q3), .second, .val (.long q4), .second, .val (.int (p1 &&& (3 : Int32))), .val (.int ((w0_1 p1) &&& (3 : Int32))), .val (.long (FLD q2 (0 : Int32))), .second, .val (.long (FLD q2 (1 : Int32))), .second, .unset, .unset, .unset, .unset, .unset, .unset, .unset, .unset, .unset] at_24 rfl rfl ?_
  refine m_lloadN K X2.here hx hby at_26 rfl rfl ?_
  refine m_iconst K X2.here hx hby (2 : Int32) at_27 rfl rfl ?_
  refine k_callS K X2 hx hby hZ [(.long q2), (.int (2 : Int32))] [] hown (hw _ (List.mem_of_getElem? (i := 0) rfl)) (hw _ (List.mem_of_getElem? (i := 1) rfl)) (hw _ (List.mem_of_getElem? (i := 2) rfl)) (hw _ (List.mem_of_getElem? (i := 3) rfl)) (c1 l Z a0 hw q2 (2 : Int32) h0 n0 Z0) e2 rfl rfl pd_0 rfl at_28 (by rw [hml]; rfl) rfl (by decide) (by decide) (Nat.le_of_ble_eq_true rfl) (by decide) (by decide) fun v3 T3 L3 X3 q3 => ?_
  obtain ⟨rfl, e3, rfl⟩ := q3
  replace X3 := own_px X3
  refine k_some K (w := (.long (FLD q2 (2 : Int32)))) ?_
  refine m_lstore K X3.here hx hby #[.val (.int p1), .val (.long q2), .second, .val (.long q3), .second, .val (.long q4), .second, .val (.int (p1 &&& (3 : Int32))), .val (.int ((w0_1 p1) &&& (3 : Int32))), .val (.long (FLD q2 (0 : Int32))), .second, .val (.long (FLD q2 (1 : Int32))), .second, .val (.long (FLD q2 (2 : Int32))), .second, .unset, .unset, .unset, .unset, .unset, .unset, .unset] at_31 rfl rfl ?_
  refine m_bipush K X3.here hx hby (6 : Int32) at_33 rfl rfl ?_
  refine k_newP K X3 hx hby hZ 6 6 (hw _ (List.mem_of_getElem? (i := 6) rfl)) e3 at_35 rfl (by decide) rfl (by decide) (by decide) (by decide) (by decide) fun T4 h4 b4 X4 e4 E4 g4 V_b4 => ?_
  have sz_b4 : h0.size ≤ b4 := Nat.le_trans (Nat.le_refl _) (Nat.le_of_eq g4.symm)
  have g_b4 : n0 ≤ b4 := Nat.le_trans Z0 sz_b4
  replace V_b4 : Av Z h4 b4 .long [(.long (0 : Int64)), (.long (0 : Int64)), (.long (0 : Int64)), (.long (0 : Int64)), (.long (0 : Int64)), (.long (0 : Int64))] := V_b4
  refine m_astore K X4.here hx hby #[.val (.int p1), .val (.long q2), .second, .val (.long q3), .second, .val (.long q4), .second, .val (.int (p1 &&& (3 : Int32))), .val (.int ((w0_1 p1) &&& (3 : Int32))), .val (.long (FLD q2 (0 : Int32))), .second, .val (.long (FLD q2 (1 : Int32))), .second, .val (.long (FLD q2 (2 : Int32))), .second, .val (.ref b4), .unset, .unset, .unset, .unset, .unset, .unset] at_37 rfl rfl rfl ?_
  refine m_aload K X4.here hx hby at_39 rfl rfl rfl ?_
  refine m_iconst K X4.here hx hby (0 : Int32) at_41 rfl rfl ?_
  refine m_lloadN K X4.here hx hby at_42 rfl rfl ?_
  refine m_iconst K X4.here hx hby (0 : Int32) at_43 rfl rfl ?_
  refine k_callS K X4 hx hby hZ [(.long q3), (.int (0 : Int32))] [(.int (0 : Int32)), (.ref b4)] hown (hw _ (List.mem_of_getElem? (i := 0) rfl)) (hw _ (List.mem_of_getElem? (i := 1) rfl)) (hw _ (List.mem_of_getElem? (i := 2) rfl)) (hw _ (List.mem_of_getElem? (i := 3) rfl)) (c1 l Z a0 hw q3 (0 : Int32) h4 n0 (Nat.le_trans Z0 (Nat.le_trans (Nat.le_refl _) E4.1))) e4 rfl rfl pd_0 rfl at_44 (by rw [hml]; rfl) rfl (by decide) (by decide) (Nat.le_of_ble_eq_true rfl) (by decide) (by decide) fun v5 T5 L5 X5 q5 => ?_
  obtain ⟨rfl, e5, rfl⟩ := q5
  replace X5 := own_px X5
  refine k_some K (w := (.long (FLD q3 (0 : Int32)))) ?_
  refine k_stJ K X5 hx hby hZ e5 V_b4 (by decide) (Nat.le_of_ble_eq_true rfl) at_47 rfl fun T6 h6 X6 e6 W6 V6 => ?_
  replace V6 : Av Z h6 b4 .long [(.long (FLD q3 (0 : Int32))), (.long (0 : Int64)), (.long (0 : Int64)), (.long (0 : Int64)), (.long (0 : Int64)), (.long (0 : Int64))] := V6
  have N6 := Fr.snoc X6 N0 g_b4
  refine m_aload K X6.here hx hby at_48 rfl rfl rfl ?_
  refine m_iconst K X6.here hx hby (1 : Int32) at_50 rfl rfl ?_
  refine m_lloadN K X6.here hx hby at_51 rfl rfl ?_
  refine m_iconst K X6.here hx hby (1 : Int32) at_52 rfl rfl ?_
  refine k_callS K X6 hx hby hZ [(.long q3), (.int (1 : Int32))] [(.int (1 : Int32)), (.ref b4)] hown (hw _ (List.mem_of_getElem? (i := 0) rfl)) (hw _ (List.mem_of_getElem? (i := 1) rfl)) (hw _ (List.mem_of_getElem? (i := 2) rfl)) (hw _ (List.mem_of_getElem? (i := 3) rfl)) (c1 l Z a0 hw q3 (1 : Int32) h6 n0 (Nat.le_trans Z0 (Nat.le_trans (Nat.le_trans (Nat.le_refl _) E4.1) (Keep.of_wr W6).1))) e6 rfl rfl pd_0 rfl at_53 (by rw [hml]; rfl) rfl (by decide) (by decide) (Nat.le_of_ble_eq_true rfl) (by decide) (by decide) fun v7 T7 L7 X7 q7 => ?_
  obtain ⟨rfl, e7, rfl⟩ := q7
  replace X7 := own_px X7
  refine k_some K (w := (.long (FLD q3 (1 : Int32)))) ?_
  refine k_stJ K X7 hx hby hZ e7 V6 (by decide) (Nat.le_of_ble_eq_true rfl) at_56 rfl fun T8 h8 X8 e8 W8 V8 => ?_
  replace V8 : Av Z h8 b4 .long [(.long (FLD q3 (0 : Int32))), (.long (FLD q3 (1 : Int32))), (.long (0 : Int64)), (.long (0 : Int64)), (.long (0 : Int64)), (.long (0 : Int64))] := V8
  have N8 := Fr.snoc X8 N6 g_b4
  refine m_aload K X8.here hx hby at_57 rfl rfl rfl ?_
  refine m_iconst K X8.here hx hby (2 : Int32) at_59 rfl rfl ?_
  refine m_lloadN K X8.here hx hby at_60 rfl rfl ?_
  refine m_iconst K X8.here hx hby (2 : Int32) at_61 rfl rfl ?_
  refine k_callS K X8 hx hby hZ [(.long q3), (.int (2 : Int32))] [(.int (2 : Int32)), (.ref b4)] hown (hw _ (List.mem_of_getElem? (i := 0) rfl)) (hw _ (List.mem_of_getElem? (i := 1) rfl)) (hw _ (List.mem_of_getElem? (i := 2) rfl)) (hw _ (List.mem_of_getElem? (i := 3) rfl)) (c1 l Z a0 hw q3 (2 : Int32) h8 n0 (Nat.le_trans Z0 (Nat.le_trans (Nat.le_trans (Nat.le_trans (Nat.le_refl _) E4.1) (Keep.of_wr W6).1) (Keep.of_wr W8).1))) e8 rfl rfl pd_0 rfl at_62 (by rw [hml]; rfl) rfl (by decide) (by decide) (Nat.le_of_ble_eq_true rfl) (by decide) (by decide) fun v9 T9 L9 X9 q9 => ?_
  obtain ⟨rfl, e9, rfl⟩ := q9
  replace X9 := own_px X9
  refine k_some K (w := (.long (FLD q3 (2 : Int32)))) ?_
  refine k_stJ K X9 hx hby hZ e9 V8 (by decide) (Nat.le_of_ble_eq_true rfl) at_65 rfl fun T10 h10 X10 e10 W10 V10 => ?_
  replace V10 : Av Z h10 b4 .long [(.long (FLD q3 (0 : Int32))), (.long (FLD q3 (1 : Int32))), (.long (FLD q3 (2 : Int32))), (.long (0 : Int64)), (.long (0 : Int64)), (.long (0 : Int64))] := V10
  have N10 := Fr.snoc X10 N8 g_b4
  refine m_aload K X10.here hx hby at_66 rfl rfl rfl ?_
  refine m_iconst K X10.here hx hby (3 : Int32) at_68 rfl rfl ?_
  refine m_lload K X10.here hx hby at_69 rfl rfl ?_
  refine m_iconst K X10.here hx hby (0 : Int32) at_71 rfl rfl ?_
  refine k_callS K X10 hx hby hZ [(.long q4), (.int (0 : Int32))] [(.int (3 : Int32)), (.ref b4)] hown (hw _ (List.mem_of_getElem? (i := 0) rfl)) (hw _ (List.mem_of_getElem? (i := 1) rfl)) (hw _ (List.mem_of_getElem? (i := 2) rfl)) (hw _ (List.mem_of_getElem? (i := 3) rfl)) (c1 l Z a0 hw q4 (0 : Int32) h10 n0 (Nat.le_trans Z0 (Nat.le_trans (Nat.le_trans (Nat.le_trans (Nat.le_trans (Nat.le_refl _) E4.1) (Keep.of_wr W6).1) (Keep.of_wr W8).1) (Keep.of_wr W10).1))) e10 rfl rfl pd_0 rfl at_72 (by rw [hml]; rfl) rfl (by decide) (by decide) (Nat.le_of_ble_eq_true rfl) (by decide) (by decide) fun v11 T11 L11 X11 q11 => ?_
  obtain ⟨rfl, e11, rfl⟩ := q11
  replace X11 := own_px X11
  refine k_some K (w := (.long (FLD q4 (0 : Int32)))) ?_
  refine k_stJ K X11 hx hby hZ e11 V10 (by decide) (Nat.le_of_ble_eq_true rfl) at_75 rfl fun T12 h12 X12 e12 W12 V12 => ?_
  replace V12 : Av Z h12 b4 .long [(.long (FLD q3 (0 : Int32))), (.long (FLD q3 (1 : Int32))), (.long (FLD q3 (2 : Int32))), (.long (FLD q4 (0 : Int32))), (.long (0 : Int64)), (.long (0 : Int64))] := V12
  have N12 := Fr.snoc X12 N10 g_b4
  refine m_aload K X12.here hx hby at_76 rfl rfl rfl ?_
  refine m_iconst K X12.here hx hby (4 : Int32) at_78 rfl rfl ?_
  refine m_lload K X12.here hx hby at_79 rfl rfl ?_
  refine m_iconst K X12.here hx hby (1 : Int32) at_81 rfl rfl ?_
  refine k_callS K X12 hx hby hZ [(.long q4), (.int (1 : Int32))] [(.int (4 : Int32)), (.ref b4)] hown (hw _ (List.mem_of_getElem? (i := 0) rfl)) (hw _ (List.mem_of_getElem? (i := 1) rfl)) (hw _ (List.mem_of_getElem? (i := 2) rfl)) (hw _ (List.mem_of_getElem? (i := 3) rfl)) (c1 l Z a0 hw q4 (1 : Int32) h12 n0 (Nat.le_trans Z0 (Nat.le_trans (Nat.le_trans (Nat.le_trans (Nat.le_trans (Nat.le_trans (Nat.le_refl _) E4.1) (Keep.of_wr W6).1) (Keep.of_wr W8).1) (Keep.of_wr W10).1) (Keep.of_wr W12).1))) e12 rfl rfl pd_0 rfl at_82 (by rw [hml]; rfl) rfl (by decide) (by decide) (Nat.le_of_ble_eq_true rfl) (by decide) (by decide) fun v13 T13 L13 X13 q13 => ?_
  obtain ⟨rfl, e13, rfl⟩ := q13
  replace X13 := own_px X13
  refine k_some K (w := (.long (FLD q4 (1 : Int32)))) ?_
  refine k_stJ K X13 hx hby hZ e13 V12 (by decide) (Nat.le_of_ble_eq_true rfl) at_85 rfl fun T14 h14 X14 e14 W14 V14 => ?_
  replace V14 : Av Z h14 b4 .long [(.long (FLD q3 (0 : Int32))), (.long (FLD q3 (1 : Int32))), (.long (FLD q3 (2 : Int32))), (.long (FLD q4 (0 : Int32))), (.long (FLD q4 (1 : Int32))), (.long (0 : Int64))] := V14
  have N14 := Fr.snoc X14 N12 g_b4
  refine m_aload K X14.here hx hby at_86 rfl rfl rfl ?_
  refine m_iconst K X14.here hx hby (5 : Int32) at_88 rfl rfl ?_
  refine m_lload K X14.here hx hby at_89 rfl rfl ?_
  refine m_iconst K X14.here hx hby (2 : Int32) at_91 rfl rfl ?_
  refine k_callS K X14 hx hby hZ [(.long q4), (.int (2 : Int32))] [(.int (5 : Int32)), (.ref b4)] hown (hw _ (List.mem_of_getElem? (i := 0) rfl)) (hw _ (List.mem_of_getElem? (i := 1) rfl)) (hw _ (List.mem_of_getElem? (i := 2) rfl)) (hw _ (List.mem_of_getElem? (i := 3) rfl)) (c1 l Z a0 hw q4 (2 : Int32) h14 n0 (Nat.le_trans Z0 (Nat.le_trans (Nat.le_trans (Nat.le_trans (Nat.le_trans (Nat.le_trans (Nat.le_trans (Nat.le_refl _) E4.1) (Keep.of_wr W6).1) (Keep.of_wr W8).1) (Keep.of_wr W10).1) (Keep.of_wr W12).1) (Keep.of_wr W14).1))) e14 rfl rfl pd_0 rfl at_92 (by rw [hml]; rfl) rfl (by decide) (by decide) (Nat.le_of_ble_eq_true rfl) (by decide) (by decide) fun v15 T15 L15 X15 q15 => ?_
  obtain ⟨rfl, e15, rfl⟩ := q15
  replace X15 := own_px X15
  refine k_some K (w := (.long (FLD q4 (2 : Int32)))) ?_
  refine k_stJ K X15 hx hby hZ e15 V14 (by decide) (Nat.le_of_ble_eq_true rfl) at_95 rfl fun T16 h16 X16 e16 W16 V16 => ?_
  replace V16 : Av Z h16 b4 .long [(.long (FLD q3 (0 : Int32))), (.long (FLD q3 (1 : Int32))), (.long (FLD q3 (2 : Int32))), (.long (FLD q4 (0 : Int32))), (.long (FLD q4 (1 : Int32))), (.long (FLD q4 (2 : Int32)))] := V16
  have N16 := Fr.snoc X16 N14 g_b4
  rcases own_n p1 with hs7 | hs7 | hs7 | hs7
  · rw [hs7]
    refine m_iload K X16.here hx hby at_96 rfl rfl ?_
    refine k_newP K X16 hx hby hZ 0 0 (hw _ (List.mem_of_getElem? (i := 7) rfl)) e16 at_98 rfl (by decide) rfl (by decide) (by decide) (by decide) (by decide) fun T17 h17 b17 X17 e17 E17 g17 V_b17 => ?_
    have sz_b17 : h0.size ≤ b17 := Nat.le_trans (Nat.le_trans (Nat.le_trans (Nat.le_trans (Nat.le_trans (Nat.le_trans (Nat.le_trans (Nat.le_trans (Nat.le_refl _) E4.1) (Keep.of_wr W6).1) (Keep.of_wr W8).1) (Keep.of_wr W10).1) (Keep.of_wr W12).1) (Keep.of_wr W14).1) (Keep.of_wr W16).1) (Nat.le_of_eq g17.symm)
    have g_b17 : n0 ≤ b17 := Nat.le_trans Z0 sz_b17
    replace V_b17 : Av Z h17 b17 .double [] := V_b17
    refine m_astore K X17.here hx hby #[.val (.int p1), .val (.long q2), .second, .val (.long q3), .second, .val (.long q4), .second, .val (.int (0 : Int32)), .val (.int ((w0_1 p1) &&& (3 : Int32))), .val (.long (FLD q2 (0 : Int32))), .second, .val (.long (FLD q2 (1 : Int32))), .second, .val (.long (FLD q2 (2 : Int32))), .second, .val (.ref b4), .val (.ref b17), .unset, .unset, .unset, .unset, .unset] at_100 rfl rfl rfl ?_
    refine m_iload K X17.here hx hby at_102 rfl rfl ?_
    refine m_ifY K X17.here hx hby (q := 114) at_104 ((if0 _ _).trans (flt (by decide : ¬ ((0 : Int32) < (0 : Int32)))).2.2.2) (by decide) rfl ?_
    refine m_iload K X17.here hx hby at_114 rfl rfl ?_
    refine m_iconst K X17.here hx hby (1 : Int32) at_116 rfl rfl ?_
    refine m_icmpY K X17.here hx hby (q := 127) at_117 (flt (by decide : ¬ ((1 : Int32) < (0 : Int32)))).2.2.2 (by decide) rfl ?_
    refine m_iload K X17.here hx hby at_127 rfl rfl ?_
    refine m_iconst K X17.here hx hby (2 : Int32) at_129 rfl rfl ?_
    refine m_icmpY K X17.here hx hby (q := 140) at_130 (flt (by decide : ¬ ((2 : Int32) < (0 : Int32)))).2.2.2 (by decide) rfl ?_
    refine m_bipush K X17.here hx hby (6 : Int32) at_140 rfl rfl ?_
    refine k_newP K X17 hx hby hZ 6 6 (hw _ (List.mem_of_getElem? (i := 7) rfl)) e17 at_142 rfl (by decide) rfl (by decide) (by decide) (by decide) (by decide) fun T18 h18 b18 X18 e18 E18 g18 V_b18 => ?_
    have sz_b18 : h0.size ≤ b18 := Nat.le_trans (Nat.le_trans (Nat.le_trans (Nat.le_trans (Nat.le_trans (Nat.le_trans (Nat.le_trans (Nat.le_trans (Nat.le_trans (Nat.le_refl _) E4.1) (Keep.of_wr W6).1) (Keep.of_wr W8).1) (Keep.of_wr W10).1) (Keep.of_wr W12).1) (Keep.of_wr W14).1) (Keep.of_wr W16).1) E17.1) (Nat.le_of_eq g18.symm)
    have g_b18 : n0 ≤ b18 := Nat.le_trans Z0 sz_b18
    replace V_b18 : Av Z h18 b18 .double [(.double 0), (.double 0), (.double 0), (.double 0), (.double 0), (.double 0)] := V_b18
    refine m_astore K X18.here hx hby #[.val (.int p1), .val (.long q2), .second, .val (.long q3), .second, .val (.long q4), .second, .val (.int (0 : Int32)), .val (.int ((w0_1 p1) &&& (3 : Int32))), .val (.long (FLD q2 (0 : Int32))), .second, .val (.long (FLD q2 (1 : Int32))), .second, .val (.long (FLD q2 (2 : Int32))), .second, .val (.ref b4), .val (.ref b17), .val (.ref b18), .unset, .unset, .unset, .unset] at_144 rfl rfl rfl ?_
    refine m_aload K X18.here hx hby at_146 rfl rfl rfl ?_
    refine m_iconst K X18.here hx hby (0 : Int32) at_148 rfl rfl ?_
    refine m_aload K X18.here hx hby at_149 rfl rfl rfl ?_
    refine m_iconst K X18.here hx hby (0 : Int32) at_151 rfl rfl ?_
    refine k_ldJ K X18 hx hby hZ e18 ((V16.ext E17).ext E18) (v := (.long (FLD q3 (0 : Int32)))) (by decide) rfl at_152 rfl ?_
    refine m_l2d K X18.here hx hby (FP.l2d (FLD q3 (0 : Int32))) at_153 rfl rfl ?_
    refine k_stD K X18 hx hby hZ e18 V_b18 (by decide) (Nat.le_of_ble_eq_true rfl) at_154 rfl fun T19 h19 X19 e19 W19 V19 => ?_
    replace V19 : Av Z h19 b18 .double [(.double (FP.l2d (FLD q3 (0 : Int32)))), (.double 0), (.double 0), (.double 0), (.double 0), (.double 0)] := V19
    have N19 := Fr.snoc X19 N16 g_b18
    refine m_aload K X19.here hx hby at_155 rfl rfl rfl ?_
    refine m_iconst K X19.here hx hby (1 : Int32) at_157 rfl rfl ?_
    refine m_aload K X19.here hx hby at_158 rfl rfl rfl ?_
    refine m_iconst K X19.here hx hby (1 : Int32) at_160 rfl rfl ?_
    refine k_ldJ K X19 hx hby hZ e19 (((V16.ext E17).ext E18).other W19 (Nat.ne_of_lt (Nat.lt_of_lt_of_le (Nat.lt_of_lt_of_le V_b4.lt (Nat.le_trans (Nat.le_trans (Nat.le_trans (Nat.le_trans (Nat.le_trans (Nat.le_trans (Nat.le_trans (Nat.le_refl _) (Keep.of_wr W6).1) (Keep.of_wr W8).1) (Keep.of_wr W10).1) (Keep.of_wr W12).1) (Keep.of_wr W14).1) (Keep.of_wr W16).1) E17.1)) (Nat.le_of_eq g18.symm)))) (v := (.long (FLD q3 (1 : Int32)))) (by decide) rfl at_161 rfl ?_
    refine m_l2d K X19.here hx hby (FP.l2d (FLD q3 (1 : Int32))) at_162 rfl rfl ?_
    refine k_stD K X19 hx hby hZ e19 V19 (by decide) (Nat.le_of_ble_eq_true rfl) at_163 rfl fun T20 h20 X20 e20 W20 V20 => ?_
    replace V20 : Av Z h20 b18 .double [(.double (FP.l2d (FLD q3 (0 : Int32)))), (.double (FP.l2d (FLD q3 (1 : Int32)))), (.double 0), (.double 0), (.double 0), (.double 0)] := V20
    have N20 := Fr.snoc X20 N19 g_b18
    refine m_aload K X20.here hx hby at_164 rfl rfl rfl ?_
    refine m_iconst K X20.here hx hby (2 : Int32) at_166 rfl rfl ?_
    refine m_aload K X20.here hx hby at_167 rfl rfl rfl ?_
    refine m_iconst K X20.here hx hby (2 : Int32) at_169 rfl rfl ?_
    refine k_ldJ K X20 hx hby hZ e20 ((((V16.ext E17).ext E18).other W19 (Nat.ne_of_lt (Nat.lt_of_lt_of_le (Nat.lt_of_lt_of_le V_b4.lt (Nat.le_trans (Nat.le_trans (Nat.le_trans (Nat.le_trans (Nat.le_trans (Nat.le_trans (Nat.le_trans (Nat.le_refl _) (Keep.of_wr W6).1) (Keep.of_wr W8).1) (Keep.of_wr W10).1) (Keep.of_wr W12).1) (Keep.of_wr W14).1) (Keep.of_wr W16).1) E17.1)) (Nat.le_of_eq g18.symm)))).other W20 (Nat.ne_of_lt (Nat.lt_of_lt_of_le (Nat.lt_of_lt_of_le V_b4.lt (Nat.le_trans (Nat.le_trans (Nat.le_trans (Nat.le_trans (Nat.le_trans (Nat.le_trans (Nat.le_trans (Nat.le_refl _) (Keep.of_wr W6).1) (Keep.of_wr W8).1) (Keep.of_wr W10).1) (Keep.of_wr W12).1) (Keep.of_wr W14).1) (Keep.of_wr W16).1) E17.1)) (Nat.le_of_eq g18.symm)))) (v := (.long (FLD q3 (2 : Int32)))) (by decide) rfl at_170 rfl ?_
    refine m_l2d K X20.here hx hby (FP.l2d (FLD q3 (2 : Int32))) at_171 rfl rfl ?_
    refine k_stD K X20 hx hby hZ e20 V20 (by decide) (Nat.le_of_ble_eq_true rfl) at_172 rfl fun T21 h21 X21 e21 W21 V21 => ?_
    replace V21 : Av Z h21 b18 .double [(.double (FP.l2d (FLD q3 (0 : Int32)))), (.double (FP.l2d (FLD q3 (1 : Int32)))), (.double (FP.l2d (FLD q3 (2 : Int32)))), (.double 0), (.double 0), (.double 0)] := V21
    have N21 := Fr.snoc X21 N20 g_b18
    refine m_aload K X21.here hx hby at_173 rfl rfl rfl ?_
    refine m_iconst K X21.here hx hby (3 : Int32) at_175 rfl rfl ?_
    refine m_aload K X21.here hx hby at_176 rfl rfl rfl ?_
    refine m_iconst K X21.here hx hby (3 : Int32) at_178 rfl rfl ?_
    refine k_ldJ K X21 hx hby hZ e21 (((((V16.ext E17).ext E18).other W19 (Nat.ne_of_lt (Nat.lt_of_lt_of_le (Nat.lt_of_lt_of_le V_b4.lt (Nat.le_trans (Nat.le_trans (Nat.le_trans (Nat.le_trans (Nat.le_trans (Nat.le_trans (Nat.le_trans (Nat.le_refl _) (Keep.of_wr W6).1) (Keep.of_wr W8).1) (Keep.of_wr W10).1) (Keep.of_wr W12).1) (Keep.of_wr W14).1) (Keep.of_wr W16).1) E17.1)) (Nat.le_of_eq g18.symm)))).other W20 (Nat.ne_of_lt (Nat.lt_of_lt_of_le (Nat.lt_of_lt_of_le V_b4.lt (Nat.le_trans (Nat.le_trans (Nat.le_trans (Nat.le_trans (Nat.le_trans (Nat.le_trans (Nat.le_trans (Nat.le_refl _) (Keep.of_wr W6).1) (Keep.of_wr W8).1) (Keep.of_wr W10).1) (Keep.of_wr W12).1) (Keep.of_wr W14).1) (Keep.of_wr W16).1) E17.1)) (Nat.le_of_eq g18.symm)))).other W21 (Nat.ne_of_lt (Nat.lt_of_lt_of_le (Nat.lt_of_lt_of_le V_b4.lt (Nat.le_trans (Nat.le_trans (Nat.le_trans (Nat.le_trans (Nat.le_trans (Nat.le_trans (Nat.le_trans (Nat.le_refl _) (Keep.of_wr W6).1) (Keep.of_wr W8).1) (Keep.of_wr W10).1) (Keep.of_wr W12).1) (Keep.of_wr W14).1) (Keep.of_wr W16).1) E17.1)) (Nat.le_of_eq g18.symm)))) (v := (.long (FLD q4 (0 : Int32)))) (by decide) rfl at_179 rfl ?_
    refine m_l2d K X21.here hx hby (FP.l2d (FLD q4 (0 : Int32))) at_180 rfl rfl ?_
    refine k_stD K X21 hx hby hZ e21 V21 (by decide) (Nat.le_of_ble_eq_true rfl) at_181 rfl fun T22 h22 X22 e22 W22 V22 => ?_
    replace V22 : Av Z h22 b18 .double [(.double (FP.l2d (FLD q3 (0 : Int32)))), (.double (FP.l2d (FLD q3 (1 : Int32)))), (.double (FP.l2d (FLD q3 (2 : Int32)))), (.double (FP.l2d (FLD q4 (0 : Int32)))), (.double 0), (.double 0)] := V22
    have N22 := Fr.snoc X22 N21 g_b18
    refine m_aload K X22.here hx hby at_182 rfl rfl rfl ?_
    refine m_iconst K X22.here hx hby (4 : Int32) at_184 rfl rfl ?_
    refine m_aload K X22.here hx hby at_185 rfl rfl rfl ?_
    refine m_iconst K X22.here hx hby (4 : Int32) at_187 rfl rfl ?_
    refine k_ldJ K X22 hx hby hZ e22 ((((((V16.ext E17).ext E18).other W19 (Nat.ne_of_lt (Nat.lt_of_lt_of_le (Nat.lt_of_lt_of_le V_b4.lt (Nat.le_trans (Nat.le_trans (Nat.le_trans (Nat.le_trans (Nat.le_trans (Nat.le_trans (Nat.le_trans (Nat.le_refl _) (Keep.of_wr W6).1) (Keep.of_wr W8).1) (Keep.of_wr W10).1) (Keep.of_wr W12).1) (Keep.of_wr W14).1) (Keep.of_wr W16).1) E17.1)) (Nat.le_of_eq g18.symm)))).other W20 (Nat.ne_of_lt (Nat.lt_of_lt_of_le (Nat.lt_of_lt_of_le V_b4.lt (Nat.le_trans (Nat.le_trans (Nat.le_trans (Nat.le_trans (Nat.le_trans (Nat.le_trans (Nat.le_trans (Nat.le_refl _) (Keep.of_wr W6).1) (Keep.of_wr W8).1) (Keep.of_wr W10).1) (Keep.of_wr W12).1) (Keep.of_wr W14).1) (Keep.of_wr W16).1) E17.1)) (Nat.le_of_eq g18.symm)))).other W21 (Nat.ne_of_lt (Nat.lt_of_lt_of_le (Nat.lt_of_lt_of_le V_b4.lt (Nat.le_trans (Nat.le_trans (Nat.le_trans (Nat.le_trans (Nat.le_trans (Nat.le_trans (Nat.le_trans (Nat.le_refl _) (Keep.of_wr W6).1) (Keep.of_wr W8).1) (Keep.of_wr W10).1) (Keep.of_wr W12).1) (Keep.of_wr W14).1) (Keep.of_wr W16).1) E17.1)) (Nat.le_of_eq g18.symm)))).other W22 (Nat.ne_of_lt (Nat.lt_of_lt_of_le (Nat.lt_of_lt_of_le V_b4.lt (Nat.le_trans (Nat.le_trans (Nat.le_trans (Nat.le_trans (Nat.le_trans (Nat.le_trans (Nat.le_trans (Nat.le_refl _) (Keep.of_wr W6).1) (Keep.of_wr W8).1) (Keep.of_wr W10).1) (Keep.of_wr W12).1) (Keep.of_wr W14).1) (Keep.of_wr W16).1) E17.1)) (Nat.le_of_eq g18.symm)))) (v := (.long (FLD q4 (1 : Int32)))) (by decide) rfl at_188 rfl ?_
    refine m_l2d K X22.here hx hby (FP.l2d (FLD q4 (1 : Int32))) at_189 rfl rfl ?_
    refine k_stD K X22 hx hby hZ e22 V22 (by decide) (Nat.le_of_ble_eq_true rfl) at_190 rfl fun T23 h23 X23 e23 W23 V23 => ?_
    replace V23 : Av Z h23 b18 .double [(.double (FP.l2d (FLD q3 (0 : Int32)))), (.double (FP.l2d (FLD q3 (1 : Int32)))), (.double (FP.l2d (FLD q3 (2 : Int32)))), (.double (FP.l2d (FLD q4 (0 : Int32)))), (.double (FP.l2d (FLD q4 (1 : Int32)))), (.double 0)] := V23
    have N23 := Fr.snoc X23 N22 g_b18
    refine m_aload K X23.here hx hby at_191 rfl rfl rfl ?_
    refine m_iconst K X23.here hx hby (5 : Int32) at_193 rfl rfl ?_
    refine m_aload K X23.here hx hby at_194 rfl rfl rfl ?_
    refine m_iconst K X23.here hx hby (5 : Int32) at_196 rfl rfl ?_
    refine k_ldJ K X23 hx hby hZ e23 (((((((V16.ext E17).ext E18).other W19 (Nat.ne_of_lt (Nat.lt_of_lt_of_le (Nat.lt_of_lt_of_le V_b4.lt (Nat.le_trans (Nat.le_trans (Nat.le_trans (Nat.le_trans (Nat.le_trans (Nat.le_trans (Nat.le_trans (Nat.le_refl _) (Keep.of_wr W6).1) (Keep.of_wr W8).1) (Keep.of_wr W10).1) (Keep.of_wr W12).1) (Keep.of_wr W14).1) (Keep.of_wr W16).1) E17.1)) (Nat.le_of_eq g18.symm)))).other W20 (Nat.ne_of_lt (Nat.lt_of_lt_of_le (Nat.lt_of_lt_of_le V_b4.lt (Nat.le_trans (Nat.le_trans (Nat.le_trans (Nat.le_trans (Nat.le_trans (Nat.le_trans (Nat.le_trans (Nat.le_refl _) (Keep.of_wr W6).1) (Keep.of_wr W8).1) (Keep.of_wr W10).1) (Keep.of_wr W12).1) (Keep.of_wr W14).1) (Keep.of_wr W16).1) E17.1)) (Nat.le_of_eq g18.symm)))).other W21 (Nat.ne_of_lt (Nat.lt_of_lt_of_le (Nat.lt_of_lt_of_le V_b4.lt (Nat.le_trans (Nat.le_trans (Nat.le_trans (Nat.le_trans (Nat.le_trans (Nat.le_trans (Nat.le_trans (Nat.le_refl _) (Keep.of_wr W6).1) (Keep.of_wr W8).1) (Keep.of_wr W10).1) (Keep.of_wr W12).1) (Keep.of_wr W14).1) (Keep.of_wr W16).1) E17.1)) (Nat.le_of_eq g18.symm)))).other W22 (Nat.ne_of_lt (Nat.lt_of_lt_of_le (Nat.lt_of_lt_of_le V_b4.lt (Nat.le_trans (Nat.le_trans (Nat.le_trans (Nat.le_trans (Nat.le_trans (Nat.le_trans (Nat.le_trans (Nat.le_refl _) (Keep.of_wr W6).1) (Keep.of_wr W8).1) (Keep.of_wr W10).1) (Keep.of_wr W12).1) (Keep.of_wr W14).1) (Keep.of_wr W16).1) E17.1)) (Nat.le_of_eq g18.symm)))).other W23 (Nat.ne_of_lt (Nat.lt_of_lt_of_le (Nat.lt_of_lt_of_le V_b4.lt (Nat.le_trans (Nat.le_trans (Nat.le_trans (Nat.le_trans (Nat.le_trans (Nat.le_trans (Nat.le_trans (Nat.le_refl _) (Keep.of_wr W6).1) (Keep.of_wr W8).1) (Keep.of_wr W10).1) (Keep.of_wr W12).1) (Keep.of_wr W14).1) (Keep.of_wr W16).1) E17.1)) (Nat.le_of_eq g18.symm)))) (v := (.long (FLD q4 (2 : Int32)))) (by decide) rfl at_197 rfl ?_
    refine m_l2d K X23.here hx hby (FP.l2d (FLD q4 (2 : Int32))) at_198 rfl rfl ?_
    refine k_stD K X23 hx hby hZ e23 V23 (by decide) (Nat.le_of_ble_eq_true rfl) at_199 rfl fun T24 h24 X24 e24 W24 V24 => ?_
    replace V24 : Av Z h24 b18 .double [(.double (FP.l2d (FLD q3 (0 : Int32)))), (.double (FP.l2d (FLD q3 (1 : Int32)))), (.double (FP.l2d (FLD q3 (2 : Int32)))), (.double (FP.l2d (FLD q4 (0 : Int32)))), (.double (FP.l2d (FLD q4 (1 : Int32)))), (.double (FP.l2d (FLD q4 (2 : Int32))))] := V24
    have N24 := Fr.snoc X24 N23 g_b18
    rcases own_o p1 with hs8 | hs8 | hs8 | hs8
    · rw [hs8]
      refine m_aload K X24.here hx hby at_200 rfl rfl rfl ?_
      refine m_aload K X24.here hx hby at_202 rfl rfl rfl ?_
      refine m_iload K X24.here hx hby at_204 rfl rfl ?_
      refine k_callS K X24 hx hby hZ [(.ref b17), (.ref b18), (.int (0 : Int32))] [] hown (hw _ (List.mem_of_getElem? (i := 8) rfl)) (hw _ (List.mem_of_getElem? (i := 9) rfl)) (hw _ (List.mem_of_getElem? (i := 10) rfl)) (hw _ (List.mem_of_getElem? (i := 11) rfl)) (c2_0_0 l Z a0 hw b17 b18 (FLD q3 (0 : Int32)) (FLD q3 (1 : Int32)) (FLD q3 (2 : Int32)) (FLD q4 (0 : Int32)) (FLD q4 (1 : Int32)) (FLD q4 (2 : Int32)) h24 n0 (Nat.le_trans Z0 (Nat.le_trans (Nat.le_trans (Nat.le_trans (Nat.le_trans (Nat.le_trans (Nat.le_trans (Nat.le_trans (Nat.le_trans (Nat.le_trans (Nat.le_trans (Nat.le_trans (Nat.le_trans (Nat.le_trans (Nat.le_trans (Nat.le_trans (Nat.le_refl _) E4.1) (Keep.of_wr W6).1) (Keep.of_wr W8).1) (Keep.of_wr W10).1) (Keep.of_wr W12).1) (Keep.of_wr W14).1) (Keep.of_wr W16).1) E17.1) E18.1) (Keep.of_wr W19).1) (Keep.of_wr W20).1) (Keep.of_wr W21).1) (Keep.of_wr W22).1) (Keep.of_wr W23).1) (Keep.of_wr W24).1)) (((((((V_b17.ext E18).other W19 (Nat.ne_of_lt (Nat.lt_of_lt_of_le (Nat.lt_of_lt_of_le V_b17.lt (Nat.le_refl _)) (Nat.le_of_eq g18.symm)))).other W20 (Nat.ne_of_lt (Nat.lt_of_lt_of_le (Nat.lt_of_lt_of_le V_b17.lt (Nat.le_refl _)) (Nat.le_of_eq g18.symm)))).other W21 (Nat.ne_of_lt (Nat.lt_of_lt_of_le (Nat.lt_of_lt_of_le V_b17.lt (Nat.le_refl _)) (Nat.le_of_eq g18.symm)))).other W22 (Nat.ne_of_lt (Nat.lt_of_lt_of_le (Nat.lt_of_lt_of_le V_b17.lt (Nat.le_refl _)) (Nat.le_of_eq g18.symm)))).other W23 (Nat.ne_of_lt (Nat.lt_of_lt_of_le (Nat.lt_of_lt_of_le V_b17.lt (Nat.le_refl _)) (Nat.le_of_eq g18.symm)))).other W24 (Nat.ne_of_lt (Nat.lt_of_lt_of_le (Nat.lt_of_lt_of_le V_b17.lt (Nat.le_refl _)) (Nat.le_of_eq g18.symm)))) V24) e24 rfl rfl pd_1 rfl at_206 (by rw [hml]; rfl) rfl (by decide) (by decide) (Nat.le_of_ble_eq_true rfl) (by decide) (by decide) fun v25 T25 L25 X25 q25 => ?_
      obtain ⟨rfl, e25, rfl⟩ := q25
      replace X25 := own_px X25
      refine k_some K (w := (.double (FP.l2d (SS_0_0 )))) ?_
      refine m_dstore K X25.here hx hby #[.val (.int p1), .val (.long q2), .second, .val (.long q3), .second, .val (.long q4), .second, .val (.int (0 : Int32)), .val (.int (0 : Int32)), .val (.long (FLD q2 (0 : Int32))), .second, .val (.long (FLD q2 (1 : Int32))), .second, .val (.long (FLD q2 (2 : Int32))), .second, .val (.ref b4), .val (.ref b17), .val (.ref b18), .val (.double (FP.l2d (SS_0_0 ))), .second, .unset, .unset] at_209 rfl rfl ?_
      refine m_lconst K X25.here hx hby (0 : Int64) at_211 rfl rfl ?_
      refine m_lstore K X25.here hx hby #[.val (.int p1), .val (.long q2), .second, .val (.long q3), .second, .val (.long q4), .second, .val (.int (0 : Int32)), .val (.int (0 : Int32)), .val (.long (FLD q2 (0 : Int32))), .second, .val (.long (FLD q2 (1 : Int32))), .second, .val (.long (FLD q2 (2 : Int32))), .second, .val (.ref b4), .val (.ref b17), .val (.ref b18), .val (.double (FP.l2d (SS_0_0 ))), .second, .val (.long (0 : Int64)), .second] at_212 rfl rfl ?_
      refine m_iload K X25.here hx hby at_214 rfl rfl ?_
      refine m_ifY K X25.here hx hby (q := 235) at_216 ((if0 _ _).trans (flt (by decide : ¬ ((0 : Int32) < (0 : Int32)))).2.2.2) (by decide) rfl ?_
      refine m_iload K X25.here hx hby at_235 rfl rfl ?_
      refine m_iconst K X25.here hx hby (1 : Int32) at_237 rfl rfl ?_
      refine m_icmpY K X25.here hx hby (q := 259) at_238 (flt (by decide : ¬ ((1 : Int32) < (0 : Int32)))).2.2.2 (by decide) rfl ?_
      refine m_iload K X25.here hx hby at_259 rfl rfl ?_
      refine m_iconst K X25.here hx hby (2 : Int32) at_261 rfl rfl ?_
      refine m_icmpY K X25.here hx hby (q := 283) at_262 (flt (by decide : ¬ ((2 : Int32) < (0 : Int32)))).2.2.2 (by decide) rfl ?_
      refine m_dload K X25.here hx hby at_283 rfl rfl ?_
      refine m_lload K X25.here hx hby at_285 rfl rfl ?_
      refine m_l2d K X25.here hx hby (FP.l2d (0 : Int64)) at_287 rfl rfl ?_
      refine m_dcmp K X25.here hx hby (0 : Int32) at_288 (dcmpV_eq rfl (nn_w rfl) _) rfl ?_
      refine m_ifN K X25.here hx hby (q := 292) at_289 ((if0 _ _).trans (teq (by decide : (0 : Int32) = (0 : Int32))).2) rfl ?_
      refine m_iconst K X25.here hx hby (1 : Int32) at_292 rfl rfl ?_
      refine m_goto K X25.here hx hby (q := 297) at_293 (by decide) rfl ?_
      exact Go.retN X25 hx hby hlk hret (by simp) at_297 (by decide) (by decide) (by decide) (⟨rfl, N24⟩)
    · rw [hs8]
      refine m_aload K X24.here hx hby at_200 rfl rfl rfl ?_
      refine m_aload K X24.here hx hby at_202 rfl rfl rfl ?_
      refine m_iload K X24.here hx hby at_204 rfl rfl ?_
      refine k_callS K X24 hx hby hZ [(.ref b17), (.ref b18), (.int (1 : Int32))] [] hown (hw _ (List.mem_of_getElem? (i := 8) rfl)) (hw _ (List.mem_of_getElem? (i := 9) rfl)) (hw _ (List.mem_of_getElem? (i := 10) rfl)) (hw _ (List.mem_of_getElem? (i := 11) rfl)) (c2_0_1 l Z a0 hw b17 b18 (FLD q3 (0 : Int32)) (FLD q3 (1 : Int32)) (FLD q3 (2 : Int32)) (FLD q4 (0 : Int32)) (FLD q4 (1 : Int32)) (FLD q4 (2 : Int32)) h24 n0 (Nat.le_trans Z0 (Nat.le_trans (Nat.le_trans (Nat.le_trans (Nat.le_trans (Nat.le_trans (Nat.le_trans (Nat.le_trans (Nat.le_trans (Nat.le_trans (Nat.le_trans (Nat.le_trans (Nat.le_trans (Nat.le_trans (Nat.le_trans (Nat.le_trans (Nat.le_refl _) E4.1) (Keep.of_wr W6).1) (Keep.of_wr W8).1) (Keep.of_wr W10).1) (Keep.of_wr W12).1) (Keep.of_wr W14).1) (Keep.of_wr W16).1) E17.1) E18.1) (Keep.of_wr W19).1) (Keep.of_wr W20).1) (Keep.of_wr W21).1) (Keep.of_wr W22).1) (Keep.of_wr W23).1) (Keep.of_wr W24).1)) (((((((V_b17.ext E18).other W19 (Nat.ne_of_lt (Nat.lt_of_lt_of_le (Nat.lt_of_lt_of_le V_b17.lt (Nat.le_refl _)) (Nat.le_of_eq g18.symm)))).other W20 (Nat.ne_of_lt (Nat.lt_of_lt_of_le (Nat.lt_of_lt_of_le V_b17.lt (Nat.le_refl _)) (Nat.le_of_eq g18.symm)))).other W21 (Nat.ne_of_lt (Nat.lt_of_lt_of_le (Nat.lt_of_lt_of_le V_b17.lt (Nat.le_refl _)) (Nat.le_of_eq g18.symm)))).other W22 (Nat.ne_of_lt (Nat.lt_of_lt_of_le (Nat.lt_of_lt_of_le V_b17.lt (Nat.le_refl _)) (Nat.le_of_eq g18.symm)))).other W23 (Nat.ne_of_lt (Nat.lt_of_lt_of_le (Nat.lt_of_lt_of_le V_b17.lt (Nat.le_refl _)) (Nat.le_of_eq g18.symm)))).other W24 (Nat.ne_of_lt (Nat.lt_of_lt_of_le (Nat.lt_of_lt_of_le V_b17.lt (Nat.le_refl _)) (Nat.le_of_eq g18.symm)))) V24) e24 rfl rfl pd_1 rfl at_206 (by rw [hml]; rfl) rfl (by decide) (by decide) (Nat.le_of_ble_eq_true rfl) (by decide) (by decide) fun v26 T26 L26 X26 q26 => ?_
      obtain ⟨rfl, e26, rfl⟩ := q26
      replace X26 := own_px X26
      refine k_some K (w := (.double (FP.l2d (SS_0_1 )))) ?_
      refine m_dstore K X26.here hx hby #[.val (.int p1), .val (.long q2), .second, .val (.long q3), .second, .val (.long q4), .second, .val (.int (0 : Int32)), .val (.int (1 : Int32)), .val (.long (FLD q2 (0 : Int32))), .second, .val (.long (FLD q2 (1 : Int32))), .second, .val (.long (FLD q2 (2 : Int32))), .second, .val (.ref b4), .val (.ref b17), .val (.ref b18), .val (.double (FP.l2d (SS_0_1 ))), .second, .unset, .unset] at_209 rfl rfl ?_
      refine m_lconst K X26.here hx hby (0 : Int64) at_211 rfl rfl ?_
      refine m_lstore K X26.here hx hby #[.val (.int p1), .val (.long q2), .second, .val (.long q3), .second, .val (.long q4), .second, .val (.int (0 : Int32)), .val (.int (1 : Int32)), .val (.long (FLD q2 (0 : Int32))), .second, .val (.long (FLD q2 (1 : Int32))), .second, .val (.long (FLD q2 (2 : Int32))), .second, .val (.ref b4), .val (.ref b17), .val (.ref b18), .val (.double (FP.l2d (SS_0_1 ))), .second, .val (.long (0 : Int64)), .second] at_212 rfl rfl ?_
      refine m_iload K X26.here hx hby at_214 rfl rfl ?_
      refine m_ifY K X26.here hx hby (q := 235) at_216 ((if0 _ _).trans (flt (by decide : ¬ ((0 : Int32) < (0 : Int32)))).2.2.2) (by decide) rfl ?_
      refine m_iload K X26.here hx hby at_235 rfl rfl ?_
      refine m_iconst K X26.here hx hby (1 : Int32) at_237 rfl rfl ?_
      refine m_icmpY K X26.here hx hby (q := 259) at_238 (flt (by decide : ¬ ((1 : Int32) < (0 : Int32)))).2.2.2 (by decide) rfl ?_
      refine m_iload K X26.here hx hby at_259 rfl rfl ?_
      refine m_iconst K X26.here hx hby (2 : Int32) at_261 rfl rfl ?_
      refine m_icmpY K X26.here hx hby (q := 283) at_262 (flt (by decide : ¬ ((2 : Int32) < (0 : Int32)))).2.2.2 (by decide) rfl ?_
      refine m_dload K X26.here hx hby at_283 rfl rfl ?_
      refine m_lload K X26.here hx hby at_285 rfl rfl ?_
      refine m_l2d K X26.here hx hby (FP.l2d (0 : Int64)) at_287 rfl rfl ?_
      refine m_dcmp K X26.here hx hby (0 : Int32) at_288 (dcmpV_eq rfl (nn_w rfl) _) rfl ?_
      refine m_ifN K X26.here hx hby (q := 292) at_289 ((if0 _ _).trans (teq (by decide : (0 : Int32) = (0 : Int32))).2) rfl ?_
      refine m_iconst K X26.here hx hby (1 : Int32) at_292 rfl rfl ?_
      refine m_goto K X26.here hx hby (q := 297) at_293 (by decide) rfl ?_
      exact Go.retN X26 hx hby hlk hret (by simp) at_297 (by decide) (by decide) (by decide) (⟨rfl, N24⟩)
    · rw [hs8]
      refine m_aload K X24.here hx hby at_200 rfl rfl rfl ?_
      refine m_aload K X24.here hx hby at_202 rfl rfl rfl ?_
      refine m_iload K X24.here hx hby at_204 rfl rfl ?_
      refine k_callS K X24 hx hby hZ [(.ref b17), (.ref b18), (.int (2 : Int32))] [] hown (hw _ (List.mem_of_getElem? (i := 8) rfl)) (hw _ (List.mem_of_getElem? (i := 9) rfl)) (hw _ (List.mem_of_getElem? (i := 10) rfl)) (hw _ (List.mem_of_getElem? (i := 11) rfl)) (c2_0_2 l Z a0 hw b17 b18 (FLD q3 (0 : Int32)) (FLD q3 (1 : Int32)) (FLD q3 (2 : Int32)) (FLD q4 (0 : Int32)) (FLD q4 (1 : Int32)) (FLD q4 (2 : Int32)) h24 n0 (Nat.le_trans Z0 (Nat.le_trans (Nat.le_trans (Nat.le_trans (Nat.le_trans (Nat.le_trans (Nat.le_trans (Nat.le_trans (Nat.le_trans (Nat.le_trans (Nat.le_trans (Nat.le_trans (Nat.le_trans (Nat.le_trans (Nat.le_trans (Nat.le_trans (Nat.le_refl _) E4.1) (Keep.of_wr W6).1) (Keep.of_wr W8).1) (Keep.of_wr W10).1) (Keep.of_wr W12).1) (Keep.of_wr W14).1) (Keep.of_wr W16).1) E17.1) E18.1) (Keep.of_wr W19).1) (Keep.of_wr W20).1) (Keep.of_wr W21).1) (Keep.of_wr W22).1) (Keep.of_wr W23).1) (Keep.of_wr W24).1)) (((((((V_b17.ext E18).other W19 (Nat.ne_of_lt (Nat.lt_of_lt_of_le (Nat.lt_of_lt_of_le V_b17.lt (Nat.le_refl _)) (Nat.le_of_eq g18.symm)))).other W20 (Nat.ne_of_lt (Nat.lt_of_lt_of_le (Nat.lt_of_lt_of_le V_b17.lt (Nat.le_refl _)) (Nat.le_of_eq g18.symm)))).other W21 (Nat.ne_of_lt (Nat.lt_of_lt_of_le (Nat.lt_of_lt_of_le V_b17.lt (Nat.le_refl _)) (Nat.le_of_eq g18.symm)))).other W22 (Nat.ne_of_lt (Nat.lt_of_lt_of_le (Nat.lt_of_lt_of_le V_b17.lt (Nat.le_refl _)) (Nat.le_of_eq g18.symm)))).other W23 (Nat.ne_of_lt (Nat.lt_of_lt_of_le (Nat.lt_of_lt_of_le V_b17.lt (Nat.le_refl _)) (Nat.le_of_eq g18.symm)))).other W24 (Nat.ne_of_lt (Nat.lt_of_lt_of_le (Nat.lt_of_lt_of_le V_b17.lt (Nat.le_refl _)) (Nat.le_of_eq g18.symm)))) V24) e24 rfl rfl pd_1 rfl at_206 (by rw [hml]; rfl) rfl (by decide) (by decide) (Nat.le_of_ble_eq_true rfl) (by decide) (by decide) fun v27 T27 L27 X27 q27 => ?_
      obtain ⟨rfl, e27, rfl⟩ := q27
      replace X27 := own_px X27
      refine k_some K (w := (.double (FP.l2d (SS_0_2 )))) ?_
      refine m_dstore K X27.here hx hby #[.val (.int p1), .val (.long q2), .second, .val (.long q3), .second, .val (.long q4), .second, .val (.int (0 : Int32)), .val (.int (2 : Int32)), .val (.long (FLD q2 (0 : Int32))), .second, .val (.long (FLD q2 (1 : Int32))), .second, .val (.long (FLD q2 (2 : Int32))), .second, .val (.ref b4), .val (.ref b17), .val (.ref b18), .val (.double (FP.l2d (SS_0_2 ))), .second, .unset, .unset] at_209 rfl rfl ?_
      refine m_lconst K X27.here hx hby (0 : Int64) at_211 rfl rfl ?_
      refine m_lstore K X27.here hx hby #[.val (.int p1), .val (.long q2), .second, .val (.long q3), .second, .val (.long q4), .second, .val (.int (0 : Int32)), .val (.int (2 : Int32)), .val (.long (FLD q2 (0 : Int32))), .second, .val (.long (FLD q2 (1 : Int32))), .second, .val (.long (FLD q2 (2 : Int32))), .second, .val (.ref b4), .val (.ref b17), .val (.ref b18), .val (.double (FP.l2d (SS_0_2 ))), .second, .val (.long (0 : Int64)), .second] at_212 rfl rfl ?_
      refine m_iload K X27.here hx hby at_214 rfl rfl ?_
      refine m_ifY K X27.here hx hby (q := 235) at_216 ((if0 _ _).trans (flt (by decide : ¬ ((0 : Int32) < (0 : Int32)))).2.2.2) (by decide) rfl ?_
      refine m_iload K X27.here hx hby at_235 rfl rfl ?_
      refine m_iconst K X27.here hx hby (1 : Int32) at_237 rfl rfl ?_
      refine m_icmpY K X27.here hx hby (q := 259) at_238 (flt (by decide : ¬ ((1 : Int32) < (0 : Int32)))).2.2.2 (by decide) rfl ?_
      refine m_iload K X27.here hx hby at_259 rfl rfl ?_
      refine m_iconst K X27.here hx hby (2 : Int32) at_261 rfl rfl ?_
      refine m_icmpY K X27.here hx hby (q := 283) at_262 (flt (by decide : ¬ ((2 : Int32) < (0 : Int32)))).2.2.2 (by decide) rfl ?_
      refine m_dload K X27.here hx hby at_283 rfl rfl ?_
      refine m_lload K X27.here hx hby at_285 rfl rfl ?_
      refine m_l2d K X27.here hx hby (FP.l2d (0 : Int64)) at_287 rfl rfl ?_
      refine m_dcmp K X27.here hx hby (0 : Int32) at_288 (dcmpV_eq rfl (nn_w rfl) _) rfl ?_
      refine m_ifN K X27.here hx hby (q := 292) at_289 ((if0 _ _).trans (teq (by decide : (0 : Int32) = (0 : Int32))).2) rfl ?_
      refine m_iconst K X27.here hx hby (1 : Int32) at_292 rfl rfl ?_
      refine m_goto K X27.here hx hby (q := 297) at_293 (by decide) rfl ?_
      exact Go.retN X27 hx hby hlk hret (by simp) at_297 (by decide) (by decide) (by decide) (⟨rfl, N24⟩)
    · rw [hs8]
      refine m_aload K X24.here hx hby at_200 rfl rfl rfl ?_
      refine m_aload K X24.here hx hby at_202 rfl rfl rfl ?_
      refine m_iload K X24.here hx hby at_204 rfl rfl ?_
      refine k_callS K X24 hx hby hZ [(.ref b17), (.ref b18), (.int (3 : Int32))] [] hown (hw _ (List.mem_of_getElem? (i := 8) rfl)) (hw _ (List.mem_of_getElem? (i := 9) rfl)) (hw _ (List.mem_of_getElem? (i := 10) rfl)) (hw _ (List.mem_of_getElem? (i := 11) rfl)) (c2_0_3 l Z a0 hw b17 b18 (FLD q3 (0 : Int32)) (FLD q3 (1 : Int32)) (FLD q3 (2 : Int32)) (FLD q4 (0 : Int32)) (FLD q4 (1 : Int32)) (FLD q4 (2 : Int32)) h24 n0 (Nat.le_trans Z0 (Nat.le_trans (Nat.le_trans (Nat.le_trans (Nat.le_trans (Nat.le_trans (Nat.le_trans (Nat.le_trans (Nat.le_trans (Nat.le_trans (Nat.le_trans (Nat.le_trans (Nat.le_trans (Nat.le_trans (Nat.le_trans (Nat.le_trans (Nat.le_refl _) E4.1) (Keep.of_wr W6).1) (Keep.of_wr W8).1) (Keep.of_wr W10).1) (Keep.of_wr W12).1) (Keep.of_wr W14).1) (Keep.of_wr W16).1) E17.1) E18.1) (Keep.of_wr W19).1) (Keep.of_wr W20).1) (Keep.of_wr W21).1) (Keep.of_wr W22).1) (Keep.of_wr W23).1) (Keep.of_wr W24).1)) (((((((V_b17.ext E18).other W19 (Nat.ne_of_lt (Nat.lt_of_lt_of_le (Nat.lt_of_lt_of_le V_b17.lt (Nat.le_refl _)) (Nat.le_of_eq g18.symm)))).other W20 (Nat.ne_of_lt (Nat.lt_of_lt_of_le (Nat.lt_of_lt_of_le V_b17.lt (Nat.le_refl _)) (Nat.le_of_eq g18.symm)))).other W21 (Nat.ne_of_lt (Nat.lt_of_lt_of_le (Nat.lt_of_lt_of_le V_b17.lt (Nat.le_refl _)) (Nat.le_of_eq g18.symm)))).other W22 (Nat.ne_of_lt (Nat.lt_of_lt_of_le (Nat.lt_of_lt_of_le V_b17.lt (Nat.le_refl _)) (Nat.le_of_eq g18.symm)))).other W23 (Nat.ne_of_lt (Nat.lt_of_lt_of_le (Nat.lt_of_lt_of_le V_b17.lt (Nat.le_refl _)) (Nat.le_of_eq g18.symm)))).other W24 (Nat.ne_of_lt (Nat.lt_of_lt_of_le (Nat.lt_of_lt_of_le V_b17.lt (Nat.le_refl _)) (Nat.le_of_eq g18.symm)))) V24) e24 rfl rfl pd_1 rfl at_206 (by rw [hml]; rfl) rfl (by decide) (by decide) (Nat.le_of_ble_eq_true rfl) (by decide) (by decide) fun v28 T28 L28 X28 q28 => ?_
      obtain ⟨rfl, e28, rfl⟩ := q28
      replace X28 := own_px X28
      refine k_some K (w := (.double (FP.l2d (SS_0_3 )))) ?_
      refine m_dstore K X28.here hx hby #[.val (.int p1), .val (.long q2), .second, .val (.long q3), .second, .val (.long q4), .second, .val (.int (0 : Int32)), .val (.int (3 : Int32)), .val (.long (FLD q2 (0 : Int32))), .second, .val (.long (FLD q2 (1 : Int32))), .second, .val (.long (FLD q2 (2 : Int32))), .second, .val (.ref b4), .val (.ref b17), .val (.ref b18), .val (.double (FP.l2d (SS_0_3 ))), .second, .unset, .unset] at_209 rfl rfl ?_
      refine m_lconst K X28.here hx hby (0 : Int64) at_211 rfl rfl ?_
      refine m_lstore K X28.here hx hby #[.val (.int p1), .val (.long q2), .second, .val (.long q3), .second, .val (.long q4), .second, .val (.int (0 : Int32)), .val (.int (3 : Int32)), .val (.long (FLD q2 (0 : Int32))), .second, .val (.long (FLD q2 (1 : Int32))), .second, .val (.long (FLD q2 (2 : Int32))), .second, .val (.ref b4), .val (.ref b17), .val (.ref b18), .val (.double (FP.l2d (SS_0_3 ))), .second, .val (.long (0 : Int64)), .second] at_212 rfl rfl ?_
      refine m_iload K X28.here hx hby at_214 rfl rfl ?_
      refine m_ifY K X28.here hx hby (q := 235) at_216 ((if0 _ _).trans (flt (by decide : ¬ ((0 : Int32) < (0 : Int32)))).2.2.2) (by decide) rfl ?_
      refine m_iload K X28.here hx hby at_235 rfl rfl ?_
      refine m_iconst K X28.here hx hby (1 : Int32) at_237 rfl rfl ?_
      refine m_icmpY K X28.here hx hby (q := 259) at_238 (flt (by decide : ¬ ((1 : Int32) < (0 : Int32)))).2.2.2 (by decide) rfl ?_
      refine m_iload K X28.here hx hby at_259 rfl rfl ?_
      refine m_iconst K X28.here hx hby (2 : Int32) at_261 rfl rfl ?_
      refine m_icmpY K X28.here hx hby (q := 283) at_262 (flt (by decide : ¬ ((2 : Int32) < (0 : Int32)))).2.2.2 (by decide) rfl ?_
      refine m_dload K X28.here hx hby at_283 rfl rfl ?_
      refine m_lload K X28.here hx hby at_285 rfl rfl ?_
      refine m_l2d K X28.here hx hby (FP.l2d (0 : Int64)) at_287 rfl rfl ?_
      refine m_dcmp K X28.here hx hby (0 : Int32) at_288 (dcmpV_eq rfl (nn_w rfl) _) rfl ?_
      refine m_ifN K X28.here hx hby (q := 292) at_289 ((if0 _ _).trans (teq (by decide : (0 : Int32) = (0 : Int32))).2) rfl ?_
      refine m_iconst K X28.here hx hby (1 : Int32) at_292 rfl rfl ?_
      refine m_goto K X28.here hx hby (q := 297) at_293 (by decide) rfl ?_
      exact Go.retN X28 hx hby hlk hret (by simp) at_297 (by decide) (by decide) (by decide) (⟨rfl, N24⟩)
  · rw [hs7]
    refine m_iload K X16.here hx hby at_96 rfl rfl ?_
    refine k_newP K X16 hx hby hZ 1 1 (hw _ (List.mem_of_getElem? (i := 7) rfl)) e16 at_98 rfl (by decide) rfl (by decide) (by decide) (by decide) (by decide) fun T29 h29 b29 X29 e29 E29 g29 V_b29 => ?_
    have sz_b29 : h0.size ≤ b29 := Nat.le_trans (Nat.le_trans (Nat.le_trans (Nat.le_trans (Nat.le_trans (Nat.le_trans (Nat.le_trans (Nat.le_trans (Nat.le_refl _) E4.1) (Keep.of_wr W6).1) (Keep.of_wr W8).1) (Keep.of_wr W10).1) (Keep.of_wr W12).1) (Keep.of_wr W14).1) (Keep.of_wr W16).1) (Nat.le_of_eq g29.symm)
    have g_b29 : n0 ≤ b29 := Nat.le_trans Z0 sz_b29
    replace V_b29 : Av Z h29 b29 .double [(.double 0)] := V_b29
    refine m_astore K X29.here hx hby #[.val (.int p1), .val (.long q2), .second, .val (.long q3), .second, .val (.long q4), .second, .val (.int (1 : Int32)), .val (.int ((w0_1 p1) &&& (3 : Int32))), .val (.long (FLD q2 (0 : Int32))), .second, .val (.long (FLD q2 (1 : Int32))), .second, .val (.long (FLD q2 (2 : Int32))), .second, .val (.ref b4), .val (.ref b29), .unset, .unset, .unset, .unset, .unset] at_100 rfl rfl rfl ?_
    refine m_iload K X29.here hx hby at_102 rfl rfl ?_
    refine m_ifN K X29.here hx hby (q := 107) at_104 ((if0 _ _).trans (tlt (by decide : (0 : Int32) < (1 : Int32))).2.2.2) rfl ?_
    refine m_aload K X29.here hx hby at_107 rfl rfl rfl ?_
    refine m_iconst K X29.here hx hby (0 : Int32) at_109 rfl rfl ?_
    refine m_lload K X29.here hx hby at_110 rfl rfl ?_
    refine m_l2d K X29.here hx hby (FP.l2d (FLD q2 (0 : Int32))) at_112 rfl rfl ?_
    refine k_stD K X29 hx hby hZ e29 V_b29 (by decide) (Nat.le_of_ble_eq_true rfl) at_113 rfl fun T30 h30 X30 e30 W30 V30 => ?_
    replace V30 : Av Z h30 b29 .double [(.double (FP.l2d (FLD q2 (0 : Int32))))] := V30
    have N30 := Fr.snoc X30 N16 g_b29
    refine m_iload K X30.here hx hby at_114 rfl rfl ?_
    refine m_iconst K X30.here hx hby (1 : Int32) at_116 rfl rfl ?_
    refine m_icmpY K X30.here hx hby (q := 127) at_117 (flt (by decide : ¬ ((1 : Int32) < (1 : Int32)))).2.2.2 (by decide) rfl ?_
    refine m_iload K X30.here hx hby at_127 rfl rfl ?_
    refine m_iconst K X30.here hx hby (2 : Int32) at_129 rfl rfl ?_
    refine m_icmpY K X30.here hx hby (q := 140) at_130 (flt (by decide : ¬ ((2 : Int32) < (1 : Int32)))).2.2.2 (by decide) rfl ?_
    refine m_bipush K X30.here hx hby (6 : Int32) at_140 rfl rfl ?_
    refine k_newP K X30 hx hby hZ 6 6 (hw _ (List.mem_of_getElem? (i := 7) rfl)) e30 at_142 rfl (by decide) rfl (by decide) (by decide) (by decide) (by decide) fun T31 h31 b31 X31 e31 E31 g31 V_b31 => ?_
    have sz_b31 : h0.size ≤ b31 := Nat.le_trans (Nat.le_trans (Nat.le_trans (Nat.le_trans (Nat.le_trans (Nat.le_trans (Nat.le_trans (Nat.le_trans (Nat.le_trans (Nat.le_trans (Nat.le_refl _) E4.1) (Keep.of_wr W6).1) (Keep.of_wr W8).1) (Keep.of_wr W10).1) (Keep.of_wr W12).1) (Keep.of_wr W14).1) (Keep.of_wr W16).1) E29.1) (Keep.of_wr W30).1) (Nat.le_of_eq g31.symm)
    have g_b31 : n0 ≤ b31 := Nat.le_trans Z0 sz_b31
    replace V_b31 : Av Z h31 b31 .double [(.double 0), (.double 0), (.double 0), (.double 0), (.double 0), (.double 0)] := V_b31
    refine m_astore K X31.here hx hby #[.val (.int p1), .val (.long q2), .second, .val (.long q3), .second, .val (.long q4), .second, .val (.int (1 : Int32)), .val (.int ((w0_1 p1) &&& (3 : Int32))), .val (.long (FLD q2 (0 : Int32))), .second, .val (.long (FLD q2 (1 : Int32))), .second, .val (.long (FLD q2 (2 : Int32))), .second, .val (.ref b4), .val (.ref b29), .val (.ref b31), .unset, .unset, .unset, .unset] at_144 rfl rfl rfl ?_
    refine m_aload K X31.here hx hby at_146 rfl rfl rfl ?_
    refine m_iconst K X31.here hx hby (0 : Int32) at_148 rfl rfl ?_
    refine m_aload K X31.here hx hby at_149 rfl rfl rfl ?_
    refine m_iconst K X31.here hx hby (0 : Int32) at_151 rfl rfl ?_
    refine k_ldJ K X31 hx hby hZ e31 (((V16.ext E29).other W30 (Nat.ne_of_lt (Nat.lt_of_lt_of_le (Nat.lt_of_lt_of_le V_b4.lt (Nat.le_trans (Nat.le_trans (Nat.le_trans (Nat.le_trans (Nat.le_trans (Nat.le_trans (Nat.le_refl _) (Keep.of_wr W6).1) (Keep.of_wr W8).1) (Keep.of_wr W10).1) (Keep.of_wr W12).1) (Keep.of_wr W14).1) (Keep.of_wr W16).1)) (Nat.le_of_eq g29.symm)))).ext E31) (v := (.long (FLD q3 (0 : Int32)))) (by decide) rfl at_152 rfl ?_
    refine m_l2d K X31.here hx hby (FP.l2d (FLD q3 (0 : Int32))) at_153 rfl rfl ?_
    refine k_stD K X31 hx hby hZ e31 V_b31 (by decide) (Nat.le_of_ble_eq_true rfl) at_154 rfl fun T32 h32 X32 e32 W32 V32 => ?_
    replace V32 : Av Z h32 b31 .double [(.double (FP.l2d (FLD q3 (0 : Int32)))), (.double 0), (.double 0), (.double 0), (.double 0), (.double 0)] := V32
    have N32 := Fr.snoc X32 N30 g_b31
    refine m_aload K X32.here hx hby at_155 rfl rfl rfl ?_
    refine m_iconst K X32.here hx hby (1 : Int32) at_157 rfl rfl ?_
    refine m_aload K X32.here hx hby at_158 rfl rfl rfl ?_
    refine m_iconst K X32.here hx hby (1 : Int32) at_160 rfl rfl ?_
    refine k_ldJ K X32 hx hby hZ e32 ((((V16.ext E29).other W30 (Nat.ne_of_lt (Nat.lt_of_lt_of_le (Nat.lt_of_lt_of_le V_b4.lt (Nat.le_trans (Nat.le_trans (Nat.le_trans (Nat.le_trans (Nat.le_trans (Nat.le_trans (Nat.le_refl _) (Keep.of_wr W6).1) (Keep.of_wr W8).1) (Keep.of_wr W10).1) (Keep.of_wr W12).1) (Keep.of_wr W14).1) (Keep.of_wr W16).1)) (Nat.le_of_eq g29.symm)))).ext E31).other W32 (Nat.ne_of_lt (Nat.lt_of_lt_of_le (Nat.lt_of_lt_of_le V_b4.lt (Nat.le_trans (Nat.le_trans (Nat.le_trans (Nat.le_trans (Nat.le_trans (Nat.le_trans (Nat.le_trans (Nat.le_trans (Nat.le_refl _) (Keep.of_wr W6).1) (Keep.of_wr W8).1) (Keep.of_wr W10).1) (Keep.of_wr W12).1) (Keep.of_wr W14).1) (Keep.of_wr W16).1) E29.1) (Keep.of_wr W30).1)) (Nat.le_of_eq g31.symm)))) (v := (.long (FLD q3 (1 : Int32)))) (by decide) rfl at_161 rfl ?_
    refine m_l2d K X32.here hx hby (FP.l2d (FLD q3 (1 : Int32))) at_162 rfl rfl ?_
    refine k_stD K X32 hx hby hZ e32 V32 (by decide) (Nat.le_of_ble_eq_true rfl) at_163 rfl fun T33 h33 X33 e33 W33 V33 => ?_
    replace V33 : Av Z h33 b31 .double [(.double (FP.l2d (FLD q3 (0 : Int32)))), (.double (FP.l2d (FLD q3 (1 : Int32)))), (.double 0), (.double 0), (.double 0), (.double 0)] := V33
    have N33 := Fr.snoc X33 N32 g_b31
    refine m_aload K X33.here hx hby at_164 rfl rfl rfl ?_
    refine m_iconst K X33.here hx hby (2 : Int32) at_166 rfl rfl ?_
    refine m_aload K X33.here hx hby at_167 rfl rfl rfl ?_
    refine m_iconst K X33.here hx hby (2 : Int32) at_169 rfl rfl ?_
    refine k_ldJ K X33 hx hby hZ e33 (((((V16.ext E29).other W30 (Nat.ne_of_lt (Nat.lt_of_lt_of_le (Nat.lt_of_lt_of_le V_b4.lt (Nat.le_trans (Nat.le_trans (Nat.le_trans (Nat.le_trans (Nat.le_trans (Nat.le_trans (Nat.le_refl _) (Keep.of_wr W6).1) (Keep.of_wr W8).1) (Keep.of_wr W10).1) (Keep.of_wr W12).1) (Keep.of_wr W14).1) (Keep.of_wr W16).1)) (Nat.le_of_eq g29.symm)))).ext E31).other W32 (Nat.ne_of_lt (Nat.lt_of_lt_of_le (Nat.lt_of_lt_of_le V_b4.lt (Nat.le_trans (Nat.le_trans (Nat.le_trans (Nat.le_trans (Nat.le_trans (Nat.le_trans (Nat.le_trans (Nat.le_trans (Nat.le_refl _) (Keep.of_wr W6).1) (Keep.of_wr W8).1) (Keep.of_wr W10).1) (Keep.of_wr W12).1) (Keep.of_wr W14).1) (Keep.of_wr W16).1) E29.1) (Keep.of_wr W30).1)) (Nat.le_of_eq g31.symm)))).other W33 (Nat.ne_of_lt (Nat.lt_of_lt_of_le (Nat.lt_of_lt_of_le V_b4.lt (Nat.le_trans (Nat.le_trans (Nat.le_trans (Nat.le_trans (Nat.le_trans (Nat.le_trans (Nat.le_trans (Nat.le_trans (Nat.le_refl _) (Keep.of_wr W6).1) (Keep.of_wr W8).1) (Keep.of_wr W10).1) (Keep.of_wr W12).1) (Keep.of_wr W14).1) (Keep.of_wr W16).1) E29.1) (Keep.of_wr W30).1)) (Nat.le_of_eq g31.symm)))) (v := (.long (FLD q3 (2 : Int32)))) (by decide) rfl at_170 rfl ?_
    refine m_l2d K X33.here hx hby (FP.l2d (FLD q3 (2 : Int32))) at_171 rfl rfl ?_
    refine k_stD K X33 hx hby hZ e33 V33 (by decide) (Nat.le_of_ble_eq_true rfl) at_172 rfl fun T34 h34 X34 e34 W34 V34 => ?_
    replace V34 : Av Z h34 b31 .double [(.double (FP.l2d (FLD q3 (0 : Int32)))), (.double (FP.l2d (FLD q3 (1 : Int32)))), (.double (FP.l2d (FLD q3 (2 : Int32)))), (.double 0), (.double 0), (.double 0)] := V34
    have N34 := Fr.snoc X34 N33 g_b31
    refine m_aload K X34.here hx hby at_173 rfl rfl rfl ?_
    refine m_iconst K X34.here hx hby (3 : Int32) at_175 rfl rfl ?_
    refine m_aload K X34.here hx hby at_176 rfl rfl rfl ?_
    refine m_iconst K X34.here hx hby (3 : Int32) at_178 rfl rfl ?_
    refine k_ldJ K X34 hx hby hZ e34 ((((((V16.ext E29).other W30 (Nat.ne_of_lt (Nat.lt_of_lt_of_le (Nat.lt_of_lt_of_le V_b4.lt (Nat.le_trans (Nat.le_trans (Nat.le_trans (Nat.le_trans (Nat.le_trans (Nat.le_trans (Nat.le_refl _) (Keep.of_wr W6).1) (Keep.of_wr W8).1) (Keep.of_wr W10).1) (Keep.of_wr W12).1) (Keep.of_wr W14).1) (Keep.of_wr W16).1)) (Nat.le_of_eq g29.symm)))).ext E31).other W32 (Nat.ne_of_lt (Nat.lt_of_lt_of_le (Nat.lt_of_lt_of_le V_b4.lt (Nat.le_trans (Nat.le_trans (Nat.le_trans (Nat.le_trans (Nat.le_trans (Nat.le_trans (Nat.le_trans (Nat.le_trans (Nat.le_refl _) (Keep.of_wr W6).1) (Keep.of_wr W8).1) (Keep.of_wr W10).1) (Keep.of_wr W12).1) (Keep.of_wr W14).1) (Keep.of_wr W16).1) E29.1) (Keep.of_wr W30).1)) (Nat.le_of_eq g31.symm)))).other W33 (Nat.ne_of_lt (Nat.lt_of_lt_of_le (Nat.lt_of_lt_of_le V_b4.lt (Nat.le_trans (Nat.le_trans (Nat.le_trans (Nat.le_trans (Nat.le_trans (Nat.le_trans (Nat.le_trans (Nat.le_trans (Nat.le_refl _) (Keep.of_wr W6).1) (Keep.of_wr W8).1) (Keep.of_wr W10).1) (Keep.of_wr W12).1) (Keep.of_wr W14).1) (Keep.of_wr W16).1) E29.1) (Keep.of_wr W30).1)) (Nat.le_of_eq g31.symm)))).other W34 (Nat.ne_of_lt (Nat.lt_of_lt_of_le (Nat.lt_of_lt_of_le V_b4.lt (Nat.le_trans (Nat.le_trans (Nat.le_trans (Nat.le_trans (Nat.le_trans (Nat.le_trans (Nat.le_trans (Nat.le_trans (Nat.le_refl _) (Keep.of_wr W6).1) (Keep.of_wr W8).1) (Keep.of_wr W10).1) (Keep.of_wr W12).1) (Keep.of_wr W14).1) (Keep.of_wr W16).1) E29.1) (Keep.of_wr W30).1)) (Nat.le_of_eq g31.symm)))) (v := (.long (FLD q4 (0 : Int32)))) (by decide) rfl at_179 rfl ?_
    refine m_l2d K X34.here hx hby (FP.l2d (FLD q4 (0 : Int32))) at_180 rfl rfl ?_
    refine k_stD K X34 hx hby hZ e34 V34 (by decide) (Nat.le_of_ble_eq_true rfl) at_181 rfl fun T35 h35 X35 e35 W35 V35 => ?_
    replace V35 : Av Z h35 b31 .double [(.double (FP.l2d (FLD q3 (0 : Int32)))), (.double (FP.l2d (FLD q3 (1 : Int32)))), (.double (FP.l2d (FLD q3 (2 : Int32)))), (.double (FP.l2d (FLD q4 (0 : Int32)))), (.double 0), (.double 0)] := V35
    have N35 := Fr.snoc X35 N34 g_b31
    refine m_aload K X35.here hx hby at_182 rfl rfl rfl ?_
    refine m_iconst K X35.here hx hby (4 : Int32) at_184 rfl rfl ?_
    refine m_aload K X35.here hx hby at_185 rfl rfl rfl ?_
    refine m_iconst K X35.here hx hby (4 : Int32) at_187 rfl rfl ?_
    refine k_ldJ K X35 hx hby hZ e35 (((((((V16.ext E29).other W30 (Nat.ne_of_lt (Nat.lt_of_lt_of_le (Nat.lt_of_lt_of_le V_b4.lt (Nat.le_trans (Nat.le_trans (Nat.le_trans (Nat.le_trans (Nat.le_trans (Nat.le_trans (Nat.le_refl _) (Keep.of_wr W6).1) (Keep.of_wr W8).1) (Keep.of_wr W10).1) (Keep.of_wr W12).1) (Keep.of_wr W14).1) (Keep.of_wr W16).1)) (Nat.le_of_eq g29.symm)))).ext E31).other W32 (Nat.ne_of_lt (Nat.lt_of_lt_of_le (Nat.lt_of_lt_of_le V_b4.lt (Nat.le_trans (Nat.le_trans (Nat.le_trans (Nat.le_trans (Nat.le_trans (Nat.le_trans (Nat.le_trans (Nat.le_trans (Nat.le_refl _) (Keep.of_wr W6).1) (Keep.of_wr W8).1) (Keep.of_wr W10).1) (Keep.of_wr W12).1) (Keep.of_wr W14).1) (Keep.of_wr W16).1) E29.1) (Keep.of_wr W30).1)) (Nat.le_of_eq g31.symm)))).other W33 (Nat.ne_of_lt (Nat.lt_of_lt_of_le (Nat.lt_of_lt_of_le V_b4.lt (Nat.le_trans (Nat.le_trans (Nat.le_trans (Nat.le_trans (Nat.le_trans (Nat.le_trans (Nat.le_trans (Nat.le_trans (Nat.le_refl _) (Keep.of_wr W6).1) (Keep.of_wr W8).1) (Keep.of_wr W10).1) (Keep.of_wr W12).1) (Keep.of_wr W14).1) (Keep.of_wr W16).1) E29.1) (Keep.of_wr W30).1)) (Nat.le_of_eq g31.symm)))).other W34 (Nat.ne_of_lt (Nat.lt_of_lt_of_le (Nat.lt_of_lt_of_le V_b4.lt (Nat.le_trans (Nat.le_trans (Nat.le_trans (Nat.le_trans (Nat.le_trans (Nat.le_trans (Nat.le_trans (Nat.le_trans (Nat.le_refl _) (Keep.of_wr W6).1) (Keep.of_wr W8).1) (Keep.of_wr W10).1) (Keep.of_wr W12).1) (Keep.of_wr W14).1) (Keep.of_wr W16).1) E29.1) (Keep.of_wr W30).1)) (Nat.le_of_eq g31.symm)))).other W35 (Nat.ne_of_lt (Nat.lt_of_lt_of_le (Nat.lt_of_lt_of_le V_b4.lt (Nat.le_trans (Nat.le_trans (Nat.le_trans (Nat.le_trans (Nat.le_trans (Nat.le_trans (Nat.le_trans (Nat.le_trans (Nat.le_refl _) (Keep.of_wr W6).1) (Keep.of_wr W8).1) (Keep.of_wr W10).1) (Keep.of_wr W12).1) (Keep.of_wr W14).1) (Keep.of_wr W16).1) E29.1) (Keep.of_wr W30).1)) (Nat.le_of_eq g31.symm)))) (v := (.long (FLD q4 (1 : Int32)))) (by decide) rfl at_188 rfl ?_
    refine m_l2d K X35.here hx hby (FP.l2d (FLD q4 (1 : Int32))) at_189 rfl rfl ?_
    refine k_stD K X35 hx hby hZ e35 V35 (by decide) (Nat.le_of_ble_eq_true rfl) at_190 rfl fun T36 h36 X36 e36 W36 V36 => ?_
    replace V36 : Av Z h36 b31 .double [(.double (FP.l2d (FLD q3 (0 : Int32)))), (.double (FP.l2d (FLD q3 (1 : Int32)))), (.double (FP.l2d (FLD q3 (2 : Int32)))), (.double (FP.l2d (FLD q4 (0 : Int32)))), (.double (FP.l2d (FLD q4 (1 : Int32)))), (.double 0)] := V36
    have N36 := Fr.snoc X36 N35 g_b31
    refine m_aload K X36.here hx hby at_191 rfl rfl rfl ?_
    refine m_iconst K X36.here hx hby (5 : Int32) at_193 rfl rfl ?_
    refine m_aload K X36.here hx hby at_194 rfl rfl rfl ?_
    refine m_iconst K X36.here hx hby (5 : Int32) at_196 rfl rfl ?_
    refine k_ldJ K X36 hx hby hZ e36 ((((((((V16.ext E29).other W30 (Nat.ne_of_lt (Nat.lt_of_lt_of_le (Nat.lt_of_lt_of_le V_b4.lt (Nat.le_trans (Nat.le_trans (Nat.le_trans (Nat.le_trans (Nat.le_trans (Nat.le_trans (Nat.le_refl _) (Keep.of_wr W6).1) (Keep.of_wr W8).1) (Keep.of_wr W10).1) (Keep.of_wr W12).1) (Keep.of_wr W14).1) (Keep.of_wr W16).1)) (Nat.le_of_eq g29.symm)))).ext E31).other W32 (Nat.ne_of_lt (Nat.lt_of_lt_of_le (Nat.lt_of_lt_of_le V_b4.lt (Nat.le_trans (Nat.le_trans (Nat.le_trans (Nat.le_trans (Nat.le_trans (Nat.le_trans (Nat.le_trans (Nat.le_trans (Nat.le_refl _) (Keep.of_wr W6).1) (Keep.of_wr W8).1) (Keep.of_wr W10).1) (Keep.of_wr W12).1) (Keep.of_wr W14).1) (Keep.of_wr W16).1) E29.1) (Keep.of_wr W30).1)) (Nat.le_of_eq g31.symm)))).other W33 (Nat.ne_of_lt (Nat.lt_of_lt_of_le (Nat.lt_of_lt_of_le V_b4.lt (Nat.le_trans (Nat.le_trans (Nat.le_trans (Nat.le_trans (Nat.le_trans (Nat.le_trans (Nat.le_trans (Nat.le_trans (Nat.le_refl _) (Keep.of_wr W6).1) (Keep.of_wr W8).1) (Keep.of_wr W10).1) (Keep.of_wr W12).1) (Keep.of_wr W14).1) (Keep.of_wr W16).1) E29.1) (Keep.of_wr W30).1)) (Nat.le_of_eq g31.symm)))).other W34 (Nat.ne_of_lt (Nat.lt_of_lt_of_le (Nat.lt_of_lt_of_le V_b4.lt (Nat.le_trans (Nat.le_trans (Nat.le_trans (Nat.le_trans (Nat.le_trans (Nat.le_trans (Nat.le_trans (Nat.le_trans (Nat.le_refl _) (Keep.of_wr W6).1) (Keep.of_wr W8).1) (Keep.of_wr W10).1) (Keep.of_wr W12).1) (Keep.of_wr W14).1) (Keep.of_wr W16).1) E29.1) (Keep.of_wr W30).1)) (Nat.le_of_eq g31.symm)))).other W35 (Nat.ne_of_lt (Nat.lt_of_lt_of_le (Nat.lt_of_lt_of_le V_b4.lt (Nat.le_trans (Nat.le_trans (Nat.le_trans (Nat.le_trans (Nat.le_trans (Nat.le_trans (Nat.le_trans (Nat.le_trans (Nat.le_refl _) (Keep.of_wr W6).1) (Keep.of_wr W8).1) (Keep.of_wr W10).1) (Keep.of_wr W12).1) (Keep.of_wr W14).1) (Keep.of_wr W16).1) E29.1) (Keep.of_wr W30).1)) (Nat.le_of_eq g31.symm)))).other W36 (Nat.ne_of_lt (Nat.lt_of_lt_of_le (Nat.lt_of_lt_of_le V_b4.lt (Nat.le_trans (Nat.le_trans (Nat.le_trans (Nat.le_trans (Nat.le_trans (Nat.le_trans (Nat.le_trans (Nat.le_trans (Nat.le_refl _) (Keep.of_wr W6).1) (Keep.of_wr W8).1) (Keep.of_wr W10).1) (Keep.of_wr W12).1) (Keep.of_wr W14).1) (Keep.of_wr W16).1) E29.1) (Keep.of_wr W30).1)) (Nat.le_of_eq g31.symm)))) (v := (.long (FLD q4 (2 : Int32)))) (by decide) rfl at_197 rfl ?_
    refine m_l2d K X36.here hx hby (FP.l2d (FLD q4 (2 : Int32))) at_198 rfl rfl ?_
    refine k_stD K X36 hx hby hZ e36 V36 (by decide) (Nat.le_of_ble_eq_true rfl) at_199 rfl fun T37 h37 X37 e37 W37 V37 => ?_
    replace V37 : Av Z h37 b31 .double [(.double (FP.l2d (FLD q3 (0 : Int32)))), (.double (FP.l2d (FLD q3 (1 : Int32)))), (.double (FP.l2d (FLD q3 (2 : Int32)))), (.double (FP.l2d (FLD q4 (0 : Int32)))), (.double (FP.l2d (FLD q4 (1 : Int32)))), (.double (FP.l2d (FLD q4 (2 : Int32))))] := V37
    have N37 := Fr.snoc X37 N36 g_b31
    rcases own_o p1 with hs8 | hs8 | hs8 | hs8
    · rw [hs8]
      refine m_aload K X37.here hx hby at_200 rfl rfl rfl ?_
      refine m_aload K X37.here hx hby at_202 rfl rfl rfl ?_
      refine m_iload K X37.here hx hby at_204 rfl rfl ?_
      refine k_callS K X37 hx hby hZ [(.ref b29), (.ref b31), (.int (0 : Int32))] [] hown (hw _ (List.mem_of_getElem? (i := 8) rfl)) (hw _ (List.mem_of_getElem? (i := 9) rfl)) (hw _ (List.mem_of_getElem? (i := 10) rfl)) (hw _ (List.mem_of_getElem? (i := 11) rfl)) (c2_1_0 l Z a0 hw b29 b31 (FLD q2 (0 : Int32)) (FLD q3 (0 : Int32)) (FLD q3 (1 : Int32)) (FLD q3 (2 : Int32)) (FLD q4 (0 : Int32)) (FLD q4 (1 : Int32)) (FLD q4 (2 : Int32)) h37 n0 (Nat.le_trans Z0 (Nat.le_trans (Nat.le_trans (Nat.le_trans (Nat.le_trans (Nat.le_trans (Nat.le_trans (Nat.le_trans (Nat.le_trans (Nat.le_trans (Nat.le_trans (Nat.le_trans (Nat.le_trans (Nat.le_trans (Nat.le_trans (Nat.le_trans (Nat.le_trans (Nat.le_refl _) E4.1) (Keep.of_wr W6).1) (Keep.of_wr W8).1) (Keep.of_wr W10).1) (Keep.of_wr W12).1) (Keep.of_wr W14).1) (Keep.of_wr W16).1) E29.1) (Keep.of_wr W30).1) E31.1) (Keep.of_wr W32).1) (Keep.of_wr W33).1) (Keep.of_wr W34).1) (Keep.of_wr W35).1) (Keep.of_wr W36).1) (Keep.of_wr W37).1)) (((((((V30.ext E31).other W32 (Nat.ne_of_lt (Nat.lt_of_lt_of_le (Nat.lt_of_lt_of_le V_b29.lt (Nat.le_trans (Nat.le_refl _) (Keep.of_wr W30).1)) (Nat.le_of_eq g31.symm)))).other W33 (Nat.ne_of_lt (Nat.lt_of_lt_of_le (Nat.lt_of_lt_of_le V_b29.lt (Nat.le_trans (Nat.le_refl _) (Keep.of_wr W30).1)) (Nat.le_of_eq g31.symm)))).other W34 (Nat.ne_of_lt (Nat.lt_of_lt_of_le (Nat.lt_of_lt_of_le V_b29.lt (Nat.le_trans (Nat.le_refl _) (Keep.of_wr W30).1)) (Nat.le_of_eq g31.symm)))).other W35 (Nat.ne_of_lt (Nat.lt_of_lt_of_le (Nat.lt_of_lt_of_le V_b29.lt (Nat.le_trans (Nat.le_refl _) (Keep.of_wr W30).1)) (Nat.le_of_eq g31.symm)))).other W36 (Nat.ne_of_lt (Nat.lt_of_lt_of_le (Nat.lt_of_lt_of_le V_b29.lt (Nat.le_trans (Nat.le_refl _) (Keep.of_wr W30).1)) (Nat.le_of_eq g31.symm)))).other W37 (Nat.ne_of_lt (Nat.lt_of_lt_of_le (Nat.lt_of_lt_of_le V_b29.lt (Nat.le_trans (Nat.le_refl _) (Keep.of_wr W30).1)) (Nat.le_of_eq g31.symm)))) V37 (own_fld q2 (0 : Int32)) (own_fld q3 (0 : Int32))) e37 rfl rfl pd_1 rfl at_206 (by rw [hml]; rfl) rfl (by decide) (by decide) (Nat.le_of_ble_eq_true rfl) (by decide) (by decide) fun v38 T38 L38 X38 q38 => ?_
      obtain ⟨rfl, e38, rfl⟩ := q38
      replace X38 := own_px X38
      refine k_some K (w := (.double (FP.l2d (SS_1_0 (FLD q2 (0 : Int32)) (FLD q3 (0 : Int32)))))) ?_
      refine m_dstore K X38.here hx hby #[.val (.int p1), .val (.long q2), .second, .val (.long q3), .second, .val (.long q4), .second, .val (.int (1 : Int32)), .val (.int (0 : Int32)), .val (.long (FLD q2 (0 : Int32))), .second, .val (.long (FLD q2 (1 : Int32))), .second, .val (.long (FLD q2 (2 : Int32))), .second, .val (.ref b4), .val (.ref b29), .val (.ref b31), .val (.double (FP.l2d (SS_1_0 (FLD q2 (0 : Int32)) (FLD q3 (0 : Int32))))), .second, .unset, .unset] at_209 rfl rfl ?_
      refine m_lconst K X38.here hx hby (0 : Int64) at_211 rfl rfl ?_
      refine m_lstore K X38.here hx hby #[.val (.int p1), .val (.long q2), .second, .val (.long q3), .second, .val (.long q4), .second, .val (.int (1 : Int32)), .val (.int (0 : Int32)), .val (.long (FLD q2 (0 : Int32))), .second, .val (.long (FLD q2 (1 : Int32))), .second, .val (.long (FLD q2 (2 : Int32))), .second, .val (.ref b4), .val (.ref b29), .val (.ref b31), .val (.double (FP.l2d (SS_1_0 (FLD q2 (0 : Int32)) (FLD q3 (0 : Int32))))), .second, .val (.long (0 : Int64)), .second] at_212 rfl rfl ?_
      refine m_iload K X38.here hx hby at_214 rfl rfl ?_
      refine m_ifN K X38.here hx hby (q := 219) at_216 ((if0 _ _).trans (tlt (by decide : (0 : Int32) < (1 : Int32))).2.2.2) rfl ?_
      refine m_lload K X38.here hx hby at_219 rfl rfl ?_
      refine m_lload K X38.here hx hby at_221 rfl rfl ?_
      refine m_aload K X38.here hx hby at_223 rfl rfl rfl ?_
      refine m_iload K X38.here hx hby at_225 rfl rfl ?_
      refine k_ldJ K X38 hx hby hZ e38 (((((((((V16.ext E29).other W30 (Nat.ne_of_lt (Nat.lt_of_lt_of_le (Nat.lt_of_lt_of_le V_b4.lt (Nat.le_trans (Nat.le_trans (Nat.le_trans (Nat.le_trans (Nat.le_trans (Nat.le_trans (Nat.le_refl _) (Keep.of_wr W6).1) (Keep.of_wr W8).1) (Keep.of_wr W10).1) (Keep.of_wr W12).1) (Keep.of_wr W14).1) (Keep.of_wr W16).1)) (Nat.le_of_eq g29.symm)))).ext E31).other W32 (Nat.ne_of_lt (Nat.lt_of_lt_of_le (Nat.lt_of_lt_of_le V_b4.lt (Nat.le_trans (Nat.le_trans (Nat.le_trans (Nat.le_trans (Nat.le_trans (Nat.le_trans (Nat.le_trans (Nat.le_trans (Nat.le_refl _) (Keep.of_wr W6).1) (Keep.of_wr W8).1) (Keep.of_wr W10).1) (Keep.of_wr W12).1) (Keep.of_wr W14).1) (Keep.of_wr W16).1) E29.1) (Keep.of_wr W30).1)) (Nat.le_of_eq g31.symm)))).other W33 (Nat.ne_of_lt (Nat.lt_of_lt_of_le (Nat.lt_of_lt_of_le V_b4.lt (Nat.le_trans (Nat.le_trans (Nat.le_trans (Nat.le_trans (Nat.le_trans (Nat.le_trans (Nat.le_trans (Nat.le_trans (Nat.le_refl _) (Keep.of_wr W6).1) (Keep.of_wr W8).1) (Keep.of_wr W10).1) (Keep.of_wr W12).1) (Keep.of_wr W14).1) (Keep.of_wr W16).1) E29.1) (Keep.of_wr W30).1)) (Nat.le_of_eq g31.symm)))).other W34 (Nat.ne_of_lt (Nat.lt_of_lt_of_le (Nat.lt_of_lt_of_le V_b4.lt (Nat.le_trans (Nat.le_trans (Nat.le_trans (Nat.le_trans (Nat.le_trans (Nat.le_trans (Nat.le_trans (Nat.le_trans (Nat.le_refl _) (Keep.of_wr W6).1) (Keep.of_wr W8).1) (Keep.of_wr W10).1) (Keep.of_wr W12).1) (Keep.of_wr W14).1) (Keep.of_wr W16).1) E29.1) (Keep.of_wr W30).1)) (Nat.le_of_eq g31.symm)))).other W35 (Nat.ne_of_lt (Nat.lt_of_lt_of_le (Nat.lt_of_lt_of_le V_b4.lt (Nat.le_trans (Nat.le_trans (Nat.le_trans (Nat.le_trans (Nat.le_trans (Nat.le_trans (Nat.le_trans (Nat.le_trans (Nat.le_refl _) (Keep.of_wr W6).1) (Keep.of_wr W8).1) (Keep.of_wr W10).1) (Keep.of_wr W12).1) (Keep.of_wr W14).1) (Keep.of_wr W16).1) E29.1) (Keep.of_wr W30).1)) (Nat.le_of_eq g31.symm)))).other W36 (Nat.ne_of_lt (Nat.lt_of_lt_of_le (Nat.lt_of_lt_of_le V_b4.lt (Nat.le_trans (Nat.le_trans (Nat.le_trans (Nat.le_trans (Nat.le_trans (Nat.le_trans (Nat.le_trans (Nat.le_trans (Nat.le_refl _) (Keep.of_wr W6).1) (Keep.of_wr W8).1) (Keep.of_wr W10).1) (Keep.of_wr W12).1) (Keep.of_wr W14).1) (Keep.of_wr W16).1) E29.1) (Keep.of_wr W30).1)) (Nat.le_of_eq g31.symm)))).other W37 (Nat.ne_of_lt (Nat.lt_of_lt_of_le (Nat.lt_of_lt_of_le V_b4.lt (Nat.le_trans (Nat.le_trans (Nat.le_trans (Nat.le_trans (Nat.le_trans (Nat.le_trans (Nat.le_trans (Nat.le_trans (Nat.le_refl _) (Keep.of_wr W6).1) (Keep.of_wr W8).1) (Keep.of_wr W10).1) (Keep.of_wr W12).1) (Keep.of_wr W14).1) (Keep.of_wr W16).1) E29.1) (Keep.of_wr W30).1)) (Nat.le_of_eq g31.symm)))) (v := (.long (FLD q3 (0 : Int32)))) (by decide) rfl at_227 rfl ?_
      refine m_lsub K X38.here hx hby (w0_2 q2 q3) at_228 rfl rfl ?_
      refine k_callS K X38 hx hby hZ [(.long (w0_2 q2 q3))] [(.long (0 : Int64))] hown (hw _ (List.mem_of_getElem? (i := 12) rfl)) (hw _ (List.mem_of_getElem? (i := 13) rfl)) (hw _ (List.mem_of_getElem? (i := 2) rfl)) (hw _ (List.mem_of_getElem? (i := 14) rfl)) (c3 l Z a0 hw (w0_2 q2 q3) h37 n0 (Nat.le_trans Z0 (Nat.le_trans (Nat.le_trans (Nat.le_trans (Nat.le_trans (Nat.le_trans (Nat.le_trans (Nat.le_trans (Nat.le_trans (Nat.le_trans (Nat.le_trans (Nat.le_trans (Nat.le_trans (Nat.le_trans (Nat.le_trans (Nat.le_trans (Nat.le_trans (Nat.le_refl _) E4.1) (Keep.of_wr W6).1) (Keep.of_wr W8).1) (Keep.of_wr W10).1) (Keep.of_wr W12).1) (Keep.of_wr W14).1) (Keep.of_wr W16).1) E29.1) (Keep.of_wr W30).1) E31.1) (Keep.of_wr W32).1) (Keep.of_wr W33).1) (Keep.of_wr W34).1) (Keep.of_wr W35).1) (Keep.of_wr W36).1) (Keep.of_wr W37).1))) e38 rfl rfl pd_2 rfl at_229 (by rw [hml]; rfl) rfl (by decide) (by decide) (Nat.le_of_ble_eq_true rfl) (by decide) (by decide) fun v39 T39 L39 X39 q39 => ?_
      obtain ⟨rfl, e39, rfl⟩ := q39
      replace X39 := own_px X39
      refine k_some K (w := (.long (SQ (w0_2 q2 q3)))) ?_
      refine m_ladd K X39.here hx hby ((0 : Int64) + (SQ (w0_2 q2 q3))) at_232 rfl rfl ?_
      refine m_lstore K X39.here hx hby #[.val (.int p1), .val (.long q2), .second, .val (.long q3), .second, .val (.long q4), .second, .val (.int (1 : Int32)), .val (.int (0 : Int32)), .val (.long (FLD q2 (0 : Int32))), .second, .val (.long (FLD q2 (1 : Int32))), .second, .val (.long (FLD q2 (2 : Int32))), .second, .val (.ref b4), .val (.ref b29), .val (.ref b31), .val (.double (FP.l2d (SS_1_0 (FLD q2 (0 : Int32)) (FLD q3 (0 : Int32))))), .second, .val (.long ((0 : Int64) + (SQ (w0_2 q2 q3)))), .second] at_233 rfl rfl ?_
      refine m_iload K X39.here hx hby at_235 rfl rfl ?_
      refine m_iconst K X39.here hx hby (1 : Int32) at_237 rfl rfl ?_
      refine m_icmpY K X39.here hx hby (q := 259) at_238 (flt (by decide : ¬ ((1 : Int32) < (1 : Int32)))).2.2.2 (by decide) rfl ?_
      refine m_iload K X39.here hx hby at_259 rfl rfl ?_
      refine m_iconst K X39.here hx hby (2 : Int32) at_261 rfl rfl ?_
      refine m_icmpY K X39.here hx hby (q := 283) at_262 (flt (by decide : ¬ ((2 : Int32) < (1 : Int32)))).2.2.2 (by decide) rfl ?_
      refine m_dload K X39.here hx hby at_283 rfl rfl ?_
      refine m_lload K X39.here hx hby at_285 rfl rfl ?_
      refine m_l2d K X39.here hx hby (FP.l2d ((0 : Int64) + (SQ (w0_2 q2 q3)))) at_287 rfl rfl ?_
      refine m_dcmp K X39.here hx hby (0 : Int32) at_288 (dcmpV_eq rfl (nn_w rfl) _) rfl ?_
      refine m_ifN K X39.here hx hby (q := 292) at_289 ((if0 _ _).trans (teq (by decide : (0 : Int32) = (0 : Int32))).2) rfl ?_
      refine m_iconst K X39.here hx hby (1 : Int32) at_292 rfl rfl ?_
      refine m_goto K X39.here hx hby (q := 297) at_293 (by decide) rfl ?_
      exact Go.retN X39 hx hby hlk hret (by simp) at_297 (by decide) (by decide) (by decide) (⟨rfl, N37⟩)
    · rw [hs8]
      refine m_aload K X37.here hx hby at_200 rfl rfl rfl ?_
      refine m_aload K X37.here hx hby at_202 rfl rfl rfl ?_
      refine m_iload K X37.here hx hby at_204 rfl rfl ?_
      refine k_callS K X37 hx hby hZ [(.ref b29), (.ref b31), (.int (1 : Int32))] [] hown (hw _ (List.mem_of_getElem? (i := 8) rfl)) (hw _ (List.mem_of_getElem? (i := 9) rfl)) (hw _ (List.mem_of_getElem? (i := 10) rfl)) (hw _ (List.mem_of_getElem? (i := 11) rfl)) (c2_1_1 l Z a0 hw b29 b31 (FLD q2 (0 : Int32)) (FLD q3 (0 : Int32)) (FLD q3 (1 : Int32)) (FLD q3 (2 : Int32)) (FLD q4 (0 : Int32)) (FLD q4 (1 : Int32)) (FLD q4 (2 : Int32)) h37 n0 (Nat.le_trans Z0 (Nat.le_trans (Nat.le_trans (Nat.le_trans (Nat.le_trans (Nat.le_trans (Nat.le_trans (Nat.le_trans (Nat.le_trans (Nat.le_trans (Nat.le_trans (Nat.le_trans (Nat.le_trans (Nat.le_trans (Nat.le_trans (Nat.le_trans (Nat.le_trans (Nat.le_refl _) E4.1) (Keep.of_wr W6).1) (Keep.of_wr W8).1) (Keep.of_wr W10).1) (Keep.of_wr W12).1) (Keep.of_wr W14).1) (Keep.of_wr W16).1) E29.1) (Keep.of_wr W30).1) E31.1) (Keep.of_wr W32).1) (Keep.of_wr W33).1) (Keep.of_wr W34).1) (Keep.of_wr W35).1) (Keep.of_wr W36).1) (Keep.of_wr W37).1)) (((((((V30.ext E31).other W32 (Nat.ne_of_lt (Nat.lt_of_lt_of_le (Nat.lt_of_lt_of_le V_b29.lt (Nat.le_trans (Nat.le_refl _) (Keep.of_wr W30).1)) (Nat.le_of_eq g31.symm)))).other W33 (Nat.ne_of_lt (Nat.lt_of_lt_of_le (Nat.lt_of_lt_of_le V_b29.lt (Nat.le_trans (Nat.le_refl _) (Keep.of_wr W30).1)) (Nat.le_of_eq g31.symm)))).other W34 (Nat.ne_of_lt (Nat.lt_of_lt_of_le (Nat.lt_of_lt_of_le V_b29.lt (Nat.le_trans (Nat.le_refl _) (Keep.of_wr W30).1)) (Nat.le_of_eq g31.symm)))).other W35 (Nat.ne_of_lt (Nat.lt_of_lt_of_le (Nat.lt_of_lt_of_le V_b29.lt (Nat.le_trans (Nat.le_refl _) (Keep.of_wr W30).1)) (Nat.le_of_eq g31.symm)))).other W36 (Nat.ne_of_lt (Nat.lt_of_lt_of_le (Nat.lt_of_lt_of_le V_b29.lt (Nat.le_trans (Nat.le_refl _) (Keep.of_wr W30).1)) (Nat.le_of_eq g31.symm)))).other W37 (Nat.ne_of_lt (Nat.lt_of_lt_of_le (Nat.lt_of_lt_of_le V_b29.lt (Nat.le_trans (Nat.le_refl _) (Keep.of_wr W30).1)) (Nat.le_of_eq g31.symm)))) V37 (own_fld q2 (0 : Int32)) (own_fld q3 (1 : Int32))) e37 rfl rfl pd_1 rfl at_206 (by rw [hml]; rfl) rfl (by decide) (by decide) (Nat.le_of_ble_eq_true rfl) (by decide) (by decide) fun v40 T40 L40 X40 q40 => ?_
      obtain ⟨rfl, e40, rfl⟩ := q40
      replace X40 := own_px X40
      refine k_some K (w := (.double (FP.l2d (SS_1_1 (FLD q2 (0 : Int32)) (FLD q3 (1 : Int32)))))) ?_
      refine m_dstore K X40.here hx hby #[.val (.int p1), .val (.long q2), .second, .val (.long q3), .second, .val (.long q4), .second, .val (.int (1 : Int32)), .val (.int (1 : Int32)), .val (.long (FLD q2 (0 : Int32))), .second, .val (.long (FLD q2 (1 : Int32))), .second, .val (.long (FLD q2 (2 : Int32))), .second, .val (.ref b4), .val (.ref b29), .val (.ref b31), .val (.double (FP.l2d (SS_1_1 (FLD q2 (0 : Int32)) (FLD q3 (1 : Int32))))), .second, .unset, .unset] at_209 rfl rfl ?_
      refine m_lconst K X40.here hx hby (0 : Int64) at_211 rfl rfl ?_
      refine m_lstore K X40.here hx hby #[.val (.int p1), .val (.long q2), .second, .val (.long q3), .second, .val (.long q4), .second, .val (.int (1 : Int32)), .val (.int (1 : Int32)), .val (.long (FLD q2 (0 : Int32))), .second, .val (.long (FLD q2 (1 : Int32))), .second, .val (.long (FLD q2 (2 : Int32))), .second, .val (.ref b4), .val (.ref b29), .val (.ref b31), .val (.double (FP.l2d (SS_1_1 (FLD q2 (0 : Int32)) (FLD q3 (1 : Int32))))), .second, .val (.long (0 : Int64)), .second] at_212 rfl rfl ?_
      refine m_iload K X40.here hx hby at_214 rfl rfl ?_
      refine m_ifN K X40.here hx hby (q := 219) at_216 ((if0 _ _).trans (tlt (by decide : (0 : Int32) < (1 : Int32))).2.2.2) rfl ?_
      refine m_lload K X40.here hx hby at_219 rfl rfl ?_
      refine m_lload K X40.here hx hby at_221 rfl rfl ?_
      refine m_aload K X40.here hx hby at_223 rfl rfl rfl ?_
      refine m_iload K X40.here hx hby at_225 rfl rfl ?_
      refine k_ldJ K X40 hx hby hZ e40 (((((((((V16.ext E29).other W30 (Nat.ne_of_lt (Nat.lt_of_lt_of_le (Nat.lt_of_lt_of_le V_b4.lt (Nat.le_trans (Nat.le_trans (Nat.le_trans (Nat.le_trans (Nat.le_trans (Nat.le_trans (Nat.le_refl _) (Keep.of_wr W6).1) (Keep.of_wr W8).1) (Keep.of_wr W10).1) (Keep.of_wr W12).1) (Keep.of_wr W14).1) (Keep.of_wr W16).1)) (Nat.le_of_eq g29.symm)))).ext E31).other W32 (Nat.ne_of_lt (Nat.lt_of_lt_of_le (Nat.lt_of_lt_of_le V_b4.lt (Nat.le_trans (Nat.le_trans (Nat.le_trans (Nat.le_trans (Nat.le_trans (Nat.le_trans (Nat.le_trans (Nat.le_trans (Nat.le_refl _) (Keep.of_wr W6).1) (Keep.of_wr W8).1) (Keep.of_wr W10).1) (Keep.of_wr W12).1) (Keep.of_wr W14).1) (Keep.of_wr W16).1) E29.1) (Keep.of_wr W30).1)) (Nat.le_of_eq g31.symm)))).other W33 (Nat.ne_of_lt (Nat.lt_of_lt_of_le (Nat.lt_of_lt_of_le V_b4.lt (Nat.le_trans (Nat.le_trans (Nat.le_trans (Nat.le_trans (Nat.le_trans (Nat.le_trans (Nat.le_trans (Nat.le_trans (Nat.le_refl _) (Keep.of_wr W6).1) (Keep.of_wr W8).1) (Keep.of_wr W10).1) (Keep.of_wr W12).1) (Keep.of_wr W14).1) (Keep.of_wr W16).1) E29.1) (Keep.of_wr W30).1)) (Nat.le_of_eq g31.symm)))).other W34 (Nat.ne_of_lt (Nat.lt_of_lt_of_le (Nat.lt_of_lt_of_le V_b4.lt (Nat.le_trans (Nat.le_trans (Nat.le_trans (Nat.le_trans (Nat.le_trans (Nat.le_trans (Nat.le_trans (Nat.le_trans (Nat.le_refl _) (Keep.of_wr W6).1) (Keep.of_wr W8).1) (Keep.of_wr W10).1) (Keep.of_wr W12).1) (Keep.of_wr W14).1) (Keep.of_wr W16).1) E29.1) (Keep.of_wr W30).1)) (Nat.le_of_eq g31.symm)))).other W35 (Nat.ne_of_lt (Nat.lt_of_lt_of_le (Nat.lt_of_lt_of_le V_b4.lt (Nat.le_trans (Nat.le_trans (Nat.le_trans (Nat.le_trans (Nat.le_trans (Nat.le_trans (Nat.le_trans (Nat.le_trans (Nat.le_refl _) (Keep.of_wr W6).1) (Keep.of_wr W8).1) (Keep.of_wr W10).1) (Keep.of_wr W12).1) (Keep.of_wr W14).1) (Keep.of_wr W16).1) E29.1) (Keep.of_wr W30).1)) (Nat.le_of_eq g31.symm)))).other W36 (Nat.ne_of_lt (Nat.lt_of_lt_of_le (Nat.lt_of_lt_of_le V_b4.lt (Nat.le_trans (Nat.le_trans (Nat.le_trans (Nat.le_trans (Nat.le_trans (Nat.le_trans (Nat.le_trans (Nat.le_trans (Nat.le_refl _) (Keep.of_wr W6).1) (Keep.of_wr W8).1) (Keep.of_wr W10).1) (Keep.of_wr W12).1) (Keep.of_wr W14).1) (Keep.of_wr W16).1) E29.1) (Keep.of_wr W30).1)) (Nat.le_of_eq g31.symm)))).other W37 (Nat.ne_of_lt (Nat.lt_of_lt_of_le (Nat.lt_of_lt_of_le V_b4.lt (Nat.le_trans (Nat.le_trans (Nat.le_trans (Nat.le_trans (Nat.le_trans (Nat.le_trans (Nat.le_trans (Nat.le_trans (Nat.le_refl _) (Keep.of_wr W6).1) (Keep.of_wr W8).1) (Keep.of_wr W10).1) (Keep.of_wr W12).1) (Keep.of_wr W14).1) (Keep.of_wr W16).1) E29.1) (Keep.of_wr W30).1)) (Nat.le_of_eq g31.symm)))) (v := (.long (FLD q3 (1 : Int32)))) (by decide) rfl at_227 rfl ?_
      refine m_lsub K X40.here hx hby (w0_3 q2 q3) at_228 rfl rfl ?_
      refine k_callS K X40 hx hby hZ [(.long (w0_3 q2 q3))] [(.long (0 : Int64))] hown (hw _ (List.mem_of_getElem? (i := 12) rfl)) (hw _ (List.mem_of_getElem? (i := 13) rfl)) (hw _ (List.mem_of_getElem? (i := 2) rfl)) (hw _ (List.mem_of_getElem? (i := 14) rfl)) (c3 l Z a0 hw (w0_3 q2 q3) h37 n0 (Nat.le_trans Z0 (Nat.le_trans (Nat.le_trans (Nat.le_trans (Nat.le_trans (Nat.le_trans (Nat.le_trans (Nat.le_trans (Nat.le_trans (Nat.le_trans (Nat.le_trans (Nat.le_trans (Nat.le_trans (Nat.le_trans (Nat.le_trans (Nat.le_trans (Nat.le_trans (Nat.le_refl _) E4.1) (Keep.of_wr W6).1) (Keep.of_wr W8).1) (Keep.of_wr W10).1) (Keep.of_wr W12).1) (Keep.of_wr W14).1) (Keep.of_wr W16).1) E29.1) (Keep.of_wr W30).1) E31.1) (Keep.of_wr W32).1) (Keep.of_wr W33).1) (Keep.of_wr W34).1) (Keep.of_wr W35).1) (Keep.of_wr W36).1) (Keep.of_wr W37).1))) e40 rfl rfl pd_2 rfl at_229 (by rw [hml]; rfl) rfl (by decide) (by decide) (Nat.le_of_ble_eq_true rfl) (by decide) (by decide) fun v41 T41 L41 X41 q41 => ?_
      obtain ⟨rfl, e41, rfl⟩ := q41
      replace X41 := own_px X41
      refine k_some K (w := (.long (SQ (w0_3 q2 q3)))) ?_
      refine m_ladd K X41.here hx hby ((0 : Int64) + (SQ (w0_3 q2 q3))) at_232 rfl rfl ?_
      refine m_lstore K X41.here hx hby #[.val (.int p1), .val (.long q2), .second, .val (.long q3), .second, .val (.long q4), .second, .val (.int (1 : Int32)), .val (.int (1 : Int32)), .val (.long (FLD q2 (0 : Int32))), .second, .val (.long (FLD q2 (1 : Int32))), .second, .val (.long (FLD q2 (2 : Int32))), .second, .val (.ref b4), .val (.ref b29), .val (.ref b31), .val (.double (FP.l2d (SS_1_1 (FLD q2 (0 : Int32)) (FLD q3 (1 : Int32))))), .second, .val (.long ((0 : Int64) + (SQ (w0_3 q2 q3)))), .second] at_233 rfl rfl ?_
      refine m_iload K X41.here hx hby at_235 rfl rfl ?_
      refine m_iconst K X41.here hx hby (1 : Int32) at_237 rfl rfl ?_
      refine m_icmpY K X41.here hx hby (q := 259) at_238 (flt (by decide : ¬ ((1 : Int32) < (1 : Int32)))).2.2.2 (by decide) rfl ?_
      refine m_iload K X41.here hx hby at_259 rfl rfl ?_
      refine m_iconst K X41.here hx hby (2 : Int32) at_261 rfl rfl ?_
      refine m_icmpY K X41.here hx hby (q := 283) at_262 (flt (by decide : ¬ ((2 : Int32) < (1 : Int32)))).2.2.2 (by decide) rfl ?_
      refine m_dload K X41.here hx hby at_283 rfl rfl ?_
      refine m_lload K X41.here hx hby at_285 rfl rfl ?_
      refine m_l2d K X41.here hx hby (FP.l2d ((0 : Int64) + (SQ (w0_3 q2 q3)))) at_287 rfl rfl ?_
      refine m_dcmp K X41.here hx hby (0 : Int32) at_288 (dcmpV_eq rfl (nn_w rfl) _) rfl ?_
      refine m_ifN K X41.here hx hby (q := 292) at_289 ((if0 _ _).trans (teq (by decide : (0 : Int32) = (0 : Int32))).2) rfl ?_
      refine m_iconst K X41.here hx hby (1 : Int32) at_292 rfl rfl ?_
      refine m_goto K X41.here hx hby (q := 297) at_293 (by decide) rfl ?_
      exact Go.retN X41 hx hby hlk hret (by simp) at_297 (by decide) (by decide) (by decide) (⟨rfl, N37⟩)
    · rw [hs8]
      refine m_aload K X37.here hx hby at_200 rfl rfl rfl ?_
      refine m_aload K X37.here hx hby at_202 rfl rfl rfl ?_
      refine m_iload K X37.here hx hby at_204 rfl rfl ?_
      refine k_callS K X37 hx hby hZ [(.ref b29), (.ref b31), (.int (2 : Int32))] [] hown (hw _ (List.mem_of_getElem? (i := 8) rfl)) (hw _ (List.mem_of_getElem? (i := 9) rfl)) (hw _ (List.mem_of_getElem? (i := 10) rfl)) (hw _ (List.mem_of_getElem? (i := 11) rfl)) (c2_1_2 l Z a0 hw b29 b31 (FLD q2 (0 : Int32)) (FLD q3 (0 : Int32)) (FLD q3 (1 : Int32)) (FLD q3 (2 : Int32)) (FLD q4 (0 : Int32)) (FLD q4 (1 : Int32)) (FLD q4 (2 : Int32)) h37 n0 (Nat.le_trans Z0 (Nat.le_trans (Nat.le_trans (Nat.le_trans (Nat.le_trans (Nat.le_trans (Nat.le_trans (Nat.le_trans (Nat.le_trans (Nat.le_trans (Nat.le_trans (Nat.le_trans (Nat.le_trans (Nat.le_trans (Nat.le_trans (Nat.le_trans (Nat.le_trans (Nat.le_refl _) E4.1) (Keep.of_wr W6).1) (Keep.of_wr W8).1) (Keep.of_wr W10).1) (Keep.of_wr W12).1) (Keep.of_wr W14).1) (Keep.of_wr W16).1) E29.1) (Keep.of_wr W30).1) E31.1) (Keep.of_wr W32).1) (Keep.of_wr W33).1) (Keep.of_wr W34).1) (Keep.of_wr W35).1) (Keep.of_wr W36).1) (Keep.of_wr W37).1)) (((((((V30.ext E31).other W32 (Nat.ne_of_lt (Nat.lt_of_lt_of_le (Nat.lt_of_lt_of_le V_b29.lt (Nat.le_trans (Nat.le_refl _) (Keep.of_wr W30).1)) (Nat.le_of_eq g31.symm)))).other W33 (Nat.ne_of_lt (Nat.lt_of_lt_of_le (Nat.lt_of_lt_of_le V_b29.lt (Nat.le_trans (Nat.le_refl _) (Keep.of_wr W30).1)) (Nat.le_of_eq g31.symm)))).other W34 (Nat.ne_of_lt (Nat.lt_of_lt_of_le (Nat.lt_of_lt_of_le V_b29.lt (Nat.le_trans (Nat.le_refl _) (Keep.of_wr W30).1)) (Nat.le_of_eq g31.symm)))).other W35 (Nat.ne_of_lt (Nat.lt_of_lt_of_le (Nat.lt_of_lt_of_le V_b29.lt (Nat.le_trans (Nat.le_refl _) (Keep.of_wr W30).1)) (Nat.le_of_eq g31.symm)))).other W36 (Nat.ne_of_lt (Nat.lt_of_lt_of_le (Nat.lt_of_lt_of_le V_b29.lt (Nat.le_trans (Nat.le_refl _) (Keep.of_wr W30).1)) (Nat.le_of_eq g31.symm)))).other W37 (Nat.ne_of_lt (Nat.lt_of_lt_of_le (Nat.lt_of_lt_of_le V_b29.lt (Nat.le_trans (Nat.le_refl _) (Keep.of_wr W30).1)) (Nat.le_of_eq g31.symm)))) V37 (own_fld q2 (0 : Int32)) (own_fld q3 (2 : Int32))) e37 rfl rfl pd_1 rfl at_206 (by rw [hml]; rfl) rfl (by decide) (by decide) (Nat.le_of_ble_eq_true rfl) (by decide) (by decide) fun v42 T42 L42 X42 q42 => ?_
      obtain ⟨rfl, e42, rfl⟩ := q42
      replace X42 := own_px X42
      refine k_some K (w := (.double (FP.l2d (SS_1_2 (FLD q2 (0 : Int32)) (FLD q3 (2 : Int32)))))) ?_
      refine m_dstore K X42.here hx hby #[.val (.int p1), .val (.long q2), .second, .val (.long q3), .second, .val (.long q4), .second, .val (.int (1 : Int32)), .val (.int (2 : Int32)), .val (.long (FLD q2 (0 : Int32))), .second, .val (.long (FLD q2 (1 : Int32))), .second, .val (.long (FLD q2 (2 : Int32))), .second, .val (.ref b4), .val (.ref b29), .val (.ref b31), .val (.double (FP.l2d (SS_1_2 (FLD q2 (0 : Int32)) (FLD q3 (2 : Int32))))), .second, .unset, .unset] at_209 rfl rfl ?_
      refine m_lconst K X42.here hx hby (0 : Int64) at_211 rfl rfl ?_
      refine m_lstore K X42.here hx hby #[.val (.int p1), .val (.long q2), .second, .val (.long q3), .second, .val (.long q4), .second, .val (.int (1 : Int32)), .val (.int (2 : Int32)), .val (.long (FLD q2 (0 : Int32))), .second, .val (.long (FLD q2 (1 : Int32))), .second, .val (.long (FLD q2 (2 : Int32))), .second, .val (.ref b4), .val (.ref b29), .val (.ref b31), .val (.double (FP.l2d (SS_1_2 (FLD q2 (0 : Int32)) (FLD q3 (2 : Int32))))), .second, .val (.long (0 : Int64)), .second] at_212 rfl rfl ?_
      refine m_iload K X42.here hx hby at_214 rfl rfl ?_
      refine m_ifN K X42.here hx hby (q := 219) at_216 ((if0 _ _).trans (tlt (by decide : (0 : Int32) < (1 : Int32))).2.2.2) rfl ?_
      refine m_lload K X42.here hx hby at_219 rfl rfl ?_
      refine m_lload K X42.here hx hby at_221 rfl rfl ?_
      refine m_aload K X42.here hx hby at_223 rfl rfl rfl ?_
      refine m_iload K X42.here hx hby at_225 rfl rfl ?_
      refine k_ldJ K X42 hx hby hZ e42 (((((((((V16.ext E29).other W30 (Nat.ne_of_lt (Nat.lt_of_lt_of_le (Nat.lt_of_lt_of_le V_b4.lt (Nat.le_trans (Nat.le_trans (Nat.le_trans (Nat.le_trans (Nat.le_trans (Nat.le_trans (Nat.le_refl _) (Keep.of_wr W6).1) (Keep.of_wr W8).1) (Keep.of_wr W10).1) (Keep.of_wr W12).1) (Keep.of_wr W14).1) (Keep.of_wr W16).1)) (Nat.le_of_eq g29.symm)))).ext E31).other W32 (Nat.ne_of_lt (Nat.lt_of_lt_of_le (Nat.lt_of_lt_of_le V_b4.lt (Nat.le_trans (Nat.le_trans (Nat.le_trans (Nat.le_trans (Nat.le_trans (Nat.le_trans (Nat.le_trans (Nat.le_trans (Nat.le_refl _) (Keep.of_wr W6).1) (Keep.of_wr W8).1) (Keep.of_wr W10).1) (Keep.of_wr W12).1) (Keep.of_wr W14).1) (Keep.of_wr W16).1) E29.1) (Keep.of_wr W30).1)) (Nat.le_of_eq g31.symm)))).other W33 (Nat.ne_of_lt (Nat.lt_of_lt_of_le (Nat.lt_of_lt_of_le V_b4.lt (Nat.le_trans (Nat.le_trans (Nat.le_trans (Nat.le_trans (Nat.le_trans (Nat.le_trans (Nat.le_trans (Nat.le_trans (Nat.le_refl _) (Keep.of_wr W6).1) (Keep.of_wr W8).1) (Keep.of_wr W10).1) (Keep.of_wr W12).1) (Keep.of_wr W14).1) (Keep.of_wr W16).1) E29.1) (Keep.of_wr W30).1)) (Nat.le_of_eq g31.symm)))).other W34 (Nat.ne_of_lt (Nat.lt_of_lt_of_le (Nat.lt_of_lt_of_le V_b4.lt (Nat.le_trans (Nat.le_trans (Nat.le_trans (Nat.le_trans (Nat.le_trans (Nat.le_trans (Nat.le_trans (Nat.le_trans (Nat.le_refl _) (Keep.of_wr W6).1) (Keep.of_wr W8).1) (Keep.of_wr W10).1) (Keep.of_wr W12).1) (Keep.of_wr W14).1) (Keep.of_wr W16).1) E29.1) (Keep.of_wr W30).1)) (Nat.le_of_eq g31.symm)))).other W35 (Nat.ne_of_lt (Nat.lt_of_lt_of_le (Nat.lt_of_lt_of_le V_b4.lt (Nat.le_trans (Nat.le_trans (Nat.le_trans (Nat.le_trans (Nat.le_trans (Nat.le_trans (Nat.le_trans (Nat.le_trans (Nat.le_refl _) (Keep.of_wr W6).1) (Keep.of_wr W8).1) (Keep.of_wr W10).1) (Keep.of_wr W12).1) (Keep.of_wr W14).1) (Keep.of_wr W16).1) E29.1) (Keep.of_wr W30).1)) (Nat.le_of_eq g31.symm)))).other W36 (Nat.ne_of_lt (Nat.lt_of_lt_of_le (Nat.lt_of_lt_of_le V_b4.lt (Nat.le_trans (Nat.le_trans (Nat.le_trans (Nat.le_trans (Nat.le_trans (Nat.le_trans (Nat.le_trans (Nat.le_trans (Nat.le_refl _) (Keep.of_wr W6).1) (Keep.of_wr W8).1) (Keep.of_wr W10).1) (Keep.of_wr W12).1) (Keep.of_wr W14).1) (Keep.of_wr W16).1) E29.1) (Keep.of_wr W30).1)) (Nat.le_of_eq g31.symm)))).other W37 (Nat.ne_of_lt (Nat.lt_of_lt_of_le (Nat.lt_of_lt_of_le V_b4.lt (Nat.le_trans (Nat.le_trans (Nat.le_trans (Nat.le_trans (Nat.le_trans (Nat.le_trans (Nat.le_trans (Nat.le_trans (Nat.le_refl _) (Keep.of_wr W6).1) (Keep.of_wr W8).1) (Keep.of_wr W10).1) (Keep.of_wr W12).1) (Keep.of_wr W14).1) (Keep.of_wr W16).1) E29.1) (Keep.of_wr W30).1)) (Nat.le_of_eq g31.symm)))) (v := (.long (FLD q3 (2 : Int32)))) (by decide) rfl at_227 rfl ?_
      refine m_lsub K X42.here hx hby (w0_4 q2 q3) at_228 rfl rfl ?_
      refine k_callS K X42 hx hby hZ [(.long (w0_4 q2 q3))] [(.long (0 : Int64))] hown (hw _ (List.mem_of_getElem? (i := 12) rfl)) (hw _ (List.mem_of_getElem? (i := 13) rfl)) (hw _ (List.mem_of_getElem? (i := 2) rfl)) (hw _ (List.mem_of_getElem? (i := 14) rfl)) (c3 l Z a0 hw (w0_4 q2 q3) h37 n0 (Nat.le_trans Z0 (Nat.le_trans (Nat.le_trans (Nat.le_trans (Nat.le_trans (Nat.le_trans (Nat.le_trans (Nat.le_trans (Nat.le_trans (Nat.le_trans (Nat.le_trans (Nat.le_trans (Nat.le_trans (Nat.le_trans (Nat.le_trans (Nat.le_trans (Nat.le_trans (Nat.le_refl _) E4.1) (Keep.of_wr W6).1) (Keep.of_wr W8).1) (Keep.of_wr W10).1) (Keep.of_wr W12).1) (Keep.of_wr W14).1) (Keep.of_wr W16).1) E29.1) (Keep.of_wr W30).1) E31.1) (Keep.of_wr W32).1) (Keep.of_wr W33).1) (Keep.of_wr W34).1) (Keep.of_wr W35).1) (Keep.of_wr W36).1) (Keep.of_wr W37).1))) e42 rfl rfl pd_2 rfl at_229 (by rw [hml]; rfl) rfl (by decide) (by decide) (Nat.le_of_ble_eq_true rfl) (by decide) (by decide) fun v43 T43 L43 X43 q43 => ?_
      obtain ⟨rfl, e43, rfl⟩ := q43
      replace X43 := own_px X43
      refine k_some K (w := (.long (SQ (w0_4 q2 q3)))) ?_
      refine m_ladd K X43.here hx hby ((0 : Int64) + (SQ (w0_4 q2 q3))) at_232 rfl rfl ?_
      refine m_lstore K X43.here hx hby #[.val (.int p1), .val (.long q2), .second, .val (.long q3), .second, .val (.long q4), .second, .val (.int (1 : Int32)), .val (.int (2 : Int32)), .val (.long (FLD q2 (0 : Int32))), .second, .val (.long (FLD q2 (1 : Int32))), .second, .val (.long (FLD q2 (2 : Int32))), .second, .val (.ref b4), .val (.ref b29), .val (.ref b31), .val (.double (FP.l2d (SS_1_2 (FLD q2 (0 : Int32)) (FLD q3 (2 : Int32))))), .second, .val (.long ((0 : Int64) + (SQ (w0_4 q2 q3)))), .second] at_233 rfl rfl ?_
      refine m_iload K X43.here hx hby at_235 rfl rfl ?_
      refine m_iconst K X43.here hx hby (1 : Int32) at_237 rfl rfl ?_
      refine m_icmpY K X43.here hx hby (q := 259) at_238 (flt (by decide : ¬ ((1 : Int32) < (1 : Int32)))).2.2.2 (by decide) rfl ?_
      refine m_iload K X43.here hx hby at_259 rfl rfl ?_
      refine m_iconst K X43.here hx hby (2 : Int32) at_261 rfl rfl ?_
      refine m_icmpY K X43.here hx hby (q := 283) at_262 (flt (by decide : ¬ ((2 : Int32) < (1 : Int32)))).2.2.2 (by decide) rfl ?_
      refine m_dload K X43.here hx hby at_283 rfl rfl ?_
      refine m_lload K X43.here hx hby at_285 rfl rfl ?_
      refine m_l2d K X43.here hx hby (FP.l2d ((0 : Int64) + (SQ (w0_4 q2 q3)))) at_287 rfl rfl ?_
      refine m_dcmp K X43.here hx hby (0 : Int32) at_288 (dcmpV_eq rfl (nn_w rfl) _) rfl ?_
      refine m_ifN K X43.here hx hby (q := 292) at_289 ((if0 _ _).trans (teq (by decide : (0 : Int32) = (0 : Int32))).2) rfl ?_
      refine m_iconst K X43.here hx hby (1 : Int32) at_292 rfl rfl ?_
      refine m_goto K X43.here hx hby (q := 297) at_293 (by decide) rfl ?_
      exact Go.retN X43 hx hby hlk hret (by simp) at_297 (by decide) (by decide) (by decide) (⟨rfl, N37⟩)
    · rw [hs8]
      refine m_aload K X37.here hx hby at_200 rfl rfl rfl ?_
      refine m_aload K X37.here hx hby at_202 rfl rfl rfl ?_
      refine m_iload K X37.here hx hby at_204 rfl rfl ?_
      refine k_callS K X37 hx hby hZ [(.ref b29), (.ref b31), (.int (3 : Int32))] [] hown (hw _ (List.mem_of_getElem? (i := 8) rfl)) (hw _ (List.mem_of_getElem? (i := 9) rfl)) (hw _ (List.mem_of_getElem? (i := 10) rfl)) (hw _ (List.mem_of_getElem? (i := 11) rfl)) (c2_1_3 l Z a0 hw b29 b31 (FLD q2 (0 : Int32)) (FLD q3 (0 : Int32)) (FLD q3 (1 : Int32)) (FLD q3 (2 : Int32)) (FLD q4 (0 : Int32)) (FLD q4 (1 : Int32)) (FLD q4 (2 : Int32)) h37 n0 (Nat.le_trans Z0 (Nat.le_trans (Nat.le_trans (Nat.le_trans (Nat.le_trans (Nat.le_trans (Nat.le_trans (Nat.le_trans (Nat.le_trans (Nat.le_trans (Nat.le_trans (Nat.le_trans (Nat.le_trans (Nat.le_trans (Nat.le_trans (Nat.le_trans (Nat.le_trans (Nat.le_refl _) E4.1) (Keep.of_wr W6).1) (Keep.of_wr W8).1) (Keep.of_wr W10).1) (Keep.of_wr W12).1) (Keep.of_wr W14).1) (Keep.of_wr W16).1) E29.1) (Keep.of_wr W30).1) E31.1) (Keep.of_wr W32).1) (Keep.of_wr W33).1) (Keep.of_wr W34).1) (Keep.of_wr W35).1) (Keep.of_wr W36).1) (Keep.of_wr W37).1)) (((((((V30.ext E31).other W32 (Nat.ne_of_lt (Nat.lt_of_lt_of_le (Nat.lt_of_lt_of_le V_b29.lt (Nat.le_trans (Nat.le_refl _) (Keep.of_wr W30).1)) (Nat.le_of_eq g31.symm)))).other W33 (Nat.ne_of_lt (Nat.lt_of_lt_of_le (Nat.lt_of_lt_of_le V_b29.lt (Nat.le_trans (Nat.le_refl _) (Keep.of_wr W30).1)) (Nat.le_of_eq g31.symm)))).other W34 (Nat.ne_of_lt (Nat.lt_of_lt_of_le (Nat.lt_of_lt_of_le V_b29.lt (Nat.le_trans (Nat.le_refl _) (Keep.of_wr W30).1)) (Nat.le_of_eq g31.symm)))).other W35 (Nat.ne_of_lt (Nat.lt_of_lt_of_le (Nat.lt_of_lt_of_le V_b29.lt (Nat.le_trans (Nat.le_refl _) (Keep.of_wr W30).1)) (Nat.le_of_eq g31.symm)))).other W36 (Nat.ne_of_lt (Nat.lt_of_lt_of_le (Nat.lt_of_lt_of_le V_b29.lt (Nat.le_trans (Nat.le_refl _) (Keep.of_wr W30).1)) (Nat.le_of_eq g31.symm)))).other W37 (Nat.ne_of_lt (Nat.lt_of_lt_of_le (Nat.lt_of_lt_of_le V_b29.lt (Nat.le_trans (Nat.le_refl _) (Keep.of_wr W30).1)) (Nat.le_of_eq g31.symm)))) V37 (own_fld q2 (0 : Int32)) (own_fld q4 (0 : Int32))) e37 rfl rfl pd_1 rfl at_206 (by rw [hml]; rfl) rfl (by decide) (by decide) (Nat.le_of_ble_eq_true rfl) (by decide) (by decide) fun v44 T44 L44 X44 q44 => ?_
      obtain ⟨rfl, e44, rfl⟩ := q44
      replace X44 := own_px X44
      refine k_some K (w := (.double (FP.l2d (SS_1_3 (FLD q2 (0 : Int32)) (FLD q4 (0 : Int32)))))) ?_
      refine m_dstore K X44.here hx hby #[.val (.int p1), .val (.long q2), .second, .val (.long q3), .second, .val (.long q4), .second, .val (.int (1 : Int32)), .val (.int (3 : Int32)), .val (.long (FLD q2 (0 : Int32))), .second, .val (.long (FLD q2 (1 : Int32))), .second, .val (.long (FLD q2 (2 : Int32))), .second, .val (.ref b4), .val (.ref b29), .val (.ref b31), .val (.double (FP.l2d (SS_1_3 (FLD q2 (0 : Int32)) (FLD q4 (0 : Int32))))), .second, .unset, .unset] at_209 rfl rfl ?_
      refine m_lconst K X44.here hx hby (0 : Int64) at_211 rfl rfl ?_
      refine m_lstore K X44.here hx hby #[.val (.int p1), .val (.long q2), .second, .val (.long q3), .second, .val (.long q4), .second, .val (.int (1 : Int32)), .val (.int (3 : Int32)), .val (.long (FLD q2 (0 : Int32))), .second, .val (.long (FLD q2 (1 : Int32))), .second, .val (.long (FLD q2 (2 : Int32))), .second, .val (.ref b4), .val (.ref b29), .val (.ref b31), .val (.double (FP.l2d (SS_1_3 (FLD q2 (0 : Int32)) (FLD q4 (0 : Int32))))), .second, .val (.long (0 : Int64)), .second] at_212 rfl rfl ?_
      refine m_iload K X44.here hx hby at_214 rfl rfl ?_
      refine m_ifN K X44.here hx hby (q := 219) at_216 ((if0 _ _).trans (tlt (by decide : (0 : Int32) < (1 : Int32))).2.2.2) rfl ?_
      refine m_lload K X44.here hx hby at_219 rfl rfl ?_
      refine m_lload K X44.here hx hby at_221 rfl rfl ?_
      refine m_aload K X44.here hx hby at_223 rfl rfl rfl ?_
      refine m_iload K X44.here hx hby at_225 rfl rfl ?_
      refine k_ldJ K X44 hx hby hZ e44 (((((((((V16.ext E29).other W30 (Nat.ne_of_lt (Nat.lt_of_lt_of_le (Nat.lt_of_lt_of_le V_b4.lt (Nat.le_trans (Nat.le_trans (Nat.le_trans (Nat.le_trans (Nat.le_trans (Nat.le_trans (Nat.le_refl _) (Keep.of_wr W6).1) (Keep.of_wr W8).1) (Keep.of_wr W10).1) (Keep.of_wr W12).1) (Keep.of_wr W14).1) (Keep.of_wr W16).1)) (Nat.le_of_eq g29.symm)))).ext E31).other W32 (Nat.ne_of_lt (Nat.lt_of_lt_of_le (Nat.lt_of_lt_of_le V_b4.lt (Nat.le_trans (Nat.le_trans (Nat.le_trans (Nat.le_trans (Nat.le_trans (Nat.le_trans (Nat.le_trans (Nat.le_trans (Nat.le_refl _) (Keep.of_wr W6).1) (Keep.of_wr W8).1) (Keep.of_wr W10).1) (Keep.of_wr W12).1) (Keep.of_wr W14).1) (Keep.of_wr W16).1) E29.1) (Keep.of_wr W30).1)) (Nat.le_of_eq g31.symm)))).other W33 (Nat.ne_of_lt (Nat.lt_of_lt_of_le (Nat.lt_of_lt_of_le V_b4.lt (Nat.le_trans (Nat.le_trans (Nat.le_trans (Nat.le_trans (Nat.le_trans (Nat.le_trans (Nat.le_trans (Nat.le_trans (Nat.le_refl _) (Keep.of_wr W6).1) (Keep.of_wr W8).1) (Keep.of_wr W10).1) (Keep.of_wr W12).1) (Keep.of_wr W14).1) (Keep.of_wr W16).1) E29.1) (Keep.of_wr W30).1)) (Nat.le_of_eq g31.symm)))).other W34 (Nat.ne_of_lt (Nat.lt_of_lt_of_le (Nat.lt_of_lt_of_le V_b4.lt (Nat.le_trans (Nat.le_trans (Nat.le_trans (Nat.le_trans (Nat.le_trans (Nat.le_trans (Nat.le_trans (Nat.le_trans (Nat.le_refl _) (Keep.of_wr W6).1) (Keep.of_wr W8).1) (Keep.of_wr W10).1) (Keep.of_wr W12).1) (Keep.of_wr W14).1) (Keep.of_wr W16).1) E29.1) (Keep.of_wr W30).1)) (Nat.le_of_eq g31.symm)))).other W35 (Nat.ne_of_lt (Nat.lt_of_lt_of_le (Nat.lt_of_lt_of_le V_b4.lt (Nat.le_trans (Nat.le_trans (Nat.le_trans (Nat.le_trans (Nat.le_trans (Nat.le_trans (Nat.le_trans (Nat.le_trans (Nat.le_refl _) (Keep.of_wr W6).1) (Keep.of_wr W8).1) (Keep.of_wr W10).1) (Keep.of_wr W12).1) (Keep.of_wr W14).1) (Keep.of_wr W16).1) E29.1) (Keep.of_wr W30).1)) (Nat.le_of_eq g31.symm)))).other W36 (Nat.ne_of_lt (Nat.lt_of_lt_of_le (Nat.lt_of_lt_of_le V_b4.lt (Nat.le_trans (Nat.le_trans (Nat.le_trans (Nat.le_trans (Nat.le_trans (Nat.le_trans (Nat.le_trans (Nat.le_trans (Nat.le_refl _) (Keep.of_wr W6).1) (Keep.of_wr W8).1) (Keep.of_wr W10).1) (Keep.of_wr W12).1) (Keep.of_wr W14).1) (Keep.of_wr W16).1) E29.1) (Keep.of_wr W30).1)) (Nat.le_of_eq g31.symm)))).other W37 (Nat.ne_of_lt (Nat.lt_of_lt_of_le (Nat.lt_of_lt_of_le V_b4.lt (Nat.le_trans (Nat.le_trans (Nat.le_trans (Nat.le_trans (Nat.le_trans (Nat.le_trans (Nat.le_trans (Nat.le_trans (Nat.le_refl _) (Keep.of_wr W6).1) (Keep.of_wr W8).1) (Keep.of_wr W10).1) (Keep.of_wr W12).1) (Keep.of_wr W14).1) (Keep.of_wr W16).1) E29.1) (Keep.of_wr W30).1)) (Nat.le_of_eq g31.symm)))) (v := (.long (FLD q4 (0 : Int32)))) (by decide) rfl at_227 rfl ?_
      refine m_lsub K X44.here hx hby (w0_5 q2 q4) at_228 rfl rfl ?_
      refine k_callS K X44 hx hby hZ [(.long (w0_5 q2 q4))] [(.long (0 : Int64))] hown (hw _ (List.mem_of_getElem? (i := 12) rfl)) (hw _ (List.mem_of_getElem? (i := 13) rfl)) (hw _ (List.mem_of_getElem? (i := 2) rfl)) (hw _ (List.mem_of_getElem? (i := 14) rfl)) (c3 l Z a0 hw (w0_5 q2 q4) h37 n0 (Nat.le_trans Z0 (Nat.le_trans (Nat.le_trans (Nat.le_trans (Nat.le_trans (Nat.le_trans (Nat.le_trans (Nat.le_trans (Nat.le_trans (Nat.le_trans (Nat.le_trans (Nat.le_trans (Nat.le_trans (Nat.le_trans (Nat.le_trans (Nat.le_trans (Nat.le_trans (Nat.le_refl _) E4.1) (Keep.of_wr W6).1) (Keep.of_wr W8).1) (Keep.of_wr W10).1) (Keep.of_wr W12).1) (Keep.of_wr W14).1) (Keep.of_wr W16).1) E29.1) (Keep.of_wr W30).1) E31.1) (Keep.of_wr W32).1) (Keep.of_wr W33).1) (Keep.of_wr W34).1) (Keep.of_wr W35).1) (Keep.of_wr W36).1) (Keep.of_wr W37).1))) e44 rfl rfl pd_2 rfl at_229 (by rw [hml]; rfl) rfl (by decide) (by decide) (Nat.le_of_ble_eq_true rfl) (by decide) (by decide) fun v45 T45 L45 X45 q45 => ?_
      obtain ⟨rfl, e45, rfl⟩ := q45
      replace X45 := own_px X45
      refine k_some K (w := (.long (SQ (w0_5 q2 q4)))) ?_
      refine m_ladd K X45.here hx hby ((0 : Int64) + (SQ (w0_5 q2 q4))) at_232 rfl rfl ?_
      refine m_lstore K X45.here hx hby #[.val (.int p1), .val (.long q2), .second, .val (.long q3), .second, .val (.long q4), .second, .val (.int (1 : Int32)), .val (.int (3 : Int32)), .val (.long (FLD q2 (0 : Int32))), .second, .val (.long (FLD q2 (1 : Int32))), .second, .val (.long (FLD q2 (2 : Int32))), .second, .val (.ref b4), .val (.ref b29), .val (.ref b31), .val (.double (FP.l2d (SS_1_3 (FLD q2 (0 : Int32)) (FLD q4 (0 : Int32))))), .second, .val (.long ((0 : Int64) + (SQ (w0_5 q2 q4)))), .second] at_233 rfl rfl ?_
      refine m_iload K X45.here hx hby at_235 rfl rfl ?_
      refine m_iconst K X45.here hx hby (1 : Int32) at_237 rfl rfl ?_
      refine m_icmpY K X45.here hx hby (q := 259) at_238 (flt (by decide : ¬ ((1 : Int32) < (1 : Int32)))).2.2.2 (by decide) rfl ?_
      refine m_iload K X45.here hx hby at_259 rfl rfl ?_
      refine m_iconst K X45.here hx hby (2 : Int32) at_261 rfl rfl ?_
      refine m_icmpY K X45.here hx hby (q := 283) at_262 (flt (by decide : ¬ ((2 : Int32) < (1 : Int32)))).2.2.2 (by decide) rfl ?_
      refine m_dload K X45.here hx hby at_283 rfl rfl ?_
      refine m_lload K X45.here hx hby at_285 rfl rfl ?_
      refine m_l2d K X45.here hx hby (FP.l2d ((0 : Int64) + (SQ (w0_5 q2 q4)))) at_287 rfl rfl ?_
      refine m_dcmp K X45.here hx hby (0 : Int32) at_288 (dcmpV_eq rfl (nn_w rfl) _) rfl ?_
      refine m_ifN K X45.here hx hby (q := 292) at_289 ((if0 _ _).trans (teq (by decide : (0 : Int32) = (0 : Int32))).2) rfl ?_
      refine m_iconst K X45.here hx hby (1 : Int32) at_292 rfl rfl ?_
      refine m_goto K X45.here hx hby (q := 297) at_293 (by decide) rfl ?_
      exact Go.retN X45 hx hby hlk hret (by simp) at_297 (by decide) (by decide) (by decide) (⟨rfl, N37⟩)
  · rw [hs7]
    refine m_iload K X16.here hx hby at_96 rfl rfl ?_
    refine k_newP K X16 hx hby hZ 2 2 (hw _ (List.mem_of_getElem? (i := 7) rfl)) e16 at_98 rfl (by decide) rfl (by decide) (by decide) (by decide) (by decide) fun T46 h46 b46 X46 e46 E46 g46 V_b46 => ?_
    have sz_b46 : h0.size ≤ b46 := Nat.le_trans (Nat.le_trans (Nat.le_trans (Nat.le_trans (Nat.le_trans (Nat.le_trans (Nat.le_trans (Nat.le_trans (Nat.le_refl _) E4.1) (Keep.of_wr W6).1) (Keep.of_wr W8).1) (Keep.of_wr W10).1) (Keep.of_wr W12).1) (Keep.of_wr W14).1) (Keep.of_wr W16).1) (Nat.le_of_eq g46.symm)
    have g_b46 : n0 ≤ b46 := Nat.le_trans Z0 sz_b46
    replace V_b46 : Av Z h46 b46 .double [(.double 0), (.double 0)] := V_b46
    refine m_astore K X46.here hx hby #[.val (.int p1), .val (.long q2), .second, .val (.long q3), .second, .val (.long q4), .second, .val (.int (2 : Int32)), .val (.int ((w0_1 p1) &&& (3 : Int32))), .val (.long (FLD q2 (0 : Int32))), .second, .val (.long (FLD q2 (1 : Int32))), .second, .val (.long (FLD q2 (2 : Int32))), .second, .val (.ref b4), .val (.ref b46), .unset, .unset, .unset, .unset, .unset] at_100 rfl rfl rfl ?_
    refine m_iload K X46.here hx hby at_102 rfl rfl ?_
    refine m_ifN K X46.here hx hby (q := 107) at_104 ((if0 _ _).trans (tlt (by decide : (0 : Int32) < (2 : Int32))).2.2.2) rfl ?_
    refine m_aload K X46.here hx hby at_107 rfl rfl rfl ?_
    refine m_iconst K X46.here hx hby (0 : Int32) at_109 rfl rfl ?_
    refine m_lload K X46.here hx hby at_110 rfl rfl ?_
    refine m_l2d K X46.here hx hby (FP.l2d (FLD q2 (0 : Int32))) at_112 rfl rfl ?_
    refine k_stD K X46 hx hby hZ e46 V_b46 (by decide) (Nat.le_of_ble_eq_true rfl) at_113 rfl fun T47 h47 X47 e47 W47 V47 => ?_
    replace V47 : Av Z h47 b46 .double [(.double (FP.l2d (FLD q2 (0 : Int32)))), (.double 0)] := V47
    have N47 := Fr.snoc X47 N16 g_b46
    refine m_iload K X47.here hx hby at_114 rfl rfl ?_
    refine m_iconst K X47.here hx hby (1 : Int32) at_116 rfl rfl ?_
    refine m_icmpN K X47.here hx hby (q := 120) at_117 (tlt (by decide : (1 : Int32) < (2 : Int32))).2.2.2 rfl ?_
    refine m_aload K X47.here hx hby at_120 rfl rfl rfl ?_
    refine m_iconst K X47.here hx hby (1 : Int32) at_122 rfl rfl ?_
    refine m_lload K X47.here hx hby at_123 rfl rfl ?_
    refine m_l2d K X47.here hx hby (FP.l2d (FLD q2 (1 : Int32))) at_125 rfl rfl ?_
    refine k_stD K X47 hx hby hZ e47 V47 (by decide) (Nat.le_of_ble_eq_true rfl) at_126 rfl fun T48 h48 X48 e48 W48 V48 => ?_
    replace V48 : Av Z h48 b46 .double [(.double (FP.l2d (FLD q2 (0 : Int32)))), (.double (FP.l2d (FLD q2 (1 : Int32))))] := V48
    have N48 := Fr.snoc X48 N47 g_b46
    refine m_iload K X48.here hx hby at_127 rfl rfl ?_
    refine m_iconst K X48.here hx hby (2 : Int32) at_129 rfl rfl ?_
    refine m_icmpY K X48.here hx hby (q := 140) at_130 (flt (by decide : ¬ ((2 : Int32) < (2 : Int32)))).2.2.2 (by decide) rfl ?_
    refine m_bipush K X48.here hx hby (6 : Int32) at_140 rfl rfl ?_
    refine k_newP K X48 hx hby hZ 6 6 (hw _ (List.mem_of_getElem? (i := 7) rfl)) e48 at_142 rfl (by decide) rfl (by decide) (by decide) (by decide) (by decide) fun T49 h49 b49 X49 e49 E49 g49 V_b49 => ?_
    have sz_b49 : h0.size ≤ b49 := Nat.le_trans (Nat.le_trans (Nat.le_trans (Nat.le_trans (Nat.le_trans (Nat.le_trans (Nat.le_trans (Nat.le_trans (Nat.le_trans (Nat.le_trans (Nat.le_trans (Nat.le_refl _) E4.1) (Keep.of_wr W6).1) (Keep.of_wr W8).1) (Keep.of_wr W10).1) (Keep.of_wr W12).1) (Keep.of_wr W14).1) (Keep.of_wr W16).1) E46.1) (Keep.of_wr W47).1) (Keep.of_wr W48).1) (Nat.le_of_eq g49.symm)
    have g_b49 : n0 ≤ b49 := Nat.le_trans Z0 sz_b49
    replace V_b49 : Av Z h49 b49 .double [(.double 0), (.double 0), (.double 0), (.double 0), (.double 0), (.double 0)] := V_b49
    refine m_astore K X49.here hx hby #[.val (.int p1), .val (.long q2), .second, .val (.long q3), .second, .val (.long q4), .second, .val (.int (2 : Int32)), .val (.int ((w0_1 p1) &&& (3 : Int32))), .val (.long (FLD q2 (0 : Int32))), .second, .val (.long (FLD q2 (1 : Int32))), .second, .val (.long (FLD q2 (2 : Int32))), .second, .val (.ref b4), .val (.ref b46), .val (.ref b49), .unset, .unset, .unset, .unset] at_144 rfl rfl rfl ?_
    refine m_aload K X49.here hx hby at_146 rfl rfl rfl ?_
    refine m_iconst K X49.here hx hby (0 : Int32) at_148 rfl rfl ?_
    refine m_aload K X49.here hx hby at_149 rfl rfl rfl ?_
    refine m_iconst K X49.here hx hby (0 : Int32) at_151 rfl rfl ?_
    refine k_ldJ K X49 hx hby hZ e49 ((((V16.ext E46).other W47 (Nat.ne_of_lt (Nat.lt_of_lt_of_le (Nat.lt_of_lt_of_le V_b4.lt (Nat.le_trans (Nat.le_trans (Nat.le_trans (Nat.le_trans (Nat.le_trans (Nat.le_trans (Nat.le_refl _) (Keep.of_wr W6).1) (Keep.of_wr W8).1) (Keep.of_wr W10).1) (Keep.of_wr W12).1) (Keep.of_wr W14).1) (Keep.of_wr W16).1)) (Nat.le_of_eq g46.symm)))).other W48 (Nat.ne_of_lt (Nat.lt_of_lt_of_le (Nat.lt_of_lt_of_le V_b4.lt (Nat.le_trans (Nat.le_trans (Nat.le_trans (Nat.le_trans (Nat.le_trans (Nat.le_trans (Nat.le_refl _) (Keep.of_wr W6).1) (Keep.of_wr W8).1) (Keep.of_wr W10).1) (Keep.of_wr W12).1) (Keep.of_wr W14).1) (Keep.of_wr W16).1)) (Nat.le_of_eq g46.symm)))).ext E49) (v := (.long (FLD q3 (0 : Int32)))) (by decide) rfl at_152 rfl ?_
    refine m_l2d K X49.here hx hby (FP.l2d (FLD q3 (0 : Int32))) at_153 rfl rfl ?_
    refine k_stD K X49 hx hby hZ e49 V_b49 (by decide) (Nat.le_of_ble_eq_true rfl) at_154 rfl fun T50 h50 X50 e50 W50 V50 => ?_
    replace V50 : Av Z h50 b49 .double [(.double (FP.l2d (FLD q3 (0 : Int32)))), (.double 0), (.double 0), (.double 0), (.double 0), (.double 0)] := V50
    have N50 := Fr.snoc X50 N48 g_b49
    refine m_aload K X50.here hx hby at_155 rfl rfl rfl ?_
    refine m_iconst K X50.here hx hby (1 : Int32) at_157 rfl rfl ?_
    refine m_aload K X50.here hx hby at_158 rfl rfl rfl ?_
    refine m_iconst K X50.here hx hby (1 : Int32) at_160 rfl rfl ?_
    refine k_ldJ K X50 hx hby hZ e50 (((((V16.ext E46).other W47 (Nat.ne_of_lt (Nat.lt_of_lt_of_le (Nat.lt_of_lt_of_le V_b4.lt (Nat.le_trans (Nat.le_trans (Nat.le_trans (Nat.le_trans (Nat.le_trans (Nat.le_trans (Nat.le_refl _) (Keep.of_wr W6).1) (Keep.of_wr W8).1) (Keep.of_wr W10).1) (Keep.of_wr W12).1) (Keep.of_wr W14).1) (Keep.of_wr W16).1)) (Nat.le_of_eq g46.symm)))).other W48 (Nat.ne_of_lt (Nat.lt_of_lt_of_le (Nat.lt_of_lt_of_le V_b4.lt (Nat.le_trans (Nat.le_trans (Nat.le_trans (Nat.le_trans (Nat.le_trans (Nat.le_trans (Nat.le_refl _) (Keep.of_wr W6).1) (Keep.of_wr W8).1) (Keep.of_wr W10).1) (Keep.of_wr W12).1) (Keep.of_wr W14).1) (Keep.of_wr W16).1)) (Nat.le_of_eq g46.symm)))).ext E49).other W50 (Nat.ne_of_lt (Nat.lt_of_lt_of_le (Nat.lt_of_lt_of_le V_b4.lt (Nat.le_trans (Nat.le_trans (Nat.le_trans (Nat.le_trans (Nat.le_trans (Nat.le_trans (Nat.le_trans (Nat.le_trans (Nat.le_trans (Nat.le_refl _) (Keep.of_wr W6).1) (Keep.of_wr W8).1) (Keep.of_wr W10).1) (Keep.of_wr W12).1) (Keep.of_wr W14).1) (Keep.of_wr W16).1) E46.1) (Keep.of_wr W47).1) (Keep.of_wr W48).1)) (Nat.le_of_eq g49.symm)))) (v := (.long (FLD q3 (1 : Int32)))) (by decide) rfl at_161 rfl ?_
    refine m_l2d K X50.here hx hby (FP.l2d (FLD q3 (1 : Int32))) at_162 rfl rfl ?_
    refine k_stD K X50 hx hby hZ e50 V50 (by decide) (Nat.le_of_ble_eq_true rfl) at_163 rfl fun T51 h51 X51 e51 W51 V51 => ?_
    replace V51 : Av Z h51 b49 .double [(.double (FP.l2d (FLD q3 (0 : Int32)))), (.double (FP.l2d (FLD q3 (1 : Int32)))), (.double 0), (.double 0), (.double 0), (.double 0)] := V51
    have N51 := Fr.snoc X51 N50 g_b49
    refine m_aload K X51.here hx hby at_164 rfl rfl rfl ?_
    refine m_iconst K X51.here hx hby (2 : Int32) at_166 rfl rfl ?_
    refine m_aload K X51.here hx hby at_167 rfl rfl rfl ?_
    refine m_iconst K X51.here hx hby (2 : Int32) at_169 rfl rfl ?_
    refine k_ldJ K X51 hx hby hZ e51 ((((((V16.ext E46).other W47 (Nat.ne_of_lt (Nat.lt_of_lt_of_le (Nat.lt_of_lt_of_le V_b4.lt (Nat.le_trans (Nat.le_trans (Nat.le_trans (Nat.le_trans (Nat.le_trans (Nat.le_trans (Nat.le_refl _) (Keep.of_wr W6).1) (Keep.of_wr W8).1) (Keep.of_wr W10).1) (Keep.of_wr W12).1) (Keep.of_wr W14).1) (Keep.of_wr W16).1)) (Nat.le_of_eq g46.symm)))).other W48 (Nat.ne_of_lt (Nat.lt_of_lt_of_le (Nat.lt_of_lt_of_le V_b4.lt (Nat.le_trans (Nat.le_trans (Nat.le_trans (Nat.le_trans (Nat.le_trans (Nat.le_trans (Nat.le_refl _) (Keep.of_wr W6).1) (Keep.of_wr W8).1) (Keep.of_wr W10).1) (Keep.of_wr W12).1) (Keep.of_wr W14).1) (Keep.of_wr W16).1)) (Nat.le_of_eq g46.symm)))).ext E49).other W50 (Nat.ne_of_lt (Nat.lt_of_lt_of_le (Nat.lt_of_lt_of_le V_b4.lt (Nat.le_trans (Nat.le_trans (Nat.le_trans (Nat.le_trans (Nat.le_trans (Nat.le_trans (Nat.le_trans (Nat.le_trans (Nat.le_trans (Nat.le_refl _) (Keep.of_wr W6).1) (Keep.of_wr W8).1) (Keep.of_wr W10).1) (Keep.of_wr W12).1) (Keep.of_wr W14).1) (Keep.of_wr W16).1) E46.1) (Keep.of_wr W47).1) (Keep.of_wr W48).1)) (Nat.le_of_eq g49.symm)))).other W51 (Nat.ne_of_lt (Nat.lt_of_lt_of_le (Nat.lt_of_lt_of_le V_b4.lt (Nat.le_trans (Nat.le_trans (Nat.le_trans (Nat.le_trans (Nat.le_trans (Nat.le_trans (Nat.le_trans (Nat.le_trans (Nat.le_trans (Nat.le_refl _) (Keep.of_wr W6).1) (Keep.of_wr W8).1) (Keep.of_wr W10).1) (Keep.of_wr W12).1) (Keep.of_wr W14).1) (Keep.of_wr W16).1) E46.1) (Keep.of_wr W47).1) (Keep.of_wr W48).1)) (Nat.le_of_eq g49.symm)))) (v := (.long (FLD q3 (2 : Int32)))) (by decide) rfl at_170 rfl ?_
    refine m_l2d K X51.here hx hby (FP.l2d (FLD q3 (2 : Int32))) at_171 rfl rfl ?_
    refine k_stD K X51 hx hby hZ e51 V51 (by decide) (Nat.le_of_ble_eq_true rfl) at_172 rfl fun T52 h52 X52 e52 W52 V52 => ?_
    replace V52 : Av Z h52 b49 .double [(.double (FP.l2d (FLD q3 (0 : Int32)))), (.double (FP.l2d (FLD q3 (1 : Int32)))), (.double (FP.l2d (FLD q3 (2 : Int32)))), (.double 0), (.double 0), (.double 0)] := V52
    have N52 := Fr.snoc X52 N51 g_b49
    refine m_aload K X52.here hx hby at_173 rfl rfl rfl ?_
    refine m_iconst K X52.here hx hby (3 : Int32) at_175 rfl rfl ?_
    refine m_aload K X52.here hx hby at_176 rfl rfl rfl ?_
    refine m_iconst K X52.here hx hby (3 : Int32) at_178 rfl rfl ?_
    refine k_ldJ K X52 hx hby hZ e52 (((((((V16.ext E46).other W47 (Nat.ne_of_lt (Nat.lt_of_lt_of_le (Nat.lt_of_lt_of_le V_b4.lt (Nat.le_trans (Nat.le_trans (Nat.le_trans (Nat.le_trans (Nat.le_trans (Nat.le_trans (Nat.le_refl _) (Keep.of_wr W6).1) (Keep.of_wr W8).1) (Keep.of_wr W10).1) (Keep.of_wr W12).1) (Keep.of_wr W14).1) (Keep.of_wr W16).1)) (Nat.le_of_eq g46.symm)))).other W48 (Nat.ne_of_lt (Nat.lt_of_lt_of_le (Nat.lt_of_lt_of_le V_b4.lt (Nat.le_trans (Nat.le_trans (Nat.le_trans (Nat.le_trans (Nat.le_trans (Nat.le_trans (Nat.le_refl _) (Keep.of_wr W6).1) (Keep.of_wr W8).1) (Keep.of_wr W10).1) (Keep.of_wr W12).1) (Keep.of_wr W14).1) (Keep.of_wr W16).1)) (Nat.le_of_eq g46.symm)))).ext E49).other W50 (Nat.ne_of_lt (Nat.lt_of_lt_of_le (Nat.lt_of_lt_of_le V_b4.lt (Nat.le_trans (Nat.le_trans (Nat.le_trans (Nat.le_trans (Nat.le_trans (Nat.le_trans (Nat.le_trans (Nat.le_trans (Nat.le_trans (Nat.le_refl _) (Keep.of_wr W6).1) (Keep.of_wr W8).1) (Keep.of_wr W10).1) (Keep.of_wr W12).1) (Keep.of_wr W14).1) (Keep.of_wr W16).1) E46.1) (Keep.of_wr W47).1) (Keep.of_wr W48).1)) (Nat.le_of_eq g49.symm)))).other W51 (Nat.ne_of_lt (Nat.lt_of_lt_of_le (Nat.lt_of_lt_of_le V_b4.lt (Nat.le_trans (Nat.le_trans (Nat.le_trans (Nat.le_trans (Nat.le_trans (Nat.le_trans (Nat.le_trans (Nat.le_trans (Nat.le_trans (Nat.le_refl _) (Keep.of_wr W6).1) (Keep.of_wr W8).1) (Keep.of_wr W10).1) (Keep.of_wr W12).1) (Keep.of_wr W14).1) (Keep.of_wr W16).1) E46.1) (Keep.of_wr W47).1) (Keep.of_wr W48).1)) (Nat.le_of_eq g49.symm)))).other W52 (Nat.ne_of_lt (Nat.lt_of_lt_of_le (Nat.lt_of_lt_of_le V_b4.lt (Nat.le_trans (Nat.le_trans (Nat.le_trans (Nat.le_trans (Nat.le_trans (Nat.le_trans (Nat.le_trans (Nat.le_trans (Nat.le_trans (Nat.le_refl _) (Keep.of_wr W6).1) (Keep.of_wr W8).1) (Keep.of_wr W10).1) (Keep.of_wr W12).1) (Keep.of_wr W14).1) (Keep.of_wr W16).1) E46.1) (Keep.of_wr W47).1) (Keep.of_wr W48).1)) (Nat.le_of_eq g49.symm)))) (v := (.long (FLD q4 (0 : Int32)))) (by decide) rfl at_179 rfl ?_
    refine m_l2d K X52.here hx hby (FP.l2d (FLD q4 (0 : Int32))) at_180 rfl rfl ?_
    refine k_stD K X52 hx hby hZ e52 V52 (by decide) (Nat.le_of_ble_eq_true rfl) at_181 rfl fun T53 h53 X53 e53 W53 V53 => ?_
    replace V53 : Av Z h53 b49 .double [(.double (FP.l2d (FLD q3 (0 : Int32)))), (.double (FP.l2d (FLD q3 (1 : Int32)))), (.double (FP.l2d (FLD q3 (2 : Int32)))), (.double (FP.l2d (FLD q4 (0 : Int32)))), (.double 0), (.double 0)] := V53
    have N53 := Fr.snoc X53 N52 g_b49
    refine m_aload K X53.here hx hby at_182 rfl rfl rfl ?_
    refine m_iconst K X53.here hx hby (4 : Int32) at_184 rfl rfl ?_
    refine m_aload K X53.here hx hby at_185 rfl rfl rfl ?_
    refine m_iconst K X53.here hx hby (4 : Int32) at_187 rfl rfl ?_
    refine k_ldJ K X53 hx hby hZ e53 ((((((((V16.ext E46).other W47 (Nat.ne_of_lt (Nat.lt_of_lt_of_le (Nat.lt_of_lt_of_le V_b4.lt (Nat.le_trans (Nat.le_trans (Nat.le_trans (Nat.le_trans (Nat.le_trans (Nat.le_trans (Nat.le_refl _) (Keep.of_wr W6).1) (Keep.of_wr W8).1) (Keep.of_wr W10).1) (Keep.of_wr W12).1) (Keep.of_wr W14).1) (Keep.of_wr W16).1)) (Nat.le_of_eq g46.symm)))).other W48 (Nat.ne_of_lt (Nat.lt_of_lt_of_le (Nat.lt_of_lt_of_le V_b4.lt (Nat.le_trans (Nat.le_trans (Nat.le_trans (Nat.le_trans (Nat.le_trans (Nat.le_trans (Nat.le_refl _) (Keep.of_wr W6).1) (Keep.of_wr W8).1) (Keep.of_wr W10).1) (Keep.of_wr W12).1) (Keep.of_wr W14).1) (Keep.of_wr W16).1)) (Nat.le_of_eq g46.symm)))).ext E49).other W50 (Nat.ne_of_lt (Nat.lt_of_lt_of_le (Nat.lt_of_lt_of_le V_b4.lt (Nat.le_trans (Nat.le_trans (Nat.le_trans (Nat.le_trans (Nat.le_trans (Nat.le_trans (Nat.le_trans (Nat.le_trans (Nat.le_trans (Nat.le_refl _) (Keep.of_wr W6).1) (Keep.of_wr W8).1) (Keep.of_wr W10).1) (Keep.of_wr W12).1) (Keep.of_wr W14).1) (Keep.of_wr W16).1) E46.1) (Keep.of_wr W47).1) (Keep.of_wr W48).1)) (Nat.le_of_eq g49.symm)))).other W51 (Nat.ne_of_lt (Nat.lt_of_lt_of_le (Nat.lt_of_lt_of_le V_b4.lt (Nat.le_trans (Nat.le_trans (Nat.le_trans (Nat.le_trans (Nat.le_trans (Nat.le_trans (Nat.le_trans (Nat.le_trans (Nat.le_trans (Nat.le_refl _) (Keep.of_wr W6).1) (Keep.of_wr W8).1) (Keep.of_wr W10).1) (Keep.of_wr W12).1) (Keep.of_wr W14).1) (Keep.of_wr W16).1) E46.1) (Keep.of_wr W47).1) (Keep.of_wr W48).1)) (Nat.le_of_eq g49.symm)))).other W52 (Nat.ne_of_lt (Nat.lt_of_lt_of_le (Nat.lt_of_lt_of_le V_b4.lt (Nat.le_trans (Nat.le_trans (Nat.le_trans (Nat.le_trans (Nat.le_trans (Nat.le_trans (Nat.le_trans (Nat.le_trans (Nat.le_trans (Nat.le_refl _) (Keep.of_wr W6).1) (Keep.of_wr W8).1) (Keep.of_wr W10).1) (Keep.of_wr W12).1) (Keep.of_wr W14).1) (Keep.of_wr W16).1) E46.1) (Keep.of_wr W47).1) (Keep.of_wr W48).1)) (Nat.le_of_eq g49.symm)))).other W53 (Nat.ne_of_lt (Nat.lt_of_lt_of_le (Nat.lt_of_lt_of_le V_b4.lt (Nat.le_trans (Nat.le_trans (Nat.le_trans (Nat.le_trans (Nat.le_trans (Nat.le_trans (Nat.le_trans (Nat.le_trans (Nat.le_trans (Nat.le_refl _) (Keep.of_wr W6).1) (Keep.of_wr W8).1) (Keep.of_wr W10).1) (Keep.of_wr W12).1) (Keep.of_wr W14).1) (Keep.of_wr W16).1) E46.1) (Keep.of_wr W47).1) (Keep.of_wr W48).1)) (Nat.le_of_eq g49.symm)))) (v := (.long (FLD q4 (1 : Int32)))) (by decide) rfl at_188 rfl ?_
    refine m_l2d K X53.here hx hby (FP.l2d (FLD q4 (1 : Int32))) at_189 rfl rfl ?_
    refine k_stD K X53 hx hby hZ e53 V53 (by decide) (Nat.le_of_ble_eq_true rfl) at_190 rfl fun T54 h54 X54 e54 W54 V54 => ?_
    replace V54 : Av Z h54 b49 .double [(.double (FP.l2d (FLD q3 (0 : Int32)))), (.double (FP.l2d (FLD q3 (1 : Int32)))), (.double (FP.l2d (FLD q3 (2 : Int32)))), (.double (FP.l2d (FLD q4 (0 : Int32)))), (.double (FP.l2d (FLD q4 (1 : Int32)))), (.double 0)] := V54
    have N54 := Fr.snoc X54 N53 g_b49
    refine m_aload K X54.here hx hby at_191 rfl rfl rfl ?_
    refine m_iconst K X54.here hx hby (5 : Int32) at_193 rfl rfl ?_
    refine m_aload K X54.here hx hby at_194 rfl rfl rfl ?_
    refine m_iconst K X54.here hx hby (5 : Int32) at_196 rfl rfl ?_
    refine k_ldJ K X54 hx hby hZ e54 (((((((((V16.ext E46).other W47 (Nat.ne_of_lt (Nat.lt_of_lt_of_le (Nat.lt_of_lt_of_le V_b4.lt (Nat.le_trans (Nat.le_trans (Nat.le_trans (Nat.le_trans (Nat.le_trans (Nat.le_trans (Nat.le_refl _) (Keep.of_wr W6).1) (Keep.of_wr W8).1) (Keep.of_wr W10).1) (Keep.of_wr W12).1) (Keep.of_wr W14).1) (Keep.of_wr W16).1)) (Nat.le_of_eq g46.symm)))).other W48 (Nat.ne_of_lt (Nat.lt_of_lt_of_le (Nat.lt_of_lt_of_le V_b4.lt (Nat.le_trans (Nat.le_trans (Nat.le_trans (Nat.le_trans (Nat.le_trans (Nat.le_trans (Nat.le_refl _) (Keep.of_wr W6).1) (Keep.of_wr W8).1) (Keep.of_wr W10).1) (Keep.of_wr W12).1) (Keep.of_wr W14).1) (Keep.of_wr W16).1)) (Nat.le_of_eq g46.symm)))).ext E49).other W50 (Nat.ne_of_lt (Nat.lt_of_lt_of_le (Nat.lt_of_lt_of_le V_b4.lt (Nat.le_trans (Nat.le_trans (Nat.le_trans (Nat.le_trans (Nat.le_trans (Nat.le_trans (Nat.le_trans (Nat.le_trans (Nat.le_trans (Nat.le_refl _) (Keep.of_wr W6).1) (Keep.of_wr W8).1) (Keep.of_wr W10).1) (Keep.of_wr W12).1) (Keep.of_wr W14).1) (Keep.of_wr W16).1) E46.1) (Keep.of_wr W47).1) (Keep.of_wr W48).1)) (Nat.le_of_eq g49.symm)))).other W51 (Nat.ne_of_lt (Nat.lt_of_lt_of_le (Nat.lt_of_lt_of_le V_b4.lt (Nat.le_trans (Nat.le_trans (Nat.le_trans (Nat.le_trans (Nat.le_trans (Nat.le_trans (Nat.le_trans (Nat.le_trans (Nat.le_trans (Nat.le_refl _) (Keep.of_wr W6).1) (Keep.of_wr W8).1) (Keep.of_wr W10).1) (Keep.of_wr W12).1) (Keep.of_wr W14).1) (Keep.of_wr W16).1) E46.1) (Keep.of_wr W47).1) (Keep.of_wr W48).1)) (Nat.le_of_eq g49.symm)))).other W52 (Nat.ne_of_lt (Nat.lt_of_lt_of_le (Nat.lt_of_lt_of_le V_b4.lt (Nat.le_trans (Nat.le_trans (Nat.le_trans (Nat.le_trans (Nat.le_trans (Nat.le_trans (Nat.le_trans (Nat.le_trans (Nat.le_trans (Nat.le_refl _) (Keep.of_wr W6).1) (Keep.of_wr W8).1) (Keep.of_wr W10).1) (Keep.of_wr W12).1) (Keep.of_wr W14).1) (Keep.of_wr W16).1) E46.1) (Keep.of_wr W47).1) (Keep.of_wr W48).1)) (Nat.le_of_eq g49.symm)))).other W53 (Nat.ne_of_lt (Nat.lt_of_lt_of_le (Nat.lt_of_lt_of_le V_b4.lt (Nat.le_trans (Nat.le_trans (Nat.le_trans (Nat.le_trans (Nat.le_trans (Nat.le_trans (Nat.le_trans (Nat.le_trans (Nat.le_trans (Nat.le_refl _) (Keep.of_wr W6).1) (Keep.of_wr W8).1) (Keep.of_wr W10).1) (Keep.of_wr W12).1) (Keep.of_wr W14).1) (Keep.of_wr W16).1) E46.1) (Keep.of_wr W47).1) (Keep.of_wr W48).1)) (Nat.le_of_eq g49.symm)))).other W54 (Nat.ne_of_lt (Nat.lt_of_lt_of_le (Nat.lt_of_lt_of_le V_b4.lt (Nat.le_trans (Nat.le_trans (Nat.le_trans (Nat.le_trans (Nat.le_trans (Nat.le_trans (Nat.le_trans (Nat.le_trans (Nat.le_trans (Nat.le_refl _) (Keep.of_wr W6).1) (Keep.of_wr W8).1) (Keep.of_wr W10).1) (Keep.of_wr W12).1) (Keep.of_wr W14).1) (Keep.of_wr W16).1) E46.1) (Keep.of_wr W47).1) (Keep.of_wr W48).1)) (Nat.le_of_eq g49.symm)))) (v := (.long (FLD q4 (2 : Int32)))) (by decide) rfl at_197 rfl ?_
    refine m_l2d K X54.here hx hby (FP.l2d (FLD q4 (2 : Int32))) at_198 rfl rfl ?_
    refine k_stD K X54 hx hby hZ e54 V54 (by decide) (Nat.le_of_ble_eq_true rfl) at_199 rfl fun T55 h55 X55 e55 W55 V55 => ?_
    replace V55 : Av Z h55 b49 .double [(.double (FP.l2d (FLD q3 (0 : Int32)))), (.double (FP.l2d (FLD q3 (1 : Int32)))), (.double (FP.l2d (FLD q3 (2 : Int32)))), (.double (FP.l2d (FLD q4 (0 : Int32)))), (.double (FP.l2d (FLD q4 (1 : Int32)))), (.double (FP.l2d (FLD q4 (2 : Int32))))] := V55
    have N55 := Fr.snoc X55 N54 g_b49
    rcases own_o p1 with hs8 | hs8 | hs8 | hs8
    · rw [hs8]
      refine m_aload K X55.here hx hby at_200 rfl rfl rfl ?_
      refine m_aload K X55.here hx hby at_202 rfl rfl rfl ?_
      refine m_iload K X55.here hx hby at_204 rfl rfl ?_
      refine k_callS K X55 hx hby hZ [(.ref b46), (.ref b49), (.int (0 : Int32))] [] hown (hw _ (List.mem_of_getElem? (i := 8) rfl)) (hw _ (List.mem_of_getElem? (i := 9) rfl)) (hw _ (List.mem_of_getElem? (i := 10) rfl)) (hw _ (List.mem_of_getElem? (i := 11) rfl)) (c2_2_0 l Z a0 hw b46 b49 (FLD q2 (0 : Int32)) (FLD q2 (1 : Int32)) (FLD q3 (0 : Int32)) (FLD q3 (1 : Int32)) (FLD q3 (2 : Int32)) (FLD q4 (0 : Int32)) (FLD q4 (1 : Int32)) (FLD q4 (2 : Int32)) h55 n0 (Nat.le_trans Z0 (Nat.le_trans (Nat.le_trans (Nat.le_trans (Nat.le_trans (Nat.le_trans (Nat.le_trans (Nat.le_trans (Nat.le_trans (Nat.le_trans (Nat.le_trans (Nat.le_trans (Nat.le_trans (Nat.le_trans (Nat.le_trans (Nat.le_trans (Nat.le_trans (Nat.le_trans (Nat.le_refl _) E4.1) (Keep.of_wr W6).1) (Keep.of_wr W8).1) (Keep.of_wr W10).1) (Keep.of_wr W12).1) (Keep.of_wr W14).1) (Keep.of_wr W16).1) E46.1) (Keep.of_wr W47).1) (Keep.of_wr W48).1) E49.1) (Keep.of_wr W50).1) (Keep.of_wr W51).1) (Keep.of_wr W52).1) (Keep.of_wr W53).1) (Keep.of_wr W54).1) (Keep.of_wr W55).1)) (((((((V48.ext E49).other W50 (Nat.ne_of_lt (Nat.lt_of_lt_of_le (Nat.lt_of_lt_of_le V_b46.lt (Nat.le_trans (Nat.le_trans (Nat.le_refl _) (Keep.of_wr W47).1) (Keep.of_wr W48).1)) (Nat.le_of_eq g49.symm)))).other W51 (Nat.ne_of_lt (Nat.lt_of_lt_of_le (Nat.lt_of_lt_of_le V_b46.lt (Nat.le_trans (Nat.le_trans (Nat.le_refl _) (Keep.of_wr W47).1) (Keep.of_wr W48).1)) (Nat.le_of_eq g49.symm)))).other W52 (Nat.ne_of_lt (Nat.lt_of_lt_of_le (Nat.lt_of_lt_of_le V_b46.lt (Nat.le_trans (Nat.le_trans (Nat.le_refl _) (Keep.of_wr W47).1) (Keep.of_wr W48).1)) (Nat.le_of_eq g49.symm)))).other W53 (Nat.ne_of_lt (Nat.lt_of_lt_of_le (Nat.lt_of_lt_of_le V_b46.lt (Nat.le_trans (Nat.le_trans (Nat.le_refl _) (Keep.of_wr W47).1) (Keep.of_wr W48).1)) (Nat.le_of_eq g49.symm)))).other W54 (Nat.ne_of_lt (Nat.lt_of_lt_of_le (Nat.lt_of_lt_of_le V_b46.lt (Nat.le_trans (Nat.le_trans (Nat.le_refl _) (Keep.of_wr W47).1) (Keep.of_wr W48).1)) (Nat.le_of_eq g49.symm)))).other W55 (Nat.ne_of_lt (Nat.lt_of_lt_of_le (Nat.lt_of_lt_of_le V_b46.lt (Nat.le_trans (Nat.le_trans (Nat.le_refl _) (Keep.of_wr W47).1) (Keep.of_wr W48).1)) (Nat.le_of_eq g49.symm)))) V55 (own_fld q2 (0 : Int32)) (own_fld q2 (1 : Int32)) (own_fld q3 (0 : Int32)) (own_fld q3 (1 : Int32))) e55 rfl rfl pd_1 rfl at_206 (by rw [hml]; rfl) rfl (by decide) (by decide) (Nat.le_of_ble_eq_true rfl) (by decide) (by decide) fun v56 T56 L56 X56 q56 => ?_
      obtain ⟨rfl, e56, rfl⟩ := q56
      replace X56 := own_px X56
      refine k_some K (w := (.double (FP.l2d (SS_2_0 (FLD q2 (0 : Int32)) (FLD q2 (1 : Int32)) (FLD q3 (0 : Int32)) (FLD q3 (1 : Int32)))))) ?_
      refine m_dstore K X56.here hx hby #[.val (.int p1), .val (.long q2), .second, .val (.long q3), .second, .val (.long q4), .second, .val (.int (2 : Int32)), .val (.int (0 : Int32)), .val (.long (FLD q2 (0 : Int32))), .second, .val (.long (FLD q2 (1 : Int32))), .second, .val (.long (FLD q2 (2 : Int32))), .second, .val (.ref b4), .val (.ref b46), .val (.ref b49), .val (.double (FP.l2d (SS_2_0 (FLD q2 (0 : Int32)) (FLD q2 (1 : Int32)) (FLD q3 (0 : Int32)) (FLD q3 (1 : Int32))))), .second, .unset, .unset] at_209 rfl rfl ?_
      refine m_lconst K X56.here hx hby (0 : Int64) at_211 rfl rfl ?_
      refine m_lstore K X56.here hx hby #[.val (.int p1), .val (.long q2), .second, .val (.long q3), .second, .val (.long q4), .second, .val (.int (2 : Int32)), .val (.int (0 : Int32)), .val (.long (FLD q2 (0 : Int32))), .second, .val (.long (FLD q2 (1 : Int32))), .second, .val (.long (FLD q2 (2 : Int32))), .second, .val (.ref b4), .val (.ref b46), .val (.ref b49), .val (.double (FP.l2d (SS_2_0 (FLD q2 (0 : Int32)) (FLD q2 (1 : Int32)) (FLD q3 (0 : Int32)) (FLD q3 (1 : Int32))))), .second, .val (.long (0 : Int64)), .second] at_212 rfl rfl ?_
      refine m_iload K X56.here hx hby at_214 rfl rfl ?_
      refine m_ifN K X56.here hx hby (q := 219) at_216 ((if0 _ _).trans (tlt (by decide : (0 : Int32) < (2 : Int32))).2.2.2) rfl ?_
      refine m_lload K X56.here hx hby at_219 rfl rfl ?_
      refine m_lload K X56.here hx hby at_221 rfl rfl ?_
      refine m_aload K X56.here hx hby at_223 rfl rfl rfl ?_
      refine m_iload K X56.here hx hby at_225 rfl rfl ?_
      refine k_ldJ K X56 hx hby hZ e56 ((((((((((V16.ext E46).other W47 (Nat.ne_of_lt (Nat.lt_of_lt_of_le (Nat.lt_of_lt_of_le V_b4.lt (Nat.le_trans (Nat.le_trans (Nat.le_trans (Nat.le_trans (Nat.le_trans (Nat.le_trans (Nat.le_refl _) (Keep.of_wr W6).1) (Keep.of_wr W8).1) (Keep.of_wr W10).1) (Keep.of_wr W12).1) (Keep.of_wr W14).1) (Keep.of_wr W16).1)) (Nat.le_of_eq g46.symm)))).other W48 (Nat.ne_of_lt (Nat.lt_of_lt_of_le (Nat.lt_of_lt_of_le V_b4.lt (Nat.le_trans (Nat.le_trans (Nat.le_trans (Nat.le_trans (Nat.le_trans (Nat.le_trans (Nat.le_refl _) (Keep.of_wr W6).1) (Keep.of_wr W8).1) (Keep.of_wr W10).1) (Keep.of_wr W12).1) (Keep.of_wr W14).1) (Keep.of_wr W16).1)) (Nat.le_of_eq g46.symm)))).ext E49).other W50 (Nat.ne_of_lt (Nat.lt_of_lt_of_le (Nat.lt_of_lt_of_le V_b4.lt (Nat.le_trans (Nat.le_trans (Nat.le_trans (Nat.le_trans (Nat.le_trans (Nat.le_trans (Nat.le_trans (Nat.le_trans (Nat.le_trans (Nat.le_refl _) (Keep.of_wr W6).1) (Keep.of_wr W8).1) (Keep.of_wr W10).1) (Keep.of_wr W12).1) (Keep.of_wr W14).1) (Keep.of_wr W16).1) E46.1) (Keep.of_wr W47).1) (Keep.of_wr W48).1)) (Nat.le_of_eq g49.symm)))).other W51 (Nat.ne_of_lt (Nat.lt_of_lt_of_le (Nat.lt_of_lt_of_le V_b4.lt (Nat.le_trans (Nat.le_trans (Nat.le_trans (Nat.le_trans (Nat.le_trans (Nat.le_trans (Nat.le_trans (Nat.le_trans (Nat.le_trans (Nat.le_refl _) (Keep.of_wr W6).1) (Keep.of_wr W8).1) (Keep.of_wr W10).1) (Keep.of_wr W12).1) (Keep.of_wr W14).1) (Keep.of_wr W16).1) E46.1) (Keep.of_wr W47).1) (Keep.of_wr W48).1)) (Nat.le_of_eq g49.symm)))).other W52 (Nat.ne_of_lt (Nat.lt_of_lt_of_le (Nat.lt_of_lt_of_le V_b4.lt (Nat.le_trans (Nat.le_trans (Nat.le_trans (Nat.le_trans (Nat.le_trans (Nat.le_trans (Nat.le_trans (Nat.le_trans (Nat.le_trans (Nat.le_refl _) (Keep.of_wr W6).1) (Keep.of_wr W8).1) (Keep.of_wr W10).1) (Keep.of_wr W12).1) (Keep.of_wr W14).1) (Keep.of_wr W16).1) E46.1) (Keep.of_wr W47).1) (Keep.of_wr W48).1)) (Nat.le_of_eq g49.symm)))).other W53 (Nat.ne_of_lt (Nat.lt_of_lt_of_le (Nat.lt_of_lt_of_le V_b4.lt (Nat.le_trans (Nat.le_trans (Nat.le_trans (Nat.le_trans (Nat.le_trans (Nat.le_trans (Nat.le_trans (Nat.le_trans (Nat.le_trans (Nat.le_refl _) (Keep.of_wr W6).1) (Keep.of_wr W8).1) (Keep.of_wr W10).1) (Keep.of_wr W12).1) (Keep.of_wr W14).1) (Keep.of_wr W16).1) E46.1) (Keep.of_wr W47).1) (Keep.of_wr W48).1)) (Nat.le_of_eq g49.symm)))).other W54 (Nat.ne_of_lt (Nat.lt_of_lt_of_le (Nat.lt_of_lt_of_le V_b4.lt (Nat.le_trans (Nat.le_trans (Nat.le_trans (Nat.le_trans (Nat.le_trans (Nat.le_trans (Nat.le_trans (Nat.le_trans (Nat.le_trans (Nat.le_refl _) (Keep.of_wr W6).1) (Keep.of_wr W8).1) (Keep.of_wr W10).1) (Keep.of_wr W12).1) (Keep.of_wr W14).1) (Keep.of_wr W16).1) E46.1) (Keep.of_wr W47).1) (Keep.of_wr W48).1)) (Nat.le_of_eq g49.symm)))).other W55 (Nat.ne_of_lt (Nat.lt_of_lt_of_le (Nat.lt_of_lt_of_le V_b4.lt (Nat.le_trans (Nat.le_trans (Nat.le_trans (Nat.le_trans (Nat.le_trans (Nat.le_trans (Nat.le_trans (Nat.le_trans (Nat.le_trans (Nat.le_refl _) (Keep.of_wr W6).1) (Keep.of_wr W8).1) (Keep.of_wr W10).1) (Keep.of_wr W12).1) (Keep.of_wr W14).1) (Keep.of_wr W16).1) E46.1) (Keep.of_wr W47).1) (Keep.of_wr W48).1)) (Nat.le_of_eq g49.symm)))) (v := (.long (FLD q3 (0 : Int32)))) (by decide) rfl at_227 rfl ?_
      refine m_lsub K X56.here hx hby (w0_2 q2 q3) at_228 rfl rfl ?_
      refine k_callS K X56 hx hby hZ [(.long (w0_2 q2 q3))] [(.long (0 : Int64))] hown (hw _ (List.mem_of_getElem? (i := 12) rfl)) (hw _ (List.mem_of_getElem? (i := 13) rfl)) (hw _ (List.mem_of_getElem? (i := 2) rfl)) (hw _ (List.mem_of_getElem? (i := 14) rfl)) (c3 l Z a0 hw (w0_2 q2 q3) h55 n0 (Nat.le_trans Z0 (Nat.le_trans (Nat.le_trans (Nat.le_trans (Nat.le_trans (Nat.le_trans (Nat.le_trans (Nat.le_trans (Nat.le_trans (Nat.le_trans (Nat.le_trans (Nat.le_trans (Nat.le_trans (Nat.le_trans (Nat.le_trans (Nat.le_trans (Nat.le_trans (Nat.le_trans (Nat.le_refl _) E4.1) (Keep.of_wr W6).1) (Keep.of_wr W8).1) (Keep.of_wr W10).1) (Keep.of_wr W12).1) (Keep.of_wr W14).1) (Keep.of_wr W16).1) E46.1) (Keep.of_wr W47).1) (Keep.of_wr W48).1) E49.1) (Keep.of_wr W50).1) (Keep.of_wr W51).1) (Keep.of_wr W52).1) (Keep.of_wr W53).1) (Keep.of_wr W54).1) (Keep.of_wr W55).1))) e56 rfl rfl pd_2 rfl at_229 (by rw [hml]; rfl) rfl (by decide) (by decide) (Nat.le_of_ble_eq_true rfl) (by decide) (by decide) fun v57 T57 L57 X57 q57 => ?_
      obtain ⟨rfl, e57, rfl⟩ := q57
      replace X57 := own_px X57
      refine k_some K (w := (.long (SQ (w0_2 q2 q3)))) ?_
      refine m_ladd K X57.here hx hby ((0 : Int64) + (SQ (w0_2 q2 q3))) at_232 rfl rfl ?_
      refine m_lstore K X57.here hx hby #[.val (.int p1), .val (.long q2), .second, .val (.long q3), .second, .val (.long q4), .second, .val (.int (2 : Int32)), .val (.int (0 : Int32)), .val (.long (FLD q2 (0 : Int32))), .second, .val (.long (FLD q2 (1 : Int32))), .second, .val (.long (FLD q2 (2 : Int32))), .second, .val (.ref b4), .val (.ref b46), .val (.ref b49), .val (.double (FP.l2d (SS_2_0 (FLD q2 (0 : Int32)) (FLD q2 (1 : Int32)) (FLD q3 (0 : Int32)) (FLD q3 (1 : Int32))))), .second, .val (.long ((0 : Int64) + (SQ (w0_2 q2 q3)))), .second] at_233 rfl rfl ?_
      refine m_iload K X57.here hx hby at_235 rfl rfl ?_
      refine m_iconst K X57.here hx hby (1 : Int32) at_237 rfl rfl ?_
      refine m_icmpN K X57.here hx hby (q := 241) at_238 (tlt (by decide : (1 : Int32) < (2 : Int32))).2.2.2 rfl ?_
      refine m_lload K X57.here hx hby at_241 rfl rfl ?_
      refine m_lload K X57.here hx hby at_243 rfl rfl ?_
      refine m_aload K X57.here hx hby at_245 rfl rfl rfl ?_
      refine m_iload K X57.here hx hby at_247 rfl rfl ?_
      refine m_iconst K X57.here hx hby (1 : Int32) at_249 rfl rfl ?_
      refine m_iadd K X57.here hx hby (1 : Int32) at_250 rfl rfl ?_
      refine k_ldJ K X57 hx hby hZ e57 ((((((((((V16.ext E46).other W47 (Nat.ne_of_lt (Nat.lt_of_lt_of_le (Nat.lt_of_lt_of_le V_b4.lt (Nat.le_trans (Nat.le_trans (Nat.le_trans (Nat.le_trans (Nat.le_trans (Nat.le_trans (Nat.le_refl _) (Keep.of_wr W6).1) (Keep.of_wr W8).1) (Keep.of_wr W10).1) (Keep.of_wr W12).1) (Keep.of_wr W14).1) (Keep.of_wr W16).1)) (Nat.le_of_eq g46.symm)))).other W48 (Nat.ne_of_lt (Nat.lt_of_lt_of_le (Nat.lt_of_lt_of_le V_b4.lt (Nat.le_trans (Nat.le_trans (Nat.le_trans (Nat.le_trans (Nat.le_trans (Nat.le_trans (Nat.le_refl _) (Keep.of_wr W6).1) (Keep.of_wr W8).1) (Keep.of_wr W10).1) (Keep.of_wr W12).1) (Keep.of_wr W14).1) (Keep.of_wr W16).1)) (Nat.le_of_eq g46.symm)))).ext E49).other W50 (Nat.ne_of_lt (Nat.lt_of_lt_of_le (Nat.lt_of_lt_of_le V_b4.lt (Nat.le_trans (Nat.le_trans (Nat.le_trans (Nat.le_trans (Nat.le_trans (Nat.le_trans (Nat.le_trans (Nat.le_trans (Nat.le_trans (Nat.le_refl _) (Keep.of_wr W6).1) (Keep.of_wr W8).1) (Keep.of_wr W10).1) (Keep.of_wr W12).1) (Keep.of_wr W14).1) (Keep.of_wr W16).1) E46.1) (Keep.of_wr W47).1) (Keep.of_wr W48).1)) (Nat.le_of_eq g49.symm)))).other W51 (Nat.ne_of_lt (Nat.lt_of_lt_of_le (Nat.lt_of_lt_of_le V_b4.lt (Nat.le_trans (Nat.le_trans (Nat.le_trans (Nat.le_trans (Nat.le_trans (Nat.le_trans (Nat.le_trans (Nat.le_trans (Nat.le_trans (Nat.le_refl _) (Keep.of_wr W6).1) (Keep.of_wr W8).1) (Keep.of_wr W10).1) (Keep.of_wr W12).1) (Keep.of_wr W14).1) (Keep.of_wr W16).1) E46.1) (Keep.of_wr W47).1) (Keep.of_wr W48).1)) (Nat.le_of_eq g49.symm)))).other W52 (Nat.ne_of_lt (Nat.lt_of_lt_of_le (Nat.lt_of_lt_of_le V_b4.lt (Nat.le_trans (Nat.le_trans (Nat.le_trans (Nat.le_trans (Nat.le_trans (Nat.le_trans (Nat.le_trans (Nat.le_trans (Nat.le_trans (Nat.le_refl _) (Keep.of_wr W6).1) (Keep.of_wr W8).1) (Keep.of_wr W10).1) (Keep.of_wr W12).1) (Keep.of_wr W14).1) (Keep.of_wr W16).1) E46.1) (Keep.of_wr W47).1) (Keep.of_wr W48).1)) (Nat.le_of_eq g49.symm)))).other W53 (Nat.ne_of_lt (Nat.lt_of_lt_of_le (Nat.lt_of_lt_of_le V_b4.lt (Nat.le_trans (Nat.le_trans (Nat.le_trans (Nat.le_trans (Nat.le_trans (Nat.le_trans (Nat.le_trans (Nat.le_trans (Nat.le_trans (Nat.le_refl _) (Keep.of_wr W6).1) (Keep.of_wr W8).1) (Keep.of_wr W10).1) (Keep.of_wr W12).1) (Keep.of_wr W14).1) (Keep.of_wr W16).1) E46.1) (Keep.of_wr W47).1) (Keep.of_wr W48).1)) (Nat.le_of_eq g49.symm)))).other W54 (Nat.ne_of_lt (Nat.lt_of_lt_of_le (Nat.lt_of_lt_of_le V_b4.lt (Nat.le_trans (Nat.le_trans (Nat.le_trans (Nat.le_trans (Nat.le_trans (Nat.le_trans (Nat.le_trans (Nat.le_trans (Nat.le_trans (Nat.le_refl _) (Keep.of_wr W6).1) (Keep.of_wr W8).1) (Keep.of_wr W10).1) (Keep.of_wr W12).1) (Keep.of_wr W14).1) (Keep.of_wr W16).1) E46.1) (Keep.of_wr W47).1) (Keep.of_wr W48).1)) (Nat.le_of_eq g49.symm)))).other W55 (Nat.ne_of_lt (Nat.lt_of_lt_of_le (Nat.lt_of_lt_of_le V_b4.lt (Nat.le_trans (Nat.le_trans (Nat.le_trans (Nat.le_trans (Nat.le_trans (Nat.le_trans (Nat.le_trans (Nat.le_trans (Nat.le_trans (Nat.le_refl _) (Keep.of_wr W6).1) (Keep.of_wr W8).1) (Keep.of_wr W10).1) (Keep.of_wr W12).1) (Keep.of_wr W14).1) (Keep.of_wr W16).1) E46.1) (Keep.of_wr W47).1) (Keep.of_wr W48).1)) (Nat.le_of_eq g49.symm)))) (v := (.long (FLD q3 (1 : Int32)))) (by decide) rfl at_251 rfl ?_
      refine m_lsub K X57.here hx hby (w0_6 q2 q3) at_252 rfl rfl ?_
      refine k_callS K X57 hx hby hZ [(.long (w0_6 q2 q3))] [(.long ((0 : Int64) + (SQ (w0_2 q2 q3))))] hown (hw _ (List.mem_of_getElem? (i := 12) rfl)) (hw _ (List.mem_of_getElem? (i := 13) rfl)) (hw _ (List.mem_of_getElem? (i := 2) rfl)) (hw _ (List.mem_of_getElem? (i := 14) rfl)) (c3 l Z a0 hw (w0_6 q2 q3) h55 n0 (Nat.le_trans Z0 (Nat.le_trans (Nat.le_trans (Nat.le_trans (Nat.le_trans (Nat.le_trans (Nat.le_trans (Nat.le_trans (Nat.le_trans (Nat.le_trans (Nat.le_trans (Nat.le_trans (Nat.le_trans (Nat.le_trans (Nat.le_trans (Nat.le_trans (Nat.le_trans (Nat.le_trans (Nat.le_refl _) E4.1) (Keep.of_wr W6).1) (Keep.of_wr W8).1) (Keep.of_wr W10).1) (Keep.of_wr W12).1) (Keep.of_wr W14).1) (Keep.of_wr W16).1) E46.1) (Keep.of_wr W47).1) (Keep.of_wr W48).1) E49.1) (Keep.of_wr W50).1) (Keep.of_wr W51).1) (Keep.of_wr W52).1) (Keep.of_wr W53).1) (Keep.of_wr W54).1) (Keep.of_wr W55).1))) e57 rfl rfl pd_2 rfl at_253 (by rw [hml]; rfl) rfl (by decide) (by decide) (Nat.le_of_ble_eq_true rfl) (by decide) (by decide) fun v58 T58 L58 X58 q58 => ?_
      obtain ⟨rfl, e58, rfl⟩ := q58
      replace X58 := own_px X58
      refine k_some K (w := (.long (SQ (w0_6 q2 q3)))) ?_
      refine m_ladd K X58.here hx hby (w0_7 q2 q3) at_256 rfl rfl ?_
      refine m_lstore K X58.here hx hby #[.val (.int p1), .val (.long q2), .second, .val (.long q3), .second, .val (.long q4), .second, .val (.int (2 : Int32)), .val (.int (0 : Int32)), .val (.long (FLD q2 (0 : Int32))), .second, .val (.long (FLD q2 (1 : Int32))), .second, .val (.long (FLD q2 (2 : Int32))), .second, .val (.ref b4), .val (.ref b46), .val (.ref b49), .val (.double (FP.l2d (SS_2_0 (FLD q2 (0 : Int32)) (FLD q2 (1 : Int32)) (FLD q3 (0 : Int32)) (FLD q3 (1 : Int32))))), .second, .val (.long (w0_7 q2 q3)), .second] at_257 rfl rfl ?_
      refine m_iload K X58.here hx hby at_259 rfl rfl ?_
      refine m_iconst K X58.here hx hby (2 : Int32) at_261 rfl rfl ?_
      refine m_icmpY K X58.here hx hby (q := 283) at_262 (flt (by decide : ¬ ((2 : Int32) < (2 : Int32)))).2.2.2 (by decide) rfl ?_
      refine m_dload K X58.here hx hby at_283 rfl rfl ?_
      refine m_lload K X58.here hx hby at_285 rfl rfl ?_
      refine m_l2d K X58.here hx hby (FP.l2d (w0_7 q2 q3)) at_287 rfl rfl ?_
      refine m_dcmp K X58.here hx hby (0 : Int32) at_288 (dcmpV_eq rfl (nn_w rfl) _) rfl ?_
      refine m_ifN K X58.here hx hby (q := 292) at_289 ((if0 _ _).trans (teq (by decide : (0 : Int32) = (0 : Int32))).2) rfl ?_
      refine m_iconst K X58.here hx hby (1 : Int32) at_292 rfl rfl ?_
      refine m_goto K X58.here hx hby (q := 297) at_293 (by decide) rfl ?_
      exact Go.retN X58 hx hby hlk hret (by simp) at_297 (by decide) (by decide) (by decide) (⟨rfl, N55⟩)
    · rw [hs8]
      refine m_aload K X55.here hx hby at_200 rfl rfl rfl ?_
      refine m_aload K X55.here hx hby at_202 rfl rfl rfl ?_
      refine m_iload K X55.here hx hby at_204 rfl rfl ?_
      refine k_callS K X55 hx hby hZ [(.ref b46), (.ref b49), (.int (1 : Int32))] [] hown (hw _ (List.mem_of_getElem? (i := 8) rfl)) (hw _ (List.mem_of_getElem? (i := 9) rfl)) (hw _ (List.mem_of_getElem? (i := 10) rfl)) (hw _ (List.mem_of_getElem? (i := 11) rfl)) (c2_2_1 l Z a0 hw b46 b49 (FLD q2 (0 : Int32)) (FLD q2 (1 : Int32)) (FLD q3 (0 : Int32)) (FLD q3 (1 : Int32)) (FLD q3 (2 : Int32)) (FLD q4 (0 : Int32)) (FLD q4 (1 : Int32)) (FLD q4 (2 : Int32)) h55 n0 (Nat.le_trans Z0 (Nat.le_trans (Nat.le_trans (Nat.le_trans (Nat.le_trans (Nat.le_trans (Nat.le_trans (Nat.le_trans (Nat.le_trans (Nat.le_trans (Nat.le_trans (Nat.le_trans (Nat.le_trans (Nat.le_trans (Nat.le_trans (Nat.le_trans (Nat.le_trans (Nat.le_trans (Nat.le_refl _) E4.1) (Keep.of_wr W6).1) (Keep.of_wr W8).1) (Keep.of_wr W10).1) (Keep.of_wr W12).1) (Keep.of_wr W14).1) (Keep.of_wr W16).1) E46.1) (Keep.of_wr W47).1) (Keep.of_wr W48).1) E49.1) (Keep.of_wr W50).1) (Keep.of_wr W51).1) (Keep.of_wr W52).1) (Keep.of_wr W53).1) (Keep.of_wr W54).1) (Keep.of_wr W55).1)) (((((((V48.ext E49).other W50 (Nat.ne_of_lt (Nat.lt_of_lt_of_le (Nat.lt_of_lt_of_le V_b46.lt (Nat.le_trans (Nat.le_trans (Nat.le_refl _) (Keep.of_wr W47).1) (Keep.of_wr W48).1)) (Nat.le_of_eq g49.symm)))).other W51 (Nat.ne_of_lt (Nat.lt_of_lt_of_le (Nat.lt_of_lt_of_le V_b46.lt (Nat.le_trans (Nat.le_trans (Nat.le_refl _) (Keep.of_wr W47).1) (Keep.of_wr W48).1)) (Nat.le_of_eq g49.symm)))).other W52 (Nat.ne_of_lt (Nat.lt_of_lt_of_le (Nat.lt_of_lt_of_le V_b46.lt (Nat.le_trans (Nat.le_trans (Nat.le_refl _) (Keep.of_wr W47).1) (Keep.of_wr W48).1)) (Nat.le_of_eq g49.symm)))).other W53 (Nat.ne_of_lt (Nat.lt_of_lt_of_le (Nat.lt_of_lt_of_le V_b46.lt (Nat.le_trans (Nat.le_trans (Nat.le_refl _) (Keep.of_wr W47).1) (Keep.of_wr W48).1)) (Nat.le_of_eq g49.symm)))).other W54 (Nat.ne_of_lt (Nat.lt_of_lt_of_le (Nat.lt_of_lt_of_le V_b46.lt (Nat.le_trans (Nat.le_trans (Nat.le_refl _) (Keep.of_wr W47).1) (Keep.of_wr W48).1)) (Nat.le_of_eq g49.symm)))).other W55 (Nat.ne_of_lt (Nat.lt_of_lt_of_le (Nat.lt_of_lt_of_le V_b46.lt (Nat.le_trans (Nat.le_trans (Nat.le_refl _) (Keep.of_wr W47).1) (Keep.of_wr W48).1)) (Nat.le_of_eq g49.symm)))) V55 (own_fld q2 (0 : Int32)) (own_fld q2 (1 : Int32)) (own_fld q3 (1 : Int32)) (own_fld q3 (2 : Int32))) e55 rfl rfl pd_1 rfl at_206 (by rw [hml]; rfl) rfl (by decide) (by decide) (Nat.le_of_ble_eq_true rfl) (by decide) (by decide) fun v59 T59 L59 X59 q59 => ?_
      obtain ⟨rfl, e59, rfl⟩ := q59
      replace X59 := own_px X59
      refine k_some K (w := (.double (FP.l2d (SS_2_1 (FLD q2 (0 : Int32)) (FLD q2 (1 : Int32)) (FLD q3 (1 : Int32)) (FLD q3 (2 : Int32)))))) ?_
      refine m_dstore K X59.here hx hby #[.val (.int p1), .val (.long q2), .second, .val (.long q3), .second, .val (.long q4), .second, .val (.int (2 : Int32)), .val (.int (1 : Int32)), .val (.long (FLD q2 (0 : Int32))), .second, .val (.long (FLD q2 (1 : Int32))), .second, .val (.long (FLD q2 (2 : Int32))), .second, .val (.ref b4), .val (.ref b46), .val (.ref b49), .val (.double (FP.l2d (SS_2_1 (FLD q2 (0 : Int32)) (FLD q2 (1 : Int32)) (FLD q3 (1 : Int32)) (FLD q3 (2 : Int32))))), .second, .unset, .unset] at_209 rfl rfl ?_
      refine m_lconst K X59.here hx hby (0 : Int64) at_211 rfl rfl ?_
      refine m_lstore K X59.here hx hby #[.val (.int p1), .val (.long q2), .second, .val (.long q3), .second, .val (.long q4), .second, .val (.int (2 : Int32)), .val (.int (1 : Int32)), .val (.long (FLD q2 (0 : Int32))), .second, .val (.long (FLD q2 (1 : Int32))), .second, .val (.long (FLD q2 (2 : Int32))), .second, .val (.ref b4), .val (.ref b46), .val (.ref b49), .val (.double (FP.l2d (SS_2_1 (FLD q2 (0 : Int32)) (FLD q2 (1 : Int32)) (FLD q3 (1 : Int32)) (FLD q3 (2 : Int32))))), .second, .val (.long (0 : Int64)), .second] at_212 rfl rfl ?_
      refine m_iload K X59.here hx hby at_214 rfl rfl ?_
      refine m_ifN K X59.here hx hby (q := 219) at_216 ((if0 _ _).trans (tlt (by decide : (0 : Int32) < (2 : Int32))).2.2.2) rfl ?_
      refine m_lload K X59.here hx hby at_219 rfl rfl ?_
      refine m_lload K X59.here hx hby at_221 rfl rfl ?_
      refine m_aload K X59.here hx hby at_223 rfl rfl rfl ?_
      refine m_iload K X59.here hx hby at_225 rfl rfl ?_
      refine k_ldJ K X59 hx hby hZ e59 ((((((((((V16.ext E46).other W47 (Nat.ne_of_lt (Nat.lt_of_lt_of_le (Nat.lt_of_lt_of_le V_b4.lt (Nat.le_trans (Nat.le_trans (Nat.le_trans (Nat.le_trans (Nat.le_trans (Nat.le_trans (Nat.le_refl _) (Keep.of_wr W6).1) (Keep.of_wr W8).1) (Keep.of_wr W10).1) (Keep.of_wr W12).1) (Keep.of_wr W14).1) (Keep.of_wr W16).1)) (Nat.le_of_eq g46.symm)))).other W48 (Nat.ne_of_lt (Nat.lt_of_lt_of_le (Nat.lt_of_lt_of_le V_b4.lt (Nat.le_trans (Nat.le_trans (Nat.le_trans (Nat.le_trans (Nat.le_trans (Nat.le_trans (Nat.le_refl _) (Keep.of_wr W6).1) (Keep.of_wr W8).1) (Keep.of_wr W10).1) (Keep.of_wr W12).1) (Keep.of_wr W14).1) (Keep.of_wr W16).1)) (Nat.le_of_eq g46.symm)))).ext E49).other W50 (Nat.ne_of_lt (Nat.lt_of_lt_of_le (Nat.lt_of_lt_of_le V_b4.lt (Nat.le_trans (Nat.le_trans (Nat.le_trans (Nat.le_trans (Nat.le_trans (Nat.le_trans (Nat.le_trans (Nat.le_trans (Nat.le_trans (Nat.le_refl _) (Keep.of_wr W6).1) (Keep.of_wr W8).1) (Keep.of_wr W10).1) (Keep.of_wr W12).1) (Keep.of_wr W14).1) (Keep.of_wr W16).1) E46.1) (Keep.of_wr W47).1) (Keep.of_wr W48).1)) (Nat.le_of_eq g49.symm)))).other W51 (Nat.ne_of_lt (Nat.lt_of_lt_of_le (Nat.lt_of_lt_of_le V_b4.lt (Nat.le_trans (Nat.le_trans (Nat.le_trans (Nat.le_trans (Nat.le_trans (Nat.le_trans (Nat.le_trans (Nat.le_trans (Nat.le_trans (Nat.le_refl _) (Keep.of_wr W6).1) (Keep.of_wr W8).1) (Keep.of_wr W10).1) (Keep.of_wr W12).1) (Keep.of_wr W14).1) (Keep.of_wr W16).1) E46.1) (Keep.of_wr W47).1) (Keep.of_wr W48).1)) (Nat.le_of_eq g49.symm)))).other W52 (Nat.ne_of_lt (Nat.lt_of_lt_of_le (Nat.lt_of_lt_of_le V_b4.lt (Nat.le_trans (Nat.le_trans (Nat.le_trans (Nat.le_trans (Nat.le_trans (Nat.le_trans (Nat.le_trans (Nat.le_trans (Nat.le_trans (Nat.le_refl _) (Keep.of_wr W6).1) (Keep.of_wr W8).1) (Keep.of_wr W10).1) (Keep.of_wr W12).1) (Keep.of_wr W14).1) (Keep.of_wr W16).1) E46.1) (Keep.of_wr W47).1) (Keep.of_wr W48).1)) (Nat.le_of_eq g49.symm)))).other W53 (Nat.ne_of_lt (Nat.lt_of_lt_of_le (Nat.lt_of_lt_of_le V_b4.lt (Nat.le_trans (Nat.le_trans (Nat.le_trans (Nat.le_trans (Nat.le_trans (Nat.le_trans (Nat.le_trans (Nat.le_trans (Nat.le_trans (Nat.le_refl _) (Keep.of_wr W6).1) (Keep.of_wr W8).1) (Keep.of_wr W10).1) (Keep.of_wr W12).1) (Keep.of_wr W14).1) (Keep.of_wr W16).1) E46.1) (Keep.of_wr W47).1) (Keep.of_wr W48).1)) (Nat.le_of_eq g49.symm)))).other W54 (Nat.ne_of_lt (Nat.lt_of_lt_of_le (Nat.lt_of_lt_of_le V_b4.lt (Nat.le_trans (Nat.le_trans (Nat.le_trans (Nat.le_trans (Nat.le_trans (Nat.le_trans (Nat.le_trans (Nat.le_trans (Nat.le_trans (Nat.le_refl _) (Keep.of_wr W6).1) (Keep.of_wr W8).1) (Keep.of_wr W10).1) (Keep.of_wr W12).1) (Keep.of_wr W14).1) (Keep.of_wr W16).1) E46.1) (Keep.of_wr W47).1) (Keep.of_wr W48).1)) (Nat.le_of_eq g49.symm)))).other W55 (Nat.ne_of_lt (Nat.lt_of_lt_of_le (Nat.lt_of_lt_of_le V_b4.lt (Nat.le_trans (Nat.le_trans (Nat.le_trans (Nat.le_trans (Nat.le_trans (Nat.le_trans (Nat.le_trans (Nat.le_trans (Nat.le_trans (Nat.le_refl _) (Keep.of_wr W6).1) (Keep.of_wr W8).1) (Keep.of_wr W10).1) (Keep.of_wr W12).1) (Keep.of_wr W14).1) (Keep.of_wr W16).1) E46.1) (Keep.of_wr W47).1) (Keep.of_wr W48).1)) (Nat.le_of_eq g49.symm)))) (v := (.long (FLD q3 (1 : Int32)))) (by decide) rfl at_227 rfl ?_
      refine m_lsub K X59.here hx hby (w0_3 q2 q3) at_228 rfl rfl ?_
      refine k_callS K X59 hx hby hZ [(.long (w0_3 q2 q3))] [(.long (0 : Int64))] hown (hw _ (List.mem_of_getElem? (i := 12) rfl)) (hw _ (List.mem_of_getElem? (i := 13) rfl)) (hw _ (List.mem_of_getElem? (i := 2) rfl)) (hw _ (List.mem_of_getElem? (i := 14) rfl)) (c3 l Z a0 hw (w0_3 q2 q3) h55 n0 (Nat.le_trans Z0 (Nat.le_trans (Nat.le_trans (Nat.le_trans (Nat.le_trans (Nat.le_trans (Nat.le_trans (Nat.le_trans (Nat.le_trans (Nat.le_trans (Nat.le_trans (Nat.le_trans (Nat.le_trans (Nat.le_trans (Nat.le_trans (Nat.le_trans (Nat.le_trans (Nat.le_trans (Nat.le_refl _) E4.1) (Keep.of_wr W6).1) (Keep.of_wr W8).1) (Keep.of_wr W10).1) (Keep.of_wr W12).1) (Keep.of_wr W14).1) (Keep.of_wr W16).1) E46.1) (Keep.of_wr W47).1) (Keep.of_wr W48).1) E49.1) (Keep.of_wr W50).1) (Keep.of_wr W51).1) (Keep.of_wr W52).1) (Keep.of_wr W53).1) (Keep.of_wr W54).1) (Keep.of_wr W55).1))) e59 rfl rfl pd_2 rfl at_229 (by rw [hml]; rfl) rfl (by decide) (by decide) (Nat.le_of_ble_eq_true rfl) (by decide) (by decide) fun v60 T60 L60 X60 q60 => ?_
      obtain ⟨rfl, e60, rfl⟩ := q60
      replace X60 := own_px X60
      refine k_some K (w := (.long (SQ (w0_3 q2 q3)))) ?_
      refine m_ladd K X60.here hx hby ((0 : Int64) + (SQ (w0_3 q2 q3))) at_232 rfl rfl ?_
      refine m_lstore K X60.here hx hby #[.val (.int p1), .val (.long q2), .second, .val (.long q3), .second, .val (.long q4), .second, .val (.int (2 : Int32)), .val (.int (1 : Int32)), .val (.long (FLD q2 (0 : Int32))), .second, .val (.long (FLD q2 (1 : Int32))), .second, .val (.long (FLD q2 (2 : Int32))), .second, .val (.ref b4), .val (.ref b46), .val (.ref b49), .val (.double (FP.l2d (SS_2_1 (FLD q2 (0 : Int32)) (FLD q2 (1 : Int32)) (FLD q3 (1 : Int32)) (FLD q3 (2 : Int32))))), .second, .val (.long ((0 : Int64) + (SQ (w0_3 q2 q3)))), .second] at_233 rfl rfl ?_
      refine m_iload K X60.here hx hby at_235 rfl rfl ?_
      refine m_iconst K X60.here hx hby (1 : Int32) at_237 rfl rfl ?_
      refine m_icmpN K X60.here hx hby (q := 241) at_238 (tlt (by decide : (1 : Int32) < (2 : Int32))).2.2.2 rfl ?_
      refine m_lload K X60.here hx hby at_241 rfl rfl ?_
      refine m_lload K X60.here hx hby at_243 rfl rfl ?_
      refine m_aload K X60.here hx hby at_245 rfl rfl rfl ?_
      refine m_iload K X60.here hx hby at_247 rfl rfl ?_
      refine m_iconst K X60.here hx hby (1 : Int32) at_249 rfl rfl ?_
      refine m_iadd K X60.here hx hby (2 : Int32) at_250 rfl rfl ?_
      refine k_ldJ K X60 hx hby hZ e60 ((((((((((V16.ext E46).other W47 (Nat.ne_of_lt (Nat.lt_of_lt_of_le (Nat.lt_of_lt_of_le V_b4.lt (Nat.le_trans (Nat.le_trans (Nat.le_trans (Nat.le_trans (Nat.le_trans (Nat.le_trans (Nat.le_refl _) (Keep.of_wr W6).1) (Keep.of_wr W8).1) (Keep.of_wr W10).1) (Keep.of_wr W12).1) (Keep.of_wr W14).1) (Keep.of_wr W16).1)) (Nat.le_of_eq g46.symm)))).other W48 (Nat.ne_of_lt (Nat.lt_of_lt_of_le (Nat.lt_of_lt_of_le V_b4.lt (Nat.le_trans (Nat.le_trans (Nat.le_trans (Nat.le_trans (Nat.le_trans (Nat.le_trans (Nat.le_refl _) (Keep.of_wr W6).1) (Keep.of_wr W8).1) (Keep.of_wr W10).1) (Keep.of_wr W12).1) (Keep.of_wr W14).1) (Keep.of_wr W16).1)) (Nat.le_of_eq g46.symm)))).ext E49).other W50 (Nat.ne_of_lt (Nat.lt_of_lt_of_le (Nat.lt_of_lt_of_le V_b4.lt (Nat.le_trans (Nat.le_trans (Nat.le_trans (Nat.le_trans (Nat.le_trans (Nat.le_trans (Nat.le_trans (Nat.le_trans (Nat.le_trans (Nat.le_refl _) (Keep.of_wr W6).1) (Keep.of_wr W8).1) (Keep.of_wr W10).1) (Keep.of_wr W12).1) (Keep.of_wr W14).1) (Keep.of_wr W16).1) E46.1) (Keep.of_wr W47).1) (Keep.of_wr W48).1)) (Nat.le_of_eq g49.symm)))).other W51 (Nat.ne_of_lt (Nat.lt_of_lt_of_le (Nat.lt_of_lt_of_le V_b4.lt (Nat.le_trans (Nat.le_trans (Nat.le_trans (Nat.le_trans (Nat.le_trans (Nat.le_trans (Nat.le_trans (Nat.le_trans (Nat.le_trans (Nat.le_refl _) (Keep.of_wr W6).1) (Keep.of_wr W8).1) (Keep.of_wr W10).1) (Keep.of_wr W12).1) (Keep.of_wr W14).1) (Keep.of_wr W16).1) E46.1) (Keep.of_wr W47).1) (Keep.of_wr W48).1)) (Nat.le_of_eq g49.symm)))).other W52 (Nat.ne_of_lt (Nat.lt_of_lt_of_le (Nat.lt_of_lt_of_le V_b4.lt (Nat.le_trans (Nat.le_trans (Nat.le_trans (Nat.le_trans (Nat.le_trans (Nat.le_trans (Nat.le_trans (Nat.le_trans (Nat.le_trans (Nat.le_refl _) (Keep.of_wr W6).1) (Keep.of_wr W8).1) (Keep.of_wr W10).1) (Keep.of_wr W12).1) (Keep.of_wr W14).1) (Keep.of_wr W16).1) E46.1) (Keep.of_wr W47).1) (Keep.of_wr W48).1)) (Nat.le_of_eq g49.symm)))).other W53 (Nat.ne_of_lt (Nat.lt_of_lt_of_le (Nat.lt_of_lt_of_le V_b4.lt (Nat.le_trans (Nat.le_trans (Nat.le_trans (Nat.le_trans (Nat.le_trans (Nat.le_trans (Nat.le_trans (Nat.le_trans (Nat.le_trans (Nat.le_refl _) (Keep.of_wr W6).1) (Keep.of_wr W8).1) (Keep.of_wr W10).1) (Keep.of_wr W12).1) (Keep.of_wr W14).1) (Keep.of_wr W16).1) E46.1) (Keep.of_wr W47).1) (Keep.of_wr W48).1)) (Nat.le_of_eq g49.symm)))).other W54 (Nat.ne_of_lt (Nat.lt_of_lt_of_le (Nat.lt_of_lt_of_le V_b4.lt (Nat.le_trans (Nat.le_trans (Nat.le_trans (Nat.le_trans (Nat.le_trans (Nat.le_trans (Nat.le_trans (Nat.le_trans (Nat.le_trans (Nat.le_refl _) (Keep.of_wr W6).1) (Keep.of_wr W8).1) (Keep.of_wr W10).1) (Keep.of_wr W12).1) (Keep.of_wr W14).1) (Keep.of_wr W16).1) E46.1) (Keep.of_wr W47).1) (Keep.of_wr W48).1)) (Nat.le_of_eq g49.symm)))).other W55 (Nat.ne_of_lt (Nat.lt_of_lt_of_le (Nat.lt_of_lt_of_le V_b4.lt (Nat.le_trans (Nat.le_trans (Nat.le_trans (Nat.le_trans (Nat.le_trans (Nat.le_trans (Nat.le_trans (Nat.le_trans (Nat.le_trans (Nat.le_refl _) (Keep.of_wr W6).1) (Keep.of_wr W8).1) (Keep.of_wr W10).1) (Keep.of_wr W12).1) (Keep.of_wr W14).1) (Keep.of_wr W16).1) E46.1) (Keep.of_wr W47).1) (Keep.of_wr W48).1)) (Nat.le_of_eq g49.symm)))) (v := (.long (FLD q3 (2 : Int32)))) (by decide) rfl at_251 rfl ?_
      refine m_lsub K X60.here hx hby (w0_8 q2 q3) at_252 rfl rfl ?_
      refine k_callS K X60 hx hby hZ [(.long (w0_8 q2 q3))] [(.long ((0 : Int64) + (SQ (w0_3 q2 q3))))] hown (hw _ (List.mem_of_getElem? (i := 12) rfl)) (hw _ (List.mem_of_getElem? (i := 13) rfl)) (hw _ (List.mem_of_getElem? (i := 2) rfl)) (hw _ (List.mem_of_getElem? (i := 14) rfl)) (c3 l Z a0 hw (w0_8 q2 q3) h55 n0 (Nat.le_trans Z0 (Nat.le_trans (Nat.le_trans (Nat.le_trans (Nat.le_trans (Nat.le_trans (Nat.le_trans (Nat.le_trans (Nat.le_trans (Nat.le_trans (Nat.le_trans (Nat.le_trans (Nat.le_trans (Nat.le_trans (Nat.le_trans (Nat.le_trans (Nat.le_trans (Nat.le_trans (Nat.le_refl _) E4.1) (Keep.of_wr W6).1) (Keep.of_wr W8).1) (Keep.of_wr W10).1) (Keep.of_wr W12).1) (Keep.of_wr W14).1) (Keep.of_wr W16).1) E46.1) (Keep.of_wr W47).1) (Keep.of_wr W48).1) E49.1) (Keep.of_wr W50).1) (Keep.of_wr W51).1) (Keep.of_wr W52).1) (Keep.of_wr W53).1) (Keep.of_wr W54).1) (Keep.of_wr W55).1))) e60 rfl rfl pd_2 rfl at_253 (by rw [hml]; rfl) rfl (by decide) (by decide) (Nat.le_of_ble_eq_true rfl) (by decide) (by decide) fun v61 T61 L61 X61 q61 => ?_
      obtain ⟨rfl, e61, rfl⟩ := q61
      replace X61 := own_px X61
      refine k_some K (w := (.long (SQ (w0_8 q2 q3)))) ?_
      refine m_ladd K X61.here hx hby (w0_9 q2 q3) at_256 rfl rfl ?_
      refine m_lstore K X61.here hx hby #[.val (.int p1), .val (.long q2), .second, .val (.long q3), .second, .val (.long q4), .second, .val (.int (2 : Int32)), .val (.int (1 : Int32)), .val (.long (FLD q2 (0 : Int32))), .second, .val (.long (FLD q2 (1 : Int32))), .second, .val (.long (FLD q2 (2 : Int32))), .second, .val (.ref b4), .val (.ref b46), .val (.ref b49), .val (.double (FP.l2d (SS_2_1 (FLD q2 (0 : Int32)) (FLD q2 (1 : Int32)) (FLD q3 (1 : Int32)) (FLD q3 (2 : Int32))))), .second, .val (.long (w0_9 q2 q3)), .second] at_257 rfl rfl ?_
      refine m_iload K X61.here hx hby at_259 rfl rfl ?_
      refine m_iconst K X61.here hx hby (2 : Int32) at_261 rfl rfl ?_
      refine m_icmpY K X61.here hx hby (q := 283) at_262 (flt (by decide : ¬ ((2 : Int32) < (2 : Int32)))).2.2.2 (by decide) rfl ?_
      refine m_dload K X61.here hx hby at_283 rfl rfl ?_
      refine m_lload K X61.here hx hby at_285 rfl rfl ?_
      refine m_l2d K X61.here hx hby (FP.l2d (w0_9 q2 q3)) at_287 rfl rfl ?_
      refine m_dcmp K X61.here hx hby (0 : Int32) at_288 (dcmpV_eq rfl (nn_w rfl) _) rfl ?_
      refine m_ifN K X61.here hx hby (q := 292) at_289 ((if0 _ _).trans (teq (by decide : (0 : Int32) = (0 : Int32))).2) rfl ?_
      refine m_iconst K X61.here hx hby (1 : Int32) at_292 rfl rfl ?_
      refine m_goto K X61.here hx hby (q := 297) at_293 (by decide) rfl ?_
      exact Go.retN X61 hx hby hlk hret (by simp) at_297 (by decide) (by decide) (by decide) (⟨rfl, N55⟩)
    · rw [hs8]
      refine m_aload K X55.here hx hby at_200 rfl rfl rfl ?_
      refine m_aload K X55.here hx hby at_202 rfl rfl rfl ?_
      refine m_iload K X55.here hx hby at_204 rfl rfl ?_
      refine k_callS K X55 hx hby hZ [(.ref b46), (.ref b49), (.int (2 : Int32))] [] hown (hw _ (List.mem_of_getElem? (i := 8) rfl)) (hw _ (List.mem_of_getElem? (i := 9) rfl)) (hw _ (List.mem_of_getElem? (i := 10) rfl)) (hw _ (List.mem_of_getElem? (i := 11) rfl)) (c2_2_2 l Z a0 hw b46 b49 (FLD q2 (0 : Int32)) (FLD q2 (1 : Int32)) (FLD q3 (0 : Int32)) (FLD q3 (1 : Int32)) (FLD q3 (2 : Int32)) (FLD q4 (0 : Int32)) (FLD q4 (1 : Int32)) (FLD q4 (2 : Int32)) h55 n0 (Nat.le_trans Z0 (Nat.le_trans (Nat.le_trans (Nat.le_trans (Nat.le_trans (Nat.le_trans (Nat.le_trans (Nat.le_trans (Nat.le_trans (Nat.le_trans (Nat.le_trans (Nat.le_trans (Nat.le_trans (Nat.le_trans (Nat.le_trans (Nat.le_trans (Nat.le_trans (Nat.le_trans (Nat.le_refl _) E4.1) (Keep.of_wr W6).1) (Keep.of_wr W8).1) (Keep.of_wr W10).1) (Keep.of_wr W12).1) (Keep.of_wr W14).1) (Keep.of_wr W16).1) E46.1) (Keep.of_wr W47).1) (Keep.of_wr W48).1) E49.1) (Keep.of_wr W50).1) (Keep.of_wr W51).1) (Keep.of_wr W52).1) (Keep.of_wr W53).1) (Keep.of_wr W54).1) (Keep.of_wr W55).1)) (((((((V48.ext E49).other W50 (Nat.ne_of_lt (Nat.lt_of_lt_of_le (Nat.lt_of_lt_of_le V_b46.lt (Nat.le_trans (Nat.le_trans (Nat.le_refl _) (Keep.of_wr W47).1) (Keep.of_wr W48).1)) (Nat.le_of_eq g49.symm)))).other W51 (Nat.ne_of_lt (Nat.lt_of_lt_of_le (Nat.lt_of_lt_of_le V_b46.lt (Nat.le_trans (Nat.le_trans (Nat.le_refl _) (Keep.of_wr W47).1) (Keep.of_wr W48).1)) (Nat.le_of_eq g49.symm)))).other W52 (Nat.ne_of_lt (Nat.lt_of_lt_of_le (Nat.lt_of_lt_of_le V_b46.lt (Nat.le_trans (Nat.le_trans (Nat.le_refl _) (Keep.of_wr W47).1) (Keep.of_wr W48).1)) (Nat.le_of_eq g49.symm)))).other W53 (Nat.ne_of_lt (Nat.lt_of_lt_of_le (Nat.lt_of_lt_of_le V_b46.lt (Nat.le_trans (Nat.le_trans (Nat.le_refl _) (Keep.of_wr W47).1) (Keep.of_wr W48).1)) (Nat.le_of_eq g49.symm)))).other W54 (Nat.ne_of_lt (Nat.lt_of_lt_of_le (Nat.lt_of_lt_of_le V_b46.lt (Nat.le_trans (Nat.le_trans (Nat.le_refl _) (Keep.of_wr W47).1) (Keep.of_wr W48).1)) (Nat.le_of_eq g49.symm)))).other W55 (Nat.ne_of_lt (Nat.lt_of_lt_of_le (Nat.lt_of_lt_of_le V_b46.lt (Nat.le_trans (Nat.le_trans (Nat.le_refl _) (Keep.of_wr W47).1) (Keep.of_wr W48).1)) (Nat.le_of_eq g49.symm)))) V55 (own_fld q2 (0 : Int32)) (own_fld q2 (1 : Int32)) (own_fld q3 (2 : Int32)) (own_fld q4 (0 : Int32))) e55 rfl rfl pd_1 rfl at_206 (by rw [hml]; rfl) rfl (by decide) (by decide) (Nat.le_of_ble_eq_true rfl) (by decide) (by decide) fun v62 T62 L62 X62 q62 => ?_
      obtain ⟨rfl, e62, rfl⟩ := q62
      replace X62 := own_px X62
      refine k_some K (w := (.double (FP.l2d (SS_2_2 (FLD q2 (0 : Int32)) (FLD q2 (1 : Int32)) (FLD q3 (2 : Int32)) (FLD q4 (0 : Int32)))))) ?_
      refine m_dstore K X62.here hx hby #[.val (.int p1), .val (.long q2), .second, .val (.long q3), .second, .val (.long q4), .second, .val (.int (2 : Int32)), .val (.int (2 : Int32)), .val (.long (FLD q2 (0 : Int32))), .second, .val (.long (FLD q2 (1 : Int32))), .second, .val (.long (FLD q2 (2 : Int32))), .second, .val (.ref b4), .val (.ref b46), .val (.ref b49), .val (.double (FP.l2d (SS_2_2 (FLD q2 (0 : Int32)) (FLD q2 (1 : Int32)) (FLD q3 (2 : Int32)) (FLD q4 (0 : Int32))))), .second, .unset, .unset] at_209 rfl rfl ?_
      refine m_lconst K X62.here hx hby (0 : Int64) at_211 rfl rfl ?_
      refine m_lstore K X62.here hx hby #[.val (.int p1), .val (.long q2), .second, .val (.long q3), .second, .val (.long q4), .second, .val (.int (2 : Int32)), .val (.int (2 : Int32)), .val (.long (FLD q2 (0 : Int32))), .second, .val (.long (FLD q2 (1 : Int32))), .second, .val (.long (FLD q2 (2 : Int32))), .second, .val (.ref b4), .val (.ref b46), .val (.ref b49), .val (.double (FP.l2d (SS_2_2 (FLD q2 (0 : Int32)) (FLD q2 (1 : Int32)) (FLD q3 (2 : Int32)) (FLD q4 (0 : Int32))))), .second, .val (.long (0 : Int64)), .second] at_212 rfl rfl ?_
      refine m_iload K X62.here hx hby at_214 rfl rfl ?_
      refine m_ifN K X62.here hx hby (q := 219) at_216 ((if0 _ _).trans (tlt (by decide : (0 : Int32) < (2 : Int32))).2.2.2) rfl ?_
      refine m_lload K X62.here hx hby at_219 rfl rfl ?_
      refine m_lload K X62.here hx hby at_221 rfl rfl ?_
      refine m_aload K X62.here hx hby at_223 rfl rfl rfl ?_
      refine m_iload K X62.here hx hby at_225 rfl rfl ?_
      refine k_ldJ K X62 hx hby hZ e62 ((((((((((V16.ext E46).other W47 (Nat.ne_of_lt (Nat.lt_of_lt_of_le (Nat.lt_of_lt_of_le V_b4.lt (Nat.le_trans (Nat.le_trans (Nat.le_trans (Nat.le_trans (Nat.le_trans (Nat.le_trans (Nat.le_refl _) (Keep.of_wr W6).1) (Keep.of_wr W8).1) (Keep.of_wr W10).1) (Keep.of_wr W12).1) (Keep.of_wr W14).1) (Keep.of_wr W16).1)) (Nat.le_of_eq g46.symm)))).other W48 (Nat.ne_of_lt (Nat.lt_of_lt_of_le (Nat.lt_of_lt_of_le V_b4.lt (Nat.le_trans (Nat.le_trans (Nat.le_trans (Nat.le_trans (Nat.le_trans (Nat.le_trans (Nat.le_refl _) (Keep.of_wr W6).1) (Keep.of_wr W8).1) (Keep.of_wr W10).1) (Keep.of_wr W12).1) (Keep.of_wr W14).1) (Keep.of_wr W16).1)) (Nat.le_of_eq g46.symm)))).ext E49).other W50 (Nat.ne_of_lt (Nat.lt_of_lt_of_le (Nat.lt_of_lt_of_le V_b4.lt (Nat.le_trans (Nat.le_trans (Nat.le_trans (Nat.le_trans (Nat.le_trans (Nat.le_trans (Nat.le_trans (Nat.le_trans (Nat.le_trans (Nat.le_refl _) (Keep.of_wr W6).1) (Keep.of_wr W8).1) (Keep.of_wr W10).1) (Keep.of_wr W12).1) (Keep.of_wr W14).1) (Keep.of_wr W16).1) E46.1) (Keep.of_wr W47).1) (Keep.of_wr W48).1)) (Nat.le_of_eq g49.symm)))).other W51 (Nat.ne_of_lt (Nat.lt_of_lt_of_le (Nat.lt_of_lt_of_le V_b4.lt (Nat.le_trans (Nat.le_trans (Nat.le_trans (Nat.le_trans (Nat.le_trans (Nat.le_trans (Nat.le_trans (Nat.le_trans (Nat.le_trans (Nat.le_refl _) (Keep.of_wr W6).1) (Keep.of_wr W8).1) (Keep.of_wr W10).1) (Keep.of_wr W12).1) (Keep.of_wr W14).1) (Keep.of_wr W16).1) E46.1) (Keep.of_wr W47).1) (Keep.of_wr W48).1)) (Nat.le_of_eq g49.symm)))).other W52 (Nat.ne_of_lt (Nat.lt_of_lt_of_le (Nat.lt_of_lt_of_le V_b4.lt (Nat.le_trans (Nat.le_trans (Nat.le_trans (Nat.le_trans (Nat.le_trans (Nat.le_trans (Nat.le_trans (Nat.le_trans (Nat.le_trans (Nat.le_refl _) (Keep.of_wr W6).1) (Keep.of_wr W8).1) (Keep.of_wr W10).1) (Keep.of_wr W12).1) (Keep.of_wr W14).1) (Keep.of_wr W16).1) E46.1) (Keep.of_wr W47).1) (Keep.of_wr W48).1)) (Nat.le_of_eq g49.symm)))).other W53 (Nat.ne_of_lt (Nat.lt_of_lt_of_le (Nat.lt_of_lt_of_le V_b4.lt (Nat.le_trans (Nat.le_trans (Nat.le_trans (Nat.le_trans (Nat.le_trans (Nat.le_trans (Nat.le_trans (Nat.le_trans (Nat.le_trans (Nat.le_refl _) (Keep.of_wr W6).1) (Keep.of_wr W8).1) (Keep.of_wr W10).1) (Keep.of_wr W12).1) (Keep.of_wr W14).1) (Keep.of_wr W16).1) E46.1) (Keep.of_wr W47).1) (Keep.of_wr W48).1)) (Nat.le_of_eq g49.symm)))).other W54 (Nat.ne_of_lt (Nat.lt_of_lt_of_le (Nat.lt_of_lt_of_le V_b4.lt (Nat.le_trans (Nat.le_trans (Nat.le_trans (Nat.le_trans (Nat.le_trans (Nat.le_trans (Nat.le_trans (Nat.le_trans (Nat.le_trans (Nat.le_refl _) (Keep.of_wr W6).1) (Keep.of_wr W8).1) (Keep.of_wr W10).1) (Keep.of_wr W12).1) (Keep.of_wr W14).1) (Keep.of_wr W16).1) E46.1) (Keep.of_wr W47).1) (Keep.of_wr W48).1)) (Nat.le_of_eq g49.symm)))).other W55 (Nat.ne_of_lt (Nat.lt_of_lt_of_le (Nat.lt_of_lt_of_le V_b4.lt (Nat.le_trans (Nat.le_trans (Nat.le_trans (Nat.le_trans (Nat.le_trans (Nat.le_trans (Nat.le_trans (Nat.le_trans (Nat.le_trans (Nat.le_refl _) (Keep.of_wr W6).1) (Keep.of_wr W8).1) (Keep.of_wr W10).1) (Keep.of_wr W12).1) (Keep.of_wr W14).1) (Keep.of_wr W16).1) E46.1) (Keep.of_wr W47).1) (Keep.of_wr W48).1)) (Nat.le_of_eq g49.symm)))) (v := (.long (FLD q3 (2 : Int32)))) (by decide) rfl at_227 rfl ?_
      refine m_lsub K X62.here hx hby (w0_4 q2 q3) at_228 rfl rfl ?_
      refine k_callS K X62 hx hby hZ [(.long (w0_4 q2 q3))] [(.long (0 : Int64))] hown (hw _ (List.mem_of_getElem? (i := 12) rfl)) (hw _ (List.mem_of_getElem? (i := 13) rfl)) (hw _ (List.mem_of_getElem? (i := 2) rfl)) (hw _ (List.mem_of_getElem? (i := 14) rfl)) (c3 l Z a0 hw (w0_4 q2 q3) h55 n0 (Nat.le_trans Z0 (Nat.le_trans (Nat.le_trans (Nat.le_trans (Nat.le_trans (Nat.le_trans (Nat.le_trans (Nat.le_trans (Nat.le_trans (Nat.le_trans (Nat.le_trans (Nat.le_trans (Nat.le_trans (Nat.le_trans (Nat.le_trans (Nat.le_trans (Nat.le_trans (Nat.le_trans (Nat.le_refl _) E4.1) (Keep.of_wr W6).1) (Keep.of_wr W8).1) (Keep.of_wr W10).1) (Keep.of_wr W12).1) (Keep.of_wr W14).1) (Keep.of_wr W16).1) E46.1) (Keep.of_wr W47).1) (Keep.of_wr W48).1) E49.1) (Keep.of_wr W50).1) (Keep.of_wr W51).1) (Keep.of_wr W52).1) (Keep.of_wr W53).1) (Keep.of_wr W54).1) (Keep.of_wr W55).1))) e62 rfl rfl pd_2 rfl at_229 (by rw [hml]; rfl) rfl (by decide) (by decide) (Nat.le_of_ble_eq_true rfl) (by decide) (by decide) fun v63 T63 L63 X63 q63 => ?_
      obtain ⟨rfl, e63, rfl⟩ := q63
      replace X63 := own_px X63
      refine k_some K (w := (.long (SQ (w0_4 q2 q3)))) ?_
      refine m_ladd K X63.here hx hby ((0 : Int64) + (SQ (w0_4 q2 q3))) at_232 rfl rfl ?_
      refine m_lstore K X63.here hx hby #[.val (.int p1), .val (.long q2), .second, .val (.long q3), .second, .val (.long q4), .second, .val (.int (2 : Int32)), .val (.int (2 : Int32)), .val (.long (FLD q2 (0 : Int32))), .second, .val (.long (FLD q2 (1 : Int32))), .second, .val (.long (FLD q2 (2 : Int32))), .second, .val (.ref b4), .val (.ref b46), .val (.ref b49), .val (.double (FP.l2d (SS_2_2 (FLD q2 (0 : Int32)) (FLD q2 (1 : Int32)) (FLD q3 (2 : Int32)) (FLD q4 (0 : Int32))))), .second, .val (.long ((0 : Int64) + (SQ (w0_4 q2 q3)))), .second] at_233 rfl rfl ?_
      refine m_iload K X63.here hx hby at_235 rfl rfl ?_
      refine m_iconst K X63.here hx hby (1 : Int32) at_237 rfl rfl ?_
      refine m_icmpN K X63.here hx hby (q := 241) at_238 (tlt (by decide : (1 : Int32) < (2 : Int32))).2.2.2 rfl ?_
      refine m_lload K X63.here hx hby at_241 rfl rfl ?_
      refine m_lload K X63.here hx hby at_243 rfl rfl ?_
      refine m_aload K X63.here hx hby at_245 rfl rfl rfl ?_
      refine m_iload K X63.here hx hby at_247 rfl rfl ?_
      refine m_iconst K X63.here hx hby (1 : Int32) at_249 rfl rfl ?_
      refine m_iadd K X63.here hx hby (3 : Int32) at_250 rfl rfl ?_
      refine k_ldJ K X63 hx hby hZ e63 ((((((((((V16.ext E46).other W47 (Nat.ne_of_lt (Nat.lt_of_lt_of_le (Nat.lt_of_lt_of_le V_b4.lt (Nat.le_trans (Nat.le_trans (Nat.le_trans (Nat.le_trans (Nat.le_trans (Nat.le_trans (Nat.le_refl _) (Keep.of_wr W6).1) (Keep.of_wr W8).1) (Keep.of_wr W10).1) (Keep.of_wr W12).1) (Keep.of_wr W14).1) (Keep.of_wr W16).1)) (Nat.le_of_eq g46.symm)))).other W48 (Nat.ne_of_lt (Nat.lt_of_lt_of_le (Nat.lt_of_lt_of_le V_b4.lt (Nat.le_trans (Nat.le_trans (Nat.le_trans (Nat.le_trans (Nat.le_trans (Nat.le_trans (Nat.le_refl _) (Keep.of_wr W6).1) (Keep.of_wr W8).1) (Keep.of_wr W10).1) (Keep.of_wr W12).1) (Keep.of_wr W14).1) (Keep.of_wr W16).1)) (Nat.le_of_eq g46.symm)))).ext E49).other W50 (Nat.ne_of_lt (Nat.lt_of_lt_of_le (Nat.lt_of_lt_of_le V_b4.lt (Nat.le_trans (Nat.le_trans (Nat.le_trans (Nat.le_trans (Nat.le_trans (Nat.le_trans (Nat.le_trans (Nat.le_trans (Nat.le_trans (Nat.le_refl _) (Keep.of_wr W6).1) (Keep.of_wr W8).1) (Keep.of_wr W10).1) (Keep.of_wr W12).1) (Keep.of_wr W14).1) (Keep.of_wr W16).1) E46.1) (Keep.of_wr W47).1) (Keep.of_wr W48).1)) (Nat.le_of_eq g49.symm)))).other W51 (Nat.ne_of_lt (Nat.lt_of_lt_of_le (Nat.lt_of_lt_of_le V_b4.lt (Nat.le_trans (Nat.le_trans (Nat.le_trans (Nat.le_trans (Nat.le_trans (Nat.le_trans (Nat.le_trans (Nat.le_trans (Nat.le_trans (Nat.le_refl _) (Keep.of_wr W6).1) (Keep.of_wr W8).1) (Keep.of_wr W10).1) (Keep.of_wr W12).1) (Keep.of_wr W14).1) (Keep.of_wr W16).1) E46.1) (Keep.of_wr W47).1) (Keep.of_wr W48).1)) (Nat.le_of_eq g49.symm)))).other W52 (Nat.ne_of_lt (Nat.lt_of_lt_of_le (Nat.lt_of_lt_of_le V_b4.lt (Nat.le_trans (Nat.le_trans (Nat.le_trans (Nat.le_trans (Nat.le_trans (Nat.le_trans (Nat.le_trans (Nat.le_trans (Nat.le_trans (Nat.le_refl _) (Keep.of_wr W6).1) (Keep.of_wr W8).1) (Keep.of_wr W10).1) (Keep.of_wr W12).1) (Keep.of_wr W14).1) (Keep.of_wr W16).1) E46.1) (Keep.of_wr W47).1) (Keep.of_wr W48).1)) (Nat.le_of_eq g49.symm)))).other W53 (Nat.ne_of_lt (Nat.lt_of_lt_of_le (Nat.lt_of_lt_of_le V_b4.lt (Nat.le_trans (Nat.le_trans (Nat.le_trans (Nat.le_trans (Nat.le_trans (Nat.le_trans (Nat.le_trans (Nat.le_trans (Nat.le_trans (Nat.le_refl _) (Keep.of_wr W6).1) (Keep.of_wr W8).1) (Keep.of_wr W10).1) (Keep.of_wr W12).1) (Keep.of_wr W14).1) (Keep.of_wr W16).1) E46.1) (Keep.of_wr W47).1) (Keep.of_wr W48).1)) (Nat.le_of_eq g49.symm)))).other W54 (Nat.ne_of_lt (Nat.lt_of_lt_of_le (Nat.lt_of_lt_of_le V_b4.lt (Nat.le_trans (Nat.le_trans (Nat.le_trans (Nat.le_trans (Nat.le_trans (Nat.le_trans (Nat.le_trans (Nat.le_trans (Nat.le_trans (Nat.le_refl _) (Keep.of_wr W6).1) (Keep.of_wr W8).1) (Keep.of_wr W10).1) (Keep.of_wr W12).1) (Keep.of_wr W14).1) (Keep.of_wr W16).1) E46.1) (Keep.of_wr W47).1) (Keep.of_wr W48).1)) (Nat.le_of_eq g49.symm)))).other W55 (Nat.ne_of_lt (Nat.lt_of_lt_of_le (Nat.lt_of_lt_of_le V_b4.lt (Nat.le_trans (Nat.le_trans (Nat.le_trans (Nat.le_trans (Nat.le_trans (Nat.le_trans (Nat.le_trans (Nat.le_trans (Nat.le_trans (Nat.le_refl _) (Keep.of_wr W6).1) (Keep.of_wr W8).1) (Keep.of_wr W10).1) (Keep.of_wr W12).1) (Keep.of_wr W14).1) (Keep.of_wr W16).1) E46.1) (Keep.of_wr W47).1) (Keep.of_wr W48).1)) (Nat.le_of_eq g49.symm)))) (v := (.long (FLD q4 (0 : Int32)))) (by decide) rfl at_251 rfl ?_
      refine m_lsub K X63.here hx hby (w0_10 q2 q4) at_252 rfl rfl ?_
      refine k_callS K X63 hx hby hZ [(.long (w0_10 q2 q4))] [(.long ((0 : Int64) + (SQ (w0_4 q2 q3))))] hown (hw _ (List.mem_of_getElem? (i := 12) rfl)) (hw _ (List.mem_of_getElem? (i := 13) rfl)) (hw _ (List.mem_of_getElem? (i := 2) rfl)) (hw _ (List.mem_of_getElem? (i := 14) rfl)) (c3 l Z a0 hw (w0_10 q2 q4) h55 n0 (Nat.le_trans Z0 (Nat.le_trans (Nat.le_trans (Nat.le_trans (Nat.le_trans (Nat.le_trans (Nat.le_trans (Nat.le_trans (Nat.le_trans (Nat.le_trans (Nat.le_trans (Nat.le_trans (Nat.le_trans (Nat.le_trans (Nat.le_trans (Nat.le_trans (Nat.le_trans (Nat.le_trans (Nat.le_refl _) E4.1) (Keep.of_wr W6).1) (Keep.of_wr W8).1) (Keep.of_wr W10).1) (Keep.of_wr W12).1) (Keep.of_wr W14).1) (Keep.of_wr W16).1) E46.1) (Keep.of_wr W47).1) (Keep.of_wr W48).1) E49.1) (Keep.of_wr W50).1) (Keep.of_wr W51).1) (Keep.of_wr W52).1) (Keep.of_wr W53).1) (Keep.of_wr W54).1) (Keep.of_wr W55).1))) e63 rfl rfl pd_2 rfl at_253 (by rw [hml]; rfl) rfl (by decide) (by decide) (Nat.le_of_ble_eq_true rfl) (by decide) (by decide) fun v64 T64 L64 X64 q64 => ?_
      obtain ⟨rfl, e64, rfl⟩ := q64
      replace X64 := own_px X64
      refine k_some K (w := (.long (SQ (w0_10 q2 q4)))) ?_
      refine m_ladd K X64.here hx hby (w0_11 q2 q3 q4) at_256 rfl rfl ?_
      refine m_lstore K X64.here hx hby #[.val (.int p1), .val (.long q2), .second, .val (.long q3), .second, .val (.long q4), .second, .val (.int (2 : Int32)), .val (.int (2 : Int32)), .val (.long (FLD q2 (0 : Int32))), .second, .val (.long (FLD q2 (1 : Int32))), .second, .val (.long (FLD q2 (2 : Int32))), .second, .val (.ref b4), .val (.ref b46), .val (.ref b49), .val (.double (FP.l2d (SS_2_2 (FLD q2 (0 : Int32)) (FLD q2 (1 : Int32)) (FLD q3 (2 : Int32)) (FLD q4 (0 : Int32))))), .second, .val (.long (w0_11 q2 q3 q4)), .second] at_257 rfl rfl ?_
      refine m_iload K X64.here hx hby at_259 rfl rfl ?_
      refine m_iconst K X64.here hx hby (2 : Int32) at_261 rfl rfl ?_
      refine m_icmpY K X64.here hx hby (q := 283) at_262 (flt (by decide : ¬ ((2 : Int32) < (2 : Int32)))).2.2.2 (by decide) rfl ?_
      refine m_dload K X64.here hx hby at_283 rfl rfl ?_
      refine m_lload K X64.here hx hby at_285 rfl rfl ?_
      refine m_l2d K X64.here hx hby (FP.l2d (w0_11 q2 q3 q4)) at_287 rfl rfl ?_
      refine m_dcmp K X64.here hx hby (0 : Int32) at_288 (dcmpV_eq rfl (nn_w rfl) _) rfl ?_
      refine m_ifN K X64.here hx hby (q := 292) at_289 ((if0 _ _).trans (teq (by decide : (0 : Int32) = (0 : Int32))).2) rfl ?_
      refine m_iconst K X64.here hx hby (1 : Int32) at_292 rfl rfl ?_
      refine m_goto K X64.here hx hby (q := 297) at_293 (by decide) rfl ?_
      exact Go.retN X64 hx hby hlk hret (by simp) at_297 (by decide) (by decide) (by decide) (⟨rfl, N55⟩)
    · rw [hs8]
      refine m_aload K X55.here hx hby at_200 rfl rfl rfl ?_
      refine m_aload K X55.here hx hby at_202 rfl rfl rfl ?_
      refine m_iload K X55.here hx hby at_204 rfl rfl ?_
      refine k_callS K X55 hx hby hZ [(.ref b46), (.ref b49), (.int (3 : Int32))] [] hown (hw _ (List.mem_of_getElem? (i := 8) rfl)) (hw _ (List.mem_of_getElem? (i := 9) rfl)) (hw _ (List.mem_of_getElem? (i := 10) rfl)) (hw _ (List.mem_of_getElem? (i := 11) rfl)) (c2_2_3 l Z a0 hw b46 b49 (FLD q2 (0 : Int32)) (FLD q2 (1 : Int32)) (FLD q3 (0 : Int32)) (FLD q3 (1 : Int32)) (FLD q3 (2 : Int32)) (FLD q4 (0 : Int32)) (FLD q4 (1 : Int32)) (FLD q4 (2 : Int32)) h55 n0 (Nat.le_trans Z0 (Nat.le_trans (Nat.le_trans (Nat.le_trans (Nat.le_trans (Nat.le_trans (Nat.le_trans (Nat.le_trans (Nat.le_trans (Nat.le_trans (Nat.le_trans (Nat.le_trans (Nat.le_trans (Nat.le_trans (Nat.le_trans (Nat.le_trans (Nat.le_trans (Nat.le_trans (Nat.le_refl _) E4.1) (Keep.of_wr W6).1) (Keep.of_wr W8).1) (Keep.of_wr W10).1) (Keep.of_wr W12).1) (Keep.of_wr W14).1) (Keep.of_wr W16).1) E46.1) (Keep.of_wr W47).1) (Keep.of_wr W48).1) E49.1) (Keep.of_wr W50).1) (Keep.of_wr W51).1) (Keep.of_wr W52).1) (Keep.of_wr W53).1) (Keep.of_wr W54).1) (Keep.of_wr W55).1)) (((((((V48.ext E49).other W50 (Nat.ne_of_lt (Nat.lt_of_lt_of_le (Nat.lt_of_lt_of_le V_b46.lt (Nat.le_trans (Nat.le_trans (Nat.le_refl _) (Keep.of_wr W47).1) (Keep.of_wr W48).1)) (Nat.le_of_eq g49.symm)))).other W51 (Nat.ne_of_lt (Nat.lt_of_lt_of_le (Nat.lt_of_lt_of_le V_b46.lt (Nat.le_trans (Nat.le_trans (Nat.le_refl _) (Keep.of_wr W47).1) (Keep.of_wr W48).1)) (Nat.le_of_eq g49.symm)))).other W52 (Nat.ne_of_lt (Nat.lt_of_lt_of_le (Nat.lt_of_lt_of_le V_b46.lt (Nat.le_trans (Nat.le_trans (Nat.le_refl _) (Keep.of_wr W47).1) (Keep.of_wr W48).1)) (Nat.le_of_eq g49.symm)))).other W53 (Nat.ne_of_lt (Nat.lt_of_lt_of_le (Nat.lt_of_lt_of_le V_b46.lt (Nat.le_trans (Nat.le_trans (Nat.le_refl _) (Keep.of_wr W47).1) (Keep.of_wr W48).1)) (Nat.le_of_eq g49.symm)))).other W54 (Nat.ne_of_lt (Nat.lt_of_lt_of_le (Nat.lt_of_lt_of_le V_b46.lt (Nat.le_trans (Nat.le_trans (Nat.le_refl _) (Keep.of_wr W47).1) (Keep.of_wr W48).1)) (Nat.le_of_eq g49.symm)))).other W55 (Nat.ne_of_lt (Nat.lt_of_lt_of_le (Nat.lt_of_lt_of_le V_b46.lt (Nat.le_trans (Nat.le_trans (Nat.le_refl _) (Keep.of_wr W47).1) (Keep.of_wr W48).1)) (Nat.le_of_eq g49.symm)))) V55 (own_fld q2 (0 : Int32)) (own_fld q2 (1 : Int32)) (own_fld q4 (0 : Int32)) (own_fld q4 (1 : Int32))) e55 rfl rfl pd_1 rfl at_206 (by rw [hml]; rfl) rfl (by decide) (by decide) (Nat.le_of_ble_eq_true rfl) (by decide) (by decide) fun v65 T65 L65 X65 q65 => ?_
      obtain ⟨rfl, e65, rfl⟩ := q65
      replace X65 := own_px X65
      refine k_some K (w := (.double (FP.l2d (SS_2_3 (FLD q2 (0 : Int32)) (FLD q2 (1 : Int32)) (FLD q4 (0 : Int32)) (FLD q4 (1 : Int32)))))) ?_
      refine m_dstore K X65.here hx hby #[.val (.int p1), .val (.long q2), .second, .val (.long q3), .second, .val (.long q4), .second, .val (.int (2 : Int32)), .val (.int (3 : Int32)), .val (.long (FLD q2 (0 : Int32))), .second, .val (.long (FLD q2 (1 : Int32))), .second, .val (.long (FLD q2 (2 : Int32))), .second, .val (.ref b4), .val (.ref b46), .val (.ref b49), .val (.double (FP.l2d (SS_2_3 (FLD q2 (0 : Int32)) (FLD q2 (1 : Int32)) (FLD q4 (0 : Int32)) (FLD q4 (1 : Int32))))), .second, .unset, .unset] at_209 rfl rfl ?_
      refine m_lconst K X65.here hx hby (0 : Int64) at_211 rfl rfl ?_
      refine m_lstore K X65.here hx hby #[.val (.int p1), .val (.long q2), .second, .val (.long q3), .second, .val (.long q4), .second, .val (.int (2 : Int32)), .val (.int (3 : Int32)), .val (.long (FLD q2 (0 : Int32))), .second, .val (.long (FLD q2 (1 : Int32))), .second, .val (.long (FLD q2 (2 : Int32))), .second, .val (.ref b4), .val (.ref b46), .val (.ref b49), .val (.double (FP.l2d (SS_2_3 (FLD q2 (0 : Int32)) (FLD q2 (1 : Int32)) (FLD q4 (0 : Int32)) (FLD q4 (1 : Int32))))), .second, .val (.long (0 : Int64)), .second] at_212 rfl rfl ?_
      refine m_iload K X65.here hx hby at_214 rfl rfl ?_
      refine m_ifN K X65.here hx hby (q := 219) at_216 ((if0 _ _).trans (tlt (by decide : (0 : Int32) < (2 : Int32))).2.2.2) rfl ?_
      refine m_lload K X65.here hx hby at_219 rfl rfl ?_
      refine m_lload K X65.here hx hby at_221 rfl rfl ?_
      refine m_aload K X65.here hx hby at_223 rfl rfl rfl ?_
      refine m_iload K X65.here hx hby at_225 rfl rfl ?_
      refine k_ldJ K X65 hx hby hZ e65 ((((((((((V16.ext E46).other W47 (Nat.ne_of_lt (Nat.lt_of_lt_of_le (Nat.lt_of_lt_of_le V_b4.lt (Nat.le_trans (Nat.le_trans (Nat.le_trans (Nat.le_trans (Nat.le_trans (Nat.le_trans (Nat.le_refl _) (Keep.of_wr W6).1) (Keep.of_wr W8).1) (Keep.of_wr W10).1) (Keep.of_wr W12).1) (Keep.of_wr W14).1) (Keep.of_wr W16).1)) (Nat.le_of_eq g46.symm)))).other W48 (Nat.ne_of_lt (Nat.lt_of_lt_of_le (Nat.lt_of_lt_of_le V_b4.lt (Nat.le_trans (Nat.le_trans (Nat.le_trans (Nat.le_trans (Nat.le_trans (Nat.le_trans (Nat.le_refl _) (Keep.of_wr W6).1) (Keep.of_wr W8).1) (Keep.of_wr W10).1) (Keep.of_wr W12).1) (Keep.of_wr W14).1) (Keep.of_wr W16).1)) (Nat.le_of_eq g46.symm)))).ext E49).other W50 (Nat.ne_of_lt (Nat.lt_of_lt_of_le (Nat.lt_of_lt_of_le V_b4.lt (Nat.le_trans (Nat.le_trans (Nat.le_trans (Nat.le_trans (Nat.le_trans (Nat.le_trans (Nat.le_trans (Nat.le_trans (Nat.le_trans (Nat.le_refl _) (Keep.of_wr W6).1) (Keep.of_wr W8).1) (Keep.of_wr W10).1) (Keep.of_wr W12).1) (Keep.of_wr W14).1) (Keep.of_wr W16).1) E46.1) (Keep.of_wr W47).1) (Keep.of_wr W48).1)) (Nat.le_of_eq g49.symm)))).other W51 (Nat.ne_of_lt (Nat.lt_of_lt_of_le (Nat.lt_of_lt_of_le V_b4.lt (Nat.le_trans (Nat.le_trans (Nat.le_trans (Nat.le_trans (Nat.le_trans (Nat.le_trans (Nat.le_trans (Nat.le_trans (Nat.le_trans (Nat.le_refl _) (Keep.of_wr W6).1) (Keep.of_wr W8).1) (Keep.of_wr W10).1) (Keep.of_wr W12).1) (Keep.of_wr W14).1) (Keep.of_wr W16).1) E46.1) (Keep.of_wr W47).1) (Keep.of_wr W48).1)) (Nat.le_of_eq g49.symm)))).other W52 (Nat.ne_of_lt (Nat.lt_of_lt_of_le (Nat.lt_of_lt_of_le V_b4.lt (Nat.le_trans (Nat.le_trans (Nat.le_trans (Nat.le_trans (Nat.le_trans (Nat.le_trans (Nat.le_trans (Nat.le_trans (Nat.le_trans (Nat.le_refl _) (Keep.of_wr W6).1) (Keep.of_wr W8).1) (Keep.of_wr W10).1) (Keep.of_wr W12).1) (Keep.of_wr W14).1) (Keep.of_wr W16).1) E46.1) (Keep.of_wr W47).1) (Keep.of_wr W48).1)) (Nat.le_of_eq g49.symm)))).other W53 (Nat.ne_of_lt (Nat.lt_of_lt_of_le (Nat.lt_of_lt_of_le V_b4.lt (Nat.le_trans (Nat.le_trans (Nat.le_trans (Nat.le_trans (Nat.le_trans (Nat.le_trans (Nat.le_trans (Nat.le_trans (Nat.le_trans (Nat.le_refl _) (Keep.of_wr W6).1) (Keep.of_wr W8).1) (Keep.of_wr W10).1) (Keep.of_wr W12).1) (Keep.of_wr W14).1) (Keep.of_wr W16).1) E46.1) (Keep.of_wr W47).1) (Keep.of_wr W48).1)) (Nat.le_of_eq g49.symm)))).other W54 (Nat.ne_of_lt (Nat.lt_of_lt_of_le (Nat.lt_of_lt_of_le V_b4.lt (Nat.le_trans (Nat.le_trans (Nat.le_trans (Nat.le_trans (Nat.le_trans (Nat.le_trans (Nat.le_trans (Nat.le_trans (Nat.le_trans (Nat.le_refl _) (Keep.of_wr W6).1) (Keep.of_wr W8).1) (Keep.of_wr W10).1) (Keep.of_wr W12).1) (Keep.of_wr W14).1) (Keep.of_wr W16).1) E46.1) (Keep.of_wr W47).1) (Keep.of_wr W48).1)) (Nat.le_of_eq g49.symm)))).other W55 (Nat.ne_of_lt (Nat.lt_of_lt_of_le (Nat.lt_of_lt_of_le V_b4.lt (Nat.le_trans (Nat.le_trans (Nat.le_trans (Nat.le_trans (Nat.le_trans (Nat.le_trans (Nat.le_trans (Nat.le_trans (Nat.le_trans (Nat.le_refl _) (Keep.of_wr W6).1) (Keep.of_wr W8).1) (Keep.of_wr W10).1) (Keep.of_wr W12).1) (Keep.of_wr W14).1) (Keep.of_wr W16).1) E46.1) (Keep.of_wr W47).1) (Keep.of_wr W48).1)) (Nat.le_of_eq g49.symm)))) (v := (.long (FLD q4 (0 : Int32)))) (by decide) rfl at_227 rfl ?_
      refine m_lsub K X65.here hx hby (w0_5 q2 q4) at_228 rfl rfl ?_
      refine k_callS K X65 hx hby hZ [(.long (w0_5 q2 q4))] [(.long (0 : Int64))] hown (hw _ (List.mem_of_getElem? (i := 12) rfl)) (hw _ (List.mem_of_getElem? (i := 13) rfl)) (hw _ (List.mem_of_getElem? (i := 2) rfl)) (hw _ (List.mem_of_getElem? (i := 14) rfl)) (c3 l Z a0 hw (w0_5 q2 q4) h55 n0 (Nat.le_trans Z0 (Nat.le_trans (Nat.le_trans (Nat.le_trans (Nat.le_trans (Nat.le_trans (Nat.le_trans (Nat.le_trans (Nat.le_trans (Nat.le_trans (Nat.le_trans (Nat.le_trans (Nat.le_trans (Nat.le_trans (Nat.le_trans (Nat.le_trans (Nat.le_trans (Nat.le_trans (Nat.le_refl _) E4.1) (Keep.of_wr W6).1) (Keep.of_wr W8).1) (Keep.of_wr W10).1) (Keep.of_wr W12).1) (Keep.of_wr W14).1) (Keep.of_wr W16).1) E46.1) (Keep.of_wr W47).1) (Keep.of_wr W48).1) E49.1) (Keep.of_wr W50).1) (Keep.of_wr W51).1) (Keep.of_wr W52).1) (Keep.of_wr W53).1) (Keep.of_wr W54).1) (Keep.of_wr W55).1))) e65 rfl rfl pd_2 rfl at_229 (by rw [hml]; rfl) rfl (by decide) (by decide) (Nat.le_of_ble_eq_true rfl) (by decide) (by decide) fun v66 T66 L66 X66 q66 => ?_
      obtain ⟨rfl, e66, rfl⟩ := q66
      replace X66 := own_px X66
      refine k_some K (w := (.long (SQ (w0_5 q2 q4)))) ?_
      refine m_ladd K X66.here hx hby ((0 : Int64) + (SQ (w0_5 q2 q4))) at_232 rfl rfl ?_
      refine m_lstore K X66.here hx hby #[.val (.int p1), .val (.long q2), .second, .val (.long q3), .second, .val (.long q4), .second, .val (.int (2 : Int32)), .val (.int (3 : Int32)), .val (.long (FLD q2 (0 : Int32))), .second, .val (.long (FLD q2 (1 : Int32))), .second, .val (.long (FLD q2 (2 : Int32))), .second, .val (.ref b4), .val (.ref b46), .val (.ref b49), .val (.double (FP.l2d (SS_2_3 (FLD q2 (0 : Int32)) (FLD q2 (1 : Int32)) (FLD q4 (0 : Int32)) (FLD q4 (1 : Int32))))), .second, .val (.long ((0 : Int64) + (SQ (w0_5 q2 q4)))), .second] at_233 rfl rfl ?_
      refine m_iload K X66.here hx hby at_235 rfl rfl ?_
      refine m_iconst K X66.here hx hby (1 : Int32) at_237 rfl rfl ?_
      refine m_icmpN K X66.here hx hby (q := 241) at_238 (tlt (by decide : (1 : Int32) < (2 : Int32))).2.2.2 rfl ?_
      refine m_lload K X66.here hx hby at_241 rfl rfl ?_
      refine m_lload K X66.here hx hby at_243 rfl rfl ?_
      refine m_aload K X66.here hx hby at_245 rfl rfl rfl ?_
      refine m_iload K X66.here hx hby at_247 rfl rfl ?_
      refine m_iconst K X66.here hx hby (1 : Int32) at_249 rfl rfl ?_
      refine m_iadd K X66.here hx hby (4 : Int32) at_250 rfl rfl ?_
      refine k_ldJ K X66 hx hby hZ e66 ((((((((((V16.ext E46).other W47 (Nat.ne_of_lt (Nat.lt_of_lt_of_le (Nat.lt_of_lt_of_le V_b4.lt (Nat.le_trans (Nat.le_trans (Nat.le_trans (Nat.le_trans (Nat.le_trans (Nat.le_trans (Nat.le_refl _) (Keep.of_wr W6).1) (Keep.of_wr W8).1) (Keep.of_wr W10).1) (Keep.of_wr W12).1) (Keep.of_wr W14).1) (Keep.of_wr W16).1)) (Nat.le_of_eq g46.symm)))).other W48 (Nat.ne_of_lt (Nat.lt_of_lt_of_le (Nat.lt_of_lt_of_le V_b4.lt (Nat.le_trans (Nat.le_trans (Nat.le_trans (Nat.le_trans (Nat.le_trans (Nat.le_trans (Nat.le_refl _) (Keep.of_wr W6).1) (Keep.of_wr W8).1) (Keep.of_wr W10).1) (Keep.of_wr W12).1) (Keep.of_wr W14).1) (Keep.of_wr W16).1)) (Nat.le_of_eq g46.symm)))).ext E49).other W50 (Nat.ne_of_lt (Nat.lt_of_lt_of_le (Nat.lt_of_lt_of_le V_b4.lt (Nat.le_trans (Nat.le_trans (Nat.le_trans (Nat.le_trans (Nat.le_trans (Nat.le_trans (Nat.le_trans (Nat.le_trans (Nat.le_trans (Nat.le_refl _) (Keep.of_wr W6).1) (Keep.of_wr W8).1) (Keep.of_wr W10).1) (Keep.of_wr W12).1) (Keep.of_wr W14).1) (Keep.of_wr W16).1) E46.1) (Keep.of_wr W47).1) (Keep.of_wr W48).1)) (Nat.le_of_eq g49.symm)))).other W51 (Nat.ne_of_lt (Nat.lt_of_lt_of_le (Nat.lt_of_lt_of_le V_b4.lt (Nat.le_trans (Nat.le_trans (Nat.le_trans (Nat.le_trans (Nat.le_trans (Nat.le_trans (Nat.le_trans (Nat.le_trans (Nat.le_trans (Nat.le_refl _) (Keep.of_wr W6).1) (Keep.of_wr W8).1) (Keep.of_wr W10).1) (Keep.of_wr W12).1) (Keep.of_wr W14).1) (Keep.of_wr W16).1) E46.1) (Keep.of_wr W47).1) (Keep.of_wr W48).1)) (Nat.le_of_eq g49.symm)))).other W52 (Nat.ne_of_lt (Nat.lt_of_lt_of_le (Nat.lt_of_lt_of_le V_b4.lt (Nat.le_trans (Nat.le_trans (Nat.le_trans (Nat.le_trans (Nat.le_trans (Nat.le_trans (Nat.le_trans (Nat.le_trans (Nat.le_trans (Nat.le_refl _) (Keep.of_wr W6).1) (Keep.of_wr W8).1) (Keep.of_wr W10).1) (Keep.of_wr W12).1) (Keep.of_wr W14).1) (Keep.of_wr W16).1) E46.1) (Keep.of_wr W47).1) (Keep.of_wr W48).1)) (Nat.le_of_eq g49.symm)))).other W53 (Nat.ne_of_lt (Nat.lt_of_lt_of_le (Nat.lt_of_lt_of_le V_b4.lt (Nat.le_trans (Nat.le_trans (Nat.le_trans (Nat.le_trans (Nat.le_trans (Nat.le_trans (Nat.le_trans (Nat.le_trans (Nat.le_trans (Nat.le_refl _) (Keep.of_wr W6).1) (Keep.of_wr W8).1) (Keep.of_wr W10).1) (Keep.of_wr W12).1) (Keep.of_wr W14).1) (Keep.of_wr W16).1) E46.1) (Keep.of_wr W47).1) (Keep.of_wr W48).1)) (Nat.le_of_eq g49.symm)))).other W54 (Nat.ne_of_lt (Nat.lt_of_lt_of_le (Nat.lt_of_lt_of_le V_b4.lt (Nat.le_trans (Nat.le_trans (Nat.le_trans (Nat.le_trans (Nat.le_trans (Nat.le_trans (Nat.le_trans (Nat.le_trans (Nat.le_trans (Nat.le_refl _) (Keep.of_wr W6).1) (Keep.of_wr W8).1) (Keep.of_wr W10).1) (Keep.of_wr W12).1) (Keep.of_wr W14).1) (Keep.of_wr W16).1) E46.1) (Keep.of_wr W47).1) (Keep.of_wr W48).1)) (Nat.le_of_eq g49.symm)))).other W55 (Nat.ne_of_lt (Nat.lt_of_lt_of_le (Nat.lt_of_lt_of_le V_b4.lt (Nat.le_trans (Nat.le_trans (Nat.le_trans (Nat.le_trans (Nat.le_trans (Nat.le_trans (Nat.le_trans (Nat.le_trans (Nat.le_trans (Nat.le_refl _) (Keep.of_wr W6).1) (Keep.of_wr W8).1) (Keep.of_wr W10).1) (Keep.of_wr W12).1) (Keep.of_wr W14).1) (Keep.of_wr W16).1) E46.1) (Keep.of_wr W47).1) (Keep.of_wr W48).1)) (Nat.le_of_eq g49.symm)))) (v := (.long (FLD q4 (1 : Int32)))) (by decide) rfl at_251 rfl ?_
      refine m_lsub K X66.here hx hby (w0_12 q2 q4) at_252 rfl rfl ?_
      refine k_callS K X66 hx hby hZ [(.long (w0_12 q2 q4))] [(.long ((0 : Int64) + (SQ (w0_5 q2 q4))))] hown (hw _ (List.mem_of_getElem? (i := 12) rfl)) (hw _ (List.mem_of_getElem? (i := 13) rfl)) (hw _ (List.mem_of_getElem? (i := 2) rfl)) (hw _ (List.mem_of_getElem? (i := 14) rfl)) (c3 l Z a0 hw (w0_12 q2 q4) h55 n0 (Nat.le_trans Z0 (Nat.le_trans (Nat.le_trans (Nat.le_trans (Nat.le_trans (Nat.le_trans (Nat.le_trans (Nat.le_trans (Nat.le_trans (Nat.le_trans (Nat.le_trans (Nat.le_trans (Nat.le_trans (Nat.le_trans (Nat.le_trans (Nat.le_trans (Nat.le_trans (Nat.le_trans (Nat.le_refl _) E4.1) (Keep.of_wr W6).1) (Keep.of_wr W8).1) (Keep.of_wr W10).1) (Keep.of_wr W12).1) (Keep.of_wr W14).1) (Keep.of_wr W16).1) E46.1) (Keep.of_wr W47).1) (Keep.of_wr W48).1) E49.1) (Keep.of_wr W50).1) (Keep.of_wr W51).1) (Keep.of_wr W52).1) (Keep.of_wr W53).1) (Keep.of_wr W54).1) (Keep.of_wr W55).1))) e66 rfl rfl pd_2 rfl at_253 (by rw [hml]; rfl) rfl (by decide) (by decide) (Nat.le_of_ble_eq_true rfl) (by decide) (by decide) fun v67 T67 L67 X67 q67 => ?_
      obtain ⟨rfl, e67, rfl⟩ := q67
      replace X67 := own_px X67
      refine k_some K (w := (.long (SQ (w0_12 q2 q4)))) ?_
      refine m_ladd K X67.here hx hby (w0_13 q2 q4) at_256 rfl rfl ?_
      refine m_lstore K X67.here hx hby #[.val (.int p1), .val (.long q2), .second, .val (.long q3), .second, .val (.long q4), .second, .val (.int (2 : Int32)), .val (.int (3 : Int32)), .val (.long (FLD q2 (0 : Int32))), .second, .val (.long (FLD q2 (1 : Int32))), .second, .val (.long (FLD q2 (2 : Int32))), .second, .val (.ref b4), .val (.ref b46), .val (.ref b49), .val (.double (FP.l2d (SS_2_3 (FLD q2 (0 : Int32)) (FLD q2 (1 : Int32)) (FLD q4 (0 : Int32)) (FLD q4 (1 : Int32))))), .second, .val (.long (w0_13 q2 q4)), .second] at_257 rfl rfl ?_
      refine m_iload K X67.here hx hby at_259 rfl rfl ?_
      refine m_iconst K X67.here hx hby (2 : Int32) at_261 rfl rfl ?_
      refine m_icmpY K X67.here hx hby (q := 283) at_262 (flt (by decide : ¬ ((2 : Int32) < (2 : Int32)))).2.2.2 (by decide) rfl ?_
      refine m_dload K X67.here hx hby at_283 rfl rfl ?_
      refine m_lload K X67.here hx hby at_285 rfl rfl ?_
      refine m_l2d K X67.here hx hby (FP.l2d (w0_13 q2 q4)) at_287 rfl rfl ?_
      refine m_dcmp K X67.here hx hby (0 : Int32) at_288 (dcmpV_eq rfl (nn_w rfl) _) rfl ?_
      refine m_ifN K X67.here hx hby (q := 292) at_289 ((if0 _ _).trans (teq (by decide : (0 : Int32) = (0 : Int32))).2) rfl ?_
      refine m_iconst K X67.here hx hby (1 : Int32) at_292 rfl rfl ?_
      refine m_goto K X67.here hx hby (q := 297) at_293 (by decide) rfl ?_
      exact Go.retN X67 hx hby hlk hret (by simp) at_297 (by decide) (by decide) (by decide) (⟨rfl, N55⟩)
  · rw [hs7]
    refine m_iload K X16.here hx hby at_96 rfl rfl ?_
    refine k_newP K X16 hx hby hZ 3 3 (hw _ (List.mem_of_getElem? (i := 7) rfl)) e16 at_98 rfl (by decide) rfl (by decide) (by decide) (by decide) (by decide) fun T68 h68 b68 X68 e68 E68 g68 V_b68 => ?_
    have sz_b68 : h0.size ≤ b68 := Nat.le_trans (Nat.le_trans (Nat.le_trans (Nat.le_trans (Nat.le_trans (Nat.le_trans (Nat.le_trans (Nat.le_trans (Nat.le_refl _) E4.1) (Keep.of_wr W6).1) (Keep.of_wr W8).1) (Keep.of_wr W10).1) (Keep.of_wr W12).1) (Keep.of_wr W14).1) (Keep.of_wr W16).1) (Nat.le_of_eq g68.symm)
    have g_b68 : n0 ≤ b68 := Nat.le_trans Z0 sz_b68
    replace V_b68 : Av Z h68 b68 .double [(.double 0), (.double 0), (.double 0)] := V_b68
    refine m_astore K X68.here hx hby #[.val (.int p1), .val (.long q2), .second, .val (.long q3), .second, .val (.long q4), .second, .val (.int (3 : Int32)), .val (.int ((w0_1 p1) &&& (3 : Int32))), .val (.long (FLD q2 (0 : Int32))), .second, .val (.long (FLD q2 (1 : Int32))), .second, .val (.long (FLD q2 (2 : Int32))), .second, .val (.ref b4), .val (.ref b68), .unset, .unset, .unset, .unset, .unset] at_100 rfl rfl rfl ?_
    refine m_iload K X68.here hx hby at_102 rfl rfl ?_
    refine m_ifN K X68.here hx hby (q := 107) at_104 ((if0 _ _).trans (tlt (by decide : (0 : Int32) < (3 : Int32))).2.2.2) rfl ?_
    refine m_aload K X68.here hx hby at_107 rfl rfl rfl ?_
    refine m_iconst K X68.here hx hby (0 : Int32) at_109 rfl rfl ?_
    refine m_lload K X68.here hx hby at_110 rfl rfl ?_
    refine m_l2d K X68.here hx hby (FP.l2d (FLD q2 (0 : Int32))) at_112 rfl rfl ?_
    refine k_stD K X68 hx hby hZ e68 V_b68 (by decide) (Nat.le_of_ble_eq_true rfl) at_113 rfl fun T69 h69 X69 e69 W69 V69 => ?_
    replace V69 : Av Z h69 b68 .double [(.double (FP.l2d (FLD q2 (0 : Int32)))), (.double 0), (.double 0)] := V69
    have N69 := Fr.snoc X69 N16 g_b68
    refine m_iload K X69.here hx hby at_114 rfl rfl ?_
    refine m_iconst K X69.here hx hby (1 : Int32) at_116 rfl rfl ?_
    refine m_icmpN K X69.here hx hby (q := 120) at_117 (tlt (by decide : (1 : Int32) < (3 : Int32))).2.2.2 rfl ?_
    refine m_aload K X69.here hx hby at_120 rfl rfl rfl ?_
    refine m_iconst K X69.here hx hby (1 : Int32) at_122 rfl rfl ?_
    refine m_lload K X69.here hx hby at_123 rfl rfl ?_
    refine m_l2d K X69.here hx hby (FP.l2d (FLD q2 (1 : Int32))) at_125 rfl rfl ?_
    refine k_stD K X69 hx hby hZ e69 V69 (by decide) (Nat.le_of_ble_eq_true rfl) at_126 rfl fun T70 h70 X70 e70 W70 V70 => ?_
    replace V70 : Av Z h70 b68 .double [(.double (FP.l2d (FLD q2 (0 : Int32)))), (.double (FP.l2d (FLD q2 (1 : Int32)))), (.double 0)] := V70
    have N70 := Fr.snoc X70 N69 g_b68
    refine m_iload K X70.here hx hby at_127 rfl rfl ?_
    refine m_iconst K X70.here hx hby (2 : Int32) at_129 rfl rfl ?_
    refine m_icmpN K X70.here hx hby (q := 133) at_130 (tlt (by decide : (2 : Int32) < (3 : Int32))).2.2.2 rfl ?_
    refine m_aload K X70.here hx hby at_133 rfl rfl rfl ?_
    refine m_iconst K X70.here hx hby (2 : Int32) at_135 rfl rfl ?_
    refine m_lload K X70.here hx hby at_136 rfl rfl ?_
    refine m_l2d K X70.here hx hby (FP.l2d (FLD q2 (2 : Int32))) at_138 rfl rfl ?_
    refine k_stD K X70 hx hby hZ e70 V70 (by decide) (Nat.le_of_ble_eq_true rfl) at_139 rfl fun T71 h71 X71 e71 W71 V71 => ?_
    replace V71 : Av Z h71 b68 .double [(.double (FP.l2d (FLD q2 (0 : Int32)))), (.double (FP.l2d (FLD q2 (1 : Int32)))), (.double (FP.l2d (FLD q2 (2 : Int32))))] := V71
    have N71 := Fr.snoc X71 N70 g_b68
    refine m_bipush K X71.here hx hby (6 : Int32) at_140 rfl rfl ?_
    refine k_newP K X71 hx hby hZ 6 6 (hw _ (List.mem_of_getElem? (i := 7) rfl)) e71 at_142 rfl (by decide) rfl (by decide) (by decide) (by decide) (by decide) fun T72 h72 b72 X72 e72 E72 g72 V_b72 => ?_
    have sz_b72 : h0.size ≤ b72 := Nat.le_trans (Nat.le_trans (Nat.le_trans (Nat.le_trans (Nat.le_trans (Nat.le_trans (Nat.le_trans (Nat.le_trans (Nat.le_trans (Nat.le_trans (Nat.le_trans (Nat.le_trans (Nat.le_refl _) E4.1) (Keep.of_wr W6).1) (Keep.of_wr W8).1) (Keep.of_wr W10).1) (Keep.of_wr W12).1) (Keep.of_wr W14).1) (Keep.of_wr W16).1) E68.1) (Keep.of_wr W69).1) (Keep.of_wr W70).1) (Keep.of_wr W71).1) (Nat.le_of_eq g72.symm)
    have g_b72 : n0 ≤ b72 := Nat.le_trans Z0 sz_b72
    replace V_b72 : Av Z h72 b72 .double [(.double 0), (.double 0), (.double 0), (.double 0), (.double 0), (.double 0)] := V_b72
    refine m_astore K X72.here hx hby #[.val (.int p1), .val (.long q2), .second, .val (.long q3), .second, .val (.long q4), .second, .val (.int (3 : Int32)), .val (.int ((w0_1 p1) &&& (3 : Int32))), .val (.long (FLD q2 (0 : Int32))), .second, .val (.long (FLD q2 (1 : Int32))), .second, .val (.long (FLD q2 (2 : Int32))), .second, .val (.ref b4), .val (.ref b68), .val (.ref b72), .unset, .unset, .unset, .unset] at_144 rfl rfl rfl ?_
    refine m_aload K X72.here hx hby at_146 rfl rfl rfl ?_
    refine m_iconst K X72.here hx hby (0 : Int32) at_148 rfl rfl ?_
    refine m_aload K X72.here hx hby at_149 rfl rfl rfl ?_
    refine m_iconst K X72.here hx hby (0 : Int32) at_151 rfl rfl ?_
    refine k_ldJ K X72 hx hby hZ e72 (((((V16.ext E68).other W69 (Nat.ne_of_lt (Nat.lt_of_lt_of_le (Nat.lt_of_lt_of_le V_b4.lt (Nat.le_trans (Nat.le_trans (Nat.le_trans (Nat.le_trans (Nat.le_trans (Nat.le_trans (Nat.le_refl _) (Keep.of_wr W6).1) (Keep.of_wr W8).1) (Keep.of_wr W10).1) (Keep.of_wr W12).1) (Keep.of_wr W14).1) (Keep.of_wr W16).1)) (Nat.le_of_eq g68.symm)))).other W70 (Nat.ne_of_lt (Nat.lt_of_lt_of_le (Nat.lt_of_lt_of_le V_b4.lt (Nat.le_trans (Nat.le_trans (Nat.le_trans (Nat.le_trans (Nat.le_trans (Nat.le_trans (Nat.le_refl _) (Keep.of_wr W6).1) (Keep.of_wr W8).1) (Keep.of_wr W10).1) (Keep.of_wr W12).1) (Keep.of_wr W14).1) (Keep.of_wr W16).1)) (Nat.le_of_eq g68.symm)))).other W71 (Nat.ne_of_lt (Nat.lt_of_lt_of_le (Nat.lt_of_lt_of_le V_b4.lt (Nat.le_trans (Nat.le_trans (Nat.le_trans (Nat.le_trans (Nat.le_trans (Nat.le_trans (Nat.le_refl _) (Keep.of_wr W6).1) (Keep.of_wr W8).1) (Keep.of_wr W10).1) (Keep.of_wr W12).1) (Keep.of_wr W14).1) (Keep.of_wr W16).1)) (Nat.le_of_eq g68.symm)))).ext E72) (v := (.long (FLD q3 (0 : Int32)))) (by decide) rfl at_152 rfl ?_
    refine m_l2d K X72.here hx hby (FP.l2d (FLD q3 (0 : Int32))) at_153 rfl rfl ?_
    refine k_stD K X72 hx hby hZ e72 V_b72 (by decide) (Nat.le_of_ble_eq_true rfl) at_154 rfl fun T73 h73 X73 e73 W73 V73 => ?_
    replace V73 : Av Z h73 b72 .double [(.double (FP.l2d (FLD q3 (0 : Int32)))), (.double 0), (.double 0), (.double 0), (.double 0), (.double 0)] := V73
    have N73 := Fr.snoc X73 N71 g_b72
    refine m_aload K X73.here hx hby at_155 rfl rfl rfl ?_
    refine m_iconst K X73.here hx hby (1 : Int32) at_157 rfl rfl ?_
    refine m_aload K X73.here hx hby at_158 rfl rfl rfl ?_
    refine m_iconst K X73.here hx hby (1 : Int32) at_160 rfl rfl ?_
    refine k_ldJ K X73 hx hby hZ e73 ((((((V16.ext E68).other W69 (Nat.ne_of_lt (Nat.lt_of_lt_of_le (Nat.lt_of_lt_of_le V_b4.lt (Nat.le_trans (Nat.le_trans (Nat.le_trans (Nat.le_trans (Nat.le_trans (Nat.le_trans (Nat.le_refl _) (Keep.of_wr W6).1) (Keep.of_wr W8).1) (Keep.of_wr W10).1) (Keep.of_wr W12).1) (Keep.of_wr W14).1) (Keep.of_wr W16).1)) (Nat.le_of_eq g68.symm)))).other W70 (Nat.ne_of_lt (Nat.lt_of_lt_of_le (Nat.lt_of_lt_of_le V_b4.lt (Nat.le_trans (Nat.le_trans (Nat.le_trans (Nat.le_trans (Nat.le_trans (Nat.le_trans (Nat.le_refl _) (Keep.of_wr W6).1) (Keep.of_wr W8).1) (Keep.of_wr W10).1) (Keep.of_wr W12).1) (Keep.of_wr W14).1) (Keep.of_wr W16).1)) (Nat.le_of_eq g68.symm)))).other W71 (Nat.ne_of_lt (Nat.lt_of_lt_of_le (Nat.lt_of_lt_of_le V_b4.lt (Nat.le_trans (Nat.le_trans (Nat.le_trans (Nat.le_trans (Nat.le_trans (Nat.le_trans (Nat.le_refl _) (Keep.of_wr W6).1) (Keep.of_wr W8).1) (Keep.of_wr W10).1) (Keep.of_wr W12).1) (Keep.of_wr W14).1) (Keep.of_wr W16).1)) (Nat.le_of_eq g68.symm)))).ext E72).other W73 (Nat.ne_of_lt (Nat.lt_of_lt_of_le (Nat.lt_of_lt_of_le V_b4.lt (Nat.le_trans (Nat.le_trans (Nat.le_trans (Nat.le_trans (Nat.le_trans (Nat.le_trans (Nat.le_trans (Nat.le_trans (Nat.le_trans (Nat.le_trans (Nat.le_refl _) (Keep.of_wr W6).1) (Keep.of_wr W8).1) (Keep.of_wr W10).1) (Keep.of_wr W12).1) (Keep.of_wr W14).1) (Keep.of_wr W16).1) E68.1) (Keep.of_wr W69).1) (Keep.of_wr W70).1) (Keep.of_wr W71).1)) (Nat.le_of_eq g72.symm)))) (v := (.long (FLD q3 (1 : Int32)))) (by decide) rfl at_161 rfl ?_
    refine m_l2d K X73.here hx hby (FP.l2d (FLD q3 (1 : Int32))) at_162 rfl rfl ?_
    refine k_stD K X73 hx hby hZ e73 V73 (by decide) (Nat.le_of_ble_eq_true rfl) at_163 rfl fun T74 h74 X74 e74 W74 V74 => ?_
    replace V74 : Av Z h74 b72 .double [(.double (FP.l2d (FLD q3 (0 : Int32)))), (.double (FP.l2d (FLD q3 (1 : Int32)))), (.double 0), (.double 0), (.double 0), (.double 0)] := V74
    have N74 := Fr.snoc X74 N73 g_b72
    refine m_aload K X74.here hx hby at_164 rfl rfl rfl ?_
    refine m_iconst K X74.here hx hby (2 : Int32) at_166 rfl rfl ?_
    refine m_aload K X74.here hx hby at_167 rfl rfl rfl ?_
    refine m_iconst K X74.here hx hby (2 : Int32) at_169 rfl rfl ?_
    refine k_ldJ K X74 hx hby hZ e74 (((((((V16.ext E68).other W69 (Nat.ne_of_lt (Nat.lt_of_lt_of_le (Nat.lt_of_lt_of_le V_b4.lt (Nat.le_trans (Nat.le_trans (Nat.le_trans (Nat.le_trans (Nat.le_trans (Nat.le_trans (Nat.le_refl _) (Keep.of_wr W6).1) (Keep.of_wr W8).1) (Keep.of_wr W10).1) (Keep.of_wr W12).1) (Keep.of_wr W14).1) (Keep.of_wr W16).1)) (Nat.le_of_eq g68.symm)))).other W70 (Nat.ne_of_lt (Nat.lt_of_lt_of_le (Nat.lt_of_lt_of_le V_b4.lt (Nat.le_trans (Nat.le_trans (Nat.le_trans (Nat.le_trans (Nat.le_trans (Nat.le_trans (Nat.le_refl _) (Keep.of_wr W6).1) (Keep.of_wr W8).1) (Keep.of_wr W10).1) (Keep.of_wr W12).1) (Keep.of_wr W14).1) (Keep.of_wr W16).1)) (Nat.le_of_eq g68.symm)))).other W71 (Nat.ne_of_lt (Nat.lt_of_lt_of_le (Nat.lt_of_lt_of_le V_b4.lt (Nat.le_trans (Nat.le_trans (Nat.le_trans (Nat.le_trans (Nat.le_trans (Nat.le_trans (Nat.le_refl _) (Keep.of_wr W6).1) (Keep.of_wr W8).1) (Keep.of_wr W10).1) (Keep.of_wr W12).1) (Keep.of_wr W14).1) (Keep.of_wr W16).1)) (Nat.le_of_eq g68.symm)))).ext E72).other W73 (Nat.ne_of_lt (Nat.lt_of_lt_of_le (Nat.lt_of_lt_of_le V_b4.lt (Nat.le_trans (Nat.le_trans (Nat.le_trans (Nat.le_trans (Nat.le_trans (Nat.le_trans (Nat.le_trans (Nat.le_trans (Nat.le_trans (Nat.le_trans (Nat.le_refl _) (Keep.of_wr W6).1) (Keep.of_wr W8).1) (Keep.of_wr W10).1) (Keep.of_wr W12).1) (Keep.of_wr W14).1) (Keep.of_wr W16).1) E68.1) (Keep.of_wr W69).1) (Keep.of_wr W70).1) (Keep.of_wr W71).1)) (Nat.le_of_eq g72.symm)))).other W74 (Nat.ne_of_lt (Nat.lt_of_lt_of_le (Nat.lt_of_lt_of_le V_b4.lt (Nat.le_trans (Nat.le_trans (Nat.le_trans (Nat.le_trans (Nat.le_trans (Nat.le_trans (Nat.le_trans (Nat.le_trans (Nat.le_trans (Nat.le_trans (Nat.le_refl _) (Keep.of_wr W6).1) (Keep.of_wr W8).1) (Keep.of_wr W10).1) (Keep.of_wr W12).1) (Keep.of_wr W14).1) (Keep.of_wr W16).1) E68.1) (Keep.of_wr W69).1) (Keep.of_wr W70).1) (Keep.of_wr W71).1)) (Nat.le_of_eq g72.symm)))) (v := (.long (FLD q3 (2 : Int32)))) (by decide) rfl at_170 rfl ?_
    refine m_l2d K X74.here hx hby (FP.l2d (FLD q3 (2 : Int32))) at_171 rfl rfl ?_
    refine k_stD K X74 hx hby hZ e74 V74 (by decide) (Nat.le_of_ble_eq_true rfl) at_172 rfl fun T75 h75 X75 e75 W75 V75 => ?_
    replace V75 : Av Z h75 b72 .double [(.double (FP.l2d (FLD q3 (0 : Int32)))), (.double (FP.l2d (FLD q3 (1 : Int32)))), (.double (FP.l2d (FLD q3 (2 : Int32)))), (.double 0), (.double 0), (.double 0)] := V75
    have N75 := Fr.snoc X75 N74 g_b72
    refine m_aload K X75.here hx hby at_173 rfl rfl rfl ?_
    refine m_iconst K X75.here hx hby (3 : Int32) at_175 rfl rfl ?_
    refine m_aload K X75.here hx hby at_176 rfl rfl rfl ?_
    refine m_iconst K X75.here hx hby (3 : Int32) at_178 rfl rfl ?_
    refine k_ldJ K X75 hx hby hZ e75 ((((((((V16.ext E68).other W69 (Nat.ne_of_lt (Nat.lt_of_lt_of_le (Nat.lt_of_lt_of_le V_b4.lt (Nat.le_trans (Nat.le_trans (Nat.le_trans (Nat.le_trans (Nat.le_trans (Nat.le_trans (Nat.le_refl _) (Keep.of_wr W6).1) (Keep.of_wr W8).1) (Keep.of_wr W10).1) (Keep.of_wr W12).1) (Keep.of_wr W14).1) (Keep.of_wr W16).1)) (Nat.le_of_eq g68.symm)))).other W70 (Nat.ne_of_lt (Nat.lt_of_lt_of_le (Nat.lt_of_lt_of_le V_b4.lt (Nat.le_trans (Nat.le_trans (Nat.le_trans (Nat.le_trans (Nat.le_trans (Nat.le_trans (Nat.le_refl _) (Keep.of_wr W6).1) (Keep.of_wr W8).1) (Keep.of_wr W10).1) (Keep.of_wr W12).1) (Keep.of_wr W14).1) (Keep.of_wr W16).1)) (Nat.le_of_eq g68.symm)))).other W71 (Nat.ne_of_lt (Nat.lt_of_lt_of_le (Nat.lt_of_lt_of_le V_b4.lt (Nat.le_trans (Nat.le_trans (Nat.le_trans (Nat.le_trans (Nat.le_trans (Nat.le_trans (Nat.le_refl _) (Keep.of_wr W6).1) (Keep.of_wr W8).1) (Keep.of_wr W10).1) (Keep.of_wr W12).1) (Keep.of_wr W14).1) (Keep.of_wr W16).1)) (Nat.le_of_eq g68.symm)))).ext E72).other W73 (Nat.ne_of_lt (Nat.lt_of_lt_of_le (Nat.lt_of_lt_of_le V_b4.lt (Nat.le_trans (Nat.le_trans (Nat.le_trans (Nat.le_trans (Nat.le_trans (Nat.le_trans (Nat.le_trans (Nat.le_trans (Nat.le_trans (Nat.le_trans (Nat.le_refl _) (Keep.of_wr W6).1) (Keep.of_wr W8).1) (Keep.of_wr W10).1) (Keep.of_wr W12).1) (Keep.of_wr W14).1) (Keep.of_wr W16).1) E68.1) (Keep.of_wr W69).1) (Keep.of_wr W70).1) (Keep.of_wr W71).1)) (Nat.le_of_eq g72.symm)))).other W74 (Nat.ne_of_lt (Nat.lt_of_lt_of_le (Nat.lt_of_lt_of_le V_b4.lt (Nat.le_trans (Nat.le_trans (Nat.le_trans (Nat.le_trans (Nat.le_trans (Nat.le_trans (Nat.le_trans (Nat.le_trans (Nat.le_trans (Nat.le_trans (Nat.le_refl _) (Keep.of_wr W6).1) (Keep.of_wr W8).1) (Keep.of_wr W10).1) (Keep.of_wr W12).1) (Keep.of_wr W14).1) (Keep.of_wr W16).1) E68.1) (Keep.of_wr W69).1) (Keep.of_wr W70).1) (Keep.of_wr W71).1)) (Nat.le_of_eq g72.symm)))).other W75 (Nat.ne_of_lt (Nat.lt_of_lt_of_le (Nat.lt_of_lt_of_le V_b4.lt (Nat.le_trans (Nat.le_trans (Nat.le_trans (Nat.le_trans (Nat.le_trans (Nat.le_trans (Nat.le_trans (Nat.le_trans (Nat.le_trans (Nat.le_trans (Nat.le_refl _) (Keep.of_wr W6).1) (Keep.of_wr W8).1) (Keep.of_wr W10).1) (Keep.of_wr W12).1) (Keep.of_wr W14).1) (Keep.of_wr W16).1) E68.1) (Keep.of_wr W69).1) (Keep.of_wr W70).1) (Keep.of_wr W71).1)) (Nat.le_of_eq g72.symm)))) (v := (.long (FLD q4 (0 : Int32)))) (by decide) rfl at_179 rfl ?_
    refine m_l2d K X75.here hx hby (FP.l2d (FLD q4 (0 : Int32))) at_180 rfl rfl ?_
    refine k_stD K X75 hx hby hZ e75 V75 (by decide) (Nat.le_of_ble_eq_true rfl) at_181 rfl fun T76 h76 X76 e76 W76 V76 => ?_
    replace V76 : Av Z h76 b72 .double [(.double (FP.l2d (FLD q3 (0 : Int32)))), (.double (FP.l2d (FLD q3 (1 : Int32)))), (.double (FP.l2d (FLD q3 (2 : Int32)))), (.double (FP.l2d (FLD q4 (0 : Int32)))), (.double 0), (.double 0)] := V76
    have N76 := Fr.snoc X76 N75 g_b72
    refine m_aload K X76.here hx hby at_182 rfl rfl rfl ?_
    refine m_iconst K X76.here hx hby (4 : Int32) at_184 rfl rfl ?_
    refine m_aload K X76.here hx hby at_185 rfl rfl rfl ?_
    refine m_iconst K X76.here hx hby (4 : Int32) at_187 rfl rfl ?_
    refine k_ldJ K X76 hx hby hZ e76 (((((((((V16.ext E68).other W69 (Nat.ne_of_lt (Nat.lt_of_lt_of_le (Nat.lt_of_lt_of_le V_b4.lt (Nat.le_trans (Nat.le_trans (Nat.le_trans (Nat.le_trans (Nat.le_trans (Nat.le_trans (Nat.le_refl _) (Keep.of_wr W6).1) (Keep.of_wr W8).1) (Keep.of_wr W10).1) (Keep.of_wr W12).1) (Keep.of_wr W14).1) (Keep.of_wr W16).1)) (Nat.le_of_eq g68.symm)))).other W70 (Nat.ne_of_lt (Nat.lt_of_lt_of_le (Nat.lt_of_lt_of_le V_b4.lt (Nat.le_trans (Nat.le_trans (Nat.le_trans (Nat.le_trans (Nat.le_trans (Nat.le_trans (Nat.le_refl _) (Keep.of_wr W6).1) (Keep.of_wr W8).1) (Keep.of_wr W10).1) (Keep.of_wr W12).1) (Keep.of_wr W14).1) (Keep.of_wr W16).1)) (Nat.le_of_eq g68.symm)))).other W71 (Nat.ne_of_lt (Nat.lt_of_lt_of_le (Nat.lt_of_lt_of_le V_b4.lt (Nat.le_trans (Nat.le_trans (Nat.le_trans (Nat.le_trans (Nat.le_trans (Nat.le_trans (Nat.le_refl _) (Keep.of_wr W6).1) (Keep.of_wr W8).1) (Keep.of_wr W10).1) (Keep.of_wr W12).1) (Keep.of_wr W14).1) (Keep.of_wr W16).1)) (Nat.le_of_eq g68.symm)))).ext E72).other W73 (Nat.ne_of_lt (Nat.lt_of_lt_of_le (Nat.lt_of_lt_of_le V_b4.lt (Nat.le_trans (Nat.le_trans (Nat.le_trans (Nat.le_trans (Nat.le_trans (Nat.le_trans (Nat.le_trans (Nat.le_trans (Nat.le_trans (Nat.le_trans (Nat.le_refl _) (Keep.of_wr W6).1) (Keep.of_wr W8).1) (Keep.of_wr W10).1) (Keep.of_wr W12).1) (Keep.of_wr W14).1) (Keep.of_wr W16).1) E68.1) (Keep.of_wr W69).1) (Keep.of_wr W70).1) (Keep.of_wr W71).1)) (Nat.le_of_eq g72.symm)))).other W74 (Nat.ne_of_lt (Nat.lt_of_lt_of_le (Nat.lt_of_lt_of_le V_b4.lt (Nat.le_trans (Nat.le_trans (Nat.le_trans (Nat.le_trans (Nat.le_trans (Nat.le_trans (Nat.le_trans (Nat.le_trans (Nat.le_trans (Nat.le_trans (Nat.le_refl _) (Keep.of_wr W6).1) (Keep.of_wr W8).1) (Keep.of_wr W10).1) (Keep.of_wr W12).1) (Keep.of_wr W14).1) (Keep.of_wr W16).1) E68.1) (Keep.of_wr W69).1) (Keep.of_wr W70).1) (Keep.of_wr W71).1)) (Nat.le_of_eq g72.symm)))).other W75 (Nat.ne_of_lt (Nat.lt_of_lt_of_le (Nat.lt_of_lt_of_le V_b4.lt (Nat.le_trans (Nat.le_trans (Nat.le_trans (Nat.le_trans (Nat.le_trans (Nat.le_trans (Nat.le_trans (Nat.le_trans (Nat.le_trans (Nat.le_trans (Nat.le_refl _) (Keep.of_wr W6).1) (Keep.of_wr W8).1) (Keep.of_wr W10).1) (Keep.of_wr W12).1) (Keep.of_wr W14).1) (Keep.of_wr W16).1) E68.1) (Keep.of_wr W69).1) (Keep.of_wr W70).1) (Keep.of_wr W71).1)) (Nat.le_of_eq g72.symm)))).other W76 (Nat.ne_of_lt (Nat.lt_of_lt_of_le (Nat.lt_of_lt_of_le V_b4.lt (Nat.le_trans (Nat.le_trans (Nat.le_trans (Nat.le_trans (Nat.le_trans (Nat.le_trans (Nat.le_trans (Nat.le_trans (Nat.le_trans (Nat.le_trans (Nat.le_refl _) (Keep.of_wr W6).1) (Keep.of_wr W8).1) (Keep.of_wr W10).1) (Keep.of_wr W12).1) (Keep.of_wr W14).1) (Keep.of_wr W16).1) E68.1) (Keep.of_wr W69).1) (Keep.of_wr W70).1) (Keep.of_wr W71).1)) (Nat.le_of_eq g72.symm)))) (v := (.long (FLD q4 (1 : Int32)))) (by decide) rfl at_188 rfl ?_
    refine m_l2d K X76.here hx hby (FP.l2d (FLD q4 (1 : Int32))) at_189 rfl rfl ?_
    refine k_stD K X76 hx hby hZ e76 V76 (by decide) (Nat.le_of_ble_eq_true rfl) at_190 rfl fun T77 h77 X77 e77 W77 V77 => ?_
    replace V77 : Av Z h77 b72 .double [(.double (FP.l2d (FLD q3 (0 : Int32)))), (.double (FP.l2d (FLD q3 (1 : Int32)))), (.double (FP.l2d (FLD q3 (2 : Int32)))), (.double (FP.l2d (FLD q4 (0 : Int32)))), (.double (FP.l2d (FLD q4 (1 : Int32)))), (.double 0)] := V77
    have N77 := Fr.snoc X77 N76 g_b72
    refine m_aload K X77.here hx hby at_191 rfl rfl rfl ?_
    refine m_iconst K X77.here hx hby (5 : Int32) at_193 rfl rfl ?_
    refine m_aload K X77.here hx hby at_194 rfl rfl rfl ?_
    refine m_iconst K X77.here hx hby (5 : Int32) at_196 rfl rfl ?_
    refine k_ldJ K X77 hx hby hZ e77 ((((((((((V16.ext E68).other W69 (Nat.ne_of_lt (Nat.lt_of_lt_of_le (Nat.lt_of_lt_of_le V_b4.lt (Nat.le_trans (Nat.le_trans (Nat.le_trans (Nat.le_trans (Nat.le_trans (Nat.le_trans (Nat.le_refl _) (Keep.of_wr W6).1) (Keep.of_wr W8).1) (Keep.of_wr W10).1) (Keep.of_wr W12).1) (Keep.of_wr W14).1) (Keep.of_wr W16).1)) (Nat.le_of_eq g68.symm)))).other W70 (Nat.ne_of_lt (Nat.lt_of_lt_of_le (Nat.lt_of_lt_of_le V_b4.lt (Nat.le_trans (Nat.le_trans (Nat.le_trans (Nat.le_trans (Nat.le_trans (Nat.le_trans (Nat.le_refl _) (Keep.of_wr W6).1) (Keep.of_wr W8).1) (Keep.of_wr W10).1) (Keep.of_wr W12).1) (Keep.of_wr W14).1) (Keep.of_wr W16).1)) (Nat.le_of_eq g68.symm)))).other W71 (Nat.ne_of_lt (Nat.lt_of_lt_of_le (Nat.lt_of_lt_of_le V_b4.lt (Nat.le_trans (Nat.le_trans (Nat.le_trans (Nat.le_trans (Nat.le_trans (Nat.le_trans (Nat.le_refl _) (Keep.of_wr W6).1) (Keep.of_wr W8).1) (Keep.of_wr W10).1) (Keep.of_wr W12).1) (Keep.of_wr W14).1) (Keep.of_wr W16).1)) (Nat.le_of_eq g68.symm)))).ext E72).other W73 (Nat.ne_of_lt (Nat.lt_of_lt_of_le (Nat.lt_of_lt_of_le V_b4.lt (Nat.le_trans (Nat.le_trans (Nat.le_trans (Nat.le_trans (Nat.le_trans (Nat.le_trans (Nat.le_trans (Nat.le_trans (Nat.le_trans (Nat.le_trans (Nat.le_refl _) (Keep.of_wr W6).1) (Keep.of_wr W8).1) (Keep.of_wr W10).1) (Keep.of_wr W12).1) (Keep.of_wr W14).1) (Keep.of_wr W16).1) E68.1) (Keep.of_wr W69).1) (Keep.of_wr W70).1) (Keep.of_wr W71).1)) (Nat.le_of_eq g72.symm)))).other W74 (Nat.ne_of_lt (Nat.lt_of_lt_of_le (Nat.lt_of_lt_of_le V_b4.lt (Nat.le_trans (Nat.le_trans (Nat.le_trans (Nat.le_trans (Nat.le_trans (Nat.le_trans (Nat.le_trans (Nat.le_trans (Nat.le_trans (Nat.le_trans (Nat.le_refl _) (Keep.of_wr W6).1) (Keep.of_wr W8).1) (Keep.of_wr W10).1) (Keep.of_wr W12).1) (Keep.of_wr W14).1) (Keep.of_wr W16).1) E68.1) (Keep.of_wr W69).1) (Keep.of_wr W70).1) (Keep.of_wr W71).1)) (Nat.le_of_eq g72.symm)))).other W75 (Nat.ne_of_lt (Nat.lt_of_lt_of_le (Nat.lt_of_lt_of_le V_b4.lt (Nat.le_trans (Nat.le_trans (Nat.le_trans (Nat.le_trans (Nat.le_trans (Nat.le_trans (Nat.le_trans (Nat.le_trans (Nat.le_trans (Nat.le_trans (Nat.le_refl _) (Keep.of_wr W6).1) (Keep.of_wr W8).1) (Keep.of_wr W10).1) (Keep.of_wr W12).1) (Keep.of_wr W14).1) (Keep.of_wr W16).1) E68.1) (Keep.of_wr W69).1) (Keep.of_wr W70).1) (Keep.of_wr W71).1)) (Nat.le_of_eq g72.symm)))).other W76 (Nat.ne_of_lt (Nat.lt_of_lt_of_le (Nat.lt_of_lt_of_le V_b4.lt (Nat.le_trans (Nat.le_trans (Nat.le_trans (Nat.le_trans (Nat.le_trans (Nat.le_trans (Nat.le_trans (Nat.le_trans (Nat.le_trans (Nat.le_trans (Nat.le_refl _) (Keep.of_wr W6).1) (Keep.of_wr W8).1) (Keep.of_wr W10).1) (Keep.of_wr W12).1) (Keep.of_wr W14).1) (Keep.of_wr W16).1) E68.1) (Keep.of_wr W69).1) (Keep.of_wr W70).1) (Keep.of_wr W71).1)) (Nat.le_of_eq g72.symm)))).other W77 (Nat.ne_of_lt (Nat.lt_of_lt_of_le (Nat.lt_of_lt_of_le V_b4.lt (Nat.le_trans (Nat.le_trans (Nat.le_trans (Nat.le_trans (Nat.le_trans (Nat.le_trans (Nat.le_trans (Nat.le_trans (Nat.le_trans (Nat.le_trans (Nat.le_refl _) (Keep.of_wr W6).1) (Keep.of_wr W8).1) (Keep.of_wr W10).1) (Keep.of_wr W12).1) (Keep.of_wr W14).1) (Keep.of_wr W16).1) E68.1) (Keep.of_wr W69).1) (Keep.of_wr W70).1) (Keep.of_wr W71).1)) (Nat.le_of_eq g72.symm)))) (v := (.long (FLD q4 (2 : Int32)))) (by decide) rfl at_197 rfl ?_
    refine m_l2d K X77.here hx hby (FP.l2d (FLD q4 (2 : Int32))) at_198 rfl rfl ?_
    refine k_stD K X77 hx hby hZ e77 V77 (by decide) (Nat.le_of_ble_eq_true rfl) at_199 rfl fun T78 h78 X78 e78 W78 V78 => ?_
    replace V78 : Av Z h78 b72 .double [(.double (FP.l2d (FLD q3 (0 : Int32)))), (.double (FP.l2d (FLD q3 (1 : Int32)))), (.double (FP.l2d (FLD q3 (2 : Int32)))), (.double (FP.l2d (FLD q4 (0 : Int32)))), (.double (FP.l2d (FLD q4 (1 : Int32)))), (.double (FP.l2d (FLD q4 (2 : Int32))))] := V78
    have N78 := Fr.snoc X78 N77 g_b72
    rcases own_o p1 with hs8 | hs8 | hs8 | hs8
    · rw [hs8]
      refine m_aload K X78.here hx hby at_200 rfl rfl rfl ?_
      refine m_aload K X78.here hx hby at_202 rfl rfl rfl ?_
      refine m_iload K X78.here hx hby at_204 rfl rfl ?_
      refine k_callS K X78 hx hby hZ [(.ref b68), (.ref b72), (.int (0 : Int32))] [] hown (hw _ (List.mem_of_getElem? (i := 8) rfl)) (hw _ (List.mem_of_getElem? (i := 9) rfl)) (hw _ (List.mem_of_getElem? (i := 10) rfl)) (hw _ (List.mem_of_getElem? (i := 11) rfl)) (c2_3_0 l Z a0 hw b68 b72 (FLD q2 (0 : Int32)) (FLD q2 (1 : Int32)) (FLD q2 (2 : Int32)) (FLD q3 (0 : Int32)) (FLD q3 (1 : Int32)) (FLD q3 (2 : Int32)) (FLD q4 (0 : Int32)) (FLD q4 (1 : Int32)) (FLD q4 (2 : Int32)) h78 n0 (Nat.le_trans Z0 (Nat.le_trans (Nat.le_trans (Nat.le_trans (Nat.le_trans (Nat.le_trans (Nat.le_trans (Nat.le_trans (Nat.le_trans (Nat.le_trans (Nat.le_trans (Nat.le_trans (Nat.le_trans (Nat.le_trans (Nat.le_trans (Nat.le_trans (Nat.le_trans (Nat.le_trans (Nat.le_trans (Nat.le_refl _) E4.1) (Keep.of_wr W6).1) (Keep.of_wr W8).1) (Keep.of_wr W10).1) (Keep.of_wr W12).1) (Keep.of_wr W14).1) (Keep.of_wr W16).1) E68.1) (Keep.of_wr W69).1) (Keep.of_wr W70).1) (Keep.of_wr W71).1) E72.1) (Keep.of_wr W73).1) (Keep.of_wr W74).1) (Keep.of_wr W75).1) (Keep.of_wr W76).1) (Keep.of_wr W77).1) (Keep.of_wr W78).1)) (((((((V71.ext E72).other W73 (Nat.ne_of_lt (Nat.lt_of_lt_of_le (Nat.lt_of_lt_of_le V_b68.lt (Nat.le_trans (Nat.le_trans (Nat.le_trans (Nat.le_refl _) (Keep.of_wr W69).1) (Keep.of_wr W70).1) (Keep.of_wr W71).1)) (Nat.le_of_eq g72.symm)))).other W74 (Nat.ne_of_lt (Nat.lt_of_lt_of_le (Nat.lt_of_lt_of_le V_b68.lt (Nat.le_trans (Nat.le_trans (Nat.le_trans (Nat.le_refl _) (Keep.of_wr W69).1) (Keep.of_wr W70).1) (Keep.of_wr W71).1)) (Nat.le_of_eq g72.symm)))).other W75 (Nat.ne_of_lt (Nat.lt_of_lt_of_le (Nat.lt_of_lt_of_le V_b68.lt (Nat.le_trans (Nat.le_trans (Nat.le_trans (Nat.le_refl _) (Keep.of_wr W69).1) (Keep.of_wr W70).1) (Keep.of_wr W71).1)) (Nat.le_of_eq g72.symm)))).other W76 (Nat.ne_of_lt (Nat.lt_of_lt_of_le (Nat.lt_of_lt_of_le V_b68.lt (Nat.le_trans (Nat.le_trans (Nat.le_trans (Nat.le_refl _) (Keep.of_wr W69).1) (Keep.of_wr W70).1) (Keep.of_wr W71).1)) (Nat.le_of_eq g72.symm)))).other W77 (Nat.ne_of_lt (Nat.lt_of_lt_of_le (Nat.lt_of_lt_of_le V_b68.lt (Nat.le_trans (Nat.le_trans (Nat.le_trans (Nat.le_refl _) (Keep.of_wr W69).1) (Keep.of_wr W70).1) (Keep.of_wr W71).1)) (Nat.le_of_eq g72.symm)))).other W78 (Nat.ne_of_lt (Nat.lt_of_lt_of_le (Nat.lt_of_lt_of_le V_b68.lt (Nat.le_trans (Nat.le_trans (Nat.le_trans (Nat.le_refl _) (Keep.of_wr W69).1) (Keep.of_wr W70).1) (Keep.of_wr W71).1)) (Nat.le_of_eq g72.symm)))) V78 (own_fld q2 (0 : Int32)) (own_fld q2 (1 : Int32)) (own_fld q2 (2 : Int32)) (own_fld q3 (0 : Int32)) (own_fld q3 (1 : Int32)) (own_fld q3 (2 : Int32))) e78 rfl rfl pd_1 rfl at_206 (by rw [hml]; rfl) rfl (by decide) (by decide) (Nat.le_of_ble_eq_true rfl) (by decide) (by decide) fun v79 T79 L79 X79 q79 => ?_
      obtain ⟨rfl, e79, rfl⟩ := q79
      replace X79 := own_px X79
      refine k_some K (w := (.double (FP.l2d (SS_3_0 (FLD q2 (0 : Int32)) (FLD q2 (1 : Int32)) (FLD q2 (2 : Int32)) (FLD q3 (0 : Int32)) (FLD q3 (1 : Int32)) (FLD q3 (2 : Int32)))))) ?_
      refine m_dstore K X79.here hx hby #[.val (.int p1), .val (.long q2), .second, .val (.long q3), .second, .val (.long q4), .second, .val (.int (3 : Int32)), .val (.int (0 : Int32)), .val (.long (FLD q2 (0 : Int32))), .second, .val (.long (FLD q2 (1 : Int32))), .second, .val (.long (FLD q2 (2 : Int32))), .second, .val (.ref b4), .val (.ref b68), .val (.ref b72), .val (.double (FP.l2d (SS_3_0 (FLD q2 (0 : Int32)) (FLD q2 (1 : Int32)) (FLD q2 (2 : Int32)) (FLD q3 (0 : Int32)) (FLD q3 (1 : Int32)) (FLD q3 (2 : Int32))))), .second, .unset, .unset] at_209 rfl rfl ?_
      refine m_lconst K X79.here hx hby (0 : Int64) at_211 rfl rfl ?_
      refine m_lstore K X79.here hx hby #[.val (.int p1), .val (.long q2), .second, .val (.long q3), .second, .val (.long q4), .second, .val (.int (3 : Int32)), .val (.int (0 : Int32)), .val (.long (FLD q2 (0 : Int32))), .second, .val (.long (FLD q2 (1 : Int32))), .second, .val (.long (FLD q2 (2 : Int32))), .second, .val (.ref b4), .val (.ref b68), .val (.ref b72), .val (.double (FP.l2d (SS_3_0 (FLD q2 (0 : Int32)) (FLD q2 (1 : Int32)) (FLD q2 (2 : Int32)) (FLD q3 (0 : Int32)) (FLD q3 (1 : Int32)) (FLD q3 (2 : Int32))))), .second, .val (.long (0 : Int64)), .second] at_212 rfl rfl ?_
      refine m_iload K X79.here hx hby at_214 rfl rfl ?_
      refine m_ifN K X79.here hx hby (q := 219) at_216 ((if0 _ _).trans (tlt (by decide : (0 : Int32) < (3 : Int32))).2.2.2) rfl ?_
      refine m_lload K X79.here hx hby at_219 rfl rfl ?_
      refine m_lload K X79.here hx hby at_221 rfl rfl ?_
      refine m_aload K X79.here hx hby at_223 rfl rfl rfl ?_
      refine m_iload K X79.here hx hby at_225 rfl rfl ?_
      refine k_ldJ K X79 hx hby hZ e79 (((((((((((V16.ext E68).other W69 (Nat.ne_of_lt (Nat.lt_of_lt_of_le (Nat.lt_of_lt_of_le V_b4.lt (Nat.le_trans (Nat.le_trans (Nat.le_trans (Nat.le_trans (Nat.le_trans (Nat.le_trans (Nat.le_refl _) (Keep.of_wr W6).1) (Keep.of_wr W8).1) (Keep.of_wr W10).1) (Keep.of_wr W12).1) (Keep.of_wr W14).1) (Keep.of_wr W16).1)) (Nat.le_of_eq g68.symm)))).other W70 (Nat.ne_of_lt (Nat.lt_of_lt_of_le (Nat.lt_of_lt_of_le V_b4.lt (Nat.le_trans (Nat.le_trans (Nat.le_trans (Nat.le_trans (Nat.le_trans (Nat.le_trans (Nat.le_refl _) (Keep.of_wr W6).1) (Keep.of_wr W8).1) (Keep.of_wr W10).1) (Keep.of_wr W12).1) (Keep.of_wr W14).1) (Keep.of_wr W16).1)) (Nat.le_of_eq g68.symm)))).other W71 (Nat.ne_of_lt (Nat.lt_of_lt_of_le (Nat.lt_of_lt_of_le V_b4.lt (Nat.le_trans (Nat.le_trans (Nat.le_trans (Nat.le_trans (Nat.le_trans (Nat.le_trans (Nat.le_refl _) (Keep.of_wr W6).1) (Keep.of_wr W8).1) (Keep.of_wr W10).1) (Keep.of_wr W12).1) (Keep.of_wr W14).1) (Keep.of_wr W16).1)) (Nat.le_of_eq g68.symm)))).ext E72).other W73 (Nat.ne_of_lt (Nat.lt_of_lt_of_le (Nat.lt_of_lt_of_le V_b4.lt (Nat.le_trans (Nat.le_trans (Nat.le_trans (Nat.le_trans (Nat.le_trans (Nat.le_trans (Nat.le_trans (Nat.le_trans (Nat.le_trans (Nat.le_trans (Nat.le_refl _) (Keep.of_wr W6).1) (Keep.of_wr W8).1) (Keep.of_wr W10).1) (Keep.of_wr W12).1) (Keep.of_wr W14).1) (Keep.of_wr W16).1) E68.1) (Keep.of_wr W69).1) (Keep.of_wr W70).1) (Keep.of_wr W71).1)) (Nat.le_of_eq g72.symm)))).other W74 (Nat.ne_of_lt (Nat.lt_of_lt_of_le (Nat.lt_of_lt_of_le V_b4.lt (Nat.le_trans (Nat.le_trans (Nat.le_trans (Nat.le_trans (Nat.le_trans (Nat.le_trans (Nat.le_trans (Nat.le_trans (Nat.le_trans (Nat.le_trans (Nat.le_refl _) (Keep.of_wr W6).1) (Keep.of_wr W8).1) (Keep.of_wr W10).1) (Keep.of_wr W12).1) (Keep.of_wr W14).1) (Keep.of_wr W16).1) E68.1) (Keep.of_wr W69).1) (Keep.of_wr W70).1) (Keep.of_wr W71).1)) (Nat.le_of_eq g72.symm)))).other W75 (Nat.ne_of_lt (Nat.lt_of_lt_of_le (Nat.lt_of_lt_of_le V_b4.lt (Nat.le_trans (Nat.le_trans (Nat.le_trans (Nat.le_trans (Nat.le_trans (Nat.le_trans (Nat.le_trans (Nat.le_trans (Nat.le_trans (Nat.le_trans (Nat.le_refl _) (Keep.of_wr W6).1) (Keep.of_wr W8).1) (Keep.of_wr W10).1) (Keep.of_wr W12).1) (Keep.of_wr W14).1) (Keep.of_wr W16).1) E68.1) (Keep.of_wr W69).1) (Keep.of_wr W70).1) (Keep.of_wr W71).1)) (Nat.le_of_eq g72.symm)))).other W76 (Nat.ne_of_lt (Nat.lt_of_lt_of_le (Nat.lt_of_lt_of_le V_b4.lt (Nat.le_trans (Nat.le_trans (Nat.le_trans (Nat.le_trans (Nat.le_trans (Nat.le_trans (Nat.le_trans (Nat.le_trans (Nat.le_trans (Nat.le_trans (Nat.le_refl _) (Keep.of_wr W6).1) (Keep.of_wr W8).1) (Keep.of_wr W10).1) (Keep.of_wr W12).1) (Keep.of_wr W14).1) (Keep.of_wr W16).1) E68.1) (Keep.of_wr W69).1) (Keep.of_wr W70).1) (Keep.of_wr W71).1)) (Nat.le_of_eq g72.symm)))).other W77 (Nat.ne_of_lt (Nat.lt_of_lt_of_le (Nat.lt_of_lt_of_le V_b4.lt (Nat.le_trans (Nat.le_trans (Nat.le_trans (Nat.le_trans (Nat.le_trans (Nat.le_trans (Nat.le_trans (Nat.le_trans (Nat.le_trans (Nat.le_trans (Nat.le_refl _) (Keep.of_wr W6).1) (Keep.of_wr W8).1) (Keep.of_wr W10).1) (Keep.of_wr W12).1) (Keep.of_wr W14).1) (Keep.of_wr W16).1) E68.1) (Keep.of_wr W69).1) (Keep.of_wr W70).1) (Keep.of_wr W71).1)) (Nat.le_of_eq g72.symm)))).other W78 (Nat.ne_of_lt (Nat.lt_of_lt_of_le (Nat.lt_of_lt_of_le V_b4.lt (Nat.le_trans (Nat.le_trans (Nat.le_trans (Nat.le_trans (Nat.le_trans (Nat.le_trans (Nat.le_trans (Nat.le_trans (Nat.le_trans (Nat.le_trans (Nat.le_refl _) (Keep.of_wr W6).1) (Keep.of_wr W8).1) (Keep.of_wr W10).1) (Keep.of_wr W12).1) (Keep.of_wr W14).1) (Keep.of_wr W16).1) E68.1) (Keep.of_wr W69).1) (Keep.of_wr W70).1) (Keep.of_wr W71).1)) (Nat.le_of_eq g72.symm)))) (v := (.long (FLD q3 (0 : Int32)))) (by decide) rfl at_227 rfl ?_
      refine m_lsub K X79.here hx hby (w0_2 q2 q3) at_228 rfl rfl ?_
      refine k_callS K X79 hx hby hZ [(.long (w0_2 q2 q3))] [(.long (0 : Int64))] hown (hw _ (List.mem_of_getElem? (i := 12) rfl)) (hw _ (List.mem_of_getElem? (i := 13) rfl)) (hw _ (List.mem_of_getElem? (i := 2) rfl)) (hw _ (List.mem_of_getElem? (i := 14) rfl)) (c3 l Z a0 hw (w0_2 q2 q3) h78 n0 (Nat.le_trans Z0 (Nat.le_trans (Nat.le_trans (Nat.le_trans (Nat.le_trans (Nat.le_trans (Nat.le_trans (Nat.le_trans (Nat.le_trans (Nat.le_trans (Nat.le_trans (Nat.le_trans (Nat.le_trans (Nat.le_trans (Nat.le_trans (Nat.le_trans (Nat.le_trans (Nat.le_trans (Nat.le_trans (Nat.le_refl _) E4.1) (Keep.of_wr W6).1) (Keep.of_wr W8).1) (Keep.of_wr W10).1) (Keep.of_wr W12).1) (Keep.of_wr W14).1) (Keep.of_wr W16).1) E68.1) (Keep.of_wr W69).1) (Keep.of_wr W70).1) (Keep.of_wr W71).1) E72.1) (Keep.of_wr W73).1) (Keep.of_wr W74).1) (Keep.of_wr W75).1) (Keep.of_wr W76).1) (Keep.of_wr W77).1) (Keep.of_wr W78).1))) e79 rfl rfl pd_2 rfl at_229 (by rw [hml]; rfl) rfl (by decide) (by decide) (Nat.le_of_ble_eq_true rfl) (by decide) (by decide) fun v80 T80 L80 X80 q80 => ?_
      obtain ⟨rfl, e80, rfl⟩ := q80
      replace X80 := own_px X80
      refine k_some K (w := (.long (SQ (w0_2 q2 q3)))) ?_
      refine m_ladd K X80.here hx hby ((0 : Int64) + (SQ (w0_2 q2 q3))) at_232 rfl rfl ?_
      refine m_lstore K X80.here hx hby #[.val (.int p1), .val (.long q2), .second, .val (.long q3), .second, .val (.long q4), .second, .val (.int (3 : Int32)), .val (.int (0 : Int32)), .val (.long (FLD q2 (0 : Int32))), .second, .val (.long (FLD q2 (1 : Int32))), .second, .val (.long (FLD q2 (2 : Int32))), .second, .val (.ref b4), .val (.ref b68), .val (.ref b72), .val (.double (FP.l2d (SS_3_0 (FLD q2 (0 : Int32)) (FLD q2 (1 : Int32)) (FLD q2 (2 : Int32)) (FLD q3 (0 : Int32)) (FLD q3 (1 : Int32)) (FLD q3 (2 : Int32))))), .second, .val (.long ((0 : Int64) + (SQ (w0_2 q2 q3)))), .second] at_233 rfl rfl ?_
      refine m_iload K X80.here hx hby at_235 rfl rfl ?_
      refine m_iconst K X80.here hx hby (1 : Int32) at_237 rfl rfl ?_
      refine m_icmpN K X80.here hx hby (q := 241) at_238 (tlt (by decide : (1 : Int32) < (3 : Int32))).2.2.2 rfl ?_
      refine m_lload K X80.here hx hby at_241 rfl rfl ?_
      refine m_lload K X80.here hx hby at_243 rfl rfl ?_
      refine m_aload K X80.here hx hby at_245 rfl rfl rfl ?_
      refine m_iload K X80.here hx hby at_247 rfl rfl ?_
      refine m_iconst K X80.here hx hby (1 : Int32) at_249 rfl rfl ?_
      refine m_iadd K X80.here hx hby (1 : Int32) at_250 rfl rfl ?_
      refine k_ldJ K X80 hx hby hZ e80 (((((((((((V16.ext E68).other W69 (Nat.ne_of_lt (Nat.lt_of_lt_of_le (Nat.lt_of_lt_of_le V_b4.lt (Nat.le_trans (Nat.le_trans (Nat.le_trans (Nat.le_trans (Nat.le_trans (Nat.le_trans (Nat.le_refl _) (Keep.of_wr W6).1) (Keep.of_wr W8).1) (Keep.of_wr W10).1) (Keep.of_wr W12).1) (Keep.of_wr W14).1) (Keep.of_wr W16).1)) (Nat.le_of_eq g68.symm)))).other W70 (Nat.ne_of_lt (Nat.lt_of_lt_of_le (Nat.lt_of_lt_of_le V_b4.lt (Nat.le_trans (Nat.le_trans (Nat.le_trans (Nat.le_trans (Nat.le_trans (Nat.le_trans (Nat.le_refl _) (Keep.of_wr W6).1) (Keep.of_wr W8).1) (Keep.of_wr W10).1) (Keep.of_wr W12).1) (Keep.of_wr W14).1) (Keep.of_wr W16).1)) (Nat.le_of_eq g68.symm)))).other W71 (Nat.ne_of_lt (Nat.lt_of_lt_of_le (Nat.lt_of_lt_of_le V_b4.lt (Nat.le_trans (Nat.le_trans (Nat.le_trans (Nat.le_trans (Nat.le_trans (Nat.le_trans (Nat.le_refl _) (Keep.of_wr W6).1) (Keep.of_wr W8).1) (Keep.of_wr W10).1) (Keep.of_wr W12).1) (Keep.of_wr W14).1) (Keep.of_wr W16).1)) (Nat.le_of_eq g68.symm)))).ext E72).other W73 (Nat.ne_of_lt (Nat.lt_of_lt_of_le (Nat.lt_of_lt_of_le V_b4.lt (Nat.le_trans (Nat.le_trans (Nat.le_trans (Nat.le_trans (Nat.le_trans (Nat.le_trans (Nat.le_trans (Nat.le_trans (Nat.le_trans (Nat.le_trans (Nat.le_refl _) (Keep.of_wr W6).1) (Keep.of_wr W8).1) (Keep.of_wr W10).1) (Keep.of_wr W12).1) (Keep.of_wr W14).1) (Keep.of_wr W16).1) E68.1) (Keep.of_wr W69).1) (Keep.of_wr W70).1) (Keep.of_wr W71).1)) (Nat.le_of_eq g72.symm)))).other W74 (Nat.ne_of_lt (Nat.lt_of_lt_of_le (Nat.lt_of_lt_of_le V_b4.lt (Nat.le_trans (Nat.le_trans (Nat.le_trans (Nat.le_trans (Nat.le_trans (Nat.le_trans (Nat.le_trans (Nat.le_trans (Nat.le_trans (Nat.le_trans (Nat.le_refl _) (Keep.of_wr W6).1) (Keep.of_wr W8).1) (Keep.of_wr W10).1) (Keep.of_wr W12).1) (Keep.of_wr W14).1) (Keep.of_wr W16).1) E68.1) (Keep.of_wr W69).1) (Keep.of_wr W70).1) (Keep.of_wr W71).1)) (Nat.le_of_eq g72.symm)))).other W75 (Nat.ne_of_lt (Nat.lt_of_lt_of_le (Nat.lt_of_lt_of_le V_b4.lt (Nat.le_trans (Nat.le_trans (Nat.le_trans (Nat.le_trans (Nat.le_trans (Nat.le_trans (Nat.le_trans (Nat.le_trans (Nat.le_trans (Nat.le_trans (Nat.le_refl _) (Keep.of_wr W6).1) (Keep.of_wr W8).1) (Keep.of_wr W10).1) (Keep.of_wr W12).1) (Keep.of_wr W14).1) (Keep.of_wr W16).1) E68.1) (Keep.of_wr W69).1) (Keep.of_wr W70).1) (Keep.of_wr W71).1)) (Nat.le_of_eq g72.symm)))).other W76 (Nat.ne_of_lt (Nat.lt_of_lt_of_le (Nat.lt_of_lt_of_le V_b4.lt (Nat.le_trans (Nat.le_trans (Nat.le_trans (Nat.le_trans (Nat.le_trans (Nat.le_trans (Nat.le_trans (Nat.le_trans (Nat.le_trans (Nat.le_trans (Nat.le_refl _) (Keep.of_wr W6).1) (Keep.of_wr W8).1) (Keep.of_wr W10).1) (Keep.of_wr W12).1) (Keep.of_wr W14).1) (Keep.of_wr W16).1) E68.1) (Keep.of_wr W69).1) (Keep.of_wr W70).1) (Keep.of_wr W71).1)) (Nat.le_of_eq g72.symm)))).other W77 (Nat.ne_of_lt (Nat.lt_of_lt_of_le (Nat.lt_of_lt_of_le V_b4.lt (Nat.le_trans (Nat.le_trans (Nat.le_trans (Nat.le_trans (Nat.le_trans (Nat.le_trans (Nat.le_trans (Nat.le_trans (Nat.le_trans (Nat.le_trans (Nat.le_refl _) (Keep.of_wr W6).1) (Keep.of_wr W8).1) (Keep.of_wr W10).1) (Keep.of_wr W12).1) (Keep.of_wr W14).1) (Keep.of_wr W16).1) E68.1) (Keep.of_wr W69).1) (Keep.of_wr W70).1) (Keep.of_wr W71).1)) (Nat.le_of_eq g72.symm)))).other W78 (Nat.ne_of_lt (Nat.lt_of_lt_of_le (Nat.lt_of_lt_of_le V_b4.lt (Nat.le_trans (Nat.le_trans (Nat.le_trans (Nat.le_trans (Nat.le_trans (Nat.le_trans (Nat.le_trans (Nat.le_trans (Nat.le_trans (Nat.le_trans (Nat.le_refl _) (Keep.of_wr W6).1) (Keep.of_wr W8).1) (Keep.of_wr W10).1) (Keep.of_wr W12).1) (Keep.of_wr W14).1) (Keep.of_wr W16).1) E68.1) (Keep.of_wr W69).1) (Keep.of_wr W70).1) (Keep.of_wr W71).1)) (Nat.le_of_eq g72.symm)))) (v := (.long (FLD q3 (1 : Int32)))) (by decide) rfl at_251 rfl ?_
      refine m_lsub K X80.here hx hby (w0_6 q2 q3) at_252 rfl rfl ?_
      refine k_callS K X80 hx hby hZ [(.long (w0_6 q2 q3))] [(.long ((0 : Int64) + (SQ (w0_2 q2 q3))))] hown (hw _ (List.mem_of_getElem? (i := 12) rfl)) (hw _ (List.mem_of_getElem? (i := 13) rfl)) (hw _ (List.mem_of_getElem? (i := 2) rfl)) (hw _ (List.mem_of_getElem? (i := 14) rfl)) (c3 l Z a0 hw (w0_6 q2 q3) h78 n0 (Nat.le_trans Z0 (Nat.le_trans (Nat.le_trans (Nat.le_trans (Nat.le_trans (Nat.le_trans (Nat.le_trans (Nat.le_trans (Nat.le_trans (Nat.le_trans (Nat.le_trans (Nat.le_trans (Nat.le_trans (Nat.le_trans (Nat.le_trans (Nat.le_trans (Nat.le_trans (Nat.le_trans (Nat.le_trans (Nat.le_refl _) E4.1) (Keep.of_wr W6).1) (Keep.of_wr W8).1) (Keep.of_wr W10).1) (Keep.of_wr W12).1) (Keep.of_wr W14).1) (Keep.of_wr W16).1) E68.1) (Keep.of_wr W69).1) (Keep.of_wr W70).1) (Keep.of_wr W71).1) E72.1) (Keep.of_wr W73).1) (Keep.of_wr W74).1) (Keep.of_wr W75).1) (Keep.of_wr W76).1) (Keep.of_wr W77).1) (Keep.of_wr W78).1))) e80 rfl rfl pd_2 rfl at_253 (by rw [hml]; rfl) rfl (by decide) (by decide) (Nat.le_of_ble_eq_true rfl) (by decide) (by decide) fun v81 T81 L81 X81 q81 => ?_
      obtain ⟨rfl, e81, rfl⟩ := q81
      replace X81 := own_px X81
      refine k_some K (w := (.long (SQ (w0_6 q2 q3)))) ?_
      refine m_ladd K X81.here hx hby (w0_7 q2 q3) at_256 rfl rfl ?_
      refine m_lstore K X81.here hx hby #[.val (.int p1), .val (.long q2), .second, .val (.long q3), .second, .val (.long q4), .second, .val (.int (3 : Int32)), .val (.int (0 : Int32)), .val (.long (FLD q2 (0 : Int32))), .second, .val (.long (FLD q2 (1 : Int32))), .second, .val (.long (FLD q2 (2 : Int32))), .second, .val (.ref b4), .val (.ref b68), .val (.ref b72), .val (.double (FP.l2d (SS_3_0 (FLD q2 (0 : Int32)) (FLD q2 (1 : Int32)) (FLD q2 (2 : Int32)) (FLD q3 (0 : Int32)) (FLD q3 (1 : Int32)) (FLD q3 (2 : Int32))))), .second, .val (.long (w0_7 q2 q3)), .second] at_257 rfl rfl ?_
      refine m_iload K X81.here hx hby at_259 rfl rfl ?_
      refine m_iconst K X81.here hx hby (2 : Int32) at_261 rfl rfl ?_
      refine m_icmpN K X81.here hx hby (q := 265) at_262 (tlt (by decide : (2 : Int32) < (3 : Int32))).2.2.2 rfl ?_
      refine m_lload K X81.here hx hby at_265 rfl rfl ?_
      refine m_lload K X81.here hx hby at_267 rfl rfl ?_
      refine m_aload K X81.here hx hby at_269 rfl rfl rfl ?_
      refine m_iload K X81.here hx hby at_271 rfl rfl ?_
      refine m_iconst K X81.here hx hby (2 : Int32) at_273 rfl rfl ?_
      refine m_iadd K X81.here hx hby (2 : Int32) at_274 rfl rfl ?_
      refine k_ldJ K X81 hx hby hZ e81 (((((((((((V16.ext E68).other W69 (Nat.ne_of_lt (Nat.lt_of_lt_of_le (Nat.lt_of_lt_of_le V_b4.lt (Nat.le_trans (Nat.le_trans (Nat.le_trans (Nat.le_trans (Nat.le_trans (Nat.le_trans (Nat.le_refl _) (Keep.of_wr W6).1) (Keep.of_wr W8).1) (Keep.of_wr W10).1) (Keep.of_wr W12).1) (Keep.of_wr W14).1) (Keep.of_wr W16).1)) (Nat.le_of_eq g68.symm)))).other W70 (Nat.ne_of_lt (Nat.lt_of_lt_of_le (Nat.lt_of_lt_of_le V_b4.lt (Nat.le_trans (Nat.le_trans (Nat.le_trans (Nat.le_trans (Nat.le_trans (Nat.le_trans (Nat.le_refl _) (Keep.of_wr W6).1) (Keep.of_wr W8).1) (Keep.of_wr W10).1) (Keep.of_wr W12).1) (Keep.of_wr W14).1) (Keep.of_wr W16).1)) (Nat.le_of_eq g68.symm)))).other W71 (Nat.ne_of_lt (Nat.lt_of_lt_of_le (Nat.lt_of_lt_of_le V_b4.lt (Nat.le_trans (Nat.le_trans (Nat.le_trans (Nat.le_trans (Nat.le_trans (Nat.le_trans (Nat.le_refl _) (Keep.of_wr W6).1) (Keep.of_wr W8).1) (Keep.of_wr W10).1) (Keep.of_wr W12).1) (Keep.of_wr W14).1) (Keep.of_wr W16).1)) (Nat.le_of_eq g68.symm)))).ext E72).other W73 (Nat.ne_of_lt (Nat.lt_of_lt_of_le (Nat.lt_of_lt_of_le V_b4.lt (Nat.le_trans (Nat.le_trans (Nat.le_trans (Nat.le_trans (Nat.le_trans (Nat.le_trans (Nat.le_trans (Nat.le_trans (Nat.le_trans (Nat.le_trans (Nat.le_refl _) (Keep.of_wr W6).1) (Keep.of_wr W8).1) (Keep.of_wr W10).1) (Keep.of_wr W12).1) (Keep.of_wr W14).1) (Keep.of_wr W16).1) E68.1) (Keep.of_wr W69).1) (Keep.of_wr W70).1) (Keep.of_wr W71).1)) (Nat.le_of_eq g72.symm)))).other W74 (Nat.ne_of_lt (Nat.lt_of_lt_of_le (Nat.lt_of_lt_of_le V_b4.lt (Nat.le_trans (Nat.le_trans (Nat.le_trans (Nat.le_trans (Nat.le_trans (Nat.le_trans (Nat.le_trans (Nat.le_trans (Nat.le_trans (Nat.le_trans (Nat.le_refl _) (Keep.of_wr W6).1) (Keep.of_wr W8).1) (Keep.of_wr W10).1) (Keep.of_wr W12).1) (Keep.of_wr W14).1) (Keep.of_wr W16).1) E68.1) (Keep.of_wr W69).1) (Keep.of_wr W70).1) (Keep.of_wr W71).1)) (Nat.le_of_eq g72.symm)))).other W75 (Nat.ne_of_lt (Nat.lt_of_lt_of_le (Nat.lt_of_lt_of_le V_b4.lt (Nat.le_trans (Nat.le_trans (Nat.le_trans (Nat.le_trans (Nat.le_trans (Nat.le_trans (Nat.le_trans (Nat.le_trans (Nat.le_trans (Nat.le_trans (Nat.le_refl _) (Keep.of_wr W6).1) (Keep.of_wr W8).1) (Keep.of_wr W10).1) (Keep.of_wr W12).1) (Keep.of_wr W14).1) (Keep.of_wr W16).1) E68.1) (Keep.of_wr W69).1) (Keep.of_wr W70).1) (Keep.of_wr W71).1)) (Nat.le_of_eq g72.symm)))).other W76 (Nat.ne_of_lt (Nat.lt_of_lt_of_le (Nat.lt_of_lt_of_le V_b4.lt (Nat.le_trans (Nat.le_trans (Nat.le_trans (Nat.le_trans (Nat.le_trans (Nat.le_trans (Nat.le_trans (Nat.le_trans (Nat.le_trans (Nat.le_trans (Nat.le_refl _) (Keep.of_wr W6).1) (Keep.of_wr W8).1) (Keep.of_wr W10).1) (Keep.of_wr W12).1) (Keep.of_wr W14).1) (Keep.of_wr W16).1) E68.1) (Keep.of_wr W69).1) (Keep.of_wr W70).1) (Keep.of_wr W71).1)) (Nat.le_of_eq g72.symm)))).other W77 (Nat.ne_of_lt (Nat.lt_of_lt_of_le (Nat.lt_of_lt_of_le V_b4.lt (Nat.le_trans (Nat.le_trans (Nat.le_trans (Nat.le_trans (Nat.le_trans (Nat.le_trans (Nat.le_trans (Nat.le_trans (Nat.le_trans (Nat.le_trans (Nat.le_refl _) (Keep.of_wr W6).1) (Keep.of_wr W8).1) (Keep.of_wr W10).1) (Keep.of_wr W12).1) (Keep.of_wr W14).1) (Keep.of_wr W16).1) E68.1) (Keep.of_wr W69).1) (Keep.of_wr W70).1) (Keep.of_wr W71).1)) (Nat.le_of_eq g72.symm)))).other W78 (Nat.ne_of_lt (Nat.lt_of_lt_of_le (Nat.lt_of_lt_of_le V_b4.lt (Nat.le_trans (Nat.le_trans (Nat.le_trans (Nat.le_trans (Nat.le_trans (Nat.le_trans (Nat.le_trans (Nat.le_trans (Nat.le_trans (Nat.le_trans (Nat.le_refl _) (Keep.of_wr W6).1) (Keep.of_wr W8).1) (Keep.of_wr W10).1) (Keep.of_wr W12).1) (Keep.of_wr W14).1) (Keep.of_wr W16).1) E68.1) (Keep.of_wr W69).1) (Keep.of_wr W70).1) (Keep.of_wr W71).1)) (Nat.le_of_eq g72.symm)))) (v := (.long (FLD q3 (2 : Int32)))) (by decide) rfl at_275 rfl ?_
      refine m_lsub K X81.here hx hby (w0_14 q2 q3) at_276 rfl rfl ?_
      refine k_callS K X81 hx hby hZ [(.long (w0_14 q2 q3))] [(.long (w0_7 q2 q3))] hown (hw _ (List.mem_of_getElem? (i := 12) rfl)) (hw _ (List.mem_of_getElem? (i := 13) rfl)) (hw _ (List.mem_of_getElem? (i := 2) rfl)) (hw _ (List.mem_of_getElem? (i := 14) rfl)) (c3 l Z a0 hw (w0_14 q2 q3) h78 n0 (Nat.le_trans Z0 (Nat.le_trans (Nat.le_trans (Nat.le_trans (Nat.le_trans (Nat.le_trans (Nat.le_trans (Nat.le_trans (Nat.le_trans (Nat.le_trans (Nat.le_trans (Nat.le_trans (Nat.le_trans (Nat.le_trans (Nat.le_trans (Nat.le_trans (Nat.le_trans (Nat.le_trans (Nat.le_trans (Nat.le_refl _) E4.1) (Keep.of_wr W6).1) (Keep.of_wr W8).1) (Keep.of_wr W10).1) (Keep.of_wr W12).1) (Keep.of_wr W14).1) (Keep.of_wr W16).1) E68.1) (Keep.of_wr W69).1) (Keep.of_wr W70).1) (Keep.of_wr W71).1) E72.1) (Keep.of_wr W73).1) (Keep.of_wr W74).1) (Keep.of_wr W75).1) (Keep.of_wr W76).1) (Keep.of_wr W77).1) (Keep.of_wr W78).1))) e81 rfl rfl pd_2 rfl at_277 (by rw [hml]; rfl) rfl (by decide) (by decide) (Nat.le_of_ble_eq_true rfl) (by decide) (by decide) fun v82 T82 L82 X82 q82 => ?_
      obtain ⟨rfl, e82, rfl⟩ := q82
      replace X82 := own_px X82
      refine k_some K (w := (.long (SQ (w0_14 q2 q3)))) ?_
      refine m_ladd K X82.here hx hby ((w0_7 q2 q3) + (SQ (w0_14 q2 q3))) at_280 rfl rfl ?_
      refine m_lstore K X82.here hx hby #[.val (.int p1), .val (.long q2), .second, .val (.long q3), .second, .val (.long q4), .second, .val (.int (3 : Int32)), .val (.int (0 : Int32)), .val (.long (FLD q2 (0 : Int32))), .second, .val (.long (FLD q2 (1 : Int32))), .second, .val (.long (FLD q2 (2 : Int32))), .second, .val (.ref b4), .val (.ref b68), .val (.ref b72), .val (.double (FP.l2d (SS_3_0 (FLD q2 (0 : Int32)) (FLD q2 (1 : Int32)) (FLD q2 (2 : Int32)) (FLD q3 (0 : Int32)) (FLD q3 (1 : Int32)) (FLD q3 (2 : Int32))))), .second, .val (.long ((w0_7 q2 q3) + (SQ (w0_14 q2 q3)))), .second] at_281 rfl rfl ?_
      refine m_dload K X82.here hx hby at_283 rfl rfl ?_
      refine m_lload K X82.here hx hby at_285 rfl rfl ?_
      refine m_l2d K X82.here hx hby (FP.l2d ((w0_7 q2 q3) + (SQ (w0_14 q2 q3)))) at_287 rfl rfl ?_
      refine m_dcmp K X82.here hx hby (0 : Int32) at_288 (dcmpV_eq rfl (nn_w rfl) _) rfl ?_
      refine m_ifN K X82.here hx hby (q := 292) at_289 ((if0 _ _).trans (teq (by decide : (0 : Int32) = (0 : Int32))).2) rfl ?_
      refine m_iconst K X82.here hx hby (1 : Int32) at_292 rfl rfl ?_
      refine m_goto K X82.here hx hby (q := 297) at_293 (by decide) rfl ?_
      exact Go.retN X82 hx hby hlk hret (by simp) at_297 (by decide) (by decide) (by decide) (⟨rfl, N78⟩)
    · rw [hs8]
      refine m_aload K X78.here hx hby at_200 rfl rfl rfl ?_
      refine m_aload K X78.here hx hby at_202 rfl rfl rfl ?_
      refine m_iload K X78.here hx hby at_204 rfl rfl ?_
      refine k_callS K X78 hx hby hZ [(.ref b68), (.ref b72), (.int (1 : Int32))] [] hown (hw _ (List.mem_of_getElem? (i := 8) rfl)) (hw _ (List.mem_of_getElem? (i := 9) rfl)) (hw _ (List.mem_of_getElem? (i := 10) rfl)) (hw _ (List.mem_of_getElem? (i := 11) rfl)) (c2_3_1 l Z a0 hw b68 b72 (FLD q2 (0 : Int32)) (FLD q2 (1 : Int32)) (FLD q2 (2 : Int32)) (FLD q3 (0 : Int32)) (FLD q3 (1 : Int32)) (FLD q3 (2 : Int32)) (FLD q4 (0 : Int32)) (FLD q4 (1 : Int32)) (FLD q4 (2 : Int32)) h78 n0 (Nat.le_trans Z0 (Nat.le_trans (Nat.le_trans (Nat.le_trans (Nat.le_trans (Nat.le_trans (Nat.le_trans (Nat.le_trans (Nat.le_trans (Nat.le_trans (Nat.le_trans (Nat.le_trans (Nat.le_trans (Nat.le_trans (Nat.le_trans (Nat.le_trans (Nat.le_trans (Nat.le_trans (Nat.le_trans (Nat.le_refl _) E4.1) (Keep.of_wr W6).1) (Keep.of_wr W8).1) (Keep.of_wr W10).1) (Keep.of_wr W12).1) (Keep.of_wr W14).1) (Keep.of_wr W16).1) E68.1) (Keep.of_wr W69).1) (Keep.of_wr W70).1) (Keep.of_wr W71).1) E72.1) (Keep.of_wr W73).1) (Keep.of_wr W74).1) (Keep.of_wr W75).1) (Keep.of_wr W76).1) (Keep.of_wr W77).1) (Keep.of_wr W78).1)) (((((((V71.ext E72).other W73 (Nat.ne_of_lt (Nat.lt_of_lt_of_le (Nat.lt_of_lt_of_le V_b68.lt (Nat.le_trans (Nat.le_trans (Nat.le_trans (Nat.le_refl _) (Keep.of_wr W69).1) (Keep.of_wr W70).1) (Keep.of_wr W71).1)) (Nat.le_of_eq g72.symm)))).other W74 (Nat.ne_of_lt (Nat.lt_of_lt_of_le (Nat.lt_of_lt_of_le V_b68.lt (Nat.le_trans (Nat.le_trans (Nat.le_trans (Nat.le_refl _) (Keep.of_wr W69).1) (Keep.of_wr W70).1) (Keep.of_wr W71).1)) (Nat.le_of_eq g72.symm)))).other W75 (Nat.ne_of_lt (Nat.lt_of_lt_of_le (Nat.lt_of_lt_of_le V_b68.lt (Nat.le_trans (Nat.le_trans (Nat.le_trans (Nat.le_refl _) (Keep.of_wr W69).1) (Keep.of_wr W70).1) (Keep.of_wr W71).1)) (Nat.le_of_eq g72.symm)))).other W76 (Nat.ne_of_lt (Nat.lt_of_lt_of_le (Nat.lt_of_lt_of_le V_b68.lt (Nat.le_trans (Nat.le_trans (Nat.le_trans (Nat.le_refl _) (Keep.of_wr W69).1) (Keep.of_wr W70).1) (Keep.of_wr W71).1)) (Nat.le_of_eq g72.symm)))).other W77 (Nat.ne_of_lt (Nat.lt_of_lt_of_le (Nat.lt_of_lt_of_le V_b68.lt (Nat.le_trans (Nat.le_trans (Nat.le_trans (Nat.le_refl _) (Keep.of_wr W69).1) (Keep.of_wr W70).1) (Keep.of_wr W71).1)) (Nat.le_of_eq g72.symm)))).other W78 (Nat.ne_of_lt (Nat.lt_of_lt_of_le (Nat.lt_of_lt_of_le V_b68.lt (Nat.le_trans (Nat.le_trans (Nat.le_trans (Nat.le_refl _) (Keep.of_wr W69).1) (Keep.of_wr W70).1) (Keep.of_wr W71).1)) (Nat.le_of_eq g72.symm)))) V78 (own_fld q2 (0 : Int32)) (own_fld q2 (1 : Int32)) (own_fld q2 (2 : Int32)) (own_fld q3 (1 : Int32)) (own_fld q3 (2 : Int32)) (own_fld q4 (0 : Int32))) e78 rfl rfl pd_1 rfl at_206 (by rw [hml]; rfl) rfl (by decide) (by decide) (Nat.le_of_ble_eq_true rfl) (by decide) (by decide) fun v83 T83 L83 X83 q83 => ?_
      obtain ⟨rfl, e83, rfl⟩ := q83
      replace X83 := own_px X83
      refine k_some K (w := (.double (FP.l2d (SS_3_1 (FLD q2 (0 : Int32)) (FLD q2 (1 : Int32)) (FLD q2 (2 : Int32)) (FLD q3 (1 : Int32)) (FLD q3 (2 : Int32)) (FLD q4 (0 : Int32)))))) ?_
      refine m_dstore K X83.here hx hby #[.val (.int p1), .val (.long q2), .second, .val (.long q3), .second, .val (.long q4), .second, .val (.int (3 : Int32)), .val (.int (1 : Int32)), .val (.long (FLD q2 (0 : Int32))), .second, .val (.long (FLD q2 (1 : Int32))), .second, .val (.long (FLD q2 (2 : Int32))), .second, .val (.ref b4), .val (.ref b68), .val (.ref b72), .val (.double (FP.l2d (SS_3_1 (FLD q2 (0 : Int32)) (FLD q2 (1 : Int32)) (FLD q2 (2 : Int32)) (FLD q3 (1 : Int32)) (FLD q3 (2 : Int32)) (FLD q4 (0 : Int32))))), .second, .unset, .unset] at_209 rfl rfl ?_
      refine m_lconst K X83.here hx hby (0 : Int64) at_211 rfl rfl ?_
      refine m_lstore K X83.here hx hby #[.val (.int p1), .val (.long q2), .second, .val (.long q3), .second, .val (.long q4), .second, .val (.int (3 : Int32)), .val (.int (1 : Int32)), .val (.long (FLD q2 (0 : Int32))), .second, .val (.long (FLD q2 (1 : Int32))), .second, .val (.long (FLD q2 (2 : Int32))), .second, .val (.ref b4), .val (.ref b68), .val (.ref b72), .val (.double (FP.l2d (SS_3_1 (FLD q2 (0 : Int32)) (FLD q2 (1 : Int32)) (FLD q2 (2 : Int32)) (FLD q3 (1 : Int32)) (FLD q3 (2 : Int32)) (FLD q4 (0 : Int32))))), .second, .val (.long (0 : Int64)), .second] at_212 rfl rfl ?_
      refine m_iload K X83.here hx hby at_214 rfl rfl ?_
      refine m_ifN K X83.here hx hby (q := 219) at_216 ((if0 _ _).trans (tlt (by decide : (0 : Int32) < (3 : Int32))).2.2.2) rfl ?_
      refine m_lload K X83.here hx hby at_219 rfl rfl ?_
      refine m_lload K X83.here hx hby at_221 rfl rfl ?_
      refine m_aload K X83.here hx hby at_223 rfl rfl rfl ?_
      refine m_iload K X83.here hx hby at_225 rfl rfl ?_
      refine k_ldJ K X83 hx hby hZ e83 (((((((((((V16.ext E68).other W69 (Nat.ne_of_lt (Nat.lt_of_lt_of_le (Nat.lt_of_lt_of_le V_b4.lt (Nat.le_trans (Nat.le_trans (Nat.le_trans (Nat.le_trans (Nat.le_trans (Nat.le_trans (Nat.le_refl _) (Keep.of_wr W6).1) (Keep.of_wr W8).1) (Keep.of_wr W10).1) (Keep.of_wr W12).1) (Keep.of_wr W14).1) (Keep.of_wr W16).1)) (Nat.le_of_eq g68.symm)))).other W70 (Nat.ne_of_lt (Nat.lt_of_lt_of_le (Nat.lt_of_lt_of_le V_b4.lt (Nat.le_trans (Nat.le_trans (Nat.le_trans (Nat.le_trans (Nat.le_trans (Nat.le_trans (Nat.le_refl _) (Keep.of_wr W6).1) (Keep.of_wr W8).1) (Keep.of_wr W10).1) (Keep.of_wr W12).1) (Keep.of_wr W14).1) (Keep.of_wr W16).1)) (Nat.le_of_eq g68.symm)))).other W71 (Nat.ne_of_lt (Nat.lt_of_lt_of_le (Nat.lt_of_lt_of_le V_b4.lt (Nat.le_trans (Nat.le_trans (Nat.le_trans (Nat.le_trans (Nat.le_trans (Nat.le_trans (Nat.le_refl _) (Keep.of_wr W6).1) (Keep.of_wr W8).1) (Keep.of_wr W10).1) (Keep.of_wr W12).1) (Keep.of_wr W14).1) (Keep.of_wr W16).1)) (Nat.le_of_eq g68.symm)))).ext E72).other W73 (Nat.ne_of_lt (Nat.lt_of_lt_of_le (Nat.lt_of_lt_of_le V_b4.lt (Nat.le_trans (Nat.le_trans (Nat.le_trans (Nat.le_trans (Nat.le_trans (Nat.le_trans (Nat.le_trans (Nat.le_trans (Nat.le_trans (Nat.le_trans (Nat.le_refl _) (Keep.of_wr W6).1) (Keep.of_wr W8).1) (Keep.of_wr W10).1) (Keep.of_wr W12).1) (Keep.of_wr W14).1) (Keep.of_wr W16).1) E68.1) (Keep.of_wr W69).1) (Keep.of_wr W70).1) (Keep.of_wr W71).1)) (Nat.le_of_eq g72.symm)))).other W74 (Nat.ne_of_lt (Nat.lt_of_lt_of_le (Nat.lt_of_lt_of_le V_b4.lt (Nat.le_trans (Nat.le_trans (Nat.le_trans (Nat.le_trans (Nat.le_trans (Nat.le_trans (Nat.le_trans (Nat.le_trans (Nat.le_trans (Nat.le_trans (Nat.le_refl _) (Keep.of_wr W6).1) (Keep.of_wr W8).1) (Keep.of_wr W10).1) (Keep.of_wr W12).1) (Keep.of_wr W14).1) (Keep.of_wr W16).1) E68.1) (Keep.of_wr W69).1) (Keep.of_wr W70).1) (Keep.of_wr W71).1)) (Nat.le_of_eq g72.symm)))).other W75 (Nat.ne_of_lt (Nat.lt_of_lt_of_le (Nat.lt_of_lt_of_le V_b4.lt (Nat.le_trans (Nat.le_trans (Nat.le_trans (Nat.le_trans (Nat.le_trans (Nat.le_trans (Nat.le_trans (Nat.le_trans (Nat.le_trans (Nat.le_trans (Nat.le_refl _) (Keep.of_wr W6).1) (Keep.of_wr W8).1) (Keep.of_wr W10).1) (Keep.of_wr W12).1) (Keep.of_wr W14).1) (Keep.of_wr W16).1) E68.1) (Keep.of_wr W69).1) (Keep.of_wr W70).1) (Keep.of_wr W71).1)) (Nat.le_of_eq g72.symm)))).other W76 (Nat.ne_of_lt (Nat.lt_of_lt_of_le (Nat.lt_of_lt_of_le V_b4.lt (Nat.le_trans (Nat.le_trans (Nat.le_trans (Nat.le_trans (Nat.le_trans (Nat.le_trans (Nat.le_trans (Nat.le_trans (Nat.le_trans (Nat.le_trans (Nat.le_refl _) (Keep.of_wr W6).1) (Keep.of_wr W8).1) (Keep.of_wr W10).1) (Keep.of_wr W12).1) (Keep.of_wr W14).1) (Keep.of_wr W16).1) E68.1) (Keep.of_wr W69).1) (Keep.of_wr W70).1) (Keep.of_wr W71).1)) (Nat.le_of_eq g72.symm)))).other W77 (Nat.ne_of_lt (Nat.lt_of_lt_of_le (Nat.lt_of_lt_of_le V_b4.lt (Nat.le_trans (Nat.le_trans (Nat.le_trans (Nat.le_trans (Nat.le_trans (Nat.le_trans (Nat.le_trans (Nat.le_trans (Nat.le_trans (Nat.le_trans (Nat.le_refl _) (Keep.of_wr W6).1) (Keep.of_wr W8).1) (Keep.of_wr W10).1) (Keep.of_wr W12).1) (Keep.of_wr W14).1) (Keep.of_wr W16).1) E68.1) (Keep.of_wr W69).1) (Keep.of_wr W70).1) (Keep.of_wr W71).1)) (Nat.le_of_eq g72.symm)))).other W78 (Nat.ne_of_lt (Nat.lt_of_lt_of_le (Nat.lt_of_lt_of_le V_b4.lt (Nat.le_trans (Nat.le_trans (Nat.le_trans (Nat.le_trans (Nat.le_trans (Nat.le_trans (Nat.le_trans (Nat.le_trans (Nat.le_trans (Nat.le_trans (Nat.le_refl _) (Keep.of_wr W6).1) (Keep.of_wr W8).1) (Keep.of_wr W10).1) (Keep.of_wr W12).1) (Keep.of_wr W14).1) (Keep.of_wr W16).1) E68.1) (Keep.of_wr W69).1) (Keep.of_wr W70).1) (Keep.of_wr W71).1)) (Nat.le_of_eq g72.symm)))) (v := (.long (FLD q3 (1 : Int32)))) (by decide) rfl at_227 rfl ?_
      refine m_lsub K X83.here hx hby (w0_3 q2 q3) at_228 rfl rfl ?_
      refine k_callS K X83 hx hby hZ [(.long (w0_3 q2 q3))] [(.long (0 : Int64))] hown (hw _ (List.mem_of_getElem? (i := 12) rfl)) (hw _ (List.mem_of_getElem? (i := 13) rfl)) (hw _ (List.mem_of_getElem? (i := 2) rfl)) (hw _ (List.mem_of_getElem? (i := 14) rfl)) (c3 l Z a0 hw (w0_3 q2 q3) h78 n0 (Nat.le_trans Z0 (Nat.le_trans (Nat.le_trans (Nat.le_trans (Nat.le_trans (Nat.le_trans (Nat.le_trans (Nat.le_trans (Nat.le_trans (Nat.le_trans (Nat.le_trans (Nat.le_trans (Nat.le_trans (Nat.le_trans (Nat.le_trans (Nat.le_trans (Nat.le_trans (Nat.le_trans (Nat.le_trans (Nat.le_refl _) E4.1) (Keep.of_wr W6).1) (Keep.of_wr W8).1) (Keep.of_wr W10).1) (Keep.of_wr W12).1) (Keep.of_wr W14).1) (Keep.of_wr W16).1) E68.1) (Keep.of_wr W69).1) (Keep.of_wr W70).1) (Keep.of_wr W71).1) E72.1) (Keep.of_wr W73).1) (Keep.of_wr W74).1) (Keep.of_wr W75).1) (Keep.of_wr W76).1) (Keep.of_wr W77).1) (Keep.of_wr W78).1))) e83 rfl rfl pd_2 rfl at_229 (by rw [hml]; rfl) rfl (by decide) (by decide) (Nat.le_of_ble_eq_true rfl) (by decide) (by decide) fun v84 T84 L84 X84 q84 => ?_
      obtain ⟨rfl, e84, rfl⟩ := q84
      replace X84 := own_px X84
      refine k_some K (w := (.long (SQ (w0_3 q2 q3)))) ?_
      refine m_ladd K X84.here hx hby ((0 : Int64) + (SQ (w0_3 q2 q3))) at_232 rfl rfl ?_
      refine m_lstore K X84.here hx hby #[.val (.int p1), .val (.long q2), .second, .val (.long q3), .second, .val (.long q4), .second, .val (.int (3 : Int32)), .val (.int (1 : Int32)), .val (.long (FLD q2 (0 : Int32))), .second, .val (.long (FLD q2 (1 : Int32))), .second, .val (.long (FLD q2 (2 : Int32))), .second, .val (.ref b4), .val (.ref b68), .val (.ref b72), .val (.double (FP.l2d (SS_3_1 (FLD q2 (0 : Int32)) (FLD q2 (1 : Int32)) (FLD q2 (2 : Int32)) (FLD q3 (1 : Int32)) (FLD q3 (2 : Int32)) (FLD q4 (0 : Int32))))), .second, .val (.long ((0 : Int64) + (SQ (w0_3 q2 q3)))), .second] at_233 rfl rfl ?_
      refine m_iload K X84.here hx hby at_235 rfl rfl ?_
      refine m_iconst K X84.here hx hby (1 : Int32) at_237 rfl rfl ?_
      refine m_icmpN K X84.here hx hby (q := 241) at_238 (tlt (by decide : (1 : Int32) < (3 : Int32))).2.2.2 rfl ?_
      refine m_lload K X84.here hx hby at_241 rfl rfl ?_
      refine m_lload K X84.here hx hby at_243 rfl rfl ?_
      refine m_aload K X84.here hx hby at_245 rfl rfl rfl ?_
      refine m_iload K X84.here hx hby at_247 rfl rfl ?_
      refine m_iconst K X84.here hx hby (1 : Int32) at_249 rfl rfl ?_
      refine m_iadd K X84.here hx hby (2 : Int32) at_250 rfl rfl ?_
      refine k_ldJ K X84 hx hby hZ e84 (((((((((((V16.ext E68).other W69 (Nat.ne_of_lt (Nat.lt_of_lt_of_le (Nat.lt_of_lt_of_le V_b4.lt (Nat.le_trans (Nat.le_trans (Nat.le_trans (Nat.le_trans (Nat.le_trans (Nat.le_trans (Nat.le_refl _) (Keep.of_wr W6).1) (Keep.of_wr W8).1) (Keep.of_wr W10).1) (Keep.of_wr W12).1) (Keep.of_wr W14).1) (Keep.of_wr W16).1)) (Nat.le_of_eq g68.symm)))).other W70 (Nat.ne_of_lt (Nat.lt_of_lt_of_le (Nat.lt_of_lt_of_le V_b4.lt (Nat.le_trans (Nat.le_trans (Nat.le_trans (Nat.le_trans (Nat.le_trans (Nat.le_trans (Nat.le_refl _) (Keep.of_wr W6).1) (Keep.of_wr W8).1) (Keep.of_wr W10).1) (Keep.of_wr W12).1) (Keep.of_wr W14).1) (Keep.of_wr W16).1)) (Nat.le_of_eq g68.symm)))).other W71 (Nat.ne_of_lt (Nat.lt_of_lt_of_le (Nat.lt_of_lt_of_le V_b4.lt (Nat.le_trans (Nat.le_trans (Nat.le_trans (Nat.le_trans (Nat.le_trans (Nat.le_trans (Nat.le_refl _) (Keep.of_wr W6).1) (Keep.of_wr W8).1) (Keep.of_wr W10).1) (Keep.of_wr W12).1) (Keep.of_wr W14).1) (Keep.of_wr W16).1)) (Nat.le_of_eq g68.symm)))).ext E72).other W73 (Nat.ne_of_lt (Nat.lt_of_lt_of_le (Nat.lt_of_lt_of_le V_b4.lt (Nat.le_trans (Nat.le_trans (Nat.le_trans (Nat.le_trans (Nat.le_trans (Nat.le_trans (Nat.le_trans (Nat.le_trans (Nat.le_trans (Nat.le_trans (Nat.le_refl _) (Keep.of_wr W6).1) (Keep.of_wr W8).1) (Keep.of_wr W10).1) (Keep.of_wr W12).1) (Keep.of_wr W14).1) (Keep.of_wr W16).1) E68.1) (Keep.of_wr W69).1) (Keep.of_wr W70).1) (Keep.of_wr W71).1)) (Nat.le_of_eq g72.symm)))).other W74 (Nat.ne_of_lt (Nat.lt_of_lt_of_le (Nat.lt_of_lt_of_le V_b4.lt (Nat.le_trans (Nat.le_trans (Nat.le_trans (Nat.le_trans (Nat.le_trans (Nat.le_trans (Nat.le_trans (Nat.le_trans (Nat.le_trans (Nat.le_trans (Nat.le_refl _) (Keep.of_wr W6).1) (Keep.of_wr W8).1) (Keep.of_wr W10).1) (Keep.of_wr W12).1) (Keep.of_wr W14).1) (Keep.of_wr W16).1) E68.1) (Keep.of_wr W69).1) (Keep.of_wr W70).1) (Keep.of_wr W71).1)) (Nat.le_of_eq g72.symm)))).other W75 (Nat.ne_of_lt (Nat.lt_of_lt_of_le (Nat.lt_of_lt_of_le V_b4.lt (Nat.le_trans (Nat.le_trans (Nat.le_trans (Nat.le_trans (Nat.le_trans (Nat.le_trans (Nat.le_trans (Nat.le_trans (Nat.le_trans (Nat.le_trans (Nat.le_refl _) (Keep.of_wr W6).1) (Keep.of_wr W8).1) (Keep.of_wr W10).1) (Keep.of_wr W12).1) (Keep.of_wr W14).1) (Keep.of_wr W16).1) E68.1) (Keep.of_wr W69).1) (Keep.of_wr W70).1) (Keep.of_wr W71).1)) (Nat.le_of_eq g72.symm)))).other W76 (Nat.ne_of_lt (Nat.lt_of_lt_of_le (Nat.lt_of_lt_of_le V_b4.lt (Nat.le_trans (Nat.le_trans (Nat.le_trans (Nat.le_trans (Nat.le_trans (Nat.le_trans (Nat.le_trans (Nat.le_trans (Nat.le_trans (Nat.le_trans (Nat.le_refl _) (Keep.of_wr W6).1) (Keep.of_wr W8).1) (Keep.of_wr W10).1) (Keep.of_wr W12).1) (Keep.of_wr W14).1) (Keep.of_wr W16).1) E68.1) (Keep.of_wr W69).1) (Keep.of_wr W70).1) (Keep.of_wr W71).1)) (Nat.le_of_eq g72.symm)))).other W77 (Nat.ne_of_lt (Nat.lt_of_lt_of_le (Nat.lt_of_lt_of_le V_b4.lt (Nat.le_trans (Nat.le_trans (Nat.le_trans (Nat.le_trans (Nat.le_trans (Nat.le_trans (Nat.le_trans (Nat.le_trans (Nat.le_trans (Nat.le_trans (Nat.le_refl _) (Keep.of_wr W6).1) (Keep.of_wr W8).1) (Keep.of_wr W10).1) (Keep.of_wr W12).1) (Keep.of_wr W14).1) (Keep.of_wr W16).1) E68.1) (Keep.of_wr W69).1) (Keep.of_wr W70).1) (Keep.of_wr W71).1)) (Nat.le_of_eq g72.symm)))).other W78 (Nat.ne_of_lt (Nat.lt_of_lt_of_le (Nat.lt_of_lt_of_le V_b4.lt (Nat.le_trans (Nat.le_trans (Nat.le_trans (Nat.le_trans (Nat.le_trans (Nat.le_trans (Nat.le_trans (Nat.le_trans (Nat.le_trans (Nat.le_trans (Nat.le_refl _) (Keep.of_wr W6).1) (Keep.of_wr W8).1) (Keep.of_wr W10).1) (Keep.of_wr W12).1) (Keep.of_wr W14).1) (Keep.of_wr W16).1) E68.1) (Keep.of_wr W69).1) (Keep.of_wr W70).1) (Keep.of_wr W71).1)) (Nat.le_of_eq g72.symm)))) (v := (.long (FLD q3 (2 : Int32)))) (by decide) rfl at_251 rfl ?_
      refine m_lsub K X84.here hx hby (w0_8 q2 q3) at_252 rfl rfl ?_
      refine k_callS K X84 hx hby hZ [(.long (w0_8 q2 q3))] [(.long ((0 : Int64) + (SQ (w0_3 q2 q3))))] hown (hw _ (List.mem_of_getElem? (i := 12) rfl)) (hw _ (List.mem_of_getElem? (i := 13) rfl)) (hw _ (List.mem_of_getElem? (i := 2) rfl)) (hw _ (List.mem_of_getElem? (i := 14) rfl)) (c3 l Z a0 hw (w0_8 q2 q3) h78 n0 (Nat.le_trans Z0 (Nat.le_trans (Nat.le_trans (Nat.le_trans (Nat.le_trans (Nat.le_trans (Nat.le_trans (Nat.le_trans (Nat.le_trans (Nat.le_trans (Nat.le_trans (Nat.le_trans (Nat.le_trans (Nat.le_trans (Nat.le_trans (Nat.le_trans (Nat.le_trans (Nat.le_trans (Nat.le_trans (Nat.le_refl _) E4.1) (Keep.of_wr W6).1) (Keep.of_wr W8).1) (Keep.of_wr W10).1) (Keep.of_wr W12).1) (Keep.of_wr W14).1) (Keep.of_wr W16).1) E68.1) (Keep.of_wr W69).1) (Keep.of_wr W70).1) (Keep.of_wr W71).1) E72.1) (Keep.of_wr W73).1) (Keep.of_wr W74).1) (Keep.of_wr W75).1) (Keep.of_wr W76).1) (Keep.of_wr W77).1) (Keep.of_wr W78).1))) e84 rfl rfl pd_2 rfl at_253 (by rw [hml]; rfl) rfl (by decide) (by decide) (Nat.le_of_ble_eq_true rfl) (by decide) (by decide) fun v85 T85 L85 X85 q85 => ?_
      obtain ⟨rfl, e85, rfl⟩ := q85
      replace X85 := own_px X85
      refine k_some K (w := (.long (SQ (w0_8 q2 q3)))) ?_
      refine m_ladd K X85.here hx hby (w0_9 q2 q3) at_256 rfl rfl ?_
      refine m_lstore K X85.here hx hby #[.val (.int p1), .val (.long q2), .second, .val (.long q3), .second, .val (.long q4), .second, .val (.int (3 : Int32)), .val (.int (1 : Int32)), .val (.long (FLD q2 (0 : Int32))), .second, .val (.long (FLD q2 (1 : Int32))), .second, .val (.long (FLD q2 (2 : Int32))), .second, .val (.ref b4), .val (.ref b68), .val (.ref b72), .val (.double (FP.l2d (SS_3_1 (FLD q2 (0 : Int32)) (FLD q2 (1 : Int32)) (FLD q2 (2 : Int32)) (FLD q3 (1 : Int32)) (FLD q3 (2 : Int32)) (FLD q4 (0 : Int32))))), .second, .val (.long (w0_9 q2 q3)), .second] at_257 rfl rfl ?_
      refine m_iload K X85.here hx hby at_259 rfl rfl ?_
      refine m_iconst K X85.here hx hby (2 : Int32) at_261 rfl rfl ?_
      refine m_icmpN K X85.here hx hby (q := 265) at_262 (tlt (by decide : (2 : Int32) < (3 : Int32))).2.2.2 rfl ?_
      refine m_lload K X85.here hx hby at_265 rfl rfl ?_
      refine m_lload K X85.here hx hby at_267 rfl rfl ?_
      refine m_aload K X85.here hx hby at_269 rfl rfl rfl ?_
      refine m_iload K X85.here hx hby at_271 rfl rfl ?_
      refine m_iconst K X85.here hx hby (2 : Int32) at_273 rfl rfl ?_
      refine m_iadd K X85.here hx hby (3 : Int32) at_274 rfl rfl ?_
      refine k_ldJ K X85 hx hby hZ e85 (((((((((((V16.ext E68).other W69 (Nat.ne_of_lt (Nat.lt_of_lt_of_le (Nat.lt_of_lt_of_le V_b4.lt (Nat.le_trans (Nat.le_trans (Nat.le_trans (Nat.le_trans (Nat.le_trans (Nat.le_trans (Nat.le_refl _) (Keep.of_wr W6).1) (Keep.of_wr W8).1) (Keep.of_wr W10).1) (Keep.of_wr W12).1) (Keep.of_wr W14).1) (Keep.of_wr W16).1)) (Nat.le_of_eq g68.symm)))).other W70 (Nat.ne_of_lt (Nat.lt_of_lt_of_le (Nat.lt_of_lt_of_le V_b4.lt (Nat.le_trans (Nat.le_trans (Nat.le_trans (Nat.le_trans (Nat.le_trans (Nat.le_trans (Nat.le_refl _) (Keep.of_wr W6).1) (Keep.of_wr W8).1) (Keep.of_wr W10).1) (Keep.of_wr W12).1) (Keep.of_wr W14).1) (Keep.of_wr W16).1)) (Nat.le_of_eq g68.symm)))).other W71 (Nat.ne_of_lt (Nat.lt_of_lt_of_le (Nat.lt_of_lt_of_le V_b4.lt (Nat.le_trans (Nat.le_trans (Nat.le_trans (Nat.le_trans (Nat.le_trans (Nat.le_trans (Nat.le_refl _) (Keep.of_wr W6).1) (Keep.of_wr W8).1) (Keep.of_wr W10).1) (Keep.of_wr W12).1) (Keep.of_wr W14).1) (Keep.of_wr W16).1)) (Nat.le_of_eq g68.symm)))).ext E72).other W73 (Nat.ne_of_lt (Nat.lt_of_lt_of_le (Nat.lt_of_lt_of_le V_b4.lt (Nat.le_trans (Nat.le_trans (Nat.le_trans (Nat.le_trans (Nat.le_trans (Nat.le_trans (Nat.le_trans (Nat.le_trans (Nat.le_trans (Nat.le_trans (Nat.le_refl _) (Keep.of_wr W6).1) (Keep.of_wr W8).1) (Keep.of_wr W10).1) (Keep.of_wr W12).1) (Keep.of_wr W14).1) (Keep.of_wr W16).1) E68.1) (Keep.of_wr W69).1) (Keep.of_wr W70).1) (Keep.of_wr W71).1)) (Nat.le_of_eq g72.symm)))).other W74 (Nat.ne_of_lt (Nat.lt_of_lt_of_le (Nat.lt_of_lt_of_le V_b4.lt (Nat.le_trans (Nat.le_trans (Nat.le_trans (Nat.le_trans (Nat.le_trans (Nat.le_trans (Nat.le_trans (Nat.le_trans (Nat.le_trans (Nat.le_trans (Nat.le_refl _) (Keep.of_wr W6).1) (Keep.of_wr W8).1) (Keep.of_wr W10).1) (Keep.of_wr W12).1) (Keep.of_wr W14).1) (Keep.of_wr W16).1) E68.1) (Keep.of_wr W69).1) (Keep.of_wr W70).1) (Keep.of_wr W71).1)) (Nat.le_of_eq g72.symm)))).other W75 (Nat.ne_of_lt (Nat.lt_of_lt_of_le (Nat.lt_of_lt_of_le V_b4.lt (Nat.le_trans (Nat.le_trans (Nat.le_trans (Nat.le_trans (Nat.le_trans (Nat.le_trans (Nat.le_trans (Nat.le_trans (Nat.le_trans (Nat.le_trans (Nat.le_refl _) (Keep.of_wr W6).1) (Keep.of_wr W8).1) (Keep.of_wr W10).1) (Keep.of_wr W12).1) (Keep.of_wr W14).1) (Keep.of_wr W16).1) E68.1) (Keep.of_wr W69).1) (Keep.of_wr W70).1) (Keep.of_wr W71).1)) (Nat.le_of_eq g72.symm)))).other W76 (Nat.ne_of_lt (Nat.lt_of_lt_of_le (Nat.lt_of_lt_of_le V_b4.lt (Nat.le_trans (Nat.le_trans (Nat.le_trans (Nat.le_trans (Nat.le_trans (Nat.le_trans (Nat.le_trans (Nat.le_trans (Nat.le_trans (Nat.le_trans (Nat.le_refl _) (Keep.of_wr W6).1) (Keep.of_wr W8).1) (Keep.of_wr W10).1) (Keep.of_wr W12).1) (Keep.of_wr W14).1) (Keep.of_wr W16).1) E68.1) (Keep.of_wr W69).1) (Keep.of_wr W70).1) (Keep.of_wr W71).1)) (Nat.le_of_eq g72.symm)))).other W77 (Nat.ne_of_lt (Nat.lt_of_lt_of_le (Nat.lt_of_lt_of_le V_b4.lt (Nat.le_trans (Nat.le_trans (Nat.le_trans (Nat.le_trans (Nat.le_trans (Nat.le_trans (Nat.le_trans (Nat.le_trans (Nat.le_trans (Nat.le_trans (Nat.le_refl _) (Keep.of_wr W6).1) (Keep.of_wr W8).1) (Keep.of_wr W10).1) (Keep.of_wr W12).1) (Keep.of_wr W14).1) (Keep.of_wr W16).1) E68.1) (Keep.of_wr W69).1) (Keep.of_wr W70).1) (Keep.of_wr W71).1)) (Nat.le_of_eq g72.symm)))).other W78 (Nat.ne_of_lt (Nat.lt_of_lt_of_le (Nat.lt_of_lt_of_le V_b4.lt (Nat.le_trans (Nat.le_trans (Nat.le_trans (Nat.le_trans (Nat.le_trans (Nat.le_trans (Nat.le_trans (Nat.le_trans (Nat.le_trans (Nat.le_trans (Nat.le_refl _) (Keep.of_wr W6).1) (Keep.of_wr W8).1) (Keep.of_wr W10).1) (Keep.of_wr W12).1) (Keep.of_wr W14).1) (Keep.of_wr W16).1) E68.1) (Keep.of_wr W69).1) (Keep.of_wr W70).1) (Keep.of_wr W71).1)) (Nat.le_of_eq g72.symm)))) (v := (.long (FLD q4 (0 : Int32)))) (by decide) rfl at_275 rfl ?_
      refine m_lsub K X85.here hx hby (w0_15 q2 q4) at_276 rfl rfl ?_
      refine k_callS K X85 hx hby hZ [(.long (w0_15 q2 q4))] [(.long (w0_9 q2 q3))] hown (hw _ (List.mem_of_getElem? (i := 12) rfl)) (hw _ (List.mem_of_getElem? (i := 13) rfl)) (hw _ (List.mem_of_getElem? (i := 2) rfl)) (hw _ (List.mem_of_getElem? (i := 14) rfl)) (c3 l Z a0 hw (w0_15 q2 q4) h78 n0 (Nat.le_trans Z0 (Nat.le_trans (Nat.le_trans (Nat.le_trans (Nat.le_trans (Nat.le_trans (Nat.le_trans (Nat.le_trans (Nat.le_trans (Nat.le_trans (Nat.le_trans (Nat.le_trans (Nat.le_trans (Nat.le_trans (Nat.le_trans (Nat.le_trans (Nat.le_trans (Nat.le_trans (Nat.le_trans (Nat.le_refl _) E4.1) (Keep.of_wr W6).1) (Keep.of_wr W8).1) (Keep.of_wr W10).1) (Keep.of_wr W12).1) (Keep.of_wr W14).1) (Keep.of_wr W16).1) E68.1) (Keep.of_wr W69).1) (Keep.of_wr W70).1) (Keep.of_wr W71).1) E72.1) (Keep.of_wr W73).1) (Keep.of_wr W74).1) (Keep.of_wr W75).1) (Keep.of_wr W76).1) (Keep.of_wr W77).1) (Keep.of_wr W78).1))) e85 rfl rfl pd_2 rfl at_277 (by rw [hml]; rfl) rfl (by decide) (by decide) (Nat.le_of_ble_eq_true rfl) (by decide) (by decide) fun v86 T86 L86 X86 q86 => ?_
      obtain ⟨rfl, e86, rfl⟩ := q86
      replace X86 := own_px X86
      refine k_some K (w := (.long (SQ (w0_15 q2 q4)))) ?_
      refine m_ladd K X86.here hx hby ((w0_9 q2 q3) + (SQ (w0_15 q2 q4))) at_280 rfl rfl ?_
      refine m_lstore K X86.here hx hby #[.val (.int p1), .val (.long q2), .second, .val (.long q3), .second, .val (.long q4), .second, .val (.int (3 : Int32)), .val (.int (1 : Int32)), .val (.long (FLD q2 (0 : Int32))), .second, .val (.long (FLD q2 (1 : Int32))), .second, .val (.long (FLD q2 (2 : Int32))), .second, .val (.ref b4), .val (.ref b68), .val (.ref b72), .val (.double (FP.l2d (SS_3_1 (FLD q2 (0 : Int32)) (FLD q2 (1 : Int32)) (FLD q2 (2 : Int32)) (FLD q3 (1 : Int32)) (FLD q3 (2 : Int32)) (FLD q4 (0 : Int32))))), .second, .val (.long ((w0_9 q2 q3) + (SQ (w0_15 q2 q4)))), .second] at_281 rfl rfl ?_
      refine m_dload K X86.here hx hby at_283 rfl rfl ?_
      refine m_lload K X86.here hx hby at_285 rfl rfl ?_
      refine m_l2d K X86.here hx hby (FP.l2d ((w0_9 q2 q3) + (SQ (w0_15 q2 q4)))) at_287 rfl rfl ?_
      refine m_dcmp K X86.here hx hby (0 : Int32) at_288 (dcmpV_eq rfl (nn_w rfl) _) rfl ?_
      refine m_ifN K X86.here hx hby (q := 292) at_289 ((if0 _ _).trans (teq (by decide : (0 : Int32) = (0 : Int32))).2) rfl ?_
      refine m_iconst K X86.here hx hby (1 : Int32) at_292 rfl rfl ?_
      refine m_goto K X86.here hx hby (q := 297) at_293 (by decide) rfl ?_
      exact Go.retN X86 hx hby hlk hret (by simp) at_297 (by decide) (by decide) (by decide) (⟨rfl, N78⟩)
    · rw [hs8]
      refine m_aload K X78.here hx hby at_200 rfl rfl rfl ?_
      refine m_aload K X78.here hx hby at_202 rfl rfl rfl ?_
      refine m_iload K X78.here hx hby at_204 rfl rfl ?_
      refine k_callS K X78 hx hby hZ [(.ref b68), (.ref b72), (.int (2 : Int32))] [] hown (hw _ (List.mem_of_getElem? (i := 8) rfl)) (hw _ (List.mem_of_getElem? (i := 9) rfl)) (hw _ (List.mem_of_getElem? (i := 10) rfl)) (hw _ (List.mem_of_getElem? (i := 11) rfl)) (c2_3_2 l Z a0 hw b68 b72 (FLD q2 (0 : Int32)) (FLD q2 (1 : Int32)) (FLD q2 (2 : Int32)) (FLD q3 (0 : Int32)) (FLD q3 (1 : Int32)) (FLD q3 (2 : Int32)) (FLD q4 (0 : Int32)) (FLD q4 (1 : Int32)) (FLD q4 (2 : Int32)) h78 n0 (Nat.le_trans Z0 (Nat.le_trans (Nat.le_trans (Nat.le_trans (Nat.le_trans (Nat.le_trans (Nat.le_trans (Nat.le_trans (Nat.le_trans (Nat.le_trans (Nat.le_trans (Nat.le_trans (Nat.le_trans (Nat.le_trans (Nat.le_trans (Nat.le_trans (Nat.le_trans (Nat.le_trans (Nat.le_trans (Nat.le_refl _) E4.1) (Keep.of_wr W6).1) (Keep.of_wr W8).1) (Keep.of_wr W10).1) (Keep.of_wr W12).1) (Keep.of_wr W14).1) (Keep.of_wr W16).1) E68.1) (Keep.of_wr W69).1) (Keep.of_wr W70).1) (Keep.of_wr W71).1) E72.1) (Keep.of_wr W73).1) (Keep.of_wr W74).1) (Keep.of_wr W75).1) (Keep.of_wr W76).1) (Keep.of_wr W77).1) (Keep.of_wr W78).1)) (((((((V71.ext E72).other W73 (Nat.ne_of_lt (Nat.lt_of_lt_of_le (Nat.lt_of_lt_of_le V_b68.lt (Nat.le_trans (Nat.le_trans (Nat.le_trans (Nat.le_refl _) (Keep.of_wr W69).1) (Keep.of_wr W70).1) (Keep.of_wr W71).1)) (Nat.le_of_eq g72.symm)))).other W74 (Nat.ne_of_lt (Nat.lt_of_lt_of_le (Nat.lt_of_lt_of_le V_b68.lt (Nat.le_trans (Nat.le_trans (Nat.le_trans (Nat.le_refl _) (Keep.of_wr W69).1) (Keep.of_wr W70).1) (Keep.of_wr W71).1)) (Nat.le_of_eq g72.symm)))).other W75 (Nat.ne_of_lt (Nat.lt_of_lt_of_le (Nat.lt_of_lt_of_le V_b68.lt (Nat.le_trans (Nat.le_trans (Nat.le_trans (Nat.le_refl _) (Keep.of_wr W69).1) (Keep.of_wr W70).1) (Keep.of_wr W71).1)) (Nat.le_of_eq g72.symm)))).other W76 (Nat.ne_of_lt (Nat.lt_of_lt_of_le (Nat.lt_of_lt_of_le V_b68.lt (Nat.le_trans (Nat.le_trans (Nat.le_trans (Nat.le_refl _) (Keep.of_wr W69).1) (Keep.of_wr W70).1) (Keep.of_wr W71).1)) (Nat.le_of_eq g72.symm)))).other W77 (Nat.ne_of_lt (Nat.lt_of_lt_of_le (Nat.lt_of_lt_of_le V_b68.lt (Nat.le_trans (Nat.le_trans (Nat.le_trans (Nat.le_refl _) (Keep.of_wr W69).1) (Keep.of_wr W70).1) (Keep.of_wr W71).1)) (Nat.le_of_eq g72.symm)))).other W78 (Nat.ne_of_lt (Nat.lt_of_lt_of_le (Nat.lt_of_lt_of_le V_b68.lt (Nat.le_trans (Nat.le_trans (Nat.le_trans (Nat.le_refl _) (Keep.of_wr W69).1) (Keep.of_wr W70).1) (Keep.of_wr W71).1)) (Nat.le_of_eq g72.symm)))) V78 (own_fld q2 (0 : Int32)) (own_fld q2 (1 : Int32)) (own_fld q2 (2 : Int32)) (own_fld q3 (2 : Int32)) (own_fld q4 (0 : Int32)) (own_fld q4 (1 : Int32))) e78 rfl rfl pd_1 rfl at_206 (by rw [hml]; rfl) rfl (by decide) (by decide) (Nat.le_of_ble_eq_true rfl) (by decide) (by decide) fun v87 T87 L87 X87 q87 => ?_
      obtain ⟨rfl, e87, rfl⟩ := q87
      replace X87 := own_px X87
      refine k_some K (w := (.double (FP.l2d (SS_3_2 (FLD q2 (0 : Int32)) (FLD q2 (1 : Int32)) (FLD q2 (2 : Int32)) (FLD q3 (2 : Int32)) (FLD q4 (0 : Int32)) (FLD q4 (1 : Int32)))))) ?_
      refine m_dstore K X87.here hx hby #[.val (.int p1), .val (.long q2), .second, .val (.long q3), .second, .val (.long q4), .second, .val (.int (3 : Int32)), .val (.int (2 : Int32)), .val (.long (FLD q2 (0 : Int32))), .second, .val (.long (FLD q2 (1 : Int32))), .second, .val (.long (FLD q2 (2 : Int32))), .second, .val (.ref b4), .val (.ref b68), .val (.ref b72), .val (.double (FP.l2d (SS_3_2 (FLD q2 (0 : Int32)) (FLD q2 (1 : Int32)) (FLD q2 (2 : Int32)) (FLD q3 (2 : Int32)) (FLD q4 (0 : Int32)) (FLD q4 (1 : Int32))))), .second, .unset, .unset] at_209 rfl rfl ?_
      refine m_lconst K X87.here hx hby (0 : Int64) at_211 rfl rfl ?_
      refine m_lstore K X87.here hx hby #[.val (.int p1), .val (.long q2), .second, .val (.long q3), .second, .val (.long q4), .second, .val (.int (3 : Int32)), .val (.int (2 : Int32)), .val (.long (FLD q2 (0 : Int32))), .second, .val (.long (FLD q2 (1 : Int32))), .second, .val (.long (FLD q2 (2 : Int32))), .second, .val (.ref b4), .val (.ref b68), .val (.ref b72), .val (.double (FP.l2d (SS_3_2 (FLD q2 (0 : Int32)) (FLD q2 (1 : Int32)) (FLD q2 (2 : Int32)) (FLD q3 (2 : Int32)) (FLD q4 (0 : Int32)) (FLD q4 (1 : Int32))))), .second, .val (.long (0 : Int64)), .second] at_212 rfl rfl ?_
      refine m_iload K X87.here hx hby at_214 rfl rfl ?_
      refine m_ifN K X87.here hx hby (q := 219) at_216 ((if0 _ _).trans (tlt (by decide : (0 : Int32) < (3 : Int32))).2.2.2) rfl ?_
      refine m_lload K X87.here hx hby at_219 rfl rfl ?_
      refine m_lload K X87.here hx hby at_221 rfl rfl ?_
      refine m_aload K X87.here hx hby at_223 rfl rfl rfl ?_
      refine m_iload K X87.here hx hby at_225 rfl rfl ?_
      refine k_ldJ K X87 hx hby hZ e87 (((((((((((V16.ext E68).other W69 (Nat.ne_of_lt (Nat.lt_of_lt_of_le (Nat.lt_of_lt_of_le V_b4.lt (Nat.le_trans (Nat.le_trans (Nat.le_trans (Nat.le_trans (Nat.le_trans (Nat.le_trans (Nat.le_refl _) (Keep.of_wr W6).1) (Keep.of_wr W8).1) (Keep.of_wr W10).1) (Keep.of_wr W12).1) (Keep.of_wr W14).1) (Keep.of_wr W16).1)) (Nat.le_of_eq g68.symm)))).other W70 (Nat.ne_of_lt (Nat.lt_of_lt_of_le (Nat.lt_of_lt_of_le V_b4.lt (Nat.le_trans (Nat.le_trans (Nat.le_trans (Nat.le_trans (Nat.le_trans (Nat.le_trans (Nat.le_refl _) (Keep.of_wr W6).1) (Keep.of_wr W8).1) (Keep.of_wr W10).1) (Keep.of_wr W12).1) (Keep.of_wr W14).1) (Keep.of_wr W16).1)) (Nat.le_of_eq g68.symm)))).other W71 (Nat.ne_of_lt (Nat.lt_of_lt_of_le (Nat.lt_of_lt_of_le V_b4.lt (Nat.le_trans (Nat.le_trans (Nat.le_trans (Nat.le_trans (Nat.le_trans (Nat.le_trans (Nat.le_refl _) (Keep.of_wr W6).1) (Keep.of_wr W8).1) (Keep.of_wr W10).1) (Keep.of_wr W12).1) (Keep.of_wr W14).1) (Keep.of_wr W16).1)) (Nat.le_of_eq g68.symm)))).ext E72).other W73 (Nat.ne_of_lt (Nat.lt_of_lt_of_le (Nat.lt_of_lt_of_le V_b4.lt (Nat.le_trans (Nat.le_trans (Nat.le_trans (Nat.le_trans (Nat.le_trans (Nat.le_trans (Nat.le_trans (Nat.le_trans (Nat.le_trans (Nat.le_trans (Nat.le_refl _) (Keep.of_wr W6).1) (Keep.of_wr W8).1) (Keep.of_wr W10).1) (Keep.of_wr W12).1) (Keep.of_wr W14).1) (Keep.of_wr W16).1) E68.1) (Keep.of_wr W69).1) (Keep.of_wr W70).1) (Keep.of_wr W71).1)) (Nat.le_of_eq g72.symm)))).other W74 (Nat.ne_of_lt (Nat.lt_of_lt_of_le (Nat.lt_of_lt_of_le V_b4.lt (Nat.le_trans (Nat.le_trans (Nat.le_trans (Nat.le_trans (Nat.le_trans (Nat.le_trans (Nat.le_trans (Nat.le_trans (Nat.le_trans (Nat.le_trans (Nat.le_refl _) (Keep.of_wr W6).1) (Keep.of_wr W8).1) (Keep.of_wr W10).1) (Keep.of_wr W12).1) (Keep.of_wr W14).1) (Keep.of_wr W16).1) E68.1) (Keep.of_wr W69).1) (Keep.of_wr W70).1) (Keep.of_wr W71).1)) (Nat.le_of_eq g72.symm)))).other W75 (Nat.ne_of_lt (Nat.lt_of_lt_of_le (Nat.lt_of_lt_of_le V_b4.lt (Nat.le_trans (Nat.le_trans (Nat.le_trans (Nat.le_trans (Nat.le_trans (Nat.le_trans (Nat.le_trans (Nat.le_trans (Nat.le_trans (Nat.le_trans (Nat.le_refl _) (Keep.of_wr W6).1) (Keep.of_wr W8).1) (Keep.of_wr W10).1) (Keep.of_wr W12).1) (Keep.of_wr W14).1) (Keep.of_wr W16).1) E68.1) (Keep.of_wr W69).1) (Keep.of_wr W70).1) (Keep.of_wr W71).1)) (Nat.le_of_eq g72.symm)))).other W76 (Nat.ne_of_lt (Nat.lt_of_lt_of_le (Nat.lt_of_lt_of_le V_b4.lt (Nat.le_trans (Nat.le_trans (Nat.le_trans (Nat.le_trans (Nat.le_trans (Nat.le_trans (Nat.le_trans (Nat.le_trans (Nat.le_trans (Nat.le_trans (Nat.le_refl _) (Keep.of_wr W6).1) (Keep.of_wr W8).1) (Keep.of_wr W10).1) (Keep.of_wr W12).1) (Keep.of_wr W14).1) (Keep.of_wr W16).1) E68.1) (Keep.of_wr W69).1) (Keep.of_wr W70).1) (Keep.of_wr W71).1)) (Nat.le_of_eq g72.symm)))).other W77 (Nat.ne_of_lt (Nat.lt_of_lt_of_le (Nat.lt_of_lt_of_le V_b4.lt (Nat.le_trans (Nat.le_trans (Nat.le_trans (Nat.le_trans (Nat.le_trans (Nat.le_trans (Nat.le_trans (Nat.le_trans (Nat.le_trans (Nat.le_trans (Nat.le_refl _) (Keep.of_wr W6).1) (Keep.of_wr W8).1) (Keep.of_wr W10).1) (Keep.of_wr W12).1) (Keep.of_wr W14).1) (Keep.of_wr W16).1) E68.1) (Keep.of_wr W69).1) (Keep.of_wr W70).1) (Keep.of_wr W71).1)) (Nat.le_of_eq g72.symm)))).other W78 (Nat.ne_of_lt (Nat.lt_of_lt_of_le (Nat.lt_of_lt_of_le V_b4.lt (Nat.le_trans (Nat.le_trans (Nat.le_trans (Nat.le_trans (Nat.le_trans (Nat.le_trans (Nat.le_trans (Nat.le_trans (Nat.le_trans (Nat.le_trans (Nat.le_refl _) (Keep.of_wr W6).1) (Keep.of_wr W8).1) (Keep.of_wr W10).1) (Keep.of_wr W12).1) (Keep.of_wr W14).1) (Keep.of_wr W16).1) E68.1) (Keep.of_wr W69).1) (Keep.of_wr W70).1) (Keep.of_wr W71).1)) (Nat.le_of_eq g72.symm)))) (v := (.long (FLD q3 (2 : Int32)))) (by decide) rfl at_227 rfl ?_
      refine m_lsub K X87.here hx hby (w0_4 q2 q3) at_228 rfl rfl ?_
      refine k_callS K X87 hx hby hZ [(.long (w0_4 q2 q3))] [(.long (0 : Int64))] hown (hw _ (List.mem_of_getElem? (i := 12) rfl)) (hw _ (List.mem_of_getElem? (i := 13) rfl)) (hw _ (List.mem_of_getElem? (i := 2) rfl)) (hw _ (List.mem_of_getElem? (i := 14) rfl)) (c3 l Z a0 hw (w0_4 q2 q3) h78 n0 (Nat.le_trans Z0 (Nat.le_trans (Nat.le_trans (Nat.le_trans (Nat.le_trans (Nat.le_trans (Nat.le_trans (Nat.le_trans (Nat.le_trans (Nat.le_trans (Nat.le_trans (Nat.le_trans (Nat.le_trans (Nat.le_trans (Nat.le_trans (Nat.le_trans (Nat.le_trans (Nat.le_trans (Nat.le_trans (Nat.le_refl _) E4.1) (Keep.of_wr W6).1) (Keep.of_wr W8).1) (Keep.of_wr W10).1) (Keep.of_wr W12).1) (Keep.of_wr W14).1) (Keep.of_wr W16).1) E68.1) (Keep.of_wr W69).1) (Keep.of_wr W70).1) (Keep.of_wr W71).1) E72.1) (Keep.of_wr W73).1) (Keep.of_wr W74).1) (Keep.of_wr W75).1) (Keep.of_wr W76).1) (Keep.of_wr W77).1) (Keep.of_wr W78).1))) e87 rfl rfl pd_2 rfl at_229 (by rw [hml]; rfl) rfl (by decide) (by decide) (Nat.le_of_ble_eq_true rfl) (by decide) (by decide) fun v88 T88 L88 X88 q88 => ?_
      obtain ⟨rfl, e88, rfl⟩ := q88
      replace X88 := own_px X88
      refine k_some K (w := (.long (SQ (w0_4 q2 q3)))) ?_
      refine m_ladd K X88.here hx hby ((0 : Int64) + (SQ (w0_4 q2 q3))) at_232 rfl rfl ?_
      refine m_lstore K X88.here hx hby #[.val (.int p1), .val (.long q2), .second, .val (.long q3), .second, .val (.long q4), .second, .val (.int (3 : Int32)), .val (.int (2 : Int32)), .val (.long (FLD q2 (0 : Int32))), .second, .val (.long (FLD q2 (1 : Int32))), .second, .val (.long (FLD q2 (2 : Int32))), .second, .val (.ref b4), .val (.ref b68), .val (.ref b72), .val (.double (FP.l2d (SS_3_2 (FLD q2 (0 : Int32)) (FLD q2 (1 : Int32)) (FLD q2 (2 : Int32)) (FLD q3 (2 : Int32)) (FLD q4 (0 : Int32)) (FLD q4 (1 : Int32))))), .second, .val (.long ((0 : Int64) + (SQ (w0_4 q2 q3)))), .second] at_233 rfl rfl ?_
      refine m_iload K X88.here hx hby at_235 rfl rfl ?_
      refine m_iconst K X88.here hx hby (1 : Int32) at_237 rfl rfl ?_
      refine m_icmpN K X88.here hx hby (q := 241) at_238 (tlt (by decide : (1 : Int32) < (3 : Int32))).2.2.2 rfl ?_
      refine m_lload K X88.here hx hby at_241 rfl rfl ?_
      refine m_lload K X88.here hx hby at_243 rfl rfl ?_
      refine m_aload K X88.here hx hby at_245 rfl rfl rfl ?_
      refine m_iload K X88.here hx hby at_247 rfl rfl ?_
      refine m_iconst K X88.here hx hby (1 : Int32) at_249 rfl rfl ?_
      refine m_iadd K X88.here hx hby (3 : Int32) at_250 rfl rfl ?_
      refine k_ldJ K X88 hx hby hZ e88 (((((((((((V16.ext E68).other W69 (Nat.ne_of_lt (Nat.lt_of_lt_of_le (Nat.lt_of_lt_of_le V_b4.lt (Nat.le_trans (Nat.le_trans (Nat.le_trans (Nat.le_trans (Nat.le_trans (Nat.le_trans (Nat.le_refl _) (Keep.of_wr W6).1) (Keep.of_wr W8).1) (Keep.of_wr W10).1) (Keep.of_wr W12).1) (Keep.of_wr W14).1) (Keep.of_wr W16).1)) (Nat.le_of_eq g68.symm)))).other W70 (Nat.ne_of_lt (Nat.lt_of_lt_of_le (Nat.lt_of_lt_of_le V_b4.lt (Nat.le_trans (Nat.le_trans (Nat.le_trans (Nat.le_trans (Nat.le_trans (Nat.le_trans (Nat.le_refl _) (Keep.of_wr W6).1) (Keep.of_wr W8).1) (Keep.of_wr W10).1) (Keep.of_wr W12).1) (Keep.of_wr W14).1) (Keep.of_wr W16).1)) (Nat.le_of_eq g68.symm)))).other W71 (Nat.ne_of_lt (Nat.lt_of_lt_of_le (Nat.lt_of_lt_of_le V_b4.lt (Nat.le_trans (Nat.le_trans (Nat.le_trans (Nat.le_trans (Nat.le_trans (Nat.le_trans (Nat.le_refl _) (Keep.of_wr W6).1) (Keep.of_wr W8).1) (Keep.of_wr W10).1) (Keep.of_wr W12).1) (Keep.of_wr W14).1) (Keep.of_wr W16).1)) (Nat.le_of_eq g68.symm)))).ext E72).other W73 (Nat.ne_of_lt (Nat.lt_of_lt_of_le (Nat.lt_of_lt_of_le V_b4.lt (Nat.le_trans (Nat.le_trans (Nat.le_trans (Nat.le_trans (Nat.le_trans (Nat.le_trans (Nat.le_trans (Nat.le_trans (Nat.le_trans (Nat.le_trans (Nat.le_refl _) (Keep.of_wr W6).1) (Keep.of_wr W8).1) (Keep.of_wr W10).1) (Keep.of_wr W12).1) (Keep.of_wr W14).1) (Keep.of_wr W16).1) E68.1) (Keep.of_wr W69).1) (Keep.of_wr W70).1) (Keep.of_wr W71).1)) (Nat.le_of_eq g72.symm)))).other W74 (Nat.ne_of_lt (Nat.lt_of_lt_of_le (Nat.lt_of_lt_of_le V_b4.lt (Nat.le_trans (Nat.le_trans (Nat.le_trans (Nat.le_trans (Nat.le_trans (Nat.le_trans (Nat.le_trans (Nat.le_trans (Nat.le_trans (Nat.le_trans (Nat.le_refl _) (Keep.of_wr W6).1) (Keep.of_wr W8).1) (Keep.of_wr W10).1) (Keep.of_wr W12).1) (Keep.of_wr W14).1) (Keep.of_wr W16).1) E68.1) (Keep.of_wr W69).1) (Keep.of_wr W70).1) (Keep.of_wr W71).1)) (Nat.le_of_eq g72.symm)))).other W75 (Nat.ne_of_lt (Nat.lt_of_lt_of_le (Nat.lt_of_lt_of_le V_b4.lt (Nat.le_trans (Nat.le_trans (Nat.le_trans (Nat.le_trans (Nat.le_trans (Nat.le_trans (Nat.le_trans (Nat.le_trans (Nat.le_trans (Nat.le_trans (Nat.le_refl _) (Keep.of_wr W6).1) (Keep.of_wr W8).1) (Keep.of_wr W10).1) (Keep.of_wr W12).1) (Keep.of_wr W14).1) (Keep.of_wr W16).1) E68.1) (Keep.of_wr W69).1) (Keep.of_wr W70).1) (Keep.of_wr W71).1)) (Nat.le_of_eq g72.symm)))).other W76 (Nat.ne_of_lt (Nat.lt_of_lt_of_le (Nat.lt_of_lt_of_le V_b4.lt (Nat.le_trans (Nat.le_trans (Nat.le_trans (Nat.le_trans (Nat.le_trans (Nat.le_trans (Nat.le_trans (Nat.le_trans (Nat.le_trans (Nat.le_trans (Nat.le_refl _) (Keep.of_wr W6).1) (Keep.of_wr W8).1) (Keep.of_wr W10).1) (Keep.of_wr W12).1) (Keep.of_wr W14).1) (Keep.of_wr W16).1) E68.1) (Keep.of_wr W69).1) (Keep.of_wr W70).1) (Keep.of_wr W71).1)) (Nat.le_of_eq g72.symm)))).other W77 (Nat.ne_of_lt (Nat.lt_of_lt_of_le (Nat.lt_of_lt_of_le V_b4.lt (Nat.le_trans (Nat.le_trans (Nat.le_trans (Nat.le_trans (Nat.le_trans (Nat.le_trans (Nat.le_trans (Nat.le_trans (Nat.le_trans (Nat.le_trans (Nat.le_refl _) (Keep.of_wr W6).1) (Keep.of_wr W8).1) (Keep.of_wr W10).1) (Keep.of_wr W12).1) (Keep.of_wr W14).1) (Keep.of_wr W16).1) E68.1) (Keep.of_wr W69).1) (Keep.of_wr W70).1) (Keep.of_wr W71).1)) (Nat.le_of_eq g72.symm)))).other W78 (Nat.ne_of_lt (Nat.lt_of_lt_of_le (Nat.lt_of_lt_of_le V_b4.lt (Nat.le_trans (Nat.le_trans (Nat.le_trans (Nat.le_trans (Nat.le_trans (Nat.le_trans (Nat.le_trans (Nat.le_trans (Nat.le_trans (Nat.le_trans (Nat.le_refl _) (Keep.of_wr W6).1) (Keep.of_wr W8).1) (Keep.of_wr W10).1) (Keep.of_wr W12).1) (Keep.of_wr W14).1) (Keep.of_wr W16).1) E68.1) (Keep.of_wr W69).1) (Keep.of_wr W70).1) (Keep.of_wr W71).1)) (Nat.le_of_eq g72.symm)))) (v := (.long (FLD q4 (0 : Int32)))) (by decide) rfl at_251 rfl ?_
      refine m_lsub K X88.here hx hby (w0_10 q2 q4) at_252 rfl rfl ?_
      refine k_callS K X88 hx hby hZ [(.long (w0_10 q2 q4))] [(.long ((0 : Int64) + (SQ (w0_4 q2 q3))))] hown (hw _ (List.mem_of_getElem? (i := 12) rfl)) (hw _ (List.mem_of_getElem? (i := 13) rfl)) (hw _ (List.mem_of_getElem? (i := 2) rfl)) (hw _ (List.mem_of_getElem? (i := 14) rfl)) (c3 l Z a0 hw (w0_10 q2 q4) h78 n0 (Nat.le_trans Z0 (Nat.le_trans (Nat.le_trans (Nat.le_trans (Nat.le_trans (Nat.le_trans (Nat.le_trans (Nat.le_trans (Nat.le_trans (Nat.le_trans (Nat.le_trans (Nat.le_trans (Nat.le_trans (Nat.le_trans (Nat.le_trans (Nat.le_trans (Nat.le_trans (Nat.le_trans (Nat.le_trans (Nat.le_refl _) E4.1) (Keep.of_wr W6).1) (Keep.of_wr W8).1) (Keep.of_wr W10).1) (Keep.of_wr W12).1) (Keep.of_wr W14).1) (Keep.of_wr W16).1) E68.1) (Keep.of_wr W69).1) (Keep.of_wr W70).1) (Keep.of_wr W71).1) E72.1) (Keep.of_wr W73).1) (Keep.of_wr W74).1) (Keep.of_wr W75).1) (Keep.of_wr W76).1) (Keep.of_wr W77).1) (Keep.of_wr W78).1))) e88 rfl rfl pd_2 rfl at_253 (by rw [hml]; rfl) rfl (by decide) (by decide) (Nat.le_of_ble_eq_true rfl) (by decide) (by decide) fun v89 T89 L89 X89 q89 => ?_
      obtain ⟨rfl, e89, rfl⟩ := q89
      replace X89 := own_px X89
      refine k_some K (w := (.long (SQ (w0_10 q2 q4)))) ?_
      refine m_ladd K X89.here hx hby (w0_11 q2 q3 q4) at_256 rfl rfl ?_
      refine m_lstore K X89.here hx hby #[.val (.int p1), .val (.long q2), .second, .val (.long q3), .second, .val (.long q4), .second, .val (.int (3 : Int32)), .val (.int (2 : Int32)), .val (.long (FLD q2 (0 : Int32))), .second, .val (.long (FLD q2 (1 : Int32))), .second, .val (.long (FLD q2 (2 : Int32))), .second, .val (.ref b4), .val (.ref b68), .val (.ref b72), .val (.double (FP.l2d (SS_3_2 (FLD q2 (0 : Int32)) (FLD q2 (1 : Int32)) (FLD q2 (2 : Int32)) (FLD q3 (2 : Int32)) (FLD q4 (0 : Int32)) (FLD q4 (1 : Int32))))), .second, .val (.long (w0_11 q2 q3 q4)), .second] at_257 rfl rfl ?_
      refine m_iload K X89.here hx hby at_259 rfl rfl ?_
      refine m_iconst K X89.here hx hby (2 : Int32) at_261 rfl rfl ?_
      refine m_icmpN K X89.here hx hby (q := 265) at_262 (tlt (by decide : (2 : Int32) < (3 : Int32))).2.2.2 rfl ?_
      refine m_lload K X89.here hx hby at_265 rfl rfl ?_
      refine m_lload K X89.here hx hby at_267 rfl rfl ?_
      refine m_aload K X89.here hx hby at_269 rfl rfl rfl ?_
      refine m_iload K X89.here hx hby at_271 rfl rfl ?_
      refine m_iconst K X89.here hx hby (2 : Int32) at_273 rfl rfl ?_
      refine m_iadd K X89.here hx hby (4 : Int32) at_274 rfl rfl ?_
      refine k_ldJ K X89 hx hby hZ e89 (((((((((((V16.ext E68).other W69 (Nat.ne_of_lt (Nat.lt_of_lt_of_le (Nat.lt_of_lt_of_le V_b4.lt (Nat.le_trans (Nat.le_trans (Nat.le_trans (Nat.le_trans (Nat.le_trans (Nat.le_trans (Nat.le_refl _) (Keep.of_wr W6).1) (Keep.of_wr W8).1) (Keep.of_wr W10).1) (Keep.of_wr W12).1) (Keep.of_wr W14).1) (Keep.of_wr W16).1)) (Nat.le_of_eq g68.symm)))).other W70 (Nat.ne_of_lt (Nat.lt_of_lt_of_le (Nat.lt_of_lt_of_le V_b4.lt (Nat.le_trans (Nat.le_trans (Nat.le_trans (Nat.le_trans (Nat.le_trans (Nat.le_trans (Nat.le_refl _) (Keep.of_wr W6).1) (Keep.of_wr W8).1) (Keep.of_wr W10).1) (Keep.of_wr W12).1) (Keep.of_wr W14).1) (Keep.of_wr W16).1)) (Nat.le_of_eq g68.symm)))).other W71 (Nat.ne_of_lt (Nat.lt_of_lt_of_le (Nat.lt_of_lt_of_le V_b4.lt (Nat.le_trans (Nat.le_trans (Nat.le_trans (Nat.le_trans (Nat.le_trans (Nat.le_trans (Nat.le_refl _) (Keep.of_wr W6).1) (Keep.of_wr W8).1) (Keep.of_wr W10).1) (Keep.of_wr W12).1) (Keep.of_wr W14).1) (Keep.of_wr W16).1)) (Nat.le_of_eq g68.symm)))).ext E72).other W73 (Nat.ne_of_lt (Nat.lt_of_lt_of_le (Nat.lt_of_lt_of_le V_b4.lt (Nat.le_trans (Nat.le_trans (Nat.le_trans (Nat.le_trans (Nat.le_trans (Nat.le_trans (Nat.le_trans (Nat.le_trans (Nat.le_trans (Nat.le_trans (Nat.le_refl _) (Keep.of_wr W6).1) (Keep.of_wr W8).1) (Keep.of_wr W10).1) (Keep.of_wr W12).1) (Keep.of_wr W14).1) (Keep.of_wr W16).1) E68.1) (Keep.of_wr W69).1) (Keep.of_wr W70).1) (Keep.of_wr W71).1)) (Nat.le_of_eq g72.symm)))).other W74 (Nat.ne_of_lt (Nat.lt_of_lt_of_le (Nat.lt_of_lt_of_le V_b4.lt (Nat.le_trans (Nat.le_trans (Nat.le_trans (Nat.le_trans (Nat.le_trans (Nat.le_trans (Nat.le_trans (Nat.le_trans (Nat.le_trans (Nat.le_trans (Nat.le_refl _) (Keep.of_wr W6).1) (Keep.of_wr W8).1) (Keep.of_wr W10).1) (Keep.of_wr W12).1) (Keep.of_wr W14).1) (Keep.of_wr W16).1) E68.1) (Keep.of_wr W69).1) (Keep.of_wr W70).1) (Keep.of_wr W71).1)) (Nat.le_of_eq g72.symm)))).other W75 (Nat.ne_of_lt (Nat.lt_of_lt_of_le (Nat.lt_of_lt_of_le V_b4.lt (Nat.le_trans (Nat.le_trans (Nat.le_trans (Nat.le_trans (Nat.le_trans (Nat.le_trans (Nat.le_trans (Nat.le_trans (Nat.le_trans (Nat.le_trans (Nat.le_refl _) (Keep.of_wr W6).1) (Keep.of_wr W8).1) (Keep.of_wr W10).1) (Keep.of_wr W12).1) (Keep.of_wr W14).1) (Keep.of_wr W16).1) E68.1) (Keep.of_wr W69).1) (Keep.of_wr W70).1) (Keep.of_wr W71).1)) (Nat.le_of_eq g72.symm)))).other W76 (Nat.ne_of_lt (Nat.lt_of_lt_of_le (Nat.lt_of_lt_of_le V_b4.lt (Nat.le_trans (Nat.le_trans (Nat.le_trans (Nat.le_trans (Nat.le_trans (Nat.le_trans (Nat.le_trans (Nat.le_trans (Nat.le_trans (Nat.le_trans (Nat.le_refl _) (Keep.of_wr W6).1) (Keep.of_wr W8).1) (Keep.of_wr W10).1) (Keep.of_wr W12).1) (Keep.of_wr W14).1) (Keep.of_wr W16).1) E68.1) (Keep.of_wr W69).1) (Keep.of_wr W70).1) (Keep.of_wr W71).1)) (Nat.le_of_eq g72.symm)))).other W77 (Nat.ne_of_lt (Nat.lt_of_lt_of_le (Nat.lt_of_lt_of_le V_b4.lt (Nat.le_trans (Nat.le_trans (Nat.le_trans (Nat.le_trans (Nat.le_trans (Nat.le_trans (Nat.le_trans (Nat.le_trans (Nat.le_trans (Nat.le_trans (Nat.le_refl _) (Keep.of_wr W6).1) (Keep.of_wr W8).1) (Keep.of_wr W10).1) (Keep.of_wr W12).1) (Keep.of_wr W14).1) (Keep.of_wr W16).1) E68.1) (Keep.of_wr W69).1) (Keep.of_wr W70).1) (Keep.of_wr W71).1)) (Nat.le_of_eq g72.symm)))).other W78 (Nat.ne_of_lt (Nat.lt_of_lt_of_le (Nat.lt_of_lt_of_le V_b4.lt (Nat.le_trans (Nat.le_trans (Nat.le_trans (Nat.le_trans (Nat.le_trans (Nat.le_trans (Nat.le_trans (Nat.le_trans (Nat.le_trans (Nat.le_trans (Nat.le_refl _) (Keep.of_wr W6).1) (Keep.of_wr W8).1) (Keep.of_wr W10).1) (Keep.of_wr W12).1) (Keep.of_wr W14).1) (Keep.of_wr W16).1) E68.1) (Keep.of_wr W69).1) (Keep.of_wr W70).1) (Keep.of_wr W71).1)) (Nat.le_of_eq g72.symm)))) (v := (.long (FLD q4 (1 : Int32)))) (by decide) rfl at_275 rfl ?_
      refine m_lsub K X89.here hx hby (w0_16 q2 q4) at_276 rfl rfl ?_
      refine k_callS K X89 hx hby hZ [(.long (w0_16 q2 q4))] [(.long (w0_11 q2 q3 q4))] hown (hw _ (List.mem_of_getElem? (i := 12) rfl)) (hw _ (List.mem_of_getElem? (i := 13) rfl)) (hw _ (List.mem_of_getElem? (i := 2) rfl)) (hw _ (List.mem_of_getElem? (i := 14) rfl)) (c3 l Z a0 hw (w0_16 q2 q4) h78 n0 (Nat.le_trans Z0 (Nat.le_trans (Nat.le_trans (Nat.le_trans (Nat.le_trans (Nat.le_trans (Nat.le_trans (Nat.le_trans (Nat.le_trans (Nat.le_trans (Nat.le_trans (Nat.le_trans (Nat.le_trans (Nat.le_trans (Nat.le_trans (Nat.le_trans (Nat.le_trans (Nat.le_trans (Nat.le_trans (Nat.le_refl _) E4.1) (Keep.of_wr W6).1) (Keep.of_wr W8).1) (Keep.of_wr W10).1) (Keep.of_wr W12).1) (Keep.of_wr W14).1) (Keep.of_wr W16).1) E68.1) (Keep.of_wr W69).1) (Keep.of_wr W70).1) (Keep.of_wr W71).1) E72.1) (Keep.of_wr W73).1) (Keep.of_wr W74).1) (Keep.of_wr W75).1) (Keep.of_wr W76).1) (Keep.of_wr W77).1) (Keep.of_wr W78).1))) e89 rfl rfl pd_2 rfl at_277 (by rw [hml]; rfl) rfl (by decide) (by decide) (Nat.le_of_ble_eq_true rfl) (by decide) (by decide) fun v90 T90 L90 X90 q90 => ?_
      obtain ⟨rfl, e90, rfl⟩ := q90
      replace X90 := own_px X90
      refine k_some K (w := (.long (SQ (w0_16 q2 q4)))) ?_
      refine m_ladd K X90.here hx hby (w0_17 q2 q3 q4) at_280 rfl rfl ?_
      refine m_lstore K X90.here hx hby #[.val (.int p1), .val (.long q2), .second, .val (.long q3), .second, .val (.long q4), .second, .val (.int (3 : Int32)), .val (.int (2 : Int32)), .val (.long (FLD q2 (0 : Int32))), .second, .val (.long (FLD q2 (1 : Int32))), .second, .val (.long (FLD q2 (2 : Int32))), .second, .val (.ref b4), .val (.ref b68), .val (.ref b72), .val (.double (FP.l2d (SS_3_2 (FLD q2 (0 : Int32)) (FLD q2 (1 : Int32)) (FLD q2 (2 : Int32)) (FLD q3 (2 : Int32)) (FLD q4 (0 : Int32)) (FLD q4 (1 : Int32))))), .second, .val (.long (w0_17 q2 q3 q4)), .second] at_281 rfl rfl ?_
      refine m_dload K X90.here hx hby at_283 rfl rfl ?_
      refine m_lload K X90.here hx hby at_285 rfl rfl ?_
      refine m_l2d K X90.here hx hby (FP.l2d (w0_17 q2 q3 q4)) at_287 rfl rfl ?_
      refine m_dcmp K X90.here hx hby (0 : Int32) at_288 (dcmpV_eq rfl (nn_w rfl) _) rfl ?_
      refine m_ifN K X90.here hx hby (q := 292) at_289 ((if0 _ _).trans (teq (by decide : (0 : Int32) = (0 : Int32))).2) rfl ?_
      refine m_iconst K X90.here hx hby (1 : Int32) at_292 rfl rfl ?_
      refine m_goto K X90.here hx hby (q := 297) at_293 (by decide) rfl ?_
      exact Go.retN X90 hx hby hlk hret (by simp) at_297 (by decide) (by decide) (by decide) (⟨rfl, N78⟩)
    · rw [hs8]
      refine m_aload K X78.here hx hby at_200 rfl rfl rfl ?_
      refine m_aload K X78.here hx hby at_202 rfl rfl rfl ?_
      refine m_iload K X78.here hx hby at_204 rfl rfl ?_
      refine k_callS K X78 hx hby hZ [(.ref b68), (.ref b72), (.int (3 : Int32))] [] hown (hw _ (List.mem_of_getElem? (i := 8) rfl)) (hw _ (List.mem_of_getElem? (i := 9) rfl)) (hw _ (List.mem_of_getElem? (i := 10) rfl)) (hw _ (List.mem_of_getElem? (i := 11) rfl)) (c2_3_3 l Z a0 hw b68 b72 (FLD q2 (0 : Int32)) (FLD q2 (1 : Int32)) (FLD q2 (2 : Int32)) (FLD q3 (0 : Int32)) (FLD q3 (1 : Int32)) (FLD q3 (2 : Int32)) (FLD q4 (0 : Int32)) (FLD q4 (1 : Int32)) (FLD q4 (2 : Int32)) h78 n0 (Nat.le_trans Z0 (Nat.le_trans (Nat.le_trans (Nat.le_trans (Nat.le_trans (Nat.le_trans (Nat.le_trans (Nat.le_trans (Nat.le_trans (Nat.le_trans (Nat.le_trans (Nat.le_trans (Nat.le_trans (Nat.le_trans (Nat.le_trans (Nat.le_trans (Nat.le_trans (Nat.le_trans (Nat.le_trans (Nat.le_refl _) E4.1) (Keep.of_wr W6).1) (Keep.of_wr W8).1) (Keep.of_wr W10).1) (Keep.of_wr W12).1) (Keep.of_wr W14).1) (Keep.of_wr W16).1) E68.1) (Keep.of_wr W69).1) (Keep.of_wr W70).1) (Keep.of_wr W71).1) E72.1) (Keep.of_wr W73).1) (Keep.of_wr W74).1) (Keep.of_wr W75).1) (Keep.of_wr W76).1) (Keep.of_wr W77).1) (Keep.of_wr W78).1)) (((((((V71.ext E72).other W73 (Nat.ne_of_lt (Nat.lt_of_lt_of_le (Nat.lt_of_lt_of_le V_b68.lt (Nat.le_trans (Nat.le_trans (Nat.le_trans (Nat.le_refl _) (Keep.of_wr W69).1) (Keep.of_wr W70).1) (Keep.of_wr W71).1)) (Nat.le_of_eq g72.symm)))).other W74 (Nat.ne_of_lt (Nat.lt_of_lt_of_le (Nat.lt_of_lt_of_le V_b68.lt (Nat.le_trans (Nat.le_trans (Nat.le_trans (Nat.le_refl _) (Keep.of_wr W69).1) (Keep.of_wr W70).1) (Keep.of_wr W71).1)) (Nat.le_of_eq g72.symm)))).other W75 (Nat.ne_of_lt (Nat.lt_of_lt_of_le (Nat.lt_of_lt_of_le V_b68.lt (Nat.le_trans (Nat.le_trans (Nat.le_trans (Nat.le_refl _) (Keep.of_wr W69).1) (Keep.of_wr W70).1) (Keep.of_wr W71).1)) (Nat.le_of_eq g72.symm)))).other W76 (Nat.ne_of_lt (Nat.lt_of_lt_of_le (Nat.lt_of_lt_of_le V_b68.lt (Nat.le_trans (Nat.le_trans (Nat.le_trans (Nat.le_refl _) (Keep.of_wr W69).1) (Keep.of_wr W70).1) (Keep.of_wr W71).1)) (Nat.le_of_eq g72.symm)))).other W77 (Nat.ne_of_lt (Nat.lt_of_lt_of_le (Nat.lt_of_lt_of_le V_b68.lt (Nat.le_trans (Nat.le_trans (Nat.le_trans (Nat.le_refl _) (Keep.of_wr W69).1) (Keep.of_wr W70).1) (Keep.of_wr W71).1)) (Nat.le_of_eq g72.symm)))).other W78 (Nat.ne_of_lt (Nat.lt_of_lt_of_le (Nat.lt_of_lt_of_le V_b68.lt (Nat.le_trans (Nat.le_trans (Nat.le_trans (Nat.le_refl _) (Keep.of_wr W69).1) (Keep.of_wr W70).1) (Keep.of_wr W71).1)) (Nat.le_of_eq g72.symm)))) V78 (own_fld q2 (0 : Int32)) (own_fld q2 (1 : Int32)) (own_fld q2 (2 : Int32)) (own_fld q4 (0 : Int32)) (own_fld q4 (1 : Int32)) (own_fld q4 (2 : Int32))) e78 rfl rfl pd_1 rfl at_206 (by rw [hml]; rfl) rfl (by decide) (by decide) (Nat.le_of_ble_eq_true rfl) (by decide) (by decide) fun v91 T91 L91 X91 q91 => ?_
      obtain ⟨rfl, e91, rfl⟩ := q91
      replace X91 := own_px X91
      refine k_some K (w := (.double (FP.l2d (SS_3_3 (FLD q2 (0 : Int32)) (FLD q2 (1 : Int32)) (FLD q2 (2 : Int32)) (FLD q4 (0 : Int32)) (FLD q4 (1 : Int32)) (FLD q4 (2 : Int32)))))) ?_
      refine m_dstore K X91.here hx hby #[.val (.int p1), .val (.long q2), .second, .val (.long q3), .second, .val (.long q4), .second, .val (.int (3 : Int32)), .val (.int (3 : Int32)), .val (.long (FLD q2 (0 : Int32))), .second, .val (.long (FLD q2 (1 : Int32))), .second, .val (.long (FLD q2 (2 : Int32))), .second, .val (.ref b4), .val (.ref b68), .val (.ref b72), .val (.double (FP.l2d (SS_3_3 (FLD q2 (0 : Int32)) (FLD q2 (1 : Int32)) (FLD q2 (2 : Int32)) (FLD q4 (0 : Int32)) (FLD q4 (1 : Int32)) (FLD q4 (2 : Int32))))), .second, .unset, .unset] at_209 rfl rfl ?_
      refine m_lconst K X91.here hx hby (0 : Int64) at_211 rfl rfl ?_
      refine m_lstore K X91.here hx hby #[.val (.int p1), .val (.long q2), .second, .val (.long q3), .second, .val (.long q4), .second, .val (.int (3 : Int32)), .val (.int (3 : Int32)), .val (.long (FLD q2 (0 : Int32))), .second, .val (.long (FLD q2 (1 : Int32))), .second, .val (.long (FLD q2 (2 : Int32))), .second, .val (.ref b4), .val (.ref b68), .val (.ref b72), .val (.double (FP.l2d (SS_3_3 (FLD q2 (0 : Int32)) (FLD q2 (1 : Int32)) (FLD q2 (2 : Int32)) (FLD q4 (0 : Int32)) (FLD q4 (1 : Int32)) (FLD q4 (2 : Int32))))), .second, .val (.long (0 : Int64)), .second] at_212 rfl rfl ?_
      refine m_iload K X91.here hx hby at_214 rfl rfl ?_
      refine m_ifN K X91.here hx hby (q := 219) at_216 ((if0 _ _).trans (tlt (by decide : (0 : Int32) < (3 : Int32))).2.2.2) rfl ?_
      refine m_lload K X91.here hx hby at_219 rfl rfl ?_
      refine m_lload K X91.here hx hby at_221 rfl rfl ?_
      refine m_aload K X91.here hx hby at_223 rfl rfl rfl ?_
      refine m_iload K X91.here hx hby at_225 rfl rfl ?_
      refine k_ldJ K X91 hx hby hZ e91 (((((((((((V16.ext E68).other W69 (Nat.ne_of_lt (Nat.lt_of_lt_of_le (Nat.lt_of_lt_of_le V_b4.lt (Nat.le_trans (Nat.le_trans (Nat.le_trans (Nat.le_trans (Nat.le_trans (Nat.le_trans (Nat.le_refl _) (Keep.of_wr W6).1) (Keep.of_wr W8).1) (Keep.of_wr W10).1) (Keep.of_wr W12).1) (Keep.of_wr W14).1) (Keep.of_wr W16).1)) (Nat.le_of_eq g68.symm)))).other W70 (Nat.ne_of_lt (Nat.lt_of_lt_of_le (Nat.lt_of_lt_of_le V_b4.lt (Nat.le_trans (Nat.le_trans (Nat.le_trans (Nat.le_trans (Nat.le_trans (Nat.le_trans (Nat.le_refl _) (Keep.of_wr W6).1) (Keep.of_wr W8).1) (Keep.of_wr W10).1) (Keep.of_wr W12).1) (Keep.of_wr W14).1) (Keep.of_wr W16).1)) (Nat.le_of_eq g68.symm)))).other W71 (Nat.ne_of_lt (Nat.lt_of_lt_of_le (Nat.lt_of_lt_of_le V_b4.lt (Nat.le_trans (Nat.le_trans (Nat.le_trans (Nat.le_trans (Nat.le_trans (Nat.le_trans (Nat.le_refl _) (Keep.of_wr W6).1) (Keep.of_wr W8).1) (Keep.of_wr W10).1) (Keep.of_wr W12).1) (Keep.of_wr W14).1) (Keep.of_wr W16).1)) (Nat.le_of_eq g68.symm)))).ext E72).other W73 (Nat.ne_of_lt (Nat.lt_of_lt_of_le (Nat.lt_of_lt_of_le V_b4.lt (Nat.le_trans (Nat.le_trans (Nat.le_trans (Nat.le_trans (Nat.le_trans (Nat.le_trans (Nat.le_trans (Nat.le_trans (Nat.le_trans (Nat.le_trans (Nat.le_refl _) (Keep.of_wr W6).1) (Keep.of_wr W8).1) (Keep.of_wr W10).1) (Keep.of_wr W12).1) (Keep.of_wr W14).1) (Keep.of_wr W16).1) E68.1) (Keep.of_wr W69).1) (Keep.of_wr W70).1) (Keep.of_wr W71).1)) (Nat.le_of_eq g72.symm)))).other W74 (Nat.ne_of_lt (Nat.lt_of_lt_of_le (Nat.lt_of_lt_of_le V_b4.lt (Nat.le_trans (Nat.le_trans (Nat.le_trans (Nat.le_trans (Nat.le_trans (Nat.le_trans (Nat.le_trans (Nat.le_trans (Nat.le_trans (Nat.le_trans (Nat.le_refl _) (Keep.of_wr W6).1) (Keep.of_wr W8).1) (Keep.of_wr W10).1) (Keep.of_wr W12).1) (Keep.of_wr W14).1) (Keep.of_wr W16).1) E68.1) (Keep.of_wr W69).1) (Keep.of_wr W70).1) (Keep.of_wr W71).1)) (Nat.le_of_eq g72.symm)))).other W75 (Nat.ne_of_lt (Nat.lt_of_lt_of_le (Nat.lt_of_lt_of_le V_b4.lt (Nat.le_trans (Nat.le_trans (Nat.le_trans (Nat.le_trans (Nat.le_trans (Nat.le_trans (Nat.le_trans (Nat.le_trans (Nat.le_trans (Nat.le_trans (Nat.le_refl _) (Keep.of_wr W6).1) (Keep.of_wr W8).1) (Keep.of_wr W10).1) (Keep.of_wr W12).1) (Keep.of_wr W14).1) (Keep.of_wr W16).1) E68.1) (Keep.of_wr W69).1) (Keep.of_wr W70).1) (Keep.of_wr W71).1)) (Nat.le_of_eq g72.symm)))).other W76 (Nat.ne_of_lt (Nat.lt_of_lt_of_le (Nat.lt_of_lt_of_le V_b4.lt (Nat.le_trans (Nat.le_trans (Nat.le_trans (Nat.le_trans (Nat.le_trans (Nat.le_trans (Nat.le_trans (Nat.le_trans (Nat.le_trans (Nat.le_trans (Nat.le_refl _) (Keep.of_wr W6).1) (Keep.of_wr W8).1) (Keep.of_wr W10).1) (Keep.of_wr W12).1) (Keep.of_wr W14).1) (Keep.of_wr W16).1) E68.1) (Keep.of_wr W69).1) (Keep.of_wr W70).1) (Keep.of_wr W71).1)) (Nat.le_of_eq g72.symm)))).other W77 (Nat.ne_of_lt (Nat.lt_of_lt_of_le (Nat.lt_of_lt_of_le V_b4.lt (Nat.le_trans (Nat.le_trans (Nat.le_trans (Nat.le_trans (Nat.le_trans (Nat.le_trans (Nat.le_trans (Nat.le_trans (Nat.le_trans (Nat.le_trans (Nat.le_refl _) (Keep.of_wr W6).1) (Keep.of_wr W8).1) (Keep.of_wr W10).1) (Keep.of_wr W12).1) (Keep.of_wr W14).1) (Keep.of_wr W16).1) E68.1) (Keep.of_wr W69).1) (Keep.of_wr W70).1) (Keep.of_wr W71).1)) (Nat.le_of_eq g72.symm)))).other W78 (Nat.ne_of_lt (Nat.lt_of_lt_of_le (Nat.lt_of_lt_of_le V_b4.lt (Nat.le_trans (Nat.le_trans (Nat.le_trans (Nat.le_trans (Nat.le_trans (Nat.le_trans (Nat.le_trans (Nat.le_trans (Nat.le_trans (Nat.le_trans (Nat.le_refl _) (Keep.of_wr W6).1) (Keep.of_wr W8).1) (Keep.of_wr W10).1) (Keep.of_wr W12).1) (Keep.of_wr W14).1) (Keep.of_wr W16).1) E68.1) (Keep.of_wr W69).1) (Keep.of_wr W70).1) (Keep.of_wr W71).1)) (Nat.le_of_eq g72.symm)))) (v := (.long (FLD q4 (0 : Int32)))) (by decide) rfl at_227 rfl ?_
      refine m_lsub K X91.here hx hby (w0_5 q2 q4) at_228 rfl rfl ?_
      refine k_callS K X91 hx hby hZ [(.long (w0_5 q2 q4))] [(.long (0 : Int64))] hown (hw _ (List.mem_of_getElem? (i := 12) rfl)) (hw _ (List.mem_of_getElem? (i := 13) rfl)) (hw _ (List.mem_of_getElem? (i := 2) rfl)) (hw _ (List.mem_of_getElem? (i := 14) rfl)) (c3 l Z a0 hw (w0_5 q2 q4) h78 n0 (Nat.le_trans Z0 (Nat.le_trans (Nat.le_trans (Nat.le_trans (Nat.le_trans (Nat.le_trans (Nat.le_trans (Nat.le_trans (Nat.le_trans (Nat.le_trans (Nat.le_trans (Nat.le_trans (Nat.le_trans (Nat.le_trans (Nat.le_trans (Nat.le_trans (Nat.le_trans (Nat.le_trans (Nat.le_trans (Nat.le_refl _) E4.1) (Keep.of_wr W6).1) (Keep.of_wr W8).1) (Keep.of_wr W10).1) (Keep.of_wr W12).1) (Keep.of_wr W14).1) (Keep.of_wr W16).1) E68.1) (Keep.of_wr W69).1) (Keep.of_wr W70).1) (Keep.of_wr W71).1) E72.1) (Keep.of_wr W73).1) (Keep.of_wr W74).1) (Keep.of_wr W75).1) (Keep.of_wr W76).1) (Keep.of_wr W77).1) (Keep.of_wr W78).1))) e91 rfl rfl pd_2 rfl at_229 (by rw [hml]; rfl) rfl (by decide) (by decide) (Nat.le_of_ble_eq_true rfl) (by decide) (by decide) fun v92 T92 L92 X92 q92 => ?_
      obtain ⟨rfl, e92, rfl⟩ := q92
      replace X92 := own_px X92
      refine k_some K (w := (.long (SQ (w0_5 q2 q4)))) ?_
      refine m_ladd K X92.here hx hby ((0 : Int64) + (SQ (w0_5 q2 q4))) at_232 rfl rfl ?_
      refine m_lstore K X92.here hx hby #[.val (.int p1), .val (.long q2), .second, .val (.long q3), .second, .val (.long q4), .second, .val (.int (3 : Int32)), .val (.int (3 : Int32)), .val (.long (FLD q2 (0 : Int32))), .second, .val (.long (FLD q2 (1 : Int32))), .second, .val (.long (FLD q2 (2 : Int32))), .second, .val (.ref b4), .val (.ref b68), .val (.ref b72), .val (.double (FP.l2d (SS_3_3 (FLD q2 (0 : Int32)) (FLD q2 (1 : Int32)) (FLD q2 (2 : Int32)) (FLD q4 (0 : Int32)) (FLD q4 (1 : Int32)) (FLD q4 (2 : Int32))))), .second, .val (.long ((0 : Int64) + (SQ (w0_5 q2 q4)))), .second] at_233 rfl rfl ?_
      refine m_iload K X92.here hx hby at_235 rfl rfl ?_
      refine m_iconst K X92.here hx hby (1 : Int32) at_237 rfl rfl ?_
      refine m_icmpN K X92.here hx hby (q := 241) at_238 (tlt (by decide : (1 : Int32) < (3 : Int32))).2.2.2 rfl ?_
      refine m_lload K X92.here hx hby at_241 rfl rfl ?_
      refine m_lload K X92.here hx hby at_243 rfl rfl ?_
      refine m_aload K X92.here hx hby at_245 rfl rfl rfl ?_
      refine m_iload K X92.here hx hby at_247 rfl rfl ?_
      refine m_iconst K X92.here hx hby (1 : Int32) at_249 rfl rfl ?_
      refine m_iadd K X92.here hx hby (4 : Int32) at_250 rfl rfl ?_
      refine k_ldJ K X92 hx hby hZ e92 (((((((((((V16.ext E68).other W69 (Nat.ne_of_lt (Nat.lt_of_lt_of_le (Nat.lt_of_lt_of_le V_b4.lt (Nat.le_trans (Nat.le_trans (Nat.le_trans (Nat.le_trans (Nat.le_trans (Nat.le_trans (Nat.le_refl _) (Keep.of_wr W6).1) (Keep.of_wr W8).1) (Keep.of_wr W10).1) (Keep.of_wr W12).1) (Keep.of_wr W14).1) (Keep.of_wr W16).1)) (Nat.le_of_eq g68.symm)))).other W70 (Nat.ne_of_lt (Nat.lt_of_lt_of_le (Nat.lt_of_lt_of_le V_b4.lt (Nat.le_trans (Nat.le_trans (Nat.le_trans (Nat.le_trans (Nat.le_trans (Nat.le_trans (Nat.le_refl _) (Keep.of_wr W6).1) (Keep.of_wr W8).1) (Keep.of_wr W10).1) (Keep.of_wr W12).1) (Keep.of_wr W14).1) (Keep.of_wr W16).1)) (Nat.le_of_eq g68.symm)))).other W71 (Nat.ne_of_lt (Nat.lt_of_lt_of_le (Nat.lt_of_lt_of_le V_b4.lt (Nat.le_trans (Nat.le_trans (Nat.le_trans (Nat.le_trans (Nat.le_trans (Nat.le_trans (Nat.le_refl _) (Keep.of_wr W6).1) (Keep.of_wr W8).1) (Keep.of_wr W10).1) (Keep.of_wr W12).1) (Keep.of_wr W14).1) (Keep.of_wr W16).1)) (Nat.le_of_eq g68.symm)))).ext E72).other W73 (Nat.ne_of_lt (Nat.lt_of_lt_of_le (Nat.lt_of_lt_of_le V_b4.lt (Nat.le_trans (Nat.le_trans (Nat.le_trans (Nat.le_trans (Nat.le_trans (Nat.le_trans (Nat.le_trans (Nat.le_trans (Nat.le_trans (Nat.le_trans (Nat.le_refl _) (Keep.of_wr W6).1) (Keep.of_wr W8).1) (Keep.of_wr W10).1) (Keep.of_wr W12).1) (Keep.of_wr W14).1) (Keep.of_wr W16).1) E68.1) (Keep.of_wr W69).1) (Keep.of_wr W70).1) (Keep.of_wr W71).1)) (Nat.le_of_eq g72.symm)))).other W74 (Nat.ne_of_lt (Nat.lt_of_lt_of_le (Nat.lt_of_lt_of_le V_b4.lt (Nat.le_trans (Nat.le_trans (Nat.le_trans (Nat.le_trans (Nat.le_trans (Nat.le_trans (Nat.le_trans (Nat.le_trans (Nat.le_trans (Nat.le_trans (Nat.le_refl _) (Keep.of_wr W6).1) (Keep.of_wr W8).1) (Keep.of_wr W10).1) (Keep.of_wr W12).1) (Keep.of_wr W14).1) (Keep.of_wr W16).1) E68.1) (Keep.of_wr W69).1) (Keep.of_wr W70).1) (Keep.of_wr W71).1)) (Nat.le_of_eq g72.symm)))).other W75 (Nat.ne_of_lt (Nat.lt_of_lt_of_le (Nat.lt_of_lt_of_le V_b4.lt (Nat.le_trans (Nat.le_trans (Nat.le_trans (Nat.le_trans (Nat.le_trans (Nat.le_trans (Nat.le_trans (Nat.le_trans (Nat.le_trans (Nat.le_trans (Nat.le_refl _) (Keep.of_wr W6).1) (Keep.of_wr W8).1) (Keep.of_wr W10).1) (Keep.of_wr W12).1) (Keep.of_wr W14).1) (Keep.of_wr W16).1) E68.1) (Keep.of_wr W69).1) (Keep.of_wr W70).1) (Keep.of_wr W71).1)) (Nat.le_of_eq g72.symm)))).other W76 (Nat.ne_of_lt (Nat.lt_of_lt_of_le (Nat.lt_of_lt_of_le V_b4.lt (Nat.le_trans (Nat.le_trans (Nat.le_trans (Nat.le_trans (Nat.le_trans (Nat.le_trans (Nat.le_trans (Nat.le_trans (Nat.le_trans (Nat.le_trans (Nat.le_refl _) (Keep.of_wr W6).1) (Keep.of_wr W8).1) (Keep.of_wr W10).1) (Keep.of_wr W12).1) (Keep.of_wr W14).1) (Keep.of_wr W16).1) E68.1) (Keep.of_wr W69).1) (Keep.of_wr W70).1) (Keep.of_wr W71).1)) (Nat.le_of_eq g72.symm)))).other W77 (Nat.ne_of_lt (Nat.lt_of_lt_of_le (Nat.lt_of_lt_of_le V_b4.lt (Nat.le_trans (Nat.le_trans (Nat.le_trans (Nat.le_trans (Nat.le_trans (Nat.le_trans (Nat.le_trans (Nat.le_trans (Nat.le_trans (Nat.le_trans (Nat.le_refl _) (Keep.of_wr W6).1) (Keep.of_wr W8).1) (Keep.of_wr W10).1) (Keep.of_wr W12).1) (Keep.of_wr W14).1) (Keep.of_wr W16).1) E68.1) (Keep.of_wr W69).1) (Keep.of_wr W70).1) (Keep.of_wr W71).1)) (Nat.le_of_eq g72.symm)))).other W78 (Nat.ne_of_lt (Nat.lt_of_lt_of_le (Nat.lt_of_lt_of_le V_b4.lt (Nat.le_trans (Nat.le_trans (Nat.le_trans (Nat.le_trans (Nat.le_trans (Nat.le_trans (Nat.le_trans (Nat.le_trans (Nat.le_trans (Nat.le_trans (Nat.le_refl _) (Keep.of_wr W6).1) (Keep.of_wr W8).1) (Keep.of_wr W10).1) (Keep.of_wr W12).1) (Keep.of_wr W14).1) (Keep.of_wr W16).1) E68.1) (Keep.of_wr W69).1) (Keep.of_wr W70).1) (Keep.of_wr W71).1)) (Nat.le_of_eq g72.symm)))) (v := (.long (FLD q4 (1 : Int32)))) (by decide) rfl at_251 rfl ?_
      refine m_lsub K X92.here hx hby (w0_12 q2 q4) at_252 rfl rfl ?_
      refine k_callS K X92 hx hby hZ [(.long (w0_12 q2 q4))] [(.long ((0 : Int64) + (SQ (w0_5 q2 q4))))] hown (hw _ (List.mem_of_getElem? (i := 12) rfl)) (hw _ (List.mem_of_getElem? (i := 13) rfl)) (hw _ (List.mem_of_getElem? (i := 2) rfl)) (hw _ (List.mem_of_getElem? (i := 14) rfl)) (c3 l Z a0 hw (w0_12 q2 q4) h78 n0 (Nat.le_trans Z0 (Nat.le_trans (Nat.le_trans (Nat.le_trans (Nat.le_trans (Nat.le_trans (Nat.le_trans (Nat.le_trans (Nat.le_trans (Nat.le_trans (Nat.le_trans (Nat.le_trans (Nat.le_trans (Nat.le_trans (Nat.le_trans (Nat.le_trans (Nat.le_trans (Nat.le_trans (Nat.le_trans (Nat.le_refl _) E4.1) (Keep.of_wr W6).1) (Keep.of_wr W8).1) (Keep.of_wr W10).1) (Keep.of_wr W12).1) (Keep.of_wr W14).1) (Keep.of_wr W16).1) E68.1) (Keep.of_wr W69).1) (Keep.of_wr W70).1) (Keep.of_wr W71).1) E72.1) (Keep.of_wr W73).1) (Keep.of_wr W74).1) (Keep.of_wr W75).1) (Keep.of_wr W76).1) (Keep.of_wr W77).1) (Keep.of_wr W78).1))) e92 rfl rfl pd_2 rfl at_253 (by rw [hml]; rfl) rfl (by decide) (by decide) (Nat.le_of_ble_eq_true rfl) (by decide) (by decide) fun v93 T93 L93 X93 q93 => ?_
      obtain ⟨rfl, e93, rfl⟩ := q93
      replace X93 := own_px X93
      refine k_some K (w := (.long (SQ (w0_12 q2 q4)))) ?_
      refine m_ladd K X93.here hx hby (w0_13 q2 q4) at_256 rfl rfl ?_
      refine m_lstore K X93.here hx hby #[.val (.int p1), .val (.long q2), .second, .val (.long q3), .second, .val (.long q4), .second, .val (.int (3 : Int32)), .val (.int (3 : Int32)), .val (.long (FLD q2 (0 : Int32))), .second, .val (.long (FLD q2 (1 : Int32))), .second, .val (.long (FLD q2 (2 : Int32))), .second, .val (.ref b4), .val (.ref b68), .val (.ref b72), .val (.double (FP.l2d (SS_3_3 (FLD q2 (0 : Int32)) (FLD q2 (1 : Int32)) (FLD q2 (2 : Int32)) (FLD q4 (0 : Int32)) (FLD q4 (1 : Int32)) (FLD q4 (2 : Int32))))), .second, .val (.long (w0_13 q2 q4)), .second] at_257 rfl rfl ?_
      refine m_iload K X93.here hx hby at_259 rfl rfl ?_
      refine m_iconst K X93.here hx hby (2 : Int32) at_261 rfl rfl ?_
      refine m_icmpN K X93.here hx hby (q := 265) at_262 (tlt (by decide : (2 : Int32) < (3 : Int32))).2.2.2 rfl ?_
      refine m_lload K X93.here hx hby at_265 rfl rfl ?_
      refine m_lload K X93.here hx hby at_267 rfl rfl ?_
      refine m_aload K X93.here hx hby at_269 rfl rfl rfl ?_
      refine m_iload K X93.here hx hby at_271 rfl rfl ?_
      refine m_iconst K X93.here hx hby (2 : Int32) at_273 rfl rfl ?_
      refine m_iadd K X93.here hx hby (5 : Int32) at_274 rfl rfl ?_
      refine k_ldJ K X93 hx hby hZ e93 (((((((((((V16.ext E68).other W69 (Nat.ne_of_lt (Nat.lt_of_lt_of_le (Nat.lt_of_lt_of_le V_b4.lt (Nat.le_trans (Nat.le_trans (Nat.le_trans (Nat.le_trans (Nat.le_trans (Nat.le_trans (Nat.le_refl _) (Keep.of_wr W6).1) (Keep.of_wr W8).1) (Keep.of_wr W10).1) (Keep.of_wr W12).1) (Keep.of_wr W14).1) (Keep.of_wr W16).1)) (Nat.le_of_eq g68.symm)))).other W70 (Nat.ne_of_lt (Nat.lt_of_lt_of_le (Nat.lt_of_lt_of_le V_b4.lt (Nat.le_trans (Nat.le_trans (Nat.le_trans (Nat.le_trans (Nat.le_trans (Nat.le_trans (Nat.le_refl _) (Keep.of_wr W6).1) (Keep.of_wr W8).1) (Keep.of_wr W10).1) (Keep.of_wr W12).1) (Keep.of_wr W14).1) (Keep.of_wr W16).1)) (Nat.le_of_eq g68.symm)))).other W71 (Nat.ne_of_lt (Nat.lt_of_lt_of_le (Nat.lt_of_lt_of_le V_b4.lt (Nat.le_trans (Nat.le_trans (Nat.le_trans (Nat.le_trans (Nat.le_trans (Nat.le_trans (Nat.le_refl _) (Keep.of_wr W6).1) (Keep.of_wr W8).1) (Keep.of_wr W10).1) (Keep.of_wr W12).1) (Keep.of_wr W14).1) (Keep.of_wr W16).1)) (Nat.le_of_eq g68.symm)))).ext E72).other W73 (Nat.ne_of_lt (Nat.lt_of_lt_of_le (Nat.lt_of_lt_of_le V_b4.lt (Nat.le_trans (Nat.le_trans (Nat.le_trans (Nat.le_trans (Nat.le_trans (Nat.le_trans (Nat.le_trans (Nat.le_trans (Nat.le_trans (Nat.le_trans (Nat.le_refl _) (Keep.of_wr W6).1) (Keep.of_wr W8).1) (Keep.of_wr W10).1) (Keep.of_wr W12).1) (Keep.of_wr W14).1) (Keep.of_wr W16).1) E68.1) (Keep.of_wr W69).1) (Keep.of_wr W70).1) (Keep.of_wr W71).1)) (Nat.le_of_eq g72.symm)))).other W74 (Nat.ne_of_lt (Nat.lt_of_lt_of_le (Nat.lt_of_lt_of_le V_b4.lt (Nat.le_trans (Nat.le_trans (Nat.le_trans (Nat.le_trans (Nat.le_trans (Nat.le_trans (Nat.le_trans (Nat.le_trans (Nat.le_trans (Nat.le_trans (Nat.le_refl _) (Keep.of_wr W6).1) (Keep.of_wr W8).1) (Keep.of_wr W10).1) (Keep.of_wr W12).1) (Keep.of_wr W14).1) (Keep.of_wr W16).1) E68.1) (Keep.of_wr W69).1) (Keep.of_wr W70).1) (Keep.of_wr W71).1)) (Nat.le_of_eq g72.symm)))).other W75 (Nat.ne_of_lt (Nat.lt_of_lt_of_le (Nat.lt_of_lt_of_le V_b4.lt (Nat.le_trans (Nat.le_trans (Nat.le_trans (Nat.le_trans (Nat.le_trans (Nat.le_trans (Nat.le_trans (Nat.le_trans (Nat.le_trans (Nat.le_trans (Nat.le_refl _) (Keep.of_wr W6).1) (Keep.of_wr W8).1) (Keep.of_wr W10).1) (Keep.of_wr W12).1) (Keep.of_wr W14).1) (Keep.of_wr W16).1) E68.1) (Keep.of_wr W69).1) (Keep.of_wr W70).1) (Keep.of_wr W71).1)) (Nat.le_of_eq g72.symm)))).other W76 (Nat.ne_of_lt (Nat.lt_of_lt_of_le (Nat.lt_of_lt_of_le V_b4.lt (Nat.le_trans (Nat.le_trans (Nat.le_trans (Nat.le_trans (Nat.le_trans (Nat.le_trans (Nat.le_trans (Nat.le_trans (Nat.le_trans (Nat.le_trans (Nat.le_refl _) (Keep.of_wr W6).1) (Keep.of_wr W8).1) (Keep.of_wr W10).1) (Keep.of_wr W12).1) (Keep.of_wr W14).1) (Keep.of_wr W16).1) E68.1) (Keep.of_wr W69).1) (Keep.of_wr W70).1) (Keep.of_wr W71).1)) (Nat.le_of_eq g72.symm)))).other W77 (Nat.ne_of_lt (Nat.lt_of_lt_of_le (Nat.lt_of_lt_of_le V_b4.lt (Nat.le_trans (Nat.le_trans (Nat.le_trans (Nat.le_trans (Nat.le_trans (Nat.le_trans (Nat.le_trans (Nat.le_trans (Nat.le_trans (Nat.le_trans (Nat.le_refl _) (Keep.of_wr W6).1) (Keep.of_wr W8).1) (Keep.of_wr W10).1) (Keep.of_wr W12).1) (Keep.of_wr W14).1) (Keep.of_wr W16).1) E68.1) (Keep.of_wr W69).1) (Keep.of_wr W70).1) (Keep.of_wr W71).1)) (Nat.le_of_eq g72.symm)))).other W78 (Nat.ne_of_lt (Nat.lt_of_lt_of_le (Nat.lt_of_lt_of_le V_b4.lt (Nat.le_trans (Nat.le_trans (Nat.le_trans (Nat.le_trans (Nat.le_trans (Nat.le_trans (Nat.le_trans (Nat.le_trans (Nat.le_trans (Nat.le_trans (Nat.le_refl _) (Keep.of_wr W6).1) (Keep.of_wr W8).1) (Keep.of_wr W10).1) (Keep.of_wr W12).1) (Keep.of_wr W14).1) (Keep.of_wr W16).1) E68.1) (Keep.of_wr W69).1) (Keep.of_wr W70).1) (Keep.of_wr W71).1)) (Nat.le_of_eq g72.symm)))) (v := (.long (FLD q4 (2 : Int32)))) (by decide) rfl at_275 rfl ?_
      refine m_lsub K X93.here hx hby (w0_18 q2 q4) at_276 rfl rfl ?_
      refine k_callS K X93 hx hby hZ [(.long (w0_18 q2 q4))] [(.long (w0_13 q2 q4))] hown (hw _ (List.mem_of_getElem? (i := 12) rfl)) (hw _ (List.mem_of_getElem? (i := 13) rfl)) (hw _ (List.mem_of_getElem? (i := 2) rfl)) (hw _ (List.mem_of_getElem? (i := 14) rfl)) (c3 l Z a0 hw (w0_18 q2 q4) h78 n0 (Nat.le_trans Z0 (Nat.le_trans (Nat.le_trans (Nat.le_trans (Nat.le_trans (Nat.le_trans (Nat.le_trans (Nat.le_trans (Nat.le_trans (Nat.le_trans (Nat.le_trans (Nat.le_trans (Nat.le_trans (Nat.le_trans (Nat.le_trans (Nat.le_trans (Nat.le_trans (Nat.le_trans (Nat.le_trans (Nat.le_refl _) E4.1) (Keep.of_wr W6).1) (Keep.of_wr W8).1) (Keep.of_wr W10).1) (Keep.of_wr W12).1) (Keep.of_wr W14).1) (Keep.of_wr W16).1) E68.1) (Keep.of_wr W69).1) (Keep.of_wr W70).1) (Keep.of_wr W71).1) E72.1) (Keep.of_wr W73).1) (Keep.of_wr W74).1) (Keep.of_wr W75).1) (Keep.of_wr W76).1) (Keep.of_wr W77).1) (Keep.of_wr W78).1))) e93 rfl rfl pd_2 rfl at_277 (by rw [hml]; rfl) rfl (by decide) (by decide) (Nat.le_of_ble_eq_true rfl) (by decide) (by decide) fun v94 T94 L94 X94 q94 => ?_
      obtain ⟨rfl, e94, rfl⟩ := q94
      replace X94 := own_px X94
      refine k_some K (w := (.long (SQ (w0_18 q2 q4)))) ?_
      refine m_ladd K X94.here hx hby ((w0_13 q2 q4) + (SQ (w0_18 q2 q4))) at_280 rfl rfl ?_
      refine m_lstore K X94.here hx hby #[.val (.int p1), .val (.long q2), .second, .val (.long q3), .second, .val (.long q4), .second, .val (.int (3 : Int32)), .val (.int (3 : Int32)), .val (.long (FLD q2 (0 : Int32))), .second, .val (.long (FLD q2 (1 : Int32))), .second, .val (.long (FLD q2 (2 : Int32))), .second, .val (.ref b4), .val (.ref b68), .val (.ref b72), .val (.double (FP.l2d (SS_3_3 (FLD q2 (0 : Int32)) (FLD q2 (1 : Int32)) (FLD q2 (2 : Int32)) (FLD q4 (0 : Int32)) (FLD q4 (1 : Int32)) (FLD q4 (2 : Int32))))), .second, .val (.long ((w0_13 q2 q4) + (SQ (w0_18 q2 q4)))), .second] at_281 rfl rfl ?_
      refine m_dload K X94.here hx hby at_283 rfl rfl ?_
      refine m_lload K X94.here hx hby at_285 rfl rfl ?_
      refine m_l2d K X94.here hx hby (FP.l2d ((w0_13 q2 q4) + (SQ (w0_18 q2 q4)))) at_287 rfl rfl ?_
      refine m_dcmp K X94.here hx hby (0 : Int32) at_288 (dcmpV_eq rfl (nn_w rfl) _) rfl ?_
      refine m_ifN K X94.here hx hby (q := 292) at_289 ((if0 _ _).trans (teq (by decide : (0 : Int32) = (0 : Int32))).2) rfl ?_
      refine m_iconst K X94.here hx hby (1 : Int32) at_292 rfl rfl ?_
      refine m_goto K X94.here hx hby (q := 297) at_293 (by decide) rfl ?_
      exact Go.retN X94 hx hby hlk hret (by simp) at_297 (by decide) (by decide) (by decide) (⟨rfl, N78⟩)
set_option maxRecDepth 65536 in
set_option maxHeartbeats 40000000 in
theorem comes_1 {Post : Tables → Env → Array Value → State → Outcome → State → Prop} (hpost : ∀ tb e args s v u, (limb_1_1.after args s (.returned v) u = true ∧ limb_1_2.after args s (.returned v) u = true ∧ True) → FrameEnd s (.returned v) u (Jvm.fieldLocs frame_1_writes args s ++ Jvm.arrayLocs frame_1_arrays args s ++ Jvm.staticLocs frame_1_statics s) 16 128 → Post tb e args s (.returned v) u) :
    ArmFor flags0 classFile x code maxLocals ret World_1 tables_1 room_1 Calls_1 rest_1 Pre_1 Post := by
  intro l hfl _ _ p e ha hc hk s m args below hf hA hF happ hP
  obtain ⟨hcalls, hrest, hpre⟩ := hP
  obtain ⟨-, -, -, hnamed, -, -, -, hat⟩ := (Spec.applies_iff hf).mp happ
  obtain ⟨hg, hn⟩ := and_e (Cond.before_iff.mp (show (Jvm.Cond.and given_1 narrow_1).before args s = true from hpre))
  obtain ⟨g1, g2⟩ := and_e hg
  obtain ⟨w0, w1, w2, w3, rfl⟩ : ∃ w0 w1 w2 w3 : Value, args = #[w0, w1, w2, w3] := by
    have hs : args.size = 4 := by simpa [Cond.value, given_1] using g1
    obtain ⟨L⟩ := args
    match L, hs with
    | [w0, w1, w2, w3], _ => exact ⟨w0, w1, w2, w3, rfl⟩
  obtain ⟨k0, r0⟩ := and_e g2
  obtain ⟨i0, z0⟩ := is_v k0
  obtain rfl : w0 = (.int i0) := Option.some.inj z0
  obtain ⟨k1, r1⟩ := and_e r0
  obtain ⟨i1, z1⟩ := isL_v k1
  obtain rfl : w1 = (.long i1) := Option.some.inj z1
  obtain ⟨k2, r2⟩ := and_e r1
  obtain ⟨i2, z2⟩ := isL_v k2
  obtain rfl : w2 = (.long i2) := Option.some.inj z2
  obtain ⟨i3, z3⟩ := isL_v r2
  obtain rfl : w3 = (.long i3) := Option.some.inj z3
  have hw := fun d (hd : d ∈ tables_1) => atoms_spec (ws := Jvm.Cond.code x code maxLocals ret :: tables_1) hat d (List.mem_cons_of_mem _ hd)
  have hfit : Fit s := fun {y c} hc i hi => by
    obtain ⟨ha, rfl⟩ := Array.getElem?_eq_some_iff.mp hc
    have q := List.all_eq_true.mp ((Array.all_eq_true_iff_forall_mem.mp hF) _ (Array.getElem_mem ha)) i (List.mem_range.mpr hi)
    simpa [Array.getElem?_eq_getElem hi] using q
  obtain ⟨n, o, h1, h2, h3, _, L, rfl, ⟨rfl, N⟩, hq⟩ := law0 l s _ hw tables_1 i0 i1 i2 i3 s.heap s.heap.size (Nat.le_refl _)  p e ha hc hk s m _ below hf ((Spec.applies_iff_loose hf).mp happ).1 ⟨rfl, State.Warmed39.refl s, rfl⟩ trivial
  refine ⟨n, _, h1, h2, h3, hpost _ _ _ _ _ _ ⟨Cond.after_iff.mpr rfl, Cond.after_iff.mpr (eq_i res_at (Term.int_eval (1)) rfl), trivial⟩ ⟨hq.1, hq.2.1, (hq.2.2.sift fun y hy => Or.inr (N y hy)).mono (by decide) (by decide)⟩⟩
theorem main_1_1 : Claimed_1_1 := comes_1 fun _ _ _ _ _ _ h hF => ⟨h.1, hF⟩
theorem main_1_2 : Claimed_1_2 := comes_1 fun _ _ _ _ _ _ h hF => ⟨h.2.1, hF⟩
end Jvm.Pilot.@@N@@
namespace Jvm.Pilot.@@N@@
open Jvm Jvm.ClassFile Sem Op Lib Jvm.Free Jvm.Stand Jvm.Pilot.@@N@@.Jvm.D
/-! MADE BY PROGRAM (witnessworld.py) out of the Statement's table words and the real class files: 11 classes; the members and pool entries that the words name. The judged class is class 1, her method 3. -/
namespace start1
open Jvm.ClassFile
def u (s : String) : CpInfo := .utf8 (stringToUtf16 s)
/-- a pool by its gaps: so many unusable entries, then the entry; so many at the end -/
def gap : Nat → List CpInfo → List CpInfo
  | 0, r => r
  | n + 1, r => .unusable :: gap n r
def poolList (es : List (Nat × CpInfo)) (last : Nat) : List CpInfo := es.foldr (fun e r => gap e.1 (e.2 :: r)) (gap last [])
def pool (es : List (Nat × CpInfo)) (last : Nat) : Array CpInfo := ⟨poolList es last⟩
def fileOf (pool : Array CpInfo) (this : Nat) (attrs : Array Attribute := #[]) (ms : Array MethodInfo := #[]) (fl : Nat := 33) (sup : Nat := 0) (ifs : Array Nat := #[]) (fds : Array FieldInfo := #[]) : ClassFile where
  minorVersion := 0
  majorVersion := 65
  constantPool := pool
  accessFlags := fl
  thisClass := this
  superClass := sup
  interfaces := ifs
  fields := fds
  methods := ms
  attributes := attrs
def plain (name : String) (sup : Option ClassId) : Class where
  name := name
  kind := .ordinary
  loader := none
  accessFlags := 33
  super := sup
  interfaces := #[]
  cf := none
  fields := #[]
  methods := #[]
  instanceTypes := #[]
  staticTypes := #[]
  resolved := #[]
  callSites := []
  init := .initialized
  statics := none
  mirror := none

def pool0 : Array CpInfo := pool [(5, u "<init>"), (0, u "()V"), (1, .class_ 10), (1, u "java/lang/Object")] 113

def k0m0 : Method := { name := "<init>", desc := "()V", sig := { parameters := [], returnType := none }, accessFlags := 1, code := none }
/-- java/lang/Object -/
def k0 : Class := { plain "java/lang/Object" none with
  accessFlags := 33
  interfaces := #[]
  cf := some (fileOf pool0 8 #[] #[{ accessFlags := 1, nameIndex := 5, descriptorIndex := 6, attributes := #[] }] 33 0 #[] #[])
  fields := #[]
  methods := #[k0m0]
  instanceTypes := #[]
  staticTypes := #[]
  resolved := Array.replicate 124 none
  statics := none }

def pool1 : Array CpInfo := pool [(2, .class_ 4), (1, u "java/lang/Object"), (0, u "<init>"), (0, u "()V"), (0, .long 2097151), (1, .long 1048576), (1, .methodref 12 13), (0, .class_ 14), (0, .nameAndType 15 16), (0, u "com/example/askance/askance/KdTreeSumOfSquaresPinLaw"), (0, u "field"), (0, u "(JI)J"), (0, .methodref 18 19), (0, .class_ 20), (0, .nameAndType 21 22), (0, u "com/example/askance/askance/KdTree"), (0, u "sumOfSquares"), (0, u "([D[DI)D"), (0, .methodref 12 24), (0, .nameAndType 25 26), (0, u "sq"), (0, u "(J)J"), (2, u "law"), (0, u "(IJJJ)Z")] 7

def k1m0 : Method := { name := "<init>", desc := "()V", sig := { parameters := [], returnType := none }, accessFlags := 1, code := none }
def k1c1 : Code := { maxStack := 4, maxLocals := 3, code := method_2_code, exceptionTable := #[], attributes := #[] }
def k1m1 : Method := { name := "field", desc := "(JI)J", sig := { parameters := [.long, .int], returnType := some .long }, accessFlags := 10, code := some k1c1 }
def k1c2 : Code := { maxStack := 4, maxLocals := 2, code := method_3_code, exceptionTable := #[], attributes := #[] }
def k1m2 : Method := { name := "sq", desc := "(J)J", sig := { parameters := [.long], returnType := some .long }, accessFlags := 10, code := some k1c2 }
def k1c3 : Code := { maxStack := 7, maxLocals := 22, code := code, exceptionTable := #[], attributes := #[] }
def k1m3 : Method := { name := "law", desc := "(IJJJ)Z", sig := { parameters := [.int, .long, .long, .long], returnType := some .boolean }, accessFlags := 9, code := some k1c3 }
/-- com/example/askance/askance/KdTreeSumOfSquaresPinLaw -/
def k1 : Class := { plain "com/example/askance/askance/KdTreeSumOfSquaresPinLaw" (some 0) with
  accessFlags := 49
  interfaces := #[]
  cf := some (fileOf pool1 12 #[] #[{ accessFlags := 1, nameIndex := 5, descriptorIndex := 6, attributes := #[] }, { accessFlags := 10, nameIndex := 15, descriptorIndex := 16, attributes := #[] }, { accessFlags := 10, nameIndex := 25, descriptorIndex := 26, attributes := #[] }, { accessFlags := 9, nameIndex := 29, descriptorIndex := 30, attributes := #[] }] 49 2 #[] #[])
  fields := #[]
  methods := #[k1m0, k1m1, k1m2, k1m3]
  instanceTypes := #[]
  staticTypes := #[]
  resolved := Array.replicate 38 none
  statics := none }

def pool2 : Array CpInfo := pool [(2, .class_ 4), (1, u "java/lang/Object"), (3, .class_ 10), (1, u "com/example/askance/askance/KdTree"), (0, u "d"), (0, u "I"), (4, u "firstLeaf"), (2, u "rowAt"), (0, u "[I"), (2, u "start"), (2, u "end"), (2, u "firstRow"), (4, u "lower"), (0, u "[[D"), (2, u "upper"), (2, u "leafValues"), (39, .class_ 83), (0, u "com/example/askance/askance/KdTree$Candidates"), (13, u "sumOfSquares"), (0, u "([D[DI)D"), (20, u "LEAF_SIZE"), (2, u "PIVOT_SEED"), (0, u "J")] 15

def k2c0 : Code := { maxStack := 6, maxLocals := 8, code := prog_7_method_7_code, exceptionTable := #[], attributes := #[] }
def k2m0 : Method := { name := "sumOfSquares", desc := "([D[DI)D", sig := { parameters := [(.array .double), (.array .double), .int], returnType := some .double }, accessFlags := 8, code := some k2c0 }
/-- com/example/askance/askance/KdTree -/
def k2 : Class := { plain "com/example/askance/askance/KdTree" (some 0) with
  accessFlags := 48
  interfaces := #[]
  cf := some (fileOf pool2 8 #[.nestMembers #[82]] #[{ accessFlags := 8, nameIndex := 97, descriptorIndex := 98, attributes := #[] }] 48 2 #[] #[{ accessFlags := 26, nameIndex := 119, descriptorIndex := 12, attributes := #[] }, { accessFlags := 26, nameIndex := 122, descriptorIndex := 123, attributes := #[] }, { accessFlags := 18, nameIndex := 11, descriptorIndex := 12, attributes := #[] }, { accessFlags := 18, nameIndex := 17, descriptorIndex := 12, attributes := #[] }, { accessFlags := 18, nameIndex := 20, descriptorIndex := 21, attributes := #[] }, { accessFlags := 18, nameIndex := 24, descriptorIndex := 21, attributes := #[] }, { accessFlags := 18, nameIndex := 27, descriptorIndex := 21, attributes := #[] }, { accessFlags := 18, nameIndex := 30, descriptorIndex := 21, attributes := #[] }, { accessFlags := 18, nameIndex := 35, descriptorIndex := 36, attributes := #[] }, { accessFlags := 18, nameIndex := 39, descriptorIndex := 36, attributes := #[] }, { accessFlags := 18, nameIndex := 42, descriptorIndex := 36, attributes := #[] }])
  fields := #[{ name := "LEAF_SIZE", type := .int, accessFlags := 26, slot := 0, constantValue := 0 }, { name := "PIVOT_SEED", type := .long, accessFlags := 26, slot := 1, constantValue := 0 }, { name := "d", type := .int, accessFlags := 18, slot := 0, constantValue := 0 }, { name := "firstLeaf", type := .int, accessFlags := 18, slot := 1, constantValue := 0 }, { name := "rowAt", type := (.array .int), accessFlags := 18, slot := 2, constantValue := 0 }, { name := "start", type := (.array .int), accessFlags := 18, slot := 3, constantValue := 0 }, { name := "end", type := (.array .int), accessFlags := 18, slot := 4, constantValue := 0 }, { name := "firstRow", type := (.array .int), accessFlags := 18, slot := 5, constantValue := 0 }, { name := "lower", type := (.array (.array .double)), accessFlags := 18, slot := 6, constantValue := 0 }, { name := "upper", type := (.array (.array .double)), accessFlags := 18, slot := 7, constantValue := 0 }, { name := "leafValues", type := (.array (.array .double)), accessFlags := 18, slot := 8, constantValue := 0 }]
  methods := #[k2m0]
  instanceTypes := #[.int, .int, (.array .int), (.array .int), (.array .int), (.array .int), (.array (.array .double)), (.array (.array .double)), (.array (.array .double))]
  staticTypes := #[.int, .long]
  resolved := Array.replicate 139 none
  statics := none }

def pool3 : Array CpInfo := pool [(1, u "java/lang/Cloneable"), (0, .class_ 1), (0, u "java/lang/Object"), (0, .class_ 3)] 3

/-- java/lang/Cloneable -/
def k3 : Class := { plain "java/lang/Cloneable" (some 0) with
  accessFlags := 1537
  interfaces := #[]
  cf := some (fileOf pool3 2 #[] #[] 1537 4 #[] #[])
  fields := #[]
  methods := #[]
  instanceTypes := #[]
  staticTypes := #[]
  resolved := Array.replicate 8 none
  statics := none }

def pool4 : Array CpInfo := pool [(1, u "java/io/Serializable"), (0, .class_ 1), (0, u "java/lang/Object"), (0, .class_ 3)] 3

/-- java/io/Serializable -/
def k4 : Class := { plain "java/io/Serializable" (some 0) with
  accessFlags := 1537
  interfaces := #[]
  cf := some (fileOf pool4 2 #[] #[] 1537 4 #[] #[])
  fields := #[]
  methods := #[]
  instanceTypes := #[]
  staticTypes := #[]
  resolved := Array.replicate 8 none
  statics := none }

/-- the primitive byte -/
def k5 : Class := { plain "byte" none with kind := .primitive 'B', accessFlags := 0x411 }
/-- [B -/
def k6 : Class := { plain "[B" (some 0) with kind := .array 5 .byte, interfaces := #[3, 4], accessFlags := 1041 }

/-- the primitive int -/
def k7 : Class := { plain "int" none with kind := .primitive 'I', accessFlags := 0x411 }
/-- [I -/
def k8 : Class := { plain "[I" (some 0) with kind := .array 7 .int, interfaces := #[3, 4], accessFlags := 1041 }

/-- the primitive long -/
def k9 : Class := { plain "long" none with kind := .primitive 'J', accessFlags := 0x411 }
/-- [J -/
def k10 : Class := { plain "[J" (some 0) with kind := .array 9 .long, interfaces := #[3, 4], accessFlags := 1041 }

/-- the primitive double -/
def k11 : Class := { plain "double" none with kind := .primitive 'D', accessFlags := 0x411 }
/-- [D -/
def k12 : Class := { plain "[D" (some 0) with kind := .array 11 .double, interfaces := #[3, 4], accessFlags := 1041 }

def heap : Heap := #[]
def classes : Array Class := #[k0, k1, k2, k3, k4, k5, k6, k7, k8, k9, k10, k11, k12]
def interned : List (Array UInt16 × Addr) := []
def slotsUsed : Nat := 0
def theMethod : MethodId := ⟨1, 3⟩
def args0 : Array Value := #[.int 7, .long 3, .long 4, .long 3]
def aboutOver (below : List Frame) : State where
  vm := { classes := classes, interned := interned.toArray }
  heap := heap
  slotsUsed := slotsUsed
  threads := #[{ frames := .invoking theMethod args0 :: below }]
def below0 : List Frame := [.native { method := ⟨0, 0⟩, args := #[] }]
def about1 : State := aboutOver below0
def p0 : Program := .bare "" "" ""
def e0 : Env := launch0.env 0 0 0
theorem w_frames : about1.frames = Frame.invoking theMethod args0 :: below0 := rfl
set_option maxRecDepth 65536 in
theorem w_args : argsFit about1.vm theMethod args0 = true := by decide +kernel
set_option maxRecDepth 65536 in
theorem w_heap : heapFits about1 = true := by decide +kernel
set_option maxRecDepth 65536 in
theorem w_runnable : about1.curStatus? = some .runnable := by decide +kernel
set_option maxRecDepth 65536 in
theorem w_alone : about1.alone = true := by decide +kernel
set_option maxRecDepth 65536 in
theorem w_named : about1.methodNamed? x = some theMethod := by decide +kernel
set_option maxRecDepth 65536 in
theorem w_hears : about1.hears theMethod below0 = true := by decide +kernel
set_option maxRecDepth 65536 in
theorem w_ripe : about1.ripe theMethod args0 below0 = true := by decide +kernel
theorem w_running : about1.status = .running := rfl
set_option maxRecDepth 65536 in
theorem w_room : about1.hasRoom e0.platform room_1 = true :=
  launch0.hasRoom_least _ room_1 (by decide +kernel) (by decide +kernel) (by decide +kernel) (by decide +kernel) (by decide +kernel) (by decide +kernel)
theorem allAtoms_all (ts : List Jvm.Cond) (a : Array Jvm.Value) (st : Jvm.State) : (allAtoms ts).before a st = ts.all (fun c => c.before a st) := by
  induction ts with
  | nil => rfl
  | cons c t ih =>
    show (Jvm.Cond.and c (allAtoms t)).before a st = _
    rw [Jvm.Cond.before_and, ih, List.all_cons]
def words1 : List Jvm.Cond := Jvm.Cond.code x code maxLocals ret :: tables_1
/-- a 'code' word, met by the world's own term for the bytes: nothing is compared byte by byte -/
theorem code_word {y : MethodName} {bytes : ByteArray} {mx : Nat} {rt : Option FieldType} {a : Array Value} {s : State} {m : MethodId} {meth : Method} {c : Code} (h1 : s.methodNamed? y = some m) (h2 : s.vm.method? m = some meth) (h3 : meth.code = some c) (h4 : c.code = bytes)
    (h5 : (c.maxLocals == mx && c.exceptionTable.isEmpty && decide (c.maxStack ≤ mostOperands) && decide (meth.sig.returnType = rt) && !meth.locks && decide (parseMethodDescriptor y.desc = some meth.sig)) = true) : (Jvm.Cond.code y bytes mx rt).before a s = true := by
  simp only [Bool.and_eq_true, beq_iff_eq, Bool.not_eq_true', decide_eq_true_eq] at h5
  obtain ⟨⟨⟨⟨⟨g1, g2⟩, g3⟩, g4⟩, g5⟩, g6⟩ := h5
  simp [Cond.before, Cond.holds, Cond.value, h1, h2, h3, h4, g1, g2, g3, g4, g5, g6]
def isCode : Jvm.Cond → Bool
  | .code _ _ _ _ => true
  | _ => false
theorem all_split {L : List Jvm.Cond} {P : Jvm.Cond → Bool} (h1 : L.all (fun c => isCode c || P c) = true) (h2 : ∀ c ∈ L.filter isCode, P c = true) : L.all P = true := by
  refine List.all_eq_true.mpr fun c hc => ?_
  have h := List.all_eq_true.mp h1 c hc
  rcases Bool.eq_false_or_eq_true (isCode c) with hi | hi
  · exact h2 c (List.mem_filter.mpr ⟨hc, hi⟩)
  · simpa [hi] using h
set_option maxRecDepth 65536 in
theorem w_c0 : (Jvm.Cond.code x code maxLocals ret).before args0 about1 = true := code_word (m := ⟨1, 3⟩) (meth := k1m3) (c := k1c3) (by decide +kernel) rfl rfl rfl (by decide +kernel)
set_option maxRecDepth 65536 in
theorem w_c1 : (Jvm.Cond.code ({ cls := "com/example/askance/askance/KdTreeSumOfSquaresPinLaw", name := "field", desc := "(JI)J" } : Jvm.MethodName) method_2_code (3 : Nat) (Option.some Jvm.ClassFile.FieldType.long)).before args0 about1 = true := code_word (m := ⟨1, 1⟩) (meth := k1m1) (c := k1c1) (by decide +kernel) rfl rfl rfl (by decide +kernel)
set_option maxRecDepth 65536 in
theorem w_c2 : (Jvm.Cond.code ({ cls := "com/example/askance/askance/KdTree", name := "sumOfSquares", desc := "([D[DI)D" } : Jvm.MethodName) prog_7_method_7_code (8 : Nat) (Option.some Jvm.ClassFile.FieldType.double)).before args0 about1 = true := code_word (m := ⟨2, 0⟩) (meth := k2m0) (c := k2c0) (by decide +kernel) rfl rfl rfl (by decide +kernel)
set_option maxRecDepth 65536 in
theorem w_c3 : (Jvm.Cond.code ({ cls := "com/example/askance/askance/KdTreeSumOfSquaresPinLaw", name := "sq", desc := "(J)J" } : Jvm.MethodName) method_3_code (2 : Nat) (Option.some Jvm.ClassFile.FieldType.long)).before args0 about1 = true := code_word (m := ⟨1, 2⟩) (meth := k1m2) (c := k1c2) (by decide +kernel) rfl rfl rfl (by decide +kernel)
def codes1 : List Jvm.Cond := [Jvm.Cond.code x code maxLocals ret, Jvm.Cond.code ({ cls := "com/example/askance/askance/KdTreeSumOfSquaresPinLaw", name := "field", desc := "(JI)J" } : Jvm.MethodName) method_2_code (3 : Nat) (Option.some Jvm.ClassFile.FieldType.long), Jvm.Cond.code ({ cls := "com/example/askance/askance/KdTree", name := "sumOfSquares", desc := "([D[DI)D" } : Jvm.MethodName) prog_7_method_7_code (8 : Nat) (Option.some Jvm.ClassFile.FieldType.double), Jvm.Cond.code ({ cls := "com/example/askance/askance/KdTreeSumOfSquaresPinLaw", name := "sq", desc := "(J)J" } : Jvm.MethodName) method_3_code (2 : Nat) (Option.some Jvm.ClassFile.FieldType.long)]
set_option maxRecDepth 65536 in
theorem codes_eq : words1.filter isCode = codes1 := rfl
theorem w_codes : ∀ c ∈ words1.filter isCode, c.before args0 about1 = true := by
  rw [codes_eq]
  intro c hc
  simp only [codes1, List.mem_cons, List.not_mem_nil, or_false] at hc
  rcases hc with rfl | rfl | rfl | rfl
  · exact w_c0
  · exact w_c1
  · exact w_c2
  · exact w_c3
set_option maxRecDepth 65536 in
theorem w_t1 : words1.all (fun c => isCode c || c.before args0 about1) = true := by decide +kernel
theorem w_tables : (allAtoms (Jvm.Cond.code x code maxLocals ret :: tables_1)).before args0 about1 = true := by
  rw [allAtoms_all]
  show words1.all (fun c => c.before args0 about1) = true
  refine all_split ?_ w_codes
  rw [w_t1]
set_option maxRecDepth 65536 in
theorem w_case : (Jvm.Cond.and given_1 narrow_1).before args0 about1 = true := by decide +kernel
theorem w_applies : (headSpec (Jvm.Cond.code x code maxLocals ret :: tables_1) room_1).applies x e0.platform about1 = true :=
  (Spec.applies_iff w_frames).mpr ⟨w_running, w_runnable, w_alone, w_named, w_hears, w_ripe, w_room, w_tables⟩
theorem atStart : AtStart classFile x code maxLocals ret World_1 tables_1 room_1 Calls_1 rest_1 Pre_1 launch0 p0 e0 about1 theMethod args0 below0 :=
  ⟨lists_1, trivial, launch0.admits_env _ _ _, launch0.least_env, fairChoices_fair.cas, fairChoices_fair.clock, w_frames, w_args, w_heap, w_applies, trivial, trivial, w_case⟩
end start1
theorem witness_1 : WitnessClaimed_1 := ⟨start1.p0, start1.e0, start1.about1, start1.theMethod, start1.args0, start1.below0, start1.atStart⟩
end Jvm.Pilot.@@N@@
