import JvmDerived
import JvmDerived.Pilot.@@N@@Statement
import JvmDerived.Pilot.@@N@@Code
set_option linter.unusedVariables false
set_option linter.unusedSimpArgs false
namespace Jvm.RoadKit
open Sem ClassFile Op Lib Jvm.Stand Jvm.Free Jvm.LawKit
section New
variable {p : Program} {l : Launch} {e : Env} {R : Room} {s : State} {m : MethodId} {args : Array Value} {below : List Frame} {meth : Method} {c : Code} {T : State} {locs : List Loc} {cells slots : Nat}
theorem retI (X : Stand p l e R s m args below meth c T locs cells slots) (hx : p.tables.exec = Jvm.exec) {pc : Nat} {Ls : Array Slot} {z : Int32} {rest : List Value} (hret : meth.sig.returnType = some .int) (hd : decode c.code pc = .ok (.ireturn, 1)) {fs : List Frame}
    (hl : ∀ (f : JFrame) (acts : List Action), f.method = m → f.locked = none → f.entered = [] → (doReturn e (T.setTop f) acts (some (.int z))).1 = T.setFrames fs) : Steps p.tables e below (T.setTop (mkF m pc Ls (.int z :: rest))) (T.setFrames fs) := by
  have hm' : T.vm.method? m = some meth := X.method'
  have hn : narrow .int (.int z) = .int z := rfl
  show Steps p.tables e below (T.setTop { method := m, pc := pc, locals := Ls, stack := _ :: rest, locked := none }) _
  jvm_step X.here [X.here.top, hx, hd, hm', hret, hn]
  first | (intro acts; rw [hl _ acts rfl rfl rfl]) | rw [hl _ _ rfl rfl rfl]
  exact Steps.refl _
end New
end Jvm.RoadKit
namespace Jvm.Pilot.@@N@@
open Jvm Jvm.ClassFile Sem Op Lib Jvm.Free Jvm.Stand Jvm.LawKit Jvm.RoadKit Bundle Jvm.Pilot.@@N@@.Jvm.D
/-! own: the rest of a run, told backwards; the contract of a body; steps and calls -/
section OwnBase
variable {p : Program} {l : Launch} {e : Env} {R : Room} {s : State} {m : MethodId} {args : Array Value} {below : List Frame} {meth : Method} {c : Code} {T : State} {locs : List Loc} {cells slots : Nat} {Z : State} {a0 : Array Value} {h : Heap} {bs : ByteArray} {pc q : Nat} {Ls : Array Slot} {S : List Value} {G : State → Prop}
abbrev PQ := Option Value → Heap → List Loc → Prop
def Cl (p : Program) (e : Env) (below : List Frame) (G : State → Prop) : Prop := ∀ (A B : State), (∀ t, Steps p.tables e below B t → Steps p.tables e below A t) → G B → G A
def Go (p : Program) (e : Env) (below : List Frame) (s : State) (C N : Nat) (Q : PQ) (A : State) : Prop :=
  ∃ s₂ o, Steps p.tables e below A s₂ ∧ s₂.status = .running ∧ Ended s₂ below o ∧ ∃ v L, o = .returned v ∧ Q v s₂.heap L ∧ FrameEnd s o s₂ L C N
theorem Go.cl {C N : Nat} {Q : PQ} : Cl p e below (Go p e below s C N Q) := fun A B k ⟨s2, o, h1, r⟩ => ⟨s2, o, k _ h1, r⟩
theorem Go.with {C N : Nat} {Q : PQ} {A : State} (k : Cl p e below (Go p e below s C N Q) → Go p e below s C N Q A) : Go p e below s C N Q A := k Go.cl
theorem Go.leave (X : Stand p l e R s m args below meth c T locs cells slots) {v : Option Value} (hv : meth.sig.returnType = none → v = none) (hlk : meth.locks = false) {C N : Nat} {Q : PQ} (hc : cells ≤ C) (hn : slots ≤ N) (q : Q v T.heap locs) {A : State}
    (k : ∀ fs, (∀ (f : JFrame) (acts : List Action), f.method = m → f.locked = none → f.entered = [] → (doReturn e (T.setTop f) acts v).1 = T.setFrames fs) → Steps p.tables e below A (T.setFrames fs)) : Go p e below s C N Q A := by
  obtain ⟨fs, hr, hrun, hended, hW, hsame⟩ := X.leave hv hlk
  exact ⟨_, _, k fs hr, hrun, hended, _, _, rfl, q, ⟨_, rfl⟩, hW, hsame.mono hc hn⟩
theorem Go.retI (X : Stand p l e R s m args below meth c T locs cells slots) (hx : p.tables.exec = Jvm.exec) (hby : c.code = bs) (hlk : meth.locks = false) {z : Int32} (hret : meth.sig.returnType = some .int) (hd : decode bs pc = .ok (.ireturn, 1)) {C N : Nat} {Q : PQ} (hc : cells ≤ C) (hn : slots ≤ N) (q : Q (some (.int z)) T.heap locs) :
    Go p e below s C N Q (T.setTop (mkF m pc Ls (.int z :: S))) :=
  Go.leave X (fun h => by rw [hret] at h; cases h) hlk hc hn q fun _ hr => Jvm.RoadKit.retI X hx hret (hb hby hd) hr
theorem Go.retN (X : Stand p l e R s m args below meth c T locs cells slots) (hx : p.tables.exec = Jvm.exec) (hby : c.code = bs) (hlk : meth.locks = false) {z : Int32} {t : FieldType} (hret : meth.sig.returnType = some t) (ht : t = .boolean ∨ t = .byte ∨ t = .char ∨ t = .short) (hd : decode bs pc = .ok (.ireturn, 1)) {C N : Nat} {Q : PQ} (hc : cells ≤ C) (hn : slots ≤ N) (hz : nar t z = z) (q : Q (some (.int z)) T.heap locs) :
    Go p e below s C N Q (T.setTop (mkF m pc Ls (.int z :: S))) :=
  Go.leave X (fun h => by rw [hret] at h; cases h) hlk hc hn q fun _ hr => Jvm.RoadKit.retN X hx hret ht (hb hby hd) (by rw [hz]; exact hr)
theorem Go.retV (X : Stand p l e R s m args below meth c T locs cells slots) (hx : p.tables.exec = Jvm.exec) (hby : c.code = bs) (hlk : meth.locks = false) (hret : meth.sig.returnType = none) (hd : decode bs pc = .ok (.return_, 1)) {C N : Nat} {Q : PQ} (hc : cells ≤ C) (hn : slots ≤ N) (q : Q none T.heap locs) :
    Go p e below s C N Q (T.setTop (mkF m pc Ls [])) :=
  Go.leave X (fun _ => rfl) hlk hc hn q fun _ hr => X.returnOut hx hret (hb hby hd) hr
theorem Go.retO (X : Stand p l e R s m args below meth c T locs cells slots) (hx : p.tables.exec = Jvm.exec) (hby : c.code = bs) (hlk : meth.locks = false) {w : Value} {t : FieldType} {i : Instr} (hret : meth.sig.returnType = some t) (hnw : narrow t w = w)
    (hi : (i = .ireturn ∧ (t = .int ∨ t = .boolean ∨ t = .byte ∨ t = .char ∨ t = .short) ∧ ∃ z, w = .int z) ∨ (i = .lreturn ∧ t = .long ∧ ∃ z, w = .long z) ∨ (i = .dreturn ∧ t = .double ∧ ∃ z, w = .double z) ∨ (i = .freturn ∧ t = .float ∧ ∃ z, w = .float z) ∨ (i = .areturn ∧ t.isReference = true ∧ w.isRef = true))
    (hd : decode bs pc = .ok (i, 1)) {C N : Nat} {Q : PQ} (hc : cells ≤ C) (hn : slots ≤ N) (q : Q (some w) T.heap locs) :
    Go p e below s C N Q (T.setTop (mkF m pc Ls (w :: S))) :=
  Go.leave X (fun h => by rw [hret] at h; cases h) hlk hc hn q fun _ hr => Jvm.RoadKit.retOut X hx hret hnw hi (hb hby hd) hr
/-- two roads meet: at a state like X's, at the heap h, with the frame g' -/
def Mx (X : Stand p l e R s m args below meth c T locs cells slots) (h : Heap) (g' : JFrame) (A : State) : Prop := ∃ T', Stand p l e R s m args below meth c T' locs cells slots ∧ T'.heap = h ∧ ∀ t, Steps p.tables e below (T'.setTop g') t → Steps p.tables e below A t
theorem Mx.cl {X : Stand p l e R s m args below meth c T locs cells slots} {g' : JFrame} : Cl p e below (Mx X h g') := fun A B k ⟨T', X', e', st⟩ => ⟨T', X', e', fun t r => k _ (st t r)⟩
theorem Mx.with {X : Stand p l e R s m args below meth c T locs cells slots} {g' : JFrame} {A : State} (k : Cl p e below (Mx X h g') → Mx X h g' A) : Mx X h g' A := k Mx.cl
theorem Mx.here {X : Stand p l e R s m args below meth c T locs cells slots} {g' : JFrame} {T' : State} (X' : Stand p l e R s m args below meth c T' locs cells slots) (e' : T'.heap = h) : Mx X h g' (T'.setTop g') := ⟨T', X', e', fun _ k => k⟩
theorem own_nar01 {z : Int32} (h : z = 0 ∨ z = 1) : nar .boolean z = z := by rcases h with rfl | rfl <;> rfl
theorem own_px (X : Stand p l e R s m args below meth c T (locs ++ []) (cells + 0) (slots + 0)) : Stand p l e R s m args below meth c T locs cells slots := by rw [List.append_nil] at X; exact X
theorem k_go (K : Cl p e below G) {A B : State} (st : ∀ t, Steps p.tables e below B t → Steps p.tables e below A t) (hr : G B) : G A := K A B st hr
theorem k_some (K : Cl p e below G) {w : Value} (hr : G (T.setTop (mkF m q Ls (w :: S)))) : G (T.setTop (mkF m q Ls ((some w).toList ++ S))) := hr
theorem k_none (K : Cl p e below G) (hr : G (T.setTop (mkF m q Ls S))) : G (T.setTop (mkF m q Ls ((none : Option Value).toList ++ S))) := hr
theorem own_irem (x y : Int32) : x - (x / y) * y = x % y := by
  apply Int32.toInt_inj.mp
  have h1 := Int32.le_toInt (x % y)
  have h2 := Int32.toInt_lt (x % y)
  rw [Int32.toInt_sub, Int32.toInt_mul, Int32.toInt_div, Int.bmod_mul_bmod, Int.sub_bmod_bmod, Int.mul_comm (x.toInt.tdiv y.toInt), ← Int.tmod_def, ← Int32.toInt_mod]
  exact Int.bmod_eq_of_le_mul_two (by omega) (by omega)
theorem m_iload (K : Cl p e below G) (h : At T m c below) (hx : p.tables.exec = Jvm.exec) (hby : c.code = bs) {k : Nat} {v : Int32} (hd : decode bs pc = .ok (.iload k, 2)) (hl : Ls[k]? = some (.val (.int v))) (hq : pc + 2 = q) (hr : G (T.setTop (mkF m q Ls (.int v :: S)))) : G (T.setTop (mkF m pc Ls S)) := by subst hq; exact K _ _ (fun t k => Jvm.Free.XS.iload h hx rfl (hb hby hd) hl k) hr
theorem m_iloadN (K : Cl p e below G) (h : At T m c below) (hx : p.tables.exec = Jvm.exec) (hby : c.code = bs) {k : Fin 4} {v : Int32} (hd : decode bs pc = .ok (.iload_n k, 1)) (hl : Ls[k.val]? = some (.val (.int v))) (hq : pc + 1 = q) (hr : G (T.setTop (mkF m q Ls (.int v :: S)))) : G (T.setTop (mkF m pc Ls S)) := by subst hq; exact K _ _ (fun t k => Jvm.Free.XS.iloadN h hx rfl (hb hby hd) hl k) hr
theorem m_istore (K : Cl p e below G) (h : At T m c below) (hx : p.tables.exec = Jvm.exec) (hby : c.code = bs) {k : Nat} {v : Int32} (l' : Array Slot) (hd : decode bs pc = .ok (.istore k, 2)) (hl : storeLocals Ls k (.int v) = some l') (hq : pc + 2 = q) (hr : G (T.setTop (mkF m q l' S))) : G (T.setTop (mkF m pc Ls (.int v :: S))) := by subst hq; exact K _ _ (fun t k => Jvm.Free.XS.istore h hx rfl (hb hby hd) rfl hl k) hr
theorem m_istoreN (K : Cl p e below G) (h : At T m c below) (hx : p.tables.exec = Jvm.exec) (hby : c.code = bs) {k : Fin 4} {v : Int32} (l' : Array Slot) (hd : decode bs pc = .ok (.istore_n k, 1)) (hl : storeLocals Ls k.val (.int v) = some l') (hq : pc + 1 = q) (hr : G (T.setTop (mkF m q l' S))) : G (T.setTop (mkF m pc Ls (.int v :: S))) := by subst hq; exact K _ _ (fun t k => Jvm.Free.XS.istoreN h hx rfl (hb hby hd) rfl hl k) hr
theorem m_lload (K : Cl p e below G) (h : At T m c below) (hx : p.tables.exec = Jvm.exec) (hby : c.code = bs) {k : Nat} {v : Int64} (hd : decode bs pc = .ok (.lload k, 2)) (hl : Ls[k]? = some (.val (.long v))) (hq : pc + 2 = q) (hr : G (T.setTop (mkF m q Ls (.long v :: S)))) : G (T.setTop (mkF m pc Ls S)) := by subst hq; exact K _ _ (fun t k => Jvm.Free.XS.lload h hx rfl (hb hby hd) hl k) hr
theorem m_lloadN (K : Cl p e below G) (h : At T m c below) (hx : p.tables.exec = Jvm.exec) (hby : c.code = bs) {k : Fin 4} {v : Int64} (hd : decode bs pc = .ok (.lload_n k, 1)) (hl : Ls[k.val]? = some (.val (.long v))) (hq : pc + 1 = q) (hr : G (T.setTop (mkF m q Ls (.long v :: S)))) : G (T.setTop (mkF m pc Ls S)) := by subst hq; exact K _ _ (fun t k => Jvm.Free.XS.lloadN h hx rfl (hb hby hd) hl k) hr
theorem m_lstore (K : Cl p e below G) (h : At T m c below) (hx : p.tables.exec = Jvm.exec) (hby : c.code = bs) {k : Nat} {v : Int64} (l' : Array Slot) (hd : decode bs pc = .ok (.lstore k, 2)) (hl : storeLocals Ls k (.long v) = some l') (hq : pc + 2 = q) (hr : G (T.setTop (mkF m q l' S))) : G (T.setTop (mkF m pc Ls (.long v :: S))) := by subst hq; exact K _ _ (fun t k => Jvm.Free.XS.lstore h hx rfl (hb hby hd) rfl hl k) hr
theorem m_lstoreN (K : Cl p e below G) (h : At T m c below) (hx : p.tables.exec = Jvm.exec) (hby : c.code = bs) {k : Fin 4} {v : Int64} (l' : Array Slot) (hd : decode bs pc = .ok (.lstore_n k, 1)) (hl : storeLocals Ls k.val (.long v) = some l') (hq : pc + 1 = q) (hr : G (T.setTop (mkF m q l' S))) : G (T.setTop (mkF m pc Ls (.long v :: S))) := by subst hq; exact K _ _ (fun t k => Jvm.Free.XS.lstoreN h hx rfl (hb hby hd) rfl hl k) hr
theorem m_dload (K : Cl p e below G) (h : At T m c below) (hx : p.tables.exec = Jvm.exec) (hby : c.code = bs) {k : Nat} {v : UInt64} (hd : decode bs pc = .ok (.dload k, 2)) (hl : Ls[k]? = some (.val (.double v))) (hq : pc + 2 = q) (hr : G (T.setTop (mkF m q Ls (.double v :: S)))) : G (T.setTop (mkF m pc Ls S)) := by subst hq; exact K _ _ (fun t k => Jvm.Free.XS.dload h hx rfl (hb hby hd) hl k) hr
theorem m_dloadN (K : Cl p e below G) (h : At T m c below) (hx : p.tables.exec = Jvm.exec) (hby : c.code = bs) {k : Fin 4} {v : UInt64} (hd : decode bs pc = .ok (.dload_n k, 1)) (hl : Ls[k.val]? = some (.val (.double v))) (hq : pc + 1 = q) (hr : G (T.setTop (mkF m q Ls (.double v :: S)))) : G (T.setTop (mkF m pc Ls S)) := by subst hq; exact K _ _ (fun t k => Jvm.Free.XS.dloadN h hx rfl (hb hby hd) hl k) hr
theorem m_dstore (K : Cl p e below G) (h : At T m c below) (hx : p.tables.exec = Jvm.exec) (hby : c.code = bs) {k : Nat} {v : UInt64} (l' : Array Slot) (hd : decode bs pc = .ok (.dstore k, 2)) (hl : storeLocals Ls k (.double v) = some l') (hq : pc + 2 = q) (hr : G (T.setTop (mkF m q l' S))) : G (T.setTop (mkF m pc Ls (.double v :: S))) := by subst hq; exact K _ _ (fun t k => Jvm.Free.XS.dstore h hx rfl (hb hby hd) rfl hl k) hr
theorem m_dstoreN (K : Cl p e below G) (h : At T m c below) (hx : p.tables.exec = Jvm.exec) (hby : c.code = bs) {k : Fin 4} {v : UInt64} (l' : Array Slot) (hd : decode bs pc = .ok (.dstore_n k, 1)) (hl : storeLocals Ls k.val (.double v) = some l') (hq : pc + 1 = q) (hr : G (T.setTop (mkF m q l' S))) : G (T.setTop (mkF m pc Ls (.double v :: S))) := by subst hq; exact K _ _ (fun t k => Jvm.Free.XS.dstoreN h hx rfl (hb hby hd) rfl hl k) hr
theorem m_aload (K : Cl p e below G) (h : At T m c below) (hx : p.tables.exec = Jvm.exec) (hby : c.code = bs) {k : Nat} {v : Value} (hd : decode bs pc = .ok (.aload k, 2)) (hl : Ls[k]? = some (.val v)) (hv : v.isRef = true) (hq : pc + 2 = q) (hr : G (T.setTop (mkF m q Ls (v :: S)))) : G (T.setTop (mkF m pc Ls S)) := by subst hq; exact K _ _ (fun t k => Jvm.Free.XS.aload h hx rfl (hb hby hd) hl hv k) hr
theorem m_aloadN (K : Cl p e below G) (h : At T m c below) (hx : p.tables.exec = Jvm.exec) (hby : c.code = bs) {k : Fin 4} {v : Value} (hd : decode bs pc = .ok (.aload_n k, 1)) (hl : Ls[k.val]? = some (.val v)) (hv : v.isRef = true) (hq : pc + 1 = q) (hr : G (T.setTop (mkF m q Ls (v :: S)))) : G (T.setTop (mkF m pc Ls S)) := by subst hq; exact K _ _ (fun t k => Jvm.Free.XS.aloadN h hx rfl (hb hby hd) hl hv k) hr
theorem m_astore (K : Cl p e below G) (h : At T m c below) (hx : p.tables.exec = Jvm.exec) (hby : c.code = bs) {k : Nat} {v : Value} (l' : Array Slot) (hd : decode bs pc = .ok (.astore k, 2)) (hv : v.isRef = true) (hl : storeLocals Ls k v = some l') (hq : pc + 2 = q) (hr : G (T.setTop (mkF m q l' S))) : G (T.setTop (mkF m pc Ls (v :: S))) := by subst hq; exact K _ _ (fun t k => Jvm.Free.XS.astore h hx rfl (hb hby hd) rfl hv hl k) hr
theorem m_astoreN (K : Cl p e below G) (h : At T m c below) (hx : p.tables.exec = Jvm.exec) (hby : c.code = bs) {k : Fin 4} {v : Value} (l' : Array Slot) (hd : decode bs pc = .ok (.astore_n k, 1)) (hv : v.isRef = true) (hl : storeLocals Ls k.val v = some l') (hq : pc + 1 = q) (hr : G (T.setTop (mkF m q l' S))) : G (T.setTop (mkF m pc Ls (v :: S))) := by subst hq; exact K _ _ (fun t k => Jvm.Free.XS.astoreN h hx rfl (hb hby hd) rfl hv hl k) hr
theorem m_iconst (K : Cl p e below G) (h : At T m c below) (hx : p.tables.exec = Jvm.exec) (hby : c.code = bs) {i : Int} (z : Int32) (hd : decode bs pc = .ok (.iconst i, 1)) (hz : Int32.ofInt i = z) (hq : pc + 1 = q) (hr : G (T.setTop (mkF m q Ls (.int z :: S)))) : G (T.setTop (mkF m pc Ls S)) := by subst hq; subst hz; exact K _ _ (fun t k => Jvm.Free.XS.iconst h hx rfl (hb hby hd) k) hr
theorem m_bipush (K : Cl p e below G) (h : At T m c below) (hx : p.tables.exec = Jvm.exec) (hby : c.code = bs) {i : Int} (z : Int32) (hd : decode bs pc = .ok (.bipush i, 2)) (hz : (Int8.ofInt i).toInt32 = z) (hq : pc + 2 = q) (hr : G (T.setTop (mkF m q Ls (.int z :: S)))) : G (T.setTop (mkF m pc Ls S)) := by subst hq; subst hz; exact K _ _ (fun t k => Jvm.Free.XS.bipush h hx rfl (hb hby hd) k) hr
theorem m_sipush (K : Cl p e below G) (h : At T m c below) (hx : p.tables.exec = Jvm.exec) (hby : c.code = bs) {i : Int} (z : Int32) (hd : decode bs pc = .ok (.sipush i, 3)) (hz : (Int16.ofInt i).toInt32 = z) (hq : pc + 3 = q) (hr : G (T.setTop (mkF m q Ls (.int z :: S)))) : G (T.setTop (mkF m pc Ls S)) := by subst hq; subst hz; exact K _ _ (fun t k => Jvm.Free.XS.sipush h hx rfl (hb hby hd) k) hr
theorem m_lconst (K : Cl p e below G) (h : At T m c below) (hx : p.tables.exec = Jvm.exec) (hby : c.code = bs) {k : Fin 2} (z : Int64) (hd : decode bs pc = .ok (.lconst k, 1)) (hz : Int64.ofNat k.val = z) (hq : pc + 1 = q) (hr : G (T.setTop (mkF m q Ls (.long z :: S)))) : G (T.setTop (mkF m pc Ls S)) := by subst hq; subst hz; exact K _ _ (fun t k => Jvm.Free.XS.lconst h hx rfl (hb hby hd) k) hr
theorem m_null (K : Cl p e below G) (h : At T m c below) (hx : p.tables.exec = Jvm.exec) (hby : c.code = bs)  (hd : decode bs pc = .ok (.aconst_null, 1)) (hq : pc + 1 = q) (hr : G (T.setTop (mkF m q Ls (.null :: S)))) : G (T.setTop (mkF m pc Ls S)) := by subst hq; exact K _ _ (fun t k => Jvm.Free.XS.aconstNull h hx rfl (hb hby hd) k) hr
theorem m_iadd (K : Cl p e below G) (h : At T m c below) (hx : p.tables.exec = Jvm.exec) (hby : c.code = bs) {x y : Int32} (z : Int32) (hd : decode bs pc = .ok (.iadd, 1)) (hz : x + y = z) (hq : pc + 1 = q) (hr : G (T.setTop (mkF m q Ls (.int z :: S)))) : G (T.setTop (mkF m pc Ls (.int y :: .int x :: S))) := by subst hq; subst hz; exact K _ _ (fun t k => Jvm.Free.XS.iadd h hx rfl (hb hby hd) rfl k) hr
theorem m_isub (K : Cl p e below G) (h : At T m c below) (hx : p.tables.exec = Jvm.exec) (hby : c.code = bs) {x y : Int32} (z : Int32) (hd : decode bs pc = .ok (.isub, 1)) (hz : x - y = z) (hq : pc + 1 = q) (hr : G (T.setTop (mkF m q Ls (.int z :: S)))) : G (T.setTop (mkF m pc Ls (.int y :: .int x :: S))) := by subst hq; subst hz; exact K _ _ (fun t k => Jvm.Free.XS.isub h hx rfl (hb hby hd) rfl k) hr
theorem m_imul (K : Cl p e below G) (h : At T m c below) (hx : p.tables.exec = Jvm.exec) (hby : c.code = bs) {x y : Int32} (z : Int32) (hd : decode bs pc = .ok (.imul, 1)) (hz : x * y = z) (hq : pc + 1 = q) (hr : G (T.setTop (mkF m q Ls (.int z :: S)))) : G (T.setTop (mkF m pc Ls (.int y :: .int x :: S))) := by subst hq; subst hz; exact K _ _ (fun t k => Jvm.Free.XS.imul h hx rfl (hb hby hd) rfl k) hr
theorem m_iand (K : Cl p e below G) (h : At T m c below) (hx : p.tables.exec = Jvm.exec) (hby : c.code = bs) {x y : Int32} (z : Int32) (hd : decode bs pc = .ok (.iand, 1)) (hz : x &&& y = z) (hq : pc + 1 = q) (hr : G (T.setTop (mkF m q Ls (.int z :: S)))) : G (T.setTop (mkF m pc Ls (.int y :: .int x :: S))) := by subst hq; subst hz; exact K _ _ (fun t k => Jvm.Free.XS.iand h hx rfl (hb hby hd) rfl k) hr
theorem m_ior (K : Cl p e below G) (h : At T m c below) (hx : p.tables.exec = Jvm.exec) (hby : c.code = bs) {x y : Int32} (z : Int32) (hd : decode bs pc = .ok (.ior, 1)) (hz : x ||| y = z) (hq : pc + 1 = q) (hr : G (T.setTop (mkF m q Ls (.int z :: S)))) : G (T.setTop (mkF m pc Ls (.int y :: .int x :: S))) := by subst hq; subst hz; exact K _ _ (fun t k => Jvm.Free.XS.ior h hx rfl (hb hby hd) rfl k) hr
theorem m_ixor (K : Cl p e below G) (h : At T m c below) (hx : p.tables.exec = Jvm.exec) (hby : c.code = bs) {x y : Int32} (z : Int32) (hd : decode bs pc = .ok (.ixor, 1)) (hz : x ^^^ y = z) (hq : pc + 1 = q) (hr : G (T.setTop (mkF m q Ls (.int z :: S)))) : G (T.setTop (mkF m pc Ls (.int y :: .int x :: S))) := by subst hq; subst hz; exact K _ _ (fun t k => Jvm.Free.XS.ixor h hx rfl (hb hby hd) rfl k) hr
theorem m_idiv (K : Cl p e below G) (h : At T m c below) (hx : p.tables.exec = Jvm.exec) (hby : c.code = bs) {x y : Int32} (z : Int32) (hd : decode bs pc = .ok (.idiv, 1)) (hy : y ≠ 0) (hz : x / y = z) (hq : pc + 1 = q) (hr : G (T.setTop (mkF m q Ls (.int z :: S)))) : G (T.setTop (mkF m pc Ls (.int y :: .int x :: S))) := by subst hq; subst hz; exact K _ _ (fun t k => Jvm.Free.XS.idiv h hx rfl (hb hby hd) rfl hy k) hr
theorem m_ladd (K : Cl p e below G) (h : At T m c below) (hx : p.tables.exec = Jvm.exec) (hby : c.code = bs) {x y : Int64} (z : Int64) (hd : decode bs pc = .ok (.ladd, 1)) (hz : x + y = z) (hq : pc + 1 = q) (hr : G (T.setTop (mkF m q Ls (.long z :: S)))) : G (T.setTop (mkF m pc Ls (.long y :: .long x :: S))) := by subst hq; subst hz; exact K _ _ (fun t k => Jvm.Free.XS.ladd h hx rfl (hb hby hd) rfl k) hr
theorem m_lsub (K : Cl p e below G) (h : At T m c below) (hx : p.tables.exec = Jvm.exec) (hby : c.code = bs) {x y : Int64} (z : Int64) (hd : decode bs pc = .ok (.lsub, 1)) (hz : x - y = z) (hq : pc + 1 = q) (hr : G (T.setTop (mkF m q Ls (.long z :: S)))) : G (T.setTop (mkF m pc Ls (.long y :: .long x :: S))) := by subst hq; subst hz; exact K _ _ (fun t k => Jvm.Free.XS.lsub h hx rfl (hb hby hd) rfl k) hr
theorem m_lmul (K : Cl p e below G) (h : At T m c below) (hx : p.tables.exec = Jvm.exec) (hby : c.code = bs) {x y : Int64} (z : Int64) (hd : decode bs pc = .ok (.lmul, 1)) (hz : x * y = z) (hq : pc + 1 = q) (hr : G (T.setTop (mkF m q Ls (.long z :: S)))) : G (T.setTop (mkF m pc Ls (.long y :: .long x :: S))) := by subst hq; subst hz; exact K _ _ (fun t k => Jvm.Free.XS.lmul h hx rfl (hb hby hd) rfl k) hr
theorem m_land (K : Cl p e below G) (h : At T m c below) (hx : p.tables.exec = Jvm.exec) (hby : c.code = bs) {x y : Int64} (z : Int64) (hd : decode bs pc = .ok (.land, 1)) (hz : x &&& y = z) (hq : pc + 1 = q) (hr : G (T.setTop (mkF m q Ls (.long z :: S)))) : G (T.setTop (mkF m pc Ls (.long y :: .long x :: S))) := by subst hq; subst hz; exact K _ _ (fun t k => Jvm.Free.XS.land h hx rfl (hb hby hd) rfl k) hr
theorem m_lor (K : Cl p e below G) (h : At T m c below) (hx : p.tables.exec = Jvm.exec) (hby : c.code = bs) {x y : Int64} (z : Int64) (hd : decode bs pc = .ok (.lor, 1)) (hz : x ||| y = z) (hq : pc + 1 = q) (hr : G (T.setTop (mkF m q Ls (.long z :: S)))) : G (T.setTop (mkF m pc Ls (.long y :: .long x :: S))) := by subst hq; subst hz; exact K _ _ (fun t k => Jvm.Free.XS.lor h hx rfl (hb hby hd) rfl k) hr
theorem m_lxor (K : Cl p e below G) (h : At T m c below) (hx : p.tables.exec = Jvm.exec) (hby : c.code = bs) {x y : Int64} (z : Int64) (hd : decode bs pc = .ok (.lxor, 1)) (hz : x ^^^ y = z) (hq : pc + 1 = q) (hr : G (T.setTop (mkF m q Ls (.long z :: S)))) : G (T.setTop (mkF m pc Ls (.long y :: .long x :: S))) := by subst hq; subst hz; exact K _ _ (fun t k => Jvm.Free.XS.lxor h hx rfl (hb hby hd) rfl k) hr
theorem m_ldiv (K : Cl p e below G) (h : At T m c below) (hx : p.tables.exec = Jvm.exec) (hby : c.code = bs) {x y : Int64} (z : Int64) (hd : decode bs pc = .ok (.ldiv, 1)) (hy : y ≠ 0) (hz : x / y = z) (hq : pc + 1 = q) (hr : G (T.setTop (mkF m q Ls (.long z :: S)))) : G (T.setTop (mkF m pc Ls (.long y :: .long x :: S))) := by subst hq; subst hz; exact K _ _ (fun t k => Jvm.Free.XS.ldiv h hx rfl (hb hby hd) rfl hy k) hr
theorem m_irem (K : Cl p e below G) (h : At T m c below) (hx : p.tables.exec = Jvm.exec) (hby : c.code = bs) {x y : Int32} (z : Int32) (hd : decode bs pc = .ok (.irem, 1)) (hy : y ≠ 0) (hz : x % y = z) (hq : pc + 1 = q) (hr : G (T.setTop (mkF m q Ls (.int z :: S)))) : G (T.setTop (mkF m pc Ls (.int y :: .int x :: S))) := by subst hq; subst hz; rw [← own_irem] at hr; exact K _ _ (fun t k => Jvm.Free.XS.irem h hx rfl (hb hby hd) rfl hy k) hr
theorem m_lrem (K : Cl p e below G) (h : At T m c below) (hx : p.tables.exec = Jvm.exec) (hby : c.code = bs) {x y : Int64} (z : Int64) (hd : decode bs pc = .ok (.lrem, 1)) (hy : y ≠ 0) (hz : x - (x / y) * y = z) (hq : pc + 1 = q) (hr : G (T.setTop (mkF m q Ls (.long z :: S)))) : G (T.setTop (mkF m pc Ls (.long y :: .long x :: S))) := by subst hq; subst hz; exact K _ _ (fun t k => Jvm.Free.XS.lrem h hx rfl (hb hby hd) rfl hy k) hr
theorem m_ishl (K : Cl p e below G) (h : At T m c below) (hx : p.tables.exec = Jvm.exec) (hby : c.code = bs) {x : Int32} {y : Int32} (z : Int32) (hd : decode bs pc = .ok (.ishl, 1)) (hz : x <<< (y &&& 31) = z) (hq : pc + 1 = q) (hr : G (T.setTop (mkF m q Ls (.int z :: S)))) : G (T.setTop (mkF m pc Ls (.int y :: .int x :: S))) := by subst hq; subst hz; exact K _ _ (fun t k => Jvm.Free.XS.ishl h hx rfl (hb hby hd) rfl k) hr
theorem m_ishr (K : Cl p e below G) (h : At T m c below) (hx : p.tables.exec = Jvm.exec) (hby : c.code = bs) {x : Int32} {y : Int32} (z : Int32) (hd : decode bs pc = .ok (.ishr, 1)) (hz : x >>> (y &&& 31) = z) (hq : pc + 1 = q) (hr : G (T.setTop (mkF m q Ls (.int z :: S)))) : G (T.setTop (mkF m pc Ls (.int y :: .int x :: S))) := by subst hq; subst hz; exact K _ _ (fun t k => Jvm.Free.XS.ishr h hx rfl (hb hby hd) rfl k) hr
theorem m_iushr (K : Cl p e below G) (h : At T m c below) (hx : p.tables.exec = Jvm.exec) (hby : c.code = bs) {x : Int32} {y : Int32} (z : Int32) (hd : decode bs pc = .ok (.iushr, 1)) (hz : (x.toUInt32 >>> (y &&& 31).toUInt32).toInt32 = z) (hq : pc + 1 = q) (hr : G (T.setTop (mkF m q Ls (.int z :: S)))) : G (T.setTop (mkF m pc Ls (.int y :: .int x :: S))) := by subst hq; subst hz; exact K _ _ (fun t k => Jvm.Free.XS.iushr h hx rfl (hb hby hd) rfl k) hr
theorem m_lshl (K : Cl p e below G) (h : At T m c below) (hx : p.tables.exec = Jvm.exec) (hby : c.code = bs) {x : Int64} {y : Int32} (z : Int64) (hd : decode bs pc = .ok (.lshl, 1)) (hz : x <<< (y &&& 0x3f).toInt64 = z) (hq : pc + 1 = q) (hr : G (T.setTop (mkF m q Ls (.long z :: S)))) : G (T.setTop (mkF m pc Ls (.int y :: .long x :: S))) := by subst hq; subst hz; exact K _ _ (fun t k => Jvm.Free.XS.lshl h hx rfl (hb hby hd) rfl k) hr
theorem m_lshr (K : Cl p e below G) (h : At T m c below) (hx : p.tables.exec = Jvm.exec) (hby : c.code = bs) {x : Int64} {y : Int32} (z : Int64) (hd : decode bs pc = .ok (.lshr, 1)) (hz : x >>> (y &&& 0x3f).toInt64 = z) (hq : pc + 1 = q) (hr : G (T.setTop (mkF m q Ls (.long z :: S)))) : G (T.setTop (mkF m pc Ls (.int y :: .long x :: S))) := by subst hq; subst hz; exact K _ _ (fun t k => Jvm.Free.XS.lshr h hx rfl (hb hby hd) rfl k) hr
theorem m_lushr (K : Cl p e below G) (h : At T m c below) (hx : p.tables.exec = Jvm.exec) (hby : c.code = bs) {x : Int64} {y : Int32} (z : Int64) (hd : decode bs pc = .ok (.lushr, 1)) (hz : (x.toUInt64 >>> (y &&& 0x3f).toInt64.toUInt64).toInt64 = z) (hq : pc + 1 = q) (hr : G (T.setTop (mkF m q Ls (.long z :: S)))) : G (T.setTop (mkF m pc Ls (.int y :: .long x :: S))) := by subst hq; subst hz; exact K _ _ (fun t k => Jvm.Free.XS.lushr h hx rfl (hb hby hd) rfl k) hr
theorem m_ineg (K : Cl p e below G) (h : At T m c below) (hx : p.tables.exec = Jvm.exec) (hby : c.code = bs) {x : Int32} (z : Int32) (hd : decode bs pc = .ok (.ineg, 1)) (hz : -x = z) (hq : pc + 1 = q) (hr : G (T.setTop (mkF m q Ls (.int z :: S)))) : G (T.setTop (mkF m pc Ls (.int x :: S))) := by subst hq; subst hz; exact K _ _ (fun t k => Jvm.Free.XS.ineg h hx rfl (hb hby hd) rfl k) hr
theorem m_lneg (K : Cl p e below G) (h : At T m c below) (hx : p.tables.exec = Jvm.exec) (hby : c.code = bs) {x : Int64} (z : Int64) (hd : decode bs pc = .ok (.lneg, 1)) (hz : -x = z) (hq : pc + 1 = q) (hr : G (T.setTop (mkF m q Ls (.long z :: S)))) : G (T.setTop (mkF m pc Ls (.long x :: S))) := by subst hq; subst hz; exact K _ _ (fun t k => Jvm.Free.XS.lneg h hx rfl (hb hby hd) rfl k) hr
theorem m_i2l (K : Cl p e below G) (h : At T m c below) (hx : p.tables.exec = Jvm.exec) (hby : c.code = bs) {x : Int32} (z : Int64) (hd : decode bs pc = .ok (.i2l, 1)) (hz : x.toInt64 = z) (hq : pc + 1 = q) (hr : G (T.setTop (mkF m q Ls (.long z :: S)))) : G (T.setTop (mkF m pc Ls (.int x :: S))) := by subst hq; subst hz; exact K _ _ (fun t k => Jvm.Free.XS.i2l h hx rfl (hb hby hd) rfl k) hr
theorem m_l2i (K : Cl p e below G) (h : At T m c below) (hx : p.tables.exec = Jvm.exec) (hby : c.code = bs) {x : Int64} (z : Int32) (hd : decode bs pc = .ok (.l2i, 1)) (hz : x.toInt32 = z) (hq : pc + 1 = q) (hr : G (T.setTop (mkF m q Ls (.int z :: S)))) : G (T.setTop (mkF m pc Ls (.long x :: S))) := by subst hq; subst hz; exact K _ _ (fun t k => Jvm.Free.XS.l2i h hx rfl (hb hby hd) rfl k) hr
theorem m_i2b (K : Cl p e below G) (h : At T m c below) (hx : p.tables.exec = Jvm.exec) (hby : c.code = bs) {x : Int32} (z : Int32) (hd : decode bs pc = .ok (.i2b, 1)) (hz : x.toInt8.toInt32 = z) (hq : pc + 1 = q) (hr : G (T.setTop (mkF m q Ls (.int z :: S)))) : G (T.setTop (mkF m pc Ls (.int x :: S))) := by subst hq; subst hz; exact K _ _ (fun t k => Jvm.Free.XS.i2b h hx rfl (hb hby hd) rfl k) hr
theorem m_i2s (K : Cl p e below G) (h : At T m c below) (hx : p.tables.exec = Jvm.exec) (hby : c.code = bs) {x : Int32} (z : Int32) (hd : decode bs pc = .ok (.i2s, 1)) (hz : x.toInt16.toInt32 = z) (hq : pc + 1 = q) (hr : G (T.setTop (mkF m q Ls (.int z :: S)))) : G (T.setTop (mkF m pc Ls (.int x :: S))) := by subst hq; subst hz; exact K _ _ (fun t k => Jvm.Free.XS.i2s h hx rfl (hb hby hd) rfl k) hr
theorem m_i2c (K : Cl p e below G) (h : At T m c below) (hx : p.tables.exec = Jvm.exec) (hby : c.code = bs) {x : Int32} (z : Int32) (hd : decode bs pc = .ok (.i2c, 1)) (hz : x.toUInt32.toUInt16.toUInt32.toInt32 = z) (hq : pc + 1 = q) (hr : G (T.setTop (mkF m q Ls (.int z :: S)))) : G (T.setTop (mkF m pc Ls (.int x :: S))) := by subst hq; subst hz; exact K _ _ (fun t k => Jvm.Free.XS.i2c h hx rfl (hb hby hd) rfl k) hr
theorem m_lcmp (K : Cl p e below G) (h : At T m c below) (hx : p.tables.exec = Jvm.exec) (hby : c.code = bs) {x y : Int64} (z : Int32) (hd : decode bs pc = .ok (.lcmp, 1)) (hz : lcmpW x y = z) (hq : pc + 1 = q) (hr : G (T.setTop (mkF m q Ls (.int z :: S)))) : G (T.setTop (mkF m pc Ls (.long y :: .long x :: S))) := by subst hq; subst hz; exact K _ _ (fun t k => Jvm.Free.XS.lcmp h hx rfl (hb hby hd) rfl k) hr
theorem m_iinc (K : Cl p e below G) (h : At T m c below) (hx : p.tables.exec = Jvm.exec) (hby : c.code = bs) {k : Nat} {i : Int} {x : Int32} (l' : Array Slot) (hd : decode bs pc = .ok (.iinc k i, 3)) (hl : Ls[k]? = some (.val (.int x))) (hl' : storeLocals Ls k (.int (x + Int32.ofInt i)) = some l') (hq : pc + 3 = q) (hr : G (T.setTop (mkF m q l' S))) : G (T.setTop (mkF m pc Ls S)) := by subst hq; exact K _ _ (fun t k => Jvm.Free.XS.iinc h hx rfl (hb hby hd) hl hl' k) hr
theorem m_dup (K : Cl p e below G) (h : At T m c below) (hx : p.tables.exec = Jvm.exec) (hby : c.code = bs) {v : Value} (hd : decode bs pc = .ok (.dup, 1)) (hv : v.category = 1) (hq : pc + 1 = q) (hr : G (T.setTop (mkF m q Ls (v :: v :: S)))) : G (T.setTop (mkF m pc Ls (v :: S))) := by subst hq; exact K _ _ (fun t k => Jvm.Free.XS.dup h hx rfl (hb hby hd) rfl hv k) hr
theorem m_dupX1 (K : Cl p e below G) (h : At T m c below) (hx : p.tables.exec = Jvm.exec) (hby : c.code = bs) {v w : Value} (hd : decode bs pc = .ok (.dup_x1, 1)) (hv : v.category = 1) (hw : w.category = 1) (hq : pc + 1 = q) (hr : G (T.setTop (mkF m q Ls (v :: w :: v :: S)))) : G (T.setTop (mkF m pc Ls (v :: w :: S))) := by subst hq; exact K _ _ (fun t k => Jvm.Free.XS.dupX1 h hx rfl (hb hby hd) rfl hv hw k) hr
theorem m_dup2 (K : Cl p e below G) (h : At T m c below) (hx : p.tables.exec = Jvm.exec) (hby : c.code = bs) {v w : Value} (hd : decode bs pc = .ok (.dup2, 1)) (hv : v.category = 1) (hw : w.category = 1) (hq : pc + 1 = q) (hr : G (T.setTop (mkF m q Ls (v :: w :: v :: w :: S)))) : G (T.setTop (mkF m pc Ls (v :: w :: S))) := by subst hq; refine K _ _ (fun t k => ?_) hr; cases v <;> cases w <;> simp [Value.category] at hv hw <;> (jvm_step h [h.top, hx, hb hby hd, Value.category]; exact k)
theorem m_dup2L (K : Cl p e below G) (h : At T m c below) (hx : p.tables.exec = Jvm.exec) (hby : c.code = bs) {v : Int64} (hd : decode bs pc = .ok (.dup2, 1)) (hq : pc + 1 = q) (hr : G (T.setTop (mkF m q Ls (.long v :: .long v :: S)))) : G (T.setTop (mkF m pc Ls (.long v :: S))) := by subst hq; refine K _ _ (fun t k => ?_) hr; jvm_step h [h.top, hx, hb hby hd, Value.category]; exact k
theorem m_pop (K : Cl p e below G) (h : At T m c below) (hx : p.tables.exec = Jvm.exec) (hby : c.code = bs) {v : Value} (hd : decode bs pc = .ok (.pop, 1)) (hv : v.category = 1) (hq : pc + 1 = q) (hr : G (T.setTop (mkF m q Ls S))) : G (T.setTop (mkF m pc Ls (v :: S))) := by subst hq; exact K _ _ (fun t k => Jvm.Free.XS.pop h hx rfl (hb hby hd) rfl hv k) hr
theorem m_l2d (K : Cl p e below G) (h : At T m c below) (hx : p.tables.exec = Jvm.exec) (hby : c.code = bs) {x : Int64} (v : UInt64) (hd : decode bs pc = .ok (.l2d, 1)) (hv : FP.l2d x = v) (hq : pc + 1 = q) (hr : G (T.setTop (mkF m q Ls (.double v :: S)))) : G (T.setTop (mkF m pc Ls (.long x :: S))) := by subst hq; exact K _ _ (fun t k => Jvm.Free.XS.l2dS h hx rfl (hb hby hd) rfl hv k) hr
theorem m_i2d (K : Cl p e below G) (h : At T m c below) (hx : p.tables.exec = Jvm.exec) (hby : c.code = bs) {x : Int32} (v : UInt64) (hd : decode bs pc = .ok (.i2d, 1)) (hv : FP.i2d x = v) (hq : pc + 1 = q) (hr : G (T.setTop (mkF m q Ls (.double v :: S)))) : G (T.setTop (mkF m pc Ls (.int x :: S))) := by subst hq; exact K _ _ (fun t k => Jvm.Free.XS.i2dS h hx rfl (hb hby hd) rfl hv k) hr
theorem m_dconst0 (K : Cl p e below G) (h : At T m c below) (hx : p.tables.exec = Jvm.exec) (hby : c.code = bs) (v : UInt64) (hd : decode bs pc = .ok (.dconst 0, 1)) (hv : FP.dconst0 = v) (hq : pc + 1 = q) (hr : G (T.setTop (mkF m q Ls (.double v :: S)))) : G (T.setTop (mkF m pc Ls S)) := by subst hq; exact K _ _ (fun t k => Jvm.Free.XS.dconst0 h hx rfl (hb hby hd) hv k) hr
theorem m_dneg (K : Cl p e below G) (h : At T m c below) (hx : p.tables.exec = Jvm.exec) (hby : c.code = bs) {x : UInt64} (v : UInt64) (hd : decode bs pc = .ok (.dneg, 1)) (hv : FP.dneg x = v) (hq : pc + 1 = q) (hr : G (T.setTop (mkF m q Ls (.double v :: S)))) : G (T.setTop (mkF m pc Ls (.double x :: S))) := by subst hq; exact K _ _ (fun t k => Jvm.Free.XS.dnegS h hx rfl (hb hby hd) rfl hv k) hr
theorem m_dcmp (K : Cl p e below G) (h : At T m c below) (hx : p.tables.exec = Jvm.exec) (hby : c.code = bs) {o : CmpOp} {x y : UInt64} (v : Int32) (hd : decode bs pc = .ok (.dcmp o, 1)) (hv : cmpValue (FP.dcmp x y) o = v) (hq : pc + 1 = q) (hr : G (T.setTop (mkF m q Ls (.int v :: S)))) : G (T.setTop (mkF m pc Ls (.double y :: .double x :: S))) := by subst hq; exact K _ _ (fun t k => Jvm.Free.XS.dcmpS h hx rfl (hb hby hd) rfl hv k) hr
theorem m_dadd (K : Cl p e below G) (h : At T m c below) (hx : p.tables.exec = Jvm.exec) (hby : c.code = bs) {x y : UInt64} (v : UInt64) (hd : decode bs pc = .ok (.dadd, 1)) (hn : Jvm.Free.Fl.NoNaN64 (FP.dadd x y)) (hv : FP.dadd x y = v) (hq : pc + 1 = q) (hr : G (T.setTop (mkF m q Ls (.double v :: S)))) : G (T.setTop (mkF m pc Ls (.double y :: .double x :: S))) := by subst hq; exact K _ _ (fun t k => Jvm.Free.XS.daddS h hx rfl (hb hby hd) rfl hn hv k) hr
theorem m_dsub (K : Cl p e below G) (h : At T m c below) (hx : p.tables.exec = Jvm.exec) (hby : c.code = bs) {x y : UInt64} (v : UInt64) (hd : decode bs pc = .ok (.dsub, 1)) (hn : Jvm.Free.Fl.NoNaN64 (FP.dsub x y)) (hv : FP.dsub x y = v) (hq : pc + 1 = q) (hr : G (T.setTop (mkF m q Ls (.double v :: S)))) : G (T.setTop (mkF m pc Ls (.double y :: .double x :: S))) := by subst hq; exact K _ _ (fun t k => Jvm.Free.XS.dsubS h hx rfl (hb hby hd) rfl hn hv k) hr
theorem m_dmul (K : Cl p e below G) (h : At T m c below) (hx : p.tables.exec = Jvm.exec) (hby : c.code = bs) {x y : UInt64} (v : UInt64) (hd : decode bs pc = .ok (.dmul, 1)) (hn : Jvm.Free.Fl.NoNaN64 (FP.dmul x y)) (hv : FP.dmul x y = v) (hq : pc + 1 = q) (hr : G (T.setTop (mkF m q Ls (.double v :: S)))) : G (T.setTop (mkF m pc Ls (.double y :: .double x :: S))) := by subst hq; exact K _ _ (fun t k => Jvm.Free.XS.dmulS h hx rfl (hb hby hd) rfl hn hv k) hr
theorem m_ddiv (K : Cl p e below G) (h : At T m c below) (hx : p.tables.exec = Jvm.exec) (hby : c.code = bs) {x y : UInt64} (v : UInt64) (hd : decode bs pc = .ok (.ddiv, 1)) (hn : Jvm.Free.Fl.NoNaN64 (FP.ddiv x y)) (hv : FP.ddiv x y = v) (hq : pc + 1 = q) (hr : G (T.setTop (mkF m q Ls (.double v :: S)))) : G (T.setTop (mkF m pc Ls (.double y :: .double x :: S))) := by subst hq; exact K _ _ (fun t k => Jvm.Free.XS.ddivS h hx rfl (hb hby hd) rfl hn hv k) hr
theorem m_goto (K : Cl p e below G) (h : At T m c below) (hx : p.tables.exec = Jvm.exec) (hby : c.code = bs)  {o : Int} (hd : decode bs pc = .ok (.goto o, 3)) (ho : 0 ≤ (pc : Int) + o) (hq : ((pc : Int) + o).toNat = q) (hr : G (T.setTop (mkF m q Ls S))) : G (T.setTop (mkF m pc Ls S)) := by exact K _ _ (fun t k => Jvm.Free.XS.goto h hx rfl rfl (hb hby hd) ho hq k) hr
theorem m_ifY (K : Cl p e below G) (h : At T m c below) (hx : p.tables.exec = Jvm.exec) (hby : c.code = bs) {cd : ClassFile.Cond} {x : Int32} {o : Int} (hd : decode bs pc = .ok (.ifCond cd o, 3)) (hc : ifCond.holds cd x = true) (ho : 0 ≤ (pc : Int) + o) (hq : ((pc : Int) + o).toNat = q) (hr : G (T.setTop (mkF m q Ls S))) : G (T.setTop (mkF m pc Ls (.int x :: S))) := by exact K _ _ (fun t k => Jvm.Free.XS.ifYes h hx rfl rfl (hb hby hd) rfl hc ho hq k) hr
theorem m_icmpY (K : Cl p e below G) (h : At T m c below) (hx : p.tables.exec = Jvm.exec) (hby : c.code = bs) {cd : ClassFile.Cond} {x y : Int32} {o : Int} (hd : decode bs pc = .ok (.if_icmp cd o, 3)) (hc : if_icmp.holds cd x y = true) (ho : 0 ≤ (pc : Int) + o) (hq : ((pc : Int) + o).toNat = q) (hr : G (T.setTop (mkF m q Ls S))) : G (T.setTop (mkF m pc Ls (.int y :: .int x :: S))) := by exact K _ _ (fun t k => Jvm.Free.XS.icmpYes h hx rfl rfl (hb hby hd) rfl hc ho hq k) hr
theorem m_nullY (K : Cl p e below G) (h : At T m c below) (hx : p.tables.exec = Jvm.exec) (hby : c.code = bs)  {o : Int} (hd : decode bs pc = .ok (.ifnull o, 3)) (ho : 0 ≤ (pc : Int) + o) (hq : ((pc : Int) + o).toNat = q) (hr : G (T.setTop (mkF m q Ls S))) : G (T.setTop (mkF m pc Ls (.null :: S))) := by exact K _ _ (fun t k => Jvm.Free.XS.ifnullYes h hx rfl rfl (hb hby hd) rfl ho hq k) hr
theorem m_nnY (K : Cl p e below G) (h : At T m c below) (hx : p.tables.exec = Jvm.exec) (hby : c.code = bs) {a : Addr} {o : Int} (hd : decode bs pc = .ok (.ifnonnull o, 3)) (ho : 0 ≤ (pc : Int) + o) (hq : ((pc : Int) + o).toNat = q) (hr : G (T.setTop (mkF m q Ls S))) : G (T.setTop (mkF m pc Ls (.ref a :: S))) := by exact K _ _ (fun t k => Jvm.Free.XS.ifnonnullYes h hx rfl rfl (hb hby hd) rfl ho hq k) hr
theorem m_ifN (K : Cl p e below G) (h : At T m c below) (hx : p.tables.exec = Jvm.exec) (hby : c.code = bs) {cd : ClassFile.Cond} {o : Int} {x : Int32} (hd : decode bs pc = .ok (.ifCond cd o, 3)) (hc : ifCond.holds cd x = false) (hq : pc + 3 = q) (hr : G (T.setTop (mkF m q Ls S))) : G (T.setTop (mkF m pc Ls (.int x :: S))) := by subst hq; exact K _ _ (fun t k => Jvm.Free.XS.ifNo h hx rfl (hb hby hd) rfl hc k) hr
theorem m_icmpN (K : Cl p e below G) (h : At T m c below) (hx : p.tables.exec = Jvm.exec) (hby : c.code = bs) {cd : ClassFile.Cond} {o : Int} {x y : Int32} (hd : decode bs pc = .ok (.if_icmp cd o, 3)) (hc : if_icmp.holds cd x y = false) (hq : pc + 3 = q) (hr : G (T.setTop (mkF m q Ls S))) : G (T.setTop (mkF m pc Ls (.int y :: .int x :: S))) := by subst hq; exact K _ _ (fun t k => Jvm.Free.XS.icmpNo h hx rfl (hb hby hd) rfl hc k) hr
theorem m_nullN (K : Cl p e below G) (h : At T m c below) (hx : p.tables.exec = Jvm.exec) (hby : c.code = bs) {o : Int} {a : Addr} (hd : decode bs pc = .ok (.ifnull o, 3)) (hq : pc + 3 = q) (hr : G (T.setTop (mkF m q Ls S))) : G (T.setTop (mkF m pc Ls (.ref a :: S))) := by subst hq; exact K _ _ (fun t k => Jvm.Free.XS.ifnullNo h hx rfl (hb hby hd) rfl k) hr
theorem m_nnN (K : Cl p e below G) (h : At T m c below) (hx : p.tables.exec = Jvm.exec) (hby : c.code = bs) {o : Int} (hd : decode bs pc = .ok (.ifnonnull o, 3)) (hq : pc + 3 = q) (hr : G (T.setTop (mkF m q Ls S))) : G (T.setTop (mkF m pc Ls (.null :: S))) := by subst hq; exact K _ _ (fun t k => Jvm.Free.XS.ifnonnullNo h hx rfl (hb hby hd) rfl k) hr
theorem m_acmp (K : Cl p e below G) (X : Stand p l e R s m args below meth c T locs cells slots) (hx : p.tables.exec = Jvm.exec) (hby : c.code = bs) {cd : ACond} {x y : Value} {o : Int} (same : Bool) (hd : decode bs pc = .ok (.if_acmp cd o, 3)) (h1 : x.isRef = true) (h2 : y.isRef = true) (hs : decide (x = y) = same) (ho : 0 ≤ (pc : Int) + o) (hq : q = if acV cd same = true then ((pc : Int) + o).toNat else pc + 3) (hr : G (T.setTop (mkF m q Ls S))) : G (T.setTop (mkF m pc Ls (y :: x :: S))) := K _ _ (fun t k => Jvm.RoadKit.acmp (g := mkF m pc Ls (y :: x :: S)) X hx rfl h1 h2 rfl (hb hby hd) rfl hs ho hq k) hr
theorem m_ldc (K : Cl p e below G) (X : Stand p l e R s m args below meth c T locs cells slots) (hx : p.tables.exec = Jvm.exec) (hby : c.code = bs) (hZ : Z.Warmed39 s.vm) {own : String} {i : Nat} {v : Int32} (hown : s.vm.findClass own = some m.cls) (w : (Jvm.Cond.constant own i v).before a0 Z = true) (hd : decode bs pc = .ok (.ldc i, 2)) (hq : pc + 2 = q) (hr : G (T.setTop (mkF m q Ls (.int v :: S)))) : G (T.setTop (mkF m pc Ls S)) := by subst hq; exact K _ _ (fun t k => X.ldcInt hx hown (mvT hZ w) (g := mkF m pc Ls S) rfl (hb hby hd) _ k) hr
theorem m_ldcw (K : Cl p e below G) (X : Stand p l e R s m args below meth c T locs cells slots) (hx : p.tables.exec = Jvm.exec) (hby : c.code = bs) (hZ : Z.Warmed39 s.vm) {own : String} {i : Nat} {v : Int32} (hown : s.vm.findClass own = some m.cls) (w : (Jvm.Cond.constant own i v).before a0 Z = true) (hd : decode bs pc = .ok (.ldc_w i, 3)) (hq : pc + 3 = q) (hr : G (T.setTop (mkF m q Ls (.int v :: S)))) : G (T.setTop (mkF m pc Ls S)) := by subst hq; exact K _ _ (fun t k => X.ldcwInt hx hown (mvT hZ w) (g := mkF m pc Ls S) rfl (hb hby hd) _ k) hr
theorem m_ldc2 (K : Cl p e below G) (X : Stand p l e R s m args below meth c T locs cells slots) (hx : p.tables.exec = Jvm.exec) (hby : c.code = bs) (hZ : Z.Warmed39 s.vm) {own : String} {i : Nat} {v : Int64} (hown : s.vm.findClass own = some m.cls) (w : (Jvm.Cond.constantLong own i v).before a0 Z = true) (hd : decode bs pc = .ok (.ldc2_w i, 3)) (hq : pc + 3 = q) (hr : G (T.setTop (mkF m q Ls (.long v :: S)))) : G (T.setTop (mkF m pc Ls S)) := by subst hq; exact K _ _ (fun t k => X.ldc2Long hx hown (mvT hZ w) (g := mkF m pc Ls S) rfl (hb hby hd) _ k) hr
theorem m_ldc2D (K : Cl p e below G) (X : Stand p l e R s m args below meth c T locs cells slots) (hx : p.tables.exec = Jvm.exec) (hby : c.code = bs) (hZ : Z.Warmed39 s.vm) {own : String} {i : Nat} {v : UInt64} (hown : s.vm.findClass own = some m.cls) (w : (Jvm.Cond.constantDouble own i v).before a0 Z = true) (hd : decode bs pc = .ok (.ldc2_w i, 3)) (hq : pc + 3 = q) (hr : G (T.setTop (mkF m q Ls (.double v :: S)))) : G (T.setTop (mkF m pc Ls S)) := by subst hq; exact K _ _ (fun t k => X.ldc2DoubleC hx hown (mvT hZ w) (g := mkF m pc Ls S) rfl (hb hby hd) _ k) hr
theorem k_getF (K : Cl p e below G) (X : Stand p l e R s m args below meth c T locs cells slots) (hx : p.tables.exec = Jvm.exec) (hby : c.code = bs) (hZ : Z.Warmed39 s.vm) {own R0 O n d host : String} {i : Nat} (hown : s.vm.findClass own = some m.cls) (w : (Jvm.Cond.fieldLink own i R0 n d).before a0 Z = true ∨ (Jvm.Cond.fieldLinkNest own i R0 n d host).before a0 Z = true) (via : Via Z R0 O n d) (eT : T.heap = h) {a : Addr} {v : Value} (F : Fld Z h a O n d v) (hd : decode bs pc = .ok (.getfield i, 3)) (hq : pc + 3 = q) (k : ∀ T', Stand p l e R s m args below meth c T' locs cells slots → T'.heap = h → G (T'.setTop (mkF m q Ls (v :: S)))) : G (T.setTop (mkF m pc Ls (.ref a :: S))) := by
  subst hq
  obtain ⟨T', X', e', st⟩ := getF X hx hZ hown w via eT F (g := mkF m pc Ls (.ref a :: S)) rfl rfl (hb hby hd)
  exact K _ _ st (k T' X' e')
theorem k_getS (K : Cl p e below G) (X : Stand p l e R s m args below meth c T locs cells slots) (hx : p.tables.exec = Jvm.exec) (hby : c.code = bs) (hZ : Z.Warmed39 s.vm) {own R0 O n d host : String} {i : Nat} (hown : s.vm.findClass own = some m.cls) (w : (Jvm.Cond.fieldLink own i R0 n d).before a0 Z = true ∨ (Jvm.Cond.fieldLinkNest own i R0 n d host).before a0 Z = true) (via : Via Z R0 O n d) (eT : T.heap = h) {v : Value} (F : Sta Z h O n d v) (hd : decode bs pc = .ok (.getstatic i, 3)) (hq : pc + 3 = q) (k : ∀ T', Stand p l e R s m args below meth c T' locs cells slots → T'.heap = h → G (T'.setTop (mkF m q Ls (v :: S)))) : G (T.setTop (mkF m pc Ls S)) := by
  subst hq
  obtain ⟨T', X', e', st⟩ := getS2 X hx hZ hown w via eT F (g := mkF m pc Ls S) rfl (hb hby hd)
  exact K _ _ st (k T' X' e')
theorem k_putF (K : Cl p e below G) (X : Stand p l e R s m args below meth c T locs cells slots) (hx : p.tables.exec = Jvm.exec) (hby : c.code = bs) (hZ : Z.Warmed39 s.vm) {own R0 O n d host C : String} {i kk : Nat} {ty : FieldType} (hown : s.vm.findClass own = some m.cls) (w : (Jvm.Cond.fieldLink own i R0 n d).before a0 Z = true ∨ (Jvm.Cond.fieldLinkNest own i R0 n d host).before a0 Z = true) (via : Via Z R0 O n d) (eT : T.heap = h) {a : Addr} {v old : Value} (F : Fld Z h a O n d old) (E : Exa Z h a C) (L : (Jvm.Cond.lays C O n d).before a0 Z = true ∨ ((Jvm.Cond.laysFinal C O n d).before a0 Z = true ∧ own = O ∧ meth.name = "<init>")) (wi : (Jvm.Cond.instantiable C kk).before a0 Z = true) (hty : parseFieldDescriptor d = some ty) (hn : narrow ty v = v) (hf : fits ty v = true) (hd : decode bs pc = .ok (.putfield i, 3)) (hq : pc + 3 = q)
    (k : ∀ T' h', Stand p l e R s m args below meth c T' (locs ++ [⟨a, Jvm.RoadKit.slotOf Z O n d⟩]) cells slots → T'.heap = h' → Wr h h' a (Jvm.RoadKit.slotOf Z O n d) v → G (T'.setTop (mkF m q Ls S))) : G (T.setTop (mkF m pc Ls (v :: .ref a :: S))) := by
  subst hq
  obtain ⟨T', h', X', e', W', st⟩ := putF X hx hZ hown w via eT F E L wi hty hn hf (g := mkF m pc Ls (v :: .ref a :: S)) rfl rfl (hb hby hd)
  exact K _ _ st (k T' h' X' e' W')
theorem k_newO (K : Cl p e below G) (X : Stand p l e R s m args below meth c T locs cells slots) (hx : p.tables.exec = Jvm.exec) (hby : c.code = bs) (hZ : Z.Warmed39 s.vm) {own C : String} {i n : Nat} (hown : s.vm.findClass own = some m.cls) (w : (Jvm.Cond.classLink own i C).before a0 Z = true) (wi : (Jvm.Cond.instantiable C n).before a0 Z = true) (wz : (Jvm.Cond.initialized C).before a0 Z = true) (eT : T.heap = h) (hd : decode bs pc = .ok (.new i, 3)) (hq : pc + 3 = q) (hc : cells + 1 ≤ R.cells) (hl : slots + n ≤ R.slots)
    (k : ∀ T' h' b, Stand p l e R s m args below meth c T' locs (cells + 1) (slots + n) → T'.heap = h' → Ext h h' → b = h.size → Exa Z h' b C → (∀ {O nm d : String} {ty : FieldType}, Laid Z a0 C O nm d → parseFieldDescriptor d = some ty → Fld Z h' b O nm d (defaultValue ty)) → G (T'.setTop (mkF m q Ls (.ref b :: S)))) : G (T.setTop (mkF m pc Ls S)) := by
  subst hq
  obtain ⟨T', h', X', e', E', A', D', -, st⟩ := newO X hx hZ hown w wi wz eT (g := mkF m pc Ls S) rfl (hb hby hd) hc hl
  exact K _ _ st (k T' h' _ X' e' E' rfl A' D')
theorem k_initO (K : Cl p e below G) (X : Stand p l e R s m args below meth c T locs cells slots) (hx : p.tables.exec = Jvm.exec) (hby : c.code = bs) (hZ : Z.Warmed39 s.vm) {own : String} {i : Nat} (hown : s.vm.findClass own = some m.cls) (w1 : (Jvm.Cond.methodLink own i ⟨"java/lang/Object", "<init>", "()V"⟩).before a0 Z = true) (w2 : (Jvm.Cond.instanceMethod ⟨"java/lang/Object", "<init>", "()V"⟩).before a0 Z = true) (w3 : (Jvm.Cond.code ⟨"java/lang/Object", "<init>", "()V"⟩ object_method_1_code 1 none).before a0 Z = true) (eT : T.heap = h) {a : Addr} (hd : decode bs pc = .ok (.invokespecial i, 3)) (hsz : Ls.size = c.maxLocals) (hq : pc + 3 = q) (hf : 1 ≤ R.frames) (hlo : (S.map fun v => v.category).sum + 12 ≤ R.locals)
    (k : ∀ T', Stand p l e R s m args below meth c T' locs cells slots → T'.heap = h → G (T'.setTop (mkF m q Ls S))) : G (T.setTop (mkF m pc Ls (.ref a :: S))) := by
  subst hq
  obtain ⟨T', X', e', st⟩ := initO X hx hZ hown w1 w2 w3 eT (g := mkF m pc Ls (.ref a :: S)) rfl hsz rfl (hb hby hd) hf (W := (S.map fun v => v.category).sum) (by show 2 * 0 + _ ≤ _; exact Nat.le_of_eq (Nat.zero_add _)) hlo
  exact K _ _ st (k T' X' e')
theorem k_cast (K : Cl p e below G) (X : Stand p l e R s m args below meth c T locs cells slots) (hx : p.tables.exec = Jvm.exec) (hby : c.code = bs) (hZ : Z.Warmed39 s.vm) {own C : String} {i : Nat} (hown : s.vm.findClass own = some m.cls) (w : (Jvm.Cond.classLink own i C).before a0 Z = true) (eT : T.heap = h) {a : Addr} (I : Ins Z h a C true) (hd : decode bs pc = .ok (.checkcast i, 3)) (hq : pc + 3 = q) (k : ∀ T', Stand p l e R s m args below meth c T' locs cells slots → T'.heap = h → G (T'.setTop (mkF m q Ls (.ref a :: S)))) : G (T.setTop (mkF m pc Ls (.ref a :: S))) := by
  subst hq
  obtain ⟨T', X', e', st⟩ := castY X hx hZ hown w eT I (g := mkF m pc Ls (.ref a :: S)) rfl rfl (hb hby hd)
  exact K _ _ st (k T' X' e')
def Con (l : Launch) (Z : State) (y : MethodName) (bytes : ByteArray) (maxL : Nat) (ret : Option FieldType) (rm : Room) (ws : List Jvm.Cond) (as' : Array Value) (h : Heap) (Q : PQ) : Prop :=
  MetFree l y (head1 (Jvm.Cond.code y bytes maxL ret :: ws) rm) (fun a U => a = as' ∧ Z.Warmed39 U.vm ∧ U.heap = h) (fun _ _ _ _ _ => True) (fun _ U o U' => ∃ v L, o = .returned v ∧ Q v U'.heap L ∧ FrameEnd U o U' L rm.cells rm.slots)
theorem Con.of {y : MethodName} {bytes : ByteArray} {maxL : Nat} {ret : Option FieldType} {rm : Room} {ws : List Jvm.Cond} {as' : Array Value} {Q : PQ} (hpl : plainFor y = true) (Ls : Array Slot) (hef : ∀ m, entryFrame m as' maxL = mkF m 0 Ls [])
    (body : ∀ p e s m below meth c s₁, Cl p e below (Go p e below s rm.cells rm.slots Q) → p.tables.exec = Jvm.exec → c.code = bytes → c.maxLocals = maxL → s.vm.findClass y.cls = some m.cls → meth.name = y.name → meth.sig.returnType = ret → meth.locks = false → Z.Warmed39 s.vm → Stand p l e rm s m as' below meth c s₁ [] 0 0 → s₁.heap = h →
      Go p e below s rm.cells rm.slots Q (s₁.setTop (mkF m 0 Ls []))) : Con l Z y bytes maxL ret rm ws as' h Q := by
  refine MetFree.of_bodySF hpl hisR ?_
  intro p e s m args below meth c s₁ Bd hml0 hP hK
  obtain ⟨rfl, hZ, hh⟩ := hP
  have r := body p e s m below meth c s₁ Go.cl Bd.exec Bd.bytes hml0 (findClass_of_methodNamed Bd.named) (name_of_methodNamed Bd.named Bd.method).1 Bd.returns Bd.notSynchronized hZ (Stand.of_body Bd) (by rw [← hh, Bd.state]; rfl)
  rw [← hef m] at r
  exact r
theorem Con.back {y : MethodName} {bytes : ByteArray} {maxL : Nat} {ret : Option FieldType} {rm : Room} {as' : Array Value} {Q : PQ} {len W : Nat} (K : Con l Z y bytes maxL ret rm [] as' h Q)
    (hZ : Z.Warmed39 s.vm) (wc : (Jvm.Cond.code y bytes maxL ret).before a0 Z = true) (wz : (Jvm.Cond.initialized y.cls).before a0 Z = true) (hf : rm.frames + 1 ≤ R.frames) (hl : W + (maxL + 11) + rm.locals ≤ R.locals) :
    Back l R p e below s args y len W (fun A a => a = as' ∧ A.U.heap = h ∧ A.cells + rm.cells ≤ R.cells ∧ A.slots + rm.slots ≤ R.slots)
      (fun A _ v B => ∃ L, Q v B.U.heap L ∧ B.locs = A.locs ++ L ∧ B.cells = A.cells + rm.cells ∧ B.slots = A.slots + rm.slots) := backOf K hZ wc wz hf hl
theorem k_callS (K : Cl p e below G) (X : Stand p l e R s m args below meth c T locs cells slots) (hx : p.tables.exec = Jvm.exec) (hby : c.code = bs) (hZ : Z.Warmed39 s.vm) {own : String} {i : Nat} {y : MethodName} {bytes : ByteArray} {maxL : Nat} {ret : Option FieldType} {rm : Room} {Q : PQ} {as' : Array Value} {ps : List FieldType} {r : Option FieldType} (argsL rest : List Value) (hown : s.vm.findClass own = some m.cls) (w1 : (Jvm.Cond.methodLink own i y).before a0 Z = true) (w2 : (Jvm.Cond.static y).before a0 Z = true) (w3 : (Jvm.Cond.initialized y.cls).before a0 Z = true) (w4 : (Jvm.Cond.code y bytes maxL ret).before a0 Z = true)
    (C : Con l Z y bytes maxL ret rm [] as' h Q) (eT : T.heap = h) (has : argsL.toArray = as') (hs : S = argsL.reverse ++ rest) (hps : parseMethodDescriptor y.desc = some ⟨ps, r⟩) (hl : argsL.length = ps.length) (hd : decode bs pc = .ok (.invokestatic i, 3)) (hsz : Ls.size = c.maxLocals) (hq : pc + 3 = q) (hy : y.cls ≠ "java/lang/invoke/MethodHandle" ∧ y.cls ≠ "java/lang/invoke/VarHandle") (hf : rm.frames + 1 ≤ R.frames) (hlo : (rest.map fun v => v.category).sum + (maxL + 11) + rm.locals ≤ R.locals) (hc : cells + rm.cells ≤ R.cells) (hn : slots + rm.slots ≤ R.slots)
    (k : ∀ v T' L, Stand p l e R s m args below meth c T' (locs ++ L) (cells + rm.cells) (slots + rm.slots) → Q v T'.heap L → G (T'.setTop (mkF m q Ls (v.toList ++ rest)))) : G (T.setTop (mkF m pc Ls S)) := by
  subst has hs hq
  obtain ⟨v, _, ⟨T', L', k', n'⟩, -, X', ⟨Lc, hQ, l1, y1, z1⟩, st⟩ := Jvm.LawKit.callS X hx (y := y) hown (mvT hZ w1) (mvT hZ w2) (mvT hZ w3) (mvT hZ w4) hy (C.back (W := (rest.map fun v => v.category).sum) hZ w4 w3 hf hlo) (g := mkF m pc Ls (argsL.reverse ++ rest)) rfl hsz (argsL := argsL) (rest := rest) (lenOf hps hl) rfl (by show 2 * 0 + _ ≤ _; exact Nat.le_of_eq (Nat.zero_add _)) (hb hby hd) (fun _ _ => ⟨rfl, eT, hc, hn⟩)
  dsimp only at X' l1 y1 z1 st hQ
  subst l1 y1 z1
  exact K _ _ st (k v T' Lc X' hQ)
theorem k_callP (K : Cl p e below G) (X : Stand p l e R s m args below meth c T locs cells slots) (hx : p.tables.exec = Jvm.exec) (hby : c.code = bs) (hZ : Z.Warmed39 s.vm) {own : String} {i : Nat} {y : MethodName} {bytes : ByteArray} {maxL : Nat} {rm : Room} {Q : PQ} {as' : Array Value} {ps : List FieldType} {r : Option FieldType} (a : Addr) (argsL rest : List Value) (hown : s.vm.findClass own = some m.cls) (w1 : (Jvm.Cond.methodLink own i y).before a0 Z = true) (w2 : (Jvm.Cond.instanceMethod y).before a0 Z = true) (w3 : (Jvm.Cond.initialized y.cls).before a0 Z = true) (w4 : (Jvm.Cond.code y bytes maxL none).before a0 Z = true) (hy1 : y.name = "<init>")
    (C : Con l Z y bytes maxL none rm [] as' h Q) (eT : T.heap = h) (has : (.ref a :: argsL).toArray = as') (hs : S = argsL.reverse ++ .ref a :: rest) (hps : parseMethodDescriptor y.desc = some ⟨ps, r⟩) (hl : argsL.length = ps.length) (hd : decode bs pc = .ok (.invokespecial i, 3)) (hsz : Ls.size = c.maxLocals) (hq : pc + 3 = q) (hy : y.cls ≠ "java/lang/invoke/MethodHandle" ∧ y.cls ≠ "java/lang/invoke/VarHandle") (hf : rm.frames + 1 ≤ R.frames) (hlo : (rest.map fun v => v.category).sum + (maxL + 11) + rm.locals ≤ R.locals) (hc : cells + rm.cells ≤ R.cells) (hn : slots + rm.slots ≤ R.slots)
    (k : ∀ v T' L, Stand p l e R s m args below meth c T' (locs ++ L) (cells + rm.cells) (slots + rm.slots) → Q v T'.heap L → G (T'.setTop (mkF m q Ls (v.toList ++ rest)))) : G (T.setTop (mkF m pc Ls S)) := by
  subst has hs hq
  obtain ⟨v, _, ⟨T', L', k', n'⟩, -, X', ⟨Lc, hQ, l1, y1, z1⟩, st⟩ := X.specialBack hx (y := y) hy1 hown (mvT hZ w1) (mvT hZ w2) (mvT hZ w4) hy (C.back (W := (rest.map fun v => v.category).sum) hZ w4 w3 hf hlo) (g := mkF m pc Ls (argsL.reverse ++ .ref a :: rest)) rfl hsz (Steps.refl _) (a := a) (argsL := argsL) (rest := rest) (lenOf hps hl) rfl (by show 2 * 0 + _ ≤ _; exact Nat.le_of_eq (Nat.zero_add _)) (hb hby hd) (fun _ _ => ⟨rfl, eT, hc, hn⟩)
  dsimp only at X' l1 y1 z1 st hQ
  subst l1 y1 z1
  exact K _ _ (fun t k => st.trans k) (k v T' Lc X' hQ)
theorem k_callV (K : Cl p e below G) (X : Stand p l e R s m args below meth c T locs cells slots) (hx : p.tables.exec = Jvm.exec) (hby : c.code = bs) (hZ : Z.Warmed39 s.vm) {own : String} {i : Nat} {y : MethodName} {bytes : ByteArray} {maxL : Nat} {ret : Option FieldType} {rm : Room} {Q : PQ} {as' : Array Value} {ps : List FieldType} {r : Option FieldType} {z : MethodName} {C0 : String} (a : Addr) (argsL rest : List Value) (hown : s.vm.findClass own = some m.cls) (w1 : (Jvm.Cond.methodLink own i y).before a0 Z = true) (w2 : (Jvm.Cond.declares y).before a0 Z = true) (hnf : NotFace s y) (w5 : (Jvm.Cond.selects C0 y z).before a0 Z = true) (w6 : (Jvm.Cond.instanceMethod z).before a0 Z = true) (w3 : (Jvm.Cond.initialized z.cls).before a0 Z = true) (w4 : (Jvm.Cond.code z bytes maxL ret).before a0 Z = true)
    (C : Con l Z z bytes maxL ret rm [] as' h Q) (eT : T.heap = h) (E : Exa Z h a C0) (has : (.ref a :: argsL).toArray = as') (hs : S = argsL.reverse ++ .ref a :: rest) (hps : parseMethodDescriptor y.desc = some ⟨ps, r⟩) (hl : argsL.length = ps.length) (hd : decode bs pc = .ok (.invokevirtual i, 3)) (hsz : Ls.size = c.maxLocals) (hq : pc + 3 = q) (hy : y.cls ≠ "java/lang/invoke/MethodHandle" ∧ y.cls ≠ "java/lang/invoke/VarHandle") (hf : rm.frames + 1 ≤ R.frames) (hlo : (rest.map fun v => v.category).sum + (maxL + 11) + rm.locals ≤ R.locals) (hc : cells + rm.cells ≤ R.cells) (hn : slots + rm.slots ≤ R.slots)
    (k : ∀ v T' L, Stand p l e R s m args below meth c T' (locs ++ L) (cells + rm.cells) (slots + rm.slots) → Q v T'.heap L → G (T'.setTop (mkF m q Ls (v.toList ++ rest)))) : G (T.setTop (mkF m pc Ls S)) := by
  subst has hs hq
  obtain ⟨cq, kq, qa, qb, qc⟩ := isOf hZ eT E
  obtain ⟨v, _, ⟨T', L', k', n'⟩, -, X', ⟨Lc, hQ, l1, y1, z1⟩, st⟩ := X.virtualBack hx (y := y) (z := z) hown (mvT hZ w1) (mvT hZ w2) hnf (mvT hZ w5) (mvT hZ w6) hy (C.back (W := (rest.map fun v => v.category).sum) hZ w4 w3 hf hlo) qa qc (g := mkF m pc Ls (argsL.reverse ++ .ref a :: rest)) rfl hsz (Steps.refl _) (argsL := argsL) (rest := rest) (lenOf hps hl) rfl (by show 2 * 0 + _ ≤ _; exact Nat.le_of_eq (Nat.zero_add _)) (hb hby hd) (fun _ _ => ⟨rfl, eT, hc, hn⟩)
  dsimp only at X' l1 y1 z1 st hQ
  subst l1 y1 z1
  exact K _ _ (fun t k => st.trans k) (k v T' Lc X' hQ)
theorem k_callR (K : Cl p e below G) (X : Stand p l e R s m args below meth c T locs cells slots) (hx : p.tables.exec = Jvm.exec) (hby : c.code = bs) (hZ : Z.Warmed39 s.vm) {own : String} {i : Nat} {y : MethodName} {bytes : ByteArray} {maxL : Nat} {ret : Option FieldType} {rm : Room} {Q : PQ} {as' : Array Value} {ps : List FieldType} {r : Option FieldType} (a : Addr) (argsL rest : List Value) (hown : s.vm.findClass own = some m.cls) (w1 : (Jvm.Cond.methodLink own i y).before a0 Z = true) (w2 : (Jvm.Cond.instanceMethod y).before a0 Z = true) (w5 : (Jvm.Cond.selects y.cls y y).before a0 Z = true) (w6 : (Jvm.Cond.privateMethod y).before a0 Z = true) (w3 : (Jvm.Cond.initialized y.cls).before a0 Z = true) (w4 : (Jvm.Cond.code y bytes maxL ret).before a0 Z = true)
    (C : Con l Z y bytes maxL ret rm [] as' h Q) (eT : T.heap = h) {C0 : String} (E : Exa Z h a C0) (has : (.ref a :: argsL).toArray = as') (hs : S = argsL.reverse ++ .ref a :: rest) (hps : parseMethodDescriptor y.desc = some ⟨ps, r⟩) (hl : argsL.length = ps.length) (hd : decode bs pc = .ok (.invokevirtual i, 3)) (hsz : Ls.size = c.maxLocals) (hq : pc + 3 = q) (hy : y.cls ≠ "java/lang/invoke/MethodHandle" ∧ y.cls ≠ "java/lang/invoke/VarHandle") (hf : rm.frames + 1 ≤ R.frames) (hlo : (rest.map fun v => v.category).sum + (maxL + 11) + rm.locals ≤ R.locals) (hc : cells + rm.cells ≤ R.cells) (hn : slots + rm.slots ≤ R.slots)
    (k : ∀ v T' L, Stand p l e R s m args below meth c T' (locs ++ L) (cells + rm.cells) (slots + rm.slots) → Q v T'.heap L → G (T'.setTop (mkF m q Ls (v.toList ++ rest)))) : G (T.setTop (mkF m pc Ls S)) := by
  subst has hs hq
  obtain ⟨cq, qa, qc⟩ := E.cell
  obtain ⟨v, _, ⟨T', L', k', n'⟩, -, X', ⟨Lc, hQ, l1, y1, z1⟩, st⟩ := X.privateBack hx (y := y) hown (mvT hZ w1) (mvT hZ w2) (mvT hZ w5) (Cond.privateMethod_at (args := #[]) (mvP hZ w6)) (mvT hZ w4) hy (C.back (W := (rest.map fun v => v.category).sum) hZ w4 w3 hf hlo) (g := mkF m pc Ls (argsL.reverse ++ .ref a :: rest)) rfl hsz (Steps.refl _) (a := a) (by rw [eT]; exact qa) qc (argsL := argsL) (rest := rest) (lenOf hps hl) rfl (by show 2 * 0 + _ ≤ _; exact Nat.le_of_eq (Nat.zero_add _)) (hb hby hd) (fun _ _ => ⟨rfl, eT, hc, hn⟩)
  dsimp only at X' l1 y1 z1 st hQ
  subst l1 y1 z1
  exact K _ _ (fun t k => st.trans k) (k v T' Lc X' hQ)
theorem k_callSU (K : Cl p e below G) (X : Stand p l e R s m args below meth c T locs cells slots) (hx : p.tables.exec = Jvm.exec) (hby : c.code = bs) (hZ : Z.Warmed39 s.vm) {own : String} {i : Nat} {y : MethodName} {bytes : ByteArray} {maxL : Nat} {ret : Option FieldType} {rm : Room} {Q : PQ} {as' : Array Value} {ps : List FieldType} {r : Option FieldType} {ow : String} (argsL rest : List Value) (hown : s.vm.findClass own = some m.cls) (w1 : (Jvm.Cond.methodLink own i y).before a0 Z = true) (w5 : (Jvm.Cond.sameMethod y.cls ow y.name y.desc).before a0 Z = true) (w2 : (Jvm.Cond.static ⟨ow, y.name, y.desc⟩).before a0 Z = true) (w3 : (Jvm.Cond.initialized ow).before a0 Z = true) (w4 : (Jvm.Cond.code ⟨ow, y.name, y.desc⟩ bytes maxL ret).before a0 Z = true)
    (C : Con l Z ⟨ow, y.name, y.desc⟩ bytes maxL ret rm [] as' h Q) (eT : T.heap = h) (has : argsL.toArray = as') (hs : S = argsL.reverse ++ rest) (hps : parseMethodDescriptor y.desc = some ⟨ps, r⟩) (hl : argsL.length = ps.length) (hd : decode bs pc = .ok (.invokestatic i, 3)) (hsz : Ls.size = c.maxLocals) (hq : pc + 3 = q) (hy : ow ≠ "java/lang/invoke/MethodHandle" ∧ ow ≠ "java/lang/invoke/VarHandle") (hf : rm.frames + 1 ≤ R.frames) (hlo : (rest.map fun v => v.category).sum + (maxL + 11) + rm.locals ≤ R.locals) (hc : cells + rm.cells ≤ R.cells) (hn : slots + rm.slots ≤ R.slots)
    (k : ∀ v T' L, Stand p l e R s m args below meth c T' (locs ++ L) (cells + rm.cells) (slots + rm.slots) → Q v T'.heap L → G (T'.setTop (mkF m q Ls (v.toList ++ rest)))) : G (T.setTop (mkF m pc Ls S)) := by
  subst has hs hq
  have wc := mvT (args := args) hZ w4
  obtain ⟨mk, hnamed⟩ := Cond.code_named wc
  obtain ⟨methM, cM, hmethM, -, -, -, -, -, -, hsigM⟩ := Cond.code_spec hnamed wc
  obtain ⟨v, _, ⟨T', L', k', n'⟩, -, X', ⟨Lc, hQ, l1, y1, z1⟩, st⟩ := X.staticBackUp hx (x := y) (owner := ow) hown (mvT hZ w1) (mvT hZ w5) (mvT hZ w2) (mvT hZ w3) hnamed hmethM hsigM hy (C.back (W := (rest.map fun v => v.category).sum) hZ w4 w3 hf hlo) (g := mkF m pc Ls (argsL.reverse ++ rest)) rfl hsz (Steps.refl _) (argsL := argsL) (rest := rest) (lenOf hps hl) rfl (by show 2 * 0 + _ ≤ _; exact Nat.le_of_eq (Nat.zero_add _)) (hb hby hd) (fun _ _ => ⟨rfl, eT, hc, hn⟩)
  dsimp only at X' l1 y1 z1 st hQ
  subst l1 y1 z1
  exact K _ _ (fun t k => st.trans k) (k v T' Lc X' hQ)
theorem k_callI (K : Cl p e below G) (X : Stand p l e R s m args below meth c T locs cells slots) (hx : p.tables.exec = Jvm.exec) (hby : c.code = bs) (hZ : Z.Warmed39 s.vm) {own : String} {i : Nat} {y : MethodName} {bytes : ByteArray} {maxL : Nat} {ret : Option FieldType} {rm : Room} {Q : PQ} {as' : Array Value} {ps : List FieldType} {r : Option FieldType} {z : MethodName} {C0 : String} {cnt : Nat} (a : Addr) (argsL rest : List Value) (hown : s.vm.findClass own = some m.cls) (w1 : (Jvm.Cond.methodLink own i y).before a0 Z = true) (w2 : (Jvm.Cond.declares y).before a0 Z = true) (w7 : (Jvm.Cond.interfaceMethod y.cls y.cls y.name y.desc).before args s = true) (w5 : (Jvm.Cond.selects C0 y z).before a0 Z = true) (w6 : (Jvm.Cond.instanceMethod z).before a0 Z = true) (w8 : (Jvm.Cond.publicMethod z).before a0 Z = true) (w9 : (Jvm.Cond.unhidden C0 y.name y.desc).before a0 Z = true) (wa : (Jvm.Cond.castable C0 y.cls).before a0 Z = true) (w3 : (Jvm.Cond.initialized z.cls).before a0 Z = true) (w4 : (Jvm.Cond.code z bytes maxL ret).before a0 Z = true)
    (C : Con l Z z bytes maxL ret rm [] as' h Q) (eT : T.heap = h) (E : Exa Z h a C0) (has : (.ref a :: argsL).toArray = as') (hs : S = argsL.reverse ++ .ref a :: rest) (hps : parseMethodDescriptor y.desc = some ⟨ps, r⟩) (hl : argsL.length = ps.length) (hd : decode bs pc = .ok (.invokeinterface i cnt, 5)) (hsz : Ls.size = c.maxLocals) (hq : pc + 5 = q) (hy : y.cls ≠ "java/lang/invoke/MethodHandle" ∧ y.cls ≠ "java/lang/invoke/VarHandle") (hf : rm.frames + 1 ≤ R.frames) (hlo : (rest.map fun v => v.category).sum + (maxL + 11) + rm.locals ≤ R.locals) (hc : cells + rm.cells ≤ R.cells) (hn : slots + rm.slots ≤ R.slots)
    (k : ∀ v T' L, Stand p l e R s m args below meth c T' (locs ++ L) (cells + rm.cells) (slots + rm.slots) → Q v T'.heap L → G (T'.setTop (mkF m q Ls (v.toList ++ rest)))) : G (T.setTop (mkF m pc Ls S)) := by
  subst has hs hq
  obtain ⟨cq, kq, qa, qb, qc⟩ := isOf hZ eT E
  obtain ⟨v, _, ⟨T', L', k', n'⟩, -, X', ⟨Lc, hQ, l1, y1, z1⟩, st⟩ := X.interfaceBack hx (xi := y) (y := z) hown (mvT hZ w1) (mvT hZ w2) w7 (mvT hZ w5) (mvT hZ w6) (mvT hZ w8) (mvT hZ w9) (mvT hZ wa) hy (C.back (W := (rest.map fun v => v.category).sum) hZ w4 w3 hf hlo) qa qb qc (g := mkF m pc Ls (argsL.reverse ++ .ref a :: rest)) rfl hsz (Steps.refl _) (argsL := argsL) (rest := rest) (lenOf hps hl) rfl (by show 2 * 0 + _ ≤ _; exact Nat.le_of_eq (Nat.zero_add _)) (hb hby hd) (fun _ _ => ⟨rfl, eT, hc, hn⟩)
  dsimp only at X' l1 y1 z1 st hQ
  subst l1 y1 z1
  exact K _ _ (fun t k => st.trans k) (k v T' Lc X' hQ)
end OwnBase
section OwnArr
variable {p : Program} {l : Launch} {e : Env} {R : Room} {s : State} {m : MethodId} {args : Array Value} {below : List Frame} {meth : Method} {c : Code} {T : State} {locs : List Loc} {cells slots : Nat} {Z : State} {a0 : Array Value} {h h' : Heap} {a b : Addr} {ty : FieldType} {vs : List Value} {v : Value} {sl : Nat} {ws : List Addr} {bs : ByteArray} {pc q : Nat} {Ls : Array Slot} {S : List Value} {G : State → Prop}
def Av (Z : State) (h : Heap) (a : Addr) (ty : FieldType) (vs : List Value) : Prop := ∃ cl : Cell, Arr Z h a cl ty ∧ cl.slots = vs.toArray
theorem Av.lt (F : Av Z h a ty vs) : a < h.size := by obtain ⟨_, A, -⟩ := F; exact A.lt
theorem Av.ext (F : Av Z h a ty vs) (E : Ext h h') : Av Z h' a ty vs := by obtain ⟨c, A, r⟩ := F; exact ⟨c, A.ext E, r⟩
theorem Av.other (F : Av Z h b ty vs) (W : Wr h h' a sl v) (q : b ≠ a) : Av Z h' b ty vs := by obtain ⟨c, A, r⟩ := F; exact ⟨c, A.other W q, r⟩
theorem Av.keep (F : Av Z h a ty vs) (K : Keep h h' ws) (q : a ∉ ws) : Av Z h' a ty vs := by obtain ⟨c, A, r⟩ := F; exact ⟨c, ⟨K.2.1 a c A.1 q, A.2⟩, r⟩
theorem Av.new {k : ClassId} {z : Int32} {n : Nat} (A : Arr Z h a (newA k ty z) ty) (hn : z.toNatClampNeg = n) : Av Z h a ty (List.replicate n (defaultValue ty)) := ⟨_, A, by subst hn; simp [newA]⟩
theorem Av.set (F : Av Z h a ty vs) (W : Wr h h' a sl v) : Av Z h' a ty (vs.set sl v) := by
  obtain ⟨c, A, r⟩ := F
  exact ⟨_, A.same W, by simp [Cell.setSlot, r]⟩
theorem Av.ofArv {k : ClassId} {z : Int32} {d : Value} (A : Arv Z h a k ty z vs d) (hl : z.toNatClampNeg = vs.length) : Av Z h a ty vs := by
  obtain ⟨cl, A, -, S, -, H, -⟩ := A
  refine ⟨cl, A, Array.ext_getElem? fun i => ?_⟩
  by_cases q : i < vs.length
  · have := H i (by omega)
    rw [this]
    simp [q]
  · rw [Array.getElem?_eq_none (by omega), List.getElem?_toArray, List.getElem?_eq_none (by omega)]
theorem own_in {cl : Cell} {j : Int32} (r : cl.slots = vs.toArray) (h0 : ¬ j < 0) (h1 : j.toNatClampNeg < vs.length) : ¬ (j < 0 ∨ cl.slots.size ≤ j.toNatClampNeg) := by
  rintro (q | q)
  · exact h0 q
  · rw [r, List.size_toArray] at q; omega
theorem own_at {cl : Cell} {i : Nat} (r : cl.slots = vs.toArray) (hv : vs[i]? = some v) : cl.slots[i]? = some v := by rw [r]; simpa using hv
theorem own_ltl0 {i : Nat} (hv : vs[i]? = some v) : i < vs.length := (List.getElem?_eq_some_iff.mp hv).1
theorem k_ldI (K : Cl p e below G) (X : Stand p l e R s m args below meth c T locs cells slots) (hx : p.tables.exec = Jvm.exec) (hby : c.code = bs) (hZ : Z.Warmed39 s.vm) (eT : T.heap = h) (F : Av Z h a .int vs) {j : Int32} (h0 : ¬ j < 0) (hv : vs[j.toNatClampNeg]? = some v) (hd : decode bs pc = .ok (.iaload, 1)) (hq : pc + 1 = q) (hr : G (T.setTop (mkF m q Ls (v :: S)))) : G (T.setTop (mkF m pc Ls (.int j :: .ref a :: S))) := by
  subst hq
  obtain ⟨cl, A, r⟩ := F
  exact K _ _ (X.iaload hx (j := j) (v := v) (by rw [eT]; exact A.1) (State.isArrayOf_alike hZ.alike A.2.1) A.2.2 (own_in r h0 (own_ltl0 hv)) (own_at r hv) (g := mkF m pc Ls (.int j :: .ref a :: S)) rfl rfl (hb hby hd)) hr
theorem k_ldJ (K : Cl p e below G) (X : Stand p l e R s m args below meth c T locs cells slots) (hx : p.tables.exec = Jvm.exec) (hby : c.code = bs) (hZ : Z.Warmed39 s.vm) (eT : T.heap = h) (F : Av Z h a .long vs) {j : Int32} (h0 : ¬ j < 0) (hv : vs[j.toNatClampNeg]? = some v) (hd : decode bs pc = .ok (.laload, 1)) (hq : pc + 1 = q) (hr : G (T.setTop (mkF m q Ls (v :: S)))) : G (T.setTop (mkF m pc Ls (.int j :: .ref a :: S))) := by
  subst hq
  obtain ⟨cl, A, r⟩ := F
  exact K _ _ (X.laload hx (j := j) (v := v) (by rw [eT]; exact A.1) (State.isArrayOf_alike hZ.alike A.2.1) A.2.2 (own_in r h0 (own_ltl0 hv)) (own_at r hv) (g := mkF m pc Ls (.int j :: .ref a :: S)) rfl rfl (hb hby hd)) hr
theorem k_ldC (K : Cl p e below G) (X : Stand p l e R s m args below meth c T locs cells slots) (hx : p.tables.exec = Jvm.exec) (hby : c.code = bs) (hZ : Z.Warmed39 s.vm) (eT : T.heap = h) (F : Av Z h a .char vs) {j : Int32} (h0 : ¬ j < 0) (hv : vs[j.toNatClampNeg]? = some v) (hd : decode bs pc = .ok (.caload, 1)) (hq : pc + 1 = q) (hr : G (T.setTop (mkF m q Ls (v :: S)))) : G (T.setTop (mkF m pc Ls (.int j :: .ref a :: S))) := by
  subst hq
  obtain ⟨cl, A, r⟩ := F
  exact K _ _ (X.caload hx (j := j) (v := v) (by rw [eT]; exact A.1) (State.isArrayOf_alike hZ.alike A.2.1) A.2.2 (own_in r h0 (own_ltl0 hv)) (own_at r hv) (g := mkF m pc Ls (.int j :: .ref a :: S)) rfl rfl (hb hby hd)) hr
theorem k_ldB (K : Cl p e below G) (X : Stand p l e R s m args below meth c T locs cells slots) (hx : p.tables.exec = Jvm.exec) (hby : c.code = bs) (hZ : Z.Warmed39 s.vm) (eT : T.heap = h) (F : Av Z h a .byte vs) {j : Int32} (h0 : ¬ j < 0) (hv : vs[j.toNatClampNeg]? = some v) (hd : decode bs pc = .ok (.baload, 1)) (hq : pc + 1 = q) (hr : G (T.setTop (mkF m q Ls (v :: S)))) : G (T.setTop (mkF m pc Ls (.int j :: .ref a :: S))) := by
  subst hq
  obtain ⟨cl, A, r⟩ := F
  exact K _ _ (X.baloadBytes hx (j := j) (v := v) (by rw [eT]; exact A.1) (State.isArrayOf_alike hZ.alike A.2.1) A.2.2 (own_in r h0 (own_ltl0 hv)) (own_at r hv) (g := mkF m pc Ls (.int j :: .ref a :: S)) rfl rfl (hb hby hd)) hr
theorem k_ldZ (K : Cl p e below G) (X : Stand p l e R s m args below meth c T locs cells slots) (hx : p.tables.exec = Jvm.exec) (hby : c.code = bs) (hZ : Z.Warmed39 s.vm) (eT : T.heap = h) (F : Av Z h a .boolean vs) {j : Int32} (h0 : ¬ j < 0) (hv : vs[j.toNatClampNeg]? = some v) (hd : decode bs pc = .ok (.baload, 1)) (hq : pc + 1 = q) (hr : G (T.setTop (mkF m q Ls (v :: S)))) : G (T.setTop (mkF m pc Ls (.int j :: .ref a :: S))) := by
  subst hq
  obtain ⟨cl, A, r⟩ := F
  exact K _ _ (X.baloadBooleans hx (j := j) (v := v) (by rw [eT]; exact A.1) (State.isArrayOf_alike hZ.alike A.2.1) A.2.2 (own_in r h0 (own_ltl0 hv)) (own_at r hv) (g := mkF m pc Ls (.int j :: .ref a :: S)) rfl rfl (hb hby hd)) hr
theorem k_ldD (K : Cl p e below G) (X : Stand p l e R s m args below meth c T locs cells slots) (hx : p.tables.exec = Jvm.exec) (hby : c.code = bs) (hZ : Z.Warmed39 s.vm) (eT : T.heap = h) (F : Av Z h a .double vs) {j : Int32} (h0 : ¬ j < 0) (hv : vs[j.toNatClampNeg]? = some v) (hd : decode bs pc = .ok (.daload, 1)) (hq : pc + 1 = q) (hr : G (T.setTop (mkF m q Ls (v :: S)))) : G (T.setTop (mkF m pc Ls (.int j :: .ref a :: S))) := by
  subst hq
  obtain ⟨cl, A, r⟩ := F
  exact K _ _ (X.daload hx (j := j) (v := v) (by rw [eT]; exact A.1) (State.isArrayOf_alike hZ.alike A.2.1) A.2.2 (own_in r h0 (own_ltl0 hv)) (own_at r hv) (g := mkF m pc Ls (.int j :: .ref a :: S)) rfl rfl (hb hby hd)) hr
theorem k_ldR (K : Cl p e below G) (X : Stand p l e R s m args below meth c T locs cells slots) (hx : p.tables.exec = Jvm.exec) (hby : c.code = bs) (hZ : Z.Warmed39 s.vm) (eT : T.heap = h) (hty : ty.isReference = true) (F : Av Z h a ty vs) {j : Int32} (h0 : ¬ j < 0) (hv : vs[j.toNatClampNeg]? = some v) (hd : decode bs pc = .ok (.aaload, 1)) (hq : pc + 1 = q) (hr : G (T.setTop (mkF m q Ls (v :: S)))) : G (T.setTop (mkF m pc Ls (.int j :: .ref a :: S))) := by
  subst hq
  obtain ⟨cl, A, r⟩ := F
  exact K _ _ (X.aaload hx (j := j) (v := v) (by rw [eT]; exact A.1) (State.isArrayOf_alike hZ.alike A.2.1) hty A.2.2 (own_in r h0 (own_ltl0 hv)) (own_at r hv) (g := mkF m pc Ls (.int j :: .ref a :: S)) rfl rfl (hb hby hd)) hr
theorem k_len (K : Cl p e below G) (X : Stand p l e R s m args below meth c T locs cells slots) (hx : p.tables.exec = Jvm.exec) (hby : c.code = bs) (hZ : Z.Warmed39 s.vm) (z : Int32) (eT : T.heap = h) (F : Av Z h a ty vs) (hz : Int32.ofNat vs.length = z) (hd : decode bs pc = .ok (.arraylength, 1)) (hq : pc + 1 = q) (hr : G (T.setTop (mkF m q Ls (.int z :: S)))) : G (T.setTop (mkF m pc Ls (.ref a :: S))) := by
  subst hq
  obtain ⟨cl, A, r⟩ := F
  have hl : cl.slots.size.toInt32 = z := by rw [r, List.size_toArray]; exact hz
  have st := X.arraylength hx (by rw [eT]; exact A.1) (State.isArrayOf_alike hZ.alike A.2.1) (g := mkF m pc Ls (.ref a :: S)) rfl rfl (hb hby hd)
  rw [hl] at st
  exact K _ _ st hr
theorem k_stI (K : Cl p e below G) (X : Stand p l e R s m args below meth c T locs cells slots) (hx : p.tables.exec = Jvm.exec) (hby : c.code = bs) (hZ : Z.Warmed39 s.vm) (eT : T.heap = h) (F : Av Z h a .int vs) {j : Int32} {x : Int32} (h0 : ¬ j < 0) (h1 : j.toNatClampNeg < vs.length) (hd : decode bs pc = .ok (.iastore, 1)) (hq : pc + 1 = q) (k : ∀ T' h', Stand p l e R s m args below meth c T' (locs ++ [⟨a, j.toNatClampNeg⟩]) cells slots → T'.heap = h' → Wr h h' a j.toNatClampNeg (.int x) → Av Z h' a .int (vs.set j.toNatClampNeg (.int x)) → G (T'.setTop (mkF m q Ls S))) : G (T.setTop (mkF m pc Ls (.int x :: .int j :: .ref a :: S))) := by
  subst hq
  obtain ⟨cl, A, r⟩ := F
  obtain ⟨T', h', X', e', W', st⟩ := stI X hx hZ eT A (j := j) (own_in r h0 h1) (g := mkF m pc Ls (.int x :: .int j :: .ref a :: S)) rfl rfl (hb hby hd)
  exact K _ _ st (k T' h' X' e' W' (Av.set ⟨cl, A, r⟩ W'))
theorem k_stJ (K : Cl p e below G) (X : Stand p l e R s m args below meth c T locs cells slots) (hx : p.tables.exec = Jvm.exec) (hby : c.code = bs) (hZ : Z.Warmed39 s.vm) (eT : T.heap = h) (F : Av Z h a .long vs) {j : Int32} {x : Int64} (h0 : ¬ j < 0) (h1 : j.toNatClampNeg < vs.length) (hd : decode bs pc = .ok (.lastore, 1)) (hq : pc + 1 = q) (k : ∀ T' h', Stand p l e R s m args below meth c T' (locs ++ [⟨a, j.toNatClampNeg⟩]) cells slots → T'.heap = h' → Wr h h' a j.toNatClampNeg (.long x) → Av Z h' a .long (vs.set j.toNatClampNeg (.long x)) → G (T'.setTop (mkF m q Ls S))) : G (T.setTop (mkF m pc Ls (.long x :: .int j :: .ref a :: S))) := by
  subst hq
  obtain ⟨cl, A, r⟩ := F
  obtain ⟨T', h', X', e', W', st⟩ := stJ X hx hZ eT A (j := j) (own_in r h0 h1) (g := mkF m pc Ls (.long x :: .int j :: .ref a :: S)) rfl rfl (hb hby hd)
  exact K _ _ st (k T' h' X' e' W' (Av.set ⟨cl, A, r⟩ W'))
theorem k_stC (K : Cl p e below G) (X : Stand p l e R s m args below meth c T locs cells slots) (hx : p.tables.exec = Jvm.exec) (hby : c.code = bs) (hZ : Z.Warmed39 s.vm) (eT : T.heap = h) (F : Av Z h a .char vs) {j : Int32} {x : Int32} (h0 : ¬ j < 0) (h1 : j.toNatClampNeg < vs.length) (hd : decode bs pc = .ok (.castore, 1)) (hq : pc + 1 = q) (k : ∀ T' h', Stand p l e R s m args below meth c T' (locs ++ [⟨a, j.toNatClampNeg⟩]) cells slots → T'.heap = h' → Wr h h' a j.toNatClampNeg (.int (nar .char x)) → Av Z h' a .char (vs.set j.toNatClampNeg (.int (nar .char x))) → G (T'.setTop (mkF m q Ls S))) : G (T.setTop (mkF m pc Ls (.int x :: .int j :: .ref a :: S))) := by
  subst hq
  obtain ⟨cl, A, r⟩ := F
  obtain ⟨T', h', X', e', W', st⟩ := stC X hx hZ eT A (j := j) (own_in r h0 h1) (g := mkF m pc Ls (.int x :: .int j :: .ref a :: S)) rfl rfl (hb hby hd)
  exact K _ _ st (k T' h' X' e' W' (Av.set ⟨cl, A, r⟩ W'))
theorem k_stB (K : Cl p e below G) (X : Stand p l e R s m args below meth c T locs cells slots) (hx : p.tables.exec = Jvm.exec) (hby : c.code = bs) (hZ : Z.Warmed39 s.vm) (eT : T.heap = h) (F : Av Z h a .byte vs) {j : Int32} {x : Int32} (h0 : ¬ j < 0) (h1 : j.toNatClampNeg < vs.length) (hd : decode bs pc = .ok (.bastore, 1)) (hq : pc + 1 = q) (k : ∀ T' h', Stand p l e R s m args below meth c T' (locs ++ [⟨a, j.toNatClampNeg⟩]) cells slots → T'.heap = h' → Wr h h' a j.toNatClampNeg (.int (nar .byte x)) → Av Z h' a .byte (vs.set j.toNatClampNeg (.int (nar .byte x))) → G (T'.setTop (mkF m q Ls S))) : G (T.setTop (mkF m pc Ls (.int x :: .int j :: .ref a :: S))) := by
  subst hq
  obtain ⟨cl, A, r⟩ := F
  obtain ⟨T', h', X', e', W', st⟩ := stB X hx hZ eT A (j := j) (own_in r h0 h1) (g := mkF m pc Ls (.int x :: .int j :: .ref a :: S)) rfl rfl (hb hby hd)
  exact K _ _ st (k T' h' X' e' W' (Av.set ⟨cl, A, r⟩ W'))
theorem k_stZ (K : Cl p e below G) (X : Stand p l e R s m args below meth c T locs cells slots) (hx : p.tables.exec = Jvm.exec) (hby : c.code = bs) (hZ : Z.Warmed39 s.vm) (eT : T.heap = h) (F : Av Z h a .boolean vs) {j : Int32} {x : Int32} (h0 : ¬ j < 0) (h1 : j.toNatClampNeg < vs.length) (hd : decode bs pc = .ok (.bastore, 1)) (hq : pc + 1 = q) (k : ∀ T' h', Stand p l e R s m args below meth c T' (locs ++ [⟨a, j.toNatClampNeg⟩]) cells slots → T'.heap = h' → Wr h h' a j.toNatClampNeg (.int (nar .boolean x)) → Av Z h' a .boolean (vs.set j.toNatClampNeg (.int (nar .boolean x))) → G (T'.setTop (mkF m q Ls S))) : G (T.setTop (mkF m pc Ls (.int x :: .int j :: .ref a :: S))) := by
  subst hq
  obtain ⟨cl, A, r⟩ := F
  obtain ⟨T', h', X', e', W', st⟩ := stZ X hx hZ eT A (j := j) (own_in r h0 h1) (g := mkF m pc Ls (.int x :: .int j :: .ref a :: S)) rfl rfl (hb hby hd)
  exact K _ _ st (k T' h' X' e' W' (Av.set ⟨cl, A, r⟩ W'))
theorem k_stD (K : Cl p e below G) (X : Stand p l e R s m args below meth c T locs cells slots) (hx : p.tables.exec = Jvm.exec) (hby : c.code = bs) (hZ : Z.Warmed39 s.vm) (eT : T.heap = h) (F : Av Z h a .double vs) {j : Int32} {x : UInt64} (h0 : ¬ j < 0) (h1 : j.toNatClampNeg < vs.length) (hd : decode bs pc = .ok (.dastore, 1)) (hq : pc + 1 = q) (k : ∀ T' h', Stand p l e R s m args below meth c T' (locs ++ [⟨a, j.toNatClampNeg⟩]) cells slots → T'.heap = h' → Wr h h' a j.toNatClampNeg (.double x) → Av Z h' a .double (vs.set j.toNatClampNeg (.double x)) → G (T'.setTop (mkF m q Ls S))) : G (T.setTop (mkF m pc Ls (.double x :: .int j :: .ref a :: S))) := by
  subst hq
  obtain ⟨cl, A, r⟩ := F
  obtain ⟨T', h', X', e', W', st⟩ := stD X hx hZ eT A (j := j) (own_in r h0 h1) (g := mkF m pc Ls (.double x :: .int j :: .ref a :: S)) rfl rfl (hb hby hd)
  exact K _ _ st (k T' h' X' e' W' (Av.set ⟨cl, A, r⟩ W'))
def Avr (Z : State) (h : Heap) (a : Addr) (C : String) (vs : List Value) : Prop := ∃ cl : Cell, Arr Z h a cl (.object C) ∧ cl.slots = vs.toArray ∧ Ovr Z cl.cls C
variable {C : String}
theorem Avr.av (F : Avr Z h a C vs) : Av Z h a (.object C) vs := by obtain ⟨c, A, r, -⟩ := F; exact ⟨c, A, r⟩
theorem Avr.lt (F : Avr Z h a C vs) : a < h.size := F.av.lt
theorem Avr.ext (F : Avr Z h a C vs) (E : Ext h h') : Avr Z h' a C vs := by obtain ⟨c, A, r⟩ := F; exact ⟨c, A.ext E, r⟩
theorem Avr.other (F : Avr Z h b C vs) (W : Wr h h' a sl v) (q : b ≠ a) : Avr Z h' b C vs := by obtain ⟨c, A, r⟩ := F; exact ⟨c, A.other W q, r⟩
theorem Avr.keep (F : Avr Z h a C vs) (K : Keep h h' ws) (q : a ∉ ws) : Avr Z h' a C vs := by obtain ⟨c, A, r⟩ := F; exact ⟨c, ⟨K.2.1 a c A.1 q, A.2⟩, r⟩
theorem Avr.new {k : ClassId} {z : Int32} {n : Nat} (A : Arr Z h a (newA k (.object C) z) (.object C)) (O : Ovr Z k C) (hn : z.toNatClampNeg = n) : Avr Z h a C (List.replicate n .null) := ⟨_, A, by subst hn; simp [newA, defaultValue], O⟩
theorem Avr.set (F : Avr Z h a C vs) (W : Wr h h' a sl v) : Avr Z h' a C (vs.set sl v) := by
  obtain ⟨c, A, r, O⟩ := F
  exact ⟨_, A.same W, by simp [Cell.setSlot, r], O⟩
theorem k_stR (K : Cl p e below G) (X : Stand p l e R s m args below meth c T locs cells slots) (hx : p.tables.exec = Jvm.exec) (hby : c.code = bs) (hZ : Z.Warmed39 s.vm) (eT : T.heap = h) (F : Avr Z h a C vs) {j : Int32} (h0 : ¬ j < 0) (h1 : j.toNatClampNeg < vs.length) (hv : v = .null ∨ ∃ y, v = .ref y ∧ Ins Z h y C true) (hd : decode bs pc = .ok (.aastore, 1)) (hq : pc + 1 = q) (k : ∀ T' h', Stand p l e R s m args below meth c T' (locs ++ [⟨a, j.toNatClampNeg⟩]) cells slots → T'.heap = h' → Wr h h' a j.toNatClampNeg v → Avr Z h' a C (vs.set j.toNatClampNeg v) → G (T'.setTop (mkF m q Ls S))) : G (T.setTop (mkF m pc Ls (v :: .int j :: .ref a :: S))) := by
  subst hq
  obtain ⟨cl, A, r, O⟩ := F
  have St : Sto Z h a v := by
    rcases hv with rfl | ⟨y, rfl, I⟩
    · exact Or.inl rfl
    · exact Sto.of A O I
  obtain ⟨T', h', X', e', W', st⟩ := stR X hx hZ eT A (j := j) (own_in r h0 h1) rfl St (g := mkF m pc Ls (v :: .int j :: .ref a :: S)) rfl rfl (hb hby hd)
  exact K _ _ st (k T' h' X' e' W' (Avr.set ⟨cl, A, r, O⟩ W'))
theorem k_newP (K : Cl p e below G) (X : Stand p l e R s m args below meth c T locs cells slots) (hx : p.tables.exec = Jvm.exec) (hby : c.code = bs) (hZ : Z.Warmed39 s.vm) {aty : ArrayType} {n : Int32} (N cap : Nat) (w : (Jvm.Cond.arrayClass (newarray.typeOf aty)).before a0 Z = true) (eT : T.heap = h) (hd : decode bs pc = .ok (.newarray aty, 2)) (hq : pc + 2 = q) (hn : ¬ n < 0) (hN : n.toNatClampNeg = N) (hcap : N ≤ cap) (hcb : cap * 8 ≤ 536870912) (hc : cells + 1 ≤ R.cells) (hl : slots + cap ≤ R.slots)
    (k : ∀ T' h' b, Stand p l e R s m args below meth c T' locs (cells + 1) (slots + cap) → T'.heap = h' → Ext h h' → b = h.size → Av Z h' b (newarray.typeOf aty) (List.replicate N (defaultValue (newarray.typeOf aty))) → G (T'.setTop (mkF m q Ls (.ref b :: S)))) : G (T.setTop (mkF m pc Ls (.int n :: S))) := by
  subst hq hN
  obtain ⟨T', h', kA, X', e', E', A', st⟩ := newP X hx hZ w eT (g := mkF m pc Ls (.int n :: S)) rfl (hb hby hd) rfl hn hcap hcb hc hl
  exact K _ _ st (k T' h' _ X' e' E' rfl (Av.new A' rfl))
theorem k_newR (K : Cl p e below G) (X : Stand p l e R s m args below meth c T locs cells slots) (hx : p.tables.exec = Jvm.exec) (hby : c.code = bs) (hZ : Z.Warmed39 s.vm) {own : String} {i : Nat} {n : Int32} (N cap : Nat) (hown : s.vm.findClass own = some m.cls) (w1 : (Jvm.Cond.classLink own i C).before a0 Z = true) (w2 : (Jvm.Cond.arrayOver (.object C)).before a0 Z = true) (eT : T.heap = h) (hd : decode bs pc = .ok (.anewarray i, 3)) (hq : pc + 3 = q) (hn : ¬ n < 0) (hN : n.toNatClampNeg = N) (hcap : N ≤ cap) (hcb : cap * 8 ≤ 536870912) (hc : cells + 1 ≤ R.cells) (hl : slots + cap ≤ R.slots)
    (k : ∀ T' h' b, Stand p l e R s m args below meth c T' locs (cells + 1) (slots + cap) → T'.heap = h' → Ext h h' → b = h.size → Avr Z h' b C (List.replicate N .null) → G (T'.setTop (mkF m q Ls (.ref b :: S)))) : G (T.setTop (mkF m pc Ls (.int n :: S))) := by
  subst hq hN
  obtain ⟨T', h', kA, X', e', E', A', O', st⟩ := newR X hx hZ hown w1 w2 eT (g := mkF m pc Ls (.int n :: S)) rfl (hb hby hd) rfl hn hcap hcb hc hl
  exact K _ _ st (k T' h' _ X' e' E' rfl (Avr.new A' O' rfl))
theorem own_ge {H : Heap} {b c : Addr} {j : Nat} (g : b = H.size) (q : c = b + 1 + j) : H.size ≤ c := by subst g q; exact Nat.le_trans (Nat.le_add_right _ _) (Nat.le_add_right _ _)
theorem own_le {b c : Addr} {j : Nat} (q : c = b + 1 + j) : b ≤ c := by subst q; exact Nat.le_trans (Nat.le_add_right _ _) (Nat.le_add_right _ _)
theorem own_ne {b c : Addr} {j : Nat} (q : c = b + 1 + j) : b ≠ c := by subst q; exact Nat.ne_of_lt (Nat.lt_of_lt_of_le (Nat.lt_succ_self _) (Nat.le_add_right _ _))
theorem own_ne2 {b c d : Addr} {i j : Nat} (q : c = b + 1 + i) (r : d = b + 1 + j) (h : i ≠ j) : c ≠ d := by subst q r; exact fun e => h (Nat.add_left_cancel e)
end OwnArr
def wm1_1 (p1 : Int64) (p2 : Int64) : Int64 := (if p1 < p2 then p2 else p1)
def MXJ (p1 : Int64) (p2 : Int64) : Int64 := (wm1_1 p1 p2)
theorem d_jdk_29_66_0 : decode jdk_29_method_66_code 0 = .ok (.lload_n 0, 1) := by decide +kernel
theorem d_jdk_29_66_1 : decode jdk_29_method_66_code 1 = .ok (.lload_n 2, 1) := by decide +kernel
theorem d_jdk_29_66_2 : decode jdk_29_method_66_code 2 = .ok (.lcmp, 1) := by decide +kernel
theorem d_jdk_29_66_3 : decode jdk_29_method_66_code 3 = .ok (.ifCond .lt 7, 3) := by decide +kernel
theorem d_jdk_29_66_6 : decode jdk_29_method_66_code 6 = .ok (.lload_n 0, 1) := by decide +kernel
theorem d_jdk_29_66_7 : decode jdk_29_method_66_code 7 = .ok (.goto 4, 3) := by decide +kernel
theorem d_jdk_29_66_10 : decode jdk_29_method_66_code 10 = .ok (.lload_n 2, 1) := by decide +kernel
theorem d_jdk_29_66_11 : decode jdk_29_method_66_code 11 = .ok (.lreturn, 1) := by decide +kernel
theorem efm1 (m : MethodId) (x0 : Int64) (x1 : Int64) : entryFrame m #[(.long x0), (.long x1)] 4 = mkF m 0 #[.val (.long x0), .second, .val (.long x1), .second] [] := by first | (simp [entryFrame, mkF, argsToLocals, Value.category]; done) | rfl
set_option maxRecDepth 65536 in
set_option maxHeartbeats 40000000 in
theorem c_mxj (l : Launch) (Z : State) (a0 : Array Value) (hw : ∀ d ∈ tables_1, d.before a0 Z = true) (p1 : Int64) (p2 : Int64) (h0 : Heap) (n0 : Nat) (Z0 : n0 ≤ h0.size) :
    Con l Z (⟨"java/lang/Math", "max", "(JJ)J"⟩ : MethodName) jdk_29_method_66_code 4 (some .long) ({ frames := 0, cells := 0, slots := 0, locals := 0 } : Room) [] #[(.long p1), (.long p2)] h0 (fun v h L => v = some (.long (MXJ p1 p2)) ∧ h = h0 ∧ L = []) := by
  refine Con.of (Jvm.Free.JP.mathPlain rfl (by decide +kernel)) #[.val (.long p1), .second, .val (.long p2), .second] (fun m => efm1 m p1 p2) ?_
  intro p e s m below meth c s₁ K hx hby hml hown hnm hret hlk hZ X0 e0
  have N0 := Fr.nil n0
  refine m_lloadN K X0.here hx hby d_jdk_29_66_0 rfl rfl ?_
  refine m_lloadN K X0.here hx hby d_jdk_29_66_1 rfl rfl ?_
  refine m_lcmp K X0.here hx hby (lcmpW p1 p2) d_jdk_29_66_2 rfl rfl ?_
  obtain ⟨T2, X2, e2, st2⟩ : Mx X0 h0 (mkF m 11 #[.val (.long p1), .second, .val (.long p2), .second] [(.long (wm1_1 p1 p2))]) (s₁.setTop (mkF m 3 #[.val (.long p1), .second, .val (.long p2), .second] [(.int (lcmpW p1 p2))])) := by
    refine Mx.with fun K => ?_
    by_cases hc3_1 : p1 < p2
    · refine m_ifY K X0.here hx hby (q := 10) d_jdk_29_66_3 ((if0 _ _).trans (tlt ((lw_lt p1 p2).mpr hc3_1)).1) (by decide) rfl ?_
      refine m_lloadN K X0.here hx hby d_jdk_29_66_10 rfl rfl ?_
      rw [show ((wm1_1 p1 p2) : Int64) = p2 from if_pos hc3_1]
      exact Mx.here X0 e0
    · refine m_ifN K X0.here hx hby (q := 6) d_jdk_29_66_3 ((if0 _ _).trans (flt (fun q => hc3_1 ((lw_lt p1 p2).mp q))).1) rfl ?_
      refine m_lloadN K X0.here hx hby d_jdk_29_66_6 rfl rfl ?_
      refine m_goto K X0.here hx hby (q := 11) d_jdk_29_66_7 (by decide) rfl ?_
      rw [show ((wm1_1 p1 p2) : Int64) = p1 from if_neg hc3_1]
      exact Mx.here X0 e0
  refine k_go K st2 ?_
  exact Go.retO X2 hx hby hlk hret rfl (Or.inr (Or.inl ⟨rfl, rfl, _, rfl⟩)) d_jdk_29_66_11 (by decide) (by decide) (⟨congrArg (fun z => some (Value.long z)) (rfl), e2, rfl⟩)
def wm2_1 (p1 : Int64) (p2 : Int64) : Int64 := (if p2 < p1 then p2 else p1)
def MNJ (p1 : Int64) (p2 : Int64) : Int64 := (wm2_1 p1 p2)
theorem d_jdk_29_70_0 : decode jdk_29_method_70_code 0 = .ok (.lload_n 0, 1) := by decide +kernel
theorem d_jdk_29_70_1 : decode jdk_29_method_70_code 1 = .ok (.lload_n 2, 1) := by decide +kernel
theorem d_jdk_29_70_2 : decode jdk_29_method_70_code 2 = .ok (.lcmp, 1) := by decide +kernel
theorem d_jdk_29_70_3 : decode jdk_29_method_70_code 3 = .ok (.ifCond .gt 7, 3) := by decide +kernel
theorem d_jdk_29_70_6 : decode jdk_29_method_70_code 6 = .ok (.lload_n 0, 1) := by decide +kernel
theorem d_jdk_29_70_7 : decode jdk_29_method_70_code 7 = .ok (.goto 4, 3) := by decide +kernel
theorem d_jdk_29_70_10 : decode jdk_29_method_70_code 10 = .ok (.lload_n 2, 1) := by decide +kernel
theorem d_jdk_29_70_11 : decode jdk_29_method_70_code 11 = .ok (.lreturn, 1) := by decide +kernel
theorem efm2 (m : MethodId) (x0 : Int64) (x1 : Int64) : entryFrame m #[(.long x0), (.long x1)] 4 = mkF m 0 #[.val (.long x0), .second, .val (.long x1), .second] [] := by first | (simp [entryFrame, mkF, argsToLocals, Value.category]; done) | rfl
set_option maxRecDepth 65536 in
set_option maxHeartbeats 40000000 in
theorem c_mnj (l : Launch) (Z : State) (a0 : Array Value) (hw : ∀ d ∈ tables_1, d.before a0 Z = true) (p1 : Int64) (p2 : Int64) (h0 : Heap) (n0 : Nat) (Z0 : n0 ≤ h0.size) :
    Con l Z (⟨"java/lang/Math", "min", "(JJ)J"⟩ : MethodName) jdk_29_method_70_code 4 (some .long) ({ frames := 0, cells := 0, slots := 0, locals := 0 } : Room) [] #[(.long p1), (.long p2)] h0 (fun v h L => v = some (.long (MNJ p1 p2)) ∧ h = h0 ∧ L = []) := by
  refine Con.of (Jvm.Free.JP.mathPlain rfl (by decide +kernel)) #[.val (.long p1), .second, .val (.long p2), .second] (fun m => efm2 m p1 p2) ?_
  intro p e s m below meth c s₁ K hx hby hml hown hnm hret hlk hZ X0 e0
  have N0 := Fr.nil n0
  refine m_lloadN K X0.here hx hby d_jdk_29_70_0 rfl rfl ?_
  refine m_lloadN K X0.here hx hby d_jdk_29_70_1 rfl rfl ?_
  refine m_lcmp K X0.here hx hby (lcmpW p1 p2) d_jdk_29_70_2 rfl rfl ?_
  obtain ⟨T2, X2, e2, st2⟩ : Mx X0 h0 (mkF m 11 #[.val (.long p1), .second, .val (.long p2), .second] [(.long (wm2_1 p1 p2))]) (s₁.setTop (mkF m 3 #[.val (.long p1), .second, .val (.long p2), .second] [(.int (lcmpW p1 p2))])) := by
    refine Mx.with fun K => ?_
    by_cases hc3_1 : p2 < p1
    · refine m_ifY K X0.here hx hby (q := 10) d_jdk_29_70_3 ((if0 _ _).trans (tlt ((lw_gt p1 p2).mpr hc3_1)).2.2.1) (by decide) rfl ?_
      refine m_lloadN K X0.here hx hby d_jdk_29_70_10 rfl rfl ?_
      rw [show ((wm2_1 p1 p2) : Int64) = p2 from if_pos hc3_1]
      exact Mx.here X0 e0
    · refine m_ifN K X0.here hx hby (q := 6) d_jdk_29_70_3 ((if0 _ _).trans (flt (fun q => hc3_1 ((lw_gt p1 p2).mp q))).2.2.1) rfl ?_
      refine m_lloadN K X0.here hx hby d_jdk_29_70_6 rfl rfl ?_
      refine m_goto K X0.here hx hby (q := 11) d_jdk_29_70_7 (by decide) rfl ?_
      rw [show ((wm2_1 p1 p2) : Int64) = p1 from if_neg hc3_1]
      exact Mx.here X0 e0
  refine k_go K st2 ?_
  exact Go.retO X2 hx hby hlk hret rfl (Or.inr (Or.inl ⟨rfl, rfl, _, rfl⟩)) d_jdk_29_70_11 (by decide) (by decide) (⟨congrArg (fun z => some (Value.long z)) (rfl), e2, rfl⟩)
theorem d_jdk_29_65_0 : decode jdk_29_method_65_code 0 = .ok (.iload_n 0, 1) := by decide +kernel
theorem d_jdk_29_65_1 : decode jdk_29_method_65_code 1 = .ok (.iload_n 1, 1) := by decide +kernel
theorem d_jdk_29_65_2 : decode jdk_29_method_65_code 2 = .ok (.if_icmp .lt 7, 3) := by decide +kernel
theorem d_jdk_29_65_5 : decode jdk_29_method_65_code 5 = .ok (.iload_n 0, 1) := by decide +kernel
theorem d_jdk_29_65_6 : decode jdk_29_method_65_code 6 = .ok (.goto 4, 3) := by decide +kernel
theorem d_jdk_29_65_10 : decode jdk_29_method_65_code 10 = .ok (.ireturn, 1) := by decide +kernel
theorem efm3 (m : MethodId) (x0 : Int32) (x1 : Int32) : entryFrame m #[(.int x0), (.int x1)] 2 = mkF m 0 #[.val (.int x0), .val (.int x1)] [] := by first | (simp [entryFrame, mkF, argsToLocals, Value.category]; done) | rfl
set_option maxRecDepth 65536 in
set_option maxHeartbeats 40000000 in
theorem cm3 (l : Launch) (Z : State) (a0 : Array Value) (hw : ∀ d ∈ tables_1, d.before a0 Z = true)  (h0 : Heap) (n0 : Nat) (Z0 : n0 ≤ h0.size) :
    Con l Z (⟨"java/lang/Math", "max", "(II)I"⟩ : MethodName) jdk_29_method_65_code 2 (some .int) ({ frames := 0, cells := 0, slots := 0, locals := 0 } : Room) [] #[(.int (10 : Int32)), (.int (1 : Int32))] h0 (fun v h L => v = some (.int (10 : Int32)) ∧ h = h0 ∧ L = []) := by
  refine Con.of (Jvm.Free.JP.mathPlain rfl (by decide +kernel)) #[.val (.int (10 : Int32)), .val (.int (1 : Int32))] (fun m => efm3 m (10 : Int32) (1 : Int32)) ?_
  intro p e s m below meth c s₁ K hx hby hml hown hnm hret hlk hZ X0 e0
  have N0 := Fr.nil n0
  refine m_iloadN K X0.here hx hby d_jdk_29_65_0 rfl rfl ?_
  refine m_iloadN K X0.here hx hby d_jdk_29_65_1 rfl rfl ?_
  refine m_icmpN K X0.here hx hby (q := 5) d_jdk_29_65_2 (flt (by decide : ¬ ((10 : Int32) < (1 : Int32)))).1 rfl ?_
  refine m_iloadN K X0.here hx hby d_jdk_29_65_5 rfl rfl ?_
  refine m_goto K X0.here hx hby (q := 10) d_jdk_29_65_6 (by decide) rfl ?_
  exact Go.retI X0 hx hby hlk hret d_jdk_29_65_10 (by decide) (by decide) (⟨rfl, e0, rfl⟩)
theorem d_prog_32_1_0 : decode prog_32_method_1_code 0 = .ok (.aload_n 0, 1) := by decide +kernel
theorem d_prog_32_1_1 : decode prog_32_method_1_code 1 = .ok (.invokespecial 3, 3) := by decide +kernel
theorem d_prog_32_1_4 : decode prog_32_method_1_code 4 = .ok (.aload_n 0, 1) := by decide +kernel
theorem d_prog_32_1_5 : decode prog_32_method_1_code 5 = .ok (.lload_n 1, 1) := by decide +kernel
theorem d_prog_32_1_6 : decode prog_32_method_1_code 6 = .ok (.putfield 9, 3) := by decide +kernel
theorem d_prog_32_1_9 : decode prog_32_method_1_code 9 = .ok (.aload_n 0, 1) := by decide +kernel
theorem d_prog_32_1_10 : decode prog_32_method_1_code 10 = .ok (.lload_n 3, 1) := by decide +kernel
theorem d_prog_32_1_11 : decode prog_32_method_1_code 11 = .ok (.putfield 15, 3) := by decide +kernel
theorem d_prog_32_1_14 : decode prog_32_method_1_code 14 = .ok (.return_, 1) := by decide +kernel
theorem pn_com_example_vetted_query_vettedquery_Page : plainName "com/example/vetted_query/vettedquery/Page" = true := by first | (simp [plainName, overriddenIn]; done) | decide +kernel
theorem efp1 (m : MethodId) (x0 : Addr) (x1 : Int64) (x2 : Int64) : entryFrame m #[(.ref x0), (.long x1), (.long x2)] 5 = mkF m 0 #[.val (.ref x0), .val (.long x1), .second, .val (.long x2), .second] [] := by first | (simp [entryFrame, mkF, argsToLocals, Value.category]; done) | rfl
set_option maxRecDepth 65536 in
set_option maxHeartbeats 40000000 in
theorem cp1 (l : Launch) (Z : State) (a0 : Array Value) (hw : ∀ d ∈ tables_1, d.before a0 Z = true) (a1 : Addr) (k1 : Int64) (k2 : Int64) (u1 : Int64) (u2 : Int64) (h0 : Heap) (n0 : Nat) (Z0 : n0 ≤ h0.size) (E_a1 : Exa Z h0 a1 "com/example/vetted_query/vettedquery/Page") (F_skip_a1 : Fld Z h0 a1 "com/example/vetted_query/vettedquery/Page" "skip" "J" (.long u1)) (F_keep_a1 : Fld Z h0 a1 "com/example/vetted_query/vettedquery/Page" "keep" "J" (.long u2)) (g_a1 : n0 ≤ a1) :
    Con l Z (⟨"com/example/vetted_query/vettedquery/Page", "<init>", "(JJ)V"⟩ : MethodName) prog_32_method_1_code 5 none ({ frames := 1, cells := 0, slots := 0, locals := 12 } : Room) [] #[(.ref a1), (.long k1), (.long k2)] h0 (fun v h L => v = none ∧ Fr n0 L ∧ Keep h0 h [a1] ∧ Fld Z h a1 "com/example/vetted_query/vettedquery/Page" "skip" "J" (.long k1) ∧ Fld Z h a1 "com/example/vetted_query/vettedquery/Page" "keep" "J" (.long k2)) := by
  refine Con.of (plainFor_of_name pn_com_example_vetted_query_vettedquery_Page) #[.val (.ref a1), .val (.long k1), .second, .val (.long k2), .second] (fun m => efp1 m a1 k1 k2) ?_
  intro p e s m below meth c s₁ K hx hby hml hown hnm hret hlk hZ X0 e0
  have N0 := Fr.nil n0
  refine m_aloadN K X0.here hx hby d_prog_32_1_0 rfl rfl rfl ?_
  refine k_initO K X0 hx hby hZ hown (hw _ (List.mem_of_getElem? (i := 11) rfl)) (hw _ (List.mem_of_getElem? (i := 12) rfl)) (hw _ (List.mem_of_getElem? (i := 13) rfl)) e0 d_prog_32_1_1 (by rw [hml]; rfl) rfl (by decide) (Nat.le_of_ble_eq_true rfl) fun T1 X1 e1 => ?_
  refine m_aloadN K X1.here hx hby d_prog_32_1_4 rfl rfl rfl ?_
  refine m_lloadN K X1.here hx hby d_prog_32_1_5 rfl rfl ?_
  refine k_putF K X1 hx hby hZ hown (host := "") (Or.inl (hw _ (List.mem_of_getElem? (i := 14) rfl))) Via.refl e1 F_skip_a1 E_a1 (Or.inr ⟨(hw _ (List.mem_of_getElem? (i := 15) rfl)), rfl, hnm⟩) (hw _ (List.mem_of_getElem? (i := 6) rfl)) (ty := .long) (by decide) rfl rfl d_prog_32_1_6 rfl fun T2 h2 X2 e2 W2 => ?_
  have Fw2 := F_skip_a1.same W2
  have N2 := Fr.snoc X2 N0 g_a1
  refine m_aloadN K X2.here hx hby d_prog_32_1_9 rfl rfl rfl ?_
  refine m_lloadN K X2.here hx hby d_prog_32_1_10 rfl rfl ?_
  refine k_putF K X2 hx hby hZ hown (host := "") (Or.inl (hw _ (List.mem_of_getElem? (i := 16) rfl))) Via.refl e2 (F_keep_a1.other W2 (Or.inr (slot_ne (Or.inr (hw _ (List.mem_of_getElem? (i := 17) rfl))) (Or.inr (hw _ (List.mem_of_getElem? (i := 15) rfl))) (by decide) (t := .long) (t' := .long) (by decide) (by decide)))) (E_a1.wr W2) (Or.inr ⟨(hw _ (List.mem_of_getElem? (i := 17) rfl)), rfl, hnm⟩) (hw _ (List.mem_of_getElem? (i := 6) rfl)) (ty := .long) (by decide) rfl rfl d_prog_32_1_11 rfl fun T3 h3 X3 e3 W3 => ?_
  have Fw3 := (F_keep_a1.other W2 (Or.inr (slot_ne (Or.inr (hw _ (List.mem_of_getElem? (i := 17) rfl))) (Or.inr (hw _ (List.mem_of_getElem? (i := 15) rfl))) (by decide) (t := .long) (t' := .long) (by decide) (by decide)))).same W3
  have N3 := Fr.snoc X3 N2 g_a1
  exact Go.retV X3 hx hby hlk hret d_prog_32_1_14 (by decide) (by decide) (by rw [e3]; exact ⟨rfl, N3, (((Keep.refl h0 [a1]).wr W2 (Or.inl (by simp))).wr W3 (Or.inl (by simp))), (Fw2.other W3 (Or.inr (slot_ne (Or.inr (hw _ (List.mem_of_getElem? (i := 15) rfl))) (Or.inr (hw _ (List.mem_of_getElem? (i := 17) rfl))) (by decide) (t := .long) (t' := .long) (by decide) (by decide)))), Fw3⟩)
theorem d_prog_32_2_0 : decode prog_32_method_2_code 0 = .ok (.aload_n 0, 1) := by decide +kernel
theorem d_prog_32_2_1 : decode prog_32_method_2_code 1 = .ok (.getfield 9, 3) := by decide +kernel
theorem d_prog_32_2_4 : decode prog_32_method_2_code 4 = .ok (.lreturn, 1) := by decide +kernel
theorem efp2 (m : MethodId) (x0 : Addr) : entryFrame m #[(.ref x0)] 1 = mkF m 0 #[.val (.ref x0)] [] := by first | (simp [entryFrame, mkF, argsToLocals, Value.category]; done) | rfl
set_option maxRecDepth 65536 in
set_option maxHeartbeats 40000000 in
theorem cp2 (l : Launch) (Z : State) (a0 : Array Value) (hw : ∀ d ∈ tables_1, d.before a0 Z = true) (a1 : Addr) (k1 : Int64) (h0 : Heap) (n0 : Nat) (Z0 : n0 ≤ h0.size) (F_skip_a1 : Fld Z h0 a1 "com/example/vetted_query/vettedquery/Page" "skip" "J" (.long k1)) :
    Con l Z (⟨"com/example/vetted_query/vettedquery/Page", "skip", "()J"⟩ : MethodName) prog_32_method_2_code 1 (some .long) ({ frames := 0, cells := 0, slots := 0, locals := 0 } : Room) [] #[(.ref a1)] h0 (fun v h L => v = some (.long k1) ∧ h = h0 ∧ L = []) := by
  refine Con.of (plainFor_of_name pn_com_example_vetted_query_vettedquery_Page) #[.val (.ref a1)] (fun m => efp2 m a1) ?_
  intro p e s m below meth c s₁ K hx hby hml hown hnm hret hlk hZ X0 e0
  have N0 := Fr.nil n0
  refine m_aloadN K X0.here hx hby d_prog_32_2_0 rfl rfl rfl ?_
  refine k_getF K X0 hx hby hZ hown (host := "") (Or.inl (hw _ (List.mem_of_getElem? (i := 14) rfl))) Via.refl e0 F_skip_a1 d_prog_32_2_1 rfl fun T1 X1 e1 => ?_
  exact Go.retO X1 hx hby hlk hret rfl (Or.inr (Or.inl ⟨rfl, rfl, _, rfl⟩)) d_prog_32_2_4 (by decide) (by decide) (⟨rfl, e1, rfl⟩)
def wp3_1 (k1 : Int64) : Int32 := (if (0 : Int64) < k1 then (1 : Int32) else (0 : Int32))
theorem wp3_1_01 (k1 : Int64) : (wp3_1 k1) = 0 ∨ (wp3_1 k1) = 1 := by
  unfold wp3_1
  split
  · exact (Or.inr rfl)
  · exact (Or.inl rfl)
def SKV (k1 : Int64) : Int32 := (wp3_1 k1)
theorem SKV_01 (k1 : Int64) : SKV k1 = 0 ∨ SKV k1 = 1 := (wp3_1_01 k1)
theorem d_prog_32_4_0 : decode prog_32_method_4_code 0 = .ok (.aload_n 0, 1) := by decide +kernel
theorem d_prog_32_4_1 : decode prog_32_method_4_code 1 = .ok (.getfield 9, 3) := by decide +kernel
theorem d_prog_32_4_4 : decode prog_32_method_4_code 4 = .ok (.lconst 0, 1) := by decide +kernel
theorem d_prog_32_4_5 : decode prog_32_method_4_code 5 = .ok (.lcmp, 1) := by decide +kernel
theorem d_prog_32_4_6 : decode prog_32_method_4_code 6 = .ok (.ifCond .le 7, 3) := by decide +kernel
theorem d_prog_32_4_9 : decode prog_32_method_4_code 9 = .ok (.iconst 1, 1) := by decide +kernel
theorem d_prog_32_4_10 : decode prog_32_method_4_code 10 = .ok (.goto 4, 3) := by decide +kernel
theorem d_prog_32_4_13 : decode prog_32_method_4_code 13 = .ok (.iconst 0, 1) := by decide +kernel
theorem d_prog_32_4_14 : decode prog_32_method_4_code 14 = .ok (.ireturn, 1) := by decide +kernel
theorem efp3 (m : MethodId) (x0 : Addr) : entryFrame m #[(.ref x0)] 1 = mkF m 0 #[.val (.ref x0)] [] := by first | (simp [entryFrame, mkF, argsToLocals, Value.category]; done) | rfl
set_option maxRecDepth 65536 in
set_option maxHeartbeats 40000000 in
theorem cp3 (l : Launch) (Z : State) (a0 : Array Value) (hw : ∀ d ∈ tables_1, d.before a0 Z = true) (a1 : Addr) (k1 : Int64) (h0 : Heap) (n0 : Nat) (Z0 : n0 ≤ h0.size) (F_skip_a1 : Fld Z h0 a1 "com/example/vetted_query/vettedquery/Page" "skip" "J" (.long k1)) :
    Con l Z (⟨"com/example/vetted_query/vettedquery/Page", "skips", "()Z"⟩ : MethodName) prog_32_method_4_code 1 (some .boolean) ({ frames := 0, cells := 0, slots := 0, locals := 0 } : Room) [] #[(.ref a1)] h0 (fun v h L => v = some (.int (SKV k1)) ∧ h = h0 ∧ L = []) := by
  refine Con.of (plainFor_of_name pn_com_example_vetted_query_vettedquery_Page) #[.val (.ref a1)] (fun m => efp3 m a1) ?_
  intro p e s m below meth c s₁ K hx hby hml hown hnm hret hlk hZ X0 e0
  have N0 := Fr.nil n0
  refine m_aloadN K X0.here hx hby d_prog_32_4_0 rfl rfl rfl ?_
  refine k_getF K X0 hx hby hZ hown (host := "") (Or.inl (hw _ (List.mem_of_getElem? (i := 14) rfl))) Via.refl e0 F_skip_a1 d_prog_32_4_1 rfl fun T1 X1 e1 => ?_
  refine m_lconst K X1.here hx hby (0 : Int64) d_prog_32_4_4 rfl rfl ?_
  refine m_lcmp K X1.here hx hby (lcmpW k1 (0 : Int64)) d_prog_32_4_5 rfl rfl ?_
  obtain ⟨T3, X3, e3, st3⟩ : Mx X1 h0 (mkF m 14 #[.val (.ref a1)] [(.int (wp3_1 k1))]) (T1.setTop (mkF m 6 #[.val (.ref a1)] [(.int (lcmpW k1 (0 : Int64)))])) := by
    refine Mx.with fun K => ?_
    by_cases hc6_2 : (0 : Int64) < k1
    · refine m_ifN K X1.here hx hby (q := 9) d_prog_32_4_6 ((if0 _ _).trans (tlt ((lw_gt k1 (0 : Int64)).mpr hc6_2)).2.2.2) rfl ?_
      refine m_iconst K X1.here hx hby (1 : Int32) d_prog_32_4_9 rfl rfl ?_
      refine m_goto K X1.here hx hby (q := 14) d_prog_32_4_10 (by decide) rfl ?_
      rw [show ((wp3_1 k1) : Int32) = (1 : Int32) from if_pos hc6_2]
      exact Mx.here X1 e1
    · refine m_ifY K X1.here hx hby (q := 13) d_prog_32_4_6 ((if0 _ _).trans (flt (fun q => hc6_2 ((lw_gt k1 (0 : Int64)).mp q))).2.2.2) (by decide) rfl ?_
      refine m_iconst K X1.here hx hby (0 : Int32) d_prog_32_4_13 rfl rfl ?_
      rw [show ((wp3_1 k1) : Int32) = (0 : Int32) from if_neg hc6_2]
      exact Mx.here X1 e1
  refine k_go K st3 ?_
  exact Go.retN X3 hx hby hlk hret (by simp) d_prog_32_4_14 (by decide) (by decide) (own_nar01 (wp3_1_01 k1)) (⟨rfl, e3, rfl⟩)
theorem d_jdk_22_1_0 : decode jdk_22_method_1_code 0 = .ok (.aload_n 0, 1) := by decide +kernel
theorem d_jdk_22_1_1 : decode jdk_22_method_1_code 1 = .ok (.invokespecial 1, 3) := by decide +kernel
theorem d_jdk_22_1_4 : decode jdk_22_method_1_code 4 = .ok (.return_, 1) := by decide +kernel
theorem pn_java_util_AbstractCollection : plainName "java/util/AbstractCollection" = true := by first | (simp [plainName, overriddenIn]; done) | decide +kernel
theorem ef3 (m : MethodId) (x0 : Addr) : entryFrame m #[(.ref x0)] 1 = mkF m 0 #[.val (.ref x0)] [] := by first | (simp [entryFrame, mkF, argsToLocals, Value.category]; done) | rfl
set_option maxRecDepth 65536 in
set_option maxHeartbeats 40000000 in
theorem c3 (l : Launch) (Z : State) (a0 : Array Value) (hw : ∀ d ∈ tables_1, d.before a0 Z = true) (a1 : Addr) (h0 : Heap) (n0 : Nat) (Z0 : n0 ≤ h0.size) :
    Con l Z (⟨"java/util/AbstractCollection", "<init>", "()V"⟩ : MethodName) jdk_22_method_1_code 1 none ({ frames := 1, cells := 0, slots := 0, locals := 12 } : Room) [] #[(.ref a1)] h0 (fun v h L => v = none ∧ h = h0 ∧ L = []) := by
  refine Con.of (plainFor_of_name pn_java_util_AbstractCollection) #[.val (.ref a1)] (fun m => ef3 m a1) ?_
  intro p e s m below meth c s₁ K hx hby hml hown hnm hret hlk hZ X0 e0
  have N0 := Fr.nil n0
  refine m_aloadN K X0.here hx hby d_jdk_22_1_0 rfl rfl rfl ?_
  refine k_initO K X0 hx hby hZ hown (hw _ (List.mem_of_getElem? (i := 36) rfl)) (hw _ (List.mem_of_getElem? (i := 12) rfl)) (hw _ (List.mem_of_getElem? (i := 13) rfl)) e0 d_jdk_22_1_1 (by rw [hml]; rfl) rfl (by decide) (Nat.le_of_ble_eq_true rfl) fun T1 X1 e1 => ?_
  exact Go.retV X1 hx hby hlk hret d_jdk_22_1_4 (by decide) (by decide) (⟨rfl, e1, rfl⟩)
theorem d_jdk_39_1_0 : decode jdk_39_method_1_code 0 = .ok (.aload_n 0, 1) := by decide +kernel
theorem d_jdk_39_1_1 : decode jdk_39_method_1_code 1 = .ok (.invokespecial 1, 3) := by decide +kernel
theorem d_jdk_39_1_4 : decode jdk_39_method_1_code 4 = .ok (.aload_n 0, 1) := by decide +kernel
theorem d_jdk_39_1_5 : decode jdk_39_method_1_code 5 = .ok (.iconst 0, 1) := by decide +kernel
theorem d_jdk_39_1_6 : decode jdk_39_method_1_code 6 = .ok (.putfield 7, 3) := by decide +kernel
theorem d_jdk_39_1_9 : decode jdk_39_method_1_code 9 = .ok (.return_, 1) := by decide +kernel
theorem pn_java_util_AbstractList : plainName "java/util/AbstractList" = true := by first | (simp [plainName, overriddenIn]; done) | decide +kernel
theorem pd_0 : parseMethodDescriptor "()V" = some ⟨[], none⟩ := by decide +kernel
theorem ef2 (m : MethodId) (x0 : Addr) : entryFrame m #[(.ref x0)] 1 = mkF m 0 #[.val (.ref x0)] [] := by first | (simp [entryFrame, mkF, argsToLocals, Value.category]; done) | rfl
set_option maxRecDepth 65536 in
set_option maxHeartbeats 40000000 in
theorem c2 (l : Launch) (Z : State) (a0 : Array Value) (hw : ∀ d ∈ tables_1, d.before a0 Z = true) (a1 : Addr) (u1 : Int32) (h0 : Heap) (n0 : Nat) (Z0 : n0 ≤ h0.size) (E_a1 : Exa Z h0 a1 "java/util/ArrayList") (F_modCount_a1 : Fld Z h0 a1 "java/util/AbstractList" "modCount" "I" (.int u1)) (F_elementData_a1 : Fld Z h0 a1 "java/util/ArrayList" "elementData" "[Ljava/lang/Object;" .null) (F_size_a1 : Fld Z h0 a1 "java/util/ArrayList" "size" "I" (.int (0 : Int32))) (g_a1 : n0 ≤ a1) :
    Con l Z (⟨"java/util/AbstractList", "<init>", "()V"⟩ : MethodName) jdk_39_method_1_code 1 none ({ frames := 2, cells := 0, slots := 0, locals := 24 } : Room) [] #[(.ref a1)] h0 (fun v h L => v = none ∧ Fr n0 L ∧ Keep h0 h [a1] ∧ Fld Z h a1 "java/util/AbstractList" "modCount" "I" (.int (0 : Int32)) ∧ Fld Z h a1 "java/util/ArrayList" "elementData" "[Ljava/lang/Object;" .null ∧ Fld Z h a1 "java/util/ArrayList" "size" "I" (.int (0 : Int32))) := by
  refine Con.of (plainFor_of_name pn_java_util_AbstractList) #[.val (.ref a1)] (fun m => ef2 m a1) ?_
  intro p e s m below meth c s₁ K hx hby hml hown hnm hret hlk hZ X0 e0
  have N0 := Fr.nil n0
  refine m_aloadN K X0.here hx hby d_jdk_39_1_0 rfl rfl rfl ?_
  refine k_callP K X0 hx hby hZ a1 [] [] hown (hw _ (List.mem_of_getElem? (i := 30) rfl)) (hw _ (List.mem_of_getElem? (i := 31) rfl)) (hw _ (List.mem_of_getElem? (i := 34) rfl)) (hw _ (List.mem_of_getElem? (i := 35) rfl)) rfl (c3 l Z a0 hw a1 h0 n0 Z0) e0 rfl rfl pd_0 rfl d_jdk_39_1_1 (by rw [hml]; rfl) rfl (by decide) (by decide) (Nat.le_of_ble_eq_true rfl) (by decide) (by decide) fun v1 T1 L1 X1 q1 => ?_
  obtain ⟨rfl, e1, rfl⟩ := q1
  replace X1 := own_px X1
  refine k_none K ?_
  refine m_aloadN K X1.here hx hby d_jdk_39_1_4 rfl rfl rfl ?_
  refine m_iconst K X1.here hx hby (0 : Int32) d_jdk_39_1_5 rfl rfl ?_
  refine k_putF K X1 hx hby hZ hown (host := "") (Or.inl (hw _ (List.mem_of_getElem? (i := 37) rfl))) Via.refl e1 F_modCount_a1 E_a1 (Or.inl (hw _ (List.mem_of_getElem? (i := 38) rfl))) (hw _ (List.mem_of_getElem? (i := 19) rfl)) (ty := .int) (by decide) rfl rfl d_jdk_39_1_6 rfl fun T2 h2 X2 e2 W2 => ?_
  have Fw2 := F_modCount_a1.same W2
  have N2 := Fr.snoc X2 N0 g_a1
  exact Go.retV X2 hx hby hlk hret d_jdk_39_1_9 (by decide) (by decide) (by rw [e2]; exact ⟨rfl, N2, ((Keep.refl h0 [a1]).wr W2 (Or.inl (by simp))), Fw2, (F_elementData_a1.other W2 (Or.inr (slot_ne (Or.inl (hw _ (List.mem_of_getElem? (i := 41) rfl))) (Or.inl (hw _ (List.mem_of_getElem? (i := 38) rfl))) (by decide) (t := (.array (.object "java/lang/Object"))) (t' := .int) (by decide) (by decide)))), (F_size_a1.other W2 (Or.inr (slot_ne (Or.inl (hw _ (List.mem_of_getElem? (i := 57) rfl))) (Or.inl (hw _ (List.mem_of_getElem? (i := 38) rfl))) (by decide) (t := .int) (t' := .int) (by decide) (by decide))))⟩)
theorem ef2b (m : MethodId) (x0 : Addr) : entryFrame m #[(.ref x0)] 1 = mkF m 0 #[.val (.ref x0)] [] := by first | (simp [entryFrame, mkF, argsToLocals, Value.category]; done) | rfl
set_option maxRecDepth 65536 in
set_option maxHeartbeats 40000000 in
theorem c2b (l : Launch) (Z : State) (a0 : Array Value) (hw : ∀ d ∈ tables_1, d.before a0 Z = true) (a1 : Addr) (u1 : Int32) (h0 : Heap) (n0 : Nat) (Z0 : n0 ≤ h0.size) (E_a1 : Exa Z h0 a1 "java/util/ArrayList$SubList") (F_modCount_a1 : Fld Z h0 a1 "java/util/AbstractList" "modCount" "I" (.int u1)) (F_root_a1 : Fld Z h0 a1 "java/util/ArrayList$SubList" "root" "Ljava/util/ArrayList;" .null) (F_parent_a1 : Fld Z h0 a1 "java/util/ArrayList$SubList" "parent" "Ljava/util/ArrayList$SubList;" .null) (F_offset_a1 : Fld Z h0 a1 "java/util/ArrayList$SubList" "offset" "I" (.int (0 : Int32))) (F_size_a1 : Fld Z h0 a1 "java/util/ArrayList$SubList" "size" "I" (.int (0 : Int32))) (g_a1 : n0 ≤ a1) :
    Con l Z (⟨"java/util/AbstractList", "<init>", "()V"⟩ : MethodName) jdk_39_method_1_code 1 none ({ frames := 2, cells := 0, slots := 0, locals := 24 } : Room) [] #[(.ref a1)] h0 (fun v h L => v = none ∧ Fr n0 L ∧ Keep h0 h [a1] ∧ Fld Z h a1 "java/util/AbstractList" "modCount" "I" (.int (0 : Int32)) ∧ Fld Z h a1 "java/util/ArrayList$SubList" "root" "Ljava/util/ArrayList;" .null ∧ Fld Z h a1 "java/util/ArrayList$SubList" "parent" "Ljava/util/ArrayList$SubList;" .null ∧ Fld Z h a1 "java/util/ArrayList$SubList" "offset" "I" (.int (0 : Int32)) ∧ Fld Z h a1 "java/util/ArrayList$SubList" "size" "I" (.int (0 : Int32))) := by
  refine Con.of (plainFor_of_name pn_java_util_AbstractList) #[.val (.ref a1)] (fun m => ef2b m a1) ?_
  intro p e s m below meth c s₁ K hx hby hml hown hnm hret hlk hZ X0 e0
  have N0 := Fr.nil n0
  refine m_aloadN K X0.here hx hby d_jdk_39_1_0 rfl rfl rfl ?_
  refine k_callP K X0 hx hby hZ a1 [] [] hown (hw _ (List.mem_of_getElem? (i := 30) rfl)) (hw _ (List.mem_of_getElem? (i := 31) rfl)) (hw _ (List.mem_of_getElem? (i := 34) rfl)) (hw _ (List.mem_of_getElem? (i := 35) rfl)) rfl (c3 l Z a0 hw a1 h0 n0 Z0) e0 rfl rfl pd_0 rfl d_jdk_39_1_1 (by rw [hml]; rfl) rfl (by decide) (by decide) (Nat.le_of_ble_eq_true rfl) (by decide) (by decide) fun v1 T1 L1 X1 q1 => ?_
  obtain ⟨rfl, e1, rfl⟩ := q1
  replace X1 := own_px X1
  refine k_none K ?_
  refine m_aloadN K X1.here hx hby d_jdk_39_1_4 rfl rfl rfl ?_
  refine m_iconst K X1.here hx hby (0 : Int32) d_jdk_39_1_5 rfl rfl ?_
  refine k_putF K X1 hx hby hZ hown (host := "") (Or.inl (hw _ (List.mem_of_getElem? (i := 37) rfl))) Via.refl e1 F_modCount_a1 E_a1 (Or.inl (hw _ (List.mem_of_getElem? (i := 123) rfl))) (hw _ (List.mem_of_getElem? (i := 114) rfl)) (ty := .int) (by decide) rfl rfl d_jdk_39_1_6 rfl fun T2 h2 X2 e2 W2 => ?_
  have Fw2 := F_modCount_a1.same W2
  have N2 := Fr.snoc X2 N0 g_a1
  exact Go.retV X2 hx hby hlk hret d_jdk_39_1_9 (by decide) (by decide) (by rw [e2]; exact ⟨rfl, N2, ((Keep.refl h0 [a1]).wr W2 (Or.inl (by simp))), Fw2, (F_root_a1.other W2 (Or.inr (slot_ne (Or.inr (hw _ (List.mem_of_getElem? (i := 125) rfl))) (Or.inl (hw _ (List.mem_of_getElem? (i := 123) rfl))) (by decide) (t := (.object "java/util/ArrayList")) (t' := .int) (by decide) (by decide)))), (F_parent_a1.other W2 (Or.inr (slot_ne (Or.inr (hw _ (List.mem_of_getElem? (i := 127) rfl))) (Or.inl (hw _ (List.mem_of_getElem? (i := 123) rfl))) (by decide) (t := (.object "java/util/ArrayList$SubList")) (t' := .int) (by decide) (by decide)))), (F_offset_a1.other W2 (Or.inr (slot_ne (Or.inr (hw _ (List.mem_of_getElem? (i := 129) rfl))) (Or.inl (hw _ (List.mem_of_getElem? (i := 123) rfl))) (by decide) (t := .int) (t' := .int) (by decide) (by decide)))), (F_size_a1.other W2 (Or.inr (slot_ne (Or.inl (hw _ (List.mem_of_getElem? (i := 131) rfl))) (Or.inl (hw _ (List.mem_of_getElem? (i := 123) rfl))) (by decide) (t := .int) (t' := .int) (by decide) (by decide))))⟩)
theorem d_jdk_38_2_0 : decode jdk_38_method_2_code 0 = .ok (.aload_n 0, 1) := by decide +kernel
theorem d_jdk_38_2_1 : decode jdk_38_method_2_code 1 = .ok (.invokespecial 1, 3) := by decide +kernel
theorem d_jdk_38_2_4 : decode jdk_38_method_2_code 4 = .ok (.aload_n 0, 1) := by decide +kernel
theorem d_jdk_38_2_5 : decode jdk_38_method_2_code 5 = .ok (.getstatic 39, 3) := by decide +kernel
theorem d_jdk_38_2_8 : decode jdk_38_method_2_code 8 = .ok (.putfield 9, 3) := by decide +kernel
theorem d_jdk_38_2_11 : decode jdk_38_method_2_code 11 = .ok (.return_, 1) := by decide +kernel
theorem pn_java_util_ArrayList : plainName "java/util/ArrayList" = true := by first | (simp [plainName, overriddenIn]; done) | decide +kernel
theorem ef1 (m : MethodId) (x0 : Addr) : entryFrame m #[(.ref x0)] 1 = mkF m 0 #[.val (.ref x0)] [] := by first | (simp [entryFrame, mkF, argsToLocals, Value.category]; done) | rfl
set_option maxRecDepth 65536 in
set_option maxHeartbeats 40000000 in
theorem c1 (l : Launch) (Z : State) (a0 : Array Value) (hw : ∀ d ∈ tables_1, d.before a0 Z = true) (a1 : Addr) (u1 : Int32) (d1 : Addr) (h0 : Heap) (n0 : Nat) (Z0 : n0 ≤ h0.size) (E_a1 : Exa Z h0 a1 "java/util/ArrayList") (F_modCount_a1 : Fld Z h0 a1 "java/util/AbstractList" "modCount" "I" (.int u1)) (F_elementData_a1 : Fld Z h0 a1 "java/util/ArrayList" "elementData" "[Ljava/lang/Object;" .null) (F_size_a1 : Fld Z h0 a1 "java/util/ArrayList" "size" "I" (.int (0 : Int32))) (S_ArrayList_DEFAULTCAPACITY_EMPTY_ELEMENTDATA : Sta Z Z.heap "java/util/ArrayList" "DEFAULTCAPACITY_EMPTY_ELEMENTDATA" "[Ljava/lang/Object;" (.ref d1)) (O0 : Old Z n0 h0) (g_a1 : n0 ≤ a1) :
    Con l Z (⟨"java/util/ArrayList", "<init>", "()V"⟩ : MethodName) jdk_38_method_2_code 1 none ({ frames := 3, cells := 0, slots := 0, locals := 36 } : Room) [] #[(.ref a1)] h0 (fun v h L => v = none ∧ Fr n0 L ∧ Keep h0 h [a1] ∧ Fld Z h a1 "java/util/AbstractList" "modCount" "I" (.int (0 : Int32)) ∧ Fld Z h a1 "java/util/ArrayList" "elementData" "[Ljava/lang/Object;" (.ref d1) ∧ Fld Z h a1 "java/util/ArrayList" "size" "I" (.int (0 : Int32))) := by
  refine Con.of (plainFor_of_name pn_java_util_ArrayList) #[.val (.ref a1)] (fun m => ef1 m a1) ?_
  intro p e s m below meth c s₁ K hx hby hml hown hnm hret hlk hZ X0 e0
  have N0 := Fr.nil n0
  refine m_aloadN K X0.here hx hby d_jdk_38_2_0 rfl rfl rfl ?_
  refine k_callP K X0 hx hby hZ a1 [] [] hown (hw _ (List.mem_of_getElem? (i := 24) rfl)) (hw _ (List.mem_of_getElem? (i := 25) rfl)) (hw _ (List.mem_of_getElem? (i := 28) rfl)) (hw _ (List.mem_of_getElem? (i := 29) rfl)) rfl (c2 l Z a0 hw a1 u1 h0 n0 Z0 E_a1 F_modCount_a1 F_elementData_a1 F_size_a1 g_a1) e0 rfl rfl pd_0 rfl d_jdk_38_2_1 (by rw [hml]; rfl) rfl (by decide) (by decide) (Nat.le_of_ble_eq_true rfl) (by decide) (by decide) fun v1 T1 L1 X1 q1 => ?_
  obtain ⟨rfl, Nq1, K1, Fp1_0, Fp1_1, Fp1_2⟩ := q1
  have N1 := Fr.app N0 Nq1
  refine k_none K ?_
  refine m_aloadN K X1.here hx hby d_jdk_38_2_4 rfl rfl rfl ?_
  refine k_getS K X1 hx hby hZ hown (host := "") (Or.inl (hw _ (List.mem_of_getElem? (i := 39) rfl))) Via.refl rfl (S_ArrayList_DEFAULTCAPACITY_EMPTY_ELEMENTDATA.ext (O0.keep K1 (allS g_a1 all0)).2) d_jdk_38_2_5 rfl fun T2 X2 e2 => ?_
  refine k_putF K X2 hx hby hZ hown (host := "") (Or.inl (hw _ (List.mem_of_getElem? (i := 40) rfl))) Via.refl e2 Fp1_1 (E_a1.keep K1) (Or.inl (hw _ (List.mem_of_getElem? (i := 41) rfl))) (hw _ (List.mem_of_getElem? (i := 19) rfl)) (ty := (.array (.object "java/lang/Object"))) (by decide) rfl rfl d_jdk_38_2_8 rfl fun T3 h3 X3 e3 W3 => ?_
  have Fw3 := Fp1_1.same W3
  have N3 := Fr.snoc X3 N1 g_a1
  exact Go.retV X3 hx hby hlk hret d_jdk_38_2_11 (by decide) (by decide) (by rw [e3]; exact ⟨rfl, N3, (((Keep.refl h0 [a1]).trans K1 (allS (Or.inl (by simp)) all0)).wr W3 (Or.inl (by simp))), (Fp1_0.other W3 (Or.inr (slot_ne (Or.inl (hw _ (List.mem_of_getElem? (i := 38) rfl))) (Or.inl (hw _ (List.mem_of_getElem? (i := 41) rfl))) (by decide) (t := .int) (t' := (.array (.object "java/lang/Object"))) (by decide) (by decide)))), Fw3, (Fp1_2.other W3 (Or.inr (slot_ne (Or.inl (hw _ (List.mem_of_getElem? (i := 57) rfl))) (Or.inl (hw _ (List.mem_of_getElem? (i := 41) rfl))) (by decide) (t := .int) (t' := (.array (.object "java/lang/Object"))) (by decide) (by decide))))⟩)
theorem d_jdk_33_22_0 : decode jdk_33_method_22_code 0 = .ok (.iload_n 0, 1) := by decide +kernel
theorem d_jdk_33_22_1 : decode jdk_33_method_22_code 1 = .ok (.bipush (-128), 2) := by decide +kernel
theorem d_jdk_33_22_3 : decode jdk_33_method_22_code 3 = .ok (.if_icmp .lt 20, 3) := by decide +kernel
theorem d_jdk_33_22_6 : decode jdk_33_method_22_code 6 = .ok (.iload_n 0, 1) := by decide +kernel
theorem d_jdk_33_22_7 : decode jdk_33_method_22_code 7 = .ok (.getstatic 191, 3) := by decide +kernel
theorem d_jdk_33_22_10 : decode jdk_33_method_22_code 10 = .ok (.if_icmp .gt 13, 3) := by decide +kernel
theorem d_jdk_33_22_13 : decode jdk_33_method_22_code 13 = .ok (.getstatic 195, 3) := by decide +kernel
theorem d_jdk_33_22_16 : decode jdk_33_method_22_code 16 = .ok (.iload_n 0, 1) := by decide +kernel
theorem d_jdk_33_22_17 : decode jdk_33_method_22_code 17 = .ok (.sipush 128, 3) := by decide +kernel
theorem d_jdk_33_22_20 : decode jdk_33_method_22_code 20 = .ok (.iadd, 1) := by decide +kernel
theorem d_jdk_33_22_21 : decode jdk_33_method_22_code 21 = .ok (.aaload, 1) := by decide +kernel
theorem d_jdk_33_22_22 : decode jdk_33_method_22_code 22 = .ok (.areturn, 1) := by decide +kernel
theorem pn_java_lang_Integer : plainName "java/lang/Integer" = true := by first | (simp [plainName, overriddenIn]; done) | decide +kernel
theorem ef4 (m : MethodId) (x0 : Int32) : entryFrame m #[(.int x0)] 1 = mkF m 0 #[.val (.int x0)] [] := by first | (simp [entryFrame, mkF, argsToLocals, Value.category]; done) | rfl
set_option maxRecDepth 65536 in
set_option maxHeartbeats 40000000 in
theorem c4 (l : Launch) (Z : State) (a0 : Array Value) (hw : ∀ d ∈ tables_1, d.before a0 Z = true) (ca : Addr) (bx : List Value) (sv : Addr) (h0 : Heap) (n0 : Nat) (Z0 : n0 ≤ h0.size) (S_Integer_IntegerCache_high : Sta Z Z.heap "java/lang/Integer$IntegerCache" "high" "I" (.int (127 : Int32))) (S_Integer_IntegerCache_cache : Sta Z Z.heap "java/lang/Integer$IntegerCache" "cache" "[Ljava/lang/Integer;" (.ref ca)) (O0 : Old Z n0 h0) (ACA : Av Z Z.heap ca (.object "java/lang/Integer") bx) (A7 : bx[135]? = some (.ref sv)) :
    Con l Z (⟨"java/lang/Integer", "valueOf", "(I)Ljava/lang/Integer;"⟩ : MethodName) jdk_33_method_22_code 1 (some (.object "java/lang/Integer")) ({ frames := 0, cells := 0, slots := 0, locals := 0 } : Room) [] #[(.int (7 : Int32))] h0 (fun v h L => v = some (.ref sv) ∧ h = h0 ∧ L = []) := by
  refine Con.of (plainFor_of_name pn_java_lang_Integer) #[.val (.int (7 : Int32))] (fun m => ef4 m (7 : Int32)) ?_
  intro p e s m below meth c s₁ K hx hby hml hown hnm hret hlk hZ X0 e0
  have N0 := Fr.nil n0
  refine m_iloadN K X0.here hx hby d_jdk_33_22_0 rfl rfl ?_
  refine m_bipush K X0.here hx hby (-128 : Int32) d_jdk_33_22_1 rfl rfl ?_
  refine m_icmpN K X0.here hx hby (q := 6) d_jdk_33_22_3 (flt (by decide : ¬ ((7 : Int32) < (-128 : Int32)))).1 rfl ?_
  refine m_iloadN K X0.here hx hby d_jdk_33_22_6 rfl rfl ?_
  refine k_getS K X0 hx hby hZ hown (host := "") (Or.inl (hw _ (List.mem_of_getElem? (i := 46) rfl))) Via.refl e0 (S_Integer_IntegerCache_high.ext O0.2) d_jdk_33_22_7 rfl fun T1 X1 e1 => ?_
  refine m_icmpN K X1.here hx hby (q := 13) d_jdk_33_22_10 (flt (by decide : ¬ ((127 : Int32) < (7 : Int32)))).2.2.1 rfl ?_
  refine k_getS K X1 hx hby hZ hown (host := "") (Or.inl (hw _ (List.mem_of_getElem? (i := 48) rfl))) Via.refl e1 (S_Integer_IntegerCache_cache.ext O0.2) d_jdk_33_22_13 rfl fun T2 X2 e2 => ?_
  refine m_iloadN K X2.here hx hby d_jdk_33_22_16 rfl rfl ?_
  refine m_sipush K X2.here hx hby (128 : Int32) d_jdk_33_22_17 rfl rfl ?_
  refine m_iadd K X2.here hx hby (135 : Int32) d_jdk_33_22_20 rfl rfl ?_
  refine k_ldR K X2 hx hby hZ e2 rfl (ACA.ext O0.2) (v := (.ref sv)) (by decide) A7 d_jdk_33_22_21 rfl ?_
  exact Go.retO X2 hx hby hlk hret rfl (Or.inr (Or.inr (Or.inr (Or.inr ⟨rfl, rfl, rfl⟩)))) d_jdk_33_22_22 (by decide) (by decide) (⟨rfl, e2, rfl⟩)
theorem d_jdk_38_6_0 : decode jdk_38_method_6_code 0 = .ok (.aload_n 0, 1) := by decide +kernel
theorem d_jdk_38_6_1 : decode jdk_38_method_6_code 1 = .ok (.getfield 9, 3) := by decide +kernel
theorem d_jdk_38_6_4 : decode jdk_38_method_6_code 4 = .ok (.arraylength, 1) := by decide +kernel
theorem d_jdk_38_6_5 : decode jdk_38_method_6_code 5 = .ok (.istore_n 2, 1) := by decide +kernel
theorem d_jdk_38_6_6 : decode jdk_38_method_6_code 6 = .ok (.iload_n 2, 1) := by decide +kernel
theorem d_jdk_38_6_7 : decode jdk_38_method_6_code 7 = .ok (.ifCond .gt 13, 3) := by decide +kernel
theorem d_jdk_38_6_10 : decode jdk_38_method_6_code 10 = .ok (.aload_n 0, 1) := by decide +kernel
theorem d_jdk_38_6_11 : decode jdk_38_method_6_code 11 = .ok (.getfield 9, 3) := by decide +kernel
theorem d_jdk_38_6_14 : decode jdk_38_method_6_code 14 = .ok (.getstatic 39, 3) := by decide +kernel
theorem d_jdk_38_6_17 : decode jdk_38_method_6_code 17 = .ok (.if_acmp .eq 28, 3) := by decide +kernel
theorem d_jdk_38_6_45 : decode jdk_38_method_6_code 45 = .ok (.aload_n 0, 1) := by decide +kernel
theorem d_jdk_38_6_46 : decode jdk_38_method_6_code 46 = .ok (.bipush 10, 2) := by decide +kernel
theorem d_jdk_38_6_48 : decode jdk_38_method_6_code 48 = .ok (.iload_n 1, 1) := by decide +kernel
theorem d_jdk_38_6_49 : decode jdk_38_method_6_code 49 = .ok (.invokestatic 79, 3) := by decide +kernel
theorem d_jdk_38_6_52 : decode jdk_38_method_6_code 52 = .ok (.anewarray 7, 3) := by decide +kernel
theorem d_jdk_38_6_55 : decode jdk_38_method_6_code 55 = .ok (.dup_x1, 1) := by decide +kernel
theorem d_jdk_38_6_56 : decode jdk_38_method_6_code 56 = .ok (.putfield 9, 3) := by decide +kernel
theorem d_jdk_38_6_59 : decode jdk_38_method_6_code 59 = .ok (.areturn, 1) := by decide +kernel
theorem pd_1 : parseMethodDescriptor "(II)I" = some ⟨[.int, .int], some .int⟩ := by decide +kernel
theorem ef6 (m : MethodId) (x0 : Addr) (x1 : Int32) : entryFrame m #[(.ref x0), (.int x1)] 4 = mkF m 0 #[.val (.ref x0), .val (.int x1), .unset, .unset] [] := by first | (simp [entryFrame, mkF, argsToLocals, Value.category]; done) | rfl
set_option maxRecDepth 65536 in
set_option maxHeartbeats 40000000 in
theorem c6 (l : Launch) (Z : State) (a0 : Array Value) (hw : ∀ d ∈ tables_1, d.before a0 Z = true) (a1 : Addr) (d1 : Addr) (h0 : Heap) (n0 : Nat) (Z0 : n0 ≤ h0.size) (E_a1 : Exa Z h0 a1 "java/util/ArrayList") (F_modCount_a1 : Fld Z h0 a1 "java/util/AbstractList" "modCount" "I" (.int (1 : Int32))) (F_elementData_a1 : Fld Z h0 a1 "java/util/ArrayList" "elementData" "[Ljava/lang/Object;" (.ref d1)) (F_size_a1 : Fld Z h0 a1 "java/util/ArrayList" "size" "I" (.int (0 : Int32))) (A_d1 : Av Z h0 d1 (.object "java/lang/Object") []) (S_ArrayList_DEFAULTCAPACITY_EMPTY_ELEMENTDATA : Sta Z Z.heap "java/util/ArrayList" "DEFAULTCAPACITY_EMPTY_ELEMENTDATA" "[Ljava/lang/Object;" (.ref d1)) (O0 : Old Z n0 h0) (g_a1 : n0 ≤ a1) :
    Con l Z (⟨"java/util/ArrayList", "grow", "(I)[Ljava/lang/Object;"⟩ : MethodName) jdk_38_method_6_code 4 (some (.array (.object "java/lang/Object"))) ({ frames := 1, cells := 1, slots := 10, locals := 14 } : Room) [] #[(.ref a1), (.int (1 : Int32))] h0 (fun v h L => ∃ ba : Addr, v = some (.ref ba) ∧ Fr n0 L ∧ Keep h0 h [a1] ∧ h0.size ≤ ba ∧ Fld Z h a1 "java/util/AbstractList" "modCount" "I" (.int (1 : Int32)) ∧ Fld Z h a1 "java/util/ArrayList" "elementData" "[Ljava/lang/Object;" (.ref ba) ∧ Fld Z h a1 "java/util/ArrayList" "size" "I" (.int (0 : Int32)) ∧ Avr Z h ba "java/lang/Object" [.null, .null, .null, .null, .null, .null, .null, .null, .null, .null]) := by
  refine Con.of (plainFor_of_name pn_java_util_ArrayList) #[.val (.ref a1), .val (.int (1 : Int32)), .unset, .unset] (fun m => ef6 m a1 (1 : Int32)) ?_
  intro p e s m below meth c s₁ K hx hby hml hown hnm hret hlk hZ X0 e0
  have N0 := Fr.nil n0
  refine m_aloadN K X0.here hx hby d_jdk_38_6_0 rfl rfl rfl ?_
  refine k_getF K X0 hx hby hZ hown (host := "") (Or.inl (hw _ (List.mem_of_getElem? (i := 40) rfl))) Via.refl e0 F_elementData_a1 d_jdk_38_6_1 rfl fun T1 X1 e1 => ?_
  refine k_len K X1 hx hby hZ (0 : Int32) e1 A_d1 rfl d_jdk_38_6_4 rfl ?_
  refine m_istoreN K X1.here hx hby #[.val (.ref a1), .val (.int (1 : Int32)), .val (.int (0 : Int32)), .unset] d_jdk_38_6_5 rfl rfl ?_
  refine m_iloadN K X1.here hx hby d_jdk_38_6_6 rfl rfl ?_
  refine m_ifN K X1.here hx hby (q := 10) d_jdk_38_6_7 ((if0 _ _).trans (flt (by decide : ¬ ((0 : Int32) < (0 : Int32)))).2.2.1) rfl ?_
  refine m_aloadN K X1.here hx hby d_jdk_38_6_10 rfl rfl rfl ?_
  refine k_getF K X1 hx hby hZ hown (host := "") (Or.inl (hw _ (List.mem_of_getElem? (i := 40) rfl))) Via.refl e1 F_elementData_a1 d_jdk_38_6_11 rfl fun T2 X2 e2 => ?_
  refine k_getS K X2 hx hby hZ hown (host := "") (Or.inl (hw _ (List.mem_of_getElem? (i := 39) rfl))) Via.refl e2 (S_ArrayList_DEFAULTCAPACITY_EMPTY_ELEMENTDATA.ext O0.2) d_jdk_38_6_14 rfl fun T3 X3 e3 => ?_
  refine m_acmp K X3 hx hby (q := 45) true d_jdk_38_6_17 rfl rfl (decide_eq_true rfl) (by decide) rfl ?_
  refine m_aloadN K X3.here hx hby d_jdk_38_6_45 rfl rfl rfl ?_
  refine m_bipush K X3.here hx hby (10 : Int32) d_jdk_38_6_46 rfl rfl ?_
  refine m_iloadN K X3.here hx hby d_jdk_38_6_48 rfl rfl ?_
  refine k_callS K X3 hx hby hZ [(.int (10 : Int32)), (.int (1 : Int32))] [(.ref a1)] hown (hw _ (List.mem_of_getElem? (i := 73) rfl)) (hw _ (List.mem_of_getElem? (i := 74) rfl)) (hw _ (List.mem_of_getElem? (i := 3) rfl)) (hw _ (List.mem_of_getElem? (i := 75) rfl)) (cm3 l Z a0 hw  h0 n0 Z0) e3 rfl rfl pd_1 rfl d_jdk_38_6_49 (by rw [hml]; rfl) rfl (by decide) (by decide) (Nat.le_of_ble_eq_true rfl) (by decide) (by decide) fun v4 T4 L4 X4 q4 => ?_
  obtain ⟨rfl, e4, rfl⟩ := q4
  replace X4 := own_px X4
  refine k_some K (w := (.int (10 : Int32))) ?_
  refine k_newR K X4 hx hby hZ 10 10 hown (hw _ (List.mem_of_getElem? (i := 76) rfl)) (hw _ (List.mem_of_getElem? (i := 77) rfl)) e4 d_jdk_38_6_52 rfl (by decide) rfl (by decide) (by decide) (by decide) (by decide) fun T5 h5 b5 X5 e5 E5 g5 U_b5 => ?_
  have sz_b5 : h0.size ≤ b5 := Nat.le_trans (Nat.le_refl _) (Nat.le_of_eq g5.symm)
  have g_b5 : n0 ≤ b5 := Nat.le_trans Z0 sz_b5
  replace U_b5 : Avr Z h5 b5 "java/lang/Object" [.null, .null, .null, .null, .null, .null, .null, .null, .null, .null] := U_b5
  refine m_dupX1 K X5.here hx hby d_jdk_38_6_55 rfl rfl rfl ?_
  refine k_putF K X5 hx hby hZ hown (host := "") (Or.inl (hw _ (List.mem_of_getElem? (i := 40) rfl))) Via.refl e5 (F_elementData_a1.ext E5) (E_a1.ext E5) (Or.inl (hw _ (List.mem_of_getElem? (i := 41) rfl))) (hw _ (List.mem_of_getElem? (i := 19) rfl)) (ty := (.array (.object "java/lang/Object"))) (by decide) rfl rfl d_jdk_38_6_56 rfl fun T6 h6 X6 e6 W6 => ?_
  have Fw6 := (F_elementData_a1.ext E5).same W6
  have N6 := Fr.snoc X6 N0 g_a1
  exact Go.retO X6 hx hby hlk hret rfl (Or.inr (Or.inr (Or.inr (Or.inr ⟨rfl, rfl, rfl⟩)))) d_jdk_38_6_59 (by decide) (by decide) (by rw [e6]; exact ⟨b5, rfl, N6, (((Keep.refl h0 [a1]).ext E5).wr W6 (Or.inl (by simp))), sz_b5, ((F_modCount_a1.ext E5).other W6 (Or.inr (slot_ne (Or.inl (hw _ (List.mem_of_getElem? (i := 38) rfl))) (Or.inl (hw _ (List.mem_of_getElem? (i := 41) rfl))) (by decide) (t := .int) (t' := (.array (.object "java/lang/Object"))) (by decide) (by decide)))), Fw6, ((F_size_a1.ext E5).other W6 (Or.inr (slot_ne (Or.inl (hw _ (List.mem_of_getElem? (i := 57) rfl))) (Or.inl (hw _ (List.mem_of_getElem? (i := 41) rfl))) (by decide) (t := .int) (t' := (.array (.object "java/lang/Object"))) (by decide) (by decide)))), (U_b5.other W6 (Ne.symm (Nat.ne_of_lt (Nat.lt_of_lt_of_le (Nat.lt_of_lt_of_le E_a1.lt (Nat.le_refl _)) (Nat.le_of_eq g5.symm)))))⟩)
theorem d_jdk_38_7_0 : decode jdk_38_method_7_code 0 = .ok (.aload_n 0, 1) := by decide +kernel
theorem d_jdk_38_7_1 : decode jdk_38_method_7_code 1 = .ok (.aload_n 0, 1) := by decide +kernel
theorem d_jdk_38_7_2 : decode jdk_38_method_7_code 2 = .ok (.getfield 48, 3) := by decide +kernel
theorem d_jdk_38_7_5 : decode jdk_38_method_7_code 5 = .ok (.iconst 1, 1) := by decide +kernel
theorem d_jdk_38_7_6 : decode jdk_38_method_7_code 6 = .ok (.iadd, 1) := by decide +kernel
theorem d_jdk_38_7_7 : decode jdk_38_method_7_code 7 = .ok (.invokevirtual 69, 3) := by decide +kernel
theorem d_jdk_38_7_10 : decode jdk_38_method_7_code 10 = .ok (.areturn, 1) := by decide +kernel
theorem pd_2 : parseMethodDescriptor "(I)[Ljava/lang/Object;" = some ⟨[.int], some (.array (.object "java/lang/Object"))⟩ := by decide +kernel
theorem ef7 (m : MethodId) (x0 : Addr) : entryFrame m #[(.ref x0)] 1 = mkF m 0 #[.val (.ref x0)] [] := by first | (simp [entryFrame, mkF, argsToLocals, Value.category]; done) | rfl
set_option maxRecDepth 65536 in
set_option maxHeartbeats 40000000 in
theorem c7 (l : Launch) (Z : State) (a0 : Array Value) (hw : ∀ d ∈ tables_1, d.before a0 Z = true) (a1 : Addr) (d1 : Addr) (h0 : Heap) (n0 : Nat) (Z0 : n0 ≤ h0.size) (E_a1 : Exa Z h0 a1 "java/util/ArrayList") (F_modCount_a1 : Fld Z h0 a1 "java/util/AbstractList" "modCount" "I" (.int (1 : Int32))) (F_elementData_a1 : Fld Z h0 a1 "java/util/ArrayList" "elementData" "[Ljava/lang/Object;" (.ref d1)) (F_size_a1 : Fld Z h0 a1 "java/util/ArrayList" "size" "I" (.int (0 : Int32))) (A_d1 : Av Z h0 d1 (.object "java/lang/Object") []) (S_ArrayList_DEFAULTCAPACITY_EMPTY_ELEMENTDATA : Sta Z Z.heap "java/util/ArrayList" "DEFAULTCAPACITY_EMPTY_ELEMENTDATA" "[Ljava/lang/Object;" (.ref d1)) (O0 : Old Z n0 h0) (g_a1 : n0 ≤ a1) :
    Con l Z (⟨"java/util/ArrayList", "grow", "()[Ljava/lang/Object;"⟩ : MethodName) jdk_38_method_7_code 1 (some (.array (.object "java/lang/Object"))) ({ frames := 2, cells := 1, slots := 10, locals := 29 } : Room) [] #[(.ref a1)] h0 (fun v h L => ∃ ba : Addr, v = some (.ref ba) ∧ Fr n0 L ∧ Keep h0 h [a1] ∧ h0.size ≤ ba ∧ Fld Z h a1 "java/util/AbstractList" "modCount" "I" (.int (1 : Int32)) ∧ Fld Z h a1 "java/util/ArrayList" "elementData" "[Ljava/lang/Object;" (.ref ba) ∧ Fld Z h a1 "java/util/ArrayList" "size" "I" (.int (0 : Int32)) ∧ Avr Z h ba "java/lang/Object" [.null, .null, .null, .null, .null, .null, .null, .null, .null, .null]) := by
  refine Con.of (plainFor_of_name pn_java_util_ArrayList) #[.val (.ref a1)] (fun m => ef7 m a1) ?_
  intro p e s m below meth c s₁ K hx hby hml hown hnm hret hlk hZ X0 e0
  have N0 := Fr.nil n0
  refine m_aloadN K X0.here hx hby d_jdk_38_7_0 rfl rfl rfl ?_
  refine m_aloadN K X0.here hx hby d_jdk_38_7_1 rfl rfl rfl ?_
  refine k_getF K X0 hx hby hZ hown (host := "") (Or.inl (hw _ (List.mem_of_getElem? (i := 56) rfl))) Via.refl e0 F_size_a1 d_jdk_38_7_2 rfl fun T1 X1 e1 => ?_
  refine m_iconst K X1.here hx hby (1 : Int32) d_jdk_38_7_5 rfl rfl ?_
  refine m_iadd K X1.here hx hby (1 : Int32) d_jdk_38_7_6 rfl rfl ?_
  refine k_callR K X1 hx hby hZ a1 [(.int (1 : Int32))] [] hown (hw _ (List.mem_of_getElem? (i := 68) rfl)) (hw _ (List.mem_of_getElem? (i := 69) rfl)) (hw _ (List.mem_of_getElem? (i := 71) rfl)) (hw _ (List.mem_of_getElem? (i := 70) rfl)) (hw _ (List.mem_of_getElem? (i := 20) rfl)) (hw _ (List.mem_of_getElem? (i := 72) rfl)) (c6 l Z a0 hw a1 d1 h0 n0 Z0 E_a1 F_modCount_a1 F_elementData_a1 F_size_a1 A_d1 S_ArrayList_DEFAULTCAPACITY_EMPTY_ELEMENTDATA O0 g_a1) e1 E_a1 rfl rfl pd_2 rfl d_jdk_38_7_7 (by rw [hml]; rfl) rfl (by decide) (by decide) (Nat.le_of_ble_eq_true rfl) (by decide) (by decide) fun v2 T2 L2 X2 q2 => ?_
  obtain ⟨b2_ba, rfl, Nq2, K2, sq_b2_ba, Fp2_0, Fp2_1, Fp2_2, Ap2_0⟩ := q2
  have N2 := Fr.app N0 Nq2
  have sz_b2_ba : h0.size ≤ b2_ba := Nat.le_trans (Nat.le_refl _) sq_b2_ba
  have g_b2_ba : n0 ≤ b2_ba := Nat.le_trans Z0 sz_b2_ba
  refine k_some K (w := (.ref b2_ba)) ?_
  exact Go.retO X2 hx hby hlk hret rfl (Or.inr (Or.inr (Or.inr (Or.inr ⟨rfl, rfl, rfl⟩)))) d_jdk_38_7_10 (by decide) (by decide) (⟨b2_ba, rfl, N2, ((Keep.refl h0 [a1]).trans K2 (allS (Or.inl (by simp)) all0)), sz_b2_ba, Fp2_0, Fp2_1, Fp2_2, Ap2_0⟩)
theorem d_jdk_38_24_0 : decode jdk_38_method_24_code 0 = .ok (.iload_n 3, 1) := by decide +kernel
theorem d_jdk_38_24_1 : decode jdk_38_method_24_code 1 = .ok (.aload_n 2, 1) := by decide +kernel
theorem d_jdk_38_24_2 : decode jdk_38_method_24_code 2 = .ok (.arraylength, 1) := by decide +kernel
theorem d_jdk_38_24_3 : decode jdk_38_method_24_code 3 = .ok (.if_icmp .ne 8, 3) := by decide +kernel
theorem d_jdk_38_24_6 : decode jdk_38_method_24_code 6 = .ok (.aload_n 0, 1) := by decide +kernel
theorem d_jdk_38_24_7 : decode jdk_38_method_24_code 7 = .ok (.invokevirtual 129, 3) := by decide +kernel
theorem d_jdk_38_24_10 : decode jdk_38_method_24_code 10 = .ok (.astore_n 2, 1) := by decide +kernel
theorem d_jdk_38_24_11 : decode jdk_38_method_24_code 11 = .ok (.aload_n 2, 1) := by decide +kernel
theorem d_jdk_38_24_12 : decode jdk_38_method_24_code 12 = .ok (.iload_n 3, 1) := by decide +kernel
theorem d_jdk_38_24_13 : decode jdk_38_method_24_code 13 = .ok (.aload_n 1, 1) := by decide +kernel
theorem d_jdk_38_24_14 : decode jdk_38_method_24_code 14 = .ok (.aastore, 1) := by decide +kernel
theorem d_jdk_38_24_15 : decode jdk_38_method_24_code 15 = .ok (.aload_n 0, 1) := by decide +kernel
theorem d_jdk_38_24_16 : decode jdk_38_method_24_code 16 = .ok (.iload_n 3, 1) := by decide +kernel
theorem d_jdk_38_24_17 : decode jdk_38_method_24_code 17 = .ok (.iconst 1, 1) := by decide +kernel
theorem d_jdk_38_24_18 : decode jdk_38_method_24_code 18 = .ok (.iadd, 1) := by decide +kernel
theorem d_jdk_38_24_19 : decode jdk_38_method_24_code 19 = .ok (.putfield 48, 3) := by decide +kernel
theorem d_jdk_38_24_22 : decode jdk_38_method_24_code 22 = .ok (.return_, 1) := by decide +kernel
theorem pd_3 : parseMethodDescriptor "()[Ljava/lang/Object;" = some ⟨[], some (.array (.object "java/lang/Object"))⟩ := by decide +kernel
theorem ef8 (m : MethodId) (x0 : Addr) (x1 : Addr) (x2 : Addr) (x3 : Int32) : entryFrame m #[(.ref x0), (.ref x1), (.ref x2), (.int x3)] 4 = mkF m 0 #[.val (.ref x0), .val (.ref x1), .val (.ref x2), .val (.int x3)] [] := by first | (simp [entryFrame, mkF, argsToLocals, Value.category]; done) | rfl
set_option maxRecDepth 65536 in
set_option maxHeartbeats 40000000 in
theorem c8 (l : Launch) (Z : State) (a0 : Array Value) (hw : ∀ d ∈ tables_1, d.before a0 Z = true) (a1 : Addr) (a2 : Addr) (d1 : Addr) (h0 : Heap) (n0 : Nat) (Z0 : n0 ≤ h0.size) (E_a1 : Exa Z h0 a1 "java/util/ArrayList") (E_a2 : Exa Z h0 a2 "java/lang/Integer") (F_modCount_a1 : Fld Z h0 a1 "java/util/AbstractList" "modCount" "I" (.int (1 : Int32))) (F_elementData_a1 : Fld Z h0 a1 "java/util/ArrayList" "elementData" "[Ljava/lang/Object;" (.ref d1)) (F_size_a1 : Fld Z h0 a1 "java/util/ArrayList" "size" "I" (.int (0 : Int32))) (A_d1 : Av Z h0 d1 (.object "java/lang/Object") []) (S_ArrayList_DEFAULTCAPACITY_EMPTY_ELEMENTDATA : Sta Z Z.heap "java/util/ArrayList" "DEFAULTCAPACITY_EMPTY_ELEMENTDATA" "[Ljava/lang/Object;" (.ref d1)) (O0 : Old Z n0 h0) (g_a1 : n0 ≤ a1) :
    Con l Z (⟨"java/util/ArrayList", "add", "(Ljava/lang/Object;[Ljava/lang/Object;I)V"⟩ : MethodName) jdk_38_method_24_code 4 none ({ frames := 3, cells := 1, slots := 10, locals := 41 } : Room) [] #[(.ref a1), (.ref a2), (.ref d1), (.int (0 : Int32))] h0 (fun v h L => ∃ ba : Addr, v = none ∧ Fr n0 L ∧ Keep h0 h [a1] ∧ h0.size ≤ ba ∧ Fld Z h a1 "java/util/AbstractList" "modCount" "I" (.int (1 : Int32)) ∧ Fld Z h a1 "java/util/ArrayList" "elementData" "[Ljava/lang/Object;" (.ref ba) ∧ Fld Z h a1 "java/util/ArrayList" "size" "I" (.int (1 : Int32)) ∧ Avr Z h ba "java/lang/Object" [(.ref a2), .null, .null, .null, .null, .null, .null, .null, .null, .null]) := by
  refine Con.of (plainFor_of_name pn_java_util_ArrayList) #[.val (.ref a1), .val (.ref a2), .val (.ref d1), .val (.int (0 : Int32))] (fun m => ef8 m a1 a2 d1 (0 : Int32)) ?_
  intro p e s m below meth c s₁ K hx hby hml hown hnm hret hlk hZ X0 e0
  have N0 := Fr.nil n0
  refine m_iloadN K X0.here hx hby d_jdk_38_24_0 rfl rfl ?_
  refine m_aloadN K X0.here hx hby d_jdk_38_24_1 rfl rfl rfl ?_
  refine k_len K X0 hx hby hZ (0 : Int32) e0 A_d1 rfl d_jdk_38_24_2 rfl ?_
  refine m_icmpN K X0.here hx hby (q := 6) d_jdk_38_24_3 (teq (by decide : (0 : Int32) = (0 : Int32))).2 rfl ?_
  refine m_aloadN K X0.here hx hby d_jdk_38_24_6 rfl rfl rfl ?_
  refine k_callR K X0 hx hby hZ a1 [] [] hown (hw _ (List.mem_of_getElem? (i := 63) rfl)) (hw _ (List.mem_of_getElem? (i := 64) rfl)) (hw _ (List.mem_of_getElem? (i := 66) rfl)) (hw _ (List.mem_of_getElem? (i := 65) rfl)) (hw _ (List.mem_of_getElem? (i := 20) rfl)) (hw _ (List.mem_of_getElem? (i := 67) rfl)) (c7 l Z a0 hw a1 d1 h0 n0 Z0 E_a1 F_modCount_a1 F_elementData_a1 F_size_a1 A_d1 S_ArrayList_DEFAULTCAPACITY_EMPTY_ELEMENTDATA O0 g_a1) e0 E_a1 rfl rfl pd_3 rfl d_jdk_38_24_7 (by rw [hml]; rfl) rfl (by decide) (by decide) (Nat.le_of_ble_eq_true rfl) (by decide) (by decide) fun v1 T1 L1 X1 q1 => ?_
  obtain ⟨b1_ba, rfl, Nq1, K1, sq_b1_ba, Fp1_0, Fp1_1, Fp1_2, Ap1_0⟩ := q1
  have N1 := Fr.app N0 Nq1
  have sz_b1_ba : h0.size ≤ b1_ba := Nat.le_trans (Nat.le_refl _) sq_b1_ba
  have g_b1_ba : n0 ≤ b1_ba := Nat.le_trans Z0 sz_b1_ba
  refine k_some K (w := (.ref b1_ba)) ?_
  refine m_astoreN K X1.here hx hby #[.val (.ref a1), .val (.ref a2), .val (.ref b1_ba), .val (.int (0 : Int32))] d_jdk_38_24_10 rfl rfl rfl ?_
  refine m_aloadN K X1.here hx hby d_jdk_38_24_11 rfl rfl rfl ?_
  refine m_iloadN K X1.here hx hby d_jdk_38_24_12 rfl rfl ?_
  refine m_aloadN K X1.here hx hby d_jdk_38_24_13 rfl rfl rfl ?_
  refine k_stR K X1 hx hby hZ rfl Ap1_0 (by decide) (Nat.le_of_ble_eq_true rfl) (Or.inr ⟨_, rfl, (Ins.of_exa (E_a2.keep K1) (hw _ (List.mem_of_getElem? (i := 78) rfl)))⟩) d_jdk_38_24_14 rfl fun T2 h2 X2 e2 W2 V2 => ?_
  replace V2 : Avr Z h2 b1_ba "java/lang/Object" [(.ref a2), .null, .null, .null, .null, .null, .null, .null, .null, .null] := V2
  have N2 := Fr.snoc X2 N1 g_b1_ba
  refine m_aloadN K X2.here hx hby d_jdk_38_24_15 rfl rfl rfl ?_
  refine m_iloadN K X2.here hx hby d_jdk_38_24_16 rfl rfl ?_
  refine m_iconst K X2.here hx hby (1 : Int32) d_jdk_38_24_17 rfl rfl ?_
  refine m_iadd K X2.here hx hby (1 : Int32) d_jdk_38_24_18 rfl rfl ?_
  refine k_putF K X2 hx hby hZ hown (host := "") (Or.inl (hw _ (List.mem_of_getElem? (i := 56) rfl))) Via.refl e2 (Fp1_2.other W2 (Or.inl (Nat.ne_of_lt (Nat.lt_of_lt_of_le (Nat.lt_of_lt_of_le E_a1.lt (Nat.le_refl _)) sq_b1_ba)))) ((E_a1.keep K1).wr W2) (Or.inl (hw _ (List.mem_of_getElem? (i := 57) rfl))) (hw _ (List.mem_of_getElem? (i := 19) rfl)) (ty := .int) (by decide) rfl rfl d_jdk_38_24_19 rfl fun T3 h3 X3 e3 W3 => ?_
  have Fw3 := (Fp1_2.other W2 (Or.inl (Nat.ne_of_lt (Nat.lt_of_lt_of_le (Nat.lt_of_lt_of_le E_a1.lt (Nat.le_refl _)) sq_b1_ba)))).same W3
  have N3 := Fr.snoc X3 N2 g_a1
  exact Go.retV X3 hx hby hlk hret d_jdk_38_24_22 (by decide) (by decide) (by rw [e3]; exact ⟨b1_ba, rfl, N3, ((((Keep.refl h0 [a1]).trans K1 (allS (Or.inl (by simp)) all0)).wr W2 (Or.inr sz_b1_ba)).wr W3 (Or.inl (by simp))), sz_b1_ba, ((Fp1_0.other W2 (Or.inl (Nat.ne_of_lt (Nat.lt_of_lt_of_le (Nat.lt_of_lt_of_le E_a1.lt (Nat.le_refl _)) sq_b1_ba)))).other W3 (Or.inr (slot_ne (Or.inl (hw _ (List.mem_of_getElem? (i := 38) rfl))) (Or.inl (hw _ (List.mem_of_getElem? (i := 57) rfl))) (by decide) (t := .int) (t' := .int) (by decide) (by decide)))), ((Fp1_1.other W2 (Or.inl (Nat.ne_of_lt (Nat.lt_of_lt_of_le (Nat.lt_of_lt_of_le E_a1.lt (Nat.le_refl _)) sq_b1_ba)))).other W3 (Or.inr (slot_ne (Or.inl (hw _ (List.mem_of_getElem? (i := 41) rfl))) (Or.inl (hw _ (List.mem_of_getElem? (i := 57) rfl))) (by decide) (t := (.array (.object "java/lang/Object"))) (t' := .int) (by decide) (by decide)))), Fw3, (V2.other W3 (Ne.symm (Nat.ne_of_lt (Nat.lt_of_lt_of_le (Nat.lt_of_lt_of_le E_a1.lt (Nat.le_refl _)) sq_b1_ba))))⟩)
theorem d_jdk_38_25_0 : decode jdk_38_method_25_code 0 = .ok (.aload_n 0, 1) := by decide +kernel
theorem d_jdk_38_25_1 : decode jdk_38_method_25_code 1 = .ok (.dup, 1) := by decide +kernel
theorem d_jdk_38_25_2 : decode jdk_38_method_25_code 2 = .ok (.getfield 63, 3) := by decide +kernel
theorem d_jdk_38_25_5 : decode jdk_38_method_25_code 5 = .ok (.iconst 1, 1) := by decide +kernel
theorem d_jdk_38_25_6 : decode jdk_38_method_25_code 6 = .ok (.iadd, 1) := by decide +kernel
theorem d_jdk_38_25_7 : decode jdk_38_method_25_code 7 = .ok (.putfield 63, 3) := by decide +kernel
theorem d_jdk_38_25_10 : decode jdk_38_method_25_code 10 = .ok (.aload_n 0, 1) := by decide +kernel
theorem d_jdk_38_25_11 : decode jdk_38_method_25_code 11 = .ok (.aload_n 1, 1) := by decide +kernel
theorem d_jdk_38_25_12 : decode jdk_38_method_25_code 12 = .ok (.aload_n 0, 1) := by decide +kernel
theorem d_jdk_38_25_13 : decode jdk_38_method_25_code 13 = .ok (.getfield 9, 3) := by decide +kernel
theorem d_jdk_38_25_16 : decode jdk_38_method_25_code 16 = .ok (.aload_n 0, 1) := by decide +kernel
theorem d_jdk_38_25_17 : decode jdk_38_method_25_code 17 = .ok (.getfield 48, 3) := by decide +kernel
theorem d_jdk_38_25_20 : decode jdk_38_method_25_code 20 = .ok (.invokevirtual 131, 3) := by decide +kernel
theorem d_jdk_38_25_23 : decode jdk_38_method_25_code 23 = .ok (.iconst 1, 1) := by decide +kernel
theorem d_jdk_38_25_24 : decode jdk_38_method_25_code 24 = .ok (.ireturn, 1) := by decide +kernel
theorem pd_4 : parseMethodDescriptor "(Ljava/lang/Object;[Ljava/lang/Object;I)V" = some ⟨[(.object "java/lang/Object"), (.array (.object "java/lang/Object")), .int], none⟩ := by decide +kernel
theorem ef9 (m : MethodId) (x0 : Addr) (x1 : Addr) : entryFrame m #[(.ref x0), (.ref x1)] 2 = mkF m 0 #[.val (.ref x0), .val (.ref x1)] [] := by first | (simp [entryFrame, mkF, argsToLocals, Value.category]; done) | rfl
set_option maxRecDepth 65536 in
set_option maxHeartbeats 40000000 in
theorem c9 (l : Launch) (Z : State) (a0 : Array Value) (hw : ∀ d ∈ tables_1, d.before a0 Z = true) (a1 : Addr) (a2 : Addr) (d1 : Addr) (h0 : Heap) (n0 : Nat) (Z0 : n0 ≤ h0.size) (E_a1 : Exa Z h0 a1 "java/util/ArrayList") (E_a2 : Exa Z h0 a2 "java/lang/Integer") (F_modCount_a1 : Fld Z h0 a1 "java/util/AbstractList" "modCount" "I" (.int (0 : Int32))) (F_elementData_a1 : Fld Z h0 a1 "java/util/ArrayList" "elementData" "[Ljava/lang/Object;" (.ref d1)) (F_size_a1 : Fld Z h0 a1 "java/util/ArrayList" "size" "I" (.int (0 : Int32))) (A_d1 : Av Z h0 d1 (.object "java/lang/Object") []) (S_ArrayList_DEFAULTCAPACITY_EMPTY_ELEMENTDATA : Sta Z Z.heap "java/util/ArrayList" "DEFAULTCAPACITY_EMPTY_ELEMENTDATA" "[Ljava/lang/Object;" (.ref d1)) (O0 : Old Z n0 h0) (g_a1 : n0 ≤ a1) (ne_d1_a1 : d1 ≠ a1) :
    Con l Z (⟨"java/util/ArrayList", "add", "(Ljava/lang/Object;)Z"⟩ : MethodName) jdk_38_method_25_code 2 (some .boolean) ({ frames := 4, cells := 1, slots := 10, locals := 56 } : Room) [] #[(.ref a1), (.ref a2)] h0 (fun v h L => ∃ ba : Addr, v = some (.int (1 : Int32)) ∧ Fr n0 L ∧ Keep h0 h [a1] ∧ h0.size ≤ ba ∧ Fld Z h a1 "java/util/AbstractList" "modCount" "I" (.int (1 : Int32)) ∧ Fld Z h a1 "java/util/ArrayList" "elementData" "[Ljava/lang/Object;" (.ref ba) ∧ Fld Z h a1 "java/util/ArrayList" "size" "I" (.int (1 : Int32))) := by
  refine Con.of (plainFor_of_name pn_java_util_ArrayList) #[.val (.ref a1), .val (.ref a2)] (fun m => ef9 m a1 a2) ?_
  intro p e s m below meth c s₁ K hx hby hml hown hnm hret hlk hZ X0 e0
  have N0 := Fr.nil n0
  refine m_aloadN K X0.here hx hby d_jdk_38_25_0 rfl rfl rfl ?_
  refine m_dup K X0.here hx hby d_jdk_38_25_1 rfl rfl ?_
  refine k_getF K X0 hx hby hZ hown (host := "") (Or.inl (hw _ (List.mem_of_getElem? (i := 54) rfl))) (Via.of (hw _ (List.mem_of_getElem? (i := 55) rfl))) e0 F_modCount_a1 d_jdk_38_25_2 rfl fun T1 X1 e1 => ?_
  refine m_iconst K X1.here hx hby (1 : Int32) d_jdk_38_25_5 rfl rfl ?_
  refine m_iadd K X1.here hx hby (1 : Int32) d_jdk_38_25_6 rfl rfl ?_
  refine k_putF K X1 hx hby hZ hown (host := "") (Or.inl (hw _ (List.mem_of_getElem? (i := 54) rfl))) (Via.of (hw _ (List.mem_of_getElem? (i := 55) rfl))) e1 F_modCount_a1 E_a1 (Or.inl (hw _ (List.mem_of_getElem? (i := 38) rfl))) (hw _ (List.mem_of_getElem? (i := 19) rfl)) (ty := .int) (by decide) rfl rfl d_jdk_38_25_7 rfl fun T2 h2 X2 e2 W2 => ?_
  have Fw2 := F_modCount_a1.same W2
  have N2 := Fr.snoc X2 N0 g_a1
  refine m_aloadN K X2.here hx hby d_jdk_38_25_10 rfl rfl rfl ?_
  refine m_aloadN K X2.here hx hby d_jdk_38_25_11 rfl rfl rfl ?_
  refine m_aloadN K X2.here hx hby d_jdk_38_25_12 rfl rfl rfl ?_
  refine k_getF K X2 hx hby hZ hown (host := "") (Or.inl (hw _ (List.mem_of_getElem? (i := 40) rfl))) Via.refl e2 (F_elementData_a1.other W2 (Or.inr (slot_ne (Or.inl (hw _ (List.mem_of_getElem? (i := 41) rfl))) (Or.inl (hw _ (List.mem_of_getElem? (i := 38) rfl))) (by decide) (t := (.array (.object "java/lang/Object"))) (t' := .int) (by decide) (by decide)))) d_jdk_38_25_13 rfl fun T3 X3 e3 => ?_
  refine m_aloadN K X3.here hx hby d_jdk_38_25_16 rfl rfl rfl ?_
  refine k_getF K X3 hx hby hZ hown (host := "") (Or.inl (hw _ (List.mem_of_getElem? (i := 56) rfl))) Via.refl e3 (F_size_a1.other W2 (Or.inr (slot_ne (Or.inl (hw _ (List.mem_of_getElem? (i := 57) rfl))) (Or.inl (hw _ (List.mem_of_getElem? (i := 38) rfl))) (by decide) (t := .int) (t' := .int) (by decide) (by decide)))) d_jdk_38_25_17 rfl fun T4 X4 e4 => ?_
  refine k_callR K X4 hx hby hZ a1 [(.ref a2), (.ref d1), (.int (0 : Int32))] [] hown (hw _ (List.mem_of_getElem? (i := 58) rfl)) (hw _ (List.mem_of_getElem? (i := 59) rfl)) (hw _ (List.mem_of_getElem? (i := 61) rfl)) (hw _ (List.mem_of_getElem? (i := 60) rfl)) (hw _ (List.mem_of_getElem? (i := 20) rfl)) (hw _ (List.mem_of_getElem? (i := 62) rfl)) (c8 l Z a0 hw a1 a2 d1 h2 n0 (Nat.le_trans Z0 (Nat.le_trans (Nat.le_refl _) (Keep.of_wr W2).1)) (E_a1.wr W2) (E_a2.wr W2) Fw2 (F_elementData_a1.other W2 (Or.inr (slot_ne (Or.inl (hw _ (List.mem_of_getElem? (i := 41) rfl))) (Or.inl (hw _ (List.mem_of_getElem? (i := 38) rfl))) (by decide) (t := (.array (.object "java/lang/Object"))) (t' := .int) (by decide) (by decide)))) (F_size_a1.other W2 (Or.inr (slot_ne (Or.inl (hw _ (List.mem_of_getElem? (i := 57) rfl))) (Or.inl (hw _ (List.mem_of_getElem? (i := 38) rfl))) (by decide) (t := .int) (t' := .int) (by decide) (by decide)))) (A_d1.other W2 ne_d1_a1) S_ArrayList_DEFAULTCAPACITY_EMPTY_ELEMENTDATA (O0.wr W2 g_a1) g_a1) e4 (E_a1.wr W2) rfl rfl pd_4 rfl d_jdk_38_25_20 (by rw [hml]; rfl) rfl (by decide) (by decide) (Nat.le_of_ble_eq_true rfl) (by decide) (by decide) fun v5 T5 L5 X5 q5 => ?_
  obtain ⟨b5_ba, rfl, Nq5, K5, sq_b5_ba, Fp5_0, Fp5_1, Fp5_2, Ap5_0⟩ := q5
  have N5 := Fr.app N2 Nq5
  have sz_b5_ba : h0.size ≤ b5_ba := Nat.le_trans (Nat.le_trans (Nat.le_refl _) (Keep.of_wr W2).1) sq_b5_ba
  have g_b5_ba : n0 ≤ b5_ba := Nat.le_trans Z0 sz_b5_ba
  refine k_none K ?_
  refine m_iconst K X5.here hx hby (1 : Int32) d_jdk_38_25_23 rfl rfl ?_
  exact Go.retN X5 hx hby hlk hret (by simp) d_jdk_38_25_24 (by decide) (by decide) (by decide) (⟨b5_ba, rfl, N5, (((Keep.refl h0 [a1]).wr W2 (Or.inl (by simp))).trans K5 (allS (Or.inl (by simp)) all0)), sz_b5_ba, Fp5_0, Fp5_1, Fp5_2⟩)
theorem d_jdk_38_8_0 : decode jdk_38_method_8_code 0 = .ok (.aload_n 0, 1) := by decide +kernel
theorem d_jdk_38_8_1 : decode jdk_38_method_8_code 1 = .ok (.getfield 48, 3) := by decide +kernel
theorem d_jdk_38_8_4 : decode jdk_38_method_8_code 4 = .ok (.ireturn, 1) := by decide +kernel
theorem ef10 (m : MethodId) (x0 : Addr) : entryFrame m #[(.ref x0)] 1 = mkF m 0 #[.val (.ref x0)] [] := by first | (simp [entryFrame, mkF, argsToLocals, Value.category]; done) | rfl
set_option maxRecDepth 65536 in
set_option maxHeartbeats 40000000 in
theorem c10 (l : Launch) (Z : State) (a0 : Array Value) (hw : ∀ d ∈ tables_1, d.before a0 Z = true) (a1 : Addr) (u1 : Int32) (h0 : Heap) (n0 : Nat) (Z0 : n0 ≤ h0.size) (F_size_a1 : Fld Z h0 a1 "java/util/ArrayList" "size" "I" (.int u1)) :
    Con l Z (⟨"java/util/ArrayList", "size", "()I"⟩ : MethodName) jdk_38_method_8_code 1 (some .int) ({ frames := 0, cells := 0, slots := 0, locals := 0 } : Room) [] #[(.ref a1)] h0 (fun v h L => v = some (.int u1) ∧ h = h0 ∧ L = []) := by
  refine Con.of (plainFor_of_name pn_java_util_ArrayList) #[.val (.ref a1)] (fun m => ef10 m a1) ?_
  intro p e s m below meth c s₁ K hx hby hml hown hnm hret hlk hZ X0 e0
  have N0 := Fr.nil n0
  refine m_aloadN K X0.here hx hby d_jdk_38_8_0 rfl rfl rfl ?_
  refine k_getF K X0 hx hby hZ hown (host := "") (Or.inl (hw _ (List.mem_of_getElem? (i := 56) rfl))) Via.refl e0 F_size_a1 d_jdk_38_8_1 rfl fun T1 X1 e1 => ?_
  exact Go.retI X1 hx hby hlk hret d_jdk_38_8_4 (by decide) (by decide) (⟨rfl, e1, rfl⟩)
theorem d_jdk_39_15_0 : decode jdk_39_method_15_code 0 = .ok (.iload_n 0, 1) := by decide +kernel
theorem d_jdk_39_15_1 : decode jdk_39_method_15_code 1 = .ok (.ifCond .ge 30, 3) := by decide +kernel
theorem d_jdk_39_15_31 : decode jdk_39_method_15_code 31 = .ok (.iload_n 1, 1) := by decide +kernel
theorem d_jdk_39_15_32 : decode jdk_39_method_15_code 32 = .ok (.iload_n 2, 1) := by decide +kernel
theorem d_jdk_39_15_33 : decode jdk_39_method_15_code 33 = .ok (.if_icmp .le 30, 3) := by decide +kernel
theorem d_jdk_39_15_63 : decode jdk_39_method_15_code 63 = .ok (.iload_n 0, 1) := by decide +kernel
theorem d_jdk_39_15_64 : decode jdk_39_method_15_code 64 = .ok (.iload_n 1, 1) := by decide +kernel
theorem d_jdk_39_15_65 : decode jdk_39_method_15_code 65 = .ok (.if_icmp .le 44, 3) := by decide +kernel
theorem d_jdk_39_15_109 : decode jdk_39_method_15_code 109 = .ok (.return_, 1) := by decide +kernel
theorem ef11 (m : MethodId) (x0 : Int32) (x1 : Int32) (x2 : Int32) : entryFrame m #[(.int x0), (.int x1), (.int x2)] 3 = mkF m 0 #[.val (.int x0), .val (.int x1), .val (.int x2)] [] := by first | (simp [entryFrame, mkF, argsToLocals, Value.category]; done) | rfl
set_option maxRecDepth 65536 in
set_option maxHeartbeats 40000000 in
theorem c11 (l : Launch) (Z : State) (a0 : Array Value) (hw : ∀ d ∈ tables_1, d.before a0 Z = true) (p1 : Int32) (h0 : Heap) (n0 : Nat) (Z0 : n0 ≤ h0.size) (ha0 : ¬ (p1 < (0 : Int32))) (ha1 : ¬ ((1 : Int32) < p1)) :
    Con l Z (⟨"java/util/AbstractList", "subListRangeCheck", "(III)V"⟩ : MethodName) jdk_39_method_15_code 3 none ({ frames := 0, cells := 0, slots := 0, locals := 0 } : Room) [] #[(.int p1), (.int (1 : Int32)), (.int (1 : Int32))] h0 (fun v h L => v = none ∧ h = h0 ∧ L = []) := by
  refine Con.of (plainFor_of_name pn_java_util_AbstractList) #[.val (.int p1), .val (.int (1 : Int32)), .val (.int (1 : Int32))] (fun m => ef11 m p1 (1 : Int32) (1 : Int32)) ?_
  intro p e s m below meth c s₁ K hx hby hml hown hnm hret hlk hZ X0 e0
  have N0 := Fr.nil n0
  refine m_iloadN K X0.here hx hby d_jdk_39_15_0 rfl rfl ?_
  refine m_ifY K X0.here hx hby (q := 31) d_jdk_39_15_1 ((if0 _ _).trans (flt ha0).2.1) (by decide) rfl ?_
  refine m_iloadN K X0.here hx hby d_jdk_39_15_31 rfl rfl ?_
  refine m_iloadN K X0.here hx hby d_jdk_39_15_32 rfl rfl ?_
  refine m_icmpY K X0.here hx hby (q := 63) d_jdk_39_15_33 (flt (by decide : ¬ ((1 : Int32) < (1 : Int32)))).2.2.2 (by decide) rfl ?_
  refine m_iloadN K X0.here hx hby d_jdk_39_15_63 rfl rfl ?_
  refine m_iloadN K X0.here hx hby d_jdk_39_15_64 rfl rfl ?_
  refine m_icmpY K X0.here hx hby (q := 109) d_jdk_39_15_65 (flt ha1).2.2.2 (by decide) rfl ?_
  exact Go.retV X0 hx hby hlk hret d_jdk_39_15_109 (by decide) (by decide) (⟨rfl, e0, rfl⟩)
theorem d_jdk_130_1_0 : decode jdk_130_method_1_code 0 = .ok (.aload_n 0, 1) := by decide +kernel
theorem d_jdk_130_1_1 : decode jdk_130_method_1_code 1 = .ok (.invokespecial 1, 3) := by decide +kernel
theorem d_jdk_130_1_4 : decode jdk_130_method_1_code 4 = .ok (.aload_n 0, 1) := by decide +kernel
theorem d_jdk_130_1_5 : decode jdk_130_method_1_code 5 = .ok (.aload_n 1, 1) := by decide +kernel
theorem d_jdk_130_1_6 : decode jdk_130_method_1_code 6 = .ok (.putfield 7, 3) := by decide +kernel
theorem d_jdk_130_1_9 : decode jdk_130_method_1_code 9 = .ok (.aload_n 0, 1) := by decide +kernel
theorem d_jdk_130_1_10 : decode jdk_130_method_1_code 10 = .ok (.aconst_null, 1) := by decide +kernel
theorem d_jdk_130_1_11 : decode jdk_130_method_1_code 11 = .ok (.putfield 13, 3) := by decide +kernel
theorem d_jdk_130_1_14 : decode jdk_130_method_1_code 14 = .ok (.aload_n 0, 1) := by decide +kernel
theorem d_jdk_130_1_15 : decode jdk_130_method_1_code 15 = .ok (.iload_n 2, 1) := by decide +kernel
theorem d_jdk_130_1_16 : decode jdk_130_method_1_code 16 = .ok (.putfield 17, 3) := by decide +kernel
theorem d_jdk_130_1_19 : decode jdk_130_method_1_code 19 = .ok (.aload_n 0, 1) := by decide +kernel
theorem d_jdk_130_1_20 : decode jdk_130_method_1_code 20 = .ok (.iload_n 3, 1) := by decide +kernel
theorem d_jdk_130_1_21 : decode jdk_130_method_1_code 21 = .ok (.iload_n 2, 1) := by decide +kernel
theorem d_jdk_130_1_22 : decode jdk_130_method_1_code 22 = .ok (.isub, 1) := by decide +kernel
theorem d_jdk_130_1_23 : decode jdk_130_method_1_code 23 = .ok (.putfield 21, 3) := by decide +kernel
theorem d_jdk_130_1_26 : decode jdk_130_method_1_code 26 = .ok (.aload_n 0, 1) := by decide +kernel
theorem d_jdk_130_1_27 : decode jdk_130_method_1_code 27 = .ok (.aload_n 1, 1) := by decide +kernel
theorem d_jdk_130_1_28 : decode jdk_130_method_1_code 28 = .ok (.getfield 24, 3) := by decide +kernel
theorem d_jdk_130_1_31 : decode jdk_130_method_1_code 31 = .ok (.putfield 29, 3) := by decide +kernel
theorem d_jdk_130_1_34 : decode jdk_130_method_1_code 34 = .ok (.return_, 1) := by decide +kernel
theorem pn_java_util_ArrayList_SubList : plainName "java/util/ArrayList$SubList" = true := by first | (simp [plainName, overriddenIn]; done) | decide +kernel
theorem ef12 (m : MethodId) (x0 : Addr) (x1 : Addr) (x2 : Int32) (x3 : Int32) : entryFrame m #[(.ref x0), (.ref x1), (.int x2), (.int x3)] 4 = mkF m 0 #[.val (.ref x0), .val (.ref x1), .val (.int x2), .val (.int x3)] [] := by first | (simp [entryFrame, mkF, argsToLocals, Value.category]; done) | rfl
set_option maxRecDepth 65536 in
set_option maxHeartbeats 40000000 in
theorem c12 (l : Launch) (Z : State) (a0 : Array Value) (hw : ∀ d ∈ tables_1, d.before a0 Z = true) (a1 : Addr) (a2 : Addr) (p1 : Int32) (u1 : Int32) (h0 : Heap) (n0 : Nat) (Z0 : n0 ≤ h0.size) (E_a1 : Exa Z h0 a1 "java/util/ArrayList$SubList") (F_modCount_a1 : Fld Z h0 a1 "java/util/AbstractList" "modCount" "I" (.int u1)) (F_root_a1 : Fld Z h0 a1 "java/util/ArrayList$SubList" "root" "Ljava/util/ArrayList;" .null) (F_parent_a1 : Fld Z h0 a1 "java/util/ArrayList$SubList" "parent" "Ljava/util/ArrayList$SubList;" .null) (F_offset_a1 : Fld Z h0 a1 "java/util/ArrayList$SubList" "offset" "I" (.int (0 : Int32))) (F_size_a1 : Fld Z h0 a1 "java/util/ArrayList$SubList" "size" "I" (.int (0 : Int32))) (F_modCount_a2 : Fld Z h0 a2 "java/util/AbstractList" "modCount" "I" (.int (1 : Int32))) (g_a1 : n0 ≤ a1) (ne_a2_a1 : a2 ≠ a1) :
    Con l Z (⟨"java/util/ArrayList$SubList", "<init>", "(Ljava/util/ArrayList;II)V"⟩ : MethodName) jdk_130_method_1_code 4 none ({ frames := 3, cells := 0, slots := 0, locals := 36 } : Room) [] #[(.ref a1), (.ref a2), (.int p1), (.int (1 : Int32))] h0 (fun v h L => v = none ∧ Fr n0 L ∧ Keep h0 h [a1] ∧ Fld Z h a1 "java/util/AbstractList" "modCount" "I" (.int (1 : Int32)) ∧ Fld Z h a1 "java/util/ArrayList$SubList" "root" "Ljava/util/ArrayList;" (.ref a2) ∧ Fld Z h a1 "java/util/ArrayList$SubList" "size" "I" (.int ((1 : Int32) - p1))) := by
  refine Con.of (plainFor_of_name pn_java_util_ArrayList_SubList) #[.val (.ref a1), .val (.ref a2), .val (.int p1), .val (.int (1 : Int32))] (fun m => ef12 m a1 a2 p1 (1 : Int32)) ?_
  intro p e s m below meth c s₁ K hx hby hml hown hnm hret hlk hZ X0 e0
  have N0 := Fr.nil n0
  refine m_aloadN K X0.here hx hby d_jdk_130_1_0 rfl rfl rfl ?_
  refine k_callP K X0 hx hby hZ a1 [] [] hown (hw _ (List.mem_of_getElem? (i := 120) rfl)) (hw _ (List.mem_of_getElem? (i := 25) rfl)) (hw _ (List.mem_of_getElem? (i := 28) rfl)) (hw _ (List.mem_of_getElem? (i := 29) rfl)) rfl (c2b l Z a0 hw a1 u1 h0 n0 Z0 E_a1 F_modCount_a1 F_root_a1 F_parent_a1 F_offset_a1 F_size_a1 g_a1) e0 rfl rfl pd_0 rfl d_jdk_130_1_1 (by rw [hml]; rfl) rfl (by decide) (by decide) (Nat.le_of_ble_eq_true rfl) (by decide) (by decide) fun v1 T1 L1 X1 q1 => ?_
  obtain ⟨rfl, Nq1, K1, Fp1_0, Fp1_1, Fp1_2, Fp1_3, Fp1_4⟩ := q1
  have N1 := Fr.app N0 Nq1
  refine k_none K ?_
  refine m_aloadN K X1.here hx hby d_jdk_130_1_4 rfl rfl rfl ?_
  refine m_aloadN K X1.here hx hby d_jdk_130_1_5 rfl rfl rfl ?_
  refine k_putF K X1 hx hby hZ hown (host := "") (Or.inl (hw _ (List.mem_of_getElem? (i := 124) rfl))) Via.refl rfl Fp1_1 (E_a1.keep K1) (Or.inr ⟨(hw _ (List.mem_of_getElem? (i := 125) rfl)), rfl, hnm⟩) (hw _ (List.mem_of_getElem? (i := 114) rfl)) (ty := (.object "java/util/ArrayList")) (by decide) rfl rfl d_jdk_130_1_6 rfl fun T2 h2 X2 e2 W2 => ?_
  have Fw2 := Fp1_1.same W2
  have N2 := Fr.snoc X2 N1 g_a1
  refine m_aloadN K X2.here hx hby d_jdk_130_1_9 rfl rfl rfl ?_
  refine m_null K X2.here hx hby d_jdk_130_1_10 rfl ?_
  refine k_putF K X2 hx hby hZ hown (host := "") (Or.inl (hw _ (List.mem_of_getElem? (i := 126) rfl))) Via.refl e2 (Fp1_2.other W2 (Or.inr (slot_ne (Or.inr (hw _ (List.mem_of_getElem? (i := 127) rfl))) (Or.inr (hw _ (List.mem_of_getElem? (i := 125) rfl))) (by decide) (t := (.object "java/util/ArrayList$SubList")) (t' := (.object "java/util/ArrayList")) (by decide) (by decide)))) ((E_a1.keep K1).wr W2) (Or.inr ⟨(hw _ (List.mem_of_getElem? (i := 127) rfl)), rfl, hnm⟩) (hw _ (List.mem_of_getElem? (i := 114) rfl)) (ty := (.object "java/util/ArrayList$SubList")) (by decide) rfl rfl d_jdk_130_1_11 rfl fun T3 h3 X3 e3 W3 => ?_
  have Fw3 := (Fp1_2.other W2 (Or.inr (slot_ne (Or.inr (hw _ (List.mem_of_getElem? (i := 127) rfl))) (Or.inr (hw _ (List.mem_of_getElem? (i := 125) rfl))) (by decide) (t := (.object "java/util/ArrayList$SubList")) (t' := (.object "java/util/ArrayList")) (by decide) (by decide)))).same W3
  have N3 := Fr.snoc X3 N2 g_a1
  refine m_aloadN K X3.here hx hby d_jdk_130_1_14 rfl rfl rfl ?_
  refine m_iloadN K X3.here hx hby d_jdk_130_1_15 rfl rfl ?_
  refine k_putF K X3 hx hby hZ hown (host := "") (Or.inl (hw _ (List.mem_of_getElem? (i := 128) rfl))) Via.refl e3 ((Fp1_3.other W2 (Or.inr (slot_ne (Or.inr (hw _ (List.mem_of_getElem? (i := 129) rfl))) (Or.inr (hw _ (List.mem_of_getElem? (i := 125) rfl))) (by decide) (t := .int) (t' := (.object "java/util/ArrayList")) (by decide) (by decide)))).other W3 (Or.inr (slot_ne (Or.inr (hw _ (List.mem_of_getElem? (i := 129) rfl))) (Or.inr (hw _ (List.mem_of_getElem? (i := 127) rfl))) (by decide) (t := .int) (t' := (.object "java/util/ArrayList$SubList")) (by decide) (by decide)))) (((E_a1.keep K1).wr W2).wr W3) (Or.inr ⟨(hw _ (List.mem_of_getElem? (i := 129) rfl)), rfl, hnm⟩) (hw _ (List.mem_of_getElem? (i := 114) rfl)) (ty := .int) (by decide) rfl rfl d_jdk_130_1_16 rfl fun T4 h4 X4 e4 W4 => ?_
  have Fw4 := ((Fp1_3.other W2 (Or.inr (slot_ne (Or.inr (hw _ (List.mem_of_getElem? (i := 129) rfl))) (Or.inr (hw _ (List.mem_of_getElem? (i := 125) rfl))) (by decide) (t := .int) (t' := (.object "java/util/ArrayList")) (by decide) (by decide)))).other W3 (Or.inr (slot_ne (Or.inr (hw _ (List.mem_of_getElem? (i := 129) rfl))) (Or.inr (hw _ (List.mem_of_getElem? (i := 127) rfl))) (by decide) (t := .int) (t' := (.object "java/util/ArrayList$SubList")) (by decide) (by decide)))).same W4
  have N4 := Fr.snoc X4 N3 g_a1
  refine m_aloadN K X4.here hx hby d_jdk_130_1_19 rfl rfl rfl ?_
  refine m_iloadN K X4.here hx hby d_jdk_130_1_20 rfl rfl ?_
  refine m_iloadN K X4.here hx hby d_jdk_130_1_21 rfl rfl ?_
  refine m_isub K X4.here hx hby ((1 : Int32) - p1) d_jdk_130_1_22 rfl rfl ?_
  refine k_putF K X4 hx hby hZ hown (host := "") (Or.inl (hw _ (List.mem_of_getElem? (i := 130) rfl))) Via.refl e4 (((Fp1_4.other W2 (Or.inr (slot_ne (Or.inl (hw _ (List.mem_of_getElem? (i := 131) rfl))) (Or.inr (hw _ (List.mem_of_getElem? (i := 125) rfl))) (by decide) (t := .int) (t' := (.object "java/util/ArrayList")) (by decide) (by decide)))).other W3 (Or.inr (slot_ne (Or.inl (hw _ (List.mem_of_getElem? (i := 131) rfl))) (Or.inr (hw _ (List.mem_of_getElem? (i := 127) rfl))) (by decide) (t := .int) (t' := (.object "java/util/ArrayList$SubList")) (by decide) (by decide)))).other W4 (Or.inr (slot_ne (Or.inl (hw _ (List.mem_of_getElem? (i := 131) rfl))) (Or.inr (hw _ (List.mem_of_getElem? (i := 129) rfl))) (by decide) (t := .int) (t' := .int) (by decide) (by decide)))) ((((E_a1.keep K1).wr W2).wr W3).wr W4) (Or.inl (hw _ (List.mem_of_getElem? (i := 131) rfl))) (hw _ (List.mem_of_getElem? (i := 114) rfl)) (ty := .int) (by decide) rfl rfl d_jdk_130_1_23 rfl fun T5 h5 X5 e5 W5 => ?_
  have Fw5 := (((Fp1_4.other W2 (Or.inr (slot_ne (Or.inl (hw _ (List.mem_of_getElem? (i := 131) rfl))) (Or.inr (hw _ (List.mem_of_getElem? (i := 125) rfl))) (by decide) (t := .int) (t' := (.object "java/util/ArrayList")) (by decide) (by decide)))).other W3 (Or.inr (slot_ne (Or.inl (hw _ (List.mem_of_getElem? (i := 131) rfl))) (Or.inr (hw _ (List.mem_of_getElem? (i := 127) rfl))) (by decide) (t := .int) (t' := (.object "java/util/ArrayList$SubList")) (by decide) (by decide)))).other W4 (Or.inr (slot_ne (Or.inl (hw _ (List.mem_of_getElem? (i := 131) rfl))) (Or.inr (hw _ (List.mem_of_getElem? (i := 129) rfl))) (by decide) (t := .int) (t' := .int) (by decide) (by decide)))).same W5
  have N5 := Fr.snoc X5 N4 g_a1
  refine m_aloadN K X5.here hx hby d_jdk_130_1_26 rfl rfl rfl ?_
  refine m_aloadN K X5.here hx hby d_jdk_130_1_27 rfl rfl rfl ?_
  refine k_getF K X5 hx hby hZ hown (host := "") (Or.inl (hw _ (List.mem_of_getElem? (i := 132) rfl))) (Via.of (hw _ (List.mem_of_getElem? (i := 55) rfl))) e5 (((((F_modCount_a2.keep K1 (ninS ne_a2_a1 nin0)).other W2 (Or.inl ne_a2_a1)).other W3 (Or.inl ne_a2_a1)).other W4 (Or.inl ne_a2_a1)).other W5 (Or.inl ne_a2_a1)) d_jdk_130_1_28 rfl fun T6 X6 e6 => ?_
  refine k_putF K X6 hx hby hZ hown (host := "") (Or.inl (hw _ (List.mem_of_getElem? (i := 133) rfl))) (Via.of (hw _ (List.mem_of_getElem? (i := 134) rfl))) e6 ((((Fp1_0.other W2 (Or.inr (slot_ne (Or.inl (hw _ (List.mem_of_getElem? (i := 123) rfl))) (Or.inr (hw _ (List.mem_of_getElem? (i := 125) rfl))) (by decide) (t := .int) (t' := (.object "java/util/ArrayList")) (by decide) (by decide)))).other W3 (Or.inr (slot_ne (Or.inl (hw _ (List.mem_of_getElem? (i := 123) rfl))) (Or.inr (hw _ (List.mem_of_getElem? (i := 127) rfl))) (by decide) (t := .int) (t' := (.object "java/util/ArrayList$SubList")) (by decide) (by decide)))).other W4 (Or.inr (slot_ne (Or.inl (hw _ (List.mem_of_getElem? (i := 123) rfl))) (Or.inr (hw _ (List.mem_of_getElem? (i := 129) rfl))) (by decide) (t := .int) (t' := .int) (by decide) (by decide)))).other W5 (Or.inr (slot_ne (Or.inl (hw _ (List.mem_of_getElem? (i := 123) rfl))) (Or.inl (hw _ (List.mem_of_getElem? (i := 131) rfl))) (by decide) (t := .int) (t' := .int) (by decide) (by decide)))) (((((E_a1.keep K1).wr W2).wr W3).wr W4).wr W5) (Or.inl (hw _ (List.mem_of_getElem? (i := 123) rfl))) (hw _ (List.mem_of_getElem? (i := 114) rfl)) (ty := .int) (by decide) rfl rfl d_jdk_130_1_31 rfl fun T7 h7 X7 e7 W7 => ?_
  have Fw7 := ((((Fp1_0.other W2 (Or.inr (slot_ne (Or.inl (hw _ (List.mem_of_getElem? (i := 123) rfl))) (Or.inr (hw _ (List.mem_of_getElem? (i := 125) rfl))) (by decide) (t := .int) (t' := (.object "java/util/ArrayList")) (by decide) (by decide)))).other W3 (Or.inr (slot_ne (Or.inl (hw _ (List.mem_of_getElem? (i := 123) rfl))) (Or.inr (hw _ (List.mem_of_getElem? (i := 127) rfl))) (by decide) (t := .int) (t' := (.object "java/util/ArrayList$SubList")) (by decide) (by decide)))).other W4 (Or.inr (slot_ne (Or.inl (hw _ (List.mem_of_getElem? (i := 123) rfl))) (Or.inr (hw _ (List.mem_of_getElem? (i := 129) rfl))) (by decide) (t := .int) (t' := .int) (by decide) (by decide)))).other W5 (Or.inr (slot_ne (Or.inl (hw _ (List.mem_of_getElem? (i := 123) rfl))) (Or.inl (hw _ (List.mem_of_getElem? (i := 131) rfl))) (by decide) (t := .int) (t' := .int) (by decide) (by decide)))).same W7
  have N7 := Fr.snoc X7 N5 g_a1
  exact Go.retV X7 hx hby hlk hret d_jdk_130_1_34 (by decide) (by decide) (by rw [e7]; exact ⟨rfl, N7, (((((((Keep.refl h0 [a1]).trans K1 (allS (Or.inl (by simp)) all0)).wr W2 (Or.inl (by simp))).wr W3 (Or.inl (by simp))).wr W4 (Or.inl (by simp))).wr W5 (Or.inl (by simp))).wr W7 (Or.inl (by simp))), Fw7, ((((Fw2.other W3 (Or.inr (slot_ne (Or.inr (hw _ (List.mem_of_getElem? (i := 125) rfl))) (Or.inr (hw _ (List.mem_of_getElem? (i := 127) rfl))) (by decide) (t := (.object "java/util/ArrayList")) (t' := (.object "java/util/ArrayList$SubList")) (by decide) (by decide)))).other W4 (Or.inr (slot_ne (Or.inr (hw _ (List.mem_of_getElem? (i := 125) rfl))) (Or.inr (hw _ (List.mem_of_getElem? (i := 129) rfl))) (by decide) (t := (.object "java/util/ArrayList")) (t' := .int) (by decide) (by decide)))).other W5 (Or.inr (slot_ne (Or.inr (hw _ (List.mem_of_getElem? (i := 125) rfl))) (Or.inl (hw _ (List.mem_of_getElem? (i := 131) rfl))) (by decide) (t := (.object "java/util/ArrayList")) (t' := .int) (by decide) (by decide)))).other W7 (Or.inr (slot_ne (Or.inr (hw _ (List.mem_of_getElem? (i := 125) rfl))) (Or.inl (hw _ (List.mem_of_getElem? (i := 123) rfl))) (by decide) (t := (.object "java/util/ArrayList")) (t' := .int) (by decide) (by decide)))), (Fw5.other W7 (Or.inr (slot_ne (Or.inl (hw _ (List.mem_of_getElem? (i := 131) rfl))) (Or.inl (hw _ (List.mem_of_getElem? (i := 123) rfl))) (by decide) (t := .int) (t' := .int) (by decide) (by decide))))⟩)
theorem d_jdk_38_56_0 : decode jdk_38_method_56_code 0 = .ok (.iload_n 1, 1) := by decide +kernel
theorem d_jdk_38_56_1 : decode jdk_38_method_56_code 1 = .ok (.iload_n 2, 1) := by decide +kernel
theorem d_jdk_38_56_2 : decode jdk_38_method_56_code 2 = .ok (.aload_n 0, 1) := by decide +kernel
theorem d_jdk_38_56_3 : decode jdk_38_method_56_code 3 = .ok (.getfield 48, 3) := by decide +kernel
theorem d_jdk_38_56_6 : decode jdk_38_method_56_code 6 = .ok (.invokestatic 272, 3) := by decide +kernel
theorem d_jdk_38_56_9 : decode jdk_38_method_56_code 9 = .ok (.new 276, 3) := by decide +kernel
theorem d_jdk_38_56_12 : decode jdk_38_method_56_code 12 = .ok (.dup, 1) := by decide +kernel
theorem d_jdk_38_56_13 : decode jdk_38_method_56_code 13 = .ok (.aload_n 0, 1) := by decide +kernel
theorem d_jdk_38_56_14 : decode jdk_38_method_56_code 14 = .ok (.iload_n 1, 1) := by decide +kernel
theorem d_jdk_38_56_15 : decode jdk_38_method_56_code 15 = .ok (.iload_n 2, 1) := by decide +kernel
theorem d_jdk_38_56_16 : decode jdk_38_method_56_code 16 = .ok (.invokespecial 278, 3) := by decide +kernel
theorem d_jdk_38_56_19 : decode jdk_38_method_56_code 19 = .ok (.areturn, 1) := by decide +kernel
theorem pd_5 : parseMethodDescriptor "(III)V" = some ⟨[.int, .int, .int], none⟩ := by decide +kernel
theorem pd_6 : parseMethodDescriptor "(Ljava/util/ArrayList;II)V" = some ⟨[(.object "java/util/ArrayList"), .int, .int], none⟩ := by decide +kernel
theorem ef13 (m : MethodId) (x0 : Addr) (x1 : Int32) (x2 : Int32) : entryFrame m #[(.ref x0), (.int x1), (.int x2)] 3 = mkF m 0 #[.val (.ref x0), .val (.int x1), .val (.int x2)] [] := by first | (simp [entryFrame, mkF, argsToLocals, Value.category]; done) | rfl
set_option maxRecDepth 65536 in
set_option maxHeartbeats 40000000 in
theorem c13 (l : Launch) (Z : State) (a0 : Array Value) (hw : ∀ d ∈ tables_1, d.before a0 Z = true) (a1 : Addr) (p1 : Int32) (h0 : Heap) (n0 : Nat) (Z0 : n0 ≤ h0.size) (F_size_a1 : Fld Z h0 a1 "java/util/ArrayList" "size" "I" (.int (1 : Int32))) (F_modCount_a1 : Fld Z h0 a1 "java/util/AbstractList" "modCount" "I" (.int (1 : Int32))) (ha0 : ¬ (p1 < (0 : Int32))) (ha1 : ¬ ((1 : Int32) < p1)) :
    Con l Z (⟨"java/util/ArrayList", "subList", "(II)Ljava/util/List;"⟩ : MethodName) jdk_38_method_56_code 3 (some (.object "java/util/List")) ({ frames := 4, cells := 1, slots := 5, locals := 52 } : Room) [] #[(.ref a1), (.int p1), (.int (1 : Int32))] h0 (fun v h L => ∃ b : Addr, v = some (.ref b) ∧ Fr n0 L ∧ Keep h0 h [] ∧ h0.size ≤ b ∧ Exa Z h b "java/util/ArrayList$SubList" ∧ Fld Z h b "java/util/AbstractList" "modCount" "I" (.int (1 : Int32)) ∧ Fld Z h b "java/util/ArrayList$SubList" "root" "Ljava/util/ArrayList;" (.ref a1) ∧ Fld Z h b "java/util/ArrayList$SubList" "size" "I" (.int ((1 : Int32) - p1))) := by
  refine Con.of (plainFor_of_name pn_java_util_ArrayList) #[.val (.ref a1), .val (.int p1), .val (.int (1 : Int32))] (fun m => ef13 m a1 p1 (1 : Int32)) ?_
  intro p e s m below meth c s₁ K hx hby hml hown hnm hret hlk hZ X0 e0
  have N0 := Fr.nil n0
  refine m_iloadN K X0.here hx hby d_jdk_38_56_0 rfl rfl ?_
  refine m_iloadN K X0.here hx hby d_jdk_38_56_1 rfl rfl ?_
  refine m_aloadN K X0.here hx hby d_jdk_38_56_2 rfl rfl rfl ?_
  refine k_getF K X0 hx hby hZ hown (host := "") (Or.inl (hw _ (List.mem_of_getElem? (i := 56) rfl))) Via.refl e0 F_size_a1 d_jdk_38_56_3 rfl fun T1 X1 e1 => ?_
  refine k_callSU K X1 hx hby hZ [(.int p1), (.int (1 : Int32)), (.int (1 : Int32))] [] hown (hw _ (List.mem_of_getElem? (i := 109) rfl)) (hw _ (List.mem_of_getElem? (i := 110) rfl)) (hw _ (List.mem_of_getElem? (i := 111) rfl)) (hw _ (List.mem_of_getElem? (i := 28) rfl)) (hw _ (List.mem_of_getElem? (i := 112) rfl)) (c11 l Z a0 hw p1 h0 n0 Z0 ha0 ha1) e1 rfl rfl pd_5 rfl d_jdk_38_56_6 (by rw [hml]; rfl) rfl (by decide) (by decide) (Nat.le_of_ble_eq_true rfl) (by decide) (by decide) fun v2 T2 L2 X2 q2 => ?_
  obtain ⟨rfl, e2, rfl⟩ := q2
  replace X2 := own_px X2
  refine k_none K ?_
  refine k_newO K X2 hx hby hZ hown (hw _ (List.mem_of_getElem? (i := 113) rfl)) (hw _ (List.mem_of_getElem? (i := 114) rfl)) (hw _ (List.mem_of_getElem? (i := 115) rfl)) e2 d_jdk_38_56_9 rfl (by decide) (by decide) fun T3 h3 b3 X3 e3 E3 g3 A3 D3 => ?_
  have sz_b3 : h0.size ≤ b3 := Nat.le_trans (Nat.le_refl _) (Nat.le_of_eq g3.symm)
  have g_b3 : n0 ≤ b3 := Nat.le_trans Z0 sz_b3
  have F_modCount_b3 : Fld Z h3 b3 "java/util/AbstractList" "modCount" "I" (.int (0 : Int32)) := D3 (Or.inl (hw _ (List.mem_of_getElem? (i := 123) rfl))) (ty := .int) (by decide)
  have F_root_b3 : Fld Z h3 b3 "java/util/ArrayList$SubList" "root" "Ljava/util/ArrayList;" .null := D3 (Or.inr (hw _ (List.mem_of_getElem? (i := 125) rfl))) (ty := (.object "java/util/ArrayList")) (by decide)
  have F_parent_b3 : Fld Z h3 b3 "java/util/ArrayList$SubList" "parent" "Ljava/util/ArrayList$SubList;" .null := D3 (Or.inr (hw _ (List.mem_of_getElem? (i := 127) rfl))) (ty := (.object "java/util/ArrayList$SubList")) (by decide)
  have F_offset_b3 : Fld Z h3 b3 "java/util/ArrayList$SubList" "offset" "I" (.int (0 : Int32)) := D3 (Or.inr (hw _ (List.mem_of_getElem? (i := 129) rfl))) (ty := .int) (by decide)
  have F_size_b3 : Fld Z h3 b3 "java/util/ArrayList$SubList" "size" "I" (.int (0 : Int32)) := D3 (Or.inl (hw _ (List.mem_of_getElem? (i := 131) rfl))) (ty := .int) (by decide)
  refine m_dup K X3.here hx hby d_jdk_38_56_12 rfl rfl ?_
  refine m_aloadN K X3.here hx hby d_jdk_38_56_13 rfl rfl rfl ?_
  refine m_iloadN K X3.here hx hby d_jdk_38_56_14 rfl rfl ?_
  refine m_iloadN K X3.here hx hby d_jdk_38_56_15 rfl rfl ?_
  refine k_callP K X3 hx hby hZ b3 [(.ref a1), (.int p1), (.int (1 : Int32))] [(.ref b3)] hown (hw _ (List.mem_of_getElem? (i := 116) rfl)) (hw _ (List.mem_of_getElem? (i := 117) rfl)) (hw _ (List.mem_of_getElem? (i := 115) rfl)) (hw _ (List.mem_of_getElem? (i := 119) rfl)) rfl (c12 l Z a0 hw b3 a1 p1 (0 : Int32) h3 n0 (Nat.le_trans Z0 (Nat.le_trans (Nat.le_refl _) E3.1)) A3 F_modCount_b3 F_root_b3 F_parent_b3 F_offset_b3 F_size_b3 (F_modCount_a1.ext E3) g_b3 (Nat.ne_of_lt (Nat.lt_of_lt_of_le (Nat.lt_of_lt_of_le F_size_a1.lt (Nat.le_refl _)) (Nat.le_of_eq g3.symm)))) e3 rfl rfl pd_6 rfl d_jdk_38_56_16 (by rw [hml]; rfl) rfl (by decide) (by decide) (Nat.le_of_ble_eq_true rfl) (by decide) (by decide) fun v4 T4 L4 X4 q4 => ?_
  obtain ⟨rfl, Nq4, K4, Fp4_0, Fp4_1, Fp4_2⟩ := q4
  have N4 := Fr.app N0 Nq4
  refine k_none K ?_
  exact Go.retO X4 hx hby hlk hret rfl (Or.inr (Or.inr (Or.inr (Or.inr ⟨rfl, rfl, rfl⟩)))) d_jdk_38_56_19 (by decide) (by decide) (⟨b3, rfl, N4, (((Keep.refl h0 []).ext E3).trans K4 (allS (Or.inr sz_b3) all0)), sz_b3, (A3.keep K4), Fp4_0, Fp4_1, Fp4_2⟩)
def w14_1 (k1 : Int64) : Int64 := (((MNJ k1 (1 : Int64)).toInt32).toInt64)
def w14_2 (k1 : Int64) (k2 : Int64) : Int64 := (MNJ ((w14_1 k1) + (MNJ k2 (1 : Int64))) (1 : Int64))
def SZV (k1 : Int64) : Int32 := (1 : Int32) - ((MNJ k1 (1 : Int64)).toInt32)
def OFA (k1 : Int64) : Int32 := ((MNJ k1 (1 : Int64)).toInt32)
def OFB (k1 k2 : Int64) : Int32 := ((w14_2 k1 k2).toInt32)
theorem own_jlt (a b : Int64) : a < b ↔ a.toInt < b.toInt := Int64.lt_iff_toInt_lt
theorem own_min (k : Int64) (h : ¬ k < 0) : MNJ k 1 = 0 ∨ MNJ k 1 = 1 := by
  rw [own_jlt] at h
  unfold MNJ wm2_1
  repeat' split
  all_goals first | exact Or.inr rfl | skip
  all_goals
    rename_i q
    rw [own_jlt] at q
    have e0 : (0 : Int64).toInt = 0 := rfl
    have e1 : (1 : Int64).toInt = 1 := rfl
    rw [e0] at h
    rw [e1] at q
    by_cases z : k.toInt = 0
    · exact Or.inl (Int64.toInt_inj.mp z)
    · exact Or.inr (Int64.toInt_inj.mp (by rw [e1]; omega))
theorem own_min1 (k : Int64) (h : ¬ k < 1) : MNJ k 1 = 1 := by
  rw [own_jlt] at h
  unfold MNJ wm2_1
  repeat' split
  all_goals first | rfl | skip
  all_goals
    rename_i q
    rw [own_jlt] at q
    have e1 : (1 : Int64).toInt = 1 := rfl
    rw [e1] at h q
    exact Int64.toInt_inj.mp (by rw [e1]; omega)
theorem own_a (k1 : Int64) (h : ¬ k1 < 0) : OFA k1 = 0 ∨ OFA k1 = 1 := by
  unfold OFA
  rcases own_min k1 h with e | e <;> rw [e]
  · exact Or.inl (by decide)
  · exact Or.inr (by decide)
theorem own_a0 (k1 : Int64) (h : ¬ k1 < 0) : ¬ OFA k1 < 0 := by rcases own_a k1 h with e | e <;> rw [e] <;> decide
theorem own_a1 (k1 : Int64) (h : ¬ k1 < 0) : ¬ (1 : Int32) < OFA k1 := by rcases own_a k1 h with e | e <;> rw [e] <;> decide
theorem own_b (k1 k2 : Int64) (h : ¬ k1 < 0) (h2 : ¬ k2 < 1) : OFB k1 k2 = 1 := by
  unfold OFB w14_2 w14_1
  rw [own_min1 k2 h2]
  rcases own_min k1 h with e | e <;> rw [e] <;> decide
theorem d_prog_32_7_0 : decode prog_32_method_7_code 0 = .ok (.aload_n 0, 1) := by decide +kernel
theorem d_prog_32_7_1 : decode prog_32_method_7_code 1 = .ok (.getfield 9, 3) := by decide +kernel
theorem d_prog_32_7_4 : decode prog_32_method_7_code 4 = .ok (.aload_n 1, 1) := by decide +kernel
theorem d_prog_32_7_5 : decode prog_32_method_7_code 5 = .ok (.invokeinterface 29 1, 5) := by decide +kernel
theorem d_prog_32_7_10 : decode prog_32_method_7_code 10 = .ok (.i2l, 1) := by decide +kernel
theorem d_prog_32_7_11 : decode prog_32_method_7_code 11 = .ok (.invokestatic 20, 3) := by decide +kernel
theorem d_prog_32_7_14 : decode prog_32_method_7_code 14 = .ok (.l2i, 1) := by decide +kernel
theorem d_prog_32_7_15 : decode prog_32_method_7_code 15 = .ok (.istore_n 2, 1) := by decide +kernel
theorem d_prog_32_7_16 : decode prog_32_method_7_code 16 = .ok (.iload_n 2, 1) := by decide +kernel
theorem d_prog_32_7_17 : decode prog_32_method_7_code 17 = .ok (.i2l, 1) := by decide +kernel
theorem d_prog_32_7_18 : decode prog_32_method_7_code 18 = .ok (.aload_n 0, 1) := by decide +kernel
theorem d_prog_32_7_19 : decode prog_32_method_7_code 19 = .ok (.getfield 15, 3) := by decide +kernel
theorem d_prog_32_7_22 : decode prog_32_method_7_code 22 = .ok (.aload_n 1, 1) := by decide +kernel
theorem d_prog_32_7_23 : decode prog_32_method_7_code 23 = .ok (.invokeinterface 29 1, 5) := by decide +kernel
theorem d_prog_32_7_28 : decode prog_32_method_7_code 28 = .ok (.i2l, 1) := by decide +kernel
theorem d_prog_32_7_29 : decode prog_32_method_7_code 29 = .ok (.invokestatic 20, 3) := by decide +kernel
theorem d_prog_32_7_32 : decode prog_32_method_7_code 32 = .ok (.ladd, 1) := by decide +kernel
theorem d_prog_32_7_33 : decode prog_32_method_7_code 33 = .ok (.aload_n 1, 1) := by decide +kernel
theorem d_prog_32_7_34 : decode prog_32_method_7_code 34 = .ok (.invokeinterface 29 1, 5) := by decide +kernel
theorem d_prog_32_7_39 : decode prog_32_method_7_code 39 = .ok (.i2l, 1) := by decide +kernel
theorem d_prog_32_7_40 : decode prog_32_method_7_code 40 = .ok (.invokestatic 20, 3) := by decide +kernel
theorem d_prog_32_7_43 : decode prog_32_method_7_code 43 = .ok (.l2i, 1) := by decide +kernel
theorem d_prog_32_7_44 : decode prog_32_method_7_code 44 = .ok (.istore_n 3, 1) := by decide +kernel
theorem d_prog_32_7_45 : decode prog_32_method_7_code 45 = .ok (.aload_n 1, 1) := by decide +kernel
theorem d_prog_32_7_46 : decode prog_32_method_7_code 46 = .ok (.iload_n 2, 1) := by decide +kernel
theorem d_prog_32_7_47 : decode prog_32_method_7_code 47 = .ok (.iload_n 3, 1) := by decide +kernel
theorem d_prog_32_7_48 : decode prog_32_method_7_code 48 = .ok (.invokeinterface 35 3, 5) := by decide +kernel
theorem d_prog_32_7_53 : decode prog_32_method_7_code 53 = .ok (.areturn, 1) := by decide +kernel
theorem pd_7 : parseMethodDescriptor "()I" = some ⟨[], some .int⟩ := by decide +kernel
theorem pd_8 : parseMethodDescriptor "(JJ)J" = some ⟨[.long, .long], some .long⟩ := by decide +kernel
theorem pd_9 : parseMethodDescriptor "(II)Ljava/util/List;" = some ⟨[.int, .int], some (.object "java/util/List")⟩ := by decide +kernel
theorem ef14 (m : MethodId) (x0 : Addr) (x1 : Addr) : entryFrame m #[(.ref x0), (.ref x1)] 4 = mkF m 0 #[.val (.ref x0), .val (.ref x1), .unset, .unset] [] := by first | (simp [entryFrame, mkF, argsToLocals, Value.category]; done) | rfl
set_option maxRecDepth 65536 in
set_option maxHeartbeats 40000000 in
theorem c14 (l : Launch) (Z : State) (a0 : Array Value) (hw : ∀ d ∈ tables_1, d.before a0 Z = true) (a1 : Addr) (a2 : Addr) (k1 : Int64) (k2 : Int64) (h0 : Heap) (n0 : Nat) (Z0 : n0 ≤ h0.size) (E_a2 : Exa Z h0 a2 "java/util/ArrayList") (F_skip_a1 : Fld Z h0 a1 "com/example/vetted_query/vettedquery/Page" "skip" "J" (.long k1)) (F_keep_a1 : Fld Z h0 a1 "com/example/vetted_query/vettedquery/Page" "keep" "J" (.long k2)) (F_size_a2 : Fld Z h0 a2 "java/util/ArrayList" "size" "I" (.int (1 : Int32))) (F_modCount_a2 : Fld Z h0 a2 "java/util/AbstractList" "modCount" "I" (.int (1 : Int32))) (hk1 : ¬ k1 < 0) (hk2 : ¬ k2 < 1) :
    Con l Z (⟨"com/example/vetted_query/vettedquery/Page", "of", "(Ljava/util/List;)Ljava/util/List;"⟩ : MethodName) prog_32_method_7_code 4 (some (.object "java/util/List")) ({ frames := 5, cells := 1, slots := 5, locals := 66 } : Room) [] #[(.ref a1), (.ref a2)] h0 (fun v h L => ∃ b : Addr, v = some (.ref b) ∧ Fr n0 L ∧ Keep h0 h [] ∧ h0.size ≤ b ∧ Exa Z h b "java/util/ArrayList$SubList" ∧ Fld Z h b "java/util/AbstractList" "modCount" "I" (.int (1 : Int32)) ∧ Fld Z h b "java/util/ArrayList$SubList" "root" "Ljava/util/ArrayList;" (.ref a2) ∧ Fld Z h b "java/util/ArrayList$SubList" "size" "I" (.int (SZV k1))) := by
  refine Con.of (plainFor_of_name pn_com_example_vetted_query_vettedquery_Page) #[.val (.ref a1), .val (.ref a2), .unset, .unset] (fun m => ef14 m a1 a2) ?_
  intro p e s m below meth c s₁ K hx hby hml hown hnm hret hlk hZ X0 e0
  have N0 := Fr.nil n0
  refine m_aloadN K X0.here hx hby d_prog_32_7_0 rfl rfl rfl ?_
  refine k_getF K X0 hx hby hZ hown (host := "") (Or.inl (hw _ (List.mem_of_getElem? (i := 14) rfl))) Via.refl e0 F_skip_a1 d_prog_32_7_1 rfl fun T1 X1 e1 => ?_
  refine m_aloadN K X1.here hx hby d_prog_32_7_4 rfl rfl rfl ?_
  refine k_callI K X1 hx hby hZ a2 [] [(.long k1)] hown (hw _ (List.mem_of_getElem? (i := 89) rfl)) (hw _ (List.mem_of_getElem? (i := 90) rfl)) (mvT hZ (hw _ (List.mem_of_getElem? (i := 91) rfl))) (hw _ (List.mem_of_getElem? (i := 92) rfl)) (hw _ (List.mem_of_getElem? (i := 93) rfl)) (hw _ (List.mem_of_getElem? (i := 94) rfl)) (hw _ (List.mem_of_getElem? (i := 95) rfl)) (hw _ (List.mem_of_getElem? (i := 96) rfl)) (hw _ (List.mem_of_getElem? (i := 20) rfl)) (hw _ (List.mem_of_getElem? (i := 97) rfl)) (c10 l Z a0 hw a2 (1 : Int32) h0 n0 Z0 F_size_a2) e1 E_a2 rfl rfl pd_7 rfl d_prog_32_7_5 (by rw [hml]; rfl) rfl (by decide) (by decide) (Nat.le_of_ble_eq_true rfl) (by decide) (by decide) fun v2 T2 L2 X2 q2 => ?_
  obtain ⟨rfl, e2, rfl⟩ := q2
  replace X2 := own_px X2
  refine k_some K (w := (.int (1 : Int32))) ?_
  refine m_i2l K X2.here hx hby (1 : Int64) d_prog_32_7_10 rfl rfl ?_
  refine k_callS K X2 hx hby hZ [(.long k1), (.long (1 : Int64))] [] hown (hw _ (List.mem_of_getElem? (i := 98) rfl)) (hw _ (List.mem_of_getElem? (i := 99) rfl)) (hw _ (List.mem_of_getElem? (i := 3) rfl)) (hw _ (List.mem_of_getElem? (i := 100) rfl)) (c_mnj l Z a0 hw k1 (1 : Int64) h0 n0 Z0) e2 rfl rfl pd_8 rfl d_prog_32_7_11 (by rw [hml]; rfl) rfl (by decide) (by decide) (Nat.le_of_ble_eq_true rfl) (by decide) (by decide) fun v3 T3 L3 X3 q3 => ?_
  obtain ⟨rfl, e3, rfl⟩ := q3
  replace X3 := own_px X3
  refine k_some K (w := (.long (MNJ k1 (1 : Int64)))) ?_
  refine m_l2i K X3.here hx hby ((MNJ k1 (1 : Int64)).toInt32) d_prog_32_7_14 rfl rfl ?_
  refine m_istoreN K X3.here hx hby #[.val (.ref a1), .val (.ref a2), .val (.int ((MNJ k1 (1 : Int64)).toInt32)), .unset] d_prog_32_7_15 rfl rfl ?_
  refine m_iloadN K X3.here hx hby d_prog_32_7_16 rfl rfl ?_
  refine m_i2l K X3.here hx hby (w14_1 k1) d_prog_32_7_17 rfl rfl ?_
  refine m_aloadN K X3.here hx hby d_prog_32_7_18 rfl rfl rfl ?_
  refine k_getF K X3 hx hby hZ hown (host := "") (Or.inl (hw _ (List.mem_of_getElem? (i := 16) rfl))) Via.refl e3 F_keep_a1 d_prog_32_7_19 rfl fun T4 X4 e4 => ?_
  refine m_aloadN K X4.here hx hby d_prog_32_7_22 rfl rfl rfl ?_
  refine k_callI K X4 hx hby hZ a2 [] [(.long k2), (.long (w14_1 k1))] hown (hw _ (List.mem_of_getElem? (i := 89) rfl)) (hw _ (List.mem_of_getElem? (i := 90) rfl)) (mvT hZ (hw _ (List.mem_of_getElem? (i := 91) rfl))) (hw _ (List.mem_of_getElem? (i := 92) rfl)) (hw _ (List.mem_of_getElem? (i := 93) rfl)) (hw _ (List.mem_of_getElem? (i := 94) rfl)) (hw _ (List.mem_of_getElem? (i := 95) rfl)) (hw _ (List.mem_of_getElem? (i := 96) rfl)) (hw _ (List.mem_of_getElem? (i := 20) rfl)) (hw _ (List.mem_of_getElem? (i := 97) rfl)) (c10 l Z a0 hw a2 (1 : Int32) h0 n0 Z0 F_size_a2) e4 E_a2 rfl rfl pd_7 rfl d_prog_32_7_23 (by rw [hml]; rfl) rfl (by decide) (by decide) (Nat.le_of_ble_eq_true rfl) (by decide) (by decide) fun v5 T5 L5 X5 q5 => ?_
  obtain ⟨rfl, e5, rfl⟩ := q5
  replace X5 := own_px X5
  refine k_some K (w := (.int (1 : Int32))) ?_
  refine m_i2l K X5.here hx hby (1 : Int64) d_prog_32_7_28 rfl rfl ?_
  refine k_callS K X5 hx hby hZ [(.long k2), (.long (1 : Int64))] [(.long (w14_1 k1))] hown (hw _ (List.mem_of_getElem? (i := 98) rfl)) (hw _ (List.mem_of_getElem? (i := 99) rfl)) (hw _ (List.mem_of_getElem? (i := 3) rfl)) (hw _ (List.mem_of_getElem? (i := 100) rfl)) (c_mnj l Z a0 hw k2 (1 : Int64) h0 n0 Z0) e5 rfl rfl pd_8 rfl d_prog_32_7_29 (by rw [hml]; rfl) rfl (by decide) (by decide) (Nat.le_of_ble_eq_true rfl) (by decide) (by decide) fun v6 T6 L6 X6 q6 => ?_
  obtain ⟨rfl, e6, rfl⟩ := q6
  replace X6 := own_px X6
  refine k_some K (w := (.long (MNJ k2 (1 : Int64)))) ?_
  refine m_ladd K X6.here hx hby ((w14_1 k1) + (MNJ k2 (1 : Int64))) d_prog_32_7_32 rfl rfl ?_
  refine m_aloadN K X6.here hx hby d_prog_32_7_33 rfl rfl rfl ?_
  refine k_callI K X6 hx hby hZ a2 [] [(.long ((w14_1 k1) + (MNJ k2 (1 : Int64))))] hown (hw _ (List.mem_of_getElem? (i := 89) rfl)) (hw _ (List.mem_of_getElem? (i := 90) rfl)) (mvT hZ (hw _ (List.mem_of_getElem? (i := 91) rfl))) (hw _ (List.mem_of_getElem? (i := 92) rfl)) (hw _ (List.mem_of_getElem? (i := 93) rfl)) (hw _ (List.mem_of_getElem? (i := 94) rfl)) (hw _ (List.mem_of_getElem? (i := 95) rfl)) (hw _ (List.mem_of_getElem? (i := 96) rfl)) (hw _ (List.mem_of_getElem? (i := 20) rfl)) (hw _ (List.mem_of_getElem? (i := 97) rfl)) (c10 l Z a0 hw a2 (1 : Int32) h0 n0 Z0 F_size_a2) e6 E_a2 rfl rfl pd_7 rfl d_prog_32_7_34 (by rw [hml]; rfl) rfl (by decide) (by decide) (Nat.le_of_ble_eq_true rfl) (by decide) (by decide) fun v7 T7 L7 X7 q7 => ?_
  obtain ⟨rfl, e7, rfl⟩ := q7
  replace X7 := own_px X7
  refine k_some K (w := (.int (1 : Int32))) ?_
  refine m_i2l K X7.here hx hby (1 : Int64) d_prog_32_7_39 rfl rfl ?_
  refine k_callS K X7 hx hby hZ [(.long ((w14_1 k1) + (MNJ k2 (1 : Int64)))), (.long (1 : Int64))] [] hown (hw _ (List.mem_of_getElem? (i := 98) rfl)) (hw _ (List.mem_of_getElem? (i := 99) rfl)) (hw _ (List.mem_of_getElem? (i := 3) rfl)) (hw _ (List.mem_of_getElem? (i := 100) rfl)) (c_mnj l Z a0 hw ((w14_1 k1) + (MNJ k2 (1 : Int64))) (1 : Int64) h0 n0 Z0) e7 rfl rfl pd_8 rfl d_prog_32_7_40 (by rw [hml]; rfl) rfl (by decide) (by decide) (Nat.le_of_ble_eq_true rfl) (by decide) (by decide) fun v8 T8 L8 X8 q8 => ?_
  obtain ⟨rfl, e8, rfl⟩ := q8
  replace X8 := own_px X8
  refine k_some K (w := (.long (w14_2 k1 k2))) ?_
  refine m_l2i K X8.here hx hby ((w14_2 k1 k2).toInt32) d_prog_32_7_43 rfl rfl ?_
  rw [show ((w14_2 k1 k2).toInt32) = (1 : Int32) from own_b k1 k2 hk1 hk2]
  refine m_istoreN K X8.here hx hby #[.val (.ref a1), .val (.ref a2), .val (.int ((MNJ k1 (1 : Int64)).toInt32)), .val (.int (1 : Int32))] d_prog_32_7_44 rfl rfl ?_
  refine m_aloadN K X8.here hx hby d_prog_32_7_45 rfl rfl rfl ?_
  refine m_iloadN K X8.here hx hby d_prog_32_7_46 rfl rfl ?_
  refine m_iloadN K X8.here hx hby d_prog_32_7_47 rfl rfl ?_
  refine k_callI K X8 hx hby hZ a2 [(.int ((MNJ k1 (1 : Int64)).toInt32)), (.int (1 : Int32))] [] hown (hw _ (List.mem_of_getElem? (i := 101) rfl)) (hw _ (List.mem_of_getElem? (i := 102) rfl)) (mvT hZ (hw _ (List.mem_of_getElem? (i := 103) rfl))) (hw _ (List.mem_of_getElem? (i := 104) rfl)) (hw _ (List.mem_of_getElem? (i := 105) rfl)) (hw _ (List.mem_of_getElem? (i := 106) rfl)) (hw _ (List.mem_of_getElem? (i := 107) rfl)) (hw _ (List.mem_of_getElem? (i := 96) rfl)) (hw _ (List.mem_of_getElem? (i := 20) rfl)) (hw _ (List.mem_of_getElem? (i := 108) rfl)) (c13 l Z a0 hw a2 ((MNJ k1 (1 : Int64)).toInt32) h0 n0 Z0 F_size_a2 F_modCount_a2 (own_a0 k1 hk1) (own_a1 k1 hk1)) e8 E_a2 rfl rfl pd_9 rfl d_prog_32_7_48 (by rw [hml]; rfl) rfl (by decide) (by decide) (Nat.le_of_ble_eq_true rfl) (by decide) (by decide) fun v9 T9 L9 X9 q9 => ?_
  obtain ⟨b9_b, rfl, Nq9, K9, sq_b9_b, E_b9_b, Fp9_0, Fp9_1, Fp9_2⟩ := q9
  have N9 := Fr.app N0 Nq9
  have sz_b9_b : h0.size ≤ b9_b := Nat.le_trans (Nat.le_refl _) sq_b9_b
  have g_b9_b : n0 ≤ b9_b := Nat.le_trans Z0 sz_b9_b
  refine k_some K (w := (.ref b9_b)) ?_
  exact Go.retO X9 hx hby hlk hret rfl (Or.inr (Or.inr (Or.inr (Or.inr ⟨rfl, rfl, rfl⟩)))) d_prog_32_7_53 (by decide) (by decide) (⟨b9_b, rfl, N9, ((Keep.refl h0 []).trans K9 all0), sz_b9_b, E_b9_b, Fp9_0, Fp9_1, Fp9_2⟩)
theorem d_jdk_130_28_0 : decode jdk_130_method_28_code 0 = .ok (.aload_n 0, 1) := by decide +kernel
theorem d_jdk_130_28_1 : decode jdk_130_method_28_code 1 = .ok (.getfield 7, 3) := by decide +kernel
theorem d_jdk_130_28_4 : decode jdk_130_method_28_code 4 = .ok (.getfield 24, 3) := by decide +kernel
theorem d_jdk_130_28_7 : decode jdk_130_method_28_code 7 = .ok (.aload_n 0, 1) := by decide +kernel
theorem d_jdk_130_28_8 : decode jdk_130_method_28_code 8 = .ok (.getfield 29, 3) := by decide +kernel
theorem d_jdk_130_28_11 : decode jdk_130_method_28_code 11 = .ok (.if_icmp .eq 11, 3) := by decide +kernel
theorem d_jdk_130_28_22 : decode jdk_130_method_28_code 22 = .ok (.return_, 1) := by decide +kernel
theorem ef15 (m : MethodId) (x0 : Addr) : entryFrame m #[(.ref x0)] 1 = mkF m 0 #[.val (.ref x0)] [] := by first | (simp [entryFrame, mkF, argsToLocals, Value.category]; done) | rfl
set_option maxRecDepth 65536 in
set_option maxHeartbeats 40000000 in
theorem c15 (l : Launch) (Z : State) (a0 : Array Value) (hw : ∀ d ∈ tables_1, d.before a0 Z = true) (a1 : Addr) (a2 : Addr) (h0 : Heap) (n0 : Nat) (Z0 : n0 ≤ h0.size) (F_root_a1 : Fld Z h0 a1 "java/util/ArrayList$SubList" "root" "Ljava/util/ArrayList;" (.ref a2)) (F_modCount_a2 : Fld Z h0 a2 "java/util/AbstractList" "modCount" "I" (.int (1 : Int32))) (F_modCount_a1 : Fld Z h0 a1 "java/util/AbstractList" "modCount" "I" (.int (1 : Int32))) :
    Con l Z (⟨"java/util/ArrayList$SubList", "checkForComodification", "()V"⟩ : MethodName) jdk_130_method_28_code 1 none ({ frames := 0, cells := 0, slots := 0, locals := 0 } : Room) [] #[(.ref a1)] h0 (fun v h L => v = none ∧ h = h0 ∧ L = []) := by
  refine Con.of (plainFor_of_name pn_java_util_ArrayList_SubList) #[.val (.ref a1)] (fun m => ef15 m a1) ?_
  intro p e s m below meth c s₁ K hx hby hml hown hnm hret hlk hZ X0 e0
  have N0 := Fr.nil n0
  refine m_aloadN K X0.here hx hby d_jdk_130_28_0 rfl rfl rfl ?_
  refine k_getF K X0 hx hby hZ hown (host := "") (Or.inl (hw _ (List.mem_of_getElem? (i := 124) rfl))) Via.refl e0 F_root_a1 d_jdk_130_28_1 rfl fun T1 X1 e1 => ?_
  refine k_getF K X1 hx hby hZ hown (host := "") (Or.inl (hw _ (List.mem_of_getElem? (i := 132) rfl))) (Via.of (hw _ (List.mem_of_getElem? (i := 55) rfl))) e1 F_modCount_a2 d_jdk_130_28_4 rfl fun T2 X2 e2 => ?_
  refine m_aloadN K X2.here hx hby d_jdk_130_28_7 rfl rfl rfl ?_
  refine k_getF K X2 hx hby hZ hown (host := "") (Or.inl (hw _ (List.mem_of_getElem? (i := 133) rfl))) (Via.of (hw _ (List.mem_of_getElem? (i := 134) rfl))) e2 F_modCount_a1 d_jdk_130_28_8 rfl fun T3 X3 e3 => ?_
  refine m_icmpY K X3.here hx hby (q := 22) d_jdk_130_28_11 (teq (by decide : (1 : Int32) = (1 : Int32))).1 (by decide) rfl ?_
  exact Go.retV X3 hx hby hlk hret d_jdk_130_28_22 (by decide) (by decide) (⟨rfl, e3, rfl⟩)
theorem d_jdk_130_5_0 : decode jdk_130_method_5_code 0 = .ok (.aload_n 0, 1) := by decide +kernel
theorem d_jdk_130_5_1 : decode jdk_130_method_5_code 1 = .ok (.invokevirtual 36, 3) := by decide +kernel
theorem d_jdk_130_5_4 : decode jdk_130_method_5_code 4 = .ok (.aload_n 0, 1) := by decide +kernel
theorem d_jdk_130_5_5 : decode jdk_130_method_5_code 5 = .ok (.getfield 21, 3) := by decide +kernel
theorem d_jdk_130_5_8 : decode jdk_130_method_5_code 8 = .ok (.ireturn, 1) := by decide +kernel
theorem ef16 (m : MethodId) (x0 : Addr) : entryFrame m #[(.ref x0)] 1 = mkF m 0 #[.val (.ref x0)] [] := by first | (simp [entryFrame, mkF, argsToLocals, Value.category]; done) | rfl
set_option maxRecDepth 65536 in
set_option maxHeartbeats 40000000 in
theorem c16 (l : Launch) (Z : State) (a0 : Array Value) (hw : ∀ d ∈ tables_1, d.before a0 Z = true) (a1 : Addr) (a2 : Addr) (p1 : Int32) (h0 : Heap) (n0 : Nat) (Z0 : n0 ≤ h0.size) (E_a1 : Exa Z h0 a1 "java/util/ArrayList$SubList") (F_root_a1 : Fld Z h0 a1 "java/util/ArrayList$SubList" "root" "Ljava/util/ArrayList;" (.ref a2)) (F_modCount_a2 : Fld Z h0 a2 "java/util/AbstractList" "modCount" "I" (.int (1 : Int32))) (F_modCount_a1 : Fld Z h0 a1 "java/util/AbstractList" "modCount" "I" (.int (1 : Int32))) (F_size_a1 : Fld Z h0 a1 "java/util/ArrayList$SubList" "size" "I" (.int p1)) :
    Con l Z (⟨"java/util/ArrayList$SubList", "size", "()I"⟩ : MethodName) jdk_130_method_5_code 1 (some .int) ({ frames := 1, cells := 0, slots := 0, locals := 12 } : Room) [] #[(.ref a1)] h0 (fun v h L => v = some (.int p1) ∧ h = h0 ∧ L = []) := by
  refine Con.of (plainFor_of_name pn_java_util_ArrayList_SubList) #[.val (.ref a1)] (fun m => ef16 m a1) ?_
  intro p e s m below meth c s₁ K hx hby hml hown hnm hret hlk hZ X0 e0
  have N0 := Fr.nil n0
  refine m_aloadN K X0.here hx hby d_jdk_130_5_0 rfl rfl rfl ?_
  refine k_callR K X0 hx hby hZ a1 [] [] hown (hw _ (List.mem_of_getElem? (i := 142) rfl)) (hw _ (List.mem_of_getElem? (i := 143) rfl)) (hw _ (List.mem_of_getElem? (i := 145) rfl)) (hw _ (List.mem_of_getElem? (i := 144) rfl)) (hw _ (List.mem_of_getElem? (i := 115) rfl)) (hw _ (List.mem_of_getElem? (i := 146) rfl)) (c15 l Z a0 hw a1 a2 h0 n0 Z0 F_root_a1 F_modCount_a2 F_modCount_a1) e0 E_a1 rfl rfl pd_0 rfl d_jdk_130_5_1 (by rw [hml]; rfl) rfl (by decide) (by decide) (Nat.le_of_ble_eq_true rfl) (by decide) (by decide) fun v1 T1 L1 X1 q1 => ?_
  obtain ⟨rfl, e1, rfl⟩ := q1
  replace X1 := own_px X1
  refine k_none K ?_
  refine m_aloadN K X1.here hx hby d_jdk_130_5_4 rfl rfl rfl ?_
  refine k_getF K X1 hx hby hZ hown (host := "") (Or.inl (hw _ (List.mem_of_getElem? (i := 130) rfl))) Via.refl e1 F_size_a1 d_jdk_130_5_5 rfl fun T2 X2 e2 => ?_
  exact Go.retI X2 hx hby hlk hret d_jdk_130_5_8 (by decide) (by decide) (⟨rfl, e2, rfl⟩)
def w0_1 (p1 : Int64) : Int64 := (p1 &&& (9223372036854775807 : Int64))
def w0_2 (p2 : Int64) : Int64 := (p2 &&& (9223372036854775807 : Int64))
def w0_3 (p1 : Int64) : Int32 := (if (SZV (w0_1 p1)) = (0 : Int32) then (1 : Int32) else (0 : Int32))
theorem w0_3_01 (p1 : Int64) : (w0_3 p1) = 0 ∨ (w0_3 p1) = 1 := by
  unfold w0_3
  split
  · exact (Or.inr rfl)
  · exact (Or.inl rfl)
def w0_4 (p1 : Int64) : Int32 := (if (w0_1 p1) = (0 : Int64) then (0 : Int32) else (1 : Int32))
theorem w0_4_01 (p1 : Int64) : (w0_4 p1) = 0 ∨ (w0_4 p1) = 1 := by
  unfold w0_4
  split
  · exact (Or.inl rfl)
  · exact (Or.inr rfl)
def w0_5 (p1 : Int64) : Int32 := (if (w0_1 p1) = (w0_1 p1) then (1 : Int32) else (0 : Int32))
theorem w0_5_01 (p1 : Int64) : (w0_5 p1) = 0 ∨ (w0_5 p1) = 1 := by
  unfold w0_5
  split
  · exact (Or.inr rfl)
  · exact (Or.inl rfl)
def w0_6 (p1 : Int64) : Int32 := (if (SKV (w0_1 p1)) = (w0_3 p1) then (w0_5 p1) else (0 : Int32))
theorem w0_6_01 (p1 : Int64) : (w0_6 p1) = 0 ∨ (w0_6 p1) = 1 := by
  unfold w0_6
  split
  · exact (w0_5_01 p1)
  · exact (Or.inl rfl)
def w0_7 (p1 : Int64) : Int32 := (if (SKV (w0_1 p1)) = (w0_4 p1) then (w0_6 p1) else (0 : Int32))
theorem w0_7_01 (p1 : Int64) : (w0_7 p1) = 0 ∨ (w0_7 p1) = 1 := by
  unfold w0_7
  split
  · exact (w0_6_01 p1)
  · exact (Or.inl rfl)
theorem own_k1 (p1 : Int64) : ¬ w0_1 p1 < 0 := by
  unfold w0_1
  rw [own_jlt]
  have hm : (p1 &&& (9223372036854775807 : Int64)).toInt ≥ 0 := by
    have e : (p1 &&& (9223372036854775807 : Int64)).toBitVec.msb = false := by
      rw [Int64.toBitVec_and, BitVec.msb_and]
      have : (9223372036854775807 : Int64).toBitVec.msb = false := by decide
      rw [this, Bool.and_false]
    show (p1 &&& (9223372036854775807 : Int64)).toBitVec.toInt ≥ 0
    rw [BitVec.toInt_eq_msb_cond, e]
    simp
  have e0 : (0 : Int64).toInt = 0 := rfl
  rw [e0]
  omega
theorem own_k2 (p2 : Int64) : ¬ MXJ 1 (w0_2 p2) < 1 := by
  show ¬ wm1_1 1 (w0_2 p2) < 1
  unfold wm1_1
  split
  · rename_i q
    rw [own_jlt] at q ⊢
    omega
  · decide
theorem own_sz (k : Int64) (h : ¬ k < 0) : (SZV k = 0 ∧ SKV k = 1 ∧ k ≠ 0) ∨ (SZV k = 1 ∧ SKV k = 0 ∧ k = 0) := by
  have e0 : (0 : Int64).toInt = 0 := rfl
  have e1 : (1 : Int64).toInt = 1 := rfl
  by_cases z : k = 0
  · subst z
    exact Or.inr ⟨by decide, by decide, rfl⟩
  · have hp : (0 : Int64) < k := by
      rw [own_jlt] at h ⊢
      have : k.toInt ≠ 0 := fun q => z (Int64.toInt_inj.mp q)
      rw [e0] at h ⊢
      omega
    refine Or.inl ⟨?_, if_pos hp, z⟩
    have h1 : ¬ k < 1 := by rw [own_jlt] at hp ⊢; rw [e0] at hp; rw [e1]; omega
    unfold SZV
    rw [own_min1 k h1]
    decide
theorem plain (p1 p2 : Int64) : w0_7 p1 = 1 := by
  have h5 : w0_5 p1 = 1 := if_pos rfl
  rcases own_sz (w0_1 p1) (own_k1 p1) with ⟨a, b, c⟩ | ⟨a, b, c⟩
  · have h3 : w0_3 p1 = 1 := if_pos a
    have h4 : w0_4 p1 = 1 := if_neg c
    have h6 : w0_6 p1 = 1 := by unfold w0_6; rw [b, h3, h5]; rfl
    unfold w0_7; rw [b, h4, h6]; rfl
  · have h3 : w0_3 p1 = 0 := if_neg (by rw [a]; decide)
    have h4 : w0_4 p1 = 0 := if_pos c
    have h6 : w0_6 p1 = 1 := by unfold w0_6; rw [b, h3, h5]; rfl
    unfold w0_7; rw [b, h4, h6]; rfl
theorem pn_com_example_vetted_query_vettedquery_PageSkipsPinLaw : plainName "com/example/vetted_query/vettedquery/PageSkipsPinLaw" = true := by first | (simp [plainName, overriddenIn]; done) | decide +kernel
theorem pd_10 : parseMethodDescriptor "(JJ)V" = some ⟨[.long, .long], none⟩ := by decide +kernel
theorem pd_11 : parseMethodDescriptor "(I)Ljava/lang/Integer;" = some ⟨[.int], some (.object "java/lang/Integer")⟩ := by decide +kernel
theorem pd_12 : parseMethodDescriptor "(Ljava/lang/Object;)Z" = some ⟨[(.object "java/lang/Object")], some .boolean⟩ := by decide +kernel
theorem pd_13 : parseMethodDescriptor "()Z" = some ⟨[], some .boolean⟩ := by decide +kernel
theorem pd_14 : parseMethodDescriptor "(Ljava/util/List;)Ljava/util/List;" = some ⟨[(.object "java/util/List")], some (.object "java/util/List")⟩ := by decide +kernel
theorem pd_15 : parseMethodDescriptor "()J" = some ⟨[], some .long⟩ := by decide +kernel
theorem ef0 (m : MethodId) (x0 : Int64) (x1 : Int64) : entryFrame m #[(.long x0), (.long x1)] maxLocals = mkF m 0 #[.val (.long x0), .second, .val (.long x1), .second, .unset, .unset, .unset, .unset, .unset, .unset, .unset, .unset, .unset] [] := by first | (simp [entryFrame, mkF, argsToLocals, Value.category, maxLocals]; done) | rfl
set_option maxRecDepth 65536 in
set_option maxHeartbeats 40000000 in
theorem law0 (l : Launch) (Z : State) (a0 : Array Value) (hw : ∀ d ∈ tables_1, d.before a0 Z = true) (ws : List Jvm.Cond) (p1 : Int64) (p2 : Int64) (d1 : Addr) (ca : Addr) (bx : List Value) (sv : Addr) (h0 : Heap) (n0 : Nat) (Z0 : n0 ≤ h0.size) (S_ArrayList_DEFAULTCAPACITY_EMPTY_ELEMENTDATA : Sta Z Z.heap "java/util/ArrayList" "DEFAULTCAPACITY_EMPTY_ELEMENTDATA" "[Ljava/lang/Object;" (.ref d1)) (S_Integer_IntegerCache_high : Sta Z Z.heap "java/lang/Integer$IntegerCache" "high" "I" (.int (127 : Int32))) (S_Integer_IntegerCache_cache : Sta Z Z.heap "java/lang/Integer$IntegerCache" "cache" "[Ljava/lang/Integer;" (.ref ca)) (O0 : Old Z n0 h0) (AD : Av Z h0 d1 (.object "java/lang/Object") []) (ACA : Av Z Z.heap ca (.object "java/lang/Integer") bx) (A7 : bx[135]? = some (.ref sv)) (E7 : Exa Z h0 sv "java/lang/Integer") :
    Con l Z x code maxLocals ret room_1 ws #[(.long p1), (.long p2)] h0 (fun v h L => v = some (.int 1) ∧ Fr n0 L) := by
  refine Con.of (plainFor_of_name pn_com_example_vetted_query_vettedquery_PageSkipsPinLaw) #[.val (.long p1), .second, .val (.long p2), .second, .unset, .unset, .unset, .unset, .unset, .unset, .unset, .unset, .unset] (fun m => ef0 m p1 p2) ?_
  intro p e s m below meth c s₁ K hx hby hml hown hnm hret hlk hZ X0 e0
  have N0 := Fr.nil n0
  refine m_lloadN K X0.here hx hby at_0 rfl rfl ?_
  refine m_ldc2 K X0 hx hby hZ hown (hw _ (List.mem_of_getElem? (i := 0) rfl)) at_1 rfl ?_
  refine m_land K X0.here hx hby (w0_1 p1) at_4 rfl rfl ?_
  refine m_lstore K X0.here hx hby #[.val (.long p1), .second, .val (.long p2), .second, .val (.long (w0_1 p1)), .second, .unset, .unset, .unset, .unset, .unset, .unset, .unset] at_5 rfl rfl ?_
  refine m_lconst K X0.here hx hby (1 : Int64) at_7 rfl rfl ?_
  refine m_lloadN K X0.here hx hby at_8 rfl rfl ?_
  refine m_ldc2 K X0 hx hby hZ hown (hw _ (List.mem_of_getElem? (i := 0) rfl)) at_9 rfl ?_
  refine m_land K X0.here hx hby (w0_2 p2) at_12 rfl rfl ?_
  refine k_callS K X0 hx hby hZ [(.long (1 : Int64)), (.long (w0_2 p2))] [] hown (hw _ (List.mem_of_getElem? (i := 1) rfl)) (hw _ (List.mem_of_getElem? (i := 2) rfl)) (hw _ (List.mem_of_getElem? (i := 3) rfl)) (hw _ (List.mem_of_getElem? (i := 4) rfl)) (c_mxj l Z a0 hw (1 : Int64) (w0_2 p2) h0 n0 Z0) e0 rfl rfl pd_8 rfl at_13 (by rw [hml]; rfl) rfl (by decide) (by decide) (Nat.le_of_ble_eq_true rfl) (by decide) (by decide) fun v1 T1 L1 X1 q1 => ?_
  obtain ⟨rfl, e1, rfl⟩ := q1
  replace X1 := own_px X1
  refine k_some K (w := (.long (MXJ (1 : Int64) (w0_2 p2)))) ?_
  refine m_lstore K X1.here hx hby #[.val (.long p1), .second, .val (.long p2), .second, .val (.long (w0_1 p1)), .second, .val (.long (MXJ (1 : Int64) (w0_2 p2))), .second, .unset, .unset, .unset, .unset, .unset] at_16 rfl rfl ?_
  refine k_newO K X1 hx hby hZ hown (hw _ (List.mem_of_getElem? (i := 5) rfl)) (hw _ (List.mem_of_getElem? (i := 6) rfl)) (hw _ (List.mem_of_getElem? (i := 7) rfl)) e1 at_18 rfl (by decide) (by decide) fun T2 h2 b2 X2 e2 E2 g2 A2 D2 => ?_
  have sz_b2 : h0.size ≤ b2 := Nat.le_trans (Nat.le_refl _) (Nat.le_of_eq g2.symm)
  have g_b2 : n0 ≤ b2 := Nat.le_trans Z0 sz_b2
  have F_skip_b2 : Fld Z h2 b2 "com/example/vetted_query/vettedquery/Page" "skip" "J" (.long (0 : Int64)) := D2 (Or.inr (hw _ (List.mem_of_getElem? (i := 15) rfl))) (ty := .long) (by decide)
  have F_keep_b2 : Fld Z h2 b2 "com/example/vetted_query/vettedquery/Page" "keep" "J" (.long (0 : Int64)) := D2 (Or.inr (hw _ (List.mem_of_getElem? (i := 17) rfl))) (ty := .long) (by decide)
  refine m_dup K X2.here hx hby at_21 rfl rfl ?_
  refine m_lload K X2.here hx hby at_22 rfl rfl ?_
  refine m_lload K X2.here hx hby at_24 rfl rfl ?_
  refine k_callP K X2 hx hby hZ b2 [(.long (w0_1 p1)), (.long (MXJ (1 : Int64) (w0_2 p2)))] [(.ref b2)] hown (hw _ (List.mem_of_getElem? (i := 8) rfl)) (hw _ (List.mem_of_getElem? (i := 9) rfl)) (hw _ (List.mem_of_getElem? (i := 7) rfl)) (hw _ (List.mem_of_getElem? (i := 10) rfl)) rfl (cp1 l Z a0 hw b2 (w0_1 p1) (MXJ (1 : Int64) (w0_2 p2)) (0 : Int64) (0 : Int64) h2 n0 (Nat.le_trans Z0 (Nat.le_trans (Nat.le_refl _) E2.1)) A2 F_skip_b2 F_keep_b2 g_b2) e2 rfl rfl pd_10 rfl at_26 (by rw [hml]; rfl) rfl (by decide) (by decide) (Nat.le_of_ble_eq_true rfl) (by decide) (by decide) fun v3 T3 L3 X3 q3 => ?_
  obtain ⟨rfl, Nq3, K3, Fp3_0, Fp3_1⟩ := q3
  have N3 := Fr.app N0 Nq3
  refine k_none K ?_
  refine m_astore K X3.here hx hby #[.val (.long p1), .second, .val (.long p2), .second, .val (.long (w0_1 p1)), .second, .val (.long (MXJ (1 : Int64) (w0_2 p2))), .second, .val (.ref b2), .unset, .unset, .unset, .unset] at_29 rfl rfl rfl ?_
  refine k_newO K X3 hx hby hZ hown (hw _ (List.mem_of_getElem? (i := 18) rfl)) (hw _ (List.mem_of_getElem? (i := 19) rfl)) (hw _ (List.mem_of_getElem? (i := 20) rfl)) rfl at_31 rfl (by decide) (by decide) fun T4 h4 b4 X4 e4 E4 g4 A4 D4 => ?_
  have sz_b4 : h0.size ≤ b4 := Nat.le_trans (Nat.le_trans (Nat.le_trans (Nat.le_refl _) E2.1) K3.1) (Nat.le_of_eq g4.symm)
  have g_b4 : n0 ≤ b4 := Nat.le_trans Z0 sz_b4
  have F_modCount_b4 : Fld Z h4 b4 "java/util/AbstractList" "modCount" "I" (.int (0 : Int32)) := D4 (Or.inl (hw _ (List.mem_of_getElem? (i := 38) rfl))) (ty := .int) (by decide)
  have F_elementData_b4 : Fld Z h4 b4 "java/util/ArrayList" "elementData" "[Ljava/lang/Object;" .null := D4 (Or.inl (hw _ (List.mem_of_getElem? (i := 41) rfl))) (ty := (.array (.object "java/lang/Object"))) (by decide)
  have F_size_b4 : Fld Z h4 b4 "java/util/ArrayList" "size" "I" (.int (0 : Int32)) := D4 (Or.inl (hw _ (List.mem_of_getElem? (i := 57) rfl))) (ty := .int) (by decide)
  refine m_dup K X4.here hx hby at_34 rfl rfl ?_
  refine k_callP K X4 hx hby hZ b4 [] [(.ref b4)] hown (hw _ (List.mem_of_getElem? (i := 21) rfl)) (hw _ (List.mem_of_getElem? (i := 22) rfl)) (hw _ (List.mem_of_getElem? (i := 20) rfl)) (hw _ (List.mem_of_getElem? (i := 23) rfl)) rfl (c1 l Z a0 hw b4 (0 : Int32) d1 h4 n0 (Nat.le_trans Z0 (Nat.le_trans (Nat.le_trans (Nat.le_trans (Nat.le_refl _) E2.1) K3.1) E4.1)) A4 F_modCount_b4 F_elementData_b4 F_size_b4 S_ArrayList_DEFAULTCAPACITY_EMPTY_ELEMENTDATA (((O0.ext E2).keep K3 (allS g_b2 all0)).ext E4) g_b4) e4 rfl rfl pd_0 rfl at_35 (by rw [hml]; rfl) rfl (by decide) (by decide) (Nat.le_of_ble_eq_true rfl) (by decide) (by decide) fun v5 T5 L5 X5 q5 => ?_
  obtain ⟨rfl, Nq5, K5, Fp5_0, Fp5_1, Fp5_2⟩ := q5
  have N5 := Fr.app N3 Nq5
  refine k_none K ?_
  refine m_astore K X5.here hx hby #[.val (.long p1), .second, .val (.long p2), .second, .val (.long (w0_1 p1)), .second, .val (.long (MXJ (1 : Int64) (w0_2 p2))), .second, .val (.ref b2), .val (.ref b4), .unset, .unset, .unset] at_38 rfl rfl rfl ?_
  refine m_aload K X5.here hx hby at_40 rfl rfl rfl ?_
  refine m_bipush K X5.here hx hby (7 : Int32) at_42 rfl rfl ?_
  refine k_callS K X5 hx hby hZ [(.int (7 : Int32))] [(.ref b4)] hown (hw _ (List.mem_of_getElem? (i := 42) rfl)) (hw _ (List.mem_of_getElem? (i := 43) rfl)) (hw _ (List.mem_of_getElem? (i := 44) rfl)) (hw _ (List.mem_of_getElem? (i := 45) rfl)) (c4 l Z a0 hw ca bx sv T5.heap n0 (Nat.le_trans Z0 (Nat.le_trans (Nat.le_trans (Nat.le_trans (Nat.le_trans (Nat.le_refl _) E2.1) K3.1) E4.1) K5.1)) S_Integer_IntegerCache_high S_Integer_IntegerCache_cache ((((O0.ext E2).keep K3 (allS g_b2 all0)).ext E4).keep K5 (allS g_b4 all0)) ACA A7) rfl rfl rfl pd_11 rfl at_44 (by rw [hml]; rfl) rfl (by decide) (by decide) (Nat.le_of_ble_eq_true rfl) (by decide) (by decide) fun v6 T6 L6 X6 q6 => ?_
  obtain ⟨rfl, e6, rfl⟩ := q6
  replace X6 := own_px X6
  refine k_some K (w := (.ref sv)) ?_
  refine k_callV K X6 hx hby hZ b4 [(.ref sv)] [] hown (hw _ (List.mem_of_getElem? (i := 49) rfl)) (hw _ (List.mem_of_getElem? (i := 50) rfl)) (notFace_of_selects (args := #[]) (mvT hZ (hw _ (List.mem_of_getElem? (i := 52) rfl)))) (hw _ (List.mem_of_getElem? (i := 52) rfl)) (hw _ (List.mem_of_getElem? (i := 51) rfl)) (hw _ (List.mem_of_getElem? (i := 20) rfl)) (hw _ (List.mem_of_getElem? (i := 53) rfl)) (c9 l Z a0 hw b4 sv d1 T5.heap n0 (Nat.le_trans Z0 (Nat.le_trans (Nat.le_trans (Nat.le_trans (Nat.le_trans (Nat.le_refl _) E2.1) K3.1) E4.1) K5.1)) (A4.keep K5) ((((E7.ext E2).keep K3).ext E4).keep K5) Fp5_0 Fp5_1 Fp5_2 ((((AD.ext E2).keep K3 (ninS (Nat.ne_of_lt (Nat.lt_of_lt_of_le (Nat.lt_of_lt_of_le AD.lt (Nat.le_refl _)) (Nat.le_of_eq g2.symm))) nin0)).ext E4).keep K5 (ninS (Nat.ne_of_lt (Nat.lt_of_lt_of_le (Nat.lt_of_lt_of_le AD.lt (Nat.le_trans (Nat.le_trans (Nat.le_refl _) E2.1) K3.1)) (Nat.le_of_eq g4.symm))) nin0)) S_ArrayList_DEFAULTCAPACITY_EMPTY_ELEMENTDATA ((((O0.ext E2).keep K3 (allS g_b2 all0)).ext E4).keep K5 (allS g_b4 all0)) g_b4 (Nat.ne_of_lt (Nat.lt_of_lt_of_le (Nat.lt_of_lt_of_le AD.lt (Nat.le_trans (Nat.le_trans (Nat.le_refl _) E2.1) K3.1)) (Nat.le_of_eq g4.symm)))) e6 (A4.keep K5) rfl rfl pd_12 rfl at_47 (by rw [hml]; rfl) rfl (by decide) (by decide) (Nat.le_of_ble_eq_true rfl) (by decide) (by decide) fun v7 T7 L7 X7 q7 => ?_
  obtain ⟨b7_ba, rfl, Nq7, K7, sq_b7_ba, Fp7_0, Fp7_1, Fp7_2⟩ := q7
  have N7 := Fr.app N5 Nq7
  have sz_b7_ba : h0.size ≤ b7_ba := Nat.le_trans (Nat.le_trans (Nat.le_trans (Nat.le_trans (Nat.le_trans (Nat.le_refl _) E2.1) K3.1) E4.1) K5.1) sq_b7_ba
  have g_b7_ba : n0 ≤ b7_ba := Nat.le_trans Z0 sz_b7_ba
  refine k_some K (w := (.int (1 : Int32))) ?_
  refine m_pop K X7.here hx hby at_50 rfl rfl ?_
  refine m_aload K X7.here hx hby at_51 rfl rfl rfl ?_
  refine k_callV K X7 hx hby hZ b2 [] [] hown (hw _ (List.mem_of_getElem? (i := 79) rfl)) (hw _ (List.mem_of_getElem? (i := 80) rfl)) (notFace_of_selects (args := #[]) (mvT hZ (hw _ (List.mem_of_getElem? (i := 82) rfl)))) (hw _ (List.mem_of_getElem? (i := 82) rfl)) (hw _ (List.mem_of_getElem? (i := 81) rfl)) (hw _ (List.mem_of_getElem? (i := 7) rfl)) (hw _ (List.mem_of_getElem? (i := 83) rfl)) (cp3 l Z a0 hw b2 (w0_1 p1) T7.heap n0 (Nat.le_trans Z0 (Nat.le_trans (Nat.le_trans (Nat.le_trans (Nat.le_trans (Nat.le_trans (Nat.le_refl _) E2.1) K3.1) E4.1) K5.1) K7.1)) (((Fp3_0.ext E4).keep K5 (ninS (Nat.ne_of_lt (Nat.lt_of_lt_of_le (Nat.lt_of_lt_of_le A2.lt (Nat.le_trans (Nat.le_refl _) K3.1)) (Nat.le_of_eq g4.symm))) nin0)).keep K7 (ninS (Nat.ne_of_lt (Nat.lt_of_lt_of_le (Nat.lt_of_lt_of_le A2.lt (Nat.le_trans (Nat.le_refl _) K3.1)) (Nat.le_of_eq g4.symm))) nin0))) rfl ((((A2.keep K3).ext E4).keep K5).keep K7) rfl rfl pd_13 rfl at_53 (by rw [hml]; rfl) rfl (by decide) (by decide) (Nat.le_of_ble_eq_true rfl) (by decide) (by decide) fun v8 T8 L8 X8 q8 => ?_
  obtain ⟨rfl, e8, rfl⟩ := q8
  replace X8 := own_px X8
  refine k_some K (w := (.int (SKV (w0_1 p1)))) ?_
  refine m_istore K X8.here hx hby #[.val (.long p1), .second, .val (.long p2), .second, .val (.long (w0_1 p1)), .second, .val (.long (MXJ (1 : Int64) (w0_2 p2))), .second, .val (.ref b2), .val (.ref b4), .val (.int (SKV (w0_1 p1))), .unset, .unset] at_56 rfl rfl ?_
  refine m_aload K X8.here hx hby at_58 rfl rfl rfl ?_
  refine m_aload K X8.here hx hby at_60 rfl rfl rfl ?_
  refine k_callV K X8 hx hby hZ b2 [(.ref b4)] [] hown (hw _ (List.mem_of_getElem? (i := 84) rfl)) (hw _ (List.mem_of_getElem? (i := 85) rfl)) (notFace_of_selects (args := #[]) (mvT hZ (hw _ (List.mem_of_getElem? (i := 87) rfl)))) (hw _ (List.mem_of_getElem? (i := 87) rfl)) (hw _ (List.mem_of_getElem? (i := 86) rfl)) (hw _ (List.mem_of_getElem? (i := 7) rfl)) (hw _ (List.mem_of_getElem? (i := 88) rfl)) (c14 l Z a0 hw b2 b4 (w0_1 p1) (MXJ (1 : Int64) (w0_2 p2)) T7.heap n0 (Nat.le_trans Z0 (Nat.le_trans (Nat.le_trans (Nat.le_trans (Nat.le_trans (Nat.le_trans (Nat.le_refl _) E2.1) K3.1) E4.1) K5.1) K7.1)) ((A4.keep K5).keep K7) (((Fp3_0.ext E4).keep K5 (ninS (Nat.ne_of_lt (Nat.lt_of_lt_of_le (Nat.lt_of_lt_of_le A2.lt (Nat.le_trans (Nat.le_refl _) K3.1)) (Nat.le_of_eq g4.symm))) nin0)).keep K7 (ninS (Nat.ne_of_lt (Nat.lt_of_lt_of_le (Nat.lt_of_lt_of_le A2.lt (Nat.le_trans (Nat.le_refl _) K3.1)) (Nat.le_of_eq g4.symm))) nin0)) (((Fp3_1.ext E4).keep K5 (ninS (Nat.ne_of_lt (Nat.lt_of_lt_of_le (Nat.lt_of_lt_of_le A2.lt (Nat.le_trans (Nat.le_refl _) K3.1)) (Nat.le_of_eq g4.symm))) nin0)).keep K7 (ninS (Nat.ne_of_lt (Nat.lt_of_lt_of_le (Nat.lt_of_lt_of_le A2.lt (Nat.le_trans (Nat.le_refl _) K3.1)) (Nat.le_of_eq g4.symm))) nin0)) Fp7_2 Fp7_0 (own_k1 p1) (own_k2 p2)) e8 ((((A2.keep K3).ext E4).keep K5).keep K7) rfl rfl pd_14 rfl at_62 (by rw [hml]; rfl) rfl (by decide) (by decide) (Nat.le_of_ble_eq_true rfl) (by decide) (by decide) fun v9 T9 L9 X9 q9 => ?_
  obtain ⟨b9_b, rfl, Nq9, K9, sq_b9_b, E_b9_b, Fp9_0, Fp9_1, Fp9_2⟩ := q9
  have N9 := Fr.app N7 Nq9
  have sz_b9_b : h0.size ≤ b9_b := Nat.le_trans (Nat.le_trans (Nat.le_trans (Nat.le_trans (Nat.le_trans (Nat.le_trans (Nat.le_refl _) E2.1) K3.1) E4.1) K5.1) K7.1) sq_b9_b
  have g_b9_b : n0 ≤ b9_b := Nat.le_trans Z0 sz_b9_b
  refine k_some K (w := (.ref b9_b)) ?_
  refine m_astore K X9.here hx hby #[.val (.long p1), .second, .val (.long p2), .second, .val (.long (w0_1 p1)), .second, .val (.long (MXJ (1 : Int64) (w0_2 p2))), .second, .val (.ref b2), .val (.ref b4), .val (.int (SKV (w0_1 p1))), .val (.ref b9_b), .unset] at_65 rfl rfl rfl ?_
  refine m_aload K X9.here hx hby at_67 rfl rfl rfl ?_
  refine k_callI K X9 hx hby hZ b9_b [] [] hown (hw _ (List.mem_of_getElem? (i := 135) rfl)) (hw _ (List.mem_of_getElem? (i := 90) rfl)) (mvT hZ (hw _ (List.mem_of_getElem? (i := 91) rfl))) (hw _ (List.mem_of_getElem? (i := 136) rfl)) (hw _ (List.mem_of_getElem? (i := 137) rfl)) (hw _ (List.mem_of_getElem? (i := 138) rfl)) (hw _ (List.mem_of_getElem? (i := 139) rfl)) (hw _ (List.mem_of_getElem? (i := 140) rfl)) (hw _ (List.mem_of_getElem? (i := 115) rfl)) (hw _ (List.mem_of_getElem? (i := 141) rfl)) (c16 l Z a0 hw b9_b b4 (SZV (w0_1 p1)) T9.heap n0 (Nat.le_trans Z0 (Nat.le_trans (Nat.le_trans (Nat.le_trans (Nat.le_trans (Nat.le_trans (Nat.le_trans (Nat.le_refl _) E2.1) K3.1) E4.1) K5.1) K7.1) K9.1)) E_b9_b Fp9_1 (Fp7_0.keep K9 nin0) Fp9_0 Fp9_2) rfl E_b9_b rfl rfl pd_7 rfl at_69 (by rw [hml]; rfl) rfl (by decide) (by decide) (Nat.le_of_ble_eq_true rfl) (by decide) (by decide) fun v10 T10 L10 X10 q10 => ?_
  obtain ⟨rfl, e10, rfl⟩ := q10
  replace X10 := own_px X10
  refine k_some K (w := (.int (SZV (w0_1 p1)))) ?_
  obtain ⟨T12, X12, e12, st12⟩ : Mx X10 T9.heap (mkF m 82 #[.val (.long p1), .second, .val (.long p2), .second, .val (.long (w0_1 p1)), .second, .val (.long (MXJ (1 : Int64) (w0_2 p2))), .second, .val (.ref b2), .val (.ref b4), .val (.int (SKV (w0_1 p1))), .val (.ref b9_b), .unset] [(.int (w0_3 p1))]) (T10.setTop (mkF m 74 #[.val (.long p1), .second, .val (.long p2), .second, .val (.long (w0_1 p1)), .second, .val (.long (MXJ (1 : Int64) (w0_2 p2))), .second, .val (.ref b2), .val (.ref b4), .val (.int (SKV (w0_1 p1))), .val (.ref b9_b), .unset] [(.int (SZV (w0_1 p1)))])) := by
    refine Mx.with fun K => ?_
    by_cases hc74_11 : (SZV (w0_1 p1)) = (0 : Int32)
    · refine m_ifN K X10.here hx hby (q := 77) at_74 ((if0 _ _).trans (teq hc74_11).2) rfl ?_
      refine m_iconst K X10.here hx hby (1 : Int32) at_77 rfl rfl ?_
      refine m_goto K X10.here hx hby (q := 82) at_78 (by decide) rfl ?_
      rw [show ((w0_3 p1) : Int32) = (1 : Int32) from if_pos hc74_11]
      exact Mx.here X10 e10
    · refine m_ifY K X10.here hx hby (q := 81) at_74 ((if0 _ _).trans (feq hc74_11).2) (by decide) rfl ?_
      refine m_iconst K X10.here hx hby (0 : Int32) at_81 rfl rfl ?_
      rw [show ((w0_3 p1) : Int32) = (0 : Int32) from if_neg hc74_11]
      exact Mx.here X10 e10
  refine k_go K st12 ?_
  refine m_istore K X12.here hx hby #[.val (.long p1), .second, .val (.long p2), .second, .val (.long (w0_1 p1)), .second, .val (.long (MXJ (1 : Int64) (w0_2 p2))), .second, .val (.ref b2), .val (.ref b4), .val (.int (SKV (w0_1 p1))), .val (.ref b9_b), .val (.int (w0_3 p1))] at_82 rfl rfl ?_
  refine m_iload K X12.here hx hby at_84 rfl rfl ?_
  refine m_lload K X12.here hx hby at_86 rfl rfl ?_
  refine m_lconst K X12.here hx hby (0 : Int64) at_88 rfl rfl ?_
  refine m_lcmp K X12.here hx hby (lcmpW (w0_1 p1) (0 : Int64)) at_89 rfl rfl ?_
  obtain ⟨T14, X14, e14, st14⟩ : Mx X12 T9.heap (mkF m 98 #[.val (.long p1), .second, .val (.long p2), .second, .val (.long (w0_1 p1)), .second, .val (.long (MXJ (1 : Int64) (w0_2 p2))), .second, .val (.ref b2), .val (.ref b4), .val (.int (SKV (w0_1 p1))), .val (.ref b9_b), .val (.int (w0_3 p1))] [(.int (w0_4 p1)), (.int (SKV (w0_1 p1)))]) (T12.setTop (mkF m 90 #[.val (.long p1), .second, .val (.long p2), .second, .val (.long (w0_1 p1)), .second, .val (.long (MXJ (1 : Int64) (w0_2 p2))), .second, .val (.ref b2), .val (.ref b4), .val (.int (SKV (w0_1 p1))), .val (.ref b9_b), .val (.int (w0_3 p1))] [(.int (lcmpW (w0_1 p1) (0 : Int64))), (.int (SKV (w0_1 p1)))])) := by
    refine Mx.with fun K => ?_
    by_cases hc90_13 : (w0_1 p1) = (0 : Int64)
    · refine m_ifY K X12.here hx hby (q := 97) at_90 ((if0 _ _).trans (teq ((lw_eq (w0_1 p1) (0 : Int64)).mpr hc90_13)).1) (by decide) rfl ?_
      refine m_iconst K X12.here hx hby (0 : Int32) at_97 rfl rfl ?_
      rw [show ((w0_4 p1) : Int32) = (0 : Int32) from if_pos hc90_13]
      exact Mx.here X12 e12
    · refine m_ifN K X12.here hx hby (q := 93) at_90 ((if0 _ _).trans (feq (fun q => hc90_13 ((lw_eq (w0_1 p1) (0 : Int64)).mp q))).1) rfl ?_
      refine m_iconst K X12.here hx hby (1 : Int32) at_93 rfl rfl ?_
      refine m_goto K X12.here hx hby (q := 98) at_94 (by decide) rfl ?_
      rw [show ((w0_4 p1) : Int32) = (1 : Int32) from if_neg hc90_13]
      exact Mx.here X12 e12
  refine k_go K st14 ?_
  obtain ⟨T21, X21, e21, st21⟩ : Mx X14 T9.heap (mkF m 124 #[.val (.long p1), .second, .val (.long p2), .second, .val (.long (w0_1 p1)), .second, .val (.long (MXJ (1 : Int64) (w0_2 p2))), .second, .val (.ref b2), .val (.ref b4), .val (.int (SKV (w0_1 p1))), .val (.ref b9_b), .val (.int (w0_3 p1))] [(.int (w0_7 p1))]) (T14.setTop (mkF m 98 #[.val (.long p1), .second, .val (.long p2), .second, .val (.long (w0_1 p1)), .second, .val (.long (MXJ (1 : Int64) (w0_2 p2))), .second, .val (.ref b2), .val (.ref b4), .val (.int (SKV (w0_1 p1))), .val (.ref b9_b), .val (.int (w0_3 p1))] [(.int (w0_4 p1)), (.int (SKV (w0_1 p1)))])) := by
    refine Mx.with fun K => ?_
    by_cases hc98_15 : (SKV (w0_1 p1)) = (w0_4 p1)
    · refine m_icmpN K X14.here hx hby (q := 101) at_98 (teq hc98_15).2 rfl ?_
      refine m_iload K X14.here hx hby at_101 rfl rfl ?_
      refine m_iload K X14.here hx hby at_103 rfl rfl ?_
      obtain ⟨T20, X20, e20, st20⟩ : Mx X14 T9.heap (mkF m 124 #[.val (.long p1), .second, .val (.long p2), .second, .val (.long (w0_1 p1)), .second, .val (.long (MXJ (1 : Int64) (w0_2 p2))), .second, .val (.ref b2), .val (.ref b4), .val (.int (SKV (w0_1 p1))), .val (.ref b9_b), .val (.int (w0_3 p1))] [(.int (w0_6 p1))]) (T14.setTop (mkF m 105 #[.val (.long p1), .second, .val (.long p2), .second, .val (.long (w0_1 p1)), .second, .val (.long (MXJ (1 : Int64) (w0_2 p2))), .second, .val (.ref b2), .val (.ref b4), .val (.int (SKV (w0_1 p1))), .val (.ref b9_b), .val (.int (w0_3 p1))] [(.int (w0_3 p1)), (.int (SKV (w0_1 p1)))])) := by
        refine Mx.with fun K => ?_
        by_cases hc105_16 : (SKV (w0_1 p1)) = (w0_3 p1)
        · refine m_icmpN K X14.here hx hby (q := 108) at_105 (teq hc105_16).2 rfl ?_
          refine m_aload K X14.here hx hby at_108 rfl rfl rfl ?_
          refine k_callV K X14 hx hby hZ b2 [] [] hown (hw _ (List.mem_of_getElem? (i := 147) rfl)) (hw _ (List.mem_of_getElem? (i := 148) rfl)) (notFace_of_selects (args := #[]) (mvT hZ (hw _ (List.mem_of_getElem? (i := 150) rfl)))) (hw _ (List.mem_of_getElem? (i := 150) rfl)) (hw _ (List.mem_of_getElem? (i := 149) rfl)) (hw _ (List.mem_of_getElem? (i := 7) rfl)) (hw _ (List.mem_of_getElem? (i := 151) rfl)) (cp2 l Z a0 hw b2 (w0_1 p1) T9.heap n0 (Nat.le_trans Z0 (Nat.le_trans (Nat.le_trans (Nat.le_trans (Nat.le_trans (Nat.le_trans (Nat.le_trans (Nat.le_refl _) E2.1) K3.1) E4.1) K5.1) K7.1) K9.1)) ((((Fp3_0.ext E4).keep K5 (ninS (Nat.ne_of_lt (Nat.lt_of_lt_of_le (Nat.lt_of_lt_of_le A2.lt (Nat.le_trans (Nat.le_refl _) K3.1)) (Nat.le_of_eq g4.symm))) nin0)).keep K7 (ninS (Nat.ne_of_lt (Nat.lt_of_lt_of_le (Nat.lt_of_lt_of_le A2.lt (Nat.le_trans (Nat.le_refl _) K3.1)) (Nat.le_of_eq g4.symm))) nin0)).keep K9 nin0)) e14 (((((A2.keep K3).ext E4).keep K5).keep K7).keep K9) rfl rfl pd_15 rfl at_110 (by rw [hml]; rfl) rfl (by decide) (by decide) (Nat.le_of_ble_eq_true rfl) (by decide) (by decide) fun v17 T17 L17 X17 q17 => ?_
          obtain ⟨rfl, e17, rfl⟩ := q17
          replace X17 := own_px X17
          refine k_some K (w := (.long (w0_1 p1))) ?_
          refine m_lload K X17.here hx hby at_113 rfl rfl ?_
          refine m_lcmp K X17.here hx hby (lcmpW (w0_1 p1) (w0_1 p1)) at_115 rfl rfl ?_
          obtain ⟨T19, X19, e19, st19⟩ : Mx X17 T9.heap (mkF m 124 #[.val (.long p1), .second, .val (.long p2), .second, .val (.long (w0_1 p1)), .second, .val (.long (MXJ (1 : Int64) (w0_2 p2))), .second, .val (.ref b2), .val (.ref b4), .val (.int (SKV (w0_1 p1))), .val (.ref b9_b), .val (.int (w0_3 p1))] [(.int (w0_5 p1))]) (T17.setTop (mkF m 116 #[.val (.long p1), .second, .val (.long p2), .second, .val (.long (w0_1 p1)), .second, .val (.long (MXJ (1 : Int64) (w0_2 p2))), .second, .val (.ref b2), .val (.ref b4), .val (.int (SKV (w0_1 p1))), .val (.ref b9_b), .val (.int (w0_3 p1))] [(.int (lcmpW (w0_1 p1) (w0_1 p1)))])) := by
            refine Mx.with fun K => ?_
            by_cases hc116_18 : (w0_1 p1) = (w0_1 p1)
            · refine m_ifN K X17.here hx hby (q := 119) at_116 ((if0 _ _).trans (teq ((lw_eq (w0_1 p1) (w0_1 p1)).mpr hc116_18)).2) rfl ?_
              refine m_iconst K X17.here hx hby (1 : Int32) at_119 rfl rfl ?_
              refine m_goto K X17.here hx hby (q := 124) at_120 (by decide) rfl ?_
              rw [show ((w0_5 p1) : Int32) = (1 : Int32) from if_pos hc116_18]
              exact Mx.here X17 e17
            · refine m_ifY K X17.here hx hby (q := 123) at_116 ((if0 _ _).trans (feq (fun q => hc116_18 ((lw_eq (w0_1 p1) (w0_1 p1)).mp q))).2) (by decide) rfl ?_
              refine m_iconst K X17.here hx hby (0 : Int32) at_123 rfl rfl ?_
              rw [show ((w0_5 p1) : Int32) = (0 : Int32) from if_neg hc116_18]
              exact Mx.here X17 e17
          refine k_go K st19 ?_
          rw [show ((w0_6 p1) : Int32) = (w0_5 p1) from if_pos hc105_16]
          exact Mx.here X19 e19
        · refine m_icmpY K X14.here hx hby (q := 123) at_105 (feq hc105_16).2 (by decide) rfl ?_
          refine m_iconst K X14.here hx hby (0 : Int32) at_123 rfl rfl ?_
          rw [show ((w0_6 p1) : Int32) = (0 : Int32) from if_neg hc105_16]
          exact Mx.here X14 e14
      refine k_go K st20 ?_
      rw [show ((w0_7 p1) : Int32) = (w0_6 p1) from if_pos hc98_15]
      exact Mx.here X20 e20
    · refine m_icmpY K X14.here hx hby (q := 123) at_98 (feq hc98_15).2 (by decide) rfl ?_
      refine m_iconst K X14.here hx hby (0 : Int32) at_123 rfl rfl ?_
      rw [show ((w0_7 p1) : Int32) = (0 : Int32) from if_neg hc98_15]
      exact Mx.here X14 e14
  refine k_go K st21 ?_
  rw [plain p1 p2]
  exact Go.retN X21 hx hby hlk hret (by simp) at_124 (by decide) (by decide) (by decide) (⟨rfl, N9⟩)
theorem own_eqi {t : Term} {k : Int32} {args : Array Value} {first s : State} {o : Option Outcome} {idx : List Nat} (h : (Jvm.Cond.eq t (Term.int k)).value args first o s idx = some true) : t.eval args first o idx s = some (.int k) := by
  obtain ⟨x, y, h1, h2, k1, k2⟩ := cmp_v (Or.inl h)
  rw [Term.int_eval] at h2
  cases h2
  obtain ⟨z, rfl⟩ := k2
  have e : (Jvm.Cond.eq t (Term.int k)).value args first o s idx = some (decide (z = k)) := by simp [Jvm.Cond.value, h1, Term.int_eval]
  rw [h1, gotT e h]
theorem own_lenv {t : Term} {n : Int32} {x : Addr} {cl : Cell} {args : Array Value} {first s : State} {o : Option Outcome} {idx : List Nat} (h : (Term.length t).eval args first o idx s = some (.int n)) (ht : t.eval args first o idx s = some (.ref x)) (ha : s.arrayAt? x = some cl) : cl.slots.size < 2147483648 ∧ cl.slots.size.toInt32 = n := by
  simp only [Term.eval, ht, Option.bind_eq_bind, Option.bind_some, ha] at h
  by_cases hn : cl.slots.size < 2147483648
  · rw [if_pos hn] at h; cases h; exact ⟨hn, rfl⟩
  · rw [if_neg hn] at h; cases h
theorem own_full {cl : Cell} {vs : List Value} (hs : cl.slots.size = vs.length) (H : HasL cl 0 vs) : cl.slots = vs.toArray := by
  refine Array.ext_getElem? fun i => ?_
  by_cases q : i < vs.length
  · have := HasL.at (dv := .null) vs 0 H i q
    rw [Nat.zero_add] at this
    rw [this]; simp [q]
  · rw [Array.getElem?_eq_none (by omega), List.getElem?_toArray, List.getElem?_eq_none (by omega)]
theorem own_sz0 {n : Nat} (h : n < 2147483648) (e : n.toInt32 = 0) : n = 0 := by
  have := congrArg Int32.toInt e
  rw [Nat.toInt32, Int32.toInt_ofNat_small (by omega)] at this
  exact Int.ofNat.inj this
theorem own_135 {c : Cell} (h : c.slots.size < 2147483648) (e : c.slots.size.toInt32 = 256) : ¬ ((135 : Int32) < 0 ∨ c.slots.size ≤ (135 : Int32).toNatClampNeg) := by
  have := congrArg Int32.toInt e
  rw [Nat.toInt32, Int32.toInt_ofNat_small (by omega)] at this
  have q : (256 : Int32).toInt = 256 := rfl
  have r : (135 : Int32).toNatClampNeg = 135 := rfl
  rw [q] at this
  rw [r]
  rintro (x | x)
  · exact absurd x (by decide)
  · omega
set_option maxRecDepth 65536 in
set_option maxHeartbeats 40000000 in
theorem comes_1 {Post : Tables → Env → Array Value → State → Outcome → State → Prop} (hpost : ∀ tb e args s v u, (limb_1_1.after args s (.returned v) u = true ∧ limb_1_2.after args s (.returned v) u = true ∧ True) → FrameEnd s (.returned v) u (Jvm.fieldLocs frame_1_writes args s ++ Jvm.arrayLocs frame_1_arrays args s ++ Jvm.staticLocs frame_1_statics s) 16 128 → Post tb e args s (.returned v) u) :
    ArmFor flags0 classFile x code maxLocals ret World_1 tables_1 room_1 Calls_1 rest_1 Pre_1 Post := by
  intro l hfl _ _ p e ha hc hk s m args below hf hA hF happ hP
  obtain ⟨hcalls, hrest, hpre⟩ := hP
  obtain ⟨-, -, -, hnamed, -, -, -, hat⟩ := (Spec.applies_iff hf).mp happ
  obtain ⟨hg, hn⟩ := and_e (Cond.before_iff.mp (show (Jvm.Cond.and given_1 narrow_1).before args s = true from hpre))
  obtain ⟨g1, g2⟩ := and_e hg
  obtain ⟨w0, w1, rfl⟩ : ∃ w0 w1 : Value, args = #[w0, w1] := by
    have hs : args.size = 2 := by simpa [Cond.value, given_1] using g1
    obtain ⟨L⟩ := args
    match L, hs with
    | [w0, w1], _ => exact ⟨w0, w1, rfl⟩
  obtain ⟨k0, r0⟩ := and_e g2
  obtain ⟨i0, z0⟩ := isL_v k0
  obtain rfl : w0 = (.long i0) := Option.some.inj z0
  obtain ⟨i1, z1⟩ := isL_v r0
  obtain rfl : w1 = (.long i1) := Option.some.inj z1
  have hw := fun d (hd : d ∈ tables_1) => atoms_spec (ws := Jvm.Cond.code x code maxLocals ret :: tables_1) hat d (List.mem_cons_of_mem _ hd)
  have hfit : Fit s := fun {y c} hc i hi => by
    obtain ⟨ha, rfl⟩ := Array.getElem?_eq_some_iff.mp hc
    have q := List.all_eq_true.mp ((Array.all_eq_true_iff_forall_mem.mp hF) _ (Array.getElem_mem ha)) i (List.mem_range.mpr hi)
    simpa [Array.getElem?_eq_getElem hi] using q
  obtain ⟨hsets, hown0⟩ := atoms_of _ (rest_1_c_eq ▸ (show rest_1_c.before _ s = true from hrest))
  obtain ⟨d1, e_D⟩ := exa_v (Cond.before_iff.mp (hsets _ (List.mem_of_getElem? (i := 7) rfl)))
  have S_D := Sta.start e_D (Or.inr ⟨(hw _ (List.mem_of_getElem? (i := 20) rfl)), (hsets _ (List.mem_of_getElem? (i := 2) rfl))⟩)
  obtain ⟨cD, AD0⟩ := Arr.start e_D (Cond.before_iff.mp (hsets _ (List.mem_of_getElem? (i := 6) rfl)))
  obtain ⟨lD, lD2⟩ := own_lenv (own_eqi (Cond.before_iff.mp (hsets _ (List.mem_of_getElem? (i := 8) rfl)))) e_D (AD0.fin (Vm.Alike.refl _))
  have AD : Av s s.heap d1 (.object "java/lang/Object") [] := ⟨cD, AD0, Array.eq_empty_of_size_eq_zero (own_sz0 lD lD2)⟩
  have S_H := Sta.start (own_eqi (Cond.before_iff.mp (hsets _ (List.mem_of_getElem? (i := 12) rfl)))) (Or.inr ⟨(hw _ (List.mem_of_getElem? (i := 47) rfl)), (hsets _ (List.mem_of_getElem? (i := 9) rfl))⟩)
  obtain ⟨ca, e_C⟩ := exa_v (Cond.before_iff.mp (hsets _ (List.mem_of_getElem? (i := 14) rfl)))
  have S_C := Sta.start e_C (Or.inr ⟨(hw _ (List.mem_of_getElem? (i := 47) rfl)), (hsets _ (List.mem_of_getElem? (i := 11) rfl))⟩)
  obtain ⟨cC, AC0⟩ := Arr.start e_C (Cond.before_iff.mp (hsets _ (List.mem_of_getElem? (i := 13) rfl)))
  obtain ⟨lC, lC2⟩ := own_lenv (own_eqi (Cond.before_iff.mp (hsets _ (List.mem_of_getElem? (i := 15) rfl)))) e_C (AC0.fin (Vm.Alike.refl _))
  obtain ⟨-, -, -, hbx⟩ := Bxs.start (z := 256) (val := fun j => .int (j - 128)) (fun _ => e_C) AC0 lC lC2 (by decide) (Cond.before_iff.mp (hsets _ (List.mem_of_getElem? (i := 16) rfl))) (fun X j nn h => eqv_i (by simp [Term.eval, Binary.apply]; exact (back32 nn).1) h)
  obtain ⟨sv, A7, E7, -⟩ := hbx 135 (own_135 lC lC2)
  obtain ⟨n, o, h1, h2, h3, _, L, rfl, ⟨rfl, N⟩, hq⟩ := law0 l s _ hw tables_1 i0 i1 d1 ca cC.slots.toList sv s.heap s.heap.size (Nat.le_refl _) S_D S_H S_C (Old.start s) AD ⟨cC, AC0, rfl⟩ ((Array.getElem?_toList ..).trans A7) E7 p e ha hc hk s m _ below hf ((Spec.applies_iff_loose hf).mp happ).1 ⟨rfl, State.Warmed39.refl s, rfl⟩ trivial
  refine ⟨n, _, h1, h2, h3, hpost _ _ _ _ _ _ ⟨Cond.after_iff.mpr rfl, Cond.after_iff.mpr (eq_i res_at (Term.int_eval (1)) rfl), trivial⟩ ⟨hq.1, hq.2.1, (hq.2.2.sift fun y hy => Or.inr (N y hy)).mono (by decide) (by decide)⟩⟩
theorem main_1_1 : Claimed_1_1 := comes_1 fun _ _ _ _ _ _ h hF => ⟨h.1, hF⟩
theorem main_1_2 : Claimed_1_2 := comes_1 fun _ _ _ _ _ _ h hF => ⟨h.2.1, hF⟩
end Jvm.Pilot.@@N@@
namespace Jvm.Pilot.@@N@@
open Jvm Jvm.ClassFile Sem Op Lib Jvm.Free Jvm.Stand Jvm.Pilot.@@N@@.Jvm.D
/-! MADE BY PROGRAM (witnessworld.py) out of the Statement's table words and the real class files: 27 classes; the members and pool entries that the words name. The judged class is class 1, her method 1. -/
namespace start1
open Jvm.ClassFile
def u (s : String) : CpInfo := .utf8 (stringToUtf16 s)
/-- a pool by its gaps: so many unusable entries, then the entry; so many at the end -/
def gap : Nat → List CpInfo → List CpInfo
  | 0, r => r
  | n + 1, r => .unusable :: gap n r
def poolList (es : List (Nat × CpInfo)) (last : Nat) : List CpInfo := es.foldr (fun e r => gap e.1 (e.2 :: r)) (gap last [])
def pool (es : List (Nat × CpInfo)) (last : Nat) : Array CpInfo := ⟨poolList es last⟩
def fileOf (pool : Array CpInfo) (this : Nat) (attrs : Array Attribute := #[]) (ms : Array MethodInfo := #[]) (fl : Nat := 33) (sup : Nat := 0) (ifs : Array Nat := #[]) (fds : Array FieldInfo := #[]) : ClassFile where
  minorVersion := 0
  majorVersion := 65
  constantPool := pool
  accessFlags := fl
  thisClass := this
  superClass := sup
  interfaces := ifs
  fields := fds
  methods := ms
  attributes := attrs
def plain (name : String) (sup : Option ClassId) : Class where
  name := name
  kind := .ordinary
  loader := none
  accessFlags := 33
  super := sup
  interfaces := #[]
  cf := none
  fields := #[]
  methods := #[]
  instanceTypes := #[]
  staticTypes := #[]
  resolved := #[]
  callSites := []
  init := .initialized
  statics := none
  mirror := none

def pool0 : Array CpInfo := pool [(5, u "<init>"), (0, u "()V"), (1, .class_ 10), (1, u "java/lang/Object")] 113

def k0c0 : Code := { maxStack := 0, maxLocals := 1, code := object_method_1_code, exceptionTable := #[], attributes := #[] }
def k0m0 : Method := { name := "<init>", desc := "()V", sig := { parameters := [], returnType := none }, accessFlags := 1, code := some k0c0 }
/-- java/lang/Object -/
def k0 : Class := { plain "java/lang/Object" none with
  accessFlags := 33
  interfaces := #[]
  cf := some (fileOf pool0 8 #[] #[{ accessFlags := 1, nameIndex := 5, descriptorIndex := 6, attributes := #[] }] 33 0 #[] #[])
  fields := #[]
  methods := #[k0m0]
  instanceTypes := #[]
  staticTypes := #[]
  resolved := Array.replicate 124 none
  statics := none }

def pool1 : Array CpInfo := pool [(2, .class_ 4), (0, .nameAndType 5 6), (0, u "java/lang/Object"), (0, u "<init>"), (0, u "()V"), (2, .long 9223372036854775807), (1, .methodref 12 13), (0, .class_ 14), (0, .nameAndType 15 16), (0, u "java/lang/Math"), (0, u "max"), (0, u "(JJ)J"), (0, .class_ 18), (0, u "com/example/vetted_query/vettedquery/Page"), (0, .methodref 17 20), (0, .nameAndType 5 21), (0, u "(JJ)V"), (0, .class_ 23), (0, u "java/util/ArrayList"), (0, .methodref 22 3), (0, .methodref 26 27), (0, .class_ 28), (0, .nameAndType 29 30), (0, u "java/lang/Integer"), (0, u "valueOf"), (0, u "(I)Ljava/lang/Integer;"), (0, .methodref 22 32), (0, .nameAndType 33 34), (0, u "add"), (0, u "(Ljava/lang/Object;)Z"), (0, .methodref 17 36), (0, .nameAndType 37 38), (0, u "skips"), (0, u "()Z"), (0, .methodref 17 40), (0, .nameAndType 41 42), (0, u "of"), (0, u "(Ljava/util/List;)Ljava/util/List;"), (0, .interfaceMethodref 44 45), (0, .class_ 46), (0, .nameAndType 47 48), (0, u "java/util/List"), (0, u "size"), (0, u "()I"), (0, .methodref 17 50), (0, .nameAndType 51 52), (0, u "skip"), (0, u "()J"), (0, .class_ 54), (0, u "com/example/vetted_query/vettedquery/PageSkipsPinLaw"), (2, u "law"), (0, u "(JJ)Z")] 3

def k1m0 : Method := { name := "<init>", desc := "()V", sig := { parameters := [], returnType := none }, accessFlags := 1, code := none }
def k1c1 : Code := { maxStack := 6, maxLocals := 13, code := code, exceptionTable := #[], attributes := #[] }
def k1m1 : Method := { name := "law", desc := "(JJ)Z", sig := { parameters := [.long, .long], returnType := some .boolean }, accessFlags := 9, code := some k1c1 }
/-- com/example/vetted_query/vettedquery/PageSkipsPinLaw -/
def k1 : Class := { plain "com/example/vetted_query/vettedquery/PageSkipsPinLaw" (some 0) with
  accessFlags := 49
  interfaces := #[]
  cf := some (fileOf pool1 53 #[] #[{ accessFlags := 1, nameIndex := 5, descriptorIndex := 6, attributes := #[] }, { accessFlags := 9, nameIndex := 57, descriptorIndex := 58, attributes := #[] }] 49 2 #[] #[])
  fields := #[]
  methods := #[k1m0, k1m1]
  instanceTypes := #[]
  staticTypes := #[]
  resolved := Array.replicate 62 none
  statics := none }

def pool2 : Array CpInfo := pool [(1, .class_ 2), (0, u "java/lang/Math"), (1, .class_ 6), (1, u "java/lang/Object"), (0, u "<init>"), (0, u "()V"), (89, .class_ 100), (1, u "java/lang/Math$RandomNumberGeneratorHolder"), (20, u "(JJ)J"), (50, u "negativeZeroFloatBits"), (0, u "J"), (2, u "negativeZeroDoubleBits"), (21, u "max"), (2, u "min"), (43, u "$assertionsDisabled"), (0, u "Z"), (88, u "(II)I"), (2, u "twoToTheDoubleScaleDown"), (0, u "D"), (4, u "twoToTheDoubleScaleUp"), (9, u "E"), (3, u "PI"), (2, u "TAU"), (2, u "DEGREES_TO_RADIANS"), (0, u "RADIANS_TO_DEGREES")] 94

def k2m0 : Method := { name := "<init>", desc := "()V", sig := { parameters := [], returnType := none }, accessFlags := 2, code := none }
def k2c1 : Code := { maxStack := 2, maxLocals := 2, code := jdk_29_method_65_code, exceptionTable := #[], attributes := #[] }
def k2m1 : Method := { name := "max", desc := "(II)I", sig := { parameters := [.int, .int], returnType := some .int }, accessFlags := 9, code := some k2c1 }
def k2c2 : Code := { maxStack := 4, maxLocals := 4, code := jdk_29_method_66_code, exceptionTable := #[], attributes := #[] }
def k2m2 : Method := { name := "max", desc := "(JJ)J", sig := { parameters := [.long, .long], returnType := some .long }, accessFlags := 9, code := some k2c2 }
def k2c3 : Code := { maxStack := 4, maxLocals := 4, code := jdk_29_method_70_code, exceptionTable := #[], attributes := #[] }
def k2m3 : Method := { name := "min", desc := "(JJ)J", sig := { parameters := [.long, .long], returnType := some .long }, accessFlags := 9, code := some k2c3 }
/-- java/lang/Math -/
def k2 : Class := { plain "java/lang/Math" (some 0) with
  accessFlags := 49
  interfaces := #[]
  cf := some (fileOf pool2 1 #[.nestMembers #[98]] #[{ accessFlags := 2, nameIndex := 7, descriptorIndex := 8, attributes := #[] }, { accessFlags := 9, nameIndex := 198, descriptorIndex := 335, attributes := #[] }, { accessFlags := 9, nameIndex := 198, descriptorIndex := 121, attributes := #[] }, { accessFlags := 9, nameIndex := 201, descriptorIndex := 121, attributes := #[] }] 49 4 #[] #[{ accessFlags := 25, nameIndex := 354, descriptorIndex := 339, attributes := #[] }, { accessFlags := 25, nameIndex := 358, descriptorIndex := 339, attributes := #[] }, { accessFlags := 25, nameIndex := 361, descriptorIndex := 339, attributes := #[] }, { accessFlags := 26, nameIndex := 364, descriptorIndex := 339, attributes := #[] }, { accessFlags := 26, nameIndex := 365, descriptorIndex := 339, attributes := #[] }, { accessFlags := 26, nameIndex := 172, descriptorIndex := 173, attributes := #[] }, { accessFlags := 26, nameIndex := 176, descriptorIndex := 173, attributes := #[] }, { accessFlags := 8, nameIndex := 344, descriptorIndex := 339, attributes := #[] }, { accessFlags := 8, nameIndex := 338, descriptorIndex := 339, attributes := #[] }, { accessFlags := 4120, nameIndex := 245, descriptorIndex := 246, attributes := #[] }])
  fields := #[{ name := "E", type := .double, accessFlags := 25, slot := 0, constantValue := 0 }, { name := "PI", type := .double, accessFlags := 25, slot := 1, constantValue := 0 }, { name := "TAU", type := .double, accessFlags := 25, slot := 2, constantValue := 0 }, { name := "DEGREES_TO_RADIANS", type := .double, accessFlags := 26, slot := 3, constantValue := 0 }, { name := "RADIANS_TO_DEGREES", type := .double, accessFlags := 26, slot := 4, constantValue := 0 }, { name := "negativeZeroFloatBits", type := .long, accessFlags := 26, slot := 5, constantValue := 0 }, { name := "negativeZeroDoubleBits", type := .long, accessFlags := 26, slot := 6, constantValue := 0 }, { name := "twoToTheDoubleScaleUp", type := .double, accessFlags := 8, slot := 7, constantValue := 0 }, { name := "twoToTheDoubleScaleDown", type := .double, accessFlags := 8, slot := 8, constantValue := 0 }, { name := "$assertionsDisabled", type := .boolean, accessFlags := 4120, slot := 9, constantValue := 0 }]
  methods := #[k2m0, k2m1, k2m2, k2m3]
  instanceTypes := #[]
  staticTypes := #[.double, .double, .double, .double, .double, .long, .long, .double, .double, .boolean]
  resolved := Array.replicate 460 none
  statics := none }

def pool3 : Array CpInfo := pool [(3, .methodref 4 5), (0, .class_ 6), (0, .nameAndType 7 8), (0, u "java/lang/Object"), (0, u "<init>"), (0, u "()V"), (0, .fieldref 10 11), (0, .class_ 12), (0, .nameAndType 13 14), (0, u "com/example/vetted_query/vettedquery/Page"), (0, u "skip"), (0, u "J"), (0, .fieldref 10 16), (0, .nameAndType 17 14), (0, u "keep"), (2, .methodref 21 22), (0, .class_ 23), (0, .nameAndType 24 25), (0, u "java/lang/Math"), (0, u "min"), (0, u "(JJ)J"), (2, u "(JJ)V"), (0, .interfaceMethodref 30 31), (0, .class_ 32), (0, .nameAndType 33 34), (0, u "java/util/List"), (0, u "size"), (0, u "()I"), (0, .interfaceMethodref 30 36), (0, .nameAndType 37 38), (0, u "subList"), (0, u "(II)Ljava/util/List;"), (0, u "ALL"), (3, u "()J"), (0, u "skips"), (0, u "()Z"), (4, u "of"), (0, u "(Ljava/util/List;)Ljava/util/List;")] 4

def k3c0 : Code := { maxStack := 3, maxLocals := 5, code := prog_32_method_1_code, exceptionTable := #[], attributes := #[] }
def k3m0 : Method := { name := "<init>", desc := "(JJ)V", sig := { parameters := [.long, .long], returnType := none }, accessFlags := 0, code := some k3c0 }
def k3c1 : Code := { maxStack := 2, maxLocals := 1, code := prog_32_method_2_code, exceptionTable := #[], attributes := #[] }
def k3m1 : Method := { name := "skip", desc := "()J", sig := { parameters := [], returnType := some .long }, accessFlags := 0, code := some k3c1 }
def k3c2 : Code := { maxStack := 4, maxLocals := 1, code := prog_32_method_4_code, exceptionTable := #[], attributes := #[] }
def k3m2 : Method := { name := "skips", desc := "()Z", sig := { parameters := [], returnType := some .boolean }, accessFlags := 0, code := some k3c2 }
def k3c3 : Code := { maxStack := 6, maxLocals := 4, code := prog_32_method_7_code, exceptionTable := #[], attributes := #[] }
def k3m3 : Method := { name := "of", desc := "(Ljava/util/List;)Ljava/util/List;", sig := { parameters := [(.object "java/util/List")], returnType := some (.object "java/util/List") }, accessFlags := 0, code := some k3c3 }
/-- com/example/vetted_query/vettedquery/Page -/
def k3 : Class := { plain "com/example/vetted_query/vettedquery/Page" (some 0) with
  accessFlags := 48
  interfaces := #[]
  cf := some (fileOf pool3 10 #[] #[{ accessFlags := 0, nameIndex := 7, descriptorIndex := 28, attributes := #[] }, { accessFlags := 0, nameIndex := 13, descriptorIndex := 43, attributes := #[] }, { accessFlags := 0, nameIndex := 44, descriptorIndex := 45, attributes := #[] }, { accessFlags := 0, nameIndex := 50, descriptorIndex := 51, attributes := #[] }] 48 4 #[] #[{ accessFlags := 24, nameIndex := 39, descriptorIndex := 14, attributes := #[] }, { accessFlags := 18, nameIndex := 13, descriptorIndex := 14, attributes := #[] }, { accessFlags := 18, nameIndex := 17, descriptorIndex := 14, attributes := #[] }])
  fields := #[{ name := "ALL", type := .long, accessFlags := 24, slot := 0, constantValue := 0 }, { name := "skip", type := .long, accessFlags := 18, slot := 0, constantValue := 0 }, { name := "keep", type := .long, accessFlags := 18, slot := 1, constantValue := 0 }]
  methods := #[k3m0, k3m1, k3m2, k3m3]
  instanceTypes := #[.long, .long]
  staticTypes := #[.long]
  resolved := Array.replicate 56 none
  statics := none }

def pool4 : Array CpInfo := pool [(8, .class_ 10), (1, u "java/lang/Iterable"), (24, .class_ 36), (0, u "java/lang/Object")] 25

/-- java/lang/Iterable -/
def k4 : Class := { plain "java/lang/Iterable" (some 0) with
  accessFlags := 1537
  interfaces := #[]
  cf := some (fileOf pool4 8 #[] #[] 1537 35 #[] #[])
  fields := #[]
  methods := #[]
  instanceTypes := #[]
  staticTypes := #[]
  resolved := Array.replicate 62 none
  statics := none }

def pool5 : Array CpInfo := pool [(10, .class_ 12), (1, u "java/util/Collection"), (47, .class_ 61), (0, u "java/lang/Object"), (0, .class_ 63), (0, u "java/lang/Iterable")] 51

/-- java/util/Collection -/
def k5 : Class := { plain "java/util/Collection" (some 0) with
  accessFlags := 1537
  interfaces := #[4]
  cf := some (fileOf pool5 10 #[] #[] 1537 60 #[62] #[])
  fields := #[]
  methods := #[]
  instanceTypes := #[]
  staticTypes := #[]
  resolved := Array.replicate 115 none
  statics := none }

def pool6 : Array CpInfo := pool [(1, .methodref 2 3), (0, .class_ 4), (0, .nameAndType 5 6), (0, u "java/lang/Object"), (0, u "<init>"), (0, u "()V"), (1, .class_ 10), (1, u "java/util/AbstractCollection"), (66, .class_ 78), (0, u "java/util/Collection")] 81

def k6c0 : Code := { maxStack := 1, maxLocals := 1, code := jdk_22_method_1_code, exceptionTable := #[], attributes := #[] }
def k6m0 : Method := { name := "<init>", desc := "()V", sig := { parameters := [], returnType := none }, accessFlags := 4, code := some k6c0 }
/-- java/util/AbstractCollection -/
def k6 : Class := { plain "java/util/AbstractCollection" (some 0) with
  accessFlags := 1057
  interfaces := #[5]
  cf := some (fileOf pool6 8 #[] #[{ accessFlags := 4, nameIndex := 5, descriptorIndex := 6, attributes := #[] }] 1057 2 #[77] #[])
  fields := #[]
  methods := #[k6m0]
  instanceTypes := #[]
  staticTypes := #[]
  resolved := Array.replicate 160 none
  statics := none }

def pool7 : Array CpInfo := pool [(8, .class_ 10), (1, u "java/util/SequencedCollection"), (15, .class_ 27), (0, u "java/lang/Object"), (0, .class_ 29), (0, u "java/util/Collection")] 27

/-- java/util/SequencedCollection -/
def k7 : Class := { plain "java/util/SequencedCollection" (some 0) with
  accessFlags := 1537
  interfaces := #[5]
  cf := some (fileOf pool7 8 #[] #[] 1537 26 #[28] #[])
  fields := #[]
  methods := #[]
  instanceTypes := #[]
  staticTypes := #[]
  resolved := Array.replicate 57 none
  statics := none }

def pool8 : Array CpInfo := pool [(8, .class_ 10), (1, u "java/util/List"), (68, u "size"), (0, u "()I"), (22, .class_ 104), (0, u "java/lang/Object"), (15, .class_ 121), (0, u "java/util/SequencedCollection"), (60, u "subList"), (0, u "(II)Ljava/util/List;")] 67

def k8m0 : Method := { name := "size", desc := "()I", sig := { parameters := [], returnType := some .int }, accessFlags := 1025, code := none }
def k8m1 : Method := { name := "subList", desc := "(II)Ljava/util/List;", sig := { parameters := [.int, .int], returnType := some (.object "java/util/List") }, accessFlags := 1025, code := none }
/-- java/util/List -/
def k8 : Class := { plain "java/util/List" (some 0) with
  accessFlags := 1537
  interfaces := #[7]
  cf := some (fileOf pool8 8 #[] #[{ accessFlags := 1025, nameIndex := 79, descriptorIndex := 80, attributes := #[] }, { accessFlags := 1025, nameIndex := 182, descriptorIndex := 183, attributes := #[] }] 1537 103 #[120] #[])
  fields := #[]
  methods := #[k8m0, k8m1]
  instanceTypes := #[]
  staticTypes := #[]
  resolved := Array.replicate 251 none
  statics := none }

def pool9 : Array CpInfo := pool [(1, .methodref 2 3), (0, .class_ 4), (0, .nameAndType 5 6), (0, u "java/util/AbstractCollection"), (0, u "<init>"), (0, u "()V"), (0, .fieldref 8 9), (0, .class_ 10), (0, .nameAndType 11 12), (0, u "java/util/AbstractList"), (0, u "modCount"), (0, u "I"), (64, .class_ 78), (0, u "java/util/AbstractList$Itr"), (3, .class_ 83), (0, u "java/util/AbstractList$ListItr"), (5, u "subListRangeCheck"), (0, u "(III)V"), (2, .class_ 94), (0, u "java/util/AbstractList$RandomAccessSubList"), (3, .class_ 99), (0, u "java/util/AbstractList$SubList"), (33, .class_ 134), (0, u "java/util/List"), (73, .class_ 209), (0, u "java/util/AbstractList$SubList$1"), (0, .class_ 211), (0, u "java/util/AbstractList$RandomAccessSpliterator")] 6

def k9c0 : Code := { maxStack := 2, maxLocals := 1, code := jdk_39_method_1_code, exceptionTable := #[], attributes := #[] }
def k9m0 : Method := { name := "<init>", desc := "()V", sig := { parameters := [], returnType := none }, accessFlags := 4, code := some k9c0 }
def k9c1 : Code := { maxStack := 4, maxLocals := 3, code := jdk_39_method_15_code, exceptionTable := #[], attributes := #[] }
def k9m1 : Method := { name := "subListRangeCheck", desc := "(III)V", sig := { parameters := [.int, .int, .int], returnType := none }, accessFlags := 8, code := some k9c1 }
/-- java/util/AbstractList -/
def k9 : Class := { plain "java/util/AbstractList" (some 6) with
  accessFlags := 1057
  interfaces := #[8]
  cf := some (fileOf pool9 8 #[.nestMembers #[93, 98, 208, 210, 82, 77]] #[{ accessFlags := 4, nameIndex := 5, descriptorIndex := 6, attributes := #[] }, { accessFlags := 8, nameIndex := 89, descriptorIndex := 90, attributes := #[] }] 1057 2 #[133] #[{ accessFlags := 132, nameIndex := 11, descriptorIndex := 12, attributes := #[] }])
  fields := #[{ name := "modCount", type := .int, accessFlags := 132, slot := 0, constantValue := 0 }]
  methods := #[k9m0, k9m1]
  instanceTypes := #[.int]
  staticTypes := #[]
  resolved := Array.replicate 218 none
  statics := none }

def pool10 : Array CpInfo := pool [(1, .class_ 2), (0, u "java/util/RandomAccess"), (0, .class_ 4), (0, u "java/lang/Object")] 2

/-- java/util/RandomAccess -/
def k10 : Class := { plain "java/util/RandomAccess" (some 0) with
  accessFlags := 1537
  interfaces := #[]
  cf := some (fileOf pool10 1 #[] #[] 1537 3 #[] #[])
  fields := #[]
  methods := #[]
  instanceTypes := #[]
  staticTypes := #[]
  resolved := Array.replicate 7 none
  statics := none }

def pool11 : Array CpInfo := pool [(1, .class_ 2), (0, u "java/lang/Cloneable"), (0, .class_ 4), (0, u "java/lang/Object")] 2

/-- java/lang/Cloneable -/
def k11 : Class := { plain "java/lang/Cloneable" (some 0) with
  accessFlags := 1537
  interfaces := #[]
  cf := some (fileOf pool11 1 #[] #[] 1537 3 #[] #[])
  fields := #[]
  methods := #[]
  instanceTypes := #[]
  staticTypes := #[]
  resolved := Array.replicate 7 none
  statics := none }

def pool12 : Array CpInfo := pool [(1, .class_ 2), (0, u "java/io/Serializable"), (0, .class_ 4), (0, u "java/lang/Object")] 2

/-- java/io/Serializable -/
def k12 : Class := { plain "java/io/Serializable" (some 0) with
  accessFlags := 1537
  interfaces := #[]
  cf := some (fileOf pool12 1 #[] #[] 1537 3 #[] #[])
  fields := #[]
  methods := #[]
  instanceTypes := #[]
  staticTypes := #[]
  resolved := Array.replicate 7 none
  statics := none }

def pool13 : Array CpInfo := pool [(1, .methodref 2 3), (0, .class_ 4), (0, .nameAndType 5 6), (0, u "java/util/AbstractList"), (0, u "<init>"), (0, u "()V"), (0, .class_ 8), (0, u "java/lang/Object"), (0, .fieldref 10 11), (0, .class_ 12), (0, .nameAndType 13 14), (0, u "java/util/ArrayList"), (0, u "elementData"), (0, u "[Ljava/lang/Object;"), (2, u "EMPTY_ELEMENTDATA"), (21, .fieldref 10 40), (0, .nameAndType 41 14), (0, u "DEFAULTCAPACITY_EMPTY_ELEMENTDATA"), (5, u "()[Ljava/lang/Object;"), (0, .fieldref 10 49), (0, .nameAndType 50 51), (0, u "size"), (0, u "I"), (11, .fieldref 10 64), (0, .nameAndType 65 51), (0, u "modCount"), (3, .methodref 10 70), (0, .nameAndType 71 72), (0, u "grow"), (0, u "(I)[Ljava/lang/Object;"), (6, .methodref 80 81), (0, .class_ 82), (0, .nameAndType 83 84), (0, u "java/lang/Math"), (0, u "max"), (0, u "(II)I"), (11, u "(Ljava/lang/Object;)Z"), (32, .methodref 10 130), (0, .nameAndType 71 47), (0, .methodref 10 132), (0, .nameAndType 133 134), (0, u "add"), (0, u "(Ljava/lang/Object;[Ljava/lang/Object;I)V"), (13, .class_ 149), (0, u "java/util/List"), (36, u "()I"), (75, .class_ 263), (0, u "java/util/ArrayList$ListItr"), (3, .class_ 268), (0, u "java/util/ArrayList$Itr"), (3, .methodref 10 273), (0, .nameAndType 274 275), (0, u "subListRangeCheck"), (0, u "(III)V"), (0, .class_ 277), (0, u "java/util/ArrayList$SubList"), (0, .methodref 276 279), (0, .nameAndType 5 280), (0, u "(Ljava/util/ArrayList;II)V"), (9, .class_ 291), (0, u "java/util/ArrayList$ArrayListSpliterator"), (37, .class_ 330), (0, u "java/util/RandomAccess"), (0, .class_ 332), (0, u "java/lang/Cloneable"), (0, .class_ 334), (0, u "java/io/Serializable"), (0, u "serialVersionUID"), (0, u "J"), (3, u "DEFAULT_CAPACITY"), (118, u "subList"), (0, u "(II)Ljava/util/List;"), (39, .class_ 501), (0, u "java/util/ArrayList$SubList$2"), (0, .class_ 503), (0, u "java/util/ArrayList$SubList$1")] 5

def k13c0 : Code := { maxStack := 2, maxLocals := 1, code := jdk_38_method_2_code, exceptionTable := #[], attributes := #[] }
def k13m0 : Method := { name := "<init>", desc := "()V", sig := { parameters := [], returnType := none }, accessFlags := 1, code := some k13c0 }
def k13c1 : Code := { maxStack := 4, maxLocals := 4, code := jdk_38_method_6_code, exceptionTable := #[], attributes := #[] }
def k13m1 : Method := { name := "grow", desc := "(I)[Ljava/lang/Object;", sig := { parameters := [.int], returnType := some (.array (.object "java/lang/Object")) }, accessFlags := 2, code := some k13c1 }
def k13c2 : Code := { maxStack := 3, maxLocals := 1, code := jdk_38_method_7_code, exceptionTable := #[], attributes := #[] }
def k13m2 : Method := { name := "grow", desc := "()[Ljava/lang/Object;", sig := { parameters := [], returnType := some (.array (.object "java/lang/Object")) }, accessFlags := 2, code := some k13c2 }
def k13c3 : Code := { maxStack := 1, maxLocals := 1, code := jdk_38_method_8_code, exceptionTable := #[], attributes := #[] }
def k13m3 : Method := { name := "size", desc := "()I", sig := { parameters := [], returnType := some .int }, accessFlags := 1, code := some k13c3 }
def k13c4 : Code := { maxStack := 3, maxLocals := 4, code := jdk_38_method_24_code, exceptionTable := #[], attributes := #[] }
def k13m4 : Method := { name := "add", desc := "(Ljava/lang/Object;[Ljava/lang/Object;I)V", sig := { parameters := [(.object "java/lang/Object"), (.array (.object "java/lang/Object")), .int], returnType := none }, accessFlags := 2, code := some k13c4 }
def k13c5 : Code := { maxStack := 4, maxLocals := 2, code := jdk_38_method_25_code, exceptionTable := #[], attributes := #[] }
def k13m5 : Method := { name := "add", desc := "(Ljava/lang/Object;)Z", sig := { parameters := [(.object "java/lang/Object")], returnType := some .boolean }, accessFlags := 1, code := some k13c5 }
def k13c6 : Code := { maxStack := 5, maxLocals := 3, code := jdk_38_method_56_code, exceptionTable := #[], attributes := #[] }
def k13m6 : Method := { name := "subList", desc := "(II)Ljava/util/List;", sig := { parameters := [.int, .int], returnType := some (.object "java/util/List") }, accessFlags := 1, code := some k13c6 }
/-- java/util/ArrayList -/
def k13 : Class := { plain "java/util/ArrayList" (some 9) with
  accessFlags := 33
  interfaces := #[8, 10, 11, 12]
  cf := some (fileOf pool13 10 #[.nestMembers #[290, 276, 500, 502, 262, 267]] #[{ accessFlags := 1, nameIndex := 5, descriptorIndex := 6, attributes := #[] }, { accessFlags := 2, nameIndex := 71, descriptorIndex := 72, attributes := #[] }, { accessFlags := 2, nameIndex := 71, descriptorIndex := 47, attributes := #[] }, { accessFlags := 1, nameIndex := 50, descriptorIndex := 186, attributes := #[] }, { accessFlags := 2, nameIndex := 133, descriptorIndex := 134, attributes := #[] }, { accessFlags := 1, nameIndex := 133, descriptorIndex := 96, attributes := #[] }, { accessFlags := 1, nameIndex := 459, descriptorIndex := 460, attributes := #[] }] 33 2 #[148, 329, 331, 333] #[{ accessFlags := 26, nameIndex := 335, descriptorIndex := 336, attributes := #[] }, { accessFlags := 26, nameIndex := 340, descriptorIndex := 51, attributes := #[] }, { accessFlags := 26, nameIndex := 17, descriptorIndex := 14, attributes := #[] }, { accessFlags := 26, nameIndex := 41, descriptorIndex := 14, attributes := #[] }, { accessFlags := 128, nameIndex := 13, descriptorIndex := 14, attributes := #[] }, { accessFlags := 2, nameIndex := 50, descriptorIndex := 51, attributes := #[] }])
  fields := #[{ name := "serialVersionUID", type := .long, accessFlags := 26, slot := 0, constantValue := 0 }, { name := "DEFAULT_CAPACITY", type := .int, accessFlags := 26, slot := 1, constantValue := 0 }, { name := "EMPTY_ELEMENTDATA", type := (.array (.object "java/lang/Object")), accessFlags := 26, slot := 2, constantValue := 0 }, { name := "DEFAULTCAPACITY_EMPTY_ELEMENTDATA", type := (.array (.object "java/lang/Object")), accessFlags := 26, slot := 3, constantValue := 0 }, { name := "elementData", type := (.array (.object "java/lang/Object")), accessFlags := 128, slot := 1, constantValue := 0 }, { name := "size", type := .int, accessFlags := 2, slot := 2, constantValue := 0 }]
  methods := #[k13m0, k13m1, k13m2, k13m3, k13m4, k13m5, k13m6]
  instanceTypes := #[.int, (.array (.object "java/lang/Object")), .int]
  staticTypes := #[.long, .int, (.array (.object "java/lang/Object")), (.array (.object "java/lang/Object"))]
  resolved := Array.replicate 509 none
  statics := some 0 }

def pool14 : Array CpInfo := pool [(2, .class_ 4), (1, u "java/lang/Object"), (0, u "<init>"), (0, u "()V"), (1, .class_ 10), (1, u "java/lang/Number"), (2, .class_ 14), (0, u "java/io/Serializable"), (0, u "serialVersionUID"), (0, u "J")] 20

def k14m0 : Method := { name := "<init>", desc := "()V", sig := { parameters := [], returnType := none }, accessFlags := 1, code := none }
/-- java/lang/Number -/
def k14 : Class := { plain "java/lang/Number" (some 0) with
  accessFlags := 1057
  interfaces := #[12]
  cf := some (fileOf pool14 8 #[] #[{ accessFlags := 1, nameIndex := 5, descriptorIndex := 6, attributes := #[] }] 1057 2 #[13] #[{ accessFlags := 26, nameIndex := 15, descriptorIndex := 16, attributes := #[] }])
  fields := #[{ name := "serialVersionUID", type := .long, accessFlags := 26, slot := 0, constantValue := 0 }]
  methods := #[k14m0]
  instanceTypes := #[]
  staticTypes := #[.long]
  resolved := Array.replicate 37 none
  statics := none }

def pool15 : Array CpInfo := pool [(1, .class_ 2), (0, u "java/lang/Comparable"), (0, .class_ 4), (0, u "java/lang/Object")] 7

/-- java/lang/Comparable -/
def k15 : Class := { plain "java/lang/Comparable" (some 0) with
  accessFlags := 1537
  interfaces := #[]
  cf := some (fileOf pool15 1 #[] #[] 1537 3 #[] #[])
  fields := #[]
  methods := #[]
  instanceTypes := #[]
  staticTypes := #[]
  resolved := Array.replicate 12 none
  statics := none }

def pool16 : Array CpInfo := pool [(1, .class_ 2), (0, u "java/lang/constant/Constable"), (0, .class_ 4), (0, u "java/lang/Object")] 6

/-- java/lang/constant/Constable -/
def k16 : Class := { plain "java/lang/constant/Constable" (some 0) with
  accessFlags := 1537
  interfaces := #[]
  cf := some (fileOf pool16 1 #[] #[] 1537 3 #[] #[])
  fields := #[]
  methods := #[]
  instanceTypes := #[]
  staticTypes := #[]
  resolved := Array.replicate 11 none
  statics := none }

def pool17 : Array CpInfo := pool [(1, .class_ 2), (0, u "java/lang/constant/ConstantDesc"), (0, .class_ 4), (0, u "java/lang/Object")] 32

/-- java/lang/constant/ConstantDesc -/
def k17 : Class := { plain "java/lang/constant/ConstantDesc" (some 0) with
  accessFlags := 1537
  interfaces := #[]
  cf := some (fileOf pool17 1 #[] #[] 1537 3 #[] #[])
  fields := #[]
  methods := #[]
  instanceTypes := #[]
  staticTypes := #[]
  resolved := Array.replicate 37 none
  statics := none }

def pool18 : Array CpInfo := pool [(1, .class_ 2), (0, u "java/lang/Integer"), (16, u "digits"), (0, u "[C"), (64, u "DigitOnes"), (0, u "[B"), (2, u "DigitTens"), (97, u "valueOf"), (0, u "(I)Ljava/lang/Integer;"), (0, .class_ 190), (0, u "java/lang/Integer$IntegerCache"), (0, .fieldref 189 192), (0, .nameAndType 193 194), (0, u "high"), (0, u "I"), (0, .fieldref 189 196), (0, .nameAndType 197 198), (0, u "cache"), (0, u "[Ljava/lang/Integer;"), (4, .class_ 204), (0, u "java/lang/Number"), (2, u "value"), (94, u "TYPE"), (0, u "Ljava/lang/Class;"), (0, .class_ 305), (0, u "java/lang/Comparable"), (0, .class_ 307), (0, u "java/lang/constant/Constable"), (0, .class_ 309), (0, u "java/lang/constant/ConstantDesc"), (0, u "MIN_VALUE"), (1, u "MAX_VALUE"), (3, u "SIZE"), (1, u "BYTES"), (1, u "serialVersionUID"), (0, u "J")] 131

def k18c0 : Code := { maxStack := 3, maxLocals := 1, code := jdk_33_method_22_code, exceptionTable := #[], attributes := #[] }
def k18m0 : Method := { name := "valueOf", desc := "(I)Ljava/lang/Integer;", sig := { parameters := [.int], returnType := some (.object "java/lang/Integer") }, accessFlags := 9, code := some k18c0 }
/-- java/lang/Integer -/
def k18 : Class := { plain "java/lang/Integer" (some 14) with
  accessFlags := 49
  interfaces := #[15, 16, 17]
  cf := some (fileOf pool18 1 #[.nestMembers #[189]] #[{ accessFlags := 9, nameIndex := 187, descriptorIndex := 188, attributes := #[] }] 49 203 #[304, 306, 308] #[{ accessFlags := 25, nameIndex := 310, descriptorIndex := 194, attributes := #[] }, { accessFlags := 25, nameIndex := 312, descriptorIndex := 194, attributes := #[] }, { accessFlags := 25, nameIndex := 302, descriptorIndex := 303, attributes := #[] }, { accessFlags := 24, nameIndex := 19, descriptorIndex := 20, attributes := #[] }, { accessFlags := 24, nameIndex := 89, descriptorIndex := 86, attributes := #[] }, { accessFlags := 24, nameIndex := 85, descriptorIndex := 86, attributes := #[] }, { accessFlags := 18, nameIndex := 207, descriptorIndex := 194, attributes := #[] }, { accessFlags := 25, nameIndex := 316, descriptorIndex := 194, attributes := #[] }, { accessFlags := 25, nameIndex := 318, descriptorIndex := 194, attributes := #[] }, { accessFlags := 26, nameIndex := 320, descriptorIndex := 321, attributes := #[] }])
  fields := #[{ name := "MIN_VALUE", type := .int, accessFlags := 25, slot := 0, constantValue := 0 }, { name := "MAX_VALUE", type := .int, accessFlags := 25, slot := 1, constantValue := 0 }, { name := "TYPE", type := (.object "java/lang/Class"), accessFlags := 25, slot := 2, constantValue := 0 }, { name := "digits", type := (.array .char), accessFlags := 24, slot := 3, constantValue := 0 }, { name := "DigitTens", type := (.array .byte), accessFlags := 24, slot := 4, constantValue := 0 }, { name := "DigitOnes", type := (.array .byte), accessFlags := 24, slot := 5, constantValue := 0 }, { name := "value", type := .int, accessFlags := 18, slot := 0, constantValue := 0 }, { name := "SIZE", type := .int, accessFlags := 25, slot := 6, constantValue := 0 }, { name := "BYTES", type := .int, accessFlags := 25, slot := 7, constantValue := 0 }, { name := "serialVersionUID", type := .long, accessFlags := 26, slot := 8, constantValue := 0 }]
  methods := #[k18m0]
  instanceTypes := #[.int]
  staticTypes := #[.int, .int, (.object "java/lang/Class"), (.array .char), (.array .byte), (.array .byte), .int, .int, .long]
  resolved := Array.replicate 453 none
  statics := none }

def pool19 : Array CpInfo := pool [(2, .class_ 4), (1, u "java/lang/Object"), (0, u "<init>"), (0, u "()V"), (0, .class_ 8), (0, u "java/lang/Integer"), (7, .class_ 18), (1, u "java/lang/Integer$IntegerCache"), (0, u "$assertionsDisabled"), (0, u "Z"), (26, u "high"), (0, u "I"), (8, u "archivedCache"), (0, u "[Ljava/lang/Integer;"), (12, u "cache"), (0, u "low")] 27

def k19m0 : Method := { name := "<init>", desc := "()V", sig := { parameters := [], returnType := none }, accessFlags := 2, code := none }
/-- java/lang/Integer$IntegerCache -/
def k19 : Class := { plain "java/lang/Integer$IntegerCache" (some 0) with
  accessFlags := 48
  interfaces := #[]
  cf := some (fileOf pool19 16 #[.nestHost 7] #[{ accessFlags := 2, nameIndex := 5, descriptorIndex := 6, attributes := #[] }] 48 2 #[] #[{ accessFlags := 24, nameIndex := 72, descriptorIndex := 48, attributes := #[] }, { accessFlags := 24, nameIndex := 47, descriptorIndex := 48, attributes := #[] }, { accessFlags := 24, nameIndex := 71, descriptorIndex := 58, attributes := #[] }, { accessFlags := 8, nameIndex := 57, descriptorIndex := 58, attributes := #[] }, { accessFlags := 4120, nameIndex := 19, descriptorIndex := 20, attributes := #[] }])
  fields := #[{ name := "low", type := .int, accessFlags := 24, slot := 0, constantValue := 0 }, { name := "high", type := .int, accessFlags := 24, slot := 1, constantValue := 0 }, { name := "cache", type := (.array (.object "java/lang/Integer")), accessFlags := 24, slot := 2, constantValue := 0 }, { name := "archivedCache", type := (.array (.object "java/lang/Integer")), accessFlags := 8, slot := 3, constantValue := 0 }, { name := "$assertionsDisabled", type := .boolean, accessFlags := 4120, slot := 4, constantValue := 0 }]
  methods := #[k19m0]
  instanceTypes := #[]
  staticTypes := #[.int, .int, (.array (.object "java/lang/Integer")), (.array (.object "java/lang/Integer")), .boolean]
  resolved := Array.replicate 100 none
  statics := some 1 }

def pool20 : Array CpInfo := pool [(1, .methodref 2 3), (0, .class_ 4), (0, .nameAndType 5 6), (0, u "java/util/AbstractList"), (0, u "<init>"), (0, u "()V"), (0, .fieldref 8 9), (0, .class_ 10), (0, .nameAndType 11 12), (0, u "java/util/ArrayList$SubList"), (0, u "root"), (0, u "Ljava/util/ArrayList;"), (0, .fieldref 8 14), (0, .nameAndType 15 16), (0, u "parent"), (0, u "Ljava/util/ArrayList$SubList;"), (0, .fieldref 8 18), (0, .nameAndType 19 20), (0, u "offset"), (0, u "I"), (0, .fieldref 8 22), (0, .nameAndType 23 20), (0, u "size"), (0, .fieldref 25 26), (0, .class_ 27), (0, .nameAndType 28 20), (0, u "java/util/ArrayList"), (0, u "modCount"), (0, .fieldref 8 26), (6, .methodref 8 37), (0, .nameAndType 38 6), (0, u "checkForComodification"), (33, u "()I"), (109, .class_ 183), (0, u "java/util/RandomAccess"), (3, u "(Ljava/util/ArrayList;II)V")] 82

def k20c0 : Code := { maxStack := 3, maxLocals := 4, code := jdk_130_method_1_code, exceptionTable := #[], attributes := #[] }
def k20m0 : Method := { name := "<init>", desc := "(Ljava/util/ArrayList;II)V", sig := { parameters := [(.object "java/util/ArrayList"), .int, .int], returnType := none }, accessFlags := 1, code := some k20c0 }
def k20c1 : Code := { maxStack := 1, maxLocals := 1, code := jdk_130_method_5_code, exceptionTable := #[], attributes := #[] }
def k20m1 : Method := { name := "size", desc := "()I", sig := { parameters := [], returnType := some .int }, accessFlags := 1, code := some k20c1 }
def k20c2 : Code := { maxStack := 2, maxLocals := 1, code := jdk_130_method_28_code, exceptionTable := #[], attributes := #[] }
def k20m2 : Method := { name := "checkForComodification", desc := "()V", sig := { parameters := [], returnType := none }, accessFlags := 2, code := some k20c2 }
/-- java/util/ArrayList$SubList -/
def k20 : Class := { plain "java/util/ArrayList$SubList" (some 9) with
  accessFlags := 32
  interfaces := #[10]
  cf := some (fileOf pool20 8 #[.nestHost 25] #[{ accessFlags := 1, nameIndex := 5, descriptorIndex := 187, attributes := #[] }, { accessFlags := 1, nameIndex := 23, descriptorIndex := 72, attributes := #[] }, { accessFlags := 2, nameIndex := 38, descriptorIndex := 6, attributes := #[] }] 32 2 #[182] #[{ accessFlags := 18, nameIndex := 11, descriptorIndex := 12, attributes := #[] }, { accessFlags := 18, nameIndex := 15, descriptorIndex := 16, attributes := #[] }, { accessFlags := 18, nameIndex := 19, descriptorIndex := 20, attributes := #[] }, { accessFlags := 2, nameIndex := 23, descriptorIndex := 20, attributes := #[] }])
  fields := #[{ name := "root", type := (.object "java/util/ArrayList"), accessFlags := 18, slot := 1, constantValue := 0 }, { name := "parent", type := (.object "java/util/ArrayList$SubList"), accessFlags := 18, slot := 2, constantValue := 0 }, { name := "offset", type := .int, accessFlags := 18, slot := 3, constantValue := 0 }, { name := "size", type := .int, accessFlags := 2, slot := 4, constantValue := 0 }]
  methods := #[k20m0, k20m1, k20m2]
  instanceTypes := #[.int, (.object "java/util/ArrayList"), (.object "java/util/ArrayList$SubList"), .int, .int]
  staticTypes := #[]
  resolved := Array.replicate 270 none
  statics := none }

/-- the primitive byte -/
def k21 : Class := { plain "byte" none with kind := .primitive 'B', accessFlags := 0x411 }
/-- [B -/
def k22 : Class := { plain "[B" (some 0) with kind := .array 21 .byte, interfaces := #[11, 12], accessFlags := 1041 }

/-- the primitive int -/
def k23 : Class := { plain "int" none with kind := .primitive 'I', accessFlags := 0x411 }
/-- [I -/
def k24 : Class := { plain "[I" (some 0) with kind := .array 23 .int, interfaces := #[11, 12], accessFlags := 1041 }

/-- [Ljava/lang/Integer; -/
def k25 : Class := { plain "[Ljava/lang/Integer;" (some 0) with kind := .array 18 (.object "java/lang/Integer"), interfaces := #[11, 12], accessFlags := 1041 }

/-- [Ljava/lang/Object; -/
def k26 : Class := { plain "[Ljava/lang/Object;" (some 0) with kind := .array 0 (.object "java/lang/Object"), interfaces := #[11, 12], accessFlags := 1041 }

def heap : Heap := #[{ cls := 13, slots := #[.long 0, .int 0, .ref 259, .ref 260], vm := .statics 13 },
  { cls := 19, slots := #[.int 0, .int 127, .ref 2, .null, .int 0], vm := .statics 19 },
  { cls := 25, slots := #[.ref 3, .ref 4, .ref 5, .ref 6, .ref 7, .ref 8, .ref 9, .ref 10, .ref 11, .ref 12, .ref 13, .ref 14, .ref 15, .ref 16, .ref 17, .ref 18, .ref 19, .ref 20, .ref 21, .ref 22, .ref 23, .ref 24, .ref 25, .ref 26, .ref 27, .ref 28, .ref 29, .ref 30, .ref 31, .ref 32, .ref 33, .ref 34, .ref 35, .ref 36, .ref 37, .ref 38, .ref 39, .ref 40, .ref 41, .ref 42, .ref 43, .ref 44, .ref 45, .ref 46, .ref 47, .ref 48, .ref 49, .ref 50, .ref 51, .ref 52, .ref 53, .ref 54, .ref 55, .ref 56, .ref 57, .ref 58, .ref 59, .ref 60, .ref 61, .ref 62, .ref 63, .ref 64, .ref 65, .ref 66, .ref 67, .ref 68, .ref 69, .ref 70, .ref 71, .ref 72, .ref 73, .ref 74, .ref 75, .ref 76, .ref 77, .ref 78, .ref 79, .ref 80, .ref 81, .ref 82, .ref 83, .ref 84, .ref 85, .ref 86, .ref 87, .ref 88, .ref 89, .ref 90, .ref 91, .ref 92, .ref 93, .ref 94, .ref 95, .ref 96, .ref 97, .ref 98, .ref 99, .ref 100, .ref 101, .ref 102, .ref 103, .ref 104, .ref 105, .ref 106, .ref 107, .ref 108, .ref 109, .ref 110, .ref 111, .ref 112, .ref 113, .ref 114, .ref 115, .ref 116, .ref 117, .ref 118, .ref 119, .ref 120, .ref 121, .ref 122, .ref 123, .ref 124, .ref 125, .ref 126, .ref 127, .ref 128, .ref 129, .ref 130, .ref 131, .ref 132, .ref 133, .ref 134, .ref 135, .ref 136, .ref 137, .ref 138, .ref 139, .ref 140, .ref 141, .ref 142, .ref 143, .ref 144, .ref 145, .ref 146, .ref 147, .ref 148, .ref 149, .ref 150, .ref 151, .ref 152, .ref 153, .ref 154, .ref 155, .ref 156, .ref 157, .ref 158, .ref 159, .ref 160, .ref 161, .ref 162, .ref 163, .ref 164, .ref 165, .ref 166, .ref 167, .ref 168, .ref 169, .ref 170, .ref 171, .ref 172, .ref 173, .ref 174, .ref 175, .ref 176, .ref 177, .ref 178, .ref 179, .ref 180, .ref 181, .ref 182, .ref 183, .ref 184, .ref 185, .ref 186, .ref 187, .ref 188, .ref 189, .ref 190, .ref 191, .ref 192, .ref 193, .ref 194, .ref 195, .ref 196, .ref 197, .ref 198, .ref 199, .ref 200, .ref 201, .ref 202, .ref 203, .ref 204, .ref 205, .ref 206, .ref 207, .ref 208, .ref 209, .ref 210, .ref 211, .ref 212, .ref 213, .ref 214, .ref 215, .ref 216, .ref 217, .ref 218, .ref 219, .ref 220, .ref 221, .ref 222, .ref 223, .ref 224, .ref 225, .ref 226, .ref 227, .ref 228, .ref 229, .ref 230, .ref 231, .ref 232, .ref 233, .ref 234, .ref 235, .ref 236, .ref 237, .ref 238, .ref 239, .ref 240, .ref 241, .ref 242, .ref 243, .ref 244, .ref 245, .ref 246, .ref 247, .ref 248, .ref 249, .ref 250, .ref 251, .ref 252, .ref 253, .ref 254, .ref 255, .ref 256, .ref 257, .ref 258], vm := .none },
  { cls := 18, slots := #[.int (-128)], vm := .none },
  { cls := 18, slots := #[.int (-127)], vm := .none },
  { cls := 18, slots := #[.int (-126)], vm := .none },
  { cls := 18, slots := #[.int (-125)], vm := .none },
  { cls := 18, slots := #[.int (-124)], vm := .none },
  { cls := 18, slots := #[.int (-123)], vm := .none },
  { cls := 18, slots := #[.int (-122)], vm := .none },
  { cls := 18, slots := #[.int (-121)], vm := .none },
  { cls := 18, slots := #[.int (-120)], vm := .none },
  { cls := 18, slots := #[.int (-119)], vm := .none },
  { cls := 18, slots := #[.int (-118)], vm := .none },
  { cls := 18, slots := #[.int (-117)], vm := .none },
  { cls := 18, slots := #[.int (-116)], vm := .none },
  { cls := 18, slots := #[.int (-115)], vm := .none },
  { cls := 18, slots := #[.int (-114)], vm := .none },
  { cls := 18, slots := #[.int (-113)], vm := .none },
  { cls := 18, slots := #[.int (-112)], vm := .none },
  { cls := 18, slots := #[.int (-111)], vm := .none },
  { cls := 18, slots := #[.int (-110)], vm := .none },
  { cls := 18, slots := #[.int (-109)], vm := .none },
  { cls := 18, slots := #[.int (-108)], vm := .none },
  { cls := 18, slots := #[.int (-107)], vm := .none },
  { cls := 18, slots := #[.int (-106)], vm := .none },
  { cls := 18, slots := #[.int (-105)], vm := .none },
  { cls := 18, slots := #[.int (-104)], vm := .none },
  { cls := 18, slots := #[.int (-103)], vm := .none },
  { cls := 18, slots := #[.int (-102)], vm := .none },
  { cls := 18, slots := #[.int (-101)], vm := .none },
  { cls := 18, slots := #[.int (-100)], vm := .none },
  { cls := 18, slots := #[.int (-99)], vm := .none },
  { cls := 18, slots := #[.int (-98)], vm := .none },
  { cls := 18, slots := #[.int (-97)], vm := .none },
  { cls := 18, slots := #[.int (-96)], vm := .none },
  { cls := 18, slots := #[.int (-95)], vm := .none },
  { cls := 18, slots := #[.int (-94)], vm := .none },
  { cls := 18, slots := #[.int (-93)], vm := .none },
  { cls := 18, slots := #[.int (-92)], vm := .none },
  { cls := 18, slots := #[.int (-91)], vm := .none },
  { cls := 18, slots := #[.int (-90)], vm := .none },
  { cls := 18, slots := #[.int (-89)], vm := .none },
  { cls := 18, slots := #[.int (-88)], vm := .none },
  { cls := 18, slots := #[.int (-87)], vm := .none },
  { cls := 18, slots := #[.int (-86)], vm := .none },
  { cls := 18, slots := #[.int (-85)], vm := .none },
  { cls := 18, slots := #[.int (-84)], vm := .none },
  { cls := 18, slots := #[.int (-83)], vm := .none },
  { cls := 18, slots := #[.int (-82)], vm := .none },
  { cls := 18, slots := #[.int (-81)], vm := .none },
  { cls := 18, slots := #[.int (-80)], vm := .none },
  { cls := 18, slots := #[.int (-79)], vm := .none },
  { cls := 18, slots := #[.int (-78)], vm := .none },
  { cls := 18, slots := #[.int (-77)], vm := .none },
  { cls := 18, slots := #[.int (-76)], vm := .none },
  { cls := 18, slots := #[.int (-75)], vm := .none },
  { cls := 18, slots := #[.int (-74)], vm := .none },
  { cls := 18, slots := #[.int (-73)], vm := .none },
  { cls := 18, slots := #[.int (-72)], vm := .none },
  { cls := 18, slots := #[.int (-71)], vm := .none },
  { cls := 18, slots := #[.int (-70)], vm := .none },
  { cls := 18, slots := #[.int (-69)], vm := .none },
  { cls := 18, slots := #[.int (-68)], vm := .none },
  { cls := 18, slots := #[.int (-67)], vm := .none },
  { cls := 18, slots := #[.int (-66)], vm := .none },
  { cls := 18, slots := #[.int (-65)], vm := .none },
  { cls := 18, slots := #[.int (-64)], vm := .none },
  { cls := 18, slots := #[.int (-63)], vm := .none },
  { cls := 18, slots := #[.int (-62)], vm := .none },
  { cls := 18, slots := #[.int (-61)], vm := .none },
  { cls := 18, slots := #[.int (-60)], vm := .none },
  { cls := 18, slots := #[.int (-59)], vm := .none },
  { cls := 18, slots := #[.int (-58)], vm := .none },
  { cls := 18, slots := #[.int (-57)], vm := .none },
  { cls := 18, slots := #[.int (-56)], vm := .none },
  { cls := 18, slots := #[.int (-55)], vm := .none },
  { cls := 18, slots := #[.int (-54)], vm := .none },
  { cls := 18, slots := #[.int (-53)], vm := .none },
  { cls := 18, slots := #[.int (-52)], vm := .none },
  { cls := 18, slots := #[.int (-51)], vm := .none },
  { cls := 18, slots := #[.int (-50)], vm := .none },
  { cls := 18, slots := #[.int (-49)], vm := .none },
  { cls := 18, slots := #[.int (-48)], vm := .none },
  { cls := 18, slots := #[.int (-47)], vm := .none },
  { cls := 18, slots := #[.int (-46)], vm := .none },
  { cls := 18, slots := #[.int (-45)], vm := .none },
  { cls := 18, slots := #[.int (-44)], vm := .none },
  { cls := 18, slots := #[.int (-43)], vm := .none },
  { cls := 18, slots := #[.int (-42)], vm := .none },
  { cls := 18, slots := #[.int (-41)], vm := .none },
  { cls := 18, slots := #[.int (-40)], vm := .none },
  { cls := 18, slots := #[.int (-39)], vm := .none },
  { cls := 18, slots := #[.int (-38)], vm := .none },
  { cls := 18, slots := #[.int (-37)], vm := .none },
  { cls := 18, slots := #[.int (-36)], vm := .none },
  { cls := 18, slots := #[.int (-35)], vm := .none },
  { cls := 18, slots := #[.int (-34)], vm := .none },
  { cls := 18, slots := #[.int (-33)], vm := .none },
  { cls := 18, slots := #[.int (-32)], vm := .none },
  { cls := 18, slots := #[.int (-31)], vm := .none },
  { cls := 18, slots := #[.int (-30)], vm := .none },
  { cls := 18, slots := #[.int (-29)], vm := .none },
  { cls := 18, slots := #[.int (-28)], vm := .none },
  { cls := 18, slots := #[.int (-27)], vm := .none },
  { cls := 18, slots := #[.int (-26)], vm := .none },
  { cls := 18, slots := #[.int (-25)], vm := .none },
  { cls := 18, slots := #[.int (-24)], vm := .none },
  { cls := 18, slots := #[.int (-23)], vm := .none },
  { cls := 18, slots := #[.int (-22)], vm := .none },
  { cls := 18, slots := #[.int (-21)], vm := .none },
  { cls := 18, slots := #[.int (-20)], vm := .none },
  { cls := 18, slots := #[.int (-19)], vm := .none },
  { cls := 18, slots := #[.int (-18)], vm := .none },
  { cls := 18, slots := #[.int (-17)], vm := .none },
  { cls := 18, slots := #[.int (-16)], vm := .none },
  { cls := 18, slots := #[.int (-15)], vm := .none },
  { cls := 18, slots := #[.int (-14)], vm := .none },
  { cls := 18, slots := #[.int (-13)], vm := .none },
  { cls := 18, slots := #[.int (-12)], vm := .none },
  { cls := 18, slots := #[.int (-11)], vm := .none },
  { cls := 18, slots := #[.int (-10)], vm := .none },
  { cls := 18, slots := #[.int (-9)], vm := .none },
  { cls := 18, slots := #[.int (-8)], vm := .none },
  { cls := 18, slots := #[.int (-7)], vm := .none },
  { cls := 18, slots := #[.int (-6)], vm := .none },
  { cls := 18, slots := #[.int (-5)], vm := .none },
  { cls := 18, slots := #[.int (-4)], vm := .none },
  { cls := 18, slots := #[.int (-3)], vm := .none },
  { cls := 18, slots := #[.int (-2)], vm := .none },
  { cls := 18, slots := #[.int (-1)], vm := .none },
  { cls := 18, slots := #[.int 0], vm := .none },
  { cls := 18, slots := #[.int 1], vm := .none },
  { cls := 18, slots := #[.int 2], vm := .none },
  { cls := 18, slots := #[.int 3], vm := .none },
  { cls := 18, slots := #[.int 4], vm := .none },
  { cls := 18, slots := #[.int 5], vm := .none },
  { cls := 18, slots := #[.int 6], vm := .none },
  { cls := 18, slots := #[.int 7], vm := .none },
  { cls := 18, slots := #[.int 8], vm := .none },
  { cls := 18, slots := #[.int 9], vm := .none },
  { cls := 18, slots := #[.int 10], vm := .none },
  { cls := 18, slots := #[.int 11], vm := .none },
  { cls := 18, slots := #[.int 12], vm := .none },
  { cls := 18, slots := #[.int 13], vm := .none },
  { cls := 18, slots := #[.int 14], vm := .none },
  { cls := 18, slots := #[.int 15], vm := .none },
  { cls := 18, slots := #[.int 16], vm := .none },
  { cls := 18, slots := #[.int 17], vm := .none },
  { cls := 18, slots := #[.int 18], vm := .none },
  { cls := 18, slots := #[.int 19], vm := .none },
  { cls := 18, slots := #[.int 20], vm := .none },
  { cls := 18, slots := #[.int 21], vm := .none },
  { cls := 18, slots := #[.int 22], vm := .none },
  { cls := 18, slots := #[.int 23], vm := .none },
  { cls := 18, slots := #[.int 24], vm := .none },
  { cls := 18, slots := #[.int 25], vm := .none },
  { cls := 18, slots := #[.int 26], vm := .none },
  { cls := 18, slots := #[.int 27], vm := .none },
  { cls := 18, slots := #[.int 28], vm := .none },
  { cls := 18, slots := #[.int 29], vm := .none },
  { cls := 18, slots := #[.int 30], vm := .none },
  { cls := 18, slots := #[.int 31], vm := .none },
  { cls := 18, slots := #[.int 32], vm := .none },
  { cls := 18, slots := #[.int 33], vm := .none },
  { cls := 18, slots := #[.int 34], vm := .none },
  { cls := 18, slots := #[.int 35], vm := .none },
  { cls := 18, slots := #[.int 36], vm := .none },
  { cls := 18, slots := #[.int 37], vm := .none },
  { cls := 18, slots := #[.int 38], vm := .none },
  { cls := 18, slots := #[.int 39], vm := .none },
  { cls := 18, slots := #[.int 40], vm := .none },
  { cls := 18, slots := #[.int 41], vm := .none },
  { cls := 18, slots := #[.int 42], vm := .none },
  { cls := 18, slots := #[.int 43], vm := .none },
  { cls := 18, slots := #[.int 44], vm := .none },
  { cls := 18, slots := #[.int 45], vm := .none },
  { cls := 18, slots := #[.int 46], vm := .none },
  { cls := 18, slots := #[.int 47], vm := .none },
  { cls := 18, slots := #[.int 48], vm := .none },
  { cls := 18, slots := #[.int 49], vm := .none },
  { cls := 18, slots := #[.int 50], vm := .none },
  { cls := 18, slots := #[.int 51], vm := .none },
  { cls := 18, slots := #[.int 52], vm := .none },
  { cls := 18, slots := #[.int 53], vm := .none },
  { cls := 18, slots := #[.int 54], vm := .none },
  { cls := 18, slots := #[.int 55], vm := .none },
  { cls := 18, slots := #[.int 56], vm := .none },
  { cls := 18, slots := #[.int 57], vm := .none },
  { cls := 18, slots := #[.int 58], vm := .none },
  { cls := 18, slots := #[.int 59], vm := .none },
  { cls := 18, slots := #[.int 60], vm := .none },
  { cls := 18, slots := #[.int 61], vm := .none },
  { cls := 18, slots := #[.int 62], vm := .none },
  { cls := 18, slots := #[.int 63], vm := .none },
  { cls := 18, slots := #[.int 64], vm := .none },
  { cls := 18, slots := #[.int 65], vm := .none },
  { cls := 18, slots := #[.int 66], vm := .none },
  { cls := 18, slots := #[.int 67], vm := .none },
  { cls := 18, slots := #[.int 68], vm := .none },
  { cls := 18, slots := #[.int 69], vm := .none },
  { cls := 18, slots := #[.int 70], vm := .none },
  { cls := 18, slots := #[.int 71], vm := .none },
  { cls := 18, slots := #[.int 72], vm := .none },
  { cls := 18, slots := #[.int 73], vm := .none },
  { cls := 18, slots := #[.int 74], vm := .none },
  { cls := 18, slots := #[.int 75], vm := .none },
  { cls := 18, slots := #[.int 76], vm := .none },
  { cls := 18, slots := #[.int 77], vm := .none },
  { cls := 18, slots := #[.int 78], vm := .none },
  { cls := 18, slots := #[.int 79], vm := .none },
  { cls := 18, slots := #[.int 80], vm := .none },
  { cls := 18, slots := #[.int 81], vm := .none },
  { cls := 18, slots := #[.int 82], vm := .none },
  { cls := 18, slots := #[.int 83], vm := .none },
  { cls := 18, slots := #[.int 84], vm := .none },
  { cls := 18, slots := #[.int 85], vm := .none },
  { cls := 18, slots := #[.int 86], vm := .none },
  { cls := 18, slots := #[.int 87], vm := .none },
  { cls := 18, slots := #[.int 88], vm := .none },
  { cls := 18, slots := #[.int 89], vm := .none },
  { cls := 18, slots := #[.int 90], vm := .none },
  { cls := 18, slots := #[.int 91], vm := .none },
  { cls := 18, slots := #[.int 92], vm := .none },
  { cls := 18, slots := #[.int 93], vm := .none },
  { cls := 18, slots := #[.int 94], vm := .none },
  { cls := 18, slots := #[.int 95], vm := .none },
  { cls := 18, slots := #[.int 96], vm := .none },
  { cls := 18, slots := #[.int 97], vm := .none },
  { cls := 18, slots := #[.int 98], vm := .none },
  { cls := 18, slots := #[.int 99], vm := .none },
  { cls := 18, slots := #[.int 100], vm := .none },
  { cls := 18, slots := #[.int 101], vm := .none },
  { cls := 18, slots := #[.int 102], vm := .none },
  { cls := 18, slots := #[.int 103], vm := .none },
  { cls := 18, slots := #[.int 104], vm := .none },
  { cls := 18, slots := #[.int 105], vm := .none },
  { cls := 18, slots := #[.int 106], vm := .none },
  { cls := 18, slots := #[.int 107], vm := .none },
  { cls := 18, slots := #[.int 108], vm := .none },
  { cls := 18, slots := #[.int 109], vm := .none },
  { cls := 18, slots := #[.int 110], vm := .none },
  { cls := 18, slots := #[.int 111], vm := .none },
  { cls := 18, slots := #[.int 112], vm := .none },
  { cls := 18, slots := #[.int 113], vm := .none },
  { cls := 18, slots := #[.int 114], vm := .none },
  { cls := 18, slots := #[.int 115], vm := .none },
  { cls := 18, slots := #[.int 116], vm := .none },
  { cls := 18, slots := #[.int 117], vm := .none },
  { cls := 18, slots := #[.int 118], vm := .none },
  { cls := 18, slots := #[.int 119], vm := .none },
  { cls := 18, slots := #[.int 120], vm := .none },
  { cls := 18, slots := #[.int 121], vm := .none },
  { cls := 18, slots := #[.int 122], vm := .none },
  { cls := 18, slots := #[.int 123], vm := .none },
  { cls := 18, slots := #[.int 124], vm := .none },
  { cls := 18, slots := #[.int 125], vm := .none },
  { cls := 18, slots := #[.int 126], vm := .none },
  { cls := 18, slots := #[.int 127], vm := .none },
  { cls := 26, slots := #[], vm := .none },
  { cls := 26, slots := #[], vm := .none }]
def classes : Array Class := #[k0, k1, k2, k3, k4, k5, k6, k7, k8, k9, k10, k11, k12, k13, k14, k15, k16, k17, k18, k19, k20, k21, k22, k23, k24, k25, k26]
def interned : List (Array UInt16 × Addr) := []
def slotsUsed : Nat := 521
def theMethod : MethodId := ⟨1, 1⟩
def args0 : Array Value := #[.long 3, .long 5]
def aboutOver (below : List Frame) : State where
  vm := { classes := classes, interned := interned.toArray }
  heap := heap
  slotsUsed := slotsUsed
  threads := #[{ frames := .invoking theMethod args0 :: below }]
def below0 : List Frame := [.native { method := ⟨0, 0⟩, args := #[] }]
def about1 : State := aboutOver below0
def p0 : Program := .bare "" "" ""
def e0 : Env := launch0.env 0 0 0
theorem w_frames : about1.frames = Frame.invoking theMethod args0 :: below0 := rfl
set_option maxRecDepth 65536 in
theorem w_args : argsFit about1.vm theMethod args0 = true := by decide +kernel
set_option maxRecDepth 65536 in
theorem w_heap : heapFits about1 = true := by decide +kernel
set_option maxRecDepth 65536 in
theorem w_runnable : about1.curStatus? = some .runnable := by decide +kernel
set_option maxRecDepth 65536 in
theorem w_alone : about1.alone = true := by decide +kernel
set_option maxRecDepth 65536 in
theorem w_named : about1.methodNamed? x = some theMethod := by decide +kernel
set_option maxRecDepth 65536 in
theorem w_hears : about1.hears theMethod below0 = true := by decide +kernel
set_option maxRecDepth 65536 in
theorem w_ripe : about1.ripe theMethod args0 below0 = true := by decide +kernel
theorem w_running : about1.status = .running := rfl
set_option maxRecDepth 65536 in
theorem w_room : about1.hasRoom e0.platform room_1 = true :=
  launch0.hasRoom_least _ room_1 (by decide +kernel) (by decide +kernel) (by decide +kernel) (by decide +kernel) (by decide +kernel) (by decide +kernel)
theorem allAtoms_all (ts : List Jvm.Cond) (a : Array Jvm.Value) (st : Jvm.State) : (allAtoms ts).before a st = ts.all (fun c => c.before a st) := by
  induction ts with
  | nil => rfl
  | cons c t ih =>
    show (Jvm.Cond.and c (allAtoms t)).before a st = _
    rw [Jvm.Cond.before_and, ih, List.all_cons]
def words1 : List Jvm.Cond := Jvm.Cond.code x code maxLocals ret :: tables_1
/-- a 'code' word, met by the world's own term for the bytes: nothing is compared byte by byte -/
theorem code_word {y : MethodName} {bytes : ByteArray} {mx : Nat} {rt : Option FieldType} {a : Array Value} {s : State} {m : MethodId} {meth : Method} {c : Code} (h1 : s.methodNamed? y = some m) (h2 : s.vm.method? m = some meth) (h3 : meth.code = some c) (h4 : c.code = bytes)
    (h5 : (c.maxLocals == mx && c.exceptionTable.isEmpty && decide (c.maxStack ≤ mostOperands) && decide (meth.sig.returnType = rt) && !meth.locks && decide (parseMethodDescriptor y.desc = some meth.sig)) = true) : (Jvm.Cond.code y bytes mx rt).before a s = true := by
  simp only [Bool.and_eq_true, beq_iff_eq, Bool.not_eq_true', decide_eq_true_eq] at h5
  obtain ⟨⟨⟨⟨⟨g1, g2⟩, g3⟩, g4⟩, g5⟩, g6⟩ := h5
  simp [Cond.before, Cond.holds, Cond.value, h1, h2, h3, h4, g1, g2, g3, g4, g5, g6]
def isCode : Jvm.Cond → Bool
  | .code _ _ _ _ => true
  | _ => false
theorem all_split {L : List Jvm.Cond} {P : Jvm.Cond → Bool} (h1 : L.all (fun c => isCode c || P c) = true) (h2 : ∀ c ∈ L.filter isCode, P c = true) : L.all P = true := by
  refine List.all_eq_true.mpr fun c hc => ?_
  have h := List.all_eq_true.mp h1 c hc
  rcases Bool.eq_false_or_eq_true (isCode c) with hi | hi
  · exact h2 c (List.mem_filter.mpr ⟨hc, hi⟩)
  · simpa [hi] using h
set_option maxRecDepth 65536 in
theorem w_c0 : (Jvm.Cond.code x code maxLocals ret).before args0 about1 = true := code_word (m := ⟨1, 1⟩) (meth := k1m1) (c := k1c1) (by decide +kernel) rfl rfl rfl (by decide +kernel)
set_option maxRecDepth 65536 in
theorem w_c1 : (Jvm.Cond.code ({ cls := "java/lang/Math", name := "max", desc := "(JJ)J" } : Jvm.MethodName) jdk_29_method_66_code (4 : Nat) (Option.some Jvm.ClassFile.FieldType.long)).before args0 about1 = true := code_word (m := ⟨2, 2⟩) (meth := k2m2) (c := k2c2) (by decide +kernel) rfl rfl rfl (by decide +kernel)
set_option maxRecDepth 65536 in
theorem w_c2 : (Jvm.Cond.code ({ cls := "com/example/vetted_query/vettedquery/Page", name := "<init>", desc := "(JJ)V" } : Jvm.MethodName) prog_32_method_1_code (5 : Nat) (Option.none : Option Jvm.ClassFile.FieldType)).before args0 about1 = true := code_word (m := ⟨3, 0⟩) (meth := k3m0) (c := k3c0) (by decide +kernel) rfl rfl rfl (by decide +kernel)
set_option maxRecDepth 65536 in
theorem w_c3 : (Jvm.Cond.code ({ cls := "java/lang/Object", name := "<init>", desc := "()V" } : Jvm.MethodName) object_method_1_code (1 : Nat) (Option.none : Option Jvm.ClassFile.FieldType)).before args0 about1 = true := code_word (m := ⟨0, 0⟩) (meth := k0m0) (c := k0c0) (by decide +kernel) rfl rfl rfl (by decide +kernel)
set_option maxRecDepth 65536 in
theorem w_c4 : (Jvm.Cond.code ({ cls := "java/util/ArrayList", name := "<init>", desc := "()V" } : Jvm.MethodName) jdk_38_method_2_code (1 : Nat) (Option.none : Option Jvm.ClassFile.FieldType)).before args0 about1 = true := code_word (m := ⟨13, 0⟩) (meth := k13m0) (c := k13c0) (by decide +kernel) rfl rfl rfl (by decide +kernel)
set_option maxRecDepth 65536 in
theorem w_c5 : (Jvm.Cond.code ({ cls := "java/util/AbstractList", name := "<init>", desc := "()V" } : Jvm.MethodName) jdk_39_method_1_code (1 : Nat) (Option.none : Option Jvm.ClassFile.FieldType)).before args0 about1 = true := code_word (m := ⟨9, 0⟩) (meth := k9m0) (c := k9c0) (by decide +kernel) rfl rfl rfl (by decide +kernel)
set_option maxRecDepth 65536 in
theorem w_c6 : (Jvm.Cond.code ({ cls := "java/util/AbstractCollection", name := "<init>", desc := "()V" } : Jvm.MethodName) jdk_22_method_1_code (1 : Nat) (Option.none : Option Jvm.ClassFile.FieldType)).before args0 about1 = true := code_word (m := ⟨6, 0⟩) (meth := k6m0) (c := k6c0) (by decide +kernel) rfl rfl rfl (by decide +kernel)
set_option maxRecDepth 65536 in
theorem w_c7 : (Jvm.Cond.code ({ cls := "java/lang/Integer", name := "valueOf", desc := "(I)Ljava/lang/Integer;" } : Jvm.MethodName) jdk_33_method_22_code (1 : Nat) (Option.some (Jvm.ClassFile.FieldType.object "java/lang/Integer"))).before args0 about1 = true := code_word (m := ⟨18, 0⟩) (meth := k18m0) (c := k18c0) (by decide +kernel) rfl rfl rfl (by decide +kernel)
set_option maxRecDepth 65536 in
theorem w_c8 : (Jvm.Cond.code ({ cls := "java/util/ArrayList", name := "add", desc := "(Ljava/lang/Object;)Z" } : Jvm.MethodName) jdk_38_method_25_code (2 : Nat) (Option.some Jvm.ClassFile.FieldType.boolean)).before args0 about1 = true := code_word (m := ⟨13, 5⟩) (meth := k13m5) (c := k13c5) (by decide +kernel) rfl rfl rfl (by decide +kernel)
set_option maxRecDepth 65536 in
theorem w_c9 : (Jvm.Cond.code ({ cls := "java/util/ArrayList", name := "add", desc := "(Ljava/lang/Object;[Ljava/lang/Object;I)V" } : Jvm.MethodName) jdk_38_method_24_code (4 : Nat) (Option.none : Option Jvm.ClassFile.FieldType)).before args0 about1 = true := code_word (m := ⟨13, 4⟩) (meth := k13m4) (c := k13c4) (by decide +kernel) rfl rfl rfl (by decide +kernel)
set_option maxRecDepth 65536 in
theorem w_c10 : (Jvm.Cond.code ({ cls := "java/util/ArrayList", name := "grow", desc := "()[Ljava/lang/Object;" } : Jvm.MethodName) jdk_38_method_7_code (1 : Nat) (Option.some (Jvm.ClassFile.FieldType.array (Jvm.ClassFile.FieldType.object "java/lang/Object")))).before args0 about1 = true := code_word (m := ⟨13, 2⟩) (meth := k13m2) (c := k13c2) (by decide +kernel) rfl rfl rfl (by decide +kernel)
set_option maxRecDepth 65536 in
theorem w_c11 : (Jvm.Cond.code ({ cls := "java/util/ArrayList", name := "grow", desc := "(I)[Ljava/lang/Object;" } : Jvm.MethodName) jdk_38_method_6_code (4 : Nat) (Option.some (Jvm.ClassFile.FieldType.array (Jvm.ClassFile.FieldType.object "java/lang/Object")))).before args0 about1 = true := code_word (m := ⟨13, 1⟩) (meth := k13m1) (c := k13c1) (by decide +kernel) rfl rfl rfl (by decide +kernel)
set_option maxRecDepth 65536 in
theorem w_c12 : (Jvm.Cond.code ({ cls := "java/lang/Math", name := "max", desc := "(II)I" } : Jvm.MethodName) jdk_29_method_65_code (2 : Nat) (Option.some Jvm.ClassFile.FieldType.int)).before args0 about1 = true := code_word (m := ⟨2, 1⟩) (meth := k2m1) (c := k2c1) (by decide +kernel) rfl rfl rfl (by decide +kernel)
set_option maxRecDepth 65536 in
theorem w_c13 : (Jvm.Cond.code ({ cls := "com/example/vetted_query/vettedquery/Page", name := "skips", desc := "()Z" } : Jvm.MethodName) prog_32_method_4_code (1 : Nat) (Option.some Jvm.ClassFile.FieldType.boolean)).before args0 about1 = true := code_word (m := ⟨3, 2⟩) (meth := k3m2) (c := k3c2) (by decide +kernel) rfl rfl rfl (by decide +kernel)
set_option maxRecDepth 65536 in
theorem w_c14 : (Jvm.Cond.code ({ cls := "com/example/vetted_query/vettedquery/Page", name := "of", desc := "(Ljava/util/List;)Ljava/util/List;" } : Jvm.MethodName) prog_32_method_7_code (4 : Nat) (Option.some (Jvm.ClassFile.FieldType.object "java/util/List"))).before args0 about1 = true := code_word (m := ⟨3, 3⟩) (meth := k3m3) (c := k3c3) (by decide +kernel) rfl rfl rfl (by decide +kernel)
set_option maxRecDepth 65536 in
theorem w_c15 : (Jvm.Cond.code ({ cls := "java/util/ArrayList", name := "size", desc := "()I" } : Jvm.MethodName) jdk_38_method_8_code (1 : Nat) (Option.some Jvm.ClassFile.FieldType.int)).before args0 about1 = true := code_word (m := ⟨13, 3⟩) (meth := k13m3) (c := k13c3) (by decide +kernel) rfl rfl rfl (by decide +kernel)
set_option maxRecDepth 65536 in
theorem w_c16 : (Jvm.Cond.code ({ cls := "java/lang/Math", name := "min", desc := "(JJ)J" } : Jvm.MethodName) jdk_29_method_70_code (4 : Nat) (Option.some Jvm.ClassFile.FieldType.long)).before args0 about1 = true := code_word (m := ⟨2, 3⟩) (meth := k2m3) (c := k2c3) (by decide +kernel) rfl rfl rfl (by decide +kernel)
set_option maxRecDepth 65536 in
theorem w_c17 : (Jvm.Cond.code ({ cls := "java/util/ArrayList", name := "subList", desc := "(II)Ljava/util/List;" } : Jvm.MethodName) jdk_38_method_56_code (3 : Nat) (Option.some (Jvm.ClassFile.FieldType.object "java/util/List"))).before args0 about1 = true := code_word (m := ⟨13, 6⟩) (meth := k13m6) (c := k13c6) (by decide +kernel) rfl rfl rfl (by decide +kernel)
set_option maxRecDepth 65536 in
theorem w_c18 : (Jvm.Cond.code ({ cls := "java/util/AbstractList", name := "subListRangeCheck", desc := "(III)V" } : Jvm.MethodName) jdk_39_method_15_code (3 : Nat) (Option.none : Option Jvm.ClassFile.FieldType)).before args0 about1 = true := code_word (m := ⟨9, 1⟩) (meth := k9m1) (c := k9c1) (by decide +kernel) rfl rfl rfl (by decide +kernel)
set_option maxRecDepth 65536 in
theorem w_c19 : (Jvm.Cond.code ({ cls := "java/util/ArrayList$SubList", name := "<init>", desc := "(Ljava/util/ArrayList;II)V" } : Jvm.MethodName) jdk_130_method_1_code (4 : Nat) (Option.none : Option Jvm.ClassFile.FieldType)).before args0 about1 = true := code_word (m := ⟨20, 0⟩) (meth := k20m0) (c := k20c0) (by decide +kernel) rfl rfl rfl (by decide +kernel)
set_option maxRecDepth 65536 in
theorem w_c20 : (Jvm.Cond.code ({ cls := "java/util/ArrayList$SubList", name := "size", desc := "()I" } : Jvm.MethodName) jdk_130_method_5_code (1 : Nat) (Option.some Jvm.ClassFile.FieldType.int)).before args0 about1 = true := code_word (m := ⟨20, 1⟩) (meth := k20m1) (c := k20c1) (by decide +kernel) rfl rfl rfl (by decide +kernel)
set_option maxRecDepth 65536 in
theorem w_c21 : (Jvm.Cond.code ({ cls := "java/util/ArrayList$SubList", name := "checkForComodification", desc := "()V" } : Jvm.MethodName) jdk_130_method_28_code (1 : Nat) (Option.none : Option Jvm.ClassFile.FieldType)).before args0 about1 = true := code_word (m := ⟨20, 2⟩) (meth := k20m2) (c := k20c2) (by decide +kernel) rfl rfl rfl (by decide +kernel)
set_option maxRecDepth 65536 in
theorem w_c22 : (Jvm.Cond.code ({ cls := "com/example/vetted_query/vettedquery/Page", name := "skip", desc := "()J" } : Jvm.MethodName) prog_32_method_2_code (1 : Nat) (Option.some Jvm.ClassFile.FieldType.long)).before args0 about1 = true := code_word (m := ⟨3, 1⟩) (meth := k3m1) (c := k3c1) (by decide +kernel) rfl rfl rfl (by decide +kernel)
def codes1 : List Jvm.Cond := [Jvm.Cond.code x code maxLocals ret, Jvm.Cond.code ({ cls := "java/lang/Math", name := "max", desc := "(JJ)J" } : Jvm.MethodName) jdk_29_method_66_code (4 : Nat) (Option.some Jvm.ClassFile.FieldType.long), Jvm.Cond.code ({ cls := "com/example/vetted_query/vettedquery/Page", name := "<init>", desc := "(JJ)V" } : Jvm.MethodName) prog_32_method_1_code (5 : Nat) (Option.none : Option Jvm.ClassFile.FieldType), Jvm.Cond.code ({ cls := "java/lang/Object", name := "<init>", desc := "()V" } : Jvm.MethodName) object_method_1_code (1 : Nat) (Option.none : Option Jvm.ClassFile.FieldType), Jvm.Cond.code ({ cls := "java/util/ArrayList", name := "<init>", desc := "()V" } : Jvm.MethodName) jdk_38_method_2_code (1 : Nat) (Option.none : Option Jvm.ClassFile.FieldType), Jvm.Cond.code ({ cls := "java/util/AbstractList", name := "<init>", desc := "()V" } : Jvm.MethodName) jdk_39_method_1_code (1 : Nat) (Option.none : Option Jvm.ClassFile.FieldType), Jvm.Cond.code ({ cls := "java/util/AbstractCollection", name := "<init>", desc := "()V" } : Jvm.MethodName) jdk_22_method_1_code (1 : Nat) (Option.none : Option Jvm.ClassFile.FieldType), Jvm.Cond.code ({ cls := "java/lang/Integer", name := "valueOf", desc := "(I)Ljava/lang/Integer;" } : Jvm.MethodName) jdk_33_method_22_code (1 : Nat) (Option.some (Jvm.ClassFile.FieldType.object "java/lang/Integer")), Jvm.Cond.code ({ cls := "java/util/ArrayList", name := "add", desc := "(Ljava/lang/Object;)Z" } : Jvm.MethodName) jdk_38_method_25_code (2 : Nat) (Option.some Jvm.ClassFile.FieldType.boolean), Jvm.Cond.code ({ cls := "java/util/ArrayList", name := "add", desc := "(Ljava/lang/Object;[Ljava/lang/Object;I)V" } : Jvm.MethodName) jdk_38_method_24_code (4 : Nat) (Option.none : Option Jvm.ClassFile.FieldType), Jvm.Cond.code ({ cls := "java/util/ArrayList", name := "grow", desc := "()[Ljava/lang/Object;" } : Jvm.MethodName) jdk_38_method_7_code (1 : Nat) (Option.some (Jvm.ClassFile.FieldType.array (Jvm.ClassFile.FieldType.object "java/lang/Object"))), Jvm.Cond.code ({ cls := "java/util/ArrayList", name := "grow", desc := "(I)[Ljava/lang/Object;" } : Jvm.MethodName) jdk_38_method_6_code (4 : Nat) (Option.some (Jvm.ClassFile.FieldType.array (Jvm.ClassFile.FieldType.object "java/lang/Object"))), Jvm.Cond.code ({ cls := "java/lang/Math", name := "max", desc := "(II)I" } : Jvm.MethodName) jdk_29_method_65_code (2 : Nat) (Option.some Jvm.ClassFile.FieldType.int), Jvm.Cond.code ({ cls := "com/example/vetted_query/vettedquery/Page", name := "skips", desc := "()Z" } : Jvm.MethodName) prog_32_method_4_code (1 : Nat) (Option.some Jvm.ClassFile.FieldType.boolean), Jvm.Cond.code ({ cls := "com/example/vetted_query/vettedquery/Page", name := "of", desc := "(Ljava/util/List;)Ljava/util/List;" } : Jvm.MethodName) prog_32_method_7_code (4 : Nat) (Option.some (Jvm.ClassFile.FieldType.object "java/util/List")), Jvm.Cond.code ({ cls := "java/util/ArrayList", name := "size", desc := "()I" } : Jvm.MethodName) jdk_38_method_8_code (1 : Nat) (Option.some Jvm.ClassFile.FieldType.int), Jvm.Cond.code ({ cls := "java/lang/Math", name := "min", desc := "(JJ)J" } : Jvm.MethodName) jdk_29_method_70_code (4 : Nat) (Option.some Jvm.ClassFile.FieldType.long), Jvm.Cond.code ({ cls := "java/util/ArrayList", name := "subList", desc := "(II)Ljava/util/List;" } : Jvm.MethodName) jdk_38_method_56_code (3 : Nat) (Option.some (Jvm.ClassFile.FieldType.object "java/util/List")), Jvm.Cond.code ({ cls := "java/util/AbstractList", name := "subListRangeCheck", desc := "(III)V" } : Jvm.MethodName) jdk_39_method_15_code (3 : Nat) (Option.none : Option Jvm.ClassFile.FieldType), Jvm.Cond.code ({ cls := "java/util/ArrayList$SubList", name := "<init>", desc := "(Ljava/util/ArrayList;II)V" } : Jvm.MethodName) jdk_130_method_1_code (4 : Nat) (Option.none : Option Jvm.ClassFile.FieldType), Jvm.Cond.code ({ cls := "java/util/ArrayList$SubList", name := "size", desc := "()I" } : Jvm.MethodName) jdk_130_method_5_code (1 : Nat) (Option.some Jvm.ClassFile.FieldType.int), Jvm.Cond.code ({ cls := "java/util/ArrayList$SubList", name := "checkForComodification", desc := "()V" } : Jvm.MethodName) jdk_130_method_28_code (1 : Nat) (Option.none : Option Jvm.ClassFile.FieldType), Jvm.Cond.code ({ cls := "com/example/vetted_query/vettedquery/Page", name := "skip", desc := "()J" } : Jvm.MethodName) prog_32_method_2_code (1 : Nat) (Option.some Jvm.ClassFile.FieldType.long)]
set_option maxRecDepth 65536 in
theorem codes_eq : words1.filter isCode = codes1 := rfl
theorem w_codes : ∀ c ∈ words1.filter isCode, c.before args0 about1 = true := by
  rw [codes_eq]
  intro c hc
  simp only [codes1, List.mem_cons, List.not_mem_nil, or_false] at hc
  rcases hc with rfl | rfl | rfl | rfl | rfl | rfl | rfl | rfl | rfl | rfl | rfl | rfl | rfl | rfl | rfl | rfl | rfl | rfl | rfl | rfl | rfl | rfl | rfl
  · exact w_c0
  · exact w_c1
  · exact w_c2
  · exact w_c3
  · exact w_c4
  · exact w_c5
  · exact w_c6
  · exact w_c7
  · exact w_c8
  · exact w_c9
  · exact w_c10
  · exact w_c11
  · exact w_c12
  · exact w_c13
  · exact w_c14
  · exact w_c15
  · exact w_c16
  · exact w_c17
  · exact w_c18
  · exact w_c19
  · exact w_c20
  · exact w_c21
  · exact w_c22
set_option maxRecDepth 65536 in
theorem w_t1 : (words1.take 24).all (fun c => isCode c || c.before args0 about1) = true := by decide +kernel
set_option maxRecDepth 65536 in
theorem w_t2 : ((words1.drop 24).take 24).all (fun c => isCode c || c.before args0 about1) = true := by decide +kernel
set_option maxRecDepth 65536 in
theorem w_t3 : (((words1.drop 24).drop 24).take 24).all (fun c => isCode c || c.before args0 about1) = true := by decide +kernel
set_option maxRecDepth 65536 in
theorem w_t4 : ((((words1.drop 24).drop 24).drop 24).take 24).all (fun c => isCode c || c.before args0 about1) = true := by decide +kernel
set_option maxRecDepth 65536 in
theorem w_t5 : (((((words1.drop 24).drop 24).drop 24).drop 24).take 24).all (fun c => isCode c || c.before args0 about1) = true := by decide +kernel
set_option maxRecDepth 65536 in
theorem w_t6 : ((((((words1.drop 24).drop 24).drop 24).drop 24).drop 24).take 24).all (fun c => isCode c || c.before args0 about1) = true := by decide +kernel
set_option maxRecDepth 65536 in
theorem w_t7 : ((((((words1.drop 24).drop 24).drop 24).drop 24).drop 24).drop 24).all (fun c => isCode c || c.before args0 about1) = true := by decide +kernel
theorem w_tables : (allAtoms (Jvm.Cond.code x code maxLocals ret :: tables_1)).before args0 about1 = true := by
  rw [allAtoms_all]
  show words1.all (fun c => c.before args0 about1) = true
  refine all_split ?_ w_codes
  rw [← List.take_append_drop 24 words1, List.all_append, w_t1, ← List.take_append_drop 24 (words1.drop 24), List.all_append, w_t2, ← List.take_append_drop 24 ((words1.drop 24).drop 24), List.all_append, w_t3, ← List.take_append_drop 24 (((words1.drop 24).drop 24).drop 24), List.all_append, w_t4, ← List.take_append_drop 24 ((((words1.drop 24).drop 24).drop 24).drop 24), List.all_append, w_t5, ← List.take_append_drop 24 (((((words1.drop 24).drop 24).drop 24).drop 24).drop 24), List.all_append, w_t6, w_t7]
  rfl
set_option maxRecDepth 65536 in
theorem w_rest : rest_1_c.before args0 about1 = true := by decide +kernel
set_option maxRecDepth 65536 in
theorem w_case : (Jvm.Cond.and given_1 narrow_1).before args0 about1 = true := by decide +kernel
theorem w_applies : (headSpec (Jvm.Cond.code x code maxLocals ret :: tables_1) room_1).applies x e0.platform about1 = true :=
  (Spec.applies_iff w_frames).mpr ⟨w_running, w_runnable, w_alone, w_named, w_hears, w_ripe, w_room, w_tables⟩
theorem atStart : AtStart classFile x code maxLocals ret World_1 tables_1 room_1 Calls_1 rest_1 Pre_1 launch0 p0 e0 about1 theMethod args0 below0 :=
  ⟨lists_1, trivial, launch0.admits_env _ _ _, launch0.least_env, fairChoices_fair.cas, fairChoices_fair.clock, w_frames, w_args, w_heap, w_applies, trivial, w_rest, w_case⟩
end start1
theorem witness_1 : WitnessClaimed_1 := ⟨start1.p0, start1.e0, start1.about1, start1.theMethod, start1.args0, start1.below0, start1.atStart⟩
end Jvm.Pilot.@@N@@
