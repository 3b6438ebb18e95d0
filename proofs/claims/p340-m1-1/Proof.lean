import JvmDerived
import JvmDerived.Pilot.@@N@@Statement
import JvmDerived.Pilot.@@N@@Code
set_option linter.unusedVariables false
set_option linter.unusedSimpArgs false
namespace Jvm.Pilot.@@N@@
open Jvm Jvm.ClassFile Sem Op Lib Jvm.Free Jvm.Stand Jvm.LawKit Jvm.RoadKit Bundle Jvm.Pilot.@@N@@.Jvm.D
section OwnKit
variable {p : Program} {l : Launch} {e : Env} {R : Room} {s : State} {m : MethodId} {args : Array Value} {below : List Frame} {meth : Method} {c : Code} {T : State} {locs : List Loc} {cells slots : Nat} {Q : Option Value → Heap → List Loc → Prop} {F : Option Value → State → Prop} {KC KS : Nat} {bs : ByteArray} {pc pc' : Nat} {Ls l' : Array Slot} {st : List Value}
/-- from U the run comes to its end: it returns v, and F says what it leaves -/
def own_End (p : Program) (e : Env) (below : List Frame) (F : Option Value → State → Prop) (U : State) : Prop :=
  ∃ s₂ v, Steps p.tables e below U s₂ ∧ s₂.status = .running ∧ Ended s₂ below (.returned v) ∧ F v s₂
def own_F (s : State) (Q : Option Value → Heap → List Loc → Prop) (KC KS : Nat) : Option Value → State → Prop := fun v s₂ => ∃ L, Q v s₂.heap L ∧ FrameEnd s (.returned v) s₂ L KC KS
def own_FS (s : State) (Q : Option Value → Heap → List Loc → Prop) (KC KS : Nat) : Option Value → State → Prop := fun v s₂ => ∃ L, Q v s₂.heap L ∧ ReturnedEndW s (.returned v) s₂ L KC KS
theorem own_body {U : State} (h : own_End p e below (own_F s Q KC KS) U) : ∃ s₂ o, Steps p.tables e below U s₂ ∧ s₂.status = .running ∧ Ended s₂ below o ∧ ∃ v L, o = .returned v ∧ Q v s₂.heap L ∧ FrameEnd s o s₂ L KC KS := by
  obtain ⟨s2, v, h1, h2, h3, L, h4, h5⟩ := h
  exact ⟨s2, _, h1, h2, h3, v, L, rfl, h4, h5⟩
theorem own_bodyS {U : State} (h : own_End p e below (own_FS s Q KC KS) U) : ∃ s₂ o, Steps p.tables e below U s₂ ∧ s₂.status = .running ∧ Ended s₂ below o ∧ ∃ v L, o = .returned v ∧ Q v s₂.heap L ∧ ReturnedEndW s o s₂ L KC KS := by
  obtain ⟨s2, v, h1, h2, h3, L, h4, h5⟩ := h
  exact ⟨s2, _, h1, h2, h3, v, L, rfl, h4, h5⟩
theorem own_step {U U' : State} (k : ∀ t, Steps p.tables e below U' t → Steps p.tables e below U t) (h : own_End p e below F U') : own_End p e below F U := by
  obtain ⟨s2, v, h1, h2⟩ := h
  exact ⟨s2, v, k _ h1, h2⟩
theorem own_trans {U U' : State} (k : Steps p.tables e below U U') (h : own_End p e below F U') : own_End p e below F U := by
  obtain ⟨s2, v, h1, h2⟩ := h
  exact ⟨s2, v, k.trans h1, h2⟩
theorem own_mono {cells' slots' : Nat} (X : Stand p l e R s m args below meth c T locs cells slots) (hc : cells ≤ cells') (hs : slots ≤ slots') : Stand p l e R s m args below meth c T locs cells' slots' := X.mono hc hs
theorem own_selPriv {y : MethodName} {n : Nat} (wi : (Cond.instantiable y.cls n).before args s = true) (hp : s.PrivateAt y) (hi : (Cond.instanceMethod y).before args s = true) (hy : y.cls ≠ "java/lang/invoke/MethodHandle" ∧ y.cls ≠ "java/lang/invoke/VarHandle") : (Cond.selects y.cls y y).before args s = true := by
  obtain ⟨c, k, h1, h2, -, h4, -⟩ := Cond.instantiable_spec wi
  exact selects_self_of_private h1 h2 (by simp only [Bool.or_eq_false_iff] at h4; exact h4.1) hp hi hy
theorem own_sta0 {Z : State} {h h' : Heap} {C n d : String} {v : Value} (S : Sta Z h C n d v) (K : Keep h h' []) : Sta Z h' C n d v := by
  obtain ⟨cf, i, k, f, st, cell, h1, h2, h3, h4, h5, h6, h7⟩ := S
  exact ⟨cf, i, k, f, st, cell, h1, h2, h3, h4, K.2.1 _ _ h5 nin0, h6, h7⟩
theorem own_sta1 {Z : State} {h h' : Heap} {C n d D : String} {v : Value} {a : Addr} (S : Sta Z h C n d v) (K : Keep h h' [a]) (E : Exa Z h a D) : Sta Z h' C n d v := by
  obtain ⟨cf, i, k, f, st, cell, h1, h2, h3, h4, h5, h6, h7⟩ := S
  obtain ⟨c', k', g1, -, -, g4, -⟩ := E
  have ne : st ≠ a := fun q => by subst q; cases h5.symm.trans g1; rw [g4] at h6; cases h6
  exact ⟨cf, i, k, f, st, cell, h1, h2, h3, h4, K.2.1 _ _ h5 (ninS ne nin0), h6, h7⟩
theorem own_cat1 {w : Value} (h : w.isRef = true) : w.category = 1 := by rcases ref_cases h with rfl | ⟨z, rfl⟩ <;> rfl
theorem own_nar {w : Value} {t : FieldType} (h : w.isRef = true) (ht : t.isReference = true) : narrow t w = w := by rcases ref_cases h with rfl | ⟨z, rfl⟩ <;> cases t <;> first | rfl | cases ht
theorem own_fit {w : Value} {t : FieldType} (h : w.isRef = true) (ht : t.isReference = true) : fits t w = true := by rcases ref_cases h with rfl | ⟨z, rfl⟩ <;> cases t <;> first | rfl | cases ht
/-- what the frame says where the run leaves -/
def own_Lv (F : Option Value → State → Prop) (s T : State) (locs : List Loc) (cells slots : Nat) (v : Option Value) : Prop := ∀ fs, s.WarmedH (T.setFrames fs).vm → s.sameButNew ({ T.setFrames fs with vm := s.vm } : State) locs cells slots → F v (T.setFrames fs)
theorem own_lv {v : Option Value} (hQ : Q v T.heap locs) (hc : cells ≤ KC) (hs : slots ≤ KS) : own_Lv (own_F s Q KC KS) s T locs cells slots v := fun fs hW hsm => ⟨locs, hQ, ⟨_, rfl⟩, hW, hsm.mono hc hs⟩
theorem own_lvS {v : Option Value} {vm₁ : Vm} {n : Nat} (hS : s.Since vm₁ n) (hn : n ≤ T.heap.size) (hQ : Q v T.heap locs) (hc : cells ≤ KC) (hs : slots ≤ KS) : own_Lv (own_FS s Q KC KS) (s.setVm vm₁) T locs cells slots v := fun fs hW hsm => by
  obtain ⟨a, b, c'⟩ := hS.ended (U := T.setFrames fs) hW hn hsm
  exact ⟨locs, hQ, ⟨_, rfl⟩, a, b, c'.mono hc hs⟩
theorem own_retW (X : Stand p l e R s m args below meth c T locs cells slots) (hx : p.tables.exec = Jvm.exec) (hlk : meth.locks = false) (hby : c.code = bs) {w : Value} {t : FieldType} {i : Instr} {rest : List Value} (hret : meth.sig.returnType = some t) (hn : narrow t w = w)
    (hi : (i = .ireturn ∧ (t = .int ∨ t = .boolean ∨ t = .byte ∨ t = .char ∨ t = .short) ∧ ∃ z, w = .int z) ∨ (i = .lreturn ∧ t = .long ∧ ∃ z, w = .long z) ∨ (i = .dreturn ∧ t = .double ∧ ∃ z, w = .double z) ∨ (i = .freturn ∧ t = .float ∧ ∃ z, w = .float z) ∨ (i = .areturn ∧ t.isReference = true ∧ w.isRef = true))
    (hd : decode bs pc = .ok (i, 1)) (hF : own_Lv F s T locs cells slots (some w)) : own_End p e below F (T.setTop (mkF m pc Ls (w :: rest))) := by
  obtain ⟨fs, hr, hrun, hended, hW, hsame⟩ := X.leave (v := some w) (fun h => by rw [hret] at h; cases h) hlk
  exact ⟨_, _, retOut X hx hret hn hi (hb hby hd) hr, hrun, hended, hF fs hW hsame⟩
theorem own_ireturn (X : Stand p l e R s m args below meth c T locs cells slots) (hx : p.tables.exec = Jvm.exec) (hlk : meth.locks = false) (hby : c.code = bs) {z : Int32} {rest : List Value} (hret : meth.sig.returnType = some .int)
    (hd : decode bs pc = .ok (.ireturn, 1)) (hF : own_Lv F s T locs cells slots (some (.int z))) : own_End p e below F (T.setTop (mkF m pc Ls (.int z :: rest))) :=
  own_retW X hx hlk hby hret rfl (Or.inl ⟨rfl, Or.inl rfl, _, rfl⟩) hd hF
theorem own_zreturn (X : Stand p l e R s m args below meth c T locs cells slots) (hx : p.tables.exec = Jvm.exec) (hlk : meth.locks = false) (hby : c.code = bs) {z : Int32} {rest : List Value} (hret : meth.sig.returnType = some .boolean) (hz : z = 0 ∨ z = 1)
    (hd : decode bs pc = .ok (.ireturn, 1)) (hF : own_Lv F s T locs cells slots (some (.int z))) : own_End p e below F (T.setTop (mkF m pc Ls (.int z :: rest))) :=
  own_retW X hx hlk hby hret (by rcases hz with rfl | rfl <;> rfl) (Or.inl ⟨rfl, Or.inr (Or.inl rfl), _, rfl⟩) hd hF
theorem own_breturn (X : Stand p l e R s m args below meth c T locs cells slots) (hx : p.tables.exec = Jvm.exec) (hlk : meth.locks = false) (hby : c.code = bs) {z : Int32} {rest : List Value} (hret : meth.sig.returnType = some .byte) (hz : z.toInt8.toInt32 = z)
    (hd : decode bs pc = .ok (.ireturn, 1)) (hF : own_Lv F s T locs cells slots (some (.int z))) : own_End p e below F (T.setTop (mkF m pc Ls (.int z :: rest))) :=
  own_retW X hx hlk hby hret (show Value.int z.toInt8.toInt32 = .int z by rw [hz]) (Or.inl ⟨rfl, Or.inr (Or.inr (Or.inl rfl)), _, rfl⟩) hd hF
theorem own_lreturn (X : Stand p l e R s m args below meth c T locs cells slots) (hx : p.tables.exec = Jvm.exec) (hlk : meth.locks = false) (hby : c.code = bs) {z : Int64} {rest : List Value} (hret : meth.sig.returnType = some .long)
    (hd : decode bs pc = .ok (.lreturn, 1)) (hF : own_Lv F s T locs cells slots (some (.long z))) : own_End p e below F (T.setTop (mkF m pc Ls (.long z :: rest))) :=
  own_retW X hx hlk hby hret rfl (Or.inr (Or.inl ⟨rfl, rfl, _, rfl⟩)) hd hF
theorem own_areturn (X : Stand p l e R s m args below meth c T locs cells slots) (hx : p.tables.exec = Jvm.exec) (hlk : meth.locks = false) (hby : c.code = bs) {w : Value} {t : FieldType} {rest : List Value} (hret : meth.sig.returnType = some t) (ht : t.isReference = true) (hw : w.isRef = true)
    (hd : decode bs pc = .ok (.areturn, 1)) (hF : own_Lv F s T locs cells slots (some w)) : own_End p e below F (T.setTop (mkF m pc Ls (w :: rest))) :=
  own_retW X hx hlk hby hret (own_nar hw ht) (Or.inr (Or.inr (Or.inr (Or.inr ⟨rfl, ht, hw⟩)))) hd hF
theorem own_return (X : Stand p l e R s m args below meth c T locs cells slots) (hx : p.tables.exec = Jvm.exec) (hlk : meth.locks = false) (hby : c.code = bs) (hret : meth.sig.returnType = none)
    (hd : decode bs pc = .ok (.return_, 1)) (hF : own_Lv F s T locs cells slots none) : own_End p e below F (T.setTop (mkF m pc Ls [])) := by
  obtain ⟨fs, hr, hrun, hended, hW, hsame⟩ := X.leave (v := none) (fun _ => rfl) hlk
  exact ⟨_, _, X.returnOut hx hret (hb hby hd) hr, hrun, hended, hF fs hW hsame⟩
section Plain
theorem own_iload (X : Stand p l e R s m args below meth c T locs cells slots) (hx : p.tables.exec = Jvm.exec) (hby : c.code = bs) {k : Nat} {v : Int32} (hd : decode bs pc = .ok (.iload k, 2)) (hp : pc + 2 = pc') (hl : Ls[k]? = some (.val (.int v))) (h : own_End p e below F (T.setTop (mkF m pc' Ls (.int v :: st)))) : own_End p e below F (T.setTop (mkF m pc Ls st)) := by
  subst hp; exact own_step (fun t k => XS.iload X.here hx rfl (hb hby hd) hl k) h
theorem own_iloadN (X : Stand p l e R s m args below meth c T locs cells slots) (hx : p.tables.exec = Jvm.exec) (hby : c.code = bs) {k : Fin 4} {v : Int32} (hd : decode bs pc = .ok (.iload_n k, 1)) (hp : pc + 1 = pc') (hl : Ls[k.val]? = some (.val (.int v))) (h : own_End p e below F (T.setTop (mkF m pc' Ls (.int v :: st)))) : own_End p e below F (T.setTop (mkF m pc Ls st)) := by
  subst hp; exact own_step (fun t k => XS.iloadN X.here hx rfl (hb hby hd) hl k) h
theorem own_lload (X : Stand p l e R s m args below meth c T locs cells slots) (hx : p.tables.exec = Jvm.exec) (hby : c.code = bs) {k : Nat} {v : Int64} (hd : decode bs pc = .ok (.lload k, 2)) (hp : pc + 2 = pc') (hl : Ls[k]? = some (.val (.long v))) (h : own_End p e below F (T.setTop (mkF m pc' Ls (.long v :: st)))) : own_End p e below F (T.setTop (mkF m pc Ls st)) := by
  subst hp; exact own_step (fun t k => XS.lload X.here hx rfl (hb hby hd) hl k) h
theorem own_lloadN (X : Stand p l e R s m args below meth c T locs cells slots) (hx : p.tables.exec = Jvm.exec) (hby : c.code = bs) {k : Fin 4} {v : Int64} (hd : decode bs pc = .ok (.lload_n k, 1)) (hp : pc + 1 = pc') (hl : Ls[k.val]? = some (.val (.long v))) (h : own_End p e below F (T.setTop (mkF m pc' Ls (.long v :: st)))) : own_End p e below F (T.setTop (mkF m pc Ls st)) := by
  subst hp; exact own_step (fun t k => XS.lloadN X.here hx rfl (hb hby hd) hl k) h
theorem own_aload (X : Stand p l e R s m args below meth c T locs cells slots) (hx : p.tables.exec = Jvm.exec) (hby : c.code = bs) {k : Nat} {v : Value} (hd : decode bs pc = .ok (.aload k, 2)) (hp : pc + 2 = pc') (hl : Ls[k]? = some (.val v)) (hv : v.isRef = true) (h : own_End p e below F (T.setTop (mkF m pc' Ls (v :: st)))) : own_End p e below F (T.setTop (mkF m pc Ls st)) := by
  subst hp; exact own_step (fun t k => XS.aload X.here hx rfl (hb hby hd) hl hv k) h
theorem own_aloadN (X : Stand p l e R s m args below meth c T locs cells slots) (hx : p.tables.exec = Jvm.exec) (hby : c.code = bs) {k : Fin 4} {v : Value} (hd : decode bs pc = .ok (.aload_n k, 1)) (hp : pc + 1 = pc') (hl : Ls[k.val]? = some (.val v)) (hv : v.isRef = true) (h : own_End p e below F (T.setTop (mkF m pc' Ls (v :: st)))) : own_End p e below F (T.setTop (mkF m pc Ls st)) := by
  subst hp; exact own_step (fun t k => XS.aloadN X.here hx rfl (hb hby hd) hl hv k) h
theorem own_istore (X : Stand p l e R s m args below meth c T locs cells slots) (hx : p.tables.exec = Jvm.exec) (hby : c.code = bs) {k : Nat} {x : Int32} (hd : decode bs pc = .ok (.istore k, 2)) (hp : pc + 2 = pc') (hl : storeLocals Ls k (.int x) = some l') (h : own_End p e below F (T.setTop (mkF m pc' l' st))) : own_End p e below F (T.setTop (mkF m pc Ls (.int x :: st))) := by
  subst hp; exact own_step (fun t k => XS.istore X.here hx rfl (hb hby hd) rfl hl k) h
theorem own_istoreN (X : Stand p l e R s m args below meth c T locs cells slots) (hx : p.tables.exec = Jvm.exec) (hby : c.code = bs) {k : Fin 4} {x : Int32} (hd : decode bs pc = .ok (.istore_n k, 1)) (hp : pc + 1 = pc') (hl : storeLocals Ls k.val (.int x) = some l') (h : own_End p e below F (T.setTop (mkF m pc' l' st))) : own_End p e below F (T.setTop (mkF m pc Ls (.int x :: st))) := by
  subst hp; exact own_step (fun t k => XS.istoreN X.here hx rfl (hb hby hd) rfl hl k) h
theorem own_lstore (X : Stand p l e R s m args below meth c T locs cells slots) (hx : p.tables.exec = Jvm.exec) (hby : c.code = bs) {k : Nat} {x : Int64} (hd : decode bs pc = .ok (.lstore k, 2)) (hp : pc + 2 = pc') (hl : storeLocals Ls k (.long x) = some l') (h : own_End p e below F (T.setTop (mkF m pc' l' st))) : own_End p e below F (T.setTop (mkF m pc Ls (.long x :: st))) := by
  subst hp; exact own_step (fun t k => XS.lstore X.here hx rfl (hb hby hd) rfl hl k) h
theorem own_lstoreN (X : Stand p l e R s m args below meth c T locs cells slots) (hx : p.tables.exec = Jvm.exec) (hby : c.code = bs) {k : Fin 4} {x : Int64} (hd : decode bs pc = .ok (.lstore_n k, 1)) (hp : pc + 1 = pc') (hl : storeLocals Ls k.val (.long x) = some l') (h : own_End p e below F (T.setTop (mkF m pc' l' st))) : own_End p e below F (T.setTop (mkF m pc Ls (.long x :: st))) := by
  subst hp; exact own_step (fun t k => XS.lstoreN X.here hx rfl (hb hby hd) rfl hl k) h
theorem own_astore (X : Stand p l e R s m args below meth c T locs cells slots) (hx : p.tables.exec = Jvm.exec) (hby : c.code = bs) {k : Nat} {x : Value} (hd : decode bs pc = .ok (.astore k, 2)) (hp : pc + 2 = pc') (hv : x.isRef = true) (hl : storeLocals Ls k x = some l') (h : own_End p e below F (T.setTop (mkF m pc' l' st))) : own_End p e below F (T.setTop (mkF m pc Ls (x :: st))) := by
  subst hp; exact own_step (fun t k => XS.astore X.here hx rfl (hb hby hd) rfl hv hl k) h
theorem own_astoreN (X : Stand p l e R s m args below meth c T locs cells slots) (hx : p.tables.exec = Jvm.exec) (hby : c.code = bs) {k : Fin 4} {x : Value} (hd : decode bs pc = .ok (.astore_n k, 1)) (hp : pc + 1 = pc') (hv : x.isRef = true) (hl : storeLocals Ls k.val x = some l') (h : own_End p e below F (T.setTop (mkF m pc' l' st))) : own_End p e below F (T.setTop (mkF m pc Ls (x :: st))) := by
  subst hp; exact own_step (fun t k => XS.astoreN X.here hx rfl (hb hby hd) rfl hv hl k) h
theorem own_iinc (X : Stand p l e R s m args below meth c T locs cells slots) (hx : p.tables.exec = Jvm.exec) (hby : c.code = bs) {k : Nat} {cst : Int} {x y : Int32} (hd : decode bs pc = .ok (.iinc k cst, 3)) (hp : pc + 3 = pc') (hl : Ls[k]? = some (.val (.int x))) (hy : x + Int32.ofInt cst = y) (hl' : storeLocals Ls k (.int y) = some l') (h : own_End p e below F (T.setTop (mkF m pc' l' st))) : own_End p e below F (T.setTop (mkF m pc Ls st)) := by
  subst hp hy; exact own_step (fun t k => XS.iinc X.here hx rfl (hb hby hd) hl hl' k) h
theorem own_iconst (X : Stand p l e R s m args below meth c T locs cells slots) (hx : p.tables.exec = Jvm.exec) (hby : c.code = bs) {i : Int} {n : Int32} (hd : decode bs pc = .ok (.iconst i, 1)) (hp : pc + 1 = pc') (hn : Int32.ofInt i = n) (h : own_End p e below F (T.setTop (mkF m pc' Ls (.int n :: st)))) : own_End p e below F (T.setTop (mkF m pc Ls st)) := by
  subst hp hn; exact own_step (fun t k => XS.iconst X.here hx rfl (hb hby hd) k) h
theorem own_bipush (X : Stand p l e R s m args below meth c T locs cells slots) (hx : p.tables.exec = Jvm.exec) (hby : c.code = bs) {i : Int} {n : Int32} (hd : decode bs pc = .ok (.bipush i, 2)) (hp : pc + 2 = pc') (hn : (Int8.ofInt i).toInt32 = n) (h : own_End p e below F (T.setTop (mkF m pc' Ls (.int n :: st)))) : own_End p e below F (T.setTop (mkF m pc Ls st)) := by
  subst hp hn; exact own_step (fun t k => XS.bipush X.here hx rfl (hb hby hd) k) h
theorem own_sipush (X : Stand p l e R s m args below meth c T locs cells slots) (hx : p.tables.exec = Jvm.exec) (hby : c.code = bs) {i : Int} {n : Int32} (hd : decode bs pc = .ok (.sipush i, 3)) (hp : pc + 3 = pc') (hn : (Int16.ofInt i).toInt32 = n) (h : own_End p e below F (T.setTop (mkF m pc' Ls (.int n :: st)))) : own_End p e below F (T.setTop (mkF m pc Ls st)) := by
  subst hp hn; exact own_step (fun t k => XS.sipush X.here hx rfl (hb hby hd) k) h
theorem own_lconst (X : Stand p l e R s m args below meth c T locs cells slots) (hx : p.tables.exec = Jvm.exec) (hby : c.code = bs) {i : Fin 2} {n : Int64} (hd : decode bs pc = .ok (.lconst i, 1)) (hp : pc + 1 = pc') (hn : Int64.ofNat i.val = n) (h : own_End p e below F (T.setTop (mkF m pc' Ls (.long n :: st)))) : own_End p e below F (T.setTop (mkF m pc Ls st)) := by
  subst hp hn; exact own_step (fun t k => XS.lconst X.here hx rfl (hb hby hd) k) h
theorem own_aconst_null (X : Stand p l e R s m args below meth c T locs cells slots) (hx : p.tables.exec = Jvm.exec) (hby : c.code = bs) (hd : decode bs pc = .ok (.aconst_null, 1)) (hp : pc + 1 = pc') (h : own_End p e below F (T.setTop (mkF m pc' Ls (.null :: st)))) : own_End p e below F (T.setTop (mkF m pc Ls st)) := by
  subst hp; exact own_step (fun t k => XS.aconstNull X.here hx rfl (hb hby hd) k) h
theorem own_goto (X : Stand p l e R s m args below meth c T locs cells slots) (hx : p.tables.exec = Jvm.exec) (hby : c.code = bs) {o : Int} (hd : decode bs pc = .ok (.goto o, 3)) (ho : 0 ≤ (pc : Int) + o) (hp : ((pc : Int) + o).toNat = pc') (h : own_End p e below F (T.setTop (mkF m pc' Ls st))) : own_End p e below F (T.setTop (mkF m pc Ls st)) :=
  own_step (fun t k => XS.goto X.here hx rfl (pc0 := pc) (pc' := pc') rfl (hb hby hd) ho hp k) h
theorem own_dup (X : Stand p l e R s m args below meth c T locs cells slots) (hx : p.tables.exec = Jvm.exec) (hby : c.code = bs) {x : Value} (hd : decode bs pc = .ok (.dup, 1)) (hp : pc + 1 = pc') (hc : x.category = 1) (h : own_End p e below F (T.setTop (mkF m pc' Ls (x :: x :: st)))) : own_End p e below F (T.setTop (mkF m pc Ls (x :: st))) := by
  subst hp; exact own_step (fun t k => XS.dup X.here hx rfl (hb hby hd) rfl hc k) h
theorem own_dup_x1 (X : Stand p l e R s m args below meth c T locs cells slots) (hx : p.tables.exec = Jvm.exec) (hby : c.code = bs) {x y : Value} (hd : decode bs pc = .ok (.dup_x1, 1)) (hp : pc + 1 = pc') (hc : x.category = 1) (hc2 : y.category = 1) (h : own_End p e below F (T.setTop (mkF m pc' Ls (x :: y :: x :: st)))) : own_End p e below F (T.setTop (mkF m pc Ls (x :: y :: st))) := by
  subst hp; exact own_step (fun t k => XS.dupX1 X.here hx rfl (hb hby hd) rfl hc hc2 k) h
theorem own_pop (X : Stand p l e R s m args below meth c T locs cells slots) (hx : p.tables.exec = Jvm.exec) (hby : c.code = bs) {x : Value} (hd : decode bs pc = .ok (.pop, 1)) (hp : pc + 1 = pc') (hc : x.category = 1) (h : own_End p e below F (T.setTop (mkF m pc' Ls st))) : own_End p e below F (T.setTop (mkF m pc Ls (x :: st))) := by
  subst hp; exact own_step (fun t k => XS.pop X.here hx rfl (hb hby hd) rfl hc k) h
theorem own_pop2 (X : Stand p l e R s m args below meth c T locs cells slots) (hx : p.tables.exec = Jvm.exec) (hby : c.code = bs) {x : Int64} (hd : decode bs pc = .ok (.pop2, 1)) (hp : pc + 1 = pc') (h : own_End p e below F (T.setTop (mkF m pc' Ls st))) : own_End p e below F (T.setTop (mkF m pc Ls (.long x :: st))) := by
  subst hp
  refine own_step (fun t k => ?_) h
  have hd' := hb hby hd
  have hc : (Value.long x).category = 2 := rfl
  jvm_step X.here [X.here.top, hx, hd', Op.pop2.wp_sem, hc]
  exact k
theorem own_iadd (X : Stand p l e R s m args below meth c T locs cells slots) (hx : p.tables.exec = Jvm.exec) (hby : c.code = bs) {x y : Int32} (hd : decode bs pc = .ok (.iadd, 1)) (hp : pc + 1 = pc') (h : own_End p e below F (T.setTop (mkF m pc' Ls (.int (x + y) :: st)))) : own_End p e below F (T.setTop (mkF m pc Ls (.int y :: .int x :: st))) := by
  subst hp; exact own_step (fun t k => XS.iadd X.here hx rfl (hb hby hd) rfl k) h
theorem own_isub (X : Stand p l e R s m args below meth c T locs cells slots) (hx : p.tables.exec = Jvm.exec) (hby : c.code = bs) {x y : Int32} (hd : decode bs pc = .ok (.isub, 1)) (hp : pc + 1 = pc') (h : own_End p e below F (T.setTop (mkF m pc' Ls (.int (x - y) :: st)))) : own_End p e below F (T.setTop (mkF m pc Ls (.int y :: .int x :: st))) := by
  subst hp; exact own_step (fun t k => XS.isub X.here hx rfl (hb hby hd) rfl k) h
theorem own_imul (X : Stand p l e R s m args below meth c T locs cells slots) (hx : p.tables.exec = Jvm.exec) (hby : c.code = bs) {x y : Int32} (hd : decode bs pc = .ok (.imul, 1)) (hp : pc + 1 = pc') (h : own_End p e below F (T.setTop (mkF m pc' Ls (.int (x * y) :: st)))) : own_End p e below F (T.setTop (mkF m pc Ls (.int y :: .int x :: st))) := by
  subst hp; exact own_step (fun t k => XS.imul X.here hx rfl (hb hby hd) rfl k) h
theorem own_iand (X : Stand p l e R s m args below meth c T locs cells slots) (hx : p.tables.exec = Jvm.exec) (hby : c.code = bs) {x y : Int32} (hd : decode bs pc = .ok (.iand, 1)) (hp : pc + 1 = pc') (h : own_End p e below F (T.setTop (mkF m pc' Ls (.int (x &&& y) :: st)))) : own_End p e below F (T.setTop (mkF m pc Ls (.int y :: .int x :: st))) := by
  subst hp; exact own_step (fun t k => XS.iand X.here hx rfl (hb hby hd) rfl k) h
theorem own_ior (X : Stand p l e R s m args below meth c T locs cells slots) (hx : p.tables.exec = Jvm.exec) (hby : c.code = bs) {x y : Int32} (hd : decode bs pc = .ok (.ior, 1)) (hp : pc + 1 = pc') (h : own_End p e below F (T.setTop (mkF m pc' Ls (.int (x ||| y) :: st)))) : own_End p e below F (T.setTop (mkF m pc Ls (.int y :: .int x :: st))) := by
  subst hp; exact own_step (fun t k => XS.ior X.here hx rfl (hb hby hd) rfl k) h
theorem own_ixor (X : Stand p l e R s m args below meth c T locs cells slots) (hx : p.tables.exec = Jvm.exec) (hby : c.code = bs) {x y : Int32} (hd : decode bs pc = .ok (.ixor, 1)) (hp : pc + 1 = pc') (h : own_End p e below F (T.setTop (mkF m pc' Ls (.int (x ^^^ y) :: st)))) : own_End p e below F (T.setTop (mkF m pc Ls (.int y :: .int x :: st))) := by
  subst hp; exact own_step (fun t k => XS.ixor X.here hx rfl (hb hby hd) rfl k) h
theorem own_ladd (X : Stand p l e R s m args below meth c T locs cells slots) (hx : p.tables.exec = Jvm.exec) (hby : c.code = bs) {x y : Int64} (hd : decode bs pc = .ok (.ladd, 1)) (hp : pc + 1 = pc') (h : own_End p e below F (T.setTop (mkF m pc' Ls (.long (x + y) :: st)))) : own_End p e below F (T.setTop (mkF m pc Ls (.long y :: .long x :: st))) := by
  subst hp; exact own_step (fun t k => XS.ladd X.here hx rfl (hb hby hd) rfl k) h
theorem own_lsub (X : Stand p l e R s m args below meth c T locs cells slots) (hx : p.tables.exec = Jvm.exec) (hby : c.code = bs) {x y : Int64} (hd : decode bs pc = .ok (.lsub, 1)) (hp : pc + 1 = pc') (h : own_End p e below F (T.setTop (mkF m pc' Ls (.long (x - y) :: st)))) : own_End p e below F (T.setTop (mkF m pc Ls (.long y :: .long x :: st))) := by
  subst hp; exact own_step (fun t k => XS.lsub X.here hx rfl (hb hby hd) rfl k) h
theorem own_lmul (X : Stand p l e R s m args below meth c T locs cells slots) (hx : p.tables.exec = Jvm.exec) (hby : c.code = bs) {x y : Int64} (hd : decode bs pc = .ok (.lmul, 1)) (hp : pc + 1 = pc') (h : own_End p e below F (T.setTop (mkF m pc' Ls (.long (x * y) :: st)))) : own_End p e below F (T.setTop (mkF m pc Ls (.long y :: .long x :: st))) := by
  subst hp; exact own_step (fun t k => XS.lmul X.here hx rfl (hb hby hd) rfl k) h
theorem own_land (X : Stand p l e R s m args below meth c T locs cells slots) (hx : p.tables.exec = Jvm.exec) (hby : c.code = bs) {x y : Int64} (hd : decode bs pc = .ok (.land, 1)) (hp : pc + 1 = pc') (h : own_End p e below F (T.setTop (mkF m pc' Ls (.long (x &&& y) :: st)))) : own_End p e below F (T.setTop (mkF m pc Ls (.long y :: .long x :: st))) := by
  subst hp; exact own_step (fun t k => XS.land X.here hx rfl (hb hby hd) rfl k) h
theorem own_lor (X : Stand p l e R s m args below meth c T locs cells slots) (hx : p.tables.exec = Jvm.exec) (hby : c.code = bs) {x y : Int64} (hd : decode bs pc = .ok (.lor, 1)) (hp : pc + 1 = pc') (h : own_End p e below F (T.setTop (mkF m pc' Ls (.long (x ||| y) :: st)))) : own_End p e below F (T.setTop (mkF m pc Ls (.long y :: .long x :: st))) := by
  subst hp; exact own_step (fun t k => XS.lor X.here hx rfl (hb hby hd) rfl k) h
theorem own_lxor (X : Stand p l e R s m args below meth c T locs cells slots) (hx : p.tables.exec = Jvm.exec) (hby : c.code = bs) {x y : Int64} (hd : decode bs pc = .ok (.lxor, 1)) (hp : pc + 1 = pc') (h : own_End p e below F (T.setTop (mkF m pc' Ls (.long (x ^^^ y) :: st)))) : own_End p e below F (T.setTop (mkF m pc Ls (.long y :: .long x :: st))) := by
  subst hp; exact own_step (fun t k => XS.lxor X.here hx rfl (hb hby hd) rfl k) h
theorem own_ishl (X : Stand p l e R s m args below meth c T locs cells slots) (hx : p.tables.exec = Jvm.exec) (hby : c.code = bs) {x y : Int32} (hd : decode bs pc = .ok (.ishl, 1)) (hp : pc + 1 = pc') (h : own_End p e below F (T.setTop (mkF m pc' Ls (.int (x <<< (y &&& 31)) :: st)))) : own_End p e below F (T.setTop (mkF m pc Ls (.int y :: .int x :: st))) := by
  subst hp; exact own_step (fun t k => XS.ishl X.here hx rfl (hb hby hd) rfl k) h
theorem own_ishr (X : Stand p l e R s m args below meth c T locs cells slots) (hx : p.tables.exec = Jvm.exec) (hby : c.code = bs) {x y : Int32} (hd : decode bs pc = .ok (.ishr, 1)) (hp : pc + 1 = pc') (h : own_End p e below F (T.setTop (mkF m pc' Ls (.int (x >>> (y &&& 31)) :: st)))) : own_End p e below F (T.setTop (mkF m pc Ls (.int y :: .int x :: st))) := by
  subst hp; exact own_step (fun t k => XS.ishr X.here hx rfl (hb hby hd) rfl k) h
theorem own_iushr (X : Stand p l e R s m args below meth c T locs cells slots) (hx : p.tables.exec = Jvm.exec) (hby : c.code = bs) {x y : Int32} (hd : decode bs pc = .ok (.iushr, 1)) (hp : pc + 1 = pc') (h : own_End p e below F (T.setTop (mkF m pc' Ls (.int ((x.toUInt32 >>> (y &&& 31).toUInt32).toInt32) :: st)))) : own_End p e below F (T.setTop (mkF m pc Ls (.int y :: .int x :: st))) := by
  subst hp; exact own_step (fun t k => XS.iushr X.here hx rfl (hb hby hd) rfl k) h
theorem own_lshl (X : Stand p l e R s m args below meth c T locs cells slots) (hx : p.tables.exec = Jvm.exec) (hby : c.code = bs) {x : Int64} {y : Int32} (hd : decode bs pc = .ok (.lshl, 1)) (hp : pc + 1 = pc') (h : own_End p e below F (T.setTop (mkF m pc' Ls (.long (x <<< (y &&& 0x3f).toInt64) :: st)))) : own_End p e below F (T.setTop (mkF m pc Ls (.int y :: .long x :: st))) := by
  subst hp; exact own_step (fun t k => XS.lshl X.here hx rfl (hb hby hd) rfl k) h
theorem own_lshr (X : Stand p l e R s m args below meth c T locs cells slots) (hx : p.tables.exec = Jvm.exec) (hby : c.code = bs) {x : Int64} {y : Int32} (hd : decode bs pc = .ok (.lshr, 1)) (hp : pc + 1 = pc') (h : own_End p e below F (T.setTop (mkF m pc' Ls (.long (x >>> (y &&& 0x3f).toInt64) :: st)))) : own_End p e below F (T.setTop (mkF m pc Ls (.int y :: .long x :: st))) := by
  subst hp; exact own_step (fun t k => XS.lshr X.here hx rfl (hb hby hd) rfl k) h
theorem own_lushr (X : Stand p l e R s m args below meth c T locs cells slots) (hx : p.tables.exec = Jvm.exec) (hby : c.code = bs) {x : Int64} {y : Int32} (hd : decode bs pc = .ok (.lushr, 1)) (hp : pc + 1 = pc') (h : own_End p e below F (T.setTop (mkF m pc' Ls (.long ((x.toUInt64 >>> (y &&& 0x3f).toInt64.toUInt64).toInt64) :: st)))) : own_End p e below F (T.setTop (mkF m pc Ls (.int y :: .long x :: st))) := by
  subst hp; exact own_step (fun t k => XS.lushr X.here hx rfl (hb hby hd) rfl k) h
theorem own_lcmp (X : Stand p l e R s m args below meth c T locs cells slots) (hx : p.tables.exec = Jvm.exec) (hby : c.code = bs) {x y : Int64} (hd : decode bs pc = .ok (.lcmp, 1)) (hp : pc + 1 = pc') (h : own_End p e below F (T.setTop (mkF m pc' Ls (.int (lcmpW x y) :: st)))) : own_End p e below F (T.setTop (mkF m pc Ls (.long y :: .long x :: st))) := by
  subst hp; exact own_step (fun t k => XS.lcmp X.here hx rfl (hb hby hd) rfl k) h
theorem own_ineg (X : Stand p l e R s m args below meth c T locs cells slots) (hx : p.tables.exec = Jvm.exec) (hby : c.code = bs) {x : Int32} (hd : decode bs pc = .ok (.ineg, 1)) (hp : pc + 1 = pc') (h : own_End p e below F (T.setTop (mkF m pc' Ls (.int (-x) :: st)))) : own_End p e below F (T.setTop (mkF m pc Ls (.int x :: st))) := by
  subst hp; exact own_step (fun t k => XS.ineg X.here hx rfl (hb hby hd) rfl k) h
theorem own_i2b (X : Stand p l e R s m args below meth c T locs cells slots) (hx : p.tables.exec = Jvm.exec) (hby : c.code = bs) {x : Int32} (hd : decode bs pc = .ok (.i2b, 1)) (hp : pc + 1 = pc') (h : own_End p e below F (T.setTop (mkF m pc' Ls (.int (x.toInt8.toInt32) :: st)))) : own_End p e below F (T.setTop (mkF m pc Ls (.int x :: st))) := by
  subst hp; exact own_step (fun t k => XS.i2b X.here hx rfl (hb hby hd) rfl k) h
theorem own_i2s (X : Stand p l e R s m args below meth c T locs cells slots) (hx : p.tables.exec = Jvm.exec) (hby : c.code = bs) {x : Int32} (hd : decode bs pc = .ok (.i2s, 1)) (hp : pc + 1 = pc') (h : own_End p e below F (T.setTop (mkF m pc' Ls (.int (x.toInt16.toInt32) :: st)))) : own_End p e below F (T.setTop (mkF m pc Ls (.int x :: st))) := by
  subst hp; exact own_step (fun t k => XS.i2s X.here hx rfl (hb hby hd) rfl k) h
theorem own_i2c (X : Stand p l e R s m args below meth c T locs cells slots) (hx : p.tables.exec = Jvm.exec) (hby : c.code = bs) {x : Int32} (hd : decode bs pc = .ok (.i2c, 1)) (hp : pc + 1 = pc') (h : own_End p e below F (T.setTop (mkF m pc' Ls (.int (x.toUInt32.toUInt16.toUInt32.toInt32) :: st)))) : own_End p e below F (T.setTop (mkF m pc Ls (.int x :: st))) := by
  subst hp; exact own_step (fun t k => XS.i2c X.here hx rfl (hb hby hd) rfl k) h
theorem own_i2l (X : Stand p l e R s m args below meth c T locs cells slots) (hx : p.tables.exec = Jvm.exec) (hby : c.code = bs) {x : Int32} (hd : decode bs pc = .ok (.i2l, 1)) (hp : pc + 1 = pc') (h : own_End p e below F (T.setTop (mkF m pc' Ls (.long (x.toInt64) :: st)))) : own_End p e below F (T.setTop (mkF m pc Ls (.int x :: st))) := by
  subst hp; exact own_step (fun t k => XS.i2l X.here hx rfl (hb hby hd) rfl k) h
theorem own_lneg (X : Stand p l e R s m args below meth c T locs cells slots) (hx : p.tables.exec = Jvm.exec) (hby : c.code = bs) {x : Int64} (hd : decode bs pc = .ok (.lneg, 1)) (hp : pc + 1 = pc') (h : own_End p e below F (T.setTop (mkF m pc' Ls (.long (-x) :: st)))) : own_End p e below F (T.setTop (mkF m pc Ls (.long x :: st))) := by
  subst hp; exact own_step (fun t k => XS.lneg X.here hx rfl (hb hby hd) rfl k) h
theorem own_l2i (X : Stand p l e R s m args below meth c T locs cells slots) (hx : p.tables.exec = Jvm.exec) (hby : c.code = bs) {x : Int64} (hd : decode bs pc = .ok (.l2i, 1)) (hp : pc + 1 = pc') (h : own_End p e below F (T.setTop (mkF m pc' Ls (.int (x.toInt32) :: st)))) : own_End p e below F (T.setTop (mkF m pc Ls (.long x :: st))) := by
  subst hp; exact own_step (fun t k => XS.l2i X.here hx rfl (hb hby hd) rfl k) h
theorem own_idiv (X : Stand p l e R s m args below meth c T locs cells slots) (hx : p.tables.exec = Jvm.exec) (hby : c.code = bs) {x y : Int32} (hd : decode bs pc = .ok (.idiv, 1)) (hp : pc + 1 = pc') (hy : ¬ y = 0) (h : own_End p e below F (T.setTop (mkF m pc' Ls (.int (x / y) :: st)))) : own_End p e below F (T.setTop (mkF m pc Ls (.int y :: .int x :: st))) := by
  subst hp; exact own_step (fun t k => XS.idiv X.here hx rfl (hb hby hd) rfl hy k) h
theorem own_irem (X : Stand p l e R s m args below meth c T locs cells slots) (hx : p.tables.exec = Jvm.exec) (hby : c.code = bs) {x y : Int32} (hd : decode bs pc = .ok (.irem, 1)) (hp : pc + 1 = pc') (hy : ¬ y = 0) (h : own_End p e below F (T.setTop (mkF m pc' Ls (.int (x % y) :: st)))) : own_End p e below F (T.setTop (mkF m pc Ls (.int y :: .int x :: st))) := by
  subst hp; exact own_step (fun t k => iremM X hx rfl (hb hby hd) rfl hy k) h
theorem own_ldiv (X : Stand p l e R s m args below meth c T locs cells slots) (hx : p.tables.exec = Jvm.exec) (hby : c.code = bs) {x y : Int64} (hd : decode bs pc = .ok (.ldiv, 1)) (hp : pc + 1 = pc') (hy : ¬ y = 0) (h : own_End p e below F (T.setTop (mkF m pc' Ls (.long (x / y) :: st)))) : own_End p e below F (T.setTop (mkF m pc Ls (.long y :: .long x :: st))) := by
  subst hp; exact own_step (fun t k => XS.ldiv X.here hx rfl (hb hby hd) rfl hy k) h
theorem own_lrem (X : Stand p l e R s m args below meth c T locs cells slots) (hx : p.tables.exec = Jvm.exec) (hby : c.code = bs) {x y : Int64} (hd : decode bs pc = .ok (.lrem, 1)) (hp : pc + 1 = pc') (hy : ¬ y = 0) (h : own_End p e below F (T.setTop (mkF m pc' Ls (.long (x % y) :: st)))) : own_End p e below F (T.setTop (mkF m pc Ls (.long y :: .long x :: st))) := by
  subst hp; exact own_step (fun t k => XS.lrem X.here hx rfl (hb hby hd) rfl hy (by rw [lrem_mod]; exact k)) h
/-- the branch's condition, and its contrary -/
abbrev own_ct (cd : ClassFile.Cond) (x y : Int32) : Prop := match cd with | .eq => x = y | .ne => ¬ x = y | .lt => x < y | .ge => ¬ x < y | .gt => y < x | .le => ¬ y < x
abbrev own_cf (cd : ClassFile.Cond) (x y : Int32) : Prop := match cd with | .eq => ¬ x = y | .ne => x = y | .lt => ¬ x < y | .ge => x < y | .gt => ¬ y < x | .le => y < x
abbrev own_ctL (cd : ClassFile.Cond) (x y : Int64) : Prop := match cd with | .eq => x = y | .ne => ¬ x = y | .lt => x < y | .ge => ¬ x < y | .gt => y < x | .le => ¬ y < x
abbrev own_cfL (cd : ClassFile.Cond) (x y : Int64) : Prop := match cd with | .eq => ¬ x = y | .ne => x = y | .lt => ¬ x < y | .ge => x < y | .gt => ¬ y < x | .le => y < x
theorem own_ct_y {cd : ClassFile.Cond} {x y : Int32} (h : own_ct cd x y) : if_icmp.holds cd x y = true := by
  cases cd
  · exact (teq h).1
  · exact (feq h).2
  · exact (tlt h).1
  · exact (flt h).2.1
  · exact (tlt h).2.2.1
  · exact (flt h).2.2.2
theorem own_ct_n {cd : ClassFile.Cond} {x y : Int32} (h : own_cf cd x y) : if_icmp.holds cd x y = false := by
  cases cd
  · exact (feq h).1
  · exact (teq h).2
  · exact (flt h).1
  · exact (tlt h).2.1
  · exact (flt h).2.2.1
  · exact (tlt h).2.2.2
theorem own_ct_or (cd : ClassFile.Cond) (x y : Int32) : own_ct cd x y ∨ own_cf cd x y := by
  cases cd
  · exact Decidable.em _
  · exact (Decidable.em _).symm
  · exact Decidable.em _
  · exact (Decidable.em _).symm
  · exact Decidable.em _
  · exact (Decidable.em _).symm
theorem own_ctL_or (cd : ClassFile.Cond) (x y : Int64) : own_ctL cd x y ∨ own_cfL cd x y := by
  cases cd
  · exact Decidable.em _
  · exact (Decidable.em _).symm
  · exact Decidable.em _
  · exact (Decidable.em _).symm
  · exact Decidable.em _
  · exact (Decidable.em _).symm
theorem own_ctL_y {cd : ClassFile.Cond} {x y : Int64} (h : own_ctL cd x y) : own_ct cd (lcmpW x y) 0 := by
  cases cd
  · exact (lw_eq x y).mpr h
  · exact fun q => h ((lw_eq x y).mp q)
  · exact (lw_lt x y).mpr h
  · exact fun q => h ((lw_lt x y).mp q)
  · exact (lw_gt x y).mpr h
  · exact fun q => h ((lw_gt x y).mp q)
theorem own_ctL_n {cd : ClassFile.Cond} {x y : Int64} (h : own_cfL cd x y) : own_cf cd (lcmpW x y) 0 := by
  cases cd
  · exact fun q => h ((lw_eq x y).mp q)
  · exact (lw_eq x y).mpr h
  · exact fun q => h ((lw_lt x y).mp q)
  · exact (lw_lt x y).mpr h
  · exact fun q => h ((lw_gt x y).mp q)
  · exact (lw_gt x y).mpr h
theorem own_ifY (X : Stand p l e R s m args below meth c T locs cells slots) (hx : p.tables.exec = Jvm.exec) (hby : c.code = bs) {cd : ClassFile.Cond} {x : Int32} {o : Int} (hd : decode bs pc = .ok (.ifCond cd o, 3)) (ho : 0 ≤ (pc : Int) + o) (hp : ((pc : Int) + o).toNat = pc') (hc : own_ct cd x 0) (h : own_End p e below F (T.setTop (mkF m pc' Ls st))) : own_End p e below F (T.setTop (mkF m pc Ls (.int x :: st))) :=
  own_step (fun t k => XS.ifYes X.here hx rfl (pc0 := pc) (pc' := pc') rfl (hb hby hd) rfl ((if0 _ _).trans (own_ct_y hc)) ho hp k) h
theorem own_ifN (X : Stand p l e R s m args below meth c T locs cells slots) (hx : p.tables.exec = Jvm.exec) (hby : c.code = bs) {cd : ClassFile.Cond} {x : Int32} {o : Int} (hd : decode bs pc = .ok (.ifCond cd o, 3)) (hp : pc + 3 = pc') (hc : own_cf cd x 0) (h : own_End p e below F (T.setTop (mkF m pc' Ls st))) : own_End p e below F (T.setTop (mkF m pc Ls (.int x :: st))) := by
  subst hp; exact own_step (fun t k => XS.ifNo X.here hx rfl (hb hby hd) rfl ((if0 _ _).trans (own_ct_n hc)) k) h
theorem own_icY (X : Stand p l e R s m args below meth c T locs cells slots) (hx : p.tables.exec = Jvm.exec) (hby : c.code = bs) {cd : ClassFile.Cond} {x y : Int32} {o : Int} (hd : decode bs pc = .ok (.if_icmp cd o, 3)) (ho : 0 ≤ (pc : Int) + o) (hp : ((pc : Int) + o).toNat = pc') (hc : own_ct cd x y) (h : own_End p e below F (T.setTop (mkF m pc' Ls st))) : own_End p e below F (T.setTop (mkF m pc Ls (.int y :: .int x :: st))) :=
  own_step (fun t k => XS.icmpYes X.here hx rfl (pc0 := pc) (pc' := pc') rfl (hb hby hd) rfl (own_ct_y hc) ho hp k) h
theorem own_icN (X : Stand p l e R s m args below meth c T locs cells slots) (hx : p.tables.exec = Jvm.exec) (hby : c.code = bs) {cd : ClassFile.Cond} {x y : Int32} {o : Int} (hd : decode bs pc = .ok (.if_icmp cd o, 3)) (hp : pc + 3 = pc') (hc : own_cf cd x y) (h : own_End p e below F (T.setTop (mkF m pc' Ls st))) : own_End p e below F (T.setTop (mkF m pc Ls (.int y :: .int x :: st))) := by
  subst hp; exact own_step (fun t k => XS.icmpNo X.here hx rfl (hb hby hd) rfl (own_ct_n hc) k) h
theorem own_if2 (X : Stand p l e R s m args below meth c T locs cells slots) (hx : p.tables.exec = Jvm.exec) (hby : c.code = bs) {cd : ClassFile.Cond} {x : Int32} {o : Int} {pc1 pc2 : Nat} (hd : decode bs pc = .ok (.ifCond cd o, 3)) (ho : 0 ≤ (pc : Int) + o) (hp : ((pc : Int) + o).toNat = pc1) (hp2 : pc + 3 = pc2) (h1 : own_ct cd x 0 → own_End p e below F (T.setTop (mkF m pc1 Ls st))) (h2 : own_cf cd x 0 → own_End p e below F (T.setTop (mkF m pc2 Ls st))) : own_End p e below F (T.setTop (mkF m pc Ls (.int x :: st))) :=
  (own_ct_or cd x 0).elim (fun q => own_ifY X hx hby hd ho hp q (h1 q)) (fun q => own_ifN X hx hby hd hp2 q (h2 q))
theorem own_ic2 (X : Stand p l e R s m args below meth c T locs cells slots) (hx : p.tables.exec = Jvm.exec) (hby : c.code = bs) {cd : ClassFile.Cond} {x y : Int32} {o : Int} {pc1 pc2 : Nat} (hd : decode bs pc = .ok (.if_icmp cd o, 3)) (ho : 0 ≤ (pc : Int) + o) (hp : ((pc : Int) + o).toNat = pc1) (hp2 : pc + 3 = pc2) (h1 : own_ct cd x y → own_End p e below F (T.setTop (mkF m pc1 Ls st))) (h2 : own_cf cd x y → own_End p e below F (T.setTop (mkF m pc2 Ls st))) : own_End p e below F (T.setTop (mkF m pc Ls (.int y :: .int x :: st))) :=
  (own_ct_or cd x y).elim (fun q => own_icY X hx hby hd ho hp q (h1 q)) (fun q => own_icN X hx hby hd hp2 q (h2 q))
theorem own_ifL2 (X : Stand p l e R s m args below meth c T locs cells slots) (hx : p.tables.exec = Jvm.exec) (hby : c.code = bs) {cd : ClassFile.Cond} {x y : Int64} {o : Int} {pc1 pc2 : Nat} (hd : decode bs pc = .ok (.ifCond cd o, 3)) (ho : 0 ≤ (pc : Int) + o) (hp : ((pc : Int) + o).toNat = pc1) (hp2 : pc + 3 = pc2) (h1 : own_ctL cd x y → own_End p e below F (T.setTop (mkF m pc1 Ls st))) (h2 : own_cfL cd x y → own_End p e below F (T.setTop (mkF m pc2 Ls st))) : own_End p e below F (T.setTop (mkF m pc Ls (.int (lcmpW x y) :: st))) :=
  (own_ctL_or cd x y).elim (fun q => own_ifY X hx hby hd ho hp (own_ctL_y q) (h1 q)) (fun q => own_ifN X hx hby hd hp2 (own_ctL_n q) (h2 q))
theorem own_ifnullY (X : Stand p l e R s m args below meth c T locs cells slots) (hx : p.tables.exec = Jvm.exec) (hby : c.code = bs) {o : Int} (hd : decode bs pc = .ok (.ifnull o, 3)) (ho : 0 ≤ (pc : Int) + o) (hp : ((pc : Int) + o).toNat = pc') (h : own_End p e below F (T.setTop (mkF m pc' Ls st))) : own_End p e below F (T.setTop (mkF m pc Ls (.null :: st))) :=
  own_step (fun t k => XS.ifnullYes X.here hx rfl (pc0 := pc) (pc' := pc') rfl (hb hby hd) rfl ho hp k) h
theorem own_ifnullN (X : Stand p l e R s m args below meth c T locs cells slots) (hx : p.tables.exec = Jvm.exec) (hby : c.code = bs) {o : Int} {b : Addr} (hd : decode bs pc = .ok (.ifnull o, 3)) (hp : pc + 3 = pc') (h : own_End p e below F (T.setTop (mkF m pc' Ls st))) : own_End p e below F (T.setTop (mkF m pc Ls (.ref b :: st))) := by
  subst hp; exact own_step (fun t k => XS.ifnullNo X.here hx rfl (hb hby hd) rfl k) h
theorem own_ifnonnullY (X : Stand p l e R s m args below meth c T locs cells slots) (hx : p.tables.exec = Jvm.exec) (hby : c.code = bs) {o : Int} {b : Addr} (hd : decode bs pc = .ok (.ifnonnull o, 3)) (ho : 0 ≤ (pc : Int) + o) (hp : ((pc : Int) + o).toNat = pc') (h : own_End p e below F (T.setTop (mkF m pc' Ls st))) : own_End p e below F (T.setTop (mkF m pc Ls (.ref b :: st))) :=
  own_step (fun t k => XS.ifnonnullYes X.here hx rfl (pc0 := pc) (pc' := pc') rfl (hb hby hd) rfl ho hp k) h
theorem own_ifnonnullN (X : Stand p l e R s m args below meth c T locs cells slots) (hx : p.tables.exec = Jvm.exec) (hby : c.code = bs) {o : Int} (hd : decode bs pc = .ok (.ifnonnull o, 3)) (hp : pc + 3 = pc') (h : own_End p e below F (T.setTop (mkF m pc' Ls st))) : own_End p e below F (T.setTop (mkF m pc Ls (.null :: st))) := by
  subst hp; exact own_step (fun t k => XS.ifnonnullNo X.here hx rfl (hb hby hd) rfl k) h
theorem own_acmp (X : Stand p l e R s m args below meth c T locs cells slots) (hx : p.tables.exec = Jvm.exec) (hby : c.code = bs) {cd : ACond} {x y : Value} {o : Int} {same : Bool} (hd : decode bs pc = .ok (.if_acmp cd o, 3)) (h1 : x.isRef = true) (h2 : y.isRef = true) (hq : decide (x = y) = same) (ho : 0 ≤ (pc : Int) + o) (hp : pc' = if acV cd same = true then ((pc : Int) + o).toNat else pc + 3) (h : own_End p e below F (T.setTop (mkF m pc' Ls st))) : own_End p e below F (T.setTop (mkF m pc Ls (y :: x :: st))) :=
  own_step (fun t k => Jvm.RoadKit.acmp (g := mkF m pc Ls (y :: x :: st)) X hx rfl h1 h2 (pc0 := pc) (pc' := pc') (same := same) rfl (hb hby hd) rfl hq ho hp k) h
end Plain
section Words
variable {Z : State} {a0 : Array Value}
theorem own_ldcInt (X : Stand p l e R s m args below meth c T locs cells slots) (hx : p.tables.exec = Jvm.exec) (hZ : Z.Warmed39 s.vm) (hby : c.code = bs) {own : String} {index : Nat} {v : Int32} (hown : s.vm.findClass own = some m.cls) (w : (Cond.constant own index v).before a0 Z = true) (hd : decode bs pc = .ok (.ldc index, 2)) (hp : pc + 2 = pc') (h : own_End p e below F (T.setTop (mkF m pc' Ls (.int v :: st)))) : own_End p e below F (T.setTop (mkF m pc Ls st)) := by
  subst hp; exact own_step (X.ldcInt hx hown (mvT hZ w) (g := mkF m pc Ls st) rfl (hb hby hd)) h
theorem own_ldc2Long (X : Stand p l e R s m args below meth c T locs cells slots) (hx : p.tables.exec = Jvm.exec) (hZ : Z.Warmed39 s.vm) (hby : c.code = bs) {own : String} {index : Nat} {v : Int64} (hown : s.vm.findClass own = some m.cls) (w : (Cond.constantLong own index v).before a0 Z = true) (hd : decode bs pc = .ok (.ldc2_w index, 3)) (hp : pc + 3 = pc') (h : own_End p e below F (T.setTop (mkF m pc' Ls (.long v :: st)))) : own_End p e below F (T.setTop (mkF m pc Ls st)) := by
  subst hp; exact own_step (X.ldc2Long hx hown (mvT hZ w) (g := mkF m pc Ls st) rfl (hb hby hd)) h
end Words
section Heap
variable {Z : State} {a0 : Array Value} {h : Heap}
theorem own_getF (X : Stand p l e R s m args below meth c T locs cells slots) (hx : p.tables.exec = Jvm.exec) (hZ : Z.Warmed39 s.vm) (hby : c.code = bs) {own R0 O n d host : String} {index : Nat} {a : Addr} {v : Value} (hown : s.vm.findClass own = some m.cls) (w : (Cond.fieldLink own index R0 n d).before a0 Z = true ∨ (Cond.fieldLinkNest own index R0 n d host).before a0 Z = true) (via : Via Z R0 O n d) (eT : T.heap = h) (Fd : Fld Z h a O n d v) (hd : decode bs pc = .ok (.getfield index, 3)) (hp : pc + 3 = pc')
    (k : ∀ T', Stand p l e R s m args below meth c T' locs cells slots → T'.heap = h → own_End p e below F (T'.setTop (mkF m pc' Ls (v :: st)))) : own_End p e below F (T.setTop (mkF m pc Ls (.ref a :: st))) := by
  subst hp
  obtain ⟨T', X', e', stp⟩ := getF X hx hZ hown w via eT Fd (g := mkF m pc Ls (.ref a :: st)) rfl rfl (hb hby hd)
  exact own_step stp (k T' X' e')
theorem own_getS (X : Stand p l e R s m args below meth c T locs cells slots) (hx : p.tables.exec = Jvm.exec) (hZ : Z.Warmed39 s.vm) (hby : c.code = bs) {own R0 O n d host : String} {index : Nat} {v : Value} (hown : s.vm.findClass own = some m.cls) (w : (Cond.fieldLink own index R0 n d).before a0 Z = true ∨ (Cond.fieldLinkNest own index R0 n d host).before a0 Z = true) (via : Via Z R0 O n d) (eT : T.heap = h) (Fd : Sta Z h O n d v) (hd : decode bs pc = .ok (.getstatic index, 3)) (hp : pc + 3 = pc')
    (k : ∀ T', Stand p l e R s m args below meth c T' locs cells slots → T'.heap = h → own_End p e below F (T'.setTop (mkF m pc' Ls (v :: st)))) : own_End p e below F (T.setTop (mkF m pc Ls st)) := by
  subst hp
  obtain ⟨T', X', e', stp⟩ := getS2 X hx hZ hown w via eT Fd (g := mkF m pc Ls st) rfl (hb hby hd)
  exact own_step stp (k T' X' e')
theorem own_putF (X : Stand p l e R s m args below meth c T locs cells slots) (hx : p.tables.exec = Jvm.exec) (hZ : Z.Warmed39 s.vm) (hby : c.code = bs) {own R0 O n d host C : String} {index kk : Nat} {ty : FieldType} {a : Addr} {v old : Value} (hown : s.vm.findClass own = some m.cls) (w : (Cond.fieldLink own index R0 n d).before a0 Z = true ∨ (Cond.fieldLinkNest own index R0 n d host).before a0 Z = true) (via : Via Z R0 O n d) (eT : T.heap = h) (Fd : Fld Z h a O n d old) (E : Exa Z h a C)
    (La : (Cond.lays C O n d).before a0 Z = true ∨ ((Cond.laysFinal C O n d).before a0 Z = true ∧ own = O ∧ meth.name = "<init>")) (wi : (Cond.instantiable C kk).before a0 Z = true) (hty : parseFieldDescriptor d = some ty) (hn : narrow ty v = v) (hf : fits ty v = true) (hd : decode bs pc = .ok (.putfield index, 3)) (hp : pc + 3 = pc')
    (k : ∀ T' h', Stand p l e R s m args below meth c T' (locs ++ [⟨a, Jvm.RoadKit.slotOf Z O n d⟩]) cells slots → T'.heap = h' → Wr h h' a (Jvm.RoadKit.slotOf Z O n d) v → own_End p e below F (T'.setTop (mkF m pc' Ls st))) : own_End p e below F (T.setTop (mkF m pc Ls (v :: .ref a :: st))) := by
  subst hp
  obtain ⟨T', h', X', e', W', stp⟩ := putF X hx hZ hown w via eT Fd E La wi hty hn hf (g := mkF m pc Ls (v :: .ref a :: st)) rfl rfl (hb hby hd)
  exact own_step stp (k T' h' X' e' W')
theorem own_putN (X : Stand p l e R s m args below meth c T locs cells slots) (hx : p.tables.exec = Jvm.exec) (hZ : Z.Warmed39 s.vm) (hby : c.code = bs) {own R0 O n d C : String} {index kk : Nat} {ty : FieldType} {a : Addr} {v v' old : Value} (hown : s.vm.findClass own = some m.cls) (w : (Cond.fieldLink own index R0 n d).before a0 Z = true) (via : Via Z R0 O n d) (eT : T.heap = h) (Fd : Fld Z h a O n d old) (E : Exa Z h a C)
    (La : (Cond.lays C O n d).before a0 Z = true ∨ ((Cond.laysFinal C O n d).before a0 Z = true ∧ own = O ∧ meth.name = "<init>")) (wi : (Cond.instantiable C kk).before a0 Z = true) (hty : parseFieldDescriptor d = some ty) (hn : narrow ty v = v') (hf : fits ty v' = true) (hd : decode bs pc = .ok (.putfield index, 3)) (hp : pc + 3 = pc')
    (k : ∀ T' h', Stand p l e R s m args below meth c T' (locs ++ [⟨a, Jvm.RoadKit.slotOf Z O n d⟩]) cells slots → T'.heap = h' → Wr h h' a (Jvm.RoadKit.slotOf Z O n d) v' → own_End p e below F (T'.setTop (mkF m pc' Ls st))) : own_End p e below F (T.setTop (mkF m pc Ls (v :: .ref a :: st))) := by
  subst hp
  obtain ⟨T', h', X', e', W', stp⟩ := putFN X hx hZ hown w via eT Fd E La wi hty hn hf (g := mkF m pc Ls (v :: .ref a :: st)) rfl rfl (hb hby hd)
  exact own_step stp (k T' h' X' e' W')
theorem own_new (X : Stand p l e R s m args below meth c T locs cells slots) (hx : p.tables.exec = Jvm.exec) (hZ : Z.Warmed39 s.vm) (hby : c.code = bs) {own C : String} {index n : Nat} (hown : s.vm.findClass own = some m.cls) (w : (Cond.classLink own index C).before a0 Z = true) (wi : (Cond.instantiable C n).before a0 Z = true) (wz : (Cond.initialized C).before a0 Z = true) (eT : T.heap = h) (hd : decode bs pc = .ok (.new index, 3)) (hp : pc + 3 = pc') (hc : cells + 1 ≤ R.cells) (hl : slots + n ≤ R.slots)
    (k : ∀ T' h' (b : Addr), b = h.size → Stand p l e R s m args below meth c T' locs (cells + 1) (slots + n) → T'.heap = h' → Ext h h' → Exa Z h' b C → (∀ {O nm d : String} {ty : FieldType}, Laid Z a0 C O nm d → parseFieldDescriptor d = some ty → Fld Z h' b O nm d (defaultValue ty)) → own_End p e below F (T'.setTop (mkF m pc' Ls (.ref b :: st)))) : own_End p e below F (T.setTop (mkF m pc Ls st)) := by
  subst hp
  obtain ⟨T', h', X', e', E', A', D', -, stp⟩ := newO X hx hZ hown w wi wz eT (g := mkF m pc Ls st) rfl (hb hby hd) hc hl
  exact own_step stp (k T' h' h.size rfl X' e' E' A' D')
theorem own_newP (X : Stand p l e R s m args below meth c T locs cells slots) (hx : p.tables.exec = Jvm.exec) (hZ : Z.Warmed39 s.vm) (hby : c.code = bs) {aty : ArrayType} {n : Int32} {cap : Nat} (w : (Cond.arrayClass (newarray.typeOf aty)).before a0 Z = true) (eT : T.heap = h) (hd : decode bs pc = .ok (.newarray aty, 2)) (hp : pc + 2 = pc') (hn : ¬ n < 0) (hcap : n.toNatClampNeg ≤ cap) (hb' : cap * 8 ≤ 536870912) (hc : cells + 1 ≤ R.cells) (hl : slots + cap ≤ R.slots)
    (k : ∀ T' h' cA (b : Addr), b = h.size → Stand p l e R s m args below meth c T' locs (cells + 1) (slots + cap) → T'.heap = h' → Ext h h' → Arr Z h' b (newA cA (newarray.typeOf aty) n) (newarray.typeOf aty) → own_End p e below F (T'.setTop (mkF m pc' Ls (.ref b :: st)))) : own_End p e below F (T.setTop (mkF m pc Ls (.int n :: st))) := by
  subst hp
  obtain ⟨T', h', cA, X', e', E', A', stp⟩ := newP X hx hZ w eT (g := mkF m pc Ls (.int n :: st)) rfl (hb hby hd) rfl hn hcap hb' hc hl
  exact own_step stp (k T' h' cA h.size rfl X' e' E' A')
theorem own_newPE (X : Stand p l e R s m args below meth c T locs cells slots) (hx : p.tables.exec = Jvm.exec) (hZ : Z.Warmed39 s.vm) (hby : c.code = bs) {aty : ArrayType} {n : Int32} {cap : Nat} {ad : String} (had : "[" ++ (newarray.typeOf aty).toString = ad) (w : (Cond.arrayClass (newarray.typeOf aty)).before a0 Z = true) (eT : T.heap = h) (hd : decode bs pc = .ok (.newarray aty, 2)) (hp : pc + 2 = pc') (hn : ¬ n < 0) (hcap : n.toNatClampNeg ≤ cap) (hb' : cap * 8 ≤ 536870912) (hc : cells + 1 ≤ R.cells) (hl : slots + cap ≤ R.slots)
    (k : ∀ T' h' cA (b : Addr), b = h.size → Stand p l e R s m args below meth c T' locs (cells + 1) (slots + cap) → T'.heap = h' → Ext h h' → Arr Z h' b (newA cA (newarray.typeOf aty) n) (newarray.typeOf aty) → Exa Z h' b ad → own_End p e below F (T'.setTop (mkF m pc' Ls (.ref b :: st)))) : own_End p e below F (T.setTop (mkF m pc Ls (.int n :: st))) := by
  subst hp
  obtain ⟨T', h', cA, X', e', E', A', Ex', stp⟩ := newPE X hx hZ w eT (g := mkF m pc Ls (.int n :: st)) rfl (hb hby hd) rfl hn hcap hb' hc hl had
  exact own_step stp (k T' h' cA h.size rfl X' e' E' A' Ex')
theorem own_newR (X : Stand p l e R s m args below meth c T locs cells slots) (hx : p.tables.exec = Jvm.exec) (hZ : Z.Warmed39 s.vm) (hby : c.code = bs) {own C : String} {index : Nat} {n : Int32} {cap : Nat} (hown : s.vm.findClass own = some m.cls) (w1 : (Cond.classLink own index C).before a0 Z = true) (w2 : (Cond.arrayOver (.object C)).before a0 Z = true) (eT : T.heap = h) (hd : decode bs pc = .ok (.anewarray index, 3)) (hp : pc + 3 = pc') (hn : ¬ n < 0) (hcap : n.toNatClampNeg ≤ cap) (hb' : cap * 8 ≤ 536870912) (hc : cells + 1 ≤ R.cells) (hl : slots + cap ≤ R.slots)
    (k : ∀ T' h' cA (b : Addr), b = h.size → Stand p l e R s m args below meth c T' locs (cells + 1) (slots + cap) → T'.heap = h' → Ext h h' → Arr Z h' b (newA cA (.object C) n) (.object C) → Ovr Z cA C → own_End p e below F (T'.setTop (mkF m pc' Ls (.ref b :: st)))) : own_End p e below F (T.setTop (mkF m pc Ls (.int n :: st))) := by
  subst hp
  obtain ⟨T', h', cA, X', e', E', A', O', stp⟩ := newR X hx hZ hown w1 w2 eT (g := mkF m pc Ls (.int n :: st)) rfl (hb hby hd) rfl hn hcap hb' hc hl
  exact own_step stp (k T' h' cA h.size rfl X' e' E' A' O')
theorem own_iastore (X : Stand p l e R s m args below meth c T locs cells slots) (hx : p.tables.exec = Jvm.exec) (hZ : Z.Warmed39 s.vm) (hby : c.code = bs) {a : Addr} {cl : Cell} (eT : T.heap = h) (A : Arr Z h a cl .int) {j : Int32} {x : Int32} (hj : ¬ (j < 0 ∨ cl.slots.size ≤ j.toNatClampNeg)) (hd : decode bs pc = .ok (.iastore, 1)) (hp : pc + 1 = pc')
    (k : ∀ T' h', Stand p l e R s m args below meth c T' (locs ++ [⟨a, j.toNatClampNeg⟩]) cells slots → T'.heap = h' → Wr h h' a j.toNatClampNeg (.int x) → own_End p e below F (T'.setTop (mkF m pc' Ls st))) : own_End p e below F (T.setTop (mkF m pc Ls (.int x :: .int j :: .ref a :: st))) := by
  subst hp
  obtain ⟨T', h', X', e', W', stp⟩ := stI X hx hZ eT A hj (g := mkF m pc Ls (.int x :: .int j :: .ref a :: st)) rfl rfl (hb hby hd)
  exact own_step stp (k T' h' X' e' W')
theorem own_lastore (X : Stand p l e R s m args below meth c T locs cells slots) (hx : p.tables.exec = Jvm.exec) (hZ : Z.Warmed39 s.vm) (hby : c.code = bs) {a : Addr} {cl : Cell} (eT : T.heap = h) (A : Arr Z h a cl .long) {j : Int32} {x : Int64} (hj : ¬ (j < 0 ∨ cl.slots.size ≤ j.toNatClampNeg)) (hd : decode bs pc = .ok (.lastore, 1)) (hp : pc + 1 = pc')
    (k : ∀ T' h', Stand p l e R s m args below meth c T' (locs ++ [⟨a, j.toNatClampNeg⟩]) cells slots → T'.heap = h' → Wr h h' a j.toNatClampNeg (.long x) → own_End p e below F (T'.setTop (mkF m pc' Ls st))) : own_End p e below F (T.setTop (mkF m pc Ls (.long x :: .int j :: .ref a :: st))) := by
  subst hp
  obtain ⟨T', h', X', e', W', stp⟩ := stJ X hx hZ eT A hj (g := mkF m pc Ls (.long x :: .int j :: .ref a :: st)) rfl rfl (hb hby hd)
  exact own_step stp (k T' h' X' e' W')
theorem own_castore (X : Stand p l e R s m args below meth c T locs cells slots) (hx : p.tables.exec = Jvm.exec) (hZ : Z.Warmed39 s.vm) (hby : c.code = bs) {a : Addr} {cl : Cell} (eT : T.heap = h) (A : Arr Z h a cl .char) {j : Int32} {x : Int32} (hj : ¬ (j < 0 ∨ cl.slots.size ≤ j.toNatClampNeg)) (hd : decode bs pc = .ok (.castore, 1)) (hp : pc + 1 = pc')
    (k : ∀ T' h', Stand p l e R s m args below meth c T' (locs ++ [⟨a, j.toNatClampNeg⟩]) cells slots → T'.heap = h' → Wr h h' a j.toNatClampNeg (.int (nar .char x)) → own_End p e below F (T'.setTop (mkF m pc' Ls st))) : own_End p e below F (T.setTop (mkF m pc Ls (.int x :: .int j :: .ref a :: st))) := by
  subst hp
  obtain ⟨T', h', X', e', W', stp⟩ := stC X hx hZ eT A hj (g := mkF m pc Ls (.int x :: .int j :: .ref a :: st)) rfl rfl (hb hby hd)
  exact own_step stp (k T' h' X' e' W')
theorem own_bastore (X : Stand p l e R s m args below meth c T locs cells slots) (hx : p.tables.exec = Jvm.exec) (hZ : Z.Warmed39 s.vm) (hby : c.code = bs) {a : Addr} {cl : Cell} (eT : T.heap = h) (A : Arr Z h a cl .byte) {j : Int32} {x : Int32} (hj : ¬ (j < 0 ∨ cl.slots.size ≤ j.toNatClampNeg)) (hd : decode bs pc = .ok (.bastore, 1)) (hp : pc + 1 = pc')
    (k : ∀ T' h', Stand p l e R s m args below meth c T' (locs ++ [⟨a, j.toNatClampNeg⟩]) cells slots → T'.heap = h' → Wr h h' a j.toNatClampNeg (.int (nar .byte x)) → own_End p e below F (T'.setTop (mkF m pc' Ls st))) : own_End p e below F (T.setTop (mkF m pc Ls (.int x :: .int j :: .ref a :: st))) := by
  subst hp
  obtain ⟨T', h', X', e', W', stp⟩ := stB X hx hZ eT A hj (g := mkF m pc Ls (.int x :: .int j :: .ref a :: st)) rfl rfl (hb hby hd)
  exact own_step stp (k T' h' X' e' W')
theorem own_stR (X : Stand p l e R s m args below meth c T locs cells slots) (hx : p.tables.exec = Jvm.exec) (hZ : Z.Warmed39 s.vm) (hby : c.code = bs) {a : Addr} {cl : Cell} {ty : FieldType} (eT : T.heap = h) (A : Arr Z h a cl ty) {j : Int32} {v : Value} (hj : ¬ (j < 0 ∨ cl.slots.size ≤ j.toNatClampNeg)) (hty : ty.isReference = true) (S : Sto Z h a v) (hd : decode bs pc = .ok (.aastore, 1)) (hp : pc + 1 = pc')
    (k : ∀ T' h', Stand p l e R s m args below meth c T' (locs ++ [⟨a, j.toNatClampNeg⟩]) cells slots → T'.heap = h' → Wr h h' a j.toNatClampNeg v → own_End p e below F (T'.setTop (mkF m pc' Ls st))) : own_End p e below F (T.setTop (mkF m pc Ls (v :: .int j :: .ref a :: st))) := by
  subst hp
  obtain ⟨T', h', X', e', W', stp⟩ := stR X hx hZ eT A hj hty S (g := mkF m pc Ls (v :: .int j :: .ref a :: st)) rfl rfl (hb hby hd)
  exact own_step stp (k T' h' X' e' W')
theorem own_iaload (X : Stand p l e R s m args below meth c T locs cells slots) (hx : p.tables.exec = Jvm.exec) (hZ : Z.Warmed39 s.vm) (hby : c.code = bs) {a : Addr} {cl : Cell} (eT : T.heap = h) (A : Arr Z h a cl .int) {j : Int32} {v : Value} (hj : ¬ (j < 0 ∨ cl.slots.size ≤ j.toNatClampNeg)) (hv : cl.slots[j.toNatClampNeg]? = some v) (hd : decode bs pc = .ok (.iaload, 1)) (hp : pc + 1 = pc') (k : own_End p e below F (T.setTop (mkF m pc' Ls (v :: st)))) : own_End p e below F (T.setTop (mkF m pc Ls (.int j :: .ref a :: st))) := by
  subst hp
  exact own_step (fun t q => X.iaload hx (j := j) (v := v) (by rw [eT]; exact A.1) (State.isArrayOf_alike hZ.alike A.2.1) A.2.2 hj hv (g := mkF m pc Ls (.int j :: .ref a :: st)) rfl rfl (hb hby hd) _ q) k
theorem own_laload (X : Stand p l e R s m args below meth c T locs cells slots) (hx : p.tables.exec = Jvm.exec) (hZ : Z.Warmed39 s.vm) (hby : c.code = bs) {a : Addr} {cl : Cell} (eT : T.heap = h) (A : Arr Z h a cl .long) {j : Int32} {v : Value} (hj : ¬ (j < 0 ∨ cl.slots.size ≤ j.toNatClampNeg)) (hv : cl.slots[j.toNatClampNeg]? = some v) (hd : decode bs pc = .ok (.laload, 1)) (hp : pc + 1 = pc') (k : own_End p e below F (T.setTop (mkF m pc' Ls (v :: st)))) : own_End p e below F (T.setTop (mkF m pc Ls (.int j :: .ref a :: st))) := by
  subst hp
  exact own_step (fun t q => X.laload hx (j := j) (v := v) (by rw [eT]; exact A.1) (State.isArrayOf_alike hZ.alike A.2.1) A.2.2 hj hv (g := mkF m pc Ls (.int j :: .ref a :: st)) rfl rfl (hb hby hd) _ q) k
theorem own_caload (X : Stand p l e R s m args below meth c T locs cells slots) (hx : p.tables.exec = Jvm.exec) (hZ : Z.Warmed39 s.vm) (hby : c.code = bs) {a : Addr} {cl : Cell} (eT : T.heap = h) (A : Arr Z h a cl .char) {j : Int32} {v : Value} (hj : ¬ (j < 0 ∨ cl.slots.size ≤ j.toNatClampNeg)) (hv : cl.slots[j.toNatClampNeg]? = some v) (hd : decode bs pc = .ok (.caload, 1)) (hp : pc + 1 = pc') (k : own_End p e below F (T.setTop (mkF m pc' Ls (v :: st)))) : own_End p e below F (T.setTop (mkF m pc Ls (.int j :: .ref a :: st))) := by
  subst hp
  exact own_step (fun t q => X.caload hx (j := j) (v := v) (by rw [eT]; exact A.1) (State.isArrayOf_alike hZ.alike A.2.1) A.2.2 hj hv (g := mkF m pc Ls (.int j :: .ref a :: st)) rfl rfl (hb hby hd) _ q) k
theorem own_baload (X : Stand p l e R s m args below meth c T locs cells slots) (hx : p.tables.exec = Jvm.exec) (hZ : Z.Warmed39 s.vm) (hby : c.code = bs) {a : Addr} {cl : Cell} (eT : T.heap = h) (A : Arr Z h a cl .byte) {j : Int32} {v : Value} (hj : ¬ (j < 0 ∨ cl.slots.size ≤ j.toNatClampNeg)) (hv : cl.slots[j.toNatClampNeg]? = some v) (hd : decode bs pc = .ok (.baload, 1)) (hp : pc + 1 = pc') (k : own_End p e below F (T.setTop (mkF m pc' Ls (v :: st)))) : own_End p e below F (T.setTop (mkF m pc Ls (.int j :: .ref a :: st))) := by
  subst hp
  exact own_step (fun t q => X.baloadBytes hx (j := j) (v := v) (by rw [eT]; exact A.1) (State.isArrayOf_alike hZ.alike A.2.1) A.2.2 hj hv (g := mkF m pc Ls (.int j :: .ref a :: st)) rfl rfl (hb hby hd) _ q) k
theorem own_aaload (X : Stand p l e R s m args below meth c T locs cells slots) (hx : p.tables.exec = Jvm.exec) (hZ : Z.Warmed39 s.vm) (hby : c.code = bs) {a : Addr} {cl : Cell} {ty : FieldType} (eT : T.heap = h) (A : Arr Z h a cl ty) (hty : ty.isReference = true) {j : Int32} {v : Value} (hj : ¬ (j < 0 ∨ cl.slots.size ≤ j.toNatClampNeg)) (hv : cl.slots[j.toNatClampNeg]? = some v) (hd : decode bs pc = .ok (.aaload, 1)) (hp : pc + 1 = pc') (k : own_End p e below F (T.setTop (mkF m pc' Ls (v :: st)))) : own_End p e below F (T.setTop (mkF m pc Ls (.int j :: .ref a :: st))) := by
  subst hp
  exact own_step (fun t q => X.aaload hx (j := j) (v := v) (by rw [eT]; exact A.1) (State.isArrayOf_alike hZ.alike A.2.1) hty A.2.2 hj hv (g := mkF m pc Ls (.int j :: .ref a :: st)) rfl rfl (hb hby hd) _ q) k
theorem own_alen (X : Stand p l e R s m args below meth c T locs cells slots) (hx : p.tables.exec = Jvm.exec) (hZ : Z.Warmed39 s.vm) (hby : c.code = bs) {a : Addr} {cl : Cell} {ty : FieldType} {z : Int32} (eT : T.heap = h) (A : Arr Z h a cl ty) (S : cl.slots.size = z.toNatClampNeg) (M : ¬ z < 0) (hd : decode bs pc = .ok (.arraylength, 1)) (hp : pc + 1 = pc') (k : own_End p e below F (T.setTop (mkF m pc' Ls (.int z :: st)))) : own_End p e below F (T.setTop (mkF m pc Ls (.ref a :: st))) := by
  subst hp
  have hl := len_of S M
  exact own_step (fun t q => X.arraylength hx (by rw [eT]; exact A.1) (State.isArrayOf_alike hZ.alike A.2.1) (g := mkF m pc Ls (.ref a :: st)) rfl rfl (hb hby hd) _ (by rw [hl]; exact q)) k
theorem own_init (X : Stand p l e R s m args below meth c T locs cells slots) (hx : p.tables.exec = Jvm.exec) (hZ : Z.Warmed39 s.vm) (hby : c.code = bs) {own : String} {index : Nat} {a : Addr} {W : Nat} (hown : s.vm.findClass own = some m.cls) (w1 : (Cond.methodLink own index Lib.objectInit).before a0 Z = true) (w2 : (Cond.instanceMethod Lib.objectInit).before a0 Z = true) (w3 : (Cond.code Lib.objectInit ⟨#[0xb1]⟩ 1 none).before a0 Z = true) (eT : T.heap = h) (hsz : Ls.size = c.maxLocals) (hd : decode bs pc = .ok (.invokespecial index, 3)) (hp : pc + 3 = pc') (hf : 1 ≤ R.frames) (hW : (st.map fun v => v.category).sum ≤ W) (hl : W + 12 ≤ R.locals)
    (k : ∀ T', Stand p l e R s m args below meth c T' locs cells slots → T'.heap = h → own_End p e below F (T'.setTop (mkF m pc' Ls st))) : own_End p e below F (T.setTop (mkF m pc Ls (.ref a :: st))) := by
  subst hp
  obtain ⟨T', X', e', stp⟩ := initO X hx hZ hown w1 w2 w3 eT (g := mkF m pc Ls (.ref a :: st)) rfl hsz rfl (hb hby hd) hf (W := W) (by show 2 * 0 + _ ≤ _; omega) hl
  exact own_step stp (k T' X' e')
theorem own_cast (X : Stand p l e R s m args below meth c T locs cells slots) (hx : p.tables.exec = Jvm.exec) (hZ : Z.Warmed39 s.vm) (hby : c.code = bs) {own K : String} {index : Nat} {a : Addr} (hown : s.vm.findClass own = some m.cls) (w : (Cond.classLink own index K).before a0 Z = true) (eT : T.heap = h) (I : Ins Z h a K true) (hd : decode bs pc = .ok (.checkcast index, 3)) (hp : pc + 3 = pc')
    (k : ∀ T', Stand p l e R s m args below meth c T' locs cells slots → T'.heap = h → own_End p e below F (T'.setTop (mkF m pc' Ls (.ref a :: st)))) : own_End p e below F (T.setTop (mkF m pc Ls (.ref a :: st))) := by
  subst hp
  obtain ⟨T', X', e', stp⟩ := castY X hx hZ hown w eT I (g := mkF m pc Ls (.ref a :: st)) rfl rfl (hb hby hd)
  exact own_step stp (k T' X' e')
theorem own_inst (X : Stand p l e R s m args below meth c T locs cells slots) (hx : p.tables.exec = Jvm.exec) (hZ : Z.Warmed39 s.vm) (hby : c.code = bs) {own K : String} {index : Nat} {a : Addr} (hown : s.vm.findClass own = some m.cls) (w : (Cond.classLink own index K).before a0 Z = true) (eT : T.heap = h) (I : Ins Z h a K true) (hd : decode bs pc = .ok (.instanceof index, 3)) (hp : pc + 3 = pc')
    (k : ∀ T', Stand p l e R s m args below meth c T' locs cells slots → T'.heap = h → own_End p e below F (T'.setTop (mkF m pc' Ls (.int 1 :: st)))) : own_End p e below F (T.setTop (mkF m pc Ls (.ref a :: st))) := by
  subst hp
  obtain ⟨T', X', e', stp⟩ := instY X hx hZ hown w eT I (g := mkF m pc Ls (.ref a :: st)) rfl rfl (hb hby hd)
  exact own_step stp (k T' X' e')
theorem own_instNull (X : Stand p l e R s m args below meth c T locs cells slots) (hx : p.tables.exec = Jvm.exec) (hby : c.code = bs) {index : Nat} (hd : decode bs pc = .ok (.instanceof index, 3)) (hp : pc + 3 = pc') (k : own_End p e below F (T.setTop (mkF m pc' Ls (.int 0 :: st)))) : own_End p e below F (T.setTop (mkF m pc Ls (.null :: st))) := by
  subst hp
  exact own_step (fun t q => X.instanceofNull hx (g := mkF m pc Ls (.null :: st)) rfl rfl (hb hby hd) _ q) k
end Heap
end OwnKit

theorem wd_0 {a0 : Array Value} {Z : State} (hw : ∀ d ∈ tables_1, d.before a0 Z = true) : (Jvm.Cond.methodLink "com/example/inflight/inflight/protocol/FrameRoomTakePinLaw" (13 : Nat) ({ cls := "com/example/inflight/inflight/protocol/FrameRoomTakePinLaw", name := "size", desc := "(J)J" } : Jvm.MethodName)).before a0 Z = true := hw _ (List.mem_of_getElem? (i := 0) rfl)
theorem wd_1 {a0 : Array Value} {Z : State} (hw : ∀ d ∈ tables_1, d.before a0 Z = true) : (Jvm.Cond.static ({ cls := "com/example/inflight/inflight/protocol/FrameRoomTakePinLaw", name := "size", desc := "(J)J" } : Jvm.MethodName)).before a0 Z = true := hw _ (List.mem_of_getElem? (i := 1) rfl)
theorem wd_2 {a0 : Array Value} {Z : State} (hw : ∀ d ∈ tables_1, d.before a0 Z = true) : (Jvm.Cond.initialized "com/example/inflight/inflight/protocol/FrameRoomTakePinLaw").before a0 Z = true := hw _ (List.mem_of_getElem? (i := 2) rfl)
theorem wd_3 {a0 : Array Value} {Z : State} (hw : ∀ d ∈ tables_1, d.before a0 Z = true) : (Jvm.Cond.code ({ cls := "com/example/inflight/inflight/protocol/FrameRoomTakePinLaw", name := "size", desc := "(J)J" } : Jvm.MethodName) method_2_code (2 : Nat) (Option.some Jvm.ClassFile.FieldType.long)).before a0 Z = true := hw _ (List.mem_of_getElem? (i := 3) rfl)
theorem wd_4 {a0 : Array Value} {Z : State} (hw : ∀ d ∈ tables_1, d.before a0 Z = true) : (Jvm.Cond.constantLong "com/example/inflight/inflight/protocol/FrameRoomTakePinLaw" (9 : Nat) (68719476735 : Int64)).before a0 Z = true := hw _ (List.mem_of_getElem? (i := 4) rfl)
theorem wd_5 {a0 : Array Value} {Z : State} (hw : ∀ d ∈ tables_1, d.before a0 Z = true) : (Jvm.Cond.constantLong "com/example/inflight/inflight/protocol/FrameRoomTakePinLaw" (7 : Nat) (33554431 : Int64)).before a0 Z = true := hw _ (List.mem_of_getElem? (i := 5) rfl)
theorem wd_6 {a0 : Array Value} {Z : State} (hw : ∀ d ∈ tables_1, d.before a0 Z = true) : (Jvm.Cond.classLink "com/example/inflight/inflight/protocol/FrameRoomTakePinLaw" (19 : Nat) "com/example/inflight/inflight/protocol/FrameRoom").before a0 Z = true := hw _ (List.mem_of_getElem? (i := 6) rfl)
theorem wd_7 {a0 : Array Value} {Z : State} (hw : ∀ d ∈ tables_1, d.before a0 Z = true) : (Jvm.Cond.instantiable "com/example/inflight/inflight/protocol/FrameRoom" (3 : Nat)).before a0 Z = true := hw _ (List.mem_of_getElem? (i := 7) rfl)
theorem wd_8 {a0 : Array Value} {Z : State} (hw : ∀ d ∈ tables_1, d.before a0 Z = true) : (Jvm.Cond.initialized "com/example/inflight/inflight/protocol/FrameRoom").before a0 Z = true := hw _ (List.mem_of_getElem? (i := 8) rfl)
theorem wd_9 {a0 : Array Value} {Z : State} (hw : ∀ d ∈ tables_1, d.before a0 Z = true) : (Jvm.Cond.methodLink "com/example/inflight/inflight/protocol/FrameRoomTakePinLaw" (21 : Nat) ({ cls := "com/example/inflight/inflight/protocol/FrameRoom", name := "<init>", desc := "(JI)V" } : Jvm.MethodName)).before a0 Z = true := hw _ (List.mem_of_getElem? (i := 9) rfl)
theorem wd_10 {a0 : Array Value} {Z : State} (hw : ∀ d ∈ tables_1, d.before a0 Z = true) : (Jvm.Cond.instanceMethod ({ cls := "com/example/inflight/inflight/protocol/FrameRoom", name := "<init>", desc := "(JI)V" } : Jvm.MethodName)).before a0 Z = true := hw _ (List.mem_of_getElem? (i := 10) rfl)
theorem wd_11 {a0 : Array Value} {Z : State} (hw : ∀ d ∈ tables_1, d.before a0 Z = true) : (Jvm.Cond.code ({ cls := "com/example/inflight/inflight/protocol/FrameRoom", name := "<init>", desc := "(JI)V" } : Jvm.MethodName) prog_85_method_1_code (4 : Nat) (Option.none : Option Jvm.ClassFile.FieldType)).before a0 Z = true := hw _ (List.mem_of_getElem? (i := 11) rfl)
theorem wd_12 {a0 : Array Value} {Z : State} (hw : ∀ d ∈ tables_1, d.before a0 Z = true) : (Jvm.Cond.methodLink "com/example/inflight/inflight/protocol/FrameRoom" (1 : Nat) ({ cls := "java/lang/Object", name := "<init>", desc := "()V" } : Jvm.MethodName)).before a0 Z = true := hw _ (List.mem_of_getElem? (i := 12) rfl)
theorem wd_13 {a0 : Array Value} {Z : State} (hw : ∀ d ∈ tables_1, d.before a0 Z = true) : (Jvm.Cond.instanceMethod ({ cls := "java/lang/Object", name := "<init>", desc := "()V" } : Jvm.MethodName)).before a0 Z = true := hw _ (List.mem_of_getElem? (i := 13) rfl)
theorem wd_14 {a0 : Array Value} {Z : State} (hw : ∀ d ∈ tables_1, d.before a0 Z = true) : (Jvm.Cond.code ({ cls := "java/lang/Object", name := "<init>", desc := "()V" } : Jvm.MethodName) object_method_1_code (1 : Nat) (Option.none : Option Jvm.ClassFile.FieldType)).before a0 Z = true := hw _ (List.mem_of_getElem? (i := 14) rfl)
theorem wd_15 {a0 : Array Value} {Z : State} (hw : ∀ d ∈ tables_1, d.before a0 Z = true) : (Jvm.Cond.fieldLink "com/example/inflight/inflight/protocol/FrameRoom" (7 : Nat) "com/example/inflight/inflight/protocol/FrameRoom" "maxEntries" "I").before a0 Z = true := hw _ (List.mem_of_getElem? (i := 15) rfl)
theorem wd_16 {a0 : Array Value} {Z : State} (hw : ∀ d ∈ tables_1, d.before a0 Z = true) : (Jvm.Cond.laysFinal "com/example/inflight/inflight/protocol/FrameRoom" "com/example/inflight/inflight/protocol/FrameRoom" "maxEntries" "I").before a0 Z = true := hw _ (List.mem_of_getElem? (i := 16) rfl)
theorem wd_17 {a0 : Array Value} {Z : State} (hw : ∀ d ∈ tables_1, d.before a0 Z = true) : (Jvm.Cond.fieldLink "com/example/inflight/inflight/protocol/FrameRoom" (13 : Nat) "com/example/inflight/inflight/protocol/FrameRoom" "payloadLength" "J").before a0 Z = true := hw _ (List.mem_of_getElem? (i := 17) rfl)
theorem wd_18 {a0 : Array Value} {Z : State} (hw : ∀ d ∈ tables_1, d.before a0 Z = true) : (Jvm.Cond.lays "com/example/inflight/inflight/protocol/FrameRoom" "com/example/inflight/inflight/protocol/FrameRoom" "payloadLength" "J").before a0 Z = true := hw _ (List.mem_of_getElem? (i := 18) rfl)
theorem wd_19 {a0 : Array Value} {Z : State} (hw : ∀ d ∈ tables_1, d.before a0 Z = true) : (Jvm.Cond.methodLink "com/example/inflight/inflight/protocol/FrameRoomTakePinLaw" (24 : Nat) ({ cls := "com/example/inflight/inflight/protocol/FrameRoom", name := "count", desc := "()I" } : Jvm.MethodName)).before a0 Z = true := hw _ (List.mem_of_getElem? (i := 19) rfl)
theorem wd_20 {a0 : Array Value} {Z : State} (hw : ∀ d ∈ tables_1, d.before a0 Z = true) : (Jvm.Cond.declares ({ cls := "com/example/inflight/inflight/protocol/FrameRoom", name := "count", desc := "()I" } : Jvm.MethodName)).before a0 Z = true := hw _ (List.mem_of_getElem? (i := 20) rfl)
theorem wd_21 {a0 : Array Value} {Z : State} (hw : ∀ d ∈ tables_1, d.before a0 Z = true) : (Jvm.Cond.instanceMethod ({ cls := "com/example/inflight/inflight/protocol/FrameRoom", name := "count", desc := "()I" } : Jvm.MethodName)).before a0 Z = true := hw _ (List.mem_of_getElem? (i := 21) rfl)
theorem wd_22 {a0 : Array Value} {Z : State} (hw : ∀ d ∈ tables_1, d.before a0 Z = true) : (Jvm.Cond.selects "com/example/inflight/inflight/protocol/FrameRoom" ({ cls := "com/example/inflight/inflight/protocol/FrameRoom", name := "count", desc := "()I" } : Jvm.MethodName) ({ cls := "com/example/inflight/inflight/protocol/FrameRoom", name := "count", desc := "()I" } : Jvm.MethodName)).before a0 Z = true := hw _ (List.mem_of_getElem? (i := 22) rfl)
theorem wd_23 {a0 : Array Value} {Z : State} (hw : ∀ d ∈ tables_1, d.before a0 Z = true) : (Jvm.Cond.code ({ cls := "com/example/inflight/inflight/protocol/FrameRoom", name := "count", desc := "()I" } : Jvm.MethodName) prog_85_method_3_code (1 : Nat) (Option.some Jvm.ClassFile.FieldType.int)).before a0 Z = true := hw _ (List.mem_of_getElem? (i := 23) rfl)
theorem wd_24 {a0 : Array Value} {Z : State} (hw : ∀ d ∈ tables_1, d.before a0 Z = true) : (Jvm.Cond.fieldLink "com/example/inflight/inflight/protocol/FrameRoom" (17 : Nat) "com/example/inflight/inflight/protocol/FrameRoom" "count" "I").before a0 Z = true := hw _ (List.mem_of_getElem? (i := 24) rfl)
theorem wd_25 {a0 : Array Value} {Z : State} (hw : ∀ d ∈ tables_1, d.before a0 Z = true) : (Jvm.Cond.lays "com/example/inflight/inflight/protocol/FrameRoom" "com/example/inflight/inflight/protocol/FrameRoom" "count" "I").before a0 Z = true := hw _ (List.mem_of_getElem? (i := 25) rfl)
theorem wd_26 {a0 : Array Value} {Z : State} (hw : ∀ d ∈ tables_1, d.before a0 Z = true) : (Jvm.Cond.methodLink "com/example/inflight/inflight/protocol/FrameRoomTakePinLaw" (28 : Nat) ({ cls := "com/example/inflight/inflight/protocol/FrameRoomTakePinLaw", name := "expect", desc := "(IIJJ)Z" } : Jvm.MethodName)).before a0 Z = true := hw _ (List.mem_of_getElem? (i := 26) rfl)
theorem wd_27 {a0 : Array Value} {Z : State} (hw : ∀ d ∈ tables_1, d.before a0 Z = true) : (Jvm.Cond.static ({ cls := "com/example/inflight/inflight/protocol/FrameRoomTakePinLaw", name := "expect", desc := "(IIJJ)Z" } : Jvm.MethodName)).before a0 Z = true := hw _ (List.mem_of_getElem? (i := 27) rfl)
theorem wd_28 {a0 : Array Value} {Z : State} (hw : ∀ d ∈ tables_1, d.before a0 Z = true) : (Jvm.Cond.code ({ cls := "com/example/inflight/inflight/protocol/FrameRoomTakePinLaw", name := "expect", desc := "(IIJJ)Z" } : Jvm.MethodName) method_3_code (6 : Nat) (Option.some Jvm.ClassFile.FieldType.boolean)).before a0 Z = true := hw _ (List.mem_of_getElem? (i := 28) rfl)
theorem wd_29 {a0 : Array Value} {Z : State} (hw : ∀ d ∈ tables_1, d.before a0 Z = true) : (Jvm.Cond.constantLong "com/example/inflight/inflight/protocol/FrameRoomTakePinLaw" (11 : Nat) (33554432 : Int64)).before a0 Z = true := hw _ (List.mem_of_getElem? (i := 29) rfl)
theorem wd_30 {a0 : Array Value} {Z : State} (hw : ∀ d ∈ tables_1, d.before a0 Z = true) : (Jvm.Cond.methodLink "com/example/inflight/inflight/protocol/FrameRoomTakePinLaw" (32 : Nat) ({ cls := "com/example/inflight/inflight/protocol/FrameRoom", name := "take", desc := "(J)Z" } : Jvm.MethodName)).before a0 Z = true := hw _ (List.mem_of_getElem? (i := 30) rfl)
theorem wd_31 {a0 : Array Value} {Z : State} (hw : ∀ d ∈ tables_1, d.before a0 Z = true) : (Jvm.Cond.declares ({ cls := "com/example/inflight/inflight/protocol/FrameRoom", name := "take", desc := "(J)Z" } : Jvm.MethodName)).before a0 Z = true := hw _ (List.mem_of_getElem? (i := 31) rfl)
theorem wd_32 {a0 : Array Value} {Z : State} (hw : ∀ d ∈ tables_1, d.before a0 Z = true) : (Jvm.Cond.instanceMethod ({ cls := "com/example/inflight/inflight/protocol/FrameRoom", name := "take", desc := "(J)Z" } : Jvm.MethodName)).before a0 Z = true := hw _ (List.mem_of_getElem? (i := 32) rfl)
theorem wd_33 {a0 : Array Value} {Z : State} (hw : ∀ d ∈ tables_1, d.before a0 Z = true) : (Jvm.Cond.selects "com/example/inflight/inflight/protocol/FrameRoom" ({ cls := "com/example/inflight/inflight/protocol/FrameRoom", name := "take", desc := "(J)Z" } : Jvm.MethodName) ({ cls := "com/example/inflight/inflight/protocol/FrameRoom", name := "take", desc := "(J)Z" } : Jvm.MethodName)).before a0 Z = true := hw _ (List.mem_of_getElem? (i := 33) rfl)
theorem wd_34 {a0 : Array Value} {Z : State} (hw : ∀ d ∈ tables_1, d.before a0 Z = true) : (Jvm.Cond.code ({ cls := "com/example/inflight/inflight/protocol/FrameRoom", name := "take", desc := "(J)Z" } : Jvm.MethodName) prog_85_method_2_code (4 : Nat) (Option.some Jvm.ClassFile.FieldType.boolean)).before a0 Z = true := hw _ (List.mem_of_getElem? (i := 34) rfl)
theorem wd_35 {a0 : Array Value} {Z : State} (hw : ∀ d ∈ tables_1, d.before a0 Z = true) : (Jvm.Cond.constantLong "com/example/inflight/inflight/protocol/FrameRoom" (22 : Nat) (33554432 : Int64)).before a0 Z = true := hw _ (List.mem_of_getElem? (i := 35) rfl)
theorem d1_0 : decode method_2_code 0 = .ok (.lload_n 0, 1) := by decide +kernel
theorem d1_1 : decode method_2_code 1 = .ok (.lconst 1, 1) := by decide +kernel
theorem d1_2 : decode method_2_code 2 = .ok (.land, 1) := by decide +kernel
theorem d1_3 : decode method_2_code 3 = .ok (.lconst 0, 1) := by decide +kernel
theorem d1_4 : decode method_2_code 4 = .ok (.lcmp, 1) := by decide +kernel
theorem d1_5 : decode method_2_code 5 = .ok (.ifCond .ne 13, 3) := by decide +kernel
theorem d1_8 : decode method_2_code 8 = .ok (.lload_n 0, 1) := by decide +kernel
theorem d1_9 : decode method_2_code 9 = .ok (.iconst 1, 1) := by decide +kernel
theorem d1_10 : decode method_2_code 10 = .ok (.lushr, 1) := by decide +kernel
theorem d1_11 : decode method_2_code 11 = .ok (.ldc2_w 7, 3) := by decide +kernel
theorem d1_14 : decode method_2_code 14 = .ok (.land, 1) := by decide +kernel
theorem d1_15 : decode method_2_code 15 = .ok (.goto 10, 3) := by decide +kernel
theorem d1_18 : decode method_2_code 18 = .ok (.lload_n 0, 1) := by decide +kernel
theorem d1_19 : decode method_2_code 19 = .ok (.iconst 1, 1) := by decide +kernel
theorem d1_20 : decode method_2_code 20 = .ok (.lushr, 1) := by decide +kernel
theorem d1_21 : decode method_2_code 21 = .ok (.ldc2_w 9, 3) := by decide +kernel
theorem d1_24 : decode method_2_code 24 = .ok (.land, 1) := by decide +kernel
theorem d1_25 : decode method_2_code 25 = .ok (.lreturn, 1) := by decide +kernel
theorem d2_0 : decode prog_85_method_1_code 0 = .ok (.aload_n 0, 1) := by decide +kernel
theorem d2_1 : decode prog_85_method_1_code 1 = .ok (.invokespecial 1, 3) := by decide +kernel
theorem d2_4 : decode prog_85_method_1_code 4 = .ok (.aload_n 0, 1) := by decide +kernel
theorem d2_5 : decode prog_85_method_1_code 5 = .ok (.iload_n 3, 1) := by decide +kernel
theorem d2_6 : decode prog_85_method_1_code 6 = .ok (.putfield 7, 3) := by decide +kernel
theorem d2_9 : decode prog_85_method_1_code 9 = .ok (.aload_n 0, 1) := by decide +kernel
theorem d2_10 : decode prog_85_method_1_code 10 = .ok (.lload_n 1, 1) := by decide +kernel
theorem d2_11 : decode prog_85_method_1_code 11 = .ok (.putfield 13, 3) := by decide +kernel
theorem d2_14 : decode prog_85_method_1_code 14 = .ok (.return_, 1) := by decide +kernel
theorem d4_0 : decode prog_85_method_3_code 0 = .ok (.aload_n 0, 1) := by decide +kernel
theorem d4_1 : decode prog_85_method_3_code 1 = .ok (.getfield 17, 3) := by decide +kernel
theorem d4_4 : decode prog_85_method_3_code 4 = .ok (.ireturn, 1) := by decide +kernel
theorem d5_0 : decode method_3_code 0 = .ok (.iload_n 0, 1) := by decide +kernel
theorem d5_1 : decode method_3_code 1 = .ok (.iload_n 1, 1) := by decide +kernel
theorem d5_2 : decode method_3_code 2 = .ok (.if_icmp .lt 5, 3) := by decide +kernel
theorem d5_5 : decode method_3_code 5 = .ok (.iconst 0, 1) := by decide +kernel
theorem d5_6 : decode method_3_code 6 = .ok (.ireturn, 1) := by decide +kernel
theorem d5_7 : decode method_3_code 7 = .ok (.lload_n 2, 1) := by decide +kernel
theorem d5_8 : decode method_3_code 8 = .ok (.lload 4, 2) := by decide +kernel
theorem d5_10 : decode method_3_code 10 = .ok (.ladd, 1) := by decide +kernel
theorem d5_11 : decode method_3_code 11 = .ok (.ldc2_w 11, 3) := by decide +kernel
theorem d5_14 : decode method_3_code 14 = .ok (.lcmp, 1) := by decide +kernel
theorem d5_15 : decode method_3_code 15 = .ok (.ifCond .gt 7, 3) := by decide +kernel
theorem d5_18 : decode method_3_code 18 = .ok (.iconst 1, 1) := by decide +kernel
theorem d5_19 : decode method_3_code 19 = .ok (.goto 4, 3) := by decide +kernel
theorem d5_22 : decode method_3_code 22 = .ok (.iconst 0, 1) := by decide +kernel
theorem d5_23 : decode method_3_code 23 = .ok (.ireturn, 1) := by decide +kernel
theorem d6_0 : decode prog_85_method_2_code 0 = .ok (.aload_n 0, 1) := by decide +kernel
theorem d6_1 : decode prog_85_method_2_code 1 = .ok (.getfield 17, 3) := by decide +kernel
theorem d6_4 : decode prog_85_method_2_code 4 = .ok (.aload_n 0, 1) := by decide +kernel
theorem d6_5 : decode prog_85_method_2_code 5 = .ok (.getfield 7, 3) := by decide +kernel
theorem d6_8 : decode prog_85_method_2_code 8 = .ok (.if_icmp .ge 20, 3) := by decide +kernel
theorem d6_11 : decode prog_85_method_2_code 11 = .ok (.aload_n 0, 1) := by decide +kernel
theorem d6_12 : decode prog_85_method_2_code 12 = .ok (.getfield 13, 3) := by decide +kernel
theorem d6_15 : decode prog_85_method_2_code 15 = .ok (.lload_n 1, 1) := by decide +kernel
theorem d6_16 : decode prog_85_method_2_code 16 = .ok (.ladd, 1) := by decide +kernel
theorem d6_17 : decode prog_85_method_2_code 17 = .ok (.ldc2_w 22, 3) := by decide +kernel
theorem d6_20 : decode prog_85_method_2_code 20 = .ok (.lcmp, 1) := by decide +kernel
theorem d6_21 : decode prog_85_method_2_code 21 = .ok (.ifCond .gt 7, 3) := by decide +kernel
theorem d6_24 : decode prog_85_method_2_code 24 = .ok (.iconst 1, 1) := by decide +kernel
theorem d6_25 : decode prog_85_method_2_code 25 = .ok (.goto 4, 3) := by decide +kernel
theorem d6_28 : decode prog_85_method_2_code 28 = .ok (.iconst 0, 1) := by decide +kernel
theorem d6_29 : decode prog_85_method_2_code 29 = .ok (.istore_n 3, 1) := by decide +kernel
theorem d6_30 : decode prog_85_method_2_code 30 = .ok (.iload_n 3, 1) := by decide +kernel
theorem d6_31 : decode prog_85_method_2_code 31 = .ok (.ifCond .eq 23, 3) := by decide +kernel
theorem d6_34 : decode prog_85_method_2_code 34 = .ok (.aload_n 0, 1) := by decide +kernel
theorem d6_35 : decode prog_85_method_2_code 35 = .ok (.dup, 1) := by decide +kernel
theorem d6_36 : decode prog_85_method_2_code 36 = .ok (.getfield 13, 3) := by decide +kernel
theorem d6_39 : decode prog_85_method_2_code 39 = .ok (.lload_n 1, 1) := by decide +kernel
theorem d6_40 : decode prog_85_method_2_code 40 = .ok (.ladd, 1) := by decide +kernel
theorem d6_41 : decode prog_85_method_2_code 41 = .ok (.putfield 13, 3) := by decide +kernel
theorem d6_44 : decode prog_85_method_2_code 44 = .ok (.aload_n 0, 1) := by decide +kernel
theorem d6_45 : decode prog_85_method_2_code 45 = .ok (.dup, 1) := by decide +kernel
theorem d6_46 : decode prog_85_method_2_code 46 = .ok (.getfield 17, 3) := by decide +kernel
theorem d6_49 : decode prog_85_method_2_code 49 = .ok (.iconst 1, 1) := by decide +kernel
theorem d6_50 : decode prog_85_method_2_code 50 = .ok (.iadd, 1) := by decide +kernel
theorem d6_51 : decode prog_85_method_2_code 51 = .ok (.putfield 17, 3) := by decide +kernel
theorem d6_54 : decode prog_85_method_2_code 54 = .ok (.iload_n 3, 1) := by decide +kernel
theorem d6_55 : decode prog_85_method_2_code 55 = .ok (.ireturn, 1) := by decide +kernel
theorem own_pn0 : plainName "com/example/inflight/inflight/protocol/FrameRoomTakePinLaw" = true := by first | (simp [plainName, overriddenIn]; done) | decide +kernel
theorem own_pn1 : plainName "com/example/inflight/inflight/protocol/FrameRoom" = true := by first | (simp [plainName, overriddenIn]; done) | decide +kernel
theorem own_pd2 : parseMethodDescriptor "(J)J" = some ⟨[.long], some .long⟩ := by decide +kernel
theorem own_pd3 : parseMethodDescriptor "(JI)V" = some ⟨[.long, .int], none⟩ := by decide +kernel
theorem own_pd4 : parseMethodDescriptor "()I" = some ⟨[], some .int⟩ := by decide +kernel
theorem own_pd5 : parseMethodDescriptor "(IIJJ)Z" = some ⟨[.int, .int, .long, .long], some .boolean⟩ := by decide +kernel
theorem own_pd6 : parseMethodDescriptor "(J)Z" = some ⟨[.long], some .boolean⟩ := by decide +kernel
set_option maxRecDepth 65536 in
theorem own_lk0 {p : Program} {l : Launch} {e : Env} {R : Room} {s : State} {m : MethodId} {args : Array Value} {below : List Frame} {meth : Method} {c : Code} {T : State} {locs : List Loc} {cells slots : Nat} {F : Option Value → State → Prop} {bs : ByteArray} {pc pc' : Nat} {Ls : Array Slot} {Z : State} {a0 : Array Value} {h : Heap} {x0 : Value} {rest : List Value} {W : Nat} {rm : Room} {Q : Option Value → Heap → List Loc → Prop} (hw : ∀ d ∈ tables_1, d.before a0 Z = true) (X : Stand p l e R s m args below meth c T locs cells slots) (hx : p.tables.exec = Jvm.exec) (hZ : Z.Warmed39 s.vm) (hby : c.code = bs) (hsz : Ls.size = c.maxLocals) (hown : s.vm.findClass "com/example/inflight/inflight/protocol/FrameRoomTakePinLaw" = some m.cls) (hd : decode bs pc = .ok (.invokestatic 13, 3)) (hp : pc + 3 = pc') (eT : T.heap = h) (hW : (rest.map fun v => v.category).sum ≤ W)
    (hM : MetFree l (⟨"com/example/inflight/inflight/protocol/FrameRoomTakePinLaw", "size", "(J)J"⟩ : MethodName) (head1 [(Cond.code (⟨"com/example/inflight/inflight/protocol/FrameRoomTakePinLaw", "size", "(J)J"⟩ : MethodName) method_2_code 2 (some .long))] rm) (fun aa U => aa = #[x0] ∧ Z.Warmed39 U.vm ∧ U.heap = h) (fun _ _ _ _ _ => True) (fun _ U o U' => ∃ v L, o = .returned v ∧ Q v U'.heap L ∧ FrameEnd U o U' L rm.cells rm.slots)) (hf : rm.frames + 1 ≤ R.frames) (hl : W + (2 + 11) + rm.locals ≤ R.locals) (hc : cells + rm.cells ≤ R.cells) (hs : slots + rm.slots ≤ R.slots)
    (k : ∀ v T' L', Stand p l e R s m args below meth c T' (locs ++ L') (cells + rm.cells) (slots + rm.slots) → Q v T'.heap L' → own_End p e below F (T'.setTop (mkF m pc' Ls (v.toList ++ rest)))) : own_End p e below F (T.setTop (mkF m pc Ls (x0 :: rest))) := by
  subst hp
  obtain ⟨v, _, ⟨T', L0, k0, n0⟩, -, X', ⟨L', hQ, e1, e2, e3⟩, stp⟩ := Jvm.LawKit.callS X hx (y := (⟨"com/example/inflight/inflight/protocol/FrameRoomTakePinLaw", "size", "(J)J"⟩ : MethodName)) hown (mvT hZ (wd_0 hw)) (mvT hZ (wd_1 hw)) (mvT hZ (wd_2 hw)) (mvT hZ (wd_3 hw)) (by decide) (backOf (W := W) hM hZ (wd_3 hw) (wd_2 hw) hf hl) (g := mkF m pc Ls (x0 :: rest)) rfl hsz (argsL := [x0]) (rest := rest) (lenOf own_pd2 rfl) rfl (by show 2 * 0 + _ ≤ _; omega) (hb hby hd) (fun _ _ => ⟨rfl, eT, hc, hs⟩)
  dsimp only [Pt.U, Pt.locs, Pt.cells, Pt.slots] at X' e1 e2 e3 stp hQ
  subst e1 e2 e3
  exact own_step stp (k v T' L' X' hQ)
set_option maxRecDepth 65536 in
theorem own_lk1 {p : Program} {l : Launch} {e : Env} {R : Room} {s : State} {m : MethodId} {args : Array Value} {below : List Frame} {meth : Method} {c : Code} {T : State} {locs : List Loc} {cells slots : Nat} {F : Option Value → State → Prop} {bs : ByteArray} {pc pc' : Nat} {Ls : Array Slot} {Z : State} {a0 : Array Value} {h : Heap} {x0 : Value} {x1 : Value} {b : Addr} {rest : List Value} {W : Nat} {rm : Room} {Q : Option Value → Heap → List Loc → Prop} (hw : ∀ d ∈ tables_1, d.before a0 Z = true) (X : Stand p l e R s m args below meth c T locs cells slots) (hx : p.tables.exec = Jvm.exec) (hZ : Z.Warmed39 s.vm) (hby : c.code = bs) (hsz : Ls.size = c.maxLocals) (hown : s.vm.findClass "com/example/inflight/inflight/protocol/FrameRoomTakePinLaw" = some m.cls) (hd : decode bs pc = .ok (.invokespecial 21, 3)) (hp : pc + 3 = pc') (eT : T.heap = h) (hW : (rest.map fun v => v.category).sum ≤ W)
    (hM : MetFree l (⟨"com/example/inflight/inflight/protocol/FrameRoom", "<init>", "(JI)V"⟩ : MethodName) (head1 [(Cond.code (⟨"com/example/inflight/inflight/protocol/FrameRoom", "<init>", "(JI)V"⟩ : MethodName) prog_85_method_1_code 4 none)] rm) (fun aa U => aa = #[.ref b, x0, x1] ∧ Z.Warmed39 U.vm ∧ U.heap = h) (fun _ _ _ _ _ => True) (fun _ U o U' => ∃ v L, o = .returned v ∧ Q v U'.heap L ∧ FrameEnd U o U' L rm.cells rm.slots)) (hf : rm.frames + 1 ≤ R.frames) (hl : W + (4 + 11) + rm.locals ≤ R.locals) (hc : cells + rm.cells ≤ R.cells) (hs : slots + rm.slots ≤ R.slots)
    (k : ∀ v T' L', Stand p l e R s m args below meth c T' (locs ++ L') (cells + rm.cells) (slots + rm.slots) → Q v T'.heap L' → own_End p e below F (T'.setTop (mkF m pc' Ls (v.toList ++ rest)))) : own_End p e below F (T.setTop (mkF m pc Ls (x1 :: x0 :: .ref b :: rest))) := by
  subst hp
  obtain ⟨v, _, ⟨T', L0, k0, n0⟩, -, X', ⟨L', hQ, e1, e2, e3⟩, stp⟩ := X.specialBack hx (y := (⟨"com/example/inflight/inflight/protocol/FrameRoom", "<init>", "(JI)V"⟩ : MethodName)) rfl hown (mvT hZ (wd_9 hw)) (mvT hZ (wd_10 hw)) (mvT hZ (wd_11 hw)) (by decide) (backOf (W := W) hM hZ (wd_11 hw) (wd_8 hw) hf hl) (g := mkF m pc Ls (x1 :: x0 :: .ref b :: rest)) rfl hsz (Steps.refl _) (a := b) (argsL := [x0, x1]) (rest := rest) (lenOf own_pd3 rfl) rfl (by show 2 * 0 + _ ≤ _; omega) (hb hby hd) (fun _ _ => ⟨rfl, eT, hc, hs⟩)
  dsimp only [Pt.U, Pt.locs, Pt.cells, Pt.slots] at X' e1 e2 e3 stp hQ
  subst e1 e2 e3
  exact own_trans stp (k v T' L' X' hQ)
set_option maxRecDepth 65536 in
theorem own_lk2 {p : Program} {l : Launch} {e : Env} {R : Room} {s : State} {m : MethodId} {args : Array Value} {below : List Frame} {meth : Method} {c : Code} {T : State} {locs : List Loc} {cells slots : Nat} {F : Option Value → State → Prop} {bs : ByteArray} {pc pc' : Nat} {Ls : Array Slot} {Z : State} {a0 : Array Value} {h : Heap} {b : Addr} {rest : List Value} {W : Nat} {rm : Room} {Q : Option Value → Heap → List Loc → Prop} (hw : ∀ d ∈ tables_1, d.before a0 Z = true) (X : Stand p l e R s m args below meth c T locs cells slots) (hx : p.tables.exec = Jvm.exec) (hZ : Z.Warmed39 s.vm) (hby : c.code = bs) (hsz : Ls.size = c.maxLocals) (hown : s.vm.findClass "com/example/inflight/inflight/protocol/FrameRoomTakePinLaw" = some m.cls) (hd : decode bs pc = .ok (.invokevirtual 24, 3)) (hp : pc + 3 = pc') (eT : T.heap = h) (E : Exa Z h b "com/example/inflight/inflight/protocol/FrameRoom") (hW : (rest.map fun v => v.category).sum ≤ W)
    (hM : MetFree l (⟨"com/example/inflight/inflight/protocol/FrameRoom", "count", "()I"⟩ : MethodName) (head1 [(Cond.code (⟨"com/example/inflight/inflight/protocol/FrameRoom", "count", "()I"⟩ : MethodName) prog_85_method_3_code 1 (some .int))] rm) (fun aa U => aa = #[.ref b] ∧ Z.Warmed39 U.vm ∧ U.heap = h) (fun _ _ _ _ _ => True) (fun _ U o U' => ∃ v L, o = .returned v ∧ Q v U'.heap L ∧ FrameEnd U o U' L rm.cells rm.slots)) (hf : rm.frames + 1 ≤ R.frames) (hl : W + (1 + 11) + rm.locals ≤ R.locals) (hc : cells + rm.cells ≤ R.cells) (hs : slots + rm.slots ≤ R.slots)
    (k : ∀ v T' L', Stand p l e R s m args below meth c T' (locs ++ L') (cells + rm.cells) (slots + rm.slots) → Q v T'.heap L' → own_End p e below F (T'.setTop (mkF m pc' Ls (v.toList ++ rest)))) : own_End p e below F (T.setTop (mkF m pc Ls (.ref b :: rest))) := by
  subst hp
  obtain ⟨cq, kq, q1, q2, q3⟩ := isOf hZ eT E
  obtain ⟨v, _, ⟨T', L0, k0, n0⟩, -, X', ⟨L', hQ, e1, e2, e3⟩, stp⟩ := X.virtualBack hx (y := (⟨"com/example/inflight/inflight/protocol/FrameRoom", "count", "()I"⟩ : MethodName)) (z := (⟨"com/example/inflight/inflight/protocol/FrameRoom", "count", "()I"⟩ : MethodName)) hown (mvT hZ (wd_19 hw)) (mvT hZ (wd_20 hw)) (notFace_of_selects (args := #[]) (mvT hZ (wd_22 hw))) (mvT hZ (wd_22 hw)) (mvT hZ (wd_21 hw)) (by decide) (backOf (W := W) hM hZ (wd_23 hw) (wd_8 hw) hf hl) q1 q3 (g := mkF m pc Ls (.ref b :: rest)) rfl hsz (Steps.refl _) (argsL := []) (rest := rest) (lenOf own_pd4 rfl) rfl (by show 2 * 0 + _ ≤ _; omega) (hb hby hd) (fun _ _ => ⟨rfl, eT, hc, hs⟩)
  dsimp only [Pt.U, Pt.locs, Pt.cells, Pt.slots] at X' e1 e2 e3 stp hQ
  subst e1 e2 e3
  exact own_trans stp (k v T' L' X' hQ)
set_option maxRecDepth 65536 in
theorem own_lk3 {p : Program} {l : Launch} {e : Env} {R : Room} {s : State} {m : MethodId} {args : Array Value} {below : List Frame} {meth : Method} {c : Code} {T : State} {locs : List Loc} {cells slots : Nat} {F : Option Value → State → Prop} {bs : ByteArray} {pc pc' : Nat} {Ls : Array Slot} {Z : State} {a0 : Array Value} {h : Heap} {x0 : Value} {x1 : Value} {x2 : Value} {x3 : Value} {rest : List Value} {W : Nat} {rm : Room} {Q : Option Value → Heap → List Loc → Prop} (hw : ∀ d ∈ tables_1, d.before a0 Z = true) (X : Stand p l e R s m args below meth c T locs cells slots) (hx : p.tables.exec = Jvm.exec) (hZ : Z.Warmed39 s.vm) (hby : c.code = bs) (hsz : Ls.size = c.maxLocals) (hown : s.vm.findClass "com/example/inflight/inflight/protocol/FrameRoomTakePinLaw" = some m.cls) (hd : decode bs pc = .ok (.invokestatic 28, 3)) (hp : pc + 3 = pc') (eT : T.heap = h) (hW : (rest.map fun v => v.category).sum ≤ W)
    (hM : MetFree l (⟨"com/example/inflight/inflight/protocol/FrameRoomTakePinLaw", "expect", "(IIJJ)Z"⟩ : MethodName) (head1 [(Cond.code (⟨"com/example/inflight/inflight/protocol/FrameRoomTakePinLaw", "expect", "(IIJJ)Z"⟩ : MethodName) method_3_code 6 (some .boolean))] rm) (fun aa U => aa = #[x0, x1, x2, x3] ∧ Z.Warmed39 U.vm ∧ U.heap = h) (fun _ _ _ _ _ => True) (fun _ U o U' => ∃ v L, o = .returned v ∧ Q v U'.heap L ∧ FrameEnd U o U' L rm.cells rm.slots)) (hf : rm.frames + 1 ≤ R.frames) (hl : W + (6 + 11) + rm.locals ≤ R.locals) (hc : cells + rm.cells ≤ R.cells) (hs : slots + rm.slots ≤ R.slots)
    (k : ∀ v T' L', Stand p l e R s m args below meth c T' (locs ++ L') (cells + rm.cells) (slots + rm.slots) → Q v T'.heap L' → own_End p e below F (T'.setTop (mkF m pc' Ls (v.toList ++ rest)))) : own_End p e below F (T.setTop (mkF m pc Ls (x3 :: x2 :: x1 :: x0 :: rest))) := by
  subst hp
  obtain ⟨v, _, ⟨T', L0, k0, n0⟩, -, X', ⟨L', hQ, e1, e2, e3⟩, stp⟩ := Jvm.LawKit.callS X hx (y := (⟨"com/example/inflight/inflight/protocol/FrameRoomTakePinLaw", "expect", "(IIJJ)Z"⟩ : MethodName)) hown (mvT hZ (wd_26 hw)) (mvT hZ (wd_27 hw)) (mvT hZ (wd_2 hw)) (mvT hZ (wd_28 hw)) (by decide) (backOf (W := W) hM hZ (wd_28 hw) (wd_2 hw) hf hl) (g := mkF m pc Ls (x3 :: x2 :: x1 :: x0 :: rest)) rfl hsz (argsL := [x0, x1, x2, x3]) (rest := rest) (lenOf own_pd5 rfl) rfl (by show 2 * 0 + _ ≤ _; omega) (hb hby hd) (fun _ _ => ⟨rfl, eT, hc, hs⟩)
  dsimp only [Pt.U, Pt.locs, Pt.cells, Pt.slots] at X' e1 e2 e3 stp hQ
  subst e1 e2 e3
  exact own_step stp (k v T' L' X' hQ)
set_option maxRecDepth 65536 in
theorem own_lk4 {p : Program} {l : Launch} {e : Env} {R : Room} {s : State} {m : MethodId} {args : Array Value} {below : List Frame} {meth : Method} {c : Code} {T : State} {locs : List Loc} {cells slots : Nat} {F : Option Value → State → Prop} {bs : ByteArray} {pc pc' : Nat} {Ls : Array Slot} {Z : State} {a0 : Array Value} {h : Heap} {x0 : Value} {b : Addr} {rest : List Value} {W : Nat} {rm : Room} {Q : Option Value → Heap → List Loc → Prop} (hw : ∀ d ∈ tables_1, d.before a0 Z = true) (X : Stand p l e R s m args below meth c T locs cells slots) (hx : p.tables.exec = Jvm.exec) (hZ : Z.Warmed39 s.vm) (hby : c.code = bs) (hsz : Ls.size = c.maxLocals) (hown : s.vm.findClass "com/example/inflight/inflight/protocol/FrameRoomTakePinLaw" = some m.cls) (hd : decode bs pc = .ok (.invokevirtual 32, 3)) (hp : pc + 3 = pc') (eT : T.heap = h) (E : Exa Z h b "com/example/inflight/inflight/protocol/FrameRoom") (hW : (rest.map fun v => v.category).sum ≤ W)
    (hM : MetFree l (⟨"com/example/inflight/inflight/protocol/FrameRoom", "take", "(J)Z"⟩ : MethodName) (head1 [(Cond.code (⟨"com/example/inflight/inflight/protocol/FrameRoom", "take", "(J)Z"⟩ : MethodName) prog_85_method_2_code 4 (some .boolean))] rm) (fun aa U => aa = #[.ref b, x0] ∧ Z.Warmed39 U.vm ∧ U.heap = h) (fun _ _ _ _ _ => True) (fun _ U o U' => ∃ v L, o = .returned v ∧ Q v U'.heap L ∧ FrameEnd U o U' L rm.cells rm.slots)) (hf : rm.frames + 1 ≤ R.frames) (hl : W + (4 + 11) + rm.locals ≤ R.locals) (hc : cells + rm.cells ≤ R.cells) (hs : slots + rm.slots ≤ R.slots)
    (k : ∀ v T' L', Stand p l e R s m args below meth c T' (locs ++ L') (cells + rm.cells) (slots + rm.slots) → Q v T'.heap L' → own_End p e below F (T'.setTop (mkF m pc' Ls (v.toList ++ rest)))) : own_End p e below F (T.setTop (mkF m pc Ls (x0 :: .ref b :: rest))) := by
  subst hp
  obtain ⟨cq, kq, q1, q2, q3⟩ := isOf hZ eT E
  obtain ⟨v, _, ⟨T', L0, k0, n0⟩, -, X', ⟨L', hQ, e1, e2, e3⟩, stp⟩ := X.virtualBack hx (y := (⟨"com/example/inflight/inflight/protocol/FrameRoom", "take", "(J)Z"⟩ : MethodName)) (z := (⟨"com/example/inflight/inflight/protocol/FrameRoom", "take", "(J)Z"⟩ : MethodName)) hown (mvT hZ (wd_30 hw)) (mvT hZ (wd_31 hw)) (notFace_of_selects (args := #[]) (mvT hZ (wd_33 hw))) (mvT hZ (wd_33 hw)) (mvT hZ (wd_32 hw)) (by decide) (backOf (W := W) hM hZ (wd_34 hw) (wd_8 hw) hf hl) q1 q3 (g := mkF m pc Ls (x0 :: .ref b :: rest)) rfl hsz (Steps.refl _) (argsL := [x0]) (rest := rest) (lenOf own_pd6 rfl) rfl (by show 2 * 0 + _ ≤ _; omega) (hb hby hd) (fun _ _ => ⟨rfl, eT, hc, hs⟩)
  dsimp only [Pt.U, Pt.locs, Pt.cells, Pt.slots] at X' e1 e2 e3 stp hQ
  subst e1 e2 e3
  exact own_trans stp (k v T' L' X' hQ)

def own_FR (Z : State) (h : Heap) (a : Addr) (v0 : Int32) (v1 : Int64) (v2 : Int32) : Prop := Exa Z h a "com/example/inflight/inflight/protocol/FrameRoom" ∧ Fld Z h a "com/example/inflight/inflight/protocol/FrameRoom" "maxEntries" "I" (.int v0) ∧ Fld Z h a "com/example/inflight/inflight/protocol/FrameRoom" "payloadLength" "J" (.long v1) ∧ Fld Z h a "com/example/inflight/inflight/protocol/FrameRoom" "count" "I" (.int v2)
theorem own_FR.ext {Z : State} {h h' : Heap} {a : Addr} {v0 : Int32} {v1 : Int64} {v2 : Int32} (O : own_FR Z h a v0 v1 v2) (X : Ext h h') : own_FR Z h' a v0 v1 v2 := by
  obtain ⟨E, F0, F1, F2⟩ := O
  exact ⟨E.ext X, F0.ext X, F1.ext X, F2.ext X⟩
theorem own_FR.keep {Z : State} {h h' : Heap} {a : Addr} {v0 : Int32} {v1 : Int64} {v2 : Int32} (O : own_FR Z h a v0 v1 v2) {ws : List Addr} (K : Keep h h' ws) (q : a ∉ ws) : own_FR Z h' a v0 v1 v2 := by
  obtain ⟨E, F0, F1, F2⟩ := O
  exact ⟨E.keep K, F0.keep K q, F1.keep K q, F2.keep K q⟩
theorem own_FR.other {Z : State} {h h' : Heap} {a : Addr} {v0 : Int32} {v1 : Int64} {v2 : Int32} (O : own_FR Z h a v0 v1 v2) {b : Addr} {sl : Nat} {v : Value} (W : Wr h h' b sl v) (q : a ≠ b) : own_FR Z h' a v0 v1 v2 := by
  obtain ⟨E, F0, F1, F2⟩ := O
  exact ⟨E.wr W, F0.other W (Or.inl q), F1.other W (Or.inl q), F2.other W (Or.inl q)⟩
theorem own_FR.lt {Z : State} {h : Heap} {a : Addr} {v0 : Int32} {v1 : Int64} {v2 : Int32} (O : own_FR Z h a v0 v1 v2) : a < h.size := by
  obtain ⟨E, F0, F1, F2⟩ := O
  exact E.lt
def own_exp (c m : Int32) (pl e : Int64) : Int32 := if c < m then (if (33554432 : Int64) < pl + e then 0 else 1) else 0
theorem own_ef_rm1 (m : MethodId) (r : Int64)  : entryFrame m #[(.long r)] 2 = mkF m 0 #[.val (.long r), .second] [] := by first | (simp [entryFrame, mkF, argsToLocals, Value.category]; done) | rfl
def Q1 (Z : State) (r : Int64) (h0 : Heap) (n0 : Nat) (v : Option Value) (h : Heap) (L : List Loc) : Prop := ∃ z : Int64, v = some (.long z) ∧ Fr n0 L ∧ h = h0
set_option maxRecDepth 65536 in
set_option maxHeartbeats 40000000 in
theorem rm1 (l : Launch) (Z : State) (a0 : Array Value) (hw : ∀ d ∈ tables_1, d.before a0 Z = true) (ws : List Jvm.Cond) (r : Int64) (h0 : Heap) (n0 : Nat) (Z0 : n0 ≤ h0.size)  :
    MetFree l (⟨"com/example/inflight/inflight/protocol/FrameRoomTakePinLaw", "size", "(J)J"⟩ : MethodName) (head1 (Jvm.Cond.code (⟨"com/example/inflight/inflight/protocol/FrameRoomTakePinLaw", "size", "(J)J"⟩ : MethodName) method_2_code 2 (some .long) :: ws) ({ frames := 0, cells := 0, slots := 0, locals := 0 } : Room)) (fun aa U => aa = #[(.long r)] ∧ Z.Warmed39 U.vm ∧ U.heap = h0) (fun _ _ _ _ _ => True) (fun _ U o U' => ∃ v L, o = .returned v ∧ Q1 Z r h0 n0 v U'.heap L ∧ FrameEnd U o U' L ({ frames := 0, cells := 0, slots := 0, locals := 0 } : Room).cells ({ frames := 0, cells := 0, slots := 0, locals := 0 } : Room).slots) := by
  refine MetFree.of_bodySF (plainFor_of_name own_pn0) hisR ?_
  intro p e s m args below meth c s₁ Bd hml0 hP hK
  obtain ⟨rfl, hZ, hh⟩ := hP
  have hx := Bd.exec
  have hby := Bd.bytes
  have hlk := Bd.notSynchronized
  have hret := Bd.returns
  have hml : c.maxLocals = 2 := hml0
  have hown : s.vm.findClass "com/example/inflight/inflight/protocol/FrameRoomTakePinLaw" = some m.cls := findClass_of_methodNamed Bd.named
  have hnm := (name_of_methodNamed Bd.named Bd.method).1
  have X0 : Stand p l e ({ frames := 0, cells := 0, slots := 0, locals := 0 } : Room) s m #[(.long r)] below meth c s₁ [] 0 0 := Stand.of_body Bd
  have e0 : s₁.heap = h0 := by rw [← hh, Bd.state]; rfl
  have N0 := Fr.nil n0
  refine own_body (Q := Q1 Z r h0 n0) (KC := ({ frames := 0, cells := 0, slots := 0, locals := 0 } : Room).cells) (KS := ({ frames := 0, cells := 0, slots := 0, locals := 0 } : Room).slots) ?_
  rw [own_ef_rm1 m r]
  refine own_lloadN X0 hx hby d1_0 (pc' := 1) rfl rfl ?_
  refine own_lconst X0 hx hby d1_1 (pc' := 2) rfl (n := (1 : Int64)) (by decide) ?_
  refine own_land X0 hx hby d1_2 (pc' := 3) rfl ?_
  refine own_lconst X0 hx hby d1_3 (pc' := 4) rfl (n := (0 : Int64)) (by decide) ?_
  refine own_lcmp X0 hx hby d1_4 (pc' := 5) rfl ?_
  refine own_ifL2 X0 hx hby d1_5 (pc1 := 18) (by decide) (by decide) (pc2 := 8) rfl (fun (hc5 : ¬ (r &&& (1 : Int64)) = (0 : Int64)) => ?_) (fun (hc5 : (r &&& (1 : Int64)) = (0 : Int64)) => ?_)
  · refine own_lloadN X0 hx hby d1_18 (pc' := 19) rfl rfl ?_
    refine own_iconst X0 hx hby d1_19 (pc' := 20) rfl (n := (1 : Int32)) (by decide) ?_
    refine own_lushr X0 hx hby d1_20 (pc' := 21) rfl ?_
    refine own_ldc2Long X0 hx hZ hby hown (wd_4 hw) d1_21 (pc' := 24) rfl ?_
    refine own_land X0 hx hby d1_24 (pc' := 25) rfl ?_
    refine own_lreturn X0 hx hlk hby hret d1_25 (own_lv ?_ (by decide) (by decide))
    show Q1 Z r  h0 n0 (some (.long (((r.toUInt64 >>> ((1 : Int32) &&& 0x3f).toInt64.toUInt64).toInt64) &&& (68719476735 : Int64)))) s₁.heap _
    rw [e0]
    exact ⟨_, rfl, N0, rfl⟩
  · refine own_lloadN X0 hx hby d1_8 (pc' := 9) rfl rfl ?_
    refine own_iconst X0 hx hby d1_9 (pc' := 10) rfl (n := (1 : Int32)) (by decide) ?_
    refine own_lushr X0 hx hby d1_10 (pc' := 11) rfl ?_
    refine own_ldc2Long X0 hx hZ hby hown (wd_5 hw) d1_11 (pc' := 14) rfl ?_
    refine own_land X0 hx hby d1_14 (pc' := 15) rfl ?_
    refine own_goto X0 hx hby d1_15 (pc' := 25) (by decide) (by decide) ?_
    refine own_lreturn X0 hx hlk hby hret d1_25 (own_lv ?_ (by decide) (by decide))
    show Q1 Z r  h0 n0 (some (.long (((r.toUInt64 >>> ((1 : Int32) &&& 0x3f).toInt64.toUInt64).toInt64) &&& (33554431 : Int64)))) s₁.heap _
    rw [e0]
    exact ⟨_, rfl, N0, rfl⟩
theorem own_ef_rm2 (m : MethodId) (a : Addr) (f : Int64) (mm : Int32)  : entryFrame m #[(.ref a), (.long f), (.int mm)] 4 = mkF m 0 #[.val (.ref a), .val (.long f), .second, .val (.int mm)] [] := by first | (simp [entryFrame, mkF, argsToLocals, Value.category]; done) | rfl
def Q2 (Z : State) (a : Addr) (f : Int64) (mm : Int32) (h0 : Heap) (n0 : Nat) (v : Option Value) (h : Heap) (L : List Loc) : Prop := v = none ∧ Fr n0 L ∧ Keep h0 h [a] ∧ own_FR Z h a mm f 0
set_option maxRecDepth 65536 in
set_option maxHeartbeats 40000000 in
theorem rm2 (l : Launch) (Z : State) (a0 : Array Value) (hw : ∀ d ∈ tables_1, d.before a0 Z = true) (ws : List Jvm.Cond) (a : Addr) (f : Int64) (mm : Int32) (h0 : Heap) (n0 : Nat) (Z0 : n0 ≤ h0.size) (f_O_a : own_FR Z h0 a (0 : Int32) (0 : Int64) (0 : Int32)) (ge_a : n0 ≤ a) :
    MetFree l (⟨"com/example/inflight/inflight/protocol/FrameRoom", "<init>", "(JI)V"⟩ : MethodName) (head1 (Jvm.Cond.code (⟨"com/example/inflight/inflight/protocol/FrameRoom", "<init>", "(JI)V"⟩ : MethodName) prog_85_method_1_code 4 none :: ws) ({ frames := 1, cells := 0, slots := 0, locals := 12 } : Room)) (fun aa U => aa = #[(.ref a), (.long f), (.int mm)] ∧ Z.Warmed39 U.vm ∧ U.heap = h0) (fun _ _ _ _ _ => True) (fun _ U o U' => ∃ v L, o = .returned v ∧ Q2 Z a f mm h0 n0 v U'.heap L ∧ FrameEnd U o U' L ({ frames := 1, cells := 0, slots := 0, locals := 12 } : Room).cells ({ frames := 1, cells := 0, slots := 0, locals := 12 } : Room).slots) := by
  refine MetFree.of_bodySF (plainFor_of_name own_pn1) hisR ?_
  intro p e s m args below meth c s₁ Bd hml0 hP hK
  obtain ⟨rfl, hZ, hh⟩ := hP
  have hx := Bd.exec
  have hby := Bd.bytes
  have hlk := Bd.notSynchronized
  have hret := Bd.returns
  have hml : c.maxLocals = 4 := hml0
  have hown : s.vm.findClass "com/example/inflight/inflight/protocol/FrameRoom" = some m.cls := findClass_of_methodNamed Bd.named
  have hnm := (name_of_methodNamed Bd.named Bd.method).1
  have X0 : Stand p l e ({ frames := 1, cells := 0, slots := 0, locals := 12 } : Room) s m #[(.ref a), (.long f), (.int mm)] below meth c s₁ [] 0 0 := Stand.of_body Bd
  have e0 : s₁.heap = h0 := by rw [← hh, Bd.state]; rfl
  have N0 := Fr.nil n0
  refine own_body (Q := Q2 Z a f mm h0 n0) (KC := ({ frames := 1, cells := 0, slots := 0, locals := 12 } : Room).cells) (KS := ({ frames := 1, cells := 0, slots := 0, locals := 12 } : Room).slots) ?_
  rw [own_ef_rm2 m a f mm]
  have Kp : Keep h0 h0 [a] := Keep.refl h0 _
  refine own_aloadN X0 hx hby d2_0 (pc' := 1) rfl rfl rfl ?_
  refine own_init X0 hx hZ hby hown (wd_12 hw) (wd_13 hw) (wd_14 hw) e0 (by rw [hml]; rfl) d2_1 (pc' := 4) rfl (by decide) (W := 0) (Nat.le_of_eq rfl) (by decide) (fun T1 X1 e1 => ?_)
  refine own_aloadN X1 hx hby d2_4 (pc' := 5) rfl rfl rfl ?_
  refine own_iloadN X1 hx hby d2_5 (pc' := 6) rfl rfl ?_
  obtain ⟨f_E_a, f_F_a_maxEntries, f_F_a_payloadLength, f_F_a_count⟩ := f_O_a
  refine own_putF X1 hx hZ hby hown (host := "") (Or.inl (wd_15 hw)) Via.refl e1 f_F_a_maxEntries f_E_a (Or.inr ⟨(wd_16 hw), rfl, hnm⟩) (wd_7 hw) (ty := .int) (by decide) rfl rfl d2_6 (pc' := 9) rfl (fun T2 h2 X2 e2 W2 => ?_)
  have f_F_a_maxEntries := f_F_a_maxEntries.same W2
  have f_E_a := f_E_a.wr W2
  have f_F_a_payloadLength := f_F_a_payloadLength.other W2 (Or.inr (slot_ne (Or.inl (wd_18 hw)) (Or.inr (wd_16 hw)) (by decide) (t := .long) (t' := .int) (by decide) (by decide)))
  have f_F_a_count := f_F_a_count.other W2 (Or.inr (slot_ne (Or.inl (wd_25 hw)) (Or.inr (wd_16 hw)) (by decide) (t := .int) (t' := .int) (by decide) (by decide)))
  have Zn := Nat.le_trans Z0 (Keep.of_wr W2).1
  have Kp := Kp.wr W2 (Or.inl (List.mem_of_getElem? (i := 0) rfl))
  have N2 := Fr.snoc X2 N0 ge_a
  refine own_aloadN X2 hx hby d2_9 (pc' := 10) rfl rfl rfl ?_
  refine own_lloadN X2 hx hby d2_10 (pc' := 11) rfl rfl ?_
  refine own_putF X2 hx hZ hby hown (host := "") (Or.inl (wd_17 hw)) Via.refl e2 f_F_a_payloadLength f_E_a (Or.inl (wd_18 hw)) (wd_7 hw) (ty := .long) (by decide) rfl rfl d2_11 (pc' := 14) rfl (fun T3 h3 X3 e3 W3 => ?_)
  have f_F_a_payloadLength := f_F_a_payloadLength.same W3
  have f_E_a := f_E_a.wr W3
  have f_F_a_maxEntries := f_F_a_maxEntries.other W3 (Or.inr (slot_ne (Or.inr (wd_16 hw)) (Or.inl (wd_18 hw)) (by decide) (t := .int) (t' := .long) (by decide) (by decide)))
  have f_F_a_count := f_F_a_count.other W3 (Or.inr (slot_ne (Or.inl (wd_25 hw)) (Or.inl (wd_18 hw)) (by decide) (t := .int) (t' := .long) (by decide) (by decide)))
  have Zn := Nat.le_trans Zn (Keep.of_wr W3).1
  have Kp := Kp.wr W3 (Or.inl (List.mem_of_getElem? (i := 0) rfl))
  have N3 := Fr.snoc X3 N2 ge_a
  refine own_return X3 hx hlk hby hret d2_14 (own_lv ?_ (by decide) (by decide))
  show Q2 Z a f mm  h0 n0 none T3.heap _
  rw [e3]
  exact ⟨rfl, N3, Kp, ⟨f_E_a, f_F_a_maxEntries, f_F_a_payloadLength, f_F_a_count⟩⟩
theorem own_ef_rm4 (m : MethodId) (a : Addr)  : entryFrame m #[(.ref a)] 1 = mkF m 0 #[.val (.ref a)] [] := by first | (simp [entryFrame, mkF, argsToLocals, Value.category]; done) | rfl
def Q4 (Z : State) (a : Addr) (mm : Int32) (f : Int64) (n : Int32) (h0 : Heap) (n0 : Nat) (v : Option Value) (h : Heap) (L : List Loc) : Prop := v = some (.int n) ∧ Fr n0 L ∧ h = h0
set_option maxRecDepth 65536 in
set_option maxHeartbeats 40000000 in
theorem rm4 (l : Launch) (Z : State) (a0 : Array Value) (hw : ∀ d ∈ tables_1, d.before a0 Z = true) (ws : List Jvm.Cond) (a : Addr) (mm : Int32) (f : Int64) (n : Int32) (h0 : Heap) (n0 : Nat) (Z0 : n0 ≤ h0.size) (f_O_a : own_FR Z h0 a mm f n) :
    MetFree l (⟨"com/example/inflight/inflight/protocol/FrameRoom", "count", "()I"⟩ : MethodName) (head1 (Jvm.Cond.code (⟨"com/example/inflight/inflight/protocol/FrameRoom", "count", "()I"⟩ : MethodName) prog_85_method_3_code 1 (some .int) :: ws) ({ frames := 0, cells := 0, slots := 0, locals := 0 } : Room)) (fun aa U => aa = #[(.ref a)] ∧ Z.Warmed39 U.vm ∧ U.heap = h0) (fun _ _ _ _ _ => True) (fun _ U o U' => ∃ v L, o = .returned v ∧ Q4 Z a mm f n h0 n0 v U'.heap L ∧ FrameEnd U o U' L ({ frames := 0, cells := 0, slots := 0, locals := 0 } : Room).cells ({ frames := 0, cells := 0, slots := 0, locals := 0 } : Room).slots) := by
  refine MetFree.of_bodySF (plainFor_of_name own_pn1) hisR ?_
  intro p e s m args below meth c s₁ Bd hml0 hP hK
  obtain ⟨rfl, hZ, hh⟩ := hP
  have hx := Bd.exec
  have hby := Bd.bytes
  have hlk := Bd.notSynchronized
  have hret := Bd.returns
  have hml : c.maxLocals = 1 := hml0
  have hown : s.vm.findClass "com/example/inflight/inflight/protocol/FrameRoom" = some m.cls := findClass_of_methodNamed Bd.named
  have hnm := (name_of_methodNamed Bd.named Bd.method).1
  have X0 : Stand p l e ({ frames := 0, cells := 0, slots := 0, locals := 0 } : Room) s m #[(.ref a)] below meth c s₁ [] 0 0 := Stand.of_body Bd
  have e0 : s₁.heap = h0 := by rw [← hh, Bd.state]; rfl
  have N0 := Fr.nil n0
  refine own_body (Q := Q4 Z a mm f n h0 n0) (KC := ({ frames := 0, cells := 0, slots := 0, locals := 0 } : Room).cells) (KS := ({ frames := 0, cells := 0, slots := 0, locals := 0 } : Room).slots) ?_
  rw [own_ef_rm4 m a]
  refine own_aloadN X0 hx hby d4_0 (pc' := 1) rfl rfl rfl ?_
  obtain ⟨f_E_a, f_F_a_maxEntries, f_F_a_payloadLength, f_F_a_count⟩ := f_O_a
  refine own_getF X0 hx hZ hby hown (host := "") (Or.inl (wd_24 hw)) Via.refl e0 f_F_a_count d4_1 (pc' := 4) rfl (fun T1 X1 e1 => ?_)
  refine own_ireturn X1 hx hlk hby hret d4_4 (own_lv ?_ (by decide) (by decide))
  show Q4 Z a mm f n  h0 n0 (some (.int n)) T1.heap _
  rw [e1]
  exact ⟨rfl, N0, rfl⟩
theorem own_ef_rm5 (m : MethodId) (n : Int32) (mm : Int32) (f : Int64) (g : Int64)  : entryFrame m #[(.int n), (.int mm), (.long f), (.long g)] 6 = mkF m 0 #[.val (.int n), .val (.int mm), .val (.long f), .second, .val (.long g), .second] [] := by first | (simp [entryFrame, mkF, argsToLocals, Value.category]; done) | rfl
def Q5 (Z : State) (n : Int32) (mm : Int32) (f : Int64) (g : Int64) (h0 : Heap) (n0 : Nat) (v : Option Value) (h : Heap) (L : List Loc) : Prop := v = some (.int (own_exp n mm f g)) ∧ Fr n0 L ∧ h = h0
set_option maxRecDepth 65536 in
set_option maxHeartbeats 40000000 in
theorem rm5 (l : Launch) (Z : State) (a0 : Array Value) (hw : ∀ d ∈ tables_1, d.before a0 Z = true) (ws : List Jvm.Cond) (n : Int32) (mm : Int32) (f : Int64) (g : Int64) (h0 : Heap) (n0 : Nat) (Z0 : n0 ≤ h0.size)  :
    MetFree l (⟨"com/example/inflight/inflight/protocol/FrameRoomTakePinLaw", "expect", "(IIJJ)Z"⟩ : MethodName) (head1 (Jvm.Cond.code (⟨"com/example/inflight/inflight/protocol/FrameRoomTakePinLaw", "expect", "(IIJJ)Z"⟩ : MethodName) method_3_code 6 (some .boolean) :: ws) ({ frames := 0, cells := 0, slots := 0, locals := 0 } : Room)) (fun aa U => aa = #[(.int n), (.int mm), (.long f), (.long g)] ∧ Z.Warmed39 U.vm ∧ U.heap = h0) (fun _ _ _ _ _ => True) (fun _ U o U' => ∃ v L, o = .returned v ∧ Q5 Z n mm f g h0 n0 v U'.heap L ∧ FrameEnd U o U' L ({ frames := 0, cells := 0, slots := 0, locals := 0 } : Room).cells ({ frames := 0, cells := 0, slots := 0, locals := 0 } : Room).slots) := by
  refine MetFree.of_bodySF (plainFor_of_name own_pn0) hisR ?_
  intro p e s m args below meth c s₁ Bd hml0 hP hK
  obtain ⟨rfl, hZ, hh⟩ := hP
  have hx := Bd.exec
  have hby := Bd.bytes
  have hlk := Bd.notSynchronized
  have hret := Bd.returns
  have hml : c.maxLocals = 6 := hml0
  have hown : s.vm.findClass "com/example/inflight/inflight/protocol/FrameRoomTakePinLaw" = some m.cls := findClass_of_methodNamed Bd.named
  have hnm := (name_of_methodNamed Bd.named Bd.method).1
  have X0 : Stand p l e ({ frames := 0, cells := 0, slots := 0, locals := 0 } : Room) s m #[(.int n), (.int mm), (.long f), (.long g)] below meth c s₁ [] 0 0 := Stand.of_body Bd
  have e0 : s₁.heap = h0 := by rw [← hh, Bd.state]; rfl
  have N0 := Fr.nil n0
  refine own_body (Q := Q5 Z n mm f g h0 n0) (KC := ({ frames := 0, cells := 0, slots := 0, locals := 0 } : Room).cells) (KS := ({ frames := 0, cells := 0, slots := 0, locals := 0 } : Room).slots) ?_
  rw [own_ef_rm5 m n mm f g]
  refine own_iloadN X0 hx hby d5_0 (pc' := 1) rfl rfl ?_
  refine own_iloadN X0 hx hby d5_1 (pc' := 2) rfl rfl ?_
  refine own_ic2 X0 hx hby d5_2 (pc1 := 7) (by decide) (by decide) (pc2 := 5) rfl (fun (hc2 : n < mm) => ?_) (fun (hc2 : ¬ n < mm) => ?_)
  · refine own_lloadN X0 hx hby d5_7 (pc' := 8) rfl rfl ?_
    refine own_lload X0 hx hby d5_8 (pc' := 10) rfl rfl ?_
    refine own_ladd X0 hx hby d5_10 (pc' := 11) rfl ?_
    refine own_ldc2Long X0 hx hZ hby hown (wd_29 hw) d5_11 (pc' := 14) rfl ?_
    refine own_lcmp X0 hx hby d5_14 (pc' := 15) rfl ?_
    refine own_ifL2 X0 hx hby d5_15 (pc1 := 22) (by decide) (by decide) (pc2 := 18) rfl (fun (hc15 : (33554432 : Int64) < (f + g)) => ?_) (fun (hc15 : ¬ (33554432 : Int64) < (f + g)) => ?_)
    · refine own_iconst X0 hx hby d5_22 (pc' := 23) rfl (n := (0 : Int32)) (by decide) ?_
      refine own_zreturn X0 hx hlk hby hret (Or.inl rfl) d5_23 (own_lv ?_ (by decide) (by decide))
      show Q5 Z n mm f g  h0 n0 (some (.int (0 : Int32))) s₁.heap _
      rw [e0]
      exact ⟨by simp [own_exp, hc2, hc15], N0, rfl⟩
    · refine own_iconst X0 hx hby d5_18 (pc' := 19) rfl (n := (1 : Int32)) (by decide) ?_
      refine own_goto X0 hx hby d5_19 (pc' := 23) (by decide) (by decide) ?_
      refine own_zreturn X0 hx hlk hby hret (Or.inr rfl) d5_23 (own_lv ?_ (by decide) (by decide))
      show Q5 Z n mm f g  h0 n0 (some (.int (1 : Int32))) s₁.heap _
      rw [e0]
      exact ⟨by simp [own_exp, hc2, hc15], N0, rfl⟩
  · refine own_iconst X0 hx hby d5_5 (pc' := 6) rfl (n := (0 : Int32)) (by decide) ?_
    refine own_zreturn X0 hx hlk hby hret (Or.inl rfl) d5_6 (own_lv ?_ (by decide) (by decide))
    show Q5 Z n mm f g  h0 n0 (some (.int (0 : Int32))) s₁.heap _
    rw [e0]
    exact ⟨by simp [own_exp, hc2], N0, rfl⟩
theorem own_ef_rm6 (m : MethodId) (a : Addr) (g : Int64)  : entryFrame m #[(.ref a), (.long g)] 4 = mkF m 0 #[.val (.ref a), .val (.long g), .second, .unset] [] := by first | (simp [entryFrame, mkF, argsToLocals, Value.category]; done) | rfl
def Q6 (Z : State) (a : Addr) (g : Int64) (mm : Int32) (f : Int64) (n : Int32) (h0 : Heap) (n0 : Nat) (v : Option Value) (h : Heap) (L : List Loc) : Prop := Fr n0 L ∧ Keep h0 h [a] ∧ v = some (.int (own_exp n mm f g)) ∧ ((own_exp n mm f g = 0 ∧ own_FR Z h a mm f n) ∨ (¬ own_exp n mm f g = 0 ∧ own_FR Z h a mm (f + g) (n + 1)))
set_option maxRecDepth 65536 in
set_option maxHeartbeats 40000000 in
theorem rm6 (l : Launch) (Z : State) (a0 : Array Value) (hw : ∀ d ∈ tables_1, d.before a0 Z = true) (ws : List Jvm.Cond) (a : Addr) (g : Int64) (mm : Int32) (f : Int64) (n : Int32) (h0 : Heap) (n0 : Nat) (Z0 : n0 ≤ h0.size) (f_O_a : own_FR Z h0 a mm f n) (ge_a : n0 ≤ a) :
    MetFree l (⟨"com/example/inflight/inflight/protocol/FrameRoom", "take", "(J)Z"⟩ : MethodName) (head1 (Jvm.Cond.code (⟨"com/example/inflight/inflight/protocol/FrameRoom", "take", "(J)Z"⟩ : MethodName) prog_85_method_2_code 4 (some .boolean) :: ws) ({ frames := 0, cells := 0, slots := 0, locals := 0 } : Room)) (fun aa U => aa = #[(.ref a), (.long g)] ∧ Z.Warmed39 U.vm ∧ U.heap = h0) (fun _ _ _ _ _ => True) (fun _ U o U' => ∃ v L, o = .returned v ∧ Q6 Z a g mm f n h0 n0 v U'.heap L ∧ FrameEnd U o U' L ({ frames := 0, cells := 0, slots := 0, locals := 0 } : Room).cells ({ frames := 0, cells := 0, slots := 0, locals := 0 } : Room).slots) := by
  refine MetFree.of_bodySF (plainFor_of_name own_pn1) hisR ?_
  intro p e s m args below meth c s₁ Bd hml0 hP hK
  obtain ⟨rfl, hZ, hh⟩ := hP
  have hx := Bd.exec
  have hby := Bd.bytes
  have hlk := Bd.notSynchronized
  have hret := Bd.returns
  have hml : c.maxLocals = 4 := hml0
  have hown : s.vm.findClass "com/example/inflight/inflight/protocol/FrameRoom" = some m.cls := findClass_of_methodNamed Bd.named
  have hnm := (name_of_methodNamed Bd.named Bd.method).1
  have X0 : Stand p l e ({ frames := 0, cells := 0, slots := 0, locals := 0 } : Room) s m #[(.ref a), (.long g)] below meth c s₁ [] 0 0 := Stand.of_body Bd
  have e0 : s₁.heap = h0 := by rw [← hh, Bd.state]; rfl
  have N0 := Fr.nil n0
  refine own_body (Q := Q6 Z a g mm f n h0 n0) (KC := ({ frames := 0, cells := 0, slots := 0, locals := 0 } : Room).cells) (KS := ({ frames := 0, cells := 0, slots := 0, locals := 0 } : Room).slots) ?_
  rw [own_ef_rm6 m a g]
  have Kp : Keep h0 h0 [a] := Keep.refl h0 _
  refine own_aloadN X0 hx hby d6_0 (pc' := 1) rfl rfl rfl ?_
  obtain ⟨f_E_a, f_F_a_maxEntries, f_F_a_payloadLength, f_F_a_count⟩ := f_O_a
  refine own_getF X0 hx hZ hby hown (host := "") (Or.inl (wd_24 hw)) Via.refl e0 f_F_a_count d6_1 (pc' := 4) rfl (fun T1 X1 e1 => ?_)
  refine own_aloadN X1 hx hby d6_4 (pc' := 5) rfl rfl rfl ?_
  refine own_getF X1 hx hZ hby hown (host := "") (Or.inl (wd_15 hw)) Via.refl e1 f_F_a_maxEntries d6_5 (pc' := 8) rfl (fun T2 X2 e2 => ?_)
  refine own_ic2 X2 hx hby d6_8 (pc1 := 28) (by decide) (by decide) (pc2 := 11) rfl (fun (hc8 : ¬ n < mm) => ?_) (fun (hc8 : n < mm) => ?_)
  · refine own_iconst X2 hx hby d6_28 (pc' := 29) rfl (n := (0 : Int32)) (by decide) ?_
    refine own_istoreN X2 hx hby d6_29 (pc' := 30) rfl (l' := #[.val (.ref a), .val (.long g), .second, .val (.int (0 : Int32))]) rfl ?_
    refine own_iloadN X2 hx hby d6_30 (pc' := 31) rfl rfl ?_
    refine own_ifY X2 hx hby d6_31 (pc' := 54) (by decide) (by decide) (show (0 : Int32) = (0 : Int32) by decide) ?_
    refine own_iloadN X2 hx hby d6_54 (pc' := 55) rfl rfl ?_
    refine own_zreturn X2 hx hlk hby hret (Or.inl rfl) d6_55 (own_lv ?_ (by decide) (by decide))
    have ox : own_exp n mm f g = 0 := by simp [own_exp, hc8]
    show Q6 Z a g mm f n  h0 n0 (some (.int (0 : Int32))) T2.heap _
    rw [e2]
    exact ⟨N0, Kp, by rw [ox], Or.inl ⟨ox, ⟨f_E_a, f_F_a_maxEntries, f_F_a_payloadLength, f_F_a_count⟩⟩⟩
  · refine own_aloadN X2 hx hby d6_11 (pc' := 12) rfl rfl rfl ?_
    refine own_getF X2 hx hZ hby hown (host := "") (Or.inl (wd_17 hw)) Via.refl e2 f_F_a_payloadLength d6_12 (pc' := 15) rfl (fun T3 X3 e3 => ?_)
    refine own_lloadN X3 hx hby d6_15 (pc' := 16) rfl rfl ?_
    refine own_ladd X3 hx hby d6_16 (pc' := 17) rfl ?_
    refine own_ldc2Long X3 hx hZ hby hown (wd_35 hw) d6_17 (pc' := 20) rfl ?_
    refine own_lcmp X3 hx hby d6_20 (pc' := 21) rfl ?_
    refine own_ifL2 X3 hx hby d6_21 (pc1 := 28) (by decide) (by decide) (pc2 := 24) rfl (fun (hc21 : (33554432 : Int64) < (f + g)) => ?_) (fun (hc21 : ¬ (33554432 : Int64) < (f + g)) => ?_)
    · refine own_iconst X3 hx hby d6_28 (pc' := 29) rfl (n := (0 : Int32)) (by decide) ?_
      refine own_istoreN X3 hx hby d6_29 (pc' := 30) rfl (l' := #[.val (.ref a), .val (.long g), .second, .val (.int (0 : Int32))]) rfl ?_
      refine own_iloadN X3 hx hby d6_30 (pc' := 31) rfl rfl ?_
      refine own_ifY X3 hx hby d6_31 (pc' := 54) (by decide) (by decide) (show (0 : Int32) = (0 : Int32) by decide) ?_
      refine own_iloadN X3 hx hby d6_54 (pc' := 55) rfl rfl ?_
      refine own_zreturn X3 hx hlk hby hret (Or.inl rfl) d6_55 (own_lv ?_ (by decide) (by decide))
      have ox : own_exp n mm f g = 0 := by simp [own_exp, hc8, hc21]
      show Q6 Z a g mm f n  h0 n0 (some (.int (0 : Int32))) T3.heap _
      rw [e3]
      exact ⟨N0, Kp, by rw [ox], Or.inl ⟨ox, ⟨f_E_a, f_F_a_maxEntries, f_F_a_payloadLength, f_F_a_count⟩⟩⟩
    · refine own_iconst X3 hx hby d6_24 (pc' := 25) rfl (n := (1 : Int32)) (by decide) ?_
      refine own_goto X3 hx hby d6_25 (pc' := 29) (by decide) (by decide) ?_
      refine own_istoreN X3 hx hby d6_29 (pc' := 30) rfl (l' := #[.val (.ref a), .val (.long g), .second, .val (.int (1 : Int32))]) rfl ?_
      refine own_iloadN X3 hx hby d6_30 (pc' := 31) rfl rfl ?_
      refine own_ifN X3 hx hby d6_31 (pc' := 34) rfl (show ¬ (1 : Int32) = (0 : Int32) by decide) ?_
      refine own_aloadN X3 hx hby d6_34 (pc' := 35) rfl rfl rfl ?_
      refine own_dup X3 hx hby d6_35 (pc' := 36) rfl rfl ?_
      refine own_getF X3 hx hZ hby hown (host := "") (Or.inl (wd_17 hw)) Via.refl e3 f_F_a_payloadLength d6_36 (pc' := 39) rfl (fun T4 X4 e4 => ?_)
      refine own_lloadN X4 hx hby d6_39 (pc' := 40) rfl rfl ?_
      refine own_ladd X4 hx hby d6_40 (pc' := 41) rfl ?_
      refine own_putF X4 hx hZ hby hown (host := "") (Or.inl (wd_17 hw)) Via.refl e4 f_F_a_payloadLength f_E_a (Or.inl (wd_18 hw)) (wd_7 hw) (ty := .long) (by decide) rfl rfl d6_41 (pc' := 44) rfl (fun T5 h5 X5 e5 W5 => ?_)
      have f_F_a_payloadLength := f_F_a_payloadLength.same W5
      have f_E_a := f_E_a.wr W5
      have f_F_a_maxEntries := f_F_a_maxEntries.other W5 (Or.inr (slot_ne (Or.inr (wd_16 hw)) (Or.inl (wd_18 hw)) (by decide) (t := .int) (t' := .long) (by decide) (by decide)))
      have f_F_a_count := f_F_a_count.other W5 (Or.inr (slot_ne (Or.inl (wd_25 hw)) (Or.inl (wd_18 hw)) (by decide) (t := .int) (t' := .long) (by decide) (by decide)))
      have Zn := Nat.le_trans Z0 (Keep.of_wr W5).1
      have Kp := Kp.wr W5 (Or.inl (List.mem_of_getElem? (i := 0) rfl))
      have N5 := Fr.snoc X5 N0 ge_a
      refine own_aloadN X5 hx hby d6_44 (pc' := 45) rfl rfl rfl ?_
      refine own_dup X5 hx hby d6_45 (pc' := 46) rfl rfl ?_
      refine own_getF X5 hx hZ hby hown (host := "") (Or.inl (wd_24 hw)) Via.refl e5 f_F_a_count d6_46 (pc' := 49) rfl (fun T6 X6 e6 => ?_)
      refine own_iconst X6 hx hby d6_49 (pc' := 50) rfl (n := (1 : Int32)) (by decide) ?_
      refine own_iadd X6 hx hby d6_50 (pc' := 51) rfl ?_
      refine own_putF X6 hx hZ hby hown (host := "") (Or.inl (wd_24 hw)) Via.refl e6 f_F_a_count f_E_a (Or.inl (wd_25 hw)) (wd_7 hw) (ty := .int) (by decide) rfl rfl d6_51 (pc' := 54) rfl (fun T7 h7 X7 e7 W7 => ?_)
      have f_F_a_count := f_F_a_count.same W7
      have f_E_a := f_E_a.wr W7
      have f_F_a_maxEntries := f_F_a_maxEntries.other W7 (Or.inr (slot_ne (Or.inr (wd_16 hw)) (Or.inl (wd_25 hw)) (by decide) (t := .int) (t' := .int) (by decide) (by decide)))
      have f_F_a_payloadLength := f_F_a_payloadLength.other W7 (Or.inr (slot_ne (Or.inl (wd_18 hw)) (Or.inl (wd_25 hw)) (by decide) (t := .long) (t' := .int) (by decide) (by decide)))
      have Zn := Nat.le_trans Zn (Keep.of_wr W7).1
      have Kp := Kp.wr W7 (Or.inl (List.mem_of_getElem? (i := 0) rfl))
      have N7 := Fr.snoc X7 N5 ge_a
      refine own_iloadN X7 hx hby d6_54 (pc' := 55) rfl rfl ?_
      refine own_zreturn X7 hx hlk hby hret (Or.inr rfl) d6_55 (own_lv ?_ (by decide) (by decide))
      have ox : own_exp n mm f g = 1 := by simp [own_exp, hc8, hc21]
      show Q6 Z a g mm f n  h0 n0 (some (.int (1 : Int32))) T7.heap _
      rw [e7]
      exact ⟨N7, Kp, by rw [ox], Or.inr ⟨by rw [ox]; decide, ⟨f_E_a, f_F_a_maxEntries, f_F_a_payloadLength, f_F_a_count⟩⟩⟩
theorem own_ef_rm0 (m : MethodId) (p0 : Int64) (p1 : Int32) (p2 : Int64) (p3 : Int64) (p4 : Int64)  : entryFrame m #[(.long p0), (.int p1), (.long p2), (.long p3), (.long p4)] maxLocals = mkF m 0 #[.val (.long p0), .second, .val (.int p1), .val (.long p2), .second, .val (.long p3), .second, .val (.long p4), .second, .unset, .unset, .unset, .unset, .unset, .unset, .unset, .unset, .unset, .unset, .unset, .unset, .unset, .unset, .unset, .unset, .unset, .unset, .unset, .unset] [] := by first | (simp [entryFrame, mkF, argsToLocals, Value.category, maxLocals]; done) | rfl
def Q0 (Z : State) (p0 : Int64) (p1 : Int32) (p2 : Int64) (p3 : Int64) (p4 : Int64) (h0 : Heap) (n0 : Nat) (v : Option Value) (h : Heap) (L : List Loc) : Prop := v = some (.int 1) ∧ Fr n0 L
set_option maxRecDepth 65536 in
set_option maxHeartbeats 40000000 in
theorem rm0 (l : Launch) (Z : State) (a0 : Array Value) (hw : ∀ d ∈ tables_1, d.before a0 Z = true) (ws : List Jvm.Cond) (p0 : Int64) (p1 : Int32) (p2 : Int64) (p3 : Int64) (p4 : Int64) (h0 : Heap) (n0 : Nat) (Z0 : n0 ≤ h0.size)  :
    MetFree l x (head1 (Jvm.Cond.code x code maxLocals ret :: ws) room_1) (fun aa U => aa = #[(.long p0), (.int p1), (.long p2), (.long p3), (.long p4)] ∧ Z.Warmed39 U.vm ∧ U.heap = h0) (fun _ _ _ _ _ => True) (fun _ U o U' => ∃ v L, o = .returned v ∧ Q0 Z p0 p1 p2 p3 p4 h0 n0 v U'.heap L ∧ FrameEnd U o U' L room_1.cells room_1.slots) := by
  refine MetFree.of_bodySF (plainFor_of_name own_pn0) hisR ?_
  intro p e s m args below meth c s₁ Bd hml0 hP hK
  obtain ⟨rfl, hZ, hh⟩ := hP
  have hx := Bd.exec
  have hby := Bd.bytes
  have hlk := Bd.notSynchronized
  have hret := Bd.returns
  have hml : c.maxLocals = 29 := hml0
  have hown : s.vm.findClass "com/example/inflight/inflight/protocol/FrameRoomTakePinLaw" = some m.cls := findClass_of_methodNamed Bd.named
  have hnm := (name_of_methodNamed Bd.named Bd.method).1
  have X0 : Stand p l e room_1 s m #[(.long p0), (.int p1), (.long p2), (.long p3), (.long p4)] below meth c s₁ [] 0 0 := Stand.of_body Bd
  have e0 : s₁.heap = h0 := by rw [← hh, Bd.state]; rfl
  have N0 := Fr.nil n0
  refine own_body (Q := Q0 Z p0 p1 p2 p3 p4 h0 n0) (KC := room_1.cells) (KS := room_1.slots) ?_
  rw [own_ef_rm0 m p0 p1 p2 p3 p4]
  refine own_lloadN X0 hx hby at_0 (pc' := 1) rfl rfl ?_
  refine own_lk0 hw X0 hx hZ hby (by rw [hml]; rfl) hown at_1 (pc' := 4) rfl e0 (W := 0) (Nat.le_of_eq rfl) (rm1 l Z a0 hw [] p0 h0 n0 Z0 ) (by decide) (by decide) (by decide) (by decide) (fun v2 T2 L2 X2 hQ2 => ?_)
  obtain ⟨z1, rfl, Nq2, e2⟩ := hQ2
  have N2 := Fr.app N0 Nq2
  show own_End p e below _ (T2.setTop (mkF m 4 _ [(.long z1)]))
  refine own_lstore X2 hx hby at_4 (pc' := 6) rfl (l' := #[.val (.long p0), .second, .val (.int p1), .val (.long p2), .second, .val (.long p3), .second, .val (.long p4), .second, .val (.long z1), .second, .unset, .unset, .unset, .unset, .unset, .unset, .unset, .unset, .unset, .unset, .unset, .unset, .unset, .unset, .unset, .unset, .unset, .unset]) rfl ?_
  refine own_iloadN X2 hx hby at_6 (pc' := 7) rfl rfl ?_
  refine own_iconst X2 hx hby at_7 (pc' := 8) rfl (n := (3 : Int32)) (by decide) ?_
  refine own_iand X2 hx hby at_8 (pc' := 9) rfl ?_
  refine own_istore X2 hx hby at_9 (pc' := 11) rfl (l' := #[.val (.long p0), .second, .val (.int p1), .val (.long p2), .second, .val (.long p3), .second, .val (.long p4), .second, .val (.long z1), .second, .val (.int (p1 &&& (3 : Int32))), .unset, .unset, .unset, .unset, .unset, .unset, .unset, .unset, .unset, .unset, .unset, .unset, .unset, .unset, .unset, .unset, .unset]) rfl ?_
  refine own_lloadN X2 hx hby at_11 (pc' := 12) rfl rfl ?_
  refine own_lk0 hw X2 hx hZ hby (by rw [hml]; rfl) hown at_12 (pc' := 15) rfl e2 (W := 0) (Nat.le_of_eq rfl) (rm1 l Z a0 hw [] p2 h0 n0 Z0 ) (by decide) (by decide) (by decide) (by decide) (fun v4 T4 L4 X4 hQ4 => ?_)
  obtain ⟨z3, rfl, Nq4, e4⟩ := hQ4
  have N4 := Fr.app N2 Nq4
  show own_End p e below _ (T4.setTop (mkF m 15 _ [(.long z3)]))
  refine own_lstore X4 hx hby at_15 (pc' := 17) rfl (l' := #[.val (.long p0), .second, .val (.int p1), .val (.long p2), .second, .val (.long p3), .second, .val (.long p4), .second, .val (.long z1), .second, .val (.int (p1 &&& (3 : Int32))), .val (.long z3), .second, .unset, .unset, .unset, .unset, .unset, .unset, .unset, .unset, .unset, .unset, .unset, .unset, .unset, .unset, .unset]) rfl ?_
  refine own_lload X4 hx hby at_17 (pc' := 19) rfl rfl ?_
  refine own_lk0 hw X4 hx hZ hby (by rw [hml]; rfl) hown at_19 (pc' := 22) rfl e4 (W := 0) (Nat.le_of_eq rfl) (rm1 l Z a0 hw [] p3 h0 n0 Z0 ) (by decide) (by decide) (by decide) (by decide) (fun v6 T6 L6 X6 hQ6 => ?_)
  obtain ⟨z5, rfl, Nq6, e6⟩ := hQ6
  have N6 := Fr.app N4 Nq6
  show own_End p e below _ (T6.setTop (mkF m 22 _ [(.long z5)]))
  refine own_lstore X6 hx hby at_22 (pc' := 24) rfl (l' := #[.val (.long p0), .second, .val (.int p1), .val (.long p2), .second, .val (.long p3), .second, .val (.long p4), .second, .val (.long z1), .second, .val (.int (p1 &&& (3 : Int32))), .val (.long z3), .second, .val (.long z5), .second, .unset, .unset, .unset, .unset, .unset, .unset, .unset, .unset, .unset, .unset, .unset, .unset, .unset]) rfl ?_
  refine own_lload X6 hx hby at_24 (pc' := 26) rfl rfl ?_
  refine own_lk0 hw X6 hx hZ hby (by rw [hml]; rfl) hown at_26 (pc' := 29) rfl e6 (W := 0) (Nat.le_of_eq rfl) (rm1 l Z a0 hw [] p4 h0 n0 Z0 ) (by decide) (by decide) (by decide) (by decide) (fun v8 T8 L8 X8 hQ8 => ?_)
  obtain ⟨z7, rfl, Nq8, e8⟩ := hQ8
  have N8 := Fr.app N6 Nq8
  show own_End p e below _ (T8.setTop (mkF m 29 _ [(.long z7)]))
  refine own_lstore X8 hx hby at_29 (pc' := 31) rfl (l' := #[.val (.long p0), .second, .val (.int p1), .val (.long p2), .second, .val (.long p3), .second, .val (.long p4), .second, .val (.long z1), .second, .val (.int (p1 &&& (3 : Int32))), .val (.long z3), .second, .val (.long z5), .second, .val (.long z7), .second, .unset, .unset, .unset, .unset, .unset, .unset, .unset, .unset, .unset, .unset, .unset]) rfl ?_
  refine own_new X8 hx hZ hby hown (wd_6 hw) (wd_7 hw) (wd_8 hw) e8 at_31 (pc' := 34) rfl (by decide) (by decide) (fun T9 h9 b9 g9 X9 e9 E9 A9 D9 => ?_)
  have ge_b9 : n0 ≤ b9 := by rw [g9]; exact Z0
  have Zn := Nat.le_trans Z0 E9.1
  have f_O_b9 : own_FR Z h9 b9 (0 : Int32) (0 : Int64) (0 : Int32) := ⟨A9, D9 (Or.inr (wd_16 hw)) (ty := .int) (by decide), D9 (Or.inl (wd_18 hw)) (ty := .long) (by decide), D9 (Or.inl (wd_25 hw)) (ty := .int) (by decide)⟩
  refine own_dup X9 hx hby at_34 (pc' := 35) rfl rfl ?_
  refine own_lload X9 hx hby at_35 (pc' := 37) rfl rfl ?_
  refine own_iload X9 hx hby at_37 (pc' := 39) rfl rfl ?_
  refine own_lk1 hw X9 hx hZ hby (by rw [hml]; rfl) hown at_39 (pc' := 42) rfl e9 (W := 1) (Nat.le_of_eq rfl) (rm2 l Z a0 hw [] b9 z1 (p1 &&& (3 : Int32)) h9 n0 Zn f_O_b9 ge_b9) (by decide) (by decide) (by decide) (by decide) (fun v10 T10 L10 X10 hQ10 => ?_)
  obtain ⟨rfl, Nq10, K10, O10⟩ := hQ10
  have N10 := Fr.app N8 Nq10
  have Zn := Nat.le_trans Zn K10.1
  show own_End p e below _ (T10.setTop (mkF m 42 _ [(.ref b9)]))
  refine own_astore X10 hx hby at_42 (pc' := 44) rfl rfl (l' := #[.val (.long p0), .second, .val (.int p1), .val (.long p2), .second, .val (.long p3), .second, .val (.long p4), .second, .val (.long z1), .second, .val (.int (p1 &&& (3 : Int32))), .val (.long z3), .second, .val (.long z5), .second, .val (.long z7), .second, .val (.ref b9), .unset, .unset, .unset, .unset, .unset, .unset, .unset, .unset, .unset, .unset]) rfl ?_
  refine own_aload X10 hx hby at_44 (pc' := 46) rfl rfl rfl ?_
  refine own_lk2 hw X10 hx hZ hby (by rw [hml]; rfl) hown at_46 (pc' := 49) rfl rfl O10.1 (W := 0) (Nat.le_of_eq rfl) (rm4 l Z a0 hw [] b9 (p1 &&& (3 : Int32)) z1 (0 : Int32) T10.heap n0 Zn O10) (by decide) (by decide) (by decide) (by decide) (fun v11 T11 L11 X11 hQ11 => ?_)
  obtain ⟨rfl, Nq11, e11⟩ := hQ11
  have N11 := Fr.app N10 Nq11
  show own_End p e below _ (T11.setTop (mkF m 49 _ [(.int (0 : Int32))]))
  refine own_ifN X11 hx hby at_49 (pc' := 52) rfl (show (0 : Int32) = (0 : Int32) by decide) ?_
  refine own_iconst X11 hx hby at_52 (pc' := 53) rfl (n := (1 : Int32)) (by decide) ?_
  refine own_goto X11 hx hby at_53 (pc' := 57) (by decide) (by decide) ?_
  refine own_istore X11 hx hby at_57 (pc' := 59) rfl (l' := #[.val (.long p0), .second, .val (.int p1), .val (.long p2), .second, .val (.long p3), .second, .val (.long p4), .second, .val (.long z1), .second, .val (.int (p1 &&& (3 : Int32))), .val (.long z3), .second, .val (.long z5), .second, .val (.long z7), .second, .val (.ref b9), .val (.int (1 : Int32)), .unset, .unset, .unset, .unset, .unset, .unset, .unset, .unset, .unset]) rfl ?_
  refine own_lload X11 hx hby at_59 (pc' := 61) rfl rfl ?_
  refine own_lstore X11 hx hby at_61 (pc' := 63) rfl (l' := #[.val (.long p0), .second, .val (.int p1), .val (.long p2), .second, .val (.long p3), .second, .val (.long p4), .second, .val (.long z1), .second, .val (.int (p1 &&& (3 : Int32))), .val (.long z3), .second, .val (.long z5), .second, .val (.long z7), .second, .val (.ref b9), .val (.int (1 : Int32)), .val (.long z1), .second, .unset, .unset, .unset, .unset, .unset, .unset, .unset]) rfl ?_
  refine own_iconst X11 hx hby at_63 (pc' := 64) rfl (n := (0 : Int32)) (by decide) ?_
  refine own_istore X11 hx hby at_64 (pc' := 66) rfl (l' := #[.val (.long p0), .second, .val (.int p1), .val (.long p2), .second, .val (.long p3), .second, .val (.long p4), .second, .val (.long z1), .second, .val (.int (p1 &&& (3 : Int32))), .val (.long z3), .second, .val (.long z5), .second, .val (.long z7), .second, .val (.ref b9), .val (.int (1 : Int32)), .val (.long z1), .second, .val (.int (0 : Int32)), .unset, .unset, .unset, .unset, .unset, .unset]) rfl ?_
  refine own_iload X11 hx hby at_66 (pc' := 68) rfl rfl ?_
  refine own_iload X11 hx hby at_68 (pc' := 70) rfl rfl ?_
  refine own_lload X11 hx hby at_70 (pc' := 72) rfl rfl ?_
  refine own_lload X11 hx hby at_72 (pc' := 74) rfl rfl ?_
  refine own_lk3 hw X11 hx hZ hby (by rw [hml]; rfl) hown at_74 (pc' := 77) rfl e11 (W := 0) (Nat.le_of_eq rfl) (rm5 l Z a0 hw [] (0 : Int32) (p1 &&& (3 : Int32)) z1 z3 T10.heap n0 Zn ) (by decide) (by decide) (by decide) (by decide) (fun v12 T12 L12 X12 hQ12 => ?_)
  obtain ⟨rfl, Nq12, e12⟩ := hQ12
  have N12 := Fr.app N11 Nq12
  show own_End p e below _ (T12.setTop (mkF m 77 _ [(.int (own_exp (0 : Int32) (p1 &&& (3 : Int32)) z1 z3))]))
  refine own_istore X12 hx hby at_77 (pc' := 79) rfl (l' := #[.val (.long p0), .second, .val (.int p1), .val (.long p2), .second, .val (.long p3), .second, .val (.long p4), .second, .val (.long z1), .second, .val (.int (p1 &&& (3 : Int32))), .val (.long z3), .second, .val (.long z5), .second, .val (.long z7), .second, .val (.ref b9), .val (.int (1 : Int32)), .val (.long z1), .second, .val (.int (0 : Int32)), .val (.int (own_exp (0 : Int32) (p1 &&& (3 : Int32)) z1 z3)), .unset, .unset, .unset, .unset, .unset]) rfl ?_
  refine own_aload X12 hx hby at_79 (pc' := 81) rfl rfl rfl ?_
  refine own_lload X12 hx hby at_81 (pc' := 83) rfl rfl ?_
  refine own_lk4 hw X12 hx hZ hby (by rw [hml]; rfl) hown at_83 (pc' := 86) rfl e12 O10.1 (W := 0) (Nat.le_of_eq rfl) (rm6 l Z a0 hw [] b9 z3 (p1 &&& (3 : Int32)) z1 (0 : Int32) T10.heap n0 Zn O10 ge_b9) (by decide) (by decide) (by decide) (by decide) (fun v13 T13 L13 X13 hQ13 => ?_)
  rcases hQ13 with ⟨Nq13, K13, rfl, ⟨hz13, O13⟩ | ⟨hz13, O13⟩⟩
  · have N13 := Fr.app N12 Nq13
    have Zn := Nat.le_trans Zn K13.1
    show own_End p e below _ (T13.setTop (mkF m 86 _ [(.int (own_exp (0 : Int32) (p1 &&& (3 : Int32)) z1 z3))]))
    refine own_istore X13 hx hby at_86 (pc' := 88) rfl (l' := #[.val (.long p0), .second, .val (.int p1), .val (.long p2), .second, .val (.long p3), .second, .val (.long p4), .second, .val (.long z1), .second, .val (.int (p1 &&& (3 : Int32))), .val (.long z3), .second, .val (.long z5), .second, .val (.long z7), .second, .val (.ref b9), .val (.int (1 : Int32)), .val (.long z1), .second, .val (.int (0 : Int32)), .val (.int (own_exp (0 : Int32) (p1 &&& (3 : Int32)) z1 z3)), .val (.int (own_exp (0 : Int32) (p1 &&& (3 : Int32)) z1 z3)), .unset, .unset, .unset, .unset]) rfl ?_
    refine own_iload X13 hx hby at_88 (pc' := 90) rfl rfl ?_
    refine own_ifN X13 hx hby at_90 (pc' := 93) rfl (show ¬ (1 : Int32) = (0 : Int32) by decide) ?_
    refine own_iload X13 hx hby at_93 (pc' := 95) rfl rfl ?_
    refine own_iload X13 hx hby at_95 (pc' := 97) rfl rfl ?_
    refine own_icN X13 hx hby at_97 (pc' := 100) rfl (show (own_exp (0 : Int32) (p1 &&& (3 : Int32)) z1 z3) = (own_exp (0 : Int32) (p1 &&& (3 : Int32)) z1 z3) from rfl) ?_
    refine own_iconst X13 hx hby at_100 (pc' := 101) rfl (n := (1 : Int32)) (by decide) ?_
    refine own_goto X13 hx hby at_101 (pc' := 105) (by decide) (by decide) ?_
    refine own_istore X13 hx hby at_105 (pc' := 107) rfl (l' := #[.val (.long p0), .second, .val (.int p1), .val (.long p2), .second, .val (.long p3), .second, .val (.long p4), .second, .val (.long z1), .second, .val (.int (p1 &&& (3 : Int32))), .val (.long z3), .second, .val (.long z5), .second, .val (.long z7), .second, .val (.ref b9), .val (.int (1 : Int32)), .val (.long z1), .second, .val (.int (0 : Int32)), .val (.int (own_exp (0 : Int32) (p1 &&& (3 : Int32)) z1 z3)), .val (.int (own_exp (0 : Int32) (p1 &&& (3 : Int32)) z1 z3)), .unset, .unset, .unset, .unset]) rfl ?_
    refine own_iload X13 hx hby at_107 (pc' := 109) rfl rfl ?_
    refine own_ifY X13 hx hby at_109 (pc' := 125) (by decide) (by decide) (show (own_exp (0 : Int32) (p1 &&& (3 : Int32)) z1 z3) = (0 : Int32) from hz13) ?_
    refine own_iload X13 hx hby at_125 (pc' := 127) rfl rfl ?_
    refine own_ifN X13 hx hby at_127 (pc' := 130) rfl (show ¬ (1 : Int32) = (0 : Int32) by decide) ?_
    refine own_aload X13 hx hby at_130 (pc' := 132) rfl rfl rfl ?_
    refine own_lk2 hw X13 hx hZ hby (by rw [hml]; rfl) hown at_132 (pc' := 135) rfl rfl O13.1 (W := 0) (Nat.le_of_eq rfl) (rm4 l Z a0 hw [] b9 (p1 &&& (3 : Int32)) z1 (0 : Int32) T13.heap n0 Zn O13) (by decide) (by decide) (by decide) (by decide) (fun v14 T14 L14 X14 hQ14 => ?_)
    obtain ⟨rfl, Nq14, e14⟩ := hQ14
    have N14 := Fr.app N13 Nq14
    show own_End p e below _ (T14.setTop (mkF m 135 _ [(.int (0 : Int32))]))
    refine own_iload X14 hx hby at_135 (pc' := 137) rfl rfl ?_
    refine own_icN X14 hx hby at_137 (pc' := 140) rfl (show (0 : Int32) = (0 : Int32) by decide) ?_
    refine own_iconst X14 hx hby at_140 (pc' := 141) rfl (n := (1 : Int32)) (by decide) ?_
    refine own_goto X14 hx hby at_141 (pc' := 145) (by decide) (by decide) ?_
    refine own_istore X14 hx hby at_145 (pc' := 147) rfl (l' := #[.val (.long p0), .second, .val (.int p1), .val (.long p2), .second, .val (.long p3), .second, .val (.long p4), .second, .val (.long z1), .second, .val (.int (p1 &&& (3 : Int32))), .val (.long z3), .second, .val (.long z5), .second, .val (.long z7), .second, .val (.ref b9), .val (.int (1 : Int32)), .val (.long z1), .second, .val (.int (0 : Int32)), .val (.int (own_exp (0 : Int32) (p1 &&& (3 : Int32)) z1 z3)), .val (.int (own_exp (0 : Int32) (p1 &&& (3 : Int32)) z1 z3)), .unset, .unset, .unset, .unset]) rfl ?_
    refine own_iload X14 hx hby at_147 (pc' := 149) rfl rfl ?_
    refine own_iload X14 hx hby at_149 (pc' := 151) rfl rfl ?_
    refine own_lload X14 hx hby at_151 (pc' := 153) rfl rfl ?_
    refine own_lload X14 hx hby at_153 (pc' := 155) rfl rfl ?_
    refine own_lk3 hw X14 hx hZ hby (by rw [hml]; rfl) hown at_155 (pc' := 158) rfl e14 (W := 0) (Nat.le_of_eq rfl) (rm5 l Z a0 hw [] (0 : Int32) (p1 &&& (3 : Int32)) z1 z5 T13.heap n0 Zn ) (by decide) (by decide) (by decide) (by decide) (fun v15 T15 L15 X15 hQ15 => ?_)
    obtain ⟨rfl, Nq15, e15⟩ := hQ15
    have N15 := Fr.app N14 Nq15
    show own_End p e below _ (T15.setTop (mkF m 158 _ [(.int (own_exp (0 : Int32) (p1 &&& (3 : Int32)) z1 z5))]))
    refine own_istore X15 hx hby at_158 (pc' := 160) rfl (l' := #[.val (.long p0), .second, .val (.int p1), .val (.long p2), .second, .val (.long p3), .second, .val (.long p4), .second, .val (.long z1), .second, .val (.int (p1 &&& (3 : Int32))), .val (.long z3), .second, .val (.long z5), .second, .val (.long z7), .second, .val (.ref b9), .val (.int (1 : Int32)), .val (.long z1), .second, .val (.int (0 : Int32)), .val (.int (own_exp (0 : Int32) (p1 &&& (3 : Int32)) z1 z3)), .val (.int (own_exp (0 : Int32) (p1 &&& (3 : Int32)) z1 z3)), .val (.int (own_exp (0 : Int32) (p1 &&& (3 : Int32)) z1 z5)), .unset, .unset, .unset]) rfl ?_
    refine own_aload X15 hx hby at_160 (pc' := 162) rfl rfl rfl ?_
    refine own_lload X15 hx hby at_162 (pc' := 164) rfl rfl ?_
    refine own_lk4 hw X15 hx hZ hby (by rw [hml]; rfl) hown at_164 (pc' := 167) rfl e15 O13.1 (W := 0) (Nat.le_of_eq rfl) (rm6 l Z a0 hw [] b9 z5 (p1 &&& (3 : Int32)) z1 (0 : Int32) T13.heap n0 Zn O13 ge_b9) (by decide) (by decide) (by decide) (by decide) (fun v16 T16 L16 X16 hQ16 => ?_)
    rcases hQ16 with ⟨Nq16, K16, rfl, ⟨hz16, O16⟩ | ⟨hz16, O16⟩⟩
    · have N16 := Fr.app N15 Nq16
      have Zn := Nat.le_trans Zn K16.1
      show own_End p e below _ (T16.setTop (mkF m 167 _ [(.int (own_exp (0 : Int32) (p1 &&& (3 : Int32)) z1 z5))]))
      refine own_istore X16 hx hby at_167 (pc' := 169) rfl (l' := #[.val (.long p0), .second, .val (.int p1), .val (.long p2), .second, .val (.long p3), .second, .val (.long p4), .second, .val (.long z1), .second, .val (.int (p1 &&& (3 : Int32))), .val (.long z3), .second, .val (.long z5), .second, .val (.long z7), .second, .val (.ref b9), .val (.int (1 : Int32)), .val (.long z1), .second, .val (.int (0 : Int32)), .val (.int (own_exp (0 : Int32) (p1 &&& (3 : Int32)) z1 z3)), .val (.int (own_exp (0 : Int32) (p1 &&& (3 : Int32)) z1 z3)), .val (.int (own_exp (0 : Int32) (p1 &&& (3 : Int32)) z1 z5)), .val (.int (own_exp (0 : Int32) (p1 &&& (3 : Int32)) z1 z5)), .unset, .unset]) rfl ?_
      refine own_iload X16 hx hby at_169 (pc' := 171) rfl rfl ?_
      refine own_ifN X16 hx hby at_171 (pc' := 174) rfl (show ¬ (1 : Int32) = (0 : Int32) by decide) ?_
      refine own_iload X16 hx hby at_174 (pc' := 176) rfl rfl ?_
      refine own_iload X16 hx hby at_176 (pc' := 178) rfl rfl ?_
      refine own_icN X16 hx hby at_178 (pc' := 181) rfl (show (own_exp (0 : Int32) (p1 &&& (3 : Int32)) z1 z5) = (own_exp (0 : Int32) (p1 &&& (3 : Int32)) z1 z5) from rfl) ?_
      refine own_iconst X16 hx hby at_181 (pc' := 182) rfl (n := (1 : Int32)) (by decide) ?_
      refine own_goto X16 hx hby at_182 (pc' := 186) (by decide) (by decide) ?_
      refine own_istore X16 hx hby at_186 (pc' := 188) rfl (l' := #[.val (.long p0), .second, .val (.int p1), .val (.long p2), .second, .val (.long p3), .second, .val (.long p4), .second, .val (.long z1), .second, .val (.int (p1 &&& (3 : Int32))), .val (.long z3), .second, .val (.long z5), .second, .val (.long z7), .second, .val (.ref b9), .val (.int (1 : Int32)), .val (.long z1), .second, .val (.int (0 : Int32)), .val (.int (own_exp (0 : Int32) (p1 &&& (3 : Int32)) z1 z3)), .val (.int (own_exp (0 : Int32) (p1 &&& (3 : Int32)) z1 z3)), .val (.int (own_exp (0 : Int32) (p1 &&& (3 : Int32)) z1 z5)), .val (.int (own_exp (0 : Int32) (p1 &&& (3 : Int32)) z1 z5)), .unset, .unset]) rfl ?_
      refine own_iload X16 hx hby at_188 (pc' := 190) rfl rfl ?_
      refine own_ifY X16 hx hby at_190 (pc' := 206) (by decide) (by decide) (show (own_exp (0 : Int32) (p1 &&& (3 : Int32)) z1 z5) = (0 : Int32) from hz16) ?_
      refine own_iload X16 hx hby at_206 (pc' := 208) rfl rfl ?_
      refine own_ifN X16 hx hby at_208 (pc' := 211) rfl (show ¬ (1 : Int32) = (0 : Int32) by decide) ?_
      refine own_aload X16 hx hby at_211 (pc' := 213) rfl rfl rfl ?_
      refine own_lk2 hw X16 hx hZ hby (by rw [hml]; rfl) hown at_213 (pc' := 216) rfl rfl O16.1 (W := 0) (Nat.le_of_eq rfl) (rm4 l Z a0 hw [] b9 (p1 &&& (3 : Int32)) z1 (0 : Int32) T16.heap n0 Zn O16) (by decide) (by decide) (by decide) (by decide) (fun v17 T17 L17 X17 hQ17 => ?_)
      obtain ⟨rfl, Nq17, e17⟩ := hQ17
      have N17 := Fr.app N16 Nq17
      show own_End p e below _ (T17.setTop (mkF m 216 _ [(.int (0 : Int32))]))
      refine own_iload X17 hx hby at_216 (pc' := 218) rfl rfl ?_
      refine own_icN X17 hx hby at_218 (pc' := 221) rfl (show (0 : Int32) = (0 : Int32) by decide) ?_
      refine own_iconst X17 hx hby at_221 (pc' := 222) rfl (n := (1 : Int32)) (by decide) ?_
      refine own_goto X17 hx hby at_222 (pc' := 226) (by decide) (by decide) ?_
      refine own_istore X17 hx hby at_226 (pc' := 228) rfl (l' := #[.val (.long p0), .second, .val (.int p1), .val (.long p2), .second, .val (.long p3), .second, .val (.long p4), .second, .val (.long z1), .second, .val (.int (p1 &&& (3 : Int32))), .val (.long z3), .second, .val (.long z5), .second, .val (.long z7), .second, .val (.ref b9), .val (.int (1 : Int32)), .val (.long z1), .second, .val (.int (0 : Int32)), .val (.int (own_exp (0 : Int32) (p1 &&& (3 : Int32)) z1 z3)), .val (.int (own_exp (0 : Int32) (p1 &&& (3 : Int32)) z1 z3)), .val (.int (own_exp (0 : Int32) (p1 &&& (3 : Int32)) z1 z5)), .val (.int (own_exp (0 : Int32) (p1 &&& (3 : Int32)) z1 z5)), .unset, .unset]) rfl ?_
      refine own_iload X17 hx hby at_228 (pc' := 230) rfl rfl ?_
      refine own_iload X17 hx hby at_230 (pc' := 232) rfl rfl ?_
      refine own_lload X17 hx hby at_232 (pc' := 234) rfl rfl ?_
      refine own_lload X17 hx hby at_234 (pc' := 236) rfl rfl ?_
      refine own_lk3 hw X17 hx hZ hby (by rw [hml]; rfl) hown at_236 (pc' := 239) rfl e17 (W := 0) (Nat.le_of_eq rfl) (rm5 l Z a0 hw [] (0 : Int32) (p1 &&& (3 : Int32)) z1 z7 T16.heap n0 Zn ) (by decide) (by decide) (by decide) (by decide) (fun v18 T18 L18 X18 hQ18 => ?_)
      obtain ⟨rfl, Nq18, e18⟩ := hQ18
      have N18 := Fr.app N17 Nq18
      show own_End p e below _ (T18.setTop (mkF m 239 _ [(.int (own_exp (0 : Int32) (p1 &&& (3 : Int32)) z1 z7))]))
      refine own_istore X18 hx hby at_239 (pc' := 241) rfl (l' := #[.val (.long p0), .second, .val (.int p1), .val (.long p2), .second, .val (.long p3), .second, .val (.long p4), .second, .val (.long z1), .second, .val (.int (p1 &&& (3 : Int32))), .val (.long z3), .second, .val (.long z5), .second, .val (.long z7), .second, .val (.ref b9), .val (.int (1 : Int32)), .val (.long z1), .second, .val (.int (0 : Int32)), .val (.int (own_exp (0 : Int32) (p1 &&& (3 : Int32)) z1 z3)), .val (.int (own_exp (0 : Int32) (p1 &&& (3 : Int32)) z1 z3)), .val (.int (own_exp (0 : Int32) (p1 &&& (3 : Int32)) z1 z5)), .val (.int (own_exp (0 : Int32) (p1 &&& (3 : Int32)) z1 z5)), .val (.int (own_exp (0 : Int32) (p1 &&& (3 : Int32)) z1 z7)), .unset]) rfl ?_
      refine own_aload X18 hx hby at_241 (pc' := 243) rfl rfl rfl ?_
      refine own_lload X18 hx hby at_243 (pc' := 245) rfl rfl ?_
      refine own_lk4 hw X18 hx hZ hby (by rw [hml]; rfl) hown at_245 (pc' := 248) rfl e18 O16.1 (W := 0) (Nat.le_of_eq rfl) (rm6 l Z a0 hw [] b9 z7 (p1 &&& (3 : Int32)) z1 (0 : Int32) T16.heap n0 Zn O16 ge_b9) (by decide) (by decide) (by decide) (by decide) (fun v19 T19 L19 X19 hQ19 => ?_)
      rcases hQ19 with ⟨Nq19, K19, rfl, ⟨hz19, O19⟩ | ⟨hz19, O19⟩⟩
      · have N19 := Fr.app N18 Nq19
        have Zn := Nat.le_trans Zn K19.1
        show own_End p e below _ (T19.setTop (mkF m 248 _ [(.int (own_exp (0 : Int32) (p1 &&& (3 : Int32)) z1 z7))]))
        refine own_istore X19 hx hby at_248 (pc' := 250) rfl (l' := #[.val (.long p0), .second, .val (.int p1), .val (.long p2), .second, .val (.long p3), .second, .val (.long p4), .second, .val (.long z1), .second, .val (.int (p1 &&& (3 : Int32))), .val (.long z3), .second, .val (.long z5), .second, .val (.long z7), .second, .val (.ref b9), .val (.int (1 : Int32)), .val (.long z1), .second, .val (.int (0 : Int32)), .val (.int (own_exp (0 : Int32) (p1 &&& (3 : Int32)) z1 z3)), .val (.int (own_exp (0 : Int32) (p1 &&& (3 : Int32)) z1 z3)), .val (.int (own_exp (0 : Int32) (p1 &&& (3 : Int32)) z1 z5)), .val (.int (own_exp (0 : Int32) (p1 &&& (3 : Int32)) z1 z5)), .val (.int (own_exp (0 : Int32) (p1 &&& (3 : Int32)) z1 z7)), .val (.int (own_exp (0 : Int32) (p1 &&& (3 : Int32)) z1 z7))]) rfl ?_
        refine own_iload X19 hx hby at_250 (pc' := 252) rfl rfl ?_
        refine own_ifN X19 hx hby at_252 (pc' := 255) rfl (show ¬ (1 : Int32) = (0 : Int32) by decide) ?_
        refine own_iload X19 hx hby at_255 (pc' := 257) rfl rfl ?_
        refine own_iload X19 hx hby at_257 (pc' := 259) rfl rfl ?_
        refine own_icN X19 hx hby at_259 (pc' := 262) rfl (show (own_exp (0 : Int32) (p1 &&& (3 : Int32)) z1 z7) = (own_exp (0 : Int32) (p1 &&& (3 : Int32)) z1 z7) from rfl) ?_
        refine own_iconst X19 hx hby at_262 (pc' := 263) rfl (n := (1 : Int32)) (by decide) ?_
        refine own_goto X19 hx hby at_263 (pc' := 267) (by decide) (by decide) ?_
        refine own_istore X19 hx hby at_267 (pc' := 269) rfl (l' := #[.val (.long p0), .second, .val (.int p1), .val (.long p2), .second, .val (.long p3), .second, .val (.long p4), .second, .val (.long z1), .second, .val (.int (p1 &&& (3 : Int32))), .val (.long z3), .second, .val (.long z5), .second, .val (.long z7), .second, .val (.ref b9), .val (.int (1 : Int32)), .val (.long z1), .second, .val (.int (0 : Int32)), .val (.int (own_exp (0 : Int32) (p1 &&& (3 : Int32)) z1 z3)), .val (.int (own_exp (0 : Int32) (p1 &&& (3 : Int32)) z1 z3)), .val (.int (own_exp (0 : Int32) (p1 &&& (3 : Int32)) z1 z5)), .val (.int (own_exp (0 : Int32) (p1 &&& (3 : Int32)) z1 z5)), .val (.int (own_exp (0 : Int32) (p1 &&& (3 : Int32)) z1 z7)), .val (.int (own_exp (0 : Int32) (p1 &&& (3 : Int32)) z1 z7))]) rfl ?_
        refine own_iload X19 hx hby at_269 (pc' := 271) rfl rfl ?_
        refine own_ifY X19 hx hby at_271 (pc' := 287) (by decide) (by decide) (show (own_exp (0 : Int32) (p1 &&& (3 : Int32)) z1 z7) = (0 : Int32) from hz19) ?_
        refine own_iload X19 hx hby at_287 (pc' := 289) rfl rfl ?_
        refine own_ifN X19 hx hby at_289 (pc' := 292) rfl (show ¬ (1 : Int32) = (0 : Int32) by decide) ?_
        refine own_aload X19 hx hby at_292 (pc' := 294) rfl rfl rfl ?_
        refine own_lk2 hw X19 hx hZ hby (by rw [hml]; rfl) hown at_294 (pc' := 297) rfl rfl O19.1 (W := 0) (Nat.le_of_eq rfl) (rm4 l Z a0 hw [] b9 (p1 &&& (3 : Int32)) z1 (0 : Int32) T19.heap n0 Zn O19) (by decide) (by decide) (by decide) (by decide) (fun v20 T20 L20 X20 hQ20 => ?_)
        obtain ⟨rfl, Nq20, e20⟩ := hQ20
        have N20 := Fr.app N19 Nq20
        show own_End p e below _ (T20.setTop (mkF m 297 _ [(.int (0 : Int32))]))
        refine own_iload X20 hx hby at_297 (pc' := 299) rfl rfl ?_
        refine own_icN X20 hx hby at_299 (pc' := 302) rfl (show (0 : Int32) = (0 : Int32) by decide) ?_
        refine own_iconst X20 hx hby at_302 (pc' := 303) rfl (n := (1 : Int32)) (by decide) ?_
        refine own_goto X20 hx hby at_303 (pc' := 307) (by decide) (by decide) ?_
        refine own_istore X20 hx hby at_307 (pc' := 309) rfl (l' := #[.val (.long p0), .second, .val (.int p1), .val (.long p2), .second, .val (.long p3), .second, .val (.long p4), .second, .val (.long z1), .second, .val (.int (p1 &&& (3 : Int32))), .val (.long z3), .second, .val (.long z5), .second, .val (.long z7), .second, .val (.ref b9), .val (.int (1 : Int32)), .val (.long z1), .second, .val (.int (0 : Int32)), .val (.int (own_exp (0 : Int32) (p1 &&& (3 : Int32)) z1 z3)), .val (.int (own_exp (0 : Int32) (p1 &&& (3 : Int32)) z1 z3)), .val (.int (own_exp (0 : Int32) (p1 &&& (3 : Int32)) z1 z5)), .val (.int (own_exp (0 : Int32) (p1 &&& (3 : Int32)) z1 z5)), .val (.int (own_exp (0 : Int32) (p1 &&& (3 : Int32)) z1 z7)), .val (.int (own_exp (0 : Int32) (p1 &&& (3 : Int32)) z1 z7))]) rfl ?_
        refine own_iload X20 hx hby at_309 (pc' := 311) rfl rfl ?_
        refine own_zreturn X20 hx hlk hby hret (Or.inr rfl) at_311 (own_lv ?_ (by decide) (by decide))
        show Q0 Z p0 p1 p2 p3 p4  h0 n0 (some (.int (1 : Int32))) T20.heap _
        rw [e20]
        exact ⟨rfl, N20⟩
      · have N19 := Fr.app N18 Nq19
        have Zn := Nat.le_trans Zn K19.1
        show own_End p e below _ (T19.setTop (mkF m 248 _ [(.int (own_exp (0 : Int32) (p1 &&& (3 : Int32)) z1 z7))]))
        refine own_istore X19 hx hby at_248 (pc' := 250) rfl (l' := #[.val (.long p0), .second, .val (.int p1), .val (.long p2), .second, .val (.long p3), .second, .val (.long p4), .second, .val (.long z1), .second, .val (.int (p1 &&& (3 : Int32))), .val (.long z3), .second, .val (.long z5), .second, .val (.long z7), .second, .val (.ref b9), .val (.int (1 : Int32)), .val (.long z1), .second, .val (.int (0 : Int32)), .val (.int (own_exp (0 : Int32) (p1 &&& (3 : Int32)) z1 z3)), .val (.int (own_exp (0 : Int32) (p1 &&& (3 : Int32)) z1 z3)), .val (.int (own_exp (0 : Int32) (p1 &&& (3 : Int32)) z1 z5)), .val (.int (own_exp (0 : Int32) (p1 &&& (3 : Int32)) z1 z5)), .val (.int (own_exp (0 : Int32) (p1 &&& (3 : Int32)) z1 z7)), .val (.int (own_exp (0 : Int32) (p1 &&& (3 : Int32)) z1 z7))]) rfl ?_
        refine own_iload X19 hx hby at_250 (pc' := 252) rfl rfl ?_
        refine own_ifN X19 hx hby at_252 (pc' := 255) rfl (show ¬ (1 : Int32) = (0 : Int32) by decide) ?_
        refine own_iload X19 hx hby at_255 (pc' := 257) rfl rfl ?_
        refine own_iload X19 hx hby at_257 (pc' := 259) rfl rfl ?_
        refine own_icN X19 hx hby at_259 (pc' := 262) rfl (show (own_exp (0 : Int32) (p1 &&& (3 : Int32)) z1 z7) = (own_exp (0 : Int32) (p1 &&& (3 : Int32)) z1 z7) from rfl) ?_
        refine own_iconst X19 hx hby at_262 (pc' := 263) rfl (n := (1 : Int32)) (by decide) ?_
        refine own_goto X19 hx hby at_263 (pc' := 267) (by decide) (by decide) ?_
        refine own_istore X19 hx hby at_267 (pc' := 269) rfl (l' := #[.val (.long p0), .second, .val (.int p1), .val (.long p2), .second, .val (.long p3), .second, .val (.long p4), .second, .val (.long z1), .second, .val (.int (p1 &&& (3 : Int32))), .val (.long z3), .second, .val (.long z5), .second, .val (.long z7), .second, .val (.ref b9), .val (.int (1 : Int32)), .val (.long z1), .second, .val (.int (0 : Int32)), .val (.int (own_exp (0 : Int32) (p1 &&& (3 : Int32)) z1 z3)), .val (.int (own_exp (0 : Int32) (p1 &&& (3 : Int32)) z1 z3)), .val (.int (own_exp (0 : Int32) (p1 &&& (3 : Int32)) z1 z5)), .val (.int (own_exp (0 : Int32) (p1 &&& (3 : Int32)) z1 z5)), .val (.int (own_exp (0 : Int32) (p1 &&& (3 : Int32)) z1 z7)), .val (.int (own_exp (0 : Int32) (p1 &&& (3 : Int32)) z1 z7))]) rfl ?_
        refine own_iload X19 hx hby at_269 (pc' := 271) rfl rfl ?_
        refine own_ifN X19 hx hby at_271 (pc' := 274) rfl (show ¬ (own_exp (0 : Int32) (p1 &&& (3 : Int32)) z1 z7) = (0 : Int32) from hz19) ?_
        refine own_lload X19 hx hby at_274 (pc' := 276) rfl rfl ?_
        refine own_lload X19 hx hby at_276 (pc' := 278) rfl rfl ?_
        refine own_ladd X19 hx hby at_278 (pc' := 279) rfl ?_
        refine own_lstore X19 hx hby at_279 (pc' := 281) rfl (l' := #[.val (.long p0), .second, .val (.int p1), .val (.long p2), .second, .val (.long p3), .second, .val (.long p4), .second, .val (.long z1), .second, .val (.int (p1 &&& (3 : Int32))), .val (.long z3), .second, .val (.long z5), .second, .val (.long z7), .second, .val (.ref b9), .val (.int (1 : Int32)), .val (.long (z1 + z7)), .second, .val (.int (0 : Int32)), .val (.int (own_exp (0 : Int32) (p1 &&& (3 : Int32)) z1 z3)), .val (.int (own_exp (0 : Int32) (p1 &&& (3 : Int32)) z1 z3)), .val (.int (own_exp (0 : Int32) (p1 &&& (3 : Int32)) z1 z5)), .val (.int (own_exp (0 : Int32) (p1 &&& (3 : Int32)) z1 z5)), .val (.int (own_exp (0 : Int32) (p1 &&& (3 : Int32)) z1 z7)), .val (.int (own_exp (0 : Int32) (p1 &&& (3 : Int32)) z1 z7))]) rfl ?_
        refine own_iload X19 hx hby at_281 (pc' := 283) rfl rfl ?_
        refine own_iconst X19 hx hby at_283 (pc' := 284) rfl (n := (1 : Int32)) (by decide) ?_
        refine own_iadd X19 hx hby at_284 (pc' := 285) rfl ?_
        refine own_istore X19 hx hby at_285 (pc' := 287) rfl (l' := #[.val (.long p0), .second, .val (.int p1), .val (.long p2), .second, .val (.long p3), .second, .val (.long p4), .second, .val (.long z1), .second, .val (.int (p1 &&& (3 : Int32))), .val (.long z3), .second, .val (.long z5), .second, .val (.long z7), .second, .val (.ref b9), .val (.int (1 : Int32)), .val (.long (z1 + z7)), .second, .val (.int ((0 : Int32) + (1 : Int32))), .val (.int (own_exp (0 : Int32) (p1 &&& (3 : Int32)) z1 z3)), .val (.int (own_exp (0 : Int32) (p1 &&& (3 : Int32)) z1 z3)), .val (.int (own_exp (0 : Int32) (p1 &&& (3 : Int32)) z1 z5)), .val (.int (own_exp (0 : Int32) (p1 &&& (3 : Int32)) z1 z5)), .val (.int (own_exp (0 : Int32) (p1 &&& (3 : Int32)) z1 z7)), .val (.int (own_exp (0 : Int32) (p1 &&& (3 : Int32)) z1 z7))]) rfl ?_
        refine own_iload X19 hx hby at_287 (pc' := 289) rfl rfl ?_
        refine own_ifN X19 hx hby at_289 (pc' := 292) rfl (show ¬ (1 : Int32) = (0 : Int32) by decide) ?_
        refine own_aload X19 hx hby at_292 (pc' := 294) rfl rfl rfl ?_
        refine own_lk2 hw X19 hx hZ hby (by rw [hml]; rfl) hown at_294 (pc' := 297) rfl rfl O19.1 (W := 0) (Nat.le_of_eq rfl) (rm4 l Z a0 hw [] b9 (p1 &&& (3 : Int32)) (z1 + z7) ((0 : Int32) + (1 : Int32)) T19.heap n0 Zn O19) (by decide) (by decide) (by decide) (by decide) (fun v21 T21 L21 X21 hQ21 => ?_)
        obtain ⟨rfl, Nq21, e21⟩ := hQ21
        have N21 := Fr.app N19 Nq21
        show own_End p e below _ (T21.setTop (mkF m 297 _ [(.int ((0 : Int32) + (1 : Int32)))]))
        refine own_iload X21 hx hby at_297 (pc' := 299) rfl rfl ?_
        refine own_icN X21 hx hby at_299 (pc' := 302) rfl (show ((0 : Int32) + (1 : Int32)) = ((0 : Int32) + (1 : Int32)) from rfl) ?_
        refine own_iconst X21 hx hby at_302 (pc' := 303) rfl (n := (1 : Int32)) (by decide) ?_
        refine own_goto X21 hx hby at_303 (pc' := 307) (by decide) (by decide) ?_
        refine own_istore X21 hx hby at_307 (pc' := 309) rfl (l' := #[.val (.long p0), .second, .val (.int p1), .val (.long p2), .second, .val (.long p3), .second, .val (.long p4), .second, .val (.long z1), .second, .val (.int (p1 &&& (3 : Int32))), .val (.long z3), .second, .val (.long z5), .second, .val (.long z7), .second, .val (.ref b9), .val (.int (1 : Int32)), .val (.long (z1 + z7)), .second, .val (.int ((0 : Int32) + (1 : Int32))), .val (.int (own_exp (0 : Int32) (p1 &&& (3 : Int32)) z1 z3)), .val (.int (own_exp (0 : Int32) (p1 &&& (3 : Int32)) z1 z3)), .val (.int (own_exp (0 : Int32) (p1 &&& (3 : Int32)) z1 z5)), .val (.int (own_exp (0 : Int32) (p1 &&& (3 : Int32)) z1 z5)), .val (.int (own_exp (0 : Int32) (p1 &&& (3 : Int32)) z1 z7)), .val (.int (own_exp (0 : Int32) (p1 &&& (3 : Int32)) z1 z7))]) rfl ?_
        refine own_iload X21 hx hby at_309 (pc' := 311) rfl rfl ?_
        refine own_zreturn X21 hx hlk hby hret (Or.inr rfl) at_311 (own_lv ?_ (by decide) (by decide))
        show Q0 Z p0 p1 p2 p3 p4  h0 n0 (some (.int (1 : Int32))) T21.heap _
        rw [e21]
        exact ⟨rfl, N21⟩
    · have N16 := Fr.app N15 Nq16
      have Zn := Nat.le_trans Zn K16.1
      show own_End p e below _ (T16.setTop (mkF m 167 _ [(.int (own_exp (0 : Int32) (p1 &&& (3 : Int32)) z1 z5))]))
      refine own_istore X16 hx hby at_167 (pc' := 169) rfl (l' := #[.val (.long p0), .second, .val (.int p1), .val (.long p2), .second, .val (.long p3), .second, .val (.long p4), .second, .val (.long z1), .second, .val (.int (p1 &&& (3 : Int32))), .val (.long z3), .second, .val (.long z5), .second, .val (.long z7), .second, .val (.ref b9), .val (.int (1 : Int32)), .val (.long z1), .second, .val (.int (0 : Int32)), .val (.int (own_exp (0 : Int32) (p1 &&& (3 : Int32)) z1 z3)), .val (.int (own_exp (0 : Int32) (p1 &&& (3 : Int32)) z1 z3)), .val (.int (own_exp (0 : Int32) (p1 &&& (3 : Int32)) z1 z5)), .val (.int (own_exp (0 : Int32) (p1 &&& (3 : Int32)) z1 z5)), .unset, .unset]) rfl ?_
      refine own_iload X16 hx hby at_169 (pc' := 171) rfl rfl ?_
      refine own_ifN X16 hx hby at_171 (pc' := 174) rfl (show ¬ (1 : Int32) = (0 : Int32) by decide) ?_
      refine own_iload X16 hx hby at_174 (pc' := 176) rfl rfl ?_
      refine own_iload X16 hx hby at_176 (pc' := 178) rfl rfl ?_
      refine own_icN X16 hx hby at_178 (pc' := 181) rfl (show (own_exp (0 : Int32) (p1 &&& (3 : Int32)) z1 z5) = (own_exp (0 : Int32) (p1 &&& (3 : Int32)) z1 z5) from rfl) ?_
      refine own_iconst X16 hx hby at_181 (pc' := 182) rfl (n := (1 : Int32)) (by decide) ?_
      refine own_goto X16 hx hby at_182 (pc' := 186) (by decide) (by decide) ?_
      refine own_istore X16 hx hby at_186 (pc' := 188) rfl (l' := #[.val (.long p0), .second, .val (.int p1), .val (.long p2), .second, .val (.long p3), .second, .val (.long p4), .second, .val (.long z1), .second, .val (.int (p1 &&& (3 : Int32))), .val (.long z3), .second, .val (.long z5), .second, .val (.long z7), .second, .val (.ref b9), .val (.int (1 : Int32)), .val (.long z1), .second, .val (.int (0 : Int32)), .val (.int (own_exp (0 : Int32) (p1 &&& (3 : Int32)) z1 z3)), .val (.int (own_exp (0 : Int32) (p1 &&& (3 : Int32)) z1 z3)), .val (.int (own_exp (0 : Int32) (p1 &&& (3 : Int32)) z1 z5)), .val (.int (own_exp (0 : Int32) (p1 &&& (3 : Int32)) z1 z5)), .unset, .unset]) rfl ?_
      refine own_iload X16 hx hby at_188 (pc' := 190) rfl rfl ?_
      refine own_ifN X16 hx hby at_190 (pc' := 193) rfl (show ¬ (own_exp (0 : Int32) (p1 &&& (3 : Int32)) z1 z5) = (0 : Int32) from hz16) ?_
      refine own_lload X16 hx hby at_193 (pc' := 195) rfl rfl ?_
      refine own_lload X16 hx hby at_195 (pc' := 197) rfl rfl ?_
      refine own_ladd X16 hx hby at_197 (pc' := 198) rfl ?_
      refine own_lstore X16 hx hby at_198 (pc' := 200) rfl (l' := #[.val (.long p0), .second, .val (.int p1), .val (.long p2), .second, .val (.long p3), .second, .val (.long p4), .second, .val (.long z1), .second, .val (.int (p1 &&& (3 : Int32))), .val (.long z3), .second, .val (.long z5), .second, .val (.long z7), .second, .val (.ref b9), .val (.int (1 : Int32)), .val (.long (z1 + z5)), .second, .val (.int (0 : Int32)), .val (.int (own_exp (0 : Int32) (p1 &&& (3 : Int32)) z1 z3)), .val (.int (own_exp (0 : Int32) (p1 &&& (3 : Int32)) z1 z3)), .val (.int (own_exp (0 : Int32) (p1 &&& (3 : Int32)) z1 z5)), .val (.int (own_exp (0 : Int32) (p1 &&& (3 : Int32)) z1 z5)), .unset, .unset]) rfl ?_
      refine own_iload X16 hx hby at_200 (pc' := 202) rfl rfl ?_
      refine own_iconst X16 hx hby at_202 (pc' := 203) rfl (n := (1 : Int32)) (by decide) ?_
      refine own_iadd X16 hx hby at_203 (pc' := 204) rfl ?_
      refine own_istore X16 hx hby at_204 (pc' := 206) rfl (l' := #[.val (.long p0), .second, .val (.int p1), .val (.long p2), .second, .val (.long p3), .second, .val (.long p4), .second, .val (.long z1), .second, .val (.int (p1 &&& (3 : Int32))), .val (.long z3), .second, .val (.long z5), .second, .val (.long z7), .second, .val (.ref b9), .val (.int (1 : Int32)), .val (.long (z1 + z5)), .second, .val (.int ((0 : Int32) + (1 : Int32))), .val (.int (own_exp (0 : Int32) (p1 &&& (3 : Int32)) z1 z3)), .val (.int (own_exp (0 : Int32) (p1 &&& (3 : Int32)) z1 z3)), .val (.int (own_exp (0 : Int32) (p1 &&& (3 : Int32)) z1 z5)), .val (.int (own_exp (0 : Int32) (p1 &&& (3 : Int32)) z1 z5)), .unset, .unset]) rfl ?_
      refine own_iload X16 hx hby at_206 (pc' := 208) rfl rfl ?_
      refine own_ifN X16 hx hby at_208 (pc' := 211) rfl (show ¬ (1 : Int32) = (0 : Int32) by decide) ?_
      refine own_aload X16 hx hby at_211 (pc' := 213) rfl rfl rfl ?_
      refine own_lk2 hw X16 hx hZ hby (by rw [hml]; rfl) hown at_213 (pc' := 216) rfl rfl O16.1 (W := 0) (Nat.le_of_eq rfl) (rm4 l Z a0 hw [] b9 (p1 &&& (3 : Int32)) (z1 + z5) ((0 : Int32) + (1 : Int32)) T16.heap n0 Zn O16) (by decide) (by decide) (by decide) (by decide) (fun v22 T22 L22 X22 hQ22 => ?_)
      obtain ⟨rfl, Nq22, e22⟩ := hQ22
      have N22 := Fr.app N16 Nq22
      show own_End p e below _ (T22.setTop (mkF m 216 _ [(.int ((0 : Int32) + (1 : Int32)))]))
      refine own_iload X22 hx hby at_216 (pc' := 218) rfl rfl ?_
      refine own_icN X22 hx hby at_218 (pc' := 221) rfl (show ((0 : Int32) + (1 : Int32)) = ((0 : Int32) + (1 : Int32)) from rfl) ?_
      refine own_iconst X22 hx hby at_221 (pc' := 222) rfl (n := (1 : Int32)) (by decide) ?_
      refine own_goto X22 hx hby at_222 (pc' := 226) (by decide) (by decide) ?_
      refine own_istore X22 hx hby at_226 (pc' := 228) rfl (l' := #[.val (.long p0), .second, .val (.int p1), .val (.long p2), .second, .val (.long p3), .second, .val (.long p4), .second, .val (.long z1), .second, .val (.int (p1 &&& (3 : Int32))), .val (.long z3), .second, .val (.long z5), .second, .val (.long z7), .second, .val (.ref b9), .val (.int (1 : Int32)), .val (.long (z1 + z5)), .second, .val (.int ((0 : Int32) + (1 : Int32))), .val (.int (own_exp (0 : Int32) (p1 &&& (3 : Int32)) z1 z3)), .val (.int (own_exp (0 : Int32) (p1 &&& (3 : Int32)) z1 z3)), .val (.int (own_exp (0 : Int32) (p1 &&& (3 : Int32)) z1 z5)), .val (.int (own_exp (0 : Int32) (p1 &&& (3 : Int32)) z1 z5)), .unset, .unset]) rfl ?_
      refine own_iload X22 hx hby at_228 (pc' := 230) rfl rfl ?_
      refine own_iload X22 hx hby at_230 (pc' := 232) rfl rfl ?_
      refine own_lload X22 hx hby at_232 (pc' := 234) rfl rfl ?_
      refine own_lload X22 hx hby at_234 (pc' := 236) rfl rfl ?_
      refine own_lk3 hw X22 hx hZ hby (by rw [hml]; rfl) hown at_236 (pc' := 239) rfl e22 (W := 0) (Nat.le_of_eq rfl) (rm5 l Z a0 hw [] ((0 : Int32) + (1 : Int32)) (p1 &&& (3 : Int32)) (z1 + z5) z7 T16.heap n0 Zn ) (by decide) (by decide) (by decide) (by decide) (fun v23 T23 L23 X23 hQ23 => ?_)
      obtain ⟨rfl, Nq23, e23⟩ := hQ23
      have N23 := Fr.app N22 Nq23
      show own_End p e below _ (T23.setTop (mkF m 239 _ [(.int (own_exp ((0 : Int32) + (1 : Int32)) (p1 &&& (3 : Int32)) (z1 + z5) z7))]))
      refine own_istore X23 hx hby at_239 (pc' := 241) rfl (l' := #[.val (.long p0), .second, .val (.int p1), .val (.long p2), .second, .val (.long p3), .second, .val (.long p4), .second, .val (.long z1), .second, .val (.int (p1 &&& (3 : Int32))), .val (.long z3), .second, .val (.long z5), .second, .val (.long z7), .second, .val (.ref b9), .val (.int (1 : Int32)), .val (.long (z1 + z5)), .second, .val (.int ((0 : Int32) + (1 : Int32))), .val (.int (own_exp (0 : Int32) (p1 &&& (3 : Int32)) z1 z3)), .val (.int (own_exp (0 : Int32) (p1 &&& (3 : Int32)) z1 z3)), .val (.int (own_exp (0 : Int32) (p1 &&& (3 : Int32)) z1 z5)), .val (.int (own_exp (0 : Int32) (p1 &&& (3 : Int32)) z1 z5)), .val (.int (own_exp ((0 : Int32) + (1 : Int32)) (p1 &&& (3 : Int32)) (z1 + z5) z7)), .unset]) rfl ?_
      refine own_aload X23 hx hby at_241 (pc' := 243) rfl rfl rfl ?_
      refine own_lload X23 hx hby at_243 (pc' := 245) rfl rfl ?_
      refine own_lk4 hw X23 hx hZ hby (by rw [hml]; rfl) hown at_245 (pc' := 248) rfl e23 O16.1 (W := 0) (Nat.le_of_eq rfl) (rm6 l Z a0 hw [] b9 z7 (p1 &&& (3 : Int32)) (z1 + z5) ((0 : Int32) + (1 : Int32)) T16.heap n0 Zn O16 ge_b9) (by decide) (by decide) (by decide) (by decide) (fun v24 T24 L24 X24 hQ24 => ?_)
      rcases hQ24 with ⟨Nq24, K24, rfl, ⟨hz24, O24⟩ | ⟨hz24, O24⟩⟩
      · have N24 := Fr.app N23 Nq24
        have Zn := Nat.le_trans Zn K24.1
        show own_End p e below _ (T24.setTop (mkF m 248 _ [(.int (own_exp ((0 : Int32) + (1 : Int32)) (p1 &&& (3 : Int32)) (z1 + z5) z7))]))
        refine own_istore X24 hx hby at_248 (pc' := 250) rfl (l' := #[.val (.long p0), .second, .val (.int p1), .val (.long p2), .second, .val (.long p3), .second, .val (.long p4), .second, .val (.long z1), .second, .val (.int (p1 &&& (3 : Int32))), .val (.long z3), .second, .val (.long z5), .second, .val (.long z7), .second, .val (.ref b9), .val (.int (1 : Int32)), .val (.long (z1 + z5)), .second, .val (.int ((0 : Int32) + (1 : Int32))), .val (.int (own_exp (0 : Int32) (p1 &&& (3 : Int32)) z1 z3)), .val (.int (own_exp (0 : Int32) (p1 &&& (3 : Int32)) z1 z3)), .val (.int (own_exp (0 : Int32) (p1 &&& (3 : Int32)) z1 z5)), .val (.int (own_exp (0 : Int32) (p1 &&& (3 : Int32)) z1 z5)), .val (.int (own_exp ((0 : Int32) + (1 : Int32)) (p1 &&& (3 : Int32)) (z1 + z5) z7)), .val (.int (own_exp ((0 : Int32) + (1 : Int32)) (p1 &&& (3 : Int32)) (z1 + z5) z7))]) rfl ?_
        refine own_iload X24 hx hby at_250 (pc' := 252) rfl rfl ?_
        refine own_ifN X24 hx hby at_252 (pc' := 255) rfl (show ¬ (1 : Int32) = (0 : Int32) by decide) ?_
        refine own_iload X24 hx hby at_255 (pc' := 257) rfl rfl ?_
        refine own_iload X24 hx hby at_257 (pc' := 259) rfl rfl ?_
        refine own_icN X24 hx hby at_259 (pc' := 262) rfl (show (own_exp ((0 : Int32) + (1 : Int32)) (p1 &&& (3 : Int32)) (z1 + z5) z7) = (own_exp ((0 : Int32) + (1 : Int32)) (p1 &&& (3 : Int32)) (z1 + z5) z7) from rfl) ?_
        refine own_iconst X24 hx hby at_262 (pc' := 263) rfl (n := (1 : Int32)) (by decide) ?_
        refine own_goto X24 hx hby at_263 (pc' := 267) (by decide) (by decide) ?_
        refine own_istore X24 hx hby at_267 (pc' := 269) rfl (l' := #[.val (.long p0), .second, .val (.int p1), .val (.long p2), .second, .val (.long p3), .second, .val (.long p4), .second, .val (.long z1), .second, .val (.int (p1 &&& (3 : Int32))), .val (.long z3), .second, .val (.long z5), .second, .val (.long z7), .second, .val (.ref b9), .val (.int (1 : Int32)), .val (.long (z1 + z5)), .second, .val (.int ((0 : Int32) + (1 : Int32))), .val (.int (own_exp (0 : Int32) (p1 &&& (3 : Int32)) z1 z3)), .val (.int (own_exp (0 : Int32) (p1 &&& (3 : Int32)) z1 z3)), .val (.int (own_exp (0 : Int32) (p1 &&& (3 : Int32)) z1 z5)), .val (.int (own_exp (0 : Int32) (p1 &&& (3 : Int32)) z1 z5)), .val (.int (own_exp ((0 : Int32) + (1 : Int32)) (p1 &&& (3 : Int32)) (z1 + z5) z7)), .val (.int (own_exp ((0 : Int32) + (1 : Int32)) (p1 &&& (3 : Int32)) (z1 + z5) z7))]) rfl ?_
        refine own_iload X24 hx hby at_269 (pc' := 271) rfl rfl ?_
        refine own_ifY X24 hx hby at_271 (pc' := 287) (by decide) (by decide) (show (own_exp ((0 : Int32) + (1 : Int32)) (p1 &&& (3 : Int32)) (z1 + z5) z7) = (0 : Int32) from hz24) ?_
        refine own_iload X24 hx hby at_287 (pc' := 289) rfl rfl ?_
        refine own_ifN X24 hx hby at_289 (pc' := 292) rfl (show ¬ (1 : Int32) = (0 : Int32) by decide) ?_
        refine own_aload X24 hx hby at_292 (pc' := 294) rfl rfl rfl ?_
        refine own_lk2 hw X24 hx hZ hby (by rw [hml]; rfl) hown at_294 (pc' := 297) rfl rfl O24.1 (W := 0) (Nat.le_of_eq rfl) (rm4 l Z a0 hw [] b9 (p1 &&& (3 : Int32)) (z1 + z5) ((0 : Int32) + (1 : Int32)) T24.heap n0 Zn O24) (by decide) (by decide) (by decide) (by decide) (fun v25 T25 L25 X25 hQ25 => ?_)
        obtain ⟨rfl, Nq25, e25⟩ := hQ25
        have N25 := Fr.app N24 Nq25
        show own_End p e below _ (T25.setTop (mkF m 297 _ [(.int ((0 : Int32) + (1 : Int32)))]))
        refine own_iload X25 hx hby at_297 (pc' := 299) rfl rfl ?_
        refine own_icN X25 hx hby at_299 (pc' := 302) rfl (show ((0 : Int32) + (1 : Int32)) = ((0 : Int32) + (1 : Int32)) from rfl) ?_
        refine own_iconst X25 hx hby at_302 (pc' := 303) rfl (n := (1 : Int32)) (by decide) ?_
        refine own_goto X25 hx hby at_303 (pc' := 307) (by decide) (by decide) ?_
        refine own_istore X25 hx hby at_307 (pc' := 309) rfl (l' := #[.val (.long p0), .second, .val (.int p1), .val (.long p2), .second, .val (.long p3), .second, .val (.long p4), .second, .val (.long z1), .second, .val (.int (p1 &&& (3 : Int32))), .val (.long z3), .second, .val (.long z5), .second, .val (.long z7), .second, .val (.ref b9), .val (.int (1 : Int32)), .val (.long (z1 + z5)), .second, .val (.int ((0 : Int32) + (1 : Int32))), .val (.int (own_exp (0 : Int32) (p1 &&& (3 : Int32)) z1 z3)), .val (.int (own_exp (0 : Int32) (p1 &&& (3 : Int32)) z1 z3)), .val (.int (own_exp (0 : Int32) (p1 &&& (3 : Int32)) z1 z5)), .val (.int (own_exp (0 : Int32) (p1 &&& (3 : Int32)) z1 z5)), .val (.int (own_exp ((0 : Int32) + (1 : Int32)) (p1 &&& (3 : Int32)) (z1 + z5) z7)), .val (.int (own_exp ((0 : Int32) + (1 : Int32)) (p1 &&& (3 : Int32)) (z1 + z5) z7))]) rfl ?_
        refine own_iload X25 hx hby at_309 (pc' := 311) rfl rfl ?_
        refine own_zreturn X25 hx hlk hby hret (Or.inr rfl) at_311 (own_lv ?_ (by decide) (by decide))
        show Q0 Z p0 p1 p2 p3 p4  h0 n0 (some (.int (1 : Int32))) T25.heap _
        rw [e25]
        exact ⟨rfl, N25⟩
      · have N24 := Fr.app N23 Nq24
        have Zn := Nat.le_trans Zn K24.1
        show own_End p e below _ (T24.setTop (mkF m 248 _ [(.int (own_exp ((0 : Int32) + (1 : Int32)) (p1 &&& (3 : Int32)) (z1 + z5) z7))]))
        refine own_istore X24 hx hby at_248 (pc' := 250) rfl (l' := #[.val (.long p0), .second, .val (.int p1), .val (.long p2), .second, .val (.long p3), .second, .val (.long p4), .second, .val (.long z1), .second, .val (.int (p1 &&& (3 : Int32))), .val (.long z3), .second, .val (.long z5), .second, .val (.long z7), .second, .val (.ref b9), .val (.int (1 : Int32)), .val (.long (z1 + z5)), .second, .val (.int ((0 : Int32) + (1 : Int32))), .val (.int (own_exp (0 : Int32) (p1 &&& (3 : Int32)) z1 z3)), .val (.int (own_exp (0 : Int32) (p1 &&& (3 : Int32)) z1 z3)), .val (.int (own_exp (0 : Int32) (p1 &&& (3 : Int32)) z1 z5)), .val (.int (own_exp (0 : Int32) (p1 &&& (3 : Int32)) z1 z5)), .val (.int (own_exp ((0 : Int32) + (1 : Int32)) (p1 &&& (3 : Int32)) (z1 + z5) z7)), .val (.int (own_exp ((0 : Int32) + (1 : Int32)) (p1 &&& (3 : Int32)) (z1 + z5) z7))]) rfl ?_
        refine own_iload X24 hx hby at_250 (pc' := 252) rfl rfl ?_
        refine own_ifN X24 hx hby at_252 (pc' := 255) rfl (show ¬ (1 : Int32) = (0 : Int32) by decide) ?_
        refine own_iload X24 hx hby at_255 (pc' := 257) rfl rfl ?_
        refine own_iload X24 hx hby at_257 (pc' := 259) rfl rfl ?_
        refine own_icN X24 hx hby at_259 (pc' := 262) rfl (show (own_exp ((0 : Int32) + (1 : Int32)) (p1 &&& (3 : Int32)) (z1 + z5) z7) = (own_exp ((0 : Int32) + (1 : Int32)) (p1 &&& (3 : Int32)) (z1 + z5) z7) from rfl) ?_
        refine own_iconst X24 hx hby at_262 (pc' := 263) rfl (n := (1 : Int32)) (by decide) ?_
        refine own_goto X24 hx hby at_263 (pc' := 267) (by decide) (by decide) ?_
        refine own_istore X24 hx hby at_267 (pc' := 269) rfl (l' := #[.val (.long p0), .second, .val (.int p1), .val (.long p2), .second, .val (.long p3), .second, .val (.long p4), .second, .val (.long z1), .second, .val (.int (p1 &&& (3 : Int32))), .val (.long z3), .second, .val (.long z5), .second, .val (.long z7), .second, .val (.ref b9), .val (.int (1 : Int32)), .val (.long (z1 + z5)), .second, .val (.int ((0 : Int32) + (1 : Int32))), .val (.int (own_exp (0 : Int32) (p1 &&& (3 : Int32)) z1 z3)), .val (.int (own_exp (0 : Int32) (p1 &&& (3 : Int32)) z1 z3)), .val (.int (own_exp (0 : Int32) (p1 &&& (3 : Int32)) z1 z5)), .val (.int (own_exp (0 : Int32) (p1 &&& (3 : Int32)) z1 z5)), .val (.int (own_exp ((0 : Int32) + (1 : Int32)) (p1 &&& (3 : Int32)) (z1 + z5) z7)), .val (.int (own_exp ((0 : Int32) + (1 : Int32)) (p1 &&& (3 : Int32)) (z1 + z5) z7))]) rfl ?_
        refine own_iload X24 hx hby at_269 (pc' := 271) rfl rfl ?_
        refine own_ifN X24 hx hby at_271 (pc' := 274) rfl (show ¬ (own_exp ((0 : Int32) + (1 : Int32)) (p1 &&& (3 : Int32)) (z1 + z5) z7) = (0 : Int32) from hz24) ?_
        refine own_lload X24 hx hby at_274 (pc' := 276) rfl rfl ?_
        refine own_lload X24 hx hby at_276 (pc' := 278) rfl rfl ?_
        refine own_ladd X24 hx hby at_278 (pc' := 279) rfl ?_
        refine own_lstore X24 hx hby at_279 (pc' := 281) rfl (l' := #[.val (.long p0), .second, .val (.int p1), .val (.long p2), .second, .val (.long p3), .second, .val (.long p4), .second, .val (.long z1), .second, .val (.int (p1 &&& (3 : Int32))), .val (.long z3), .second, .val (.long z5), .second, .val (.long z7), .second, .val (.ref b9), .val (.int (1 : Int32)), .val (.long ((z1 + z5) + z7)), .second, .val (.int ((0 : Int32) + (1 : Int32))), .val (.int (own_exp (0 : Int32) (p1 &&& (3 : Int32)) z1 z3)), .val (.int (own_exp (0 : Int32) (p1 &&& (3 : Int32)) z1 z3)), .val (.int (own_exp (0 : Int32) (p1 &&& (3 : Int32)) z1 z5)), .val (.int (own_exp (0 : Int32) (p1 &&& (3 : Int32)) z1 z5)), .val (.int (own_exp ((0 : Int32) + (1 : Int32)) (p1 &&& (3 : Int32)) (z1 + z5) z7)), .val (.int (own_exp ((0 : Int32) + (1 : Int32)) (p1 &&& (3 : Int32)) (z1 + z5) z7))]) rfl ?_
        refine own_iload X24 hx hby at_281 (pc' := 283) rfl rfl ?_
        refine own_iconst X24 hx hby at_283 (pc' := 284) rfl (n := (1 : Int32)) (by decide) ?_
        refine own_iadd X24 hx hby at_284 (pc' := 285) rfl ?_
        refine own_istore X24 hx hby at_285 (pc' := 287) rfl (l' := #[.val (.long p0), .second, .val (.int p1), .val (.long p2), .second, .val (.long p3), .second, .val (.long p4), .second, .val (.long z1), .second, .val (.int (p1 &&& (3 : Int32))), .val (.long z3), .second, .val (.long z5), .second, .val (.long z7), .second, .val (.ref b9), .val (.int (1 : Int32)), .val (.long ((z1 + z5) + z7)), .second, .val (.int (((0 : Int32) + (1 : Int32)) + (1 : Int32))), .val (.int (own_exp (0 : Int32) (p1 &&& (3 : Int32)) z1 z3)), .val (.int (own_exp (0 : Int32) (p1 &&& (3 : Int32)) z1 z3)), .val (.int (own_exp (0 : Int32) (p1 &&& (3 : Int32)) z1 z5)), .val (.int (own_exp (0 : Int32) (p1 &&& (3 : Int32)) z1 z5)), .val (.int (own_exp ((0 : Int32) + (1 : Int32)) (p1 &&& (3 : Int32)) (z1 + z5) z7)), .val (.int (own_exp ((0 : Int32) + (1 : Int32)) (p1 &&& (3 : Int32)) (z1 + z5) z7))]) rfl ?_
        refine own_iload X24 hx hby at_287 (pc' := 289) rfl rfl ?_
        refine own_ifN X24 hx hby at_289 (pc' := 292) rfl (show ¬ (1 : Int32) = (0 : Int32) by decide) ?_
        refine own_aload X24 hx hby at_292 (pc' := 294) rfl rfl rfl ?_
        refine own_lk2 hw X24 hx hZ hby (by rw [hml]; rfl) hown at_294 (pc' := 297) rfl rfl O24.1 (W := 0) (Nat.le_of_eq rfl) (rm4 l Z a0 hw [] b9 (p1 &&& (3 : Int32)) ((z1 + z5) + z7) (((0 : Int32) + (1 : Int32)) + (1 : Int32)) T24.heap n0 Zn O24) (by decide) (by decide) (by decide) (by decide) (fun v26 T26 L26 X26 hQ26 => ?_)
        obtain ⟨rfl, Nq26, e26⟩ := hQ26
        have N26 := Fr.app N24 Nq26
        show own_End p e below _ (T26.setTop (mkF m 297 _ [(.int (((0 : Int32) + (1 : Int32)) + (1 : Int32)))]))
        refine own_iload X26 hx hby at_297 (pc' := 299) rfl rfl ?_
        refine own_icN X26 hx hby at_299 (pc' := 302) rfl (show (((0 : Int32) + (1 : Int32)) + (1 : Int32)) = (((0 : Int32) + (1 : Int32)) + (1 : Int32)) from rfl) ?_
        refine own_iconst X26 hx hby at_302 (pc' := 303) rfl (n := (1 : Int32)) (by decide) ?_
        refine own_goto X26 hx hby at_303 (pc' := 307) (by decide) (by decide) ?_
        refine own_istore X26 hx hby at_307 (pc' := 309) rfl (l' := #[.val (.long p0), .second, .val (.int p1), .val (.long p2), .second, .val (.long p3), .second, .val (.long p4), .second, .val (.long z1), .second, .val (.int (p1 &&& (3 : Int32))), .val (.long z3), .second, .val (.long z5), .second, .val (.long z7), .second, .val (.ref b9), .val (.int (1 : Int32)), .val (.long ((z1 + z5) + z7)), .second, .val (.int (((0 : Int32) + (1 : Int32)) + (1 : Int32))), .val (.int (own_exp (0 : Int32) (p1 &&& (3 : Int32)) z1 z3)), .val (.int (own_exp (0 : Int32) (p1 &&& (3 : Int32)) z1 z3)), .val (.int (own_exp (0 : Int32) (p1 &&& (3 : Int32)) z1 z5)), .val (.int (own_exp (0 : Int32) (p1 &&& (3 : Int32)) z1 z5)), .val (.int (own_exp ((0 : Int32) + (1 : Int32)) (p1 &&& (3 : Int32)) (z1 + z5) z7)), .val (.int (own_exp ((0 : Int32) + (1 : Int32)) (p1 &&& (3 : Int32)) (z1 + z5) z7))]) rfl ?_
        refine own_iload X26 hx hby at_309 (pc' := 311) rfl rfl ?_
        refine own_zreturn X26 hx hlk hby hret (Or.inr rfl) at_311 (own_lv ?_ (by decide) (by decide))
        show Q0 Z p0 p1 p2 p3 p4  h0 n0 (some (.int (1 : Int32))) T26.heap _
        rw [e26]
        exact ⟨rfl, N26⟩
  · have N13 := Fr.app N12 Nq13
    have Zn := Nat.le_trans Zn K13.1
    show own_End p e below _ (T13.setTop (mkF m 86 _ [(.int (own_exp (0 : Int32) (p1 &&& (3 : Int32)) z1 z3))]))
    refine own_istore X13 hx hby at_86 (pc' := 88) rfl (l' := #[.val (.long p0), .second, .val (.int p1), .val (.long p2), .second, .val (.long p3), .second, .val (.long p4), .second, .val (.long z1), .second, .val (.int (p1 &&& (3 : Int32))), .val (.long z3), .second, .val (.long z5), .second, .val (.long z7), .second, .val (.ref b9), .val (.int (1 : Int32)), .val (.long z1), .second, .val (.int (0 : Int32)), .val (.int (own_exp (0 : Int32) (p1 &&& (3 : Int32)) z1 z3)), .val (.int (own_exp (0 : Int32) (p1 &&& (3 : Int32)) z1 z3)), .unset, .unset, .unset, .unset]) rfl ?_
    refine own_iload X13 hx hby at_88 (pc' := 90) rfl rfl ?_
    refine own_ifN X13 hx hby at_90 (pc' := 93) rfl (show ¬ (1 : Int32) = (0 : Int32) by decide) ?_
    refine own_iload X13 hx hby at_93 (pc' := 95) rfl rfl ?_
    refine own_iload X13 hx hby at_95 (pc' := 97) rfl rfl ?_
    refine own_icN X13 hx hby at_97 (pc' := 100) rfl (show (own_exp (0 : Int32) (p1 &&& (3 : Int32)) z1 z3) = (own_exp (0 : Int32) (p1 &&& (3 : Int32)) z1 z3) from rfl) ?_
    refine own_iconst X13 hx hby at_100 (pc' := 101) rfl (n := (1 : Int32)) (by decide) ?_
    refine own_goto X13 hx hby at_101 (pc' := 105) (by decide) (by decide) ?_
    refine own_istore X13 hx hby at_105 (pc' := 107) rfl (l' := #[.val (.long p0), .second, .val (.int p1), .val (.long p2), .second, .val (.long p3), .second, .val (.long p4), .second, .val (.long z1), .second, .val (.int (p1 &&& (3 : Int32))), .val (.long z3), .second, .val (.long z5), .second, .val (.long z7), .second, .val (.ref b9), .val (.int (1 : Int32)), .val (.long z1), .second, .val (.int (0 : Int32)), .val (.int (own_exp (0 : Int32) (p1 &&& (3 : Int32)) z1 z3)), .val (.int (own_exp (0 : Int32) (p1 &&& (3 : Int32)) z1 z3)), .unset, .unset, .unset, .unset]) rfl ?_
    refine own_iload X13 hx hby at_107 (pc' := 109) rfl rfl ?_
    refine own_ifN X13 hx hby at_109 (pc' := 112) rfl (show ¬ (own_exp (0 : Int32) (p1 &&& (3 : Int32)) z1 z3) = (0 : Int32) from hz13) ?_
    refine own_lload X13 hx hby at_112 (pc' := 114) rfl rfl ?_
    refine own_lload X13 hx hby at_114 (pc' := 116) rfl rfl ?_
    refine own_ladd X13 hx hby at_116 (pc' := 117) rfl ?_
    refine own_lstore X13 hx hby at_117 (pc' := 119) rfl (l' := #[.val (.long p0), .second, .val (.int p1), .val (.long p2), .second, .val (.long p3), .second, .val (.long p4), .second, .val (.long z1), .second, .val (.int (p1 &&& (3 : Int32))), .val (.long z3), .second, .val (.long z5), .second, .val (.long z7), .second, .val (.ref b9), .val (.int (1 : Int32)), .val (.long (z1 + z3)), .second, .val (.int (0 : Int32)), .val (.int (own_exp (0 : Int32) (p1 &&& (3 : Int32)) z1 z3)), .val (.int (own_exp (0 : Int32) (p1 &&& (3 : Int32)) z1 z3)), .unset, .unset, .unset, .unset]) rfl ?_
    refine own_iload X13 hx hby at_119 (pc' := 121) rfl rfl ?_
    refine own_iconst X13 hx hby at_121 (pc' := 122) rfl (n := (1 : Int32)) (by decide) ?_
    refine own_iadd X13 hx hby at_122 (pc' := 123) rfl ?_
    refine own_istore X13 hx hby at_123 (pc' := 125) rfl (l' := #[.val (.long p0), .second, .val (.int p1), .val (.long p2), .second, .val (.long p3), .second, .val (.long p4), .second, .val (.long z1), .second, .val (.int (p1 &&& (3 : Int32))), .val (.long z3), .second, .val (.long z5), .second, .val (.long z7), .second, .val (.ref b9), .val (.int (1 : Int32)), .val (.long (z1 + z3)), .second, .val (.int ((0 : Int32) + (1 : Int32))), .val (.int (own_exp (0 : Int32) (p1 &&& (3 : Int32)) z1 z3)), .val (.int (own_exp (0 : Int32) (p1 &&& (3 : Int32)) z1 z3)), .unset, .unset, .unset, .unset]) rfl ?_
    refine own_iload X13 hx hby at_125 (pc' := 127) rfl rfl ?_
    refine own_ifN X13 hx hby at_127 (pc' := 130) rfl (show ¬ (1 : Int32) = (0 : Int32) by decide) ?_
    refine own_aload X13 hx hby at_130 (pc' := 132) rfl rfl rfl ?_
    refine own_lk2 hw X13 hx hZ hby (by rw [hml]; rfl) hown at_132 (pc' := 135) rfl rfl O13.1 (W := 0) (Nat.le_of_eq rfl) (rm4 l Z a0 hw [] b9 (p1 &&& (3 : Int32)) (z1 + z3) ((0 : Int32) + (1 : Int32)) T13.heap n0 Zn O13) (by decide) (by decide) (by decide) (by decide) (fun v27 T27 L27 X27 hQ27 => ?_)
    obtain ⟨rfl, Nq27, e27⟩ := hQ27
    have N27 := Fr.app N13 Nq27
    show own_End p e below _ (T27.setTop (mkF m 135 _ [(.int ((0 : Int32) + (1 : Int32)))]))
    refine own_iload X27 hx hby at_135 (pc' := 137) rfl rfl ?_
    refine own_icN X27 hx hby at_137 (pc' := 140) rfl (show ((0 : Int32) + (1 : Int32)) = ((0 : Int32) + (1 : Int32)) from rfl) ?_
    refine own_iconst X27 hx hby at_140 (pc' := 141) rfl (n := (1 : Int32)) (by decide) ?_
    refine own_goto X27 hx hby at_141 (pc' := 145) (by decide) (by decide) ?_
    refine own_istore X27 hx hby at_145 (pc' := 147) rfl (l' := #[.val (.long p0), .second, .val (.int p1), .val (.long p2), .second, .val (.long p3), .second, .val (.long p4), .second, .val (.long z1), .second, .val (.int (p1 &&& (3 : Int32))), .val (.long z3), .second, .val (.long z5), .second, .val (.long z7), .second, .val (.ref b9), .val (.int (1 : Int32)), .val (.long (z1 + z3)), .second, .val (.int ((0 : Int32) + (1 : Int32))), .val (.int (own_exp (0 : Int32) (p1 &&& (3 : Int32)) z1 z3)), .val (.int (own_exp (0 : Int32) (p1 &&& (3 : Int32)) z1 z3)), .unset, .unset, .unset, .unset]) rfl ?_
    refine own_iload X27 hx hby at_147 (pc' := 149) rfl rfl ?_
    refine own_iload X27 hx hby at_149 (pc' := 151) rfl rfl ?_
    refine own_lload X27 hx hby at_151 (pc' := 153) rfl rfl ?_
    refine own_lload X27 hx hby at_153 (pc' := 155) rfl rfl ?_
    refine own_lk3 hw X27 hx hZ hby (by rw [hml]; rfl) hown at_155 (pc' := 158) rfl e27 (W := 0) (Nat.le_of_eq rfl) (rm5 l Z a0 hw [] ((0 : Int32) + (1 : Int32)) (p1 &&& (3 : Int32)) (z1 + z3) z5 T13.heap n0 Zn ) (by decide) (by decide) (by decide) (by decide) (fun v28 T28 L28 X28 hQ28 => ?_)
    obtain ⟨rfl, Nq28, e28⟩ := hQ28
    have N28 := Fr.app N27 Nq28
    show own_End p e below _ (T28.setTop (mkF m 158 _ [(.int (own_exp ((0 : Int32) + (1 : Int32)) (p1 &&& (3 : Int32)) (z1 + z3) z5))]))
    refine own_istore X28 hx hby at_158 (pc' := 160) rfl (l' := #[.val (.long p0), .second, .val (.int p1), .val (.long p2), .second, .val (.long p3), .second, .val (.long p4), .second, .val (.long z1), .second, .val (.int (p1 &&& (3 : Int32))), .val (.long z3), .second, .val (.long z5), .second, .val (.long z7), .second, .val (.ref b9), .val (.int (1 : Int32)), .val (.long (z1 + z3)), .second, .val (.int ((0 : Int32) + (1 : Int32))), .val (.int (own_exp (0 : Int32) (p1 &&& (3 : Int32)) z1 z3)), .val (.int (own_exp (0 : Int32) (p1 &&& (3 : Int32)) z1 z3)), .val (.int (own_exp ((0 : Int32) + (1 : Int32)) (p1 &&& (3 : Int32)) (z1 + z3) z5)), .unset, .unset, .unset]) rfl ?_
    refine own_aload X28 hx hby at_160 (pc' := 162) rfl rfl rfl ?_
    refine own_lload X28 hx hby at_162 (pc' := 164) rfl rfl ?_
    refine own_lk4 hw X28 hx hZ hby (by rw [hml]; rfl) hown at_164 (pc' := 167) rfl e28 O13.1 (W := 0) (Nat.le_of_eq rfl) (rm6 l Z a0 hw [] b9 z5 (p1 &&& (3 : Int32)) (z1 + z3) ((0 : Int32) + (1 : Int32)) T13.heap n0 Zn O13 ge_b9) (by decide) (by decide) (by decide) (by decide) (fun v29 T29 L29 X29 hQ29 => ?_)
    rcases hQ29 with ⟨Nq29, K29, rfl, ⟨hz29, O29⟩ | ⟨hz29, O29⟩⟩
    · have N29 := Fr.app N28 Nq29
      have Zn := Nat.le_trans Zn K29.1
      show own_End p e below _ (T29.setTop (mkF m 167 _ [(.int (own_exp ((0 : Int32) + (1 : Int32)) (p1 &&& (3 : Int32)) (z1 + z3) z5))]))
      refine own_istore X29 hx hby at_167 (pc' := 169) rfl (l' := #[.val (.long p0), .second, .val (.int p1), .val (.long p2), .second, .val (.long p3), .second, .val (.long p4), .second, .val (.long z1), .second, .val (.int (p1 &&& (3 : Int32))), .val (.long z3), .second, .val (.long z5), .second, .val (.long z7), .second, .val (.ref b9), .val (.int (1 : Int32)), .val (.long (z1 + z3)), .second, .val (.int ((0 : Int32) + (1 : Int32))), .val (.int (own_exp (0 : Int32) (p1 &&& (3 : Int32)) z1 z3)), .val (.int (own_exp (0 : Int32) (p1 &&& (3 : Int32)) z1 z3)), .val (.int (own_exp ((0 : Int32) + (1 : Int32)) (p1 &&& (3 : Int32)) (z1 + z3) z5)), .val (.int (own_exp ((0 : Int32) + (1 : Int32)) (p1 &&& (3 : Int32)) (z1 + z3) z5)), .unset, .unset]) rfl ?_
      refine own_iload X29 hx hby at_169 (pc' := 171) rfl rfl ?_
      refine own_ifN X29 hx hby at_171 (pc' := 174) rfl (show ¬ (1 : Int32) = (0 : Int32) by decide) ?_
      refine own_iload X29 hx hby at_174 (pc' := 176) rfl rfl ?_
      refine own_iload X29 hx hby at_176 (pc' := 178) rfl rfl ?_
      refine own_icN X29 hx hby at_178 (pc' := 181) rfl (show (own_exp ((0 : Int32) + (1 : Int32)) (p1 &&& (3 : Int32)) (z1 + z3) z5) = (own_exp ((0 : Int32) + (1 : Int32)) (p1 &&& (3 : Int32)) (z1 + z3) z5) from rfl) ?_
      refine own_iconst X29 hx hby at_181 (pc' := 182) rfl (n := (1 : Int32)) (by decide) ?_
      refine own_goto X29 hx hby at_182 (pc' := 186) (by decide) (by decide) ?_
      refine own_istore X29 hx hby at_186 (pc' := 188) rfl (l' := #[.val (.long p0), .second, .val (.int p1), .val (.long p2), .second, .val (.long p3), .second, .val (.long p4), .second, .val (.long z1), .second, .val (.int (p1 &&& (3 : Int32))), .val (.long z3), .second, .val (.long z5), .second, .val (.long z7), .second, .val (.ref b9), .val (.int (1 : Int32)), .val (.long (z1 + z3)), .second, .val (.int ((0 : Int32) + (1 : Int32))), .val (.int (own_exp (0 : Int32) (p1 &&& (3 : Int32)) z1 z3)), .val (.int (own_exp (0 : Int32) (p1 &&& (3 : Int32)) z1 z3)), .val (.int (own_exp ((0 : Int32) + (1 : Int32)) (p1 &&& (3 : Int32)) (z1 + z3) z5)), .val (.int (own_exp ((0 : Int32) + (1 : Int32)) (p1 &&& (3 : Int32)) (z1 + z3) z5)), .unset, .unset]) rfl ?_
      refine own_iload X29 hx hby at_188 (pc' := 190) rfl rfl ?_
      refine own_ifY X29 hx hby at_190 (pc' := 206) (by decide) (by decide) (show (own_exp ((0 : Int32) + (1 : Int32)) (p1 &&& (3 : Int32)) (z1 + z3) z5) = (0 : Int32) from hz29) ?_
      refine own_iload X29 hx hby at_206 (pc' := 208) rfl rfl ?_
      refine own_ifN X29 hx hby at_208 (pc' := 211) rfl (show ¬ (1 : Int32) = (0 : Int32) by decide) ?_
      refine own_aload X29 hx hby at_211 (pc' := 213) rfl rfl rfl ?_
      refine own_lk2 hw X29 hx hZ hby (by rw [hml]; rfl) hown at_213 (pc' := 216) rfl rfl O29.1 (W := 0) (Nat.le_of_eq rfl) (rm4 l Z a0 hw [] b9 (p1 &&& (3 : Int32)) (z1 + z3) ((0 : Int32) + (1 : Int32)) T29.heap n0 Zn O29) (by decide) (by decide) (by decide) (by decide) (fun v30 T30 L30 X30 hQ30 => ?_)
      obtain ⟨rfl, Nq30, e30⟩ := hQ30
      have N30 := Fr.app N29 Nq30
      show own_End p e below _ (T30.setTop (mkF m 216 _ [(.int ((0 : Int32) + (1 : Int32)))]))
      refine own_iload X30 hx hby at_216 (pc' := 218) rfl rfl ?_
      refine own_icN X30 hx hby at_218 (pc' := 221) rfl (show ((0 : Int32) + (1 : Int32)) = ((0 : Int32) + (1 : Int32)) from rfl) ?_
      refine own_iconst X30 hx hby at_221 (pc' := 222) rfl (n := (1 : Int32)) (by decide) ?_
      refine own_goto X30 hx hby at_222 (pc' := 226) (by decide) (by decide) ?_
      refine own_istore X30 hx hby at_226 (pc' := 228) rfl (l' := #[.val (.long p0), .second, .val (.int p1), .val (.long p2), .second, .val (.long p3), .second, .val (.long p4), .second, .val (.long z1), .second, .val (.int (p1 &&& (3 : Int32))), .val (.long z3), .second, .val (.long z5), .second, .val (.long z7), .second, .val (.ref b9), .val (.int (1 : Int32)), .val (.long (z1 + z3)), .second, .val (.int ((0 : Int32) + (1 : Int32))), .val (.int (own_exp (0 : Int32) (p1 &&& (3 : Int32)) z1 z3)), .val (.int (own_exp (0 : Int32) (p1 &&& (3 : Int32)) z1 z3)), .val (.int (own_exp ((0 : Int32) + (1 : Int32)) (p1 &&& (3 : Int32)) (z1 + z3) z5)), .val (.int (own_exp ((0 : Int32) + (1 : Int32)) (p1 &&& (3 : Int32)) (z1 + z3) z5)), .unset, .unset]) rfl ?_
      refine own_iload X30 hx hby at_228 (pc' := 230) rfl rfl ?_
      refine own_iload X30 hx hby at_230 (pc' := 232) rfl rfl ?_
      refine own_lload X30 hx hby at_232 (pc' := 234) rfl rfl ?_
      refine own_lload X30 hx hby at_234 (pc' := 236) rfl rfl ?_
      refine own_lk3 hw X30 hx hZ hby (by rw [hml]; rfl) hown at_236 (pc' := 239) rfl e30 (W := 0) (Nat.le_of_eq rfl) (rm5 l Z a0 hw [] ((0 : Int32) + (1 : Int32)) (p1 &&& (3 : Int32)) (z1 + z3) z7 T29.heap n0 Zn ) (by decide) (by decide) (by decide) (by decide) (fun v31 T31 L31 X31 hQ31 => ?_)
      obtain ⟨rfl, Nq31, e31⟩ := hQ31
      have N31 := Fr.app N30 Nq31
      show own_End p e below _ (T31.setTop (mkF m 239 _ [(.int (own_exp ((0 : Int32) + (1 : Int32)) (p1 &&& (3 : Int32)) (z1 + z3) z7))]))
      refine own_istore X31 hx hby at_239 (pc' := 241) rfl (l' := #[.val (.long p0), .second, .val (.int p1), .val (.long p2), .second, .val (.long p3), .second, .val (.long p4), .second, .val (.long z1), .second, .val (.int (p1 &&& (3 : Int32))), .val (.long z3), .second, .val (.long z5), .second, .val (.long z7), .second, .val (.ref b9), .val (.int (1 : Int32)), .val (.long (z1 + z3)), .second, .val (.int ((0 : Int32) + (1 : Int32))), .val (.int (own_exp (0 : Int32) (p1 &&& (3 : Int32)) z1 z3)), .val (.int (own_exp (0 : Int32) (p1 &&& (3 : Int32)) z1 z3)), .val (.int (own_exp ((0 : Int32) + (1 : Int32)) (p1 &&& (3 : Int32)) (z1 + z3) z5)), .val (.int (own_exp ((0 : Int32) + (1 : Int32)) (p1 &&& (3 : Int32)) (z1 + z3) z5)), .val (.int (own_exp ((0 : Int32) + (1 : Int32)) (p1 &&& (3 : Int32)) (z1 + z3) z7)), .unset]) rfl ?_
      refine own_aload X31 hx hby at_241 (pc' := 243) rfl rfl rfl ?_
      refine own_lload X31 hx hby at_243 (pc' := 245) rfl rfl ?_
      refine own_lk4 hw X31 hx hZ hby (by rw [hml]; rfl) hown at_245 (pc' := 248) rfl e31 O29.1 (W := 0) (Nat.le_of_eq rfl) (rm6 l Z a0 hw [] b9 z7 (p1 &&& (3 : Int32)) (z1 + z3) ((0 : Int32) + (1 : Int32)) T29.heap n0 Zn O29 ge_b9) (by decide) (by decide) (by decide) (by decide) (fun v32 T32 L32 X32 hQ32 => ?_)
      rcases hQ32 with ⟨Nq32, K32, rfl, ⟨hz32, O32⟩ | ⟨hz32, O32⟩⟩
      · have N32 := Fr.app N31 Nq32
        have Zn := Nat.le_trans Zn K32.1
        show own_End p e below _ (T32.setTop (mkF m 248 _ [(.int (own_exp ((0 : Int32) + (1 : Int32)) (p1 &&& (3 : Int32)) (z1 + z3) z7))]))
        refine own_istore X32 hx hby at_248 (pc' := 250) rfl (l' := #[.val (.long p0), .second, .val (.int p1), .val (.long p2), .second, .val (.long p3), .second, .val (.long p4), .second, .val (.long z1), .second, .val (.int (p1 &&& (3 : Int32))), .val (.long z3), .second, .val (.long z5), .second, .val (.long z7), .second, .val (.ref b9), .val (.int (1 : Int32)), .val (.long (z1 + z3)), .second, .val (.int ((0 : Int32) + (1 : Int32))), .val (.int (own_exp (0 : Int32) (p1 &&& (3 : Int32)) z1 z3)), .val (.int (own_exp (0 : Int32) (p1 &&& (3 : Int32)) z1 z3)), .val (.int (own_exp ((0 : Int32) + (1 : Int32)) (p1 &&& (3 : Int32)) (z1 + z3) z5)), .val (.int (own_exp ((0 : Int32) + (1 : Int32)) (p1 &&& (3 : Int32)) (z1 + z3) z5)), .val (.int (own_exp ((0 : Int32) + (1 : Int32)) (p1 &&& (3 : Int32)) (z1 + z3) z7)), .val (.int (own_exp ((0 : Int32) + (1 : Int32)) (p1 &&& (3 : Int32)) (z1 + z3) z7))]) rfl ?_
        refine own_iload X32 hx hby at_250 (pc' := 252) rfl rfl ?_
        refine own_ifN X32 hx hby at_252 (pc' := 255) rfl (show ¬ (1 : Int32) = (0 : Int32) by decide) ?_
        refine own_iload X32 hx hby at_255 (pc' := 257) rfl rfl ?_
        refine own_iload X32 hx hby at_257 (pc' := 259) rfl rfl ?_
        refine own_icN X32 hx hby at_259 (pc' := 262) rfl (show (own_exp ((0 : Int32) + (1 : Int32)) (p1 &&& (3 : Int32)) (z1 + z3) z7) = (own_exp ((0 : Int32) + (1 : Int32)) (p1 &&& (3 : Int32)) (z1 + z3) z7) from rfl) ?_
        refine own_iconst X32 hx hby at_262 (pc' := 263) rfl (n := (1 : Int32)) (by decide) ?_
        refine own_goto X32 hx hby at_263 (pc' := 267) (by decide) (by decide) ?_
        refine own_istore X32 hx hby at_267 (pc' := 269) rfl (l' := #[.val (.long p0), .second, .val (.int p1), .val (.long p2), .second, .val (.long p3), .second, .val (.long p4), .second, .val (.long z1), .second, .val (.int (p1 &&& (3 : Int32))), .val (.long z3), .second, .val (.long z5), .second, .val (.long z7), .second, .val (.ref b9), .val (.int (1 : Int32)), .val (.long (z1 + z3)), .second, .val (.int ((0 : Int32) + (1 : Int32))), .val (.int (own_exp (0 : Int32) (p1 &&& (3 : Int32)) z1 z3)), .val (.int (own_exp (0 : Int32) (p1 &&& (3 : Int32)) z1 z3)), .val (.int (own_exp ((0 : Int32) + (1 : Int32)) (p1 &&& (3 : Int32)) (z1 + z3) z5)), .val (.int (own_exp ((0 : Int32) + (1 : Int32)) (p1 &&& (3 : Int32)) (z1 + z3) z5)), .val (.int (own_exp ((0 : Int32) + (1 : Int32)) (p1 &&& (3 : Int32)) (z1 + z3) z7)), .val (.int (own_exp ((0 : Int32) + (1 : Int32)) (p1 &&& (3 : Int32)) (z1 + z3) z7))]) rfl ?_
        refine own_iload X32 hx hby at_269 (pc' := 271) rfl rfl ?_
        refine own_ifY X32 hx hby at_271 (pc' := 287) (by decide) (by decide) (show (own_exp ((0 : Int32) + (1 : Int32)) (p1 &&& (3 : Int32)) (z1 + z3) z7) = (0 : Int32) from hz32) ?_
        refine own_iload X32 hx hby at_287 (pc' := 289) rfl rfl ?_
        refine own_ifN X32 hx hby at_289 (pc' := 292) rfl (show ¬ (1 : Int32) = (0 : Int32) by decide) ?_
        refine own_aload X32 hx hby at_292 (pc' := 294) rfl rfl rfl ?_
        refine own_lk2 hw X32 hx hZ hby (by rw [hml]; rfl) hown at_294 (pc' := 297) rfl rfl O32.1 (W := 0) (Nat.le_of_eq rfl) (rm4 l Z a0 hw [] b9 (p1 &&& (3 : Int32)) (z1 + z3) ((0 : Int32) + (1 : Int32)) T32.heap n0 Zn O32) (by decide) (by decide) (by decide) (by decide) (fun v33 T33 L33 X33 hQ33 => ?_)
        obtain ⟨rfl, Nq33, e33⟩ := hQ33
        have N33 := Fr.app N32 Nq33
        show own_End p e below _ (T33.setTop (mkF m 297 _ [(.int ((0 : Int32) + (1 : Int32)))]))
        refine own_iload X33 hx hby at_297 (pc' := 299) rfl rfl ?_
        refine own_icN X33 hx hby at_299 (pc' := 302) rfl (show ((0 : Int32) + (1 : Int32)) = ((0 : Int32) + (1 : Int32)) from rfl) ?_
        refine own_iconst X33 hx hby at_302 (pc' := 303) rfl (n := (1 : Int32)) (by decide) ?_
        refine own_goto X33 hx hby at_303 (pc' := 307) (by decide) (by decide) ?_
        refine own_istore X33 hx hby at_307 (pc' := 309) rfl (l' := #[.val (.long p0), .second, .val (.int p1), .val (.long p2), .second, .val (.long p3), .second, .val (.long p4), .second, .val (.long z1), .second, .val (.int (p1 &&& (3 : Int32))), .val (.long z3), .second, .val (.long z5), .second, .val (.long z7), .second, .val (.ref b9), .val (.int (1 : Int32)), .val (.long (z1 + z3)), .second, .val (.int ((0 : Int32) + (1 : Int32))), .val (.int (own_exp (0 : Int32) (p1 &&& (3 : Int32)) z1 z3)), .val (.int (own_exp (0 : Int32) (p1 &&& (3 : Int32)) z1 z3)), .val (.int (own_exp ((0 : Int32) + (1 : Int32)) (p1 &&& (3 : Int32)) (z1 + z3) z5)), .val (.int (own_exp ((0 : Int32) + (1 : Int32)) (p1 &&& (3 : Int32)) (z1 + z3) z5)), .val (.int (own_exp ((0 : Int32) + (1 : Int32)) (p1 &&& (3 : Int32)) (z1 + z3) z7)), .val (.int (own_exp ((0 : Int32) + (1 : Int32)) (p1 &&& (3 : Int32)) (z1 + z3) z7))]) rfl ?_
        refine own_iload X33 hx hby at_309 (pc' := 311) rfl rfl ?_
        refine own_zreturn X33 hx hlk hby hret (Or.inr rfl) at_311 (own_lv ?_ (by decide) (by decide))
        show Q0 Z p0 p1 p2 p3 p4  h0 n0 (some (.int (1 : Int32))) T33.heap _
        rw [e33]
        exact ⟨rfl, N33⟩
      · have N32 := Fr.app N31 Nq32
        have Zn := Nat.le_trans Zn K32.1
        show own_End p e below _ (T32.setTop (mkF m 248 _ [(.int (own_exp ((0 : Int32) + (1 : Int32)) (p1 &&& (3 : Int32)) (z1 + z3) z7))]))
        refine own_istore X32 hx hby at_248 (pc' := 250) rfl (l' := #[.val (.long p0), .second, .val (.int p1), .val (.long p2), .second, .val (.long p3), .second, .val (.long p4), .second, .val (.long z1), .second, .val (.int (p1 &&& (3 : Int32))), .val (.long z3), .second, .val (.long z5), .second, .val (.long z7), .second, .val (.ref b9), .val (.int (1 : Int32)), .val (.long (z1 + z3)), .second, .val (.int ((0 : Int32) + (1 : Int32))), .val (.int (own_exp (0 : Int32) (p1 &&& (3 : Int32)) z1 z3)), .val (.int (own_exp (0 : Int32) (p1 &&& (3 : Int32)) z1 z3)), .val (.int (own_exp ((0 : Int32) + (1 : Int32)) (p1 &&& (3 : Int32)) (z1 + z3) z5)), .val (.int (own_exp ((0 : Int32) + (1 : Int32)) (p1 &&& (3 : Int32)) (z1 + z3) z5)), .val (.int (own_exp ((0 : Int32) + (1 : Int32)) (p1 &&& (3 : Int32)) (z1 + z3) z7)), .val (.int (own_exp ((0 : Int32) + (1 : Int32)) (p1 &&& (3 : Int32)) (z1 + z3) z7))]) rfl ?_
        refine own_iload X32 hx hby at_250 (pc' := 252) rfl rfl ?_
        refine own_ifN X32 hx hby at_252 (pc' := 255) rfl (show ¬ (1 : Int32) = (0 : Int32) by decide) ?_
        refine own_iload X32 hx hby at_255 (pc' := 257) rfl rfl ?_
        refine own_iload X32 hx hby at_257 (pc' := 259) rfl rfl ?_
        refine own_icN X32 hx hby at_259 (pc' := 262) rfl (show (own_exp ((0 : Int32) + (1 : Int32)) (p1 &&& (3 : Int32)) (z1 + z3) z7) = (own_exp ((0 : Int32) + (1 : Int32)) (p1 &&& (3 : Int32)) (z1 + z3) z7) from rfl) ?_
        refine own_iconst X32 hx hby at_262 (pc' := 263) rfl (n := (1 : Int32)) (by decide) ?_
        refine own_goto X32 hx hby at_263 (pc' := 267) (by decide) (by decide) ?_
        refine own_istore X32 hx hby at_267 (pc' := 269) rfl (l' := #[.val (.long p0), .second, .val (.int p1), .val (.long p2), .second, .val (.long p3), .second, .val (.long p4), .second, .val (.long z1), .second, .val (.int (p1 &&& (3 : Int32))), .val (.long z3), .second, .val (.long z5), .second, .val (.long z7), .second, .val (.ref b9), .val (.int (1 : Int32)), .val (.long (z1 + z3)), .second, .val (.int ((0 : Int32) + (1 : Int32))), .val (.int (own_exp (0 : Int32) (p1 &&& (3 : Int32)) z1 z3)), .val (.int (own_exp (0 : Int32) (p1 &&& (3 : Int32)) z1 z3)), .val (.int (own_exp ((0 : Int32) + (1 : Int32)) (p1 &&& (3 : Int32)) (z1 + z3) z5)), .val (.int (own_exp ((0 : Int32) + (1 : Int32)) (p1 &&& (3 : Int32)) (z1 + z3) z5)), .val (.int (own_exp ((0 : Int32) + (1 : Int32)) (p1 &&& (3 : Int32)) (z1 + z3) z7)), .val (.int (own_exp ((0 : Int32) + (1 : Int32)) (p1 &&& (3 : Int32)) (z1 + z3) z7))]) rfl ?_
        refine own_iload X32 hx hby at_269 (pc' := 271) rfl rfl ?_
        refine own_ifN X32 hx hby at_271 (pc' := 274) rfl (show ¬ (own_exp ((0 : Int32) + (1 : Int32)) (p1 &&& (3 : Int32)) (z1 + z3) z7) = (0 : Int32) from hz32) ?_
        refine own_lload X32 hx hby at_274 (pc' := 276) rfl rfl ?_
        refine own_lload X32 hx hby at_276 (pc' := 278) rfl rfl ?_
        refine own_ladd X32 hx hby at_278 (pc' := 279) rfl ?_
        refine own_lstore X32 hx hby at_279 (pc' := 281) rfl (l' := #[.val (.long p0), .second, .val (.int p1), .val (.long p2), .second, .val (.long p3), .second, .val (.long p4), .second, .val (.long z1), .second, .val (.int (p1 &&& (3 : Int32))), .val (.long z3), .second, .val (.long z5), .second, .val (.long z7), .second, .val (.ref b9), .val (.int (1 : Int32)), .val (.long ((z1 + z3) + z7)), .second, .val (.int ((0 : Int32) + (1 : Int32))), .val (.int (own_exp (0 : Int32) (p1 &&& (3 : Int32)) z1 z3)), .val (.int (own_exp (0 : Int32) (p1 &&& (3 : Int32)) z1 z3)), .val (.int (own_exp ((0 : Int32) + (1 : Int32)) (p1 &&& (3 : Int32)) (z1 + z3) z5)), .val (.int (own_exp ((0 : Int32) + (1 : Int32)) (p1 &&& (3 : Int32)) (z1 + z3) z5)), .val (.int (own_exp ((0 : Int32) + (1 : Int32)) (p1 &&& (3 : Int32)) (z1 + z3) z7)), .val (.int (own_exp ((0 : Int32) + (1 : Int32)) (p1 &&& (3 : Int32)) (z1 + z3) z7))]) rfl ?_
        refine own_iload X32 hx hby at_281 (pc' := 283) rfl rfl ?_
        refine own_iconst X32 hx hby at_283 (pc' := 284) rfl (n := (1 : Int32)) (by decide) ?_
        refine own_iadd X32 hx hby at_284 (pc' := 285) rfl ?_
        refine own_istore X32 hx hby at_285 (pc' := 287) rfl (l' := #[.val (.long p0), .second, .val (.int p1), .val (.long p2), .second, .val (.long p3), .second, .val (.long p4), .second, .val (.long z1), .second, .val (.int (p1 &&& (3 : Int32))), .val (.long z3), .second, .val (.long z5), .second, .val (.long z7), .second, .val (.ref b9), .val (.int (1 : Int32)), .val (.long ((z1 + z3) + z7)), .second, .val (.int (((0 : Int32) + (1 : Int32)) + (1 : Int32))), .val (.int (own_exp (0 : Int32) (p1 &&& (3 : Int32)) z1 z3)), .val (.int (own_exp (0 : Int32) (p1 &&& (3 : Int32)) z1 z3)), .val (.int (own_exp ((0 : Int32) + (1 : Int32)) (p1 &&& (3 : Int32)) (z1 + z3) z5)), .val (.int (own_exp ((0 : Int32) + (1 : Int32)) (p1 &&& (3 : Int32)) (z1 + z3) z5)), .val (.int (own_exp ((0 : Int32) + (1 : Int32)) (p1 &&& (3 : Int32)) (z1 + z3) z7)), .val (.int (own_exp ((0 : Int32) + (1 : Int32)) (p1 &&& (3 : Int32)) (z1 + z3) z7))]) rfl ?_
        refine own_iload X32 hx hby at_287 (pc' := 289) rfl rfl ?_
        refine own_ifN X32 hx hby at_289 (pc' := 292) rfl (show ¬ (1 : Int32) = (0 : Int32) by decide) ?_
        refine own_aload X32 hx hby at_292 (pc' := 294) rfl rfl rfl ?_
        refine own_lk2 hw X32 hx hZ hby (by rw [hml]; rfl) hown at_294 (pc' := 297) rfl rfl O32.1 (W := 0) (Nat.le_of_eq rfl) (rm4 l Z a0 hw [] b9 (p1 &&& (3 : Int32)) ((z1 + z3) + z7) (((0 : Int32) + (1 : Int32)) + (1 : Int32)) T32.heap n0 Zn O32) (by decide) (by decide) (by decide) (by decide) (fun v34 T34 L34 X34 hQ34 => ?_)
        obtain ⟨rfl, Nq34, e34⟩ := hQ34
        have N34 := Fr.app N32 Nq34
        show own_End p e below _ (T34.setTop (mkF m 297 _ [(.int (((0 : Int32) + (1 : Int32)) + (1 : Int32)))]))
        refine own_iload X34 hx hby at_297 (pc' := 299) rfl rfl ?_
        refine own_icN X34 hx hby at_299 (pc' := 302) rfl (show (((0 : Int32) + (1 : Int32)) + (1 : Int32)) = (((0 : Int32) + (1 : Int32)) + (1 : Int32)) from rfl) ?_
        refine own_iconst X34 hx hby at_302 (pc' := 303) rfl (n := (1 : Int32)) (by decide) ?_
        refine own_goto X34 hx hby at_303 (pc' := 307) (by decide) (by decide) ?_
        refine own_istore X34 hx hby at_307 (pc' := 309) rfl (l' := #[.val (.long p0), .second, .val (.int p1), .val (.long p2), .second, .val (.long p3), .second, .val (.long p4), .second, .val (.long z1), .second, .val (.int (p1 &&& (3 : Int32))), .val (.long z3), .second, .val (.long z5), .second, .val (.long z7), .second, .val (.ref b9), .val (.int (1 : Int32)), .val (.long ((z1 + z3) + z7)), .second, .val (.int (((0 : Int32) + (1 : Int32)) + (1 : Int32))), .val (.int (own_exp (0 : Int32) (p1 &&& (3 : Int32)) z1 z3)), .val (.int (own_exp (0 : Int32) (p1 &&& (3 : Int32)) z1 z3)), .val (.int (own_exp ((0 : Int32) + (1 : Int32)) (p1 &&& (3 : Int32)) (z1 + z3) z5)), .val (.int (own_exp ((0 : Int32) + (1 : Int32)) (p1 &&& (3 : Int32)) (z1 + z3) z5)), .val (.int (own_exp ((0 : Int32) + (1 : Int32)) (p1 &&& (3 : Int32)) (z1 + z3) z7)), .val (.int (own_exp ((0 : Int32) + (1 : Int32)) (p1 &&& (3 : Int32)) (z1 + z3) z7))]) rfl ?_
        refine own_iload X34 hx hby at_309 (pc' := 311) rfl rfl ?_
        refine own_zreturn X34 hx hlk hby hret (Or.inr rfl) at_311 (own_lv ?_ (by decide) (by decide))
        show Q0 Z p0 p1 p2 p3 p4  h0 n0 (some (.int (1 : Int32))) T34.heap _
        rw [e34]
        exact ⟨rfl, N34⟩
    · have N29 := Fr.app N28 Nq29
      have Zn := Nat.le_trans Zn K29.1
      show own_End p e below _ (T29.setTop (mkF m 167 _ [(.int (own_exp ((0 : Int32) + (1 : Int32)) (p1 &&& (3 : Int32)) (z1 + z3) z5))]))
      refine own_istore X29 hx hby at_167 (pc' := 169) rfl (l' := #[.val (.long p0), .second, .val (.int p1), .val (.long p2), .second, .val (.long p3), .second, .val (.long p4), .second, .val (.long z1), .second, .val (.int (p1 &&& (3 : Int32))), .val (.long z3), .second, .val (.long z5), .second, .val (.long z7), .second, .val (.ref b9), .val (.int (1 : Int32)), .val (.long (z1 + z3)), .second, .val (.int ((0 : Int32) + (1 : Int32))), .val (.int (own_exp (0 : Int32) (p1 &&& (3 : Int32)) z1 z3)), .val (.int (own_exp (0 : Int32) (p1 &&& (3 : Int32)) z1 z3)), .val (.int (own_exp ((0 : Int32) + (1 : Int32)) (p1 &&& (3 : Int32)) (z1 + z3) z5)), .val (.int (own_exp ((0 : Int32) + (1 : Int32)) (p1 &&& (3 : Int32)) (z1 + z3) z5)), .unset, .unset]) rfl ?_
      refine own_iload X29 hx hby at_169 (pc' := 171) rfl rfl ?_
      refine own_ifN X29 hx hby at_171 (pc' := 174) rfl (show ¬ (1 : Int32) = (0 : Int32) by decide) ?_
      refine own_iload X29 hx hby at_174 (pc' := 176) rfl rfl ?_
      refine own_iload X29 hx hby at_176 (pc' := 178) rfl rfl ?_
      refine own_icN X29 hx hby at_178 (pc' := 181) rfl (show (own_exp ((0 : Int32) + (1 : Int32)) (p1 &&& (3 : Int32)) (z1 + z3) z5) = (own_exp ((0 : Int32) + (1 : Int32)) (p1 &&& (3 : Int32)) (z1 + z3) z5) from rfl) ?_
      refine own_iconst X29 hx hby at_181 (pc' := 182) rfl (n := (1 : Int32)) (by decide) ?_
      refine own_goto X29 hx hby at_182 (pc' := 186) (by decide) (by decide) ?_
      refine own_istore X29 hx hby at_186 (pc' := 188) rfl (l' := #[.val (.long p0), .second, .val (.int p1), .val (.long p2), .second, .val (.long p3), .second, .val (.long p4), .second, .val (.long z1), .second, .val (.int (p1 &&& (3 : Int32))), .val (.long z3), .second, .val (.long z5), .second, .val (.long z7), .second, .val (.ref b9), .val (.int (1 : Int32)), .val (.long (z1 + z3)), .second, .val (.int ((0 : Int32) + (1 : Int32))), .val (.int (own_exp (0 : Int32) (p1 &&& (3 : Int32)) z1 z3)), .val (.int (own_exp (0 : Int32) (p1 &&& (3 : Int32)) z1 z3)), .val (.int (own_exp ((0 : Int32) + (1 : Int32)) (p1 &&& (3 : Int32)) (z1 + z3) z5)), .val (.int (own_exp ((0 : Int32) + (1 : Int32)) (p1 &&& (3 : Int32)) (z1 + z3) z5)), .unset, .unset]) rfl ?_
      refine own_iload X29 hx hby at_188 (pc' := 190) rfl rfl ?_
      refine own_ifN X29 hx hby at_190 (pc' := 193) rfl (show ¬ (own_exp ((0 : Int32) + (1 : Int32)) (p1 &&& (3 : Int32)) (z1 + z3) z5) = (0 : Int32) from hz29) ?_
      refine own_lload X29 hx hby at_193 (pc' := 195) rfl rfl ?_
      refine own_lload X29 hx hby at_195 (pc' := 197) rfl rfl ?_
      refine own_ladd X29 hx hby at_197 (pc' := 198) rfl ?_
      refine own_lstore X29 hx hby at_198 (pc' := 200) rfl (l' := #[.val (.long p0), .second, .val (.int p1), .val (.long p2), .second, .val (.long p3), .second, .val (.long p4), .second, .val (.long z1), .second, .val (.int (p1 &&& (3 : Int32))), .val (.long z3), .second, .val (.long z5), .second, .val (.long z7), .second, .val (.ref b9), .val (.int (1 : Int32)), .val (.long ((z1 + z3) + z5)), .second, .val (.int ((0 : Int32) + (1 : Int32))), .val (.int (own_exp (0 : Int32) (p1 &&& (3 : Int32)) z1 z3)), .val (.int (own_exp (0 : Int32) (p1 &&& (3 : Int32)) z1 z3)), .val (.int (own_exp ((0 : Int32) + (1 : Int32)) (p1 &&& (3 : Int32)) (z1 + z3) z5)), .val (.int (own_exp ((0 : Int32) + (1 : Int32)) (p1 &&& (3 : Int32)) (z1 + z3) z5)), .unset, .unset]) rfl ?_
      refine own_iload X29 hx hby at_200 (pc' := 202) rfl rfl ?_
      refine own_iconst X29 hx hby at_202 (pc' := 203) rfl (n := (1 : Int32)) (by decide) ?_
      refine own_iadd X29 hx hby at_203 (pc' := 204) rfl ?_
      refine own_istore X29 hx hby at_204 (pc' := 206) rfl (l' := #[.val (.long p0), .second, .val (.int p1), .val (.long p2), .second, .val (.long p3), .second, .val (.long p4), .second, .val (.long z1), .second, .val (.int (p1 &&& (3 : Int32))), .val (.long z3), .second, .val (.long z5), .second, .val (.long z7), .second, .val (.ref b9), .val (.int (1 : Int32)), .val (.long ((z1 + z3) + z5)), .second, .val (.int (((0 : Int32) + (1 : Int32)) + (1 : Int32))), .val (.int (own_exp (0 : Int32) (p1 &&& (3 : Int32)) z1 z3)), .val (.int (own_exp (0 : Int32) (p1 &&& (3 : Int32)) z1 z3)), .val (.int (own_exp ((0 : Int32) + (1 : Int32)) (p1 &&& (3 : Int32)) (z1 + z3) z5)), .val (.int (own_exp ((0 : Int32) + (1 : Int32)) (p1 &&& (3 : Int32)) (z1 + z3) z5)), .unset, .unset]) rfl ?_
      refine own_iload X29 hx hby at_206 (pc' := 208) rfl rfl ?_
      refine own_ifN X29 hx hby at_208 (pc' := 211) rfl (show ¬ (1 : Int32) = (0 : Int32) by decide) ?_
      refine own_aload X29 hx hby at_211 (pc' := 213) rfl rfl rfl ?_
      refine own_lk2 hw X29 hx hZ hby (by rw [hml]; rfl) hown at_213 (pc' := 216) rfl rfl O29.1 (W := 0) (Nat.le_of_eq rfl) (rm4 l Z a0 hw [] b9 (p1 &&& (3 : Int32)) ((z1 + z3) + z5) (((0 : Int32) + (1 : Int32)) + (1 : Int32)) T29.heap n0 Zn O29) (by decide) (by decide) (by decide) (by decide) (fun v35 T35 L35 X35 hQ35 => ?_)
      obtain ⟨rfl, Nq35, e35⟩ := hQ35
      have N35 := Fr.app N29 Nq35
      show own_End p e below _ (T35.setTop (mkF m 216 _ [(.int (((0 : Int32) + (1 : Int32)) + (1 : Int32)))]))
      refine own_iload X35 hx hby at_216 (pc' := 218) rfl rfl ?_
      refine own_icN X35 hx hby at_218 (pc' := 221) rfl (show (((0 : Int32) + (1 : Int32)) + (1 : Int32)) = (((0 : Int32) + (1 : Int32)) + (1 : Int32)) from rfl) ?_
      refine own_iconst X35 hx hby at_221 (pc' := 222) rfl (n := (1 : Int32)) (by decide) ?_
      refine own_goto X35 hx hby at_222 (pc' := 226) (by decide) (by decide) ?_
      refine own_istore X35 hx hby at_226 (pc' := 228) rfl (l' := #[.val (.long p0), .second, .val (.int p1), .val (.long p2), .second, .val (.long p3), .second, .val (.long p4), .second, .val (.long z1), .second, .val (.int (p1 &&& (3 : Int32))), .val (.long z3), .second, .val (.long z5), .second, .val (.long z7), .second, .val (.ref b9), .val (.int (1 : Int32)), .val (.long ((z1 + z3) + z5)), .second, .val (.int (((0 : Int32) + (1 : Int32)) + (1 : Int32))), .val (.int (own_exp (0 : Int32) (p1 &&& (3 : Int32)) z1 z3)), .val (.int (own_exp (0 : Int32) (p1 &&& (3 : Int32)) z1 z3)), .val (.int (own_exp ((0 : Int32) + (1 : Int32)) (p1 &&& (3 : Int32)) (z1 + z3) z5)), .val (.int (own_exp ((0 : Int32) + (1 : Int32)) (p1 &&& (3 : Int32)) (z1 + z3) z5)), .unset, .unset]) rfl ?_
      refine own_iload X35 hx hby at_228 (pc' := 230) rfl rfl ?_
      refine own_iload X35 hx hby at_230 (pc' := 232) rfl rfl ?_
      refine own_lload X35 hx hby at_232 (pc' := 234) rfl rfl ?_
      refine own_lload X35 hx hby at_234 (pc' := 236) rfl rfl ?_
      refine own_lk3 hw X35 hx hZ hby (by rw [hml]; rfl) hown at_236 (pc' := 239) rfl e35 (W := 0) (Nat.le_of_eq rfl) (rm5 l Z a0 hw [] (((0 : Int32) + (1 : Int32)) + (1 : Int32)) (p1 &&& (3 : Int32)) ((z1 + z3) + z5) z7 T29.heap n0 Zn ) (by decide) (by decide) (by decide) (by decide) (fun v36 T36 L36 X36 hQ36 => ?_)
      obtain ⟨rfl, Nq36, e36⟩ := hQ36
      have N36 := Fr.app N35 Nq36
      show own_End p e below _ (T36.setTop (mkF m 239 _ [(.int (own_exp (((0 : Int32) + (1 : Int32)) + (1 : Int32)) (p1 &&& (3 : Int32)) ((z1 + z3) + z5) z7))]))
      refine own_istore X36 hx hby at_239 (pc' := 241) rfl (l' := #[.val (.long p0), .second, .val (.int p1), .val (.long p2), .second, .val (.long p3), .second, .val (.long p4), .second, .val (.long z1), .second, .val (.int (p1 &&& (3 : Int32))), .val (.long z3), .second, .val (.long z5), .second, .val (.long z7), .second, .val (.ref b9), .val (.int (1 : Int32)), .val (.long ((z1 + z3) + z5)), .second, .val (.int (((0 : Int32) + (1 : Int32)) + (1 : Int32))), .val (.int (own_exp (0 : Int32) (p1 &&& (3 : Int32)) z1 z3)), .val (.int (own_exp (0 : Int32) (p1 &&& (3 : Int32)) z1 z3)), .val (.int (own_exp ((0 : Int32) + (1 : Int32)) (p1 &&& (3 : Int32)) (z1 + z3) z5)), .val (.int (own_exp ((0 : Int32) + (1 : Int32)) (p1 &&& (3 : Int32)) (z1 + z3) z5)), .val (.int (own_exp (((0 : Int32) + (1 : Int32)) + (1 : Int32)) (p1 &&& (3 : Int32)) ((z1 + z3) + z5) z7)), .unset]) rfl ?_
      refine own_aload X36 hx hby at_241 (pc' := 243) rfl rfl rfl ?_
      refine own_lload X36 hx hby at_243 (pc' := 245) rfl rfl ?_
      refine own_lk4 hw X36 hx hZ hby (by rw [hml]; rfl) hown at_245 (pc' := 248) rfl e36 O29.1 (W := 0) (Nat.le_of_eq rfl) (rm6 l Z a0 hw [] b9 z7 (p1 &&& (3 : Int32)) ((z1 + z3) + z5) (((0 : Int32) + (1 : Int32)) + (1 : Int32)) T29.heap n0 Zn O29 ge_b9) (by decide) (by decide) (by decide) (by decide) (fun v37 T37 L37 X37 hQ37 => ?_)
      rcases hQ37 with ⟨Nq37, K37, rfl, ⟨hz37, O37⟩ | ⟨hz37, O37⟩⟩
      · have N37 := Fr.app N36 Nq37
        have Zn := Nat.le_trans Zn K37.1
        show own_End p e below _ (T37.setTop (mkF m 248 _ [(.int (own_exp (((0 : Int32) + (1 : Int32)) + (1 : Int32)) (p1 &&& (3 : Int32)) ((z1 + z3) + z5) z7))]))
        refine own_istore X37 hx hby at_248 (pc' := 250) rfl (l' := #[.val (.long p0), .second, .val (.int p1), .val (.long p2), .second, .val (.long p3), .second, .val (.long p4), .second, .val (.long z1), .second, .val (.int (p1 &&& (3 : Int32))), .val (.long z3), .second, .val (.long z5), .second, .val (.long z7), .second, .val (.ref b9), .val (.int (1 : Int32)), .val (.long ((z1 + z3) + z5)), .second, .val (.int (((0 : Int32) + (1 : Int32)) + (1 : Int32))), .val (.int (own_exp (0 : Int32) (p1 &&& (3 : Int32)) z1 z3)), .val (.int (own_exp (0 : Int32) (p1 &&& (3 : Int32)) z1 z3)), .val (.int (own_exp ((0 : Int32) + (1 : Int32)) (p1 &&& (3 : Int32)) (z1 + z3) z5)), .val (.int (own_exp ((0 : Int32) + (1 : Int32)) (p1 &&& (3 : Int32)) (z1 + z3) z5)), .val (.int (own_exp (((0 : Int32) + (1 : Int32)) + (1 : Int32)) (p1 &&& (3 : Int32)) ((z1 + z3) + z5) z7)), .val (.int (own_exp (((0 : Int32) + (1 : Int32)) + (1 : Int32)) (p1 &&& (3 : Int32)) ((z1 + z3) + z5) z7))]) rfl ?_
        refine own_iload X37 hx hby at_250 (pc' := 252) rfl rfl ?_
        refine own_ifN X37 hx hby at_252 (pc' := 255) rfl (show ¬ (1 : Int32) = (0 : Int32) by decide) ?_
        refine own_iload X37 hx hby at_255 (pc' := 257) rfl rfl ?_
        refine own_iload X37 hx hby at_257 (pc' := 259) rfl rfl ?_
        refine own_icN X37 hx hby at_259 (pc' := 262) rfl (show (own_exp (((0 : Int32) + (1 : Int32)) + (1 : Int32)) (p1 &&& (3 : Int32)) ((z1 + z3) + z5) z7) = (own_exp (((0 : Int32) + (1 : Int32)) + (1 : Int32)) (p1 &&& (3 : Int32)) ((z1 + z3) + z5) z7) from rfl) ?_
        refine own_iconst X37 hx hby at_262 (pc' := 263) rfl (n := (1 : Int32)) (by decide) ?_
        refine own_goto X37 hx hby at_263 (pc' := 267) (by decide) (by decide) ?_
        refine own_istore X37 hx hby at_267 (pc' := 269) rfl (l' := #[.val (.long p0), .second, .val (.int p1), .val (.long p2), .second, .val (.long p3), .second, .val (.long p4), .second, .val (.long z1), .second, .val (.int (p1 &&& (3 : Int32))), .val (.long z3), .second, .val (.long z5), .second, .val (.long z7), .second, .val (.ref b9), .val (.int (1 : Int32)), .val (.long ((z1 + z3) + z5)), .second, .val (.int (((0 : Int32) + (1 : Int32)) + (1 : Int32))), .val (.int (own_exp (0 : Int32) (p1 &&& (3 : Int32)) z1 z3)), .val (.int (own_exp (0 : Int32) (p1 &&& (3 : Int32)) z1 z3)), .val (.int (own_exp ((0 : Int32) + (1 : Int32)) (p1 &&& (3 : Int32)) (z1 + z3) z5)), .val (.int (own_exp ((0 : Int32) + (1 : Int32)) (p1 &&& (3 : Int32)) (z1 + z3) z5)), .val (.int (own_exp (((0 : Int32) + (1 : Int32)) + (1 : Int32)) (p1 &&& (3 : Int32)) ((z1 + z3) + z5) z7)), .val (.int (own_exp (((0 : Int32) + (1 : Int32)) + (1 : Int32)) (p1 &&& (3 : Int32)) ((z1 + z3) + z5) z7))]) rfl ?_
        refine own_iload X37 hx hby at_269 (pc' := 271) rfl rfl ?_
        refine own_ifY X37 hx hby at_271 (pc' := 287) (by decide) (by decide) (show (own_exp (((0 : Int32) + (1 : Int32)) + (1 : Int32)) (p1 &&& (3 : Int32)) ((z1 + z3) + z5) z7) = (0 : Int32) from hz37) ?_
        refine own_iload X37 hx hby at_287 (pc' := 289) rfl rfl ?_
        refine own_ifN X37 hx hby at_289 (pc' := 292) rfl (show ¬ (1 : Int32) = (0 : Int32) by decide) ?_
        refine own_aload X37 hx hby at_292 (pc' := 294) rfl rfl rfl ?_
        refine own_lk2 hw X37 hx hZ hby (by rw [hml]; rfl) hown at_294 (pc' := 297) rfl rfl O37.1 (W := 0) (Nat.le_of_eq rfl) (rm4 l Z a0 hw [] b9 (p1 &&& (3 : Int32)) ((z1 + z3) + z5) (((0 : Int32) + (1 : Int32)) + (1 : Int32)) T37.heap n0 Zn O37) (by decide) (by decide) (by decide) (by decide) (fun v38 T38 L38 X38 hQ38 => ?_)
        obtain ⟨rfl, Nq38, e38⟩ := hQ38
        have N38 := Fr.app N37 Nq38
        show own_End p e below _ (T38.setTop (mkF m 297 _ [(.int (((0 : Int32) + (1 : Int32)) + (1 : Int32)))]))
        refine own_iload X38 hx hby at_297 (pc' := 299) rfl rfl ?_
        refine own_icN X38 hx hby at_299 (pc' := 302) rfl (show (((0 : Int32) + (1 : Int32)) + (1 : Int32)) = (((0 : Int32) + (1 : Int32)) + (1 : Int32)) from rfl) ?_
        refine own_iconst X38 hx hby at_302 (pc' := 303) rfl (n := (1 : Int32)) (by decide) ?_
        refine own_goto X38 hx hby at_303 (pc' := 307) (by decide) (by decide) ?_
        refine own_istore X38 hx hby at_307 (pc' := 309) rfl (l' := #[.val (.long p0), .second, .val (.int p1), .val (.long p2), .second, .val (.long p3), .second, .val (.long p4), .second, .val (.long z1), .second, .val (.int (p1 &&& (3 : Int32))), .val (.long z3), .second, .val (.long z5), .second, .val (.long z7), .second, .val (.ref b9), .val (.int (1 : Int32)), .val (.long ((z1 + z3) + z5)), .second, .val (.int (((0 : Int32) + (1 : Int32)) + (1 : Int32))), .val (.int (own_exp (0 : Int32) (p1 &&& (3 : Int32)) z1 z3)), .val (.int (own_exp (0 : Int32) (p1 &&& (3 : Int32)) z1 z3)), .val (.int (own_exp ((0 : Int32) + (1 : Int32)) (p1 &&& (3 : Int32)) (z1 + z3) z5)), .val (.int (own_exp ((0 : Int32) + (1 : Int32)) (p1 &&& (3 : Int32)) (z1 + z3) z5)), .val (.int (own_exp (((0 : Int32) + (1 : Int32)) + (1 : Int32)) (p1 &&& (3 : Int32)) ((z1 + z3) + z5) z7)), .val (.int (own_exp (((0 : Int32) + (1 : Int32)) + (1 : Int32)) (p1 &&& (3 : Int32)) ((z1 + z3) + z5) z7))]) rfl ?_
        refine own_iload X38 hx hby at_309 (pc' := 311) rfl rfl ?_
        refine own_zreturn X38 hx hlk hby hret (Or.inr rfl) at_311 (own_lv ?_ (by decide) (by decide))
        show Q0 Z p0 p1 p2 p3 p4  h0 n0 (some (.int (1 : Int32))) T38.heap _
        rw [e38]
        exact ⟨rfl, N38⟩
      · have N37 := Fr.app N36 Nq37
        have Zn := Nat.le_trans Zn K37.1
        show own_End p e below _ (T37.setTop (mkF m 248 _ [(.int (own_exp (((0 : Int32) + (1 : Int32)) + (1 : Int32)) (p1 &&& (3 : Int32)) ((z1 + z3) + z5) z7))]))
        refine own_istore X37 hx hby at_248 (pc' := 250) rfl (l' := #[.val (.long p0), .second, .val (.int p1), .val (.long p2), .second, .val (.long p3), .second, .val (.long p4), .second, .val (.long z1), .second, .val (.int (p1 &&& (3 : Int32))), .val (.long z3), .second, .val (.long z5), .second, .val (.long z7), .second, .val (.ref b9), .val (.int (1 : Int32)), .val (.long ((z1 + z3) + z5)), .second, .val (.int (((0 : Int32) + (1 : Int32)) + (1 : Int32))), .val (.int (own_exp (0 : Int32) (p1 &&& (3 : Int32)) z1 z3)), .val (.int (own_exp (0 : Int32) (p1 &&& (3 : Int32)) z1 z3)), .val (.int (own_exp ((0 : Int32) + (1 : Int32)) (p1 &&& (3 : Int32)) (z1 + z3) z5)), .val (.int (own_exp ((0 : Int32) + (1 : Int32)) (p1 &&& (3 : Int32)) (z1 + z3) z5)), .val (.int (own_exp (((0 : Int32) + (1 : Int32)) + (1 : Int32)) (p1 &&& (3 : Int32)) ((z1 + z3) + z5) z7)), .val (.int (own_exp (((0 : Int32) + (1 : Int32)) + (1 : Int32)) (p1 &&& (3 : Int32)) ((z1 + z3) + z5) z7))]) rfl ?_
        refine own_iload X37 hx hby at_250 (pc' := 252) rfl rfl ?_
        refine own_ifN X37 hx hby at_252 (pc' := 255) rfl (show ¬ (1 : Int32) = (0 : Int32) by decide) ?_
        refine own_iload X37 hx hby at_255 (pc' := 257) rfl rfl ?_
        refine own_iload X37 hx hby at_257 (pc' := 259) rfl rfl ?_
        refine own_icN X37 hx hby at_259 (pc' := 262) rfl (show (own_exp (((0 : Int32) + (1 : Int32)) + (1 : Int32)) (p1 &&& (3 : Int32)) ((z1 + z3) + z5) z7) = (own_exp (((0 : Int32) + (1 : Int32)) + (1 : Int32)) (p1 &&& (3 : Int32)) ((z1 + z3) + z5) z7) from rfl) ?_
        refine own_iconst X37 hx hby at_262 (pc' := 263) rfl (n := (1 : Int32)) (by decide) ?_
        refine own_goto X37 hx hby at_263 (pc' := 267) (by decide) (by decide) ?_
        refine own_istore X37 hx hby at_267 (pc' := 269) rfl (l' := #[.val (.long p0), .second, .val (.int p1), .val (.long p2), .second, .val (.long p3), .second, .val (.long p4), .second, .val (.long z1), .second, .val (.int (p1 &&& (3 : Int32))), .val (.long z3), .second, .val (.long z5), .second, .val (.long z7), .second, .val (.ref b9), .val (.int (1 : Int32)), .val (.long ((z1 + z3) + z5)), .second, .val (.int (((0 : Int32) + (1 : Int32)) + (1 : Int32))), .val (.int (own_exp (0 : Int32) (p1 &&& (3 : Int32)) z1 z3)), .val (.int (own_exp (0 : Int32) (p1 &&& (3 : Int32)) z1 z3)), .val (.int (own_exp ((0 : Int32) + (1 : Int32)) (p1 &&& (3 : Int32)) (z1 + z3) z5)), .val (.int (own_exp ((0 : Int32) + (1 : Int32)) (p1 &&& (3 : Int32)) (z1 + z3) z5)), .val (.int (own_exp (((0 : Int32) + (1 : Int32)) + (1 : Int32)) (p1 &&& (3 : Int32)) ((z1 + z3) + z5) z7)), .val (.int (own_exp (((0 : Int32) + (1 : Int32)) + (1 : Int32)) (p1 &&& (3 : Int32)) ((z1 + z3) + z5) z7))]) rfl ?_
        refine own_iload X37 hx hby at_269 (pc' := 271) rfl rfl ?_
        refine own_ifN X37 hx hby at_271 (pc' := 274) rfl (show ¬ (own_exp (((0 : Int32) + (1 : Int32)) + (1 : Int32)) (p1 &&& (3 : Int32)) ((z1 + z3) + z5) z7) = (0 : Int32) from hz37) ?_
        refine own_lload X37 hx hby at_274 (pc' := 276) rfl rfl ?_
        refine own_lload X37 hx hby at_276 (pc' := 278) rfl rfl ?_
        refine own_ladd X37 hx hby at_278 (pc' := 279) rfl ?_
        refine own_lstore X37 hx hby at_279 (pc' := 281) rfl (l' := #[.val (.long p0), .second, .val (.int p1), .val (.long p2), .second, .val (.long p3), .second, .val (.long p4), .second, .val (.long z1), .second, .val (.int (p1 &&& (3 : Int32))), .val (.long z3), .second, .val (.long z5), .second, .val (.long z7), .second, .val (.ref b9), .val (.int (1 : Int32)), .val (.long (((z1 + z3) + z5) + z7)), .second, .val (.int (((0 : Int32) + (1 : Int32)) + (1 : Int32))), .val (.int (own_exp (0 : Int32) (p1 &&& (3 : Int32)) z1 z3)), .val (.int (own_exp (0 : Int32) (p1 &&& (3 : Int32)) z1 z3)), .val (.int (own_exp ((0 : Int32) + (1 : Int32)) (p1 &&& (3 : Int32)) (z1 + z3) z5)), .val (.int (own_exp ((0 : Int32) + (1 : Int32)) (p1 &&& (3 : Int32)) (z1 + z3) z5)), .val (.int (own_exp (((0 : Int32) + (1 : Int32)) + (1 : Int32)) (p1 &&& (3 : Int32)) ((z1 + z3) + z5) z7)), .val (.int (own_exp (((0 : Int32) + (1 : Int32)) + (1 : Int32)) (p1 &&& (3 : Int32)) ((z1 + z3) + z5) z7))]) rfl ?_
        refine own_iload X37 hx hby at_281 (pc' := 283) rfl rfl ?_
        refine own_iconst X37 hx hby at_283 (pc' := 284) rfl (n := (1 : Int32)) (by decide) ?_
        refine own_iadd X37 hx hby at_284 (pc' := 285) rfl ?_
        refine own_istore X37 hx hby at_285 (pc' := 287) rfl (l' := #[.val (.long p0), .second, .val (.int p1), .val (.long p2), .second, .val (.long p3), .second, .val (.long p4), .second, .val (.long z1), .second, .val (.int (p1 &&& (3 : Int32))), .val (.long z3), .second, .val (.long z5), .second, .val (.long z7), .second, .val (.ref b9), .val (.int (1 : Int32)), .val (.long (((z1 + z3) + z5) + z7)), .second, .val (.int ((((0 : Int32) + (1 : Int32)) + (1 : Int32)) + (1 : Int32))), .val (.int (own_exp (0 : Int32) (p1 &&& (3 : Int32)) z1 z3)), .val (.int (own_exp (0 : Int32) (p1 &&& (3 : Int32)) z1 z3)), .val (.int (own_exp ((0 : Int32) + (1 : Int32)) (p1 &&& (3 : Int32)) (z1 + z3) z5)), .val (.int (own_exp ((0 : Int32) + (1 : Int32)) (p1 &&& (3 : Int32)) (z1 + z3) z5)), .val (.int (own_exp (((0 : Int32) + (1 : Int32)) + (1 : Int32)) (p1 &&& (3 : Int32)) ((z1 + z3) + z5) z7)), .val (.int (own_exp (((0 : Int32) + (1 : Int32)) + (1 : Int32)) (p1 &&& (3 : Int32)) ((z1 + z3) + z5) z7))]) rfl ?_
        refine own_iload X37 hx hby at_287 (pc' := 289) rfl rfl ?_
        refine own_ifN X37 hx hby at_289 (pc' := 292) rfl (show ¬ (1 : Int32) = (0 : Int32) by decide) ?_
        refine own_aload X37 hx hby at_292 (pc' := 294) rfl rfl rfl ?_
        refine own_lk2 hw X37 hx hZ hby (by rw [hml]; rfl) hown at_294 (pc' := 297) rfl rfl O37.1 (W := 0) (Nat.le_of_eq rfl) (rm4 l Z a0 hw [] b9 (p1 &&& (3 : Int32)) (((z1 + z3) + z5) + z7) ((((0 : Int32) + (1 : Int32)) + (1 : Int32)) + (1 : Int32)) T37.heap n0 Zn O37) (by decide) (by decide) (by decide) (by decide) (fun v39 T39 L39 X39 hQ39 => ?_)
        obtain ⟨rfl, Nq39, e39⟩ := hQ39
        have N39 := Fr.app N37 Nq39
        show own_End p e below _ (T39.setTop (mkF m 297 _ [(.int ((((0 : Int32) + (1 : Int32)) + (1 : Int32)) + (1 : Int32)))]))
        refine own_iload X39 hx hby at_297 (pc' := 299) rfl rfl ?_
        refine own_icN X39 hx hby at_299 (pc' := 302) rfl (show ((((0 : Int32) + (1 : Int32)) + (1 : Int32)) + (1 : Int32)) = ((((0 : Int32) + (1 : Int32)) + (1 : Int32)) + (1 : Int32)) from rfl) ?_
        refine own_iconst X39 hx hby at_302 (pc' := 303) rfl (n := (1 : Int32)) (by decide) ?_
        refine own_goto X39 hx hby at_303 (pc' := 307) (by decide) (by decide) ?_
        refine own_istore X39 hx hby at_307 (pc' := 309) rfl (l' := #[.val (.long p0), .second, .val (.int p1), .val (.long p2), .second, .val (.long p3), .second, .val (.long p4), .second, .val (.long z1), .second, .val (.int (p1 &&& (3 : Int32))), .val (.long z3), .second, .val (.long z5), .second, .val (.long z7), .second, .val (.ref b9), .val (.int (1 : Int32)), .val (.long (((z1 + z3) + z5) + z7)), .second, .val (.int ((((0 : Int32) + (1 : Int32)) + (1 : Int32)) + (1 : Int32))), .val (.int (own_exp (0 : Int32) (p1 &&& (3 : Int32)) z1 z3)), .val (.int (own_exp (0 : Int32) (p1 &&& (3 : Int32)) z1 z3)), .val (.int (own_exp ((0 : Int32) + (1 : Int32)) (p1 &&& (3 : Int32)) (z1 + z3) z5)), .val (.int (own_exp ((0 : Int32) + (1 : Int32)) (p1 &&& (3 : Int32)) (z1 + z3) z5)), .val (.int (own_exp (((0 : Int32) + (1 : Int32)) + (1 : Int32)) (p1 &&& (3 : Int32)) ((z1 + z3) + z5) z7)), .val (.int (own_exp (((0 : Int32) + (1 : Int32)) + (1 : Int32)) (p1 &&& (3 : Int32)) ((z1 + z3) + z5) z7))]) rfl ?_
        refine own_iload X39 hx hby at_309 (pc' := 311) rfl rfl ?_
        refine own_zreturn X39 hx hlk hby hret (Or.inr rfl) at_311 (own_lv ?_ (by decide) (by decide))
        show Q0 Z p0 p1 p2 p3 p4  h0 n0 (some (.int (1 : Int32))) T39.heap _
        rw [e39]
        exact ⟨rfl, N39⟩
set_option maxRecDepth 65536 in
set_option maxHeartbeats 40000000 in
theorem comes_1 {Post : Tables → Env → Array Value → State → Outcome → State → Prop} (hpost : ∀ tb e args s v u, (limb_1_1.after args s (.returned v) u = true ∧ limb_1_2.after args s (.returned v) u = true ∧ True) → FrameEnd s (.returned v) u (Jvm.fieldLocs frame_1_writes args s ++ Jvm.arrayLocs frame_1_arrays args s ++ Jvm.staticLocs frame_1_statics s) 16 128 → Post tb e args s (.returned v) u) :
    ArmFor flags0 classFile x code maxLocals ret World_1 tables_1 room_1 Calls_1 rest_1 Pre_1 Post := by
  intro l hfl _ _ p e ha hc hk s m args below hf hA hF happ hP
  obtain ⟨hcalls, hrest, hpre⟩ := hP
  obtain ⟨-, -, -, hnamed, -, -, -, hat⟩ := (Spec.applies_iff hf).mp happ
  obtain ⟨hg, hn⟩ := and_e (Cond.before_iff.mp (show (Jvm.Cond.and given_1 narrow_1).before args s = true from hpre))
  obtain ⟨g1, g2⟩ := and_e hg
  obtain ⟨g3, g4⟩ := and_e g2
  obtain ⟨g5, g6⟩ := and_e g4
  obtain ⟨g7, g8⟩ := and_e g6
  obtain ⟨g9, g10⟩ := and_e g8
  obtain ⟨w0, w1, w2, w3, w4, rfl⟩ : ∃ w0 w1 w2 w3 w4 : Value, args = #[w0, w1, w2, w3, w4] := by
    have hs : args.size = 5 := by simpa [Cond.value, given_1] using g1
    obtain ⟨L⟩ := args
    match L, hs with
    | [w0, w1, w2, w3, w4], _ => exact ⟨w0, w1, w2, w3, w4, rfl⟩
  have hw := fun d (hd : d ∈ tables_1) => atoms_spec (ws := Jvm.Cond.code x code maxLocals ret :: tables_1) hat d (List.mem_cons_of_mem _ hd)
  have hfit : Fit s := fun {y c} hc i hi => by
    obtain ⟨ha, rfl⟩ := Array.getElem?_eq_some_iff.mp hc
    have q := List.all_eq_true.mp ((Array.all_eq_true_iff_forall_mem.mp hF) _ (Array.getElem_mem ha)) i (List.mem_range.mpr hi)
    simpa [Array.getElem?_eq_getElem hi] using q
  obtain ⟨i0, ei0⟩ := isL_v g3
  obtain rfl : w0 = (.long i0) := Option.some.inj ei0
  obtain ⟨i1, ei1⟩ := is_v g5
  obtain rfl : w1 = (.int i1) := Option.some.inj ei1
  obtain ⟨i2, ei2⟩ := isL_v g7
  obtain rfl : w2 = (.long i2) := Option.some.inj ei2
  obtain ⟨i3, ei3⟩ := isL_v g9
  obtain rfl : w3 = (.long i3) := Option.some.inj ei3
  obtain ⟨i4, ei4⟩ := isL_v g10
  obtain rfl : w4 = (.long i4) := Option.some.inj ei4
  obtain ⟨n, o, h1, h2, h3, _, L, rfl, ⟨rfl, N⟩, hq⟩ := rm0 l s _ hw tables_1 i0 i1 i2 i3 i4 s.heap s.heap.size (Nat.le_refl _)  p e ha hc hk s m _ below hf ((Spec.applies_iff_loose hf).mp happ).1 ⟨rfl, State.Warmed39.refl s, rfl⟩ trivial
  refine ⟨n, _, h1, h2, h3, hpost _ _ _ _ _ _ ⟨Cond.after_iff.mpr rfl, Cond.after_iff.mpr (eq_i res_at (Term.int_eval (1)) rfl), trivial⟩ ⟨hq.1, hq.2.1, (hq.2.2.sift fun y hy => Or.inr (N y hy)).mono (by decide) (by decide)⟩⟩
theorem main_1_1 : Claimed_1_1 := comes_1 fun _ _ _ _ _ _ h hF => ⟨h.1, hF⟩
theorem main_1_2 : Claimed_1_2 := comes_1 fun _ _ _ _ _ _ h hF => ⟨h.2.1, hF⟩
end Jvm.Pilot.@@N@@
namespace Jvm.Pilot.@@N@@
open Jvm Jvm.ClassFile Sem Op Lib Jvm.Free Jvm.Stand Jvm.Pilot.@@N@@.Jvm.D
/-! MADE BY PROGRAM (witnessworld.py) out of the Statement's table words and the real class files: 9 classes; the members and pool entries that the words name. The judged class is class 1, her method 3. -/
namespace start1
open Jvm.ClassFile
def u (s : String) : CpInfo := .utf8 (stringToUtf16 s)
/-- a pool by its gaps: so many unusable entries, then the entry; so many at the end -/
def gap : Nat → List CpInfo → List CpInfo
  | 0, r => r
  | n + 1, r => .unusable :: gap n r
def poolList (es : List (Nat × CpInfo)) (last : Nat) : List CpInfo := es.foldr (fun e r => gap e.1 (e.2 :: r)) (gap last [])
def pool (es : List (Nat × CpInfo)) (last : Nat) : Array CpInfo := ⟨poolList es last⟩
def fileOf (pool : Array CpInfo) (this : Nat) (attrs : Array Attribute := #[]) (ms : Array MethodInfo := #[]) (fl : Nat := 33) (sup : Nat := 0) (ifs : Array Nat := #[]) (fds : Array FieldInfo := #[]) : ClassFile where
  minorVersion := 0
  majorVersion := 65
  constantPool := pool
  accessFlags := fl
  thisClass := this
  superClass := sup
  interfaces := ifs
  fields := fds
  methods := ms
  attributes := attrs
def plain (name : String) (sup : Option ClassId) : Class where
  name := name
  kind := .ordinary
  loader := none
  accessFlags := 33
  super := sup
  interfaces := #[]
  cf := none
  fields := #[]
  methods := #[]
  instanceTypes := #[]
  staticTypes := #[]
  resolved := #[]
  callSites := []
  init := .initialized
  statics := none
  mirror := none

def pool0 : Array CpInfo := pool [(5, u "<init>"), (0, u "()V"), (1, .class_ 10), (1, u "java/lang/Object")] 113

def k0c0 : Code := { maxStack := 0, maxLocals := 1, code := object_method_1_code, exceptionTable := #[], attributes := #[] }
def k0m0 : Method := { name := "<init>", desc := "()V", sig := { parameters := [], returnType := none }, accessFlags := 1, code := some k0c0 }
/-- java/lang/Object -/
def k0 : Class := { plain "java/lang/Object" none with
  accessFlags := 33
  interfaces := #[]
  cf := some (fileOf pool0 8 #[] #[{ accessFlags := 1, nameIndex := 5, descriptorIndex := 6, attributes := #[] }] 33 0 #[] #[])
  fields := #[]
  methods := #[k0m0]
  instanceTypes := #[]
  staticTypes := #[]
  resolved := Array.replicate 124 none
  statics := none }

def pool1 : Array CpInfo := pool [(2, .class_ 4), (1, u "java/lang/Object"), (0, u "<init>"), (0, u "()V"), (0, .long 33554431), (1, .long 68719476735), (1, .long 33554432), (1, .methodref 14 15), (0, .class_ 16), (0, .nameAndType 17 18), (0, u "com/example/inflight/inflight/protocol/FrameRoomTakePinLaw"), (0, u "size"), (0, u "(J)J"), (0, .class_ 20), (0, u "com/example/inflight/inflight/protocol/FrameRoom"), (0, .methodref 19 22), (0, .nameAndType 5 23), (0, u "(JI)V"), (0, .methodref 19 25), (0, .nameAndType 26 27), (0, u "count"), (0, u "()I"), (0, .methodref 14 29), (0, .nameAndType 30 31), (0, u "expect"), (0, u "(IIJJ)Z"), (0, .methodref 19 33), (0, .nameAndType 34 35), (0, u "take"), (0, u "(J)Z"), (3, u "law"), (0, u "(JIJJJ)Z")] 2

def k1m0 : Method := { name := "<init>", desc := "()V", sig := { parameters := [], returnType := none }, accessFlags := 1, code := none }
def k1c1 : Code := { maxStack := 4, maxLocals := 2, code := method_2_code, exceptionTable := #[], attributes := #[] }
def k1m1 : Method := { name := "size", desc := "(J)J", sig := { parameters := [.long], returnType := some .long }, accessFlags := 10, code := some k1c1 }
def k1c2 : Code := { maxStack := 4, maxLocals := 6, code := method_3_code, exceptionTable := #[], attributes := #[] }
def k1m2 : Method := { name := "expect", desc := "(IIJJ)Z", sig := { parameters := [.int, .int, .long, .long], returnType := some .boolean }, accessFlags := 10, code := some k1c2 }
def k1c3 : Code := { maxStack := 6, maxLocals := 29, code := code, exceptionTable := #[], attributes := #[] }
def k1m3 : Method := { name := "law", desc := "(JIJJJ)Z", sig := { parameters := [.long, .int, .long, .long, .long], returnType := some .boolean }, accessFlags := 9, code := some k1c3 }
/-- com/example/inflight/inflight/protocol/FrameRoomTakePinLaw -/
def k1 : Class := { plain "com/example/inflight/inflight/protocol/FrameRoomTakePinLaw" (some 0) with
  accessFlags := 49
  interfaces := #[]
  cf := some (fileOf pool1 14 #[] #[{ accessFlags := 1, nameIndex := 5, descriptorIndex := 6, attributes := #[] }, { accessFlags := 10, nameIndex := 17, descriptorIndex := 18, attributes := #[] }, { accessFlags := 10, nameIndex := 30, descriptorIndex := 31, attributes := #[] }, { accessFlags := 9, nameIndex := 39, descriptorIndex := 40, attributes := #[] }] 49 2 #[] #[])
  fields := #[]
  methods := #[k1m0, k1m1, k1m2, k1m3]
  instanceTypes := #[]
  staticTypes := #[]
  resolved := Array.replicate 43 none
  statics := none }

def pool2 : Array CpInfo := pool [(1, .methodref 2 3), (0, .class_ 4), (0, .nameAndType 5 6), (0, u "java/lang/Object"), (0, u "<init>"), (0, u "()V"), (0, .fieldref 8 9), (0, .class_ 10), (0, .nameAndType 11 12), (0, u "com/example/inflight/inflight/protocol/FrameRoom"), (0, u "maxEntries"), (0, u "I"), (0, .fieldref 8 14), (0, .nameAndType 15 16), (0, u "payloadLength"), (0, u "J"), (0, .fieldref 8 18), (0, .nameAndType 19 12), (0, u "count"), (2, .long 33554432), (1, u "(JI)V"), (2, u "take"), (0, u "(J)Z"), (1, u "()I")] 2

def k2c0 : Code := { maxStack := 3, maxLocals := 4, code := prog_85_method_1_code, exceptionTable := #[], attributes := #[] }
def k2m0 : Method := { name := "<init>", desc := "(JI)V", sig := { parameters := [.long, .int], returnType := none }, accessFlags := 0, code := some k2c0 }
def k2c1 : Code := { maxStack := 5, maxLocals := 4, code := prog_85_method_2_code, exceptionTable := #[], attributes := #[] }
def k2m1 : Method := { name := "take", desc := "(J)Z", sig := { parameters := [.long], returnType := some .boolean }, accessFlags := 0, code := some k2c1 }
def k2c2 : Code := { maxStack := 1, maxLocals := 1, code := prog_85_method_3_code, exceptionTable := #[], attributes := #[] }
def k2m2 : Method := { name := "count", desc := "()I", sig := { parameters := [], returnType := some .int }, accessFlags := 0, code := some k2c2 }
/-- com/example/inflight/inflight/protocol/FrameRoom -/
def k2 : Class := { plain "com/example/inflight/inflight/protocol/FrameRoom" (some 0) with
  accessFlags := 32
  interfaces := #[]
  cf := some (fileOf pool2 8 #[] #[{ accessFlags := 0, nameIndex := 5, descriptorIndex := 24, attributes := #[] }, { accessFlags := 0, nameIndex := 27, descriptorIndex := 28, attributes := #[] }, { accessFlags := 0, nameIndex := 19, descriptorIndex := 30, attributes := #[] }] 32 2 #[] #[{ accessFlags := 18, nameIndex := 11, descriptorIndex := 12, attributes := #[] }, { accessFlags := 2, nameIndex := 15, descriptorIndex := 16, attributes := #[] }, { accessFlags := 2, nameIndex := 19, descriptorIndex := 12, attributes := #[] }])
  fields := #[{ name := "maxEntries", type := .int, accessFlags := 18, slot := 0, constantValue := 0 }, { name := "payloadLength", type := .long, accessFlags := 2, slot := 1, constantValue := 0 }, { name := "count", type := .int, accessFlags := 2, slot := 2, constantValue := 0 }]
  methods := #[k2m0, k2m1, k2m2]
  instanceTypes := #[.int, .long, .int]
  staticTypes := #[]
  resolved := Array.replicate 33 none
  statics := none }

def pool3 : Array CpInfo := pool [(1, u "java/lang/Cloneable"), (0, .class_ 1), (0, u "java/lang/Object"), (0, .class_ 3)] 3

/-- java/lang/Cloneable -/
def k3 : Class := { plain "java/lang/Cloneable" (some 0) with
  accessFlags := 1537
  interfaces := #[]
  cf := some (fileOf pool3 2 #[] #[] 1537 4 #[] #[])
  fields := #[]
  methods := #[]
  instanceTypes := #[]
  staticTypes := #[]
  resolved := Array.replicate 8 none
  statics := none }

def pool4 : Array CpInfo := pool [(1, u "java/io/Serializable"), (0, .class_ 1), (0, u "java/lang/Object"), (0, .class_ 3)] 3

/-- java/io/Serializable -/
def k4 : Class := { plain "java/io/Serializable" (some 0) with
  accessFlags := 1537
  interfaces := #[]
  cf := some (fileOf pool4 2 #[] #[] 1537 4 #[] #[])
  fields := #[]
  methods := #[]
  instanceTypes := #[]
  staticTypes := #[]
  resolved := Array.replicate 8 none
  statics := none }

/-- the primitive byte -/
def k5 : Class := { plain "byte" none with kind := .primitive 'B', accessFlags := 0x411 }
/-- [B -/
def k6 : Class := { plain "[B" (some 0) with kind := .array 5 .byte, interfaces := #[3, 4], accessFlags := 1041 }

/-- the primitive int -/
def k7 : Class := { plain "int" none with kind := .primitive 'I', accessFlags := 0x411 }
/-- [I -/
def k8 : Class := { plain "[I" (some 0) with kind := .array 7 .int, interfaces := #[3, 4], accessFlags := 1041 }

def heap : Heap := #[]
def classes : Array Class := #[k0, k1, k2, k3, k4, k5, k6, k7, k8]
def interned : List (Array UInt16 × Addr) := []
def slotsUsed : Nat := 0
def theMethod : MethodId := ⟨1, 3⟩
def args0 : Array Value := #[.long 5, .int 3, .long 7, .long 9, .long 11]
def aboutOver (below : List Frame) : State where
  vm := { classes := classes, interned := interned.toArray }
  heap := heap
  slotsUsed := slotsUsed
  threads := #[{ frames := .invoking theMethod args0 :: below }]
def below0 : List Frame := [.native { method := ⟨0, 0⟩, args := #[] }]
def about1 : State := aboutOver below0
def p0 : Program := .bare "" "" ""
def e0 : Env := launch0.env 0 0 0
theorem w_frames : about1.frames = Frame.invoking theMethod args0 :: below0 := rfl
set_option maxRecDepth 65536 in
theorem w_args : argsFit about1.vm theMethod args0 = true := by decide +kernel
set_option maxRecDepth 65536 in
theorem w_heap : heapFits about1 = true := by decide +kernel
set_option maxRecDepth 65536 in
theorem w_runnable : about1.curStatus? = some .runnable := by decide +kernel
set_option maxRecDepth 65536 in
theorem w_alone : about1.alone = true := by decide +kernel
set_option maxRecDepth 65536 in
theorem w_named : about1.methodNamed? x = some theMethod := by decide +kernel
set_option maxRecDepth 65536 in
theorem w_hears : about1.hears theMethod below0 = true := by decide +kernel
set_option maxRecDepth 65536 in
theorem w_ripe : about1.ripe theMethod args0 below0 = true := by decide +kernel
theorem w_running : about1.status = .running := rfl
set_option maxRecDepth 65536 in
theorem w_room : about1.hasRoom e0.platform room_1 = true :=
  launch0.hasRoom_least _ room_1 (by decide +kernel) (by decide +kernel) (by decide +kernel) (by decide +kernel) (by decide +kernel) (by decide +kernel)
theorem allAtoms_all (ts : List Jvm.Cond) (a : Array Jvm.Value) (st : Jvm.State) : (allAtoms ts).before a st = ts.all (fun c => c.before a st) := by
  induction ts with
  | nil => rfl
  | cons c t ih =>
    show (Jvm.Cond.and c (allAtoms t)).before a st = _
    rw [Jvm.Cond.before_and, ih, List.all_cons]
def words1 : List Jvm.Cond := Jvm.Cond.code x code maxLocals ret :: tables_1
/-- a 'code' word, met by the world's own term for the bytes: nothing is compared byte by byte -/
theorem code_word {y : MethodName} {bytes : ByteArray} {mx : Nat} {rt : Option FieldType} {a : Array Value} {s : State} {m : MethodId} {meth : Method} {c : Code} (h1 : s.methodNamed? y = some m) (h2 : s.vm.method? m = some meth) (h3 : meth.code = some c) (h4 : c.code = bytes)
    (h5 : (c.maxLocals == mx && c.exceptionTable.isEmpty && decide (c.maxStack ≤ mostOperands) && decide (meth.sig.returnType = rt) && !meth.locks && decide (parseMethodDescriptor y.desc = some meth.sig)) = true) : (Jvm.Cond.code y bytes mx rt).before a s = true := by
  simp only [Bool.and_eq_true, beq_iff_eq, Bool.not_eq_true', decide_eq_true_eq] at h5
  obtain ⟨⟨⟨⟨⟨g1, g2⟩, g3⟩, g4⟩, g5⟩, g6⟩ := h5
  simp [Cond.before, Cond.holds, Cond.value, h1, h2, h3, h4, g1, g2, g3, g4, g5, g6]
def isCode : Jvm.Cond → Bool
  | .code _ _ _ _ => true
  | _ => false
theorem all_split {L : List Jvm.Cond} {P : Jvm.Cond → Bool} (h1 : L.all (fun c => isCode c || P c) = true) (h2 : ∀ c ∈ L.filter isCode, P c = true) : L.all P = true := by
  refine List.all_eq_true.mpr fun c hc => ?_
  have h := List.all_eq_true.mp h1 c hc
  rcases Bool.eq_false_or_eq_true (isCode c) with hi | hi
  · exact h2 c (List.mem_filter.mpr ⟨hc, hi⟩)
  · simpa [hi] using h
set_option maxRecDepth 65536 in
theorem w_c0 : (Jvm.Cond.code x code maxLocals ret).before args0 about1 = true := code_word (m := ⟨1, 3⟩) (meth := k1m3) (c := k1c3) (by decide +kernel) rfl rfl rfl (by decide +kernel)
set_option maxRecDepth 65536 in
theorem w_c1 : (Jvm.Cond.code ({ cls := "com/example/inflight/inflight/protocol/FrameRoomTakePinLaw", name := "size", desc := "(J)J" } : Jvm.MethodName) method_2_code (2 : Nat) (Option.some Jvm.ClassFile.FieldType.long)).before args0 about1 = true := code_word (m := ⟨1, 1⟩) (meth := k1m1) (c := k1c1) (by decide +kernel) rfl rfl rfl (by decide +kernel)
set_option maxRecDepth 65536 in
theorem w_c2 : (Jvm.Cond.code ({ cls := "com/example/inflight/inflight/protocol/FrameRoom", name := "<init>", desc := "(JI)V" } : Jvm.MethodName) prog_85_method_1_code (4 : Nat) (Option.none : Option Jvm.ClassFile.FieldType)).before args0 about1 = true := code_word (m := ⟨2, 0⟩) (meth := k2m0) (c := k2c0) (by decide +kernel) rfl rfl rfl (by decide +kernel)
set_option maxRecDepth 65536 in
theorem w_c3 : (Jvm.Cond.code ({ cls := "java/lang/Object", name := "<init>", desc := "()V" } : Jvm.MethodName) object_method_1_code (1 : Nat) (Option.none : Option Jvm.ClassFile.FieldType)).before args0 about1 = true := code_word (m := ⟨0, 0⟩) (meth := k0m0) (c := k0c0) (by decide +kernel) rfl rfl rfl (by decide +kernel)
set_option maxRecDepth 65536 in
theorem w_c4 : (Jvm.Cond.code ({ cls := "com/example/inflight/inflight/protocol/FrameRoom", name := "count", desc := "()I" } : Jvm.MethodName) prog_85_method_3_code (1 : Nat) (Option.some Jvm.ClassFile.FieldType.int)).before args0 about1 = true := code_word (m := ⟨2, 2⟩) (meth := k2m2) (c := k2c2) (by decide +kernel) rfl rfl rfl (by decide +kernel)
set_option maxRecDepth 65536 in
theorem w_c5 : (Jvm.Cond.code ({ cls := "com/example/inflight/inflight/protocol/FrameRoomTakePinLaw", name := "expect", desc := "(IIJJ)Z" } : Jvm.MethodName) method_3_code (6 : Nat) (Option.some Jvm.ClassFile.FieldType.boolean)).before args0 about1 = true := code_word (m := ⟨1, 2⟩) (meth := k1m2) (c := k1c2) (by decide +kernel) rfl rfl rfl (by decide +kernel)
set_option maxRecDepth 65536 in
theorem w_c6 : (Jvm.Cond.code ({ cls := "com/example/inflight/inflight/protocol/FrameRoom", name := "take", desc := "(J)Z" } : Jvm.MethodName) prog_85_method_2_code (4 : Nat) (Option.some Jvm.ClassFile.FieldType.boolean)).before args0 about1 = true := code_word (m := ⟨2, 1⟩) (meth := k2m1) (c := k2c1) (by decide +kernel) rfl rfl rfl (by decide +kernel)
def codes1 : List Jvm.Cond := [Jvm.Cond.code x code maxLocals ret, Jvm.Cond.code ({ cls := "com/example/inflight/inflight/protocol/FrameRoomTakePinLaw", name := "size", desc := "(J)J" } : Jvm.MethodName) method_2_code (2 : Nat) (Option.some Jvm.ClassFile.FieldType.long), Jvm.Cond.code ({ cls := "com/example/inflight/inflight/protocol/FrameRoom", name := "<init>", desc := "(JI)V" } : Jvm.MethodName) prog_85_method_1_code (4 : Nat) (Option.none : Option Jvm.ClassFile.FieldType), Jvm.Cond.code ({ cls := "java/lang/Object", name := "<init>", desc := "()V" } : Jvm.MethodName) object_method_1_code (1 : Nat) (Option.none : Option Jvm.ClassFile.FieldType), Jvm.Cond.code ({ cls := "com/example/inflight/inflight/protocol/FrameRoom", name := "count", desc := "()I" } : Jvm.MethodName) prog_85_method_3_code (1 : Nat) (Option.some Jvm.ClassFile.FieldType.int), Jvm.Cond.code ({ cls := "com/example/inflight/inflight/protocol/FrameRoomTakePinLaw", name := "expect", desc := "(IIJJ)Z" } : Jvm.MethodName) method_3_code (6 : Nat) (Option.some Jvm.ClassFile.FieldType.boolean), Jvm.Cond.code ({ cls := "com/example/inflight/inflight/protocol/FrameRoom", name := "take", desc := "(J)Z" } : Jvm.MethodName) prog_85_method_2_code (4 : Nat) (Option.some Jvm.ClassFile.FieldType.boolean)]
set_option maxRecDepth 65536 in
theorem codes_eq : words1.filter isCode = codes1 := rfl
theorem w_codes : ∀ c ∈ words1.filter isCode, c.before args0 about1 = true := by
  rw [codes_eq]
  intro c hc
  simp only [codes1, List.mem_cons, List.not_mem_nil, or_false] at hc
  rcases hc with rfl | rfl | rfl | rfl | rfl | rfl | rfl
  · exact w_c0
  · exact w_c1
  · exact w_c2
  · exact w_c3
  · exact w_c4
  · exact w_c5
  · exact w_c6
set_option maxRecDepth 65536 in
theorem w_t1 : (words1.take 24).all (fun c => isCode c || c.before args0 about1) = true := by decide +kernel
set_option maxRecDepth 65536 in
theorem w_t2 : (words1.drop 24).all (fun c => isCode c || c.before args0 about1) = true := by decide +kernel
theorem w_tables : (allAtoms (Jvm.Cond.code x code maxLocals ret :: tables_1)).before args0 about1 = true := by
  rw [allAtoms_all]
  show words1.all (fun c => c.before args0 about1) = true
  refine all_split ?_ w_codes
  rw [← List.take_append_drop 24 words1, List.all_append, w_t1, w_t2]
  rfl
set_option maxRecDepth 65536 in
theorem w_case : (Jvm.Cond.and given_1 narrow_1).before args0 about1 = true := by decide +kernel
theorem w_applies : (headSpec (Jvm.Cond.code x code maxLocals ret :: tables_1) room_1).applies x e0.platform about1 = true :=
  (Spec.applies_iff w_frames).mpr ⟨w_running, w_runnable, w_alone, w_named, w_hears, w_ripe, w_room, w_tables⟩
theorem atStart : AtStart classFile x code maxLocals ret World_1 tables_1 room_1 Calls_1 rest_1 Pre_1 launch0 p0 e0 about1 theMethod args0 below0 :=
  ⟨lists_1, trivial, launch0.admits_env _ _ _, launch0.least_env, fairChoices_fair.cas, fairChoices_fair.clock, w_frames, w_args, w_heap, w_applies, trivial, trivial, w_case⟩
end start1
theorem witness_1 : WitnessClaimed_1 := ⟨start1.p0, start1.e0, start1.about1, start1.theMethod, start1.args0, start1.below0, start1.atStart⟩
end Jvm.Pilot.@@N@@
