import JvmDerived
import JvmDerived.Pilot.@@N@@Statement
import JvmDerived.Pilot.@@N@@Code
set_option linter.unusedVariables false
set_option linter.unusedSimpArgs false
namespace Jvm.Pilot.@@N@@
open Jvm Jvm.ClassFile Sem Op Lib Jvm.Free Jvm.Stand Jvm.LawKit Jvm.RoadKit Bundle Jvm.Pilot.@@N@@.Jvm.D
section OwnKit
variable {p : Program} {l : Launch} {e : Env} {R : Room} {s : State} {m : MethodId} {args : Array Value} {below : List Frame} {meth : Method} {c : Code} {T : State} {locs : List Loc} {cells slots : Nat} {Q : Option Value → Heap → List Loc → Prop} {F : Option Value → State → Prop} {KC KS : Nat} {bs : ByteArray} {pc pc' : Nat} {Ls l' : Array Slot} {st : List Value}
/-- from U the run comes to its end: it returns v, and F says what it leaves -/
def own_End (p : Program) (e : Env) (below : List Frame) (F : Option Value → State → Prop) (U : State) : Prop :=
  ∃ s₂ v, Steps p.tables e below U s₂ ∧ s₂.status = .running ∧ Ended s₂ below (.returned v) ∧ F v s₂
def own_F (s : State) (Q : Option Value → Heap → List Loc → Prop) (KC KS : Nat) : Option Value → State → Prop := fun v s₂ => ∃ L, Q v s₂.heap L ∧ FrameEnd s (.returned v) s₂ L KC KS
def own_FS (s : State) (Q : Option Value → Heap → List Loc → Prop) (KC KS : Nat) : Option Value → State → Prop := fun v s₂ => ∃ L, Q v s₂.heap L ∧ ReturnedEndW s (.returned v) s₂ L KC KS
theorem own_body {U : State} (h : own_End p e below (own_F s Q KC KS) U) : ∃ s₂ o, Steps p.tables e below U s₂ ∧ s₂.status = .running ∧ Ended s₂ below o ∧ ∃ v L, o = .returned v ∧ Q v s₂.heap L ∧ FrameEnd s o s₂ L KC KS := by
  obtain ⟨s2, v, h1, h2, h3, L, h4, h5⟩ := h
  exact ⟨s2, _, h1, h2, h3, v, L, rfl, h4, h5⟩
theorem own_bodyS {U : State} (h : own_End p e below (own_FS s Q KC KS) U) : ∃ s₂ o, Steps p.tables e below U s₂ ∧ s₂.status = .running ∧ Ended s₂ below o ∧ ∃ v L, o = .returned v ∧ Q v s₂.heap L ∧ ReturnedEndW s o s₂ L KC KS := by
  obtain ⟨s2, v, h1, h2, h3, L, h4, h5⟩ := h
  exact ⟨s2, _, h1, h2, h3, v, L, rfl, h4, h5⟩
theorem own_step {U U' : State} (k : ∀ t, Steps p.tables e below U' t → Steps p.tables e below U t) (h : own_End p e below F U') : own_End p e below F U := by
  obtain ⟨s2, v, h1, h2⟩ := h
  exact ⟨s2, v, k _ h1, h2⟩
theorem own_trans {U U' : State} (k : Steps p.tables e below U U') (h : own_End p e below F U') : own_End p e below F U := by
  obtain ⟨s2, v, h1, h2⟩ := h
  exact ⟨s2, v, k.trans h1, h2⟩
theorem own_mono {cells' slots' : Nat} (X : Stand p l e R s m args below meth c T locs cells slots) (hc : cells ≤ cells') (hs : slots ≤ slots') : Stand p l e R s m args below meth c T locs cells' slots' := X.mono hc hs
theorem own_selPriv {y : MethodName} {n : Nat} (wi : (Cond.instantiable y.cls n).before args s = true) (hp : s.PrivateAt y) (hi : (Cond.instanceMethod y).before args s = true) (hy : y.cls ≠ "java/lang/invoke/MethodHandle" ∧ y.cls ≠ "java/lang/invoke/VarHandle") : (Cond.selects y.cls y y).before args s = true := by
  obtain ⟨c, k, h1, h2, -, h4, -⟩ := Cond.instantiable_spec wi
  exact selects_self_of_private h1 h2 (by simp only [Bool.or_eq_false_iff] at h4; exact h4.1) hp hi hy
theorem own_sta0 {Z : State} {h h' : Heap} {C n d : String} {v : Value} (S : Sta Z h C n d v) (K : Keep h h' []) : Sta Z h' C n d v := by
  obtain ⟨cf, i, k, f, st, cell, h1, h2, h3, h4, h5, h6, h7⟩ := S
  exact ⟨cf, i, k, f, st, cell, h1, h2, h3, h4, K.2.1 _ _ h5 nin0, h6, h7⟩
theorem own_sta1 {Z : State} {h h' : Heap} {C n d D : String} {v : Value} {a : Addr} (S : Sta Z h C n d v) (K : Keep h h' [a]) (E : Exa Z h a D) : Sta Z h' C n d v := by
  obtain ⟨cf, i, k, f, st, cell, h1, h2, h3, h4, h5, h6, h7⟩ := S
  obtain ⟨c', k', g1, -, -, g4, -⟩ := E
  have ne : st ≠ a := fun q => by subst q; cases h5.symm.trans g1; rw [g4] at h6; cases h6
  exact ⟨cf, i, k, f, st, cell, h1, h2, h3, h4, K.2.1 _ _ h5 (ninS ne nin0), h6, h7⟩
theorem own_cat1 {w : Value} (h : w.isRef = true) : w.category = 1 := by rcases ref_cases h with rfl | ⟨z, rfl⟩ <;> rfl
theorem own_nar {w : Value} {t : FieldType} (h : w.isRef = true) (ht : t.isReference = true) : narrow t w = w := by rcases ref_cases h with rfl | ⟨z, rfl⟩ <;> cases t <;> first | rfl | cases ht
theorem own_fit {w : Value} {t : FieldType} (h : w.isRef = true) (ht : t.isReference = true) : fits t w = true := by rcases ref_cases h with rfl | ⟨z, rfl⟩ <;> cases t <;> first | rfl | cases ht
/-- what the frame says where the run leaves -/
def own_Lv (F : Option Value → State → Prop) (s T : State) (locs : List Loc) (cells slots : Nat) (v : Option Value) : Prop := ∀ fs, s.WarmedH (T.setFrames fs).vm → s.sameButNew ({ T.setFrames fs with vm := s.vm } : State) locs cells slots → F v (T.setFrames fs)
theorem own_lv {v : Option Value} (hQ : Q v T.heap locs) (hc : cells ≤ KC) (hs : slots ≤ KS) : own_Lv (own_F s Q KC KS) s T locs cells slots v := fun fs hW hsm => ⟨locs, hQ, ⟨_, rfl⟩, hW, hsm.mono hc hs⟩
theorem own_lvS {v : Option Value} {vm₁ : Vm} {n : Nat} (hS : s.Since vm₁ n) (hn : n ≤ T.heap.size) (hQ : Q v T.heap locs) (hc : cells ≤ KC) (hs : slots ≤ KS) : own_Lv (own_FS s Q KC KS) (s.setVm vm₁) T locs cells slots v := fun fs hW hsm => by
  obtain ⟨a, b, c'⟩ := hS.ended (U := T.setFrames fs) hW hn hsm
  exact ⟨locs, hQ, ⟨_, rfl⟩, a, b, c'.mono hc hs⟩
theorem own_retW (X : Stand p l e R s m args below meth c T locs cells slots) (hx : p.tables.exec = Jvm.exec) (hlk : meth.locks = false) (hby : c.code = bs) {w : Value} {t : FieldType} {i : Instr} {rest : List Value} (hret : meth.sig.returnType = some t) (hn : narrow t w = w)
    (hi : (i = .ireturn ∧ (t = .int ∨ t = .boolean ∨ t = .byte ∨ t = .char ∨ t = .short) ∧ ∃ z, w = .int z) ∨ (i = .lreturn ∧ t = .long ∧ ∃ z, w = .long z) ∨ (i = .dreturn ∧ t = .double ∧ ∃ z, w = .double z) ∨ (i = .freturn ∧ t = .float ∧ ∃ z, w = .float z) ∨ (i = .areturn ∧ t.isReference = true ∧ w.isRef = true))
    (hd : decode bs pc = .ok (i, 1)) (hF : own_Lv F s T locs cells slots (some w)) : own_End p e below F (T.setTop (mkF m pc Ls (w :: rest))) := by
  obtain ⟨fs, hr, hrun, hended, hW, hsame⟩ := X.leave (v := some w) (fun h => by rw [hret] at h; cases h) hlk
  exact ⟨_, _, retOut X hx hret hn hi (hb hby hd) hr, hrun, hended, hF fs hW hsame⟩
theorem own_ireturn (X : Stand p l e R s m args below meth c T locs cells slots) (hx : p.tables.exec = Jvm.exec) (hlk : meth.locks = false) (hby : c.code = bs) {z : Int32} {rest : List Value} (hret : meth.sig.returnType = some .int)
    (hd : decode bs pc = .ok (.ireturn, 1)) (hF : own_Lv F s T locs cells slots (some (.int z))) : own_End p e below F (T.setTop (mkF m pc Ls (.int z :: rest))) :=
  own_retW X hx hlk hby hret rfl (Or.inl ⟨rfl, Or.inl rfl, _, rfl⟩) hd hF
theorem own_zreturn (X : Stand p l e R s m args below meth c T locs cells slots) (hx : p.tables.exec = Jvm.exec) (hlk : meth.locks = false) (hby : c.code = bs) {z : Int32} {rest : List Value} (hret : meth.sig.returnType = some .boolean) (hz : z = 0 ∨ z = 1)
    (hd : decode bs pc = .ok (.ireturn, 1)) (hF : own_Lv F s T locs cells slots (some (.int z))) : own_End p e below F (T.setTop (mkF m pc Ls (.int z :: rest))) :=
  own_retW X hx hlk hby hret (by rcases hz with rfl | rfl <;> rfl) (Or.inl ⟨rfl, Or.inr (Or.inl rfl), _, rfl⟩) hd hF
theorem own_breturn (X : Stand p l e R s m args below meth c T locs cells slots) (hx : p.tables.exec = Jvm.exec) (hlk : meth.locks = false) (hby : c.code = bs) {z : Int32} {rest : List Value} (hret : meth.sig.returnType = some .byte) (hz : z.toInt8.toInt32 = z)
    (hd : decode bs pc = .ok (.ireturn, 1)) (hF : own_Lv F s T locs cells slots (some (.int z))) : own_End p e below F (T.setTop (mkF m pc Ls (.int z :: rest))) :=
  own_retW X hx hlk hby hret (show Value.int z.toInt8.toInt32 = .int z by rw [hz]) (Or.inl ⟨rfl, Or.inr (Or.inr (Or.inl rfl)), _, rfl⟩) hd hF
theorem own_lreturn (X : Stand p l e R s m args below meth c T locs cells slots) (hx : p.tables.exec = Jvm.exec) (hlk : meth.locks = false) (hby : c.code = bs) {z : Int64} {rest : List Value} (hret : meth.sig.returnType = some .long)
    (hd : decode bs pc = .ok (.lreturn, 1)) (hF : own_Lv F s T locs cells slots (some (.long z))) : own_End p e below F (T.setTop (mkF m pc Ls (.long z :: rest))) :=
  own_retW X hx hlk hby hret rfl (Or.inr (Or.inl ⟨rfl, rfl, _, rfl⟩)) hd hF
theorem own_areturn (X : Stand p l e R s m args below meth c T locs cells slots) (hx : p.tables.exec = Jvm.exec) (hlk : meth.locks = false) (hby : c.code = bs) {w : Value} {t : FieldType} {rest : List Value} (hret : meth.sig.returnType = some t) (ht : t.isReference = true) (hw : w.isRef = true)
    (hd : decode bs pc = .ok (.areturn, 1)) (hF : own_Lv F s T locs cells slots (some w)) : own_End p e below F (T.setTop (mkF m pc Ls (w :: rest))) :=
  own_retW X hx hlk hby hret (own_nar hw ht) (Or.inr (Or.inr (Or.inr (Or.inr ⟨rfl, ht, hw⟩)))) hd hF
theorem own_return (X : Stand p l e R s m args below meth c T locs cells slots) (hx : p.tables.exec = Jvm.exec) (hlk : meth.locks = false) (hby : c.code = bs) (hret : meth.sig.returnType = none)
    (hd : decode bs pc = .ok (.return_, 1)) (hF : own_Lv F s T locs cells slots none) : own_End p e below F (T.setTop (mkF m pc Ls [])) := by
  obtain ⟨fs, hr, hrun, hended, hW, hsame⟩ := X.leave (v := none) (fun _ => rfl) hlk
  exact ⟨_, _, X.returnOut hx hret (hb hby hd) hr, hrun, hended, hF fs hW hsame⟩
section Plain
theorem own_iload (X : Stand p l e R s m args below meth c T locs cells slots) (hx : p.tables.exec = Jvm.exec) (hby : c.code = bs) {k : Nat} {v : Int32} (hd : decode bs pc = .ok (.iload k, 2)) (hp : pc + 2 = pc') (hl : Ls[k]? = some (.val (.int v))) (h : own_End p e below F (T.setTop (mkF m pc' Ls (.int v :: st)))) : own_End p e below F (T.setTop (mkF m pc Ls st)) := by
  subst hp; exact own_step (fun t k => XS.iload X.here hx rfl (hb hby hd) hl k) h
theorem own_iloadN (X : Stand p l e R s m args below meth c T locs cells slots) (hx : p.tables.exec = Jvm.exec) (hby : c.code = bs) {k : Fin 4} {v : Int32} (hd : decode bs pc = .ok (.iload_n k, 1)) (hp : pc + 1 = pc') (hl : Ls[k.val]? = some (.val (.int v))) (h : own_End p e below F (T.setTop (mkF m pc' Ls (.int v :: st)))) : own_End p e below F (T.setTop (mkF m pc Ls st)) := by
  subst hp; exact own_step (fun t k => XS.iloadN X.here hx rfl (hb hby hd) hl k) h
theorem own_lload (X : Stand p l e R s m args below meth c T locs cells slots) (hx : p.tables.exec = Jvm.exec) (hby : c.code = bs) {k : Nat} {v : Int64} (hd : decode bs pc = .ok (.lload k, 2)) (hp : pc + 2 = pc') (hl : Ls[k]? = some (.val (.long v))) (h : own_End p e below F (T.setTop (mkF m pc' Ls (.long v :: st)))) : own_End p e below F (T.setTop (mkF m pc Ls st)) := by
  subst hp; exact own_step (fun t k => XS.lload X.here hx rfl (hb hby hd) hl k) h
theorem own_lloadN (X : Stand p l e R s m args below meth c T locs cells slots) (hx : p.tables.exec = Jvm.exec) (hby : c.code = bs) {k : Fin 4} {v : Int64} (hd : decode bs pc = .ok (.lload_n k, 1)) (hp : pc + 1 = pc') (hl : Ls[k.val]? = some (.val (.long v))) (h : own_End p e below F (T.setTop (mkF m pc' Ls (.long v :: st)))) : own_End p e below F (T.setTop (mkF m pc Ls st)) := by
  subst hp; exact own_step (fun t k => XS.lloadN X.here hx rfl (hb hby hd) hl k) h
theorem own_aload (X : Stand p l e R s m args below meth c T locs cells slots) (hx : p.tables.exec = Jvm.exec) (hby : c.code = bs) {k : Nat} {v : Value} (hd : decode bs pc = .ok (.aload k, 2)) (hp : pc + 2 = pc') (hl : Ls[k]? = some (.val v)) (hv : v.isRef = true) (h : own_End p e below F (T.setTop (mkF m pc' Ls (v :: st)))) : own_End p e below F (T.setTop (mkF m pc Ls st)) := by
  subst hp; exact own_step (fun t k => XS.aload X.here hx rfl (hb hby hd) hl hv k) h
theorem own_aloadN (X : Stand p l e R s m args below meth c T locs cells slots) (hx : p.tables.exec = Jvm.exec) (hby : c.code = bs) {k : Fin 4} {v : Value} (hd : decode bs pc = .ok (.aload_n k, 1)) (hp : pc + 1 = pc') (hl : Ls[k.val]? = some (.val v)) (hv : v.isRef = true) (h : own_End p e below F (T.setTop (mkF m pc' Ls (v :: st)))) : own_End p e below F (T.setTop (mkF m pc Ls st)) := by
  subst hp; exact own_step (fun t k => XS.aloadN X.here hx rfl (hb hby hd) hl hv k) h
theorem own_istore (X : Stand p l e R s m args below meth c T locs cells slots) (hx : p.tables.exec = Jvm.exec) (hby : c.code = bs) {k : Nat} {x : Int32} (hd : decode bs pc = .ok (.istore k, 2)) (hp : pc + 2 = pc') (hl : storeLocals Ls k (.int x) = some l') (h : own_End p e below F (T.setTop (mkF m pc' l' st))) : own_End p e below F (T.setTop (mkF m pc Ls (.int x :: st))) := by
  subst hp; exact own_step (fun t k => XS.istore X.here hx rfl (hb hby hd) rfl hl k) h
theorem own_istoreN (X : Stand p l e R s m args below meth c T locs cells slots) (hx : p.tables.exec = Jvm.exec) (hby : c.code = bs) {k : Fin 4} {x : Int32} (hd : decode bs pc = .ok (.istore_n k, 1)) (hp : pc + 1 = pc') (hl : storeLocals Ls k.val (.int x) = some l') (h : own_End p e below F (T.setTop (mkF m pc' l' st))) : own_End p e below F (T.setTop (mkF m pc Ls (.int x :: st))) := by
  subst hp; exact own_step (fun t k => XS.istoreN X.here hx rfl (hb hby hd) rfl hl k) h
theorem own_lstore (X : Stand p l e R s m args below meth c T locs cells slots) (hx : p.tables.exec = Jvm.exec) (hby : c.code = bs) {k : Nat} {x : Int64} (hd : decode bs pc = .ok (.lstore k, 2)) (hp : pc + 2 = pc') (hl : storeLocals Ls k (.long x) = some l') (h : own_End p e below F (T.setTop (mkF m pc' l' st))) : own_End p e below F (T.setTop (mkF m pc Ls (.long x :: st))) := by
  subst hp; exact own_step (fun t k => XS.lstore X.here hx rfl (hb hby hd) rfl hl k) h
theorem own_lstoreN (X : Stand p l e R s m args below meth c T locs cells slots) (hx : p.tables.exec = Jvm.exec) (hby : c.code = bs) {k : Fin 4} {x : Int64} (hd : decode bs pc = .ok (.lstore_n k, 1)) (hp : pc + 1 = pc') (hl : storeLocals Ls k.val (.long x) = some l') (h : own_End p e below F (T.setTop (mkF m pc' l' st))) : own_End p e below F (T.setTop (mkF m pc Ls (.long x :: st))) := by
  subst hp; exact own_step (fun t k => XS.lstoreN X.here hx rfl (hb hby hd) rfl hl k) h
theorem own_astore (X : Stand p l e R s m args below meth c T locs cells slots) (hx : p.tables.exec = Jvm.exec) (hby : c.code = bs) {k : Nat} {x : Value} (hd : decode bs pc = .ok (.astore k, 2)) (hp : pc + 2 = pc') (hv : x.isRef = true) (hl : storeLocals Ls k x = some l') (h : own_End p e below F (T.setTop (mkF m pc' l' st))) : own_End p e below F (T.setTop (mkF m pc Ls (x :: st))) := by
  subst hp; exact own_step (fun t k => XS.astore X.here hx rfl (hb hby hd) rfl hv hl k) h
theorem own_astoreN (X : Stand p l e R s m args below meth c T locs cells slots) (hx : p.tables.exec = Jvm.exec) (hby : c.code = bs) {k : Fin 4} {x : Value} (hd : decode bs pc = .ok (.astore_n k, 1)) (hp : pc + 1 = pc') (hv : x.isRef = true) (hl : storeLocals Ls k.val x = some l') (h : own_End p e below F (T.setTop (mkF m pc' l' st))) : own_End p e below F (T.setTop (mkF m pc Ls (x :: st))) := by
  subst hp; exact own_step (fun t k => XS.astoreN X.here hx rfl (hb hby hd) rfl hv hl k) h
theorem own_iinc (X : Stand p l e R s m args below meth c T locs cells slots) (hx : p.tables.exec = Jvm.exec) (hby : c.code = bs) {k : Nat} {cst : Int} {x y : Int32} (hd : decode bs pc = .ok (.iinc k cst, 3)) (hp : pc + 3 = pc') (hl : Ls[k]? = some (.val (.int x))) (hy : x + Int32.ofInt cst = y) (hl' : storeLocals Ls k (.int y) = some l') (h : own_End p e below F (T.setTop (mkF m pc' l' st))) : own_End p e below F (T.setTop (mkF m pc Ls st)) := by
  subst hp hy; exact own_step (fun t k => XS.iinc X.here hx rfl (hb hby hd) hl hl' k) h
theorem own_iconst (X : Stand p l e R s m args below meth c T locs cells slots) (hx : p.tables.exec = Jvm.exec) (hby : c.code = bs) {i : Int} {n : Int32} (hd : decode bs pc = .ok (.iconst i, 1)) (hp : pc + 1 = pc') (hn : Int32.ofInt i = n) (h : own_End p e below F (T.setTop (mkF m pc' Ls (.int n :: st)))) : own_End p e below F (T.setTop (mkF m pc Ls st)) := by
  subst hp hn; exact own_step (fun t k => XS.iconst X.here hx rfl (hb hby hd) k) h
theorem own_bipush (X : Stand p l e R s m args below meth c T locs cells slots) (hx : p.tables.exec = Jvm.exec) (hby : c.code = bs) {i : Int} {n : Int32} (hd : decode bs pc = .ok (.bipush i, 2)) (hp : pc + 2 = pc') (hn : (Int8.ofInt i).toInt32 = n) (h : own_End p e below F (T.setTop (mkF m pc' Ls (.int n :: st)))) : own_End p e below F (T.setTop (mkF m pc Ls st)) := by
  subst hp hn; exact own_step (fun t k => XS.bipush X.here hx rfl (hb hby hd) k) h
theorem own_sipush (X : Stand p l e R s m args below meth c T locs cells slots) (hx : p.tables.exec = Jvm.exec) (hby : c.code = bs) {i : Int} {n : Int32} (hd : decode bs pc = .ok (.sipush i, 3)) (hp : pc + 3 = pc') (hn : (Int16.ofInt i).toInt32 = n) (h : own_End p e below F (T.setTop (mkF m pc' Ls (.int n :: st)))) : own_End p e below F (T.setTop (mkF m pc Ls st)) := by
  subst hp hn; exact own_step (fun t k => XS.sipush X.here hx rfl (hb hby hd) k) h
theorem own_lconst (X : Stand p l e R s m args below meth c T locs cells slots) (hx : p.tables.exec = Jvm.exec) (hby : c.code = bs) {i : Fin 2} {n : Int64} (hd : decode bs pc = .ok (.lconst i, 1)) (hp : pc + 1 = pc') (hn : Int64.ofNat i.val = n) (h : own_End p e below F (T.setTop (mkF m pc' Ls (.long n :: st)))) : own_End p e below F (T.setTop (mkF m pc Ls st)) := by
  subst hp hn; exact own_step (fun t k => XS.lconst X.here hx rfl (hb hby hd) k) h
theorem own_aconst_null (X : Stand p l e R s m args below meth c T locs cells slots) (hx : p.tables.exec = Jvm.exec) (hby : c.code = bs) (hd : decode bs pc = .ok (.aconst_null, 1)) (hp : pc + 1 = pc') (h : own_End p e below F (T.setTop (mkF m pc' Ls (.null :: st)))) : own_End p e below F (T.setTop (mkF m pc Ls st)) := by
  subst hp; exact own_step (fun t k => XS.aconstNull X.here hx rfl (hb hby hd) k) h
theorem own_goto (X : Stand p l e R s m args below meth c T locs cells slots) (hx : p.tables.exec = Jvm.exec) (hby : c.code = bs) {o : Int} (hd : decode bs pc = .ok (.goto o, 3)) (ho : 0 ≤ (pc : Int) + o) (hp : ((pc : Int) + o).toNat = pc') (h : own_End p e below F (T.setTop (mkF m pc' Ls st))) : own_End p e below F (T.setTop (mkF m pc Ls st)) :=
  own_step (fun t k => XS.goto X.here hx rfl (pc0 := pc) (pc' := pc') rfl (hb hby hd) ho hp k) h
theorem own_dup (X : Stand p l e R s m args below meth c T locs cells slots) (hx : p.tables.exec = Jvm.exec) (hby : c.code = bs) {x : Value} (hd : decode bs pc = .ok (.dup, 1)) (hp : pc + 1 = pc') (hc : x.category = 1) (h : own_End p e below F (T.setTop (mkF m pc' Ls (x :: x :: st)))) : own_End p e below F (T.setTop (mkF m pc Ls (x :: st))) := by
  subst hp; exact own_step (fun t k => XS.dup X.here hx rfl (hb hby hd) rfl hc k) h
theorem own_dup_x1 (X : Stand p l e R s m args below meth c T locs cells slots) (hx : p.tables.exec = Jvm.exec) (hby : c.code = bs) {x y : Value} (hd : decode bs pc = .ok (.dup_x1, 1)) (hp : pc + 1 = pc') (hc : x.category = 1) (hc2 : y.category = 1) (h : own_End p e below F (T.setTop (mkF m pc' Ls (x :: y :: x :: st)))) : own_End p e below F (T.setTop (mkF m pc Ls (x :: y :: st))) := by
  subst hp; exact own_step (fun t k => XS.dupX1 X.here hx rfl (hb hby hd) rfl hc hc2 k) h
theorem own_pop (X : Stand p l e R s m args below meth c T locs cells slots) (hx : p.tables.exec = Jvm.exec) (hby : c.code = bs) {x : Value} (hd : decode bs pc = .ok (.pop, 1)) (hp : pc + 1 = pc') (hc : x.category = 1) (h : own_End p e below F (T.setTop (mkF m pc' Ls st))) : own_End p e below F (T.setTop (mkF m pc Ls (x :: st))) := by
  subst hp; exact own_step (fun t k => XS.pop X.here hx rfl (hb hby hd) rfl hc k) h
theorem own_pop2 (X : Stand p l e R s m args below meth c T locs cells slots) (hx : p.tables.exec = Jvm.exec) (hby : c.code = bs) {x : Int64} (hd : decode bs pc = .ok (.pop2, 1)) (hp : pc + 1 = pc') (h : own_End p e below F (T.setTop (mkF m pc' Ls st))) : own_End p e below F (T.setTop (mkF m pc Ls (.long x :: st))) := by
  subst hp
  refine own_step (fun t k => ?_) h
  have hd' := hb hby hd
  have hc : (Value.long x).category = 2 := rfl
  jvm_step X.here [X.here.top, hx, hd', Op.pop2.wp_sem, hc]
  exact k
theorem own_iadd (X : Stand p l e R s m args below meth c T locs cells slots) (hx : p.tables.exec = Jvm.exec) (hby : c.code = bs) {x y : Int32} (hd : decode bs pc = .ok (.iadd, 1)) (hp : pc + 1 = pc') (h : own_End p e below F (T.setTop (mkF m pc' Ls (.int (x + y) :: st)))) : own_End p e below F (T.setTop (mkF m pc Ls (.int y :: .int x :: st))) := by
  subst hp; exact own_step (fun t k => XS.iadd X.here hx rfl (hb hby hd) rfl k) h
theorem own_isub (X : Stand p l e R s m args below meth c T locs cells slots) (hx : p.tables.exec = Jvm.exec) (hby : c.code = bs) {x y : Int32} (hd : decode bs pc = .ok (.isub, 1)) (hp : pc + 1 = pc') (h : own_End p e below F (T.setTop (mkF m pc' Ls (.int (x - y) :: st)))) : own_End p e below F (T.setTop (mkF m pc Ls (.int y :: .int x :: st))) := by
  subst hp; exact own_step (fun t k => XS.isub X.here hx rfl (hb hby hd) rfl k) h
theorem own_imul (X : Stand p l e R s m args below meth c T locs cells slots) (hx : p.tables.exec = Jvm.exec) (hby : c.code = bs) {x y : Int32} (hd : decode bs pc = .ok (.imul, 1)) (hp : pc + 1 = pc') (h : own_End p e below F (T.setTop (mkF m pc' Ls (.int (x * y) :: st)))) : own_End p e below F (T.setTop (mkF m pc Ls (.int y :: .int x :: st))) := by
  subst hp; exact own_step (fun t k => XS.imul X.here hx rfl (hb hby hd) rfl k) h
theorem own_iand (X : Stand p l e R s m args below meth c T locs cells slots) (hx : p.tables.exec = Jvm.exec) (hby : c.code = bs) {x y : Int32} (hd : decode bs pc = .ok (.iand, 1)) (hp : pc + 1 = pc') (h : own_End p e below F (T.setTop (mkF m pc' Ls (.int (x &&& y) :: st)))) : own_End p e below F (T.setTop (mkF m pc Ls (.int y :: .int x :: st))) := by
  subst hp; exact own_step (fun t k => XS.iand X.here hx rfl (hb hby hd) rfl k) h
theorem own_ior (X : Stand p l e R s m args below meth c T locs cells slots) (hx : p.tables.exec = Jvm.exec) (hby : c.code = bs) {x y : Int32} (hd : decode bs pc = .ok (.ior, 1)) (hp : pc + 1 = pc') (h : own_End p e below F (T.setTop (mkF m pc' Ls (.int (x ||| y) :: st)))) : own_End p e below F (T.setTop (mkF m pc Ls (.int y :: .int x :: st))) := by
  subst hp; exact own_step (fun t k => XS.ior X.here hx rfl (hb hby hd) rfl k) h
theorem own_ixor (X : Stand p l e R s m args below meth c T locs cells slots) (hx : p.tables.exec = Jvm.exec) (hby : c.code = bs) {x y : Int32} (hd : decode bs pc = .ok (.ixor, 1)) (hp : pc + 1 = pc') (h : own_End p e below F (T.setTop (mkF m pc' Ls (.int (x ^^^ y) :: st)))) : own_End p e below F (T.setTop (mkF m pc Ls (.int y :: .int x :: st))) := by
  subst hp; exact own_step (fun t k => XS.ixor X.here hx rfl (hb hby hd) rfl k) h
theorem own_ladd (X : Stand p l e R s m args below meth c T locs cells slots) (hx : p.tables.exec = Jvm.exec) (hby : c.code = bs) {x y : Int64} (hd : decode bs pc = .ok (.ladd, 1)) (hp : pc + 1 = pc') (h : own_End p e below F (T.setTop (mkF m pc' Ls (.long (x + y) :: st)))) : own_End p e below F (T.setTop (mkF m pc Ls (.long y :: .long x :: st))) := by
  subst hp; exact own_step (fun t k => XS.ladd X.here hx rfl (hb hby hd) rfl k) h
theorem own_lsub (X : Stand p l e R s m args below meth c T locs cells slots) (hx : p.tables.exec = Jvm.exec) (hby : c.code = bs) {x y : Int64} (hd : decode bs pc = .ok (.lsub, 1)) (hp : pc + 1 = pc') (h : own_End p e below F (T.setTop (mkF m pc' Ls (.long (x - y) :: st)))) : own_End p e below F (T.setTop (mkF m pc Ls (.long y :: .long x :: st))) := by
  subst hp; exact own_step (fun t k => XS.lsub X.here hx rfl (hb hby hd) rfl k) h
theorem own_lmul (X : Stand p l e R s m args below meth c T locs cells slots) (hx : p.tables.exec = Jvm.exec) (hby : c.code = bs) {x y : Int64} (hd : decode bs pc = .ok (.lmul, 1)) (hp : pc + 1 = pc') (h : own_End p e below F (T.setTop (mkF m pc' Ls (.long (x * y) :: st)))) : own_End p e below F (T.setTop (mkF m pc Ls (.long y :: .long x :: st))) := by
  subst hp; exact own_step (fun t k => XS.lmul X.here hx rfl (hb hby hd) rfl k) h
theorem own_land (X : Stand p l e R s m args below meth c T locs cells slots) (hx : p.tables.exec = Jvm.exec) (hby : c.code = bs) {x y : Int64} (hd : decode bs pc = .ok (.land, 1)) (hp : pc + 1 = pc') (h : own_End p e below F (T.setTop (mkF m pc' Ls (.long (x &&& y) :: st)))) : own_End p e below F (T.setTop (mkF m pc Ls (.long y :: .long x :: st))) := by
  subst hp; exact own_step (fun t k => XS.land X.here hx rfl (hb hby hd) rfl k) h
theorem own_lor (X : Stand p l e R s m args below meth c T locs cells slots) (hx : p.tables.exec = Jvm.exec) (hby : c.code = bs) {x y : Int64} (hd : decode bs pc = .ok (.lor, 1)) (hp : pc + 1 = pc') (h : own_End p e below F (T.setTop (mkF m pc' Ls (.long (x ||| y) :: st)))) : own_End p e below F (T.setTop (mkF m pc Ls (.long y :: .long x :: st))) := by
  subst hp; exact own_step (fun t k => XS.lor X.here hx rfl (hb hby hd) rfl k) h
theorem own_lxor (X : Stand p l e R s m args below meth c T locs cells slots) (hx : p.tables.exec = Jvm.exec) (hby : c.code = bs) {x y : Int64} (hd : decode bs pc = .ok (.lxor, 1)) (hp : pc + 1 = pc') (h : own_End p e below F (T.setTop (mkF m pc' Ls (.long (x ^^^ y) :: st)))) : own_End p e below F (T.setTop (mkF m pc Ls (.long y :: .long x :: st))) := by
  subst hp; exact own_step (fun t k => XS.lxor X.here hx rfl (hb hby hd) rfl k) h
theorem own_ishl (X : Stand p l e R s m args below meth c T locs cells slots) (hx : p.tables.exec = Jvm.exec) (hby : c.code = bs) {x y : Int32} (hd : decode bs pc = .ok (.ishl, 1)) (hp : pc + 1 = pc') (h : own_End p e below F (T.setTop (mkF m pc' Ls (.int (x <<< (y &&& 31)) :: st)))) : own_End p e below F (T.setTop (mkF m pc Ls (.int y :: .int x :: st))) := by
  subst hp; exact own_step (fun t k => XS.ishl X.here hx rfl (hb hby hd) rfl k) h
theorem own_ishr (X : Stand p l e R s m args below meth c T locs cells slots) (hx : p.tables.exec = Jvm.exec) (hby : c.code = bs) {x y : Int32} (hd : decode bs pc = .ok (.ishr, 1)) (hp : pc + 1 = pc') (h : own_End p e below F (T.setTop (mkF m pc' Ls (.int (x >>> (y &&& 31)) :: st)))) : own_End p e below F (T.setTop (mkF m pc Ls (.int y :: .int x :: st))) := by
  subst hp; exact own_step (fun t k => XS.ishr X.here hx rfl (hb hby hd) rfl k) h
theorem own_iushr (X : Stand p l e R s m args below meth c T locs cells slots) (hx : p.tables.exec = Jvm.exec) (hby : c.code = bs) {x y : Int32} (hd : decode bs pc = .ok (.iushr, 1)) (hp : pc + 1 = pc') (h : own_End p e below F (T.setTop (mkF m pc' Ls (.int ((x.toUInt32 >>> (y &&& 31).toUInt32).toInt32) :: st)))) : own_End p e below F (T.setTop (mkF m pc Ls (.int y :: .int x :: st))) := by
  subst hp; exact own_step (fun t k => XS.iushr X.here hx rfl (hb hby hd) rfl k) h
theorem own_lshl (X : Stand p l e R s m args below meth c T locs cells slots) (hx : p.tables.exec = Jvm.exec) (hby : c.code = bs) {x : Int64} {y : Int32} (hd : decode bs pc = .ok (.lshl, 1)) (hp : pc + 1 = pc') (h : own_End p e below F (T.setTop (mkF m pc' Ls (.long (x <<< (y &&& 0x3f).toInt64) :: st)))) : own_End p e below F (T.setTop (mkF m pc Ls (.int y :: .long x :: st))) := by
  subst hp; exact own_step (fun t k => XS.lshl X.here hx rfl (hb hby hd) rfl k) h
theorem own_lshr (X : Stand p l e R s m args below meth c T locs cells slots) (hx : p.tables.exec = Jvm.exec) (hby : c.code = bs) {x : Int64} {y : Int32} (hd : decode bs pc = .ok (.lshr, 1)) (hp : pc + 1 = pc') (h : own_End p e below F (T.setTop (mkF m pc' Ls (.long (x >>> (y &&& 0x3f).toInt64) :: st)))) : own_End p e below F (T.setTop (mkF m pc Ls (.int y :: .long x :: st))) := by
  subst hp; exact own_step (fun t k => XS.lshr X.here hx rfl (hb hby hd) rfl k) h
theorem own_lushr (X : Stand p l e R s m args below meth c T locs cells slots) (hx : p.tables.exec = Jvm.exec) (hby : c.code = bs) {x : Int64} {y : Int32} (hd : decode bs pc = .ok (.lushr, 1)) (hp : pc + 1 = pc') (h : own_End p e below F (T.setTop (mkF m pc' Ls (.long ((x.toUInt64 >>> (y &&& 0x3f).toInt64.toUInt64).toInt64) :: st)))) : own_End p e below F (T.setTop (mkF m pc Ls (.int y :: .long x :: st))) := by
  subst hp; exact own_step (fun t k => XS.lushr X.here hx rfl (hb hby hd) rfl k) h
theorem own_lcmp (X : Stand p l e R s m args below meth c T locs cells slots) (hx : p.tables.exec = Jvm.exec) (hby : c.code = bs) {x y : Int64} (hd : decode bs pc = .ok (.lcmp, 1)) (hp : pc + 1 = pc') (h : own_End p e below F (T.setTop (mkF m pc' Ls (.int (lcmpW x y) :: st)))) : own_End p e below F (T.setTop (mkF m pc Ls (.long y :: .long x :: st))) := by
  subst hp; exact own_step (fun t k => XS.lcmp X.here hx rfl (hb hby hd) rfl k) h
theorem own_ineg (X : Stand p l e R s m args below meth c T locs cells slots) (hx : p.tables.exec = Jvm.exec) (hby : c.code = bs) {x : Int32} (hd : decode bs pc = .ok (.ineg, 1)) (hp : pc + 1 = pc') (h : own_End p e below F (T.setTop (mkF m pc' Ls (.int (-x) :: st)))) : own_End p e below F (T.setTop (mkF m pc Ls (.int x :: st))) := by
  subst hp; exact own_step (fun t k => XS.ineg X.here hx rfl (hb hby hd) rfl k) h
theorem own_i2b (X : Stand p l e R s m args below meth c T locs cells slots) (hx : p.tables.exec = Jvm.exec) (hby : c.code = bs) {x : Int32} (hd : decode bs pc = .ok (.i2b, 1)) (hp : pc + 1 = pc') (h : own_End p e below F (T.setTop (mkF m pc' Ls (.int (x.toInt8.toInt32) :: st)))) : own_End p e below F (T.setTop (mkF m pc Ls (.int x :: st))) := by
  subst hp; exact own_step (fun t k => XS.i2b X.here hx rfl (hb hby hd) rfl k) h
theorem own_i2s (X : Stand p l e R s m args below meth c T locs cells slots) (hx : p.tables.exec = Jvm.exec) (hby : c.code = bs) {x : Int32} (hd : decode bs pc = .ok (.i2s, 1)) (hp : pc + 1 = pc') (h : own_End p e below F (T.setTop (mkF m pc' Ls (.int (x.toInt16.toInt32) :: st)))) : own_End p e below F (T.setTop (mkF m pc Ls (.int x :: st))) := by
  subst hp; exact own_step (fun t k => XS.i2s X.here hx rfl (hb hby hd) rfl k) h
theorem own_i2c (X : Stand p l e R s m args below meth c T locs cells slots) (hx : p.tables.exec = Jvm.exec) (hby : c.code = bs) {x : Int32} (hd : decode bs pc = .ok (.i2c, 1)) (hp : pc + 1 = pc') (h : own_End p e below F (T.setTop (mkF m pc' Ls (.int (x.toUInt32.toUInt16.toUInt32.toInt32) :: st)))) : own_End p e below F (T.setTop (mkF m pc Ls (.int x :: st))) := by
  subst hp; exact own_step (fun t k => XS.i2c X.here hx rfl (hb hby hd) rfl k) h
theorem own_i2l (X : Stand p l e R s m args below meth c T locs cells slots) (hx : p.tables.exec = Jvm.exec) (hby : c.code = bs) {x : Int32} (hd : decode bs pc = .ok (.i2l, 1)) (hp : pc + 1 = pc') (h : own_End p e below F (T.setTop (mkF m pc' Ls (.long (x.toInt64) :: st)))) : own_End p e below F (T.setTop (mkF m pc Ls (.int x :: st))) := by
  subst hp; exact own_step (fun t k => XS.i2l X.here hx rfl (hb hby hd) rfl k) h
theorem own_lneg (X : Stand p l e R s m args below meth c T locs cells slots) (hx : p.tables.exec = Jvm.exec) (hby : c.code = bs) {x : Int64} (hd : decode bs pc = .ok (.lneg, 1)) (hp : pc + 1 = pc') (h : own_End p e below F (T.setTop (mkF m pc' Ls (.long (-x) :: st)))) : own_End p e below F (T.setTop (mkF m pc Ls (.long x :: st))) := by
  subst hp; exact own_step (fun t k => XS.lneg X.here hx rfl (hb hby hd) rfl k) h
theorem own_l2i (X : Stand p l e R s m args below meth c T locs cells slots) (hx : p.tables.exec = Jvm.exec) (hby : c.code = bs) {x : Int64} (hd : decode bs pc = .ok (.l2i, 1)) (hp : pc + 1 = pc') (h : own_End p e below F (T.setTop (mkF m pc' Ls (.int (x.toInt32) :: st)))) : own_End p e below F (T.setTop (mkF m pc Ls (.long x :: st))) := by
  subst hp; exact own_step (fun t k => XS.l2i X.here hx rfl (hb hby hd) rfl k) h
theorem own_idiv (X : Stand p l e R s m args below meth c T locs cells slots) (hx : p.tables.exec = Jvm.exec) (hby : c.code = bs) {x y : Int32} (hd : decode bs pc = .ok (.idiv, 1)) (hp : pc + 1 = pc') (hy : ¬ y = 0) (h : own_End p e below F (T.setTop (mkF m pc' Ls (.int (x / y) :: st)))) : own_End p e below F (T.setTop (mkF m pc Ls (.int y :: .int x :: st))) := by
  subst hp; exact own_step (fun t k => XS.idiv X.here hx rfl (hb hby hd) rfl hy k) h
theorem own_irem (X : Stand p l e R s m args below meth c T locs cells slots) (hx : p.tables.exec = Jvm.exec) (hby : c.code = bs) {x y : Int32} (hd : decode bs pc = .ok (.irem, 1)) (hp : pc + 1 = pc') (hy : ¬ y = 0) (h : own_End p e below F (T.setTop (mkF m pc' Ls (.int (x % y) :: st)))) : own_End p e below F (T.setTop (mkF m pc Ls (.int y :: .int x :: st))) := by
  subst hp; exact own_step (fun t k => iremM X hx rfl (hb hby hd) rfl hy k) h
theorem own_ldiv (X : Stand p l e R s m args below meth c T locs cells slots) (hx : p.tables.exec = Jvm.exec) (hby : c.code = bs) {x y : Int64} (hd : decode bs pc = .ok (.ldiv, 1)) (hp : pc + 1 = pc') (hy : ¬ y = 0) (h : own_End p e below F (T.setTop (mkF m pc' Ls (.long (x / y) :: st)))) : own_End p e below F (T.setTop (mkF m pc Ls (.long y :: .long x :: st))) := by
  subst hp; exact own_step (fun t k => XS.ldiv X.here hx rfl (hb hby hd) rfl hy k) h
theorem own_lrem (X : Stand p l e R s m args below meth c T locs cells slots) (hx : p.tables.exec = Jvm.exec) (hby : c.code = bs) {x y : Int64} (hd : decode bs pc = .ok (.lrem, 1)) (hp : pc + 1 = pc') (hy : ¬ y = 0) (h : own_End p e below F (T.setTop (mkF m pc' Ls (.long (x % y) :: st)))) : own_End p e below F (T.setTop (mkF m pc Ls (.long y :: .long x :: st))) := by
  subst hp; exact own_step (fun t k => XS.lrem X.here hx rfl (hb hby hd) rfl hy (by rw [lrem_mod]; exact k)) h
/-- the branch's condition, and its contrary -/
abbrev own_ct (cd : ClassFile.Cond) (x y : Int32) : Prop := match cd with | .eq => x = y | .ne => ¬ x = y | .lt => x < y | .ge => ¬ x < y | .gt => y < x | .le => ¬ y < x
abbrev own_cf (cd : ClassFile.Cond) (x y : Int32) : Prop := match cd with | .eq => ¬ x = y | .ne => x = y | .lt => ¬ x < y | .ge => x < y | .gt => ¬ y < x | .le => y < x
abbrev own_ctL (cd : ClassFile.Cond) (x y : Int64) : Prop := match cd with | .eq => x = y | .ne => ¬ x = y | .lt => x < y | .ge => ¬ x < y | .gt => y < x | .le => ¬ y < x
abbrev own_cfL (cd : ClassFile.Cond) (x y : Int64) : Prop := match cd with | .eq => ¬ x = y | .ne => x = y | .lt => ¬ x < y | .ge => x < y | .gt => ¬ y < x | .le => y < x
theorem own_ct_y {cd : ClassFile.Cond} {x y : Int32} (h : own_ct cd x y) : if_icmp.holds cd x y = true := by
  cases cd
  · exact (teq h).1
  · exact (feq h).2
  · exact (tlt h).1
  · exact (flt h).2.1
  · exact (tlt h).2.2.1
  · exact (flt h).2.2.2
theorem own_ct_n {cd : ClassFile.Cond} {x y : Int32} (h : own_cf cd x y) : if_icmp.holds cd x y = false := by
  cases cd
  · exact (feq h).1
  · exact (teq h).2
  · exact (flt h).1
  · exact (tlt h).2.1
  · exact (flt h).2.2.1
  · exact (tlt h).2.2.2
theorem own_ct_or (cd : ClassFile.Cond) (x y : Int32) : own_ct cd x y ∨ own_cf cd x y := by
  cases cd
  · exact Decidable.em _
  · exact (Decidable.em _).symm
  · exact Decidable.em _
  · exact (Decidable.em _).symm
  · exact Decidable.em _
  · exact (Decidable.em _).symm
theorem own_ctL_or (cd : ClassFile.Cond) (x y : Int64) : own_ctL cd x y ∨ own_cfL cd x y := by
  cases cd
  · exact Decidable.em _
  · exact (Decidable.em _).symm
  · exact Decidable.em _
  · exact (Decidable.em _).symm
  · exact Decidable.em _
  · exact (Decidable.em _).symm
theorem own_ctL_y {cd : ClassFile.Cond} {x y : Int64} (h : own_ctL cd x y) : own_ct cd (lcmpW x y) 0 := by
  cases cd
  · exact (lw_eq x y).mpr h
  · exact fun q => h ((lw_eq x y).mp q)
  · exact (lw_lt x y).mpr h
  · exact fun q => h ((lw_lt x y).mp q)
  · exact (lw_gt x y).mpr h
  · exact fun q => h ((lw_gt x y).mp q)
theorem own_ctL_n {cd : ClassFile.Cond} {x y : Int64} (h : own_cfL cd x y) : own_cf cd (lcmpW x y) 0 := by
  cases cd
  · exact fun q => h ((lw_eq x y).mp q)
  · exact (lw_eq x y).mpr h
  · exact fun q => h ((lw_lt x y).mp q)
  · exact (lw_lt x y).mpr h
  · exact fun q => h ((lw_gt x y).mp q)
  · exact (lw_gt x y).mpr h
theorem own_ifY (X : Stand p l e R s m args below meth c T locs cells slots) (hx : p.tables.exec = Jvm.exec) (hby : c.code = bs) {cd : ClassFile.Cond} {x : Int32} {o : Int} (hd : decode bs pc = .ok (.ifCond cd o, 3)) (ho : 0 ≤ (pc : Int) + o) (hp : ((pc : Int) + o).toNat = pc') (hc : own_ct cd x 0) (h : own_End p e below F (T.setTop (mkF m pc' Ls st))) : own_End p e below F (T.setTop (mkF m pc Ls (.int x :: st))) :=
  own_step (fun t k => XS.ifYes X.here hx rfl (pc0 := pc) (pc' := pc') rfl (hb hby hd) rfl ((if0 _ _).trans (own_ct_y hc)) ho hp k) h
theorem own_ifN (X : Stand p l e R s m args below meth c T locs cells slots) (hx : p.tables.exec = Jvm.exec) (hby : c.code = bs) {cd : ClassFile.Cond} {x : Int32} {o : Int} (hd : decode bs pc = .ok (.ifCond cd o, 3)) (hp : pc + 3 = pc') (hc : own_cf cd x 0) (h : own_End p e below F (T.setTop (mkF m pc' Ls st))) : own_End p e below F (T.setTop (mkF m pc Ls (.int x :: st))) := by
  subst hp; exact own_step (fun t k => XS.ifNo X.here hx rfl (hb hby hd) rfl ((if0 _ _).trans (own_ct_n hc)) k) h
theorem own_icY (X : Stand p l e R s m args below meth c T locs cells slots) (hx : p.tables.exec = Jvm.exec) (hby : c.code = bs) {cd : ClassFile.Cond} {x y : Int32} {o : Int} (hd : decode bs pc = .ok (.if_icmp cd o, 3)) (ho : 0 ≤ (pc : Int) + o) (hp : ((pc : Int) + o).toNat = pc') (hc : own_ct cd x y) (h : own_End p e below F (T.setTop (mkF m pc' Ls st))) : own_End p e below F (T.setTop (mkF m pc Ls (.int y :: .int x :: st))) :=
  own_step (fun t k => XS.icmpYes X.here hx rfl (pc0 := pc) (pc' := pc') rfl (hb hby hd) rfl (own_ct_y hc) ho hp k) h
theorem own_icN (X : Stand p l e R s m args below meth c T locs cells slots) (hx : p.tables.exec = Jvm.exec) (hby : c.code = bs) {cd : ClassFile.Cond} {x y : Int32} {o : Int} (hd : decode bs pc = .ok (.if_icmp cd o, 3)) (hp : pc + 3 = pc') (hc : own_cf cd x y) (h : own_End p e below F (T.setTop (mkF m pc' Ls st))) : own_End p e below F (T.setTop (mkF m pc Ls (.int y :: .int x :: st))) := by
  subst hp; exact own_step (fun t k => XS.icmpNo X.here hx rfl (hb hby hd) rfl (own_ct_n hc) k) h
theorem own_if2 (X : Stand p l e R s m args below meth c T locs cells slots) (hx : p.tables.exec = Jvm.exec) (hby : c.code = bs) {cd : ClassFile.Cond} {x : Int32} {o : Int} {pc1 pc2 : Nat} (hd : decode bs pc = .ok (.ifCond cd o, 3)) (ho : 0 ≤ (pc : Int) + o) (hp : ((pc : Int) + o).toNat = pc1) (hp2 : pc + 3 = pc2) (h1 : own_ct cd x 0 → own_End p e below F (T.setTop (mkF m pc1 Ls st))) (h2 : own_cf cd x 0 → own_End p e below F (T.setTop (mkF m pc2 Ls st))) : own_End p e below F (T.setTop (mkF m pc Ls (.int x :: st))) :=
  (own_ct_or cd x 0).elim (fun q => own_ifY X hx hby hd ho hp q (h1 q)) (fun q => own_ifN X hx hby hd hp2 q (h2 q))
theorem own_ic2 (X : Stand p l e R s m args below meth c T locs cells slots) (hx : p.tables.exec = Jvm.exec) (hby : c.code = bs) {cd : ClassFile.Cond} {x y : Int32} {o : Int} {pc1 pc2 : Nat} (hd : decode bs pc = .ok (.if_icmp cd o, 3)) (ho : 0 ≤ (pc : Int) + o) (hp : ((pc : Int) + o).toNat = pc1) (hp2 : pc + 3 = pc2) (h1 : own_ct cd x y → own_End p e below F (T.setTop (mkF m pc1 Ls st))) (h2 : own_cf cd x y → own_End p e below F (T.setTop (mkF m pc2 Ls st))) : own_End p e below F (T.setTop (mkF m pc Ls (.int y :: .int x :: st))) :=
  (own_ct_or cd x y).elim (fun q => own_icY X hx hby hd ho hp q (h1 q)) (fun q => own_icN X hx hby hd hp2 q (h2 q))
theorem own_ifL2 (X : Stand p l e R s m args below meth c T locs cells slots) (hx : p.tables.exec = Jvm.exec) (hby : c.code = bs) {cd : ClassFile.Cond} {x y : Int64} {o : Int} {pc1 pc2 : Nat} (hd : decode bs pc = .ok (.ifCond cd o, 3)) (ho : 0 ≤ (pc : Int) + o) (hp : ((pc : Int) + o).toNat = pc1) (hp2 : pc + 3 = pc2) (h1 : own_ctL cd x y → own_End p e below F (T.setTop (mkF m pc1 Ls st))) (h2 : own_cfL cd x y → own_End p e below F (T.setTop (mkF m pc2 Ls st))) : own_End p e below F (T.setTop (mkF m pc Ls (.int (lcmpW x y) :: st))) :=
  (own_ctL_or cd x y).elim (fun q => own_ifY X hx hby hd ho hp (own_ctL_y q) (h1 q)) (fun q => own_ifN X hx hby hd hp2 (own_ctL_n q) (h2 q))
theorem own_ifnullY (X : Stand p l e R s m args below meth c T locs cells slots) (hx : p.tables.exec = Jvm.exec) (hby : c.code = bs) {o : Int} (hd : decode bs pc = .ok (.ifnull o, 3)) (ho : 0 ≤ (pc : Int) + o) (hp : ((pc : Int) + o).toNat = pc') (h : own_End p e below F (T.setTop (mkF m pc' Ls st))) : own_End p e below F (T.setTop (mkF m pc Ls (.null :: st))) :=
  own_step (fun t k => XS.ifnullYes X.here hx rfl (pc0 := pc) (pc' := pc') rfl (hb hby hd) rfl ho hp k) h
theorem own_ifnullN (X : Stand p l e R s m args below meth c T locs cells slots) (hx : p.tables.exec = Jvm.exec) (hby : c.code = bs) {o : Int} {b : Addr} (hd : decode bs pc = .ok (.ifnull o, 3)) (hp : pc + 3 = pc') (h : own_End p e below F (T.setTop (mkF m pc' Ls st))) : own_End p e below F (T.setTop (mkF m pc Ls (.ref b :: st))) := by
  subst hp; exact own_step (fun t k => XS.ifnullNo X.here hx rfl (hb hby hd) rfl k) h
theorem own_ifnonnullY (X : Stand p l e R s m args below meth c T locs cells slots) (hx : p.tables.exec = Jvm.exec) (hby : c.code = bs) {o : Int} {b : Addr} (hd : decode bs pc = .ok (.ifnonnull o, 3)) (ho : 0 ≤ (pc : Int) + o) (hp : ((pc : Int) + o).toNat = pc') (h : own_End p e below F (T.setTop (mkF m pc' Ls st))) : own_End p e below F (T.setTop (mkF m pc Ls (.ref b :: st))) :=
  own_step (fun t k => XS.ifnonnullYes X.here hx rfl (pc0 := pc) (pc' := pc') rfl (hb hby hd) rfl ho hp k) h
theorem own_ifnonnullN (X : Stand p l e R s m args below meth c T locs cells slots) (hx : p.tables.exec = Jvm.exec) (hby : c.code = bs) {o : Int} (hd : decode bs pc = .ok (.ifnonnull o, 3)) (hp : pc + 3 = pc') (h : own_End p e below F (T.setTop (mkF m pc' Ls st))) : own_End p e below F (T.setTop (mkF m pc Ls (.null :: st))) := by
  subst hp; exact own_step (fun t k => XS.ifnonnullNo X.here hx rfl (hb hby hd) rfl k) h
theorem own_acmp (X : Stand p l e R s m args below meth c T locs cells slots) (hx : p.tables.exec = Jvm.exec) (hby : c.code = bs) {cd : ACond} {x y : Value} {o : Int} {same : Bool} (hd : decode bs pc = .ok (.if_acmp cd o, 3)) (h1 : x.isRef = true) (h2 : y.isRef = true) (hq : decide (x = y) = same) (ho : 0 ≤ (pc : Int) + o) (hp : pc' = if acV cd same = true then ((pc : Int) + o).toNat else pc + 3) (h : own_End p e below F (T.setTop (mkF m pc' Ls st))) : own_End p e below F (T.setTop (mkF m pc Ls (y :: x :: st))) :=
  own_step (fun t k => Jvm.RoadKit.acmp (g := mkF m pc Ls (y :: x :: st)) X hx rfl h1 h2 (pc0 := pc) (pc' := pc') (same := same) rfl (hb hby hd) rfl hq ho hp k) h
end Plain
section Words
variable {Z : State} {a0 : Array Value}
theorem own_ldcInt (X : Stand p l e R s m args below meth c T locs cells slots) (hx : p.tables.exec = Jvm.exec) (hZ : Z.Warmed39 s.vm) (hby : c.code = bs) {own : String} {index : Nat} {v : Int32} (hown : s.vm.findClass own = some m.cls) (w : (Cond.constant own index v).before a0 Z = true) (hd : decode bs pc = .ok (.ldc index, 2)) (hp : pc + 2 = pc') (h : own_End p e below F (T.setTop (mkF m pc' Ls (.int v :: st)))) : own_End p e below F (T.setTop (mkF m pc Ls st)) := by
  subst hp; exact own_step (X.ldcInt hx hown (mvT hZ w) (g := mkF m pc Ls st) rfl (hb hby hd)) h
theorem own_ldc2Long (X : Stand p l e R s m args below meth c T locs cells slots) (hx : p.tables.exec = Jvm.exec) (hZ : Z.Warmed39 s.vm) (hby : c.code = bs) {own : String} {index : Nat} {v : Int64} (hown : s.vm.findClass own = some m.cls) (w : (Cond.constantLong own index v).before a0 Z = true) (hd : decode bs pc = .ok (.ldc2_w index, 3)) (hp : pc + 3 = pc') (h : own_End p e below F (T.setTop (mkF m pc' Ls (.long v :: st)))) : own_End p e below F (T.setTop (mkF m pc Ls st)) := by
  subst hp; exact own_step (X.ldc2Long hx hown (mvT hZ w) (g := mkF m pc Ls st) rfl (hb hby hd)) h
end Words
section Heap
variable {Z : State} {a0 : Array Value} {h : Heap}
theorem own_getF (X : Stand p l e R s m args below meth c T locs cells slots) (hx : p.tables.exec = Jvm.exec) (hZ : Z.Warmed39 s.vm) (hby : c.code = bs) {own R0 O n d host : String} {index : Nat} {a : Addr} {v : Value} (hown : s.vm.findClass own = some m.cls) (w : (Cond.fieldLink own index R0 n d).before a0 Z = true ∨ (Cond.fieldLinkNest own index R0 n d host).before a0 Z = true) (via : Via Z R0 O n d) (eT : T.heap = h) (Fd : Fld Z h a O n d v) (hd : decode bs pc = .ok (.getfield index, 3)) (hp : pc + 3 = pc')
    (k : ∀ T', Stand p l e R s m args below meth c T' locs cells slots → T'.heap = h → own_End p e below F (T'.setTop (mkF m pc' Ls (v :: st)))) : own_End p e below F (T.setTop (mkF m pc Ls (.ref a :: st))) := by
  subst hp
  obtain ⟨T', X', e', stp⟩ := getF X hx hZ hown w via eT Fd (g := mkF m pc Ls (.ref a :: st)) rfl rfl (hb hby hd)
  exact own_step stp (k T' X' e')
theorem own_getS (X : Stand p l e R s m args below meth c T locs cells slots) (hx : p.tables.exec = Jvm.exec) (hZ : Z.Warmed39 s.vm) (hby : c.code = bs) {own R0 O n d host : String} {index : Nat} {v : Value} (hown : s.vm.findClass own = some m.cls) (w : (Cond.fieldLink own index R0 n d).before a0 Z = true ∨ (Cond.fieldLinkNest own index R0 n d host).before a0 Z = true) (via : Via Z R0 O n d) (eT : T.heap = h) (Fd : Sta Z h O n d v) (hd : decode bs pc = .ok (.getstatic index, 3)) (hp : pc + 3 = pc')
    (k : ∀ T', Stand p l e R s m args below meth c T' locs cells slots → T'.heap = h → own_End p e below F (T'.setTop (mkF m pc' Ls (v :: st)))) : own_End p e below F (T.setTop (mkF m pc Ls st)) := by
  subst hp
  obtain ⟨T', X', e', stp⟩ := getS2 X hx hZ hown w via eT Fd (g := mkF m pc Ls st) rfl (hb hby hd)
  exact own_step stp (k T' X' e')
theorem own_putF (X : Stand p l e R s m args below meth c T locs cells slots) (hx : p.tables.exec = Jvm.exec) (hZ : Z.Warmed39 s.vm) (hby : c.code = bs) {own R0 O n d host C : String} {index kk : Nat} {ty : FieldType} {a : Addr} {v old : Value} (hown : s.vm.findClass own = some m.cls) (w : (Cond.fieldLink own index R0 n d).before a0 Z = true ∨ (Cond.fieldLinkNest own index R0 n d host).before a0 Z = true) (via : Via Z R0 O n d) (eT : T.heap = h) (Fd : Fld Z h a O n d old) (E : Exa Z h a C)
    (La : (Cond.lays C O n d).before a0 Z = true ∨ ((Cond.laysFinal C O n d).before a0 Z = true ∧ own = O ∧ meth.name = "<init>")) (wi : (Cond.instantiable C kk).before a0 Z = true) (hty : parseFieldDescriptor d = some ty) (hn : narrow ty v = v) (hf : fits ty v = true) (hd : decode bs pc = .ok (.putfield index, 3)) (hp : pc + 3 = pc')
    (k : ∀ T' h', Stand p l e R s m args below meth c T' (locs ++ [⟨a, Jvm.RoadKit.slotOf Z O n d⟩]) cells slots → T'.heap = h' → Wr h h' a (Jvm.RoadKit.slotOf Z O n d) v → own_End p e below F (T'.setTop (mkF m pc' Ls st))) : own_End p e below F (T.setTop (mkF m pc Ls (v :: .ref a :: st))) := by
  subst hp
  obtain ⟨T', h', X', e', W', stp⟩ := putF X hx hZ hown w via eT Fd E La wi hty hn hf (g := mkF m pc Ls (v :: .ref a :: st)) rfl rfl (hb hby hd)
  exact own_step stp (k T' h' X' e' W')
theorem own_putN (X : Stand p l e R s m args below meth c T locs cells slots) (hx : p.tables.exec = Jvm.exec) (hZ : Z.Warmed39 s.vm) (hby : c.code = bs) {own R0 O n d C : String} {index kk : Nat} {ty : FieldType} {a : Addr} {v v' old : Value} (hown : s.vm.findClass own = some m.cls) (w : (Cond.fieldLink own index R0 n d).before a0 Z = true) (via : Via Z R0 O n d) (eT : T.heap = h) (Fd : Fld Z h a O n d old) (E : Exa Z h a C)
    (La : (Cond.lays C O n d).before a0 Z = true ∨ ((Cond.laysFinal C O n d).before a0 Z = true ∧ own = O ∧ meth.name = "<init>")) (wi : (Cond.instantiable C kk).before a0 Z = true) (hty : parseFieldDescriptor d = some ty) (hn : narrow ty v = v') (hf : fits ty v' = true) (hd : decode bs pc = .ok (.putfield index, 3)) (hp : pc + 3 = pc')
    (k : ∀ T' h', Stand p l e R s m args below meth c T' (locs ++ [⟨a, Jvm.RoadKit.slotOf Z O n d⟩]) cells slots → T'.heap = h' → Wr h h' a (Jvm.RoadKit.slotOf Z O n d) v' → own_End p e below F (T'.setTop (mkF m pc' Ls st))) : own_End p e below F (T.setTop (mkF m pc Ls (v :: .ref a :: st))) := by
  subst hp
  obtain ⟨T', h', X', e', W', stp⟩ := putFN X hx hZ hown w via eT Fd E La wi hty hn hf (g := mkF m pc Ls (v :: .ref a :: st)) rfl rfl (hb hby hd)
  exact own_step stp (k T' h' X' e' W')
theorem own_new (X : Stand p l e R s m args below meth c T locs cells slots) (hx : p.tables.exec = Jvm.exec) (hZ : Z.Warmed39 s.vm) (hby : c.code = bs) {own C : String} {index n : Nat} (hown : s.vm.findClass own = some m.cls) (w : (Cond.classLink own index C).before a0 Z = true) (wi : (Cond.instantiable C n).before a0 Z = true) (wz : (Cond.initialized C).before a0 Z = true) (eT : T.heap = h) (hd : decode bs pc = .ok (.new index, 3)) (hp : pc + 3 = pc') (hc : cells + 1 ≤ R.cells) (hl : slots + n ≤ R.slots)
    (k : ∀ T' h' (b : Addr), b = h.size → Stand p l e R s m args below meth c T' locs (cells + 1) (slots + n) → T'.heap = h' → Ext h h' → Exa Z h' b C → (∀ {O nm d : String} {ty : FieldType}, Laid Z a0 C O nm d → parseFieldDescriptor d = some ty → Fld Z h' b O nm d (defaultValue ty)) → own_End p e below F (T'.setTop (mkF m pc' Ls (.ref b :: st)))) : own_End p e below F (T.setTop (mkF m pc Ls st)) := by
  subst hp
  obtain ⟨T', h', X', e', E', A', D', -, stp⟩ := newO X hx hZ hown w wi wz eT (g := mkF m pc Ls st) rfl (hb hby hd) hc hl
  exact own_step stp (k T' h' h.size rfl X' e' E' A' D')
theorem own_newP (X : Stand p l e R s m args below meth c T locs cells slots) (hx : p.tables.exec = Jvm.exec) (hZ : Z.Warmed39 s.vm) (hby : c.code = bs) {aty : ArrayType} {n : Int32} {cap : Nat} (w : (Cond.arrayClass (newarray.typeOf aty)).before a0 Z = true) (eT : T.heap = h) (hd : decode bs pc = .ok (.newarray aty, 2)) (hp : pc + 2 = pc') (hn : ¬ n < 0) (hcap : n.toNatClampNeg ≤ cap) (hb' : cap * 8 ≤ 536870912) (hc : cells + 1 ≤ R.cells) (hl : slots + cap ≤ R.slots)
    (k : ∀ T' h' cA (b : Addr), b = h.size → Stand p l e R s m args below meth c T' locs (cells + 1) (slots + cap) → T'.heap = h' → Ext h h' → Arr Z h' b (newA cA (newarray.typeOf aty) n) (newarray.typeOf aty) → own_End p e below F (T'.setTop (mkF m pc' Ls (.ref b :: st)))) : own_End p e below F (T.setTop (mkF m pc Ls (.int n :: st))) := by
  subst hp
  obtain ⟨T', h', cA, X', e', E', A', stp⟩ := newP X hx hZ w eT (g := mkF m pc Ls (.int n :: st)) rfl (hb hby hd) rfl hn hcap hb' hc hl
  exact own_step stp (k T' h' cA h.size rfl X' e' E' A')
theorem own_newPE (X : Stand p l e R s m args below meth c T locs cells slots) (hx : p.tables.exec = Jvm.exec) (hZ : Z.Warmed39 s.vm) (hby : c.code = bs) {aty : ArrayType} {n : Int32} {cap : Nat} {ad : String} (had : "[" ++ (newarray.typeOf aty).toString = ad) (w : (Cond.arrayClass (newarray.typeOf aty)).before a0 Z = true) (eT : T.heap = h) (hd : decode bs pc = .ok (.newarray aty, 2)) (hp : pc + 2 = pc') (hn : ¬ n < 0) (hcap : n.toNatClampNeg ≤ cap) (hb' : cap * 8 ≤ 536870912) (hc : cells + 1 ≤ R.cells) (hl : slots + cap ≤ R.slots)
    (k : ∀ T' h' cA (b : Addr), b = h.size → Stand p l e R s m args below meth c T' locs (cells + 1) (slots + cap) → T'.heap = h' → Ext h h' → Arr Z h' b (newA cA (newarray.typeOf aty) n) (newarray.typeOf aty) → Exa Z h' b ad → own_End p e below F (T'.setTop (mkF m pc' Ls (.ref b :: st)))) : own_End p e below F (T.setTop (mkF m pc Ls (.int n :: st))) := by
  subst hp
  obtain ⟨T', h', cA, X', e', E', A', Ex', stp⟩ := newPE X hx hZ w eT (g := mkF m pc Ls (.int n :: st)) rfl (hb hby hd) rfl hn hcap hb' hc hl had
  exact own_step stp (k T' h' cA h.size rfl X' e' E' A' Ex')
theorem own_newR (X : Stand p l e R s m args below meth c T locs cells slots) (hx : p.tables.exec = Jvm.exec) (hZ : Z.Warmed39 s.vm) (hby : c.code = bs) {own C : String} {index : Nat} {n : Int32} {cap : Nat} (hown : s.vm.findClass own = some m.cls) (w1 : (Cond.classLink own index C).before a0 Z = true) (w2 : (Cond.arrayOver (.object C)).before a0 Z = true) (eT : T.heap = h) (hd : decode bs pc = .ok (.anewarray index, 3)) (hp : pc + 3 = pc') (hn : ¬ n < 0) (hcap : n.toNatClampNeg ≤ cap) (hb' : cap * 8 ≤ 536870912) (hc : cells + 1 ≤ R.cells) (hl : slots + cap ≤ R.slots)
    (k : ∀ T' h' cA (b : Addr), b = h.size → Stand p l e R s m args below meth c T' locs (cells + 1) (slots + cap) → T'.heap = h' → Ext h h' → Arr Z h' b (newA cA (.object C) n) (.object C) → Ovr Z cA C → own_End p e below F (T'.setTop (mkF m pc' Ls (.ref b :: st)))) : own_End p e below F (T.setTop (mkF m pc Ls (.int n :: st))) := by
  subst hp
  obtain ⟨T', h', cA, X', e', E', A', O', stp⟩ := newR X hx hZ hown w1 w2 eT (g := mkF m pc Ls (.int n :: st)) rfl (hb hby hd) rfl hn hcap hb' hc hl
  exact own_step stp (k T' h' cA h.size rfl X' e' E' A' O')
theorem own_iastore (X : Stand p l e R s m args below meth c T locs cells slots) (hx : p.tables.exec = Jvm.exec) (hZ : Z.Warmed39 s.vm) (hby : c.code = bs) {a : Addr} {cl : Cell} (eT : T.heap = h) (A : Arr Z h a cl .int) {j : Int32} {x : Int32} (hj : ¬ (j < 0 ∨ cl.slots.size ≤ j.toNatClampNeg)) (hd : decode bs pc = .ok (.iastore, 1)) (hp : pc + 1 = pc')
    (k : ∀ T' h', Stand p l e R s m args below meth c T' (locs ++ [⟨a, j.toNatClampNeg⟩]) cells slots → T'.heap = h' → Wr h h' a j.toNatClampNeg (.int x) → own_End p e below F (T'.setTop (mkF m pc' Ls st))) : own_End p e below F (T.setTop (mkF m pc Ls (.int x :: .int j :: .ref a :: st))) := by
  subst hp
  obtain ⟨T', h', X', e', W', stp⟩ := stI X hx hZ eT A hj (g := mkF m pc Ls (.int x :: .int j :: .ref a :: st)) rfl rfl (hb hby hd)
  exact own_step stp (k T' h' X' e' W')
theorem own_lastore (X : Stand p l e R s m args below meth c T locs cells slots) (hx : p.tables.exec = Jvm.exec) (hZ : Z.Warmed39 s.vm) (hby : c.code = bs) {a : Addr} {cl : Cell} (eT : T.heap = h) (A : Arr Z h a cl .long) {j : Int32} {x : Int64} (hj : ¬ (j < 0 ∨ cl.slots.size ≤ j.toNatClampNeg)) (hd : decode bs pc = .ok (.lastore, 1)) (hp : pc + 1 = pc')
    (k : ∀ T' h', Stand p l e R s m args below meth c T' (locs ++ [⟨a, j.toNatClampNeg⟩]) cells slots → T'.heap = h' → Wr h h' a j.toNatClampNeg (.long x) → own_End p e below F (T'.setTop (mkF m pc' Ls st))) : own_End p e below F (T.setTop (mkF m pc Ls (.long x :: .int j :: .ref a :: st))) := by
  subst hp
  obtain ⟨T', h', X', e', W', stp⟩ := stJ X hx hZ eT A hj (g := mkF m pc Ls (.long x :: .int j :: .ref a :: st)) rfl rfl (hb hby hd)
  exact own_step stp (k T' h' X' e' W')
theorem own_castore (X : Stand p l e R s m args below meth c T locs cells slots) (hx : p.tables.exec = Jvm.exec) (hZ : Z.Warmed39 s.vm) (hby : c.code = bs) {a : Addr} {cl : Cell} (eT : T.heap = h) (A : Arr Z h a cl .char) {j : Int32} {x : Int32} (hj : ¬ (j < 0 ∨ cl.slots.size ≤ j.toNatClampNeg)) (hd : decode bs pc = .ok (.castore, 1)) (hp : pc + 1 = pc')
    (k : ∀ T' h', Stand p l e R s m args below meth c T' (locs ++ [⟨a, j.toNatClampNeg⟩]) cells slots → T'.heap = h' → Wr h h' a j.toNatClampNeg (.int (nar .char x)) → own_End p e below F (T'.setTop (mkF m pc' Ls st))) : own_End p e below F (T.setTop (mkF m pc Ls (.int x :: .int j :: .ref a :: st))) := by
  subst hp
  obtain ⟨T', h', X', e', W', stp⟩ := stC X hx hZ eT A hj (g := mkF m pc Ls (.int x :: .int j :: .ref a :: st)) rfl rfl (hb hby hd)
  exact own_step stp (k T' h' X' e' W')
theorem own_bastore (X : Stand p l e R s m args below meth c T locs cells slots) (hx : p.tables.exec = Jvm.exec) (hZ : Z.Warmed39 s.vm) (hby : c.code = bs) {a : Addr} {cl : Cell} (eT : T.heap = h) (A : Arr Z h a cl .byte) {j : Int32} {x : Int32} (hj : ¬ (j < 0 ∨ cl.slots.size ≤ j.toNatClampNeg)) (hd : decode bs pc = .ok (.bastore, 1)) (hp : pc + 1 = pc')
    (k : ∀ T' h', Stand p l e R s m args below meth c T' (locs ++ [⟨a, j.toNatClampNeg⟩]) cells slots → T'.heap = h' → Wr h h' a j.toNatClampNeg (.int (nar .byte x)) → own_End p e below F (T'.setTop (mkF m pc' Ls st))) : own_End p e below F (T.setTop (mkF m pc Ls (.int x :: .int j :: .ref a :: st))) := by
  subst hp
  obtain ⟨T', h', X', e', W', stp⟩ := stB X hx hZ eT A hj (g := mkF m pc Ls (.int x :: .int j :: .ref a :: st)) rfl rfl (hb hby hd)
  exact own_step stp (k T' h' X' e' W')
theorem own_stR (X : Stand p l e R s m args below meth c T locs cells slots) (hx : p.tables.exec = Jvm.exec) (hZ : Z.Warmed39 s.vm) (hby : c.code = bs) {a : Addr} {cl : Cell} {ty : FieldType} (eT : T.heap = h) (A : Arr Z h a cl ty) {j : Int32} {v : Value} (hj : ¬ (j < 0 ∨ cl.slots.size ≤ j.toNatClampNeg)) (hty : ty.isReference = true) (S : Sto Z h a v) (hd : decode bs pc = .ok (.aastore, 1)) (hp : pc + 1 = pc')
    (k : ∀ T' h', Stand p l e R s m args below meth c T' (locs ++ [⟨a, j.toNatClampNeg⟩]) cells slots → T'.heap = h' → Wr h h' a j.toNatClampNeg v → own_End p e below F (T'.setTop (mkF m pc' Ls st))) : own_End p e below F (T.setTop (mkF m pc Ls (v :: .int j :: .ref a :: st))) := by
  subst hp
  obtain ⟨T', h', X', e', W', stp⟩ := stR X hx hZ eT A hj hty S (g := mkF m pc Ls (v :: .int j :: .ref a :: st)) rfl rfl (hb hby hd)
  exact own_step stp (k T' h' X' e' W')
theorem own_iaload (X : Stand p l e R s m args below meth c T locs cells slots) (hx : p.tables.exec = Jvm.exec) (hZ : Z.Warmed39 s.vm) (hby : c.code = bs) {a : Addr} {cl : Cell} (eT : T.heap = h) (A : Arr Z h a cl .int) {j : Int32} {v : Value} (hj : ¬ (j < 0 ∨ cl.slots.size ≤ j.toNatClampNeg)) (hv : cl.slots[j.toNatClampNeg]? = some v) (hd : decode bs pc = .ok (.iaload, 1)) (hp : pc + 1 = pc') (k : own_End p e below F (T.setTop (mkF m pc' Ls (v :: st)))) : own_End p e below F (T.setTop (mkF m pc Ls (.int j :: .ref a :: st))) := by
  subst hp
  exact own_step (fun t q => X.iaload hx (j := j) (v := v) (by rw [eT]; exact A.1) (State.isArrayOf_alike hZ.alike A.2.1) A.2.2 hj hv (g := mkF m pc Ls (.int j :: .ref a :: st)) rfl rfl (hb hby hd) _ q) k
theorem own_laload (X : Stand p l e R s m args below meth c T locs cells slots) (hx : p.tables.exec = Jvm.exec) (hZ : Z.Warmed39 s.vm) (hby : c.code = bs) {a : Addr} {cl : Cell} (eT : T.heap = h) (A : Arr Z h a cl .long) {j : Int32} {v : Value} (hj : ¬ (j < 0 ∨ cl.slots.size ≤ j.toNatClampNeg)) (hv : cl.slots[j.toNatClampNeg]? = some v) (hd : decode bs pc = .ok (.laload, 1)) (hp : pc + 1 = pc') (k : own_End p e below F (T.setTop (mkF m pc' Ls (v :: st)))) : own_End p e below F (T.setTop (mkF m pc Ls (.int j :: .ref a :: st))) := by
  subst hp
  exact own_step (fun t q => X.laload hx (j := j) (v := v) (by rw [eT]; exact A.1) (State.isArrayOf_alike hZ.alike A.2.1) A.2.2 hj hv (g := mkF m pc Ls (.int j :: .ref a :: st)) rfl rfl (hb hby hd) _ q) k
theorem own_caload (X : Stand p l e R s m args below meth c T locs cells slots) (hx : p.tables.exec = Jvm.exec) (hZ : Z.Warmed39 s.vm) (hby : c.code = bs) {a : Addr} {cl : Cell} (eT : T.heap = h) (A : Arr Z h a cl .char) {j : Int32} {v : Value} (hj : ¬ (j < 0 ∨ cl.slots.size ≤ j.toNatClampNeg)) (hv : cl.slots[j.toNatClampNeg]? = some v) (hd : decode bs pc = .ok (.caload, 1)) (hp : pc + 1 = pc') (k : own_End p e below F (T.setTop (mkF m pc' Ls (v :: st)))) : own_End p e below F (T.setTop (mkF m pc Ls (.int j :: .ref a :: st))) := by
  subst hp
  exact own_step (fun t q => X.caload hx (j := j) (v := v) (by rw [eT]; exact A.1) (State.isArrayOf_alike hZ.alike A.2.1) A.2.2 hj hv (g := mkF m pc Ls (.int j :: .ref a :: st)) rfl rfl (hb hby hd) _ q) k
theorem own_baload (X : Stand p l e R s m args below meth c T locs cells slots) (hx : p.tables.exec = Jvm.exec) (hZ : Z.Warmed39 s.vm) (hby : c.code = bs) {a : Addr} {cl : Cell} (eT : T.heap = h) (A : Arr Z h a cl .byte) {j : Int32} {v : Value} (hj : ¬ (j < 0 ∨ cl.slots.size ≤ j.toNatClampNeg)) (hv : cl.slots[j.toNatClampNeg]? = some v) (hd : decode bs pc = .ok (.baload, 1)) (hp : pc + 1 = pc') (k : own_End p e below F (T.setTop (mkF m pc' Ls (v :: st)))) : own_End p e below F (T.setTop (mkF m pc Ls (.int j :: .ref a :: st))) := by
  subst hp
  exact own_step (fun t q => X.baloadBytes hx (j := j) (v := v) (by rw [eT]; exact A.1) (State.isArrayOf_alike hZ.alike A.2.1) A.2.2 hj hv (g := mkF m pc Ls (.int j :: .ref a :: st)) rfl rfl (hb hby hd) _ q) k
theorem own_aaload (X : Stand p l e R s m args below meth c T locs cells slots) (hx : p.tables.exec = Jvm.exec) (hZ : Z.Warmed39 s.vm) (hby : c.code = bs) {a : Addr} {cl : Cell} {ty : FieldType} (eT : T.heap = h) (A : Arr Z h a cl ty) (hty : ty.isReference = true) {j : Int32} {v : Value} (hj : ¬ (j < 0 ∨ cl.slots.size ≤ j.toNatClampNeg)) (hv : cl.slots[j.toNatClampNeg]? = some v) (hd : decode bs pc = .ok (.aaload, 1)) (hp : pc + 1 = pc') (k : own_End p e below F (T.setTop (mkF m pc' Ls (v :: st)))) : own_End p e below F (T.setTop (mkF m pc Ls (.int j :: .ref a :: st))) := by
  subst hp
  exact own_step (fun t q => X.aaload hx (j := j) (v := v) (by rw [eT]; exact A.1) (State.isArrayOf_alike hZ.alike A.2.1) hty A.2.2 hj hv (g := mkF m pc Ls (.int j :: .ref a :: st)) rfl rfl (hb hby hd) _ q) k
theorem own_alen (X : Stand p l e R s m args below meth c T locs cells slots) (hx : p.tables.exec = Jvm.exec) (hZ : Z.Warmed39 s.vm) (hby : c.code = bs) {a : Addr} {cl : Cell} {ty : FieldType} {z : Int32} (eT : T.heap = h) (A : Arr Z h a cl ty) (S : cl.slots.size = z.toNatClampNeg) (M : ¬ z < 0) (hd : decode bs pc = .ok (.arraylength, 1)) (hp : pc + 1 = pc') (k : own_End p e below F (T.setTop (mkF m pc' Ls (.int z :: st)))) : own_End p e below F (T.setTop (mkF m pc Ls (.ref a :: st))) := by
  subst hp
  have hl := len_of S M
  exact own_step (fun t q => X.arraylength hx (by rw [eT]; exact A.1) (State.isArrayOf_alike hZ.alike A.2.1) (g := mkF m pc Ls (.ref a :: st)) rfl rfl (hb hby hd) _ (by rw [hl]; exact q)) k
theorem own_init (X : Stand p l e R s m args below meth c T locs cells slots) (hx : p.tables.exec = Jvm.exec) (hZ : Z.Warmed39 s.vm) (hby : c.code = bs) {own : String} {index : Nat} {a : Addr} {W : Nat} (hown : s.vm.findClass own = some m.cls) (w1 : (Cond.methodLink own index Lib.objectInit).before a0 Z = true) (w2 : (Cond.instanceMethod Lib.objectInit).before a0 Z = true) (w3 : (Cond.code Lib.objectInit ⟨#[0xb1]⟩ 1 none).before a0 Z = true) (eT : T.heap = h) (hsz : Ls.size = c.maxLocals) (hd : decode bs pc = .ok (.invokespecial index, 3)) (hp : pc + 3 = pc') (hf : 1 ≤ R.frames) (hW : (st.map fun v => v.category).sum ≤ W) (hl : W + 12 ≤ R.locals)
    (k : ∀ T', Stand p l e R s m args below meth c T' locs cells slots → T'.heap = h → own_End p e below F (T'.setTop (mkF m pc' Ls st))) : own_End p e below F (T.setTop (mkF m pc Ls (.ref a :: st))) := by
  subst hp
  obtain ⟨T', X', e', stp⟩ := initO X hx hZ hown w1 w2 w3 eT (g := mkF m pc Ls (.ref a :: st)) rfl hsz rfl (hb hby hd) hf (W := W) (by show 2 * 0 + _ ≤ _; omega) hl
  exact own_step stp (k T' X' e')
theorem own_cast (X : Stand p l e R s m args below meth c T locs cells slots) (hx : p.tables.exec = Jvm.exec) (hZ : Z.Warmed39 s.vm) (hby : c.code = bs) {own K : String} {index : Nat} {a : Addr} (hown : s.vm.findClass own = some m.cls) (w : (Cond.classLink own index K).before a0 Z = true) (eT : T.heap = h) (I : Ins Z h a K true) (hd : decode bs pc = .ok (.checkcast index, 3)) (hp : pc + 3 = pc')
    (k : ∀ T', Stand p l e R s m args below meth c T' locs cells slots → T'.heap = h → own_End p e below F (T'.setTop (mkF m pc' Ls (.ref a :: st)))) : own_End p e below F (T.setTop (mkF m pc Ls (.ref a :: st))) := by
  subst hp
  obtain ⟨T', X', e', stp⟩ := castY X hx hZ hown w eT I (g := mkF m pc Ls (.ref a :: st)) rfl rfl (hb hby hd)
  exact own_step stp (k T' X' e')
theorem own_inst (X : Stand p l e R s m args below meth c T locs cells slots) (hx : p.tables.exec = Jvm.exec) (hZ : Z.Warmed39 s.vm) (hby : c.code = bs) {own K : String} {index : Nat} {a : Addr} (hown : s.vm.findClass own = some m.cls) (w : (Cond.classLink own index K).before a0 Z = true) (eT : T.heap = h) (I : Ins Z h a K true) (hd : decode bs pc = .ok (.instanceof index, 3)) (hp : pc + 3 = pc')
    (k : ∀ T', Stand p l e R s m args below meth c T' locs cells slots → T'.heap = h → own_End p e below F (T'.setTop (mkF m pc' Ls (.int 1 :: st)))) : own_End p e below F (T.setTop (mkF m pc Ls (.ref a :: st))) := by
  subst hp
  obtain ⟨T', X', e', stp⟩ := instY X hx hZ hown w eT I (g := mkF m pc Ls (.ref a :: st)) rfl rfl (hb hby hd)
  exact own_step stp (k T' X' e')
theorem own_instNull (X : Stand p l e R s m args below meth c T locs cells slots) (hx : p.tables.exec = Jvm.exec) (hby : c.code = bs) {index : Nat} (hd : decode bs pc = .ok (.instanceof index, 3)) (hp : pc + 3 = pc') (k : own_End p e below F (T.setTop (mkF m pc' Ls (.int 0 :: st)))) : own_End p e below F (T.setTop (mkF m pc Ls (.null :: st))) := by
  subst hp
  exact own_step (fun t q => X.instanceofNull hx (g := mkF m pc Ls (.null :: st)) rfl rfl (hb hby hd) _ q) k
end Heap
end OwnKit

theorem wd_0 {a0 : Array Value} {Z : State} (hw : ∀ d ∈ tables_1, d.before a0 Z = true) : (Jvm.Cond.constantLong "com/example/inflight/inflight/log/BuilderFitsPinLaw" (7 : Nat) (2305843009213693951 : Int64)).before a0 Z = true := hw _ (List.mem_of_getElem? (i := 0) rfl)
theorem wd_1 {a0 : Array Value} {Z : State} (hw : ∀ d ∈ tables_1, d.before a0 Z = true) : (Jvm.Cond.constant "com/example/inflight/inflight/log/BuilderFitsPinLaw" (9 : Nat) (2147483647 : Int32)).before a0 Z = true := hw _ (List.mem_of_getElem? (i := 1) rfl)
theorem wd_2 {a0 : Array Value} {Z : State} (hw : ∀ d ∈ tables_1, d.before a0 Z = true) : (Jvm.Cond.classLink "com/example/inflight/inflight/log/BuilderFitsPinLaw" (10 : Nat) "com/example/inflight/inflight/log/StoredMessages$Builder").before a0 Z = true := hw _ (List.mem_of_getElem? (i := 2) rfl)
theorem wd_3 {a0 : Array Value} {Z : State} (hw : ∀ d ∈ tables_1, d.before a0 Z = true) : (Jvm.Cond.instantiable "com/example/inflight/inflight/log/StoredMessages$Builder" (8 : Nat)).before a0 Z = true := hw _ (List.mem_of_getElem? (i := 3) rfl)
theorem wd_4 {a0 : Array Value} {Z : State} (hw : ∀ d ∈ tables_1, d.before a0 Z = true) : (Jvm.Cond.initialized "com/example/inflight/inflight/log/StoredMessages$Builder").before a0 Z = true := hw _ (List.mem_of_getElem? (i := 4) rfl)
theorem wd_5 {a0 : Array Value} {Z : State} (hw : ∀ d ∈ tables_1, d.before a0 Z = true) : (Jvm.Cond.methodLink "com/example/inflight/inflight/log/BuilderFitsPinLaw" (12 : Nat) ({ cls := "com/example/inflight/inflight/log/StoredMessages$Builder", name := "<init>", desc := "(JIJI)V" } : Jvm.MethodName)).before a0 Z = true := hw _ (List.mem_of_getElem? (i := 5) rfl)
theorem wd_6 {a0 : Array Value} {Z : State} (hw : ∀ d ∈ tables_1, d.before a0 Z = true) : (Jvm.Cond.instanceMethod ({ cls := "com/example/inflight/inflight/log/StoredMessages$Builder", name := "<init>", desc := "(JIJI)V" } : Jvm.MethodName)).before a0 Z = true := hw _ (List.mem_of_getElem? (i := 6) rfl)
theorem wd_7 {a0 : Array Value} {Z : State} (hw : ∀ d ∈ tables_1, d.before a0 Z = true) : (Jvm.Cond.code ({ cls := "com/example/inflight/inflight/log/StoredMessages$Builder", name := "<init>", desc := "(JIJI)V" } : Jvm.MethodName) prog_71_method_1_code (7 : Nat) (Option.none : Option Jvm.ClassFile.FieldType)).before a0 Z = true := hw _ (List.mem_of_getElem? (i := 7) rfl)
theorem wd_8 {a0 : Array Value} {Z : State} (hw : ∀ d ∈ tables_1, d.before a0 Z = true) : (Jvm.Cond.methodLink "com/example/inflight/inflight/log/StoredMessages$Builder" (1 : Nat) ({ cls := "java/lang/Object", name := "<init>", desc := "()V" } : Jvm.MethodName)).before a0 Z = true := hw _ (List.mem_of_getElem? (i := 8) rfl)
theorem wd_9 {a0 : Array Value} {Z : State} (hw : ∀ d ∈ tables_1, d.before a0 Z = true) : (Jvm.Cond.instanceMethod ({ cls := "java/lang/Object", name := "<init>", desc := "()V" } : Jvm.MethodName)).before a0 Z = true := hw _ (List.mem_of_getElem? (i := 9) rfl)
theorem wd_10 {a0 : Array Value} {Z : State} (hw : ∀ d ∈ tables_1, d.before a0 Z = true) : (Jvm.Cond.code ({ cls := "java/lang/Object", name := "<init>", desc := "()V" } : Jvm.MethodName) object_method_1_code (1 : Nat) (Option.none : Option Jvm.ClassFile.FieldType)).before a0 Z = true := hw _ (List.mem_of_getElem? (i := 10) rfl)
theorem wd_11 {a0 : Array Value} {Z : State} (hw : ∀ d ∈ tables_1, d.before a0 Z = true) : (Jvm.Cond.classLink "com/example/inflight/inflight/log/StoredMessages$Builder" (7 : Nat) "java/util/ArrayList").before a0 Z = true := hw _ (List.mem_of_getElem? (i := 11) rfl)
theorem wd_12 {a0 : Array Value} {Z : State} (hw : ∀ d ∈ tables_1, d.before a0 Z = true) : (Jvm.Cond.instantiable "java/util/ArrayList" (3 : Nat)).before a0 Z = true := hw _ (List.mem_of_getElem? (i := 12) rfl)
theorem wd_13 {a0 : Array Value} {Z : State} (hw : ∀ d ∈ tables_1, d.before a0 Z = true) : (Jvm.Cond.initialized "java/util/ArrayList").before a0 Z = true := hw _ (List.mem_of_getElem? (i := 13) rfl)
theorem wd_14 {a0 : Array Value} {Z : State} (hw : ∀ d ∈ tables_1, d.before a0 Z = true) : (Jvm.Cond.methodLink "com/example/inflight/inflight/log/StoredMessages$Builder" (9 : Nat) ({ cls := "java/util/ArrayList", name := "<init>", desc := "(I)V" } : Jvm.MethodName)).before a0 Z = true := hw _ (List.mem_of_getElem? (i := 14) rfl)
theorem wd_15 {a0 : Array Value} {Z : State} (hw : ∀ d ∈ tables_1, d.before a0 Z = true) : (Jvm.Cond.instanceMethod ({ cls := "java/util/ArrayList", name := "<init>", desc := "(I)V" } : Jvm.MethodName)).before a0 Z = true := hw _ (List.mem_of_getElem? (i := 15) rfl)
theorem wd_16 {a0 : Array Value} {Z : State} (hw : ∀ d ∈ tables_1, d.before a0 Z = true) : (Jvm.Cond.code ({ cls := "java/util/ArrayList", name := "<init>", desc := "(I)V" } : Jvm.MethodName) jdk_38_method_1_code (2 : Nat) (Option.none : Option Jvm.ClassFile.FieldType)).before a0 Z = true := hw _ (List.mem_of_getElem? (i := 16) rfl)
theorem wd_17 {a0 : Array Value} {Z : State} (hw : ∀ d ∈ tables_1, d.before a0 Z = true) : (Jvm.Cond.methodLink "java/util/ArrayList" (1 : Nat) ({ cls := "java/util/AbstractList", name := "<init>", desc := "()V" } : Jvm.MethodName)).before a0 Z = true := hw _ (List.mem_of_getElem? (i := 17) rfl)
theorem wd_18 {a0 : Array Value} {Z : State} (hw : ∀ d ∈ tables_1, d.before a0 Z = true) : (Jvm.Cond.instanceMethod ({ cls := "java/util/AbstractList", name := "<init>", desc := "()V" } : Jvm.MethodName)).before a0 Z = true := hw _ (List.mem_of_getElem? (i := 18) rfl)
theorem wd_21 {a0 : Array Value} {Z : State} (hw : ∀ d ∈ tables_1, d.before a0 Z = true) : (Jvm.Cond.initialized "java/util/AbstractList").before a0 Z = true := hw _ (List.mem_of_getElem? (i := 21) rfl)
theorem wd_22 {a0 : Array Value} {Z : State} (hw : ∀ d ∈ tables_1, d.before a0 Z = true) : (Jvm.Cond.code ({ cls := "java/util/AbstractList", name := "<init>", desc := "()V" } : Jvm.MethodName) jdk_39_method_1_code (1 : Nat) (Option.none : Option Jvm.ClassFile.FieldType)).before a0 Z = true := hw _ (List.mem_of_getElem? (i := 22) rfl)
theorem wd_23 {a0 : Array Value} {Z : State} (hw : ∀ d ∈ tables_1, d.before a0 Z = true) : (Jvm.Cond.methodLink "java/util/AbstractList" (1 : Nat) ({ cls := "java/util/AbstractCollection", name := "<init>", desc := "()V" } : Jvm.MethodName)).before a0 Z = true := hw _ (List.mem_of_getElem? (i := 23) rfl)
theorem wd_24 {a0 : Array Value} {Z : State} (hw : ∀ d ∈ tables_1, d.before a0 Z = true) : (Jvm.Cond.instanceMethod ({ cls := "java/util/AbstractCollection", name := "<init>", desc := "()V" } : Jvm.MethodName)).before a0 Z = true := hw _ (List.mem_of_getElem? (i := 24) rfl)
theorem wd_27 {a0 : Array Value} {Z : State} (hw : ∀ d ∈ tables_1, d.before a0 Z = true) : (Jvm.Cond.initialized "java/util/AbstractCollection").before a0 Z = true := hw _ (List.mem_of_getElem? (i := 27) rfl)
theorem wd_28 {a0 : Array Value} {Z : State} (hw : ∀ d ∈ tables_1, d.before a0 Z = true) : (Jvm.Cond.code ({ cls := "java/util/AbstractCollection", name := "<init>", desc := "()V" } : Jvm.MethodName) jdk_22_method_1_code (1 : Nat) (Option.none : Option Jvm.ClassFile.FieldType)).before a0 Z = true := hw _ (List.mem_of_getElem? (i := 28) rfl)
theorem wd_29 {a0 : Array Value} {Z : State} (hw : ∀ d ∈ tables_1, d.before a0 Z = true) : (Jvm.Cond.methodLink "java/util/AbstractCollection" (1 : Nat) ({ cls := "java/lang/Object", name := "<init>", desc := "()V" } : Jvm.MethodName)).before a0 Z = true := hw _ (List.mem_of_getElem? (i := 29) rfl)
theorem wd_30 {a0 : Array Value} {Z : State} (hw : ∀ d ∈ tables_1, d.before a0 Z = true) : (Jvm.Cond.fieldLink "java/util/AbstractList" (7 : Nat) "java/util/AbstractList" "modCount" "I").before a0 Z = true := hw _ (List.mem_of_getElem? (i := 30) rfl)
theorem wd_31 {a0 : Array Value} {Z : State} (hw : ∀ d ∈ tables_1, d.before a0 Z = true) : (Jvm.Cond.lays "java/util/ArrayList" "java/util/AbstractList" "modCount" "I").before a0 Z = true := hw _ (List.mem_of_getElem? (i := 31) rfl)
theorem wd_32 {a0 : Array Value} {Z : State} (hw : ∀ d ∈ tables_1, d.before a0 Z = true) : (Jvm.Cond.classLink "java/util/ArrayList" (7 : Nat) "java/lang/Object").before a0 Z = true := hw _ (List.mem_of_getElem? (i := 32) rfl)
theorem wd_33 {a0 : Array Value} {Z : State} (hw : ∀ d ∈ tables_1, d.before a0 Z = true) : (Jvm.Cond.arrayOver (Jvm.ClassFile.FieldType.object "java/lang/Object")).before a0 Z = true := hw _ (List.mem_of_getElem? (i := 33) rfl)
theorem wd_34 {a0 : Array Value} {Z : State} (hw : ∀ d ∈ tables_1, d.before a0 Z = true) : (Jvm.Cond.fieldLink "java/util/ArrayList" (9 : Nat) "java/util/ArrayList" "elementData" "[Ljava/lang/Object;").before a0 Z = true := hw _ (List.mem_of_getElem? (i := 34) rfl)
theorem wd_35 {a0 : Array Value} {Z : State} (hw : ∀ d ∈ tables_1, d.before a0 Z = true) : (Jvm.Cond.lays "java/util/ArrayList" "java/util/ArrayList" "elementData" "[Ljava/lang/Object;").before a0 Z = true := hw _ (List.mem_of_getElem? (i := 35) rfl)
theorem wd_36 {a0 : Array Value} {Z : State} (hw : ∀ d ∈ tables_1, d.before a0 Z = true) : (Jvm.Cond.fieldLink "com/example/inflight/inflight/log/StoredMessages$Builder" (12 : Nat) "com/example/inflight/inflight/log/StoredMessages$Builder" "runs" "Ljava/util/List;").before a0 Z = true := hw _ (List.mem_of_getElem? (i := 36) rfl)
theorem wd_37 {a0 : Array Value} {Z : State} (hw : ∀ d ∈ tables_1, d.before a0 Z = true) : (Jvm.Cond.laysFinal "com/example/inflight/inflight/log/StoredMessages$Builder" "com/example/inflight/inflight/log/StoredMessages$Builder" "runs" "Ljava/util/List;").before a0 Z = true := hw _ (List.mem_of_getElem? (i := 37) rfl)
theorem wd_38 {a0 : Array Value} {Z : State} (hw : ∀ d ∈ tables_1, d.before a0 Z = true) : (Jvm.Cond.fieldLink "com/example/inflight/inflight/log/StoredMessages$Builder" (18 : Nat) "com/example/inflight/inflight/log/StoredMessages$Builder" "fromOffset" "J").before a0 Z = true := hw _ (List.mem_of_getElem? (i := 38) rfl)
theorem wd_39 {a0 : Array Value} {Z : State} (hw : ∀ d ∈ tables_1, d.before a0 Z = true) : (Jvm.Cond.laysFinal "com/example/inflight/inflight/log/StoredMessages$Builder" "com/example/inflight/inflight/log/StoredMessages$Builder" "fromOffset" "J").before a0 Z = true := hw _ (List.mem_of_getElem? (i := 39) rfl)
theorem wd_40 {a0 : Array Value} {Z : State} (hw : ∀ d ∈ tables_1, d.before a0 Z = true) : (Jvm.Cond.fieldLink "com/example/inflight/inflight/log/StoredMessages$Builder" (22 : Nat) "com/example/inflight/inflight/log/StoredMessages$Builder" "maxMessages" "I").before a0 Z = true := hw _ (List.mem_of_getElem? (i := 40) rfl)
theorem wd_41 {a0 : Array Value} {Z : State} (hw : ∀ d ∈ tables_1, d.before a0 Z = true) : (Jvm.Cond.laysFinal "com/example/inflight/inflight/log/StoredMessages$Builder" "com/example/inflight/inflight/log/StoredMessages$Builder" "maxMessages" "I").before a0 Z = true := hw _ (List.mem_of_getElem? (i := 41) rfl)
theorem wd_42 {a0 : Array Value} {Z : State} (hw : ∀ d ∈ tables_1, d.before a0 Z = true) : (Jvm.Cond.fieldLink "com/example/inflight/inflight/log/StoredMessages$Builder" (26 : Nat) "com/example/inflight/inflight/log/StoredMessages$Builder" "maxBytes" "J").before a0 Z = true := hw _ (List.mem_of_getElem? (i := 42) rfl)
theorem wd_43 {a0 : Array Value} {Z : State} (hw : ∀ d ∈ tables_1, d.before a0 Z = true) : (Jvm.Cond.laysFinal "com/example/inflight/inflight/log/StoredMessages$Builder" "com/example/inflight/inflight/log/StoredMessages$Builder" "maxBytes" "J").before a0 Z = true := hw _ (List.mem_of_getElem? (i := 43) rfl)
theorem wd_44 {a0 : Array Value} {Z : State} (hw : ∀ d ∈ tables_1, d.before a0 Z = true) : (Jvm.Cond.fieldLink "com/example/inflight/inflight/log/StoredMessages$Builder" (29 : Nat) "com/example/inflight/inflight/log/StoredMessages$Builder" "bytesPerMessage" "I").before a0 Z = true := hw _ (List.mem_of_getElem? (i := 44) rfl)
theorem wd_45 {a0 : Array Value} {Z : State} (hw : ∀ d ∈ tables_1, d.before a0 Z = true) : (Jvm.Cond.laysFinal "com/example/inflight/inflight/log/StoredMessages$Builder" "com/example/inflight/inflight/log/StoredMessages$Builder" "bytesPerMessage" "I").before a0 Z = true := hw _ (List.mem_of_getElem? (i := 45) rfl)
theorem wd_46 {a0 : Array Value} {Z : State} (hw : ∀ d ∈ tables_1, d.before a0 Z = true) : (Jvm.Cond.methodLink "com/example/inflight/inflight/log/BuilderFitsPinLaw" (22 : Nat) ({ cls := "com/example/inflight/inflight/log/StoredMessages$Builder", name := "fits", desc := "(J)Z" } : Jvm.MethodName)).before a0 Z = true := hw _ (List.mem_of_getElem? (i := 46) rfl)
theorem wd_47 {a0 : Array Value} {Z : State} (hw : ∀ d ∈ tables_1, d.before a0 Z = true) : (Jvm.Cond.declares ({ cls := "com/example/inflight/inflight/log/StoredMessages$Builder", name := "fits", desc := "(J)Z" } : Jvm.MethodName)).before a0 Z = true := hw _ (List.mem_of_getElem? (i := 47) rfl)
theorem wd_48 {a0 : Array Value} {Z : State} (hw : ∀ d ∈ tables_1, d.before a0 Z = true) : (Jvm.Cond.instanceMethod ({ cls := "com/example/inflight/inflight/log/StoredMessages$Builder", name := "fits", desc := "(J)Z" } : Jvm.MethodName)).before a0 Z = true := hw _ (List.mem_of_getElem? (i := 48) rfl)
theorem wd_49 {a0 : Array Value} {Z : State} (hw : ∀ d ∈ tables_1, d.before a0 Z = true) : (Jvm.Cond.selects "com/example/inflight/inflight/log/StoredMessages$Builder" ({ cls := "com/example/inflight/inflight/log/StoredMessages$Builder", name := "fits", desc := "(J)Z" } : Jvm.MethodName) ({ cls := "com/example/inflight/inflight/log/StoredMessages$Builder", name := "fits", desc := "(J)Z" } : Jvm.MethodName)).before a0 Z = true := hw _ (List.mem_of_getElem? (i := 49) rfl)
theorem wd_50 {a0 : Array Value} {Z : State} (hw : ∀ d ∈ tables_1, d.before a0 Z = true) : (Jvm.Cond.code ({ cls := "com/example/inflight/inflight/log/StoredMessages$Builder", name := "fits", desc := "(J)Z" } : Jvm.MethodName) prog_71_method_4_code (3 : Nat) (Option.some Jvm.ClassFile.FieldType.boolean)).before a0 Z = true := hw _ (List.mem_of_getElem? (i := 50) rfl)
theorem wd_51 {a0 : Array Value} {Z : State} (hw : ∀ d ∈ tables_1, d.before a0 Z = true) : (Jvm.Cond.fieldLink "com/example/inflight/inflight/log/StoredMessages$Builder" (36 : Nat) "com/example/inflight/inflight/log/StoredMessages$Builder" "taken" "I").before a0 Z = true := hw _ (List.mem_of_getElem? (i := 51) rfl)
theorem wd_52 {a0 : Array Value} {Z : State} (hw : ∀ d ∈ tables_1, d.before a0 Z = true) : (Jvm.Cond.lays "com/example/inflight/inflight/log/StoredMessages$Builder" "com/example/inflight/inflight/log/StoredMessages$Builder" "taken" "I").before a0 Z = true := hw _ (List.mem_of_getElem? (i := 52) rfl)
theorem wd_53 {a0 : Array Value} {Z : State} (hw : ∀ d ∈ tables_1, d.before a0 Z = true) : (Jvm.Cond.fieldLink "com/example/inflight/inflight/log/StoredMessages$Builder" (32 : Nat) "com/example/inflight/inflight/log/StoredMessages$Builder" "stopped" "Z").before a0 Z = true := hw _ (List.mem_of_getElem? (i := 53) rfl)
theorem wd_54 {a0 : Array Value} {Z : State} (hw : ∀ d ∈ tables_1, d.before a0 Z = true) : (Jvm.Cond.lays "com/example/inflight/inflight/log/StoredMessages$Builder" "com/example/inflight/inflight/log/StoredMessages$Builder" "stopped" "Z").before a0 Z = true := hw _ (List.mem_of_getElem? (i := 54) rfl)
theorem wd_55 {a0 : Array Value} {Z : State} (hw : ∀ d ∈ tables_1, d.before a0 Z = true) : (Jvm.Cond.methodLink "com/example/inflight/inflight/log/BuilderFitsPinLaw" (26 : Nat) ({ cls := "com/example/inflight/inflight/log/StoredMessages$Builder", name := "wantsMore", desc := "()Z" } : Jvm.MethodName)).before a0 Z = true := hw _ (List.mem_of_getElem? (i := 55) rfl)
theorem wd_56 {a0 : Array Value} {Z : State} (hw : ∀ d ∈ tables_1, d.before a0 Z = true) : (Jvm.Cond.declares ({ cls := "com/example/inflight/inflight/log/StoredMessages$Builder", name := "wantsMore", desc := "()Z" } : Jvm.MethodName)).before a0 Z = true := hw _ (List.mem_of_getElem? (i := 56) rfl)
theorem wd_57 {a0 : Array Value} {Z : State} (hw : ∀ d ∈ tables_1, d.before a0 Z = true) : (Jvm.Cond.instanceMethod ({ cls := "com/example/inflight/inflight/log/StoredMessages$Builder", name := "wantsMore", desc := "()Z" } : Jvm.MethodName)).before a0 Z = true := hw _ (List.mem_of_getElem? (i := 57) rfl)
theorem wd_58 {a0 : Array Value} {Z : State} (hw : ∀ d ∈ tables_1, d.before a0 Z = true) : (Jvm.Cond.selects "com/example/inflight/inflight/log/StoredMessages$Builder" ({ cls := "com/example/inflight/inflight/log/StoredMessages$Builder", name := "wantsMore", desc := "()Z" } : Jvm.MethodName) ({ cls := "com/example/inflight/inflight/log/StoredMessages$Builder", name := "wantsMore", desc := "()Z" } : Jvm.MethodName)).before a0 Z = true := hw _ (List.mem_of_getElem? (i := 58) rfl)
theorem wd_59 {a0 : Array Value} {Z : State} (hw : ∀ d ∈ tables_1, d.before a0 Z = true) : (Jvm.Cond.code ({ cls := "com/example/inflight/inflight/log/StoredMessages$Builder", name := "wantsMore", desc := "()Z" } : Jvm.MethodName) prog_71_method_2_code (1 : Nat) (Option.some Jvm.ClassFile.FieldType.boolean)).before a0 Z = true := hw _ (List.mem_of_getElem? (i := 59) rfl)
theorem wd_60 {a0 : Array Value} {Z : State} (hw : ∀ d ∈ tables_1, d.before a0 Z = true) : (Jvm.Cond.methodLink "com/example/inflight/inflight/log/BuilderFitsPinLaw" (30 : Nat) ({ cls := "com/example/inflight/inflight/log/StoredMessages$Builder", name := "isEmpty", desc := "()Z" } : Jvm.MethodName)).before a0 Z = true := hw _ (List.mem_of_getElem? (i := 60) rfl)
theorem wd_61 {a0 : Array Value} {Z : State} (hw : ∀ d ∈ tables_1, d.before a0 Z = true) : (Jvm.Cond.declares ({ cls := "com/example/inflight/inflight/log/StoredMessages$Builder", name := "isEmpty", desc := "()Z" } : Jvm.MethodName)).before a0 Z = true := hw _ (List.mem_of_getElem? (i := 61) rfl)
theorem wd_62 {a0 : Array Value} {Z : State} (hw : ∀ d ∈ tables_1, d.before a0 Z = true) : (Jvm.Cond.instanceMethod ({ cls := "com/example/inflight/inflight/log/StoredMessages$Builder", name := "isEmpty", desc := "()Z" } : Jvm.MethodName)).before a0 Z = true := hw _ (List.mem_of_getElem? (i := 62) rfl)
theorem wd_63 {a0 : Array Value} {Z : State} (hw : ∀ d ∈ tables_1, d.before a0 Z = true) : (Jvm.Cond.selects "com/example/inflight/inflight/log/StoredMessages$Builder" ({ cls := "com/example/inflight/inflight/log/StoredMessages$Builder", name := "isEmpty", desc := "()Z" } : Jvm.MethodName) ({ cls := "com/example/inflight/inflight/log/StoredMessages$Builder", name := "isEmpty", desc := "()Z" } : Jvm.MethodName)).before a0 Z = true := hw _ (List.mem_of_getElem? (i := 63) rfl)
theorem wd_64 {a0 : Array Value} {Z : State} (hw : ∀ d ∈ tables_1, d.before a0 Z = true) : (Jvm.Cond.code ({ cls := "com/example/inflight/inflight/log/StoredMessages$Builder", name := "isEmpty", desc := "()Z" } : Jvm.MethodName) prog_71_method_3_code (1 : Nat) (Option.some Jvm.ClassFile.FieldType.boolean)).before a0 Z = true := hw _ (List.mem_of_getElem? (i := 64) rfl)
theorem wd_65 {a0 : Array Value} {Z : State} (hw : ∀ d ∈ tables_1, d.before a0 Z = true) : (Jvm.Cond.methodLink "com/example/inflight/inflight/log/BuilderFitsPinLaw" (15 : Nat) ({ cls := "com/example/inflight/inflight/log/StoredMessages$Builder", name := "take", desc := "(J)V" } : Jvm.MethodName)).before a0 Z = true := hw _ (List.mem_of_getElem? (i := 65) rfl)
theorem wd_66 {a0 : Array Value} {Z : State} (hw : ∀ d ∈ tables_1, d.before a0 Z = true) : (Jvm.Cond.declares ({ cls := "com/example/inflight/inflight/log/StoredMessages$Builder", name := "take", desc := "(J)V" } : Jvm.MethodName)).before a0 Z = true := hw _ (List.mem_of_getElem? (i := 66) rfl)
theorem wd_67 {a0 : Array Value} {Z : State} (hw : ∀ d ∈ tables_1, d.before a0 Z = true) : (Jvm.Cond.instanceMethod ({ cls := "com/example/inflight/inflight/log/StoredMessages$Builder", name := "take", desc := "(J)V" } : Jvm.MethodName)).before a0 Z = true := hw _ (List.mem_of_getElem? (i := 67) rfl)
theorem wd_68 {a0 : Array Value} {Z : State} (hw : ∀ d ∈ tables_1, d.before a0 Z = true) : (Jvm.Cond.selects "com/example/inflight/inflight/log/StoredMessages$Builder" ({ cls := "com/example/inflight/inflight/log/StoredMessages$Builder", name := "take", desc := "(J)V" } : Jvm.MethodName) ({ cls := "com/example/inflight/inflight/log/StoredMessages$Builder", name := "take", desc := "(J)V" } : Jvm.MethodName)).before a0 Z = true := hw _ (List.mem_of_getElem? (i := 68) rfl)
theorem wd_69 {a0 : Array Value} {Z : State} (hw : ∀ d ∈ tables_1, d.before a0 Z = true) : (Jvm.Cond.code ({ cls := "com/example/inflight/inflight/log/StoredMessages$Builder", name := "take", desc := "(J)V" } : Jvm.MethodName) prog_71_method_5_code (3 : Nat) (Option.none : Option Jvm.ClassFile.FieldType)).before a0 Z = true := hw _ (List.mem_of_getElem? (i := 69) rfl)
theorem wd_70 {a0 : Array Value} {Z : State} (hw : ∀ d ∈ tables_1, d.before a0 Z = true) : (Jvm.Cond.fieldLink "com/example/inflight/inflight/log/StoredMessages$Builder" (39 : Nat) "com/example/inflight/inflight/log/StoredMessages$Builder" "takenBytes" "J").before a0 Z = true := hw _ (List.mem_of_getElem? (i := 70) rfl)
theorem wd_71 {a0 : Array Value} {Z : State} (hw : ∀ d ∈ tables_1, d.before a0 Z = true) : (Jvm.Cond.lays "com/example/inflight/inflight/log/StoredMessages$Builder" "com/example/inflight/inflight/log/StoredMessages$Builder" "takenBytes" "J").before a0 Z = true := hw _ (List.mem_of_getElem? (i := 71) rfl)
theorem wd_72 {a0 : Array Value} {Z : State} (hw : ∀ d ∈ tables_1, d.before a0 Z = true) : (Jvm.Cond.methodLink "com/example/inflight/inflight/log/BuilderFitsPinLaw" (19 : Nat) ({ cls := "com/example/inflight/inflight/log/StoredMessages$Builder", name := "stop", desc := "()V" } : Jvm.MethodName)).before a0 Z = true := hw _ (List.mem_of_getElem? (i := 72) rfl)
theorem wd_73 {a0 : Array Value} {Z : State} (hw : ∀ d ∈ tables_1, d.before a0 Z = true) : (Jvm.Cond.declares ({ cls := "com/example/inflight/inflight/log/StoredMessages$Builder", name := "stop", desc := "()V" } : Jvm.MethodName)).before a0 Z = true := hw _ (List.mem_of_getElem? (i := 73) rfl)
theorem wd_74 {a0 : Array Value} {Z : State} (hw : ∀ d ∈ tables_1, d.before a0 Z = true) : (Jvm.Cond.instanceMethod ({ cls := "com/example/inflight/inflight/log/StoredMessages$Builder", name := "stop", desc := "()V" } : Jvm.MethodName)).before a0 Z = true := hw _ (List.mem_of_getElem? (i := 74) rfl)
theorem wd_75 {a0 : Array Value} {Z : State} (hw : ∀ d ∈ tables_1, d.before a0 Z = true) : (Jvm.Cond.selects "com/example/inflight/inflight/log/StoredMessages$Builder" ({ cls := "com/example/inflight/inflight/log/StoredMessages$Builder", name := "stop", desc := "()V" } : Jvm.MethodName) ({ cls := "com/example/inflight/inflight/log/StoredMessages$Builder", name := "stop", desc := "()V" } : Jvm.MethodName)).before a0 Z = true := hw _ (List.mem_of_getElem? (i := 75) rfl)
theorem wd_76 {a0 : Array Value} {Z : State} (hw : ∀ d ∈ tables_1, d.before a0 Z = true) : (Jvm.Cond.code ({ cls := "com/example/inflight/inflight/log/StoredMessages$Builder", name := "stop", desc := "()V" } : Jvm.MethodName) prog_71_method_6_code (1 : Nat) (Option.none : Option Jvm.ClassFile.FieldType)).before a0 Z = true := hw _ (List.mem_of_getElem? (i := 76) rfl)
theorem d1_0 : decode prog_71_method_1_code 0 = .ok (.aload_n 0, 1) := by decide +kernel
theorem d1_1 : decode prog_71_method_1_code 1 = .ok (.invokespecial 1, 3) := by decide +kernel
theorem d1_4 : decode prog_71_method_1_code 4 = .ok (.aload_n 0, 1) := by decide +kernel
theorem d1_5 : decode prog_71_method_1_code 5 = .ok (.new 7, 3) := by decide +kernel
theorem d1_8 : decode prog_71_method_1_code 8 = .ok (.dup, 1) := by decide +kernel
theorem d1_9 : decode prog_71_method_1_code 9 = .ok (.iconst 1, 1) := by decide +kernel
theorem d1_10 : decode prog_71_method_1_code 10 = .ok (.invokespecial 9, 3) := by decide +kernel
theorem d1_13 : decode prog_71_method_1_code 13 = .ok (.putfield 12, 3) := by decide +kernel
theorem d1_16 : decode prog_71_method_1_code 16 = .ok (.aload_n 0, 1) := by decide +kernel
theorem d1_17 : decode prog_71_method_1_code 17 = .ok (.lload_n 1, 1) := by decide +kernel
theorem d1_18 : decode prog_71_method_1_code 18 = .ok (.putfield 18, 3) := by decide +kernel
theorem d1_21 : decode prog_71_method_1_code 21 = .ok (.aload_n 0, 1) := by decide +kernel
theorem d1_22 : decode prog_71_method_1_code 22 = .ok (.iload_n 3, 1) := by decide +kernel
theorem d1_23 : decode prog_71_method_1_code 23 = .ok (.putfield 22, 3) := by decide +kernel
theorem d1_26 : decode prog_71_method_1_code 26 = .ok (.aload_n 0, 1) := by decide +kernel
theorem d1_27 : decode prog_71_method_1_code 27 = .ok (.lload 4, 2) := by decide +kernel
theorem d1_29 : decode prog_71_method_1_code 29 = .ok (.putfield 26, 3) := by decide +kernel
theorem d1_32 : decode prog_71_method_1_code 32 = .ok (.aload_n 0, 1) := by decide +kernel
theorem d1_33 : decode prog_71_method_1_code 33 = .ok (.iload 6, 2) := by decide +kernel
theorem d1_35 : decode prog_71_method_1_code 35 = .ok (.putfield 29, 3) := by decide +kernel
theorem d1_38 : decode prog_71_method_1_code 38 = .ok (.return_, 1) := by decide +kernel
theorem d3_0 : decode jdk_38_method_1_code 0 = .ok (.aload_n 0, 1) := by decide +kernel
theorem d3_1 : decode jdk_38_method_1_code 1 = .ok (.invokespecial 1, 3) := by decide +kernel
theorem d3_4 : decode jdk_38_method_1_code 4 = .ok (.iload_n 1, 1) := by decide +kernel
theorem d3_5 : decode jdk_38_method_1_code 5 = .ok (.ifCond .le 14, 3) := by decide +kernel
theorem d3_8 : decode jdk_38_method_1_code 8 = .ok (.aload_n 0, 1) := by decide +kernel
theorem d3_9 : decode jdk_38_method_1_code 9 = .ok (.iload_n 1, 1) := by decide +kernel
theorem d3_10 : decode jdk_38_method_1_code 10 = .ok (.anewarray 7, 3) := by decide +kernel
theorem d3_13 : decode jdk_38_method_1_code 13 = .ok (.putfield 9, 3) := by decide +kernel
theorem d3_16 : decode jdk_38_method_1_code 16 = .ok (.goto 44, 3) := by decide +kernel
theorem d3_60 : decode jdk_38_method_1_code 60 = .ok (.return_, 1) := by decide +kernel
theorem d4_0 : decode jdk_39_method_1_code 0 = .ok (.aload_n 0, 1) := by decide +kernel
theorem d4_1 : decode jdk_39_method_1_code 1 = .ok (.invokespecial 1, 3) := by decide +kernel
theorem d4_4 : decode jdk_39_method_1_code 4 = .ok (.aload_n 0, 1) := by decide +kernel
theorem d4_5 : decode jdk_39_method_1_code 5 = .ok (.iconst 0, 1) := by decide +kernel
theorem d4_6 : decode jdk_39_method_1_code 6 = .ok (.putfield 7, 3) := by decide +kernel
theorem d4_9 : decode jdk_39_method_1_code 9 = .ok (.return_, 1) := by decide +kernel
theorem d5_0 : decode jdk_22_method_1_code 0 = .ok (.aload_n 0, 1) := by decide +kernel
theorem d5_1 : decode jdk_22_method_1_code 1 = .ok (.invokespecial 1, 3) := by decide +kernel
theorem d5_4 : decode jdk_22_method_1_code 4 = .ok (.return_, 1) := by decide +kernel
theorem d6_0 : decode prog_71_method_4_code 0 = .ok (.aload_n 0, 1) := by decide +kernel
theorem d6_1 : decode prog_71_method_4_code 1 = .ok (.getfield 36, 3) := by decide +kernel
theorem d6_4 : decode prog_71_method_4_code 4 = .ok (.ifCond .le 28, 3) := by decide +kernel
theorem d6_7 : decode prog_71_method_4_code 7 = .ok (.aload_n 0, 1) := by decide +kernel
theorem d6_8 : decode prog_71_method_4_code 8 = .ok (.getfield 39, 3) := by decide +kernel
theorem d6_11 : decode prog_71_method_4_code 11 = .ok (.lload_n 1, 1) := by decide +kernel
theorem d6_12 : decode prog_71_method_4_code 12 = .ok (.ladd, 1) := by decide +kernel
theorem d6_13 : decode prog_71_method_4_code 13 = .ok (.aload_n 0, 1) := by decide +kernel
theorem d6_14 : decode prog_71_method_4_code 14 = .ok (.getfield 29, 3) := by decide +kernel
theorem d6_17 : decode prog_71_method_4_code 17 = .ok (.i2l, 1) := by decide +kernel
theorem d6_18 : decode prog_71_method_4_code 18 = .ok (.ladd, 1) := by decide +kernel
theorem d6_19 : decode prog_71_method_4_code 19 = .ok (.aload_n 0, 1) := by decide +kernel
theorem d6_20 : decode prog_71_method_4_code 20 = .ok (.getfield 26, 3) := by decide +kernel
theorem d6_23 : decode prog_71_method_4_code 23 = .ok (.lcmp, 1) := by decide +kernel
theorem d6_24 : decode prog_71_method_4_code 24 = .ok (.ifCond .le 8, 3) := by decide +kernel
theorem d6_27 : decode prog_71_method_4_code 27 = .ok (.aload_n 0, 1) := by decide +kernel
theorem d6_28 : decode prog_71_method_4_code 28 = .ok (.iconst 1, 1) := by decide +kernel
theorem d6_29 : decode prog_71_method_4_code 29 = .ok (.putfield 32, 3) := by decide +kernel
theorem d6_32 : decode prog_71_method_4_code 32 = .ok (.aload_n 0, 1) := by decide +kernel
theorem d6_33 : decode prog_71_method_4_code 33 = .ok (.getfield 32, 3) := by decide +kernel
theorem d6_36 : decode prog_71_method_4_code 36 = .ok (.ifCond .ne 7, 3) := by decide +kernel
theorem d6_39 : decode prog_71_method_4_code 39 = .ok (.iconst 1, 1) := by decide +kernel
theorem d6_40 : decode prog_71_method_4_code 40 = .ok (.goto 4, 3) := by decide +kernel
theorem d6_43 : decode prog_71_method_4_code 43 = .ok (.iconst 0, 1) := by decide +kernel
theorem d6_44 : decode prog_71_method_4_code 44 = .ok (.ireturn, 1) := by decide +kernel
theorem d7_0 : decode prog_71_method_2_code 0 = .ok (.aload_n 0, 1) := by decide +kernel
theorem d7_1 : decode prog_71_method_2_code 1 = .ok (.getfield 32, 3) := by decide +kernel
theorem d7_4 : decode prog_71_method_2_code 4 = .ok (.ifCond .ne 18, 3) := by decide +kernel
theorem d7_7 : decode prog_71_method_2_code 7 = .ok (.aload_n 0, 1) := by decide +kernel
theorem d7_8 : decode prog_71_method_2_code 8 = .ok (.getfield 36, 3) := by decide +kernel
theorem d7_11 : decode prog_71_method_2_code 11 = .ok (.aload_n 0, 1) := by decide +kernel
theorem d7_12 : decode prog_71_method_2_code 12 = .ok (.getfield 22, 3) := by decide +kernel
theorem d7_15 : decode prog_71_method_2_code 15 = .ok (.if_icmp .ge 7, 3) := by decide +kernel
theorem d7_18 : decode prog_71_method_2_code 18 = .ok (.iconst 1, 1) := by decide +kernel
theorem d7_19 : decode prog_71_method_2_code 19 = .ok (.goto 4, 3) := by decide +kernel
theorem d7_22 : decode prog_71_method_2_code 22 = .ok (.iconst 0, 1) := by decide +kernel
theorem d7_23 : decode prog_71_method_2_code 23 = .ok (.ireturn, 1) := by decide +kernel
theorem d8_0 : decode prog_71_method_3_code 0 = .ok (.aload_n 0, 1) := by decide +kernel
theorem d8_1 : decode prog_71_method_3_code 1 = .ok (.getfield 36, 3) := by decide +kernel
theorem d8_4 : decode prog_71_method_3_code 4 = .ok (.ifCond .ne 7, 3) := by decide +kernel
theorem d8_7 : decode prog_71_method_3_code 7 = .ok (.iconst 1, 1) := by decide +kernel
theorem d8_8 : decode prog_71_method_3_code 8 = .ok (.goto 4, 3) := by decide +kernel
theorem d8_11 : decode prog_71_method_3_code 11 = .ok (.iconst 0, 1) := by decide +kernel
theorem d8_12 : decode prog_71_method_3_code 12 = .ok (.ireturn, 1) := by decide +kernel
theorem d9_0 : decode prog_71_method_5_code 0 = .ok (.aload_n 0, 1) := by decide +kernel
theorem d9_1 : decode prog_71_method_5_code 1 = .ok (.dup, 1) := by decide +kernel
theorem d9_2 : decode prog_71_method_5_code 2 = .ok (.getfield 39, 3) := by decide +kernel
theorem d9_5 : decode prog_71_method_5_code 5 = .ok (.lload_n 1, 1) := by decide +kernel
theorem d9_6 : decode prog_71_method_5_code 6 = .ok (.aload_n 0, 1) := by decide +kernel
theorem d9_7 : decode prog_71_method_5_code 7 = .ok (.getfield 29, 3) := by decide +kernel
theorem d9_10 : decode prog_71_method_5_code 10 = .ok (.i2l, 1) := by decide +kernel
theorem d9_11 : decode prog_71_method_5_code 11 = .ok (.ladd, 1) := by decide +kernel
theorem d9_12 : decode prog_71_method_5_code 12 = .ok (.ladd, 1) := by decide +kernel
theorem d9_13 : decode prog_71_method_5_code 13 = .ok (.putfield 39, 3) := by decide +kernel
theorem d9_16 : decode prog_71_method_5_code 16 = .ok (.aload_n 0, 1) := by decide +kernel
theorem d9_17 : decode prog_71_method_5_code 17 = .ok (.dup, 1) := by decide +kernel
theorem d9_18 : decode prog_71_method_5_code 18 = .ok (.getfield 36, 3) := by decide +kernel
theorem d9_21 : decode prog_71_method_5_code 21 = .ok (.iconst 1, 1) := by decide +kernel
theorem d9_22 : decode prog_71_method_5_code 22 = .ok (.iadd, 1) := by decide +kernel
theorem d9_23 : decode prog_71_method_5_code 23 = .ok (.putfield 36, 3) := by decide +kernel
theorem d9_26 : decode prog_71_method_5_code 26 = .ok (.return_, 1) := by decide +kernel
theorem d10_0 : decode prog_71_method_6_code 0 = .ok (.aload_n 0, 1) := by decide +kernel
theorem d10_1 : decode prog_71_method_6_code 1 = .ok (.iconst 1, 1) := by decide +kernel
theorem d10_2 : decode prog_71_method_6_code 2 = .ok (.putfield 32, 3) := by decide +kernel
theorem d10_5 : decode prog_71_method_6_code 5 = .ok (.return_, 1) := by decide +kernel
theorem own_pn0 : plainName "java/util/AbstractCollection" = true := by first | (simp [plainName, overriddenIn]; done) | decide +kernel
theorem own_pd1 : parseMethodDescriptor "()V" = some ⟨[], none⟩ := by decide +kernel
theorem own_pn2 : plainName "java/util/AbstractList" = true := by first | (simp [plainName, overriddenIn]; done) | decide +kernel
theorem own_pn3 : plainName "java/util/ArrayList" = true := by first | (simp [plainName, overriddenIn]; done) | decide +kernel
theorem own_pd4 : parseMethodDescriptor "(I)V" = some ⟨[.int], none⟩ := by decide +kernel
theorem own_pn5 : plainName "com/example/inflight/inflight/log/StoredMessages$Builder" = true := by first | (simp [plainName, overriddenIn]; done) | decide +kernel
theorem own_pd6 : parseMethodDescriptor "(JIJI)V" = some ⟨[.long, .int, .long, .int], none⟩ := by decide +kernel
theorem own_pd7 : parseMethodDescriptor "(J)Z" = some ⟨[.long], some .boolean⟩ := by decide +kernel
theorem own_pd8 : parseMethodDescriptor "()Z" = some ⟨[], some .boolean⟩ := by decide +kernel
theorem own_pd9 : parseMethodDescriptor "(J)V" = some ⟨[.long], none⟩ := by decide +kernel
theorem own_pn10 : plainName "com/example/inflight/inflight/log/BuilderFitsPinLaw" = true := by first | (simp [plainName, overriddenIn]; done) | decide +kernel
set_option maxRecDepth 65536 in
theorem own_lk0 {p : Program} {l : Launch} {e : Env} {R : Room} {s : State} {m : MethodId} {args : Array Value} {below : List Frame} {meth : Method} {c : Code} {T : State} {locs : List Loc} {cells slots : Nat} {F : Option Value → State → Prop} {bs : ByteArray} {pc pc' : Nat} {Ls : Array Slot} {Z : State} {a0 : Array Value} {h : Heap} {b : Addr} {rest : List Value} {W : Nat} {rm : Room} {Q : Option Value → Heap → List Loc → Prop} (hw : ∀ d ∈ tables_1, d.before a0 Z = true) (X : Stand p l e R s m args below meth c T locs cells slots) (hx : p.tables.exec = Jvm.exec) (hZ : Z.Warmed39 s.vm) (hby : c.code = bs) (hsz : Ls.size = c.maxLocals) (hown : s.vm.findClass "java/util/AbstractList" = some m.cls) (hd : decode bs pc = .ok (.invokespecial 1, 3)) (hp : pc + 3 = pc') (eT : T.heap = h) (hW : (rest.map fun v => v.category).sum ≤ W)
    (hM : MetFree l (⟨"java/util/AbstractCollection", "<init>", "()V"⟩ : MethodName) (head1 [(Cond.code (⟨"java/util/AbstractCollection", "<init>", "()V"⟩ : MethodName) jdk_22_method_1_code 1 none)] rm) (fun aa U => aa = #[.ref b] ∧ Z.Warmed39 U.vm ∧ U.heap = h) (fun _ _ _ _ _ => True) (fun _ U o U' => ∃ v L, o = .returned v ∧ Q v U'.heap L ∧ FrameEnd U o U' L rm.cells rm.slots)) (hf : rm.frames + 1 ≤ R.frames) (hl : W + (1 + 11) + rm.locals ≤ R.locals) (hc : cells + rm.cells ≤ R.cells) (hs : slots + rm.slots ≤ R.slots)
    (k : ∀ v T' L', Stand p l e R s m args below meth c T' (locs ++ L') (cells + rm.cells) (slots + rm.slots) → Q v T'.heap L' → own_End p e below F (T'.setTop (mkF m pc' Ls (v.toList ++ rest)))) : own_End p e below F (T.setTop (mkF m pc Ls (.ref b :: rest))) := by
  subst hp
  obtain ⟨v, _, ⟨T', L0, k0, n0⟩, -, X', ⟨L', hQ, e1, e2, e3⟩, stp⟩ := X.specialBack hx (y := (⟨"java/util/AbstractCollection", "<init>", "()V"⟩ : MethodName)) rfl hown (mvT hZ (wd_23 hw)) (mvT hZ (wd_24 hw)) (mvT hZ (wd_28 hw)) (by decide) (backOf (W := W) hM hZ (wd_28 hw) (wd_27 hw) hf hl) (g := mkF m pc Ls (.ref b :: rest)) rfl hsz (Steps.refl _) (a := b) (argsL := []) (rest := rest) (lenOf own_pd1 rfl) rfl (by show 2 * 0 + _ ≤ _; omega) (hb hby hd) (fun _ _ => ⟨rfl, eT, hc, hs⟩)
  dsimp only [Pt.U, Pt.locs, Pt.cells, Pt.slots] at X' e1 e2 e3 stp hQ
  subst e1 e2 e3
  exact own_trans stp (k v T' L' X' hQ)
set_option maxRecDepth 65536 in
theorem own_lk1 {p : Program} {l : Launch} {e : Env} {R : Room} {s : State} {m : MethodId} {args : Array Value} {below : List Frame} {meth : Method} {c : Code} {T : State} {locs : List Loc} {cells slots : Nat} {F : Option Value → State → Prop} {bs : ByteArray} {pc pc' : Nat} {Ls : Array Slot} {Z : State} {a0 : Array Value} {h : Heap} {b : Addr} {rest : List Value} {W : Nat} {rm : Room} {Q : Option Value → Heap → List Loc → Prop} (hw : ∀ d ∈ tables_1, d.before a0 Z = true) (X : Stand p l e R s m args below meth c T locs cells slots) (hx : p.tables.exec = Jvm.exec) (hZ : Z.Warmed39 s.vm) (hby : c.code = bs) (hsz : Ls.size = c.maxLocals) (hown : s.vm.findClass "java/util/ArrayList" = some m.cls) (hd : decode bs pc = .ok (.invokespecial 1, 3)) (hp : pc + 3 = pc') (eT : T.heap = h) (hW : (rest.map fun v => v.category).sum ≤ W)
    (hM : MetFree l (⟨"java/util/AbstractList", "<init>", "()V"⟩ : MethodName) (head1 [(Cond.code (⟨"java/util/AbstractList", "<init>", "()V"⟩ : MethodName) jdk_39_method_1_code 1 none)] rm) (fun aa U => aa = #[.ref b] ∧ Z.Warmed39 U.vm ∧ U.heap = h) (fun _ _ _ _ _ => True) (fun _ U o U' => ∃ v L, o = .returned v ∧ Q v U'.heap L ∧ FrameEnd U o U' L rm.cells rm.slots)) (hf : rm.frames + 1 ≤ R.frames) (hl : W + (1 + 11) + rm.locals ≤ R.locals) (hc : cells + rm.cells ≤ R.cells) (hs : slots + rm.slots ≤ R.slots)
    (k : ∀ v T' L', Stand p l e R s m args below meth c T' (locs ++ L') (cells + rm.cells) (slots + rm.slots) → Q v T'.heap L' → own_End p e below F (T'.setTop (mkF m pc' Ls (v.toList ++ rest)))) : own_End p e below F (T.setTop (mkF m pc Ls (.ref b :: rest))) := by
  subst hp
  obtain ⟨v, _, ⟨T', L0, k0, n0⟩, -, X', ⟨L', hQ, e1, e2, e3⟩, stp⟩ := X.specialBack hx (y := (⟨"java/util/AbstractList", "<init>", "()V"⟩ : MethodName)) rfl hown (mvT hZ (wd_17 hw)) (mvT hZ (wd_18 hw)) (mvT hZ (wd_22 hw)) (by decide) (backOf (W := W) hM hZ (wd_22 hw) (wd_21 hw) hf hl) (g := mkF m pc Ls (.ref b :: rest)) rfl hsz (Steps.refl _) (a := b) (argsL := []) (rest := rest) (lenOf own_pd1 rfl) rfl (by show 2 * 0 + _ ≤ _; omega) (hb hby hd) (fun _ _ => ⟨rfl, eT, hc, hs⟩)
  dsimp only [Pt.U, Pt.locs, Pt.cells, Pt.slots] at X' e1 e2 e3 stp hQ
  subst e1 e2 e3
  exact own_trans stp (k v T' L' X' hQ)
set_option maxRecDepth 65536 in
theorem own_lk2 {p : Program} {l : Launch} {e : Env} {R : Room} {s : State} {m : MethodId} {args : Array Value} {below : List Frame} {meth : Method} {c : Code} {T : State} {locs : List Loc} {cells slots : Nat} {F : Option Value → State → Prop} {bs : ByteArray} {pc pc' : Nat} {Ls : Array Slot} {Z : State} {a0 : Array Value} {h : Heap} {x0 : Value} {b : Addr} {rest : List Value} {W : Nat} {rm : Room} {Q : Option Value → Heap → List Loc → Prop} (hw : ∀ d ∈ tables_1, d.before a0 Z = true) (X : Stand p l e R s m args below meth c T locs cells slots) (hx : p.tables.exec = Jvm.exec) (hZ : Z.Warmed39 s.vm) (hby : c.code = bs) (hsz : Ls.size = c.maxLocals) (hown : s.vm.findClass "com/example/inflight/inflight/log/StoredMessages$Builder" = some m.cls) (hd : decode bs pc = .ok (.invokespecial 9, 3)) (hp : pc + 3 = pc') (eT : T.heap = h) (hW : (rest.map fun v => v.category).sum ≤ W)
    (hM : MetFree l (⟨"java/util/ArrayList", "<init>", "(I)V"⟩ : MethodName) (head1 [(Cond.code (⟨"java/util/ArrayList", "<init>", "(I)V"⟩ : MethodName) jdk_38_method_1_code 2 none)] rm) (fun aa U => aa = #[.ref b, x0] ∧ Z.Warmed39 U.vm ∧ U.heap = h) (fun _ _ _ _ _ => True) (fun _ U o U' => ∃ v L, o = .returned v ∧ Q v U'.heap L ∧ FrameEnd U o U' L rm.cells rm.slots)) (hf : rm.frames + 1 ≤ R.frames) (hl : W + (2 + 11) + rm.locals ≤ R.locals) (hc : cells + rm.cells ≤ R.cells) (hs : slots + rm.slots ≤ R.slots)
    (k : ∀ v T' L', Stand p l e R s m args below meth c T' (locs ++ L') (cells + rm.cells) (slots + rm.slots) → Q v T'.heap L' → own_End p e below F (T'.setTop (mkF m pc' Ls (v.toList ++ rest)))) : own_End p e below F (T.setTop (mkF m pc Ls (x0 :: .ref b :: rest))) := by
  subst hp
  obtain ⟨v, _, ⟨T', L0, k0, n0⟩, -, X', ⟨L', hQ, e1, e2, e3⟩, stp⟩ := X.specialBack hx (y := (⟨"java/util/ArrayList", "<init>", "(I)V"⟩ : MethodName)) rfl hown (mvT hZ (wd_14 hw)) (mvT hZ (wd_15 hw)) (mvT hZ (wd_16 hw)) (by decide) (backOf (W := W) hM hZ (wd_16 hw) (wd_13 hw) hf hl) (g := mkF m pc Ls (x0 :: .ref b :: rest)) rfl hsz (Steps.refl _) (a := b) (argsL := [x0]) (rest := rest) (lenOf own_pd4 rfl) rfl (by show 2 * 0 + _ ≤ _; omega) (hb hby hd) (fun _ _ => ⟨rfl, eT, hc, hs⟩)
  dsimp only [Pt.U, Pt.locs, Pt.cells, Pt.slots] at X' e1 e2 e3 stp hQ
  subst e1 e2 e3
  exact own_trans stp (k v T' L' X' hQ)
set_option maxRecDepth 65536 in
theorem own_lk3 {p : Program} {l : Launch} {e : Env} {R : Room} {s : State} {m : MethodId} {args : Array Value} {below : List Frame} {meth : Method} {c : Code} {T : State} {locs : List Loc} {cells slots : Nat} {F : Option Value → State → Prop} {bs : ByteArray} {pc pc' : Nat} {Ls : Array Slot} {Z : State} {a0 : Array Value} {h : Heap} {x0 : Value} {x1 : Value} {x2 : Value} {x3 : Value} {b : Addr} {rest : List Value} {W : Nat} {rm : Room} {Q : Option Value → Heap → List Loc → Prop} (hw : ∀ d ∈ tables_1, d.before a0 Z = true) (X : Stand p l e R s m args below meth c T locs cells slots) (hx : p.tables.exec = Jvm.exec) (hZ : Z.Warmed39 s.vm) (hby : c.code = bs) (hsz : Ls.size = c.maxLocals) (hown : s.vm.findClass "com/example/inflight/inflight/log/BuilderFitsPinLaw" = some m.cls) (hd : decode bs pc = .ok (.invokespecial 12, 3)) (hp : pc + 3 = pc') (eT : T.heap = h) (hW : (rest.map fun v => v.category).sum ≤ W)
    (hM : MetFree l (⟨"com/example/inflight/inflight/log/StoredMessages$Builder", "<init>", "(JIJI)V"⟩ : MethodName) (head1 [(Cond.code (⟨"com/example/inflight/inflight/log/StoredMessages$Builder", "<init>", "(JIJI)V"⟩ : MethodName) prog_71_method_1_code 7 none)] rm) (fun aa U => aa = #[.ref b, x0, x1, x2, x3] ∧ Z.Warmed39 U.vm ∧ U.heap = h) (fun _ _ _ _ _ => True) (fun _ U o U' => ∃ v L, o = .returned v ∧ Q v U'.heap L ∧ FrameEnd U o U' L rm.cells rm.slots)) (hf : rm.frames + 1 ≤ R.frames) (hl : W + (7 + 11) + rm.locals ≤ R.locals) (hc : cells + rm.cells ≤ R.cells) (hs : slots + rm.slots ≤ R.slots)
    (k : ∀ v T' L', Stand p l e R s m args below meth c T' (locs ++ L') (cells + rm.cells) (slots + rm.slots) → Q v T'.heap L' → own_End p e below F (T'.setTop (mkF m pc' Ls (v.toList ++ rest)))) : own_End p e below F (T.setTop (mkF m pc Ls (x3 :: x2 :: x1 :: x0 :: .ref b :: rest))) := by
  subst hp
  obtain ⟨v, _, ⟨T', L0, k0, n0⟩, -, X', ⟨L', hQ, e1, e2, e3⟩, stp⟩ := X.specialBack hx (y := (⟨"com/example/inflight/inflight/log/StoredMessages$Builder", "<init>", "(JIJI)V"⟩ : MethodName)) rfl hown (mvT hZ (wd_5 hw)) (mvT hZ (wd_6 hw)) (mvT hZ (wd_7 hw)) (by decide) (backOf (W := W) hM hZ (wd_7 hw) (wd_4 hw) hf hl) (g := mkF m pc Ls (x3 :: x2 :: x1 :: x0 :: .ref b :: rest)) rfl hsz (Steps.refl _) (a := b) (argsL := [x0, x1, x2, x3]) (rest := rest) (lenOf own_pd6 rfl) rfl (by show 2 * 0 + _ ≤ _; omega) (hb hby hd) (fun _ _ => ⟨rfl, eT, hc, hs⟩)
  dsimp only [Pt.U, Pt.locs, Pt.cells, Pt.slots] at X' e1 e2 e3 stp hQ
  subst e1 e2 e3
  exact own_trans stp (k v T' L' X' hQ)
set_option maxRecDepth 65536 in
theorem own_lk4 {p : Program} {l : Launch} {e : Env} {R : Room} {s : State} {m : MethodId} {args : Array Value} {below : List Frame} {meth : Method} {c : Code} {T : State} {locs : List Loc} {cells slots : Nat} {F : Option Value → State → Prop} {bs : ByteArray} {pc pc' : Nat} {Ls : Array Slot} {Z : State} {a0 : Array Value} {h : Heap} {x0 : Value} {b : Addr} {rest : List Value} {W : Nat} {rm : Room} {Q : Option Value → Heap → List Loc → Prop} (hw : ∀ d ∈ tables_1, d.before a0 Z = true) (X : Stand p l e R s m args below meth c T locs cells slots) (hx : p.tables.exec = Jvm.exec) (hZ : Z.Warmed39 s.vm) (hby : c.code = bs) (hsz : Ls.size = c.maxLocals) (hown : s.vm.findClass "com/example/inflight/inflight/log/BuilderFitsPinLaw" = some m.cls) (hd : decode bs pc = .ok (.invokevirtual 22, 3)) (hp : pc + 3 = pc') (eT : T.heap = h) (E : Exa Z h b "com/example/inflight/inflight/log/StoredMessages$Builder") (hW : (rest.map fun v => v.category).sum ≤ W)
    (hM : MetFree l (⟨"com/example/inflight/inflight/log/StoredMessages$Builder", "fits", "(J)Z"⟩ : MethodName) (head1 [(Cond.code (⟨"com/example/inflight/inflight/log/StoredMessages$Builder", "fits", "(J)Z"⟩ : MethodName) prog_71_method_4_code 3 (some .boolean))] rm) (fun aa U => aa = #[.ref b, x0] ∧ Z.Warmed39 U.vm ∧ U.heap = h) (fun _ _ _ _ _ => True) (fun _ U o U' => ∃ v L, o = .returned v ∧ Q v U'.heap L ∧ FrameEnd U o U' L rm.cells rm.slots)) (hf : rm.frames + 1 ≤ R.frames) (hl : W + (3 + 11) + rm.locals ≤ R.locals) (hc : cells + rm.cells ≤ R.cells) (hs : slots + rm.slots ≤ R.slots)
    (k : ∀ v T' L', Stand p l e R s m args below meth c T' (locs ++ L') (cells + rm.cells) (slots + rm.slots) → Q v T'.heap L' → own_End p e below F (T'.setTop (mkF m pc' Ls (v.toList ++ rest)))) : own_End p e below F (T.setTop (mkF m pc Ls (x0 :: .ref b :: rest))) := by
  subst hp
  obtain ⟨cq, kq, q1, q2, q3⟩ := isOf hZ eT E
  obtain ⟨v, _, ⟨T', L0, k0, n0⟩, -, X', ⟨L', hQ, e1, e2, e3⟩, stp⟩ := X.virtualBack hx (y := (⟨"com/example/inflight/inflight/log/StoredMessages$Builder", "fits", "(J)Z"⟩ : MethodName)) (z := (⟨"com/example/inflight/inflight/log/StoredMessages$Builder", "fits", "(J)Z"⟩ : MethodName)) hown (mvT hZ (wd_46 hw)) (mvT hZ (wd_47 hw)) (notFace_of_selects (args := #[]) (mvT hZ (wd_49 hw))) (mvT hZ (wd_49 hw)) (mvT hZ (wd_48 hw)) (by decide) (backOf (W := W) hM hZ (wd_50 hw) (wd_4 hw) hf hl) q1 q3 (g := mkF m pc Ls (x0 :: .ref b :: rest)) rfl hsz (Steps.refl _) (argsL := [x0]) (rest := rest) (lenOf own_pd7 rfl) rfl (by show 2 * 0 + _ ≤ _; omega) (hb hby hd) (fun _ _ => ⟨rfl, eT, hc, hs⟩)
  dsimp only [Pt.U, Pt.locs, Pt.cells, Pt.slots] at X' e1 e2 e3 stp hQ
  subst e1 e2 e3
  exact own_trans stp (k v T' L' X' hQ)
set_option maxRecDepth 65536 in
theorem own_lk5 {p : Program} {l : Launch} {e : Env} {R : Room} {s : State} {m : MethodId} {args : Array Value} {below : List Frame} {meth : Method} {c : Code} {T : State} {locs : List Loc} {cells slots : Nat} {F : Option Value → State → Prop} {bs : ByteArray} {pc pc' : Nat} {Ls : Array Slot} {Z : State} {a0 : Array Value} {h : Heap} {b : Addr} {rest : List Value} {W : Nat} {rm : Room} {Q : Option Value → Heap → List Loc → Prop} (hw : ∀ d ∈ tables_1, d.before a0 Z = true) (X : Stand p l e R s m args below meth c T locs cells slots) (hx : p.tables.exec = Jvm.exec) (hZ : Z.Warmed39 s.vm) (hby : c.code = bs) (hsz : Ls.size = c.maxLocals) (hown : s.vm.findClass "com/example/inflight/inflight/log/BuilderFitsPinLaw" = some m.cls) (hd : decode bs pc = .ok (.invokevirtual 26, 3)) (hp : pc + 3 = pc') (eT : T.heap = h) (E : Exa Z h b "com/example/inflight/inflight/log/StoredMessages$Builder") (hW : (rest.map fun v => v.category).sum ≤ W)
    (hM : MetFree l (⟨"com/example/inflight/inflight/log/StoredMessages$Builder", "wantsMore", "()Z"⟩ : MethodName) (head1 [(Cond.code (⟨"com/example/inflight/inflight/log/StoredMessages$Builder", "wantsMore", "()Z"⟩ : MethodName) prog_71_method_2_code 1 (some .boolean))] rm) (fun aa U => aa = #[.ref b] ∧ Z.Warmed39 U.vm ∧ U.heap = h) (fun _ _ _ _ _ => True) (fun _ U o U' => ∃ v L, o = .returned v ∧ Q v U'.heap L ∧ FrameEnd U o U' L rm.cells rm.slots)) (hf : rm.frames + 1 ≤ R.frames) (hl : W + (1 + 11) + rm.locals ≤ R.locals) (hc : cells + rm.cells ≤ R.cells) (hs : slots + rm.slots ≤ R.slots)
    (k : ∀ v T' L', Stand p l e R s m args below meth c T' (locs ++ L') (cells + rm.cells) (slots + rm.slots) → Q v T'.heap L' → own_End p e below F (T'.setTop (mkF m pc' Ls (v.toList ++ rest)))) : own_End p e below F (T.setTop (mkF m pc Ls (.ref b :: rest))) := by
  subst hp
  obtain ⟨cq, kq, q1, q2, q3⟩ := isOf hZ eT E
  obtain ⟨v, _, ⟨T', L0, k0, n0⟩, -, X', ⟨L', hQ, e1, e2, e3⟩, stp⟩ := X.virtualBack hx (y := (⟨"com/example/inflight/inflight/log/StoredMessages$Builder", "wantsMore", "()Z"⟩ : MethodName)) (z := (⟨"com/example/inflight/inflight/log/StoredMessages$Builder", "wantsMore", "()Z"⟩ : MethodName)) hown (mvT hZ (wd_55 hw)) (mvT hZ (wd_56 hw)) (notFace_of_selects (args := #[]) (mvT hZ (wd_58 hw))) (mvT hZ (wd_58 hw)) (mvT hZ (wd_57 hw)) (by decide) (backOf (W := W) hM hZ (wd_59 hw) (wd_4 hw) hf hl) q1 q3 (g := mkF m pc Ls (.ref b :: rest)) rfl hsz (Steps.refl _) (argsL := []) (rest := rest) (lenOf own_pd8 rfl) rfl (by show 2 * 0 + _ ≤ _; omega) (hb hby hd) (fun _ _ => ⟨rfl, eT, hc, hs⟩)
  dsimp only [Pt.U, Pt.locs, Pt.cells, Pt.slots] at X' e1 e2 e3 stp hQ
  subst e1 e2 e3
  exact own_trans stp (k v T' L' X' hQ)
set_option maxRecDepth 65536 in
theorem own_lk6 {p : Program} {l : Launch} {e : Env} {R : Room} {s : State} {m : MethodId} {args : Array Value} {below : List Frame} {meth : Method} {c : Code} {T : State} {locs : List Loc} {cells slots : Nat} {F : Option Value → State → Prop} {bs : ByteArray} {pc pc' : Nat} {Ls : Array Slot} {Z : State} {a0 : Array Value} {h : Heap} {b : Addr} {rest : List Value} {W : Nat} {rm : Room} {Q : Option Value → Heap → List Loc → Prop} (hw : ∀ d ∈ tables_1, d.before a0 Z = true) (X : Stand p l e R s m args below meth c T locs cells slots) (hx : p.tables.exec = Jvm.exec) (hZ : Z.Warmed39 s.vm) (hby : c.code = bs) (hsz : Ls.size = c.maxLocals) (hown : s.vm.findClass "com/example/inflight/inflight/log/BuilderFitsPinLaw" = some m.cls) (hd : decode bs pc = .ok (.invokevirtual 30, 3)) (hp : pc + 3 = pc') (eT : T.heap = h) (E : Exa Z h b "com/example/inflight/inflight/log/StoredMessages$Builder") (hW : (rest.map fun v => v.category).sum ≤ W)
    (hM : MetFree l (⟨"com/example/inflight/inflight/log/StoredMessages$Builder", "isEmpty", "()Z"⟩ : MethodName) (head1 [(Cond.code (⟨"com/example/inflight/inflight/log/StoredMessages$Builder", "isEmpty", "()Z"⟩ : MethodName) prog_71_method_3_code 1 (some .boolean))] rm) (fun aa U => aa = #[.ref b] ∧ Z.Warmed39 U.vm ∧ U.heap = h) (fun _ _ _ _ _ => True) (fun _ U o U' => ∃ v L, o = .returned v ∧ Q v U'.heap L ∧ FrameEnd U o U' L rm.cells rm.slots)) (hf : rm.frames + 1 ≤ R.frames) (hl : W + (1 + 11) + rm.locals ≤ R.locals) (hc : cells + rm.cells ≤ R.cells) (hs : slots + rm.slots ≤ R.slots)
    (k : ∀ v T' L', Stand p l e R s m args below meth c T' (locs ++ L') (cells + rm.cells) (slots + rm.slots) → Q v T'.heap L' → own_End p e below F (T'.setTop (mkF m pc' Ls (v.toList ++ rest)))) : own_End p e below F (T.setTop (mkF m pc Ls (.ref b :: rest))) := by
  subst hp
  obtain ⟨cq, kq, q1, q2, q3⟩ := isOf hZ eT E
  obtain ⟨v, _, ⟨T', L0, k0, n0⟩, -, X', ⟨L', hQ, e1, e2, e3⟩, stp⟩ := X.virtualBack hx (y := (⟨"com/example/inflight/inflight/log/StoredMessages$Builder", "isEmpty", "()Z"⟩ : MethodName)) (z := (⟨"com/example/inflight/inflight/log/StoredMessages$Builder", "isEmpty", "()Z"⟩ : MethodName)) hown (mvT hZ (wd_60 hw)) (mvT hZ (wd_61 hw)) (notFace_of_selects (args := #[]) (mvT hZ (wd_63 hw))) (mvT hZ (wd_63 hw)) (mvT hZ (wd_62 hw)) (by decide) (backOf (W := W) hM hZ (wd_64 hw) (wd_4 hw) hf hl) q1 q3 (g := mkF m pc Ls (.ref b :: rest)) rfl hsz (Steps.refl _) (argsL := []) (rest := rest) (lenOf own_pd8 rfl) rfl (by show 2 * 0 + _ ≤ _; omega) (hb hby hd) (fun _ _ => ⟨rfl, eT, hc, hs⟩)
  dsimp only [Pt.U, Pt.locs, Pt.cells, Pt.slots] at X' e1 e2 e3 stp hQ
  subst e1 e2 e3
  exact own_trans stp (k v T' L' X' hQ)
set_option maxRecDepth 65536 in
theorem own_lk7 {p : Program} {l : Launch} {e : Env} {R : Room} {s : State} {m : MethodId} {args : Array Value} {below : List Frame} {meth : Method} {c : Code} {T : State} {locs : List Loc} {cells slots : Nat} {F : Option Value → State → Prop} {bs : ByteArray} {pc pc' : Nat} {Ls : Array Slot} {Z : State} {a0 : Array Value} {h : Heap} {x0 : Value} {b : Addr} {rest : List Value} {W : Nat} {rm : Room} {Q : Option Value → Heap → List Loc → Prop} (hw : ∀ d ∈ tables_1, d.before a0 Z = true) (X : Stand p l e R s m args below meth c T locs cells slots) (hx : p.tables.exec = Jvm.exec) (hZ : Z.Warmed39 s.vm) (hby : c.code = bs) (hsz : Ls.size = c.maxLocals) (hown : s.vm.findClass "com/example/inflight/inflight/log/BuilderFitsPinLaw" = some m.cls) (hd : decode bs pc = .ok (.invokevirtual 15, 3)) (hp : pc + 3 = pc') (eT : T.heap = h) (E : Exa Z h b "com/example/inflight/inflight/log/StoredMessages$Builder") (hW : (rest.map fun v => v.category).sum ≤ W)
    (hM : MetFree l (⟨"com/example/inflight/inflight/log/StoredMessages$Builder", "take", "(J)V"⟩ : MethodName) (head1 [(Cond.code (⟨"com/example/inflight/inflight/log/StoredMessages$Builder", "take", "(J)V"⟩ : MethodName) prog_71_method_5_code 3 none)] rm) (fun aa U => aa = #[.ref b, x0] ∧ Z.Warmed39 U.vm ∧ U.heap = h) (fun _ _ _ _ _ => True) (fun _ U o U' => ∃ v L, o = .returned v ∧ Q v U'.heap L ∧ FrameEnd U o U' L rm.cells rm.slots)) (hf : rm.frames + 1 ≤ R.frames) (hl : W + (3 + 11) + rm.locals ≤ R.locals) (hc : cells + rm.cells ≤ R.cells) (hs : slots + rm.slots ≤ R.slots)
    (k : ∀ v T' L', Stand p l e R s m args below meth c T' (locs ++ L') (cells + rm.cells) (slots + rm.slots) → Q v T'.heap L' → own_End p e below F (T'.setTop (mkF m pc' Ls (v.toList ++ rest)))) : own_End p e below F (T.setTop (mkF m pc Ls (x0 :: .ref b :: rest))) := by
  subst hp
  obtain ⟨cq, kq, q1, q2, q3⟩ := isOf hZ eT E
  obtain ⟨v, _, ⟨T', L0, k0, n0⟩, -, X', ⟨L', hQ, e1, e2, e3⟩, stp⟩ := X.virtualBack hx (y := (⟨"com/example/inflight/inflight/log/StoredMessages$Builder", "take", "(J)V"⟩ : MethodName)) (z := (⟨"com/example/inflight/inflight/log/StoredMessages$Builder", "take", "(J)V"⟩ : MethodName)) hown (mvT hZ (wd_65 hw)) (mvT hZ (wd_66 hw)) (notFace_of_selects (args := #[]) (mvT hZ (wd_68 hw))) (mvT hZ (wd_68 hw)) (mvT hZ (wd_67 hw)) (by decide) (backOf (W := W) hM hZ (wd_69 hw) (wd_4 hw) hf hl) q1 q3 (g := mkF m pc Ls (x0 :: .ref b :: rest)) rfl hsz (Steps.refl _) (argsL := [x0]) (rest := rest) (lenOf own_pd9 rfl) rfl (by show 2 * 0 + _ ≤ _; omega) (hb hby hd) (fun _ _ => ⟨rfl, eT, hc, hs⟩)
  dsimp only [Pt.U, Pt.locs, Pt.cells, Pt.slots] at X' e1 e2 e3 stp hQ
  subst e1 e2 e3
  exact own_trans stp (k v T' L' X' hQ)
set_option maxRecDepth 65536 in
theorem own_lk8 {p : Program} {l : Launch} {e : Env} {R : Room} {s : State} {m : MethodId} {args : Array Value} {below : List Frame} {meth : Method} {c : Code} {T : State} {locs : List Loc} {cells slots : Nat} {F : Option Value → State → Prop} {bs : ByteArray} {pc pc' : Nat} {Ls : Array Slot} {Z : State} {a0 : Array Value} {h : Heap} {b : Addr} {rest : List Value} {W : Nat} {rm : Room} {Q : Option Value → Heap → List Loc → Prop} (hw : ∀ d ∈ tables_1, d.before a0 Z = true) (X : Stand p l e R s m args below meth c T locs cells slots) (hx : p.tables.exec = Jvm.exec) (hZ : Z.Warmed39 s.vm) (hby : c.code = bs) (hsz : Ls.size = c.maxLocals) (hown : s.vm.findClass "com/example/inflight/inflight/log/BuilderFitsPinLaw" = some m.cls) (hd : decode bs pc = .ok (.invokevirtual 19, 3)) (hp : pc + 3 = pc') (eT : T.heap = h) (E : Exa Z h b "com/example/inflight/inflight/log/StoredMessages$Builder") (hW : (rest.map fun v => v.category).sum ≤ W)
    (hM : MetFree l (⟨"com/example/inflight/inflight/log/StoredMessages$Builder", "stop", "()V"⟩ : MethodName) (head1 [(Cond.code (⟨"com/example/inflight/inflight/log/StoredMessages$Builder", "stop", "()V"⟩ : MethodName) prog_71_method_6_code 1 none)] rm) (fun aa U => aa = #[.ref b] ∧ Z.Warmed39 U.vm ∧ U.heap = h) (fun _ _ _ _ _ => True) (fun _ U o U' => ∃ v L, o = .returned v ∧ Q v U'.heap L ∧ FrameEnd U o U' L rm.cells rm.slots)) (hf : rm.frames + 1 ≤ R.frames) (hl : W + (1 + 11) + rm.locals ≤ R.locals) (hc : cells + rm.cells ≤ R.cells) (hs : slots + rm.slots ≤ R.slots)
    (k : ∀ v T' L', Stand p l e R s m args below meth c T' (locs ++ L') (cells + rm.cells) (slots + rm.slots) → Q v T'.heap L' → own_End p e below F (T'.setTop (mkF m pc' Ls (v.toList ++ rest)))) : own_End p e below F (T.setTop (mkF m pc Ls (.ref b :: rest))) := by
  subst hp
  obtain ⟨cq, kq, q1, q2, q3⟩ := isOf hZ eT E
  obtain ⟨v, _, ⟨T', L0, k0, n0⟩, -, X', ⟨L', hQ, e1, e2, e3⟩, stp⟩ := X.virtualBack hx (y := (⟨"com/example/inflight/inflight/log/StoredMessages$Builder", "stop", "()V"⟩ : MethodName)) (z := (⟨"com/example/inflight/inflight/log/StoredMessages$Builder", "stop", "()V"⟩ : MethodName)) hown (mvT hZ (wd_72 hw)) (mvT hZ (wd_73 hw)) (notFace_of_selects (args := #[]) (mvT hZ (wd_75 hw))) (mvT hZ (wd_75 hw)) (mvT hZ (wd_74 hw)) (by decide) (backOf (W := W) hM hZ (wd_76 hw) (wd_4 hw) hf hl) q1 q3 (g := mkF m pc Ls (.ref b :: rest)) rfl hsz (Steps.refl _) (argsL := []) (rest := rest) (lenOf own_pd1 rfl) rfl (by show 2 * 0 + _ ≤ _; omega) (hb hby hd) (fun _ _ => ⟨rfl, eT, hc, hs⟩)
  dsimp only [Pt.U, Pt.locs, Pt.cells, Pt.slots] at X' e1 e2 e3 stp hQ
  subst e1 e2 e3
  exact own_trans stp (k v T' L' X' hQ)

def own_AL (Z : State) (h : Heap) (a : Addr) (v0 : Int32) (v1 : Value) : Prop := Exa Z h a "java/util/ArrayList" ∧ Fld Z h a "java/util/AbstractList" "modCount" "I" (.int v0) ∧ Fld Z h a "java/util/ArrayList" "elementData" "[Ljava/lang/Object;" v1
theorem own_AL.ext {Z : State} {h h' : Heap} {a : Addr} {v0 : Int32} {v1 : Value} (O : own_AL Z h a v0 v1) (X : Ext h h') : own_AL Z h' a v0 v1 := by
  obtain ⟨E, F0, F1⟩ := O
  exact ⟨E.ext X, F0.ext X, F1.ext X⟩
theorem own_AL.keep {Z : State} {h h' : Heap} {a : Addr} {v0 : Int32} {v1 : Value} (O : own_AL Z h a v0 v1) {ws : List Addr} (K : Keep h h' ws) (q : a ∉ ws) : own_AL Z h' a v0 v1 := by
  obtain ⟨E, F0, F1⟩ := O
  exact ⟨E.keep K, F0.keep K q, F1.keep K q⟩
theorem own_AL.other {Z : State} {h h' : Heap} {a : Addr} {v0 : Int32} {v1 : Value} (O : own_AL Z h a v0 v1) {b : Addr} {sl : Nat} {v : Value} (W : Wr h h' b sl v) (q : a ≠ b) : own_AL Z h' a v0 v1 := by
  obtain ⟨E, F0, F1⟩ := O
  exact ⟨E.wr W, F0.other W (Or.inl q), F1.other W (Or.inl q)⟩
theorem own_AL.lt {Z : State} {h : Heap} {a : Addr} {v0 : Int32} {v1 : Value} (O : own_AL Z h a v0 v1) : a < h.size := by
  obtain ⟨E, F0, F1⟩ := O
  exact E.lt
def own_BD (Z : State) (h : Heap) (a : Addr) (v0 : Value) (v1 : Int64) (v2 : Int32) (v3 : Int64) (v4 : Int32) (v5 : Int32) (v6 : Int64) (v7 : Int32) : Prop := Exa Z h a "com/example/inflight/inflight/log/StoredMessages$Builder" ∧ Fld Z h a "com/example/inflight/inflight/log/StoredMessages$Builder" "runs" "Ljava/util/List;" v0 ∧ Fld Z h a "com/example/inflight/inflight/log/StoredMessages$Builder" "fromOffset" "J" (.long v1) ∧ Fld Z h a "com/example/inflight/inflight/log/StoredMessages$Builder" "maxMessages" "I" (.int v2) ∧ Fld Z h a "com/example/inflight/inflight/log/StoredMessages$Builder" "maxBytes" "J" (.long v3) ∧ Fld Z h a "com/example/inflight/inflight/log/StoredMessages$Builder" "bytesPerMessage" "I" (.int v4) ∧ Fld Z h a "com/example/inflight/inflight/log/StoredMessages$Builder" "taken" "I" (.int v5) ∧ Fld Z h a "com/example/inflight/inflight/log/StoredMessages$Builder" "takenBytes" "J" (.long v6) ∧ Fld Z h a "com/example/inflight/inflight/log/StoredMessages$Builder" "stopped" "Z" (.int v7)
theorem own_BD.ext {Z : State} {h h' : Heap} {a : Addr} {v0 : Value} {v1 : Int64} {v2 : Int32} {v3 : Int64} {v4 : Int32} {v5 : Int32} {v6 : Int64} {v7 : Int32} (O : own_BD Z h a v0 v1 v2 v3 v4 v5 v6 v7) (X : Ext h h') : own_BD Z h' a v0 v1 v2 v3 v4 v5 v6 v7 := by
  obtain ⟨E, F0, F1, F2, F3, F4, F5, F6, F7⟩ := O
  exact ⟨E.ext X, F0.ext X, F1.ext X, F2.ext X, F3.ext X, F4.ext X, F5.ext X, F6.ext X, F7.ext X⟩
theorem own_BD.keep {Z : State} {h h' : Heap} {a : Addr} {v0 : Value} {v1 : Int64} {v2 : Int32} {v3 : Int64} {v4 : Int32} {v5 : Int32} {v6 : Int64} {v7 : Int32} (O : own_BD Z h a v0 v1 v2 v3 v4 v5 v6 v7) {ws : List Addr} (K : Keep h h' ws) (q : a ∉ ws) : own_BD Z h' a v0 v1 v2 v3 v4 v5 v6 v7 := by
  obtain ⟨E, F0, F1, F2, F3, F4, F5, F6, F7⟩ := O
  exact ⟨E.keep K, F0.keep K q, F1.keep K q, F2.keep K q, F3.keep K q, F4.keep K q, F5.keep K q, F6.keep K q, F7.keep K q⟩
theorem own_BD.other {Z : State} {h h' : Heap} {a : Addr} {v0 : Value} {v1 : Int64} {v2 : Int32} {v3 : Int64} {v4 : Int32} {v5 : Int32} {v6 : Int64} {v7 : Int32} (O : own_BD Z h a v0 v1 v2 v3 v4 v5 v6 v7) {b : Addr} {sl : Nat} {v : Value} (W : Wr h h' b sl v) (q : a ≠ b) : own_BD Z h' a v0 v1 v2 v3 v4 v5 v6 v7 := by
  obtain ⟨E, F0, F1, F2, F3, F4, F5, F6, F7⟩ := O
  exact ⟨E.wr W, F0.other W (Or.inl q), F1.other W (Or.inl q), F2.other W (Or.inl q), F3.other W (Or.inl q), F4.other W (Or.inl q), F5.other W (Or.inl q), F6.other W (Or.inl q), F7.other W (Or.inl q)⟩
theorem own_BD.lt {Z : State} {h : Heap} {a : Addr} {v0 : Value} {v1 : Int64} {v2 : Int32} {v3 : Int64} {v4 : Int32} {v5 : Int32} {v6 : Int64} {v7 : Int32} (O : own_BD Z h a v0 v1 v2 v3 v4 v5 v6 v7) : a < h.size := by
  obtain ⟨E, F0, F1, F2, F3, F4, F5, F6, F7⟩ := O
  exact E.lt
def own_wm (st tk mx : Int32) : Int32 := if st = 0 then (if tk < mx then 1 else 0) else 0
def own_not (x : Int32) : Int32 := if x = 0 then 1 else 0
theorem own_and3 (x : Int32) : x &&& 3 = 0 ∨ x &&& 3 = 1 ∨ x &&& 3 = 2 ∨ x &&& 3 = 3 := by
  have h := c_mask x 3 2 (by decide) (by decide)
  have e : ∀ k : Int32, (x &&& 3).toInt = k.toInt → x &&& 3 = k := fun k q => Int32.toInt_inj.mp q
  have h0 : (0 : Int32).toInt = 0 := rfl
  have h1 : (1 : Int32).toInt = 1 := rfl
  have h2 : (2 : Int32).toInt = 2 := rfl
  have h3 : (3 : Int32).toInt = 3 := rfl
  have : (x &&& 3).toInt = 0 ∨ (x &&& 3).toInt = 1 ∨ (x &&& 3).toInt = 2 ∨ (x &&& 3).toInt = 3 := by omega
  rcases this with q | q | q | q
  · exact Or.inl (e 0 q)
  · exact Or.inr (Or.inl (e 1 q))
  · exact Or.inr (Or.inr (Or.inl (e 2 q)))
  · exact Or.inr (Or.inr (Or.inr (e 3 q)))

theorem own_ef_rm5 (m : MethodId) (a : Addr)  : entryFrame m #[(.ref a)] 1 = mkF m 0 #[.val (.ref a)] [] := by first | (simp [entryFrame, mkF, argsToLocals, Value.category]; done) | rfl
def Q5 (Z : State) (a : Addr) (h0 : Heap) (n0 : Nat) (v : Option Value) (h : Heap) (L : List Loc) : Prop := v = none ∧ Fr n0 L ∧ h = h0
set_option maxRecDepth 65536 in
set_option maxHeartbeats 40000000 in
theorem rm5 (l : Launch) (Z : State) (a0 : Array Value) (hw : ∀ d ∈ tables_1, d.before a0 Z = true) (ws : List Jvm.Cond) (a : Addr) (h0 : Heap) (n0 : Nat) (Z0 : n0 ≤ h0.size)  :
    MetFree l (⟨"java/util/AbstractCollection", "<init>", "()V"⟩ : MethodName) (head1 (Jvm.Cond.code (⟨"java/util/AbstractCollection", "<init>", "()V"⟩ : MethodName) jdk_22_method_1_code 1 none :: ws) ({ frames := 1, cells := 0, slots := 0, locals := 12 } : Room)) (fun aa U => aa = #[(.ref a)] ∧ Z.Warmed39 U.vm ∧ U.heap = h0) (fun _ _ _ _ _ => True) (fun _ U oc U' => ∃ v L, oc = .returned v ∧ Q5 Z a h0 n0 v U'.heap L ∧ FrameEnd U oc U' L ({ frames := 1, cells := 0, slots := 0, locals := 12 } : Room).cells ({ frames := 1, cells := 0, slots := 0, locals := 12 } : Room).slots) := by
  refine MetFree.of_bodySF (plainFor_of_name own_pn0) hisR ?_
  intro p e s m args below meth c s₁ Bd hml0 hP hK
  obtain ⟨rfl, hZ, hh⟩ := hP
  have hx := Bd.exec
  have hby := Bd.bytes
  have hlk := Bd.notSynchronized
  have hret := Bd.returns
  have hml : c.maxLocals = 1 := hml0
  have hown : s.vm.findClass "java/util/AbstractCollection" = some m.cls := findClass_of_methodNamed Bd.named
  have hnm := (name_of_methodNamed Bd.named Bd.method).1
  have X0 : Stand p l e ({ frames := 1, cells := 0, slots := 0, locals := 12 } : Room) s m #[(.ref a)] below meth c s₁ [] 0 0 := Stand.of_body Bd
  have e0 : s₁.heap = h0 := by rw [← hh, Bd.state]; rfl
  have N0 := Fr.nil n0
  refine own_body (Q := Q5 Z a h0 n0) (KC := ({ frames := 1, cells := 0, slots := 0, locals := 12 } : Room).cells) (KS := ({ frames := 1, cells := 0, slots := 0, locals := 12 } : Room).slots) ?_
  rw [own_ef_rm5 m a]
  refine own_aloadN X0 hx hby d5_0 (pc' := 1) rfl rfl rfl ?_
  refine own_init X0 hx hZ hby hown (wd_29 hw) (wd_9 hw) (wd_10 hw) e0 (by rw [hml]; rfl) d5_1 (pc' := 4) rfl (by decide) (W := 0) (Nat.le_of_eq rfl) (by decide) (fun T1 X1 e1 => ?_)
  refine own_return X1 hx hlk hby hret d5_4 (own_lv ?_ (by decide) (by decide))
  show Q5 Z a  h0 n0 none T1.heap _
  rw [e1]
  exact ⟨rfl, N0, rfl⟩
theorem own_ef_rm4 (m : MethodId) (a : Addr)  : entryFrame m #[(.ref a)] 1 = mkF m 0 #[.val (.ref a)] [] := by first | (simp [entryFrame, mkF, argsToLocals, Value.category]; done) | rfl
def Q4 (Z : State) (a : Addr) (mc : Int32) (w : Value) (hw' : w.isRef = true) (h0 : Heap) (n0 : Nat) (v : Option Value) (h : Heap) (L : List Loc) : Prop := v = none ∧ Fr n0 L ∧ Keep h0 h [a] ∧ own_AL Z h a 0 w
set_option maxRecDepth 65536 in
set_option maxHeartbeats 40000000 in
theorem rm4 (l : Launch) (Z : State) (a0 : Array Value) (hw : ∀ d ∈ tables_1, d.before a0 Z = true) (ws : List Jvm.Cond) (a : Addr) (mc : Int32) (w : Value) (hw' : w.isRef = true) (h0 : Heap) (n0 : Nat) (Z0 : n0 ≤ h0.size) (f_O_a : own_AL Z h0 a mc w) (ge_a : n0 ≤ a) :
    MetFree l (⟨"java/util/AbstractList", "<init>", "()V"⟩ : MethodName) (head1 (Jvm.Cond.code (⟨"java/util/AbstractList", "<init>", "()V"⟩ : MethodName) jdk_39_method_1_code 1 none :: ws) ({ frames := 2, cells := 0, slots := 0, locals := 24 } : Room)) (fun aa U => aa = #[(.ref a)] ∧ Z.Warmed39 U.vm ∧ U.heap = h0) (fun _ _ _ _ _ => True) (fun _ U oc U' => ∃ v L, oc = .returned v ∧ Q4 Z a mc w hw' h0 n0 v U'.heap L ∧ FrameEnd U oc U' L ({ frames := 2, cells := 0, slots := 0, locals := 24 } : Room).cells ({ frames := 2, cells := 0, slots := 0, locals := 24 } : Room).slots) := by
  refine MetFree.of_bodySF (plainFor_of_name own_pn2) hisR ?_
  intro p e s m args below meth c s₁ Bd hml0 hP hK
  obtain ⟨rfl, hZ, hh⟩ := hP
  have hx := Bd.exec
  have hby := Bd.bytes
  have hlk := Bd.notSynchronized
  have hret := Bd.returns
  have hml : c.maxLocals = 1 := hml0
  have hown : s.vm.findClass "java/util/AbstractList" = some m.cls := findClass_of_methodNamed Bd.named
  have hnm := (name_of_methodNamed Bd.named Bd.method).1
  have X0 : Stand p l e ({ frames := 2, cells := 0, slots := 0, locals := 24 } : Room) s m #[(.ref a)] below meth c s₁ [] 0 0 := Stand.of_body Bd
  have e0 : s₁.heap = h0 := by rw [← hh, Bd.state]; rfl
  have N0 := Fr.nil n0
  refine own_body (Q := Q4 Z a mc w hw' h0 n0) (KC := ({ frames := 2, cells := 0, slots := 0, locals := 24 } : Room).cells) (KS := ({ frames := 2, cells := 0, slots := 0, locals := 24 } : Room).slots) ?_
  rw [own_ef_rm4 m a]
  have Kp : Keep h0 h0 [a] := Keep.refl h0 _
  refine own_aloadN X0 hx hby d4_0 (pc' := 1) rfl rfl rfl ?_
  refine own_lk0 hw X0 hx hZ hby (by rw [hml]; rfl) hown d4_1 (pc' := 4) rfl e0 (W := 0) (Nat.le_of_eq rfl) (rm5 l Z a0 hw [] a h0 n0 Z0 ) (by decide) (by decide) (by decide) (by decide) (fun v1 T1 L1 X1 hQ1 => ?_)
  obtain ⟨rfl, Nq1, e1⟩ := hQ1
  have N1 := Fr.app N0 Nq1
  show own_End p e below _ (T1.setTop (mkF m 4 _ []))
  refine own_aloadN X1 hx hby d4_4 (pc' := 5) rfl rfl rfl ?_
  refine own_iconst X1 hx hby d4_5 (pc' := 6) rfl (n := (0 : Int32)) (by decide) ?_
  obtain ⟨f_E_a, f_F_a_modCount, f_F_a_elementData⟩ := f_O_a
  refine own_putF X1 hx hZ hby hown (host := "") (Or.inl (wd_30 hw)) Via.refl e1 f_F_a_modCount f_E_a (Or.inl (wd_31 hw)) (wd_12 hw) (ty := .int) (by decide) rfl rfl d4_6 (pc' := 9) rfl (fun T2 h2 X2 e2 W2 => ?_)
  have f_F_a_modCount := f_F_a_modCount.same W2
  have f_E_a := f_E_a.wr W2
  have f_F_a_elementData := f_F_a_elementData.other W2 (Or.inr (slot_ne (Or.inl (wd_35 hw)) (Or.inl (wd_31 hw)) (by decide) (t := (.array (.object "java/lang/Object"))) (t' := .int) (by decide) (by decide)))
  have Zn := Nat.le_trans Z0 (Keep.of_wr W2).1
  have Kp := Kp.wr W2 (Or.inl (List.mem_of_getElem? (i := 0) rfl))
  have N2 := Fr.snoc X2 N1 ge_a
  refine own_return X2 hx hlk hby hret d4_9 (own_lv ?_ (by decide) (by decide))
  show Q4 Z a mc w hw'  h0 n0 none T2.heap _
  rw [e2]
  exact ⟨rfl, N2, Kp, ⟨f_E_a, f_F_a_modCount, f_F_a_elementData⟩⟩
theorem own_ef_rm3 (m : MethodId) (a : Addr)  : entryFrame m #[(.ref a), (.int (1 : Int32))] 2 = mkF m 0 #[.val (.ref a), .val (.int (1 : Int32))] [] := by first | (simp [entryFrame, mkF, argsToLocals, Value.category]; done) | rfl
def Q3 (Z : State) (a : Addr) (h0 : Heap) (n0 : Nat) (v : Option Value) (h : Heap) (L : List Loc) : Prop := v = none ∧ Fr n0 L ∧ Keep h0 h [a]
set_option maxRecDepth 65536 in
set_option maxHeartbeats 40000000 in
theorem rm3 (l : Launch) (Z : State) (a0 : Array Value) (hw : ∀ d ∈ tables_1, d.before a0 Z = true) (ws : List Jvm.Cond) (a : Addr) (h0 : Heap) (n0 : Nat) (Z0 : n0 ≤ h0.size) (f_O_a : own_AL Z h0 a (0 : Int32) .null) (ge_a : n0 ≤ a) :
    MetFree l (⟨"java/util/ArrayList", "<init>", "(I)V"⟩ : MethodName) (head1 (Jvm.Cond.code (⟨"java/util/ArrayList", "<init>", "(I)V"⟩ : MethodName) jdk_38_method_1_code 2 none :: ws) ({ frames := 3, cells := 1, slots := 1, locals := 36 } : Room)) (fun aa U => aa = #[(.ref a), (.int (1 : Int32))] ∧ Z.Warmed39 U.vm ∧ U.heap = h0) (fun _ _ _ _ _ => True) (fun _ U oc U' => ∃ v L, oc = .returned v ∧ Q3 Z a h0 n0 v U'.heap L ∧ FrameEnd U oc U' L ({ frames := 3, cells := 1, slots := 1, locals := 36 } : Room).cells ({ frames := 3, cells := 1, slots := 1, locals := 36 } : Room).slots) := by
  refine MetFree.of_bodySF (plainFor_of_name own_pn3) hisR ?_
  intro p e s m args below meth c s₁ Bd hml0 hP hK
  obtain ⟨rfl, hZ, hh⟩ := hP
  have hx := Bd.exec
  have hby := Bd.bytes
  have hlk := Bd.notSynchronized
  have hret := Bd.returns
  have hml : c.maxLocals = 2 := hml0
  have hown : s.vm.findClass "java/util/ArrayList" = some m.cls := findClass_of_methodNamed Bd.named
  have hnm := (name_of_methodNamed Bd.named Bd.method).1
  have X0 : Stand p l e ({ frames := 3, cells := 1, slots := 1, locals := 36 } : Room) s m #[(.ref a), (.int (1 : Int32))] below meth c s₁ [] 0 0 := Stand.of_body Bd
  have e0 : s₁.heap = h0 := by rw [← hh, Bd.state]; rfl
  have N0 := Fr.nil n0
  refine own_body (Q := Q3 Z a h0 n0) (KC := ({ frames := 3, cells := 1, slots := 1, locals := 36 } : Room).cells) (KS := ({ frames := 3, cells := 1, slots := 1, locals := 36 } : Room).slots) ?_
  rw [own_ef_rm3 m a]
  have Kp : Keep h0 h0 [a] := Keep.refl h0 _
  refine own_aloadN X0 hx hby d3_0 (pc' := 1) rfl rfl rfl ?_
  refine own_lk1 hw X0 hx hZ hby (by rw [hml]; rfl) hown d3_1 (pc' := 4) rfl e0 (W := 0) (Nat.le_of_eq rfl) (rm4 l Z a0 hw [] a (0 : Int32) .null rfl h0 n0 Z0 f_O_a ge_a) (by decide) (by decide) (by decide) (by decide) (fun v1 T1 L1 X1 hQ1 => ?_)
  obtain ⟨rfl, Nq1, K1, O1⟩ := hQ1
  have N1 := Fr.app N0 Nq1
  have Zn := Nat.le_trans Z0 K1.1
  have Kp := Kp.trans K1 (allS (Or.inl (List.mem_of_getElem? (i := 0) rfl)) all0)
  show own_End p e below _ (T1.setTop (mkF m 4 _ []))
  refine own_iloadN X1 hx hby d3_4 (pc' := 5) rfl rfl ?_
  refine own_ifN X1 hx hby d3_5 (pc' := 8) rfl (show (0 : Int32) < (1 : Int32) by decide) ?_
  refine own_aloadN X1 hx hby d3_8 (pc' := 9) rfl rfl rfl ?_
  refine own_iloadN X1 hx hby d3_9 (pc' := 10) rfl rfl ?_
  refine own_newR X1 hx hZ hby hown (wd_32 hw) (wd_33 hw) rfl d3_10 (pc' := 13) rfl (by decide) (cap := 1) (by decide) (by decide) (by decide) (by decide) (fun T2 h2 k2 b2 g2 X2 e2 E2 A2 O2 => ?_)
  have ne_a_b2 : a ≠ b2 := Nat.ne_of_lt (by rw [g2]; exact O1.lt)
  have ge_b2 : n0 ≤ b2 := by rw [g2]; exact Zn
  have sz_b2 : h0.size ≤ b2 := by rw [g2]; exact Kp.1
  have O1 := O1.ext E2
  have Zn := Nat.le_trans Zn E2.1
  have Kp := Kp.ext E2
  have f_V_b2 : Arv Z h2 b2 k2 (.object "java/lang/Object") (1 : Int32) [.null] .null := (Arv.new A2 (by decide)).pad (pad_rep [] .null 1)
  obtain ⟨f_E_a, f_F_a_modCount, f_F_a_elementData⟩ := O1
  refine own_putF X2 hx hZ hby hown (host := "") (Or.inl (wd_34 hw)) Via.refl e2 f_F_a_elementData f_E_a (Or.inl (wd_35 hw)) (wd_12 hw) (ty := (.array (.object "java/lang/Object"))) (by decide) rfl rfl d3_13 (pc' := 16) rfl (fun T3 h3 X3 e3 W3 => ?_)
  have f_F_a_elementData := f_F_a_elementData.same W3
  have f_V_b2 := f_V_b2.other W3 (Ne.symm ne_a_b2)
  have f_E_a := f_E_a.wr W3
  have f_F_a_modCount := f_F_a_modCount.other W3 (Or.inr (slot_ne (Or.inl (wd_31 hw)) (Or.inl (wd_35 hw)) (by decide) (t := .int) (t' := (.array (.object "java/lang/Object"))) (by decide) (by decide)))
  have Zn := Nat.le_trans Zn (Keep.of_wr W3).1
  have Kp := Kp.wr W3 (Or.inl (List.mem_of_getElem? (i := 0) rfl))
  have N3 := Fr.snoc X3 N1 ge_a
  refine own_goto X3 hx hby d3_16 (pc' := 60) (by decide) (by decide) ?_
  refine own_return X3 hx hlk hby hret d3_60 (own_lv ?_ (by decide) (by decide))
  show Q3 Z a  h0 n0 none T3.heap _
  rw [e3]
  exact ⟨rfl, N3, Kp⟩
theorem own_ef_rm1 (m : MethodId) (a : Addr) (p1 : Int64) (p2 : Int32) (p3 : Int64) (p4 : Int32)  : entryFrame m #[(.ref a), (.long p1), (.int p2), (.long p3), (.int p4)] 7 = mkF m 0 #[.val (.ref a), .val (.long p1), .second, .val (.int p2), .val (.long p3), .second, .val (.int p4)] [] := by first | (simp [entryFrame, mkF, argsToLocals, Value.category]; done) | rfl
def Q1 (Z : State) (a : Addr) (p1 : Int64) (p2 : Int32) (p3 : Int64) (p4 : Int32) (h0 : Heap) (n0 : Nat) (v : Option Value) (h : Heap) (L : List Loc) : Prop := v = none ∧ Fr n0 L ∧ Keep h0 h [a] ∧ ∃ r : Addr, own_BD Z h a (.ref r) p1 p2 p3 p4 0 0 0
set_option maxRecDepth 65536 in
set_option maxHeartbeats 40000000 in
theorem rm1 (l : Launch) (Z : State) (a0 : Array Value) (hw : ∀ d ∈ tables_1, d.before a0 Z = true) (ws : List Jvm.Cond) (a : Addr) (p1 : Int64) (p2 : Int32) (p3 : Int64) (p4 : Int32) (h0 : Heap) (n0 : Nat) (Z0 : n0 ≤ h0.size) (f_O_a : own_BD Z h0 a .null (0 : Int64) (0 : Int32) (0 : Int64) (0 : Int32) (0 : Int32) (0 : Int64) (0 : Int32)) (ge_a : n0 ≤ a) :
    MetFree l (⟨"com/example/inflight/inflight/log/StoredMessages$Builder", "<init>", "(JIJI)V"⟩ : MethodName) (head1 (Jvm.Cond.code (⟨"com/example/inflight/inflight/log/StoredMessages$Builder", "<init>", "(JIJI)V"⟩ : MethodName) prog_71_method_1_code 7 none :: ws) ({ frames := 4, cells := 2, slots := 4, locals := 51 } : Room)) (fun aa U => aa = #[(.ref a), (.long p1), (.int p2), (.long p3), (.int p4)] ∧ Z.Warmed39 U.vm ∧ U.heap = h0) (fun _ _ _ _ _ => True) (fun _ U oc U' => ∃ v L, oc = .returned v ∧ Q1 Z a p1 p2 p3 p4 h0 n0 v U'.heap L ∧ FrameEnd U oc U' L ({ frames := 4, cells := 2, slots := 4, locals := 51 } : Room).cells ({ frames := 4, cells := 2, slots := 4, locals := 51 } : Room).slots) := by
  refine MetFree.of_bodySF (plainFor_of_name own_pn5) hisR ?_
  intro p e s m args below meth c s₁ Bd hml0 hP hK
  obtain ⟨rfl, hZ, hh⟩ := hP
  have hx := Bd.exec
  have hby := Bd.bytes
  have hlk := Bd.notSynchronized
  have hret := Bd.returns
  have hml : c.maxLocals = 7 := hml0
  have hown : s.vm.findClass "com/example/inflight/inflight/log/StoredMessages$Builder" = some m.cls := findClass_of_methodNamed Bd.named
  have hnm := (name_of_methodNamed Bd.named Bd.method).1
  have X0 : Stand p l e ({ frames := 4, cells := 2, slots := 4, locals := 51 } : Room) s m #[(.ref a), (.long p1), (.int p2), (.long p3), (.int p4)] below meth c s₁ [] 0 0 := Stand.of_body Bd
  have e0 : s₁.heap = h0 := by rw [← hh, Bd.state]; rfl
  have N0 := Fr.nil n0
  refine own_body (Q := Q1 Z a p1 p2 p3 p4 h0 n0) (KC := ({ frames := 4, cells := 2, slots := 4, locals := 51 } : Room).cells) (KS := ({ frames := 4, cells := 2, slots := 4, locals := 51 } : Room).slots) ?_
  rw [own_ef_rm1 m a p1 p2 p3 p4]
  have Kp : Keep h0 h0 [a] := Keep.refl h0 _
  refine own_aloadN X0 hx hby d1_0 (pc' := 1) rfl rfl rfl ?_
  refine own_init X0 hx hZ hby hown (wd_8 hw) (wd_9 hw) (wd_10 hw) e0 (by rw [hml]; rfl) d1_1 (pc' := 4) rfl (by decide) (W := 0) (Nat.le_of_eq rfl) (by decide) (fun T1 X1 e1 => ?_)
  refine own_aloadN X1 hx hby d1_4 (pc' := 5) rfl rfl rfl ?_
  refine own_new X1 hx hZ hby hown (wd_11 hw) (wd_12 hw) (wd_13 hw) e1 d1_5 (pc' := 8) rfl (by decide) (by decide) (fun T2 h2 b2 g2 X2 e2 E2 A2 D2 => ?_)
  have ne_a_b2 : a ≠ b2 := Nat.ne_of_lt (by rw [g2]; exact f_O_a.lt)
  have ge_b2 : n0 ≤ b2 := by rw [g2]; exact Z0
  have sz_b2 : h0.size ≤ b2 := by rw [g2]; exact Kp.1
  have f_O_a := f_O_a.ext E2
  have Zn := Nat.le_trans Z0 E2.1
  have Kp := Kp.ext E2
  have f_O_b2 : own_AL Z h2 b2 (0 : Int32) .null := ⟨A2, D2 (Or.inl (wd_31 hw)) (ty := .int) (by decide), D2 (Or.inl (wd_35 hw)) (ty := (.array (.object "java/lang/Object"))) (by decide)⟩
  refine own_dup X2 hx hby d1_8 (pc' := 9) rfl rfl ?_
  refine own_iconst X2 hx hby d1_9 (pc' := 10) rfl (n := (1 : Int32)) (by decide) ?_
  refine own_lk2 hw X2 hx hZ hby (by rw [hml]; rfl) hown d1_10 (pc' := 13) rfl e2 (W := 2) (Nat.le_of_eq rfl) (rm3 l Z a0 hw [] b2 h2 n0 Zn f_O_b2 ge_b2) (by decide) (by decide) (by decide) (by decide) (fun v3 T3 L3 X3 hQ3 => ?_)
  obtain ⟨rfl, Nq3, K3⟩ := hQ3
  have N3 := Fr.app N0 Nq3
  have f_O_a := f_O_a.keep K3 (ninS ne_a_b2 nin0)
  have Zn := Nat.le_trans Zn K3.1
  have Kp := Kp.trans K3 (allS (Or.inr sz_b2) all0)
  show own_End p e below _ (T3.setTop (mkF m 13 _ [(.ref b2), (.ref a)]))
  obtain ⟨f_E_a, f_F_a_runs, f_F_a_fromOffset, f_F_a_maxMessages, f_F_a_maxBytes, f_F_a_bytesPerMessage, f_F_a_taken, f_F_a_takenBytes, f_F_a_stopped⟩ := f_O_a
  refine own_putF X3 hx hZ hby hown (host := "") (Or.inl (wd_36 hw)) Via.refl rfl f_F_a_runs f_E_a (Or.inr ⟨(wd_37 hw), rfl, hnm⟩) (wd_3 hw) (ty := (.object "java/util/List")) (by decide) rfl rfl d1_13 (pc' := 16) rfl (fun T4 h4 X4 e4 W4 => ?_)
  have f_F_a_runs := f_F_a_runs.same W4
  have f_E_a := f_E_a.wr W4
  have f_F_a_fromOffset := f_F_a_fromOffset.other W4 (Or.inr (slot_ne (Or.inr (wd_39 hw)) (Or.inr (wd_37 hw)) (by decide) (t := .long) (t' := (.object "java/util/List")) (by decide) (by decide)))
  have f_F_a_maxMessages := f_F_a_maxMessages.other W4 (Or.inr (slot_ne (Or.inr (wd_41 hw)) (Or.inr (wd_37 hw)) (by decide) (t := .int) (t' := (.object "java/util/List")) (by decide) (by decide)))
  have f_F_a_maxBytes := f_F_a_maxBytes.other W4 (Or.inr (slot_ne (Or.inr (wd_43 hw)) (Or.inr (wd_37 hw)) (by decide) (t := .long) (t' := (.object "java/util/List")) (by decide) (by decide)))
  have f_F_a_bytesPerMessage := f_F_a_bytesPerMessage.other W4 (Or.inr (slot_ne (Or.inr (wd_45 hw)) (Or.inr (wd_37 hw)) (by decide) (t := .int) (t' := (.object "java/util/List")) (by decide) (by decide)))
  have f_F_a_taken := f_F_a_taken.other W4 (Or.inr (slot_ne (Or.inl (wd_52 hw)) (Or.inr (wd_37 hw)) (by decide) (t := .int) (t' := (.object "java/util/List")) (by decide) (by decide)))
  have f_F_a_takenBytes := f_F_a_takenBytes.other W4 (Or.inr (slot_ne (Or.inl (wd_71 hw)) (Or.inr (wd_37 hw)) (by decide) (t := .long) (t' := (.object "java/util/List")) (by decide) (by decide)))
  have f_F_a_stopped := f_F_a_stopped.other W4 (Or.inr (slot_ne (Or.inl (wd_54 hw)) (Or.inr (wd_37 hw)) (by decide) (t := .boolean) (t' := (.object "java/util/List")) (by decide) (by decide)))
  have Zn := Nat.le_trans Zn (Keep.of_wr W4).1
  have Kp := Kp.wr W4 (Or.inl (List.mem_of_getElem? (i := 0) rfl))
  have N4 := Fr.snoc X4 N3 ge_a
  refine own_aloadN X4 hx hby d1_16 (pc' := 17) rfl rfl rfl ?_
  refine own_lloadN X4 hx hby d1_17 (pc' := 18) rfl rfl ?_
  refine own_putF X4 hx hZ hby hown (host := "") (Or.inl (wd_38 hw)) Via.refl e4 f_F_a_fromOffset f_E_a (Or.inr ⟨(wd_39 hw), rfl, hnm⟩) (wd_3 hw) (ty := .long) (by decide) rfl rfl d1_18 (pc' := 21) rfl (fun T5 h5 X5 e5 W5 => ?_)
  have f_F_a_fromOffset := f_F_a_fromOffset.same W5
  have f_E_a := f_E_a.wr W5
  have f_F_a_runs := f_F_a_runs.other W5 (Or.inr (slot_ne (Or.inr (wd_37 hw)) (Or.inr (wd_39 hw)) (by decide) (t := (.object "java/util/List")) (t' := .long) (by decide) (by decide)))
  have f_F_a_maxMessages := f_F_a_maxMessages.other W5 (Or.inr (slot_ne (Or.inr (wd_41 hw)) (Or.inr (wd_39 hw)) (by decide) (t := .int) (t' := .long) (by decide) (by decide)))
  have f_F_a_maxBytes := f_F_a_maxBytes.other W5 (Or.inr (slot_ne (Or.inr (wd_43 hw)) (Or.inr (wd_39 hw)) (by decide) (t := .long) (t' := .long) (by decide) (by decide)))
  have f_F_a_bytesPerMessage := f_F_a_bytesPerMessage.other W5 (Or.inr (slot_ne (Or.inr (wd_45 hw)) (Or.inr (wd_39 hw)) (by decide) (t := .int) (t' := .long) (by decide) (by decide)))
  have f_F_a_taken := f_F_a_taken.other W5 (Or.inr (slot_ne (Or.inl (wd_52 hw)) (Or.inr (wd_39 hw)) (by decide) (t := .int) (t' := .long) (by decide) (by decide)))
  have f_F_a_takenBytes := f_F_a_takenBytes.other W5 (Or.inr (slot_ne (Or.inl (wd_71 hw)) (Or.inr (wd_39 hw)) (by decide) (t := .long) (t' := .long) (by decide) (by decide)))
  have f_F_a_stopped := f_F_a_stopped.other W5 (Or.inr (slot_ne (Or.inl (wd_54 hw)) (Or.inr (wd_39 hw)) (by decide) (t := .boolean) (t' := .long) (by decide) (by decide)))
  have Zn := Nat.le_trans Zn (Keep.of_wr W5).1
  have Kp := Kp.wr W5 (Or.inl (List.mem_of_getElem? (i := 0) rfl))
  have N5 := Fr.snoc X5 N4 ge_a
  refine own_aloadN X5 hx hby d1_21 (pc' := 22) rfl rfl rfl ?_
  refine own_iloadN X5 hx hby d1_22 (pc' := 23) rfl rfl ?_
  refine own_putF X5 hx hZ hby hown (host := "") (Or.inl (wd_40 hw)) Via.refl e5 f_F_a_maxMessages f_E_a (Or.inr ⟨(wd_41 hw), rfl, hnm⟩) (wd_3 hw) (ty := .int) (by decide) rfl rfl d1_23 (pc' := 26) rfl (fun T6 h6 X6 e6 W6 => ?_)
  have f_F_a_maxMessages := f_F_a_maxMessages.same W6
  have f_E_a := f_E_a.wr W6
  have f_F_a_runs := f_F_a_runs.other W6 (Or.inr (slot_ne (Or.inr (wd_37 hw)) (Or.inr (wd_41 hw)) (by decide) (t := (.object "java/util/List")) (t' := .int) (by decide) (by decide)))
  have f_F_a_fromOffset := f_F_a_fromOffset.other W6 (Or.inr (slot_ne (Or.inr (wd_39 hw)) (Or.inr (wd_41 hw)) (by decide) (t := .long) (t' := .int) (by decide) (by decide)))
  have f_F_a_maxBytes := f_F_a_maxBytes.other W6 (Or.inr (slot_ne (Or.inr (wd_43 hw)) (Or.inr (wd_41 hw)) (by decide) (t := .long) (t' := .int) (by decide) (by decide)))
  have f_F_a_bytesPerMessage := f_F_a_bytesPerMessage.other W6 (Or.inr (slot_ne (Or.inr (wd_45 hw)) (Or.inr (wd_41 hw)) (by decide) (t := .int) (t' := .int) (by decide) (by decide)))
  have f_F_a_taken := f_F_a_taken.other W6 (Or.inr (slot_ne (Or.inl (wd_52 hw)) (Or.inr (wd_41 hw)) (by decide) (t := .int) (t' := .int) (by decide) (by decide)))
  have f_F_a_takenBytes := f_F_a_takenBytes.other W6 (Or.inr (slot_ne (Or.inl (wd_71 hw)) (Or.inr (wd_41 hw)) (by decide) (t := .long) (t' := .int) (by decide) (by decide)))
  have f_F_a_stopped := f_F_a_stopped.other W6 (Or.inr (slot_ne (Or.inl (wd_54 hw)) (Or.inr (wd_41 hw)) (by decide) (t := .boolean) (t' := .int) (by decide) (by decide)))
  have Zn := Nat.le_trans Zn (Keep.of_wr W6).1
  have Kp := Kp.wr W6 (Or.inl (List.mem_of_getElem? (i := 0) rfl))
  have N6 := Fr.snoc X6 N5 ge_a
  refine own_aloadN X6 hx hby d1_26 (pc' := 27) rfl rfl rfl ?_
  refine own_lload X6 hx hby d1_27 (pc' := 29) rfl rfl ?_
  refine own_putF X6 hx hZ hby hown (host := "") (Or.inl (wd_42 hw)) Via.refl e6 f_F_a_maxBytes f_E_a (Or.inr ⟨(wd_43 hw), rfl, hnm⟩) (wd_3 hw) (ty := .long) (by decide) rfl rfl d1_29 (pc' := 32) rfl (fun T7 h7 X7 e7 W7 => ?_)
  have f_F_a_maxBytes := f_F_a_maxBytes.same W7
  have f_E_a := f_E_a.wr W7
  have f_F_a_runs := f_F_a_runs.other W7 (Or.inr (slot_ne (Or.inr (wd_37 hw)) (Or.inr (wd_43 hw)) (by decide) (t := (.object "java/util/List")) (t' := .long) (by decide) (by decide)))
  have f_F_a_fromOffset := f_F_a_fromOffset.other W7 (Or.inr (slot_ne (Or.inr (wd_39 hw)) (Or.inr (wd_43 hw)) (by decide) (t := .long) (t' := .long) (by decide) (by decide)))
  have f_F_a_maxMessages := f_F_a_maxMessages.other W7 (Or.inr (slot_ne (Or.inr (wd_41 hw)) (Or.inr (wd_43 hw)) (by decide) (t := .int) (t' := .long) (by decide) (by decide)))
  have f_F_a_bytesPerMessage := f_F_a_bytesPerMessage.other W7 (Or.inr (slot_ne (Or.inr (wd_45 hw)) (Or.inr (wd_43 hw)) (by decide) (t := .int) (t' := .long) (by decide) (by decide)))
  have f_F_a_taken := f_F_a_taken.other W7 (Or.inr (slot_ne (Or.inl (wd_52 hw)) (Or.inr (wd_43 hw)) (by decide) (t := .int) (t' := .long) (by decide) (by decide)))
  have f_F_a_takenBytes := f_F_a_takenBytes.other W7 (Or.inr (slot_ne (Or.inl (wd_71 hw)) (Or.inr (wd_43 hw)) (by decide) (t := .long) (t' := .long) (by decide) (by decide)))
  have f_F_a_stopped := f_F_a_stopped.other W7 (Or.inr (slot_ne (Or.inl (wd_54 hw)) (Or.inr (wd_43 hw)) (by decide) (t := .boolean) (t' := .long) (by decide) (by decide)))
  have Zn := Nat.le_trans Zn (Keep.of_wr W7).1
  have Kp := Kp.wr W7 (Or.inl (List.mem_of_getElem? (i := 0) rfl))
  have N7 := Fr.snoc X7 N6 ge_a
  refine own_aloadN X7 hx hby d1_32 (pc' := 33) rfl rfl rfl ?_
  refine own_iload X7 hx hby d1_33 (pc' := 35) rfl rfl ?_
  refine own_putF X7 hx hZ hby hown (host := "") (Or.inl (wd_44 hw)) Via.refl e7 f_F_a_bytesPerMessage f_E_a (Or.inr ⟨(wd_45 hw), rfl, hnm⟩) (wd_3 hw) (ty := .int) (by decide) rfl rfl d1_35 (pc' := 38) rfl (fun T8 h8 X8 e8 W8 => ?_)
  have f_F_a_bytesPerMessage := f_F_a_bytesPerMessage.same W8
  have f_E_a := f_E_a.wr W8
  have f_F_a_runs := f_F_a_runs.other W8 (Or.inr (slot_ne (Or.inr (wd_37 hw)) (Or.inr (wd_45 hw)) (by decide) (t := (.object "java/util/List")) (t' := .int) (by decide) (by decide)))
  have f_F_a_fromOffset := f_F_a_fromOffset.other W8 (Or.inr (slot_ne (Or.inr (wd_39 hw)) (Or.inr (wd_45 hw)) (by decide) (t := .long) (t' := .int) (by decide) (by decide)))
  have f_F_a_maxMessages := f_F_a_maxMessages.other W8 (Or.inr (slot_ne (Or.inr (wd_41 hw)) (Or.inr (wd_45 hw)) (by decide) (t := .int) (t' := .int) (by decide) (by decide)))
  have f_F_a_maxBytes := f_F_a_maxBytes.other W8 (Or.inr (slot_ne (Or.inr (wd_43 hw)) (Or.inr (wd_45 hw)) (by decide) (t := .long) (t' := .int) (by decide) (by decide)))
  have f_F_a_taken := f_F_a_taken.other W8 (Or.inr (slot_ne (Or.inl (wd_52 hw)) (Or.inr (wd_45 hw)) (by decide) (t := .int) (t' := .int) (by decide) (by decide)))
  have f_F_a_takenBytes := f_F_a_takenBytes.other W8 (Or.inr (slot_ne (Or.inl (wd_71 hw)) (Or.inr (wd_45 hw)) (by decide) (t := .long) (t' := .int) (by decide) (by decide)))
  have f_F_a_stopped := f_F_a_stopped.other W8 (Or.inr (slot_ne (Or.inl (wd_54 hw)) (Or.inr (wd_45 hw)) (by decide) (t := .boolean) (t' := .int) (by decide) (by decide)))
  have Zn := Nat.le_trans Zn (Keep.of_wr W8).1
  have Kp := Kp.wr W8 (Or.inl (List.mem_of_getElem? (i := 0) rfl))
  have N8 := Fr.snoc X8 N7 ge_a
  refine own_return X8 hx hlk hby hret d1_38 (own_lv ?_ (by decide) (by decide))
  show Q1 Z a p1 p2 p3 p4  h0 n0 none T8.heap _
  rw [e8]
  exact ⟨rfl, N8, Kp, _, ⟨f_E_a, f_F_a_runs, f_F_a_fromOffset, f_F_a_maxMessages, f_F_a_maxBytes, f_F_a_bytesPerMessage, f_F_a_taken, f_F_a_takenBytes, f_F_a_stopped⟩⟩
theorem own_ef_rm6a (m : MethodId) (a : Addr) (g : Int64)  : entryFrame m #[(.ref a), (.long g)] 3 = mkF m 0 #[.val (.ref a), .val (.long g), .second] [] := by first | (simp [entryFrame, mkF, argsToLocals, Value.category]; done) | rfl
def Q6a (Z : State) (a : Addr) (g : Int64) (r : Addr) (fo : Int64) (mx : Int32) (mb : Int64) (bp : Int32) (t : Int32) (tb : Int64) (st : Int32) (h0 : Heap) (n0 : Nat) (v : Option Value) (h : Heap) (L : List Loc) : Prop := v = some (.int (own_not st)) ∧ Fr n0 L ∧ h = h0
set_option maxRecDepth 65536 in
set_option maxHeartbeats 40000000 in
theorem rm6a (l : Launch) (Z : State) (a0 : Array Value) (hw : ∀ d ∈ tables_1, d.before a0 Z = true) (ws : List Jvm.Cond) (a : Addr) (g : Int64) (r : Addr) (fo : Int64) (mx : Int32) (mb : Int64) (bp : Int32) (t : Int32) (tb : Int64) (st : Int32) (h0 : Heap) (n0 : Nat) (Z0 : n0 ≤ h0.size) (f_O_a : own_BD Z h0 a (.ref r) fo mx mb bp t tb st) (ht : ¬ (0 : Int32) < t) :
    MetFree l (⟨"com/example/inflight/inflight/log/StoredMessages$Builder", "fits", "(J)Z"⟩ : MethodName) (head1 (Jvm.Cond.code (⟨"com/example/inflight/inflight/log/StoredMessages$Builder", "fits", "(J)Z"⟩ : MethodName) prog_71_method_4_code 3 (some .boolean) :: ws) ({ frames := 0, cells := 0, slots := 0, locals := 0 } : Room)) (fun aa U => aa = #[(.ref a), (.long g)] ∧ Z.Warmed39 U.vm ∧ U.heap = h0) (fun _ _ _ _ _ => True) (fun _ U oc U' => ∃ v L, oc = .returned v ∧ Q6a Z a g r fo mx mb bp t tb st h0 n0 v U'.heap L ∧ FrameEnd U oc U' L ({ frames := 0, cells := 0, slots := 0, locals := 0 } : Room).cells ({ frames := 0, cells := 0, slots := 0, locals := 0 } : Room).slots) := by
  refine MetFree.of_bodySF (plainFor_of_name own_pn5) hisR ?_
  intro p e s m args below meth c s₁ Bd hml0 hP hK
  obtain ⟨rfl, hZ, hh⟩ := hP
  have hx := Bd.exec
  have hby := Bd.bytes
  have hlk := Bd.notSynchronized
  have hret := Bd.returns
  have hml : c.maxLocals = 3 := hml0
  have hown : s.vm.findClass "com/example/inflight/inflight/log/StoredMessages$Builder" = some m.cls := findClass_of_methodNamed Bd.named
  have hnm := (name_of_methodNamed Bd.named Bd.method).1
  have X0 : Stand p l e ({ frames := 0, cells := 0, slots := 0, locals := 0 } : Room) s m #[(.ref a), (.long g)] below meth c s₁ [] 0 0 := Stand.of_body Bd
  have e0 : s₁.heap = h0 := by rw [← hh, Bd.state]; rfl
  have N0 := Fr.nil n0
  refine own_body (Q := Q6a Z a g r fo mx mb bp t tb st h0 n0) (KC := ({ frames := 0, cells := 0, slots := 0, locals := 0 } : Room).cells) (KS := ({ frames := 0, cells := 0, slots := 0, locals := 0 } : Room).slots) ?_
  rw [own_ef_rm6a m a g]
  refine own_aloadN X0 hx hby d6_0 (pc' := 1) rfl rfl rfl ?_
  obtain ⟨f_E_a, f_F_a_runs, f_F_a_fromOffset, f_F_a_maxMessages, f_F_a_maxBytes, f_F_a_bytesPerMessage, f_F_a_taken, f_F_a_takenBytes, f_F_a_stopped⟩ := f_O_a
  refine own_getF X0 hx hZ hby hown (host := "") (Or.inl (wd_51 hw)) Via.refl e0 f_F_a_taken d6_1 (pc' := 4) rfl (fun T1 X1 e1 => ?_)
  refine own_ifY X1 hx hby d6_4 (pc' := 32) (by decide) (by decide) (show ¬ (0 : Int32) < t from ht) ?_
  refine own_aloadN X1 hx hby d6_32 (pc' := 33) rfl rfl rfl ?_
  refine own_getF X1 hx hZ hby hown (host := "") (Or.inl (wd_53 hw)) Via.refl e1 f_F_a_stopped d6_33 (pc' := 36) rfl (fun T2 X2 e2 => ?_)
  refine own_if2 X2 hx hby d6_36 (pc1 := 43) (by decide) (by decide) (pc2 := 39) rfl (fun (hc36 : ¬ st = (0 : Int32)) => ?_) (fun (hc36 : st = (0 : Int32)) => ?_)
  · refine own_iconst X2 hx hby d6_43 (pc' := 44) rfl (n := (0 : Int32)) (by decide) ?_
    refine own_zreturn X2 hx hlk hby hret (Or.inl rfl) d6_44 (own_lv ?_ (by decide) (by decide))
    show Q6a Z a g r fo mx mb bp t tb st  h0 n0 (some (.int (0 : Int32))) T2.heap _
    rw [e2]
    exact ⟨by simp [own_not, hc36], N0, rfl⟩
  · refine own_iconst X2 hx hby d6_39 (pc' := 40) rfl (n := (1 : Int32)) (by decide) ?_
    refine own_goto X2 hx hby d6_40 (pc' := 44) (by decide) (by decide) ?_
    refine own_zreturn X2 hx hlk hby hret (Or.inr rfl) d6_44 (own_lv ?_ (by decide) (by decide))
    show Q6a Z a g r fo mx mb bp t tb st  h0 n0 (some (.int (1 : Int32))) T2.heap _
    rw [e2]
    exact ⟨by simp [own_not, hc36], N0, rfl⟩
theorem own_ef_rm6b (m : MethodId) (a : Addr) (g : Int64)  : entryFrame m #[(.ref a), (.long g)] 3 = mkF m 0 #[.val (.ref a), .val (.long g), .second] [] := by first | (simp [entryFrame, mkF, argsToLocals, Value.category]; done) | rfl
def Q6b (Z : State) (a : Addr) (g : Int64) (r : Addr) (fo : Int64) (mx : Int32) (mb : Int64) (bp : Int32) (t : Int32) (tb : Int64) (st : Int32) (h0 : Heap) (n0 : Nat) (v : Option Value) (h : Heap) (L : List Loc) : Prop := v = some (.int (own_not st)) ∧ Fr n0 L ∧ h = h0
set_option maxRecDepth 65536 in
set_option maxHeartbeats 40000000 in
theorem rm6b (l : Launch) (Z : State) (a0 : Array Value) (hw : ∀ d ∈ tables_1, d.before a0 Z = true) (ws : List Jvm.Cond) (a : Addr) (g : Int64) (r : Addr) (fo : Int64) (mx : Int32) (mb : Int64) (bp : Int32) (t : Int32) (tb : Int64) (st : Int32) (h0 : Heap) (n0 : Nat) (Z0 : n0 ≤ h0.size) (f_O_a : own_BD Z h0 a (.ref r) fo mx mb bp t tb st) (ht : (0 : Int32) < t) (he : ¬ mb < ((tb + g) + (bp.toInt64))) :
    MetFree l (⟨"com/example/inflight/inflight/log/StoredMessages$Builder", "fits", "(J)Z"⟩ : MethodName) (head1 (Jvm.Cond.code (⟨"com/example/inflight/inflight/log/StoredMessages$Builder", "fits", "(J)Z"⟩ : MethodName) prog_71_method_4_code 3 (some .boolean) :: ws) ({ frames := 0, cells := 0, slots := 0, locals := 0 } : Room)) (fun aa U => aa = #[(.ref a), (.long g)] ∧ Z.Warmed39 U.vm ∧ U.heap = h0) (fun _ _ _ _ _ => True) (fun _ U oc U' => ∃ v L, oc = .returned v ∧ Q6b Z a g r fo mx mb bp t tb st h0 n0 v U'.heap L ∧ FrameEnd U oc U' L ({ frames := 0, cells := 0, slots := 0, locals := 0 } : Room).cells ({ frames := 0, cells := 0, slots := 0, locals := 0 } : Room).slots) := by
  refine MetFree.of_bodySF (plainFor_of_name own_pn5) hisR ?_
  intro p e s m args below meth c s₁ Bd hml0 hP hK
  obtain ⟨rfl, hZ, hh⟩ := hP
  have hx := Bd.exec
  have hby := Bd.bytes
  have hlk := Bd.notSynchronized
  have hret := Bd.returns
  have hml : c.maxLocals = 3 := hml0
  have hown : s.vm.findClass "com/example/inflight/inflight/log/StoredMessages$Builder" = some m.cls := findClass_of_methodNamed Bd.named
  have hnm := (name_of_methodNamed Bd.named Bd.method).1
  have X0 : Stand p l e ({ frames := 0, cells := 0, slots := 0, locals := 0 } : Room) s m #[(.ref a), (.long g)] below meth c s₁ [] 0 0 := Stand.of_body Bd
  have e0 : s₁.heap = h0 := by rw [← hh, Bd.state]; rfl
  have N0 := Fr.nil n0
  refine own_body (Q := Q6b Z a g r fo mx mb bp t tb st h0 n0) (KC := ({ frames := 0, cells := 0, slots := 0, locals := 0 } : Room).cells) (KS := ({ frames := 0, cells := 0, slots := 0, locals := 0 } : Room).slots) ?_
  rw [own_ef_rm6b m a g]
  refine own_aloadN X0 hx hby d6_0 (pc' := 1) rfl rfl rfl ?_
  obtain ⟨f_E_a, f_F_a_runs, f_F_a_fromOffset, f_F_a_maxMessages, f_F_a_maxBytes, f_F_a_bytesPerMessage, f_F_a_taken, f_F_a_takenBytes, f_F_a_stopped⟩ := f_O_a
  refine own_getF X0 hx hZ hby hown (host := "") (Or.inl (wd_51 hw)) Via.refl e0 f_F_a_taken d6_1 (pc' := 4) rfl (fun T1 X1 e1 => ?_)
  refine own_ifN X1 hx hby d6_4 (pc' := 7) rfl (show (0 : Int32) < t from ht) ?_
  refine own_aloadN X1 hx hby d6_7 (pc' := 8) rfl rfl rfl ?_
  refine own_getF X1 hx hZ hby hown (host := "") (Or.inl (wd_70 hw)) Via.refl e1 f_F_a_takenBytes d6_8 (pc' := 11) rfl (fun T2 X2 e2 => ?_)
  refine own_lloadN X2 hx hby d6_11 (pc' := 12) rfl rfl ?_
  refine own_ladd X2 hx hby d6_12 (pc' := 13) rfl ?_
  refine own_aloadN X2 hx hby d6_13 (pc' := 14) rfl rfl rfl ?_
  refine own_getF X2 hx hZ hby hown (host := "") (Or.inl (wd_44 hw)) Via.refl e2 f_F_a_bytesPerMessage d6_14 (pc' := 17) rfl (fun T3 X3 e3 => ?_)
  refine own_i2l X3 hx hby d6_17 (pc' := 18) rfl ?_
  refine own_ladd X3 hx hby d6_18 (pc' := 19) rfl ?_
  refine own_aloadN X3 hx hby d6_19 (pc' := 20) rfl rfl rfl ?_
  refine own_getF X3 hx hZ hby hown (host := "") (Or.inl (wd_42 hw)) Via.refl e3 f_F_a_maxBytes d6_20 (pc' := 23) rfl (fun T4 X4 e4 => ?_)
  refine own_lcmp X4 hx hby d6_23 (pc' := 24) rfl ?_
  refine own_ifY X4 hx hby d6_24 (pc' := 32) (by decide) (by decide) (own_ctL_y (show ¬ mb < ((tb + g) + (bp.toInt64)) from he)) ?_
  refine own_aloadN X4 hx hby d6_32 (pc' := 33) rfl rfl rfl ?_
  refine own_getF X4 hx hZ hby hown (host := "") (Or.inl (wd_53 hw)) Via.refl e4 f_F_a_stopped d6_33 (pc' := 36) rfl (fun T5 X5 e5 => ?_)
  refine own_if2 X5 hx hby d6_36 (pc1 := 43) (by decide) (by decide) (pc2 := 39) rfl (fun (hc36 : ¬ st = (0 : Int32)) => ?_) (fun (hc36 : st = (0 : Int32)) => ?_)
  · refine own_iconst X5 hx hby d6_43 (pc' := 44) rfl (n := (0 : Int32)) (by decide) ?_
    refine own_zreturn X5 hx hlk hby hret (Or.inl rfl) d6_44 (own_lv ?_ (by decide) (by decide))
    show Q6b Z a g r fo mx mb bp t tb st  h0 n0 (some (.int (0 : Int32))) T5.heap _
    rw [e5]
    exact ⟨by simp [own_not, hc36], N0, rfl⟩
  · refine own_iconst X5 hx hby d6_39 (pc' := 40) rfl (n := (1 : Int32)) (by decide) ?_
    refine own_goto X5 hx hby d6_40 (pc' := 44) (by decide) (by decide) ?_
    refine own_zreturn X5 hx hlk hby hret (Or.inr rfl) d6_44 (own_lv ?_ (by decide) (by decide))
    show Q6b Z a g r fo mx mb bp t tb st  h0 n0 (some (.int (1 : Int32))) T5.heap _
    rw [e5]
    exact ⟨by simp [own_not, hc36], N0, rfl⟩
theorem own_ef_rm6c (m : MethodId) (a : Addr) (g : Int64)  : entryFrame m #[(.ref a), (.long g)] 3 = mkF m 0 #[.val (.ref a), .val (.long g), .second] [] := by first | (simp [entryFrame, mkF, argsToLocals, Value.category]; done) | rfl
def Q6c (Z : State) (a : Addr) (g : Int64) (r : Addr) (fo : Int64) (mx : Int32) (mb : Int64) (bp : Int32) (t : Int32) (tb : Int64) (st : Int32) (h0 : Heap) (n0 : Nat) (v : Option Value) (h : Heap) (L : List Loc) : Prop := v = some (.int 0) ∧ Fr n0 L ∧ Keep h0 h [a] ∧ own_BD Z h a (.ref r) fo mx mb bp t tb 1
set_option maxRecDepth 65536 in
set_option maxHeartbeats 40000000 in
theorem rm6c (l : Launch) (Z : State) (a0 : Array Value) (hw : ∀ d ∈ tables_1, d.before a0 Z = true) (ws : List Jvm.Cond) (a : Addr) (g : Int64) (r : Addr) (fo : Int64) (mx : Int32) (mb : Int64) (bp : Int32) (t : Int32) (tb : Int64) (st : Int32) (h0 : Heap) (n0 : Nat) (Z0 : n0 ≤ h0.size) (f_O_a : own_BD Z h0 a (.ref r) fo mx mb bp t tb st) (ge_a : n0 ≤ a) (ht : (0 : Int32) < t) (he : mb < ((tb + g) + (bp.toInt64))) :
    MetFree l (⟨"com/example/inflight/inflight/log/StoredMessages$Builder", "fits", "(J)Z"⟩ : MethodName) (head1 (Jvm.Cond.code (⟨"com/example/inflight/inflight/log/StoredMessages$Builder", "fits", "(J)Z"⟩ : MethodName) prog_71_method_4_code 3 (some .boolean) :: ws) ({ frames := 0, cells := 0, slots := 0, locals := 0 } : Room)) (fun aa U => aa = #[(.ref a), (.long g)] ∧ Z.Warmed39 U.vm ∧ U.heap = h0) (fun _ _ _ _ _ => True) (fun _ U oc U' => ∃ v L, oc = .returned v ∧ Q6c Z a g r fo mx mb bp t tb st h0 n0 v U'.heap L ∧ FrameEnd U oc U' L ({ frames := 0, cells := 0, slots := 0, locals := 0 } : Room).cells ({ frames := 0, cells := 0, slots := 0, locals := 0 } : Room).slots) := by
  refine MetFree.of_bodySF (plainFor_of_name own_pn5) hisR ?_
  intro p e s m args below meth c s₁ Bd hml0 hP hK
  obtain ⟨rfl, hZ, hh⟩ := hP
  have hx := Bd.exec
  have hby := Bd.bytes
  have hlk := Bd.notSynchronized
  have hret := Bd.returns
  have hml : c.maxLocals = 3 := hml0
  have hown : s.vm.findClass "com/example/inflight/inflight/log/StoredMessages$Builder" = some m.cls := findClass_of_methodNamed Bd.named
  have hnm := (name_of_methodNamed Bd.named Bd.method).1
  have X0 : Stand p l e ({ frames := 0, cells := 0, slots := 0, locals := 0 } : Room) s m #[(.ref a), (.long g)] below meth c s₁ [] 0 0 := Stand.of_body Bd
  have e0 : s₁.heap = h0 := by rw [← hh, Bd.state]; rfl
  have N0 := Fr.nil n0
  refine own_body (Q := Q6c Z a g r fo mx mb bp t tb st h0 n0) (KC := ({ frames := 0, cells := 0, slots := 0, locals := 0 } : Room).cells) (KS := ({ frames := 0, cells := 0, slots := 0, locals := 0 } : Room).slots) ?_
  rw [own_ef_rm6c m a g]
  have Kp : Keep h0 h0 [a] := Keep.refl h0 _
  refine own_aloadN X0 hx hby d6_0 (pc' := 1) rfl rfl rfl ?_
  obtain ⟨f_E_a, f_F_a_runs, f_F_a_fromOffset, f_F_a_maxMessages, f_F_a_maxBytes, f_F_a_bytesPerMessage, f_F_a_taken, f_F_a_takenBytes, f_F_a_stopped⟩ := f_O_a
  refine own_getF X0 hx hZ hby hown (host := "") (Or.inl (wd_51 hw)) Via.refl e0 f_F_a_taken d6_1 (pc' := 4) rfl (fun T1 X1 e1 => ?_)
  refine own_ifN X1 hx hby d6_4 (pc' := 7) rfl (show (0 : Int32) < t from ht) ?_
  refine own_aloadN X1 hx hby d6_7 (pc' := 8) rfl rfl rfl ?_
  refine own_getF X1 hx hZ hby hown (host := "") (Or.inl (wd_70 hw)) Via.refl e1 f_F_a_takenBytes d6_8 (pc' := 11) rfl (fun T2 X2 e2 => ?_)
  refine own_lloadN X2 hx hby d6_11 (pc' := 12) rfl rfl ?_
  refine own_ladd X2 hx hby d6_12 (pc' := 13) rfl ?_
  refine own_aloadN X2 hx hby d6_13 (pc' := 14) rfl rfl rfl ?_
  refine own_getF X2 hx hZ hby hown (host := "") (Or.inl (wd_44 hw)) Via.refl e2 f_F_a_bytesPerMessage d6_14 (pc' := 17) rfl (fun T3 X3 e3 => ?_)
  refine own_i2l X3 hx hby d6_17 (pc' := 18) rfl ?_
  refine own_ladd X3 hx hby d6_18 (pc' := 19) rfl ?_
  refine own_aloadN X3 hx hby d6_19 (pc' := 20) rfl rfl rfl ?_
  refine own_getF X3 hx hZ hby hown (host := "") (Or.inl (wd_42 hw)) Via.refl e3 f_F_a_maxBytes d6_20 (pc' := 23) rfl (fun T4 X4 e4 => ?_)
  refine own_lcmp X4 hx hby d6_23 (pc' := 24) rfl ?_
  refine own_ifN X4 hx hby d6_24 (pc' := 27) rfl (own_ctL_n (show mb < ((tb + g) + (bp.toInt64)) from he)) ?_
  refine own_aloadN X4 hx hby d6_27 (pc' := 28) rfl rfl rfl ?_
  refine own_iconst X4 hx hby d6_28 (pc' := 29) rfl (n := (1 : Int32)) (by decide) ?_
  refine own_putN X4 hx hZ hby hown (wd_53 hw) Via.refl e4 f_F_a_stopped f_E_a (Or.inl (wd_54 hw)) (wd_3 hw) (ty := .boolean) (v' := (.int (1 : Int32))) (by decide) rfl (by decide) d6_29 (pc' := 32) rfl (fun T5 h5 X5 e5 W5 => ?_)
  have f_F_a_stopped := f_F_a_stopped.same W5
  have f_E_a := f_E_a.wr W5
  have f_F_a_runs := f_F_a_runs.other W5 (Or.inr (slot_ne (Or.inr (wd_37 hw)) (Or.inl (wd_54 hw)) (by decide) (t := (.object "java/util/List")) (t' := .boolean) (by decide) (by decide)))
  have f_F_a_fromOffset := f_F_a_fromOffset.other W5 (Or.inr (slot_ne (Or.inr (wd_39 hw)) (Or.inl (wd_54 hw)) (by decide) (t := .long) (t' := .boolean) (by decide) (by decide)))
  have f_F_a_maxMessages := f_F_a_maxMessages.other W5 (Or.inr (slot_ne (Or.inr (wd_41 hw)) (Or.inl (wd_54 hw)) (by decide) (t := .int) (t' := .boolean) (by decide) (by decide)))
  have f_F_a_maxBytes := f_F_a_maxBytes.other W5 (Or.inr (slot_ne (Or.inr (wd_43 hw)) (Or.inl (wd_54 hw)) (by decide) (t := .long) (t' := .boolean) (by decide) (by decide)))
  have f_F_a_bytesPerMessage := f_F_a_bytesPerMessage.other W5 (Or.inr (slot_ne (Or.inr (wd_45 hw)) (Or.inl (wd_54 hw)) (by decide) (t := .int) (t' := .boolean) (by decide) (by decide)))
  have f_F_a_taken := f_F_a_taken.other W5 (Or.inr (slot_ne (Or.inl (wd_52 hw)) (Or.inl (wd_54 hw)) (by decide) (t := .int) (t' := .boolean) (by decide) (by decide)))
  have f_F_a_takenBytes := f_F_a_takenBytes.other W5 (Or.inr (slot_ne (Or.inl (wd_71 hw)) (Or.inl (wd_54 hw)) (by decide) (t := .long) (t' := .boolean) (by decide) (by decide)))
  have Zn := Nat.le_trans Z0 (Keep.of_wr W5).1
  have Kp := Kp.wr W5 (Or.inl (List.mem_of_getElem? (i := 0) rfl))
  have N5 := Fr.snoc X5 N0 ge_a
  refine own_aloadN X5 hx hby d6_32 (pc' := 33) rfl rfl rfl ?_
  refine own_getF X5 hx hZ hby hown (host := "") (Or.inl (wd_53 hw)) Via.refl e5 f_F_a_stopped d6_33 (pc' := 36) rfl (fun T6 X6 e6 => ?_)
  refine own_ifY X6 hx hby d6_36 (pc' := 43) (by decide) (by decide) (show ¬ (1 : Int32) = (0 : Int32) by decide) ?_
  refine own_iconst X6 hx hby d6_43 (pc' := 44) rfl (n := (0 : Int32)) (by decide) ?_
  refine own_zreturn X6 hx hlk hby hret (Or.inl rfl) d6_44 (own_lv ?_ (by decide) (by decide))
  show Q6c Z a g r fo mx mb bp t tb st  h0 n0 (some (.int (0 : Int32))) T6.heap _
  rw [e6]
  exact ⟨rfl, N5, Kp, ⟨f_E_a, f_F_a_runs, f_F_a_fromOffset, f_F_a_maxMessages, f_F_a_maxBytes, f_F_a_bytesPerMessage, f_F_a_taken, f_F_a_takenBytes, f_F_a_stopped⟩⟩
theorem own_ef_rm7 (m : MethodId) (a : Addr)  : entryFrame m #[(.ref a)] 1 = mkF m 0 #[.val (.ref a)] [] := by first | (simp [entryFrame, mkF, argsToLocals, Value.category]; done) | rfl
def Q7 (Z : State) (a : Addr) (r : Addr) (fo : Int64) (mx : Int32) (mb : Int64) (bp : Int32) (t : Int32) (tb : Int64) (st : Int32) (z : Int32) (h0 : Heap) (n0 : Nat) (v : Option Value) (h : Heap) (L : List Loc) : Prop := v = some (.int z) ∧ Fr n0 L ∧ h = h0
set_option maxRecDepth 65536 in
set_option maxHeartbeats 40000000 in
theorem rm7 (l : Launch) (Z : State) (a0 : Array Value) (hw : ∀ d ∈ tables_1, d.before a0 Z = true) (ws : List Jvm.Cond) (a : Addr) (r : Addr) (fo : Int64) (mx : Int32) (mb : Int64) (bp : Int32) (t : Int32) (tb : Int64) (st : Int32) (z : Int32) (h0 : Heap) (n0 : Nat) (Z0 : n0 ≤ h0.size) (f_O_a : own_BD Z h0 a (.ref r) fo mx mb bp t tb st) (hz : own_wm st t mx = z) :
    MetFree l (⟨"com/example/inflight/inflight/log/StoredMessages$Builder", "wantsMore", "()Z"⟩ : MethodName) (head1 (Jvm.Cond.code (⟨"com/example/inflight/inflight/log/StoredMessages$Builder", "wantsMore", "()Z"⟩ : MethodName) prog_71_method_2_code 1 (some .boolean) :: ws) ({ frames := 0, cells := 0, slots := 0, locals := 0 } : Room)) (fun aa U => aa = #[(.ref a)] ∧ Z.Warmed39 U.vm ∧ U.heap = h0) (fun _ _ _ _ _ => True) (fun _ U oc U' => ∃ v L, oc = .returned v ∧ Q7 Z a r fo mx mb bp t tb st z h0 n0 v U'.heap L ∧ FrameEnd U oc U' L ({ frames := 0, cells := 0, slots := 0, locals := 0 } : Room).cells ({ frames := 0, cells := 0, slots := 0, locals := 0 } : Room).slots) := by
  refine MetFree.of_bodySF (plainFor_of_name own_pn5) hisR ?_
  intro p e s m args below meth c s₁ Bd hml0 hP hK
  obtain ⟨rfl, hZ, hh⟩ := hP
  have hx := Bd.exec
  have hby := Bd.bytes
  have hlk := Bd.notSynchronized
  have hret := Bd.returns
  have hml : c.maxLocals = 1 := hml0
  have hown : s.vm.findClass "com/example/inflight/inflight/log/StoredMessages$Builder" = some m.cls := findClass_of_methodNamed Bd.named
  have hnm := (name_of_methodNamed Bd.named Bd.method).1
  have X0 : Stand p l e ({ frames := 0, cells := 0, slots := 0, locals := 0 } : Room) s m #[(.ref a)] below meth c s₁ [] 0 0 := Stand.of_body Bd
  have e0 : s₁.heap = h0 := by rw [← hh, Bd.state]; rfl
  have N0 := Fr.nil n0
  refine own_body (Q := Q7 Z a r fo mx mb bp t tb st z h0 n0) (KC := ({ frames := 0, cells := 0, slots := 0, locals := 0 } : Room).cells) (KS := ({ frames := 0, cells := 0, slots := 0, locals := 0 } : Room).slots) ?_
  rw [own_ef_rm7 m a]
  refine own_aloadN X0 hx hby d7_0 (pc' := 1) rfl rfl rfl ?_
  obtain ⟨f_E_a, f_F_a_runs, f_F_a_fromOffset, f_F_a_maxMessages, f_F_a_maxBytes, f_F_a_bytesPerMessage, f_F_a_taken, f_F_a_takenBytes, f_F_a_stopped⟩ := f_O_a
  refine own_getF X0 hx hZ hby hown (host := "") (Or.inl (wd_53 hw)) Via.refl e0 f_F_a_stopped d7_1 (pc' := 4) rfl (fun T1 X1 e1 => ?_)
  refine own_if2 X1 hx hby d7_4 (pc1 := 22) (by decide) (by decide) (pc2 := 7) rfl (fun (hc4 : ¬ st = (0 : Int32)) => ?_) (fun (hc4 : st = (0 : Int32)) => ?_)
  · refine own_iconst X1 hx hby d7_22 (pc' := 23) rfl (n := (0 : Int32)) (by decide) ?_
    refine own_zreturn X1 hx hlk hby hret (Or.inl rfl) d7_23 (own_lv ?_ (by decide) (by decide))
    show Q7 Z a r fo mx mb bp t tb st z  h0 n0 (some (.int (0 : Int32))) T1.heap _
    rw [e1]
    exact ⟨by rw [← hz]; simp [own_wm, hc4], N0, rfl⟩
  · refine own_aloadN X1 hx hby d7_7 (pc' := 8) rfl rfl rfl ?_
    refine own_getF X1 hx hZ hby hown (host := "") (Or.inl (wd_51 hw)) Via.refl e1 f_F_a_taken d7_8 (pc' := 11) rfl (fun T2 X2 e2 => ?_)
    refine own_aloadN X2 hx hby d7_11 (pc' := 12) rfl rfl rfl ?_
    refine own_getF X2 hx hZ hby hown (host := "") (Or.inl (wd_40 hw)) Via.refl e2 f_F_a_maxMessages d7_12 (pc' := 15) rfl (fun T3 X3 e3 => ?_)
    refine own_ic2 X3 hx hby d7_15 (pc1 := 22) (by decide) (by decide) (pc2 := 18) rfl (fun (hc15 : ¬ t < mx) => ?_) (fun (hc15 : t < mx) => ?_)
    · refine own_iconst X3 hx hby d7_22 (pc' := 23) rfl (n := (0 : Int32)) (by decide) ?_
      refine own_zreturn X3 hx hlk hby hret (Or.inl rfl) d7_23 (own_lv ?_ (by decide) (by decide))
      show Q7 Z a r fo mx mb bp t tb st z  h0 n0 (some (.int (0 : Int32))) T3.heap _
      rw [e3]
      exact ⟨by rw [← hz]; simp [own_wm, hc4, hc15], N0, rfl⟩
    · refine own_iconst X3 hx hby d7_18 (pc' := 19) rfl (n := (1 : Int32)) (by decide) ?_
      refine own_goto X3 hx hby d7_19 (pc' := 23) (by decide) (by decide) ?_
      refine own_zreturn X3 hx hlk hby hret (Or.inr rfl) d7_23 (own_lv ?_ (by decide) (by decide))
      show Q7 Z a r fo mx mb bp t tb st z  h0 n0 (some (.int (1 : Int32))) T3.heap _
      rw [e3]
      exact ⟨by rw [← hz]; simp [own_wm, hc4, hc15], N0, rfl⟩
theorem own_ef_rm8 (m : MethodId) (a : Addr)  : entryFrame m #[(.ref a)] 1 = mkF m 0 #[.val (.ref a)] [] := by first | (simp [entryFrame, mkF, argsToLocals, Value.category]; done) | rfl
def Q8 (Z : State) (a : Addr) (r : Addr) (fo : Int64) (mx : Int32) (mb : Int64) (bp : Int32) (t : Int32) (tb : Int64) (st : Int32) (h0 : Heap) (n0 : Nat) (v : Option Value) (h : Heap) (L : List Loc) : Prop := v = some (.int (own_not t)) ∧ Fr n0 L ∧ h = h0
set_option maxRecDepth 65536 in
set_option maxHeartbeats 40000000 in
theorem rm8 (l : Launch) (Z : State) (a0 : Array Value) (hw : ∀ d ∈ tables_1, d.before a0 Z = true) (ws : List Jvm.Cond) (a : Addr) (r : Addr) (fo : Int64) (mx : Int32) (mb : Int64) (bp : Int32) (t : Int32) (tb : Int64) (st : Int32) (h0 : Heap) (n0 : Nat) (Z0 : n0 ≤ h0.size) (f_O_a : own_BD Z h0 a (.ref r) fo mx mb bp t tb st) :
    MetFree l (⟨"com/example/inflight/inflight/log/StoredMessages$Builder", "isEmpty", "()Z"⟩ : MethodName) (head1 (Jvm.Cond.code (⟨"com/example/inflight/inflight/log/StoredMessages$Builder", "isEmpty", "()Z"⟩ : MethodName) prog_71_method_3_code 1 (some .boolean) :: ws) ({ frames := 0, cells := 0, slots := 0, locals := 0 } : Room)) (fun aa U => aa = #[(.ref a)] ∧ Z.Warmed39 U.vm ∧ U.heap = h0) (fun _ _ _ _ _ => True) (fun _ U oc U' => ∃ v L, oc = .returned v ∧ Q8 Z a r fo mx mb bp t tb st h0 n0 v U'.heap L ∧ FrameEnd U oc U' L ({ frames := 0, cells := 0, slots := 0, locals := 0 } : Room).cells ({ frames := 0, cells := 0, slots := 0, locals := 0 } : Room).slots) := by
  refine MetFree.of_bodySF (plainFor_of_name own_pn5) hisR ?_
  intro p e s m args below meth c s₁ Bd hml0 hP hK
  obtain ⟨rfl, hZ, hh⟩ := hP
  have hx := Bd.exec
  have hby := Bd.bytes
  have hlk := Bd.notSynchronized
  have hret := Bd.returns
  have hml : c.maxLocals = 1 := hml0
  have hown : s.vm.findClass "com/example/inflight/inflight/log/StoredMessages$Builder" = some m.cls := findClass_of_methodNamed Bd.named
  have hnm := (name_of_methodNamed Bd.named Bd.method).1
  have X0 : Stand p l e ({ frames := 0, cells := 0, slots := 0, locals := 0 } : Room) s m #[(.ref a)] below meth c s₁ [] 0 0 := Stand.of_body Bd
  have e0 : s₁.heap = h0 := by rw [← hh, Bd.state]; rfl
  have N0 := Fr.nil n0
  refine own_body (Q := Q8 Z a r fo mx mb bp t tb st h0 n0) (KC := ({ frames := 0, cells := 0, slots := 0, locals := 0 } : Room).cells) (KS := ({ frames := 0, cells := 0, slots := 0, locals := 0 } : Room).slots) ?_
  rw [own_ef_rm8 m a]
  refine own_aloadN X0 hx hby d8_0 (pc' := 1) rfl rfl rfl ?_
  obtain ⟨f_E_a, f_F_a_runs, f_F_a_fromOffset, f_F_a_maxMessages, f_F_a_maxBytes, f_F_a_bytesPerMessage, f_F_a_taken, f_F_a_takenBytes, f_F_a_stopped⟩ := f_O_a
  refine own_getF X0 hx hZ hby hown (host := "") (Or.inl (wd_51 hw)) Via.refl e0 f_F_a_taken d8_1 (pc' := 4) rfl (fun T1 X1 e1 => ?_)
  refine own_if2 X1 hx hby d8_4 (pc1 := 11) (by decide) (by decide) (pc2 := 7) rfl (fun (hc4 : ¬ t = (0 : Int32)) => ?_) (fun (hc4 : t = (0 : Int32)) => ?_)
  · refine own_iconst X1 hx hby d8_11 (pc' := 12) rfl (n := (0 : Int32)) (by decide) ?_
    refine own_zreturn X1 hx hlk hby hret (Or.inl rfl) d8_12 (own_lv ?_ (by decide) (by decide))
    show Q8 Z a r fo mx mb bp t tb st  h0 n0 (some (.int (0 : Int32))) T1.heap _
    rw [e1]
    exact ⟨by simp [own_not, hc4], N0, rfl⟩
  · refine own_iconst X1 hx hby d8_7 (pc' := 8) rfl (n := (1 : Int32)) (by decide) ?_
    refine own_goto X1 hx hby d8_8 (pc' := 12) (by decide) (by decide) ?_
    refine own_zreturn X1 hx hlk hby hret (Or.inr rfl) d8_12 (own_lv ?_ (by decide) (by decide))
    show Q8 Z a r fo mx mb bp t tb st  h0 n0 (some (.int (1 : Int32))) T1.heap _
    rw [e1]
    exact ⟨by simp [own_not, hc4], N0, rfl⟩
theorem own_ef_rm9 (m : MethodId) (a : Addr) (g : Int64)  : entryFrame m #[(.ref a), (.long g)] 3 = mkF m 0 #[.val (.ref a), .val (.long g), .second] [] := by first | (simp [entryFrame, mkF, argsToLocals, Value.category]; done) | rfl
def Q9 (Z : State) (a : Addr) (g : Int64) (r : Addr) (fo : Int64) (mx : Int32) (mb : Int64) (bp : Int32) (st : Int32) (h0 : Heap) (n0 : Nat) (v : Option Value) (h : Heap) (L : List Loc) : Prop := v = none ∧ Fr n0 L ∧ Keep h0 h [a] ∧ own_BD Z h a (.ref r) fo mx mb bp 1 (g + (bp.toInt64)) st
set_option maxRecDepth 65536 in
set_option maxHeartbeats 40000000 in
theorem rm9 (l : Launch) (Z : State) (a0 : Array Value) (hw : ∀ d ∈ tables_1, d.before a0 Z = true) (ws : List Jvm.Cond) (a : Addr) (g : Int64) (r : Addr) (fo : Int64) (mx : Int32) (mb : Int64) (bp : Int32) (st : Int32) (h0 : Heap) (n0 : Nat) (Z0 : n0 ≤ h0.size) (f_O_a : own_BD Z h0 a (.ref r) fo mx mb bp (0 : Int32) (0 : Int64) st) (ge_a : n0 ≤ a) :
    MetFree l (⟨"com/example/inflight/inflight/log/StoredMessages$Builder", "take", "(J)V"⟩ : MethodName) (head1 (Jvm.Cond.code (⟨"com/example/inflight/inflight/log/StoredMessages$Builder", "take", "(J)V"⟩ : MethodName) prog_71_method_5_code 3 none :: ws) ({ frames := 0, cells := 0, slots := 0, locals := 0 } : Room)) (fun aa U => aa = #[(.ref a), (.long g)] ∧ Z.Warmed39 U.vm ∧ U.heap = h0) (fun _ _ _ _ _ => True) (fun _ U oc U' => ∃ v L, oc = .returned v ∧ Q9 Z a g r fo mx mb bp st h0 n0 v U'.heap L ∧ FrameEnd U oc U' L ({ frames := 0, cells := 0, slots := 0, locals := 0 } : Room).cells ({ frames := 0, cells := 0, slots := 0, locals := 0 } : Room).slots) := by
  refine MetFree.of_bodySF (plainFor_of_name own_pn5) hisR ?_
  intro p e s m args below meth c s₁ Bd hml0 hP hK
  obtain ⟨rfl, hZ, hh⟩ := hP
  have hx := Bd.exec
  have hby := Bd.bytes
  have hlk := Bd.notSynchronized
  have hret := Bd.returns
  have hml : c.maxLocals = 3 := hml0
  have hown : s.vm.findClass "com/example/inflight/inflight/log/StoredMessages$Builder" = some m.cls := findClass_of_methodNamed Bd.named
  have hnm := (name_of_methodNamed Bd.named Bd.method).1
  have X0 : Stand p l e ({ frames := 0, cells := 0, slots := 0, locals := 0 } : Room) s m #[(.ref a), (.long g)] below meth c s₁ [] 0 0 := Stand.of_body Bd
  have e0 : s₁.heap = h0 := by rw [← hh, Bd.state]; rfl
  have N0 := Fr.nil n0
  refine own_body (Q := Q9 Z a g r fo mx mb bp st h0 n0) (KC := ({ frames := 0, cells := 0, slots := 0, locals := 0 } : Room).cells) (KS := ({ frames := 0, cells := 0, slots := 0, locals := 0 } : Room).slots) ?_
  rw [own_ef_rm9 m a g]
  have Kp : Keep h0 h0 [a] := Keep.refl h0 _
  refine own_aloadN X0 hx hby d9_0 (pc' := 1) rfl rfl rfl ?_
  refine own_dup X0 hx hby d9_1 (pc' := 2) rfl rfl ?_
  obtain ⟨f_E_a, f_F_a_runs, f_F_a_fromOffset, f_F_a_maxMessages, f_F_a_maxBytes, f_F_a_bytesPerMessage, f_F_a_taken, f_F_a_takenBytes, f_F_a_stopped⟩ := f_O_a
  refine own_getF X0 hx hZ hby hown (host := "") (Or.inl (wd_70 hw)) Via.refl e0 f_F_a_takenBytes d9_2 (pc' := 5) rfl (fun T1 X1 e1 => ?_)
  refine own_lloadN X1 hx hby d9_5 (pc' := 6) rfl rfl ?_
  refine own_aloadN X1 hx hby d9_6 (pc' := 7) rfl rfl rfl ?_
  refine own_getF X1 hx hZ hby hown (host := "") (Or.inl (wd_44 hw)) Via.refl e1 f_F_a_bytesPerMessage d9_7 (pc' := 10) rfl (fun T2 X2 e2 => ?_)
  refine own_i2l X2 hx hby d9_10 (pc' := 11) rfl ?_
  refine own_ladd X2 hx hby d9_11 (pc' := 12) rfl ?_
  refine own_ladd X2 hx hby d9_12 (pc' := 13) rfl ?_
  refine own_putF X2 hx hZ hby hown (host := "") (Or.inl (wd_70 hw)) Via.refl e2 f_F_a_takenBytes f_E_a (Or.inl (wd_71 hw)) (wd_3 hw) (ty := .long) (by decide) rfl rfl d9_13 (pc' := 16) rfl (fun T3 h3 X3 e3 W3 => ?_)
  have f_F_a_takenBytes := f_F_a_takenBytes.same W3
  have f_E_a := f_E_a.wr W3
  have f_F_a_runs := f_F_a_runs.other W3 (Or.inr (slot_ne (Or.inr (wd_37 hw)) (Or.inl (wd_71 hw)) (by decide) (t := (.object "java/util/List")) (t' := .long) (by decide) (by decide)))
  have f_F_a_fromOffset := f_F_a_fromOffset.other W3 (Or.inr (slot_ne (Or.inr (wd_39 hw)) (Or.inl (wd_71 hw)) (by decide) (t := .long) (t' := .long) (by decide) (by decide)))
  have f_F_a_maxMessages := f_F_a_maxMessages.other W3 (Or.inr (slot_ne (Or.inr (wd_41 hw)) (Or.inl (wd_71 hw)) (by decide) (t := .int) (t' := .long) (by decide) (by decide)))
  have f_F_a_maxBytes := f_F_a_maxBytes.other W3 (Or.inr (slot_ne (Or.inr (wd_43 hw)) (Or.inl (wd_71 hw)) (by decide) (t := .long) (t' := .long) (by decide) (by decide)))
  have f_F_a_bytesPerMessage := f_F_a_bytesPerMessage.other W3 (Or.inr (slot_ne (Or.inr (wd_45 hw)) (Or.inl (wd_71 hw)) (by decide) (t := .int) (t' := .long) (by decide) (by decide)))
  have f_F_a_taken := f_F_a_taken.other W3 (Or.inr (slot_ne (Or.inl (wd_52 hw)) (Or.inl (wd_71 hw)) (by decide) (t := .int) (t' := .long) (by decide) (by decide)))
  have f_F_a_stopped := f_F_a_stopped.other W3 (Or.inr (slot_ne (Or.inl (wd_54 hw)) (Or.inl (wd_71 hw)) (by decide) (t := .boolean) (t' := .long) (by decide) (by decide)))
  have Zn := Nat.le_trans Z0 (Keep.of_wr W3).1
  have Kp := Kp.wr W3 (Or.inl (List.mem_of_getElem? (i := 0) rfl))
  have N3 := Fr.snoc X3 N0 ge_a
  refine own_aloadN X3 hx hby d9_16 (pc' := 17) rfl rfl rfl ?_
  refine own_dup X3 hx hby d9_17 (pc' := 18) rfl rfl ?_
  refine own_getF X3 hx hZ hby hown (host := "") (Or.inl (wd_51 hw)) Via.refl e3 f_F_a_taken d9_18 (pc' := 21) rfl (fun T4 X4 e4 => ?_)
  refine own_iconst X4 hx hby d9_21 (pc' := 22) rfl (n := (1 : Int32)) (by decide) ?_
  refine own_iadd X4 hx hby d9_22 (pc' := 23) rfl ?_
  refine own_putF X4 hx hZ hby hown (host := "") (Or.inl (wd_51 hw)) Via.refl e4 f_F_a_taken f_E_a (Or.inl (wd_52 hw)) (wd_3 hw) (ty := .int) (by decide) rfl rfl d9_23 (pc' := 26) rfl (fun T5 h5 X5 e5 W5 => ?_)
  have f_F_a_taken := f_F_a_taken.same W5
  have f_E_a := f_E_a.wr W5
  have f_F_a_runs := f_F_a_runs.other W5 (Or.inr (slot_ne (Or.inr (wd_37 hw)) (Or.inl (wd_52 hw)) (by decide) (t := (.object "java/util/List")) (t' := .int) (by decide) (by decide)))
  have f_F_a_fromOffset := f_F_a_fromOffset.other W5 (Or.inr (slot_ne (Or.inr (wd_39 hw)) (Or.inl (wd_52 hw)) (by decide) (t := .long) (t' := .int) (by decide) (by decide)))
  have f_F_a_maxMessages := f_F_a_maxMessages.other W5 (Or.inr (slot_ne (Or.inr (wd_41 hw)) (Or.inl (wd_52 hw)) (by decide) (t := .int) (t' := .int) (by decide) (by decide)))
  have f_F_a_maxBytes := f_F_a_maxBytes.other W5 (Or.inr (slot_ne (Or.inr (wd_43 hw)) (Or.inl (wd_52 hw)) (by decide) (t := .long) (t' := .int) (by decide) (by decide)))
  have f_F_a_bytesPerMessage := f_F_a_bytesPerMessage.other W5 (Or.inr (slot_ne (Or.inr (wd_45 hw)) (Or.inl (wd_52 hw)) (by decide) (t := .int) (t' := .int) (by decide) (by decide)))
  have f_F_a_takenBytes := f_F_a_takenBytes.other W5 (Or.inr (slot_ne (Or.inl (wd_71 hw)) (Or.inl (wd_52 hw)) (by decide) (t := .long) (t' := .int) (by decide) (by decide)))
  have f_F_a_stopped := f_F_a_stopped.other W5 (Or.inr (slot_ne (Or.inl (wd_54 hw)) (Or.inl (wd_52 hw)) (by decide) (t := .boolean) (t' := .int) (by decide) (by decide)))
  have Zn := Nat.le_trans Zn (Keep.of_wr W5).1
  have Kp := Kp.wr W5 (Or.inl (List.mem_of_getElem? (i := 0) rfl))
  have N5 := Fr.snoc X5 N3 ge_a
  refine own_return X5 hx hlk hby hret d9_26 (own_lv ?_ (by decide) (by decide))
  have f_O_a : own_BD Z h5 a (.ref r) fo mx mb bp ((0 : Int32) + (1 : Int32)) ((0 : Int64) + (g + (bp.toInt64))) st := ⟨f_E_a, f_F_a_runs, f_F_a_fromOffset, f_F_a_maxMessages, f_F_a_maxBytes, f_F_a_bytesPerMessage, f_F_a_taken, f_F_a_takenBytes, f_F_a_stopped⟩
  rw [Int64.zero_add] at f_O_a
  show Q9 Z a g r fo mx mb bp st  h0 n0 none T5.heap _
  rw [e5]
  exact ⟨rfl, N5, Kp, f_O_a⟩
theorem own_ef_rm10 (m : MethodId) (a : Addr)  : entryFrame m #[(.ref a)] 1 = mkF m 0 #[.val (.ref a)] [] := by first | (simp [entryFrame, mkF, argsToLocals, Value.category]; done) | rfl
def Q10 (Z : State) (a : Addr) (r : Addr) (fo : Int64) (mx : Int32) (mb : Int64) (bp : Int32) (t : Int32) (tb : Int64) (st : Int32) (h0 : Heap) (n0 : Nat) (v : Option Value) (h : Heap) (L : List Loc) : Prop := v = none ∧ Fr n0 L ∧ Keep h0 h [a] ∧ own_BD Z h a (.ref r) fo mx mb bp t tb 1
set_option maxRecDepth 65536 in
set_option maxHeartbeats 40000000 in
theorem rm10 (l : Launch) (Z : State) (a0 : Array Value) (hw : ∀ d ∈ tables_1, d.before a0 Z = true) (ws : List Jvm.Cond) (a : Addr) (r : Addr) (fo : Int64) (mx : Int32) (mb : Int64) (bp : Int32) (t : Int32) (tb : Int64) (st : Int32) (h0 : Heap) (n0 : Nat) (Z0 : n0 ≤ h0.size) (f_O_a : own_BD Z h0 a (.ref r) fo mx mb bp t tb st) (ge_a : n0 ≤ a) :
    MetFree l (⟨"com/example/inflight/inflight/log/StoredMessages$Builder", "stop", "()V"⟩ : MethodName) (head1 (Jvm.Cond.code (⟨"com/example/inflight/inflight/log/StoredMessages$Builder", "stop", "()V"⟩ : MethodName) prog_71_method_6_code 1 none :: ws) ({ frames := 0, cells := 0, slots := 0, locals := 0 } : Room)) (fun aa U => aa = #[(.ref a)] ∧ Z.Warmed39 U.vm ∧ U.heap = h0) (fun _ _ _ _ _ => True) (fun _ U oc U' => ∃ v L, oc = .returned v ∧ Q10 Z a r fo mx mb bp t tb st h0 n0 v U'.heap L ∧ FrameEnd U oc U' L ({ frames := 0, cells := 0, slots := 0, locals := 0 } : Room).cells ({ frames := 0, cells := 0, slots := 0, locals := 0 } : Room).slots) := by
  refine MetFree.of_bodySF (plainFor_of_name own_pn5) hisR ?_
  intro p e s m args below meth c s₁ Bd hml0 hP hK
  obtain ⟨rfl, hZ, hh⟩ := hP
  have hx := Bd.exec
  have hby := Bd.bytes
  have hlk := Bd.notSynchronized
  have hret := Bd.returns
  have hml : c.maxLocals = 1 := hml0
  have hown : s.vm.findClass "com/example/inflight/inflight/log/StoredMessages$Builder" = some m.cls := findClass_of_methodNamed Bd.named
  have hnm := (name_of_methodNamed Bd.named Bd.method).1
  have X0 : Stand p l e ({ frames := 0, cells := 0, slots := 0, locals := 0 } : Room) s m #[(.ref a)] below meth c s₁ [] 0 0 := Stand.of_body Bd
  have e0 : s₁.heap = h0 := by rw [← hh, Bd.state]; rfl
  have N0 := Fr.nil n0
  refine own_body (Q := Q10 Z a r fo mx mb bp t tb st h0 n0) (KC := ({ frames := 0, cells := 0, slots := 0, locals := 0 } : Room).cells) (KS := ({ frames := 0, cells := 0, slots := 0, locals := 0 } : Room).slots) ?_
  rw [own_ef_rm10 m a]
  have Kp : Keep h0 h0 [a] := Keep.refl h0 _
  refine own_aloadN X0 hx hby d10_0 (pc' := 1) rfl rfl rfl ?_
  refine own_iconst X0 hx hby d10_1 (pc' := 2) rfl (n := (1 : Int32)) (by decide) ?_
  obtain ⟨f_E_a, f_F_a_runs, f_F_a_fromOffset, f_F_a_maxMessages, f_F_a_maxBytes, f_F_a_bytesPerMessage, f_F_a_taken, f_F_a_takenBytes, f_F_a_stopped⟩ := f_O_a
  refine own_putN X0 hx hZ hby hown (wd_53 hw) Via.refl e0 f_F_a_stopped f_E_a (Or.inl (wd_54 hw)) (wd_3 hw) (ty := .boolean) (v' := (.int (1 : Int32))) (by decide) rfl (by decide) d10_2 (pc' := 5) rfl (fun T1 h1 X1 e1 W1 => ?_)
  have f_F_a_stopped := f_F_a_stopped.same W1
  have f_E_a := f_E_a.wr W1
  have f_F_a_runs := f_F_a_runs.other W1 (Or.inr (slot_ne (Or.inr (wd_37 hw)) (Or.inl (wd_54 hw)) (by decide) (t := (.object "java/util/List")) (t' := .boolean) (by decide) (by decide)))
  have f_F_a_fromOffset := f_F_a_fromOffset.other W1 (Or.inr (slot_ne (Or.inr (wd_39 hw)) (Or.inl (wd_54 hw)) (by decide) (t := .long) (t' := .boolean) (by decide) (by decide)))
  have f_F_a_maxMessages := f_F_a_maxMessages.other W1 (Or.inr (slot_ne (Or.inr (wd_41 hw)) (Or.inl (wd_54 hw)) (by decide) (t := .int) (t' := .boolean) (by decide) (by decide)))
  have f_F_a_maxBytes := f_F_a_maxBytes.other W1 (Or.inr (slot_ne (Or.inr (wd_43 hw)) (Or.inl (wd_54 hw)) (by decide) (t := .long) (t' := .boolean) (by decide) (by decide)))
  have f_F_a_bytesPerMessage := f_F_a_bytesPerMessage.other W1 (Or.inr (slot_ne (Or.inr (wd_45 hw)) (Or.inl (wd_54 hw)) (by decide) (t := .int) (t' := .boolean) (by decide) (by decide)))
  have f_F_a_taken := f_F_a_taken.other W1 (Or.inr (slot_ne (Or.inl (wd_52 hw)) (Or.inl (wd_54 hw)) (by decide) (t := .int) (t' := .boolean) (by decide) (by decide)))
  have f_F_a_takenBytes := f_F_a_takenBytes.other W1 (Or.inr (slot_ne (Or.inl (wd_71 hw)) (Or.inl (wd_54 hw)) (by decide) (t := .long) (t' := .boolean) (by decide) (by decide)))
  have Zn := Nat.le_trans Z0 (Keep.of_wr W1).1
  have Kp := Kp.wr W1 (Or.inl (List.mem_of_getElem? (i := 0) rfl))
  have N1 := Fr.snoc X1 N0 ge_a
  refine own_return X1 hx hlk hby hret d10_5 (own_lv ?_ (by decide) (by decide))
  show Q10 Z a r fo mx mb bp t tb st  h0 n0 none T1.heap _
  rw [e1]
  exact ⟨rfl, N1, Kp, ⟨f_E_a, f_F_a_runs, f_F_a_fromOffset, f_F_a_maxMessages, f_F_a_maxBytes, f_F_a_bytesPerMessage, f_F_a_taken, f_F_a_takenBytes, f_F_a_stopped⟩⟩
theorem own_ef_rm0 (m : MethodId) (p0 : Int64) (p1 : Int64) (p2 : Int64) (p3 : Int64) (p4 : Int32) (p5 : Int32)  : entryFrame m #[(.long p0), (.long p1), (.long p2), (.long p3), (.int p4), (.int p5)] maxLocals = mkF m 0 #[.val (.long p0), .second, .val (.long p1), .second, .val (.long p2), .second, .val (.long p3), .second, .val (.int p4), .val (.int p5), .unset, .unset, .unset, .unset, .unset, .unset, .unset, .unset, .unset, .unset, .unset, .unset, .unset, .unset, .unset, .unset, .unset, .unset, .unset, .unset, .unset, .unset] [] := by first | (simp [entryFrame, mkF, argsToLocals, Value.category, maxLocals]; done) | rfl
def Q0 (Z : State) (p0 : Int64) (p1 : Int64) (p2 : Int64) (p3 : Int64) (p4 : Int32) (p5 : Int32) (h0 : Heap) (n0 : Nat) (v : Option Value) (h : Heap) (L : List Loc) : Prop := v = some (.int 1) ∧ Fr n0 L
set_option maxRecDepth 65536 in
set_option maxHeartbeats 40000000 in
theorem rm0 (l : Launch) (Z : State) (a0 : Array Value) (hw : ∀ d ∈ tables_1, d.before a0 Z = true) (ws : List Jvm.Cond) (p0 : Int64) (p1 : Int64) (p2 : Int64) (p3 : Int64) (p4 : Int32) (p5 : Int32) (h0 : Heap) (n0 : Nat) (Z0 : n0 ≤ h0.size)  :
    MetFree l x (head1 (Jvm.Cond.code x code maxLocals ret :: ws) room_1) (fun aa U => aa = #[(.long p0), (.long p1), (.long p2), (.long p3), (.int p4), (.int p5)] ∧ Z.Warmed39 U.vm ∧ U.heap = h0) (fun _ _ _ _ _ => True) (fun _ U oc U' => ∃ v L, oc = .returned v ∧ Q0 Z p0 p1 p2 p3 p4 p5 h0 n0 v U'.heap L ∧ FrameEnd U oc U' L room_1.cells room_1.slots) := by
  refine MetFree.of_bodySF (plainFor_of_name own_pn10) hisR ?_
  intro p e s m args below meth c s₁ Bd hml0 hP hK
  obtain ⟨rfl, hZ, hh⟩ := hP
  have hx := Bd.exec
  have hby := Bd.bytes
  have hlk := Bd.notSynchronized
  have hret := Bd.returns
  have hml : c.maxLocals = 32 := hml0
  have hown : s.vm.findClass "com/example/inflight/inflight/log/BuilderFitsPinLaw" = some m.cls := findClass_of_methodNamed Bd.named
  have hnm := (name_of_methodNamed Bd.named Bd.method).1
  have X0 : Stand p l e room_1 s m #[(.long p0), (.long p1), (.long p2), (.long p3), (.int p4), (.int p5)] below meth c s₁ [] 0 0 := Stand.of_body Bd
  have e0 : s₁.heap = h0 := by rw [← hh, Bd.state]; rfl
  have N0 := Fr.nil n0
  refine own_body (Q := Q0 Z p0 p1 p2 p3 p4 p5 h0 n0) (KC := room_1.cells) (KS := room_1.slots) ?_
  rw [own_ef_rm0 m p0 p1 p2 p3 p4 p5]
  refine own_ldc2Long X0 hx hZ hby hown (wd_0 hw) at_0 (pc' := 3) rfl ?_
  refine own_lstore X0 hx hby at_3 (pc' := 5) rfl (l' := #[.val (.long p0), .second, .val (.long p1), .second, .val (.long p2), .second, .val (.long p3), .second, .val (.int p4), .val (.int p5), .val (.long (2305843009213693951 : Int64)), .second, .unset, .unset, .unset, .unset, .unset, .unset, .unset, .unset, .unset, .unset, .unset, .unset, .unset, .unset, .unset, .unset, .unset, .unset, .unset, .unset]) rfl ?_
  refine own_lloadN X0 hx hby at_5 (pc' := 6) rfl rfl ?_
  refine own_lload X0 hx hby at_6 (pc' := 8) rfl rfl ?_
  refine own_land X0 hx hby at_8 (pc' := 9) rfl ?_
  refine own_lstore X0 hx hby at_9 (pc' := 11) rfl (l' := #[.val (.long p0), .second, .val (.long p1), .second, .val (.long p2), .second, .val (.long p3), .second, .val (.int p4), .val (.int p5), .val (.long (2305843009213693951 : Int64)), .second, .val (.long (p1 &&& (2305843009213693951 : Int64))), .second, .unset, .unset, .unset, .unset, .unset, .unset, .unset, .unset, .unset, .unset, .unset, .unset, .unset, .unset, .unset, .unset, .unset, .unset]) rfl ?_
  refine own_lload X0 hx hby at_11 (pc' := 13) rfl rfl ?_
  refine own_lload X0 hx hby at_13 (pc' := 15) rfl rfl ?_
  refine own_land X0 hx hby at_15 (pc' := 16) rfl ?_
  refine own_lstore X0 hx hby at_16 (pc' := 18) rfl (l' := #[.val (.long p0), .second, .val (.long p1), .second, .val (.long p2), .second, .val (.long p3), .second, .val (.int p4), .val (.int p5), .val (.long (2305843009213693951 : Int64)), .second, .val (.long (p1 &&& (2305843009213693951 : Int64))), .second, .val (.long (p2 &&& (2305843009213693951 : Int64))), .second, .unset, .unset, .unset, .unset, .unset, .unset, .unset, .unset, .unset, .unset, .unset, .unset, .unset, .unset, .unset, .unset]) rfl ?_
  refine own_lload X0 hx hby at_18 (pc' := 20) rfl rfl ?_
  refine own_lload X0 hx hby at_20 (pc' := 22) rfl rfl ?_
  refine own_land X0 hx hby at_22 (pc' := 23) rfl ?_
  refine own_lstore X0 hx hby at_23 (pc' := 25) rfl (l' := #[.val (.long p0), .second, .val (.long p1), .second, .val (.long p2), .second, .val (.long p3), .second, .val (.int p4), .val (.int p5), .val (.long (2305843009213693951 : Int64)), .second, .val (.long (p1 &&& (2305843009213693951 : Int64))), .second, .val (.long (p2 &&& (2305843009213693951 : Int64))), .second, .val (.long (p3 &&& (2305843009213693951 : Int64))), .second, .unset, .unset, .unset, .unset, .unset, .unset, .unset, .unset, .unset, .unset, .unset, .unset, .unset, .unset]) rfl ?_
  refine own_iload X0 hx hby at_25 (pc' := 27) rfl rfl ?_
  refine own_ldcInt X0 hx hZ hby hown (wd_1 hw) at_27 (pc' := 29) rfl ?_
  refine own_iand X0 hx hby at_29 (pc' := 30) rfl ?_
  refine own_istore X0 hx hby at_30 (pc' := 32) rfl (l' := #[.val (.long p0), .second, .val (.long p1), .second, .val (.long p2), .second, .val (.long p3), .second, .val (.int p4), .val (.int p5), .val (.long (2305843009213693951 : Int64)), .second, .val (.long (p1 &&& (2305843009213693951 : Int64))), .second, .val (.long (p2 &&& (2305843009213693951 : Int64))), .second, .val (.long (p3 &&& (2305843009213693951 : Int64))), .second, .val (.int (p4 &&& (2147483647 : Int32))), .unset, .unset, .unset, .unset, .unset, .unset, .unset, .unset, .unset, .unset, .unset, .unset, .unset]) rfl ?_
  refine own_iload X0 hx hby at_32 (pc' := 34) rfl rfl ?_
  refine own_iconst X0 hx hby at_34 (pc' := 35) rfl (n := (3 : Int32)) (by decide) ?_
  refine own_iand X0 hx hby at_35 (pc' := 36) rfl ?_
  rcases own_and3 p5 with hs1 | hs1 | hs1 | hs1
  · rw [hs1]
    show own_End p e below _ (s₁.setTop (mkF m 36 #[.val (.long p0), .second, .val (.long p1), .second, .val (.long p2), .second, .val (.long p3), .second, .val (.int p4), .val (.int p5), .val (.long (2305843009213693951 : Int64)), .second, .val (.long (p1 &&& (2305843009213693951 : Int64))), .second, .val (.long (p2 &&& (2305843009213693951 : Int64))), .second, .val (.long (p3 &&& (2305843009213693951 : Int64))), .second, .val (.int (p4 &&& (2147483647 : Int32))), .unset, .unset, .unset, .unset, .unset, .unset, .unset, .unset, .unset, .unset, .unset, .unset, .unset] [(.int (0 : Int32))]))
    refine own_istore X0 hx hby at_36 (pc' := 38) rfl (l' := #[.val (.long p0), .second, .val (.long p1), .second, .val (.long p2), .second, .val (.long p3), .second, .val (.int p4), .val (.int p5), .val (.long (2305843009213693951 : Int64)), .second, .val (.long (p1 &&& (2305843009213693951 : Int64))), .second, .val (.long (p2 &&& (2305843009213693951 : Int64))), .second, .val (.long (p3 &&& (2305843009213693951 : Int64))), .second, .val (.int (p4 &&& (2147483647 : Int32))), .val (.int (0 : Int32)), .unset, .unset, .unset, .unset, .unset, .unset, .unset, .unset, .unset, .unset, .unset, .unset]) rfl ?_
    refine own_iconst X0 hx hby at_38 (pc' := 39) rfl (n := (1 : Int32)) (by decide) ?_
    refine own_iload X0 hx hby at_39 (pc' := 41) rfl rfl ?_
    refine own_iconst X0 hx hby at_41 (pc' := 42) rfl (n := (2 : Int32)) (by decide) ?_
    refine own_iushr X0 hx hby at_42 (pc' := 43) rfl ?_
    refine own_iconst X0 hx hby at_43 (pc' := 44) rfl (n := (3 : Int32)) (by decide) ?_
    refine own_iand X0 hx hby at_44 (pc' := 45) rfl ?_
    refine own_iadd X0 hx hby at_45 (pc' := 46) rfl ?_
    refine own_istore X0 hx hby at_46 (pc' := 48) rfl (l' := #[.val (.long p0), .second, .val (.long p1), .second, .val (.long p2), .second, .val (.long p3), .second, .val (.int p4), .val (.int p5), .val (.long (2305843009213693951 : Int64)), .second, .val (.long (p1 &&& (2305843009213693951 : Int64))), .second, .val (.long (p2 &&& (2305843009213693951 : Int64))), .second, .val (.long (p3 &&& (2305843009213693951 : Int64))), .second, .val (.int (p4 &&& (2147483647 : Int32))), .val (.int (0 : Int32)), .val (.int ((1 : Int32) + (((p5.toUInt32 >>> ((2 : Int32) &&& 31).toUInt32).toInt32) &&& (3 : Int32)))), .unset, .unset, .unset, .unset, .unset, .unset, .unset, .unset, .unset, .unset, .unset]) rfl ?_
    refine own_iload X0 hx hby at_48 (pc' := 50) rfl rfl ?_
    refine own_iconst X0 hx hby at_50 (pc' := 51) rfl (n := (1 : Int32)) (by decide) ?_
    refine own_icN X0 hx hby at_51 (pc' := 54) rfl (show ¬ (0 : Int32) = (1 : Int32) by decide) ?_
    refine own_iload X0 hx hby at_54 (pc' := 56) rfl rfl ?_
    refine own_iconst X0 hx hby at_56 (pc' := 57) rfl (n := (3 : Int32)) (by decide) ?_
    refine own_icY X0 hx hby at_57 (pc' := 64) (by decide) (by decide) (show ¬ (0 : Int32) = (3 : Int32) by decide) ?_
    refine own_iconst X0 hx hby at_64 (pc' := 65) rfl (n := (0 : Int32)) (by decide) ?_
    refine own_istore X0 hx hby at_65 (pc' := 67) rfl (l' := #[.val (.long p0), .second, .val (.long p1), .second, .val (.long p2), .second, .val (.long p3), .second, .val (.int p4), .val (.int p5), .val (.long (2305843009213693951 : Int64)), .second, .val (.long (p1 &&& (2305843009213693951 : Int64))), .second, .val (.long (p2 &&& (2305843009213693951 : Int64))), .second, .val (.long (p3 &&& (2305843009213693951 : Int64))), .second, .val (.int (p4 &&& (2147483647 : Int32))), .val (.int (0 : Int32)), .val (.int ((1 : Int32) + (((p5.toUInt32 >>> ((2 : Int32) &&& 31).toUInt32).toInt32) &&& (3 : Int32)))), .val (.int (0 : Int32)), .unset, .unset, .unset, .unset, .unset, .unset, .unset, .unset, .unset, .unset]) rfl ?_
    refine own_iload X0 hx hby at_67 (pc' := 69) rfl rfl ?_
    refine own_iconst X0 hx hby at_69 (pc' := 70) rfl (n := (2 : Int32)) (by decide) ?_
    refine own_icY X0 hx hby at_70 (pc' := 77) (by decide) (by decide) (show (0 : Int32) < (2 : Int32) by decide) ?_
    refine own_iconst X0 hx hby at_77 (pc' := 78) rfl (n := (0 : Int32)) (by decide) ?_
    refine own_istore X0 hx hby at_78 (pc' := 80) rfl (l' := #[.val (.long p0), .second, .val (.long p1), .second, .val (.long p2), .second, .val (.long p3), .second, .val (.int p4), .val (.int p5), .val (.long (2305843009213693951 : Int64)), .second, .val (.long (p1 &&& (2305843009213693951 : Int64))), .second, .val (.long (p2 &&& (2305843009213693951 : Int64))), .second, .val (.long (p3 &&& (2305843009213693951 : Int64))), .second, .val (.int (p4 &&& (2147483647 : Int32))), .val (.int (0 : Int32)), .val (.int ((1 : Int32) + (((p5.toUInt32 >>> ((2 : Int32) &&& 31).toUInt32).toInt32) &&& (3 : Int32)))), .val (.int (0 : Int32)), .val (.int (0 : Int32)), .unset, .unset, .unset, .unset, .unset, .unset, .unset, .unset, .unset]) rfl ?_
    refine own_new X0 hx hZ hby hown (wd_2 hw) (wd_3 hw) (wd_4 hw) e0 at_80 (pc' := 83) rfl (by decide) (by decide) (fun T2 h2 b2 g2 X2 e2 E2 A2 D2 => ?_)
    have ge_b2 : n0 ≤ b2 := by rw [g2]; exact Z0
    have Zn := Nat.le_trans Z0 E2.1
    have f_O_b2 : own_BD Z h2 b2 .null (0 : Int64) (0 : Int32) (0 : Int64) (0 : Int32) (0 : Int32) (0 : Int64) (0 : Int32) := ⟨A2, D2 (Or.inr (wd_37 hw)) (ty := (.object "java/util/List")) (by decide), D2 (Or.inr (wd_39 hw)) (ty := .long) (by decide), D2 (Or.inr (wd_41 hw)) (ty := .int) (by decide), D2 (Or.inr (wd_43 hw)) (ty := .long) (by decide), D2 (Or.inr (wd_45 hw)) (ty := .int) (by decide), D2 (Or.inl (wd_52 hw)) (ty := .int) (by decide), D2 (Or.inl (wd_71 hw)) (ty := .long) (by decide), D2 (Or.inl (wd_54 hw)) (ty := .boolean) (by decide)⟩
    refine own_dup X2 hx hby at_83 (pc' := 84) rfl rfl ?_
    refine own_lconst X2 hx hby at_84 (pc' := 85) rfl (n := (0 : Int64)) (by decide) ?_
    refine own_iload X2 hx hby at_85 (pc' := 87) rfl rfl ?_
    refine own_lloadN X2 hx hby at_87 (pc' := 88) rfl rfl ?_
    refine own_iload X2 hx hby at_88 (pc' := 90) rfl rfl ?_
    refine own_lk3 hw X2 hx hZ hby (by rw [hml]; rfl) hown at_90 (pc' := 93) rfl e2 (W := 1) (Nat.le_of_eq rfl) (rm1 l Z a0 hw [] b2 (0 : Int64) ((1 : Int32) + (((p5.toUInt32 >>> ((2 : Int32) &&& 31).toUInt32).toInt32) &&& (3 : Int32))) p0 (p4 &&& (2147483647 : Int32)) h2 n0 Zn f_O_b2 ge_b2) (by decide) (by decide) (by decide) (by decide) (fun v4 T4 L4 X4 hQ4 => ?_)
    obtain ⟨rfl, Nq4, K4, r3, O4⟩ := hQ4
    have N4 := Fr.app N0 Nq4
    have Zn := Nat.le_trans Zn K4.1
    show own_End p e below _ (T4.setTop (mkF m 93 _ [(.ref b2)]))
    refine own_astore X4 hx hby at_93 (pc' := 95) rfl rfl (l' := #[.val (.long p0), .second, .val (.long p1), .second, .val (.long p2), .second, .val (.long p3), .second, .val (.int p4), .val (.int p5), .val (.long (2305843009213693951 : Int64)), .second, .val (.long (p1 &&& (2305843009213693951 : Int64))), .second, .val (.long (p2 &&& (2305843009213693951 : Int64))), .second, .val (.long (p3 &&& (2305843009213693951 : Int64))), .second, .val (.int (p4 &&& (2147483647 : Int32))), .val (.int (0 : Int32)), .val (.int ((1 : Int32) + (((p5.toUInt32 >>> ((2 : Int32) &&& 31).toUInt32).toInt32) &&& (3 : Int32)))), .val (.int (0 : Int32)), .val (.int (0 : Int32)), .val (.ref b2), .unset, .unset, .unset, .unset, .unset, .unset, .unset, .unset]) rfl ?_
    refine own_iload X4 hx hby at_95 (pc' := 97) rfl rfl ?_
    refine own_ifY X4 hx hby at_97 (pc' := 107) (by decide) (by decide) (show (0 : Int32) = (0 : Int32) by decide) ?_
    refine own_iload X4 hx hby at_107 (pc' := 109) rfl rfl ?_
    refine own_ifY X4 hx hby at_109 (pc' := 117) (by decide) (by decide) (show (0 : Int32) = (0 : Int32) by decide) ?_
    refine own_aload X4 hx hby at_117 (pc' := 119) rfl rfl rfl ?_
    refine own_lload X4 hx hby at_119 (pc' := 121) rfl rfl ?_
    refine own_lk4 hw X4 hx hZ hby (by rw [hml]; rfl) hown at_121 (pc' := 124) rfl rfl O4.1 (W := 0) (Nat.le_of_eq rfl) (rm6a l Z a0 hw [] b2 (p2 &&& (2305843009213693951 : Int64)) r3 (0 : Int64) ((1 : Int32) + (((p5.toUInt32 >>> ((2 : Int32) &&& 31).toUInt32).toInt32) &&& (3 : Int32))) p0 (p4 &&& (2147483647 : Int32)) (0 : Int32) (0 : Int64) (0 : Int32) T4.heap n0 Zn O4 (by decide)) (by decide) (by decide) (by decide) (by decide) (fun v5 T5 L5 X5 hQ5 => ?_)
    obtain ⟨rfl, Nq5, e5⟩ := hQ5
    have N5 := Fr.app N4 Nq5
    show own_End p e below _ (T5.setTop (mkF m 124 _ [(.int (1 : Int32))]))
    refine own_istore X5 hx hby at_124 (pc' := 126) rfl (l' := #[.val (.long p0), .second, .val (.long p1), .second, .val (.long p2), .second, .val (.long p3), .second, .val (.int p4), .val (.int p5), .val (.long (2305843009213693951 : Int64)), .second, .val (.long (p1 &&& (2305843009213693951 : Int64))), .second, .val (.long (p2 &&& (2305843009213693951 : Int64))), .second, .val (.long (p3 &&& (2305843009213693951 : Int64))), .second, .val (.int (p4 &&& (2147483647 : Int32))), .val (.int (0 : Int32)), .val (.int ((1 : Int32) + (((p5.toUInt32 >>> ((2 : Int32) &&& 31).toUInt32).toInt32) &&& (3 : Int32)))), .val (.int (0 : Int32)), .val (.int (0 : Int32)), .val (.ref b2), .val (.int (1 : Int32)), .unset, .unset, .unset, .unset, .unset, .unset, .unset]) rfl ?_
    refine own_aload X5 hx hby at_126 (pc' := 128) rfl rfl rfl ?_
    refine own_lload X5 hx hby at_128 (pc' := 130) rfl rfl ?_
    refine own_lk4 hw X5 hx hZ hby (by rw [hml]; rfl) hown at_130 (pc' := 133) rfl e5 O4.1 (W := 0) (Nat.le_of_eq rfl) (rm6a l Z a0 hw [] b2 (p3 &&& (2305843009213693951 : Int64)) r3 (0 : Int64) ((1 : Int32) + (((p5.toUInt32 >>> ((2 : Int32) &&& 31).toUInt32).toInt32) &&& (3 : Int32))) p0 (p4 &&& (2147483647 : Int32)) (0 : Int32) (0 : Int64) (0 : Int32) T4.heap n0 Zn O4 (by decide)) (by decide) (by decide) (by decide) (by decide) (fun v6 T6 L6 X6 hQ6 => ?_)
    obtain ⟨rfl, Nq6, e6⟩ := hQ6
    have N6 := Fr.app N5 Nq6
    show own_End p e below _ (T6.setTop (mkF m 133 _ [(.int (1 : Int32))]))
    refine own_istore X6 hx hby at_133 (pc' := 135) rfl (l' := #[.val (.long p0), .second, .val (.long p1), .second, .val (.long p2), .second, .val (.long p3), .second, .val (.int p4), .val (.int p5), .val (.long (2305843009213693951 : Int64)), .second, .val (.long (p1 &&& (2305843009213693951 : Int64))), .second, .val (.long (p2 &&& (2305843009213693951 : Int64))), .second, .val (.long (p3 &&& (2305843009213693951 : Int64))), .second, .val (.int (p4 &&& (2147483647 : Int32))), .val (.int (0 : Int32)), .val (.int ((1 : Int32) + (((p5.toUInt32 >>> ((2 : Int32) &&& 31).toUInt32).toInt32) &&& (3 : Int32)))), .val (.int (0 : Int32)), .val (.int (0 : Int32)), .val (.ref b2), .val (.int (1 : Int32)), .val (.int (1 : Int32)), .unset, .unset, .unset, .unset, .unset, .unset]) rfl ?_
    refine own_iload X6 hx hby at_135 (pc' := 137) rfl rfl ?_
    refine own_ifY X6 hx hby at_137 (pc' := 149) (by decide) (by decide) (show (0 : Int32) = (0 : Int32) by decide) ?_
    refine own_lconst X6 hx hby at_149 (pc' := 150) rfl (n := (0 : Int64)) (by decide) ?_
    refine own_lstore X6 hx hby at_150 (pc' := 152) rfl (l' := #[.val (.long p0), .second, .val (.long p1), .second, .val (.long p2), .second, .val (.long p3), .second, .val (.int p4), .val (.int p5), .val (.long (2305843009213693951 : Int64)), .second, .val (.long (p1 &&& (2305843009213693951 : Int64))), .second, .val (.long (p2 &&& (2305843009213693951 : Int64))), .second, .val (.long (p3 &&& (2305843009213693951 : Int64))), .second, .val (.int (p4 &&& (2147483647 : Int32))), .val (.int (0 : Int32)), .val (.int ((1 : Int32) + (((p5.toUInt32 >>> ((2 : Int32) &&& 31).toUInt32).toInt32) &&& (3 : Int32)))), .val (.int (0 : Int32)), .val (.int (0 : Int32)), .val (.ref b2), .val (.int (1 : Int32)), .val (.int (1 : Int32)), .val (.long (0 : Int64)), .second, .unset, .unset, .unset, .unset]) rfl ?_
    refine own_iload X6 hx hby at_152 (pc' := 154) rfl rfl ?_
    refine own_ifN X6 hx hby at_154 (pc' := 157) rfl (show (0 : Int32) = (0 : Int32) by decide) ?_
    refine own_iload X6 hx hby at_157 (pc' := 159) rfl rfl ?_
    refine own_ifY X6 hx hby at_159 (pc' := 176) (by decide) (by decide) (show (0 : Int32) = (0 : Int32) by decide) ?_
    refine own_iconst X6 hx hby at_176 (pc' := 177) rfl (n := (1 : Int32)) (by decide) ?_
    refine own_goto X6 hx hby at_177 (pc' := 181) (by decide) (by decide) ?_
    refine own_istore X6 hx hby at_181 (pc' := 183) rfl (l' := #[.val (.long p0), .second, .val (.long p1), .second, .val (.long p2), .second, .val (.long p3), .second, .val (.int p4), .val (.int p5), .val (.long (2305843009213693951 : Int64)), .second, .val (.long (p1 &&& (2305843009213693951 : Int64))), .second, .val (.long (p2 &&& (2305843009213693951 : Int64))), .second, .val (.long (p3 &&& (2305843009213693951 : Int64))), .second, .val (.int (p4 &&& (2147483647 : Int32))), .val (.int (0 : Int32)), .val (.int ((1 : Int32) + (((p5.toUInt32 >>> ((2 : Int32) &&& 31).toUInt32).toInt32) &&& (3 : Int32)))), .val (.int (0 : Int32)), .val (.int (0 : Int32)), .val (.ref b2), .val (.int (1 : Int32)), .val (.int (1 : Int32)), .val (.long (0 : Int64)), .second, .val (.int (1 : Int32)), .unset, .unset, .unset]) rfl ?_
    refine own_iload X6 hx hby at_183 (pc' := 185) rfl rfl ?_
    refine own_ifN X6 hx hby at_185 (pc' := 188) rfl (show ¬ (1 : Int32) = (0 : Int32) by decide) ?_
    refine own_iload X6 hx hby at_188 (pc' := 190) rfl rfl ?_
    refine own_ifY X6 hx hby at_190 (pc' := 207) (by decide) (by decide) (show (0 : Int32) = (0 : Int32) by decide) ?_
    refine own_iconst X6 hx hby at_207 (pc' := 208) rfl (n := (1 : Int32)) (by decide) ?_
    refine own_goto X6 hx hby at_208 (pc' := 212) (by decide) (by decide) ?_
    refine own_istore X6 hx hby at_212 (pc' := 214) rfl (l' := #[.val (.long p0), .second, .val (.long p1), .second, .val (.long p2), .second, .val (.long p3), .second, .val (.int p4), .val (.int p5), .val (.long (2305843009213693951 : Int64)), .second, .val (.long (p1 &&& (2305843009213693951 : Int64))), .second, .val (.long (p2 &&& (2305843009213693951 : Int64))), .second, .val (.long (p3 &&& (2305843009213693951 : Int64))), .second, .val (.int (p4 &&& (2147483647 : Int32))), .val (.int (0 : Int32)), .val (.int ((1 : Int32) + (((p5.toUInt32 >>> ((2 : Int32) &&& 31).toUInt32).toInt32) &&& (3 : Int32)))), .val (.int (0 : Int32)), .val (.int (0 : Int32)), .val (.ref b2), .val (.int (1 : Int32)), .val (.int (1 : Int32)), .val (.long (0 : Int64)), .second, .val (.int (1 : Int32)), .val (.int (1 : Int32)), .unset, .unset]) rfl ?_
    refine own_iload X6 hx hby at_214 (pc' := 216) rfl rfl ?_
    refine own_ifY X6 hx hby at_216 (pc' := 223) (by decide) (by decide) (show (0 : Int32) = (0 : Int32) by decide) ?_
    refine own_iconst X6 hx hby at_223 (pc' := 224) rfl (n := (0 : Int32)) (by decide) ?_
    refine own_istore X6 hx hby at_224 (pc' := 226) rfl (l' := #[.val (.long p0), .second, .val (.long p1), .second, .val (.long p2), .second, .val (.long p3), .second, .val (.int p4), .val (.int p5), .val (.long (2305843009213693951 : Int64)), .second, .val (.long (p1 &&& (2305843009213693951 : Int64))), .second, .val (.long (p2 &&& (2305843009213693951 : Int64))), .second, .val (.long (p3 &&& (2305843009213693951 : Int64))), .second, .val (.int (p4 &&& (2147483647 : Int32))), .val (.int (0 : Int32)), .val (.int ((1 : Int32) + (((p5.toUInt32 >>> ((2 : Int32) &&& 31).toUInt32).toInt32) &&& (3 : Int32)))), .val (.int (0 : Int32)), .val (.int (0 : Int32)), .val (.ref b2), .val (.int (1 : Int32)), .val (.int (1 : Int32)), .val (.long (0 : Int64)), .second, .val (.int (1 : Int32)), .val (.int (1 : Int32)), .val (.int (0 : Int32)), .unset]) rfl ?_
    refine own_iload X6 hx hby at_226 (pc' := 228) rfl rfl ?_
    refine own_ifN X6 hx hby at_228 (pc' := 231) rfl (show ¬ (1 : Int32) = (0 : Int32) by decide) ?_
    refine own_iload X6 hx hby at_231 (pc' := 233) rfl rfl ?_
    refine own_iload X6 hx hby at_233 (pc' := 235) rfl rfl ?_
    refine own_ic2 X6 hx hby at_235 (pc1 := 242) (by decide) (by decide) (pc2 := 238) rfl (fun (hc235 : ¬ (0 : Int32) < ((1 : Int32) + (((p5.toUInt32 >>> ((2 : Int32) &&& 31).toUInt32).toInt32) &&& (3 : Int32)))) => ?_) (fun (hc235 : (0 : Int32) < ((1 : Int32) + (((p5.toUInt32 >>> ((2 : Int32) &&& 31).toUInt32).toInt32) &&& (3 : Int32)))) => ?_)
    · refine own_iconst X6 hx hby at_242 (pc' := 243) rfl (n := (0 : Int32)) (by decide) ?_
      refine own_istore X6 hx hby at_243 (pc' := 245) rfl (l' := #[.val (.long p0), .second, .val (.long p1), .second, .val (.long p2), .second, .val (.long p3), .second, .val (.int p4), .val (.int p5), .val (.long (2305843009213693951 : Int64)), .second, .val (.long (p1 &&& (2305843009213693951 : Int64))), .second, .val (.long (p2 &&& (2305843009213693951 : Int64))), .second, .val (.long (p3 &&& (2305843009213693951 : Int64))), .second, .val (.int (p4 &&& (2147483647 : Int32))), .val (.int (0 : Int32)), .val (.int ((1 : Int32) + (((p5.toUInt32 >>> ((2 : Int32) &&& 31).toUInt32).toInt32) &&& (3 : Int32)))), .val (.int (0 : Int32)), .val (.int (0 : Int32)), .val (.ref b2), .val (.int (1 : Int32)), .val (.int (1 : Int32)), .val (.long (0 : Int64)), .second, .val (.int (1 : Int32)), .val (.int (1 : Int32)), .val (.int (0 : Int32)), .val (.int (0 : Int32))]) rfl ?_
      refine own_iload X6 hx hby at_245 (pc' := 247) rfl rfl ?_
      refine own_iload X6 hx hby at_247 (pc' := 249) rfl rfl ?_
      refine own_icN X6 hx hby at_249 (pc' := 252) rfl (show (1 : Int32) = (1 : Int32) by decide) ?_
      refine own_iload X6 hx hby at_252 (pc' := 254) rfl rfl ?_
      refine own_iload X6 hx hby at_254 (pc' := 256) rfl rfl ?_
      refine own_icN X6 hx hby at_256 (pc' := 259) rfl (show (1 : Int32) = (1 : Int32) by decide) ?_
      refine own_aload X6 hx hby at_259 (pc' := 261) rfl rfl rfl ?_
      refine own_lk5 hw X6 hx hZ hby (by rw [hml]; rfl) hown at_261 (pc' := 264) rfl e6 O4.1 (W := 0) (Nat.le_of_eq rfl) (rm7 l Z a0 hw [] b2 r3 (0 : Int64) ((1 : Int32) + (((p5.toUInt32 >>> ((2 : Int32) &&& 31).toUInt32).toInt32) &&& (3 : Int32))) p0 (p4 &&& (2147483647 : Int32)) (0 : Int32) (0 : Int64) (0 : Int32) (0 : Int32) T4.heap n0 Zn O4 (by unfold own_wm; rw [if_pos rfl, if_neg hc235])) (by decide) (by decide) (by decide) (by decide) (fun v7 T7 L7 X7 hQ7 => ?_)
      obtain ⟨rfl, Nq7, e7⟩ := hQ7
      have N7 := Fr.app N6 Nq7
      show own_End p e below _ (T7.setTop (mkF m 264 _ [(.int (0 : Int32))]))
      refine own_iload X7 hx hby at_264 (pc' := 266) rfl rfl ?_
      refine own_icN X7 hx hby at_266 (pc' := 269) rfl (show (0 : Int32) = (0 : Int32) by decide) ?_
      refine own_aload X7 hx hby at_269 (pc' := 271) rfl rfl rfl ?_
      refine own_lk6 hw X7 hx hZ hby (by rw [hml]; rfl) hown at_271 (pc' := 274) rfl e7 O4.1 (W := 0) (Nat.le_of_eq rfl) (rm8 l Z a0 hw [] b2 r3 (0 : Int64) ((1 : Int32) + (((p5.toUInt32 >>> ((2 : Int32) &&& 31).toUInt32).toInt32) &&& (3 : Int32))) p0 (p4 &&& (2147483647 : Int32)) (0 : Int32) (0 : Int64) (0 : Int32) T4.heap n0 Zn O4) (by decide) (by decide) (by decide) (by decide) (fun v8 T8 L8 X8 hQ8 => ?_)
      obtain ⟨rfl, Nq8, e8⟩ := hQ8
      have N8 := Fr.app N7 Nq8
      show own_End p e below _ (T8.setTop (mkF m 274 _ [(.int (1 : Int32))]))
      refine own_iload X8 hx hby at_274 (pc' := 276) rfl rfl ?_
      refine own_ifN X8 hx hby at_276 (pc' := 279) rfl (show (0 : Int32) = (0 : Int32) by decide) ?_
      refine own_iconst X8 hx hby at_279 (pc' := 280) rfl (n := (1 : Int32)) (by decide) ?_
      refine own_goto X8 hx hby at_280 (pc' := 284) (by decide) (by decide) ?_
      refine own_icN X8 hx hby at_284 (pc' := 287) rfl (show (1 : Int32) = (1 : Int32) by decide) ?_
      refine own_iconst X8 hx hby at_287 (pc' := 288) rfl (n := (1 : Int32)) (by decide) ?_
      refine own_goto X8 hx hby at_288 (pc' := 292) (by decide) (by decide) ?_
      refine own_zreturn X8 hx hlk hby hret (Or.inr rfl) at_292 (own_lv ?_ (by decide) (by decide))
      show Q0 Z p0 p1 p2 p3 p4 p5  h0 n0 (some (.int (1 : Int32))) T8.heap _
      rw [e8]
      exact ⟨rfl, N8⟩
    · refine own_iconst X6 hx hby at_238 (pc' := 239) rfl (n := (1 : Int32)) (by decide) ?_
      refine own_goto X6 hx hby at_239 (pc' := 243) (by decide) (by decide) ?_
      refine own_istore X6 hx hby at_243 (pc' := 245) rfl (l' := #[.val (.long p0), .second, .val (.long p1), .second, .val (.long p2), .second, .val (.long p3), .second, .val (.int p4), .val (.int p5), .val (.long (2305843009213693951 : Int64)), .second, .val (.long (p1 &&& (2305843009213693951 : Int64))), .second, .val (.long (p2 &&& (2305843009213693951 : Int64))), .second, .val (.long (p3 &&& (2305843009213693951 : Int64))), .second, .val (.int (p4 &&& (2147483647 : Int32))), .val (.int (0 : Int32)), .val (.int ((1 : Int32) + (((p5.toUInt32 >>> ((2 : Int32) &&& 31).toUInt32).toInt32) &&& (3 : Int32)))), .val (.int (0 : Int32)), .val (.int (0 : Int32)), .val (.ref b2), .val (.int (1 : Int32)), .val (.int (1 : Int32)), .val (.long (0 : Int64)), .second, .val (.int (1 : Int32)), .val (.int (1 : Int32)), .val (.int (0 : Int32)), .val (.int (1 : Int32))]) rfl ?_
      refine own_iload X6 hx hby at_245 (pc' := 247) rfl rfl ?_
      refine own_iload X6 hx hby at_247 (pc' := 249) rfl rfl ?_
      refine own_icN X6 hx hby at_249 (pc' := 252) rfl (show (1 : Int32) = (1 : Int32) by decide) ?_
      refine own_iload X6 hx hby at_252 (pc' := 254) rfl rfl ?_
      refine own_iload X6 hx hby at_254 (pc' := 256) rfl rfl ?_
      refine own_icN X6 hx hby at_256 (pc' := 259) rfl (show (1 : Int32) = (1 : Int32) by decide) ?_
      refine own_aload X6 hx hby at_259 (pc' := 261) rfl rfl rfl ?_
      refine own_lk5 hw X6 hx hZ hby (by rw [hml]; rfl) hown at_261 (pc' := 264) rfl e6 O4.1 (W := 0) (Nat.le_of_eq rfl) (rm7 l Z a0 hw [] b2 r3 (0 : Int64) ((1 : Int32) + (((p5.toUInt32 >>> ((2 : Int32) &&& 31).toUInt32).toInt32) &&& (3 : Int32))) p0 (p4 &&& (2147483647 : Int32)) (0 : Int32) (0 : Int64) (0 : Int32) (1 : Int32) T4.heap n0 Zn O4 (by unfold own_wm; rw [if_pos rfl, if_pos hc235])) (by decide) (by decide) (by decide) (by decide) (fun v9 T9 L9 X9 hQ9 => ?_)
      obtain ⟨rfl, Nq9, e9⟩ := hQ9
      have N9 := Fr.app N6 Nq9
      show own_End p e below _ (T9.setTop (mkF m 264 _ [(.int (1 : Int32))]))
      refine own_iload X9 hx hby at_264 (pc' := 266) rfl rfl ?_
      refine own_icN X9 hx hby at_266 (pc' := 269) rfl (show (1 : Int32) = (1 : Int32) by decide) ?_
      refine own_aload X9 hx hby at_269 (pc' := 271) rfl rfl rfl ?_
      refine own_lk6 hw X9 hx hZ hby (by rw [hml]; rfl) hown at_271 (pc' := 274) rfl e9 O4.1 (W := 0) (Nat.le_of_eq rfl) (rm8 l Z a0 hw [] b2 r3 (0 : Int64) ((1 : Int32) + (((p5.toUInt32 >>> ((2 : Int32) &&& 31).toUInt32).toInt32) &&& (3 : Int32))) p0 (p4 &&& (2147483647 : Int32)) (0 : Int32) (0 : Int64) (0 : Int32) T4.heap n0 Zn O4) (by decide) (by decide) (by decide) (by decide) (fun v10 T10 L10 X10 hQ10 => ?_)
      obtain ⟨rfl, Nq10, e10⟩ := hQ10
      have N10 := Fr.app N9 Nq10
      show own_End p e below _ (T10.setTop (mkF m 274 _ [(.int (1 : Int32))]))
      refine own_iload X10 hx hby at_274 (pc' := 276) rfl rfl ?_
      refine own_ifN X10 hx hby at_276 (pc' := 279) rfl (show (0 : Int32) = (0 : Int32) by decide) ?_
      refine own_iconst X10 hx hby at_279 (pc' := 280) rfl (n := (1 : Int32)) (by decide) ?_
      refine own_goto X10 hx hby at_280 (pc' := 284) (by decide) (by decide) ?_
      refine own_icN X10 hx hby at_284 (pc' := 287) rfl (show (1 : Int32) = (1 : Int32) by decide) ?_
      refine own_iconst X10 hx hby at_287 (pc' := 288) rfl (n := (1 : Int32)) (by decide) ?_
      refine own_goto X10 hx hby at_288 (pc' := 292) (by decide) (by decide) ?_
      refine own_zreturn X10 hx hlk hby hret (Or.inr rfl) at_292 (own_lv ?_ (by decide) (by decide))
      show Q0 Z p0 p1 p2 p3 p4 p5  h0 n0 (some (.int (1 : Int32))) T10.heap _
      rw [e10]
      exact ⟨rfl, N10⟩
  · rw [hs1]
    show own_End p e below _ (s₁.setTop (mkF m 36 #[.val (.long p0), .second, .val (.long p1), .second, .val (.long p2), .second, .val (.long p3), .second, .val (.int p4), .val (.int p5), .val (.long (2305843009213693951 : Int64)), .second, .val (.long (p1 &&& (2305843009213693951 : Int64))), .second, .val (.long (p2 &&& (2305843009213693951 : Int64))), .second, .val (.long (p3 &&& (2305843009213693951 : Int64))), .second, .val (.int (p4 &&& (2147483647 : Int32))), .unset, .unset, .unset, .unset, .unset, .unset, .unset, .unset, .unset, .unset, .unset, .unset, .unset] [(.int (1 : Int32))]))
    refine own_istore X0 hx hby at_36 (pc' := 38) rfl (l' := #[.val (.long p0), .second, .val (.long p1), .second, .val (.long p2), .second, .val (.long p3), .second, .val (.int p4), .val (.int p5), .val (.long (2305843009213693951 : Int64)), .second, .val (.long (p1 &&& (2305843009213693951 : Int64))), .second, .val (.long (p2 &&& (2305843009213693951 : Int64))), .second, .val (.long (p3 &&& (2305843009213693951 : Int64))), .second, .val (.int (p4 &&& (2147483647 : Int32))), .val (.int (1 : Int32)), .unset, .unset, .unset, .unset, .unset, .unset, .unset, .unset, .unset, .unset, .unset, .unset]) rfl ?_
    refine own_iconst X0 hx hby at_38 (pc' := 39) rfl (n := (1 : Int32)) (by decide) ?_
    refine own_iload X0 hx hby at_39 (pc' := 41) rfl rfl ?_
    refine own_iconst X0 hx hby at_41 (pc' := 42) rfl (n := (2 : Int32)) (by decide) ?_
    refine own_iushr X0 hx hby at_42 (pc' := 43) rfl ?_
    refine own_iconst X0 hx hby at_43 (pc' := 44) rfl (n := (3 : Int32)) (by decide) ?_
    refine own_iand X0 hx hby at_44 (pc' := 45) rfl ?_
    refine own_iadd X0 hx hby at_45 (pc' := 46) rfl ?_
    refine own_istore X0 hx hby at_46 (pc' := 48) rfl (l' := #[.val (.long p0), .second, .val (.long p1), .second, .val (.long p2), .second, .val (.long p3), .second, .val (.int p4), .val (.int p5), .val (.long (2305843009213693951 : Int64)), .second, .val (.long (p1 &&& (2305843009213693951 : Int64))), .second, .val (.long (p2 &&& (2305843009213693951 : Int64))), .second, .val (.long (p3 &&& (2305843009213693951 : Int64))), .second, .val (.int (p4 &&& (2147483647 : Int32))), .val (.int (1 : Int32)), .val (.int ((1 : Int32) + (((p5.toUInt32 >>> ((2 : Int32) &&& 31).toUInt32).toInt32) &&& (3 : Int32)))), .unset, .unset, .unset, .unset, .unset, .unset, .unset, .unset, .unset, .unset, .unset]) rfl ?_
    refine own_iload X0 hx hby at_48 (pc' := 50) rfl rfl ?_
    refine own_iconst X0 hx hby at_50 (pc' := 51) rfl (n := (1 : Int32)) (by decide) ?_
    refine own_icY X0 hx hby at_51 (pc' := 60) (by decide) (by decide) (show (1 : Int32) = (1 : Int32) by decide) ?_
    refine own_iconst X0 hx hby at_60 (pc' := 61) rfl (n := (1 : Int32)) (by decide) ?_
    refine own_goto X0 hx hby at_61 (pc' := 65) (by decide) (by decide) ?_
    refine own_istore X0 hx hby at_65 (pc' := 67) rfl (l' := #[.val (.long p0), .second, .val (.long p1), .second, .val (.long p2), .second, .val (.long p3), .second, .val (.int p4), .val (.int p5), .val (.long (2305843009213693951 : Int64)), .second, .val (.long (p1 &&& (2305843009213693951 : Int64))), .second, .val (.long (p2 &&& (2305843009213693951 : Int64))), .second, .val (.long (p3 &&& (2305843009213693951 : Int64))), .second, .val (.int (p4 &&& (2147483647 : Int32))), .val (.int (1 : Int32)), .val (.int ((1 : Int32) + (((p5.toUInt32 >>> ((2 : Int32) &&& 31).toUInt32).toInt32) &&& (3 : Int32)))), .val (.int (1 : Int32)), .unset, .unset, .unset, .unset, .unset, .unset, .unset, .unset, .unset, .unset]) rfl ?_
    refine own_iload X0 hx hby at_67 (pc' := 69) rfl rfl ?_
    refine own_iconst X0 hx hby at_69 (pc' := 70) rfl (n := (2 : Int32)) (by decide) ?_
    refine own_icY X0 hx hby at_70 (pc' := 77) (by decide) (by decide) (show (1 : Int32) < (2 : Int32) by decide) ?_
    refine own_iconst X0 hx hby at_77 (pc' := 78) rfl (n := (0 : Int32)) (by decide) ?_
    refine own_istore X0 hx hby at_78 (pc' := 80) rfl (l' := #[.val (.long p0), .second, .val (.long p1), .second, .val (.long p2), .second, .val (.long p3), .second, .val (.int p4), .val (.int p5), .val (.long (2305843009213693951 : Int64)), .second, .val (.long (p1 &&& (2305843009213693951 : Int64))), .second, .val (.long (p2 &&& (2305843009213693951 : Int64))), .second, .val (.long (p3 &&& (2305843009213693951 : Int64))), .second, .val (.int (p4 &&& (2147483647 : Int32))), .val (.int (1 : Int32)), .val (.int ((1 : Int32) + (((p5.toUInt32 >>> ((2 : Int32) &&& 31).toUInt32).toInt32) &&& (3 : Int32)))), .val (.int (1 : Int32)), .val (.int (0 : Int32)), .unset, .unset, .unset, .unset, .unset, .unset, .unset, .unset, .unset]) rfl ?_
    refine own_new X0 hx hZ hby hown (wd_2 hw) (wd_3 hw) (wd_4 hw) e0 at_80 (pc' := 83) rfl (by decide) (by decide) (fun T11 h11 b11 g11 X11 e11 E11 A11 D11 => ?_)
    have ge_b11 : n0 ≤ b11 := by rw [g11]; exact Z0
    have Zn := Nat.le_trans Z0 E11.1
    have f_O_b11 : own_BD Z h11 b11 .null (0 : Int64) (0 : Int32) (0 : Int64) (0 : Int32) (0 : Int32) (0 : Int64) (0 : Int32) := ⟨A11, D11 (Or.inr (wd_37 hw)) (ty := (.object "java/util/List")) (by decide), D11 (Or.inr (wd_39 hw)) (ty := .long) (by decide), D11 (Or.inr (wd_41 hw)) (ty := .int) (by decide), D11 (Or.inr (wd_43 hw)) (ty := .long) (by decide), D11 (Or.inr (wd_45 hw)) (ty := .int) (by decide), D11 (Or.inl (wd_52 hw)) (ty := .int) (by decide), D11 (Or.inl (wd_71 hw)) (ty := .long) (by decide), D11 (Or.inl (wd_54 hw)) (ty := .boolean) (by decide)⟩
    refine own_dup X11 hx hby at_83 (pc' := 84) rfl rfl ?_
    refine own_lconst X11 hx hby at_84 (pc' := 85) rfl (n := (0 : Int64)) (by decide) ?_
    refine own_iload X11 hx hby at_85 (pc' := 87) rfl rfl ?_
    refine own_lloadN X11 hx hby at_87 (pc' := 88) rfl rfl ?_
    refine own_iload X11 hx hby at_88 (pc' := 90) rfl rfl ?_
    refine own_lk3 hw X11 hx hZ hby (by rw [hml]; rfl) hown at_90 (pc' := 93) rfl e11 (W := 1) (Nat.le_of_eq rfl) (rm1 l Z a0 hw [] b11 (0 : Int64) ((1 : Int32) + (((p5.toUInt32 >>> ((2 : Int32) &&& 31).toUInt32).toInt32) &&& (3 : Int32))) p0 (p4 &&& (2147483647 : Int32)) h11 n0 Zn f_O_b11 ge_b11) (by decide) (by decide) (by decide) (by decide) (fun v13 T13 L13 X13 hQ13 => ?_)
    obtain ⟨rfl, Nq13, K13, r12, O13⟩ := hQ13
    have N13 := Fr.app N0 Nq13
    have Zn := Nat.le_trans Zn K13.1
    show own_End p e below _ (T13.setTop (mkF m 93 _ [(.ref b11)]))
    refine own_astore X13 hx hby at_93 (pc' := 95) rfl rfl (l' := #[.val (.long p0), .second, .val (.long p1), .second, .val (.long p2), .second, .val (.long p3), .second, .val (.int p4), .val (.int p5), .val (.long (2305843009213693951 : Int64)), .second, .val (.long (p1 &&& (2305843009213693951 : Int64))), .second, .val (.long (p2 &&& (2305843009213693951 : Int64))), .second, .val (.long (p3 &&& (2305843009213693951 : Int64))), .second, .val (.int (p4 &&& (2147483647 : Int32))), .val (.int (1 : Int32)), .val (.int ((1 : Int32) + (((p5.toUInt32 >>> ((2 : Int32) &&& 31).toUInt32).toInt32) &&& (3 : Int32)))), .val (.int (1 : Int32)), .val (.int (0 : Int32)), .val (.ref b11), .unset, .unset, .unset, .unset, .unset, .unset, .unset, .unset]) rfl ?_
    refine own_iload X13 hx hby at_95 (pc' := 97) rfl rfl ?_
    refine own_ifN X13 hx hby at_97 (pc' := 100) rfl (show ¬ (1 : Int32) = (0 : Int32) by decide) ?_
    refine own_aload X13 hx hby at_100 (pc' := 102) rfl rfl rfl ?_
    refine own_lload X13 hx hby at_102 (pc' := 104) rfl rfl ?_
    refine own_lk7 hw X13 hx hZ hby (by rw [hml]; rfl) hown at_104 (pc' := 107) rfl rfl O13.1 (W := 0) (Nat.le_of_eq rfl) (rm9 l Z a0 hw [] b11 (p1 &&& (2305843009213693951 : Int64)) r12 (0 : Int64) ((1 : Int32) + (((p5.toUInt32 >>> ((2 : Int32) &&& 31).toUInt32).toInt32) &&& (3 : Int32))) p0 (p4 &&& (2147483647 : Int32)) (0 : Int32) T13.heap n0 Zn O13 ge_b11) (by decide) (by decide) (by decide) (by decide) (fun v14 T14 L14 X14 hQ14 => ?_)
    obtain ⟨rfl, Nq14, K14, O14⟩ := hQ14
    have N14 := Fr.app N13 Nq14
    have Zn := Nat.le_trans Zn K14.1
    show own_End p e below _ (T14.setTop (mkF m 107 _ []))
    refine own_iload X14 hx hby at_107 (pc' := 109) rfl rfl ?_
    refine own_ifY X14 hx hby at_109 (pc' := 117) (by decide) (by decide) (show (0 : Int32) = (0 : Int32) by decide) ?_
    refine own_aload X14 hx hby at_117 (pc' := 119) rfl rfl rfl ?_
    refine own_lload X14 hx hby at_119 (pc' := 121) rfl rfl ?_
    rcases Decidable.em (p0 < ((((p1 &&& (2305843009213693951 : Int64)) + ((p4 &&& (2147483647 : Int32)).toInt64)) + (p2 &&& (2305843009213693951 : Int64))) + ((p4 &&& (2147483647 : Int32)).toInt64))) with hf15 | hf15
    · show own_End p e below _ (T14.setTop (mkF m 121 #[.val (.long p0), .second, .val (.long p1), .second, .val (.long p2), .second, .val (.long p3), .second, .val (.int p4), .val (.int p5), .val (.long (2305843009213693951 : Int64)), .second, .val (.long (p1 &&& (2305843009213693951 : Int64))), .second, .val (.long (p2 &&& (2305843009213693951 : Int64))), .second, .val (.long (p3 &&& (2305843009213693951 : Int64))), .second, .val (.int (p4 &&& (2147483647 : Int32))), .val (.int (1 : Int32)), .val (.int ((1 : Int32) + (((p5.toUInt32 >>> ((2 : Int32) &&& 31).toUInt32).toInt32) &&& (3 : Int32)))), .val (.int (1 : Int32)), .val (.int (0 : Int32)), .val (.ref b11), .unset, .unset, .unset, .unset, .unset, .unset, .unset, .unset] [(.long (p2 &&& (2305843009213693951 : Int64))), (.ref b11)]))
      refine own_lk4 hw X14 hx hZ hby (by rw [hml]; rfl) hown at_121 (pc' := 124) rfl rfl O14.1 (W := 0) (Nat.le_of_eq rfl) (rm6c l Z a0 hw [] b11 (p2 &&& (2305843009213693951 : Int64)) r12 (0 : Int64) ((1 : Int32) + (((p5.toUInt32 >>> ((2 : Int32) &&& 31).toUInt32).toInt32) &&& (3 : Int32))) p0 (p4 &&& (2147483647 : Int32)) (1 : Int32) ((p1 &&& (2305843009213693951 : Int64)) + ((p4 &&& (2147483647 : Int32)).toInt64)) (0 : Int32) T14.heap n0 Zn O14 ge_b11 (by decide) hf15) (by decide) (by decide) (by decide) (by decide) (fun v16 T16 L16 X16 hQ16 => ?_)
      obtain ⟨rfl, Nq16, K16, O16⟩ := hQ16
      have N16 := Fr.app N14 Nq16
      have Zn := Nat.le_trans Zn K16.1
      show own_End p e below _ (T16.setTop (mkF m 124 _ [(.int (0 : Int32))]))
      refine own_istore X16 hx hby at_124 (pc' := 126) rfl (l' := #[.val (.long p0), .second, .val (.long p1), .second, .val (.long p2), .second, .val (.long p3), .second, .val (.int p4), .val (.int p5), .val (.long (2305843009213693951 : Int64)), .second, .val (.long (p1 &&& (2305843009213693951 : Int64))), .second, .val (.long (p2 &&& (2305843009213693951 : Int64))), .second, .val (.long (p3 &&& (2305843009213693951 : Int64))), .second, .val (.int (p4 &&& (2147483647 : Int32))), .val (.int (1 : Int32)), .val (.int ((1 : Int32) + (((p5.toUInt32 >>> ((2 : Int32) &&& 31).toUInt32).toInt32) &&& (3 : Int32)))), .val (.int (1 : Int32)), .val (.int (0 : Int32)), .val (.ref b11), .val (.int (0 : Int32)), .unset, .unset, .unset, .unset, .unset, .unset, .unset]) rfl ?_
      refine own_aload X16 hx hby at_126 (pc' := 128) rfl rfl rfl ?_
      refine own_lload X16 hx hby at_128 (pc' := 130) rfl rfl ?_
      rcases Decidable.em (p0 < ((((p1 &&& (2305843009213693951 : Int64)) + ((p4 &&& (2147483647 : Int32)).toInt64)) + (p3 &&& (2305843009213693951 : Int64))) + ((p4 &&& (2147483647 : Int32)).toInt64))) with hf17 | hf17
      · show own_End p e below _ (T16.setTop (mkF m 130 #[.val (.long p0), .second, .val (.long p1), .second, .val (.long p2), .second, .val (.long p3), .second, .val (.int p4), .val (.int p5), .val (.long (2305843009213693951 : Int64)), .second, .val (.long (p1 &&& (2305843009213693951 : Int64))), .second, .val (.long (p2 &&& (2305843009213693951 : Int64))), .second, .val (.long (p3 &&& (2305843009213693951 : Int64))), .second, .val (.int (p4 &&& (2147483647 : Int32))), .val (.int (1 : Int32)), .val (.int ((1 : Int32) + (((p5.toUInt32 >>> ((2 : Int32) &&& 31).toUInt32).toInt32) &&& (3 : Int32)))), .val (.int (1 : Int32)), .val (.int (0 : Int32)), .val (.ref b11), .val (.int (0 : Int32)), .unset, .unset, .unset, .unset, .unset, .unset, .unset] [(.long (p3 &&& (2305843009213693951 : Int64))), (.ref b11)]))
        refine own_lk4 hw X16 hx hZ hby (by rw [hml]; rfl) hown at_130 (pc' := 133) rfl rfl O16.1 (W := 0) (Nat.le_of_eq rfl) (rm6c l Z a0 hw [] b11 (p3 &&& (2305843009213693951 : Int64)) r12 (0 : Int64) ((1 : Int32) + (((p5.toUInt32 >>> ((2 : Int32) &&& 31).toUInt32).toInt32) &&& (3 : Int32))) p0 (p4 &&& (2147483647 : Int32)) (1 : Int32) ((p1 &&& (2305843009213693951 : Int64)) + ((p4 &&& (2147483647 : Int32)).toInt64)) (1 : Int32) T16.heap n0 Zn O16 ge_b11 (by decide) hf17) (by decide) (by decide) (by decide) (by decide) (fun v18 T18 L18 X18 hQ18 => ?_)
        obtain ⟨rfl, Nq18, K18, O18⟩ := hQ18
        have N18 := Fr.app N16 Nq18
        have Zn := Nat.le_trans Zn K18.1
        show own_End p e below _ (T18.setTop (mkF m 133 _ [(.int (0 : Int32))]))
        refine own_istore X18 hx hby at_133 (pc' := 135) rfl (l' := #[.val (.long p0), .second, .val (.long p1), .second, .val (.long p2), .second, .val (.long p3), .second, .val (.int p4), .val (.int p5), .val (.long (2305843009213693951 : Int64)), .second, .val (.long (p1 &&& (2305843009213693951 : Int64))), .second, .val (.long (p2 &&& (2305843009213693951 : Int64))), .second, .val (.long (p3 &&& (2305843009213693951 : Int64))), .second, .val (.int (p4 &&& (2147483647 : Int32))), .val (.int (1 : Int32)), .val (.int ((1 : Int32) + (((p5.toUInt32 >>> ((2 : Int32) &&& 31).toUInt32).toInt32) &&& (3 : Int32)))), .val (.int (1 : Int32)), .val (.int (0 : Int32)), .val (.ref b11), .val (.int (0 : Int32)), .val (.int (0 : Int32)), .unset, .unset, .unset, .unset, .unset, .unset]) rfl ?_
        refine own_iload X18 hx hby at_135 (pc' := 137) rfl rfl ?_
        refine own_ifN X18 hx hby at_137 (pc' := 140) rfl (show ¬ (1 : Int32) = (0 : Int32) by decide) ?_
        refine own_lload X18 hx hby at_140 (pc' := 142) rfl rfl ?_
        refine own_iload X18 hx hby at_142 (pc' := 144) rfl rfl ?_
        refine own_i2l X18 hx hby at_144 (pc' := 145) rfl ?_
        refine own_ladd X18 hx hby at_145 (pc' := 146) rfl ?_
        refine own_goto X18 hx hby at_146 (pc' := 150) (by decide) (by decide) ?_
        refine own_lstore X18 hx hby at_150 (pc' := 152) rfl (l' := #[.val (.long p0), .second, .val (.long p1), .second, .val (.long p2), .second, .val (.long p3), .second, .val (.int p4), .val (.int p5), .val (.long (2305843009213693951 : Int64)), .second, .val (.long (p1 &&& (2305843009213693951 : Int64))), .second, .val (.long (p2 &&& (2305843009213693951 : Int64))), .second, .val (.long (p3 &&& (2305843009213693951 : Int64))), .second, .val (.int (p4 &&& (2147483647 : Int32))), .val (.int (1 : Int32)), .val (.int ((1 : Int32) + (((p5.toUInt32 >>> ((2 : Int32) &&& 31).toUInt32).toInt32) &&& (3 : Int32)))), .val (.int (1 : Int32)), .val (.int (0 : Int32)), .val (.ref b11), .val (.int (0 : Int32)), .val (.int (0 : Int32)), .val (.long ((p1 &&& (2305843009213693951 : Int64)) + ((p4 &&& (2147483647 : Int32)).toInt64))), .second, .unset, .unset, .unset, .unset]) rfl ?_
        refine own_iload X18 hx hby at_152 (pc' := 154) rfl rfl ?_
        refine own_ifN X18 hx hby at_154 (pc' := 157) rfl (show (0 : Int32) = (0 : Int32) by decide) ?_
        refine own_iload X18 hx hby at_157 (pc' := 159) rfl rfl ?_
        refine own_ifN X18 hx hby at_159 (pc' := 162) rfl (show ¬ (1 : Int32) = (0 : Int32) by decide) ?_
        refine own_lload X18 hx hby at_162 (pc' := 164) rfl rfl ?_
        refine own_lload X18 hx hby at_164 (pc' := 166) rfl rfl ?_
        refine own_ladd X18 hx hby at_166 (pc' := 167) rfl ?_
        refine own_iload X18 hx hby at_167 (pc' := 169) rfl rfl ?_
        refine own_i2l X18 hx hby at_169 (pc' := 170) rfl ?_
        refine own_ladd X18 hx hby at_170 (pc' := 171) rfl ?_
        refine own_lloadN X18 hx hby at_171 (pc' := 172) rfl rfl ?_
        refine own_lcmp X18 hx hby at_172 (pc' := 173) rfl ?_
        refine own_ifY X18 hx hby at_173 (pc' := 180) (by decide) (by decide) (own_ctL_y (show p0 < ((((p1 &&& (2305843009213693951 : Int64)) + ((p4 &&& (2147483647 : Int32)).toInt64)) + (p2 &&& (2305843009213693951 : Int64))) + ((p4 &&& (2147483647 : Int32)).toInt64)) from hf15)) ?_
        refine own_iconst X18 hx hby at_180 (pc' := 181) rfl (n := (0 : Int32)) (by decide) ?_
        refine own_istore X18 hx hby at_181 (pc' := 183) rfl (l' := #[.val (.long p0), .second, .val (.long p1), .second, .val (.long p2), .second, .val (.long p3), .second, .val (.int p4), .val (.int p5), .val (.long (2305843009213693951 : Int64)), .second, .val (.long (p1 &&& (2305843009213693951 : Int64))), .second, .val (.long (p2 &&& (2305843009213693951 : Int64))), .second, .val (.long (p3 &&& (2305843009213693951 : Int64))), .second, .val (.int (p4 &&& (2147483647 : Int32))), .val (.int (1 : Int32)), .val (.int ((1 : Int32) + (((p5.toUInt32 >>> ((2 : Int32) &&& 31).toUInt32).toInt32) &&& (3 : Int32)))), .val (.int (1 : Int32)), .val (.int (0 : Int32)), .val (.ref b11), .val (.int (0 : Int32)), .val (.int (0 : Int32)), .val (.long ((p1 &&& (2305843009213693951 : Int64)) + ((p4 &&& (2147483647 : Int32)).toInt64))), .second, .val (.int (0 : Int32)), .unset, .unset, .unset]) rfl ?_
        refine own_iload X18 hx hby at_183 (pc' := 185) rfl rfl ?_
        refine own_ifY X18 hx hby at_185 (pc' := 211) (by decide) (by decide) (show (0 : Int32) = (0 : Int32) by decide) ?_
        refine own_iconst X18 hx hby at_211 (pc' := 212) rfl (n := (0 : Int32)) (by decide) ?_
        refine own_istore X18 hx hby at_212 (pc' := 214) rfl (l' := #[.val (.long p0), .second, .val (.long p1), .second, .val (.long p2), .second, .val (.long p3), .second, .val (.int p4), .val (.int p5), .val (.long (2305843009213693951 : Int64)), .second, .val (.long (p1 &&& (2305843009213693951 : Int64))), .second, .val (.long (p2 &&& (2305843009213693951 : Int64))), .second, .val (.long (p3 &&& (2305843009213693951 : Int64))), .second, .val (.int (p4 &&& (2147483647 : Int32))), .val (.int (1 : Int32)), .val (.int ((1 : Int32) + (((p5.toUInt32 >>> ((2 : Int32) &&& 31).toUInt32).toInt32) &&& (3 : Int32)))), .val (.int (1 : Int32)), .val (.int (0 : Int32)), .val (.ref b11), .val (.int (0 : Int32)), .val (.int (0 : Int32)), .val (.long ((p1 &&& (2305843009213693951 : Int64)) + ((p4 &&& (2147483647 : Int32)).toInt64))), .second, .val (.int (0 : Int32)), .val (.int (0 : Int32)), .unset, .unset]) rfl ?_
        refine own_iload X18 hx hby at_214 (pc' := 216) rfl rfl ?_
        refine own_ifN X18 hx hby at_216 (pc' := 219) rfl (show ¬ (1 : Int32) = (0 : Int32) by decide) ?_
        refine own_iconst X18 hx hby at_219 (pc' := 220) rfl (n := (1 : Int32)) (by decide) ?_
        refine own_goto X18 hx hby at_220 (pc' := 224) (by decide) (by decide) ?_
        refine own_istore X18 hx hby at_224 (pc' := 226) rfl (l' := #[.val (.long p0), .second, .val (.long p1), .second, .val (.long p2), .second, .val (.long p3), .second, .val (.int p4), .val (.int p5), .val (.long (2305843009213693951 : Int64)), .second, .val (.long (p1 &&& (2305843009213693951 : Int64))), .second, .val (.long (p2 &&& (2305843009213693951 : Int64))), .second, .val (.long (p3 &&& (2305843009213693951 : Int64))), .second, .val (.int (p4 &&& (2147483647 : Int32))), .val (.int (1 : Int32)), .val (.int ((1 : Int32) + (((p5.toUInt32 >>> ((2 : Int32) &&& 31).toUInt32).toInt32) &&& (3 : Int32)))), .val (.int (1 : Int32)), .val (.int (0 : Int32)), .val (.ref b11), .val (.int (0 : Int32)), .val (.int (0 : Int32)), .val (.long ((p1 &&& (2305843009213693951 : Int64)) + ((p4 &&& (2147483647 : Int32)).toInt64))), .second, .val (.int (0 : Int32)), .val (.int (0 : Int32)), .val (.int (1 : Int32)), .unset]) rfl ?_
        refine own_iload X18 hx hby at_226 (pc' := 228) rfl rfl ?_
        refine own_ifY X18 hx hby at_228 (pc' := 242) (by decide) (by decide) (show (0 : Int32) = (0 : Int32) by decide) ?_
        refine own_iconst X18 hx hby at_242 (pc' := 243) rfl (n := (0 : Int32)) (by decide) ?_
        refine own_istore X18 hx hby at_243 (pc' := 245) rfl (l' := #[.val (.long p0), .second, .val (.long p1), .second, .val (.long p2), .second, .val (.long p3), .second, .val (.int p4), .val (.int p5), .val (.long (2305843009213693951 : Int64)), .second, .val (.long (p1 &&& (2305843009213693951 : Int64))), .second, .val (.long (p2 &&& (2305843009213693951 : Int64))), .second, .val (.long (p3 &&& (2305843009213693951 : Int64))), .second, .val (.int (p4 &&& (2147483647 : Int32))), .val (.int (1 : Int32)), .val (.int ((1 : Int32) + (((p5.toUInt32 >>> ((2 : Int32) &&& 31).toUInt32).toInt32) &&& (3 : Int32)))), .val (.int (1 : Int32)), .val (.int (0 : Int32)), .val (.ref b11), .val (.int (0 : Int32)), .val (.int (0 : Int32)), .val (.long ((p1 &&& (2305843009213693951 : Int64)) + ((p4 &&& (2147483647 : Int32)).toInt64))), .second, .val (.int (0 : Int32)), .val (.int (0 : Int32)), .val (.int (1 : Int32)), .val (.int (0 : Int32))]) rfl ?_
        refine own_iload X18 hx hby at_245 (pc' := 247) rfl rfl ?_
        refine own_iload X18 hx hby at_247 (pc' := 249) rfl rfl ?_
        refine own_icN X18 hx hby at_249 (pc' := 252) rfl (show (0 : Int32) = (0 : Int32) by decide) ?_
        refine own_iload X18 hx hby at_252 (pc' := 254) rfl rfl ?_
        refine own_iload X18 hx hby at_254 (pc' := 256) rfl rfl ?_
        refine own_icN X18 hx hby at_256 (pc' := 259) rfl (show (0 : Int32) = (0 : Int32) by decide) ?_
        refine own_aload X18 hx hby at_259 (pc' := 261) rfl rfl rfl ?_
        refine own_lk5 hw X18 hx hZ hby (by rw [hml]; rfl) hown at_261 (pc' := 264) rfl rfl O18.1 (W := 0) (Nat.le_of_eq rfl) (rm7 l Z a0 hw [] b11 r12 (0 : Int64) ((1 : Int32) + (((p5.toUInt32 >>> ((2 : Int32) &&& 31).toUInt32).toInt32) &&& (3 : Int32))) p0 (p4 &&& (2147483647 : Int32)) (1 : Int32) ((p1 &&& (2305843009213693951 : Int64)) + ((p4 &&& (2147483647 : Int32)).toInt64)) (1 : Int32) (0 : Int32) T18.heap n0 Zn O18 (by unfold own_wm; rw [if_neg (by decide)])) (by decide) (by decide) (by decide) (by decide) (fun v19 T19 L19 X19 hQ19 => ?_)
        obtain ⟨rfl, Nq19, e19⟩ := hQ19
        have N19 := Fr.app N18 Nq19
        show own_End p e below _ (T19.setTop (mkF m 264 _ [(.int (0 : Int32))]))
        refine own_iload X19 hx hby at_264 (pc' := 266) rfl rfl ?_
        refine own_icN X19 hx hby at_266 (pc' := 269) rfl (show (0 : Int32) = (0 : Int32) by decide) ?_
        refine own_aload X19 hx hby at_269 (pc' := 271) rfl rfl rfl ?_
        refine own_lk6 hw X19 hx hZ hby (by rw [hml]; rfl) hown at_271 (pc' := 274) rfl e19 O18.1 (W := 0) (Nat.le_of_eq rfl) (rm8 l Z a0 hw [] b11 r12 (0 : Int64) ((1 : Int32) + (((p5.toUInt32 >>> ((2 : Int32) &&& 31).toUInt32).toInt32) &&& (3 : Int32))) p0 (p4 &&& (2147483647 : Int32)) (1 : Int32) ((p1 &&& (2305843009213693951 : Int64)) + ((p4 &&& (2147483647 : Int32)).toInt64)) (1 : Int32) T18.heap n0 Zn O18) (by decide) (by decide) (by decide) (by decide) (fun v20 T20 L20 X20 hQ20 => ?_)
        obtain ⟨rfl, Nq20, e20⟩ := hQ20
        have N20 := Fr.app N19 Nq20
        show own_End p e below _ (T20.setTop (mkF m 274 _ [(.int (0 : Int32))]))
        refine own_iload X20 hx hby at_274 (pc' := 276) rfl rfl ?_
        refine own_ifY X20 hx hby at_276 (pc' := 283) (by decide) (by decide) (show ¬ (1 : Int32) = (0 : Int32) by decide) ?_
        refine own_iconst X20 hx hby at_283 (pc' := 284) rfl (n := (0 : Int32)) (by decide) ?_
        refine own_icN X20 hx hby at_284 (pc' := 287) rfl (show (0 : Int32) = (0 : Int32) by decide) ?_
        refine own_iconst X20 hx hby at_287 (pc' := 288) rfl (n := (1 : Int32)) (by decide) ?_
        refine own_goto X20 hx hby at_288 (pc' := 292) (by decide) (by decide) ?_
        refine own_zreturn X20 hx hlk hby hret (Or.inr rfl) at_292 (own_lv ?_ (by decide) (by decide))
        show Q0 Z p0 p1 p2 p3 p4 p5  h0 n0 (some (.int (1 : Int32))) T20.heap _
        rw [e20]
        exact ⟨rfl, N20⟩
      · show own_End p e below _ (T16.setTop (mkF m 130 #[.val (.long p0), .second, .val (.long p1), .second, .val (.long p2), .second, .val (.long p3), .second, .val (.int p4), .val (.int p5), .val (.long (2305843009213693951 : Int64)), .second, .val (.long (p1 &&& (2305843009213693951 : Int64))), .second, .val (.long (p2 &&& (2305843009213693951 : Int64))), .second, .val (.long (p3 &&& (2305843009213693951 : Int64))), .second, .val (.int (p4 &&& (2147483647 : Int32))), .val (.int (1 : Int32)), .val (.int ((1 : Int32) + (((p5.toUInt32 >>> ((2 : Int32) &&& 31).toUInt32).toInt32) &&& (3 : Int32)))), .val (.int (1 : Int32)), .val (.int (0 : Int32)), .val (.ref b11), .val (.int (0 : Int32)), .unset, .unset, .unset, .unset, .unset, .unset, .unset] [(.long (p3 &&& (2305843009213693951 : Int64))), (.ref b11)]))
        refine own_lk4 hw X16 hx hZ hby (by rw [hml]; rfl) hown at_130 (pc' := 133) rfl rfl O16.1 (W := 0) (Nat.le_of_eq rfl) (rm6b l Z a0 hw [] b11 (p3 &&& (2305843009213693951 : Int64)) r12 (0 : Int64) ((1 : Int32) + (((p5.toUInt32 >>> ((2 : Int32) &&& 31).toUInt32).toInt32) &&& (3 : Int32))) p0 (p4 &&& (2147483647 : Int32)) (1 : Int32) ((p1 &&& (2305843009213693951 : Int64)) + ((p4 &&& (2147483647 : Int32)).toInt64)) (1 : Int32) T16.heap n0 Zn O16 (by decide) hf17) (by decide) (by decide) (by decide) (by decide) (fun v21 T21 L21 X21 hQ21 => ?_)
        obtain ⟨rfl, Nq21, e21⟩ := hQ21
        have N21 := Fr.app N16 Nq21
        show own_End p e below _ (T21.setTop (mkF m 133 _ [(.int (0 : Int32))]))
        refine own_istore X21 hx hby at_133 (pc' := 135) rfl (l' := #[.val (.long p0), .second, .val (.long p1), .second, .val (.long p2), .second, .val (.long p3), .second, .val (.int p4), .val (.int p5), .val (.long (2305843009213693951 : Int64)), .second, .val (.long (p1 &&& (2305843009213693951 : Int64))), .second, .val (.long (p2 &&& (2305843009213693951 : Int64))), .second, .val (.long (p3 &&& (2305843009213693951 : Int64))), .second, .val (.int (p4 &&& (2147483647 : Int32))), .val (.int (1 : Int32)), .val (.int ((1 : Int32) + (((p5.toUInt32 >>> ((2 : Int32) &&& 31).toUInt32).toInt32) &&& (3 : Int32)))), .val (.int (1 : Int32)), .val (.int (0 : Int32)), .val (.ref b11), .val (.int (0 : Int32)), .val (.int (0 : Int32)), .unset, .unset, .unset, .unset, .unset, .unset]) rfl ?_
        refine own_iload X21 hx hby at_135 (pc' := 137) rfl rfl ?_
        refine own_ifN X21 hx hby at_137 (pc' := 140) rfl (show ¬ (1 : Int32) = (0 : Int32) by decide) ?_
        refine own_lload X21 hx hby at_140 (pc' := 142) rfl rfl ?_
        refine own_iload X21 hx hby at_142 (pc' := 144) rfl rfl ?_
        refine own_i2l X21 hx hby at_144 (pc' := 145) rfl ?_
        refine own_ladd X21 hx hby at_145 (pc' := 146) rfl ?_
        refine own_goto X21 hx hby at_146 (pc' := 150) (by decide) (by decide) ?_
        refine own_lstore X21 hx hby at_150 (pc' := 152) rfl (l' := #[.val (.long p0), .second, .val (.long p1), .second, .val (.long p2), .second, .val (.long p3), .second, .val (.int p4), .val (.int p5), .val (.long (2305843009213693951 : Int64)), .second, .val (.long (p1 &&& (2305843009213693951 : Int64))), .second, .val (.long (p2 &&& (2305843009213693951 : Int64))), .second, .val (.long (p3 &&& (2305843009213693951 : Int64))), .second, .val (.int (p4 &&& (2147483647 : Int32))), .val (.int (1 : Int32)), .val (.int ((1 : Int32) + (((p5.toUInt32 >>> ((2 : Int32) &&& 31).toUInt32).toInt32) &&& (3 : Int32)))), .val (.int (1 : Int32)), .val (.int (0 : Int32)), .val (.ref b11), .val (.int (0 : Int32)), .val (.int (0 : Int32)), .val (.long ((p1 &&& (2305843009213693951 : Int64)) + ((p4 &&& (2147483647 : Int32)).toInt64))), .second, .unset, .unset, .unset, .unset]) rfl ?_
        refine own_iload X21 hx hby at_152 (pc' := 154) rfl rfl ?_
        refine own_ifN X21 hx hby at_154 (pc' := 157) rfl (show (0 : Int32) = (0 : Int32) by decide) ?_
        refine own_iload X21 hx hby at_157 (pc' := 159) rfl rfl ?_
        refine own_ifN X21 hx hby at_159 (pc' := 162) rfl (show ¬ (1 : Int32) = (0 : Int32) by decide) ?_
        refine own_lload X21 hx hby at_162 (pc' := 164) rfl rfl ?_
        refine own_lload X21 hx hby at_164 (pc' := 166) rfl rfl ?_
        refine own_ladd X21 hx hby at_166 (pc' := 167) rfl ?_
        refine own_iload X21 hx hby at_167 (pc' := 169) rfl rfl ?_
        refine own_i2l X21 hx hby at_169 (pc' := 170) rfl ?_
        refine own_ladd X21 hx hby at_170 (pc' := 171) rfl ?_
        refine own_lloadN X21 hx hby at_171 (pc' := 172) rfl rfl ?_
        refine own_lcmp X21 hx hby at_172 (pc' := 173) rfl ?_
        refine own_ifY X21 hx hby at_173 (pc' := 180) (by decide) (by decide) (own_ctL_y (show p0 < ((((p1 &&& (2305843009213693951 : Int64)) + ((p4 &&& (2147483647 : Int32)).toInt64)) + (p2 &&& (2305843009213693951 : Int64))) + ((p4 &&& (2147483647 : Int32)).toInt64)) from hf15)) ?_
        refine own_iconst X21 hx hby at_180 (pc' := 181) rfl (n := (0 : Int32)) (by decide) ?_
        refine own_istore X21 hx hby at_181 (pc' := 183) rfl (l' := #[.val (.long p0), .second, .val (.long p1), .second, .val (.long p2), .second, .val (.long p3), .second, .val (.int p4), .val (.int p5), .val (.long (2305843009213693951 : Int64)), .second, .val (.long (p1 &&& (2305843009213693951 : Int64))), .second, .val (.long (p2 &&& (2305843009213693951 : Int64))), .second, .val (.long (p3 &&& (2305843009213693951 : Int64))), .second, .val (.int (p4 &&& (2147483647 : Int32))), .val (.int (1 : Int32)), .val (.int ((1 : Int32) + (((p5.toUInt32 >>> ((2 : Int32) &&& 31).toUInt32).toInt32) &&& (3 : Int32)))), .val (.int (1 : Int32)), .val (.int (0 : Int32)), .val (.ref b11), .val (.int (0 : Int32)), .val (.int (0 : Int32)), .val (.long ((p1 &&& (2305843009213693951 : Int64)) + ((p4 &&& (2147483647 : Int32)).toInt64))), .second, .val (.int (0 : Int32)), .unset, .unset, .unset]) rfl ?_
        refine own_iload X21 hx hby at_183 (pc' := 185) rfl rfl ?_
        refine own_ifY X21 hx hby at_185 (pc' := 211) (by decide) (by decide) (show (0 : Int32) = (0 : Int32) by decide) ?_
        refine own_iconst X21 hx hby at_211 (pc' := 212) rfl (n := (0 : Int32)) (by decide) ?_
        refine own_istore X21 hx hby at_212 (pc' := 214) rfl (l' := #[.val (.long p0), .second, .val (.long p1), .second, .val (.long p2), .second, .val (.long p3), .second, .val (.int p4), .val (.int p5), .val (.long (2305843009213693951 : Int64)), .second, .val (.long (p1 &&& (2305843009213693951 : Int64))), .second, .val (.long (p2 &&& (2305843009213693951 : Int64))), .second, .val (.long (p3 &&& (2305843009213693951 : Int64))), .second, .val (.int (p4 &&& (2147483647 : Int32))), .val (.int (1 : Int32)), .val (.int ((1 : Int32) + (((p5.toUInt32 >>> ((2 : Int32) &&& 31).toUInt32).toInt32) &&& (3 : Int32)))), .val (.int (1 : Int32)), .val (.int (0 : Int32)), .val (.ref b11), .val (.int (0 : Int32)), .val (.int (0 : Int32)), .val (.long ((p1 &&& (2305843009213693951 : Int64)) + ((p4 &&& (2147483647 : Int32)).toInt64))), .second, .val (.int (0 : Int32)), .val (.int (0 : Int32)), .unset, .unset]) rfl ?_
        refine own_iload X21 hx hby at_214 (pc' := 216) rfl rfl ?_
        refine own_ifN X21 hx hby at_216 (pc' := 219) rfl (show ¬ (1 : Int32) = (0 : Int32) by decide) ?_
        refine own_iconst X21 hx hby at_219 (pc' := 220) rfl (n := (1 : Int32)) (by decide) ?_
        refine own_goto X21 hx hby at_220 (pc' := 224) (by decide) (by decide) ?_
        refine own_istore X21 hx hby at_224 (pc' := 226) rfl (l' := #[.val (.long p0), .second, .val (.long p1), .second, .val (.long p2), .second, .val (.long p3), .second, .val (.int p4), .val (.int p5), .val (.long (2305843009213693951 : Int64)), .second, .val (.long (p1 &&& (2305843009213693951 : Int64))), .second, .val (.long (p2 &&& (2305843009213693951 : Int64))), .second, .val (.long (p3 &&& (2305843009213693951 : Int64))), .second, .val (.int (p4 &&& (2147483647 : Int32))), .val (.int (1 : Int32)), .val (.int ((1 : Int32) + (((p5.toUInt32 >>> ((2 : Int32) &&& 31).toUInt32).toInt32) &&& (3 : Int32)))), .val (.int (1 : Int32)), .val (.int (0 : Int32)), .val (.ref b11), .val (.int (0 : Int32)), .val (.int (0 : Int32)), .val (.long ((p1 &&& (2305843009213693951 : Int64)) + ((p4 &&& (2147483647 : Int32)).toInt64))), .second, .val (.int (0 : Int32)), .val (.int (0 : Int32)), .val (.int (1 : Int32)), .unset]) rfl ?_
        refine own_iload X21 hx hby at_226 (pc' := 228) rfl rfl ?_
        refine own_ifY X21 hx hby at_228 (pc' := 242) (by decide) (by decide) (show (0 : Int32) = (0 : Int32) by decide) ?_
        refine own_iconst X21 hx hby at_242 (pc' := 243) rfl (n := (0 : Int32)) (by decide) ?_
        refine own_istore X21 hx hby at_243 (pc' := 245) rfl (l' := #[.val (.long p0), .second, .val (.long p1), .second, .val (.long p2), .second, .val (.long p3), .second, .val (.int p4), .val (.int p5), .val (.long (2305843009213693951 : Int64)), .second, .val (.long (p1 &&& (2305843009213693951 : Int64))), .second, .val (.long (p2 &&& (2305843009213693951 : Int64))), .second, .val (.long (p3 &&& (2305843009213693951 : Int64))), .second, .val (.int (p4 &&& (2147483647 : Int32))), .val (.int (1 : Int32)), .val (.int ((1 : Int32) + (((p5.toUInt32 >>> ((2 : Int32) &&& 31).toUInt32).toInt32) &&& (3 : Int32)))), .val (.int (1 : Int32)), .val (.int (0 : Int32)), .val (.ref b11), .val (.int (0 : Int32)), .val (.int (0 : Int32)), .val (.long ((p1 &&& (2305843009213693951 : Int64)) + ((p4 &&& (2147483647 : Int32)).toInt64))), .second, .val (.int (0 : Int32)), .val (.int (0 : Int32)), .val (.int (1 : Int32)), .val (.int (0 : Int32))]) rfl ?_
        refine own_iload X21 hx hby at_245 (pc' := 247) rfl rfl ?_
        refine own_iload X21 hx hby at_247 (pc' := 249) rfl rfl ?_
        refine own_icN X21 hx hby at_249 (pc' := 252) rfl (show (0 : Int32) = (0 : Int32) by decide) ?_
        refine own_iload X21 hx hby at_252 (pc' := 254) rfl rfl ?_
        refine own_iload X21 hx hby at_254 (pc' := 256) rfl rfl ?_
        refine own_icN X21 hx hby at_256 (pc' := 259) rfl (show (0 : Int32) = (0 : Int32) by decide) ?_
        refine own_aload X21 hx hby at_259 (pc' := 261) rfl rfl rfl ?_
        refine own_lk5 hw X21 hx hZ hby (by rw [hml]; rfl) hown at_261 (pc' := 264) rfl e21 O16.1 (W := 0) (Nat.le_of_eq rfl) (rm7 l Z a0 hw [] b11 r12 (0 : Int64) ((1 : Int32) + (((p5.toUInt32 >>> ((2 : Int32) &&& 31).toUInt32).toInt32) &&& (3 : Int32))) p0 (p4 &&& (2147483647 : Int32)) (1 : Int32) ((p1 &&& (2305843009213693951 : Int64)) + ((p4 &&& (2147483647 : Int32)).toInt64)) (1 : Int32) (0 : Int32) T16.heap n0 Zn O16 (by unfold own_wm; rw [if_neg (by decide)])) (by decide) (by decide) (by decide) (by decide) (fun v22 T22 L22 X22 hQ22 => ?_)
        obtain ⟨rfl, Nq22, e22⟩ := hQ22
        have N22 := Fr.app N21 Nq22
        show own_End p e below _ (T22.setTop (mkF m 264 _ [(.int (0 : Int32))]))
        refine own_iload X22 hx hby at_264 (pc' := 266) rfl rfl ?_
        refine own_icN X22 hx hby at_266 (pc' := 269) rfl (show (0 : Int32) = (0 : Int32) by decide) ?_
        refine own_aload X22 hx hby at_269 (pc' := 271) rfl rfl rfl ?_
        refine own_lk6 hw X22 hx hZ hby (by rw [hml]; rfl) hown at_271 (pc' := 274) rfl e22 O16.1 (W := 0) (Nat.le_of_eq rfl) (rm8 l Z a0 hw [] b11 r12 (0 : Int64) ((1 : Int32) + (((p5.toUInt32 >>> ((2 : Int32) &&& 31).toUInt32).toInt32) &&& (3 : Int32))) p0 (p4 &&& (2147483647 : Int32)) (1 : Int32) ((p1 &&& (2305843009213693951 : Int64)) + ((p4 &&& (2147483647 : Int32)).toInt64)) (1 : Int32) T16.heap n0 Zn O16) (by decide) (by decide) (by decide) (by decide) (fun v23 T23 L23 X23 hQ23 => ?_)
        obtain ⟨rfl, Nq23, e23⟩ := hQ23
        have N23 := Fr.app N22 Nq23
        show own_End p e below _ (T23.setTop (mkF m 274 _ [(.int (0 : Int32))]))
        refine own_iload X23 hx hby at_274 (pc' := 276) rfl rfl ?_
        refine own_ifY X23 hx hby at_276 (pc' := 283) (by decide) (by decide) (show ¬ (1 : Int32) = (0 : Int32) by decide) ?_
        refine own_iconst X23 hx hby at_283 (pc' := 284) rfl (n := (0 : Int32)) (by decide) ?_
        refine own_icN X23 hx hby at_284 (pc' := 287) rfl (show (0 : Int32) = (0 : Int32) by decide) ?_
        refine own_iconst X23 hx hby at_287 (pc' := 288) rfl (n := (1 : Int32)) (by decide) ?_
        refine own_goto X23 hx hby at_288 (pc' := 292) (by decide) (by decide) ?_
        refine own_zreturn X23 hx hlk hby hret (Or.inr rfl) at_292 (own_lv ?_ (by decide) (by decide))
        show Q0 Z p0 p1 p2 p3 p4 p5  h0 n0 (some (.int (1 : Int32))) T23.heap _
        rw [e23]
        exact ⟨rfl, N23⟩
    · show own_End p e below _ (T14.setTop (mkF m 121 #[.val (.long p0), .second, .val (.long p1), .second, .val (.long p2), .second, .val (.long p3), .second, .val (.int p4), .val (.int p5), .val (.long (2305843009213693951 : Int64)), .second, .val (.long (p1 &&& (2305843009213693951 : Int64))), .second, .val (.long (p2 &&& (2305843009213693951 : Int64))), .second, .val (.long (p3 &&& (2305843009213693951 : Int64))), .second, .val (.int (p4 &&& (2147483647 : Int32))), .val (.int (1 : Int32)), .val (.int ((1 : Int32) + (((p5.toUInt32 >>> ((2 : Int32) &&& 31).toUInt32).toInt32) &&& (3 : Int32)))), .val (.int (1 : Int32)), .val (.int (0 : Int32)), .val (.ref b11), .unset, .unset, .unset, .unset, .unset, .unset, .unset, .unset] [(.long (p2 &&& (2305843009213693951 : Int64))), (.ref b11)]))
      refine own_lk4 hw X14 hx hZ hby (by rw [hml]; rfl) hown at_121 (pc' := 124) rfl rfl O14.1 (W := 0) (Nat.le_of_eq rfl) (rm6b l Z a0 hw [] b11 (p2 &&& (2305843009213693951 : Int64)) r12 (0 : Int64) ((1 : Int32) + (((p5.toUInt32 >>> ((2 : Int32) &&& 31).toUInt32).toInt32) &&& (3 : Int32))) p0 (p4 &&& (2147483647 : Int32)) (1 : Int32) ((p1 &&& (2305843009213693951 : Int64)) + ((p4 &&& (2147483647 : Int32)).toInt64)) (0 : Int32) T14.heap n0 Zn O14 (by decide) hf15) (by decide) (by decide) (by decide) (by decide) (fun v24 T24 L24 X24 hQ24 => ?_)
      obtain ⟨rfl, Nq24, e24⟩ := hQ24
      have N24 := Fr.app N14 Nq24
      show own_End p e below _ (T24.setTop (mkF m 124 _ [(.int (1 : Int32))]))
      refine own_istore X24 hx hby at_124 (pc' := 126) rfl (l' := #[.val (.long p0), .second, .val (.long p1), .second, .val (.long p2), .second, .val (.long p3), .second, .val (.int p4), .val (.int p5), .val (.long (2305843009213693951 : Int64)), .second, .val (.long (p1 &&& (2305843009213693951 : Int64))), .second, .val (.long (p2 &&& (2305843009213693951 : Int64))), .second, .val (.long (p3 &&& (2305843009213693951 : Int64))), .second, .val (.int (p4 &&& (2147483647 : Int32))), .val (.int (1 : Int32)), .val (.int ((1 : Int32) + (((p5.toUInt32 >>> ((2 : Int32) &&& 31).toUInt32).toInt32) &&& (3 : Int32)))), .val (.int (1 : Int32)), .val (.int (0 : Int32)), .val (.ref b11), .val (.int (1 : Int32)), .unset, .unset, .unset, .unset, .unset, .unset, .unset]) rfl ?_
      refine own_aload X24 hx hby at_126 (pc' := 128) rfl rfl rfl ?_
      refine own_lload X24 hx hby at_128 (pc' := 130) rfl rfl ?_
      rcases Decidable.em (p0 < ((((p1 &&& (2305843009213693951 : Int64)) + ((p4 &&& (2147483647 : Int32)).toInt64)) + (p3 &&& (2305843009213693951 : Int64))) + ((p4 &&& (2147483647 : Int32)).toInt64))) with hf25 | hf25
      · show own_End p e below _ (T24.setTop (mkF m 130 #[.val (.long p0), .second, .val (.long p1), .second, .val (.long p2), .second, .val (.long p3), .second, .val (.int p4), .val (.int p5), .val (.long (2305843009213693951 : Int64)), .second, .val (.long (p1 &&& (2305843009213693951 : Int64))), .second, .val (.long (p2 &&& (2305843009213693951 : Int64))), .second, .val (.long (p3 &&& (2305843009213693951 : Int64))), .second, .val (.int (p4 &&& (2147483647 : Int32))), .val (.int (1 : Int32)), .val (.int ((1 : Int32) + (((p5.toUInt32 >>> ((2 : Int32) &&& 31).toUInt32).toInt32) &&& (3 : Int32)))), .val (.int (1 : Int32)), .val (.int (0 : Int32)), .val (.ref b11), .val (.int (1 : Int32)), .unset, .unset, .unset, .unset, .unset, .unset, .unset] [(.long (p3 &&& (2305843009213693951 : Int64))), (.ref b11)]))
        refine own_lk4 hw X24 hx hZ hby (by rw [hml]; rfl) hown at_130 (pc' := 133) rfl e24 O14.1 (W := 0) (Nat.le_of_eq rfl) (rm6c l Z a0 hw [] b11 (p3 &&& (2305843009213693951 : Int64)) r12 (0 : Int64) ((1 : Int32) + (((p5.toUInt32 >>> ((2 : Int32) &&& 31).toUInt32).toInt32) &&& (3 : Int32))) p0 (p4 &&& (2147483647 : Int32)) (1 : Int32) ((p1 &&& (2305843009213693951 : Int64)) + ((p4 &&& (2147483647 : Int32)).toInt64)) (0 : Int32) T14.heap n0 Zn O14 ge_b11 (by decide) hf25) (by decide) (by decide) (by decide) (by decide) (fun v26 T26 L26 X26 hQ26 => ?_)
        obtain ⟨rfl, Nq26, K26, O26⟩ := hQ26
        have N26 := Fr.app N24 Nq26
        have Zn := Nat.le_trans Zn K26.1
        show own_End p e below _ (T26.setTop (mkF m 133 _ [(.int (0 : Int32))]))
        refine own_istore X26 hx hby at_133 (pc' := 135) rfl (l' := #[.val (.long p0), .second, .val (.long p1), .second, .val (.long p2), .second, .val (.long p3), .second, .val (.int p4), .val (.int p5), .val (.long (2305843009213693951 : Int64)), .second, .val (.long (p1 &&& (2305843009213693951 : Int64))), .second, .val (.long (p2 &&& (2305843009213693951 : Int64))), .second, .val (.long (p3 &&& (2305843009213693951 : Int64))), .second, .val (.int (p4 &&& (2147483647 : Int32))), .val (.int (1 : Int32)), .val (.int ((1 : Int32) + (((p5.toUInt32 >>> ((2 : Int32) &&& 31).toUInt32).toInt32) &&& (3 : Int32)))), .val (.int (1 : Int32)), .val (.int (0 : Int32)), .val (.ref b11), .val (.int (1 : Int32)), .val (.int (0 : Int32)), .unset, .unset, .unset, .unset, .unset, .unset]) rfl ?_
        refine own_iload X26 hx hby at_135 (pc' := 137) rfl rfl ?_
        refine own_ifN X26 hx hby at_137 (pc' := 140) rfl (show ¬ (1 : Int32) = (0 : Int32) by decide) ?_
        refine own_lload X26 hx hby at_140 (pc' := 142) rfl rfl ?_
        refine own_iload X26 hx hby at_142 (pc' := 144) rfl rfl ?_
        refine own_i2l X26 hx hby at_144 (pc' := 145) rfl ?_
        refine own_ladd X26 hx hby at_145 (pc' := 146) rfl ?_
        refine own_goto X26 hx hby at_146 (pc' := 150) (by decide) (by decide) ?_
        refine own_lstore X26 hx hby at_150 (pc' := 152) rfl (l' := #[.val (.long p0), .second, .val (.long p1), .second, .val (.long p2), .second, .val (.long p3), .second, .val (.int p4), .val (.int p5), .val (.long (2305843009213693951 : Int64)), .second, .val (.long (p1 &&& (2305843009213693951 : Int64))), .second, .val (.long (p2 &&& (2305843009213693951 : Int64))), .second, .val (.long (p3 &&& (2305843009213693951 : Int64))), .second, .val (.int (p4 &&& (2147483647 : Int32))), .val (.int (1 : Int32)), .val (.int ((1 : Int32) + (((p5.toUInt32 >>> ((2 : Int32) &&& 31).toUInt32).toInt32) &&& (3 : Int32)))), .val (.int (1 : Int32)), .val (.int (0 : Int32)), .val (.ref b11), .val (.int (1 : Int32)), .val (.int (0 : Int32)), .val (.long ((p1 &&& (2305843009213693951 : Int64)) + ((p4 &&& (2147483647 : Int32)).toInt64))), .second, .unset, .unset, .unset, .unset]) rfl ?_
        refine own_iload X26 hx hby at_152 (pc' := 154) rfl rfl ?_
        refine own_ifN X26 hx hby at_154 (pc' := 157) rfl (show (0 : Int32) = (0 : Int32) by decide) ?_
        refine own_iload X26 hx hby at_157 (pc' := 159) rfl rfl ?_
        refine own_ifN X26 hx hby at_159 (pc' := 162) rfl (show ¬ (1 : Int32) = (0 : Int32) by decide) ?_
        refine own_lload X26 hx hby at_162 (pc' := 164) rfl rfl ?_
        refine own_lload X26 hx hby at_164 (pc' := 166) rfl rfl ?_
        refine own_ladd X26 hx hby at_166 (pc' := 167) rfl ?_
        refine own_iload X26 hx hby at_167 (pc' := 169) rfl rfl ?_
        refine own_i2l X26 hx hby at_169 (pc' := 170) rfl ?_
        refine own_ladd X26 hx hby at_170 (pc' := 171) rfl ?_
        refine own_lloadN X26 hx hby at_171 (pc' := 172) rfl rfl ?_
        refine own_lcmp X26 hx hby at_172 (pc' := 173) rfl ?_
        refine own_ifN X26 hx hby at_173 (pc' := 176) rfl (own_ctL_n (show ¬ p0 < ((((p1 &&& (2305843009213693951 : Int64)) + ((p4 &&& (2147483647 : Int32)).toInt64)) + (p2 &&& (2305843009213693951 : Int64))) + ((p4 &&& (2147483647 : Int32)).toInt64)) from hf15)) ?_
        refine own_iconst X26 hx hby at_176 (pc' := 177) rfl (n := (1 : Int32)) (by decide) ?_
        refine own_goto X26 hx hby at_177 (pc' := 181) (by decide) (by decide) ?_
        refine own_istore X26 hx hby at_181 (pc' := 183) rfl (l' := #[.val (.long p0), .second, .val (.long p1), .second, .val (.long p2), .second, .val (.long p3), .second, .val (.int p4), .val (.int p5), .val (.long (2305843009213693951 : Int64)), .second, .val (.long (p1 &&& (2305843009213693951 : Int64))), .second, .val (.long (p2 &&& (2305843009213693951 : Int64))), .second, .val (.long (p3 &&& (2305843009213693951 : Int64))), .second, .val (.int (p4 &&& (2147483647 : Int32))), .val (.int (1 : Int32)), .val (.int ((1 : Int32) + (((p5.toUInt32 >>> ((2 : Int32) &&& 31).toUInt32).toInt32) &&& (3 : Int32)))), .val (.int (1 : Int32)), .val (.int (0 : Int32)), .val (.ref b11), .val (.int (1 : Int32)), .val (.int (0 : Int32)), .val (.long ((p1 &&& (2305843009213693951 : Int64)) + ((p4 &&& (2147483647 : Int32)).toInt64))), .second, .val (.int (1 : Int32)), .unset, .unset, .unset]) rfl ?_
        refine own_iload X26 hx hby at_183 (pc' := 185) rfl rfl ?_
        refine own_ifN X26 hx hby at_185 (pc' := 188) rfl (show ¬ (1 : Int32) = (0 : Int32) by decide) ?_
        refine own_iload X26 hx hby at_188 (pc' := 190) rfl rfl ?_
        refine own_ifN X26 hx hby at_190 (pc' := 193) rfl (show ¬ (1 : Int32) = (0 : Int32) by decide) ?_
        refine own_lload X26 hx hby at_193 (pc' := 195) rfl rfl ?_
        refine own_lload X26 hx hby at_195 (pc' := 197) rfl rfl ?_
        refine own_ladd X26 hx hby at_197 (pc' := 198) rfl ?_
        refine own_iload X26 hx hby at_198 (pc' := 200) rfl rfl ?_
        refine own_i2l X26 hx hby at_200 (pc' := 201) rfl ?_
        refine own_ladd X26 hx hby at_201 (pc' := 202) rfl ?_
        refine own_lloadN X26 hx hby at_202 (pc' := 203) rfl rfl ?_
        refine own_lcmp X26 hx hby at_203 (pc' := 204) rfl ?_
        refine own_ifY X26 hx hby at_204 (pc' := 211) (by decide) (by decide) (own_ctL_y (show p0 < ((((p1 &&& (2305843009213693951 : Int64)) + ((p4 &&& (2147483647 : Int32)).toInt64)) + (p3 &&& (2305843009213693951 : Int64))) + ((p4 &&& (2147483647 : Int32)).toInt64)) from hf25)) ?_
        refine own_iconst X26 hx hby at_211 (pc' := 212) rfl (n := (0 : Int32)) (by decide) ?_
        refine own_istore X26 hx hby at_212 (pc' := 214) rfl (l' := #[.val (.long p0), .second, .val (.long p1), .second, .val (.long p2), .second, .val (.long p3), .second, .val (.int p4), .val (.int p5), .val (.long (2305843009213693951 : Int64)), .second, .val (.long (p1 &&& (2305843009213693951 : Int64))), .second, .val (.long (p2 &&& (2305843009213693951 : Int64))), .second, .val (.long (p3 &&& (2305843009213693951 : Int64))), .second, .val (.int (p4 &&& (2147483647 : Int32))), .val (.int (1 : Int32)), .val (.int ((1 : Int32) + (((p5.toUInt32 >>> ((2 : Int32) &&& 31).toUInt32).toInt32) &&& (3 : Int32)))), .val (.int (1 : Int32)), .val (.int (0 : Int32)), .val (.ref b11), .val (.int (1 : Int32)), .val (.int (0 : Int32)), .val (.long ((p1 &&& (2305843009213693951 : Int64)) + ((p4 &&& (2147483647 : Int32)).toInt64))), .second, .val (.int (1 : Int32)), .val (.int (0 : Int32)), .unset, .unset]) rfl ?_
        refine own_iload X26 hx hby at_214 (pc' := 216) rfl rfl ?_
        refine own_ifN X26 hx hby at_216 (pc' := 219) rfl (show ¬ (1 : Int32) = (0 : Int32) by decide) ?_
        refine own_iconst X26 hx hby at_219 (pc' := 220) rfl (n := (1 : Int32)) (by decide) ?_
        refine own_goto X26 hx hby at_220 (pc' := 224) (by decide) (by decide) ?_
        refine own_istore X26 hx hby at_224 (pc' := 226) rfl (l' := #[.val (.long p0), .second, .val (.long p1), .second, .val (.long p2), .second, .val (.long p3), .second, .val (.int p4), .val (.int p5), .val (.long (2305843009213693951 : Int64)), .second, .val (.long (p1 &&& (2305843009213693951 : Int64))), .second, .val (.long (p2 &&& (2305843009213693951 : Int64))), .second, .val (.long (p3 &&& (2305843009213693951 : Int64))), .second, .val (.int (p4 &&& (2147483647 : Int32))), .val (.int (1 : Int32)), .val (.int ((1 : Int32) + (((p5.toUInt32 >>> ((2 : Int32) &&& 31).toUInt32).toInt32) &&& (3 : Int32)))), .val (.int (1 : Int32)), .val (.int (0 : Int32)), .val (.ref b11), .val (.int (1 : Int32)), .val (.int (0 : Int32)), .val (.long ((p1 &&& (2305843009213693951 : Int64)) + ((p4 &&& (2147483647 : Int32)).toInt64))), .second, .val (.int (1 : Int32)), .val (.int (0 : Int32)), .val (.int (1 : Int32)), .unset]) rfl ?_
        refine own_iload X26 hx hby at_226 (pc' := 228) rfl rfl ?_
        refine own_ifY X26 hx hby at_228 (pc' := 242) (by decide) (by decide) (show (0 : Int32) = (0 : Int32) by decide) ?_
        refine own_iconst X26 hx hby at_242 (pc' := 243) rfl (n := (0 : Int32)) (by decide) ?_
        refine own_istore X26 hx hby at_243 (pc' := 245) rfl (l' := #[.val (.long p0), .second, .val (.long p1), .second, .val (.long p2), .second, .val (.long p3), .second, .val (.int p4), .val (.int p5), .val (.long (2305843009213693951 : Int64)), .second, .val (.long (p1 &&& (2305843009213693951 : Int64))), .second, .val (.long (p2 &&& (2305843009213693951 : Int64))), .second, .val (.long (p3 &&& (2305843009213693951 : Int64))), .second, .val (.int (p4 &&& (2147483647 : Int32))), .val (.int (1 : Int32)), .val (.int ((1 : Int32) + (((p5.toUInt32 >>> ((2 : Int32) &&& 31).toUInt32).toInt32) &&& (3 : Int32)))), .val (.int (1 : Int32)), .val (.int (0 : Int32)), .val (.ref b11), .val (.int (1 : Int32)), .val (.int (0 : Int32)), .val (.long ((p1 &&& (2305843009213693951 : Int64)) + ((p4 &&& (2147483647 : Int32)).toInt64))), .second, .val (.int (1 : Int32)), .val (.int (0 : Int32)), .val (.int (1 : Int32)), .val (.int (0 : Int32))]) rfl ?_
        refine own_iload X26 hx hby at_245 (pc' := 247) rfl rfl ?_
        refine own_iload X26 hx hby at_247 (pc' := 249) rfl rfl ?_
        refine own_icN X26 hx hby at_249 (pc' := 252) rfl (show (1 : Int32) = (1 : Int32) by decide) ?_
        refine own_iload X26 hx hby at_252 (pc' := 254) rfl rfl ?_
        refine own_iload X26 hx hby at_254 (pc' := 256) rfl rfl ?_
        refine own_icN X26 hx hby at_256 (pc' := 259) rfl (show (0 : Int32) = (0 : Int32) by decide) ?_
        refine own_aload X26 hx hby at_259 (pc' := 261) rfl rfl rfl ?_
        refine own_lk5 hw X26 hx hZ hby (by rw [hml]; rfl) hown at_261 (pc' := 264) rfl rfl O26.1 (W := 0) (Nat.le_of_eq rfl) (rm7 l Z a0 hw [] b11 r12 (0 : Int64) ((1 : Int32) + (((p5.toUInt32 >>> ((2 : Int32) &&& 31).toUInt32).toInt32) &&& (3 : Int32))) p0 (p4 &&& (2147483647 : Int32)) (1 : Int32) ((p1 &&& (2305843009213693951 : Int64)) + ((p4 &&& (2147483647 : Int32)).toInt64)) (1 : Int32) (0 : Int32) T26.heap n0 Zn O26 (by unfold own_wm; rw [if_neg (by decide)])) (by decide) (by decide) (by decide) (by decide) (fun v27 T27 L27 X27 hQ27 => ?_)
        obtain ⟨rfl, Nq27, e27⟩ := hQ27
        have N27 := Fr.app N26 Nq27
        show own_End p e below _ (T27.setTop (mkF m 264 _ [(.int (0 : Int32))]))
        refine own_iload X27 hx hby at_264 (pc' := 266) rfl rfl ?_
        refine own_icN X27 hx hby at_266 (pc' := 269) rfl (show (0 : Int32) = (0 : Int32) by decide) ?_
        refine own_aload X27 hx hby at_269 (pc' := 271) rfl rfl rfl ?_
        refine own_lk6 hw X27 hx hZ hby (by rw [hml]; rfl) hown at_271 (pc' := 274) rfl e27 O26.1 (W := 0) (Nat.le_of_eq rfl) (rm8 l Z a0 hw [] b11 r12 (0 : Int64) ((1 : Int32) + (((p5.toUInt32 >>> ((2 : Int32) &&& 31).toUInt32).toInt32) &&& (3 : Int32))) p0 (p4 &&& (2147483647 : Int32)) (1 : Int32) ((p1 &&& (2305843009213693951 : Int64)) + ((p4 &&& (2147483647 : Int32)).toInt64)) (1 : Int32) T26.heap n0 Zn O26) (by decide) (by decide) (by decide) (by decide) (fun v28 T28 L28 X28 hQ28 => ?_)
        obtain ⟨rfl, Nq28, e28⟩ := hQ28
        have N28 := Fr.app N27 Nq28
        show own_End p e below _ (T28.setTop (mkF m 274 _ [(.int (0 : Int32))]))
        refine own_iload X28 hx hby at_274 (pc' := 276) rfl rfl ?_
        refine own_ifY X28 hx hby at_276 (pc' := 283) (by decide) (by decide) (show ¬ (1 : Int32) = (0 : Int32) by decide) ?_
        refine own_iconst X28 hx hby at_283 (pc' := 284) rfl (n := (0 : Int32)) (by decide) ?_
        refine own_icN X28 hx hby at_284 (pc' := 287) rfl (show (0 : Int32) = (0 : Int32) by decide) ?_
        refine own_iconst X28 hx hby at_287 (pc' := 288) rfl (n := (1 : Int32)) (by decide) ?_
        refine own_goto X28 hx hby at_288 (pc' := 292) (by decide) (by decide) ?_
        refine own_zreturn X28 hx hlk hby hret (Or.inr rfl) at_292 (own_lv ?_ (by decide) (by decide))
        show Q0 Z p0 p1 p2 p3 p4 p5  h0 n0 (some (.int (1 : Int32))) T28.heap _
        rw [e28]
        exact ⟨rfl, N28⟩
      · show own_End p e below _ (T24.setTop (mkF m 130 #[.val (.long p0), .second, .val (.long p1), .second, .val (.long p2), .second, .val (.long p3), .second, .val (.int p4), .val (.int p5), .val (.long (2305843009213693951 : Int64)), .second, .val (.long (p1 &&& (2305843009213693951 : Int64))), .second, .val (.long (p2 &&& (2305843009213693951 : Int64))), .second, .val (.long (p3 &&& (2305843009213693951 : Int64))), .second, .val (.int (p4 &&& (2147483647 : Int32))), .val (.int (1 : Int32)), .val (.int ((1 : Int32) + (((p5.toUInt32 >>> ((2 : Int32) &&& 31).toUInt32).toInt32) &&& (3 : Int32)))), .val (.int (1 : Int32)), .val (.int (0 : Int32)), .val (.ref b11), .val (.int (1 : Int32)), .unset, .unset, .unset, .unset, .unset, .unset, .unset] [(.long (p3 &&& (2305843009213693951 : Int64))), (.ref b11)]))
        refine own_lk4 hw X24 hx hZ hby (by rw [hml]; rfl) hown at_130 (pc' := 133) rfl e24 O14.1 (W := 0) (Nat.le_of_eq rfl) (rm6b l Z a0 hw [] b11 (p3 &&& (2305843009213693951 : Int64)) r12 (0 : Int64) ((1 : Int32) + (((p5.toUInt32 >>> ((2 : Int32) &&& 31).toUInt32).toInt32) &&& (3 : Int32))) p0 (p4 &&& (2147483647 : Int32)) (1 : Int32) ((p1 &&& (2305843009213693951 : Int64)) + ((p4 &&& (2147483647 : Int32)).toInt64)) (0 : Int32) T14.heap n0 Zn O14 (by decide) hf25) (by decide) (by decide) (by decide) (by decide) (fun v29 T29 L29 X29 hQ29 => ?_)
        obtain ⟨rfl, Nq29, e29⟩ := hQ29
        have N29 := Fr.app N24 Nq29
        show own_End p e below _ (T29.setTop (mkF m 133 _ [(.int (1 : Int32))]))
        refine own_istore X29 hx hby at_133 (pc' := 135) rfl (l' := #[.val (.long p0), .second, .val (.long p1), .second, .val (.long p2), .second, .val (.long p3), .second, .val (.int p4), .val (.int p5), .val (.long (2305843009213693951 : Int64)), .second, .val (.long (p1 &&& (2305843009213693951 : Int64))), .second, .val (.long (p2 &&& (2305843009213693951 : Int64))), .second, .val (.long (p3 &&& (2305843009213693951 : Int64))), .second, .val (.int (p4 &&& (2147483647 : Int32))), .val (.int (1 : Int32)), .val (.int ((1 : Int32) + (((p5.toUInt32 >>> ((2 : Int32) &&& 31).toUInt32).toInt32) &&& (3 : Int32)))), .val (.int (1 : Int32)), .val (.int (0 : Int32)), .val (.ref b11), .val (.int (1 : Int32)), .val (.int (1 : Int32)), .unset, .unset, .unset, .unset, .unset, .unset]) rfl ?_
        refine own_iload X29 hx hby at_135 (pc' := 137) rfl rfl ?_
        refine own_ifN X29 hx hby at_137 (pc' := 140) rfl (show ¬ (1 : Int32) = (0 : Int32) by decide) ?_
        refine own_lload X29 hx hby at_140 (pc' := 142) rfl rfl ?_
        refine own_iload X29 hx hby at_142 (pc' := 144) rfl rfl ?_
        refine own_i2l X29 hx hby at_144 (pc' := 145) rfl ?_
        refine own_ladd X29 hx hby at_145 (pc' := 146) rfl ?_
        refine own_goto X29 hx hby at_146 (pc' := 150) (by decide) (by decide) ?_
        refine own_lstore X29 hx hby at_150 (pc' := 152) rfl (l' := #[.val (.long p0), .second, .val (.long p1), .second, .val (.long p2), .second, .val (.long p3), .second, .val (.int p4), .val (.int p5), .val (.long (2305843009213693951 : Int64)), .second, .val (.long (p1 &&& (2305843009213693951 : Int64))), .second, .val (.long (p2 &&& (2305843009213693951 : Int64))), .second, .val (.long (p3 &&& (2305843009213693951 : Int64))), .second, .val (.int (p4 &&& (2147483647 : Int32))), .val (.int (1 : Int32)), .val (.int ((1 : Int32) + (((p5.toUInt32 >>> ((2 : Int32) &&& 31).toUInt32).toInt32) &&& (3 : Int32)))), .val (.int (1 : Int32)), .val (.int (0 : Int32)), .val (.ref b11), .val (.int (1 : Int32)), .val (.int (1 : Int32)), .val (.long ((p1 &&& (2305843009213693951 : Int64)) + ((p4 &&& (2147483647 : Int32)).toInt64))), .second, .unset, .unset, .unset, .unset]) rfl ?_
        refine own_iload X29 hx hby at_152 (pc' := 154) rfl rfl ?_
        refine own_ifN X29 hx hby at_154 (pc' := 157) rfl (show (0 : Int32) = (0 : Int32) by decide) ?_
        refine own_iload X29 hx hby at_157 (pc' := 159) rfl rfl ?_
        refine own_ifN X29 hx hby at_159 (pc' := 162) rfl (show ¬ (1 : Int32) = (0 : Int32) by decide) ?_
        refine own_lload X29 hx hby at_162 (pc' := 164) rfl rfl ?_
        refine own_lload X29 hx hby at_164 (pc' := 166) rfl rfl ?_
        refine own_ladd X29 hx hby at_166 (pc' := 167) rfl ?_
        refine own_iload X29 hx hby at_167 (pc' := 169) rfl rfl ?_
        refine own_i2l X29 hx hby at_169 (pc' := 170) rfl ?_
        refine own_ladd X29 hx hby at_170 (pc' := 171) rfl ?_
        refine own_lloadN X29 hx hby at_171 (pc' := 172) rfl rfl ?_
        refine own_lcmp X29 hx hby at_172 (pc' := 173) rfl ?_
        refine own_ifN X29 hx hby at_173 (pc' := 176) rfl (own_ctL_n (show ¬ p0 < ((((p1 &&& (2305843009213693951 : Int64)) + ((p4 &&& (2147483647 : Int32)).toInt64)) + (p2 &&& (2305843009213693951 : Int64))) + ((p4 &&& (2147483647 : Int32)).toInt64)) from hf15)) ?_
        refine own_iconst X29 hx hby at_176 (pc' := 177) rfl (n := (1 : Int32)) (by decide) ?_
        refine own_goto X29 hx hby at_177 (pc' := 181) (by decide) (by decide) ?_
        refine own_istore X29 hx hby at_181 (pc' := 183) rfl (l' := #[.val (.long p0), .second, .val (.long p1), .second, .val (.long p2), .second, .val (.long p3), .second, .val (.int p4), .val (.int p5), .val (.long (2305843009213693951 : Int64)), .second, .val (.long (p1 &&& (2305843009213693951 : Int64))), .second, .val (.long (p2 &&& (2305843009213693951 : Int64))), .second, .val (.long (p3 &&& (2305843009213693951 : Int64))), .second, .val (.int (p4 &&& (2147483647 : Int32))), .val (.int (1 : Int32)), .val (.int ((1 : Int32) + (((p5.toUInt32 >>> ((2 : Int32) &&& 31).toUInt32).toInt32) &&& (3 : Int32)))), .val (.int (1 : Int32)), .val (.int (0 : Int32)), .val (.ref b11), .val (.int (1 : Int32)), .val (.int (1 : Int32)), .val (.long ((p1 &&& (2305843009213693951 : Int64)) + ((p4 &&& (2147483647 : Int32)).toInt64))), .second, .val (.int (1 : Int32)), .unset, .unset, .unset]) rfl ?_
        refine own_iload X29 hx hby at_183 (pc' := 185) rfl rfl ?_
        refine own_ifN X29 hx hby at_185 (pc' := 188) rfl (show ¬ (1 : Int32) = (0 : Int32) by decide) ?_
        refine own_iload X29 hx hby at_188 (pc' := 190) rfl rfl ?_
        refine own_ifN X29 hx hby at_190 (pc' := 193) rfl (show ¬ (1 : Int32) = (0 : Int32) by decide) ?_
        refine own_lload X29 hx hby at_193 (pc' := 195) rfl rfl ?_
        refine own_lload X29 hx hby at_195 (pc' := 197) rfl rfl ?_
        refine own_ladd X29 hx hby at_197 (pc' := 198) rfl ?_
        refine own_iload X29 hx hby at_198 (pc' := 200) rfl rfl ?_
        refine own_i2l X29 hx hby at_200 (pc' := 201) rfl ?_
        refine own_ladd X29 hx hby at_201 (pc' := 202) rfl ?_
        refine own_lloadN X29 hx hby at_202 (pc' := 203) rfl rfl ?_
        refine own_lcmp X29 hx hby at_203 (pc' := 204) rfl ?_
        refine own_ifN X29 hx hby at_204 (pc' := 207) rfl (own_ctL_n (show ¬ p0 < ((((p1 &&& (2305843009213693951 : Int64)) + ((p4 &&& (2147483647 : Int32)).toInt64)) + (p3 &&& (2305843009213693951 : Int64))) + ((p4 &&& (2147483647 : Int32)).toInt64)) from hf25)) ?_
        refine own_iconst X29 hx hby at_207 (pc' := 208) rfl (n := (1 : Int32)) (by decide) ?_
        refine own_goto X29 hx hby at_208 (pc' := 212) (by decide) (by decide) ?_
        refine own_istore X29 hx hby at_212 (pc' := 214) rfl (l' := #[.val (.long p0), .second, .val (.long p1), .second, .val (.long p2), .second, .val (.long p3), .second, .val (.int p4), .val (.int p5), .val (.long (2305843009213693951 : Int64)), .second, .val (.long (p1 &&& (2305843009213693951 : Int64))), .second, .val (.long (p2 &&& (2305843009213693951 : Int64))), .second, .val (.long (p3 &&& (2305843009213693951 : Int64))), .second, .val (.int (p4 &&& (2147483647 : Int32))), .val (.int (1 : Int32)), .val (.int ((1 : Int32) + (((p5.toUInt32 >>> ((2 : Int32) &&& 31).toUInt32).toInt32) &&& (3 : Int32)))), .val (.int (1 : Int32)), .val (.int (0 : Int32)), .val (.ref b11), .val (.int (1 : Int32)), .val (.int (1 : Int32)), .val (.long ((p1 &&& (2305843009213693951 : Int64)) + ((p4 &&& (2147483647 : Int32)).toInt64))), .second, .val (.int (1 : Int32)), .val (.int (1 : Int32)), .unset, .unset]) rfl ?_
        refine own_iload X29 hx hby at_214 (pc' := 216) rfl rfl ?_
        refine own_ifN X29 hx hby at_216 (pc' := 219) rfl (show ¬ (1 : Int32) = (0 : Int32) by decide) ?_
        refine own_iconst X29 hx hby at_219 (pc' := 220) rfl (n := (1 : Int32)) (by decide) ?_
        refine own_goto X29 hx hby at_220 (pc' := 224) (by decide) (by decide) ?_
        refine own_istore X29 hx hby at_224 (pc' := 226) rfl (l' := #[.val (.long p0), .second, .val (.long p1), .second, .val (.long p2), .second, .val (.long p3), .second, .val (.int p4), .val (.int p5), .val (.long (2305843009213693951 : Int64)), .second, .val (.long (p1 &&& (2305843009213693951 : Int64))), .second, .val (.long (p2 &&& (2305843009213693951 : Int64))), .second, .val (.long (p3 &&& (2305843009213693951 : Int64))), .second, .val (.int (p4 &&& (2147483647 : Int32))), .val (.int (1 : Int32)), .val (.int ((1 : Int32) + (((p5.toUInt32 >>> ((2 : Int32) &&& 31).toUInt32).toInt32) &&& (3 : Int32)))), .val (.int (1 : Int32)), .val (.int (0 : Int32)), .val (.ref b11), .val (.int (1 : Int32)), .val (.int (1 : Int32)), .val (.long ((p1 &&& (2305843009213693951 : Int64)) + ((p4 &&& (2147483647 : Int32)).toInt64))), .second, .val (.int (1 : Int32)), .val (.int (1 : Int32)), .val (.int (1 : Int32)), .unset]) rfl ?_
        refine own_iload X29 hx hby at_226 (pc' := 228) rfl rfl ?_
        refine own_ifN X29 hx hby at_228 (pc' := 231) rfl (show ¬ (1 : Int32) = (0 : Int32) by decide) ?_
        refine own_iload X29 hx hby at_231 (pc' := 233) rfl rfl ?_
        refine own_iload X29 hx hby at_233 (pc' := 235) rfl rfl ?_
        refine own_ic2 X29 hx hby at_235 (pc1 := 242) (by decide) (by decide) (pc2 := 238) rfl (fun (hc235 : ¬ (1 : Int32) < ((1 : Int32) + (((p5.toUInt32 >>> ((2 : Int32) &&& 31).toUInt32).toInt32) &&& (3 : Int32)))) => ?_) (fun (hc235 : (1 : Int32) < ((1 : Int32) + (((p5.toUInt32 >>> ((2 : Int32) &&& 31).toUInt32).toInt32) &&& (3 : Int32)))) => ?_)
        · refine own_iconst X29 hx hby at_242 (pc' := 243) rfl (n := (0 : Int32)) (by decide) ?_
          refine own_istore X29 hx hby at_243 (pc' := 245) rfl (l' := #[.val (.long p0), .second, .val (.long p1), .second, .val (.long p2), .second, .val (.long p3), .second, .val (.int p4), .val (.int p5), .val (.long (2305843009213693951 : Int64)), .second, .val (.long (p1 &&& (2305843009213693951 : Int64))), .second, .val (.long (p2 &&& (2305843009213693951 : Int64))), .second, .val (.long (p3 &&& (2305843009213693951 : Int64))), .second, .val (.int (p4 &&& (2147483647 : Int32))), .val (.int (1 : Int32)), .val (.int ((1 : Int32) + (((p5.toUInt32 >>> ((2 : Int32) &&& 31).toUInt32).toInt32) &&& (3 : Int32)))), .val (.int (1 : Int32)), .val (.int (0 : Int32)), .val (.ref b11), .val (.int (1 : Int32)), .val (.int (1 : Int32)), .val (.long ((p1 &&& (2305843009213693951 : Int64)) + ((p4 &&& (2147483647 : Int32)).toInt64))), .second, .val (.int (1 : Int32)), .val (.int (1 : Int32)), .val (.int (1 : Int32)), .val (.int (0 : Int32))]) rfl ?_
          refine own_iload X29 hx hby at_245 (pc' := 247) rfl rfl ?_
          refine own_iload X29 hx hby at_247 (pc' := 249) rfl rfl ?_
          refine own_icN X29 hx hby at_249 (pc' := 252) rfl (show (1 : Int32) = (1 : Int32) by decide) ?_
          refine own_iload X29 hx hby at_252 (pc' := 254) rfl rfl ?_
          refine own_iload X29 hx hby at_254 (pc' := 256) rfl rfl ?_
          refine own_icN X29 hx hby at_256 (pc' := 259) rfl (show (1 : Int32) = (1 : Int32) by decide) ?_
          refine own_aload X29 hx hby at_259 (pc' := 261) rfl rfl rfl ?_
          refine own_lk5 hw X29 hx hZ hby (by rw [hml]; rfl) hown at_261 (pc' := 264) rfl e29 O14.1 (W := 0) (Nat.le_of_eq rfl) (rm7 l Z a0 hw [] b11 r12 (0 : Int64) ((1 : Int32) + (((p5.toUInt32 >>> ((2 : Int32) &&& 31).toUInt32).toInt32) &&& (3 : Int32))) p0 (p4 &&& (2147483647 : Int32)) (1 : Int32) ((p1 &&& (2305843009213693951 : Int64)) + ((p4 &&& (2147483647 : Int32)).toInt64)) (0 : Int32) (0 : Int32) T14.heap n0 Zn O14 (by unfold own_wm; rw [if_pos rfl, if_neg hc235])) (by decide) (by decide) (by decide) (by decide) (fun v30 T30 L30 X30 hQ30 => ?_)
          obtain ⟨rfl, Nq30, e30⟩ := hQ30
          have N30 := Fr.app N29 Nq30
          show own_End p e below _ (T30.setTop (mkF m 264 _ [(.int (0 : Int32))]))
          refine own_iload X30 hx hby at_264 (pc' := 266) rfl rfl ?_
          refine own_icN X30 hx hby at_266 (pc' := 269) rfl (show (0 : Int32) = (0 : Int32) by decide) ?_
          refine own_aload X30 hx hby at_269 (pc' := 271) rfl rfl rfl ?_
          refine own_lk6 hw X30 hx hZ hby (by rw [hml]; rfl) hown at_271 (pc' := 274) rfl e30 O14.1 (W := 0) (Nat.le_of_eq rfl) (rm8 l Z a0 hw [] b11 r12 (0 : Int64) ((1 : Int32) + (((p5.toUInt32 >>> ((2 : Int32) &&& 31).toUInt32).toInt32) &&& (3 : Int32))) p0 (p4 &&& (2147483647 : Int32)) (1 : Int32) ((p1 &&& (2305843009213693951 : Int64)) + ((p4 &&& (2147483647 : Int32)).toInt64)) (0 : Int32) T14.heap n0 Zn O14) (by decide) (by decide) (by decide) (by decide) (fun v31 T31 L31 X31 hQ31 => ?_)
          obtain ⟨rfl, Nq31, e31⟩ := hQ31
          have N31 := Fr.app N30 Nq31
          show own_End p e below _ (T31.setTop (mkF m 274 _ [(.int (0 : Int32))]))
          refine own_iload X31 hx hby at_274 (pc' := 276) rfl rfl ?_
          refine own_ifY X31 hx hby at_276 (pc' := 283) (by decide) (by decide) (show ¬ (1 : Int32) = (0 : Int32) by decide) ?_
          refine own_iconst X31 hx hby at_283 (pc' := 284) rfl (n := (0 : Int32)) (by decide) ?_
          refine own_icN X31 hx hby at_284 (pc' := 287) rfl (show (0 : Int32) = (0 : Int32) by decide) ?_
          refine own_iconst X31 hx hby at_287 (pc' := 288) rfl (n := (1 : Int32)) (by decide) ?_
          refine own_goto X31 hx hby at_288 (pc' := 292) (by decide) (by decide) ?_
          refine own_zreturn X31 hx hlk hby hret (Or.inr rfl) at_292 (own_lv ?_ (by decide) (by decide))
          show Q0 Z p0 p1 p2 p3 p4 p5  h0 n0 (some (.int (1 : Int32))) T31.heap _
          rw [e31]
          exact ⟨rfl, N31⟩
        · refine own_iconst X29 hx hby at_238 (pc' := 239) rfl (n := (1 : Int32)) (by decide) ?_
          refine own_goto X29 hx hby at_239 (pc' := 243) (by decide) (by decide) ?_
          refine own_istore X29 hx hby at_243 (pc' := 245) rfl (l' := #[.val (.long p0), .second, .val (.long p1), .second, .val (.long p2), .second, .val (.long p3), .second, .val (.int p4), .val (.int p5), .val (.long (2305843009213693951 : Int64)), .second, .val (.long (p1 &&& (2305843009213693951 : Int64))), .second, .val (.long (p2 &&& (2305843009213693951 : Int64))), .second, .val (.long (p3 &&& (2305843009213693951 : Int64))), .second, .val (.int (p4 &&& (2147483647 : Int32))), .val (.int (1 : Int32)), .val (.int ((1 : Int32) + (((p5.toUInt32 >>> ((2 : Int32) &&& 31).toUInt32).toInt32) &&& (3 : Int32)))), .val (.int (1 : Int32)), .val (.int (0 : Int32)), .val (.ref b11), .val (.int (1 : Int32)), .val (.int (1 : Int32)), .val (.long ((p1 &&& (2305843009213693951 : Int64)) + ((p4 &&& (2147483647 : Int32)).toInt64))), .second, .val (.int (1 : Int32)), .val (.int (1 : Int32)), .val (.int (1 : Int32)), .val (.int (1 : Int32))]) rfl ?_
          refine own_iload X29 hx hby at_245 (pc' := 247) rfl rfl ?_
          refine own_iload X29 hx hby at_247 (pc' := 249) rfl rfl ?_
          refine own_icN X29 hx hby at_249 (pc' := 252) rfl (show (1 : Int32) = (1 : Int32) by decide) ?_
          refine own_iload X29 hx hby at_252 (pc' := 254) rfl rfl ?_
          refine own_iload X29 hx hby at_254 (pc' := 256) rfl rfl ?_
          refine own_icN X29 hx hby at_256 (pc' := 259) rfl (show (1 : Int32) = (1 : Int32) by decide) ?_
          refine own_aload X29 hx hby at_259 (pc' := 261) rfl rfl rfl ?_
          refine own_lk5 hw X29 hx hZ hby (by rw [hml]; rfl) hown at_261 (pc' := 264) rfl e29 O14.1 (W := 0) (Nat.le_of_eq rfl) (rm7 l Z a0 hw [] b11 r12 (0 : Int64) ((1 : Int32) + (((p5.toUInt32 >>> ((2 : Int32) &&& 31).toUInt32).toInt32) &&& (3 : Int32))) p0 (p4 &&& (2147483647 : Int32)) (1 : Int32) ((p1 &&& (2305843009213693951 : Int64)) + ((p4 &&& (2147483647 : Int32)).toInt64)) (0 : Int32) (1 : Int32) T14.heap n0 Zn O14 (by unfold own_wm; rw [if_pos rfl, if_pos hc235])) (by decide) (by decide) (by decide) (by decide) (fun v32 T32 L32 X32 hQ32 => ?_)
          obtain ⟨rfl, Nq32, e32⟩ := hQ32
          have N32 := Fr.app N29 Nq32
          show own_End p e below _ (T32.setTop (mkF m 264 _ [(.int (1 : Int32))]))
          refine own_iload X32 hx hby at_264 (pc' := 266) rfl rfl ?_
          refine own_icN X32 hx hby at_266 (pc' := 269) rfl (show (1 : Int32) = (1 : Int32) by decide) ?_
          refine own_aload X32 hx hby at_269 (pc' := 271) rfl rfl rfl ?_
          refine own_lk6 hw X32 hx hZ hby (by rw [hml]; rfl) hown at_271 (pc' := 274) rfl e32 O14.1 (W := 0) (Nat.le_of_eq rfl) (rm8 l Z a0 hw [] b11 r12 (0 : Int64) ((1 : Int32) + (((p5.toUInt32 >>> ((2 : Int32) &&& 31).toUInt32).toInt32) &&& (3 : Int32))) p0 (p4 &&& (2147483647 : Int32)) (1 : Int32) ((p1 &&& (2305843009213693951 : Int64)) + ((p4 &&& (2147483647 : Int32)).toInt64)) (0 : Int32) T14.heap n0 Zn O14) (by decide) (by decide) (by decide) (by decide) (fun v33 T33 L33 X33 hQ33 => ?_)
          obtain ⟨rfl, Nq33, e33⟩ := hQ33
          have N33 := Fr.app N32 Nq33
          show own_End p e below _ (T33.setTop (mkF m 274 _ [(.int (0 : Int32))]))
          refine own_iload X33 hx hby at_274 (pc' := 276) rfl rfl ?_
          refine own_ifY X33 hx hby at_276 (pc' := 283) (by decide) (by decide) (show ¬ (1 : Int32) = (0 : Int32) by decide) ?_
          refine own_iconst X33 hx hby at_283 (pc' := 284) rfl (n := (0 : Int32)) (by decide) ?_
          refine own_icN X33 hx hby at_284 (pc' := 287) rfl (show (0 : Int32) = (0 : Int32) by decide) ?_
          refine own_iconst X33 hx hby at_287 (pc' := 288) rfl (n := (1 : Int32)) (by decide) ?_
          refine own_goto X33 hx hby at_288 (pc' := 292) (by decide) (by decide) ?_
          refine own_zreturn X33 hx hlk hby hret (Or.inr rfl) at_292 (own_lv ?_ (by decide) (by decide))
          show Q0 Z p0 p1 p2 p3 p4 p5  h0 n0 (some (.int (1 : Int32))) T33.heap _
          rw [e33]
          exact ⟨rfl, N33⟩
  · rw [hs1]
    show own_End p e below _ (s₁.setTop (mkF m 36 #[.val (.long p0), .second, .val (.long p1), .second, .val (.long p2), .second, .val (.long p3), .second, .val (.int p4), .val (.int p5), .val (.long (2305843009213693951 : Int64)), .second, .val (.long (p1 &&& (2305843009213693951 : Int64))), .second, .val (.long (p2 &&& (2305843009213693951 : Int64))), .second, .val (.long (p3 &&& (2305843009213693951 : Int64))), .second, .val (.int (p4 &&& (2147483647 : Int32))), .unset, .unset, .unset, .unset, .unset, .unset, .unset, .unset, .unset, .unset, .unset, .unset, .unset] [(.int (2 : Int32))]))
    refine own_istore X0 hx hby at_36 (pc' := 38) rfl (l' := #[.val (.long p0), .second, .val (.long p1), .second, .val (.long p2), .second, .val (.long p3), .second, .val (.int p4), .val (.int p5), .val (.long (2305843009213693951 : Int64)), .second, .val (.long (p1 &&& (2305843009213693951 : Int64))), .second, .val (.long (p2 &&& (2305843009213693951 : Int64))), .second, .val (.long (p3 &&& (2305843009213693951 : Int64))), .second, .val (.int (p4 &&& (2147483647 : Int32))), .val (.int (2 : Int32)), .unset, .unset, .unset, .unset, .unset, .unset, .unset, .unset, .unset, .unset, .unset, .unset]) rfl ?_
    refine own_iconst X0 hx hby at_38 (pc' := 39) rfl (n := (1 : Int32)) (by decide) ?_
    refine own_iload X0 hx hby at_39 (pc' := 41) rfl rfl ?_
    refine own_iconst X0 hx hby at_41 (pc' := 42) rfl (n := (2 : Int32)) (by decide) ?_
    refine own_iushr X0 hx hby at_42 (pc' := 43) rfl ?_
    refine own_iconst X0 hx hby at_43 (pc' := 44) rfl (n := (3 : Int32)) (by decide) ?_
    refine own_iand X0 hx hby at_44 (pc' := 45) rfl ?_
    refine own_iadd X0 hx hby at_45 (pc' := 46) rfl ?_
    refine own_istore X0 hx hby at_46 (pc' := 48) rfl (l' := #[.val (.long p0), .second, .val (.long p1), .second, .val (.long p2), .second, .val (.long p3), .second, .val (.int p4), .val (.int p5), .val (.long (2305843009213693951 : Int64)), .second, .val (.long (p1 &&& (2305843009213693951 : Int64))), .second, .val (.long (p2 &&& (2305843009213693951 : Int64))), .second, .val (.long (p3 &&& (2305843009213693951 : Int64))), .second, .val (.int (p4 &&& (2147483647 : Int32))), .val (.int (2 : Int32)), .val (.int ((1 : Int32) + (((p5.toUInt32 >>> ((2 : Int32) &&& 31).toUInt32).toInt32) &&& (3 : Int32)))), .unset, .unset, .unset, .unset, .unset, .unset, .unset, .unset, .unset, .unset, .unset]) rfl ?_
    refine own_iload X0 hx hby at_48 (pc' := 50) rfl rfl ?_
    refine own_iconst X0 hx hby at_50 (pc' := 51) rfl (n := (1 : Int32)) (by decide) ?_
    refine own_icN X0 hx hby at_51 (pc' := 54) rfl (show ¬ (2 : Int32) = (1 : Int32) by decide) ?_
    refine own_iload X0 hx hby at_54 (pc' := 56) rfl rfl ?_
    refine own_iconst X0 hx hby at_56 (pc' := 57) rfl (n := (3 : Int32)) (by decide) ?_
    refine own_icY X0 hx hby at_57 (pc' := 64) (by decide) (by decide) (show ¬ (2 : Int32) = (3 : Int32) by decide) ?_
    refine own_iconst X0 hx hby at_64 (pc' := 65) rfl (n := (0 : Int32)) (by decide) ?_
    refine own_istore X0 hx hby at_65 (pc' := 67) rfl (l' := #[.val (.long p0), .second, .val (.long p1), .second, .val (.long p2), .second, .val (.long p3), .second, .val (.int p4), .val (.int p5), .val (.long (2305843009213693951 : Int64)), .second, .val (.long (p1 &&& (2305843009213693951 : Int64))), .second, .val (.long (p2 &&& (2305843009213693951 : Int64))), .second, .val (.long (p3 &&& (2305843009213693951 : Int64))), .second, .val (.int (p4 &&& (2147483647 : Int32))), .val (.int (2 : Int32)), .val (.int ((1 : Int32) + (((p5.toUInt32 >>> ((2 : Int32) &&& 31).toUInt32).toInt32) &&& (3 : Int32)))), .val (.int (0 : Int32)), .unset, .unset, .unset, .unset, .unset, .unset, .unset, .unset, .unset, .unset]) rfl ?_
    refine own_iload X0 hx hby at_67 (pc' := 69) rfl rfl ?_
    refine own_iconst X0 hx hby at_69 (pc' := 70) rfl (n := (2 : Int32)) (by decide) ?_
    refine own_icN X0 hx hby at_70 (pc' := 73) rfl (show ¬ (2 : Int32) < (2 : Int32) by decide) ?_
    refine own_iconst X0 hx hby at_73 (pc' := 74) rfl (n := (1 : Int32)) (by decide) ?_
    refine own_goto X0 hx hby at_74 (pc' := 78) (by decide) (by decide) ?_
    refine own_istore X0 hx hby at_78 (pc' := 80) rfl (l' := #[.val (.long p0), .second, .val (.long p1), .second, .val (.long p2), .second, .val (.long p3), .second, .val (.int p4), .val (.int p5), .val (.long (2305843009213693951 : Int64)), .second, .val (.long (p1 &&& (2305843009213693951 : Int64))), .second, .val (.long (p2 &&& (2305843009213693951 : Int64))), .second, .val (.long (p3 &&& (2305843009213693951 : Int64))), .second, .val (.int (p4 &&& (2147483647 : Int32))), .val (.int (2 : Int32)), .val (.int ((1 : Int32) + (((p5.toUInt32 >>> ((2 : Int32) &&& 31).toUInt32).toInt32) &&& (3 : Int32)))), .val (.int (0 : Int32)), .val (.int (1 : Int32)), .unset, .unset, .unset, .unset, .unset, .unset, .unset, .unset, .unset]) rfl ?_
    refine own_new X0 hx hZ hby hown (wd_2 hw) (wd_3 hw) (wd_4 hw) e0 at_80 (pc' := 83) rfl (by decide) (by decide) (fun T34 h34 b34 g34 X34 e34 E34 A34 D34 => ?_)
    have ge_b34 : n0 ≤ b34 := by rw [g34]; exact Z0
    have Zn := Nat.le_trans Z0 E34.1
    have f_O_b34 : own_BD Z h34 b34 .null (0 : Int64) (0 : Int32) (0 : Int64) (0 : Int32) (0 : Int32) (0 : Int64) (0 : Int32) := ⟨A34, D34 (Or.inr (wd_37 hw)) (ty := (.object "java/util/List")) (by decide), D34 (Or.inr (wd_39 hw)) (ty := .long) (by decide), D34 (Or.inr (wd_41 hw)) (ty := .int) (by decide), D34 (Or.inr (wd_43 hw)) (ty := .long) (by decide), D34 (Or.inr (wd_45 hw)) (ty := .int) (by decide), D34 (Or.inl (wd_52 hw)) (ty := .int) (by decide), D34 (Or.inl (wd_71 hw)) (ty := .long) (by decide), D34 (Or.inl (wd_54 hw)) (ty := .boolean) (by decide)⟩
    refine own_dup X34 hx hby at_83 (pc' := 84) rfl rfl ?_
    refine own_lconst X34 hx hby at_84 (pc' := 85) rfl (n := (0 : Int64)) (by decide) ?_
    refine own_iload X34 hx hby at_85 (pc' := 87) rfl rfl ?_
    refine own_lloadN X34 hx hby at_87 (pc' := 88) rfl rfl ?_
    refine own_iload X34 hx hby at_88 (pc' := 90) rfl rfl ?_
    refine own_lk3 hw X34 hx hZ hby (by rw [hml]; rfl) hown at_90 (pc' := 93) rfl e34 (W := 1) (Nat.le_of_eq rfl) (rm1 l Z a0 hw [] b34 (0 : Int64) ((1 : Int32) + (((p5.toUInt32 >>> ((2 : Int32) &&& 31).toUInt32).toInt32) &&& (3 : Int32))) p0 (p4 &&& (2147483647 : Int32)) h34 n0 Zn f_O_b34 ge_b34) (by decide) (by decide) (by decide) (by decide) (fun v36 T36 L36 X36 hQ36 => ?_)
    obtain ⟨rfl, Nq36, K36, r35, O36⟩ := hQ36
    have N36 := Fr.app N0 Nq36
    have Zn := Nat.le_trans Zn K36.1
    show own_End p e below _ (T36.setTop (mkF m 93 _ [(.ref b34)]))
    refine own_astore X36 hx hby at_93 (pc' := 95) rfl rfl (l' := #[.val (.long p0), .second, .val (.long p1), .second, .val (.long p2), .second, .val (.long p3), .second, .val (.int p4), .val (.int p5), .val (.long (2305843009213693951 : Int64)), .second, .val (.long (p1 &&& (2305843009213693951 : Int64))), .second, .val (.long (p2 &&& (2305843009213693951 : Int64))), .second, .val (.long (p3 &&& (2305843009213693951 : Int64))), .second, .val (.int (p4 &&& (2147483647 : Int32))), .val (.int (2 : Int32)), .val (.int ((1 : Int32) + (((p5.toUInt32 >>> ((2 : Int32) &&& 31).toUInt32).toInt32) &&& (3 : Int32)))), .val (.int (0 : Int32)), .val (.int (1 : Int32)), .val (.ref b34), .unset, .unset, .unset, .unset, .unset, .unset, .unset, .unset]) rfl ?_
    refine own_iload X36 hx hby at_95 (pc' := 97) rfl rfl ?_
    refine own_ifY X36 hx hby at_97 (pc' := 107) (by decide) (by decide) (show (0 : Int32) = (0 : Int32) by decide) ?_
    refine own_iload X36 hx hby at_107 (pc' := 109) rfl rfl ?_
    refine own_ifN X36 hx hby at_109 (pc' := 112) rfl (show ¬ (1 : Int32) = (0 : Int32) by decide) ?_
    refine own_aload X36 hx hby at_112 (pc' := 114) rfl rfl rfl ?_
    refine own_lk8 hw X36 hx hZ hby (by rw [hml]; rfl) hown at_114 (pc' := 117) rfl rfl O36.1 (W := 0) (Nat.le_of_eq rfl) (rm10 l Z a0 hw [] b34 r35 (0 : Int64) ((1 : Int32) + (((p5.toUInt32 >>> ((2 : Int32) &&& 31).toUInt32).toInt32) &&& (3 : Int32))) p0 (p4 &&& (2147483647 : Int32)) (0 : Int32) (0 : Int64) (0 : Int32) T36.heap n0 Zn O36 ge_b34) (by decide) (by decide) (by decide) (by decide) (fun v37 T37 L37 X37 hQ37 => ?_)
    obtain ⟨rfl, Nq37, K37, O37⟩ := hQ37
    have N37 := Fr.app N36 Nq37
    have Zn := Nat.le_trans Zn K37.1
    show own_End p e below _ (T37.setTop (mkF m 117 _ []))
    refine own_aload X37 hx hby at_117 (pc' := 119) rfl rfl rfl ?_
    refine own_lload X37 hx hby at_119 (pc' := 121) rfl rfl ?_
    refine own_lk4 hw X37 hx hZ hby (by rw [hml]; rfl) hown at_121 (pc' := 124) rfl rfl O37.1 (W := 0) (Nat.le_of_eq rfl) (rm6a l Z a0 hw [] b34 (p2 &&& (2305843009213693951 : Int64)) r35 (0 : Int64) ((1 : Int32) + (((p5.toUInt32 >>> ((2 : Int32) &&& 31).toUInt32).toInt32) &&& (3 : Int32))) p0 (p4 &&& (2147483647 : Int32)) (0 : Int32) (0 : Int64) (1 : Int32) T37.heap n0 Zn O37 (by decide)) (by decide) (by decide) (by decide) (by decide) (fun v38 T38 L38 X38 hQ38 => ?_)
    obtain ⟨rfl, Nq38, e38⟩ := hQ38
    have N38 := Fr.app N37 Nq38
    show own_End p e below _ (T38.setTop (mkF m 124 _ [(.int (0 : Int32))]))
    refine own_istore X38 hx hby at_124 (pc' := 126) rfl (l' := #[.val (.long p0), .second, .val (.long p1), .second, .val (.long p2), .second, .val (.long p3), .second, .val (.int p4), .val (.int p5), .val (.long (2305843009213693951 : Int64)), .second, .val (.long (p1 &&& (2305843009213693951 : Int64))), .second, .val (.long (p2 &&& (2305843009213693951 : Int64))), .second, .val (.long (p3 &&& (2305843009213693951 : Int64))), .second, .val (.int (p4 &&& (2147483647 : Int32))), .val (.int (2 : Int32)), .val (.int ((1 : Int32) + (((p5.toUInt32 >>> ((2 : Int32) &&& 31).toUInt32).toInt32) &&& (3 : Int32)))), .val (.int (0 : Int32)), .val (.int (1 : Int32)), .val (.ref b34), .val (.int (0 : Int32)), .unset, .unset, .unset, .unset, .unset, .unset, .unset]) rfl ?_
    refine own_aload X38 hx hby at_126 (pc' := 128) rfl rfl rfl ?_
    refine own_lload X38 hx hby at_128 (pc' := 130) rfl rfl ?_
    refine own_lk4 hw X38 hx hZ hby (by rw [hml]; rfl) hown at_130 (pc' := 133) rfl e38 O37.1 (W := 0) (Nat.le_of_eq rfl) (rm6a l Z a0 hw [] b34 (p3 &&& (2305843009213693951 : Int64)) r35 (0 : Int64) ((1 : Int32) + (((p5.toUInt32 >>> ((2 : Int32) &&& 31).toUInt32).toInt32) &&& (3 : Int32))) p0 (p4 &&& (2147483647 : Int32)) (0 : Int32) (0 : Int64) (1 : Int32) T37.heap n0 Zn O37 (by decide)) (by decide) (by decide) (by decide) (by decide) (fun v39 T39 L39 X39 hQ39 => ?_)
    obtain ⟨rfl, Nq39, e39⟩ := hQ39
    have N39 := Fr.app N38 Nq39
    show own_End p e below _ (T39.setTop (mkF m 133 _ [(.int (0 : Int32))]))
    refine own_istore X39 hx hby at_133 (pc' := 135) rfl (l' := #[.val (.long p0), .second, .val (.long p1), .second, .val (.long p2), .second, .val (.long p3), .second, .val (.int p4), .val (.int p5), .val (.long (2305843009213693951 : Int64)), .second, .val (.long (p1 &&& (2305843009213693951 : Int64))), .second, .val (.long (p2 &&& (2305843009213693951 : Int64))), .second, .val (.long (p3 &&& (2305843009213693951 : Int64))), .second, .val (.int (p4 &&& (2147483647 : Int32))), .val (.int (2 : Int32)), .val (.int ((1 : Int32) + (((p5.toUInt32 >>> ((2 : Int32) &&& 31).toUInt32).toInt32) &&& (3 : Int32)))), .val (.int (0 : Int32)), .val (.int (1 : Int32)), .val (.ref b34), .val (.int (0 : Int32)), .val (.int (0 : Int32)), .unset, .unset, .unset, .unset, .unset, .unset]) rfl ?_
    refine own_iload X39 hx hby at_135 (pc' := 137) rfl rfl ?_
    refine own_ifY X39 hx hby at_137 (pc' := 149) (by decide) (by decide) (show (0 : Int32) = (0 : Int32) by decide) ?_
    refine own_lconst X39 hx hby at_149 (pc' := 150) rfl (n := (0 : Int64)) (by decide) ?_
    refine own_lstore X39 hx hby at_150 (pc' := 152) rfl (l' := #[.val (.long p0), .second, .val (.long p1), .second, .val (.long p2), .second, .val (.long p3), .second, .val (.int p4), .val (.int p5), .val (.long (2305843009213693951 : Int64)), .second, .val (.long (p1 &&& (2305843009213693951 : Int64))), .second, .val (.long (p2 &&& (2305843009213693951 : Int64))), .second, .val (.long (p3 &&& (2305843009213693951 : Int64))), .second, .val (.int (p4 &&& (2147483647 : Int32))), .val (.int (2 : Int32)), .val (.int ((1 : Int32) + (((p5.toUInt32 >>> ((2 : Int32) &&& 31).toUInt32).toInt32) &&& (3 : Int32)))), .val (.int (0 : Int32)), .val (.int (1 : Int32)), .val (.ref b34), .val (.int (0 : Int32)), .val (.int (0 : Int32)), .val (.long (0 : Int64)), .second, .unset, .unset, .unset, .unset]) rfl ?_
    refine own_iload X39 hx hby at_152 (pc' := 154) rfl rfl ?_
    refine own_ifY X39 hx hby at_154 (pc' := 180) (by decide) (by decide) (show ¬ (1 : Int32) = (0 : Int32) by decide) ?_
    refine own_iconst X39 hx hby at_180 (pc' := 181) rfl (n := (0 : Int32)) (by decide) ?_
    refine own_istore X39 hx hby at_181 (pc' := 183) rfl (l' := #[.val (.long p0), .second, .val (.long p1), .second, .val (.long p2), .second, .val (.long p3), .second, .val (.int p4), .val (.int p5), .val (.long (2305843009213693951 : Int64)), .second, .val (.long (p1 &&& (2305843009213693951 : Int64))), .second, .val (.long (p2 &&& (2305843009213693951 : Int64))), .second, .val (.long (p3 &&& (2305843009213693951 : Int64))), .second, .val (.int (p4 &&& (2147483647 : Int32))), .val (.int (2 : Int32)), .val (.int ((1 : Int32) + (((p5.toUInt32 >>> ((2 : Int32) &&& 31).toUInt32).toInt32) &&& (3 : Int32)))), .val (.int (0 : Int32)), .val (.int (1 : Int32)), .val (.ref b34), .val (.int (0 : Int32)), .val (.int (0 : Int32)), .val (.long (0 : Int64)), .second, .val (.int (0 : Int32)), .unset, .unset, .unset]) rfl ?_
    refine own_iload X39 hx hby at_183 (pc' := 185) rfl rfl ?_
    refine own_ifY X39 hx hby at_185 (pc' := 211) (by decide) (by decide) (show (0 : Int32) = (0 : Int32) by decide) ?_
    refine own_iconst X39 hx hby at_211 (pc' := 212) rfl (n := (0 : Int32)) (by decide) ?_
    refine own_istore X39 hx hby at_212 (pc' := 214) rfl (l' := #[.val (.long p0), .second, .val (.long p1), .second, .val (.long p2), .second, .val (.long p3), .second, .val (.int p4), .val (.int p5), .val (.long (2305843009213693951 : Int64)), .second, .val (.long (p1 &&& (2305843009213693951 : Int64))), .second, .val (.long (p2 &&& (2305843009213693951 : Int64))), .second, .val (.long (p3 &&& (2305843009213693951 : Int64))), .second, .val (.int (p4 &&& (2147483647 : Int32))), .val (.int (2 : Int32)), .val (.int ((1 : Int32) + (((p5.toUInt32 >>> ((2 : Int32) &&& 31).toUInt32).toInt32) &&& (3 : Int32)))), .val (.int (0 : Int32)), .val (.int (1 : Int32)), .val (.ref b34), .val (.int (0 : Int32)), .val (.int (0 : Int32)), .val (.long (0 : Int64)), .second, .val (.int (0 : Int32)), .val (.int (0 : Int32)), .unset, .unset]) rfl ?_
    refine own_iload X39 hx hby at_214 (pc' := 216) rfl rfl ?_
    refine own_ifY X39 hx hby at_216 (pc' := 223) (by decide) (by decide) (show (0 : Int32) = (0 : Int32) by decide) ?_
    refine own_iconst X39 hx hby at_223 (pc' := 224) rfl (n := (0 : Int32)) (by decide) ?_
    refine own_istore X39 hx hby at_224 (pc' := 226) rfl (l' := #[.val (.long p0), .second, .val (.long p1), .second, .val (.long p2), .second, .val (.long p3), .second, .val (.int p4), .val (.int p5), .val (.long (2305843009213693951 : Int64)), .second, .val (.long (p1 &&& (2305843009213693951 : Int64))), .second, .val (.long (p2 &&& (2305843009213693951 : Int64))), .second, .val (.long (p3 &&& (2305843009213693951 : Int64))), .second, .val (.int (p4 &&& (2147483647 : Int32))), .val (.int (2 : Int32)), .val (.int ((1 : Int32) + (((p5.toUInt32 >>> ((2 : Int32) &&& 31).toUInt32).toInt32) &&& (3 : Int32)))), .val (.int (0 : Int32)), .val (.int (1 : Int32)), .val (.ref b34), .val (.int (0 : Int32)), .val (.int (0 : Int32)), .val (.long (0 : Int64)), .second, .val (.int (0 : Int32)), .val (.int (0 : Int32)), .val (.int (0 : Int32)), .unset]) rfl ?_
    refine own_iload X39 hx hby at_226 (pc' := 228) rfl rfl ?_
    refine own_ifY X39 hx hby at_228 (pc' := 242) (by decide) (by decide) (show (0 : Int32) = (0 : Int32) by decide) ?_
    refine own_iconst X39 hx hby at_242 (pc' := 243) rfl (n := (0 : Int32)) (by decide) ?_
    refine own_istore X39 hx hby at_243 (pc' := 245) rfl (l' := #[.val (.long p0), .second, .val (.long p1), .second, .val (.long p2), .second, .val (.long p3), .second, .val (.int p4), .val (.int p5), .val (.long (2305843009213693951 : Int64)), .second, .val (.long (p1 &&& (2305843009213693951 : Int64))), .second, .val (.long (p2 &&& (2305843009213693951 : Int64))), .second, .val (.long (p3 &&& (2305843009213693951 : Int64))), .second, .val (.int (p4 &&& (2147483647 : Int32))), .val (.int (2 : Int32)), .val (.int ((1 : Int32) + (((p5.toUInt32 >>> ((2 : Int32) &&& 31).toUInt32).toInt32) &&& (3 : Int32)))), .val (.int (0 : Int32)), .val (.int (1 : Int32)), .val (.ref b34), .val (.int (0 : Int32)), .val (.int (0 : Int32)), .val (.long (0 : Int64)), .second, .val (.int (0 : Int32)), .val (.int (0 : Int32)), .val (.int (0 : Int32)), .val (.int (0 : Int32))]) rfl ?_
    refine own_iload X39 hx hby at_245 (pc' := 247) rfl rfl ?_
    refine own_iload X39 hx hby at_247 (pc' := 249) rfl rfl ?_
    refine own_icN X39 hx hby at_249 (pc' := 252) rfl (show (0 : Int32) = (0 : Int32) by decide) ?_
    refine own_iload X39 hx hby at_252 (pc' := 254) rfl rfl ?_
    refine own_iload X39 hx hby at_254 (pc' := 256) rfl rfl ?_
    refine own_icN X39 hx hby at_256 (pc' := 259) rfl (show (0 : Int32) = (0 : Int32) by decide) ?_
    refine own_aload X39 hx hby at_259 (pc' := 261) rfl rfl rfl ?_
    refine own_lk5 hw X39 hx hZ hby (by rw [hml]; rfl) hown at_261 (pc' := 264) rfl e39 O37.1 (W := 0) (Nat.le_of_eq rfl) (rm7 l Z a0 hw [] b34 r35 (0 : Int64) ((1 : Int32) + (((p5.toUInt32 >>> ((2 : Int32) &&& 31).toUInt32).toInt32) &&& (3 : Int32))) p0 (p4 &&& (2147483647 : Int32)) (0 : Int32) (0 : Int64) (1 : Int32) (0 : Int32) T37.heap n0 Zn O37 (by unfold own_wm; rw [if_neg (by decide)])) (by decide) (by decide) (by decide) (by decide) (fun v40 T40 L40 X40 hQ40 => ?_)
    obtain ⟨rfl, Nq40, e40⟩ := hQ40
    have N40 := Fr.app N39 Nq40
    show own_End p e below _ (T40.setTop (mkF m 264 _ [(.int (0 : Int32))]))
    refine own_iload X40 hx hby at_264 (pc' := 266) rfl rfl ?_
    refine own_icN X40 hx hby at_266 (pc' := 269) rfl (show (0 : Int32) = (0 : Int32) by decide) ?_
    refine own_aload X40 hx hby at_269 (pc' := 271) rfl rfl rfl ?_
    refine own_lk6 hw X40 hx hZ hby (by rw [hml]; rfl) hown at_271 (pc' := 274) rfl e40 O37.1 (W := 0) (Nat.le_of_eq rfl) (rm8 l Z a0 hw [] b34 r35 (0 : Int64) ((1 : Int32) + (((p5.toUInt32 >>> ((2 : Int32) &&& 31).toUInt32).toInt32) &&& (3 : Int32))) p0 (p4 &&& (2147483647 : Int32)) (0 : Int32) (0 : Int64) (1 : Int32) T37.heap n0 Zn O37) (by decide) (by decide) (by decide) (by decide) (fun v41 T41 L41 X41 hQ41 => ?_)
    obtain ⟨rfl, Nq41, e41⟩ := hQ41
    have N41 := Fr.app N40 Nq41
    show own_End p e below _ (T41.setTop (mkF m 274 _ [(.int (1 : Int32))]))
    refine own_iload X41 hx hby at_274 (pc' := 276) rfl rfl ?_
    refine own_ifN X41 hx hby at_276 (pc' := 279) rfl (show (0 : Int32) = (0 : Int32) by decide) ?_
    refine own_iconst X41 hx hby at_279 (pc' := 280) rfl (n := (1 : Int32)) (by decide) ?_
    refine own_goto X41 hx hby at_280 (pc' := 284) (by decide) (by decide) ?_
    refine own_icN X41 hx hby at_284 (pc' := 287) rfl (show (1 : Int32) = (1 : Int32) by decide) ?_
    refine own_iconst X41 hx hby at_287 (pc' := 288) rfl (n := (1 : Int32)) (by decide) ?_
    refine own_goto X41 hx hby at_288 (pc' := 292) (by decide) (by decide) ?_
    refine own_zreturn X41 hx hlk hby hret (Or.inr rfl) at_292 (own_lv ?_ (by decide) (by decide))
    show Q0 Z p0 p1 p2 p3 p4 p5  h0 n0 (some (.int (1 : Int32))) T41.heap _
    rw [e41]
    exact ⟨rfl, N41⟩
  · rw [hs1]
    show own_End p e below _ (s₁.setTop (mkF m 36 #[.val (.long p0), .second, .val (.long p1), .second, .val (.long p2), .second, .val (.long p3), .second, .val (.int p4), .val (.int p5), .val (.long (2305843009213693951 : Int64)), .second, .val (.long (p1 &&& (2305843009213693951 : Int64))), .second, .val (.long (p2 &&& (2305843009213693951 : Int64))), .second, .val (.long (p3 &&& (2305843009213693951 : Int64))), .second, .val (.int (p4 &&& (2147483647 : Int32))), .unset, .unset, .unset, .unset, .unset, .unset, .unset, .unset, .unset, .unset, .unset, .unset, .unset] [(.int (3 : Int32))]))
    refine own_istore X0 hx hby at_36 (pc' := 38) rfl (l' := #[.val (.long p0), .second, .val (.long p1), .second, .val (.long p2), .second, .val (.long p3), .second, .val (.int p4), .val (.int p5), .val (.long (2305843009213693951 : Int64)), .second, .val (.long (p1 &&& (2305843009213693951 : Int64))), .second, .val (.long (p2 &&& (2305843009213693951 : Int64))), .second, .val (.long (p3 &&& (2305843009213693951 : Int64))), .second, .val (.int (p4 &&& (2147483647 : Int32))), .val (.int (3 : Int32)), .unset, .unset, .unset, .unset, .unset, .unset, .unset, .unset, .unset, .unset, .unset, .unset]) rfl ?_
    refine own_iconst X0 hx hby at_38 (pc' := 39) rfl (n := (1 : Int32)) (by decide) ?_
    refine own_iload X0 hx hby at_39 (pc' := 41) rfl rfl ?_
    refine own_iconst X0 hx hby at_41 (pc' := 42) rfl (n := (2 : Int32)) (by decide) ?_
    refine own_iushr X0 hx hby at_42 (pc' := 43) rfl ?_
    refine own_iconst X0 hx hby at_43 (pc' := 44) rfl (n := (3 : Int32)) (by decide) ?_
    refine own_iand X0 hx hby at_44 (pc' := 45) rfl ?_
    refine own_iadd X0 hx hby at_45 (pc' := 46) rfl ?_
    refine own_istore X0 hx hby at_46 (pc' := 48) rfl (l' := #[.val (.long p0), .second, .val (.long p1), .second, .val (.long p2), .second, .val (.long p3), .second, .val (.int p4), .val (.int p5), .val (.long (2305843009213693951 : Int64)), .second, .val (.long (p1 &&& (2305843009213693951 : Int64))), .second, .val (.long (p2 &&& (2305843009213693951 : Int64))), .second, .val (.long (p3 &&& (2305843009213693951 : Int64))), .second, .val (.int (p4 &&& (2147483647 : Int32))), .val (.int (3 : Int32)), .val (.int ((1 : Int32) + (((p5.toUInt32 >>> ((2 : Int32) &&& 31).toUInt32).toInt32) &&& (3 : Int32)))), .unset, .unset, .unset, .unset, .unset, .unset, .unset, .unset, .unset, .unset, .unset]) rfl ?_
    refine own_iload X0 hx hby at_48 (pc' := 50) rfl rfl ?_
    refine own_iconst X0 hx hby at_50 (pc' := 51) rfl (n := (1 : Int32)) (by decide) ?_
    refine own_icN X0 hx hby at_51 (pc' := 54) rfl (show ¬ (3 : Int32) = (1 : Int32) by decide) ?_
    refine own_iload X0 hx hby at_54 (pc' := 56) rfl rfl ?_
    refine own_iconst X0 hx hby at_56 (pc' := 57) rfl (n := (3 : Int32)) (by decide) ?_
    refine own_icN X0 hx hby at_57 (pc' := 60) rfl (show (3 : Int32) = (3 : Int32) by decide) ?_
    refine own_iconst X0 hx hby at_60 (pc' := 61) rfl (n := (1 : Int32)) (by decide) ?_
    refine own_goto X0 hx hby at_61 (pc' := 65) (by decide) (by decide) ?_
    refine own_istore X0 hx hby at_65 (pc' := 67) rfl (l' := #[.val (.long p0), .second, .val (.long p1), .second, .val (.long p2), .second, .val (.long p3), .second, .val (.int p4), .val (.int p5), .val (.long (2305843009213693951 : Int64)), .second, .val (.long (p1 &&& (2305843009213693951 : Int64))), .second, .val (.long (p2 &&& (2305843009213693951 : Int64))), .second, .val (.long (p3 &&& (2305843009213693951 : Int64))), .second, .val (.int (p4 &&& (2147483647 : Int32))), .val (.int (3 : Int32)), .val (.int ((1 : Int32) + (((p5.toUInt32 >>> ((2 : Int32) &&& 31).toUInt32).toInt32) &&& (3 : Int32)))), .val (.int (1 : Int32)), .unset, .unset, .unset, .unset, .unset, .unset, .unset, .unset, .unset, .unset]) rfl ?_
    refine own_iload X0 hx hby at_67 (pc' := 69) rfl rfl ?_
    refine own_iconst X0 hx hby at_69 (pc' := 70) rfl (n := (2 : Int32)) (by decide) ?_
    refine own_icN X0 hx hby at_70 (pc' := 73) rfl (show ¬ (3 : Int32) < (2 : Int32) by decide) ?_
    refine own_iconst X0 hx hby at_73 (pc' := 74) rfl (n := (1 : Int32)) (by decide) ?_
    refine own_goto X0 hx hby at_74 (pc' := 78) (by decide) (by decide) ?_
    refine own_istore X0 hx hby at_78 (pc' := 80) rfl (l' := #[.val (.long p0), .second, .val (.long p1), .second, .val (.long p2), .second, .val (.long p3), .second, .val (.int p4), .val (.int p5), .val (.long (2305843009213693951 : Int64)), .second, .val (.long (p1 &&& (2305843009213693951 : Int64))), .second, .val (.long (p2 &&& (2305843009213693951 : Int64))), .second, .val (.long (p3 &&& (2305843009213693951 : Int64))), .second, .val (.int (p4 &&& (2147483647 : Int32))), .val (.int (3 : Int32)), .val (.int ((1 : Int32) + (((p5.toUInt32 >>> ((2 : Int32) &&& 31).toUInt32).toInt32) &&& (3 : Int32)))), .val (.int (1 : Int32)), .val (.int (1 : Int32)), .unset, .unset, .unset, .unset, .unset, .unset, .unset, .unset, .unset]) rfl ?_
    refine own_new X0 hx hZ hby hown (wd_2 hw) (wd_3 hw) (wd_4 hw) e0 at_80 (pc' := 83) rfl (by decide) (by decide) (fun T42 h42 b42 g42 X42 e42 E42 A42 D42 => ?_)
    have ge_b42 : n0 ≤ b42 := by rw [g42]; exact Z0
    have Zn := Nat.le_trans Z0 E42.1
    have f_O_b42 : own_BD Z h42 b42 .null (0 : Int64) (0 : Int32) (0 : Int64) (0 : Int32) (0 : Int32) (0 : Int64) (0 : Int32) := ⟨A42, D42 (Or.inr (wd_37 hw)) (ty := (.object "java/util/List")) (by decide), D42 (Or.inr (wd_39 hw)) (ty := .long) (by decide), D42 (Or.inr (wd_41 hw)) (ty := .int) (by decide), D42 (Or.inr (wd_43 hw)) (ty := .long) (by decide), D42 (Or.inr (wd_45 hw)) (ty := .int) (by decide), D42 (Or.inl (wd_52 hw)) (ty := .int) (by decide), D42 (Or.inl (wd_71 hw)) (ty := .long) (by decide), D42 (Or.inl (wd_54 hw)) (ty := .boolean) (by decide)⟩
    refine own_dup X42 hx hby at_83 (pc' := 84) rfl rfl ?_
    refine own_lconst X42 hx hby at_84 (pc' := 85) rfl (n := (0 : Int64)) (by decide) ?_
    refine own_iload X42 hx hby at_85 (pc' := 87) rfl rfl ?_
    refine own_lloadN X42 hx hby at_87 (pc' := 88) rfl rfl ?_
    refine own_iload X42 hx hby at_88 (pc' := 90) rfl rfl ?_
    refine own_lk3 hw X42 hx hZ hby (by rw [hml]; rfl) hown at_90 (pc' := 93) rfl e42 (W := 1) (Nat.le_of_eq rfl) (rm1 l Z a0 hw [] b42 (0 : Int64) ((1 : Int32) + (((p5.toUInt32 >>> ((2 : Int32) &&& 31).toUInt32).toInt32) &&& (3 : Int32))) p0 (p4 &&& (2147483647 : Int32)) h42 n0 Zn f_O_b42 ge_b42) (by decide) (by decide) (by decide) (by decide) (fun v44 T44 L44 X44 hQ44 => ?_)
    obtain ⟨rfl, Nq44, K44, r43, O44⟩ := hQ44
    have N44 := Fr.app N0 Nq44
    have Zn := Nat.le_trans Zn K44.1
    show own_End p e below _ (T44.setTop (mkF m 93 _ [(.ref b42)]))
    refine own_astore X44 hx hby at_93 (pc' := 95) rfl rfl (l' := #[.val (.long p0), .second, .val (.long p1), .second, .val (.long p2), .second, .val (.long p3), .second, .val (.int p4), .val (.int p5), .val (.long (2305843009213693951 : Int64)), .second, .val (.long (p1 &&& (2305843009213693951 : Int64))), .second, .val (.long (p2 &&& (2305843009213693951 : Int64))), .second, .val (.long (p3 &&& (2305843009213693951 : Int64))), .second, .val (.int (p4 &&& (2147483647 : Int32))), .val (.int (3 : Int32)), .val (.int ((1 : Int32) + (((p5.toUInt32 >>> ((2 : Int32) &&& 31).toUInt32).toInt32) &&& (3 : Int32)))), .val (.int (1 : Int32)), .val (.int (1 : Int32)), .val (.ref b42), .unset, .unset, .unset, .unset, .unset, .unset, .unset, .unset]) rfl ?_
    refine own_iload X44 hx hby at_95 (pc' := 97) rfl rfl ?_
    refine own_ifN X44 hx hby at_97 (pc' := 100) rfl (show ¬ (1 : Int32) = (0 : Int32) by decide) ?_
    refine own_aload X44 hx hby at_100 (pc' := 102) rfl rfl rfl ?_
    refine own_lload X44 hx hby at_102 (pc' := 104) rfl rfl ?_
    refine own_lk7 hw X44 hx hZ hby (by rw [hml]; rfl) hown at_104 (pc' := 107) rfl rfl O44.1 (W := 0) (Nat.le_of_eq rfl) (rm9 l Z a0 hw [] b42 (p1 &&& (2305843009213693951 : Int64)) r43 (0 : Int64) ((1 : Int32) + (((p5.toUInt32 >>> ((2 : Int32) &&& 31).toUInt32).toInt32) &&& (3 : Int32))) p0 (p4 &&& (2147483647 : Int32)) (0 : Int32) T44.heap n0 Zn O44 ge_b42) (by decide) (by decide) (by decide) (by decide) (fun v45 T45 L45 X45 hQ45 => ?_)
    obtain ⟨rfl, Nq45, K45, O45⟩ := hQ45
    have N45 := Fr.app N44 Nq45
    have Zn := Nat.le_trans Zn K45.1
    show own_End p e below _ (T45.setTop (mkF m 107 _ []))
    refine own_iload X45 hx hby at_107 (pc' := 109) rfl rfl ?_
    refine own_ifN X45 hx hby at_109 (pc' := 112) rfl (show ¬ (1 : Int32) = (0 : Int32) by decide) ?_
    refine own_aload X45 hx hby at_112 (pc' := 114) rfl rfl rfl ?_
    refine own_lk8 hw X45 hx hZ hby (by rw [hml]; rfl) hown at_114 (pc' := 117) rfl rfl O45.1 (W := 0) (Nat.le_of_eq rfl) (rm10 l Z a0 hw [] b42 r43 (0 : Int64) ((1 : Int32) + (((p5.toUInt32 >>> ((2 : Int32) &&& 31).toUInt32).toInt32) &&& (3 : Int32))) p0 (p4 &&& (2147483647 : Int32)) (1 : Int32) ((p1 &&& (2305843009213693951 : Int64)) + ((p4 &&& (2147483647 : Int32)).toInt64)) (0 : Int32) T45.heap n0 Zn O45 ge_b42) (by decide) (by decide) (by decide) (by decide) (fun v46 T46 L46 X46 hQ46 => ?_)
    obtain ⟨rfl, Nq46, K46, O46⟩ := hQ46
    have N46 := Fr.app N45 Nq46
    have Zn := Nat.le_trans Zn K46.1
    show own_End p e below _ (T46.setTop (mkF m 117 _ []))
    refine own_aload X46 hx hby at_117 (pc' := 119) rfl rfl rfl ?_
    refine own_lload X46 hx hby at_119 (pc' := 121) rfl rfl ?_
    rcases Decidable.em (p0 < ((((p1 &&& (2305843009213693951 : Int64)) + ((p4 &&& (2147483647 : Int32)).toInt64)) + (p2 &&& (2305843009213693951 : Int64))) + ((p4 &&& (2147483647 : Int32)).toInt64))) with hf47 | hf47
    · show own_End p e below _ (T46.setTop (mkF m 121 #[.val (.long p0), .second, .val (.long p1), .second, .val (.long p2), .second, .val (.long p3), .second, .val (.int p4), .val (.int p5), .val (.long (2305843009213693951 : Int64)), .second, .val (.long (p1 &&& (2305843009213693951 : Int64))), .second, .val (.long (p2 &&& (2305843009213693951 : Int64))), .second, .val (.long (p3 &&& (2305843009213693951 : Int64))), .second, .val (.int (p4 &&& (2147483647 : Int32))), .val (.int (3 : Int32)), .val (.int ((1 : Int32) + (((p5.toUInt32 >>> ((2 : Int32) &&& 31).toUInt32).toInt32) &&& (3 : Int32)))), .val (.int (1 : Int32)), .val (.int (1 : Int32)), .val (.ref b42), .unset, .unset, .unset, .unset, .unset, .unset, .unset, .unset] [(.long (p2 &&& (2305843009213693951 : Int64))), (.ref b42)]))
      refine own_lk4 hw X46 hx hZ hby (by rw [hml]; rfl) hown at_121 (pc' := 124) rfl rfl O46.1 (W := 0) (Nat.le_of_eq rfl) (rm6c l Z a0 hw [] b42 (p2 &&& (2305843009213693951 : Int64)) r43 (0 : Int64) ((1 : Int32) + (((p5.toUInt32 >>> ((2 : Int32) &&& 31).toUInt32).toInt32) &&& (3 : Int32))) p0 (p4 &&& (2147483647 : Int32)) (1 : Int32) ((p1 &&& (2305843009213693951 : Int64)) + ((p4 &&& (2147483647 : Int32)).toInt64)) (1 : Int32) T46.heap n0 Zn O46 ge_b42 (by decide) hf47) (by decide) (by decide) (by decide) (by decide) (fun v48 T48 L48 X48 hQ48 => ?_)
      obtain ⟨rfl, Nq48, K48, O48⟩ := hQ48
      have N48 := Fr.app N46 Nq48
      have Zn := Nat.le_trans Zn K48.1
      show own_End p e below _ (T48.setTop (mkF m 124 _ [(.int (0 : Int32))]))
      refine own_istore X48 hx hby at_124 (pc' := 126) rfl (l' := #[.val (.long p0), .second, .val (.long p1), .second, .val (.long p2), .second, .val (.long p3), .second, .val (.int p4), .val (.int p5), .val (.long (2305843009213693951 : Int64)), .second, .val (.long (p1 &&& (2305843009213693951 : Int64))), .second, .val (.long (p2 &&& (2305843009213693951 : Int64))), .second, .val (.long (p3 &&& (2305843009213693951 : Int64))), .second, .val (.int (p4 &&& (2147483647 : Int32))), .val (.int (3 : Int32)), .val (.int ((1 : Int32) + (((p5.toUInt32 >>> ((2 : Int32) &&& 31).toUInt32).toInt32) &&& (3 : Int32)))), .val (.int (1 : Int32)), .val (.int (1 : Int32)), .val (.ref b42), .val (.int (0 : Int32)), .unset, .unset, .unset, .unset, .unset, .unset, .unset]) rfl ?_
      refine own_aload X48 hx hby at_126 (pc' := 128) rfl rfl rfl ?_
      refine own_lload X48 hx hby at_128 (pc' := 130) rfl rfl ?_
      rcases Decidable.em (p0 < ((((p1 &&& (2305843009213693951 : Int64)) + ((p4 &&& (2147483647 : Int32)).toInt64)) + (p3 &&& (2305843009213693951 : Int64))) + ((p4 &&& (2147483647 : Int32)).toInt64))) with hf49 | hf49
      · show own_End p e below _ (T48.setTop (mkF m 130 #[.val (.long p0), .second, .val (.long p1), .second, .val (.long p2), .second, .val (.long p3), .second, .val (.int p4), .val (.int p5), .val (.long (2305843009213693951 : Int64)), .second, .val (.long (p1 &&& (2305843009213693951 : Int64))), .second, .val (.long (p2 &&& (2305843009213693951 : Int64))), .second, .val (.long (p3 &&& (2305843009213693951 : Int64))), .second, .val (.int (p4 &&& (2147483647 : Int32))), .val (.int (3 : Int32)), .val (.int ((1 : Int32) + (((p5.toUInt32 >>> ((2 : Int32) &&& 31).toUInt32).toInt32) &&& (3 : Int32)))), .val (.int (1 : Int32)), .val (.int (1 : Int32)), .val (.ref b42), .val (.int (0 : Int32)), .unset, .unset, .unset, .unset, .unset, .unset, .unset] [(.long (p3 &&& (2305843009213693951 : Int64))), (.ref b42)]))
        refine own_lk4 hw X48 hx hZ hby (by rw [hml]; rfl) hown at_130 (pc' := 133) rfl rfl O48.1 (W := 0) (Nat.le_of_eq rfl) (rm6c l Z a0 hw [] b42 (p3 &&& (2305843009213693951 : Int64)) r43 (0 : Int64) ((1 : Int32) + (((p5.toUInt32 >>> ((2 : Int32) &&& 31).toUInt32).toInt32) &&& (3 : Int32))) p0 (p4 &&& (2147483647 : Int32)) (1 : Int32) ((p1 &&& (2305843009213693951 : Int64)) + ((p4 &&& (2147483647 : Int32)).toInt64)) (1 : Int32) T48.heap n0 Zn O48 ge_b42 (by decide) hf49) (by decide) (by decide) (by decide) (by decide) (fun v50 T50 L50 X50 hQ50 => ?_)
        obtain ⟨rfl, Nq50, K50, O50⟩ := hQ50
        have N50 := Fr.app N48 Nq50
        have Zn := Nat.le_trans Zn K50.1
        show own_End p e below _ (T50.setTop (mkF m 133 _ [(.int (0 : Int32))]))
        refine own_istore X50 hx hby at_133 (pc' := 135) rfl (l' := #[.val (.long p0), .second, .val (.long p1), .second, .val (.long p2), .second, .val (.long p3), .second, .val (.int p4), .val (.int p5), .val (.long (2305843009213693951 : Int64)), .second, .val (.long (p1 &&& (2305843009213693951 : Int64))), .second, .val (.long (p2 &&& (2305843009213693951 : Int64))), .second, .val (.long (p3 &&& (2305843009213693951 : Int64))), .second, .val (.int (p4 &&& (2147483647 : Int32))), .val (.int (3 : Int32)), .val (.int ((1 : Int32) + (((p5.toUInt32 >>> ((2 : Int32) &&& 31).toUInt32).toInt32) &&& (3 : Int32)))), .val (.int (1 : Int32)), .val (.int (1 : Int32)), .val (.ref b42), .val (.int (0 : Int32)), .val (.int (0 : Int32)), .unset, .unset, .unset, .unset, .unset, .unset]) rfl ?_
        refine own_iload X50 hx hby at_135 (pc' := 137) rfl rfl ?_
        refine own_ifN X50 hx hby at_137 (pc' := 140) rfl (show ¬ (1 : Int32) = (0 : Int32) by decide) ?_
        refine own_lload X50 hx hby at_140 (pc' := 142) rfl rfl ?_
        refine own_iload X50 hx hby at_142 (pc' := 144) rfl rfl ?_
        refine own_i2l X50 hx hby at_144 (pc' := 145) rfl ?_
        refine own_ladd X50 hx hby at_145 (pc' := 146) rfl ?_
        refine own_goto X50 hx hby at_146 (pc' := 150) (by decide) (by decide) ?_
        refine own_lstore X50 hx hby at_150 (pc' := 152) rfl (l' := #[.val (.long p0), .second, .val (.long p1), .second, .val (.long p2), .second, .val (.long p3), .second, .val (.int p4), .val (.int p5), .val (.long (2305843009213693951 : Int64)), .second, .val (.long (p1 &&& (2305843009213693951 : Int64))), .second, .val (.long (p2 &&& (2305843009213693951 : Int64))), .second, .val (.long (p3 &&& (2305843009213693951 : Int64))), .second, .val (.int (p4 &&& (2147483647 : Int32))), .val (.int (3 : Int32)), .val (.int ((1 : Int32) + (((p5.toUInt32 >>> ((2 : Int32) &&& 31).toUInt32).toInt32) &&& (3 : Int32)))), .val (.int (1 : Int32)), .val (.int (1 : Int32)), .val (.ref b42), .val (.int (0 : Int32)), .val (.int (0 : Int32)), .val (.long ((p1 &&& (2305843009213693951 : Int64)) + ((p4 &&& (2147483647 : Int32)).toInt64))), .second, .unset, .unset, .unset, .unset]) rfl ?_
        refine own_iload X50 hx hby at_152 (pc' := 154) rfl rfl ?_
        refine own_ifY X50 hx hby at_154 (pc' := 180) (by decide) (by decide) (show ¬ (1 : Int32) = (0 : Int32) by decide) ?_
        refine own_iconst X50 hx hby at_180 (pc' := 181) rfl (n := (0 : Int32)) (by decide) ?_
        refine own_istore X50 hx hby at_181 (pc' := 183) rfl (l' := #[.val (.long p0), .second, .val (.long p1), .second, .val (.long p2), .second, .val (.long p3), .second, .val (.int p4), .val (.int p5), .val (.long (2305843009213693951 : Int64)), .second, .val (.long (p1 &&& (2305843009213693951 : Int64))), .second, .val (.long (p2 &&& (2305843009213693951 : Int64))), .second, .val (.long (p3 &&& (2305843009213693951 : Int64))), .second, .val (.int (p4 &&& (2147483647 : Int32))), .val (.int (3 : Int32)), .val (.int ((1 : Int32) + (((p5.toUInt32 >>> ((2 : Int32) &&& 31).toUInt32).toInt32) &&& (3 : Int32)))), .val (.int (1 : Int32)), .val (.int (1 : Int32)), .val (.ref b42), .val (.int (0 : Int32)), .val (.int (0 : Int32)), .val (.long ((p1 &&& (2305843009213693951 : Int64)) + ((p4 &&& (2147483647 : Int32)).toInt64))), .second, .val (.int (0 : Int32)), .unset, .unset, .unset]) rfl ?_
        refine own_iload X50 hx hby at_183 (pc' := 185) rfl rfl ?_
        refine own_ifY X50 hx hby at_185 (pc' := 211) (by decide) (by decide) (show (0 : Int32) = (0 : Int32) by decide) ?_
        refine own_iconst X50 hx hby at_211 (pc' := 212) rfl (n := (0 : Int32)) (by decide) ?_
        refine own_istore X50 hx hby at_212 (pc' := 214) rfl (l' := #[.val (.long p0), .second, .val (.long p1), .second, .val (.long p2), .second, .val (.long p3), .second, .val (.int p4), .val (.int p5), .val (.long (2305843009213693951 : Int64)), .second, .val (.long (p1 &&& (2305843009213693951 : Int64))), .second, .val (.long (p2 &&& (2305843009213693951 : Int64))), .second, .val (.long (p3 &&& (2305843009213693951 : Int64))), .second, .val (.int (p4 &&& (2147483647 : Int32))), .val (.int (3 : Int32)), .val (.int ((1 : Int32) + (((p5.toUInt32 >>> ((2 : Int32) &&& 31).toUInt32).toInt32) &&& (3 : Int32)))), .val (.int (1 : Int32)), .val (.int (1 : Int32)), .val (.ref b42), .val (.int (0 : Int32)), .val (.int (0 : Int32)), .val (.long ((p1 &&& (2305843009213693951 : Int64)) + ((p4 &&& (2147483647 : Int32)).toInt64))), .second, .val (.int (0 : Int32)), .val (.int (0 : Int32)), .unset, .unset]) rfl ?_
        refine own_iload X50 hx hby at_214 (pc' := 216) rfl rfl ?_
        refine own_ifN X50 hx hby at_216 (pc' := 219) rfl (show ¬ (1 : Int32) = (0 : Int32) by decide) ?_
        refine own_iconst X50 hx hby at_219 (pc' := 220) rfl (n := (1 : Int32)) (by decide) ?_
        refine own_goto X50 hx hby at_220 (pc' := 224) (by decide) (by decide) ?_
        refine own_istore X50 hx hby at_224 (pc' := 226) rfl (l' := #[.val (.long p0), .second, .val (.long p1), .second, .val (.long p2), .second, .val (.long p3), .second, .val (.int p4), .val (.int p5), .val (.long (2305843009213693951 : Int64)), .second, .val (.long (p1 &&& (2305843009213693951 : Int64))), .second, .val (.long (p2 &&& (2305843009213693951 : Int64))), .second, .val (.long (p3 &&& (2305843009213693951 : Int64))), .second, .val (.int (p4 &&& (2147483647 : Int32))), .val (.int (3 : Int32)), .val (.int ((1 : Int32) + (((p5.toUInt32 >>> ((2 : Int32) &&& 31).toUInt32).toInt32) &&& (3 : Int32)))), .val (.int (1 : Int32)), .val (.int (1 : Int32)), .val (.ref b42), .val (.int (0 : Int32)), .val (.int (0 : Int32)), .val (.long ((p1 &&& (2305843009213693951 : Int64)) + ((p4 &&& (2147483647 : Int32)).toInt64))), .second, .val (.int (0 : Int32)), .val (.int (0 : Int32)), .val (.int (1 : Int32)), .unset]) rfl ?_
        refine own_iload X50 hx hby at_226 (pc' := 228) rfl rfl ?_
        refine own_ifY X50 hx hby at_228 (pc' := 242) (by decide) (by decide) (show (0 : Int32) = (0 : Int32) by decide) ?_
        refine own_iconst X50 hx hby at_242 (pc' := 243) rfl (n := (0 : Int32)) (by decide) ?_
        refine own_istore X50 hx hby at_243 (pc' := 245) rfl (l' := #[.val (.long p0), .second, .val (.long p1), .second, .val (.long p2), .second, .val (.long p3), .second, .val (.int p4), .val (.int p5), .val (.long (2305843009213693951 : Int64)), .second, .val (.long (p1 &&& (2305843009213693951 : Int64))), .second, .val (.long (p2 &&& (2305843009213693951 : Int64))), .second, .val (.long (p3 &&& (2305843009213693951 : Int64))), .second, .val (.int (p4 &&& (2147483647 : Int32))), .val (.int (3 : Int32)), .val (.int ((1 : Int32) + (((p5.toUInt32 >>> ((2 : Int32) &&& 31).toUInt32).toInt32) &&& (3 : Int32)))), .val (.int (1 : Int32)), .val (.int (1 : Int32)), .val (.ref b42), .val (.int (0 : Int32)), .val (.int (0 : Int32)), .val (.long ((p1 &&& (2305843009213693951 : Int64)) + ((p4 &&& (2147483647 : Int32)).toInt64))), .second, .val (.int (0 : Int32)), .val (.int (0 : Int32)), .val (.int (1 : Int32)), .val (.int (0 : Int32))]) rfl ?_
        refine own_iload X50 hx hby at_245 (pc' := 247) rfl rfl ?_
        refine own_iload X50 hx hby at_247 (pc' := 249) rfl rfl ?_
        refine own_icN X50 hx hby at_249 (pc' := 252) rfl (show (0 : Int32) = (0 : Int32) by decide) ?_
        refine own_iload X50 hx hby at_252 (pc' := 254) rfl rfl ?_
        refine own_iload X50 hx hby at_254 (pc' := 256) rfl rfl ?_
        refine own_icN X50 hx hby at_256 (pc' := 259) rfl (show (0 : Int32) = (0 : Int32) by decide) ?_
        refine own_aload X50 hx hby at_259 (pc' := 261) rfl rfl rfl ?_
        refine own_lk5 hw X50 hx hZ hby (by rw [hml]; rfl) hown at_261 (pc' := 264) rfl rfl O50.1 (W := 0) (Nat.le_of_eq rfl) (rm7 l Z a0 hw [] b42 r43 (0 : Int64) ((1 : Int32) + (((p5.toUInt32 >>> ((2 : Int32) &&& 31).toUInt32).toInt32) &&& (3 : Int32))) p0 (p4 &&& (2147483647 : Int32)) (1 : Int32) ((p1 &&& (2305843009213693951 : Int64)) + ((p4 &&& (2147483647 : Int32)).toInt64)) (1 : Int32) (0 : Int32) T50.heap n0 Zn O50 (by unfold own_wm; rw [if_neg (by decide)])) (by decide) (by decide) (by decide) (by decide) (fun v51 T51 L51 X51 hQ51 => ?_)
        obtain ⟨rfl, Nq51, e51⟩ := hQ51
        have N51 := Fr.app N50 Nq51
        show own_End p e below _ (T51.setTop (mkF m 264 _ [(.int (0 : Int32))]))
        refine own_iload X51 hx hby at_264 (pc' := 266) rfl rfl ?_
        refine own_icN X51 hx hby at_266 (pc' := 269) rfl (show (0 : Int32) = (0 : Int32) by decide) ?_
        refine own_aload X51 hx hby at_269 (pc' := 271) rfl rfl rfl ?_
        refine own_lk6 hw X51 hx hZ hby (by rw [hml]; rfl) hown at_271 (pc' := 274) rfl e51 O50.1 (W := 0) (Nat.le_of_eq rfl) (rm8 l Z a0 hw [] b42 r43 (0 : Int64) ((1 : Int32) + (((p5.toUInt32 >>> ((2 : Int32) &&& 31).toUInt32).toInt32) &&& (3 : Int32))) p0 (p4 &&& (2147483647 : Int32)) (1 : Int32) ((p1 &&& (2305843009213693951 : Int64)) + ((p4 &&& (2147483647 : Int32)).toInt64)) (1 : Int32) T50.heap n0 Zn O50) (by decide) (by decide) (by decide) (by decide) (fun v52 T52 L52 X52 hQ52 => ?_)
        obtain ⟨rfl, Nq52, e52⟩ := hQ52
        have N52 := Fr.app N51 Nq52
        show own_End p e below _ (T52.setTop (mkF m 274 _ [(.int (0 : Int32))]))
        refine own_iload X52 hx hby at_274 (pc' := 276) rfl rfl ?_
        refine own_ifY X52 hx hby at_276 (pc' := 283) (by decide) (by decide) (show ¬ (1 : Int32) = (0 : Int32) by decide) ?_
        refine own_iconst X52 hx hby at_283 (pc' := 284) rfl (n := (0 : Int32)) (by decide) ?_
        refine own_icN X52 hx hby at_284 (pc' := 287) rfl (show (0 : Int32) = (0 : Int32) by decide) ?_
        refine own_iconst X52 hx hby at_287 (pc' := 288) rfl (n := (1 : Int32)) (by decide) ?_
        refine own_goto X52 hx hby at_288 (pc' := 292) (by decide) (by decide) ?_
        refine own_zreturn X52 hx hlk hby hret (Or.inr rfl) at_292 (own_lv ?_ (by decide) (by decide))
        show Q0 Z p0 p1 p2 p3 p4 p5  h0 n0 (some (.int (1 : Int32))) T52.heap _
        rw [e52]
        exact ⟨rfl, N52⟩
      · show own_End p e below _ (T48.setTop (mkF m 130 #[.val (.long p0), .second, .val (.long p1), .second, .val (.long p2), .second, .val (.long p3), .second, .val (.int p4), .val (.int p5), .val (.long (2305843009213693951 : Int64)), .second, .val (.long (p1 &&& (2305843009213693951 : Int64))), .second, .val (.long (p2 &&& (2305843009213693951 : Int64))), .second, .val (.long (p3 &&& (2305843009213693951 : Int64))), .second, .val (.int (p4 &&& (2147483647 : Int32))), .val (.int (3 : Int32)), .val (.int ((1 : Int32) + (((p5.toUInt32 >>> ((2 : Int32) &&& 31).toUInt32).toInt32) &&& (3 : Int32)))), .val (.int (1 : Int32)), .val (.int (1 : Int32)), .val (.ref b42), .val (.int (0 : Int32)), .unset, .unset, .unset, .unset, .unset, .unset, .unset] [(.long (p3 &&& (2305843009213693951 : Int64))), (.ref b42)]))
        refine own_lk4 hw X48 hx hZ hby (by rw [hml]; rfl) hown at_130 (pc' := 133) rfl rfl O48.1 (W := 0) (Nat.le_of_eq rfl) (rm6b l Z a0 hw [] b42 (p3 &&& (2305843009213693951 : Int64)) r43 (0 : Int64) ((1 : Int32) + (((p5.toUInt32 >>> ((2 : Int32) &&& 31).toUInt32).toInt32) &&& (3 : Int32))) p0 (p4 &&& (2147483647 : Int32)) (1 : Int32) ((p1 &&& (2305843009213693951 : Int64)) + ((p4 &&& (2147483647 : Int32)).toInt64)) (1 : Int32) T48.heap n0 Zn O48 (by decide) hf49) (by decide) (by decide) (by decide) (by decide) (fun v53 T53 L53 X53 hQ53 => ?_)
        obtain ⟨rfl, Nq53, e53⟩ := hQ53
        have N53 := Fr.app N48 Nq53
        show own_End p e below _ (T53.setTop (mkF m 133 _ [(.int (0 : Int32))]))
        refine own_istore X53 hx hby at_133 (pc' := 135) rfl (l' := #[.val (.long p0), .second, .val (.long p1), .second, .val (.long p2), .second, .val (.long p3), .second, .val (.int p4), .val (.int p5), .val (.long (2305843009213693951 : Int64)), .second, .val (.long (p1 &&& (2305843009213693951 : Int64))), .second, .val (.long (p2 &&& (2305843009213693951 : Int64))), .second, .val (.long (p3 &&& (2305843009213693951 : Int64))), .second, .val (.int (p4 &&& (2147483647 : Int32))), .val (.int (3 : Int32)), .val (.int ((1 : Int32) + (((p5.toUInt32 >>> ((2 : Int32) &&& 31).toUInt32).toInt32) &&& (3 : Int32)))), .val (.int (1 : Int32)), .val (.int (1 : Int32)), .val (.ref b42), .val (.int (0 : Int32)), .val (.int (0 : Int32)), .unset, .unset, .unset, .unset, .unset, .unset]) rfl ?_
        refine own_iload X53 hx hby at_135 (pc' := 137) rfl rfl ?_
        refine own_ifN X53 hx hby at_137 (pc' := 140) rfl (show ¬ (1 : Int32) = (0 : Int32) by decide) ?_
        refine own_lload X53 hx hby at_140 (pc' := 142) rfl rfl ?_
        refine own_iload X53 hx hby at_142 (pc' := 144) rfl rfl ?_
        refine own_i2l X53 hx hby at_144 (pc' := 145) rfl ?_
        refine own_ladd X53 hx hby at_145 (pc' := 146) rfl ?_
        refine own_goto X53 hx hby at_146 (pc' := 150) (by decide) (by decide) ?_
        refine own_lstore X53 hx hby at_150 (pc' := 152) rfl (l' := #[.val (.long p0), .second, .val (.long p1), .second, .val (.long p2), .second, .val (.long p3), .second, .val (.int p4), .val (.int p5), .val (.long (2305843009213693951 : Int64)), .second, .val (.long (p1 &&& (2305843009213693951 : Int64))), .second, .val (.long (p2 &&& (2305843009213693951 : Int64))), .second, .val (.long (p3 &&& (2305843009213693951 : Int64))), .second, .val (.int (p4 &&& (2147483647 : Int32))), .val (.int (3 : Int32)), .val (.int ((1 : Int32) + (((p5.toUInt32 >>> ((2 : Int32) &&& 31).toUInt32).toInt32) &&& (3 : Int32)))), .val (.int (1 : Int32)), .val (.int (1 : Int32)), .val (.ref b42), .val (.int (0 : Int32)), .val (.int (0 : Int32)), .val (.long ((p1 &&& (2305843009213693951 : Int64)) + ((p4 &&& (2147483647 : Int32)).toInt64))), .second, .unset, .unset, .unset, .unset]) rfl ?_
        refine own_iload X53 hx hby at_152 (pc' := 154) rfl rfl ?_
        refine own_ifY X53 hx hby at_154 (pc' := 180) (by decide) (by decide) (show ¬ (1 : Int32) = (0 : Int32) by decide) ?_
        refine own_iconst X53 hx hby at_180 (pc' := 181) rfl (n := (0 : Int32)) (by decide) ?_
        refine own_istore X53 hx hby at_181 (pc' := 183) rfl (l' := #[.val (.long p0), .second, .val (.long p1), .second, .val (.long p2), .second, .val (.long p3), .second, .val (.int p4), .val (.int p5), .val (.long (2305843009213693951 : Int64)), .second, .val (.long (p1 &&& (2305843009213693951 : Int64))), .second, .val (.long (p2 &&& (2305843009213693951 : Int64))), .second, .val (.long (p3 &&& (2305843009213693951 : Int64))), .second, .val (.int (p4 &&& (2147483647 : Int32))), .val (.int (3 : Int32)), .val (.int ((1 : Int32) + (((p5.toUInt32 >>> ((2 : Int32) &&& 31).toUInt32).toInt32) &&& (3 : Int32)))), .val (.int (1 : Int32)), .val (.int (1 : Int32)), .val (.ref b42), .val (.int (0 : Int32)), .val (.int (0 : Int32)), .val (.long ((p1 &&& (2305843009213693951 : Int64)) + ((p4 &&& (2147483647 : Int32)).toInt64))), .second, .val (.int (0 : Int32)), .unset, .unset, .unset]) rfl ?_
        refine own_iload X53 hx hby at_183 (pc' := 185) rfl rfl ?_
        refine own_ifY X53 hx hby at_185 (pc' := 211) (by decide) (by decide) (show (0 : Int32) = (0 : Int32) by decide) ?_
        refine own_iconst X53 hx hby at_211 (pc' := 212) rfl (n := (0 : Int32)) (by decide) ?_
        refine own_istore X53 hx hby at_212 (pc' := 214) rfl (l' := #[.val (.long p0), .second, .val (.long p1), .second, .val (.long p2), .second, .val (.long p3), .second, .val (.int p4), .val (.int p5), .val (.long (2305843009213693951 : Int64)), .second, .val (.long (p1 &&& (2305843009213693951 : Int64))), .second, .val (.long (p2 &&& (2305843009213693951 : Int64))), .second, .val (.long (p3 &&& (2305843009213693951 : Int64))), .second, .val (.int (p4 &&& (2147483647 : Int32))), .val (.int (3 : Int32)), .val (.int ((1 : Int32) + (((p5.toUInt32 >>> ((2 : Int32) &&& 31).toUInt32).toInt32) &&& (3 : Int32)))), .val (.int (1 : Int32)), .val (.int (1 : Int32)), .val (.ref b42), .val (.int (0 : Int32)), .val (.int (0 : Int32)), .val (.long ((p1 &&& (2305843009213693951 : Int64)) + ((p4 &&& (2147483647 : Int32)).toInt64))), .second, .val (.int (0 : Int32)), .val (.int (0 : Int32)), .unset, .unset]) rfl ?_
        refine own_iload X53 hx hby at_214 (pc' := 216) rfl rfl ?_
        refine own_ifN X53 hx hby at_216 (pc' := 219) rfl (show ¬ (1 : Int32) = (0 : Int32) by decide) ?_
        refine own_iconst X53 hx hby at_219 (pc' := 220) rfl (n := (1 : Int32)) (by decide) ?_
        refine own_goto X53 hx hby at_220 (pc' := 224) (by decide) (by decide) ?_
        refine own_istore X53 hx hby at_224 (pc' := 226) rfl (l' := #[.val (.long p0), .second, .val (.long p1), .second, .val (.long p2), .second, .val (.long p3), .second, .val (.int p4), .val (.int p5), .val (.long (2305843009213693951 : Int64)), .second, .val (.long (p1 &&& (2305843009213693951 : Int64))), .second, .val (.long (p2 &&& (2305843009213693951 : Int64))), .second, .val (.long (p3 &&& (2305843009213693951 : Int64))), .second, .val (.int (p4 &&& (2147483647 : Int32))), .val (.int (3 : Int32)), .val (.int ((1 : Int32) + (((p5.toUInt32 >>> ((2 : Int32) &&& 31).toUInt32).toInt32) &&& (3 : Int32)))), .val (.int (1 : Int32)), .val (.int (1 : Int32)), .val (.ref b42), .val (.int (0 : Int32)), .val (.int (0 : Int32)), .val (.long ((p1 &&& (2305843009213693951 : Int64)) + ((p4 &&& (2147483647 : Int32)).toInt64))), .second, .val (.int (0 : Int32)), .val (.int (0 : Int32)), .val (.int (1 : Int32)), .unset]) rfl ?_
        refine own_iload X53 hx hby at_226 (pc' := 228) rfl rfl ?_
        refine own_ifY X53 hx hby at_228 (pc' := 242) (by decide) (by decide) (show (0 : Int32) = (0 : Int32) by decide) ?_
        refine own_iconst X53 hx hby at_242 (pc' := 243) rfl (n := (0 : Int32)) (by decide) ?_
        refine own_istore X53 hx hby at_243 (pc' := 245) rfl (l' := #[.val (.long p0), .second, .val (.long p1), .second, .val (.long p2), .second, .val (.long p3), .second, .val (.int p4), .val (.int p5), .val (.long (2305843009213693951 : Int64)), .second, .val (.long (p1 &&& (2305843009213693951 : Int64))), .second, .val (.long (p2 &&& (2305843009213693951 : Int64))), .second, .val (.long (p3 &&& (2305843009213693951 : Int64))), .second, .val (.int (p4 &&& (2147483647 : Int32))), .val (.int (3 : Int32)), .val (.int ((1 : Int32) + (((p5.toUInt32 >>> ((2 : Int32) &&& 31).toUInt32).toInt32) &&& (3 : Int32)))), .val (.int (1 : Int32)), .val (.int (1 : Int32)), .val (.ref b42), .val (.int (0 : Int32)), .val (.int (0 : Int32)), .val (.long ((p1 &&& (2305843009213693951 : Int64)) + ((p4 &&& (2147483647 : Int32)).toInt64))), .second, .val (.int (0 : Int32)), .val (.int (0 : Int32)), .val (.int (1 : Int32)), .val (.int (0 : Int32))]) rfl ?_
        refine own_iload X53 hx hby at_245 (pc' := 247) rfl rfl ?_
        refine own_iload X53 hx hby at_247 (pc' := 249) rfl rfl ?_
        refine own_icN X53 hx hby at_249 (pc' := 252) rfl (show (0 : Int32) = (0 : Int32) by decide) ?_
        refine own_iload X53 hx hby at_252 (pc' := 254) rfl rfl ?_
        refine own_iload X53 hx hby at_254 (pc' := 256) rfl rfl ?_
        refine own_icN X53 hx hby at_256 (pc' := 259) rfl (show (0 : Int32) = (0 : Int32) by decide) ?_
        refine own_aload X53 hx hby at_259 (pc' := 261) rfl rfl rfl ?_
        refine own_lk5 hw X53 hx hZ hby (by rw [hml]; rfl) hown at_261 (pc' := 264) rfl e53 O48.1 (W := 0) (Nat.le_of_eq rfl) (rm7 l Z a0 hw [] b42 r43 (0 : Int64) ((1 : Int32) + (((p5.toUInt32 >>> ((2 : Int32) &&& 31).toUInt32).toInt32) &&& (3 : Int32))) p0 (p4 &&& (2147483647 : Int32)) (1 : Int32) ((p1 &&& (2305843009213693951 : Int64)) + ((p4 &&& (2147483647 : Int32)).toInt64)) (1 : Int32) (0 : Int32) T48.heap n0 Zn O48 (by unfold own_wm; rw [if_neg (by decide)])) (by decide) (by decide) (by decide) (by decide) (fun v54 T54 L54 X54 hQ54 => ?_)
        obtain ⟨rfl, Nq54, e54⟩ := hQ54
        have N54 := Fr.app N53 Nq54
        show own_End p e below _ (T54.setTop (mkF m 264 _ [(.int (0 : Int32))]))
        refine own_iload X54 hx hby at_264 (pc' := 266) rfl rfl ?_
        refine own_icN X54 hx hby at_266 (pc' := 269) rfl (show (0 : Int32) = (0 : Int32) by decide) ?_
        refine own_aload X54 hx hby at_269 (pc' := 271) rfl rfl rfl ?_
        refine own_lk6 hw X54 hx hZ hby (by rw [hml]; rfl) hown at_271 (pc' := 274) rfl e54 O48.1 (W := 0) (Nat.le_of_eq rfl) (rm8 l Z a0 hw [] b42 r43 (0 : Int64) ((1 : Int32) + (((p5.toUInt32 >>> ((2 : Int32) &&& 31).toUInt32).toInt32) &&& (3 : Int32))) p0 (p4 &&& (2147483647 : Int32)) (1 : Int32) ((p1 &&& (2305843009213693951 : Int64)) + ((p4 &&& (2147483647 : Int32)).toInt64)) (1 : Int32) T48.heap n0 Zn O48) (by decide) (by decide) (by decide) (by decide) (fun v55 T55 L55 X55 hQ55 => ?_)
        obtain ⟨rfl, Nq55, e55⟩ := hQ55
        have N55 := Fr.app N54 Nq55
        show own_End p e below _ (T55.setTop (mkF m 274 _ [(.int (0 : Int32))]))
        refine own_iload X55 hx hby at_274 (pc' := 276) rfl rfl ?_
        refine own_ifY X55 hx hby at_276 (pc' := 283) (by decide) (by decide) (show ¬ (1 : Int32) = (0 : Int32) by decide) ?_
        refine own_iconst X55 hx hby at_283 (pc' := 284) rfl (n := (0 : Int32)) (by decide) ?_
        refine own_icN X55 hx hby at_284 (pc' := 287) rfl (show (0 : Int32) = (0 : Int32) by decide) ?_
        refine own_iconst X55 hx hby at_287 (pc' := 288) rfl (n := (1 : Int32)) (by decide) ?_
        refine own_goto X55 hx hby at_288 (pc' := 292) (by decide) (by decide) ?_
        refine own_zreturn X55 hx hlk hby hret (Or.inr rfl) at_292 (own_lv ?_ (by decide) (by decide))
        show Q0 Z p0 p1 p2 p3 p4 p5  h0 n0 (some (.int (1 : Int32))) T55.heap _
        rw [e55]
        exact ⟨rfl, N55⟩
    · show own_End p e below _ (T46.setTop (mkF m 121 #[.val (.long p0), .second, .val (.long p1), .second, .val (.long p2), .second, .val (.long p3), .second, .val (.int p4), .val (.int p5), .val (.long (2305843009213693951 : Int64)), .second, .val (.long (p1 &&& (2305843009213693951 : Int64))), .second, .val (.long (p2 &&& (2305843009213693951 : Int64))), .second, .val (.long (p3 &&& (2305843009213693951 : Int64))), .second, .val (.int (p4 &&& (2147483647 : Int32))), .val (.int (3 : Int32)), .val (.int ((1 : Int32) + (((p5.toUInt32 >>> ((2 : Int32) &&& 31).toUInt32).toInt32) &&& (3 : Int32)))), .val (.int (1 : Int32)), .val (.int (1 : Int32)), .val (.ref b42), .unset, .unset, .unset, .unset, .unset, .unset, .unset, .unset] [(.long (p2 &&& (2305843009213693951 : Int64))), (.ref b42)]))
      refine own_lk4 hw X46 hx hZ hby (by rw [hml]; rfl) hown at_121 (pc' := 124) rfl rfl O46.1 (W := 0) (Nat.le_of_eq rfl) (rm6b l Z a0 hw [] b42 (p2 &&& (2305843009213693951 : Int64)) r43 (0 : Int64) ((1 : Int32) + (((p5.toUInt32 >>> ((2 : Int32) &&& 31).toUInt32).toInt32) &&& (3 : Int32))) p0 (p4 &&& (2147483647 : Int32)) (1 : Int32) ((p1 &&& (2305843009213693951 : Int64)) + ((p4 &&& (2147483647 : Int32)).toInt64)) (1 : Int32) T46.heap n0 Zn O46 (by decide) hf47) (by decide) (by decide) (by decide) (by decide) (fun v56 T56 L56 X56 hQ56 => ?_)
      obtain ⟨rfl, Nq56, e56⟩ := hQ56
      have N56 := Fr.app N46 Nq56
      show own_End p e below _ (T56.setTop (mkF m 124 _ [(.int (0 : Int32))]))
      refine own_istore X56 hx hby at_124 (pc' := 126) rfl (l' := #[.val (.long p0), .second, .val (.long p1), .second, .val (.long p2), .second, .val (.long p3), .second, .val (.int p4), .val (.int p5), .val (.long (2305843009213693951 : Int64)), .second, .val (.long (p1 &&& (2305843009213693951 : Int64))), .second, .val (.long (p2 &&& (2305843009213693951 : Int64))), .second, .val (.long (p3 &&& (2305843009213693951 : Int64))), .second, .val (.int (p4 &&& (2147483647 : Int32))), .val (.int (3 : Int32)), .val (.int ((1 : Int32) + (((p5.toUInt32 >>> ((2 : Int32) &&& 31).toUInt32).toInt32) &&& (3 : Int32)))), .val (.int (1 : Int32)), .val (.int (1 : Int32)), .val (.ref b42), .val (.int (0 : Int32)), .unset, .unset, .unset, .unset, .unset, .unset, .unset]) rfl ?_
      refine own_aload X56 hx hby at_126 (pc' := 128) rfl rfl rfl ?_
      refine own_lload X56 hx hby at_128 (pc' := 130) rfl rfl ?_
      rcases Decidable.em (p0 < ((((p1 &&& (2305843009213693951 : Int64)) + ((p4 &&& (2147483647 : Int32)).toInt64)) + (p3 &&& (2305843009213693951 : Int64))) + ((p4 &&& (2147483647 : Int32)).toInt64))) with hf57 | hf57
      · show own_End p e below _ (T56.setTop (mkF m 130 #[.val (.long p0), .second, .val (.long p1), .second, .val (.long p2), .second, .val (.long p3), .second, .val (.int p4), .val (.int p5), .val (.long (2305843009213693951 : Int64)), .second, .val (.long (p1 &&& (2305843009213693951 : Int64))), .second, .val (.long (p2 &&& (2305843009213693951 : Int64))), .second, .val (.long (p3 &&& (2305843009213693951 : Int64))), .second, .val (.int (p4 &&& (2147483647 : Int32))), .val (.int (3 : Int32)), .val (.int ((1 : Int32) + (((p5.toUInt32 >>> ((2 : Int32) &&& 31).toUInt32).toInt32) &&& (3 : Int32)))), .val (.int (1 : Int32)), .val (.int (1 : Int32)), .val (.ref b42), .val (.int (0 : Int32)), .unset, .unset, .unset, .unset, .unset, .unset, .unset] [(.long (p3 &&& (2305843009213693951 : Int64))), (.ref b42)]))
        refine own_lk4 hw X56 hx hZ hby (by rw [hml]; rfl) hown at_130 (pc' := 133) rfl e56 O46.1 (W := 0) (Nat.le_of_eq rfl) (rm6c l Z a0 hw [] b42 (p3 &&& (2305843009213693951 : Int64)) r43 (0 : Int64) ((1 : Int32) + (((p5.toUInt32 >>> ((2 : Int32) &&& 31).toUInt32).toInt32) &&& (3 : Int32))) p0 (p4 &&& (2147483647 : Int32)) (1 : Int32) ((p1 &&& (2305843009213693951 : Int64)) + ((p4 &&& (2147483647 : Int32)).toInt64)) (1 : Int32) T46.heap n0 Zn O46 ge_b42 (by decide) hf57) (by decide) (by decide) (by decide) (by decide) (fun v58 T58 L58 X58 hQ58 => ?_)
        obtain ⟨rfl, Nq58, K58, O58⟩ := hQ58
        have N58 := Fr.app N56 Nq58
        have Zn := Nat.le_trans Zn K58.1
        show own_End p e below _ (T58.setTop (mkF m 133 _ [(.int (0 : Int32))]))
        refine own_istore X58 hx hby at_133 (pc' := 135) rfl (l' := #[.val (.long p0), .second, .val (.long p1), .second, .val (.long p2), .second, .val (.long p3), .second, .val (.int p4), .val (.int p5), .val (.long (2305843009213693951 : Int64)), .second, .val (.long (p1 &&& (2305843009213693951 : Int64))), .second, .val (.long (p2 &&& (2305843009213693951 : Int64))), .second, .val (.long (p3 &&& (2305843009213693951 : Int64))), .second, .val (.int (p4 &&& (2147483647 : Int32))), .val (.int (3 : Int32)), .val (.int ((1 : Int32) + (((p5.toUInt32 >>> ((2 : Int32) &&& 31).toUInt32).toInt32) &&& (3 : Int32)))), .val (.int (1 : Int32)), .val (.int (1 : Int32)), .val (.ref b42), .val (.int (0 : Int32)), .val (.int (0 : Int32)), .unset, .unset, .unset, .unset, .unset, .unset]) rfl ?_
        refine own_iload X58 hx hby at_135 (pc' := 137) rfl rfl ?_
        refine own_ifN X58 hx hby at_137 (pc' := 140) rfl (show ¬ (1 : Int32) = (0 : Int32) by decide) ?_
        refine own_lload X58 hx hby at_140 (pc' := 142) rfl rfl ?_
        refine own_iload X58 hx hby at_142 (pc' := 144) rfl rfl ?_
        refine own_i2l X58 hx hby at_144 (pc' := 145) rfl ?_
        refine own_ladd X58 hx hby at_145 (pc' := 146) rfl ?_
        refine own_goto X58 hx hby at_146 (pc' := 150) (by decide) (by decide) ?_
        refine own_lstore X58 hx hby at_150 (pc' := 152) rfl (l' := #[.val (.long p0), .second, .val (.long p1), .second, .val (.long p2), .second, .val (.long p3), .second, .val (.int p4), .val (.int p5), .val (.long (2305843009213693951 : Int64)), .second, .val (.long (p1 &&& (2305843009213693951 : Int64))), .second, .val (.long (p2 &&& (2305843009213693951 : Int64))), .second, .val (.long (p3 &&& (2305843009213693951 : Int64))), .second, .val (.int (p4 &&& (2147483647 : Int32))), .val (.int (3 : Int32)), .val (.int ((1 : Int32) + (((p5.toUInt32 >>> ((2 : Int32) &&& 31).toUInt32).toInt32) &&& (3 : Int32)))), .val (.int (1 : Int32)), .val (.int (1 : Int32)), .val (.ref b42), .val (.int (0 : Int32)), .val (.int (0 : Int32)), .val (.long ((p1 &&& (2305843009213693951 : Int64)) + ((p4 &&& (2147483647 : Int32)).toInt64))), .second, .unset, .unset, .unset, .unset]) rfl ?_
        refine own_iload X58 hx hby at_152 (pc' := 154) rfl rfl ?_
        refine own_ifY X58 hx hby at_154 (pc' := 180) (by decide) (by decide) (show ¬ (1 : Int32) = (0 : Int32) by decide) ?_
        refine own_iconst X58 hx hby at_180 (pc' := 181) rfl (n := (0 : Int32)) (by decide) ?_
        refine own_istore X58 hx hby at_181 (pc' := 183) rfl (l' := #[.val (.long p0), .second, .val (.long p1), .second, .val (.long p2), .second, .val (.long p3), .second, .val (.int p4), .val (.int p5), .val (.long (2305843009213693951 : Int64)), .second, .val (.long (p1 &&& (2305843009213693951 : Int64))), .second, .val (.long (p2 &&& (2305843009213693951 : Int64))), .second, .val (.long (p3 &&& (2305843009213693951 : Int64))), .second, .val (.int (p4 &&& (2147483647 : Int32))), .val (.int (3 : Int32)), .val (.int ((1 : Int32) + (((p5.toUInt32 >>> ((2 : Int32) &&& 31).toUInt32).toInt32) &&& (3 : Int32)))), .val (.int (1 : Int32)), .val (.int (1 : Int32)), .val (.ref b42), .val (.int (0 : Int32)), .val (.int (0 : Int32)), .val (.long ((p1 &&& (2305843009213693951 : Int64)) + ((p4 &&& (2147483647 : Int32)).toInt64))), .second, .val (.int (0 : Int32)), .unset, .unset, .unset]) rfl ?_
        refine own_iload X58 hx hby at_183 (pc' := 185) rfl rfl ?_
        refine own_ifY X58 hx hby at_185 (pc' := 211) (by decide) (by decide) (show (0 : Int32) = (0 : Int32) by decide) ?_
        refine own_iconst X58 hx hby at_211 (pc' := 212) rfl (n := (0 : Int32)) (by decide) ?_
        refine own_istore X58 hx hby at_212 (pc' := 214) rfl (l' := #[.val (.long p0), .second, .val (.long p1), .second, .val (.long p2), .second, .val (.long p3), .second, .val (.int p4), .val (.int p5), .val (.long (2305843009213693951 : Int64)), .second, .val (.long (p1 &&& (2305843009213693951 : Int64))), .second, .val (.long (p2 &&& (2305843009213693951 : Int64))), .second, .val (.long (p3 &&& (2305843009213693951 : Int64))), .second, .val (.int (p4 &&& (2147483647 : Int32))), .val (.int (3 : Int32)), .val (.int ((1 : Int32) + (((p5.toUInt32 >>> ((2 : Int32) &&& 31).toUInt32).toInt32) &&& (3 : Int32)))), .val (.int (1 : Int32)), .val (.int (1 : Int32)), .val (.ref b42), .val (.int (0 : Int32)), .val (.int (0 : Int32)), .val (.long ((p1 &&& (2305843009213693951 : Int64)) + ((p4 &&& (2147483647 : Int32)).toInt64))), .second, .val (.int (0 : Int32)), .val (.int (0 : Int32)), .unset, .unset]) rfl ?_
        refine own_iload X58 hx hby at_214 (pc' := 216) rfl rfl ?_
        refine own_ifN X58 hx hby at_216 (pc' := 219) rfl (show ¬ (1 : Int32) = (0 : Int32) by decide) ?_
        refine own_iconst X58 hx hby at_219 (pc' := 220) rfl (n := (1 : Int32)) (by decide) ?_
        refine own_goto X58 hx hby at_220 (pc' := 224) (by decide) (by decide) ?_
        refine own_istore X58 hx hby at_224 (pc' := 226) rfl (l' := #[.val (.long p0), .second, .val (.long p1), .second, .val (.long p2), .second, .val (.long p3), .second, .val (.int p4), .val (.int p5), .val (.long (2305843009213693951 : Int64)), .second, .val (.long (p1 &&& (2305843009213693951 : Int64))), .second, .val (.long (p2 &&& (2305843009213693951 : Int64))), .second, .val (.long (p3 &&& (2305843009213693951 : Int64))), .second, .val (.int (p4 &&& (2147483647 : Int32))), .val (.int (3 : Int32)), .val (.int ((1 : Int32) + (((p5.toUInt32 >>> ((2 : Int32) &&& 31).toUInt32).toInt32) &&& (3 : Int32)))), .val (.int (1 : Int32)), .val (.int (1 : Int32)), .val (.ref b42), .val (.int (0 : Int32)), .val (.int (0 : Int32)), .val (.long ((p1 &&& (2305843009213693951 : Int64)) + ((p4 &&& (2147483647 : Int32)).toInt64))), .second, .val (.int (0 : Int32)), .val (.int (0 : Int32)), .val (.int (1 : Int32)), .unset]) rfl ?_
        refine own_iload X58 hx hby at_226 (pc' := 228) rfl rfl ?_
        refine own_ifY X58 hx hby at_228 (pc' := 242) (by decide) (by decide) (show (0 : Int32) = (0 : Int32) by decide) ?_
        refine own_iconst X58 hx hby at_242 (pc' := 243) rfl (n := (0 : Int32)) (by decide) ?_
        refine own_istore X58 hx hby at_243 (pc' := 245) rfl (l' := #[.val (.long p0), .second, .val (.long p1), .second, .val (.long p2), .second, .val (.long p3), .second, .val (.int p4), .val (.int p5), .val (.long (2305843009213693951 : Int64)), .second, .val (.long (p1 &&& (2305843009213693951 : Int64))), .second, .val (.long (p2 &&& (2305843009213693951 : Int64))), .second, .val (.long (p3 &&& (2305843009213693951 : Int64))), .second, .val (.int (p4 &&& (2147483647 : Int32))), .val (.int (3 : Int32)), .val (.int ((1 : Int32) + (((p5.toUInt32 >>> ((2 : Int32) &&& 31).toUInt32).toInt32) &&& (3 : Int32)))), .val (.int (1 : Int32)), .val (.int (1 : Int32)), .val (.ref b42), .val (.int (0 : Int32)), .val (.int (0 : Int32)), .val (.long ((p1 &&& (2305843009213693951 : Int64)) + ((p4 &&& (2147483647 : Int32)).toInt64))), .second, .val (.int (0 : Int32)), .val (.int (0 : Int32)), .val (.int (1 : Int32)), .val (.int (0 : Int32))]) rfl ?_
        refine own_iload X58 hx hby at_245 (pc' := 247) rfl rfl ?_
        refine own_iload X58 hx hby at_247 (pc' := 249) rfl rfl ?_
        refine own_icN X58 hx hby at_249 (pc' := 252) rfl (show (0 : Int32) = (0 : Int32) by decide) ?_
        refine own_iload X58 hx hby at_252 (pc' := 254) rfl rfl ?_
        refine own_iload X58 hx hby at_254 (pc' := 256) rfl rfl ?_
        refine own_icN X58 hx hby at_256 (pc' := 259) rfl (show (0 : Int32) = (0 : Int32) by decide) ?_
        refine own_aload X58 hx hby at_259 (pc' := 261) rfl rfl rfl ?_
        refine own_lk5 hw X58 hx hZ hby (by rw [hml]; rfl) hown at_261 (pc' := 264) rfl rfl O58.1 (W := 0) (Nat.le_of_eq rfl) (rm7 l Z a0 hw [] b42 r43 (0 : Int64) ((1 : Int32) + (((p5.toUInt32 >>> ((2 : Int32) &&& 31).toUInt32).toInt32) &&& (3 : Int32))) p0 (p4 &&& (2147483647 : Int32)) (1 : Int32) ((p1 &&& (2305843009213693951 : Int64)) + ((p4 &&& (2147483647 : Int32)).toInt64)) (1 : Int32) (0 : Int32) T58.heap n0 Zn O58 (by unfold own_wm; rw [if_neg (by decide)])) (by decide) (by decide) (by decide) (by decide) (fun v59 T59 L59 X59 hQ59 => ?_)
        obtain ⟨rfl, Nq59, e59⟩ := hQ59
        have N59 := Fr.app N58 Nq59
        show own_End p e below _ (T59.setTop (mkF m 264 _ [(.int (0 : Int32))]))
        refine own_iload X59 hx hby at_264 (pc' := 266) rfl rfl ?_
        refine own_icN X59 hx hby at_266 (pc' := 269) rfl (show (0 : Int32) = (0 : Int32) by decide) ?_
        refine own_aload X59 hx hby at_269 (pc' := 271) rfl rfl rfl ?_
        refine own_lk6 hw X59 hx hZ hby (by rw [hml]; rfl) hown at_271 (pc' := 274) rfl e59 O58.1 (W := 0) (Nat.le_of_eq rfl) (rm8 l Z a0 hw [] b42 r43 (0 : Int64) ((1 : Int32) + (((p5.toUInt32 >>> ((2 : Int32) &&& 31).toUInt32).toInt32) &&& (3 : Int32))) p0 (p4 &&& (2147483647 : Int32)) (1 : Int32) ((p1 &&& (2305843009213693951 : Int64)) + ((p4 &&& (2147483647 : Int32)).toInt64)) (1 : Int32) T58.heap n0 Zn O58) (by decide) (by decide) (by decide) (by decide) (fun v60 T60 L60 X60 hQ60 => ?_)
        obtain ⟨rfl, Nq60, e60⟩ := hQ60
        have N60 := Fr.app N59 Nq60
        show own_End p e below _ (T60.setTop (mkF m 274 _ [(.int (0 : Int32))]))
        refine own_iload X60 hx hby at_274 (pc' := 276) rfl rfl ?_
        refine own_ifY X60 hx hby at_276 (pc' := 283) (by decide) (by decide) (show ¬ (1 : Int32) = (0 : Int32) by decide) ?_
        refine own_iconst X60 hx hby at_283 (pc' := 284) rfl (n := (0 : Int32)) (by decide) ?_
        refine own_icN X60 hx hby at_284 (pc' := 287) rfl (show (0 : Int32) = (0 : Int32) by decide) ?_
        refine own_iconst X60 hx hby at_287 (pc' := 288) rfl (n := (1 : Int32)) (by decide) ?_
        refine own_goto X60 hx hby at_288 (pc' := 292) (by decide) (by decide) ?_
        refine own_zreturn X60 hx hlk hby hret (Or.inr rfl) at_292 (own_lv ?_ (by decide) (by decide))
        show Q0 Z p0 p1 p2 p3 p4 p5  h0 n0 (some (.int (1 : Int32))) T60.heap _
        rw [e60]
        exact ⟨rfl, N60⟩
      · show own_End p e below _ (T56.setTop (mkF m 130 #[.val (.long p0), .second, .val (.long p1), .second, .val (.long p2), .second, .val (.long p3), .second, .val (.int p4), .val (.int p5), .val (.long (2305843009213693951 : Int64)), .second, .val (.long (p1 &&& (2305843009213693951 : Int64))), .second, .val (.long (p2 &&& (2305843009213693951 : Int64))), .second, .val (.long (p3 &&& (2305843009213693951 : Int64))), .second, .val (.int (p4 &&& (2147483647 : Int32))), .val (.int (3 : Int32)), .val (.int ((1 : Int32) + (((p5.toUInt32 >>> ((2 : Int32) &&& 31).toUInt32).toInt32) &&& (3 : Int32)))), .val (.int (1 : Int32)), .val (.int (1 : Int32)), .val (.ref b42), .val (.int (0 : Int32)), .unset, .unset, .unset, .unset, .unset, .unset, .unset] [(.long (p3 &&& (2305843009213693951 : Int64))), (.ref b42)]))
        refine own_lk4 hw X56 hx hZ hby (by rw [hml]; rfl) hown at_130 (pc' := 133) rfl e56 O46.1 (W := 0) (Nat.le_of_eq rfl) (rm6b l Z a0 hw [] b42 (p3 &&& (2305843009213693951 : Int64)) r43 (0 : Int64) ((1 : Int32) + (((p5.toUInt32 >>> ((2 : Int32) &&& 31).toUInt32).toInt32) &&& (3 : Int32))) p0 (p4 &&& (2147483647 : Int32)) (1 : Int32) ((p1 &&& (2305843009213693951 : Int64)) + ((p4 &&& (2147483647 : Int32)).toInt64)) (1 : Int32) T46.heap n0 Zn O46 (by decide) hf57) (by decide) (by decide) (by decide) (by decide) (fun v61 T61 L61 X61 hQ61 => ?_)
        obtain ⟨rfl, Nq61, e61⟩ := hQ61
        have N61 := Fr.app N56 Nq61
        show own_End p e below _ (T61.setTop (mkF m 133 _ [(.int (0 : Int32))]))
        refine own_istore X61 hx hby at_133 (pc' := 135) rfl (l' := #[.val (.long p0), .second, .val (.long p1), .second, .val (.long p2), .second, .val (.long p3), .second, .val (.int p4), .val (.int p5), .val (.long (2305843009213693951 : Int64)), .second, .val (.long (p1 &&& (2305843009213693951 : Int64))), .second, .val (.long (p2 &&& (2305843009213693951 : Int64))), .second, .val (.long (p3 &&& (2305843009213693951 : Int64))), .second, .val (.int (p4 &&& (2147483647 : Int32))), .val (.int (3 : Int32)), .val (.int ((1 : Int32) + (((p5.toUInt32 >>> ((2 : Int32) &&& 31).toUInt32).toInt32) &&& (3 : Int32)))), .val (.int (1 : Int32)), .val (.int (1 : Int32)), .val (.ref b42), .val (.int (0 : Int32)), .val (.int (0 : Int32)), .unset, .unset, .unset, .unset, .unset, .unset]) rfl ?_
        refine own_iload X61 hx hby at_135 (pc' := 137) rfl rfl ?_
        refine own_ifN X61 hx hby at_137 (pc' := 140) rfl (show ¬ (1 : Int32) = (0 : Int32) by decide) ?_
        refine own_lload X61 hx hby at_140 (pc' := 142) rfl rfl ?_
        refine own_iload X61 hx hby at_142 (pc' := 144) rfl rfl ?_
        refine own_i2l X61 hx hby at_144 (pc' := 145) rfl ?_
        refine own_ladd X61 hx hby at_145 (pc' := 146) rfl ?_
        refine own_goto X61 hx hby at_146 (pc' := 150) (by decide) (by decide) ?_
        refine own_lstore X61 hx hby at_150 (pc' := 152) rfl (l' := #[.val (.long p0), .second, .val (.long p1), .second, .val (.long p2), .second, .val (.long p3), .second, .val (.int p4), .val (.int p5), .val (.long (2305843009213693951 : Int64)), .second, .val (.long (p1 &&& (2305843009213693951 : Int64))), .second, .val (.long (p2 &&& (2305843009213693951 : Int64))), .second, .val (.long (p3 &&& (2305843009213693951 : Int64))), .second, .val (.int (p4 &&& (2147483647 : Int32))), .val (.int (3 : Int32)), .val (.int ((1 : Int32) + (((p5.toUInt32 >>> ((2 : Int32) &&& 31).toUInt32).toInt32) &&& (3 : Int32)))), .val (.int (1 : Int32)), .val (.int (1 : Int32)), .val (.ref b42), .val (.int (0 : Int32)), .val (.int (0 : Int32)), .val (.long ((p1 &&& (2305843009213693951 : Int64)) + ((p4 &&& (2147483647 : Int32)).toInt64))), .second, .unset, .unset, .unset, .unset]) rfl ?_
        refine own_iload X61 hx hby at_152 (pc' := 154) rfl rfl ?_
        refine own_ifY X61 hx hby at_154 (pc' := 180) (by decide) (by decide) (show ¬ (1 : Int32) = (0 : Int32) by decide) ?_
        refine own_iconst X61 hx hby at_180 (pc' := 181) rfl (n := (0 : Int32)) (by decide) ?_
        refine own_istore X61 hx hby at_181 (pc' := 183) rfl (l' := #[.val (.long p0), .second, .val (.long p1), .second, .val (.long p2), .second, .val (.long p3), .second, .val (.int p4), .val (.int p5), .val (.long (2305843009213693951 : Int64)), .second, .val (.long (p1 &&& (2305843009213693951 : Int64))), .second, .val (.long (p2 &&& (2305843009213693951 : Int64))), .second, .val (.long (p3 &&& (2305843009213693951 : Int64))), .second, .val (.int (p4 &&& (2147483647 : Int32))), .val (.int (3 : Int32)), .val (.int ((1 : Int32) + (((p5.toUInt32 >>> ((2 : Int32) &&& 31).toUInt32).toInt32) &&& (3 : Int32)))), .val (.int (1 : Int32)), .val (.int (1 : Int32)), .val (.ref b42), .val (.int (0 : Int32)), .val (.int (0 : Int32)), .val (.long ((p1 &&& (2305843009213693951 : Int64)) + ((p4 &&& (2147483647 : Int32)).toInt64))), .second, .val (.int (0 : Int32)), .unset, .unset, .unset]) rfl ?_
        refine own_iload X61 hx hby at_183 (pc' := 185) rfl rfl ?_
        refine own_ifY X61 hx hby at_185 (pc' := 211) (by decide) (by decide) (show (0 : Int32) = (0 : Int32) by decide) ?_
        refine own_iconst X61 hx hby at_211 (pc' := 212) rfl (n := (0 : Int32)) (by decide) ?_
        refine own_istore X61 hx hby at_212 (pc' := 214) rfl (l' := #[.val (.long p0), .second, .val (.long p1), .second, .val (.long p2), .second, .val (.long p3), .second, .val (.int p4), .val (.int p5), .val (.long (2305843009213693951 : Int64)), .second, .val (.long (p1 &&& (2305843009213693951 : Int64))), .second, .val (.long (p2 &&& (2305843009213693951 : Int64))), .second, .val (.long (p3 &&& (2305843009213693951 : Int64))), .second, .val (.int (p4 &&& (2147483647 : Int32))), .val (.int (3 : Int32)), .val (.int ((1 : Int32) + (((p5.toUInt32 >>> ((2 : Int32) &&& 31).toUInt32).toInt32) &&& (3 : Int32)))), .val (.int (1 : Int32)), .val (.int (1 : Int32)), .val (.ref b42), .val (.int (0 : Int32)), .val (.int (0 : Int32)), .val (.long ((p1 &&& (2305843009213693951 : Int64)) + ((p4 &&& (2147483647 : Int32)).toInt64))), .second, .val (.int (0 : Int32)), .val (.int (0 : Int32)), .unset, .unset]) rfl ?_
        refine own_iload X61 hx hby at_214 (pc' := 216) rfl rfl ?_
        refine own_ifN X61 hx hby at_216 (pc' := 219) rfl (show ¬ (1 : Int32) = (0 : Int32) by decide) ?_
        refine own_iconst X61 hx hby at_219 (pc' := 220) rfl (n := (1 : Int32)) (by decide) ?_
        refine own_goto X61 hx hby at_220 (pc' := 224) (by decide) (by decide) ?_
        refine own_istore X61 hx hby at_224 (pc' := 226) rfl (l' := #[.val (.long p0), .second, .val (.long p1), .second, .val (.long p2), .second, .val (.long p3), .second, .val (.int p4), .val (.int p5), .val (.long (2305843009213693951 : Int64)), .second, .val (.long (p1 &&& (2305843009213693951 : Int64))), .second, .val (.long (p2 &&& (2305843009213693951 : Int64))), .second, .val (.long (p3 &&& (2305843009213693951 : Int64))), .second, .val (.int (p4 &&& (2147483647 : Int32))), .val (.int (3 : Int32)), .val (.int ((1 : Int32) + (((p5.toUInt32 >>> ((2 : Int32) &&& 31).toUInt32).toInt32) &&& (3 : Int32)))), .val (.int (1 : Int32)), .val (.int (1 : Int32)), .val (.ref b42), .val (.int (0 : Int32)), .val (.int (0 : Int32)), .val (.long ((p1 &&& (2305843009213693951 : Int64)) + ((p4 &&& (2147483647 : Int32)).toInt64))), .second, .val (.int (0 : Int32)), .val (.int (0 : Int32)), .val (.int (1 : Int32)), .unset]) rfl ?_
        refine own_iload X61 hx hby at_226 (pc' := 228) rfl rfl ?_
        refine own_ifY X61 hx hby at_228 (pc' := 242) (by decide) (by decide) (show (0 : Int32) = (0 : Int32) by decide) ?_
        refine own_iconst X61 hx hby at_242 (pc' := 243) rfl (n := (0 : Int32)) (by decide) ?_
        refine own_istore X61 hx hby at_243 (pc' := 245) rfl (l' := #[.val (.long p0), .second, .val (.long p1), .second, .val (.long p2), .second, .val (.long p3), .second, .val (.int p4), .val (.int p5), .val (.long (2305843009213693951 : Int64)), .second, .val (.long (p1 &&& (2305843009213693951 : Int64))), .second, .val (.long (p2 &&& (2305843009213693951 : Int64))), .second, .val (.long (p3 &&& (2305843009213693951 : Int64))), .second, .val (.int (p4 &&& (2147483647 : Int32))), .val (.int (3 : Int32)), .val (.int ((1 : Int32) + (((p5.toUInt32 >>> ((2 : Int32) &&& 31).toUInt32).toInt32) &&& (3 : Int32)))), .val (.int (1 : Int32)), .val (.int (1 : Int32)), .val (.ref b42), .val (.int (0 : Int32)), .val (.int (0 : Int32)), .val (.long ((p1 &&& (2305843009213693951 : Int64)) + ((p4 &&& (2147483647 : Int32)).toInt64))), .second, .val (.int (0 : Int32)), .val (.int (0 : Int32)), .val (.int (1 : Int32)), .val (.int (0 : Int32))]) rfl ?_
        refine own_iload X61 hx hby at_245 (pc' := 247) rfl rfl ?_
        refine own_iload X61 hx hby at_247 (pc' := 249) rfl rfl ?_
        refine own_icN X61 hx hby at_249 (pc' := 252) rfl (show (0 : Int32) = (0 : Int32) by decide) ?_
        refine own_iload X61 hx hby at_252 (pc' := 254) rfl rfl ?_
        refine own_iload X61 hx hby at_254 (pc' := 256) rfl rfl ?_
        refine own_icN X61 hx hby at_256 (pc' := 259) rfl (show (0 : Int32) = (0 : Int32) by decide) ?_
        refine own_aload X61 hx hby at_259 (pc' := 261) rfl rfl rfl ?_
        refine own_lk5 hw X61 hx hZ hby (by rw [hml]; rfl) hown at_261 (pc' := 264) rfl e61 O46.1 (W := 0) (Nat.le_of_eq rfl) (rm7 l Z a0 hw [] b42 r43 (0 : Int64) ((1 : Int32) + (((p5.toUInt32 >>> ((2 : Int32) &&& 31).toUInt32).toInt32) &&& (3 : Int32))) p0 (p4 &&& (2147483647 : Int32)) (1 : Int32) ((p1 &&& (2305843009213693951 : Int64)) + ((p4 &&& (2147483647 : Int32)).toInt64)) (1 : Int32) (0 : Int32) T46.heap n0 Zn O46 (by unfold own_wm; rw [if_neg (by decide)])) (by decide) (by decide) (by decide) (by decide) (fun v62 T62 L62 X62 hQ62 => ?_)
        obtain ⟨rfl, Nq62, e62⟩ := hQ62
        have N62 := Fr.app N61 Nq62
        show own_End p e below _ (T62.setTop (mkF m 264 _ [(.int (0 : Int32))]))
        refine own_iload X62 hx hby at_264 (pc' := 266) rfl rfl ?_
        refine own_icN X62 hx hby at_266 (pc' := 269) rfl (show (0 : Int32) = (0 : Int32) by decide) ?_
        refine own_aload X62 hx hby at_269 (pc' := 271) rfl rfl rfl ?_
        refine own_lk6 hw X62 hx hZ hby (by rw [hml]; rfl) hown at_271 (pc' := 274) rfl e62 O46.1 (W := 0) (Nat.le_of_eq rfl) (rm8 l Z a0 hw [] b42 r43 (0 : Int64) ((1 : Int32) + (((p5.toUInt32 >>> ((2 : Int32) &&& 31).toUInt32).toInt32) &&& (3 : Int32))) p0 (p4 &&& (2147483647 : Int32)) (1 : Int32) ((p1 &&& (2305843009213693951 : Int64)) + ((p4 &&& (2147483647 : Int32)).toInt64)) (1 : Int32) T46.heap n0 Zn O46) (by decide) (by decide) (by decide) (by decide) (fun v63 T63 L63 X63 hQ63 => ?_)
        obtain ⟨rfl, Nq63, e63⟩ := hQ63
        have N63 := Fr.app N62 Nq63
        show own_End p e below _ (T63.setTop (mkF m 274 _ [(.int (0 : Int32))]))
        refine own_iload X63 hx hby at_274 (pc' := 276) rfl rfl ?_
        refine own_ifY X63 hx hby at_276 (pc' := 283) (by decide) (by decide) (show ¬ (1 : Int32) = (0 : Int32) by decide) ?_
        refine own_iconst X63 hx hby at_283 (pc' := 284) rfl (n := (0 : Int32)) (by decide) ?_
        refine own_icN X63 hx hby at_284 (pc' := 287) rfl (show (0 : Int32) = (0 : Int32) by decide) ?_
        refine own_iconst X63 hx hby at_287 (pc' := 288) rfl (n := (1 : Int32)) (by decide) ?_
        refine own_goto X63 hx hby at_288 (pc' := 292) (by decide) (by decide) ?_
        refine own_zreturn X63 hx hlk hby hret (Or.inr rfl) at_292 (own_lv ?_ (by decide) (by decide))
        show Q0 Z p0 p1 p2 p3 p4 p5  h0 n0 (some (.int (1 : Int32))) T63.heap _
        rw [e63]
        exact ⟨rfl, N63⟩
set_option maxRecDepth 65536 in
set_option maxHeartbeats 40000000 in
theorem comes_1 {Post : Tables → Env → Array Value → State → Outcome → State → Prop} (hpost : ∀ tb e args s v u, (limb_1_1.after args s (.returned v) u = true ∧ limb_1_2.after args s (.returned v) u = true ∧ True) → FrameEnd s (.returned v) u (Jvm.fieldLocs frame_1_writes args s ++ Jvm.arrayLocs frame_1_arrays args s ++ Jvm.staticLocs frame_1_statics s) 16 128 → Post tb e args s (.returned v) u) :
    ArmFor flags0 classFile x code maxLocals ret World_1 tables_1 room_1 Calls_1 rest_1 Pre_1 Post := by
  intro l hfl _ _ p e ha hc hk s m args below hf hA hF happ hP
  obtain ⟨hcalls, hrest, hpre⟩ := hP
  obtain ⟨-, -, -, hnamed, -, -, -, hat⟩ := (Spec.applies_iff hf).mp happ
  obtain ⟨hg, hn⟩ := and_e (Cond.before_iff.mp (show (Jvm.Cond.and given_1 narrow_1).before args s = true from hpre))
  obtain ⟨g1, g2⟩ := and_e hg
  obtain ⟨g3, g4⟩ := and_e g2
  obtain ⟨g5, g6⟩ := and_e g4
  obtain ⟨g7, g8⟩ := and_e g6
  obtain ⟨g9, g10⟩ := and_e g8
  obtain ⟨g11, g12⟩ := and_e g10
  obtain ⟨w0, w1, w2, w3, w4, w5, rfl⟩ : ∃ w0 w1 w2 w3 w4 w5 : Value, args = #[w0, w1, w2, w3, w4, w5] := by
    have hs : args.size = 6 := by simpa [Cond.value, given_1] using g1
    obtain ⟨L⟩ := args
    match L, hs with
    | [w0, w1, w2, w3, w4, w5], _ => exact ⟨w0, w1, w2, w3, w4, w5, rfl⟩
  have hw := fun d (hd : d ∈ tables_1) => atoms_spec (ws := Jvm.Cond.code x code maxLocals ret :: tables_1) hat d (List.mem_cons_of_mem _ hd)
  have hfit : Fit s := fun {y c} hc i hi => by
    obtain ⟨ha, rfl⟩ := Array.getElem?_eq_some_iff.mp hc
    have q := List.all_eq_true.mp ((Array.all_eq_true_iff_forall_mem.mp hF) _ (Array.getElem_mem ha)) i (List.mem_range.mpr hi)
    simpa [Array.getElem?_eq_getElem hi] using q
  obtain ⟨i0, ei0⟩ := isL_v g3
  obtain rfl : w0 = (.long i0) := Option.some.inj ei0
  obtain ⟨i1, ei1⟩ := isL_v g5
  obtain rfl : w1 = (.long i1) := Option.some.inj ei1
  obtain ⟨i2, ei2⟩ := isL_v g7
  obtain rfl : w2 = (.long i2) := Option.some.inj ei2
  obtain ⟨i3, ei3⟩ := isL_v g9
  obtain rfl : w3 = (.long i3) := Option.some.inj ei3
  obtain ⟨i4, ei4⟩ := is_v g11
  obtain rfl : w4 = (.int i4) := Option.some.inj ei4
  obtain ⟨i5, ei5⟩ := is_v g12
  obtain rfl : w5 = (.int i5) := Option.some.inj ei5
  obtain ⟨n, o, h1, h2, h3, _, L, rfl, ⟨rfl, N⟩, hq⟩ := rm0 l s _ hw tables_1 i0 i1 i2 i3 i4 i5 s.heap s.heap.size (Nat.le_refl _)  p e ha hc hk s m _ below hf ((Spec.applies_iff_loose hf).mp happ).1 ⟨rfl, State.Warmed39.refl s, rfl⟩ trivial
  refine ⟨n, _, h1, h2, h3, hpost _ _ _ _ _ _ ⟨Cond.after_iff.mpr rfl, Cond.after_iff.mpr (eq_i res_at (Term.int_eval (1)) rfl), trivial⟩ ⟨hq.1, hq.2.1, (hq.2.2.sift fun y hy => Or.inr (N y hy)).mono (by decide) (by decide)⟩⟩
theorem main_1_1 : Claimed_1_1 := comes_1 fun _ _ _ _ _ _ h hF => ⟨h.1, hF⟩
theorem main_1_2 : Claimed_1_2 := comes_1 fun _ _ _ _ _ _ h hF => ⟨h.2.1, hF⟩
end Jvm.Pilot.@@N@@
namespace Jvm.Pilot.@@N@@
open Jvm Jvm.ClassFile Sem Op Lib Jvm.Free Jvm.Stand Jvm.Pilot.@@N@@.Jvm.D
/-! MADE BY PROGRAM (witnessworld.py) out of the Statement's table words and the real class files: 18 classes; the members and pool entries that the words name. The judged class is class 1, her method 1. -/
namespace start1
open Jvm.ClassFile
def u (s : String) : CpInfo := .utf8 (stringToUtf16 s)
/-- a pool by its gaps: so many unusable entries, then the entry; so many at the end -/
def gap : Nat → List CpInfo → List CpInfo
  | 0, r => r
  | n + 1, r => .unusable :: gap n r
def poolList (es : List (Nat × CpInfo)) (last : Nat) : List CpInfo := es.foldr (fun e r => gap e.1 (e.2 :: r)) (gap last [])
def pool (es : List (Nat × CpInfo)) (last : Nat) : Array CpInfo := ⟨poolList es last⟩
def fileOf (pool : Array CpInfo) (this : Nat) (attrs : Array Attribute := #[]) (ms : Array MethodInfo := #[]) (fl : Nat := 33) (sup : Nat := 0) (ifs : Array Nat := #[]) (fds : Array FieldInfo := #[]) : ClassFile where
  minorVersion := 0
  majorVersion := 65
  constantPool := pool
  accessFlags := fl
  thisClass := this
  superClass := sup
  interfaces := ifs
  fields := fds
  methods := ms
  attributes := attrs
def plain (name : String) (sup : Option ClassId) : Class where
  name := name
  kind := .ordinary
  loader := none
  accessFlags := 33
  super := sup
  interfaces := #[]
  cf := none
  fields := #[]
  methods := #[]
  instanceTypes := #[]
  staticTypes := #[]
  resolved := #[]
  callSites := []
  init := .initialized
  statics := none
  mirror := none

def pool0 : Array CpInfo := pool [(5, u "<init>"), (0, u "()V"), (1, .class_ 10), (1, u "java/lang/Object")] 113

def k0c0 : Code := { maxStack := 0, maxLocals := 1, code := object_method_1_code, exceptionTable := #[], attributes := #[] }
def k0m0 : Method := { name := "<init>", desc := "()V", sig := { parameters := [], returnType := none }, accessFlags := 1, code := some k0c0 }
/-- java/lang/Object -/
def k0 : Class := { plain "java/lang/Object" none with
  accessFlags := 33
  interfaces := #[]
  cf := some (fileOf pool0 8 #[] #[{ accessFlags := 1, nameIndex := 5, descriptorIndex := 6, attributes := #[] }] 33 0 #[] #[])
  fields := #[]
  methods := #[k0m0]
  instanceTypes := #[]
  staticTypes := #[]
  resolved := Array.replicate 124 none
  statics := none }

def pool1 : Array CpInfo := pool [(2, .class_ 4), (1, u "java/lang/Object"), (0, u "<init>"), (0, u "()V"), (0, .long 2305843009213693951), (1, .integer 2147483647), (0, .class_ 11), (0, u "com/example/inflight/inflight/log/StoredMessages$Builder"), (0, .methodref 10 13), (0, .nameAndType 5 14), (0, u "(JIJI)V"), (0, .methodref 10 16), (0, .nameAndType 17 18), (0, u "take"), (0, u "(J)V"), (0, .methodref 10 20), (0, .nameAndType 21 6), (0, u "stop"), (0, .methodref 10 23), (0, .nameAndType 24 25), (0, u "fits"), (0, u "(J)Z"), (0, .methodref 10 27), (0, .nameAndType 28 29), (0, u "wantsMore"), (0, u "()Z"), (0, .methodref 10 31), (0, .nameAndType 32 29), (0, u "isEmpty"), (0, .class_ 34), (0, u "com/example/inflight/inflight/log/BuilderFitsPinLaw"), (2, u "law"), (0, u "(JJJJII)Z")] 7

def k1m0 : Method := { name := "<init>", desc := "()V", sig := { parameters := [], returnType := none }, accessFlags := 2, code := none }
def k1c1 : Code := { maxStack := 8, maxLocals := 32, code := code, exceptionTable := #[], attributes := #[] }
def k1m1 : Method := { name := "law", desc := "(JJJJII)Z", sig := { parameters := [.long, .long, .long, .long, .int, .int], returnType := some .boolean }, accessFlags := 9, code := some k1c1 }
/-- com/example/inflight/inflight/log/BuilderFitsPinLaw -/
def k1 : Class := { plain "com/example/inflight/inflight/log/BuilderFitsPinLaw" (some 0) with
  accessFlags := 49
  interfaces := #[]
  cf := some (fileOf pool1 33 #[] #[{ accessFlags := 2, nameIndex := 5, descriptorIndex := 6, attributes := #[] }, { accessFlags := 9, nameIndex := 37, descriptorIndex := 38, attributes := #[] }] 49 2 #[] #[])
  fields := #[]
  methods := #[k1m0, k1m1]
  instanceTypes := #[]
  staticTypes := #[]
  resolved := Array.replicate 46 none
  statics := none }

def pool2 : Array CpInfo := pool [(1, .methodref 2 3), (0, .class_ 4), (0, .nameAndType 5 6), (0, u "java/lang/Object"), (0, u "<init>"), (0, u "()V"), (0, .class_ 8), (0, u "java/util/ArrayList"), (0, .methodref 7 10), (0, .nameAndType 5 11), (0, u "(I)V"), (0, .fieldref 13 14), (0, .class_ 15), (0, .nameAndType 16 17), (0, u "com/example/inflight/inflight/log/StoredMessages$Builder"), (0, u "runs"), (0, u "Ljava/util/List;"), (0, .fieldref 13 19), (0, .nameAndType 20 21), (0, u "fromOffset"), (0, u "J"), (0, .fieldref 13 23), (0, .nameAndType 24 25), (0, u "maxMessages"), (0, u "I"), (0, .fieldref 13 27), (0, .nameAndType 28 21), (0, u "maxBytes"), (0, .fieldref 13 30), (0, .nameAndType 31 25), (0, u "bytesPerMessage"), (0, .fieldref 13 33), (0, .nameAndType 34 35), (0, u "stopped"), (0, u "Z"), (0, .fieldref 13 37), (0, .nameAndType 38 25), (0, u "taken"), (0, .fieldref 13 40), (0, .nameAndType 41 21), (0, u "takenBytes"), (6, .class_ 49), (0, u "com/example/inflight/inflight/log/StoredMessages"), (9, u "(JIJI)V"), (2, u "wantsMore"), (0, u "()Z"), (1, u "isEmpty"), (0, u "fits"), (0, u "(J)Z"), (0, u "take"), (0, u "(J)V"), (0, u "stop")] 11

def k2c0 : Code := { maxStack := 4, maxLocals := 7, code := prog_71_method_1_code, exceptionTable := #[], attributes := #[] }
def k2m0 : Method := { name := "<init>", desc := "(JIJI)V", sig := { parameters := [.long, .int, .long, .int], returnType := none }, accessFlags := 0, code := some k2c0 }
def k2c1 : Code := { maxStack := 2, maxLocals := 1, code := prog_71_method_2_code, exceptionTable := #[], attributes := #[] }
def k2m1 : Method := { name := "wantsMore", desc := "()Z", sig := { parameters := [], returnType := some .boolean }, accessFlags := 0, code := some k2c1 }
def k2c2 : Code := { maxStack := 1, maxLocals := 1, code := prog_71_method_3_code, exceptionTable := #[], attributes := #[] }
def k2m2 : Method := { name := "isEmpty", desc := "()Z", sig := { parameters := [], returnType := some .boolean }, accessFlags := 0, code := some k2c2 }
def k2c3 : Code := { maxStack := 4, maxLocals := 3, code := prog_71_method_4_code, exceptionTable := #[], attributes := #[] }
def k2m3 : Method := { name := "fits", desc := "(J)Z", sig := { parameters := [.long], returnType := some .boolean }, accessFlags := 0, code := some k2c3 }
def k2c4 : Code := { maxStack := 7, maxLocals := 3, code := prog_71_method_5_code, exceptionTable := #[], attributes := #[] }
def k2m4 : Method := { name := "take", desc := "(J)V", sig := { parameters := [.long], returnType := none }, accessFlags := 0, code := some k2c4 }
def k2c5 : Code := { maxStack := 2, maxLocals := 1, code := prog_71_method_6_code, exceptionTable := #[], attributes := #[] }
def k2m5 : Method := { name := "stop", desc := "()V", sig := { parameters := [], returnType := none }, accessFlags := 0, code := some k2c5 }
/-- com/example/inflight/inflight/log/StoredMessages$Builder -/
def k2 : Class := { plain "com/example/inflight/inflight/log/StoredMessages$Builder" (some 0) with
  accessFlags := 32
  interfaces := #[]
  cf := some (fileOf pool2 13 #[.nestHost 48] #[{ accessFlags := 0, nameIndex := 5, descriptorIndex := 59, attributes := #[] }, { accessFlags := 0, nameIndex := 62, descriptorIndex := 63, attributes := #[] }, { accessFlags := 0, nameIndex := 65, descriptorIndex := 63, attributes := #[] }, { accessFlags := 0, nameIndex := 66, descriptorIndex := 67, attributes := #[] }, { accessFlags := 0, nameIndex := 68, descriptorIndex := 69, attributes := #[] }, { accessFlags := 0, nameIndex := 70, descriptorIndex := 6, attributes := #[] }] 32 2 #[] #[{ accessFlags := 18, nameIndex := 20, descriptorIndex := 21, attributes := #[] }, { accessFlags := 18, nameIndex := 24, descriptorIndex := 25, attributes := #[] }, { accessFlags := 18, nameIndex := 28, descriptorIndex := 21, attributes := #[] }, { accessFlags := 18, nameIndex := 31, descriptorIndex := 25, attributes := #[] }, { accessFlags := 18, nameIndex := 16, descriptorIndex := 17, attributes := #[] }, { accessFlags := 2, nameIndex := 38, descriptorIndex := 25, attributes := #[] }, { accessFlags := 2, nameIndex := 41, descriptorIndex := 21, attributes := #[] }, { accessFlags := 2, nameIndex := 34, descriptorIndex := 35, attributes := #[] }])
  fields := #[{ name := "fromOffset", type := .long, accessFlags := 18, slot := 0, constantValue := 0 }, { name := "maxMessages", type := .int, accessFlags := 18, slot := 1, constantValue := 0 }, { name := "maxBytes", type := .long, accessFlags := 18, slot := 2, constantValue := 0 }, { name := "bytesPerMessage", type := .int, accessFlags := 18, slot := 3, constantValue := 0 }, { name := "runs", type := (.object "java/util/List"), accessFlags := 18, slot := 4, constantValue := 0 }, { name := "taken", type := .int, accessFlags := 2, slot := 5, constantValue := 0 }, { name := "takenBytes", type := .long, accessFlags := 2, slot := 6, constantValue := 0 }, { name := "stopped", type := .boolean, accessFlags := 2, slot := 7, constantValue := 0 }]
  methods := #[k2m0, k2m1, k2m2, k2m3, k2m4, k2m5]
  instanceTypes := #[.long, .int, .long, .int, (.object "java/util/List"), .int, .long, .boolean]
  staticTypes := #[]
  resolved := Array.replicate 82 none
  statics := none }

def pool3 : Array CpInfo := pool [(8, .class_ 10), (1, u "java/lang/Iterable"), (24, .class_ 36), (0, u "java/lang/Object")] 25

/-- java/lang/Iterable -/
def k3 : Class := { plain "java/lang/Iterable" (some 0) with
  accessFlags := 1537
  interfaces := #[]
  cf := some (fileOf pool3 8 #[] #[] 1537 35 #[] #[])
  fields := #[]
  methods := #[]
  instanceTypes := #[]
  staticTypes := #[]
  resolved := Array.replicate 62 none
  statics := none }

def pool4 : Array CpInfo := pool [(10, .class_ 12), (1, u "java/util/Collection"), (47, .class_ 61), (0, u "java/lang/Object"), (0, .class_ 63), (0, u "java/lang/Iterable")] 51

/-- java/util/Collection -/
def k4 : Class := { plain "java/util/Collection" (some 0) with
  accessFlags := 1537
  interfaces := #[3]
  cf := some (fileOf pool4 10 #[] #[] 1537 60 #[62] #[])
  fields := #[]
  methods := #[]
  instanceTypes := #[]
  staticTypes := #[]
  resolved := Array.replicate 115 none
  statics := none }

def pool5 : Array CpInfo := pool [(1, .methodref 2 3), (0, .class_ 4), (0, .nameAndType 5 6), (0, u "java/lang/Object"), (0, u "<init>"), (0, u "()V"), (1, .class_ 10), (1, u "java/util/AbstractCollection"), (66, .class_ 78), (0, u "java/util/Collection")] 81

def k5c0 : Code := { maxStack := 1, maxLocals := 1, code := jdk_22_method_1_code, exceptionTable := #[], attributes := #[] }
def k5m0 : Method := { name := "<init>", desc := "()V", sig := { parameters := [], returnType := none }, accessFlags := 4, code := some k5c0 }
/-- java/util/AbstractCollection -/
def k5 : Class := { plain "java/util/AbstractCollection" (some 0) with
  accessFlags := 1057
  interfaces := #[4]
  cf := some (fileOf pool5 8 #[] #[{ accessFlags := 4, nameIndex := 5, descriptorIndex := 6, attributes := #[] }] 1057 2 #[77] #[])
  fields := #[]
  methods := #[k5m0]
  instanceTypes := #[]
  staticTypes := #[]
  resolved := Array.replicate 160 none
  statics := none }

def pool6 : Array CpInfo := pool [(8, .class_ 10), (1, u "java/util/SequencedCollection"), (15, .class_ 27), (0, u "java/lang/Object"), (0, .class_ 29), (0, u "java/util/Collection")] 27

/-- java/util/SequencedCollection -/
def k6 : Class := { plain "java/util/SequencedCollection" (some 0) with
  accessFlags := 1537
  interfaces := #[4]
  cf := some (fileOf pool6 8 #[] #[] 1537 26 #[28] #[])
  fields := #[]
  methods := #[]
  instanceTypes := #[]
  staticTypes := #[]
  resolved := Array.replicate 57 none
  statics := none }

def pool7 : Array CpInfo := pool [(8, .class_ 10), (1, u "java/util/List"), (92, .class_ 104), (0, u "java/lang/Object"), (15, .class_ 121), (0, u "java/util/SequencedCollection")] 129

/-- java/util/List -/
def k7 : Class := { plain "java/util/List" (some 0) with
  accessFlags := 1537
  interfaces := #[6]
  cf := some (fileOf pool7 8 #[] #[] 1537 103 #[120] #[])
  fields := #[]
  methods := #[]
  instanceTypes := #[]
  staticTypes := #[]
  resolved := Array.replicate 251 none
  statics := none }

def pool8 : Array CpInfo := pool [(1, .methodref 2 3), (0, .class_ 4), (0, .nameAndType 5 6), (0, u "java/util/AbstractCollection"), (0, u "<init>"), (0, u "()V"), (0, .fieldref 8 9), (0, .class_ 10), (0, .nameAndType 11 12), (0, u "java/util/AbstractList"), (0, u "modCount"), (0, u "I"), (64, .class_ 78), (0, u "java/util/AbstractList$Itr"), (3, .class_ 83), (0, u "java/util/AbstractList$ListItr"), (9, .class_ 94), (0, u "java/util/AbstractList$RandomAccessSubList"), (3, .class_ 99), (0, u "java/util/AbstractList$SubList"), (33, .class_ 134), (0, u "java/util/List"), (73, .class_ 209), (0, u "java/util/AbstractList$SubList$1"), (0, .class_ 211), (0, u "java/util/AbstractList$RandomAccessSpliterator")] 6

def k8c0 : Code := { maxStack := 2, maxLocals := 1, code := jdk_39_method_1_code, exceptionTable := #[], attributes := #[] }
def k8m0 : Method := { name := "<init>", desc := "()V", sig := { parameters := [], returnType := none }, accessFlags := 4, code := some k8c0 }
/-- java/util/AbstractList -/
def k8 : Class := { plain "java/util/AbstractList" (some 5) with
  accessFlags := 1057
  interfaces := #[7]
  cf := some (fileOf pool8 8 #[.nestMembers #[93, 98, 208, 210, 82, 77]] #[{ accessFlags := 4, nameIndex := 5, descriptorIndex := 6, attributes := #[] }] 1057 2 #[133] #[{ accessFlags := 132, nameIndex := 11, descriptorIndex := 12, attributes := #[] }])
  fields := #[{ name := "modCount", type := .int, accessFlags := 132, slot := 0, constantValue := 0 }]
  methods := #[k8m0]
  instanceTypes := #[.int]
  staticTypes := #[]
  resolved := Array.replicate 218 none
  statics := none }

def pool9 : Array CpInfo := pool [(1, .class_ 2), (0, u "java/util/RandomAccess"), (0, .class_ 4), (0, u "java/lang/Object")] 2

/-- java/util/RandomAccess -/
def k9 : Class := { plain "java/util/RandomAccess" (some 0) with
  accessFlags := 1537
  interfaces := #[]
  cf := some (fileOf pool9 1 #[] #[] 1537 3 #[] #[])
  fields := #[]
  methods := #[]
  instanceTypes := #[]
  staticTypes := #[]
  resolved := Array.replicate 7 none
  statics := none }

def pool10 : Array CpInfo := pool [(1, .class_ 2), (0, u "java/lang/Cloneable"), (0, .class_ 4), (0, u "java/lang/Object")] 2

/-- java/lang/Cloneable -/
def k10 : Class := { plain "java/lang/Cloneable" (some 0) with
  accessFlags := 1537
  interfaces := #[]
  cf := some (fileOf pool10 1 #[] #[] 1537 3 #[] #[])
  fields := #[]
  methods := #[]
  instanceTypes := #[]
  staticTypes := #[]
  resolved := Array.replicate 7 none
  statics := none }

def pool11 : Array CpInfo := pool [(1, .class_ 2), (0, u "java/io/Serializable"), (0, .class_ 4), (0, u "java/lang/Object")] 2

/-- java/io/Serializable -/
def k11 : Class := { plain "java/io/Serializable" (some 0) with
  accessFlags := 1537
  interfaces := #[]
  cf := some (fileOf pool11 1 #[] #[] 1537 3 #[] #[])
  fields := #[]
  methods := #[]
  instanceTypes := #[]
  staticTypes := #[]
  resolved := Array.replicate 7 none
  statics := none }

def pool12 : Array CpInfo := pool [(1, .methodref 2 3), (0, .class_ 4), (0, .nameAndType 5 6), (0, u "java/util/AbstractList"), (0, u "<init>"), (0, u "()V"), (0, .class_ 8), (0, u "java/lang/Object"), (0, .fieldref 10 11), (0, .class_ 12), (0, .nameAndType 13 14), (0, u "java/util/ArrayList"), (0, u "elementData"), (0, u "[Ljava/lang/Object;"), (2, u "EMPTY_ELEMENTDATA"), (23, u "DEFAULTCAPACITY_EMPTY_ELEMENTDATA"), (8, u "size"), (0, u "I"), (86, u "(I)V"), (9, .class_ 149), (0, u "java/util/List"), (112, .class_ 263), (0, u "java/util/ArrayList$ListItr"), (3, .class_ 268), (0, u "java/util/ArrayList$Itr"), (7, .class_ 277), (0, u "java/util/ArrayList$SubList"), (12, .class_ 291), (0, u "java/util/ArrayList$ArrayListSpliterator"), (37, .class_ 330), (0, u "java/util/RandomAccess"), (0, .class_ 332), (0, u "java/lang/Cloneable"), (0, .class_ 334), (0, u "java/io/Serializable"), (0, u "serialVersionUID"), (0, u "J"), (3, u "DEFAULT_CAPACITY"), (159, .class_ 501), (0, u "java/util/ArrayList$SubList$2"), (0, .class_ 503), (0, u "java/util/ArrayList$SubList$1")] 5

def k12c0 : Code := { maxStack := 4, maxLocals := 2, code := jdk_38_method_1_code, exceptionTable := #[], attributes := #[] }
def k12m0 : Method := { name := "<init>", desc := "(I)V", sig := { parameters := [.int], returnType := none }, accessFlags := 1, code := some k12c0 }
def k12m1 : Method := { name := "<init>", desc := "()V", sig := { parameters := [], returnType := none }, accessFlags := 1, code := none }
/-- java/util/ArrayList -/
def k12 : Class := { plain "java/util/ArrayList" (some 8) with
  accessFlags := 33
  interfaces := #[7, 9, 10, 11]
  cf := some (fileOf pool12 10 #[.nestMembers #[290, 276, 500, 502, 262, 267]] #[{ accessFlags := 1, nameIndex := 5, descriptorIndex := 138, attributes := #[] }, { accessFlags := 1, nameIndex := 5, descriptorIndex := 6, attributes := #[] }] 33 2 #[148, 329, 331, 333] #[{ accessFlags := 26, nameIndex := 335, descriptorIndex := 336, attributes := #[] }, { accessFlags := 26, nameIndex := 340, descriptorIndex := 51, attributes := #[] }, { accessFlags := 26, nameIndex := 17, descriptorIndex := 14, attributes := #[] }, { accessFlags := 26, nameIndex := 41, descriptorIndex := 14, attributes := #[] }, { accessFlags := 128, nameIndex := 13, descriptorIndex := 14, attributes := #[] }, { accessFlags := 2, nameIndex := 50, descriptorIndex := 51, attributes := #[] }])
  fields := #[{ name := "serialVersionUID", type := .long, accessFlags := 26, slot := 0, constantValue := 0 }, { name := "DEFAULT_CAPACITY", type := .int, accessFlags := 26, slot := 1, constantValue := 0 }, { name := "EMPTY_ELEMENTDATA", type := (.array (.object "java/lang/Object")), accessFlags := 26, slot := 2, constantValue := 0 }, { name := "DEFAULTCAPACITY_EMPTY_ELEMENTDATA", type := (.array (.object "java/lang/Object")), accessFlags := 26, slot := 3, constantValue := 0 }, { name := "elementData", type := (.array (.object "java/lang/Object")), accessFlags := 128, slot := 1, constantValue := 0 }, { name := "size", type := .int, accessFlags := 2, slot := 2, constantValue := 0 }]
  methods := #[k12m0, k12m1]
  instanceTypes := #[.int, (.array (.object "java/lang/Object")), .int]
  staticTypes := #[.long, .int, (.array (.object "java/lang/Object")), (.array (.object "java/lang/Object"))]
  resolved := Array.replicate 509 none
  statics := none }

/-- the primitive byte -/
def k13 : Class := { plain "byte" none with kind := .primitive 'B', accessFlags := 0x411 }
/-- [B -/
def k14 : Class := { plain "[B" (some 0) with kind := .array 13 .byte, interfaces := #[10, 11], accessFlags := 1041 }

/-- the primitive int -/
def k15 : Class := { plain "int" none with kind := .primitive 'I', accessFlags := 0x411 }
/-- [I -/
def k16 : Class := { plain "[I" (some 0) with kind := .array 15 .int, interfaces := #[10, 11], accessFlags := 1041 }

/-- [Ljava/lang/Object; -/
def k17 : Class := { plain "[Ljava/lang/Object;" (some 0) with kind := .array 0 (.object "java/lang/Object"), interfaces := #[10, 11], accessFlags := 1041 }

def heap : Heap := #[]
def classes : Array Class := #[k0, k1, k2, k3, k4, k5, k6, k7, k8, k9, k10, k11, k12, k13, k14, k15, k16, k17]
def interned : List (Array UInt16 × Addr) := []
def slotsUsed : Nat := 0
def theMethod : MethodId := ⟨1, 1⟩
def args0 : Array Value := #[.long 5, .long 5, .long 5, .long 5, .int 5, .int 5]
def aboutOver (below : List Frame) : State where
  vm := { classes := classes, interned := interned.toArray }
  heap := heap
  slotsUsed := slotsUsed
  threads := #[{ frames := .invoking theMethod args0 :: below }]
def below0 : List Frame := [.native { method := ⟨0, 0⟩, args := #[] }]
def about1 : State := aboutOver below0
def p0 : Program := .bare "" "" ""
def e0 : Env := launch0.env 0 0 0
theorem w_frames : about1.frames = Frame.invoking theMethod args0 :: below0 := rfl
set_option maxRecDepth 65536 in
theorem w_args : argsFit about1.vm theMethod args0 = true := by decide +kernel
set_option maxRecDepth 65536 in
theorem w_heap : heapFits about1 = true := by decide +kernel
set_option maxRecDepth 65536 in
theorem w_runnable : about1.curStatus? = some .runnable := by decide +kernel
set_option maxRecDepth 65536 in
theorem w_alone : about1.alone = true := by decide +kernel
set_option maxRecDepth 65536 in
theorem w_named : about1.methodNamed? x = some theMethod := by decide +kernel
set_option maxRecDepth 65536 in
theorem w_hears : about1.hears theMethod below0 = true := by decide +kernel
set_option maxRecDepth 65536 in
theorem w_ripe : about1.ripe theMethod args0 below0 = true := by decide +kernel
theorem w_running : about1.status = .running := rfl
set_option maxRecDepth 65536 in
theorem w_room : about1.hasRoom e0.platform room_1 = true :=
  launch0.hasRoom_least _ room_1 (by decide +kernel) (by decide +kernel) (by decide +kernel) (by decide +kernel) (by decide +kernel) (by decide +kernel)
theorem allAtoms_all (ts : List Jvm.Cond) (a : Array Jvm.Value) (st : Jvm.State) : (allAtoms ts).before a st = ts.all (fun c => c.before a st) := by
  induction ts with
  | nil => rfl
  | cons c t ih =>
    show (Jvm.Cond.and c (allAtoms t)).before a st = _
    rw [Jvm.Cond.before_and, ih, List.all_cons]
def words1 : List Jvm.Cond := Jvm.Cond.code x code maxLocals ret :: tables_1
/-- a 'code' word, met by the world's own term for the bytes: nothing is compared byte by byte -/
theorem code_word {y : MethodName} {bytes : ByteArray} {mx : Nat} {rt : Option FieldType} {a : Array Value} {s : State} {m : MethodId} {meth : Method} {c : Code} (h1 : s.methodNamed? y = some m) (h2 : s.vm.method? m = some meth) (h3 : meth.code = some c) (h4 : c.code = bytes)
    (h5 : (c.maxLocals == mx && c.exceptionTable.isEmpty && decide (c.maxStack ≤ mostOperands) && decide (meth.sig.returnType = rt) && !meth.locks && decide (parseMethodDescriptor y.desc = some meth.sig)) = true) : (Jvm.Cond.code y bytes mx rt).before a s = true := by
  simp only [Bool.and_eq_true, beq_iff_eq, Bool.not_eq_true', decide_eq_true_eq] at h5
  obtain ⟨⟨⟨⟨⟨g1, g2⟩, g3⟩, g4⟩, g5⟩, g6⟩ := h5
  simp [Cond.before, Cond.holds, Cond.value, h1, h2, h3, h4, g1, g2, g3, g4, g5, g6]
def isCode : Jvm.Cond → Bool
  | .code _ _ _ _ => true
  | _ => false
theorem all_split {L : List Jvm.Cond} {P : Jvm.Cond → Bool} (h1 : L.all (fun c => isCode c || P c) = true) (h2 : ∀ c ∈ L.filter isCode, P c = true) : L.all P = true := by
  refine List.all_eq_true.mpr fun c hc => ?_
  have h := List.all_eq_true.mp h1 c hc
  rcases Bool.eq_false_or_eq_true (isCode c) with hi | hi
  · exact h2 c (List.mem_filter.mpr ⟨hc, hi⟩)
  · simpa [hi] using h
set_option maxRecDepth 65536 in
theorem w_c0 : (Jvm.Cond.code x code maxLocals ret).before args0 about1 = true := code_word (m := ⟨1, 1⟩) (meth := k1m1) (c := k1c1) (by decide +kernel) rfl rfl rfl (by decide +kernel)
set_option maxRecDepth 65536 in
theorem w_c1 : (Jvm.Cond.code ({ cls := "com/example/inflight/inflight/log/StoredMessages$Builder", name := "<init>", desc := "(JIJI)V" } : Jvm.MethodName) prog_71_method_1_code (7 : Nat) (Option.none : Option Jvm.ClassFile.FieldType)).before args0 about1 = true := code_word (m := ⟨2, 0⟩) (meth := k2m0) (c := k2c0) (by decide +kernel) rfl rfl rfl (by decide +kernel)
set_option maxRecDepth 65536 in
theorem w_c2 : (Jvm.Cond.code ({ cls := "java/lang/Object", name := "<init>", desc := "()V" } : Jvm.MethodName) object_method_1_code (1 : Nat) (Option.none : Option Jvm.ClassFile.FieldType)).before args0 about1 = true := code_word (m := ⟨0, 0⟩) (meth := k0m0) (c := k0c0) (by decide +kernel) rfl rfl rfl (by decide +kernel)
set_option maxRecDepth 65536 in
theorem w_c3 : (Jvm.Cond.code ({ cls := "java/util/ArrayList", name := "<init>", desc := "(I)V" } : Jvm.MethodName) jdk_38_method_1_code (2 : Nat) (Option.none : Option Jvm.ClassFile.FieldType)).before args0 about1 = true := code_word (m := ⟨12, 0⟩) (meth := k12m0) (c := k12c0) (by decide +kernel) rfl rfl rfl (by decide +kernel)
set_option maxRecDepth 65536 in
theorem w_c4 : (Jvm.Cond.code ({ cls := "java/util/AbstractList", name := "<init>", desc := "()V" } : Jvm.MethodName) jdk_39_method_1_code (1 : Nat) (Option.none : Option Jvm.ClassFile.FieldType)).before args0 about1 = true := code_word (m := ⟨8, 0⟩) (meth := k8m0) (c := k8c0) (by decide +kernel) rfl rfl rfl (by decide +kernel)
set_option maxRecDepth 65536 in
theorem w_c5 : (Jvm.Cond.code ({ cls := "java/util/AbstractCollection", name := "<init>", desc := "()V" } : Jvm.MethodName) jdk_22_method_1_code (1 : Nat) (Option.none : Option Jvm.ClassFile.FieldType)).before args0 about1 = true := code_word (m := ⟨5, 0⟩) (meth := k5m0) (c := k5c0) (by decide +kernel) rfl rfl rfl (by decide +kernel)
set_option maxRecDepth 65536 in
theorem w_c6 : (Jvm.Cond.code ({ cls := "com/example/inflight/inflight/log/StoredMessages$Builder", name := "fits", desc := "(J)Z" } : Jvm.MethodName) prog_71_method_4_code (3 : Nat) (Option.some Jvm.ClassFile.FieldType.boolean)).before args0 about1 = true := code_word (m := ⟨2, 3⟩) (meth := k2m3) (c := k2c3) (by decide +kernel) rfl rfl rfl (by decide +kernel)
set_option maxRecDepth 65536 in
theorem w_c7 : (Jvm.Cond.code ({ cls := "com/example/inflight/inflight/log/StoredMessages$Builder", name := "wantsMore", desc := "()Z" } : Jvm.MethodName) prog_71_method_2_code (1 : Nat) (Option.some Jvm.ClassFile.FieldType.boolean)).before args0 about1 = true := code_word (m := ⟨2, 1⟩) (meth := k2m1) (c := k2c1) (by decide +kernel) rfl rfl rfl (by decide +kernel)
set_option maxRecDepth 65536 in
theorem w_c8 : (Jvm.Cond.code ({ cls := "com/example/inflight/inflight/log/StoredMessages$Builder", name := "isEmpty", desc := "()Z" } : Jvm.MethodName) prog_71_method_3_code (1 : Nat) (Option.some Jvm.ClassFile.FieldType.boolean)).before args0 about1 = true := code_word (m := ⟨2, 2⟩) (meth := k2m2) (c := k2c2) (by decide +kernel) rfl rfl rfl (by decide +kernel)
set_option maxRecDepth 65536 in
theorem w_c9 : (Jvm.Cond.code ({ cls := "com/example/inflight/inflight/log/StoredMessages$Builder", name := "take", desc := "(J)V" } : Jvm.MethodName) prog_71_method_5_code (3 : Nat) (Option.none : Option Jvm.ClassFile.FieldType)).before args0 about1 = true := code_word (m := ⟨2, 4⟩) (meth := k2m4) (c := k2c4) (by decide +kernel) rfl rfl rfl (by decide +kernel)
set_option maxRecDepth 65536 in
theorem w_c10 : (Jvm.Cond.code ({ cls := "com/example/inflight/inflight/log/StoredMessages$Builder", name := "stop", desc := "()V" } : Jvm.MethodName) prog_71_method_6_code (1 : Nat) (Option.none : Option Jvm.ClassFile.FieldType)).before args0 about1 = true := code_word (m := ⟨2, 5⟩) (meth := k2m5) (c := k2c5) (by decide +kernel) rfl rfl rfl (by decide +kernel)
def codes1 : List Jvm.Cond := [Jvm.Cond.code x code maxLocals ret, Jvm.Cond.code ({ cls := "com/example/inflight/inflight/log/StoredMessages$Builder", name := "<init>", desc := "(JIJI)V" } : Jvm.MethodName) prog_71_method_1_code (7 : Nat) (Option.none : Option Jvm.ClassFile.FieldType), Jvm.Cond.code ({ cls := "java/lang/Object", name := "<init>", desc := "()V" } : Jvm.MethodName) object_method_1_code (1 : Nat) (Option.none : Option Jvm.ClassFile.FieldType), Jvm.Cond.code ({ cls := "java/util/ArrayList", name := "<init>", desc := "(I)V" } : Jvm.MethodName) jdk_38_method_1_code (2 : Nat) (Option.none : Option Jvm.ClassFile.FieldType), Jvm.Cond.code ({ cls := "java/util/AbstractList", name := "<init>", desc := "()V" } : Jvm.MethodName) jdk_39_method_1_code (1 : Nat) (Option.none : Option Jvm.ClassFile.FieldType), Jvm.Cond.code ({ cls := "java/util/AbstractCollection", name := "<init>", desc := "()V" } : Jvm.MethodName) jdk_22_method_1_code (1 : Nat) (Option.none : Option Jvm.ClassFile.FieldType), Jvm.Cond.code ({ cls := "com/example/inflight/inflight/log/StoredMessages$Builder", name := "fits", desc := "(J)Z" } : Jvm.MethodName) prog_71_method_4_code (3 : Nat) (Option.some Jvm.ClassFile.FieldType.boolean), Jvm.Cond.code ({ cls := "com/example/inflight/inflight/log/StoredMessages$Builder", name := "wantsMore", desc := "()Z" } : Jvm.MethodName) prog_71_method_2_code (1 : Nat) (Option.some Jvm.ClassFile.FieldType.boolean), Jvm.Cond.code ({ cls := "com/example/inflight/inflight/log/StoredMessages$Builder", name := "isEmpty", desc := "()Z" } : Jvm.MethodName) prog_71_method_3_code (1 : Nat) (Option.some Jvm.ClassFile.FieldType.boolean), Jvm.Cond.code ({ cls := "com/example/inflight/inflight/log/StoredMessages$Builder", name := "take", desc := "(J)V" } : Jvm.MethodName) prog_71_method_5_code (3 : Nat) (Option.none : Option Jvm.ClassFile.FieldType), Jvm.Cond.code ({ cls := "com/example/inflight/inflight/log/StoredMessages$Builder", name := "stop", desc := "()V" } : Jvm.MethodName) prog_71_method_6_code (1 : Nat) (Option.none : Option Jvm.ClassFile.FieldType)]
set_option maxRecDepth 65536 in
theorem codes_eq : words1.filter isCode = codes1 := rfl
theorem w_codes : ∀ c ∈ words1.filter isCode, c.before args0 about1 = true := by
  rw [codes_eq]
  intro c hc
  simp only [codes1, List.mem_cons, List.not_mem_nil, or_false] at hc
  rcases hc with rfl | rfl | rfl | rfl | rfl | rfl | rfl | rfl | rfl | rfl | rfl
  · exact w_c0
  · exact w_c1
  · exact w_c2
  · exact w_c3
  · exact w_c4
  · exact w_c5
  · exact w_c6
  · exact w_c7
  · exact w_c8
  · exact w_c9
  · exact w_c10
set_option maxRecDepth 65536 in
theorem w_t1 : (words1.take 24).all (fun c => isCode c || c.before args0 about1) = true := by decide +kernel
set_option maxRecDepth 65536 in
theorem w_t2 : ((words1.drop 24).take 24).all (fun c => isCode c || c.before args0 about1) = true := by decide +kernel
set_option maxRecDepth 65536 in
theorem w_t3 : (((words1.drop 24).drop 24).take 24).all (fun c => isCode c || c.before args0 about1) = true := by decide +kernel
set_option maxRecDepth 65536 in
theorem w_t4 : (((words1.drop 24).drop 24).drop 24).all (fun c => isCode c || c.before args0 about1) = true := by decide +kernel
theorem w_tables : (allAtoms (Jvm.Cond.code x code maxLocals ret :: tables_1)).before args0 about1 = true := by
  rw [allAtoms_all]
  show words1.all (fun c => c.before args0 about1) = true
  refine all_split ?_ w_codes
  rw [← List.take_append_drop 24 words1, List.all_append, w_t1, ← List.take_append_drop 24 (words1.drop 24), List.all_append, w_t2, ← List.take_append_drop 24 ((words1.drop 24).drop 24), List.all_append, w_t3, w_t4]
  rfl
set_option maxRecDepth 65536 in
theorem w_case : (Jvm.Cond.and given_1 narrow_1).before args0 about1 = true := by decide +kernel
theorem w_applies : (headSpec (Jvm.Cond.code x code maxLocals ret :: tables_1) room_1).applies x e0.platform about1 = true :=
  (Spec.applies_iff w_frames).mpr ⟨w_running, w_runnable, w_alone, w_named, w_hears, w_ripe, w_room, w_tables⟩
theorem atStart : AtStart classFile x code maxLocals ret World_1 tables_1 room_1 Calls_1 rest_1 Pre_1 launch0 p0 e0 about1 theMethod args0 below0 :=
  ⟨lists_1, trivial, launch0.admits_env _ _ _, launch0.least_env, fairChoices_fair.cas, fairChoices_fair.clock, w_frames, w_args, w_heap, w_applies, trivial, trivial, w_case⟩
end start1
theorem witness_1 : WitnessClaimed_1 := ⟨start1.p0, start1.e0, start1.about1, start1.theMethod, start1.args0, start1.below0, start1.atStart⟩
end Jvm.Pilot.@@N@@
