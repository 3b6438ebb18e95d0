import JvmDerived
import JvmDerived.Pilot.@@N@@Statement
import JvmDerived.Pilot.@@N@@Code
set_option linter.unusedVariables false
set_option linter.unusedSimpArgs false
namespace Jvm.Pilot.@@N@@
open Jvm Jvm.ClassFile Sem Op Lib Jvm.Free Jvm.Stand Jvm.LawKit Jvm.RoadKit Bundle Jvm.Pilot.@@N@@.Jvm.D
section OwnKit
variable {p : Program} {l : Launch} {e : Env} {R : Room} {s : State} {m : MethodId} {args : Array Value} {below : List Frame} {meth : Method} {c : Code} {T : State} {locs : List Loc} {cells slots : Nat} {Q : Option Value → Heap → List Loc → Prop} {F : Option Value → State → Prop} {KC KS : Nat} {bs : ByteArray} {pc pc' : Nat} {Ls l' : Array Slot} {st : List Value}
/-- from U the run comes to its end: it returns v, and F says what it leaves -/
def own_End (p : Program) (e : Env) (below : List Frame) (F : Option Value → State → Prop) (U : State) : Prop :=
  ∃ s₂ v, Steps p.tables e below U s₂ ∧ s₂.status = .running ∧ Ended s₂ below (.returned v) ∧ F v s₂
def own_F (s : State) (Q : Option Value → Heap → List Loc → Prop) (KC KS : Nat) : Option Value → State → Prop := fun v s₂ => ∃ L, Q v s₂.heap L ∧ FrameEnd s (.returned v) s₂ L KC KS
def own_FS (s : State) (Q : Option Value → Heap → List Loc → Prop) (KC KS : Nat) : Option Value → State → Prop := fun v s₂ => ∃ L, Q v s₂.heap L ∧ ReturnedEndW s (.returned v) s₂ L KC KS
theorem own_body {U : State} (h : own_End p e below (own_F s Q KC KS) U) : ∃ s₂ o, Steps p.tables e below U s₂ ∧ s₂.status = .running ∧ Ended s₂ below o ∧ ∃ v L, o = .returned v ∧ Q v s₂.heap L ∧ FrameEnd s o s₂ L KC KS := by
  obtain ⟨s2, v, h1, h2, h3, L, h4, h5⟩ := h
  exact ⟨s2, _, h1, h2, h3, v, L, rfl, h4, h5⟩
theorem own_bodyS {U : State} (h : own_End p e below (own_FS s Q KC KS) U) : ∃ s₂ o, Steps p.tables e below U s₂ ∧ s₂.status = .running ∧ Ended s₂ below o ∧ ∃ v L, o = .returned v ∧ Q v s₂.heap L ∧ ReturnedEndW s o s₂ L KC KS := by
  obtain ⟨s2, v, h1, h2, h3, L, h4, h5⟩ := h
  exact ⟨s2, _, h1, h2, h3, v, L, rfl, h4, h5⟩
theorem own_step {U U' : State} (k : ∀ t, Steps p.tables e below U' t → Steps p.tables e below U t) (h : own_End p e below F U') : own_End p e below F U := by
  obtain ⟨s2, v, h1, h2⟩ := h
  exact ⟨s2, v, k _ h1, h2⟩
theorem own_trans {U U' : State} (k : Steps p.tables e below U U') (h : own_End p e below F U') : own_End p e below F U := by
  obtain ⟨s2, v, h1, h2⟩ := h
  exact ⟨s2, v, k.trans h1, h2⟩
theorem own_mono {cells' slots' : Nat} (X : Stand p l e R s m args below meth c T locs cells slots) (hc : cells ≤ cells') (hs : slots ≤ slots') : Stand p l e R s m args below meth c T locs cells' slots' := X.mono hc hs
theorem own_selPriv {y : MethodName} {n : Nat} (wi : (Cond.instantiable y.cls n).before args s = true) (hp : s.PrivateAt y) (hi : (Cond.instanceMethod y).before args s = true) (hy : y.cls ≠ "java/lang/invoke/MethodHandle" ∧ y.cls ≠ "java/lang/invoke/VarHandle") : (Cond.selects y.cls y y).before args s = true := by
  obtain ⟨c, k, h1, h2, -, h4, -⟩ := Cond.instantiable_spec wi
  exact selects_self_of_private h1 h2 (by simp only [Bool.or_eq_false_iff] at h4; exact h4.1) hp hi hy
theorem own_sta0 {Z : State} {h h' : Heap} {C n d : String} {v : Value} (S : Sta Z h C n d v) (K : Keep h h' []) : Sta Z h' C n d v := by
  obtain ⟨cf, i, k, f, st, cell, h1, h2, h3, h4, h5, h6, h7⟩ := S
  exact ⟨cf, i, k, f, st, cell, h1, h2, h3, h4, K.2.1 _ _ h5 nin0, h6, h7⟩
theorem own_sta1 {Z : State} {h h' : Heap} {C n d D : String} {v : Value} {a : Addr} (S : Sta Z h C n d v) (K : Keep h h' [a]) (E : Exa Z h a D) : Sta Z h' C n d v := by
  obtain ⟨cf, i, k, f, st, cell, h1, h2, h3, h4, h5, h6, h7⟩ := S
  obtain ⟨c', k', g1, -, -, g4, -⟩ := E
  have ne : st ≠ a := fun q => by subst q; cases h5.symm.trans g1; rw [g4] at h6; cases h6
  exact ⟨cf, i, k, f, st, cell, h1, h2, h3, h4, K.2.1 _ _ h5 (ninS ne nin0), h6, h7⟩
theorem own_cat1 {w : Value} (h : w.isRef = true) : w.category = 1 := by rcases ref_cases h with rfl | ⟨z, rfl⟩ <;> rfl
theorem own_nar {w : Value} {t : FieldType} (h : w.isRef = true) (ht : t.isReference = true) : narrow t w = w := by rcases ref_cases h with rfl | ⟨z, rfl⟩ <;> cases t <;> first | rfl | cases ht
theorem own_fit {w : Value} {t : FieldType} (h : w.isRef = true) (ht : t.isReference = true) : fits t w = true := by rcases ref_cases h with rfl | ⟨z, rfl⟩ <;> cases t <;> first | rfl | cases ht
/-- what the frame says where the run leaves -/
def own_Lv (F : Option Value → State → Prop) (s T : State) (locs : List Loc) (cells slots : Nat) (v : Option Value) : Prop := ∀ fs, s.WarmedH (T.setFrames fs).vm → s.sameButNew ({ T.setFrames fs with vm := s.vm } : State) locs cells slots → F v (T.setFrames fs)
theorem own_lv {v : Option Value} (hQ : Q v T.heap locs) (hc : cells ≤ KC) (hs : slots ≤ KS) : own_Lv (own_F s Q KC KS) s T locs cells slots v := fun fs hW hsm => ⟨locs, hQ, ⟨_, rfl⟩, hW, hsm.mono hc hs⟩
theorem own_lvS {v : Option Value} {vm₁ : Vm} {n : Nat} (hS : s.Since vm₁ n) (hn : n ≤ T.heap.size) (hQ : Q v T.heap locs) (hc : cells ≤ KC) (hs : slots ≤ KS) : own_Lv (own_FS s Q KC KS) (s.setVm vm₁) T locs cells slots v := fun fs hW hsm => by
  obtain ⟨a, b, c'⟩ := hS.ended (U := T.setFrames fs) hW hn hsm
  exact ⟨locs, hQ, ⟨_, rfl⟩, a, b, c'.mono hc hs⟩
theorem own_retW (X : Stand p l e R s m args below meth c T locs cells slots) (hx : p.tables.exec = Jvm.exec) (hlk : meth.locks = false) (hby : c.code = bs) {w : Value} {t : FieldType} {i : Instr} {rest : List Value} (hret : meth.sig.returnType = some t) (hn : narrow t w = w)
    (hi : (i = .ireturn ∧ (t = .int ∨ t = .boolean ∨ t = .byte ∨ t = .char ∨ t = .short) ∧ ∃ z, w = .int z) ∨ (i = .lreturn ∧ t = .long ∧ ∃ z, w = .long z) ∨ (i = .dreturn ∧ t = .double ∧ ∃ z, w = .double z) ∨ (i = .freturn ∧ t = .float ∧ ∃ z, w = .float z) ∨ (i = .areturn ∧ t.isReference = true ∧ w.isRef = true))
    (hd : decode bs pc = .ok (i, 1)) (hF : own_Lv F s T locs cells slots (some w)) : own_End p e below F (T.setTop (mkF m pc Ls (w :: rest))) := by
  obtain ⟨fs, hr, hrun, hended, hW, hsame⟩ := X.leave (v := some w) (fun h => by rw [hret] at h; cases h) hlk
  exact ⟨_, _, retOut X hx hret hn hi (hb hby hd) hr, hrun, hended, hF fs hW hsame⟩
theorem own_ireturn (X : Stand p l e R s m args below meth c T locs cells slots) (hx : p.tables.exec = Jvm.exec) (hlk : meth.locks = false) (hby : c.code = bs) {z : Int32} {rest : List Value} (hret : meth.sig.returnType = some .int)
    (hd : decode bs pc = .ok (.ireturn, 1)) (hF : own_Lv F s T locs cells slots (some (.int z))) : own_End p e below F (T.setTop (mkF m pc Ls (.int z :: rest))) :=
  own_retW X hx hlk hby hret rfl (Or.inl ⟨rfl, Or.inl rfl, _, rfl⟩) hd hF
theorem own_zreturn (X : Stand p l e R s m args below meth c T locs cells slots) (hx : p.tables.exec = Jvm.exec) (hlk : meth.locks = false) (hby : c.code = bs) {z : Int32} {rest : List Value} (hret : meth.sig.returnType = some .boolean) (hz : z = 0 ∨ z = 1)
    (hd : decode bs pc = .ok (.ireturn, 1)) (hF : own_Lv F s T locs cells slots (some (.int z))) : own_End p e below F (T.setTop (mkF m pc Ls (.int z :: rest))) :=
  own_retW X hx hlk hby hret (by rcases hz with rfl | rfl <;> rfl) (Or.inl ⟨rfl, Or.inr (Or.inl rfl), _, rfl⟩) hd hF
theorem own_breturn (X : Stand p l e R s m args below meth c T locs cells slots) (hx : p.tables.exec = Jvm.exec) (hlk : meth.locks = false) (hby : c.code = bs) {z : Int32} {rest : List Value} (hret : meth.sig.returnType = some .byte) (hz : z.toInt8.toInt32 = z)
    (hd : decode bs pc = .ok (.ireturn, 1)) (hF : own_Lv F s T locs cells slots (some (.int z))) : own_End p e below F (T.setTop (mkF m pc Ls (.int z :: rest))) :=
  own_retW X hx hlk hby hret (show Value.int z.toInt8.toInt32 = .int z by rw [hz]) (Or.inl ⟨rfl, Or.inr (Or.inr (Or.inl rfl)), _, rfl⟩) hd hF
theorem own_lreturn (X : Stand p l e R s m args below meth c T locs cells slots) (hx : p.tables.exec = Jvm.exec) (hlk : meth.locks = false) (hby : c.code = bs) {z : Int64} {rest : List Value} (hret : meth.sig.returnType = some .long)
    (hd : decode bs pc = .ok (.lreturn, 1)) (hF : own_Lv F s T locs cells slots (some (.long z))) : own_End p e below F (T.setTop (mkF m pc Ls (.long z :: rest))) :=
  own_retW X hx hlk hby hret rfl (Or.inr (Or.inl ⟨rfl, rfl, _, rfl⟩)) hd hF
theorem own_areturn (X : Stand p l e R s m args below meth c T locs cells slots) (hx : p.tables.exec = Jvm.exec) (hlk : meth.locks = false) (hby : c.code = bs) {w : Value} {t : FieldType} {rest : List Value} (hret : meth.sig.returnType = some t) (ht : t.isReference = true) (hw : w.isRef = true)
    (hd : decode bs pc = .ok (.areturn, 1)) (hF : own_Lv F s T locs cells slots (some w)) : own_End p e below F (T.setTop (mkF m pc Ls (w :: rest))) :=
  own_retW X hx hlk hby hret (own_nar hw ht) (Or.inr (Or.inr (Or.inr (Or.inr ⟨rfl, ht, hw⟩)))) hd hF
theorem own_return (X : Stand p l e R s m args below meth c T locs cells slots) (hx : p.tables.exec = Jvm.exec) (hlk : meth.locks = false) (hby : c.code = bs) (hret : meth.sig.returnType = none)
    (hd : decode bs pc = .ok (.return_, 1)) (hF : own_Lv F s T locs cells slots none) : own_End p e below F (T.setTop (mkF m pc Ls [])) := by
  obtain ⟨fs, hr, hrun, hended, hW, hsame⟩ := X.leave (v := none) (fun _ => rfl) hlk
  exact ⟨_, _, X.returnOut hx hret (hb hby hd) hr, hrun, hended, hF fs hW hsame⟩
section Plain
theorem own_iload (X : Stand p l e R s m args below meth c T locs cells slots) (hx : p.tables.exec = Jvm.exec) (hby : c.code = bs) {k : Nat} {v : Int32} (hd : decode bs pc = .ok (.iload k, 2)) (hp : pc + 2 = pc') (hl : Ls[k]? = some (.val (.int v))) (h : own_End p e below F (T.setTop (mkF m pc' Ls (.int v :: st)))) : own_End p e below F (T.setTop (mkF m pc Ls st)) := by
  subst hp; exact own_step (fun t k => XS.iload X.here hx rfl (hb hby hd) hl k) h
theorem own_iloadN (X : Stand p l e R s m args below meth c T locs cells slots) (hx : p.tables.exec = Jvm.exec) (hby : c.code = bs) {k : Fin 4} {v : Int32} (hd : decode bs pc = .ok (.iload_n k, 1)) (hp : pc + 1 = pc') (hl : Ls[k.val]? = some (.val (.int v))) (h : own_End p e below F (T.setTop (mkF m pc' Ls (.int v :: st)))) : own_End p e below F (T.setTop (mkF m pc Ls st)) := by
  subst hp; exact own_step (fun t k => XS.iloadN X.here hx rfl (hb hby hd) hl k) h
theorem own_lload (X : Stand p l e R s m args below meth c T locs cells slots) (hx : p.tables.exec = Jvm.exec) (hby : c.code = bs) {k : Nat} {v : Int64} (hd : decode bs pc = .ok (.lload k, 2)) (hp : pc + 2 = pc') (hl : Ls[k]? = some (.val (.long v))) (h : own_End p e below F (T.setTop (mkF m pc' Ls (.long v :: st)))) : own_End p e below F (T.setTop (mkF m pc Ls st)) := by
  subst hp; exact own_step (fun t k => XS.lload X.here hx rfl (hb hby hd) hl k) h
theorem own_lloadN (X : Stand p l e R s m args below meth c T locs cells slots) (hx : p.tables.exec = Jvm.exec) (hby : c.code = bs) {k : Fin 4} {v : Int64} (hd : decode bs pc = .ok (.lload_n k, 1)) (hp : pc + 1 = pc') (hl : Ls[k.val]? = some (.val (.long v))) (h : own_End p e below F (T.setTop (mkF m pc' Ls (.long v :: st)))) : own_End p e below F (T.setTop (mkF m pc Ls st)) := by
  subst hp; exact own_step (fun t k => XS.lloadN X.here hx rfl (hb hby hd) hl k) h
theorem own_aload (X : Stand p l e R s m args below meth c T locs cells slots) (hx : p.tables.exec = Jvm.exec) (hby : c.code = bs) {k : Nat} {v : Value} (hd : decode bs pc = .ok (.aload k, 2)) (hp : pc + 2 = pc') (hl : Ls[k]? = some (.val v)) (hv : v.isRef = true) (h : own_End p e below F (T.setTop (mkF m pc' Ls (v :: st)))) : own_End p e below F (T.setTop (mkF m pc Ls st)) := by
  subst hp; exact own_step (fun t k => XS.aload X.here hx rfl (hb hby hd) hl hv k) h
theorem own_aloadN (X : Stand p l e R s m args below meth c T locs cells slots) (hx : p.tables.exec = Jvm.exec) (hby : c.code = bs) {k : Fin 4} {v : Value} (hd : decode bs pc = .ok (.aload_n k, 1)) (hp : pc + 1 = pc') (hl : Ls[k.val]? = some (.val v)) (hv : v.isRef = true) (h : own_End p e below F (T.setTop (mkF m pc' Ls (v :: st)))) : own_End p e below F (T.setTop (mkF m pc Ls st)) := by
  subst hp; exact own_step (fun t k => XS.aloadN X.here hx rfl (hb hby hd) hl hv k) h
theorem own_istore (X : Stand p l e R s m args below meth c T locs cells slots) (hx : p.tables.exec = Jvm.exec) (hby : c.code = bs) {k : Nat} {x : Int32} (hd : decode bs pc = .ok (.istore k, 2)) (hp : pc + 2 = pc') (hl : storeLocals Ls k (.int x) = some l') (h : own_End p e below F (T.setTop (mkF m pc' l' st))) : own_End p e below F (T.setTop (mkF m pc Ls (.int x :: st))) := by
  subst hp; exact own_step (fun t k => XS.istore X.here hx rfl (hb hby hd) rfl hl k) h
theorem own_istoreN (X : Stand p l e R s m args below meth c T locs cells slots) (hx : p.tables.exec = Jvm.exec) (hby : c.code = bs) {k : Fin 4} {x : Int32} (hd : decode bs pc = .ok (.istore_n k, 1)) (hp : pc + 1 = pc') (hl : storeLocals Ls k.val (.int x) = some l') (h : own_End p e below F (T.setTop (mkF m pc' l' st))) : own_End p e below F (T.setTop (mkF m pc Ls (.int x :: st))) := by
  subst hp; exact own_step (fun t k => XS.istoreN X.here hx rfl (hb hby hd) rfl hl k) h
theorem own_lstore (X : Stand p l e R s m args below meth c T locs cells slots) (hx : p.tables.exec = Jvm.exec) (hby : c.code = bs) {k : Nat} {x : Int64} (hd : decode bs pc = .ok (.lstore k, 2)) (hp : pc + 2 = pc') (hl : storeLocals Ls k (.long x) = some l') (h : own_End p e below F (T.setTop (mkF m pc' l' st))) : own_End p e below F (T.setTop (mkF m pc Ls (.long x :: st))) := by
  subst hp; exact own_step (fun t k => XS.lstore X.here hx rfl (hb hby hd) rfl hl k) h
theorem own_lstoreN (X : Stand p l e R s m args below meth c T locs cells slots) (hx : p.tables.exec = Jvm.exec) (hby : c.code = bs) {k : Fin 4} {x : Int64} (hd : decode bs pc = .ok (.lstore_n k, 1)) (hp : pc + 1 = pc') (hl : storeLocals Ls k.val (.long x) = some l') (h : own_End p e below F (T.setTop (mkF m pc' l' st))) : own_End p e below F (T.setTop (mkF m pc Ls (.long x :: st))) := by
  subst hp; exact own_step (fun t k => XS.lstoreN X.here hx rfl (hb hby hd) rfl hl k) h
theorem own_astore (X : Stand p l e R s m args below meth c T locs cells slots) (hx : p.tables.exec = Jvm.exec) (hby : c.code = bs) {k : Nat} {x : Value} (hd : decode bs pc = .ok (.astore k, 2)) (hp : pc + 2 = pc') (hv : x.isRef = true) (hl : storeLocals Ls k x = some l') (h : own_End p e below F (T.setTop (mkF m pc' l' st))) : own_End p e below F (T.setTop (mkF m pc Ls (x :: st))) := by
  subst hp; exact own_step (fun t k => XS.astore X.here hx rfl (hb hby hd) rfl hv hl k) h
theorem own_astoreN (X : Stand p l e R s m args below meth c T locs cells slots) (hx : p.tables.exec = Jvm.exec) (hby : c.code = bs) {k : Fin 4} {x : Value} (hd : decode bs pc = .ok (.astore_n k, 1)) (hp : pc + 1 = pc') (hv : x.isRef = true) (hl : storeLocals Ls k.val x = some l') (h : own_End p e below F (T.setTop (mkF m pc' l' st))) : own_End p e below F (T.setTop (mkF m pc Ls (x :: st))) := by
  subst hp; exact own_step (fun t k => XS.astoreN X.here hx rfl (hb hby hd) rfl hv hl k) h
theorem own_iinc (X : Stand p l e R s m args below meth c T locs cells slots) (hx : p.tables.exec = Jvm.exec) (hby : c.code = bs) {k : Nat} {cst : Int} {x y : Int32} (hd : decode bs pc = .ok (.iinc k cst, 3)) (hp : pc + 3 = pc') (hl : Ls[k]? = some (.val (.int x))) (hy : x + Int32.ofInt cst = y) (hl' : storeLocals Ls k (.int y) = some l') (h : own_End p e below F (T.setTop (mkF m pc' l' st))) : own_End p e below F (T.setTop (mkF m pc Ls st)) := by
  subst hp hy; exact own_step (fun t k => XS.iinc X.here hx rfl (hb hby hd) hl hl' k) h
theorem own_iconst (X : Stand p l e R s m args below meth c T locs cells slots) (hx : p.tables.exec = Jvm.exec) (hby : c.code = bs) {i : Int} {n : Int32} (hd : decode bs pc = .ok (.iconst i, 1)) (hp : pc + 1 = pc') (hn : Int32.ofInt i = n) (h : own_End p e below F (T.setTop (mkF m pc' Ls (.int n :: st)))) : own_End p e below F (T.setTop (mkF m pc Ls st)) := by
  subst hp hn; exact own_step (fun t k => XS.iconst X.here hx rfl (hb hby hd) k) h
theorem own_bipush (X : Stand p l e R s m args below meth c T locs cells slots) (hx : p.tables.exec = Jvm.exec) (hby : c.code = bs) {i : Int} {n : Int32} (hd : decode bs pc = .ok (.bipush i, 2)) (hp : pc + 2 = pc') (hn : (Int8.ofInt i).toInt32 = n) (h : own_End p e below F (T.setTop (mkF m pc' Ls (.int n :: st)))) : own_End p e below F (T.setTop (mkF m pc Ls st)) := by
  subst hp hn; exact own_step (fun t k => XS.bipush X.here hx rfl (hb hby hd) k) h
theorem own_sipush (X : Stand p l e R s m args below meth c T locs cells slots) (hx : p.tables.exec = Jvm.exec) (hby : c.code = bs) {i : Int} {n : Int32} (hd : decode bs pc = .ok (.sipush i, 3)) (hp : pc + 3 = pc') (hn : (Int16.ofInt i).toInt32 = n) (h : own_End p e below F (T.setTop (mkF m pc' Ls (.int n :: st)))) : own_End p e below F (T.setTop (mkF m pc Ls st)) := by
  subst hp hn; exact own_step (fun t k => XS.sipush X.here hx rfl (hb hby hd) k) h
theorem own_lconst (X : Stand p l e R s m args below meth c T locs cells slots) (hx : p.tables.exec = Jvm.exec) (hby : c.code = bs) {i : Fin 2} {n : Int64} (hd : decode bs pc = .ok (.lconst i, 1)) (hp : pc + 1 = pc') (hn : Int64.ofNat i.val = n) (h : own_End p e below F (T.setTop (mkF m pc' Ls (.long n :: st)))) : own_End p e below F (T.setTop (mkF m pc Ls st)) := by
  subst hp hn; exact own_step (fun t k => XS.lconst X.here hx rfl (hb hby hd) k) h
theorem own_aconst_null (X : Stand p l e R s m args below meth c T locs cells slots) (hx : p.tables.exec = Jvm.exec) (hby : c.code = bs) (hd : decode bs pc = .ok (.aconst_null, 1)) (hp : pc + 1 = pc') (h : own_End p e below F (T.setTop (mkF m pc' Ls (.null :: st)))) : own_End p e below F (T.setTop (mkF m pc Ls st)) := by
  subst hp; exact own_step (fun t k => XS.aconstNull X.here hx rfl (hb hby hd) k) h
theorem own_goto (X : Stand p l e R s m args below meth c T locs cells slots) (hx : p.tables.exec = Jvm.exec) (hby : c.code = bs) {o : Int} (hd : decode bs pc = .ok (.goto o, 3)) (ho : 0 ≤ (pc : Int) + o) (hp : ((pc : Int) + o).toNat = pc') (h : own_End p e below F (T.setTop (mkF m pc' Ls st))) : own_End p e below F (T.setTop (mkF m pc Ls st)) :=
  own_step (fun t k => XS.goto X.here hx rfl (pc0 := pc) (pc' := pc') rfl (hb hby hd) ho hp k) h
theorem own_dup (X : Stand p l e R s m args below meth c T locs cells slots) (hx : p.tables.exec = Jvm.exec) (hby : c.code = bs) {x : Value} (hd : decode bs pc = .ok (.dup, 1)) (hp : pc + 1 = pc') (hc : x.category = 1) (h : own_End p e below F (T.setTop (mkF m pc' Ls (x :: x :: st)))) : own_End p e below F (T.setTop (mkF m pc Ls (x :: st))) := by
  subst hp; exact own_step (fun t k => XS.dup X.here hx rfl (hb hby hd) rfl hc k) h
theorem own_dup_x1 (X : Stand p l e R s m args below meth c T locs cells slots) (hx : p.tables.exec = Jvm.exec) (hby : c.code = bs) {x y : Value} (hd : decode bs pc = .ok (.dup_x1, 1)) (hp : pc + 1 = pc') (hc : x.category = 1) (hc2 : y.category = 1) (h : own_End p e below F (T.setTop (mkF m pc' Ls (x :: y :: x :: st)))) : own_End p e below F (T.setTop (mkF m pc Ls (x :: y :: st))) := by
  subst hp; exact own_step (fun t k => XS.dupX1 X.here hx rfl (hb hby hd) rfl hc hc2 k) h
theorem own_pop (X : Stand p l e R s m args below meth c T locs cells slots) (hx : p.tables.exec = Jvm.exec) (hby : c.code = bs) {x : Value} (hd : decode bs pc = .ok (.pop, 1)) (hp : pc + 1 = pc') (hc : x.category = 1) (h : own_End p e below F (T.setTop (mkF m pc' Ls st))) : own_End p e below F (T.setTop (mkF m pc Ls (x :: st))) := by
  subst hp; exact own_step (fun t k => XS.pop X.here hx rfl (hb hby hd) rfl hc k) h
theorem own_pop2 (X : Stand p l e R s m args below meth c T locs cells slots) (hx : p.tables.exec = Jvm.exec) (hby : c.code = bs) {x : Int64} (hd : decode bs pc = .ok (.pop2, 1)) (hp : pc + 1 = pc') (h : own_End p e below F (T.setTop (mkF m pc' Ls st))) : own_End p e below F (T.setTop (mkF m pc Ls (.long x :: st))) := by
  subst hp
  refine own_step (fun t k => ?_) h
  have hd' := hb hby hd
  have hc : (Value.long x).category = 2 := rfl
  jvm_step X.here [X.here.top, hx, hd', Op.pop2.wp_sem, hc]
  exact k
theorem own_iadd (X : Stand p l e R s m args below meth c T locs cells slots) (hx : p.tables.exec = Jvm.exec) (hby : c.code = bs) {x y : Int32} (hd : decode bs pc = .ok (.iadd, 1)) (hp : pc + 1 = pc') (h : own_End p e below F (T.setTop (mkF m pc' Ls (.int (x + y) :: st)))) : own_End p e below F (T.setTop (mkF m pc Ls (.int y :: .int x :: st))) := by
  subst hp; exact own_step (fun t k => XS.iadd X.here hx rfl (hb hby hd) rfl k) h
theorem own_isub (X : Stand p l e R s m args below meth c T locs cells slots) (hx : p.tables.exec = Jvm.exec) (hby : c.code = bs) {x y : Int32} (hd : decode bs pc = .ok (.isub, 1)) (hp : pc + 1 = pc') (h : own_End p e below F (T.setTop (mkF m pc' Ls (.int (x - y) :: st)))) : own_End p e below F (T.setTop (mkF m pc Ls (.int y :: .int x :: st))) := by
  subst hp; exact own_step (fun t k => XS.isub X.here hx rfl (hb hby hd) rfl k) h
theorem own_imul (X : Stand p l e R s m args below meth c T locs cells slots) (hx : p.tables.exec = Jvm.exec) (hby : c.code = bs) {x y : Int32} (hd : decode bs pc = .ok (.imul, 1)) (hp : pc + 1 = pc') (h : own_End p e below F (T.setTop (mkF m pc' Ls (.int (x * y) :: st)))) : own_End p e below F (T.setTop (mkF m pc Ls (.int y :: .int x :: st))) := by
  subst hp; exact own_step (fun t k => XS.imul X.here hx rfl (hb hby hd) rfl k) h
theorem own_iand (X : Stand p l e R s m args below meth c T locs cells slots) (hx : p.tables.exec = Jvm.exec) (hby : c.code = bs) {x y : Int32} (hd : decode bs pc = .ok (.iand, 1)) (hp : pc + 1 = pc') (h : own_End p e below F (T.setTop (mkF m pc' Ls (.int (x &&& y) :: st)))) : own_End p e below F (T.setTop (mkF m pc Ls (.int y :: .int x :: st))) := by
  subst hp; exact own_step (fun t k => XS.iand X.here hx rfl (hb hby hd) rfl k) h
theorem own_ior (X : Stand p l e R s m args below meth c T locs cells slots) (hx : p.tables.exec = Jvm.exec) (hby : c.code = bs) {x y : Int32} (hd : decode bs pc = .ok (.ior, 1)) (hp : pc + 1 = pc') (h : own_End p e below F (T.setTop (mkF m pc' Ls (.int (x ||| y) :: st)))) : own_End p e below F (T.setTop (mkF m pc Ls (.int y :: .int x :: st))) := by
  subst hp; exact own_step (fun t k => XS.ior X.here hx rfl (hb hby hd) rfl k) h
theorem own_ixor (X : Stand p l e R s m args below meth c T locs cells slots) (hx : p.tables.exec = Jvm.exec) (hby : c.code = bs) {x y : Int32} (hd : decode bs pc = .ok (.ixor, 1)) (hp : pc + 1 = pc') (h : own_End p e below F (T.setTop (mkF m pc' Ls (.int (x ^^^ y) :: st)))) : own_End p e below F (T.setTop (mkF m pc Ls (.int y :: .int x :: st))) := by
  subst hp; exact own_step (fun t k => XS.ixor X.here hx rfl (hb hby hd) rfl k) h
theorem own_ladd (X : Stand p l e R s m args below meth c T locs cells slots) (hx : p.tables.exec = Jvm.exec) (hby : c.code = bs) {x y : Int64} (hd : decode bs pc = .ok (.ladd, 1)) (hp : pc + 1 = pc') (h : own_End p e below F (T.setTop (mkF m pc' Ls (.long (x + y) :: st)))) : own_End p e below F (T.setTop (mkF m pc Ls (.long y :: .long x :: st))) := by
  subst hp; exact own_step (fun t k => XS.ladd X.here hx rfl (hb hby hd) rfl k) h
theorem own_lsub (X : Stand p l e R s m args below meth c T locs cells slots) (hx : p.tables.exec = Jvm.exec) (hby : c.code = bs) {x y : Int64} (hd : decode bs pc = .ok (.lsub, 1)) (hp : pc + 1 = pc') (h : own_End p e below F (T.setTop (mkF m pc' Ls (.long (x - y) :: st)))) : own_End p e below F (T.setTop (mkF m pc Ls (.long y :: .long x :: st))) := by
  subst hp; exact own_step (fun t k => XS.lsub X.here hx rfl (hb hby hd) rfl k) h
theorem own_lmul (X : Stand p l e R s m args below meth c T locs cells slots) (hx : p.tables.exec = Jvm.exec) (hby : c.code = bs) {x y : Int64} (hd : decode bs pc = .ok (.lmul, 1)) (hp : pc + 1 = pc') (h : own_End p e below F (T.setTop (mkF m pc' Ls (.long (x * y) :: st)))) : own_End p e below F (T.setTop (mkF m pc Ls (.long y :: .long x :: st))) := by
  subst hp; exact own_step (fun t k => XS.lmul X.here hx rfl (hb hby hd) rfl k) h
theorem own_land (X : Stand p l e R s m args below meth c T locs cells slots) (hx : p.tables.exec = Jvm.exec) (hby : c.code = bs) {x y : Int64} (hd : decode bs pc = .ok (.land, 1)) (hp : pc + 1 = pc') (h : own_End p e below F (T.setTop (mkF m pc' Ls (.long (x &&& y) :: st)))) : own_End p e below F (T.setTop (mkF m pc Ls (.long y :: .long x :: st))) := by
  subst hp; exact own_step (fun t k => XS.land X.here hx rfl (hb hby hd) rfl k) h
theorem own_lor (X : Stand p l e R s m args below meth c T locs cells slots) (hx : p.tables.exec = Jvm.exec) (hby : c.code = bs) {x y : Int64} (hd : decode bs pc = .ok (.lor, 1)) (hp : pc + 1 = pc') (h : own_End p e below F (T.setTop (mkF m pc' Ls (.long (x ||| y) :: st)))) : own_End p e below F (T.setTop (mkF m pc Ls (.long y :: .long x :: st))) := by
  subst hp; exact own_step (fun t k => XS.lor X.here hx rfl (hb hby hd) rfl k) h
theorem own_lxor (X : Stand p l e R s m args below meth c T locs cells slots) (hx : p.tables.exec = Jvm.exec) (hby : c.code = bs) {x y : Int64} (hd : decode bs pc = .ok (.lxor, 1)) (hp : pc + 1 = pc') (h : own_End p e below F (T.setTop (mkF m pc' Ls (.long (x ^^^ y) :: st)))) : own_End p e below F (T.setTop (mkF m pc Ls (.long y :: .long x :: st))) := by
  subst hp; exact own_step (fun t k => XS.lxor X.here hx rfl (hb hby hd) rfl k) h
theorem own_ishl (X : Stand p l e R s m args below meth c T locs cells slots) (hx : p.tables.exec = Jvm.exec) (hby : c.code = bs) {x y : Int32} (hd : decode bs pc = .ok (.ishl, 1)) (hp : pc + 1 = pc') (h : own_End p e below F (T.setTop (mkF m pc' Ls (.int (x <<< (y &&& 31)) :: st)))) : own_End p e below F (T.setTop (mkF m pc Ls (.int y :: .int x :: st))) := by
  subst hp; exact own_step (fun t k => XS.ishl X.here hx rfl (hb hby hd) rfl k) h
theorem own_ishr (X : Stand p l e R s m args below meth c T locs cells slots) (hx : p.tables.exec = Jvm.exec) (hby : c.code = bs) {x y : Int32} (hd : decode bs pc = .ok (.ishr, 1)) (hp : pc + 1 = pc') (h : own_End p e below F (T.setTop (mkF m pc' Ls (.int (x >>> (y &&& 31)) :: st)))) : own_End p e below F (T.setTop (mkF m pc Ls (.int y :: .int x :: st))) := by
  subst hp; exact own_step (fun t k => XS.ishr X.here hx rfl (hb hby hd) rfl k) h
theorem own_iushr (X : Stand p l e R s m args below meth c T locs cells slots) (hx : p.tables.exec = Jvm.exec) (hby : c.code = bs) {x y : Int32} (hd : decode bs pc = .ok (.iushr, 1)) (hp : pc + 1 = pc') (h : own_End p e below F (T.setTop (mkF m pc' Ls (.int ((x.toUInt32 >>> (y &&& 31).toUInt32).toInt32) :: st)))) : own_End p e below F (T.setTop (mkF m pc Ls (.int y :: .int x :: st))) := by
  subst hp; exact own_step (fun t k => XS.iushr X.here hx rfl (hb hby hd) rfl k) h
theorem own_lshl (X : Stand p l e R s m args below meth c T locs cells slots) (hx : p.tables.exec = Jvm.exec) (hby : c.code = bs) {x : Int64} {y : Int32} (hd : decode bs pc = .ok (.lshl, 1)) (hp : pc + 1 = pc') (h : own_End p e below F (T.setTop (mkF m pc' Ls (.long (x <<< (y &&& 0x3f).toInt64) :: st)))) : own_End p e below F (T.setTop (mkF m pc Ls (.int y :: .long x :: st))) := by
  subst hp; exact own_step (fun t k => XS.lshl X.here hx rfl (hb hby hd) rfl k) h
theorem own_lshr (X : Stand p l e R s m args below meth c T locs cells slots) (hx : p.tables.exec = Jvm.exec) (hby : c.code = bs) {x : Int64} {y : Int32} (hd : decode bs pc = .ok (.lshr, 1)) (hp : pc + 1 = pc') (h : own_End p e below F (T.setTop (mkF m pc' Ls (.long (x >>> (y &&& 0x3f).toInt64) :: st)))) : own_End p e below F (T.setTop (mkF m pc Ls (.int y :: .long x :: st))) := by
  subst hp; exact own_step (fun t k => XS.lshr X.here hx rfl (hb hby hd) rfl k) h
theorem own_lushr (X : Stand p l e R s m args below meth c T locs cells slots) (hx : p.tables.exec = Jvm.exec) (hby : c.code = bs) {x : Int64} {y : Int32} (hd : decode bs pc = .ok (.lushr, 1)) (hp : pc + 1 = pc') (h : own_End p e below F (T.setTop (mkF m pc' Ls (.long ((x.toUInt64 >>> (y &&& 0x3f).toInt64.toUInt64).toInt64) :: st)))) : own_End p e below F (T.setTop (mkF m pc Ls (.int y :: .long x :: st))) := by
  subst hp; exact own_step (fun t k => XS.lushr X.here hx rfl (hb hby hd) rfl k) h
theorem own_lcmp (X : Stand p l e R s m args below meth c T locs cells slots) (hx : p.tables.exec = Jvm.exec) (hby : c.code = bs) {x y : Int64} (hd : decode bs pc = .ok (.lcmp, 1)) (hp : pc + 1 = pc') (h : own_End p e below F (T.setTop (mkF m pc' Ls (.int (lcmpW x y) :: st)))) : own_End p e below F (T.setTop (mkF m pc Ls (.long y :: .long x :: st))) := by
  subst hp; exact own_step (fun t k => XS.lcmp X.here hx rfl (hb hby hd) rfl k) h
theorem own_ineg (X : Stand p l e R s m args below meth c T locs cells slots) (hx : p.tables.exec = Jvm.exec) (hby : c.code = bs) {x : Int32} (hd : decode bs pc = .ok (.ineg, 1)) (hp : pc + 1 = pc') (h : own_End p e below F (T.setTop (mkF m pc' Ls (.int (-x) :: st)))) : own_End p e below F (T.setTop (mkF m pc Ls (.int x :: st))) := by
  subst hp; exact own_step (fun t k => XS.ineg X.here hx rfl (hb hby hd) rfl k) h
theorem own_i2b (X : Stand p l e R s m args below meth c T locs cells slots) (hx : p.tables.exec = Jvm.exec) (hby : c.code = bs) {x : Int32} (hd : decode bs pc = .ok (.i2b, 1)) (hp : pc + 1 = pc') (h : own_End p e below F (T.setTop (mkF m pc' Ls (.int (x.toInt8.toInt32) :: st)))) : own_End p e below F (T.setTop (mkF m pc Ls (.int x :: st))) := by
  subst hp; exact own_step (fun t k => XS.i2b X.here hx rfl (hb hby hd) rfl k) h
theorem own_i2s (X : Stand p l e R s m args below meth c T locs cells slots) (hx : p.tables.exec = Jvm.exec) (hby : c.code = bs) {x : Int32} (hd : decode bs pc = .ok (.i2s, 1)) (hp : pc + 1 = pc') (h : own_End p e below F (T.setTop (mkF m pc' Ls (.int (x.toInt16.toInt32) :: st)))) : own_End p e below F (T.setTop (mkF m pc Ls (.int x :: st))) := by
  subst hp; exact own_step (fun t k => XS.i2s X.here hx rfl (hb hby hd) rfl k) h
theorem own_i2c (X : Stand p l e R s m args below meth c T locs cells slots) (hx : p.tables.exec = Jvm.exec) (hby : c.code = bs) {x : Int32} (hd : decode bs pc = .ok (.i2c, 1)) (hp : pc + 1 = pc') (h : own_End p e below F (T.setTop (mkF m pc' Ls (.int (x.toUInt32.toUInt16.toUInt32.toInt32) :: st)))) : own_End p e below F (T.setTop (mkF m pc Ls (.int x :: st))) := by
  subst hp; exact own_step (fun t k => XS.i2c X.here hx rfl (hb hby hd) rfl k) h
theorem own_i2l (X : Stand p l e R s m args below meth c T locs cells slots) (hx : p.tables.exec = Jvm.exec) (hby : c.code = bs) {x : Int32} (hd : decode bs pc = .ok (.i2l, 1)) (hp : pc + 1 = pc') (h : own_End p e below F (T.setTop (mkF m pc' Ls (.long (x.toInt64) :: st)))) : own_End p e below F (T.setTop (mkF m pc Ls (.int x :: st))) := by
  subst hp; exact own_step (fun t k => XS.i2l X.here hx rfl (hb hby hd) rfl k) h
theorem own_lneg (X : Stand p l e R s m args below meth c T locs cells slots) (hx : p.tables.exec = Jvm.exec) (hby : c.code = bs) {x : Int64} (hd : decode bs pc = .ok (.lneg, 1)) (hp : pc + 1 = pc') (h : own_End p e below F (T.setTop (mkF m pc' Ls (.long (-x) :: st)))) : own_End p e below F (T.setTop (mkF m pc Ls (.long x :: st))) := by
  subst hp; exact own_step (fun t k => XS.lneg X.here hx rfl (hb hby hd) rfl k) h
theorem own_l2i (X : Stand p l e R s m args below meth c T locs cells slots) (hx : p.tables.exec = Jvm.exec) (hby : c.code = bs) {x : Int64} (hd : decode bs pc = .ok (.l2i, 1)) (hp : pc + 1 = pc') (h : own_End p e below F (T.setTop (mkF m pc' Ls (.int (x.toInt32) :: st)))) : own_End p e below F (T.setTop (mkF m pc Ls (.long x :: st))) := by
  subst hp; exact own_step (fun t k => XS.l2i X.here hx rfl (hb hby hd) rfl k) h
theorem own_idiv (X : Stand p l e R s m args below meth c T locs cells slots) (hx : p.tables.exec = Jvm.exec) (hby : c.code = bs) {x y : Int32} (hd : decode bs pc = .ok (.idiv, 1)) (hp : pc + 1 = pc') (hy : ¬ y = 0) (h : own_End p e below F (T.setTop (mkF m pc' Ls (.int (x / y) :: st)))) : own_End p e below F (T.setTop (mkF m pc Ls (.int y :: .int x :: st))) := by
  subst hp; exact own_step (fun t k => XS.idiv X.here hx rfl (hb hby hd) rfl hy k) h
theorem own_irem (X : Stand p l e R s m args below meth c T locs cells slots) (hx : p.tables.exec = Jvm.exec) (hby : c.code = bs) {x y : Int32} (hd : decode bs pc = .ok (.irem, 1)) (hp : pc + 1 = pc') (hy : ¬ y = 0) (h : own_End p e below F (T.setTop (mkF m pc' Ls (.int (x % y) :: st)))) : own_End p e below F (T.setTop (mkF m pc Ls (.int y :: .int x :: st))) := by
  subst hp; exact own_step (fun t k => iremM X hx rfl (hb hby hd) rfl hy k) h
theorem own_ldiv (X : Stand p l e R s m args below meth c T locs cells slots) (hx : p.tables.exec = Jvm.exec) (hby : c.code = bs) {x y : Int64} (hd : decode bs pc = .ok (.ldiv, 1)) (hp : pc + 1 = pc') (hy : ¬ y = 0) (h : own_End p e below F (T.setTop (mkF m pc' Ls (.long (x / y) :: st)))) : own_End p e below F (T.setTop (mkF m pc Ls (.long y :: .long x :: st))) := by
  subst hp; exact own_step (fun t k => XS.ldiv X.here hx rfl (hb hby hd) rfl hy k) h
theorem own_lrem (X : Stand p l e R s m args below meth c T locs cells slots) (hx : p.tables.exec = Jvm.exec) (hby : c.code = bs) {x y : Int64} (hd : decode bs pc = .ok (.lrem, 1)) (hp : pc + 1 = pc') (hy : ¬ y = 0) (h : own_End p e below F (T.setTop (mkF m pc' Ls (.long (x % y) :: st)))) : own_End p e below F (T.setTop (mkF m pc Ls (.long y :: .long x :: st))) := by
  subst hp; exact own_step (fun t k => XS.lrem X.here hx rfl (hb hby hd) rfl hy (by rw [lrem_mod]; exact k)) h
/-- the branch's condition, and its contrary -/
abbrev own_ct (cd : ClassFile.Cond) (x y : Int32) : Prop := match cd with | .eq => x = y | .ne => ¬ x = y | .lt => x < y | .ge => ¬ x < y | .gt => y < x | .le => ¬ y < x
abbrev own_cf (cd : ClassFile.Cond) (x y : Int32) : Prop := match cd with | .eq => ¬ x = y | .ne => x = y | .lt => ¬ x < y | .ge => x < y | .gt => ¬ y < x | .le => y < x
abbrev own_ctL (cd : ClassFile.Cond) (x y : Int64) : Prop := match cd with | .eq => x = y | .ne => ¬ x = y | .lt => x < y | .ge => ¬ x < y | .gt => y < x | .le => ¬ y < x
abbrev own_cfL (cd : ClassFile.Cond) (x y : Int64) : Prop := match cd with | .eq => ¬ x = y | .ne => x = y | .lt => ¬ x < y | .ge => x < y | .gt => ¬ y < x | .le => y < x
theorem own_ct_y {cd : ClassFile.Cond} {x y : Int32} (h : own_ct cd x y) : if_icmp.holds cd x y = true := by
  cases cd
  · exact (teq h).1
  · exact (feq h).2
  · exact (tlt h).1
  · exact (flt h).2.1
  · exact (tlt h).2.2.1
  · exact (flt h).2.2.2
theorem own_ct_n {cd : ClassFile.Cond} {x y : Int32} (h : own_cf cd x y) : if_icmp.holds cd x y = false := by
  cases cd
  · exact (feq h).1
  · exact (teq h).2
  · exact (flt h).1
  · exact (tlt h).2.1
  · exact (flt h).2.2.1
  · exact (tlt h).2.2.2
theorem own_ct_or (cd : ClassFile.Cond) (x y : Int32) : own_ct cd x y ∨ own_cf cd x y := by
  cases cd
  · exact Decidable.em _
  · exact (Decidable.em _).symm
  · exact Decidable.em _
  · exact (Decidable.em _).symm
  · exact Decidable.em _
  · exact (Decidable.em _).symm
theorem own_ctL_or (cd : ClassFile.Cond) (x y : Int64) : own_ctL cd x y ∨ own_cfL cd x y := by
  cases cd
  · exact Decidable.em _
  · exact (Decidable.em _).symm
  · exact Decidable.em _
  · exact (Decidable.em _).symm
  · exact Decidable.em _
  · exact (Decidable.em _).symm
theorem own_ctL_y {cd : ClassFile.Cond} {x y : Int64} (h : own_ctL cd x y) : own_ct cd (lcmpW x y) 0 := by
  cases cd
  · exact (lw_eq x y).mpr h
  · exact fun q => h ((lw_eq x y).mp q)
  · exact (lw_lt x y).mpr h
  · exact fun q => h ((lw_lt x y).mp q)
  · exact (lw_gt x y).mpr h
  · exact fun q => h ((lw_gt x y).mp q)
theorem own_ctL_n {cd : ClassFile.Cond} {x y : Int64} (h : own_cfL cd x y) : own_cf cd (lcmpW x y) 0 := by
  cases cd
  · exact fun q => h ((lw_eq x y).mp q)
  · exact (lw_eq x y).mpr h
  · exact fun q => h ((lw_lt x y).mp q)
  · exact (lw_lt x y).mpr h
  · exact fun q => h ((lw_gt x y).mp q)
  · exact (lw_gt x y).mpr h
theorem own_ifY (X : Stand p l e R s m args below meth c T locs cells slots) (hx : p.tables.exec = Jvm.exec) (hby : c.code = bs) {cd : ClassFile.Cond} {x : Int32} {o : Int} (hd : decode bs pc = .ok (.ifCond cd o, 3)) (ho : 0 ≤ (pc : Int) + o) (hp : ((pc : Int) + o).toNat = pc') (hc : own_ct cd x 0) (h : own_End p e below F (T.setTop (mkF m pc' Ls st))) : own_End p e below F (T.setTop (mkF m pc Ls (.int x :: st))) :=
  own_step (fun t k => XS.ifYes X.here hx rfl (pc0 := pc) (pc' := pc') rfl (hb hby hd) rfl ((if0 _ _).trans (own_ct_y hc)) ho hp k) h
theorem own_ifN (X : Stand p l e R s m args below meth c T locs cells slots) (hx : p.tables.exec = Jvm.exec) (hby : c.code = bs) {cd : ClassFile.Cond} {x : Int32} {o : Int} (hd : decode bs pc = .ok (.ifCond cd o, 3)) (hp : pc + 3 = pc') (hc : own_cf cd x 0) (h : own_End p e below F (T.setTop (mkF m pc' Ls st))) : own_End p e below F (T.setTop (mkF m pc Ls (.int x :: st))) := by
  subst hp; exact own_step (fun t k => XS.ifNo X.here hx rfl (hb hby hd) rfl ((if0 _ _).trans (own_ct_n hc)) k) h
theorem own_icY (X : Stand p l e R s m args below meth c T locs cells slots) (hx : p.tables.exec = Jvm.exec) (hby : c.code = bs) {cd : ClassFile.Cond} {x y : Int32} {o : Int} (hd : decode bs pc = .ok (.if_icmp cd o, 3)) (ho : 0 ≤ (pc : Int) + o) (hp : ((pc : Int) + o).toNat = pc') (hc : own_ct cd x y) (h : own_End p e below F (T.setTop (mkF m pc' Ls st))) : own_End p e below F (T.setTop (mkF m pc Ls (.int y :: .int x :: st))) :=
  own_step (fun t k => XS.icmpYes X.here hx rfl (pc0 := pc) (pc' := pc') rfl (hb hby hd) rfl (own_ct_y hc) ho hp k) h
theorem own_icN (X : Stand p l e R s m args below meth c T locs cells slots) (hx : p.tables.exec = Jvm.exec) (hby : c.code = bs) {cd : ClassFile.Cond} {x y : Int32} {o : Int} (hd : decode bs pc = .ok (.if_icmp cd o, 3)) (hp : pc + 3 = pc') (hc : own_cf cd x y) (h : own_End p e below F (T.setTop (mkF m pc' Ls st))) : own_End p e below F (T.setTop (mkF m pc Ls (.int y :: .int x :: st))) := by
  subst hp; exact own_step (fun t k => XS.icmpNo X.here hx rfl (hb hby hd) rfl (own_ct_n hc) k) h
theorem own_if2 (X : Stand p l e R s m args below meth c T locs cells slots) (hx : p.tables.exec = Jvm.exec) (hby : c.code = bs) {cd : ClassFile.Cond} {x : Int32} {o : Int} {pc1 pc2 : Nat} (hd : decode bs pc = .ok (.ifCond cd o, 3)) (ho : 0 ≤ (pc : Int) + o) (hp : ((pc : Int) + o).toNat = pc1) (hp2 : pc + 3 = pc2) (h1 : own_ct cd x 0 → own_End p e below F (T.setTop (mkF m pc1 Ls st))) (h2 : own_cf cd x 0 → own_End p e below F (T.setTop (mkF m pc2 Ls st))) : own_End p e below F (T.setTop (mkF m pc Ls (.int x :: st))) :=
  (own_ct_or cd x 0).elim (fun q => own_ifY X hx hby hd ho hp q (h1 q)) (fun q => own_ifN X hx hby hd hp2 q (h2 q))
theorem own_ic2 (X : Stand p l e R s m args below meth c T locs cells slots) (hx : p.tables.exec = Jvm.exec) (hby : c.code = bs) {cd : ClassFile.Cond} {x y : Int32} {o : Int} {pc1 pc2 : Nat} (hd : decode bs pc = .ok (.if_icmp cd o, 3)) (ho : 0 ≤ (pc : Int) + o) (hp : ((pc : Int) + o).toNat = pc1) (hp2 : pc + 3 = pc2) (h1 : own_ct cd x y → own_End p e below F (T.setTop (mkF m pc1 Ls st))) (h2 : own_cf cd x y → own_End p e below F (T.setTop (mkF m pc2 Ls st))) : own_End p e below F (T.setTop (mkF m pc Ls (.int y :: .int x :: st))) :=
  (own_ct_or cd x y).elim (fun q => own_icY X hx hby hd ho hp q (h1 q)) (fun q => own_icN X hx hby hd hp2 q (h2 q))
theorem own_ifL2 (X : Stand p l e R s m args below meth c T locs cells slots) (hx : p.tables.exec = Jvm.exec) (hby : c.code = bs) {cd : ClassFile.Cond} {x y : Int64} {o : Int} {pc1 pc2 : Nat} (hd : decode bs pc = .ok (.ifCond cd o, 3)) (ho : 0 ≤ (pc : Int) + o) (hp : ((pc : Int) + o).toNat = pc1) (hp2 : pc + 3 = pc2) (h1 : own_ctL cd x y → own_End p e below F (T.setTop (mkF m pc1 Ls st))) (h2 : own_cfL cd x y → own_End p e below F (T.setTop (mkF m pc2 Ls st))) : own_End p e below F (T.setTop (mkF m pc Ls (.int (lcmpW x y) :: st))) :=
  (own_ctL_or cd x y).elim (fun q => own_ifY X hx hby hd ho hp (own_ctL_y q) (h1 q)) (fun q => own_ifN X hx hby hd hp2 (own_ctL_n q) (h2 q))
theorem own_ifnullY (X : Stand p l e R s m args below meth c T locs cells slots) (hx : p.tables.exec = Jvm.exec) (hby : c.code = bs) {o : Int} (hd : decode bs pc = .ok (.ifnull o, 3)) (ho : 0 ≤ (pc : Int) + o) (hp : ((pc : Int) + o).toNat = pc') (h : own_End p e below F (T.setTop (mkF m pc' Ls st))) : own_End p e below F (T.setTop (mkF m pc Ls (.null :: st))) :=
  own_step (fun t k => XS.ifnullYes X.here hx rfl (pc0 := pc) (pc' := pc') rfl (hb hby hd) rfl ho hp k) h
theorem own_ifnullN (X : Stand p l e R s m args below meth c T locs cells slots) (hx : p.tables.exec = Jvm.exec) (hby : c.code = bs) {o : Int} {b : Addr} (hd : decode bs pc = .ok (.ifnull o, 3)) (hp : pc + 3 = pc') (h : own_End p e below F (T.setTop (mkF m pc' Ls st))) : own_End p e below F (T.setTop (mkF m pc Ls (.ref b :: st))) := by
  subst hp; exact own_step (fun t k => XS.ifnullNo X.here hx rfl (hb hby hd) rfl k) h
theorem own_ifnonnullY (X : Stand p l e R s m args below meth c T locs cells slots) (hx : p.tables.exec = Jvm.exec) (hby : c.code = bs) {o : Int} {b : Addr} (hd : decode bs pc = .ok (.ifnonnull o, 3)) (ho : 0 ≤ (pc : Int) + o) (hp : ((pc : Int) + o).toNat = pc') (h : own_End p e below F (T.setTop (mkF m pc' Ls st))) : own_End p e below F (T.setTop (mkF m pc Ls (.ref b :: st))) :=
  own_step (fun t k => XS.ifnonnullYes X.here hx rfl (pc0 := pc) (pc' := pc') rfl (hb hby hd) rfl ho hp k) h
theorem own_ifnonnullN (X : Stand p l e R s m args below meth c T locs cells slots) (hx : p.tables.exec = Jvm.exec) (hby : c.code = bs) {o : Int} (hd : decode bs pc = .ok (.ifnonnull o, 3)) (hp : pc + 3 = pc') (h : own_End p e below F (T.setTop (mkF m pc' Ls st))) : own_End p e below F (T.setTop (mkF m pc Ls (.null :: st))) := by
  subst hp; exact own_step (fun t k => XS.ifnonnullNo X.here hx rfl (hb hby hd) rfl k) h
theorem own_acmp (X : Stand p l e R s m args below meth c T locs cells slots) (hx : p.tables.exec = Jvm.exec) (hby : c.code = bs) {cd : ACond} {x y : Value} {o : Int} {same : Bool} (hd : decode bs pc = .ok (.if_acmp cd o, 3)) (h1 : x.isRef = true) (h2 : y.isRef = true) (hq : decide (x = y) = same) (ho : 0 ≤ (pc : Int) + o) (hp : pc' = if acV cd same = true then ((pc : Int) + o).toNat else pc + 3) (h : own_End p e below F (T.setTop (mkF m pc' Ls st))) : own_End p e below F (T.setTop (mkF m pc Ls (y :: x :: st))) :=
  own_step (fun t k => Jvm.RoadKit.acmp (g := mkF m pc Ls (y :: x :: st)) X hx rfl h1 h2 (pc0 := pc) (pc' := pc') (same := same) rfl (hb hby hd) rfl hq ho hp k) h
end Plain
section Words
variable {Z : State} {a0 : Array Value}
theorem own_ldcInt (X : Stand p l e R s m args below meth c T locs cells slots) (hx : p.tables.exec = Jvm.exec) (hZ : Z.Warmed39 s.vm) (hby : c.code = bs) {own : String} {index : Nat} {v : Int32} (hown : s.vm.findClass own = some m.cls) (w : (Cond.constant own index v).before a0 Z = true) (hd : decode bs pc = .ok (.ldc index, 2)) (hp : pc + 2 = pc') (h : own_End p e below F (T.setTop (mkF m pc' Ls (.int v :: st)))) : own_End p e below F (T.setTop (mkF m pc Ls st)) := by
  subst hp; exact own_step (X.ldcInt hx hown (mvT hZ w) (g := mkF m pc Ls st) rfl (hb hby hd)) h
theorem own_ldc2Long (X : Stand p l e R s m args below meth c T locs cells slots) (hx : p.tables.exec = Jvm.exec) (hZ : Z.Warmed39 s.vm) (hby : c.code = bs) {own : String} {index : Nat} {v : Int64} (hown : s.vm.findClass own = some m.cls) (w : (Cond.constantLong own index v).before a0 Z = true) (hd : decode bs pc = .ok (.ldc2_w index, 3)) (hp : pc + 3 = pc') (h : own_End p e below F (T.setTop (mkF m pc' Ls (.long v :: st)))) : own_End p e below F (T.setTop (mkF m pc Ls st)) := by
  subst hp; exact own_step (X.ldc2Long hx hown (mvT hZ w) (g := mkF m pc Ls st) rfl (hb hby hd)) h
end Words
section Heap
variable {Z : State} {a0 : Array Value} {h : Heap}
theorem own_getF (X : Stand p l e R s m args below meth c T locs cells slots) (hx : p.tables.exec = Jvm.exec) (hZ : Z.Warmed39 s.vm) (hby : c.code = bs) {own R0 O n d host : String} {index : Nat} {a : Addr} {v : Value} (hown : s.vm.findClass own = some m.cls) (w : (Cond.fieldLink own index R0 n d).before a0 Z = true ∨ (Cond.fieldLinkNest own index R0 n d host).before a0 Z = true) (via : Via Z R0 O n d) (eT : T.heap = h) (Fd : Fld Z h a O n d v) (hd : decode bs pc = .ok (.getfield index, 3)) (hp : pc + 3 = pc')
    (k : ∀ T', Stand p l e R s m args below meth c T' locs cells slots → T'.heap = h → own_End p e below F (T'.setTop (mkF m pc' Ls (v :: st)))) : own_End p e below F (T.setTop (mkF m pc Ls (.ref a :: st))) := by
  subst hp
  obtain ⟨T', X', e', stp⟩ := getF X hx hZ hown w via eT Fd (g := mkF m pc Ls (.ref a :: st)) rfl rfl (hb hby hd)
  exact own_step stp (k T' X' e')
theorem own_getS (X : Stand p l e R s m args below meth c T locs cells slots) (hx : p.tables.exec = Jvm.exec) (hZ : Z.Warmed39 s.vm) (hby : c.code = bs) {own R0 O n d host : String} {index : Nat} {v : Value} (hown : s.vm.findClass own = some m.cls) (w : (Cond.fieldLink own index R0 n d).before a0 Z = true ∨ (Cond.fieldLinkNest own index R0 n d host).before a0 Z = true) (via : Via Z R0 O n d) (eT : T.heap = h) (Fd : Sta Z h O n d v) (hd : decode bs pc = .ok (.getstatic index, 3)) (hp : pc + 3 = pc')
    (k : ∀ T', Stand p l e R s m args below meth c T' locs cells slots → T'.heap = h → own_End p e below F (T'.setTop (mkF m pc' Ls (v :: st)))) : own_End p e below F (T.setTop (mkF m pc Ls st)) := by
  subst hp
  obtain ⟨T', X', e', stp⟩ := getS2 X hx hZ hown w via eT Fd (g := mkF m pc Ls st) rfl (hb hby hd)
  exact own_step stp (k T' X' e')
theorem own_putF (X : Stand p l e R s m args below meth c T locs cells slots) (hx : p.tables.exec = Jvm.exec) (hZ : Z.Warmed39 s.vm) (hby : c.code = bs) {own R0 O n d host C : String} {index kk : Nat} {ty : FieldType} {a : Addr} {v old : Value} (hown : s.vm.findClass own = some m.cls) (w : (Cond.fieldLink own index R0 n d).before a0 Z = true ∨ (Cond.fieldLinkNest own index R0 n d host).before a0 Z = true) (via : Via Z R0 O n d) (eT : T.heap = h) (Fd : Fld Z h a O n d old) (E : Exa Z h a C)
    (La : (Cond.lays C O n d).before a0 Z = true ∨ ((Cond.laysFinal C O n d).before a0 Z = true ∧ own = O ∧ meth.name = "<init>")) (wi : (Cond.instantiable C kk).before a0 Z = true) (hty : parseFieldDescriptor d = some ty) (hn : narrow ty v = v) (hf : fits ty v = true) (hd : decode bs pc = .ok (.putfield index, 3)) (hp : pc + 3 = pc')
    (k : ∀ T' h', Stand p l e R s m args below meth c T' (locs ++ [⟨a, Jvm.RoadKit.slotOf Z O n d⟩]) cells slots → T'.heap = h' → Wr h h' a (Jvm.RoadKit.slotOf Z O n d) v → own_End p e below F (T'.setTop (mkF m pc' Ls st))) : own_End p e below F (T.setTop (mkF m pc Ls (v :: .ref a :: st))) := by
  subst hp
  obtain ⟨T', h', X', e', W', stp⟩ := putF X hx hZ hown w via eT Fd E La wi hty hn hf (g := mkF m pc Ls (v :: .ref a :: st)) rfl rfl (hb hby hd)
  exact own_step stp (k T' h' X' e' W')
theorem own_putN (X : Stand p l e R s m args below meth c T locs cells slots) (hx : p.tables.exec = Jvm.exec) (hZ : Z.Warmed39 s.vm) (hby : c.code = bs) {own R0 O n d C : String} {index kk : Nat} {ty : FieldType} {a : Addr} {v v' old : Value} (hown : s.vm.findClass own = some m.cls) (w : (Cond.fieldLink own index R0 n d).before a0 Z = true) (via : Via Z R0 O n d) (eT : T.heap = h) (Fd : Fld Z h a O n d old) (E : Exa Z h a C)
    (La : (Cond.lays C O n d).before a0 Z = true ∨ ((Cond.laysFinal C O n d).before a0 Z = true ∧ own = O ∧ meth.name = "<init>")) (wi : (Cond.instantiable C kk).before a0 Z = true) (hty : parseFieldDescriptor d = some ty) (hn : narrow ty v = v') (hf : fits ty v' = true) (hd : decode bs pc = .ok (.putfield index, 3)) (hp : pc + 3 = pc')
    (k : ∀ T' h', Stand p l e R s m args below meth c T' (locs ++ [⟨a, Jvm.RoadKit.slotOf Z O n d⟩]) cells slots → T'.heap = h' → Wr h h' a (Jvm.RoadKit.slotOf Z O n d) v' → own_End p e below F (T'.setTop (mkF m pc' Ls st))) : own_End p e below F (T.setTop (mkF m pc Ls (v :: .ref a :: st))) := by
  subst hp
  obtain ⟨T', h', X', e', W', stp⟩ := putFN X hx hZ hown w via eT Fd E La wi hty hn hf (g := mkF m pc Ls (v :: .ref a :: st)) rfl rfl (hb hby hd)
  exact own_step stp (k T' h' X' e' W')
theorem own_new (X : Stand p l e R s m args below meth c T locs cells slots) (hx : p.tables.exec = Jvm.exec) (hZ : Z.Warmed39 s.vm) (hby : c.code = bs) {own C : String} {index n : Nat} (hown : s.vm.findClass own = some m.cls) (w : (Cond.classLink own index C).before a0 Z = true) (wi : (Cond.instantiable C n).before a0 Z = true) (wz : (Cond.initialized C).before a0 Z = true) (eT : T.heap = h) (hd : decode bs pc = .ok (.new index, 3)) (hp : pc + 3 = pc') (hc : cells + 1 ≤ R.cells) (hl : slots + n ≤ R.slots)
    (k : ∀ T' h' (b : Addr), b = h.size → Stand p l e R s m args below meth c T' locs (cells + 1) (slots + n) → T'.heap = h' → Ext h h' → Exa Z h' b C → (∀ {O nm d : String} {ty : FieldType}, Laid Z a0 C O nm d → parseFieldDescriptor d = some ty → Fld Z h' b O nm d (defaultValue ty)) → own_End p e below F (T'.setTop (mkF m pc' Ls (.ref b :: st)))) : own_End p e below F (T.setTop (mkF m pc Ls st)) := by
  subst hp
  obtain ⟨T', h', X', e', E', A', D', -, stp⟩ := newO X hx hZ hown w wi wz eT (g := mkF m pc Ls st) rfl (hb hby hd) hc hl
  exact own_step stp (k T' h' h.size rfl X' e' E' A' D')
theorem own_newP (X : Stand p l e R s m args below meth c T locs cells slots) (hx : p.tables.exec = Jvm.exec) (hZ : Z.Warmed39 s.vm) (hby : c.code = bs) {aty : ArrayType} {n : Int32} {cap : Nat} (w : (Cond.arrayClass (newarray.typeOf aty)).before a0 Z = true) (eT : T.heap = h) (hd : decode bs pc = .ok (.newarray aty, 2)) (hp : pc + 2 = pc') (hn : ¬ n < 0) (hcap : n.toNatClampNeg ≤ cap) (hb' : cap * 8 ≤ 536870912) (hc : cells + 1 ≤ R.cells) (hl : slots + cap ≤ R.slots)
    (k : ∀ T' h' cA (b : Addr), b = h.size → Stand p l e R s m args below meth c T' locs (cells + 1) (slots + cap) → T'.heap = h' → Ext h h' → Arr Z h' b (newA cA (newarray.typeOf aty) n) (newarray.typeOf aty) → own_End p e below F (T'.setTop (mkF m pc' Ls (.ref b :: st)))) : own_End p e below F (T.setTop (mkF m pc Ls (.int n :: st))) := by
  subst hp
  obtain ⟨T', h', cA, X', e', E', A', stp⟩ := newP X hx hZ w eT (g := mkF m pc Ls (.int n :: st)) rfl (hb hby hd) rfl hn hcap hb' hc hl
  exact own_step stp (k T' h' cA h.size rfl X' e' E' A')
theorem own_newPE (X : Stand p l e R s m args below meth c T locs cells slots) (hx : p.tables.exec = Jvm.exec) (hZ : Z.Warmed39 s.vm) (hby : c.code = bs) {aty : ArrayType} {n : Int32} {cap : Nat} {ad : String} (had : "[" ++ (newarray.typeOf aty).toString = ad) (w : (Cond.arrayClass (newarray.typeOf aty)).before a0 Z = true) (eT : T.heap = h) (hd : decode bs pc = .ok (.newarray aty, 2)) (hp : pc + 2 = pc') (hn : ¬ n < 0) (hcap : n.toNatClampNeg ≤ cap) (hb' : cap * 8 ≤ 536870912) (hc : cells + 1 ≤ R.cells) (hl : slots + cap ≤ R.slots)
    (k : ∀ T' h' cA (b : Addr), b = h.size → Stand p l e R s m args below meth c T' locs (cells + 1) (slots + cap) → T'.heap = h' → Ext h h' → Arr Z h' b (newA cA (newarray.typeOf aty) n) (newarray.typeOf aty) → Exa Z h' b ad → own_End p e below F (T'.setTop (mkF m pc' Ls (.ref b :: st)))) : own_End p e below F (T.setTop (mkF m pc Ls (.int n :: st))) := by
  subst hp
  obtain ⟨T', h', cA, X', e', E', A', Ex', stp⟩ := newPE X hx hZ w eT (g := mkF m pc Ls (.int n :: st)) rfl (hb hby hd) rfl hn hcap hb' hc hl had
  exact own_step stp (k T' h' cA h.size rfl X' e' E' A' Ex')
theorem own_newR (X : Stand p l e R s m args below meth c T locs cells slots) (hx : p.tables.exec = Jvm.exec) (hZ : Z.Warmed39 s.vm) (hby : c.code = bs) {own C : String} {index : Nat} {n : Int32} {cap : Nat} (hown : s.vm.findClass own = some m.cls) (w1 : (Cond.classLink own index C).before a0 Z = true) (w2 : (Cond.arrayOver (.object C)).before a0 Z = true) (eT : T.heap = h) (hd : decode bs pc = .ok (.anewarray index, 3)) (hp : pc + 3 = pc') (hn : ¬ n < 0) (hcap : n.toNatClampNeg ≤ cap) (hb' : cap * 8 ≤ 536870912) (hc : cells + 1 ≤ R.cells) (hl : slots + cap ≤ R.slots)
    (k : ∀ T' h' cA (b : Addr), b = h.size → Stand p l e R s m args below meth c T' locs (cells + 1) (slots + cap) → T'.heap = h' → Ext h h' → Arr Z h' b (newA cA (.object C) n) (.object C) → Ovr Z cA C → own_End p e below F (T'.setTop (mkF m pc' Ls (.ref b :: st)))) : own_End p e below F (T.setTop (mkF m pc Ls (.int n :: st))) := by
  subst hp
  obtain ⟨T', h', cA, X', e', E', A', O', stp⟩ := newR X hx hZ hown w1 w2 eT (g := mkF m pc Ls (.int n :: st)) rfl (hb hby hd) rfl hn hcap hb' hc hl
  exact own_step stp (k T' h' cA h.size rfl X' e' E' A' O')
theorem own_iastore (X : Stand p l e R s m args below meth c T locs cells slots) (hx : p.tables.exec = Jvm.exec) (hZ : Z.Warmed39 s.vm) (hby : c.code = bs) {a : Addr} {cl : Cell} (eT : T.heap = h) (A : Arr Z h a cl .int) {j : Int32} {x : Int32} (hj : ¬ (j < 0 ∨ cl.slots.size ≤ j.toNatClampNeg)) (hd : decode bs pc = .ok (.iastore, 1)) (hp : pc + 1 = pc')
    (k : ∀ T' h', Stand p l e R s m args below meth c T' (locs ++ [⟨a, j.toNatClampNeg⟩]) cells slots → T'.heap = h' → Wr h h' a j.toNatClampNeg (.int x) → own_End p e below F (T'.setTop (mkF m pc' Ls st))) : own_End p e below F (T.setTop (mkF m pc Ls (.int x :: .int j :: .ref a :: st))) := by
  subst hp
  obtain ⟨T', h', X', e', W', stp⟩ := stI X hx hZ eT A hj (g := mkF m pc Ls (.int x :: .int j :: .ref a :: st)) rfl rfl (hb hby hd)
  exact own_step stp (k T' h' X' e' W')
theorem own_lastore (X : Stand p l e R s m args below meth c T locs cells slots) (hx : p.tables.exec = Jvm.exec) (hZ : Z.Warmed39 s.vm) (hby : c.code = bs) {a : Addr} {cl : Cell} (eT : T.heap = h) (A : Arr Z h a cl .long) {j : Int32} {x : Int64} (hj : ¬ (j < 0 ∨ cl.slots.size ≤ j.toNatClampNeg)) (hd : decode bs pc = .ok (.lastore, 1)) (hp : pc + 1 = pc')
    (k : ∀ T' h', Stand p l e R s m args below meth c T' (locs ++ [⟨a, j.toNatClampNeg⟩]) cells slots → T'.heap = h' → Wr h h' a j.toNatClampNeg (.long x) → own_End p e below F (T'.setTop (mkF m pc' Ls st))) : own_End p e below F (T.setTop (mkF m pc Ls (.long x :: .int j :: .ref a :: st))) := by
  subst hp
  obtain ⟨T', h', X', e', W', stp⟩ := stJ X hx hZ eT A hj (g := mkF m pc Ls (.long x :: .int j :: .ref a :: st)) rfl rfl (hb hby hd)
  exact own_step stp (k T' h' X' e' W')
theorem own_castore (X : Stand p l e R s m args below meth c T locs cells slots) (hx : p.tables.exec = Jvm.exec) (hZ : Z.Warmed39 s.vm) (hby : c.code = bs) {a : Addr} {cl : Cell} (eT : T.heap = h) (A : Arr Z h a cl .char) {j : Int32} {x : Int32} (hj : ¬ (j < 0 ∨ cl.slots.size ≤ j.toNatClampNeg)) (hd : decode bs pc = .ok (.castore, 1)) (hp : pc + 1 = pc')
    (k : ∀ T' h', Stand p l e R s m args below meth c T' (locs ++ [⟨a, j.toNatClampNeg⟩]) cells slots → T'.heap = h' → Wr h h' a j.toNatClampNeg (.int (nar .char x)) → own_End p e below F (T'.setTop (mkF m pc' Ls st))) : own_End p e below F (T.setTop (mkF m pc Ls (.int x :: .int j :: .ref a :: st))) := by
  subst hp
  obtain ⟨T', h', X', e', W', stp⟩ := stC X hx hZ eT A hj (g := mkF m pc Ls (.int x :: .int j :: .ref a :: st)) rfl rfl (hb hby hd)
  exact own_step stp (k T' h' X' e' W')
theorem own_bastore (X : Stand p l e R s m args below meth c T locs cells slots) (hx : p.tables.exec = Jvm.exec) (hZ : Z.Warmed39 s.vm) (hby : c.code = bs) {a : Addr} {cl : Cell} (eT : T.heap = h) (A : Arr Z h a cl .byte) {j : Int32} {x : Int32} (hj : ¬ (j < 0 ∨ cl.slots.size ≤ j.toNatClampNeg)) (hd : decode bs pc = .ok (.bastore, 1)) (hp : pc + 1 = pc')
    (k : ∀ T' h', Stand p l e R s m args below meth c T' (locs ++ [⟨a, j.toNatClampNeg⟩]) cells slots → T'.heap = h' → Wr h h' a j.toNatClampNeg (.int (nar .byte x)) → own_End p e below F (T'.setTop (mkF m pc' Ls st))) : own_End p e below F (T.setTop (mkF m pc Ls (.int x :: .int j :: .ref a :: st))) := by
  subst hp
  obtain ⟨T', h', X', e', W', stp⟩ := stB X hx hZ eT A hj (g := mkF m pc Ls (.int x :: .int j :: .ref a :: st)) rfl rfl (hb hby hd)
  exact own_step stp (k T' h' X' e' W')
theorem own_stR (X : Stand p l e R s m args below meth c T locs cells slots) (hx : p.tables.exec = Jvm.exec) (hZ : Z.Warmed39 s.vm) (hby : c.code = bs) {a : Addr} {cl : Cell} {ty : FieldType} (eT : T.heap = h) (A : Arr Z h a cl ty) {j : Int32} {v : Value} (hj : ¬ (j < 0 ∨ cl.slots.size ≤ j.toNatClampNeg)) (hty : ty.isReference = true) (S : Sto Z h a v) (hd : decode bs pc = .ok (.aastore, 1)) (hp : pc + 1 = pc')
    (k : ∀ T' h', Stand p l e R s m args below meth c T' (locs ++ [⟨a, j.toNatClampNeg⟩]) cells slots → T'.heap = h' → Wr h h' a j.toNatClampNeg v → own_End p e below F (T'.setTop (mkF m pc' Ls st))) : own_End p e below F (T.setTop (mkF m pc Ls (v :: .int j :: .ref a :: st))) := by
  subst hp
  obtain ⟨T', h', X', e', W', stp⟩ := stR X hx hZ eT A hj hty S (g := mkF m pc Ls (v :: .int j :: .ref a :: st)) rfl rfl (hb hby hd)
  exact own_step stp (k T' h' X' e' W')
theorem own_iaload (X : Stand p l e R s m args below meth c T locs cells slots) (hx : p.tables.exec = Jvm.exec) (hZ : Z.Warmed39 s.vm) (hby : c.code = bs) {a : Addr} {cl : Cell} (eT : T.heap = h) (A : Arr Z h a cl .int) {j : Int32} {v : Value} (hj : ¬ (j < 0 ∨ cl.slots.size ≤ j.toNatClampNeg)) (hv : cl.slots[j.toNatClampNeg]? = some v) (hd : decode bs pc = .ok (.iaload, 1)) (hp : pc + 1 = pc') (k : own_End p e below F (T.setTop (mkF m pc' Ls (v :: st)))) : own_End p e below F (T.setTop (mkF m pc Ls (.int j :: .ref a :: st))) := by
  subst hp
  exact own_step (fun t q => X.iaload hx (j := j) (v := v) (by rw [eT]; exact A.1) (State.isArrayOf_alike hZ.alike A.2.1) A.2.2 hj hv (g := mkF m pc Ls (.int j :: .ref a :: st)) rfl rfl (hb hby hd) _ q) k
theorem own_laload (X : Stand p l e R s m args below meth c T locs cells slots) (hx : p.tables.exec = Jvm.exec) (hZ : Z.Warmed39 s.vm) (hby : c.code = bs) {a : Addr} {cl : Cell} (eT : T.heap = h) (A : Arr Z h a cl .long) {j : Int32} {v : Value} (hj : ¬ (j < 0 ∨ cl.slots.size ≤ j.toNatClampNeg)) (hv : cl.slots[j.toNatClampNeg]? = some v) (hd : decode bs pc = .ok (.laload, 1)) (hp : pc + 1 = pc') (k : own_End p e below F (T.setTop (mkF m pc' Ls (v :: st)))) : own_End p e below F (T.setTop (mkF m pc Ls (.int j :: .ref a :: st))) := by
  subst hp
  exact own_step (fun t q => X.laload hx (j := j) (v := v) (by rw [eT]; exact A.1) (State.isArrayOf_alike hZ.alike A.2.1) A.2.2 hj hv (g := mkF m pc Ls (.int j :: .ref a :: st)) rfl rfl (hb hby hd) _ q) k
theorem own_caload (X : Stand p l e R s m args below meth c T locs cells slots) (hx : p.tables.exec = Jvm.exec) (hZ : Z.Warmed39 s.vm) (hby : c.code = bs) {a : Addr} {cl : Cell} (eT : T.heap = h) (A : Arr Z h a cl .char) {j : Int32} {v : Value} (hj : ¬ (j < 0 ∨ cl.slots.size ≤ j.toNatClampNeg)) (hv : cl.slots[j.toNatClampNeg]? = some v) (hd : decode bs pc = .ok (.caload, 1)) (hp : pc + 1 = pc') (k : own_End p e below F (T.setTop (mkF m pc' Ls (v :: st)))) : own_End p e below F (T.setTop (mkF m pc Ls (.int j :: .ref a :: st))) := by
  subst hp
  exact own_step (fun t q => X.caload hx (j := j) (v := v) (by rw [eT]; exact A.1) (State.isArrayOf_alike hZ.alike A.2.1) A.2.2 hj hv (g := mkF m pc Ls (.int j :: .ref a :: st)) rfl rfl (hb hby hd) _ q) k
theorem own_baload (X : Stand p l e R s m args below meth c T locs cells slots) (hx : p.tables.exec = Jvm.exec) (hZ : Z.Warmed39 s.vm) (hby : c.code = bs) {a : Addr} {cl : Cell} (eT : T.heap = h) (A : Arr Z h a cl .byte) {j : Int32} {v : Value} (hj : ¬ (j < 0 ∨ cl.slots.size ≤ j.toNatClampNeg)) (hv : cl.slots[j.toNatClampNeg]? = some v) (hd : decode bs pc = .ok (.baload, 1)) (hp : pc + 1 = pc') (k : own_End p e below F (T.setTop (mkF m pc' Ls (v :: st)))) : own_End p e below F (T.setTop (mkF m pc Ls (.int j :: .ref a :: st))) := by
  subst hp
  exact own_step (fun t q => X.baloadBytes hx (j := j) (v := v) (by rw [eT]; exact A.1) (State.isArrayOf_alike hZ.alike A.2.1) A.2.2 hj hv (g := mkF m pc Ls (.int j :: .ref a :: st)) rfl rfl (hb hby hd) _ q) k
theorem own_aaload (X : Stand p l e R s m args below meth c T locs cells slots) (hx : p.tables.exec = Jvm.exec) (hZ : Z.Warmed39 s.vm) (hby : c.code = bs) {a : Addr} {cl : Cell} {ty : FieldType} (eT : T.heap = h) (A : Arr Z h a cl ty) (hty : ty.isReference = true) {j : Int32} {v : Value} (hj : ¬ (j < 0 ∨ cl.slots.size ≤ j.toNatClampNeg)) (hv : cl.slots[j.toNatClampNeg]? = some v) (hd : decode bs pc = .ok (.aaload, 1)) (hp : pc + 1 = pc') (k : own_End p e below F (T.setTop (mkF m pc' Ls (v :: st)))) : own_End p e below F (T.setTop (mkF m pc Ls (.int j :: .ref a :: st))) := by
  subst hp
  exact own_step (fun t q => X.aaload hx (j := j) (v := v) (by rw [eT]; exact A.1) (State.isArrayOf_alike hZ.alike A.2.1) hty A.2.2 hj hv (g := mkF m pc Ls (.int j :: .ref a :: st)) rfl rfl (hb hby hd) _ q) k
theorem own_alen (X : Stand p l e R s m args below meth c T locs cells slots) (hx : p.tables.exec = Jvm.exec) (hZ : Z.Warmed39 s.vm) (hby : c.code = bs) {a : Addr} {cl : Cell} {ty : FieldType} {z : Int32} (eT : T.heap = h) (A : Arr Z h a cl ty) (S : cl.slots.size = z.toNatClampNeg) (M : ¬ z < 0) (hd : decode bs pc = .ok (.arraylength, 1)) (hp : pc + 1 = pc') (k : own_End p e below F (T.setTop (mkF m pc' Ls (.int z :: st)))) : own_End p e below F (T.setTop (mkF m pc Ls (.ref a :: st))) := by
  subst hp
  have hl := len_of S M
  exact own_step (fun t q => X.arraylength hx (by rw [eT]; exact A.1) (State.isArrayOf_alike hZ.alike A.2.1) (g := mkF m pc Ls (.ref a :: st)) rfl rfl (hb hby hd) _ (by rw [hl]; exact q)) k
theorem own_init (X : Stand p l e R s m args below meth c T locs cells slots) (hx : p.tables.exec = Jvm.exec) (hZ : Z.Warmed39 s.vm) (hby : c.code = bs) {own : String} {index : Nat} {a : Addr} {W : Nat} (hown : s.vm.findClass own = some m.cls) (w1 : (Cond.methodLink own index Lib.objectInit).before a0 Z = true) (w2 : (Cond.instanceMethod Lib.objectInit).before a0 Z = true) (w3 : (Cond.code Lib.objectInit ⟨#[0xb1]⟩ 1 none).before a0 Z = true) (eT : T.heap = h) (hsz : Ls.size = c.maxLocals) (hd : decode bs pc = .ok (.invokespecial index, 3)) (hp : pc + 3 = pc') (hf : 1 ≤ R.frames) (hW : (st.map fun v => v.category).sum ≤ W) (hl : W + 12 ≤ R.locals)
    (k : ∀ T', Stand p l e R s m args below meth c T' locs cells slots → T'.heap = h → own_End p e below F (T'.setTop (mkF m pc' Ls st))) : own_End p e below F (T.setTop (mkF m pc Ls (.ref a :: st))) := by
  subst hp
  obtain ⟨T', X', e', stp⟩ := initO X hx hZ hown w1 w2 w3 eT (g := mkF m pc Ls (.ref a :: st)) rfl hsz rfl (hb hby hd) hf (W := W) (by show 2 * 0 + _ ≤ _; omega) hl
  exact own_step stp (k T' X' e')
theorem own_cast (X : Stand p l e R s m args below meth c T locs cells slots) (hx : p.tables.exec = Jvm.exec) (hZ : Z.Warmed39 s.vm) (hby : c.code = bs) {own K : String} {index : Nat} {a : Addr} (hown : s.vm.findClass own = some m.cls) (w : (Cond.classLink own index K).before a0 Z = true) (eT : T.heap = h) (I : Ins Z h a K true) (hd : decode bs pc = .ok (.checkcast index, 3)) (hp : pc + 3 = pc')
    (k : ∀ T', Stand p l e R s m args below meth c T' locs cells slots → T'.heap = h → own_End p e below F (T'.setTop (mkF m pc' Ls (.ref a :: st)))) : own_End p e below F (T.setTop (mkF m pc Ls (.ref a :: st))) := by
  subst hp
  obtain ⟨T', X', e', stp⟩ := castY X hx hZ hown w eT I (g := mkF m pc Ls (.ref a :: st)) rfl rfl (hb hby hd)
  exact own_step stp (k T' X' e')
theorem own_inst (X : Stand p l e R s m args below meth c T locs cells slots) (hx : p.tables.exec = Jvm.exec) (hZ : Z.Warmed39 s.vm) (hby : c.code = bs) {own K : String} {index : Nat} {a : Addr} (hown : s.vm.findClass own = some m.cls) (w : (Cond.classLink own index K).before a0 Z = true) (eT : T.heap = h) (I : Ins Z h a K true) (hd : decode bs pc = .ok (.instanceof index, 3)) (hp : pc + 3 = pc')
    (k : ∀ T', Stand p l e R s m args below meth c T' locs cells slots → T'.heap = h → own_End p e below F (T'.setTop (mkF m pc' Ls (.int 1 :: st)))) : own_End p e below F (T.setTop (mkF m pc Ls (.ref a :: st))) := by
  subst hp
  obtain ⟨T', X', e', stp⟩ := instY X hx hZ hown w eT I (g := mkF m pc Ls (.ref a :: st)) rfl rfl (hb hby hd)
  exact own_step stp (k T' X' e')
theorem own_instNull (X : Stand p l e R s m args below meth c T locs cells slots) (hx : p.tables.exec = Jvm.exec) (hby : c.code = bs) {index : Nat} (hd : decode bs pc = .ok (.instanceof index, 3)) (hp : pc + 3 = pc') (k : own_End p e below F (T.setTop (mkF m pc' Ls (.int 0 :: st)))) : own_End p e below F (T.setTop (mkF m pc Ls (.null :: st))) := by
  subst hp
  exact own_step (fun t q => X.instanceofNull hx (g := mkF m pc Ls (.null :: st)) rfl rfl (hb hby hd) _ q) k
end Heap
end OwnKit

theorem wd_0 {a0 : Array Value} {Z : State} (hw : ∀ d ∈ tables_1, d.before a0 Z = true) : (Jvm.Cond.classLink "com/example/earnest_reactor/earnestreactor/core/TimerQueueIsEmptyPinLaw" (7 : Nat) "com/example/earnest_reactor/earnestreactor/core/TimerQueue").before a0 Z = true := hw _ (List.mem_of_getElem? (i := 0) rfl)
theorem wd_1 {a0 : Array Value} {Z : State} (hw : ∀ d ∈ tables_1, d.before a0 Z = true) : (Jvm.Cond.instantiable "com/example/earnest_reactor/earnestreactor/core/TimerQueue" (2 : Nat)).before a0 Z = true := hw _ (List.mem_of_getElem? (i := 1) rfl)
theorem wd_2 {a0 : Array Value} {Z : State} (hw : ∀ d ∈ tables_1, d.before a0 Z = true) : (Jvm.Cond.initialized "com/example/earnest_reactor/earnestreactor/core/TimerQueue").before a0 Z = true := hw _ (List.mem_of_getElem? (i := 2) rfl)
theorem wd_3 {a0 : Array Value} {Z : State} (hw : ∀ d ∈ tables_1, d.before a0 Z = true) : (Jvm.Cond.methodLink "com/example/earnest_reactor/earnestreactor/core/TimerQueueIsEmptyPinLaw" (9 : Nat) ({ cls := "com/example/earnest_reactor/earnestreactor/core/TimerQueue", name := "<init>", desc := "()V" } : Jvm.MethodName)).before a0 Z = true := hw _ (List.mem_of_getElem? (i := 3) rfl)
theorem wd_4 {a0 : Array Value} {Z : State} (hw : ∀ d ∈ tables_1, d.before a0 Z = true) : (Jvm.Cond.instanceMethod ({ cls := "com/example/earnest_reactor/earnestreactor/core/TimerQueue", name := "<init>", desc := "()V" } : Jvm.MethodName)).before a0 Z = true := hw _ (List.mem_of_getElem? (i := 4) rfl)
theorem wd_5 {a0 : Array Value} {Z : State} (hw : ∀ d ∈ tables_1, d.before a0 Z = true) : (Jvm.Cond.code ({ cls := "com/example/earnest_reactor/earnestreactor/core/TimerQueue", name := "<init>", desc := "()V" } : Jvm.MethodName) prog_35_method_1_code (1 : Nat) (Option.none : Option Jvm.ClassFile.FieldType)).before a0 Z = true := hw _ (List.mem_of_getElem? (i := 5) rfl)
theorem wd_6 {a0 : Array Value} {Z : State} (hw : ∀ d ∈ tables_1, d.before a0 Z = true) : (Jvm.Cond.methodLink "com/example/earnest_reactor/earnestreactor/core/TimerQueue" (1 : Nat) ({ cls := "java/lang/Object", name := "<init>", desc := "()V" } : Jvm.MethodName)).before a0 Z = true := hw _ (List.mem_of_getElem? (i := 6) rfl)
theorem wd_7 {a0 : Array Value} {Z : State} (hw : ∀ d ∈ tables_1, d.before a0 Z = true) : (Jvm.Cond.instanceMethod ({ cls := "java/lang/Object", name := "<init>", desc := "()V" } : Jvm.MethodName)).before a0 Z = true := hw _ (List.mem_of_getElem? (i := 7) rfl)
theorem wd_8 {a0 : Array Value} {Z : State} (hw : ∀ d ∈ tables_1, d.before a0 Z = true) : (Jvm.Cond.code ({ cls := "java/lang/Object", name := "<init>", desc := "()V" } : Jvm.MethodName) object_method_1_code (1 : Nat) (Option.none : Option Jvm.ClassFile.FieldType)).before a0 Z = true := hw _ (List.mem_of_getElem? (i := 8) rfl)
theorem wd_9 {a0 : Array Value} {Z : State} (hw : ∀ d ∈ tables_1, d.before a0 Z = true) : (Jvm.Cond.classLink "com/example/earnest_reactor/earnestreactor/core/TimerQueue" (9 : Nat) "com/example/earnest_reactor/earnestreactor/core/ScheduledTask").before a0 Z = true := hw _ (List.mem_of_getElem? (i := 9) rfl)
theorem wd_10 {a0 : Array Value} {Z : State} (hw : ∀ d ∈ tables_1, d.before a0 Z = true) : (Jvm.Cond.arrayOver (Jvm.ClassFile.FieldType.object "com/example/earnest_reactor/earnestreactor/core/ScheduledTask")).before a0 Z = true := hw _ (List.mem_of_getElem? (i := 10) rfl)
theorem wd_11 {a0 : Array Value} {Z : State} (hw : ∀ d ∈ tables_1, d.before a0 Z = true) : (Jvm.Cond.fieldLink "com/example/earnest_reactor/earnestreactor/core/TimerQueue" (11 : Nat) "com/example/earnest_reactor/earnestreactor/core/TimerQueue" "heap" "[Lcom/example/earnest_reactor/earnestreactor/core/ScheduledTask;").before a0 Z = true := hw _ (List.mem_of_getElem? (i := 11) rfl)
theorem wd_12 {a0 : Array Value} {Z : State} (hw : ∀ d ∈ tables_1, d.before a0 Z = true) : (Jvm.Cond.lays "com/example/earnest_reactor/earnestreactor/core/TimerQueue" "com/example/earnest_reactor/earnestreactor/core/TimerQueue" "heap" "[Lcom/example/earnest_reactor/earnestreactor/core/ScheduledTask;").before a0 Z = true := hw _ (List.mem_of_getElem? (i := 12) rfl)
theorem wd_13 {a0 : Array Value} {Z : State} (hw : ∀ d ∈ tables_1, d.before a0 Z = true) : (Jvm.Cond.classLink "com/example/earnest_reactor/earnestreactor/core/TimerQueueIsEmptyPinLaw" (10 : Nat) "com/example/earnest_reactor/earnestreactor/core/ScheduledTask").before a0 Z = true := hw _ (List.mem_of_getElem? (i := 13) rfl)
theorem wd_14 {a0 : Array Value} {Z : State} (hw : ∀ d ∈ tables_1, d.before a0 Z = true) : (Jvm.Cond.instantiable "com/example/earnest_reactor/earnestreactor/core/ScheduledTask" (5 : Nat)).before a0 Z = true := hw _ (List.mem_of_getElem? (i := 14) rfl)
theorem wd_15 {a0 : Array Value} {Z : State} (hw : ∀ d ∈ tables_1, d.before a0 Z = true) : (Jvm.Cond.initialized "com/example/earnest_reactor/earnestreactor/core/ScheduledTask").before a0 Z = true := hw _ (List.mem_of_getElem? (i := 15) rfl)
theorem wd_16 {a0 : Array Value} {Z : State} (hw : ∀ d ∈ tables_1, d.before a0 Z = true) : (Jvm.Cond.methodLink "com/example/earnest_reactor/earnestreactor/core/TimerQueueIsEmptyPinLaw" (12 : Nat) ({ cls := "com/example/earnest_reactor/earnestreactor/core/ScheduledTask", name := "<init>", desc := "(Lcom/example/earnest_reactor/earnestreactor/core/EventLoop;JJLjava/lang/Runnable;)V" } : Jvm.MethodName)).before a0 Z = true := hw _ (List.mem_of_getElem? (i := 16) rfl)
theorem wd_17 {a0 : Array Value} {Z : State} (hw : ∀ d ∈ tables_1, d.before a0 Z = true) : (Jvm.Cond.instanceMethod ({ cls := "com/example/earnest_reactor/earnestreactor/core/ScheduledTask", name := "<init>", desc := "(Lcom/example/earnest_reactor/earnestreactor/core/EventLoop;JJLjava/lang/Runnable;)V" } : Jvm.MethodName)).before a0 Z = true := hw _ (List.mem_of_getElem? (i := 17) rfl)
theorem wd_18 {a0 : Array Value} {Z : State} (hw : ∀ d ∈ tables_1, d.before a0 Z = true) : (Jvm.Cond.code ({ cls := "com/example/earnest_reactor/earnestreactor/core/ScheduledTask", name := "<init>", desc := "(Lcom/example/earnest_reactor/earnestreactor/core/EventLoop;JJLjava/lang/Runnable;)V" } : Jvm.MethodName) prog_31_method_1_code (7 : Nat) (Option.none : Option Jvm.ClassFile.FieldType)).before a0 Z = true := hw _ (List.mem_of_getElem? (i := 18) rfl)
theorem wd_19 {a0 : Array Value} {Z : State} (hw : ∀ d ∈ tables_1, d.before a0 Z = true) : (Jvm.Cond.methodLink "com/example/earnest_reactor/earnestreactor/core/ScheduledTask" (1 : Nat) ({ cls := "java/lang/Object", name := "<init>", desc := "()V" } : Jvm.MethodName)).before a0 Z = true := hw _ (List.mem_of_getElem? (i := 19) rfl)
theorem wd_20 {a0 : Array Value} {Z : State} (hw : ∀ d ∈ tables_1, d.before a0 Z = true) : (Jvm.Cond.fieldLink "com/example/earnest_reactor/earnestreactor/core/ScheduledTask" (7 : Nat) "com/example/earnest_reactor/earnestreactor/core/ScheduledTask" "queueIndex" "I").before a0 Z = true := hw _ (List.mem_of_getElem? (i := 20) rfl)
theorem wd_21 {a0 : Array Value} {Z : State} (hw : ∀ d ∈ tables_1, d.before a0 Z = true) : (Jvm.Cond.lays "com/example/earnest_reactor/earnestreactor/core/ScheduledTask" "com/example/earnest_reactor/earnestreactor/core/ScheduledTask" "queueIndex" "I").before a0 Z = true := hw _ (List.mem_of_getElem? (i := 21) rfl)
theorem wd_22 {a0 : Array Value} {Z : State} (hw : ∀ d ∈ tables_1, d.before a0 Z = true) : (Jvm.Cond.fieldLink "com/example/earnest_reactor/earnestreactor/core/ScheduledTask" (13 : Nat) "com/example/earnest_reactor/earnestreactor/core/ScheduledTask" "loop" "Lcom/example/earnest_reactor/earnestreactor/core/EventLoop;").before a0 Z = true := hw _ (List.mem_of_getElem? (i := 22) rfl)
theorem wd_23 {a0 : Array Value} {Z : State} (hw : ∀ d ∈ tables_1, d.before a0 Z = true) : (Jvm.Cond.laysFinal "com/example/earnest_reactor/earnestreactor/core/ScheduledTask" "com/example/earnest_reactor/earnestreactor/core/ScheduledTask" "loop" "Lcom/example/earnest_reactor/earnestreactor/core/EventLoop;").before a0 Z = true := hw _ (List.mem_of_getElem? (i := 23) rfl)
theorem wd_24 {a0 : Array Value} {Z : State} (hw : ∀ d ∈ tables_1, d.before a0 Z = true) : (Jvm.Cond.fieldLink "com/example/earnest_reactor/earnestreactor/core/ScheduledTask" (17 : Nat) "com/example/earnest_reactor/earnestreactor/core/ScheduledTask" "deadline" "J").before a0 Z = true := hw _ (List.mem_of_getElem? (i := 24) rfl)
theorem wd_25 {a0 : Array Value} {Z : State} (hw : ∀ d ∈ tables_1, d.before a0 Z = true) : (Jvm.Cond.laysFinal "com/example/earnest_reactor/earnestreactor/core/ScheduledTask" "com/example/earnest_reactor/earnestreactor/core/ScheduledTask" "deadline" "J").before a0 Z = true := hw _ (List.mem_of_getElem? (i := 25) rfl)
theorem wd_26 {a0 : Array Value} {Z : State} (hw : ∀ d ∈ tables_1, d.before a0 Z = true) : (Jvm.Cond.fieldLink "com/example/earnest_reactor/earnestreactor/core/ScheduledTask" (21 : Nat) "com/example/earnest_reactor/earnestreactor/core/ScheduledTask" "sequence" "J").before a0 Z = true := hw _ (List.mem_of_getElem? (i := 26) rfl)
theorem wd_27 {a0 : Array Value} {Z : State} (hw : ∀ d ∈ tables_1, d.before a0 Z = true) : (Jvm.Cond.laysFinal "com/example/earnest_reactor/earnestreactor/core/ScheduledTask" "com/example/earnest_reactor/earnestreactor/core/ScheduledTask" "sequence" "J").before a0 Z = true := hw _ (List.mem_of_getElem? (i := 27) rfl)
theorem wd_28 {a0 : Array Value} {Z : State} (hw : ∀ d ∈ tables_1, d.before a0 Z = true) : (Jvm.Cond.fieldLink "com/example/earnest_reactor/earnestreactor/core/ScheduledTask" (24 : Nat) "com/example/earnest_reactor/earnestreactor/core/ScheduledTask" "task" "Ljava/lang/Runnable;").before a0 Z = true := hw _ (List.mem_of_getElem? (i := 28) rfl)
theorem wd_29 {a0 : Array Value} {Z : State} (hw : ∀ d ∈ tables_1, d.before a0 Z = true) : (Jvm.Cond.laysFinal "com/example/earnest_reactor/earnestreactor/core/ScheduledTask" "com/example/earnest_reactor/earnestreactor/core/ScheduledTask" "task" "Ljava/lang/Runnable;").before a0 Z = true := hw _ (List.mem_of_getElem? (i := 29) rfl)
theorem wd_30 {a0 : Array Value} {Z : State} (hw : ∀ d ∈ tables_1, d.before a0 Z = true) : (Jvm.Cond.constantLong "com/example/earnest_reactor/earnestreactor/core/TimerQueueIsEmptyPinLaw" (15 : Nat) (2 : Int64)).before a0 Z = true := hw _ (List.mem_of_getElem? (i := 30) rfl)
theorem wd_31 {a0 : Array Value} {Z : State} (hw : ∀ d ∈ tables_1, d.before a0 Z = true) : (Jvm.Cond.methodLink "com/example/earnest_reactor/earnestreactor/core/TimerQueueIsEmptyPinLaw" (17 : Nat) ({ cls := "com/example/earnest_reactor/earnestreactor/core/TimerQueue", name := "isEmpty", desc := "()Z" } : Jvm.MethodName)).before a0 Z = true := hw _ (List.mem_of_getElem? (i := 31) rfl)
theorem wd_32 {a0 : Array Value} {Z : State} (hw : ∀ d ∈ tables_1, d.before a0 Z = true) : (Jvm.Cond.declares ({ cls := "com/example/earnest_reactor/earnestreactor/core/TimerQueue", name := "isEmpty", desc := "()Z" } : Jvm.MethodName)).before a0 Z = true := hw _ (List.mem_of_getElem? (i := 32) rfl)
theorem wd_33 {a0 : Array Value} {Z : State} (hw : ∀ d ∈ tables_1, d.before a0 Z = true) : (Jvm.Cond.instanceMethod ({ cls := "com/example/earnest_reactor/earnestreactor/core/TimerQueue", name := "isEmpty", desc := "()Z" } : Jvm.MethodName)).before a0 Z = true := hw _ (List.mem_of_getElem? (i := 33) rfl)
theorem wd_34 {a0 : Array Value} {Z : State} (hw : ∀ d ∈ tables_1, d.before a0 Z = true) : (Jvm.Cond.selects "com/example/earnest_reactor/earnestreactor/core/TimerQueue" ({ cls := "com/example/earnest_reactor/earnestreactor/core/TimerQueue", name := "isEmpty", desc := "()Z" } : Jvm.MethodName) ({ cls := "com/example/earnest_reactor/earnestreactor/core/TimerQueue", name := "isEmpty", desc := "()Z" } : Jvm.MethodName)).before a0 Z = true := hw _ (List.mem_of_getElem? (i := 34) rfl)
theorem wd_35 {a0 : Array Value} {Z : State} (hw : ∀ d ∈ tables_1, d.before a0 Z = true) : (Jvm.Cond.code ({ cls := "com/example/earnest_reactor/earnestreactor/core/TimerQueue", name := "isEmpty", desc := "()Z" } : Jvm.MethodName) prog_35_method_2_code (1 : Nat) (Option.some Jvm.ClassFile.FieldType.boolean)).before a0 Z = true := hw _ (List.mem_of_getElem? (i := 35) rfl)
theorem wd_36 {a0 : Array Value} {Z : State} (hw : ∀ d ∈ tables_1, d.before a0 Z = true) : (Jvm.Cond.fieldLink "com/example/earnest_reactor/earnestreactor/core/TimerQueue" (15 : Nat) "com/example/earnest_reactor/earnestreactor/core/TimerQueue" "size" "I").before a0 Z = true := hw _ (List.mem_of_getElem? (i := 36) rfl)
theorem wd_37 {a0 : Array Value} {Z : State} (hw : ∀ d ∈ tables_1, d.before a0 Z = true) : (Jvm.Cond.lays "com/example/earnest_reactor/earnestreactor/core/TimerQueue" "com/example/earnest_reactor/earnestreactor/core/TimerQueue" "size" "I").before a0 Z = true := hw _ (List.mem_of_getElem? (i := 37) rfl)
theorem wd_38 {a0 : Array Value} {Z : State} (hw : ∀ d ∈ tables_1, d.before a0 Z = true) : (Jvm.Cond.methodLink "com/example/earnest_reactor/earnestreactor/core/TimerQueueIsEmptyPinLaw" (33 : Nat) ({ cls := "java/lang/Math", name := "max", desc := "(II)I" } : Jvm.MethodName)).before a0 Z = true := hw _ (List.mem_of_getElem? (i := 38) rfl)
theorem wd_39 {a0 : Array Value} {Z : State} (hw : ∀ d ∈ tables_1, d.before a0 Z = true) : (Jvm.Cond.static ({ cls := "java/lang/Math", name := "max", desc := "(II)I" } : Jvm.MethodName)).before a0 Z = true := hw _ (List.mem_of_getElem? (i := 39) rfl)
theorem wd_40 {a0 : Array Value} {Z : State} (hw : ∀ d ∈ tables_1, d.before a0 Z = true) : (Jvm.Cond.initialized "java/lang/Math").before a0 Z = true := hw _ (List.mem_of_getElem? (i := 40) rfl)
theorem wd_41 {a0 : Array Value} {Z : State} (hw : ∀ d ∈ tables_1, d.before a0 Z = true) : (Jvm.Cond.code ({ cls := "java/lang/Math", name := "max", desc := "(II)I" } : Jvm.MethodName) jdk_29_method_65_code (2 : Nat) (Option.some Jvm.ClassFile.FieldType.int)).before a0 Z = true := hw _ (List.mem_of_getElem? (i := 41) rfl)
theorem wd_42 {a0 : Array Value} {Z : State} (hw : ∀ d ∈ tables_1, d.before a0 Z = true) : (Jvm.Cond.methodLink "com/example/earnest_reactor/earnestreactor/core/TimerQueueIsEmptyPinLaw" (39 : Nat) ({ cls := "com/example/earnest_reactor/earnestreactor/core/TimerQueue", name := "peek", desc := "()Lcom/example/earnest_reactor/earnestreactor/core/ScheduledTask;" } : Jvm.MethodName)).before a0 Z = true := hw _ (List.mem_of_getElem? (i := 42) rfl)
theorem wd_43 {a0 : Array Value} {Z : State} (hw : ∀ d ∈ tables_1, d.before a0 Z = true) : (Jvm.Cond.declares ({ cls := "com/example/earnest_reactor/earnestreactor/core/TimerQueue", name := "peek", desc := "()Lcom/example/earnest_reactor/earnestreactor/core/ScheduledTask;" } : Jvm.MethodName)).before a0 Z = true := hw _ (List.mem_of_getElem? (i := 43) rfl)
theorem wd_44 {a0 : Array Value} {Z : State} (hw : ∀ d ∈ tables_1, d.before a0 Z = true) : (Jvm.Cond.instanceMethod ({ cls := "com/example/earnest_reactor/earnestreactor/core/TimerQueue", name := "peek", desc := "()Lcom/example/earnest_reactor/earnestreactor/core/ScheduledTask;" } : Jvm.MethodName)).before a0 Z = true := hw _ (List.mem_of_getElem? (i := 44) rfl)
theorem wd_45 {a0 : Array Value} {Z : State} (hw : ∀ d ∈ tables_1, d.before a0 Z = true) : (Jvm.Cond.selects "com/example/earnest_reactor/earnestreactor/core/TimerQueue" ({ cls := "com/example/earnest_reactor/earnestreactor/core/TimerQueue", name := "peek", desc := "()Lcom/example/earnest_reactor/earnestreactor/core/ScheduledTask;" } : Jvm.MethodName) ({ cls := "com/example/earnest_reactor/earnestreactor/core/TimerQueue", name := "peek", desc := "()Lcom/example/earnest_reactor/earnestreactor/core/ScheduledTask;" } : Jvm.MethodName)).before a0 Z = true := hw _ (List.mem_of_getElem? (i := 45) rfl)
theorem wd_46 {a0 : Array Value} {Z : State} (hw : ∀ d ∈ tables_1, d.before a0 Z = true) : (Jvm.Cond.code ({ cls := "com/example/earnest_reactor/earnestreactor/core/TimerQueue", name := "peek", desc := "()Lcom/example/earnest_reactor/earnestreactor/core/ScheduledTask;" } : Jvm.MethodName) prog_35_method_3_code (1 : Nat) (Option.some (Jvm.ClassFile.FieldType.object "com/example/earnest_reactor/earnestreactor/core/ScheduledTask"))).before a0 Z = true := hw _ (List.mem_of_getElem? (i := 46) rfl)
theorem wd_47 {a0 : Array Value} {Z : State} (hw : ∀ d ∈ tables_1, d.before a0 Z = true) : (Jvm.Cond.methodLink "com/example/earnest_reactor/earnestreactor/core/TimerQueueIsEmptyPinLaw" (21 : Nat) ({ cls := "com/example/earnest_reactor/earnestreactor/core/TimerQueue", name := "add", desc := "(Lcom/example/earnest_reactor/earnestreactor/core/ScheduledTask;)V" } : Jvm.MethodName)).before a0 Z = true := hw _ (List.mem_of_getElem? (i := 47) rfl)
theorem wd_48 {a0 : Array Value} {Z : State} (hw : ∀ d ∈ tables_1, d.before a0 Z = true) : (Jvm.Cond.declares ({ cls := "com/example/earnest_reactor/earnestreactor/core/TimerQueue", name := "add", desc := "(Lcom/example/earnest_reactor/earnestreactor/core/ScheduledTask;)V" } : Jvm.MethodName)).before a0 Z = true := hw _ (List.mem_of_getElem? (i := 48) rfl)
theorem wd_49 {a0 : Array Value} {Z : State} (hw : ∀ d ∈ tables_1, d.before a0 Z = true) : (Jvm.Cond.instanceMethod ({ cls := "com/example/earnest_reactor/earnestreactor/core/TimerQueue", name := "add", desc := "(Lcom/example/earnest_reactor/earnestreactor/core/ScheduledTask;)V" } : Jvm.MethodName)).before a0 Z = true := hw _ (List.mem_of_getElem? (i := 49) rfl)
theorem wd_50 {a0 : Array Value} {Z : State} (hw : ∀ d ∈ tables_1, d.before a0 Z = true) : (Jvm.Cond.selects "com/example/earnest_reactor/earnestreactor/core/TimerQueue" ({ cls := "com/example/earnest_reactor/earnestreactor/core/TimerQueue", name := "add", desc := "(Lcom/example/earnest_reactor/earnestreactor/core/ScheduledTask;)V" } : Jvm.MethodName) ({ cls := "com/example/earnest_reactor/earnestreactor/core/TimerQueue", name := "add", desc := "(Lcom/example/earnest_reactor/earnestreactor/core/ScheduledTask;)V" } : Jvm.MethodName)).before a0 Z = true := hw _ (List.mem_of_getElem? (i := 50) rfl)
theorem wd_51 {a0 : Array Value} {Z : State} (hw : ∀ d ∈ tables_1, d.before a0 Z = true) : (Jvm.Cond.code ({ cls := "com/example/earnest_reactor/earnestreactor/core/TimerQueue", name := "add", desc := "(Lcom/example/earnest_reactor/earnestreactor/core/ScheduledTask;)V" } : Jvm.MethodName) prog_35_method_4_code (2 : Nat) (Option.none : Option Jvm.ClassFile.FieldType)).before a0 Z = true := hw _ (List.mem_of_getElem? (i := 51) rfl)
theorem wd_52 {a0 : Array Value} {Z : State} (hw : ∀ d ∈ tables_1, d.before a0 Z = true) : (Jvm.Cond.methodLink "com/example/earnest_reactor/earnestreactor/core/TimerQueue" (26 : Nat) ({ cls := "com/example/earnest_reactor/earnestreactor/core/TimerQueue", name := "siftUp", desc := "(ILcom/example/earnest_reactor/earnestreactor/core/ScheduledTask;)V" } : Jvm.MethodName)).before a0 Z = true := hw _ (List.mem_of_getElem? (i := 52) rfl)
theorem wd_53 {a0 : Array Value} {Z : State} (hw : ∀ d ∈ tables_1, d.before a0 Z = true) : (Jvm.Cond.instanceMethod ({ cls := "com/example/earnest_reactor/earnestreactor/core/TimerQueue", name := "siftUp", desc := "(ILcom/example/earnest_reactor/earnestreactor/core/ScheduledTask;)V" } : Jvm.MethodName)).before a0 Z = true := hw _ (List.mem_of_getElem? (i := 53) rfl)
theorem wd_54 {a0 : Array Value} {Z : State} (hw : ∀ d ∈ tables_1, d.before a0 Z = true) : (Jvm.Cond.privateMethod ({ cls := "com/example/earnest_reactor/earnestreactor/core/TimerQueue", name := "siftUp", desc := "(ILcom/example/earnest_reactor/earnestreactor/core/ScheduledTask;)V" } : Jvm.MethodName)).before a0 Z = true := hw _ (List.mem_of_getElem? (i := 54) rfl)
theorem wd_55 {a0 : Array Value} {Z : State} (hw : ∀ d ∈ tables_1, d.before a0 Z = true) : (Jvm.Cond.code ({ cls := "com/example/earnest_reactor/earnestreactor/core/TimerQueue", name := "siftUp", desc := "(ILcom/example/earnest_reactor/earnestreactor/core/ScheduledTask;)V" } : Jvm.MethodName) prog_35_method_8_code (5 : Nat) (Option.none : Option Jvm.ClassFile.FieldType)).before a0 Z = true := hw _ (List.mem_of_getElem? (i := 55) rfl)
theorem wd_56 {a0 : Array Value} {Z : State} (hw : ∀ d ∈ tables_1, d.before a0 Z = true) : (Jvm.Cond.methodLink "com/example/earnest_reactor/earnestreactor/core/TimerQueue" (47 : Nat) ({ cls := "com/example/earnest_reactor/earnestreactor/core/TimerQueue", name := "place", desc := "(ILcom/example/earnest_reactor/earnestreactor/core/ScheduledTask;)V" } : Jvm.MethodName)).before a0 Z = true := hw _ (List.mem_of_getElem? (i := 56) rfl)
theorem wd_57 {a0 : Array Value} {Z : State} (hw : ∀ d ∈ tables_1, d.before a0 Z = true) : (Jvm.Cond.instanceMethod ({ cls := "com/example/earnest_reactor/earnestreactor/core/TimerQueue", name := "place", desc := "(ILcom/example/earnest_reactor/earnestreactor/core/ScheduledTask;)V" } : Jvm.MethodName)).before a0 Z = true := hw _ (List.mem_of_getElem? (i := 57) rfl)
theorem wd_58 {a0 : Array Value} {Z : State} (hw : ∀ d ∈ tables_1, d.before a0 Z = true) : (Jvm.Cond.privateMethod ({ cls := "com/example/earnest_reactor/earnestreactor/core/TimerQueue", name := "place", desc := "(ILcom/example/earnest_reactor/earnestreactor/core/ScheduledTask;)V" } : Jvm.MethodName)).before a0 Z = true := hw _ (List.mem_of_getElem? (i := 58) rfl)
theorem wd_59 {a0 : Array Value} {Z : State} (hw : ∀ d ∈ tables_1, d.before a0 Z = true) : (Jvm.Cond.code ({ cls := "com/example/earnest_reactor/earnestreactor/core/TimerQueue", name := "place", desc := "(ILcom/example/earnest_reactor/earnestreactor/core/ScheduledTask;)V" } : Jvm.MethodName) prog_35_method_10_code (3 : Nat) (Option.none : Option Jvm.ClassFile.FieldType)).before a0 Z = true := hw _ (List.mem_of_getElem? (i := 59) rfl)
theorem wd_61 {a0 : Array Value} {Z : State} (hw : ∀ d ∈ tables_1, d.before a0 Z = true) : (Jvm.Cond.methodLink "com/example/earnest_reactor/earnestreactor/core/TimerQueue" (38 : Nat) ({ cls := "com/example/earnest_reactor/earnestreactor/core/ScheduledTask", name := "queueIndex", desc := "(I)V" } : Jvm.MethodName)).before a0 Z = true := hw _ (List.mem_of_getElem? (i := 61) rfl)
theorem wd_62 {a0 : Array Value} {Z : State} (hw : ∀ d ∈ tables_1, d.before a0 Z = true) : (Jvm.Cond.declares ({ cls := "com/example/earnest_reactor/earnestreactor/core/ScheduledTask", name := "queueIndex", desc := "(I)V" } : Jvm.MethodName)).before a0 Z = true := hw _ (List.mem_of_getElem? (i := 62) rfl)
theorem wd_63 {a0 : Array Value} {Z : State} (hw : ∀ d ∈ tables_1, d.before a0 Z = true) : (Jvm.Cond.instanceMethod ({ cls := "com/example/earnest_reactor/earnestreactor/core/ScheduledTask", name := "queueIndex", desc := "(I)V" } : Jvm.MethodName)).before a0 Z = true := hw _ (List.mem_of_getElem? (i := 63) rfl)
theorem wd_64 {a0 : Array Value} {Z : State} (hw : ∀ d ∈ tables_1, d.before a0 Z = true) : (Jvm.Cond.selects "com/example/earnest_reactor/earnestreactor/core/ScheduledTask" ({ cls := "com/example/earnest_reactor/earnestreactor/core/ScheduledTask", name := "queueIndex", desc := "(I)V" } : Jvm.MethodName) ({ cls := "com/example/earnest_reactor/earnestreactor/core/ScheduledTask", name := "queueIndex", desc := "(I)V" } : Jvm.MethodName)).before a0 Z = true := hw _ (List.mem_of_getElem? (i := 64) rfl)
theorem wd_65 {a0 : Array Value} {Z : State} (hw : ∀ d ∈ tables_1, d.before a0 Z = true) : (Jvm.Cond.code ({ cls := "com/example/earnest_reactor/earnestreactor/core/ScheduledTask", name := "queueIndex", desc := "(I)V" } : Jvm.MethodName) prog_31_method_7_code (2 : Nat) (Option.none : Option Jvm.ClassFile.FieldType)).before a0 Z = true := hw _ (List.mem_of_getElem? (i := 65) rfl)
theorem wd_66 {a0 : Array Value} {Z : State} (hw : ∀ d ∈ tables_1, d.before a0 Z = true) : (Jvm.Cond.methodLink "com/example/earnest_reactor/earnestreactor/core/TimerQueue" (43 : Nat) ({ cls := "com/example/earnest_reactor/earnestreactor/core/ScheduledTask", name := "runsBefore", desc := "(Lcom/example/earnest_reactor/earnestreactor/core/ScheduledTask;)Z" } : Jvm.MethodName)).before a0 Z = true := hw _ (List.mem_of_getElem? (i := 66) rfl)
theorem wd_67 {a0 : Array Value} {Z : State} (hw : ∀ d ∈ tables_1, d.before a0 Z = true) : (Jvm.Cond.declares ({ cls := "com/example/earnest_reactor/earnestreactor/core/ScheduledTask", name := "runsBefore", desc := "(Lcom/example/earnest_reactor/earnestreactor/core/ScheduledTask;)Z" } : Jvm.MethodName)).before a0 Z = true := hw _ (List.mem_of_getElem? (i := 67) rfl)
theorem wd_68 {a0 : Array Value} {Z : State} (hw : ∀ d ∈ tables_1, d.before a0 Z = true) : (Jvm.Cond.instanceMethod ({ cls := "com/example/earnest_reactor/earnestreactor/core/ScheduledTask", name := "runsBefore", desc := "(Lcom/example/earnest_reactor/earnestreactor/core/ScheduledTask;)Z" } : Jvm.MethodName)).before a0 Z = true := hw _ (List.mem_of_getElem? (i := 68) rfl)
theorem wd_69 {a0 : Array Value} {Z : State} (hw : ∀ d ∈ tables_1, d.before a0 Z = true) : (Jvm.Cond.selects "com/example/earnest_reactor/earnestreactor/core/ScheduledTask" ({ cls := "com/example/earnest_reactor/earnestreactor/core/ScheduledTask", name := "runsBefore", desc := "(Lcom/example/earnest_reactor/earnestreactor/core/ScheduledTask;)Z" } : Jvm.MethodName) ({ cls := "com/example/earnest_reactor/earnestreactor/core/ScheduledTask", name := "runsBefore", desc := "(Lcom/example/earnest_reactor/earnestreactor/core/ScheduledTask;)Z" } : Jvm.MethodName)).before a0 Z = true := hw _ (List.mem_of_getElem? (i := 69) rfl)
theorem wd_70 {a0 : Array Value} {Z : State} (hw : ∀ d ∈ tables_1, d.before a0 Z = true) : (Jvm.Cond.code ({ cls := "com/example/earnest_reactor/earnestreactor/core/ScheduledTask", name := "runsBefore", desc := "(Lcom/example/earnest_reactor/earnestreactor/core/ScheduledTask;)Z" } : Jvm.MethodName) prog_31_method_5_code (4 : Nat) (Option.some Jvm.ClassFile.FieldType.boolean)).before a0 Z = true := hw _ (List.mem_of_getElem? (i := 70) rfl)
theorem wd_71 {a0 : Array Value} {Z : State} (hw : ∀ d ∈ tables_1, d.before a0 Z = true) : (Jvm.Cond.methodLink "com/example/earnest_reactor/earnestreactor/core/TimerQueueIsEmptyPinLaw" (29 : Nat) ({ cls := "com/example/earnest_reactor/earnestreactor/core/TimerQueue", name := "poll", desc := "()Lcom/example/earnest_reactor/earnestreactor/core/ScheduledTask;" } : Jvm.MethodName)).before a0 Z = true := hw _ (List.mem_of_getElem? (i := 71) rfl)
theorem wd_72 {a0 : Array Value} {Z : State} (hw : ∀ d ∈ tables_1, d.before a0 Z = true) : (Jvm.Cond.declares ({ cls := "com/example/earnest_reactor/earnestreactor/core/TimerQueue", name := "poll", desc := "()Lcom/example/earnest_reactor/earnestreactor/core/ScheduledTask;" } : Jvm.MethodName)).before a0 Z = true := hw _ (List.mem_of_getElem? (i := 72) rfl)
theorem wd_73 {a0 : Array Value} {Z : State} (hw : ∀ d ∈ tables_1, d.before a0 Z = true) : (Jvm.Cond.instanceMethod ({ cls := "com/example/earnest_reactor/earnestreactor/core/TimerQueue", name := "poll", desc := "()Lcom/example/earnest_reactor/earnestreactor/core/ScheduledTask;" } : Jvm.MethodName)).before a0 Z = true := hw _ (List.mem_of_getElem? (i := 73) rfl)
theorem wd_74 {a0 : Array Value} {Z : State} (hw : ∀ d ∈ tables_1, d.before a0 Z = true) : (Jvm.Cond.selects "com/example/earnest_reactor/earnestreactor/core/TimerQueue" ({ cls := "com/example/earnest_reactor/earnestreactor/core/TimerQueue", name := "poll", desc := "()Lcom/example/earnest_reactor/earnestreactor/core/ScheduledTask;" } : Jvm.MethodName) ({ cls := "com/example/earnest_reactor/earnestreactor/core/TimerQueue", name := "poll", desc := "()Lcom/example/earnest_reactor/earnestreactor/core/ScheduledTask;" } : Jvm.MethodName)).before a0 Z = true := hw _ (List.mem_of_getElem? (i := 74) rfl)
theorem wd_75 {a0 : Array Value} {Z : State} (hw : ∀ d ∈ tables_1, d.before a0 Z = true) : (Jvm.Cond.code ({ cls := "com/example/earnest_reactor/earnestreactor/core/TimerQueue", name := "poll", desc := "()Lcom/example/earnest_reactor/earnestreactor/core/ScheduledTask;" } : Jvm.MethodName) prog_35_method_5_code (2 : Nat) (Option.some (Jvm.ClassFile.FieldType.object "com/example/earnest_reactor/earnestreactor/core/ScheduledTask"))).before a0 Z = true := hw _ (List.mem_of_getElem? (i := 75) rfl)
theorem wd_76 {a0 : Array Value} {Z : State} (hw : ∀ d ∈ tables_1, d.before a0 Z = true) : (Jvm.Cond.methodLink "com/example/earnest_reactor/earnestreactor/core/TimerQueue" (30 : Nat) ({ cls := "com/example/earnest_reactor/earnestreactor/core/TimerQueue", name := "removeAt", desc := "(I)V" } : Jvm.MethodName)).before a0 Z = true := hw _ (List.mem_of_getElem? (i := 76) rfl)
theorem wd_77 {a0 : Array Value} {Z : State} (hw : ∀ d ∈ tables_1, d.before a0 Z = true) : (Jvm.Cond.instanceMethod ({ cls := "com/example/earnest_reactor/earnestreactor/core/TimerQueue", name := "removeAt", desc := "(I)V" } : Jvm.MethodName)).before a0 Z = true := hw _ (List.mem_of_getElem? (i := 77) rfl)
theorem wd_78 {a0 : Array Value} {Z : State} (hw : ∀ d ∈ tables_1, d.before a0 Z = true) : (Jvm.Cond.privateMethod ({ cls := "com/example/earnest_reactor/earnestreactor/core/TimerQueue", name := "removeAt", desc := "(I)V" } : Jvm.MethodName)).before a0 Z = true := hw _ (List.mem_of_getElem? (i := 78) rfl)
theorem wd_79 {a0 : Array Value} {Z : State} (hw : ∀ d ∈ tables_1, d.before a0 Z = true) : (Jvm.Cond.code ({ cls := "com/example/earnest_reactor/earnestreactor/core/TimerQueue", name := "removeAt", desc := "(I)V" } : Jvm.MethodName) prog_35_method_7_code (4 : Nat) (Option.none : Option Jvm.ClassFile.FieldType)).before a0 Z = true := hw _ (List.mem_of_getElem? (i := 79) rfl)
theorem wd_80 {a0 : Array Value} {Z : State} (hw : ∀ d ∈ tables_1, d.before a0 Z = true) : (Jvm.Cond.methodLink "com/example/earnest_reactor/earnestreactor/core/TimerQueue" (40 : Nat) ({ cls := "com/example/earnest_reactor/earnestreactor/core/TimerQueue", name := "siftDown", desc := "(ILcom/example/earnest_reactor/earnestreactor/core/ScheduledTask;)V" } : Jvm.MethodName)).before a0 Z = true := hw _ (List.mem_of_getElem? (i := 80) rfl)
theorem wd_81 {a0 : Array Value} {Z : State} (hw : ∀ d ∈ tables_1, d.before a0 Z = true) : (Jvm.Cond.instanceMethod ({ cls := "com/example/earnest_reactor/earnestreactor/core/TimerQueue", name := "siftDown", desc := "(ILcom/example/earnest_reactor/earnestreactor/core/ScheduledTask;)V" } : Jvm.MethodName)).before a0 Z = true := hw _ (List.mem_of_getElem? (i := 81) rfl)
theorem wd_82 {a0 : Array Value} {Z : State} (hw : ∀ d ∈ tables_1, d.before a0 Z = true) : (Jvm.Cond.privateMethod ({ cls := "com/example/earnest_reactor/earnestreactor/core/TimerQueue", name := "siftDown", desc := "(ILcom/example/earnest_reactor/earnestreactor/core/ScheduledTask;)V" } : Jvm.MethodName)).before a0 Z = true := hw _ (List.mem_of_getElem? (i := 82) rfl)
theorem wd_83 {a0 : Array Value} {Z : State} (hw : ∀ d ∈ tables_1, d.before a0 Z = true) : (Jvm.Cond.code ({ cls := "com/example/earnest_reactor/earnestreactor/core/TimerQueue", name := "siftDown", desc := "(ILcom/example/earnest_reactor/earnestreactor/core/ScheduledTask;)V" } : Jvm.MethodName) prog_35_method_9_code (6 : Nat) (Option.none : Option Jvm.ClassFile.FieldType)).before a0 Z = true := hw _ (List.mem_of_getElem? (i := 83) rfl)
theorem wd_84 {a0 : Array Value} {Z : State} (hw : ∀ d ∈ tables_1, d.before a0 Z = true) : (Jvm.Cond.methodLink "com/example/earnest_reactor/earnestreactor/core/TimerQueueIsEmptyPinLaw" (25 : Nat) ({ cls := "com/example/earnest_reactor/earnestreactor/core/TimerQueue", name := "remove", desc := "(Lcom/example/earnest_reactor/earnestreactor/core/ScheduledTask;)Z" } : Jvm.MethodName)).before a0 Z = true := hw _ (List.mem_of_getElem? (i := 84) rfl)
theorem wd_85 {a0 : Array Value} {Z : State} (hw : ∀ d ∈ tables_1, d.before a0 Z = true) : (Jvm.Cond.declares ({ cls := "com/example/earnest_reactor/earnestreactor/core/TimerQueue", name := "remove", desc := "(Lcom/example/earnest_reactor/earnestreactor/core/ScheduledTask;)Z" } : Jvm.MethodName)).before a0 Z = true := hw _ (List.mem_of_getElem? (i := 85) rfl)
theorem wd_86 {a0 : Array Value} {Z : State} (hw : ∀ d ∈ tables_1, d.before a0 Z = true) : (Jvm.Cond.instanceMethod ({ cls := "com/example/earnest_reactor/earnestreactor/core/TimerQueue", name := "remove", desc := "(Lcom/example/earnest_reactor/earnestreactor/core/ScheduledTask;)Z" } : Jvm.MethodName)).before a0 Z = true := hw _ (List.mem_of_getElem? (i := 86) rfl)
theorem wd_87 {a0 : Array Value} {Z : State} (hw : ∀ d ∈ tables_1, d.before a0 Z = true) : (Jvm.Cond.selects "com/example/earnest_reactor/earnestreactor/core/TimerQueue" ({ cls := "com/example/earnest_reactor/earnestreactor/core/TimerQueue", name := "remove", desc := "(Lcom/example/earnest_reactor/earnestreactor/core/ScheduledTask;)Z" } : Jvm.MethodName) ({ cls := "com/example/earnest_reactor/earnestreactor/core/TimerQueue", name := "remove", desc := "(Lcom/example/earnest_reactor/earnestreactor/core/ScheduledTask;)Z" } : Jvm.MethodName)).before a0 Z = true := hw _ (List.mem_of_getElem? (i := 87) rfl)
theorem wd_88 {a0 : Array Value} {Z : State} (hw : ∀ d ∈ tables_1, d.before a0 Z = true) : (Jvm.Cond.code ({ cls := "com/example/earnest_reactor/earnestreactor/core/TimerQueue", name := "remove", desc := "(Lcom/example/earnest_reactor/earnestreactor/core/ScheduledTask;)Z" } : Jvm.MethodName) prog_35_method_6_code (3 : Nat) (Option.some Jvm.ClassFile.FieldType.boolean)).before a0 Z = true := hw _ (List.mem_of_getElem? (i := 88) rfl)
theorem wd_89 {a0 : Array Value} {Z : State} (hw : ∀ d ∈ tables_1, d.before a0 Z = true) : (Jvm.Cond.methodLink "com/example/earnest_reactor/earnestreactor/core/TimerQueue" (34 : Nat) ({ cls := "com/example/earnest_reactor/earnestreactor/core/ScheduledTask", name := "queueIndex", desc := "()I" } : Jvm.MethodName)).before a0 Z = true := hw _ (List.mem_of_getElem? (i := 89) rfl)
theorem wd_90 {a0 : Array Value} {Z : State} (hw : ∀ d ∈ tables_1, d.before a0 Z = true) : (Jvm.Cond.declares ({ cls := "com/example/earnest_reactor/earnestreactor/core/ScheduledTask", name := "queueIndex", desc := "()I" } : Jvm.MethodName)).before a0 Z = true := hw _ (List.mem_of_getElem? (i := 90) rfl)
theorem wd_91 {a0 : Array Value} {Z : State} (hw : ∀ d ∈ tables_1, d.before a0 Z = true) : (Jvm.Cond.instanceMethod ({ cls := "com/example/earnest_reactor/earnestreactor/core/ScheduledTask", name := "queueIndex", desc := "()I" } : Jvm.MethodName)).before a0 Z = true := hw _ (List.mem_of_getElem? (i := 91) rfl)
theorem wd_92 {a0 : Array Value} {Z : State} (hw : ∀ d ∈ tables_1, d.before a0 Z = true) : (Jvm.Cond.selects "com/example/earnest_reactor/earnestreactor/core/ScheduledTask" ({ cls := "com/example/earnest_reactor/earnestreactor/core/ScheduledTask", name := "queueIndex", desc := "()I" } : Jvm.MethodName) ({ cls := "com/example/earnest_reactor/earnestreactor/core/ScheduledTask", name := "queueIndex", desc := "()I" } : Jvm.MethodName)).before a0 Z = true := hw _ (List.mem_of_getElem? (i := 92) rfl)
theorem wd_93 {a0 : Array Value} {Z : State} (hw : ∀ d ∈ tables_1, d.before a0 Z = true) : (Jvm.Cond.code ({ cls := "com/example/earnest_reactor/earnestreactor/core/ScheduledTask", name := "queueIndex", desc := "()I" } : Jvm.MethodName) prog_31_method_6_code (1 : Nat) (Option.some Jvm.ClassFile.FieldType.int)).before a0 Z = true := hw _ (List.mem_of_getElem? (i := 93) rfl)
theorem d1_0 : decode prog_35_method_1_code 0 = .ok (.aload_n 0, 1) := by decide +kernel
theorem d1_1 : decode prog_35_method_1_code 1 = .ok (.invokespecial 1, 3) := by decide +kernel
theorem d1_4 : decode prog_35_method_1_code 4 = .ok (.aload_n 0, 1) := by decide +kernel
theorem d1_5 : decode prog_35_method_1_code 5 = .ok (.bipush 16, 2) := by decide +kernel
theorem d1_7 : decode prog_35_method_1_code 7 = .ok (.anewarray 9, 3) := by decide +kernel
theorem d1_10 : decode prog_35_method_1_code 10 = .ok (.putfield 11, 3) := by decide +kernel
theorem d1_13 : decode prog_35_method_1_code 13 = .ok (.return_, 1) := by decide +kernel
theorem d3_0 : decode prog_31_method_1_code 0 = .ok (.aload_n 0, 1) := by decide +kernel
theorem d3_1 : decode prog_31_method_1_code 1 = .ok (.invokespecial 1, 3) := by decide +kernel
theorem d3_4 : decode prog_31_method_1_code 4 = .ok (.aload_n 0, 1) := by decide +kernel
theorem d3_5 : decode prog_31_method_1_code 5 = .ok (.iconst (-1), 1) := by decide +kernel
theorem d3_6 : decode prog_31_method_1_code 6 = .ok (.putfield 7, 3) := by decide +kernel
theorem d3_9 : decode prog_31_method_1_code 9 = .ok (.aload_n 0, 1) := by decide +kernel
theorem d3_10 : decode prog_31_method_1_code 10 = .ok (.aload_n 1, 1) := by decide +kernel
theorem d3_11 : decode prog_31_method_1_code 11 = .ok (.putfield 13, 3) := by decide +kernel
theorem d3_14 : decode prog_31_method_1_code 14 = .ok (.aload_n 0, 1) := by decide +kernel
theorem d3_15 : decode prog_31_method_1_code 15 = .ok (.lload_n 2, 1) := by decide +kernel
theorem d3_16 : decode prog_31_method_1_code 16 = .ok (.putfield 17, 3) := by decide +kernel
theorem d3_19 : decode prog_31_method_1_code 19 = .ok (.aload_n 0, 1) := by decide +kernel
theorem d3_20 : decode prog_31_method_1_code 20 = .ok (.lload 4, 2) := by decide +kernel
theorem d3_22 : decode prog_31_method_1_code 22 = .ok (.putfield 21, 3) := by decide +kernel
theorem d3_25 : decode prog_31_method_1_code 25 = .ok (.aload_n 0, 1) := by decide +kernel
theorem d3_26 : decode prog_31_method_1_code 26 = .ok (.aload 6, 2) := by decide +kernel
theorem d3_28 : decode prog_31_method_1_code 28 = .ok (.putfield 24, 3) := by decide +kernel
theorem d3_31 : decode prog_31_method_1_code 31 = .ok (.return_, 1) := by decide +kernel
theorem d4_0 : decode prog_35_method_2_code 0 = .ok (.aload_n 0, 1) := by decide +kernel
theorem d4_1 : decode prog_35_method_2_code 1 = .ok (.getfield 15, 3) := by decide +kernel
theorem d4_4 : decode prog_35_method_2_code 4 = .ok (.ifCond .ne 7, 3) := by decide +kernel
theorem d4_7 : decode prog_35_method_2_code 7 = .ok (.iconst 1, 1) := by decide +kernel
theorem d4_8 : decode prog_35_method_2_code 8 = .ok (.goto 4, 3) := by decide +kernel
theorem d4_11 : decode prog_35_method_2_code 11 = .ok (.iconst 0, 1) := by decide +kernel
theorem d4_12 : decode prog_35_method_2_code 12 = .ok (.ireturn, 1) := by decide +kernel
theorem d5_0 : decode jdk_29_method_65_code 0 = .ok (.iload_n 0, 1) := by decide +kernel
theorem d5_1 : decode jdk_29_method_65_code 1 = .ok (.iload_n 1, 1) := by decide +kernel
theorem d5_2 : decode jdk_29_method_65_code 2 = .ok (.if_icmp .lt 7, 3) := by decide +kernel
theorem d5_5 : decode jdk_29_method_65_code 5 = .ok (.iload_n 0, 1) := by decide +kernel
theorem d5_6 : decode jdk_29_method_65_code 6 = .ok (.goto 4, 3) := by decide +kernel
theorem d5_9 : decode jdk_29_method_65_code 9 = .ok (.iload_n 1, 1) := by decide +kernel
theorem d5_10 : decode jdk_29_method_65_code 10 = .ok (.ireturn, 1) := by decide +kernel
theorem d6_0 : decode prog_35_method_3_code 0 = .ok (.aload_n 0, 1) := by decide +kernel
theorem d6_1 : decode prog_35_method_3_code 1 = .ok (.getfield 11, 3) := by decide +kernel
theorem d6_4 : decode prog_35_method_3_code 4 = .ok (.iconst 0, 1) := by decide +kernel
theorem d6_5 : decode prog_35_method_3_code 5 = .ok (.aaload, 1) := by decide +kernel
theorem d6_6 : decode prog_35_method_3_code 6 = .ok (.areturn, 1) := by decide +kernel
theorem d7_0 : decode prog_35_method_4_code 0 = .ok (.aload_n 0, 1) := by decide +kernel
theorem d7_1 : decode prog_35_method_4_code 1 = .ok (.getfield 15, 3) := by decide +kernel
theorem d7_4 : decode prog_35_method_4_code 4 = .ok (.aload_n 0, 1) := by decide +kernel
theorem d7_5 : decode prog_35_method_4_code 5 = .ok (.getfield 11, 3) := by decide +kernel
theorem d7_8 : decode prog_35_method_4_code 8 = .ok (.arraylength, 1) := by decide +kernel
theorem d7_9 : decode prog_35_method_4_code 9 = .ok (.if_icmp .ne 23, 3) := by decide +kernel
theorem d7_32 : decode prog_35_method_4_code 32 = .ok (.aload_n 0, 1) := by decide +kernel
theorem d7_33 : decode prog_35_method_4_code 33 = .ok (.dup, 1) := by decide +kernel
theorem d7_34 : decode prog_35_method_4_code 34 = .ok (.getfield 15, 3) := by decide +kernel
theorem d7_37 : decode prog_35_method_4_code 37 = .ok (.iconst 1, 1) := by decide +kernel
theorem d7_38 : decode prog_35_method_4_code 38 = .ok (.iadd, 1) := by decide +kernel
theorem d7_39 : decode prog_35_method_4_code 39 = .ok (.putfield 15, 3) := by decide +kernel
theorem d7_42 : decode prog_35_method_4_code 42 = .ok (.aload_n 0, 1) := by decide +kernel
theorem d7_43 : decode prog_35_method_4_code 43 = .ok (.aload_n 0, 1) := by decide +kernel
theorem d7_44 : decode prog_35_method_4_code 44 = .ok (.getfield 15, 3) := by decide +kernel
theorem d7_47 : decode prog_35_method_4_code 47 = .ok (.iconst 1, 1) := by decide +kernel
theorem d7_48 : decode prog_35_method_4_code 48 = .ok (.isub, 1) := by decide +kernel
theorem d7_49 : decode prog_35_method_4_code 49 = .ok (.aload_n 1, 1) := by decide +kernel
theorem d7_50 : decode prog_35_method_4_code 50 = .ok (.invokevirtual 26, 3) := by decide +kernel
theorem d7_53 : decode prog_35_method_4_code 53 = .ok (.return_, 1) := by decide +kernel
theorem d8_0 : decode prog_35_method_8_code 0 = .ok (.iload_n 1, 1) := by decide +kernel
theorem d8_1 : decode prog_35_method_8_code 1 = .ok (.istore_n 3, 1) := by decide +kernel
theorem d8_2 : decode prog_35_method_8_code 2 = .ok (.iload_n 3, 1) := by decide +kernel
theorem d8_3 : decode prog_35_method_8_code 3 = .ok (.ifCond .le 45, 3) := by decide +kernel
theorem d8_6 : decode prog_35_method_8_code 6 = .ok (.iload_n 3, 1) := by decide +kernel
theorem d8_7 : decode prog_35_method_8_code 7 = .ok (.iconst 1, 1) := by decide +kernel
theorem d8_8 : decode prog_35_method_8_code 8 = .ok (.isub, 1) := by decide +kernel
theorem d8_9 : decode prog_35_method_8_code 9 = .ok (.iconst 2, 1) := by decide +kernel
theorem d8_10 : decode prog_35_method_8_code 10 = .ok (.idiv, 1) := by decide +kernel
theorem d8_11 : decode prog_35_method_8_code 11 = .ok (.istore 4, 2) := by decide +kernel
theorem d8_13 : decode prog_35_method_8_code 13 = .ok (.aload_n 2, 1) := by decide +kernel
theorem d8_14 : decode prog_35_method_8_code 14 = .ok (.aload_n 0, 1) := by decide +kernel
theorem d8_15 : decode prog_35_method_8_code 15 = .ok (.getfield 11, 3) := by decide +kernel
theorem d8_18 : decode prog_35_method_8_code 18 = .ok (.iload 4, 2) := by decide +kernel
theorem d8_20 : decode prog_35_method_8_code 20 = .ok (.aaload, 1) := by decide +kernel
theorem d8_21 : decode prog_35_method_8_code 21 = .ok (.invokevirtual 43, 3) := by decide +kernel
theorem d8_24 : decode prog_35_method_8_code 24 = .ok (.ifCond .ne 6, 3) := by decide +kernel
theorem d8_27 : decode prog_35_method_8_code 27 = .ok (.goto 21, 3) := by decide +kernel
theorem d8_30 : decode prog_35_method_8_code 30 = .ok (.aload_n 0, 1) := by decide +kernel
theorem d8_31 : decode prog_35_method_8_code 31 = .ok (.iload_n 3, 1) := by decide +kernel
theorem d8_32 : decode prog_35_method_8_code 32 = .ok (.aload_n 0, 1) := by decide +kernel
theorem d8_33 : decode prog_35_method_8_code 33 = .ok (.getfield 11, 3) := by decide +kernel
theorem d8_36 : decode prog_35_method_8_code 36 = .ok (.iload 4, 2) := by decide +kernel
theorem d8_38 : decode prog_35_method_8_code 38 = .ok (.aaload, 1) := by decide +kernel
theorem d8_39 : decode prog_35_method_8_code 39 = .ok (.invokevirtual 47, 3) := by decide +kernel
theorem d8_42 : decode prog_35_method_8_code 42 = .ok (.iload 4, 2) := by decide +kernel
theorem d8_44 : decode prog_35_method_8_code 44 = .ok (.istore_n 3, 1) := by decide +kernel
theorem d8_45 : decode prog_35_method_8_code 45 = .ok (.goto (-43), 3) := by decide +kernel
theorem d8_48 : decode prog_35_method_8_code 48 = .ok (.aload_n 0, 1) := by decide +kernel
theorem d8_49 : decode prog_35_method_8_code 49 = .ok (.iload_n 3, 1) := by decide +kernel
theorem d8_50 : decode prog_35_method_8_code 50 = .ok (.aload_n 2, 1) := by decide +kernel
theorem d8_51 : decode prog_35_method_8_code 51 = .ok (.invokevirtual 47, 3) := by decide +kernel
theorem d8_54 : decode prog_35_method_8_code 54 = .ok (.return_, 1) := by decide +kernel
theorem d9_0 : decode prog_35_method_10_code 0 = .ok (.aload_n 0, 1) := by decide +kernel
theorem d9_1 : decode prog_35_method_10_code 1 = .ok (.getfield 11, 3) := by decide +kernel
theorem d9_4 : decode prog_35_method_10_code 4 = .ok (.iload_n 1, 1) := by decide +kernel
theorem d9_5 : decode prog_35_method_10_code 5 = .ok (.aload_n 2, 1) := by decide +kernel
theorem d9_6 : decode prog_35_method_10_code 6 = .ok (.aastore, 1) := by decide +kernel
theorem d9_7 : decode prog_35_method_10_code 7 = .ok (.aload_n 2, 1) := by decide +kernel
theorem d9_8 : decode prog_35_method_10_code 8 = .ok (.iload_n 1, 1) := by decide +kernel
theorem d9_9 : decode prog_35_method_10_code 9 = .ok (.invokevirtual 38, 3) := by decide +kernel
theorem d9_12 : decode prog_35_method_10_code 12 = .ok (.return_, 1) := by decide +kernel
theorem d10_0 : decode prog_31_method_7_code 0 = .ok (.aload_n 0, 1) := by decide +kernel
theorem d10_1 : decode prog_31_method_7_code 1 = .ok (.iload_n 1, 1) := by decide +kernel
theorem d10_2 : decode prog_31_method_7_code 2 = .ok (.putfield 7, 3) := by decide +kernel
theorem d10_5 : decode prog_31_method_7_code 5 = .ok (.return_, 1) := by decide +kernel
theorem d11_0 : decode prog_31_method_5_code 0 = .ok (.aload_n 0, 1) := by decide +kernel
theorem d11_1 : decode prog_31_method_5_code 1 = .ok (.getfield 17, 3) := by decide +kernel
theorem d11_4 : decode prog_31_method_5_code 4 = .ok (.aload_n 1, 1) := by decide +kernel
theorem d11_5 : decode prog_31_method_5_code 5 = .ok (.getfield 17, 3) := by decide +kernel
theorem d11_8 : decode prog_31_method_5_code 8 = .ok (.lsub, 1) := by decide +kernel
theorem d11_9 : decode prog_31_method_5_code 9 = .ok (.lstore_n 2, 1) := by decide +kernel
theorem d11_10 : decode prog_31_method_5_code 10 = .ok (.lload_n 2, 1) := by decide +kernel
theorem d11_11 : decode prog_31_method_5_code 11 = .ok (.lconst 0, 1) := by decide +kernel
theorem d11_12 : decode prog_31_method_5_code 12 = .ok (.lcmp, 1) := by decide +kernel
theorem d11_13 : decode prog_31_method_5_code 13 = .ok (.ifCond .lt 21, 3) := by decide +kernel
theorem d11_16 : decode prog_31_method_5_code 16 = .ok (.lload_n 2, 1) := by decide +kernel
theorem d11_17 : decode prog_31_method_5_code 17 = .ok (.lconst 0, 1) := by decide +kernel
theorem d11_18 : decode prog_31_method_5_code 18 = .ok (.lcmp, 1) := by decide +kernel
theorem d11_19 : decode prog_31_method_5_code 19 = .ok (.ifCond .ne 19, 3) := by decide +kernel
theorem d11_22 : decode prog_31_method_5_code 22 = .ok (.aload_n 0, 1) := by decide +kernel
theorem d11_23 : decode prog_31_method_5_code 23 = .ok (.getfield 21, 3) := by decide +kernel
theorem d11_26 : decode prog_31_method_5_code 26 = .ok (.aload_n 1, 1) := by decide +kernel
theorem d11_27 : decode prog_31_method_5_code 27 = .ok (.getfield 21, 3) := by decide +kernel
theorem d11_30 : decode prog_31_method_5_code 30 = .ok (.lcmp, 1) := by decide +kernel
theorem d11_31 : decode prog_31_method_5_code 31 = .ok (.ifCond .ge 7, 3) := by decide +kernel
theorem d11_34 : decode prog_31_method_5_code 34 = .ok (.iconst 1, 1) := by decide +kernel
theorem d11_35 : decode prog_31_method_5_code 35 = .ok (.goto 4, 3) := by decide +kernel
theorem d11_38 : decode prog_31_method_5_code 38 = .ok (.iconst 0, 1) := by decide +kernel
theorem d11_39 : decode prog_31_method_5_code 39 = .ok (.ireturn, 1) := by decide +kernel
theorem d12_0 : decode prog_35_method_5_code 0 = .ok (.aload_n 0, 1) := by decide +kernel
theorem d12_1 : decode prog_35_method_5_code 1 = .ok (.getfield 11, 3) := by decide +kernel
theorem d12_4 : decode prog_35_method_5_code 4 = .ok (.iconst 0, 1) := by decide +kernel
theorem d12_5 : decode prog_35_method_5_code 5 = .ok (.aaload, 1) := by decide +kernel
theorem d12_6 : decode prog_35_method_5_code 6 = .ok (.astore_n 1, 1) := by decide +kernel
theorem d12_7 : decode prog_35_method_5_code 7 = .ok (.aload_n 1, 1) := by decide +kernel
theorem d12_8 : decode prog_35_method_5_code 8 = .ok (.ifnull 8, 3) := by decide +kernel
theorem d12_11 : decode prog_35_method_5_code 11 = .ok (.aload_n 0, 1) := by decide +kernel
theorem d12_12 : decode prog_35_method_5_code 12 = .ok (.iconst 0, 1) := by decide +kernel
theorem d12_13 : decode prog_35_method_5_code 13 = .ok (.invokevirtual 30, 3) := by decide +kernel
theorem d12_16 : decode prog_35_method_5_code 16 = .ok (.aload_n 1, 1) := by decide +kernel
theorem d12_17 : decode prog_35_method_5_code 17 = .ok (.areturn, 1) := by decide +kernel
theorem d13_0 : decode prog_35_method_7_code 0 = .ok (.aload_n 0, 1) := by decide +kernel
theorem d13_1 : decode prog_35_method_7_code 1 = .ok (.getfield 11, 3) := by decide +kernel
theorem d13_4 : decode prog_35_method_7_code 4 = .ok (.iload_n 1, 1) := by decide +kernel
theorem d13_5 : decode prog_35_method_7_code 5 = .ok (.aaload, 1) := by decide +kernel
theorem d13_6 : decode prog_35_method_7_code 6 = .ok (.astore_n 2, 1) := by decide +kernel
theorem d13_7 : decode prog_35_method_7_code 7 = .ok (.aload_n 0, 1) := by decide +kernel
theorem d13_8 : decode prog_35_method_7_code 8 = .ok (.dup, 1) := by decide +kernel
theorem d13_9 : decode prog_35_method_7_code 9 = .ok (.getfield 15, 3) := by decide +kernel
theorem d13_12 : decode prog_35_method_7_code 12 = .ok (.iconst 1, 1) := by decide +kernel
theorem d13_13 : decode prog_35_method_7_code 13 = .ok (.isub, 1) := by decide +kernel
theorem d13_14 : decode prog_35_method_7_code 14 = .ok (.putfield 15, 3) := by decide +kernel
theorem d13_17 : decode prog_35_method_7_code 17 = .ok (.aload_n 0, 1) := by decide +kernel
theorem d13_18 : decode prog_35_method_7_code 18 = .ok (.getfield 11, 3) := by decide +kernel
theorem d13_21 : decode prog_35_method_7_code 21 = .ok (.aload_n 0, 1) := by decide +kernel
theorem d13_22 : decode prog_35_method_7_code 22 = .ok (.getfield 15, 3) := by decide +kernel
theorem d13_25 : decode prog_35_method_7_code 25 = .ok (.aaload, 1) := by decide +kernel
theorem d13_26 : decode prog_35_method_7_code 26 = .ok (.astore_n 3, 1) := by decide +kernel
theorem d13_27 : decode prog_35_method_7_code 27 = .ok (.aload_n 0, 1) := by decide +kernel
theorem d13_28 : decode prog_35_method_7_code 28 = .ok (.getfield 11, 3) := by decide +kernel
theorem d13_31 : decode prog_35_method_7_code 31 = .ok (.aload_n 0, 1) := by decide +kernel
theorem d13_32 : decode prog_35_method_7_code 32 = .ok (.getfield 15, 3) := by decide +kernel
theorem d13_35 : decode prog_35_method_7_code 35 = .ok (.aconst_null, 1) := by decide +kernel
theorem d13_36 : decode prog_35_method_7_code 36 = .ok (.aastore, 1) := by decide +kernel
theorem d13_37 : decode prog_35_method_7_code 37 = .ok (.aload_n 2, 1) := by decide +kernel
theorem d13_38 : decode prog_35_method_7_code 38 = .ok (.iconst (-1), 1) := by decide +kernel
theorem d13_39 : decode prog_35_method_7_code 39 = .ok (.invokevirtual 38, 3) := by decide +kernel
theorem d13_42 : decode prog_35_method_7_code 42 = .ok (.iload_n 1, 1) := by decide +kernel
theorem d13_43 : decode prog_35_method_7_code 43 = .ok (.aload_n 0, 1) := by decide +kernel
theorem d13_44 : decode prog_35_method_7_code 44 = .ok (.getfield 15, 3) := by decide +kernel
theorem d13_47 : decode prog_35_method_7_code 47 = .ok (.if_icmp .ge 25, 3) := by decide +kernel
theorem d13_50 : decode prog_35_method_7_code 50 = .ok (.aload_n 0, 1) := by decide +kernel
theorem d13_51 : decode prog_35_method_7_code 51 = .ok (.iload_n 1, 1) := by decide +kernel
theorem d13_52 : decode prog_35_method_7_code 52 = .ok (.aload_n 3, 1) := by decide +kernel
theorem d13_53 : decode prog_35_method_7_code 53 = .ok (.invokevirtual 40, 3) := by decide +kernel
theorem d13_56 : decode prog_35_method_7_code 56 = .ok (.aload_n 0, 1) := by decide +kernel
theorem d13_57 : decode prog_35_method_7_code 57 = .ok (.getfield 11, 3) := by decide +kernel
theorem d13_60 : decode prog_35_method_7_code 60 = .ok (.iload_n 1, 1) := by decide +kernel
theorem d13_61 : decode prog_35_method_7_code 61 = .ok (.aaload, 1) := by decide +kernel
theorem d13_62 : decode prog_35_method_7_code 62 = .ok (.aload_n 3, 1) := by decide +kernel
theorem d13_63 : decode prog_35_method_7_code 63 = .ok (.if_acmp .ne 9, 3) := by decide +kernel
theorem d13_66 : decode prog_35_method_7_code 66 = .ok (.aload_n 0, 1) := by decide +kernel
theorem d13_67 : decode prog_35_method_7_code 67 = .ok (.iload_n 1, 1) := by decide +kernel
theorem d13_68 : decode prog_35_method_7_code 68 = .ok (.aload_n 3, 1) := by decide +kernel
theorem d13_69 : decode prog_35_method_7_code 69 = .ok (.invokevirtual 26, 3) := by decide +kernel
theorem d13_72 : decode prog_35_method_7_code 72 = .ok (.return_, 1) := by decide +kernel
theorem d14_0 : decode prog_35_method_9_code 0 = .ok (.iload_n 1, 1) := by decide +kernel
theorem d14_1 : decode prog_35_method_9_code 1 = .ok (.istore_n 3, 1) := by decide +kernel
theorem d14_2 : decode prog_35_method_9_code 2 = .ok (.aload_n 0, 1) := by decide +kernel
theorem d14_3 : decode prog_35_method_9_code 3 = .ok (.getfield 15, 3) := by decide +kernel
theorem d14_6 : decode prog_35_method_9_code 6 = .ok (.iconst 2, 1) := by decide +kernel
theorem d14_7 : decode prog_35_method_9_code 7 = .ok (.idiv, 1) := by decide +kernel
theorem d14_8 : decode prog_35_method_9_code 8 = .ok (.istore 4, 2) := by decide +kernel
theorem d14_10 : decode prog_35_method_9_code 10 = .ok (.iload_n 3, 1) := by decide +kernel
theorem d14_11 : decode prog_35_method_9_code 11 = .ok (.iload 4, 2) := by decide +kernel
theorem d14_13 : decode prog_35_method_9_code 13 = .ok (.if_icmp .ge 81, 3) := by decide +kernel
theorem d14_16 : decode prog_35_method_9_code 16 = .ok (.iconst 2, 1) := by decide +kernel
theorem d14_17 : decode prog_35_method_9_code 17 = .ok (.iload_n 3, 1) := by decide +kernel
theorem d14_18 : decode prog_35_method_9_code 18 = .ok (.imul, 1) := by decide +kernel
theorem d14_19 : decode prog_35_method_9_code 19 = .ok (.iconst 1, 1) := by decide +kernel
theorem d14_20 : decode prog_35_method_9_code 20 = .ok (.iadd, 1) := by decide +kernel
theorem d14_21 : decode prog_35_method_9_code 21 = .ok (.istore 5, 2) := by decide +kernel
theorem d14_23 : decode prog_35_method_9_code 23 = .ok (.iload 5, 2) := by decide +kernel
theorem d14_25 : decode prog_35_method_9_code 25 = .ok (.iconst 1, 1) := by decide +kernel
theorem d14_26 : decode prog_35_method_9_code 26 = .ok (.iadd, 1) := by decide +kernel
theorem d14_27 : decode prog_35_method_9_code 27 = .ok (.aload_n 0, 1) := by decide +kernel
theorem d14_28 : decode prog_35_method_9_code 28 = .ok (.getfield 15, 3) := by decide +kernel
theorem d14_31 : decode prog_35_method_9_code 31 = .ok (.if_icmp .ge 28, 3) := by decide +kernel
theorem d14_59 : decode prog_35_method_9_code 59 = .ok (.aload_n 0, 1) := by decide +kernel
theorem d14_60 : decode prog_35_method_9_code 60 = .ok (.getfield 11, 3) := by decide +kernel
theorem d14_63 : decode prog_35_method_9_code 63 = .ok (.iload 5, 2) := by decide +kernel
theorem d14_65 : decode prog_35_method_9_code 65 = .ok (.aaload, 1) := by decide +kernel
theorem d14_66 : decode prog_35_method_9_code 66 = .ok (.aload_n 2, 1) := by decide +kernel
theorem d14_67 : decode prog_35_method_9_code 67 = .ok (.invokevirtual 43, 3) := by decide +kernel
theorem d14_70 : decode prog_35_method_9_code 70 = .ok (.ifCond .ne 6, 3) := by decide +kernel
theorem d14_73 : decode prog_35_method_9_code 73 = .ok (.goto 21, 3) := by decide +kernel
theorem d14_76 : decode prog_35_method_9_code 76 = .ok (.aload_n 0, 1) := by decide +kernel
theorem d14_77 : decode prog_35_method_9_code 77 = .ok (.iload_n 3, 1) := by decide +kernel
theorem d14_78 : decode prog_35_method_9_code 78 = .ok (.aload_n 0, 1) := by decide +kernel
theorem d14_79 : decode prog_35_method_9_code 79 = .ok (.getfield 11, 3) := by decide +kernel
theorem d14_82 : decode prog_35_method_9_code 82 = .ok (.iload 5, 2) := by decide +kernel
theorem d14_84 : decode prog_35_method_9_code 84 = .ok (.aaload, 1) := by decide +kernel
theorem d14_85 : decode prog_35_method_9_code 85 = .ok (.invokevirtual 47, 3) := by decide +kernel
theorem d14_88 : decode prog_35_method_9_code 88 = .ok (.iload 5, 2) := by decide +kernel
theorem d14_90 : decode prog_35_method_9_code 90 = .ok (.istore_n 3, 1) := by decide +kernel
theorem d14_91 : decode prog_35_method_9_code 91 = .ok (.goto (-81), 3) := by decide +kernel
theorem d14_94 : decode prog_35_method_9_code 94 = .ok (.aload_n 0, 1) := by decide +kernel
theorem d14_95 : decode prog_35_method_9_code 95 = .ok (.iload_n 3, 1) := by decide +kernel
theorem d14_96 : decode prog_35_method_9_code 96 = .ok (.aload_n 2, 1) := by decide +kernel
theorem d14_97 : decode prog_35_method_9_code 97 = .ok (.invokevirtual 47, 3) := by decide +kernel
theorem d14_100 : decode prog_35_method_9_code 100 = .ok (.return_, 1) := by decide +kernel
theorem d15_0 : decode prog_35_method_6_code 0 = .ok (.aload_n 1, 1) := by decide +kernel
theorem d15_1 : decode prog_35_method_6_code 1 = .ok (.invokevirtual 34, 3) := by decide +kernel
theorem d15_4 : decode prog_35_method_6_code 4 = .ok (.istore_n 2, 1) := by decide +kernel
theorem d15_5 : decode prog_35_method_6_code 5 = .ok (.iload_n 2, 1) := by decide +kernel
theorem d15_6 : decode prog_35_method_6_code 6 = .ok (.ifCond .ge 5, 3) := by decide +kernel
theorem d15_9 : decode prog_35_method_6_code 9 = .ok (.iconst 0, 1) := by decide +kernel
theorem d15_10 : decode prog_35_method_6_code 10 = .ok (.ireturn, 1) := by decide +kernel
theorem d15_11 : decode prog_35_method_6_code 11 = .ok (.aload_n 0, 1) := by decide +kernel
theorem d15_12 : decode prog_35_method_6_code 12 = .ok (.iload_n 2, 1) := by decide +kernel
theorem d15_13 : decode prog_35_method_6_code 13 = .ok (.invokevirtual 30, 3) := by decide +kernel
theorem d15_16 : decode prog_35_method_6_code 16 = .ok (.iconst 1, 1) := by decide +kernel
theorem d15_17 : decode prog_35_method_6_code 17 = .ok (.ireturn, 1) := by decide +kernel
theorem d16_0 : decode prog_31_method_6_code 0 = .ok (.aload_n 0, 1) := by decide +kernel
theorem d16_1 : decode prog_31_method_6_code 1 = .ok (.getfield 7, 3) := by decide +kernel
theorem d16_4 : decode prog_31_method_6_code 4 = .ok (.ireturn, 1) := by decide +kernel
theorem own_pn0 : plainName "com/example/earnest_reactor/earnestreactor/core/ScheduledTask" = true := by first | (simp [plainName, overriddenIn]; done) | decide +kernel
theorem own_pn1 : plainName "com/example/earnest_reactor/earnestreactor/core/TimerQueue" = true := by first | (simp [plainName, overriddenIn]; done) | decide +kernel
theorem own_pd2 : parseMethodDescriptor "(I)V" = some ⟨[.int], none⟩ := by decide +kernel
theorem own_pd3 : parseMethodDescriptor "(ILcom/example/earnest_reactor/earnestreactor/core/ScheduledTask;)V" = some ⟨[.int, (.object "com/example/earnest_reactor/earnestreactor/core/ScheduledTask")], none⟩ := by decide +kernel
theorem own_pd4 : parseMethodDescriptor "(Lcom/example/earnest_reactor/earnestreactor/core/ScheduledTask;)Z" = some ⟨[(.object "com/example/earnest_reactor/earnestreactor/core/ScheduledTask")], some .boolean⟩ := by decide +kernel
theorem own_pd5 : parseMethodDescriptor "()I" = some ⟨[], some .int⟩ := by decide +kernel
theorem own_pd6 : parseMethodDescriptor "(II)I" = some ⟨[.int, .int], some .int⟩ := by decide +kernel
theorem own_pd7 : parseMethodDescriptor "()Z" = some ⟨[], some .boolean⟩ := by decide +kernel
theorem own_pd8 : parseMethodDescriptor "()Lcom/example/earnest_reactor/earnestreactor/core/ScheduledTask;" = some ⟨[], some (.object "com/example/earnest_reactor/earnestreactor/core/ScheduledTask")⟩ := by decide +kernel
theorem own_pd9 : parseMethodDescriptor "(Lcom/example/earnest_reactor/earnestreactor/core/ScheduledTask;)V" = some ⟨[(.object "com/example/earnest_reactor/earnestreactor/core/ScheduledTask")], none⟩ := by decide +kernel
theorem own_pd10 : parseMethodDescriptor "()V" = some ⟨[], none⟩ := by decide +kernel
theorem own_pd11 : parseMethodDescriptor "(Lcom/example/earnest_reactor/earnestreactor/core/EventLoop;JJLjava/lang/Runnable;)V" = some ⟨[(.object "com/example/earnest_reactor/earnestreactor/core/EventLoop"), .long, .long, (.object "java/lang/Runnable")], none⟩ := by decide +kernel
theorem own_pn12 : plainName "com/example/earnest_reactor/earnestreactor/core/TimerQueueIsEmptyPinLaw" = true := by first | (simp [plainName, overriddenIn]; done) | decide +kernel
set_option maxRecDepth 65536 in
theorem own_lk0 {p : Program} {l : Launch} {e : Env} {R : Room} {s : State} {m : MethodId} {args : Array Value} {below : List Frame} {meth : Method} {c : Code} {T : State} {locs : List Loc} {cells slots : Nat} {F : Option Value → State → Prop} {bs : ByteArray} {pc pc' : Nat} {Ls : Array Slot} {Z : State} {a0 : Array Value} {h : Heap} {x0 : Value} {b : Addr} {rest : List Value} {W : Nat} {rm : Room} {Q : Option Value → Heap → List Loc → Prop} (hw : ∀ d ∈ tables_1, d.before a0 Z = true) (X : Stand p l e R s m args below meth c T locs cells slots) (hx : p.tables.exec = Jvm.exec) (hZ : Z.Warmed39 s.vm) (hby : c.code = bs) (hsz : Ls.size = c.maxLocals) (hown : s.vm.findClass "com/example/earnest_reactor/earnestreactor/core/TimerQueue" = some m.cls) (hd : decode bs pc = .ok (.invokevirtual 38, 3)) (hp : pc + 3 = pc') (eT : T.heap = h) (E : Exa Z h b "com/example/earnest_reactor/earnestreactor/core/ScheduledTask") (hW : (rest.map fun v => v.category).sum ≤ W)
    (hM : MetFree l (⟨"com/example/earnest_reactor/earnestreactor/core/ScheduledTask", "queueIndex", "(I)V"⟩ : MethodName) (head1 [(Cond.code (⟨"com/example/earnest_reactor/earnestreactor/core/ScheduledTask", "queueIndex", "(I)V"⟩ : MethodName) prog_31_method_7_code 2 none)] rm) (fun aa U => aa = #[.ref b, x0] ∧ Z.Warmed39 U.vm ∧ U.heap = h) (fun _ _ _ _ _ => True) (fun _ U o U' => ∃ v L, o = .returned v ∧ Q v U'.heap L ∧ FrameEnd U o U' L rm.cells rm.slots)) (hf : rm.frames + 1 ≤ R.frames) (hl : W + (2 + 11) + rm.locals ≤ R.locals) (hc : cells + rm.cells ≤ R.cells) (hs : slots + rm.slots ≤ R.slots)
    (k : ∀ v T' L', Stand p l e R s m args below meth c T' (locs ++ L') (cells + rm.cells) (slots + rm.slots) → Q v T'.heap L' → own_End p e below F (T'.setTop (mkF m pc' Ls (v.toList ++ rest)))) : own_End p e below F (T.setTop (mkF m pc Ls (x0 :: .ref b :: rest))) := by
  subst hp
  obtain ⟨cq, kq, q1, q2, q3⟩ := isOf hZ eT E
  obtain ⟨v, _, ⟨T', L0, k0, n0⟩, -, X', ⟨L', hQ, e1, e2, e3⟩, stp⟩ := X.virtualBack hx (y := (⟨"com/example/earnest_reactor/earnestreactor/core/ScheduledTask", "queueIndex", "(I)V"⟩ : MethodName)) (z := (⟨"com/example/earnest_reactor/earnestreactor/core/ScheduledTask", "queueIndex", "(I)V"⟩ : MethodName)) hown (mvT hZ (wd_61 hw)) (mvT hZ (wd_62 hw)) (notFace_of_selects (args := #[]) (mvT hZ (wd_64 hw))) (mvT hZ (wd_64 hw)) (mvT hZ (wd_63 hw)) (by decide) (backOf (W := W) hM hZ (wd_65 hw) (wd_15 hw) hf hl) q1 q3 (g := mkF m pc Ls (x0 :: .ref b :: rest)) rfl hsz (Steps.refl _) (argsL := [x0]) (rest := rest) (lenOf own_pd2 rfl) rfl (by show 2 * 0 + _ ≤ _; omega) (hb hby hd) (fun _ _ => ⟨rfl, eT, hc, hs⟩)
  dsimp only [Pt.U, Pt.locs, Pt.cells, Pt.slots] at X' e1 e2 e3 stp hQ
  subst e1 e2 e3
  exact own_trans stp (k v T' L' X' hQ)
set_option maxRecDepth 65536 in
theorem own_lk1 {p : Program} {l : Launch} {e : Env} {R : Room} {s : State} {m : MethodId} {args : Array Value} {below : List Frame} {meth : Method} {c : Code} {T : State} {locs : List Loc} {cells slots : Nat} {F : Option Value → State → Prop} {bs : ByteArray} {pc pc' : Nat} {Ls : Array Slot} {Z : State} {a0 : Array Value} {h : Heap} {x0 : Value} {x1 : Value} {b : Addr} {rest : List Value} {W : Nat} {rm : Room} {Q : Option Value → Heap → List Loc → Prop} (hw : ∀ d ∈ tables_1, d.before a0 Z = true) (X : Stand p l e R s m args below meth c T locs cells slots) (hx : p.tables.exec = Jvm.exec) (hZ : Z.Warmed39 s.vm) (hby : c.code = bs) (hsz : Ls.size = c.maxLocals) (hown : s.vm.findClass "com/example/earnest_reactor/earnestreactor/core/TimerQueue" = some m.cls) (hd : decode bs pc = .ok (.invokevirtual 47, 3)) (hp : pc + 3 = pc') (eT : T.heap = h) (E : Exa Z h b "com/example/earnest_reactor/earnestreactor/core/TimerQueue") (hW : (rest.map fun v => v.category).sum ≤ W)
    (hM : MetFree l (⟨"com/example/earnest_reactor/earnestreactor/core/TimerQueue", "place", "(ILcom/example/earnest_reactor/earnestreactor/core/ScheduledTask;)V"⟩ : MethodName) (head1 [(Cond.code (⟨"com/example/earnest_reactor/earnestreactor/core/TimerQueue", "place", "(ILcom/example/earnest_reactor/earnestreactor/core/ScheduledTask;)V"⟩ : MethodName) prog_35_method_10_code 3 none)] rm) (fun aa U => aa = #[.ref b, x0, x1] ∧ Z.Warmed39 U.vm ∧ U.heap = h) (fun _ _ _ _ _ => True) (fun _ U o U' => ∃ v L, o = .returned v ∧ Q v U'.heap L ∧ FrameEnd U o U' L rm.cells rm.slots)) (hf : rm.frames + 1 ≤ R.frames) (hl : W + (3 + 11) + rm.locals ≤ R.locals) (hc : cells + rm.cells ≤ R.cells) (hs : slots + rm.slots ≤ R.slots)
    (k : ∀ v T' L', Stand p l e R s m args below meth c T' (locs ++ L') (cells + rm.cells) (slots + rm.slots) → Q v T'.heap L' → own_End p e below F (T'.setTop (mkF m pc' Ls (v.toList ++ rest)))) : own_End p e below F (T.setTop (mkF m pc Ls (x1 :: x0 :: .ref b :: rest))) := by
  subst hp
  obtain ⟨cq, qa, qb⟩ := E.cell
  obtain ⟨v, _, ⟨T', L0, k0, n0⟩, -, X', ⟨L', hQ, e1, e2, e3⟩, stp⟩ := X.privateBack hx (y := (⟨"com/example/earnest_reactor/earnestreactor/core/TimerQueue", "place", "(ILcom/example/earnest_reactor/earnestreactor/core/ScheduledTask;)V"⟩ : MethodName)) hown (mvT hZ (wd_56 hw)) (mvT hZ (wd_57 hw)) (own_selPriv (y := (⟨"com/example/earnest_reactor/earnestreactor/core/TimerQueue", "place", "(ILcom/example/earnest_reactor/earnestreactor/core/ScheduledTask;)V"⟩ : MethodName)) (mvT hZ (wd_1 hw)) (Cond.privateMethod_at (mvP hZ (wd_58 hw) (args := #[]))) (mvT hZ (wd_57 hw)) (by decide)) (Cond.privateMethod_at (mvP hZ (wd_58 hw) (args := #[]))) (mvT hZ (wd_59 hw)) (by decide) (backOf (W := W) hM hZ (wd_59 hw) (wd_2 hw) hf hl) (g := mkF m pc Ls (x1 :: x0 :: .ref b :: rest)) rfl hsz (Steps.refl _) (a := b) (by rw [eT]; exact qa) qb (argsL := [x0, x1]) (rest := rest) (lenOf own_pd3 rfl) rfl (by show 2 * 0 + _ ≤ _; omega) (hb hby hd) (fun _ _ => ⟨rfl, eT, hc, hs⟩)
  dsimp only [Pt.U, Pt.locs, Pt.cells, Pt.slots] at X' e1 e2 e3 stp hQ
  subst e1 e2 e3
  exact own_trans stp (k v T' L' X' hQ)
set_option maxRecDepth 65536 in
theorem own_lk2 {p : Program} {l : Launch} {e : Env} {R : Room} {s : State} {m : MethodId} {args : Array Value} {below : List Frame} {meth : Method} {c : Code} {T : State} {locs : List Loc} {cells slots : Nat} {F : Option Value → State → Prop} {bs : ByteArray} {pc pc' : Nat} {Ls : Array Slot} {Z : State} {a0 : Array Value} {h : Heap} {x0 : Value} {b : Addr} {rest : List Value} {W : Nat} {rm : Room} {Q : Option Value → Heap → List Loc → Prop} (hw : ∀ d ∈ tables_1, d.before a0 Z = true) (X : Stand p l e R s m args below meth c T locs cells slots) (hx : p.tables.exec = Jvm.exec) (hZ : Z.Warmed39 s.vm) (hby : c.code = bs) (hsz : Ls.size = c.maxLocals) (hown : s.vm.findClass "com/example/earnest_reactor/earnestreactor/core/TimerQueue" = some m.cls) (hd : decode bs pc = .ok (.invokevirtual 43, 3)) (hp : pc + 3 = pc') (eT : T.heap = h) (E : Exa Z h b "com/example/earnest_reactor/earnestreactor/core/ScheduledTask") (hW : (rest.map fun v => v.category).sum ≤ W)
    (hM : MetFree l (⟨"com/example/earnest_reactor/earnestreactor/core/ScheduledTask", "runsBefore", "(Lcom/example/earnest_reactor/earnestreactor/core/ScheduledTask;)Z"⟩ : MethodName) (head1 [(Cond.code (⟨"com/example/earnest_reactor/earnestreactor/core/ScheduledTask", "runsBefore", "(Lcom/example/earnest_reactor/earnestreactor/core/ScheduledTask;)Z"⟩ : MethodName) prog_31_method_5_code 4 (some .boolean))] rm) (fun aa U => aa = #[.ref b, x0] ∧ Z.Warmed39 U.vm ∧ U.heap = h) (fun _ _ _ _ _ => True) (fun _ U o U' => ∃ v L, o = .returned v ∧ Q v U'.heap L ∧ FrameEnd U o U' L rm.cells rm.slots)) (hf : rm.frames + 1 ≤ R.frames) (hl : W + (4 + 11) + rm.locals ≤ R.locals) (hc : cells + rm.cells ≤ R.cells) (hs : slots + rm.slots ≤ R.slots)
    (k : ∀ v T' L', Stand p l e R s m args below meth c T' (locs ++ L') (cells + rm.cells) (slots + rm.slots) → Q v T'.heap L' → own_End p e below F (T'.setTop (mkF m pc' Ls (v.toList ++ rest)))) : own_End p e below F (T.setTop (mkF m pc Ls (x0 :: .ref b :: rest))) := by
  subst hp
  obtain ⟨cq, kq, q1, q2, q3⟩ := isOf hZ eT E
  obtain ⟨v, _, ⟨T', L0, k0, n0⟩, -, X', ⟨L', hQ, e1, e2, e3⟩, stp⟩ := X.virtualBack hx (y := (⟨"com/example/earnest_reactor/earnestreactor/core/ScheduledTask", "runsBefore", "(Lcom/example/earnest_reactor/earnestreactor/core/ScheduledTask;)Z"⟩ : MethodName)) (z := (⟨"com/example/earnest_reactor/earnestreactor/core/ScheduledTask", "runsBefore", "(Lcom/example/earnest_reactor/earnestreactor/core/ScheduledTask;)Z"⟩ : MethodName)) hown (mvT hZ (wd_66 hw)) (mvT hZ (wd_67 hw)) (notFace_of_selects (args := #[]) (mvT hZ (wd_69 hw))) (mvT hZ (wd_69 hw)) (mvT hZ (wd_68 hw)) (by decide) (backOf (W := W) hM hZ (wd_70 hw) (wd_15 hw) hf hl) q1 q3 (g := mkF m pc Ls (x0 :: .ref b :: rest)) rfl hsz (Steps.refl _) (argsL := [x0]) (rest := rest) (lenOf own_pd4 rfl) rfl (by show 2 * 0 + _ ≤ _; omega) (hb hby hd) (fun _ _ => ⟨rfl, eT, hc, hs⟩)
  dsimp only [Pt.U, Pt.locs, Pt.cells, Pt.slots] at X' e1 e2 e3 stp hQ
  subst e1 e2 e3
  exact own_trans stp (k v T' L' X' hQ)
set_option maxRecDepth 65536 in
theorem own_lk3 {p : Program} {l : Launch} {e : Env} {R : Room} {s : State} {m : MethodId} {args : Array Value} {below : List Frame} {meth : Method} {c : Code} {T : State} {locs : List Loc} {cells slots : Nat} {F : Option Value → State → Prop} {bs : ByteArray} {pc pc' : Nat} {Ls : Array Slot} {Z : State} {a0 : Array Value} {h : Heap} {x0 : Value} {x1 : Value} {b : Addr} {rest : List Value} {W : Nat} {rm : Room} {Q : Option Value → Heap → List Loc → Prop} (hw : ∀ d ∈ tables_1, d.before a0 Z = true) (X : Stand p l e R s m args below meth c T locs cells slots) (hx : p.tables.exec = Jvm.exec) (hZ : Z.Warmed39 s.vm) (hby : c.code = bs) (hsz : Ls.size = c.maxLocals) (hown : s.vm.findClass "com/example/earnest_reactor/earnestreactor/core/TimerQueue" = some m.cls) (hd : decode bs pc = .ok (.invokevirtual 40, 3)) (hp : pc + 3 = pc') (eT : T.heap = h) (E : Exa Z h b "com/example/earnest_reactor/earnestreactor/core/TimerQueue") (hW : (rest.map fun v => v.category).sum ≤ W)
    (hM : MetFree l (⟨"com/example/earnest_reactor/earnestreactor/core/TimerQueue", "siftDown", "(ILcom/example/earnest_reactor/earnestreactor/core/ScheduledTask;)V"⟩ : MethodName) (head1 [(Cond.code (⟨"com/example/earnest_reactor/earnestreactor/core/TimerQueue", "siftDown", "(ILcom/example/earnest_reactor/earnestreactor/core/ScheduledTask;)V"⟩ : MethodName) prog_35_method_9_code 6 none)] rm) (fun aa U => aa = #[.ref b, x0, x1] ∧ Z.Warmed39 U.vm ∧ U.heap = h) (fun _ _ _ _ _ => True) (fun _ U o U' => ∃ v L, o = .returned v ∧ Q v U'.heap L ∧ FrameEnd U o U' L rm.cells rm.slots)) (hf : rm.frames + 1 ≤ R.frames) (hl : W + (6 + 11) + rm.locals ≤ R.locals) (hc : cells + rm.cells ≤ R.cells) (hs : slots + rm.slots ≤ R.slots)
    (k : ∀ v T' L', Stand p l e R s m args below meth c T' (locs ++ L') (cells + rm.cells) (slots + rm.slots) → Q v T'.heap L' → own_End p e below F (T'.setTop (mkF m pc' Ls (v.toList ++ rest)))) : own_End p e below F (T.setTop (mkF m pc Ls (x1 :: x0 :: .ref b :: rest))) := by
  subst hp
  obtain ⟨cq, qa, qb⟩ := E.cell
  obtain ⟨v, _, ⟨T', L0, k0, n0⟩, -, X', ⟨L', hQ, e1, e2, e3⟩, stp⟩ := X.privateBack hx (y := (⟨"com/example/earnest_reactor/earnestreactor/core/TimerQueue", "siftDown", "(ILcom/example/earnest_reactor/earnestreactor/core/ScheduledTask;)V"⟩ : MethodName)) hown (mvT hZ (wd_80 hw)) (mvT hZ (wd_81 hw)) (own_selPriv (y := (⟨"com/example/earnest_reactor/earnestreactor/core/TimerQueue", "siftDown", "(ILcom/example/earnest_reactor/earnestreactor/core/ScheduledTask;)V"⟩ : MethodName)) (mvT hZ (wd_1 hw)) (Cond.privateMethod_at (mvP hZ (wd_82 hw) (args := #[]))) (mvT hZ (wd_81 hw)) (by decide)) (Cond.privateMethod_at (mvP hZ (wd_82 hw) (args := #[]))) (mvT hZ (wd_83 hw)) (by decide) (backOf (W := W) hM hZ (wd_83 hw) (wd_2 hw) hf hl) (g := mkF m pc Ls (x1 :: x0 :: .ref b :: rest)) rfl hsz (Steps.refl _) (a := b) (by rw [eT]; exact qa) qb (argsL := [x0, x1]) (rest := rest) (lenOf own_pd3 rfl) rfl (by show 2 * 0 + _ ≤ _; omega) (hb hby hd) (fun _ _ => ⟨rfl, eT, hc, hs⟩)
  dsimp only [Pt.U, Pt.locs, Pt.cells, Pt.slots] at X' e1 e2 e3 stp hQ
  subst e1 e2 e3
  exact own_trans stp (k v T' L' X' hQ)
set_option maxRecDepth 65536 in
theorem own_lk4 {p : Program} {l : Launch} {e : Env} {R : Room} {s : State} {m : MethodId} {args : Array Value} {below : List Frame} {meth : Method} {c : Code} {T : State} {locs : List Loc} {cells slots : Nat} {F : Option Value → State → Prop} {bs : ByteArray} {pc pc' : Nat} {Ls : Array Slot} {Z : State} {a0 : Array Value} {h : Heap} {x0 : Value} {x1 : Value} {b : Addr} {rest : List Value} {W : Nat} {rm : Room} {Q : Option Value → Heap → List Loc → Prop} (hw : ∀ d ∈ tables_1, d.before a0 Z = true) (X : Stand p l e R s m args below meth c T locs cells slots) (hx : p.tables.exec = Jvm.exec) (hZ : Z.Warmed39 s.vm) (hby : c.code = bs) (hsz : Ls.size = c.maxLocals) (hown : s.vm.findClass "com/example/earnest_reactor/earnestreactor/core/TimerQueue" = some m.cls) (hd : decode bs pc = .ok (.invokevirtual 26, 3)) (hp : pc + 3 = pc') (eT : T.heap = h) (E : Exa Z h b "com/example/earnest_reactor/earnestreactor/core/TimerQueue") (hW : (rest.map fun v => v.category).sum ≤ W)
    (hM : MetFree l (⟨"com/example/earnest_reactor/earnestreactor/core/TimerQueue", "siftUp", "(ILcom/example/earnest_reactor/earnestreactor/core/ScheduledTask;)V"⟩ : MethodName) (head1 [(Cond.code (⟨"com/example/earnest_reactor/earnestreactor/core/TimerQueue", "siftUp", "(ILcom/example/earnest_reactor/earnestreactor/core/ScheduledTask;)V"⟩ : MethodName) prog_35_method_8_code 5 none)] rm) (fun aa U => aa = #[.ref b, x0, x1] ∧ Z.Warmed39 U.vm ∧ U.heap = h) (fun _ _ _ _ _ => True) (fun _ U o U' => ∃ v L, o = .returned v ∧ Q v U'.heap L ∧ FrameEnd U o U' L rm.cells rm.slots)) (hf : rm.frames + 1 ≤ R.frames) (hl : W + (5 + 11) + rm.locals ≤ R.locals) (hc : cells + rm.cells ≤ R.cells) (hs : slots + rm.slots ≤ R.slots)
    (k : ∀ v T' L', Stand p l e R s m args below meth c T' (locs ++ L') (cells + rm.cells) (slots + rm.slots) → Q v T'.heap L' → own_End p e below F (T'.setTop (mkF m pc' Ls (v.toList ++ rest)))) : own_End p e below F (T.setTop (mkF m pc Ls (x1 :: x0 :: .ref b :: rest))) := by
  subst hp
  obtain ⟨cq, qa, qb⟩ := E.cell
  obtain ⟨v, _, ⟨T', L0, k0, n0⟩, -, X', ⟨L', hQ, e1, e2, e3⟩, stp⟩ := X.privateBack hx (y := (⟨"com/example/earnest_reactor/earnestreactor/core/TimerQueue", "siftUp", "(ILcom/example/earnest_reactor/earnestreactor/core/ScheduledTask;)V"⟩ : MethodName)) hown (mvT hZ (wd_52 hw)) (mvT hZ (wd_53 hw)) (own_selPriv (y := (⟨"com/example/earnest_reactor/earnestreactor/core/TimerQueue", "siftUp", "(ILcom/example/earnest_reactor/earnestreactor/core/ScheduledTask;)V"⟩ : MethodName)) (mvT hZ (wd_1 hw)) (Cond.privateMethod_at (mvP hZ (wd_54 hw) (args := #[]))) (mvT hZ (wd_53 hw)) (by decide)) (Cond.privateMethod_at (mvP hZ (wd_54 hw) (args := #[]))) (mvT hZ (wd_55 hw)) (by decide) (backOf (W := W) hM hZ (wd_55 hw) (wd_2 hw) hf hl) (g := mkF m pc Ls (x1 :: x0 :: .ref b :: rest)) rfl hsz (Steps.refl _) (a := b) (by rw [eT]; exact qa) qb (argsL := [x0, x1]) (rest := rest) (lenOf own_pd3 rfl) rfl (by show 2 * 0 + _ ≤ _; omega) (hb hby hd) (fun _ _ => ⟨rfl, eT, hc, hs⟩)
  dsimp only [Pt.U, Pt.locs, Pt.cells, Pt.slots] at X' e1 e2 e3 stp hQ
  subst e1 e2 e3
  exact own_trans stp (k v T' L' X' hQ)
set_option maxRecDepth 65536 in
theorem own_lk5 {p : Program} {l : Launch} {e : Env} {R : Room} {s : State} {m : MethodId} {args : Array Value} {below : List Frame} {meth : Method} {c : Code} {T : State} {locs : List Loc} {cells slots : Nat} {F : Option Value → State → Prop} {bs : ByteArray} {pc pc' : Nat} {Ls : Array Slot} {Z : State} {a0 : Array Value} {h : Heap} {x0 : Value} {b : Addr} {rest : List Value} {W : Nat} {rm : Room} {Q : Option Value → Heap → List Loc → Prop} (hw : ∀ d ∈ tables_1, d.before a0 Z = true) (X : Stand p l e R s m args below meth c T locs cells slots) (hx : p.tables.exec = Jvm.exec) (hZ : Z.Warmed39 s.vm) (hby : c.code = bs) (hsz : Ls.size = c.maxLocals) (hown : s.vm.findClass "com/example/earnest_reactor/earnestreactor/core/TimerQueue" = some m.cls) (hd : decode bs pc = .ok (.invokevirtual 30, 3)) (hp : pc + 3 = pc') (eT : T.heap = h) (E : Exa Z h b "com/example/earnest_reactor/earnestreactor/core/TimerQueue") (hW : (rest.map fun v => v.category).sum ≤ W)
    (hM : MetFree l (⟨"com/example/earnest_reactor/earnestreactor/core/TimerQueue", "removeAt", "(I)V"⟩ : MethodName) (head1 [(Cond.code (⟨"com/example/earnest_reactor/earnestreactor/core/TimerQueue", "removeAt", "(I)V"⟩ : MethodName) prog_35_method_7_code 4 none)] rm) (fun aa U => aa = #[.ref b, x0] ∧ Z.Warmed39 U.vm ∧ U.heap = h) (fun _ _ _ _ _ => True) (fun _ U o U' => ∃ v L, o = .returned v ∧ Q v U'.heap L ∧ FrameEnd U o U' L rm.cells rm.slots)) (hf : rm.frames + 1 ≤ R.frames) (hl : W + (4 + 11) + rm.locals ≤ R.locals) (hc : cells + rm.cells ≤ R.cells) (hs : slots + rm.slots ≤ R.slots)
    (k : ∀ v T' L', Stand p l e R s m args below meth c T' (locs ++ L') (cells + rm.cells) (slots + rm.slots) → Q v T'.heap L' → own_End p e below F (T'.setTop (mkF m pc' Ls (v.toList ++ rest)))) : own_End p e below F (T.setTop (mkF m pc Ls (x0 :: .ref b :: rest))) := by
  subst hp
  obtain ⟨cq, qa, qb⟩ := E.cell
  obtain ⟨v, _, ⟨T', L0, k0, n0⟩, -, X', ⟨L', hQ, e1, e2, e3⟩, stp⟩ := X.privateBack hx (y := (⟨"com/example/earnest_reactor/earnestreactor/core/TimerQueue", "removeAt", "(I)V"⟩ : MethodName)) hown (mvT hZ (wd_76 hw)) (mvT hZ (wd_77 hw)) (own_selPriv (y := (⟨"com/example/earnest_reactor/earnestreactor/core/TimerQueue", "removeAt", "(I)V"⟩ : MethodName)) (mvT hZ (wd_1 hw)) (Cond.privateMethod_at (mvP hZ (wd_78 hw) (args := #[]))) (mvT hZ (wd_77 hw)) (by decide)) (Cond.privateMethod_at (mvP hZ (wd_78 hw) (args := #[]))) (mvT hZ (wd_79 hw)) (by decide) (backOf (W := W) hM hZ (wd_79 hw) (wd_2 hw) hf hl) (g := mkF m pc Ls (x0 :: .ref b :: rest)) rfl hsz (Steps.refl _) (a := b) (by rw [eT]; exact qa) qb (argsL := [x0]) (rest := rest) (lenOf own_pd2 rfl) rfl (by show 2 * 0 + _ ≤ _; omega) (hb hby hd) (fun _ _ => ⟨rfl, eT, hc, hs⟩)
  dsimp only [Pt.U, Pt.locs, Pt.cells, Pt.slots] at X' e1 e2 e3 stp hQ
  subst e1 e2 e3
  exact own_trans stp (k v T' L' X' hQ)
set_option maxRecDepth 65536 in
theorem own_lk6 {p : Program} {l : Launch} {e : Env} {R : Room} {s : State} {m : MethodId} {args : Array Value} {below : List Frame} {meth : Method} {c : Code} {T : State} {locs : List Loc} {cells slots : Nat} {F : Option Value → State → Prop} {bs : ByteArray} {pc pc' : Nat} {Ls : Array Slot} {Z : State} {a0 : Array Value} {h : Heap} {b : Addr} {rest : List Value} {W : Nat} {rm : Room} {Q : Option Value → Heap → List Loc → Prop} (hw : ∀ d ∈ tables_1, d.before a0 Z = true) (X : Stand p l e R s m args below meth c T locs cells slots) (hx : p.tables.exec = Jvm.exec) (hZ : Z.Warmed39 s.vm) (hby : c.code = bs) (hsz : Ls.size = c.maxLocals) (hown : s.vm.findClass "com/example/earnest_reactor/earnestreactor/core/TimerQueue" = some m.cls) (hd : decode bs pc = .ok (.invokevirtual 34, 3)) (hp : pc + 3 = pc') (eT : T.heap = h) (E : Exa Z h b "com/example/earnest_reactor/earnestreactor/core/ScheduledTask") (hW : (rest.map fun v => v.category).sum ≤ W)
    (hM : MetFree l (⟨"com/example/earnest_reactor/earnestreactor/core/ScheduledTask", "queueIndex", "()I"⟩ : MethodName) (head1 [(Cond.code (⟨"com/example/earnest_reactor/earnestreactor/core/ScheduledTask", "queueIndex", "()I"⟩ : MethodName) prog_31_method_6_code 1 (some .int))] rm) (fun aa U => aa = #[.ref b] ∧ Z.Warmed39 U.vm ∧ U.heap = h) (fun _ _ _ _ _ => True) (fun _ U o U' => ∃ v L, o = .returned v ∧ Q v U'.heap L ∧ FrameEnd U o U' L rm.cells rm.slots)) (hf : rm.frames + 1 ≤ R.frames) (hl : W + (1 + 11) + rm.locals ≤ R.locals) (hc : cells + rm.cells ≤ R.cells) (hs : slots + rm.slots ≤ R.slots)
    (k : ∀ v T' L', Stand p l e R s m args below meth c T' (locs ++ L') (cells + rm.cells) (slots + rm.slots) → Q v T'.heap L' → own_End p e below F (T'.setTop (mkF m pc' Ls (v.toList ++ rest)))) : own_End p e below F (T.setTop (mkF m pc Ls (.ref b :: rest))) := by
  subst hp
  obtain ⟨cq, kq, q1, q2, q3⟩ := isOf hZ eT E
  obtain ⟨v, _, ⟨T', L0, k0, n0⟩, -, X', ⟨L', hQ, e1, e2, e3⟩, stp⟩ := X.virtualBack hx (y := (⟨"com/example/earnest_reactor/earnestreactor/core/ScheduledTask", "queueIndex", "()I"⟩ : MethodName)) (z := (⟨"com/example/earnest_reactor/earnestreactor/core/ScheduledTask", "queueIndex", "()I"⟩ : MethodName)) hown (mvT hZ (wd_89 hw)) (mvT hZ (wd_90 hw)) (notFace_of_selects (args := #[]) (mvT hZ (wd_92 hw))) (mvT hZ (wd_92 hw)) (mvT hZ (wd_91 hw)) (by decide) (backOf (W := W) hM hZ (wd_93 hw) (wd_15 hw) hf hl) q1 q3 (g := mkF m pc Ls (.ref b :: rest)) rfl hsz (Steps.refl _) (argsL := []) (rest := rest) (lenOf own_pd5 rfl) rfl (by show 2 * 0 + _ ≤ _; omega) (hb hby hd) (fun _ _ => ⟨rfl, eT, hc, hs⟩)
  dsimp only [Pt.U, Pt.locs, Pt.cells, Pt.slots] at X' e1 e2 e3 stp hQ
  subst e1 e2 e3
  exact own_trans stp (k v T' L' X' hQ)
set_option maxRecDepth 65536 in
theorem own_lk7 {p : Program} {l : Launch} {e : Env} {R : Room} {s : State} {m : MethodId} {args : Array Value} {below : List Frame} {meth : Method} {c : Code} {T : State} {locs : List Loc} {cells slots : Nat} {F : Option Value → State → Prop} {bs : ByteArray} {pc pc' : Nat} {Ls : Array Slot} {Z : State} {a0 : Array Value} {h : Heap} {x0 : Value} {x1 : Value} {rest : List Value} {W : Nat} {rm : Room} {Q : Option Value → Heap → List Loc → Prop} (hw : ∀ d ∈ tables_1, d.before a0 Z = true) (X : Stand p l e R s m args below meth c T locs cells slots) (hx : p.tables.exec = Jvm.exec) (hZ : Z.Warmed39 s.vm) (hby : c.code = bs) (hsz : Ls.size = c.maxLocals) (hown : s.vm.findClass "com/example/earnest_reactor/earnestreactor/core/TimerQueueIsEmptyPinLaw" = some m.cls) (hd : decode bs pc = .ok (.invokestatic 33, 3)) (hp : pc + 3 = pc') (eT : T.heap = h) (hW : (rest.map fun v => v.category).sum ≤ W)
    (hM : MetFree l (⟨"java/lang/Math", "max", "(II)I"⟩ : MethodName) (head1 [(Cond.code (⟨"java/lang/Math", "max", "(II)I"⟩ : MethodName) jdk_29_method_65_code 2 (some .int))] rm) (fun aa U => aa = #[x0, x1] ∧ Z.Warmed39 U.vm ∧ U.heap = h) (fun _ _ _ _ _ => True) (fun _ U o U' => ∃ v L, o = .returned v ∧ Q v U'.heap L ∧ FrameEnd U o U' L rm.cells rm.slots)) (hf : rm.frames + 1 ≤ R.frames) (hl : W + (2 + 11) + rm.locals ≤ R.locals) (hc : cells + rm.cells ≤ R.cells) (hs : slots + rm.slots ≤ R.slots)
    (k : ∀ v T' L', Stand p l e R s m args below meth c T' (locs ++ L') (cells + rm.cells) (slots + rm.slots) → Q v T'.heap L' → own_End p e below F (T'.setTop (mkF m pc' Ls (v.toList ++ rest)))) : own_End p e below F (T.setTop (mkF m pc Ls (x1 :: x0 :: rest))) := by
  subst hp
  obtain ⟨v, _, ⟨T', L0, k0, n0⟩, -, X', ⟨L', hQ, e1, e2, e3⟩, stp⟩ := Jvm.LawKit.callS X hx (y := (⟨"java/lang/Math", "max", "(II)I"⟩ : MethodName)) hown (mvT hZ (wd_38 hw)) (mvT hZ (wd_39 hw)) (mvT hZ (wd_40 hw)) (mvT hZ (wd_41 hw)) (by decide) (backOf (W := W) hM hZ (wd_41 hw) (wd_40 hw) hf hl) (g := mkF m pc Ls (x1 :: x0 :: rest)) rfl hsz (argsL := [x0, x1]) (rest := rest) (lenOf own_pd6 rfl) rfl (by show 2 * 0 + _ ≤ _; omega) (hb hby hd) (fun _ _ => ⟨rfl, eT, hc, hs⟩)
  dsimp only [Pt.U, Pt.locs, Pt.cells, Pt.slots] at X' e1 e2 e3 stp hQ
  subst e1 e2 e3
  exact own_step stp (k v T' L' X' hQ)
set_option maxRecDepth 65536 in
theorem own_lk8 {p : Program} {l : Launch} {e : Env} {R : Room} {s : State} {m : MethodId} {args : Array Value} {below : List Frame} {meth : Method} {c : Code} {T : State} {locs : List Loc} {cells slots : Nat} {F : Option Value → State → Prop} {bs : ByteArray} {pc pc' : Nat} {Ls : Array Slot} {Z : State} {a0 : Array Value} {h : Heap} {b : Addr} {rest : List Value} {W : Nat} {rm : Room} {Q : Option Value → Heap → List Loc → Prop} (hw : ∀ d ∈ tables_1, d.before a0 Z = true) (X : Stand p l e R s m args below meth c T locs cells slots) (hx : p.tables.exec = Jvm.exec) (hZ : Z.Warmed39 s.vm) (hby : c.code = bs) (hsz : Ls.size = c.maxLocals) (hown : s.vm.findClass "com/example/earnest_reactor/earnestreactor/core/TimerQueueIsEmptyPinLaw" = some m.cls) (hd : decode bs pc = .ok (.invokevirtual 17, 3)) (hp : pc + 3 = pc') (eT : T.heap = h) (E : Exa Z h b "com/example/earnest_reactor/earnestreactor/core/TimerQueue") (hW : (rest.map fun v => v.category).sum ≤ W)
    (hM : MetFree l (⟨"com/example/earnest_reactor/earnestreactor/core/TimerQueue", "isEmpty", "()Z"⟩ : MethodName) (head1 [(Cond.code (⟨"com/example/earnest_reactor/earnestreactor/core/TimerQueue", "isEmpty", "()Z"⟩ : MethodName) prog_35_method_2_code 1 (some .boolean))] rm) (fun aa U => aa = #[.ref b] ∧ Z.Warmed39 U.vm ∧ U.heap = h) (fun _ _ _ _ _ => True) (fun _ U o U' => ∃ v L, o = .returned v ∧ Q v U'.heap L ∧ FrameEnd U o U' L rm.cells rm.slots)) (hf : rm.frames + 1 ≤ R.frames) (hl : W + (1 + 11) + rm.locals ≤ R.locals) (hc : cells + rm.cells ≤ R.cells) (hs : slots + rm.slots ≤ R.slots)
    (k : ∀ v T' L', Stand p l e R s m args below meth c T' (locs ++ L') (cells + rm.cells) (slots + rm.slots) → Q v T'.heap L' → own_End p e below F (T'.setTop (mkF m pc' Ls (v.toList ++ rest)))) : own_End p e below F (T.setTop (mkF m pc Ls (.ref b :: rest))) := by
  subst hp
  obtain ⟨cq, kq, q1, q2, q3⟩ := isOf hZ eT E
  obtain ⟨v, _, ⟨T', L0, k0, n0⟩, -, X', ⟨L', hQ, e1, e2, e3⟩, stp⟩ := X.virtualBack hx (y := (⟨"com/example/earnest_reactor/earnestreactor/core/TimerQueue", "isEmpty", "()Z"⟩ : MethodName)) (z := (⟨"com/example/earnest_reactor/earnestreactor/core/TimerQueue", "isEmpty", "()Z"⟩ : MethodName)) hown (mvT hZ (wd_31 hw)) (mvT hZ (wd_32 hw)) (notFace_of_selects (args := #[]) (mvT hZ (wd_34 hw))) (mvT hZ (wd_34 hw)) (mvT hZ (wd_33 hw)) (by decide) (backOf (W := W) hM hZ (wd_35 hw) (wd_2 hw) hf hl) q1 q3 (g := mkF m pc Ls (.ref b :: rest)) rfl hsz (Steps.refl _) (argsL := []) (rest := rest) (lenOf own_pd7 rfl) rfl (by show 2 * 0 + _ ≤ _; omega) (hb hby hd) (fun _ _ => ⟨rfl, eT, hc, hs⟩)
  dsimp only [Pt.U, Pt.locs, Pt.cells, Pt.slots] at X' e1 e2 e3 stp hQ
  subst e1 e2 e3
  exact own_trans stp (k v T' L' X' hQ)
set_option maxRecDepth 65536 in
theorem own_lk9 {p : Program} {l : Launch} {e : Env} {R : Room} {s : State} {m : MethodId} {args : Array Value} {below : List Frame} {meth : Method} {c : Code} {T : State} {locs : List Loc} {cells slots : Nat} {F : Option Value → State → Prop} {bs : ByteArray} {pc pc' : Nat} {Ls : Array Slot} {Z : State} {a0 : Array Value} {h : Heap} {b : Addr} {rest : List Value} {W : Nat} {rm : Room} {Q : Option Value → Heap → List Loc → Prop} (hw : ∀ d ∈ tables_1, d.before a0 Z = true) (X : Stand p l e R s m args below meth c T locs cells slots) (hx : p.tables.exec = Jvm.exec) (hZ : Z.Warmed39 s.vm) (hby : c.code = bs) (hsz : Ls.size = c.maxLocals) (hown : s.vm.findClass "com/example/earnest_reactor/earnestreactor/core/TimerQueueIsEmptyPinLaw" = some m.cls) (hd : decode bs pc = .ok (.invokevirtual 39, 3)) (hp : pc + 3 = pc') (eT : T.heap = h) (E : Exa Z h b "com/example/earnest_reactor/earnestreactor/core/TimerQueue") (hW : (rest.map fun v => v.category).sum ≤ W)
    (hM : MetFree l (⟨"com/example/earnest_reactor/earnestreactor/core/TimerQueue", "peek", "()Lcom/example/earnest_reactor/earnestreactor/core/ScheduledTask;"⟩ : MethodName) (head1 [(Cond.code (⟨"com/example/earnest_reactor/earnestreactor/core/TimerQueue", "peek", "()Lcom/example/earnest_reactor/earnestreactor/core/ScheduledTask;"⟩ : MethodName) prog_35_method_3_code 1 (some (.object "com/example/earnest_reactor/earnestreactor/core/ScheduledTask")))] rm) (fun aa U => aa = #[.ref b] ∧ Z.Warmed39 U.vm ∧ U.heap = h) (fun _ _ _ _ _ => True) (fun _ U o U' => ∃ v L, o = .returned v ∧ Q v U'.heap L ∧ FrameEnd U o U' L rm.cells rm.slots)) (hf : rm.frames + 1 ≤ R.frames) (hl : W + (1 + 11) + rm.locals ≤ R.locals) (hc : cells + rm.cells ≤ R.cells) (hs : slots + rm.slots ≤ R.slots)
    (k : ∀ v T' L', Stand p l e R s m args below meth c T' (locs ++ L') (cells + rm.cells) (slots + rm.slots) → Q v T'.heap L' → own_End p e below F (T'.setTop (mkF m pc' Ls (v.toList ++ rest)))) : own_End p e below F (T.setTop (mkF m pc Ls (.ref b :: rest))) := by
  subst hp
  obtain ⟨cq, kq, q1, q2, q3⟩ := isOf hZ eT E
  obtain ⟨v, _, ⟨T', L0, k0, n0⟩, -, X', ⟨L', hQ, e1, e2, e3⟩, stp⟩ := X.virtualBack hx (y := (⟨"com/example/earnest_reactor/earnestreactor/core/TimerQueue", "peek", "()Lcom/example/earnest_reactor/earnestreactor/core/ScheduledTask;"⟩ : MethodName)) (z := (⟨"com/example/earnest_reactor/earnestreactor/core/TimerQueue", "peek", "()Lcom/example/earnest_reactor/earnestreactor/core/ScheduledTask;"⟩ : MethodName)) hown (mvT hZ (wd_42 hw)) (mvT hZ (wd_43 hw)) (notFace_of_selects (args := #[]) (mvT hZ (wd_45 hw))) (mvT hZ (wd_45 hw)) (mvT hZ (wd_44 hw)) (by decide) (backOf (W := W) hM hZ (wd_46 hw) (wd_2 hw) hf hl) q1 q3 (g := mkF m pc Ls (.ref b :: rest)) rfl hsz (Steps.refl _) (argsL := []) (rest := rest) (lenOf own_pd8 rfl) rfl (by show 2 * 0 + _ ≤ _; omega) (hb hby hd) (fun _ _ => ⟨rfl, eT, hc, hs⟩)
  dsimp only [Pt.U, Pt.locs, Pt.cells, Pt.slots] at X' e1 e2 e3 stp hQ
  subst e1 e2 e3
  exact own_trans stp (k v T' L' X' hQ)
set_option maxRecDepth 65536 in
theorem own_lk10 {p : Program} {l : Launch} {e : Env} {R : Room} {s : State} {m : MethodId} {args : Array Value} {below : List Frame} {meth : Method} {c : Code} {T : State} {locs : List Loc} {cells slots : Nat} {F : Option Value → State → Prop} {bs : ByteArray} {pc pc' : Nat} {Ls : Array Slot} {Z : State} {a0 : Array Value} {h : Heap} {b : Addr} {rest : List Value} {W : Nat} {rm : Room} {Q : Option Value → Heap → List Loc → Prop} (hw : ∀ d ∈ tables_1, d.before a0 Z = true) (X : Stand p l e R s m args below meth c T locs cells slots) (hx : p.tables.exec = Jvm.exec) (hZ : Z.Warmed39 s.vm) (hby : c.code = bs) (hsz : Ls.size = c.maxLocals) (hown : s.vm.findClass "com/example/earnest_reactor/earnestreactor/core/TimerQueueIsEmptyPinLaw" = some m.cls) (hd : decode bs pc = .ok (.invokevirtual 29, 3)) (hp : pc + 3 = pc') (eT : T.heap = h) (E : Exa Z h b "com/example/earnest_reactor/earnestreactor/core/TimerQueue") (hW : (rest.map fun v => v.category).sum ≤ W)
    (hM : MetFree l (⟨"com/example/earnest_reactor/earnestreactor/core/TimerQueue", "poll", "()Lcom/example/earnest_reactor/earnestreactor/core/ScheduledTask;"⟩ : MethodName) (head1 [(Cond.code (⟨"com/example/earnest_reactor/earnestreactor/core/TimerQueue", "poll", "()Lcom/example/earnest_reactor/earnestreactor/core/ScheduledTask;"⟩ : MethodName) prog_35_method_5_code 2 (some (.object "com/example/earnest_reactor/earnestreactor/core/ScheduledTask")))] rm) (fun aa U => aa = #[.ref b] ∧ Z.Warmed39 U.vm ∧ U.heap = h) (fun _ _ _ _ _ => True) (fun _ U o U' => ∃ v L, o = .returned v ∧ Q v U'.heap L ∧ FrameEnd U o U' L rm.cells rm.slots)) (hf : rm.frames + 1 ≤ R.frames) (hl : W + (2 + 11) + rm.locals ≤ R.locals) (hc : cells + rm.cells ≤ R.cells) (hs : slots + rm.slots ≤ R.slots)
    (k : ∀ v T' L', Stand p l e R s m args below meth c T' (locs ++ L') (cells + rm.cells) (slots + rm.slots) → Q v T'.heap L' → own_End p e below F (T'.setTop (mkF m pc' Ls (v.toList ++ rest)))) : own_End p e below F (T.setTop (mkF m pc Ls (.ref b :: rest))) := by
  subst hp
  obtain ⟨cq, kq, q1, q2, q3⟩ := isOf hZ eT E
  obtain ⟨v, _, ⟨T', L0, k0, n0⟩, -, X', ⟨L', hQ, e1, e2, e3⟩, stp⟩ := X.virtualBack hx (y := (⟨"com/example/earnest_reactor/earnestreactor/core/TimerQueue", "poll", "()Lcom/example/earnest_reactor/earnestreactor/core/ScheduledTask;"⟩ : MethodName)) (z := (⟨"com/example/earnest_reactor/earnestreactor/core/TimerQueue", "poll", "()Lcom/example/earnest_reactor/earnestreactor/core/ScheduledTask;"⟩ : MethodName)) hown (mvT hZ (wd_71 hw)) (mvT hZ (wd_72 hw)) (notFace_of_selects (args := #[]) (mvT hZ (wd_74 hw))) (mvT hZ (wd_74 hw)) (mvT hZ (wd_73 hw)) (by decide) (backOf (W := W) hM hZ (wd_75 hw) (wd_2 hw) hf hl) q1 q3 (g := mkF m pc Ls (.ref b :: rest)) rfl hsz (Steps.refl _) (argsL := []) (rest := rest) (lenOf own_pd8 rfl) rfl (by show 2 * 0 + _ ≤ _; omega) (hb hby hd) (fun _ _ => ⟨rfl, eT, hc, hs⟩)
  dsimp only [Pt.U, Pt.locs, Pt.cells, Pt.slots] at X' e1 e2 e3 stp hQ
  subst e1 e2 e3
  exact own_trans stp (k v T' L' X' hQ)
set_option maxRecDepth 65536 in
theorem own_lk11 {p : Program} {l : Launch} {e : Env} {R : Room} {s : State} {m : MethodId} {args : Array Value} {below : List Frame} {meth : Method} {c : Code} {T : State} {locs : List Loc} {cells slots : Nat} {F : Option Value → State → Prop} {bs : ByteArray} {pc pc' : Nat} {Ls : Array Slot} {Z : State} {a0 : Array Value} {h : Heap} {x0 : Value} {b : Addr} {rest : List Value} {W : Nat} {rm : Room} {Q : Option Value → Heap → List Loc → Prop} (hw : ∀ d ∈ tables_1, d.before a0 Z = true) (X : Stand p l e R s m args below meth c T locs cells slots) (hx : p.tables.exec = Jvm.exec) (hZ : Z.Warmed39 s.vm) (hby : c.code = bs) (hsz : Ls.size = c.maxLocals) (hown : s.vm.findClass "com/example/earnest_reactor/earnestreactor/core/TimerQueueIsEmptyPinLaw" = some m.cls) (hd : decode bs pc = .ok (.invokevirtual 25, 3)) (hp : pc + 3 = pc') (eT : T.heap = h) (E : Exa Z h b "com/example/earnest_reactor/earnestreactor/core/TimerQueue") (hW : (rest.map fun v => v.category).sum ≤ W)
    (hM : MetFree l (⟨"com/example/earnest_reactor/earnestreactor/core/TimerQueue", "remove", "(Lcom/example/earnest_reactor/earnestreactor/core/ScheduledTask;)Z"⟩ : MethodName) (head1 [(Cond.code (⟨"com/example/earnest_reactor/earnestreactor/core/TimerQueue", "remove", "(Lcom/example/earnest_reactor/earnestreactor/core/ScheduledTask;)Z"⟩ : MethodName) prog_35_method_6_code 3 (some .boolean))] rm) (fun aa U => aa = #[.ref b, x0] ∧ Z.Warmed39 U.vm ∧ U.heap = h) (fun _ _ _ _ _ => True) (fun _ U o U' => ∃ v L, o = .returned v ∧ Q v U'.heap L ∧ FrameEnd U o U' L rm.cells rm.slots)) (hf : rm.frames + 1 ≤ R.frames) (hl : W + (3 + 11) + rm.locals ≤ R.locals) (hc : cells + rm.cells ≤ R.cells) (hs : slots + rm.slots ≤ R.slots)
    (k : ∀ v T' L', Stand p l e R s m args below meth c T' (locs ++ L') (cells + rm.cells) (slots + rm.slots) → Q v T'.heap L' → own_End p e below F (T'.setTop (mkF m pc' Ls (v.toList ++ rest)))) : own_End p e below F (T.setTop (mkF m pc Ls (x0 :: .ref b :: rest))) := by
  subst hp
  obtain ⟨cq, kq, q1, q2, q3⟩ := isOf hZ eT E
  obtain ⟨v, _, ⟨T', L0, k0, n0⟩, -, X', ⟨L', hQ, e1, e2, e3⟩, stp⟩ := X.virtualBack hx (y := (⟨"com/example/earnest_reactor/earnestreactor/core/TimerQueue", "remove", "(Lcom/example/earnest_reactor/earnestreactor/core/ScheduledTask;)Z"⟩ : MethodName)) (z := (⟨"com/example/earnest_reactor/earnestreactor/core/TimerQueue", "remove", "(Lcom/example/earnest_reactor/earnestreactor/core/ScheduledTask;)Z"⟩ : MethodName)) hown (mvT hZ (wd_84 hw)) (mvT hZ (wd_85 hw)) (notFace_of_selects (args := #[]) (mvT hZ (wd_87 hw))) (mvT hZ (wd_87 hw)) (mvT hZ (wd_86 hw)) (by decide) (backOf (W := W) hM hZ (wd_88 hw) (wd_2 hw) hf hl) q1 q3 (g := mkF m pc Ls (x0 :: .ref b :: rest)) rfl hsz (Steps.refl _) (argsL := [x0]) (rest := rest) (lenOf own_pd4 rfl) rfl (by show 2 * 0 + _ ≤ _; omega) (hb hby hd) (fun _ _ => ⟨rfl, eT, hc, hs⟩)
  dsimp only [Pt.U, Pt.locs, Pt.cells, Pt.slots] at X' e1 e2 e3 stp hQ
  subst e1 e2 e3
  exact own_trans stp (k v T' L' X' hQ)
set_option maxRecDepth 65536 in
theorem own_lk12 {p : Program} {l : Launch} {e : Env} {R : Room} {s : State} {m : MethodId} {args : Array Value} {below : List Frame} {meth : Method} {c : Code} {T : State} {locs : List Loc} {cells slots : Nat} {F : Option Value → State → Prop} {bs : ByteArray} {pc pc' : Nat} {Ls : Array Slot} {Z : State} {a0 : Array Value} {h : Heap} {x0 : Value} {b : Addr} {rest : List Value} {W : Nat} {rm : Room} {Q : Option Value → Heap → List Loc → Prop} (hw : ∀ d ∈ tables_1, d.before a0 Z = true) (X : Stand p l e R s m args below meth c T locs cells slots) (hx : p.tables.exec = Jvm.exec) (hZ : Z.Warmed39 s.vm) (hby : c.code = bs) (hsz : Ls.size = c.maxLocals) (hown : s.vm.findClass "com/example/earnest_reactor/earnestreactor/core/TimerQueueIsEmptyPinLaw" = some m.cls) (hd : decode bs pc = .ok (.invokevirtual 21, 3)) (hp : pc + 3 = pc') (eT : T.heap = h) (E : Exa Z h b "com/example/earnest_reactor/earnestreactor/core/TimerQueue") (hW : (rest.map fun v => v.category).sum ≤ W)
    (hM : MetFree l (⟨"com/example/earnest_reactor/earnestreactor/core/TimerQueue", "add", "(Lcom/example/earnest_reactor/earnestreactor/core/ScheduledTask;)V"⟩ : MethodName) (head1 [(Cond.code (⟨"com/example/earnest_reactor/earnestreactor/core/TimerQueue", "add", "(Lcom/example/earnest_reactor/earnestreactor/core/ScheduledTask;)V"⟩ : MethodName) prog_35_method_4_code 2 none)] rm) (fun aa U => aa = #[.ref b, x0] ∧ Z.Warmed39 U.vm ∧ U.heap = h) (fun _ _ _ _ _ => True) (fun _ U o U' => ∃ v L, o = .returned v ∧ Q v U'.heap L ∧ FrameEnd U o U' L rm.cells rm.slots)) (hf : rm.frames + 1 ≤ R.frames) (hl : W + (2 + 11) + rm.locals ≤ R.locals) (hc : cells + rm.cells ≤ R.cells) (hs : slots + rm.slots ≤ R.slots)
    (k : ∀ v T' L', Stand p l e R s m args below meth c T' (locs ++ L') (cells + rm.cells) (slots + rm.slots) → Q v T'.heap L' → own_End p e below F (T'.setTop (mkF m pc' Ls (v.toList ++ rest)))) : own_End p e below F (T.setTop (mkF m pc Ls (x0 :: .ref b :: rest))) := by
  subst hp
  obtain ⟨cq, kq, q1, q2, q3⟩ := isOf hZ eT E
  obtain ⟨v, _, ⟨T', L0, k0, n0⟩, -, X', ⟨L', hQ, e1, e2, e3⟩, stp⟩ := X.virtualBack hx (y := (⟨"com/example/earnest_reactor/earnestreactor/core/TimerQueue", "add", "(Lcom/example/earnest_reactor/earnestreactor/core/ScheduledTask;)V"⟩ : MethodName)) (z := (⟨"com/example/earnest_reactor/earnestreactor/core/TimerQueue", "add", "(Lcom/example/earnest_reactor/earnestreactor/core/ScheduledTask;)V"⟩ : MethodName)) hown (mvT hZ (wd_47 hw)) (mvT hZ (wd_48 hw)) (notFace_of_selects (args := #[]) (mvT hZ (wd_50 hw))) (mvT hZ (wd_50 hw)) (mvT hZ (wd_49 hw)) (by decide) (backOf (W := W) hM hZ (wd_51 hw) (wd_2 hw) hf hl) q1 q3 (g := mkF m pc Ls (x0 :: .ref b :: rest)) rfl hsz (Steps.refl _) (argsL := [x0]) (rest := rest) (lenOf own_pd9 rfl) rfl (by show 2 * 0 + _ ≤ _; omega) (hb hby hd) (fun _ _ => ⟨rfl, eT, hc, hs⟩)
  dsimp only [Pt.U, Pt.locs, Pt.cells, Pt.slots] at X' e1 e2 e3 stp hQ
  subst e1 e2 e3
  exact own_trans stp (k v T' L' X' hQ)
set_option maxRecDepth 65536 in
theorem own_lk13 {p : Program} {l : Launch} {e : Env} {R : Room} {s : State} {m : MethodId} {args : Array Value} {below : List Frame} {meth : Method} {c : Code} {T : State} {locs : List Loc} {cells slots : Nat} {F : Option Value → State → Prop} {bs : ByteArray} {pc pc' : Nat} {Ls : Array Slot} {Z : State} {a0 : Array Value} {h : Heap} {b : Addr} {rest : List Value} {W : Nat} {rm : Room} {Q : Option Value → Heap → List Loc → Prop} (hw : ∀ d ∈ tables_1, d.before a0 Z = true) (X : Stand p l e R s m args below meth c T locs cells slots) (hx : p.tables.exec = Jvm.exec) (hZ : Z.Warmed39 s.vm) (hby : c.code = bs) (hsz : Ls.size = c.maxLocals) (hown : s.vm.findClass "com/example/earnest_reactor/earnestreactor/core/TimerQueueIsEmptyPinLaw" = some m.cls) (hd : decode bs pc = .ok (.invokespecial 9, 3)) (hp : pc + 3 = pc') (eT : T.heap = h) (hW : (rest.map fun v => v.category).sum ≤ W)
    (hM : MetFree l (⟨"com/example/earnest_reactor/earnestreactor/core/TimerQueue", "<init>", "()V"⟩ : MethodName) (head1 [(Cond.code (⟨"com/example/earnest_reactor/earnestreactor/core/TimerQueue", "<init>", "()V"⟩ : MethodName) prog_35_method_1_code 1 none)] rm) (fun aa U => aa = #[.ref b] ∧ Z.Warmed39 U.vm ∧ U.heap = h) (fun _ _ _ _ _ => True) (fun _ U o U' => ∃ v L, o = .returned v ∧ Q v U'.heap L ∧ FrameEnd U o U' L rm.cells rm.slots)) (hf : rm.frames + 1 ≤ R.frames) (hl : W + (1 + 11) + rm.locals ≤ R.locals) (hc : cells + rm.cells ≤ R.cells) (hs : slots + rm.slots ≤ R.slots)
    (k : ∀ v T' L', Stand p l e R s m args below meth c T' (locs ++ L') (cells + rm.cells) (slots + rm.slots) → Q v T'.heap L' → own_End p e below F (T'.setTop (mkF m pc' Ls (v.toList ++ rest)))) : own_End p e below F (T.setTop (mkF m pc Ls (.ref b :: rest))) := by
  subst hp
  obtain ⟨v, _, ⟨T', L0, k0, n0⟩, -, X', ⟨L', hQ, e1, e2, e3⟩, stp⟩ := X.specialBack hx (y := (⟨"com/example/earnest_reactor/earnestreactor/core/TimerQueue", "<init>", "()V"⟩ : MethodName)) rfl hown (mvT hZ (wd_3 hw)) (mvT hZ (wd_4 hw)) (mvT hZ (wd_5 hw)) (by decide) (backOf (W := W) hM hZ (wd_5 hw) (wd_2 hw) hf hl) (g := mkF m pc Ls (.ref b :: rest)) rfl hsz (Steps.refl _) (a := b) (argsL := []) (rest := rest) (lenOf own_pd10 rfl) rfl (by show 2 * 0 + _ ≤ _; omega) (hb hby hd) (fun _ _ => ⟨rfl, eT, hc, hs⟩)
  dsimp only [Pt.U, Pt.locs, Pt.cells, Pt.slots] at X' e1 e2 e3 stp hQ
  subst e1 e2 e3
  exact own_trans stp (k v T' L' X' hQ)
set_option maxRecDepth 65536 in
theorem own_lk14 {p : Program} {l : Launch} {e : Env} {R : Room} {s : State} {m : MethodId} {args : Array Value} {below : List Frame} {meth : Method} {c : Code} {T : State} {locs : List Loc} {cells slots : Nat} {F : Option Value → State → Prop} {bs : ByteArray} {pc pc' : Nat} {Ls : Array Slot} {Z : State} {a0 : Array Value} {h : Heap} {x0 : Value} {x1 : Value} {x2 : Value} {x3 : Value} {b : Addr} {rest : List Value} {W : Nat} {rm : Room} {Q : Option Value → Heap → List Loc → Prop} (hw : ∀ d ∈ tables_1, d.before a0 Z = true) (X : Stand p l e R s m args below meth c T locs cells slots) (hx : p.tables.exec = Jvm.exec) (hZ : Z.Warmed39 s.vm) (hby : c.code = bs) (hsz : Ls.size = c.maxLocals) (hown : s.vm.findClass "com/example/earnest_reactor/earnestreactor/core/TimerQueueIsEmptyPinLaw" = some m.cls) (hd : decode bs pc = .ok (.invokespecial 12, 3)) (hp : pc + 3 = pc') (eT : T.heap = h) (hW : (rest.map fun v => v.category).sum ≤ W)
    (hM : MetFree l (⟨"com/example/earnest_reactor/earnestreactor/core/ScheduledTask", "<init>", "(Lcom/example/earnest_reactor/earnestreactor/core/EventLoop;JJLjava/lang/Runnable;)V"⟩ : MethodName) (head1 [(Cond.code (⟨"com/example/earnest_reactor/earnestreactor/core/ScheduledTask", "<init>", "(Lcom/example/earnest_reactor/earnestreactor/core/EventLoop;JJLjava/lang/Runnable;)V"⟩ : MethodName) prog_31_method_1_code 7 none)] rm) (fun aa U => aa = #[.ref b, x0, x1, x2, x3] ∧ Z.Warmed39 U.vm ∧ U.heap = h) (fun _ _ _ _ _ => True) (fun _ U o U' => ∃ v L, o = .returned v ∧ Q v U'.heap L ∧ FrameEnd U o U' L rm.cells rm.slots)) (hf : rm.frames + 1 ≤ R.frames) (hl : W + (7 + 11) + rm.locals ≤ R.locals) (hc : cells + rm.cells ≤ R.cells) (hs : slots + rm.slots ≤ R.slots)
    (k : ∀ v T' L', Stand p l e R s m args below meth c T' (locs ++ L') (cells + rm.cells) (slots + rm.slots) → Q v T'.heap L' → own_End p e below F (T'.setTop (mkF m pc' Ls (v.toList ++ rest)))) : own_End p e below F (T.setTop (mkF m pc Ls (x3 :: x2 :: x1 :: x0 :: .ref b :: rest))) := by
  subst hp
  obtain ⟨v, _, ⟨T', L0, k0, n0⟩, -, X', ⟨L', hQ, e1, e2, e3⟩, stp⟩ := X.specialBack hx (y := (⟨"com/example/earnest_reactor/earnestreactor/core/ScheduledTask", "<init>", "(Lcom/example/earnest_reactor/earnestreactor/core/EventLoop;JJLjava/lang/Runnable;)V"⟩ : MethodName)) rfl hown (mvT hZ (wd_16 hw)) (mvT hZ (wd_17 hw)) (mvT hZ (wd_18 hw)) (by decide) (backOf (W := W) hM hZ (wd_18 hw) (wd_15 hw) hf hl) (g := mkF m pc Ls (x3 :: x2 :: x1 :: x0 :: .ref b :: rest)) rfl hsz (Steps.refl _) (a := b) (argsL := [x0, x1, x2, x3]) (rest := rest) (lenOf own_pd11 rfl) rfl (by show 2 * 0 + _ ≤ _; omega) (hb hby hd) (fun _ _ => ⟨rfl, eT, hc, hs⟩)
  dsimp only [Pt.U, Pt.locs, Pt.cells, Pt.slots] at X' e1 e2 e3 stp hQ
  subst e1 e2 e3
  exact own_trans stp (k v T' L' X' hQ)

def own_TK (Z : State) (h : Heap) (a : Addr) (v0 : Value) (v1 : Int64) (v2 : Int64) (v3 : Value) (v4 : Int32) : Prop := Exa Z h a "com/example/earnest_reactor/earnestreactor/core/ScheduledTask" ∧ Fld Z h a "com/example/earnest_reactor/earnestreactor/core/ScheduledTask" "loop" "Lcom/example/earnest_reactor/earnestreactor/core/EventLoop;" v0 ∧ Fld Z h a "com/example/earnest_reactor/earnestreactor/core/ScheduledTask" "deadline" "J" (.long v1) ∧ Fld Z h a "com/example/earnest_reactor/earnestreactor/core/ScheduledTask" "sequence" "J" (.long v2) ∧ Fld Z h a "com/example/earnest_reactor/earnestreactor/core/ScheduledTask" "task" "Ljava/lang/Runnable;" v3 ∧ Fld Z h a "com/example/earnest_reactor/earnestreactor/core/ScheduledTask" "queueIndex" "I" (.int v4)
theorem own_TK.ext {Z : State} {h h' : Heap} {a : Addr} {v0 : Value} {v1 : Int64} {v2 : Int64} {v3 : Value} {v4 : Int32} (O : own_TK Z h a v0 v1 v2 v3 v4) (X : Ext h h') : own_TK Z h' a v0 v1 v2 v3 v4 := by
  obtain ⟨E, F0, F1, F2, F3, F4⟩ := O
  exact ⟨E.ext X, F0.ext X, F1.ext X, F2.ext X, F3.ext X, F4.ext X⟩
theorem own_TK.keep {Z : State} {h h' : Heap} {a : Addr} {v0 : Value} {v1 : Int64} {v2 : Int64} {v3 : Value} {v4 : Int32} (O : own_TK Z h a v0 v1 v2 v3 v4) {ws : List Addr} (K : Keep h h' ws) (q : a ∉ ws) : own_TK Z h' a v0 v1 v2 v3 v4 := by
  obtain ⟨E, F0, F1, F2, F3, F4⟩ := O
  exact ⟨E.keep K, F0.keep K q, F1.keep K q, F2.keep K q, F3.keep K q, F4.keep K q⟩
theorem own_TK.other {Z : State} {h h' : Heap} {a : Addr} {v0 : Value} {v1 : Int64} {v2 : Int64} {v3 : Value} {v4 : Int32} (O : own_TK Z h a v0 v1 v2 v3 v4) {b : Addr} {sl : Nat} {v : Value} (W : Wr h h' b sl v) (q : a ≠ b) : own_TK Z h' a v0 v1 v2 v3 v4 := by
  obtain ⟨E, F0, F1, F2, F3, F4⟩ := O
  exact ⟨E.wr W, F0.other W (Or.inl q), F1.other W (Or.inl q), F2.other W (Or.inl q), F3.other W (Or.inl q), F4.other W (Or.inl q)⟩
theorem own_TK.lt {Z : State} {h : Heap} {a : Addr} {v0 : Value} {v1 : Int64} {v2 : Int64} {v3 : Value} {v4 : Int32} (O : own_TK Z h a v0 v1 v2 v3 v4) : a < h.size := by
  obtain ⟨E, F0, F1, F2, F3, F4⟩ := O
  exact E.lt
def own_TQ (Z : State) (h : Heap) (a : Addr) (v0 : Value) (v1 : Int32) : Prop := Exa Z h a "com/example/earnest_reactor/earnestreactor/core/TimerQueue" ∧ Fld Z h a "com/example/earnest_reactor/earnestreactor/core/TimerQueue" "heap" "[Lcom/example/earnest_reactor/earnestreactor/core/ScheduledTask;" v0 ∧ Fld Z h a "com/example/earnest_reactor/earnestreactor/core/TimerQueue" "size" "I" (.int v1)
theorem own_TQ.ext {Z : State} {h h' : Heap} {a : Addr} {v0 : Value} {v1 : Int32} (O : own_TQ Z h a v0 v1) (X : Ext h h') : own_TQ Z h' a v0 v1 := by
  obtain ⟨E, F0, F1⟩ := O
  exact ⟨E.ext X, F0.ext X, F1.ext X⟩
theorem own_TQ.keep {Z : State} {h h' : Heap} {a : Addr} {v0 : Value} {v1 : Int32} (O : own_TQ Z h a v0 v1) {ws : List Addr} (K : Keep h h' ws) (q : a ∉ ws) : own_TQ Z h' a v0 v1 := by
  obtain ⟨E, F0, F1⟩ := O
  exact ⟨E.keep K, F0.keep K q, F1.keep K q⟩
theorem own_TQ.other {Z : State} {h h' : Heap} {a : Addr} {v0 : Value} {v1 : Int32} (O : own_TQ Z h a v0 v1) {b : Addr} {sl : Nat} {v : Value} (W : Wr h h' b sl v) (q : a ≠ b) : own_TQ Z h' a v0 v1 := by
  obtain ⟨E, F0, F1⟩ := O
  exact ⟨E.wr W, F0.other W (Or.inl q), F1.other W (Or.inl q)⟩
theorem own_TQ.lt {Z : State} {h : Heap} {a : Addr} {v0 : Value} {v1 : Int32} (O : own_TQ Z h a v0 v1) : a < h.size := by
  obtain ⟨E, F0, F1⟩ := O
  exact E.lt
def own_rb (dx sx dy sy : Int64) : Int32 := if dx - dy < (0 : Int64) then 1 else if dx - dy = (0 : Int64) then (if sx < sy then 1 else 0) else 0
theorem own_rb0 {dx sx dy sy : Int64} (h : ¬ own_rb dx sx dy sy = (1 : Int32)) : own_rb dx sx dy sy = (0 : Int32) := by
  unfold own_rb at h ⊢
  split at h
  · exact absurd rfl h
  · split at h
    · split at h
      · exact absurd rfl h
      · rename_i a b c; simp [a, b, c]
    · rename_i a b; simp [a, b]
theorem own_ef_rmNT (m : MethodId) (a : Addr) (p1 : Int64) (p2 : Int64)  : entryFrame m #[(.ref a), .null, (.long p1), (.long p2), .null] 7 = mkF m 0 #[.val (.ref a), .val .null, .val (.long p1), .second, .val (.long p2), .second, .val .null] [] := by first | (simp [entryFrame, mkF, argsToLocals, Value.category]; done) | rfl
def QNT (Z : State) (a : Addr) (p1 : Int64) (p2 : Int64) (h0 : Heap) (n0 : Nat) (v : Option Value) (h : Heap) (L : List Loc) : Prop := v = none ∧ Fr n0 L ∧ Keep h0 h [a] ∧ own_TK Z h a .null p1 p2 .null (-1 : Int32)
set_option maxRecDepth 65536 in
set_option maxHeartbeats 40000000 in
theorem rmNT (l : Launch) (Z : State) (a0 : Array Value) (hw : ∀ d ∈ tables_1, d.before a0 Z = true) (ws : List Jvm.Cond) (a : Addr) (p1 : Int64) (p2 : Int64) (h0 : Heap) (n0 : Nat) (Z0 : n0 ≤ h0.size) (f_O_a : own_TK Z h0 a .null (0 : Int64) (0 : Int64) .null (0 : Int32)) (ge_a : n0 ≤ a) :
    MetFree l (⟨"com/example/earnest_reactor/earnestreactor/core/ScheduledTask", "<init>", "(Lcom/example/earnest_reactor/earnestreactor/core/EventLoop;JJLjava/lang/Runnable;)V"⟩ : MethodName) (head1 (Jvm.Cond.code (⟨"com/example/earnest_reactor/earnestreactor/core/ScheduledTask", "<init>", "(Lcom/example/earnest_reactor/earnestreactor/core/EventLoop;JJLjava/lang/Runnable;)V"⟩ : MethodName) prog_31_method_1_code 7 none :: ws) ({ frames := 1, cells := 0, slots := 0, locals := 12 } : Room)) (fun aa U => aa = #[(.ref a), .null, (.long p1), (.long p2), .null] ∧ Z.Warmed39 U.vm ∧ U.heap = h0) (fun _ _ _ _ _ => True) (fun _ U oc U' => ∃ v L, oc = .returned v ∧ QNT Z a p1 p2 h0 n0 v U'.heap L ∧ FrameEnd U oc U' L ({ frames := 1, cells := 0, slots := 0, locals := 12 } : Room).cells ({ frames := 1, cells := 0, slots := 0, locals := 12 } : Room).slots) := by
  refine MetFree.of_bodySF (plainFor_of_name own_pn0) hisR ?_
  intro p e s m args below meth c s₁ Bd hml0 hP hK
  obtain ⟨rfl, hZ, hh⟩ := hP
  have hx := Bd.exec
  have hby := Bd.bytes
  have hlk := Bd.notSynchronized
  have hret := Bd.returns
  have hml : c.maxLocals = 7 := hml0
  have hown : s.vm.findClass "com/example/earnest_reactor/earnestreactor/core/ScheduledTask" = some m.cls := findClass_of_methodNamed Bd.named
  have hnm := (name_of_methodNamed Bd.named Bd.method).1
  have X0 : Stand p l e ({ frames := 1, cells := 0, slots := 0, locals := 12 } : Room) s m #[(.ref a), .null, (.long p1), (.long p2), .null] below meth c s₁ [] 0 0 := Stand.of_body Bd
  have e0 : s₁.heap = h0 := by rw [← hh, Bd.state]; rfl
  have N0 := Fr.nil n0
  refine own_body (Q := QNT Z a p1 p2 h0 n0) (KC := ({ frames := 1, cells := 0, slots := 0, locals := 12 } : Room).cells) (KS := ({ frames := 1, cells := 0, slots := 0, locals := 12 } : Room).slots) ?_
  rw [own_ef_rmNT m a p1 p2]
  have Kp : Keep h0 h0 [a] := Keep.refl h0 _
  refine own_aloadN X0 hx hby d3_0 (pc' := 1) rfl rfl rfl ?_
  refine own_init X0 hx hZ hby hown (wd_19 hw) (wd_7 hw) (wd_8 hw) e0 (by rw [hml]; rfl) d3_1 (pc' := 4) rfl (by decide) (W := 0) (Nat.le_of_eq rfl) (by decide) (fun T1 X1 e1 => ?_)
  refine own_aloadN X1 hx hby d3_4 (pc' := 5) rfl rfl rfl ?_
  refine own_iconst X1 hx hby d3_5 (pc' := 6) rfl (n := (-1 : Int32)) (by decide) ?_
  obtain ⟨f_E_a, f_F_a_loop, f_F_a_deadline, f_F_a_sequence, f_F_a_task, f_F_a_queueIndex⟩ := f_O_a
  refine own_putF X1 hx hZ hby hown (host := "") (Or.inl (wd_20 hw)) Via.refl e1 f_F_a_queueIndex f_E_a (Or.inl (wd_21 hw)) (wd_14 hw) (ty := .int) (by decide) rfl rfl d3_6 (pc' := 9) rfl (fun T2 h2 X2 e2 W2 => ?_)
  have f_F_a_queueIndex := f_F_a_queueIndex.same W2
  have f_E_a := f_E_a.wr W2
  have f_F_a_loop := f_F_a_loop.other W2 (Or.inr (slot_ne (Or.inr (wd_23 hw)) (Or.inl (wd_21 hw)) (by decide) (t := (.object "com/example/earnest_reactor/earnestreactor/core/EventLoop")) (t' := .int) (by decide) (by decide)))
  have f_F_a_deadline := f_F_a_deadline.other W2 (Or.inr (slot_ne (Or.inr (wd_25 hw)) (Or.inl (wd_21 hw)) (by decide) (t := .long) (t' := .int) (by decide) (by decide)))
  have f_F_a_sequence := f_F_a_sequence.other W2 (Or.inr (slot_ne (Or.inr (wd_27 hw)) (Or.inl (wd_21 hw)) (by decide) (t := .long) (t' := .int) (by decide) (by decide)))
  have f_F_a_task := f_F_a_task.other W2 (Or.inr (slot_ne (Or.inr (wd_29 hw)) (Or.inl (wd_21 hw)) (by decide) (t := (.object "java/lang/Runnable")) (t' := .int) (by decide) (by decide)))
  have Zn := Nat.le_trans Z0 (Keep.of_wr W2).1
  have Kp := Kp.wr W2 (Or.inl (List.mem_of_getElem? (i := 0) rfl))
  have N2 := Fr.snoc X2 N0 ge_a
  refine own_aloadN X2 hx hby d3_9 (pc' := 10) rfl rfl rfl ?_
  refine own_aloadN X2 hx hby d3_10 (pc' := 11) rfl rfl rfl ?_
  refine own_putF X2 hx hZ hby hown (host := "") (Or.inl (wd_22 hw)) Via.refl e2 f_F_a_loop f_E_a (Or.inr ⟨(wd_23 hw), rfl, hnm⟩) (wd_14 hw) (ty := (.object "com/example/earnest_reactor/earnestreactor/core/EventLoop")) (by decide) rfl rfl d3_11 (pc' := 14) rfl (fun T3 h3 X3 e3 W3 => ?_)
  have f_F_a_loop := f_F_a_loop.same W3
  have f_E_a := f_E_a.wr W3
  have f_F_a_deadline := f_F_a_deadline.other W3 (Or.inr (slot_ne (Or.inr (wd_25 hw)) (Or.inr (wd_23 hw)) (by decide) (t := .long) (t' := (.object "com/example/earnest_reactor/earnestreactor/core/EventLoop")) (by decide) (by decide)))
  have f_F_a_sequence := f_F_a_sequence.other W3 (Or.inr (slot_ne (Or.inr (wd_27 hw)) (Or.inr (wd_23 hw)) (by decide) (t := .long) (t' := (.object "com/example/earnest_reactor/earnestreactor/core/EventLoop")) (by decide) (by decide)))
  have f_F_a_task := f_F_a_task.other W3 (Or.inr (slot_ne (Or.inr (wd_29 hw)) (Or.inr (wd_23 hw)) (by decide) (t := (.object "java/lang/Runnable")) (t' := (.object "com/example/earnest_reactor/earnestreactor/core/EventLoop")) (by decide) (by decide)))
  have f_F_a_queueIndex := f_F_a_queueIndex.other W3 (Or.inr (slot_ne (Or.inl (wd_21 hw)) (Or.inr (wd_23 hw)) (by decide) (t := .int) (t' := (.object "com/example/earnest_reactor/earnestreactor/core/EventLoop")) (by decide) (by decide)))
  have Zn := Nat.le_trans Zn (Keep.of_wr W3).1
  have Kp := Kp.wr W3 (Or.inl (List.mem_of_getElem? (i := 0) rfl))
  have N3 := Fr.snoc X3 N2 ge_a
  refine own_aloadN X3 hx hby d3_14 (pc' := 15) rfl rfl rfl ?_
  refine own_lloadN X3 hx hby d3_15 (pc' := 16) rfl rfl ?_
  refine own_putF X3 hx hZ hby hown (host := "") (Or.inl (wd_24 hw)) Via.refl e3 f_F_a_deadline f_E_a (Or.inr ⟨(wd_25 hw), rfl, hnm⟩) (wd_14 hw) (ty := .long) (by decide) rfl rfl d3_16 (pc' := 19) rfl (fun T4 h4 X4 e4 W4 => ?_)
  have f_F_a_deadline := f_F_a_deadline.same W4
  have f_E_a := f_E_a.wr W4
  have f_F_a_loop := f_F_a_loop.other W4 (Or.inr (slot_ne (Or.inr (wd_23 hw)) (Or.inr (wd_25 hw)) (by decide) (t := (.object "com/example/earnest_reactor/earnestreactor/core/EventLoop")) (t' := .long) (by decide) (by decide)))
  have f_F_a_sequence := f_F_a_sequence.other W4 (Or.inr (slot_ne (Or.inr (wd_27 hw)) (Or.inr (wd_25 hw)) (by decide) (t := .long) (t' := .long) (by decide) (by decide)))
  have f_F_a_task := f_F_a_task.other W4 (Or.inr (slot_ne (Or.inr (wd_29 hw)) (Or.inr (wd_25 hw)) (by decide) (t := (.object "java/lang/Runnable")) (t' := .long) (by decide) (by decide)))
  have f_F_a_queueIndex := f_F_a_queueIndex.other W4 (Or.inr (slot_ne (Or.inl (wd_21 hw)) (Or.inr (wd_25 hw)) (by decide) (t := .int) (t' := .long) (by decide) (by decide)))
  have Zn := Nat.le_trans Zn (Keep.of_wr W4).1
  have Kp := Kp.wr W4 (Or.inl (List.mem_of_getElem? (i := 0) rfl))
  have N4 := Fr.snoc X4 N3 ge_a
  refine own_aloadN X4 hx hby d3_19 (pc' := 20) rfl rfl rfl ?_
  refine own_lload X4 hx hby d3_20 (pc' := 22) rfl rfl ?_
  refine own_putF X4 hx hZ hby hown (host := "") (Or.inl (wd_26 hw)) Via.refl e4 f_F_a_sequence f_E_a (Or.inr ⟨(wd_27 hw), rfl, hnm⟩) (wd_14 hw) (ty := .long) (by decide) rfl rfl d3_22 (pc' := 25) rfl (fun T5 h5 X5 e5 W5 => ?_)
  have f_F_a_sequence := f_F_a_sequence.same W5
  have f_E_a := f_E_a.wr W5
  have f_F_a_loop := f_F_a_loop.other W5 (Or.inr (slot_ne (Or.inr (wd_23 hw)) (Or.inr (wd_27 hw)) (by decide) (t := (.object "com/example/earnest_reactor/earnestreactor/core/EventLoop")) (t' := .long) (by decide) (by decide)))
  have f_F_a_deadline := f_F_a_deadline.other W5 (Or.inr (slot_ne (Or.inr (wd_25 hw)) (Or.inr (wd_27 hw)) (by decide) (t := .long) (t' := .long) (by decide) (by decide)))
  have f_F_a_task := f_F_a_task.other W5 (Or.inr (slot_ne (Or.inr (wd_29 hw)) (Or.inr (wd_27 hw)) (by decide) (t := (.object "java/lang/Runnable")) (t' := .long) (by decide) (by decide)))
  have f_F_a_queueIndex := f_F_a_queueIndex.other W5 (Or.inr (slot_ne (Or.inl (wd_21 hw)) (Or.inr (wd_27 hw)) (by decide) (t := .int) (t' := .long) (by decide) (by decide)))
  have Zn := Nat.le_trans Zn (Keep.of_wr W5).1
  have Kp := Kp.wr W5 (Or.inl (List.mem_of_getElem? (i := 0) rfl))
  have N5 := Fr.snoc X5 N4 ge_a
  refine own_aloadN X5 hx hby d3_25 (pc' := 26) rfl rfl rfl ?_
  refine own_aload X5 hx hby d3_26 (pc' := 28) rfl rfl rfl ?_
  refine own_putF X5 hx hZ hby hown (host := "") (Or.inl (wd_28 hw)) Via.refl e5 f_F_a_task f_E_a (Or.inr ⟨(wd_29 hw), rfl, hnm⟩) (wd_14 hw) (ty := (.object "java/lang/Runnable")) (by decide) rfl rfl d3_28 (pc' := 31) rfl (fun T6 h6 X6 e6 W6 => ?_)
  have f_F_a_task := f_F_a_task.same W6
  have f_E_a := f_E_a.wr W6
  have f_F_a_loop := f_F_a_loop.other W6 (Or.inr (slot_ne (Or.inr (wd_23 hw)) (Or.inr (wd_29 hw)) (by decide) (t := (.object "com/example/earnest_reactor/earnestreactor/core/EventLoop")) (t' := (.object "java/lang/Runnable")) (by decide) (by decide)))
  have f_F_a_deadline := f_F_a_deadline.other W6 (Or.inr (slot_ne (Or.inr (wd_25 hw)) (Or.inr (wd_29 hw)) (by decide) (t := .long) (t' := (.object "java/lang/Runnable")) (by decide) (by decide)))
  have f_F_a_sequence := f_F_a_sequence.other W6 (Or.inr (slot_ne (Or.inr (wd_27 hw)) (Or.inr (wd_29 hw)) (by decide) (t := .long) (t' := (.object "java/lang/Runnable")) (by decide) (by decide)))
  have f_F_a_queueIndex := f_F_a_queueIndex.other W6 (Or.inr (slot_ne (Or.inl (wd_21 hw)) (Or.inr (wd_29 hw)) (by decide) (t := .int) (t' := (.object "java/lang/Runnable")) (by decide) (by decide)))
  have Zn := Nat.le_trans Zn (Keep.of_wr W6).1
  have Kp := Kp.wr W6 (Or.inl (List.mem_of_getElem? (i := 0) rfl))
  have N6 := Fr.snoc X6 N5 ge_a
  refine own_return X6 hx hlk hby hret d3_31 (own_lv ?_ (by decide) (by decide))
  show QNT Z a p1 p2  h0 n0 none T6.heap _
  rw [e6]
  exact ⟨rfl, N6, Kp, ⟨f_E_a, f_F_a_loop, f_F_a_deadline, f_F_a_sequence, f_F_a_task, f_F_a_queueIndex⟩⟩
theorem own_ef_rmNQ (m : MethodId) (a : Addr)  : entryFrame m #[(.ref a)] 1 = mkF m 0 #[.val (.ref a)] [] := by first | (simp [entryFrame, mkF, argsToLocals, Value.category]; done) | rfl
def QNQ (Z : State) (a : Addr) (h0 : Heap) (n0 : Nat) (v : Option Value) (h : Heap) (L : List Loc) : Prop := v = none ∧ Fr n0 L ∧ Keep h0 h [a] ∧ ∃ (w : Addr) (kk : ClassId), h0.size ≤ w ∧ own_TQ Z h a (.ref w) 0 ∧ Arv Z h w kk (.object "com/example/earnest_reactor/earnestreactor/core/ScheduledTask") (16 : Int32) [.null, .null, .null] .null ∧ Ovr Z kk "com/example/earnest_reactor/earnestreactor/core/ScheduledTask"
set_option maxRecDepth 65536 in
set_option maxHeartbeats 40000000 in
theorem rmNQ (l : Launch) (Z : State) (a0 : Array Value) (hw : ∀ d ∈ tables_1, d.before a0 Z = true) (ws : List Jvm.Cond) (a : Addr) (h0 : Heap) (n0 : Nat) (Z0 : n0 ≤ h0.size) (f_O_a : own_TQ Z h0 a .null (0 : Int32)) (ge_a : n0 ≤ a) :
    MetFree l (⟨"com/example/earnest_reactor/earnestreactor/core/TimerQueue", "<init>", "()V"⟩ : MethodName) (head1 (Jvm.Cond.code (⟨"com/example/earnest_reactor/earnestreactor/core/TimerQueue", "<init>", "()V"⟩ : MethodName) prog_35_method_1_code 1 none :: ws) ({ frames := 1, cells := 1, slots := 16, locals := 12 } : Room)) (fun aa U => aa = #[(.ref a)] ∧ Z.Warmed39 U.vm ∧ U.heap = h0) (fun _ _ _ _ _ => True) (fun _ U oc U' => ∃ v L, oc = .returned v ∧ QNQ Z a h0 n0 v U'.heap L ∧ FrameEnd U oc U' L ({ frames := 1, cells := 1, slots := 16, locals := 12 } : Room).cells ({ frames := 1, cells := 1, slots := 16, locals := 12 } : Room).slots) := by
  refine MetFree.of_bodySF (plainFor_of_name own_pn1) hisR ?_
  intro p e s m args below meth c s₁ Bd hml0 hP hK
  obtain ⟨rfl, hZ, hh⟩ := hP
  have hx := Bd.exec
  have hby := Bd.bytes
  have hlk := Bd.notSynchronized
  have hret := Bd.returns
  have hml : c.maxLocals = 1 := hml0
  have hown : s.vm.findClass "com/example/earnest_reactor/earnestreactor/core/TimerQueue" = some m.cls := findClass_of_methodNamed Bd.named
  have hnm := (name_of_methodNamed Bd.named Bd.method).1
  have X0 : Stand p l e ({ frames := 1, cells := 1, slots := 16, locals := 12 } : Room) s m #[(.ref a)] below meth c s₁ [] 0 0 := Stand.of_body Bd
  have e0 : s₁.heap = h0 := by rw [← hh, Bd.state]; rfl
  have N0 := Fr.nil n0
  refine own_body (Q := QNQ Z a h0 n0) (KC := ({ frames := 1, cells := 1, slots := 16, locals := 12 } : Room).cells) (KS := ({ frames := 1, cells := 1, slots := 16, locals := 12 } : Room).slots) ?_
  rw [own_ef_rmNQ m a]
  have Kp : Keep h0 h0 [a] := Keep.refl h0 _
  refine own_aloadN X0 hx hby d1_0 (pc' := 1) rfl rfl rfl ?_
  refine own_init X0 hx hZ hby hown (wd_6 hw) (wd_7 hw) (wd_8 hw) e0 (by rw [hml]; rfl) d1_1 (pc' := 4) rfl (by decide) (W := 0) (Nat.le_of_eq rfl) (by decide) (fun T1 X1 e1 => ?_)
  refine own_aloadN X1 hx hby d1_4 (pc' := 5) rfl rfl rfl ?_
  refine own_bipush X1 hx hby d1_5 (pc' := 7) rfl (n := (16 : Int32)) (by decide) ?_
  refine own_newR X1 hx hZ hby hown (wd_9 hw) (wd_10 hw) e1 d1_7 (pc' := 10) rfl (by decide) (cap := 16) (by decide) (by decide) (by decide) (by decide) (fun T2 h2 k2 b2 g2 X2 e2 E2 A2 O2 => ?_)
  have ne_a_b2 : a ≠ b2 := Nat.ne_of_lt (by rw [g2]; exact f_O_a.lt)
  have ge_b2 : n0 ≤ b2 := by rw [g2]; exact Z0
  have sz_b2 : h0.size ≤ b2 := by rw [g2]; exact Kp.1
  have f_O_a := f_O_a.ext E2
  have Zn := Nat.le_trans Z0 E2.1
  have Kp := Kp.ext E2
  have f_V_b2 : Arv Z h2 b2 k2 (.object "com/example/earnest_reactor/earnestreactor/core/ScheduledTask") (16 : Int32) [.null, .null, .null, .null, .null, .null, .null, .null, .null, .null, .null, .null, .null, .null, .null, .null] .null := (Arv.new A2 (by decide)).pad (pad_rep [] .null 16)
  obtain ⟨f_E_a, f_F_a_heap, f_F_a_size⟩ := f_O_a
  refine own_putF X2 hx hZ hby hown (host := "") (Or.inl (wd_11 hw)) Via.refl e2 f_F_a_heap f_E_a (Or.inl (wd_12 hw)) (wd_1 hw) (ty := (.array (.object "com/example/earnest_reactor/earnestreactor/core/ScheduledTask"))) (by decide) rfl rfl d1_10 (pc' := 13) rfl (fun T3 h3 X3 e3 W3 => ?_)
  have f_F_a_heap := f_F_a_heap.same W3
  have f_V_b2 := f_V_b2.other W3 (Ne.symm ne_a_b2)
  have f_E_a := f_E_a.wr W3
  have f_F_a_size := f_F_a_size.other W3 (Or.inr (slot_ne (Or.inl (wd_37 hw)) (Or.inl (wd_12 hw)) (by decide) (t := .int) (t' := (.array (.object "com/example/earnest_reactor/earnestreactor/core/ScheduledTask"))) (by decide) (by decide)))
  have Zn := Nat.le_trans Zn (Keep.of_wr W3).1
  have Kp := Kp.wr W3 (Or.inl (List.mem_of_getElem? (i := 0) rfl))
  have N3 := Fr.snoc X3 N0 ge_a
  refine own_return X3 hx hlk hby hret d1_13 (own_lv ?_ (by decide) (by decide))
  have V3 : Arv Z h3 b2 k2 (.object "com/example/earnest_reactor/earnestreactor/core/ScheduledTask") (16 : Int32) [.null, .null, .null] .null := f_V_b2.pad (fun i => by rcases i with _ | _ | _ | _ | _ | _ | _ | _ | _ | _ | _ | _ | _ | _ | _ | _ | i <;> rfl)
  show QNQ Z a  h0 n0 none T3.heap _
  rw [e3]
  exact ⟨rfl, N3, Kp, _, _, sz_b2, ⟨f_E_a, f_F_a_heap, f_F_a_size⟩, V3, O2⟩
theorem own_ef_rmSQ (m : MethodId) (a : Addr) (j : Int32)  : entryFrame m #[(.ref a), (.int j)] 2 = mkF m 0 #[.val (.ref a), .val (.int j)] [] := by first | (simp [entryFrame, mkF, argsToLocals, Value.category]; done) | rfl
def QSQ (Z : State) (a : Addr) (da : Int64) (sa : Int64) (i : Int32) (j : Int32) (h0 : Heap) (n0 : Nat) (v : Option Value) (h : Heap) (L : List Loc) : Prop := v = none ∧ Fr n0 L ∧ Keep h0 h [a] ∧ own_TK Z h a .null da sa .null j
set_option maxRecDepth 65536 in
set_option maxHeartbeats 40000000 in
theorem rmSQ (l : Launch) (Z : State) (a0 : Array Value) (hw : ∀ d ∈ tables_1, d.before a0 Z = true) (ws : List Jvm.Cond) (a : Addr) (da : Int64) (sa : Int64) (i : Int32) (j : Int32) (h0 : Heap) (n0 : Nat) (Z0 : n0 ≤ h0.size) (f_O_a : own_TK Z h0 a .null da sa .null i) (ge_a : n0 ≤ a) :
    MetFree l (⟨"com/example/earnest_reactor/earnestreactor/core/ScheduledTask", "queueIndex", "(I)V"⟩ : MethodName) (head1 (Jvm.Cond.code (⟨"com/example/earnest_reactor/earnestreactor/core/ScheduledTask", "queueIndex", "(I)V"⟩ : MethodName) prog_31_method_7_code 2 none :: ws) ({ frames := 0, cells := 0, slots := 0, locals := 0 } : Room)) (fun aa U => aa = #[(.ref a), (.int j)] ∧ Z.Warmed39 U.vm ∧ U.heap = h0) (fun _ _ _ _ _ => True) (fun _ U oc U' => ∃ v L, oc = .returned v ∧ QSQ Z a da sa i j h0 n0 v U'.heap L ∧ FrameEnd U oc U' L ({ frames := 0, cells := 0, slots := 0, locals := 0 } : Room).cells ({ frames := 0, cells := 0, slots := 0, locals := 0 } : Room).slots) := by
  refine MetFree.of_bodySF (plainFor_of_name own_pn0) hisR ?_
  intro p e s m args below meth c s₁ Bd hml0 hP hK
  obtain ⟨rfl, hZ, hh⟩ := hP
  have hx := Bd.exec
  have hby := Bd.bytes
  have hlk := Bd.notSynchronized
  have hret := Bd.returns
  have hml : c.maxLocals = 2 := hml0
  have hown : s.vm.findClass "com/example/earnest_reactor/earnestreactor/core/ScheduledTask" = some m.cls := findClass_of_methodNamed Bd.named
  have hnm := (name_of_methodNamed Bd.named Bd.method).1
  have X0 : Stand p l e ({ frames := 0, cells := 0, slots := 0, locals := 0 } : Room) s m #[(.ref a), (.int j)] below meth c s₁ [] 0 0 := Stand.of_body Bd
  have e0 : s₁.heap = h0 := by rw [← hh, Bd.state]; rfl
  have N0 := Fr.nil n0
  refine own_body (Q := QSQ Z a da sa i j h0 n0) (KC := ({ frames := 0, cells := 0, slots := 0, locals := 0 } : Room).cells) (KS := ({ frames := 0, cells := 0, slots := 0, locals := 0 } : Room).slots) ?_
  rw [own_ef_rmSQ m a j]
  have Kp : Keep h0 h0 [a] := Keep.refl h0 _
  refine own_aloadN X0 hx hby d10_0 (pc' := 1) rfl rfl rfl ?_
  refine own_iloadN X0 hx hby d10_1 (pc' := 2) rfl rfl ?_
  obtain ⟨f_E_a, f_F_a_loop, f_F_a_deadline, f_F_a_sequence, f_F_a_task, f_F_a_queueIndex⟩ := f_O_a
  refine own_putF X0 hx hZ hby hown (host := "") (Or.inl (wd_20 hw)) Via.refl e0 f_F_a_queueIndex f_E_a (Or.inl (wd_21 hw)) (wd_14 hw) (ty := .int) (by decide) rfl rfl d10_2 (pc' := 5) rfl (fun T1 h1 X1 e1 W1 => ?_)
  have f_F_a_queueIndex := f_F_a_queueIndex.same W1
  have f_E_a := f_E_a.wr W1
  have f_F_a_loop := f_F_a_loop.other W1 (Or.inr (slot_ne (Or.inr (wd_23 hw)) (Or.inl (wd_21 hw)) (by decide) (t := (.object "com/example/earnest_reactor/earnestreactor/core/EventLoop")) (t' := .int) (by decide) (by decide)))
  have f_F_a_deadline := f_F_a_deadline.other W1 (Or.inr (slot_ne (Or.inr (wd_25 hw)) (Or.inl (wd_21 hw)) (by decide) (t := .long) (t' := .int) (by decide) (by decide)))
  have f_F_a_sequence := f_F_a_sequence.other W1 (Or.inr (slot_ne (Or.inr (wd_27 hw)) (Or.inl (wd_21 hw)) (by decide) (t := .long) (t' := .int) (by decide) (by decide)))
  have f_F_a_task := f_F_a_task.other W1 (Or.inr (slot_ne (Or.inr (wd_29 hw)) (Or.inl (wd_21 hw)) (by decide) (t := (.object "java/lang/Runnable")) (t' := .int) (by decide) (by decide)))
  have Zn := Nat.le_trans Z0 (Keep.of_wr W1).1
  have Kp := Kp.wr W1 (Or.inl (List.mem_of_getElem? (i := 0) rfl))
  have N1 := Fr.snoc X1 N0 ge_a
  refine own_return X1 hx hlk hby hret d10_5 (own_lv ?_ (by decide) (by decide))
  show QSQ Z a da sa i j  h0 n0 none T1.heap _
  rw [e1]
  exact ⟨rfl, N1, Kp, ⟨f_E_a, f_F_a_loop, f_F_a_deadline, f_F_a_sequence, f_F_a_task, f_F_a_queueIndex⟩⟩
theorem own_ef_rmGQ (m : MethodId) (a : Addr)  : entryFrame m #[(.ref a)] 1 = mkF m 0 #[.val (.ref a)] [] := by first | (simp [entryFrame, mkF, argsToLocals, Value.category]; done) | rfl
def QGQ (Z : State) (a : Addr) (da : Int64) (sa : Int64) (i : Int32) (h0 : Heap) (n0 : Nat) (v : Option Value) (h : Heap) (L : List Loc) : Prop := v = some (.int i) ∧ Fr n0 L ∧ h = h0
set_option maxRecDepth 65536 in
set_option maxHeartbeats 40000000 in
theorem rmGQ (l : Launch) (Z : State) (a0 : Array Value) (hw : ∀ d ∈ tables_1, d.before a0 Z = true) (ws : List Jvm.Cond) (a : Addr) (da : Int64) (sa : Int64) (i : Int32) (h0 : Heap) (n0 : Nat) (Z0 : n0 ≤ h0.size) (f_O_a : own_TK Z h0 a .null da sa .null i) :
    MetFree l (⟨"com/example/earnest_reactor/earnestreactor/core/ScheduledTask", "queueIndex", "()I"⟩ : MethodName) (head1 (Jvm.Cond.code (⟨"com/example/earnest_reactor/earnestreactor/core/ScheduledTask", "queueIndex", "()I"⟩ : MethodName) prog_31_method_6_code 1 (some .int) :: ws) ({ frames := 0, cells := 0, slots := 0, locals := 0 } : Room)) (fun aa U => aa = #[(.ref a)] ∧ Z.Warmed39 U.vm ∧ U.heap = h0) (fun _ _ _ _ _ => True) (fun _ U oc U' => ∃ v L, oc = .returned v ∧ QGQ Z a da sa i h0 n0 v U'.heap L ∧ FrameEnd U oc U' L ({ frames := 0, cells := 0, slots := 0, locals := 0 } : Room).cells ({ frames := 0, cells := 0, slots := 0, locals := 0 } : Room).slots) := by
  refine MetFree.of_bodySF (plainFor_of_name own_pn0) hisR ?_
  intro p e s m args below meth c s₁ Bd hml0 hP hK
  obtain ⟨rfl, hZ, hh⟩ := hP
  have hx := Bd.exec
  have hby := Bd.bytes
  have hlk := Bd.notSynchronized
  have hret := Bd.returns
  have hml : c.maxLocals = 1 := hml0
  have hown : s.vm.findClass "com/example/earnest_reactor/earnestreactor/core/ScheduledTask" = some m.cls := findClass_of_methodNamed Bd.named
  have hnm := (name_of_methodNamed Bd.named Bd.method).1
  have X0 : Stand p l e ({ frames := 0, cells := 0, slots := 0, locals := 0 } : Room) s m #[(.ref a)] below meth c s₁ [] 0 0 := Stand.of_body Bd
  have e0 : s₁.heap = h0 := by rw [← hh, Bd.state]; rfl
  have N0 := Fr.nil n0
  refine own_body (Q := QGQ Z a da sa i h0 n0) (KC := ({ frames := 0, cells := 0, slots := 0, locals := 0 } : Room).cells) (KS := ({ frames := 0, cells := 0, slots := 0, locals := 0 } : Room).slots) ?_
  rw [own_ef_rmGQ m a]
  refine own_aloadN X0 hx hby d16_0 (pc' := 1) rfl rfl rfl ?_
  obtain ⟨f_E_a, f_F_a_loop, f_F_a_deadline, f_F_a_sequence, f_F_a_task, f_F_a_queueIndex⟩ := f_O_a
  refine own_getF X0 hx hZ hby hown (host := "") (Or.inl (wd_20 hw)) Via.refl e0 f_F_a_queueIndex d16_1 (pc' := 4) rfl (fun T1 X1 e1 => ?_)
  refine own_ireturn X1 hx hlk hby hret d16_4 (own_lv ?_ (by decide) (by decide))
  show QGQ Z a da sa i  h0 n0 (some (.int i)) T1.heap _
  rw [e1]
  exact ⟨rfl, N0, rfl⟩
theorem own_ef_rmRB (m : MethodId) (x : Addr) (y : Addr)  : entryFrame m #[(.ref x), (.ref y)] 4 = mkF m 0 #[.val (.ref x), .val (.ref y), .unset, .unset] [] := by first | (simp [entryFrame, mkF, argsToLocals, Value.category]; done) | rfl
def QRB (Z : State) (x : Addr) (dx : Int64) (sx : Int64) (y : Addr) (dy : Int64) (sy : Int64) (i : Int32) (j : Int32) (z : Int32) (h0 : Heap) (n0 : Nat) (v : Option Value) (h : Heap) (L : List Loc) : Prop := v = some (.int z) ∧ Fr n0 L ∧ h = h0
set_option maxRecDepth 65536 in
set_option maxHeartbeats 40000000 in
theorem rmRB (l : Launch) (Z : State) (a0 : Array Value) (hw : ∀ d ∈ tables_1, d.before a0 Z = true) (ws : List Jvm.Cond) (x : Addr) (dx : Int64) (sx : Int64) (y : Addr) (dy : Int64) (sy : Int64) (i : Int32) (j : Int32) (z : Int32) (h0 : Heap) (n0 : Nat) (Z0 : n0 ≤ h0.size) (f_O_x : own_TK Z h0 x .null dx sx .null i) (f_O_y : own_TK Z h0 y .null dy sy .null j) (hz : own_rb dx sx dy sy = z) :
    MetFree l (⟨"com/example/earnest_reactor/earnestreactor/core/ScheduledTask", "runsBefore", "(Lcom/example/earnest_reactor/earnestreactor/core/ScheduledTask;)Z"⟩ : MethodName) (head1 (Jvm.Cond.code (⟨"com/example/earnest_reactor/earnestreactor/core/ScheduledTask", "runsBefore", "(Lcom/example/earnest_reactor/earnestreactor/core/ScheduledTask;)Z"⟩ : MethodName) prog_31_method_5_code 4 (some .boolean) :: ws) ({ frames := 0, cells := 0, slots := 0, locals := 0 } : Room)) (fun aa U => aa = #[(.ref x), (.ref y)] ∧ Z.Warmed39 U.vm ∧ U.heap = h0) (fun _ _ _ _ _ => True) (fun _ U oc U' => ∃ v L, oc = .returned v ∧ QRB Z x dx sx y dy sy i j z h0 n0 v U'.heap L ∧ FrameEnd U oc U' L ({ frames := 0, cells := 0, slots := 0, locals := 0 } : Room).cells ({ frames := 0, cells := 0, slots := 0, locals := 0 } : Room).slots) := by
  refine MetFree.of_bodySF (plainFor_of_name own_pn0) hisR ?_
  intro p e s m args below meth c s₁ Bd hml0 hP hK
  obtain ⟨rfl, hZ, hh⟩ := hP
  have hx := Bd.exec
  have hby := Bd.bytes
  have hlk := Bd.notSynchronized
  have hret := Bd.returns
  have hml : c.maxLocals = 4 := hml0
  have hown : s.vm.findClass "com/example/earnest_reactor/earnestreactor/core/ScheduledTask" = some m.cls := findClass_of_methodNamed Bd.named
  have hnm := (name_of_methodNamed Bd.named Bd.method).1
  have X0 : Stand p l e ({ frames := 0, cells := 0, slots := 0, locals := 0 } : Room) s m #[(.ref x), (.ref y)] below meth c s₁ [] 0 0 := Stand.of_body Bd
  have e0 : s₁.heap = h0 := by rw [← hh, Bd.state]; rfl
  have N0 := Fr.nil n0
  refine own_body (Q := QRB Z x dx sx y dy sy i j z h0 n0) (KC := ({ frames := 0, cells := 0, slots := 0, locals := 0 } : Room).cells) (KS := ({ frames := 0, cells := 0, slots := 0, locals := 0 } : Room).slots) ?_
  rw [own_ef_rmRB m x y]
  refine own_aloadN X0 hx hby d11_0 (pc' := 1) rfl rfl rfl ?_
  obtain ⟨f_E_x, f_F_x_loop, f_F_x_deadline, f_F_x_sequence, f_F_x_task, f_F_x_queueIndex⟩ := f_O_x
  refine own_getF X0 hx hZ hby hown (host := "") (Or.inl (wd_24 hw)) Via.refl e0 f_F_x_deadline d11_1 (pc' := 4) rfl (fun T1 X1 e1 => ?_)
  refine own_aloadN X1 hx hby d11_4 (pc' := 5) rfl rfl rfl ?_
  obtain ⟨f_E_y, f_F_y_loop, f_F_y_deadline, f_F_y_sequence, f_F_y_task, f_F_y_queueIndex⟩ := f_O_y
  refine own_getF X1 hx hZ hby hown (host := "") (Or.inl (wd_24 hw)) Via.refl e1 f_F_y_deadline d11_5 (pc' := 8) rfl (fun T2 X2 e2 => ?_)
  refine own_lsub X2 hx hby d11_8 (pc' := 9) rfl ?_
  refine own_lstoreN X2 hx hby d11_9 (pc' := 10) rfl (l' := #[.val (.ref x), .val (.ref y), .val (.long (dx - dy)), .second]) rfl ?_
  refine own_lloadN X2 hx hby d11_10 (pc' := 11) rfl rfl ?_
  refine own_lconst X2 hx hby d11_11 (pc' := 12) rfl (n := (0 : Int64)) (by decide) ?_
  refine own_lcmp X2 hx hby d11_12 (pc' := 13) rfl ?_
  refine own_ifL2 X2 hx hby d11_13 (pc1 := 34) (by decide) (by decide) (pc2 := 16) rfl (fun (hc13 : (dx - dy) < (0 : Int64)) => ?_) (fun (hc13 : ¬ (dx - dy) < (0 : Int64)) => ?_)
  · refine own_iconst X2 hx hby d11_34 (pc' := 35) rfl (n := (1 : Int32)) (by decide) ?_
    refine own_goto X2 hx hby d11_35 (pc' := 39) (by decide) (by decide) ?_
    refine own_zreturn X2 hx hlk hby hret (Or.inr rfl) d11_39 (own_lv ?_ (by decide) (by decide))
    show QRB Z x dx sx y dy sy i j z  h0 n0 (some (.int (1 : Int32))) T2.heap _
    rw [e2]
    exact ⟨by rw [← hz]; simp [own_rb, hc13], N0, rfl⟩
  · refine own_lloadN X2 hx hby d11_16 (pc' := 17) rfl rfl ?_
    refine own_lconst X2 hx hby d11_17 (pc' := 18) rfl (n := (0 : Int64)) (by decide) ?_
    refine own_lcmp X2 hx hby d11_18 (pc' := 19) rfl ?_
    refine own_ifL2 X2 hx hby d11_19 (pc1 := 38) (by decide) (by decide) (pc2 := 22) rfl (fun (hc19 : ¬ (dx - dy) = (0 : Int64)) => ?_) (fun (hc19 : (dx - dy) = (0 : Int64)) => ?_)
    · refine own_iconst X2 hx hby d11_38 (pc' := 39) rfl (n := (0 : Int32)) (by decide) ?_
      refine own_zreturn X2 hx hlk hby hret (Or.inl rfl) d11_39 (own_lv ?_ (by decide) (by decide))
      show QRB Z x dx sx y dy sy i j z  h0 n0 (some (.int (0 : Int32))) T2.heap _
      rw [e2]
      exact ⟨by rw [← hz]; simp [own_rb, hc13, hc19], N0, rfl⟩
    · refine own_aloadN X2 hx hby d11_22 (pc' := 23) rfl rfl rfl ?_
      refine own_getF X2 hx hZ hby hown (host := "") (Or.inl (wd_26 hw)) Via.refl e2 f_F_x_sequence d11_23 (pc' := 26) rfl (fun T3 X3 e3 => ?_)
      refine own_aloadN X3 hx hby d11_26 (pc' := 27) rfl rfl rfl ?_
      refine own_getF X3 hx hZ hby hown (host := "") (Or.inl (wd_26 hw)) Via.refl e3 f_F_y_sequence d11_27 (pc' := 30) rfl (fun T4 X4 e4 => ?_)
      refine own_lcmp X4 hx hby d11_30 (pc' := 31) rfl ?_
      refine own_ifL2 X4 hx hby d11_31 (pc1 := 38) (by decide) (by decide) (pc2 := 34) rfl (fun (hc31 : ¬ sx < sy) => ?_) (fun (hc31 : sx < sy) => ?_)
      · refine own_iconst X4 hx hby d11_38 (pc' := 39) rfl (n := (0 : Int32)) (by decide) ?_
        refine own_zreturn X4 hx hlk hby hret (Or.inl rfl) d11_39 (own_lv ?_ (by decide) (by decide))
        show QRB Z x dx sx y dy sy i j z  h0 n0 (some (.int (0 : Int32))) T4.heap _
        rw [e4]
        exact ⟨by rw [← hz]; simp [own_rb, hc13, hc19, hc31], N0, rfl⟩
      · refine own_iconst X4 hx hby d11_34 (pc' := 35) rfl (n := (1 : Int32)) (by decide) ?_
        refine own_goto X4 hx hby d11_35 (pc' := 39) (by decide) (by decide) ?_
        refine own_zreturn X4 hx hlk hby hret (Or.inr rfl) d11_39 (own_lv ?_ (by decide) (by decide))
        show QRB Z x dx sx y dy sy i j z  h0 n0 (some (.int (1 : Int32))) T4.heap _
        rw [e4]
        exact ⟨by rw [← hz]; simp [own_rb, hc13, hc19, hc31], N0, rfl⟩
theorem own_ef_rmPL0 (m : MethodId) (q : Addr) (t : Addr)  : entryFrame m #[(.ref q), (.int (0 : Int32)), (.ref t)] 3 = mkF m 0 #[.val (.ref q), .val (.int (0 : Int32)), .val (.ref t)] [] := by first | (simp [entryFrame, mkF, argsToLocals, Value.category]; done) | rfl
def QPL0 (Z : State) (q : Addr) (w : Addr) (kk : ClassId) (sz : Int32) (i : Int32) (t : Addr) (dt : Int64) (st : Int64) (v0 : Value) (v1 : Value) (v2 : Value) (hv0 : v0.isRef = true) (hv1 : v1.isRef = true) (hv2 : v2.isRef = true) (h0 : Heap) (n0 : Nat) (v : Option Value) (h : Heap) (L : List Loc) : Prop := v = none ∧ Fr n0 L ∧ Keep h0 h [w, t] ∧ Arv Z h w kk (.object "com/example/earnest_reactor/earnestreactor/core/ScheduledTask") (16 : Int32) [(.ref t), v1, v2] .null ∧ own_TK Z h t .null dt st .null (0 : Int32)
set_option maxRecDepth 65536 in
set_option maxHeartbeats 40000000 in
theorem rmPL0 (l : Launch) (Z : State) (a0 : Array Value) (hw : ∀ d ∈ tables_1, d.before a0 Z = true) (ws : List Jvm.Cond) (q : Addr) (w : Addr) (kk : ClassId) (sz : Int32) (i : Int32) (t : Addr) (dt : Int64) (st : Int64) (v0 : Value) (v1 : Value) (v2 : Value) (hv0 : v0.isRef = true) (hv1 : v1.isRef = true) (hv2 : v2.isRef = true) (h0 : Heap) (n0 : Nat) (Z0 : n0 ≤ h0.size) (f_O_q : own_TQ Z h0 q (.ref w) sz) (f_V_w : Arv Z h0 w kk (.object "com/example/earnest_reactor/earnestreactor/core/ScheduledTask") (16 : Int32) [v0, v1, v2] .null) (ho : Ovr Z kk "com/example/earnest_reactor/earnestreactor/core/ScheduledTask") (f_O_t : own_TK Z h0 t .null dt st .null i) (ge_w : n0 ≤ w) (ge_t : n0 ≤ t) :
    MetFree l (⟨"com/example/earnest_reactor/earnestreactor/core/TimerQueue", "place", "(ILcom/example/earnest_reactor/earnestreactor/core/ScheduledTask;)V"⟩ : MethodName) (head1 (Jvm.Cond.code (⟨"com/example/earnest_reactor/earnestreactor/core/TimerQueue", "place", "(ILcom/example/earnest_reactor/earnestreactor/core/ScheduledTask;)V"⟩ : MethodName) prog_35_method_10_code 3 none :: ws) ({ frames := 1, cells := 0, slots := 0, locals := 13 } : Room)) (fun aa U => aa = #[(.ref q), (.int (0 : Int32)), (.ref t)] ∧ Z.Warmed39 U.vm ∧ U.heap = h0) (fun _ _ _ _ _ => True) (fun _ U oc U' => ∃ v L, oc = .returned v ∧ QPL0 Z q w kk sz i t dt st v0 v1 v2 hv0 hv1 hv2 h0 n0 v U'.heap L ∧ FrameEnd U oc U' L ({ frames := 1, cells := 0, slots := 0, locals := 13 } : Room).cells ({ frames := 1, cells := 0, slots := 0, locals := 13 } : Room).slots) := by
  refine MetFree.of_bodySF (plainFor_of_name own_pn1) hisR ?_
  intro p e s m args below meth c s₁ Bd hml0 hP hK
  obtain ⟨rfl, hZ, hh⟩ := hP
  have hx := Bd.exec
  have hby := Bd.bytes
  have hlk := Bd.notSynchronized
  have hret := Bd.returns
  have hml : c.maxLocals = 3 := hml0
  have hown : s.vm.findClass "com/example/earnest_reactor/earnestreactor/core/TimerQueue" = some m.cls := findClass_of_methodNamed Bd.named
  have hnm := (name_of_methodNamed Bd.named Bd.method).1
  have X0 : Stand p l e ({ frames := 1, cells := 0, slots := 0, locals := 13 } : Room) s m #[(.ref q), (.int (0 : Int32)), (.ref t)] below meth c s₁ [] 0 0 := Stand.of_body Bd
  have e0 : s₁.heap = h0 := by rw [← hh, Bd.state]; rfl
  have N0 := Fr.nil n0
  refine own_body (Q := QPL0 Z q w kk sz i t dt st v0 v1 v2 hv0 hv1 hv2 h0 n0) (KC := ({ frames := 1, cells := 0, slots := 0, locals := 13 } : Room).cells) (KS := ({ frames := 1, cells := 0, slots := 0, locals := 13 } : Room).slots) ?_
  rw [own_ef_rmPL0 m q t]
  have Kp : Keep h0 h0 [w, t] := Keep.refl h0 _
  refine own_aloadN X0 hx hby d9_0 (pc' := 1) rfl rfl rfl ?_
  obtain ⟨f_E_q, f_F_q_heap, f_F_q_size⟩ := f_O_q
  refine own_getF X0 hx hZ hby hown (host := "") (Or.inl (wd_11 hw)) Via.refl e0 f_F_q_heap d9_1 (pc' := 4) rfl (fun T1 X1 e1 => ?_)
  refine own_iloadN X1 hx hby d9_4 (pc' := 5) rfl rfl ?_
  refine own_aloadN X1 hx hby d9_5 (pc' := 6) rfl rfl rfl ?_
  have ne_t_w : t ≠ w := Exa.neArv f_O_t.1 f_V_w (wd_14 hw)
  have ne_q_w : q ≠ w := Exa.neArv f_E_q f_V_w (wd_1 hw)
  obtain ⟨cl2, Ar2, q2, S2, M2, H2, G2⟩ := id f_V_w
  have hin2 : ¬ ((0 : Int32) < 0 ∨ cl2.slots.size ≤ ((0 : Int32)).toNatClampNeg) := inb_of S2 ⟨by decide, by decide⟩
  refine own_stR X1 hx hZ hby e1 Ar2 hin2 rfl (Sto.ofV Ar2 q2 ho (Ins.self f_O_t.1)) d9_6 (pc' := 7) rfl (fun T3 h3 X3 e3 W3 => ?_)
  have f_V_w := Arv.set Ar2 q2 S2 M2 H2 G2 rfl W3 0 rfl (Nat.le_of_ble_eq_true rfl)
  have f_V_w : Arv Z h3 w kk (.object "com/example/earnest_reactor/earnestreactor/core/ScheduledTask") (16 : Int32) [(.ref t), v1, v2] .null := f_V_w
  have f_O_t := f_O_t.other W3 ne_t_w
  have f_E_q := f_E_q.wr W3
  have f_F_q_heap := f_F_q_heap.other W3 (Or.inl ne_q_w)
  have f_F_q_size := f_F_q_size.other W3 (Or.inl ne_q_w)
  have Zn := Nat.le_trans Z0 (Keep.of_wr W3).1
  have Kp := Kp.wr W3 (Or.inl (List.mem_of_getElem? (i := 0) rfl))
  have N3 := Fr.snoc X3 N0 ge_w
  refine own_aloadN X3 hx hby d9_7 (pc' := 8) rfl rfl rfl ?_
  refine own_iloadN X3 hx hby d9_8 (pc' := 9) rfl rfl ?_
  have ne_q_t : q ≠ t := Exa.ne f_E_q f_O_t.1 (by decide)
  refine own_lk0 hw X3 hx hZ hby (by rw [hml]; rfl) hown d9_9 (pc' := 12) rfl e3 f_O_t.1 (W := 0) (Nat.le_of_eq rfl) (rmSQ l Z a0 hw [] t dt st i (0 : Int32) h3 n0 Zn f_O_t ge_t) (by decide) (by decide) (by decide) (by decide) (fun v4 T4 L4 X4 hQ4 => ?_)
  obtain ⟨rfl, Nq4, K4, O4⟩ := hQ4
  have N4 := Fr.app N3 Nq4
  have f_V_w := f_V_w.keep K4 (ninS (Ne.symm ne_t_w) nin0)
  have f_E_q := f_E_q.keep K4
  have f_F_q_heap := f_F_q_heap.keep K4 (ninS ne_q_t nin0)
  have f_F_q_size := f_F_q_size.keep K4 (ninS ne_q_t nin0)
  have Zn := Nat.le_trans Zn K4.1
  have Kp := Kp.trans K4 (allS (Or.inl (List.mem_of_getElem? (i := 1) rfl)) all0)
  show own_End p e below _ (T4.setTop (mkF m 12 _ []))
  refine own_return X4 hx hlk hby hret d9_12 (own_lv ?_ (by decide) (by decide))
  show QPL0 Z q w kk sz i t dt st v0 v1 v2 hv0 hv1 hv2  h0 n0 none T4.heap _
  exact ⟨rfl, N4, Kp, f_V_w, O4⟩
theorem own_ef_rmPL1 (m : MethodId) (q : Addr) (t : Addr)  : entryFrame m #[(.ref q), (.int (1 : Int32)), (.ref t)] 3 = mkF m 0 #[.val (.ref q), .val (.int (1 : Int32)), .val (.ref t)] [] := by first | (simp [entryFrame, mkF, argsToLocals, Value.category]; done) | rfl
def QPL1 (Z : State) (q : Addr) (w : Addr) (kk : ClassId) (sz : Int32) (i : Int32) (t : Addr) (dt : Int64) (st : Int64) (v0 : Value) (v1 : Value) (v2 : Value) (hv0 : v0.isRef = true) (hv1 : v1.isRef = true) (hv2 : v2.isRef = true) (h0 : Heap) (n0 : Nat) (v : Option Value) (h : Heap) (L : List Loc) : Prop := v = none ∧ Fr n0 L ∧ Keep h0 h [w, t] ∧ Arv Z h w kk (.object "com/example/earnest_reactor/earnestreactor/core/ScheduledTask") (16 : Int32) [v0, (.ref t), v2] .null ∧ own_TK Z h t .null dt st .null (1 : Int32)
set_option maxRecDepth 65536 in
set_option maxHeartbeats 40000000 in
theorem rmPL1 (l : Launch) (Z : State) (a0 : Array Value) (hw : ∀ d ∈ tables_1, d.before a0 Z = true) (ws : List Jvm.Cond) (q : Addr) (w : Addr) (kk : ClassId) (sz : Int32) (i : Int32) (t : Addr) (dt : Int64) (st : Int64) (v0 : Value) (v1 : Value) (v2 : Value) (hv0 : v0.isRef = true) (hv1 : v1.isRef = true) (hv2 : v2.isRef = true) (h0 : Heap) (n0 : Nat) (Z0 : n0 ≤ h0.size) (f_O_q : own_TQ Z h0 q (.ref w) sz) (f_V_w : Arv Z h0 w kk (.object "com/example/earnest_reactor/earnestreactor/core/ScheduledTask") (16 : Int32) [v0, v1, v2] .null) (ho : Ovr Z kk "com/example/earnest_reactor/earnestreactor/core/ScheduledTask") (f_O_t : own_TK Z h0 t .null dt st .null i) (ge_w : n0 ≤ w) (ge_t : n0 ≤ t) :
    MetFree l (⟨"com/example/earnest_reactor/earnestreactor/core/TimerQueue", "place", "(ILcom/example/earnest_reactor/earnestreactor/core/ScheduledTask;)V"⟩ : MethodName) (head1 (Jvm.Cond.code (⟨"com/example/earnest_reactor/earnestreactor/core/TimerQueue", "place", "(ILcom/example/earnest_reactor/earnestreactor/core/ScheduledTask;)V"⟩ : MethodName) prog_35_method_10_code 3 none :: ws) ({ frames := 1, cells := 0, slots := 0, locals := 13 } : Room)) (fun aa U => aa = #[(.ref q), (.int (1 : Int32)), (.ref t)] ∧ Z.Warmed39 U.vm ∧ U.heap = h0) (fun _ _ _ _ _ => True) (fun _ U oc U' => ∃ v L, oc = .returned v ∧ QPL1 Z q w kk sz i t dt st v0 v1 v2 hv0 hv1 hv2 h0 n0 v U'.heap L ∧ FrameEnd U oc U' L ({ frames := 1, cells := 0, slots := 0, locals := 13 } : Room).cells ({ frames := 1, cells := 0, slots := 0, locals := 13 } : Room).slots) := by
  refine MetFree.of_bodySF (plainFor_of_name own_pn1) hisR ?_
  intro p e s m args below meth c s₁ Bd hml0 hP hK
  obtain ⟨rfl, hZ, hh⟩ := hP
  have hx := Bd.exec
  have hby := Bd.bytes
  have hlk := Bd.notSynchronized
  have hret := Bd.returns
  have hml : c.maxLocals = 3 := hml0
  have hown : s.vm.findClass "com/example/earnest_reactor/earnestreactor/core/TimerQueue" = some m.cls := findClass_of_methodNamed Bd.named
  have hnm := (name_of_methodNamed Bd.named Bd.method).1
  have X0 : Stand p l e ({ frames := 1, cells := 0, slots := 0, locals := 13 } : Room) s m #[(.ref q), (.int (1 : Int32)), (.ref t)] below meth c s₁ [] 0 0 := Stand.of_body Bd
  have e0 : s₁.heap = h0 := by rw [← hh, Bd.state]; rfl
  have N0 := Fr.nil n0
  refine own_body (Q := QPL1 Z q w kk sz i t dt st v0 v1 v2 hv0 hv1 hv2 h0 n0) (KC := ({ frames := 1, cells := 0, slots := 0, locals := 13 } : Room).cells) (KS := ({ frames := 1, cells := 0, slots := 0, locals := 13 } : Room).slots) ?_
  rw [own_ef_rmPL1 m q t]
  have Kp : Keep h0 h0 [w, t] := Keep.refl h0 _
  refine own_aloadN X0 hx hby d9_0 (pc' := 1) rfl rfl rfl ?_
  obtain ⟨f_E_q, f_F_q_heap, f_F_q_size⟩ := f_O_q
  refine own_getF X0 hx hZ hby hown (host := "") (Or.inl (wd_11 hw)) Via.refl e0 f_F_q_heap d9_1 (pc' := 4) rfl (fun T1 X1 e1 => ?_)
  refine own_iloadN X1 hx hby d9_4 (pc' := 5) rfl rfl ?_
  refine own_aloadN X1 hx hby d9_5 (pc' := 6) rfl rfl rfl ?_
  have ne_t_w : t ≠ w := Exa.neArv f_O_t.1 f_V_w (wd_14 hw)
  have ne_q_w : q ≠ w := Exa.neArv f_E_q f_V_w (wd_1 hw)
  obtain ⟨cl2, Ar2, q2, S2, M2, H2, G2⟩ := id f_V_w
  have hin2 : ¬ ((1 : Int32) < 0 ∨ cl2.slots.size ≤ ((1 : Int32)).toNatClampNeg) := inb_of S2 ⟨by decide, by decide⟩
  refine own_stR X1 hx hZ hby e1 Ar2 hin2 rfl (Sto.ofV Ar2 q2 ho (Ins.self f_O_t.1)) d9_6 (pc' := 7) rfl (fun T3 h3 X3 e3 W3 => ?_)
  have f_V_w := Arv.set Ar2 q2 S2 M2 H2 G2 rfl W3 1 rfl (Nat.le_of_ble_eq_true rfl)
  have f_V_w : Arv Z h3 w kk (.object "com/example/earnest_reactor/earnestreactor/core/ScheduledTask") (16 : Int32) [v0, (.ref t), v2] .null := f_V_w
  have f_O_t := f_O_t.other W3 ne_t_w
  have f_E_q := f_E_q.wr W3
  have f_F_q_heap := f_F_q_heap.other W3 (Or.inl ne_q_w)
  have f_F_q_size := f_F_q_size.other W3 (Or.inl ne_q_w)
  have Zn := Nat.le_trans Z0 (Keep.of_wr W3).1
  have Kp := Kp.wr W3 (Or.inl (List.mem_of_getElem? (i := 0) rfl))
  have N3 := Fr.snoc X3 N0 ge_w
  refine own_aloadN X3 hx hby d9_7 (pc' := 8) rfl rfl rfl ?_
  refine own_iloadN X3 hx hby d9_8 (pc' := 9) rfl rfl ?_
  have ne_q_t : q ≠ t := Exa.ne f_E_q f_O_t.1 (by decide)
  refine own_lk0 hw X3 hx hZ hby (by rw [hml]; rfl) hown d9_9 (pc' := 12) rfl e3 f_O_t.1 (W := 0) (Nat.le_of_eq rfl) (rmSQ l Z a0 hw [] t dt st i (1 : Int32) h3 n0 Zn f_O_t ge_t) (by decide) (by decide) (by decide) (by decide) (fun v4 T4 L4 X4 hQ4 => ?_)
  obtain ⟨rfl, Nq4, K4, O4⟩ := hQ4
  have N4 := Fr.app N3 Nq4
  have f_V_w := f_V_w.keep K4 (ninS (Ne.symm ne_t_w) nin0)
  have f_E_q := f_E_q.keep K4
  have f_F_q_heap := f_F_q_heap.keep K4 (ninS ne_q_t nin0)
  have f_F_q_size := f_F_q_size.keep K4 (ninS ne_q_t nin0)
  have Zn := Nat.le_trans Zn K4.1
  have Kp := Kp.trans K4 (allS (Or.inl (List.mem_of_getElem? (i := 1) rfl)) all0)
  show own_End p e below _ (T4.setTop (mkF m 12 _ []))
  refine own_return X4 hx hlk hby hret d9_12 (own_lv ?_ (by decide) (by decide))
  show QPL1 Z q w kk sz i t dt st v0 v1 v2 hv0 hv1 hv2  h0 n0 none T4.heap _
  exact ⟨rfl, N4, Kp, f_V_w, O4⟩
theorem own_ef_rmPL2 (m : MethodId) (q : Addr) (t : Addr)  : entryFrame m #[(.ref q), (.int (2 : Int32)), (.ref t)] 3 = mkF m 0 #[.val (.ref q), .val (.int (2 : Int32)), .val (.ref t)] [] := by first | (simp [entryFrame, mkF, argsToLocals, Value.category]; done) | rfl
def QPL2 (Z : State) (q : Addr) (w : Addr) (kk : ClassId) (sz : Int32) (i : Int32) (t : Addr) (dt : Int64) (st : Int64) (v0 : Value) (v1 : Value) (v2 : Value) (hv0 : v0.isRef = true) (hv1 : v1.isRef = true) (hv2 : v2.isRef = true) (h0 : Heap) (n0 : Nat) (v : Option Value) (h : Heap) (L : List Loc) : Prop := v = none ∧ Fr n0 L ∧ Keep h0 h [w, t] ∧ Arv Z h w kk (.object "com/example/earnest_reactor/earnestreactor/core/ScheduledTask") (16 : Int32) [v0, v1, (.ref t)] .null ∧ own_TK Z h t .null dt st .null (2 : Int32)
set_option maxRecDepth 65536 in
set_option maxHeartbeats 40000000 in
theorem rmPL2 (l : Launch) (Z : State) (a0 : Array Value) (hw : ∀ d ∈ tables_1, d.before a0 Z = true) (ws : List Jvm.Cond) (q : Addr) (w : Addr) (kk : ClassId) (sz : Int32) (i : Int32) (t : Addr) (dt : Int64) (st : Int64) (v0 : Value) (v1 : Value) (v2 : Value) (hv0 : v0.isRef = true) (hv1 : v1.isRef = true) (hv2 : v2.isRef = true) (h0 : Heap) (n0 : Nat) (Z0 : n0 ≤ h0.size) (f_O_q : own_TQ Z h0 q (.ref w) sz) (f_V_w : Arv Z h0 w kk (.object "com/example/earnest_reactor/earnestreactor/core/ScheduledTask") (16 : Int32) [v0, v1, v2] .null) (ho : Ovr Z kk "com/example/earnest_reactor/earnestreactor/core/ScheduledTask") (f_O_t : own_TK Z h0 t .null dt st .null i) (ge_w : n0 ≤ w) (ge_t : n0 ≤ t) :
    MetFree l (⟨"com/example/earnest_reactor/earnestreactor/core/TimerQueue", "place", "(ILcom/example/earnest_reactor/earnestreactor/core/ScheduledTask;)V"⟩ : MethodName) (head1 (Jvm.Cond.code (⟨"com/example/earnest_reactor/earnestreactor/core/TimerQueue", "place", "(ILcom/example/earnest_reactor/earnestreactor/core/ScheduledTask;)V"⟩ : MethodName) prog_35_method_10_code 3 none :: ws) ({ frames := 1, cells := 0, slots := 0, locals := 13 } : Room)) (fun aa U => aa = #[(.ref q), (.int (2 : Int32)), (.ref t)] ∧ Z.Warmed39 U.vm ∧ U.heap = h0) (fun _ _ _ _ _ => True) (fun _ U oc U' => ∃ v L, oc = .returned v ∧ QPL2 Z q w kk sz i t dt st v0 v1 v2 hv0 hv1 hv2 h0 n0 v U'.heap L ∧ FrameEnd U oc U' L ({ frames := 1, cells := 0, slots := 0, locals := 13 } : Room).cells ({ frames := 1, cells := 0, slots := 0, locals := 13 } : Room).slots) := by
  refine MetFree.of_bodySF (plainFor_of_name own_pn1) hisR ?_
  intro p e s m args below meth c s₁ Bd hml0 hP hK
  obtain ⟨rfl, hZ, hh⟩ := hP
  have hx := Bd.exec
  have hby := Bd.bytes
  have hlk := Bd.notSynchronized
  have hret := Bd.returns
  have hml : c.maxLocals = 3 := hml0
  have hown : s.vm.findClass "com/example/earnest_reactor/earnestreactor/core/TimerQueue" = some m.cls := findClass_of_methodNamed Bd.named
  have hnm := (name_of_methodNamed Bd.named Bd.method).1
  have X0 : Stand p l e ({ frames := 1, cells := 0, slots := 0, locals := 13 } : Room) s m #[(.ref q), (.int (2 : Int32)), (.ref t)] below meth c s₁ [] 0 0 := Stand.of_body Bd
  have e0 : s₁.heap = h0 := by rw [← hh, Bd.state]; rfl
  have N0 := Fr.nil n0
  refine own_body (Q := QPL2 Z q w kk sz i t dt st v0 v1 v2 hv0 hv1 hv2 h0 n0) (KC := ({ frames := 1, cells := 0, slots := 0, locals := 13 } : Room).cells) (KS := ({ frames := 1, cells := 0, slots := 0, locals := 13 } : Room).slots) ?_
  rw [own_ef_rmPL2 m q t]
  have Kp : Keep h0 h0 [w, t] := Keep.refl h0 _
  refine own_aloadN X0 hx hby d9_0 (pc' := 1) rfl rfl rfl ?_
  obtain ⟨f_E_q, f_F_q_heap, f_F_q_size⟩ := f_O_q
  refine own_getF X0 hx hZ hby hown (host := "") (Or.inl (wd_11 hw)) Via.refl e0 f_F_q_heap d9_1 (pc' := 4) rfl (fun T1 X1 e1 => ?_)
  refine own_iloadN X1 hx hby d9_4 (pc' := 5) rfl rfl ?_
  refine own_aloadN X1 hx hby d9_5 (pc' := 6) rfl rfl rfl ?_
  have ne_t_w : t ≠ w := Exa.neArv f_O_t.1 f_V_w (wd_14 hw)
  have ne_q_w : q ≠ w := Exa.neArv f_E_q f_V_w (wd_1 hw)
  obtain ⟨cl2, Ar2, q2, S2, M2, H2, G2⟩ := id f_V_w
  have hin2 : ¬ ((2 : Int32) < 0 ∨ cl2.slots.size ≤ ((2 : Int32)).toNatClampNeg) := inb_of S2 ⟨by decide, by decide⟩
  refine own_stR X1 hx hZ hby e1 Ar2 hin2 rfl (Sto.ofV Ar2 q2 ho (Ins.self f_O_t.1)) d9_6 (pc' := 7) rfl (fun T3 h3 X3 e3 W3 => ?_)
  have f_V_w := Arv.set Ar2 q2 S2 M2 H2 G2 rfl W3 2 rfl (Nat.le_of_ble_eq_true rfl)
  have f_V_w : Arv Z h3 w kk (.object "com/example/earnest_reactor/earnestreactor/core/ScheduledTask") (16 : Int32) [v0, v1, (.ref t)] .null := f_V_w
  have f_O_t := f_O_t.other W3 ne_t_w
  have f_E_q := f_E_q.wr W3
  have f_F_q_heap := f_F_q_heap.other W3 (Or.inl ne_q_w)
  have f_F_q_size := f_F_q_size.other W3 (Or.inl ne_q_w)
  have Zn := Nat.le_trans Z0 (Keep.of_wr W3).1
  have Kp := Kp.wr W3 (Or.inl (List.mem_of_getElem? (i := 0) rfl))
  have N3 := Fr.snoc X3 N0 ge_w
  refine own_aloadN X3 hx hby d9_7 (pc' := 8) rfl rfl rfl ?_
  refine own_iloadN X3 hx hby d9_8 (pc' := 9) rfl rfl ?_
  have ne_q_t : q ≠ t := Exa.ne f_E_q f_O_t.1 (by decide)
  refine own_lk0 hw X3 hx hZ hby (by rw [hml]; rfl) hown d9_9 (pc' := 12) rfl e3 f_O_t.1 (W := 0) (Nat.le_of_eq rfl) (rmSQ l Z a0 hw [] t dt st i (2 : Int32) h3 n0 Zn f_O_t ge_t) (by decide) (by decide) (by decide) (by decide) (fun v4 T4 L4 X4 hQ4 => ?_)
  obtain ⟨rfl, Nq4, K4, O4⟩ := hQ4
  have N4 := Fr.app N3 Nq4
  have f_V_w := f_V_w.keep K4 (ninS (Ne.symm ne_t_w) nin0)
  have f_E_q := f_E_q.keep K4
  have f_F_q_heap := f_F_q_heap.keep K4 (ninS ne_q_t nin0)
  have f_F_q_size := f_F_q_size.keep K4 (ninS ne_q_t nin0)
  have Zn := Nat.le_trans Zn K4.1
  have Kp := Kp.trans K4 (allS (Or.inl (List.mem_of_getElem? (i := 1) rfl)) all0)
  show own_End p e below _ (T4.setTop (mkF m 12 _ []))
  refine own_return X4 hx hlk hby hret d9_12 (own_lv ?_ (by decide) (by decide))
  show QPL2 Z q w kk sz i t dt st v0 v1 v2 hv0 hv1 hv2  h0 n0 none T4.heap _
  exact ⟨rfl, N4, Kp, f_V_w, O4⟩
theorem own_ef_rmU0 (m : MethodId) (q : Addr) (t : Addr)  : entryFrame m #[(.ref q), (.int (0 : Int32)), (.ref t)] 5 = mkF m 0 #[.val (.ref q), .val (.int (0 : Int32)), .val (.ref t), .unset, .unset] [] := by first | (simp [entryFrame, mkF, argsToLocals, Value.category]; done) | rfl
def QU0 (Z : State) (q : Addr) (w : Addr) (kk : ClassId) (t : Addr) (dt : Int64) (st : Int64) (h0 : Heap) (n0 : Nat) (v : Option Value) (h : Heap) (L : List Loc) : Prop := v = none ∧ Fr n0 L ∧ Keep h0 h [w, t] ∧ Arv Z h w kk (.object "com/example/earnest_reactor/earnestreactor/core/ScheduledTask") (16 : Int32) [(.ref t), .null, .null] .null ∧ own_TK Z h t .null dt st .null (0 : Int32)
set_option maxRecDepth 65536 in
set_option maxHeartbeats 40000000 in
theorem rmU0 (l : Launch) (Z : State) (a0 : Array Value) (hw : ∀ d ∈ tables_1, d.before a0 Z = true) (ws : List Jvm.Cond) (q : Addr) (w : Addr) (kk : ClassId) (t : Addr) (dt : Int64) (st : Int64) (h0 : Heap) (n0 : Nat) (Z0 : n0 ≤ h0.size) (f_O_q : own_TQ Z h0 q (.ref w) (1 : Int32)) (f_V_w : Arv Z h0 w kk (.object "com/example/earnest_reactor/earnestreactor/core/ScheduledTask") (16 : Int32) [.null, .null, .null] .null) (ho : Ovr Z kk "com/example/earnest_reactor/earnestreactor/core/ScheduledTask") (f_O_t : own_TK Z h0 t .null dt st .null (-1 : Int32)) (ge_w : n0 ≤ w) (ge_t : n0 ≤ t) :
    MetFree l (⟨"com/example/earnest_reactor/earnestreactor/core/TimerQueue", "siftUp", "(ILcom/example/earnest_reactor/earnestreactor/core/ScheduledTask;)V"⟩ : MethodName) (head1 (Jvm.Cond.code (⟨"com/example/earnest_reactor/earnestreactor/core/TimerQueue", "siftUp", "(ILcom/example/earnest_reactor/earnestreactor/core/ScheduledTask;)V"⟩ : MethodName) prog_35_method_8_code 5 none :: ws) ({ frames := 2, cells := 0, slots := 0, locals := 27 } : Room)) (fun aa U => aa = #[(.ref q), (.int (0 : Int32)), (.ref t)] ∧ Z.Warmed39 U.vm ∧ U.heap = h0) (fun _ _ _ _ _ => True) (fun _ U oc U' => ∃ v L, oc = .returned v ∧ QU0 Z q w kk t dt st h0 n0 v U'.heap L ∧ FrameEnd U oc U' L ({ frames := 2, cells := 0, slots := 0, locals := 27 } : Room).cells ({ frames := 2, cells := 0, slots := 0, locals := 27 } : Room).slots) := by
  refine MetFree.of_bodySF (plainFor_of_name own_pn1) hisR ?_
  intro p e s m args below meth c s₁ Bd hml0 hP hK
  obtain ⟨rfl, hZ, hh⟩ := hP
  have hx := Bd.exec
  have hby := Bd.bytes
  have hlk := Bd.notSynchronized
  have hret := Bd.returns
  have hml : c.maxLocals = 5 := hml0
  have hown : s.vm.findClass "com/example/earnest_reactor/earnestreactor/core/TimerQueue" = some m.cls := findClass_of_methodNamed Bd.named
  have hnm := (name_of_methodNamed Bd.named Bd.method).1
  have X0 : Stand p l e ({ frames := 2, cells := 0, slots := 0, locals := 27 } : Room) s m #[(.ref q), (.int (0 : Int32)), (.ref t)] below meth c s₁ [] 0 0 := Stand.of_body Bd
  have e0 : s₁.heap = h0 := by rw [← hh, Bd.state]; rfl
  have N0 := Fr.nil n0
  refine own_body (Q := QU0 Z q w kk t dt st h0 n0) (KC := ({ frames := 2, cells := 0, slots := 0, locals := 27 } : Room).cells) (KS := ({ frames := 2, cells := 0, slots := 0, locals := 27 } : Room).slots) ?_
  rw [own_ef_rmU0 m q t]
  have Kp : Keep h0 h0 [w, t] := Keep.refl h0 _
  refine own_iloadN X0 hx hby d8_0 (pc' := 1) rfl rfl ?_
  refine own_istoreN X0 hx hby d8_1 (pc' := 2) rfl (l' := #[.val (.ref q), .val (.int (0 : Int32)), .val (.ref t), .val (.int (0 : Int32)), .unset]) rfl ?_
  refine own_iloadN X0 hx hby d8_2 (pc' := 3) rfl rfl ?_
  refine own_ifY X0 hx hby d8_3 (pc' := 48) (by decide) (by decide) (show ¬ (0 : Int32) < (0 : Int32) by decide) ?_
  refine own_aloadN X0 hx hby d8_48 (pc' := 49) rfl rfl rfl ?_
  refine own_iloadN X0 hx hby d8_49 (pc' := 50) rfl rfl ?_
  refine own_aloadN X0 hx hby d8_50 (pc' := 51) rfl rfl rfl ?_
  have ne_q_w : q ≠ w := Exa.neArv f_O_q.1 f_V_w (wd_1 hw)
  have ne_q_t : q ≠ t := Exa.ne f_O_q.1 f_O_t.1 (by decide)
  have ne_w_t : w ≠ t := Ne.symm (Exa.neArv f_O_t.1 f_V_w (wd_14 hw))
  refine own_lk1 hw X0 hx hZ hby (by rw [hml]; rfl) hown d8_51 (pc' := 54) rfl e0 f_O_q.1 (W := 0) (Nat.le_of_eq rfl) (rmPL0 l Z a0 hw [] q w kk (1 : Int32) (-1 : Int32) t dt st .null .null .null rfl rfl rfl h0 n0 Z0 f_O_q f_V_w ho f_O_t ge_w ge_t) (by decide) (by decide) (by decide) (by decide) (fun v1 T1 L1 X1 hQ1 => ?_)
  obtain ⟨rfl, Nq1, K1, V1, O1⟩ := hQ1
  have N1 := Fr.app N0 Nq1
  have f_O_q := f_O_q.keep K1 (ninS ne_q_w (ninS ne_q_t nin0))
  have Zn := Nat.le_trans Z0 K1.1
  have Kp := Kp.trans K1 (allS (Or.inl (List.mem_of_getElem? (i := 0) rfl)) (allS (Or.inl (List.mem_of_getElem? (i := 1) rfl)) all0))
  show own_End p e below _ (T1.setTop (mkF m 54 _ []))
  refine own_return X1 hx hlk hby hret d8_54 (own_lv ?_ (by decide) (by decide))
  show QU0 Z q w kk t dt st  h0 n0 none T1.heap _
  exact ⟨rfl, N1, Kp, V1, O1⟩
theorem own_ef_rmU1a (m : MethodId) (q : Addr) (t : Addr)  : entryFrame m #[(.ref q), (.int (1 : Int32)), (.ref t)] 5 = mkF m 0 #[.val (.ref q), .val (.int (1 : Int32)), .val (.ref t), .unset, .unset] [] := by first | (simp [entryFrame, mkF, argsToLocals, Value.category]; done) | rfl
def QU1a (Z : State) (q : Addr) (w : Addr) (kk : ClassId) (x : Addr) (dx : Int64) (sx : Int64) (t : Addr) (dt : Int64) (st : Int64) (h0 : Heap) (n0 : Nat) (v : Option Value) (h : Heap) (L : List Loc) : Prop := v = none ∧ Fr n0 L ∧ Keep h0 h [w, t] ∧ Arv Z h w kk (.object "com/example/earnest_reactor/earnestreactor/core/ScheduledTask") (16 : Int32) [(.ref x), (.ref t), .null] .null ∧ own_TK Z h t .null dt st .null (1 : Int32)
set_option maxRecDepth 65536 in
set_option maxHeartbeats 40000000 in
theorem rmU1a (l : Launch) (Z : State) (a0 : Array Value) (hw : ∀ d ∈ tables_1, d.before a0 Z = true) (ws : List Jvm.Cond) (q : Addr) (w : Addr) (kk : ClassId) (x : Addr) (dx : Int64) (sx : Int64) (t : Addr) (dt : Int64) (st : Int64) (h0 : Heap) (n0 : Nat) (Z0 : n0 ≤ h0.size) (f_O_q : own_TQ Z h0 q (.ref w) (2 : Int32)) (f_V_w : Arv Z h0 w kk (.object "com/example/earnest_reactor/earnestreactor/core/ScheduledTask") (16 : Int32) [(.ref x), .null, .null] .null) (ho : Ovr Z kk "com/example/earnest_reactor/earnestreactor/core/ScheduledTask") (f_O_x : own_TK Z h0 x .null dx sx .null (0 : Int32)) (f_O_t : own_TK Z h0 t .null dt st .null (-1 : Int32)) (ge_w : n0 ≤ w) (ge_t : n0 ≤ t) (ne_x_t : x ≠ t) (hz : own_rb dt st dx sx = (0 : Int32)) :
    MetFree l (⟨"com/example/earnest_reactor/earnestreactor/core/TimerQueue", "siftUp", "(ILcom/example/earnest_reactor/earnestreactor/core/ScheduledTask;)V"⟩ : MethodName) (head1 (Jvm.Cond.code (⟨"com/example/earnest_reactor/earnestreactor/core/TimerQueue", "siftUp", "(ILcom/example/earnest_reactor/earnestreactor/core/ScheduledTask;)V"⟩ : MethodName) prog_35_method_8_code 5 none :: ws) ({ frames := 2, cells := 0, slots := 0, locals := 27 } : Room)) (fun aa U => aa = #[(.ref q), (.int (1 : Int32)), (.ref t)] ∧ Z.Warmed39 U.vm ∧ U.heap = h0) (fun _ _ _ _ _ => True) (fun _ U oc U' => ∃ v L, oc = .returned v ∧ QU1a Z q w kk x dx sx t dt st h0 n0 v U'.heap L ∧ FrameEnd U oc U' L ({ frames := 2, cells := 0, slots := 0, locals := 27 } : Room).cells ({ frames := 2, cells := 0, slots := 0, locals := 27 } : Room).slots) := by
  refine MetFree.of_bodySF (plainFor_of_name own_pn1) hisR ?_
  intro p e s m args below meth c s₁ Bd hml0 hP hK
  obtain ⟨rfl, hZ, hh⟩ := hP
  have hx := Bd.exec
  have hby := Bd.bytes
  have hlk := Bd.notSynchronized
  have hret := Bd.returns
  have hml : c.maxLocals = 5 := hml0
  have hown : s.vm.findClass "com/example/earnest_reactor/earnestreactor/core/TimerQueue" = some m.cls := findClass_of_methodNamed Bd.named
  have hnm := (name_of_methodNamed Bd.named Bd.method).1
  have X0 : Stand p l e ({ frames := 2, cells := 0, slots := 0, locals := 27 } : Room) s m #[(.ref q), (.int (1 : Int32)), (.ref t)] below meth c s₁ [] 0 0 := Stand.of_body Bd
  have e0 : s₁.heap = h0 := by rw [← hh, Bd.state]; rfl
  have N0 := Fr.nil n0
  refine own_body (Q := QU1a Z q w kk x dx sx t dt st h0 n0) (KC := ({ frames := 2, cells := 0, slots := 0, locals := 27 } : Room).cells) (KS := ({ frames := 2, cells := 0, slots := 0, locals := 27 } : Room).slots) ?_
  rw [own_ef_rmU1a m q t]
  have Kp : Keep h0 h0 [w, t] := Keep.refl h0 _
  refine own_iloadN X0 hx hby d8_0 (pc' := 1) rfl rfl ?_
  refine own_istoreN X0 hx hby d8_1 (pc' := 2) rfl (l' := #[.val (.ref q), .val (.int (1 : Int32)), .val (.ref t), .val (.int (1 : Int32)), .unset]) rfl ?_
  refine own_iloadN X0 hx hby d8_2 (pc' := 3) rfl rfl ?_
  refine own_ifN X0 hx hby d8_3 (pc' := 6) rfl (show (0 : Int32) < (1 : Int32) by decide) ?_
  refine own_iloadN X0 hx hby d8_6 (pc' := 7) rfl rfl ?_
  refine own_iconst X0 hx hby d8_7 (pc' := 8) rfl (n := (1 : Int32)) (by decide) ?_
  refine own_isub X0 hx hby d8_8 (pc' := 9) rfl ?_
  show own_End p e below _ (s₁.setTop (mkF m 9 #[.val (.ref q), .val (.int (1 : Int32)), .val (.ref t), .val (.int (1 : Int32)), .unset] [(.int (0 : Int32))]))
  refine own_iconst X0 hx hby d8_9 (pc' := 10) rfl (n := (2 : Int32)) (by decide) ?_
  refine own_idiv X0 hx hby d8_10 (pc' := 11) rfl (by decide) ?_
  show own_End p e below _ (s₁.setTop (mkF m 11 #[.val (.ref q), .val (.int (1 : Int32)), .val (.ref t), .val (.int (1 : Int32)), .unset] [(.int (0 : Int32))]))
  refine own_istore X0 hx hby d8_11 (pc' := 13) rfl (l' := #[.val (.ref q), .val (.int (1 : Int32)), .val (.ref t), .val (.int (1 : Int32)), .val (.int (0 : Int32))]) rfl ?_
  refine own_aloadN X0 hx hby d8_13 (pc' := 14) rfl rfl rfl ?_
  refine own_aloadN X0 hx hby d8_14 (pc' := 15) rfl rfl rfl ?_
  obtain ⟨f_E_q, f_F_q_heap, f_F_q_size⟩ := f_O_q
  refine own_getF X0 hx hZ hby hown (host := "") (Or.inl (wd_11 hw)) Via.refl e0 f_F_q_heap d8_15 (pc' := 18) rfl (fun T1 X1 e1 => ?_)
  refine own_iload X1 hx hby d8_18 (pc' := 20) rfl rfl ?_
  obtain ⟨cl2, Ar2, q2, S2, M2, H2, G2⟩ := id f_V_w
  have hin2 : ¬ ((0 : Int32) < 0 ∨ cl2.slots.size ≤ ((0 : Int32)).toNatClampNeg) := inb_of S2 ⟨by decide, by decide⟩
  have hat2 : cl2.slots[((0 : Int32)).toNatClampNeg]? = some (.ref x) := H2.at hin2 rfl
  refine own_aaload X1 hx hZ hby e1 Ar2 rfl hin2 hat2 d8_20 (pc' := 21) rfl ?_
  refine own_lk2 hw X1 hx hZ hby (by rw [hml]; rfl) hown d8_21 (pc' := 24) rfl e1 f_O_t.1 (W := 0) (Nat.le_of_eq rfl) (rmRB l Z a0 hw [] t dt st x dx sx (-1 : Int32) (0 : Int32) (0 : Int32) h0 n0 Z0 f_O_t f_O_x hz) (by decide) (by decide) (by decide) (by decide) (fun v3 T3 L3 X3 hQ3 => ?_)
  obtain ⟨rfl, Nq3, e3⟩ := hQ3
  have N3 := Fr.app N0 Nq3
  show own_End p e below _ (T3.setTop (mkF m 24 _ [(.int (0 : Int32))]))
  refine own_ifN X3 hx hby d8_24 (pc' := 27) rfl (show (0 : Int32) = (0 : Int32) by decide) ?_
  refine own_goto X3 hx hby d8_27 (pc' := 48) (by decide) (by decide) ?_
  refine own_aloadN X3 hx hby d8_48 (pc' := 49) rfl rfl rfl ?_
  refine own_iloadN X3 hx hby d8_49 (pc' := 50) rfl rfl ?_
  refine own_aloadN X3 hx hby d8_50 (pc' := 51) rfl rfl rfl ?_
  have f_O_q : own_TQ Z h0 q (.ref w) (2 : Int32) := ⟨f_E_q, f_F_q_heap, f_F_q_size⟩
  have ne_w_t : w ≠ t := Ne.symm (Exa.neArv f_O_t.1 f_V_w (wd_14 hw))
  have ne_x_w : x ≠ w := Exa.neArv f_O_x.1 f_V_w (wd_14 hw)
  have ne_q_w : q ≠ w := Exa.neArv f_O_q.1 f_V_w (wd_1 hw)
  have ne_q_t : q ≠ t := Exa.ne f_O_q.1 f_O_t.1 (by decide)
  refine own_lk1 hw X3 hx hZ hby (by rw [hml]; rfl) hown d8_51 (pc' := 54) rfl e3 f_O_q.1 (W := 0) (Nat.le_of_eq rfl) (rmPL1 l Z a0 hw [] q w kk (2 : Int32) (-1 : Int32) t dt st (.ref x) .null .null rfl rfl rfl h0 n0 Z0 f_O_q f_V_w ho f_O_t ge_w ge_t) (by decide) (by decide) (by decide) (by decide) (fun v4 T4 L4 X4 hQ4 => ?_)
  obtain ⟨rfl, Nq4, K4, V4, O4⟩ := hQ4
  have N4 := Fr.app N3 Nq4
  have f_O_x := f_O_x.keep K4 (ninS ne_x_w (ninS ne_x_t nin0))
  have f_O_q := f_O_q.keep K4 (ninS ne_q_w (ninS ne_q_t nin0))
  have Zn := Nat.le_trans Z0 K4.1
  have Kp := Kp.trans K4 (allS (Or.inl (List.mem_of_getElem? (i := 0) rfl)) (allS (Or.inl (List.mem_of_getElem? (i := 1) rfl)) all0))
  show own_End p e below _ (T4.setTop (mkF m 54 _ []))
  refine own_return X4 hx hlk hby hret d8_54 (own_lv ?_ (by decide) (by decide))
  show QU1a Z q w kk x dx sx t dt st  h0 n0 none T4.heap _
  exact ⟨rfl, N4, Kp, V4, O4⟩
theorem own_ef_rmU1b (m : MethodId) (q : Addr) (t : Addr)  : entryFrame m #[(.ref q), (.int (1 : Int32)), (.ref t)] 5 = mkF m 0 #[.val (.ref q), .val (.int (1 : Int32)), .val (.ref t), .unset, .unset] [] := by first | (simp [entryFrame, mkF, argsToLocals, Value.category]; done) | rfl
def QU1b (Z : State) (q : Addr) (w : Addr) (kk : ClassId) (x : Addr) (dx : Int64) (sx : Int64) (t : Addr) (dt : Int64) (st : Int64) (h0 : Heap) (n0 : Nat) (v : Option Value) (h : Heap) (L : List Loc) : Prop := v = none ∧ Fr n0 L ∧ Keep h0 h [w, x, t] ∧ Arv Z h w kk (.object "com/example/earnest_reactor/earnestreactor/core/ScheduledTask") (16 : Int32) [(.ref t), (.ref x), .null] .null ∧ own_TK Z h x .null dx sx .null (1 : Int32) ∧ own_TK Z h t .null dt st .null (0 : Int32)
set_option maxRecDepth 65536 in
set_option maxHeartbeats 40000000 in
theorem rmU1b (l : Launch) (Z : State) (a0 : Array Value) (hw : ∀ d ∈ tables_1, d.before a0 Z = true) (ws : List Jvm.Cond) (q : Addr) (w : Addr) (kk : ClassId) (x : Addr) (dx : Int64) (sx : Int64) (t : Addr) (dt : Int64) (st : Int64) (h0 : Heap) (n0 : Nat) (Z0 : n0 ≤ h0.size) (f_O_q : own_TQ Z h0 q (.ref w) (2 : Int32)) (f_V_w : Arv Z h0 w kk (.object "com/example/earnest_reactor/earnestreactor/core/ScheduledTask") (16 : Int32) [(.ref x), .null, .null] .null) (ho : Ovr Z kk "com/example/earnest_reactor/earnestreactor/core/ScheduledTask") (f_O_x : own_TK Z h0 x .null dx sx .null (0 : Int32)) (f_O_t : own_TK Z h0 t .null dt st .null (-1 : Int32)) (ge_w : n0 ≤ w) (ge_x : n0 ≤ x) (ge_t : n0 ≤ t) (ne_x_t : x ≠ t) (hz : own_rb dt st dx sx = (1 : Int32)) :
    MetFree l (⟨"com/example/earnest_reactor/earnestreactor/core/TimerQueue", "siftUp", "(ILcom/example/earnest_reactor/earnestreactor/core/ScheduledTask;)V"⟩ : MethodName) (head1 (Jvm.Cond.code (⟨"com/example/earnest_reactor/earnestreactor/core/TimerQueue", "siftUp", "(ILcom/example/earnest_reactor/earnestreactor/core/ScheduledTask;)V"⟩ : MethodName) prog_35_method_8_code 5 none :: ws) ({ frames := 2, cells := 0, slots := 0, locals := 27 } : Room)) (fun aa U => aa = #[(.ref q), (.int (1 : Int32)), (.ref t)] ∧ Z.Warmed39 U.vm ∧ U.heap = h0) (fun _ _ _ _ _ => True) (fun _ U oc U' => ∃ v L, oc = .returned v ∧ QU1b Z q w kk x dx sx t dt st h0 n0 v U'.heap L ∧ FrameEnd U oc U' L ({ frames := 2, cells := 0, slots := 0, locals := 27 } : Room).cells ({ frames := 2, cells := 0, slots := 0, locals := 27 } : Room).slots) := by
  refine MetFree.of_bodySF (plainFor_of_name own_pn1) hisR ?_
  intro p e s m args below meth c s₁ Bd hml0 hP hK
  obtain ⟨rfl, hZ, hh⟩ := hP
  have hx := Bd.exec
  have hby := Bd.bytes
  have hlk := Bd.notSynchronized
  have hret := Bd.returns
  have hml : c.maxLocals = 5 := hml0
  have hown : s.vm.findClass "com/example/earnest_reactor/earnestreactor/core/TimerQueue" = some m.cls := findClass_of_methodNamed Bd.named
  have hnm := (name_of_methodNamed Bd.named Bd.method).1
  have X0 : Stand p l e ({ frames := 2, cells := 0, slots := 0, locals := 27 } : Room) s m #[(.ref q), (.int (1 : Int32)), (.ref t)] below meth c s₁ [] 0 0 := Stand.of_body Bd
  have e0 : s₁.heap = h0 := by rw [← hh, Bd.state]; rfl
  have N0 := Fr.nil n0
  refine own_body (Q := QU1b Z q w kk x dx sx t dt st h0 n0) (KC := ({ frames := 2, cells := 0, slots := 0, locals := 27 } : Room).cells) (KS := ({ frames := 2, cells := 0, slots := 0, locals := 27 } : Room).slots) ?_
  rw [own_ef_rmU1b m q t]
  have Kp : Keep h0 h0 [w, x, t] := Keep.refl h0 _
  refine own_iloadN X0 hx hby d8_0 (pc' := 1) rfl rfl ?_
  refine own_istoreN X0 hx hby d8_1 (pc' := 2) rfl (l' := #[.val (.ref q), .val (.int (1 : Int32)), .val (.ref t), .val (.int (1 : Int32)), .unset]) rfl ?_
  refine own_iloadN X0 hx hby d8_2 (pc' := 3) rfl rfl ?_
  refine own_ifN X0 hx hby d8_3 (pc' := 6) rfl (show (0 : Int32) < (1 : Int32) by decide) ?_
  refine own_iloadN X0 hx hby d8_6 (pc' := 7) rfl rfl ?_
  refine own_iconst X0 hx hby d8_7 (pc' := 8) rfl (n := (1 : Int32)) (by decide) ?_
  refine own_isub X0 hx hby d8_8 (pc' := 9) rfl ?_
  show own_End p e below _ (s₁.setTop (mkF m 9 #[.val (.ref q), .val (.int (1 : Int32)), .val (.ref t), .val (.int (1 : Int32)), .unset] [(.int (0 : Int32))]))
  refine own_iconst X0 hx hby d8_9 (pc' := 10) rfl (n := (2 : Int32)) (by decide) ?_
  refine own_idiv X0 hx hby d8_10 (pc' := 11) rfl (by decide) ?_
  show own_End p e below _ (s₁.setTop (mkF m 11 #[.val (.ref q), .val (.int (1 : Int32)), .val (.ref t), .val (.int (1 : Int32)), .unset] [(.int (0 : Int32))]))
  refine own_istore X0 hx hby d8_11 (pc' := 13) rfl (l' := #[.val (.ref q), .val (.int (1 : Int32)), .val (.ref t), .val (.int (1 : Int32)), .val (.int (0 : Int32))]) rfl ?_
  refine own_aloadN X0 hx hby d8_13 (pc' := 14) rfl rfl rfl ?_
  refine own_aloadN X0 hx hby d8_14 (pc' := 15) rfl rfl rfl ?_
  obtain ⟨f_E_q, f_F_q_heap, f_F_q_size⟩ := f_O_q
  refine own_getF X0 hx hZ hby hown (host := "") (Or.inl (wd_11 hw)) Via.refl e0 f_F_q_heap d8_15 (pc' := 18) rfl (fun T1 X1 e1 => ?_)
  refine own_iload X1 hx hby d8_18 (pc' := 20) rfl rfl ?_
  obtain ⟨cl2, Ar2, q2, S2, M2, H2, G2⟩ := id f_V_w
  have hin2 : ¬ ((0 : Int32) < 0 ∨ cl2.slots.size ≤ ((0 : Int32)).toNatClampNeg) := inb_of S2 ⟨by decide, by decide⟩
  have hat2 : cl2.slots[((0 : Int32)).toNatClampNeg]? = some (.ref x) := H2.at hin2 rfl
  refine own_aaload X1 hx hZ hby e1 Ar2 rfl hin2 hat2 d8_20 (pc' := 21) rfl ?_
  refine own_lk2 hw X1 hx hZ hby (by rw [hml]; rfl) hown d8_21 (pc' := 24) rfl e1 f_O_t.1 (W := 0) (Nat.le_of_eq rfl) (rmRB l Z a0 hw [] t dt st x dx sx (-1 : Int32) (0 : Int32) (1 : Int32) h0 n0 Z0 f_O_t f_O_x hz) (by decide) (by decide) (by decide) (by decide) (fun v3 T3 L3 X3 hQ3 => ?_)
  obtain ⟨rfl, Nq3, e3⟩ := hQ3
  have N3 := Fr.app N0 Nq3
  show own_End p e below _ (T3.setTop (mkF m 24 _ [(.int (1 : Int32))]))
  refine own_ifY X3 hx hby d8_24 (pc' := 30) (by decide) (by decide) (show ¬ (1 : Int32) = (0 : Int32) by decide) ?_
  refine own_aloadN X3 hx hby d8_30 (pc' := 31) rfl rfl rfl ?_
  refine own_iloadN X3 hx hby d8_31 (pc' := 32) rfl rfl ?_
  refine own_aloadN X3 hx hby d8_32 (pc' := 33) rfl rfl rfl ?_
  refine own_getF X3 hx hZ hby hown (host := "") (Or.inl (wd_11 hw)) Via.refl e3 f_F_q_heap d8_33 (pc' := 36) rfl (fun T4 X4 e4 => ?_)
  refine own_iload X4 hx hby d8_36 (pc' := 38) rfl rfl ?_
  obtain ⟨cl5, Ar5, q5, S5, M5, H5, G5⟩ := id f_V_w
  have hin5 : ¬ ((0 : Int32) < 0 ∨ cl5.slots.size ≤ ((0 : Int32)).toNatClampNeg) := inb_of S5 ⟨by decide, by decide⟩
  have hat5 : cl5.slots[((0 : Int32)).toNatClampNeg]? = some (.ref x) := H5.at hin5 rfl
  refine own_aaload X4 hx hZ hby e4 Ar5 rfl hin5 hat5 d8_38 (pc' := 39) rfl ?_
  have f_O_q : own_TQ Z h0 q (.ref w) (2 : Int32) := ⟨f_E_q, f_F_q_heap, f_F_q_size⟩
  have ne_w_x : w ≠ x := Ne.symm (Exa.neArv f_O_x.1 f_V_w (wd_14 hw))
  have ne_t_w : t ≠ w := Exa.neArv f_O_t.1 f_V_w (wd_14 hw)
  have ne_q_w : q ≠ w := Exa.neArv f_O_q.1 f_V_w (wd_1 hw)
  have ne_q_x : q ≠ x := Exa.ne f_O_q.1 f_O_x.1 (by decide)
  refine own_lk1 hw X4 hx hZ hby (by rw [hml]; rfl) hown d8_39 (pc' := 42) rfl e4 f_O_q.1 (W := 0) (Nat.le_of_eq rfl) (rmPL1 l Z a0 hw [] q w kk (2 : Int32) (0 : Int32) x dx sx (.ref x) .null .null rfl rfl rfl h0 n0 Z0 f_O_q f_V_w ho f_O_x ge_w ge_x) (by decide) (by decide) (by decide) (by decide) (fun v6 T6 L6 X6 hQ6 => ?_)
  obtain ⟨rfl, Nq6, K6, V6, O6⟩ := hQ6
  have N6 := Fr.app N3 Nq6
  have f_O_t := f_O_t.keep K6 (ninS ne_t_w (ninS (Ne.symm ne_x_t) nin0))
  have f_O_q := f_O_q.keep K6 (ninS ne_q_w (ninS ne_q_x nin0))
  have Zn := Nat.le_trans Z0 K6.1
  have Kp := Kp.trans K6 (allS (Or.inl (List.mem_of_getElem? (i := 0) rfl)) (allS (Or.inl (List.mem_of_getElem? (i := 1) rfl)) all0))
  show own_End p e below _ (T6.setTop (mkF m 42 _ []))
  refine own_iload X6 hx hby d8_42 (pc' := 44) rfl rfl ?_
  refine own_istoreN X6 hx hby d8_44 (pc' := 45) rfl (l' := #[.val (.ref q), .val (.int (1 : Int32)), .val (.ref t), .val (.int (0 : Int32)), .val (.int (0 : Int32))]) rfl ?_
  refine own_goto X6 hx hby d8_45 (pc' := 2) (by decide) (by decide) ?_
  refine own_iloadN X6 hx hby d8_2 (pc' := 3) rfl rfl ?_
  refine own_ifY X6 hx hby d8_3 (pc' := 48) (by decide) (by decide) (show ¬ (0 : Int32) < (0 : Int32) by decide) ?_
  refine own_aloadN X6 hx hby d8_48 (pc' := 49) rfl rfl rfl ?_
  refine own_iloadN X6 hx hby d8_49 (pc' := 50) rfl rfl ?_
  refine own_aloadN X6 hx hby d8_50 (pc' := 51) rfl rfl rfl ?_
  have ne_q_t : q ≠ t := Exa.ne f_O_q.1 f_O_t.1 (by decide)
  refine own_lk1 hw X6 hx hZ hby (by rw [hml]; rfl) hown d8_51 (pc' := 54) rfl rfl f_O_q.1 (W := 0) (Nat.le_of_eq rfl) (rmPL0 l Z a0 hw [] q w kk (2 : Int32) (-1 : Int32) t dt st (.ref x) (.ref x) .null rfl rfl rfl T6.heap n0 Zn f_O_q V6 ho f_O_t ge_w ge_t) (by decide) (by decide) (by decide) (by decide) (fun v7 T7 L7 X7 hQ7 => ?_)
  obtain ⟨rfl, Nq7, K7, V7, O7⟩ := hQ7
  have N7 := Fr.app N6 Nq7
  have f_O_q := f_O_q.keep K7 (ninS ne_q_w (ninS ne_q_t nin0))
  have O6 := O6.keep K7 (ninS (Ne.symm ne_w_x) (ninS ne_x_t nin0))
  have Zn := Nat.le_trans Zn K7.1
  have Kp := Kp.trans K7 (allS (Or.inl (List.mem_of_getElem? (i := 0) rfl)) (allS (Or.inl (List.mem_of_getElem? (i := 2) rfl)) all0))
  show own_End p e below _ (T7.setTop (mkF m 54 _ []))
  refine own_return X7 hx hlk hby hret d8_54 (own_lv ?_ (by decide) (by decide))
  show QU1b Z q w kk x dx sx t dt st  h0 n0 none T7.heap _
  exact ⟨rfl, N7, Kp, V7, O6, O7⟩
theorem own_ef_rmU2a (m : MethodId) (q : Addr) (t : Addr)  : entryFrame m #[(.ref q), (.int (2 : Int32)), (.ref t)] 5 = mkF m 0 #[.val (.ref q), .val (.int (2 : Int32)), .val (.ref t), .unset, .unset] [] := by first | (simp [entryFrame, mkF, argsToLocals, Value.category]; done) | rfl
def QU2a (Z : State) (q : Addr) (w : Addr) (kk : ClassId) (x : Addr) (dx : Int64) (sx : Int64) (y : Addr) (dy : Int64) (sy : Int64) (t : Addr) (dt : Int64) (st : Int64) (h0 : Heap) (n0 : Nat) (v : Option Value) (h : Heap) (L : List Loc) : Prop := v = none ∧ Fr n0 L ∧ Keep h0 h [w, t] ∧ Arv Z h w kk (.object "com/example/earnest_reactor/earnestreactor/core/ScheduledTask") (16 : Int32) [(.ref x), (.ref y), (.ref t)] .null ∧ own_TK Z h t .null dt st .null (2 : Int32)
set_option maxRecDepth 65536 in
set_option maxHeartbeats 40000000 in
theorem rmU2a (l : Launch) (Z : State) (a0 : Array Value) (hw : ∀ d ∈ tables_1, d.before a0 Z = true) (ws : List Jvm.Cond) (q : Addr) (w : Addr) (kk : ClassId) (x : Addr) (dx : Int64) (sx : Int64) (y : Addr) (dy : Int64) (sy : Int64) (t : Addr) (dt : Int64) (st : Int64) (h0 : Heap) (n0 : Nat) (Z0 : n0 ≤ h0.size) (f_O_q : own_TQ Z h0 q (.ref w) (3 : Int32)) (f_V_w : Arv Z h0 w kk (.object "com/example/earnest_reactor/earnestreactor/core/ScheduledTask") (16 : Int32) [(.ref x), (.ref y), .null] .null) (ho : Ovr Z kk "com/example/earnest_reactor/earnestreactor/core/ScheduledTask") (f_O_x : own_TK Z h0 x .null dx sx .null (0 : Int32)) (f_O_y : own_TK Z h0 y .null dy sy .null (1 : Int32)) (f_O_t : own_TK Z h0 t .null dt st .null (-1 : Int32)) (ge_w : n0 ≤ w) (ge_t : n0 ≤ t) (ne_x_y : x ≠ y) (ne_x_t : x ≠ t) (ne_y_t : y ≠ t) (hz : own_rb dt st dx sx = (0 : Int32)) :
    MetFree l (⟨"com/example/earnest_reactor/earnestreactor/core/TimerQueue", "siftUp", "(ILcom/example/earnest_reactor/earnestreactor/core/ScheduledTask;)V"⟩ : MethodName) (head1 (Jvm.Cond.code (⟨"com/example/earnest_reactor/earnestreactor/core/TimerQueue", "siftUp", "(ILcom/example/earnest_reactor/earnestreactor/core/ScheduledTask;)V"⟩ : MethodName) prog_35_method_8_code 5 none :: ws) ({ frames := 2, cells := 0, slots := 0, locals := 27 } : Room)) (fun aa U => aa = #[(.ref q), (.int (2 : Int32)), (.ref t)] ∧ Z.Warmed39 U.vm ∧ U.heap = h0) (fun _ _ _ _ _ => True) (fun _ U oc U' => ∃ v L, oc = .returned v ∧ QU2a Z q w kk x dx sx y dy sy t dt st h0 n0 v U'.heap L ∧ FrameEnd U oc U' L ({ frames := 2, cells := 0, slots := 0, locals := 27 } : Room).cells ({ frames := 2, cells := 0, slots := 0, locals := 27 } : Room).slots) := by
  refine MetFree.of_bodySF (plainFor_of_name own_pn1) hisR ?_
  intro p e s m args below meth c s₁ Bd hml0 hP hK
  obtain ⟨rfl, hZ, hh⟩ := hP
  have hx := Bd.exec
  have hby := Bd.bytes
  have hlk := Bd.notSynchronized
  have hret := Bd.returns
  have hml : c.maxLocals = 5 := hml0
  have hown : s.vm.findClass "com/example/earnest_reactor/earnestreactor/core/TimerQueue" = some m.cls := findClass_of_methodNamed Bd.named
  have hnm := (name_of_methodNamed Bd.named Bd.method).1
  have X0 : Stand p l e ({ frames := 2, cells := 0, slots := 0, locals := 27 } : Room) s m #[(.ref q), (.int (2 : Int32)), (.ref t)] below meth c s₁ [] 0 0 := Stand.of_body Bd
  have e0 : s₁.heap = h0 := by rw [← hh, Bd.state]; rfl
  have N0 := Fr.nil n0
  refine own_body (Q := QU2a Z q w kk x dx sx y dy sy t dt st h0 n0) (KC := ({ frames := 2, cells := 0, slots := 0, locals := 27 } : Room).cells) (KS := ({ frames := 2, cells := 0, slots := 0, locals := 27 } : Room).slots) ?_
  rw [own_ef_rmU2a m q t]
  have Kp : Keep h0 h0 [w, t] := Keep.refl h0 _
  refine own_iloadN X0 hx hby d8_0 (pc' := 1) rfl rfl ?_
  refine own_istoreN X0 hx hby d8_1 (pc' := 2) rfl (l' := #[.val (.ref q), .val (.int (2 : Int32)), .val (.ref t), .val (.int (2 : Int32)), .unset]) rfl ?_
  refine own_iloadN X0 hx hby d8_2 (pc' := 3) rfl rfl ?_
  refine own_ifN X0 hx hby d8_3 (pc' := 6) rfl (show (0 : Int32) < (2 : Int32) by decide) ?_
  refine own_iloadN X0 hx hby d8_6 (pc' := 7) rfl rfl ?_
  refine own_iconst X0 hx hby d8_7 (pc' := 8) rfl (n := (1 : Int32)) (by decide) ?_
  refine own_isub X0 hx hby d8_8 (pc' := 9) rfl ?_
  show own_End p e below _ (s₁.setTop (mkF m 9 #[.val (.ref q), .val (.int (2 : Int32)), .val (.ref t), .val (.int (2 : Int32)), .unset] [(.int (1 : Int32))]))
  refine own_iconst X0 hx hby d8_9 (pc' := 10) rfl (n := (2 : Int32)) (by decide) ?_
  refine own_idiv X0 hx hby d8_10 (pc' := 11) rfl (by decide) ?_
  show own_End p e below _ (s₁.setTop (mkF m 11 #[.val (.ref q), .val (.int (2 : Int32)), .val (.ref t), .val (.int (2 : Int32)), .unset] [(.int (0 : Int32))]))
  refine own_istore X0 hx hby d8_11 (pc' := 13) rfl (l' := #[.val (.ref q), .val (.int (2 : Int32)), .val (.ref t), .val (.int (2 : Int32)), .val (.int (0 : Int32))]) rfl ?_
  refine own_aloadN X0 hx hby d8_13 (pc' := 14) rfl rfl rfl ?_
  refine own_aloadN X0 hx hby d8_14 (pc' := 15) rfl rfl rfl ?_
  obtain ⟨f_E_q, f_F_q_heap, f_F_q_size⟩ := f_O_q
  refine own_getF X0 hx hZ hby hown (host := "") (Or.inl (wd_11 hw)) Via.refl e0 f_F_q_heap d8_15 (pc' := 18) rfl (fun T1 X1 e1 => ?_)
  refine own_iload X1 hx hby d8_18 (pc' := 20) rfl rfl ?_
  obtain ⟨cl2, Ar2, q2, S2, M2, H2, G2⟩ := id f_V_w
  have hin2 : ¬ ((0 : Int32) < 0 ∨ cl2.slots.size ≤ ((0 : Int32)).toNatClampNeg) := inb_of S2 ⟨by decide, by decide⟩
  have hat2 : cl2.slots[((0 : Int32)).toNatClampNeg]? = some (.ref x) := H2.at hin2 rfl
  refine own_aaload X1 hx hZ hby e1 Ar2 rfl hin2 hat2 d8_20 (pc' := 21) rfl ?_
  refine own_lk2 hw X1 hx hZ hby (by rw [hml]; rfl) hown d8_21 (pc' := 24) rfl e1 f_O_t.1 (W := 0) (Nat.le_of_eq rfl) (rmRB l Z a0 hw [] t dt st x dx sx (-1 : Int32) (0 : Int32) (0 : Int32) h0 n0 Z0 f_O_t f_O_x hz) (by decide) (by decide) (by decide) (by decide) (fun v3 T3 L3 X3 hQ3 => ?_)
  obtain ⟨rfl, Nq3, e3⟩ := hQ3
  have N3 := Fr.app N0 Nq3
  show own_End p e below _ (T3.setTop (mkF m 24 _ [(.int (0 : Int32))]))
  refine own_ifN X3 hx hby d8_24 (pc' := 27) rfl (show (0 : Int32) = (0 : Int32) by decide) ?_
  refine own_goto X3 hx hby d8_27 (pc' := 48) (by decide) (by decide) ?_
  refine own_aloadN X3 hx hby d8_48 (pc' := 49) rfl rfl rfl ?_
  refine own_iloadN X3 hx hby d8_49 (pc' := 50) rfl rfl ?_
  refine own_aloadN X3 hx hby d8_50 (pc' := 51) rfl rfl rfl ?_
  have f_O_q : own_TQ Z h0 q (.ref w) (3 : Int32) := ⟨f_E_q, f_F_q_heap, f_F_q_size⟩
  have ne_w_t : w ≠ t := Ne.symm (Exa.neArv f_O_t.1 f_V_w (wd_14 hw))
  have ne_x_w : x ≠ w := Exa.neArv f_O_x.1 f_V_w (wd_14 hw)
  have ne_y_w : y ≠ w := Exa.neArv f_O_y.1 f_V_w (wd_14 hw)
  have ne_q_w : q ≠ w := Exa.neArv f_O_q.1 f_V_w (wd_1 hw)
  have ne_q_t : q ≠ t := Exa.ne f_O_q.1 f_O_t.1 (by decide)
  refine own_lk1 hw X3 hx hZ hby (by rw [hml]; rfl) hown d8_51 (pc' := 54) rfl e3 f_O_q.1 (W := 0) (Nat.le_of_eq rfl) (rmPL2 l Z a0 hw [] q w kk (3 : Int32) (-1 : Int32) t dt st (.ref x) (.ref y) .null rfl rfl rfl h0 n0 Z0 f_O_q f_V_w ho f_O_t ge_w ge_t) (by decide) (by decide) (by decide) (by decide) (fun v4 T4 L4 X4 hQ4 => ?_)
  obtain ⟨rfl, Nq4, K4, V4, O4⟩ := hQ4
  have N4 := Fr.app N3 Nq4
  have f_O_x := f_O_x.keep K4 (ninS ne_x_w (ninS ne_x_t nin0))
  have f_O_y := f_O_y.keep K4 (ninS ne_y_w (ninS ne_y_t nin0))
  have f_O_q := f_O_q.keep K4 (ninS ne_q_w (ninS ne_q_t nin0))
  have Zn := Nat.le_trans Z0 K4.1
  have Kp := Kp.trans K4 (allS (Or.inl (List.mem_of_getElem? (i := 0) rfl)) (allS (Or.inl (List.mem_of_getElem? (i := 1) rfl)) all0))
  show own_End p e below _ (T4.setTop (mkF m 54 _ []))
  refine own_return X4 hx hlk hby hret d8_54 (own_lv ?_ (by decide) (by decide))
  show QU2a Z q w kk x dx sx y dy sy t dt st  h0 n0 none T4.heap _
  exact ⟨rfl, N4, Kp, V4, O4⟩
theorem own_ef_rmU2b (m : MethodId) (q : Addr) (t : Addr)  : entryFrame m #[(.ref q), (.int (2 : Int32)), (.ref t)] 5 = mkF m 0 #[.val (.ref q), .val (.int (2 : Int32)), .val (.ref t), .unset, .unset] [] := by first | (simp [entryFrame, mkF, argsToLocals, Value.category]; done) | rfl
def QU2b (Z : State) (q : Addr) (w : Addr) (kk : ClassId) (x : Addr) (dx : Int64) (sx : Int64) (y : Addr) (dy : Int64) (sy : Int64) (t : Addr) (dt : Int64) (st : Int64) (h0 : Heap) (n0 : Nat) (v : Option Value) (h : Heap) (L : List Loc) : Prop := v = none ∧ Fr n0 L ∧ Keep h0 h [w, x, t] ∧ Arv Z h w kk (.object "com/example/earnest_reactor/earnestreactor/core/ScheduledTask") (16 : Int32) [(.ref t), (.ref y), (.ref x)] .null ∧ own_TK Z h x .null dx sx .null (2 : Int32) ∧ own_TK Z h t .null dt st .null (0 : Int32)
set_option maxRecDepth 65536 in
set_option maxHeartbeats 40000000 in
theorem rmU2b (l : Launch) (Z : State) (a0 : Array Value) (hw : ∀ d ∈ tables_1, d.before a0 Z = true) (ws : List Jvm.Cond) (q : Addr) (w : Addr) (kk : ClassId) (x : Addr) (dx : Int64) (sx : Int64) (y : Addr) (dy : Int64) (sy : Int64) (t : Addr) (dt : Int64) (st : Int64) (h0 : Heap) (n0 : Nat) (Z0 : n0 ≤ h0.size) (f_O_q : own_TQ Z h0 q (.ref w) (3 : Int32)) (f_V_w : Arv Z h0 w kk (.object "com/example/earnest_reactor/earnestreactor/core/ScheduledTask") (16 : Int32) [(.ref x), (.ref y), .null] .null) (ho : Ovr Z kk "com/example/earnest_reactor/earnestreactor/core/ScheduledTask") (f_O_x : own_TK Z h0 x .null dx sx .null (0 : Int32)) (f_O_y : own_TK Z h0 y .null dy sy .null (1 : Int32)) (f_O_t : own_TK Z h0 t .null dt st .null (-1 : Int32)) (ge_w : n0 ≤ w) (ge_x : n0 ≤ x) (ge_t : n0 ≤ t) (ne_x_y : x ≠ y) (ne_x_t : x ≠ t) (ne_y_t : y ≠ t) (hz : own_rb dt st dx sx = (1 : Int32)) :
    MetFree l (⟨"com/example/earnest_reactor/earnestreactor/core/TimerQueue", "siftUp", "(ILcom/example/earnest_reactor/earnestreactor/core/ScheduledTask;)V"⟩ : MethodName) (head1 (Jvm.Cond.code (⟨"com/example/earnest_reactor/earnestreactor/core/TimerQueue", "siftUp", "(ILcom/example/earnest_reactor/earnestreactor/core/ScheduledTask;)V"⟩ : MethodName) prog_35_method_8_code 5 none :: ws) ({ frames := 2, cells := 0, slots := 0, locals := 27 } : Room)) (fun aa U => aa = #[(.ref q), (.int (2 : Int32)), (.ref t)] ∧ Z.Warmed39 U.vm ∧ U.heap = h0) (fun _ _ _ _ _ => True) (fun _ U oc U' => ∃ v L, oc = .returned v ∧ QU2b Z q w kk x dx sx y dy sy t dt st h0 n0 v U'.heap L ∧ FrameEnd U oc U' L ({ frames := 2, cells := 0, slots := 0, locals := 27 } : Room).cells ({ frames := 2, cells := 0, slots := 0, locals := 27 } : Room).slots) := by
  refine MetFree.of_bodySF (plainFor_of_name own_pn1) hisR ?_
  intro p e s m args below meth c s₁ Bd hml0 hP hK
  obtain ⟨rfl, hZ, hh⟩ := hP
  have hx := Bd.exec
  have hby := Bd.bytes
  have hlk := Bd.notSynchronized
  have hret := Bd.returns
  have hml : c.maxLocals = 5 := hml0
  have hown : s.vm.findClass "com/example/earnest_reactor/earnestreactor/core/TimerQueue" = some m.cls := findClass_of_methodNamed Bd.named
  have hnm := (name_of_methodNamed Bd.named Bd.method).1
  have X0 : Stand p l e ({ frames := 2, cells := 0, slots := 0, locals := 27 } : Room) s m #[(.ref q), (.int (2 : Int32)), (.ref t)] below meth c s₁ [] 0 0 := Stand.of_body Bd
  have e0 : s₁.heap = h0 := by rw [← hh, Bd.state]; rfl
  have N0 := Fr.nil n0
  refine own_body (Q := QU2b Z q w kk x dx sx y dy sy t dt st h0 n0) (KC := ({ frames := 2, cells := 0, slots := 0, locals := 27 } : Room).cells) (KS := ({ frames := 2, cells := 0, slots := 0, locals := 27 } : Room).slots) ?_
  rw [own_ef_rmU2b m q t]
  have Kp : Keep h0 h0 [w, x, t] := Keep.refl h0 _
  refine own_iloadN X0 hx hby d8_0 (pc' := 1) rfl rfl ?_
  refine own_istoreN X0 hx hby d8_1 (pc' := 2) rfl (l' := #[.val (.ref q), .val (.int (2 : Int32)), .val (.ref t), .val (.int (2 : Int32)), .unset]) rfl ?_
  refine own_iloadN X0 hx hby d8_2 (pc' := 3) rfl rfl ?_
  refine own_ifN X0 hx hby d8_3 (pc' := 6) rfl (show (0 : Int32) < (2 : Int32) by decide) ?_
  refine own_iloadN X0 hx hby d8_6 (pc' := 7) rfl rfl ?_
  refine own_iconst X0 hx hby d8_7 (pc' := 8) rfl (n := (1 : Int32)) (by decide) ?_
  refine own_isub X0 hx hby d8_8 (pc' := 9) rfl ?_
  show own_End p e below _ (s₁.setTop (mkF m 9 #[.val (.ref q), .val (.int (2 : Int32)), .val (.ref t), .val (.int (2 : Int32)), .unset] [(.int (1 : Int32))]))
  refine own_iconst X0 hx hby d8_9 (pc' := 10) rfl (n := (2 : Int32)) (by decide) ?_
  refine own_idiv X0 hx hby d8_10 (pc' := 11) rfl (by decide) ?_
  show own_End p e below _ (s₁.setTop (mkF m 11 #[.val (.ref q), .val (.int (2 : Int32)), .val (.ref t), .val (.int (2 : Int32)), .unset] [(.int (0 : Int32))]))
  refine own_istore X0 hx hby d8_11 (pc' := 13) rfl (l' := #[.val (.ref q), .val (.int (2 : Int32)), .val (.ref t), .val (.int (2 : Int32)), .val (.int (0 : Int32))]) rfl ?_
  refine own_aloadN X0 hx hby d8_13 (pc' := 14) rfl rfl rfl ?_
  refine own_aloadN X0 hx hby d8_14 (pc' := 15) rfl rfl rfl ?_
  obtain ⟨f_E_q, f_F_q_heap, f_F_q_size⟩ := f_O_q
  refine own_getF X0 hx hZ hby hown (host := "") (Or.inl (wd_11 hw)) Via.refl e0 f_F_q_heap d8_15 (pc' := 18) rfl (fun T1 X1 e1 => ?_)
  refine own_iload X1 hx hby d8_18 (pc' := 20) rfl rfl ?_
  obtain ⟨cl2, Ar2, q2, S2, M2, H2, G2⟩ := id f_V_w
  have hin2 : ¬ ((0 : Int32) < 0 ∨ cl2.slots.size ≤ ((0 : Int32)).toNatClampNeg) := inb_of S2 ⟨by decide, by decide⟩
  have hat2 : cl2.slots[((0 : Int32)).toNatClampNeg]? = some (.ref x) := H2.at hin2 rfl
  refine own_aaload X1 hx hZ hby e1 Ar2 rfl hin2 hat2 d8_20 (pc' := 21) rfl ?_
  refine own_lk2 hw X1 hx hZ hby (by rw [hml]; rfl) hown d8_21 (pc' := 24) rfl e1 f_O_t.1 (W := 0) (Nat.le_of_eq rfl) (rmRB l Z a0 hw [] t dt st x dx sx (-1 : Int32) (0 : Int32) (1 : Int32) h0 n0 Z0 f_O_t f_O_x hz) (by decide) (by decide) (by decide) (by decide) (fun v3 T3 L3 X3 hQ3 => ?_)
  obtain ⟨rfl, Nq3, e3⟩ := hQ3
  have N3 := Fr.app N0 Nq3
  show own_End p e below _ (T3.setTop (mkF m 24 _ [(.int (1 : Int32))]))
  refine own_ifY X3 hx hby d8_24 (pc' := 30) (by decide) (by decide) (show ¬ (1 : Int32) = (0 : Int32) by decide) ?_
  refine own_aloadN X3 hx hby d8_30 (pc' := 31) rfl rfl rfl ?_
  refine own_iloadN X3 hx hby d8_31 (pc' := 32) rfl rfl ?_
  refine own_aloadN X3 hx hby d8_32 (pc' := 33) rfl rfl rfl ?_
  refine own_getF X3 hx hZ hby hown (host := "") (Or.inl (wd_11 hw)) Via.refl e3 f_F_q_heap d8_33 (pc' := 36) rfl (fun T4 X4 e4 => ?_)
  refine own_iload X4 hx hby d8_36 (pc' := 38) rfl rfl ?_
  obtain ⟨cl5, Ar5, q5, S5, M5, H5, G5⟩ := id f_V_w
  have hin5 : ¬ ((0 : Int32) < 0 ∨ cl5.slots.size ≤ ((0 : Int32)).toNatClampNeg) := inb_of S5 ⟨by decide, by decide⟩
  have hat5 : cl5.slots[((0 : Int32)).toNatClampNeg]? = some (.ref x) := H5.at hin5 rfl
  refine own_aaload X4 hx hZ hby e4 Ar5 rfl hin5 hat5 d8_38 (pc' := 39) rfl ?_
  have f_O_q : own_TQ Z h0 q (.ref w) (3 : Int32) := ⟨f_E_q, f_F_q_heap, f_F_q_size⟩
  have ne_w_x : w ≠ x := Ne.symm (Exa.neArv f_O_x.1 f_V_w (wd_14 hw))
  have ne_y_w : y ≠ w := Exa.neArv f_O_y.1 f_V_w (wd_14 hw)
  have ne_t_w : t ≠ w := Exa.neArv f_O_t.1 f_V_w (wd_14 hw)
  have ne_q_w : q ≠ w := Exa.neArv f_O_q.1 f_V_w (wd_1 hw)
  have ne_q_x : q ≠ x := Exa.ne f_O_q.1 f_O_x.1 (by decide)
  refine own_lk1 hw X4 hx hZ hby (by rw [hml]; rfl) hown d8_39 (pc' := 42) rfl e4 f_O_q.1 (W := 0) (Nat.le_of_eq rfl) (rmPL2 l Z a0 hw [] q w kk (3 : Int32) (0 : Int32) x dx sx (.ref x) (.ref y) .null rfl rfl rfl h0 n0 Z0 f_O_q f_V_w ho f_O_x ge_w ge_x) (by decide) (by decide) (by decide) (by decide) (fun v6 T6 L6 X6 hQ6 => ?_)
  obtain ⟨rfl, Nq6, K6, V6, O6⟩ := hQ6
  have N6 := Fr.app N3 Nq6
  have f_O_y := f_O_y.keep K6 (ninS ne_y_w (ninS (Ne.symm ne_x_y) nin0))
  have f_O_t := f_O_t.keep K6 (ninS ne_t_w (ninS (Ne.symm ne_x_t) nin0))
  have f_O_q := f_O_q.keep K6 (ninS ne_q_w (ninS ne_q_x nin0))
  have Zn := Nat.le_trans Z0 K6.1
  have Kp := Kp.trans K6 (allS (Or.inl (List.mem_of_getElem? (i := 0) rfl)) (allS (Or.inl (List.mem_of_getElem? (i := 1) rfl)) all0))
  show own_End p e below _ (T6.setTop (mkF m 42 _ []))
  refine own_iload X6 hx hby d8_42 (pc' := 44) rfl rfl ?_
  refine own_istoreN X6 hx hby d8_44 (pc' := 45) rfl (l' := #[.val (.ref q), .val (.int (2 : Int32)), .val (.ref t), .val (.int (0 : Int32)), .val (.int (0 : Int32))]) rfl ?_
  refine own_goto X6 hx hby d8_45 (pc' := 2) (by decide) (by decide) ?_
  refine own_iloadN X6 hx hby d8_2 (pc' := 3) rfl rfl ?_
  refine own_ifY X6 hx hby d8_3 (pc' := 48) (by decide) (by decide) (show ¬ (0 : Int32) < (0 : Int32) by decide) ?_
  refine own_aloadN X6 hx hby d8_48 (pc' := 49) rfl rfl rfl ?_
  refine own_iloadN X6 hx hby d8_49 (pc' := 50) rfl rfl ?_
  refine own_aloadN X6 hx hby d8_50 (pc' := 51) rfl rfl rfl ?_
  have ne_q_t : q ≠ t := Exa.ne f_O_q.1 f_O_t.1 (by decide)
  refine own_lk1 hw X6 hx hZ hby (by rw [hml]; rfl) hown d8_51 (pc' := 54) rfl rfl f_O_q.1 (W := 0) (Nat.le_of_eq rfl) (rmPL0 l Z a0 hw [] q w kk (3 : Int32) (-1 : Int32) t dt st (.ref x) (.ref y) (.ref x) rfl rfl rfl T6.heap n0 Zn f_O_q V6 ho f_O_t ge_w ge_t) (by decide) (by decide) (by decide) (by decide) (fun v7 T7 L7 X7 hQ7 => ?_)
  obtain ⟨rfl, Nq7, K7, V7, O7⟩ := hQ7
  have N7 := Fr.app N6 Nq7
  have f_O_y := f_O_y.keep K7 (ninS ne_y_w (ninS ne_y_t nin0))
  have f_O_q := f_O_q.keep K7 (ninS ne_q_w (ninS ne_q_t nin0))
  have O6 := O6.keep K7 (ninS (Ne.symm ne_w_x) (ninS ne_x_t nin0))
  have Zn := Nat.le_trans Zn K7.1
  have Kp := Kp.trans K7 (allS (Or.inl (List.mem_of_getElem? (i := 0) rfl)) (allS (Or.inl (List.mem_of_getElem? (i := 2) rfl)) all0))
  show own_End p e below _ (T7.setTop (mkF m 54 _ []))
  refine own_return X7 hx hlk hby hret d8_54 (own_lv ?_ (by decide) (by decide))
  show QU2b Z q w kk x dx sx y dy sy t dt st  h0 n0 none T7.heap _
  exact ⟨rfl, N7, Kp, V7, O6, O7⟩
theorem own_ef_rmU0r1 (m : MethodId) (q : Addr) (t : Addr)  : entryFrame m #[(.ref q), (.int (0 : Int32)), (.ref t)] 5 = mkF m 0 #[.val (.ref q), .val (.int (0 : Int32)), .val (.ref t), .unset, .unset] [] := by first | (simp [entryFrame, mkF, argsToLocals, Value.category]; done) | rfl
def QU0r1 (Z : State) (q : Addr) (w : Addr) (kk : ClassId) (t : Addr) (dt : Int64) (st : Int64) (h0 : Heap) (n0 : Nat) (v : Option Value) (h : Heap) (L : List Loc) : Prop := v = none ∧ Fr n0 L ∧ Keep h0 h [w, t] ∧ Arv Z h w kk (.object "com/example/earnest_reactor/earnestreactor/core/ScheduledTask") (16 : Int32) [(.ref t), .null, .null] .null ∧ own_TK Z h t .null dt st .null (0 : Int32)
set_option maxRecDepth 65536 in
set_option maxHeartbeats 40000000 in
theorem rmU0r1 (l : Launch) (Z : State) (a0 : Array Value) (hw : ∀ d ∈ tables_1, d.before a0 Z = true) (ws : List Jvm.Cond) (q : Addr) (w : Addr) (kk : ClassId) (t : Addr) (dt : Int64) (st : Int64) (h0 : Heap) (n0 : Nat) (Z0 : n0 ≤ h0.size) (f_O_q : own_TQ Z h0 q (.ref w) (1 : Int32)) (f_V_w : Arv Z h0 w kk (.object "com/example/earnest_reactor/earnestreactor/core/ScheduledTask") (16 : Int32) [(.ref t), .null, .null] .null) (ho : Ovr Z kk "com/example/earnest_reactor/earnestreactor/core/ScheduledTask") (f_O_t : own_TK Z h0 t .null dt st .null (0 : Int32)) (ge_w : n0 ≤ w) (ge_t : n0 ≤ t) :
    MetFree l (⟨"com/example/earnest_reactor/earnestreactor/core/TimerQueue", "siftUp", "(ILcom/example/earnest_reactor/earnestreactor/core/ScheduledTask;)V"⟩ : MethodName) (head1 (Jvm.Cond.code (⟨"com/example/earnest_reactor/earnestreactor/core/TimerQueue", "siftUp", "(ILcom/example/earnest_reactor/earnestreactor/core/ScheduledTask;)V"⟩ : MethodName) prog_35_method_8_code 5 none :: ws) ({ frames := 2, cells := 0, slots := 0, locals := 27 } : Room)) (fun aa U => aa = #[(.ref q), (.int (0 : Int32)), (.ref t)] ∧ Z.Warmed39 U.vm ∧ U.heap = h0) (fun _ _ _ _ _ => True) (fun _ U oc U' => ∃ v L, oc = .returned v ∧ QU0r1 Z q w kk t dt st h0 n0 v U'.heap L ∧ FrameEnd U oc U' L ({ frames := 2, cells := 0, slots := 0, locals := 27 } : Room).cells ({ frames := 2, cells := 0, slots := 0, locals := 27 } : Room).slots) := by
  refine MetFree.of_bodySF (plainFor_of_name own_pn1) hisR ?_
  intro p e s m args below meth c s₁ Bd hml0 hP hK
  obtain ⟨rfl, hZ, hh⟩ := hP
  have hx := Bd.exec
  have hby := Bd.bytes
  have hlk := Bd.notSynchronized
  have hret := Bd.returns
  have hml : c.maxLocals = 5 := hml0
  have hown : s.vm.findClass "com/example/earnest_reactor/earnestreactor/core/TimerQueue" = some m.cls := findClass_of_methodNamed Bd.named
  have hnm := (name_of_methodNamed Bd.named Bd.method).1
  have X0 : Stand p l e ({ frames := 2, cells := 0, slots := 0, locals := 27 } : Room) s m #[(.ref q), (.int (0 : Int32)), (.ref t)] below meth c s₁ [] 0 0 := Stand.of_body Bd
  have e0 : s₁.heap = h0 := by rw [← hh, Bd.state]; rfl
  have N0 := Fr.nil n0
  refine own_body (Q := QU0r1 Z q w kk t dt st h0 n0) (KC := ({ frames := 2, cells := 0, slots := 0, locals := 27 } : Room).cells) (KS := ({ frames := 2, cells := 0, slots := 0, locals := 27 } : Room).slots) ?_
  rw [own_ef_rmU0r1 m q t]
  have Kp : Keep h0 h0 [w, t] := Keep.refl h0 _
  refine own_iloadN X0 hx hby d8_0 (pc' := 1) rfl rfl ?_
  refine own_istoreN X0 hx hby d8_1 (pc' := 2) rfl (l' := #[.val (.ref q), .val (.int (0 : Int32)), .val (.ref t), .val (.int (0 : Int32)), .unset]) rfl ?_
  refine own_iloadN X0 hx hby d8_2 (pc' := 3) rfl rfl ?_
  refine own_ifY X0 hx hby d8_3 (pc' := 48) (by decide) (by decide) (show ¬ (0 : Int32) < (0 : Int32) by decide) ?_
  refine own_aloadN X0 hx hby d8_48 (pc' := 49) rfl rfl rfl ?_
  refine own_iloadN X0 hx hby d8_49 (pc' := 50) rfl rfl ?_
  refine own_aloadN X0 hx hby d8_50 (pc' := 51) rfl rfl rfl ?_
  have ne_q_w : q ≠ w := Exa.neArv f_O_q.1 f_V_w (wd_1 hw)
  have ne_q_t : q ≠ t := Exa.ne f_O_q.1 f_O_t.1 (by decide)
  have ne_w_t : w ≠ t := Ne.symm (Exa.neArv f_O_t.1 f_V_w (wd_14 hw))
  refine own_lk1 hw X0 hx hZ hby (by rw [hml]; rfl) hown d8_51 (pc' := 54) rfl e0 f_O_q.1 (W := 0) (Nat.le_of_eq rfl) (rmPL0 l Z a0 hw [] q w kk (1 : Int32) (0 : Int32) t dt st (.ref t) .null .null rfl rfl rfl h0 n0 Z0 f_O_q f_V_w ho f_O_t ge_w ge_t) (by decide) (by decide) (by decide) (by decide) (fun v1 T1 L1 X1 hQ1 => ?_)
  obtain ⟨rfl, Nq1, K1, V1, O1⟩ := hQ1
  have N1 := Fr.app N0 Nq1
  have f_O_q := f_O_q.keep K1 (ninS ne_q_w (ninS ne_q_t nin0))
  have Zn := Nat.le_trans Z0 K1.1
  have Kp := Kp.trans K1 (allS (Or.inl (List.mem_of_getElem? (i := 0) rfl)) (allS (Or.inl (List.mem_of_getElem? (i := 1) rfl)) all0))
  show own_End p e below _ (T1.setTop (mkF m 54 _ []))
  refine own_return X1 hx hlk hby hret d8_54 (own_lv ?_ (by decide) (by decide))
  show QU0r1 Z q w kk t dt st  h0 n0 none T1.heap _
  exact ⟨rfl, N1, Kp, V1, O1⟩
theorem own_ef_rmU0r2 (m : MethodId) (q : Addr) (t : Addr)  : entryFrame m #[(.ref q), (.int (0 : Int32)), (.ref t)] 5 = mkF m 0 #[.val (.ref q), .val (.int (0 : Int32)), .val (.ref t), .unset, .unset] [] := by first | (simp [entryFrame, mkF, argsToLocals, Value.category]; done) | rfl
def QU0r2 (Z : State) (q : Addr) (w : Addr) (kk : ClassId) (t : Addr) (dt : Int64) (st : Int64) (y : Addr) (dy : Int64) (sy : Int64) (h0 : Heap) (n0 : Nat) (v : Option Value) (h : Heap) (L : List Loc) : Prop := v = none ∧ Fr n0 L ∧ Keep h0 h [w, t] ∧ Arv Z h w kk (.object "com/example/earnest_reactor/earnestreactor/core/ScheduledTask") (16 : Int32) [(.ref t), (.ref y), .null] .null ∧ own_TK Z h t .null dt st .null (0 : Int32)
set_option maxRecDepth 65536 in
set_option maxHeartbeats 40000000 in
theorem rmU0r2 (l : Launch) (Z : State) (a0 : Array Value) (hw : ∀ d ∈ tables_1, d.before a0 Z = true) (ws : List Jvm.Cond) (q : Addr) (w : Addr) (kk : ClassId) (t : Addr) (dt : Int64) (st : Int64) (y : Addr) (dy : Int64) (sy : Int64) (h0 : Heap) (n0 : Nat) (Z0 : n0 ≤ h0.size) (f_O_q : own_TQ Z h0 q (.ref w) (2 : Int32)) (f_V_w : Arv Z h0 w kk (.object "com/example/earnest_reactor/earnestreactor/core/ScheduledTask") (16 : Int32) [(.ref t), (.ref y), .null] .null) (ho : Ovr Z kk "com/example/earnest_reactor/earnestreactor/core/ScheduledTask") (f_O_t : own_TK Z h0 t .null dt st .null (0 : Int32)) (f_O_y : own_TK Z h0 y .null dy sy .null (1 : Int32)) (ge_w : n0 ≤ w) (ge_t : n0 ≤ t) (ne_t_y : t ≠ y) :
    MetFree l (⟨"com/example/earnest_reactor/earnestreactor/core/TimerQueue", "siftUp", "(ILcom/example/earnest_reactor/earnestreactor/core/ScheduledTask;)V"⟩ : MethodName) (head1 (Jvm.Cond.code (⟨"com/example/earnest_reactor/earnestreactor/core/TimerQueue", "siftUp", "(ILcom/example/earnest_reactor/earnestreactor/core/ScheduledTask;)V"⟩ : MethodName) prog_35_method_8_code 5 none :: ws) ({ frames := 2, cells := 0, slots := 0, locals := 27 } : Room)) (fun aa U => aa = #[(.ref q), (.int (0 : Int32)), (.ref t)] ∧ Z.Warmed39 U.vm ∧ U.heap = h0) (fun _ _ _ _ _ => True) (fun _ U oc U' => ∃ v L, oc = .returned v ∧ QU0r2 Z q w kk t dt st y dy sy h0 n0 v U'.heap L ∧ FrameEnd U oc U' L ({ frames := 2, cells := 0, slots := 0, locals := 27 } : Room).cells ({ frames := 2, cells := 0, slots := 0, locals := 27 } : Room).slots) := by
  refine MetFree.of_bodySF (plainFor_of_name own_pn1) hisR ?_
  intro p e s m args below meth c s₁ Bd hml0 hP hK
  obtain ⟨rfl, hZ, hh⟩ := hP
  have hx := Bd.exec
  have hby := Bd.bytes
  have hlk := Bd.notSynchronized
  have hret := Bd.returns
  have hml : c.maxLocals = 5 := hml0
  have hown : s.vm.findClass "com/example/earnest_reactor/earnestreactor/core/TimerQueue" = some m.cls := findClass_of_methodNamed Bd.named
  have hnm := (name_of_methodNamed Bd.named Bd.method).1
  have X0 : Stand p l e ({ frames := 2, cells := 0, slots := 0, locals := 27 } : Room) s m #[(.ref q), (.int (0 : Int32)), (.ref t)] below meth c s₁ [] 0 0 := Stand.of_body Bd
  have e0 : s₁.heap = h0 := by rw [← hh, Bd.state]; rfl
  have N0 := Fr.nil n0
  refine own_body (Q := QU0r2 Z q w kk t dt st y dy sy h0 n0) (KC := ({ frames := 2, cells := 0, slots := 0, locals := 27 } : Room).cells) (KS := ({ frames := 2, cells := 0, slots := 0, locals := 27 } : Room).slots) ?_
  rw [own_ef_rmU0r2 m q t]
  have Kp : Keep h0 h0 [w, t] := Keep.refl h0 _
  refine own_iloadN X0 hx hby d8_0 (pc' := 1) rfl rfl ?_
  refine own_istoreN X0 hx hby d8_1 (pc' := 2) rfl (l' := #[.val (.ref q), .val (.int (0 : Int32)), .val (.ref t), .val (.int (0 : Int32)), .unset]) rfl ?_
  refine own_iloadN X0 hx hby d8_2 (pc' := 3) rfl rfl ?_
  refine own_ifY X0 hx hby d8_3 (pc' := 48) (by decide) (by decide) (show ¬ (0 : Int32) < (0 : Int32) by decide) ?_
  refine own_aloadN X0 hx hby d8_48 (pc' := 49) rfl rfl rfl ?_
  refine own_iloadN X0 hx hby d8_49 (pc' := 50) rfl rfl ?_
  refine own_aloadN X0 hx hby d8_50 (pc' := 51) rfl rfl rfl ?_
  have ne_q_w : q ≠ w := Exa.neArv f_O_q.1 f_V_w (wd_1 hw)
  have ne_q_t : q ≠ t := Exa.ne f_O_q.1 f_O_t.1 (by decide)
  have ne_w_t : w ≠ t := Ne.symm (Exa.neArv f_O_t.1 f_V_w (wd_14 hw))
  have ne_y_w : y ≠ w := Exa.neArv f_O_y.1 f_V_w (wd_14 hw)
  refine own_lk1 hw X0 hx hZ hby (by rw [hml]; rfl) hown d8_51 (pc' := 54) rfl e0 f_O_q.1 (W := 0) (Nat.le_of_eq rfl) (rmPL0 l Z a0 hw [] q w kk (2 : Int32) (0 : Int32) t dt st (.ref t) (.ref y) .null rfl rfl rfl h0 n0 Z0 f_O_q f_V_w ho f_O_t ge_w ge_t) (by decide) (by decide) (by decide) (by decide) (fun v1 T1 L1 X1 hQ1 => ?_)
  obtain ⟨rfl, Nq1, K1, V1, O1⟩ := hQ1
  have N1 := Fr.app N0 Nq1
  have f_O_q := f_O_q.keep K1 (ninS ne_q_w (ninS ne_q_t nin0))
  have f_O_y := f_O_y.keep K1 (ninS ne_y_w (ninS (Ne.symm ne_t_y) nin0))
  have Zn := Nat.le_trans Z0 K1.1
  have Kp := Kp.trans K1 (allS (Or.inl (List.mem_of_getElem? (i := 0) rfl)) (allS (Or.inl (List.mem_of_getElem? (i := 1) rfl)) all0))
  show own_End p e below _ (T1.setTop (mkF m 54 _ []))
  refine own_return X1 hx hlk hby hret d8_54 (own_lv ?_ (by decide) (by decide))
  show QU0r2 Z q w kk t dt st y dy sy  h0 n0 none T1.heap _
  exact ⟨rfl, N1, Kp, V1, O1⟩
theorem own_ef_rmD1 (m : MethodId) (q : Addr) (t : Addr)  : entryFrame m #[(.ref q), (.int (0 : Int32)), (.ref t)] 6 = mkF m 0 #[.val (.ref q), .val (.int (0 : Int32)), .val (.ref t), .unset, .unset, .unset] [] := by first | (simp [entryFrame, mkF, argsToLocals, Value.category]; done) | rfl
def QD1 (Z : State) (q : Addr) (w : Addr) (kk : ClassId) (t : Addr) (dt : Int64) (st : Int64) (v0 : Value) (hv0 : v0.isRef = true) (h0 : Heap) (n0 : Nat) (v : Option Value) (h : Heap) (L : List Loc) : Prop := v = none ∧ Fr n0 L ∧ Keep h0 h [w, t] ∧ Arv Z h w kk (.object "com/example/earnest_reactor/earnestreactor/core/ScheduledTask") (16 : Int32) [(.ref t), .null, .null] .null ∧ own_TK Z h t .null dt st .null (0 : Int32)
set_option maxRecDepth 65536 in
set_option maxHeartbeats 40000000 in
theorem rmD1 (l : Launch) (Z : State) (a0 : Array Value) (hw : ∀ d ∈ tables_1, d.before a0 Z = true) (ws : List Jvm.Cond) (q : Addr) (w : Addr) (kk : ClassId) (t : Addr) (dt : Int64) (st : Int64) (v0 : Value) (hv0 : v0.isRef = true) (h0 : Heap) (n0 : Nat) (Z0 : n0 ≤ h0.size) (f_O_q : own_TQ Z h0 q (.ref w) (1 : Int32)) (f_V_w : Arv Z h0 w kk (.object "com/example/earnest_reactor/earnestreactor/core/ScheduledTask") (16 : Int32) [v0, .null, .null] .null) (ho : Ovr Z kk "com/example/earnest_reactor/earnestreactor/core/ScheduledTask") (f_O_t : own_TK Z h0 t .null dt st .null (1 : Int32)) (ge_w : n0 ≤ w) (ge_t : n0 ≤ t) :
    MetFree l (⟨"com/example/earnest_reactor/earnestreactor/core/TimerQueue", "siftDown", "(ILcom/example/earnest_reactor/earnestreactor/core/ScheduledTask;)V"⟩ : MethodName) (head1 (Jvm.Cond.code (⟨"com/example/earnest_reactor/earnestreactor/core/TimerQueue", "siftDown", "(ILcom/example/earnest_reactor/earnestreactor/core/ScheduledTask;)V"⟩ : MethodName) prog_35_method_9_code 6 none :: ws) ({ frames := 2, cells := 0, slots := 0, locals := 27 } : Room)) (fun aa U => aa = #[(.ref q), (.int (0 : Int32)), (.ref t)] ∧ Z.Warmed39 U.vm ∧ U.heap = h0) (fun _ _ _ _ _ => True) (fun _ U oc U' => ∃ v L, oc = .returned v ∧ QD1 Z q w kk t dt st v0 hv0 h0 n0 v U'.heap L ∧ FrameEnd U oc U' L ({ frames := 2, cells := 0, slots := 0, locals := 27 } : Room).cells ({ frames := 2, cells := 0, slots := 0, locals := 27 } : Room).slots) := by
  refine MetFree.of_bodySF (plainFor_of_name own_pn1) hisR ?_
  intro p e s m args below meth c s₁ Bd hml0 hP hK
  obtain ⟨rfl, hZ, hh⟩ := hP
  have hx := Bd.exec
  have hby := Bd.bytes
  have hlk := Bd.notSynchronized
  have hret := Bd.returns
  have hml : c.maxLocals = 6 := hml0
  have hown : s.vm.findClass "com/example/earnest_reactor/earnestreactor/core/TimerQueue" = some m.cls := findClass_of_methodNamed Bd.named
  have hnm := (name_of_methodNamed Bd.named Bd.method).1
  have X0 : Stand p l e ({ frames := 2, cells := 0, slots := 0, locals := 27 } : Room) s m #[(.ref q), (.int (0 : Int32)), (.ref t)] below meth c s₁ [] 0 0 := Stand.of_body Bd
  have e0 : s₁.heap = h0 := by rw [← hh, Bd.state]; rfl
  have N0 := Fr.nil n0
  refine own_body (Q := QD1 Z q w kk t dt st v0 hv0 h0 n0) (KC := ({ frames := 2, cells := 0, slots := 0, locals := 27 } : Room).cells) (KS := ({ frames := 2, cells := 0, slots := 0, locals := 27 } : Room).slots) ?_
  rw [own_ef_rmD1 m q t]
  have Kp : Keep h0 h0 [w, t] := Keep.refl h0 _
  refine own_iloadN X0 hx hby d14_0 (pc' := 1) rfl rfl ?_
  refine own_istoreN X0 hx hby d14_1 (pc' := 2) rfl (l' := #[.val (.ref q), .val (.int (0 : Int32)), .val (.ref t), .val (.int (0 : Int32)), .unset, .unset]) rfl ?_
  refine own_aloadN X0 hx hby d14_2 (pc' := 3) rfl rfl rfl ?_
  obtain ⟨f_E_q, f_F_q_heap, f_F_q_size⟩ := f_O_q
  refine own_getF X0 hx hZ hby hown (host := "") (Or.inl (wd_36 hw)) Via.refl e0 f_F_q_size d14_3 (pc' := 6) rfl (fun T1 X1 e1 => ?_)
  refine own_iconst X1 hx hby d14_6 (pc' := 7) rfl (n := (2 : Int32)) (by decide) ?_
  refine own_idiv X1 hx hby d14_7 (pc' := 8) rfl (by decide) ?_
  show own_End p e below _ (T1.setTop (mkF m 8 #[.val (.ref q), .val (.int (0 : Int32)), .val (.ref t), .val (.int (0 : Int32)), .unset, .unset] [(.int (0 : Int32))]))
  refine own_istore X1 hx hby d14_8 (pc' := 10) rfl (l' := #[.val (.ref q), .val (.int (0 : Int32)), .val (.ref t), .val (.int (0 : Int32)), .val (.int (0 : Int32)), .unset]) rfl ?_
  refine own_iloadN X1 hx hby d14_10 (pc' := 11) rfl rfl ?_
  refine own_iload X1 hx hby d14_11 (pc' := 13) rfl rfl ?_
  refine own_icY X1 hx hby d14_13 (pc' := 94) (by decide) (by decide) (show ¬ (0 : Int32) < (0 : Int32) by decide) ?_
  refine own_aloadN X1 hx hby d14_94 (pc' := 95) rfl rfl rfl ?_
  refine own_iloadN X1 hx hby d14_95 (pc' := 96) rfl rfl ?_
  refine own_aloadN X1 hx hby d14_96 (pc' := 97) rfl rfl rfl ?_
  have f_O_q : own_TQ Z h0 q (.ref w) (1 : Int32) := ⟨f_E_q, f_F_q_heap, f_F_q_size⟩
  have ne_w_t : w ≠ t := Ne.symm (Exa.neArv f_O_t.1 f_V_w (wd_14 hw))
  have ne_q_w : q ≠ w := Exa.neArv f_O_q.1 f_V_w (wd_1 hw)
  have ne_q_t : q ≠ t := Exa.ne f_O_q.1 f_O_t.1 (by decide)
  refine own_lk1 hw X1 hx hZ hby (by rw [hml]; rfl) hown d14_97 (pc' := 100) rfl e1 f_O_q.1 (W := 0) (Nat.le_of_eq rfl) (rmPL0 l Z a0 hw [] q w kk (1 : Int32) (1 : Int32) t dt st v0 .null .null hv0 rfl rfl h0 n0 Z0 f_O_q f_V_w ho f_O_t ge_w ge_t) (by decide) (by decide) (by decide) (by decide) (fun v2 T2 L2 X2 hQ2 => ?_)
  obtain ⟨rfl, Nq2, K2, V2, O2⟩ := hQ2
  have N2 := Fr.app N0 Nq2
  have f_O_q := f_O_q.keep K2 (ninS ne_q_w (ninS ne_q_t nin0))
  have Zn := Nat.le_trans Z0 K2.1
  have Kp := Kp.trans K2 (allS (Or.inl (List.mem_of_getElem? (i := 0) rfl)) (allS (Or.inl (List.mem_of_getElem? (i := 1) rfl)) all0))
  show own_End p e below _ (T2.setTop (mkF m 100 _ []))
  refine own_return X2 hx hlk hby hret d14_100 (own_lv ?_ (by decide) (by decide))
  show QD1 Z q w kk t dt st v0 hv0  h0 n0 none T2.heap _
  exact ⟨rfl, N2, Kp, V2, O2⟩
theorem own_ef_rmD2a (m : MethodId) (q : Addr) (t : Addr)  : entryFrame m #[(.ref q), (.int (0 : Int32)), (.ref t)] 6 = mkF m 0 #[.val (.ref q), .val (.int (0 : Int32)), .val (.ref t), .unset, .unset, .unset] [] := by first | (simp [entryFrame, mkF, argsToLocals, Value.category]; done) | rfl
def QD2a (Z : State) (q : Addr) (w : Addr) (kk : ClassId) (t : Addr) (dt : Int64) (st : Int64) (y : Addr) (dy : Int64) (sy : Int64) (v0 : Value) (hv0 : v0.isRef = true) (h0 : Heap) (n0 : Nat) (v : Option Value) (h : Heap) (L : List Loc) : Prop := v = none ∧ Fr n0 L ∧ Keep h0 h [w, t] ∧ Arv Z h w kk (.object "com/example/earnest_reactor/earnestreactor/core/ScheduledTask") (16 : Int32) [(.ref t), (.ref y), .null] .null ∧ own_TK Z h t .null dt st .null (0 : Int32)
set_option maxRecDepth 65536 in
set_option maxHeartbeats 40000000 in
theorem rmD2a (l : Launch) (Z : State) (a0 : Array Value) (hw : ∀ d ∈ tables_1, d.before a0 Z = true) (ws : List Jvm.Cond) (q : Addr) (w : Addr) (kk : ClassId) (t : Addr) (dt : Int64) (st : Int64) (y : Addr) (dy : Int64) (sy : Int64) (v0 : Value) (hv0 : v0.isRef = true) (h0 : Heap) (n0 : Nat) (Z0 : n0 ≤ h0.size) (f_O_q : own_TQ Z h0 q (.ref w) (2 : Int32)) (f_V_w : Arv Z h0 w kk (.object "com/example/earnest_reactor/earnestreactor/core/ScheduledTask") (16 : Int32) [v0, (.ref y), .null] .null) (ho : Ovr Z kk "com/example/earnest_reactor/earnestreactor/core/ScheduledTask") (f_O_t : own_TK Z h0 t .null dt st .null (2 : Int32)) (f_O_y : own_TK Z h0 y .null dy sy .null (1 : Int32)) (ge_w : n0 ≤ w) (ge_t : n0 ≤ t) (ne_t_y : t ≠ y) (hz : own_rb dy sy dt st = (0 : Int32)) :
    MetFree l (⟨"com/example/earnest_reactor/earnestreactor/core/TimerQueue", "siftDown", "(ILcom/example/earnest_reactor/earnestreactor/core/ScheduledTask;)V"⟩ : MethodName) (head1 (Jvm.Cond.code (⟨"com/example/earnest_reactor/earnestreactor/core/TimerQueue", "siftDown", "(ILcom/example/earnest_reactor/earnestreactor/core/ScheduledTask;)V"⟩ : MethodName) prog_35_method_9_code 6 none :: ws) ({ frames := 2, cells := 0, slots := 0, locals := 27 } : Room)) (fun aa U => aa = #[(.ref q), (.int (0 : Int32)), (.ref t)] ∧ Z.Warmed39 U.vm ∧ U.heap = h0) (fun _ _ _ _ _ => True) (fun _ U oc U' => ∃ v L, oc = .returned v ∧ QD2a Z q w kk t dt st y dy sy v0 hv0 h0 n0 v U'.heap L ∧ FrameEnd U oc U' L ({ frames := 2, cells := 0, slots := 0, locals := 27 } : Room).cells ({ frames := 2, cells := 0, slots := 0, locals := 27 } : Room).slots) := by
  refine MetFree.of_bodySF (plainFor_of_name own_pn1) hisR ?_
  intro p e s m args below meth c s₁ Bd hml0 hP hK
  obtain ⟨rfl, hZ, hh⟩ := hP
  have hx := Bd.exec
  have hby := Bd.bytes
  have hlk := Bd.notSynchronized
  have hret := Bd.returns
  have hml : c.maxLocals = 6 := hml0
  have hown : s.vm.findClass "com/example/earnest_reactor/earnestreactor/core/TimerQueue" = some m.cls := findClass_of_methodNamed Bd.named
  have hnm := (name_of_methodNamed Bd.named Bd.method).1
  have X0 : Stand p l e ({ frames := 2, cells := 0, slots := 0, locals := 27 } : Room) s m #[(.ref q), (.int (0 : Int32)), (.ref t)] below meth c s₁ [] 0 0 := Stand.of_body Bd
  have e0 : s₁.heap = h0 := by rw [← hh, Bd.state]; rfl
  have N0 := Fr.nil n0
  refine own_body (Q := QD2a Z q w kk t dt st y dy sy v0 hv0 h0 n0) (KC := ({ frames := 2, cells := 0, slots := 0, locals := 27 } : Room).cells) (KS := ({ frames := 2, cells := 0, slots := 0, locals := 27 } : Room).slots) ?_
  rw [own_ef_rmD2a m q t]
  have Kp : Keep h0 h0 [w, t] := Keep.refl h0 _
  refine own_iloadN X0 hx hby d14_0 (pc' := 1) rfl rfl ?_
  refine own_istoreN X0 hx hby d14_1 (pc' := 2) rfl (l' := #[.val (.ref q), .val (.int (0 : Int32)), .val (.ref t), .val (.int (0 : Int32)), .unset, .unset]) rfl ?_
  refine own_aloadN X0 hx hby d14_2 (pc' := 3) rfl rfl rfl ?_
  obtain ⟨f_E_q, f_F_q_heap, f_F_q_size⟩ := f_O_q
  refine own_getF X0 hx hZ hby hown (host := "") (Or.inl (wd_36 hw)) Via.refl e0 f_F_q_size d14_3 (pc' := 6) rfl (fun T1 X1 e1 => ?_)
  refine own_iconst X1 hx hby d14_6 (pc' := 7) rfl (n := (2 : Int32)) (by decide) ?_
  refine own_idiv X1 hx hby d14_7 (pc' := 8) rfl (by decide) ?_
  show own_End p e below _ (T1.setTop (mkF m 8 #[.val (.ref q), .val (.int (0 : Int32)), .val (.ref t), .val (.int (0 : Int32)), .unset, .unset] [(.int (1 : Int32))]))
  refine own_istore X1 hx hby d14_8 (pc' := 10) rfl (l' := #[.val (.ref q), .val (.int (0 : Int32)), .val (.ref t), .val (.int (0 : Int32)), .val (.int (1 : Int32)), .unset]) rfl ?_
  refine own_iloadN X1 hx hby d14_10 (pc' := 11) rfl rfl ?_
  refine own_iload X1 hx hby d14_11 (pc' := 13) rfl rfl ?_
  refine own_icN X1 hx hby d14_13 (pc' := 16) rfl (show (0 : Int32) < (1 : Int32) by decide) ?_
  refine own_iconst X1 hx hby d14_16 (pc' := 17) rfl (n := (2 : Int32)) (by decide) ?_
  refine own_iloadN X1 hx hby d14_17 (pc' := 18) rfl rfl ?_
  refine own_imul X1 hx hby d14_18 (pc' := 19) rfl ?_
  show own_End p e below _ (T1.setTop (mkF m 19 #[.val (.ref q), .val (.int (0 : Int32)), .val (.ref t), .val (.int (0 : Int32)), .val (.int (1 : Int32)), .unset] [(.int (0 : Int32))]))
  refine own_iconst X1 hx hby d14_19 (pc' := 20) rfl (n := (1 : Int32)) (by decide) ?_
  refine own_iadd X1 hx hby d14_20 (pc' := 21) rfl ?_
  show own_End p e below _ (T1.setTop (mkF m 21 #[.val (.ref q), .val (.int (0 : Int32)), .val (.ref t), .val (.int (0 : Int32)), .val (.int (1 : Int32)), .unset] [(.int (1 : Int32))]))
  refine own_istore X1 hx hby d14_21 (pc' := 23) rfl (l' := #[.val (.ref q), .val (.int (0 : Int32)), .val (.ref t), .val (.int (0 : Int32)), .val (.int (1 : Int32)), .val (.int (1 : Int32))]) rfl ?_
  refine own_iload X1 hx hby d14_23 (pc' := 25) rfl rfl ?_
  refine own_iconst X1 hx hby d14_25 (pc' := 26) rfl (n := (1 : Int32)) (by decide) ?_
  refine own_iadd X1 hx hby d14_26 (pc' := 27) rfl ?_
  show own_End p e below _ (T1.setTop (mkF m 27 #[.val (.ref q), .val (.int (0 : Int32)), .val (.ref t), .val (.int (0 : Int32)), .val (.int (1 : Int32)), .val (.int (1 : Int32))] [(.int (2 : Int32))]))
  refine own_aloadN X1 hx hby d14_27 (pc' := 28) rfl rfl rfl ?_
  refine own_getF X1 hx hZ hby hown (host := "") (Or.inl (wd_36 hw)) Via.refl e1 f_F_q_size d14_28 (pc' := 31) rfl (fun T2 X2 e2 => ?_)
  refine own_icY X2 hx hby d14_31 (pc' := 59) (by decide) (by decide) (show ¬ (2 : Int32) < (2 : Int32) by decide) ?_
  refine own_aloadN X2 hx hby d14_59 (pc' := 60) rfl rfl rfl ?_
  refine own_getF X2 hx hZ hby hown (host := "") (Or.inl (wd_11 hw)) Via.refl e2 f_F_q_heap d14_60 (pc' := 63) rfl (fun T3 X3 e3 => ?_)
  refine own_iload X3 hx hby d14_63 (pc' := 65) rfl rfl ?_
  obtain ⟨cl4, Ar4, q4, S4, M4, H4, G4⟩ := id f_V_w
  have hin4 : ¬ ((1 : Int32) < 0 ∨ cl4.slots.size ≤ ((1 : Int32)).toNatClampNeg) := inb_of S4 ⟨by decide, by decide⟩
  have hat4 : cl4.slots[((1 : Int32)).toNatClampNeg]? = some (.ref y) := H4.at hin4 rfl
  refine own_aaload X3 hx hZ hby e3 Ar4 rfl hin4 hat4 d14_65 (pc' := 66) rfl ?_
  refine own_aloadN X3 hx hby d14_66 (pc' := 67) rfl rfl rfl ?_
  refine own_lk2 hw X3 hx hZ hby (by rw [hml]; rfl) hown d14_67 (pc' := 70) rfl e3 f_O_y.1 (W := 0) (Nat.le_of_eq rfl) (rmRB l Z a0 hw [] y dy sy t dt st (1 : Int32) (2 : Int32) (0 : Int32) h0 n0 Z0 f_O_y f_O_t hz) (by decide) (by decide) (by decide) (by decide) (fun v5 T5 L5 X5 hQ5 => ?_)
  obtain ⟨rfl, Nq5, e5⟩ := hQ5
  have N5 := Fr.app N0 Nq5
  show own_End p e below _ (T5.setTop (mkF m 70 _ [(.int (0 : Int32))]))
  refine own_ifN X5 hx hby d14_70 (pc' := 73) rfl (show (0 : Int32) = (0 : Int32) by decide) ?_
  refine own_goto X5 hx hby d14_73 (pc' := 94) (by decide) (by decide) ?_
  refine own_aloadN X5 hx hby d14_94 (pc' := 95) rfl rfl rfl ?_
  refine own_iloadN X5 hx hby d14_95 (pc' := 96) rfl rfl ?_
  refine own_aloadN X5 hx hby d14_96 (pc' := 97) rfl rfl rfl ?_
  have f_O_q : own_TQ Z h0 q (.ref w) (2 : Int32) := ⟨f_E_q, f_F_q_heap, f_F_q_size⟩
  have ne_w_t : w ≠ t := Ne.symm (Exa.neArv f_O_t.1 f_V_w (wd_14 hw))
  have ne_y_w : y ≠ w := Exa.neArv f_O_y.1 f_V_w (wd_14 hw)
  have ne_q_w : q ≠ w := Exa.neArv f_O_q.1 f_V_w (wd_1 hw)
  have ne_q_t : q ≠ t := Exa.ne f_O_q.1 f_O_t.1 (by decide)
  refine own_lk1 hw X5 hx hZ hby (by rw [hml]; rfl) hown d14_97 (pc' := 100) rfl e5 f_O_q.1 (W := 0) (Nat.le_of_eq rfl) (rmPL0 l Z a0 hw [] q w kk (2 : Int32) (2 : Int32) t dt st v0 (.ref y) .null hv0 rfl rfl h0 n0 Z0 f_O_q f_V_w ho f_O_t ge_w ge_t) (by decide) (by decide) (by decide) (by decide) (fun v6 T6 L6 X6 hQ6 => ?_)
  obtain ⟨rfl, Nq6, K6, V6, O6⟩ := hQ6
  have N6 := Fr.app N5 Nq6
  have f_O_y := f_O_y.keep K6 (ninS ne_y_w (ninS (Ne.symm ne_t_y) nin0))
  have f_O_q := f_O_q.keep K6 (ninS ne_q_w (ninS ne_q_t nin0))
  have Zn := Nat.le_trans Z0 K6.1
  have Kp := Kp.trans K6 (allS (Or.inl (List.mem_of_getElem? (i := 0) rfl)) (allS (Or.inl (List.mem_of_getElem? (i := 1) rfl)) all0))
  show own_End p e below _ (T6.setTop (mkF m 100 _ []))
  refine own_return X6 hx hlk hby hret d14_100 (own_lv ?_ (by decide) (by decide))
  show QD2a Z q w kk t dt st y dy sy v0 hv0  h0 n0 none T6.heap _
  exact ⟨rfl, N6, Kp, V6, O6⟩
theorem own_ef_rmD2b (m : MethodId) (q : Addr) (t : Addr)  : entryFrame m #[(.ref q), (.int (0 : Int32)), (.ref t)] 6 = mkF m 0 #[.val (.ref q), .val (.int (0 : Int32)), .val (.ref t), .unset, .unset, .unset] [] := by first | (simp [entryFrame, mkF, argsToLocals, Value.category]; done) | rfl
def QD2b (Z : State) (q : Addr) (w : Addr) (kk : ClassId) (t : Addr) (dt : Int64) (st : Int64) (y : Addr) (dy : Int64) (sy : Int64) (v0 : Value) (hv0 : v0.isRef = true) (h0 : Heap) (n0 : Nat) (v : Option Value) (h : Heap) (L : List Loc) : Prop := v = none ∧ Fr n0 L ∧ Keep h0 h [w, t, y] ∧ Arv Z h w kk (.object "com/example/earnest_reactor/earnestreactor/core/ScheduledTask") (16 : Int32) [(.ref y), (.ref t), .null] .null ∧ own_TK Z h t .null dt st .null (1 : Int32) ∧ own_TK Z h y .null dy sy .null (0 : Int32)
set_option maxRecDepth 65536 in
set_option maxHeartbeats 40000000 in
theorem rmD2b (l : Launch) (Z : State) (a0 : Array Value) (hw : ∀ d ∈ tables_1, d.before a0 Z = true) (ws : List Jvm.Cond) (q : Addr) (w : Addr) (kk : ClassId) (t : Addr) (dt : Int64) (st : Int64) (y : Addr) (dy : Int64) (sy : Int64) (v0 : Value) (hv0 : v0.isRef = true) (h0 : Heap) (n0 : Nat) (Z0 : n0 ≤ h0.size) (f_O_q : own_TQ Z h0 q (.ref w) (2 : Int32)) (f_V_w : Arv Z h0 w kk (.object "com/example/earnest_reactor/earnestreactor/core/ScheduledTask") (16 : Int32) [v0, (.ref y), .null] .null) (ho : Ovr Z kk "com/example/earnest_reactor/earnestreactor/core/ScheduledTask") (f_O_t : own_TK Z h0 t .null dt st .null (2 : Int32)) (f_O_y : own_TK Z h0 y .null dy sy .null (1 : Int32)) (ge_w : n0 ≤ w) (ge_t : n0 ≤ t) (ge_y : n0 ≤ y) (ne_t_y : t ≠ y) (hz : own_rb dy sy dt st = (1 : Int32)) :
    MetFree l (⟨"com/example/earnest_reactor/earnestreactor/core/TimerQueue", "siftDown", "(ILcom/example/earnest_reactor/earnestreactor/core/ScheduledTask;)V"⟩ : MethodName) (head1 (Jvm.Cond.code (⟨"com/example/earnest_reactor/earnestreactor/core/TimerQueue", "siftDown", "(ILcom/example/earnest_reactor/earnestreactor/core/ScheduledTask;)V"⟩ : MethodName) prog_35_method_9_code 6 none :: ws) ({ frames := 2, cells := 0, slots := 0, locals := 27 } : Room)) (fun aa U => aa = #[(.ref q), (.int (0 : Int32)), (.ref t)] ∧ Z.Warmed39 U.vm ∧ U.heap = h0) (fun _ _ _ _ _ => True) (fun _ U oc U' => ∃ v L, oc = .returned v ∧ QD2b Z q w kk t dt st y dy sy v0 hv0 h0 n0 v U'.heap L ∧ FrameEnd U oc U' L ({ frames := 2, cells := 0, slots := 0, locals := 27 } : Room).cells ({ frames := 2, cells := 0, slots := 0, locals := 27 } : Room).slots) := by
  refine MetFree.of_bodySF (plainFor_of_name own_pn1) hisR ?_
  intro p e s m args below meth c s₁ Bd hml0 hP hK
  obtain ⟨rfl, hZ, hh⟩ := hP
  have hx := Bd.exec
  have hby := Bd.bytes
  have hlk := Bd.notSynchronized
  have hret := Bd.returns
  have hml : c.maxLocals = 6 := hml0
  have hown : s.vm.findClass "com/example/earnest_reactor/earnestreactor/core/TimerQueue" = some m.cls := findClass_of_methodNamed Bd.named
  have hnm := (name_of_methodNamed Bd.named Bd.method).1
  have X0 : Stand p l e ({ frames := 2, cells := 0, slots := 0, locals := 27 } : Room) s m #[(.ref q), (.int (0 : Int32)), (.ref t)] below meth c s₁ [] 0 0 := Stand.of_body Bd
  have e0 : s₁.heap = h0 := by rw [← hh, Bd.state]; rfl
  have N0 := Fr.nil n0
  refine own_body (Q := QD2b Z q w kk t dt st y dy sy v0 hv0 h0 n0) (KC := ({ frames := 2, cells := 0, slots := 0, locals := 27 } : Room).cells) (KS := ({ frames := 2, cells := 0, slots := 0, locals := 27 } : Room).slots) ?_
  rw [own_ef_rmD2b m q t]
  have Kp : Keep h0 h0 [w, t, y] := Keep.refl h0 _
  refine own_iloadN X0 hx hby d14_0 (pc' := 1) rfl rfl ?_
  refine own_istoreN X0 hx hby d14_1 (pc' := 2) rfl (l' := #[.val (.ref q), .val (.int (0 : Int32)), .val (.ref t), .val (.int (0 : Int32)), .unset, .unset]) rfl ?_
  refine own_aloadN X0 hx hby d14_2 (pc' := 3) rfl rfl rfl ?_
  obtain ⟨f_E_q, f_F_q_heap, f_F_q_size⟩ := f_O_q
  refine own_getF X0 hx hZ hby hown (host := "") (Or.inl (wd_36 hw)) Via.refl e0 f_F_q_size d14_3 (pc' := 6) rfl (fun T1 X1 e1 => ?_)
  refine own_iconst X1 hx hby d14_6 (pc' := 7) rfl (n := (2 : Int32)) (by decide) ?_
  refine own_idiv X1 hx hby d14_7 (pc' := 8) rfl (by decide) ?_
  show own_End p e below _ (T1.setTop (mkF m 8 #[.val (.ref q), .val (.int (0 : Int32)), .val (.ref t), .val (.int (0 : Int32)), .unset, .unset] [(.int (1 : Int32))]))
  refine own_istore X1 hx hby d14_8 (pc' := 10) rfl (l' := #[.val (.ref q), .val (.int (0 : Int32)), .val (.ref t), .val (.int (0 : Int32)), .val (.int (1 : Int32)), .unset]) rfl ?_
  refine own_iloadN X1 hx hby d14_10 (pc' := 11) rfl rfl ?_
  refine own_iload X1 hx hby d14_11 (pc' := 13) rfl rfl ?_
  refine own_icN X1 hx hby d14_13 (pc' := 16) rfl (show (0 : Int32) < (1 : Int32) by decide) ?_
  refine own_iconst X1 hx hby d14_16 (pc' := 17) rfl (n := (2 : Int32)) (by decide) ?_
  refine own_iloadN X1 hx hby d14_17 (pc' := 18) rfl rfl ?_
  refine own_imul X1 hx hby d14_18 (pc' := 19) rfl ?_
  show own_End p e below _ (T1.setTop (mkF m 19 #[.val (.ref q), .val (.int (0 : Int32)), .val (.ref t), .val (.int (0 : Int32)), .val (.int (1 : Int32)), .unset] [(.int (0 : Int32))]))
  refine own_iconst X1 hx hby d14_19 (pc' := 20) rfl (n := (1 : Int32)) (by decide) ?_
  refine own_iadd X1 hx hby d14_20 (pc' := 21) rfl ?_
  show own_End p e below _ (T1.setTop (mkF m 21 #[.val (.ref q), .val (.int (0 : Int32)), .val (.ref t), .val (.int (0 : Int32)), .val (.int (1 : Int32)), .unset] [(.int (1 : Int32))]))
  refine own_istore X1 hx hby d14_21 (pc' := 23) rfl (l' := #[.val (.ref q), .val (.int (0 : Int32)), .val (.ref t), .val (.int (0 : Int32)), .val (.int (1 : Int32)), .val (.int (1 : Int32))]) rfl ?_
  refine own_iload X1 hx hby d14_23 (pc' := 25) rfl rfl ?_
  refine own_iconst X1 hx hby d14_25 (pc' := 26) rfl (n := (1 : Int32)) (by decide) ?_
  refine own_iadd X1 hx hby d14_26 (pc' := 27) rfl ?_
  show own_End p e below _ (T1.setTop (mkF m 27 #[.val (.ref q), .val (.int (0 : Int32)), .val (.ref t), .val (.int (0 : Int32)), .val (.int (1 : Int32)), .val (.int (1 : Int32))] [(.int (2 : Int32))]))
  refine own_aloadN X1 hx hby d14_27 (pc' := 28) rfl rfl rfl ?_
  refine own_getF X1 hx hZ hby hown (host := "") (Or.inl (wd_36 hw)) Via.refl e1 f_F_q_size d14_28 (pc' := 31) rfl (fun T2 X2 e2 => ?_)
  refine own_icY X2 hx hby d14_31 (pc' := 59) (by decide) (by decide) (show ¬ (2 : Int32) < (2 : Int32) by decide) ?_
  refine own_aloadN X2 hx hby d14_59 (pc' := 60) rfl rfl rfl ?_
  refine own_getF X2 hx hZ hby hown (host := "") (Or.inl (wd_11 hw)) Via.refl e2 f_F_q_heap d14_60 (pc' := 63) rfl (fun T3 X3 e3 => ?_)
  refine own_iload X3 hx hby d14_63 (pc' := 65) rfl rfl ?_
  obtain ⟨cl4, Ar4, q4, S4, M4, H4, G4⟩ := id f_V_w
  have hin4 : ¬ ((1 : Int32) < 0 ∨ cl4.slots.size ≤ ((1 : Int32)).toNatClampNeg) := inb_of S4 ⟨by decide, by decide⟩
  have hat4 : cl4.slots[((1 : Int32)).toNatClampNeg]? = some (.ref y) := H4.at hin4 rfl
  refine own_aaload X3 hx hZ hby e3 Ar4 rfl hin4 hat4 d14_65 (pc' := 66) rfl ?_
  refine own_aloadN X3 hx hby d14_66 (pc' := 67) rfl rfl rfl ?_
  refine own_lk2 hw X3 hx hZ hby (by rw [hml]; rfl) hown d14_67 (pc' := 70) rfl e3 f_O_y.1 (W := 0) (Nat.le_of_eq rfl) (rmRB l Z a0 hw [] y dy sy t dt st (1 : Int32) (2 : Int32) (1 : Int32) h0 n0 Z0 f_O_y f_O_t hz) (by decide) (by decide) (by decide) (by decide) (fun v5 T5 L5 X5 hQ5 => ?_)
  obtain ⟨rfl, Nq5, e5⟩ := hQ5
  have N5 := Fr.app N0 Nq5
  show own_End p e below _ (T5.setTop (mkF m 70 _ [(.int (1 : Int32))]))
  refine own_ifY X5 hx hby d14_70 (pc' := 76) (by decide) (by decide) (show ¬ (1 : Int32) = (0 : Int32) by decide) ?_
  refine own_aloadN X5 hx hby d14_76 (pc' := 77) rfl rfl rfl ?_
  refine own_iloadN X5 hx hby d14_77 (pc' := 78) rfl rfl ?_
  refine own_aloadN X5 hx hby d14_78 (pc' := 79) rfl rfl rfl ?_
  refine own_getF X5 hx hZ hby hown (host := "") (Or.inl (wd_11 hw)) Via.refl e5 f_F_q_heap d14_79 (pc' := 82) rfl (fun T6 X6 e6 => ?_)
  refine own_iload X6 hx hby d14_82 (pc' := 84) rfl rfl ?_
  obtain ⟨cl7, Ar7, q7, S7, M7, H7, G7⟩ := id f_V_w
  have hin7 : ¬ ((1 : Int32) < 0 ∨ cl7.slots.size ≤ ((1 : Int32)).toNatClampNeg) := inb_of S7 ⟨by decide, by decide⟩
  have hat7 : cl7.slots[((1 : Int32)).toNatClampNeg]? = some (.ref y) := H7.at hin7 rfl
  refine own_aaload X6 hx hZ hby e6 Ar7 rfl hin7 hat7 d14_84 (pc' := 85) rfl ?_
  have f_O_q : own_TQ Z h0 q (.ref w) (2 : Int32) := ⟨f_E_q, f_F_q_heap, f_F_q_size⟩
  have ne_w_y : w ≠ y := Ne.symm (Exa.neArv f_O_y.1 f_V_w (wd_14 hw))
  have ne_t_w : t ≠ w := Exa.neArv f_O_t.1 f_V_w (wd_14 hw)
  have ne_q_w : q ≠ w := Exa.neArv f_O_q.1 f_V_w (wd_1 hw)
  have ne_q_y : q ≠ y := Exa.ne f_O_q.1 f_O_y.1 (by decide)
  refine own_lk1 hw X6 hx hZ hby (by rw [hml]; rfl) hown d14_85 (pc' := 88) rfl e6 f_O_q.1 (W := 0) (Nat.le_of_eq rfl) (rmPL0 l Z a0 hw [] q w kk (2 : Int32) (1 : Int32) y dy sy v0 (.ref y) .null hv0 rfl rfl h0 n0 Z0 f_O_q f_V_w ho f_O_y ge_w ge_y) (by decide) (by decide) (by decide) (by decide) (fun v8 T8 L8 X8 hQ8 => ?_)
  obtain ⟨rfl, Nq8, K8, V8, O8⟩ := hQ8
  have N8 := Fr.app N5 Nq8
  have f_O_t := f_O_t.keep K8 (ninS ne_t_w (ninS ne_t_y nin0))
  have f_O_q := f_O_q.keep K8 (ninS ne_q_w (ninS ne_q_y nin0))
  have Zn := Nat.le_trans Z0 K8.1
  have Kp := Kp.trans K8 (allS (Or.inl (List.mem_of_getElem? (i := 0) rfl)) (allS (Or.inl (List.mem_of_getElem? (i := 2) rfl)) all0))
  show own_End p e below _ (T8.setTop (mkF m 88 _ []))
  refine own_iload X8 hx hby d14_88 (pc' := 90) rfl rfl ?_
  refine own_istoreN X8 hx hby d14_90 (pc' := 91) rfl (l' := #[.val (.ref q), .val (.int (0 : Int32)), .val (.ref t), .val (.int (1 : Int32)), .val (.int (1 : Int32)), .val (.int (1 : Int32))]) rfl ?_
  refine own_goto X8 hx hby d14_91 (pc' := 10) (by decide) (by decide) ?_
  refine own_iloadN X8 hx hby d14_10 (pc' := 11) rfl rfl ?_
  refine own_iload X8 hx hby d14_11 (pc' := 13) rfl rfl ?_
  refine own_icY X8 hx hby d14_13 (pc' := 94) (by decide) (by decide) (show ¬ (1 : Int32) < (1 : Int32) by decide) ?_
  refine own_aloadN X8 hx hby d14_94 (pc' := 95) rfl rfl rfl ?_
  refine own_iloadN X8 hx hby d14_95 (pc' := 96) rfl rfl ?_
  refine own_aloadN X8 hx hby d14_96 (pc' := 97) rfl rfl rfl ?_
  have ne_q_t : q ≠ t := Exa.ne f_O_q.1 f_O_t.1 (by decide)
  refine own_lk1 hw X8 hx hZ hby (by rw [hml]; rfl) hown d14_97 (pc' := 100) rfl rfl f_O_q.1 (W := 0) (Nat.le_of_eq rfl) (rmPL1 l Z a0 hw [] q w kk (2 : Int32) (2 : Int32) t dt st (.ref y) (.ref y) .null rfl rfl rfl T8.heap n0 Zn f_O_q V8 ho f_O_t ge_w ge_t) (by decide) (by decide) (by decide) (by decide) (fun v9 T9 L9 X9 hQ9 => ?_)
  obtain ⟨rfl, Nq9, K9, V9, O9⟩ := hQ9
  have N9 := Fr.app N8 Nq9
  have f_O_q := f_O_q.keep K9 (ninS ne_q_w (ninS ne_q_t nin0))
  have O8 := O8.keep K9 (ninS (Ne.symm ne_w_y) (ninS (Ne.symm ne_t_y) nin0))
  have Zn := Nat.le_trans Zn K9.1
  have Kp := Kp.trans K9 (allS (Or.inl (List.mem_of_getElem? (i := 0) rfl)) (allS (Or.inl (List.mem_of_getElem? (i := 1) rfl)) all0))
  show own_End p e below _ (T9.setTop (mkF m 100 _ []))
  refine own_return X9 hx hlk hby hret d14_100 (own_lv ?_ (by decide) (by decide))
  show QD2b Z q w kk t dt st y dy sy v0 hv0  h0 n0 none T9.heap _
  exact ⟨rfl, N9, Kp, V9, O9, O8⟩
theorem own_ef_rmD3 (m : MethodId) (q : Addr) (t : Addr)  : entryFrame m #[(.ref q), (.int (1 : Int32)), (.ref t)] 6 = mkF m 0 #[.val (.ref q), .val (.int (1 : Int32)), .val (.ref t), .unset, .unset, .unset] [] := by first | (simp [entryFrame, mkF, argsToLocals, Value.category]; done) | rfl
def QD3 (Z : State) (q : Addr) (w : Addr) (kk : ClassId) (t : Addr) (dt : Int64) (st : Int64) (x : Addr) (dx : Int64) (sx : Int64) (v1 : Value) (hv1 : v1.isRef = true) (h0 : Heap) (n0 : Nat) (v : Option Value) (h : Heap) (L : List Loc) : Prop := v = none ∧ Fr n0 L ∧ Keep h0 h [w, t] ∧ Arv Z h w kk (.object "com/example/earnest_reactor/earnestreactor/core/ScheduledTask") (16 : Int32) [(.ref x), (.ref t), .null] .null ∧ own_TK Z h t .null dt st .null (1 : Int32)
set_option maxRecDepth 65536 in
set_option maxHeartbeats 40000000 in
theorem rmD3 (l : Launch) (Z : State) (a0 : Array Value) (hw : ∀ d ∈ tables_1, d.before a0 Z = true) (ws : List Jvm.Cond) (q : Addr) (w : Addr) (kk : ClassId) (t : Addr) (dt : Int64) (st : Int64) (x : Addr) (dx : Int64) (sx : Int64) (v1 : Value) (hv1 : v1.isRef = true) (h0 : Heap) (n0 : Nat) (Z0 : n0 ≤ h0.size) (f_O_q : own_TQ Z h0 q (.ref w) (2 : Int32)) (f_V_w : Arv Z h0 w kk (.object "com/example/earnest_reactor/earnestreactor/core/ScheduledTask") (16 : Int32) [(.ref x), v1, .null] .null) (ho : Ovr Z kk "com/example/earnest_reactor/earnestreactor/core/ScheduledTask") (f_O_t : own_TK Z h0 t .null dt st .null (2 : Int32)) (f_O_x : own_TK Z h0 x .null dx sx .null (0 : Int32)) (ge_w : n0 ≤ w) (ge_t : n0 ≤ t) (ne_t_x : t ≠ x) :
    MetFree l (⟨"com/example/earnest_reactor/earnestreactor/core/TimerQueue", "siftDown", "(ILcom/example/earnest_reactor/earnestreactor/core/ScheduledTask;)V"⟩ : MethodName) (head1 (Jvm.Cond.code (⟨"com/example/earnest_reactor/earnestreactor/core/TimerQueue", "siftDown", "(ILcom/example/earnest_reactor/earnestreactor/core/ScheduledTask;)V"⟩ : MethodName) prog_35_method_9_code 6 none :: ws) ({ frames := 2, cells := 0, slots := 0, locals := 27 } : Room)) (fun aa U => aa = #[(.ref q), (.int (1 : Int32)), (.ref t)] ∧ Z.Warmed39 U.vm ∧ U.heap = h0) (fun _ _ _ _ _ => True) (fun _ U oc U' => ∃ v L, oc = .returned v ∧ QD3 Z q w kk t dt st x dx sx v1 hv1 h0 n0 v U'.heap L ∧ FrameEnd U oc U' L ({ frames := 2, cells := 0, slots := 0, locals := 27 } : Room).cells ({ frames := 2, cells := 0, slots := 0, locals := 27 } : Room).slots) := by
  refine MetFree.of_bodySF (plainFor_of_name own_pn1) hisR ?_
  intro p e s m args below meth c s₁ Bd hml0 hP hK
  obtain ⟨rfl, hZ, hh⟩ := hP
  have hx := Bd.exec
  have hby := Bd.bytes
  have hlk := Bd.notSynchronized
  have hret := Bd.returns
  have hml : c.maxLocals = 6 := hml0
  have hown : s.vm.findClass "com/example/earnest_reactor/earnestreactor/core/TimerQueue" = some m.cls := findClass_of_methodNamed Bd.named
  have hnm := (name_of_methodNamed Bd.named Bd.method).1
  have X0 : Stand p l e ({ frames := 2, cells := 0, slots := 0, locals := 27 } : Room) s m #[(.ref q), (.int (1 : Int32)), (.ref t)] below meth c s₁ [] 0 0 := Stand.of_body Bd
  have e0 : s₁.heap = h0 := by rw [← hh, Bd.state]; rfl
  have N0 := Fr.nil n0
  refine own_body (Q := QD3 Z q w kk t dt st x dx sx v1 hv1 h0 n0) (KC := ({ frames := 2, cells := 0, slots := 0, locals := 27 } : Room).cells) (KS := ({ frames := 2, cells := 0, slots := 0, locals := 27 } : Room).slots) ?_
  rw [own_ef_rmD3 m q t]
  have Kp : Keep h0 h0 [w, t] := Keep.refl h0 _
  refine own_iloadN X0 hx hby d14_0 (pc' := 1) rfl rfl ?_
  refine own_istoreN X0 hx hby d14_1 (pc' := 2) rfl (l' := #[.val (.ref q), .val (.int (1 : Int32)), .val (.ref t), .val (.int (1 : Int32)), .unset, .unset]) rfl ?_
  refine own_aloadN X0 hx hby d14_2 (pc' := 3) rfl rfl rfl ?_
  obtain ⟨f_E_q, f_F_q_heap, f_F_q_size⟩ := f_O_q
  refine own_getF X0 hx hZ hby hown (host := "") (Or.inl (wd_36 hw)) Via.refl e0 f_F_q_size d14_3 (pc' := 6) rfl (fun T1 X1 e1 => ?_)
  refine own_iconst X1 hx hby d14_6 (pc' := 7) rfl (n := (2 : Int32)) (by decide) ?_
  refine own_idiv X1 hx hby d14_7 (pc' := 8) rfl (by decide) ?_
  show own_End p e below _ (T1.setTop (mkF m 8 #[.val (.ref q), .val (.int (1 : Int32)), .val (.ref t), .val (.int (1 : Int32)), .unset, .unset] [(.int (1 : Int32))]))
  refine own_istore X1 hx hby d14_8 (pc' := 10) rfl (l' := #[.val (.ref q), .val (.int (1 : Int32)), .val (.ref t), .val (.int (1 : Int32)), .val (.int (1 : Int32)), .unset]) rfl ?_
  refine own_iloadN X1 hx hby d14_10 (pc' := 11) rfl rfl ?_
  refine own_iload X1 hx hby d14_11 (pc' := 13) rfl rfl ?_
  refine own_icY X1 hx hby d14_13 (pc' := 94) (by decide) (by decide) (show ¬ (1 : Int32) < (1 : Int32) by decide) ?_
  refine own_aloadN X1 hx hby d14_94 (pc' := 95) rfl rfl rfl ?_
  refine own_iloadN X1 hx hby d14_95 (pc' := 96) rfl rfl ?_
  refine own_aloadN X1 hx hby d14_96 (pc' := 97) rfl rfl rfl ?_
  have f_O_q : own_TQ Z h0 q (.ref w) (2 : Int32) := ⟨f_E_q, f_F_q_heap, f_F_q_size⟩
  have ne_w_t : w ≠ t := Ne.symm (Exa.neArv f_O_t.1 f_V_w (wd_14 hw))
  have ne_x_w : x ≠ w := Exa.neArv f_O_x.1 f_V_w (wd_14 hw)
  have ne_q_w : q ≠ w := Exa.neArv f_O_q.1 f_V_w (wd_1 hw)
  have ne_q_t : q ≠ t := Exa.ne f_O_q.1 f_O_t.1 (by decide)
  refine own_lk1 hw X1 hx hZ hby (by rw [hml]; rfl) hown d14_97 (pc' := 100) rfl e1 f_O_q.1 (W := 0) (Nat.le_of_eq rfl) (rmPL1 l Z a0 hw [] q w kk (2 : Int32) (2 : Int32) t dt st (.ref x) v1 .null rfl hv1 rfl h0 n0 Z0 f_O_q f_V_w ho f_O_t ge_w ge_t) (by decide) (by decide) (by decide) (by decide) (fun v2 T2 L2 X2 hQ2 => ?_)
  obtain ⟨rfl, Nq2, K2, V2, O2⟩ := hQ2
  have N2 := Fr.app N0 Nq2
  have f_O_x := f_O_x.keep K2 (ninS ne_x_w (ninS (Ne.symm ne_t_x) nin0))
  have f_O_q := f_O_q.keep K2 (ninS ne_q_w (ninS ne_q_t nin0))
  have Zn := Nat.le_trans Z0 K2.1
  have Kp := Kp.trans K2 (allS (Or.inl (List.mem_of_getElem? (i := 0) rfl)) (allS (Or.inl (List.mem_of_getElem? (i := 1) rfl)) all0))
  show own_End p e below _ (T2.setTop (mkF m 100 _ []))
  refine own_return X2 hx hlk hby hret d14_100 (own_lv ?_ (by decide) (by decide))
  show QD3 Z q w kk t dt st x dx sx v1 hv1  h0 n0 none T2.heap _
  exact ⟨rfl, N2, Kp, V2, O2⟩
theorem own_ef_rmU1r0 (m : MethodId) (q : Addr) (t : Addr)  : entryFrame m #[(.ref q), (.int (1 : Int32)), (.ref t)] 5 = mkF m 0 #[.val (.ref q), .val (.int (1 : Int32)), .val (.ref t), .unset, .unset] [] := by first | (simp [entryFrame, mkF, argsToLocals, Value.category]; done) | rfl
def QU1r0 (Z : State) (q : Addr) (w : Addr) (kk : ClassId) (x : Addr) (dx : Int64) (sx : Int64) (t : Addr) (dt : Int64) (st : Int64) (h0 : Heap) (n0 : Nat) (v : Option Value) (h : Heap) (L : List Loc) : Prop := v = none ∧ Fr n0 L ∧ Keep h0 h [w, t] ∧ Arv Z h w kk (.object "com/example/earnest_reactor/earnestreactor/core/ScheduledTask") (16 : Int32) [(.ref x), (.ref t), .null] .null ∧ own_TK Z h t .null dt st .null (1 : Int32)
set_option maxRecDepth 65536 in
set_option maxHeartbeats 40000000 in
theorem rmU1r0 (l : Launch) (Z : State) (a0 : Array Value) (hw : ∀ d ∈ tables_1, d.before a0 Z = true) (ws : List Jvm.Cond) (q : Addr) (w : Addr) (kk : ClassId) (x : Addr) (dx : Int64) (sx : Int64) (t : Addr) (dt : Int64) (st : Int64) (h0 : Heap) (n0 : Nat) (Z0 : n0 ≤ h0.size) (f_O_q : own_TQ Z h0 q (.ref w) (2 : Int32)) (f_V_w : Arv Z h0 w kk (.object "com/example/earnest_reactor/earnestreactor/core/ScheduledTask") (16 : Int32) [(.ref x), (.ref t), .null] .null) (ho : Ovr Z kk "com/example/earnest_reactor/earnestreactor/core/ScheduledTask") (f_O_x : own_TK Z h0 x .null dx sx .null (0 : Int32)) (f_O_t : own_TK Z h0 t .null dt st .null (1 : Int32)) (ge_w : n0 ≤ w) (ge_t : n0 ≤ t) (ne_x_t : x ≠ t) (hz : own_rb dt st dx sx = (0 : Int32)) :
    MetFree l (⟨"com/example/earnest_reactor/earnestreactor/core/TimerQueue", "siftUp", "(ILcom/example/earnest_reactor/earnestreactor/core/ScheduledTask;)V"⟩ : MethodName) (head1 (Jvm.Cond.code (⟨"com/example/earnest_reactor/earnestreactor/core/TimerQueue", "siftUp", "(ILcom/example/earnest_reactor/earnestreactor/core/ScheduledTask;)V"⟩ : MethodName) prog_35_method_8_code 5 none :: ws) ({ frames := 2, cells := 0, slots := 0, locals := 27 } : Room)) (fun aa U => aa = #[(.ref q), (.int (1 : Int32)), (.ref t)] ∧ Z.Warmed39 U.vm ∧ U.heap = h0) (fun _ _ _ _ _ => True) (fun _ U oc U' => ∃ v L, oc = .returned v ∧ QU1r0 Z q w kk x dx sx t dt st h0 n0 v U'.heap L ∧ FrameEnd U oc U' L ({ frames := 2, cells := 0, slots := 0, locals := 27 } : Room).cells ({ frames := 2, cells := 0, slots := 0, locals := 27 } : Room).slots) := by
  refine MetFree.of_bodySF (plainFor_of_name own_pn1) hisR ?_
  intro p e s m args below meth c s₁ Bd hml0 hP hK
  obtain ⟨rfl, hZ, hh⟩ := hP
  have hx := Bd.exec
  have hby := Bd.bytes
  have hlk := Bd.notSynchronized
  have hret := Bd.returns
  have hml : c.maxLocals = 5 := hml0
  have hown : s.vm.findClass "com/example/earnest_reactor/earnestreactor/core/TimerQueue" = some m.cls := findClass_of_methodNamed Bd.named
  have hnm := (name_of_methodNamed Bd.named Bd.method).1
  have X0 : Stand p l e ({ frames := 2, cells := 0, slots := 0, locals := 27 } : Room) s m #[(.ref q), (.int (1 : Int32)), (.ref t)] below meth c s₁ [] 0 0 := Stand.of_body Bd
  have e0 : s₁.heap = h0 := by rw [← hh, Bd.state]; rfl
  have N0 := Fr.nil n0
  refine own_body (Q := QU1r0 Z q w kk x dx sx t dt st h0 n0) (KC := ({ frames := 2, cells := 0, slots := 0, locals := 27 } : Room).cells) (KS := ({ frames := 2, cells := 0, slots := 0, locals := 27 } : Room).slots) ?_
  rw [own_ef_rmU1r0 m q t]
  have Kp : Keep h0 h0 [w, t] := Keep.refl h0 _
  refine own_iloadN X0 hx hby d8_0 (pc' := 1) rfl rfl ?_
  refine own_istoreN X0 hx hby d8_1 (pc' := 2) rfl (l' := #[.val (.ref q), .val (.int (1 : Int32)), .val (.ref t), .val (.int (1 : Int32)), .unset]) rfl ?_
  refine own_iloadN X0 hx hby d8_2 (pc' := 3) rfl rfl ?_
  refine own_ifN X0 hx hby d8_3 (pc' := 6) rfl (show (0 : Int32) < (1 : Int32) by decide) ?_
  refine own_iloadN X0 hx hby d8_6 (pc' := 7) rfl rfl ?_
  refine own_iconst X0 hx hby d8_7 (pc' := 8) rfl (n := (1 : Int32)) (by decide) ?_
  refine own_isub X0 hx hby d8_8 (pc' := 9) rfl ?_
  show own_End p e below _ (s₁.setTop (mkF m 9 #[.val (.ref q), .val (.int (1 : Int32)), .val (.ref t), .val (.int (1 : Int32)), .unset] [(.int (0 : Int32))]))
  refine own_iconst X0 hx hby d8_9 (pc' := 10) rfl (n := (2 : Int32)) (by decide) ?_
  refine own_idiv X0 hx hby d8_10 (pc' := 11) rfl (by decide) ?_
  show own_End p e below _ (s₁.setTop (mkF m 11 #[.val (.ref q), .val (.int (1 : Int32)), .val (.ref t), .val (.int (1 : Int32)), .unset] [(.int (0 : Int32))]))
  refine own_istore X0 hx hby d8_11 (pc' := 13) rfl (l' := #[.val (.ref q), .val (.int (1 : Int32)), .val (.ref t), .val (.int (1 : Int32)), .val (.int (0 : Int32))]) rfl ?_
  refine own_aloadN X0 hx hby d8_13 (pc' := 14) rfl rfl rfl ?_
  refine own_aloadN X0 hx hby d8_14 (pc' := 15) rfl rfl rfl ?_
  obtain ⟨f_E_q, f_F_q_heap, f_F_q_size⟩ := f_O_q
  refine own_getF X0 hx hZ hby hown (host := "") (Or.inl (wd_11 hw)) Via.refl e0 f_F_q_heap d8_15 (pc' := 18) rfl (fun T1 X1 e1 => ?_)
  refine own_iload X1 hx hby d8_18 (pc' := 20) rfl rfl ?_
  obtain ⟨cl2, Ar2, q2, S2, M2, H2, G2⟩ := id f_V_w
  have hin2 : ¬ ((0 : Int32) < 0 ∨ cl2.slots.size ≤ ((0 : Int32)).toNatClampNeg) := inb_of S2 ⟨by decide, by decide⟩
  have hat2 : cl2.slots[((0 : Int32)).toNatClampNeg]? = some (.ref x) := H2.at hin2 rfl
  refine own_aaload X1 hx hZ hby e1 Ar2 rfl hin2 hat2 d8_20 (pc' := 21) rfl ?_
  refine own_lk2 hw X1 hx hZ hby (by rw [hml]; rfl) hown d8_21 (pc' := 24) rfl e1 f_O_t.1 (W := 0) (Nat.le_of_eq rfl) (rmRB l Z a0 hw [] t dt st x dx sx (1 : Int32) (0 : Int32) (0 : Int32) h0 n0 Z0 f_O_t f_O_x hz) (by decide) (by decide) (by decide) (by decide) (fun v3 T3 L3 X3 hQ3 => ?_)
  obtain ⟨rfl, Nq3, e3⟩ := hQ3
  have N3 := Fr.app N0 Nq3
  show own_End p e below _ (T3.setTop (mkF m 24 _ [(.int (0 : Int32))]))
  refine own_ifN X3 hx hby d8_24 (pc' := 27) rfl (show (0 : Int32) = (0 : Int32) by decide) ?_
  refine own_goto X3 hx hby d8_27 (pc' := 48) (by decide) (by decide) ?_
  refine own_aloadN X3 hx hby d8_48 (pc' := 49) rfl rfl rfl ?_
  refine own_iloadN X3 hx hby d8_49 (pc' := 50) rfl rfl ?_
  refine own_aloadN X3 hx hby d8_50 (pc' := 51) rfl rfl rfl ?_
  have f_O_q : own_TQ Z h0 q (.ref w) (2 : Int32) := ⟨f_E_q, f_F_q_heap, f_F_q_size⟩
  have ne_w_t : w ≠ t := Ne.symm (Exa.neArv f_O_t.1 f_V_w (wd_14 hw))
  have ne_x_w : x ≠ w := Exa.neArv f_O_x.1 f_V_w (wd_14 hw)
  have ne_q_w : q ≠ w := Exa.neArv f_O_q.1 f_V_w (wd_1 hw)
  have ne_q_t : q ≠ t := Exa.ne f_O_q.1 f_O_t.1 (by decide)
  refine own_lk1 hw X3 hx hZ hby (by rw [hml]; rfl) hown d8_51 (pc' := 54) rfl e3 f_O_q.1 (W := 0) (Nat.le_of_eq rfl) (rmPL1 l Z a0 hw [] q w kk (2 : Int32) (1 : Int32) t dt st (.ref x) (.ref t) .null rfl rfl rfl h0 n0 Z0 f_O_q f_V_w ho f_O_t ge_w ge_t) (by decide) (by decide) (by decide) (by decide) (fun v4 T4 L4 X4 hQ4 => ?_)
  obtain ⟨rfl, Nq4, K4, V4, O4⟩ := hQ4
  have N4 := Fr.app N3 Nq4
  have f_O_x := f_O_x.keep K4 (ninS ne_x_w (ninS ne_x_t nin0))
  have f_O_q := f_O_q.keep K4 (ninS ne_q_w (ninS ne_q_t nin0))
  have Zn := Nat.le_trans Z0 K4.1
  have Kp := Kp.trans K4 (allS (Or.inl (List.mem_of_getElem? (i := 0) rfl)) (allS (Or.inl (List.mem_of_getElem? (i := 1) rfl)) all0))
  show own_End p e below _ (T4.setTop (mkF m 54 _ []))
  refine own_return X4 hx hlk hby hret d8_54 (own_lv ?_ (by decide) (by decide))
  show QU1r0 Z q w kk x dx sx t dt st  h0 n0 none T4.heap _
  exact ⟨rfl, N4, Kp, V4, O4⟩
theorem own_ef_rmU1r1 (m : MethodId) (q : Addr) (t : Addr)  : entryFrame m #[(.ref q), (.int (1 : Int32)), (.ref t)] 5 = mkF m 0 #[.val (.ref q), .val (.int (1 : Int32)), .val (.ref t), .unset, .unset] [] := by first | (simp [entryFrame, mkF, argsToLocals, Value.category]; done) | rfl
def QU1r1 (Z : State) (q : Addr) (w : Addr) (kk : ClassId) (x : Addr) (dx : Int64) (sx : Int64) (t : Addr) (dt : Int64) (st : Int64) (h0 : Heap) (n0 : Nat) (v : Option Value) (h : Heap) (L : List Loc) : Prop := v = none ∧ Fr n0 L ∧ Keep h0 h [w, x, t] ∧ Arv Z h w kk (.object "com/example/earnest_reactor/earnestreactor/core/ScheduledTask") (16 : Int32) [(.ref t), (.ref x), .null] .null ∧ own_TK Z h x .null dx sx .null (1 : Int32) ∧ own_TK Z h t .null dt st .null (0 : Int32)
set_option maxRecDepth 65536 in
set_option maxHeartbeats 40000000 in
theorem rmU1r1 (l : Launch) (Z : State) (a0 : Array Value) (hw : ∀ d ∈ tables_1, d.before a0 Z = true) (ws : List Jvm.Cond) (q : Addr) (w : Addr) (kk : ClassId) (x : Addr) (dx : Int64) (sx : Int64) (t : Addr) (dt : Int64) (st : Int64) (h0 : Heap) (n0 : Nat) (Z0 : n0 ≤ h0.size) (f_O_q : own_TQ Z h0 q (.ref w) (2 : Int32)) (f_V_w : Arv Z h0 w kk (.object "com/example/earnest_reactor/earnestreactor/core/ScheduledTask") (16 : Int32) [(.ref x), (.ref t), .null] .null) (ho : Ovr Z kk "com/example/earnest_reactor/earnestreactor/core/ScheduledTask") (f_O_x : own_TK Z h0 x .null dx sx .null (0 : Int32)) (f_O_t : own_TK Z h0 t .null dt st .null (1 : Int32)) (ge_w : n0 ≤ w) (ge_x : n0 ≤ x) (ge_t : n0 ≤ t) (ne_x_t : x ≠ t) (hz : own_rb dt st dx sx = (1 : Int32)) :
    MetFree l (⟨"com/example/earnest_reactor/earnestreactor/core/TimerQueue", "siftUp", "(ILcom/example/earnest_reactor/earnestreactor/core/ScheduledTask;)V"⟩ : MethodName) (head1 (Jvm.Cond.code (⟨"com/example/earnest_reactor/earnestreactor/core/TimerQueue", "siftUp", "(ILcom/example/earnest_reactor/earnestreactor/core/ScheduledTask;)V"⟩ : MethodName) prog_35_method_8_code 5 none :: ws) ({ frames := 2, cells := 0, slots := 0, locals := 27 } : Room)) (fun aa U => aa = #[(.ref q), (.int (1 : Int32)), (.ref t)] ∧ Z.Warmed39 U.vm ∧ U.heap = h0) (fun _ _ _ _ _ => True) (fun _ U oc U' => ∃ v L, oc = .returned v ∧ QU1r1 Z q w kk x dx sx t dt st h0 n0 v U'.heap L ∧ FrameEnd U oc U' L ({ frames := 2, cells := 0, slots := 0, locals := 27 } : Room).cells ({ frames := 2, cells := 0, slots := 0, locals := 27 } : Room).slots) := by
  refine MetFree.of_bodySF (plainFor_of_name own_pn1) hisR ?_
  intro p e s m args below meth c s₁ Bd hml0 hP hK
  obtain ⟨rfl, hZ, hh⟩ := hP
  have hx := Bd.exec
  have hby := Bd.bytes
  have hlk := Bd.notSynchronized
  have hret := Bd.returns
  have hml : c.maxLocals = 5 := hml0
  have hown : s.vm.findClass "com/example/earnest_reactor/earnestreactor/core/TimerQueue" = some m.cls := findClass_of_methodNamed Bd.named
  have hnm := (name_of_methodNamed Bd.named Bd.method).1
  have X0 : Stand p l e ({ frames := 2, cells := 0, slots := 0, locals := 27 } : Room) s m #[(.ref q), (.int (1 : Int32)), (.ref t)] below meth c s₁ [] 0 0 := Stand.of_body Bd
  have e0 : s₁.heap = h0 := by rw [← hh, Bd.state]; rfl
  have N0 := Fr.nil n0
  refine own_body (Q := QU1r1 Z q w kk x dx sx t dt st h0 n0) (KC := ({ frames := 2, cells := 0, slots := 0, locals := 27 } : Room).cells) (KS := ({ frames := 2, cells := 0, slots := 0, locals := 27 } : Room).slots) ?_
  rw [own_ef_rmU1r1 m q t]
  have Kp : Keep h0 h0 [w, x, t] := Keep.refl h0 _
  refine own_iloadN X0 hx hby d8_0 (pc' := 1) rfl rfl ?_
  refine own_istoreN X0 hx hby d8_1 (pc' := 2) rfl (l' := #[.val (.ref q), .val (.int (1 : Int32)), .val (.ref t), .val (.int (1 : Int32)), .unset]) rfl ?_
  refine own_iloadN X0 hx hby d8_2 (pc' := 3) rfl rfl ?_
  refine own_ifN X0 hx hby d8_3 (pc' := 6) rfl (show (0 : Int32) < (1 : Int32) by decide) ?_
  refine own_iloadN X0 hx hby d8_6 (pc' := 7) rfl rfl ?_
  refine own_iconst X0 hx hby d8_7 (pc' := 8) rfl (n := (1 : Int32)) (by decide) ?_
  refine own_isub X0 hx hby d8_8 (pc' := 9) rfl ?_
  show own_End p e below _ (s₁.setTop (mkF m 9 #[.val (.ref q), .val (.int (1 : Int32)), .val (.ref t), .val (.int (1 : Int32)), .unset] [(.int (0 : Int32))]))
  refine own_iconst X0 hx hby d8_9 (pc' := 10) rfl (n := (2 : Int32)) (by decide) ?_
  refine own_idiv X0 hx hby d8_10 (pc' := 11) rfl (by decide) ?_
  show own_End p e below _ (s₁.setTop (mkF m 11 #[.val (.ref q), .val (.int (1 : Int32)), .val (.ref t), .val (.int (1 : Int32)), .unset] [(.int (0 : Int32))]))
  refine own_istore X0 hx hby d8_11 (pc' := 13) rfl (l' := #[.val (.ref q), .val (.int (1 : Int32)), .val (.ref t), .val (.int (1 : Int32)), .val (.int (0 : Int32))]) rfl ?_
  refine own_aloadN X0 hx hby d8_13 (pc' := 14) rfl rfl rfl ?_
  refine own_aloadN X0 hx hby d8_14 (pc' := 15) rfl rfl rfl ?_
  obtain ⟨f_E_q, f_F_q_heap, f_F_q_size⟩ := f_O_q
  refine own_getF X0 hx hZ hby hown (host := "") (Or.inl (wd_11 hw)) Via.refl e0 f_F_q_heap d8_15 (pc' := 18) rfl (fun T1 X1 e1 => ?_)
  refine own_iload X1 hx hby d8_18 (pc' := 20) rfl rfl ?_
  obtain ⟨cl2, Ar2, q2, S2, M2, H2, G2⟩ := id f_V_w
  have hin2 : ¬ ((0 : Int32) < 0 ∨ cl2.slots.size ≤ ((0 : Int32)).toNatClampNeg) := inb_of S2 ⟨by decide, by decide⟩
  have hat2 : cl2.slots[((0 : Int32)).toNatClampNeg]? = some (.ref x) := H2.at hin2 rfl
  refine own_aaload X1 hx hZ hby e1 Ar2 rfl hin2 hat2 d8_20 (pc' := 21) rfl ?_
  refine own_lk2 hw X1 hx hZ hby (by rw [hml]; rfl) hown d8_21 (pc' := 24) rfl e1 f_O_t.1 (W := 0) (Nat.le_of_eq rfl) (rmRB l Z a0 hw [] t dt st x dx sx (1 : Int32) (0 : Int32) (1 : Int32) h0 n0 Z0 f_O_t f_O_x hz) (by decide) (by decide) (by decide) (by decide) (fun v3 T3 L3 X3 hQ3 => ?_)
  obtain ⟨rfl, Nq3, e3⟩ := hQ3
  have N3 := Fr.app N0 Nq3
  show own_End p e below _ (T3.setTop (mkF m 24 _ [(.int (1 : Int32))]))
  refine own_ifY X3 hx hby d8_24 (pc' := 30) (by decide) (by decide) (show ¬ (1 : Int32) = (0 : Int32) by decide) ?_
  refine own_aloadN X3 hx hby d8_30 (pc' := 31) rfl rfl rfl ?_
  refine own_iloadN X3 hx hby d8_31 (pc' := 32) rfl rfl ?_
  refine own_aloadN X3 hx hby d8_32 (pc' := 33) rfl rfl rfl ?_
  refine own_getF X3 hx hZ hby hown (host := "") (Or.inl (wd_11 hw)) Via.refl e3 f_F_q_heap d8_33 (pc' := 36) rfl (fun T4 X4 e4 => ?_)
  refine own_iload X4 hx hby d8_36 (pc' := 38) rfl rfl ?_
  obtain ⟨cl5, Ar5, q5, S5, M5, H5, G5⟩ := id f_V_w
  have hin5 : ¬ ((0 : Int32) < 0 ∨ cl5.slots.size ≤ ((0 : Int32)).toNatClampNeg) := inb_of S5 ⟨by decide, by decide⟩
  have hat5 : cl5.slots[((0 : Int32)).toNatClampNeg]? = some (.ref x) := H5.at hin5 rfl
  refine own_aaload X4 hx hZ hby e4 Ar5 rfl hin5 hat5 d8_38 (pc' := 39) rfl ?_
  have f_O_q : own_TQ Z h0 q (.ref w) (2 : Int32) := ⟨f_E_q, f_F_q_heap, f_F_q_size⟩
  have ne_w_x : w ≠ x := Ne.symm (Exa.neArv f_O_x.1 f_V_w (wd_14 hw))
  have ne_t_w : t ≠ w := Exa.neArv f_O_t.1 f_V_w (wd_14 hw)
  have ne_q_w : q ≠ w := Exa.neArv f_O_q.1 f_V_w (wd_1 hw)
  have ne_q_x : q ≠ x := Exa.ne f_O_q.1 f_O_x.1 (by decide)
  refine own_lk1 hw X4 hx hZ hby (by rw [hml]; rfl) hown d8_39 (pc' := 42) rfl e4 f_O_q.1 (W := 0) (Nat.le_of_eq rfl) (rmPL1 l Z a0 hw [] q w kk (2 : Int32) (0 : Int32) x dx sx (.ref x) (.ref t) .null rfl rfl rfl h0 n0 Z0 f_O_q f_V_w ho f_O_x ge_w ge_x) (by decide) (by decide) (by decide) (by decide) (fun v6 T6 L6 X6 hQ6 => ?_)
  obtain ⟨rfl, Nq6, K6, V6, O6⟩ := hQ6
  have N6 := Fr.app N3 Nq6
  have f_O_t := f_O_t.keep K6 (ninS ne_t_w (ninS (Ne.symm ne_x_t) nin0))
  have f_O_q := f_O_q.keep K6 (ninS ne_q_w (ninS ne_q_x nin0))
  have Zn := Nat.le_trans Z0 K6.1
  have Kp := Kp.trans K6 (allS (Or.inl (List.mem_of_getElem? (i := 0) rfl)) (allS (Or.inl (List.mem_of_getElem? (i := 1) rfl)) all0))
  show own_End p e below _ (T6.setTop (mkF m 42 _ []))
  refine own_iload X6 hx hby d8_42 (pc' := 44) rfl rfl ?_
  refine own_istoreN X6 hx hby d8_44 (pc' := 45) rfl (l' := #[.val (.ref q), .val (.int (1 : Int32)), .val (.ref t), .val (.int (0 : Int32)), .val (.int (0 : Int32))]) rfl ?_
  refine own_goto X6 hx hby d8_45 (pc' := 2) (by decide) (by decide) ?_
  refine own_iloadN X6 hx hby d8_2 (pc' := 3) rfl rfl ?_
  refine own_ifY X6 hx hby d8_3 (pc' := 48) (by decide) (by decide) (show ¬ (0 : Int32) < (0 : Int32) by decide) ?_
  refine own_aloadN X6 hx hby d8_48 (pc' := 49) rfl rfl rfl ?_
  refine own_iloadN X6 hx hby d8_49 (pc' := 50) rfl rfl ?_
  refine own_aloadN X6 hx hby d8_50 (pc' := 51) rfl rfl rfl ?_
  have ne_q_t : q ≠ t := Exa.ne f_O_q.1 f_O_t.1 (by decide)
  refine own_lk1 hw X6 hx hZ hby (by rw [hml]; rfl) hown d8_51 (pc' := 54) rfl rfl f_O_q.1 (W := 0) (Nat.le_of_eq rfl) (rmPL0 l Z a0 hw [] q w kk (2 : Int32) (1 : Int32) t dt st (.ref x) (.ref x) .null rfl rfl rfl T6.heap n0 Zn f_O_q V6 ho f_O_t ge_w ge_t) (by decide) (by decide) (by decide) (by decide) (fun v7 T7 L7 X7 hQ7 => ?_)
  obtain ⟨rfl, Nq7, K7, V7, O7⟩ := hQ7
  have N7 := Fr.app N6 Nq7
  have f_O_q := f_O_q.keep K7 (ninS ne_q_w (ninS ne_q_t nin0))
  have O6 := O6.keep K7 (ninS (Ne.symm ne_w_x) (ninS ne_x_t nin0))
  have Zn := Nat.le_trans Zn K7.1
  have Kp := Kp.trans K7 (allS (Or.inl (List.mem_of_getElem? (i := 0) rfl)) (allS (Or.inl (List.mem_of_getElem? (i := 2) rfl)) all0))
  show own_End p e below _ (T7.setTop (mkF m 54 _ []))
  refine own_return X7 hx hlk hby hret d8_54 (own_lv ?_ (by decide) (by decide))
  show QU1r1 Z q w kk x dx sx t dt st  h0 n0 none T7.heap _
  exact ⟨rfl, N7, Kp, V7, O6, O7⟩
theorem own_ef_rmR1 (m : MethodId) (q : Addr)  : entryFrame m #[(.ref q), (.int (0 : Int32))] 4 = mkF m 0 #[.val (.ref q), .val (.int (0 : Int32)), .unset, .unset] [] := by first | (simp [entryFrame, mkF, argsToLocals, Value.category]; done) | rfl
def QR1 (Z : State) (q : Addr) (w : Addr) (kk : ClassId) (x : Addr) (dx : Int64) (sx : Int64) (h0 : Heap) (n0 : Nat) (v : Option Value) (h : Heap) (L : List Loc) : Prop := v = none ∧ Fr n0 L ∧ Keep h0 h [q, w, x] ∧ own_TQ Z h q (.ref w) (0 : Int32) ∧ Arv Z h w kk (.object "com/example/earnest_reactor/earnestreactor/core/ScheduledTask") (16 : Int32) [.null, .null, .null] .null ∧ own_TK Z h x .null dx sx .null (-1 : Int32)
set_option maxRecDepth 65536 in
set_option maxHeartbeats 40000000 in
theorem rmR1 (l : Launch) (Z : State) (a0 : Array Value) (hw : ∀ d ∈ tables_1, d.before a0 Z = true) (ws : List Jvm.Cond) (q : Addr) (w : Addr) (kk : ClassId) (x : Addr) (dx : Int64) (sx : Int64) (h0 : Heap) (n0 : Nat) (Z0 : n0 ≤ h0.size) (f_O_q : own_TQ Z h0 q (.ref w) (1 : Int32)) (f_V_w : Arv Z h0 w kk (.object "com/example/earnest_reactor/earnestreactor/core/ScheduledTask") (16 : Int32) [(.ref x), .null, .null] .null) (ho : Ovr Z kk "com/example/earnest_reactor/earnestreactor/core/ScheduledTask") (f_O_x : own_TK Z h0 x .null dx sx .null (0 : Int32)) (ge_q : n0 ≤ q) (ge_w : n0 ≤ w) (ge_x : n0 ≤ x) :
    MetFree l (⟨"com/example/earnest_reactor/earnestreactor/core/TimerQueue", "removeAt", "(I)V"⟩ : MethodName) (head1 (Jvm.Cond.code (⟨"com/example/earnest_reactor/earnestreactor/core/TimerQueue", "removeAt", "(I)V"⟩ : MethodName) prog_35_method_7_code 4 none :: ws) ({ frames := 1, cells := 0, slots := 0, locals := 13 } : Room)) (fun aa U => aa = #[(.ref q), (.int (0 : Int32))] ∧ Z.Warmed39 U.vm ∧ U.heap = h0) (fun _ _ _ _ _ => True) (fun _ U oc U' => ∃ v L, oc = .returned v ∧ QR1 Z q w kk x dx sx h0 n0 v U'.heap L ∧ FrameEnd U oc U' L ({ frames := 1, cells := 0, slots := 0, locals := 13 } : Room).cells ({ frames := 1, cells := 0, slots := 0, locals := 13 } : Room).slots) := by
  refine MetFree.of_bodySF (plainFor_of_name own_pn1) hisR ?_
  intro p e s m args below meth c s₁ Bd hml0 hP hK
  obtain ⟨rfl, hZ, hh⟩ := hP
  have hx := Bd.exec
  have hby := Bd.bytes
  have hlk := Bd.notSynchronized
  have hret := Bd.returns
  have hml : c.maxLocals = 4 := hml0
  have hown : s.vm.findClass "com/example/earnest_reactor/earnestreactor/core/TimerQueue" = some m.cls := findClass_of_methodNamed Bd.named
  have hnm := (name_of_methodNamed Bd.named Bd.method).1
  have X0 : Stand p l e ({ frames := 1, cells := 0, slots := 0, locals := 13 } : Room) s m #[(.ref q), (.int (0 : Int32))] below meth c s₁ [] 0 0 := Stand.of_body Bd
  have e0 : s₁.heap = h0 := by rw [← hh, Bd.state]; rfl
  have N0 := Fr.nil n0
  refine own_body (Q := QR1 Z q w kk x dx sx h0 n0) (KC := ({ frames := 1, cells := 0, slots := 0, locals := 13 } : Room).cells) (KS := ({ frames := 1, cells := 0, slots := 0, locals := 13 } : Room).slots) ?_
  rw [own_ef_rmR1 m q]
  have Kp : Keep h0 h0 [q, w, x] := Keep.refl h0 _
  refine own_aloadN X0 hx hby d13_0 (pc' := 1) rfl rfl rfl ?_
  obtain ⟨f_E_q, f_F_q_heap, f_F_q_size⟩ := f_O_q
  refine own_getF X0 hx hZ hby hown (host := "") (Or.inl (wd_11 hw)) Via.refl e0 f_F_q_heap d13_1 (pc' := 4) rfl (fun T1 X1 e1 => ?_)
  refine own_iloadN X1 hx hby d13_4 (pc' := 5) rfl rfl ?_
  obtain ⟨cl2, Ar2, q2, S2, M2, H2, G2⟩ := id f_V_w
  have hin2 : ¬ ((0 : Int32) < 0 ∨ cl2.slots.size ≤ ((0 : Int32)).toNatClampNeg) := inb_of S2 ⟨by decide, by decide⟩
  have hat2 : cl2.slots[((0 : Int32)).toNatClampNeg]? = some (.ref x) := H2.at hin2 rfl
  refine own_aaload X1 hx hZ hby e1 Ar2 rfl hin2 hat2 d13_5 (pc' := 6) rfl ?_
  refine own_astoreN X1 hx hby d13_6 (pc' := 7) rfl rfl (l' := #[.val (.ref q), .val (.int (0 : Int32)), .val (.ref x), .unset]) rfl ?_
  refine own_aloadN X1 hx hby d13_7 (pc' := 8) rfl rfl rfl ?_
  refine own_dup X1 hx hby d13_8 (pc' := 9) rfl rfl ?_
  refine own_getF X1 hx hZ hby hown (host := "") (Or.inl (wd_36 hw)) Via.refl e1 f_F_q_size d13_9 (pc' := 12) rfl (fun T3 X3 e3 => ?_)
  refine own_iconst X3 hx hby d13_12 (pc' := 13) rfl (n := (1 : Int32)) (by decide) ?_
  refine own_isub X3 hx hby d13_13 (pc' := 14) rfl ?_
  show own_End p e below _ (T3.setTop (mkF m 14 #[.val (.ref q), .val (.int (0 : Int32)), .val (.ref x), .unset] [(.int (0 : Int32)), (.ref q)]))
  have ne_w_q : w ≠ q := Ne.symm (Exa.neArv f_E_q f_V_w (wd_1 hw))
  have ne_x_q : x ≠ q := Exa.ne f_O_x.1 f_E_q (by decide)
  refine own_putF X3 hx hZ hby hown (host := "") (Or.inl (wd_36 hw)) Via.refl e3 f_F_q_size f_E_q (Or.inl (wd_37 hw)) (wd_1 hw) (ty := .int) (by decide) rfl rfl d13_14 (pc' := 17) rfl (fun T4 h4 X4 e4 W4 => ?_)
  have f_F_q_size := f_F_q_size.same W4
  have f_V_w := f_V_w.other W4 ne_w_q
  have f_O_x := f_O_x.other W4 ne_x_q
  have f_E_q := f_E_q.wr W4
  have f_F_q_heap := f_F_q_heap.other W4 (Or.inr (slot_ne (Or.inl (wd_12 hw)) (Or.inl (wd_37 hw)) (by decide) (t := (.array (.object "com/example/earnest_reactor/earnestreactor/core/ScheduledTask"))) (t' := .int) (by decide) (by decide)))
  have Zn := Nat.le_trans Z0 (Keep.of_wr W4).1
  have Kp := Kp.wr W4 (Or.inl (List.mem_of_getElem? (i := 0) rfl))
  have N4 := Fr.snoc X4 N0 ge_q
  refine own_aloadN X4 hx hby d13_17 (pc' := 18) rfl rfl rfl ?_
  refine own_getF X4 hx hZ hby hown (host := "") (Or.inl (wd_11 hw)) Via.refl e4 f_F_q_heap d13_18 (pc' := 21) rfl (fun T5 X5 e5 => ?_)
  refine own_aloadN X5 hx hby d13_21 (pc' := 22) rfl rfl rfl ?_
  refine own_getF X5 hx hZ hby hown (host := "") (Or.inl (wd_36 hw)) Via.refl e5 f_F_q_size d13_22 (pc' := 25) rfl (fun T6 X6 e6 => ?_)
  obtain ⟨cl7, Ar7, q7, S7, M7, H7, G7⟩ := id f_V_w
  have hin7 : ¬ ((0 : Int32) < 0 ∨ cl7.slots.size ≤ ((0 : Int32)).toNatClampNeg) := inb_of S7 ⟨by decide, by decide⟩
  have hat7 : cl7.slots[((0 : Int32)).toNatClampNeg]? = some (.ref x) := H7.at hin7 rfl
  refine own_aaload X6 hx hZ hby e6 Ar7 rfl hin7 hat7 d13_25 (pc' := 26) rfl ?_
  refine own_astoreN X6 hx hby d13_26 (pc' := 27) rfl rfl (l' := #[.val (.ref q), .val (.int (0 : Int32)), .val (.ref x), .val (.ref x)]) rfl ?_
  refine own_aloadN X6 hx hby d13_27 (pc' := 28) rfl rfl rfl ?_
  refine own_getF X6 hx hZ hby hown (host := "") (Or.inl (wd_11 hw)) Via.refl e6 f_F_q_heap d13_28 (pc' := 31) rfl (fun T8 X8 e8 => ?_)
  refine own_aloadN X8 hx hby d13_31 (pc' := 32) rfl rfl rfl ?_
  refine own_getF X8 hx hZ hby hown (host := "") (Or.inl (wd_36 hw)) Via.refl e8 f_F_q_size d13_32 (pc' := 35) rfl (fun T9 X9 e9 => ?_)
  refine own_aconst_null X9 hx hby d13_35 (pc' := 36) rfl ?_
  have ne_x_w : x ≠ w := Exa.neArv f_O_x.1 f_V_w (wd_14 hw)
  obtain ⟨cl10, Ar10, q10, S10, M10, H10, G10⟩ := id f_V_w
  have hin10 : ¬ ((0 : Int32) < 0 ∨ cl10.slots.size ≤ ((0 : Int32)).toNatClampNeg) := inb_of S10 ⟨by decide, by decide⟩
  refine own_stR X9 hx hZ hby e9 Ar10 hin10 rfl (Or.inl rfl) d13_36 (pc' := 37) rfl (fun T11 h11 X11 e11 W11 => ?_)
  have f_V_w := Arv.set Ar10 q10 S10 M10 H10 G10 rfl W11 0 rfl (Nat.le_of_ble_eq_true rfl)
  have f_V_w : Arv Z h11 w kk (.object "com/example/earnest_reactor/earnestreactor/core/ScheduledTask") (16 : Int32) [.null, .null, .null] .null := f_V_w
  have f_O_x := f_O_x.other W11 ne_x_w
  have f_E_q := f_E_q.wr W11
  have f_F_q_heap := f_F_q_heap.other W11 (Or.inl (Ne.symm ne_w_q))
  have f_F_q_size := f_F_q_size.other W11 (Or.inl (Ne.symm ne_w_q))
  have Zn := Nat.le_trans Zn (Keep.of_wr W11).1
  have Kp := Kp.wr W11 (Or.inl (List.mem_of_getElem? (i := 1) rfl))
  have N11 := Fr.snoc X11 N4 ge_w
  refine own_aloadN X11 hx hby d13_37 (pc' := 38) rfl rfl rfl ?_
  refine own_iconst X11 hx hby d13_38 (pc' := 39) rfl (n := (-1 : Int32)) (by decide) ?_
  refine own_lk0 hw X11 hx hZ hby (by rw [hml]; rfl) hown d13_39 (pc' := 42) rfl e11 f_O_x.1 (W := 0) (Nat.le_of_eq rfl) (rmSQ l Z a0 hw [] x dx sx (0 : Int32) (-1 : Int32) h11 n0 Zn f_O_x ge_x) (by decide) (by decide) (by decide) (by decide) (fun v12 T12 L12 X12 hQ12 => ?_)
  obtain ⟨rfl, Nq12, K12, O12⟩ := hQ12
  have N12 := Fr.app N11 Nq12
  have f_V_w := f_V_w.keep K12 (ninS (Ne.symm ne_x_w) nin0)
  have f_E_q := f_E_q.keep K12
  have f_F_q_heap := f_F_q_heap.keep K12 (ninS (Ne.symm ne_x_q) nin0)
  have f_F_q_size := f_F_q_size.keep K12 (ninS (Ne.symm ne_x_q) nin0)
  have Zn := Nat.le_trans Zn K12.1
  have Kp := Kp.trans K12 (allS (Or.inl (List.mem_of_getElem? (i := 2) rfl)) all0)
  show own_End p e below _ (T12.setTop (mkF m 42 _ []))
  refine own_iloadN X12 hx hby d13_42 (pc' := 43) rfl rfl ?_
  refine own_aloadN X12 hx hby d13_43 (pc' := 44) rfl rfl rfl ?_
  refine own_getF X12 hx hZ hby hown (host := "") (Or.inl (wd_36 hw)) Via.refl rfl f_F_q_size d13_44 (pc' := 47) rfl (fun T13 X13 e13 => ?_)
  refine own_icY X13 hx hby d13_47 (pc' := 72) (by decide) (by decide) (show ¬ (0 : Int32) < (0 : Int32) by decide) ?_
  refine own_return X13 hx hlk hby hret d13_72 (own_lv ?_ (by decide) (by decide))
  show QR1 Z q w kk x dx sx  h0 n0 none T13.heap _
  rw [e13]
  exact ⟨rfl, N12, Kp, ⟨f_E_q, f_F_q_heap, f_F_q_size⟩, f_V_w, O12⟩
theorem own_ef_rmR2 (m : MethodId) (q : Addr)  : entryFrame m #[(.ref q), (.int (0 : Int32))] 4 = mkF m 0 #[.val (.ref q), .val (.int (0 : Int32)), .unset, .unset] [] := by first | (simp [entryFrame, mkF, argsToLocals, Value.category]; done) | rfl
def QR2 (Z : State) (q : Addr) (w : Addr) (kk : ClassId) (x : Addr) (dx : Int64) (sx : Int64) (y : Addr) (dy : Int64) (sy : Int64) (h0 : Heap) (n0 : Nat) (v : Option Value) (h : Heap) (L : List Loc) : Prop := v = none ∧ Fr n0 L ∧ Keep h0 h [q, w, x, y] ∧ own_TQ Z h q (.ref w) (1 : Int32) ∧ Arv Z h w kk (.object "com/example/earnest_reactor/earnestreactor/core/ScheduledTask") (16 : Int32) [(.ref y), .null, .null] .null ∧ own_TK Z h x .null dx sx .null (-1 : Int32) ∧ own_TK Z h y .null dy sy .null (0 : Int32)
set_option maxRecDepth 65536 in
set_option maxHeartbeats 40000000 in
theorem rmR2 (l : Launch) (Z : State) (a0 : Array Value) (hw : ∀ d ∈ tables_1, d.before a0 Z = true) (ws : List Jvm.Cond) (q : Addr) (w : Addr) (kk : ClassId) (x : Addr) (dx : Int64) (sx : Int64) (y : Addr) (dy : Int64) (sy : Int64) (h0 : Heap) (n0 : Nat) (Z0 : n0 ≤ h0.size) (f_O_q : own_TQ Z h0 q (.ref w) (2 : Int32)) (f_V_w : Arv Z h0 w kk (.object "com/example/earnest_reactor/earnestreactor/core/ScheduledTask") (16 : Int32) [(.ref x), (.ref y), .null] .null) (ho : Ovr Z kk "com/example/earnest_reactor/earnestreactor/core/ScheduledTask") (f_O_x : own_TK Z h0 x .null dx sx .null (0 : Int32)) (f_O_y : own_TK Z h0 y .null dy sy .null (1 : Int32)) (ge_q : n0 ≤ q) (ge_w : n0 ≤ w) (ge_x : n0 ≤ x) (ge_y : n0 ≤ y) (ne_x_y : x ≠ y) :
    MetFree l (⟨"com/example/earnest_reactor/earnestreactor/core/TimerQueue", "removeAt", "(I)V"⟩ : MethodName) (head1 (Jvm.Cond.code (⟨"com/example/earnest_reactor/earnestreactor/core/TimerQueue", "removeAt", "(I)V"⟩ : MethodName) prog_35_method_7_code 4 none :: ws) ({ frames := 3, cells := 0, slots := 0, locals := 44 } : Room)) (fun aa U => aa = #[(.ref q), (.int (0 : Int32))] ∧ Z.Warmed39 U.vm ∧ U.heap = h0) (fun _ _ _ _ _ => True) (fun _ U oc U' => ∃ v L, oc = .returned v ∧ QR2 Z q w kk x dx sx y dy sy h0 n0 v U'.heap L ∧ FrameEnd U oc U' L ({ frames := 3, cells := 0, slots := 0, locals := 44 } : Room).cells ({ frames := 3, cells := 0, slots := 0, locals := 44 } : Room).slots) := by
  refine MetFree.of_bodySF (plainFor_of_name own_pn1) hisR ?_
  intro p e s m args below meth c s₁ Bd hml0 hP hK
  obtain ⟨rfl, hZ, hh⟩ := hP
  have hx := Bd.exec
  have hby := Bd.bytes
  have hlk := Bd.notSynchronized
  have hret := Bd.returns
  have hml : c.maxLocals = 4 := hml0
  have hown : s.vm.findClass "com/example/earnest_reactor/earnestreactor/core/TimerQueue" = some m.cls := findClass_of_methodNamed Bd.named
  have hnm := (name_of_methodNamed Bd.named Bd.method).1
  have X0 : Stand p l e ({ frames := 3, cells := 0, slots := 0, locals := 44 } : Room) s m #[(.ref q), (.int (0 : Int32))] below meth c s₁ [] 0 0 := Stand.of_body Bd
  have e0 : s₁.heap = h0 := by rw [← hh, Bd.state]; rfl
  have N0 := Fr.nil n0
  refine own_body (Q := QR2 Z q w kk x dx sx y dy sy h0 n0) (KC := ({ frames := 3, cells := 0, slots := 0, locals := 44 } : Room).cells) (KS := ({ frames := 3, cells := 0, slots := 0, locals := 44 } : Room).slots) ?_
  rw [own_ef_rmR2 m q]
  have Kp : Keep h0 h0 [q, w, x, y] := Keep.refl h0 _
  refine own_aloadN X0 hx hby d13_0 (pc' := 1) rfl rfl rfl ?_
  obtain ⟨f_E_q, f_F_q_heap, f_F_q_size⟩ := f_O_q
  refine own_getF X0 hx hZ hby hown (host := "") (Or.inl (wd_11 hw)) Via.refl e0 f_F_q_heap d13_1 (pc' := 4) rfl (fun T1 X1 e1 => ?_)
  refine own_iloadN X1 hx hby d13_4 (pc' := 5) rfl rfl ?_
  obtain ⟨cl2, Ar2, q2, S2, M2, H2, G2⟩ := id f_V_w
  have hin2 : ¬ ((0 : Int32) < 0 ∨ cl2.slots.size ≤ ((0 : Int32)).toNatClampNeg) := inb_of S2 ⟨by decide, by decide⟩
  have hat2 : cl2.slots[((0 : Int32)).toNatClampNeg]? = some (.ref x) := H2.at hin2 rfl
  refine own_aaload X1 hx hZ hby e1 Ar2 rfl hin2 hat2 d13_5 (pc' := 6) rfl ?_
  refine own_astoreN X1 hx hby d13_6 (pc' := 7) rfl rfl (l' := #[.val (.ref q), .val (.int (0 : Int32)), .val (.ref x), .unset]) rfl ?_
  refine own_aloadN X1 hx hby d13_7 (pc' := 8) rfl rfl rfl ?_
  refine own_dup X1 hx hby d13_8 (pc' := 9) rfl rfl ?_
  refine own_getF X1 hx hZ hby hown (host := "") (Or.inl (wd_36 hw)) Via.refl e1 f_F_q_size d13_9 (pc' := 12) rfl (fun T3 X3 e3 => ?_)
  refine own_iconst X3 hx hby d13_12 (pc' := 13) rfl (n := (1 : Int32)) (by decide) ?_
  refine own_isub X3 hx hby d13_13 (pc' := 14) rfl ?_
  show own_End p e below _ (T3.setTop (mkF m 14 #[.val (.ref q), .val (.int (0 : Int32)), .val (.ref x), .unset] [(.int (1 : Int32)), (.ref q)]))
  have ne_w_q : w ≠ q := Ne.symm (Exa.neArv f_E_q f_V_w (wd_1 hw))
  have ne_x_q : x ≠ q := Exa.ne f_O_x.1 f_E_q (by decide)
  have ne_y_q : y ≠ q := Exa.ne f_O_y.1 f_E_q (by decide)
  refine own_putF X3 hx hZ hby hown (host := "") (Or.inl (wd_36 hw)) Via.refl e3 f_F_q_size f_E_q (Or.inl (wd_37 hw)) (wd_1 hw) (ty := .int) (by decide) rfl rfl d13_14 (pc' := 17) rfl (fun T4 h4 X4 e4 W4 => ?_)
  have f_F_q_size := f_F_q_size.same W4
  have f_V_w := f_V_w.other W4 ne_w_q
  have f_O_x := f_O_x.other W4 ne_x_q
  have f_O_y := f_O_y.other W4 ne_y_q
  have f_E_q := f_E_q.wr W4
  have f_F_q_heap := f_F_q_heap.other W4 (Or.inr (slot_ne (Or.inl (wd_12 hw)) (Or.inl (wd_37 hw)) (by decide) (t := (.array (.object "com/example/earnest_reactor/earnestreactor/core/ScheduledTask"))) (t' := .int) (by decide) (by decide)))
  have Zn := Nat.le_trans Z0 (Keep.of_wr W4).1
  have Kp := Kp.wr W4 (Or.inl (List.mem_of_getElem? (i := 0) rfl))
  have N4 := Fr.snoc X4 N0 ge_q
  refine own_aloadN X4 hx hby d13_17 (pc' := 18) rfl rfl rfl ?_
  refine own_getF X4 hx hZ hby hown (host := "") (Or.inl (wd_11 hw)) Via.refl e4 f_F_q_heap d13_18 (pc' := 21) rfl (fun T5 X5 e5 => ?_)
  refine own_aloadN X5 hx hby d13_21 (pc' := 22) rfl rfl rfl ?_
  refine own_getF X5 hx hZ hby hown (host := "") (Or.inl (wd_36 hw)) Via.refl e5 f_F_q_size d13_22 (pc' := 25) rfl (fun T6 X6 e6 => ?_)
  obtain ⟨cl7, Ar7, q7, S7, M7, H7, G7⟩ := id f_V_w
  have hin7 : ¬ ((1 : Int32) < 0 ∨ cl7.slots.size ≤ ((1 : Int32)).toNatClampNeg) := inb_of S7 ⟨by decide, by decide⟩
  have hat7 : cl7.slots[((1 : Int32)).toNatClampNeg]? = some (.ref y) := H7.at hin7 rfl
  refine own_aaload X6 hx hZ hby e6 Ar7 rfl hin7 hat7 d13_25 (pc' := 26) rfl ?_
  refine own_astoreN X6 hx hby d13_26 (pc' := 27) rfl rfl (l' := #[.val (.ref q), .val (.int (0 : Int32)), .val (.ref x), .val (.ref y)]) rfl ?_
  refine own_aloadN X6 hx hby d13_27 (pc' := 28) rfl rfl rfl ?_
  refine own_getF X6 hx hZ hby hown (host := "") (Or.inl (wd_11 hw)) Via.refl e6 f_F_q_heap d13_28 (pc' := 31) rfl (fun T8 X8 e8 => ?_)
  refine own_aloadN X8 hx hby d13_31 (pc' := 32) rfl rfl rfl ?_
  refine own_getF X8 hx hZ hby hown (host := "") (Or.inl (wd_36 hw)) Via.refl e8 f_F_q_size d13_32 (pc' := 35) rfl (fun T9 X9 e9 => ?_)
  refine own_aconst_null X9 hx hby d13_35 (pc' := 36) rfl ?_
  have ne_x_w : x ≠ w := Exa.neArv f_O_x.1 f_V_w (wd_14 hw)
  have ne_y_w : y ≠ w := Exa.neArv f_O_y.1 f_V_w (wd_14 hw)
  obtain ⟨cl10, Ar10, q10, S10, M10, H10, G10⟩ := id f_V_w
  have hin10 : ¬ ((1 : Int32) < 0 ∨ cl10.slots.size ≤ ((1 : Int32)).toNatClampNeg) := inb_of S10 ⟨by decide, by decide⟩
  refine own_stR X9 hx hZ hby e9 Ar10 hin10 rfl (Or.inl rfl) d13_36 (pc' := 37) rfl (fun T11 h11 X11 e11 W11 => ?_)
  have f_V_w := Arv.set Ar10 q10 S10 M10 H10 G10 rfl W11 1 rfl (Nat.le_of_ble_eq_true rfl)
  have f_V_w : Arv Z h11 w kk (.object "com/example/earnest_reactor/earnestreactor/core/ScheduledTask") (16 : Int32) [(.ref x), .null, .null] .null := f_V_w
  have f_O_x := f_O_x.other W11 ne_x_w
  have f_O_y := f_O_y.other W11 ne_y_w
  have f_E_q := f_E_q.wr W11
  have f_F_q_heap := f_F_q_heap.other W11 (Or.inl (Ne.symm ne_w_q))
  have f_F_q_size := f_F_q_size.other W11 (Or.inl (Ne.symm ne_w_q))
  have Zn := Nat.le_trans Zn (Keep.of_wr W11).1
  have Kp := Kp.wr W11 (Or.inl (List.mem_of_getElem? (i := 1) rfl))
  have N11 := Fr.snoc X11 N4 ge_w
  refine own_aloadN X11 hx hby d13_37 (pc' := 38) rfl rfl rfl ?_
  refine own_iconst X11 hx hby d13_38 (pc' := 39) rfl (n := (-1 : Int32)) (by decide) ?_
  refine own_lk0 hw X11 hx hZ hby (by rw [hml]; rfl) hown d13_39 (pc' := 42) rfl e11 f_O_x.1 (W := 0) (Nat.le_of_eq rfl) (rmSQ l Z a0 hw [] x dx sx (0 : Int32) (-1 : Int32) h11 n0 Zn f_O_x ge_x) (by decide) (by decide) (by decide) (by decide) (fun v12 T12 L12 X12 hQ12 => ?_)
  obtain ⟨rfl, Nq12, K12, O12⟩ := hQ12
  have N12 := Fr.app N11 Nq12
  have f_V_w := f_V_w.keep K12 (ninS (Ne.symm ne_x_w) nin0)
  have f_O_y := f_O_y.keep K12 (ninS (Ne.symm ne_x_y) nin0)
  have f_E_q := f_E_q.keep K12
  have f_F_q_heap := f_F_q_heap.keep K12 (ninS (Ne.symm ne_x_q) nin0)
  have f_F_q_size := f_F_q_size.keep K12 (ninS (Ne.symm ne_x_q) nin0)
  have Zn := Nat.le_trans Zn K12.1
  have Kp := Kp.trans K12 (allS (Or.inl (List.mem_of_getElem? (i := 2) rfl)) all0)
  show own_End p e below _ (T12.setTop (mkF m 42 _ []))
  refine own_iloadN X12 hx hby d13_42 (pc' := 43) rfl rfl ?_
  refine own_aloadN X12 hx hby d13_43 (pc' := 44) rfl rfl rfl ?_
  refine own_getF X12 hx hZ hby hown (host := "") (Or.inl (wd_36 hw)) Via.refl rfl f_F_q_size d13_44 (pc' := 47) rfl (fun T13 X13 e13 => ?_)
  refine own_icN X13 hx hby d13_47 (pc' := 50) rfl (show (0 : Int32) < (1 : Int32) by decide) ?_
  refine own_aloadN X13 hx hby d13_50 (pc' := 51) rfl rfl rfl ?_
  refine own_iloadN X13 hx hby d13_51 (pc' := 52) rfl rfl ?_
  refine own_aloadN X13 hx hby d13_52 (pc' := 53) rfl rfl rfl ?_
  have f_O_q : own_TQ Z T12.heap q (.ref w) (1 : Int32) := ⟨f_E_q, f_F_q_heap, f_F_q_size⟩
  refine own_lk3 hw X13 hx hZ hby (by rw [hml]; rfl) hown d13_53 (pc' := 56) rfl e13 f_O_q.1 (W := 0) (Nat.le_of_eq rfl) (rmD1 l Z a0 hw [] q w kk y dy sy (.ref x) rfl T12.heap n0 Zn f_O_q f_V_w ho f_O_y ge_w ge_y) (by decide) (by decide) (by decide) (by decide) (fun v14 T14 L14 X14 hQ14 => ?_)
  obtain ⟨rfl, Nq14, K14, V14, Ot14⟩ := hQ14
  have N14 := Fr.app N12 Nq14
  have O12 := O12.keep K14 (ninS ne_x_w (ninS ne_x_y nin0))
  have f_O_q := f_O_q.keep K14 (ninS (Ne.symm ne_w_q) (ninS (Ne.symm ne_y_q) nin0))
  have Zn := Nat.le_trans Zn K14.1
  have Kp := Kp.trans K14 (allS (Or.inl (List.mem_of_getElem? (i := 1) rfl)) (allS (Or.inl (List.mem_of_getElem? (i := 3) rfl)) all0))
  show own_End p e below _ (T14.setTop (mkF m 56 _ []))
  refine own_aloadN X14 hx hby d13_56 (pc' := 57) rfl rfl rfl ?_
  obtain ⟨f_E_q, f_F_q_heap, f_F_q_size⟩ := f_O_q
  refine own_getF X14 hx hZ hby hown (host := "") (Or.inl (wd_11 hw)) Via.refl rfl f_F_q_heap d13_57 (pc' := 60) rfl (fun T15 X15 e15 => ?_)
  refine own_iloadN X15 hx hby d13_60 (pc' := 61) rfl rfl ?_
  obtain ⟨cl16, Ar16, q16, S16, M16, H16, G16⟩ := id V14
  have hin16 : ¬ ((0 : Int32) < 0 ∨ cl16.slots.size ≤ ((0 : Int32)).toNatClampNeg) := inb_of S16 ⟨by decide, by decide⟩
  have hat16 : cl16.slots[((0 : Int32)).toNatClampNeg]? = some (.ref y) := H16.at hin16 rfl
  refine own_aaload X15 hx hZ hby e15 Ar16 rfl hin16 hat16 d13_61 (pc' := 62) rfl ?_
  refine own_aloadN X15 hx hby d13_62 (pc' := 63) rfl rfl rfl ?_
  refine own_acmp X15 hx hby d13_63 rfl rfl (same := true) (decide_eq_true rfl) (by decide) (pc' := 66) (by decide) ?_
  refine own_aloadN X15 hx hby d13_66 (pc' := 67) rfl rfl rfl ?_
  refine own_iloadN X15 hx hby d13_67 (pc' := 68) rfl rfl ?_
  refine own_aloadN X15 hx hby d13_68 (pc' := 69) rfl rfl rfl ?_
  have f_O_q : own_TQ Z T14.heap q (.ref w) (1 : Int32) := ⟨f_E_q, f_F_q_heap, f_F_q_size⟩
  refine own_lk4 hw X15 hx hZ hby (by rw [hml]; rfl) hown d13_69 (pc' := 72) rfl e15 f_O_q.1 (W := 0) (Nat.le_of_eq rfl) (rmU0r1 l Z a0 hw [] q w kk y dy sy T14.heap n0 Zn f_O_q V14 ho Ot14 ge_w ge_y) (by decide) (by decide) (by decide) (by decide) (fun v17 T17 L17 X17 hQ17 => ?_)
  obtain ⟨rfl, Nq17, K17, V17, Ot17⟩ := hQ17
  have N17 := Fr.app N14 Nq17
  have O12 := O12.keep K17 (ninS ne_x_w (ninS ne_x_y nin0))
  have f_O_q := f_O_q.keep K17 (ninS (Ne.symm ne_w_q) (ninS (Ne.symm ne_y_q) nin0))
  have Zn := Nat.le_trans Zn K17.1
  have Kp := Kp.trans K17 (allS (Or.inl (List.mem_of_getElem? (i := 1) rfl)) (allS (Or.inl (List.mem_of_getElem? (i := 3) rfl)) all0))
  show own_End p e below _ (T17.setTop (mkF m 72 _ []))
  refine own_return X17 hx hlk hby hret d13_72 (own_lv ?_ (by decide) (by decide))
  show QR2 Z q w kk x dx sx y dy sy  h0 n0 none T17.heap _
  exact ⟨rfl, N17, Kp, f_O_q, V17, O12, Ot17⟩
theorem own_ef_rmR3a (m : MethodId) (q : Addr)  : entryFrame m #[(.ref q), (.int (0 : Int32))] 4 = mkF m 0 #[.val (.ref q), .val (.int (0 : Int32)), .unset, .unset] [] := by first | (simp [entryFrame, mkF, argsToLocals, Value.category]; done) | rfl
def QR3a (Z : State) (q : Addr) (w : Addr) (kk : ClassId) (x : Addr) (dx : Int64) (sx : Int64) (y : Addr) (dy : Int64) (sy : Int64) (z : Addr) (dz : Int64) (sz : Int64) (h0 : Heap) (n0 : Nat) (v : Option Value) (h : Heap) (L : List Loc) : Prop := v = none ∧ Fr n0 L ∧ Keep h0 h [q, w, x, z] ∧ own_TQ Z h q (.ref w) (2 : Int32) ∧ Arv Z h w kk (.object "com/example/earnest_reactor/earnestreactor/core/ScheduledTask") (16 : Int32) [(.ref z), (.ref y), .null] .null ∧ own_TK Z h x .null dx sx .null (-1 : Int32) ∧ own_TK Z h z .null dz sz .null (0 : Int32)
set_option maxRecDepth 65536 in
set_option maxHeartbeats 40000000 in
theorem rmR3a (l : Launch) (Z : State) (a0 : Array Value) (hw : ∀ d ∈ tables_1, d.before a0 Z = true) (ws : List Jvm.Cond) (q : Addr) (w : Addr) (kk : ClassId) (x : Addr) (dx : Int64) (sx : Int64) (y : Addr) (dy : Int64) (sy : Int64) (z : Addr) (dz : Int64) (sz : Int64) (h0 : Heap) (n0 : Nat) (Z0 : n0 ≤ h0.size) (f_O_q : own_TQ Z h0 q (.ref w) (3 : Int32)) (f_V_w : Arv Z h0 w kk (.object "com/example/earnest_reactor/earnestreactor/core/ScheduledTask") (16 : Int32) [(.ref x), (.ref y), (.ref z)] .null) (ho : Ovr Z kk "com/example/earnest_reactor/earnestreactor/core/ScheduledTask") (f_O_x : own_TK Z h0 x .null dx sx .null (0 : Int32)) (f_O_y : own_TK Z h0 y .null dy sy .null (1 : Int32)) (f_O_z : own_TK Z h0 z .null dz sz .null (2 : Int32)) (ge_q : n0 ≤ q) (ge_w : n0 ≤ w) (ge_x : n0 ≤ x) (ge_z : n0 ≤ z) (ne_x_y : x ≠ y) (ne_x_z : x ≠ z) (ne_y_z : y ≠ z) (hz : own_rb dy sy dz sz = (0 : Int32)) :
    MetFree l (⟨"com/example/earnest_reactor/earnestreactor/core/TimerQueue", "removeAt", "(I)V"⟩ : MethodName) (head1 (Jvm.Cond.code (⟨"com/example/earnest_reactor/earnestreactor/core/TimerQueue", "removeAt", "(I)V"⟩ : MethodName) prog_35_method_7_code 4 none :: ws) ({ frames := 3, cells := 0, slots := 0, locals := 44 } : Room)) (fun aa U => aa = #[(.ref q), (.int (0 : Int32))] ∧ Z.Warmed39 U.vm ∧ U.heap = h0) (fun _ _ _ _ _ => True) (fun _ U oc U' => ∃ v L, oc = .returned v ∧ QR3a Z q w kk x dx sx y dy sy z dz sz h0 n0 v U'.heap L ∧ FrameEnd U oc U' L ({ frames := 3, cells := 0, slots := 0, locals := 44 } : Room).cells ({ frames := 3, cells := 0, slots := 0, locals := 44 } : Room).slots) := by
  refine MetFree.of_bodySF (plainFor_of_name own_pn1) hisR ?_
  intro p e s m args below meth c s₁ Bd hml0 hP hK
  obtain ⟨rfl, hZ, hh⟩ := hP
  have hx := Bd.exec
  have hby := Bd.bytes
  have hlk := Bd.notSynchronized
  have hret := Bd.returns
  have hml : c.maxLocals = 4 := hml0
  have hown : s.vm.findClass "com/example/earnest_reactor/earnestreactor/core/TimerQueue" = some m.cls := findClass_of_methodNamed Bd.named
  have hnm := (name_of_methodNamed Bd.named Bd.method).1
  have X0 : Stand p l e ({ frames := 3, cells := 0, slots := 0, locals := 44 } : Room) s m #[(.ref q), (.int (0 : Int32))] below meth c s₁ [] 0 0 := Stand.of_body Bd
  have e0 : s₁.heap = h0 := by rw [← hh, Bd.state]; rfl
  have N0 := Fr.nil n0
  refine own_body (Q := QR3a Z q w kk x dx sx y dy sy z dz sz h0 n0) (KC := ({ frames := 3, cells := 0, slots := 0, locals := 44 } : Room).cells) (KS := ({ frames := 3, cells := 0, slots := 0, locals := 44 } : Room).slots) ?_
  rw [own_ef_rmR3a m q]
  have Kp : Keep h0 h0 [q, w, x, z] := Keep.refl h0 _
  refine own_aloadN X0 hx hby d13_0 (pc' := 1) rfl rfl rfl ?_
  obtain ⟨f_E_q, f_F_q_heap, f_F_q_size⟩ := f_O_q
  refine own_getF X0 hx hZ hby hown (host := "") (Or.inl (wd_11 hw)) Via.refl e0 f_F_q_heap d13_1 (pc' := 4) rfl (fun T1 X1 e1 => ?_)
  refine own_iloadN X1 hx hby d13_4 (pc' := 5) rfl rfl ?_
  obtain ⟨cl2, Ar2, q2, S2, M2, H2, G2⟩ := id f_V_w
  have hin2 : ¬ ((0 : Int32) < 0 ∨ cl2.slots.size ≤ ((0 : Int32)).toNatClampNeg) := inb_of S2 ⟨by decide, by decide⟩
  have hat2 : cl2.slots[((0 : Int32)).toNatClampNeg]? = some (.ref x) := H2.at hin2 rfl
  refine own_aaload X1 hx hZ hby e1 Ar2 rfl hin2 hat2 d13_5 (pc' := 6) rfl ?_
  refine own_astoreN X1 hx hby d13_6 (pc' := 7) rfl rfl (l' := #[.val (.ref q), .val (.int (0 : Int32)), .val (.ref x), .unset]) rfl ?_
  refine own_aloadN X1 hx hby d13_7 (pc' := 8) rfl rfl rfl ?_
  refine own_dup X1 hx hby d13_8 (pc' := 9) rfl rfl ?_
  refine own_getF X1 hx hZ hby hown (host := "") (Or.inl (wd_36 hw)) Via.refl e1 f_F_q_size d13_9 (pc' := 12) rfl (fun T3 X3 e3 => ?_)
  refine own_iconst X3 hx hby d13_12 (pc' := 13) rfl (n := (1 : Int32)) (by decide) ?_
  refine own_isub X3 hx hby d13_13 (pc' := 14) rfl ?_
  show own_End p e below _ (T3.setTop (mkF m 14 #[.val (.ref q), .val (.int (0 : Int32)), .val (.ref x), .unset] [(.int (2 : Int32)), (.ref q)]))
  have ne_w_q : w ≠ q := Ne.symm (Exa.neArv f_E_q f_V_w (wd_1 hw))
  have ne_x_q : x ≠ q := Exa.ne f_O_x.1 f_E_q (by decide)
  have ne_y_q : y ≠ q := Exa.ne f_O_y.1 f_E_q (by decide)
  have ne_z_q : z ≠ q := Exa.ne f_O_z.1 f_E_q (by decide)
  refine own_putF X3 hx hZ hby hown (host := "") (Or.inl (wd_36 hw)) Via.refl e3 f_F_q_size f_E_q (Or.inl (wd_37 hw)) (wd_1 hw) (ty := .int) (by decide) rfl rfl d13_14 (pc' := 17) rfl (fun T4 h4 X4 e4 W4 => ?_)
  have f_F_q_size := f_F_q_size.same W4
  have f_V_w := f_V_w.other W4 ne_w_q
  have f_O_x := f_O_x.other W4 ne_x_q
  have f_O_y := f_O_y.other W4 ne_y_q
  have f_O_z := f_O_z.other W4 ne_z_q
  have f_E_q := f_E_q.wr W4
  have f_F_q_heap := f_F_q_heap.other W4 (Or.inr (slot_ne (Or.inl (wd_12 hw)) (Or.inl (wd_37 hw)) (by decide) (t := (.array (.object "com/example/earnest_reactor/earnestreactor/core/ScheduledTask"))) (t' := .int) (by decide) (by decide)))
  have Zn := Nat.le_trans Z0 (Keep.of_wr W4).1
  have Kp := Kp.wr W4 (Or.inl (List.mem_of_getElem? (i := 0) rfl))
  have N4 := Fr.snoc X4 N0 ge_q
  refine own_aloadN X4 hx hby d13_17 (pc' := 18) rfl rfl rfl ?_
  refine own_getF X4 hx hZ hby hown (host := "") (Or.inl (wd_11 hw)) Via.refl e4 f_F_q_heap d13_18 (pc' := 21) rfl (fun T5 X5 e5 => ?_)
  refine own_aloadN X5 hx hby d13_21 (pc' := 22) rfl rfl rfl ?_
  refine own_getF X5 hx hZ hby hown (host := "") (Or.inl (wd_36 hw)) Via.refl e5 f_F_q_size d13_22 (pc' := 25) rfl (fun T6 X6 e6 => ?_)
  obtain ⟨cl7, Ar7, q7, S7, M7, H7, G7⟩ := id f_V_w
  have hin7 : ¬ ((2 : Int32) < 0 ∨ cl7.slots.size ≤ ((2 : Int32)).toNatClampNeg) := inb_of S7 ⟨by decide, by decide⟩
  have hat7 : cl7.slots[((2 : Int32)).toNatClampNeg]? = some (.ref z) := H7.at hin7 rfl
  refine own_aaload X6 hx hZ hby e6 Ar7 rfl hin7 hat7 d13_25 (pc' := 26) rfl ?_
  refine own_astoreN X6 hx hby d13_26 (pc' := 27) rfl rfl (l' := #[.val (.ref q), .val (.int (0 : Int32)), .val (.ref x), .val (.ref z)]) rfl ?_
  refine own_aloadN X6 hx hby d13_27 (pc' := 28) rfl rfl rfl ?_
  refine own_getF X6 hx hZ hby hown (host := "") (Or.inl (wd_11 hw)) Via.refl e6 f_F_q_heap d13_28 (pc' := 31) rfl (fun T8 X8 e8 => ?_)
  refine own_aloadN X8 hx hby d13_31 (pc' := 32) rfl rfl rfl ?_
  refine own_getF X8 hx hZ hby hown (host := "") (Or.inl (wd_36 hw)) Via.refl e8 f_F_q_size d13_32 (pc' := 35) rfl (fun T9 X9 e9 => ?_)
  refine own_aconst_null X9 hx hby d13_35 (pc' := 36) rfl ?_
  have ne_x_w : x ≠ w := Exa.neArv f_O_x.1 f_V_w (wd_14 hw)
  have ne_y_w : y ≠ w := Exa.neArv f_O_y.1 f_V_w (wd_14 hw)
  have ne_z_w : z ≠ w := Exa.neArv f_O_z.1 f_V_w (wd_14 hw)
  obtain ⟨cl10, Ar10, q10, S10, M10, H10, G10⟩ := id f_V_w
  have hin10 : ¬ ((2 : Int32) < 0 ∨ cl10.slots.size ≤ ((2 : Int32)).toNatClampNeg) := inb_of S10 ⟨by decide, by decide⟩
  refine own_stR X9 hx hZ hby e9 Ar10 hin10 rfl (Or.inl rfl) d13_36 (pc' := 37) rfl (fun T11 h11 X11 e11 W11 => ?_)
  have f_V_w := Arv.set Ar10 q10 S10 M10 H10 G10 rfl W11 2 rfl (Nat.le_of_ble_eq_true rfl)
  have f_V_w : Arv Z h11 w kk (.object "com/example/earnest_reactor/earnestreactor/core/ScheduledTask") (16 : Int32) [(.ref x), (.ref y), .null] .null := f_V_w
  have f_O_x := f_O_x.other W11 ne_x_w
  have f_O_y := f_O_y.other W11 ne_y_w
  have f_O_z := f_O_z.other W11 ne_z_w
  have f_E_q := f_E_q.wr W11
  have f_F_q_heap := f_F_q_heap.other W11 (Or.inl (Ne.symm ne_w_q))
  have f_F_q_size := f_F_q_size.other W11 (Or.inl (Ne.symm ne_w_q))
  have Zn := Nat.le_trans Zn (Keep.of_wr W11).1
  have Kp := Kp.wr W11 (Or.inl (List.mem_of_getElem? (i := 1) rfl))
  have N11 := Fr.snoc X11 N4 ge_w
  refine own_aloadN X11 hx hby d13_37 (pc' := 38) rfl rfl rfl ?_
  refine own_iconst X11 hx hby d13_38 (pc' := 39) rfl (n := (-1 : Int32)) (by decide) ?_
  refine own_lk0 hw X11 hx hZ hby (by rw [hml]; rfl) hown d13_39 (pc' := 42) rfl e11 f_O_x.1 (W := 0) (Nat.le_of_eq rfl) (rmSQ l Z a0 hw [] x dx sx (0 : Int32) (-1 : Int32) h11 n0 Zn f_O_x ge_x) (by decide) (by decide) (by decide) (by decide) (fun v12 T12 L12 X12 hQ12 => ?_)
  obtain ⟨rfl, Nq12, K12, O12⟩ := hQ12
  have N12 := Fr.app N11 Nq12
  have f_V_w := f_V_w.keep K12 (ninS (Ne.symm ne_x_w) nin0)
  have f_O_y := f_O_y.keep K12 (ninS (Ne.symm ne_x_y) nin0)
  have f_O_z := f_O_z.keep K12 (ninS (Ne.symm ne_x_z) nin0)
  have f_E_q := f_E_q.keep K12
  have f_F_q_heap := f_F_q_heap.keep K12 (ninS (Ne.symm ne_x_q) nin0)
  have f_F_q_size := f_F_q_size.keep K12 (ninS (Ne.symm ne_x_q) nin0)
  have Zn := Nat.le_trans Zn K12.1
  have Kp := Kp.trans K12 (allS (Or.inl (List.mem_of_getElem? (i := 2) rfl)) all0)
  show own_End p e below _ (T12.setTop (mkF m 42 _ []))
  refine own_iloadN X12 hx hby d13_42 (pc' := 43) rfl rfl ?_
  refine own_aloadN X12 hx hby d13_43 (pc' := 44) rfl rfl rfl ?_
  refine own_getF X12 hx hZ hby hown (host := "") (Or.inl (wd_36 hw)) Via.refl rfl f_F_q_size d13_44 (pc' := 47) rfl (fun T13 X13 e13 => ?_)
  refine own_icN X13 hx hby d13_47 (pc' := 50) rfl (show (0 : Int32) < (2 : Int32) by decide) ?_
  refine own_aloadN X13 hx hby d13_50 (pc' := 51) rfl rfl rfl ?_
  refine own_iloadN X13 hx hby d13_51 (pc' := 52) rfl rfl ?_
  refine own_aloadN X13 hx hby d13_52 (pc' := 53) rfl rfl rfl ?_
  have f_O_q : own_TQ Z T12.heap q (.ref w) (2 : Int32) := ⟨f_E_q, f_F_q_heap, f_F_q_size⟩
  refine own_lk3 hw X13 hx hZ hby (by rw [hml]; rfl) hown d13_53 (pc' := 56) rfl e13 f_O_q.1 (W := 0) (Nat.le_of_eq rfl) (rmD2a l Z a0 hw [] q w kk z dz sz y dy sy (.ref x) rfl T12.heap n0 Zn f_O_q f_V_w ho f_O_z f_O_y ge_w ge_z (Ne.symm ne_y_z) hz) (by decide) (by decide) (by decide) (by decide) (fun v14 T14 L14 X14 hQ14 => ?_)
  obtain ⟨rfl, Nq14, K14, V14, Ot14⟩ := hQ14
  have N14 := Fr.app N12 Nq14
  have f_O_y := f_O_y.keep K14 (ninS ne_y_w (ninS ne_y_z nin0))
  have O12 := O12.keep K14 (ninS ne_x_w (ninS ne_x_z nin0))
  have f_O_q := f_O_q.keep K14 (ninS (Ne.symm ne_w_q) (ninS (Ne.symm ne_z_q) nin0))
  have Zn := Nat.le_trans Zn K14.1
  have Kp := Kp.trans K14 (allS (Or.inl (List.mem_of_getElem? (i := 1) rfl)) (allS (Or.inl (List.mem_of_getElem? (i := 3) rfl)) all0))
  show own_End p e below _ (T14.setTop (mkF m 56 _ []))
  refine own_aloadN X14 hx hby d13_56 (pc' := 57) rfl rfl rfl ?_
  obtain ⟨f_E_q, f_F_q_heap, f_F_q_size⟩ := f_O_q
  refine own_getF X14 hx hZ hby hown (host := "") (Or.inl (wd_11 hw)) Via.refl rfl f_F_q_heap d13_57 (pc' := 60) rfl (fun T15 X15 e15 => ?_)
  refine own_iloadN X15 hx hby d13_60 (pc' := 61) rfl rfl ?_
  obtain ⟨cl16, Ar16, q16, S16, M16, H16, G16⟩ := id V14
  have hin16 : ¬ ((0 : Int32) < 0 ∨ cl16.slots.size ≤ ((0 : Int32)).toNatClampNeg) := inb_of S16 ⟨by decide, by decide⟩
  have hat16 : cl16.slots[((0 : Int32)).toNatClampNeg]? = some (.ref z) := H16.at hin16 rfl
  refine own_aaload X15 hx hZ hby e15 Ar16 rfl hin16 hat16 d13_61 (pc' := 62) rfl ?_
  refine own_aloadN X15 hx hby d13_62 (pc' := 63) rfl rfl rfl ?_
  refine own_acmp X15 hx hby d13_63 rfl rfl (same := true) (decide_eq_true rfl) (by decide) (pc' := 66) (by decide) ?_
  refine own_aloadN X15 hx hby d13_66 (pc' := 67) rfl rfl rfl ?_
  refine own_iloadN X15 hx hby d13_67 (pc' := 68) rfl rfl ?_
  refine own_aloadN X15 hx hby d13_68 (pc' := 69) rfl rfl rfl ?_
  have f_O_q : own_TQ Z T14.heap q (.ref w) (2 : Int32) := ⟨f_E_q, f_F_q_heap, f_F_q_size⟩
  refine own_lk4 hw X15 hx hZ hby (by rw [hml]; rfl) hown d13_69 (pc' := 72) rfl e15 f_O_q.1 (W := 0) (Nat.le_of_eq rfl) (rmU0r2 l Z a0 hw [] q w kk z dz sz y dy sy T14.heap n0 Zn f_O_q V14 ho Ot14 f_O_y ge_w ge_z (Ne.symm ne_y_z)) (by decide) (by decide) (by decide) (by decide) (fun v17 T17 L17 X17 hQ17 => ?_)
  obtain ⟨rfl, Nq17, K17, V17, Ot17⟩ := hQ17
  have N17 := Fr.app N14 Nq17
  have f_O_y := f_O_y.keep K17 (ninS ne_y_w (ninS ne_y_z nin0))
  have O12 := O12.keep K17 (ninS ne_x_w (ninS ne_x_z nin0))
  have f_O_q := f_O_q.keep K17 (ninS (Ne.symm ne_w_q) (ninS (Ne.symm ne_z_q) nin0))
  have Zn := Nat.le_trans Zn K17.1
  have Kp := Kp.trans K17 (allS (Or.inl (List.mem_of_getElem? (i := 1) rfl)) (allS (Or.inl (List.mem_of_getElem? (i := 3) rfl)) all0))
  show own_End p e below _ (T17.setTop (mkF m 72 _ []))
  refine own_return X17 hx hlk hby hret d13_72 (own_lv ?_ (by decide) (by decide))
  show QR3a Z q w kk x dx sx y dy sy z dz sz  h0 n0 none T17.heap _
  exact ⟨rfl, N17, Kp, f_O_q, V17, O12, Ot17⟩
theorem own_ef_rmR3b (m : MethodId) (q : Addr)  : entryFrame m #[(.ref q), (.int (0 : Int32))] 4 = mkF m 0 #[.val (.ref q), .val (.int (0 : Int32)), .unset, .unset] [] := by first | (simp [entryFrame, mkF, argsToLocals, Value.category]; done) | rfl
def QR3b (Z : State) (q : Addr) (w : Addr) (kk : ClassId) (x : Addr) (dx : Int64) (sx : Int64) (y : Addr) (dy : Int64) (sy : Int64) (z : Addr) (dz : Int64) (sz : Int64) (h0 : Heap) (n0 : Nat) (v : Option Value) (h : Heap) (L : List Loc) : Prop := v = none ∧ Fr n0 L ∧ Keep h0 h [q, w, x, y, z] ∧ own_TQ Z h q (.ref w) (2 : Int32) ∧ Arv Z h w kk (.object "com/example/earnest_reactor/earnestreactor/core/ScheduledTask") (16 : Int32) [(.ref y), (.ref z), .null] .null ∧ own_TK Z h x .null dx sx .null (-1 : Int32) ∧ own_TK Z h y .null dy sy .null (0 : Int32) ∧ own_TK Z h z .null dz sz .null (1 : Int32)
set_option maxRecDepth 65536 in
set_option maxHeartbeats 40000000 in
theorem rmR3b (l : Launch) (Z : State) (a0 : Array Value) (hw : ∀ d ∈ tables_1, d.before a0 Z = true) (ws : List Jvm.Cond) (q : Addr) (w : Addr) (kk : ClassId) (x : Addr) (dx : Int64) (sx : Int64) (y : Addr) (dy : Int64) (sy : Int64) (z : Addr) (dz : Int64) (sz : Int64) (h0 : Heap) (n0 : Nat) (Z0 : n0 ≤ h0.size) (f_O_q : own_TQ Z h0 q (.ref w) (3 : Int32)) (f_V_w : Arv Z h0 w kk (.object "com/example/earnest_reactor/earnestreactor/core/ScheduledTask") (16 : Int32) [(.ref x), (.ref y), (.ref z)] .null) (ho : Ovr Z kk "com/example/earnest_reactor/earnestreactor/core/ScheduledTask") (f_O_x : own_TK Z h0 x .null dx sx .null (0 : Int32)) (f_O_y : own_TK Z h0 y .null dy sy .null (1 : Int32)) (f_O_z : own_TK Z h0 z .null dz sz .null (2 : Int32)) (ge_q : n0 ≤ q) (ge_w : n0 ≤ w) (ge_x : n0 ≤ x) (ge_y : n0 ≤ y) (ge_z : n0 ≤ z) (ne_x_y : x ≠ y) (ne_x_z : x ≠ z) (ne_y_z : y ≠ z) (hz : own_rb dy sy dz sz = (1 : Int32)) :
    MetFree l (⟨"com/example/earnest_reactor/earnestreactor/core/TimerQueue", "removeAt", "(I)V"⟩ : MethodName) (head1 (Jvm.Cond.code (⟨"com/example/earnest_reactor/earnestreactor/core/TimerQueue", "removeAt", "(I)V"⟩ : MethodName) prog_35_method_7_code 4 none :: ws) ({ frames := 3, cells := 0, slots := 0, locals := 44 } : Room)) (fun aa U => aa = #[(.ref q), (.int (0 : Int32))] ∧ Z.Warmed39 U.vm ∧ U.heap = h0) (fun _ _ _ _ _ => True) (fun _ U oc U' => ∃ v L, oc = .returned v ∧ QR3b Z q w kk x dx sx y dy sy z dz sz h0 n0 v U'.heap L ∧ FrameEnd U oc U' L ({ frames := 3, cells := 0, slots := 0, locals := 44 } : Room).cells ({ frames := 3, cells := 0, slots := 0, locals := 44 } : Room).slots) := by
  refine MetFree.of_bodySF (plainFor_of_name own_pn1) hisR ?_
  intro p e s m args below meth c s₁ Bd hml0 hP hK
  obtain ⟨rfl, hZ, hh⟩ := hP
  have hx := Bd.exec
  have hby := Bd.bytes
  have hlk := Bd.notSynchronized
  have hret := Bd.returns
  have hml : c.maxLocals = 4 := hml0
  have hown : s.vm.findClass "com/example/earnest_reactor/earnestreactor/core/TimerQueue" = some m.cls := findClass_of_methodNamed Bd.named
  have hnm := (name_of_methodNamed Bd.named Bd.method).1
  have X0 : Stand p l e ({ frames := 3, cells := 0, slots := 0, locals := 44 } : Room) s m #[(.ref q), (.int (0 : Int32))] below meth c s₁ [] 0 0 := Stand.of_body Bd
  have e0 : s₁.heap = h0 := by rw [← hh, Bd.state]; rfl
  have N0 := Fr.nil n0
  refine own_body (Q := QR3b Z q w kk x dx sx y dy sy z dz sz h0 n0) (KC := ({ frames := 3, cells := 0, slots := 0, locals := 44 } : Room).cells) (KS := ({ frames := 3, cells := 0, slots := 0, locals := 44 } : Room).slots) ?_
  rw [own_ef_rmR3b m q]
  have Kp : Keep h0 h0 [q, w, x, y, z] := Keep.refl h0 _
  refine own_aloadN X0 hx hby d13_0 (pc' := 1) rfl rfl rfl ?_
  obtain ⟨f_E_q, f_F_q_heap, f_F_q_size⟩ := f_O_q
  refine own_getF X0 hx hZ hby hown (host := "") (Or.inl (wd_11 hw)) Via.refl e0 f_F_q_heap d13_1 (pc' := 4) rfl (fun T1 X1 e1 => ?_)
  refine own_iloadN X1 hx hby d13_4 (pc' := 5) rfl rfl ?_
  obtain ⟨cl2, Ar2, q2, S2, M2, H2, G2⟩ := id f_V_w
  have hin2 : ¬ ((0 : Int32) < 0 ∨ cl2.slots.size ≤ ((0 : Int32)).toNatClampNeg) := inb_of S2 ⟨by decide, by decide⟩
  have hat2 : cl2.slots[((0 : Int32)).toNatClampNeg]? = some (.ref x) := H2.at hin2 rfl
  refine own_aaload X1 hx hZ hby e1 Ar2 rfl hin2 hat2 d13_5 (pc' := 6) rfl ?_
  refine own_astoreN X1 hx hby d13_6 (pc' := 7) rfl rfl (l' := #[.val (.ref q), .val (.int (0 : Int32)), .val (.ref x), .unset]) rfl ?_
  refine own_aloadN X1 hx hby d13_7 (pc' := 8) rfl rfl rfl ?_
  refine own_dup X1 hx hby d13_8 (pc' := 9) rfl rfl ?_
  refine own_getF X1 hx hZ hby hown (host := "") (Or.inl (wd_36 hw)) Via.refl e1 f_F_q_size d13_9 (pc' := 12) rfl (fun T3 X3 e3 => ?_)
  refine own_iconst X3 hx hby d13_12 (pc' := 13) rfl (n := (1 : Int32)) (by decide) ?_
  refine own_isub X3 hx hby d13_13 (pc' := 14) rfl ?_
  show own_End p e below _ (T3.setTop (mkF m 14 #[.val (.ref q), .val (.int (0 : Int32)), .val (.ref x), .unset] [(.int (2 : Int32)), (.ref q)]))
  have ne_w_q : w ≠ q := Ne.symm (Exa.neArv f_E_q f_V_w (wd_1 hw))
  have ne_x_q : x ≠ q := Exa.ne f_O_x.1 f_E_q (by decide)
  have ne_y_q : y ≠ q := Exa.ne f_O_y.1 f_E_q (by decide)
  have ne_z_q : z ≠ q := Exa.ne f_O_z.1 f_E_q (by decide)
  refine own_putF X3 hx hZ hby hown (host := "") (Or.inl (wd_36 hw)) Via.refl e3 f_F_q_size f_E_q (Or.inl (wd_37 hw)) (wd_1 hw) (ty := .int) (by decide) rfl rfl d13_14 (pc' := 17) rfl (fun T4 h4 X4 e4 W4 => ?_)
  have f_F_q_size := f_F_q_size.same W4
  have f_V_w := f_V_w.other W4 ne_w_q
  have f_O_x := f_O_x.other W4 ne_x_q
  have f_O_y := f_O_y.other W4 ne_y_q
  have f_O_z := f_O_z.other W4 ne_z_q
  have f_E_q := f_E_q.wr W4
  have f_F_q_heap := f_F_q_heap.other W4 (Or.inr (slot_ne (Or.inl (wd_12 hw)) (Or.inl (wd_37 hw)) (by decide) (t := (.array (.object "com/example/earnest_reactor/earnestreactor/core/ScheduledTask"))) (t' := .int) (by decide) (by decide)))
  have Zn := Nat.le_trans Z0 (Keep.of_wr W4).1
  have Kp := Kp.wr W4 (Or.inl (List.mem_of_getElem? (i := 0) rfl))
  have N4 := Fr.snoc X4 N0 ge_q
  refine own_aloadN X4 hx hby d13_17 (pc' := 18) rfl rfl rfl ?_
  refine own_getF X4 hx hZ hby hown (host := "") (Or.inl (wd_11 hw)) Via.refl e4 f_F_q_heap d13_18 (pc' := 21) rfl (fun T5 X5 e5 => ?_)
  refine own_aloadN X5 hx hby d13_21 (pc' := 22) rfl rfl rfl ?_
  refine own_getF X5 hx hZ hby hown (host := "") (Or.inl (wd_36 hw)) Via.refl e5 f_F_q_size d13_22 (pc' := 25) rfl (fun T6 X6 e6 => ?_)
  obtain ⟨cl7, Ar7, q7, S7, M7, H7, G7⟩ := id f_V_w
  have hin7 : ¬ ((2 : Int32) < 0 ∨ cl7.slots.size ≤ ((2 : Int32)).toNatClampNeg) := inb_of S7 ⟨by decide, by decide⟩
  have hat7 : cl7.slots[((2 : Int32)).toNatClampNeg]? = some (.ref z) := H7.at hin7 rfl
  refine own_aaload X6 hx hZ hby e6 Ar7 rfl hin7 hat7 d13_25 (pc' := 26) rfl ?_
  refine own_astoreN X6 hx hby d13_26 (pc' := 27) rfl rfl (l' := #[.val (.ref q), .val (.int (0 : Int32)), .val (.ref x), .val (.ref z)]) rfl ?_
  refine own_aloadN X6 hx hby d13_27 (pc' := 28) rfl rfl rfl ?_
  refine own_getF X6 hx hZ hby hown (host := "") (Or.inl (wd_11 hw)) Via.refl e6 f_F_q_heap d13_28 (pc' := 31) rfl (fun T8 X8 e8 => ?_)
  refine own_aloadN X8 hx hby d13_31 (pc' := 32) rfl rfl rfl ?_
  refine own_getF X8 hx hZ hby hown (host := "") (Or.inl (wd_36 hw)) Via.refl e8 f_F_q_size d13_32 (pc' := 35) rfl (fun T9 X9 e9 => ?_)
  refine own_aconst_null X9 hx hby d13_35 (pc' := 36) rfl ?_
  have ne_x_w : x ≠ w := Exa.neArv f_O_x.1 f_V_w (wd_14 hw)
  have ne_y_w : y ≠ w := Exa.neArv f_O_y.1 f_V_w (wd_14 hw)
  have ne_z_w : z ≠ w := Exa.neArv f_O_z.1 f_V_w (wd_14 hw)
  obtain ⟨cl10, Ar10, q10, S10, M10, H10, G10⟩ := id f_V_w
  have hin10 : ¬ ((2 : Int32) < 0 ∨ cl10.slots.size ≤ ((2 : Int32)).toNatClampNeg) := inb_of S10 ⟨by decide, by decide⟩
  refine own_stR X9 hx hZ hby e9 Ar10 hin10 rfl (Or.inl rfl) d13_36 (pc' := 37) rfl (fun T11 h11 X11 e11 W11 => ?_)
  have f_V_w := Arv.set Ar10 q10 S10 M10 H10 G10 rfl W11 2 rfl (Nat.le_of_ble_eq_true rfl)
  have f_V_w : Arv Z h11 w kk (.object "com/example/earnest_reactor/earnestreactor/core/ScheduledTask") (16 : Int32) [(.ref x), (.ref y), .null] .null := f_V_w
  have f_O_x := f_O_x.other W11 ne_x_w
  have f_O_y := f_O_y.other W11 ne_y_w
  have f_O_z := f_O_z.other W11 ne_z_w
  have f_E_q := f_E_q.wr W11
  have f_F_q_heap := f_F_q_heap.other W11 (Or.inl (Ne.symm ne_w_q))
  have f_F_q_size := f_F_q_size.other W11 (Or.inl (Ne.symm ne_w_q))
  have Zn := Nat.le_trans Zn (Keep.of_wr W11).1
  have Kp := Kp.wr W11 (Or.inl (List.mem_of_getElem? (i := 1) rfl))
  have N11 := Fr.snoc X11 N4 ge_w
  refine own_aloadN X11 hx hby d13_37 (pc' := 38) rfl rfl rfl ?_
  refine own_iconst X11 hx hby d13_38 (pc' := 39) rfl (n := (-1 : Int32)) (by decide) ?_
  refine own_lk0 hw X11 hx hZ hby (by rw [hml]; rfl) hown d13_39 (pc' := 42) rfl e11 f_O_x.1 (W := 0) (Nat.le_of_eq rfl) (rmSQ l Z a0 hw [] x dx sx (0 : Int32) (-1 : Int32) h11 n0 Zn f_O_x ge_x) (by decide) (by decide) (by decide) (by decide) (fun v12 T12 L12 X12 hQ12 => ?_)
  obtain ⟨rfl, Nq12, K12, O12⟩ := hQ12
  have N12 := Fr.app N11 Nq12
  have f_V_w := f_V_w.keep K12 (ninS (Ne.symm ne_x_w) nin0)
  have f_O_y := f_O_y.keep K12 (ninS (Ne.symm ne_x_y) nin0)
  have f_O_z := f_O_z.keep K12 (ninS (Ne.symm ne_x_z) nin0)
  have f_E_q := f_E_q.keep K12
  have f_F_q_heap := f_F_q_heap.keep K12 (ninS (Ne.symm ne_x_q) nin0)
  have f_F_q_size := f_F_q_size.keep K12 (ninS (Ne.symm ne_x_q) nin0)
  have Zn := Nat.le_trans Zn K12.1
  have Kp := Kp.trans K12 (allS (Or.inl (List.mem_of_getElem? (i := 2) rfl)) all0)
  show own_End p e below _ (T12.setTop (mkF m 42 _ []))
  refine own_iloadN X12 hx hby d13_42 (pc' := 43) rfl rfl ?_
  refine own_aloadN X12 hx hby d13_43 (pc' := 44) rfl rfl rfl ?_
  refine own_getF X12 hx hZ hby hown (host := "") (Or.inl (wd_36 hw)) Via.refl rfl f_F_q_size d13_44 (pc' := 47) rfl (fun T13 X13 e13 => ?_)
  refine own_icN X13 hx hby d13_47 (pc' := 50) rfl (show (0 : Int32) < (2 : Int32) by decide) ?_
  refine own_aloadN X13 hx hby d13_50 (pc' := 51) rfl rfl rfl ?_
  refine own_iloadN X13 hx hby d13_51 (pc' := 52) rfl rfl ?_
  refine own_aloadN X13 hx hby d13_52 (pc' := 53) rfl rfl rfl ?_
  have f_O_q : own_TQ Z T12.heap q (.ref w) (2 : Int32) := ⟨f_E_q, f_F_q_heap, f_F_q_size⟩
  refine own_lk3 hw X13 hx hZ hby (by rw [hml]; rfl) hown d13_53 (pc' := 56) rfl e13 f_O_q.1 (W := 0) (Nat.le_of_eq rfl) (rmD2b l Z a0 hw [] q w kk z dz sz y dy sy (.ref x) rfl T12.heap n0 Zn f_O_q f_V_w ho f_O_z f_O_y ge_w ge_z ge_y (Ne.symm ne_y_z) hz) (by decide) (by decide) (by decide) (by decide) (fun v14 T14 L14 X14 hQ14 => ?_)
  obtain ⟨rfl, Nq14, K14, V14, Ot14, Oy14⟩ := hQ14
  have N14 := Fr.app N12 Nq14
  have O12 := O12.keep K14 (ninS ne_x_w (ninS ne_x_z (ninS ne_x_y nin0)))
  have f_O_q := f_O_q.keep K14 (ninS (Ne.symm ne_w_q) (ninS (Ne.symm ne_z_q) (ninS (Ne.symm ne_y_q) nin0)))
  have Zn := Nat.le_trans Zn K14.1
  have Kp := Kp.trans K14 (allS (Or.inl (List.mem_of_getElem? (i := 1) rfl)) (allS (Or.inl (List.mem_of_getElem? (i := 4) rfl)) (allS (Or.inl (List.mem_of_getElem? (i := 3) rfl)) all0)))
  show own_End p e below _ (T14.setTop (mkF m 56 _ []))
  refine own_aloadN X14 hx hby d13_56 (pc' := 57) rfl rfl rfl ?_
  obtain ⟨f_E_q, f_F_q_heap, f_F_q_size⟩ := f_O_q
  refine own_getF X14 hx hZ hby hown (host := "") (Or.inl (wd_11 hw)) Via.refl rfl f_F_q_heap d13_57 (pc' := 60) rfl (fun T15 X15 e15 => ?_)
  refine own_iloadN X15 hx hby d13_60 (pc' := 61) rfl rfl ?_
  obtain ⟨cl16, Ar16, q16, S16, M16, H16, G16⟩ := id V14
  have hin16 : ¬ ((0 : Int32) < 0 ∨ cl16.slots.size ≤ ((0 : Int32)).toNatClampNeg) := inb_of S16 ⟨by decide, by decide⟩
  have hat16 : cl16.slots[((0 : Int32)).toNatClampNeg]? = some (.ref y) := H16.at hin16 rfl
  refine own_aaload X15 hx hZ hby e15 Ar16 rfl hin16 hat16 d13_61 (pc' := 62) rfl ?_
  refine own_aloadN X15 hx hby d13_62 (pc' := 63) rfl rfl rfl ?_
  refine own_acmp X15 hx hby d13_63 rfl rfl (same := false) (decide_eq_false fun q => ne_y_z (Value.ref.inj q)) (by decide) (pc' := 72) (by decide) ?_
  refine own_return X15 hx hlk hby hret d13_72 (own_lv ?_ (by decide) (by decide))
  show QR3b Z q w kk x dx sx y dy sy z dz sz  h0 n0 none T15.heap _
  rw [e15]
  exact ⟨rfl, N14, Kp, ⟨f_E_q, f_F_q_heap, f_F_q_size⟩, V14, O12, Oy14, Ot14⟩
theorem own_ef_rmR2i (m : MethodId) (q : Addr)  : entryFrame m #[(.ref q), (.int (1 : Int32))] 4 = mkF m 0 #[.val (.ref q), .val (.int (1 : Int32)), .unset, .unset] [] := by first | (simp [entryFrame, mkF, argsToLocals, Value.category]; done) | rfl
def QR2i (Z : State) (q : Addr) (w : Addr) (kk : ClassId) (x : Addr) (dx : Int64) (sx : Int64) (y : Addr) (dy : Int64) (sy : Int64) (h0 : Heap) (n0 : Nat) (v : Option Value) (h : Heap) (L : List Loc) : Prop := v = none ∧ Fr n0 L ∧ Keep h0 h [q, w, y] ∧ own_TQ Z h q (.ref w) (1 : Int32) ∧ Arv Z h w kk (.object "com/example/earnest_reactor/earnestreactor/core/ScheduledTask") (16 : Int32) [(.ref x), .null, .null] .null ∧ own_TK Z h y .null dy sy .null (-1 : Int32)
set_option maxRecDepth 65536 in
set_option maxHeartbeats 40000000 in
theorem rmR2i (l : Launch) (Z : State) (a0 : Array Value) (hw : ∀ d ∈ tables_1, d.before a0 Z = true) (ws : List Jvm.Cond) (q : Addr) (w : Addr) (kk : ClassId) (x : Addr) (dx : Int64) (sx : Int64) (y : Addr) (dy : Int64) (sy : Int64) (h0 : Heap) (n0 : Nat) (Z0 : n0 ≤ h0.size) (f_O_q : own_TQ Z h0 q (.ref w) (2 : Int32)) (f_V_w : Arv Z h0 w kk (.object "com/example/earnest_reactor/earnestreactor/core/ScheduledTask") (16 : Int32) [(.ref x), (.ref y), .null] .null) (ho : Ovr Z kk "com/example/earnest_reactor/earnestreactor/core/ScheduledTask") (f_O_x : own_TK Z h0 x .null dx sx .null (0 : Int32)) (f_O_y : own_TK Z h0 y .null dy sy .null (1 : Int32)) (ge_q : n0 ≤ q) (ge_w : n0 ≤ w) (ge_y : n0 ≤ y) (ne_x_y : x ≠ y) :
    MetFree l (⟨"com/example/earnest_reactor/earnestreactor/core/TimerQueue", "removeAt", "(I)V"⟩ : MethodName) (head1 (Jvm.Cond.code (⟨"com/example/earnest_reactor/earnestreactor/core/TimerQueue", "removeAt", "(I)V"⟩ : MethodName) prog_35_method_7_code 4 none :: ws) ({ frames := 1, cells := 0, slots := 0, locals := 13 } : Room)) (fun aa U => aa = #[(.ref q), (.int (1 : Int32))] ∧ Z.Warmed39 U.vm ∧ U.heap = h0) (fun _ _ _ _ _ => True) (fun _ U oc U' => ∃ v L, oc = .returned v ∧ QR2i Z q w kk x dx sx y dy sy h0 n0 v U'.heap L ∧ FrameEnd U oc U' L ({ frames := 1, cells := 0, slots := 0, locals := 13 } : Room).cells ({ frames := 1, cells := 0, slots := 0, locals := 13 } : Room).slots) := by
  refine MetFree.of_bodySF (plainFor_of_name own_pn1) hisR ?_
  intro p e s m args below meth c s₁ Bd hml0 hP hK
  obtain ⟨rfl, hZ, hh⟩ := hP
  have hx := Bd.exec
  have hby := Bd.bytes
  have hlk := Bd.notSynchronized
  have hret := Bd.returns
  have hml : c.maxLocals = 4 := hml0
  have hown : s.vm.findClass "com/example/earnest_reactor/earnestreactor/core/TimerQueue" = some m.cls := findClass_of_methodNamed Bd.named
  have hnm := (name_of_methodNamed Bd.named Bd.method).1
  have X0 : Stand p l e ({ frames := 1, cells := 0, slots := 0, locals := 13 } : Room) s m #[(.ref q), (.int (1 : Int32))] below meth c s₁ [] 0 0 := Stand.of_body Bd
  have e0 : s₁.heap = h0 := by rw [← hh, Bd.state]; rfl
  have N0 := Fr.nil n0
  refine own_body (Q := QR2i Z q w kk x dx sx y dy sy h0 n0) (KC := ({ frames := 1, cells := 0, slots := 0, locals := 13 } : Room).cells) (KS := ({ frames := 1, cells := 0, slots := 0, locals := 13 } : Room).slots) ?_
  rw [own_ef_rmR2i m q]
  have Kp : Keep h0 h0 [q, w, y] := Keep.refl h0 _
  refine own_aloadN X0 hx hby d13_0 (pc' := 1) rfl rfl rfl ?_
  obtain ⟨f_E_q, f_F_q_heap, f_F_q_size⟩ := f_O_q
  refine own_getF X0 hx hZ hby hown (host := "") (Or.inl (wd_11 hw)) Via.refl e0 f_F_q_heap d13_1 (pc' := 4) rfl (fun T1 X1 e1 => ?_)
  refine own_iloadN X1 hx hby d13_4 (pc' := 5) rfl rfl ?_
  obtain ⟨cl2, Ar2, q2, S2, M2, H2, G2⟩ := id f_V_w
  have hin2 : ¬ ((1 : Int32) < 0 ∨ cl2.slots.size ≤ ((1 : Int32)).toNatClampNeg) := inb_of S2 ⟨by decide, by decide⟩
  have hat2 : cl2.slots[((1 : Int32)).toNatClampNeg]? = some (.ref y) := H2.at hin2 rfl
  refine own_aaload X1 hx hZ hby e1 Ar2 rfl hin2 hat2 d13_5 (pc' := 6) rfl ?_
  refine own_astoreN X1 hx hby d13_6 (pc' := 7) rfl rfl (l' := #[.val (.ref q), .val (.int (1 : Int32)), .val (.ref y), .unset]) rfl ?_
  refine own_aloadN X1 hx hby d13_7 (pc' := 8) rfl rfl rfl ?_
  refine own_dup X1 hx hby d13_8 (pc' := 9) rfl rfl ?_
  refine own_getF X1 hx hZ hby hown (host := "") (Or.inl (wd_36 hw)) Via.refl e1 f_F_q_size d13_9 (pc' := 12) rfl (fun T3 X3 e3 => ?_)
  refine own_iconst X3 hx hby d13_12 (pc' := 13) rfl (n := (1 : Int32)) (by decide) ?_
  refine own_isub X3 hx hby d13_13 (pc' := 14) rfl ?_
  show own_End p e below _ (T3.setTop (mkF m 14 #[.val (.ref q), .val (.int (1 : Int32)), .val (.ref y), .unset] [(.int (1 : Int32)), (.ref q)]))
  have ne_w_q : w ≠ q := Ne.symm (Exa.neArv f_E_q f_V_w (wd_1 hw))
  have ne_x_q : x ≠ q := Exa.ne f_O_x.1 f_E_q (by decide)
  have ne_y_q : y ≠ q := Exa.ne f_O_y.1 f_E_q (by decide)
  refine own_putF X3 hx hZ hby hown (host := "") (Or.inl (wd_36 hw)) Via.refl e3 f_F_q_size f_E_q (Or.inl (wd_37 hw)) (wd_1 hw) (ty := .int) (by decide) rfl rfl d13_14 (pc' := 17) rfl (fun T4 h4 X4 e4 W4 => ?_)
  have f_F_q_size := f_F_q_size.same W4
  have f_V_w := f_V_w.other W4 ne_w_q
  have f_O_x := f_O_x.other W4 ne_x_q
  have f_O_y := f_O_y.other W4 ne_y_q
  have f_E_q := f_E_q.wr W4
  have f_F_q_heap := f_F_q_heap.other W4 (Or.inr (slot_ne (Or.inl (wd_12 hw)) (Or.inl (wd_37 hw)) (by decide) (t := (.array (.object "com/example/earnest_reactor/earnestreactor/core/ScheduledTask"))) (t' := .int) (by decide) (by decide)))
  have Zn := Nat.le_trans Z0 (Keep.of_wr W4).1
  have Kp := Kp.wr W4 (Or.inl (List.mem_of_getElem? (i := 0) rfl))
  have N4 := Fr.snoc X4 N0 ge_q
  refine own_aloadN X4 hx hby d13_17 (pc' := 18) rfl rfl rfl ?_
  refine own_getF X4 hx hZ hby hown (host := "") (Or.inl (wd_11 hw)) Via.refl e4 f_F_q_heap d13_18 (pc' := 21) rfl (fun T5 X5 e5 => ?_)
  refine own_aloadN X5 hx hby d13_21 (pc' := 22) rfl rfl rfl ?_
  refine own_getF X5 hx hZ hby hown (host := "") (Or.inl (wd_36 hw)) Via.refl e5 f_F_q_size d13_22 (pc' := 25) rfl (fun T6 X6 e6 => ?_)
  obtain ⟨cl7, Ar7, q7, S7, M7, H7, G7⟩ := id f_V_w
  have hin7 : ¬ ((1 : Int32) < 0 ∨ cl7.slots.size ≤ ((1 : Int32)).toNatClampNeg) := inb_of S7 ⟨by decide, by decide⟩
  have hat7 : cl7.slots[((1 : Int32)).toNatClampNeg]? = some (.ref y) := H7.at hin7 rfl
  refine own_aaload X6 hx hZ hby e6 Ar7 rfl hin7 hat7 d13_25 (pc' := 26) rfl ?_
  refine own_astoreN X6 hx hby d13_26 (pc' := 27) rfl rfl (l' := #[.val (.ref q), .val (.int (1 : Int32)), .val (.ref y), .val (.ref y)]) rfl ?_
  refine own_aloadN X6 hx hby d13_27 (pc' := 28) rfl rfl rfl ?_
  refine own_getF X6 hx hZ hby hown (host := "") (Or.inl (wd_11 hw)) Via.refl e6 f_F_q_heap d13_28 (pc' := 31) rfl (fun T8 X8 e8 => ?_)
  refine own_aloadN X8 hx hby d13_31 (pc' := 32) rfl rfl rfl ?_
  refine own_getF X8 hx hZ hby hown (host := "") (Or.inl (wd_36 hw)) Via.refl e8 f_F_q_size d13_32 (pc' := 35) rfl (fun T9 X9 e9 => ?_)
  refine own_aconst_null X9 hx hby d13_35 (pc' := 36) rfl ?_
  have ne_x_w : x ≠ w := Exa.neArv f_O_x.1 f_V_w (wd_14 hw)
  have ne_y_w : y ≠ w := Exa.neArv f_O_y.1 f_V_w (wd_14 hw)
  obtain ⟨cl10, Ar10, q10, S10, M10, H10, G10⟩ := id f_V_w
  have hin10 : ¬ ((1 : Int32) < 0 ∨ cl10.slots.size ≤ ((1 : Int32)).toNatClampNeg) := inb_of S10 ⟨by decide, by decide⟩
  refine own_stR X9 hx hZ hby e9 Ar10 hin10 rfl (Or.inl rfl) d13_36 (pc' := 37) rfl (fun T11 h11 X11 e11 W11 => ?_)
  have f_V_w := Arv.set Ar10 q10 S10 M10 H10 G10 rfl W11 1 rfl (Nat.le_of_ble_eq_true rfl)
  have f_V_w : Arv Z h11 w kk (.object "com/example/earnest_reactor/earnestreactor/core/ScheduledTask") (16 : Int32) [(.ref x), .null, .null] .null := f_V_w
  have f_O_x := f_O_x.other W11 ne_x_w
  have f_O_y := f_O_y.other W11 ne_y_w
  have f_E_q := f_E_q.wr W11
  have f_F_q_heap := f_F_q_heap.other W11 (Or.inl (Ne.symm ne_w_q))
  have f_F_q_size := f_F_q_size.other W11 (Or.inl (Ne.symm ne_w_q))
  have Zn := Nat.le_trans Zn (Keep.of_wr W11).1
  have Kp := Kp.wr W11 (Or.inl (List.mem_of_getElem? (i := 1) rfl))
  have N11 := Fr.snoc X11 N4 ge_w
  refine own_aloadN X11 hx hby d13_37 (pc' := 38) rfl rfl rfl ?_
  refine own_iconst X11 hx hby d13_38 (pc' := 39) rfl (n := (-1 : Int32)) (by decide) ?_
  refine own_lk0 hw X11 hx hZ hby (by rw [hml]; rfl) hown d13_39 (pc' := 42) rfl e11 f_O_y.1 (W := 0) (Nat.le_of_eq rfl) (rmSQ l Z a0 hw [] y dy sy (1 : Int32) (-1 : Int32) h11 n0 Zn f_O_y ge_y) (by decide) (by decide) (by decide) (by decide) (fun v12 T12 L12 X12 hQ12 => ?_)
  obtain ⟨rfl, Nq12, K12, O12⟩ := hQ12
  have N12 := Fr.app N11 Nq12
  have f_V_w := f_V_w.keep K12 (ninS (Ne.symm ne_y_w) nin0)
  have f_O_x := f_O_x.keep K12 (ninS ne_x_y nin0)
  have f_E_q := f_E_q.keep K12
  have f_F_q_heap := f_F_q_heap.keep K12 (ninS (Ne.symm ne_y_q) nin0)
  have f_F_q_size := f_F_q_size.keep K12 (ninS (Ne.symm ne_y_q) nin0)
  have Zn := Nat.le_trans Zn K12.1
  have Kp := Kp.trans K12 (allS (Or.inl (List.mem_of_getElem? (i := 2) rfl)) all0)
  show own_End p e below _ (T12.setTop (mkF m 42 _ []))
  refine own_iloadN X12 hx hby d13_42 (pc' := 43) rfl rfl ?_
  refine own_aloadN X12 hx hby d13_43 (pc' := 44) rfl rfl rfl ?_
  refine own_getF X12 hx hZ hby hown (host := "") (Or.inl (wd_36 hw)) Via.refl rfl f_F_q_size d13_44 (pc' := 47) rfl (fun T13 X13 e13 => ?_)
  refine own_icY X13 hx hby d13_47 (pc' := 72) (by decide) (by decide) (show ¬ (1 : Int32) < (1 : Int32) by decide) ?_
  refine own_return X13 hx hlk hby hret d13_72 (own_lv ?_ (by decide) (by decide))
  show QR2i Z q w kk x dx sx y dy sy  h0 n0 none T13.heap _
  rw [e13]
  exact ⟨rfl, N12, Kp, ⟨f_E_q, f_F_q_heap, f_F_q_size⟩, f_V_w, O12⟩
theorem own_ef_rmR3i (m : MethodId) (q : Addr)  : entryFrame m #[(.ref q), (.int (2 : Int32))] 4 = mkF m 0 #[.val (.ref q), .val (.int (2 : Int32)), .unset, .unset] [] := by first | (simp [entryFrame, mkF, argsToLocals, Value.category]; done) | rfl
def QR3i (Z : State) (q : Addr) (w : Addr) (kk : ClassId) (x : Addr) (dx : Int64) (sx : Int64) (y : Addr) (dy : Int64) (sy : Int64) (z : Addr) (dz : Int64) (sz : Int64) (h0 : Heap) (n0 : Nat) (v : Option Value) (h : Heap) (L : List Loc) : Prop := v = none ∧ Fr n0 L ∧ Keep h0 h [q, w, z] ∧ own_TQ Z h q (.ref w) (2 : Int32) ∧ Arv Z h w kk (.object "com/example/earnest_reactor/earnestreactor/core/ScheduledTask") (16 : Int32) [(.ref x), (.ref y), .null] .null ∧ own_TK Z h z .null dz sz .null (-1 : Int32)
set_option maxRecDepth 65536 in
set_option maxHeartbeats 40000000 in
theorem rmR3i (l : Launch) (Z : State) (a0 : Array Value) (hw : ∀ d ∈ tables_1, d.before a0 Z = true) (ws : List Jvm.Cond) (q : Addr) (w : Addr) (kk : ClassId) (x : Addr) (dx : Int64) (sx : Int64) (y : Addr) (dy : Int64) (sy : Int64) (z : Addr) (dz : Int64) (sz : Int64) (h0 : Heap) (n0 : Nat) (Z0 : n0 ≤ h0.size) (f_O_q : own_TQ Z h0 q (.ref w) (3 : Int32)) (f_V_w : Arv Z h0 w kk (.object "com/example/earnest_reactor/earnestreactor/core/ScheduledTask") (16 : Int32) [(.ref x), (.ref y), (.ref z)] .null) (ho : Ovr Z kk "com/example/earnest_reactor/earnestreactor/core/ScheduledTask") (f_O_x : own_TK Z h0 x .null dx sx .null (0 : Int32)) (f_O_y : own_TK Z h0 y .null dy sy .null (1 : Int32)) (f_O_z : own_TK Z h0 z .null dz sz .null (2 : Int32)) (ge_q : n0 ≤ q) (ge_w : n0 ≤ w) (ge_z : n0 ≤ z) (ne_x_y : x ≠ y) (ne_x_z : x ≠ z) (ne_y_z : y ≠ z) :
    MetFree l (⟨"com/example/earnest_reactor/earnestreactor/core/TimerQueue", "removeAt", "(I)V"⟩ : MethodName) (head1 (Jvm.Cond.code (⟨"com/example/earnest_reactor/earnestreactor/core/TimerQueue", "removeAt", "(I)V"⟩ : MethodName) prog_35_method_7_code 4 none :: ws) ({ frames := 1, cells := 0, slots := 0, locals := 13 } : Room)) (fun aa U => aa = #[(.ref q), (.int (2 : Int32))] ∧ Z.Warmed39 U.vm ∧ U.heap = h0) (fun _ _ _ _ _ => True) (fun _ U oc U' => ∃ v L, oc = .returned v ∧ QR3i Z q w kk x dx sx y dy sy z dz sz h0 n0 v U'.heap L ∧ FrameEnd U oc U' L ({ frames := 1, cells := 0, slots := 0, locals := 13 } : Room).cells ({ frames := 1, cells := 0, slots := 0, locals := 13 } : Room).slots) := by
  refine MetFree.of_bodySF (plainFor_of_name own_pn1) hisR ?_
  intro p e s m args below meth c s₁ Bd hml0 hP hK
  obtain ⟨rfl, hZ, hh⟩ := hP
  have hx := Bd.exec
  have hby := Bd.bytes
  have hlk := Bd.notSynchronized
  have hret := Bd.returns
  have hml : c.maxLocals = 4 := hml0
  have hown : s.vm.findClass "com/example/earnest_reactor/earnestreactor/core/TimerQueue" = some m.cls := findClass_of_methodNamed Bd.named
  have hnm := (name_of_methodNamed Bd.named Bd.method).1
  have X0 : Stand p l e ({ frames := 1, cells := 0, slots := 0, locals := 13 } : Room) s m #[(.ref q), (.int (2 : Int32))] below meth c s₁ [] 0 0 := Stand.of_body Bd
  have e0 : s₁.heap = h0 := by rw [← hh, Bd.state]; rfl
  have N0 := Fr.nil n0
  refine own_body (Q := QR3i Z q w kk x dx sx y dy sy z dz sz h0 n0) (KC := ({ frames := 1, cells := 0, slots := 0, locals := 13 } : Room).cells) (KS := ({ frames := 1, cells := 0, slots := 0, locals := 13 } : Room).slots) ?_
  rw [own_ef_rmR3i m q]
  have Kp : Keep h0 h0 [q, w, z] := Keep.refl h0 _
  refine own_aloadN X0 hx hby d13_0 (pc' := 1) rfl rfl rfl ?_
  obtain ⟨f_E_q, f_F_q_heap, f_F_q_size⟩ := f_O_q
  refine own_getF X0 hx hZ hby hown (host := "") (Or.inl (wd_11 hw)) Via.refl e0 f_F_q_heap d13_1 (pc' := 4) rfl (fun T1 X1 e1 => ?_)
  refine own_iloadN X1 hx hby d13_4 (pc' := 5) rfl rfl ?_
  obtain ⟨cl2, Ar2, q2, S2, M2, H2, G2⟩ := id f_V_w
  have hin2 : ¬ ((2 : Int32) < 0 ∨ cl2.slots.size ≤ ((2 : Int32)).toNatClampNeg) := inb_of S2 ⟨by decide, by decide⟩
  have hat2 : cl2.slots[((2 : Int32)).toNatClampNeg]? = some (.ref z) := H2.at hin2 rfl
  refine own_aaload X1 hx hZ hby e1 Ar2 rfl hin2 hat2 d13_5 (pc' := 6) rfl ?_
  refine own_astoreN X1 hx hby d13_6 (pc' := 7) rfl rfl (l' := #[.val (.ref q), .val (.int (2 : Int32)), .val (.ref z), .unset]) rfl ?_
  refine own_aloadN X1 hx hby d13_7 (pc' := 8) rfl rfl rfl ?_
  refine own_dup X1 hx hby d13_8 (pc' := 9) rfl rfl ?_
  refine own_getF X1 hx hZ hby hown (host := "") (Or.inl (wd_36 hw)) Via.refl e1 f_F_q_size d13_9 (pc' := 12) rfl (fun T3 X3 e3 => ?_)
  refine own_iconst X3 hx hby d13_12 (pc' := 13) rfl (n := (1 : Int32)) (by decide) ?_
  refine own_isub X3 hx hby d13_13 (pc' := 14) rfl ?_
  show own_End p e below _ (T3.setTop (mkF m 14 #[.val (.ref q), .val (.int (2 : Int32)), .val (.ref z), .unset] [(.int (2 : Int32)), (.ref q)]))
  have ne_w_q : w ≠ q := Ne.symm (Exa.neArv f_E_q f_V_w (wd_1 hw))
  have ne_x_q : x ≠ q := Exa.ne f_O_x.1 f_E_q (by decide)
  have ne_y_q : y ≠ q := Exa.ne f_O_y.1 f_E_q (by decide)
  have ne_z_q : z ≠ q := Exa.ne f_O_z.1 f_E_q (by decide)
  refine own_putF X3 hx hZ hby hown (host := "") (Or.inl (wd_36 hw)) Via.refl e3 f_F_q_size f_E_q (Or.inl (wd_37 hw)) (wd_1 hw) (ty := .int) (by decide) rfl rfl d13_14 (pc' := 17) rfl (fun T4 h4 X4 e4 W4 => ?_)
  have f_F_q_size := f_F_q_size.same W4
  have f_V_w := f_V_w.other W4 ne_w_q
  have f_O_x := f_O_x.other W4 ne_x_q
  have f_O_y := f_O_y.other W4 ne_y_q
  have f_O_z := f_O_z.other W4 ne_z_q
  have f_E_q := f_E_q.wr W4
  have f_F_q_heap := f_F_q_heap.other W4 (Or.inr (slot_ne (Or.inl (wd_12 hw)) (Or.inl (wd_37 hw)) (by decide) (t := (.array (.object "com/example/earnest_reactor/earnestreactor/core/ScheduledTask"))) (t' := .int) (by decide) (by decide)))
  have Zn := Nat.le_trans Z0 (Keep.of_wr W4).1
  have Kp := Kp.wr W4 (Or.inl (List.mem_of_getElem? (i := 0) rfl))
  have N4 := Fr.snoc X4 N0 ge_q
  refine own_aloadN X4 hx hby d13_17 (pc' := 18) rfl rfl rfl ?_
  refine own_getF X4 hx hZ hby hown (host := "") (Or.inl (wd_11 hw)) Via.refl e4 f_F_q_heap d13_18 (pc' := 21) rfl (fun T5 X5 e5 => ?_)
  refine own_aloadN X5 hx hby d13_21 (pc' := 22) rfl rfl rfl ?_
  refine own_getF X5 hx hZ hby hown (host := "") (Or.inl (wd_36 hw)) Via.refl e5 f_F_q_size d13_22 (pc' := 25) rfl (fun T6 X6 e6 => ?_)
  obtain ⟨cl7, Ar7, q7, S7, M7, H7, G7⟩ := id f_V_w
  have hin7 : ¬ ((2 : Int32) < 0 ∨ cl7.slots.size ≤ ((2 : Int32)).toNatClampNeg) := inb_of S7 ⟨by decide, by decide⟩
  have hat7 : cl7.slots[((2 : Int32)).toNatClampNeg]? = some (.ref z) := H7.at hin7 rfl
  refine own_aaload X6 hx hZ hby e6 Ar7 rfl hin7 hat7 d13_25 (pc' := 26) rfl ?_
  refine own_astoreN X6 hx hby d13_26 (pc' := 27) rfl rfl (l' := #[.val (.ref q), .val (.int (2 : Int32)), .val (.ref z), .val (.ref z)]) rfl ?_
  refine own_aloadN X6 hx hby d13_27 (pc' := 28) rfl rfl rfl ?_
  refine own_getF X6 hx hZ hby hown (host := "") (Or.inl (wd_11 hw)) Via.refl e6 f_F_q_heap d13_28 (pc' := 31) rfl (fun T8 X8 e8 => ?_)
  refine own_aloadN X8 hx hby d13_31 (pc' := 32) rfl rfl rfl ?_
  refine own_getF X8 hx hZ hby hown (host := "") (Or.inl (wd_36 hw)) Via.refl e8 f_F_q_size d13_32 (pc' := 35) rfl (fun T9 X9 e9 => ?_)
  refine own_aconst_null X9 hx hby d13_35 (pc' := 36) rfl ?_
  have ne_x_w : x ≠ w := Exa.neArv f_O_x.1 f_V_w (wd_14 hw)
  have ne_y_w : y ≠ w := Exa.neArv f_O_y.1 f_V_w (wd_14 hw)
  have ne_z_w : z ≠ w := Exa.neArv f_O_z.1 f_V_w (wd_14 hw)
  obtain ⟨cl10, Ar10, q10, S10, M10, H10, G10⟩ := id f_V_w
  have hin10 : ¬ ((2 : Int32) < 0 ∨ cl10.slots.size ≤ ((2 : Int32)).toNatClampNeg) := inb_of S10 ⟨by decide, by decide⟩
  refine own_stR X9 hx hZ hby e9 Ar10 hin10 rfl (Or.inl rfl) d13_36 (pc' := 37) rfl (fun T11 h11 X11 e11 W11 => ?_)
  have f_V_w := Arv.set Ar10 q10 S10 M10 H10 G10 rfl W11 2 rfl (Nat.le_of_ble_eq_true rfl)
  have f_V_w : Arv Z h11 w kk (.object "com/example/earnest_reactor/earnestreactor/core/ScheduledTask") (16 : Int32) [(.ref x), (.ref y), .null] .null := f_V_w
  have f_O_x := f_O_x.other W11 ne_x_w
  have f_O_y := f_O_y.other W11 ne_y_w
  have f_O_z := f_O_z.other W11 ne_z_w
  have f_E_q := f_E_q.wr W11
  have f_F_q_heap := f_F_q_heap.other W11 (Or.inl (Ne.symm ne_w_q))
  have f_F_q_size := f_F_q_size.other W11 (Or.inl (Ne.symm ne_w_q))
  have Zn := Nat.le_trans Zn (Keep.of_wr W11).1
  have Kp := Kp.wr W11 (Or.inl (List.mem_of_getElem? (i := 1) rfl))
  have N11 := Fr.snoc X11 N4 ge_w
  refine own_aloadN X11 hx hby d13_37 (pc' := 38) rfl rfl rfl ?_
  refine own_iconst X11 hx hby d13_38 (pc' := 39) rfl (n := (-1 : Int32)) (by decide) ?_
  refine own_lk0 hw X11 hx hZ hby (by rw [hml]; rfl) hown d13_39 (pc' := 42) rfl e11 f_O_z.1 (W := 0) (Nat.le_of_eq rfl) (rmSQ l Z a0 hw [] z dz sz (2 : Int32) (-1 : Int32) h11 n0 Zn f_O_z ge_z) (by decide) (by decide) (by decide) (by decide) (fun v12 T12 L12 X12 hQ12 => ?_)
  obtain ⟨rfl, Nq12, K12, O12⟩ := hQ12
  have N12 := Fr.app N11 Nq12
  have f_V_w := f_V_w.keep K12 (ninS (Ne.symm ne_z_w) nin0)
  have f_O_x := f_O_x.keep K12 (ninS ne_x_z nin0)
  have f_O_y := f_O_y.keep K12 (ninS ne_y_z nin0)
  have f_E_q := f_E_q.keep K12
  have f_F_q_heap := f_F_q_heap.keep K12 (ninS (Ne.symm ne_z_q) nin0)
  have f_F_q_size := f_F_q_size.keep K12 (ninS (Ne.symm ne_z_q) nin0)
  have Zn := Nat.le_trans Zn K12.1
  have Kp := Kp.trans K12 (allS (Or.inl (List.mem_of_getElem? (i := 2) rfl)) all0)
  show own_End p e below _ (T12.setTop (mkF m 42 _ []))
  refine own_iloadN X12 hx hby d13_42 (pc' := 43) rfl rfl ?_
  refine own_aloadN X12 hx hby d13_43 (pc' := 44) rfl rfl rfl ?_
  refine own_getF X12 hx hZ hby hown (host := "") (Or.inl (wd_36 hw)) Via.refl rfl f_F_q_size d13_44 (pc' := 47) rfl (fun T13 X13 e13 => ?_)
  refine own_icY X13 hx hby d13_47 (pc' := 72) (by decide) (by decide) (show ¬ (2 : Int32) < (2 : Int32) by decide) ?_
  refine own_return X13 hx hlk hby hret d13_72 (own_lv ?_ (by decide) (by decide))
  show QR3i Z q w kk x dx sx y dy sy z dz sz  h0 n0 none T13.heap _
  rw [e13]
  exact ⟨rfl, N12, Kp, ⟨f_E_q, f_F_q_heap, f_F_q_size⟩, f_V_w, O12⟩
theorem own_ef_rmR3c (m : MethodId) (q : Addr)  : entryFrame m #[(.ref q), (.int (1 : Int32))] 4 = mkF m 0 #[.val (.ref q), .val (.int (1 : Int32)), .unset, .unset] [] := by first | (simp [entryFrame, mkF, argsToLocals, Value.category]; done) | rfl
def QR3c (Z : State) (q : Addr) (w : Addr) (kk : ClassId) (x : Addr) (dx : Int64) (sx : Int64) (y : Addr) (dy : Int64) (sy : Int64) (z : Addr) (dz : Int64) (sz : Int64) (h0 : Heap) (n0 : Nat) (v : Option Value) (h : Heap) (L : List Loc) : Prop := v = none ∧ Fr n0 L ∧ Keep h0 h [q, w, y, z] ∧ own_TQ Z h q (.ref w) (2 : Int32) ∧ Arv Z h w kk (.object "com/example/earnest_reactor/earnestreactor/core/ScheduledTask") (16 : Int32) [(.ref x), (.ref z), .null] .null ∧ own_TK Z h y .null dy sy .null (-1 : Int32) ∧ own_TK Z h z .null dz sz .null (1 : Int32)
set_option maxRecDepth 65536 in
set_option maxHeartbeats 40000000 in
theorem rmR3c (l : Launch) (Z : State) (a0 : Array Value) (hw : ∀ d ∈ tables_1, d.before a0 Z = true) (ws : List Jvm.Cond) (q : Addr) (w : Addr) (kk : ClassId) (x : Addr) (dx : Int64) (sx : Int64) (y : Addr) (dy : Int64) (sy : Int64) (z : Addr) (dz : Int64) (sz : Int64) (h0 : Heap) (n0 : Nat) (Z0 : n0 ≤ h0.size) (f_O_q : own_TQ Z h0 q (.ref w) (3 : Int32)) (f_V_w : Arv Z h0 w kk (.object "com/example/earnest_reactor/earnestreactor/core/ScheduledTask") (16 : Int32) [(.ref x), (.ref y), (.ref z)] .null) (ho : Ovr Z kk "com/example/earnest_reactor/earnestreactor/core/ScheduledTask") (f_O_x : own_TK Z h0 x .null dx sx .null (0 : Int32)) (f_O_y : own_TK Z h0 y .null dy sy .null (1 : Int32)) (f_O_z : own_TK Z h0 z .null dz sz .null (2 : Int32)) (ge_q : n0 ≤ q) (ge_w : n0 ≤ w) (ge_y : n0 ≤ y) (ge_z : n0 ≤ z) (ne_x_y : x ≠ y) (ne_x_z : x ≠ z) (ne_y_z : y ≠ z) (hz : own_rb dz sz dx sx = (0 : Int32)) :
    MetFree l (⟨"com/example/earnest_reactor/earnestreactor/core/TimerQueue", "removeAt", "(I)V"⟩ : MethodName) (head1 (Jvm.Cond.code (⟨"com/example/earnest_reactor/earnestreactor/core/TimerQueue", "removeAt", "(I)V"⟩ : MethodName) prog_35_method_7_code 4 none :: ws) ({ frames := 3, cells := 0, slots := 0, locals := 44 } : Room)) (fun aa U => aa = #[(.ref q), (.int (1 : Int32))] ∧ Z.Warmed39 U.vm ∧ U.heap = h0) (fun _ _ _ _ _ => True) (fun _ U oc U' => ∃ v L, oc = .returned v ∧ QR3c Z q w kk x dx sx y dy sy z dz sz h0 n0 v U'.heap L ∧ FrameEnd U oc U' L ({ frames := 3, cells := 0, slots := 0, locals := 44 } : Room).cells ({ frames := 3, cells := 0, slots := 0, locals := 44 } : Room).slots) := by
  refine MetFree.of_bodySF (plainFor_of_name own_pn1) hisR ?_
  intro p e s m args below meth c s₁ Bd hml0 hP hK
  obtain ⟨rfl, hZ, hh⟩ := hP
  have hx := Bd.exec
  have hby := Bd.bytes
  have hlk := Bd.notSynchronized
  have hret := Bd.returns
  have hml : c.maxLocals = 4 := hml0
  have hown : s.vm.findClass "com/example/earnest_reactor/earnestreactor/core/TimerQueue" = some m.cls := findClass_of_methodNamed Bd.named
  have hnm := (name_of_methodNamed Bd.named Bd.method).1
  have X0 : Stand p l e ({ frames := 3, cells := 0, slots := 0, locals := 44 } : Room) s m #[(.ref q), (.int (1 : Int32))] below meth c s₁ [] 0 0 := Stand.of_body Bd
  have e0 : s₁.heap = h0 := by rw [← hh, Bd.state]; rfl
  have N0 := Fr.nil n0
  refine own_body (Q := QR3c Z q w kk x dx sx y dy sy z dz sz h0 n0) (KC := ({ frames := 3, cells := 0, slots := 0, locals := 44 } : Room).cells) (KS := ({ frames := 3, cells := 0, slots := 0, locals := 44 } : Room).slots) ?_
  rw [own_ef_rmR3c m q]
  have Kp : Keep h0 h0 [q, w, y, z] := Keep.refl h0 _
  refine own_aloadN X0 hx hby d13_0 (pc' := 1) rfl rfl rfl ?_
  obtain ⟨f_E_q, f_F_q_heap, f_F_q_size⟩ := f_O_q
  refine own_getF X0 hx hZ hby hown (host := "") (Or.inl (wd_11 hw)) Via.refl e0 f_F_q_heap d13_1 (pc' := 4) rfl (fun T1 X1 e1 => ?_)
  refine own_iloadN X1 hx hby d13_4 (pc' := 5) rfl rfl ?_
  obtain ⟨cl2, Ar2, q2, S2, M2, H2, G2⟩ := id f_V_w
  have hin2 : ¬ ((1 : Int32) < 0 ∨ cl2.slots.size ≤ ((1 : Int32)).toNatClampNeg) := inb_of S2 ⟨by decide, by decide⟩
  have hat2 : cl2.slots[((1 : Int32)).toNatClampNeg]? = some (.ref y) := H2.at hin2 rfl
  refine own_aaload X1 hx hZ hby e1 Ar2 rfl hin2 hat2 d13_5 (pc' := 6) rfl ?_
  refine own_astoreN X1 hx hby d13_6 (pc' := 7) rfl rfl (l' := #[.val (.ref q), .val (.int (1 : Int32)), .val (.ref y), .unset]) rfl ?_
  refine own_aloadN X1 hx hby d13_7 (pc' := 8) rfl rfl rfl ?_
  refine own_dup X1 hx hby d13_8 (pc' := 9) rfl rfl ?_
  refine own_getF X1 hx hZ hby hown (host := "") (Or.inl (wd_36 hw)) Via.refl e1 f_F_q_size d13_9 (pc' := 12) rfl (fun T3 X3 e3 => ?_)
  refine own_iconst X3 hx hby d13_12 (pc' := 13) rfl (n := (1 : Int32)) (by decide) ?_
  refine own_isub X3 hx hby d13_13 (pc' := 14) rfl ?_
  show own_End p e below _ (T3.setTop (mkF m 14 #[.val (.ref q), .val (.int (1 : Int32)), .val (.ref y), .unset] [(.int (2 : Int32)), (.ref q)]))
  have ne_w_q : w ≠ q := Ne.symm (Exa.neArv f_E_q f_V_w (wd_1 hw))
  have ne_x_q : x ≠ q := Exa.ne f_O_x.1 f_E_q (by decide)
  have ne_y_q : y ≠ q := Exa.ne f_O_y.1 f_E_q (by decide)
  have ne_z_q : z ≠ q := Exa.ne f_O_z.1 f_E_q (by decide)
  refine own_putF X3 hx hZ hby hown (host := "") (Or.inl (wd_36 hw)) Via.refl e3 f_F_q_size f_E_q (Or.inl (wd_37 hw)) (wd_1 hw) (ty := .int) (by decide) rfl rfl d13_14 (pc' := 17) rfl (fun T4 h4 X4 e4 W4 => ?_)
  have f_F_q_size := f_F_q_size.same W4
  have f_V_w := f_V_w.other W4 ne_w_q
  have f_O_x := f_O_x.other W4 ne_x_q
  have f_O_y := f_O_y.other W4 ne_y_q
  have f_O_z := f_O_z.other W4 ne_z_q
  have f_E_q := f_E_q.wr W4
  have f_F_q_heap := f_F_q_heap.other W4 (Or.inr (slot_ne (Or.inl (wd_12 hw)) (Or.inl (wd_37 hw)) (by decide) (t := (.array (.object "com/example/earnest_reactor/earnestreactor/core/ScheduledTask"))) (t' := .int) (by decide) (by decide)))
  have Zn := Nat.le_trans Z0 (Keep.of_wr W4).1
  have Kp := Kp.wr W4 (Or.inl (List.mem_of_getElem? (i := 0) rfl))
  have N4 := Fr.snoc X4 N0 ge_q
  refine own_aloadN X4 hx hby d13_17 (pc' := 18) rfl rfl rfl ?_
  refine own_getF X4 hx hZ hby hown (host := "") (Or.inl (wd_11 hw)) Via.refl e4 f_F_q_heap d13_18 (pc' := 21) rfl (fun T5 X5 e5 => ?_)
  refine own_aloadN X5 hx hby d13_21 (pc' := 22) rfl rfl rfl ?_
  refine own_getF X5 hx hZ hby hown (host := "") (Or.inl (wd_36 hw)) Via.refl e5 f_F_q_size d13_22 (pc' := 25) rfl (fun T6 X6 e6 => ?_)
  obtain ⟨cl7, Ar7, q7, S7, M7, H7, G7⟩ := id f_V_w
  have hin7 : ¬ ((2 : Int32) < 0 ∨ cl7.slots.size ≤ ((2 : Int32)).toNatClampNeg) := inb_of S7 ⟨by decide, by decide⟩
  have hat7 : cl7.slots[((2 : Int32)).toNatClampNeg]? = some (.ref z) := H7.at hin7 rfl
  refine own_aaload X6 hx hZ hby e6 Ar7 rfl hin7 hat7 d13_25 (pc' := 26) rfl ?_
  refine own_astoreN X6 hx hby d13_26 (pc' := 27) rfl rfl (l' := #[.val (.ref q), .val (.int (1 : Int32)), .val (.ref y), .val (.ref z)]) rfl ?_
  refine own_aloadN X6 hx hby d13_27 (pc' := 28) rfl rfl rfl ?_
  refine own_getF X6 hx hZ hby hown (host := "") (Or.inl (wd_11 hw)) Via.refl e6 f_F_q_heap d13_28 (pc' := 31) rfl (fun T8 X8 e8 => ?_)
  refine own_aloadN X8 hx hby d13_31 (pc' := 32) rfl rfl rfl ?_
  refine own_getF X8 hx hZ hby hown (host := "") (Or.inl (wd_36 hw)) Via.refl e8 f_F_q_size d13_32 (pc' := 35) rfl (fun T9 X9 e9 => ?_)
  refine own_aconst_null X9 hx hby d13_35 (pc' := 36) rfl ?_
  have ne_x_w : x ≠ w := Exa.neArv f_O_x.1 f_V_w (wd_14 hw)
  have ne_y_w : y ≠ w := Exa.neArv f_O_y.1 f_V_w (wd_14 hw)
  have ne_z_w : z ≠ w := Exa.neArv f_O_z.1 f_V_w (wd_14 hw)
  obtain ⟨cl10, Ar10, q10, S10, M10, H10, G10⟩ := id f_V_w
  have hin10 : ¬ ((2 : Int32) < 0 ∨ cl10.slots.size ≤ ((2 : Int32)).toNatClampNeg) := inb_of S10 ⟨by decide, by decide⟩
  refine own_stR X9 hx hZ hby e9 Ar10 hin10 rfl (Or.inl rfl) d13_36 (pc' := 37) rfl (fun T11 h11 X11 e11 W11 => ?_)
  have f_V_w := Arv.set Ar10 q10 S10 M10 H10 G10 rfl W11 2 rfl (Nat.le_of_ble_eq_true rfl)
  have f_V_w : Arv Z h11 w kk (.object "com/example/earnest_reactor/earnestreactor/core/ScheduledTask") (16 : Int32) [(.ref x), (.ref y), .null] .null := f_V_w
  have f_O_x := f_O_x.other W11 ne_x_w
  have f_O_y := f_O_y.other W11 ne_y_w
  have f_O_z := f_O_z.other W11 ne_z_w
  have f_E_q := f_E_q.wr W11
  have f_F_q_heap := f_F_q_heap.other W11 (Or.inl (Ne.symm ne_w_q))
  have f_F_q_size := f_F_q_size.other W11 (Or.inl (Ne.symm ne_w_q))
  have Zn := Nat.le_trans Zn (Keep.of_wr W11).1
  have Kp := Kp.wr W11 (Or.inl (List.mem_of_getElem? (i := 1) rfl))
  have N11 := Fr.snoc X11 N4 ge_w
  refine own_aloadN X11 hx hby d13_37 (pc' := 38) rfl rfl rfl ?_
  refine own_iconst X11 hx hby d13_38 (pc' := 39) rfl (n := (-1 : Int32)) (by decide) ?_
  refine own_lk0 hw X11 hx hZ hby (by rw [hml]; rfl) hown d13_39 (pc' := 42) rfl e11 f_O_y.1 (W := 0) (Nat.le_of_eq rfl) (rmSQ l Z a0 hw [] y dy sy (1 : Int32) (-1 : Int32) h11 n0 Zn f_O_y ge_y) (by decide) (by decide) (by decide) (by decide) (fun v12 T12 L12 X12 hQ12 => ?_)
  obtain ⟨rfl, Nq12, K12, O12⟩ := hQ12
  have N12 := Fr.app N11 Nq12
  have f_V_w := f_V_w.keep K12 (ninS (Ne.symm ne_y_w) nin0)
  have f_O_x := f_O_x.keep K12 (ninS ne_x_y nin0)
  have f_O_z := f_O_z.keep K12 (ninS (Ne.symm ne_y_z) nin0)
  have f_E_q := f_E_q.keep K12
  have f_F_q_heap := f_F_q_heap.keep K12 (ninS (Ne.symm ne_y_q) nin0)
  have f_F_q_size := f_F_q_size.keep K12 (ninS (Ne.symm ne_y_q) nin0)
  have Zn := Nat.le_trans Zn K12.1
  have Kp := Kp.trans K12 (allS (Or.inl (List.mem_of_getElem? (i := 2) rfl)) all0)
  show own_End p e below _ (T12.setTop (mkF m 42 _ []))
  refine own_iloadN X12 hx hby d13_42 (pc' := 43) rfl rfl ?_
  refine own_aloadN X12 hx hby d13_43 (pc' := 44) rfl rfl rfl ?_
  refine own_getF X12 hx hZ hby hown (host := "") (Or.inl (wd_36 hw)) Via.refl rfl f_F_q_size d13_44 (pc' := 47) rfl (fun T13 X13 e13 => ?_)
  refine own_icN X13 hx hby d13_47 (pc' := 50) rfl (show (1 : Int32) < (2 : Int32) by decide) ?_
  refine own_aloadN X13 hx hby d13_50 (pc' := 51) rfl rfl rfl ?_
  refine own_iloadN X13 hx hby d13_51 (pc' := 52) rfl rfl ?_
  refine own_aloadN X13 hx hby d13_52 (pc' := 53) rfl rfl rfl ?_
  have f_O_q : own_TQ Z T12.heap q (.ref w) (2 : Int32) := ⟨f_E_q, f_F_q_heap, f_F_q_size⟩
  refine own_lk3 hw X13 hx hZ hby (by rw [hml]; rfl) hown d13_53 (pc' := 56) rfl e13 f_O_q.1 (W := 0) (Nat.le_of_eq rfl) (rmD3 l Z a0 hw [] q w kk z dz sz x dx sx (.ref y) rfl T12.heap n0 Zn f_O_q f_V_w ho f_O_z f_O_x ge_w ge_z (Ne.symm ne_x_z)) (by decide) (by decide) (by decide) (by decide) (fun v14 T14 L14 X14 hQ14 => ?_)
  obtain ⟨rfl, Nq14, K14, V14, Ot14⟩ := hQ14
  have N14 := Fr.app N12 Nq14
  have f_O_x := f_O_x.keep K14 (ninS ne_x_w (ninS ne_x_z nin0))
  have O12 := O12.keep K14 (ninS ne_y_w (ninS ne_y_z nin0))
  have f_O_q := f_O_q.keep K14 (ninS (Ne.symm ne_w_q) (ninS (Ne.symm ne_z_q) nin0))
  have Zn := Nat.le_trans Zn K14.1
  have Kp := Kp.trans K14 (allS (Or.inl (List.mem_of_getElem? (i := 1) rfl)) (allS (Or.inl (List.mem_of_getElem? (i := 3) rfl)) all0))
  show own_End p e below _ (T14.setTop (mkF m 56 _ []))
  refine own_aloadN X14 hx hby d13_56 (pc' := 57) rfl rfl rfl ?_
  obtain ⟨f_E_q, f_F_q_heap, f_F_q_size⟩ := f_O_q
  refine own_getF X14 hx hZ hby hown (host := "") (Or.inl (wd_11 hw)) Via.refl rfl f_F_q_heap d13_57 (pc' := 60) rfl (fun T15 X15 e15 => ?_)
  refine own_iloadN X15 hx hby d13_60 (pc' := 61) rfl rfl ?_
  obtain ⟨cl16, Ar16, q16, S16, M16, H16, G16⟩ := id V14
  have hin16 : ¬ ((1 : Int32) < 0 ∨ cl16.slots.size ≤ ((1 : Int32)).toNatClampNeg) := inb_of S16 ⟨by decide, by decide⟩
  have hat16 : cl16.slots[((1 : Int32)).toNatClampNeg]? = some (.ref z) := H16.at hin16 rfl
  refine own_aaload X15 hx hZ hby e15 Ar16 rfl hin16 hat16 d13_61 (pc' := 62) rfl ?_
  refine own_aloadN X15 hx hby d13_62 (pc' := 63) rfl rfl rfl ?_
  refine own_acmp X15 hx hby d13_63 rfl rfl (same := true) (decide_eq_true rfl) (by decide) (pc' := 66) (by decide) ?_
  refine own_aloadN X15 hx hby d13_66 (pc' := 67) rfl rfl rfl ?_
  refine own_iloadN X15 hx hby d13_67 (pc' := 68) rfl rfl ?_
  refine own_aloadN X15 hx hby d13_68 (pc' := 69) rfl rfl rfl ?_
  have f_O_q : own_TQ Z T14.heap q (.ref w) (2 : Int32) := ⟨f_E_q, f_F_q_heap, f_F_q_size⟩
  refine own_lk4 hw X15 hx hZ hby (by rw [hml]; rfl) hown d13_69 (pc' := 72) rfl e15 f_O_q.1 (W := 0) (Nat.le_of_eq rfl) (rmU1r0 l Z a0 hw [] q w kk x dx sx z dz sz T14.heap n0 Zn f_O_q V14 ho f_O_x Ot14 ge_w ge_z ne_x_z hz) (by decide) (by decide) (by decide) (by decide) (fun v17 T17 L17 X17 hQ17 => ?_)
  obtain ⟨rfl, Nq17, K17, V17, Ot17⟩ := hQ17
  have N17 := Fr.app N14 Nq17
  have f_O_x := f_O_x.keep K17 (ninS ne_x_w (ninS ne_x_z nin0))
  have O12 := O12.keep K17 (ninS ne_y_w (ninS ne_y_z nin0))
  have f_O_q := f_O_q.keep K17 (ninS (Ne.symm ne_w_q) (ninS (Ne.symm ne_z_q) nin0))
  have Zn := Nat.le_trans Zn K17.1
  have Kp := Kp.trans K17 (allS (Or.inl (List.mem_of_getElem? (i := 1) rfl)) (allS (Or.inl (List.mem_of_getElem? (i := 3) rfl)) all0))
  show own_End p e below _ (T17.setTop (mkF m 72 _ []))
  refine own_return X17 hx hlk hby hret d13_72 (own_lv ?_ (by decide) (by decide))
  show QR3c Z q w kk x dx sx y dy sy z dz sz  h0 n0 none T17.heap _
  exact ⟨rfl, N17, Kp, f_O_q, V17, O12, Ot17⟩
theorem own_ef_rmR3d (m : MethodId) (q : Addr)  : entryFrame m #[(.ref q), (.int (1 : Int32))] 4 = mkF m 0 #[.val (.ref q), .val (.int (1 : Int32)), .unset, .unset] [] := by first | (simp [entryFrame, mkF, argsToLocals, Value.category]; done) | rfl
def QR3d (Z : State) (q : Addr) (w : Addr) (kk : ClassId) (x : Addr) (dx : Int64) (sx : Int64) (y : Addr) (dy : Int64) (sy : Int64) (z : Addr) (dz : Int64) (sz : Int64) (h0 : Heap) (n0 : Nat) (v : Option Value) (h : Heap) (L : List Loc) : Prop := v = none ∧ Fr n0 L ∧ Keep h0 h [q, w, x, y, z] ∧ own_TQ Z h q (.ref w) (2 : Int32) ∧ Arv Z h w kk (.object "com/example/earnest_reactor/earnestreactor/core/ScheduledTask") (16 : Int32) [(.ref z), (.ref x), .null] .null ∧ own_TK Z h x .null dx sx .null (1 : Int32) ∧ own_TK Z h y .null dy sy .null (-1 : Int32) ∧ own_TK Z h z .null dz sz .null (0 : Int32)
set_option maxRecDepth 65536 in
set_option maxHeartbeats 40000000 in
theorem rmR3d (l : Launch) (Z : State) (a0 : Array Value) (hw : ∀ d ∈ tables_1, d.before a0 Z = true) (ws : List Jvm.Cond) (q : Addr) (w : Addr) (kk : ClassId) (x : Addr) (dx : Int64) (sx : Int64) (y : Addr) (dy : Int64) (sy : Int64) (z : Addr) (dz : Int64) (sz : Int64) (h0 : Heap) (n0 : Nat) (Z0 : n0 ≤ h0.size) (f_O_q : own_TQ Z h0 q (.ref w) (3 : Int32)) (f_V_w : Arv Z h0 w kk (.object "com/example/earnest_reactor/earnestreactor/core/ScheduledTask") (16 : Int32) [(.ref x), (.ref y), (.ref z)] .null) (ho : Ovr Z kk "com/example/earnest_reactor/earnestreactor/core/ScheduledTask") (f_O_x : own_TK Z h0 x .null dx sx .null (0 : Int32)) (f_O_y : own_TK Z h0 y .null dy sy .null (1 : Int32)) (f_O_z : own_TK Z h0 z .null dz sz .null (2 : Int32)) (ge_q : n0 ≤ q) (ge_w : n0 ≤ w) (ge_x : n0 ≤ x) (ge_y : n0 ≤ y) (ge_z : n0 ≤ z) (ne_x_y : x ≠ y) (ne_x_z : x ≠ z) (ne_y_z : y ≠ z) (hz : own_rb dz sz dx sx = (1 : Int32)) :
    MetFree l (⟨"com/example/earnest_reactor/earnestreactor/core/TimerQueue", "removeAt", "(I)V"⟩ : MethodName) (head1 (Jvm.Cond.code (⟨"com/example/earnest_reactor/earnestreactor/core/TimerQueue", "removeAt", "(I)V"⟩ : MethodName) prog_35_method_7_code 4 none :: ws) ({ frames := 3, cells := 0, slots := 0, locals := 44 } : Room)) (fun aa U => aa = #[(.ref q), (.int (1 : Int32))] ∧ Z.Warmed39 U.vm ∧ U.heap = h0) (fun _ _ _ _ _ => True) (fun _ U oc U' => ∃ v L, oc = .returned v ∧ QR3d Z q w kk x dx sx y dy sy z dz sz h0 n0 v U'.heap L ∧ FrameEnd U oc U' L ({ frames := 3, cells := 0, slots := 0, locals := 44 } : Room).cells ({ frames := 3, cells := 0, slots := 0, locals := 44 } : Room).slots) := by
  refine MetFree.of_bodySF (plainFor_of_name own_pn1) hisR ?_
  intro p e s m args below meth c s₁ Bd hml0 hP hK
  obtain ⟨rfl, hZ, hh⟩ := hP
  have hx := Bd.exec
  have hby := Bd.bytes
  have hlk := Bd.notSynchronized
  have hret := Bd.returns
  have hml : c.maxLocals = 4 := hml0
  have hown : s.vm.findClass "com/example/earnest_reactor/earnestreactor/core/TimerQueue" = some m.cls := findClass_of_methodNamed Bd.named
  have hnm := (name_of_methodNamed Bd.named Bd.method).1
  have X0 : Stand p l e ({ frames := 3, cells := 0, slots := 0, locals := 44 } : Room) s m #[(.ref q), (.int (1 : Int32))] below meth c s₁ [] 0 0 := Stand.of_body Bd
  have e0 : s₁.heap = h0 := by rw [← hh, Bd.state]; rfl
  have N0 := Fr.nil n0
  refine own_body (Q := QR3d Z q w kk x dx sx y dy sy z dz sz h0 n0) (KC := ({ frames := 3, cells := 0, slots := 0, locals := 44 } : Room).cells) (KS := ({ frames := 3, cells := 0, slots := 0, locals := 44 } : Room).slots) ?_
  rw [own_ef_rmR3d m q]
  have Kp : Keep h0 h0 [q, w, x, y, z] := Keep.refl h0 _
  refine own_aloadN X0 hx hby d13_0 (pc' := 1) rfl rfl rfl ?_
  obtain ⟨f_E_q, f_F_q_heap, f_F_q_size⟩ := f_O_q
  refine own_getF X0 hx hZ hby hown (host := "") (Or.inl (wd_11 hw)) Via.refl e0 f_F_q_heap d13_1 (pc' := 4) rfl (fun T1 X1 e1 => ?_)
  refine own_iloadN X1 hx hby d13_4 (pc' := 5) rfl rfl ?_
  obtain ⟨cl2, Ar2, q2, S2, M2, H2, G2⟩ := id f_V_w
  have hin2 : ¬ ((1 : Int32) < 0 ∨ cl2.slots.size ≤ ((1 : Int32)).toNatClampNeg) := inb_of S2 ⟨by decide, by decide⟩
  have hat2 : cl2.slots[((1 : Int32)).toNatClampNeg]? = some (.ref y) := H2.at hin2 rfl
  refine own_aaload X1 hx hZ hby e1 Ar2 rfl hin2 hat2 d13_5 (pc' := 6) rfl ?_
  refine own_astoreN X1 hx hby d13_6 (pc' := 7) rfl rfl (l' := #[.val (.ref q), .val (.int (1 : Int32)), .val (.ref y), .unset]) rfl ?_
  refine own_aloadN X1 hx hby d13_7 (pc' := 8) rfl rfl rfl ?_
  refine own_dup X1 hx hby d13_8 (pc' := 9) rfl rfl ?_
  refine own_getF X1 hx hZ hby hown (host := "") (Or.inl (wd_36 hw)) Via.refl e1 f_F_q_size d13_9 (pc' := 12) rfl (fun T3 X3 e3 => ?_)
  refine own_iconst X3 hx hby d13_12 (pc' := 13) rfl (n := (1 : Int32)) (by decide) ?_
  refine own_isub X3 hx hby d13_13 (pc' := 14) rfl ?_
  show own_End p e below _ (T3.setTop (mkF m 14 #[.val (.ref q), .val (.int (1 : Int32)), .val (.ref y), .unset] [(.int (2 : Int32)), (.ref q)]))
  have ne_w_q : w ≠ q := Ne.symm (Exa.neArv f_E_q f_V_w (wd_1 hw))
  have ne_x_q : x ≠ q := Exa.ne f_O_x.1 f_E_q (by decide)
  have ne_y_q : y ≠ q := Exa.ne f_O_y.1 f_E_q (by decide)
  have ne_z_q : z ≠ q := Exa.ne f_O_z.1 f_E_q (by decide)
  refine own_putF X3 hx hZ hby hown (host := "") (Or.inl (wd_36 hw)) Via.refl e3 f_F_q_size f_E_q (Or.inl (wd_37 hw)) (wd_1 hw) (ty := .int) (by decide) rfl rfl d13_14 (pc' := 17) rfl (fun T4 h4 X4 e4 W4 => ?_)
  have f_F_q_size := f_F_q_size.same W4
  have f_V_w := f_V_w.other W4 ne_w_q
  have f_O_x := f_O_x.other W4 ne_x_q
  have f_O_y := f_O_y.other W4 ne_y_q
  have f_O_z := f_O_z.other W4 ne_z_q
  have f_E_q := f_E_q.wr W4
  have f_F_q_heap := f_F_q_heap.other W4 (Or.inr (slot_ne (Or.inl (wd_12 hw)) (Or.inl (wd_37 hw)) (by decide) (t := (.array (.object "com/example/earnest_reactor/earnestreactor/core/ScheduledTask"))) (t' := .int) (by decide) (by decide)))
  have Zn := Nat.le_trans Z0 (Keep.of_wr W4).1
  have Kp := Kp.wr W4 (Or.inl (List.mem_of_getElem? (i := 0) rfl))
  have N4 := Fr.snoc X4 N0 ge_q
  refine own_aloadN X4 hx hby d13_17 (pc' := 18) rfl rfl rfl ?_
  refine own_getF X4 hx hZ hby hown (host := "") (Or.inl (wd_11 hw)) Via.refl e4 f_F_q_heap d13_18 (pc' := 21) rfl (fun T5 X5 e5 => ?_)
  refine own_aloadN X5 hx hby d13_21 (pc' := 22) rfl rfl rfl ?_
  refine own_getF X5 hx hZ hby hown (host := "") (Or.inl (wd_36 hw)) Via.refl e5 f_F_q_size d13_22 (pc' := 25) rfl (fun T6 X6 e6 => ?_)
  obtain ⟨cl7, Ar7, q7, S7, M7, H7, G7⟩ := id f_V_w
  have hin7 : ¬ ((2 : Int32) < 0 ∨ cl7.slots.size ≤ ((2 : Int32)).toNatClampNeg) := inb_of S7 ⟨by decide, by decide⟩
  have hat7 : cl7.slots[((2 : Int32)).toNatClampNeg]? = some (.ref z) := H7.at hin7 rfl
  refine own_aaload X6 hx hZ hby e6 Ar7 rfl hin7 hat7 d13_25 (pc' := 26) rfl ?_
  refine own_astoreN X6 hx hby d13_26 (pc' := 27) rfl rfl (l' := #[.val (.ref q), .val (.int (1 : Int32)), .val (.ref y), .val (.ref z)]) rfl ?_
  refine own_aloadN X6 hx hby d13_27 (pc' := 28) rfl rfl rfl ?_
  refine own_getF X6 hx hZ hby hown (host := "") (Or.inl (wd_11 hw)) Via.refl e6 f_F_q_heap d13_28 (pc' := 31) rfl (fun T8 X8 e8 => ?_)
  refine own_aloadN X8 hx hby d13_31 (pc' := 32) rfl rfl rfl ?_
  refine own_getF X8 hx hZ hby hown (host := "") (Or.inl (wd_36 hw)) Via.refl e8 f_F_q_size d13_32 (pc' := 35) rfl (fun T9 X9 e9 => ?_)
  refine own_aconst_null X9 hx hby d13_35 (pc' := 36) rfl ?_
  have ne_x_w : x ≠ w := Exa.neArv f_O_x.1 f_V_w (wd_14 hw)
  have ne_y_w : y ≠ w := Exa.neArv f_O_y.1 f_V_w (wd_14 hw)
  have ne_z_w : z ≠ w := Exa.neArv f_O_z.1 f_V_w (wd_14 hw)
  obtain ⟨cl10, Ar10, q10, S10, M10, H10, G10⟩ := id f_V_w
  have hin10 : ¬ ((2 : Int32) < 0 ∨ cl10.slots.size ≤ ((2 : Int32)).toNatClampNeg) := inb_of S10 ⟨by decide, by decide⟩
  refine own_stR X9 hx hZ hby e9 Ar10 hin10 rfl (Or.inl rfl) d13_36 (pc' := 37) rfl (fun T11 h11 X11 e11 W11 => ?_)
  have f_V_w := Arv.set Ar10 q10 S10 M10 H10 G10 rfl W11 2 rfl (Nat.le_of_ble_eq_true rfl)
  have f_V_w : Arv Z h11 w kk (.object "com/example/earnest_reactor/earnestreactor/core/ScheduledTask") (16 : Int32) [(.ref x), (.ref y), .null] .null := f_V_w
  have f_O_x := f_O_x.other W11 ne_x_w
  have f_O_y := f_O_y.other W11 ne_y_w
  have f_O_z := f_O_z.other W11 ne_z_w
  have f_E_q := f_E_q.wr W11
  have f_F_q_heap := f_F_q_heap.other W11 (Or.inl (Ne.symm ne_w_q))
  have f_F_q_size := f_F_q_size.other W11 (Or.inl (Ne.symm ne_w_q))
  have Zn := Nat.le_trans Zn (Keep.of_wr W11).1
  have Kp := Kp.wr W11 (Or.inl (List.mem_of_getElem? (i := 1) rfl))
  have N11 := Fr.snoc X11 N4 ge_w
  refine own_aloadN X11 hx hby d13_37 (pc' := 38) rfl rfl rfl ?_
  refine own_iconst X11 hx hby d13_38 (pc' := 39) rfl (n := (-1 : Int32)) (by decide) ?_
  refine own_lk0 hw X11 hx hZ hby (by rw [hml]; rfl) hown d13_39 (pc' := 42) rfl e11 f_O_y.1 (W := 0) (Nat.le_of_eq rfl) (rmSQ l Z a0 hw [] y dy sy (1 : Int32) (-1 : Int32) h11 n0 Zn f_O_y ge_y) (by decide) (by decide) (by decide) (by decide) (fun v12 T12 L12 X12 hQ12 => ?_)
  obtain ⟨rfl, Nq12, K12, O12⟩ := hQ12
  have N12 := Fr.app N11 Nq12
  have f_V_w := f_V_w.keep K12 (ninS (Ne.symm ne_y_w) nin0)
  have f_O_x := f_O_x.keep K12 (ninS ne_x_y nin0)
  have f_O_z := f_O_z.keep K12 (ninS (Ne.symm ne_y_z) nin0)
  have f_E_q := f_E_q.keep K12
  have f_F_q_heap := f_F_q_heap.keep K12 (ninS (Ne.symm ne_y_q) nin0)
  have f_F_q_size := f_F_q_size.keep K12 (ninS (Ne.symm ne_y_q) nin0)
  have Zn := Nat.le_trans Zn K12.1
  have Kp := Kp.trans K12 (allS (Or.inl (List.mem_of_getElem? (i := 3) rfl)) all0)
  show own_End p e below _ (T12.setTop (mkF m 42 _ []))
  refine own_iloadN X12 hx hby d13_42 (pc' := 43) rfl rfl ?_
  refine own_aloadN X12 hx hby d13_43 (pc' := 44) rfl rfl rfl ?_
  refine own_getF X12 hx hZ hby hown (host := "") (Or.inl (wd_36 hw)) Via.refl rfl f_F_q_size d13_44 (pc' := 47) rfl (fun T13 X13 e13 => ?_)
  refine own_icN X13 hx hby d13_47 (pc' := 50) rfl (show (1 : Int32) < (2 : Int32) by decide) ?_
  refine own_aloadN X13 hx hby d13_50 (pc' := 51) rfl rfl rfl ?_
  refine own_iloadN X13 hx hby d13_51 (pc' := 52) rfl rfl ?_
  refine own_aloadN X13 hx hby d13_52 (pc' := 53) rfl rfl rfl ?_
  have f_O_q : own_TQ Z T12.heap q (.ref w) (2 : Int32) := ⟨f_E_q, f_F_q_heap, f_F_q_size⟩
  refine own_lk3 hw X13 hx hZ hby (by rw [hml]; rfl) hown d13_53 (pc' := 56) rfl e13 f_O_q.1 (W := 0) (Nat.le_of_eq rfl) (rmD3 l Z a0 hw [] q w kk z dz sz x dx sx (.ref y) rfl T12.heap n0 Zn f_O_q f_V_w ho f_O_z f_O_x ge_w ge_z (Ne.symm ne_x_z)) (by decide) (by decide) (by decide) (by decide) (fun v14 T14 L14 X14 hQ14 => ?_)
  obtain ⟨rfl, Nq14, K14, V14, Ot14⟩ := hQ14
  have N14 := Fr.app N12 Nq14
  have f_O_x := f_O_x.keep K14 (ninS ne_x_w (ninS ne_x_z nin0))
  have O12 := O12.keep K14 (ninS ne_y_w (ninS ne_y_z nin0))
  have f_O_q := f_O_q.keep K14 (ninS (Ne.symm ne_w_q) (ninS (Ne.symm ne_z_q) nin0))
  have Zn := Nat.le_trans Zn K14.1
  have Kp := Kp.trans K14 (allS (Or.inl (List.mem_of_getElem? (i := 1) rfl)) (allS (Or.inl (List.mem_of_getElem? (i := 4) rfl)) all0))
  show own_End p e below _ (T14.setTop (mkF m 56 _ []))
  refine own_aloadN X14 hx hby d13_56 (pc' := 57) rfl rfl rfl ?_
  obtain ⟨f_E_q, f_F_q_heap, f_F_q_size⟩ := f_O_q
  refine own_getF X14 hx hZ hby hown (host := "") (Or.inl (wd_11 hw)) Via.refl rfl f_F_q_heap d13_57 (pc' := 60) rfl (fun T15 X15 e15 => ?_)
  refine own_iloadN X15 hx hby d13_60 (pc' := 61) rfl rfl ?_
  obtain ⟨cl16, Ar16, q16, S16, M16, H16, G16⟩ := id V14
  have hin16 : ¬ ((1 : Int32) < 0 ∨ cl16.slots.size ≤ ((1 : Int32)).toNatClampNeg) := inb_of S16 ⟨by decide, by decide⟩
  have hat16 : cl16.slots[((1 : Int32)).toNatClampNeg]? = some (.ref z) := H16.at hin16 rfl
  refine own_aaload X15 hx hZ hby e15 Ar16 rfl hin16 hat16 d13_61 (pc' := 62) rfl ?_
  refine own_aloadN X15 hx hby d13_62 (pc' := 63) rfl rfl rfl ?_
  refine own_acmp X15 hx hby d13_63 rfl rfl (same := true) (decide_eq_true rfl) (by decide) (pc' := 66) (by decide) ?_
  refine own_aloadN X15 hx hby d13_66 (pc' := 67) rfl rfl rfl ?_
  refine own_iloadN X15 hx hby d13_67 (pc' := 68) rfl rfl ?_
  refine own_aloadN X15 hx hby d13_68 (pc' := 69) rfl rfl rfl ?_
  have f_O_q : own_TQ Z T14.heap q (.ref w) (2 : Int32) := ⟨f_E_q, f_F_q_heap, f_F_q_size⟩
  refine own_lk4 hw X15 hx hZ hby (by rw [hml]; rfl) hown d13_69 (pc' := 72) rfl e15 f_O_q.1 (W := 0) (Nat.le_of_eq rfl) (rmU1r1 l Z a0 hw [] q w kk x dx sx z dz sz T14.heap n0 Zn f_O_q V14 ho f_O_x Ot14 ge_w ge_x ge_z ne_x_z hz) (by decide) (by decide) (by decide) (by decide) (fun v17 T17 L17 X17 hQ17 => ?_)
  obtain ⟨rfl, Nq17, K17, V17, Ox17, Ot17⟩ := hQ17
  have N17 := Fr.app N14 Nq17
  have O12 := O12.keep K17 (ninS ne_y_w (ninS (Ne.symm ne_x_y) (ninS ne_y_z nin0)))
  have f_O_q := f_O_q.keep K17 (ninS (Ne.symm ne_w_q) (ninS (Ne.symm ne_x_q) (ninS (Ne.symm ne_z_q) nin0)))
  have Zn := Nat.le_trans Zn K17.1
  have Kp := Kp.trans K17 (allS (Or.inl (List.mem_of_getElem? (i := 1) rfl)) (allS (Or.inl (List.mem_of_getElem? (i := 2) rfl)) (allS (Or.inl (List.mem_of_getElem? (i := 4) rfl)) all0)))
  show own_End p e below _ (T17.setTop (mkF m 72 _ []))
  refine own_return X17 hx hlk hby hret d13_72 (own_lv ?_ (by decide) (by decide))
  show QR3d Z q w kk x dx sx y dy sy z dz sz  h0 n0 none T17.heap _
  exact ⟨rfl, N17, Kp, f_O_q, V17, Ox17, O12, Ot17⟩
theorem own_ef_rmP0 (m : MethodId) (q : Addr)  : entryFrame m #[(.ref q)] 2 = mkF m 0 #[.val (.ref q), .unset] [] := by first | (simp [entryFrame, mkF, argsToLocals, Value.category]; done) | rfl
def QP0 (Z : State) (q : Addr) (w : Addr) (kk : ClassId) (h0 : Heap) (n0 : Nat) (v : Option Value) (h : Heap) (L : List Loc) : Prop := v = some .null ∧ Fr n0 L ∧ h = h0
set_option maxRecDepth 65536 in
set_option maxHeartbeats 40000000 in
theorem rmP0 (l : Launch) (Z : State) (a0 : Array Value) (hw : ∀ d ∈ tables_1, d.before a0 Z = true) (ws : List Jvm.Cond) (q : Addr) (w : Addr) (kk : ClassId) (h0 : Heap) (n0 : Nat) (Z0 : n0 ≤ h0.size) (f_O_q : own_TQ Z h0 q (.ref w) (0 : Int32)) (f_V_w : Arv Z h0 w kk (.object "com/example/earnest_reactor/earnestreactor/core/ScheduledTask") (16 : Int32) [.null, .null, .null] .null) (ho : Ovr Z kk "com/example/earnest_reactor/earnestreactor/core/ScheduledTask") :
    MetFree l (⟨"com/example/earnest_reactor/earnestreactor/core/TimerQueue", "poll", "()Lcom/example/earnest_reactor/earnestreactor/core/ScheduledTask;"⟩ : MethodName) (head1 (Jvm.Cond.code (⟨"com/example/earnest_reactor/earnestreactor/core/TimerQueue", "poll", "()Lcom/example/earnest_reactor/earnestreactor/core/ScheduledTask;"⟩ : MethodName) prog_35_method_5_code 2 (some (.object "com/example/earnest_reactor/earnestreactor/core/ScheduledTask")) :: ws) ({ frames := 0, cells := 0, slots := 0, locals := 0 } : Room)) (fun aa U => aa = #[(.ref q)] ∧ Z.Warmed39 U.vm ∧ U.heap = h0) (fun _ _ _ _ _ => True) (fun _ U oc U' => ∃ v L, oc = .returned v ∧ QP0 Z q w kk h0 n0 v U'.heap L ∧ FrameEnd U oc U' L ({ frames := 0, cells := 0, slots := 0, locals := 0 } : Room).cells ({ frames := 0, cells := 0, slots := 0, locals := 0 } : Room).slots) := by
  refine MetFree.of_bodySF (plainFor_of_name own_pn1) hisR ?_
  intro p e s m args below meth c s₁ Bd hml0 hP hK
  obtain ⟨rfl, hZ, hh⟩ := hP
  have hx := Bd.exec
  have hby := Bd.bytes
  have hlk := Bd.notSynchronized
  have hret := Bd.returns
  have hml : c.maxLocals = 2 := hml0
  have hown : s.vm.findClass "com/example/earnest_reactor/earnestreactor/core/TimerQueue" = some m.cls := findClass_of_methodNamed Bd.named
  have hnm := (name_of_methodNamed Bd.named Bd.method).1
  have X0 : Stand p l e ({ frames := 0, cells := 0, slots := 0, locals := 0 } : Room) s m #[(.ref q)] below meth c s₁ [] 0 0 := Stand.of_body Bd
  have e0 : s₁.heap = h0 := by rw [← hh, Bd.state]; rfl
  have N0 := Fr.nil n0
  refine own_body (Q := QP0 Z q w kk h0 n0) (KC := ({ frames := 0, cells := 0, slots := 0, locals := 0 } : Room).cells) (KS := ({ frames := 0, cells := 0, slots := 0, locals := 0 } : Room).slots) ?_
  rw [own_ef_rmP0 m q]
  refine own_aloadN X0 hx hby d12_0 (pc' := 1) rfl rfl rfl ?_
  obtain ⟨f_E_q, f_F_q_heap, f_F_q_size⟩ := f_O_q
  refine own_getF X0 hx hZ hby hown (host := "") (Or.inl (wd_11 hw)) Via.refl e0 f_F_q_heap d12_1 (pc' := 4) rfl (fun T1 X1 e1 => ?_)
  refine own_iconst X1 hx hby d12_4 (pc' := 5) rfl (n := (0 : Int32)) (by decide) ?_
  obtain ⟨cl2, Ar2, q2, S2, M2, H2, G2⟩ := id f_V_w
  have hin2 : ¬ ((0 : Int32) < 0 ∨ cl2.slots.size ≤ ((0 : Int32)).toNatClampNeg) := inb_of S2 ⟨by decide, by decide⟩
  have hat2 : cl2.slots[((0 : Int32)).toNatClampNeg]? = some .null := H2.at hin2 rfl
  refine own_aaload X1 hx hZ hby e1 Ar2 rfl hin2 hat2 d12_5 (pc' := 6) rfl ?_
  refine own_astoreN X1 hx hby d12_6 (pc' := 7) rfl rfl (l' := #[.val (.ref q), .val .null]) rfl ?_
  refine own_aloadN X1 hx hby d12_7 (pc' := 8) rfl rfl rfl ?_
  refine own_ifnullY X1 hx hby d12_8 (pc' := 16) (by decide) (by decide) ?_
  refine own_aloadN X1 hx hby d12_16 (pc' := 17) rfl rfl rfl ?_
  refine own_areturn X1 hx hlk hby hret rfl rfl d12_17 (own_lv ?_ (by decide) (by decide))
  show QP0 Z q w kk  h0 n0 (some .null) T1.heap _
  rw [e1]
  exact ⟨rfl, N0, rfl⟩
theorem own_ef_rmP1 (m : MethodId) (q : Addr)  : entryFrame m #[(.ref q)] 2 = mkF m 0 #[.val (.ref q), .unset] [] := by first | (simp [entryFrame, mkF, argsToLocals, Value.category]; done) | rfl
def QP1 (Z : State) (q : Addr) (w : Addr) (kk : ClassId) (x : Addr) (dx : Int64) (sx : Int64) (h0 : Heap) (n0 : Nat) (v : Option Value) (h : Heap) (L : List Loc) : Prop := v = some (.ref x) ∧ Fr n0 L ∧ Keep h0 h [q, w, x] ∧ own_TQ Z h q (.ref w) (0 : Int32) ∧ Arv Z h w kk (.object "com/example/earnest_reactor/earnestreactor/core/ScheduledTask") (16 : Int32) [.null, .null, .null] .null ∧ own_TK Z h x .null dx sx .null (-1 : Int32)
set_option maxRecDepth 65536 in
set_option maxHeartbeats 40000000 in
theorem rmP1 (l : Launch) (Z : State) (a0 : Array Value) (hw : ∀ d ∈ tables_1, d.before a0 Z = true) (ws : List Jvm.Cond) (q : Addr) (w : Addr) (kk : ClassId) (x : Addr) (dx : Int64) (sx : Int64) (h0 : Heap) (n0 : Nat) (Z0 : n0 ≤ h0.size) (f_O_q : own_TQ Z h0 q (.ref w) (1 : Int32)) (f_V_w : Arv Z h0 w kk (.object "com/example/earnest_reactor/earnestreactor/core/ScheduledTask") (16 : Int32) [(.ref x), .null, .null] .null) (ho : Ovr Z kk "com/example/earnest_reactor/earnestreactor/core/ScheduledTask") (f_O_x : own_TK Z h0 x .null dx sx .null (0 : Int32)) (ge_q : n0 ≤ q) (ge_w : n0 ≤ w) (ge_x : n0 ≤ x) :
    MetFree l (⟨"com/example/earnest_reactor/earnestreactor/core/TimerQueue", "poll", "()Lcom/example/earnest_reactor/earnestreactor/core/ScheduledTask;"⟩ : MethodName) (head1 (Jvm.Cond.code (⟨"com/example/earnest_reactor/earnestreactor/core/TimerQueue", "poll", "()Lcom/example/earnest_reactor/earnestreactor/core/ScheduledTask;"⟩ : MethodName) prog_35_method_5_code 2 (some (.object "com/example/earnest_reactor/earnestreactor/core/ScheduledTask")) :: ws) ({ frames := 2, cells := 0, slots := 0, locals := 28 } : Room)) (fun aa U => aa = #[(.ref q)] ∧ Z.Warmed39 U.vm ∧ U.heap = h0) (fun _ _ _ _ _ => True) (fun _ U oc U' => ∃ v L, oc = .returned v ∧ QP1 Z q w kk x dx sx h0 n0 v U'.heap L ∧ FrameEnd U oc U' L ({ frames := 2, cells := 0, slots := 0, locals := 28 } : Room).cells ({ frames := 2, cells := 0, slots := 0, locals := 28 } : Room).slots) := by
  refine MetFree.of_bodySF (plainFor_of_name own_pn1) hisR ?_
  intro p e s m args below meth c s₁ Bd hml0 hP hK
  obtain ⟨rfl, hZ, hh⟩ := hP
  have hx := Bd.exec
  have hby := Bd.bytes
  have hlk := Bd.notSynchronized
  have hret := Bd.returns
  have hml : c.maxLocals = 2 := hml0
  have hown : s.vm.findClass "com/example/earnest_reactor/earnestreactor/core/TimerQueue" = some m.cls := findClass_of_methodNamed Bd.named
  have hnm := (name_of_methodNamed Bd.named Bd.method).1
  have X0 : Stand p l e ({ frames := 2, cells := 0, slots := 0, locals := 28 } : Room) s m #[(.ref q)] below meth c s₁ [] 0 0 := Stand.of_body Bd
  have e0 : s₁.heap = h0 := by rw [← hh, Bd.state]; rfl
  have N0 := Fr.nil n0
  refine own_body (Q := QP1 Z q w kk x dx sx h0 n0) (KC := ({ frames := 2, cells := 0, slots := 0, locals := 28 } : Room).cells) (KS := ({ frames := 2, cells := 0, slots := 0, locals := 28 } : Room).slots) ?_
  rw [own_ef_rmP1 m q]
  have Kp : Keep h0 h0 [q, w, x] := Keep.refl h0 _
  refine own_aloadN X0 hx hby d12_0 (pc' := 1) rfl rfl rfl ?_
  obtain ⟨f_E_q, f_F_q_heap, f_F_q_size⟩ := f_O_q
  refine own_getF X0 hx hZ hby hown (host := "") (Or.inl (wd_11 hw)) Via.refl e0 f_F_q_heap d12_1 (pc' := 4) rfl (fun T1 X1 e1 => ?_)
  refine own_iconst X1 hx hby d12_4 (pc' := 5) rfl (n := (0 : Int32)) (by decide) ?_
  obtain ⟨cl2, Ar2, q2, S2, M2, H2, G2⟩ := id f_V_w
  have hin2 : ¬ ((0 : Int32) < 0 ∨ cl2.slots.size ≤ ((0 : Int32)).toNatClampNeg) := inb_of S2 ⟨by decide, by decide⟩
  have hat2 : cl2.slots[((0 : Int32)).toNatClampNeg]? = some (.ref x) := H2.at hin2 rfl
  refine own_aaload X1 hx hZ hby e1 Ar2 rfl hin2 hat2 d12_5 (pc' := 6) rfl ?_
  refine own_astoreN X1 hx hby d12_6 (pc' := 7) rfl rfl (l' := #[.val (.ref q), .val (.ref x)]) rfl ?_
  refine own_aloadN X1 hx hby d12_7 (pc' := 8) rfl rfl rfl ?_
  refine own_ifnullN X1 hx hby d12_8 (pc' := 11) rfl ?_
  refine own_aloadN X1 hx hby d12_11 (pc' := 12) rfl rfl rfl ?_
  refine own_iconst X1 hx hby d12_12 (pc' := 13) rfl (n := (0 : Int32)) (by decide) ?_
  have f_O_q : own_TQ Z h0 q (.ref w) (1 : Int32) := ⟨f_E_q, f_F_q_heap, f_F_q_size⟩
  have ne_w_q : w ≠ q := Ne.symm (Exa.neArv f_O_q.1 f_V_w (wd_1 hw))
  have ne_w_x : w ≠ x := Ne.symm (Exa.neArv f_O_x.1 f_V_w (wd_14 hw))
  have ne_x_q : x ≠ q := Exa.ne f_O_x.1 f_O_q.1 (by decide)
  refine own_lk5 hw X1 hx hZ hby (by rw [hml]; rfl) hown d12_13 (pc' := 16) rfl e1 f_O_q.1 (W := 0) (Nat.le_of_eq rfl) (rmR1 l Z a0 hw [] q w kk x dx sx h0 n0 Z0 f_O_q f_V_w ho f_O_x ge_q ge_w ge_x) (by decide) (by decide) (by decide) (by decide) (fun v3 T3 L3 X3 hQ3 => ?_)
  obtain ⟨rfl, Nq3, K3, Oq3, V3, Ox3⟩ := hQ3
  have N3 := Fr.app N0 Nq3
  have Zn := Nat.le_trans Z0 K3.1
  have Kp := Kp.trans K3 (allS (Or.inl (List.mem_of_getElem? (i := 0) rfl)) (allS (Or.inl (List.mem_of_getElem? (i := 1) rfl)) (allS (Or.inl (List.mem_of_getElem? (i := 2) rfl)) all0)))
  show own_End p e below _ (T3.setTop (mkF m 16 _ []))
  refine own_aloadN X3 hx hby d12_16 (pc' := 17) rfl rfl rfl ?_
  refine own_areturn X3 hx hlk hby hret rfl rfl d12_17 (own_lv ?_ (by decide) (by decide))
  show QP1 Z q w kk x dx sx  h0 n0 (some (.ref x)) T3.heap _
  exact ⟨rfl, N3, Kp, Oq3, V3, Ox3⟩
theorem own_ef_rmP2 (m : MethodId) (q : Addr)  : entryFrame m #[(.ref q)] 2 = mkF m 0 #[.val (.ref q), .unset] [] := by first | (simp [entryFrame, mkF, argsToLocals, Value.category]; done) | rfl
def QP2 (Z : State) (q : Addr) (w : Addr) (kk : ClassId) (x : Addr) (dx : Int64) (sx : Int64) (y : Addr) (dy : Int64) (sy : Int64) (h0 : Heap) (n0 : Nat) (v : Option Value) (h : Heap) (L : List Loc) : Prop := v = some (.ref x) ∧ Fr n0 L ∧ Keep h0 h [q, w, x, y] ∧ own_TQ Z h q (.ref w) (1 : Int32) ∧ Arv Z h w kk (.object "com/example/earnest_reactor/earnestreactor/core/ScheduledTask") (16 : Int32) [(.ref y), .null, .null] .null ∧ own_TK Z h x .null dx sx .null (-1 : Int32) ∧ own_TK Z h y .null dy sy .null (0 : Int32)
set_option maxRecDepth 65536 in
set_option maxHeartbeats 40000000 in
theorem rmP2 (l : Launch) (Z : State) (a0 : Array Value) (hw : ∀ d ∈ tables_1, d.before a0 Z = true) (ws : List Jvm.Cond) (q : Addr) (w : Addr) (kk : ClassId) (x : Addr) (dx : Int64) (sx : Int64) (y : Addr) (dy : Int64) (sy : Int64) (h0 : Heap) (n0 : Nat) (Z0 : n0 ≤ h0.size) (f_O_q : own_TQ Z h0 q (.ref w) (2 : Int32)) (f_V_w : Arv Z h0 w kk (.object "com/example/earnest_reactor/earnestreactor/core/ScheduledTask") (16 : Int32) [(.ref x), (.ref y), .null] .null) (ho : Ovr Z kk "com/example/earnest_reactor/earnestreactor/core/ScheduledTask") (f_O_x : own_TK Z h0 x .null dx sx .null (0 : Int32)) (f_O_y : own_TK Z h0 y .null dy sy .null (1 : Int32)) (ge_q : n0 ≤ q) (ge_w : n0 ≤ w) (ge_x : n0 ≤ x) (ge_y : n0 ≤ y) (ne_x_y : x ≠ y) :
    MetFree l (⟨"com/example/earnest_reactor/earnestreactor/core/TimerQueue", "poll", "()Lcom/example/earnest_reactor/earnestreactor/core/ScheduledTask;"⟩ : MethodName) (head1 (Jvm.Cond.code (⟨"com/example/earnest_reactor/earnestreactor/core/TimerQueue", "poll", "()Lcom/example/earnest_reactor/earnestreactor/core/ScheduledTask;"⟩ : MethodName) prog_35_method_5_code 2 (some (.object "com/example/earnest_reactor/earnestreactor/core/ScheduledTask")) :: ws) ({ frames := 4, cells := 0, slots := 0, locals := 59 } : Room)) (fun aa U => aa = #[(.ref q)] ∧ Z.Warmed39 U.vm ∧ U.heap = h0) (fun _ _ _ _ _ => True) (fun _ U oc U' => ∃ v L, oc = .returned v ∧ QP2 Z q w kk x dx sx y dy sy h0 n0 v U'.heap L ∧ FrameEnd U oc U' L ({ frames := 4, cells := 0, slots := 0, locals := 59 } : Room).cells ({ frames := 4, cells := 0, slots := 0, locals := 59 } : Room).slots) := by
  refine MetFree.of_bodySF (plainFor_of_name own_pn1) hisR ?_
  intro p e s m args below meth c s₁ Bd hml0 hP hK
  obtain ⟨rfl, hZ, hh⟩ := hP
  have hx := Bd.exec
  have hby := Bd.bytes
  have hlk := Bd.notSynchronized
  have hret := Bd.returns
  have hml : c.maxLocals = 2 := hml0
  have hown : s.vm.findClass "com/example/earnest_reactor/earnestreactor/core/TimerQueue" = some m.cls := findClass_of_methodNamed Bd.named
  have hnm := (name_of_methodNamed Bd.named Bd.method).1
  have X0 : Stand p l e ({ frames := 4, cells := 0, slots := 0, locals := 59 } : Room) s m #[(.ref q)] below meth c s₁ [] 0 0 := Stand.of_body Bd
  have e0 : s₁.heap = h0 := by rw [← hh, Bd.state]; rfl
  have N0 := Fr.nil n0
  refine own_body (Q := QP2 Z q w kk x dx sx y dy sy h0 n0) (KC := ({ frames := 4, cells := 0, slots := 0, locals := 59 } : Room).cells) (KS := ({ frames := 4, cells := 0, slots := 0, locals := 59 } : Room).slots) ?_
  rw [own_ef_rmP2 m q]
  have Kp : Keep h0 h0 [q, w, x, y] := Keep.refl h0 _
  refine own_aloadN X0 hx hby d12_0 (pc' := 1) rfl rfl rfl ?_
  obtain ⟨f_E_q, f_F_q_heap, f_F_q_size⟩ := f_O_q
  refine own_getF X0 hx hZ hby hown (host := "") (Or.inl (wd_11 hw)) Via.refl e0 f_F_q_heap d12_1 (pc' := 4) rfl (fun T1 X1 e1 => ?_)
  refine own_iconst X1 hx hby d12_4 (pc' := 5) rfl (n := (0 : Int32)) (by decide) ?_
  obtain ⟨cl2, Ar2, q2, S2, M2, H2, G2⟩ := id f_V_w
  have hin2 : ¬ ((0 : Int32) < 0 ∨ cl2.slots.size ≤ ((0 : Int32)).toNatClampNeg) := inb_of S2 ⟨by decide, by decide⟩
  have hat2 : cl2.slots[((0 : Int32)).toNatClampNeg]? = some (.ref x) := H2.at hin2 rfl
  refine own_aaload X1 hx hZ hby e1 Ar2 rfl hin2 hat2 d12_5 (pc' := 6) rfl ?_
  refine own_astoreN X1 hx hby d12_6 (pc' := 7) rfl rfl (l' := #[.val (.ref q), .val (.ref x)]) rfl ?_
  refine own_aloadN X1 hx hby d12_7 (pc' := 8) rfl rfl rfl ?_
  refine own_ifnullN X1 hx hby d12_8 (pc' := 11) rfl ?_
  refine own_aloadN X1 hx hby d12_11 (pc' := 12) rfl rfl rfl ?_
  refine own_iconst X1 hx hby d12_12 (pc' := 13) rfl (n := (0 : Int32)) (by decide) ?_
  have f_O_q : own_TQ Z h0 q (.ref w) (2 : Int32) := ⟨f_E_q, f_F_q_heap, f_F_q_size⟩
  have ne_w_q : w ≠ q := Ne.symm (Exa.neArv f_O_q.1 f_V_w (wd_1 hw))
  have ne_w_x : w ≠ x := Ne.symm (Exa.neArv f_O_x.1 f_V_w (wd_14 hw))
  have ne_w_y : w ≠ y := Ne.symm (Exa.neArv f_O_y.1 f_V_w (wd_14 hw))
  have ne_x_q : x ≠ q := Exa.ne f_O_x.1 f_O_q.1 (by decide)
  have ne_y_q : y ≠ q := Exa.ne f_O_y.1 f_O_q.1 (by decide)
  refine own_lk5 hw X1 hx hZ hby (by rw [hml]; rfl) hown d12_13 (pc' := 16) rfl e1 f_O_q.1 (W := 0) (Nat.le_of_eq rfl) (rmR2 l Z a0 hw [] q w kk x dx sx y dy sy h0 n0 Z0 f_O_q f_V_w ho f_O_x f_O_y ge_q ge_w ge_x ge_y ne_x_y) (by decide) (by decide) (by decide) (by decide) (fun v3 T3 L3 X3 hQ3 => ?_)
  obtain ⟨rfl, Nq3, K3, Oq3, V3, Ox3, Oy3⟩ := hQ3
  have N3 := Fr.app N0 Nq3
  have Zn := Nat.le_trans Z0 K3.1
  have Kp := Kp.trans K3 (allS (Or.inl (List.mem_of_getElem? (i := 0) rfl)) (allS (Or.inl (List.mem_of_getElem? (i := 1) rfl)) (allS (Or.inl (List.mem_of_getElem? (i := 2) rfl)) (allS (Or.inl (List.mem_of_getElem? (i := 3) rfl)) all0))))
  show own_End p e below _ (T3.setTop (mkF m 16 _ []))
  refine own_aloadN X3 hx hby d12_16 (pc' := 17) rfl rfl rfl ?_
  refine own_areturn X3 hx hlk hby hret rfl rfl d12_17 (own_lv ?_ (by decide) (by decide))
  show QP2 Z q w kk x dx sx y dy sy  h0 n0 (some (.ref x)) T3.heap _
  exact ⟨rfl, N3, Kp, Oq3, V3, Ox3, Oy3⟩
theorem own_ef_rmP3a (m : MethodId) (q : Addr)  : entryFrame m #[(.ref q)] 2 = mkF m 0 #[.val (.ref q), .unset] [] := by first | (simp [entryFrame, mkF, argsToLocals, Value.category]; done) | rfl
def QP3a (Z : State) (q : Addr) (w : Addr) (kk : ClassId) (x : Addr) (dx : Int64) (sx : Int64) (y : Addr) (dy : Int64) (sy : Int64) (z : Addr) (dz : Int64) (sz : Int64) (h0 : Heap) (n0 : Nat) (v : Option Value) (h : Heap) (L : List Loc) : Prop := v = some (.ref x) ∧ Fr n0 L ∧ Keep h0 h [q, w, x, z] ∧ own_TQ Z h q (.ref w) (2 : Int32) ∧ Arv Z h w kk (.object "com/example/earnest_reactor/earnestreactor/core/ScheduledTask") (16 : Int32) [(.ref z), (.ref y), .null] .null ∧ own_TK Z h x .null dx sx .null (-1 : Int32) ∧ own_TK Z h z .null dz sz .null (0 : Int32)
set_option maxRecDepth 65536 in
set_option maxHeartbeats 40000000 in
theorem rmP3a (l : Launch) (Z : State) (a0 : Array Value) (hw : ∀ d ∈ tables_1, d.before a0 Z = true) (ws : List Jvm.Cond) (q : Addr) (w : Addr) (kk : ClassId) (x : Addr) (dx : Int64) (sx : Int64) (y : Addr) (dy : Int64) (sy : Int64) (z : Addr) (dz : Int64) (sz : Int64) (h0 : Heap) (n0 : Nat) (Z0 : n0 ≤ h0.size) (f_O_q : own_TQ Z h0 q (.ref w) (3 : Int32)) (f_V_w : Arv Z h0 w kk (.object "com/example/earnest_reactor/earnestreactor/core/ScheduledTask") (16 : Int32) [(.ref x), (.ref y), (.ref z)] .null) (ho : Ovr Z kk "com/example/earnest_reactor/earnestreactor/core/ScheduledTask") (f_O_x : own_TK Z h0 x .null dx sx .null (0 : Int32)) (f_O_y : own_TK Z h0 y .null dy sy .null (1 : Int32)) (f_O_z : own_TK Z h0 z .null dz sz .null (2 : Int32)) (ge_q : n0 ≤ q) (ge_w : n0 ≤ w) (ge_x : n0 ≤ x) (ge_z : n0 ≤ z) (ne_x_y : x ≠ y) (ne_x_z : x ≠ z) (ne_y_z : y ≠ z) (hz : own_rb dy sy dz sz = (0 : Int32)) :
    MetFree l (⟨"com/example/earnest_reactor/earnestreactor/core/TimerQueue", "poll", "()Lcom/example/earnest_reactor/earnestreactor/core/ScheduledTask;"⟩ : MethodName) (head1 (Jvm.Cond.code (⟨"com/example/earnest_reactor/earnestreactor/core/TimerQueue", "poll", "()Lcom/example/earnest_reactor/earnestreactor/core/ScheduledTask;"⟩ : MethodName) prog_35_method_5_code 2 (some (.object "com/example/earnest_reactor/earnestreactor/core/ScheduledTask")) :: ws) ({ frames := 4, cells := 0, slots := 0, locals := 59 } : Room)) (fun aa U => aa = #[(.ref q)] ∧ Z.Warmed39 U.vm ∧ U.heap = h0) (fun _ _ _ _ _ => True) (fun _ U oc U' => ∃ v L, oc = .returned v ∧ QP3a Z q w kk x dx sx y dy sy z dz sz h0 n0 v U'.heap L ∧ FrameEnd U oc U' L ({ frames := 4, cells := 0, slots := 0, locals := 59 } : Room).cells ({ frames := 4, cells := 0, slots := 0, locals := 59 } : Room).slots) := by
  refine MetFree.of_bodySF (plainFor_of_name own_pn1) hisR ?_
  intro p e s m args below meth c s₁ Bd hml0 hP hK
  obtain ⟨rfl, hZ, hh⟩ := hP
  have hx := Bd.exec
  have hby := Bd.bytes
  have hlk := Bd.notSynchronized
  have hret := Bd.returns
  have hml : c.maxLocals = 2 := hml0
  have hown : s.vm.findClass "com/example/earnest_reactor/earnestreactor/core/TimerQueue" = some m.cls := findClass_of_methodNamed Bd.named
  have hnm := (name_of_methodNamed Bd.named Bd.method).1
  have X0 : Stand p l e ({ frames := 4, cells := 0, slots := 0, locals := 59 } : Room) s m #[(.ref q)] below meth c s₁ [] 0 0 := Stand.of_body Bd
  have e0 : s₁.heap = h0 := by rw [← hh, Bd.state]; rfl
  have N0 := Fr.nil n0
  refine own_body (Q := QP3a Z q w kk x dx sx y dy sy z dz sz h0 n0) (KC := ({ frames := 4, cells := 0, slots := 0, locals := 59 } : Room).cells) (KS := ({ frames := 4, cells := 0, slots := 0, locals := 59 } : Room).slots) ?_
  rw [own_ef_rmP3a m q]
  have Kp : Keep h0 h0 [q, w, x, z] := Keep.refl h0 _
  refine own_aloadN X0 hx hby d12_0 (pc' := 1) rfl rfl rfl ?_
  obtain ⟨f_E_q, f_F_q_heap, f_F_q_size⟩ := f_O_q
  refine own_getF X0 hx hZ hby hown (host := "") (Or.inl (wd_11 hw)) Via.refl e0 f_F_q_heap d12_1 (pc' := 4) rfl (fun T1 X1 e1 => ?_)
  refine own_iconst X1 hx hby d12_4 (pc' := 5) rfl (n := (0 : Int32)) (by decide) ?_
  obtain ⟨cl2, Ar2, q2, S2, M2, H2, G2⟩ := id f_V_w
  have hin2 : ¬ ((0 : Int32) < 0 ∨ cl2.slots.size ≤ ((0 : Int32)).toNatClampNeg) := inb_of S2 ⟨by decide, by decide⟩
  have hat2 : cl2.slots[((0 : Int32)).toNatClampNeg]? = some (.ref x) := H2.at hin2 rfl
  refine own_aaload X1 hx hZ hby e1 Ar2 rfl hin2 hat2 d12_5 (pc' := 6) rfl ?_
  refine own_astoreN X1 hx hby d12_6 (pc' := 7) rfl rfl (l' := #[.val (.ref q), .val (.ref x)]) rfl ?_
  refine own_aloadN X1 hx hby d12_7 (pc' := 8) rfl rfl rfl ?_
  refine own_ifnullN X1 hx hby d12_8 (pc' := 11) rfl ?_
  refine own_aloadN X1 hx hby d12_11 (pc' := 12) rfl rfl rfl ?_
  refine own_iconst X1 hx hby d12_12 (pc' := 13) rfl (n := (0 : Int32)) (by decide) ?_
  have f_O_q : own_TQ Z h0 q (.ref w) (3 : Int32) := ⟨f_E_q, f_F_q_heap, f_F_q_size⟩
  have ne_w_q : w ≠ q := Ne.symm (Exa.neArv f_O_q.1 f_V_w (wd_1 hw))
  have ne_w_x : w ≠ x := Ne.symm (Exa.neArv f_O_x.1 f_V_w (wd_14 hw))
  have ne_w_z : w ≠ z := Ne.symm (Exa.neArv f_O_z.1 f_V_w (wd_14 hw))
  have ne_x_q : x ≠ q := Exa.ne f_O_x.1 f_O_q.1 (by decide)
  have ne_y_q : y ≠ q := Exa.ne f_O_y.1 f_O_q.1 (by decide)
  have ne_y_w : y ≠ w := Exa.neArv f_O_y.1 f_V_w (wd_14 hw)
  have ne_z_q : z ≠ q := Exa.ne f_O_z.1 f_O_q.1 (by decide)
  refine own_lk5 hw X1 hx hZ hby (by rw [hml]; rfl) hown d12_13 (pc' := 16) rfl e1 f_O_q.1 (W := 0) (Nat.le_of_eq rfl) (rmR3a l Z a0 hw [] q w kk x dx sx y dy sy z dz sz h0 n0 Z0 f_O_q f_V_w ho f_O_x f_O_y f_O_z ge_q ge_w ge_x ge_z ne_x_y ne_x_z ne_y_z hz) (by decide) (by decide) (by decide) (by decide) (fun v3 T3 L3 X3 hQ3 => ?_)
  obtain ⟨rfl, Nq3, K3, Oq3, V3, Ox3, Oz3⟩ := hQ3
  have N3 := Fr.app N0 Nq3
  have f_O_y := f_O_y.keep K3 (ninS ne_y_q (ninS ne_y_w (ninS (Ne.symm ne_x_y) (ninS ne_y_z nin0))))
  have Zn := Nat.le_trans Z0 K3.1
  have Kp := Kp.trans K3 (allS (Or.inl (List.mem_of_getElem? (i := 0) rfl)) (allS (Or.inl (List.mem_of_getElem? (i := 1) rfl)) (allS (Or.inl (List.mem_of_getElem? (i := 2) rfl)) (allS (Or.inl (List.mem_of_getElem? (i := 3) rfl)) all0))))
  show own_End p e below _ (T3.setTop (mkF m 16 _ []))
  refine own_aloadN X3 hx hby d12_16 (pc' := 17) rfl rfl rfl ?_
  refine own_areturn X3 hx hlk hby hret rfl rfl d12_17 (own_lv ?_ (by decide) (by decide))
  show QP3a Z q w kk x dx sx y dy sy z dz sz  h0 n0 (some (.ref x)) T3.heap _
  exact ⟨rfl, N3, Kp, Oq3, V3, Ox3, Oz3⟩
theorem own_ef_rmP3b (m : MethodId) (q : Addr)  : entryFrame m #[(.ref q)] 2 = mkF m 0 #[.val (.ref q), .unset] [] := by first | (simp [entryFrame, mkF, argsToLocals, Value.category]; done) | rfl
def QP3b (Z : State) (q : Addr) (w : Addr) (kk : ClassId) (x : Addr) (dx : Int64) (sx : Int64) (y : Addr) (dy : Int64) (sy : Int64) (z : Addr) (dz : Int64) (sz : Int64) (h0 : Heap) (n0 : Nat) (v : Option Value) (h : Heap) (L : List Loc) : Prop := v = some (.ref x) ∧ Fr n0 L ∧ Keep h0 h [q, w, x, y, z] ∧ own_TQ Z h q (.ref w) (2 : Int32) ∧ Arv Z h w kk (.object "com/example/earnest_reactor/earnestreactor/core/ScheduledTask") (16 : Int32) [(.ref y), (.ref z), .null] .null ∧ own_TK Z h x .null dx sx .null (-1 : Int32) ∧ own_TK Z h y .null dy sy .null (0 : Int32) ∧ own_TK Z h z .null dz sz .null (1 : Int32)
set_option maxRecDepth 65536 in
set_option maxHeartbeats 40000000 in
theorem rmP3b (l : Launch) (Z : State) (a0 : Array Value) (hw : ∀ d ∈ tables_1, d.before a0 Z = true) (ws : List Jvm.Cond) (q : Addr) (w : Addr) (kk : ClassId) (x : Addr) (dx : Int64) (sx : Int64) (y : Addr) (dy : Int64) (sy : Int64) (z : Addr) (dz : Int64) (sz : Int64) (h0 : Heap) (n0 : Nat) (Z0 : n0 ≤ h0.size) (f_O_q : own_TQ Z h0 q (.ref w) (3 : Int32)) (f_V_w : Arv Z h0 w kk (.object "com/example/earnest_reactor/earnestreactor/core/ScheduledTask") (16 : Int32) [(.ref x), (.ref y), (.ref z)] .null) (ho : Ovr Z kk "com/example/earnest_reactor/earnestreactor/core/ScheduledTask") (f_O_x : own_TK Z h0 x .null dx sx .null (0 : Int32)) (f_O_y : own_TK Z h0 y .null dy sy .null (1 : Int32)) (f_O_z : own_TK Z h0 z .null dz sz .null (2 : Int32)) (ge_q : n0 ≤ q) (ge_w : n0 ≤ w) (ge_x : n0 ≤ x) (ge_y : n0 ≤ y) (ge_z : n0 ≤ z) (ne_x_y : x ≠ y) (ne_x_z : x ≠ z) (ne_y_z : y ≠ z) (hz : own_rb dy sy dz sz = (1 : Int32)) :
    MetFree l (⟨"com/example/earnest_reactor/earnestreactor/core/TimerQueue", "poll", "()Lcom/example/earnest_reactor/earnestreactor/core/ScheduledTask;"⟩ : MethodName) (head1 (Jvm.Cond.code (⟨"com/example/earnest_reactor/earnestreactor/core/TimerQueue", "poll", "()Lcom/example/earnest_reactor/earnestreactor/core/ScheduledTask;"⟩ : MethodName) prog_35_method_5_code 2 (some (.object "com/example/earnest_reactor/earnestreactor/core/ScheduledTask")) :: ws) ({ frames := 4, cells := 0, slots := 0, locals := 59 } : Room)) (fun aa U => aa = #[(.ref q)] ∧ Z.Warmed39 U.vm ∧ U.heap = h0) (fun _ _ _ _ _ => True) (fun _ U oc U' => ∃ v L, oc = .returned v ∧ QP3b Z q w kk x dx sx y dy sy z dz sz h0 n0 v U'.heap L ∧ FrameEnd U oc U' L ({ frames := 4, cells := 0, slots := 0, locals := 59 } : Room).cells ({ frames := 4, cells := 0, slots := 0, locals := 59 } : Room).slots) := by
  refine MetFree.of_bodySF (plainFor_of_name own_pn1) hisR ?_
  intro p e s m args below meth c s₁ Bd hml0 hP hK
  obtain ⟨rfl, hZ, hh⟩ := hP
  have hx := Bd.exec
  have hby := Bd.bytes
  have hlk := Bd.notSynchronized
  have hret := Bd.returns
  have hml : c.maxLocals = 2 := hml0
  have hown : s.vm.findClass "com/example/earnest_reactor/earnestreactor/core/TimerQueue" = some m.cls := findClass_of_methodNamed Bd.named
  have hnm := (name_of_methodNamed Bd.named Bd.method).1
  have X0 : Stand p l e ({ frames := 4, cells := 0, slots := 0, locals := 59 } : Room) s m #[(.ref q)] below meth c s₁ [] 0 0 := Stand.of_body Bd
  have e0 : s₁.heap = h0 := by rw [← hh, Bd.state]; rfl
  have N0 := Fr.nil n0
  refine own_body (Q := QP3b Z q w kk x dx sx y dy sy z dz sz h0 n0) (KC := ({ frames := 4, cells := 0, slots := 0, locals := 59 } : Room).cells) (KS := ({ frames := 4, cells := 0, slots := 0, locals := 59 } : Room).slots) ?_
  rw [own_ef_rmP3b m q]
  have Kp : Keep h0 h0 [q, w, x, y, z] := Keep.refl h0 _
  refine own_aloadN X0 hx hby d12_0 (pc' := 1) rfl rfl rfl ?_
  obtain ⟨f_E_q, f_F_q_heap, f_F_q_size⟩ := f_O_q
  refine own_getF X0 hx hZ hby hown (host := "") (Or.inl (wd_11 hw)) Via.refl e0 f_F_q_heap d12_1 (pc' := 4) rfl (fun T1 X1 e1 => ?_)
  refine own_iconst X1 hx hby d12_4 (pc' := 5) rfl (n := (0 : Int32)) (by decide) ?_
  obtain ⟨cl2, Ar2, q2, S2, M2, H2, G2⟩ := id f_V_w
  have hin2 : ¬ ((0 : Int32) < 0 ∨ cl2.slots.size ≤ ((0 : Int32)).toNatClampNeg) := inb_of S2 ⟨by decide, by decide⟩
  have hat2 : cl2.slots[((0 : Int32)).toNatClampNeg]? = some (.ref x) := H2.at hin2 rfl
  refine own_aaload X1 hx hZ hby e1 Ar2 rfl hin2 hat2 d12_5 (pc' := 6) rfl ?_
  refine own_astoreN X1 hx hby d12_6 (pc' := 7) rfl rfl (l' := #[.val (.ref q), .val (.ref x)]) rfl ?_
  refine own_aloadN X1 hx hby d12_7 (pc' := 8) rfl rfl rfl ?_
  refine own_ifnullN X1 hx hby d12_8 (pc' := 11) rfl ?_
  refine own_aloadN X1 hx hby d12_11 (pc' := 12) rfl rfl rfl ?_
  refine own_iconst X1 hx hby d12_12 (pc' := 13) rfl (n := (0 : Int32)) (by decide) ?_
  have f_O_q : own_TQ Z h0 q (.ref w) (3 : Int32) := ⟨f_E_q, f_F_q_heap, f_F_q_size⟩
  have ne_w_q : w ≠ q := Ne.symm (Exa.neArv f_O_q.1 f_V_w (wd_1 hw))
  have ne_w_x : w ≠ x := Ne.symm (Exa.neArv f_O_x.1 f_V_w (wd_14 hw))
  have ne_w_y : w ≠ y := Ne.symm (Exa.neArv f_O_y.1 f_V_w (wd_14 hw))
  have ne_w_z : w ≠ z := Ne.symm (Exa.neArv f_O_z.1 f_V_w (wd_14 hw))
  have ne_x_q : x ≠ q := Exa.ne f_O_x.1 f_O_q.1 (by decide)
  have ne_y_q : y ≠ q := Exa.ne f_O_y.1 f_O_q.1 (by decide)
  have ne_z_q : z ≠ q := Exa.ne f_O_z.1 f_O_q.1 (by decide)
  refine own_lk5 hw X1 hx hZ hby (by rw [hml]; rfl) hown d12_13 (pc' := 16) rfl e1 f_O_q.1 (W := 0) (Nat.le_of_eq rfl) (rmR3b l Z a0 hw [] q w kk x dx sx y dy sy z dz sz h0 n0 Z0 f_O_q f_V_w ho f_O_x f_O_y f_O_z ge_q ge_w ge_x ge_y ge_z ne_x_y ne_x_z ne_y_z hz) (by decide) (by decide) (by decide) (by decide) (fun v3 T3 L3 X3 hQ3 => ?_)
  obtain ⟨rfl, Nq3, K3, Oq3, V3, Ox3, Oy3, Oz3⟩ := hQ3
  have N3 := Fr.app N0 Nq3
  have Zn := Nat.le_trans Z0 K3.1
  have Kp := Kp.trans K3 (allS (Or.inl (List.mem_of_getElem? (i := 0) rfl)) (allS (Or.inl (List.mem_of_getElem? (i := 1) rfl)) (allS (Or.inl (List.mem_of_getElem? (i := 2) rfl)) (allS (Or.inl (List.mem_of_getElem? (i := 3) rfl)) (allS (Or.inl (List.mem_of_getElem? (i := 4) rfl)) all0)))))
  show own_End p e below _ (T3.setTop (mkF m 16 _ []))
  refine own_aloadN X3 hx hby d12_16 (pc' := 17) rfl rfl rfl ?_
  refine own_areturn X3 hx hlk hby hret rfl rfl d12_17 (own_lv ?_ (by decide) (by decide))
  show QP3b Z q w kk x dx sx y dy sy z dz sz  h0 n0 (some (.ref x)) T3.heap _
  exact ⟨rfl, N3, Kp, Oq3, V3, Ox3, Oy3, Oz3⟩
theorem own_ef_rmA0 (m : MethodId) (q : Addr) (t : Addr)  : entryFrame m #[(.ref q), (.ref t)] 2 = mkF m 0 #[.val (.ref q), .val (.ref t)] [] := by first | (simp [entryFrame, mkF, argsToLocals, Value.category]; done) | rfl
def QA0 (Z : State) (q : Addr) (w : Addr) (kk : ClassId) (t : Addr) (dt : Int64) (st : Int64) (h0 : Heap) (n0 : Nat) (v : Option Value) (h : Heap) (L : List Loc) : Prop := v = none ∧ Fr n0 L ∧ Keep h0 h [q, w, t] ∧ own_TQ Z h q (.ref w) (1 : Int32) ∧ Arv Z h w kk (.object "com/example/earnest_reactor/earnestreactor/core/ScheduledTask") (16 : Int32) [(.ref t), .null, .null] .null ∧ own_TK Z h t .null dt st .null (0 : Int32)
set_option maxRecDepth 65536 in
set_option maxHeartbeats 40000000 in
theorem rmA0 (l : Launch) (Z : State) (a0 : Array Value) (hw : ∀ d ∈ tables_1, d.before a0 Z = true) (ws : List Jvm.Cond) (q : Addr) (w : Addr) (kk : ClassId) (t : Addr) (dt : Int64) (st : Int64) (h0 : Heap) (n0 : Nat) (Z0 : n0 ≤ h0.size) (f_O_q : own_TQ Z h0 q (.ref w) (0 : Int32)) (f_V_w : Arv Z h0 w kk (.object "com/example/earnest_reactor/earnestreactor/core/ScheduledTask") (16 : Int32) [.null, .null, .null] .null) (ho : Ovr Z kk "com/example/earnest_reactor/earnestreactor/core/ScheduledTask") (f_O_t : own_TK Z h0 t .null dt st .null (-1 : Int32)) (ge_q : n0 ≤ q) (ge_w : n0 ≤ w) (ge_t : n0 ≤ t) :
    MetFree l (⟨"com/example/earnest_reactor/earnestreactor/core/TimerQueue", "add", "(Lcom/example/earnest_reactor/earnestreactor/core/ScheduledTask;)V"⟩ : MethodName) (head1 (Jvm.Cond.code (⟨"com/example/earnest_reactor/earnestreactor/core/TimerQueue", "add", "(Lcom/example/earnest_reactor/earnestreactor/core/ScheduledTask;)V"⟩ : MethodName) prog_35_method_4_code 2 none :: ws) ({ frames := 3, cells := 0, slots := 0, locals := 43 } : Room)) (fun aa U => aa = #[(.ref q), (.ref t)] ∧ Z.Warmed39 U.vm ∧ U.heap = h0) (fun _ _ _ _ _ => True) (fun _ U oc U' => ∃ v L, oc = .returned v ∧ QA0 Z q w kk t dt st h0 n0 v U'.heap L ∧ FrameEnd U oc U' L ({ frames := 3, cells := 0, slots := 0, locals := 43 } : Room).cells ({ frames := 3, cells := 0, slots := 0, locals := 43 } : Room).slots) := by
  refine MetFree.of_bodySF (plainFor_of_name own_pn1) hisR ?_
  intro p e s m args below meth c s₁ Bd hml0 hP hK
  obtain ⟨rfl, hZ, hh⟩ := hP
  have hx := Bd.exec
  have hby := Bd.bytes
  have hlk := Bd.notSynchronized
  have hret := Bd.returns
  have hml : c.maxLocals = 2 := hml0
  have hown : s.vm.findClass "com/example/earnest_reactor/earnestreactor/core/TimerQueue" = some m.cls := findClass_of_methodNamed Bd.named
  have hnm := (name_of_methodNamed Bd.named Bd.method).1
  have X0 : Stand p l e ({ frames := 3, cells := 0, slots := 0, locals := 43 } : Room) s m #[(.ref q), (.ref t)] below meth c s₁ [] 0 0 := Stand.of_body Bd
  have e0 : s₁.heap = h0 := by rw [← hh, Bd.state]; rfl
  have N0 := Fr.nil n0
  refine own_body (Q := QA0 Z q w kk t dt st h0 n0) (KC := ({ frames := 3, cells := 0, slots := 0, locals := 43 } : Room).cells) (KS := ({ frames := 3, cells := 0, slots := 0, locals := 43 } : Room).slots) ?_
  rw [own_ef_rmA0 m q t]
  have Kp : Keep h0 h0 [q, w, t] := Keep.refl h0 _
  refine own_aloadN X0 hx hby d7_0 (pc' := 1) rfl rfl rfl ?_
  obtain ⟨f_E_q, f_F_q_heap, f_F_q_size⟩ := f_O_q
  refine own_getF X0 hx hZ hby hown (host := "") (Or.inl (wd_36 hw)) Via.refl e0 f_F_q_size d7_1 (pc' := 4) rfl (fun T1 X1 e1 => ?_)
  refine own_aloadN X1 hx hby d7_4 (pc' := 5) rfl rfl rfl ?_
  refine own_getF X1 hx hZ hby hown (host := "") (Or.inl (wd_11 hw)) Via.refl e1 f_F_q_heap d7_5 (pc' := 8) rfl (fun T2 X2 e2 => ?_)
  obtain ⟨cl3, Ar3, q3, S3, M3, H3, G3⟩ := id f_V_w
  refine own_alen X2 hx hZ hby e2 Ar3 S3 M3 d7_8 (pc' := 9) rfl ?_
  refine own_icY X2 hx hby d7_9 (pc' := 32) (by decide) (by decide) (show ¬ (0 : Int32) = (16 : Int32) by decide) ?_
  refine own_aloadN X2 hx hby d7_32 (pc' := 33) rfl rfl rfl ?_
  refine own_dup X2 hx hby d7_33 (pc' := 34) rfl rfl ?_
  refine own_getF X2 hx hZ hby hown (host := "") (Or.inl (wd_36 hw)) Via.refl e2 f_F_q_size d7_34 (pc' := 37) rfl (fun T4 X4 e4 => ?_)
  refine own_iconst X4 hx hby d7_37 (pc' := 38) rfl (n := (1 : Int32)) (by decide) ?_
  refine own_iadd X4 hx hby d7_38 (pc' := 39) rfl ?_
  show own_End p e below _ (T4.setTop (mkF m 39 #[.val (.ref q), .val (.ref t)] [(.int (1 : Int32)), (.ref q)]))
  have ne_w_q : w ≠ q := Ne.symm (Exa.neArv f_E_q f_V_w (wd_1 hw))
  have ne_t_q : t ≠ q := Exa.ne f_O_t.1 f_E_q (by decide)
  refine own_putF X4 hx hZ hby hown (host := "") (Or.inl (wd_36 hw)) Via.refl e4 f_F_q_size f_E_q (Or.inl (wd_37 hw)) (wd_1 hw) (ty := .int) (by decide) rfl rfl d7_39 (pc' := 42) rfl (fun T5 h5 X5 e5 W5 => ?_)
  have f_F_q_size := f_F_q_size.same W5
  have f_V_w := f_V_w.other W5 ne_w_q
  have f_O_t := f_O_t.other W5 ne_t_q
  have f_E_q := f_E_q.wr W5
  have f_F_q_heap := f_F_q_heap.other W5 (Or.inr (slot_ne (Or.inl (wd_12 hw)) (Or.inl (wd_37 hw)) (by decide) (t := (.array (.object "com/example/earnest_reactor/earnestreactor/core/ScheduledTask"))) (t' := .int) (by decide) (by decide)))
  have Zn := Nat.le_trans Z0 (Keep.of_wr W5).1
  have Kp := Kp.wr W5 (Or.inl (List.mem_of_getElem? (i := 0) rfl))
  have N5 := Fr.snoc X5 N0 ge_q
  refine own_aloadN X5 hx hby d7_42 (pc' := 43) rfl rfl rfl ?_
  refine own_aloadN X5 hx hby d7_43 (pc' := 44) rfl rfl rfl ?_
  refine own_getF X5 hx hZ hby hown (host := "") (Or.inl (wd_36 hw)) Via.refl e5 f_F_q_size d7_44 (pc' := 47) rfl (fun T6 X6 e6 => ?_)
  refine own_iconst X6 hx hby d7_47 (pc' := 48) rfl (n := (1 : Int32)) (by decide) ?_
  refine own_isub X6 hx hby d7_48 (pc' := 49) rfl ?_
  show own_End p e below _ (T6.setTop (mkF m 49 #[.val (.ref q), .val (.ref t)] [(.int (0 : Int32)), (.ref q)]))
  refine own_aloadN X6 hx hby d7_49 (pc' := 50) rfl rfl rfl ?_
  have f_O_q : own_TQ Z h5 q (.ref w) (1 : Int32) := ⟨f_E_q, f_F_q_heap, f_F_q_size⟩
  have ne_w_t : w ≠ t := Ne.symm (Exa.neArv f_O_t.1 f_V_w (wd_14 hw))
  refine own_lk4 hw X6 hx hZ hby (by rw [hml]; rfl) hown d7_50 (pc' := 53) rfl e6 f_O_q.1 (W := 0) (Nat.le_of_eq rfl) (rmU0 l Z a0 hw [] q w kk t dt st h5 n0 Zn f_O_q f_V_w ho f_O_t ge_w ge_t) (by decide) (by decide) (by decide) (by decide) (fun v7 T7 L7 X7 hQ7 => ?_)
  obtain ⟨rfl, Nq7, K7, V7, Ot7⟩ := hQ7
  have N7 := Fr.app N5 Nq7
  have f_O_q := f_O_q.keep K7 (ninS (Ne.symm ne_w_q) (ninS (Ne.symm ne_t_q) nin0))
  have Zn := Nat.le_trans Zn K7.1
  have Kp := Kp.trans K7 (allS (Or.inl (List.mem_of_getElem? (i := 1) rfl)) (allS (Or.inl (List.mem_of_getElem? (i := 2) rfl)) all0))
  show own_End p e below _ (T7.setTop (mkF m 53 _ []))
  refine own_return X7 hx hlk hby hret d7_53 (own_lv ?_ (by decide) (by decide))
  show QA0 Z q w kk t dt st  h0 n0 none T7.heap _
  exact ⟨rfl, N7, Kp, f_O_q, V7, Ot7⟩
theorem own_ef_rmA1a (m : MethodId) (q : Addr) (t : Addr)  : entryFrame m #[(.ref q), (.ref t)] 2 = mkF m 0 #[.val (.ref q), .val (.ref t)] [] := by first | (simp [entryFrame, mkF, argsToLocals, Value.category]; done) | rfl
def QA1a (Z : State) (q : Addr) (w : Addr) (kk : ClassId) (x : Addr) (dx : Int64) (sx : Int64) (t : Addr) (dt : Int64) (st : Int64) (h0 : Heap) (n0 : Nat) (v : Option Value) (h : Heap) (L : List Loc) : Prop := v = none ∧ Fr n0 L ∧ Keep h0 h [q, w, t] ∧ own_TQ Z h q (.ref w) (2 : Int32) ∧ Arv Z h w kk (.object "com/example/earnest_reactor/earnestreactor/core/ScheduledTask") (16 : Int32) [(.ref x), (.ref t), .null] .null ∧ own_TK Z h t .null dt st .null (1 : Int32)
set_option maxRecDepth 65536 in
set_option maxHeartbeats 40000000 in
theorem rmA1a (l : Launch) (Z : State) (a0 : Array Value) (hw : ∀ d ∈ tables_1, d.before a0 Z = true) (ws : List Jvm.Cond) (q : Addr) (w : Addr) (kk : ClassId) (x : Addr) (dx : Int64) (sx : Int64) (t : Addr) (dt : Int64) (st : Int64) (h0 : Heap) (n0 : Nat) (Z0 : n0 ≤ h0.size) (f_O_q : own_TQ Z h0 q (.ref w) (1 : Int32)) (f_V_w : Arv Z h0 w kk (.object "com/example/earnest_reactor/earnestreactor/core/ScheduledTask") (16 : Int32) [(.ref x), .null, .null] .null) (ho : Ovr Z kk "com/example/earnest_reactor/earnestreactor/core/ScheduledTask") (f_O_x : own_TK Z h0 x .null dx sx .null (0 : Int32)) (f_O_t : own_TK Z h0 t .null dt st .null (-1 : Int32)) (ge_q : n0 ≤ q) (ge_w : n0 ≤ w) (ge_t : n0 ≤ t) (ne_x_t : x ≠ t) (hz : own_rb dt st dx sx = (0 : Int32)) :
    MetFree l (⟨"com/example/earnest_reactor/earnestreactor/core/TimerQueue", "add", "(Lcom/example/earnest_reactor/earnestreactor/core/ScheduledTask;)V"⟩ : MethodName) (head1 (Jvm.Cond.code (⟨"com/example/earnest_reactor/earnestreactor/core/TimerQueue", "add", "(Lcom/example/earnest_reactor/earnestreactor/core/ScheduledTask;)V"⟩ : MethodName) prog_35_method_4_code 2 none :: ws) ({ frames := 3, cells := 0, slots := 0, locals := 43 } : Room)) (fun aa U => aa = #[(.ref q), (.ref t)] ∧ Z.Warmed39 U.vm ∧ U.heap = h0) (fun _ _ _ _ _ => True) (fun _ U oc U' => ∃ v L, oc = .returned v ∧ QA1a Z q w kk x dx sx t dt st h0 n0 v U'.heap L ∧ FrameEnd U oc U' L ({ frames := 3, cells := 0, slots := 0, locals := 43 } : Room).cells ({ frames := 3, cells := 0, slots := 0, locals := 43 } : Room).slots) := by
  refine MetFree.of_bodySF (plainFor_of_name own_pn1) hisR ?_
  intro p e s m args below meth c s₁ Bd hml0 hP hK
  obtain ⟨rfl, hZ, hh⟩ := hP
  have hx := Bd.exec
  have hby := Bd.bytes
  have hlk := Bd.notSynchronized
  have hret := Bd.returns
  have hml : c.maxLocals = 2 := hml0
  have hown : s.vm.findClass "com/example/earnest_reactor/earnestreactor/core/TimerQueue" = some m.cls := findClass_of_methodNamed Bd.named
  have hnm := (name_of_methodNamed Bd.named Bd.method).1
  have X0 : Stand p l e ({ frames := 3, cells := 0, slots := 0, locals := 43 } : Room) s m #[(.ref q), (.ref t)] below meth c s₁ [] 0 0 := Stand.of_body Bd
  have e0 : s₁.heap = h0 := by rw [← hh, Bd.state]; rfl
  have N0 := Fr.nil n0
  refine own_body (Q := QA1a Z q w kk x dx sx t dt st h0 n0) (KC := ({ frames := 3, cells := 0, slots := 0, locals := 43 } : Room).cells) (KS := ({ frames := 3, cells := 0, slots := 0, locals := 43 } : Room).slots) ?_
  rw [own_ef_rmA1a m q t]
  have Kp : Keep h0 h0 [q, w, t] := Keep.refl h0 _
  refine own_aloadN X0 hx hby d7_0 (pc' := 1) rfl rfl rfl ?_
  obtain ⟨f_E_q, f_F_q_heap, f_F_q_size⟩ := f_O_q
  refine own_getF X0 hx hZ hby hown (host := "") (Or.inl (wd_36 hw)) Via.refl e0 f_F_q_size d7_1 (pc' := 4) rfl (fun T1 X1 e1 => ?_)
  refine own_aloadN X1 hx hby d7_4 (pc' := 5) rfl rfl rfl ?_
  refine own_getF X1 hx hZ hby hown (host := "") (Or.inl (wd_11 hw)) Via.refl e1 f_F_q_heap d7_5 (pc' := 8) rfl (fun T2 X2 e2 => ?_)
  obtain ⟨cl3, Ar3, q3, S3, M3, H3, G3⟩ := id f_V_w
  refine own_alen X2 hx hZ hby e2 Ar3 S3 M3 d7_8 (pc' := 9) rfl ?_
  refine own_icY X2 hx hby d7_9 (pc' := 32) (by decide) (by decide) (show ¬ (1 : Int32) = (16 : Int32) by decide) ?_
  refine own_aloadN X2 hx hby d7_32 (pc' := 33) rfl rfl rfl ?_
  refine own_dup X2 hx hby d7_33 (pc' := 34) rfl rfl ?_
  refine own_getF X2 hx hZ hby hown (host := "") (Or.inl (wd_36 hw)) Via.refl e2 f_F_q_size d7_34 (pc' := 37) rfl (fun T4 X4 e4 => ?_)
  refine own_iconst X4 hx hby d7_37 (pc' := 38) rfl (n := (1 : Int32)) (by decide) ?_
  refine own_iadd X4 hx hby d7_38 (pc' := 39) rfl ?_
  show own_End p e below _ (T4.setTop (mkF m 39 #[.val (.ref q), .val (.ref t)] [(.int (2 : Int32)), (.ref q)]))
  have ne_w_q : w ≠ q := Ne.symm (Exa.neArv f_E_q f_V_w (wd_1 hw))
  have ne_x_q : x ≠ q := Exa.ne f_O_x.1 f_E_q (by decide)
  have ne_t_q : t ≠ q := Exa.ne f_O_t.1 f_E_q (by decide)
  refine own_putF X4 hx hZ hby hown (host := "") (Or.inl (wd_36 hw)) Via.refl e4 f_F_q_size f_E_q (Or.inl (wd_37 hw)) (wd_1 hw) (ty := .int) (by decide) rfl rfl d7_39 (pc' := 42) rfl (fun T5 h5 X5 e5 W5 => ?_)
  have f_F_q_size := f_F_q_size.same W5
  have f_V_w := f_V_w.other W5 ne_w_q
  have f_O_x := f_O_x.other W5 ne_x_q
  have f_O_t := f_O_t.other W5 ne_t_q
  have f_E_q := f_E_q.wr W5
  have f_F_q_heap := f_F_q_heap.other W5 (Or.inr (slot_ne (Or.inl (wd_12 hw)) (Or.inl (wd_37 hw)) (by decide) (t := (.array (.object "com/example/earnest_reactor/earnestreactor/core/ScheduledTask"))) (t' := .int) (by decide) (by decide)))
  have Zn := Nat.le_trans Z0 (Keep.of_wr W5).1
  have Kp := Kp.wr W5 (Or.inl (List.mem_of_getElem? (i := 0) rfl))
  have N5 := Fr.snoc X5 N0 ge_q
  refine own_aloadN X5 hx hby d7_42 (pc' := 43) rfl rfl rfl ?_
  refine own_aloadN X5 hx hby d7_43 (pc' := 44) rfl rfl rfl ?_
  refine own_getF X5 hx hZ hby hown (host := "") (Or.inl (wd_36 hw)) Via.refl e5 f_F_q_size d7_44 (pc' := 47) rfl (fun T6 X6 e6 => ?_)
  refine own_iconst X6 hx hby d7_47 (pc' := 48) rfl (n := (1 : Int32)) (by decide) ?_
  refine own_isub X6 hx hby d7_48 (pc' := 49) rfl ?_
  show own_End p e below _ (T6.setTop (mkF m 49 #[.val (.ref q), .val (.ref t)] [(.int (1 : Int32)), (.ref q)]))
  refine own_aloadN X6 hx hby d7_49 (pc' := 50) rfl rfl rfl ?_
  have f_O_q : own_TQ Z h5 q (.ref w) (2 : Int32) := ⟨f_E_q, f_F_q_heap, f_F_q_size⟩
  have ne_w_t : w ≠ t := Ne.symm (Exa.neArv f_O_t.1 f_V_w (wd_14 hw))
  have ne_x_w : x ≠ w := Exa.neArv f_O_x.1 f_V_w (wd_14 hw)
  refine own_lk4 hw X6 hx hZ hby (by rw [hml]; rfl) hown d7_50 (pc' := 53) rfl e6 f_O_q.1 (W := 0) (Nat.le_of_eq rfl) (rmU1a l Z a0 hw [] q w kk x dx sx t dt st h5 n0 Zn f_O_q f_V_w ho f_O_x f_O_t ge_w ge_t ne_x_t hz) (by decide) (by decide) (by decide) (by decide) (fun v7 T7 L7 X7 hQ7 => ?_)
  obtain ⟨rfl, Nq7, K7, V7, Ot7⟩ := hQ7
  have N7 := Fr.app N5 Nq7
  have f_O_x := f_O_x.keep K7 (ninS ne_x_w (ninS ne_x_t nin0))
  have f_O_q := f_O_q.keep K7 (ninS (Ne.symm ne_w_q) (ninS (Ne.symm ne_t_q) nin0))
  have Zn := Nat.le_trans Zn K7.1
  have Kp := Kp.trans K7 (allS (Or.inl (List.mem_of_getElem? (i := 1) rfl)) (allS (Or.inl (List.mem_of_getElem? (i := 2) rfl)) all0))
  show own_End p e below _ (T7.setTop (mkF m 53 _ []))
  refine own_return X7 hx hlk hby hret d7_53 (own_lv ?_ (by decide) (by decide))
  show QA1a Z q w kk x dx sx t dt st  h0 n0 none T7.heap _
  exact ⟨rfl, N7, Kp, f_O_q, V7, Ot7⟩
theorem own_ef_rmA1b (m : MethodId) (q : Addr) (t : Addr)  : entryFrame m #[(.ref q), (.ref t)] 2 = mkF m 0 #[.val (.ref q), .val (.ref t)] [] := by first | (simp [entryFrame, mkF, argsToLocals, Value.category]; done) | rfl
def QA1b (Z : State) (q : Addr) (w : Addr) (kk : ClassId) (x : Addr) (dx : Int64) (sx : Int64) (t : Addr) (dt : Int64) (st : Int64) (h0 : Heap) (n0 : Nat) (v : Option Value) (h : Heap) (L : List Loc) : Prop := v = none ∧ Fr n0 L ∧ Keep h0 h [q, w, x, t] ∧ own_TQ Z h q (.ref w) (2 : Int32) ∧ Arv Z h w kk (.object "com/example/earnest_reactor/earnestreactor/core/ScheduledTask") (16 : Int32) [(.ref t), (.ref x), .null] .null ∧ own_TK Z h x .null dx sx .null (1 : Int32) ∧ own_TK Z h t .null dt st .null (0 : Int32)
set_option maxRecDepth 65536 in
set_option maxHeartbeats 40000000 in
theorem rmA1b (l : Launch) (Z : State) (a0 : Array Value) (hw : ∀ d ∈ tables_1, d.before a0 Z = true) (ws : List Jvm.Cond) (q : Addr) (w : Addr) (kk : ClassId) (x : Addr) (dx : Int64) (sx : Int64) (t : Addr) (dt : Int64) (st : Int64) (h0 : Heap) (n0 : Nat) (Z0 : n0 ≤ h0.size) (f_O_q : own_TQ Z h0 q (.ref w) (1 : Int32)) (f_V_w : Arv Z h0 w kk (.object "com/example/earnest_reactor/earnestreactor/core/ScheduledTask") (16 : Int32) [(.ref x), .null, .null] .null) (ho : Ovr Z kk "com/example/earnest_reactor/earnestreactor/core/ScheduledTask") (f_O_x : own_TK Z h0 x .null dx sx .null (0 : Int32)) (f_O_t : own_TK Z h0 t .null dt st .null (-1 : Int32)) (ge_q : n0 ≤ q) (ge_w : n0 ≤ w) (ge_x : n0 ≤ x) (ge_t : n0 ≤ t) (ne_x_t : x ≠ t) (hz : own_rb dt st dx sx = (1 : Int32)) :
    MetFree l (⟨"com/example/earnest_reactor/earnestreactor/core/TimerQueue", "add", "(Lcom/example/earnest_reactor/earnestreactor/core/ScheduledTask;)V"⟩ : MethodName) (head1 (Jvm.Cond.code (⟨"com/example/earnest_reactor/earnestreactor/core/TimerQueue", "add", "(Lcom/example/earnest_reactor/earnestreactor/core/ScheduledTask;)V"⟩ : MethodName) prog_35_method_4_code 2 none :: ws) ({ frames := 3, cells := 0, slots := 0, locals := 43 } : Room)) (fun aa U => aa = #[(.ref q), (.ref t)] ∧ Z.Warmed39 U.vm ∧ U.heap = h0) (fun _ _ _ _ _ => True) (fun _ U oc U' => ∃ v L, oc = .returned v ∧ QA1b Z q w kk x dx sx t dt st h0 n0 v U'.heap L ∧ FrameEnd U oc U' L ({ frames := 3, cells := 0, slots := 0, locals := 43 } : Room).cells ({ frames := 3, cells := 0, slots := 0, locals := 43 } : Room).slots) := by
  refine MetFree.of_bodySF (plainFor_of_name own_pn1) hisR ?_
  intro p e s m args below meth c s₁ Bd hml0 hP hK
  obtain ⟨rfl, hZ, hh⟩ := hP
  have hx := Bd.exec
  have hby := Bd.bytes
  have hlk := Bd.notSynchronized
  have hret := Bd.returns
  have hml : c.maxLocals = 2 := hml0
  have hown : s.vm.findClass "com/example/earnest_reactor/earnestreactor/core/TimerQueue" = some m.cls := findClass_of_methodNamed Bd.named
  have hnm := (name_of_methodNamed Bd.named Bd.method).1
  have X0 : Stand p l e ({ frames := 3, cells := 0, slots := 0, locals := 43 } : Room) s m #[(.ref q), (.ref t)] below meth c s₁ [] 0 0 := Stand.of_body Bd
  have e0 : s₁.heap = h0 := by rw [← hh, Bd.state]; rfl
  have N0 := Fr.nil n0
  refine own_body (Q := QA1b Z q w kk x dx sx t dt st h0 n0) (KC := ({ frames := 3, cells := 0, slots := 0, locals := 43 } : Room).cells) (KS := ({ frames := 3, cells := 0, slots := 0, locals := 43 } : Room).slots) ?_
  rw [own_ef_rmA1b m q t]
  have Kp : Keep h0 h0 [q, w, x, t] := Keep.refl h0 _
  refine own_aloadN X0 hx hby d7_0 (pc' := 1) rfl rfl rfl ?_
  obtain ⟨f_E_q, f_F_q_heap, f_F_q_size⟩ := f_O_q
  refine own_getF X0 hx hZ hby hown (host := "") (Or.inl (wd_36 hw)) Via.refl e0 f_F_q_size d7_1 (pc' := 4) rfl (fun T1 X1 e1 => ?_)
  refine own_aloadN X1 hx hby d7_4 (pc' := 5) rfl rfl rfl ?_
  refine own_getF X1 hx hZ hby hown (host := "") (Or.inl (wd_11 hw)) Via.refl e1 f_F_q_heap d7_5 (pc' := 8) rfl (fun T2 X2 e2 => ?_)
  obtain ⟨cl3, Ar3, q3, S3, M3, H3, G3⟩ := id f_V_w
  refine own_alen X2 hx hZ hby e2 Ar3 S3 M3 d7_8 (pc' := 9) rfl ?_
  refine own_icY X2 hx hby d7_9 (pc' := 32) (by decide) (by decide) (show ¬ (1 : Int32) = (16 : Int32) by decide) ?_
  refine own_aloadN X2 hx hby d7_32 (pc' := 33) rfl rfl rfl ?_
  refine own_dup X2 hx hby d7_33 (pc' := 34) rfl rfl ?_
  refine own_getF X2 hx hZ hby hown (host := "") (Or.inl (wd_36 hw)) Via.refl e2 f_F_q_size d7_34 (pc' := 37) rfl (fun T4 X4 e4 => ?_)
  refine own_iconst X4 hx hby d7_37 (pc' := 38) rfl (n := (1 : Int32)) (by decide) ?_
  refine own_iadd X4 hx hby d7_38 (pc' := 39) rfl ?_
  show own_End p e below _ (T4.setTop (mkF m 39 #[.val (.ref q), .val (.ref t)] [(.int (2 : Int32)), (.ref q)]))
  have ne_w_q : w ≠ q := Ne.symm (Exa.neArv f_E_q f_V_w (wd_1 hw))
  have ne_x_q : x ≠ q := Exa.ne f_O_x.1 f_E_q (by decide)
  have ne_t_q : t ≠ q := Exa.ne f_O_t.1 f_E_q (by decide)
  refine own_putF X4 hx hZ hby hown (host := "") (Or.inl (wd_36 hw)) Via.refl e4 f_F_q_size f_E_q (Or.inl (wd_37 hw)) (wd_1 hw) (ty := .int) (by decide) rfl rfl d7_39 (pc' := 42) rfl (fun T5 h5 X5 e5 W5 => ?_)
  have f_F_q_size := f_F_q_size.same W5
  have f_V_w := f_V_w.other W5 ne_w_q
  have f_O_x := f_O_x.other W5 ne_x_q
  have f_O_t := f_O_t.other W5 ne_t_q
  have f_E_q := f_E_q.wr W5
  have f_F_q_heap := f_F_q_heap.other W5 (Or.inr (slot_ne (Or.inl (wd_12 hw)) (Or.inl (wd_37 hw)) (by decide) (t := (.array (.object "com/example/earnest_reactor/earnestreactor/core/ScheduledTask"))) (t' := .int) (by decide) (by decide)))
  have Zn := Nat.le_trans Z0 (Keep.of_wr W5).1
  have Kp := Kp.wr W5 (Or.inl (List.mem_of_getElem? (i := 0) rfl))
  have N5 := Fr.snoc X5 N0 ge_q
  refine own_aloadN X5 hx hby d7_42 (pc' := 43) rfl rfl rfl ?_
  refine own_aloadN X5 hx hby d7_43 (pc' := 44) rfl rfl rfl ?_
  refine own_getF X5 hx hZ hby hown (host := "") (Or.inl (wd_36 hw)) Via.refl e5 f_F_q_size d7_44 (pc' := 47) rfl (fun T6 X6 e6 => ?_)
  refine own_iconst X6 hx hby d7_47 (pc' := 48) rfl (n := (1 : Int32)) (by decide) ?_
  refine own_isub X6 hx hby d7_48 (pc' := 49) rfl ?_
  show own_End p e below _ (T6.setTop (mkF m 49 #[.val (.ref q), .val (.ref t)] [(.int (1 : Int32)), (.ref q)]))
  refine own_aloadN X6 hx hby d7_49 (pc' := 50) rfl rfl rfl ?_
  have f_O_q : own_TQ Z h5 q (.ref w) (2 : Int32) := ⟨f_E_q, f_F_q_heap, f_F_q_size⟩
  have ne_w_x : w ≠ x := Ne.symm (Exa.neArv f_O_x.1 f_V_w (wd_14 hw))
  have ne_w_t : w ≠ t := Ne.symm (Exa.neArv f_O_t.1 f_V_w (wd_14 hw))
  refine own_lk4 hw X6 hx hZ hby (by rw [hml]; rfl) hown d7_50 (pc' := 53) rfl e6 f_O_q.1 (W := 0) (Nat.le_of_eq rfl) (rmU1b l Z a0 hw [] q w kk x dx sx t dt st h5 n0 Zn f_O_q f_V_w ho f_O_x f_O_t ge_w ge_x ge_t ne_x_t hz) (by decide) (by decide) (by decide) (by decide) (fun v7 T7 L7 X7 hQ7 => ?_)
  obtain ⟨rfl, Nq7, K7, V7, Ox7, Ot7⟩ := hQ7
  have N7 := Fr.app N5 Nq7
  have f_O_q := f_O_q.keep K7 (ninS (Ne.symm ne_w_q) (ninS (Ne.symm ne_x_q) (ninS (Ne.symm ne_t_q) nin0)))
  have Zn := Nat.le_trans Zn K7.1
  have Kp := Kp.trans K7 (allS (Or.inl (List.mem_of_getElem? (i := 1) rfl)) (allS (Or.inl (List.mem_of_getElem? (i := 2) rfl)) (allS (Or.inl (List.mem_of_getElem? (i := 3) rfl)) all0)))
  show own_End p e below _ (T7.setTop (mkF m 53 _ []))
  refine own_return X7 hx hlk hby hret d7_53 (own_lv ?_ (by decide) (by decide))
  show QA1b Z q w kk x dx sx t dt st  h0 n0 none T7.heap _
  exact ⟨rfl, N7, Kp, f_O_q, V7, Ox7, Ot7⟩
theorem own_ef_rmA2a (m : MethodId) (q : Addr) (t : Addr)  : entryFrame m #[(.ref q), (.ref t)] 2 = mkF m 0 #[.val (.ref q), .val (.ref t)] [] := by first | (simp [entryFrame, mkF, argsToLocals, Value.category]; done) | rfl
def QA2a (Z : State) (q : Addr) (w : Addr) (kk : ClassId) (x : Addr) (dx : Int64) (sx : Int64) (y : Addr) (dy : Int64) (sy : Int64) (t : Addr) (dt : Int64) (st : Int64) (h0 : Heap) (n0 : Nat) (v : Option Value) (h : Heap) (L : List Loc) : Prop := v = none ∧ Fr n0 L ∧ Keep h0 h [q, w, t] ∧ own_TQ Z h q (.ref w) (3 : Int32) ∧ Arv Z h w kk (.object "com/example/earnest_reactor/earnestreactor/core/ScheduledTask") (16 : Int32) [(.ref x), (.ref y), (.ref t)] .null ∧ own_TK Z h t .null dt st .null (2 : Int32)
set_option maxRecDepth 65536 in
set_option maxHeartbeats 40000000 in
theorem rmA2a (l : Launch) (Z : State) (a0 : Array Value) (hw : ∀ d ∈ tables_1, d.before a0 Z = true) (ws : List Jvm.Cond) (q : Addr) (w : Addr) (kk : ClassId) (x : Addr) (dx : Int64) (sx : Int64) (y : Addr) (dy : Int64) (sy : Int64) (t : Addr) (dt : Int64) (st : Int64) (h0 : Heap) (n0 : Nat) (Z0 : n0 ≤ h0.size) (f_O_q : own_TQ Z h0 q (.ref w) (2 : Int32)) (f_V_w : Arv Z h0 w kk (.object "com/example/earnest_reactor/earnestreactor/core/ScheduledTask") (16 : Int32) [(.ref x), (.ref y), .null] .null) (ho : Ovr Z kk "com/example/earnest_reactor/earnestreactor/core/ScheduledTask") (f_O_x : own_TK Z h0 x .null dx sx .null (0 : Int32)) (f_O_y : own_TK Z h0 y .null dy sy .null (1 : Int32)) (f_O_t : own_TK Z h0 t .null dt st .null (-1 : Int32)) (ge_q : n0 ≤ q) (ge_w : n0 ≤ w) (ge_t : n0 ≤ t) (ne_x_y : x ≠ y) (ne_x_t : x ≠ t) (ne_y_t : y ≠ t) (hz : own_rb dt st dx sx = (0 : Int32)) :
    MetFree l (⟨"com/example/earnest_reactor/earnestreactor/core/TimerQueue", "add", "(Lcom/example/earnest_reactor/earnestreactor/core/ScheduledTask;)V"⟩ : MethodName) (head1 (Jvm.Cond.code (⟨"com/example/earnest_reactor/earnestreactor/core/TimerQueue", "add", "(Lcom/example/earnest_reactor/earnestreactor/core/ScheduledTask;)V"⟩ : MethodName) prog_35_method_4_code 2 none :: ws) ({ frames := 3, cells := 0, slots := 0, locals := 43 } : Room)) (fun aa U => aa = #[(.ref q), (.ref t)] ∧ Z.Warmed39 U.vm ∧ U.heap = h0) (fun _ _ _ _ _ => True) (fun _ U oc U' => ∃ v L, oc = .returned v ∧ QA2a Z q w kk x dx sx y dy sy t dt st h0 n0 v U'.heap L ∧ FrameEnd U oc U' L ({ frames := 3, cells := 0, slots := 0, locals := 43 } : Room).cells ({ frames := 3, cells := 0, slots := 0, locals := 43 } : Room).slots) := by
  refine MetFree.of_bodySF (plainFor_of_name own_pn1) hisR ?_
  intro p e s m args below meth c s₁ Bd hml0 hP hK
  obtain ⟨rfl, hZ, hh⟩ := hP
  have hx := Bd.exec
  have hby := Bd.bytes
  have hlk := Bd.notSynchronized
  have hret := Bd.returns
  have hml : c.maxLocals = 2 := hml0
  have hown : s.vm.findClass "com/example/earnest_reactor/earnestreactor/core/TimerQueue" = some m.cls := findClass_of_methodNamed Bd.named
  have hnm := (name_of_methodNamed Bd.named Bd.method).1
  have X0 : Stand p l e ({ frames := 3, cells := 0, slots := 0, locals := 43 } : Room) s m #[(.ref q), (.ref t)] below meth c s₁ [] 0 0 := Stand.of_body Bd
  have e0 : s₁.heap = h0 := by rw [← hh, Bd.state]; rfl
  have N0 := Fr.nil n0
  refine own_body (Q := QA2a Z q w kk x dx sx y dy sy t dt st h0 n0) (KC := ({ frames := 3, cells := 0, slots := 0, locals := 43 } : Room).cells) (KS := ({ frames := 3, cells := 0, slots := 0, locals := 43 } : Room).slots) ?_
  rw [own_ef_rmA2a m q t]
  have Kp : Keep h0 h0 [q, w, t] := Keep.refl h0 _
  refine own_aloadN X0 hx hby d7_0 (pc' := 1) rfl rfl rfl ?_
  obtain ⟨f_E_q, f_F_q_heap, f_F_q_size⟩ := f_O_q
  refine own_getF X0 hx hZ hby hown (host := "") (Or.inl (wd_36 hw)) Via.refl e0 f_F_q_size d7_1 (pc' := 4) rfl (fun T1 X1 e1 => ?_)
  refine own_aloadN X1 hx hby d7_4 (pc' := 5) rfl rfl rfl ?_
  refine own_getF X1 hx hZ hby hown (host := "") (Or.inl (wd_11 hw)) Via.refl e1 f_F_q_heap d7_5 (pc' := 8) rfl (fun T2 X2 e2 => ?_)
  obtain ⟨cl3, Ar3, q3, S3, M3, H3, G3⟩ := id f_V_w
  refine own_alen X2 hx hZ hby e2 Ar3 S3 M3 d7_8 (pc' := 9) rfl ?_
  refine own_icY X2 hx hby d7_9 (pc' := 32) (by decide) (by decide) (show ¬ (2 : Int32) = (16 : Int32) by decide) ?_
  refine own_aloadN X2 hx hby d7_32 (pc' := 33) rfl rfl rfl ?_
  refine own_dup X2 hx hby d7_33 (pc' := 34) rfl rfl ?_
  refine own_getF X2 hx hZ hby hown (host := "") (Or.inl (wd_36 hw)) Via.refl e2 f_F_q_size d7_34 (pc' := 37) rfl (fun T4 X4 e4 => ?_)
  refine own_iconst X4 hx hby d7_37 (pc' := 38) rfl (n := (1 : Int32)) (by decide) ?_
  refine own_iadd X4 hx hby d7_38 (pc' := 39) rfl ?_
  show own_End p e below _ (T4.setTop (mkF m 39 #[.val (.ref q), .val (.ref t)] [(.int (3 : Int32)), (.ref q)]))
  have ne_w_q : w ≠ q := Ne.symm (Exa.neArv f_E_q f_V_w (wd_1 hw))
  have ne_x_q : x ≠ q := Exa.ne f_O_x.1 f_E_q (by decide)
  have ne_y_q : y ≠ q := Exa.ne f_O_y.1 f_E_q (by decide)
  have ne_t_q : t ≠ q := Exa.ne f_O_t.1 f_E_q (by decide)
  refine own_putF X4 hx hZ hby hown (host := "") (Or.inl (wd_36 hw)) Via.refl e4 f_F_q_size f_E_q (Or.inl (wd_37 hw)) (wd_1 hw) (ty := .int) (by decide) rfl rfl d7_39 (pc' := 42) rfl (fun T5 h5 X5 e5 W5 => ?_)
  have f_F_q_size := f_F_q_size.same W5
  have f_V_w := f_V_w.other W5 ne_w_q
  have f_O_x := f_O_x.other W5 ne_x_q
  have f_O_y := f_O_y.other W5 ne_y_q
  have f_O_t := f_O_t.other W5 ne_t_q
  have f_E_q := f_E_q.wr W5
  have f_F_q_heap := f_F_q_heap.other W5 (Or.inr (slot_ne (Or.inl (wd_12 hw)) (Or.inl (wd_37 hw)) (by decide) (t := (.array (.object "com/example/earnest_reactor/earnestreactor/core/ScheduledTask"))) (t' := .int) (by decide) (by decide)))
  have Zn := Nat.le_trans Z0 (Keep.of_wr W5).1
  have Kp := Kp.wr W5 (Or.inl (List.mem_of_getElem? (i := 0) rfl))
  have N5 := Fr.snoc X5 N0 ge_q
  refine own_aloadN X5 hx hby d7_42 (pc' := 43) rfl rfl rfl ?_
  refine own_aloadN X5 hx hby d7_43 (pc' := 44) rfl rfl rfl ?_
  refine own_getF X5 hx hZ hby hown (host := "") (Or.inl (wd_36 hw)) Via.refl e5 f_F_q_size d7_44 (pc' := 47) rfl (fun T6 X6 e6 => ?_)
  refine own_iconst X6 hx hby d7_47 (pc' := 48) rfl (n := (1 : Int32)) (by decide) ?_
  refine own_isub X6 hx hby d7_48 (pc' := 49) rfl ?_
  show own_End p e below _ (T6.setTop (mkF m 49 #[.val (.ref q), .val (.ref t)] [(.int (2 : Int32)), (.ref q)]))
  refine own_aloadN X6 hx hby d7_49 (pc' := 50) rfl rfl rfl ?_
  have f_O_q : own_TQ Z h5 q (.ref w) (3 : Int32) := ⟨f_E_q, f_F_q_heap, f_F_q_size⟩
  have ne_w_t : w ≠ t := Ne.symm (Exa.neArv f_O_t.1 f_V_w (wd_14 hw))
  have ne_x_w : x ≠ w := Exa.neArv f_O_x.1 f_V_w (wd_14 hw)
  have ne_y_w : y ≠ w := Exa.neArv f_O_y.1 f_V_w (wd_14 hw)
  refine own_lk4 hw X6 hx hZ hby (by rw [hml]; rfl) hown d7_50 (pc' := 53) rfl e6 f_O_q.1 (W := 0) (Nat.le_of_eq rfl) (rmU2a l Z a0 hw [] q w kk x dx sx y dy sy t dt st h5 n0 Zn f_O_q f_V_w ho f_O_x f_O_y f_O_t ge_w ge_t ne_x_y ne_x_t ne_y_t hz) (by decide) (by decide) (by decide) (by decide) (fun v7 T7 L7 X7 hQ7 => ?_)
  obtain ⟨rfl, Nq7, K7, V7, Ot7⟩ := hQ7
  have N7 := Fr.app N5 Nq7
  have f_O_x := f_O_x.keep K7 (ninS ne_x_w (ninS ne_x_t nin0))
  have f_O_y := f_O_y.keep K7 (ninS ne_y_w (ninS ne_y_t nin0))
  have f_O_q := f_O_q.keep K7 (ninS (Ne.symm ne_w_q) (ninS (Ne.symm ne_t_q) nin0))
  have Zn := Nat.le_trans Zn K7.1
  have Kp := Kp.trans K7 (allS (Or.inl (List.mem_of_getElem? (i := 1) rfl)) (allS (Or.inl (List.mem_of_getElem? (i := 2) rfl)) all0))
  show own_End p e below _ (T7.setTop (mkF m 53 _ []))
  refine own_return X7 hx hlk hby hret d7_53 (own_lv ?_ (by decide) (by decide))
  show QA2a Z q w kk x dx sx y dy sy t dt st  h0 n0 none T7.heap _
  exact ⟨rfl, N7, Kp, f_O_q, V7, Ot7⟩
theorem own_ef_rmA2b (m : MethodId) (q : Addr) (t : Addr)  : entryFrame m #[(.ref q), (.ref t)] 2 = mkF m 0 #[.val (.ref q), .val (.ref t)] [] := by first | (simp [entryFrame, mkF, argsToLocals, Value.category]; done) | rfl
def QA2b (Z : State) (q : Addr) (w : Addr) (kk : ClassId) (x : Addr) (dx : Int64) (sx : Int64) (y : Addr) (dy : Int64) (sy : Int64) (t : Addr) (dt : Int64) (st : Int64) (h0 : Heap) (n0 : Nat) (v : Option Value) (h : Heap) (L : List Loc) : Prop := v = none ∧ Fr n0 L ∧ Keep h0 h [q, w, x, t] ∧ own_TQ Z h q (.ref w) (3 : Int32) ∧ Arv Z h w kk (.object "com/example/earnest_reactor/earnestreactor/core/ScheduledTask") (16 : Int32) [(.ref t), (.ref y), (.ref x)] .null ∧ own_TK Z h x .null dx sx .null (2 : Int32) ∧ own_TK Z h t .null dt st .null (0 : Int32)
set_option maxRecDepth 65536 in
set_option maxHeartbeats 40000000 in
theorem rmA2b (l : Launch) (Z : State) (a0 : Array Value) (hw : ∀ d ∈ tables_1, d.before a0 Z = true) (ws : List Jvm.Cond) (q : Addr) (w : Addr) (kk : ClassId) (x : Addr) (dx : Int64) (sx : Int64) (y : Addr) (dy : Int64) (sy : Int64) (t : Addr) (dt : Int64) (st : Int64) (h0 : Heap) (n0 : Nat) (Z0 : n0 ≤ h0.size) (f_O_q : own_TQ Z h0 q (.ref w) (2 : Int32)) (f_V_w : Arv Z h0 w kk (.object "com/example/earnest_reactor/earnestreactor/core/ScheduledTask") (16 : Int32) [(.ref x), (.ref y), .null] .null) (ho : Ovr Z kk "com/example/earnest_reactor/earnestreactor/core/ScheduledTask") (f_O_x : own_TK Z h0 x .null dx sx .null (0 : Int32)) (f_O_y : own_TK Z h0 y .null dy sy .null (1 : Int32)) (f_O_t : own_TK Z h0 t .null dt st .null (-1 : Int32)) (ge_q : n0 ≤ q) (ge_w : n0 ≤ w) (ge_x : n0 ≤ x) (ge_t : n0 ≤ t) (ne_x_y : x ≠ y) (ne_x_t : x ≠ t) (ne_y_t : y ≠ t) (hz : own_rb dt st dx sx = (1 : Int32)) :
    MetFree l (⟨"com/example/earnest_reactor/earnestreactor/core/TimerQueue", "add", "(Lcom/example/earnest_reactor/earnestreactor/core/ScheduledTask;)V"⟩ : MethodName) (head1 (Jvm.Cond.code (⟨"com/example/earnest_reactor/earnestreactor/core/TimerQueue", "add", "(Lcom/example/earnest_reactor/earnestreactor/core/ScheduledTask;)V"⟩ : MethodName) prog_35_method_4_code 2 none :: ws) ({ frames := 3, cells := 0, slots := 0, locals := 43 } : Room)) (fun aa U => aa = #[(.ref q), (.ref t)] ∧ Z.Warmed39 U.vm ∧ U.heap = h0) (fun _ _ _ _ _ => True) (fun _ U oc U' => ∃ v L, oc = .returned v ∧ QA2b Z q w kk x dx sx y dy sy t dt st h0 n0 v U'.heap L ∧ FrameEnd U oc U' L ({ frames := 3, cells := 0, slots := 0, locals := 43 } : Room).cells ({ frames := 3, cells := 0, slots := 0, locals := 43 } : Room).slots) := by
  refine MetFree.of_bodySF (plainFor_of_name own_pn1) hisR ?_
  intro p e s m args below meth c s₁ Bd hml0 hP hK
  obtain ⟨rfl, hZ, hh⟩ := hP
  have hx := Bd.exec
  have hby := Bd.bytes
  have hlk := Bd.notSynchronized
  have hret := Bd.returns
  have hml : c.maxLocals = 2 := hml0
  have hown : s.vm.findClass "com/example/earnest_reactor/earnestreactor/core/TimerQueue" = some m.cls := findClass_of_methodNamed Bd.named
  have hnm := (name_of_methodNamed Bd.named Bd.method).1
  have X0 : Stand p l e ({ frames := 3, cells := 0, slots := 0, locals := 43 } : Room) s m #[(.ref q), (.ref t)] below meth c s₁ [] 0 0 := Stand.of_body Bd
  have e0 : s₁.heap = h0 := by rw [← hh, Bd.state]; rfl
  have N0 := Fr.nil n0
  refine own_body (Q := QA2b Z q w kk x dx sx y dy sy t dt st h0 n0) (KC := ({ frames := 3, cells := 0, slots := 0, locals := 43 } : Room).cells) (KS := ({ frames := 3, cells := 0, slots := 0, locals := 43 } : Room).slots) ?_
  rw [own_ef_rmA2b m q t]
  have Kp : Keep h0 h0 [q, w, x, t] := Keep.refl h0 _
  refine own_aloadN X0 hx hby d7_0 (pc' := 1) rfl rfl rfl ?_
  obtain ⟨f_E_q, f_F_q_heap, f_F_q_size⟩ := f_O_q
  refine own_getF X0 hx hZ hby hown (host := "") (Or.inl (wd_36 hw)) Via.refl e0 f_F_q_size d7_1 (pc' := 4) rfl (fun T1 X1 e1 => ?_)
  refine own_aloadN X1 hx hby d7_4 (pc' := 5) rfl rfl rfl ?_
  refine own_getF X1 hx hZ hby hown (host := "") (Or.inl (wd_11 hw)) Via.refl e1 f_F_q_heap d7_5 (pc' := 8) rfl (fun T2 X2 e2 => ?_)
  obtain ⟨cl3, Ar3, q3, S3, M3, H3, G3⟩ := id f_V_w
  refine own_alen X2 hx hZ hby e2 Ar3 S3 M3 d7_8 (pc' := 9) rfl ?_
  refine own_icY X2 hx hby d7_9 (pc' := 32) (by decide) (by decide) (show ¬ (2 : Int32) = (16 : Int32) by decide) ?_
  refine own_aloadN X2 hx hby d7_32 (pc' := 33) rfl rfl rfl ?_
  refine own_dup X2 hx hby d7_33 (pc' := 34) rfl rfl ?_
  refine own_getF X2 hx hZ hby hown (host := "") (Or.inl (wd_36 hw)) Via.refl e2 f_F_q_size d7_34 (pc' := 37) rfl (fun T4 X4 e4 => ?_)
  refine own_iconst X4 hx hby d7_37 (pc' := 38) rfl (n := (1 : Int32)) (by decide) ?_
  refine own_iadd X4 hx hby d7_38 (pc' := 39) rfl ?_
  show own_End p e below _ (T4.setTop (mkF m 39 #[.val (.ref q), .val (.ref t)] [(.int (3 : Int32)), (.ref q)]))
  have ne_w_q : w ≠ q := Ne.symm (Exa.neArv f_E_q f_V_w (wd_1 hw))
  have ne_x_q : x ≠ q := Exa.ne f_O_x.1 f_E_q (by decide)
  have ne_y_q : y ≠ q := Exa.ne f_O_y.1 f_E_q (by decide)
  have ne_t_q : t ≠ q := Exa.ne f_O_t.1 f_E_q (by decide)
  refine own_putF X4 hx hZ hby hown (host := "") (Or.inl (wd_36 hw)) Via.refl e4 f_F_q_size f_E_q (Or.inl (wd_37 hw)) (wd_1 hw) (ty := .int) (by decide) rfl rfl d7_39 (pc' := 42) rfl (fun T5 h5 X5 e5 W5 => ?_)
  have f_F_q_size := f_F_q_size.same W5
  have f_V_w := f_V_w.other W5 ne_w_q
  have f_O_x := f_O_x.other W5 ne_x_q
  have f_O_y := f_O_y.other W5 ne_y_q
  have f_O_t := f_O_t.other W5 ne_t_q
  have f_E_q := f_E_q.wr W5
  have f_F_q_heap := f_F_q_heap.other W5 (Or.inr (slot_ne (Or.inl (wd_12 hw)) (Or.inl (wd_37 hw)) (by decide) (t := (.array (.object "com/example/earnest_reactor/earnestreactor/core/ScheduledTask"))) (t' := .int) (by decide) (by decide)))
  have Zn := Nat.le_trans Z0 (Keep.of_wr W5).1
  have Kp := Kp.wr W5 (Or.inl (List.mem_of_getElem? (i := 0) rfl))
  have N5 := Fr.snoc X5 N0 ge_q
  refine own_aloadN X5 hx hby d7_42 (pc' := 43) rfl rfl rfl ?_
  refine own_aloadN X5 hx hby d7_43 (pc' := 44) rfl rfl rfl ?_
  refine own_getF X5 hx hZ hby hown (host := "") (Or.inl (wd_36 hw)) Via.refl e5 f_F_q_size d7_44 (pc' := 47) rfl (fun T6 X6 e6 => ?_)
  refine own_iconst X6 hx hby d7_47 (pc' := 48) rfl (n := (1 : Int32)) (by decide) ?_
  refine own_isub X6 hx hby d7_48 (pc' := 49) rfl ?_
  show own_End p e below _ (T6.setTop (mkF m 49 #[.val (.ref q), .val (.ref t)] [(.int (2 : Int32)), (.ref q)]))
  refine own_aloadN X6 hx hby d7_49 (pc' := 50) rfl rfl rfl ?_
  have f_O_q : own_TQ Z h5 q (.ref w) (3 : Int32) := ⟨f_E_q, f_F_q_heap, f_F_q_size⟩
  have ne_w_x : w ≠ x := Ne.symm (Exa.neArv f_O_x.1 f_V_w (wd_14 hw))
  have ne_w_t : w ≠ t := Ne.symm (Exa.neArv f_O_t.1 f_V_w (wd_14 hw))
  have ne_y_w : y ≠ w := Exa.neArv f_O_y.1 f_V_w (wd_14 hw)
  refine own_lk4 hw X6 hx hZ hby (by rw [hml]; rfl) hown d7_50 (pc' := 53) rfl e6 f_O_q.1 (W := 0) (Nat.le_of_eq rfl) (rmU2b l Z a0 hw [] q w kk x dx sx y dy sy t dt st h5 n0 Zn f_O_q f_V_w ho f_O_x f_O_y f_O_t ge_w ge_x ge_t ne_x_y ne_x_t ne_y_t hz) (by decide) (by decide) (by decide) (by decide) (fun v7 T7 L7 X7 hQ7 => ?_)
  obtain ⟨rfl, Nq7, K7, V7, Ox7, Ot7⟩ := hQ7
  have N7 := Fr.app N5 Nq7
  have f_O_y := f_O_y.keep K7 (ninS ne_y_w (ninS (Ne.symm ne_x_y) (ninS ne_y_t nin0)))
  have f_O_q := f_O_q.keep K7 (ninS (Ne.symm ne_w_q) (ninS (Ne.symm ne_x_q) (ninS (Ne.symm ne_t_q) nin0)))
  have Zn := Nat.le_trans Zn K7.1
  have Kp := Kp.trans K7 (allS (Or.inl (List.mem_of_getElem? (i := 1) rfl)) (allS (Or.inl (List.mem_of_getElem? (i := 2) rfl)) (allS (Or.inl (List.mem_of_getElem? (i := 3) rfl)) all0)))
  show own_End p e below _ (T7.setTop (mkF m 53 _ []))
  refine own_return X7 hx hlk hby hret d7_53 (own_lv ?_ (by decide) (by decide))
  show QA2b Z q w kk x dx sx y dy sy t dt st  h0 n0 none T7.heap _
  exact ⟨rfl, N7, Kp, f_O_q, V7, Ox7, Ot7⟩
theorem own_and3 (x : Int32) : x &&& 3 = 0 ∨ x &&& 3 = 1 ∨ x &&& 3 = 2 ∨ x &&& 3 = 3 := by
  have h := c_mask x 3 2 (by decide) (by decide)
  have e : ∀ k : Int32, (x &&& 3).toInt = k.toInt → x &&& 3 = k := fun k q => Int32.toInt_inj.mp q
  have h0 : (0 : Int32).toInt = 0 := rfl
  have h1 : (1 : Int32).toInt = 1 := rfl
  have h2 : (2 : Int32).toInt = 2 := rfl
  have h3 : (3 : Int32).toInt = 3 := rfl
  have : (x &&& 3).toInt = 0 ∨ (x &&& 3).toInt = 1 ∨ (x &&& 3).toInt = 2 ∨ (x &&& 3).toInt = 3 := by omega
  rcases this with q | q | q | q
  · exact Or.inl (e 0 q)
  · exact Or.inr (Or.inl (e 1 q))
  · exact Or.inr (Or.inr (Or.inl (e 2 q)))
  · exact Or.inr (Or.inr (Or.inr (e 3 q)))

theorem own_ef_rmE0 (m : MethodId) (q : Addr)  : entryFrame m #[(.ref q)] 1 = mkF m 0 #[.val (.ref q)] [] := by first | (simp [entryFrame, mkF, argsToLocals, Value.category]; done) | rfl
def QE0 (Z : State) (q : Addr) (w : Addr) (h0 : Heap) (n0 : Nat) (v : Option Value) (h : Heap) (L : List Loc) : Prop := v = some (.int 1) ∧ Fr n0 L ∧ h = h0
set_option maxRecDepth 65536 in
set_option maxHeartbeats 40000000 in
theorem rmE0 (l : Launch) (Z : State) (a0 : Array Value) (hw : ∀ d ∈ tables_1, d.before a0 Z = true) (ws : List Jvm.Cond) (q : Addr) (w : Addr) (h0 : Heap) (n0 : Nat) (Z0 : n0 ≤ h0.size) (f_O_q : own_TQ Z h0 q (.ref w) (0 : Int32)) :
    MetFree l (⟨"com/example/earnest_reactor/earnestreactor/core/TimerQueue", "isEmpty", "()Z"⟩ : MethodName) (head1 (Jvm.Cond.code (⟨"com/example/earnest_reactor/earnestreactor/core/TimerQueue", "isEmpty", "()Z"⟩ : MethodName) prog_35_method_2_code 1 (some .boolean) :: ws) ({ frames := 0, cells := 0, slots := 0, locals := 0 } : Room)) (fun aa U => aa = #[(.ref q)] ∧ Z.Warmed39 U.vm ∧ U.heap = h0) (fun _ _ _ _ _ => True) (fun _ U oc U' => ∃ v L, oc = .returned v ∧ QE0 Z q w h0 n0 v U'.heap L ∧ FrameEnd U oc U' L ({ frames := 0, cells := 0, slots := 0, locals := 0 } : Room).cells ({ frames := 0, cells := 0, slots := 0, locals := 0 } : Room).slots) := by
  refine MetFree.of_bodySF (plainFor_of_name own_pn1) hisR ?_
  intro p e s m args below meth c s₁ Bd hml0 hP hK
  obtain ⟨rfl, hZ, hh⟩ := hP
  have hx := Bd.exec
  have hby := Bd.bytes
  have hlk := Bd.notSynchronized
  have hret := Bd.returns
  have hml : c.maxLocals = 1 := hml0
  have hown : s.vm.findClass "com/example/earnest_reactor/earnestreactor/core/TimerQueue" = some m.cls := findClass_of_methodNamed Bd.named
  have hnm := (name_of_methodNamed Bd.named Bd.method).1
  have X0 : Stand p l e ({ frames := 0, cells := 0, slots := 0, locals := 0 } : Room) s m #[(.ref q)] below meth c s₁ [] 0 0 := Stand.of_body Bd
  have e0 : s₁.heap = h0 := by rw [← hh, Bd.state]; rfl
  have N0 := Fr.nil n0
  refine own_body (Q := QE0 Z q w h0 n0) (KC := ({ frames := 0, cells := 0, slots := 0, locals := 0 } : Room).cells) (KS := ({ frames := 0, cells := 0, slots := 0, locals := 0 } : Room).slots) ?_
  rw [own_ef_rmE0 m q]
  refine own_aloadN X0 hx hby d4_0 (pc' := 1) rfl rfl rfl ?_
  obtain ⟨f_E_q, f_F_q_heap, f_F_q_size⟩ := f_O_q
  refine own_getF X0 hx hZ hby hown (host := "") (Or.inl (wd_36 hw)) Via.refl e0 f_F_q_size d4_1 (pc' := 4) rfl (fun T1 X1 e1 => ?_)
  refine own_ifN X1 hx hby d4_4 (pc' := 7) rfl (show (0 : Int32) = (0 : Int32) by decide) ?_
  refine own_iconst X1 hx hby d4_7 (pc' := 8) rfl (n := (1 : Int32)) (by decide) ?_
  refine own_goto X1 hx hby d4_8 (pc' := 12) (by decide) (by decide) ?_
  refine own_zreturn X1 hx hlk hby hret (Or.inr rfl) d4_12 (own_lv ?_ (by decide) (by decide))
  show QE0 Z q w  h0 n0 (some (.int (1 : Int32))) T1.heap _
  rw [e1]
  exact ⟨rfl, N0, rfl⟩
theorem own_ef_rmE1 (m : MethodId) (q : Addr)  : entryFrame m #[(.ref q)] 1 = mkF m 0 #[.val (.ref q)] [] := by first | (simp [entryFrame, mkF, argsToLocals, Value.category]; done) | rfl
def QE1 (Z : State) (q : Addr) (w : Addr) (h0 : Heap) (n0 : Nat) (v : Option Value) (h : Heap) (L : List Loc) : Prop := v = some (.int 0) ∧ Fr n0 L ∧ h = h0
set_option maxRecDepth 65536 in
set_option maxHeartbeats 40000000 in
theorem rmE1 (l : Launch) (Z : State) (a0 : Array Value) (hw : ∀ d ∈ tables_1, d.before a0 Z = true) (ws : List Jvm.Cond) (q : Addr) (w : Addr) (h0 : Heap) (n0 : Nat) (Z0 : n0 ≤ h0.size) (f_O_q : own_TQ Z h0 q (.ref w) (1 : Int32)) :
    MetFree l (⟨"com/example/earnest_reactor/earnestreactor/core/TimerQueue", "isEmpty", "()Z"⟩ : MethodName) (head1 (Jvm.Cond.code (⟨"com/example/earnest_reactor/earnestreactor/core/TimerQueue", "isEmpty", "()Z"⟩ : MethodName) prog_35_method_2_code 1 (some .boolean) :: ws) ({ frames := 0, cells := 0, slots := 0, locals := 0 } : Room)) (fun aa U => aa = #[(.ref q)] ∧ Z.Warmed39 U.vm ∧ U.heap = h0) (fun _ _ _ _ _ => True) (fun _ U oc U' => ∃ v L, oc = .returned v ∧ QE1 Z q w h0 n0 v U'.heap L ∧ FrameEnd U oc U' L ({ frames := 0, cells := 0, slots := 0, locals := 0 } : Room).cells ({ frames := 0, cells := 0, slots := 0, locals := 0 } : Room).slots) := by
  refine MetFree.of_bodySF (plainFor_of_name own_pn1) hisR ?_
  intro p e s m args below meth c s₁ Bd hml0 hP hK
  obtain ⟨rfl, hZ, hh⟩ := hP
  have hx := Bd.exec
  have hby := Bd.bytes
  have hlk := Bd.notSynchronized
  have hret := Bd.returns
  have hml : c.maxLocals = 1 := hml0
  have hown : s.vm.findClass "com/example/earnest_reactor/earnestreactor/core/TimerQueue" = some m.cls := findClass_of_methodNamed Bd.named
  have hnm := (name_of_methodNamed Bd.named Bd.method).1
  have X0 : Stand p l e ({ frames := 0, cells := 0, slots := 0, locals := 0 } : Room) s m #[(.ref q)] below meth c s₁ [] 0 0 := Stand.of_body Bd
  have e0 : s₁.heap = h0 := by rw [← hh, Bd.state]; rfl
  have N0 := Fr.nil n0
  refine own_body (Q := QE1 Z q w h0 n0) (KC := ({ frames := 0, cells := 0, slots := 0, locals := 0 } : Room).cells) (KS := ({ frames := 0, cells := 0, slots := 0, locals := 0 } : Room).slots) ?_
  rw [own_ef_rmE1 m q]
  refine own_aloadN X0 hx hby d4_0 (pc' := 1) rfl rfl rfl ?_
  obtain ⟨f_E_q, f_F_q_heap, f_F_q_size⟩ := f_O_q
  refine own_getF X0 hx hZ hby hown (host := "") (Or.inl (wd_36 hw)) Via.refl e0 f_F_q_size d4_1 (pc' := 4) rfl (fun T1 X1 e1 => ?_)
  refine own_ifY X1 hx hby d4_4 (pc' := 11) (by decide) (by decide) (show ¬ (1 : Int32) = (0 : Int32) by decide) ?_
  refine own_iconst X1 hx hby d4_11 (pc' := 12) rfl (n := (0 : Int32)) (by decide) ?_
  refine own_zreturn X1 hx hlk hby hret (Or.inl rfl) d4_12 (own_lv ?_ (by decide) (by decide))
  show QE1 Z q w  h0 n0 (some (.int (0 : Int32))) T1.heap _
  rw [e1]
  exact ⟨rfl, N0, rfl⟩
theorem own_ef_rmE2 (m : MethodId) (q : Addr)  : entryFrame m #[(.ref q)] 1 = mkF m 0 #[.val (.ref q)] [] := by first | (simp [entryFrame, mkF, argsToLocals, Value.category]; done) | rfl
def QE2 (Z : State) (q : Addr) (w : Addr) (h0 : Heap) (n0 : Nat) (v : Option Value) (h : Heap) (L : List Loc) : Prop := v = some (.int 0) ∧ Fr n0 L ∧ h = h0
set_option maxRecDepth 65536 in
set_option maxHeartbeats 40000000 in
theorem rmE2 (l : Launch) (Z : State) (a0 : Array Value) (hw : ∀ d ∈ tables_1, d.before a0 Z = true) (ws : List Jvm.Cond) (q : Addr) (w : Addr) (h0 : Heap) (n0 : Nat) (Z0 : n0 ≤ h0.size) (f_O_q : own_TQ Z h0 q (.ref w) (2 : Int32)) :
    MetFree l (⟨"com/example/earnest_reactor/earnestreactor/core/TimerQueue", "isEmpty", "()Z"⟩ : MethodName) (head1 (Jvm.Cond.code (⟨"com/example/earnest_reactor/earnestreactor/core/TimerQueue", "isEmpty", "()Z"⟩ : MethodName) prog_35_method_2_code 1 (some .boolean) :: ws) ({ frames := 0, cells := 0, slots := 0, locals := 0 } : Room)) (fun aa U => aa = #[(.ref q)] ∧ Z.Warmed39 U.vm ∧ U.heap = h0) (fun _ _ _ _ _ => True) (fun _ U oc U' => ∃ v L, oc = .returned v ∧ QE2 Z q w h0 n0 v U'.heap L ∧ FrameEnd U oc U' L ({ frames := 0, cells := 0, slots := 0, locals := 0 } : Room).cells ({ frames := 0, cells := 0, slots := 0, locals := 0 } : Room).slots) := by
  refine MetFree.of_bodySF (plainFor_of_name own_pn1) hisR ?_
  intro p e s m args below meth c s₁ Bd hml0 hP hK
  obtain ⟨rfl, hZ, hh⟩ := hP
  have hx := Bd.exec
  have hby := Bd.bytes
  have hlk := Bd.notSynchronized
  have hret := Bd.returns
  have hml : c.maxLocals = 1 := hml0
  have hown : s.vm.findClass "com/example/earnest_reactor/earnestreactor/core/TimerQueue" = some m.cls := findClass_of_methodNamed Bd.named
  have hnm := (name_of_methodNamed Bd.named Bd.method).1
  have X0 : Stand p l e ({ frames := 0, cells := 0, slots := 0, locals := 0 } : Room) s m #[(.ref q)] below meth c s₁ [] 0 0 := Stand.of_body Bd
  have e0 : s₁.heap = h0 := by rw [← hh, Bd.state]; rfl
  have N0 := Fr.nil n0
  refine own_body (Q := QE2 Z q w h0 n0) (KC := ({ frames := 0, cells := 0, slots := 0, locals := 0 } : Room).cells) (KS := ({ frames := 0, cells := 0, slots := 0, locals := 0 } : Room).slots) ?_
  rw [own_ef_rmE2 m q]
  refine own_aloadN X0 hx hby d4_0 (pc' := 1) rfl rfl rfl ?_
  obtain ⟨f_E_q, f_F_q_heap, f_F_q_size⟩ := f_O_q
  refine own_getF X0 hx hZ hby hown (host := "") (Or.inl (wd_36 hw)) Via.refl e0 f_F_q_size d4_1 (pc' := 4) rfl (fun T1 X1 e1 => ?_)
  refine own_ifY X1 hx hby d4_4 (pc' := 11) (by decide) (by decide) (show ¬ (2 : Int32) = (0 : Int32) by decide) ?_
  refine own_iconst X1 hx hby d4_11 (pc' := 12) rfl (n := (0 : Int32)) (by decide) ?_
  refine own_zreturn X1 hx hlk hby hret (Or.inl rfl) d4_12 (own_lv ?_ (by decide) (by decide))
  show QE2 Z q w  h0 n0 (some (.int (0 : Int32))) T1.heap _
  rw [e1]
  exact ⟨rfl, N0, rfl⟩
theorem own_ef_rmE3 (m : MethodId) (q : Addr)  : entryFrame m #[(.ref q)] 1 = mkF m 0 #[.val (.ref q)] [] := by first | (simp [entryFrame, mkF, argsToLocals, Value.category]; done) | rfl
def QE3 (Z : State) (q : Addr) (w : Addr) (h0 : Heap) (n0 : Nat) (v : Option Value) (h : Heap) (L : List Loc) : Prop := v = some (.int 0) ∧ Fr n0 L ∧ h = h0
set_option maxRecDepth 65536 in
set_option maxHeartbeats 40000000 in
theorem rmE3 (l : Launch) (Z : State) (a0 : Array Value) (hw : ∀ d ∈ tables_1, d.before a0 Z = true) (ws : List Jvm.Cond) (q : Addr) (w : Addr) (h0 : Heap) (n0 : Nat) (Z0 : n0 ≤ h0.size) (f_O_q : own_TQ Z h0 q (.ref w) (3 : Int32)) :
    MetFree l (⟨"com/example/earnest_reactor/earnestreactor/core/TimerQueue", "isEmpty", "()Z"⟩ : MethodName) (head1 (Jvm.Cond.code (⟨"com/example/earnest_reactor/earnestreactor/core/TimerQueue", "isEmpty", "()Z"⟩ : MethodName) prog_35_method_2_code 1 (some .boolean) :: ws) ({ frames := 0, cells := 0, slots := 0, locals := 0 } : Room)) (fun aa U => aa = #[(.ref q)] ∧ Z.Warmed39 U.vm ∧ U.heap = h0) (fun _ _ _ _ _ => True) (fun _ U oc U' => ∃ v L, oc = .returned v ∧ QE3 Z q w h0 n0 v U'.heap L ∧ FrameEnd U oc U' L ({ frames := 0, cells := 0, slots := 0, locals := 0 } : Room).cells ({ frames := 0, cells := 0, slots := 0, locals := 0 } : Room).slots) := by
  refine MetFree.of_bodySF (plainFor_of_name own_pn1) hisR ?_
  intro p e s m args below meth c s₁ Bd hml0 hP hK
  obtain ⟨rfl, hZ, hh⟩ := hP
  have hx := Bd.exec
  have hby := Bd.bytes
  have hlk := Bd.notSynchronized
  have hret := Bd.returns
  have hml : c.maxLocals = 1 := hml0
  have hown : s.vm.findClass "com/example/earnest_reactor/earnestreactor/core/TimerQueue" = some m.cls := findClass_of_methodNamed Bd.named
  have hnm := (name_of_methodNamed Bd.named Bd.method).1
  have X0 : Stand p l e ({ frames := 0, cells := 0, slots := 0, locals := 0 } : Room) s m #[(.ref q)] below meth c s₁ [] 0 0 := Stand.of_body Bd
  have e0 : s₁.heap = h0 := by rw [← hh, Bd.state]; rfl
  have N0 := Fr.nil n0
  refine own_body (Q := QE3 Z q w h0 n0) (KC := ({ frames := 0, cells := 0, slots := 0, locals := 0 } : Room).cells) (KS := ({ frames := 0, cells := 0, slots := 0, locals := 0 } : Room).slots) ?_
  rw [own_ef_rmE3 m q]
  refine own_aloadN X0 hx hby d4_0 (pc' := 1) rfl rfl rfl ?_
  obtain ⟨f_E_q, f_F_q_heap, f_F_q_size⟩ := f_O_q
  refine own_getF X0 hx hZ hby hown (host := "") (Or.inl (wd_36 hw)) Via.refl e0 f_F_q_size d4_1 (pc' := 4) rfl (fun T1 X1 e1 => ?_)
  refine own_ifY X1 hx hby d4_4 (pc' := 11) (by decide) (by decide) (show ¬ (3 : Int32) = (0 : Int32) by decide) ?_
  refine own_iconst X1 hx hby d4_11 (pc' := 12) rfl (n := (0 : Int32)) (by decide) ?_
  refine own_zreturn X1 hx hlk hby hret (Or.inl rfl) d4_12 (own_lv ?_ (by decide) (by decide))
  show QE3 Z q w  h0 n0 (some (.int (0 : Int32))) T1.heap _
  rw [e1]
  exact ⟨rfl, N0, rfl⟩
theorem own_ef_rmMX (m : MethodId) (x : Int32) (y : Int32)  : entryFrame m #[(.int x), (.int y)] 2 = mkF m 0 #[.val (.int x), .val (.int y)] [] := by first | (simp [entryFrame, mkF, argsToLocals, Value.category]; done) | rfl
def QMX (Z : State) (x : Int32) (y : Int32) (h0 : Heap) (n0 : Nat) (v : Option Value) (h : Heap) (L : List Loc) : Prop := v = some (.int (if x < y then y else x)) ∧ Fr n0 L ∧ h = h0
set_option maxRecDepth 65536 in
set_option maxHeartbeats 40000000 in
theorem rmMX (l : Launch) (Z : State) (a0 : Array Value) (hw : ∀ d ∈ tables_1, d.before a0 Z = true) (ws : List Jvm.Cond) (x : Int32) (y : Int32) (h0 : Heap) (n0 : Nat) (Z0 : n0 ≤ h0.size)  :
    MetFree l (⟨"java/lang/Math", "max", "(II)I"⟩ : MethodName) (head1 (Jvm.Cond.code (⟨"java/lang/Math", "max", "(II)I"⟩ : MethodName) jdk_29_method_65_code 2 (some .int) :: ws) ({ frames := 0, cells := 0, slots := 0, locals := 0 } : Room)) (fun aa U => aa = #[(.int x), (.int y)] ∧ Z.Warmed39 U.vm ∧ U.heap = h0) (fun _ _ _ _ _ => True) (fun _ U oc U' => ∃ v L, oc = .returned v ∧ QMX Z x y h0 n0 v U'.heap L ∧ FrameEnd U oc U' L ({ frames := 0, cells := 0, slots := 0, locals := 0 } : Room).cells ({ frames := 0, cells := 0, slots := 0, locals := 0 } : Room).slots) := by
  refine MetFree.of_bodySF (Jvm.Free.JP.mathPlain rfl (by decide +kernel)) hisR ?_
  intro p e s m args below meth c s₁ Bd hml0 hP hK
  obtain ⟨rfl, hZ, hh⟩ := hP
  have hx := Bd.exec
  have hby := Bd.bytes
  have hlk := Bd.notSynchronized
  have hret := Bd.returns
  have hml : c.maxLocals = 2 := hml0
  have hown : s.vm.findClass "java/lang/Math" = some m.cls := findClass_of_methodNamed Bd.named
  have hnm := (name_of_methodNamed Bd.named Bd.method).1
  have X0 : Stand p l e ({ frames := 0, cells := 0, slots := 0, locals := 0 } : Room) s m #[(.int x), (.int y)] below meth c s₁ [] 0 0 := Stand.of_body Bd
  have e0 : s₁.heap = h0 := by rw [← hh, Bd.state]; rfl
  have N0 := Fr.nil n0
  refine own_body (Q := QMX Z x y h0 n0) (KC := ({ frames := 0, cells := 0, slots := 0, locals := 0 } : Room).cells) (KS := ({ frames := 0, cells := 0, slots := 0, locals := 0 } : Room).slots) ?_
  rw [own_ef_rmMX m x y]
  refine own_iloadN X0 hx hby d5_0 (pc' := 1) rfl rfl ?_
  refine own_iloadN X0 hx hby d5_1 (pc' := 2) rfl rfl ?_
  refine own_ic2 X0 hx hby d5_2 (pc1 := 9) (by decide) (by decide) (pc2 := 5) rfl (fun (hc2 : x < y) => ?_) (fun (hc2 : ¬ x < y) => ?_)
  · refine own_iloadN X0 hx hby d5_9 (pc' := 10) rfl rfl ?_
    refine own_ireturn X0 hx hlk hby hret d5_10 (own_lv ?_ (by decide) (by decide))
    show QMX Z x y  h0 n0 (some (.int y)) s₁.heap _
    rw [e0]
    exact ⟨by simp [hc2], N0, rfl⟩
  · refine own_iloadN X0 hx hby d5_5 (pc' := 6) rfl rfl ?_
    refine own_goto X0 hx hby d5_6 (pc' := 10) (by decide) (by decide) ?_
    refine own_ireturn X0 hx hlk hby hret d5_10 (own_lv ?_ (by decide) (by decide))
    show QMX Z x y  h0 n0 (some (.int x)) s₁.heap _
    rw [e0]
    exact ⟨by simp [hc2], N0, rfl⟩
theorem own_ef_rmPK0 (m : MethodId) (q : Addr)  : entryFrame m #[(.ref q)] 1 = mkF m 0 #[.val (.ref q)] [] := by first | (simp [entryFrame, mkF, argsToLocals, Value.category]; done) | rfl
def QPK0 (Z : State) (q : Addr) (w : Addr) (kk : ClassId) (sz : Int32) (v1 : Value) (v2 : Value) (hv1 : v1.isRef = true) (hv2 : v2.isRef = true) (h0 : Heap) (n0 : Nat) (v : Option Value) (h : Heap) (L : List Loc) : Prop := v = some .null ∧ Fr n0 L ∧ h = h0
set_option maxRecDepth 65536 in
set_option maxHeartbeats 40000000 in
theorem rmPK0 (l : Launch) (Z : State) (a0 : Array Value) (hw : ∀ d ∈ tables_1, d.before a0 Z = true) (ws : List Jvm.Cond) (q : Addr) (w : Addr) (kk : ClassId) (sz : Int32) (v1 : Value) (v2 : Value) (hv1 : v1.isRef = true) (hv2 : v2.isRef = true) (h0 : Heap) (n0 : Nat) (Z0 : n0 ≤ h0.size) (f_O_q : own_TQ Z h0 q (.ref w) sz) (f_V_w : Arv Z h0 w kk (.object "com/example/earnest_reactor/earnestreactor/core/ScheduledTask") (16 : Int32) [.null, v1, v2] .null) :
    MetFree l (⟨"com/example/earnest_reactor/earnestreactor/core/TimerQueue", "peek", "()Lcom/example/earnest_reactor/earnestreactor/core/ScheduledTask;"⟩ : MethodName) (head1 (Jvm.Cond.code (⟨"com/example/earnest_reactor/earnestreactor/core/TimerQueue", "peek", "()Lcom/example/earnest_reactor/earnestreactor/core/ScheduledTask;"⟩ : MethodName) prog_35_method_3_code 1 (some (.object "com/example/earnest_reactor/earnestreactor/core/ScheduledTask")) :: ws) ({ frames := 0, cells := 0, slots := 0, locals := 0 } : Room)) (fun aa U => aa = #[(.ref q)] ∧ Z.Warmed39 U.vm ∧ U.heap = h0) (fun _ _ _ _ _ => True) (fun _ U oc U' => ∃ v L, oc = .returned v ∧ QPK0 Z q w kk sz v1 v2 hv1 hv2 h0 n0 v U'.heap L ∧ FrameEnd U oc U' L ({ frames := 0, cells := 0, slots := 0, locals := 0 } : Room).cells ({ frames := 0, cells := 0, slots := 0, locals := 0 } : Room).slots) := by
  refine MetFree.of_bodySF (plainFor_of_name own_pn1) hisR ?_
  intro p e s m args below meth c s₁ Bd hml0 hP hK
  obtain ⟨rfl, hZ, hh⟩ := hP
  have hx := Bd.exec
  have hby := Bd.bytes
  have hlk := Bd.notSynchronized
  have hret := Bd.returns
  have hml : c.maxLocals = 1 := hml0
  have hown : s.vm.findClass "com/example/earnest_reactor/earnestreactor/core/TimerQueue" = some m.cls := findClass_of_methodNamed Bd.named
  have hnm := (name_of_methodNamed Bd.named Bd.method).1
  have X0 : Stand p l e ({ frames := 0, cells := 0, slots := 0, locals := 0 } : Room) s m #[(.ref q)] below meth c s₁ [] 0 0 := Stand.of_body Bd
  have e0 : s₁.heap = h0 := by rw [← hh, Bd.state]; rfl
  have N0 := Fr.nil n0
  refine own_body (Q := QPK0 Z q w kk sz v1 v2 hv1 hv2 h0 n0) (KC := ({ frames := 0, cells := 0, slots := 0, locals := 0 } : Room).cells) (KS := ({ frames := 0, cells := 0, slots := 0, locals := 0 } : Room).slots) ?_
  rw [own_ef_rmPK0 m q]
  refine own_aloadN X0 hx hby d6_0 (pc' := 1) rfl rfl rfl ?_
  obtain ⟨f_E_q, f_F_q_heap, f_F_q_size⟩ := f_O_q
  refine own_getF X0 hx hZ hby hown (host := "") (Or.inl (wd_11 hw)) Via.refl e0 f_F_q_heap d6_1 (pc' := 4) rfl (fun T1 X1 e1 => ?_)
  refine own_iconst X1 hx hby d6_4 (pc' := 5) rfl (n := (0 : Int32)) (by decide) ?_
  obtain ⟨cl2, Ar2, q2, S2, M2, H2, G2⟩ := id f_V_w
  have hin2 : ¬ ((0 : Int32) < 0 ∨ cl2.slots.size ≤ ((0 : Int32)).toNatClampNeg) := inb_of S2 ⟨by decide, by decide⟩
  have hat2 : cl2.slots[((0 : Int32)).toNatClampNeg]? = some .null := H2.at hin2 rfl
  refine own_aaload X1 hx hZ hby e1 Ar2 rfl hin2 hat2 d6_5 (pc' := 6) rfl ?_
  refine own_areturn X1 hx hlk hby hret rfl rfl d6_6 (own_lv ?_ (by decide) (by decide))
  show QPK0 Z q w kk sz v1 v2 hv1 hv2  h0 n0 (some .null) T1.heap _
  rw [e1]
  exact ⟨rfl, N0, rfl⟩
theorem own_ef_rmPK1 (m : MethodId) (q : Addr)  : entryFrame m #[(.ref q)] 1 = mkF m 0 #[.val (.ref q)] [] := by first | (simp [entryFrame, mkF, argsToLocals, Value.category]; done) | rfl
def QPK1 (Z : State) (q : Addr) (w : Addr) (kk : ClassId) (x : Addr) (sz : Int32) (v1 : Value) (v2 : Value) (hv1 : v1.isRef = true) (hv2 : v2.isRef = true) (h0 : Heap) (n0 : Nat) (v : Option Value) (h : Heap) (L : List Loc) : Prop := v = some (.ref x) ∧ Fr n0 L ∧ h = h0
set_option maxRecDepth 65536 in
set_option maxHeartbeats 40000000 in
theorem rmPK1 (l : Launch) (Z : State) (a0 : Array Value) (hw : ∀ d ∈ tables_1, d.before a0 Z = true) (ws : List Jvm.Cond) (q : Addr) (w : Addr) (kk : ClassId) (x : Addr) (sz : Int32) (v1 : Value) (v2 : Value) (hv1 : v1.isRef = true) (hv2 : v2.isRef = true) (h0 : Heap) (n0 : Nat) (Z0 : n0 ≤ h0.size) (f_O_q : own_TQ Z h0 q (.ref w) sz) (f_V_w : Arv Z h0 w kk (.object "com/example/earnest_reactor/earnestreactor/core/ScheduledTask") (16 : Int32) [(.ref x), v1, v2] .null) :
    MetFree l (⟨"com/example/earnest_reactor/earnestreactor/core/TimerQueue", "peek", "()Lcom/example/earnest_reactor/earnestreactor/core/ScheduledTask;"⟩ : MethodName) (head1 (Jvm.Cond.code (⟨"com/example/earnest_reactor/earnestreactor/core/TimerQueue", "peek", "()Lcom/example/earnest_reactor/earnestreactor/core/ScheduledTask;"⟩ : MethodName) prog_35_method_3_code 1 (some (.object "com/example/earnest_reactor/earnestreactor/core/ScheduledTask")) :: ws) ({ frames := 0, cells := 0, slots := 0, locals := 0 } : Room)) (fun aa U => aa = #[(.ref q)] ∧ Z.Warmed39 U.vm ∧ U.heap = h0) (fun _ _ _ _ _ => True) (fun _ U oc U' => ∃ v L, oc = .returned v ∧ QPK1 Z q w kk x sz v1 v2 hv1 hv2 h0 n0 v U'.heap L ∧ FrameEnd U oc U' L ({ frames := 0, cells := 0, slots := 0, locals := 0 } : Room).cells ({ frames := 0, cells := 0, slots := 0, locals := 0 } : Room).slots) := by
  refine MetFree.of_bodySF (plainFor_of_name own_pn1) hisR ?_
  intro p e s m args below meth c s₁ Bd hml0 hP hK
  obtain ⟨rfl, hZ, hh⟩ := hP
  have hx := Bd.exec
  have hby := Bd.bytes
  have hlk := Bd.notSynchronized
  have hret := Bd.returns
  have hml : c.maxLocals = 1 := hml0
  have hown : s.vm.findClass "com/example/earnest_reactor/earnestreactor/core/TimerQueue" = some m.cls := findClass_of_methodNamed Bd.named
  have hnm := (name_of_methodNamed Bd.named Bd.method).1
  have X0 : Stand p l e ({ frames := 0, cells := 0, slots := 0, locals := 0 } : Room) s m #[(.ref q)] below meth c s₁ [] 0 0 := Stand.of_body Bd
  have e0 : s₁.heap = h0 := by rw [← hh, Bd.state]; rfl
  have N0 := Fr.nil n0
  refine own_body (Q := QPK1 Z q w kk x sz v1 v2 hv1 hv2 h0 n0) (KC := ({ frames := 0, cells := 0, slots := 0, locals := 0 } : Room).cells) (KS := ({ frames := 0, cells := 0, slots := 0, locals := 0 } : Room).slots) ?_
  rw [own_ef_rmPK1 m q]
  refine own_aloadN X0 hx hby d6_0 (pc' := 1) rfl rfl rfl ?_
  obtain ⟨f_E_q, f_F_q_heap, f_F_q_size⟩ := f_O_q
  refine own_getF X0 hx hZ hby hown (host := "") (Or.inl (wd_11 hw)) Via.refl e0 f_F_q_heap d6_1 (pc' := 4) rfl (fun T1 X1 e1 => ?_)
  refine own_iconst X1 hx hby d6_4 (pc' := 5) rfl (n := (0 : Int32)) (by decide) ?_
  obtain ⟨cl2, Ar2, q2, S2, M2, H2, G2⟩ := id f_V_w
  have hin2 : ¬ ((0 : Int32) < 0 ∨ cl2.slots.size ≤ ((0 : Int32)).toNatClampNeg) := inb_of S2 ⟨by decide, by decide⟩
  have hat2 : cl2.slots[((0 : Int32)).toNatClampNeg]? = some (.ref x) := H2.at hin2 rfl
  refine own_aaload X1 hx hZ hby e1 Ar2 rfl hin2 hat2 d6_5 (pc' := 6) rfl ?_
  refine own_areturn X1 hx hlk hby hret rfl rfl d6_6 (own_lv ?_ (by decide) (by decide))
  show QPK1 Z q w kk x sz v1 v2 hv1 hv2  h0 n0 (some (.ref x)) T1.heap _
  rw [e1]
  exact ⟨rfl, N0, rfl⟩
theorem own_ef_rmRV0 (m : MethodId) (q : Addr) (t : Addr)  : entryFrame m #[(.ref q), (.ref t)] 3 = mkF m 0 #[.val (.ref q), .val (.ref t), .unset] [] := by first | (simp [entryFrame, mkF, argsToLocals, Value.category]; done) | rfl
def QRV0 (Z : State) (q : Addr) (t : Addr) (dt : Int64) (st : Int64) (h0 : Heap) (n0 : Nat) (v : Option Value) (h : Heap) (L : List Loc) : Prop := v = some (.int 0) ∧ Fr n0 L ∧ h = h0
set_option maxRecDepth 65536 in
set_option maxHeartbeats 40000000 in
theorem rmRV0 (l : Launch) (Z : State) (a0 : Array Value) (hw : ∀ d ∈ tables_1, d.before a0 Z = true) (ws : List Jvm.Cond) (q : Addr) (t : Addr) (dt : Int64) (st : Int64) (h0 : Heap) (n0 : Nat) (Z0 : n0 ≤ h0.size) (f_O_t : own_TK Z h0 t .null dt st .null (-1 : Int32)) :
    MetFree l (⟨"com/example/earnest_reactor/earnestreactor/core/TimerQueue", "remove", "(Lcom/example/earnest_reactor/earnestreactor/core/ScheduledTask;)Z"⟩ : MethodName) (head1 (Jvm.Cond.code (⟨"com/example/earnest_reactor/earnestreactor/core/TimerQueue", "remove", "(Lcom/example/earnest_reactor/earnestreactor/core/ScheduledTask;)Z"⟩ : MethodName) prog_35_method_6_code 3 (some .boolean) :: ws) ({ frames := 1, cells := 0, slots := 0, locals := 12 } : Room)) (fun aa U => aa = #[(.ref q), (.ref t)] ∧ Z.Warmed39 U.vm ∧ U.heap = h0) (fun _ _ _ _ _ => True) (fun _ U oc U' => ∃ v L, oc = .returned v ∧ QRV0 Z q t dt st h0 n0 v U'.heap L ∧ FrameEnd U oc U' L ({ frames := 1, cells := 0, slots := 0, locals := 12 } : Room).cells ({ frames := 1, cells := 0, slots := 0, locals := 12 } : Room).slots) := by
  refine MetFree.of_bodySF (plainFor_of_name own_pn1) hisR ?_
  intro p e s m args below meth c s₁ Bd hml0 hP hK
  obtain ⟨rfl, hZ, hh⟩ := hP
  have hx := Bd.exec
  have hby := Bd.bytes
  have hlk := Bd.notSynchronized
  have hret := Bd.returns
  have hml : c.maxLocals = 3 := hml0
  have hown : s.vm.findClass "com/example/earnest_reactor/earnestreactor/core/TimerQueue" = some m.cls := findClass_of_methodNamed Bd.named
  have hnm := (name_of_methodNamed Bd.named Bd.method).1
  have X0 : Stand p l e ({ frames := 1, cells := 0, slots := 0, locals := 12 } : Room) s m #[(.ref q), (.ref t)] below meth c s₁ [] 0 0 := Stand.of_body Bd
  have e0 : s₁.heap = h0 := by rw [← hh, Bd.state]; rfl
  have N0 := Fr.nil n0
  refine own_body (Q := QRV0 Z q t dt st h0 n0) (KC := ({ frames := 1, cells := 0, slots := 0, locals := 12 } : Room).cells) (KS := ({ frames := 1, cells := 0, slots := 0, locals := 12 } : Room).slots) ?_
  rw [own_ef_rmRV0 m q t]
  refine own_aloadN X0 hx hby d15_0 (pc' := 1) rfl rfl rfl ?_
  refine own_lk6 hw X0 hx hZ hby (by rw [hml]; rfl) hown d15_1 (pc' := 4) rfl e0 f_O_t.1 (W := 0) (Nat.le_of_eq rfl) (rmGQ l Z a0 hw [] t dt st (-1 : Int32) h0 n0 Z0 f_O_t) (by decide) (by decide) (by decide) (by decide) (fun v1 T1 L1 X1 hQ1 => ?_)
  obtain ⟨rfl, Nq1, e1⟩ := hQ1
  have N1 := Fr.app N0 Nq1
  show own_End p e below _ (T1.setTop (mkF m 4 _ [(.int (-1 : Int32))]))
  refine own_istoreN X1 hx hby d15_4 (pc' := 5) rfl (l' := #[.val (.ref q), .val (.ref t), .val (.int (-1 : Int32))]) rfl ?_
  refine own_iloadN X1 hx hby d15_5 (pc' := 6) rfl rfl ?_
  refine own_ifN X1 hx hby d15_6 (pc' := 9) rfl (show (-1 : Int32) < (0 : Int32) by decide) ?_
  refine own_iconst X1 hx hby d15_9 (pc' := 10) rfl (n := (0 : Int32)) (by decide) ?_
  refine own_zreturn X1 hx hlk hby hret (Or.inl rfl) d15_10 (own_lv ?_ (by decide) (by decide))
  show QRV0 Z q t dt st  h0 n0 (some (.int (0 : Int32))) T1.heap _
  rw [e1]
  exact ⟨rfl, N1, rfl⟩
theorem own_ef_rmRV1 (m : MethodId) (q : Addr) (x : Addr)  : entryFrame m #[(.ref q), (.ref x)] 3 = mkF m 0 #[.val (.ref q), .val (.ref x), .unset] [] := by first | (simp [entryFrame, mkF, argsToLocals, Value.category]; done) | rfl
def QRV1 (Z : State) (q : Addr) (w : Addr) (kk : ClassId) (x : Addr) (dx : Int64) (sx : Int64) (h0 : Heap) (n0 : Nat) (v : Option Value) (h : Heap) (L : List Loc) : Prop := v = some (.int (1 : Int32)) ∧ Fr n0 L ∧ Keep h0 h [q, w, x] ∧ own_TQ Z h q (.ref w) (0 : Int32) ∧ Arv Z h w kk (.object "com/example/earnest_reactor/earnestreactor/core/ScheduledTask") (16 : Int32) [.null, .null, .null] .null ∧ own_TK Z h x .null dx sx .null (-1 : Int32)
set_option maxRecDepth 65536 in
set_option maxHeartbeats 40000000 in
theorem rmRV1 (l : Launch) (Z : State) (a0 : Array Value) (hw : ∀ d ∈ tables_1, d.before a0 Z = true) (ws : List Jvm.Cond) (q : Addr) (w : Addr) (kk : ClassId) (x : Addr) (dx : Int64) (sx : Int64) (h0 : Heap) (n0 : Nat) (Z0 : n0 ≤ h0.size) (f_O_q : own_TQ Z h0 q (.ref w) (1 : Int32)) (f_V_w : Arv Z h0 w kk (.object "com/example/earnest_reactor/earnestreactor/core/ScheduledTask") (16 : Int32) [(.ref x), .null, .null] .null) (ho : Ovr Z kk "com/example/earnest_reactor/earnestreactor/core/ScheduledTask") (f_O_x : own_TK Z h0 x .null dx sx .null (0 : Int32)) (ge_q : n0 ≤ q) (ge_w : n0 ≤ w) (ge_x : n0 ≤ x) :
    MetFree l (⟨"com/example/earnest_reactor/earnestreactor/core/TimerQueue", "remove", "(Lcom/example/earnest_reactor/earnestreactor/core/ScheduledTask;)Z"⟩ : MethodName) (head1 (Jvm.Cond.code (⟨"com/example/earnest_reactor/earnestreactor/core/TimerQueue", "remove", "(Lcom/example/earnest_reactor/earnestreactor/core/ScheduledTask;)Z"⟩ : MethodName) prog_35_method_6_code 3 (some .boolean) :: ws) ({ frames := 2, cells := 0, slots := 0, locals := 28 } : Room)) (fun aa U => aa = #[(.ref q), (.ref x)] ∧ Z.Warmed39 U.vm ∧ U.heap = h0) (fun _ _ _ _ _ => True) (fun _ U oc U' => ∃ v L, oc = .returned v ∧ QRV1 Z q w kk x dx sx h0 n0 v U'.heap L ∧ FrameEnd U oc U' L ({ frames := 2, cells := 0, slots := 0, locals := 28 } : Room).cells ({ frames := 2, cells := 0, slots := 0, locals := 28 } : Room).slots) := by
  refine MetFree.of_bodySF (plainFor_of_name own_pn1) hisR ?_
  intro p e s m args below meth c s₁ Bd hml0 hP hK
  obtain ⟨rfl, hZ, hh⟩ := hP
  have hx := Bd.exec
  have hby := Bd.bytes
  have hlk := Bd.notSynchronized
  have hret := Bd.returns
  have hml : c.maxLocals = 3 := hml0
  have hown : s.vm.findClass "com/example/earnest_reactor/earnestreactor/core/TimerQueue" = some m.cls := findClass_of_methodNamed Bd.named
  have hnm := (name_of_methodNamed Bd.named Bd.method).1
  have X0 : Stand p l e ({ frames := 2, cells := 0, slots := 0, locals := 28 } : Room) s m #[(.ref q), (.ref x)] below meth c s₁ [] 0 0 := Stand.of_body Bd
  have e0 : s₁.heap = h0 := by rw [← hh, Bd.state]; rfl
  have N0 := Fr.nil n0
  refine own_body (Q := QRV1 Z q w kk x dx sx h0 n0) (KC := ({ frames := 2, cells := 0, slots := 0, locals := 28 } : Room).cells) (KS := ({ frames := 2, cells := 0, slots := 0, locals := 28 } : Room).slots) ?_
  rw [own_ef_rmRV1 m q x]
  have Kp : Keep h0 h0 [q, w, x] := Keep.refl h0 _
  refine own_aloadN X0 hx hby d15_0 (pc' := 1) rfl rfl rfl ?_
  refine own_lk6 hw X0 hx hZ hby (by rw [hml]; rfl) hown d15_1 (pc' := 4) rfl e0 f_O_x.1 (W := 0) (Nat.le_of_eq rfl) (rmGQ l Z a0 hw [] x dx sx (0 : Int32) h0 n0 Z0 f_O_x) (by decide) (by decide) (by decide) (by decide) (fun v1 T1 L1 X1 hQ1 => ?_)
  obtain ⟨rfl, Nq1, e1⟩ := hQ1
  have N1 := Fr.app N0 Nq1
  show own_End p e below _ (T1.setTop (mkF m 4 _ [(.int (0 : Int32))]))
  refine own_istoreN X1 hx hby d15_4 (pc' := 5) rfl (l' := #[.val (.ref q), .val (.ref x), .val (.int (0 : Int32))]) rfl ?_
  refine own_iloadN X1 hx hby d15_5 (pc' := 6) rfl rfl ?_
  refine own_ifY X1 hx hby d15_6 (pc' := 11) (by decide) (by decide) (show ¬ (0 : Int32) < (0 : Int32) by decide) ?_
  refine own_aloadN X1 hx hby d15_11 (pc' := 12) rfl rfl rfl ?_
  refine own_iloadN X1 hx hby d15_12 (pc' := 13) rfl rfl ?_
  have ne_q_w : q ≠ w := Exa.neArv f_O_q.1 f_V_w (wd_1 hw)
  have ne_q_x : q ≠ x := Exa.ne f_O_q.1 f_O_x.1 (by decide)
  have ne_w_x : w ≠ x := Ne.symm (Exa.neArv f_O_x.1 f_V_w (wd_14 hw))
  refine own_lk5 hw X1 hx hZ hby (by rw [hml]; rfl) hown d15_13 (pc' := 16) rfl e1 f_O_q.1 (W := 0) (Nat.le_of_eq rfl) (rmR1 l Z a0 hw [] q w kk x dx sx h0 n0 Z0 f_O_q f_V_w ho f_O_x ge_q ge_w ge_x) (by decide) (by decide) (by decide) (by decide) (fun v2 T2 L2 X2 hQ2 => ?_)
  obtain ⟨rfl, Nq2, K2, Oq2, V2, Ox2⟩ := hQ2
  have N2 := Fr.app N1 Nq2
  have Zn := Nat.le_trans Z0 K2.1
  have Kp := Kp.trans K2 (allS (Or.inl (List.mem_of_getElem? (i := 0) rfl)) (allS (Or.inl (List.mem_of_getElem? (i := 1) rfl)) (allS (Or.inl (List.mem_of_getElem? (i := 2) rfl)) all0)))
  show own_End p e below _ (T2.setTop (mkF m 16 _ []))
  refine own_iconst X2 hx hby d15_16 (pc' := 17) rfl (n := (1 : Int32)) (by decide) ?_
  refine own_zreturn X2 hx hlk hby hret (Or.inr rfl) d15_17 (own_lv ?_ (by decide) (by decide))
  show QRV1 Z q w kk x dx sx  h0 n0 (some (.int (1 : Int32))) T2.heap _
  exact ⟨rfl, N2, Kp, Oq2, V2, Ox2⟩
theorem own_ef_rmRV2 (m : MethodId) (q : Addr) (x : Addr)  : entryFrame m #[(.ref q), (.ref x)] 3 = mkF m 0 #[.val (.ref q), .val (.ref x), .unset] [] := by first | (simp [entryFrame, mkF, argsToLocals, Value.category]; done) | rfl
def QRV2 (Z : State) (q : Addr) (w : Addr) (kk : ClassId) (x : Addr) (dx : Int64) (sx : Int64) (y : Addr) (dy : Int64) (sy : Int64) (h0 : Heap) (n0 : Nat) (v : Option Value) (h : Heap) (L : List Loc) : Prop := v = some (.int (1 : Int32)) ∧ Fr n0 L ∧ Keep h0 h [q, w, x, y] ∧ own_TQ Z h q (.ref w) (1 : Int32) ∧ Arv Z h w kk (.object "com/example/earnest_reactor/earnestreactor/core/ScheduledTask") (16 : Int32) [(.ref y), .null, .null] .null ∧ own_TK Z h x .null dx sx .null (-1 : Int32) ∧ own_TK Z h y .null dy sy .null (0 : Int32)
set_option maxRecDepth 65536 in
set_option maxHeartbeats 40000000 in
theorem rmRV2 (l : Launch) (Z : State) (a0 : Array Value) (hw : ∀ d ∈ tables_1, d.before a0 Z = true) (ws : List Jvm.Cond) (q : Addr) (w : Addr) (kk : ClassId) (x : Addr) (dx : Int64) (sx : Int64) (y : Addr) (dy : Int64) (sy : Int64) (h0 : Heap) (n0 : Nat) (Z0 : n0 ≤ h0.size) (f_O_q : own_TQ Z h0 q (.ref w) (2 : Int32)) (f_V_w : Arv Z h0 w kk (.object "com/example/earnest_reactor/earnestreactor/core/ScheduledTask") (16 : Int32) [(.ref x), (.ref y), .null] .null) (ho : Ovr Z kk "com/example/earnest_reactor/earnestreactor/core/ScheduledTask") (f_O_x : own_TK Z h0 x .null dx sx .null (0 : Int32)) (f_O_y : own_TK Z h0 y .null dy sy .null (1 : Int32)) (ge_q : n0 ≤ q) (ge_w : n0 ≤ w) (ge_x : n0 ≤ x) (ge_y : n0 ≤ y) (ne_x_y : x ≠ y) :
    MetFree l (⟨"com/example/earnest_reactor/earnestreactor/core/TimerQueue", "remove", "(Lcom/example/earnest_reactor/earnestreactor/core/ScheduledTask;)Z"⟩ : MethodName) (head1 (Jvm.Cond.code (⟨"com/example/earnest_reactor/earnestreactor/core/TimerQueue", "remove", "(Lcom/example/earnest_reactor/earnestreactor/core/ScheduledTask;)Z"⟩ : MethodName) prog_35_method_6_code 3 (some .boolean) :: ws) ({ frames := 4, cells := 0, slots := 0, locals := 59 } : Room)) (fun aa U => aa = #[(.ref q), (.ref x)] ∧ Z.Warmed39 U.vm ∧ U.heap = h0) (fun _ _ _ _ _ => True) (fun _ U oc U' => ∃ v L, oc = .returned v ∧ QRV2 Z q w kk x dx sx y dy sy h0 n0 v U'.heap L ∧ FrameEnd U oc U' L ({ frames := 4, cells := 0, slots := 0, locals := 59 } : Room).cells ({ frames := 4, cells := 0, slots := 0, locals := 59 } : Room).slots) := by
  refine MetFree.of_bodySF (plainFor_of_name own_pn1) hisR ?_
  intro p e s m args below meth c s₁ Bd hml0 hP hK
  obtain ⟨rfl, hZ, hh⟩ := hP
  have hx := Bd.exec
  have hby := Bd.bytes
  have hlk := Bd.notSynchronized
  have hret := Bd.returns
  have hml : c.maxLocals = 3 := hml0
  have hown : s.vm.findClass "com/example/earnest_reactor/earnestreactor/core/TimerQueue" = some m.cls := findClass_of_methodNamed Bd.named
  have hnm := (name_of_methodNamed Bd.named Bd.method).1
  have X0 : Stand p l e ({ frames := 4, cells := 0, slots := 0, locals := 59 } : Room) s m #[(.ref q), (.ref x)] below meth c s₁ [] 0 0 := Stand.of_body Bd
  have e0 : s₁.heap = h0 := by rw [← hh, Bd.state]; rfl
  have N0 := Fr.nil n0
  refine own_body (Q := QRV2 Z q w kk x dx sx y dy sy h0 n0) (KC := ({ frames := 4, cells := 0, slots := 0, locals := 59 } : Room).cells) (KS := ({ frames := 4, cells := 0, slots := 0, locals := 59 } : Room).slots) ?_
  rw [own_ef_rmRV2 m q x]
  have Kp : Keep h0 h0 [q, w, x, y] := Keep.refl h0 _
  refine own_aloadN X0 hx hby d15_0 (pc' := 1) rfl rfl rfl ?_
  refine own_lk6 hw X0 hx hZ hby (by rw [hml]; rfl) hown d15_1 (pc' := 4) rfl e0 f_O_x.1 (W := 0) (Nat.le_of_eq rfl) (rmGQ l Z a0 hw [] x dx sx (0 : Int32) h0 n0 Z0 f_O_x) (by decide) (by decide) (by decide) (by decide) (fun v1 T1 L1 X1 hQ1 => ?_)
  obtain ⟨rfl, Nq1, e1⟩ := hQ1
  have N1 := Fr.app N0 Nq1
  show own_End p e below _ (T1.setTop (mkF m 4 _ [(.int (0 : Int32))]))
  refine own_istoreN X1 hx hby d15_4 (pc' := 5) rfl (l' := #[.val (.ref q), .val (.ref x), .val (.int (0 : Int32))]) rfl ?_
  refine own_iloadN X1 hx hby d15_5 (pc' := 6) rfl rfl ?_
  refine own_ifY X1 hx hby d15_6 (pc' := 11) (by decide) (by decide) (show ¬ (0 : Int32) < (0 : Int32) by decide) ?_
  refine own_aloadN X1 hx hby d15_11 (pc' := 12) rfl rfl rfl ?_
  refine own_iloadN X1 hx hby d15_12 (pc' := 13) rfl rfl ?_
  have ne_q_w : q ≠ w := Exa.neArv f_O_q.1 f_V_w (wd_1 hw)
  have ne_q_x : q ≠ x := Exa.ne f_O_q.1 f_O_x.1 (by decide)
  have ne_q_y : q ≠ y := Exa.ne f_O_q.1 f_O_y.1 (by decide)
  have ne_w_x : w ≠ x := Ne.symm (Exa.neArv f_O_x.1 f_V_w (wd_14 hw))
  have ne_w_y : w ≠ y := Ne.symm (Exa.neArv f_O_y.1 f_V_w (wd_14 hw))
  refine own_lk5 hw X1 hx hZ hby (by rw [hml]; rfl) hown d15_13 (pc' := 16) rfl e1 f_O_q.1 (W := 0) (Nat.le_of_eq rfl) (rmR2 l Z a0 hw [] q w kk x dx sx y dy sy h0 n0 Z0 f_O_q f_V_w ho f_O_x f_O_y ge_q ge_w ge_x ge_y ne_x_y) (by decide) (by decide) (by decide) (by decide) (fun v2 T2 L2 X2 hQ2 => ?_)
  obtain ⟨rfl, Nq2, K2, Oq2, V2, Ox2, Oy2⟩ := hQ2
  have N2 := Fr.app N1 Nq2
  have Zn := Nat.le_trans Z0 K2.1
  have Kp := Kp.trans K2 (allS (Or.inl (List.mem_of_getElem? (i := 0) rfl)) (allS (Or.inl (List.mem_of_getElem? (i := 1) rfl)) (allS (Or.inl (List.mem_of_getElem? (i := 2) rfl)) (allS (Or.inl (List.mem_of_getElem? (i := 3) rfl)) all0))))
  show own_End p e below _ (T2.setTop (mkF m 16 _ []))
  refine own_iconst X2 hx hby d15_16 (pc' := 17) rfl (n := (1 : Int32)) (by decide) ?_
  refine own_zreturn X2 hx hlk hby hret (Or.inr rfl) d15_17 (own_lv ?_ (by decide) (by decide))
  show QRV2 Z q w kk x dx sx y dy sy  h0 n0 (some (.int (1 : Int32))) T2.heap _
  exact ⟨rfl, N2, Kp, Oq2, V2, Ox2, Oy2⟩
theorem own_ef_rmRV2i (m : MethodId) (q : Addr) (y : Addr)  : entryFrame m #[(.ref q), (.ref y)] 3 = mkF m 0 #[.val (.ref q), .val (.ref y), .unset] [] := by first | (simp [entryFrame, mkF, argsToLocals, Value.category]; done) | rfl
def QRV2i (Z : State) (q : Addr) (w : Addr) (kk : ClassId) (x : Addr) (dx : Int64) (sx : Int64) (y : Addr) (dy : Int64) (sy : Int64) (h0 : Heap) (n0 : Nat) (v : Option Value) (h : Heap) (L : List Loc) : Prop := v = some (.int (1 : Int32)) ∧ Fr n0 L ∧ Keep h0 h [q, w, y] ∧ own_TQ Z h q (.ref w) (1 : Int32) ∧ Arv Z h w kk (.object "com/example/earnest_reactor/earnestreactor/core/ScheduledTask") (16 : Int32) [(.ref x), .null, .null] .null ∧ own_TK Z h y .null dy sy .null (-1 : Int32)
set_option maxRecDepth 65536 in
set_option maxHeartbeats 40000000 in
theorem rmRV2i (l : Launch) (Z : State) (a0 : Array Value) (hw : ∀ d ∈ tables_1, d.before a0 Z = true) (ws : List Jvm.Cond) (q : Addr) (w : Addr) (kk : ClassId) (x : Addr) (dx : Int64) (sx : Int64) (y : Addr) (dy : Int64) (sy : Int64) (h0 : Heap) (n0 : Nat) (Z0 : n0 ≤ h0.size) (f_O_q : own_TQ Z h0 q (.ref w) (2 : Int32)) (f_V_w : Arv Z h0 w kk (.object "com/example/earnest_reactor/earnestreactor/core/ScheduledTask") (16 : Int32) [(.ref x), (.ref y), .null] .null) (ho : Ovr Z kk "com/example/earnest_reactor/earnestreactor/core/ScheduledTask") (f_O_x : own_TK Z h0 x .null dx sx .null (0 : Int32)) (f_O_y : own_TK Z h0 y .null dy sy .null (1 : Int32)) (ge_q : n0 ≤ q) (ge_w : n0 ≤ w) (ge_y : n0 ≤ y) (ne_x_y : x ≠ y) :
    MetFree l (⟨"com/example/earnest_reactor/earnestreactor/core/TimerQueue", "remove", "(Lcom/example/earnest_reactor/earnestreactor/core/ScheduledTask;)Z"⟩ : MethodName) (head1 (Jvm.Cond.code (⟨"com/example/earnest_reactor/earnestreactor/core/TimerQueue", "remove", "(Lcom/example/earnest_reactor/earnestreactor/core/ScheduledTask;)Z"⟩ : MethodName) prog_35_method_6_code 3 (some .boolean) :: ws) ({ frames := 2, cells := 0, slots := 0, locals := 28 } : Room)) (fun aa U => aa = #[(.ref q), (.ref y)] ∧ Z.Warmed39 U.vm ∧ U.heap = h0) (fun _ _ _ _ _ => True) (fun _ U oc U' => ∃ v L, oc = .returned v ∧ QRV2i Z q w kk x dx sx y dy sy h0 n0 v U'.heap L ∧ FrameEnd U oc U' L ({ frames := 2, cells := 0, slots := 0, locals := 28 } : Room).cells ({ frames := 2, cells := 0, slots := 0, locals := 28 } : Room).slots) := by
  refine MetFree.of_bodySF (plainFor_of_name own_pn1) hisR ?_
  intro p e s m args below meth c s₁ Bd hml0 hP hK
  obtain ⟨rfl, hZ, hh⟩ := hP
  have hx := Bd.exec
  have hby := Bd.bytes
  have hlk := Bd.notSynchronized
  have hret := Bd.returns
  have hml : c.maxLocals = 3 := hml0
  have hown : s.vm.findClass "com/example/earnest_reactor/earnestreactor/core/TimerQueue" = some m.cls := findClass_of_methodNamed Bd.named
  have hnm := (name_of_methodNamed Bd.named Bd.method).1
  have X0 : Stand p l e ({ frames := 2, cells := 0, slots := 0, locals := 28 } : Room) s m #[(.ref q), (.ref y)] below meth c s₁ [] 0 0 := Stand.of_body Bd
  have e0 : s₁.heap = h0 := by rw [← hh, Bd.state]; rfl
  have N0 := Fr.nil n0
  refine own_body (Q := QRV2i Z q w kk x dx sx y dy sy h0 n0) (KC := ({ frames := 2, cells := 0, slots := 0, locals := 28 } : Room).cells) (KS := ({ frames := 2, cells := 0, slots := 0, locals := 28 } : Room).slots) ?_
  rw [own_ef_rmRV2i m q y]
  have Kp : Keep h0 h0 [q, w, y] := Keep.refl h0 _
  refine own_aloadN X0 hx hby d15_0 (pc' := 1) rfl rfl rfl ?_
  refine own_lk6 hw X0 hx hZ hby (by rw [hml]; rfl) hown d15_1 (pc' := 4) rfl e0 f_O_y.1 (W := 0) (Nat.le_of_eq rfl) (rmGQ l Z a0 hw [] y dy sy (1 : Int32) h0 n0 Z0 f_O_y) (by decide) (by decide) (by decide) (by decide) (fun v1 T1 L1 X1 hQ1 => ?_)
  obtain ⟨rfl, Nq1, e1⟩ := hQ1
  have N1 := Fr.app N0 Nq1
  show own_End p e below _ (T1.setTop (mkF m 4 _ [(.int (1 : Int32))]))
  refine own_istoreN X1 hx hby d15_4 (pc' := 5) rfl (l' := #[.val (.ref q), .val (.ref y), .val (.int (1 : Int32))]) rfl ?_
  refine own_iloadN X1 hx hby d15_5 (pc' := 6) rfl rfl ?_
  refine own_ifY X1 hx hby d15_6 (pc' := 11) (by decide) (by decide) (show ¬ (1 : Int32) < (0 : Int32) by decide) ?_
  refine own_aloadN X1 hx hby d15_11 (pc' := 12) rfl rfl rfl ?_
  refine own_iloadN X1 hx hby d15_12 (pc' := 13) rfl rfl ?_
  have ne_q_w : q ≠ w := Exa.neArv f_O_q.1 f_V_w (wd_1 hw)
  have ne_q_y : q ≠ y := Exa.ne f_O_q.1 f_O_y.1 (by decide)
  have ne_w_y : w ≠ y := Ne.symm (Exa.neArv f_O_y.1 f_V_w (wd_14 hw))
  have ne_x_q : x ≠ q := Exa.ne f_O_x.1 f_O_q.1 (by decide)
  have ne_x_w : x ≠ w := Exa.neArv f_O_x.1 f_V_w (wd_14 hw)
  refine own_lk5 hw X1 hx hZ hby (by rw [hml]; rfl) hown d15_13 (pc' := 16) rfl e1 f_O_q.1 (W := 0) (Nat.le_of_eq rfl) (rmR2i l Z a0 hw [] q w kk x dx sx y dy sy h0 n0 Z0 f_O_q f_V_w ho f_O_x f_O_y ge_q ge_w ge_y ne_x_y) (by decide) (by decide) (by decide) (by decide) (fun v2 T2 L2 X2 hQ2 => ?_)
  obtain ⟨rfl, Nq2, K2, Oq2, V2, Oy2⟩ := hQ2
  have N2 := Fr.app N1 Nq2
  have f_O_x := f_O_x.keep K2 (ninS ne_x_q (ninS ne_x_w (ninS ne_x_y nin0)))
  have Zn := Nat.le_trans Z0 K2.1
  have Kp := Kp.trans K2 (allS (Or.inl (List.mem_of_getElem? (i := 0) rfl)) (allS (Or.inl (List.mem_of_getElem? (i := 1) rfl)) (allS (Or.inl (List.mem_of_getElem? (i := 2) rfl)) all0)))
  show own_End p e below _ (T2.setTop (mkF m 16 _ []))
  refine own_iconst X2 hx hby d15_16 (pc' := 17) rfl (n := (1 : Int32)) (by decide) ?_
  refine own_zreturn X2 hx hlk hby hret (Or.inr rfl) d15_17 (own_lv ?_ (by decide) (by decide))
  show QRV2i Z q w kk x dx sx y dy sy  h0 n0 (some (.int (1 : Int32))) T2.heap _
  exact ⟨rfl, N2, Kp, Oq2, V2, Oy2⟩
theorem own_ef_rmRV3a (m : MethodId) (q : Addr) (x : Addr)  : entryFrame m #[(.ref q), (.ref x)] 3 = mkF m 0 #[.val (.ref q), .val (.ref x), .unset] [] := by first | (simp [entryFrame, mkF, argsToLocals, Value.category]; done) | rfl
def QRV3a (Z : State) (q : Addr) (w : Addr) (kk : ClassId) (x : Addr) (dx : Int64) (sx : Int64) (y : Addr) (dy : Int64) (sy : Int64) (z : Addr) (dz : Int64) (sz : Int64) (h0 : Heap) (n0 : Nat) (v : Option Value) (h : Heap) (L : List Loc) : Prop := v = some (.int (1 : Int32)) ∧ Fr n0 L ∧ Keep h0 h [q, w, x, z] ∧ own_TQ Z h q (.ref w) (2 : Int32) ∧ Arv Z h w kk (.object "com/example/earnest_reactor/earnestreactor/core/ScheduledTask") (16 : Int32) [(.ref z), (.ref y), .null] .null ∧ own_TK Z h x .null dx sx .null (-1 : Int32) ∧ own_TK Z h z .null dz sz .null (0 : Int32)
set_option maxRecDepth 65536 in
set_option maxHeartbeats 40000000 in
theorem rmRV3a (l : Launch) (Z : State) (a0 : Array Value) (hw : ∀ d ∈ tables_1, d.before a0 Z = true) (ws : List Jvm.Cond) (q : Addr) (w : Addr) (kk : ClassId) (x : Addr) (dx : Int64) (sx : Int64) (y : Addr) (dy : Int64) (sy : Int64) (z : Addr) (dz : Int64) (sz : Int64) (h0 : Heap) (n0 : Nat) (Z0 : n0 ≤ h0.size) (f_O_q : own_TQ Z h0 q (.ref w) (3 : Int32)) (f_V_w : Arv Z h0 w kk (.object "com/example/earnest_reactor/earnestreactor/core/ScheduledTask") (16 : Int32) [(.ref x), (.ref y), (.ref z)] .null) (ho : Ovr Z kk "com/example/earnest_reactor/earnestreactor/core/ScheduledTask") (f_O_x : own_TK Z h0 x .null dx sx .null (0 : Int32)) (f_O_y : own_TK Z h0 y .null dy sy .null (1 : Int32)) (f_O_z : own_TK Z h0 z .null dz sz .null (2 : Int32)) (ge_q : n0 ≤ q) (ge_w : n0 ≤ w) (ge_x : n0 ≤ x) (ge_z : n0 ≤ z) (ne_x_y : x ≠ y) (ne_x_z : x ≠ z) (ne_y_z : y ≠ z) (hz : own_rb dy sy dz sz = (0 : Int32)) :
    MetFree l (⟨"com/example/earnest_reactor/earnestreactor/core/TimerQueue", "remove", "(Lcom/example/earnest_reactor/earnestreactor/core/ScheduledTask;)Z"⟩ : MethodName) (head1 (Jvm.Cond.code (⟨"com/example/earnest_reactor/earnestreactor/core/TimerQueue", "remove", "(Lcom/example/earnest_reactor/earnestreactor/core/ScheduledTask;)Z"⟩ : MethodName) prog_35_method_6_code 3 (some .boolean) :: ws) ({ frames := 4, cells := 0, slots := 0, locals := 59 } : Room)) (fun aa U => aa = #[(.ref q), (.ref x)] ∧ Z.Warmed39 U.vm ∧ U.heap = h0) (fun _ _ _ _ _ => True) (fun _ U oc U' => ∃ v L, oc = .returned v ∧ QRV3a Z q w kk x dx sx y dy sy z dz sz h0 n0 v U'.heap L ∧ FrameEnd U oc U' L ({ frames := 4, cells := 0, slots := 0, locals := 59 } : Room).cells ({ frames := 4, cells := 0, slots := 0, locals := 59 } : Room).slots) := by
  refine MetFree.of_bodySF (plainFor_of_name own_pn1) hisR ?_
  intro p e s m args below meth c s₁ Bd hml0 hP hK
  obtain ⟨rfl, hZ, hh⟩ := hP
  have hx := Bd.exec
  have hby := Bd.bytes
  have hlk := Bd.notSynchronized
  have hret := Bd.returns
  have hml : c.maxLocals = 3 := hml0
  have hown : s.vm.findClass "com/example/earnest_reactor/earnestreactor/core/TimerQueue" = some m.cls := findClass_of_methodNamed Bd.named
  have hnm := (name_of_methodNamed Bd.named Bd.method).1
  have X0 : Stand p l e ({ frames := 4, cells := 0, slots := 0, locals := 59 } : Room) s m #[(.ref q), (.ref x)] below meth c s₁ [] 0 0 := Stand.of_body Bd
  have e0 : s₁.heap = h0 := by rw [← hh, Bd.state]; rfl
  have N0 := Fr.nil n0
  refine own_body (Q := QRV3a Z q w kk x dx sx y dy sy z dz sz h0 n0) (KC := ({ frames := 4, cells := 0, slots := 0, locals := 59 } : Room).cells) (KS := ({ frames := 4, cells := 0, slots := 0, locals := 59 } : Room).slots) ?_
  rw [own_ef_rmRV3a m q x]
  have Kp : Keep h0 h0 [q, w, x, z] := Keep.refl h0 _
  refine own_aloadN X0 hx hby d15_0 (pc' := 1) rfl rfl rfl ?_
  refine own_lk6 hw X0 hx hZ hby (by rw [hml]; rfl) hown d15_1 (pc' := 4) rfl e0 f_O_x.1 (W := 0) (Nat.le_of_eq rfl) (rmGQ l Z a0 hw [] x dx sx (0 : Int32) h0 n0 Z0 f_O_x) (by decide) (by decide) (by decide) (by decide) (fun v1 T1 L1 X1 hQ1 => ?_)
  obtain ⟨rfl, Nq1, e1⟩ := hQ1
  have N1 := Fr.app N0 Nq1
  show own_End p e below _ (T1.setTop (mkF m 4 _ [(.int (0 : Int32))]))
  refine own_istoreN X1 hx hby d15_4 (pc' := 5) rfl (l' := #[.val (.ref q), .val (.ref x), .val (.int (0 : Int32))]) rfl ?_
  refine own_iloadN X1 hx hby d15_5 (pc' := 6) rfl rfl ?_
  refine own_ifY X1 hx hby d15_6 (pc' := 11) (by decide) (by decide) (show ¬ (0 : Int32) < (0 : Int32) by decide) ?_
  refine own_aloadN X1 hx hby d15_11 (pc' := 12) rfl rfl rfl ?_
  refine own_iloadN X1 hx hby d15_12 (pc' := 13) rfl rfl ?_
  have ne_q_w : q ≠ w := Exa.neArv f_O_q.1 f_V_w (wd_1 hw)
  have ne_q_x : q ≠ x := Exa.ne f_O_q.1 f_O_x.1 (by decide)
  have ne_q_z : q ≠ z := Exa.ne f_O_q.1 f_O_z.1 (by decide)
  have ne_w_x : w ≠ x := Ne.symm (Exa.neArv f_O_x.1 f_V_w (wd_14 hw))
  have ne_w_z : w ≠ z := Ne.symm (Exa.neArv f_O_z.1 f_V_w (wd_14 hw))
  have ne_y_q : y ≠ q := Exa.ne f_O_y.1 f_O_q.1 (by decide)
  have ne_y_w : y ≠ w := Exa.neArv f_O_y.1 f_V_w (wd_14 hw)
  refine own_lk5 hw X1 hx hZ hby (by rw [hml]; rfl) hown d15_13 (pc' := 16) rfl e1 f_O_q.1 (W := 0) (Nat.le_of_eq rfl) (rmR3a l Z a0 hw [] q w kk x dx sx y dy sy z dz sz h0 n0 Z0 f_O_q f_V_w ho f_O_x f_O_y f_O_z ge_q ge_w ge_x ge_z ne_x_y ne_x_z ne_y_z hz) (by decide) (by decide) (by decide) (by decide) (fun v2 T2 L2 X2 hQ2 => ?_)
  obtain ⟨rfl, Nq2, K2, Oq2, V2, Ox2, Oz2⟩ := hQ2
  have N2 := Fr.app N1 Nq2
  have f_O_y := f_O_y.keep K2 (ninS ne_y_q (ninS ne_y_w (ninS (Ne.symm ne_x_y) (ninS ne_y_z nin0))))
  have Zn := Nat.le_trans Z0 K2.1
  have Kp := Kp.trans K2 (allS (Or.inl (List.mem_of_getElem? (i := 0) rfl)) (allS (Or.inl (List.mem_of_getElem? (i := 1) rfl)) (allS (Or.inl (List.mem_of_getElem? (i := 2) rfl)) (allS (Or.inl (List.mem_of_getElem? (i := 3) rfl)) all0))))
  show own_End p e below _ (T2.setTop (mkF m 16 _ []))
  refine own_iconst X2 hx hby d15_16 (pc' := 17) rfl (n := (1 : Int32)) (by decide) ?_
  refine own_zreturn X2 hx hlk hby hret (Or.inr rfl) d15_17 (own_lv ?_ (by decide) (by decide))
  show QRV3a Z q w kk x dx sx y dy sy z dz sz  h0 n0 (some (.int (1 : Int32))) T2.heap _
  exact ⟨rfl, N2, Kp, Oq2, V2, Ox2, Oz2⟩
theorem own_ef_rmRV3b (m : MethodId) (q : Addr) (x : Addr)  : entryFrame m #[(.ref q), (.ref x)] 3 = mkF m 0 #[.val (.ref q), .val (.ref x), .unset] [] := by first | (simp [entryFrame, mkF, argsToLocals, Value.category]; done) | rfl
def QRV3b (Z : State) (q : Addr) (w : Addr) (kk : ClassId) (x : Addr) (dx : Int64) (sx : Int64) (y : Addr) (dy : Int64) (sy : Int64) (z : Addr) (dz : Int64) (sz : Int64) (h0 : Heap) (n0 : Nat) (v : Option Value) (h : Heap) (L : List Loc) : Prop := v = some (.int (1 : Int32)) ∧ Fr n0 L ∧ Keep h0 h [q, w, x, y, z] ∧ own_TQ Z h q (.ref w) (2 : Int32) ∧ Arv Z h w kk (.object "com/example/earnest_reactor/earnestreactor/core/ScheduledTask") (16 : Int32) [(.ref y), (.ref z), .null] .null ∧ own_TK Z h x .null dx sx .null (-1 : Int32) ∧ own_TK Z h y .null dy sy .null (0 : Int32) ∧ own_TK Z h z .null dz sz .null (1 : Int32)
set_option maxRecDepth 65536 in
set_option maxHeartbeats 40000000 in
theorem rmRV3b (l : Launch) (Z : State) (a0 : Array Value) (hw : ∀ d ∈ tables_1, d.before a0 Z = true) (ws : List Jvm.Cond) (q : Addr) (w : Addr) (kk : ClassId) (x : Addr) (dx : Int64) (sx : Int64) (y : Addr) (dy : Int64) (sy : Int64) (z : Addr) (dz : Int64) (sz : Int64) (h0 : Heap) (n0 : Nat) (Z0 : n0 ≤ h0.size) (f_O_q : own_TQ Z h0 q (.ref w) (3 : Int32)) (f_V_w : Arv Z h0 w kk (.object "com/example/earnest_reactor/earnestreactor/core/ScheduledTask") (16 : Int32) [(.ref x), (.ref y), (.ref z)] .null) (ho : Ovr Z kk "com/example/earnest_reactor/earnestreactor/core/ScheduledTask") (f_O_x : own_TK Z h0 x .null dx sx .null (0 : Int32)) (f_O_y : own_TK Z h0 y .null dy sy .null (1 : Int32)) (f_O_z : own_TK Z h0 z .null dz sz .null (2 : Int32)) (ge_q : n0 ≤ q) (ge_w : n0 ≤ w) (ge_x : n0 ≤ x) (ge_y : n0 ≤ y) (ge_z : n0 ≤ z) (ne_x_y : x ≠ y) (ne_x_z : x ≠ z) (ne_y_z : y ≠ z) (hz : own_rb dy sy dz sz = (1 : Int32)) :
    MetFree l (⟨"com/example/earnest_reactor/earnestreactor/core/TimerQueue", "remove", "(Lcom/example/earnest_reactor/earnestreactor/core/ScheduledTask;)Z"⟩ : MethodName) (head1 (Jvm.Cond.code (⟨"com/example/earnest_reactor/earnestreactor/core/TimerQueue", "remove", "(Lcom/example/earnest_reactor/earnestreactor/core/ScheduledTask;)Z"⟩ : MethodName) prog_35_method_6_code 3 (some .boolean) :: ws) ({ frames := 4, cells := 0, slots := 0, locals := 59 } : Room)) (fun aa U => aa = #[(.ref q), (.ref x)] ∧ Z.Warmed39 U.vm ∧ U.heap = h0) (fun _ _ _ _ _ => True) (fun _ U oc U' => ∃ v L, oc = .returned v ∧ QRV3b Z q w kk x dx sx y dy sy z dz sz h0 n0 v U'.heap L ∧ FrameEnd U oc U' L ({ frames := 4, cells := 0, slots := 0, locals := 59 } : Room).cells ({ frames := 4, cells := 0, slots := 0, locals := 59 } : Room).slots) := by
  refine MetFree.of_bodySF (plainFor_of_name own_pn1) hisR ?_
  intro p e s m args below meth c s₁ Bd hml0 hP hK
  obtain ⟨rfl, hZ, hh⟩ := hP
  have hx := Bd.exec
  have hby := Bd.bytes
  have hlk := Bd.notSynchronized
  have hret := Bd.returns
  have hml : c.maxLocals = 3 := hml0
  have hown : s.vm.findClass "com/example/earnest_reactor/earnestreactor/core/TimerQueue" = some m.cls := findClass_of_methodNamed Bd.named
  have hnm := (name_of_methodNamed Bd.named Bd.method).1
  have X0 : Stand p l e ({ frames := 4, cells := 0, slots := 0, locals := 59 } : Room) s m #[(.ref q), (.ref x)] below meth c s₁ [] 0 0 := Stand.of_body Bd
  have e0 : s₁.heap = h0 := by rw [← hh, Bd.state]; rfl
  have N0 := Fr.nil n0
  refine own_body (Q := QRV3b Z q w kk x dx sx y dy sy z dz sz h0 n0) (KC := ({ frames := 4, cells := 0, slots := 0, locals := 59 } : Room).cells) (KS := ({ frames := 4, cells := 0, slots := 0, locals := 59 } : Room).slots) ?_
  rw [own_ef_rmRV3b m q x]
  have Kp : Keep h0 h0 [q, w, x, y, z] := Keep.refl h0 _
  refine own_aloadN X0 hx hby d15_0 (pc' := 1) rfl rfl rfl ?_
  refine own_lk6 hw X0 hx hZ hby (by rw [hml]; rfl) hown d15_1 (pc' := 4) rfl e0 f_O_x.1 (W := 0) (Nat.le_of_eq rfl) (rmGQ l Z a0 hw [] x dx sx (0 : Int32) h0 n0 Z0 f_O_x) (by decide) (by decide) (by decide) (by decide) (fun v1 T1 L1 X1 hQ1 => ?_)
  obtain ⟨rfl, Nq1, e1⟩ := hQ1
  have N1 := Fr.app N0 Nq1
  show own_End p e below _ (T1.setTop (mkF m 4 _ [(.int (0 : Int32))]))
  refine own_istoreN X1 hx hby d15_4 (pc' := 5) rfl (l' := #[.val (.ref q), .val (.ref x), .val (.int (0 : Int32))]) rfl ?_
  refine own_iloadN X1 hx hby d15_5 (pc' := 6) rfl rfl ?_
  refine own_ifY X1 hx hby d15_6 (pc' := 11) (by decide) (by decide) (show ¬ (0 : Int32) < (0 : Int32) by decide) ?_
  refine own_aloadN X1 hx hby d15_11 (pc' := 12) rfl rfl rfl ?_
  refine own_iloadN X1 hx hby d15_12 (pc' := 13) rfl rfl ?_
  have ne_q_w : q ≠ w := Exa.neArv f_O_q.1 f_V_w (wd_1 hw)
  have ne_q_x : q ≠ x := Exa.ne f_O_q.1 f_O_x.1 (by decide)
  have ne_q_y : q ≠ y := Exa.ne f_O_q.1 f_O_y.1 (by decide)
  have ne_q_z : q ≠ z := Exa.ne f_O_q.1 f_O_z.1 (by decide)
  have ne_w_x : w ≠ x := Ne.symm (Exa.neArv f_O_x.1 f_V_w (wd_14 hw))
  have ne_w_y : w ≠ y := Ne.symm (Exa.neArv f_O_y.1 f_V_w (wd_14 hw))
  have ne_w_z : w ≠ z := Ne.symm (Exa.neArv f_O_z.1 f_V_w (wd_14 hw))
  refine own_lk5 hw X1 hx hZ hby (by rw [hml]; rfl) hown d15_13 (pc' := 16) rfl e1 f_O_q.1 (W := 0) (Nat.le_of_eq rfl) (rmR3b l Z a0 hw [] q w kk x dx sx y dy sy z dz sz h0 n0 Z0 f_O_q f_V_w ho f_O_x f_O_y f_O_z ge_q ge_w ge_x ge_y ge_z ne_x_y ne_x_z ne_y_z hz) (by decide) (by decide) (by decide) (by decide) (fun v2 T2 L2 X2 hQ2 => ?_)
  obtain ⟨rfl, Nq2, K2, Oq2, V2, Ox2, Oy2, Oz2⟩ := hQ2
  have N2 := Fr.app N1 Nq2
  have Zn := Nat.le_trans Z0 K2.1
  have Kp := Kp.trans K2 (allS (Or.inl (List.mem_of_getElem? (i := 0) rfl)) (allS (Or.inl (List.mem_of_getElem? (i := 1) rfl)) (allS (Or.inl (List.mem_of_getElem? (i := 2) rfl)) (allS (Or.inl (List.mem_of_getElem? (i := 3) rfl)) (allS (Or.inl (List.mem_of_getElem? (i := 4) rfl)) all0)))))
  show own_End p e below _ (T2.setTop (mkF m 16 _ []))
  refine own_iconst X2 hx hby d15_16 (pc' := 17) rfl (n := (1 : Int32)) (by decide) ?_
  refine own_zreturn X2 hx hlk hby hret (Or.inr rfl) d15_17 (own_lv ?_ (by decide) (by decide))
  show QRV3b Z q w kk x dx sx y dy sy z dz sz  h0 n0 (some (.int (1 : Int32))) T2.heap _
  exact ⟨rfl, N2, Kp, Oq2, V2, Ox2, Oy2, Oz2⟩
theorem own_ef_rmRV3i (m : MethodId) (q : Addr) (z : Addr)  : entryFrame m #[(.ref q), (.ref z)] 3 = mkF m 0 #[.val (.ref q), .val (.ref z), .unset] [] := by first | (simp [entryFrame, mkF, argsToLocals, Value.category]; done) | rfl
def QRV3i (Z : State) (q : Addr) (w : Addr) (kk : ClassId) (x : Addr) (dx : Int64) (sx : Int64) (y : Addr) (dy : Int64) (sy : Int64) (z : Addr) (dz : Int64) (sz : Int64) (h0 : Heap) (n0 : Nat) (v : Option Value) (h : Heap) (L : List Loc) : Prop := v = some (.int (1 : Int32)) ∧ Fr n0 L ∧ Keep h0 h [q, w, z] ∧ own_TQ Z h q (.ref w) (2 : Int32) ∧ Arv Z h w kk (.object "com/example/earnest_reactor/earnestreactor/core/ScheduledTask") (16 : Int32) [(.ref x), (.ref y), .null] .null ∧ own_TK Z h z .null dz sz .null (-1 : Int32)
set_option maxRecDepth 65536 in
set_option maxHeartbeats 40000000 in
theorem rmRV3i (l : Launch) (Z : State) (a0 : Array Value) (hw : ∀ d ∈ tables_1, d.before a0 Z = true) (ws : List Jvm.Cond) (q : Addr) (w : Addr) (kk : ClassId) (x : Addr) (dx : Int64) (sx : Int64) (y : Addr) (dy : Int64) (sy : Int64) (z : Addr) (dz : Int64) (sz : Int64) (h0 : Heap) (n0 : Nat) (Z0 : n0 ≤ h0.size) (f_O_q : own_TQ Z h0 q (.ref w) (3 : Int32)) (f_V_w : Arv Z h0 w kk (.object "com/example/earnest_reactor/earnestreactor/core/ScheduledTask") (16 : Int32) [(.ref x), (.ref y), (.ref z)] .null) (ho : Ovr Z kk "com/example/earnest_reactor/earnestreactor/core/ScheduledTask") (f_O_x : own_TK Z h0 x .null dx sx .null (0 : Int32)) (f_O_y : own_TK Z h0 y .null dy sy .null (1 : Int32)) (f_O_z : own_TK Z h0 z .null dz sz .null (2 : Int32)) (ge_q : n0 ≤ q) (ge_w : n0 ≤ w) (ge_z : n0 ≤ z) (ne_x_y : x ≠ y) (ne_x_z : x ≠ z) (ne_y_z : y ≠ z) :
    MetFree l (⟨"com/example/earnest_reactor/earnestreactor/core/TimerQueue", "remove", "(Lcom/example/earnest_reactor/earnestreactor/core/ScheduledTask;)Z"⟩ : MethodName) (head1 (Jvm.Cond.code (⟨"com/example/earnest_reactor/earnestreactor/core/TimerQueue", "remove", "(Lcom/example/earnest_reactor/earnestreactor/core/ScheduledTask;)Z"⟩ : MethodName) prog_35_method_6_code 3 (some .boolean) :: ws) ({ frames := 2, cells := 0, slots := 0, locals := 28 } : Room)) (fun aa U => aa = #[(.ref q), (.ref z)] ∧ Z.Warmed39 U.vm ∧ U.heap = h0) (fun _ _ _ _ _ => True) (fun _ U oc U' => ∃ v L, oc = .returned v ∧ QRV3i Z q w kk x dx sx y dy sy z dz sz h0 n0 v U'.heap L ∧ FrameEnd U oc U' L ({ frames := 2, cells := 0, slots := 0, locals := 28 } : Room).cells ({ frames := 2, cells := 0, slots := 0, locals := 28 } : Room).slots) := by
  refine MetFree.of_bodySF (plainFor_of_name own_pn1) hisR ?_
  intro p e s m args below meth c s₁ Bd hml0 hP hK
  obtain ⟨rfl, hZ, hh⟩ := hP
  have hx := Bd.exec
  have hby := Bd.bytes
  have hlk := Bd.notSynchronized
  have hret := Bd.returns
  have hml : c.maxLocals = 3 := hml0
  have hown : s.vm.findClass "com/example/earnest_reactor/earnestreactor/core/TimerQueue" = some m.cls := findClass_of_methodNamed Bd.named
  have hnm := (name_of_methodNamed Bd.named Bd.method).1
  have X0 : Stand p l e ({ frames := 2, cells := 0, slots := 0, locals := 28 } : Room) s m #[(.ref q), (.ref z)] below meth c s₁ [] 0 0 := Stand.of_body Bd
  have e0 : s₁.heap = h0 := by rw [← hh, Bd.state]; rfl
  have N0 := Fr.nil n0
  refine own_body (Q := QRV3i Z q w kk x dx sx y dy sy z dz sz h0 n0) (KC := ({ frames := 2, cells := 0, slots := 0, locals := 28 } : Room).cells) (KS := ({ frames := 2, cells := 0, slots := 0, locals := 28 } : Room).slots) ?_
  rw [own_ef_rmRV3i m q z]
  have Kp : Keep h0 h0 [q, w, z] := Keep.refl h0 _
  refine own_aloadN X0 hx hby d15_0 (pc' := 1) rfl rfl rfl ?_
  refine own_lk6 hw X0 hx hZ hby (by rw [hml]; rfl) hown d15_1 (pc' := 4) rfl e0 f_O_z.1 (W := 0) (Nat.le_of_eq rfl) (rmGQ l Z a0 hw [] z dz sz (2 : Int32) h0 n0 Z0 f_O_z) (by decide) (by decide) (by decide) (by decide) (fun v1 T1 L1 X1 hQ1 => ?_)
  obtain ⟨rfl, Nq1, e1⟩ := hQ1
  have N1 := Fr.app N0 Nq1
  show own_End p e below _ (T1.setTop (mkF m 4 _ [(.int (2 : Int32))]))
  refine own_istoreN X1 hx hby d15_4 (pc' := 5) rfl (l' := #[.val (.ref q), .val (.ref z), .val (.int (2 : Int32))]) rfl ?_
  refine own_iloadN X1 hx hby d15_5 (pc' := 6) rfl rfl ?_
  refine own_ifY X1 hx hby d15_6 (pc' := 11) (by decide) (by decide) (show ¬ (2 : Int32) < (0 : Int32) by decide) ?_
  refine own_aloadN X1 hx hby d15_11 (pc' := 12) rfl rfl rfl ?_
  refine own_iloadN X1 hx hby d15_12 (pc' := 13) rfl rfl ?_
  have ne_q_w : q ≠ w := Exa.neArv f_O_q.1 f_V_w (wd_1 hw)
  have ne_q_z : q ≠ z := Exa.ne f_O_q.1 f_O_z.1 (by decide)
  have ne_w_z : w ≠ z := Ne.symm (Exa.neArv f_O_z.1 f_V_w (wd_14 hw))
  have ne_x_q : x ≠ q := Exa.ne f_O_x.1 f_O_q.1 (by decide)
  have ne_x_w : x ≠ w := Exa.neArv f_O_x.1 f_V_w (wd_14 hw)
  have ne_y_q : y ≠ q := Exa.ne f_O_y.1 f_O_q.1 (by decide)
  have ne_y_w : y ≠ w := Exa.neArv f_O_y.1 f_V_w (wd_14 hw)
  refine own_lk5 hw X1 hx hZ hby (by rw [hml]; rfl) hown d15_13 (pc' := 16) rfl e1 f_O_q.1 (W := 0) (Nat.le_of_eq rfl) (rmR3i l Z a0 hw [] q w kk x dx sx y dy sy z dz sz h0 n0 Z0 f_O_q f_V_w ho f_O_x f_O_y f_O_z ge_q ge_w ge_z ne_x_y ne_x_z ne_y_z) (by decide) (by decide) (by decide) (by decide) (fun v2 T2 L2 X2 hQ2 => ?_)
  obtain ⟨rfl, Nq2, K2, Oq2, V2, Oz2⟩ := hQ2
  have N2 := Fr.app N1 Nq2
  have f_O_x := f_O_x.keep K2 (ninS ne_x_q (ninS ne_x_w (ninS ne_x_z nin0)))
  have f_O_y := f_O_y.keep K2 (ninS ne_y_q (ninS ne_y_w (ninS ne_y_z nin0)))
  have Zn := Nat.le_trans Z0 K2.1
  have Kp := Kp.trans K2 (allS (Or.inl (List.mem_of_getElem? (i := 0) rfl)) (allS (Or.inl (List.mem_of_getElem? (i := 1) rfl)) (allS (Or.inl (List.mem_of_getElem? (i := 2) rfl)) all0)))
  show own_End p e below _ (T2.setTop (mkF m 16 _ []))
  refine own_iconst X2 hx hby d15_16 (pc' := 17) rfl (n := (1 : Int32)) (by decide) ?_
  refine own_zreturn X2 hx hlk hby hret (Or.inr rfl) d15_17 (own_lv ?_ (by decide) (by decide))
  show QRV3i Z q w kk x dx sx y dy sy z dz sz  h0 n0 (some (.int (1 : Int32))) T2.heap _
  exact ⟨rfl, N2, Kp, Oq2, V2, Oz2⟩
theorem own_ef_rmRV3c (m : MethodId) (q : Addr) (y : Addr)  : entryFrame m #[(.ref q), (.ref y)] 3 = mkF m 0 #[.val (.ref q), .val (.ref y), .unset] [] := by first | (simp [entryFrame, mkF, argsToLocals, Value.category]; done) | rfl
def QRV3c (Z : State) (q : Addr) (w : Addr) (kk : ClassId) (x : Addr) (dx : Int64) (sx : Int64) (y : Addr) (dy : Int64) (sy : Int64) (z : Addr) (dz : Int64) (sz : Int64) (h0 : Heap) (n0 : Nat) (v : Option Value) (h : Heap) (L : List Loc) : Prop := v = some (.int (1 : Int32)) ∧ Fr n0 L ∧ Keep h0 h [q, w, y, z] ∧ own_TQ Z h q (.ref w) (2 : Int32) ∧ Arv Z h w kk (.object "com/example/earnest_reactor/earnestreactor/core/ScheduledTask") (16 : Int32) [(.ref x), (.ref z), .null] .null ∧ own_TK Z h y .null dy sy .null (-1 : Int32) ∧ own_TK Z h z .null dz sz .null (1 : Int32)
set_option maxRecDepth 65536 in
set_option maxHeartbeats 40000000 in
theorem rmRV3c (l : Launch) (Z : State) (a0 : Array Value) (hw : ∀ d ∈ tables_1, d.before a0 Z = true) (ws : List Jvm.Cond) (q : Addr) (w : Addr) (kk : ClassId) (x : Addr) (dx : Int64) (sx : Int64) (y : Addr) (dy : Int64) (sy : Int64) (z : Addr) (dz : Int64) (sz : Int64) (h0 : Heap) (n0 : Nat) (Z0 : n0 ≤ h0.size) (f_O_q : own_TQ Z h0 q (.ref w) (3 : Int32)) (f_V_w : Arv Z h0 w kk (.object "com/example/earnest_reactor/earnestreactor/core/ScheduledTask") (16 : Int32) [(.ref x), (.ref y), (.ref z)] .null) (ho : Ovr Z kk "com/example/earnest_reactor/earnestreactor/core/ScheduledTask") (f_O_x : own_TK Z h0 x .null dx sx .null (0 : Int32)) (f_O_y : own_TK Z h0 y .null dy sy .null (1 : Int32)) (f_O_z : own_TK Z h0 z .null dz sz .null (2 : Int32)) (ge_q : n0 ≤ q) (ge_w : n0 ≤ w) (ge_y : n0 ≤ y) (ge_z : n0 ≤ z) (ne_x_y : x ≠ y) (ne_x_z : x ≠ z) (ne_y_z : y ≠ z) (hz : own_rb dz sz dx sx = (0 : Int32)) :
    MetFree l (⟨"com/example/earnest_reactor/earnestreactor/core/TimerQueue", "remove", "(Lcom/example/earnest_reactor/earnestreactor/core/ScheduledTask;)Z"⟩ : MethodName) (head1 (Jvm.Cond.code (⟨"com/example/earnest_reactor/earnestreactor/core/TimerQueue", "remove", "(Lcom/example/earnest_reactor/earnestreactor/core/ScheduledTask;)Z"⟩ : MethodName) prog_35_method_6_code 3 (some .boolean) :: ws) ({ frames := 4, cells := 0, slots := 0, locals := 59 } : Room)) (fun aa U => aa = #[(.ref q), (.ref y)] ∧ Z.Warmed39 U.vm ∧ U.heap = h0) (fun _ _ _ _ _ => True) (fun _ U oc U' => ∃ v L, oc = .returned v ∧ QRV3c Z q w kk x dx sx y dy sy z dz sz h0 n0 v U'.heap L ∧ FrameEnd U oc U' L ({ frames := 4, cells := 0, slots := 0, locals := 59 } : Room).cells ({ frames := 4, cells := 0, slots := 0, locals := 59 } : Room).slots) := by
  refine MetFree.of_bodySF (plainFor_of_name own_pn1) hisR ?_
  intro p e s m args below meth c s₁ Bd hml0 hP hK
  obtain ⟨rfl, hZ, hh⟩ := hP
  have hx := Bd.exec
  have hby := Bd.bytes
  have hlk := Bd.notSynchronized
  have hret := Bd.returns
  have hml : c.maxLocals = 3 := hml0
  have hown : s.vm.findClass "com/example/earnest_reactor/earnestreactor/core/TimerQueue" = some m.cls := findClass_of_methodNamed Bd.named
  have hnm := (name_of_methodNamed Bd.named Bd.method).1
  have X0 : Stand p l e ({ frames := 4, cells := 0, slots := 0, locals := 59 } : Room) s m #[(.ref q), (.ref y)] below meth c s₁ [] 0 0 := Stand.of_body Bd
  have e0 : s₁.heap = h0 := by rw [← hh, Bd.state]; rfl
  have N0 := Fr.nil n0
  refine own_body (Q := QRV3c Z q w kk x dx sx y dy sy z dz sz h0 n0) (KC := ({ frames := 4, cells := 0, slots := 0, locals := 59 } : Room).cells) (KS := ({ frames := 4, cells := 0, slots := 0, locals := 59 } : Room).slots) ?_
  rw [own_ef_rmRV3c m q y]
  have Kp : Keep h0 h0 [q, w, y, z] := Keep.refl h0 _
  refine own_aloadN X0 hx hby d15_0 (pc' := 1) rfl rfl rfl ?_
  refine own_lk6 hw X0 hx hZ hby (by rw [hml]; rfl) hown d15_1 (pc' := 4) rfl e0 f_O_y.1 (W := 0) (Nat.le_of_eq rfl) (rmGQ l Z a0 hw [] y dy sy (1 : Int32) h0 n0 Z0 f_O_y) (by decide) (by decide) (by decide) (by decide) (fun v1 T1 L1 X1 hQ1 => ?_)
  obtain ⟨rfl, Nq1, e1⟩ := hQ1
  have N1 := Fr.app N0 Nq1
  show own_End p e below _ (T1.setTop (mkF m 4 _ [(.int (1 : Int32))]))
  refine own_istoreN X1 hx hby d15_4 (pc' := 5) rfl (l' := #[.val (.ref q), .val (.ref y), .val (.int (1 : Int32))]) rfl ?_
  refine own_iloadN X1 hx hby d15_5 (pc' := 6) rfl rfl ?_
  refine own_ifY X1 hx hby d15_6 (pc' := 11) (by decide) (by decide) (show ¬ (1 : Int32) < (0 : Int32) by decide) ?_
  refine own_aloadN X1 hx hby d15_11 (pc' := 12) rfl rfl rfl ?_
  refine own_iloadN X1 hx hby d15_12 (pc' := 13) rfl rfl ?_
  have ne_q_w : q ≠ w := Exa.neArv f_O_q.1 f_V_w (wd_1 hw)
  have ne_q_y : q ≠ y := Exa.ne f_O_q.1 f_O_y.1 (by decide)
  have ne_q_z : q ≠ z := Exa.ne f_O_q.1 f_O_z.1 (by decide)
  have ne_w_y : w ≠ y := Ne.symm (Exa.neArv f_O_y.1 f_V_w (wd_14 hw))
  have ne_w_z : w ≠ z := Ne.symm (Exa.neArv f_O_z.1 f_V_w (wd_14 hw))
  have ne_x_q : x ≠ q := Exa.ne f_O_x.1 f_O_q.1 (by decide)
  have ne_x_w : x ≠ w := Exa.neArv f_O_x.1 f_V_w (wd_14 hw)
  refine own_lk5 hw X1 hx hZ hby (by rw [hml]; rfl) hown d15_13 (pc' := 16) rfl e1 f_O_q.1 (W := 0) (Nat.le_of_eq rfl) (rmR3c l Z a0 hw [] q w kk x dx sx y dy sy z dz sz h0 n0 Z0 f_O_q f_V_w ho f_O_x f_O_y f_O_z ge_q ge_w ge_y ge_z ne_x_y ne_x_z ne_y_z hz) (by decide) (by decide) (by decide) (by decide) (fun v2 T2 L2 X2 hQ2 => ?_)
  obtain ⟨rfl, Nq2, K2, Oq2, V2, Oy2, Oz2⟩ := hQ2
  have N2 := Fr.app N1 Nq2
  have f_O_x := f_O_x.keep K2 (ninS ne_x_q (ninS ne_x_w (ninS ne_x_y (ninS ne_x_z nin0))))
  have Zn := Nat.le_trans Z0 K2.1
  have Kp := Kp.trans K2 (allS (Or.inl (List.mem_of_getElem? (i := 0) rfl)) (allS (Or.inl (List.mem_of_getElem? (i := 1) rfl)) (allS (Or.inl (List.mem_of_getElem? (i := 2) rfl)) (allS (Or.inl (List.mem_of_getElem? (i := 3) rfl)) all0))))
  show own_End p e below _ (T2.setTop (mkF m 16 _ []))
  refine own_iconst X2 hx hby d15_16 (pc' := 17) rfl (n := (1 : Int32)) (by decide) ?_
  refine own_zreturn X2 hx hlk hby hret (Or.inr rfl) d15_17 (own_lv ?_ (by decide) (by decide))
  show QRV3c Z q w kk x dx sx y dy sy z dz sz  h0 n0 (some (.int (1 : Int32))) T2.heap _
  exact ⟨rfl, N2, Kp, Oq2, V2, Oy2, Oz2⟩
theorem own_ef_rmRV3d (m : MethodId) (q : Addr) (y : Addr)  : entryFrame m #[(.ref q), (.ref y)] 3 = mkF m 0 #[.val (.ref q), .val (.ref y), .unset] [] := by first | (simp [entryFrame, mkF, argsToLocals, Value.category]; done) | rfl
def QRV3d (Z : State) (q : Addr) (w : Addr) (kk : ClassId) (x : Addr) (dx : Int64) (sx : Int64) (y : Addr) (dy : Int64) (sy : Int64) (z : Addr) (dz : Int64) (sz : Int64) (h0 : Heap) (n0 : Nat) (v : Option Value) (h : Heap) (L : List Loc) : Prop := v = some (.int (1 : Int32)) ∧ Fr n0 L ∧ Keep h0 h [q, w, x, y, z] ∧ own_TQ Z h q (.ref w) (2 : Int32) ∧ Arv Z h w kk (.object "com/example/earnest_reactor/earnestreactor/core/ScheduledTask") (16 : Int32) [(.ref z), (.ref x), .null] .null ∧ own_TK Z h x .null dx sx .null (1 : Int32) ∧ own_TK Z h y .null dy sy .null (-1 : Int32) ∧ own_TK Z h z .null dz sz .null (0 : Int32)
set_option maxRecDepth 65536 in
set_option maxHeartbeats 40000000 in
theorem rmRV3d (l : Launch) (Z : State) (a0 : Array Value) (hw : ∀ d ∈ tables_1, d.before a0 Z = true) (ws : List Jvm.Cond) (q : Addr) (w : Addr) (kk : ClassId) (x : Addr) (dx : Int64) (sx : Int64) (y : Addr) (dy : Int64) (sy : Int64) (z : Addr) (dz : Int64) (sz : Int64) (h0 : Heap) (n0 : Nat) (Z0 : n0 ≤ h0.size) (f_O_q : own_TQ Z h0 q (.ref w) (3 : Int32)) (f_V_w : Arv Z h0 w kk (.object "com/example/earnest_reactor/earnestreactor/core/ScheduledTask") (16 : Int32) [(.ref x), (.ref y), (.ref z)] .null) (ho : Ovr Z kk "com/example/earnest_reactor/earnestreactor/core/ScheduledTask") (f_O_x : own_TK Z h0 x .null dx sx .null (0 : Int32)) (f_O_y : own_TK Z h0 y .null dy sy .null (1 : Int32)) (f_O_z : own_TK Z h0 z .null dz sz .null (2 : Int32)) (ge_q : n0 ≤ q) (ge_w : n0 ≤ w) (ge_x : n0 ≤ x) (ge_y : n0 ≤ y) (ge_z : n0 ≤ z) (ne_x_y : x ≠ y) (ne_x_z : x ≠ z) (ne_y_z : y ≠ z) (hz : own_rb dz sz dx sx = (1 : Int32)) :
    MetFree l (⟨"com/example/earnest_reactor/earnestreactor/core/TimerQueue", "remove", "(Lcom/example/earnest_reactor/earnestreactor/core/ScheduledTask;)Z"⟩ : MethodName) (head1 (Jvm.Cond.code (⟨"com/example/earnest_reactor/earnestreactor/core/TimerQueue", "remove", "(Lcom/example/earnest_reactor/earnestreactor/core/ScheduledTask;)Z"⟩ : MethodName) prog_35_method_6_code 3 (some .boolean) :: ws) ({ frames := 4, cells := 0, slots := 0, locals := 59 } : Room)) (fun aa U => aa = #[(.ref q), (.ref y)] ∧ Z.Warmed39 U.vm ∧ U.heap = h0) (fun _ _ _ _ _ => True) (fun _ U oc U' => ∃ v L, oc = .returned v ∧ QRV3d Z q w kk x dx sx y dy sy z dz sz h0 n0 v U'.heap L ∧ FrameEnd U oc U' L ({ frames := 4, cells := 0, slots := 0, locals := 59 } : Room).cells ({ frames := 4, cells := 0, slots := 0, locals := 59 } : Room).slots) := by
  refine MetFree.of_bodySF (plainFor_of_name own_pn1) hisR ?_
  intro p e s m args below meth c s₁ Bd hml0 hP hK
  obtain ⟨rfl, hZ, hh⟩ := hP
  have hx := Bd.exec
  have hby := Bd.bytes
  have hlk := Bd.notSynchronized
  have hret := Bd.returns
  have hml : c.maxLocals = 3 := hml0
  have hown : s.vm.findClass "com/example/earnest_reactor/earnestreactor/core/TimerQueue" = some m.cls := findClass_of_methodNamed Bd.named
  have hnm := (name_of_methodNamed Bd.named Bd.method).1
  have X0 : Stand p l e ({ frames := 4, cells := 0, slots := 0, locals := 59 } : Room) s m #[(.ref q), (.ref y)] below meth c s₁ [] 0 0 := Stand.of_body Bd
  have e0 : s₁.heap = h0 := by rw [← hh, Bd.state]; rfl
  have N0 := Fr.nil n0
  refine own_body (Q := QRV3d Z q w kk x dx sx y dy sy z dz sz h0 n0) (KC := ({ frames := 4, cells := 0, slots := 0, locals := 59 } : Room).cells) (KS := ({ frames := 4, cells := 0, slots := 0, locals := 59 } : Room).slots) ?_
  rw [own_ef_rmRV3d m q y]
  have Kp : Keep h0 h0 [q, w, x, y, z] := Keep.refl h0 _
  refine own_aloadN X0 hx hby d15_0 (pc' := 1) rfl rfl rfl ?_
  refine own_lk6 hw X0 hx hZ hby (by rw [hml]; rfl) hown d15_1 (pc' := 4) rfl e0 f_O_y.1 (W := 0) (Nat.le_of_eq rfl) (rmGQ l Z a0 hw [] y dy sy (1 : Int32) h0 n0 Z0 f_O_y) (by decide) (by decide) (by decide) (by decide) (fun v1 T1 L1 X1 hQ1 => ?_)
  obtain ⟨rfl, Nq1, e1⟩ := hQ1
  have N1 := Fr.app N0 Nq1
  show own_End p e below _ (T1.setTop (mkF m 4 _ [(.int (1 : Int32))]))
  refine own_istoreN X1 hx hby d15_4 (pc' := 5) rfl (l' := #[.val (.ref q), .val (.ref y), .val (.int (1 : Int32))]) rfl ?_
  refine own_iloadN X1 hx hby d15_5 (pc' := 6) rfl rfl ?_
  refine own_ifY X1 hx hby d15_6 (pc' := 11) (by decide) (by decide) (show ¬ (1 : Int32) < (0 : Int32) by decide) ?_
  refine own_aloadN X1 hx hby d15_11 (pc' := 12) rfl rfl rfl ?_
  refine own_iloadN X1 hx hby d15_12 (pc' := 13) rfl rfl ?_
  have ne_q_w : q ≠ w := Exa.neArv f_O_q.1 f_V_w (wd_1 hw)
  have ne_q_x : q ≠ x := Exa.ne f_O_q.1 f_O_x.1 (by decide)
  have ne_q_y : q ≠ y := Exa.ne f_O_q.1 f_O_y.1 (by decide)
  have ne_q_z : q ≠ z := Exa.ne f_O_q.1 f_O_z.1 (by decide)
  have ne_w_x : w ≠ x := Ne.symm (Exa.neArv f_O_x.1 f_V_w (wd_14 hw))
  have ne_w_y : w ≠ y := Ne.symm (Exa.neArv f_O_y.1 f_V_w (wd_14 hw))
  have ne_w_z : w ≠ z := Ne.symm (Exa.neArv f_O_z.1 f_V_w (wd_14 hw))
  refine own_lk5 hw X1 hx hZ hby (by rw [hml]; rfl) hown d15_13 (pc' := 16) rfl e1 f_O_q.1 (W := 0) (Nat.le_of_eq rfl) (rmR3d l Z a0 hw [] q w kk x dx sx y dy sy z dz sz h0 n0 Z0 f_O_q f_V_w ho f_O_x f_O_y f_O_z ge_q ge_w ge_x ge_y ge_z ne_x_y ne_x_z ne_y_z hz) (by decide) (by decide) (by decide) (by decide) (fun v2 T2 L2 X2 hQ2 => ?_)
  obtain ⟨rfl, Nq2, K2, Oq2, V2, Ox2, Oy2, Oz2⟩ := hQ2
  have N2 := Fr.app N1 Nq2
  have Zn := Nat.le_trans Z0 K2.1
  have Kp := Kp.trans K2 (allS (Or.inl (List.mem_of_getElem? (i := 0) rfl)) (allS (Or.inl (List.mem_of_getElem? (i := 1) rfl)) (allS (Or.inl (List.mem_of_getElem? (i := 2) rfl)) (allS (Or.inl (List.mem_of_getElem? (i := 3) rfl)) (allS (Or.inl (List.mem_of_getElem? (i := 4) rfl)) all0)))))
  show own_End p e below _ (T2.setTop (mkF m 16 _ []))
  refine own_iconst X2 hx hby d15_16 (pc' := 17) rfl (n := (1 : Int32)) (by decide) ?_
  refine own_zreturn X2 hx hlk hby hret (Or.inr rfl) d15_17 (own_lv ?_ (by decide) (by decide))
  show QRV3d Z q w kk x dx sx y dy sy z dz sz  h0 n0 (some (.int (1 : Int32))) T2.heap _
  exact ⟨rfl, N2, Kp, Oq2, V2, Ox2, Oy2, Oz2⟩
theorem own_ef_rm0 (m : MethodId) (p0 : Int32) (p1 : Int64) (p2 : Int64) (p3 : Int64)  : entryFrame m #[(.int p0), (.long p1), (.long p2), (.long p3)] maxLocals = mkF m 0 #[.val (.int p0), .val (.long p1), .second, .val (.long p2), .second, .val (.long p3), .second, .unset, .unset, .unset, .unset, .unset, .unset, .unset, .unset, .unset, .unset] [] := by first | (simp [entryFrame, mkF, argsToLocals, Value.category, maxLocals]; done) | rfl
def Q0 (Z : State) (p0 : Int32) (p1 : Int64) (p2 : Int64) (p3 : Int64) (h0 : Heap) (n0 : Nat) (v : Option Value) (h : Heap) (L : List Loc) : Prop := v = some (.int 1) ∧ Fr n0 L
set_option maxRecDepth 65536 in
set_option maxHeartbeats 40000000 in
theorem own_B0 {p : Program} {l : Launch} {e : Env} {s : State} {m : MethodId} {below : List Frame} {meth : Method} {c : Code} {T0 : State} {locs : List Loc} (Z : State) (a0 : Array Value) (hw : ∀ d ∈ tables_1, d.before a0 Z = true) (p0 : Int32) (p1 : Int64) (p2 : Int64) (p3 : Int64) (q : Addr) (w : Addr) (kk : ClassId) (n : Int32) (rm : Int32) (rf : Int32) (ta : Addr) (tb : Addr) (tc : Addr) (s16 : Slot) (h0 : Heap) (n0 : Nat) (h1 : Heap)
    (X0 : Stand p l e room_1 s m #[(.int p0), (.long p1), (.long p2), (.long p3)] below meth c T0 locs 5 33) (hx : p.tables.exec = Jvm.exec) (hby : c.code = code) (hlk : meth.locks = false) (hml : c.maxLocals = 17) (hown : s.vm.findClass "com/example/earnest_reactor/earnestreactor/core/TimerQueueIsEmptyPinLaw" = some m.cls) (hret : meth.sig.returnType = some .boolean) (hZ : Z.Warmed39 s.vm) (e1 : T0.heap = h1) (N0 : Fr n0 locs) (Z1 : n0 ≤ h1.size) (f_O_q : own_TQ Z h1 q (.ref w) (0 : Int32)) (f_V_w : Arv Z h1 w kk (.object "com/example/earnest_reactor/earnestreactor/core/ScheduledTask") (16 : Int32) [.null, .null, .null] .null) (ho : Ovr Z kk "com/example/earnest_reactor/earnestreactor/core/ScheduledTask") (ge_q : n0 ≤ q) (ge_w : n0 ≤ w) (hrm : rm = (0 : Int32) ∨ rm = (1 : Int32) ∨ rm = (2 : Int32) ∨ rm = (3 : Int32)) (h16 : s16 = .unset ∨ ∃ r : Int32, s16 = .val (.int r)) :
    own_End p e below (own_F s (Q0 Z p0 p1 p2 p3 h0 n0) room_1.cells room_1.slots) (T0.setTop (mkF m 209 #[.val (.int p0), .val (.long p1), .second, .val (.long p2), .second, .val (.long p3), .second, .val (.int n), .val (.int rm), .val (.int rf), .val (.ref q), .val (.ref ta), .val (.ref tb), .val (.ref tc), .val (.int (1 : Int32)), .val (.int (0 : Int32)), s16] [])) := by
  refine own_iload X0 hx hby at_209 (pc' := 211) rfl rfl ?_
  rcases hrm with rfl | rfl | rfl | rfl
  · show own_End p e below _ (T0.setTop (mkF m 211 #[.val (.int p0), .val (.long p1), .second, .val (.long p2), .second, .val (.long p3), .second, .val (.int n), .val (.int (0 : Int32)), .val (.int rf), .val (.ref q), .val (.ref ta), .val (.ref tb), .val (.ref tc), .val (.int (1 : Int32)), .val (.int (0 : Int32)), s16] [(.int (0 : Int32))]))
    refine own_ifY X0 hx hby at_211 (pc' := 220) (by decide) (by decide) (show ¬ (0 : Int32) < (0 : Int32) by decide) ?_
    refine own_iload X0 hx hby at_220 (pc' := 222) rfl rfl ?_
    refine own_iconst X0 hx hby at_222 (pc' := 223) rfl (n := (1 : Int32)) (by decide) ?_
    refine own_icY X0 hx hby at_223 (pc' := 232) (by decide) (by decide) (show ¬ (1 : Int32) < (0 : Int32) by decide) ?_
    refine own_iload X0 hx hby at_232 (pc' := 234) rfl rfl ?_
    refine own_iconst X0 hx hby at_234 (pc' := 235) rfl (n := (2 : Int32)) (by decide) ?_
    refine own_icY X0 hx hby at_235 (pc' := 244) (by decide) (by decide) (show ¬ (2 : Int32) < (0 : Int32) by decide) ?_
    refine own_iconst X0 hx hby at_244 (pc' := 245) rfl (n := (0 : Int32)) (by decide) ?_
    refine own_iload X0 hx hby at_245 (pc' := 247) rfl rfl ?_
    refine own_iload X0 hx hby at_247 (pc' := 249) rfl rfl ?_
    refine own_isub X0 hx hby at_249 (pc' := 250) rfl ?_
    show own_End p e below _ (T0.setTop (mkF m 250 #[.val (.int p0), .val (.long p1), .second, .val (.long p2), .second, .val (.long p3), .second, .val (.int n), .val (.int (0 : Int32)), .val (.int rf), .val (.ref q), .val (.ref ta), .val (.ref tb), .val (.ref tc), .val (.int (1 : Int32)), .val (.int (0 : Int32)), s16] [(.int (0 : Int32)), (.int (0 : Int32))]))
    refine own_lk7 hw X0 hx hZ hby (by rw [hml]; rfl) hown at_250 (pc' := 253) rfl e1 (W := 0) (Nat.le_of_eq rfl) (rmMX l Z a0 hw [] (0 : Int32) (0 : Int32) h1 n0 Z1 ) (by decide) (by decide) (by decide) (by decide) (fun v2 T2 L2 X2 hQ2 => ?_)
    obtain ⟨rfl, Nq2, e2⟩ := hQ2
    have N2 := Fr.app N0 Nq2
    show own_End p e below _ (T2.setTop (mkF m 253 _ [(.int (0 : Int32))]))
    refine own_istore X2 hx hby at_253 (pc' := 255) rfl (l' := #[.val (.int p0), .val (.long p1), .second, .val (.long p2), .second, .val (.long p3), .second, .val (.int n), .val (.int (0 : Int32)), .val (.int rf), .val (.ref q), .val (.ref ta), .val (.ref tb), .val (.ref tc), .val (.int (1 : Int32)), .val (.int (0 : Int32)), s16]) rfl ?_
    refine own_iload X2 hx hby at_255 (pc' := 257) rfl rfl ?_
    refine own_ifN X2 hx hby at_257 (pc' := 260) rfl (show (0 : Int32) = (0 : Int32) by decide) ?_
    refine own_iconst X2 hx hby at_260 (pc' := 261) rfl (n := (1 : Int32)) (by decide) ?_
    refine own_goto X2 hx hby at_261 (pc' := 265) (by decide) (by decide) ?_
    rcases h16 with rfl | ⟨r16, rfl⟩
    · show own_End p e below _ (T2.setTop (mkF m 265 #[.val (.int p0), .val (.long p1), .second, .val (.long p2), .second, .val (.long p3), .second, .val (.int n), .val (.int (0 : Int32)), .val (.int rf), .val (.ref q), .val (.ref ta), .val (.ref tb), .val (.ref tc), .val (.int (1 : Int32)), .val (.int (0 : Int32)), .unset] [(.int (1 : Int32))]))
      refine own_istore X2 hx hby at_265 (pc' := 267) rfl (l' := #[.val (.int p0), .val (.long p1), .second, .val (.long p2), .second, .val (.long p3), .second, .val (.int n), .val (.int (0 : Int32)), .val (.int rf), .val (.ref q), .val (.ref ta), .val (.ref tb), .val (.ref tc), .val (.int (1 : Int32)), .val (.int (0 : Int32)), .val (.int (1 : Int32))]) rfl ?_
      refine own_iload X2 hx hby at_267 (pc' := 269) rfl rfl ?_
      refine own_ifN X2 hx hby at_269 (pc' := 272) rfl (show ¬ (1 : Int32) = (0 : Int32) by decide) ?_
      refine own_aload X2 hx hby at_272 (pc' := 274) rfl rfl rfl ?_
      refine own_lk8 hw X2 hx hZ hby (by rw [hml]; rfl) hown at_274 (pc' := 277) rfl e2 f_O_q.1 (W := 0) (Nat.le_of_eq rfl) (rmE0 l Z a0 hw [] q w h1 n0 Z1 f_O_q) (by decide) (by decide) (by decide) (by decide) (fun v3 T3 L3 X3 hQ3 => ?_)
      obtain ⟨rfl, Nq3, e3⟩ := hQ3
      have N3 := Fr.app N2 Nq3
      show own_End p e below _ (T3.setTop (mkF m 277 _ [(.int (1 : Int32))]))
      refine own_iload X3 hx hby at_277 (pc' := 279) rfl rfl ?_
      refine own_icN X3 hx hby at_279 (pc' := 282) rfl (show (1 : Int32) = (1 : Int32) by decide) ?_
      refine own_aload X3 hx hby at_282 (pc' := 284) rfl rfl rfl ?_
      refine own_lk9 hw X3 hx hZ hby (by rw [hml]; rfl) hown at_284 (pc' := 287) rfl e3 f_O_q.1 (W := 0) (Nat.le_of_eq rfl) (rmPK0 l Z a0 hw [] q w kk (0 : Int32) .null .null rfl rfl h1 n0 Z1 f_O_q f_V_w) (by decide) (by decide) (by decide) (by decide) (fun v4 T4 L4 X4 hQ4 => ?_)
      obtain ⟨rfl, Nq4, e4⟩ := hQ4
      have N4 := Fr.app N3 Nq4
      show own_End p e below _ (T4.setTop (mkF m 287 _ [.null]))
      refine own_ifnonnullN X4 hx hby at_287 (pc' := 290) rfl ?_
      refine own_iconst X4 hx hby at_290 (pc' := 291) rfl (n := (1 : Int32)) (by decide) ?_
      refine own_goto X4 hx hby at_291 (pc' := 295) (by decide) (by decide) ?_
      refine own_iload X4 hx hby at_295 (pc' := 297) rfl rfl ?_
      refine own_icN X4 hx hby at_297 (pc' := 300) rfl (show (1 : Int32) = (1 : Int32) by decide) ?_
      refine own_iconst X4 hx hby at_300 (pc' := 301) rfl (n := (1 : Int32)) (by decide) ?_
      refine own_goto X4 hx hby at_301 (pc' := 305) (by decide) (by decide) ?_
      refine own_istore X4 hx hby at_305 (pc' := 307) rfl (l' := #[.val (.int p0), .val (.long p1), .second, .val (.long p2), .second, .val (.long p3), .second, .val (.int n), .val (.int (0 : Int32)), .val (.int rf), .val (.ref q), .val (.ref ta), .val (.ref tb), .val (.ref tc), .val (.int (1 : Int32)), .val (.int (0 : Int32)), .val (.int (1 : Int32))]) rfl ?_
      refine own_iload X4 hx hby at_307 (pc' := 309) rfl rfl ?_
      refine own_zreturn X4 hx hlk hby hret (Or.inr rfl) at_309 (own_lv ?_ (by decide) (by decide))
      show Q0 Z p0 p1 p2 p3  h0 n0 (some (.int (1 : Int32))) T4.heap _
      rw [e4]
      exact ⟨rfl, N4⟩
    · show own_End p e below _ (T2.setTop (mkF m 265 #[.val (.int p0), .val (.long p1), .second, .val (.long p2), .second, .val (.long p3), .second, .val (.int n), .val (.int (0 : Int32)), .val (.int rf), .val (.ref q), .val (.ref ta), .val (.ref tb), .val (.ref tc), .val (.int (1 : Int32)), .val (.int (0 : Int32)), .val (.int r16)] [(.int (1 : Int32))]))
      refine own_istore X2 hx hby at_265 (pc' := 267) rfl (l' := #[.val (.int p0), .val (.long p1), .second, .val (.long p2), .second, .val (.long p3), .second, .val (.int n), .val (.int (0 : Int32)), .val (.int rf), .val (.ref q), .val (.ref ta), .val (.ref tb), .val (.ref tc), .val (.int (1 : Int32)), .val (.int (0 : Int32)), .val (.int (1 : Int32))]) rfl ?_
      refine own_iload X2 hx hby at_267 (pc' := 269) rfl rfl ?_
      refine own_ifN X2 hx hby at_269 (pc' := 272) rfl (show ¬ (1 : Int32) = (0 : Int32) by decide) ?_
      refine own_aload X2 hx hby at_272 (pc' := 274) rfl rfl rfl ?_
      refine own_lk8 hw X2 hx hZ hby (by rw [hml]; rfl) hown at_274 (pc' := 277) rfl e2 f_O_q.1 (W := 0) (Nat.le_of_eq rfl) (rmE0 l Z a0 hw [] q w h1 n0 Z1 f_O_q) (by decide) (by decide) (by decide) (by decide) (fun v5 T5 L5 X5 hQ5 => ?_)
      obtain ⟨rfl, Nq5, e5⟩ := hQ5
      have N5 := Fr.app N2 Nq5
      show own_End p e below _ (T5.setTop (mkF m 277 _ [(.int (1 : Int32))]))
      refine own_iload X5 hx hby at_277 (pc' := 279) rfl rfl ?_
      refine own_icN X5 hx hby at_279 (pc' := 282) rfl (show (1 : Int32) = (1 : Int32) by decide) ?_
      refine own_aload X5 hx hby at_282 (pc' := 284) rfl rfl rfl ?_
      refine own_lk9 hw X5 hx hZ hby (by rw [hml]; rfl) hown at_284 (pc' := 287) rfl e5 f_O_q.1 (W := 0) (Nat.le_of_eq rfl) (rmPK0 l Z a0 hw [] q w kk (0 : Int32) .null .null rfl rfl h1 n0 Z1 f_O_q f_V_w) (by decide) (by decide) (by decide) (by decide) (fun v6 T6 L6 X6 hQ6 => ?_)
      obtain ⟨rfl, Nq6, e6⟩ := hQ6
      have N6 := Fr.app N5 Nq6
      show own_End p e below _ (T6.setTop (mkF m 287 _ [.null]))
      refine own_ifnonnullN X6 hx hby at_287 (pc' := 290) rfl ?_
      refine own_iconst X6 hx hby at_290 (pc' := 291) rfl (n := (1 : Int32)) (by decide) ?_
      refine own_goto X6 hx hby at_291 (pc' := 295) (by decide) (by decide) ?_
      refine own_iload X6 hx hby at_295 (pc' := 297) rfl rfl ?_
      refine own_icN X6 hx hby at_297 (pc' := 300) rfl (show (1 : Int32) = (1 : Int32) by decide) ?_
      refine own_iconst X6 hx hby at_300 (pc' := 301) rfl (n := (1 : Int32)) (by decide) ?_
      refine own_goto X6 hx hby at_301 (pc' := 305) (by decide) (by decide) ?_
      refine own_istore X6 hx hby at_305 (pc' := 307) rfl (l' := #[.val (.int p0), .val (.long p1), .second, .val (.long p2), .second, .val (.long p3), .second, .val (.int n), .val (.int (0 : Int32)), .val (.int rf), .val (.ref q), .val (.ref ta), .val (.ref tb), .val (.ref tc), .val (.int (1 : Int32)), .val (.int (0 : Int32)), .val (.int (1 : Int32))]) rfl ?_
      refine own_iload X6 hx hby at_307 (pc' := 309) rfl rfl ?_
      refine own_zreturn X6 hx hlk hby hret (Or.inr rfl) at_309 (own_lv ?_ (by decide) (by decide))
      show Q0 Z p0 p1 p2 p3  h0 n0 (some (.int (1 : Int32))) T6.heap _
      rw [e6]
      exact ⟨rfl, N6⟩
  · show own_End p e below _ (T0.setTop (mkF m 211 #[.val (.int p0), .val (.long p1), .second, .val (.long p2), .second, .val (.long p3), .second, .val (.int n), .val (.int (1 : Int32)), .val (.int rf), .val (.ref q), .val (.ref ta), .val (.ref tb), .val (.ref tc), .val (.int (1 : Int32)), .val (.int (0 : Int32)), s16] [(.int (1 : Int32))]))
    refine own_ifN X0 hx hby at_211 (pc' := 214) rfl (show (0 : Int32) < (1 : Int32) by decide) ?_
    refine own_aload X0 hx hby at_214 (pc' := 216) rfl rfl rfl ?_
    refine own_lk10 hw X0 hx hZ hby (by rw [hml]; rfl) hown at_216 (pc' := 219) rfl e1 f_O_q.1 (W := 0) (Nat.le_of_eq rfl) (rmP0 l Z a0 hw [] q w kk h1 n0 Z1 f_O_q f_V_w ho) (by decide) (by decide) (by decide) (by decide) (fun v7 T7 L7 X7 hQ7 => ?_)
    obtain ⟨rfl, Nq7, e7⟩ := hQ7
    have N7 := Fr.app N0 Nq7
    show own_End p e below _ (T7.setTop (mkF m 219 _ [.null]))
    refine own_pop X7 hx hby at_219 (pc' := 220) rfl rfl ?_
    refine own_iload X7 hx hby at_220 (pc' := 222) rfl rfl ?_
    refine own_iconst X7 hx hby at_222 (pc' := 223) rfl (n := (1 : Int32)) (by decide) ?_
    refine own_icY X7 hx hby at_223 (pc' := 232) (by decide) (by decide) (show ¬ (1 : Int32) < (1 : Int32) by decide) ?_
    refine own_iload X7 hx hby at_232 (pc' := 234) rfl rfl ?_
    refine own_iconst X7 hx hby at_234 (pc' := 235) rfl (n := (2 : Int32)) (by decide) ?_
    refine own_icY X7 hx hby at_235 (pc' := 244) (by decide) (by decide) (show ¬ (2 : Int32) < (1 : Int32) by decide) ?_
    refine own_iconst X7 hx hby at_244 (pc' := 245) rfl (n := (0 : Int32)) (by decide) ?_
    refine own_iload X7 hx hby at_245 (pc' := 247) rfl rfl ?_
    refine own_iload X7 hx hby at_247 (pc' := 249) rfl rfl ?_
    refine own_isub X7 hx hby at_249 (pc' := 250) rfl ?_
    show own_End p e below _ (T7.setTop (mkF m 250 #[.val (.int p0), .val (.long p1), .second, .val (.long p2), .second, .val (.long p3), .second, .val (.int n), .val (.int (1 : Int32)), .val (.int rf), .val (.ref q), .val (.ref ta), .val (.ref tb), .val (.ref tc), .val (.int (1 : Int32)), .val (.int (0 : Int32)), s16] [(.int (-1 : Int32)), (.int (0 : Int32))]))
    refine own_lk7 hw X7 hx hZ hby (by rw [hml]; rfl) hown at_250 (pc' := 253) rfl e7 (W := 0) (Nat.le_of_eq rfl) (rmMX l Z a0 hw [] (0 : Int32) (-1 : Int32) h1 n0 Z1 ) (by decide) (by decide) (by decide) (by decide) (fun v8 T8 L8 X8 hQ8 => ?_)
    obtain ⟨rfl, Nq8, e8⟩ := hQ8
    have N8 := Fr.app N7 Nq8
    show own_End p e below _ (T8.setTop (mkF m 253 _ [(.int (0 : Int32))]))
    refine own_istore X8 hx hby at_253 (pc' := 255) rfl (l' := #[.val (.int p0), .val (.long p1), .second, .val (.long p2), .second, .val (.long p3), .second, .val (.int n), .val (.int (1 : Int32)), .val (.int rf), .val (.ref q), .val (.ref ta), .val (.ref tb), .val (.ref tc), .val (.int (1 : Int32)), .val (.int (0 : Int32)), s16]) rfl ?_
    refine own_iload X8 hx hby at_255 (pc' := 257) rfl rfl ?_
    refine own_ifN X8 hx hby at_257 (pc' := 260) rfl (show (0 : Int32) = (0 : Int32) by decide) ?_
    refine own_iconst X8 hx hby at_260 (pc' := 261) rfl (n := (1 : Int32)) (by decide) ?_
    refine own_goto X8 hx hby at_261 (pc' := 265) (by decide) (by decide) ?_
    rcases h16 with rfl | ⟨r16, rfl⟩
    · show own_End p e below _ (T8.setTop (mkF m 265 #[.val (.int p0), .val (.long p1), .second, .val (.long p2), .second, .val (.long p3), .second, .val (.int n), .val (.int (1 : Int32)), .val (.int rf), .val (.ref q), .val (.ref ta), .val (.ref tb), .val (.ref tc), .val (.int (1 : Int32)), .val (.int (0 : Int32)), .unset] [(.int (1 : Int32))]))
      refine own_istore X8 hx hby at_265 (pc' := 267) rfl (l' := #[.val (.int p0), .val (.long p1), .second, .val (.long p2), .second, .val (.long p3), .second, .val (.int n), .val (.int (1 : Int32)), .val (.int rf), .val (.ref q), .val (.ref ta), .val (.ref tb), .val (.ref tc), .val (.int (1 : Int32)), .val (.int (0 : Int32)), .val (.int (1 : Int32))]) rfl ?_
      refine own_iload X8 hx hby at_267 (pc' := 269) rfl rfl ?_
      refine own_ifN X8 hx hby at_269 (pc' := 272) rfl (show ¬ (1 : Int32) = (0 : Int32) by decide) ?_
      refine own_aload X8 hx hby at_272 (pc' := 274) rfl rfl rfl ?_
      refine own_lk8 hw X8 hx hZ hby (by rw [hml]; rfl) hown at_274 (pc' := 277) rfl e8 f_O_q.1 (W := 0) (Nat.le_of_eq rfl) (rmE0 l Z a0 hw [] q w h1 n0 Z1 f_O_q) (by decide) (by decide) (by decide) (by decide) (fun v9 T9 L9 X9 hQ9 => ?_)
      obtain ⟨rfl, Nq9, e9⟩ := hQ9
      have N9 := Fr.app N8 Nq9
      show own_End p e below _ (T9.setTop (mkF m 277 _ [(.int (1 : Int32))]))
      refine own_iload X9 hx hby at_277 (pc' := 279) rfl rfl ?_
      refine own_icN X9 hx hby at_279 (pc' := 282) rfl (show (1 : Int32) = (1 : Int32) by decide) ?_
      refine own_aload X9 hx hby at_282 (pc' := 284) rfl rfl rfl ?_
      refine own_lk9 hw X9 hx hZ hby (by rw [hml]; rfl) hown at_284 (pc' := 287) rfl e9 f_O_q.1 (W := 0) (Nat.le_of_eq rfl) (rmPK0 l Z a0 hw [] q w kk (0 : Int32) .null .null rfl rfl h1 n0 Z1 f_O_q f_V_w) (by decide) (by decide) (by decide) (by decide) (fun v10 T10 L10 X10 hQ10 => ?_)
      obtain ⟨rfl, Nq10, e10⟩ := hQ10
      have N10 := Fr.app N9 Nq10
      show own_End p e below _ (T10.setTop (mkF m 287 _ [.null]))
      refine own_ifnonnullN X10 hx hby at_287 (pc' := 290) rfl ?_
      refine own_iconst X10 hx hby at_290 (pc' := 291) rfl (n := (1 : Int32)) (by decide) ?_
      refine own_goto X10 hx hby at_291 (pc' := 295) (by decide) (by decide) ?_
      refine own_iload X10 hx hby at_295 (pc' := 297) rfl rfl ?_
      refine own_icN X10 hx hby at_297 (pc' := 300) rfl (show (1 : Int32) = (1 : Int32) by decide) ?_
      refine own_iconst X10 hx hby at_300 (pc' := 301) rfl (n := (1 : Int32)) (by decide) ?_
      refine own_goto X10 hx hby at_301 (pc' := 305) (by decide) (by decide) ?_
      refine own_istore X10 hx hby at_305 (pc' := 307) rfl (l' := #[.val (.int p0), .val (.long p1), .second, .val (.long p2), .second, .val (.long p3), .second, .val (.int n), .val (.int (1 : Int32)), .val (.int rf), .val (.ref q), .val (.ref ta), .val (.ref tb), .val (.ref tc), .val (.int (1 : Int32)), .val (.int (0 : Int32)), .val (.int (1 : Int32))]) rfl ?_
      refine own_iload X10 hx hby at_307 (pc' := 309) rfl rfl ?_
      refine own_zreturn X10 hx hlk hby hret (Or.inr rfl) at_309 (own_lv ?_ (by decide) (by decide))
      show Q0 Z p0 p1 p2 p3  h0 n0 (some (.int (1 : Int32))) T10.heap _
      rw [e10]
      exact ⟨rfl, N10⟩
    · show own_End p e below _ (T8.setTop (mkF m 265 #[.val (.int p0), .val (.long p1), .second, .val (.long p2), .second, .val (.long p3), .second, .val (.int n), .val (.int (1 : Int32)), .val (.int rf), .val (.ref q), .val (.ref ta), .val (.ref tb), .val (.ref tc), .val (.int (1 : Int32)), .val (.int (0 : Int32)), .val (.int r16)] [(.int (1 : Int32))]))
      refine own_istore X8 hx hby at_265 (pc' := 267) rfl (l' := #[.val (.int p0), .val (.long p1), .second, .val (.long p2), .second, .val (.long p3), .second, .val (.int n), .val (.int (1 : Int32)), .val (.int rf), .val (.ref q), .val (.ref ta), .val (.ref tb), .val (.ref tc), .val (.int (1 : Int32)), .val (.int (0 : Int32)), .val (.int (1 : Int32))]) rfl ?_
      refine own_iload X8 hx hby at_267 (pc' := 269) rfl rfl ?_
      refine own_ifN X8 hx hby at_269 (pc' := 272) rfl (show ¬ (1 : Int32) = (0 : Int32) by decide) ?_
      refine own_aload X8 hx hby at_272 (pc' := 274) rfl rfl rfl ?_
      refine own_lk8 hw X8 hx hZ hby (by rw [hml]; rfl) hown at_274 (pc' := 277) rfl e8 f_O_q.1 (W := 0) (Nat.le_of_eq rfl) (rmE0 l Z a0 hw [] q w h1 n0 Z1 f_O_q) (by decide) (by decide) (by decide) (by decide) (fun v11 T11 L11 X11 hQ11 => ?_)
      obtain ⟨rfl, Nq11, e11⟩ := hQ11
      have N11 := Fr.app N8 Nq11
      show own_End p e below _ (T11.setTop (mkF m 277 _ [(.int (1 : Int32))]))
      refine own_iload X11 hx hby at_277 (pc' := 279) rfl rfl ?_
      refine own_icN X11 hx hby at_279 (pc' := 282) rfl (show (1 : Int32) = (1 : Int32) by decide) ?_
      refine own_aload X11 hx hby at_282 (pc' := 284) rfl rfl rfl ?_
      refine own_lk9 hw X11 hx hZ hby (by rw [hml]; rfl) hown at_284 (pc' := 287) rfl e11 f_O_q.1 (W := 0) (Nat.le_of_eq rfl) (rmPK0 l Z a0 hw [] q w kk (0 : Int32) .null .null rfl rfl h1 n0 Z1 f_O_q f_V_w) (by decide) (by decide) (by decide) (by decide) (fun v12 T12 L12 X12 hQ12 => ?_)
      obtain ⟨rfl, Nq12, e12⟩ := hQ12
      have N12 := Fr.app N11 Nq12
      show own_End p e below _ (T12.setTop (mkF m 287 _ [.null]))
      refine own_ifnonnullN X12 hx hby at_287 (pc' := 290) rfl ?_
      refine own_iconst X12 hx hby at_290 (pc' := 291) rfl (n := (1 : Int32)) (by decide) ?_
      refine own_goto X12 hx hby at_291 (pc' := 295) (by decide) (by decide) ?_
      refine own_iload X12 hx hby at_295 (pc' := 297) rfl rfl ?_
      refine own_icN X12 hx hby at_297 (pc' := 300) rfl (show (1 : Int32) = (1 : Int32) by decide) ?_
      refine own_iconst X12 hx hby at_300 (pc' := 301) rfl (n := (1 : Int32)) (by decide) ?_
      refine own_goto X12 hx hby at_301 (pc' := 305) (by decide) (by decide) ?_
      refine own_istore X12 hx hby at_305 (pc' := 307) rfl (l' := #[.val (.int p0), .val (.long p1), .second, .val (.long p2), .second, .val (.long p3), .second, .val (.int n), .val (.int (1 : Int32)), .val (.int rf), .val (.ref q), .val (.ref ta), .val (.ref tb), .val (.ref tc), .val (.int (1 : Int32)), .val (.int (0 : Int32)), .val (.int (1 : Int32))]) rfl ?_
      refine own_iload X12 hx hby at_307 (pc' := 309) rfl rfl ?_
      refine own_zreturn X12 hx hlk hby hret (Or.inr rfl) at_309 (own_lv ?_ (by decide) (by decide))
      show Q0 Z p0 p1 p2 p3  h0 n0 (some (.int (1 : Int32))) T12.heap _
      rw [e12]
      exact ⟨rfl, N12⟩
  · show own_End p e below _ (T0.setTop (mkF m 211 #[.val (.int p0), .val (.long p1), .second, .val (.long p2), .second, .val (.long p3), .second, .val (.int n), .val (.int (2 : Int32)), .val (.int rf), .val (.ref q), .val (.ref ta), .val (.ref tb), .val (.ref tc), .val (.int (1 : Int32)), .val (.int (0 : Int32)), s16] [(.int (2 : Int32))]))
    refine own_ifN X0 hx hby at_211 (pc' := 214) rfl (show (0 : Int32) < (2 : Int32) by decide) ?_
    refine own_aload X0 hx hby at_214 (pc' := 216) rfl rfl rfl ?_
    refine own_lk10 hw X0 hx hZ hby (by rw [hml]; rfl) hown at_216 (pc' := 219) rfl e1 f_O_q.1 (W := 0) (Nat.le_of_eq rfl) (rmP0 l Z a0 hw [] q w kk h1 n0 Z1 f_O_q f_V_w ho) (by decide) (by decide) (by decide) (by decide) (fun v13 T13 L13 X13 hQ13 => ?_)
    obtain ⟨rfl, Nq13, e13⟩ := hQ13
    have N13 := Fr.app N0 Nq13
    show own_End p e below _ (T13.setTop (mkF m 219 _ [.null]))
    refine own_pop X13 hx hby at_219 (pc' := 220) rfl rfl ?_
    refine own_iload X13 hx hby at_220 (pc' := 222) rfl rfl ?_
    refine own_iconst X13 hx hby at_222 (pc' := 223) rfl (n := (1 : Int32)) (by decide) ?_
    refine own_icN X13 hx hby at_223 (pc' := 226) rfl (show (1 : Int32) < (2 : Int32) by decide) ?_
    refine own_aload X13 hx hby at_226 (pc' := 228) rfl rfl rfl ?_
    refine own_lk10 hw X13 hx hZ hby (by rw [hml]; rfl) hown at_228 (pc' := 231) rfl e13 f_O_q.1 (W := 0) (Nat.le_of_eq rfl) (rmP0 l Z a0 hw [] q w kk h1 n0 Z1 f_O_q f_V_w ho) (by decide) (by decide) (by decide) (by decide) (fun v14 T14 L14 X14 hQ14 => ?_)
    obtain ⟨rfl, Nq14, e14⟩ := hQ14
    have N14 := Fr.app N13 Nq14
    show own_End p e below _ (T14.setTop (mkF m 231 _ [.null]))
    refine own_pop X14 hx hby at_231 (pc' := 232) rfl rfl ?_
    refine own_iload X14 hx hby at_232 (pc' := 234) rfl rfl ?_
    refine own_iconst X14 hx hby at_234 (pc' := 235) rfl (n := (2 : Int32)) (by decide) ?_
    refine own_icY X14 hx hby at_235 (pc' := 244) (by decide) (by decide) (show ¬ (2 : Int32) < (2 : Int32) by decide) ?_
    refine own_iconst X14 hx hby at_244 (pc' := 245) rfl (n := (0 : Int32)) (by decide) ?_
    refine own_iload X14 hx hby at_245 (pc' := 247) rfl rfl ?_
    refine own_iload X14 hx hby at_247 (pc' := 249) rfl rfl ?_
    refine own_isub X14 hx hby at_249 (pc' := 250) rfl ?_
    show own_End p e below _ (T14.setTop (mkF m 250 #[.val (.int p0), .val (.long p1), .second, .val (.long p2), .second, .val (.long p3), .second, .val (.int n), .val (.int (2 : Int32)), .val (.int rf), .val (.ref q), .val (.ref ta), .val (.ref tb), .val (.ref tc), .val (.int (1 : Int32)), .val (.int (0 : Int32)), s16] [(.int (-2 : Int32)), (.int (0 : Int32))]))
    refine own_lk7 hw X14 hx hZ hby (by rw [hml]; rfl) hown at_250 (pc' := 253) rfl e14 (W := 0) (Nat.le_of_eq rfl) (rmMX l Z a0 hw [] (0 : Int32) (-2 : Int32) h1 n0 Z1 ) (by decide) (by decide) (by decide) (by decide) (fun v15 T15 L15 X15 hQ15 => ?_)
    obtain ⟨rfl, Nq15, e15⟩ := hQ15
    have N15 := Fr.app N14 Nq15
    show own_End p e below _ (T15.setTop (mkF m 253 _ [(.int (0 : Int32))]))
    refine own_istore X15 hx hby at_253 (pc' := 255) rfl (l' := #[.val (.int p0), .val (.long p1), .second, .val (.long p2), .second, .val (.long p3), .second, .val (.int n), .val (.int (2 : Int32)), .val (.int rf), .val (.ref q), .val (.ref ta), .val (.ref tb), .val (.ref tc), .val (.int (1 : Int32)), .val (.int (0 : Int32)), s16]) rfl ?_
    refine own_iload X15 hx hby at_255 (pc' := 257) rfl rfl ?_
    refine own_ifN X15 hx hby at_257 (pc' := 260) rfl (show (0 : Int32) = (0 : Int32) by decide) ?_
    refine own_iconst X15 hx hby at_260 (pc' := 261) rfl (n := (1 : Int32)) (by decide) ?_
    refine own_goto X15 hx hby at_261 (pc' := 265) (by decide) (by decide) ?_
    rcases h16 with rfl | ⟨r16, rfl⟩
    · show own_End p e below _ (T15.setTop (mkF m 265 #[.val (.int p0), .val (.long p1), .second, .val (.long p2), .second, .val (.long p3), .second, .val (.int n), .val (.int (2 : Int32)), .val (.int rf), .val (.ref q), .val (.ref ta), .val (.ref tb), .val (.ref tc), .val (.int (1 : Int32)), .val (.int (0 : Int32)), .unset] [(.int (1 : Int32))]))
      refine own_istore X15 hx hby at_265 (pc' := 267) rfl (l' := #[.val (.int p0), .val (.long p1), .second, .val (.long p2), .second, .val (.long p3), .second, .val (.int n), .val (.int (2 : Int32)), .val (.int rf), .val (.ref q), .val (.ref ta), .val (.ref tb), .val (.ref tc), .val (.int (1 : Int32)), .val (.int (0 : Int32)), .val (.int (1 : Int32))]) rfl ?_
      refine own_iload X15 hx hby at_267 (pc' := 269) rfl rfl ?_
      refine own_ifN X15 hx hby at_269 (pc' := 272) rfl (show ¬ (1 : Int32) = (0 : Int32) by decide) ?_
      refine own_aload X15 hx hby at_272 (pc' := 274) rfl rfl rfl ?_
      refine own_lk8 hw X15 hx hZ hby (by rw [hml]; rfl) hown at_274 (pc' := 277) rfl e15 f_O_q.1 (W := 0) (Nat.le_of_eq rfl) (rmE0 l Z a0 hw [] q w h1 n0 Z1 f_O_q) (by decide) (by decide) (by decide) (by decide) (fun v16 T16 L16 X16 hQ16 => ?_)
      obtain ⟨rfl, Nq16, e16⟩ := hQ16
      have N16 := Fr.app N15 Nq16
      show own_End p e below _ (T16.setTop (mkF m 277 _ [(.int (1 : Int32))]))
      refine own_iload X16 hx hby at_277 (pc' := 279) rfl rfl ?_
      refine own_icN X16 hx hby at_279 (pc' := 282) rfl (show (1 : Int32) = (1 : Int32) by decide) ?_
      refine own_aload X16 hx hby at_282 (pc' := 284) rfl rfl rfl ?_
      refine own_lk9 hw X16 hx hZ hby (by rw [hml]; rfl) hown at_284 (pc' := 287) rfl e16 f_O_q.1 (W := 0) (Nat.le_of_eq rfl) (rmPK0 l Z a0 hw [] q w kk (0 : Int32) .null .null rfl rfl h1 n0 Z1 f_O_q f_V_w) (by decide) (by decide) (by decide) (by decide) (fun v17 T17 L17 X17 hQ17 => ?_)
      obtain ⟨rfl, Nq17, e17⟩ := hQ17
      have N17 := Fr.app N16 Nq17
      show own_End p e below _ (T17.setTop (mkF m 287 _ [.null]))
      refine own_ifnonnullN X17 hx hby at_287 (pc' := 290) rfl ?_
      refine own_iconst X17 hx hby at_290 (pc' := 291) rfl (n := (1 : Int32)) (by decide) ?_
      refine own_goto X17 hx hby at_291 (pc' := 295) (by decide) (by decide) ?_
      refine own_iload X17 hx hby at_295 (pc' := 297) rfl rfl ?_
      refine own_icN X17 hx hby at_297 (pc' := 300) rfl (show (1 : Int32) = (1 : Int32) by decide) ?_
      refine own_iconst X17 hx hby at_300 (pc' := 301) rfl (n := (1 : Int32)) (by decide) ?_
      refine own_goto X17 hx hby at_301 (pc' := 305) (by decide) (by decide) ?_
      refine own_istore X17 hx hby at_305 (pc' := 307) rfl (l' := #[.val (.int p0), .val (.long p1), .second, .val (.long p2), .second, .val (.long p3), .second, .val (.int n), .val (.int (2 : Int32)), .val (.int rf), .val (.ref q), .val (.ref ta), .val (.ref tb), .val (.ref tc), .val (.int (1 : Int32)), .val (.int (0 : Int32)), .val (.int (1 : Int32))]) rfl ?_
      refine own_iload X17 hx hby at_307 (pc' := 309) rfl rfl ?_
      refine own_zreturn X17 hx hlk hby hret (Or.inr rfl) at_309 (own_lv ?_ (by decide) (by decide))
      show Q0 Z p0 p1 p2 p3  h0 n0 (some (.int (1 : Int32))) T17.heap _
      rw [e17]
      exact ⟨rfl, N17⟩
    · show own_End p e below _ (T15.setTop (mkF m 265 #[.val (.int p0), .val (.long p1), .second, .val (.long p2), .second, .val (.long p3), .second, .val (.int n), .val (.int (2 : Int32)), .val (.int rf), .val (.ref q), .val (.ref ta), .val (.ref tb), .val (.ref tc), .val (.int (1 : Int32)), .val (.int (0 : Int32)), .val (.int r16)] [(.int (1 : Int32))]))
      refine own_istore X15 hx hby at_265 (pc' := 267) rfl (l' := #[.val (.int p0), .val (.long p1), .second, .val (.long p2), .second, .val (.long p3), .second, .val (.int n), .val (.int (2 : Int32)), .val (.int rf), .val (.ref q), .val (.ref ta), .val (.ref tb), .val (.ref tc), .val (.int (1 : Int32)), .val (.int (0 : Int32)), .val (.int (1 : Int32))]) rfl ?_
      refine own_iload X15 hx hby at_267 (pc' := 269) rfl rfl ?_
      refine own_ifN X15 hx hby at_269 (pc' := 272) rfl (show ¬ (1 : Int32) = (0 : Int32) by decide) ?_
      refine own_aload X15 hx hby at_272 (pc' := 274) rfl rfl rfl ?_
      refine own_lk8 hw X15 hx hZ hby (by rw [hml]; rfl) hown at_274 (pc' := 277) rfl e15 f_O_q.1 (W := 0) (Nat.le_of_eq rfl) (rmE0 l Z a0 hw [] q w h1 n0 Z1 f_O_q) (by decide) (by decide) (by decide) (by decide) (fun v18 T18 L18 X18 hQ18 => ?_)
      obtain ⟨rfl, Nq18, e18⟩ := hQ18
      have N18 := Fr.app N15 Nq18
      show own_End p e below _ (T18.setTop (mkF m 277 _ [(.int (1 : Int32))]))
      refine own_iload X18 hx hby at_277 (pc' := 279) rfl rfl ?_
      refine own_icN X18 hx hby at_279 (pc' := 282) rfl (show (1 : Int32) = (1 : Int32) by decide) ?_
      refine own_aload X18 hx hby at_282 (pc' := 284) rfl rfl rfl ?_
      refine own_lk9 hw X18 hx hZ hby (by rw [hml]; rfl) hown at_284 (pc' := 287) rfl e18 f_O_q.1 (W := 0) (Nat.le_of_eq rfl) (rmPK0 l Z a0 hw [] q w kk (0 : Int32) .null .null rfl rfl h1 n0 Z1 f_O_q f_V_w) (by decide) (by decide) (by decide) (by decide) (fun v19 T19 L19 X19 hQ19 => ?_)
      obtain ⟨rfl, Nq19, e19⟩ := hQ19
      have N19 := Fr.app N18 Nq19
      show own_End p e below _ (T19.setTop (mkF m 287 _ [.null]))
      refine own_ifnonnullN X19 hx hby at_287 (pc' := 290) rfl ?_
      refine own_iconst X19 hx hby at_290 (pc' := 291) rfl (n := (1 : Int32)) (by decide) ?_
      refine own_goto X19 hx hby at_291 (pc' := 295) (by decide) (by decide) ?_
      refine own_iload X19 hx hby at_295 (pc' := 297) rfl rfl ?_
      refine own_icN X19 hx hby at_297 (pc' := 300) rfl (show (1 : Int32) = (1 : Int32) by decide) ?_
      refine own_iconst X19 hx hby at_300 (pc' := 301) rfl (n := (1 : Int32)) (by decide) ?_
      refine own_goto X19 hx hby at_301 (pc' := 305) (by decide) (by decide) ?_
      refine own_istore X19 hx hby at_305 (pc' := 307) rfl (l' := #[.val (.int p0), .val (.long p1), .second, .val (.long p2), .second, .val (.long p3), .second, .val (.int n), .val (.int (2 : Int32)), .val (.int rf), .val (.ref q), .val (.ref ta), .val (.ref tb), .val (.ref tc), .val (.int (1 : Int32)), .val (.int (0 : Int32)), .val (.int (1 : Int32))]) rfl ?_
      refine own_iload X19 hx hby at_307 (pc' := 309) rfl rfl ?_
      refine own_zreturn X19 hx hlk hby hret (Or.inr rfl) at_309 (own_lv ?_ (by decide) (by decide))
      show Q0 Z p0 p1 p2 p3  h0 n0 (some (.int (1 : Int32))) T19.heap _
      rw [e19]
      exact ⟨rfl, N19⟩
  · show own_End p e below _ (T0.setTop (mkF m 211 #[.val (.int p0), .val (.long p1), .second, .val (.long p2), .second, .val (.long p3), .second, .val (.int n), .val (.int (3 : Int32)), .val (.int rf), .val (.ref q), .val (.ref ta), .val (.ref tb), .val (.ref tc), .val (.int (1 : Int32)), .val (.int (0 : Int32)), s16] [(.int (3 : Int32))]))
    refine own_ifN X0 hx hby at_211 (pc' := 214) rfl (show (0 : Int32) < (3 : Int32) by decide) ?_
    refine own_aload X0 hx hby at_214 (pc' := 216) rfl rfl rfl ?_
    refine own_lk10 hw X0 hx hZ hby (by rw [hml]; rfl) hown at_216 (pc' := 219) rfl e1 f_O_q.1 (W := 0) (Nat.le_of_eq rfl) (rmP0 l Z a0 hw [] q w kk h1 n0 Z1 f_O_q f_V_w ho) (by decide) (by decide) (by decide) (by decide) (fun v20 T20 L20 X20 hQ20 => ?_)
    obtain ⟨rfl, Nq20, e20⟩ := hQ20
    have N20 := Fr.app N0 Nq20
    show own_End p e below _ (T20.setTop (mkF m 219 _ [.null]))
    refine own_pop X20 hx hby at_219 (pc' := 220) rfl rfl ?_
    refine own_iload X20 hx hby at_220 (pc' := 222) rfl rfl ?_
    refine own_iconst X20 hx hby at_222 (pc' := 223) rfl (n := (1 : Int32)) (by decide) ?_
    refine own_icN X20 hx hby at_223 (pc' := 226) rfl (show (1 : Int32) < (3 : Int32) by decide) ?_
    refine own_aload X20 hx hby at_226 (pc' := 228) rfl rfl rfl ?_
    refine own_lk10 hw X20 hx hZ hby (by rw [hml]; rfl) hown at_228 (pc' := 231) rfl e20 f_O_q.1 (W := 0) (Nat.le_of_eq rfl) (rmP0 l Z a0 hw [] q w kk h1 n0 Z1 f_O_q f_V_w ho) (by decide) (by decide) (by decide) (by decide) (fun v21 T21 L21 X21 hQ21 => ?_)
    obtain ⟨rfl, Nq21, e21⟩ := hQ21
    have N21 := Fr.app N20 Nq21
    show own_End p e below _ (T21.setTop (mkF m 231 _ [.null]))
    refine own_pop X21 hx hby at_231 (pc' := 232) rfl rfl ?_
    refine own_iload X21 hx hby at_232 (pc' := 234) rfl rfl ?_
    refine own_iconst X21 hx hby at_234 (pc' := 235) rfl (n := (2 : Int32)) (by decide) ?_
    refine own_icN X21 hx hby at_235 (pc' := 238) rfl (show (2 : Int32) < (3 : Int32) by decide) ?_
    refine own_aload X21 hx hby at_238 (pc' := 240) rfl rfl rfl ?_
    refine own_lk10 hw X21 hx hZ hby (by rw [hml]; rfl) hown at_240 (pc' := 243) rfl e21 f_O_q.1 (W := 0) (Nat.le_of_eq rfl) (rmP0 l Z a0 hw [] q w kk h1 n0 Z1 f_O_q f_V_w ho) (by decide) (by decide) (by decide) (by decide) (fun v22 T22 L22 X22 hQ22 => ?_)
    obtain ⟨rfl, Nq22, e22⟩ := hQ22
    have N22 := Fr.app N21 Nq22
    show own_End p e below _ (T22.setTop (mkF m 243 _ [.null]))
    refine own_pop X22 hx hby at_243 (pc' := 244) rfl rfl ?_
    refine own_iconst X22 hx hby at_244 (pc' := 245) rfl (n := (0 : Int32)) (by decide) ?_
    refine own_iload X22 hx hby at_245 (pc' := 247) rfl rfl ?_
    refine own_iload X22 hx hby at_247 (pc' := 249) rfl rfl ?_
    refine own_isub X22 hx hby at_249 (pc' := 250) rfl ?_
    show own_End p e below _ (T22.setTop (mkF m 250 #[.val (.int p0), .val (.long p1), .second, .val (.long p2), .second, .val (.long p3), .second, .val (.int n), .val (.int (3 : Int32)), .val (.int rf), .val (.ref q), .val (.ref ta), .val (.ref tb), .val (.ref tc), .val (.int (1 : Int32)), .val (.int (0 : Int32)), s16] [(.int (-3 : Int32)), (.int (0 : Int32))]))
    refine own_lk7 hw X22 hx hZ hby (by rw [hml]; rfl) hown at_250 (pc' := 253) rfl e22 (W := 0) (Nat.le_of_eq rfl) (rmMX l Z a0 hw [] (0 : Int32) (-3 : Int32) h1 n0 Z1 ) (by decide) (by decide) (by decide) (by decide) (fun v23 T23 L23 X23 hQ23 => ?_)
    obtain ⟨rfl, Nq23, e23⟩ := hQ23
    have N23 := Fr.app N22 Nq23
    show own_End p e below _ (T23.setTop (mkF m 253 _ [(.int (0 : Int32))]))
    refine own_istore X23 hx hby at_253 (pc' := 255) rfl (l' := #[.val (.int p0), .val (.long p1), .second, .val (.long p2), .second, .val (.long p3), .second, .val (.int n), .val (.int (3 : Int32)), .val (.int rf), .val (.ref q), .val (.ref ta), .val (.ref tb), .val (.ref tc), .val (.int (1 : Int32)), .val (.int (0 : Int32)), s16]) rfl ?_
    refine own_iload X23 hx hby at_255 (pc' := 257) rfl rfl ?_
    refine own_ifN X23 hx hby at_257 (pc' := 260) rfl (show (0 : Int32) = (0 : Int32) by decide) ?_
    refine own_iconst X23 hx hby at_260 (pc' := 261) rfl (n := (1 : Int32)) (by decide) ?_
    refine own_goto X23 hx hby at_261 (pc' := 265) (by decide) (by decide) ?_
    rcases h16 with rfl | ⟨r16, rfl⟩
    · show own_End p e below _ (T23.setTop (mkF m 265 #[.val (.int p0), .val (.long p1), .second, .val (.long p2), .second, .val (.long p3), .second, .val (.int n), .val (.int (3 : Int32)), .val (.int rf), .val (.ref q), .val (.ref ta), .val (.ref tb), .val (.ref tc), .val (.int (1 : Int32)), .val (.int (0 : Int32)), .unset] [(.int (1 : Int32))]))
      refine own_istore X23 hx hby at_265 (pc' := 267) rfl (l' := #[.val (.int p0), .val (.long p1), .second, .val (.long p2), .second, .val (.long p3), .second, .val (.int n), .val (.int (3 : Int32)), .val (.int rf), .val (.ref q), .val (.ref ta), .val (.ref tb), .val (.ref tc), .val (.int (1 : Int32)), .val (.int (0 : Int32)), .val (.int (1 : Int32))]) rfl ?_
      refine own_iload X23 hx hby at_267 (pc' := 269) rfl rfl ?_
      refine own_ifN X23 hx hby at_269 (pc' := 272) rfl (show ¬ (1 : Int32) = (0 : Int32) by decide) ?_
      refine own_aload X23 hx hby at_272 (pc' := 274) rfl rfl rfl ?_
      refine own_lk8 hw X23 hx hZ hby (by rw [hml]; rfl) hown at_274 (pc' := 277) rfl e23 f_O_q.1 (W := 0) (Nat.le_of_eq rfl) (rmE0 l Z a0 hw [] q w h1 n0 Z1 f_O_q) (by decide) (by decide) (by decide) (by decide) (fun v24 T24 L24 X24 hQ24 => ?_)
      obtain ⟨rfl, Nq24, e24⟩ := hQ24
      have N24 := Fr.app N23 Nq24
      show own_End p e below _ (T24.setTop (mkF m 277 _ [(.int (1 : Int32))]))
      refine own_iload X24 hx hby at_277 (pc' := 279) rfl rfl ?_
      refine own_icN X24 hx hby at_279 (pc' := 282) rfl (show (1 : Int32) = (1 : Int32) by decide) ?_
      refine own_aload X24 hx hby at_282 (pc' := 284) rfl rfl rfl ?_
      refine own_lk9 hw X24 hx hZ hby (by rw [hml]; rfl) hown at_284 (pc' := 287) rfl e24 f_O_q.1 (W := 0) (Nat.le_of_eq rfl) (rmPK0 l Z a0 hw [] q w kk (0 : Int32) .null .null rfl rfl h1 n0 Z1 f_O_q f_V_w) (by decide) (by decide) (by decide) (by decide) (fun v25 T25 L25 X25 hQ25 => ?_)
      obtain ⟨rfl, Nq25, e25⟩ := hQ25
      have N25 := Fr.app N24 Nq25
      show own_End p e below _ (T25.setTop (mkF m 287 _ [.null]))
      refine own_ifnonnullN X25 hx hby at_287 (pc' := 290) rfl ?_
      refine own_iconst X25 hx hby at_290 (pc' := 291) rfl (n := (1 : Int32)) (by decide) ?_
      refine own_goto X25 hx hby at_291 (pc' := 295) (by decide) (by decide) ?_
      refine own_iload X25 hx hby at_295 (pc' := 297) rfl rfl ?_
      refine own_icN X25 hx hby at_297 (pc' := 300) rfl (show (1 : Int32) = (1 : Int32) by decide) ?_
      refine own_iconst X25 hx hby at_300 (pc' := 301) rfl (n := (1 : Int32)) (by decide) ?_
      refine own_goto X25 hx hby at_301 (pc' := 305) (by decide) (by decide) ?_
      refine own_istore X25 hx hby at_305 (pc' := 307) rfl (l' := #[.val (.int p0), .val (.long p1), .second, .val (.long p2), .second, .val (.long p3), .second, .val (.int n), .val (.int (3 : Int32)), .val (.int rf), .val (.ref q), .val (.ref ta), .val (.ref tb), .val (.ref tc), .val (.int (1 : Int32)), .val (.int (0 : Int32)), .val (.int (1 : Int32))]) rfl ?_
      refine own_iload X25 hx hby at_307 (pc' := 309) rfl rfl ?_
      refine own_zreturn X25 hx hlk hby hret (Or.inr rfl) at_309 (own_lv ?_ (by decide) (by decide))
      show Q0 Z p0 p1 p2 p3  h0 n0 (some (.int (1 : Int32))) T25.heap _
      rw [e25]
      exact ⟨rfl, N25⟩
    · show own_End p e below _ (T23.setTop (mkF m 265 #[.val (.int p0), .val (.long p1), .second, .val (.long p2), .second, .val (.long p3), .second, .val (.int n), .val (.int (3 : Int32)), .val (.int rf), .val (.ref q), .val (.ref ta), .val (.ref tb), .val (.ref tc), .val (.int (1 : Int32)), .val (.int (0 : Int32)), .val (.int r16)] [(.int (1 : Int32))]))
      refine own_istore X23 hx hby at_265 (pc' := 267) rfl (l' := #[.val (.int p0), .val (.long p1), .second, .val (.long p2), .second, .val (.long p3), .second, .val (.int n), .val (.int (3 : Int32)), .val (.int rf), .val (.ref q), .val (.ref ta), .val (.ref tb), .val (.ref tc), .val (.int (1 : Int32)), .val (.int (0 : Int32)), .val (.int (1 : Int32))]) rfl ?_
      refine own_iload X23 hx hby at_267 (pc' := 269) rfl rfl ?_
      refine own_ifN X23 hx hby at_269 (pc' := 272) rfl (show ¬ (1 : Int32) = (0 : Int32) by decide) ?_
      refine own_aload X23 hx hby at_272 (pc' := 274) rfl rfl rfl ?_
      refine own_lk8 hw X23 hx hZ hby (by rw [hml]; rfl) hown at_274 (pc' := 277) rfl e23 f_O_q.1 (W := 0) (Nat.le_of_eq rfl) (rmE0 l Z a0 hw [] q w h1 n0 Z1 f_O_q) (by decide) (by decide) (by decide) (by decide) (fun v26 T26 L26 X26 hQ26 => ?_)
      obtain ⟨rfl, Nq26, e26⟩ := hQ26
      have N26 := Fr.app N23 Nq26
      show own_End p e below _ (T26.setTop (mkF m 277 _ [(.int (1 : Int32))]))
      refine own_iload X26 hx hby at_277 (pc' := 279) rfl rfl ?_
      refine own_icN X26 hx hby at_279 (pc' := 282) rfl (show (1 : Int32) = (1 : Int32) by decide) ?_
      refine own_aload X26 hx hby at_282 (pc' := 284) rfl rfl rfl ?_
      refine own_lk9 hw X26 hx hZ hby (by rw [hml]; rfl) hown at_284 (pc' := 287) rfl e26 f_O_q.1 (W := 0) (Nat.le_of_eq rfl) (rmPK0 l Z a0 hw [] q w kk (0 : Int32) .null .null rfl rfl h1 n0 Z1 f_O_q f_V_w) (by decide) (by decide) (by decide) (by decide) (fun v27 T27 L27 X27 hQ27 => ?_)
      obtain ⟨rfl, Nq27, e27⟩ := hQ27
      have N27 := Fr.app N26 Nq27
      show own_End p e below _ (T27.setTop (mkF m 287 _ [.null]))
      refine own_ifnonnullN X27 hx hby at_287 (pc' := 290) rfl ?_
      refine own_iconst X27 hx hby at_290 (pc' := 291) rfl (n := (1 : Int32)) (by decide) ?_
      refine own_goto X27 hx hby at_291 (pc' := 295) (by decide) (by decide) ?_
      refine own_iload X27 hx hby at_295 (pc' := 297) rfl rfl ?_
      refine own_icN X27 hx hby at_297 (pc' := 300) rfl (show (1 : Int32) = (1 : Int32) by decide) ?_
      refine own_iconst X27 hx hby at_300 (pc' := 301) rfl (n := (1 : Int32)) (by decide) ?_
      refine own_goto X27 hx hby at_301 (pc' := 305) (by decide) (by decide) ?_
      refine own_istore X27 hx hby at_305 (pc' := 307) rfl (l' := #[.val (.int p0), .val (.long p1), .second, .val (.long p2), .second, .val (.long p3), .second, .val (.int n), .val (.int (3 : Int32)), .val (.int rf), .val (.ref q), .val (.ref ta), .val (.ref tb), .val (.ref tc), .val (.int (1 : Int32)), .val (.int (0 : Int32)), .val (.int (1 : Int32))]) rfl ?_
      refine own_iload X27 hx hby at_307 (pc' := 309) rfl rfl ?_
      refine own_zreturn X27 hx hlk hby hret (Or.inr rfl) at_309 (own_lv ?_ (by decide) (by decide))
      show Q0 Z p0 p1 p2 p3  h0 n0 (some (.int (1 : Int32))) T27.heap _
      rw [e27]
      exact ⟨rfl, N27⟩
set_option maxRecDepth 65536 in
set_option maxHeartbeats 40000000 in
theorem own_B1 {p : Program} {l : Launch} {e : Env} {s : State} {m : MethodId} {below : List Frame} {meth : Method} {c : Code} {T0 : State} {locs : List Loc} (Z : State) (a0 : Array Value) (hw : ∀ d ∈ tables_1, d.before a0 Z = true) (p0 : Int32) (p1 : Int64) (p2 : Int64) (p3 : Int64) (q : Addr) (w : Addr) (kk : ClassId) (x : Addr) (dx : Int64) (sx : Int64) (n : Int32) (rm : Int32) (rf : Int32) (ta : Addr) (tb : Addr) (tc : Addr) (s16 : Slot) (h0 : Heap) (n0 : Nat) (h1 : Heap)
    (X0 : Stand p l e room_1 s m #[(.int p0), (.long p1), (.long p2), (.long p3)] below meth c T0 locs 5 33) (hx : p.tables.exec = Jvm.exec) (hby : c.code = code) (hlk : meth.locks = false) (hml : c.maxLocals = 17) (hown : s.vm.findClass "com/example/earnest_reactor/earnestreactor/core/TimerQueueIsEmptyPinLaw" = some m.cls) (hret : meth.sig.returnType = some .boolean) (hZ : Z.Warmed39 s.vm) (e1 : T0.heap = h1) (N0 : Fr n0 locs) (Z1 : n0 ≤ h1.size) (f_O_q : own_TQ Z h1 q (.ref w) (1 : Int32)) (f_V_w : Arv Z h1 w kk (.object "com/example/earnest_reactor/earnestreactor/core/ScheduledTask") (16 : Int32) [(.ref x), .null, .null] .null) (ho : Ovr Z kk "com/example/earnest_reactor/earnestreactor/core/ScheduledTask") (ge_q : n0 ≤ q) (ge_w : n0 ≤ w) (f_O_x : own_TK Z h1 x .null dx sx .null (0 : Int32)) (ge_x : n0 ≤ x) (hrm : rm = (0 : Int32) ∨ rm = (1 : Int32) ∨ rm = (2 : Int32) ∨ rm = (3 : Int32)) (h16 : s16 = .unset ∨ ∃ r : Int32, s16 = .val (.int r)) :
    own_End p e below (own_F s (Q0 Z p0 p1 p2 p3 h0 n0) room_1.cells room_1.slots) (T0.setTop (mkF m 209 #[.val (.int p0), .val (.long p1), .second, .val (.long p2), .second, .val (.long p3), .second, .val (.int n), .val (.int rm), .val (.int rf), .val (.ref q), .val (.ref ta), .val (.ref tb), .val (.ref tc), .val (.int (1 : Int32)), .val (.int (1 : Int32)), s16] [])) := by
  refine own_iload X0 hx hby at_209 (pc' := 211) rfl rfl ?_
  rcases hrm with rfl | rfl | rfl | rfl
  · show own_End p e below _ (T0.setTop (mkF m 211 #[.val (.int p0), .val (.long p1), .second, .val (.long p2), .second, .val (.long p3), .second, .val (.int n), .val (.int (0 : Int32)), .val (.int rf), .val (.ref q), .val (.ref ta), .val (.ref tb), .val (.ref tc), .val (.int (1 : Int32)), .val (.int (1 : Int32)), s16] [(.int (0 : Int32))]))
    refine own_ifY X0 hx hby at_211 (pc' := 220) (by decide) (by decide) (show ¬ (0 : Int32) < (0 : Int32) by decide) ?_
    refine own_iload X0 hx hby at_220 (pc' := 222) rfl rfl ?_
    refine own_iconst X0 hx hby at_222 (pc' := 223) rfl (n := (1 : Int32)) (by decide) ?_
    refine own_icY X0 hx hby at_223 (pc' := 232) (by decide) (by decide) (show ¬ (1 : Int32) < (0 : Int32) by decide) ?_
    refine own_iload X0 hx hby at_232 (pc' := 234) rfl rfl ?_
    refine own_iconst X0 hx hby at_234 (pc' := 235) rfl (n := (2 : Int32)) (by decide) ?_
    refine own_icY X0 hx hby at_235 (pc' := 244) (by decide) (by decide) (show ¬ (2 : Int32) < (0 : Int32) by decide) ?_
    refine own_iconst X0 hx hby at_244 (pc' := 245) rfl (n := (0 : Int32)) (by decide) ?_
    refine own_iload X0 hx hby at_245 (pc' := 247) rfl rfl ?_
    refine own_iload X0 hx hby at_247 (pc' := 249) rfl rfl ?_
    refine own_isub X0 hx hby at_249 (pc' := 250) rfl ?_
    show own_End p e below _ (T0.setTop (mkF m 250 #[.val (.int p0), .val (.long p1), .second, .val (.long p2), .second, .val (.long p3), .second, .val (.int n), .val (.int (0 : Int32)), .val (.int rf), .val (.ref q), .val (.ref ta), .val (.ref tb), .val (.ref tc), .val (.int (1 : Int32)), .val (.int (1 : Int32)), s16] [(.int (1 : Int32)), (.int (0 : Int32))]))
    refine own_lk7 hw X0 hx hZ hby (by rw [hml]; rfl) hown at_250 (pc' := 253) rfl e1 (W := 0) (Nat.le_of_eq rfl) (rmMX l Z a0 hw [] (0 : Int32) (1 : Int32) h1 n0 Z1 ) (by decide) (by decide) (by decide) (by decide) (fun v29 T29 L29 X29 hQ29 => ?_)
    obtain ⟨rfl, Nq29, e29⟩ := hQ29
    have N29 := Fr.app N0 Nq29
    show own_End p e below _ (T29.setTop (mkF m 253 _ [(.int (1 : Int32))]))
    refine own_istore X29 hx hby at_253 (pc' := 255) rfl (l' := #[.val (.int p0), .val (.long p1), .second, .val (.long p2), .second, .val (.long p3), .second, .val (.int n), .val (.int (0 : Int32)), .val (.int rf), .val (.ref q), .val (.ref ta), .val (.ref tb), .val (.ref tc), .val (.int (1 : Int32)), .val (.int (1 : Int32)), s16]) rfl ?_
    refine own_iload X29 hx hby at_255 (pc' := 257) rfl rfl ?_
    refine own_ifY X29 hx hby at_257 (pc' := 264) (by decide) (by decide) (show ¬ (1 : Int32) = (0 : Int32) by decide) ?_
    refine own_iconst X29 hx hby at_264 (pc' := 265) rfl (n := (0 : Int32)) (by decide) ?_
    rcases h16 with rfl | ⟨r16, rfl⟩
    · show own_End p e below _ (T29.setTop (mkF m 265 #[.val (.int p0), .val (.long p1), .second, .val (.long p2), .second, .val (.long p3), .second, .val (.int n), .val (.int (0 : Int32)), .val (.int rf), .val (.ref q), .val (.ref ta), .val (.ref tb), .val (.ref tc), .val (.int (1 : Int32)), .val (.int (1 : Int32)), .unset] [(.int (0 : Int32))]))
      refine own_istore X29 hx hby at_265 (pc' := 267) rfl (l' := #[.val (.int p0), .val (.long p1), .second, .val (.long p2), .second, .val (.long p3), .second, .val (.int n), .val (.int (0 : Int32)), .val (.int rf), .val (.ref q), .val (.ref ta), .val (.ref tb), .val (.ref tc), .val (.int (1 : Int32)), .val (.int (1 : Int32)), .val (.int (0 : Int32))]) rfl ?_
      refine own_iload X29 hx hby at_267 (pc' := 269) rfl rfl ?_
      refine own_ifN X29 hx hby at_269 (pc' := 272) rfl (show ¬ (1 : Int32) = (0 : Int32) by decide) ?_
      refine own_aload X29 hx hby at_272 (pc' := 274) rfl rfl rfl ?_
      refine own_lk8 hw X29 hx hZ hby (by rw [hml]; rfl) hown at_274 (pc' := 277) rfl e29 f_O_q.1 (W := 0) (Nat.le_of_eq rfl) (rmE1 l Z a0 hw [] q w h1 n0 Z1 f_O_q) (by decide) (by decide) (by decide) (by decide) (fun v30 T30 L30 X30 hQ30 => ?_)
      obtain ⟨rfl, Nq30, e30⟩ := hQ30
      have N30 := Fr.app N29 Nq30
      show own_End p e below _ (T30.setTop (mkF m 277 _ [(.int (0 : Int32))]))
      refine own_iload X30 hx hby at_277 (pc' := 279) rfl rfl ?_
      refine own_icN X30 hx hby at_279 (pc' := 282) rfl (show (0 : Int32) = (0 : Int32) by decide) ?_
      refine own_aload X30 hx hby at_282 (pc' := 284) rfl rfl rfl ?_
      refine own_lk9 hw X30 hx hZ hby (by rw [hml]; rfl) hown at_284 (pc' := 287) rfl e30 f_O_q.1 (W := 0) (Nat.le_of_eq rfl) (rmPK1 l Z a0 hw [] q w kk x (1 : Int32) .null .null rfl rfl h1 n0 Z1 f_O_q f_V_w) (by decide) (by decide) (by decide) (by decide) (fun v31 T31 L31 X31 hQ31 => ?_)
      obtain ⟨rfl, Nq31, e31⟩ := hQ31
      have N31 := Fr.app N30 Nq31
      show own_End p e below _ (T31.setTop (mkF m 287 _ [(.ref x)]))
      refine own_ifnonnullY X31 hx hby at_287 (pc' := 294) (by decide) (by decide) ?_
      refine own_iconst X31 hx hby at_294 (pc' := 295) rfl (n := (0 : Int32)) (by decide) ?_
      refine own_iload X31 hx hby at_295 (pc' := 297) rfl rfl ?_
      refine own_icN X31 hx hby at_297 (pc' := 300) rfl (show (0 : Int32) = (0 : Int32) by decide) ?_
      refine own_iconst X31 hx hby at_300 (pc' := 301) rfl (n := (1 : Int32)) (by decide) ?_
      refine own_goto X31 hx hby at_301 (pc' := 305) (by decide) (by decide) ?_
      refine own_istore X31 hx hby at_305 (pc' := 307) rfl (l' := #[.val (.int p0), .val (.long p1), .second, .val (.long p2), .second, .val (.long p3), .second, .val (.int n), .val (.int (0 : Int32)), .val (.int rf), .val (.ref q), .val (.ref ta), .val (.ref tb), .val (.ref tc), .val (.int (1 : Int32)), .val (.int (1 : Int32)), .val (.int (0 : Int32))]) rfl ?_
      refine own_iload X31 hx hby at_307 (pc' := 309) rfl rfl ?_
      refine own_zreturn X31 hx hlk hby hret (Or.inr rfl) at_309 (own_lv ?_ (by decide) (by decide))
      show Q0 Z p0 p1 p2 p3  h0 n0 (some (.int (1 : Int32))) T31.heap _
      rw [e31]
      exact ⟨rfl, N31⟩
    · show own_End p e below _ (T29.setTop (mkF m 265 #[.val (.int p0), .val (.long p1), .second, .val (.long p2), .second, .val (.long p3), .second, .val (.int n), .val (.int (0 : Int32)), .val (.int rf), .val (.ref q), .val (.ref ta), .val (.ref tb), .val (.ref tc), .val (.int (1 : Int32)), .val (.int (1 : Int32)), .val (.int r16)] [(.int (0 : Int32))]))
      refine own_istore X29 hx hby at_265 (pc' := 267) rfl (l' := #[.val (.int p0), .val (.long p1), .second, .val (.long p2), .second, .val (.long p3), .second, .val (.int n), .val (.int (0 : Int32)), .val (.int rf), .val (.ref q), .val (.ref ta), .val (.ref tb), .val (.ref tc), .val (.int (1 : Int32)), .val (.int (1 : Int32)), .val (.int (0 : Int32))]) rfl ?_
      refine own_iload X29 hx hby at_267 (pc' := 269) rfl rfl ?_
      refine own_ifN X29 hx hby at_269 (pc' := 272) rfl (show ¬ (1 : Int32) = (0 : Int32) by decide) ?_
      refine own_aload X29 hx hby at_272 (pc' := 274) rfl rfl rfl ?_
      refine own_lk8 hw X29 hx hZ hby (by rw [hml]; rfl) hown at_274 (pc' := 277) rfl e29 f_O_q.1 (W := 0) (Nat.le_of_eq rfl) (rmE1 l Z a0 hw [] q w h1 n0 Z1 f_O_q) (by decide) (by decide) (by decide) (by decide) (fun v32 T32 L32 X32 hQ32 => ?_)
      obtain ⟨rfl, Nq32, e32⟩ := hQ32
      have N32 := Fr.app N29 Nq32
      show own_End p e below _ (T32.setTop (mkF m 277 _ [(.int (0 : Int32))]))
      refine own_iload X32 hx hby at_277 (pc' := 279) rfl rfl ?_
      refine own_icN X32 hx hby at_279 (pc' := 282) rfl (show (0 : Int32) = (0 : Int32) by decide) ?_
      refine own_aload X32 hx hby at_282 (pc' := 284) rfl rfl rfl ?_
      refine own_lk9 hw X32 hx hZ hby (by rw [hml]; rfl) hown at_284 (pc' := 287) rfl e32 f_O_q.1 (W := 0) (Nat.le_of_eq rfl) (rmPK1 l Z a0 hw [] q w kk x (1 : Int32) .null .null rfl rfl h1 n0 Z1 f_O_q f_V_w) (by decide) (by decide) (by decide) (by decide) (fun v33 T33 L33 X33 hQ33 => ?_)
      obtain ⟨rfl, Nq33, e33⟩ := hQ33
      have N33 := Fr.app N32 Nq33
      show own_End p e below _ (T33.setTop (mkF m 287 _ [(.ref x)]))
      refine own_ifnonnullY X33 hx hby at_287 (pc' := 294) (by decide) (by decide) ?_
      refine own_iconst X33 hx hby at_294 (pc' := 295) rfl (n := (0 : Int32)) (by decide) ?_
      refine own_iload X33 hx hby at_295 (pc' := 297) rfl rfl ?_
      refine own_icN X33 hx hby at_297 (pc' := 300) rfl (show (0 : Int32) = (0 : Int32) by decide) ?_
      refine own_iconst X33 hx hby at_300 (pc' := 301) rfl (n := (1 : Int32)) (by decide) ?_
      refine own_goto X33 hx hby at_301 (pc' := 305) (by decide) (by decide) ?_
      refine own_istore X33 hx hby at_305 (pc' := 307) rfl (l' := #[.val (.int p0), .val (.long p1), .second, .val (.long p2), .second, .val (.long p3), .second, .val (.int n), .val (.int (0 : Int32)), .val (.int rf), .val (.ref q), .val (.ref ta), .val (.ref tb), .val (.ref tc), .val (.int (1 : Int32)), .val (.int (1 : Int32)), .val (.int (0 : Int32))]) rfl ?_
      refine own_iload X33 hx hby at_307 (pc' := 309) rfl rfl ?_
      refine own_zreturn X33 hx hlk hby hret (Or.inr rfl) at_309 (own_lv ?_ (by decide) (by decide))
      show Q0 Z p0 p1 p2 p3  h0 n0 (some (.int (1 : Int32))) T33.heap _
      rw [e33]
      exact ⟨rfl, N33⟩
  · show own_End p e below _ (T0.setTop (mkF m 211 #[.val (.int p0), .val (.long p1), .second, .val (.long p2), .second, .val (.long p3), .second, .val (.int n), .val (.int (1 : Int32)), .val (.int rf), .val (.ref q), .val (.ref ta), .val (.ref tb), .val (.ref tc), .val (.int (1 : Int32)), .val (.int (1 : Int32)), s16] [(.int (1 : Int32))]))
    refine own_ifN X0 hx hby at_211 (pc' := 214) rfl (show (0 : Int32) < (1 : Int32) by decide) ?_
    refine own_aload X0 hx hby at_214 (pc' := 216) rfl rfl rfl ?_
    have ne_q_w : q ≠ w := Exa.neArv f_O_q.1 f_V_w (wd_1 hw)
    have ne_q_x : q ≠ x := Exa.ne f_O_q.1 f_O_x.1 (by decide)
    have ne_w_x : w ≠ x := Ne.symm (Exa.neArv f_O_x.1 f_V_w (wd_14 hw))
    refine own_lk10 hw X0 hx hZ hby (by rw [hml]; rfl) hown at_216 (pc' := 219) rfl e1 f_O_q.1 (W := 0) (Nat.le_of_eq rfl) (rmP1 l Z a0 hw [] q w kk x dx sx h1 n0 Z1 f_O_q f_V_w ho f_O_x ge_q ge_w ge_x) (by decide) (by decide) (by decide) (by decide) (fun v34 T34 L34 X34 hQ34 => ?_)
    obtain ⟨rfl, Nq34, K34, Oq34, V34, Ox34⟩ := hQ34
    have N34 := Fr.app N0 Nq34
    have Zn := Nat.le_trans Z1 K34.1
    show own_End p e below _ (T34.setTop (mkF m 219 _ [(.ref x)]))
    refine own_pop X34 hx hby at_219 (pc' := 220) rfl rfl ?_
    refine own_iload X34 hx hby at_220 (pc' := 222) rfl rfl ?_
    refine own_iconst X34 hx hby at_222 (pc' := 223) rfl (n := (1 : Int32)) (by decide) ?_
    refine own_icY X34 hx hby at_223 (pc' := 232) (by decide) (by decide) (show ¬ (1 : Int32) < (1 : Int32) by decide) ?_
    refine own_iload X34 hx hby at_232 (pc' := 234) rfl rfl ?_
    refine own_iconst X34 hx hby at_234 (pc' := 235) rfl (n := (2 : Int32)) (by decide) ?_
    refine own_icY X34 hx hby at_235 (pc' := 244) (by decide) (by decide) (show ¬ (2 : Int32) < (1 : Int32) by decide) ?_
    refine own_iconst X34 hx hby at_244 (pc' := 245) rfl (n := (0 : Int32)) (by decide) ?_
    refine own_iload X34 hx hby at_245 (pc' := 247) rfl rfl ?_
    refine own_iload X34 hx hby at_247 (pc' := 249) rfl rfl ?_
    refine own_isub X34 hx hby at_249 (pc' := 250) rfl ?_
    show own_End p e below _ (T34.setTop (mkF m 250 #[.val (.int p0), .val (.long p1), .second, .val (.long p2), .second, .val (.long p3), .second, .val (.int n), .val (.int (1 : Int32)), .val (.int rf), .val (.ref q), .val (.ref ta), .val (.ref tb), .val (.ref tc), .val (.int (1 : Int32)), .val (.int (1 : Int32)), s16] [(.int (0 : Int32)), (.int (0 : Int32))]))
    refine own_lk7 hw X34 hx hZ hby (by rw [hml]; rfl) hown at_250 (pc' := 253) rfl rfl (W := 0) (Nat.le_of_eq rfl) (rmMX l Z a0 hw [] (0 : Int32) (0 : Int32) T34.heap n0 Zn ) (by decide) (by decide) (by decide) (by decide) (fun v35 T35 L35 X35 hQ35 => ?_)
    obtain ⟨rfl, Nq35, e35⟩ := hQ35
    have N35 := Fr.app N34 Nq35
    show own_End p e below _ (T35.setTop (mkF m 253 _ [(.int (0 : Int32))]))
    refine own_istore X35 hx hby at_253 (pc' := 255) rfl (l' := #[.val (.int p0), .val (.long p1), .second, .val (.long p2), .second, .val (.long p3), .second, .val (.int n), .val (.int (1 : Int32)), .val (.int rf), .val (.ref q), .val (.ref ta), .val (.ref tb), .val (.ref tc), .val (.int (1 : Int32)), .val (.int (0 : Int32)), s16]) rfl ?_
    refine own_iload X35 hx hby at_255 (pc' := 257) rfl rfl ?_
    refine own_ifN X35 hx hby at_257 (pc' := 260) rfl (show (0 : Int32) = (0 : Int32) by decide) ?_
    refine own_iconst X35 hx hby at_260 (pc' := 261) rfl (n := (1 : Int32)) (by decide) ?_
    refine own_goto X35 hx hby at_261 (pc' := 265) (by decide) (by decide) ?_
    rcases h16 with rfl | ⟨r16, rfl⟩
    · show own_End p e below _ (T35.setTop (mkF m 265 #[.val (.int p0), .val (.long p1), .second, .val (.long p2), .second, .val (.long p3), .second, .val (.int n), .val (.int (1 : Int32)), .val (.int rf), .val (.ref q), .val (.ref ta), .val (.ref tb), .val (.ref tc), .val (.int (1 : Int32)), .val (.int (0 : Int32)), .unset] [(.int (1 : Int32))]))
      refine own_istore X35 hx hby at_265 (pc' := 267) rfl (l' := #[.val (.int p0), .val (.long p1), .second, .val (.long p2), .second, .val (.long p3), .second, .val (.int n), .val (.int (1 : Int32)), .val (.int rf), .val (.ref q), .val (.ref ta), .val (.ref tb), .val (.ref tc), .val (.int (1 : Int32)), .val (.int (0 : Int32)), .val (.int (1 : Int32))]) rfl ?_
      refine own_iload X35 hx hby at_267 (pc' := 269) rfl rfl ?_
      refine own_ifN X35 hx hby at_269 (pc' := 272) rfl (show ¬ (1 : Int32) = (0 : Int32) by decide) ?_
      refine own_aload X35 hx hby at_272 (pc' := 274) rfl rfl rfl ?_
      refine own_lk8 hw X35 hx hZ hby (by rw [hml]; rfl) hown at_274 (pc' := 277) rfl e35 Oq34.1 (W := 0) (Nat.le_of_eq rfl) (rmE0 l Z a0 hw [] q w T34.heap n0 Zn Oq34) (by decide) (by decide) (by decide) (by decide) (fun v36 T36 L36 X36 hQ36 => ?_)
      obtain ⟨rfl, Nq36, e36⟩ := hQ36
      have N36 := Fr.app N35 Nq36
      show own_End p e below _ (T36.setTop (mkF m 277 _ [(.int (1 : Int32))]))
      refine own_iload X36 hx hby at_277 (pc' := 279) rfl rfl ?_
      refine own_icN X36 hx hby at_279 (pc' := 282) rfl (show (1 : Int32) = (1 : Int32) by decide) ?_
      refine own_aload X36 hx hby at_282 (pc' := 284) rfl rfl rfl ?_
      refine own_lk9 hw X36 hx hZ hby (by rw [hml]; rfl) hown at_284 (pc' := 287) rfl e36 Oq34.1 (W := 0) (Nat.le_of_eq rfl) (rmPK0 l Z a0 hw [] q w kk (0 : Int32) .null .null rfl rfl T34.heap n0 Zn Oq34 V34) (by decide) (by decide) (by decide) (by decide) (fun v37 T37 L37 X37 hQ37 => ?_)
      obtain ⟨rfl, Nq37, e37⟩ := hQ37
      have N37 := Fr.app N36 Nq37
      show own_End p e below _ (T37.setTop (mkF m 287 _ [.null]))
      refine own_ifnonnullN X37 hx hby at_287 (pc' := 290) rfl ?_
      refine own_iconst X37 hx hby at_290 (pc' := 291) rfl (n := (1 : Int32)) (by decide) ?_
      refine own_goto X37 hx hby at_291 (pc' := 295) (by decide) (by decide) ?_
      refine own_iload X37 hx hby at_295 (pc' := 297) rfl rfl ?_
      refine own_icN X37 hx hby at_297 (pc' := 300) rfl (show (1 : Int32) = (1 : Int32) by decide) ?_
      refine own_iconst X37 hx hby at_300 (pc' := 301) rfl (n := (1 : Int32)) (by decide) ?_
      refine own_goto X37 hx hby at_301 (pc' := 305) (by decide) (by decide) ?_
      refine own_istore X37 hx hby at_305 (pc' := 307) rfl (l' := #[.val (.int p0), .val (.long p1), .second, .val (.long p2), .second, .val (.long p3), .second, .val (.int n), .val (.int (1 : Int32)), .val (.int rf), .val (.ref q), .val (.ref ta), .val (.ref tb), .val (.ref tc), .val (.int (1 : Int32)), .val (.int (0 : Int32)), .val (.int (1 : Int32))]) rfl ?_
      refine own_iload X37 hx hby at_307 (pc' := 309) rfl rfl ?_
      refine own_zreturn X37 hx hlk hby hret (Or.inr rfl) at_309 (own_lv ?_ (by decide) (by decide))
      show Q0 Z p0 p1 p2 p3  h0 n0 (some (.int (1 : Int32))) T37.heap _
      rw [e37]
      exact ⟨rfl, N37⟩
    · show own_End p e below _ (T35.setTop (mkF m 265 #[.val (.int p0), .val (.long p1), .second, .val (.long p2), .second, .val (.long p3), .second, .val (.int n), .val (.int (1 : Int32)), .val (.int rf), .val (.ref q), .val (.ref ta), .val (.ref tb), .val (.ref tc), .val (.int (1 : Int32)), .val (.int (0 : Int32)), .val (.int r16)] [(.int (1 : Int32))]))
      refine own_istore X35 hx hby at_265 (pc' := 267) rfl (l' := #[.val (.int p0), .val (.long p1), .second, .val (.long p2), .second, .val (.long p3), .second, .val (.int n), .val (.int (1 : Int32)), .val (.int rf), .val (.ref q), .val (.ref ta), .val (.ref tb), .val (.ref tc), .val (.int (1 : Int32)), .val (.int (0 : Int32)), .val (.int (1 : Int32))]) rfl ?_
      refine own_iload X35 hx hby at_267 (pc' := 269) rfl rfl ?_
      refine own_ifN X35 hx hby at_269 (pc' := 272) rfl (show ¬ (1 : Int32) = (0 : Int32) by decide) ?_
      refine own_aload X35 hx hby at_272 (pc' := 274) rfl rfl rfl ?_
      refine own_lk8 hw X35 hx hZ hby (by rw [hml]; rfl) hown at_274 (pc' := 277) rfl e35 Oq34.1 (W := 0) (Nat.le_of_eq rfl) (rmE0 l Z a0 hw [] q w T34.heap n0 Zn Oq34) (by decide) (by decide) (by decide) (by decide) (fun v38 T38 L38 X38 hQ38 => ?_)
      obtain ⟨rfl, Nq38, e38⟩ := hQ38
      have N38 := Fr.app N35 Nq38
      show own_End p e below _ (T38.setTop (mkF m 277 _ [(.int (1 : Int32))]))
      refine own_iload X38 hx hby at_277 (pc' := 279) rfl rfl ?_
      refine own_icN X38 hx hby at_279 (pc' := 282) rfl (show (1 : Int32) = (1 : Int32) by decide) ?_
      refine own_aload X38 hx hby at_282 (pc' := 284) rfl rfl rfl ?_
      refine own_lk9 hw X38 hx hZ hby (by rw [hml]; rfl) hown at_284 (pc' := 287) rfl e38 Oq34.1 (W := 0) (Nat.le_of_eq rfl) (rmPK0 l Z a0 hw [] q w kk (0 : Int32) .null .null rfl rfl T34.heap n0 Zn Oq34 V34) (by decide) (by decide) (by decide) (by decide) (fun v39 T39 L39 X39 hQ39 => ?_)
      obtain ⟨rfl, Nq39, e39⟩ := hQ39
      have N39 := Fr.app N38 Nq39
      show own_End p e below _ (T39.setTop (mkF m 287 _ [.null]))
      refine own_ifnonnullN X39 hx hby at_287 (pc' := 290) rfl ?_
      refine own_iconst X39 hx hby at_290 (pc' := 291) rfl (n := (1 : Int32)) (by decide) ?_
      refine own_goto X39 hx hby at_291 (pc' := 295) (by decide) (by decide) ?_
      refine own_iload X39 hx hby at_295 (pc' := 297) rfl rfl ?_
      refine own_icN X39 hx hby at_297 (pc' := 300) rfl (show (1 : Int32) = (1 : Int32) by decide) ?_
      refine own_iconst X39 hx hby at_300 (pc' := 301) rfl (n := (1 : Int32)) (by decide) ?_
      refine own_goto X39 hx hby at_301 (pc' := 305) (by decide) (by decide) ?_
      refine own_istore X39 hx hby at_305 (pc' := 307) rfl (l' := #[.val (.int p0), .val (.long p1), .second, .val (.long p2), .second, .val (.long p3), .second, .val (.int n), .val (.int (1 : Int32)), .val (.int rf), .val (.ref q), .val (.ref ta), .val (.ref tb), .val (.ref tc), .val (.int (1 : Int32)), .val (.int (0 : Int32)), .val (.int (1 : Int32))]) rfl ?_
      refine own_iload X39 hx hby at_307 (pc' := 309) rfl rfl ?_
      refine own_zreturn X39 hx hlk hby hret (Or.inr rfl) at_309 (own_lv ?_ (by decide) (by decide))
      show Q0 Z p0 p1 p2 p3  h0 n0 (some (.int (1 : Int32))) T39.heap _
      rw [e39]
      exact ⟨rfl, N39⟩
  · show own_End p e below _ (T0.setTop (mkF m 211 #[.val (.int p0), .val (.long p1), .second, .val (.long p2), .second, .val (.long p3), .second, .val (.int n), .val (.int (2 : Int32)), .val (.int rf), .val (.ref q), .val (.ref ta), .val (.ref tb), .val (.ref tc), .val (.int (1 : Int32)), .val (.int (1 : Int32)), s16] [(.int (2 : Int32))]))
    refine own_ifN X0 hx hby at_211 (pc' := 214) rfl (show (0 : Int32) < (2 : Int32) by decide) ?_
    refine own_aload X0 hx hby at_214 (pc' := 216) rfl rfl rfl ?_
    have ne_q_w : q ≠ w := Exa.neArv f_O_q.1 f_V_w (wd_1 hw)
    have ne_q_x : q ≠ x := Exa.ne f_O_q.1 f_O_x.1 (by decide)
    have ne_w_x : w ≠ x := Ne.symm (Exa.neArv f_O_x.1 f_V_w (wd_14 hw))
    refine own_lk10 hw X0 hx hZ hby (by rw [hml]; rfl) hown at_216 (pc' := 219) rfl e1 f_O_q.1 (W := 0) (Nat.le_of_eq rfl) (rmP1 l Z a0 hw [] q w kk x dx sx h1 n0 Z1 f_O_q f_V_w ho f_O_x ge_q ge_w ge_x) (by decide) (by decide) (by decide) (by decide) (fun v40 T40 L40 X40 hQ40 => ?_)
    obtain ⟨rfl, Nq40, K40, Oq40, V40, Ox40⟩ := hQ40
    have N40 := Fr.app N0 Nq40
    have Zn := Nat.le_trans Z1 K40.1
    show own_End p e below _ (T40.setTop (mkF m 219 _ [(.ref x)]))
    refine own_pop X40 hx hby at_219 (pc' := 220) rfl rfl ?_
    refine own_iload X40 hx hby at_220 (pc' := 222) rfl rfl ?_
    refine own_iconst X40 hx hby at_222 (pc' := 223) rfl (n := (1 : Int32)) (by decide) ?_
    refine own_icN X40 hx hby at_223 (pc' := 226) rfl (show (1 : Int32) < (2 : Int32) by decide) ?_
    refine own_aload X40 hx hby at_226 (pc' := 228) rfl rfl rfl ?_
    refine own_lk10 hw X40 hx hZ hby (by rw [hml]; rfl) hown at_228 (pc' := 231) rfl rfl Oq40.1 (W := 0) (Nat.le_of_eq rfl) (rmP0 l Z a0 hw [] q w kk T40.heap n0 Zn Oq40 V40 ho) (by decide) (by decide) (by decide) (by decide) (fun v41 T41 L41 X41 hQ41 => ?_)
    obtain ⟨rfl, Nq41, e41⟩ := hQ41
    have N41 := Fr.app N40 Nq41
    show own_End p e below _ (T41.setTop (mkF m 231 _ [.null]))
    refine own_pop X41 hx hby at_231 (pc' := 232) rfl rfl ?_
    refine own_iload X41 hx hby at_232 (pc' := 234) rfl rfl ?_
    refine own_iconst X41 hx hby at_234 (pc' := 235) rfl (n := (2 : Int32)) (by decide) ?_
    refine own_icY X41 hx hby at_235 (pc' := 244) (by decide) (by decide) (show ¬ (2 : Int32) < (2 : Int32) by decide) ?_
    refine own_iconst X41 hx hby at_244 (pc' := 245) rfl (n := (0 : Int32)) (by decide) ?_
    refine own_iload X41 hx hby at_245 (pc' := 247) rfl rfl ?_
    refine own_iload X41 hx hby at_247 (pc' := 249) rfl rfl ?_
    refine own_isub X41 hx hby at_249 (pc' := 250) rfl ?_
    show own_End p e below _ (T41.setTop (mkF m 250 #[.val (.int p0), .val (.long p1), .second, .val (.long p2), .second, .val (.long p3), .second, .val (.int n), .val (.int (2 : Int32)), .val (.int rf), .val (.ref q), .val (.ref ta), .val (.ref tb), .val (.ref tc), .val (.int (1 : Int32)), .val (.int (1 : Int32)), s16] [(.int (-1 : Int32)), (.int (0 : Int32))]))
    refine own_lk7 hw X41 hx hZ hby (by rw [hml]; rfl) hown at_250 (pc' := 253) rfl e41 (W := 0) (Nat.le_of_eq rfl) (rmMX l Z a0 hw [] (0 : Int32) (-1 : Int32) T40.heap n0 Zn ) (by decide) (by decide) (by decide) (by decide) (fun v42 T42 L42 X42 hQ42 => ?_)
    obtain ⟨rfl, Nq42, e42⟩ := hQ42
    have N42 := Fr.app N41 Nq42
    show own_End p e below _ (T42.setTop (mkF m 253 _ [(.int (0 : Int32))]))
    refine own_istore X42 hx hby at_253 (pc' := 255) rfl (l' := #[.val (.int p0), .val (.long p1), .second, .val (.long p2), .second, .val (.long p3), .second, .val (.int n), .val (.int (2 : Int32)), .val (.int rf), .val (.ref q), .val (.ref ta), .val (.ref tb), .val (.ref tc), .val (.int (1 : Int32)), .val (.int (0 : Int32)), s16]) rfl ?_
    refine own_iload X42 hx hby at_255 (pc' := 257) rfl rfl ?_
    refine own_ifN X42 hx hby at_257 (pc' := 260) rfl (show (0 : Int32) = (0 : Int32) by decide) ?_
    refine own_iconst X42 hx hby at_260 (pc' := 261) rfl (n := (1 : Int32)) (by decide) ?_
    refine own_goto X42 hx hby at_261 (pc' := 265) (by decide) (by decide) ?_
    rcases h16 with rfl | ⟨r16, rfl⟩
    · show own_End p e below _ (T42.setTop (mkF m 265 #[.val (.int p0), .val (.long p1), .second, .val (.long p2), .second, .val (.long p3), .second, .val (.int n), .val (.int (2 : Int32)), .val (.int rf), .val (.ref q), .val (.ref ta), .val (.ref tb), .val (.ref tc), .val (.int (1 : Int32)), .val (.int (0 : Int32)), .unset] [(.int (1 : Int32))]))
      refine own_istore X42 hx hby at_265 (pc' := 267) rfl (l' := #[.val (.int p0), .val (.long p1), .second, .val (.long p2), .second, .val (.long p3), .second, .val (.int n), .val (.int (2 : Int32)), .val (.int rf), .val (.ref q), .val (.ref ta), .val (.ref tb), .val (.ref tc), .val (.int (1 : Int32)), .val (.int (0 : Int32)), .val (.int (1 : Int32))]) rfl ?_
      refine own_iload X42 hx hby at_267 (pc' := 269) rfl rfl ?_
      refine own_ifN X42 hx hby at_269 (pc' := 272) rfl (show ¬ (1 : Int32) = (0 : Int32) by decide) ?_
      refine own_aload X42 hx hby at_272 (pc' := 274) rfl rfl rfl ?_
      refine own_lk8 hw X42 hx hZ hby (by rw [hml]; rfl) hown at_274 (pc' := 277) rfl e42 Oq40.1 (W := 0) (Nat.le_of_eq rfl) (rmE0 l Z a0 hw [] q w T40.heap n0 Zn Oq40) (by decide) (by decide) (by decide) (by decide) (fun v43 T43 L43 X43 hQ43 => ?_)
      obtain ⟨rfl, Nq43, e43⟩ := hQ43
      have N43 := Fr.app N42 Nq43
      show own_End p e below _ (T43.setTop (mkF m 277 _ [(.int (1 : Int32))]))
      refine own_iload X43 hx hby at_277 (pc' := 279) rfl rfl ?_
      refine own_icN X43 hx hby at_279 (pc' := 282) rfl (show (1 : Int32) = (1 : Int32) by decide) ?_
      refine own_aload X43 hx hby at_282 (pc' := 284) rfl rfl rfl ?_
      refine own_lk9 hw X43 hx hZ hby (by rw [hml]; rfl) hown at_284 (pc' := 287) rfl e43 Oq40.1 (W := 0) (Nat.le_of_eq rfl) (rmPK0 l Z a0 hw [] q w kk (0 : Int32) .null .null rfl rfl T40.heap n0 Zn Oq40 V40) (by decide) (by decide) (by decide) (by decide) (fun v44 T44 L44 X44 hQ44 => ?_)
      obtain ⟨rfl, Nq44, e44⟩ := hQ44
      have N44 := Fr.app N43 Nq44
      show own_End p e below _ (T44.setTop (mkF m 287 _ [.null]))
      refine own_ifnonnullN X44 hx hby at_287 (pc' := 290) rfl ?_
      refine own_iconst X44 hx hby at_290 (pc' := 291) rfl (n := (1 : Int32)) (by decide) ?_
      refine own_goto X44 hx hby at_291 (pc' := 295) (by decide) (by decide) ?_
      refine own_iload X44 hx hby at_295 (pc' := 297) rfl rfl ?_
      refine own_icN X44 hx hby at_297 (pc' := 300) rfl (show (1 : Int32) = (1 : Int32) by decide) ?_
      refine own_iconst X44 hx hby at_300 (pc' := 301) rfl (n := (1 : Int32)) (by decide) ?_
      refine own_goto X44 hx hby at_301 (pc' := 305) (by decide) (by decide) ?_
      refine own_istore X44 hx hby at_305 (pc' := 307) rfl (l' := #[.val (.int p0), .val (.long p1), .second, .val (.long p2), .second, .val (.long p3), .second, .val (.int n), .val (.int (2 : Int32)), .val (.int rf), .val (.ref q), .val (.ref ta), .val (.ref tb), .val (.ref tc), .val (.int (1 : Int32)), .val (.int (0 : Int32)), .val (.int (1 : Int32))]) rfl ?_
      refine own_iload X44 hx hby at_307 (pc' := 309) rfl rfl ?_
      refine own_zreturn X44 hx hlk hby hret (Or.inr rfl) at_309 (own_lv ?_ (by decide) (by decide))
      show Q0 Z p0 p1 p2 p3  h0 n0 (some (.int (1 : Int32))) T44.heap _
      rw [e44]
      exact ⟨rfl, N44⟩
    · show own_End p e below _ (T42.setTop (mkF m 265 #[.val (.int p0), .val (.long p1), .second, .val (.long p2), .second, .val (.long p3), .second, .val (.int n), .val (.int (2 : Int32)), .val (.int rf), .val (.ref q), .val (.ref ta), .val (.ref tb), .val (.ref tc), .val (.int (1 : Int32)), .val (.int (0 : Int32)), .val (.int r16)] [(.int (1 : Int32))]))
      refine own_istore X42 hx hby at_265 (pc' := 267) rfl (l' := #[.val (.int p0), .val (.long p1), .second, .val (.long p2), .second, .val (.long p3), .second, .val (.int n), .val (.int (2 : Int32)), .val (.int rf), .val (.ref q), .val (.ref ta), .val (.ref tb), .val (.ref tc), .val (.int (1 : Int32)), .val (.int (0 : Int32)), .val (.int (1 : Int32))]) rfl ?_
      refine own_iload X42 hx hby at_267 (pc' := 269) rfl rfl ?_
      refine own_ifN X42 hx hby at_269 (pc' := 272) rfl (show ¬ (1 : Int32) = (0 : Int32) by decide) ?_
      refine own_aload X42 hx hby at_272 (pc' := 274) rfl rfl rfl ?_
      refine own_lk8 hw X42 hx hZ hby (by rw [hml]; rfl) hown at_274 (pc' := 277) rfl e42 Oq40.1 (W := 0) (Nat.le_of_eq rfl) (rmE0 l Z a0 hw [] q w T40.heap n0 Zn Oq40) (by decide) (by decide) (by decide) (by decide) (fun v45 T45 L45 X45 hQ45 => ?_)
      obtain ⟨rfl, Nq45, e45⟩ := hQ45
      have N45 := Fr.app N42 Nq45
      show own_End p e below _ (T45.setTop (mkF m 277 _ [(.int (1 : Int32))]))
      refine own_iload X45 hx hby at_277 (pc' := 279) rfl rfl ?_
      refine own_icN X45 hx hby at_279 (pc' := 282) rfl (show (1 : Int32) = (1 : Int32) by decide) ?_
      refine own_aload X45 hx hby at_282 (pc' := 284) rfl rfl rfl ?_
      refine own_lk9 hw X45 hx hZ hby (by rw [hml]; rfl) hown at_284 (pc' := 287) rfl e45 Oq40.1 (W := 0) (Nat.le_of_eq rfl) (rmPK0 l Z a0 hw [] q w kk (0 : Int32) .null .null rfl rfl T40.heap n0 Zn Oq40 V40) (by decide) (by decide) (by decide) (by decide) (fun v46 T46 L46 X46 hQ46 => ?_)
      obtain ⟨rfl, Nq46, e46⟩ := hQ46
      have N46 := Fr.app N45 Nq46
      show own_End p e below _ (T46.setTop (mkF m 287 _ [.null]))
      refine own_ifnonnullN X46 hx hby at_287 (pc' := 290) rfl ?_
      refine own_iconst X46 hx hby at_290 (pc' := 291) rfl (n := (1 : Int32)) (by decide) ?_
      refine own_goto X46 hx hby at_291 (pc' := 295) (by decide) (by decide) ?_
      refine own_iload X46 hx hby at_295 (pc' := 297) rfl rfl ?_
      refine own_icN X46 hx hby at_297 (pc' := 300) rfl (show (1 : Int32) = (1 : Int32) by decide) ?_
      refine own_iconst X46 hx hby at_300 (pc' := 301) rfl (n := (1 : Int32)) (by decide) ?_
      refine own_goto X46 hx hby at_301 (pc' := 305) (by decide) (by decide) ?_
      refine own_istore X46 hx hby at_305 (pc' := 307) rfl (l' := #[.val (.int p0), .val (.long p1), .second, .val (.long p2), .second, .val (.long p3), .second, .val (.int n), .val (.int (2 : Int32)), .val (.int rf), .val (.ref q), .val (.ref ta), .val (.ref tb), .val (.ref tc), .val (.int (1 : Int32)), .val (.int (0 : Int32)), .val (.int (1 : Int32))]) rfl ?_
      refine own_iload X46 hx hby at_307 (pc' := 309) rfl rfl ?_
      refine own_zreturn X46 hx hlk hby hret (Or.inr rfl) at_309 (own_lv ?_ (by decide) (by decide))
      show Q0 Z p0 p1 p2 p3  h0 n0 (some (.int (1 : Int32))) T46.heap _
      rw [e46]
      exact ⟨rfl, N46⟩
  · show own_End p e below _ (T0.setTop (mkF m 211 #[.val (.int p0), .val (.long p1), .second, .val (.long p2), .second, .val (.long p3), .second, .val (.int n), .val (.int (3 : Int32)), .val (.int rf), .val (.ref q), .val (.ref ta), .val (.ref tb), .val (.ref tc), .val (.int (1 : Int32)), .val (.int (1 : Int32)), s16] [(.int (3 : Int32))]))
    refine own_ifN X0 hx hby at_211 (pc' := 214) rfl (show (0 : Int32) < (3 : Int32) by decide) ?_
    refine own_aload X0 hx hby at_214 (pc' := 216) rfl rfl rfl ?_
    have ne_q_w : q ≠ w := Exa.neArv f_O_q.1 f_V_w (wd_1 hw)
    have ne_q_x : q ≠ x := Exa.ne f_O_q.1 f_O_x.1 (by decide)
    have ne_w_x : w ≠ x := Ne.symm (Exa.neArv f_O_x.1 f_V_w (wd_14 hw))
    refine own_lk10 hw X0 hx hZ hby (by rw [hml]; rfl) hown at_216 (pc' := 219) rfl e1 f_O_q.1 (W := 0) (Nat.le_of_eq rfl) (rmP1 l Z a0 hw [] q w kk x dx sx h1 n0 Z1 f_O_q f_V_w ho f_O_x ge_q ge_w ge_x) (by decide) (by decide) (by decide) (by decide) (fun v47 T47 L47 X47 hQ47 => ?_)
    obtain ⟨rfl, Nq47, K47, Oq47, V47, Ox47⟩ := hQ47
    have N47 := Fr.app N0 Nq47
    have Zn := Nat.le_trans Z1 K47.1
    show own_End p e below _ (T47.setTop (mkF m 219 _ [(.ref x)]))
    refine own_pop X47 hx hby at_219 (pc' := 220) rfl rfl ?_
    refine own_iload X47 hx hby at_220 (pc' := 222) rfl rfl ?_
    refine own_iconst X47 hx hby at_222 (pc' := 223) rfl (n := (1 : Int32)) (by decide) ?_
    refine own_icN X47 hx hby at_223 (pc' := 226) rfl (show (1 : Int32) < (3 : Int32) by decide) ?_
    refine own_aload X47 hx hby at_226 (pc' := 228) rfl rfl rfl ?_
    refine own_lk10 hw X47 hx hZ hby (by rw [hml]; rfl) hown at_228 (pc' := 231) rfl rfl Oq47.1 (W := 0) (Nat.le_of_eq rfl) (rmP0 l Z a0 hw [] q w kk T47.heap n0 Zn Oq47 V47 ho) (by decide) (by decide) (by decide) (by decide) (fun v48 T48 L48 X48 hQ48 => ?_)
    obtain ⟨rfl, Nq48, e48⟩ := hQ48
    have N48 := Fr.app N47 Nq48
    show own_End p e below _ (T48.setTop (mkF m 231 _ [.null]))
    refine own_pop X48 hx hby at_231 (pc' := 232) rfl rfl ?_
    refine own_iload X48 hx hby at_232 (pc' := 234) rfl rfl ?_
    refine own_iconst X48 hx hby at_234 (pc' := 235) rfl (n := (2 : Int32)) (by decide) ?_
    refine own_icN X48 hx hby at_235 (pc' := 238) rfl (show (2 : Int32) < (3 : Int32) by decide) ?_
    refine own_aload X48 hx hby at_238 (pc' := 240) rfl rfl rfl ?_
    refine own_lk10 hw X48 hx hZ hby (by rw [hml]; rfl) hown at_240 (pc' := 243) rfl e48 Oq47.1 (W := 0) (Nat.le_of_eq rfl) (rmP0 l Z a0 hw [] q w kk T47.heap n0 Zn Oq47 V47 ho) (by decide) (by decide) (by decide) (by decide) (fun v49 T49 L49 X49 hQ49 => ?_)
    obtain ⟨rfl, Nq49, e49⟩ := hQ49
    have N49 := Fr.app N48 Nq49
    show own_End p e below _ (T49.setTop (mkF m 243 _ [.null]))
    refine own_pop X49 hx hby at_243 (pc' := 244) rfl rfl ?_
    refine own_iconst X49 hx hby at_244 (pc' := 245) rfl (n := (0 : Int32)) (by decide) ?_
    refine own_iload X49 hx hby at_245 (pc' := 247) rfl rfl ?_
    refine own_iload X49 hx hby at_247 (pc' := 249) rfl rfl ?_
    refine own_isub X49 hx hby at_249 (pc' := 250) rfl ?_
    show own_End p e below _ (T49.setTop (mkF m 250 #[.val (.int p0), .val (.long p1), .second, .val (.long p2), .second, .val (.long p3), .second, .val (.int n), .val (.int (3 : Int32)), .val (.int rf), .val (.ref q), .val (.ref ta), .val (.ref tb), .val (.ref tc), .val (.int (1 : Int32)), .val (.int (1 : Int32)), s16] [(.int (-2 : Int32)), (.int (0 : Int32))]))
    refine own_lk7 hw X49 hx hZ hby (by rw [hml]; rfl) hown at_250 (pc' := 253) rfl e49 (W := 0) (Nat.le_of_eq rfl) (rmMX l Z a0 hw [] (0 : Int32) (-2 : Int32) T47.heap n0 Zn ) (by decide) (by decide) (by decide) (by decide) (fun v50 T50 L50 X50 hQ50 => ?_)
    obtain ⟨rfl, Nq50, e50⟩ := hQ50
    have N50 := Fr.app N49 Nq50
    show own_End p e below _ (T50.setTop (mkF m 253 _ [(.int (0 : Int32))]))
    refine own_istore X50 hx hby at_253 (pc' := 255) rfl (l' := #[.val (.int p0), .val (.long p1), .second, .val (.long p2), .second, .val (.long p3), .second, .val (.int n), .val (.int (3 : Int32)), .val (.int rf), .val (.ref q), .val (.ref ta), .val (.ref tb), .val (.ref tc), .val (.int (1 : Int32)), .val (.int (0 : Int32)), s16]) rfl ?_
    refine own_iload X50 hx hby at_255 (pc' := 257) rfl rfl ?_
    refine own_ifN X50 hx hby at_257 (pc' := 260) rfl (show (0 : Int32) = (0 : Int32) by decide) ?_
    refine own_iconst X50 hx hby at_260 (pc' := 261) rfl (n := (1 : Int32)) (by decide) ?_
    refine own_goto X50 hx hby at_261 (pc' := 265) (by decide) (by decide) ?_
    rcases h16 with rfl | ⟨r16, rfl⟩
    · show own_End p e below _ (T50.setTop (mkF m 265 #[.val (.int p0), .val (.long p1), .second, .val (.long p2), .second, .val (.long p3), .second, .val (.int n), .val (.int (3 : Int32)), .val (.int rf), .val (.ref q), .val (.ref ta), .val (.ref tb), .val (.ref tc), .val (.int (1 : Int32)), .val (.int (0 : Int32)), .unset] [(.int (1 : Int32))]))
      refine own_istore X50 hx hby at_265 (pc' := 267) rfl (l' := #[.val (.int p0), .val (.long p1), .second, .val (.long p2), .second, .val (.long p3), .second, .val (.int n), .val (.int (3 : Int32)), .val (.int rf), .val (.ref q), .val (.ref ta), .val (.ref tb), .val (.ref tc), .val (.int (1 : Int32)), .val (.int (0 : Int32)), .val (.int (1 : Int32))]) rfl ?_
      refine own_iload X50 hx hby at_267 (pc' := 269) rfl rfl ?_
      refine own_ifN X50 hx hby at_269 (pc' := 272) rfl (show ¬ (1 : Int32) = (0 : Int32) by decide) ?_
      refine own_aload X50 hx hby at_272 (pc' := 274) rfl rfl rfl ?_
      refine own_lk8 hw X50 hx hZ hby (by rw [hml]; rfl) hown at_274 (pc' := 277) rfl e50 Oq47.1 (W := 0) (Nat.le_of_eq rfl) (rmE0 l Z a0 hw [] q w T47.heap n0 Zn Oq47) (by decide) (by decide) (by decide) (by decide) (fun v51 T51 L51 X51 hQ51 => ?_)
      obtain ⟨rfl, Nq51, e51⟩ := hQ51
      have N51 := Fr.app N50 Nq51
      show own_End p e below _ (T51.setTop (mkF m 277 _ [(.int (1 : Int32))]))
      refine own_iload X51 hx hby at_277 (pc' := 279) rfl rfl ?_
      refine own_icN X51 hx hby at_279 (pc' := 282) rfl (show (1 : Int32) = (1 : Int32) by decide) ?_
      refine own_aload X51 hx hby at_282 (pc' := 284) rfl rfl rfl ?_
      refine own_lk9 hw X51 hx hZ hby (by rw [hml]; rfl) hown at_284 (pc' := 287) rfl e51 Oq47.1 (W := 0) (Nat.le_of_eq rfl) (rmPK0 l Z a0 hw [] q w kk (0 : Int32) .null .null rfl rfl T47.heap n0 Zn Oq47 V47) (by decide) (by decide) (by decide) (by decide) (fun v52 T52 L52 X52 hQ52 => ?_)
      obtain ⟨rfl, Nq52, e52⟩ := hQ52
      have N52 := Fr.app N51 Nq52
      show own_End p e below _ (T52.setTop (mkF m 287 _ [.null]))
      refine own_ifnonnullN X52 hx hby at_287 (pc' := 290) rfl ?_
      refine own_iconst X52 hx hby at_290 (pc' := 291) rfl (n := (1 : Int32)) (by decide) ?_
      refine own_goto X52 hx hby at_291 (pc' := 295) (by decide) (by decide) ?_
      refine own_iload X52 hx hby at_295 (pc' := 297) rfl rfl ?_
      refine own_icN X52 hx hby at_297 (pc' := 300) rfl (show (1 : Int32) = (1 : Int32) by decide) ?_
      refine own_iconst X52 hx hby at_300 (pc' := 301) rfl (n := (1 : Int32)) (by decide) ?_
      refine own_goto X52 hx hby at_301 (pc' := 305) (by decide) (by decide) ?_
      refine own_istore X52 hx hby at_305 (pc' := 307) rfl (l' := #[.val (.int p0), .val (.long p1), .second, .val (.long p2), .second, .val (.long p3), .second, .val (.int n), .val (.int (3 : Int32)), .val (.int rf), .val (.ref q), .val (.ref ta), .val (.ref tb), .val (.ref tc), .val (.int (1 : Int32)), .val (.int (0 : Int32)), .val (.int (1 : Int32))]) rfl ?_
      refine own_iload X52 hx hby at_307 (pc' := 309) rfl rfl ?_
      refine own_zreturn X52 hx hlk hby hret (Or.inr rfl) at_309 (own_lv ?_ (by decide) (by decide))
      show Q0 Z p0 p1 p2 p3  h0 n0 (some (.int (1 : Int32))) T52.heap _
      rw [e52]
      exact ⟨rfl, N52⟩
    · show own_End p e below _ (T50.setTop (mkF m 265 #[.val (.int p0), .val (.long p1), .second, .val (.long p2), .second, .val (.long p3), .second, .val (.int n), .val (.int (3 : Int32)), .val (.int rf), .val (.ref q), .val (.ref ta), .val (.ref tb), .val (.ref tc), .val (.int (1 : Int32)), .val (.int (0 : Int32)), .val (.int r16)] [(.int (1 : Int32))]))
      refine own_istore X50 hx hby at_265 (pc' := 267) rfl (l' := #[.val (.int p0), .val (.long p1), .second, .val (.long p2), .second, .val (.long p3), .second, .val (.int n), .val (.int (3 : Int32)), .val (.int rf), .val (.ref q), .val (.ref ta), .val (.ref tb), .val (.ref tc), .val (.int (1 : Int32)), .val (.int (0 : Int32)), .val (.int (1 : Int32))]) rfl ?_
      refine own_iload X50 hx hby at_267 (pc' := 269) rfl rfl ?_
      refine own_ifN X50 hx hby at_269 (pc' := 272) rfl (show ¬ (1 : Int32) = (0 : Int32) by decide) ?_
      refine own_aload X50 hx hby at_272 (pc' := 274) rfl rfl rfl ?_
      refine own_lk8 hw X50 hx hZ hby (by rw [hml]; rfl) hown at_274 (pc' := 277) rfl e50 Oq47.1 (W := 0) (Nat.le_of_eq rfl) (rmE0 l Z a0 hw [] q w T47.heap n0 Zn Oq47) (by decide) (by decide) (by decide) (by decide) (fun v53 T53 L53 X53 hQ53 => ?_)
      obtain ⟨rfl, Nq53, e53⟩ := hQ53
      have N53 := Fr.app N50 Nq53
      show own_End p e below _ (T53.setTop (mkF m 277 _ [(.int (1 : Int32))]))
      refine own_iload X53 hx hby at_277 (pc' := 279) rfl rfl ?_
      refine own_icN X53 hx hby at_279 (pc' := 282) rfl (show (1 : Int32) = (1 : Int32) by decide) ?_
      refine own_aload X53 hx hby at_282 (pc' := 284) rfl rfl rfl ?_
      refine own_lk9 hw X53 hx hZ hby (by rw [hml]; rfl) hown at_284 (pc' := 287) rfl e53 Oq47.1 (W := 0) (Nat.le_of_eq rfl) (rmPK0 l Z a0 hw [] q w kk (0 : Int32) .null .null rfl rfl T47.heap n0 Zn Oq47 V47) (by decide) (by decide) (by decide) (by decide) (fun v54 T54 L54 X54 hQ54 => ?_)
      obtain ⟨rfl, Nq54, e54⟩ := hQ54
      have N54 := Fr.app N53 Nq54
      show own_End p e below _ (T54.setTop (mkF m 287 _ [.null]))
      refine own_ifnonnullN X54 hx hby at_287 (pc' := 290) rfl ?_
      refine own_iconst X54 hx hby at_290 (pc' := 291) rfl (n := (1 : Int32)) (by decide) ?_
      refine own_goto X54 hx hby at_291 (pc' := 295) (by decide) (by decide) ?_
      refine own_iload X54 hx hby at_295 (pc' := 297) rfl rfl ?_
      refine own_icN X54 hx hby at_297 (pc' := 300) rfl (show (1 : Int32) = (1 : Int32) by decide) ?_
      refine own_iconst X54 hx hby at_300 (pc' := 301) rfl (n := (1 : Int32)) (by decide) ?_
      refine own_goto X54 hx hby at_301 (pc' := 305) (by decide) (by decide) ?_
      refine own_istore X54 hx hby at_305 (pc' := 307) rfl (l' := #[.val (.int p0), .val (.long p1), .second, .val (.long p2), .second, .val (.long p3), .second, .val (.int n), .val (.int (3 : Int32)), .val (.int rf), .val (.ref q), .val (.ref ta), .val (.ref tb), .val (.ref tc), .val (.int (1 : Int32)), .val (.int (0 : Int32)), .val (.int (1 : Int32))]) rfl ?_
      refine own_iload X54 hx hby at_307 (pc' := 309) rfl rfl ?_
      refine own_zreturn X54 hx hlk hby hret (Or.inr rfl) at_309 (own_lv ?_ (by decide) (by decide))
      show Q0 Z p0 p1 p2 p3  h0 n0 (some (.int (1 : Int32))) T54.heap _
      rw [e54]
      exact ⟨rfl, N54⟩
set_option maxRecDepth 65536 in
set_option maxHeartbeats 40000000 in
theorem own_B2 {p : Program} {l : Launch} {e : Env} {s : State} {m : MethodId} {below : List Frame} {meth : Method} {c : Code} {T0 : State} {locs : List Loc} (Z : State) (a0 : Array Value) (hw : ∀ d ∈ tables_1, d.before a0 Z = true) (p0 : Int32) (p1 : Int64) (p2 : Int64) (p3 : Int64) (q : Addr) (w : Addr) (kk : ClassId) (x : Addr) (dx : Int64) (sx : Int64) (y : Addr) (dy : Int64) (sy : Int64) (n : Int32) (rm : Int32) (rf : Int32) (ta : Addr) (tb : Addr) (tc : Addr) (s16 : Slot) (h0 : Heap) (n0 : Nat) (h1 : Heap)
    (X0 : Stand p l e room_1 s m #[(.int p0), (.long p1), (.long p2), (.long p3)] below meth c T0 locs 5 33) (hx : p.tables.exec = Jvm.exec) (hby : c.code = code) (hlk : meth.locks = false) (hml : c.maxLocals = 17) (hown : s.vm.findClass "com/example/earnest_reactor/earnestreactor/core/TimerQueueIsEmptyPinLaw" = some m.cls) (hret : meth.sig.returnType = some .boolean) (hZ : Z.Warmed39 s.vm) (e1 : T0.heap = h1) (N0 : Fr n0 locs) (Z1 : n0 ≤ h1.size) (f_O_q : own_TQ Z h1 q (.ref w) (2 : Int32)) (f_V_w : Arv Z h1 w kk (.object "com/example/earnest_reactor/earnestreactor/core/ScheduledTask") (16 : Int32) [(.ref x), (.ref y), .null] .null) (ho : Ovr Z kk "com/example/earnest_reactor/earnestreactor/core/ScheduledTask") (ge_q : n0 ≤ q) (ge_w : n0 ≤ w) (f_O_x : own_TK Z h1 x .null dx sx .null (0 : Int32)) (f_O_y : own_TK Z h1 y .null dy sy .null (1 : Int32)) (ge_x : n0 ≤ x) (ge_y : n0 ≤ y) (ne_x_y : x ≠ y) (hrm : rm = (0 : Int32) ∨ rm = (1 : Int32) ∨ rm = (2 : Int32) ∨ rm = (3 : Int32)) (h16 : s16 = .unset ∨ ∃ r : Int32, s16 = .val (.int r)) :
    own_End p e below (own_F s (Q0 Z p0 p1 p2 p3 h0 n0) room_1.cells room_1.slots) (T0.setTop (mkF m 209 #[.val (.int p0), .val (.long p1), .second, .val (.long p2), .second, .val (.long p3), .second, .val (.int n), .val (.int rm), .val (.int rf), .val (.ref q), .val (.ref ta), .val (.ref tb), .val (.ref tc), .val (.int (1 : Int32)), .val (.int (2 : Int32)), s16] [])) := by
  refine own_iload X0 hx hby at_209 (pc' := 211) rfl rfl ?_
  rcases hrm with rfl | rfl | rfl | rfl
  · show own_End p e below _ (T0.setTop (mkF m 211 #[.val (.int p0), .val (.long p1), .second, .val (.long p2), .second, .val (.long p3), .second, .val (.int n), .val (.int (0 : Int32)), .val (.int rf), .val (.ref q), .val (.ref ta), .val (.ref tb), .val (.ref tc), .val (.int (1 : Int32)), .val (.int (2 : Int32)), s16] [(.int (0 : Int32))]))
    refine own_ifY X0 hx hby at_211 (pc' := 220) (by decide) (by decide) (show ¬ (0 : Int32) < (0 : Int32) by decide) ?_
    refine own_iload X0 hx hby at_220 (pc' := 222) rfl rfl ?_
    refine own_iconst X0 hx hby at_222 (pc' := 223) rfl (n := (1 : Int32)) (by decide) ?_
    refine own_icY X0 hx hby at_223 (pc' := 232) (by decide) (by decide) (show ¬ (1 : Int32) < (0 : Int32) by decide) ?_
    refine own_iload X0 hx hby at_232 (pc' := 234) rfl rfl ?_
    refine own_iconst X0 hx hby at_234 (pc' := 235) rfl (n := (2 : Int32)) (by decide) ?_
    refine own_icY X0 hx hby at_235 (pc' := 244) (by decide) (by decide) (show ¬ (2 : Int32) < (0 : Int32) by decide) ?_
    refine own_iconst X0 hx hby at_244 (pc' := 245) rfl (n := (0 : Int32)) (by decide) ?_
    refine own_iload X0 hx hby at_245 (pc' := 247) rfl rfl ?_
    refine own_iload X0 hx hby at_247 (pc' := 249) rfl rfl ?_
    refine own_isub X0 hx hby at_249 (pc' := 250) rfl ?_
    show own_End p e below _ (T0.setTop (mkF m 250 #[.val (.int p0), .val (.long p1), .second, .val (.long p2), .second, .val (.long p3), .second, .val (.int n), .val (.int (0 : Int32)), .val (.int rf), .val (.ref q), .val (.ref ta), .val (.ref tb), .val (.ref tc), .val (.int (1 : Int32)), .val (.int (2 : Int32)), s16] [(.int (2 : Int32)), (.int (0 : Int32))]))
    refine own_lk7 hw X0 hx hZ hby (by rw [hml]; rfl) hown at_250 (pc' := 253) rfl e1 (W := 0) (Nat.le_of_eq rfl) (rmMX l Z a0 hw [] (0 : Int32) (2 : Int32) h1 n0 Z1 ) (by decide) (by decide) (by decide) (by decide) (fun v56 T56 L56 X56 hQ56 => ?_)
    obtain ⟨rfl, Nq56, e56⟩ := hQ56
    have N56 := Fr.app N0 Nq56
    show own_End p e below _ (T56.setTop (mkF m 253 _ [(.int (2 : Int32))]))
    refine own_istore X56 hx hby at_253 (pc' := 255) rfl (l' := #[.val (.int p0), .val (.long p1), .second, .val (.long p2), .second, .val (.long p3), .second, .val (.int n), .val (.int (0 : Int32)), .val (.int rf), .val (.ref q), .val (.ref ta), .val (.ref tb), .val (.ref tc), .val (.int (1 : Int32)), .val (.int (2 : Int32)), s16]) rfl ?_
    refine own_iload X56 hx hby at_255 (pc' := 257) rfl rfl ?_
    refine own_ifY X56 hx hby at_257 (pc' := 264) (by decide) (by decide) (show ¬ (2 : Int32) = (0 : Int32) by decide) ?_
    refine own_iconst X56 hx hby at_264 (pc' := 265) rfl (n := (0 : Int32)) (by decide) ?_
    rcases h16 with rfl | ⟨r16, rfl⟩
    · show own_End p e below _ (T56.setTop (mkF m 265 #[.val (.int p0), .val (.long p1), .second, .val (.long p2), .second, .val (.long p3), .second, .val (.int n), .val (.int (0 : Int32)), .val (.int rf), .val (.ref q), .val (.ref ta), .val (.ref tb), .val (.ref tc), .val (.int (1 : Int32)), .val (.int (2 : Int32)), .unset] [(.int (0 : Int32))]))
      refine own_istore X56 hx hby at_265 (pc' := 267) rfl (l' := #[.val (.int p0), .val (.long p1), .second, .val (.long p2), .second, .val (.long p3), .second, .val (.int n), .val (.int (0 : Int32)), .val (.int rf), .val (.ref q), .val (.ref ta), .val (.ref tb), .val (.ref tc), .val (.int (1 : Int32)), .val (.int (2 : Int32)), .val (.int (0 : Int32))]) rfl ?_
      refine own_iload X56 hx hby at_267 (pc' := 269) rfl rfl ?_
      refine own_ifN X56 hx hby at_269 (pc' := 272) rfl (show ¬ (1 : Int32) = (0 : Int32) by decide) ?_
      refine own_aload X56 hx hby at_272 (pc' := 274) rfl rfl rfl ?_
      refine own_lk8 hw X56 hx hZ hby (by rw [hml]; rfl) hown at_274 (pc' := 277) rfl e56 f_O_q.1 (W := 0) (Nat.le_of_eq rfl) (rmE2 l Z a0 hw [] q w h1 n0 Z1 f_O_q) (by decide) (by decide) (by decide) (by decide) (fun v57 T57 L57 X57 hQ57 => ?_)
      obtain ⟨rfl, Nq57, e57⟩ := hQ57
      have N57 := Fr.app N56 Nq57
      show own_End p e below _ (T57.setTop (mkF m 277 _ [(.int (0 : Int32))]))
      refine own_iload X57 hx hby at_277 (pc' := 279) rfl rfl ?_
      refine own_icN X57 hx hby at_279 (pc' := 282) rfl (show (0 : Int32) = (0 : Int32) by decide) ?_
      refine own_aload X57 hx hby at_282 (pc' := 284) rfl rfl rfl ?_
      refine own_lk9 hw X57 hx hZ hby (by rw [hml]; rfl) hown at_284 (pc' := 287) rfl e57 f_O_q.1 (W := 0) (Nat.le_of_eq rfl) (rmPK1 l Z a0 hw [] q w kk x (2 : Int32) (.ref y) .null rfl rfl h1 n0 Z1 f_O_q f_V_w) (by decide) (by decide) (by decide) (by decide) (fun v58 T58 L58 X58 hQ58 => ?_)
      obtain ⟨rfl, Nq58, e58⟩ := hQ58
      have N58 := Fr.app N57 Nq58
      show own_End p e below _ (T58.setTop (mkF m 287 _ [(.ref x)]))
      refine own_ifnonnullY X58 hx hby at_287 (pc' := 294) (by decide) (by decide) ?_
      refine own_iconst X58 hx hby at_294 (pc' := 295) rfl (n := (0 : Int32)) (by decide) ?_
      refine own_iload X58 hx hby at_295 (pc' := 297) rfl rfl ?_
      refine own_icN X58 hx hby at_297 (pc' := 300) rfl (show (0 : Int32) = (0 : Int32) by decide) ?_
      refine own_iconst X58 hx hby at_300 (pc' := 301) rfl (n := (1 : Int32)) (by decide) ?_
      refine own_goto X58 hx hby at_301 (pc' := 305) (by decide) (by decide) ?_
      refine own_istore X58 hx hby at_305 (pc' := 307) rfl (l' := #[.val (.int p0), .val (.long p1), .second, .val (.long p2), .second, .val (.long p3), .second, .val (.int n), .val (.int (0 : Int32)), .val (.int rf), .val (.ref q), .val (.ref ta), .val (.ref tb), .val (.ref tc), .val (.int (1 : Int32)), .val (.int (2 : Int32)), .val (.int (0 : Int32))]) rfl ?_
      refine own_iload X58 hx hby at_307 (pc' := 309) rfl rfl ?_
      refine own_zreturn X58 hx hlk hby hret (Or.inr rfl) at_309 (own_lv ?_ (by decide) (by decide))
      show Q0 Z p0 p1 p2 p3  h0 n0 (some (.int (1 : Int32))) T58.heap _
      rw [e58]
      exact ⟨rfl, N58⟩
    · show own_End p e below _ (T56.setTop (mkF m 265 #[.val (.int p0), .val (.long p1), .second, .val (.long p2), .second, .val (.long p3), .second, .val (.int n), .val (.int (0 : Int32)), .val (.int rf), .val (.ref q), .val (.ref ta), .val (.ref tb), .val (.ref tc), .val (.int (1 : Int32)), .val (.int (2 : Int32)), .val (.int r16)] [(.int (0 : Int32))]))
      refine own_istore X56 hx hby at_265 (pc' := 267) rfl (l' := #[.val (.int p0), .val (.long p1), .second, .val (.long p2), .second, .val (.long p3), .second, .val (.int n), .val (.int (0 : Int32)), .val (.int rf), .val (.ref q), .val (.ref ta), .val (.ref tb), .val (.ref tc), .val (.int (1 : Int32)), .val (.int (2 : Int32)), .val (.int (0 : Int32))]) rfl ?_
      refine own_iload X56 hx hby at_267 (pc' := 269) rfl rfl ?_
      refine own_ifN X56 hx hby at_269 (pc' := 272) rfl (show ¬ (1 : Int32) = (0 : Int32) by decide) ?_
      refine own_aload X56 hx hby at_272 (pc' := 274) rfl rfl rfl ?_
      refine own_lk8 hw X56 hx hZ hby (by rw [hml]; rfl) hown at_274 (pc' := 277) rfl e56 f_O_q.1 (W := 0) (Nat.le_of_eq rfl) (rmE2 l Z a0 hw [] q w h1 n0 Z1 f_O_q) (by decide) (by decide) (by decide) (by decide) (fun v59 T59 L59 X59 hQ59 => ?_)
      obtain ⟨rfl, Nq59, e59⟩ := hQ59
      have N59 := Fr.app N56 Nq59
      show own_End p e below _ (T59.setTop (mkF m 277 _ [(.int (0 : Int32))]))
      refine own_iload X59 hx hby at_277 (pc' := 279) rfl rfl ?_
      refine own_icN X59 hx hby at_279 (pc' := 282) rfl (show (0 : Int32) = (0 : Int32) by decide) ?_
      refine own_aload X59 hx hby at_282 (pc' := 284) rfl rfl rfl ?_
      refine own_lk9 hw X59 hx hZ hby (by rw [hml]; rfl) hown at_284 (pc' := 287) rfl e59 f_O_q.1 (W := 0) (Nat.le_of_eq rfl) (rmPK1 l Z a0 hw [] q w kk x (2 : Int32) (.ref y) .null rfl rfl h1 n0 Z1 f_O_q f_V_w) (by decide) (by decide) (by decide) (by decide) (fun v60 T60 L60 X60 hQ60 => ?_)
      obtain ⟨rfl, Nq60, e60⟩ := hQ60
      have N60 := Fr.app N59 Nq60
      show own_End p e below _ (T60.setTop (mkF m 287 _ [(.ref x)]))
      refine own_ifnonnullY X60 hx hby at_287 (pc' := 294) (by decide) (by decide) ?_
      refine own_iconst X60 hx hby at_294 (pc' := 295) rfl (n := (0 : Int32)) (by decide) ?_
      refine own_iload X60 hx hby at_295 (pc' := 297) rfl rfl ?_
      refine own_icN X60 hx hby at_297 (pc' := 300) rfl (show (0 : Int32) = (0 : Int32) by decide) ?_
      refine own_iconst X60 hx hby at_300 (pc' := 301) rfl (n := (1 : Int32)) (by decide) ?_
      refine own_goto X60 hx hby at_301 (pc' := 305) (by decide) (by decide) ?_
      refine own_istore X60 hx hby at_305 (pc' := 307) rfl (l' := #[.val (.int p0), .val (.long p1), .second, .val (.long p2), .second, .val (.long p3), .second, .val (.int n), .val (.int (0 : Int32)), .val (.int rf), .val (.ref q), .val (.ref ta), .val (.ref tb), .val (.ref tc), .val (.int (1 : Int32)), .val (.int (2 : Int32)), .val (.int (0 : Int32))]) rfl ?_
      refine own_iload X60 hx hby at_307 (pc' := 309) rfl rfl ?_
      refine own_zreturn X60 hx hlk hby hret (Or.inr rfl) at_309 (own_lv ?_ (by decide) (by decide))
      show Q0 Z p0 p1 p2 p3  h0 n0 (some (.int (1 : Int32))) T60.heap _
      rw [e60]
      exact ⟨rfl, N60⟩
  · show own_End p e below _ (T0.setTop (mkF m 211 #[.val (.int p0), .val (.long p1), .second, .val (.long p2), .second, .val (.long p3), .second, .val (.int n), .val (.int (1 : Int32)), .val (.int rf), .val (.ref q), .val (.ref ta), .val (.ref tb), .val (.ref tc), .val (.int (1 : Int32)), .val (.int (2 : Int32)), s16] [(.int (1 : Int32))]))
    refine own_ifN X0 hx hby at_211 (pc' := 214) rfl (show (0 : Int32) < (1 : Int32) by decide) ?_
    refine own_aload X0 hx hby at_214 (pc' := 216) rfl rfl rfl ?_
    have ne_q_w : q ≠ w := Exa.neArv f_O_q.1 f_V_w (wd_1 hw)
    have ne_q_x : q ≠ x := Exa.ne f_O_q.1 f_O_x.1 (by decide)
    have ne_q_y : q ≠ y := Exa.ne f_O_q.1 f_O_y.1 (by decide)
    have ne_w_x : w ≠ x := Ne.symm (Exa.neArv f_O_x.1 f_V_w (wd_14 hw))
    have ne_w_y : w ≠ y := Ne.symm (Exa.neArv f_O_y.1 f_V_w (wd_14 hw))
    refine own_lk10 hw X0 hx hZ hby (by rw [hml]; rfl) hown at_216 (pc' := 219) rfl e1 f_O_q.1 (W := 0) (Nat.le_of_eq rfl) (rmP2 l Z a0 hw [] q w kk x dx sx y dy sy h1 n0 Z1 f_O_q f_V_w ho f_O_x f_O_y ge_q ge_w ge_x ge_y ne_x_y) (by decide) (by decide) (by decide) (by decide) (fun v61 T61 L61 X61 hQ61 => ?_)
    obtain ⟨rfl, Nq61, K61, Oq61, V61, Ox61, Oy61⟩ := hQ61
    have N61 := Fr.app N0 Nq61
    have Zn := Nat.le_trans Z1 K61.1
    show own_End p e below _ (T61.setTop (mkF m 219 _ [(.ref x)]))
    refine own_pop X61 hx hby at_219 (pc' := 220) rfl rfl ?_
    refine own_iload X61 hx hby at_220 (pc' := 222) rfl rfl ?_
    refine own_iconst X61 hx hby at_222 (pc' := 223) rfl (n := (1 : Int32)) (by decide) ?_
    refine own_icY X61 hx hby at_223 (pc' := 232) (by decide) (by decide) (show ¬ (1 : Int32) < (1 : Int32) by decide) ?_
    refine own_iload X61 hx hby at_232 (pc' := 234) rfl rfl ?_
    refine own_iconst X61 hx hby at_234 (pc' := 235) rfl (n := (2 : Int32)) (by decide) ?_
    refine own_icY X61 hx hby at_235 (pc' := 244) (by decide) (by decide) (show ¬ (2 : Int32) < (1 : Int32) by decide) ?_
    refine own_iconst X61 hx hby at_244 (pc' := 245) rfl (n := (0 : Int32)) (by decide) ?_
    refine own_iload X61 hx hby at_245 (pc' := 247) rfl rfl ?_
    refine own_iload X61 hx hby at_247 (pc' := 249) rfl rfl ?_
    refine own_isub X61 hx hby at_249 (pc' := 250) rfl ?_
    show own_End p e below _ (T61.setTop (mkF m 250 #[.val (.int p0), .val (.long p1), .second, .val (.long p2), .second, .val (.long p3), .second, .val (.int n), .val (.int (1 : Int32)), .val (.int rf), .val (.ref q), .val (.ref ta), .val (.ref tb), .val (.ref tc), .val (.int (1 : Int32)), .val (.int (2 : Int32)), s16] [(.int (1 : Int32)), (.int (0 : Int32))]))
    refine own_lk7 hw X61 hx hZ hby (by rw [hml]; rfl) hown at_250 (pc' := 253) rfl rfl (W := 0) (Nat.le_of_eq rfl) (rmMX l Z a0 hw [] (0 : Int32) (1 : Int32) T61.heap n0 Zn ) (by decide) (by decide) (by decide) (by decide) (fun v62 T62 L62 X62 hQ62 => ?_)
    obtain ⟨rfl, Nq62, e62⟩ := hQ62
    have N62 := Fr.app N61 Nq62
    show own_End p e below _ (T62.setTop (mkF m 253 _ [(.int (1 : Int32))]))
    refine own_istore X62 hx hby at_253 (pc' := 255) rfl (l' := #[.val (.int p0), .val (.long p1), .second, .val (.long p2), .second, .val (.long p3), .second, .val (.int n), .val (.int (1 : Int32)), .val (.int rf), .val (.ref q), .val (.ref ta), .val (.ref tb), .val (.ref tc), .val (.int (1 : Int32)), .val (.int (1 : Int32)), s16]) rfl ?_
    refine own_iload X62 hx hby at_255 (pc' := 257) rfl rfl ?_
    refine own_ifY X62 hx hby at_257 (pc' := 264) (by decide) (by decide) (show ¬ (1 : Int32) = (0 : Int32) by decide) ?_
    refine own_iconst X62 hx hby at_264 (pc' := 265) rfl (n := (0 : Int32)) (by decide) ?_
    rcases h16 with rfl | ⟨r16, rfl⟩
    · show own_End p e below _ (T62.setTop (mkF m 265 #[.val (.int p0), .val (.long p1), .second, .val (.long p2), .second, .val (.long p3), .second, .val (.int n), .val (.int (1 : Int32)), .val (.int rf), .val (.ref q), .val (.ref ta), .val (.ref tb), .val (.ref tc), .val (.int (1 : Int32)), .val (.int (1 : Int32)), .unset] [(.int (0 : Int32))]))
      refine own_istore X62 hx hby at_265 (pc' := 267) rfl (l' := #[.val (.int p0), .val (.long p1), .second, .val (.long p2), .second, .val (.long p3), .second, .val (.int n), .val (.int (1 : Int32)), .val (.int rf), .val (.ref q), .val (.ref ta), .val (.ref tb), .val (.ref tc), .val (.int (1 : Int32)), .val (.int (1 : Int32)), .val (.int (0 : Int32))]) rfl ?_
      refine own_iload X62 hx hby at_267 (pc' := 269) rfl rfl ?_
      refine own_ifN X62 hx hby at_269 (pc' := 272) rfl (show ¬ (1 : Int32) = (0 : Int32) by decide) ?_
      refine own_aload X62 hx hby at_272 (pc' := 274) rfl rfl rfl ?_
      refine own_lk8 hw X62 hx hZ hby (by rw [hml]; rfl) hown at_274 (pc' := 277) rfl e62 Oq61.1 (W := 0) (Nat.le_of_eq rfl) (rmE1 l Z a0 hw [] q w T61.heap n0 Zn Oq61) (by decide) (by decide) (by decide) (by decide) (fun v63 T63 L63 X63 hQ63 => ?_)
      obtain ⟨rfl, Nq63, e63⟩ := hQ63
      have N63 := Fr.app N62 Nq63
      show own_End p e below _ (T63.setTop (mkF m 277 _ [(.int (0 : Int32))]))
      refine own_iload X63 hx hby at_277 (pc' := 279) rfl rfl ?_
      refine own_icN X63 hx hby at_279 (pc' := 282) rfl (show (0 : Int32) = (0 : Int32) by decide) ?_
      refine own_aload X63 hx hby at_282 (pc' := 284) rfl rfl rfl ?_
      refine own_lk9 hw X63 hx hZ hby (by rw [hml]; rfl) hown at_284 (pc' := 287) rfl e63 Oq61.1 (W := 0) (Nat.le_of_eq rfl) (rmPK1 l Z a0 hw [] q w kk y (1 : Int32) .null .null rfl rfl T61.heap n0 Zn Oq61 V61) (by decide) (by decide) (by decide) (by decide) (fun v64 T64 L64 X64 hQ64 => ?_)
      obtain ⟨rfl, Nq64, e64⟩ := hQ64
      have N64 := Fr.app N63 Nq64
      show own_End p e below _ (T64.setTop (mkF m 287 _ [(.ref y)]))
      refine own_ifnonnullY X64 hx hby at_287 (pc' := 294) (by decide) (by decide) ?_
      refine own_iconst X64 hx hby at_294 (pc' := 295) rfl (n := (0 : Int32)) (by decide) ?_
      refine own_iload X64 hx hby at_295 (pc' := 297) rfl rfl ?_
      refine own_icN X64 hx hby at_297 (pc' := 300) rfl (show (0 : Int32) = (0 : Int32) by decide) ?_
      refine own_iconst X64 hx hby at_300 (pc' := 301) rfl (n := (1 : Int32)) (by decide) ?_
      refine own_goto X64 hx hby at_301 (pc' := 305) (by decide) (by decide) ?_
      refine own_istore X64 hx hby at_305 (pc' := 307) rfl (l' := #[.val (.int p0), .val (.long p1), .second, .val (.long p2), .second, .val (.long p3), .second, .val (.int n), .val (.int (1 : Int32)), .val (.int rf), .val (.ref q), .val (.ref ta), .val (.ref tb), .val (.ref tc), .val (.int (1 : Int32)), .val (.int (1 : Int32)), .val (.int (0 : Int32))]) rfl ?_
      refine own_iload X64 hx hby at_307 (pc' := 309) rfl rfl ?_
      refine own_zreturn X64 hx hlk hby hret (Or.inr rfl) at_309 (own_lv ?_ (by decide) (by decide))
      show Q0 Z p0 p1 p2 p3  h0 n0 (some (.int (1 : Int32))) T64.heap _
      rw [e64]
      exact ⟨rfl, N64⟩
    · show own_End p e below _ (T62.setTop (mkF m 265 #[.val (.int p0), .val (.long p1), .second, .val (.long p2), .second, .val (.long p3), .second, .val (.int n), .val (.int (1 : Int32)), .val (.int rf), .val (.ref q), .val (.ref ta), .val (.ref tb), .val (.ref tc), .val (.int (1 : Int32)), .val (.int (1 : Int32)), .val (.int r16)] [(.int (0 : Int32))]))
      refine own_istore X62 hx hby at_265 (pc' := 267) rfl (l' := #[.val (.int p0), .val (.long p1), .second, .val (.long p2), .second, .val (.long p3), .second, .val (.int n), .val (.int (1 : Int32)), .val (.int rf), .val (.ref q), .val (.ref ta), .val (.ref tb), .val (.ref tc), .val (.int (1 : Int32)), .val (.int (1 : Int32)), .val (.int (0 : Int32))]) rfl ?_
      refine own_iload X62 hx hby at_267 (pc' := 269) rfl rfl ?_
      refine own_ifN X62 hx hby at_269 (pc' := 272) rfl (show ¬ (1 : Int32) = (0 : Int32) by decide) ?_
      refine own_aload X62 hx hby at_272 (pc' := 274) rfl rfl rfl ?_
      refine own_lk8 hw X62 hx hZ hby (by rw [hml]; rfl) hown at_274 (pc' := 277) rfl e62 Oq61.1 (W := 0) (Nat.le_of_eq rfl) (rmE1 l Z a0 hw [] q w T61.heap n0 Zn Oq61) (by decide) (by decide) (by decide) (by decide) (fun v65 T65 L65 X65 hQ65 => ?_)
      obtain ⟨rfl, Nq65, e65⟩ := hQ65
      have N65 := Fr.app N62 Nq65
      show own_End p e below _ (T65.setTop (mkF m 277 _ [(.int (0 : Int32))]))
      refine own_iload X65 hx hby at_277 (pc' := 279) rfl rfl ?_
      refine own_icN X65 hx hby at_279 (pc' := 282) rfl (show (0 : Int32) = (0 : Int32) by decide) ?_
      refine own_aload X65 hx hby at_282 (pc' := 284) rfl rfl rfl ?_
      refine own_lk9 hw X65 hx hZ hby (by rw [hml]; rfl) hown at_284 (pc' := 287) rfl e65 Oq61.1 (W := 0) (Nat.le_of_eq rfl) (rmPK1 l Z a0 hw [] q w kk y (1 : Int32) .null .null rfl rfl T61.heap n0 Zn Oq61 V61) (by decide) (by decide) (by decide) (by decide) (fun v66 T66 L66 X66 hQ66 => ?_)
      obtain ⟨rfl, Nq66, e66⟩ := hQ66
      have N66 := Fr.app N65 Nq66
      show own_End p e below _ (T66.setTop (mkF m 287 _ [(.ref y)]))
      refine own_ifnonnullY X66 hx hby at_287 (pc' := 294) (by decide) (by decide) ?_
      refine own_iconst X66 hx hby at_294 (pc' := 295) rfl (n := (0 : Int32)) (by decide) ?_
      refine own_iload X66 hx hby at_295 (pc' := 297) rfl rfl ?_
      refine own_icN X66 hx hby at_297 (pc' := 300) rfl (show (0 : Int32) = (0 : Int32) by decide) ?_
      refine own_iconst X66 hx hby at_300 (pc' := 301) rfl (n := (1 : Int32)) (by decide) ?_
      refine own_goto X66 hx hby at_301 (pc' := 305) (by decide) (by decide) ?_
      refine own_istore X66 hx hby at_305 (pc' := 307) rfl (l' := #[.val (.int p0), .val (.long p1), .second, .val (.long p2), .second, .val (.long p3), .second, .val (.int n), .val (.int (1 : Int32)), .val (.int rf), .val (.ref q), .val (.ref ta), .val (.ref tb), .val (.ref tc), .val (.int (1 : Int32)), .val (.int (1 : Int32)), .val (.int (0 : Int32))]) rfl ?_
      refine own_iload X66 hx hby at_307 (pc' := 309) rfl rfl ?_
      refine own_zreturn X66 hx hlk hby hret (Or.inr rfl) at_309 (own_lv ?_ (by decide) (by decide))
      show Q0 Z p0 p1 p2 p3  h0 n0 (some (.int (1 : Int32))) T66.heap _
      rw [e66]
      exact ⟨rfl, N66⟩
  · show own_End p e below _ (T0.setTop (mkF m 211 #[.val (.int p0), .val (.long p1), .second, .val (.long p2), .second, .val (.long p3), .second, .val (.int n), .val (.int (2 : Int32)), .val (.int rf), .val (.ref q), .val (.ref ta), .val (.ref tb), .val (.ref tc), .val (.int (1 : Int32)), .val (.int (2 : Int32)), s16] [(.int (2 : Int32))]))
    refine own_ifN X0 hx hby at_211 (pc' := 214) rfl (show (0 : Int32) < (2 : Int32) by decide) ?_
    refine own_aload X0 hx hby at_214 (pc' := 216) rfl rfl rfl ?_
    have ne_q_w : q ≠ w := Exa.neArv f_O_q.1 f_V_w (wd_1 hw)
    have ne_q_x : q ≠ x := Exa.ne f_O_q.1 f_O_x.1 (by decide)
    have ne_q_y : q ≠ y := Exa.ne f_O_q.1 f_O_y.1 (by decide)
    have ne_w_x : w ≠ x := Ne.symm (Exa.neArv f_O_x.1 f_V_w (wd_14 hw))
    have ne_w_y : w ≠ y := Ne.symm (Exa.neArv f_O_y.1 f_V_w (wd_14 hw))
    refine own_lk10 hw X0 hx hZ hby (by rw [hml]; rfl) hown at_216 (pc' := 219) rfl e1 f_O_q.1 (W := 0) (Nat.le_of_eq rfl) (rmP2 l Z a0 hw [] q w kk x dx sx y dy sy h1 n0 Z1 f_O_q f_V_w ho f_O_x f_O_y ge_q ge_w ge_x ge_y ne_x_y) (by decide) (by decide) (by decide) (by decide) (fun v67 T67 L67 X67 hQ67 => ?_)
    obtain ⟨rfl, Nq67, K67, Oq67, V67, Ox67, Oy67⟩ := hQ67
    have N67 := Fr.app N0 Nq67
    have Zn := Nat.le_trans Z1 K67.1
    show own_End p e below _ (T67.setTop (mkF m 219 _ [(.ref x)]))
    refine own_pop X67 hx hby at_219 (pc' := 220) rfl rfl ?_
    refine own_iload X67 hx hby at_220 (pc' := 222) rfl rfl ?_
    refine own_iconst X67 hx hby at_222 (pc' := 223) rfl (n := (1 : Int32)) (by decide) ?_
    refine own_icN X67 hx hby at_223 (pc' := 226) rfl (show (1 : Int32) < (2 : Int32) by decide) ?_
    refine own_aload X67 hx hby at_226 (pc' := 228) rfl rfl rfl ?_
    refine own_lk10 hw X67 hx hZ hby (by rw [hml]; rfl) hown at_228 (pc' := 231) rfl rfl Oq67.1 (W := 0) (Nat.le_of_eq rfl) (rmP1 l Z a0 hw [] q w kk y dy sy T67.heap n0 Zn Oq67 V67 ho Oy67 ge_q ge_w ge_y) (by decide) (by decide) (by decide) (by decide) (fun v68 T68 L68 X68 hQ68 => ?_)
    obtain ⟨rfl, Nq68, K68, Oq68, V68, Ox68⟩ := hQ68
    have N68 := Fr.app N67 Nq68
    have Ox67 := Ox67.keep K68 (ninS (Ne.symm ne_q_x) (ninS (Ne.symm ne_w_x) (ninS ne_x_y nin0)))
    have Zn := Nat.le_trans Zn K68.1
    show own_End p e below _ (T68.setTop (mkF m 231 _ [(.ref y)]))
    refine own_pop X68 hx hby at_231 (pc' := 232) rfl rfl ?_
    refine own_iload X68 hx hby at_232 (pc' := 234) rfl rfl ?_
    refine own_iconst X68 hx hby at_234 (pc' := 235) rfl (n := (2 : Int32)) (by decide) ?_
    refine own_icY X68 hx hby at_235 (pc' := 244) (by decide) (by decide) (show ¬ (2 : Int32) < (2 : Int32) by decide) ?_
    refine own_iconst X68 hx hby at_244 (pc' := 245) rfl (n := (0 : Int32)) (by decide) ?_
    refine own_iload X68 hx hby at_245 (pc' := 247) rfl rfl ?_
    refine own_iload X68 hx hby at_247 (pc' := 249) rfl rfl ?_
    refine own_isub X68 hx hby at_249 (pc' := 250) rfl ?_
    show own_End p e below _ (T68.setTop (mkF m 250 #[.val (.int p0), .val (.long p1), .second, .val (.long p2), .second, .val (.long p3), .second, .val (.int n), .val (.int (2 : Int32)), .val (.int rf), .val (.ref q), .val (.ref ta), .val (.ref tb), .val (.ref tc), .val (.int (1 : Int32)), .val (.int (2 : Int32)), s16] [(.int (0 : Int32)), (.int (0 : Int32))]))
    refine own_lk7 hw X68 hx hZ hby (by rw [hml]; rfl) hown at_250 (pc' := 253) rfl rfl (W := 0) (Nat.le_of_eq rfl) (rmMX l Z a0 hw [] (0 : Int32) (0 : Int32) T68.heap n0 Zn ) (by decide) (by decide) (by decide) (by decide) (fun v69 T69 L69 X69 hQ69 => ?_)
    obtain ⟨rfl, Nq69, e69⟩ := hQ69
    have N69 := Fr.app N68 Nq69
    show own_End p e below _ (T69.setTop (mkF m 253 _ [(.int (0 : Int32))]))
    refine own_istore X69 hx hby at_253 (pc' := 255) rfl (l' := #[.val (.int p0), .val (.long p1), .second, .val (.long p2), .second, .val (.long p3), .second, .val (.int n), .val (.int (2 : Int32)), .val (.int rf), .val (.ref q), .val (.ref ta), .val (.ref tb), .val (.ref tc), .val (.int (1 : Int32)), .val (.int (0 : Int32)), s16]) rfl ?_
    refine own_iload X69 hx hby at_255 (pc' := 257) rfl rfl ?_
    refine own_ifN X69 hx hby at_257 (pc' := 260) rfl (show (0 : Int32) = (0 : Int32) by decide) ?_
    refine own_iconst X69 hx hby at_260 (pc' := 261) rfl (n := (1 : Int32)) (by decide) ?_
    refine own_goto X69 hx hby at_261 (pc' := 265) (by decide) (by decide) ?_
    rcases h16 with rfl | ⟨r16, rfl⟩
    · show own_End p e below _ (T69.setTop (mkF m 265 #[.val (.int p0), .val (.long p1), .second, .val (.long p2), .second, .val (.long p3), .second, .val (.int n), .val (.int (2 : Int32)), .val (.int rf), .val (.ref q), .val (.ref ta), .val (.ref tb), .val (.ref tc), .val (.int (1 : Int32)), .val (.int (0 : Int32)), .unset] [(.int (1 : Int32))]))
      refine own_istore X69 hx hby at_265 (pc' := 267) rfl (l' := #[.val (.int p0), .val (.long p1), .second, .val (.long p2), .second, .val (.long p3), .second, .val (.int n), .val (.int (2 : Int32)), .val (.int rf), .val (.ref q), .val (.ref ta), .val (.ref tb), .val (.ref tc), .val (.int (1 : Int32)), .val (.int (0 : Int32)), .val (.int (1 : Int32))]) rfl ?_
      refine own_iload X69 hx hby at_267 (pc' := 269) rfl rfl ?_
      refine own_ifN X69 hx hby at_269 (pc' := 272) rfl (show ¬ (1 : Int32) = (0 : Int32) by decide) ?_
      refine own_aload X69 hx hby at_272 (pc' := 274) rfl rfl rfl ?_
      refine own_lk8 hw X69 hx hZ hby (by rw [hml]; rfl) hown at_274 (pc' := 277) rfl e69 Oq68.1 (W := 0) (Nat.le_of_eq rfl) (rmE0 l Z a0 hw [] q w T68.heap n0 Zn Oq68) (by decide) (by decide) (by decide) (by decide) (fun v70 T70 L70 X70 hQ70 => ?_)
      obtain ⟨rfl, Nq70, e70⟩ := hQ70
      have N70 := Fr.app N69 Nq70
      show own_End p e below _ (T70.setTop (mkF m 277 _ [(.int (1 : Int32))]))
      refine own_iload X70 hx hby at_277 (pc' := 279) rfl rfl ?_
      refine own_icN X70 hx hby at_279 (pc' := 282) rfl (show (1 : Int32) = (1 : Int32) by decide) ?_
      refine own_aload X70 hx hby at_282 (pc' := 284) rfl rfl rfl ?_
      refine own_lk9 hw X70 hx hZ hby (by rw [hml]; rfl) hown at_284 (pc' := 287) rfl e70 Oq68.1 (W := 0) (Nat.le_of_eq rfl) (rmPK0 l Z a0 hw [] q w kk (0 : Int32) .null .null rfl rfl T68.heap n0 Zn Oq68 V68) (by decide) (by decide) (by decide) (by decide) (fun v71 T71 L71 X71 hQ71 => ?_)
      obtain ⟨rfl, Nq71, e71⟩ := hQ71
      have N71 := Fr.app N70 Nq71
      show own_End p e below _ (T71.setTop (mkF m 287 _ [.null]))
      refine own_ifnonnullN X71 hx hby at_287 (pc' := 290) rfl ?_
      refine own_iconst X71 hx hby at_290 (pc' := 291) rfl (n := (1 : Int32)) (by decide) ?_
      refine own_goto X71 hx hby at_291 (pc' := 295) (by decide) (by decide) ?_
      refine own_iload X71 hx hby at_295 (pc' := 297) rfl rfl ?_
      refine own_icN X71 hx hby at_297 (pc' := 300) rfl (show (1 : Int32) = (1 : Int32) by decide) ?_
      refine own_iconst X71 hx hby at_300 (pc' := 301) rfl (n := (1 : Int32)) (by decide) ?_
      refine own_goto X71 hx hby at_301 (pc' := 305) (by decide) (by decide) ?_
      refine own_istore X71 hx hby at_305 (pc' := 307) rfl (l' := #[.val (.int p0), .val (.long p1), .second, .val (.long p2), .second, .val (.long p3), .second, .val (.int n), .val (.int (2 : Int32)), .val (.int rf), .val (.ref q), .val (.ref ta), .val (.ref tb), .val (.ref tc), .val (.int (1 : Int32)), .val (.int (0 : Int32)), .val (.int (1 : Int32))]) rfl ?_
      refine own_iload X71 hx hby at_307 (pc' := 309) rfl rfl ?_
      refine own_zreturn X71 hx hlk hby hret (Or.inr rfl) at_309 (own_lv ?_ (by decide) (by decide))
      show Q0 Z p0 p1 p2 p3  h0 n0 (some (.int (1 : Int32))) T71.heap _
      rw [e71]
      exact ⟨rfl, N71⟩
    · show own_End p e below _ (T69.setTop (mkF m 265 #[.val (.int p0), .val (.long p1), .second, .val (.long p2), .second, .val (.long p3), .second, .val (.int n), .val (.int (2 : Int32)), .val (.int rf), .val (.ref q), .val (.ref ta), .val (.ref tb), .val (.ref tc), .val (.int (1 : Int32)), .val (.int (0 : Int32)), .val (.int r16)] [(.int (1 : Int32))]))
      refine own_istore X69 hx hby at_265 (pc' := 267) rfl (l' := #[.val (.int p0), .val (.long p1), .second, .val (.long p2), .second, .val (.long p3), .second, .val (.int n), .val (.int (2 : Int32)), .val (.int rf), .val (.ref q), .val (.ref ta), .val (.ref tb), .val (.ref tc), .val (.int (1 : Int32)), .val (.int (0 : Int32)), .val (.int (1 : Int32))]) rfl ?_
      refine own_iload X69 hx hby at_267 (pc' := 269) rfl rfl ?_
      refine own_ifN X69 hx hby at_269 (pc' := 272) rfl (show ¬ (1 : Int32) = (0 : Int32) by decide) ?_
      refine own_aload X69 hx hby at_272 (pc' := 274) rfl rfl rfl ?_
      refine own_lk8 hw X69 hx hZ hby (by rw [hml]; rfl) hown at_274 (pc' := 277) rfl e69 Oq68.1 (W := 0) (Nat.le_of_eq rfl) (rmE0 l Z a0 hw [] q w T68.heap n0 Zn Oq68) (by decide) (by decide) (by decide) (by decide) (fun v72 T72 L72 X72 hQ72 => ?_)
      obtain ⟨rfl, Nq72, e72⟩ := hQ72
      have N72 := Fr.app N69 Nq72
      show own_End p e below _ (T72.setTop (mkF m 277 _ [(.int (1 : Int32))]))
      refine own_iload X72 hx hby at_277 (pc' := 279) rfl rfl ?_
      refine own_icN X72 hx hby at_279 (pc' := 282) rfl (show (1 : Int32) = (1 : Int32) by decide) ?_
      refine own_aload X72 hx hby at_282 (pc' := 284) rfl rfl rfl ?_
      refine own_lk9 hw X72 hx hZ hby (by rw [hml]; rfl) hown at_284 (pc' := 287) rfl e72 Oq68.1 (W := 0) (Nat.le_of_eq rfl) (rmPK0 l Z a0 hw [] q w kk (0 : Int32) .null .null rfl rfl T68.heap n0 Zn Oq68 V68) (by decide) (by decide) (by decide) (by decide) (fun v73 T73 L73 X73 hQ73 => ?_)
      obtain ⟨rfl, Nq73, e73⟩ := hQ73
      have N73 := Fr.app N72 Nq73
      show own_End p e below _ (T73.setTop (mkF m 287 _ [.null]))
      refine own_ifnonnullN X73 hx hby at_287 (pc' := 290) rfl ?_
      refine own_iconst X73 hx hby at_290 (pc' := 291) rfl (n := (1 : Int32)) (by decide) ?_
      refine own_goto X73 hx hby at_291 (pc' := 295) (by decide) (by decide) ?_
      refine own_iload X73 hx hby at_295 (pc' := 297) rfl rfl ?_
      refine own_icN X73 hx hby at_297 (pc' := 300) rfl (show (1 : Int32) = (1 : Int32) by decide) ?_
      refine own_iconst X73 hx hby at_300 (pc' := 301) rfl (n := (1 : Int32)) (by decide) ?_
      refine own_goto X73 hx hby at_301 (pc' := 305) (by decide) (by decide) ?_
      refine own_istore X73 hx hby at_305 (pc' := 307) rfl (l' := #[.val (.int p0), .val (.long p1), .second, .val (.long p2), .second, .val (.long p3), .second, .val (.int n), .val (.int (2 : Int32)), .val (.int rf), .val (.ref q), .val (.ref ta), .val (.ref tb), .val (.ref tc), .val (.int (1 : Int32)), .val (.int (0 : Int32)), .val (.int (1 : Int32))]) rfl ?_
      refine own_iload X73 hx hby at_307 (pc' := 309) rfl rfl ?_
      refine own_zreturn X73 hx hlk hby hret (Or.inr rfl) at_309 (own_lv ?_ (by decide) (by decide))
      show Q0 Z p0 p1 p2 p3  h0 n0 (some (.int (1 : Int32))) T73.heap _
      rw [e73]
      exact ⟨rfl, N73⟩
  · show own_End p e below _ (T0.setTop (mkF m 211 #[.val (.int p0), .val (.long p1), .second, .val (.long p2), .second, .val (.long p3), .second, .val (.int n), .val (.int (3 : Int32)), .val (.int rf), .val (.ref q), .val (.ref ta), .val (.ref tb), .val (.ref tc), .val (.int (1 : Int32)), .val (.int (2 : Int32)), s16] [(.int (3 : Int32))]))
    refine own_ifN X0 hx hby at_211 (pc' := 214) rfl (show (0 : Int32) < (3 : Int32) by decide) ?_
    refine own_aload X0 hx hby at_214 (pc' := 216) rfl rfl rfl ?_
    have ne_q_w : q ≠ w := Exa.neArv f_O_q.1 f_V_w (wd_1 hw)
    have ne_q_x : q ≠ x := Exa.ne f_O_q.1 f_O_x.1 (by decide)
    have ne_q_y : q ≠ y := Exa.ne f_O_q.1 f_O_y.1 (by decide)
    have ne_w_x : w ≠ x := Ne.symm (Exa.neArv f_O_x.1 f_V_w (wd_14 hw))
    have ne_w_y : w ≠ y := Ne.symm (Exa.neArv f_O_y.1 f_V_w (wd_14 hw))
    refine own_lk10 hw X0 hx hZ hby (by rw [hml]; rfl) hown at_216 (pc' := 219) rfl e1 f_O_q.1 (W := 0) (Nat.le_of_eq rfl) (rmP2 l Z a0 hw [] q w kk x dx sx y dy sy h1 n0 Z1 f_O_q f_V_w ho f_O_x f_O_y ge_q ge_w ge_x ge_y ne_x_y) (by decide) (by decide) (by decide) (by decide) (fun v74 T74 L74 X74 hQ74 => ?_)
    obtain ⟨rfl, Nq74, K74, Oq74, V74, Ox74, Oy74⟩ := hQ74
    have N74 := Fr.app N0 Nq74
    have Zn := Nat.le_trans Z1 K74.1
    show own_End p e below _ (T74.setTop (mkF m 219 _ [(.ref x)]))
    refine own_pop X74 hx hby at_219 (pc' := 220) rfl rfl ?_
    refine own_iload X74 hx hby at_220 (pc' := 222) rfl rfl ?_
    refine own_iconst X74 hx hby at_222 (pc' := 223) rfl (n := (1 : Int32)) (by decide) ?_
    refine own_icN X74 hx hby at_223 (pc' := 226) rfl (show (1 : Int32) < (3 : Int32) by decide) ?_
    refine own_aload X74 hx hby at_226 (pc' := 228) rfl rfl rfl ?_
    refine own_lk10 hw X74 hx hZ hby (by rw [hml]; rfl) hown at_228 (pc' := 231) rfl rfl Oq74.1 (W := 0) (Nat.le_of_eq rfl) (rmP1 l Z a0 hw [] q w kk y dy sy T74.heap n0 Zn Oq74 V74 ho Oy74 ge_q ge_w ge_y) (by decide) (by decide) (by decide) (by decide) (fun v75 T75 L75 X75 hQ75 => ?_)
    obtain ⟨rfl, Nq75, K75, Oq75, V75, Ox75⟩ := hQ75
    have N75 := Fr.app N74 Nq75
    have Ox74 := Ox74.keep K75 (ninS (Ne.symm ne_q_x) (ninS (Ne.symm ne_w_x) (ninS ne_x_y nin0)))
    have Zn := Nat.le_trans Zn K75.1
    show own_End p e below _ (T75.setTop (mkF m 231 _ [(.ref y)]))
    refine own_pop X75 hx hby at_231 (pc' := 232) rfl rfl ?_
    refine own_iload X75 hx hby at_232 (pc' := 234) rfl rfl ?_
    refine own_iconst X75 hx hby at_234 (pc' := 235) rfl (n := (2 : Int32)) (by decide) ?_
    refine own_icN X75 hx hby at_235 (pc' := 238) rfl (show (2 : Int32) < (3 : Int32) by decide) ?_
    refine own_aload X75 hx hby at_238 (pc' := 240) rfl rfl rfl ?_
    refine own_lk10 hw X75 hx hZ hby (by rw [hml]; rfl) hown at_240 (pc' := 243) rfl rfl Oq75.1 (W := 0) (Nat.le_of_eq rfl) (rmP0 l Z a0 hw [] q w kk T75.heap n0 Zn Oq75 V75 ho) (by decide) (by decide) (by decide) (by decide) (fun v76 T76 L76 X76 hQ76 => ?_)
    obtain ⟨rfl, Nq76, e76⟩ := hQ76
    have N76 := Fr.app N75 Nq76
    show own_End p e below _ (T76.setTop (mkF m 243 _ [.null]))
    refine own_pop X76 hx hby at_243 (pc' := 244) rfl rfl ?_
    refine own_iconst X76 hx hby at_244 (pc' := 245) rfl (n := (0 : Int32)) (by decide) ?_
    refine own_iload X76 hx hby at_245 (pc' := 247) rfl rfl ?_
    refine own_iload X76 hx hby at_247 (pc' := 249) rfl rfl ?_
    refine own_isub X76 hx hby at_249 (pc' := 250) rfl ?_
    show own_End p e below _ (T76.setTop (mkF m 250 #[.val (.int p0), .val (.long p1), .second, .val (.long p2), .second, .val (.long p3), .second, .val (.int n), .val (.int (3 : Int32)), .val (.int rf), .val (.ref q), .val (.ref ta), .val (.ref tb), .val (.ref tc), .val (.int (1 : Int32)), .val (.int (2 : Int32)), s16] [(.int (-1 : Int32)), (.int (0 : Int32))]))
    refine own_lk7 hw X76 hx hZ hby (by rw [hml]; rfl) hown at_250 (pc' := 253) rfl e76 (W := 0) (Nat.le_of_eq rfl) (rmMX l Z a0 hw [] (0 : Int32) (-1 : Int32) T75.heap n0 Zn ) (by decide) (by decide) (by decide) (by decide) (fun v77 T77 L77 X77 hQ77 => ?_)
    obtain ⟨rfl, Nq77, e77⟩ := hQ77
    have N77 := Fr.app N76 Nq77
    show own_End p e below _ (T77.setTop (mkF m 253 _ [(.int (0 : Int32))]))
    refine own_istore X77 hx hby at_253 (pc' := 255) rfl (l' := #[.val (.int p0), .val (.long p1), .second, .val (.long p2), .second, .val (.long p3), .second, .val (.int n), .val (.int (3 : Int32)), .val (.int rf), .val (.ref q), .val (.ref ta), .val (.ref tb), .val (.ref tc), .val (.int (1 : Int32)), .val (.int (0 : Int32)), s16]) rfl ?_
    refine own_iload X77 hx hby at_255 (pc' := 257) rfl rfl ?_
    refine own_ifN X77 hx hby at_257 (pc' := 260) rfl (show (0 : Int32) = (0 : Int32) by decide) ?_
    refine own_iconst X77 hx hby at_260 (pc' := 261) rfl (n := (1 : Int32)) (by decide) ?_
    refine own_goto X77 hx hby at_261 (pc' := 265) (by decide) (by decide) ?_
    rcases h16 with rfl | ⟨r16, rfl⟩
    · show own_End p e below _ (T77.setTop (mkF m 265 #[.val (.int p0), .val (.long p1), .second, .val (.long p2), .second, .val (.long p3), .second, .val (.int n), .val (.int (3 : Int32)), .val (.int rf), .val (.ref q), .val (.ref ta), .val (.ref tb), .val (.ref tc), .val (.int (1 : Int32)), .val (.int (0 : Int32)), .unset] [(.int (1 : Int32))]))
      refine own_istore X77 hx hby at_265 (pc' := 267) rfl (l' := #[.val (.int p0), .val (.long p1), .second, .val (.long p2), .second, .val (.long p3), .second, .val (.int n), .val (.int (3 : Int32)), .val (.int rf), .val (.ref q), .val (.ref ta), .val (.ref tb), .val (.ref tc), .val (.int (1 : Int32)), .val (.int (0 : Int32)), .val (.int (1 : Int32))]) rfl ?_
      refine own_iload X77 hx hby at_267 (pc' := 269) rfl rfl ?_
      refine own_ifN X77 hx hby at_269 (pc' := 272) rfl (show ¬ (1 : Int32) = (0 : Int32) by decide) ?_
      refine own_aload X77 hx hby at_272 (pc' := 274) rfl rfl rfl ?_
      refine own_lk8 hw X77 hx hZ hby (by rw [hml]; rfl) hown at_274 (pc' := 277) rfl e77 Oq75.1 (W := 0) (Nat.le_of_eq rfl) (rmE0 l Z a0 hw [] q w T75.heap n0 Zn Oq75) (by decide) (by decide) (by decide) (by decide) (fun v78 T78 L78 X78 hQ78 => ?_)
      obtain ⟨rfl, Nq78, e78⟩ := hQ78
      have N78 := Fr.app N77 Nq78
      show own_End p e below _ (T78.setTop (mkF m 277 _ [(.int (1 : Int32))]))
      refine own_iload X78 hx hby at_277 (pc' := 279) rfl rfl ?_
      refine own_icN X78 hx hby at_279 (pc' := 282) rfl (show (1 : Int32) = (1 : Int32) by decide) ?_
      refine own_aload X78 hx hby at_282 (pc' := 284) rfl rfl rfl ?_
      refine own_lk9 hw X78 hx hZ hby (by rw [hml]; rfl) hown at_284 (pc' := 287) rfl e78 Oq75.1 (W := 0) (Nat.le_of_eq rfl) (rmPK0 l Z a0 hw [] q w kk (0 : Int32) .null .null rfl rfl T75.heap n0 Zn Oq75 V75) (by decide) (by decide) (by decide) (by decide) (fun v79 T79 L79 X79 hQ79 => ?_)
      obtain ⟨rfl, Nq79, e79⟩ := hQ79
      have N79 := Fr.app N78 Nq79
      show own_End p e below _ (T79.setTop (mkF m 287 _ [.null]))
      refine own_ifnonnullN X79 hx hby at_287 (pc' := 290) rfl ?_
      refine own_iconst X79 hx hby at_290 (pc' := 291) rfl (n := (1 : Int32)) (by decide) ?_
      refine own_goto X79 hx hby at_291 (pc' := 295) (by decide) (by decide) ?_
      refine own_iload X79 hx hby at_295 (pc' := 297) rfl rfl ?_
      refine own_icN X79 hx hby at_297 (pc' := 300) rfl (show (1 : Int32) = (1 : Int32) by decide) ?_
      refine own_iconst X79 hx hby at_300 (pc' := 301) rfl (n := (1 : Int32)) (by decide) ?_
      refine own_goto X79 hx hby at_301 (pc' := 305) (by decide) (by decide) ?_
      refine own_istore X79 hx hby at_305 (pc' := 307) rfl (l' := #[.val (.int p0), .val (.long p1), .second, .val (.long p2), .second, .val (.long p3), .second, .val (.int n), .val (.int (3 : Int32)), .val (.int rf), .val (.ref q), .val (.ref ta), .val (.ref tb), .val (.ref tc), .val (.int (1 : Int32)), .val (.int (0 : Int32)), .val (.int (1 : Int32))]) rfl ?_
      refine own_iload X79 hx hby at_307 (pc' := 309) rfl rfl ?_
      refine own_zreturn X79 hx hlk hby hret (Or.inr rfl) at_309 (own_lv ?_ (by decide) (by decide))
      show Q0 Z p0 p1 p2 p3  h0 n0 (some (.int (1 : Int32))) T79.heap _
      rw [e79]
      exact ⟨rfl, N79⟩
    · show own_End p e below _ (T77.setTop (mkF m 265 #[.val (.int p0), .val (.long p1), .second, .val (.long p2), .second, .val (.long p3), .second, .val (.int n), .val (.int (3 : Int32)), .val (.int rf), .val (.ref q), .val (.ref ta), .val (.ref tb), .val (.ref tc), .val (.int (1 : Int32)), .val (.int (0 : Int32)), .val (.int r16)] [(.int (1 : Int32))]))
      refine own_istore X77 hx hby at_265 (pc' := 267) rfl (l' := #[.val (.int p0), .val (.long p1), .second, .val (.long p2), .second, .val (.long p3), .second, .val (.int n), .val (.int (3 : Int32)), .val (.int rf), .val (.ref q), .val (.ref ta), .val (.ref tb), .val (.ref tc), .val (.int (1 : Int32)), .val (.int (0 : Int32)), .val (.int (1 : Int32))]) rfl ?_
      refine own_iload X77 hx hby at_267 (pc' := 269) rfl rfl ?_
      refine own_ifN X77 hx hby at_269 (pc' := 272) rfl (show ¬ (1 : Int32) = (0 : Int32) by decide) ?_
      refine own_aload X77 hx hby at_272 (pc' := 274) rfl rfl rfl ?_
      refine own_lk8 hw X77 hx hZ hby (by rw [hml]; rfl) hown at_274 (pc' := 277) rfl e77 Oq75.1 (W := 0) (Nat.le_of_eq rfl) (rmE0 l Z a0 hw [] q w T75.heap n0 Zn Oq75) (by decide) (by decide) (by decide) (by decide) (fun v80 T80 L80 X80 hQ80 => ?_)
      obtain ⟨rfl, Nq80, e80⟩ := hQ80
      have N80 := Fr.app N77 Nq80
      show own_End p e below _ (T80.setTop (mkF m 277 _ [(.int (1 : Int32))]))
      refine own_iload X80 hx hby at_277 (pc' := 279) rfl rfl ?_
      refine own_icN X80 hx hby at_279 (pc' := 282) rfl (show (1 : Int32) = (1 : Int32) by decide) ?_
      refine own_aload X80 hx hby at_282 (pc' := 284) rfl rfl rfl ?_
      refine own_lk9 hw X80 hx hZ hby (by rw [hml]; rfl) hown at_284 (pc' := 287) rfl e80 Oq75.1 (W := 0) (Nat.le_of_eq rfl) (rmPK0 l Z a0 hw [] q w kk (0 : Int32) .null .null rfl rfl T75.heap n0 Zn Oq75 V75) (by decide) (by decide) (by decide) (by decide) (fun v81 T81 L81 X81 hQ81 => ?_)
      obtain ⟨rfl, Nq81, e81⟩ := hQ81
      have N81 := Fr.app N80 Nq81
      show own_End p e below _ (T81.setTop (mkF m 287 _ [.null]))
      refine own_ifnonnullN X81 hx hby at_287 (pc' := 290) rfl ?_
      refine own_iconst X81 hx hby at_290 (pc' := 291) rfl (n := (1 : Int32)) (by decide) ?_
      refine own_goto X81 hx hby at_291 (pc' := 295) (by decide) (by decide) ?_
      refine own_iload X81 hx hby at_295 (pc' := 297) rfl rfl ?_
      refine own_icN X81 hx hby at_297 (pc' := 300) rfl (show (1 : Int32) = (1 : Int32) by decide) ?_
      refine own_iconst X81 hx hby at_300 (pc' := 301) rfl (n := (1 : Int32)) (by decide) ?_
      refine own_goto X81 hx hby at_301 (pc' := 305) (by decide) (by decide) ?_
      refine own_istore X81 hx hby at_305 (pc' := 307) rfl (l' := #[.val (.int p0), .val (.long p1), .second, .val (.long p2), .second, .val (.long p3), .second, .val (.int n), .val (.int (3 : Int32)), .val (.int rf), .val (.ref q), .val (.ref ta), .val (.ref tb), .val (.ref tc), .val (.int (1 : Int32)), .val (.int (0 : Int32)), .val (.int (1 : Int32))]) rfl ?_
      refine own_iload X81 hx hby at_307 (pc' := 309) rfl rfl ?_
      refine own_zreturn X81 hx hlk hby hret (Or.inr rfl) at_309 (own_lv ?_ (by decide) (by decide))
      show Q0 Z p0 p1 p2 p3  h0 n0 (some (.int (1 : Int32))) T81.heap _
      rw [e81]
      exact ⟨rfl, N81⟩
set_option maxRecDepth 65536 in
set_option maxHeartbeats 40000000 in
theorem own_B3 {p : Program} {l : Launch} {e : Env} {s : State} {m : MethodId} {below : List Frame} {meth : Method} {c : Code} {T0 : State} {locs : List Loc} (Z : State) (a0 : Array Value) (hw : ∀ d ∈ tables_1, d.before a0 Z = true) (p0 : Int32) (p1 : Int64) (p2 : Int64) (p3 : Int64) (q : Addr) (w : Addr) (kk : ClassId) (x : Addr) (dx : Int64) (sx : Int64) (y : Addr) (dy : Int64) (sy : Int64) (z : Addr) (dz : Int64) (sz : Int64) (n : Int32) (rm : Int32) (rf : Int32) (ta : Addr) (tb : Addr) (tc : Addr) (s16 : Slot) (h0 : Heap) (n0 : Nat) (h1 : Heap)
    (X0 : Stand p l e room_1 s m #[(.int p0), (.long p1), (.long p2), (.long p3)] below meth c T0 locs 5 33) (hx : p.tables.exec = Jvm.exec) (hby : c.code = code) (hlk : meth.locks = false) (hml : c.maxLocals = 17) (hown : s.vm.findClass "com/example/earnest_reactor/earnestreactor/core/TimerQueueIsEmptyPinLaw" = some m.cls) (hret : meth.sig.returnType = some .boolean) (hZ : Z.Warmed39 s.vm) (e1 : T0.heap = h1) (N0 : Fr n0 locs) (Z1 : n0 ≤ h1.size) (f_O_q : own_TQ Z h1 q (.ref w) (3 : Int32)) (f_V_w : Arv Z h1 w kk (.object "com/example/earnest_reactor/earnestreactor/core/ScheduledTask") (16 : Int32) [(.ref x), (.ref y), (.ref z)] .null) (ho : Ovr Z kk "com/example/earnest_reactor/earnestreactor/core/ScheduledTask") (ge_q : n0 ≤ q) (ge_w : n0 ≤ w) (f_O_x : own_TK Z h1 x .null dx sx .null (0 : Int32)) (f_O_y : own_TK Z h1 y .null dy sy .null (1 : Int32)) (f_O_z : own_TK Z h1 z .null dz sz .null (2 : Int32)) (ge_x : n0 ≤ x) (ge_y : n0 ≤ y) (ge_z : n0 ≤ z) (ne_x_y : x ≠ y) (ne_x_z : x ≠ z) (ne_y_z : y ≠ z) (hrm : rm = (0 : Int32) ∨ rm = (1 : Int32) ∨ rm = (2 : Int32) ∨ rm = (3 : Int32)) (h16 : s16 = .unset ∨ ∃ r : Int32, s16 = .val (.int r)) :
    own_End p e below (own_F s (Q0 Z p0 p1 p2 p3 h0 n0) room_1.cells room_1.slots) (T0.setTop (mkF m 209 #[.val (.int p0), .val (.long p1), .second, .val (.long p2), .second, .val (.long p3), .second, .val (.int n), .val (.int rm), .val (.int rf), .val (.ref q), .val (.ref ta), .val (.ref tb), .val (.ref tc), .val (.int (1 : Int32)), .val (.int (3 : Int32)), s16] [])) := by
  refine own_iload X0 hx hby at_209 (pc' := 211) rfl rfl ?_
  rcases hrm with rfl | rfl | rfl | rfl
  · show own_End p e below _ (T0.setTop (mkF m 211 #[.val (.int p0), .val (.long p1), .second, .val (.long p2), .second, .val (.long p3), .second, .val (.int n), .val (.int (0 : Int32)), .val (.int rf), .val (.ref q), .val (.ref ta), .val (.ref tb), .val (.ref tc), .val (.int (1 : Int32)), .val (.int (3 : Int32)), s16] [(.int (0 : Int32))]))
    refine own_ifY X0 hx hby at_211 (pc' := 220) (by decide) (by decide) (show ¬ (0 : Int32) < (0 : Int32) by decide) ?_
    refine own_iload X0 hx hby at_220 (pc' := 222) rfl rfl ?_
    refine own_iconst X0 hx hby at_222 (pc' := 223) rfl (n := (1 : Int32)) (by decide) ?_
    refine own_icY X0 hx hby at_223 (pc' := 232) (by decide) (by decide) (show ¬ (1 : Int32) < (0 : Int32) by decide) ?_
    refine own_iload X0 hx hby at_232 (pc' := 234) rfl rfl ?_
    refine own_iconst X0 hx hby at_234 (pc' := 235) rfl (n := (2 : Int32)) (by decide) ?_
    refine own_icY X0 hx hby at_235 (pc' := 244) (by decide) (by decide) (show ¬ (2 : Int32) < (0 : Int32) by decide) ?_
    refine own_iconst X0 hx hby at_244 (pc' := 245) rfl (n := (0 : Int32)) (by decide) ?_
    refine own_iload X0 hx hby at_245 (pc' := 247) rfl rfl ?_
    refine own_iload X0 hx hby at_247 (pc' := 249) rfl rfl ?_
    refine own_isub X0 hx hby at_249 (pc' := 250) rfl ?_
    show own_End p e below _ (T0.setTop (mkF m 250 #[.val (.int p0), .val (.long p1), .second, .val (.long p2), .second, .val (.long p3), .second, .val (.int n), .val (.int (0 : Int32)), .val (.int rf), .val (.ref q), .val (.ref ta), .val (.ref tb), .val (.ref tc), .val (.int (1 : Int32)), .val (.int (3 : Int32)), s16] [(.int (3 : Int32)), (.int (0 : Int32))]))
    refine own_lk7 hw X0 hx hZ hby (by rw [hml]; rfl) hown at_250 (pc' := 253) rfl e1 (W := 0) (Nat.le_of_eq rfl) (rmMX l Z a0 hw [] (0 : Int32) (3 : Int32) h1 n0 Z1 ) (by decide) (by decide) (by decide) (by decide) (fun v83 T83 L83 X83 hQ83 => ?_)
    obtain ⟨rfl, Nq83, e83⟩ := hQ83
    have N83 := Fr.app N0 Nq83
    show own_End p e below _ (T83.setTop (mkF m 253 _ [(.int (3 : Int32))]))
    refine own_istore X83 hx hby at_253 (pc' := 255) rfl (l' := #[.val (.int p0), .val (.long p1), .second, .val (.long p2), .second, .val (.long p3), .second, .val (.int n), .val (.int (0 : Int32)), .val (.int rf), .val (.ref q), .val (.ref ta), .val (.ref tb), .val (.ref tc), .val (.int (1 : Int32)), .val (.int (3 : Int32)), s16]) rfl ?_
    refine own_iload X83 hx hby at_255 (pc' := 257) rfl rfl ?_
    refine own_ifY X83 hx hby at_257 (pc' := 264) (by decide) (by decide) (show ¬ (3 : Int32) = (0 : Int32) by decide) ?_
    refine own_iconst X83 hx hby at_264 (pc' := 265) rfl (n := (0 : Int32)) (by decide) ?_
    rcases h16 with rfl | ⟨r16, rfl⟩
    · show own_End p e below _ (T83.setTop (mkF m 265 #[.val (.int p0), .val (.long p1), .second, .val (.long p2), .second, .val (.long p3), .second, .val (.int n), .val (.int (0 : Int32)), .val (.int rf), .val (.ref q), .val (.ref ta), .val (.ref tb), .val (.ref tc), .val (.int (1 : Int32)), .val (.int (3 : Int32)), .unset] [(.int (0 : Int32))]))
      refine own_istore X83 hx hby at_265 (pc' := 267) rfl (l' := #[.val (.int p0), .val (.long p1), .second, .val (.long p2), .second, .val (.long p3), .second, .val (.int n), .val (.int (0 : Int32)), .val (.int rf), .val (.ref q), .val (.ref ta), .val (.ref tb), .val (.ref tc), .val (.int (1 : Int32)), .val (.int (3 : Int32)), .val (.int (0 : Int32))]) rfl ?_
      refine own_iload X83 hx hby at_267 (pc' := 269) rfl rfl ?_
      refine own_ifN X83 hx hby at_269 (pc' := 272) rfl (show ¬ (1 : Int32) = (0 : Int32) by decide) ?_
      refine own_aload X83 hx hby at_272 (pc' := 274) rfl rfl rfl ?_
      refine own_lk8 hw X83 hx hZ hby (by rw [hml]; rfl) hown at_274 (pc' := 277) rfl e83 f_O_q.1 (W := 0) (Nat.le_of_eq rfl) (rmE3 l Z a0 hw [] q w h1 n0 Z1 f_O_q) (by decide) (by decide) (by decide) (by decide) (fun v84 T84 L84 X84 hQ84 => ?_)
      obtain ⟨rfl, Nq84, e84⟩ := hQ84
      have N84 := Fr.app N83 Nq84
      show own_End p e below _ (T84.setTop (mkF m 277 _ [(.int (0 : Int32))]))
      refine own_iload X84 hx hby at_277 (pc' := 279) rfl rfl ?_
      refine own_icN X84 hx hby at_279 (pc' := 282) rfl (show (0 : Int32) = (0 : Int32) by decide) ?_
      refine own_aload X84 hx hby at_282 (pc' := 284) rfl rfl rfl ?_
      refine own_lk9 hw X84 hx hZ hby (by rw [hml]; rfl) hown at_284 (pc' := 287) rfl e84 f_O_q.1 (W := 0) (Nat.le_of_eq rfl) (rmPK1 l Z a0 hw [] q w kk x (3 : Int32) (.ref y) (.ref z) rfl rfl h1 n0 Z1 f_O_q f_V_w) (by decide) (by decide) (by decide) (by decide) (fun v85 T85 L85 X85 hQ85 => ?_)
      obtain ⟨rfl, Nq85, e85⟩ := hQ85
      have N85 := Fr.app N84 Nq85
      show own_End p e below _ (T85.setTop (mkF m 287 _ [(.ref x)]))
      refine own_ifnonnullY X85 hx hby at_287 (pc' := 294) (by decide) (by decide) ?_
      refine own_iconst X85 hx hby at_294 (pc' := 295) rfl (n := (0 : Int32)) (by decide) ?_
      refine own_iload X85 hx hby at_295 (pc' := 297) rfl rfl ?_
      refine own_icN X85 hx hby at_297 (pc' := 300) rfl (show (0 : Int32) = (0 : Int32) by decide) ?_
      refine own_iconst X85 hx hby at_300 (pc' := 301) rfl (n := (1 : Int32)) (by decide) ?_
      refine own_goto X85 hx hby at_301 (pc' := 305) (by decide) (by decide) ?_
      refine own_istore X85 hx hby at_305 (pc' := 307) rfl (l' := #[.val (.int p0), .val (.long p1), .second, .val (.long p2), .second, .val (.long p3), .second, .val (.int n), .val (.int (0 : Int32)), .val (.int rf), .val (.ref q), .val (.ref ta), .val (.ref tb), .val (.ref tc), .val (.int (1 : Int32)), .val (.int (3 : Int32)), .val (.int (0 : Int32))]) rfl ?_
      refine own_iload X85 hx hby at_307 (pc' := 309) rfl rfl ?_
      refine own_zreturn X85 hx hlk hby hret (Or.inr rfl) at_309 (own_lv ?_ (by decide) (by decide))
      show Q0 Z p0 p1 p2 p3  h0 n0 (some (.int (1 : Int32))) T85.heap _
      rw [e85]
      exact ⟨rfl, N85⟩
    · show own_End p e below _ (T83.setTop (mkF m 265 #[.val (.int p0), .val (.long p1), .second, .val (.long p2), .second, .val (.long p3), .second, .val (.int n), .val (.int (0 : Int32)), .val (.int rf), .val (.ref q), .val (.ref ta), .val (.ref tb), .val (.ref tc), .val (.int (1 : Int32)), .val (.int (3 : Int32)), .val (.int r16)] [(.int (0 : Int32))]))
      refine own_istore X83 hx hby at_265 (pc' := 267) rfl (l' := #[.val (.int p0), .val (.long p1), .second, .val (.long p2), .second, .val (.long p3), .second, .val (.int n), .val (.int (0 : Int32)), .val (.int rf), .val (.ref q), .val (.ref ta), .val (.ref tb), .val (.ref tc), .val (.int (1 : Int32)), .val (.int (3 : Int32)), .val (.int (0 : Int32))]) rfl ?_
      refine own_iload X83 hx hby at_267 (pc' := 269) rfl rfl ?_
      refine own_ifN X83 hx hby at_269 (pc' := 272) rfl (show ¬ (1 : Int32) = (0 : Int32) by decide) ?_
      refine own_aload X83 hx hby at_272 (pc' := 274) rfl rfl rfl ?_
      refine own_lk8 hw X83 hx hZ hby (by rw [hml]; rfl) hown at_274 (pc' := 277) rfl e83 f_O_q.1 (W := 0) (Nat.le_of_eq rfl) (rmE3 l Z a0 hw [] q w h1 n0 Z1 f_O_q) (by decide) (by decide) (by decide) (by decide) (fun v86 T86 L86 X86 hQ86 => ?_)
      obtain ⟨rfl, Nq86, e86⟩ := hQ86
      have N86 := Fr.app N83 Nq86
      show own_End p e below _ (T86.setTop (mkF m 277 _ [(.int (0 : Int32))]))
      refine own_iload X86 hx hby at_277 (pc' := 279) rfl rfl ?_
      refine own_icN X86 hx hby at_279 (pc' := 282) rfl (show (0 : Int32) = (0 : Int32) by decide) ?_
      refine own_aload X86 hx hby at_282 (pc' := 284) rfl rfl rfl ?_
      refine own_lk9 hw X86 hx hZ hby (by rw [hml]; rfl) hown at_284 (pc' := 287) rfl e86 f_O_q.1 (W := 0) (Nat.le_of_eq rfl) (rmPK1 l Z a0 hw [] q w kk x (3 : Int32) (.ref y) (.ref z) rfl rfl h1 n0 Z1 f_O_q f_V_w) (by decide) (by decide) (by decide) (by decide) (fun v87 T87 L87 X87 hQ87 => ?_)
      obtain ⟨rfl, Nq87, e87⟩ := hQ87
      have N87 := Fr.app N86 Nq87
      show own_End p e below _ (T87.setTop (mkF m 287 _ [(.ref x)]))
      refine own_ifnonnullY X87 hx hby at_287 (pc' := 294) (by decide) (by decide) ?_
      refine own_iconst X87 hx hby at_294 (pc' := 295) rfl (n := (0 : Int32)) (by decide) ?_
      refine own_iload X87 hx hby at_295 (pc' := 297) rfl rfl ?_
      refine own_icN X87 hx hby at_297 (pc' := 300) rfl (show (0 : Int32) = (0 : Int32) by decide) ?_
      refine own_iconst X87 hx hby at_300 (pc' := 301) rfl (n := (1 : Int32)) (by decide) ?_
      refine own_goto X87 hx hby at_301 (pc' := 305) (by decide) (by decide) ?_
      refine own_istore X87 hx hby at_305 (pc' := 307) rfl (l' := #[.val (.int p0), .val (.long p1), .second, .val (.long p2), .second, .val (.long p3), .second, .val (.int n), .val (.int (0 : Int32)), .val (.int rf), .val (.ref q), .val (.ref ta), .val (.ref tb), .val (.ref tc), .val (.int (1 : Int32)), .val (.int (3 : Int32)), .val (.int (0 : Int32))]) rfl ?_
      refine own_iload X87 hx hby at_307 (pc' := 309) rfl rfl ?_
      refine own_zreturn X87 hx hlk hby hret (Or.inr rfl) at_309 (own_lv ?_ (by decide) (by decide))
      show Q0 Z p0 p1 p2 p3  h0 n0 (some (.int (1 : Int32))) T87.heap _
      rw [e87]
      exact ⟨rfl, N87⟩
  · show own_End p e below _ (T0.setTop (mkF m 211 #[.val (.int p0), .val (.long p1), .second, .val (.long p2), .second, .val (.long p3), .second, .val (.int n), .val (.int (1 : Int32)), .val (.int rf), .val (.ref q), .val (.ref ta), .val (.ref tb), .val (.ref tc), .val (.int (1 : Int32)), .val (.int (3 : Int32)), s16] [(.int (1 : Int32))]))
    refine own_ifN X0 hx hby at_211 (pc' := 214) rfl (show (0 : Int32) < (1 : Int32) by decide) ?_
    refine own_aload X0 hx hby at_214 (pc' := 216) rfl rfl rfl ?_
    rcases Decidable.em (own_rb dy sy dz sz = (1 : Int32)) with hr88 | hr88
    · show own_End p e below _ (T0.setTop (mkF m 216 #[.val (.int p0), .val (.long p1), .second, .val (.long p2), .second, .val (.long p3), .second, .val (.int n), .val (.int (1 : Int32)), .val (.int rf), .val (.ref q), .val (.ref ta), .val (.ref tb), .val (.ref tc), .val (.int (1 : Int32)), .val (.int (3 : Int32)), s16] [(.ref q)]))
      have ne_q_w : q ≠ w := Exa.neArv f_O_q.1 f_V_w (wd_1 hw)
      have ne_q_x : q ≠ x := Exa.ne f_O_q.1 f_O_x.1 (by decide)
      have ne_q_y : q ≠ y := Exa.ne f_O_q.1 f_O_y.1 (by decide)
      have ne_q_z : q ≠ z := Exa.ne f_O_q.1 f_O_z.1 (by decide)
      have ne_w_x : w ≠ x := Ne.symm (Exa.neArv f_O_x.1 f_V_w (wd_14 hw))
      have ne_w_y : w ≠ y := Ne.symm (Exa.neArv f_O_y.1 f_V_w (wd_14 hw))
      have ne_w_z : w ≠ z := Ne.symm (Exa.neArv f_O_z.1 f_V_w (wd_14 hw))
      refine own_lk10 hw X0 hx hZ hby (by rw [hml]; rfl) hown at_216 (pc' := 219) rfl e1 f_O_q.1 (W := 0) (Nat.le_of_eq rfl) (rmP3b l Z a0 hw [] q w kk x dx sx y dy sy z dz sz h1 n0 Z1 f_O_q f_V_w ho f_O_x f_O_y f_O_z ge_q ge_w ge_x ge_y ge_z ne_x_y ne_x_z ne_y_z hr88) (by decide) (by decide) (by decide) (by decide) (fun v89 T89 L89 X89 hQ89 => ?_)
      obtain ⟨rfl, Nq89, K89, Oq89, V89, Ox89, Oy89, Oz89⟩ := hQ89
      have N89 := Fr.app N0 Nq89
      have Zn := Nat.le_trans Z1 K89.1
      show own_End p e below _ (T89.setTop (mkF m 219 _ [(.ref x)]))
      refine own_pop X89 hx hby at_219 (pc' := 220) rfl rfl ?_
      refine own_iload X89 hx hby at_220 (pc' := 222) rfl rfl ?_
      refine own_iconst X89 hx hby at_222 (pc' := 223) rfl (n := (1 : Int32)) (by decide) ?_
      refine own_icY X89 hx hby at_223 (pc' := 232) (by decide) (by decide) (show ¬ (1 : Int32) < (1 : Int32) by decide) ?_
      refine own_iload X89 hx hby at_232 (pc' := 234) rfl rfl ?_
      refine own_iconst X89 hx hby at_234 (pc' := 235) rfl (n := (2 : Int32)) (by decide) ?_
      refine own_icY X89 hx hby at_235 (pc' := 244) (by decide) (by decide) (show ¬ (2 : Int32) < (1 : Int32) by decide) ?_
      refine own_iconst X89 hx hby at_244 (pc' := 245) rfl (n := (0 : Int32)) (by decide) ?_
      refine own_iload X89 hx hby at_245 (pc' := 247) rfl rfl ?_
      refine own_iload X89 hx hby at_247 (pc' := 249) rfl rfl ?_
      refine own_isub X89 hx hby at_249 (pc' := 250) rfl ?_
      show own_End p e below _ (T89.setTop (mkF m 250 #[.val (.int p0), .val (.long p1), .second, .val (.long p2), .second, .val (.long p3), .second, .val (.int n), .val (.int (1 : Int32)), .val (.int rf), .val (.ref q), .val (.ref ta), .val (.ref tb), .val (.ref tc), .val (.int (1 : Int32)), .val (.int (3 : Int32)), s16] [(.int (2 : Int32)), (.int (0 : Int32))]))
      refine own_lk7 hw X89 hx hZ hby (by rw [hml]; rfl) hown at_250 (pc' := 253) rfl rfl (W := 0) (Nat.le_of_eq rfl) (rmMX l Z a0 hw [] (0 : Int32) (2 : Int32) T89.heap n0 Zn ) (by decide) (by decide) (by decide) (by decide) (fun v90 T90 L90 X90 hQ90 => ?_)
      obtain ⟨rfl, Nq90, e90⟩ := hQ90
      have N90 := Fr.app N89 Nq90
      show own_End p e below _ (T90.setTop (mkF m 253 _ [(.int (2 : Int32))]))
      refine own_istore X90 hx hby at_253 (pc' := 255) rfl (l' := #[.val (.int p0), .val (.long p1), .second, .val (.long p2), .second, .val (.long p3), .second, .val (.int n), .val (.int (1 : Int32)), .val (.int rf), .val (.ref q), .val (.ref ta), .val (.ref tb), .val (.ref tc), .val (.int (1 : Int32)), .val (.int (2 : Int32)), s16]) rfl ?_
      refine own_iload X90 hx hby at_255 (pc' := 257) rfl rfl ?_
      refine own_ifY X90 hx hby at_257 (pc' := 264) (by decide) (by decide) (show ¬ (2 : Int32) = (0 : Int32) by decide) ?_
      refine own_iconst X90 hx hby at_264 (pc' := 265) rfl (n := (0 : Int32)) (by decide) ?_
      rcases h16 with rfl | ⟨r16, rfl⟩
      · show own_End p e below _ (T90.setTop (mkF m 265 #[.val (.int p0), .val (.long p1), .second, .val (.long p2), .second, .val (.long p3), .second, .val (.int n), .val (.int (1 : Int32)), .val (.int rf), .val (.ref q), .val (.ref ta), .val (.ref tb), .val (.ref tc), .val (.int (1 : Int32)), .val (.int (2 : Int32)), .unset] [(.int (0 : Int32))]))
        refine own_istore X90 hx hby at_265 (pc' := 267) rfl (l' := #[.val (.int p0), .val (.long p1), .second, .val (.long p2), .second, .val (.long p3), .second, .val (.int n), .val (.int (1 : Int32)), .val (.int rf), .val (.ref q), .val (.ref ta), .val (.ref tb), .val (.ref tc), .val (.int (1 : Int32)), .val (.int (2 : Int32)), .val (.int (0 : Int32))]) rfl ?_
        refine own_iload X90 hx hby at_267 (pc' := 269) rfl rfl ?_
        refine own_ifN X90 hx hby at_269 (pc' := 272) rfl (show ¬ (1 : Int32) = (0 : Int32) by decide) ?_
        refine own_aload X90 hx hby at_272 (pc' := 274) rfl rfl rfl ?_
        refine own_lk8 hw X90 hx hZ hby (by rw [hml]; rfl) hown at_274 (pc' := 277) rfl e90 Oq89.1 (W := 0) (Nat.le_of_eq rfl) (rmE2 l Z a0 hw [] q w T89.heap n0 Zn Oq89) (by decide) (by decide) (by decide) (by decide) (fun v91 T91 L91 X91 hQ91 => ?_)
        obtain ⟨rfl, Nq91, e91⟩ := hQ91
        have N91 := Fr.app N90 Nq91
        show own_End p e below _ (T91.setTop (mkF m 277 _ [(.int (0 : Int32))]))
        refine own_iload X91 hx hby at_277 (pc' := 279) rfl rfl ?_
        refine own_icN X91 hx hby at_279 (pc' := 282) rfl (show (0 : Int32) = (0 : Int32) by decide) ?_
        refine own_aload X91 hx hby at_282 (pc' := 284) rfl rfl rfl ?_
        refine own_lk9 hw X91 hx hZ hby (by rw [hml]; rfl) hown at_284 (pc' := 287) rfl e91 Oq89.1 (W := 0) (Nat.le_of_eq rfl) (rmPK1 l Z a0 hw [] q w kk y (2 : Int32) (.ref z) .null rfl rfl T89.heap n0 Zn Oq89 V89) (by decide) (by decide) (by decide) (by decide) (fun v92 T92 L92 X92 hQ92 => ?_)
        obtain ⟨rfl, Nq92, e92⟩ := hQ92
        have N92 := Fr.app N91 Nq92
        show own_End p e below _ (T92.setTop (mkF m 287 _ [(.ref y)]))
        refine own_ifnonnullY X92 hx hby at_287 (pc' := 294) (by decide) (by decide) ?_
        refine own_iconst X92 hx hby at_294 (pc' := 295) rfl (n := (0 : Int32)) (by decide) ?_
        refine own_iload X92 hx hby at_295 (pc' := 297) rfl rfl ?_
        refine own_icN X92 hx hby at_297 (pc' := 300) rfl (show (0 : Int32) = (0 : Int32) by decide) ?_
        refine own_iconst X92 hx hby at_300 (pc' := 301) rfl (n := (1 : Int32)) (by decide) ?_
        refine own_goto X92 hx hby at_301 (pc' := 305) (by decide) (by decide) ?_
        refine own_istore X92 hx hby at_305 (pc' := 307) rfl (l' := #[.val (.int p0), .val (.long p1), .second, .val (.long p2), .second, .val (.long p3), .second, .val (.int n), .val (.int (1 : Int32)), .val (.int rf), .val (.ref q), .val (.ref ta), .val (.ref tb), .val (.ref tc), .val (.int (1 : Int32)), .val (.int (2 : Int32)), .val (.int (0 : Int32))]) rfl ?_
        refine own_iload X92 hx hby at_307 (pc' := 309) rfl rfl ?_
        refine own_zreturn X92 hx hlk hby hret (Or.inr rfl) at_309 (own_lv ?_ (by decide) (by decide))
        show Q0 Z p0 p1 p2 p3  h0 n0 (some (.int (1 : Int32))) T92.heap _
        rw [e92]
        exact ⟨rfl, N92⟩
      · show own_End p e below _ (T90.setTop (mkF m 265 #[.val (.int p0), .val (.long p1), .second, .val (.long p2), .second, .val (.long p3), .second, .val (.int n), .val (.int (1 : Int32)), .val (.int rf), .val (.ref q), .val (.ref ta), .val (.ref tb), .val (.ref tc), .val (.int (1 : Int32)), .val (.int (2 : Int32)), .val (.int r16)] [(.int (0 : Int32))]))
        refine own_istore X90 hx hby at_265 (pc' := 267) rfl (l' := #[.val (.int p0), .val (.long p1), .second, .val (.long p2), .second, .val (.long p3), .second, .val (.int n), .val (.int (1 : Int32)), .val (.int rf), .val (.ref q), .val (.ref ta), .val (.ref tb), .val (.ref tc), .val (.int (1 : Int32)), .val (.int (2 : Int32)), .val (.int (0 : Int32))]) rfl ?_
        refine own_iload X90 hx hby at_267 (pc' := 269) rfl rfl ?_
        refine own_ifN X90 hx hby at_269 (pc' := 272) rfl (show ¬ (1 : Int32) = (0 : Int32) by decide) ?_
        refine own_aload X90 hx hby at_272 (pc' := 274) rfl rfl rfl ?_
        refine own_lk8 hw X90 hx hZ hby (by rw [hml]; rfl) hown at_274 (pc' := 277) rfl e90 Oq89.1 (W := 0) (Nat.le_of_eq rfl) (rmE2 l Z a0 hw [] q w T89.heap n0 Zn Oq89) (by decide) (by decide) (by decide) (by decide) (fun v93 T93 L93 X93 hQ93 => ?_)
        obtain ⟨rfl, Nq93, e93⟩ := hQ93
        have N93 := Fr.app N90 Nq93
        show own_End p e below _ (T93.setTop (mkF m 277 _ [(.int (0 : Int32))]))
        refine own_iload X93 hx hby at_277 (pc' := 279) rfl rfl ?_
        refine own_icN X93 hx hby at_279 (pc' := 282) rfl (show (0 : Int32) = (0 : Int32) by decide) ?_
        refine own_aload X93 hx hby at_282 (pc' := 284) rfl rfl rfl ?_
        refine own_lk9 hw X93 hx hZ hby (by rw [hml]; rfl) hown at_284 (pc' := 287) rfl e93 Oq89.1 (W := 0) (Nat.le_of_eq rfl) (rmPK1 l Z a0 hw [] q w kk y (2 : Int32) (.ref z) .null rfl rfl T89.heap n0 Zn Oq89 V89) (by decide) (by decide) (by decide) (by decide) (fun v94 T94 L94 X94 hQ94 => ?_)
        obtain ⟨rfl, Nq94, e94⟩ := hQ94
        have N94 := Fr.app N93 Nq94
        show own_End p e below _ (T94.setTop (mkF m 287 _ [(.ref y)]))
        refine own_ifnonnullY X94 hx hby at_287 (pc' := 294) (by decide) (by decide) ?_
        refine own_iconst X94 hx hby at_294 (pc' := 295) rfl (n := (0 : Int32)) (by decide) ?_
        refine own_iload X94 hx hby at_295 (pc' := 297) rfl rfl ?_
        refine own_icN X94 hx hby at_297 (pc' := 300) rfl (show (0 : Int32) = (0 : Int32) by decide) ?_
        refine own_iconst X94 hx hby at_300 (pc' := 301) rfl (n := (1 : Int32)) (by decide) ?_
        refine own_goto X94 hx hby at_301 (pc' := 305) (by decide) (by decide) ?_
        refine own_istore X94 hx hby at_305 (pc' := 307) rfl (l' := #[.val (.int p0), .val (.long p1), .second, .val (.long p2), .second, .val (.long p3), .second, .val (.int n), .val (.int (1 : Int32)), .val (.int rf), .val (.ref q), .val (.ref ta), .val (.ref tb), .val (.ref tc), .val (.int (1 : Int32)), .val (.int (2 : Int32)), .val (.int (0 : Int32))]) rfl ?_
        refine own_iload X94 hx hby at_307 (pc' := 309) rfl rfl ?_
        refine own_zreturn X94 hx hlk hby hret (Or.inr rfl) at_309 (own_lv ?_ (by decide) (by decide))
        show Q0 Z p0 p1 p2 p3  h0 n0 (some (.int (1 : Int32))) T94.heap _
        rw [e94]
        exact ⟨rfl, N94⟩
    · show own_End p e below _ (T0.setTop (mkF m 216 #[.val (.int p0), .val (.long p1), .second, .val (.long p2), .second, .val (.long p3), .second, .val (.int n), .val (.int (1 : Int32)), .val (.int rf), .val (.ref q), .val (.ref ta), .val (.ref tb), .val (.ref tc), .val (.int (1 : Int32)), .val (.int (3 : Int32)), s16] [(.ref q)]))
      have ne_q_w : q ≠ w := Exa.neArv f_O_q.1 f_V_w (wd_1 hw)
      have ne_q_x : q ≠ x := Exa.ne f_O_q.1 f_O_x.1 (by decide)
      have ne_q_z : q ≠ z := Exa.ne f_O_q.1 f_O_z.1 (by decide)
      have ne_w_x : w ≠ x := Ne.symm (Exa.neArv f_O_x.1 f_V_w (wd_14 hw))
      have ne_w_z : w ≠ z := Ne.symm (Exa.neArv f_O_z.1 f_V_w (wd_14 hw))
      have ne_y_q : y ≠ q := Exa.ne f_O_y.1 f_O_q.1 (by decide)
      have ne_y_w : y ≠ w := Exa.neArv f_O_y.1 f_V_w (wd_14 hw)
      refine own_lk10 hw X0 hx hZ hby (by rw [hml]; rfl) hown at_216 (pc' := 219) rfl e1 f_O_q.1 (W := 0) (Nat.le_of_eq rfl) (rmP3a l Z a0 hw [] q w kk x dx sx y dy sy z dz sz h1 n0 Z1 f_O_q f_V_w ho f_O_x f_O_y f_O_z ge_q ge_w ge_x ge_z ne_x_y ne_x_z ne_y_z (own_rb0 hr88)) (by decide) (by decide) (by decide) (by decide) (fun v95 T95 L95 X95 hQ95 => ?_)
      obtain ⟨rfl, Nq95, K95, Oq95, V95, Ox95, Oz95⟩ := hQ95
      have N95 := Fr.app N0 Nq95
      have f_O_y := f_O_y.keep K95 (ninS ne_y_q (ninS ne_y_w (ninS (Ne.symm ne_x_y) (ninS ne_y_z nin0))))
      have Zn := Nat.le_trans Z1 K95.1
      show own_End p e below _ (T95.setTop (mkF m 219 _ [(.ref x)]))
      refine own_pop X95 hx hby at_219 (pc' := 220) rfl rfl ?_
      refine own_iload X95 hx hby at_220 (pc' := 222) rfl rfl ?_
      refine own_iconst X95 hx hby at_222 (pc' := 223) rfl (n := (1 : Int32)) (by decide) ?_
      refine own_icY X95 hx hby at_223 (pc' := 232) (by decide) (by decide) (show ¬ (1 : Int32) < (1 : Int32) by decide) ?_
      refine own_iload X95 hx hby at_232 (pc' := 234) rfl rfl ?_
      refine own_iconst X95 hx hby at_234 (pc' := 235) rfl (n := (2 : Int32)) (by decide) ?_
      refine own_icY X95 hx hby at_235 (pc' := 244) (by decide) (by decide) (show ¬ (2 : Int32) < (1 : Int32) by decide) ?_
      refine own_iconst X95 hx hby at_244 (pc' := 245) rfl (n := (0 : Int32)) (by decide) ?_
      refine own_iload X95 hx hby at_245 (pc' := 247) rfl rfl ?_
      refine own_iload X95 hx hby at_247 (pc' := 249) rfl rfl ?_
      refine own_isub X95 hx hby at_249 (pc' := 250) rfl ?_
      show own_End p e below _ (T95.setTop (mkF m 250 #[.val (.int p0), .val (.long p1), .second, .val (.long p2), .second, .val (.long p3), .second, .val (.int n), .val (.int (1 : Int32)), .val (.int rf), .val (.ref q), .val (.ref ta), .val (.ref tb), .val (.ref tc), .val (.int (1 : Int32)), .val (.int (3 : Int32)), s16] [(.int (2 : Int32)), (.int (0 : Int32))]))
      refine own_lk7 hw X95 hx hZ hby (by rw [hml]; rfl) hown at_250 (pc' := 253) rfl rfl (W := 0) (Nat.le_of_eq rfl) (rmMX l Z a0 hw [] (0 : Int32) (2 : Int32) T95.heap n0 Zn ) (by decide) (by decide) (by decide) (by decide) (fun v96 T96 L96 X96 hQ96 => ?_)
      obtain ⟨rfl, Nq96, e96⟩ := hQ96
      have N96 := Fr.app N95 Nq96
      show own_End p e below _ (T96.setTop (mkF m 253 _ [(.int (2 : Int32))]))
      refine own_istore X96 hx hby at_253 (pc' := 255) rfl (l' := #[.val (.int p0), .val (.long p1), .second, .val (.long p2), .second, .val (.long p3), .second, .val (.int n), .val (.int (1 : Int32)), .val (.int rf), .val (.ref q), .val (.ref ta), .val (.ref tb), .val (.ref tc), .val (.int (1 : Int32)), .val (.int (2 : Int32)), s16]) rfl ?_
      refine own_iload X96 hx hby at_255 (pc' := 257) rfl rfl ?_
      refine own_ifY X96 hx hby at_257 (pc' := 264) (by decide) (by decide) (show ¬ (2 : Int32) = (0 : Int32) by decide) ?_
      refine own_iconst X96 hx hby at_264 (pc' := 265) rfl (n := (0 : Int32)) (by decide) ?_
      rcases h16 with rfl | ⟨r16, rfl⟩
      · show own_End p e below _ (T96.setTop (mkF m 265 #[.val (.int p0), .val (.long p1), .second, .val (.long p2), .second, .val (.long p3), .second, .val (.int n), .val (.int (1 : Int32)), .val (.int rf), .val (.ref q), .val (.ref ta), .val (.ref tb), .val (.ref tc), .val (.int (1 : Int32)), .val (.int (2 : Int32)), .unset] [(.int (0 : Int32))]))
        refine own_istore X96 hx hby at_265 (pc' := 267) rfl (l' := #[.val (.int p0), .val (.long p1), .second, .val (.long p2), .second, .val (.long p3), .second, .val (.int n), .val (.int (1 : Int32)), .val (.int rf), .val (.ref q), .val (.ref ta), .val (.ref tb), .val (.ref tc), .val (.int (1 : Int32)), .val (.int (2 : Int32)), .val (.int (0 : Int32))]) rfl ?_
        refine own_iload X96 hx hby at_267 (pc' := 269) rfl rfl ?_
        refine own_ifN X96 hx hby at_269 (pc' := 272) rfl (show ¬ (1 : Int32) = (0 : Int32) by decide) ?_
        refine own_aload X96 hx hby at_272 (pc' := 274) rfl rfl rfl ?_
        refine own_lk8 hw X96 hx hZ hby (by rw [hml]; rfl) hown at_274 (pc' := 277) rfl e96 Oq95.1 (W := 0) (Nat.le_of_eq rfl) (rmE2 l Z a0 hw [] q w T95.heap n0 Zn Oq95) (by decide) (by decide) (by decide) (by decide) (fun v97 T97 L97 X97 hQ97 => ?_)
        obtain ⟨rfl, Nq97, e97⟩ := hQ97
        have N97 := Fr.app N96 Nq97
        show own_End p e below _ (T97.setTop (mkF m 277 _ [(.int (0 : Int32))]))
        refine own_iload X97 hx hby at_277 (pc' := 279) rfl rfl ?_
        refine own_icN X97 hx hby at_279 (pc' := 282) rfl (show (0 : Int32) = (0 : Int32) by decide) ?_
        refine own_aload X97 hx hby at_282 (pc' := 284) rfl rfl rfl ?_
        refine own_lk9 hw X97 hx hZ hby (by rw [hml]; rfl) hown at_284 (pc' := 287) rfl e97 Oq95.1 (W := 0) (Nat.le_of_eq rfl) (rmPK1 l Z a0 hw [] q w kk z (2 : Int32) (.ref y) .null rfl rfl T95.heap n0 Zn Oq95 V95) (by decide) (by decide) (by decide) (by decide) (fun v98 T98 L98 X98 hQ98 => ?_)
        obtain ⟨rfl, Nq98, e98⟩ := hQ98
        have N98 := Fr.app N97 Nq98
        show own_End p e below _ (T98.setTop (mkF m 287 _ [(.ref z)]))
        refine own_ifnonnullY X98 hx hby at_287 (pc' := 294) (by decide) (by decide) ?_
        refine own_iconst X98 hx hby at_294 (pc' := 295) rfl (n := (0 : Int32)) (by decide) ?_
        refine own_iload X98 hx hby at_295 (pc' := 297) rfl rfl ?_
        refine own_icN X98 hx hby at_297 (pc' := 300) rfl (show (0 : Int32) = (0 : Int32) by decide) ?_
        refine own_iconst X98 hx hby at_300 (pc' := 301) rfl (n := (1 : Int32)) (by decide) ?_
        refine own_goto X98 hx hby at_301 (pc' := 305) (by decide) (by decide) ?_
        refine own_istore X98 hx hby at_305 (pc' := 307) rfl (l' := #[.val (.int p0), .val (.long p1), .second, .val (.long p2), .second, .val (.long p3), .second, .val (.int n), .val (.int (1 : Int32)), .val (.int rf), .val (.ref q), .val (.ref ta), .val (.ref tb), .val (.ref tc), .val (.int (1 : Int32)), .val (.int (2 : Int32)), .val (.int (0 : Int32))]) rfl ?_
        refine own_iload X98 hx hby at_307 (pc' := 309) rfl rfl ?_
        refine own_zreturn X98 hx hlk hby hret (Or.inr rfl) at_309 (own_lv ?_ (by decide) (by decide))
        show Q0 Z p0 p1 p2 p3  h0 n0 (some (.int (1 : Int32))) T98.heap _
        rw [e98]
        exact ⟨rfl, N98⟩
      · show own_End p e below _ (T96.setTop (mkF m 265 #[.val (.int p0), .val (.long p1), .second, .val (.long p2), .second, .val (.long p3), .second, .val (.int n), .val (.int (1 : Int32)), .val (.int rf), .val (.ref q), .val (.ref ta), .val (.ref tb), .val (.ref tc), .val (.int (1 : Int32)), .val (.int (2 : Int32)), .val (.int r16)] [(.int (0 : Int32))]))
        refine own_istore X96 hx hby at_265 (pc' := 267) rfl (l' := #[.val (.int p0), .val (.long p1), .second, .val (.long p2), .second, .val (.long p3), .second, .val (.int n), .val (.int (1 : Int32)), .val (.int rf), .val (.ref q), .val (.ref ta), .val (.ref tb), .val (.ref tc), .val (.int (1 : Int32)), .val (.int (2 : Int32)), .val (.int (0 : Int32))]) rfl ?_
        refine own_iload X96 hx hby at_267 (pc' := 269) rfl rfl ?_
        refine own_ifN X96 hx hby at_269 (pc' := 272) rfl (show ¬ (1 : Int32) = (0 : Int32) by decide) ?_
        refine own_aload X96 hx hby at_272 (pc' := 274) rfl rfl rfl ?_
        refine own_lk8 hw X96 hx hZ hby (by rw [hml]; rfl) hown at_274 (pc' := 277) rfl e96 Oq95.1 (W := 0) (Nat.le_of_eq rfl) (rmE2 l Z a0 hw [] q w T95.heap n0 Zn Oq95) (by decide) (by decide) (by decide) (by decide) (fun v99 T99 L99 X99 hQ99 => ?_)
        obtain ⟨rfl, Nq99, e99⟩ := hQ99
        have N99 := Fr.app N96 Nq99
        show own_End p e below _ (T99.setTop (mkF m 277 _ [(.int (0 : Int32))]))
        refine own_iload X99 hx hby at_277 (pc' := 279) rfl rfl ?_
        refine own_icN X99 hx hby at_279 (pc' := 282) rfl (show (0 : Int32) = (0 : Int32) by decide) ?_
        refine own_aload X99 hx hby at_282 (pc' := 284) rfl rfl rfl ?_
        refine own_lk9 hw X99 hx hZ hby (by rw [hml]; rfl) hown at_284 (pc' := 287) rfl e99 Oq95.1 (W := 0) (Nat.le_of_eq rfl) (rmPK1 l Z a0 hw [] q w kk z (2 : Int32) (.ref y) .null rfl rfl T95.heap n0 Zn Oq95 V95) (by decide) (by decide) (by decide) (by decide) (fun v100 T100 L100 X100 hQ100 => ?_)
        obtain ⟨rfl, Nq100, e100⟩ := hQ100
        have N100 := Fr.app N99 Nq100
        show own_End p e below _ (T100.setTop (mkF m 287 _ [(.ref z)]))
        refine own_ifnonnullY X100 hx hby at_287 (pc' := 294) (by decide) (by decide) ?_
        refine own_iconst X100 hx hby at_294 (pc' := 295) rfl (n := (0 : Int32)) (by decide) ?_
        refine own_iload X100 hx hby at_295 (pc' := 297) rfl rfl ?_
        refine own_icN X100 hx hby at_297 (pc' := 300) rfl (show (0 : Int32) = (0 : Int32) by decide) ?_
        refine own_iconst X100 hx hby at_300 (pc' := 301) rfl (n := (1 : Int32)) (by decide) ?_
        refine own_goto X100 hx hby at_301 (pc' := 305) (by decide) (by decide) ?_
        refine own_istore X100 hx hby at_305 (pc' := 307) rfl (l' := #[.val (.int p0), .val (.long p1), .second, .val (.long p2), .second, .val (.long p3), .second, .val (.int n), .val (.int (1 : Int32)), .val (.int rf), .val (.ref q), .val (.ref ta), .val (.ref tb), .val (.ref tc), .val (.int (1 : Int32)), .val (.int (2 : Int32)), .val (.int (0 : Int32))]) rfl ?_
        refine own_iload X100 hx hby at_307 (pc' := 309) rfl rfl ?_
        refine own_zreturn X100 hx hlk hby hret (Or.inr rfl) at_309 (own_lv ?_ (by decide) (by decide))
        show Q0 Z p0 p1 p2 p3  h0 n0 (some (.int (1 : Int32))) T100.heap _
        rw [e100]
        exact ⟨rfl, N100⟩
  · show own_End p e below _ (T0.setTop (mkF m 211 #[.val (.int p0), .val (.long p1), .second, .val (.long p2), .second, .val (.long p3), .second, .val (.int n), .val (.int (2 : Int32)), .val (.int rf), .val (.ref q), .val (.ref ta), .val (.ref tb), .val (.ref tc), .val (.int (1 : Int32)), .val (.int (3 : Int32)), s16] [(.int (2 : Int32))]))
    refine own_ifN X0 hx hby at_211 (pc' := 214) rfl (show (0 : Int32) < (2 : Int32) by decide) ?_
    refine own_aload X0 hx hby at_214 (pc' := 216) rfl rfl rfl ?_
    rcases Decidable.em (own_rb dy sy dz sz = (1 : Int32)) with hr101 | hr101
    · show own_End p e below _ (T0.setTop (mkF m 216 #[.val (.int p0), .val (.long p1), .second, .val (.long p2), .second, .val (.long p3), .second, .val (.int n), .val (.int (2 : Int32)), .val (.int rf), .val (.ref q), .val (.ref ta), .val (.ref tb), .val (.ref tc), .val (.int (1 : Int32)), .val (.int (3 : Int32)), s16] [(.ref q)]))
      have ne_q_w : q ≠ w := Exa.neArv f_O_q.1 f_V_w (wd_1 hw)
      have ne_q_x : q ≠ x := Exa.ne f_O_q.1 f_O_x.1 (by decide)
      have ne_q_y : q ≠ y := Exa.ne f_O_q.1 f_O_y.1 (by decide)
      have ne_q_z : q ≠ z := Exa.ne f_O_q.1 f_O_z.1 (by decide)
      have ne_w_x : w ≠ x := Ne.symm (Exa.neArv f_O_x.1 f_V_w (wd_14 hw))
      have ne_w_y : w ≠ y := Ne.symm (Exa.neArv f_O_y.1 f_V_w (wd_14 hw))
      have ne_w_z : w ≠ z := Ne.symm (Exa.neArv f_O_z.1 f_V_w (wd_14 hw))
      refine own_lk10 hw X0 hx hZ hby (by rw [hml]; rfl) hown at_216 (pc' := 219) rfl e1 f_O_q.1 (W := 0) (Nat.le_of_eq rfl) (rmP3b l Z a0 hw [] q w kk x dx sx y dy sy z dz sz h1 n0 Z1 f_O_q f_V_w ho f_O_x f_O_y f_O_z ge_q ge_w ge_x ge_y ge_z ne_x_y ne_x_z ne_y_z hr101) (by decide) (by decide) (by decide) (by decide) (fun v102 T102 L102 X102 hQ102 => ?_)
      obtain ⟨rfl, Nq102, K102, Oq102, V102, Ox102, Oy102, Oz102⟩ := hQ102
      have N102 := Fr.app N0 Nq102
      have Zn := Nat.le_trans Z1 K102.1
      show own_End p e below _ (T102.setTop (mkF m 219 _ [(.ref x)]))
      refine own_pop X102 hx hby at_219 (pc' := 220) rfl rfl ?_
      refine own_iload X102 hx hby at_220 (pc' := 222) rfl rfl ?_
      refine own_iconst X102 hx hby at_222 (pc' := 223) rfl (n := (1 : Int32)) (by decide) ?_
      refine own_icN X102 hx hby at_223 (pc' := 226) rfl (show (1 : Int32) < (2 : Int32) by decide) ?_
      refine own_aload X102 hx hby at_226 (pc' := 228) rfl rfl rfl ?_
      refine own_lk10 hw X102 hx hZ hby (by rw [hml]; rfl) hown at_228 (pc' := 231) rfl rfl Oq102.1 (W := 0) (Nat.le_of_eq rfl) (rmP2 l Z a0 hw [] q w kk y dy sy z dz sz T102.heap n0 Zn Oq102 V102 ho Oy102 Oz102 ge_q ge_w ge_y ge_z ne_y_z) (by decide) (by decide) (by decide) (by decide) (fun v103 T103 L103 X103 hQ103 => ?_)
      obtain ⟨rfl, Nq103, K103, Oq103, V103, Ox103, Oy103⟩ := hQ103
      have N103 := Fr.app N102 Nq103
      have Ox102 := Ox102.keep K103 (ninS (Ne.symm ne_q_x) (ninS (Ne.symm ne_w_x) (ninS ne_x_y (ninS ne_x_z nin0))))
      have Zn := Nat.le_trans Zn K103.1
      show own_End p e below _ (T103.setTop (mkF m 231 _ [(.ref y)]))
      refine own_pop X103 hx hby at_231 (pc' := 232) rfl rfl ?_
      refine own_iload X103 hx hby at_232 (pc' := 234) rfl rfl ?_
      refine own_iconst X103 hx hby at_234 (pc' := 235) rfl (n := (2 : Int32)) (by decide) ?_
      refine own_icY X103 hx hby at_235 (pc' := 244) (by decide) (by decide) (show ¬ (2 : Int32) < (2 : Int32) by decide) ?_
      refine own_iconst X103 hx hby at_244 (pc' := 245) rfl (n := (0 : Int32)) (by decide) ?_
      refine own_iload X103 hx hby at_245 (pc' := 247) rfl rfl ?_
      refine own_iload X103 hx hby at_247 (pc' := 249) rfl rfl ?_
      refine own_isub X103 hx hby at_249 (pc' := 250) rfl ?_
      show own_End p e below _ (T103.setTop (mkF m 250 #[.val (.int p0), .val (.long p1), .second, .val (.long p2), .second, .val (.long p3), .second, .val (.int n), .val (.int (2 : Int32)), .val (.int rf), .val (.ref q), .val (.ref ta), .val (.ref tb), .val (.ref tc), .val (.int (1 : Int32)), .val (.int (3 : Int32)), s16] [(.int (1 : Int32)), (.int (0 : Int32))]))
      refine own_lk7 hw X103 hx hZ hby (by rw [hml]; rfl) hown at_250 (pc' := 253) rfl rfl (W := 0) (Nat.le_of_eq rfl) (rmMX l Z a0 hw [] (0 : Int32) (1 : Int32) T103.heap n0 Zn ) (by decide) (by decide) (by decide) (by decide) (fun v104 T104 L104 X104 hQ104 => ?_)
      obtain ⟨rfl, Nq104, e104⟩ := hQ104
      have N104 := Fr.app N103 Nq104
      show own_End p e below _ (T104.setTop (mkF m 253 _ [(.int (1 : Int32))]))
      refine own_istore X104 hx hby at_253 (pc' := 255) rfl (l' := #[.val (.int p0), .val (.long p1), .second, .val (.long p2), .second, .val (.long p3), .second, .val (.int n), .val (.int (2 : Int32)), .val (.int rf), .val (.ref q), .val (.ref ta), .val (.ref tb), .val (.ref tc), .val (.int (1 : Int32)), .val (.int (1 : Int32)), s16]) rfl ?_
      refine own_iload X104 hx hby at_255 (pc' := 257) rfl rfl ?_
      refine own_ifY X104 hx hby at_257 (pc' := 264) (by decide) (by decide) (show ¬ (1 : Int32) = (0 : Int32) by decide) ?_
      refine own_iconst X104 hx hby at_264 (pc' := 265) rfl (n := (0 : Int32)) (by decide) ?_
      rcases h16 with rfl | ⟨r16, rfl⟩
      · show own_End p e below _ (T104.setTop (mkF m 265 #[.val (.int p0), .val (.long p1), .second, .val (.long p2), .second, .val (.long p3), .second, .val (.int n), .val (.int (2 : Int32)), .val (.int rf), .val (.ref q), .val (.ref ta), .val (.ref tb), .val (.ref tc), .val (.int (1 : Int32)), .val (.int (1 : Int32)), .unset] [(.int (0 : Int32))]))
        refine own_istore X104 hx hby at_265 (pc' := 267) rfl (l' := #[.val (.int p0), .val (.long p1), .second, .val (.long p2), .second, .val (.long p3), .second, .val (.int n), .val (.int (2 : Int32)), .val (.int rf), .val (.ref q), .val (.ref ta), .val (.ref tb), .val (.ref tc), .val (.int (1 : Int32)), .val (.int (1 : Int32)), .val (.int (0 : Int32))]) rfl ?_
        refine own_iload X104 hx hby at_267 (pc' := 269) rfl rfl ?_
        refine own_ifN X104 hx hby at_269 (pc' := 272) rfl (show ¬ (1 : Int32) = (0 : Int32) by decide) ?_
        refine own_aload X104 hx hby at_272 (pc' := 274) rfl rfl rfl ?_
        refine own_lk8 hw X104 hx hZ hby (by rw [hml]; rfl) hown at_274 (pc' := 277) rfl e104 Oq103.1 (W := 0) (Nat.le_of_eq rfl) (rmE1 l Z a0 hw [] q w T103.heap n0 Zn Oq103) (by decide) (by decide) (by decide) (by decide) (fun v105 T105 L105 X105 hQ105 => ?_)
        obtain ⟨rfl, Nq105, e105⟩ := hQ105
        have N105 := Fr.app N104 Nq105
        show own_End p e below _ (T105.setTop (mkF m 277 _ [(.int (0 : Int32))]))
        refine own_iload X105 hx hby at_277 (pc' := 279) rfl rfl ?_
        refine own_icN X105 hx hby at_279 (pc' := 282) rfl (show (0 : Int32) = (0 : Int32) by decide) ?_
        refine own_aload X105 hx hby at_282 (pc' := 284) rfl rfl rfl ?_
        refine own_lk9 hw X105 hx hZ hby (by rw [hml]; rfl) hown at_284 (pc' := 287) rfl e105 Oq103.1 (W := 0) (Nat.le_of_eq rfl) (rmPK1 l Z a0 hw [] q w kk z (1 : Int32) .null .null rfl rfl T103.heap n0 Zn Oq103 V103) (by decide) (by decide) (by decide) (by decide) (fun v106 T106 L106 X106 hQ106 => ?_)
        obtain ⟨rfl, Nq106, e106⟩ := hQ106
        have N106 := Fr.app N105 Nq106
        show own_End p e below _ (T106.setTop (mkF m 287 _ [(.ref z)]))
        refine own_ifnonnullY X106 hx hby at_287 (pc' := 294) (by decide) (by decide) ?_
        refine own_iconst X106 hx hby at_294 (pc' := 295) rfl (n := (0 : Int32)) (by decide) ?_
        refine own_iload X106 hx hby at_295 (pc' := 297) rfl rfl ?_
        refine own_icN X106 hx hby at_297 (pc' := 300) rfl (show (0 : Int32) = (0 : Int32) by decide) ?_
        refine own_iconst X106 hx hby at_300 (pc' := 301) rfl (n := (1 : Int32)) (by decide) ?_
        refine own_goto X106 hx hby at_301 (pc' := 305) (by decide) (by decide) ?_
        refine own_istore X106 hx hby at_305 (pc' := 307) rfl (l' := #[.val (.int p0), .val (.long p1), .second, .val (.long p2), .second, .val (.long p3), .second, .val (.int n), .val (.int (2 : Int32)), .val (.int rf), .val (.ref q), .val (.ref ta), .val (.ref tb), .val (.ref tc), .val (.int (1 : Int32)), .val (.int (1 : Int32)), .val (.int (0 : Int32))]) rfl ?_
        refine own_iload X106 hx hby at_307 (pc' := 309) rfl rfl ?_
        refine own_zreturn X106 hx hlk hby hret (Or.inr rfl) at_309 (own_lv ?_ (by decide) (by decide))
        show Q0 Z p0 p1 p2 p3  h0 n0 (some (.int (1 : Int32))) T106.heap _
        rw [e106]
        exact ⟨rfl, N106⟩
      · show own_End p e below _ (T104.setTop (mkF m 265 #[.val (.int p0), .val (.long p1), .second, .val (.long p2), .second, .val (.long p3), .second, .val (.int n), .val (.int (2 : Int32)), .val (.int rf), .val (.ref q), .val (.ref ta), .val (.ref tb), .val (.ref tc), .val (.int (1 : Int32)), .val (.int (1 : Int32)), .val (.int r16)] [(.int (0 : Int32))]))
        refine own_istore X104 hx hby at_265 (pc' := 267) rfl (l' := #[.val (.int p0), .val (.long p1), .second, .val (.long p2), .second, .val (.long p3), .second, .val (.int n), .val (.int (2 : Int32)), .val (.int rf), .val (.ref q), .val (.ref ta), .val (.ref tb), .val (.ref tc), .val (.int (1 : Int32)), .val (.int (1 : Int32)), .val (.int (0 : Int32))]) rfl ?_
        refine own_iload X104 hx hby at_267 (pc' := 269) rfl rfl ?_
        refine own_ifN X104 hx hby at_269 (pc' := 272) rfl (show ¬ (1 : Int32) = (0 : Int32) by decide) ?_
        refine own_aload X104 hx hby at_272 (pc' := 274) rfl rfl rfl ?_
        refine own_lk8 hw X104 hx hZ hby (by rw [hml]; rfl) hown at_274 (pc' := 277) rfl e104 Oq103.1 (W := 0) (Nat.le_of_eq rfl) (rmE1 l Z a0 hw [] q w T103.heap n0 Zn Oq103) (by decide) (by decide) (by decide) (by decide) (fun v107 T107 L107 X107 hQ107 => ?_)
        obtain ⟨rfl, Nq107, e107⟩ := hQ107
        have N107 := Fr.app N104 Nq107
        show own_End p e below _ (T107.setTop (mkF m 277 _ [(.int (0 : Int32))]))
        refine own_iload X107 hx hby at_277 (pc' := 279) rfl rfl ?_
        refine own_icN X107 hx hby at_279 (pc' := 282) rfl (show (0 : Int32) = (0 : Int32) by decide) ?_
        refine own_aload X107 hx hby at_282 (pc' := 284) rfl rfl rfl ?_
        refine own_lk9 hw X107 hx hZ hby (by rw [hml]; rfl) hown at_284 (pc' := 287) rfl e107 Oq103.1 (W := 0) (Nat.le_of_eq rfl) (rmPK1 l Z a0 hw [] q w kk z (1 : Int32) .null .null rfl rfl T103.heap n0 Zn Oq103 V103) (by decide) (by decide) (by decide) (by decide) (fun v108 T108 L108 X108 hQ108 => ?_)
        obtain ⟨rfl, Nq108, e108⟩ := hQ108
        have N108 := Fr.app N107 Nq108
        show own_End p e below _ (T108.setTop (mkF m 287 _ [(.ref z)]))
        refine own_ifnonnullY X108 hx hby at_287 (pc' := 294) (by decide) (by decide) ?_
        refine own_iconst X108 hx hby at_294 (pc' := 295) rfl (n := (0 : Int32)) (by decide) ?_
        refine own_iload X108 hx hby at_295 (pc' := 297) rfl rfl ?_
        refine own_icN X108 hx hby at_297 (pc' := 300) rfl (show (0 : Int32) = (0 : Int32) by decide) ?_
        refine own_iconst X108 hx hby at_300 (pc' := 301) rfl (n := (1 : Int32)) (by decide) ?_
        refine own_goto X108 hx hby at_301 (pc' := 305) (by decide) (by decide) ?_
        refine own_istore X108 hx hby at_305 (pc' := 307) rfl (l' := #[.val (.int p0), .val (.long p1), .second, .val (.long p2), .second, .val (.long p3), .second, .val (.int n), .val (.int (2 : Int32)), .val (.int rf), .val (.ref q), .val (.ref ta), .val (.ref tb), .val (.ref tc), .val (.int (1 : Int32)), .val (.int (1 : Int32)), .val (.int (0 : Int32))]) rfl ?_
        refine own_iload X108 hx hby at_307 (pc' := 309) rfl rfl ?_
        refine own_zreturn X108 hx hlk hby hret (Or.inr rfl) at_309 (own_lv ?_ (by decide) (by decide))
        show Q0 Z p0 p1 p2 p3  h0 n0 (some (.int (1 : Int32))) T108.heap _
        rw [e108]
        exact ⟨rfl, N108⟩
    · show own_End p e below _ (T0.setTop (mkF m 216 #[.val (.int p0), .val (.long p1), .second, .val (.long p2), .second, .val (.long p3), .second, .val (.int n), .val (.int (2 : Int32)), .val (.int rf), .val (.ref q), .val (.ref ta), .val (.ref tb), .val (.ref tc), .val (.int (1 : Int32)), .val (.int (3 : Int32)), s16] [(.ref q)]))
      have ne_q_w : q ≠ w := Exa.neArv f_O_q.1 f_V_w (wd_1 hw)
      have ne_q_x : q ≠ x := Exa.ne f_O_q.1 f_O_x.1 (by decide)
      have ne_q_z : q ≠ z := Exa.ne f_O_q.1 f_O_z.1 (by decide)
      have ne_w_x : w ≠ x := Ne.symm (Exa.neArv f_O_x.1 f_V_w (wd_14 hw))
      have ne_w_z : w ≠ z := Ne.symm (Exa.neArv f_O_z.1 f_V_w (wd_14 hw))
      have ne_y_q : y ≠ q := Exa.ne f_O_y.1 f_O_q.1 (by decide)
      have ne_y_w : y ≠ w := Exa.neArv f_O_y.1 f_V_w (wd_14 hw)
      refine own_lk10 hw X0 hx hZ hby (by rw [hml]; rfl) hown at_216 (pc' := 219) rfl e1 f_O_q.1 (W := 0) (Nat.le_of_eq rfl) (rmP3a l Z a0 hw [] q w kk x dx sx y dy sy z dz sz h1 n0 Z1 f_O_q f_V_w ho f_O_x f_O_y f_O_z ge_q ge_w ge_x ge_z ne_x_y ne_x_z ne_y_z (own_rb0 hr101)) (by decide) (by decide) (by decide) (by decide) (fun v109 T109 L109 X109 hQ109 => ?_)
      obtain ⟨rfl, Nq109, K109, Oq109, V109, Ox109, Oz109⟩ := hQ109
      have N109 := Fr.app N0 Nq109
      have f_O_y := f_O_y.keep K109 (ninS ne_y_q (ninS ne_y_w (ninS (Ne.symm ne_x_y) (ninS ne_y_z nin0))))
      have Zn := Nat.le_trans Z1 K109.1
      show own_End p e below _ (T109.setTop (mkF m 219 _ [(.ref x)]))
      refine own_pop X109 hx hby at_219 (pc' := 220) rfl rfl ?_
      refine own_iload X109 hx hby at_220 (pc' := 222) rfl rfl ?_
      refine own_iconst X109 hx hby at_222 (pc' := 223) rfl (n := (1 : Int32)) (by decide) ?_
      refine own_icN X109 hx hby at_223 (pc' := 226) rfl (show (1 : Int32) < (2 : Int32) by decide) ?_
      refine own_aload X109 hx hby at_226 (pc' := 228) rfl rfl rfl ?_
      refine own_lk10 hw X109 hx hZ hby (by rw [hml]; rfl) hown at_228 (pc' := 231) rfl rfl Oq109.1 (W := 0) (Nat.le_of_eq rfl) (rmP2 l Z a0 hw [] q w kk z dz sz y dy sy T109.heap n0 Zn Oq109 V109 ho Oz109 f_O_y ge_q ge_w ge_z ge_y (Ne.symm ne_y_z)) (by decide) (by decide) (by decide) (by decide) (fun v110 T110 L110 X110 hQ110 => ?_)
      obtain ⟨rfl, Nq110, K110, Oq110, V110, Ox110, Oy110⟩ := hQ110
      have N110 := Fr.app N109 Nq110
      have Ox109 := Ox109.keep K110 (ninS (Ne.symm ne_q_x) (ninS (Ne.symm ne_w_x) (ninS ne_x_z (ninS ne_x_y nin0))))
      have Zn := Nat.le_trans Zn K110.1
      show own_End p e below _ (T110.setTop (mkF m 231 _ [(.ref z)]))
      refine own_pop X110 hx hby at_231 (pc' := 232) rfl rfl ?_
      refine own_iload X110 hx hby at_232 (pc' := 234) rfl rfl ?_
      refine own_iconst X110 hx hby at_234 (pc' := 235) rfl (n := (2 : Int32)) (by decide) ?_
      refine own_icY X110 hx hby at_235 (pc' := 244) (by decide) (by decide) (show ¬ (2 : Int32) < (2 : Int32) by decide) ?_
      refine own_iconst X110 hx hby at_244 (pc' := 245) rfl (n := (0 : Int32)) (by decide) ?_
      refine own_iload X110 hx hby at_245 (pc' := 247) rfl rfl ?_
      refine own_iload X110 hx hby at_247 (pc' := 249) rfl rfl ?_
      refine own_isub X110 hx hby at_249 (pc' := 250) rfl ?_
      show own_End p e below _ (T110.setTop (mkF m 250 #[.val (.int p0), .val (.long p1), .second, .val (.long p2), .second, .val (.long p3), .second, .val (.int n), .val (.int (2 : Int32)), .val (.int rf), .val (.ref q), .val (.ref ta), .val (.ref tb), .val (.ref tc), .val (.int (1 : Int32)), .val (.int (3 : Int32)), s16] [(.int (1 : Int32)), (.int (0 : Int32))]))
      refine own_lk7 hw X110 hx hZ hby (by rw [hml]; rfl) hown at_250 (pc' := 253) rfl rfl (W := 0) (Nat.le_of_eq rfl) (rmMX l Z a0 hw [] (0 : Int32) (1 : Int32) T110.heap n0 Zn ) (by decide) (by decide) (by decide) (by decide) (fun v111 T111 L111 X111 hQ111 => ?_)
      obtain ⟨rfl, Nq111, e111⟩ := hQ111
      have N111 := Fr.app N110 Nq111
      show own_End p e below _ (T111.setTop (mkF m 253 _ [(.int (1 : Int32))]))
      refine own_istore X111 hx hby at_253 (pc' := 255) rfl (l' := #[.val (.int p0), .val (.long p1), .second, .val (.long p2), .second, .val (.long p3), .second, .val (.int n), .val (.int (2 : Int32)), .val (.int rf), .val (.ref q), .val (.ref ta), .val (.ref tb), .val (.ref tc), .val (.int (1 : Int32)), .val (.int (1 : Int32)), s16]) rfl ?_
      refine own_iload X111 hx hby at_255 (pc' := 257) rfl rfl ?_
      refine own_ifY X111 hx hby at_257 (pc' := 264) (by decide) (by decide) (show ¬ (1 : Int32) = (0 : Int32) by decide) ?_
      refine own_iconst X111 hx hby at_264 (pc' := 265) rfl (n := (0 : Int32)) (by decide) ?_
      rcases h16 with rfl | ⟨r16, rfl⟩
      · show own_End p e below _ (T111.setTop (mkF m 265 #[.val (.int p0), .val (.long p1), .second, .val (.long p2), .second, .val (.long p3), .second, .val (.int n), .val (.int (2 : Int32)), .val (.int rf), .val (.ref q), .val (.ref ta), .val (.ref tb), .val (.ref tc), .val (.int (1 : Int32)), .val (.int (1 : Int32)), .unset] [(.int (0 : Int32))]))
        refine own_istore X111 hx hby at_265 (pc' := 267) rfl (l' := #[.val (.int p0), .val (.long p1), .second, .val (.long p2), .second, .val (.long p3), .second, .val (.int n), .val (.int (2 : Int32)), .val (.int rf), .val (.ref q), .val (.ref ta), .val (.ref tb), .val (.ref tc), .val (.int (1 : Int32)), .val (.int (1 : Int32)), .val (.int (0 : Int32))]) rfl ?_
        refine own_iload X111 hx hby at_267 (pc' := 269) rfl rfl ?_
        refine own_ifN X111 hx hby at_269 (pc' := 272) rfl (show ¬ (1 : Int32) = (0 : Int32) by decide) ?_
        refine own_aload X111 hx hby at_272 (pc' := 274) rfl rfl rfl ?_
        refine own_lk8 hw X111 hx hZ hby (by rw [hml]; rfl) hown at_274 (pc' := 277) rfl e111 Oq110.1 (W := 0) (Nat.le_of_eq rfl) (rmE1 l Z a0 hw [] q w T110.heap n0 Zn Oq110) (by decide) (by decide) (by decide) (by decide) (fun v112 T112 L112 X112 hQ112 => ?_)
        obtain ⟨rfl, Nq112, e112⟩ := hQ112
        have N112 := Fr.app N111 Nq112
        show own_End p e below _ (T112.setTop (mkF m 277 _ [(.int (0 : Int32))]))
        refine own_iload X112 hx hby at_277 (pc' := 279) rfl rfl ?_
        refine own_icN X112 hx hby at_279 (pc' := 282) rfl (show (0 : Int32) = (0 : Int32) by decide) ?_
        refine own_aload X112 hx hby at_282 (pc' := 284) rfl rfl rfl ?_
        refine own_lk9 hw X112 hx hZ hby (by rw [hml]; rfl) hown at_284 (pc' := 287) rfl e112 Oq110.1 (W := 0) (Nat.le_of_eq rfl) (rmPK1 l Z a0 hw [] q w kk y (1 : Int32) .null .null rfl rfl T110.heap n0 Zn Oq110 V110) (by decide) (by decide) (by decide) (by decide) (fun v113 T113 L113 X113 hQ113 => ?_)
        obtain ⟨rfl, Nq113, e113⟩ := hQ113
        have N113 := Fr.app N112 Nq113
        show own_End p e below _ (T113.setTop (mkF m 287 _ [(.ref y)]))
        refine own_ifnonnullY X113 hx hby at_287 (pc' := 294) (by decide) (by decide) ?_
        refine own_iconst X113 hx hby at_294 (pc' := 295) rfl (n := (0 : Int32)) (by decide) ?_
        refine own_iload X113 hx hby at_295 (pc' := 297) rfl rfl ?_
        refine own_icN X113 hx hby at_297 (pc' := 300) rfl (show (0 : Int32) = (0 : Int32) by decide) ?_
        refine own_iconst X113 hx hby at_300 (pc' := 301) rfl (n := (1 : Int32)) (by decide) ?_
        refine own_goto X113 hx hby at_301 (pc' := 305) (by decide) (by decide) ?_
        refine own_istore X113 hx hby at_305 (pc' := 307) rfl (l' := #[.val (.int p0), .val (.long p1), .second, .val (.long p2), .second, .val (.long p3), .second, .val (.int n), .val (.int (2 : Int32)), .val (.int rf), .val (.ref q), .val (.ref ta), .val (.ref tb), .val (.ref tc), .val (.int (1 : Int32)), .val (.int (1 : Int32)), .val (.int (0 : Int32))]) rfl ?_
        refine own_iload X113 hx hby at_307 (pc' := 309) rfl rfl ?_
        refine own_zreturn X113 hx hlk hby hret (Or.inr rfl) at_309 (own_lv ?_ (by decide) (by decide))
        show Q0 Z p0 p1 p2 p3  h0 n0 (some (.int (1 : Int32))) T113.heap _
        rw [e113]
        exact ⟨rfl, N113⟩
      · show own_End p e below _ (T111.setTop (mkF m 265 #[.val (.int p0), .val (.long p1), .second, .val (.long p2), .second, .val (.long p3), .second, .val (.int n), .val (.int (2 : Int32)), .val (.int rf), .val (.ref q), .val (.ref ta), .val (.ref tb), .val (.ref tc), .val (.int (1 : Int32)), .val (.int (1 : Int32)), .val (.int r16)] [(.int (0 : Int32))]))
        refine own_istore X111 hx hby at_265 (pc' := 267) rfl (l' := #[.val (.int p0), .val (.long p1), .second, .val (.long p2), .second, .val (.long p3), .second, .val (.int n), .val (.int (2 : Int32)), .val (.int rf), .val (.ref q), .val (.ref ta), .val (.ref tb), .val (.ref tc), .val (.int (1 : Int32)), .val (.int (1 : Int32)), .val (.int (0 : Int32))]) rfl ?_
        refine own_iload X111 hx hby at_267 (pc' := 269) rfl rfl ?_
        refine own_ifN X111 hx hby at_269 (pc' := 272) rfl (show ¬ (1 : Int32) = (0 : Int32) by decide) ?_
        refine own_aload X111 hx hby at_272 (pc' := 274) rfl rfl rfl ?_
        refine own_lk8 hw X111 hx hZ hby (by rw [hml]; rfl) hown at_274 (pc' := 277) rfl e111 Oq110.1 (W := 0) (Nat.le_of_eq rfl) (rmE1 l Z a0 hw [] q w T110.heap n0 Zn Oq110) (by decide) (by decide) (by decide) (by decide) (fun v114 T114 L114 X114 hQ114 => ?_)
        obtain ⟨rfl, Nq114, e114⟩ := hQ114
        have N114 := Fr.app N111 Nq114
        show own_End p e below _ (T114.setTop (mkF m 277 _ [(.int (0 : Int32))]))
        refine own_iload X114 hx hby at_277 (pc' := 279) rfl rfl ?_
        refine own_icN X114 hx hby at_279 (pc' := 282) rfl (show (0 : Int32) = (0 : Int32) by decide) ?_
        refine own_aload X114 hx hby at_282 (pc' := 284) rfl rfl rfl ?_
        refine own_lk9 hw X114 hx hZ hby (by rw [hml]; rfl) hown at_284 (pc' := 287) rfl e114 Oq110.1 (W := 0) (Nat.le_of_eq rfl) (rmPK1 l Z a0 hw [] q w kk y (1 : Int32) .null .null rfl rfl T110.heap n0 Zn Oq110 V110) (by decide) (by decide) (by decide) (by decide) (fun v115 T115 L115 X115 hQ115 => ?_)
        obtain ⟨rfl, Nq115, e115⟩ := hQ115
        have N115 := Fr.app N114 Nq115
        show own_End p e below _ (T115.setTop (mkF m 287 _ [(.ref y)]))
        refine own_ifnonnullY X115 hx hby at_287 (pc' := 294) (by decide) (by decide) ?_
        refine own_iconst X115 hx hby at_294 (pc' := 295) rfl (n := (0 : Int32)) (by decide) ?_
        refine own_iload X115 hx hby at_295 (pc' := 297) rfl rfl ?_
        refine own_icN X115 hx hby at_297 (pc' := 300) rfl (show (0 : Int32) = (0 : Int32) by decide) ?_
        refine own_iconst X115 hx hby at_300 (pc' := 301) rfl (n := (1 : Int32)) (by decide) ?_
        refine own_goto X115 hx hby at_301 (pc' := 305) (by decide) (by decide) ?_
        refine own_istore X115 hx hby at_305 (pc' := 307) rfl (l' := #[.val (.int p0), .val (.long p1), .second, .val (.long p2), .second, .val (.long p3), .second, .val (.int n), .val (.int (2 : Int32)), .val (.int rf), .val (.ref q), .val (.ref ta), .val (.ref tb), .val (.ref tc), .val (.int (1 : Int32)), .val (.int (1 : Int32)), .val (.int (0 : Int32))]) rfl ?_
        refine own_iload X115 hx hby at_307 (pc' := 309) rfl rfl ?_
        refine own_zreturn X115 hx hlk hby hret (Or.inr rfl) at_309 (own_lv ?_ (by decide) (by decide))
        show Q0 Z p0 p1 p2 p3  h0 n0 (some (.int (1 : Int32))) T115.heap _
        rw [e115]
        exact ⟨rfl, N115⟩
  · show own_End p e below _ (T0.setTop (mkF m 211 #[.val (.int p0), .val (.long p1), .second, .val (.long p2), .second, .val (.long p3), .second, .val (.int n), .val (.int (3 : Int32)), .val (.int rf), .val (.ref q), .val (.ref ta), .val (.ref tb), .val (.ref tc), .val (.int (1 : Int32)), .val (.int (3 : Int32)), s16] [(.int (3 : Int32))]))
    refine own_ifN X0 hx hby at_211 (pc' := 214) rfl (show (0 : Int32) < (3 : Int32) by decide) ?_
    refine own_aload X0 hx hby at_214 (pc' := 216) rfl rfl rfl ?_
    rcases Decidable.em (own_rb dy sy dz sz = (1 : Int32)) with hr116 | hr116
    · show own_End p e below _ (T0.setTop (mkF m 216 #[.val (.int p0), .val (.long p1), .second, .val (.long p2), .second, .val (.long p3), .second, .val (.int n), .val (.int (3 : Int32)), .val (.int rf), .val (.ref q), .val (.ref ta), .val (.ref tb), .val (.ref tc), .val (.int (1 : Int32)), .val (.int (3 : Int32)), s16] [(.ref q)]))
      have ne_q_w : q ≠ w := Exa.neArv f_O_q.1 f_V_w (wd_1 hw)
      have ne_q_x : q ≠ x := Exa.ne f_O_q.1 f_O_x.1 (by decide)
      have ne_q_y : q ≠ y := Exa.ne f_O_q.1 f_O_y.1 (by decide)
      have ne_q_z : q ≠ z := Exa.ne f_O_q.1 f_O_z.1 (by decide)
      have ne_w_x : w ≠ x := Ne.symm (Exa.neArv f_O_x.1 f_V_w (wd_14 hw))
      have ne_w_y : w ≠ y := Ne.symm (Exa.neArv f_O_y.1 f_V_w (wd_14 hw))
      have ne_w_z : w ≠ z := Ne.symm (Exa.neArv f_O_z.1 f_V_w (wd_14 hw))
      refine own_lk10 hw X0 hx hZ hby (by rw [hml]; rfl) hown at_216 (pc' := 219) rfl e1 f_O_q.1 (W := 0) (Nat.le_of_eq rfl) (rmP3b l Z a0 hw [] q w kk x dx sx y dy sy z dz sz h1 n0 Z1 f_O_q f_V_w ho f_O_x f_O_y f_O_z ge_q ge_w ge_x ge_y ge_z ne_x_y ne_x_z ne_y_z hr116) (by decide) (by decide) (by decide) (by decide) (fun v117 T117 L117 X117 hQ117 => ?_)
      obtain ⟨rfl, Nq117, K117, Oq117, V117, Ox117, Oy117, Oz117⟩ := hQ117
      have N117 := Fr.app N0 Nq117
      have Zn := Nat.le_trans Z1 K117.1
      show own_End p e below _ (T117.setTop (mkF m 219 _ [(.ref x)]))
      refine own_pop X117 hx hby at_219 (pc' := 220) rfl rfl ?_
      refine own_iload X117 hx hby at_220 (pc' := 222) rfl rfl ?_
      refine own_iconst X117 hx hby at_222 (pc' := 223) rfl (n := (1 : Int32)) (by decide) ?_
      refine own_icN X117 hx hby at_223 (pc' := 226) rfl (show (1 : Int32) < (3 : Int32) by decide) ?_
      refine own_aload X117 hx hby at_226 (pc' := 228) rfl rfl rfl ?_
      refine own_lk10 hw X117 hx hZ hby (by rw [hml]; rfl) hown at_228 (pc' := 231) rfl rfl Oq117.1 (W := 0) (Nat.le_of_eq rfl) (rmP2 l Z a0 hw [] q w kk y dy sy z dz sz T117.heap n0 Zn Oq117 V117 ho Oy117 Oz117 ge_q ge_w ge_y ge_z ne_y_z) (by decide) (by decide) (by decide) (by decide) (fun v118 T118 L118 X118 hQ118 => ?_)
      obtain ⟨rfl, Nq118, K118, Oq118, V118, Ox118, Oy118⟩ := hQ118
      have N118 := Fr.app N117 Nq118
      have Ox117 := Ox117.keep K118 (ninS (Ne.symm ne_q_x) (ninS (Ne.symm ne_w_x) (ninS ne_x_y (ninS ne_x_z nin0))))
      have Zn := Nat.le_trans Zn K118.1
      show own_End p e below _ (T118.setTop (mkF m 231 _ [(.ref y)]))
      refine own_pop X118 hx hby at_231 (pc' := 232) rfl rfl ?_
      refine own_iload X118 hx hby at_232 (pc' := 234) rfl rfl ?_
      refine own_iconst X118 hx hby at_234 (pc' := 235) rfl (n := (2 : Int32)) (by decide) ?_
      refine own_icN X118 hx hby at_235 (pc' := 238) rfl (show (2 : Int32) < (3 : Int32) by decide) ?_
      refine own_aload X118 hx hby at_238 (pc' := 240) rfl rfl rfl ?_
      refine own_lk10 hw X118 hx hZ hby (by rw [hml]; rfl) hown at_240 (pc' := 243) rfl rfl Oq118.1 (W := 0) (Nat.le_of_eq rfl) (rmP1 l Z a0 hw [] q w kk z dz sz T118.heap n0 Zn Oq118 V118 ho Oy118 ge_q ge_w ge_z) (by decide) (by decide) (by decide) (by decide) (fun v119 T119 L119 X119 hQ119 => ?_)
      obtain ⟨rfl, Nq119, K119, Oq119, V119, Ox119⟩ := hQ119
      have N119 := Fr.app N118 Nq119
      have Ox117 := Ox117.keep K119 (ninS (Ne.symm ne_q_x) (ninS (Ne.symm ne_w_x) (ninS ne_x_z nin0)))
      have Ox118 := Ox118.keep K119 (ninS (Ne.symm ne_q_y) (ninS (Ne.symm ne_w_y) (ninS ne_y_z nin0)))
      have Zn := Nat.le_trans Zn K119.1
      show own_End p e below _ (T119.setTop (mkF m 243 _ [(.ref z)]))
      refine own_pop X119 hx hby at_243 (pc' := 244) rfl rfl ?_
      refine own_iconst X119 hx hby at_244 (pc' := 245) rfl (n := (0 : Int32)) (by decide) ?_
      refine own_iload X119 hx hby at_245 (pc' := 247) rfl rfl ?_
      refine own_iload X119 hx hby at_247 (pc' := 249) rfl rfl ?_
      refine own_isub X119 hx hby at_249 (pc' := 250) rfl ?_
      show own_End p e below _ (T119.setTop (mkF m 250 #[.val (.int p0), .val (.long p1), .second, .val (.long p2), .second, .val (.long p3), .second, .val (.int n), .val (.int (3 : Int32)), .val (.int rf), .val (.ref q), .val (.ref ta), .val (.ref tb), .val (.ref tc), .val (.int (1 : Int32)), .val (.int (3 : Int32)), s16] [(.int (0 : Int32)), (.int (0 : Int32))]))
      refine own_lk7 hw X119 hx hZ hby (by rw [hml]; rfl) hown at_250 (pc' := 253) rfl rfl (W := 0) (Nat.le_of_eq rfl) (rmMX l Z a0 hw [] (0 : Int32) (0 : Int32) T119.heap n0 Zn ) (by decide) (by decide) (by decide) (by decide) (fun v120 T120 L120 X120 hQ120 => ?_)
      obtain ⟨rfl, Nq120, e120⟩ := hQ120
      have N120 := Fr.app N119 Nq120
      show own_End p e below _ (T120.setTop (mkF m 253 _ [(.int (0 : Int32))]))
      refine own_istore X120 hx hby at_253 (pc' := 255) rfl (l' := #[.val (.int p0), .val (.long p1), .second, .val (.long p2), .second, .val (.long p3), .second, .val (.int n), .val (.int (3 : Int32)), .val (.int rf), .val (.ref q), .val (.ref ta), .val (.ref tb), .val (.ref tc), .val (.int (1 : Int32)), .val (.int (0 : Int32)), s16]) rfl ?_
      refine own_iload X120 hx hby at_255 (pc' := 257) rfl rfl ?_
      refine own_ifN X120 hx hby at_257 (pc' := 260) rfl (show (0 : Int32) = (0 : Int32) by decide) ?_
      refine own_iconst X120 hx hby at_260 (pc' := 261) rfl (n := (1 : Int32)) (by decide) ?_
      refine own_goto X120 hx hby at_261 (pc' := 265) (by decide) (by decide) ?_
      rcases h16 with rfl | ⟨r16, rfl⟩
      · show own_End p e below _ (T120.setTop (mkF m 265 #[.val (.int p0), .val (.long p1), .second, .val (.long p2), .second, .val (.long p3), .second, .val (.int n), .val (.int (3 : Int32)), .val (.int rf), .val (.ref q), .val (.ref ta), .val (.ref tb), .val (.ref tc), .val (.int (1 : Int32)), .val (.int (0 : Int32)), .unset] [(.int (1 : Int32))]))
        refine own_istore X120 hx hby at_265 (pc' := 267) rfl (l' := #[.val (.int p0), .val (.long p1), .second, .val (.long p2), .second, .val (.long p3), .second, .val (.int n), .val (.int (3 : Int32)), .val (.int rf), .val (.ref q), .val (.ref ta), .val (.ref tb), .val (.ref tc), .val (.int (1 : Int32)), .val (.int (0 : Int32)), .val (.int (1 : Int32))]) rfl ?_
        refine own_iload X120 hx hby at_267 (pc' := 269) rfl rfl ?_
        refine own_ifN X120 hx hby at_269 (pc' := 272) rfl (show ¬ (1 : Int32) = (0 : Int32) by decide) ?_
        refine own_aload X120 hx hby at_272 (pc' := 274) rfl rfl rfl ?_
        refine own_lk8 hw X120 hx hZ hby (by rw [hml]; rfl) hown at_274 (pc' := 277) rfl e120 Oq119.1 (W := 0) (Nat.le_of_eq rfl) (rmE0 l Z a0 hw [] q w T119.heap n0 Zn Oq119) (by decide) (by decide) (by decide) (by decide) (fun v121 T121 L121 X121 hQ121 => ?_)
        obtain ⟨rfl, Nq121, e121⟩ := hQ121
        have N121 := Fr.app N120 Nq121
        show own_End p e below _ (T121.setTop (mkF m 277 _ [(.int (1 : Int32))]))
        refine own_iload X121 hx hby at_277 (pc' := 279) rfl rfl ?_
        refine own_icN X121 hx hby at_279 (pc' := 282) rfl (show (1 : Int32) = (1 : Int32) by decide) ?_
        refine own_aload X121 hx hby at_282 (pc' := 284) rfl rfl rfl ?_
        refine own_lk9 hw X121 hx hZ hby (by rw [hml]; rfl) hown at_284 (pc' := 287) rfl e121 Oq119.1 (W := 0) (Nat.le_of_eq rfl) (rmPK0 l Z a0 hw [] q w kk (0 : Int32) .null .null rfl rfl T119.heap n0 Zn Oq119 V119) (by decide) (by decide) (by decide) (by decide) (fun v122 T122 L122 X122 hQ122 => ?_)
        obtain ⟨rfl, Nq122, e122⟩ := hQ122
        have N122 := Fr.app N121 Nq122
        show own_End p e below _ (T122.setTop (mkF m 287 _ [.null]))
        refine own_ifnonnullN X122 hx hby at_287 (pc' := 290) rfl ?_
        refine own_iconst X122 hx hby at_290 (pc' := 291) rfl (n := (1 : Int32)) (by decide) ?_
        refine own_goto X122 hx hby at_291 (pc' := 295) (by decide) (by decide) ?_
        refine own_iload X122 hx hby at_295 (pc' := 297) rfl rfl ?_
        refine own_icN X122 hx hby at_297 (pc' := 300) rfl (show (1 : Int32) = (1 : Int32) by decide) ?_
        refine own_iconst X122 hx hby at_300 (pc' := 301) rfl (n := (1 : Int32)) (by decide) ?_
        refine own_goto X122 hx hby at_301 (pc' := 305) (by decide) (by decide) ?_
        refine own_istore X122 hx hby at_305 (pc' := 307) rfl (l' := #[.val (.int p0), .val (.long p1), .second, .val (.long p2), .second, .val (.long p3), .second, .val (.int n), .val (.int (3 : Int32)), .val (.int rf), .val (.ref q), .val (.ref ta), .val (.ref tb), .val (.ref tc), .val (.int (1 : Int32)), .val (.int (0 : Int32)), .val (.int (1 : Int32))]) rfl ?_
        refine own_iload X122 hx hby at_307 (pc' := 309) rfl rfl ?_
        refine own_zreturn X122 hx hlk hby hret (Or.inr rfl) at_309 (own_lv ?_ (by decide) (by decide))
        show Q0 Z p0 p1 p2 p3  h0 n0 (some (.int (1 : Int32))) T122.heap _
        rw [e122]
        exact ⟨rfl, N122⟩
      · show own_End p e below _ (T120.setTop (mkF m 265 #[.val (.int p0), .val (.long p1), .second, .val (.long p2), .second, .val (.long p3), .second, .val (.int n), .val (.int (3 : Int32)), .val (.int rf), .val (.ref q), .val (.ref ta), .val (.ref tb), .val (.ref tc), .val (.int (1 : Int32)), .val (.int (0 : Int32)), .val (.int r16)] [(.int (1 : Int32))]))
        refine own_istore X120 hx hby at_265 (pc' := 267) rfl (l' := #[.val (.int p0), .val (.long p1), .second, .val (.long p2), .second, .val (.long p3), .second, .val (.int n), .val (.int (3 : Int32)), .val (.int rf), .val (.ref q), .val (.ref ta), .val (.ref tb), .val (.ref tc), .val (.int (1 : Int32)), .val (.int (0 : Int32)), .val (.int (1 : Int32))]) rfl ?_
        refine own_iload X120 hx hby at_267 (pc' := 269) rfl rfl ?_
        refine own_ifN X120 hx hby at_269 (pc' := 272) rfl (show ¬ (1 : Int32) = (0 : Int32) by decide) ?_
        refine own_aload X120 hx hby at_272 (pc' := 274) rfl rfl rfl ?_
        refine own_lk8 hw X120 hx hZ hby (by rw [hml]; rfl) hown at_274 (pc' := 277) rfl e120 Oq119.1 (W := 0) (Nat.le_of_eq rfl) (rmE0 l Z a0 hw [] q w T119.heap n0 Zn Oq119) (by decide) (by decide) (by decide) (by decide) (fun v123 T123 L123 X123 hQ123 => ?_)
        obtain ⟨rfl, Nq123, e123⟩ := hQ123
        have N123 := Fr.app N120 Nq123
        show own_End p e below _ (T123.setTop (mkF m 277 _ [(.int (1 : Int32))]))
        refine own_iload X123 hx hby at_277 (pc' := 279) rfl rfl ?_
        refine own_icN X123 hx hby at_279 (pc' := 282) rfl (show (1 : Int32) = (1 : Int32) by decide) ?_
        refine own_aload X123 hx hby at_282 (pc' := 284) rfl rfl rfl ?_
        refine own_lk9 hw X123 hx hZ hby (by rw [hml]; rfl) hown at_284 (pc' := 287) rfl e123 Oq119.1 (W := 0) (Nat.le_of_eq rfl) (rmPK0 l Z a0 hw [] q w kk (0 : Int32) .null .null rfl rfl T119.heap n0 Zn Oq119 V119) (by decide) (by decide) (by decide) (by decide) (fun v124 T124 L124 X124 hQ124 => ?_)
        obtain ⟨rfl, Nq124, e124⟩ := hQ124
        have N124 := Fr.app N123 Nq124
        show own_End p e below _ (T124.setTop (mkF m 287 _ [.null]))
        refine own_ifnonnullN X124 hx hby at_287 (pc' := 290) rfl ?_
        refine own_iconst X124 hx hby at_290 (pc' := 291) rfl (n := (1 : Int32)) (by decide) ?_
        refine own_goto X124 hx hby at_291 (pc' := 295) (by decide) (by decide) ?_
        refine own_iload X124 hx hby at_295 (pc' := 297) rfl rfl ?_
        refine own_icN X124 hx hby at_297 (pc' := 300) rfl (show (1 : Int32) = (1 : Int32) by decide) ?_
        refine own_iconst X124 hx hby at_300 (pc' := 301) rfl (n := (1 : Int32)) (by decide) ?_
        refine own_goto X124 hx hby at_301 (pc' := 305) (by decide) (by decide) ?_
        refine own_istore X124 hx hby at_305 (pc' := 307) rfl (l' := #[.val (.int p0), .val (.long p1), .second, .val (.long p2), .second, .val (.long p3), .second, .val (.int n), .val (.int (3 : Int32)), .val (.int rf), .val (.ref q), .val (.ref ta), .val (.ref tb), .val (.ref tc), .val (.int (1 : Int32)), .val (.int (0 : Int32)), .val (.int (1 : Int32))]) rfl ?_
        refine own_iload X124 hx hby at_307 (pc' := 309) rfl rfl ?_
        refine own_zreturn X124 hx hlk hby hret (Or.inr rfl) at_309 (own_lv ?_ (by decide) (by decide))
        show Q0 Z p0 p1 p2 p3  h0 n0 (some (.int (1 : Int32))) T124.heap _
        rw [e124]
        exact ⟨rfl, N124⟩
    · show own_End p e below _ (T0.setTop (mkF m 216 #[.val (.int p0), .val (.long p1), .second, .val (.long p2), .second, .val (.long p3), .second, .val (.int n), .val (.int (3 : Int32)), .val (.int rf), .val (.ref q), .val (.ref ta), .val (.ref tb), .val (.ref tc), .val (.int (1 : Int32)), .val (.int (3 : Int32)), s16] [(.ref q)]))
      have ne_q_w : q ≠ w := Exa.neArv f_O_q.1 f_V_w (wd_1 hw)
      have ne_q_x : q ≠ x := Exa.ne f_O_q.1 f_O_x.1 (by decide)
      have ne_q_z : q ≠ z := Exa.ne f_O_q.1 f_O_z.1 (by decide)
      have ne_w_x : w ≠ x := Ne.symm (Exa.neArv f_O_x.1 f_V_w (wd_14 hw))
      have ne_w_z : w ≠ z := Ne.symm (Exa.neArv f_O_z.1 f_V_w (wd_14 hw))
      have ne_y_q : y ≠ q := Exa.ne f_O_y.1 f_O_q.1 (by decide)
      have ne_y_w : y ≠ w := Exa.neArv f_O_y.1 f_V_w (wd_14 hw)
      refine own_lk10 hw X0 hx hZ hby (by rw [hml]; rfl) hown at_216 (pc' := 219) rfl e1 f_O_q.1 (W := 0) (Nat.le_of_eq rfl) (rmP3a l Z a0 hw [] q w kk x dx sx y dy sy z dz sz h1 n0 Z1 f_O_q f_V_w ho f_O_x f_O_y f_O_z ge_q ge_w ge_x ge_z ne_x_y ne_x_z ne_y_z (own_rb0 hr116)) (by decide) (by decide) (by decide) (by decide) (fun v125 T125 L125 X125 hQ125 => ?_)
      obtain ⟨rfl, Nq125, K125, Oq125, V125, Ox125, Oz125⟩ := hQ125
      have N125 := Fr.app N0 Nq125
      have f_O_y := f_O_y.keep K125 (ninS ne_y_q (ninS ne_y_w (ninS (Ne.symm ne_x_y) (ninS ne_y_z nin0))))
      have Zn := Nat.le_trans Z1 K125.1
      show own_End p e below _ (T125.setTop (mkF m 219 _ [(.ref x)]))
      refine own_pop X125 hx hby at_219 (pc' := 220) rfl rfl ?_
      refine own_iload X125 hx hby at_220 (pc' := 222) rfl rfl ?_
      refine own_iconst X125 hx hby at_222 (pc' := 223) rfl (n := (1 : Int32)) (by decide) ?_
      refine own_icN X125 hx hby at_223 (pc' := 226) rfl (show (1 : Int32) < (3 : Int32) by decide) ?_
      refine own_aload X125 hx hby at_226 (pc' := 228) rfl rfl rfl ?_
      refine own_lk10 hw X125 hx hZ hby (by rw [hml]; rfl) hown at_228 (pc' := 231) rfl rfl Oq125.1 (W := 0) (Nat.le_of_eq rfl) (rmP2 l Z a0 hw [] q w kk z dz sz y dy sy T125.heap n0 Zn Oq125 V125 ho Oz125 f_O_y ge_q ge_w ge_z ge_y (Ne.symm ne_y_z)) (by decide) (by decide) (by decide) (by decide) (fun v126 T126 L126 X126 hQ126 => ?_)
      obtain ⟨rfl, Nq126, K126, Oq126, V126, Ox126, Oy126⟩ := hQ126
      have N126 := Fr.app N125 Nq126
      have Ox125 := Ox125.keep K126 (ninS (Ne.symm ne_q_x) (ninS (Ne.symm ne_w_x) (ninS ne_x_z (ninS ne_x_y nin0))))
      have Zn := Nat.le_trans Zn K126.1
      show own_End p e below _ (T126.setTop (mkF m 231 _ [(.ref z)]))
      refine own_pop X126 hx hby at_231 (pc' := 232) rfl rfl ?_
      refine own_iload X126 hx hby at_232 (pc' := 234) rfl rfl ?_
      refine own_iconst X126 hx hby at_234 (pc' := 235) rfl (n := (2 : Int32)) (by decide) ?_
      refine own_icN X126 hx hby at_235 (pc' := 238) rfl (show (2 : Int32) < (3 : Int32) by decide) ?_
      refine own_aload X126 hx hby at_238 (pc' := 240) rfl rfl rfl ?_
      refine own_lk10 hw X126 hx hZ hby (by rw [hml]; rfl) hown at_240 (pc' := 243) rfl rfl Oq126.1 (W := 0) (Nat.le_of_eq rfl) (rmP1 l Z a0 hw [] q w kk y dy sy T126.heap n0 Zn Oq126 V126 ho Oy126 ge_q ge_w ge_y) (by decide) (by decide) (by decide) (by decide) (fun v127 T127 L127 X127 hQ127 => ?_)
      obtain ⟨rfl, Nq127, K127, Oq127, V127, Ox127⟩ := hQ127
      have N127 := Fr.app N126 Nq127
      have Ox125 := Ox125.keep K127 (ninS (Ne.symm ne_q_x) (ninS (Ne.symm ne_w_x) (ninS ne_x_y nin0)))
      have Ox126 := Ox126.keep K127 (ninS (Ne.symm ne_q_z) (ninS (Ne.symm ne_w_z) (ninS (Ne.symm ne_y_z) nin0)))
      have Zn := Nat.le_trans Zn K127.1
      show own_End p e below _ (T127.setTop (mkF m 243 _ [(.ref y)]))
      refine own_pop X127 hx hby at_243 (pc' := 244) rfl rfl ?_
      refine own_iconst X127 hx hby at_244 (pc' := 245) rfl (n := (0 : Int32)) (by decide) ?_
      refine own_iload X127 hx hby at_245 (pc' := 247) rfl rfl ?_
      refine own_iload X127 hx hby at_247 (pc' := 249) rfl rfl ?_
      refine own_isub X127 hx hby at_249 (pc' := 250) rfl ?_
      show own_End p e below _ (T127.setTop (mkF m 250 #[.val (.int p0), .val (.long p1), .second, .val (.long p2), .second, .val (.long p3), .second, .val (.int n), .val (.int (3 : Int32)), .val (.int rf), .val (.ref q), .val (.ref ta), .val (.ref tb), .val (.ref tc), .val (.int (1 : Int32)), .val (.int (3 : Int32)), s16] [(.int (0 : Int32)), (.int (0 : Int32))]))
      refine own_lk7 hw X127 hx hZ hby (by rw [hml]; rfl) hown at_250 (pc' := 253) rfl rfl (W := 0) (Nat.le_of_eq rfl) (rmMX l Z a0 hw [] (0 : Int32) (0 : Int32) T127.heap n0 Zn ) (by decide) (by decide) (by decide) (by decide) (fun v128 T128 L128 X128 hQ128 => ?_)
      obtain ⟨rfl, Nq128, e128⟩ := hQ128
      have N128 := Fr.app N127 Nq128
      show own_End p e below _ (T128.setTop (mkF m 253 _ [(.int (0 : Int32))]))
      refine own_istore X128 hx hby at_253 (pc' := 255) rfl (l' := #[.val (.int p0), .val (.long p1), .second, .val (.long p2), .second, .val (.long p3), .second, .val (.int n), .val (.int (3 : Int32)), .val (.int rf), .val (.ref q), .val (.ref ta), .val (.ref tb), .val (.ref tc), .val (.int (1 : Int32)), .val (.int (0 : Int32)), s16]) rfl ?_
      refine own_iload X128 hx hby at_255 (pc' := 257) rfl rfl ?_
      refine own_ifN X128 hx hby at_257 (pc' := 260) rfl (show (0 : Int32) = (0 : Int32) by decide) ?_
      refine own_iconst X128 hx hby at_260 (pc' := 261) rfl (n := (1 : Int32)) (by decide) ?_
      refine own_goto X128 hx hby at_261 (pc' := 265) (by decide) (by decide) ?_
      rcases h16 with rfl | ⟨r16, rfl⟩
      · show own_End p e below _ (T128.setTop (mkF m 265 #[.val (.int p0), .val (.long p1), .second, .val (.long p2), .second, .val (.long p3), .second, .val (.int n), .val (.int (3 : Int32)), .val (.int rf), .val (.ref q), .val (.ref ta), .val (.ref tb), .val (.ref tc), .val (.int (1 : Int32)), .val (.int (0 : Int32)), .unset] [(.int (1 : Int32))]))
        refine own_istore X128 hx hby at_265 (pc' := 267) rfl (l' := #[.val (.int p0), .val (.long p1), .second, .val (.long p2), .second, .val (.long p3), .second, .val (.int n), .val (.int (3 : Int32)), .val (.int rf), .val (.ref q), .val (.ref ta), .val (.ref tb), .val (.ref tc), .val (.int (1 : Int32)), .val (.int (0 : Int32)), .val (.int (1 : Int32))]) rfl ?_
        refine own_iload X128 hx hby at_267 (pc' := 269) rfl rfl ?_
        refine own_ifN X128 hx hby at_269 (pc' := 272) rfl (show ¬ (1 : Int32) = (0 : Int32) by decide) ?_
        refine own_aload X128 hx hby at_272 (pc' := 274) rfl rfl rfl ?_
        refine own_lk8 hw X128 hx hZ hby (by rw [hml]; rfl) hown at_274 (pc' := 277) rfl e128 Oq127.1 (W := 0) (Nat.le_of_eq rfl) (rmE0 l Z a0 hw [] q w T127.heap n0 Zn Oq127) (by decide) (by decide) (by decide) (by decide) (fun v129 T129 L129 X129 hQ129 => ?_)
        obtain ⟨rfl, Nq129, e129⟩ := hQ129
        have N129 := Fr.app N128 Nq129
        show own_End p e below _ (T129.setTop (mkF m 277 _ [(.int (1 : Int32))]))
        refine own_iload X129 hx hby at_277 (pc' := 279) rfl rfl ?_
        refine own_icN X129 hx hby at_279 (pc' := 282) rfl (show (1 : Int32) = (1 : Int32) by decide) ?_
        refine own_aload X129 hx hby at_282 (pc' := 284) rfl rfl rfl ?_
        refine own_lk9 hw X129 hx hZ hby (by rw [hml]; rfl) hown at_284 (pc' := 287) rfl e129 Oq127.1 (W := 0) (Nat.le_of_eq rfl) (rmPK0 l Z a0 hw [] q w kk (0 : Int32) .null .null rfl rfl T127.heap n0 Zn Oq127 V127) (by decide) (by decide) (by decide) (by decide) (fun v130 T130 L130 X130 hQ130 => ?_)
        obtain ⟨rfl, Nq130, e130⟩ := hQ130
        have N130 := Fr.app N129 Nq130
        show own_End p e below _ (T130.setTop (mkF m 287 _ [.null]))
        refine own_ifnonnullN X130 hx hby at_287 (pc' := 290) rfl ?_
        refine own_iconst X130 hx hby at_290 (pc' := 291) rfl (n := (1 : Int32)) (by decide) ?_
        refine own_goto X130 hx hby at_291 (pc' := 295) (by decide) (by decide) ?_
        refine own_iload X130 hx hby at_295 (pc' := 297) rfl rfl ?_
        refine own_icN X130 hx hby at_297 (pc' := 300) rfl (show (1 : Int32) = (1 : Int32) by decide) ?_
        refine own_iconst X130 hx hby at_300 (pc' := 301) rfl (n := (1 : Int32)) (by decide) ?_
        refine own_goto X130 hx hby at_301 (pc' := 305) (by decide) (by decide) ?_
        refine own_istore X130 hx hby at_305 (pc' := 307) rfl (l' := #[.val (.int p0), .val (.long p1), .second, .val (.long p2), .second, .val (.long p3), .second, .val (.int n), .val (.int (3 : Int32)), .val (.int rf), .val (.ref q), .val (.ref ta), .val (.ref tb), .val (.ref tc), .val (.int (1 : Int32)), .val (.int (0 : Int32)), .val (.int (1 : Int32))]) rfl ?_
        refine own_iload X130 hx hby at_307 (pc' := 309) rfl rfl ?_
        refine own_zreturn X130 hx hlk hby hret (Or.inr rfl) at_309 (own_lv ?_ (by decide) (by decide))
        show Q0 Z p0 p1 p2 p3  h0 n0 (some (.int (1 : Int32))) T130.heap _
        rw [e130]
        exact ⟨rfl, N130⟩
      · show own_End p e below _ (T128.setTop (mkF m 265 #[.val (.int p0), .val (.long p1), .second, .val (.long p2), .second, .val (.long p3), .second, .val (.int n), .val (.int (3 : Int32)), .val (.int rf), .val (.ref q), .val (.ref ta), .val (.ref tb), .val (.ref tc), .val (.int (1 : Int32)), .val (.int (0 : Int32)), .val (.int r16)] [(.int (1 : Int32))]))
        refine own_istore X128 hx hby at_265 (pc' := 267) rfl (l' := #[.val (.int p0), .val (.long p1), .second, .val (.long p2), .second, .val (.long p3), .second, .val (.int n), .val (.int (3 : Int32)), .val (.int rf), .val (.ref q), .val (.ref ta), .val (.ref tb), .val (.ref tc), .val (.int (1 : Int32)), .val (.int (0 : Int32)), .val (.int (1 : Int32))]) rfl ?_
        refine own_iload X128 hx hby at_267 (pc' := 269) rfl rfl ?_
        refine own_ifN X128 hx hby at_269 (pc' := 272) rfl (show ¬ (1 : Int32) = (0 : Int32) by decide) ?_
        refine own_aload X128 hx hby at_272 (pc' := 274) rfl rfl rfl ?_
        refine own_lk8 hw X128 hx hZ hby (by rw [hml]; rfl) hown at_274 (pc' := 277) rfl e128 Oq127.1 (W := 0) (Nat.le_of_eq rfl) (rmE0 l Z a0 hw [] q w T127.heap n0 Zn Oq127) (by decide) (by decide) (by decide) (by decide) (fun v131 T131 L131 X131 hQ131 => ?_)
        obtain ⟨rfl, Nq131, e131⟩ := hQ131
        have N131 := Fr.app N128 Nq131
        show own_End p e below _ (T131.setTop (mkF m 277 _ [(.int (1 : Int32))]))
        refine own_iload X131 hx hby at_277 (pc' := 279) rfl rfl ?_
        refine own_icN X131 hx hby at_279 (pc' := 282) rfl (show (1 : Int32) = (1 : Int32) by decide) ?_
        refine own_aload X131 hx hby at_282 (pc' := 284) rfl rfl rfl ?_
        refine own_lk9 hw X131 hx hZ hby (by rw [hml]; rfl) hown at_284 (pc' := 287) rfl e131 Oq127.1 (W := 0) (Nat.le_of_eq rfl) (rmPK0 l Z a0 hw [] q w kk (0 : Int32) .null .null rfl rfl T127.heap n0 Zn Oq127 V127) (by decide) (by decide) (by decide) (by decide) (fun v132 T132 L132 X132 hQ132 => ?_)
        obtain ⟨rfl, Nq132, e132⟩ := hQ132
        have N132 := Fr.app N131 Nq132
        show own_End p e below _ (T132.setTop (mkF m 287 _ [.null]))
        refine own_ifnonnullN X132 hx hby at_287 (pc' := 290) rfl ?_
        refine own_iconst X132 hx hby at_290 (pc' := 291) rfl (n := (1 : Int32)) (by decide) ?_
        refine own_goto X132 hx hby at_291 (pc' := 295) (by decide) (by decide) ?_
        refine own_iload X132 hx hby at_295 (pc' := 297) rfl rfl ?_
        refine own_icN X132 hx hby at_297 (pc' := 300) rfl (show (1 : Int32) = (1 : Int32) by decide) ?_
        refine own_iconst X132 hx hby at_300 (pc' := 301) rfl (n := (1 : Int32)) (by decide) ?_
        refine own_goto X132 hx hby at_301 (pc' := 305) (by decide) (by decide) ?_
        refine own_istore X132 hx hby at_305 (pc' := 307) rfl (l' := #[.val (.int p0), .val (.long p1), .second, .val (.long p2), .second, .val (.long p3), .second, .val (.int n), .val (.int (3 : Int32)), .val (.int rf), .val (.ref q), .val (.ref ta), .val (.ref tb), .val (.ref tc), .val (.int (1 : Int32)), .val (.int (0 : Int32)), .val (.int (1 : Int32))]) rfl ?_
        refine own_iload X132 hx hby at_307 (pc' := 309) rfl rfl ?_
        refine own_zreturn X132 hx hlk hby hret (Or.inr rfl) at_309 (own_lv ?_ (by decide) (by decide))
        show Q0 Z p0 p1 p2 p3  h0 n0 (some (.int (1 : Int32))) T132.heap _
        rw [e132]
        exact ⟨rfl, N132⟩
set_option maxRecDepth 65536 in
set_option maxHeartbeats 40000000 in
theorem own_A0 {p : Program} {l : Launch} {e : Env} {s : State} {m : MethodId} {below : List Frame} {meth : Method} {c : Code} {T0 : State} {locs : List Loc} (Z : State) (a0 : Array Value) (hw : ∀ d ∈ tables_1, d.before a0 Z = true) (p0 : Int32) (p1 : Int64) (p2 : Int64) (p3 : Int64) (q : Addr) (w : Addr) (kk : ClassId) (ta : Addr) (dta : Int64) (sta : Int64) (rm : Int32) (rf : Int32) (tb : Addr) (tc : Addr) (h0 : Heap) (n0 : Nat) (h1 : Heap)
    (X0 : Stand p l e room_1 s m #[(.int p0), (.long p1), (.long p2), (.long p3)] below meth c T0 locs 5 33) (hx : p.tables.exec = Jvm.exec) (hby : c.code = code) (hlk : meth.locks = false) (hml : c.maxLocals = 17) (hown : s.vm.findClass "com/example/earnest_reactor/earnestreactor/core/TimerQueueIsEmptyPinLaw" = some m.cls) (hret : meth.sig.returnType = some .boolean) (hZ : Z.Warmed39 s.vm) (e1 : T0.heap = h1) (N0 : Fr n0 locs) (Z1 : n0 ≤ h1.size) (f_O_q : own_TQ Z h1 q (.ref w) (0 : Int32)) (f_V_w : Arv Z h1 w kk (.object "com/example/earnest_reactor/earnestreactor/core/ScheduledTask") (16 : Int32) [.null, .null, .null] .null) (ho : Ovr Z kk "com/example/earnest_reactor/earnestreactor/core/ScheduledTask") (ge_q : n0 ≤ q) (ge_w : n0 ≤ w) (f_O_ta : own_TK Z h1 ta .null dta sta .null (-1 : Int32)) (hrm : rm = (0 : Int32) ∨ rm = (1 : Int32) ∨ rm = (2 : Int32) ∨ rm = (3 : Int32)) (hrf : rf = (0 : Int32) ∨ rf = (1 : Int32)) :
    own_End p e below (own_F s (Q0 Z p0 p1 p2 p3 h0 n0) room_1.cells room_1.slots) (T0.setTop (mkF m 123 #[.val (.int p0), .val (.long p1), .second, .val (.long p2), .second, .val (.long p3), .second, .val (.int (0 : Int32)), .val (.int rm), .val (.int rf), .val (.ref q), .val (.ref ta), .val (.ref tb), .val (.ref tc), .val (.int (1 : Int32)), .unset, .unset] [])) := by
  refine own_iload X0 hx hby at_123 (pc' := 125) rfl rfl ?_
  refine own_ifN X0 hx hby at_125 (pc' := 128) rfl (show ¬ (1 : Int32) = (0 : Int32) by decide) ?_
  refine own_aload X0 hx hby at_128 (pc' := 130) rfl rfl rfl ?_
  refine own_lk8 hw X0 hx hZ hby (by rw [hml]; rfl) hown at_130 (pc' := 133) rfl e1 f_O_q.1 (W := 0) (Nat.le_of_eq rfl) (rmE0 l Z a0 hw [] q w h1 n0 Z1 f_O_q) (by decide) (by decide) (by decide) (by decide) (fun v133 T133 L133 X133 hQ133 => ?_)
  obtain ⟨rfl, Nq133, e133⟩ := hQ133
  have N133 := Fr.app N0 Nq133
  show own_End p e below _ (T133.setTop (mkF m 133 _ [(.int (1 : Int32))]))
  refine own_iload X133 hx hby at_133 (pc' := 135) rfl rfl ?_
  refine own_ifN X133 hx hby at_135 (pc' := 138) rfl (show (0 : Int32) = (0 : Int32) by decide) ?_
  refine own_iconst X133 hx hby at_138 (pc' := 139) rfl (n := (1 : Int32)) (by decide) ?_
  refine own_goto X133 hx hby at_139 (pc' := 143) (by decide) (by decide) ?_
  refine own_icN X133 hx hby at_143 (pc' := 146) rfl (show (1 : Int32) = (1 : Int32) by decide) ?_
  refine own_iconst X133 hx hby at_146 (pc' := 147) rfl (n := (1 : Int32)) (by decide) ?_
  refine own_goto X133 hx hby at_147 (pc' := 151) (by decide) (by decide) ?_
  refine own_istore X133 hx hby at_151 (pc' := 153) rfl (l' := #[.val (.int p0), .val (.long p1), .second, .val (.long p2), .second, .val (.long p3), .second, .val (.int (0 : Int32)), .val (.int rm), .val (.int rf), .val (.ref q), .val (.ref ta), .val (.ref tb), .val (.ref tc), .val (.int (1 : Int32)), .unset, .unset]) rfl ?_
  refine own_iload X133 hx hby at_153 (pc' := 155) rfl rfl ?_
  refine own_istore X133 hx hby at_155 (pc' := 157) rfl (l' := #[.val (.int p0), .val (.long p1), .second, .val (.long p2), .second, .val (.long p3), .second, .val (.int (0 : Int32)), .val (.int rm), .val (.int rf), .val (.ref q), .val (.ref ta), .val (.ref tb), .val (.ref tc), .val (.int (1 : Int32)), .val (.int (0 : Int32)), .unset]) rfl ?_
  refine own_iload X133 hx hby at_157 (pc' := 159) rfl rfl ?_
  rcases hrf with rfl | rfl
  · show own_End p e below _ (T133.setTop (mkF m 159 #[.val (.int p0), .val (.long p1), .second, .val (.long p2), .second, .val (.long p3), .second, .val (.int (0 : Int32)), .val (.int rm), .val (.int (0 : Int32)), .val (.ref q), .val (.ref ta), .val (.ref tb), .val (.ref tc), .val (.int (1 : Int32)), .val (.int (0 : Int32)), .unset] [(.int (0 : Int32))]))
    refine own_ifY X133 hx hby at_159 (pc' := 209) (by decide) (by decide) (show (0 : Int32) = (0 : Int32) by decide) ?_
    exact own_B0 Z a0 hw p0 p1 p2 p3 q w kk (0 : Int32) rm (0 : Int32) ta tb tc (.unset)  h0 n0 h1 (own_mono X133 (by decide) (by decide)) hx hby hlk hml hown hret hZ e133 N133 Z1  f_O_q f_V_w ho ge_q ge_w hrm (Or.inl rfl)
  · show own_End p e below _ (T133.setTop (mkF m 159 #[.val (.int p0), .val (.long p1), .second, .val (.long p2), .second, .val (.long p3), .second, .val (.int (0 : Int32)), .val (.int rm), .val (.int (1 : Int32)), .val (.ref q), .val (.ref ta), .val (.ref tb), .val (.ref tc), .val (.int (1 : Int32)), .val (.int (0 : Int32)), .unset] [(.int (1 : Int32))]))
    refine own_ifN X133 hx hby at_159 (pc' := 162) rfl (show ¬ (1 : Int32) = (0 : Int32) by decide) ?_
    refine own_aload X133 hx hby at_162 (pc' := 164) rfl rfl rfl ?_
    refine own_aload X133 hx hby at_164 (pc' := 166) rfl rfl rfl ?_
    refine own_lk11 hw X133 hx hZ hby (by rw [hml]; rfl) hown at_166 (pc' := 169) rfl e133 f_O_q.1 (W := 0) (Nat.le_of_eq rfl) (rmRV0 l Z a0 hw [] q ta dta sta h1 n0 Z1 f_O_ta) (by decide) (by decide) (by decide) (by decide) (fun v134 T134 L134 X134 hQ134 => ?_)
    obtain ⟨rfl, Nq134, e134⟩ := hQ134
    have N134 := Fr.app N133 Nq134
    show own_End p e below _ (T134.setTop (mkF m 169 _ [(.int (0 : Int32))]))
    refine own_istore X134 hx hby at_169 (pc' := 171) rfl (l' := #[.val (.int p0), .val (.long p1), .second, .val (.long p2), .second, .val (.long p3), .second, .val (.int (0 : Int32)), .val (.int rm), .val (.int (1 : Int32)), .val (.ref q), .val (.ref ta), .val (.ref tb), .val (.ref tc), .val (.int (1 : Int32)), .val (.int (0 : Int32)), .val (.int (0 : Int32))]) rfl ?_
    refine own_iload X134 hx hby at_171 (pc' := 173) rfl rfl ?_
    refine own_ifN X134 hx hby at_173 (pc' := 176) rfl (show ¬ (1 : Int32) = (0 : Int32) by decide) ?_
    refine own_iload X134 hx hby at_176 (pc' := 178) rfl rfl ?_
    refine own_iload X134 hx hby at_178 (pc' := 180) rfl rfl ?_
    refine own_ifY X134 hx hby at_180 (pc' := 187) (by decide) (by decide) (show ¬ (0 : Int32) < (0 : Int32) by decide) ?_
    refine own_iconst X134 hx hby at_187 (pc' := 188) rfl (n := (0 : Int32)) (by decide) ?_
    refine own_icN X134 hx hby at_188 (pc' := 191) rfl (show (0 : Int32) = (0 : Int32) by decide) ?_
    refine own_iconst X134 hx hby at_191 (pc' := 192) rfl (n := (1 : Int32)) (by decide) ?_
    refine own_goto X134 hx hby at_192 (pc' := 196) (by decide) (by decide) ?_
    refine own_istore X134 hx hby at_196 (pc' := 198) rfl (l' := #[.val (.int p0), .val (.long p1), .second, .val (.long p2), .second, .val (.long p3), .second, .val (.int (0 : Int32)), .val (.int rm), .val (.int (1 : Int32)), .val (.ref q), .val (.ref ta), .val (.ref tb), .val (.ref tc), .val (.int (1 : Int32)), .val (.int (0 : Int32)), .val (.int (0 : Int32))]) rfl ?_
    refine own_iload X134 hx hby at_198 (pc' := 200) rfl rfl ?_
    refine own_ifY X134 hx hby at_200 (pc' := 209) (by decide) (by decide) (show ¬ (0 : Int32) < (0 : Int32) by decide) ?_
    exact own_B0 Z a0 hw p0 p1 p2 p3 q w kk (0 : Int32) rm (1 : Int32) ta tb tc (.val (.int (0 : Int32)))  h0 n0 h1 (own_mono X134 (by decide) (by decide)) hx hby hlk hml hown hret hZ e134 N134 Z1  f_O_q f_V_w ho ge_q ge_w hrm (Or.inr ⟨_, rfl⟩)
set_option maxRecDepth 65536 in
set_option maxHeartbeats 40000000 in
theorem own_A1 {p : Program} {l : Launch} {e : Env} {s : State} {m : MethodId} {below : List Frame} {meth : Method} {c : Code} {T0 : State} {locs : List Loc} (Z : State) (a0 : Array Value) (hw : ∀ d ∈ tables_1, d.before a0 Z = true) (p0 : Int32) (p1 : Int64) (p2 : Int64) (p3 : Int64) (q : Addr) (w : Addr) (kk : ClassId) (x : Addr) (dx : Int64) (sx : Int64) (ta : Addr) (rm : Int32) (rf : Int32) (tb : Addr) (tc : Addr) (h0 : Heap) (n0 : Nat) (h1 : Heap)
    (X0 : Stand p l e room_1 s m #[(.int p0), (.long p1), (.long p2), (.long p3)] below meth c T0 locs 5 33) (hx : p.tables.exec = Jvm.exec) (hby : c.code = code) (hlk : meth.locks = false) (hml : c.maxLocals = 17) (hown : s.vm.findClass "com/example/earnest_reactor/earnestreactor/core/TimerQueueIsEmptyPinLaw" = some m.cls) (hret : meth.sig.returnType = some .boolean) (hZ : Z.Warmed39 s.vm) (e1 : T0.heap = h1) (N0 : Fr n0 locs) (Z1 : n0 ≤ h1.size) (f_O_q : own_TQ Z h1 q (.ref w) (1 : Int32)) (f_V_w : Arv Z h1 w kk (.object "com/example/earnest_reactor/earnestreactor/core/ScheduledTask") (16 : Int32) [(.ref x), .null, .null] .null) (ho : Ovr Z kk "com/example/earnest_reactor/earnestreactor/core/ScheduledTask") (ge_q : n0 ≤ q) (ge_w : n0 ≤ w) (f_O_x : own_TK Z h1 x .null dx sx .null (0 : Int32)) (ge_x : n0 ≤ x) (ha : x = ta) (hrm : rm = (0 : Int32) ∨ rm = (1 : Int32) ∨ rm = (2 : Int32) ∨ rm = (3 : Int32)) (hrf : rf = (0 : Int32) ∨ rf = (1 : Int32)) :
    own_End p e below (own_F s (Q0 Z p0 p1 p2 p3 h0 n0) room_1.cells room_1.slots) (T0.setTop (mkF m 123 #[.val (.int p0), .val (.long p1), .second, .val (.long p2), .second, .val (.long p3), .second, .val (.int (1 : Int32)), .val (.int rm), .val (.int rf), .val (.ref q), .val (.ref ta), .val (.ref tb), .val (.ref tc), .val (.int (1 : Int32)), .unset, .unset] [])) := by
  refine own_iload X0 hx hby at_123 (pc' := 125) rfl rfl ?_
  refine own_ifN X0 hx hby at_125 (pc' := 128) rfl (show ¬ (1 : Int32) = (0 : Int32) by decide) ?_
  refine own_aload X0 hx hby at_128 (pc' := 130) rfl rfl rfl ?_
  refine own_lk8 hw X0 hx hZ hby (by rw [hml]; rfl) hown at_130 (pc' := 133) rfl e1 f_O_q.1 (W := 0) (Nat.le_of_eq rfl) (rmE1 l Z a0 hw [] q w h1 n0 Z1 f_O_q) (by decide) (by decide) (by decide) (by decide) (fun v135 T135 L135 X135 hQ135 => ?_)
  obtain ⟨rfl, Nq135, e135⟩ := hQ135
  have N135 := Fr.app N0 Nq135
  show own_End p e below _ (T135.setTop (mkF m 133 _ [(.int (0 : Int32))]))
  refine own_iload X135 hx hby at_133 (pc' := 135) rfl rfl ?_
  refine own_ifY X135 hx hby at_135 (pc' := 142) (by decide) (by decide) (show ¬ (1 : Int32) = (0 : Int32) by decide) ?_
  refine own_iconst X135 hx hby at_142 (pc' := 143) rfl (n := (0 : Int32)) (by decide) ?_
  refine own_icN X135 hx hby at_143 (pc' := 146) rfl (show (0 : Int32) = (0 : Int32) by decide) ?_
  refine own_iconst X135 hx hby at_146 (pc' := 147) rfl (n := (1 : Int32)) (by decide) ?_
  refine own_goto X135 hx hby at_147 (pc' := 151) (by decide) (by decide) ?_
  refine own_istore X135 hx hby at_151 (pc' := 153) rfl (l' := #[.val (.int p0), .val (.long p1), .second, .val (.long p2), .second, .val (.long p3), .second, .val (.int (1 : Int32)), .val (.int rm), .val (.int rf), .val (.ref q), .val (.ref ta), .val (.ref tb), .val (.ref tc), .val (.int (1 : Int32)), .unset, .unset]) rfl ?_
  refine own_iload X135 hx hby at_153 (pc' := 155) rfl rfl ?_
  refine own_istore X135 hx hby at_155 (pc' := 157) rfl (l' := #[.val (.int p0), .val (.long p1), .second, .val (.long p2), .second, .val (.long p3), .second, .val (.int (1 : Int32)), .val (.int rm), .val (.int rf), .val (.ref q), .val (.ref ta), .val (.ref tb), .val (.ref tc), .val (.int (1 : Int32)), .val (.int (1 : Int32)), .unset]) rfl ?_
  refine own_iload X135 hx hby at_157 (pc' := 159) rfl rfl ?_
  rcases hrf with rfl | rfl
  · show own_End p e below _ (T135.setTop (mkF m 159 #[.val (.int p0), .val (.long p1), .second, .val (.long p2), .second, .val (.long p3), .second, .val (.int (1 : Int32)), .val (.int rm), .val (.int (0 : Int32)), .val (.ref q), .val (.ref ta), .val (.ref tb), .val (.ref tc), .val (.int (1 : Int32)), .val (.int (1 : Int32)), .unset] [(.int (0 : Int32))]))
    refine own_ifY X135 hx hby at_159 (pc' := 209) (by decide) (by decide) (show (0 : Int32) = (0 : Int32) by decide) ?_
    exact own_B1 Z a0 hw p0 p1 p2 p3 q w kk x dx sx (1 : Int32) rm (0 : Int32) ta tb tc (.unset)  h0 n0 h1 (own_mono X135 (by decide) (by decide)) hx hby hlk hml hown hret hZ e135 N135 Z1  f_O_q f_V_w ho ge_q ge_w f_O_x ge_x hrm (Or.inl rfl)
  · show own_End p e below _ (T135.setTop (mkF m 159 #[.val (.int p0), .val (.long p1), .second, .val (.long p2), .second, .val (.long p3), .second, .val (.int (1 : Int32)), .val (.int rm), .val (.int (1 : Int32)), .val (.ref q), .val (.ref ta), .val (.ref tb), .val (.ref tc), .val (.int (1 : Int32)), .val (.int (1 : Int32)), .unset] [(.int (1 : Int32))]))
    refine own_ifN X135 hx hby at_159 (pc' := 162) rfl (show ¬ (1 : Int32) = (0 : Int32) by decide) ?_
    subst ha
    show own_End p e below _ (T135.setTop (mkF m 162 #[.val (.int p0), .val (.long p1), .second, .val (.long p2), .second, .val (.long p3), .second, .val (.int (1 : Int32)), .val (.int rm), .val (.int (1 : Int32)), .val (.ref q), .val (.ref x), .val (.ref tb), .val (.ref tc), .val (.int (1 : Int32)), .val (.int (1 : Int32)), .unset] []))
    refine own_aload X135 hx hby at_162 (pc' := 164) rfl rfl rfl ?_
    refine own_aload X135 hx hby at_164 (pc' := 166) rfl rfl rfl ?_
    have ne_q_w : q ≠ w := Exa.neArv f_O_q.1 f_V_w (wd_1 hw)
    have ne_q_x : q ≠ x := Exa.ne f_O_q.1 f_O_x.1 (by decide)
    have ne_w_x : w ≠ x := Ne.symm (Exa.neArv f_O_x.1 f_V_w (wd_14 hw))
    refine own_lk11 hw X135 hx hZ hby (by rw [hml]; rfl) hown at_166 (pc' := 169) rfl e135 f_O_q.1 (W := 0) (Nat.le_of_eq rfl) (rmRV1 l Z a0 hw [] q w kk x dx sx h1 n0 Z1 f_O_q f_V_w ho f_O_x ge_q ge_w ge_x) (by decide) (by decide) (by decide) (by decide) (fun v136 T136 L136 X136 hQ136 => ?_)
    obtain ⟨rfl, Nq136, K136, Oq136, V136, Ox136⟩ := hQ136
    have N136 := Fr.app N135 Nq136
    have Zn := Nat.le_trans Z1 K136.1
    show own_End p e below _ (T136.setTop (mkF m 169 _ [(.int (1 : Int32))]))
    refine own_istore X136 hx hby at_169 (pc' := 171) rfl (l' := #[.val (.int p0), .val (.long p1), .second, .val (.long p2), .second, .val (.long p3), .second, .val (.int (1 : Int32)), .val (.int rm), .val (.int (1 : Int32)), .val (.ref q), .val (.ref x), .val (.ref tb), .val (.ref tc), .val (.int (1 : Int32)), .val (.int (1 : Int32)), .val (.int (1 : Int32))]) rfl ?_
    refine own_iload X136 hx hby at_171 (pc' := 173) rfl rfl ?_
    refine own_ifN X136 hx hby at_173 (pc' := 176) rfl (show ¬ (1 : Int32) = (0 : Int32) by decide) ?_
    refine own_iload X136 hx hby at_176 (pc' := 178) rfl rfl ?_
    refine own_iload X136 hx hby at_178 (pc' := 180) rfl rfl ?_
    refine own_ifN X136 hx hby at_180 (pc' := 183) rfl (show (0 : Int32) < (1 : Int32) by decide) ?_
    refine own_iconst X136 hx hby at_183 (pc' := 184) rfl (n := (1 : Int32)) (by decide) ?_
    refine own_goto X136 hx hby at_184 (pc' := 188) (by decide) (by decide) ?_
    refine own_icN X136 hx hby at_188 (pc' := 191) rfl (show (1 : Int32) = (1 : Int32) by decide) ?_
    refine own_iconst X136 hx hby at_191 (pc' := 192) rfl (n := (1 : Int32)) (by decide) ?_
    refine own_goto X136 hx hby at_192 (pc' := 196) (by decide) (by decide) ?_
    refine own_istore X136 hx hby at_196 (pc' := 198) rfl (l' := #[.val (.int p0), .val (.long p1), .second, .val (.long p2), .second, .val (.long p3), .second, .val (.int (1 : Int32)), .val (.int rm), .val (.int (1 : Int32)), .val (.ref q), .val (.ref x), .val (.ref tb), .val (.ref tc), .val (.int (1 : Int32)), .val (.int (1 : Int32)), .val (.int (1 : Int32))]) rfl ?_
    refine own_iload X136 hx hby at_198 (pc' := 200) rfl rfl ?_
    refine own_ifN X136 hx hby at_200 (pc' := 203) rfl (show (0 : Int32) < (1 : Int32) by decide) ?_
    refine own_iload X136 hx hby at_203 (pc' := 205) rfl rfl ?_
    refine own_iconst X136 hx hby at_205 (pc' := 206) rfl (n := (1 : Int32)) (by decide) ?_
    refine own_isub X136 hx hby at_206 (pc' := 207) rfl ?_
    show own_End p e below _ (T136.setTop (mkF m 207 #[.val (.int p0), .val (.long p1), .second, .val (.long p2), .second, .val (.long p3), .second, .val (.int (1 : Int32)), .val (.int rm), .val (.int (1 : Int32)), .val (.ref q), .val (.ref x), .val (.ref tb), .val (.ref tc), .val (.int (1 : Int32)), .val (.int (1 : Int32)), .val (.int (1 : Int32))] [(.int (0 : Int32))]))
    refine own_istore X136 hx hby at_207 (pc' := 209) rfl (l' := #[.val (.int p0), .val (.long p1), .second, .val (.long p2), .second, .val (.long p3), .second, .val (.int (1 : Int32)), .val (.int rm), .val (.int (1 : Int32)), .val (.ref q), .val (.ref x), .val (.ref tb), .val (.ref tc), .val (.int (1 : Int32)), .val (.int (0 : Int32)), .val (.int (1 : Int32))]) rfl ?_
    exact own_B0 Z a0 hw p0 p1 p2 p3 q w kk (1 : Int32) rm (1 : Int32) x tb tc (.val (.int (1 : Int32)))  h0 n0 T136.heap (own_mono X136 (by decide) (by decide)) hx hby hlk hml hown hret hZ rfl N136 Zn  Oq136 V136 ho ge_q ge_w hrm (Or.inr ⟨_, rfl⟩)
set_option maxRecDepth 65536 in
set_option maxHeartbeats 40000000 in
theorem own_A2 {p : Program} {l : Launch} {e : Env} {s : State} {m : MethodId} {below : List Frame} {meth : Method} {c : Code} {T0 : State} {locs : List Loc} (Z : State) (a0 : Array Value) (hw : ∀ d ∈ tables_1, d.before a0 Z = true) (p0 : Int32) (p1 : Int64) (p2 : Int64) (p3 : Int64) (q : Addr) (w : Addr) (kk : ClassId) (x : Addr) (dx : Int64) (sx : Int64) (y : Addr) (dy : Int64) (sy : Int64) (ta : Addr) (rm : Int32) (rf : Int32) (tb : Addr) (tc : Addr) (h0 : Heap) (n0 : Nat) (h1 : Heap)
    (X0 : Stand p l e room_1 s m #[(.int p0), (.long p1), (.long p2), (.long p3)] below meth c T0 locs 5 33) (hx : p.tables.exec = Jvm.exec) (hby : c.code = code) (hlk : meth.locks = false) (hml : c.maxLocals = 17) (hown : s.vm.findClass "com/example/earnest_reactor/earnestreactor/core/TimerQueueIsEmptyPinLaw" = some m.cls) (hret : meth.sig.returnType = some .boolean) (hZ : Z.Warmed39 s.vm) (e1 : T0.heap = h1) (N0 : Fr n0 locs) (Z1 : n0 ≤ h1.size) (f_O_q : own_TQ Z h1 q (.ref w) (2 : Int32)) (f_V_w : Arv Z h1 w kk (.object "com/example/earnest_reactor/earnestreactor/core/ScheduledTask") (16 : Int32) [(.ref x), (.ref y), .null] .null) (ho : Ovr Z kk "com/example/earnest_reactor/earnestreactor/core/ScheduledTask") (ge_q : n0 ≤ q) (ge_w : n0 ≤ w) (f_O_x : own_TK Z h1 x .null dx sx .null (0 : Int32)) (f_O_y : own_TK Z h1 y .null dy sy .null (1 : Int32)) (ge_x : n0 ≤ x) (ge_y : n0 ≤ y) (ne_x_y : x ≠ y) (ha : x = ta ∨ y = ta) (hrm : rm = (0 : Int32) ∨ rm = (1 : Int32) ∨ rm = (2 : Int32) ∨ rm = (3 : Int32)) (hrf : rf = (0 : Int32) ∨ rf = (1 : Int32)) :
    own_End p e below (own_F s (Q0 Z p0 p1 p2 p3 h0 n0) room_1.cells room_1.slots) (T0.setTop (mkF m 123 #[.val (.int p0), .val (.long p1), .second, .val (.long p2), .second, .val (.long p3), .second, .val (.int (2 : Int32)), .val (.int rm), .val (.int rf), .val (.ref q), .val (.ref ta), .val (.ref tb), .val (.ref tc), .val (.int (1 : Int32)), .unset, .unset] [])) := by
  refine own_iload X0 hx hby at_123 (pc' := 125) rfl rfl ?_
  refine own_ifN X0 hx hby at_125 (pc' := 128) rfl (show ¬ (1 : Int32) = (0 : Int32) by decide) ?_
  refine own_aload X0 hx hby at_128 (pc' := 130) rfl rfl rfl ?_
  refine own_lk8 hw X0 hx hZ hby (by rw [hml]; rfl) hown at_130 (pc' := 133) rfl e1 f_O_q.1 (W := 0) (Nat.le_of_eq rfl) (rmE2 l Z a0 hw [] q w h1 n0 Z1 f_O_q) (by decide) (by decide) (by decide) (by decide) (fun v137 T137 L137 X137 hQ137 => ?_)
  obtain ⟨rfl, Nq137, e137⟩ := hQ137
  have N137 := Fr.app N0 Nq137
  show own_End p e below _ (T137.setTop (mkF m 133 _ [(.int (0 : Int32))]))
  refine own_iload X137 hx hby at_133 (pc' := 135) rfl rfl ?_
  refine own_ifY X137 hx hby at_135 (pc' := 142) (by decide) (by decide) (show ¬ (2 : Int32) = (0 : Int32) by decide) ?_
  refine own_iconst X137 hx hby at_142 (pc' := 143) rfl (n := (0 : Int32)) (by decide) ?_
  refine own_icN X137 hx hby at_143 (pc' := 146) rfl (show (0 : Int32) = (0 : Int32) by decide) ?_
  refine own_iconst X137 hx hby at_146 (pc' := 147) rfl (n := (1 : Int32)) (by decide) ?_
  refine own_goto X137 hx hby at_147 (pc' := 151) (by decide) (by decide) ?_
  refine own_istore X137 hx hby at_151 (pc' := 153) rfl (l' := #[.val (.int p0), .val (.long p1), .second, .val (.long p2), .second, .val (.long p3), .second, .val (.int (2 : Int32)), .val (.int rm), .val (.int rf), .val (.ref q), .val (.ref ta), .val (.ref tb), .val (.ref tc), .val (.int (1 : Int32)), .unset, .unset]) rfl ?_
  refine own_iload X137 hx hby at_153 (pc' := 155) rfl rfl ?_
  refine own_istore X137 hx hby at_155 (pc' := 157) rfl (l' := #[.val (.int p0), .val (.long p1), .second, .val (.long p2), .second, .val (.long p3), .second, .val (.int (2 : Int32)), .val (.int rm), .val (.int rf), .val (.ref q), .val (.ref ta), .val (.ref tb), .val (.ref tc), .val (.int (1 : Int32)), .val (.int (2 : Int32)), .unset]) rfl ?_
  refine own_iload X137 hx hby at_157 (pc' := 159) rfl rfl ?_
  rcases hrf with rfl | rfl
  · show own_End p e below _ (T137.setTop (mkF m 159 #[.val (.int p0), .val (.long p1), .second, .val (.long p2), .second, .val (.long p3), .second, .val (.int (2 : Int32)), .val (.int rm), .val (.int (0 : Int32)), .val (.ref q), .val (.ref ta), .val (.ref tb), .val (.ref tc), .val (.int (1 : Int32)), .val (.int (2 : Int32)), .unset] [(.int (0 : Int32))]))
    refine own_ifY X137 hx hby at_159 (pc' := 209) (by decide) (by decide) (show (0 : Int32) = (0 : Int32) by decide) ?_
    exact own_B2 Z a0 hw p0 p1 p2 p3 q w kk x dx sx y dy sy (2 : Int32) rm (0 : Int32) ta tb tc (.unset)  h0 n0 h1 (own_mono X137 (by decide) (by decide)) hx hby hlk hml hown hret hZ e137 N137 Z1  f_O_q f_V_w ho ge_q ge_w f_O_x f_O_y ge_x ge_y ne_x_y hrm (Or.inl rfl)
  · show own_End p e below _ (T137.setTop (mkF m 159 #[.val (.int p0), .val (.long p1), .second, .val (.long p2), .second, .val (.long p3), .second, .val (.int (2 : Int32)), .val (.int rm), .val (.int (1 : Int32)), .val (.ref q), .val (.ref ta), .val (.ref tb), .val (.ref tc), .val (.int (1 : Int32)), .val (.int (2 : Int32)), .unset] [(.int (1 : Int32))]))
    refine own_ifN X137 hx hby at_159 (pc' := 162) rfl (show ¬ (1 : Int32) = (0 : Int32) by decide) ?_
    rcases ha with rfl | rfl
    · show own_End p e below _ (T137.setTop (mkF m 162 #[.val (.int p0), .val (.long p1), .second, .val (.long p2), .second, .val (.long p3), .second, .val (.int (2 : Int32)), .val (.int rm), .val (.int (1 : Int32)), .val (.ref q), .val (.ref x), .val (.ref tb), .val (.ref tc), .val (.int (1 : Int32)), .val (.int (2 : Int32)), .unset] []))
      refine own_aload X137 hx hby at_162 (pc' := 164) rfl rfl rfl ?_
      refine own_aload X137 hx hby at_164 (pc' := 166) rfl rfl rfl ?_
      have ne_q_w : q ≠ w := Exa.neArv f_O_q.1 f_V_w (wd_1 hw)
      have ne_q_x : q ≠ x := Exa.ne f_O_q.1 f_O_x.1 (by decide)
      have ne_q_y : q ≠ y := Exa.ne f_O_q.1 f_O_y.1 (by decide)
      have ne_w_x : w ≠ x := Ne.symm (Exa.neArv f_O_x.1 f_V_w (wd_14 hw))
      have ne_w_y : w ≠ y := Ne.symm (Exa.neArv f_O_y.1 f_V_w (wd_14 hw))
      refine own_lk11 hw X137 hx hZ hby (by rw [hml]; rfl) hown at_166 (pc' := 169) rfl e137 f_O_q.1 (W := 0) (Nat.le_of_eq rfl) (rmRV2 l Z a0 hw [] q w kk x dx sx y dy sy h1 n0 Z1 f_O_q f_V_w ho f_O_x f_O_y ge_q ge_w ge_x ge_y ne_x_y) (by decide) (by decide) (by decide) (by decide) (fun v138 T138 L138 X138 hQ138 => ?_)
      obtain ⟨rfl, Nq138, K138, Oq138, V138, Ox138, Oy138⟩ := hQ138
      have N138 := Fr.app N137 Nq138
      have Zn := Nat.le_trans Z1 K138.1
      show own_End p e below _ (T138.setTop (mkF m 169 _ [(.int (1 : Int32))]))
      refine own_istore X138 hx hby at_169 (pc' := 171) rfl (l' := #[.val (.int p0), .val (.long p1), .second, .val (.long p2), .second, .val (.long p3), .second, .val (.int (2 : Int32)), .val (.int rm), .val (.int (1 : Int32)), .val (.ref q), .val (.ref x), .val (.ref tb), .val (.ref tc), .val (.int (1 : Int32)), .val (.int (2 : Int32)), .val (.int (1 : Int32))]) rfl ?_
      refine own_iload X138 hx hby at_171 (pc' := 173) rfl rfl ?_
      refine own_ifN X138 hx hby at_173 (pc' := 176) rfl (show ¬ (1 : Int32) = (0 : Int32) by decide) ?_
      refine own_iload X138 hx hby at_176 (pc' := 178) rfl rfl ?_
      refine own_iload X138 hx hby at_178 (pc' := 180) rfl rfl ?_
      refine own_ifN X138 hx hby at_180 (pc' := 183) rfl (show (0 : Int32) < (2 : Int32) by decide) ?_
      refine own_iconst X138 hx hby at_183 (pc' := 184) rfl (n := (1 : Int32)) (by decide) ?_
      refine own_goto X138 hx hby at_184 (pc' := 188) (by decide) (by decide) ?_
      refine own_icN X138 hx hby at_188 (pc' := 191) rfl (show (1 : Int32) = (1 : Int32) by decide) ?_
      refine own_iconst X138 hx hby at_191 (pc' := 192) rfl (n := (1 : Int32)) (by decide) ?_
      refine own_goto X138 hx hby at_192 (pc' := 196) (by decide) (by decide) ?_
      refine own_istore X138 hx hby at_196 (pc' := 198) rfl (l' := #[.val (.int p0), .val (.long p1), .second, .val (.long p2), .second, .val (.long p3), .second, .val (.int (2 : Int32)), .val (.int rm), .val (.int (1 : Int32)), .val (.ref q), .val (.ref x), .val (.ref tb), .val (.ref tc), .val (.int (1 : Int32)), .val (.int (2 : Int32)), .val (.int (1 : Int32))]) rfl ?_
      refine own_iload X138 hx hby at_198 (pc' := 200) rfl rfl ?_
      refine own_ifN X138 hx hby at_200 (pc' := 203) rfl (show (0 : Int32) < (2 : Int32) by decide) ?_
      refine own_iload X138 hx hby at_203 (pc' := 205) rfl rfl ?_
      refine own_iconst X138 hx hby at_205 (pc' := 206) rfl (n := (1 : Int32)) (by decide) ?_
      refine own_isub X138 hx hby at_206 (pc' := 207) rfl ?_
      show own_End p e below _ (T138.setTop (mkF m 207 #[.val (.int p0), .val (.long p1), .second, .val (.long p2), .second, .val (.long p3), .second, .val (.int (2 : Int32)), .val (.int rm), .val (.int (1 : Int32)), .val (.ref q), .val (.ref x), .val (.ref tb), .val (.ref tc), .val (.int (1 : Int32)), .val (.int (2 : Int32)), .val (.int (1 : Int32))] [(.int (1 : Int32))]))
      refine own_istore X138 hx hby at_207 (pc' := 209) rfl (l' := #[.val (.int p0), .val (.long p1), .second, .val (.long p2), .second, .val (.long p3), .second, .val (.int (2 : Int32)), .val (.int rm), .val (.int (1 : Int32)), .val (.ref q), .val (.ref x), .val (.ref tb), .val (.ref tc), .val (.int (1 : Int32)), .val (.int (1 : Int32)), .val (.int (1 : Int32))]) rfl ?_
      exact own_B1 Z a0 hw p0 p1 p2 p3 q w kk y dy sy (2 : Int32) rm (1 : Int32) x tb tc (.val (.int (1 : Int32)))  h0 n0 T138.heap (own_mono X138 (by decide) (by decide)) hx hby hlk hml hown hret hZ rfl N138 Zn  Oq138 V138 ho ge_q ge_w Oy138 ge_y hrm (Or.inr ⟨_, rfl⟩)
    · show own_End p e below _ (T137.setTop (mkF m 162 #[.val (.int p0), .val (.long p1), .second, .val (.long p2), .second, .val (.long p3), .second, .val (.int (2 : Int32)), .val (.int rm), .val (.int (1 : Int32)), .val (.ref q), .val (.ref y), .val (.ref tb), .val (.ref tc), .val (.int (1 : Int32)), .val (.int (2 : Int32)), .unset] []))
      refine own_aload X137 hx hby at_162 (pc' := 164) rfl rfl rfl ?_
      refine own_aload X137 hx hby at_164 (pc' := 166) rfl rfl rfl ?_
      have ne_q_w : q ≠ w := Exa.neArv f_O_q.1 f_V_w (wd_1 hw)
      have ne_q_y : q ≠ y := Exa.ne f_O_q.1 f_O_y.1 (by decide)
      have ne_w_y : w ≠ y := Ne.symm (Exa.neArv f_O_y.1 f_V_w (wd_14 hw))
      have ne_x_q : x ≠ q := Exa.ne f_O_x.1 f_O_q.1 (by decide)
      have ne_x_w : x ≠ w := Exa.neArv f_O_x.1 f_V_w (wd_14 hw)
      refine own_lk11 hw X137 hx hZ hby (by rw [hml]; rfl) hown at_166 (pc' := 169) rfl e137 f_O_q.1 (W := 0) (Nat.le_of_eq rfl) (rmRV2i l Z a0 hw [] q w kk x dx sx y dy sy h1 n0 Z1 f_O_q f_V_w ho f_O_x f_O_y ge_q ge_w ge_y ne_x_y) (by decide) (by decide) (by decide) (by decide) (fun v139 T139 L139 X139 hQ139 => ?_)
      obtain ⟨rfl, Nq139, K139, Oq139, V139, Oy139⟩ := hQ139
      have N139 := Fr.app N137 Nq139
      have f_O_x := f_O_x.keep K139 (ninS ne_x_q (ninS ne_x_w (ninS ne_x_y nin0)))
      have Zn := Nat.le_trans Z1 K139.1
      show own_End p e below _ (T139.setTop (mkF m 169 _ [(.int (1 : Int32))]))
      refine own_istore X139 hx hby at_169 (pc' := 171) rfl (l' := #[.val (.int p0), .val (.long p1), .second, .val (.long p2), .second, .val (.long p3), .second, .val (.int (2 : Int32)), .val (.int rm), .val (.int (1 : Int32)), .val (.ref q), .val (.ref y), .val (.ref tb), .val (.ref tc), .val (.int (1 : Int32)), .val (.int (2 : Int32)), .val (.int (1 : Int32))]) rfl ?_
      refine own_iload X139 hx hby at_171 (pc' := 173) rfl rfl ?_
      refine own_ifN X139 hx hby at_173 (pc' := 176) rfl (show ¬ (1 : Int32) = (0 : Int32) by decide) ?_
      refine own_iload X139 hx hby at_176 (pc' := 178) rfl rfl ?_
      refine own_iload X139 hx hby at_178 (pc' := 180) rfl rfl ?_
      refine own_ifN X139 hx hby at_180 (pc' := 183) rfl (show (0 : Int32) < (2 : Int32) by decide) ?_
      refine own_iconst X139 hx hby at_183 (pc' := 184) rfl (n := (1 : Int32)) (by decide) ?_
      refine own_goto X139 hx hby at_184 (pc' := 188) (by decide) (by decide) ?_
      refine own_icN X139 hx hby at_188 (pc' := 191) rfl (show (1 : Int32) = (1 : Int32) by decide) ?_
      refine own_iconst X139 hx hby at_191 (pc' := 192) rfl (n := (1 : Int32)) (by decide) ?_
      refine own_goto X139 hx hby at_192 (pc' := 196) (by decide) (by decide) ?_
      refine own_istore X139 hx hby at_196 (pc' := 198) rfl (l' := #[.val (.int p0), .val (.long p1), .second, .val (.long p2), .second, .val (.long p3), .second, .val (.int (2 : Int32)), .val (.int rm), .val (.int (1 : Int32)), .val (.ref q), .val (.ref y), .val (.ref tb), .val (.ref tc), .val (.int (1 : Int32)), .val (.int (2 : Int32)), .val (.int (1 : Int32))]) rfl ?_
      refine own_iload X139 hx hby at_198 (pc' := 200) rfl rfl ?_
      refine own_ifN X139 hx hby at_200 (pc' := 203) rfl (show (0 : Int32) < (2 : Int32) by decide) ?_
      refine own_iload X139 hx hby at_203 (pc' := 205) rfl rfl ?_
      refine own_iconst X139 hx hby at_205 (pc' := 206) rfl (n := (1 : Int32)) (by decide) ?_
      refine own_isub X139 hx hby at_206 (pc' := 207) rfl ?_
      show own_End p e below _ (T139.setTop (mkF m 207 #[.val (.int p0), .val (.long p1), .second, .val (.long p2), .second, .val (.long p3), .second, .val (.int (2 : Int32)), .val (.int rm), .val (.int (1 : Int32)), .val (.ref q), .val (.ref y), .val (.ref tb), .val (.ref tc), .val (.int (1 : Int32)), .val (.int (2 : Int32)), .val (.int (1 : Int32))] [(.int (1 : Int32))]))
      refine own_istore X139 hx hby at_207 (pc' := 209) rfl (l' := #[.val (.int p0), .val (.long p1), .second, .val (.long p2), .second, .val (.long p3), .second, .val (.int (2 : Int32)), .val (.int rm), .val (.int (1 : Int32)), .val (.ref q), .val (.ref y), .val (.ref tb), .val (.ref tc), .val (.int (1 : Int32)), .val (.int (1 : Int32)), .val (.int (1 : Int32))]) rfl ?_
      exact own_B1 Z a0 hw p0 p1 p2 p3 q w kk x dx sx (2 : Int32) rm (1 : Int32) y tb tc (.val (.int (1 : Int32)))  h0 n0 T139.heap (own_mono X139 (by decide) (by decide)) hx hby hlk hml hown hret hZ rfl N139 Zn  Oq139 V139 ho ge_q ge_w f_O_x ge_x hrm (Or.inr ⟨_, rfl⟩)
set_option maxRecDepth 65536 in
set_option maxHeartbeats 40000000 in
theorem own_A3 {p : Program} {l : Launch} {e : Env} {s : State} {m : MethodId} {below : List Frame} {meth : Method} {c : Code} {T0 : State} {locs : List Loc} (Z : State) (a0 : Array Value) (hw : ∀ d ∈ tables_1, d.before a0 Z = true) (p0 : Int32) (p1 : Int64) (p2 : Int64) (p3 : Int64) (q : Addr) (w : Addr) (kk : ClassId) (x : Addr) (dx : Int64) (sx : Int64) (y : Addr) (dy : Int64) (sy : Int64) (z : Addr) (dz : Int64) (sz : Int64) (ta : Addr) (rm : Int32) (rf : Int32) (tb : Addr) (tc : Addr) (h0 : Heap) (n0 : Nat) (h1 : Heap)
    (X0 : Stand p l e room_1 s m #[(.int p0), (.long p1), (.long p2), (.long p3)] below meth c T0 locs 5 33) (hx : p.tables.exec = Jvm.exec) (hby : c.code = code) (hlk : meth.locks = false) (hml : c.maxLocals = 17) (hown : s.vm.findClass "com/example/earnest_reactor/earnestreactor/core/TimerQueueIsEmptyPinLaw" = some m.cls) (hret : meth.sig.returnType = some .boolean) (hZ : Z.Warmed39 s.vm) (e1 : T0.heap = h1) (N0 : Fr n0 locs) (Z1 : n0 ≤ h1.size) (f_O_q : own_TQ Z h1 q (.ref w) (3 : Int32)) (f_V_w : Arv Z h1 w kk (.object "com/example/earnest_reactor/earnestreactor/core/ScheduledTask") (16 : Int32) [(.ref x), (.ref y), (.ref z)] .null) (ho : Ovr Z kk "com/example/earnest_reactor/earnestreactor/core/ScheduledTask") (ge_q : n0 ≤ q) (ge_w : n0 ≤ w) (f_O_x : own_TK Z h1 x .null dx sx .null (0 : Int32)) (f_O_y : own_TK Z h1 y .null dy sy .null (1 : Int32)) (f_O_z : own_TK Z h1 z .null dz sz .null (2 : Int32)) (ge_x : n0 ≤ x) (ge_y : n0 ≤ y) (ge_z : n0 ≤ z) (ne_x_y : x ≠ y) (ne_x_z : x ≠ z) (ne_y_z : y ≠ z) (ha : x = ta ∨ y = ta ∨ z = ta) (hrm : rm = (0 : Int32) ∨ rm = (1 : Int32) ∨ rm = (2 : Int32) ∨ rm = (3 : Int32)) (hrf : rf = (0 : Int32) ∨ rf = (1 : Int32)) :
    own_End p e below (own_F s (Q0 Z p0 p1 p2 p3 h0 n0) room_1.cells room_1.slots) (T0.setTop (mkF m 123 #[.val (.int p0), .val (.long p1), .second, .val (.long p2), .second, .val (.long p3), .second, .val (.int (3 : Int32)), .val (.int rm), .val (.int rf), .val (.ref q), .val (.ref ta), .val (.ref tb), .val (.ref tc), .val (.int (1 : Int32)), .unset, .unset] [])) := by
  refine own_iload X0 hx hby at_123 (pc' := 125) rfl rfl ?_
  refine own_ifN X0 hx hby at_125 (pc' := 128) rfl (show ¬ (1 : Int32) = (0 : Int32) by decide) ?_
  refine own_aload X0 hx hby at_128 (pc' := 130) rfl rfl rfl ?_
  refine own_lk8 hw X0 hx hZ hby (by rw [hml]; rfl) hown at_130 (pc' := 133) rfl e1 f_O_q.1 (W := 0) (Nat.le_of_eq rfl) (rmE3 l Z a0 hw [] q w h1 n0 Z1 f_O_q) (by decide) (by decide) (by decide) (by decide) (fun v140 T140 L140 X140 hQ140 => ?_)
  obtain ⟨rfl, Nq140, e140⟩ := hQ140
  have N140 := Fr.app N0 Nq140
  show own_End p e below _ (T140.setTop (mkF m 133 _ [(.int (0 : Int32))]))
  refine own_iload X140 hx hby at_133 (pc' := 135) rfl rfl ?_
  refine own_ifY X140 hx hby at_135 (pc' := 142) (by decide) (by decide) (show ¬ (3 : Int32) = (0 : Int32) by decide) ?_
  refine own_iconst X140 hx hby at_142 (pc' := 143) rfl (n := (0 : Int32)) (by decide) ?_
  refine own_icN X140 hx hby at_143 (pc' := 146) rfl (show (0 : Int32) = (0 : Int32) by decide) ?_
  refine own_iconst X140 hx hby at_146 (pc' := 147) rfl (n := (1 : Int32)) (by decide) ?_
  refine own_goto X140 hx hby at_147 (pc' := 151) (by decide) (by decide) ?_
  refine own_istore X140 hx hby at_151 (pc' := 153) rfl (l' := #[.val (.int p0), .val (.long p1), .second, .val (.long p2), .second, .val (.long p3), .second, .val (.int (3 : Int32)), .val (.int rm), .val (.int rf), .val (.ref q), .val (.ref ta), .val (.ref tb), .val (.ref tc), .val (.int (1 : Int32)), .unset, .unset]) rfl ?_
  refine own_iload X140 hx hby at_153 (pc' := 155) rfl rfl ?_
  refine own_istore X140 hx hby at_155 (pc' := 157) rfl (l' := #[.val (.int p0), .val (.long p1), .second, .val (.long p2), .second, .val (.long p3), .second, .val (.int (3 : Int32)), .val (.int rm), .val (.int rf), .val (.ref q), .val (.ref ta), .val (.ref tb), .val (.ref tc), .val (.int (1 : Int32)), .val (.int (3 : Int32)), .unset]) rfl ?_
  refine own_iload X140 hx hby at_157 (pc' := 159) rfl rfl ?_
  rcases hrf with rfl | rfl
  · show own_End p e below _ (T140.setTop (mkF m 159 #[.val (.int p0), .val (.long p1), .second, .val (.long p2), .second, .val (.long p3), .second, .val (.int (3 : Int32)), .val (.int rm), .val (.int (0 : Int32)), .val (.ref q), .val (.ref ta), .val (.ref tb), .val (.ref tc), .val (.int (1 : Int32)), .val (.int (3 : Int32)), .unset] [(.int (0 : Int32))]))
    refine own_ifY X140 hx hby at_159 (pc' := 209) (by decide) (by decide) (show (0 : Int32) = (0 : Int32) by decide) ?_
    exact own_B3 Z a0 hw p0 p1 p2 p3 q w kk x dx sx y dy sy z dz sz (3 : Int32) rm (0 : Int32) ta tb tc (.unset)  h0 n0 h1 (own_mono X140 (by decide) (by decide)) hx hby hlk hml hown hret hZ e140 N140 Z1  f_O_q f_V_w ho ge_q ge_w f_O_x f_O_y f_O_z ge_x ge_y ge_z ne_x_y ne_x_z ne_y_z hrm (Or.inl rfl)
  · show own_End p e below _ (T140.setTop (mkF m 159 #[.val (.int p0), .val (.long p1), .second, .val (.long p2), .second, .val (.long p3), .second, .val (.int (3 : Int32)), .val (.int rm), .val (.int (1 : Int32)), .val (.ref q), .val (.ref ta), .val (.ref tb), .val (.ref tc), .val (.int (1 : Int32)), .val (.int (3 : Int32)), .unset] [(.int (1 : Int32))]))
    refine own_ifN X140 hx hby at_159 (pc' := 162) rfl (show ¬ (1 : Int32) = (0 : Int32) by decide) ?_
    rcases ha with rfl | rfl | rfl
    · show own_End p e below _ (T140.setTop (mkF m 162 #[.val (.int p0), .val (.long p1), .second, .val (.long p2), .second, .val (.long p3), .second, .val (.int (3 : Int32)), .val (.int rm), .val (.int (1 : Int32)), .val (.ref q), .val (.ref x), .val (.ref tb), .val (.ref tc), .val (.int (1 : Int32)), .val (.int (3 : Int32)), .unset] []))
      refine own_aload X140 hx hby at_162 (pc' := 164) rfl rfl rfl ?_
      refine own_aload X140 hx hby at_164 (pc' := 166) rfl rfl rfl ?_
      rcases Decidable.em (own_rb dy sy dz sz = (1 : Int32)) with hr141 | hr141
      · show own_End p e below _ (T140.setTop (mkF m 166 #[.val (.int p0), .val (.long p1), .second, .val (.long p2), .second, .val (.long p3), .second, .val (.int (3 : Int32)), .val (.int rm), .val (.int (1 : Int32)), .val (.ref q), .val (.ref x), .val (.ref tb), .val (.ref tc), .val (.int (1 : Int32)), .val (.int (3 : Int32)), .unset] [(.ref x), (.ref q)]))
        have ne_q_w : q ≠ w := Exa.neArv f_O_q.1 f_V_w (wd_1 hw)
        have ne_q_x : q ≠ x := Exa.ne f_O_q.1 f_O_x.1 (by decide)
        have ne_q_y : q ≠ y := Exa.ne f_O_q.1 f_O_y.1 (by decide)
        have ne_q_z : q ≠ z := Exa.ne f_O_q.1 f_O_z.1 (by decide)
        have ne_w_x : w ≠ x := Ne.symm (Exa.neArv f_O_x.1 f_V_w (wd_14 hw))
        have ne_w_y : w ≠ y := Ne.symm (Exa.neArv f_O_y.1 f_V_w (wd_14 hw))
        have ne_w_z : w ≠ z := Ne.symm (Exa.neArv f_O_z.1 f_V_w (wd_14 hw))
        refine own_lk11 hw X140 hx hZ hby (by rw [hml]; rfl) hown at_166 (pc' := 169) rfl e140 f_O_q.1 (W := 0) (Nat.le_of_eq rfl) (rmRV3b l Z a0 hw [] q w kk x dx sx y dy sy z dz sz h1 n0 Z1 f_O_q f_V_w ho f_O_x f_O_y f_O_z ge_q ge_w ge_x ge_y ge_z ne_x_y ne_x_z ne_y_z hr141) (by decide) (by decide) (by decide) (by decide) (fun v142 T142 L142 X142 hQ142 => ?_)
        obtain ⟨rfl, Nq142, K142, Oq142, V142, Ox142, Oy142, Oz142⟩ := hQ142
        have N142 := Fr.app N140 Nq142
        have Zn := Nat.le_trans Z1 K142.1
        show own_End p e below _ (T142.setTop (mkF m 169 _ [(.int (1 : Int32))]))
        refine own_istore X142 hx hby at_169 (pc' := 171) rfl (l' := #[.val (.int p0), .val (.long p1), .second, .val (.long p2), .second, .val (.long p3), .second, .val (.int (3 : Int32)), .val (.int rm), .val (.int (1 : Int32)), .val (.ref q), .val (.ref x), .val (.ref tb), .val (.ref tc), .val (.int (1 : Int32)), .val (.int (3 : Int32)), .val (.int (1 : Int32))]) rfl ?_
        refine own_iload X142 hx hby at_171 (pc' := 173) rfl rfl ?_
        refine own_ifN X142 hx hby at_173 (pc' := 176) rfl (show ¬ (1 : Int32) = (0 : Int32) by decide) ?_
        refine own_iload X142 hx hby at_176 (pc' := 178) rfl rfl ?_
        refine own_iload X142 hx hby at_178 (pc' := 180) rfl rfl ?_
        refine own_ifN X142 hx hby at_180 (pc' := 183) rfl (show (0 : Int32) < (3 : Int32) by decide) ?_
        refine own_iconst X142 hx hby at_183 (pc' := 184) rfl (n := (1 : Int32)) (by decide) ?_
        refine own_goto X142 hx hby at_184 (pc' := 188) (by decide) (by decide) ?_
        refine own_icN X142 hx hby at_188 (pc' := 191) rfl (show (1 : Int32) = (1 : Int32) by decide) ?_
        refine own_iconst X142 hx hby at_191 (pc' := 192) rfl (n := (1 : Int32)) (by decide) ?_
        refine own_goto X142 hx hby at_192 (pc' := 196) (by decide) (by decide) ?_
        refine own_istore X142 hx hby at_196 (pc' := 198) rfl (l' := #[.val (.int p0), .val (.long p1), .second, .val (.long p2), .second, .val (.long p3), .second, .val (.int (3 : Int32)), .val (.int rm), .val (.int (1 : Int32)), .val (.ref q), .val (.ref x), .val (.ref tb), .val (.ref tc), .val (.int (1 : Int32)), .val (.int (3 : Int32)), .val (.int (1 : Int32))]) rfl ?_
        refine own_iload X142 hx hby at_198 (pc' := 200) rfl rfl ?_
        refine own_ifN X142 hx hby at_200 (pc' := 203) rfl (show (0 : Int32) < (3 : Int32) by decide) ?_
        refine own_iload X142 hx hby at_203 (pc' := 205) rfl rfl ?_
        refine own_iconst X142 hx hby at_205 (pc' := 206) rfl (n := (1 : Int32)) (by decide) ?_
        refine own_isub X142 hx hby at_206 (pc' := 207) rfl ?_
        show own_End p e below _ (T142.setTop (mkF m 207 #[.val (.int p0), .val (.long p1), .second, .val (.long p2), .second, .val (.long p3), .second, .val (.int (3 : Int32)), .val (.int rm), .val (.int (1 : Int32)), .val (.ref q), .val (.ref x), .val (.ref tb), .val (.ref tc), .val (.int (1 : Int32)), .val (.int (3 : Int32)), .val (.int (1 : Int32))] [(.int (2 : Int32))]))
        refine own_istore X142 hx hby at_207 (pc' := 209) rfl (l' := #[.val (.int p0), .val (.long p1), .second, .val (.long p2), .second, .val (.long p3), .second, .val (.int (3 : Int32)), .val (.int rm), .val (.int (1 : Int32)), .val (.ref q), .val (.ref x), .val (.ref tb), .val (.ref tc), .val (.int (1 : Int32)), .val (.int (2 : Int32)), .val (.int (1 : Int32))]) rfl ?_
        exact own_B2 Z a0 hw p0 p1 p2 p3 q w kk y dy sy z dz sz (3 : Int32) rm (1 : Int32) x tb tc (.val (.int (1 : Int32)))  h0 n0 T142.heap (own_mono X142 (by decide) (by decide)) hx hby hlk hml hown hret hZ rfl N142 Zn  Oq142 V142 ho ge_q ge_w Oy142 Oz142 ge_y ge_z ne_y_z hrm (Or.inr ⟨_, rfl⟩)
      · show own_End p e below _ (T140.setTop (mkF m 166 #[.val (.int p0), .val (.long p1), .second, .val (.long p2), .second, .val (.long p3), .second, .val (.int (3 : Int32)), .val (.int rm), .val (.int (1 : Int32)), .val (.ref q), .val (.ref x), .val (.ref tb), .val (.ref tc), .val (.int (1 : Int32)), .val (.int (3 : Int32)), .unset] [(.ref x), (.ref q)]))
        have ne_q_w : q ≠ w := Exa.neArv f_O_q.1 f_V_w (wd_1 hw)
        have ne_q_x : q ≠ x := Exa.ne f_O_q.1 f_O_x.1 (by decide)
        have ne_q_z : q ≠ z := Exa.ne f_O_q.1 f_O_z.1 (by decide)
        have ne_w_x : w ≠ x := Ne.symm (Exa.neArv f_O_x.1 f_V_w (wd_14 hw))
        have ne_w_z : w ≠ z := Ne.symm (Exa.neArv f_O_z.1 f_V_w (wd_14 hw))
        have ne_y_q : y ≠ q := Exa.ne f_O_y.1 f_O_q.1 (by decide)
        have ne_y_w : y ≠ w := Exa.neArv f_O_y.1 f_V_w (wd_14 hw)
        refine own_lk11 hw X140 hx hZ hby (by rw [hml]; rfl) hown at_166 (pc' := 169) rfl e140 f_O_q.1 (W := 0) (Nat.le_of_eq rfl) (rmRV3a l Z a0 hw [] q w kk x dx sx y dy sy z dz sz h1 n0 Z1 f_O_q f_V_w ho f_O_x f_O_y f_O_z ge_q ge_w ge_x ge_z ne_x_y ne_x_z ne_y_z (own_rb0 hr141)) (by decide) (by decide) (by decide) (by decide) (fun v143 T143 L143 X143 hQ143 => ?_)
        obtain ⟨rfl, Nq143, K143, Oq143, V143, Ox143, Oz143⟩ := hQ143
        have N143 := Fr.app N140 Nq143
        have f_O_y := f_O_y.keep K143 (ninS ne_y_q (ninS ne_y_w (ninS (Ne.symm ne_x_y) (ninS ne_y_z nin0))))
        have Zn := Nat.le_trans Z1 K143.1
        show own_End p e below _ (T143.setTop (mkF m 169 _ [(.int (1 : Int32))]))
        refine own_istore X143 hx hby at_169 (pc' := 171) rfl (l' := #[.val (.int p0), .val (.long p1), .second, .val (.long p2), .second, .val (.long p3), .second, .val (.int (3 : Int32)), .val (.int rm), .val (.int (1 : Int32)), .val (.ref q), .val (.ref x), .val (.ref tb), .val (.ref tc), .val (.int (1 : Int32)), .val (.int (3 : Int32)), .val (.int (1 : Int32))]) rfl ?_
        refine own_iload X143 hx hby at_171 (pc' := 173) rfl rfl ?_
        refine own_ifN X143 hx hby at_173 (pc' := 176) rfl (show ¬ (1 : Int32) = (0 : Int32) by decide) ?_
        refine own_iload X143 hx hby at_176 (pc' := 178) rfl rfl ?_
        refine own_iload X143 hx hby at_178 (pc' := 180) rfl rfl ?_
        refine own_ifN X143 hx hby at_180 (pc' := 183) rfl (show (0 : Int32) < (3 : Int32) by decide) ?_
        refine own_iconst X143 hx hby at_183 (pc' := 184) rfl (n := (1 : Int32)) (by decide) ?_
        refine own_goto X143 hx hby at_184 (pc' := 188) (by decide) (by decide) ?_
        refine own_icN X143 hx hby at_188 (pc' := 191) rfl (show (1 : Int32) = (1 : Int32) by decide) ?_
        refine own_iconst X143 hx hby at_191 (pc' := 192) rfl (n := (1 : Int32)) (by decide) ?_
        refine own_goto X143 hx hby at_192 (pc' := 196) (by decide) (by decide) ?_
        refine own_istore X143 hx hby at_196 (pc' := 198) rfl (l' := #[.val (.int p0), .val (.long p1), .second, .val (.long p2), .second, .val (.long p3), .second, .val (.int (3 : Int32)), .val (.int rm), .val (.int (1 : Int32)), .val (.ref q), .val (.ref x), .val (.ref tb), .val (.ref tc), .val (.int (1 : Int32)), .val (.int (3 : Int32)), .val (.int (1 : Int32))]) rfl ?_
        refine own_iload X143 hx hby at_198 (pc' := 200) rfl rfl ?_
        refine own_ifN X143 hx hby at_200 (pc' := 203) rfl (show (0 : Int32) < (3 : Int32) by decide) ?_
        refine own_iload X143 hx hby at_203 (pc' := 205) rfl rfl ?_
        refine own_iconst X143 hx hby at_205 (pc' := 206) rfl (n := (1 : Int32)) (by decide) ?_
        refine own_isub X143 hx hby at_206 (pc' := 207) rfl ?_
        show own_End p e below _ (T143.setTop (mkF m 207 #[.val (.int p0), .val (.long p1), .second, .val (.long p2), .second, .val (.long p3), .second, .val (.int (3 : Int32)), .val (.int rm), .val (.int (1 : Int32)), .val (.ref q), .val (.ref x), .val (.ref tb), .val (.ref tc), .val (.int (1 : Int32)), .val (.int (3 : Int32)), .val (.int (1 : Int32))] [(.int (2 : Int32))]))
        refine own_istore X143 hx hby at_207 (pc' := 209) rfl (l' := #[.val (.int p0), .val (.long p1), .second, .val (.long p2), .second, .val (.long p3), .second, .val (.int (3 : Int32)), .val (.int rm), .val (.int (1 : Int32)), .val (.ref q), .val (.ref x), .val (.ref tb), .val (.ref tc), .val (.int (1 : Int32)), .val (.int (2 : Int32)), .val (.int (1 : Int32))]) rfl ?_
        exact own_B2 Z a0 hw p0 p1 p2 p3 q w kk z dz sz y dy sy (3 : Int32) rm (1 : Int32) x tb tc (.val (.int (1 : Int32)))  h0 n0 T143.heap (own_mono X143 (by decide) (by decide)) hx hby hlk hml hown hret hZ rfl N143 Zn  Oq143 V143 ho ge_q ge_w Oz143 f_O_y ge_z ge_y (Ne.symm ne_y_z) hrm (Or.inr ⟨_, rfl⟩)
    · show own_End p e below _ (T140.setTop (mkF m 162 #[.val (.int p0), .val (.long p1), .second, .val (.long p2), .second, .val (.long p3), .second, .val (.int (3 : Int32)), .val (.int rm), .val (.int (1 : Int32)), .val (.ref q), .val (.ref y), .val (.ref tb), .val (.ref tc), .val (.int (1 : Int32)), .val (.int (3 : Int32)), .unset] []))
      refine own_aload X140 hx hby at_162 (pc' := 164) rfl rfl rfl ?_
      refine own_aload X140 hx hby at_164 (pc' := 166) rfl rfl rfl ?_
      rcases Decidable.em (own_rb dz sz dx sx = (1 : Int32)) with hr144 | hr144
      · show own_End p e below _ (T140.setTop (mkF m 166 #[.val (.int p0), .val (.long p1), .second, .val (.long p2), .second, .val (.long p3), .second, .val (.int (3 : Int32)), .val (.int rm), .val (.int (1 : Int32)), .val (.ref q), .val (.ref y), .val (.ref tb), .val (.ref tc), .val (.int (1 : Int32)), .val (.int (3 : Int32)), .unset] [(.ref y), (.ref q)]))
        have ne_q_w : q ≠ w := Exa.neArv f_O_q.1 f_V_w (wd_1 hw)
        have ne_q_x : q ≠ x := Exa.ne f_O_q.1 f_O_x.1 (by decide)
        have ne_q_y : q ≠ y := Exa.ne f_O_q.1 f_O_y.1 (by decide)
        have ne_q_z : q ≠ z := Exa.ne f_O_q.1 f_O_z.1 (by decide)
        have ne_w_x : w ≠ x := Ne.symm (Exa.neArv f_O_x.1 f_V_w (wd_14 hw))
        have ne_w_y : w ≠ y := Ne.symm (Exa.neArv f_O_y.1 f_V_w (wd_14 hw))
        have ne_w_z : w ≠ z := Ne.symm (Exa.neArv f_O_z.1 f_V_w (wd_14 hw))
        refine own_lk11 hw X140 hx hZ hby (by rw [hml]; rfl) hown at_166 (pc' := 169) rfl e140 f_O_q.1 (W := 0) (Nat.le_of_eq rfl) (rmRV3d l Z a0 hw [] q w kk x dx sx y dy sy z dz sz h1 n0 Z1 f_O_q f_V_w ho f_O_x f_O_y f_O_z ge_q ge_w ge_x ge_y ge_z ne_x_y ne_x_z ne_y_z hr144) (by decide) (by decide) (by decide) (by decide) (fun v145 T145 L145 X145 hQ145 => ?_)
        obtain ⟨rfl, Nq145, K145, Oq145, V145, Ox145, Oy145, Oz145⟩ := hQ145
        have N145 := Fr.app N140 Nq145
        have Zn := Nat.le_trans Z1 K145.1
        show own_End p e below _ (T145.setTop (mkF m 169 _ [(.int (1 : Int32))]))
        refine own_istore X145 hx hby at_169 (pc' := 171) rfl (l' := #[.val (.int p0), .val (.long p1), .second, .val (.long p2), .second, .val (.long p3), .second, .val (.int (3 : Int32)), .val (.int rm), .val (.int (1 : Int32)), .val (.ref q), .val (.ref y), .val (.ref tb), .val (.ref tc), .val (.int (1 : Int32)), .val (.int (3 : Int32)), .val (.int (1 : Int32))]) rfl ?_
        refine own_iload X145 hx hby at_171 (pc' := 173) rfl rfl ?_
        refine own_ifN X145 hx hby at_173 (pc' := 176) rfl (show ¬ (1 : Int32) = (0 : Int32) by decide) ?_
        refine own_iload X145 hx hby at_176 (pc' := 178) rfl rfl ?_
        refine own_iload X145 hx hby at_178 (pc' := 180) rfl rfl ?_
        refine own_ifN X145 hx hby at_180 (pc' := 183) rfl (show (0 : Int32) < (3 : Int32) by decide) ?_
        refine own_iconst X145 hx hby at_183 (pc' := 184) rfl (n := (1 : Int32)) (by decide) ?_
        refine own_goto X145 hx hby at_184 (pc' := 188) (by decide) (by decide) ?_
        refine own_icN X145 hx hby at_188 (pc' := 191) rfl (show (1 : Int32) = (1 : Int32) by decide) ?_
        refine own_iconst X145 hx hby at_191 (pc' := 192) rfl (n := (1 : Int32)) (by decide) ?_
        refine own_goto X145 hx hby at_192 (pc' := 196) (by decide) (by decide) ?_
        refine own_istore X145 hx hby at_196 (pc' := 198) rfl (l' := #[.val (.int p0), .val (.long p1), .second, .val (.long p2), .second, .val (.long p3), .second, .val (.int (3 : Int32)), .val (.int rm), .val (.int (1 : Int32)), .val (.ref q), .val (.ref y), .val (.ref tb), .val (.ref tc), .val (.int (1 : Int32)), .val (.int (3 : Int32)), .val (.int (1 : Int32))]) rfl ?_
        refine own_iload X145 hx hby at_198 (pc' := 200) rfl rfl ?_
        refine own_ifN X145 hx hby at_200 (pc' := 203) rfl (show (0 : Int32) < (3 : Int32) by decide) ?_
        refine own_iload X145 hx hby at_203 (pc' := 205) rfl rfl ?_
        refine own_iconst X145 hx hby at_205 (pc' := 206) rfl (n := (1 : Int32)) (by decide) ?_
        refine own_isub X145 hx hby at_206 (pc' := 207) rfl ?_
        show own_End p e below _ (T145.setTop (mkF m 207 #[.val (.int p0), .val (.long p1), .second, .val (.long p2), .second, .val (.long p3), .second, .val (.int (3 : Int32)), .val (.int rm), .val (.int (1 : Int32)), .val (.ref q), .val (.ref y), .val (.ref tb), .val (.ref tc), .val (.int (1 : Int32)), .val (.int (3 : Int32)), .val (.int (1 : Int32))] [(.int (2 : Int32))]))
        refine own_istore X145 hx hby at_207 (pc' := 209) rfl (l' := #[.val (.int p0), .val (.long p1), .second, .val (.long p2), .second, .val (.long p3), .second, .val (.int (3 : Int32)), .val (.int rm), .val (.int (1 : Int32)), .val (.ref q), .val (.ref y), .val (.ref tb), .val (.ref tc), .val (.int (1 : Int32)), .val (.int (2 : Int32)), .val (.int (1 : Int32))]) rfl ?_
        exact own_B2 Z a0 hw p0 p1 p2 p3 q w kk z dz sz x dx sx (3 : Int32) rm (1 : Int32) y tb tc (.val (.int (1 : Int32)))  h0 n0 T145.heap (own_mono X145 (by decide) (by decide)) hx hby hlk hml hown hret hZ rfl N145 Zn  Oq145 V145 ho ge_q ge_w Oz145 Ox145 ge_z ge_x (Ne.symm ne_x_z) hrm (Or.inr ⟨_, rfl⟩)
      · show own_End p e below _ (T140.setTop (mkF m 166 #[.val (.int p0), .val (.long p1), .second, .val (.long p2), .second, .val (.long p3), .second, .val (.int (3 : Int32)), .val (.int rm), .val (.int (1 : Int32)), .val (.ref q), .val (.ref y), .val (.ref tb), .val (.ref tc), .val (.int (1 : Int32)), .val (.int (3 : Int32)), .unset] [(.ref y), (.ref q)]))
        have ne_q_w : q ≠ w := Exa.neArv f_O_q.1 f_V_w (wd_1 hw)
        have ne_q_y : q ≠ y := Exa.ne f_O_q.1 f_O_y.1 (by decide)
        have ne_q_z : q ≠ z := Exa.ne f_O_q.1 f_O_z.1 (by decide)
        have ne_w_y : w ≠ y := Ne.symm (Exa.neArv f_O_y.1 f_V_w (wd_14 hw))
        have ne_w_z : w ≠ z := Ne.symm (Exa.neArv f_O_z.1 f_V_w (wd_14 hw))
        have ne_x_q : x ≠ q := Exa.ne f_O_x.1 f_O_q.1 (by decide)
        have ne_x_w : x ≠ w := Exa.neArv f_O_x.1 f_V_w (wd_14 hw)
        refine own_lk11 hw X140 hx hZ hby (by rw [hml]; rfl) hown at_166 (pc' := 169) rfl e140 f_O_q.1 (W := 0) (Nat.le_of_eq rfl) (rmRV3c l Z a0 hw [] q w kk x dx sx y dy sy z dz sz h1 n0 Z1 f_O_q f_V_w ho f_O_x f_O_y f_O_z ge_q ge_w ge_y ge_z ne_x_y ne_x_z ne_y_z (own_rb0 hr144)) (by decide) (by decide) (by decide) (by decide) (fun v146 T146 L146 X146 hQ146 => ?_)
        obtain ⟨rfl, Nq146, K146, Oq146, V146, Oy146, Oz146⟩ := hQ146
        have N146 := Fr.app N140 Nq146
        have f_O_x := f_O_x.keep K146 (ninS ne_x_q (ninS ne_x_w (ninS ne_x_y (ninS ne_x_z nin0))))
        have Zn := Nat.le_trans Z1 K146.1
        show own_End p e below _ (T146.setTop (mkF m 169 _ [(.int (1 : Int32))]))
        refine own_istore X146 hx hby at_169 (pc' := 171) rfl (l' := #[.val (.int p0), .val (.long p1), .second, .val (.long p2), .second, .val (.long p3), .second, .val (.int (3 : Int32)), .val (.int rm), .val (.int (1 : Int32)), .val (.ref q), .val (.ref y), .val (.ref tb), .val (.ref tc), .val (.int (1 : Int32)), .val (.int (3 : Int32)), .val (.int (1 : Int32))]) rfl ?_
        refine own_iload X146 hx hby at_171 (pc' := 173) rfl rfl ?_
        refine own_ifN X146 hx hby at_173 (pc' := 176) rfl (show ¬ (1 : Int32) = (0 : Int32) by decide) ?_
        refine own_iload X146 hx hby at_176 (pc' := 178) rfl rfl ?_
        refine own_iload X146 hx hby at_178 (pc' := 180) rfl rfl ?_
        refine own_ifN X146 hx hby at_180 (pc' := 183) rfl (show (0 : Int32) < (3 : Int32) by decide) ?_
        refine own_iconst X146 hx hby at_183 (pc' := 184) rfl (n := (1 : Int32)) (by decide) ?_
        refine own_goto X146 hx hby at_184 (pc' := 188) (by decide) (by decide) ?_
        refine own_icN X146 hx hby at_188 (pc' := 191) rfl (show (1 : Int32) = (1 : Int32) by decide) ?_
        refine own_iconst X146 hx hby at_191 (pc' := 192) rfl (n := (1 : Int32)) (by decide) ?_
        refine own_goto X146 hx hby at_192 (pc' := 196) (by decide) (by decide) ?_
        refine own_istore X146 hx hby at_196 (pc' := 198) rfl (l' := #[.val (.int p0), .val (.long p1), .second, .val (.long p2), .second, .val (.long p3), .second, .val (.int (3 : Int32)), .val (.int rm), .val (.int (1 : Int32)), .val (.ref q), .val (.ref y), .val (.ref tb), .val (.ref tc), .val (.int (1 : Int32)), .val (.int (3 : Int32)), .val (.int (1 : Int32))]) rfl ?_
        refine own_iload X146 hx hby at_198 (pc' := 200) rfl rfl ?_
        refine own_ifN X146 hx hby at_200 (pc' := 203) rfl (show (0 : Int32) < (3 : Int32) by decide) ?_
        refine own_iload X146 hx hby at_203 (pc' := 205) rfl rfl ?_
        refine own_iconst X146 hx hby at_205 (pc' := 206) rfl (n := (1 : Int32)) (by decide) ?_
        refine own_isub X146 hx hby at_206 (pc' := 207) rfl ?_
        show own_End p e below _ (T146.setTop (mkF m 207 #[.val (.int p0), .val (.long p1), .second, .val (.long p2), .second, .val (.long p3), .second, .val (.int (3 : Int32)), .val (.int rm), .val (.int (1 : Int32)), .val (.ref q), .val (.ref y), .val (.ref tb), .val (.ref tc), .val (.int (1 : Int32)), .val (.int (3 : Int32)), .val (.int (1 : Int32))] [(.int (2 : Int32))]))
        refine own_istore X146 hx hby at_207 (pc' := 209) rfl (l' := #[.val (.int p0), .val (.long p1), .second, .val (.long p2), .second, .val (.long p3), .second, .val (.int (3 : Int32)), .val (.int rm), .val (.int (1 : Int32)), .val (.ref q), .val (.ref y), .val (.ref tb), .val (.ref tc), .val (.int (1 : Int32)), .val (.int (2 : Int32)), .val (.int (1 : Int32))]) rfl ?_
        exact own_B2 Z a0 hw p0 p1 p2 p3 q w kk x dx sx z dz sz (3 : Int32) rm (1 : Int32) y tb tc (.val (.int (1 : Int32)))  h0 n0 T146.heap (own_mono X146 (by decide) (by decide)) hx hby hlk hml hown hret hZ rfl N146 Zn  Oq146 V146 ho ge_q ge_w f_O_x Oz146 ge_x ge_z ne_x_z hrm (Or.inr ⟨_, rfl⟩)
    · show own_End p e below _ (T140.setTop (mkF m 162 #[.val (.int p0), .val (.long p1), .second, .val (.long p2), .second, .val (.long p3), .second, .val (.int (3 : Int32)), .val (.int rm), .val (.int (1 : Int32)), .val (.ref q), .val (.ref z), .val (.ref tb), .val (.ref tc), .val (.int (1 : Int32)), .val (.int (3 : Int32)), .unset] []))
      refine own_aload X140 hx hby at_162 (pc' := 164) rfl rfl rfl ?_
      refine own_aload X140 hx hby at_164 (pc' := 166) rfl rfl rfl ?_
      have ne_q_w : q ≠ w := Exa.neArv f_O_q.1 f_V_w (wd_1 hw)
      have ne_q_z : q ≠ z := Exa.ne f_O_q.1 f_O_z.1 (by decide)
      have ne_w_z : w ≠ z := Ne.symm (Exa.neArv f_O_z.1 f_V_w (wd_14 hw))
      have ne_x_q : x ≠ q := Exa.ne f_O_x.1 f_O_q.1 (by decide)
      have ne_x_w : x ≠ w := Exa.neArv f_O_x.1 f_V_w (wd_14 hw)
      have ne_y_q : y ≠ q := Exa.ne f_O_y.1 f_O_q.1 (by decide)
      have ne_y_w : y ≠ w := Exa.neArv f_O_y.1 f_V_w (wd_14 hw)
      refine own_lk11 hw X140 hx hZ hby (by rw [hml]; rfl) hown at_166 (pc' := 169) rfl e140 f_O_q.1 (W := 0) (Nat.le_of_eq rfl) (rmRV3i l Z a0 hw [] q w kk x dx sx y dy sy z dz sz h1 n0 Z1 f_O_q f_V_w ho f_O_x f_O_y f_O_z ge_q ge_w ge_z ne_x_y ne_x_z ne_y_z) (by decide) (by decide) (by decide) (by decide) (fun v147 T147 L147 X147 hQ147 => ?_)
      obtain ⟨rfl, Nq147, K147, Oq147, V147, Oz147⟩ := hQ147
      have N147 := Fr.app N140 Nq147
      have f_O_x := f_O_x.keep K147 (ninS ne_x_q (ninS ne_x_w (ninS ne_x_z nin0)))
      have f_O_y := f_O_y.keep K147 (ninS ne_y_q (ninS ne_y_w (ninS ne_y_z nin0)))
      have Zn := Nat.le_trans Z1 K147.1
      show own_End p e below _ (T147.setTop (mkF m 169 _ [(.int (1 : Int32))]))
      refine own_istore X147 hx hby at_169 (pc' := 171) rfl (l' := #[.val (.int p0), .val (.long p1), .second, .val (.long p2), .second, .val (.long p3), .second, .val (.int (3 : Int32)), .val (.int rm), .val (.int (1 : Int32)), .val (.ref q), .val (.ref z), .val (.ref tb), .val (.ref tc), .val (.int (1 : Int32)), .val (.int (3 : Int32)), .val (.int (1 : Int32))]) rfl ?_
      refine own_iload X147 hx hby at_171 (pc' := 173) rfl rfl ?_
      refine own_ifN X147 hx hby at_173 (pc' := 176) rfl (show ¬ (1 : Int32) = (0 : Int32) by decide) ?_
      refine own_iload X147 hx hby at_176 (pc' := 178) rfl rfl ?_
      refine own_iload X147 hx hby at_178 (pc' := 180) rfl rfl ?_
      refine own_ifN X147 hx hby at_180 (pc' := 183) rfl (show (0 : Int32) < (3 : Int32) by decide) ?_
      refine own_iconst X147 hx hby at_183 (pc' := 184) rfl (n := (1 : Int32)) (by decide) ?_
      refine own_goto X147 hx hby at_184 (pc' := 188) (by decide) (by decide) ?_
      refine own_icN X147 hx hby at_188 (pc' := 191) rfl (show (1 : Int32) = (1 : Int32) by decide) ?_
      refine own_iconst X147 hx hby at_191 (pc' := 192) rfl (n := (1 : Int32)) (by decide) ?_
      refine own_goto X147 hx hby at_192 (pc' := 196) (by decide) (by decide) ?_
      refine own_istore X147 hx hby at_196 (pc' := 198) rfl (l' := #[.val (.int p0), .val (.long p1), .second, .val (.long p2), .second, .val (.long p3), .second, .val (.int (3 : Int32)), .val (.int rm), .val (.int (1 : Int32)), .val (.ref q), .val (.ref z), .val (.ref tb), .val (.ref tc), .val (.int (1 : Int32)), .val (.int (3 : Int32)), .val (.int (1 : Int32))]) rfl ?_
      refine own_iload X147 hx hby at_198 (pc' := 200) rfl rfl ?_
      refine own_ifN X147 hx hby at_200 (pc' := 203) rfl (show (0 : Int32) < (3 : Int32) by decide) ?_
      refine own_iload X147 hx hby at_203 (pc' := 205) rfl rfl ?_
      refine own_iconst X147 hx hby at_205 (pc' := 206) rfl (n := (1 : Int32)) (by decide) ?_
      refine own_isub X147 hx hby at_206 (pc' := 207) rfl ?_
      show own_End p e below _ (T147.setTop (mkF m 207 #[.val (.int p0), .val (.long p1), .second, .val (.long p2), .second, .val (.long p3), .second, .val (.int (3 : Int32)), .val (.int rm), .val (.int (1 : Int32)), .val (.ref q), .val (.ref z), .val (.ref tb), .val (.ref tc), .val (.int (1 : Int32)), .val (.int (3 : Int32)), .val (.int (1 : Int32))] [(.int (2 : Int32))]))
      refine own_istore X147 hx hby at_207 (pc' := 209) rfl (l' := #[.val (.int p0), .val (.long p1), .second, .val (.long p2), .second, .val (.long p3), .second, .val (.int (3 : Int32)), .val (.int rm), .val (.int (1 : Int32)), .val (.ref q), .val (.ref z), .val (.ref tb), .val (.ref tc), .val (.int (1 : Int32)), .val (.int (2 : Int32)), .val (.int (1 : Int32))]) rfl ?_
      exact own_B2 Z a0 hw p0 p1 p2 p3 q w kk x dx sx y dy sy (3 : Int32) rm (1 : Int32) z tb tc (.val (.int (1 : Int32)))  h0 n0 T147.heap (own_mono X147 (by decide) (by decide)) hx hby hlk hml hown hret hZ rfl N147 Zn  Oq147 V147 ho ge_q ge_w f_O_x f_O_y ge_x ge_y ne_x_y hrm (Or.inr ⟨_, rfl⟩)
set_option maxRecDepth 65536 in
set_option maxHeartbeats 40000000 in
theorem own_s85 {p : Program} {l : Launch} {e : Env} {s : State} {m : MethodId} {below : List Frame} {meth : Method} {c : Code} {T0 : State} {locs : List Loc} (Z : State) (a0 : Array Value) (hw : ∀ d ∈ tables_1, d.before a0 Z = true) (p0 : Int32) (p1 : Int64) (p2 : Int64) (p3 : Int64) (q : Addr) (w : Addr) (kk : ClassId) (x : Addr) (dx : Int64) (sx : Int64) (y : Addr) (dy : Int64) (sy : Int64) (z : Addr) (dz : Int64) (sz : Int64) (n : Int32) (rm : Int32) (rf : Int32) (h0 : Heap) (n0 : Nat) (h1 : Heap)
    (X0 : Stand p l e room_1 s m #[(.int p0), (.long p1), (.long p2), (.long p3)] below meth c T0 locs 5 33) (hx : p.tables.exec = Jvm.exec) (hby : c.code = code) (hlk : meth.locks = false) (hml : c.maxLocals = 17) (hown : s.vm.findClass "com/example/earnest_reactor/earnestreactor/core/TimerQueueIsEmptyPinLaw" = some m.cls) (hret : meth.sig.returnType = some .boolean) (hZ : Z.Warmed39 s.vm) (e1 : T0.heap = h1) (N0 : Fr n0 locs) (Z1 : n0 ≤ h1.size) (f_O_q : own_TQ Z h1 q (.ref w) (0 : Int32)) (f_V_w : Arv Z h1 w kk (.object "com/example/earnest_reactor/earnestreactor/core/ScheduledTask") (16 : Int32) [.null, .null, .null] .null) (ho : Ovr Z kk "com/example/earnest_reactor/earnestreactor/core/ScheduledTask") (ge_q : n0 ≤ q) (ge_w : n0 ≤ w) (f_O_x : own_TK Z h1 x .null dx sx .null (-1 : Int32)) (f_O_y : own_TK Z h1 y .null dy sy .null (-1 : Int32)) (f_O_z : own_TK Z h1 z .null dz sz .null (-1 : Int32)) (ge_x : n0 ≤ x) (ge_y : n0 ≤ y) (ge_z : n0 ≤ z) (ne_x_y : x ≠ y) (ne_x_z : x ≠ z) (ne_y_z : y ≠ z) (hrm : rm = (0 : Int32) ∨ rm = (1 : Int32) ∨ rm = (2 : Int32) ∨ rm = (3 : Int32)) (hrf : rf = (0 : Int32) ∨ rf = (1 : Int32)) (hn : n = (0 : Int32) ∨ n = (1 : Int32) ∨ n = (2 : Int32) ∨ n = (3 : Int32)) :
    own_End p e below (own_F s (Q0 Z p0 p1 p2 p3 h0 n0) room_1.cells room_1.slots) (T0.setTop (mkF m 85 #[.val (.int p0), .val (.long p1), .second, .val (.long p2), .second, .val (.long p3), .second, .val (.int n), .val (.int rm), .val (.int rf), .val (.ref q), .val (.ref x), .val (.ref y), .val (.ref z), .val (.int (1 : Int32)), .unset, .unset] [])) := by
  refine own_iload X0 hx hby at_85 (pc' := 87) rfl rfl ?_
  rcases hn with rfl | rfl | rfl | rfl
  · show own_End p e below _ (T0.setTop (mkF m 87 #[.val (.int p0), .val (.long p1), .second, .val (.long p2), .second, .val (.long p3), .second, .val (.int (0 : Int32)), .val (.int rm), .val (.int rf), .val (.ref q), .val (.ref x), .val (.ref y), .val (.ref z), .val (.int (1 : Int32)), .unset, .unset] [(.int (0 : Int32))]))
    refine own_ifY X0 hx hby at_87 (pc' := 97) (by decide) (by decide) (show ¬ (0 : Int32) < (0 : Int32) by decide) ?_
    refine own_iload X0 hx hby at_97 (pc' := 99) rfl rfl ?_
    refine own_iconst X0 hx hby at_99 (pc' := 100) rfl (n := (1 : Int32)) (by decide) ?_
    refine own_icY X0 hx hby at_100 (pc' := 110) (by decide) (by decide) (show ¬ (1 : Int32) < (0 : Int32) by decide) ?_
    refine own_iload X0 hx hby at_110 (pc' := 112) rfl rfl ?_
    refine own_iconst X0 hx hby at_112 (pc' := 113) rfl (n := (2 : Int32)) (by decide) ?_
    refine own_icY X0 hx hby at_113 (pc' := 123) (by decide) (by decide) (show ¬ (2 : Int32) < (0 : Int32) by decide) ?_
    exact own_A0 Z a0 hw p0 p1 p2 p3 q w kk x dx sx rm rf y z  h0 n0 h1 (own_mono X0 (by decide) (by decide)) hx hby hlk hml hown hret hZ e1 N0 Z1  f_O_q f_V_w ho ge_q ge_w f_O_x hrm hrf
  · show own_End p e below _ (T0.setTop (mkF m 87 #[.val (.int p0), .val (.long p1), .second, .val (.long p2), .second, .val (.long p3), .second, .val (.int (1 : Int32)), .val (.int rm), .val (.int rf), .val (.ref q), .val (.ref x), .val (.ref y), .val (.ref z), .val (.int (1 : Int32)), .unset, .unset] [(.int (1 : Int32))]))
    refine own_ifN X0 hx hby at_87 (pc' := 90) rfl (show (0 : Int32) < (1 : Int32) by decide) ?_
    refine own_aload X0 hx hby at_90 (pc' := 92) rfl rfl rfl ?_
    refine own_aload X0 hx hby at_92 (pc' := 94) rfl rfl rfl ?_
    have ne_q_w : q ≠ w := Exa.neArv f_O_q.1 f_V_w (wd_1 hw)
    have ne_q_x : q ≠ x := Exa.ne f_O_q.1 f_O_x.1 (by decide)
    have ne_w_x : w ≠ x := Ne.symm (Exa.neArv f_O_x.1 f_V_w (wd_14 hw))
    have ne_y_q : y ≠ q := Exa.ne f_O_y.1 f_O_q.1 (by decide)
    have ne_y_w : y ≠ w := Exa.neArv f_O_y.1 f_V_w (wd_14 hw)
    have ne_z_q : z ≠ q := Exa.ne f_O_z.1 f_O_q.1 (by decide)
    have ne_z_w : z ≠ w := Exa.neArv f_O_z.1 f_V_w (wd_14 hw)
    refine own_lk12 hw X0 hx hZ hby (by rw [hml]; rfl) hown at_94 (pc' := 97) rfl e1 f_O_q.1 (W := 0) (Nat.le_of_eq rfl) (rmA0 l Z a0 hw [] q w kk x dx sx h1 n0 Z1 f_O_q f_V_w ho f_O_x ge_q ge_w ge_x) (by decide) (by decide) (by decide) (by decide) (fun v148 T148 L148 X148 hQ148 => ?_)
    obtain ⟨rfl, Nq148, K148, Oq148, V148, Ot148⟩ := hQ148
    have N148 := Fr.app N0 Nq148
    have f_O_y := f_O_y.keep K148 (ninS ne_y_q (ninS ne_y_w (ninS (Ne.symm ne_x_y) nin0)))
    have f_O_z := f_O_z.keep K148 (ninS ne_z_q (ninS ne_z_w (ninS (Ne.symm ne_x_z) nin0)))
    have Zn := Nat.le_trans Z1 K148.1
    show own_End p e below _ (T148.setTop (mkF m 97 _ []))
    refine own_iload X148 hx hby at_97 (pc' := 99) rfl rfl ?_
    refine own_iconst X148 hx hby at_99 (pc' := 100) rfl (n := (1 : Int32)) (by decide) ?_
    refine own_icY X148 hx hby at_100 (pc' := 110) (by decide) (by decide) (show ¬ (1 : Int32) < (1 : Int32) by decide) ?_
    refine own_iload X148 hx hby at_110 (pc' := 112) rfl rfl ?_
    refine own_iconst X148 hx hby at_112 (pc' := 113) rfl (n := (2 : Int32)) (by decide) ?_
    refine own_icY X148 hx hby at_113 (pc' := 123) (by decide) (by decide) (show ¬ (2 : Int32) < (1 : Int32) by decide) ?_
    exact own_A1 Z a0 hw p0 p1 p2 p3 q w kk x dx sx x rm rf y z  h0 n0 T148.heap (own_mono X148 (by decide) (by decide)) hx hby hlk hml hown hret hZ rfl N148 Zn  Oq148 V148 ho ge_q ge_w Ot148 ge_x rfl hrm hrf
  · show own_End p e below _ (T0.setTop (mkF m 87 #[.val (.int p0), .val (.long p1), .second, .val (.long p2), .second, .val (.long p3), .second, .val (.int (2 : Int32)), .val (.int rm), .val (.int rf), .val (.ref q), .val (.ref x), .val (.ref y), .val (.ref z), .val (.int (1 : Int32)), .unset, .unset] [(.int (2 : Int32))]))
    refine own_ifN X0 hx hby at_87 (pc' := 90) rfl (show (0 : Int32) < (2 : Int32) by decide) ?_
    refine own_aload X0 hx hby at_90 (pc' := 92) rfl rfl rfl ?_
    refine own_aload X0 hx hby at_92 (pc' := 94) rfl rfl rfl ?_
    have ne_q_w : q ≠ w := Exa.neArv f_O_q.1 f_V_w (wd_1 hw)
    have ne_q_x : q ≠ x := Exa.ne f_O_q.1 f_O_x.1 (by decide)
    have ne_w_x : w ≠ x := Ne.symm (Exa.neArv f_O_x.1 f_V_w (wd_14 hw))
    have ne_y_q : y ≠ q := Exa.ne f_O_y.1 f_O_q.1 (by decide)
    have ne_y_w : y ≠ w := Exa.neArv f_O_y.1 f_V_w (wd_14 hw)
    have ne_z_q : z ≠ q := Exa.ne f_O_z.1 f_O_q.1 (by decide)
    have ne_z_w : z ≠ w := Exa.neArv f_O_z.1 f_V_w (wd_14 hw)
    refine own_lk12 hw X0 hx hZ hby (by rw [hml]; rfl) hown at_94 (pc' := 97) rfl e1 f_O_q.1 (W := 0) (Nat.le_of_eq rfl) (rmA0 l Z a0 hw [] q w kk x dx sx h1 n0 Z1 f_O_q f_V_w ho f_O_x ge_q ge_w ge_x) (by decide) (by decide) (by decide) (by decide) (fun v149 T149 L149 X149 hQ149 => ?_)
    obtain ⟨rfl, Nq149, K149, Oq149, V149, Ot149⟩ := hQ149
    have N149 := Fr.app N0 Nq149
    have f_O_y := f_O_y.keep K149 (ninS ne_y_q (ninS ne_y_w (ninS (Ne.symm ne_x_y) nin0)))
    have f_O_z := f_O_z.keep K149 (ninS ne_z_q (ninS ne_z_w (ninS (Ne.symm ne_x_z) nin0)))
    have Zn := Nat.le_trans Z1 K149.1
    show own_End p e below _ (T149.setTop (mkF m 97 _ []))
    refine own_iload X149 hx hby at_97 (pc' := 99) rfl rfl ?_
    refine own_iconst X149 hx hby at_99 (pc' := 100) rfl (n := (1 : Int32)) (by decide) ?_
    refine own_icN X149 hx hby at_100 (pc' := 103) rfl (show (1 : Int32) < (2 : Int32) by decide) ?_
    refine own_aload X149 hx hby at_103 (pc' := 105) rfl rfl rfl ?_
    refine own_aload X149 hx hby at_105 (pc' := 107) rfl rfl rfl ?_
    rcases Decidable.em (own_rb dy sy dx sx = (1 : Int32)) with hr150 | hr150
    · show own_End p e below _ (T149.setTop (mkF m 107 #[.val (.int p0), .val (.long p1), .second, .val (.long p2), .second, .val (.long p3), .second, .val (.int (2 : Int32)), .val (.int rm), .val (.int rf), .val (.ref q), .val (.ref x), .val (.ref y), .val (.ref z), .val (.int (1 : Int32)), .unset, .unset] [(.ref y), (.ref q)]))
      refine own_lk12 hw X149 hx hZ hby (by rw [hml]; rfl) hown at_107 (pc' := 110) rfl rfl Oq149.1 (W := 0) (Nat.le_of_eq rfl) (rmA1b l Z a0 hw [] q w kk x dx sx y dy sy T149.heap n0 Zn Oq149 V149 ho Ot149 f_O_y ge_q ge_w ge_x ge_y ne_x_y hr150) (by decide) (by decide) (by decide) (by decide) (fun v151 T151 L151 X151 hQ151 => ?_)
      obtain ⟨rfl, Nq151, K151, Oq151, V151, Ox151, Ot151⟩ := hQ151
      have N151 := Fr.app N149 Nq151
      have f_O_z := f_O_z.keep K151 (ninS ne_z_q (ninS ne_z_w (ninS (Ne.symm ne_x_z) (ninS (Ne.symm ne_y_z) nin0))))
      have Zn := Nat.le_trans Zn K151.1
      show own_End p e below _ (T151.setTop (mkF m 110 _ []))
      refine own_iload X151 hx hby at_110 (pc' := 112) rfl rfl ?_
      refine own_iconst X151 hx hby at_112 (pc' := 113) rfl (n := (2 : Int32)) (by decide) ?_
      refine own_icY X151 hx hby at_113 (pc' := 123) (by decide) (by decide) (show ¬ (2 : Int32) < (2 : Int32) by decide) ?_
      exact own_A2 Z a0 hw p0 p1 p2 p3 q w kk y dy sy x dx sx x rm rf y z  h0 n0 T151.heap (own_mono X151 (by decide) (by decide)) hx hby hlk hml hown hret hZ rfl N151 Zn  Oq151 V151 ho ge_q ge_w Ot151 Ox151 ge_y ge_x (Ne.symm ne_x_y) (Or.inr rfl) hrm hrf
    · show own_End p e below _ (T149.setTop (mkF m 107 #[.val (.int p0), .val (.long p1), .second, .val (.long p2), .second, .val (.long p3), .second, .val (.int (2 : Int32)), .val (.int rm), .val (.int rf), .val (.ref q), .val (.ref x), .val (.ref y), .val (.ref z), .val (.int (1 : Int32)), .unset, .unset] [(.ref y), (.ref q)]))
      refine own_lk12 hw X149 hx hZ hby (by rw [hml]; rfl) hown at_107 (pc' := 110) rfl rfl Oq149.1 (W := 0) (Nat.le_of_eq rfl) (rmA1a l Z a0 hw [] q w kk x dx sx y dy sy T149.heap n0 Zn Oq149 V149 ho Ot149 f_O_y ge_q ge_w ge_y ne_x_y (own_rb0 hr150)) (by decide) (by decide) (by decide) (by decide) (fun v152 T152 L152 X152 hQ152 => ?_)
      obtain ⟨rfl, Nq152, K152, Oq152, V152, Ot152⟩ := hQ152
      have N152 := Fr.app N149 Nq152
      have f_O_z := f_O_z.keep K152 (ninS ne_z_q (ninS ne_z_w (ninS (Ne.symm ne_y_z) nin0)))
      have Ot149 := Ot149.keep K152 (ninS (Ne.symm ne_q_x) (ninS (Ne.symm ne_w_x) (ninS ne_x_y nin0)))
      have Zn := Nat.le_trans Zn K152.1
      show own_End p e below _ (T152.setTop (mkF m 110 _ []))
      refine own_iload X152 hx hby at_110 (pc' := 112) rfl rfl ?_
      refine own_iconst X152 hx hby at_112 (pc' := 113) rfl (n := (2 : Int32)) (by decide) ?_
      refine own_icY X152 hx hby at_113 (pc' := 123) (by decide) (by decide) (show ¬ (2 : Int32) < (2 : Int32) by decide) ?_
      exact own_A2 Z a0 hw p0 p1 p2 p3 q w kk x dx sx y dy sy x rm rf y z  h0 n0 T152.heap (own_mono X152 (by decide) (by decide)) hx hby hlk hml hown hret hZ rfl N152 Zn  Oq152 V152 ho ge_q ge_w Ot149 Ot152 ge_x ge_y ne_x_y (Or.inl rfl) hrm hrf
  · show own_End p e below _ (T0.setTop (mkF m 87 #[.val (.int p0), .val (.long p1), .second, .val (.long p2), .second, .val (.long p3), .second, .val (.int (3 : Int32)), .val (.int rm), .val (.int rf), .val (.ref q), .val (.ref x), .val (.ref y), .val (.ref z), .val (.int (1 : Int32)), .unset, .unset] [(.int (3 : Int32))]))
    refine own_ifN X0 hx hby at_87 (pc' := 90) rfl (show (0 : Int32) < (3 : Int32) by decide) ?_
    refine own_aload X0 hx hby at_90 (pc' := 92) rfl rfl rfl ?_
    refine own_aload X0 hx hby at_92 (pc' := 94) rfl rfl rfl ?_
    have ne_q_w : q ≠ w := Exa.neArv f_O_q.1 f_V_w (wd_1 hw)
    have ne_q_x : q ≠ x := Exa.ne f_O_q.1 f_O_x.1 (by decide)
    have ne_w_x : w ≠ x := Ne.symm (Exa.neArv f_O_x.1 f_V_w (wd_14 hw))
    have ne_y_q : y ≠ q := Exa.ne f_O_y.1 f_O_q.1 (by decide)
    have ne_y_w : y ≠ w := Exa.neArv f_O_y.1 f_V_w (wd_14 hw)
    have ne_z_q : z ≠ q := Exa.ne f_O_z.1 f_O_q.1 (by decide)
    have ne_z_w : z ≠ w := Exa.neArv f_O_z.1 f_V_w (wd_14 hw)
    refine own_lk12 hw X0 hx hZ hby (by rw [hml]; rfl) hown at_94 (pc' := 97) rfl e1 f_O_q.1 (W := 0) (Nat.le_of_eq rfl) (rmA0 l Z a0 hw [] q w kk x dx sx h1 n0 Z1 f_O_q f_V_w ho f_O_x ge_q ge_w ge_x) (by decide) (by decide) (by decide) (by decide) (fun v153 T153 L153 X153 hQ153 => ?_)
    obtain ⟨rfl, Nq153, K153, Oq153, V153, Ot153⟩ := hQ153
    have N153 := Fr.app N0 Nq153
    have f_O_y := f_O_y.keep K153 (ninS ne_y_q (ninS ne_y_w (ninS (Ne.symm ne_x_y) nin0)))
    have f_O_z := f_O_z.keep K153 (ninS ne_z_q (ninS ne_z_w (ninS (Ne.symm ne_x_z) nin0)))
    have Zn := Nat.le_trans Z1 K153.1
    show own_End p e below _ (T153.setTop (mkF m 97 _ []))
    refine own_iload X153 hx hby at_97 (pc' := 99) rfl rfl ?_
    refine own_iconst X153 hx hby at_99 (pc' := 100) rfl (n := (1 : Int32)) (by decide) ?_
    refine own_icN X153 hx hby at_100 (pc' := 103) rfl (show (1 : Int32) < (3 : Int32) by decide) ?_
    refine own_aload X153 hx hby at_103 (pc' := 105) rfl rfl rfl ?_
    refine own_aload X153 hx hby at_105 (pc' := 107) rfl rfl rfl ?_
    rcases Decidable.em (own_rb dy sy dx sx = (1 : Int32)) with hr154 | hr154
    · show own_End p e below _ (T153.setTop (mkF m 107 #[.val (.int p0), .val (.long p1), .second, .val (.long p2), .second, .val (.long p3), .second, .val (.int (3 : Int32)), .val (.int rm), .val (.int rf), .val (.ref q), .val (.ref x), .val (.ref y), .val (.ref z), .val (.int (1 : Int32)), .unset, .unset] [(.ref y), (.ref q)]))
      refine own_lk12 hw X153 hx hZ hby (by rw [hml]; rfl) hown at_107 (pc' := 110) rfl rfl Oq153.1 (W := 0) (Nat.le_of_eq rfl) (rmA1b l Z a0 hw [] q w kk x dx sx y dy sy T153.heap n0 Zn Oq153 V153 ho Ot153 f_O_y ge_q ge_w ge_x ge_y ne_x_y hr154) (by decide) (by decide) (by decide) (by decide) (fun v155 T155 L155 X155 hQ155 => ?_)
      obtain ⟨rfl, Nq155, K155, Oq155, V155, Ox155, Ot155⟩ := hQ155
      have N155 := Fr.app N153 Nq155
      have f_O_z := f_O_z.keep K155 (ninS ne_z_q (ninS ne_z_w (ninS (Ne.symm ne_x_z) (ninS (Ne.symm ne_y_z) nin0))))
      have Zn := Nat.le_trans Zn K155.1
      show own_End p e below _ (T155.setTop (mkF m 110 _ []))
      refine own_iload X155 hx hby at_110 (pc' := 112) rfl rfl ?_
      refine own_iconst X155 hx hby at_112 (pc' := 113) rfl (n := (2 : Int32)) (by decide) ?_
      refine own_icN X155 hx hby at_113 (pc' := 116) rfl (show (2 : Int32) < (3 : Int32) by decide) ?_
      refine own_aload X155 hx hby at_116 (pc' := 118) rfl rfl rfl ?_
      refine own_aload X155 hx hby at_118 (pc' := 120) rfl rfl rfl ?_
      rcases Decidable.em (own_rb dz sz dy sy = (1 : Int32)) with hr156 | hr156
      · show own_End p e below _ (T155.setTop (mkF m 120 #[.val (.int p0), .val (.long p1), .second, .val (.long p2), .second, .val (.long p3), .second, .val (.int (3 : Int32)), .val (.int rm), .val (.int rf), .val (.ref q), .val (.ref x), .val (.ref y), .val (.ref z), .val (.int (1 : Int32)), .unset, .unset] [(.ref z), (.ref q)]))
        refine own_lk12 hw X155 hx hZ hby (by rw [hml]; rfl) hown at_120 (pc' := 123) rfl rfl Oq155.1 (W := 0) (Nat.le_of_eq rfl) (rmA2b l Z a0 hw [] q w kk y dy sy x dx sx z dz sz T155.heap n0 Zn Oq155 V155 ho Ot155 Ox155 f_O_z ge_q ge_w ge_y ge_z (Ne.symm ne_x_y) ne_y_z ne_x_z hr156) (by decide) (by decide) (by decide) (by decide) (fun v157 T157 L157 X157 hQ157 => ?_)
        obtain ⟨rfl, Nq157, K157, Oq157, V157, Ox157, Ot157⟩ := hQ157
        have N157 := Fr.app N155 Nq157
        have Ox155 := Ox155.keep K157 (ninS (Ne.symm ne_q_x) (ninS (Ne.symm ne_w_x) (ninS ne_x_y (ninS ne_x_z nin0))))
        have Zn := Nat.le_trans Zn K157.1
        show own_End p e below _ (T157.setTop (mkF m 123 _ []))
        exact own_A3 Z a0 hw p0 p1 p2 p3 q w kk z dz sz x dx sx y dy sy x rm rf y z  h0 n0 T157.heap (own_mono X157 (by decide) (by decide)) hx hby hlk hml hown hret hZ rfl N157 Zn  Oq157 V157 ho ge_q ge_w Ot157 Ox155 Ox157 ge_z ge_x ge_y (Ne.symm ne_x_z) (Ne.symm ne_y_z) ne_x_y (Or.inr (Or.inl rfl)) hrm hrf
      · show own_End p e below _ (T155.setTop (mkF m 120 #[.val (.int p0), .val (.long p1), .second, .val (.long p2), .second, .val (.long p3), .second, .val (.int (3 : Int32)), .val (.int rm), .val (.int rf), .val (.ref q), .val (.ref x), .val (.ref y), .val (.ref z), .val (.int (1 : Int32)), .unset, .unset] [(.ref z), (.ref q)]))
        refine own_lk12 hw X155 hx hZ hby (by rw [hml]; rfl) hown at_120 (pc' := 123) rfl rfl Oq155.1 (W := 0) (Nat.le_of_eq rfl) (rmA2a l Z a0 hw [] q w kk y dy sy x dx sx z dz sz T155.heap n0 Zn Oq155 V155 ho Ot155 Ox155 f_O_z ge_q ge_w ge_z (Ne.symm ne_x_y) ne_y_z ne_x_z (own_rb0 hr156)) (by decide) (by decide) (by decide) (by decide) (fun v158 T158 L158 X158 hQ158 => ?_)
        obtain ⟨rfl, Nq158, K158, Oq158, V158, Ot158⟩ := hQ158
        have N158 := Fr.app N155 Nq158
        have Ox155 := Ox155.keep K158 (ninS (Ne.symm ne_q_x) (ninS (Ne.symm ne_w_x) (ninS ne_x_z nin0)))
        have Ot155 := Ot155.keep K158 (ninS ne_y_q (ninS ne_y_w (ninS ne_y_z nin0)))
        have Zn := Nat.le_trans Zn K158.1
        show own_End p e below _ (T158.setTop (mkF m 123 _ []))
        exact own_A3 Z a0 hw p0 p1 p2 p3 q w kk y dy sy x dx sx z dz sz x rm rf y z  h0 n0 T158.heap (own_mono X158 (by decide) (by decide)) hx hby hlk hml hown hret hZ rfl N158 Zn  Oq158 V158 ho ge_q ge_w Ot155 Ox155 Ot158 ge_y ge_x ge_z (Ne.symm ne_x_y) ne_y_z ne_x_z (Or.inr (Or.inl rfl)) hrm hrf
    · show own_End p e below _ (T153.setTop (mkF m 107 #[.val (.int p0), .val (.long p1), .second, .val (.long p2), .second, .val (.long p3), .second, .val (.int (3 : Int32)), .val (.int rm), .val (.int rf), .val (.ref q), .val (.ref x), .val (.ref y), .val (.ref z), .val (.int (1 : Int32)), .unset, .unset] [(.ref y), (.ref q)]))
      refine own_lk12 hw X153 hx hZ hby (by rw [hml]; rfl) hown at_107 (pc' := 110) rfl rfl Oq153.1 (W := 0) (Nat.le_of_eq rfl) (rmA1a l Z a0 hw [] q w kk x dx sx y dy sy T153.heap n0 Zn Oq153 V153 ho Ot153 f_O_y ge_q ge_w ge_y ne_x_y (own_rb0 hr154)) (by decide) (by decide) (by decide) (by decide) (fun v159 T159 L159 X159 hQ159 => ?_)
      obtain ⟨rfl, Nq159, K159, Oq159, V159, Ot159⟩ := hQ159
      have N159 := Fr.app N153 Nq159
      have f_O_z := f_O_z.keep K159 (ninS ne_z_q (ninS ne_z_w (ninS (Ne.symm ne_y_z) nin0)))
      have Ot153 := Ot153.keep K159 (ninS (Ne.symm ne_q_x) (ninS (Ne.symm ne_w_x) (ninS ne_x_y nin0)))
      have Zn := Nat.le_trans Zn K159.1
      show own_End p e below _ (T159.setTop (mkF m 110 _ []))
      refine own_iload X159 hx hby at_110 (pc' := 112) rfl rfl ?_
      refine own_iconst X159 hx hby at_112 (pc' := 113) rfl (n := (2 : Int32)) (by decide) ?_
      refine own_icN X159 hx hby at_113 (pc' := 116) rfl (show (2 : Int32) < (3 : Int32) by decide) ?_
      refine own_aload X159 hx hby at_116 (pc' := 118) rfl rfl rfl ?_
      refine own_aload X159 hx hby at_118 (pc' := 120) rfl rfl rfl ?_
      rcases Decidable.em (own_rb dz sz dx sx = (1 : Int32)) with hr160 | hr160
      · show own_End p e below _ (T159.setTop (mkF m 120 #[.val (.int p0), .val (.long p1), .second, .val (.long p2), .second, .val (.long p3), .second, .val (.int (3 : Int32)), .val (.int rm), .val (.int rf), .val (.ref q), .val (.ref x), .val (.ref y), .val (.ref z), .val (.int (1 : Int32)), .unset, .unset] [(.ref z), (.ref q)]))
        refine own_lk12 hw X159 hx hZ hby (by rw [hml]; rfl) hown at_120 (pc' := 123) rfl rfl Oq159.1 (W := 0) (Nat.le_of_eq rfl) (rmA2b l Z a0 hw [] q w kk x dx sx y dy sy z dz sz T159.heap n0 Zn Oq159 V159 ho Ot153 Ot159 f_O_z ge_q ge_w ge_x ge_z ne_x_y ne_x_z ne_y_z hr160) (by decide) (by decide) (by decide) (by decide) (fun v161 T161 L161 X161 hQ161 => ?_)
        obtain ⟨rfl, Nq161, K161, Oq161, V161, Ox161, Ot161⟩ := hQ161
        have N161 := Fr.app N159 Nq161
        have Ot159 := Ot159.keep K161 (ninS ne_y_q (ninS ne_y_w (ninS (Ne.symm ne_x_y) (ninS ne_y_z nin0))))
        have Zn := Nat.le_trans Zn K161.1
        show own_End p e below _ (T161.setTop (mkF m 123 _ []))
        exact own_A3 Z a0 hw p0 p1 p2 p3 q w kk z dz sz y dy sy x dx sx x rm rf y z  h0 n0 T161.heap (own_mono X161 (by decide) (by decide)) hx hby hlk hml hown hret hZ rfl N161 Zn  Oq161 V161 ho ge_q ge_w Ot161 Ot159 Ox161 ge_z ge_y ge_x (Ne.symm ne_y_z) (Ne.symm ne_x_z) (Ne.symm ne_x_y) (Or.inr (Or.inr rfl)) hrm hrf
      · show own_End p e below _ (T159.setTop (mkF m 120 #[.val (.int p0), .val (.long p1), .second, .val (.long p2), .second, .val (.long p3), .second, .val (.int (3 : Int32)), .val (.int rm), .val (.int rf), .val (.ref q), .val (.ref x), .val (.ref y), .val (.ref z), .val (.int (1 : Int32)), .unset, .unset] [(.ref z), (.ref q)]))
        refine own_lk12 hw X159 hx hZ hby (by rw [hml]; rfl) hown at_120 (pc' := 123) rfl rfl Oq159.1 (W := 0) (Nat.le_of_eq rfl) (rmA2a l Z a0 hw [] q w kk x dx sx y dy sy z dz sz T159.heap n0 Zn Oq159 V159 ho Ot153 Ot159 f_O_z ge_q ge_w ge_z ne_x_y ne_x_z ne_y_z (own_rb0 hr160)) (by decide) (by decide) (by decide) (by decide) (fun v162 T162 L162 X162 hQ162 => ?_)
        obtain ⟨rfl, Nq162, K162, Oq162, V162, Ot162⟩ := hQ162
        have N162 := Fr.app N159 Nq162
        have Ot153 := Ot153.keep K162 (ninS (Ne.symm ne_q_x) (ninS (Ne.symm ne_w_x) (ninS ne_x_z nin0)))
        have Ot159 := Ot159.keep K162 (ninS ne_y_q (ninS ne_y_w (ninS ne_y_z nin0)))
        have Zn := Nat.le_trans Zn K162.1
        show own_End p e below _ (T162.setTop (mkF m 123 _ []))
        exact own_A3 Z a0 hw p0 p1 p2 p3 q w kk x dx sx y dy sy z dz sz x rm rf y z  h0 n0 T162.heap (own_mono X162 (by decide) (by decide)) hx hby hlk hml hown hret hZ rfl N162 Zn  Oq162 V162 ho ge_q ge_w Ot153 Ot159 Ot162 ge_x ge_y ge_z ne_x_y ne_x_z ne_y_z (Or.inl rfl) hrm hrf
set_option maxRecDepth 65536 in
set_option maxHeartbeats 40000000 in
theorem rm0 (l : Launch) (Z : State) (a0 : Array Value) (hw : ∀ d ∈ tables_1, d.before a0 Z = true) (ws : List Jvm.Cond) (p0 : Int32) (p1 : Int64) (p2 : Int64) (p3 : Int64) (h0 : Heap) (n0 : Nat) (Z0 : n0 ≤ h0.size)  :
    MetFree l x (head1 (Jvm.Cond.code x code maxLocals ret :: ws) room_1) (fun aa U => aa = #[(.int p0), (.long p1), (.long p2), (.long p3)] ∧ Z.Warmed39 U.vm ∧ U.heap = h0) (fun _ _ _ _ _ => True) (fun _ U oc U' => ∃ v L, oc = .returned v ∧ Q0 Z p0 p1 p2 p3 h0 n0 v U'.heap L ∧ FrameEnd U oc U' L room_1.cells room_1.slots) := by
  refine MetFree.of_bodySF (plainFor_of_name own_pn12) hisR ?_
  intro p e s m args below meth c s₁ Bd hml0 hP hK
  obtain ⟨rfl, hZ, hh⟩ := hP
  have hx := Bd.exec
  have hby := Bd.bytes
  have hlk := Bd.notSynchronized
  have hret := Bd.returns
  have hml : c.maxLocals = 17 := hml0
  have hown : s.vm.findClass "com/example/earnest_reactor/earnestreactor/core/TimerQueueIsEmptyPinLaw" = some m.cls := findClass_of_methodNamed Bd.named
  have hnm := (name_of_methodNamed Bd.named Bd.method).1
  have X0 : Stand p l e room_1 s m #[(.int p0), (.long p1), (.long p2), (.long p3)] below meth c s₁ [] 0 0 := Stand.of_body Bd
  have e0 : s₁.heap = h0 := by rw [← hh, Bd.state]; rfl
  have N0 := Fr.nil n0
  refine own_body (Q := Q0 Z p0 p1 p2 p3 h0 n0) (KC := room_1.cells) (KS := room_1.slots) ?_
  rw [own_ef_rm0 m p0 p1 p2 p3]
  refine own_iloadN X0 hx hby at_0 (pc' := 1) rfl rfl ?_
  refine own_iconst X0 hx hby at_1 (pc' := 2) rfl (n := (3 : Int32)) (by decide) ?_
  refine own_iand X0 hx hby at_2 (pc' := 3) rfl ?_
  refine own_istore X0 hx hby at_3 (pc' := 5) rfl (l' := #[.val (.int p0), .val (.long p1), .second, .val (.long p2), .second, .val (.long p3), .second, .val (.int (p0 &&& (3 : Int32))), .unset, .unset, .unset, .unset, .unset, .unset, .unset, .unset, .unset]) rfl ?_
  refine own_iloadN X0 hx hby at_5 (pc' := 6) rfl rfl ?_
  refine own_iconst X0 hx hby at_6 (pc' := 7) rfl (n := (2 : Int32)) (by decide) ?_
  refine own_iushr X0 hx hby at_7 (pc' := 8) rfl ?_
  refine own_iconst X0 hx hby at_8 (pc' := 9) rfl (n := (3 : Int32)) (by decide) ?_
  refine own_iand X0 hx hby at_9 (pc' := 10) rfl ?_
  refine own_istore X0 hx hby at_10 (pc' := 12) rfl (l' := #[.val (.int p0), .val (.long p1), .second, .val (.long p2), .second, .val (.long p3), .second, .val (.int (p0 &&& (3 : Int32))), .val (.int (((p0.toUInt32 >>> ((2 : Int32) &&& 31).toUInt32).toInt32) &&& (3 : Int32))), .unset, .unset, .unset, .unset, .unset, .unset, .unset, .unset]) rfl ?_
  refine own_iloadN X0 hx hby at_12 (pc' := 13) rfl rfl ?_
  refine own_iconst X0 hx hby at_13 (pc' := 14) rfl (n := (4 : Int32)) (by decide) ?_
  refine own_iushr X0 hx hby at_14 (pc' := 15) rfl ?_
  refine own_iconst X0 hx hby at_15 (pc' := 16) rfl (n := (1 : Int32)) (by decide) ?_
  refine own_iand X0 hx hby at_16 (pc' := 17) rfl ?_
  refine own_if2 X0 hx hby at_17 (pc1 := 24) (by decide) (by decide) (pc2 := 20) rfl (fun (hc17 : (((p0.toUInt32 >>> ((4 : Int32) &&& 31).toUInt32).toInt32) &&& (1 : Int32)) = (0 : Int32)) => ?_) (fun (hc17 : ¬ (((p0.toUInt32 >>> ((4 : Int32) &&& 31).toUInt32).toInt32) &&& (1 : Int32)) = (0 : Int32)) => ?_)
  · refine own_iconst X0 hx hby at_24 (pc' := 25) rfl (n := (0 : Int32)) (by decide) ?_
    refine own_istore X0 hx hby at_25 (pc' := 27) rfl (l' := #[.val (.int p0), .val (.long p1), .second, .val (.long p2), .second, .val (.long p3), .second, .val (.int (p0 &&& (3 : Int32))), .val (.int (((p0.toUInt32 >>> ((2 : Int32) &&& 31).toUInt32).toInt32) &&& (3 : Int32))), .val (.int (0 : Int32)), .unset, .unset, .unset, .unset, .unset, .unset, .unset]) rfl ?_
    refine own_new X0 hx hZ hby hown (wd_0 hw) (wd_1 hw) (wd_2 hw) e0 at_27 (pc' := 30) rfl (by decide) (by decide) (fun T163 h163 b163 g163 X163 e163 E163 A163 D163 => ?_)
    have ge_b163 : n0 ≤ b163 := by rw [g163]; exact Z0
    have Zn := Nat.le_trans Z0 E163.1
    have f_O_b163 : own_TQ Z h163 b163 .null (0 : Int32) := ⟨A163, D163 (Or.inl (wd_12 hw)) (ty := (.array (.object "com/example/earnest_reactor/earnestreactor/core/ScheduledTask"))) (by decide), D163 (Or.inl (wd_37 hw)) (ty := .int) (by decide)⟩
    refine own_dup X163 hx hby at_30 (pc' := 31) rfl rfl ?_
    have lt_b163 := f_O_b163.lt
    have Zold := Zn
    refine own_lk13 hw X163 hx hZ hby (by rw [hml]; rfl) hown at_31 (pc' := 34) rfl e163 (W := 1) (Nat.le_of_eq rfl) (rmNQ l Z a0 hw [] b163 h163 n0 Zn f_O_b163 ge_b163) (by decide) (by decide) (by decide) (by decide) (fun v165 T165 L165 X165 hQ165 => ?_)
    obtain ⟨rfl, Nq165, K165, w164, kk164, gw165, O165, V165, ov165⟩ := hQ165
    have N165 := Fr.app N0 Nq165
    have Zn := Nat.le_trans Zn K165.1
    have ne_b163_w164 : b163 ≠ w164 := Nat.ne_of_lt (Nat.lt_of_lt_of_le lt_b163 gw165)
    have ge_w164 : n0 ≤ w164 := Nat.le_trans Zold gw165
    show own_End p e below _ (T165.setTop (mkF m 34 _ [(.ref b163)]))
    refine own_astore X165 hx hby at_34 (pc' := 36) rfl rfl (l' := #[.val (.int p0), .val (.long p1), .second, .val (.long p2), .second, .val (.long p3), .second, .val (.int (p0 &&& (3 : Int32))), .val (.int (((p0.toUInt32 >>> ((2 : Int32) &&& 31).toUInt32).toInt32) &&& (3 : Int32))), .val (.int (0 : Int32)), .val (.ref b163), .unset, .unset, .unset, .unset, .unset, .unset]) rfl ?_
    refine own_new X165 hx hZ hby hown (wd_13 hw) (wd_14 hw) (wd_15 hw) rfl at_36 (pc' := 39) rfl (by decide) (by decide) (fun T166 h166 b166 g166 X166 e166 E166 A166 D166 => ?_)
    have ne_b163_b166 : b163 ≠ b166 := Nat.ne_of_lt (by rw [g166]; exact O165.lt)
    have ne_w164_b166 : w164 ≠ b166 := Nat.ne_of_lt (by rw [g166]; exact V165.lt)
    have ge_b166 : n0 ≤ b166 := by rw [g166]; exact Zn
    have O165 := O165.ext E166
    have V165 := V165.ext E166
    have Zn := Nat.le_trans Zn E166.1
    have f_O_b166 : own_TK Z h166 b166 .null (0 : Int64) (0 : Int64) .null (0 : Int32) := ⟨A166, D166 (Or.inr (wd_23 hw)) (ty := (.object "com/example/earnest_reactor/earnestreactor/core/EventLoop")) (by decide), D166 (Or.inr (wd_25 hw)) (ty := .long) (by decide), D166 (Or.inr (wd_27 hw)) (ty := .long) (by decide), D166 (Or.inr (wd_29 hw)) (ty := (.object "java/lang/Runnable")) (by decide), D166 (Or.inl (wd_21 hw)) (ty := .int) (by decide)⟩
    refine own_dup X166 hx hby at_39 (pc' := 40) rfl rfl ?_
    refine own_aconst_null X166 hx hby at_40 (pc' := 41) rfl ?_
    refine own_lloadN X166 hx hby at_41 (pc' := 42) rfl rfl ?_
    refine own_lconst X166 hx hby at_42 (pc' := 43) rfl (n := (0 : Int64)) (by decide) ?_
    refine own_aconst_null X166 hx hby at_43 (pc' := 44) rfl ?_
    refine own_lk14 hw X166 hx hZ hby (by rw [hml]; rfl) hown at_44 (pc' := 47) rfl e166 (W := 1) (Nat.le_of_eq rfl) (rmNT l Z a0 hw [] b166 p1 (0 : Int64) h166 n0 Zn f_O_b166 ge_b166) (by decide) (by decide) (by decide) (by decide) (fun v167 T167 L167 X167 hQ167 => ?_)
    obtain ⟨rfl, Nq167, K167, O167⟩ := hQ167
    have N167 := Fr.app N165 Nq167
    have O165 := O165.keep K167 (ninS ne_b163_b166 nin0)
    have V165 := V165.keep K167 (ninS ne_w164_b166 nin0)
    have Zn := Nat.le_trans Zn K167.1
    show own_End p e below _ (T167.setTop (mkF m 47 _ [(.ref b166)]))
    refine own_astore X167 hx hby at_47 (pc' := 49) rfl rfl (l' := #[.val (.int p0), .val (.long p1), .second, .val (.long p2), .second, .val (.long p3), .second, .val (.int (p0 &&& (3 : Int32))), .val (.int (((p0.toUInt32 >>> ((2 : Int32) &&& 31).toUInt32).toInt32) &&& (3 : Int32))), .val (.int (0 : Int32)), .val (.ref b163), .val (.ref b166), .unset, .unset, .unset, .unset, .unset]) rfl ?_
    refine own_new X167 hx hZ hby hown (wd_13 hw) (wd_14 hw) (wd_15 hw) rfl at_49 (pc' := 52) rfl (by decide) (by decide) (fun T168 h168 b168 g168 X168 e168 E168 A168 D168 => ?_)
    have ne_b163_b168 : b163 ≠ b168 := Nat.ne_of_lt (by rw [g168]; exact O165.lt)
    have ne_w164_b168 : w164 ≠ b168 := Nat.ne_of_lt (by rw [g168]; exact V165.lt)
    have ne_b166_b168 : b166 ≠ b168 := Nat.ne_of_lt (by rw [g168]; exact O167.lt)
    have ge_b168 : n0 ≤ b168 := by rw [g168]; exact Zn
    have O165 := O165.ext E168
    have V165 := V165.ext E168
    have O167 := O167.ext E168
    have Zn := Nat.le_trans Zn E168.1
    have f_O_b168 : own_TK Z h168 b168 .null (0 : Int64) (0 : Int64) .null (0 : Int32) := ⟨A168, D168 (Or.inr (wd_23 hw)) (ty := (.object "com/example/earnest_reactor/earnestreactor/core/EventLoop")) (by decide), D168 (Or.inr (wd_25 hw)) (ty := .long) (by decide), D168 (Or.inr (wd_27 hw)) (ty := .long) (by decide), D168 (Or.inr (wd_29 hw)) (ty := (.object "java/lang/Runnable")) (by decide), D168 (Or.inl (wd_21 hw)) (ty := .int) (by decide)⟩
    refine own_dup X168 hx hby at_52 (pc' := 53) rfl rfl ?_
    refine own_aconst_null X168 hx hby at_53 (pc' := 54) rfl ?_
    refine own_lloadN X168 hx hby at_54 (pc' := 55) rfl rfl ?_
    refine own_lconst X168 hx hby at_55 (pc' := 56) rfl (n := (1 : Int64)) (by decide) ?_
    refine own_aconst_null X168 hx hby at_56 (pc' := 57) rfl ?_
    refine own_lk14 hw X168 hx hZ hby (by rw [hml]; rfl) hown at_57 (pc' := 60) rfl e168 (W := 1) (Nat.le_of_eq rfl) (rmNT l Z a0 hw [] b168 p2 (1 : Int64) h168 n0 Zn f_O_b168 ge_b168) (by decide) (by decide) (by decide) (by decide) (fun v169 T169 L169 X169 hQ169 => ?_)
    obtain ⟨rfl, Nq169, K169, O169⟩ := hQ169
    have N169 := Fr.app N167 Nq169
    have O165 := O165.keep K169 (ninS ne_b163_b168 nin0)
    have V165 := V165.keep K169 (ninS ne_w164_b168 nin0)
    have O167 := O167.keep K169 (ninS ne_b166_b168 nin0)
    have Zn := Nat.le_trans Zn K169.1
    show own_End p e below _ (T169.setTop (mkF m 60 _ [(.ref b168)]))
    refine own_astore X169 hx hby at_60 (pc' := 62) rfl rfl (l' := #[.val (.int p0), .val (.long p1), .second, .val (.long p2), .second, .val (.long p3), .second, .val (.int (p0 &&& (3 : Int32))), .val (.int (((p0.toUInt32 >>> ((2 : Int32) &&& 31).toUInt32).toInt32) &&& (3 : Int32))), .val (.int (0 : Int32)), .val (.ref b163), .val (.ref b166), .val (.ref b168), .unset, .unset, .unset, .unset]) rfl ?_
    refine own_new X169 hx hZ hby hown (wd_13 hw) (wd_14 hw) (wd_15 hw) rfl at_62 (pc' := 65) rfl (by decide) (by decide) (fun T170 h170 b170 g170 X170 e170 E170 A170 D170 => ?_)
    have ne_b163_b170 : b163 ≠ b170 := Nat.ne_of_lt (by rw [g170]; exact O165.lt)
    have ne_w164_b170 : w164 ≠ b170 := Nat.ne_of_lt (by rw [g170]; exact V165.lt)
    have ne_b166_b170 : b166 ≠ b170 := Nat.ne_of_lt (by rw [g170]; exact O167.lt)
    have ne_b168_b170 : b168 ≠ b170 := Nat.ne_of_lt (by rw [g170]; exact O169.lt)
    have ge_b170 : n0 ≤ b170 := by rw [g170]; exact Zn
    have O165 := O165.ext E170
    have V165 := V165.ext E170
    have O167 := O167.ext E170
    have O169 := O169.ext E170
    have Zn := Nat.le_trans Zn E170.1
    have f_O_b170 : own_TK Z h170 b170 .null (0 : Int64) (0 : Int64) .null (0 : Int32) := ⟨A170, D170 (Or.inr (wd_23 hw)) (ty := (.object "com/example/earnest_reactor/earnestreactor/core/EventLoop")) (by decide), D170 (Or.inr (wd_25 hw)) (ty := .long) (by decide), D170 (Or.inr (wd_27 hw)) (ty := .long) (by decide), D170 (Or.inr (wd_29 hw)) (ty := (.object "java/lang/Runnable")) (by decide), D170 (Or.inl (wd_21 hw)) (ty := .int) (by decide)⟩
    refine own_dup X170 hx hby at_65 (pc' := 66) rfl rfl ?_
    refine own_aconst_null X170 hx hby at_66 (pc' := 67) rfl ?_
    refine own_lload X170 hx hby at_67 (pc' := 69) rfl rfl ?_
    refine own_ldc2Long X170 hx hZ hby hown (wd_30 hw) at_69 (pc' := 72) rfl ?_
    refine own_aconst_null X170 hx hby at_72 (pc' := 73) rfl ?_
    refine own_lk14 hw X170 hx hZ hby (by rw [hml]; rfl) hown at_73 (pc' := 76) rfl e170 (W := 1) (Nat.le_of_eq rfl) (rmNT l Z a0 hw [] b170 p3 (2 : Int64) h170 n0 Zn f_O_b170 ge_b170) (by decide) (by decide) (by decide) (by decide) (fun v171 T171 L171 X171 hQ171 => ?_)
    obtain ⟨rfl, Nq171, K171, O171⟩ := hQ171
    have N171 := Fr.app N169 Nq171
    have O165 := O165.keep K171 (ninS ne_b163_b170 nin0)
    have V165 := V165.keep K171 (ninS ne_w164_b170 nin0)
    have O167 := O167.keep K171 (ninS ne_b166_b170 nin0)
    have O169 := O169.keep K171 (ninS ne_b168_b170 nin0)
    have Zn := Nat.le_trans Zn K171.1
    show own_End p e below _ (T171.setTop (mkF m 76 _ [(.ref b170)]))
    refine own_astore X171 hx hby at_76 (pc' := 78) rfl rfl (l' := #[.val (.int p0), .val (.long p1), .second, .val (.long p2), .second, .val (.long p3), .second, .val (.int (p0 &&& (3 : Int32))), .val (.int (((p0.toUInt32 >>> ((2 : Int32) &&& 31).toUInt32).toInt32) &&& (3 : Int32))), .val (.int (0 : Int32)), .val (.ref b163), .val (.ref b166), .val (.ref b168), .val (.ref b170), .unset, .unset, .unset]) rfl ?_
    refine own_aload X171 hx hby at_78 (pc' := 80) rfl rfl rfl ?_
    refine own_lk8 hw X171 hx hZ hby (by rw [hml]; rfl) hown at_80 (pc' := 83) rfl rfl O165.1 (W := 0) (Nat.le_of_eq rfl) (rmE0 l Z a0 hw [] b163 w164 T171.heap n0 Zn O165) (by decide) (by decide) (by decide) (by decide) (fun v172 T172 L172 X172 hQ172 => ?_)
    obtain ⟨rfl, Nq172, e172⟩ := hQ172
    have N172 := Fr.app N171 Nq172
    show own_End p e below _ (T172.setTop (mkF m 83 _ [(.int (1 : Int32))]))
    refine own_istore X172 hx hby at_83 (pc' := 85) rfl (l' := #[.val (.int p0), .val (.long p1), .second, .val (.long p2), .second, .val (.long p3), .second, .val (.int (p0 &&& (3 : Int32))), .val (.int (((p0.toUInt32 >>> ((2 : Int32) &&& 31).toUInt32).toInt32) &&& (3 : Int32))), .val (.int (0 : Int32)), .val (.ref b163), .val (.ref b166), .val (.ref b168), .val (.ref b170), .val (.int (1 : Int32)), .unset, .unset]) rfl ?_
    exact own_s85 Z a0 hw p0 p1 p2 p3 b163 w164 kk164 b166 p1 (0 : Int64) b168 p2 (1 : Int64) b170 p3 (2 : Int64) (p0 &&& (3 : Int32)) (((p0.toUInt32 >>> ((2 : Int32) &&& 31).toUInt32).toInt32) &&& (3 : Int32)) (0 : Int32)  h0 n0 T171.heap (own_mono X172 (by decide) (by decide)) hx hby hlk hml hown hret hZ e172 N172 Zn  O165 V165 ov165 ge_b163 ge_w164 O167 O169 O171 ge_b166 ge_b168 ge_b170 ne_b166_b168 ne_b166_b170 ne_b168_b170 (own_and3 _) (Or.inl rfl) (own_and3 _)
  · refine own_iconst X0 hx hby at_20 (pc' := 21) rfl (n := (1 : Int32)) (by decide) ?_
    refine own_goto X0 hx hby at_21 (pc' := 25) (by decide) (by decide) ?_
    refine own_istore X0 hx hby at_25 (pc' := 27) rfl (l' := #[.val (.int p0), .val (.long p1), .second, .val (.long p2), .second, .val (.long p3), .second, .val (.int (p0 &&& (3 : Int32))), .val (.int (((p0.toUInt32 >>> ((2 : Int32) &&& 31).toUInt32).toInt32) &&& (3 : Int32))), .val (.int (1 : Int32)), .unset, .unset, .unset, .unset, .unset, .unset, .unset]) rfl ?_
    refine own_new X0 hx hZ hby hown (wd_0 hw) (wd_1 hw) (wd_2 hw) e0 at_27 (pc' := 30) rfl (by decide) (by decide) (fun T173 h173 b173 g173 X173 e173 E173 A173 D173 => ?_)
    have ge_b173 : n0 ≤ b173 := by rw [g173]; exact Z0
    have Zn := Nat.le_trans Z0 E173.1
    have f_O_b173 : own_TQ Z h173 b173 .null (0 : Int32) := ⟨A173, D173 (Or.inl (wd_12 hw)) (ty := (.array (.object "com/example/earnest_reactor/earnestreactor/core/ScheduledTask"))) (by decide), D173 (Or.inl (wd_37 hw)) (ty := .int) (by decide)⟩
    refine own_dup X173 hx hby at_30 (pc' := 31) rfl rfl ?_
    have lt_b173 := f_O_b173.lt
    have Zold := Zn
    refine own_lk13 hw X173 hx hZ hby (by rw [hml]; rfl) hown at_31 (pc' := 34) rfl e173 (W := 1) (Nat.le_of_eq rfl) (rmNQ l Z a0 hw [] b173 h173 n0 Zn f_O_b173 ge_b173) (by decide) (by decide) (by decide) (by decide) (fun v175 T175 L175 X175 hQ175 => ?_)
    obtain ⟨rfl, Nq175, K175, w174, kk174, gw175, O175, V175, ov175⟩ := hQ175
    have N175 := Fr.app N0 Nq175
    have Zn := Nat.le_trans Zn K175.1
    have ne_b173_w174 : b173 ≠ w174 := Nat.ne_of_lt (Nat.lt_of_lt_of_le lt_b173 gw175)
    have ge_w174 : n0 ≤ w174 := Nat.le_trans Zold gw175
    show own_End p e below _ (T175.setTop (mkF m 34 _ [(.ref b173)]))
    refine own_astore X175 hx hby at_34 (pc' := 36) rfl rfl (l' := #[.val (.int p0), .val (.long p1), .second, .val (.long p2), .second, .val (.long p3), .second, .val (.int (p0 &&& (3 : Int32))), .val (.int (((p0.toUInt32 >>> ((2 : Int32) &&& 31).toUInt32).toInt32) &&& (3 : Int32))), .val (.int (1 : Int32)), .val (.ref b173), .unset, .unset, .unset, .unset, .unset, .unset]) rfl ?_
    refine own_new X175 hx hZ hby hown (wd_13 hw) (wd_14 hw) (wd_15 hw) rfl at_36 (pc' := 39) rfl (by decide) (by decide) (fun T176 h176 b176 g176 X176 e176 E176 A176 D176 => ?_)
    have ne_b173_b176 : b173 ≠ b176 := Nat.ne_of_lt (by rw [g176]; exact O175.lt)
    have ne_w174_b176 : w174 ≠ b176 := Nat.ne_of_lt (by rw [g176]; exact V175.lt)
    have ge_b176 : n0 ≤ b176 := by rw [g176]; exact Zn
    have O175 := O175.ext E176
    have V175 := V175.ext E176
    have Zn := Nat.le_trans Zn E176.1
    have f_O_b176 : own_TK Z h176 b176 .null (0 : Int64) (0 : Int64) .null (0 : Int32) := ⟨A176, D176 (Or.inr (wd_23 hw)) (ty := (.object "com/example/earnest_reactor/earnestreactor/core/EventLoop")) (by decide), D176 (Or.inr (wd_25 hw)) (ty := .long) (by decide), D176 (Or.inr (wd_27 hw)) (ty := .long) (by decide), D176 (Or.inr (wd_29 hw)) (ty := (.object "java/lang/Runnable")) (by decide), D176 (Or.inl (wd_21 hw)) (ty := .int) (by decide)⟩
    refine own_dup X176 hx hby at_39 (pc' := 40) rfl rfl ?_
    refine own_aconst_null X176 hx hby at_40 (pc' := 41) rfl ?_
    refine own_lloadN X176 hx hby at_41 (pc' := 42) rfl rfl ?_
    refine own_lconst X176 hx hby at_42 (pc' := 43) rfl (n := (0 : Int64)) (by decide) ?_
    refine own_aconst_null X176 hx hby at_43 (pc' := 44) rfl ?_
    refine own_lk14 hw X176 hx hZ hby (by rw [hml]; rfl) hown at_44 (pc' := 47) rfl e176 (W := 1) (Nat.le_of_eq rfl) (rmNT l Z a0 hw [] b176 p1 (0 : Int64) h176 n0 Zn f_O_b176 ge_b176) (by decide) (by decide) (by decide) (by decide) (fun v177 T177 L177 X177 hQ177 => ?_)
    obtain ⟨rfl, Nq177, K177, O177⟩ := hQ177
    have N177 := Fr.app N175 Nq177
    have O175 := O175.keep K177 (ninS ne_b173_b176 nin0)
    have V175 := V175.keep K177 (ninS ne_w174_b176 nin0)
    have Zn := Nat.le_trans Zn K177.1
    show own_End p e below _ (T177.setTop (mkF m 47 _ [(.ref b176)]))
    refine own_astore X177 hx hby at_47 (pc' := 49) rfl rfl (l' := #[.val (.int p0), .val (.long p1), .second, .val (.long p2), .second, .val (.long p3), .second, .val (.int (p0 &&& (3 : Int32))), .val (.int (((p0.toUInt32 >>> ((2 : Int32) &&& 31).toUInt32).toInt32) &&& (3 : Int32))), .val (.int (1 : Int32)), .val (.ref b173), .val (.ref b176), .unset, .unset, .unset, .unset, .unset]) rfl ?_
    refine own_new X177 hx hZ hby hown (wd_13 hw) (wd_14 hw) (wd_15 hw) rfl at_49 (pc' := 52) rfl (by decide) (by decide) (fun T178 h178 b178 g178 X178 e178 E178 A178 D178 => ?_)
    have ne_b173_b178 : b173 ≠ b178 := Nat.ne_of_lt (by rw [g178]; exact O175.lt)
    have ne_w174_b178 : w174 ≠ b178 := Nat.ne_of_lt (by rw [g178]; exact V175.lt)
    have ne_b176_b178 : b176 ≠ b178 := Nat.ne_of_lt (by rw [g178]; exact O177.lt)
    have ge_b178 : n0 ≤ b178 := by rw [g178]; exact Zn
    have O175 := O175.ext E178
    have V175 := V175.ext E178
    have O177 := O177.ext E178
    have Zn := Nat.le_trans Zn E178.1
    have f_O_b178 : own_TK Z h178 b178 .null (0 : Int64) (0 : Int64) .null (0 : Int32) := ⟨A178, D178 (Or.inr (wd_23 hw)) (ty := (.object "com/example/earnest_reactor/earnestreactor/core/EventLoop")) (by decide), D178 (Or.inr (wd_25 hw)) (ty := .long) (by decide), D178 (Or.inr (wd_27 hw)) (ty := .long) (by decide), D178 (Or.inr (wd_29 hw)) (ty := (.object "java/lang/Runnable")) (by decide), D178 (Or.inl (wd_21 hw)) (ty := .int) (by decide)⟩
    refine own_dup X178 hx hby at_52 (pc' := 53) rfl rfl ?_
    refine own_aconst_null X178 hx hby at_53 (pc' := 54) rfl ?_
    refine own_lloadN X178 hx hby at_54 (pc' := 55) rfl rfl ?_
    refine own_lconst X178 hx hby at_55 (pc' := 56) rfl (n := (1 : Int64)) (by decide) ?_
    refine own_aconst_null X178 hx hby at_56 (pc' := 57) rfl ?_
    refine own_lk14 hw X178 hx hZ hby (by rw [hml]; rfl) hown at_57 (pc' := 60) rfl e178 (W := 1) (Nat.le_of_eq rfl) (rmNT l Z a0 hw [] b178 p2 (1 : Int64) h178 n0 Zn f_O_b178 ge_b178) (by decide) (by decide) (by decide) (by decide) (fun v179 T179 L179 X179 hQ179 => ?_)
    obtain ⟨rfl, Nq179, K179, O179⟩ := hQ179
    have N179 := Fr.app N177 Nq179
    have O175 := O175.keep K179 (ninS ne_b173_b178 nin0)
    have V175 := V175.keep K179 (ninS ne_w174_b178 nin0)
    have O177 := O177.keep K179 (ninS ne_b176_b178 nin0)
    have Zn := Nat.le_trans Zn K179.1
    show own_End p e below _ (T179.setTop (mkF m 60 _ [(.ref b178)]))
    refine own_astore X179 hx hby at_60 (pc' := 62) rfl rfl (l' := #[.val (.int p0), .val (.long p1), .second, .val (.long p2), .second, .val (.long p3), .second, .val (.int (p0 &&& (3 : Int32))), .val (.int (((p0.toUInt32 >>> ((2 : Int32) &&& 31).toUInt32).toInt32) &&& (3 : Int32))), .val (.int (1 : Int32)), .val (.ref b173), .val (.ref b176), .val (.ref b178), .unset, .unset, .unset, .unset]) rfl ?_
    refine own_new X179 hx hZ hby hown (wd_13 hw) (wd_14 hw) (wd_15 hw) rfl at_62 (pc' := 65) rfl (by decide) (by decide) (fun T180 h180 b180 g180 X180 e180 E180 A180 D180 => ?_)
    have ne_b173_b180 : b173 ≠ b180 := Nat.ne_of_lt (by rw [g180]; exact O175.lt)
    have ne_w174_b180 : w174 ≠ b180 := Nat.ne_of_lt (by rw [g180]; exact V175.lt)
    have ne_b176_b180 : b176 ≠ b180 := Nat.ne_of_lt (by rw [g180]; exact O177.lt)
    have ne_b178_b180 : b178 ≠ b180 := Nat.ne_of_lt (by rw [g180]; exact O179.lt)
    have ge_b180 : n0 ≤ b180 := by rw [g180]; exact Zn
    have O175 := O175.ext E180
    have V175 := V175.ext E180
    have O177 := O177.ext E180
    have O179 := O179.ext E180
    have Zn := Nat.le_trans Zn E180.1
    have f_O_b180 : own_TK Z h180 b180 .null (0 : Int64) (0 : Int64) .null (0 : Int32) := ⟨A180, D180 (Or.inr (wd_23 hw)) (ty := (.object "com/example/earnest_reactor/earnestreactor/core/EventLoop")) (by decide), D180 (Or.inr (wd_25 hw)) (ty := .long) (by decide), D180 (Or.inr (wd_27 hw)) (ty := .long) (by decide), D180 (Or.inr (wd_29 hw)) (ty := (.object "java/lang/Runnable")) (by decide), D180 (Or.inl (wd_21 hw)) (ty := .int) (by decide)⟩
    refine own_dup X180 hx hby at_65 (pc' := 66) rfl rfl ?_
    refine own_aconst_null X180 hx hby at_66 (pc' := 67) rfl ?_
    refine own_lload X180 hx hby at_67 (pc' := 69) rfl rfl ?_
    refine own_ldc2Long X180 hx hZ hby hown (wd_30 hw) at_69 (pc' := 72) rfl ?_
    refine own_aconst_null X180 hx hby at_72 (pc' := 73) rfl ?_
    refine own_lk14 hw X180 hx hZ hby (by rw [hml]; rfl) hown at_73 (pc' := 76) rfl e180 (W := 1) (Nat.le_of_eq rfl) (rmNT l Z a0 hw [] b180 p3 (2 : Int64) h180 n0 Zn f_O_b180 ge_b180) (by decide) (by decide) (by decide) (by decide) (fun v181 T181 L181 X181 hQ181 => ?_)
    obtain ⟨rfl, Nq181, K181, O181⟩ := hQ181
    have N181 := Fr.app N179 Nq181
    have O175 := O175.keep K181 (ninS ne_b173_b180 nin0)
    have V175 := V175.keep K181 (ninS ne_w174_b180 nin0)
    have O177 := O177.keep K181 (ninS ne_b176_b180 nin0)
    have O179 := O179.keep K181 (ninS ne_b178_b180 nin0)
    have Zn := Nat.le_trans Zn K181.1
    show own_End p e below _ (T181.setTop (mkF m 76 _ [(.ref b180)]))
    refine own_astore X181 hx hby at_76 (pc' := 78) rfl rfl (l' := #[.val (.int p0), .val (.long p1), .second, .val (.long p2), .second, .val (.long p3), .second, .val (.int (p0 &&& (3 : Int32))), .val (.int (((p0.toUInt32 >>> ((2 : Int32) &&& 31).toUInt32).toInt32) &&& (3 : Int32))), .val (.int (1 : Int32)), .val (.ref b173), .val (.ref b176), .val (.ref b178), .val (.ref b180), .unset, .unset, .unset]) rfl ?_
    refine own_aload X181 hx hby at_78 (pc' := 80) rfl rfl rfl ?_
    refine own_lk8 hw X181 hx hZ hby (by rw [hml]; rfl) hown at_80 (pc' := 83) rfl rfl O175.1 (W := 0) (Nat.le_of_eq rfl) (rmE0 l Z a0 hw [] b173 w174 T181.heap n0 Zn O175) (by decide) (by decide) (by decide) (by decide) (fun v182 T182 L182 X182 hQ182 => ?_)
    obtain ⟨rfl, Nq182, e182⟩ := hQ182
    have N182 := Fr.app N181 Nq182
    show own_End p e below _ (T182.setTop (mkF m 83 _ [(.int (1 : Int32))]))
    refine own_istore X182 hx hby at_83 (pc' := 85) rfl (l' := #[.val (.int p0), .val (.long p1), .second, .val (.long p2), .second, .val (.long p3), .second, .val (.int (p0 &&& (3 : Int32))), .val (.int (((p0.toUInt32 >>> ((2 : Int32) &&& 31).toUInt32).toInt32) &&& (3 : Int32))), .val (.int (1 : Int32)), .val (.ref b173), .val (.ref b176), .val (.ref b178), .val (.ref b180), .val (.int (1 : Int32)), .unset, .unset]) rfl ?_
    exact own_s85 Z a0 hw p0 p1 p2 p3 b173 w174 kk174 b176 p1 (0 : Int64) b178 p2 (1 : Int64) b180 p3 (2 : Int64) (p0 &&& (3 : Int32)) (((p0.toUInt32 >>> ((2 : Int32) &&& 31).toUInt32).toInt32) &&& (3 : Int32)) (1 : Int32)  h0 n0 T181.heap (own_mono X182 (by decide) (by decide)) hx hby hlk hml hown hret hZ e182 N182 Zn  O175 V175 ov175 ge_b173 ge_w174 O177 O179 O181 ge_b176 ge_b178 ge_b180 ne_b176_b178 ne_b176_b180 ne_b178_b180 (own_and3 _) (Or.inr rfl) (own_and3 _)
set_option maxRecDepth 65536 in
set_option maxHeartbeats 40000000 in
theorem comes_1 {Post : Tables → Env → Array Value → State → Outcome → State → Prop} (hpost : ∀ tb e args s v u, (limb_1_1.after args s (.returned v) u = true ∧ limb_1_2.after args s (.returned v) u = true ∧ True) → FrameEnd s (.returned v) u (Jvm.fieldLocs frame_1_writes args s ++ Jvm.arrayLocs frame_1_arrays args s ++ Jvm.staticLocs frame_1_statics s) 24 192 → Post tb e args s (.returned v) u) :
    ArmFor flags0 classFile x code maxLocals ret World_1 tables_1 room_1 Calls_1 rest_1 Pre_1 Post := by
  intro l hfl _ _ p e ha hc hk s m args below hf hA hF happ hP
  obtain ⟨hcalls, hrest, hpre⟩ := hP
  obtain ⟨-, -, -, hnamed, -, -, -, hat⟩ := (Spec.applies_iff hf).mp happ
  obtain ⟨hg, hn⟩ := and_e (Cond.before_iff.mp (show (Jvm.Cond.and given_1 narrow_1).before args s = true from hpre))
  obtain ⟨g1, g2⟩ := and_e hg
  obtain ⟨g3, g4⟩ := and_e g2
  obtain ⟨g5, g6⟩ := and_e g4
  obtain ⟨g7, g8⟩ := and_e g6
  obtain ⟨w0, w1, w2, w3, rfl⟩ : ∃ w0 w1 w2 w3 : Value, args = #[w0, w1, w2, w3] := by
    have hs : args.size = 4 := by simpa [Cond.value, given_1] using g1
    obtain ⟨L⟩ := args
    match L, hs with
    | [w0, w1, w2, w3], _ => exact ⟨w0, w1, w2, w3, rfl⟩
  have hw := fun d (hd : d ∈ tables_1) => atoms_spec (ws := Jvm.Cond.code x code maxLocals ret :: tables_1) hat d (List.mem_cons_of_mem _ hd)
  have hfit : Fit s := fun {y c} hc i hi => by
    obtain ⟨ha, rfl⟩ := Array.getElem?_eq_some_iff.mp hc
    have q := List.all_eq_true.mp ((Array.all_eq_true_iff_forall_mem.mp hF) _ (Array.getElem_mem ha)) i (List.mem_range.mpr hi)
    simpa [Array.getElem?_eq_getElem hi] using q
  obtain ⟨i0, ei0⟩ := is_v g3
  obtain rfl : w0 = (.int i0) := Option.some.inj ei0
  obtain ⟨i1, ei1⟩ := isL_v g5
  obtain rfl : w1 = (.long i1) := Option.some.inj ei1
  obtain ⟨i2, ei2⟩ := isL_v g7
  obtain rfl : w2 = (.long i2) := Option.some.inj ei2
  obtain ⟨i3, ei3⟩ := isL_v g8
  obtain rfl : w3 = (.long i3) := Option.some.inj ei3
  obtain ⟨n, o, h1, h2, h3, _, L, rfl, ⟨rfl, N⟩, hq⟩ := rm0 l s _ hw tables_1 i0 i1 i2 i3 s.heap s.heap.size (Nat.le_refl _)  p e ha hc hk s m _ below hf ((Spec.applies_iff_loose hf).mp happ).1 ⟨rfl, State.Warmed39.refl s, rfl⟩ trivial
  refine ⟨n, _, h1, h2, h3, hpost _ _ _ _ _ _ ⟨Cond.after_iff.mpr rfl, Cond.after_iff.mpr (eq_i res_at (Term.int_eval (1)) rfl), trivial⟩ ⟨hq.1, hq.2.1, (hq.2.2.sift fun y hy => Or.inr (N y hy)).mono (by decide) (by decide)⟩⟩
theorem main_1_1 : Claimed_1_1 := comes_1 fun _ _ _ _ _ _ h hF => ⟨h.1, hF⟩
theorem main_1_2 : Claimed_1_2 := comes_1 fun _ _ _ _ _ _ h hF => ⟨h.2.1, hF⟩
end Jvm.Pilot.@@N@@
namespace Jvm.Pilot.@@N@@
open Jvm Jvm.ClassFile Sem Op Lib Jvm.Free Jvm.Stand Jvm.Pilot.@@N@@.Jvm.D
/-! MADE BY PROGRAM (witnessworld.py) out of the Statement's table words and the real class files: 12 classes; the members and pool entries that the words name. The judged class is class 1, her method 1. -/
namespace start1
open Jvm.ClassFile
def u (s : String) : CpInfo := .utf8 (stringToUtf16 s)
/-- a pool by its gaps: so many unusable entries, then the entry; so many at the end -/
def gap : Nat → List CpInfo → List CpInfo
  | 0, r => r
  | n + 1, r => .unusable :: gap n r
def poolList (es : List (Nat × CpInfo)) (last : Nat) : List CpInfo := es.foldr (fun e r => gap e.1 (e.2 :: r)) (gap last [])
def pool (es : List (Nat × CpInfo)) (last : Nat) : Array CpInfo := ⟨poolList es last⟩
def fileOf (pool : Array CpInfo) (this : Nat) (attrs : Array Attribute := #[]) (ms : Array MethodInfo := #[]) (fl : Nat := 33) (sup : Nat := 0) (ifs : Array Nat := #[]) (fds : Array FieldInfo := #[]) : ClassFile where
  minorVersion := 0
  majorVersion := 65
  constantPool := pool
  accessFlags := fl
  thisClass := this
  superClass := sup
  interfaces := ifs
  fields := fds
  methods := ms
  attributes := attrs
def plain (name : String) (sup : Option ClassId) : Class where
  name := name
  kind := .ordinary
  loader := none
  accessFlags := 33
  super := sup
  interfaces := #[]
  cf := none
  fields := #[]
  methods := #[]
  instanceTypes := #[]
  staticTypes := #[]
  resolved := #[]
  callSites := []
  init := .initialized
  statics := none
  mirror := none

def pool0 : Array CpInfo := pool [(5, u "<init>"), (0, u "()V"), (1, .class_ 10), (1, u "java/lang/Object")] 113

def k0c0 : Code := { maxStack := 0, maxLocals := 1, code := object_method_1_code, exceptionTable := #[], attributes := #[] }
def k0m0 : Method := { name := "<init>", desc := "()V", sig := { parameters := [], returnType := none }, accessFlags := 1, code := some k0c0 }
/-- java/lang/Object -/
def k0 : Class := { plain "java/lang/Object" none with
  accessFlags := 33
  interfaces := #[]
  cf := some (fileOf pool0 8 #[] #[{ accessFlags := 1, nameIndex := 5, descriptorIndex := 6, attributes := #[] }] 33 0 #[] #[])
  fields := #[]
  methods := #[k0m0]
  instanceTypes := #[]
  staticTypes := #[]
  resolved := Array.replicate 124 none
  statics := none }

def pool1 : Array CpInfo := pool [(2, .class_ 4), (0, .nameAndType 5 6), (0, u "java/lang/Object"), (0, u "<init>"), (0, u "()V"), (0, .class_ 8), (0, u "com/example/earnest_reactor/earnestreactor/core/TimerQueue"), (0, .methodref 7 3), (0, .class_ 11), (0, u "com/example/earnest_reactor/earnestreactor/core/ScheduledTask"), (0, .methodref 10 13), (0, .nameAndType 5 14), (0, u "(Lcom/example/earnest_reactor/earnestreactor/core/EventLoop;JJLjava/lang/Runnable;)V"), (0, .long 2), (1, .methodref 7 18), (0, .nameAndType 19 20), (0, u "isEmpty"), (0, u "()Z"), (0, .methodref 7 22), (0, .nameAndType 23 24), (0, u "add"), (0, u "(Lcom/example/earnest_reactor/earnestreactor/core/ScheduledTask;)V"), (0, .methodref 7 26), (0, .nameAndType 27 28), (0, u "remove"), (0, u "(Lcom/example/earnest_reactor/earnestreactor/core/ScheduledTask;)Z"), (0, .methodref 7 30), (0, .nameAndType 31 32), (0, u "poll"), (0, u "()Lcom/example/earnest_reactor/earnestreactor/core/ScheduledTask;"), (0, .methodref 34 35), (0, .class_ 36), (0, .nameAndType 37 38), (0, u "java/lang/Math"), (0, u "max"), (0, u "(II)I"), (0, .methodref 7 40), (0, .nameAndType 41 32), (0, u "peek"), (0, .class_ 43), (0, u "com/example/earnest_reactor/earnestreactor/core/TimerQueueIsEmptyPinLaw"), (2, u "law"), (0, u "(IJJJ)Z")] 3

def k1m0 : Method := { name := "<init>", desc := "()V", sig := { parameters := [], returnType := none }, accessFlags := 1, code := none }
def k1c1 : Code := { maxStack := 8, maxLocals := 17, code := code, exceptionTable := #[], attributes := #[] }
def k1m1 : Method := { name := "law", desc := "(IJJJ)Z", sig := { parameters := [.int, .long, .long, .long], returnType := some .boolean }, accessFlags := 9, code := some k1c1 }
/-- com/example/earnest_reactor/earnestreactor/core/TimerQueueIsEmptyPinLaw -/
def k1 : Class := { plain "com/example/earnest_reactor/earnestreactor/core/TimerQueueIsEmptyPinLaw" (some 0) with
  accessFlags := 49
  interfaces := #[]
  cf := some (fileOf pool1 42 #[] #[{ accessFlags := 1, nameIndex := 5, descriptorIndex := 6, attributes := #[] }, { accessFlags := 9, nameIndex := 46, descriptorIndex := 47, attributes := #[] }] 49 2 #[] #[])
  fields := #[]
  methods := #[k1m0, k1m1]
  instanceTypes := #[]
  staticTypes := #[]
  resolved := Array.replicate 51 none
  statics := none }

def pool2 : Array CpInfo := pool [(1, .methodref 2 3), (0, .class_ 4), (0, .nameAndType 5 6), (0, u "java/lang/Object"), (0, u "<init>"), (0, u "()V"), (0, .class_ 8), (0, u "com/example/earnest_reactor/earnestreactor/core/TimerQueue"), (0, .class_ 10), (0, u "com/example/earnest_reactor/earnestreactor/core/ScheduledTask"), (0, .fieldref 7 12), (0, .nameAndType 13 14), (0, u "heap"), (0, u "[Lcom/example/earnest_reactor/earnestreactor/core/ScheduledTask;"), (0, .fieldref 7 16), (0, .nameAndType 17 18), (0, u "size"), (0, u "I"), (7, .methodref 7 27), (0, .nameAndType 28 29), (0, u "siftUp"), (0, u "(ILcom/example/earnest_reactor/earnestreactor/core/ScheduledTask;)V"), (0, .methodref 7 31), (0, .nameAndType 32 33), (0, u "removeAt"), (0, u "(I)V"), (0, .methodref 9 35), (0, .nameAndType 36 37), (0, u "queueIndex"), (0, u "()I"), (0, .methodref 9 39), (0, .nameAndType 36 33), (0, .methodref 7 41), (0, .nameAndType 42 29), (0, u "siftDown"), (0, .methodref 9 44), (0, .nameAndType 45 46), (0, u "runsBefore"), (0, u "(Lcom/example/earnest_reactor/earnestreactor/core/ScheduledTask;)Z"), (0, .methodref 7 48), (0, .nameAndType 49 29), (0, u "place"), (0, u "INITIAL_CAPACITY"), (4, u "isEmpty"), (0, u "()Z"), (1, u "peek"), (0, u "()Lcom/example/earnest_reactor/earnestreactor/core/ScheduledTask;"), (0, u "add"), (0, u "(Lcom/example/earnest_reactor/earnestreactor/core/ScheduledTask;)V"), (0, u "poll"), (0, u "remove")] 2

def k2c0 : Code := { maxStack := 2, maxLocals := 1, code := prog_35_method_1_code, exceptionTable := #[], attributes := #[] }
def k2m0 : Method := { name := "<init>", desc := "()V", sig := { parameters := [], returnType := none }, accessFlags := 0, code := some k2c0 }
def k2c1 : Code := { maxStack := 1, maxLocals := 1, code := prog_35_method_2_code, exceptionTable := #[], attributes := #[] }
def k2m1 : Method := { name := "isEmpty", desc := "()Z", sig := { parameters := [], returnType := some .boolean }, accessFlags := 0, code := some k2c1 }
def k2c2 : Code := { maxStack := 2, maxLocals := 1, code := prog_35_method_3_code, exceptionTable := #[], attributes := #[] }
def k2m2 : Method := { name := "peek", desc := "()Lcom/example/earnest_reactor/earnestreactor/core/ScheduledTask;", sig := { parameters := [], returnType := some (.object "com/example/earnest_reactor/earnestreactor/core/ScheduledTask") }, accessFlags := 0, code := some k2c2 }
def k2c3 : Code := { maxStack := 4, maxLocals := 2, code := prog_35_method_4_code, exceptionTable := #[], attributes := #[] }
def k2m3 : Method := { name := "add", desc := "(Lcom/example/earnest_reactor/earnestreactor/core/ScheduledTask;)V", sig := { parameters := [(.object "com/example/earnest_reactor/earnestreactor/core/ScheduledTask")], returnType := none }, accessFlags := 0, code := some k2c3 }
def k2c4 : Code := { maxStack := 2, maxLocals := 2, code := prog_35_method_5_code, exceptionTable := #[], attributes := #[] }
def k2m4 : Method := { name := "poll", desc := "()Lcom/example/earnest_reactor/earnestreactor/core/ScheduledTask;", sig := { parameters := [], returnType := some (.object "com/example/earnest_reactor/earnestreactor/core/ScheduledTask") }, accessFlags := 0, code := some k2c4 }
def k2c5 : Code := { maxStack := 2, maxLocals := 3, code := prog_35_method_6_code, exceptionTable := #[], attributes := #[] }
def k2m5 : Method := { name := "remove", desc := "(Lcom/example/earnest_reactor/earnestreactor/core/ScheduledTask;)Z", sig := { parameters := [(.object "com/example/earnest_reactor/earnestreactor/core/ScheduledTask")], returnType := some .boolean }, accessFlags := 0, code := some k2c5 }
def k2c6 : Code := { maxStack := 3, maxLocals := 4, code := prog_35_method_7_code, exceptionTable := #[], attributes := #[] }
def k2m6 : Method := { name := "removeAt", desc := "(I)V", sig := { parameters := [.int], returnType := none }, accessFlags := 2, code := some k2c6 }
def k2c7 : Code := { maxStack := 4, maxLocals := 5, code := prog_35_method_8_code, exceptionTable := #[], attributes := #[] }
def k2m7 : Method := { name := "siftUp", desc := "(ILcom/example/earnest_reactor/earnestreactor/core/ScheduledTask;)V", sig := { parameters := [.int, (.object "com/example/earnest_reactor/earnestreactor/core/ScheduledTask")], returnType := none }, accessFlags := 2, code := some k2c7 }
def k2c8 : Code := { maxStack := 4, maxLocals := 6, code := prog_35_method_9_code, exceptionTable := #[], attributes := #[] }
def k2m8 : Method := { name := "siftDown", desc := "(ILcom/example/earnest_reactor/earnestreactor/core/ScheduledTask;)V", sig := { parameters := [.int, (.object "com/example/earnest_reactor/earnestreactor/core/ScheduledTask")], returnType := none }, accessFlags := 2, code := some k2c8 }
def k2c9 : Code := { maxStack := 3, maxLocals := 3, code := prog_35_method_10_code, exceptionTable := #[], attributes := #[] }
def k2m9 : Method := { name := "place", desc := "(ILcom/example/earnest_reactor/earnestreactor/core/ScheduledTask;)V", sig := { parameters := [.int, (.object "com/example/earnest_reactor/earnestreactor/core/ScheduledTask")], returnType := none }, accessFlags := 2, code := some k2c9 }
/-- com/example/earnest_reactor/earnestreactor/core/TimerQueue -/
def k2 : Class := { plain "com/example/earnest_reactor/earnestreactor/core/TimerQueue" (some 0) with
  accessFlags := 32
  interfaces := #[]
  cf := some (fileOf pool2 7 #[] #[{ accessFlags := 0, nameIndex := 5, descriptorIndex := 6, attributes := #[] }, { accessFlags := 0, nameIndex := 55, descriptorIndex := 56, attributes := #[] }, { accessFlags := 0, nameIndex := 58, descriptorIndex := 59, attributes := #[] }, { accessFlags := 0, nameIndex := 60, descriptorIndex := 61, attributes := #[] }, { accessFlags := 0, nameIndex := 62, descriptorIndex := 59, attributes := #[] }, { accessFlags := 0, nameIndex := 63, descriptorIndex := 46, attributes := #[] }, { accessFlags := 2, nameIndex := 32, descriptorIndex := 33, attributes := #[] }, { accessFlags := 2, nameIndex := 28, descriptorIndex := 29, attributes := #[] }, { accessFlags := 2, nameIndex := 42, descriptorIndex := 29, attributes := #[] }, { accessFlags := 2, nameIndex := 49, descriptorIndex := 29, attributes := #[] }] 32 2 #[] #[{ accessFlags := 26, nameIndex := 50, descriptorIndex := 18, attributes := #[] }, { accessFlags := 2, nameIndex := 13, descriptorIndex := 14, attributes := #[] }, { accessFlags := 2, nameIndex := 17, descriptorIndex := 18, attributes := #[] }])
  fields := #[{ name := "INITIAL_CAPACITY", type := .int, accessFlags := 26, slot := 0, constantValue := 0 }, { name := "heap", type := (.array (.object "com/example/earnest_reactor/earnestreactor/core/ScheduledTask")), accessFlags := 2, slot := 0, constantValue := 0 }, { name := "size", type := .int, accessFlags := 2, slot := 1, constantValue := 0 }]
  methods := #[k2m0, k2m1, k2m2, k2m3, k2m4, k2m5, k2m6, k2m7, k2m8, k2m9]
  instanceTypes := #[(.array (.object "com/example/earnest_reactor/earnestreactor/core/ScheduledTask")), .int]
  staticTypes := #[.int]
  resolved := Array.replicate 66 none
  statics := none }

def pool3 : Array CpInfo := pool [(1, .methodref 2 3), (0, .class_ 4), (0, .nameAndType 5 6), (0, u "java/lang/Object"), (0, u "<init>"), (0, u "()V"), (0, .fieldref 8 9), (0, .class_ 10), (0, .nameAndType 11 12), (0, u "com/example/earnest_reactor/earnestreactor/core/ScheduledTask"), (0, u "queueIndex"), (0, u "I"), (0, .fieldref 8 14), (0, .nameAndType 15 16), (0, u "loop"), (0, u "Lcom/example/earnest_reactor/earnestreactor/core/EventLoop;"), (0, .fieldref 8 18), (0, .nameAndType 19 20), (0, u "deadline"), (0, u "J"), (0, .fieldref 8 22), (0, .nameAndType 23 20), (0, u "sequence"), (0, .fieldref 8 25), (0, .nameAndType 26 27), (0, u "task"), (0, u "Ljava/lang/Runnable;"), (5, u "(Lcom/example/earnest_reactor/earnestreactor/core/ScheduledTask;)Z"), (0, u "(Lcom/example/earnest_reactor/earnestreactor/core/EventLoop;JJLjava/lang/Runnable;)V"), (5, u "runsBefore"), (1, u "()I"), (0, u "(I)V")] 2

def k3c0 : Code := { maxStack := 3, maxLocals := 7, code := prog_31_method_1_code, exceptionTable := #[], attributes := #[] }
def k3m0 : Method := { name := "<init>", desc := "(Lcom/example/earnest_reactor/earnestreactor/core/EventLoop;JJLjava/lang/Runnable;)V", sig := { parameters := [(.object "com/example/earnest_reactor/earnestreactor/core/EventLoop"), .long, .long, (.object "java/lang/Runnable")], returnType := none }, accessFlags := 0, code := some k3c0 }
def k3c1 : Code := { maxStack := 4, maxLocals := 4, code := prog_31_method_5_code, exceptionTable := #[], attributes := #[] }
def k3m1 : Method := { name := "runsBefore", desc := "(Lcom/example/earnest_reactor/earnestreactor/core/ScheduledTask;)Z", sig := { parameters := [(.object "com/example/earnest_reactor/earnestreactor/core/ScheduledTask")], returnType := some .boolean }, accessFlags := 0, code := some k3c1 }
def k3c2 : Code := { maxStack := 1, maxLocals := 1, code := prog_31_method_6_code, exceptionTable := #[], attributes := #[] }
def k3m2 : Method := { name := "queueIndex", desc := "()I", sig := { parameters := [], returnType := some .int }, accessFlags := 0, code := some k3c2 }
def k3c3 : Code := { maxStack := 2, maxLocals := 2, code := prog_31_method_7_code, exceptionTable := #[], attributes := #[] }
def k3m3 : Method := { name := "queueIndex", desc := "(I)V", sig := { parameters := [.int], returnType := none }, accessFlags := 0, code := some k3c3 }
/-- com/example/earnest_reactor/earnestreactor/core/ScheduledTask -/
def k3 : Class := { plain "com/example/earnest_reactor/earnestreactor/core/ScheduledTask" (some 0) with
  accessFlags := 33
  interfaces := #[]
  cf := some (fileOf pool3 8 #[] #[{ accessFlags := 0, nameIndex := 5, descriptorIndex := 34, attributes := #[] }, { accessFlags := 0, nameIndex := 40, descriptorIndex := 33, attributes := #[] }, { accessFlags := 0, nameIndex := 11, descriptorIndex := 42, attributes := #[] }, { accessFlags := 0, nameIndex := 11, descriptorIndex := 43, attributes := #[] }] 33 2 #[] #[{ accessFlags := 18, nameIndex := 15, descriptorIndex := 16, attributes := #[] }, { accessFlags := 18, nameIndex := 19, descriptorIndex := 20, attributes := #[] }, { accessFlags := 18, nameIndex := 23, descriptorIndex := 20, attributes := #[] }, { accessFlags := 18, nameIndex := 26, descriptorIndex := 27, attributes := #[] }, { accessFlags := 2, nameIndex := 11, descriptorIndex := 12, attributes := #[] }])
  fields := #[{ name := "loop", type := (.object "com/example/earnest_reactor/earnestreactor/core/EventLoop"), accessFlags := 18, slot := 0, constantValue := 0 }, { name := "deadline", type := .long, accessFlags := 18, slot := 1, constantValue := 0 }, { name := "sequence", type := .long, accessFlags := 18, slot := 2, constantValue := 0 }, { name := "task", type := (.object "java/lang/Runnable"), accessFlags := 18, slot := 3, constantValue := 0 }, { name := "queueIndex", type := .int, accessFlags := 2, slot := 4, constantValue := 0 }]
  methods := #[k3m0, k3m1, k3m2, k3m3]
  instanceTypes := #[(.object "com/example/earnest_reactor/earnestreactor/core/EventLoop"), .long, .long, (.object "java/lang/Runnable"), .int]
  staticTypes := #[]
  resolved := Array.replicate 46 none
  statics := none }

def pool4 : Array CpInfo := pool [(1, .class_ 2), (0, u "java/lang/Math"), (1, .class_ 6), (1, u "java/lang/Object"), (0, u "<init>"), (0, u "()V"), (89, .class_ 100), (1, u "java/lang/Math$RandomNumberGeneratorHolder"), (71, u "negativeZeroFloatBits"), (0, u "J"), (2, u "negativeZeroDoubleBits"), (21, u "max"), (46, u "$assertionsDisabled"), (0, u "Z"), (88, u "(II)I"), (2, u "twoToTheDoubleScaleDown"), (0, u "D"), (4, u "twoToTheDoubleScaleUp"), (9, u "E"), (3, u "PI"), (2, u "TAU"), (2, u "DEGREES_TO_RADIANS"), (0, u "RADIANS_TO_DEGREES")] 94

def k4m0 : Method := { name := "<init>", desc := "()V", sig := { parameters := [], returnType := none }, accessFlags := 2, code := none }
def k4c1 : Code := { maxStack := 2, maxLocals := 2, code := jdk_29_method_65_code, exceptionTable := #[], attributes := #[] }
def k4m1 : Method := { name := "max", desc := "(II)I", sig := { parameters := [.int, .int], returnType := some .int }, accessFlags := 9, code := some k4c1 }
/-- java/lang/Math -/
def k4 : Class := { plain "java/lang/Math" (some 0) with
  accessFlags := 49
  interfaces := #[]
  cf := some (fileOf pool4 1 #[.nestMembers #[98]] #[{ accessFlags := 2, nameIndex := 7, descriptorIndex := 8, attributes := #[] }, { accessFlags := 9, nameIndex := 198, descriptorIndex := 335, attributes := #[] }] 49 4 #[] #[{ accessFlags := 25, nameIndex := 354, descriptorIndex := 339, attributes := #[] }, { accessFlags := 25, nameIndex := 358, descriptorIndex := 339, attributes := #[] }, { accessFlags := 25, nameIndex := 361, descriptorIndex := 339, attributes := #[] }, { accessFlags := 26, nameIndex := 364, descriptorIndex := 339, attributes := #[] }, { accessFlags := 26, nameIndex := 365, descriptorIndex := 339, attributes := #[] }, { accessFlags := 26, nameIndex := 172, descriptorIndex := 173, attributes := #[] }, { accessFlags := 26, nameIndex := 176, descriptorIndex := 173, attributes := #[] }, { accessFlags := 8, nameIndex := 344, descriptorIndex := 339, attributes := #[] }, { accessFlags := 8, nameIndex := 338, descriptorIndex := 339, attributes := #[] }, { accessFlags := 4120, nameIndex := 245, descriptorIndex := 246, attributes := #[] }])
  fields := #[{ name := "E", type := .double, accessFlags := 25, slot := 0, constantValue := 0 }, { name := "PI", type := .double, accessFlags := 25, slot := 1, constantValue := 0 }, { name := "TAU", type := .double, accessFlags := 25, slot := 2, constantValue := 0 }, { name := "DEGREES_TO_RADIANS", type := .double, accessFlags := 26, slot := 3, constantValue := 0 }, { name := "RADIANS_TO_DEGREES", type := .double, accessFlags := 26, slot := 4, constantValue := 0 }, { name := "negativeZeroFloatBits", type := .long, accessFlags := 26, slot := 5, constantValue := 0 }, { name := "negativeZeroDoubleBits", type := .long, accessFlags := 26, slot := 6, constantValue := 0 }, { name := "twoToTheDoubleScaleUp", type := .double, accessFlags := 8, slot := 7, constantValue := 0 }, { name := "twoToTheDoubleScaleDown", type := .double, accessFlags := 8, slot := 8, constantValue := 0 }, { name := "$assertionsDisabled", type := .boolean, accessFlags := 4120, slot := 9, constantValue := 0 }]
  methods := #[k4m0, k4m1]
  instanceTypes := #[]
  staticTypes := #[.double, .double, .double, .double, .double, .long, .long, .double, .double, .boolean]
  resolved := Array.replicate 460 none
  statics := none }

def pool5 : Array CpInfo := pool [(1, u "java/lang/Cloneable"), (0, .class_ 1), (0, u "java/lang/Object"), (0, .class_ 3)] 3

/-- java/lang/Cloneable -/
def k5 : Class := { plain "java/lang/Cloneable" (some 0) with
  accessFlags := 1537
  interfaces := #[]
  cf := some (fileOf pool5 2 #[] #[] 1537 4 #[] #[])
  fields := #[]
  methods := #[]
  instanceTypes := #[]
  staticTypes := #[]
  resolved := Array.replicate 8 none
  statics := none }

def pool6 : Array CpInfo := pool [(1, u "java/io/Serializable"), (0, .class_ 1), (0, u "java/lang/Object"), (0, .class_ 3)] 3

/-- java/io/Serializable -/
def k6 : Class := { plain "java/io/Serializable" (some 0) with
  accessFlags := 1537
  interfaces := #[]
  cf := some (fileOf pool6 2 #[] #[] 1537 4 #[] #[])
  fields := #[]
  methods := #[]
  instanceTypes := #[]
  staticTypes := #[]
  resolved := Array.replicate 8 none
  statics := none }

/-- the primitive byte -/
def k7 : Class := { plain "byte" none with kind := .primitive 'B', accessFlags := 0x411 }
/-- [B -/
def k8 : Class := { plain "[B" (some 0) with kind := .array 7 .byte, interfaces := #[5, 6], accessFlags := 1041 }

/-- the primitive int -/
def k9 : Class := { plain "int" none with kind := .primitive 'I', accessFlags := 0x411 }
/-- [I -/
def k10 : Class := { plain "[I" (some 0) with kind := .array 9 .int, interfaces := #[5, 6], accessFlags := 1041 }

/-- [Lcom/example/earnest_reactor/earnestreactor/core/ScheduledTask; -/
def k11 : Class := { plain "[Lcom/example/earnest_reactor/earnestreactor/core/ScheduledTask;" (some 0) with kind := .array 3 (.object "com/example/earnest_reactor/earnestreactor/core/ScheduledTask"), interfaces := #[5, 6], accessFlags := 1041 }

def heap : Heap := #[]
def classes : Array Class := #[k0, k1, k2, k3, k4, k5, k6, k7, k8, k9, k10, k11]
def interned : List (Array UInt16 × Addr) := []
def slotsUsed : Nat := 0
def theMethod : MethodId := ⟨1, 1⟩
def args0 : Array Value := #[.int 5, .long 5, .long 5, .long 5]
def aboutOver (below : List Frame) : State where
  vm := { classes := classes, interned := interned.toArray }
  heap := heap
  slotsUsed := slotsUsed
  threads := #[{ frames := .invoking theMethod args0 :: below }]
def below0 : List Frame := [.native { method := ⟨0, 0⟩, args := #[] }]
def about1 : State := aboutOver below0
def p0 : Program := .bare "" "" ""
def e0 : Env := launch0.env 0 0 0
theorem w_frames : about1.frames = Frame.invoking theMethod args0 :: below0 := rfl
set_option maxRecDepth 65536 in
theorem w_args : argsFit about1.vm theMethod args0 = true := by decide +kernel
set_option maxRecDepth 65536 in
theorem w_heap : heapFits about1 = true := by decide +kernel
set_option maxRecDepth 65536 in
theorem w_runnable : about1.curStatus? = some .runnable := by decide +kernel
set_option maxRecDepth 65536 in
theorem w_alone : about1.alone = true := by decide +kernel
set_option maxRecDepth 65536 in
theorem w_named : about1.methodNamed? x = some theMethod := by decide +kernel
set_option maxRecDepth 65536 in
theorem w_hears : about1.hears theMethod below0 = true := by decide +kernel
set_option maxRecDepth 65536 in
theorem w_ripe : about1.ripe theMethod args0 below0 = true := by decide +kernel
theorem w_running : about1.status = .running := rfl
set_option maxRecDepth 65536 in
theorem w_room : about1.hasRoom e0.platform room_1 = true :=
  launch0.hasRoom_least _ room_1 (by decide +kernel) (by decide +kernel) (by decide +kernel) (by decide +kernel) (by decide +kernel) (by decide +kernel)
theorem allAtoms_all (ts : List Jvm.Cond) (a : Array Jvm.Value) (st : Jvm.State) : (allAtoms ts).before a st = ts.all (fun c => c.before a st) := by
  induction ts with
  | nil => rfl
  | cons c t ih =>
    show (Jvm.Cond.and c (allAtoms t)).before a st = _
    rw [Jvm.Cond.before_and, ih, List.all_cons]
def words1 : List Jvm.Cond := Jvm.Cond.code x code maxLocals ret :: tables_1
/-- a 'code' word, met by the world's own term for the bytes: nothing is compared byte by byte -/
theorem code_word {y : MethodName} {bytes : ByteArray} {mx : Nat} {rt : Option FieldType} {a : Array Value} {s : State} {m : MethodId} {meth : Method} {c : Code} (h1 : s.methodNamed? y = some m) (h2 : s.vm.method? m = some meth) (h3 : meth.code = some c) (h4 : c.code = bytes)
    (h5 : (c.maxLocals == mx && c.exceptionTable.isEmpty && decide (c.maxStack ≤ mostOperands) && decide (meth.sig.returnType = rt) && !meth.locks && decide (parseMethodDescriptor y.desc = some meth.sig)) = true) : (Jvm.Cond.code y bytes mx rt).before a s = true := by
  simp only [Bool.and_eq_true, beq_iff_eq, Bool.not_eq_true', decide_eq_true_eq] at h5
  obtain ⟨⟨⟨⟨⟨g1, g2⟩, g3⟩, g4⟩, g5⟩, g6⟩ := h5
  simp [Cond.before, Cond.holds, Cond.value, h1, h2, h3, h4, g1, g2, g3, g4, g5, g6]
def isCode : Jvm.Cond → Bool
  | .code _ _ _ _ => true
  | _ => false
theorem all_split {L : List Jvm.Cond} {P : Jvm.Cond → Bool} (h1 : L.all (fun c => isCode c || P c) = true) (h2 : ∀ c ∈ L.filter isCode, P c = true) : L.all P = true := by
  refine List.all_eq_true.mpr fun c hc => ?_
  have h := List.all_eq_true.mp h1 c hc
  rcases Bool.eq_false_or_eq_true (isCode c) with hi | hi
  · exact h2 c (List.mem_filter.mpr ⟨hc, hi⟩)
  · simpa [hi] using h
set_option maxRecDepth 65536 in
theorem w_c0 : (Jvm.Cond.code x code maxLocals ret).before args0 about1 = true := code_word (m := ⟨1, 1⟩) (meth := k1m1) (c := k1c1) (by decide +kernel) rfl rfl rfl (by decide +kernel)
set_option maxRecDepth 65536 in
theorem w_c1 : (Jvm.Cond.code ({ cls := "com/example/earnest_reactor/earnestreactor/core/TimerQueue", name := "<init>", desc := "()V" } : Jvm.MethodName) prog_35_method_1_code (1 : Nat) (Option.none : Option Jvm.ClassFile.FieldType)).before args0 about1 = true := code_word (m := ⟨2, 0⟩) (meth := k2m0) (c := k2c0) (by decide +kernel) rfl rfl rfl (by decide +kernel)
set_option maxRecDepth 65536 in
theorem w_c2 : (Jvm.Cond.code ({ cls := "java/lang/Object", name := "<init>", desc := "()V" } : Jvm.MethodName) object_method_1_code (1 : Nat) (Option.none : Option Jvm.ClassFile.FieldType)).before args0 about1 = true := code_word (m := ⟨0, 0⟩) (meth := k0m0) (c := k0c0) (by decide +kernel) rfl rfl rfl (by decide +kernel)
set_option maxRecDepth 65536 in
theorem w_c3 : (Jvm.Cond.code ({ cls := "com/example/earnest_reactor/earnestreactor/core/ScheduledTask", name := "<init>", desc := "(Lcom/example/earnest_reactor/earnestreactor/core/EventLoop;JJLjava/lang/Runnable;)V" } : Jvm.MethodName) prog_31_method_1_code (7 : Nat) (Option.none : Option Jvm.ClassFile.FieldType)).before args0 about1 = true := code_word (m := ⟨3, 0⟩) (meth := k3m0) (c := k3c0) (by decide +kernel) rfl rfl rfl (by decide +kernel)
set_option maxRecDepth 65536 in
theorem w_c4 : (Jvm.Cond.code ({ cls := "com/example/earnest_reactor/earnestreactor/core/TimerQueue", name := "isEmpty", desc := "()Z" } : Jvm.MethodName) prog_35_method_2_code (1 : Nat) (Option.some Jvm.ClassFile.FieldType.boolean)).before args0 about1 = true := code_word (m := ⟨2, 1⟩) (meth := k2m1) (c := k2c1) (by decide +kernel) rfl rfl rfl (by decide +kernel)
set_option maxRecDepth 65536 in
theorem w_c5 : (Jvm.Cond.code ({ cls := "java/lang/Math", name := "max", desc := "(II)I" } : Jvm.MethodName) jdk_29_method_65_code (2 : Nat) (Option.some Jvm.ClassFile.FieldType.int)).before args0 about1 = true := code_word (m := ⟨4, 1⟩) (meth := k4m1) (c := k4c1) (by decide +kernel) rfl rfl rfl (by decide +kernel)
set_option maxRecDepth 65536 in
theorem w_c6 : (Jvm.Cond.code ({ cls := "com/example/earnest_reactor/earnestreactor/core/TimerQueue", name := "peek", desc := "()Lcom/example/earnest_reactor/earnestreactor/core/ScheduledTask;" } : Jvm.MethodName) prog_35_method_3_code (1 : Nat) (Option.some (Jvm.ClassFile.FieldType.object "com/example/earnest_reactor/earnestreactor/core/ScheduledTask"))).before args0 about1 = true := code_word (m := ⟨2, 2⟩) (meth := k2m2) (c := k2c2) (by decide +kernel) rfl rfl rfl (by decide +kernel)
set_option maxRecDepth 65536 in
theorem w_c7 : (Jvm.Cond.code ({ cls := "com/example/earnest_reactor/earnestreactor/core/TimerQueue", name := "add", desc := "(Lcom/example/earnest_reactor/earnestreactor/core/ScheduledTask;)V" } : Jvm.MethodName) prog_35_method_4_code (2 : Nat) (Option.none : Option Jvm.ClassFile.FieldType)).before args0 about1 = true := code_word (m := ⟨2, 3⟩) (meth := k2m3) (c := k2c3) (by decide +kernel) rfl rfl rfl (by decide +kernel)
set_option maxRecDepth 65536 in
theorem w_c8 : (Jvm.Cond.code ({ cls := "com/example/earnest_reactor/earnestreactor/core/TimerQueue", name := "siftUp", desc := "(ILcom/example/earnest_reactor/earnestreactor/core/ScheduledTask;)V" } : Jvm.MethodName) prog_35_method_8_code (5 : Nat) (Option.none : Option Jvm.ClassFile.FieldType)).before args0 about1 = true := code_word (m := ⟨2, 7⟩) (meth := k2m7) (c := k2c7) (by decide +kernel) rfl rfl rfl (by decide +kernel)
set_option maxRecDepth 65536 in
theorem w_c9 : (Jvm.Cond.code ({ cls := "com/example/earnest_reactor/earnestreactor/core/TimerQueue", name := "place", desc := "(ILcom/example/earnest_reactor/earnestreactor/core/ScheduledTask;)V" } : Jvm.MethodName) prog_35_method_10_code (3 : Nat) (Option.none : Option Jvm.ClassFile.FieldType)).before args0 about1 = true := code_word (m := ⟨2, 9⟩) (meth := k2m9) (c := k2c9) (by decide +kernel) rfl rfl rfl (by decide +kernel)
set_option maxRecDepth 65536 in
theorem w_c10 : (Jvm.Cond.code ({ cls := "com/example/earnest_reactor/earnestreactor/core/ScheduledTask", name := "queueIndex", desc := "(I)V" } : Jvm.MethodName) prog_31_method_7_code (2 : Nat) (Option.none : Option Jvm.ClassFile.FieldType)).before args0 about1 = true := code_word (m := ⟨3, 3⟩) (meth := k3m3) (c := k3c3) (by decide +kernel) rfl rfl rfl (by decide +kernel)
set_option maxRecDepth 65536 in
theorem w_c11 : (Jvm.Cond.code ({ cls := "com/example/earnest_reactor/earnestreactor/core/ScheduledTask", name := "runsBefore", desc := "(Lcom/example/earnest_reactor/earnestreactor/core/ScheduledTask;)Z" } : Jvm.MethodName) prog_31_method_5_code (4 : Nat) (Option.some Jvm.ClassFile.FieldType.boolean)).before args0 about1 = true := code_word (m := ⟨3, 1⟩) (meth := k3m1) (c := k3c1) (by decide +kernel) rfl rfl rfl (by decide +kernel)
set_option maxRecDepth 65536 in
theorem w_c12 : (Jvm.Cond.code ({ cls := "com/example/earnest_reactor/earnestreactor/core/TimerQueue", name := "poll", desc := "()Lcom/example/earnest_reactor/earnestreactor/core/ScheduledTask;" } : Jvm.MethodName) prog_35_method_5_code (2 : Nat) (Option.some (Jvm.ClassFile.FieldType.object "com/example/earnest_reactor/earnestreactor/core/ScheduledTask"))).before args0 about1 = true := code_word (m := ⟨2, 4⟩) (meth := k2m4) (c := k2c4) (by decide +kernel) rfl rfl rfl (by decide +kernel)
set_option maxRecDepth 65536 in
theorem w_c13 : (Jvm.Cond.code ({ cls := "com/example/earnest_reactor/earnestreactor/core/TimerQueue", name := "removeAt", desc := "(I)V" } : Jvm.MethodName) prog_35_method_7_code (4 : Nat) (Option.none : Option Jvm.ClassFile.FieldType)).before args0 about1 = true := code_word (m := ⟨2, 6⟩) (meth := k2m6) (c := k2c6) (by decide +kernel) rfl rfl rfl (by decide +kernel)
set_option maxRecDepth 65536 in
theorem w_c14 : (Jvm.Cond.code ({ cls := "com/example/earnest_reactor/earnestreactor/core/TimerQueue", name := "siftDown", desc := "(ILcom/example/earnest_reactor/earnestreactor/core/ScheduledTask;)V" } : Jvm.MethodName) prog_35_method_9_code (6 : Nat) (Option.none : Option Jvm.ClassFile.FieldType)).before args0 about1 = true := code_word (m := ⟨2, 8⟩) (meth := k2m8) (c := k2c8) (by decide +kernel) rfl rfl rfl (by decide +kernel)
set_option maxRecDepth 65536 in
theorem w_c15 : (Jvm.Cond.code ({ cls := "com/example/earnest_reactor/earnestreactor/core/TimerQueue", name := "remove", desc := "(Lcom/example/earnest_reactor/earnestreactor/core/ScheduledTask;)Z" } : Jvm.MethodName) prog_35_method_6_code (3 : Nat) (Option.some Jvm.ClassFile.FieldType.boolean)).before args0 about1 = true := code_word (m := ⟨2, 5⟩) (meth := k2m5) (c := k2c5) (by decide +kernel) rfl rfl rfl (by decide +kernel)
set_option maxRecDepth 65536 in
theorem w_c16 : (Jvm.Cond.code ({ cls := "com/example/earnest_reactor/earnestreactor/core/ScheduledTask", name := "queueIndex", desc := "()I" } : Jvm.MethodName) prog_31_method_6_code (1 : Nat) (Option.some Jvm.ClassFile.FieldType.int)).before args0 about1 = true := code_word (m := ⟨3, 2⟩) (meth := k3m2) (c := k3c2) (by decide +kernel) rfl rfl rfl (by decide +kernel)
def codes1 : List Jvm.Cond := [Jvm.Cond.code x code maxLocals ret, Jvm.Cond.code ({ cls := "com/example/earnest_reactor/earnestreactor/core/TimerQueue", name := "<init>", desc := "()V" } : Jvm.MethodName) prog_35_method_1_code (1 : Nat) (Option.none : Option Jvm.ClassFile.FieldType), Jvm.Cond.code ({ cls := "java/lang/Object", name := "<init>", desc := "()V" } : Jvm.MethodName) object_method_1_code (1 : Nat) (Option.none : Option Jvm.ClassFile.FieldType), Jvm.Cond.code ({ cls := "com/example/earnest_reactor/earnestreactor/core/ScheduledTask", name := "<init>", desc := "(Lcom/example/earnest_reactor/earnestreactor/core/EventLoop;JJLjava/lang/Runnable;)V" } : Jvm.MethodName) prog_31_method_1_code (7 : Nat) (Option.none : Option Jvm.ClassFile.FieldType), Jvm.Cond.code ({ cls := "com/example/earnest_reactor/earnestreactor/core/TimerQueue", name := "isEmpty", desc := "()Z" } : Jvm.MethodName) prog_35_method_2_code (1 : Nat) (Option.some Jvm.ClassFile.FieldType.boolean), Jvm.Cond.code ({ cls := "java/lang/Math", name := "max", desc := "(II)I" } : Jvm.MethodName) jdk_29_method_65_code (2 : Nat) (Option.some Jvm.ClassFile.FieldType.int), Jvm.Cond.code ({ cls := "com/example/earnest_reactor/earnestreactor/core/TimerQueue", name := "peek", desc := "()Lcom/example/earnest_reactor/earnestreactor/core/ScheduledTask;" } : Jvm.MethodName) prog_35_method_3_code (1 : Nat) (Option.some (Jvm.ClassFile.FieldType.object "com/example/earnest_reactor/earnestreactor/core/ScheduledTask")), Jvm.Cond.code ({ cls := "com/example/earnest_reactor/earnestreactor/core/TimerQueue", name := "add", desc := "(Lcom/example/earnest_reactor/earnestreactor/core/ScheduledTask;)V" } : Jvm.MethodName) prog_35_method_4_code (2 : Nat) (Option.none : Option Jvm.ClassFile.FieldType), Jvm.Cond.code ({ cls := "com/example/earnest_reactor/earnestreactor/core/TimerQueue", name := "siftUp", desc := "(ILcom/example/earnest_reactor/earnestreactor/core/ScheduledTask;)V" } : Jvm.MethodName) prog_35_method_8_code (5 : Nat) (Option.none : Option Jvm.ClassFile.FieldType), Jvm.Cond.code ({ cls := "com/example/earnest_reactor/earnestreactor/core/TimerQueue", name := "place", desc := "(ILcom/example/earnest_reactor/earnestreactor/core/ScheduledTask;)V" } : Jvm.MethodName) prog_35_method_10_code (3 : Nat) (Option.none : Option Jvm.ClassFile.FieldType), Jvm.Cond.code ({ cls := "com/example/earnest_reactor/earnestreactor/core/ScheduledTask", name := "queueIndex", desc := "(I)V" } : Jvm.MethodName) prog_31_method_7_code (2 : Nat) (Option.none : Option Jvm.ClassFile.FieldType), Jvm.Cond.code ({ cls := "com/example/earnest_reactor/earnestreactor/core/ScheduledTask", name := "runsBefore", desc := "(Lcom/example/earnest_reactor/earnestreactor/core/ScheduledTask;)Z" } : Jvm.MethodName) prog_31_method_5_code (4 : Nat) (Option.some Jvm.ClassFile.FieldType.boolean), Jvm.Cond.code ({ cls := "com/example/earnest_reactor/earnestreactor/core/TimerQueue", name := "poll", desc := "()Lcom/example/earnest_reactor/earnestreactor/core/ScheduledTask;" } : Jvm.MethodName) prog_35_method_5_code (2 : Nat) (Option.some (Jvm.ClassFile.FieldType.object "com/example/earnest_reactor/earnestreactor/core/ScheduledTask")), Jvm.Cond.code ({ cls := "com/example/earnest_reactor/earnestreactor/core/TimerQueue", name := "removeAt", desc := "(I)V" } : Jvm.MethodName) prog_35_method_7_code (4 : Nat) (Option.none : Option Jvm.ClassFile.FieldType), Jvm.Cond.code ({ cls := "com/example/earnest_reactor/earnestreactor/core/TimerQueue", name := "siftDown", desc := "(ILcom/example/earnest_reactor/earnestreactor/core/ScheduledTask;)V" } : Jvm.MethodName) prog_35_method_9_code (6 : Nat) (Option.none : Option Jvm.ClassFile.FieldType), Jvm.Cond.code ({ cls := "com/example/earnest_reactor/earnestreactor/core/TimerQueue", name := "remove", desc := "(Lcom/example/earnest_reactor/earnestreactor/core/ScheduledTask;)Z" } : Jvm.MethodName) prog_35_method_6_code (3 : Nat) (Option.some Jvm.ClassFile.FieldType.boolean), Jvm.Cond.code ({ cls := "com/example/earnest_reactor/earnestreactor/core/ScheduledTask", name := "queueIndex", desc := "()I" } : Jvm.MethodName) prog_31_method_6_code (1 : Nat) (Option.some Jvm.ClassFile.FieldType.int)]
set_option maxRecDepth 65536 in
theorem codes_eq : words1.filter isCode = codes1 := rfl
theorem w_codes : ∀ c ∈ words1.filter isCode, c.before args0 about1 = true := by
  rw [codes_eq]
  intro c hc
  simp only [codes1, List.mem_cons, List.not_mem_nil, or_false] at hc
  rcases hc with rfl | rfl | rfl | rfl | rfl | rfl | rfl | rfl | rfl | rfl | rfl | rfl | rfl | rfl | rfl | rfl | rfl
  · exact w_c0
  · exact w_c1
  · exact w_c2
  · exact w_c3
  · exact w_c4
  · exact w_c5
  · exact w_c6
  · exact w_c7
  · exact w_c8
  · exact w_c9
  · exact w_c10
  · exact w_c11
  · exact w_c12
  · exact w_c13
  · exact w_c14
  · exact w_c15
  · exact w_c16
set_option maxRecDepth 65536 in
theorem w_t1 : (words1.take 24).all (fun c => isCode c || c.before args0 about1) = true := by decide +kernel
set_option maxRecDepth 65536 in
theorem w_t2 : ((words1.drop 24).take 24).all (fun c => isCode c || c.before args0 about1) = true := by decide +kernel
set_option maxRecDepth 65536 in
theorem w_t3 : (((words1.drop 24).drop 24).take 24).all (fun c => isCode c || c.before args0 about1) = true := by decide +kernel
set_option maxRecDepth 65536 in
theorem w_t4 : (((words1.drop 24).drop 24).drop 24).all (fun c => isCode c || c.before args0 about1) = true := by decide +kernel
theorem w_tables : (allAtoms (Jvm.Cond.code x code maxLocals ret :: tables_1)).before args0 about1 = true := by
  rw [allAtoms_all]
  show words1.all (fun c => c.before args0 about1) = true
  refine all_split ?_ w_codes
  rw [← List.take_append_drop 24 words1, List.all_append, w_t1, ← List.take_append_drop 24 (words1.drop 24), List.all_append, w_t2, ← List.take_append_drop 24 ((words1.drop 24).drop 24), List.all_append, w_t3, w_t4]
  rfl
set_option maxRecDepth 65536 in
theorem w_case : (Jvm.Cond.and given_1 narrow_1).before args0 about1 = true := by decide +kernel
theorem w_applies : (headSpec (Jvm.Cond.code x code maxLocals ret :: tables_1) room_1).applies x e0.platform about1 = true :=
  (Spec.applies_iff w_frames).mpr ⟨w_running, w_runnable, w_alone, w_named, w_hears, w_ripe, w_room, w_tables⟩
theorem atStart : AtStart classFile x code maxLocals ret World_1 tables_1 room_1 Calls_1 rest_1 Pre_1 launch0 p0 e0 about1 theMethod args0 below0 :=
  ⟨lists_1, trivial, launch0.admits_env _ _ _, launch0.least_env, fairChoices_fair.cas, fairChoices_fair.clock, w_frames, w_args, w_heap, w_applies, trivial, trivial, w_case⟩
end start1
theorem witness_1 : WitnessClaimed_1 := ⟨start1.p0, start1.e0, start1.about1, start1.theMethod, start1.args0, start1.below0, start1.atStart⟩
end Jvm.Pilot.@@N@@
