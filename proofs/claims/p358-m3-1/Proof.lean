import JvmDerived
import JvmDerived.Pilot.@@N@@Statement
import JvmDerived.Pilot.@@N@@Code
set_option linter.unusedVariables false
set_option linter.unusedSimpArgs false
namespace Jvm.Pilot.@@N@@
open Jvm Jvm.ClassFile Sem Op Lib Jvm.Free Jvm.Stand Jvm.LawKit Jvm.RoadKit Bundle Jvm.Pilot.@@N@@.Jvm.D
section OwnKit
variable {p : Program} {l : Launch} {e : Env} {R : Room} {s : State} {m : MethodId} {args : Array Value} {below : List Frame} {meth : Method} {c : Code} {T : State} {locs : List Loc} {cells slots : Nat} {Q : Option Value → Heap → List Loc → Prop} {F : Option Value → State → Prop} {KC KS : Nat} {bs : ByteArray} {pc pc' : Nat} {Ls l' : Array Slot} {st : List Value}
/-- from U the run comes to its end: it returns v, and F says what it leaves -/
def own_End (p : Program) (e : Env) (below : List Frame) (F : Option Value → State → Prop) (U : State) : Prop :=
  ∃ s₂ v, Steps p.tables e below U s₂ ∧ s₂.status = .running ∧ Ended s₂ below (.returned v) ∧ F v s₂
def own_F (s : State) (Q : Option Value → Heap → List Loc → Prop) (KC KS : Nat) : Option Value → State → Prop := fun v s₂ => ∃ L, Q v s₂.heap L ∧ FrameEnd s (.returned v) s₂ L KC KS
def own_FS (s : State) (Q : Option Value → Heap → List Loc → Prop) (KC KS : Nat) : Option Value → State → Prop := fun v s₂ => ∃ L, Q v s₂.heap L ∧ ReturnedEndW s (.returned v) s₂ L KC KS
theorem own_body {U : State} (h : own_End p e below (own_F s Q KC KS) U) : ∃ s₂ o, Steps p.tables e below U s₂ ∧ s₂.status = .running ∧ Ended s₂ below o ∧ ∃ v L, o = .returned v ∧ Q v s₂.heap L ∧ FrameEnd s o s₂ L KC KS := by
  obtain ⟨s2, v, h1, h2, h3, L, h4, h5⟩ := h
  exact ⟨s2, _, h1, h2, h3, v, L, rfl, h4, h5⟩
theorem own_bodyS {U : State} (h : own_End p e below (own_FS s Q KC KS) U) : ∃ s₂ o, Steps p.tables e below U s₂ ∧ s₂.status = .running ∧ Ended s₂ below o ∧ ∃ v L, o = .returned v ∧ Q v s₂.heap L ∧ ReturnedEndW s o s₂ L KC KS := by
  obtain ⟨s2, v, h1, h2, h3, L, h4, h5⟩ := h
  exact ⟨s2, _, h1, h2, h3, v, L, rfl, h4, h5⟩
theorem own_step {U U' : State} (k : ∀ t, Steps p.tables e below U' t → Steps p.tables e below U t) (h : own_End p e below F U') : own_End p e below F U := by
  obtain ⟨s2, v, h1, h2⟩ := h
  exact ⟨s2, v, k _ h1, h2⟩
theorem own_trans {U U' : State} (k : Steps p.tables e below U U') (h : own_End p e below F U') : own_End p e below F U := by
  obtain ⟨s2, v, h1, h2⟩ := h
  exact ⟨s2, v, k.trans h1, h2⟩
theorem own_mono {cells' slots' : Nat} (X : Stand p l e R s m args below meth c T locs cells slots) (hc : cells ≤ cells') (hs : slots ≤ slots') : Stand p l e R s m args below meth c T locs cells' slots' := X.mono hc hs
theorem own_selPriv {y : MethodName} {n : Nat} (wi : (Cond.instantiable y.cls n).before args s = true) (hp : s.PrivateAt y) (hi : (Cond.instanceMethod y).before args s = true) (hy : y.cls ≠ "java/lang/invoke/MethodHandle" ∧ y.cls ≠ "java/lang/invoke/VarHandle") : (Cond.selects y.cls y y).before args s = true := by
  obtain ⟨c, k, h1, h2, -, h4, -⟩ := Cond.instantiable_spec wi
  exact selects_self_of_private h1 h2 (by simp only [Bool.or_eq_false_iff] at h4; exact h4.1) hp hi hy
theorem own_sta0 {Z : State} {h h' : Heap} {C n d : String} {v : Value} (S : Sta Z h C n d v) (K : Keep h h' []) : Sta Z h' C n d v := by
  obtain ⟨cf, i, k, f, st, cell, h1, h2, h3, h4, h5, h6, h7⟩ := S
  exact ⟨cf, i, k, f, st, cell, h1, h2, h3, h4, K.2.1 _ _ h5 nin0, h6, h7⟩
theorem own_sta1 {Z : State} {h h' : Heap} {C n d D : String} {v : Value} {a : Addr} (S : Sta Z h C n d v) (K : Keep h h' [a]) (E : Exa Z h a D) : Sta Z h' C n d v := by
  obtain ⟨cf, i, k, f, st, cell, h1, h2, h3, h4, h5, h6, h7⟩ := S
  obtain ⟨c', k', g1, -, -, g4, -⟩ := E
  have ne : st ≠ a := fun q => by subst q; cases h5.symm.trans g1; rw [g4] at h6; cases h6
  exact ⟨cf, i, k, f, st, cell, h1, h2, h3, h4, K.2.1 _ _ h5 (ninS ne nin0), h6, h7⟩
theorem own_cat1 {w : Value} (h : w.isRef = true) : w.category = 1 := by rcases ref_cases h with rfl | ⟨z, rfl⟩ <;> rfl
theorem own_nar {w : Value} {t : FieldType} (h : w.isRef = true) (ht : t.isReference = true) : narrow t w = w := by rcases ref_cases h with rfl | ⟨z, rfl⟩ <;> cases t <;> first | rfl | cases ht
theorem own_fit {w : Value} {t : FieldType} (h : w.isRef = true) (ht : t.isReference = true) : fits t w = true := by rcases ref_cases h with rfl | ⟨z, rfl⟩ <;> cases t <;> first | rfl | cases ht
/-- what the frame says where the run leaves -/
def own_Lv (F : Option Value → State → Prop) (s T : State) (locs : List Loc) (cells slots : Nat) (v : Option Value) : Prop := ∀ fs, s.WarmedH (T.setFrames fs).vm → s.sameButNew ({ T.setFrames fs with vm := s.vm } : State) locs cells slots → F v (T.setFrames fs)
theorem own_lv {v : Option Value} (hQ : Q v T.heap locs) (hc : cells ≤ KC) (hs : slots ≤ KS) : own_Lv (own_F s Q KC KS) s T locs cells slots v := fun fs hW hsm => ⟨locs, hQ, ⟨_, rfl⟩, hW, hsm.mono hc hs⟩
theorem own_lvS {v : Option Value} {vm₁ : Vm} {n : Nat} (hS : s.Since vm₁ n) (hn : n ≤ T.heap.size) (hQ : Q v T.heap locs) (hc : cells ≤ KC) (hs : slots ≤ KS) : own_Lv (own_FS s Q KC KS) (s.setVm vm₁) T locs cells slots v := fun fs hW hsm => by
  obtain ⟨a, b, c'⟩ := hS.ended (U := T.setFrames fs) hW hn hsm
  exact ⟨locs, hQ, ⟨_, rfl⟩, a, b, c'.mono hc hs⟩
theorem own_retW (X : Stand p l e R s m args below meth c T locs cells slots) (hx : p.tables.exec = Jvm.exec) (hlk : meth.locks = false) (hby : c.code = bs) {w : Value} {t : FieldType} {i : Instr} {rest : List Value} (hret : meth.sig.returnType = some t) (hn : narrow t w = w)
    (hi : (i = .ireturn ∧ (t = .int ∨ t = .boolean ∨ t = .byte ∨ t = .char ∨ t = .short) ∧ ∃ z, w = .int z) ∨ (i = .lreturn ∧ t = .long ∧ ∃ z, w = .long z) ∨ (i = .dreturn ∧ t = .double ∧ ∃ z, w = .double z) ∨ (i = .freturn ∧ t = .float ∧ ∃ z, w = .float z) ∨ (i = .areturn ∧ t.isReference = true ∧ w.isRef = true))
    (hd : decode bs pc = .ok (i, 1)) (hF : own_Lv F s T locs cells slots (some w)) : own_End p e below F (T.setTop (mkF m pc Ls (w :: rest))) := by
  obtain ⟨fs, hr, hrun, hended, hW, hsame⟩ := X.leave (v := some w) (fun h => by rw [hret] at h; cases h) hlk
  exact ⟨_, _, retOut X hx hret hn hi (hb hby hd) hr, hrun, hended, hF fs hW hsame⟩
theorem own_ireturn (X : Stand p l e R s m args below meth c T locs cells slots) (hx : p.tables.exec = Jvm.exec) (hlk : meth.locks = false) (hby : c.code = bs) {z : Int32} {rest : List Value} (hret : meth.sig.returnType = some .int)
    (hd : decode bs pc = .ok (.ireturn, 1)) (hF : own_Lv F s T locs cells slots (some (.int z))) : own_End p e below F (T.setTop (mkF m pc Ls (.int z :: rest))) :=
  own_retW X hx hlk hby hret rfl (Or.inl ⟨rfl, Or.inl rfl, _, rfl⟩) hd hF
theorem own_zreturn (X : Stand p l e R s m args below meth c T locs cells slots) (hx : p.tables.exec = Jvm.exec) (hlk : meth.locks = false) (hby : c.code = bs) {z : Int32} {rest : List Value} (hret : meth.sig.returnType = some .boolean) (hz : z = 0 ∨ z = 1)
    (hd : decode bs pc = .ok (.ireturn, 1)) (hF : own_Lv F s T locs cells slots (some (.int z))) : own_End p e below F (T.setTop (mkF m pc Ls (.int z :: rest))) :=
  own_retW X hx hlk hby hret (by rcases hz with rfl | rfl <;> rfl) (Or.inl ⟨rfl, Or.inr (Or.inl rfl), _, rfl⟩) hd hF
theorem own_breturn (X : Stand p l e R s m args below meth c T locs cells slots) (hx : p.tables.exec = Jvm.exec) (hlk : meth.locks = false) (hby : c.code = bs) {z : Int32} {rest : List Value} (hret : meth.sig.returnType = some .byte) (hz : z.toInt8.toInt32 = z)
    (hd : decode bs pc = .ok (.ireturn, 1)) (hF : own_Lv F s T locs cells slots (some (.int z))) : own_End p e below F (T.setTop (mkF m pc Ls (.int z :: rest))) :=
  own_retW X hx hlk hby hret (show Value.int z.toInt8.toInt32 = .int z by rw [hz]) (Or.inl ⟨rfl, Or.inr (Or.inr (Or.inl rfl)), _, rfl⟩) hd hF
theorem own_lreturn (X : Stand p l e R s m args below meth c T locs cells slots) (hx : p.tables.exec = Jvm.exec) (hlk : meth.locks = false) (hby : c.code = bs) {z : Int64} {rest : List Value} (hret : meth.sig.returnType = some .long)
    (hd : decode bs pc = .ok (.lreturn, 1)) (hF : own_Lv F s T locs cells slots (some (.long z))) : own_End p e below F (T.setTop (mkF m pc Ls (.long z :: rest))) :=
  own_retW X hx hlk hby hret rfl (Or.inr (Or.inl ⟨rfl, rfl, _, rfl⟩)) hd hF
theorem own_areturn (X : Stand p l e R s m args below meth c T locs cells slots) (hx : p.tables.exec = Jvm.exec) (hlk : meth.locks = false) (hby : c.code = bs) {w : Value} {t : FieldType} {rest : List Value} (hret : meth.sig.returnType = some t) (ht : t.isReference = true) (hw : w.isRef = true)
    (hd : decode bs pc = .ok (.areturn, 1)) (hF : own_Lv F s T locs cells slots (some w)) : own_End p e below F (T.setTop (mkF m pc Ls (w :: rest))) :=
  own_retW X hx hlk hby hret (own_nar hw ht) (Or.inr (Or.inr (Or.inr (Or.inr ⟨rfl, ht, hw⟩)))) hd hF
theorem own_return (X : Stand p l e R s m args below meth c T locs cells slots) (hx : p.tables.exec = Jvm.exec) (hlk : meth.locks = false) (hby : c.code = bs) (hret : meth.sig.returnType = none)
    (hd : decode bs pc = .ok (.return_, 1)) (hF : own_Lv F s T locs cells slots none) : own_End p e below F (T.setTop (mkF m pc Ls [])) := by
  obtain ⟨fs, hr, hrun, hended, hW, hsame⟩ := X.leave (v := none) (fun _ => rfl) hlk
  exact ⟨_, _, X.returnOut hx hret (hb hby hd) hr, hrun, hended, hF fs hW hsame⟩
section Plain
theorem own_iload (X : Stand p l e R s m args below meth c T locs cells slots) (hx : p.tables.exec = Jvm.exec) (hby : c.code = bs) {k : Nat} {v : Int32} (hd : decode bs pc = .ok (.iload k, 2)) (hp : pc + 2 = pc') (hl : Ls[k]? = some (.val (.int v))) (h : own_End p e below F (T.setTop (mkF m pc' Ls (.int v :: st)))) : own_End p e below F (T.setTop (mkF m pc Ls st)) := by
  subst hp; exact own_step (fun t k => XS.iload X.here hx rfl (hb hby hd) hl k) h
theorem own_iloadN (X : Stand p l e R s m args below meth c T locs cells slots) (hx : p.tables.exec = Jvm.exec) (hby : c.code = bs) {k : Fin 4} {v : Int32} (hd : decode bs pc = .ok (.iload_n k, 1)) (hp : pc + 1 = pc') (hl : Ls[k.val]? = some (.val (.int v))) (h : own_End p e below F (T.setTop (mkF m pc' Ls (.int v :: st)))) : own_End p e below F (T.setTop (mkF m pc Ls st)) := by
  subst hp; exact own_step (fun t k => XS.iloadN X.here hx rfl (hb hby hd) hl k) h
theorem own_lload (X : Stand p l e R s m args below meth c T locs cells slots) (hx : p.tables.exec = Jvm.exec) (hby : c.code = bs) {k : Nat} {v : Int64} (hd : decode bs pc = .ok (.lload k, 2)) (hp : pc + 2 = pc') (hl : Ls[k]? = some (.val (.long v))) (h : own_End p e below F (T.setTop (mkF m pc' Ls (.long v :: st)))) : own_End p e below F (T.setTop (mkF m pc Ls st)) := by
  subst hp; exact own_step (fun t k => XS.lload X.here hx rfl (hb hby hd) hl k) h
theorem own_lloadN (X : Stand p l e R s m args below meth c T locs cells slots) (hx : p.tables.exec = Jvm.exec) (hby : c.code = bs) {k : Fin 4} {v : Int64} (hd : decode bs pc = .ok (.lload_n k, 1)) (hp : pc + 1 = pc') (hl : Ls[k.val]? = some (.val (.long v))) (h : own_End p e below F (T.setTop (mkF m pc' Ls (.long v :: st)))) : own_End p e below F (T.setTop (mkF m pc Ls st)) := by
  subst hp; exact own_step (fun t k => XS.lloadN X.here hx rfl (hb hby hd) hl k) h
theorem own_aload (X : Stand p l e R s m args below meth c T locs cells slots) (hx : p.tables.exec = Jvm.exec) (hby : c.code = bs) {k : Nat} {v : Value} (hd : decode bs pc = .ok (.aload k, 2)) (hp : pc + 2 = pc') (hl : Ls[k]? = some (.val v)) (hv : v.isRef = true) (h : own_End p e below F (T.setTop (mkF m pc' Ls (v :: st)))) : own_End p e below F (T.setTop (mkF m pc Ls st)) := by
  subst hp; exact own_step (fun t k => XS.aload X.here hx rfl (hb hby hd) hl hv k) h
theorem own_aloadN (X : Stand p l e R s m args below meth c T locs cells slots) (hx : p.tables.exec = Jvm.exec) (hby : c.code = bs) {k : Fin 4} {v : Value} (hd : decode bs pc = .ok (.aload_n k, 1)) (hp : pc + 1 = pc') (hl : Ls[k.val]? = some (.val v)) (hv : v.isRef = true) (h : own_End p e below F (T.setTop (mkF m pc' Ls (v :: st)))) : own_End p e below F (T.setTop (mkF m pc Ls st)) := by
  subst hp; exact own_step (fun t k => XS.aloadN X.here hx rfl (hb hby hd) hl hv k) h
theorem own_istore (X : Stand p l e R s m args below meth c T locs cells slots) (hx : p.tables.exec = Jvm.exec) (hby : c.code = bs) {k : Nat} {x : Int32} (hd : decode bs pc = .ok (.istore k, 2)) (hp : pc + 2 = pc') (hl : storeLocals Ls k (.int x) = some l') (h : own_End p e below F (T.setTop (mkF m pc' l' st))) : own_End p e below F (T.setTop (mkF m pc Ls (.int x :: st))) := by
  subst hp; exact own_step (fun t k => XS.istore X.here hx rfl (hb hby hd) rfl hl k) h
theorem own_istoreN (X : Stand p l e R s m args below meth c T locs cells slots) (hx : p.tables.exec = Jvm.exec) (hby : c.code = bs) {k : Fin 4} {x : Int32} (hd : decode bs pc = .ok (.istore_n k, 1)) (hp : pc + 1 = pc') (hl : storeLocals Ls k.val (.int x) = some l') (h : own_End p e below F (T.setTop (mkF m pc' l' st))) : own_End p e below F (T.setTop (mkF m pc Ls (.int x :: st))) := by
  subst hp; exact own_step (fun t k => XS.istoreN X.here hx rfl (hb hby hd) rfl hl k) h
theorem own_lstore (X : Stand p l e R s m args below meth c T locs cells slots) (hx : p.tables.exec = Jvm.exec) (hby : c.code = bs) {k : Nat} {x : Int64} (hd : decode bs pc = .ok (.lstore k, 2)) (hp : pc + 2 = pc') (hl : storeLocals Ls k (.long x) = some l') (h : own_End p e below F (T.setTop (mkF m pc' l' st))) : own_End p e below F (T.setTop (mkF m pc Ls (.long x :: st))) := by
  subst hp; exact own_step (fun t k => XS.lstore X.here hx rfl (hb hby hd) rfl hl k) h
theorem own_lstoreN (X : Stand p l e R s m args below meth c T locs cells slots) (hx : p.tables.exec = Jvm.exec) (hby : c.code = bs) {k : Fin 4} {x : Int64} (hd : decode bs pc = .ok (.lstore_n k, 1)) (hp : pc + 1 = pc') (hl : storeLocals Ls k.val (.long x) = some l') (h : own_End p e below F (T.setTop (mkF m pc' l' st))) : own_End p e below F (T.setTop (mkF m pc Ls (.long x :: st))) := by
  subst hp; exact own_step (fun t k => XS.lstoreN X.here hx rfl (hb hby hd) rfl hl k) h
theorem own_astore (X : Stand p l e R s m args below meth c T locs cells slots) (hx : p.tables.exec = Jvm.exec) (hby : c.code = bs) {k : Nat} {x : Value} (hd : decode bs pc = .ok (.astore k, 2)) (hp : pc + 2 = pc') (hv : x.isRef = true) (hl : storeLocals Ls k x = some l') (h : own_End p e below F (T.setTop (mkF m pc' l' st))) : own_End p e below F (T.setTop (mkF m pc Ls (x :: st))) := by
  subst hp; exact own_step (fun t k => XS.astore X.here hx rfl (hb hby hd) rfl hv hl k) h
theorem own_astoreN (X : Stand p l e R s m args below meth c T locs cells slots) (hx : p.tables.exec = Jvm.exec) (hby : c.code = bs) {k : Fin 4} {x : Value} (hd : decode bs pc = .ok (.astore_n k, 1)) (hp : pc + 1 = pc') (hv : x.isRef = true) (hl : storeLocals Ls k.val x = some l') (h : own_End p e below F (T.setTop (mkF m pc' l' st))) : own_End p e below F (T.setTop (mkF m pc Ls (x :: st))) := by
  subst hp; exact own_step (fun t k => XS.astoreN X.here hx rfl (hb hby hd) rfl hv hl k) h
theorem own_iinc (X : Stand p l e R s m args below meth c T locs cells slots) (hx : p.tables.exec = Jvm.exec) (hby : c.code = bs) {k : Nat} {cst : Int} {x y : Int32} (hd : decode bs pc = .ok (.iinc k cst, 3)) (hp : pc + 3 = pc') (hl : Ls[k]? = some (.val (.int x))) (hy : x + Int32.ofInt cst = y) (hl' : storeLocals Ls k (.int y) = some l') (h : own_End p e below F (T.setTop (mkF m pc' l' st))) : own_End p e below F (T.setTop (mkF m pc Ls st)) := by
  subst hp hy; exact own_step (fun t k => XS.iinc X.here hx rfl (hb hby hd) hl hl' k) h
theorem own_iconst (X : Stand p l e R s m args below meth c T locs cells slots) (hx : p.tables.exec = Jvm.exec) (hby : c.code = bs) {i : Int} {n : Int32} (hd : decode bs pc = .ok (.iconst i, 1)) (hp : pc + 1 = pc') (hn : Int32.ofInt i = n) (h : own_End p e below F (T.setTop (mkF m pc' Ls (.int n :: st)))) : own_End p e below F (T.setTop (mkF m pc Ls st)) := by
  subst hp hn; exact own_step (fun t k => XS.iconst X.here hx rfl (hb hby hd) k) h
theorem own_bipush (X : Stand p l e R s m args below meth c T locs cells slots) (hx : p.tables.exec = Jvm.exec) (hby : c.code = bs) {i : Int} {n : Int32} (hd : decode bs pc = .ok (.bipush i, 2)) (hp : pc + 2 = pc') (hn : (Int8.ofInt i).toInt32 = n) (h : own_End p e below F (T.setTop (mkF m pc' Ls (.int n :: st)))) : own_End p e below F (T.setTop (mkF m pc Ls st)) := by
  subst hp hn; exact own_step (fun t k => XS.bipush X.here hx rfl (hb hby hd) k) h
theorem own_sipush (X : Stand p l e R s m args below meth c T locs cells slots) (hx : p.tables.exec = Jvm.exec) (hby : c.code = bs) {i : Int} {n : Int32} (hd : decode bs pc = .ok (.sipush i, 3)) (hp : pc + 3 = pc') (hn : (Int16.ofInt i).toInt32 = n) (h : own_End p e below F (T.setTop (mkF m pc' Ls (.int n :: st)))) : own_End p e below F (T.setTop (mkF m pc Ls st)) := by
  subst hp hn; exact own_step (fun t k => XS.sipush X.here hx rfl (hb hby hd) k) h
theorem own_lconst (X : Stand p l e R s m args below meth c T locs cells slots) (hx : p.tables.exec = Jvm.exec) (hby : c.code = bs) {i : Fin 2} {n : Int64} (hd : decode bs pc = .ok (.lconst i, 1)) (hp : pc + 1 = pc') (hn : Int64.ofNat i.val = n) (h : own_End p e below F (T.setTop (mkF m pc' Ls (.long n :: st)))) : own_End p e below F (T.setTop (mkF m pc Ls st)) := by
  subst hp hn; exact own_step (fun t k => XS.lconst X.here hx rfl (hb hby hd) k) h
theorem own_aconst_null (X : Stand p l e R s m args below meth c T locs cells slots) (hx : p.tables.exec = Jvm.exec) (hby : c.code = bs) (hd : decode bs pc = .ok (.aconst_null, 1)) (hp : pc + 1 = pc') (h : own_End p e below F (T.setTop (mkF m pc' Ls (.null :: st)))) : own_End p e below F (T.setTop (mkF m pc Ls st)) := by
  subst hp; exact own_step (fun t k => XS.aconstNull X.here hx rfl (hb hby hd) k) h
theorem own_goto (X : Stand p l e R s m args below meth c T locs cells slots) (hx : p.tables.exec = Jvm.exec) (hby : c.code = bs) {o : Int} (hd : decode bs pc = .ok (.goto o, 3)) (ho : 0 ≤ (pc : Int) + o) (hp : ((pc : Int) + o).toNat = pc') (h : own_End p e below F (T.setTop (mkF m pc' Ls st))) : own_End p e below F (T.setTop (mkF m pc Ls st)) :=
  own_step (fun t k => XS.goto X.here hx rfl (pc0 := pc) (pc' := pc') rfl (hb hby hd) ho hp k) h
theorem own_dup (X : Stand p l e R s m args below meth c T locs cells slots) (hx : p.tables.exec = Jvm.exec) (hby : c.code = bs) {x : Value} (hd : decode bs pc = .ok (.dup, 1)) (hp : pc + 1 = pc') (hc : x.category = 1) (h : own_End p e below F (T.setTop (mkF m pc' Ls (x :: x :: st)))) : own_End p e below F (T.setTop (mkF m pc Ls (x :: st))) := by
  subst hp; exact own_step (fun t k => XS.dup X.here hx rfl (hb hby hd) rfl hc k) h
theorem own_dup_x1 (X : Stand p l e R s m args below meth c T locs cells slots) (hx : p.tables.exec = Jvm.exec) (hby : c.code = bs) {x y : Value} (hd : decode bs pc = .ok (.dup_x1, 1)) (hp : pc + 1 = pc') (hc : x.category = 1) (hc2 : y.category = 1) (h : own_End p e below F (T.setTop (mkF m pc' Ls (x :: y :: x :: st)))) : own_End p e below F (T.setTop (mkF m pc Ls (x :: y :: st))) := by
  subst hp; exact own_step (fun t k => XS.dupX1 X.here hx rfl (hb hby hd) rfl hc hc2 k) h
theorem own_pop (X : Stand p l e R s m args below meth c T locs cells slots) (hx : p.tables.exec = Jvm.exec) (hby : c.code = bs) {x : Value} (hd : decode bs pc = .ok (.pop, 1)) (hp : pc + 1 = pc') (hc : x.category = 1) (h : own_End p e below F (T.setTop (mkF m pc' Ls st))) : own_End p e below F (T.setTop (mkF m pc Ls (x :: st))) := by
  subst hp; exact own_step (fun t k => XS.pop X.here hx rfl (hb hby hd) rfl hc k) h
theorem own_pop2 (X : Stand p l e R s m args below meth c T locs cells slots) (hx : p.tables.exec = Jvm.exec) (hby : c.code = bs) {x : Int64} (hd : decode bs pc = .ok (.pop2, 1)) (hp : pc + 1 = pc') (h : own_End p e below F (T.setTop (mkF m pc' Ls st))) : own_End p e below F (T.setTop (mkF m pc Ls (.long x :: st))) := by
  subst hp
  refine own_step (fun t k => ?_) h
  have hd' := hb hby hd
  have hc : (Value.long x).category = 2 := rfl
  jvm_step X.here [X.here.top, hx, hd', Op.pop2.wp_sem, hc]
  exact k
theorem own_iadd (X : Stand p l e R s m args below meth c T locs cells slots) (hx : p.tables.exec = Jvm.exec) (hby : c.code = bs) {x y : Int32} (hd : decode bs pc = .ok (.iadd, 1)) (hp : pc + 1 = pc') (h : own_End p e below F (T.setTop (mkF m pc' Ls (.int (x + y) :: st)))) : own_End p e below F (T.setTop (mkF m pc Ls (.int y :: .int x :: st))) := by
  subst hp; exact own_step (fun t k => XS.iadd X.here hx rfl (hb hby hd) rfl k) h
theorem own_isub (X : Stand p l e R s m args below meth c T locs cells slots) (hx : p.tables.exec = Jvm.exec) (hby : c.code = bs) {x y : Int32} (hd : decode bs pc = .ok (.isub, 1)) (hp : pc + 1 = pc') (h : own_End p e below F (T.setTop (mkF m pc' Ls (.int (x - y) :: st)))) : own_End p e below F (T.setTop (mkF m pc Ls (.int y :: .int x :: st))) := by
  subst hp; exact own_step (fun t k => XS.isub X.here hx rfl (hb hby hd) rfl k) h
theorem own_imul (X : Stand p l e R s m args below meth c T locs cells slots) (hx : p.tables.exec = Jvm.exec) (hby : c.code = bs) {x y : Int32} (hd : decode bs pc = .ok (.imul, 1)) (hp : pc + 1 = pc') (h : own_End p e below F (T.setTop (mkF m pc' Ls (.int (x * y) :: st)))) : own_End p e below F (T.setTop (mkF m pc Ls (.int y :: .int x :: st))) := by
  subst hp; exact own_step (fun t k => XS.imul X.here hx rfl (hb hby hd) rfl k) h
theorem own_iand (X : Stand p l e R s m args below meth c T locs cells slots) (hx : p.tables.exec = Jvm.exec) (hby : c.code = bs) {x y : Int32} (hd : decode bs pc = .ok (.iand, 1)) (hp : pc + 1 = pc') (h : own_End p e below F (T.setTop (mkF m pc' Ls (.int (x &&& y) :: st)))) : own_End p e below F (T.setTop (mkF m pc Ls (.int y :: .int x :: st))) := by
  subst hp; exact own_step (fun t k => XS.iand X.here hx rfl (hb hby hd) rfl k) h
theorem own_ior (X : Stand p l e R s m args below meth c T locs cells slots) (hx : p.tables.exec = Jvm.exec) (hby : c.code = bs) {x y : Int32} (hd : decode bs pc = .ok (.ior, 1)) (hp : pc + 1 = pc') (h : own_End p e below F (T.setTop (mkF m pc' Ls (.int (x ||| y) :: st)))) : own_End p e below F (T.setTop (mkF m pc Ls (.int y :: .int x :: st))) := by
  subst hp; exact own_step (fun t k => XS.ior X.here hx rfl (hb hby hd) rfl k) h
theorem own_ixor (X : Stand p l e R s m args below meth c T locs cells slots) (hx : p.tables.exec = Jvm.exec) (hby : c.code = bs) {x y : Int32} (hd : decode bs pc = .ok (.ixor, 1)) (hp : pc + 1 = pc') (h : own_End p e below F (T.setTop (mkF m pc' Ls (.int (x ^^^ y) :: st)))) : own_End p e below F (T.setTop (mkF m pc Ls (.int y :: .int x :: st))) := by
  subst hp; exact own_step (fun t k => XS.ixor X.here hx rfl (hb hby hd) rfl k) h
theorem own_ladd (X : Stand p l e R s m args below meth c T locs cells slots) (hx : p.tables.exec = Jvm.exec) (hby : c.code = bs) {x y : Int64} (hd : decode bs pc = .ok (.ladd, 1)) (hp : pc + 1 = pc') (h : own_End p e below F (T.setTop (mkF m pc' Ls (.long (x + y) :: st)))) : own_End p e below F (T.setTop (mkF m pc Ls (.long y :: .long x :: st))) := by
  subst hp; exact own_step (fun t k => XS.ladd X.here hx rfl (hb hby hd) rfl k) h
theorem own_lsub (X : Stand p l e R s m args below meth c T locs cells slots) (hx : p.tables.exec = Jvm.exec) (hby : c.code = bs) {x y : Int64} (hd : decode bs pc = .ok (.lsub, 1)) (hp : pc + 1 = pc') (h : own_End p e below F (T.setTop (mkF m pc' Ls (.long (x - y) :: st)))) : own_End p e below F (T.setTop (mkF m pc Ls (.long y :: .long x :: st))) := by
  subst hp; exact own_step (fun t k => XS.lsub X.here hx rfl (hb hby hd) rfl k) h
theorem own_lmul (X : Stand p l e R s m args below meth c T locs cells slots) (hx : p.tables.exec = Jvm.exec) (hby : c.code = bs) {x y : Int64} (hd : decode bs pc = .ok (.lmul, 1)) (hp : pc + 1 = pc') (h : own_End p e below F (T.setTop (mkF m pc' Ls (.long (x * y) :: st)))) : own_End p e below F (T.setTop (mkF m pc Ls (.long y :: .long x :: st))) := by
  subst hp; exact own_step (fun t k => XS.lmul X.here hx rfl (hb hby hd) rfl k) h
theorem own_land (X : Stand p l e R s m args below meth c T locs cells slots) (hx : p.tables.exec = Jvm.exec) (hby : c.code = bs) {x y : Int64} (hd : decode bs pc = .ok (.land, 1)) (hp : pc + 1 = pc') (h : own_End p e below F (T.setTop (mkF m pc' Ls (.long (x &&& y) :: st)))) : own_End p e below F (T.setTop (mkF m pc Ls (.long y :: .long x :: st))) := by
  subst hp; exact own_step (fun t k => XS.land X.here hx rfl (hb hby hd) rfl k) h
theorem own_lor (X : Stand p l e R s m args below meth c T locs cells slots) (hx : p.tables.exec = Jvm.exec) (hby : c.code = bs) {x y : Int64} (hd : decode bs pc = .ok (.lor, 1)) (hp : pc + 1 = pc') (h : own_End p e below F (T.setTop (mkF m pc' Ls (.long (x ||| y) :: st)))) : own_End p e below F (T.setTop (mkF m pc Ls (.long y :: .long x :: st))) := by
  subst hp; exact own_step (fun t k => XS.lor X.here hx rfl (hb hby hd) rfl k) h
theorem own_lxor (X : Stand p l e R s m args below meth c T locs cells slots) (hx : p.tables.exec = Jvm.exec) (hby : c.code = bs) {x y : Int64} (hd : decode bs pc = .ok (.lxor, 1)) (hp : pc + 1 = pc') (h : own_End p e below F (T.setTop (mkF m pc' Ls (.long (x ^^^ y) :: st)))) : own_End p e below F (T.setTop (mkF m pc Ls (.long y :: .long x :: st))) := by
  subst hp; exact own_step (fun t k => XS.lxor X.here hx rfl (hb hby hd) rfl k) h
theorem own_ishl (X : Stand p l e R s m args below meth c T locs cells slots) (hx : p.tables.exec = Jvm.exec) (hby : c.code = bs) {x y : Int32} (hd : decode bs pc = .ok (.ishl, 1)) (hp : pc + 1 = pc') (h : own_End p e below F (T.setTop (mkF m pc' Ls (.int (x <<< (y &&& 31)) :: st)))) : own_End p e below F (T.setTop (mkF m pc Ls (.int y :: .int x :: st))) := by
  subst hp; exact own_step (fun t k => XS.ishl X.here hx rfl (hb hby hd) rfl k) h
theorem own_ishr (X : Stand p l e R s m args below meth c T locs cells slots) (hx : p.tables.exec = Jvm.exec) (hby : c.code = bs) {x y : Int32} (hd : decode bs pc = .ok (.ishr, 1)) (hp : pc + 1 = pc') (h : own_End p e below F (T.setTop (mkF m pc' Ls (.int (x >>> (y &&& 31)) :: st)))) : own_End p e below F (T.setTop (mkF m pc Ls (.int y :: .int x :: st))) := by
  subst hp; exact own_step (fun t k => XS.ishr X.here hx rfl (hb hby hd) rfl k) h
theorem own_iushr (X : Stand p l e R s m args below meth c T locs cells slots) (hx : p.tables.exec = Jvm.exec) (hby : c.code = bs) {x y : Int32} (hd : decode bs pc = .ok (.iushr, 1)) (hp : pc + 1 = pc') (h : own_End p e below F (T.setTop (mkF m pc' Ls (.int ((x.toUInt32 >>> (y &&& 31).toUInt32).toInt32) :: st)))) : own_End p e below F (T.setTop (mkF m pc Ls (.int y :: .int x :: st))) := by
  subst hp; exact own_step (fun t k => XS.iushr X.here hx rfl (hb hby hd) rfl k) h
theorem own_lshl (X : Stand p l e R s m args below meth c T locs cells slots) (hx : p.tables.exec = Jvm.exec) (hby : c.code = bs) {x : Int64} {y : Int32} (hd : decode bs pc = .ok (.lshl, 1)) (hp : pc + 1 = pc') (h : own_End p e below F (T.setTop (mkF m pc' Ls (.long (x <<< (y &&& 0x3f).toInt64) :: st)))) : own_End p e below F (T.setTop (mkF m pc Ls (.int y :: .long x :: st))) := by
  subst hp; exact own_step (fun t k => XS.lshl X.here hx rfl (hb hby hd) rfl k) h
theorem own_lshr (X : Stand p l e R s m args below meth c T locs cells slots) (hx : p.tables.exec = Jvm.exec) (hby : c.code = bs) {x : Int64} {y : Int32} (hd : decode bs pc = .ok (.lshr, 1)) (hp : pc + 1 = pc') (h : own_End p e below F (T.setTop (mkF m pc' Ls (.long (x >>> (y &&& 0x3f).toInt64) :: st)))) : own_End p e below F (T.setTop (mkF m pc Ls (.int y :: .long x :: st))) := by
  subst hp; exact own_step (fun t k => XS.lshr X.here hx rfl (hb hby hd) rfl k) h
theorem own_lushr (X : Stand p l e R s m args below meth c T locs cells slots) (hx : p.tables.exec = Jvm.exec) (hby : c.code = bs) {x : Int64} {y : Int32} (hd : decode bs pc = .ok (.lushr, 1)) (hp : pc + 1 = pc') (h : own_End p e below F (T.setTop (mkF m pc' Ls (.long ((x.toUInt64 >>> (y &&& 0x3f).toInt64.toUInt64).toInt64) :: st)))) : own_End p e below F (T.setTop (mkF m pc Ls (.int y :: .long x :: st))) := by
  subst hp; exact own_step (fun t k => XS.lushr X.here hx rfl (hb hby hd) rfl k) h
theorem own_lcmp (X : Stand p l e R s m args below meth c T locs cells slots) (hx : p.tables.exec = Jvm.exec) (hby : c.code = bs) {x y : Int64} (hd : decode bs pc = .ok (.lcmp, 1)) (hp : pc + 1 = pc') (h : own_End p e below F (T.setTop (mkF m pc' Ls (.int (lcmpW x y) :: st)))) : own_End p e below F (T.setTop (mkF m pc Ls (.long y :: .long x :: st))) := by
  subst hp; exact own_step (fun t k => XS.lcmp X.here hx rfl (hb hby hd) rfl k) h
theorem own_ineg (X : Stand p l e R s m args below meth c T locs cells slots) (hx : p.tables.exec = Jvm.exec) (hby : c.code = bs) {x : Int32} (hd : decode bs pc = .ok (.ineg, 1)) (hp : pc + 1 = pc') (h : own_End p e below F (T.setTop (mkF m pc' Ls (.int (-x) :: st)))) : own_End p e below F (T.setTop (mkF m pc Ls (.int x :: st))) := by
  subst hp; exact own_step (fun t k => XS.ineg X.here hx rfl (hb hby hd) rfl k) h
theorem own_i2b (X : Stand p l e R s m args below meth c T locs cells slots) (hx : p.tables.exec = Jvm.exec) (hby : c.code = bs) {x : Int32} (hd : decode bs pc = .ok (.i2b, 1)) (hp : pc + 1 = pc') (h : own_End p e below F (T.setTop (mkF m pc' Ls (.int (x.toInt8.toInt32) :: st)))) : own_End p e below F (T.setTop (mkF m pc Ls (.int x :: st))) := by
  subst hp; exact own_step (fun t k => XS.i2b X.here hx rfl (hb hby hd) rfl k) h
theorem own_i2s (X : Stand p l e R s m args below meth c T locs cells slots) (hx : p.tables.exec = Jvm.exec) (hby : c.code = bs) {x : Int32} (hd : decode bs pc = .ok (.i2s, 1)) (hp : pc + 1 = pc') (h : own_End p e below F (T.setTop (mkF m pc' Ls (.int (x.toInt16.toInt32) :: st)))) : own_End p e below F (T.setTop (mkF m pc Ls (.int x :: st))) := by
  subst hp; exact own_step (fun t k => XS.i2s X.here hx rfl (hb hby hd) rfl k) h
theorem own_i2c (X : Stand p l e R s m args below meth c T locs cells slots) (hx : p.tables.exec = Jvm.exec) (hby : c.code = bs) {x : Int32} (hd : decode bs pc = .ok (.i2c, 1)) (hp : pc + 1 = pc') (h : own_End p e below F (T.setTop (mkF m pc' Ls (.int (x.toUInt32.toUInt16.toUInt32.toInt32) :: st)))) : own_End p e below F (T.setTop (mkF m pc Ls (.int x :: st))) := by
  subst hp; exact own_step (fun t k => XS.i2c X.here hx rfl (hb hby hd) rfl k) h
theorem own_i2l (X : Stand p l e R s m args below meth c T locs cells slots) (hx : p.tables.exec = Jvm.exec) (hby : c.code = bs) {x : Int32} (hd : decode bs pc = .ok (.i2l, 1)) (hp : pc + 1 = pc') (h : own_End p e below F (T.setTop (mkF m pc' Ls (.long (x.toInt64) :: st)))) : own_End p e below F (T.setTop (mkF m pc Ls (.int x :: st))) := by
  subst hp; exact own_step (fun t k => XS.i2l X.here hx rfl (hb hby hd) rfl k) h
theorem own_lneg (X : Stand p l e R s m args below meth c T locs cells slots) (hx : p.tables.exec = Jvm.exec) (hby : c.code = bs) {x : Int64} (hd : decode bs pc = .ok (.lneg, 1)) (hp : pc + 1 = pc') (h : own_End p e below F (T.setTop (mkF m pc' Ls (.long (-x) :: st)))) : own_End p e below F (T.setTop (mkF m pc Ls (.long x :: st))) := by
  subst hp; exact own_step (fun t k => XS.lneg X.here hx rfl (hb hby hd) rfl k) h
theorem own_l2i (X : Stand p l e R s m args below meth c T locs cells slots) (hx : p.tables.exec = Jvm.exec) (hby : c.code = bs) {x : Int64} (hd : decode bs pc = .ok (.l2i, 1)) (hp : pc + 1 = pc') (h : own_End p e below F (T.setTop (mkF m pc' Ls (.int (x.toInt32) :: st)))) : own_End p e below F (T.setTop (mkF m pc Ls (.long x :: st))) := by
  subst hp; exact own_step (fun t k => XS.l2i X.here hx rfl (hb hby hd) rfl k) h
theorem own_idiv (X : Stand p l e R s m args below meth c T locs cells slots) (hx : p.tables.exec = Jvm.exec) (hby : c.code = bs) {x y : Int32} (hd : decode bs pc = .ok (.idiv, 1)) (hp : pc + 1 = pc') (hy : ¬ y = 0) (h : own_End p e below F (T.setTop (mkF m pc' Ls (.int (x / y) :: st)))) : own_End p e below F (T.setTop (mkF m pc Ls (.int y :: .int x :: st))) := by
  subst hp; exact own_step (fun t k => XS.idiv X.here hx rfl (hb hby hd) rfl hy k) h
theorem own_irem (X : Stand p l e R s m args below meth c T locs cells slots) (hx : p.tables.exec = Jvm.exec) (hby : c.code = bs) {x y : Int32} (hd : decode bs pc = .ok (.irem, 1)) (hp : pc + 1 = pc') (hy : ¬ y = 0) (h : own_End p e below F (T.setTop (mkF m pc' Ls (.int (x % y) :: st)))) : own_End p e below F (T.setTop (mkF m pc Ls (.int y :: .int x :: st))) := by
  subst hp; exact own_step (fun t k => iremM X hx rfl (hb hby hd) rfl hy k) h
theorem own_ldiv (X : Stand p l e R s m args below meth c T locs cells slots) (hx : p.tables.exec = Jvm.exec) (hby : c.code = bs) {x y : Int64} (hd : decode bs pc = .ok (.ldiv, 1)) (hp : pc + 1 = pc') (hy : ¬ y = 0) (h : own_End p e below F (T.setTop (mkF m pc' Ls (.long (x / y) :: st)))) : own_End p e below F (T.setTop (mkF m pc Ls (.long y :: .long x :: st))) := by
  subst hp; exact own_step (fun t k => XS.ldiv X.here hx rfl (hb hby hd) rfl hy k) h
theorem own_lrem (X : Stand p l e R s m args below meth c T locs cells slots) (hx : p.tables.exec = Jvm.exec) (hby : c.code = bs) {x y : Int64} (hd : decode bs pc = .ok (.lrem, 1)) (hp : pc + 1 = pc') (hy : ¬ y = 0) (h : own_End p e below F (T.setTop (mkF m pc' Ls (.long (x % y) :: st)))) : own_End p e below F (T.setTop (mkF m pc Ls (.long y :: .long x :: st))) := by
  subst hp; exact own_step (fun t k => XS.lrem X.here hx rfl (hb hby hd) rfl hy (by rw [lrem_mod]; exact k)) h
/-- the branch's condition, and its contrary -/
abbrev own_ct (cd : ClassFile.Cond) (x y : Int32) : Prop := match cd with | .eq => x = y | .ne => ¬ x = y | .lt => x < y | .ge => ¬ x < y | .gt => y < x | .le => ¬ y < x
abbrev own_cf (cd : ClassFile.Cond) (x y : Int32) : Prop := match cd with | .eq => ¬ x = y | .ne => x = y | .lt => ¬ x < y | .ge => x < y | .gt => ¬ y < x | .le => y < x
abbrev own_ctL (cd : ClassFile.Cond) (x y : Int64) : Prop := match cd with | .eq => x = y | .ne => ¬ x = y | .lt => x < y | .ge => ¬ x < y | .gt => y < x | .le => ¬ y < x
abbrev own_cfL (cd : ClassFile.Cond) (x y : Int64) : Prop := match cd with | .eq => ¬ x = y | .ne => x = y | .lt => ¬ x < y | .ge => x < y | .gt => ¬ y < x | .le => y < x
theorem own_ct_y {cd : ClassFile.Cond} {x y : Int32} (h : own_ct cd x y) : if_icmp.holds cd x y = true := by
  cases cd
  · exact (teq h).1
  · exact (feq h).2
  · exact (tlt h).1
  · exact (flt h).2.1
  · exact (tlt h).2.2.1
  · exact (flt h).2.2.2
theorem own_ct_n {cd : ClassFile.Cond} {x y : Int32} (h : own_cf cd x y) : if_icmp.holds cd x y = false := by
  cases cd
  · exact (feq h).1
  · exact (teq h).2
  · exact (flt h).1
  · exact (tlt h).2.1
  · exact (flt h).2.2.1
  · exact (tlt h).2.2.2
theorem own_ct_or (cd : ClassFile.Cond) (x y : Int32) : own_ct cd x y ∨ own_cf cd x y := by
  cases cd
  · exact Decidable.em _
  · exact (Decidable.em _).symm
  · exact Decidable.em _
  · exact (Decidable.em _).symm
  · exact Decidable.em _
  · exact (Decidable.em _).symm
theorem own_ctL_or (cd : ClassFile.Cond) (x y : Int64) : own_ctL cd x y ∨ own_cfL cd x y := by
  cases cd
  · exact Decidable.em _
  · exact (Decidable.em _).symm
  · exact Decidable.em _
  · exact (Decidable.em _).symm
  · exact Decidable.em _
  · exact (Decidable.em _).symm
theorem own_ctL_y {cd : ClassFile.Cond} {x y : Int64} (h : own_ctL cd x y) : own_ct cd (lcmpW x y) 0 := by
  cases cd
  · exact (lw_eq x y).mpr h
  · exact fun q => h ((lw_eq x y).mp q)
  · exact (lw_lt x y).mpr h
  · exact fun q => h ((lw_lt x y).mp q)
  · exact (lw_gt x y).mpr h
  · exact fun q => h ((lw_gt x y).mp q)
theorem own_ctL_n {cd : ClassFile.Cond} {x y : Int64} (h : own_cfL cd x y) : own_cf cd (lcmpW x y) 0 := by
  cases cd
  · exact fun q => h ((lw_eq x y).mp q)
  · exact (lw_eq x y).mpr h
  · exact fun q => h ((lw_lt x y).mp q)
  · exact (lw_lt x y).mpr h
  · exact fun q => h ((lw_gt x y).mp q)
  · exact (lw_gt x y).mpr h
theorem own_ifY (X : Stand p l e R s m args below meth c T locs cells slots) (hx : p.tables.exec = Jvm.exec) (hby : c.code = bs) {cd : ClassFile.Cond} {x : Int32} {o : Int} (hd : decode bs pc = .ok (.ifCond cd o, 3)) (ho : 0 ≤ (pc : Int) + o) (hp : ((pc : Int) + o).toNat = pc') (hc : own_ct cd x 0) (h : own_End p e below F (T.setTop (mkF m pc' Ls st))) : own_End p e below F (T.setTop (mkF m pc Ls (.int x :: st))) :=
  own_step (fun t k => XS.ifYes X.here hx rfl (pc0 := pc) (pc' := pc') rfl (hb hby hd) rfl ((if0 _ _).trans (own_ct_y hc)) ho hp k) h
theorem own_ifN (X : Stand p l e R s m args below meth c T locs cells slots) (hx : p.tables.exec = Jvm.exec) (hby : c.code = bs) {cd : ClassFile.Cond} {x : Int32} {o : Int} (hd : decode bs pc = .ok (.ifCond cd o, 3)) (hp : pc + 3 = pc') (hc : own_cf cd x 0) (h : own_End p e below F (T.setTop (mkF m pc' Ls st))) : own_End p e below F (T.setTop (mkF m pc Ls (.int x :: st))) := by
  subst hp; exact own_step (fun t k => XS.ifNo X.here hx rfl (hb hby hd) rfl ((if0 _ _).trans (own_ct_n hc)) k) h
theorem own_icY (X : Stand p l e R s m args below meth c T locs cells slots) (hx : p.tables.exec = Jvm.exec) (hby : c.code = bs) {cd : ClassFile.Cond} {x y : Int32} {o : Int} (hd : decode bs pc = .ok (.if_icmp cd o, 3)) (ho : 0 ≤ (pc : Int) + o) (hp : ((pc : Int) + o).toNat = pc') (hc : own_ct cd x y) (h : own_End p e below F (T.setTop (mkF m pc' Ls st))) : own_End p e below F (T.setTop (mkF m pc Ls (.int y :: .int x :: st))) :=
  own_step (fun t k => XS.icmpYes X.here hx rfl (pc0 := pc) (pc' := pc') rfl (hb hby hd) rfl (own_ct_y hc) ho hp k) h
theorem own_icN (X : Stand p l e R s m args below meth c T locs cells slots) (hx : p.tables.exec = Jvm.exec) (hby : c.code = bs) {cd : ClassFile.Cond} {x y : Int32} {o : Int} (hd : decode bs pc = .ok (.if_icmp cd o, 3)) (hp : pc + 3 = pc') (hc : own_cf cd x y) (h : own_End p e below F (T.setTop (mkF m pc' Ls st))) : own_End p e below F (T.setTop (mkF m pc Ls (.int y :: .int x :: st))) := by
  subst hp; exact own_step (fun t k => XS.icmpNo X.here hx rfl (hb hby hd) rfl (own_ct_n hc) k) h
theorem own_if2 (X : Stand p l e R s m args below meth c T locs cells slots) (hx : p.tables.exec = Jvm.exec) (hby : c.code = bs) {cd : ClassFile.Cond} {x : Int32} {o : Int} {pc1 pc2 : Nat} (hd : decode bs pc = .ok (.ifCond cd o, 3)) (ho : 0 ≤ (pc : Int) + o) (hp : ((pc : Int) + o).toNat = pc1) (hp2 : pc + 3 = pc2) (h1 : own_ct cd x 0 → own_End p e below F (T.setTop (mkF m pc1 Ls st))) (h2 : own_cf cd x 0 → own_End p e below F (T.setTop (mkF m pc2 Ls st))) : own_End p e below F (T.setTop (mkF m pc Ls (.int x :: st))) :=
  (own_ct_or cd x 0).elim (fun q => own_ifY X hx hby hd ho hp q (h1 q)) (fun q => own_ifN X hx hby hd hp2 q (h2 q))
theorem own_ic2 (X : Stand p l e R s m args below meth c T locs cells slots) (hx : p.tables.exec = Jvm.exec) (hby : c.code = bs) {cd : ClassFile.Cond} {x y : Int32} {o : Int} {pc1 pc2 : Nat} (hd : decode bs pc = .ok (.if_icmp cd o, 3)) (ho : 0 ≤ (pc : Int) + o) (hp : ((pc : Int) + o).toNat = pc1) (hp2 : pc + 3 = pc2) (h1 : own_ct cd x y → own_End p e below F (T.setTop (mkF m pc1 Ls st))) (h2 : own_cf cd x y → own_End p e below F (T.setTop (mkF m pc2 Ls st))) : own_End p e below F (T.setTop (mkF m pc Ls (.int y :: .int x :: st))) :=
  (own_ct_or cd x y).elim (fun q => own_icY X hx hby hd ho hp q (h1 q)) (fun q => own_icN X hx hby hd hp2 q (h2 q))
theorem own_ifL2 (X : Stand p l e R s m args below meth c T locs cells slots) (hx : p.tables.exec = Jvm.exec) (hby : c.code = bs) {cd : ClassFile.Cond} {x y : Int64} {o : Int} {pc1 pc2 : Nat} (hd : decode bs pc = .ok (.ifCond cd o, 3)) (ho : 0 ≤ (pc : Int) + o) (hp : ((pc : Int) + o).toNat = pc1) (hp2 : pc + 3 = pc2) (h1 : own_ctL cd x y → own_End p e below F (T.setTop (mkF m pc1 Ls st))) (h2 : own_cfL cd x y → own_End p e below F (T.setTop (mkF m pc2 Ls st))) : own_End p e below F (T.setTop (mkF m pc Ls (.int (lcmpW x y) :: st))) :=
  (own_ctL_or cd x y).elim (fun q => own_ifY X hx hby hd ho hp (own_ctL_y q) (h1 q)) (fun q => own_ifN X hx hby hd hp2 (own_ctL_n q) (h2 q))
theorem own_ifnullY (X : Stand p l e R s m args below meth c T locs cells slots) (hx : p.tables.exec = Jvm.exec) (hby : c.code = bs) {o : Int} (hd : decode bs pc = .ok (.ifnull o, 3)) (ho : 0 ≤ (pc : Int) + o) (hp : ((pc : Int) + o).toNat = pc') (h : own_End p e below F (T.setTop (mkF m pc' Ls st))) : own_End p e below F (T.setTop (mkF m pc Ls (.null :: st))) :=
  own_step (fun t k => XS.ifnullYes X.here hx rfl (pc0 := pc) (pc' := pc') rfl (hb hby hd) rfl ho hp k) h
theorem own_ifnullN (X : Stand p l e R s m args below meth c T locs cells slots) (hx : p.tables.exec = Jvm.exec) (hby : c.code = bs) {o : Int} {b : Addr} (hd : decode bs pc = .ok (.ifnull o, 3)) (hp : pc + 3 = pc') (h : own_End p e below F (T.setTop (mkF m pc' Ls st))) : own_End p e below F (T.setTop (mkF m pc Ls (.ref b :: st))) := by
  subst hp; exact own_step (fun t k => XS.ifnullNo X.here hx rfl (hb hby hd) rfl k) h
theorem own_ifnonnullY (X : Stand p l e R s m args below meth c T locs cells slots) (hx : p.tables.exec = Jvm.exec) (hby : c.code = bs) {o : Int} {b : Addr} (hd : decode bs pc = .ok (.ifnonnull o, 3)) (ho : 0 ≤ (pc : Int) + o) (hp : ((pc : Int) + o).toNat = pc') (h : own_End p e below F (T.setTop (mkF m pc' Ls st))) : own_End p e below F (T.setTop (mkF m pc Ls (.ref b :: st))) :=
  own_step (fun t k => XS.ifnonnullYes X.here hx rfl (pc0 := pc) (pc' := pc') rfl (hb hby hd) rfl ho hp k) h
theorem own_ifnonnullN (X : Stand p l e R s m args below meth c T locs cells slots) (hx : p.tables.exec = Jvm.exec) (hby : c.code = bs) {o : Int} (hd : decode bs pc = .ok (.ifnonnull o, 3)) (hp : pc + 3 = pc') (h : own_End p e below F (T.setTop (mkF m pc' Ls st))) : own_End p e below F (T.setTop (mkF m pc Ls (.null :: st))) := by
  subst hp; exact own_step (fun t k => XS.ifnonnullNo X.here hx rfl (hb hby hd) rfl k) h
theorem own_acmp (X : Stand p l e R s m args below meth c T locs cells slots) (hx : p.tables.exec = Jvm.exec) (hby : c.code = bs) {cd : ACond} {x y : Value} {o : Int} {same : Bool} (hd : decode bs pc = .ok (.if_acmp cd o, 3)) (h1 : x.isRef = true) (h2 : y.isRef = true) (hq : decide (x = y) = same) (ho : 0 ≤ (pc : Int) + o) (hp : pc' = if acV cd same = true then ((pc : Int) + o).toNat else pc + 3) (h : own_End p e below F (T.setTop (mkF m pc' Ls st))) : own_End p e below F (T.setTop (mkF m pc Ls (y :: x :: st))) :=
  own_step (fun t k => Jvm.RoadKit.acmp (g := mkF m pc Ls (y :: x :: st)) X hx rfl h1 h2 (pc0 := pc) (pc' := pc') (same := same) rfl (hb hby hd) rfl hq ho hp k) h
end Plain
section Words
variable {Z : State} {a0 : Array Value}
theorem own_ldcInt (X : Stand p l e R s m args below meth c T locs cells slots) (hx : p.tables.exec = Jvm.exec) (hZ : Z.Warmed39 s.vm) (hby : c.code = bs) {own : String} {index : Nat} {v : Int32} (hown : s.vm.findClass own = some m.cls) (w : (Cond.constant own index v).before a0 Z = true) (hd : decode bs pc = .ok (.ldc index, 2)) (hp : pc + 2 = pc') (h : own_End p e below F (T.setTop (mkF m pc' Ls (.int v :: st)))) : own_End p e below F (T.setTop (mkF m pc Ls st)) := by
  subst hp; exact own_step (X.ldcInt hx hown (mvT hZ w) (g := mkF m pc Ls st) rfl (hb hby hd)) h
theorem own_ldc2Long (X : Stand p l e R s m args below meth c T locs cells slots) (hx : p.tables.exec = Jvm.exec) (hZ : Z.Warmed39 s.vm) (hby : c.code = bs) {own : String} {index : Nat} {v : Int64} (hown : s.vm.findClass own = some m.cls) (w : (Cond.constantLong own index v).before a0 Z = true) (hd : decode bs pc = .ok (.ldc2_w index, 3)) (hp : pc + 3 = pc') (h : own_End p e below F (T.setTop (mkF m pc' Ls (.long v :: st)))) : own_End p e below F (T.setTop (mkF m pc Ls st)) := by
  subst hp; exact own_step (X.ldc2Long hx hown (mvT hZ w) (g := mkF m pc Ls st) rfl (hb hby hd)) h
end Words
section Heap
variable {Z : State} {a0 : Array Value} {h : Heap}
theorem own_getF (X : Stand p l e R s m args below meth c T locs cells slots) (hx : p.tables.exec = Jvm.exec) (hZ : Z.Warmed39 s.vm) (hby : c.code = bs) {own R0 O n d host : String} {index : Nat} {a : Addr} {v : Value} (hown : s.vm.findClass own = some m.cls) (w : (Cond.fieldLink own index R0 n d).before a0 Z = true ∨ (Cond.fieldLinkNest own index R0 n d host).before a0 Z = true) (via : Via Z R0 O n d) (eT : T.heap = h) (Fd : Fld Z h a O n d v) (hd : decode bs pc = .ok (.getfield index, 3)) (hp : pc + 3 = pc')
    (k : ∀ T', Stand p l e R s m args below meth c T' locs cells slots → T'.heap = h → own_End p e below F (T'.setTop (mkF m pc' Ls (v :: st)))) : own_End p e below F (T.setTop (mkF m pc Ls (.ref a :: st))) := by
  subst hp
  obtain ⟨T', X', e', stp⟩ := getF X hx hZ hown w via eT Fd (g := mkF m pc Ls (.ref a :: st)) rfl rfl (hb hby hd)
  exact own_step stp (k T' X' e')
theorem own_getS (X : Stand p l e R s m args below meth c T locs cells slots) (hx : p.tables.exec = Jvm.exec) (hZ : Z.Warmed39 s.vm) (hby : c.code = bs) {own R0 O n d host : String} {index : Nat} {v : Value} (hown : s.vm.findClass own = some m.cls) (w : (Cond.fieldLink own index R0 n d).before a0 Z = true ∨ (Cond.fieldLinkNest own index R0 n d host).before a0 Z = true) (via : Via Z R0 O n d) (eT : T.heap = h) (Fd : Sta Z h O n d v) (hd : decode bs pc = .ok (.getstatic index, 3)) (hp : pc + 3 = pc')
    (k : ∀ T', Stand p l e R s m args below meth c T' locs cells slots → T'.heap = h → own_End p e below F (T'.setTop (mkF m pc' Ls (v :: st)))) : own_End p e below F (T.setTop (mkF m pc Ls st)) := by
  subst hp
  obtain ⟨T', X', e', stp⟩ := getS2 X hx hZ hown w via eT Fd (g := mkF m pc Ls st) rfl (hb hby hd)
  exact own_step stp (k T' X' e')
theorem own_putF (X : Stand p l e R s m args below meth c T locs cells slots) (hx : p.tables.exec = Jvm.exec) (hZ : Z.Warmed39 s.vm) (hby : c.code = bs) {own R0 O n d host C : String} {index kk : Nat} {ty : FieldType} {a : Addr} {v old : Value} (hown : s.vm.findClass own = some m.cls) (w : (Cond.fieldLink own index R0 n d).before a0 Z = true ∨ (Cond.fieldLinkNest own index R0 n d host).before a0 Z = true) (via : Via Z R0 O n d) (eT : T.heap = h) (Fd : Fld Z h a O n d old) (E : Exa Z h a C)
    (La : (Cond.lays C O n d).before a0 Z = true ∨ ((Cond.laysFinal C O n d).before a0 Z = true ∧ own = O ∧ meth.name = "<init>")) (wi : (Cond.instantiable C kk).before a0 Z = true) (hty : parseFieldDescriptor d = some ty) (hn : narrow ty v = v) (hf : fits ty v = true) (hd : decode bs pc = .ok (.putfield index, 3)) (hp : pc + 3 = pc')
    (k : ∀ T' h', Stand p l e R s m args below meth c T' (locs ++ [⟨a, Jvm.RoadKit.slotOf Z O n d⟩]) cells slots → T'.heap = h' → Wr h h' a (Jvm.RoadKit.slotOf Z O n d) v → own_End p e below F (T'.setTop (mkF m pc' Ls st))) : own_End p e below F (T.setTop (mkF m pc Ls (v :: .ref a :: st))) := by
  subst hp
  obtain ⟨T', h', X', e', W', stp⟩ := putF X hx hZ hown w via eT Fd E La wi hty hn hf (g := mkF m pc Ls (v :: .ref a :: st)) rfl rfl (hb hby hd)
  exact own_step stp (k T' h' X' e' W')
theorem own_putN (X : Stand p l e R s m args below meth c T locs cells slots) (hx : p.tables.exec = Jvm.exec) (hZ : Z.Warmed39 s.vm) (hby : c.code = bs) {own R0 O n d C : String} {index kk : Nat} {ty : FieldType} {a : Addr} {v v' old : Value} (hown : s.vm.findClass own = some m.cls) (w : (Cond.fieldLink own index R0 n d).before a0 Z = true) (via : Via Z R0 O n d) (eT : T.heap = h) (Fd : Fld Z h a O n d old) (E : Exa Z h a C)
    (La : (Cond.lays C O n d).before a0 Z = true ∨ ((Cond.laysFinal C O n d).before a0 Z = true ∧ own = O ∧ meth.name = "<init>")) (wi : (Cond.instantiable C kk).before a0 Z = true) (hty : parseFieldDescriptor d = some ty) (hn : narrow ty v = v') (hf : fits ty v' = true) (hd : decode bs pc = .ok (.putfield index, 3)) (hp : pc + 3 = pc')
    (k : ∀ T' h', Stand p l e R s m args below meth c T' (locs ++ [⟨a, Jvm.RoadKit.slotOf Z O n d⟩]) cells slots → T'.heap = h' → Wr h h' a (Jvm.RoadKit.slotOf Z O n d) v' → own_End p e below F (T'.setTop (mkF m pc' Ls st))) : own_End p e below F (T.setTop (mkF m pc Ls (v :: .ref a :: st))) := by
  subst hp
  obtain ⟨T', h', X', e', W', stp⟩ := putFN X hx hZ hown w via eT Fd E La wi hty hn hf (g := mkF m pc Ls (v :: .ref a :: st)) rfl rfl (hb hby hd)
  exact own_step stp (k T' h' X' e' W')
theorem own_new (X : Stand p l e R s m args below meth c T locs cells slots) (hx : p.tables.exec = Jvm.exec) (hZ : Z.Warmed39 s.vm) (hby : c.code = bs) {own C : String} {index n : Nat} (hown : s.vm.findClass own = some m.cls) (w : (Cond.classLink own index C).before a0 Z = true) (wi : (Cond.instantiable C n).before a0 Z = true) (wz : (Cond.initialized C).before a0 Z = true) (eT : T.heap = h) (hd : decode bs pc = .ok (.new index, 3)) (hp : pc + 3 = pc') (hc : cells + 1 ≤ R.cells) (hl : slots + n ≤ R.slots)
    (k : ∀ T' h' (b : Addr), b = h.size → Stand p l e R s m args below meth c T' locs (cells + 1) (slots + n) → T'.heap = h' → Ext h h' → Exa Z h' b C → (∀ {O nm d : String} {ty : FieldType}, Laid Z a0 C O nm d → parseFieldDescriptor d = some ty → Fld Z h' b O nm d (defaultValue ty)) → own_End p e below F (T'.setTop (mkF m pc' Ls (.ref b :: st)))) : own_End p e below F (T.setTop (mkF m pc Ls st)) := by
  subst hp
  obtain ⟨T', h', X', e', E', A', D', -, stp⟩ := newO X hx hZ hown w wi wz eT (g := mkF m pc Ls st) rfl (hb hby hd) hc hl
  exact own_step stp (k T' h' h.size rfl X' e' E' A' D')
theorem own_newP (X : Stand p l e R s m args below meth c T locs cells slots) (hx : p.tables.exec = Jvm.exec) (hZ : Z.Warmed39 s.vm) (hby : c.code = bs) {aty : ArrayType} {n : Int32} {cap : Nat} (w : (Cond.arrayClass (newarray.typeOf aty)).before a0 Z = true) (eT : T.heap = h) (hd : decode bs pc = .ok (.newarray aty, 2)) (hp : pc + 2 = pc') (hn : ¬ n < 0) (hcap : n.toNatClampNeg ≤ cap) (hb' : cap * 8 ≤ 536870912) (hc : cells + 1 ≤ R.cells) (hl : slots + cap ≤ R.slots)
    (k : ∀ T' h' cA (b : Addr), b = h.size → Stand p l e R s m args below meth c T' locs (cells + 1) (slots + cap) → T'.heap = h' → Ext h h' → Arr Z h' b (newA cA (newarray.typeOf aty) n) (newarray.typeOf aty) → own_End p e below F (T'.setTop (mkF m pc' Ls (.ref b :: st)))) : own_End p e below F (T.setTop (mkF m pc Ls (.int n :: st))) := by
  subst hp
  obtain ⟨T', h', cA, X', e', E', A', stp⟩ := newP X hx hZ w eT (g := mkF m pc Ls (.int n :: st)) rfl (hb hby hd) rfl hn hcap hb' hc hl
  exact own_step stp (k T' h' cA h.size rfl X' e' E' A')
theorem own_newPE (X : Stand p l e R s m args below meth c T locs cells slots) (hx : p.tables.exec = Jvm.exec) (hZ : Z.Warmed39 s.vm) (hby : c.code = bs) {aty : ArrayType} {n : Int32} {cap : Nat} {ad : String} (had : "[" ++ (newarray.typeOf aty).toString = ad) (w : (Cond.arrayClass (newarray.typeOf aty)).before a0 Z = true) (eT : T.heap = h) (hd : decode bs pc = .ok (.newarray aty, 2)) (hp : pc + 2 = pc') (hn : ¬ n < 0) (hcap : n.toNatClampNeg ≤ cap) (hb' : cap * 8 ≤ 536870912) (hc : cells + 1 ≤ R.cells) (hl : slots + cap ≤ R.slots)
    (k : ∀ T' h' cA (b : Addr), b = h.size → Stand p l e R s m args below meth c T' locs (cells + 1) (slots + cap) → T'.heap = h' → Ext h h' → Arr Z h' b (newA cA (newarray.typeOf aty) n) (newarray.typeOf aty) → Exa Z h' b ad → own_End p e below F (T'.setTop (mkF m pc' Ls (.ref b :: st)))) : own_End p e below F (T.setTop (mkF m pc Ls (.int n :: st))) := by
  subst hp
  obtain ⟨T', h', cA, X', e', E', A', Ex', stp⟩ := newPE X hx hZ w eT (g := mkF m pc Ls (.int n :: st)) rfl (hb hby hd) rfl hn hcap hb' hc hl had
  exact own_step stp (k T' h' cA h.size rfl X' e' E' A' Ex')
theorem own_newR (X : Stand p l e R s m args below meth c T locs cells slots) (hx : p.tables.exec = Jvm.exec) (hZ : Z.Warmed39 s.vm) (hby : c.code = bs) {own C : String} {index : Nat} {n : Int32} {cap : Nat} (hown : s.vm.findClass own = some m.cls) (w1 : (Cond.classLink own index C).before a0 Z = true) (w2 : (Cond.arrayOver (.object C)).before a0 Z = true) (eT : T.heap = h) (hd : decode bs pc = .ok (.anewarray index, 3)) (hp : pc + 3 = pc') (hn : ¬ n < 0) (hcap : n.toNatClampNeg ≤ cap) (hb' : cap * 8 ≤ 536870912) (hc : cells + 1 ≤ R.cells) (hl : slots + cap ≤ R.slots)
    (k : ∀ T' h' cA (b : Addr), b = h.size → Stand p l e R s m args below meth c T' locs (cells + 1) (slots + cap) → T'.heap = h' → Ext h h' → Arr Z h' b (newA cA (.object C) n) (.object C) → Ovr Z cA C → own_End p e below F (T'.setTop (mkF m pc' Ls (.ref b :: st)))) : own_End p e below F (T.setTop (mkF m pc Ls (.int n :: st))) := by
  subst hp
  obtain ⟨T', h', cA, X', e', E', A', O', stp⟩ := newR X hx hZ hown w1 w2 eT (g := mkF m pc Ls (.int n :: st)) rfl (hb hby hd) rfl hn hcap hb' hc hl
  exact own_step stp (k T' h' cA h.size rfl X' e' E' A' O')
theorem own_iastore (X : Stand p l e R s m args below meth c T locs cells slots) (hx : p.tables.exec = Jvm.exec) (hZ : Z.Warmed39 s.vm) (hby : c.code = bs) {a : Addr} {cl : Cell} (eT : T.heap = h) (A : Arr Z h a cl .int) {j : Int32} {x : Int32} (hj : ¬ (j < 0 ∨ cl.slots.size ≤ j.toNatClampNeg)) (hd : decode bs pc = .ok (.iastore, 1)) (hp : pc + 1 = pc')
    (k : ∀ T' h', Stand p l e R s m args below meth c T' (locs ++ [⟨a, j.toNatClampNeg⟩]) cells slots → T'.heap = h' → Wr h h' a j.toNatClampNeg (.int x) → own_End p e below F (T'.setTop (mkF m pc' Ls st))) : own_End p e below F (T.setTop (mkF m pc Ls (.int x :: .int j :: .ref a :: st))) := by
  subst hp
  obtain ⟨T', h', X', e', W', stp⟩ := stI X hx hZ eT A hj (g := mkF m pc Ls (.int x :: .int j :: .ref a :: st)) rfl rfl (hb hby hd)
  exact own_step stp (k T' h' X' e' W')
theorem own_lastore (X : Stand p l e R s m args below meth c T locs cells slots) (hx : p.tables.exec = Jvm.exec) (hZ : Z.Warmed39 s.vm) (hby : c.code = bs) {a : Addr} {cl : Cell} (eT : T.heap = h) (A : Arr Z h a cl .long) {j : Int32} {x : Int64} (hj : ¬ (j < 0 ∨ cl.slots.size ≤ j.toNatClampNeg)) (hd : decode bs pc = .ok (.lastore, 1)) (hp : pc + 1 = pc')
    (k : ∀ T' h', Stand p l e R s m args below meth c T' (locs ++ [⟨a, j.toNatClampNeg⟩]) cells slots → T'.heap = h' → Wr h h' a j.toNatClampNeg (.long x) → own_End p e below F (T'.setTop (mkF m pc' Ls st))) : own_End p e below F (T.setTop (mkF m pc Ls (.long x :: .int j :: .ref a :: st))) := by
  subst hp
  obtain ⟨T', h', X', e', W', stp⟩ := stJ X hx hZ eT A hj (g := mkF m pc Ls (.long x :: .int j :: .ref a :: st)) rfl rfl (hb hby hd)
  exact own_step stp (k T' h' X' e' W')
theorem own_castore (X : Stand p l e R s m args below meth c T locs cells slots) (hx : p.tables.exec = Jvm.exec) (hZ : Z.Warmed39 s.vm) (hby : c.code = bs) {a : Addr} {cl : Cell} (eT : T.heap = h) (A : Arr Z h a cl .char) {j : Int32} {x : Int32} (hj : ¬ (j < 0 ∨ cl.slots.size ≤ j.toNatClampNeg)) (hd : decode bs pc = .ok (.castore, 1)) (hp : pc + 1 = pc')
    (k : ∀ T' h', Stand p l e R s m args below meth c T' (locs ++ [⟨a, j.toNatClampNeg⟩]) cells slots → T'.heap = h' → Wr h h' a j.toNatClampNeg (.int (nar .char x)) → own_End p e below F (T'.setTop (mkF m pc' Ls st))) : own_End p e below F (T.setTop (mkF m pc Ls (.int x :: .int j :: .ref a :: st))) := by
  subst hp
  obtain ⟨T', h', X', e', W', stp⟩ := stC X hx hZ eT A hj (g := mkF m pc Ls (.int x :: .int j :: .ref a :: st)) rfl rfl (hb hby hd)
  exact own_step stp (k T' h' X' e' W')
theorem own_bastore (X : Stand p l e R s m args below meth c T locs cells slots) (hx : p.tables.exec = Jvm.exec) (hZ : Z.Warmed39 s.vm) (hby : c.code = bs) {a : Addr} {cl : Cell} (eT : T.heap = h) (A : Arr Z h a cl .byte) {j : Int32} {x : Int32} (hj : ¬ (j < 0 ∨ cl.slots.size ≤ j.toNatClampNeg)) (hd : decode bs pc = .ok (.bastore, 1)) (hp : pc + 1 = pc')
    (k : ∀ T' h', Stand p l e R s m args below meth c T' (locs ++ [⟨a, j.toNatClampNeg⟩]) cells slots → T'.heap = h' → Wr h h' a j.toNatClampNeg (.int (nar .byte x)) → own_End p e below F (T'.setTop (mkF m pc' Ls st))) : own_End p e below F (T.setTop (mkF m pc Ls (.int x :: .int j :: .ref a :: st))) := by
  subst hp
  obtain ⟨T', h', X', e', W', stp⟩ := stB X hx hZ eT A hj (g := mkF m pc Ls (.int x :: .int j :: .ref a :: st)) rfl rfl (hb hby hd)
  exact own_step stp (k T' h' X' e' W')
theorem own_stR (X : Stand p l e R s m args below meth c T locs cells slots) (hx : p.tables.exec = Jvm.exec) (hZ : Z.Warmed39 s.vm) (hby : c.code = bs) {a : Addr} {cl : Cell} {ty : FieldType} (eT : T.heap = h) (A : Arr Z h a cl ty) {j : Int32} {v : Value} (hj : ¬ (j < 0 ∨ cl.slots.size ≤ j.toNatClampNeg)) (hty : ty.isReference = true) (S : Sto Z h a v) (hd : decode bs pc = .ok (.aastore, 1)) (hp : pc + 1 = pc')
    (k : ∀ T' h', Stand p l e R s m args below meth c T' (locs ++ [⟨a, j.toNatClampNeg⟩]) cells slots → T'.heap = h' → Wr h h' a j.toNatClampNeg v → own_End p e below F (T'.setTop (mkF m pc' Ls st))) : own_End p e below F (T.setTop (mkF m pc Ls (v :: .int j :: .ref a :: st))) := by
  subst hp
  obtain ⟨T', h', X', e', W', stp⟩ := stR X hx hZ eT A hj hty S (g := mkF m pc Ls (v :: .int j :: .ref a :: st)) rfl rfl (hb hby hd)
  exact own_step stp (k T' h' X' e' W')
theorem own_iaload (X : Stand p l e R s m args below meth c T locs cells slots) (hx : p.tables.exec = Jvm.exec) (hZ : Z.Warmed39 s.vm) (hby : c.code = bs) {a : Addr} {cl : Cell} (eT : T.heap = h) (A : Arr Z h a cl .int) {j : Int32} {v : Value} (hj : ¬ (j < 0 ∨ cl.slots.size ≤ j.toNatClampNeg)) (hv : cl.slots[j.toNatClampNeg]? = some v) (hd : decode bs pc = .ok (.iaload, 1)) (hp : pc + 1 = pc') (k : own_End p e below F (T.setTop (mkF m pc' Ls (v :: st)))) : own_End p e below F (T.setTop (mkF m pc Ls (.int j :: .ref a :: st))) := by
  subst hp
  exact own_step (fun t q => X.iaload hx (j := j) (v := v) (by rw [eT]; exact A.1) (State.isArrayOf_alike hZ.alike A.2.1) A.2.2 hj hv (g := mkF m pc Ls (.int j :: .ref a :: st)) rfl rfl (hb hby hd) _ q) k
theorem own_laload (X : Stand p l e R s m args below meth c T locs cells slots) (hx : p.tables.exec = Jvm.exec) (hZ : Z.Warmed39 s.vm) (hby : c.code = bs) {a : Addr} {cl : Cell} (eT : T.heap = h) (A : Arr Z h a cl .long) {j : Int32} {v : Value} (hj : ¬ (j < 0 ∨ cl.slots.size ≤ j.toNatClampNeg)) (hv : cl.slots[j.toNatClampNeg]? = some v) (hd : decode bs pc = .ok (.laload, 1)) (hp : pc + 1 = pc') (k : own_End p e below F (T.setTop (mkF m pc' Ls (v :: st)))) : own_End p e below F (T.setTop (mkF m pc Ls (.int j :: .ref a :: st))) := by
  subst hp
  exact own_step (fun t q => X.laload hx (j := j) (v := v) (by rw [eT]; exact A.1) (State.isArrayOf_alike hZ.alike A.2.1) A.2.2 hj hv (g := mkF m pc Ls (.int j :: .ref a :: st)) rfl rfl (hb hby hd) _ q) k
theorem own_caload (X : Stand p l e R s m args below meth c T locs cells slots) (hx : p.tables.exec = Jvm.exec) (hZ : Z.Warmed39 s.vm) (hby : c.code = bs) {a : Addr} {cl : Cell} (eT : T.heap = h) (A : Arr Z h a cl .char) {j : Int32} {v : Value} (hj : ¬ (j < 0 ∨ cl.slots.size ≤ j.toNatClampNeg)) (hv : cl.slots[j.toNatClampNeg]? = some v) (hd : decode bs pc = .ok (.caload, 1)) (hp : pc + 1 = pc') (k : own_End p e below F (T.setTop (mkF m pc' Ls (v :: st)))) : own_End p e below F (T.setTop (mkF m pc Ls (.int j :: .ref a :: st))) := by
  subst hp
  exact own_step (fun t q => X.caload hx (j := j) (v := v) (by rw [eT]; exact A.1) (State.isArrayOf_alike hZ.alike A.2.1) A.2.2 hj hv (g := mkF m pc Ls (.int j :: .ref a :: st)) rfl rfl (hb hby hd) _ q) k
theorem own_baload (X : Stand p l e R s m args below meth c T locs cells slots) (hx : p.tables.exec = Jvm.exec) (hZ : Z.Warmed39 s.vm) (hby : c.code = bs) {a : Addr} {cl : Cell} (eT : T.heap = h) (A : Arr Z h a cl .byte) {j : Int32} {v : Value} (hj : ¬ (j < 0 ∨ cl.slots.size ≤ j.toNatClampNeg)) (hv : cl.slots[j.toNatClampNeg]? = some v) (hd : decode bs pc = .ok (.baload, 1)) (hp : pc + 1 = pc') (k : own_End p e below F (T.setTop (mkF m pc' Ls (v :: st)))) : own_End p e below F (T.setTop (mkF m pc Ls (.int j :: .ref a :: st))) := by
  subst hp
  exact own_step (fun t q => X.baloadBytes hx (j := j) (v := v) (by rw [eT]; exact A.1) (State.isArrayOf_alike hZ.alike A.2.1) A.2.2 hj hv (g := mkF m pc Ls (.int j :: .ref a :: st)) rfl rfl (hb hby hd) _ q) k
theorem own_aaload (X : Stand p l e R s m args below meth c T locs cells slots) (hx : p.tables.exec = Jvm.exec) (hZ : Z.Warmed39 s.vm) (hby : c.code = bs) {a : Addr} {cl : Cell} {ty : FieldType} (eT : T.heap = h) (A : Arr Z h a cl ty) (hty : ty.isReference = true) {j : Int32} {v : Value} (hj : ¬ (j < 0 ∨ cl.slots.size ≤ j.toNatClampNeg)) (hv : cl.slots[j.toNatClampNeg]? = some v) (hd : decode bs pc = .ok (.aaload, 1)) (hp : pc + 1 = pc') (k : own_End p e below F (T.setTop (mkF m pc' Ls (v :: st)))) : own_End p e below F (T.setTop (mkF m pc Ls (.int j :: .ref a :: st))) := by
  subst hp
  exact own_step (fun t q => X.aaload hx (j := j) (v := v) (by rw [eT]; exact A.1) (State.isArrayOf_alike hZ.alike A.2.1) hty A.2.2 hj hv (g := mkF m pc Ls (.int j :: .ref a :: st)) rfl rfl (hb hby hd) _ q) k
theorem own_alen (X : Stand p l e R s m args below meth c T locs cells slots) (hx : p.tables.exec = Jvm.exec) (hZ : Z.Warmed39 s.vm) (hby : c.code = bs) {a : Addr} {cl : Cell} {ty : FieldType} {z : Int32} (eT : T.heap = h) (A : Arr Z h a cl ty) (S : cl.slots.size = z.toNatClampNeg) (M : ¬ z < 0) (hd : decode bs pc = .ok (.arraylength, 1)) (hp : pc + 1 = pc') (k : own_End p e below F (T.setTop (mkF m pc' Ls (.int z :: st)))) : own_End p e below F (T.setTop (mkF m pc Ls (.ref a :: st))) := by
  subst hp
  have hl := len_of S M
  exact own_step (fun t q => X.arraylength hx (by rw [eT]; exact A.1) (State.isArrayOf_alike hZ.alike A.2.1) (g := mkF m pc Ls (.ref a :: st)) rfl rfl (hb hby hd) _ (by rw [hl]; exact q)) k
theorem own_init (X : Stand p l e R s m args below meth c T locs cells slots) (hx : p.tables.exec = Jvm.exec) (hZ : Z.Warmed39 s.vm) (hby : c.code = bs) {own : String} {index : Nat} {a : Addr} {W : Nat} (hown : s.vm.findClass own = some m.cls) (w1 : (Cond.methodLink own index Lib.objectInit).before a0 Z = true) (w2 : (Cond.instanceMethod Lib.objectInit).before a0 Z = true) (w3 : (Cond.code Lib.objectInit ⟨#[0xb1]⟩ 1 none).before a0 Z = true) (eT : T.heap = h) (hsz : Ls.size = c.maxLocals) (hd : decode bs pc = .ok (.invokespecial index, 3)) (hp : pc + 3 = pc') (hf : 1 ≤ R.frames) (hW : (st.map fun v => v.category).sum ≤ W) (hl : W + 12 ≤ R.locals)
    (k : ∀ T', Stand p l e R s m args below meth c T' locs cells slots → T'.heap = h → own_End p e below F (T'.setTop (mkF m pc' Ls st))) : own_End p e below F (T.setTop (mkF m pc Ls (.ref a :: st))) := by
  subst hp
  obtain ⟨T', X', e', stp⟩ := initO X hx hZ hown w1 w2 w3 eT (g := mkF m pc Ls (.ref a :: st)) rfl hsz rfl (hb hby hd) hf (W := W) (by show 2 * 0 + _ ≤ _; omega) hl
  exact own_step stp (k T' X' e')
theorem own_cast (X : Stand p l e R s m args below meth c T locs cells slots) (hx : p.tables.exec = Jvm.exec) (hZ : Z.Warmed39 s.vm) (hby : c.code = bs) {own K : String} {index : Nat} {a : Addr} (hown : s.vm.findClass own = some m.cls) (w : (Cond.classLink own index K).before a0 Z = true) (eT : T.heap = h) (I : Ins Z h a K true) (hd : decode bs pc = .ok (.checkcast index, 3)) (hp : pc + 3 = pc')
    (k : ∀ T', Stand p l e R s m args below meth c T' locs cells slots → T'.heap = h → own_End p e below F (T'.setTop (mkF m pc' Ls (.ref a :: st)))) : own_End p e below F (T.setTop (mkF m pc Ls (.ref a :: st))) := by
  subst hp
  obtain ⟨T', X', e', stp⟩ := castY X hx hZ hown w eT I (g := mkF m pc Ls (.ref a :: st)) rfl rfl (hb hby hd)
  exact own_step stp (k T' X' e')
theorem own_inst (X : Stand p l e R s m args below meth c T locs cells slots) (hx : p.tables.exec = Jvm.exec) (hZ : Z.Warmed39 s.vm) (hby : c.code = bs) {own K : String} {index : Nat} {a : Addr} (hown : s.vm.findClass own = some m.cls) (w : (Cond.classLink own index K).before a0 Z = true) (eT : T.heap = h) (I : Ins Z h a K true) (hd : decode bs pc = .ok (.instanceof index, 3)) (hp : pc + 3 = pc')
    (k : ∀ T', Stand p l e R s m args below meth c T' locs cells slots → T'.heap = h → own_End p e below F (T'.setTop (mkF m pc' Ls (.int 1 :: st)))) : own_End p e below F (T.setTop (mkF m pc Ls (.ref a :: st))) := by
  subst hp
  obtain ⟨T', X', e', stp⟩ := instY X hx hZ hown w eT I (g := mkF m pc Ls (.ref a :: st)) rfl rfl (hb hby hd)
  exact own_step stp (k T' X' e')
theorem own_instNull (X : Stand p l e R s m args below meth c T locs cells slots) (hx : p.tables.exec = Jvm.exec) (hby : c.code = bs) {index : Nat} (hd : decode bs pc = .ok (.instanceof index, 3)) (hp : pc + 3 = pc') (k : own_End p e below F (T.setTop (mkF m pc' Ls (.int 0 :: st)))) : own_End p e below F (T.setTop (mkF m pc Ls (.null :: st))) := by
  subst hp
  exact own_step (fun t q => X.instanceofNull hx (g := mkF m pc Ls (.null :: st)) rfl rfl (hb hby hd) _ q) k
end Heap
end OwnKit

theorem wd_0 {a0 : Array Value} {Z : State} (hw : ∀ d ∈ tables_1, d.before a0 Z = true) : (Jvm.Cond.constant "com/example/inclusive_lock/inclusivelock/sim/SimulationReportFoundViolationPinLaw" (7 : Nat) (2147483647 : Int32)).before a0 Z = true := hw _ (List.mem_of_getElem? (i := 0) rfl)
theorem wd_1 {a0 : Array Value} {Z : State} (hw : ∀ d ∈ tables_1, d.before a0 Z = true) : (Jvm.Cond.classLink "com/example/inclusive_lock/inclusivelock/sim/SimulationReportFoundViolationPinLaw" (8 : Nat) "com/example/inclusive_lock/inclusivelock/sim/RoleError").before a0 Z = true := hw _ (List.mem_of_getElem? (i := 1) rfl)
theorem wd_2 {a0 : Array Value} {Z : State} (hw : ∀ d ∈ tables_1, d.before a0 Z = true) : (Jvm.Cond.instantiable "com/example/inclusive_lock/inclusivelock/sim/RoleError" (3 : Nat)).before a0 Z = true := hw _ (List.mem_of_getElem? (i := 2) rfl)
theorem wd_3 {a0 : Array Value} {Z : State} (hw : ∀ d ∈ tables_1, d.before a0 Z = true) : (Jvm.Cond.initialized "com/example/inclusive_lock/inclusivelock/sim/RoleError").before a0 Z = true := hw _ (List.mem_of_getElem? (i := 3) rfl)
theorem wd_4 {a0 : Array Value} {Z : State} (hw : ∀ d ∈ tables_1, d.before a0 Z = true) : (Jvm.Cond.methodLink "com/example/inclusive_lock/inclusivelock/sim/SimulationReportFoundViolationPinLaw" (10 : Nat) ({ cls := "com/example/inclusive_lock/inclusivelock/sim/RoleError", name := "<init>", desc := "(JJLjava/lang/RuntimeException;)V" } : Jvm.MethodName)).before a0 Z = true := hw _ (List.mem_of_getElem? (i := 4) rfl)
theorem wd_5 {a0 : Array Value} {Z : State} (hw : ∀ d ∈ tables_1, d.before a0 Z = true) : (Jvm.Cond.instanceMethod ({ cls := "com/example/inclusive_lock/inclusivelock/sim/RoleError", name := "<init>", desc := "(JJLjava/lang/RuntimeException;)V" } : Jvm.MethodName)).before a0 Z = true := hw _ (List.mem_of_getElem? (i := 5) rfl)
theorem wd_6 {a0 : Array Value} {Z : State} (hw : ∀ d ∈ tables_1, d.before a0 Z = true) : (Jvm.Cond.code ({ cls := "com/example/inclusive_lock/inclusivelock/sim/RoleError", name := "<init>", desc := "(JJLjava/lang/RuntimeException;)V" } : Jvm.MethodName) prog_75_method_1_code (6 : Nat) (Option.none : Option Jvm.ClassFile.FieldType)).before a0 Z = true := hw _ (List.mem_of_getElem? (i := 6) rfl)
theorem wd_7 {a0 : Array Value} {Z : State} (hw : ∀ d ∈ tables_1, d.before a0 Z = true) : (Jvm.Cond.methodLink "com/example/inclusive_lock/inclusivelock/sim/RoleError" (1 : Nat) ({ cls := "java/lang/Record", name := "<init>", desc := "()V" } : Jvm.MethodName)).before a0 Z = true := hw _ (List.mem_of_getElem? (i := 7) rfl)
theorem wd_8 {a0 : Array Value} {Z : State} (hw : ∀ d ∈ tables_1, d.before a0 Z = true) : (Jvm.Cond.instanceMethod ({ cls := "java/lang/Record", name := "<init>", desc := "()V" } : Jvm.MethodName)).before a0 Z = true := hw _ (List.mem_of_getElem? (i := 8) rfl)
theorem wd_10 {a0 : Array Value} {Z : State} (hw : ∀ d ∈ tables_1, d.before a0 Z = true) : (Jvm.Cond.initialized "java/lang/Record").before a0 Z = true := hw _ (List.mem_of_getElem? (i := 10) rfl)
theorem wd_11 {a0 : Array Value} {Z : State} (hw : ∀ d ∈ tables_1, d.before a0 Z = true) : (Jvm.Cond.code ({ cls := "java/lang/Record", name := "<init>", desc := "()V" } : Jvm.MethodName) jdk_30_method_1_code (1 : Nat) (Option.none : Option Jvm.ClassFile.FieldType)).before a0 Z = true := hw _ (List.mem_of_getElem? (i := 11) rfl)
theorem wd_12 {a0 : Array Value} {Z : State} (hw : ∀ d ∈ tables_1, d.before a0 Z = true) : (Jvm.Cond.methodLink "java/lang/Record" (1 : Nat) ({ cls := "java/lang/Object", name := "<init>", desc := "()V" } : Jvm.MethodName)).before a0 Z = true := hw _ (List.mem_of_getElem? (i := 12) rfl)
theorem wd_13 {a0 : Array Value} {Z : State} (hw : ∀ d ∈ tables_1, d.before a0 Z = true) : (Jvm.Cond.instanceMethod ({ cls := "java/lang/Object", name := "<init>", desc := "()V" } : Jvm.MethodName)).before a0 Z = true := hw _ (List.mem_of_getElem? (i := 13) rfl)
theorem wd_14 {a0 : Array Value} {Z : State} (hw : ∀ d ∈ tables_1, d.before a0 Z = true) : (Jvm.Cond.code ({ cls := "java/lang/Object", name := "<init>", desc := "()V" } : Jvm.MethodName) object_method_1_code (1 : Nat) (Option.none : Option Jvm.ClassFile.FieldType)).before a0 Z = true := hw _ (List.mem_of_getElem? (i := 14) rfl)
theorem wd_15 {a0 : Array Value} {Z : State} (hw : ∀ d ∈ tables_1, d.before a0 Z = true) : (Jvm.Cond.fieldLink "com/example/inclusive_lock/inclusivelock/sim/RoleError" (7 : Nat) "com/example/inclusive_lock/inclusivelock/sim/RoleError" "seed" "J").before a0 Z = true := hw _ (List.mem_of_getElem? (i := 15) rfl)
theorem wd_16 {a0 : Array Value} {Z : State} (hw : ∀ d ∈ tables_1, d.before a0 Z = true) : (Jvm.Cond.laysFinal "com/example/inclusive_lock/inclusivelock/sim/RoleError" "com/example/inclusive_lock/inclusivelock/sim/RoleError" "seed" "J").before a0 Z = true := hw _ (List.mem_of_getElem? (i := 16) rfl)
theorem wd_17 {a0 : Array Value} {Z : State} (hw : ∀ d ∈ tables_1, d.before a0 Z = true) : (Jvm.Cond.fieldLink "com/example/inclusive_lock/inclusivelock/sim/RoleError" (13 : Nat) "com/example/inclusive_lock/inclusivelock/sim/RoleError" "time" "J").before a0 Z = true := hw _ (List.mem_of_getElem? (i := 17) rfl)
theorem wd_18 {a0 : Array Value} {Z : State} (hw : ∀ d ∈ tables_1, d.before a0 Z = true) : (Jvm.Cond.laysFinal "com/example/inclusive_lock/inclusivelock/sim/RoleError" "com/example/inclusive_lock/inclusivelock/sim/RoleError" "time" "J").before a0 Z = true := hw _ (List.mem_of_getElem? (i := 18) rfl)
theorem wd_19 {a0 : Array Value} {Z : State} (hw : ∀ d ∈ tables_1, d.before a0 Z = true) : (Jvm.Cond.fieldLink "com/example/inclusive_lock/inclusivelock/sim/RoleError" (16 : Nat) "com/example/inclusive_lock/inclusivelock/sim/RoleError" "exception" "Ljava/lang/RuntimeException;").before a0 Z = true := hw _ (List.mem_of_getElem? (i := 19) rfl)
theorem wd_20 {a0 : Array Value} {Z : State} (hw : ∀ d ∈ tables_1, d.before a0 Z = true) : (Jvm.Cond.laysFinal "com/example/inclusive_lock/inclusivelock/sim/RoleError" "com/example/inclusive_lock/inclusivelock/sim/RoleError" "exception" "Ljava/lang/RuntimeException;").before a0 Z = true := hw _ (List.mem_of_getElem? (i := 20) rfl)
theorem wd_21 {a0 : Array Value} {Z : State} (hw : ∀ d ∈ tables_1, d.before a0 Z = true) : (Jvm.Cond.methodLink "com/example/inclusive_lock/inclusivelock/sim/SimulationReportFoundViolationPinLaw" (13 : Nat) ({ cls := "java/util/Optional", name := "of", desc := "(Ljava/lang/Object;)Ljava/util/Optional;" } : Jvm.MethodName)).before a0 Z = true := hw _ (List.mem_of_getElem? (i := 21) rfl)
theorem wd_22 {a0 : Array Value} {Z : State} (hw : ∀ d ∈ tables_1, d.before a0 Z = true) : (Jvm.Cond.static ({ cls := "java/util/Optional", name := "of", desc := "(Ljava/lang/Object;)Ljava/util/Optional;" } : Jvm.MethodName)).before a0 Z = true := hw _ (List.mem_of_getElem? (i := 22) rfl)
theorem wd_23 {a0 : Array Value} {Z : State} (hw : ∀ d ∈ tables_1, d.before a0 Z = true) : (Jvm.Cond.initialized "java/util/Optional").before a0 Z = true := hw _ (List.mem_of_getElem? (i := 23) rfl)
theorem wd_24 {a0 : Array Value} {Z : State} (hw : ∀ d ∈ tables_1, d.before a0 Z = true) : (Jvm.Cond.code ({ cls := "java/util/Optional", name := "of", desc := "(Ljava/lang/Object;)Ljava/util/Optional;" } : Jvm.MethodName) jdk_32_method_3_code (1 : Nat) (Option.some (Jvm.ClassFile.FieldType.object "java/util/Optional"))).before a0 Z = true := hw _ (List.mem_of_getElem? (i := 24) rfl)
theorem wd_25 {a0 : Array Value} {Z : State} (hw : ∀ d ∈ tables_1, d.before a0 Z = true) : (Jvm.Cond.classLink "java/util/Optional" (2 : Nat) "java/util/Optional").before a0 Z = true := hw _ (List.mem_of_getElem? (i := 25) rfl)
theorem wd_26 {a0 : Array Value} {Z : State} (hw : ∀ d ∈ tables_1, d.before a0 Z = true) : (Jvm.Cond.instantiable "java/util/Optional" (1 : Nat)).before a0 Z = true := hw _ (List.mem_of_getElem? (i := 26) rfl)
theorem wd_27 {a0 : Array Value} {Z : State} (hw : ∀ d ∈ tables_1, d.before a0 Z = true) : (Jvm.Cond.methodLink "java/util/Optional" (17 : Nat) ({ cls := "java/util/Objects", name := "requireNonNull", desc := "(Ljava/lang/Object;)Ljava/lang/Object;" } : Jvm.MethodName)).before a0 Z = true := hw _ (List.mem_of_getElem? (i := 27) rfl)
theorem wd_28 {a0 : Array Value} {Z : State} (hw : ∀ d ∈ tables_1, d.before a0 Z = true) : (Jvm.Cond.static ({ cls := "java/util/Objects", name := "requireNonNull", desc := "(Ljava/lang/Object;)Ljava/lang/Object;" } : Jvm.MethodName)).before a0 Z = true := hw _ (List.mem_of_getElem? (i := 28) rfl)
theorem wd_29 {a0 : Array Value} {Z : State} (hw : ∀ d ∈ tables_1, d.before a0 Z = true) : (Jvm.Cond.initialized "java/util/Objects").before a0 Z = true := hw _ (List.mem_of_getElem? (i := 29) rfl)
theorem wd_30 {a0 : Array Value} {Z : State} (hw : ∀ d ∈ tables_1, d.before a0 Z = true) : (Jvm.Cond.code ({ cls := "java/util/Objects", name := "requireNonNull", desc := "(Ljava/lang/Object;)Ljava/lang/Object;" } : Jvm.MethodName) jdk_31_method_10_code (1 : Nat) (Option.some (Jvm.ClassFile.FieldType.object "java/lang/Object"))).before a0 Z = true := hw _ (List.mem_of_getElem? (i := 30) rfl)
theorem wd_31 {a0 : Array Value} {Z : State} (hw : ∀ d ∈ tables_1, d.before a0 Z = true) : (Jvm.Cond.methodLink "java/util/Optional" (23 : Nat) ({ cls := "java/util/Optional", name := "<init>", desc := "(Ljava/lang/Object;)V" } : Jvm.MethodName)).before a0 Z = true := hw _ (List.mem_of_getElem? (i := 31) rfl)
theorem wd_32 {a0 : Array Value} {Z : State} (hw : ∀ d ∈ tables_1, d.before a0 Z = true) : (Jvm.Cond.instanceMethod ({ cls := "java/util/Optional", name := "<init>", desc := "(Ljava/lang/Object;)V" } : Jvm.MethodName)).before a0 Z = true := hw _ (List.mem_of_getElem? (i := 32) rfl)
theorem wd_34 {a0 : Array Value} {Z : State} (hw : ∀ d ∈ tables_1, d.before a0 Z = true) : (Jvm.Cond.code ({ cls := "java/util/Optional", name := "<init>", desc := "(Ljava/lang/Object;)V" } : Jvm.MethodName) jdk_32_method_2_code (2 : Nat) (Option.none : Option Jvm.ClassFile.FieldType)).before a0 Z = true := hw _ (List.mem_of_getElem? (i := 34) rfl)
theorem wd_35 {a0 : Array Value} {Z : State} (hw : ∀ d ∈ tables_1, d.before a0 Z = true) : (Jvm.Cond.methodLink "java/util/Optional" (7 : Nat) ({ cls := "java/lang/Object", name := "<init>", desc := "()V" } : Jvm.MethodName)).before a0 Z = true := hw _ (List.mem_of_getElem? (i := 35) rfl)
theorem wd_36 {a0 : Array Value} {Z : State} (hw : ∀ d ∈ tables_1, d.before a0 Z = true) : (Jvm.Cond.fieldLink "java/util/Optional" (13 : Nat) "java/util/Optional" "value" "Ljava/lang/Object;").before a0 Z = true := hw _ (List.mem_of_getElem? (i := 36) rfl)
theorem wd_37 {a0 : Array Value} {Z : State} (hw : ∀ d ∈ tables_1, d.before a0 Z = true) : (Jvm.Cond.laysFinal "java/util/Optional" "java/util/Optional" "value" "Ljava/lang/Object;").before a0 Z = true := hw _ (List.mem_of_getElem? (i := 37) rfl)
theorem wd_38 {a0 : Array Value} {Z : State} (hw : ∀ d ∈ tables_1, d.before a0 Z = true) : (Jvm.Cond.classLink "com/example/inclusive_lock/inclusivelock/sim/SimulationReportFoundViolationPinLaw" (23 : Nat) "com/example/inclusive_lock/inclusivelock/sim/SimulationReport").before a0 Z = true := hw _ (List.mem_of_getElem? (i := 38) rfl)
theorem wd_39 {a0 : Array Value} {Z : State} (hw : ∀ d ∈ tables_1, d.before a0 Z = true) : (Jvm.Cond.instantiable "com/example/inclusive_lock/inclusivelock/sim/SimulationReport" (9 : Nat)).before a0 Z = true := hw _ (List.mem_of_getElem? (i := 39) rfl)
theorem wd_40 {a0 : Array Value} {Z : State} (hw : ∀ d ∈ tables_1, d.before a0 Z = true) : (Jvm.Cond.initialized "com/example/inclusive_lock/inclusivelock/sim/SimulationReport").before a0 Z = true := hw _ (List.mem_of_getElem? (i := 40) rfl)
theorem wd_41 {a0 : Array Value} {Z : State} (hw : ∀ d ∈ tables_1, d.before a0 Z = true) : (Jvm.Cond.methodLink "com/example/inclusive_lock/inclusivelock/sim/SimulationReportFoundViolationPinLaw" (25 : Nat) ({ cls := "com/example/inclusive_lock/inclusivelock/sim/SimulationReport", name := "<init>", desc := "(IIIIJJJJLjava/util/Optional;)V" } : Jvm.MethodName)).before a0 Z = true := hw _ (List.mem_of_getElem? (i := 41) rfl)
theorem wd_42 {a0 : Array Value} {Z : State} (hw : ∀ d ∈ tables_1, d.before a0 Z = true) : (Jvm.Cond.instanceMethod ({ cls := "com/example/inclusive_lock/inclusivelock/sim/SimulationReport", name := "<init>", desc := "(IIIIJJJJLjava/util/Optional;)V" } : Jvm.MethodName)).before a0 Z = true := hw _ (List.mem_of_getElem? (i := 42) rfl)
theorem wd_43 {a0 : Array Value} {Z : State} (hw : ∀ d ∈ tables_1, d.before a0 Z = true) : (Jvm.Cond.code ({ cls := "com/example/inclusive_lock/inclusivelock/sim/SimulationReport", name := "<init>", desc := "(IIIIJJJJLjava/util/Optional;)V" } : Jvm.MethodName) prog_82_method_1_code (14 : Nat) (Option.none : Option Jvm.ClassFile.FieldType)).before a0 Z = true := hw _ (List.mem_of_getElem? (i := 43) rfl)
theorem wd_44 {a0 : Array Value} {Z : State} (hw : ∀ d ∈ tables_1, d.before a0 Z = true) : (Jvm.Cond.methodLink "com/example/inclusive_lock/inclusivelock/sim/SimulationReport" (1 : Nat) ({ cls := "java/lang/Record", name := "<init>", desc := "()V" } : Jvm.MethodName)).before a0 Z = true := hw _ (List.mem_of_getElem? (i := 44) rfl)
theorem wd_45 {a0 : Array Value} {Z : State} (hw : ∀ d ∈ tables_1, d.before a0 Z = true) : (Jvm.Cond.fieldLink "com/example/inclusive_lock/inclusivelock/sim/SimulationReport" (7 : Nat) "com/example/inclusive_lock/inclusivelock/sim/SimulationReport" "requests" "I").before a0 Z = true := hw _ (List.mem_of_getElem? (i := 45) rfl)
theorem wd_46 {a0 : Array Value} {Z : State} (hw : ∀ d ∈ tables_1, d.before a0 Z = true) : (Jvm.Cond.laysFinal "com/example/inclusive_lock/inclusivelock/sim/SimulationReport" "com/example/inclusive_lock/inclusivelock/sim/SimulationReport" "requests" "I").before a0 Z = true := hw _ (List.mem_of_getElem? (i := 46) rfl)
theorem wd_47 {a0 : Array Value} {Z : State} (hw : ∀ d ∈ tables_1, d.before a0 Z = true) : (Jvm.Cond.fieldLink "com/example/inclusive_lock/inclusivelock/sim/SimulationReport" (13 : Nat) "com/example/inclusive_lock/inclusivelock/sim/SimulationReport" "entries" "I").before a0 Z = true := hw _ (List.mem_of_getElem? (i := 47) rfl)
theorem wd_48 {a0 : Array Value} {Z : State} (hw : ∀ d ∈ tables_1, d.before a0 Z = true) : (Jvm.Cond.laysFinal "com/example/inclusive_lock/inclusivelock/sim/SimulationReport" "com/example/inclusive_lock/inclusivelock/sim/SimulationReport" "entries" "I").before a0 Z = true := hw _ (List.mem_of_getElem? (i := 48) rfl)
theorem wd_49 {a0 : Array Value} {Z : State} (hw : ∀ d ∈ tables_1, d.before a0 Z = true) : (Jvm.Cond.fieldLink "com/example/inclusive_lock/inclusivelock/sim/SimulationReport" (16 : Nat) "com/example/inclusive_lock/inclusivelock/sim/SimulationReport" "overlaps" "I").before a0 Z = true := hw _ (List.mem_of_getElem? (i := 49) rfl)
theorem wd_50 {a0 : Array Value} {Z : State} (hw : ∀ d ∈ tables_1, d.before a0 Z = true) : (Jvm.Cond.laysFinal "com/example/inclusive_lock/inclusivelock/sim/SimulationReport" "com/example/inclusive_lock/inclusivelock/sim/SimulationReport" "overlaps" "I").before a0 Z = true := hw _ (List.mem_of_getElem? (i := 50) rfl)
theorem wd_51 {a0 : Array Value} {Z : State} (hw : ∀ d ∈ tables_1, d.before a0 Z = true) : (Jvm.Cond.fieldLink "com/example/inclusive_lock/inclusivelock/sim/SimulationReport" (19 : Nat) "com/example/inclusive_lock/inclusivelock/sim/SimulationReport" "maxConcurrent" "I").before a0 Z = true := hw _ (List.mem_of_getElem? (i := 51) rfl)
theorem wd_52 {a0 : Array Value} {Z : State} (hw : ∀ d ∈ tables_1, d.before a0 Z = true) : (Jvm.Cond.laysFinal "com/example/inclusive_lock/inclusivelock/sim/SimulationReport" "com/example/inclusive_lock/inclusivelock/sim/SimulationReport" "maxConcurrent" "I").before a0 Z = true := hw _ (List.mem_of_getElem? (i := 52) rfl)
theorem wd_53 {a0 : Array Value} {Z : State} (hw : ∀ d ∈ tables_1, d.before a0 Z = true) : (Jvm.Cond.fieldLink "com/example/inclusive_lock/inclusivelock/sim/SimulationReport" (22 : Nat) "com/example/inclusive_lock/inclusivelock/sim/SimulationReport" "messages" "J").before a0 Z = true := hw _ (List.mem_of_getElem? (i := 53) rfl)
theorem wd_54 {a0 : Array Value} {Z : State} (hw : ∀ d ∈ tables_1, d.before a0 Z = true) : (Jvm.Cond.laysFinal "com/example/inclusive_lock/inclusivelock/sim/SimulationReport" "com/example/inclusive_lock/inclusivelock/sim/SimulationReport" "messages" "J").before a0 Z = true := hw _ (List.mem_of_getElem? (i := 54) rfl)
theorem wd_55 {a0 : Array Value} {Z : State} (hw : ∀ d ∈ tables_1, d.before a0 Z = true) : (Jvm.Cond.fieldLink "com/example/inclusive_lock/inclusivelock/sim/SimulationReport" (26 : Nat) "com/example/inclusive_lock/inclusivelock/sim/SimulationReport" "delayMin" "J").before a0 Z = true := hw _ (List.mem_of_getElem? (i := 55) rfl)
theorem wd_56 {a0 : Array Value} {Z : State} (hw : ∀ d ∈ tables_1, d.before a0 Z = true) : (Jvm.Cond.laysFinal "com/example/inclusive_lock/inclusivelock/sim/SimulationReport" "com/example/inclusive_lock/inclusivelock/sim/SimulationReport" "delayMin" "J").before a0 Z = true := hw _ (List.mem_of_getElem? (i := 56) rfl)
theorem wd_57 {a0 : Array Value} {Z : State} (hw : ∀ d ∈ tables_1, d.before a0 Z = true) : (Jvm.Cond.fieldLink "com/example/inclusive_lock/inclusivelock/sim/SimulationReport" (29 : Nat) "com/example/inclusive_lock/inclusivelock/sim/SimulationReport" "delayMax" "J").before a0 Z = true := hw _ (List.mem_of_getElem? (i := 57) rfl)
theorem wd_58 {a0 : Array Value} {Z : State} (hw : ∀ d ∈ tables_1, d.before a0 Z = true) : (Jvm.Cond.laysFinal "com/example/inclusive_lock/inclusivelock/sim/SimulationReport" "com/example/inclusive_lock/inclusivelock/sim/SimulationReport" "delayMax" "J").before a0 Z = true := hw _ (List.mem_of_getElem? (i := 58) rfl)
theorem wd_59 {a0 : Array Value} {Z : State} (hw : ∀ d ∈ tables_1, d.before a0 Z = true) : (Jvm.Cond.fieldLink "com/example/inclusive_lock/inclusivelock/sim/SimulationReport" (32 : Nat) "com/example/inclusive_lock/inclusivelock/sim/SimulationReport" "endTime" "J").before a0 Z = true := hw _ (List.mem_of_getElem? (i := 59) rfl)
theorem wd_60 {a0 : Array Value} {Z : State} (hw : ∀ d ∈ tables_1, d.before a0 Z = true) : (Jvm.Cond.laysFinal "com/example/inclusive_lock/inclusivelock/sim/SimulationReport" "com/example/inclusive_lock/inclusivelock/sim/SimulationReport" "endTime" "J").before a0 Z = true := hw _ (List.mem_of_getElem? (i := 60) rfl)
theorem wd_61 {a0 : Array Value} {Z : State} (hw : ∀ d ∈ tables_1, d.before a0 Z = true) : (Jvm.Cond.fieldLink "com/example/inclusive_lock/inclusivelock/sim/SimulationReport" (35 : Nat) "com/example/inclusive_lock/inclusivelock/sim/SimulationReport" "roleError" "Ljava/util/Optional;").before a0 Z = true := hw _ (List.mem_of_getElem? (i := 61) rfl)
theorem wd_62 {a0 : Array Value} {Z : State} (hw : ∀ d ∈ tables_1, d.before a0 Z = true) : (Jvm.Cond.laysFinal "com/example/inclusive_lock/inclusivelock/sim/SimulationReport" "com/example/inclusive_lock/inclusivelock/sim/SimulationReport" "roleError" "Ljava/util/Optional;").before a0 Z = true := hw _ (List.mem_of_getElem? (i := 62) rfl)
theorem wd_63 {a0 : Array Value} {Z : State} (hw : ∀ d ∈ tables_1, d.before a0 Z = true) : (Jvm.Cond.methodLink "com/example/inclusive_lock/inclusivelock/sim/SimulationReportFoundViolationPinLaw" (28 : Nat) ({ cls := "com/example/inclusive_lock/inclusivelock/sim/SimulationReport", name := "foundViolation", desc := "()Z" } : Jvm.MethodName)).before a0 Z = true := hw _ (List.mem_of_getElem? (i := 63) rfl)
theorem wd_64 {a0 : Array Value} {Z : State} (hw : ∀ d ∈ tables_1, d.before a0 Z = true) : (Jvm.Cond.declares ({ cls := "com/example/inclusive_lock/inclusivelock/sim/SimulationReport", name := "foundViolation", desc := "()Z" } : Jvm.MethodName)).before a0 Z = true := hw _ (List.mem_of_getElem? (i := 64) rfl)
theorem wd_65 {a0 : Array Value} {Z : State} (hw : ∀ d ∈ tables_1, d.before a0 Z = true) : (Jvm.Cond.instanceMethod ({ cls := "com/example/inclusive_lock/inclusivelock/sim/SimulationReport", name := "foundViolation", desc := "()Z" } : Jvm.MethodName)).before a0 Z = true := hw _ (List.mem_of_getElem? (i := 65) rfl)
theorem wd_66 {a0 : Array Value} {Z : State} (hw : ∀ d ∈ tables_1, d.before a0 Z = true) : (Jvm.Cond.selects "com/example/inclusive_lock/inclusivelock/sim/SimulationReport" ({ cls := "com/example/inclusive_lock/inclusivelock/sim/SimulationReport", name := "foundViolation", desc := "()Z" } : Jvm.MethodName) ({ cls := "com/example/inclusive_lock/inclusivelock/sim/SimulationReport", name := "foundViolation", desc := "()Z" } : Jvm.MethodName)).before a0 Z = true := hw _ (List.mem_of_getElem? (i := 66) rfl)
theorem wd_67 {a0 : Array Value} {Z : State} (hw : ∀ d ∈ tables_1, d.before a0 Z = true) : (Jvm.Cond.code ({ cls := "com/example/inclusive_lock/inclusivelock/sim/SimulationReport", name := "foundViolation", desc := "()Z" } : Jvm.MethodName) prog_82_method_3_code (1 : Nat) (Option.some Jvm.ClassFile.FieldType.boolean)).before a0 Z = true := hw _ (List.mem_of_getElem? (i := 67) rfl)
theorem wd_68 {a0 : Array Value} {Z : State} (hw : ∀ d ∈ tables_1, d.before a0 Z = true) : (Jvm.Cond.methodLink "com/example/inclusive_lock/inclusivelock/sim/SimulationReport" (39 : Nat) ({ cls := "com/example/inclusive_lock/inclusivelock/sim/SimulationReport", name := "unserved", desc := "()I" } : Jvm.MethodName)).before a0 Z = true := hw _ (List.mem_of_getElem? (i := 68) rfl)
theorem wd_69 {a0 : Array Value} {Z : State} (hw : ∀ d ∈ tables_1, d.before a0 Z = true) : (Jvm.Cond.declares ({ cls := "com/example/inclusive_lock/inclusivelock/sim/SimulationReport", name := "unserved", desc := "()I" } : Jvm.MethodName)).before a0 Z = true := hw _ (List.mem_of_getElem? (i := 69) rfl)
theorem wd_70 {a0 : Array Value} {Z : State} (hw : ∀ d ∈ tables_1, d.before a0 Z = true) : (Jvm.Cond.instanceMethod ({ cls := "com/example/inclusive_lock/inclusivelock/sim/SimulationReport", name := "unserved", desc := "()I" } : Jvm.MethodName)).before a0 Z = true := hw _ (List.mem_of_getElem? (i := 70) rfl)
theorem wd_71 {a0 : Array Value} {Z : State} (hw : ∀ d ∈ tables_1, d.before a0 Z = true) : (Jvm.Cond.selects "com/example/inclusive_lock/inclusivelock/sim/SimulationReport" ({ cls := "com/example/inclusive_lock/inclusivelock/sim/SimulationReport", name := "unserved", desc := "()I" } : Jvm.MethodName) ({ cls := "com/example/inclusive_lock/inclusivelock/sim/SimulationReport", name := "unserved", desc := "()I" } : Jvm.MethodName)).before a0 Z = true := hw _ (List.mem_of_getElem? (i := 71) rfl)
theorem wd_72 {a0 : Array Value} {Z : State} (hw : ∀ d ∈ tables_1, d.before a0 Z = true) : (Jvm.Cond.code ({ cls := "com/example/inclusive_lock/inclusivelock/sim/SimulationReport", name := "unserved", desc := "()I" } : Jvm.MethodName) prog_82_method_2_code (1 : Nat) (Option.some Jvm.ClassFile.FieldType.int)).before a0 Z = true := hw _ (List.mem_of_getElem? (i := 72) rfl)
theorem wd_73 {a0 : Array Value} {Z : State} (hw : ∀ d ∈ tables_1, d.before a0 Z = true) : (Jvm.Cond.methodLink "com/example/inclusive_lock/inclusivelock/sim/SimulationReportFoundViolationPinLaw" (19 : Nat) ({ cls := "java/util/Optional", name := "empty", desc := "()Ljava/util/Optional;" } : Jvm.MethodName)).before a0 Z = true := hw _ (List.mem_of_getElem? (i := 73) rfl)
theorem wd_74 {a0 : Array Value} {Z : State} (hw : ∀ d ∈ tables_1, d.before a0 Z = true) : (Jvm.Cond.static ({ cls := "java/util/Optional", name := "empty", desc := "()Ljava/util/Optional;" } : Jvm.MethodName)).before a0 Z = true := hw _ (List.mem_of_getElem? (i := 74) rfl)
theorem wd_75 {a0 : Array Value} {Z : State} (hw : ∀ d ∈ tables_1, d.before a0 Z = true) : (Jvm.Cond.code ({ cls := "java/util/Optional", name := "empty", desc := "()Ljava/util/Optional;" } : Jvm.MethodName) jdk_32_method_1_code (1 : Nat) (Option.some (Jvm.ClassFile.FieldType.object "java/util/Optional"))).before a0 Z = true := hw _ (List.mem_of_getElem? (i := 75) rfl)
theorem wd_76 {a0 : Array Value} {Z : State} (hw : ∀ d ∈ tables_1, d.before a0 Z = true) : (Jvm.Cond.fieldLink "java/util/Optional" (1 : Nat) "java/util/Optional" "EMPTY" "Ljava/util/Optional;").before a0 Z = true := hw _ (List.mem_of_getElem? (i := 76) rfl)
theorem wd_77 {a0 : Array Value} {Z : State} (hw : ∀ d ∈ tables_1, d.before a0 Z = true) : (Jvm.Cond.methodLink "com/example/inclusive_lock/inclusivelock/sim/SimulationReport" (43 : Nat) ({ cls := "java/util/Optional", name := "isPresent", desc := "()Z" } : Jvm.MethodName)).before a0 Z = true := hw _ (List.mem_of_getElem? (i := 77) rfl)
theorem wd_78 {a0 : Array Value} {Z : State} (hw : ∀ d ∈ tables_1, d.before a0 Z = true) : (Jvm.Cond.declares ({ cls := "java/util/Optional", name := "isPresent", desc := "()Z" } : Jvm.MethodName)).before a0 Z = true := hw _ (List.mem_of_getElem? (i := 78) rfl)
theorem wd_79 {a0 : Array Value} {Z : State} (hw : ∀ d ∈ tables_1, d.before a0 Z = true) : (Jvm.Cond.instanceMethod ({ cls := "java/util/Optional", name := "isPresent", desc := "()Z" } : Jvm.MethodName)).before a0 Z = true := hw _ (List.mem_of_getElem? (i := 79) rfl)
theorem wd_80 {a0 : Array Value} {Z : State} (hw : ∀ d ∈ tables_1, d.before a0 Z = true) : (Jvm.Cond.selects "java/util/Optional" ({ cls := "java/util/Optional", name := "isPresent", desc := "()Z" } : Jvm.MethodName) ({ cls := "java/util/Optional", name := "isPresent", desc := "()Z" } : Jvm.MethodName)).before a0 Z = true := hw _ (List.mem_of_getElem? (i := 80) rfl)
theorem wd_81 {a0 : Array Value} {Z : State} (hw : ∀ d ∈ tables_1, d.before a0 Z = true) : (Jvm.Cond.code ({ cls := "java/util/Optional", name := "isPresent", desc := "()Z" } : Jvm.MethodName) jdk_32_method_6_code (1 : Nat) (Option.some Jvm.ClassFile.FieldType.boolean)).before a0 Z = true := hw _ (List.mem_of_getElem? (i := 81) rfl)
theorem d1_0 : decode prog_75_method_1_code 0 = .ok (.aload_n 0, 1) := by decide +kernel
theorem d1_1 : decode prog_75_method_1_code 1 = .ok (.invokespecial 1, 3) := by decide +kernel
theorem d1_4 : decode prog_75_method_1_code 4 = .ok (.aload_n 0, 1) := by decide +kernel
theorem d1_5 : decode prog_75_method_1_code 5 = .ok (.lload_n 1, 1) := by decide +kernel
theorem d1_6 : decode prog_75_method_1_code 6 = .ok (.putfield 7, 3) := by decide +kernel
theorem d1_9 : decode prog_75_method_1_code 9 = .ok (.aload_n 0, 1) := by decide +kernel
theorem d1_10 : decode prog_75_method_1_code 10 = .ok (.lload_n 3, 1) := by decide +kernel
theorem d1_11 : decode prog_75_method_1_code 11 = .ok (.putfield 13, 3) := by decide +kernel
theorem d1_14 : decode prog_75_method_1_code 14 = .ok (.aload_n 0, 1) := by decide +kernel
theorem d1_15 : decode prog_75_method_1_code 15 = .ok (.aload 5, 2) := by decide +kernel
theorem d1_17 : decode prog_75_method_1_code 17 = .ok (.putfield 16, 3) := by decide +kernel
theorem d1_20 : decode prog_75_method_1_code 20 = .ok (.return_, 1) := by decide +kernel
theorem d2_0 : decode jdk_30_method_1_code 0 = .ok (.aload_n 0, 1) := by decide +kernel
theorem d2_1 : decode jdk_30_method_1_code 1 = .ok (.invokespecial 1, 3) := by decide +kernel
theorem d2_4 : decode jdk_30_method_1_code 4 = .ok (.return_, 1) := by decide +kernel
theorem d4_0 : decode jdk_32_method_3_code 0 = .ok (.new 2, 3) := by decide +kernel
theorem d4_3 : decode jdk_32_method_3_code 3 = .ok (.dup, 1) := by decide +kernel
theorem d4_4 : decode jdk_32_method_3_code 4 = .ok (.aload_n 0, 1) := by decide +kernel
theorem d4_5 : decode jdk_32_method_3_code 5 = .ok (.invokestatic 17, 3) := by decide +kernel
theorem d4_8 : decode jdk_32_method_3_code 8 = .ok (.invokespecial 23, 3) := by decide +kernel
theorem d4_11 : decode jdk_32_method_3_code 11 = .ok (.areturn, 1) := by decide +kernel
theorem d5_0 : decode jdk_31_method_10_code 0 = .ok (.aload_n 0, 1) := by decide +kernel
theorem d5_1 : decode jdk_31_method_10_code 1 = .ok (.ifnonnull 11, 3) := by decide +kernel
theorem d5_12 : decode jdk_31_method_10_code 12 = .ok (.aload_n 0, 1) := by decide +kernel
theorem d5_13 : decode jdk_31_method_10_code 13 = .ok (.areturn, 1) := by decide +kernel
theorem d6_0 : decode jdk_32_method_2_code 0 = .ok (.aload_n 0, 1) := by decide +kernel
theorem d6_1 : decode jdk_32_method_2_code 1 = .ok (.invokespecial 7, 3) := by decide +kernel
theorem d6_4 : decode jdk_32_method_2_code 4 = .ok (.aload_n 0, 1) := by decide +kernel
theorem d6_5 : decode jdk_32_method_2_code 5 = .ok (.aload_n 1, 1) := by decide +kernel
theorem d6_6 : decode jdk_32_method_2_code 6 = .ok (.putfield 13, 3) := by decide +kernel
theorem d6_9 : decode jdk_32_method_2_code 9 = .ok (.return_, 1) := by decide +kernel
theorem d7_0 : decode prog_82_method_1_code 0 = .ok (.aload_n 0, 1) := by decide +kernel
theorem d7_1 : decode prog_82_method_1_code 1 = .ok (.invokespecial 1, 3) := by decide +kernel
theorem d7_4 : decode prog_82_method_1_code 4 = .ok (.aload_n 0, 1) := by decide +kernel
theorem d7_5 : decode prog_82_method_1_code 5 = .ok (.iload_n 1, 1) := by decide +kernel
theorem d7_6 : decode prog_82_method_1_code 6 = .ok (.putfield 7, 3) := by decide +kernel
theorem d7_9 : decode prog_82_method_1_code 9 = .ok (.aload_n 0, 1) := by decide +kernel
theorem d7_10 : decode prog_82_method_1_code 10 = .ok (.iload_n 2, 1) := by decide +kernel
theorem d7_11 : decode prog_82_method_1_code 11 = .ok (.putfield 13, 3) := by decide +kernel
theorem d7_14 : decode prog_82_method_1_code 14 = .ok (.aload_n 0, 1) := by decide +kernel
theorem d7_15 : decode prog_82_method_1_code 15 = .ok (.iload_n 3, 1) := by decide +kernel
theorem d7_16 : decode prog_82_method_1_code 16 = .ok (.putfield 16, 3) := by decide +kernel
theorem d7_19 : decode prog_82_method_1_code 19 = .ok (.aload_n 0, 1) := by decide +kernel
theorem d7_20 : decode prog_82_method_1_code 20 = .ok (.iload 4, 2) := by decide +kernel
theorem d7_22 : decode prog_82_method_1_code 22 = .ok (.putfield 19, 3) := by decide +kernel
theorem d7_25 : decode prog_82_method_1_code 25 = .ok (.aload_n 0, 1) := by decide +kernel
theorem d7_26 : decode prog_82_method_1_code 26 = .ok (.lload 5, 2) := by decide +kernel
theorem d7_28 : decode prog_82_method_1_code 28 = .ok (.putfield 22, 3) := by decide +kernel
theorem d7_31 : decode prog_82_method_1_code 31 = .ok (.aload_n 0, 1) := by decide +kernel
theorem d7_32 : decode prog_82_method_1_code 32 = .ok (.lload 7, 2) := by decide +kernel
theorem d7_34 : decode prog_82_method_1_code 34 = .ok (.putfield 26, 3) := by decide +kernel
theorem d7_37 : decode prog_82_method_1_code 37 = .ok (.aload_n 0, 1) := by decide +kernel
theorem d7_38 : decode prog_82_method_1_code 38 = .ok (.lload 9, 2) := by decide +kernel
theorem d7_40 : decode prog_82_method_1_code 40 = .ok (.putfield 29, 3) := by decide +kernel
theorem d7_43 : decode prog_82_method_1_code 43 = .ok (.aload_n 0, 1) := by decide +kernel
theorem d7_44 : decode prog_82_method_1_code 44 = .ok (.lload 11, 2) := by decide +kernel
theorem d7_46 : decode prog_82_method_1_code 46 = .ok (.putfield 32, 3) := by decide +kernel
theorem d7_49 : decode prog_82_method_1_code 49 = .ok (.aload_n 0, 1) := by decide +kernel
theorem d7_50 : decode prog_82_method_1_code 50 = .ok (.aload 13, 2) := by decide +kernel
theorem d7_52 : decode prog_82_method_1_code 52 = .ok (.putfield 35, 3) := by decide +kernel
theorem d7_55 : decode prog_82_method_1_code 55 = .ok (.return_, 1) := by decide +kernel
theorem d8_0 : decode prog_82_method_3_code 0 = .ok (.aload_n 0, 1) := by decide +kernel
theorem d8_1 : decode prog_82_method_3_code 1 = .ok (.getfield 16, 3) := by decide +kernel
theorem d8_4 : decode prog_82_method_3_code 4 = .ok (.ifCond .gt 20, 3) := by decide +kernel
theorem d8_7 : decode prog_82_method_3_code 7 = .ok (.aload_n 0, 1) := by decide +kernel
theorem d8_8 : decode prog_82_method_3_code 8 = .ok (.invokevirtual 39, 3) := by decide +kernel
theorem d8_11 : decode prog_82_method_3_code 11 = .ok (.ifCond .gt 13, 3) := by decide +kernel
theorem d8_14 : decode prog_82_method_3_code 14 = .ok (.aload_n 0, 1) := by decide +kernel
theorem d8_15 : decode prog_82_method_3_code 15 = .ok (.getfield 35, 3) := by decide +kernel
theorem d8_18 : decode prog_82_method_3_code 18 = .ok (.invokevirtual 43, 3) := by decide +kernel
theorem d8_21 : decode prog_82_method_3_code 21 = .ok (.ifCond .eq 7, 3) := by decide +kernel
theorem d8_24 : decode prog_82_method_3_code 24 = .ok (.iconst 1, 1) := by decide +kernel
theorem d8_25 : decode prog_82_method_3_code 25 = .ok (.goto 4, 3) := by decide +kernel
theorem d8_28 : decode prog_82_method_3_code 28 = .ok (.iconst 0, 1) := by decide +kernel
theorem d8_29 : decode prog_82_method_3_code 29 = .ok (.ireturn, 1) := by decide +kernel
theorem d9_0 : decode prog_82_method_2_code 0 = .ok (.aload_n 0, 1) := by decide +kernel
theorem d9_1 : decode prog_82_method_2_code 1 = .ok (.getfield 7, 3) := by decide +kernel
theorem d9_4 : decode prog_82_method_2_code 4 = .ok (.aload_n 0, 1) := by decide +kernel
theorem d9_5 : decode prog_82_method_2_code 5 = .ok (.getfield 13, 3) := by decide +kernel
theorem d9_8 : decode prog_82_method_2_code 8 = .ok (.isub, 1) := by decide +kernel
theorem d9_9 : decode prog_82_method_2_code 9 = .ok (.ireturn, 1) := by decide +kernel
theorem d10_0 : decode jdk_32_method_1_code 0 = .ok (.getstatic 1, 3) := by decide +kernel
theorem d10_3 : decode jdk_32_method_1_code 3 = .ok (.astore_n 0, 1) := by decide +kernel
theorem d10_4 : decode jdk_32_method_1_code 4 = .ok (.aload_n 0, 1) := by decide +kernel
theorem d10_5 : decode jdk_32_method_1_code 5 = .ok (.areturn, 1) := by decide +kernel
theorem d11_0 : decode jdk_32_method_6_code 0 = .ok (.aload_n 0, 1) := by decide +kernel
theorem d11_1 : decode jdk_32_method_6_code 1 = .ok (.getfield 13, 3) := by decide +kernel
theorem d11_4 : decode jdk_32_method_6_code 4 = .ok (.ifnull 7, 3) := by decide +kernel
theorem d11_7 : decode jdk_32_method_6_code 7 = .ok (.iconst 1, 1) := by decide +kernel
theorem d11_8 : decode jdk_32_method_6_code 8 = .ok (.goto 4, 3) := by decide +kernel
theorem d11_11 : decode jdk_32_method_6_code 11 = .ok (.iconst 0, 1) := by decide +kernel
theorem d11_12 : decode jdk_32_method_6_code 12 = .ok (.ireturn, 1) := by decide +kernel
theorem own_pn0 : plainName "java/lang/Record" = true := by first | (simp [plainName, overriddenIn]; done) | decide +kernel
theorem own_pd1 : parseMethodDescriptor "()V" = some ⟨[], none⟩ := by decide +kernel
theorem own_pn2 : plainName "com/example/inclusive_lock/inclusivelock/sim/RoleError" = true := by first | (simp [plainName, overriddenIn]; done) | decide +kernel
theorem own_pn3 : plainName "java/util/Objects" = true := by first | (simp [plainName, overriddenIn]; done) | decide +kernel
theorem own_pn4 : plainName "java/util/Optional" = true := by first | (simp [plainName, overriddenIn]; done) | decide +kernel
theorem own_pd5 : parseMethodDescriptor "(Ljava/lang/Object;)Ljava/lang/Object;" = some ⟨[(.object "java/lang/Object")], some (.object "java/lang/Object")⟩ := by decide +kernel
theorem own_pd6 : parseMethodDescriptor "(Ljava/lang/Object;)V" = some ⟨[(.object "java/lang/Object")], none⟩ := by decide +kernel
theorem own_pn7 : plainName "com/example/inclusive_lock/inclusivelock/sim/SimulationReport" = true := by first | (simp [plainName, overriddenIn]; done) | decide +kernel
theorem own_pd8 : parseMethodDescriptor "()I" = some ⟨[], some .int⟩ := by decide +kernel
theorem own_pd9 : parseMethodDescriptor "()Z" = some ⟨[], some .boolean⟩ := by decide +kernel
theorem own_pd10 : parseMethodDescriptor "()Ljava/util/Optional;" = some ⟨[], some (.object "java/util/Optional")⟩ := by decide +kernel
theorem own_pd11 : parseMethodDescriptor "(IIIIJJJJLjava/util/Optional;)V" = some ⟨[.int, .int, .int, .int, .long, .long, .long, .long, (.object "java/util/Optional")], none⟩ := by decide +kernel
theorem own_pd12 : parseMethodDescriptor "(JJLjava/lang/RuntimeException;)V" = some ⟨[.long, .long, (.object "java/lang/RuntimeException")], none⟩ := by decide +kernel
theorem own_pd13 : parseMethodDescriptor "(Ljava/lang/Object;)Ljava/util/Optional;" = some ⟨[(.object "java/lang/Object")], some (.object "java/util/Optional")⟩ := by decide +kernel
theorem own_pn14 : plainName "com/example/inclusive_lock/inclusivelock/sim/SimulationReportFoundViolationPinLaw" = true := by first | (simp [plainName, overriddenIn]; done) | decide +kernel
set_option maxRecDepth 65536 in
theorem own_lk0 {p : Program} {l : Launch} {e : Env} {R : Room} {s : State} {m : MethodId} {args : Array Value} {below : List Frame} {meth : Method} {c : Code} {T : State} {locs : List Loc} {cells slots : Nat} {F : Option Value → State → Prop} {bs : ByteArray} {pc pc' : Nat} {Ls : Array Slot} {Z : State} {a0 : Array Value} {h : Heap} {b : Addr} {rest : List Value} {W : Nat} {rm : Room} {Q : Option Value → Heap → List Loc → Prop} (hw : ∀ d ∈ tables_1, d.before a0 Z = true) (X : Stand p l e R s m args below meth c T locs cells slots) (hx : p.tables.exec = Jvm.exec) (hZ : Z.Warmed39 s.vm) (hby : c.code = bs) (hsz : Ls.size = c.maxLocals) (hown : s.vm.findClass "com/example/inclusive_lock/inclusivelock/sim/RoleError" = some m.cls) (hd : decode bs pc = .ok (.invokespecial 1, 3)) (hp : pc + 3 = pc') (eT : T.heap = h) (hW : (rest.map fun v => v.category).sum ≤ W)
    (hM : MetFree l (⟨"java/lang/Record", "<init>", "()V"⟩ : MethodName) (head1 [(Cond.code (⟨"java/lang/Record", "<init>", "()V"⟩ : MethodName) jdk_30_method_1_code 1 none)] rm) (fun aa U => aa = #[.ref b] ∧ Z.Warmed39 U.vm ∧ U.heap = h) (fun _ _ _ _ _ => True) (fun _ U o U' => ∃ v L, o = .returned v ∧ Q v U'.heap L ∧ FrameEnd U o U' L rm.cells rm.slots)) (hf : rm.frames + 1 ≤ R.frames) (hl : W + (1 + 11) + rm.locals ≤ R.locals) (hc : cells + rm.cells ≤ R.cells) (hs : slots + rm.slots ≤ R.slots)
    (k : ∀ v T' L', Stand p l e R s m args below meth c T' (locs ++ L') (cells + rm.cells) (slots + rm.slots) → Q v T'.heap L' → own_End p e below F (T'.setTop (mkF m pc' Ls (v.toList ++ rest)))) : own_End p e below F (T.setTop (mkF m pc Ls (.ref b :: rest))) := by
  subst hp
  obtain ⟨v, _, ⟨T', L0, k0, n0⟩, -, X', ⟨L', hQ, e1, e2, e3⟩, stp⟩ := X.specialBack hx (y := (⟨"java/lang/Record", "<init>", "()V"⟩ : MethodName)) rfl hown (mvT hZ (wd_7 hw)) (mvT hZ (wd_8 hw)) (mvT hZ (wd_11 hw)) (by decide) (backOf (W := W) hM hZ (wd_11 hw) (wd_10 hw) hf hl) (g := mkF m pc Ls (.ref b :: rest)) rfl hsz (Steps.refl _) (a := b) (argsL := []) (rest := rest) (lenOf own_pd1 rfl) rfl (by show 2 * 0 + _ ≤ _; omega) (hb hby hd) (fun _ _ => ⟨rfl, eT, hc, hs⟩)
  dsimp only [Pt.U, Pt.locs, Pt.cells, Pt.slots] at X' e1 e2 e3 stp hQ
  subst e1 e2 e3
  exact own_trans stp (k v T' L' X' hQ)
set_option maxRecDepth 65536 in
theorem own_lk1 {p : Program} {l : Launch} {e : Env} {R : Room} {s : State} {m : MethodId} {args : Array Value} {below : List Frame} {meth : Method} {c : Code} {T : State} {locs : List Loc} {cells slots : Nat} {F : Option Value → State → Prop} {bs : ByteArray} {pc pc' : Nat} {Ls : Array Slot} {Z : State} {a0 : Array Value} {h : Heap} {x0 : Value} {rest : List Value} {W : Nat} {rm : Room} {Q : Option Value → Heap → List Loc → Prop} (hw : ∀ d ∈ tables_1, d.before a0 Z = true) (X : Stand p l e R s m args below meth c T locs cells slots) (hx : p.tables.exec = Jvm.exec) (hZ : Z.Warmed39 s.vm) (hby : c.code = bs) (hsz : Ls.size = c.maxLocals) (hown : s.vm.findClass "java/util/Optional" = some m.cls) (hd : decode bs pc = .ok (.invokestatic 17, 3)) (hp : pc + 3 = pc') (eT : T.heap = h) (hW : (rest.map fun v => v.category).sum ≤ W)
    (hM : MetFree l (⟨"java/util/Objects", "requireNonNull", "(Ljava/lang/Object;)Ljava/lang/Object;"⟩ : MethodName) (head1 [(Cond.code (⟨"java/util/Objects", "requireNonNull", "(Ljava/lang/Object;)Ljava/lang/Object;"⟩ : MethodName) jdk_31_method_10_code 1 (some (.object "java/lang/Object")))] rm) (fun aa U => aa = #[x0] ∧ Z.Warmed39 U.vm ∧ U.heap = h) (fun _ _ _ _ _ => True) (fun _ U o U' => ∃ v L, o = .returned v ∧ Q v U'.heap L ∧ FrameEnd U o U' L rm.cells rm.slots)) (hf : rm.frames + 1 ≤ R.frames) (hl : W + (1 + 11) + rm.locals ≤ R.locals) (hc : cells + rm.cells ≤ R.cells) (hs : slots + rm.slots ≤ R.slots)
    (k : ∀ v T' L', Stand p l e R s m args below meth c T' (locs ++ L') (cells + rm.cells) (slots + rm.slots) → Q v T'.heap L' → own_End p e below F (T'.setTop (mkF m pc' Ls (v.toList ++ rest)))) : own_End p e below F (T.setTop (mkF m pc Ls (x0 :: rest))) := by
  subst hp
  obtain ⟨v, _, ⟨T', L0, k0, n0⟩, -, X', ⟨L', hQ, e1, e2, e3⟩, stp⟩ := Jvm.LawKit.callS X hx (y := (⟨"java/util/Objects", "requireNonNull", "(Ljava/lang/Object;)Ljava/lang/Object;"⟩ : MethodName)) hown (mvT hZ (wd_27 hw)) (mvT hZ (wd_28 hw)) (mvT hZ (wd_29 hw)) (mvT hZ (wd_30 hw)) (by decide) (backOf (W := W) hM hZ (wd_30 hw) (wd_29 hw) hf hl) (g := mkF m pc Ls (x0 :: rest)) rfl hsz (argsL := [x0]) (rest := rest) (lenOf own_pd5 rfl) rfl (by show 2 * 0 + _ ≤ _; omega) (hb hby hd) (fun _ _ => ⟨rfl, eT, hc, hs⟩)
  dsimp only [Pt.U, Pt.locs, Pt.cells, Pt.slots] at X' e1 e2 e3 stp hQ
  subst e1 e2 e3
  exact own_step stp (k v T' L' X' hQ)
set_option maxRecDepth 65536 in
theorem own_lk2 {p : Program} {l : Launch} {e : Env} {R : Room} {s : State} {m : MethodId} {args : Array Value} {below : List Frame} {meth : Method} {c : Code} {T : State} {locs : List Loc} {cells slots : Nat} {F : Option Value → State → Prop} {bs : ByteArray} {pc pc' : Nat} {Ls : Array Slot} {Z : State} {a0 : Array Value} {h : Heap} {x0 : Value} {b : Addr} {rest : List Value} {W : Nat} {rm : Room} {Q : Option Value → Heap → List Loc → Prop} (hw : ∀ d ∈ tables_1, d.before a0 Z = true) (X : Stand p l e R s m args below meth c T locs cells slots) (hx : p.tables.exec = Jvm.exec) (hZ : Z.Warmed39 s.vm) (hby : c.code = bs) (hsz : Ls.size = c.maxLocals) (hown : s.vm.findClass "java/util/Optional" = some m.cls) (hd : decode bs pc = .ok (.invokespecial 23, 3)) (hp : pc + 3 = pc') (eT : T.heap = h) (hW : (rest.map fun v => v.category).sum ≤ W)
    (hM : MetFree l (⟨"java/util/Optional", "<init>", "(Ljava/lang/Object;)V"⟩ : MethodName) (head1 [(Cond.code (⟨"java/util/Optional", "<init>", "(Ljava/lang/Object;)V"⟩ : MethodName) jdk_32_method_2_code 2 none)] rm) (fun aa U => aa = #[.ref b, x0] ∧ Z.Warmed39 U.vm ∧ U.heap = h) (fun _ _ _ _ _ => True) (fun _ U o U' => ∃ v L, o = .returned v ∧ Q v U'.heap L ∧ FrameEnd U o U' L rm.cells rm.slots)) (hf : rm.frames + 1 ≤ R.frames) (hl : W + (2 + 11) + rm.locals ≤ R.locals) (hc : cells + rm.cells ≤ R.cells) (hs : slots + rm.slots ≤ R.slots)
    (k : ∀ v T' L', Stand p l e R s m args below meth c T' (locs ++ L') (cells + rm.cells) (slots + rm.slots) → Q v T'.heap L' → own_End p e below F (T'.setTop (mkF m pc' Ls (v.toList ++ rest)))) : own_End p e below F (T.setTop (mkF m pc Ls (x0 :: .ref b :: rest))) := by
  subst hp
  obtain ⟨v, _, ⟨T', L0, k0, n0⟩, -, X', ⟨L', hQ, e1, e2, e3⟩, stp⟩ := X.specialBack hx (y := (⟨"java/util/Optional", "<init>", "(Ljava/lang/Object;)V"⟩ : MethodName)) rfl hown (mvT hZ (wd_31 hw)) (mvT hZ (wd_32 hw)) (mvT hZ (wd_34 hw)) (by decide) (backOf (W := W) hM hZ (wd_34 hw) (wd_23 hw) hf hl) (g := mkF m pc Ls (x0 :: .ref b :: rest)) rfl hsz (Steps.refl _) (a := b) (argsL := [x0]) (rest := rest) (lenOf own_pd6 rfl) rfl (by show 2 * 0 + _ ≤ _; omega) (hb hby hd) (fun _ _ => ⟨rfl, eT, hc, hs⟩)
  dsimp only [Pt.U, Pt.locs, Pt.cells, Pt.slots] at X' e1 e2 e3 stp hQ
  subst e1 e2 e3
  exact own_trans stp (k v T' L' X' hQ)
set_option maxRecDepth 65536 in
theorem own_lk3 {p : Program} {l : Launch} {e : Env} {R : Room} {s : State} {m : MethodId} {args : Array Value} {below : List Frame} {meth : Method} {c : Code} {T : State} {locs : List Loc} {cells slots : Nat} {F : Option Value → State → Prop} {bs : ByteArray} {pc pc' : Nat} {Ls : Array Slot} {Z : State} {a0 : Array Value} {h : Heap} {b : Addr} {rest : List Value} {W : Nat} {rm : Room} {Q : Option Value → Heap → List Loc → Prop} (hw : ∀ d ∈ tables_1, d.before a0 Z = true) (X : Stand p l e R s m args below meth c T locs cells slots) (hx : p.tables.exec = Jvm.exec) (hZ : Z.Warmed39 s.vm) (hby : c.code = bs) (hsz : Ls.size = c.maxLocals) (hown : s.vm.findClass "com/example/inclusive_lock/inclusivelock/sim/SimulationReport" = some m.cls) (hd : decode bs pc = .ok (.invokespecial 1, 3)) (hp : pc + 3 = pc') (eT : T.heap = h) (hW : (rest.map fun v => v.category).sum ≤ W)
    (hM : MetFree l (⟨"java/lang/Record", "<init>", "()V"⟩ : MethodName) (head1 [(Cond.code (⟨"java/lang/Record", "<init>", "()V"⟩ : MethodName) jdk_30_method_1_code 1 none)] rm) (fun aa U => aa = #[.ref b] ∧ Z.Warmed39 U.vm ∧ U.heap = h) (fun _ _ _ _ _ => True) (fun _ U o U' => ∃ v L, o = .returned v ∧ Q v U'.heap L ∧ FrameEnd U o U' L rm.cells rm.slots)) (hf : rm.frames + 1 ≤ R.frames) (hl : W + (1 + 11) + rm.locals ≤ R.locals) (hc : cells + rm.cells ≤ R.cells) (hs : slots + rm.slots ≤ R.slots)
    (k : ∀ v T' L', Stand p l e R s m args below meth c T' (locs ++ L') (cells + rm.cells) (slots + rm.slots) → Q v T'.heap L' → own_End p e below F (T'.setTop (mkF m pc' Ls (v.toList ++ rest)))) : own_End p e below F (T.setTop (mkF m pc Ls (.ref b :: rest))) := by
  subst hp
  obtain ⟨v, _, ⟨T', L0, k0, n0⟩, -, X', ⟨L', hQ, e1, e2, e3⟩, stp⟩ := X.specialBack hx (y := (⟨"java/lang/Record", "<init>", "()V"⟩ : MethodName)) rfl hown (mvT hZ (wd_44 hw)) (mvT hZ (wd_8 hw)) (mvT hZ (wd_11 hw)) (by decide) (backOf (W := W) hM hZ (wd_11 hw) (wd_10 hw) hf hl) (g := mkF m pc Ls (.ref b :: rest)) rfl hsz (Steps.refl _) (a := b) (argsL := []) (rest := rest) (lenOf own_pd1 rfl) rfl (by show 2 * 0 + _ ≤ _; omega) (hb hby hd) (fun _ _ => ⟨rfl, eT, hc, hs⟩)
  dsimp only [Pt.U, Pt.locs, Pt.cells, Pt.slots] at X' e1 e2 e3 stp hQ
  subst e1 e2 e3
  exact own_trans stp (k v T' L' X' hQ)
set_option maxRecDepth 65536 in
theorem own_lk4 {p : Program} {l : Launch} {e : Env} {R : Room} {s : State} {m : MethodId} {args : Array Value} {below : List Frame} {meth : Method} {c : Code} {T : State} {locs : List Loc} {cells slots : Nat} {F : Option Value → State → Prop} {bs : ByteArray} {pc pc' : Nat} {Ls : Array Slot} {Z : State} {a0 : Array Value} {h : Heap} {b : Addr} {rest : List Value} {W : Nat} {rm : Room} {Q : Option Value → Heap → List Loc → Prop} (hw : ∀ d ∈ tables_1, d.before a0 Z = true) (X : Stand p l e R s m args below meth c T locs cells slots) (hx : p.tables.exec = Jvm.exec) (hZ : Z.Warmed39 s.vm) (hby : c.code = bs) (hsz : Ls.size = c.maxLocals) (hown : s.vm.findClass "com/example/inclusive_lock/inclusivelock/sim/SimulationReport" = some m.cls) (hd : decode bs pc = .ok (.invokevirtual 39, 3)) (hp : pc + 3 = pc') (eT : T.heap = h) (E : Exa Z h b "com/example/inclusive_lock/inclusivelock/sim/SimulationReport") (hW : (rest.map fun v => v.category).sum ≤ W)
    (hM : MetFree l (⟨"com/example/inclusive_lock/inclusivelock/sim/SimulationReport", "unserved", "()I"⟩ : MethodName) (head1 [(Cond.code (⟨"com/example/inclusive_lock/inclusivelock/sim/SimulationReport", "unserved", "()I"⟩ : MethodName) prog_82_method_2_code 1 (some .int))] rm) (fun aa U => aa = #[.ref b] ∧ Z.Warmed39 U.vm ∧ U.heap = h) (fun _ _ _ _ _ => True) (fun _ U o U' => ∃ v L, o = .returned v ∧ Q v U'.heap L ∧ FrameEnd U o U' L rm.cells rm.slots)) (hf : rm.frames + 1 ≤ R.frames) (hl : W + (1 + 11) + rm.locals ≤ R.locals) (hc : cells + rm.cells ≤ R.cells) (hs : slots + rm.slots ≤ R.slots)
    (k : ∀ v T' L', Stand p l e R s m args below meth c T' (locs ++ L') (cells + rm.cells) (slots + rm.slots) → Q v T'.heap L' → own_End p e below F (T'.setTop (mkF m pc' Ls (v.toList ++ rest)))) : own_End p e below F (T.setTop (mkF m pc Ls (.ref b :: rest))) := by
  subst hp
  obtain ⟨cq, kq, q1, q2, q3⟩ := isOf hZ eT E
  obtain ⟨v, _, ⟨T', L0, k0, n0⟩, -, X', ⟨L', hQ, e1, e2, e3⟩, stp⟩ := X.virtualBack hx (y := (⟨"com/example/inclusive_lock/inclusivelock/sim/SimulationReport", "unserved", "()I"⟩ : MethodName)) (z := (⟨"com/example/inclusive_lock/inclusivelock/sim/SimulationReport", "unserved", "()I"⟩ : MethodName)) hown (mvT hZ (wd_68 hw)) (mvT hZ (wd_69 hw)) (notFace_of_selects (args := #[]) (mvT hZ (wd_71 hw))) (mvT hZ (wd_71 hw)) (mvT hZ (wd_70 hw)) (by decide) (backOf (W := W) hM hZ (wd_72 hw) (wd_40 hw) hf hl) q1 q3 (g := mkF m pc Ls (.ref b :: rest)) rfl hsz (Steps.refl _) (argsL := []) (rest := rest) (lenOf own_pd8 rfl) rfl (by show 2 * 0 + _ ≤ _; omega) (hb hby hd) (fun _ _ => ⟨rfl, eT, hc, hs⟩)
  dsimp only [Pt.U, Pt.locs, Pt.cells, Pt.slots] at X' e1 e2 e3 stp hQ
  subst e1 e2 e3
  exact own_trans stp (k v T' L' X' hQ)
set_option maxRecDepth 65536 in
theorem own_lk5 {p : Program} {l : Launch} {e : Env} {R : Room} {s : State} {m : MethodId} {args : Array Value} {below : List Frame} {meth : Method} {c : Code} {T : State} {locs : List Loc} {cells slots : Nat} {F : Option Value → State → Prop} {bs : ByteArray} {pc pc' : Nat} {Ls : Array Slot} {Z : State} {a0 : Array Value} {h : Heap} {b : Addr} {rest : List Value} {W : Nat} {rm : Room} {Q : Option Value → Heap → List Loc → Prop} (hw : ∀ d ∈ tables_1, d.before a0 Z = true) (X : Stand p l e R s m args below meth c T locs cells slots) (hx : p.tables.exec = Jvm.exec) (hZ : Z.Warmed39 s.vm) (hby : c.code = bs) (hsz : Ls.size = c.maxLocals) (hown : s.vm.findClass "com/example/inclusive_lock/inclusivelock/sim/SimulationReport" = some m.cls) (hd : decode bs pc = .ok (.invokevirtual 43, 3)) (hp : pc + 3 = pc') (eT : T.heap = h) (E : Exa Z h b "java/util/Optional") (hW : (rest.map fun v => v.category).sum ≤ W)
    (hM : MetFree l (⟨"java/util/Optional", "isPresent", "()Z"⟩ : MethodName) (head1 [(Cond.code (⟨"java/util/Optional", "isPresent", "()Z"⟩ : MethodName) jdk_32_method_6_code 1 (some .boolean))] rm) (fun aa U => aa = #[.ref b] ∧ Z.Warmed39 U.vm ∧ U.heap = h) (fun _ _ _ _ _ => True) (fun _ U o U' => ∃ v L, o = .returned v ∧ Q v U'.heap L ∧ FrameEnd U o U' L rm.cells rm.slots)) (hf : rm.frames + 1 ≤ R.frames) (hl : W + (1 + 11) + rm.locals ≤ R.locals) (hc : cells + rm.cells ≤ R.cells) (hs : slots + rm.slots ≤ R.slots)
    (k : ∀ v T' L', Stand p l e R s m args below meth c T' (locs ++ L') (cells + rm.cells) (slots + rm.slots) → Q v T'.heap L' → own_End p e below F (T'.setTop (mkF m pc' Ls (v.toList ++ rest)))) : own_End p e below F (T.setTop (mkF m pc Ls (.ref b :: rest))) := by
  subst hp
  obtain ⟨cq, kq, q1, q2, q3⟩ := isOf hZ eT E
  obtain ⟨v, _, ⟨T', L0, k0, n0⟩, -, X', ⟨L', hQ, e1, e2, e3⟩, stp⟩ := X.virtualBack hx (y := (⟨"java/util/Optional", "isPresent", "()Z"⟩ : MethodName)) (z := (⟨"java/util/Optional", "isPresent", "()Z"⟩ : MethodName)) hown (mvT hZ (wd_77 hw)) (mvT hZ (wd_78 hw)) (notFace_of_selects (args := #[]) (mvT hZ (wd_80 hw))) (mvT hZ (wd_80 hw)) (mvT hZ (wd_79 hw)) (by decide) (backOf (W := W) hM hZ (wd_81 hw) (wd_23 hw) hf hl) q1 q3 (g := mkF m pc Ls (.ref b :: rest)) rfl hsz (Steps.refl _) (argsL := []) (rest := rest) (lenOf own_pd9 rfl) rfl (by show 2 * 0 + _ ≤ _; omega) (hb hby hd) (fun _ _ => ⟨rfl, eT, hc, hs⟩)
  dsimp only [Pt.U, Pt.locs, Pt.cells, Pt.slots] at X' e1 e2 e3 stp hQ
  subst e1 e2 e3
  exact own_trans stp (k v T' L' X' hQ)
set_option maxRecDepth 65536 in
theorem own_lk6 {p : Program} {l : Launch} {e : Env} {R : Room} {s : State} {m : MethodId} {args : Array Value} {below : List Frame} {meth : Method} {c : Code} {T : State} {locs : List Loc} {cells slots : Nat} {F : Option Value → State → Prop} {bs : ByteArray} {pc pc' : Nat} {Ls : Array Slot} {Z : State} {a0 : Array Value} {h : Heap} {rest : List Value} {W : Nat} {rm : Room} {Q : Option Value → Heap → List Loc → Prop} (hw : ∀ d ∈ tables_1, d.before a0 Z = true) (X : Stand p l e R s m args below meth c T locs cells slots) (hx : p.tables.exec = Jvm.exec) (hZ : Z.Warmed39 s.vm) (hby : c.code = bs) (hsz : Ls.size = c.maxLocals) (hown : s.vm.findClass "com/example/inclusive_lock/inclusivelock/sim/SimulationReportFoundViolationPinLaw" = some m.cls) (hd : decode bs pc = .ok (.invokestatic 19, 3)) (hp : pc + 3 = pc') (eT : T.heap = h) (hW : (rest.map fun v => v.category).sum ≤ W)
    (hM : MetFree l (⟨"java/util/Optional", "empty", "()Ljava/util/Optional;"⟩ : MethodName) (head1 [(Cond.code (⟨"java/util/Optional", "empty", "()Ljava/util/Optional;"⟩ : MethodName) jdk_32_method_1_code 1 (some (.object "java/util/Optional")))] rm) (fun aa U => aa = #[] ∧ Z.Warmed39 U.vm ∧ U.heap = h) (fun _ _ _ _ _ => True) (fun _ U o U' => ∃ v L, o = .returned v ∧ Q v U'.heap L ∧ FrameEnd U o U' L rm.cells rm.slots)) (hf : rm.frames + 1 ≤ R.frames) (hl : W + (1 + 11) + rm.locals ≤ R.locals) (hc : cells + rm.cells ≤ R.cells) (hs : slots + rm.slots ≤ R.slots)
    (k : ∀ v T' L', Stand p l e R s m args below meth c T' (locs ++ L') (cells + rm.cells) (slots + rm.slots) → Q v T'.heap L' → own_End p e below F (T'.setTop (mkF m pc' Ls (v.toList ++ rest)))) : own_End p e below F (T.setTop (mkF m pc Ls (rest))) := by
  subst hp
  obtain ⟨v, _, ⟨T', L0, k0, n0⟩, -, X', ⟨L', hQ, e1, e2, e3⟩, stp⟩ := Jvm.LawKit.callS X hx (y := (⟨"java/util/Optional", "empty", "()Ljava/util/Optional;"⟩ : MethodName)) hown (mvT hZ (wd_73 hw)) (mvT hZ (wd_74 hw)) (mvT hZ (wd_23 hw)) (mvT hZ (wd_75 hw)) (by decide) (backOf (W := W) hM hZ (wd_75 hw) (wd_23 hw) hf hl) (g := mkF m pc Ls (rest)) rfl hsz (argsL := []) (rest := rest) (lenOf own_pd10 rfl) rfl (by show 2 * 0 + _ ≤ _; omega) (hb hby hd) (fun _ _ => ⟨rfl, eT, hc, hs⟩)
  dsimp only [Pt.U, Pt.locs, Pt.cells, Pt.slots] at X' e1 e2 e3 stp hQ
  subst e1 e2 e3
  exact own_step stp (k v T' L' X' hQ)
set_option maxRecDepth 65536 in
theorem own_lk7 {p : Program} {l : Launch} {e : Env} {R : Room} {s : State} {m : MethodId} {args : Array Value} {below : List Frame} {meth : Method} {c : Code} {T : State} {locs : List Loc} {cells slots : Nat} {F : Option Value → State → Prop} {bs : ByteArray} {pc pc' : Nat} {Ls : Array Slot} {Z : State} {a0 : Array Value} {h : Heap} {x0 : Value} {x1 : Value} {x2 : Value} {x3 : Value} {x4 : Value} {x5 : Value} {x6 : Value} {x7 : Value} {x8 : Value} {b : Addr} {rest : List Value} {W : Nat} {rm : Room} {Q : Option Value → Heap → List Loc → Prop} (hw : ∀ d ∈ tables_1, d.before a0 Z = true) (X : Stand p l e R s m args below meth c T locs cells slots) (hx : p.tables.exec = Jvm.exec) (hZ : Z.Warmed39 s.vm) (hby : c.code = bs) (hsz : Ls.size = c.maxLocals) (hown : s.vm.findClass "com/example/inclusive_lock/inclusivelock/sim/SimulationReportFoundViolationPinLaw" = some m.cls) (hd : decode bs pc = .ok (.invokespecial 25, 3)) (hp : pc + 3 = pc') (eT : T.heap = h) (hW : (rest.map fun v => v.category).sum ≤ W)
    (hM : MetFree l (⟨"com/example/inclusive_lock/inclusivelock/sim/SimulationReport", "<init>", "(IIIIJJJJLjava/util/Optional;)V"⟩ : MethodName) (head1 [(Cond.code (⟨"com/example/inclusive_lock/inclusivelock/sim/SimulationReport", "<init>", "(IIIIJJJJLjava/util/Optional;)V"⟩ : MethodName) prog_82_method_1_code 14 none)] rm) (fun aa U => aa = #[.ref b, x0, x1, x2, x3, x4, x5, x6, x7, x8] ∧ Z.Warmed39 U.vm ∧ U.heap = h) (fun _ _ _ _ _ => True) (fun _ U o U' => ∃ v L, o = .returned v ∧ Q v U'.heap L ∧ FrameEnd U o U' L rm.cells rm.slots)) (hf : rm.frames + 1 ≤ R.frames) (hl : W + (14 + 11) + rm.locals ≤ R.locals) (hc : cells + rm.cells ≤ R.cells) (hs : slots + rm.slots ≤ R.slots)
    (k : ∀ v T' L', Stand p l e R s m args below meth c T' (locs ++ L') (cells + rm.cells) (slots + rm.slots) → Q v T'.heap L' → own_End p e below F (T'.setTop (mkF m pc' Ls (v.toList ++ rest)))) : own_End p e below F (T.setTop (mkF m pc Ls (x8 :: x7 :: x6 :: x5 :: x4 :: x3 :: x2 :: x1 :: x0 :: .ref b :: rest))) := by
  subst hp
  obtain ⟨v, _, ⟨T', L0, k0, n0⟩, -, X', ⟨L', hQ, e1, e2, e3⟩, stp⟩ := X.specialBack hx (y := (⟨"com/example/inclusive_lock/inclusivelock/sim/SimulationReport", "<init>", "(IIIIJJJJLjava/util/Optional;)V"⟩ : MethodName)) rfl hown (mvT hZ (wd_41 hw)) (mvT hZ (wd_42 hw)) (mvT hZ (wd_43 hw)) (by decide) (backOf (W := W) hM hZ (wd_43 hw) (wd_40 hw) hf hl) (g := mkF m pc Ls (x8 :: x7 :: x6 :: x5 :: x4 :: x3 :: x2 :: x1 :: x0 :: .ref b :: rest)) rfl hsz (Steps.refl _) (a := b) (argsL := [x0, x1, x2, x3, x4, x5, x6, x7, x8]) (rest := rest) (lenOf own_pd11 rfl) rfl (by show 2 * 0 + _ ≤ _; omega) (hb hby hd) (fun _ _ => ⟨rfl, eT, hc, hs⟩)
  dsimp only [Pt.U, Pt.locs, Pt.cells, Pt.slots] at X' e1 e2 e3 stp hQ
  subst e1 e2 e3
  exact own_trans stp (k v T' L' X' hQ)
set_option maxRecDepth 65536 in
theorem own_lk8 {p : Program} {l : Launch} {e : Env} {R : Room} {s : State} {m : MethodId} {args : Array Value} {below : List Frame} {meth : Method} {c : Code} {T : State} {locs : List Loc} {cells slots : Nat} {F : Option Value → State → Prop} {bs : ByteArray} {pc pc' : Nat} {Ls : Array Slot} {Z : State} {a0 : Array Value} {h : Heap} {b : Addr} {rest : List Value} {W : Nat} {rm : Room} {Q : Option Value → Heap → List Loc → Prop} (hw : ∀ d ∈ tables_1, d.before a0 Z = true) (X : Stand p l e R s m args below meth c T locs cells slots) (hx : p.tables.exec = Jvm.exec) (hZ : Z.Warmed39 s.vm) (hby : c.code = bs) (hsz : Ls.size = c.maxLocals) (hown : s.vm.findClass "com/example/inclusive_lock/inclusivelock/sim/SimulationReportFoundViolationPinLaw" = some m.cls) (hd : decode bs pc = .ok (.invokevirtual 28, 3)) (hp : pc + 3 = pc') (eT : T.heap = h) (E : Exa Z h b "com/example/inclusive_lock/inclusivelock/sim/SimulationReport") (hW : (rest.map fun v => v.category).sum ≤ W)
    (hM : MetFree l (⟨"com/example/inclusive_lock/inclusivelock/sim/SimulationReport", "foundViolation", "()Z"⟩ : MethodName) (head1 [(Cond.code (⟨"com/example/inclusive_lock/inclusivelock/sim/SimulationReport", "foundViolation", "()Z"⟩ : MethodName) prog_82_method_3_code 1 (some .boolean))] rm) (fun aa U => aa = #[.ref b] ∧ Z.Warmed39 U.vm ∧ U.heap = h) (fun _ _ _ _ _ => True) (fun _ U o U' => ∃ v L, o = .returned v ∧ Q v U'.heap L ∧ FrameEnd U o U' L rm.cells rm.slots)) (hf : rm.frames + 1 ≤ R.frames) (hl : W + (1 + 11) + rm.locals ≤ R.locals) (hc : cells + rm.cells ≤ R.cells) (hs : slots + rm.slots ≤ R.slots)
    (k : ∀ v T' L', Stand p l e R s m args below meth c T' (locs ++ L') (cells + rm.cells) (slots + rm.slots) → Q v T'.heap L' → own_End p e below F (T'.setTop (mkF m pc' Ls (v.toList ++ rest)))) : own_End p e below F (T.setTop (mkF m pc Ls (.ref b :: rest))) := by
  subst hp
  obtain ⟨cq, kq, q1, q2, q3⟩ := isOf hZ eT E
  obtain ⟨v, _, ⟨T', L0, k0, n0⟩, -, X', ⟨L', hQ, e1, e2, e3⟩, stp⟩ := X.virtualBack hx (y := (⟨"com/example/inclusive_lock/inclusivelock/sim/SimulationReport", "foundViolation", "()Z"⟩ : MethodName)) (z := (⟨"com/example/inclusive_lock/inclusivelock/sim/SimulationReport", "foundViolation", "()Z"⟩ : MethodName)) hown (mvT hZ (wd_63 hw)) (mvT hZ (wd_64 hw)) (notFace_of_selects (args := #[]) (mvT hZ (wd_66 hw))) (mvT hZ (wd_66 hw)) (mvT hZ (wd_65 hw)) (by decide) (backOf (W := W) hM hZ (wd_67 hw) (wd_40 hw) hf hl) q1 q3 (g := mkF m pc Ls (.ref b :: rest)) rfl hsz (Steps.refl _) (argsL := []) (rest := rest) (lenOf own_pd9 rfl) rfl (by show 2 * 0 + _ ≤ _; omega) (hb hby hd) (fun _ _ => ⟨rfl, eT, hc, hs⟩)
  dsimp only [Pt.U, Pt.locs, Pt.cells, Pt.slots] at X' e1 e2 e3 stp hQ
  subst e1 e2 e3
  exact own_trans stp (k v T' L' X' hQ)
set_option maxRecDepth 65536 in
theorem own_lk9 {p : Program} {l : Launch} {e : Env} {R : Room} {s : State} {m : MethodId} {args : Array Value} {below : List Frame} {meth : Method} {c : Code} {T : State} {locs : List Loc} {cells slots : Nat} {F : Option Value → State → Prop} {bs : ByteArray} {pc pc' : Nat} {Ls : Array Slot} {Z : State} {a0 : Array Value} {h : Heap} {x0 : Value} {x1 : Value} {x2 : Value} {b : Addr} {rest : List Value} {W : Nat} {rm : Room} {Q : Option Value → Heap → List Loc → Prop} (hw : ∀ d ∈ tables_1, d.before a0 Z = true) (X : Stand p l e R s m args below meth c T locs cells slots) (hx : p.tables.exec = Jvm.exec) (hZ : Z.Warmed39 s.vm) (hby : c.code = bs) (hsz : Ls.size = c.maxLocals) (hown : s.vm.findClass "com/example/inclusive_lock/inclusivelock/sim/SimulationReportFoundViolationPinLaw" = some m.cls) (hd : decode bs pc = .ok (.invokespecial 10, 3)) (hp : pc + 3 = pc') (eT : T.heap = h) (hW : (rest.map fun v => v.category).sum ≤ W)
    (hM : MetFree l (⟨"com/example/inclusive_lock/inclusivelock/sim/RoleError", "<init>", "(JJLjava/lang/RuntimeException;)V"⟩ : MethodName) (head1 [(Cond.code (⟨"com/example/inclusive_lock/inclusivelock/sim/RoleError", "<init>", "(JJLjava/lang/RuntimeException;)V"⟩ : MethodName) prog_75_method_1_code 6 none)] rm) (fun aa U => aa = #[.ref b, x0, x1, x2] ∧ Z.Warmed39 U.vm ∧ U.heap = h) (fun _ _ _ _ _ => True) (fun _ U o U' => ∃ v L, o = .returned v ∧ Q v U'.heap L ∧ FrameEnd U o U' L rm.cells rm.slots)) (hf : rm.frames + 1 ≤ R.frames) (hl : W + (6 + 11) + rm.locals ≤ R.locals) (hc : cells + rm.cells ≤ R.cells) (hs : slots + rm.slots ≤ R.slots)
    (k : ∀ v T' L', Stand p l e R s m args below meth c T' (locs ++ L') (cells + rm.cells) (slots + rm.slots) → Q v T'.heap L' → own_End p e below F (T'.setTop (mkF m pc' Ls (v.toList ++ rest)))) : own_End p e below F (T.setTop (mkF m pc Ls (x2 :: x1 :: x0 :: .ref b :: rest))) := by
  subst hp
  obtain ⟨v, _, ⟨T', L0, k0, n0⟩, -, X', ⟨L', hQ, e1, e2, e3⟩, stp⟩ := X.specialBack hx (y := (⟨"com/example/inclusive_lock/inclusivelock/sim/RoleError", "<init>", "(JJLjava/lang/RuntimeException;)V"⟩ : MethodName)) rfl hown (mvT hZ (wd_4 hw)) (mvT hZ (wd_5 hw)) (mvT hZ (wd_6 hw)) (by decide) (backOf (W := W) hM hZ (wd_6 hw) (wd_3 hw) hf hl) (g := mkF m pc Ls (x2 :: x1 :: x0 :: .ref b :: rest)) rfl hsz (Steps.refl _) (a := b) (argsL := [x0, x1, x2]) (rest := rest) (lenOf own_pd12 rfl) rfl (by show 2 * 0 + _ ≤ _; omega) (hb hby hd) (fun _ _ => ⟨rfl, eT, hc, hs⟩)
  dsimp only [Pt.U, Pt.locs, Pt.cells, Pt.slots] at X' e1 e2 e3 stp hQ
  subst e1 e2 e3
  exact own_trans stp (k v T' L' X' hQ)
set_option maxRecDepth 65536 in
theorem own_lk10 {p : Program} {l : Launch} {e : Env} {R : Room} {s : State} {m : MethodId} {args : Array Value} {below : List Frame} {meth : Method} {c : Code} {T : State} {locs : List Loc} {cells slots : Nat} {F : Option Value → State → Prop} {bs : ByteArray} {pc pc' : Nat} {Ls : Array Slot} {Z : State} {a0 : Array Value} {h : Heap} {x0 : Value} {rest : List Value} {W : Nat} {rm : Room} {Q : Option Value → Heap → List Loc → Prop} (hw : ∀ d ∈ tables_1, d.before a0 Z = true) (X : Stand p l e R s m args below meth c T locs cells slots) (hx : p.tables.exec = Jvm.exec) (hZ : Z.Warmed39 s.vm) (hby : c.code = bs) (hsz : Ls.size = c.maxLocals) (hown : s.vm.findClass "com/example/inclusive_lock/inclusivelock/sim/SimulationReportFoundViolationPinLaw" = some m.cls) (hd : decode bs pc = .ok (.invokestatic 13, 3)) (hp : pc + 3 = pc') (eT : T.heap = h) (hW : (rest.map fun v => v.category).sum ≤ W)
    (hM : MetFree l (⟨"java/util/Optional", "of", "(Ljava/lang/Object;)Ljava/util/Optional;"⟩ : MethodName) (head1 [(Cond.code (⟨"java/util/Optional", "of", "(Ljava/lang/Object;)Ljava/util/Optional;"⟩ : MethodName) jdk_32_method_3_code 1 (some (.object "java/util/Optional")))] rm) (fun aa U => aa = #[x0] ∧ Z.Warmed39 U.vm ∧ U.heap = h) (fun _ _ _ _ _ => True) (fun _ U o U' => ∃ v L, o = .returned v ∧ Q v U'.heap L ∧ FrameEnd U o U' L rm.cells rm.slots)) (hf : rm.frames + 1 ≤ R.frames) (hl : W + (1 + 11) + rm.locals ≤ R.locals) (hc : cells + rm.cells ≤ R.cells) (hs : slots + rm.slots ≤ R.slots)
    (k : ∀ v T' L', Stand p l e R s m args below meth c T' (locs ++ L') (cells + rm.cells) (slots + rm.slots) → Q v T'.heap L' → own_End p e below F (T'.setTop (mkF m pc' Ls (v.toList ++ rest)))) : own_End p e below F (T.setTop (mkF m pc Ls (x0 :: rest))) := by
  subst hp
  obtain ⟨v, _, ⟨T', L0, k0, n0⟩, -, X', ⟨L', hQ, e1, e2, e3⟩, stp⟩ := Jvm.LawKit.callS X hx (y := (⟨"java/util/Optional", "of", "(Ljava/lang/Object;)Ljava/util/Optional;"⟩ : MethodName)) hown (mvT hZ (wd_21 hw)) (mvT hZ (wd_22 hw)) (mvT hZ (wd_23 hw)) (mvT hZ (wd_24 hw)) (by decide) (backOf (W := W) hM hZ (wd_24 hw) (wd_23 hw) hf hl) (g := mkF m pc Ls (x0 :: rest)) rfl hsz (argsL := [x0]) (rest := rest) (lenOf own_pd13 rfl) rfl (by show 2 * 0 + _ ≤ _; omega) (hb hby hd) (fun _ _ => ⟨rfl, eT, hc, hs⟩)
  dsimp only [Pt.U, Pt.locs, Pt.cells, Pt.slots] at X' e1 e2 e3 stp hQ
  subst e1 e2 e3
  exact own_step stp (k v T' L' X' hQ)

def own_RE (Z : State) (h : Heap) (a : Addr) (v0 : Int64) (v1 : Int64) (v2 : Value) : Prop := Exa Z h a "com/example/inclusive_lock/inclusivelock/sim/RoleError" ∧ Fld Z h a "com/example/inclusive_lock/inclusivelock/sim/RoleError" "seed" "J" (.long v0) ∧ Fld Z h a "com/example/inclusive_lock/inclusivelock/sim/RoleError" "time" "J" (.long v1) ∧ Fld Z h a "com/example/inclusive_lock/inclusivelock/sim/RoleError" "exception" "Ljava/lang/RuntimeException;" v2
theorem own_RE.ext {Z : State} {h h' : Heap} {a : Addr} {v0 : Int64} {v1 : Int64} {v2 : Value} (O : own_RE Z h a v0 v1 v2) (X : Ext h h') : own_RE Z h' a v0 v1 v2 := by
  obtain ⟨E, F0, F1, F2⟩ := O
  exact ⟨E.ext X, F0.ext X, F1.ext X, F2.ext X⟩
theorem own_RE.keep {Z : State} {h h' : Heap} {a : Addr} {v0 : Int64} {v1 : Int64} {v2 : Value} (O : own_RE Z h a v0 v1 v2) {ws : List Addr} (K : Keep h h' ws) (q : a ∉ ws) : own_RE Z h' a v0 v1 v2 := by
  obtain ⟨E, F0, F1, F2⟩ := O
  exact ⟨E.keep K, F0.keep K q, F1.keep K q, F2.keep K q⟩
theorem own_RE.other {Z : State} {h h' : Heap} {a : Addr} {v0 : Int64} {v1 : Int64} {v2 : Value} (O : own_RE Z h a v0 v1 v2) {b : Addr} {sl : Nat} {v : Value} (W : Wr h h' b sl v) (q : a ≠ b) : own_RE Z h' a v0 v1 v2 := by
  obtain ⟨E, F0, F1, F2⟩ := O
  exact ⟨E.wr W, F0.other W (Or.inl q), F1.other W (Or.inl q), F2.other W (Or.inl q)⟩
theorem own_RE.lt {Z : State} {h : Heap} {a : Addr} {v0 : Int64} {v1 : Int64} {v2 : Value} (O : own_RE Z h a v0 v1 v2) : a < h.size := by
  obtain ⟨E, F0, F1, F2⟩ := O
  exact E.lt
def own_OP (Z : State) (h : Heap) (a : Addr) (v0 : Value) : Prop := Exa Z h a "java/util/Optional" ∧ Fld Z h a "java/util/Optional" "value" "Ljava/lang/Object;" v0
theorem own_OP.ext {Z : State} {h h' : Heap} {a : Addr} {v0 : Value} (O : own_OP Z h a v0) (X : Ext h h') : own_OP Z h' a v0 := by
  obtain ⟨E, F0⟩ := O
  exact ⟨E.ext X, F0.ext X⟩
theorem own_OP.keep {Z : State} {h h' : Heap} {a : Addr} {v0 : Value} (O : own_OP Z h a v0) {ws : List Addr} (K : Keep h h' ws) (q : a ∉ ws) : own_OP Z h' a v0 := by
  obtain ⟨E, F0⟩ := O
  exact ⟨E.keep K, F0.keep K q⟩
theorem own_OP.other {Z : State} {h h' : Heap} {a : Addr} {v0 : Value} (O : own_OP Z h a v0) {b : Addr} {sl : Nat} {v : Value} (W : Wr h h' b sl v) (q : a ≠ b) : own_OP Z h' a v0 := by
  obtain ⟨E, F0⟩ := O
  exact ⟨E.wr W, F0.other W (Or.inl q)⟩
theorem own_OP.lt {Z : State} {h : Heap} {a : Addr} {v0 : Value} (O : own_OP Z h a v0) : a < h.size := by
  obtain ⟨E, F0⟩ := O
  exact E.lt
def own_SR (Z : State) (h : Heap) (a : Addr) (v0 : Int32) (v1 : Int32) (v2 : Int32) (v3 : Int32) (v4 : Int64) (v5 : Int64) (v6 : Int64) (v7 : Int64) (v8 : Value) : Prop := Exa Z h a "com/example/inclusive_lock/inclusivelock/sim/SimulationReport" ∧ Fld Z h a "com/example/inclusive_lock/inclusivelock/sim/SimulationReport" "requests" "I" (.int v0) ∧ Fld Z h a "com/example/inclusive_lock/inclusivelock/sim/SimulationReport" "entries" "I" (.int v1) ∧ Fld Z h a "com/example/inclusive_lock/inclusivelock/sim/SimulationReport" "overlaps" "I" (.int v2) ∧ Fld Z h a "com/example/inclusive_lock/inclusivelock/sim/SimulationReport" "maxConcurrent" "I" (.int v3) ∧ Fld Z h a "com/example/inclusive_lock/inclusivelock/sim/SimulationReport" "messages" "J" (.long v4) ∧ Fld Z h a "com/example/inclusive_lock/inclusivelock/sim/SimulationReport" "delayMin" "J" (.long v5) ∧ Fld Z h a "com/example/inclusive_lock/inclusivelock/sim/SimulationReport" "delayMax" "J" (.long v6) ∧ Fld Z h a "com/example/inclusive_lock/inclusivelock/sim/SimulationReport" "endTime" "J" (.long v7) ∧ Fld Z h a "com/example/inclusive_lock/inclusivelock/sim/SimulationReport" "roleError" "Ljava/util/Optional;" v8
theorem own_SR.ext {Z : State} {h h' : Heap} {a : Addr} {v0 : Int32} {v1 : Int32} {v2 : Int32} {v3 : Int32} {v4 : Int64} {v5 : Int64} {v6 : Int64} {v7 : Int64} {v8 : Value} (O : own_SR Z h a v0 v1 v2 v3 v4 v5 v6 v7 v8) (X : Ext h h') : own_SR Z h' a v0 v1 v2 v3 v4 v5 v6 v7 v8 := by
  obtain ⟨E, F0, F1, F2, F3, F4, F5, F6, F7, F8⟩ := O
  exact ⟨E.ext X, F0.ext X, F1.ext X, F2.ext X, F3.ext X, F4.ext X, F5.ext X, F6.ext X, F7.ext X, F8.ext X⟩
theorem own_SR.keep {Z : State} {h h' : Heap} {a : Addr} {v0 : Int32} {v1 : Int32} {v2 : Int32} {v3 : Int32} {v4 : Int64} {v5 : Int64} {v6 : Int64} {v7 : Int64} {v8 : Value} (O : own_SR Z h a v0 v1 v2 v3 v4 v5 v6 v7 v8) {ws : List Addr} (K : Keep h h' ws) (q : a ∉ ws) : own_SR Z h' a v0 v1 v2 v3 v4 v5 v6 v7 v8 := by
  obtain ⟨E, F0, F1, F2, F3, F4, F5, F6, F7, F8⟩ := O
  exact ⟨E.keep K, F0.keep K q, F1.keep K q, F2.keep K q, F3.keep K q, F4.keep K q, F5.keep K q, F6.keep K q, F7.keep K q, F8.keep K q⟩
theorem own_SR.other {Z : State} {h h' : Heap} {a : Addr} {v0 : Int32} {v1 : Int32} {v2 : Int32} {v3 : Int32} {v4 : Int64} {v5 : Int64} {v6 : Int64} {v7 : Int64} {v8 : Value} (O : own_SR Z h a v0 v1 v2 v3 v4 v5 v6 v7 v8) {b : Addr} {sl : Nat} {v : Value} (W : Wr h h' b sl v) (q : a ≠ b) : own_SR Z h' a v0 v1 v2 v3 v4 v5 v6 v7 v8 := by
  obtain ⟨E, F0, F1, F2, F3, F4, F5, F6, F7, F8⟩ := O
  exact ⟨E.wr W, F0.other W (Or.inl q), F1.other W (Or.inl q), F2.other W (Or.inl q), F3.other W (Or.inl q), F4.other W (Or.inl q), F5.other W (Or.inl q), F6.other W (Or.inl q), F7.other W (Or.inl q), F8.other W (Or.inl q)⟩
theorem own_SR.lt {Z : State} {h : Heap} {a : Addr} {v0 : Int32} {v1 : Int32} {v2 : Int32} {v3 : Int32} {v4 : Int64} {v5 : Int64} {v6 : Int64} {v7 : Int64} {v8 : Value} (O : own_SR Z h a v0 v1 v2 v3 v4 v5 v6 v7 v8) : a < h.size := by
  obtain ⟨E, F0, F1, F2, F3, F4, F5, F6, F7, F8⟩ := O
  exact E.lt
def own_fv (ov u pr : Int32) : Int32 := if (0 : Int32) < ov then 1 else if (0 : Int32) < u then 1 else pr
theorem own_us (a b : Int32) : ((0 : Int32) < ((a &&& (2147483647 : Int32)) - (b &&& (2147483647 : Int32)))) ↔ ((b &&& (2147483647 : Int32)) < (a &&& (2147483647 : Int32))) := by
  have h1 := c_mask a 2147483647 31 (by decide) (by decide)
  have h2 := c_mask b 2147483647 31 (by decide) (by decide)
  have h3 := c_isub (a &&& 2147483647) (b &&& 2147483647)
  have h4 := rng32 ((a &&& 2147483647) - (b &&& 2147483647))
  have e : (0 : Int32).toInt = 0 := rfl
  rw [Int32.lt_iff_toInt_lt, Int32.lt_iff_toInt_lt]
  omega
theorem own_ef_rm2 (m : MethodId) (a : Addr)  : entryFrame m #[(.ref a)] 1 = mkF m 0 #[.val (.ref a)] [] := by first | (simp [entryFrame, mkF, argsToLocals, Value.category]; done) | rfl
def Q2 (Z : State) (a : Addr) (h0 : Heap) (n0 : Nat) (v : Option Value) (h : Heap) (L : List Loc) : Prop := v = none ∧ Fr n0 L ∧ h = h0
set_option maxRecDepth 65536 in
set_option maxHeartbeats 40000000 in
theorem rm2 (l : Launch) (Z : State) (a0 : Array Value) (hw : ∀ d ∈ tables_1, d.before a0 Z = true) (ws : List Jvm.Cond) (a : Addr) (h0 : Heap) (n0 : Nat) (Z0 : n0 ≤ h0.size)  :
    MetFree l (⟨"java/lang/Record", "<init>", "()V"⟩ : MethodName) (head1 (Jvm.Cond.code (⟨"java/lang/Record", "<init>", "()V"⟩ : MethodName) jdk_30_method_1_code 1 none :: ws) ({ frames := 1, cells := 0, slots := 0, locals := 12 } : Room)) (fun aa U => aa = #[(.ref a)] ∧ Z.Warmed39 U.vm ∧ U.heap = h0) (fun _ _ _ _ _ => True) (fun _ U oc U' => ∃ v L, oc = .returned v ∧ Q2 Z a h0 n0 v U'.heap L ∧ FrameEnd U oc U' L ({ frames := 1, cells := 0, slots := 0, locals := 12 } : Room).cells ({ frames := 1, cells := 0, slots := 0, locals := 12 } : Room).slots) := by
  refine MetFree.of_bodySF (plainFor_of_name own_pn0) hisR ?_
  intro p e s m args below meth c s₁ Bd hml0 hP hK
  obtain ⟨rfl, hZ, hh⟩ := hP
  have hx := Bd.exec
  have hby := Bd.bytes
  have hlk := Bd.notSynchronized
  have hret := Bd.returns
  have hml : c.maxLocals = 1 := hml0
  have hown : s.vm.findClass "java/lang/Record" = some m.cls := findClass_of_methodNamed Bd.named
  have hnm := (name_of_methodNamed Bd.named Bd.method).1
  have X0 : Stand p l e ({ frames := 1, cells := 0, slots := 0, locals := 12 } : Room) s m #[(.ref a)] below meth c s₁ [] 0 0 := Stand.of_body Bd
  have e0 : s₁.heap = h0 := by rw [← hh, Bd.state]; rfl
  have N0 := Fr.nil n0
  refine own_body (Q := Q2 Z a h0 n0) (KC := ({ frames := 1, cells := 0, slots := 0, locals := 12 } : Room).cells) (KS := ({ frames := 1, cells := 0, slots := 0, locals := 12 } : Room).slots) ?_
  rw [own_ef_rm2 m a]
  refine own_aloadN X0 hx hby d2_0 (pc' := 1) rfl rfl rfl ?_
  refine own_init X0 hx hZ hby hown (wd_12 hw) (wd_13 hw) (wd_14 hw) e0 (by rw [hml]; rfl) d2_1 (pc' := 4) rfl (by decide) (W := 0) (Nat.le_of_eq rfl) (by decide) (fun T1 X1 e1 => ?_)
  refine own_return X1 hx hlk hby hret d2_4 (own_lv ?_ (by decide) (by decide))
  show Q2 Z a  h0 n0 none T1.heap _
  rw [e1]
  exact ⟨rfl, N0, rfl⟩
theorem own_ef_rm1 (m : MethodId) (a : Addr) (p1 : Int64) (p2 : Int64)  : entryFrame m #[(.ref a), (.long p1), (.long p2), .null] 6 = mkF m 0 #[.val (.ref a), .val (.long p1), .second, .val (.long p2), .second, .val .null] [] := by first | (simp [entryFrame, mkF, argsToLocals, Value.category]; done) | rfl
def Q1 (Z : State) (a : Addr) (p1 : Int64) (p2 : Int64) (h0 : Heap) (n0 : Nat) (v : Option Value) (h : Heap) (L : List Loc) : Prop := v = none ∧ Fr n0 L ∧ Keep h0 h [a] ∧ own_RE Z h a p1 p2 .null
set_option maxRecDepth 65536 in
set_option maxHeartbeats 40000000 in
theorem rm1 (l : Launch) (Z : State) (a0 : Array Value) (hw : ∀ d ∈ tables_1, d.before a0 Z = true) (ws : List Jvm.Cond) (a : Addr) (p1 : Int64) (p2 : Int64) (h0 : Heap) (n0 : Nat) (Z0 : n0 ≤ h0.size) (f_O_a : own_RE Z h0 a (0 : Int64) (0 : Int64) .null) (ge_a : n0 ≤ a) :
    MetFree l (⟨"com/example/inclusive_lock/inclusivelock/sim/RoleError", "<init>", "(JJLjava/lang/RuntimeException;)V"⟩ : MethodName) (head1 (Jvm.Cond.code (⟨"com/example/inclusive_lock/inclusivelock/sim/RoleError", "<init>", "(JJLjava/lang/RuntimeException;)V"⟩ : MethodName) prog_75_method_1_code 6 none :: ws) ({ frames := 2, cells := 0, slots := 0, locals := 24 } : Room)) (fun aa U => aa = #[(.ref a), (.long p1), (.long p2), .null] ∧ Z.Warmed39 U.vm ∧ U.heap = h0) (fun _ _ _ _ _ => True) (fun _ U oc U' => ∃ v L, oc = .returned v ∧ Q1 Z a p1 p2 h0 n0 v U'.heap L ∧ FrameEnd U oc U' L ({ frames := 2, cells := 0, slots := 0, locals := 24 } : Room).cells ({ frames := 2, cells := 0, slots := 0, locals := 24 } : Room).slots) := by
  refine MetFree.of_bodySF (plainFor_of_name own_pn2) hisR ?_
  intro p e s m args below meth c s₁ Bd hml0 hP hK
  obtain ⟨rfl, hZ, hh⟩ := hP
  have hx := Bd.exec
  have hby := Bd.bytes
  have hlk := Bd.notSynchronized
  have hret := Bd.returns
  have hml : c.maxLocals = 6 := hml0
  have hown : s.vm.findClass "com/example/inclusive_lock/inclusivelock/sim/RoleError" = some m.cls := findClass_of_methodNamed Bd.named
  have hnm := (name_of_methodNamed Bd.named Bd.method).1
  have X0 : Stand p l e ({ frames := 2, cells := 0, slots := 0, locals := 24 } : Room) s m #[(.ref a), (.long p1), (.long p2), .null] below meth c s₁ [] 0 0 := Stand.of_body Bd
  have e0 : s₁.heap = h0 := by rw [← hh, Bd.state]; rfl
  have N0 := Fr.nil n0
  refine own_body (Q := Q1 Z a p1 p2 h0 n0) (KC := ({ frames := 2, cells := 0, slots := 0, locals := 24 } : Room).cells) (KS := ({ frames := 2, cells := 0, slots := 0, locals := 24 } : Room).slots) ?_
  rw [own_ef_rm1 m a p1 p2]
  have Kp : Keep h0 h0 [a] := Keep.refl h0 _
  refine own_aloadN X0 hx hby d1_0 (pc' := 1) rfl rfl rfl ?_
  refine own_lk0 hw X0 hx hZ hby (by rw [hml]; rfl) hown d1_1 (pc' := 4) rfl e0 (W := 0) (Nat.le_of_eq rfl) (rm2 l Z a0 hw [] a h0 n0 Z0 ) (by decide) (by decide) (by decide) (by decide) (fun v1 T1 L1 X1 hQ1 => ?_)
  obtain ⟨rfl, Nq1, e1⟩ := hQ1
  have N1 := Fr.app N0 Nq1
  show own_End p e below _ (T1.setTop (mkF m 4 _ []))
  refine own_aloadN X1 hx hby d1_4 (pc' := 5) rfl rfl rfl ?_
  refine own_lloadN X1 hx hby d1_5 (pc' := 6) rfl rfl ?_
  obtain ⟨f_E_a, f_F_a_seed, f_F_a_time, f_F_a_exception⟩ := f_O_a
  refine own_putF X1 hx hZ hby hown (host := "") (Or.inl (wd_15 hw)) Via.refl e1 f_F_a_seed f_E_a (Or.inr ⟨(wd_16 hw), rfl, hnm⟩) (wd_2 hw) (ty := .long) (by decide) rfl rfl d1_6 (pc' := 9) rfl (fun T2 h2 X2 e2 W2 => ?_)
  have f_F_a_seed := f_F_a_seed.same W2
  have f_E_a := f_E_a.wr W2
  have f_F_a_time := f_F_a_time.other W2 (Or.inr (slot_ne (Or.inr (wd_18 hw)) (Or.inr (wd_16 hw)) (by decide) (t := .long) (t' := .long) (by decide) (by decide)))
  have f_F_a_exception := f_F_a_exception.other W2 (Or.inr (slot_ne (Or.inr (wd_20 hw)) (Or.inr (wd_16 hw)) (by decide) (t := (.object "java/lang/RuntimeException")) (t' := .long) (by decide) (by decide)))
  have Zn := Nat.le_trans Z0 (Keep.of_wr W2).1
  have Kp := Kp.wr W2 (Or.inl (List.mem_of_getElem? (i := 0) rfl))
  have N2 := Fr.snoc X2 N1 ge_a
  refine own_aloadN X2 hx hby d1_9 (pc' := 10) rfl rfl rfl ?_
  refine own_lloadN X2 hx hby d1_10 (pc' := 11) rfl rfl ?_
  refine own_putF X2 hx hZ hby hown (host := "") (Or.inl (wd_17 hw)) Via.refl e2 f_F_a_time f_E_a (Or.inr ⟨(wd_18 hw), rfl, hnm⟩) (wd_2 hw) (ty := .long) (by decide) rfl rfl d1_11 (pc' := 14) rfl (fun T3 h3 X3 e3 W3 => ?_)
  have f_F_a_time := f_F_a_time.same W3
  have f_E_a := f_E_a.wr W3
  have f_F_a_seed := f_F_a_seed.other W3 (Or.inr (slot_ne (Or.inr (wd_16 hw)) (Or.inr (wd_18 hw)) (by decide) (t := .long) (t' := .long) (by decide) (by decide)))
  have f_F_a_exception := f_F_a_exception.other W3 (Or.inr (slot_ne (Or.inr (wd_20 hw)) (Or.inr (wd_18 hw)) (by decide) (t := (.object "java/lang/RuntimeException")) (t' := .long) (by decide) (by decide)))
  have Zn := Nat.le_trans Zn (Keep.of_wr W3).1
  have Kp := Kp.wr W3 (Or.inl (List.mem_of_getElem? (i := 0) rfl))
  have N3 := Fr.snoc X3 N2 ge_a
  refine own_aloadN X3 hx hby d1_14 (pc' := 15) rfl rfl rfl ?_
  refine own_aload X3 hx hby d1_15 (pc' := 17) rfl rfl rfl ?_
  refine own_putF X3 hx hZ hby hown (host := "") (Or.inl (wd_19 hw)) Via.refl e3 f_F_a_exception f_E_a (Or.inr ⟨(wd_20 hw), rfl, hnm⟩) (wd_2 hw) (ty := (.object "java/lang/RuntimeException")) (by decide) rfl rfl d1_17 (pc' := 20) rfl (fun T4 h4 X4 e4 W4 => ?_)
  have f_F_a_exception := f_F_a_exception.same W4
  have f_E_a := f_E_a.wr W4
  have f_F_a_seed := f_F_a_seed.other W4 (Or.inr (slot_ne (Or.inr (wd_16 hw)) (Or.inr (wd_20 hw)) (by decide) (t := .long) (t' := (.object "java/lang/RuntimeException")) (by decide) (by decide)))
  have f_F_a_time := f_F_a_time.other W4 (Or.inr (slot_ne (Or.inr (wd_18 hw)) (Or.inr (wd_20 hw)) (by decide) (t := .long) (t' := (.object "java/lang/RuntimeException")) (by decide) (by decide)))
  have Zn := Nat.le_trans Zn (Keep.of_wr W4).1
  have Kp := Kp.wr W4 (Or.inl (List.mem_of_getElem? (i := 0) rfl))
  have N4 := Fr.snoc X4 N3 ge_a
  refine own_return X4 hx hlk hby hret d1_20 (own_lv ?_ (by decide) (by decide))
  show Q1 Z a p1 p2  h0 n0 none T4.heap _
  rw [e4]
  exact ⟨rfl, N4, Kp, ⟨f_E_a, f_F_a_seed, f_F_a_time, f_F_a_exception⟩⟩
theorem own_ef_rm5 (m : MethodId) (o : Addr)  : entryFrame m #[(.ref o)] 1 = mkF m 0 #[.val (.ref o)] [] := by first | (simp [entryFrame, mkF, argsToLocals, Value.category]; done) | rfl
def Q5 (Z : State) (o : Addr) (h0 : Heap) (n0 : Nat) (v : Option Value) (h : Heap) (L : List Loc) : Prop := v = some (.ref o) ∧ Fr n0 L ∧ h = h0
set_option maxRecDepth 65536 in
set_option maxHeartbeats 40000000 in
theorem rm5 (l : Launch) (Z : State) (a0 : Array Value) (hw : ∀ d ∈ tables_1, d.before a0 Z = true) (ws : List Jvm.Cond) (o : Addr) (h0 : Heap) (n0 : Nat) (Z0 : n0 ≤ h0.size)  :
    MetFree l (⟨"java/util/Objects", "requireNonNull", "(Ljava/lang/Object;)Ljava/lang/Object;"⟩ : MethodName) (head1 (Jvm.Cond.code (⟨"java/util/Objects", "requireNonNull", "(Ljava/lang/Object;)Ljava/lang/Object;"⟩ : MethodName) jdk_31_method_10_code 1 (some (.object "java/lang/Object")) :: ws) ({ frames := 0, cells := 0, slots := 0, locals := 0 } : Room)) (fun aa U => aa = #[(.ref o)] ∧ Z.Warmed39 U.vm ∧ U.heap = h0) (fun _ _ _ _ _ => True) (fun _ U oc U' => ∃ v L, oc = .returned v ∧ Q5 Z o h0 n0 v U'.heap L ∧ FrameEnd U oc U' L ({ frames := 0, cells := 0, slots := 0, locals := 0 } : Room).cells ({ frames := 0, cells := 0, slots := 0, locals := 0 } : Room).slots) := by
  refine MetFree.of_bodySF (plainFor_of_name own_pn3) hisR ?_
  intro p e s m args below meth c s₁ Bd hml0 hP hK
  obtain ⟨rfl, hZ, hh⟩ := hP
  have hx := Bd.exec
  have hby := Bd.bytes
  have hlk := Bd.notSynchronized
  have hret := Bd.returns
  have hml : c.maxLocals = 1 := hml0
  have hown : s.vm.findClass "java/util/Objects" = some m.cls := findClass_of_methodNamed Bd.named
  have hnm := (name_of_methodNamed Bd.named Bd.method).1
  have X0 : Stand p l e ({ frames := 0, cells := 0, slots := 0, locals := 0 } : Room) s m #[(.ref o)] below meth c s₁ [] 0 0 := Stand.of_body Bd
  have e0 : s₁.heap = h0 := by rw [← hh, Bd.state]; rfl
  have N0 := Fr.nil n0
  refine own_body (Q := Q5 Z o h0 n0) (KC := ({ frames := 0, cells := 0, slots := 0, locals := 0 } : Room).cells) (KS := ({ frames := 0, cells := 0, slots := 0, locals := 0 } : Room).slots) ?_
  rw [own_ef_rm5 m o]
  refine own_aloadN X0 hx hby d5_0 (pc' := 1) rfl rfl rfl ?_
  refine own_ifnonnullY X0 hx hby d5_1 (pc' := 12) (by decide) (by decide) ?_
  refine own_aloadN X0 hx hby d5_12 (pc' := 13) rfl rfl rfl ?_
  refine own_areturn X0 hx hlk hby hret rfl rfl d5_13 (own_lv ?_ (by decide) (by decide))
  show Q5 Z o  h0 n0 (some (.ref o)) s₁.heap _
  rw [e0]
  exact ⟨rfl, N0, rfl⟩
theorem own_ef_rm6 (m : MethodId) (a : Addr) (o : Addr)  : entryFrame m #[(.ref a), (.ref o)] 2 = mkF m 0 #[.val (.ref a), .val (.ref o)] [] := by first | (simp [entryFrame, mkF, argsToLocals, Value.category]; done) | rfl
def Q6 (Z : State) (a : Addr) (o : Addr) (h0 : Heap) (n0 : Nat) (v : Option Value) (h : Heap) (L : List Loc) : Prop := v = none ∧ Fr n0 L ∧ Keep h0 h [a] ∧ own_OP Z h a (.ref o)
set_option maxRecDepth 65536 in
set_option maxHeartbeats 40000000 in
theorem rm6 (l : Launch) (Z : State) (a0 : Array Value) (hw : ∀ d ∈ tables_1, d.before a0 Z = true) (ws : List Jvm.Cond) (a : Addr) (o : Addr) (h0 : Heap) (n0 : Nat) (Z0 : n0 ≤ h0.size) (f_O_a : own_OP Z h0 a .null) (ge_a : n0 ≤ a) :
    MetFree l (⟨"java/util/Optional", "<init>", "(Ljava/lang/Object;)V"⟩ : MethodName) (head1 (Jvm.Cond.code (⟨"java/util/Optional", "<init>", "(Ljava/lang/Object;)V"⟩ : MethodName) jdk_32_method_2_code 2 none :: ws) ({ frames := 1, cells := 0, slots := 0, locals := 12 } : Room)) (fun aa U => aa = #[(.ref a), (.ref o)] ∧ Z.Warmed39 U.vm ∧ U.heap = h0) (fun _ _ _ _ _ => True) (fun _ U oc U' => ∃ v L, oc = .returned v ∧ Q6 Z a o h0 n0 v U'.heap L ∧ FrameEnd U oc U' L ({ frames := 1, cells := 0, slots := 0, locals := 12 } : Room).cells ({ frames := 1, cells := 0, slots := 0, locals := 12 } : Room).slots) := by
  refine MetFree.of_bodySF (plainFor_of_name own_pn4) hisR ?_
  intro p e s m args below meth c s₁ Bd hml0 hP hK
  obtain ⟨rfl, hZ, hh⟩ := hP
  have hx := Bd.exec
  have hby := Bd.bytes
  have hlk := Bd.notSynchronized
  have hret := Bd.returns
  have hml : c.maxLocals = 2 := hml0
  have hown : s.vm.findClass "java/util/Optional" = some m.cls := findClass_of_methodNamed Bd.named
  have hnm := (name_of_methodNamed Bd.named Bd.method).1
  have X0 : Stand p l e ({ frames := 1, cells := 0, slots := 0, locals := 12 } : Room) s m #[(.ref a), (.ref o)] below meth c s₁ [] 0 0 := Stand.of_body Bd
  have e0 : s₁.heap = h0 := by rw [← hh, Bd.state]; rfl
  have N0 := Fr.nil n0
  refine own_body (Q := Q6 Z a o h0 n0) (KC := ({ frames := 1, cells := 0, slots := 0, locals := 12 } : Room).cells) (KS := ({ frames := 1, cells := 0, slots := 0, locals := 12 } : Room).slots) ?_
  rw [own_ef_rm6 m a o]
  have Kp : Keep h0 h0 [a] := Keep.refl h0 _
  refine own_aloadN X0 hx hby d6_0 (pc' := 1) rfl rfl rfl ?_
  refine own_init X0 hx hZ hby hown (wd_35 hw) (wd_13 hw) (wd_14 hw) e0 (by rw [hml]; rfl) d6_1 (pc' := 4) rfl (by decide) (W := 0) (Nat.le_of_eq rfl) (by decide) (fun T1 X1 e1 => ?_)
  refine own_aloadN X1 hx hby d6_4 (pc' := 5) rfl rfl rfl ?_
  refine own_aloadN X1 hx hby d6_5 (pc' := 6) rfl rfl rfl ?_
  obtain ⟨f_E_a, f_F_a_value⟩ := f_O_a
  refine own_putF X1 hx hZ hby hown (host := "") (Or.inl (wd_36 hw)) Via.refl e1 f_F_a_value f_E_a (Or.inr ⟨(wd_37 hw), rfl, hnm⟩) (wd_26 hw) (ty := (.object "java/lang/Object")) (by decide) rfl rfl d6_6 (pc' := 9) rfl (fun T2 h2 X2 e2 W2 => ?_)
  have f_F_a_value := f_F_a_value.same W2
  have f_E_a := f_E_a.wr W2
  have Zn := Nat.le_trans Z0 (Keep.of_wr W2).1
  have Kp := Kp.wr W2 (Or.inl (List.mem_of_getElem? (i := 0) rfl))
  have N2 := Fr.snoc X2 N0 ge_a
  refine own_return X2 hx hlk hby hret d6_9 (own_lv ?_ (by decide) (by decide))
  show Q6 Z a o  h0 n0 none T2.heap _
  rw [e2]
  exact ⟨rfl, N2, Kp, ⟨f_E_a, f_F_a_value⟩⟩
theorem own_ef_rm4 (m : MethodId) (o : Addr)  : entryFrame m #[(.ref o)] 1 = mkF m 0 #[.val (.ref o)] [] := by first | (simp [entryFrame, mkF, argsToLocals, Value.category]; done) | rfl
def Q4 (Z : State) (o : Addr) (h0 : Heap) (n0 : Nat) (v : Option Value) (h : Heap) (L : List Loc) : Prop := ∃ a : Addr, v = some (.ref a) ∧ Fr n0 L ∧ Keep h0 h [] ∧ h0.size ≤ a ∧ own_OP Z h a (.ref o)
set_option maxRecDepth 65536 in
set_option maxHeartbeats 40000000 in
theorem rm4 (l : Launch) (Z : State) (a0 : Array Value) (hw : ∀ d ∈ tables_1, d.before a0 Z = true) (ws : List Jvm.Cond) (o : Addr) (h0 : Heap) (n0 : Nat) (Z0 : n0 ≤ h0.size)  :
    MetFree l (⟨"java/util/Optional", "of", "(Ljava/lang/Object;)Ljava/util/Optional;"⟩ : MethodName) (head1 (Jvm.Cond.code (⟨"java/util/Optional", "of", "(Ljava/lang/Object;)Ljava/util/Optional;"⟩ : MethodName) jdk_32_method_3_code 1 (some (.object "java/util/Optional")) :: ws) ({ frames := 2, cells := 1, slots := 1, locals := 26 } : Room)) (fun aa U => aa = #[(.ref o)] ∧ Z.Warmed39 U.vm ∧ U.heap = h0) (fun _ _ _ _ _ => True) (fun _ U oc U' => ∃ v L, oc = .returned v ∧ Q4 Z o h0 n0 v U'.heap L ∧ FrameEnd U oc U' L ({ frames := 2, cells := 1, slots := 1, locals := 26 } : Room).cells ({ frames := 2, cells := 1, slots := 1, locals := 26 } : Room).slots) := by
  refine MetFree.of_bodySF (plainFor_of_name own_pn4) hisR ?_
  intro p e s m args below meth c s₁ Bd hml0 hP hK
  obtain ⟨rfl, hZ, hh⟩ := hP
  have hx := Bd.exec
  have hby := Bd.bytes
  have hlk := Bd.notSynchronized
  have hret := Bd.returns
  have hml : c.maxLocals = 1 := hml0
  have hown : s.vm.findClass "java/util/Optional" = some m.cls := findClass_of_methodNamed Bd.named
  have hnm := (name_of_methodNamed Bd.named Bd.method).1
  have X0 : Stand p l e ({ frames := 2, cells := 1, slots := 1, locals := 26 } : Room) s m #[(.ref o)] below meth c s₁ [] 0 0 := Stand.of_body Bd
  have e0 : s₁.heap = h0 := by rw [← hh, Bd.state]; rfl
  have N0 := Fr.nil n0
  refine own_body (Q := Q4 Z o h0 n0) (KC := ({ frames := 2, cells := 1, slots := 1, locals := 26 } : Room).cells) (KS := ({ frames := 2, cells := 1, slots := 1, locals := 26 } : Room).slots) ?_
  rw [own_ef_rm4 m o]
  have Kp : Keep h0 h0 [] := Keep.refl h0 _
  refine own_new X0 hx hZ hby hown (wd_25 hw) (wd_26 hw) (wd_23 hw) e0 d4_0 (pc' := 3) rfl (by decide) (by decide) (fun T1 h1 b1 g1 X1 e1 E1 A1 D1 => ?_)
  have ge_b1 : n0 ≤ b1 := by rw [g1]; exact Z0
  have sz_b1 : h0.size ≤ b1 := by rw [g1]; exact Kp.1
  have Zn := Nat.le_trans Z0 E1.1
  have Kp := Kp.ext E1
  have f_O_b1 : own_OP Z h1 b1 .null := ⟨A1, D1 (Or.inr (wd_37 hw)) (ty := (.object "java/lang/Object")) (by decide)⟩
  refine own_dup X1 hx hby d4_3 (pc' := 4) rfl rfl ?_
  refine own_aloadN X1 hx hby d4_4 (pc' := 5) rfl rfl rfl ?_
  refine own_lk1 hw X1 hx hZ hby (by rw [hml]; rfl) hown d4_5 (pc' := 8) rfl e1 (W := 2) (Nat.le_of_eq rfl) (rm5 l Z a0 hw [] o h1 n0 Zn ) (by decide) (by decide) (by decide) (by decide) (fun v2 T2 L2 X2 hQ2 => ?_)
  obtain ⟨rfl, Nq2, e2⟩ := hQ2
  have N2 := Fr.app N0 Nq2
  show own_End p e below _ (T2.setTop (mkF m 8 _ [(.ref o), (.ref b1), (.ref b1)]))
  refine own_lk2 hw X2 hx hZ hby (by rw [hml]; rfl) hown d4_8 (pc' := 11) rfl e2 (W := 1) (Nat.le_of_eq rfl) (rm6 l Z a0 hw [] b1 o h1 n0 Zn f_O_b1 ge_b1) (by decide) (by decide) (by decide) (by decide) (fun v3 T3 L3 X3 hQ3 => ?_)
  obtain ⟨rfl, Nq3, K3, O3⟩ := hQ3
  have N3 := Fr.app N2 Nq3
  have Zn := Nat.le_trans Zn K3.1
  have Kp := Kp.trans K3 (allS (Or.inr sz_b1) all0)
  show own_End p e below _ (T3.setTop (mkF m 11 _ [(.ref b1)]))
  refine own_areturn X3 hx hlk hby hret rfl rfl d4_11 (own_lv ?_ (by decide) (by decide))
  show Q4 Z o  h0 n0 (some (.ref b1)) T3.heap _
  exact ⟨b1, rfl, N3, Kp, sz_b1, O3⟩
theorem own_ef_rm7 (m : MethodId) (a : Addr) (p1 : Int32) (p2 : Int32) (p3 : Int32) (p4 : Int32) (p5 : Int64) (p6 : Int64) (p7 : Int64) (p8 : Int64) (p9 : Addr)  : entryFrame m #[(.ref a), (.int p1), (.int p2), (.int p3), (.int p4), (.long p5), (.long p6), (.long p7), (.long p8), (.ref p9)] 14 = mkF m 0 #[.val (.ref a), .val (.int p1), .val (.int p2), .val (.int p3), .val (.int p4), .val (.long p5), .second, .val (.long p6), .second, .val (.long p7), .second, .val (.long p8), .second, .val (.ref p9)] [] := by first | (simp [entryFrame, mkF, argsToLocals, Value.category]; done) | rfl
def Q7 (Z : State) (a : Addr) (p1 : Int32) (p2 : Int32) (p3 : Int32) (p4 : Int32) (p5 : Int64) (p6 : Int64) (p7 : Int64) (p8 : Int64) (p9 : Addr) (h0 : Heap) (n0 : Nat) (v : Option Value) (h : Heap) (L : List Loc) : Prop := v = none ∧ Fr n0 L ∧ Keep h0 h [a] ∧ own_SR Z h a p1 p2 p3 p4 p5 p6 p7 p8 (.ref p9)
set_option maxRecDepth 65536 in
set_option maxHeartbeats 40000000 in
theorem rm7 (l : Launch) (Z : State) (a0 : Array Value) (hw : ∀ d ∈ tables_1, d.before a0 Z = true) (ws : List Jvm.Cond) (a : Addr) (p1 : Int32) (p2 : Int32) (p3 : Int32) (p4 : Int32) (p5 : Int64) (p6 : Int64) (p7 : Int64) (p8 : Int64) (p9 : Addr) (h0 : Heap) (n0 : Nat) (Z0 : n0 ≤ h0.size) (f_O_a : own_SR Z h0 a (0 : Int32) (0 : Int32) (0 : Int32) (0 : Int32) (0 : Int64) (0 : Int64) (0 : Int64) (0 : Int64) .null) (ge_a : n0 ≤ a) :
    MetFree l (⟨"com/example/inclusive_lock/inclusivelock/sim/SimulationReport", "<init>", "(IIIIJJJJLjava/util/Optional;)V"⟩ : MethodName) (head1 (Jvm.Cond.code (⟨"com/example/inclusive_lock/inclusivelock/sim/SimulationReport", "<init>", "(IIIIJJJJLjava/util/Optional;)V"⟩ : MethodName) prog_82_method_1_code 14 none :: ws) ({ frames := 2, cells := 0, slots := 0, locals := 24 } : Room)) (fun aa U => aa = #[(.ref a), (.int p1), (.int p2), (.int p3), (.int p4), (.long p5), (.long p6), (.long p7), (.long p8), (.ref p9)] ∧ Z.Warmed39 U.vm ∧ U.heap = h0) (fun _ _ _ _ _ => True) (fun _ U oc U' => ∃ v L, oc = .returned v ∧ Q7 Z a p1 p2 p3 p4 p5 p6 p7 p8 p9 h0 n0 v U'.heap L ∧ FrameEnd U oc U' L ({ frames := 2, cells := 0, slots := 0, locals := 24 } : Room).cells ({ frames := 2, cells := 0, slots := 0, locals := 24 } : Room).slots) := by
  refine MetFree.of_bodySF (plainFor_of_name own_pn7) hisR ?_
  intro p e s m args below meth c s₁ Bd hml0 hP hK
  obtain ⟨rfl, hZ, hh⟩ := hP
  have hx := Bd.exec
  have hby := Bd.bytes
  have hlk := Bd.notSynchronized
  have hret := Bd.returns
  have hml : c.maxLocals = 14 := hml0
  have hown : s.vm.findClass "com/example/inclusive_lock/inclusivelock/sim/SimulationReport" = some m.cls := findClass_of_methodNamed Bd.named
  have hnm := (name_of_methodNamed Bd.named Bd.method).1
  have X0 : Stand p l e ({ frames := 2, cells := 0, slots := 0, locals := 24 } : Room) s m #[(.ref a), (.int p1), (.int p2), (.int p3), (.int p4), (.long p5), (.long p6), (.long p7), (.long p8), (.ref p9)] below meth c s₁ [] 0 0 := Stand.of_body Bd
  have e0 : s₁.heap = h0 := by rw [← hh, Bd.state]; rfl
  have N0 := Fr.nil n0
  refine own_body (Q := Q7 Z a p1 p2 p3 p4 p5 p6 p7 p8 p9 h0 n0) (KC := ({ frames := 2, cells := 0, slots := 0, locals := 24 } : Room).cells) (KS := ({ frames := 2, cells := 0, slots := 0, locals := 24 } : Room).slots) ?_
  rw [own_ef_rm7 m a p1 p2 p3 p4 p5 p6 p7 p8 p9]
  have Kp : Keep h0 h0 [a] := Keep.refl h0 _
  refine own_aloadN X0 hx hby d7_0 (pc' := 1) rfl rfl rfl ?_
  refine own_lk3 hw X0 hx hZ hby (by rw [hml]; rfl) hown d7_1 (pc' := 4) rfl e0 (W := 0) (Nat.le_of_eq rfl) (rm2 l Z a0 hw [] a h0 n0 Z0 ) (by decide) (by decide) (by decide) (by decide) (fun v1 T1 L1 X1 hQ1 => ?_)
  obtain ⟨rfl, Nq1, e1⟩ := hQ1
  have N1 := Fr.app N0 Nq1
  show own_End p e below _ (T1.setTop (mkF m 4 _ []))
  refine own_aloadN X1 hx hby d7_4 (pc' := 5) rfl rfl rfl ?_
  refine own_iloadN X1 hx hby d7_5 (pc' := 6) rfl rfl ?_
  obtain ⟨f_E_a, f_F_a_requests, f_F_a_entries, f_F_a_overlaps, f_F_a_maxConcurrent, f_F_a_messages, f_F_a_delayMin, f_F_a_delayMax, f_F_a_endTime, f_F_a_roleError⟩ := f_O_a
  refine own_putF X1 hx hZ hby hown (host := "") (Or.inl (wd_45 hw)) Via.refl e1 f_F_a_requests f_E_a (Or.inr ⟨(wd_46 hw), rfl, hnm⟩) (wd_39 hw) (ty := .int) (by decide) rfl rfl d7_6 (pc' := 9) rfl (fun T2 h2 X2 e2 W2 => ?_)
  have f_F_a_requests := f_F_a_requests.same W2
  have f_E_a := f_E_a.wr W2
  have f_F_a_entries := f_F_a_entries.other W2 (Or.inr (slot_ne (Or.inr (wd_48 hw)) (Or.inr (wd_46 hw)) (by decide) (t := .int) (t' := .int) (by decide) (by decide)))
  have f_F_a_overlaps := f_F_a_overlaps.other W2 (Or.inr (slot_ne (Or.inr (wd_50 hw)) (Or.inr (wd_46 hw)) (by decide) (t := .int) (t' := .int) (by decide) (by decide)))
  have f_F_a_maxConcurrent := f_F_a_maxConcurrent.other W2 (Or.inr (slot_ne (Or.inr (wd_52 hw)) (Or.inr (wd_46 hw)) (by decide) (t := .int) (t' := .int) (by decide) (by decide)))
  have f_F_a_messages := f_F_a_messages.other W2 (Or.inr (slot_ne (Or.inr (wd_54 hw)) (Or.inr (wd_46 hw)) (by decide) (t := .long) (t' := .int) (by decide) (by decide)))
  have f_F_a_delayMin := f_F_a_delayMin.other W2 (Or.inr (slot_ne (Or.inr (wd_56 hw)) (Or.inr (wd_46 hw)) (by decide) (t := .long) (t' := .int) (by decide) (by decide)))
  have f_F_a_delayMax := f_F_a_delayMax.other W2 (Or.inr (slot_ne (Or.inr (wd_58 hw)) (Or.inr (wd_46 hw)) (by decide) (t := .long) (t' := .int) (by decide) (by decide)))
  have f_F_a_endTime := f_F_a_endTime.other W2 (Or.inr (slot_ne (Or.inr (wd_60 hw)) (Or.inr (wd_46 hw)) (by decide) (t := .long) (t' := .int) (by decide) (by decide)))
  have f_F_a_roleError := f_F_a_roleError.other W2 (Or.inr (slot_ne (Or.inr (wd_62 hw)) (Or.inr (wd_46 hw)) (by decide) (t := (.object "java/util/Optional")) (t' := .int) (by decide) (by decide)))
  have Zn := Nat.le_trans Z0 (Keep.of_wr W2).1
  have Kp := Kp.wr W2 (Or.inl (List.mem_of_getElem? (i := 0) rfl))
  have N2 := Fr.snoc X2 N1 ge_a
  refine own_aloadN X2 hx hby d7_9 (pc' := 10) rfl rfl rfl ?_
  refine own_iloadN X2 hx hby d7_10 (pc' := 11) rfl rfl ?_
  refine own_putF X2 hx hZ hby hown (host := "") (Or.inl (wd_47 hw)) Via.refl e2 f_F_a_entries f_E_a (Or.inr ⟨(wd_48 hw), rfl, hnm⟩) (wd_39 hw) (ty := .int) (by decide) rfl rfl d7_11 (pc' := 14) rfl (fun T3 h3 X3 e3 W3 => ?_)
  have f_F_a_entries := f_F_a_entries.same W3
  have f_E_a := f_E_a.wr W3
  have f_F_a_requests := f_F_a_requests.other W3 (Or.inr (slot_ne (Or.inr (wd_46 hw)) (Or.inr (wd_48 hw)) (by decide) (t := .int) (t' := .int) (by decide) (by decide)))
  have f_F_a_overlaps := f_F_a_overlaps.other W3 (Or.inr (slot_ne (Or.inr (wd_50 hw)) (Or.inr (wd_48 hw)) (by decide) (t := .int) (t' := .int) (by decide) (by decide)))
  have f_F_a_maxConcurrent := f_F_a_maxConcurrent.other W3 (Or.inr (slot_ne (Or.inr (wd_52 hw)) (Or.inr (wd_48 hw)) (by decide) (t := .int) (t' := .int) (by decide) (by decide)))
  have f_F_a_messages := f_F_a_messages.other W3 (Or.inr (slot_ne (Or.inr (wd_54 hw)) (Or.inr (wd_48 hw)) (by decide) (t := .long) (t' := .int) (by decide) (by decide)))
  have f_F_a_delayMin := f_F_a_delayMin.other W3 (Or.inr (slot_ne (Or.inr (wd_56 hw)) (Or.inr (wd_48 hw)) (by decide) (t := .long) (t' := .int) (by decide) (by decide)))
  have f_F_a_delayMax := f_F_a_delayMax.other W3 (Or.inr (slot_ne (Or.inr (wd_58 hw)) (Or.inr (wd_48 hw)) (by decide) (t := .long) (t' := .int) (by decide) (by decide)))
  have f_F_a_endTime := f_F_a_endTime.other W3 (Or.inr (slot_ne (Or.inr (wd_60 hw)) (Or.inr (wd_48 hw)) (by decide) (t := .long) (t' := .int) (by decide) (by decide)))
  have f_F_a_roleError := f_F_a_roleError.other W3 (Or.inr (slot_ne (Or.inr (wd_62 hw)) (Or.inr (wd_48 hw)) (by decide) (t := (.object "java/util/Optional")) (t' := .int) (by decide) (by decide)))
  have Zn := Nat.le_trans Zn (Keep.of_wr W3).1
  have Kp := Kp.wr W3 (Or.inl (List.mem_of_getElem? (i := 0) rfl))
  have N3 := Fr.snoc X3 N2 ge_a
  refine own_aloadN X3 hx hby d7_14 (pc' := 15) rfl rfl rfl ?_
  refine own_iloadN X3 hx hby d7_15 (pc' := 16) rfl rfl ?_
  refine own_putF X3 hx hZ hby hown (host := "") (Or.inl (wd_49 hw)) Via.refl e3 f_F_a_overlaps f_E_a (Or.inr ⟨(wd_50 hw), rfl, hnm⟩) (wd_39 hw) (ty := .int) (by decide) rfl rfl d7_16 (pc' := 19) rfl (fun T4 h4 X4 e4 W4 => ?_)
  have f_F_a_overlaps := f_F_a_overlaps.same W4
  have f_E_a := f_E_a.wr W4
  have f_F_a_requests := f_F_a_requests.other W4 (Or.inr (slot_ne (Or.inr (wd_46 hw)) (Or.inr (wd_50 hw)) (by decide) (t := .int) (t' := .int) (by decide) (by decide)))
  have f_F_a_entries := f_F_a_entries.other W4 (Or.inr (slot_ne (Or.inr (wd_48 hw)) (Or.inr (wd_50 hw)) (by decide) (t := .int) (t' := .int) (by decide) (by decide)))
  have f_F_a_maxConcurrent := f_F_a_maxConcurrent.other W4 (Or.inr (slot_ne (Or.inr (wd_52 hw)) (Or.inr (wd_50 hw)) (by decide) (t := .int) (t' := .int) (by decide) (by decide)))
  have f_F_a_messages := f_F_a_messages.other W4 (Or.inr (slot_ne (Or.inr (wd_54 hw)) (Or.inr (wd_50 hw)) (by decide) (t := .long) (t' := .int) (by decide) (by decide)))
  have f_F_a_delayMin := f_F_a_delayMin.other W4 (Or.inr (slot_ne (Or.inr (wd_56 hw)) (Or.inr (wd_50 hw)) (by decide) (t := .long) (t' := .int) (by decide) (by decide)))
  have f_F_a_delayMax := f_F_a_delayMax.other W4 (Or.inr (slot_ne (Or.inr (wd_58 hw)) (Or.inr (wd_50 hw)) (by decide) (t := .long) (t' := .int) (by decide) (by decide)))
  have f_F_a_endTime := f_F_a_endTime.other W4 (Or.inr (slot_ne (Or.inr (wd_60 hw)) (Or.inr (wd_50 hw)) (by decide) (t := .long) (t' := .int) (by decide) (by decide)))
  have f_F_a_roleError := f_F_a_roleError.other W4 (Or.inr (slot_ne (Or.inr (wd_62 hw)) (Or.inr (wd_50 hw)) (by decide) (t := (.object "java/util/Optional")) (t' := .int) (by decide) (by decide)))
  have Zn := Nat.le_trans Zn (Keep.of_wr W4).1
  have Kp := Kp.wr W4 (Or.inl (List.mem_of_getElem? (i := 0) rfl))
  have N4 := Fr.snoc X4 N3 ge_a
  refine own_aloadN X4 hx hby d7_19 (pc' := 20) rfl rfl rfl ?_
  refine own_iload X4 hx hby d7_20 (pc' := 22) rfl rfl ?_
  refine own_putF X4 hx hZ hby hown (host := "") (Or.inl (wd_51 hw)) Via.refl e4 f_F_a_maxConcurrent f_E_a (Or.inr ⟨(wd_52 hw), rfl, hnm⟩) (wd_39 hw) (ty := .int) (by decide) rfl rfl d7_22 (pc' := 25) rfl (fun T5 h5 X5 e5 W5 => ?_)
  have f_F_a_maxConcurrent := f_F_a_maxConcurrent.same W5
  have f_E_a := f_E_a.wr W5
  have f_F_a_requests := f_F_a_requests.other W5 (Or.inr (slot_ne (Or.inr (wd_46 hw)) (Or.inr (wd_52 hw)) (by decide) (t := .int) (t' := .int) (by decide) (by decide)))
  have f_F_a_entries := f_F_a_entries.other W5 (Or.inr (slot_ne (Or.inr (wd_48 hw)) (Or.inr (wd_52 hw)) (by decide) (t := .int) (t' := .int) (by decide) (by decide)))
  have f_F_a_overlaps := f_F_a_overlaps.other W5 (Or.inr (slot_ne (Or.inr (wd_50 hw)) (Or.inr (wd_52 hw)) (by decide) (t := .int) (t' := .int) (by decide) (by decide)))
  have f_F_a_messages := f_F_a_messages.other W5 (Or.inr (slot_ne (Or.inr (wd_54 hw)) (Or.inr (wd_52 hw)) (by decide) (t := .long) (t' := .int) (by decide) (by decide)))
  have f_F_a_delayMin := f_F_a_delayMin.other W5 (Or.inr (slot_ne (Or.inr (wd_56 hw)) (Or.inr (wd_52 hw)) (by decide) (t := .long) (t' := .int) (by decide) (by decide)))
  have f_F_a_delayMax := f_F_a_delayMax.other W5 (Or.inr (slot_ne (Or.inr (wd_58 hw)) (Or.inr (wd_52 hw)) (by decide) (t := .long) (t' := .int) (by decide) (by decide)))
  have f_F_a_endTime := f_F_a_endTime.other W5 (Or.inr (slot_ne (Or.inr (wd_60 hw)) (Or.inr (wd_52 hw)) (by decide) (t := .long) (t' := .int) (by decide) (by decide)))
  have f_F_a_roleError := f_F_a_roleError.other W5 (Or.inr (slot_ne (Or.inr (wd_62 hw)) (Or.inr (wd_52 hw)) (by decide) (t := (.object "java/util/Optional")) (t' := .int) (by decide) (by decide)))
  have Zn := Nat.le_trans Zn (Keep.of_wr W5).1
  have Kp := Kp.wr W5 (Or.inl (List.mem_of_getElem? (i := 0) rfl))
  have N5 := Fr.snoc X5 N4 ge_a
  refine own_aloadN X5 hx hby d7_25 (pc' := 26) rfl rfl rfl ?_
  refine own_lload X5 hx hby d7_26 (pc' := 28) rfl rfl ?_
  refine own_putF X5 hx hZ hby hown (host := "") (Or.inl (wd_53 hw)) Via.refl e5 f_F_a_messages f_E_a (Or.inr ⟨(wd_54 hw), rfl, hnm⟩) (wd_39 hw) (ty := .long) (by decide) rfl rfl d7_28 (pc' := 31) rfl (fun T6 h6 X6 e6 W6 => ?_)
  have f_F_a_messages := f_F_a_messages.same W6
  have f_E_a := f_E_a.wr W6
  have f_F_a_requests := f_F_a_requests.other W6 (Or.inr (slot_ne (Or.inr (wd_46 hw)) (Or.inr (wd_54 hw)) (by decide) (t := .int) (t' := .long) (by decide) (by decide)))
  have f_F_a_entries := f_F_a_entries.other W6 (Or.inr (slot_ne (Or.inr (wd_48 hw)) (Or.inr (wd_54 hw)) (by decide) (t := .int) (t' := .long) (by decide) (by decide)))
  have f_F_a_overlaps := f_F_a_overlaps.other W6 (Or.inr (slot_ne (Or.inr (wd_50 hw)) (Or.inr (wd_54 hw)) (by decide) (t := .int) (t' := .long) (by decide) (by decide)))
  have f_F_a_maxConcurrent := f_F_a_maxConcurrent.other W6 (Or.inr (slot_ne (Or.inr (wd_52 hw)) (Or.inr (wd_54 hw)) (by decide) (t := .int) (t' := .long) (by decide) (by decide)))
  have f_F_a_delayMin := f_F_a_delayMin.other W6 (Or.inr (slot_ne (Or.inr (wd_56 hw)) (Or.inr (wd_54 hw)) (by decide) (t := .long) (t' := .long) (by decide) (by decide)))
  have f_F_a_delayMax := f_F_a_delayMax.other W6 (Or.inr (slot_ne (Or.inr (wd_58 hw)) (Or.inr (wd_54 hw)) (by decide) (t := .long) (t' := .long) (by decide) (by decide)))
  have f_F_a_endTime := f_F_a_endTime.other W6 (Or.inr (slot_ne (Or.inr (wd_60 hw)) (Or.inr (wd_54 hw)) (by decide) (t := .long) (t' := .long) (by decide) (by decide)))
  have f_F_a_roleError := f_F_a_roleError.other W6 (Or.inr (slot_ne (Or.inr (wd_62 hw)) (Or.inr (wd_54 hw)) (by decide) (t := (.object "java/util/Optional")) (t' := .long) (by decide) (by decide)))
  have Zn := Nat.le_trans Zn (Keep.of_wr W6).1
  have Kp := Kp.wr W6 (Or.inl (List.mem_of_getElem? (i := 0) rfl))
  have N6 := Fr.snoc X6 N5 ge_a
  refine own_aloadN X6 hx hby d7_31 (pc' := 32) rfl rfl rfl ?_
  refine own_lload X6 hx hby d7_32 (pc' := 34) rfl rfl ?_
  refine own_putF X6 hx hZ hby hown (host := "") (Or.inl (wd_55 hw)) Via.refl e6 f_F_a_delayMin f_E_a (Or.inr ⟨(wd_56 hw), rfl, hnm⟩) (wd_39 hw) (ty := .long) (by decide) rfl rfl d7_34 (pc' := 37) rfl (fun T7 h7 X7 e7 W7 => ?_)
  have f_F_a_delayMin := f_F_a_delayMin.same W7
  have f_E_a := f_E_a.wr W7
  have f_F_a_requests := f_F_a_requests.other W7 (Or.inr (slot_ne (Or.inr (wd_46 hw)) (Or.inr (wd_56 hw)) (by decide) (t := .int) (t' := .long) (by decide) (by decide)))
  have f_F_a_entries := f_F_a_entries.other W7 (Or.inr (slot_ne (Or.inr (wd_48 hw)) (Or.inr (wd_56 hw)) (by decide) (t := .int) (t' := .long) (by decide) (by decide)))
  have f_F_a_overlaps := f_F_a_overlaps.other W7 (Or.inr (slot_ne (Or.inr (wd_50 hw)) (Or.inr (wd_56 hw)) (by decide) (t := .int) (t' := .long) (by decide) (by decide)))
  have f_F_a_maxConcurrent := f_F_a_maxConcurrent.other W7 (Or.inr (slot_ne (Or.inr (wd_52 hw)) (Or.inr (wd_56 hw)) (by decide) (t := .int) (t' := .long) (by decide) (by decide)))
  have f_F_a_messages := f_F_a_messages.other W7 (Or.inr (slot_ne (Or.inr (wd_54 hw)) (Or.inr (wd_56 hw)) (by decide) (t := .long) (t' := .long) (by decide) (by decide)))
  have f_F_a_delayMax := f_F_a_delayMax.other W7 (Or.inr (slot_ne (Or.inr (wd_58 hw)) (Or.inr (wd_56 hw)) (by decide) (t := .long) (t' := .long) (by decide) (by decide)))
  have f_F_a_endTime := f_F_a_endTime.other W7 (Or.inr (slot_ne (Or.inr (wd_60 hw)) (Or.inr (wd_56 hw)) (by decide) (t := .long) (t' := .long) (by decide) (by decide)))
  have f_F_a_roleError := f_F_a_roleError.other W7 (Or.inr (slot_ne (Or.inr (wd_62 hw)) (Or.inr (wd_56 hw)) (by decide) (t := (.object "java/util/Optional")) (t' := .long) (by decide) (by decide)))
  have Zn := Nat.le_trans Zn (Keep.of_wr W7).1
  have Kp := Kp.wr W7 (Or.inl (List.mem_of_getElem? (i := 0) rfl))
  have N7 := Fr.snoc X7 N6 ge_a
  refine own_aloadN X7 hx hby d7_37 (pc' := 38) rfl rfl rfl ?_
  refine own_lload X7 hx hby d7_38 (pc' := 40) rfl rfl ?_
  refine own_putF X7 hx hZ hby hown (host := "") (Or.inl (wd_57 hw)) Via.refl e7 f_F_a_delayMax f_E_a (Or.inr ⟨(wd_58 hw), rfl, hnm⟩) (wd_39 hw) (ty := .long) (by decide) rfl rfl d7_40 (pc' := 43) rfl (fun T8 h8 X8 e8 W8 => ?_)
  have f_F_a_delayMax := f_F_a_delayMax.same W8
  have f_E_a := f_E_a.wr W8
  have f_F_a_requests := f_F_a_requests.other W8 (Or.inr (slot_ne (Or.inr (wd_46 hw)) (Or.inr (wd_58 hw)) (by decide) (t := .int) (t' := .long) (by decide) (by decide)))
  have f_F_a_entries := f_F_a_entries.other W8 (Or.inr (slot_ne (Or.inr (wd_48 hw)) (Or.inr (wd_58 hw)) (by decide) (t := .int) (t' := .long) (by decide) (by decide)))
  have f_F_a_overlaps := f_F_a_overlaps.other W8 (Or.inr (slot_ne (Or.inr (wd_50 hw)) (Or.inr (wd_58 hw)) (by decide) (t := .int) (t' := .long) (by decide) (by decide)))
  have f_F_a_maxConcurrent := f_F_a_maxConcurrent.other W8 (Or.inr (slot_ne (Or.inr (wd_52 hw)) (Or.inr (wd_58 hw)) (by decide) (t := .int) (t' := .long) (by decide) (by decide)))
  have f_F_a_messages := f_F_a_messages.other W8 (Or.inr (slot_ne (Or.inr (wd_54 hw)) (Or.inr (wd_58 hw)) (by decide) (t := .long) (t' := .long) (by decide) (by decide)))
  have f_F_a_delayMin := f_F_a_delayMin.other W8 (Or.inr (slot_ne (Or.inr (wd_56 hw)) (Or.inr (wd_58 hw)) (by decide) (t := .long) (t' := .long) (by decide) (by decide)))
  have f_F_a_endTime := f_F_a_endTime.other W8 (Or.inr (slot_ne (Or.inr (wd_60 hw)) (Or.inr (wd_58 hw)) (by decide) (t := .long) (t' := .long) (by decide) (by decide)))
  have f_F_a_roleError := f_F_a_roleError.other W8 (Or.inr (slot_ne (Or.inr (wd_62 hw)) (Or.inr (wd_58 hw)) (by decide) (t := (.object "java/util/Optional")) (t' := .long) (by decide) (by decide)))
  have Zn := Nat.le_trans Zn (Keep.of_wr W8).1
  have Kp := Kp.wr W8 (Or.inl (List.mem_of_getElem? (i := 0) rfl))
  have N8 := Fr.snoc X8 N7 ge_a
  refine own_aloadN X8 hx hby d7_43 (pc' := 44) rfl rfl rfl ?_
  refine own_lload X8 hx hby d7_44 (pc' := 46) rfl rfl ?_
  refine own_putF X8 hx hZ hby hown (host := "") (Or.inl (wd_59 hw)) Via.refl e8 f_F_a_endTime f_E_a (Or.inr ⟨(wd_60 hw), rfl, hnm⟩) (wd_39 hw) (ty := .long) (by decide) rfl rfl d7_46 (pc' := 49) rfl (fun T9 h9 X9 e9 W9 => ?_)
  have f_F_a_endTime := f_F_a_endTime.same W9
  have f_E_a := f_E_a.wr W9
  have f_F_a_requests := f_F_a_requests.other W9 (Or.inr (slot_ne (Or.inr (wd_46 hw)) (Or.inr (wd_60 hw)) (by decide) (t := .int) (t' := .long) (by decide) (by decide)))
  have f_F_a_entries := f_F_a_entries.other W9 (Or.inr (slot_ne (Or.inr (wd_48 hw)) (Or.inr (wd_60 hw)) (by decide) (t := .int) (t' := .long) (by decide) (by decide)))
  have f_F_a_overlaps := f_F_a_overlaps.other W9 (Or.inr (slot_ne (Or.inr (wd_50 hw)) (Or.inr (wd_60 hw)) (by decide) (t := .int) (t' := .long) (by decide) (by decide)))
  have f_F_a_maxConcurrent := f_F_a_maxConcurrent.other W9 (Or.inr (slot_ne (Or.inr (wd_52 hw)) (Or.inr (wd_60 hw)) (by decide) (t := .int) (t' := .long) (by decide) (by decide)))
  have f_F_a_messages := f_F_a_messages.other W9 (Or.inr (slot_ne (Or.inr (wd_54 hw)) (Or.inr (wd_60 hw)) (by decide) (t := .long) (t' := .long) (by decide) (by decide)))
  have f_F_a_delayMin := f_F_a_delayMin.other W9 (Or.inr (slot_ne (Or.inr (wd_56 hw)) (Or.inr (wd_60 hw)) (by decide) (t := .long) (t' := .long) (by decide) (by decide)))
  have f_F_a_delayMax := f_F_a_delayMax.other W9 (Or.inr (slot_ne (Or.inr (wd_58 hw)) (Or.inr (wd_60 hw)) (by decide) (t := .long) (t' := .long) (by decide) (by decide)))
  have f_F_a_roleError := f_F_a_roleError.other W9 (Or.inr (slot_ne (Or.inr (wd_62 hw)) (Or.inr (wd_60 hw)) (by decide) (t := (.object "java/util/Optional")) (t' := .long) (by decide) (by decide)))
  have Zn := Nat.le_trans Zn (Keep.of_wr W9).1
  have Kp := Kp.wr W9 (Or.inl (List.mem_of_getElem? (i := 0) rfl))
  have N9 := Fr.snoc X9 N8 ge_a
  refine own_aloadN X9 hx hby d7_49 (pc' := 50) rfl rfl rfl ?_
  refine own_aload X9 hx hby d7_50 (pc' := 52) rfl rfl rfl ?_
  refine own_putF X9 hx hZ hby hown (host := "") (Or.inl (wd_61 hw)) Via.refl e9 f_F_a_roleError f_E_a (Or.inr ⟨(wd_62 hw), rfl, hnm⟩) (wd_39 hw) (ty := (.object "java/util/Optional")) (by decide) rfl rfl d7_52 (pc' := 55) rfl (fun T10 h10 X10 e10 W10 => ?_)
  have f_F_a_roleError := f_F_a_roleError.same W10
  have f_E_a := f_E_a.wr W10
  have f_F_a_requests := f_F_a_requests.other W10 (Or.inr (slot_ne (Or.inr (wd_46 hw)) (Or.inr (wd_62 hw)) (by decide) (t := .int) (t' := (.object "java/util/Optional")) (by decide) (by decide)))
  have f_F_a_entries := f_F_a_entries.other W10 (Or.inr (slot_ne (Or.inr (wd_48 hw)) (Or.inr (wd_62 hw)) (by decide) (t := .int) (t' := (.object "java/util/Optional")) (by decide) (by decide)))
  have f_F_a_overlaps := f_F_a_overlaps.other W10 (Or.inr (slot_ne (Or.inr (wd_50 hw)) (Or.inr (wd_62 hw)) (by decide) (t := .int) (t' := (.object "java/util/Optional")) (by decide) (by decide)))
  have f_F_a_maxConcurrent := f_F_a_maxConcurrent.other W10 (Or.inr (slot_ne (Or.inr (wd_52 hw)) (Or.inr (wd_62 hw)) (by decide) (t := .int) (t' := (.object "java/util/Optional")) (by decide) (by decide)))
  have f_F_a_messages := f_F_a_messages.other W10 (Or.inr (slot_ne (Or.inr (wd_54 hw)) (Or.inr (wd_62 hw)) (by decide) (t := .long) (t' := (.object "java/util/Optional")) (by decide) (by decide)))
  have f_F_a_delayMin := f_F_a_delayMin.other W10 (Or.inr (slot_ne (Or.inr (wd_56 hw)) (Or.inr (wd_62 hw)) (by decide) (t := .long) (t' := (.object "java/util/Optional")) (by decide) (by decide)))
  have f_F_a_delayMax := f_F_a_delayMax.other W10 (Or.inr (slot_ne (Or.inr (wd_58 hw)) (Or.inr (wd_62 hw)) (by decide) (t := .long) (t' := (.object "java/util/Optional")) (by decide) (by decide)))
  have f_F_a_endTime := f_F_a_endTime.other W10 (Or.inr (slot_ne (Or.inr (wd_60 hw)) (Or.inr (wd_62 hw)) (by decide) (t := .long) (t' := (.object "java/util/Optional")) (by decide) (by decide)))
  have Zn := Nat.le_trans Zn (Keep.of_wr W10).1
  have Kp := Kp.wr W10 (Or.inl (List.mem_of_getElem? (i := 0) rfl))
  have N10 := Fr.snoc X10 N9 ge_a
  refine own_return X10 hx hlk hby hret d7_55 (own_lv ?_ (by decide) (by decide))
  show Q7 Z a p1 p2 p3 p4 p5 p6 p7 p8 p9  h0 n0 none T10.heap _
  rw [e10]
  exact ⟨rfl, N10, Kp, ⟨f_E_a, f_F_a_requests, f_F_a_entries, f_F_a_overlaps, f_F_a_maxConcurrent, f_F_a_messages, f_F_a_delayMin, f_F_a_delayMax, f_F_a_endTime, f_F_a_roleError⟩⟩
theorem own_ef_rm10 (m : MethodId)   : entryFrame m #[] 1 = mkF m 0 #[.unset] [] := by first | (simp [entryFrame, mkF, argsToLocals, Value.category]; done) | rfl
def Q10 (Z : State) (ep : Addr) (h0 : Heap) (n0 : Nat) (v : Option Value) (h : Heap) (L : List Loc) : Prop := v = some (.ref ep) ∧ Fr n0 L ∧ h = h0
set_option maxRecDepth 65536 in
set_option maxHeartbeats 40000000 in
theorem rm10 (l : Launch) (Z : State) (a0 : Array Value) (hw : ∀ d ∈ tables_1, d.before a0 Z = true) (ws : List Jvm.Cond) (ep : Addr) (h0 : Heap) (n0 : Nat) (Z0 : n0 ≤ h0.size) (f_S_java_util_Optional_EMPTY : Sta Z h0 "java/util/Optional" "EMPTY" "Ljava/util/Optional;" (.ref ep)) :
    MetFree l (⟨"java/util/Optional", "empty", "()Ljava/util/Optional;"⟩ : MethodName) (head1 (Jvm.Cond.code (⟨"java/util/Optional", "empty", "()Ljava/util/Optional;"⟩ : MethodName) jdk_32_method_1_code 1 (some (.object "java/util/Optional")) :: ws) ({ frames := 0, cells := 0, slots := 0, locals := 0 } : Room)) (fun aa U => aa = #[] ∧ Z.Warmed39 U.vm ∧ U.heap = h0) (fun _ _ _ _ _ => True) (fun _ U oc U' => ∃ v L, oc = .returned v ∧ Q10 Z ep h0 n0 v U'.heap L ∧ FrameEnd U oc U' L ({ frames := 0, cells := 0, slots := 0, locals := 0 } : Room).cells ({ frames := 0, cells := 0, slots := 0, locals := 0 } : Room).slots) := by
  refine MetFree.of_bodySF (plainFor_of_name own_pn4) hisR ?_
  intro p e s m args below meth c s₁ Bd hml0 hP hK
  obtain ⟨rfl, hZ, hh⟩ := hP
  have hx := Bd.exec
  have hby := Bd.bytes
  have hlk := Bd.notSynchronized
  have hret := Bd.returns
  have hml : c.maxLocals = 1 := hml0
  have hown : s.vm.findClass "java/util/Optional" = some m.cls := findClass_of_methodNamed Bd.named
  have hnm := (name_of_methodNamed Bd.named Bd.method).1
  have X0 : Stand p l e ({ frames := 0, cells := 0, slots := 0, locals := 0 } : Room) s m #[] below meth c s₁ [] 0 0 := Stand.of_body Bd
  have e0 : s₁.heap = h0 := by rw [← hh, Bd.state]; rfl
  have N0 := Fr.nil n0
  refine own_body (Q := Q10 Z ep h0 n0) (KC := ({ frames := 0, cells := 0, slots := 0, locals := 0 } : Room).cells) (KS := ({ frames := 0, cells := 0, slots := 0, locals := 0 } : Room).slots) ?_
  rw [own_ef_rm10 m]
  refine own_getS X0 hx hZ hby hown (host := "") (Or.inl (wd_76 hw)) Via.refl e0 f_S_java_util_Optional_EMPTY d10_0 (pc' := 3) rfl (fun T1 X1 e1 => ?_)
  refine own_astoreN X1 hx hby d10_3 (pc' := 4) rfl rfl (l' := #[.val (.ref ep)]) rfl ?_
  refine own_aloadN X1 hx hby d10_4 (pc' := 5) rfl rfl rfl ?_
  refine own_areturn X1 hx hlk hby hret rfl rfl d10_5 (own_lv ?_ (by decide) (by decide))
  show Q10 Z ep  h0 n0 (some (.ref ep)) T1.heap _
  rw [e1]
  exact ⟨rfl, N0, rfl⟩
theorem own_ef_rm9 (m : MethodId) (a : Addr)  : entryFrame m #[(.ref a)] 1 = mkF m 0 #[.val (.ref a)] [] := by first | (simp [entryFrame, mkF, argsToLocals, Value.category]; done) | rfl
def Q9 (Z : State) (a : Addr) (rq : Int32) (en : Int32) (ov : Int32) (x3 : Int32) (x4 : Int64) (x5 : Int64) (x6 : Int64) (x7 : Int64) (re : Addr) (h0 : Heap) (n0 : Nat) (v : Option Value) (h : Heap) (L : List Loc) : Prop := v = some (.int (rq - en)) ∧ Fr n0 L ∧ h = h0
set_option maxRecDepth 65536 in
set_option maxHeartbeats 40000000 in
theorem rm9 (l : Launch) (Z : State) (a0 : Array Value) (hw : ∀ d ∈ tables_1, d.before a0 Z = true) (ws : List Jvm.Cond) (a : Addr) (rq : Int32) (en : Int32) (ov : Int32) (x3 : Int32) (x4 : Int64) (x5 : Int64) (x6 : Int64) (x7 : Int64) (re : Addr) (h0 : Heap) (n0 : Nat) (Z0 : n0 ≤ h0.size) (f_O_a : own_SR Z h0 a rq en ov x3 x4 x5 x6 x7 (.ref re)) :
    MetFree l (⟨"com/example/inclusive_lock/inclusivelock/sim/SimulationReport", "unserved", "()I"⟩ : MethodName) (head1 (Jvm.Cond.code (⟨"com/example/inclusive_lock/inclusivelock/sim/SimulationReport", "unserved", "()I"⟩ : MethodName) prog_82_method_2_code 1 (some .int) :: ws) ({ frames := 0, cells := 0, slots := 0, locals := 0 } : Room)) (fun aa U => aa = #[(.ref a)] ∧ Z.Warmed39 U.vm ∧ U.heap = h0) (fun _ _ _ _ _ => True) (fun _ U oc U' => ∃ v L, oc = .returned v ∧ Q9 Z a rq en ov x3 x4 x5 x6 x7 re h0 n0 v U'.heap L ∧ FrameEnd U oc U' L ({ frames := 0, cells := 0, slots := 0, locals := 0 } : Room).cells ({ frames := 0, cells := 0, slots := 0, locals := 0 } : Room).slots) := by
  refine MetFree.of_bodySF (plainFor_of_name own_pn7) hisR ?_
  intro p e s m args below meth c s₁ Bd hml0 hP hK
  obtain ⟨rfl, hZ, hh⟩ := hP
  have hx := Bd.exec
  have hby := Bd.bytes
  have hlk := Bd.notSynchronized
  have hret := Bd.returns
  have hml : c.maxLocals = 1 := hml0
  have hown : s.vm.findClass "com/example/inclusive_lock/inclusivelock/sim/SimulationReport" = some m.cls := findClass_of_methodNamed Bd.named
  have hnm := (name_of_methodNamed Bd.named Bd.method).1
  have X0 : Stand p l e ({ frames := 0, cells := 0, slots := 0, locals := 0 } : Room) s m #[(.ref a)] below meth c s₁ [] 0 0 := Stand.of_body Bd
  have e0 : s₁.heap = h0 := by rw [← hh, Bd.state]; rfl
  have N0 := Fr.nil n0
  refine own_body (Q := Q9 Z a rq en ov x3 x4 x5 x6 x7 re h0 n0) (KC := ({ frames := 0, cells := 0, slots := 0, locals := 0 } : Room).cells) (KS := ({ frames := 0, cells := 0, slots := 0, locals := 0 } : Room).slots) ?_
  rw [own_ef_rm9 m a]
  refine own_aloadN X0 hx hby d9_0 (pc' := 1) rfl rfl rfl ?_
  obtain ⟨f_E_a, f_F_a_requests, f_F_a_entries, f_F_a_overlaps, f_F_a_maxConcurrent, f_F_a_messages, f_F_a_delayMin, f_F_a_delayMax, f_F_a_endTime, f_F_a_roleError⟩ := f_O_a
  refine own_getF X0 hx hZ hby hown (host := "") (Or.inl (wd_45 hw)) Via.refl e0 f_F_a_requests d9_1 (pc' := 4) rfl (fun T1 X1 e1 => ?_)
  refine own_aloadN X1 hx hby d9_4 (pc' := 5) rfl rfl rfl ?_
  refine own_getF X1 hx hZ hby hown (host := "") (Or.inl (wd_47 hw)) Via.refl e1 f_F_a_entries d9_5 (pc' := 8) rfl (fun T2 X2 e2 => ?_)
  refine own_isub X2 hx hby d9_8 (pc' := 9) rfl ?_
  refine own_ireturn X2 hx hlk hby hret d9_9 (own_lv ?_ (by decide) (by decide))
  show Q9 Z a rq en ov x3 x4 x5 x6 x7 re  h0 n0 (some (.int (rq - en))) T2.heap _
  rw [e2]
  exact ⟨rfl, N0, rfl⟩
theorem own_ef_rm11a (m : MethodId) (a : Addr)  : entryFrame m #[(.ref a)] 1 = mkF m 0 #[.val (.ref a)] [] := by first | (simp [entryFrame, mkF, argsToLocals, Value.category]; done) | rfl
def Q11a (Z : State) (a : Addr) (o : Addr) (h0 : Heap) (n0 : Nat) (v : Option Value) (h : Heap) (L : List Loc) : Prop := v = some (.int 1) ∧ Fr n0 L ∧ h = h0
set_option maxRecDepth 65536 in
set_option maxHeartbeats 40000000 in
theorem rm11a (l : Launch) (Z : State) (a0 : Array Value) (hw : ∀ d ∈ tables_1, d.before a0 Z = true) (ws : List Jvm.Cond) (a : Addr) (o : Addr) (h0 : Heap) (n0 : Nat) (Z0 : n0 ≤ h0.size) (f_O_a : own_OP Z h0 a (.ref o)) :
    MetFree l (⟨"java/util/Optional", "isPresent", "()Z"⟩ : MethodName) (head1 (Jvm.Cond.code (⟨"java/util/Optional", "isPresent", "()Z"⟩ : MethodName) jdk_32_method_6_code 1 (some .boolean) :: ws) ({ frames := 0, cells := 0, slots := 0, locals := 0 } : Room)) (fun aa U => aa = #[(.ref a)] ∧ Z.Warmed39 U.vm ∧ U.heap = h0) (fun _ _ _ _ _ => True) (fun _ U oc U' => ∃ v L, oc = .returned v ∧ Q11a Z a o h0 n0 v U'.heap L ∧ FrameEnd U oc U' L ({ frames := 0, cells := 0, slots := 0, locals := 0 } : Room).cells ({ frames := 0, cells := 0, slots := 0, locals := 0 } : Room).slots) := by
  refine MetFree.of_bodySF (plainFor_of_name own_pn4) hisR ?_
  intro p e s m args below meth c s₁ Bd hml0 hP hK
  obtain ⟨rfl, hZ, hh⟩ := hP
  have hx := Bd.exec
  have hby := Bd.bytes
  have hlk := Bd.notSynchronized
  have hret := Bd.returns
  have hml : c.maxLocals = 1 := hml0
  have hown : s.vm.findClass "java/util/Optional" = some m.cls := findClass_of_methodNamed Bd.named
  have hnm := (name_of_methodNamed Bd.named Bd.method).1
  have X0 : Stand p l e ({ frames := 0, cells := 0, slots := 0, locals := 0 } : Room) s m #[(.ref a)] below meth c s₁ [] 0 0 := Stand.of_body Bd
  have e0 : s₁.heap = h0 := by rw [← hh, Bd.state]; rfl
  have N0 := Fr.nil n0
  refine own_body (Q := Q11a Z a o h0 n0) (KC := ({ frames := 0, cells := 0, slots := 0, locals := 0 } : Room).cells) (KS := ({ frames := 0, cells := 0, slots := 0, locals := 0 } : Room).slots) ?_
  rw [own_ef_rm11a m a]
  refine own_aloadN X0 hx hby d11_0 (pc' := 1) rfl rfl rfl ?_
  obtain ⟨f_E_a, f_F_a_value⟩ := f_O_a
  refine own_getF X0 hx hZ hby hown (host := "") (Or.inl (wd_36 hw)) Via.refl e0 f_F_a_value d11_1 (pc' := 4) rfl (fun T1 X1 e1 => ?_)
  refine own_ifnullN X1 hx hby d11_4 (pc' := 7) rfl ?_
  refine own_iconst X1 hx hby d11_7 (pc' := 8) rfl (n := (1 : Int32)) (by decide) ?_
  refine own_goto X1 hx hby d11_8 (pc' := 12) (by decide) (by decide) ?_
  refine own_zreturn X1 hx hlk hby hret (Or.inr rfl) d11_12 (own_lv ?_ (by decide) (by decide))
  show Q11a Z a o  h0 n0 (some (.int (1 : Int32))) T1.heap _
  rw [e1]
  exact ⟨rfl, N0, rfl⟩
theorem own_ef_rm11b (m : MethodId) (a : Addr)  : entryFrame m #[(.ref a)] 1 = mkF m 0 #[.val (.ref a)] [] := by first | (simp [entryFrame, mkF, argsToLocals, Value.category]; done) | rfl
def Q11b (Z : State) (a : Addr) (h0 : Heap) (n0 : Nat) (v : Option Value) (h : Heap) (L : List Loc) : Prop := v = some (.int 0) ∧ Fr n0 L ∧ h = h0
set_option maxRecDepth 65536 in
set_option maxHeartbeats 40000000 in
theorem rm11b (l : Launch) (Z : State) (a0 : Array Value) (hw : ∀ d ∈ tables_1, d.before a0 Z = true) (ws : List Jvm.Cond) (a : Addr) (h0 : Heap) (n0 : Nat) (Z0 : n0 ≤ h0.size) (f_O_a : own_OP Z h0 a .null) :
    MetFree l (⟨"java/util/Optional", "isPresent", "()Z"⟩ : MethodName) (head1 (Jvm.Cond.code (⟨"java/util/Optional", "isPresent", "()Z"⟩ : MethodName) jdk_32_method_6_code 1 (some .boolean) :: ws) ({ frames := 0, cells := 0, slots := 0, locals := 0 } : Room)) (fun aa U => aa = #[(.ref a)] ∧ Z.Warmed39 U.vm ∧ U.heap = h0) (fun _ _ _ _ _ => True) (fun _ U oc U' => ∃ v L, oc = .returned v ∧ Q11b Z a h0 n0 v U'.heap L ∧ FrameEnd U oc U' L ({ frames := 0, cells := 0, slots := 0, locals := 0 } : Room).cells ({ frames := 0, cells := 0, slots := 0, locals := 0 } : Room).slots) := by
  refine MetFree.of_bodySF (plainFor_of_name own_pn4) hisR ?_
  intro p e s m args below meth c s₁ Bd hml0 hP hK
  obtain ⟨rfl, hZ, hh⟩ := hP
  have hx := Bd.exec
  have hby := Bd.bytes
  have hlk := Bd.notSynchronized
  have hret := Bd.returns
  have hml : c.maxLocals = 1 := hml0
  have hown : s.vm.findClass "java/util/Optional" = some m.cls := findClass_of_methodNamed Bd.named
  have hnm := (name_of_methodNamed Bd.named Bd.method).1
  have X0 : Stand p l e ({ frames := 0, cells := 0, slots := 0, locals := 0 } : Room) s m #[(.ref a)] below meth c s₁ [] 0 0 := Stand.of_body Bd
  have e0 : s₁.heap = h0 := by rw [← hh, Bd.state]; rfl
  have N0 := Fr.nil n0
  refine own_body (Q := Q11b Z a h0 n0) (KC := ({ frames := 0, cells := 0, slots := 0, locals := 0 } : Room).cells) (KS := ({ frames := 0, cells := 0, slots := 0, locals := 0 } : Room).slots) ?_
  rw [own_ef_rm11b m a]
  refine own_aloadN X0 hx hby d11_0 (pc' := 1) rfl rfl rfl ?_
  obtain ⟨f_E_a, f_F_a_value⟩ := f_O_a
  refine own_getF X0 hx hZ hby hown (host := "") (Or.inl (wd_36 hw)) Via.refl e0 f_F_a_value d11_1 (pc' := 4) rfl (fun T1 X1 e1 => ?_)
  refine own_ifnullY X1 hx hby d11_4 (pc' := 11) (by decide) (by decide) ?_
  refine own_iconst X1 hx hby d11_11 (pc' := 12) rfl (n := (0 : Int32)) (by decide) ?_
  refine own_zreturn X1 hx hlk hby hret (Or.inl rfl) d11_12 (own_lv ?_ (by decide) (by decide))
  show Q11b Z a  h0 n0 (some (.int (0 : Int32))) T1.heap _
  rw [e1]
  exact ⟨rfl, N0, rfl⟩
theorem own_ef_rm8a (m : MethodId) (a : Addr)  : entryFrame m #[(.ref a)] 1 = mkF m 0 #[.val (.ref a)] [] := by first | (simp [entryFrame, mkF, argsToLocals, Value.category]; done) | rfl
def Q8a (Z : State) (a : Addr) (rq : Int32) (en : Int32) (ov : Int32) (x3 : Int32) (x4 : Int64) (x5 : Int64) (x6 : Int64) (x7 : Int64) (re : Addr) (o : Addr) (z : Int32) (h0 : Heap) (n0 : Nat) (v : Option Value) (h : Heap) (L : List Loc) : Prop := v = some (.int z) ∧ Fr n0 L ∧ h = h0
set_option maxRecDepth 65536 in
set_option maxHeartbeats 40000000 in
theorem rm8a (l : Launch) (Z : State) (a0 : Array Value) (hw : ∀ d ∈ tables_1, d.before a0 Z = true) (ws : List Jvm.Cond) (a : Addr) (rq : Int32) (en : Int32) (ov : Int32) (x3 : Int32) (x4 : Int64) (x5 : Int64) (x6 : Int64) (x7 : Int64) (re : Addr) (o : Addr) (z : Int32) (h0 : Heap) (n0 : Nat) (Z0 : n0 ≤ h0.size) (f_O_a : own_SR Z h0 a rq en ov x3 x4 x5 x6 x7 (.ref re)) (f_O_re : own_OP Z h0 re (.ref o)) (hz : own_fv ov (rq - en) 1 = z) :
    MetFree l (⟨"com/example/inclusive_lock/inclusivelock/sim/SimulationReport", "foundViolation", "()Z"⟩ : MethodName) (head1 (Jvm.Cond.code (⟨"com/example/inclusive_lock/inclusivelock/sim/SimulationReport", "foundViolation", "()Z"⟩ : MethodName) prog_82_method_3_code 1 (some .boolean) :: ws) ({ frames := 1, cells := 0, slots := 0, locals := 12 } : Room)) (fun aa U => aa = #[(.ref a)] ∧ Z.Warmed39 U.vm ∧ U.heap = h0) (fun _ _ _ _ _ => True) (fun _ U oc U' => ∃ v L, oc = .returned v ∧ Q8a Z a rq en ov x3 x4 x5 x6 x7 re o z h0 n0 v U'.heap L ∧ FrameEnd U oc U' L ({ frames := 1, cells := 0, slots := 0, locals := 12 } : Room).cells ({ frames := 1, cells := 0, slots := 0, locals := 12 } : Room).slots) := by
  refine MetFree.of_bodySF (plainFor_of_name own_pn7) hisR ?_
  intro p e s m args below meth c s₁ Bd hml0 hP hK
  obtain ⟨rfl, hZ, hh⟩ := hP
  have hx := Bd.exec
  have hby := Bd.bytes
  have hlk := Bd.notSynchronized
  have hret := Bd.returns
  have hml : c.maxLocals = 1 := hml0
  have hown : s.vm.findClass "com/example/inclusive_lock/inclusivelock/sim/SimulationReport" = some m.cls := findClass_of_methodNamed Bd.named
  have hnm := (name_of_methodNamed Bd.named Bd.method).1
  have X0 : Stand p l e ({ frames := 1, cells := 0, slots := 0, locals := 12 } : Room) s m #[(.ref a)] below meth c s₁ [] 0 0 := Stand.of_body Bd
  have e0 : s₁.heap = h0 := by rw [← hh, Bd.state]; rfl
  have N0 := Fr.nil n0
  refine own_body (Q := Q8a Z a rq en ov x3 x4 x5 x6 x7 re o z h0 n0) (KC := ({ frames := 1, cells := 0, slots := 0, locals := 12 } : Room).cells) (KS := ({ frames := 1, cells := 0, slots := 0, locals := 12 } : Room).slots) ?_
  rw [own_ef_rm8a m a]
  refine own_aloadN X0 hx hby d8_0 (pc' := 1) rfl rfl rfl ?_
  obtain ⟨f_E_a, f_F_a_requests, f_F_a_entries, f_F_a_overlaps, f_F_a_maxConcurrent, f_F_a_messages, f_F_a_delayMin, f_F_a_delayMax, f_F_a_endTime, f_F_a_roleError⟩ := f_O_a
  refine own_getF X0 hx hZ hby hown (host := "") (Or.inl (wd_49 hw)) Via.refl e0 f_F_a_overlaps d8_1 (pc' := 4) rfl (fun T1 X1 e1 => ?_)
  refine own_if2 X1 hx hby d8_4 (pc1 := 24) (by decide) (by decide) (pc2 := 7) rfl (fun (hc4 : (0 : Int32) < ov) => ?_) (fun (hc4 : ¬ (0 : Int32) < ov) => ?_)
  · refine own_iconst X1 hx hby d8_24 (pc' := 25) rfl (n := (1 : Int32)) (by decide) ?_
    refine own_goto X1 hx hby d8_25 (pc' := 29) (by decide) (by decide) ?_
    refine own_zreturn X1 hx hlk hby hret (Or.inr rfl) d8_29 (own_lv ?_ (by decide) (by decide))
    show Q8a Z a rq en ov x3 x4 x5 x6 x7 re o z  h0 n0 (some (.int (1 : Int32))) T1.heap _
    rw [e1]
    exact ⟨by rw [← hz]; simp [own_fv, hc4], N0, rfl⟩
  · refine own_aloadN X1 hx hby d8_7 (pc' := 8) rfl rfl rfl ?_
    have f_O_a : own_SR Z h0 a rq en ov x3 x4 x5 x6 x7 (.ref re) := ⟨f_E_a, f_F_a_requests, f_F_a_entries, f_F_a_overlaps, f_F_a_maxConcurrent, f_F_a_messages, f_F_a_delayMin, f_F_a_delayMax, f_F_a_endTime, f_F_a_roleError⟩
    refine own_lk4 hw X1 hx hZ hby (by rw [hml]; rfl) hown d8_8 (pc' := 11) rfl e1 f_O_a.1 (W := 0) (Nat.le_of_eq rfl) (rm9 l Z a0 hw [] a rq en ov x3 x4 x5 x6 x7 re h0 n0 Z0 f_O_a) (by decide) (by decide) (by decide) (by decide) (fun v2 T2 L2 X2 hQ2 => ?_)
    obtain ⟨rfl, Nq2, e2⟩ := hQ2
    have N2 := Fr.app N0 Nq2
    show own_End p e below _ (T2.setTop (mkF m 11 _ [(.int (rq - en))]))
    refine own_if2 X2 hx hby d8_11 (pc1 := 24) (by decide) (by decide) (pc2 := 14) rfl (fun (hc11 : (0 : Int32) < (rq - en)) => ?_) (fun (hc11 : ¬ (0 : Int32) < (rq - en)) => ?_)
    · refine own_iconst X2 hx hby d8_24 (pc' := 25) rfl (n := (1 : Int32)) (by decide) ?_
      refine own_goto X2 hx hby d8_25 (pc' := 29) (by decide) (by decide) ?_
      refine own_zreturn X2 hx hlk hby hret (Or.inr rfl) d8_29 (own_lv ?_ (by decide) (by decide))
      show Q8a Z a rq en ov x3 x4 x5 x6 x7 re o z  h0 n0 (some (.int (1 : Int32))) T2.heap _
      rw [e2]
      exact ⟨by rw [← hz]; simp [own_fv, hc4, hc11], N2, rfl⟩
    · refine own_aloadN X2 hx hby d8_14 (pc' := 15) rfl rfl rfl ?_
      obtain ⟨f_E_a, f_F_a_requests, f_F_a_entries, f_F_a_overlaps, f_F_a_maxConcurrent, f_F_a_messages, f_F_a_delayMin, f_F_a_delayMax, f_F_a_endTime, f_F_a_roleError⟩ := f_O_a
      refine own_getF X2 hx hZ hby hown (host := "") (Or.inl (wd_61 hw)) Via.refl e2 f_F_a_roleError d8_15 (pc' := 18) rfl (fun T3 X3 e3 => ?_)
      refine own_lk5 hw X3 hx hZ hby (by rw [hml]; rfl) hown d8_18 (pc' := 21) rfl e3 f_O_re.1 (W := 0) (Nat.le_of_eq rfl) (rm11a l Z a0 hw [] re o h0 n0 Z0 f_O_re) (by decide) (by decide) (by decide) (by decide) (fun v4 T4 L4 X4 hQ4 => ?_)
      obtain ⟨rfl, Nq4, e4⟩ := hQ4
      have N4 := Fr.app N2 Nq4
      show own_End p e below _ (T4.setTop (mkF m 21 _ [(.int (1 : Int32))]))
      refine own_ifN X4 hx hby d8_21 (pc' := 24) rfl (show ¬ (1 : Int32) = (0 : Int32) by decide) ?_
      refine own_iconst X4 hx hby d8_24 (pc' := 25) rfl (n := (1 : Int32)) (by decide) ?_
      refine own_goto X4 hx hby d8_25 (pc' := 29) (by decide) (by decide) ?_
      refine own_zreturn X4 hx hlk hby hret (Or.inr rfl) d8_29 (own_lv ?_ (by decide) (by decide))
      show Q8a Z a rq en ov x3 x4 x5 x6 x7 re o z  h0 n0 (some (.int (1 : Int32))) T4.heap _
      rw [e4]
      exact ⟨by rw [← hz]; simp [own_fv, hc4, hc11], N4, rfl⟩
theorem own_ef_rm8b (m : MethodId) (a : Addr)  : entryFrame m #[(.ref a)] 1 = mkF m 0 #[.val (.ref a)] [] := by first | (simp [entryFrame, mkF, argsToLocals, Value.category]; done) | rfl
def Q8b (Z : State) (a : Addr) (rq : Int32) (en : Int32) (ov : Int32) (x3 : Int32) (x4 : Int64) (x5 : Int64) (x6 : Int64) (x7 : Int64) (re : Addr) (z : Int32) (h0 : Heap) (n0 : Nat) (v : Option Value) (h : Heap) (L : List Loc) : Prop := v = some (.int z) ∧ Fr n0 L ∧ h = h0
set_option maxRecDepth 65536 in
set_option maxHeartbeats 40000000 in
theorem rm8b (l : Launch) (Z : State) (a0 : Array Value) (hw : ∀ d ∈ tables_1, d.before a0 Z = true) (ws : List Jvm.Cond) (a : Addr) (rq : Int32) (en : Int32) (ov : Int32) (x3 : Int32) (x4 : Int64) (x5 : Int64) (x6 : Int64) (x7 : Int64) (re : Addr) (z : Int32) (h0 : Heap) (n0 : Nat) (Z0 : n0 ≤ h0.size) (f_O_a : own_SR Z h0 a rq en ov x3 x4 x5 x6 x7 (.ref re)) (f_O_re : own_OP Z h0 re .null) (hz : own_fv ov (rq - en) 0 = z) :
    MetFree l (⟨"com/example/inclusive_lock/inclusivelock/sim/SimulationReport", "foundViolation", "()Z"⟩ : MethodName) (head1 (Jvm.Cond.code (⟨"com/example/inclusive_lock/inclusivelock/sim/SimulationReport", "foundViolation", "()Z"⟩ : MethodName) prog_82_method_3_code 1 (some .boolean) :: ws) ({ frames := 1, cells := 0, slots := 0, locals := 12 } : Room)) (fun aa U => aa = #[(.ref a)] ∧ Z.Warmed39 U.vm ∧ U.heap = h0) (fun _ _ _ _ _ => True) (fun _ U oc U' => ∃ v L, oc = .returned v ∧ Q8b Z a rq en ov x3 x4 x5 x6 x7 re z h0 n0 v U'.heap L ∧ FrameEnd U oc U' L ({ frames := 1, cells := 0, slots := 0, locals := 12 } : Room).cells ({ frames := 1, cells := 0, slots := 0, locals := 12 } : Room).slots) := by
  refine MetFree.of_bodySF (plainFor_of_name own_pn7) hisR ?_
  intro p e s m args below meth c s₁ Bd hml0 hP hK
  obtain ⟨rfl, hZ, hh⟩ := hP
  have hx := Bd.exec
  have hby := Bd.bytes
  have hlk := Bd.notSynchronized
  have hret := Bd.returns
  have hml : c.maxLocals = 1 := hml0
  have hown : s.vm.findClass "com/example/inclusive_lock/inclusivelock/sim/SimulationReport" = some m.cls := findClass_of_methodNamed Bd.named
  have hnm := (name_of_methodNamed Bd.named Bd.method).1
  have X0 : Stand p l e ({ frames := 1, cells := 0, slots := 0, locals := 12 } : Room) s m #[(.ref a)] below meth c s₁ [] 0 0 := Stand.of_body Bd
  have e0 : s₁.heap = h0 := by rw [← hh, Bd.state]; rfl
  have N0 := Fr.nil n0
  refine own_body (Q := Q8b Z a rq en ov x3 x4 x5 x6 x7 re z h0 n0) (KC := ({ frames := 1, cells := 0, slots := 0, locals := 12 } : Room).cells) (KS := ({ frames := 1, cells := 0, slots := 0, locals := 12 } : Room).slots) ?_
  rw [own_ef_rm8b m a]
  refine own_aloadN X0 hx hby d8_0 (pc' := 1) rfl rfl rfl ?_
  obtain ⟨f_E_a, f_F_a_requests, f_F_a_entries, f_F_a_overlaps, f_F_a_maxConcurrent, f_F_a_messages, f_F_a_delayMin, f_F_a_delayMax, f_F_a_endTime, f_F_a_roleError⟩ := f_O_a
  refine own_getF X0 hx hZ hby hown (host := "") (Or.inl (wd_49 hw)) Via.refl e0 f_F_a_overlaps d8_1 (pc' := 4) rfl (fun T1 X1 e1 => ?_)
  refine own_if2 X1 hx hby d8_4 (pc1 := 24) (by decide) (by decide) (pc2 := 7) rfl (fun (hc4 : (0 : Int32) < ov) => ?_) (fun (hc4 : ¬ (0 : Int32) < ov) => ?_)
  · refine own_iconst X1 hx hby d8_24 (pc' := 25) rfl (n := (1 : Int32)) (by decide) ?_
    refine own_goto X1 hx hby d8_25 (pc' := 29) (by decide) (by decide) ?_
    refine own_zreturn X1 hx hlk hby hret (Or.inr rfl) d8_29 (own_lv ?_ (by decide) (by decide))
    show Q8b Z a rq en ov x3 x4 x5 x6 x7 re z  h0 n0 (some (.int (1 : Int32))) T1.heap _
    rw [e1]
    exact ⟨by rw [← hz]; simp [own_fv, hc4], N0, rfl⟩
  · refine own_aloadN X1 hx hby d8_7 (pc' := 8) rfl rfl rfl ?_
    have f_O_a : own_SR Z h0 a rq en ov x3 x4 x5 x6 x7 (.ref re) := ⟨f_E_a, f_F_a_requests, f_F_a_entries, f_F_a_overlaps, f_F_a_maxConcurrent, f_F_a_messages, f_F_a_delayMin, f_F_a_delayMax, f_F_a_endTime, f_F_a_roleError⟩
    refine own_lk4 hw X1 hx hZ hby (by rw [hml]; rfl) hown d8_8 (pc' := 11) rfl e1 f_O_a.1 (W := 0) (Nat.le_of_eq rfl) (rm9 l Z a0 hw [] a rq en ov x3 x4 x5 x6 x7 re h0 n0 Z0 f_O_a) (by decide) (by decide) (by decide) (by decide) (fun v2 T2 L2 X2 hQ2 => ?_)
    obtain ⟨rfl, Nq2, e2⟩ := hQ2
    have N2 := Fr.app N0 Nq2
    show own_End p e below _ (T2.setTop (mkF m 11 _ [(.int (rq - en))]))
    refine own_if2 X2 hx hby d8_11 (pc1 := 24) (by decide) (by decide) (pc2 := 14) rfl (fun (hc11 : (0 : Int32) < (rq - en)) => ?_) (fun (hc11 : ¬ (0 : Int32) < (rq - en)) => ?_)
    · refine own_iconst X2 hx hby d8_24 (pc' := 25) rfl (n := (1 : Int32)) (by decide) ?_
      refine own_goto X2 hx hby d8_25 (pc' := 29) (by decide) (by decide) ?_
      refine own_zreturn X2 hx hlk hby hret (Or.inr rfl) d8_29 (own_lv ?_ (by decide) (by decide))
      show Q8b Z a rq en ov x3 x4 x5 x6 x7 re z  h0 n0 (some (.int (1 : Int32))) T2.heap _
      rw [e2]
      exact ⟨by rw [← hz]; simp [own_fv, hc4, hc11], N2, rfl⟩
    · refine own_aloadN X2 hx hby d8_14 (pc' := 15) rfl rfl rfl ?_
      obtain ⟨f_E_a, f_F_a_requests, f_F_a_entries, f_F_a_overlaps, f_F_a_maxConcurrent, f_F_a_messages, f_F_a_delayMin, f_F_a_delayMax, f_F_a_endTime, f_F_a_roleError⟩ := f_O_a
      refine own_getF X2 hx hZ hby hown (host := "") (Or.inl (wd_61 hw)) Via.refl e2 f_F_a_roleError d8_15 (pc' := 18) rfl (fun T3 X3 e3 => ?_)
      refine own_lk5 hw X3 hx hZ hby (by rw [hml]; rfl) hown d8_18 (pc' := 21) rfl e3 f_O_re.1 (W := 0) (Nat.le_of_eq rfl) (rm11b l Z a0 hw [] re h0 n0 Z0 f_O_re) (by decide) (by decide) (by decide) (by decide) (fun v4 T4 L4 X4 hQ4 => ?_)
      obtain ⟨rfl, Nq4, e4⟩ := hQ4
      have N4 := Fr.app N2 Nq4
      show own_End p e below _ (T4.setTop (mkF m 21 _ [(.int (0 : Int32))]))
      refine own_ifY X4 hx hby d8_21 (pc' := 28) (by decide) (by decide) (show (0 : Int32) = (0 : Int32) by decide) ?_
      refine own_iconst X4 hx hby d8_28 (pc' := 29) rfl (n := (0 : Int32)) (by decide) ?_
      refine own_zreturn X4 hx hlk hby hret (Or.inl rfl) d8_29 (own_lv ?_ (by decide) (by decide))
      show Q8b Z a rq en ov x3 x4 x5 x6 x7 re z  h0 n0 (some (.int (0 : Int32))) T4.heap _
      rw [e4]
      exact ⟨by rw [← hz]; simp [own_fv, hc4, hc11], N4, rfl⟩
theorem own_ef_rm0 (m : MethodId) (p0 : Int32) (p1 : Int32) (p2 : Int32) (p3 : Int32) (p4 : Int64) (p5 : Int64)  : entryFrame m #[(.int p0), (.int p1), (.int p2), (.int p3), (.long p4), (.long p5)] maxLocals = mkF m 0 #[.val (.int p0), .val (.int p1), .val (.int p2), .val (.int p3), .val (.long p4), .second, .val (.long p5), .second, .unset, .unset, .unset, .unset, .unset, .unset, .unset] [] := by first | (simp [entryFrame, mkF, argsToLocals, Value.category, maxLocals]; done) | rfl
def Q0 (Z : State) (p0 : Int32) (p1 : Int32) (p2 : Int32) (p3 : Int32) (p4 : Int64) (p5 : Int64) (ep : Addr) (h0 : Heap) (n0 : Nat) (v : Option Value) (h : Heap) (L : List Loc) : Prop := v = some (.int 1) ∧ Fr n0 L
set_option maxRecDepth 65536 in
set_option maxHeartbeats 40000000 in
theorem rm0 (l : Launch) (Z : State) (a0 : Array Value) (hw : ∀ d ∈ tables_1, d.before a0 Z = true) (ws : List Jvm.Cond) (p0 : Int32) (p1 : Int32) (p2 : Int32) (p3 : Int32) (p4 : Int64) (p5 : Int64) (ep : Addr) (h0 : Heap) (n0 : Nat) (Z0 : n0 ≤ h0.size) (f_S_java_util_Optional_EMPTY : Sta Z h0 "java/util/Optional" "EMPTY" "Ljava/util/Optional;" (.ref ep)) (f_O_ep : own_OP Z h0 ep .null) :
    MetFree l x (head1 (Jvm.Cond.code x code maxLocals ret :: ws) room_1) (fun aa U => aa = #[(.int p0), (.int p1), (.int p2), (.int p3), (.long p4), (.long p5)] ∧ Z.Warmed39 U.vm ∧ U.heap = h0) (fun _ _ _ _ _ => True) (fun _ U oc U' => ∃ v L, oc = .returned v ∧ Q0 Z p0 p1 p2 p3 p4 p5 ep h0 n0 v U'.heap L ∧ FrameEnd U oc U' L room_1.cells room_1.slots) := by
  refine MetFree.of_bodySF (plainFor_of_name own_pn14) hisR ?_
  intro p e s m args below meth c s₁ Bd hml0 hP hK
  obtain ⟨rfl, hZ, hh⟩ := hP
  have hx := Bd.exec
  have hby := Bd.bytes
  have hlk := Bd.notSynchronized
  have hret := Bd.returns
  have hml : c.maxLocals = 15 := hml0
  have hown : s.vm.findClass "com/example/inclusive_lock/inclusivelock/sim/SimulationReportFoundViolationPinLaw" = some m.cls := findClass_of_methodNamed Bd.named
  have hnm := (name_of_methodNamed Bd.named Bd.method).1
  have X0 : Stand p l e room_1 s m #[(.int p0), (.int p1), (.int p2), (.int p3), (.long p4), (.long p5)] below meth c s₁ [] 0 0 := Stand.of_body Bd
  have e0 : s₁.heap = h0 := by rw [← hh, Bd.state]; rfl
  have N0 := Fr.nil n0
  refine own_body (Q := Q0 Z p0 p1 p2 p3 p4 p5 ep h0 n0) (KC := room_1.cells) (KS := room_1.slots) ?_
  rw [own_ef_rm0 m p0 p1 p2 p3 p4 p5]
  refine own_iloadN X0 hx hby at_0 (pc' := 1) rfl rfl ?_
  refine own_ldcInt X0 hx hZ hby hown (wd_0 hw) at_1 (pc' := 3) rfl ?_
  refine own_iand X0 hx hby at_3 (pc' := 4) rfl ?_
  refine own_istore X0 hx hby at_4 (pc' := 6) rfl (l' := #[.val (.int p0), .val (.int p1), .val (.int p2), .val (.int p3), .val (.long p4), .second, .val (.long p5), .second, .val (.int (p1 &&& (2147483647 : Int32))), .unset, .unset, .unset, .unset, .unset, .unset]) rfl ?_
  refine own_iloadN X0 hx hby at_6 (pc' := 7) rfl rfl ?_
  refine own_ldcInt X0 hx hZ hby hown (wd_0 hw) at_7 (pc' := 9) rfl ?_
  refine own_iand X0 hx hby at_9 (pc' := 10) rfl ?_
  refine own_istore X0 hx hby at_10 (pc' := 12) rfl (l' := #[.val (.int p0), .val (.int p1), .val (.int p2), .val (.int p3), .val (.long p4), .second, .val (.long p5), .second, .val (.int (p1 &&& (2147483647 : Int32))), .val (.int (p2 &&& (2147483647 : Int32))), .unset, .unset, .unset, .unset, .unset]) rfl ?_
  refine own_iloadN X0 hx hby at_12 (pc' := 13) rfl rfl ?_
  refine own_iconst X0 hx hby at_13 (pc' := 14) rfl (n := (1 : Int32)) (by decide) ?_
  refine own_iand X0 hx hby at_14 (pc' := 15) rfl ?_
  refine own_if2 X0 hx hby at_15 (pc1 := 22) (by decide) (by decide) (pc2 := 18) rfl (fun (hc15 : (p3 &&& (1 : Int32)) = (0 : Int32)) => ?_) (fun (hc15 : ¬ (p3 &&& (1 : Int32)) = (0 : Int32)) => ?_)
  · refine own_iconst X0 hx hby at_22 (pc' := 23) rfl (n := (0 : Int32)) (by decide) ?_
    refine own_istore X0 hx hby at_23 (pc' := 25) rfl (l' := #[.val (.int p0), .val (.int p1), .val (.int p2), .val (.int p3), .val (.long p4), .second, .val (.long p5), .second, .val (.int (p1 &&& (2147483647 : Int32))), .val (.int (p2 &&& (2147483647 : Int32))), .val (.int (0 : Int32)), .unset, .unset, .unset, .unset]) rfl ?_
    refine own_iloadN X0 hx hby at_25 (pc' := 26) rfl rfl ?_
    refine own_iconst X0 hx hby at_26 (pc' := 27) rfl (n := (1 : Int32)) (by decide) ?_
    refine own_ishr X0 hx hby at_27 (pc' := 28) rfl ?_
    refine own_istore X0 hx hby at_28 (pc' := 30) rfl (l' := #[.val (.int p0), .val (.int p1), .val (.int p2), .val (.int p3), .val (.long p4), .second, .val (.long p5), .second, .val (.int (p1 &&& (2147483647 : Int32))), .val (.int (p2 &&& (2147483647 : Int32))), .val (.int (0 : Int32)), .val (.int (p3 >>> ((1 : Int32) &&& 31))), .unset, .unset, .unset]) rfl ?_
    refine own_iload X0 hx hby at_30 (pc' := 32) rfl rfl ?_
    refine own_ifY X0 hx hby at_32 (pc' := 55) (by decide) (by decide) (show (0 : Int32) = (0 : Int32) by decide) ?_
    refine own_lk6 hw X0 hx hZ hby (by rw [hml]; rfl) hown at_55 (pc' := 58) rfl e0 (W := 0) (Nat.le_of_eq rfl) (rm10 l Z a0 hw [] ep h0 n0 Z0 f_S_java_util_Optional_EMPTY) (by decide) (by decide) (by decide) (by decide) (fun v1 T1 L1 X1 hQ1 => ?_)
    obtain ⟨rfl, Nq1, e1⟩ := hQ1
    have N1 := Fr.app N0 Nq1
    show own_End p e below _ (T1.setTop (mkF m 58 _ [(.ref ep)]))
    refine own_astore X1 hx hby at_58 (pc' := 60) rfl rfl (l' := #[.val (.int p0), .val (.int p1), .val (.int p2), .val (.int p3), .val (.long p4), .second, .val (.long p5), .second, .val (.int (p1 &&& (2147483647 : Int32))), .val (.int (p2 &&& (2147483647 : Int32))), .val (.int (0 : Int32)), .val (.int (p3 >>> ((1 : Int32) &&& 31))), .val (.ref ep), .unset, .unset]) rfl ?_
    refine own_new X1 hx hZ hby hown (wd_38 hw) (wd_39 hw) (wd_40 hw) e1 at_60 (pc' := 63) rfl (by decide) (by decide) (fun T2 h2 b2 g2 X2 e2 E2 A2 D2 => ?_)
    have ne_ep_b2 : ep ≠ b2 := Nat.ne_of_lt (by rw [g2]; exact f_O_ep.lt)
    have ge_b2 : n0 ≤ b2 := by rw [g2]; exact Z0
    have f_O_ep := f_O_ep.ext E2
    have Zn := Nat.le_trans Z0 E2.1
    have f_O_b2 : own_SR Z h2 b2 (0 : Int32) (0 : Int32) (0 : Int32) (0 : Int32) (0 : Int64) (0 : Int64) (0 : Int64) (0 : Int64) .null := ⟨A2, D2 (Or.inr (wd_46 hw)) (ty := .int) (by decide), D2 (Or.inr (wd_48 hw)) (ty := .int) (by decide), D2 (Or.inr (wd_50 hw)) (ty := .int) (by decide), D2 (Or.inr (wd_52 hw)) (ty := .int) (by decide), D2 (Or.inr (wd_54 hw)) (ty := .long) (by decide), D2 (Or.inr (wd_56 hw)) (ty := .long) (by decide), D2 (Or.inr (wd_58 hw)) (ty := .long) (by decide), D2 (Or.inr (wd_60 hw)) (ty := .long) (by decide), D2 (Or.inr (wd_62 hw)) (ty := (.object "java/util/Optional")) (by decide)⟩
    refine own_dup X2 hx hby at_63 (pc' := 64) rfl rfl ?_
    refine own_iload X2 hx hby at_64 (pc' := 66) rfl rfl ?_
    refine own_iload X2 hx hby at_66 (pc' := 68) rfl rfl ?_
    refine own_iloadN X2 hx hby at_68 (pc' := 69) rfl rfl ?_
    refine own_iload X2 hx hby at_69 (pc' := 71) rfl rfl ?_
    refine own_lload X2 hx hby at_71 (pc' := 73) rfl rfl ?_
    refine own_lload X2 hx hby at_73 (pc' := 75) rfl rfl ?_
    refine own_lload X2 hx hby at_75 (pc' := 77) rfl rfl ?_
    refine own_lload X2 hx hby at_77 (pc' := 79) rfl rfl ?_
    refine own_aload X2 hx hby at_79 (pc' := 81) rfl rfl rfl ?_
    refine own_lk7 hw X2 hx hZ hby (by rw [hml]; rfl) hown at_81 (pc' := 84) rfl e2 (W := 1) (Nat.le_of_eq rfl) (rm7 l Z a0 hw [] b2 (p1 &&& (2147483647 : Int32)) (p2 &&& (2147483647 : Int32)) p0 (p3 >>> ((1 : Int32) &&& 31)) p4 p5 p4 p5 ep h2 n0 Zn f_O_b2 ge_b2) (by decide) (by decide) (by decide) (by decide) (fun v3 T3 L3 X3 hQ3 => ?_)
    obtain ⟨rfl, Nq3, K3, O3⟩ := hQ3
    have N3 := Fr.app N1 Nq3
    have f_O_ep := f_O_ep.keep K3 (ninS ne_ep_b2 nin0)
    have Zn := Nat.le_trans Zn K3.1
    show own_End p e below _ (T3.setTop (mkF m 84 _ [(.ref b2)]))
    refine own_astore X3 hx hby at_84 (pc' := 86) rfl rfl (l' := #[.val (.int p0), .val (.int p1), .val (.int p2), .val (.int p3), .val (.long p4), .second, .val (.long p5), .second, .val (.int (p1 &&& (2147483647 : Int32))), .val (.int (p2 &&& (2147483647 : Int32))), .val (.int (0 : Int32)), .val (.int (p3 >>> ((1 : Int32) &&& 31))), .val (.ref ep), .val (.ref b2), .unset]) rfl ?_
    refine own_iconst X3 hx hby at_86 (pc' := 87) rfl (n := (0 : Int32)) (by decide) ?_
    refine own_istore X3 hx hby at_87 (pc' := 89) rfl (l' := #[.val (.int p0), .val (.int p1), .val (.int p2), .val (.int p3), .val (.long p4), .second, .val (.long p5), .second, .val (.int (p1 &&& (2147483647 : Int32))), .val (.int (p2 &&& (2147483647 : Int32))), .val (.int (0 : Int32)), .val (.int (p3 >>> ((1 : Int32) &&& 31))), .val (.ref ep), .val (.ref b2), .val (.int (0 : Int32))]) rfl ?_
    refine own_iloadN X3 hx hby at_89 (pc' := 90) rfl rfl ?_
    refine own_if2 X3 hx hby at_90 (pc1 := 96) (by decide) (by decide) (pc2 := 93) rfl (fun (hc90 : ¬ (0 : Int32) < p0) => ?_) (fun (hc90 : (0 : Int32) < p0) => ?_)
    · refine own_iload X3 hx hby at_96 (pc' := 98) rfl rfl ?_
      refine own_iload X3 hx hby at_98 (pc' := 100) rfl rfl ?_
      refine own_ic2 X3 hx hby at_100 (pc1 := 106) (by decide) (by decide) (pc2 := 103) rfl (fun (hc100 : ¬ (p2 &&& (2147483647 : Int32)) < (p1 &&& (2147483647 : Int32))) => ?_) (fun (hc100 : (p2 &&& (2147483647 : Int32)) < (p1 &&& (2147483647 : Int32))) => ?_)
      · refine own_iload X3 hx hby at_106 (pc' := 108) rfl rfl ?_
        refine own_ifY X3 hx hby at_108 (pc' := 114) (by decide) (by decide) (show (0 : Int32) = (0 : Int32) by decide) ?_
        refine own_aload X3 hx hby at_114 (pc' := 116) rfl rfl rfl ?_
        refine own_lk8 hw X3 hx hZ hby (by rw [hml]; rfl) hown at_116 (pc' := 119) rfl rfl O3.1 (W := 0) (Nat.le_of_eq rfl) (rm8b l Z a0 hw [] b2 (p1 &&& (2147483647 : Int32)) (p2 &&& (2147483647 : Int32)) p0 (p3 >>> ((1 : Int32) &&& 31)) p4 p5 p4 p5 ep (0 : Int32) T3.heap n0 Zn O3 f_O_ep (by simp [own_fv, own_us, hc90, hc100])) (by decide) (by decide) (by decide) (by decide) (fun v4 T4 L4 X4 hQ4 => ?_)
        obtain ⟨rfl, Nq4, e4⟩ := hQ4
        have N4 := Fr.app N3 Nq4
        show own_End p e below _ (T4.setTop (mkF m 119 _ [(.int (0 : Int32))]))
        refine own_iload X4 hx hby at_119 (pc' := 121) rfl rfl ?_
        refine own_icN X4 hx hby at_121 (pc' := 124) rfl (show (0 : Int32) = (0 : Int32) by decide) ?_
        refine own_iconst X4 hx hby at_124 (pc' := 125) rfl (n := (1 : Int32)) (by decide) ?_
        refine own_goto X4 hx hby at_125 (pc' := 129) (by decide) (by decide) ?_
        refine own_zreturn X4 hx hlk hby hret (Or.inr rfl) at_129 (own_lv ?_ (by decide) (by decide))
        show Q0 Z p0 p1 p2 p3 p4 p5 ep  h0 n0 (some (.int (1 : Int32))) T4.heap _
        rw [e4]
        exact ⟨rfl, N4⟩
      · refine own_iconst X3 hx hby at_103 (pc' := 104) rfl (n := (1 : Int32)) (by decide) ?_
        refine own_istore X3 hx hby at_104 (pc' := 106) rfl (l' := #[.val (.int p0), .val (.int p1), .val (.int p2), .val (.int p3), .val (.long p4), .second, .val (.long p5), .second, .val (.int (p1 &&& (2147483647 : Int32))), .val (.int (p2 &&& (2147483647 : Int32))), .val (.int (0 : Int32)), .val (.int (p3 >>> ((1 : Int32) &&& 31))), .val (.ref ep), .val (.ref b2), .val (.int (1 : Int32))]) rfl ?_
        refine own_iload X3 hx hby at_106 (pc' := 108) rfl rfl ?_
        refine own_ifY X3 hx hby at_108 (pc' := 114) (by decide) (by decide) (show (0 : Int32) = (0 : Int32) by decide) ?_
        refine own_aload X3 hx hby at_114 (pc' := 116) rfl rfl rfl ?_
        refine own_lk8 hw X3 hx hZ hby (by rw [hml]; rfl) hown at_116 (pc' := 119) rfl rfl O3.1 (W := 0) (Nat.le_of_eq rfl) (rm8b l Z a0 hw [] b2 (p1 &&& (2147483647 : Int32)) (p2 &&& (2147483647 : Int32)) p0 (p3 >>> ((1 : Int32) &&& 31)) p4 p5 p4 p5 ep (1 : Int32) T3.heap n0 Zn O3 f_O_ep (by simp [own_fv, own_us, hc90, hc100])) (by decide) (by decide) (by decide) (by decide) (fun v5 T5 L5 X5 hQ5 => ?_)
        obtain ⟨rfl, Nq5, e5⟩ := hQ5
        have N5 := Fr.app N3 Nq5
        show own_End p e below _ (T5.setTop (mkF m 119 _ [(.int (1 : Int32))]))
        refine own_iload X5 hx hby at_119 (pc' := 121) rfl rfl ?_
        refine own_icN X5 hx hby at_121 (pc' := 124) rfl (show (1 : Int32) = (1 : Int32) by decide) ?_
        refine own_iconst X5 hx hby at_124 (pc' := 125) rfl (n := (1 : Int32)) (by decide) ?_
        refine own_goto X5 hx hby at_125 (pc' := 129) (by decide) (by decide) ?_
        refine own_zreturn X5 hx hlk hby hret (Or.inr rfl) at_129 (own_lv ?_ (by decide) (by decide))
        show Q0 Z p0 p1 p2 p3 p4 p5 ep  h0 n0 (some (.int (1 : Int32))) T5.heap _
        rw [e5]
        exact ⟨rfl, N5⟩
    · refine own_iconst X3 hx hby at_93 (pc' := 94) rfl (n := (1 : Int32)) (by decide) ?_
      refine own_istore X3 hx hby at_94 (pc' := 96) rfl (l' := #[.val (.int p0), .val (.int p1), .val (.int p2), .val (.int p3), .val (.long p4), .second, .val (.long p5), .second, .val (.int (p1 &&& (2147483647 : Int32))), .val (.int (p2 &&& (2147483647 : Int32))), .val (.int (0 : Int32)), .val (.int (p3 >>> ((1 : Int32) &&& 31))), .val (.ref ep), .val (.ref b2), .val (.int (1 : Int32))]) rfl ?_
      refine own_iload X3 hx hby at_96 (pc' := 98) rfl rfl ?_
      refine own_iload X3 hx hby at_98 (pc' := 100) rfl rfl ?_
      refine own_ic2 X3 hx hby at_100 (pc1 := 106) (by decide) (by decide) (pc2 := 103) rfl (fun (hc100 : ¬ (p2 &&& (2147483647 : Int32)) < (p1 &&& (2147483647 : Int32))) => ?_) (fun (hc100 : (p2 &&& (2147483647 : Int32)) < (p1 &&& (2147483647 : Int32))) => ?_)
      · refine own_iload X3 hx hby at_106 (pc' := 108) rfl rfl ?_
        refine own_ifY X3 hx hby at_108 (pc' := 114) (by decide) (by decide) (show (0 : Int32) = (0 : Int32) by decide) ?_
        refine own_aload X3 hx hby at_114 (pc' := 116) rfl rfl rfl ?_
        refine own_lk8 hw X3 hx hZ hby (by rw [hml]; rfl) hown at_116 (pc' := 119) rfl rfl O3.1 (W := 0) (Nat.le_of_eq rfl) (rm8b l Z a0 hw [] b2 (p1 &&& (2147483647 : Int32)) (p2 &&& (2147483647 : Int32)) p0 (p3 >>> ((1 : Int32) &&& 31)) p4 p5 p4 p5 ep (1 : Int32) T3.heap n0 Zn O3 f_O_ep (by simp [own_fv, own_us, hc90, hc100])) (by decide) (by decide) (by decide) (by decide) (fun v6 T6 L6 X6 hQ6 => ?_)
        obtain ⟨rfl, Nq6, e6⟩ := hQ6
        have N6 := Fr.app N3 Nq6
        show own_End p e below _ (T6.setTop (mkF m 119 _ [(.int (1 : Int32))]))
        refine own_iload X6 hx hby at_119 (pc' := 121) rfl rfl ?_
        refine own_icN X6 hx hby at_121 (pc' := 124) rfl (show (1 : Int32) = (1 : Int32) by decide) ?_
        refine own_iconst X6 hx hby at_124 (pc' := 125) rfl (n := (1 : Int32)) (by decide) ?_
        refine own_goto X6 hx hby at_125 (pc' := 129) (by decide) (by decide) ?_
        refine own_zreturn X6 hx hlk hby hret (Or.inr rfl) at_129 (own_lv ?_ (by decide) (by decide))
        show Q0 Z p0 p1 p2 p3 p4 p5 ep  h0 n0 (some (.int (1 : Int32))) T6.heap _
        rw [e6]
        exact ⟨rfl, N6⟩
      · refine own_iconst X3 hx hby at_103 (pc' := 104) rfl (n := (1 : Int32)) (by decide) ?_
        refine own_istore X3 hx hby at_104 (pc' := 106) rfl (l' := #[.val (.int p0), .val (.int p1), .val (.int p2), .val (.int p3), .val (.long p4), .second, .val (.long p5), .second, .val (.int (p1 &&& (2147483647 : Int32))), .val (.int (p2 &&& (2147483647 : Int32))), .val (.int (0 : Int32)), .val (.int (p3 >>> ((1 : Int32) &&& 31))), .val (.ref ep), .val (.ref b2), .val (.int (1 : Int32))]) rfl ?_
        refine own_iload X3 hx hby at_106 (pc' := 108) rfl rfl ?_
        refine own_ifY X3 hx hby at_108 (pc' := 114) (by decide) (by decide) (show (0 : Int32) = (0 : Int32) by decide) ?_
        refine own_aload X3 hx hby at_114 (pc' := 116) rfl rfl rfl ?_
        refine own_lk8 hw X3 hx hZ hby (by rw [hml]; rfl) hown at_116 (pc' := 119) rfl rfl O3.1 (W := 0) (Nat.le_of_eq rfl) (rm8b l Z a0 hw [] b2 (p1 &&& (2147483647 : Int32)) (p2 &&& (2147483647 : Int32)) p0 (p3 >>> ((1 : Int32) &&& 31)) p4 p5 p4 p5 ep (1 : Int32) T3.heap n0 Zn O3 f_O_ep (by simp [own_fv, own_us, hc90, hc100])) (by decide) (by decide) (by decide) (by decide) (fun v7 T7 L7 X7 hQ7 => ?_)
        obtain ⟨rfl, Nq7, e7⟩ := hQ7
        have N7 := Fr.app N3 Nq7
        show own_End p e below _ (T7.setTop (mkF m 119 _ [(.int (1 : Int32))]))
        refine own_iload X7 hx hby at_119 (pc' := 121) rfl rfl ?_
        refine own_icN X7 hx hby at_121 (pc' := 124) rfl (show (1 : Int32) = (1 : Int32) by decide) ?_
        refine own_iconst X7 hx hby at_124 (pc' := 125) rfl (n := (1 : Int32)) (by decide) ?_
        refine own_goto X7 hx hby at_125 (pc' := 129) (by decide) (by decide) ?_
        refine own_zreturn X7 hx hlk hby hret (Or.inr rfl) at_129 (own_lv ?_ (by decide) (by decide))
        show Q0 Z p0 p1 p2 p3 p4 p5 ep  h0 n0 (some (.int (1 : Int32))) T7.heap _
        rw [e7]
        exact ⟨rfl, N7⟩
  · refine own_iconst X0 hx hby at_18 (pc' := 19) rfl (n := (1 : Int32)) (by decide) ?_
    refine own_goto X0 hx hby at_19 (pc' := 23) (by decide) (by decide) ?_
    refine own_istore X0 hx hby at_23 (pc' := 25) rfl (l' := #[.val (.int p0), .val (.int p1), .val (.int p2), .val (.int p3), .val (.long p4), .second, .val (.long p5), .second, .val (.int (p1 &&& (2147483647 : Int32))), .val (.int (p2 &&& (2147483647 : Int32))), .val (.int (1 : Int32)), .unset, .unset, .unset, .unset]) rfl ?_
    refine own_iloadN X0 hx hby at_25 (pc' := 26) rfl rfl ?_
    refine own_iconst X0 hx hby at_26 (pc' := 27) rfl (n := (1 : Int32)) (by decide) ?_
    refine own_ishr X0 hx hby at_27 (pc' := 28) rfl ?_
    refine own_istore X0 hx hby at_28 (pc' := 30) rfl (l' := #[.val (.int p0), .val (.int p1), .val (.int p2), .val (.int p3), .val (.long p4), .second, .val (.long p5), .second, .val (.int (p1 &&& (2147483647 : Int32))), .val (.int (p2 &&& (2147483647 : Int32))), .val (.int (1 : Int32)), .val (.int (p3 >>> ((1 : Int32) &&& 31))), .unset, .unset, .unset]) rfl ?_
    refine own_iload X0 hx hby at_30 (pc' := 32) rfl rfl ?_
    refine own_ifN X0 hx hby at_32 (pc' := 35) rfl (show ¬ (1 : Int32) = (0 : Int32) by decide) ?_
    refine own_new X0 hx hZ hby hown (wd_1 hw) (wd_2 hw) (wd_3 hw) e0 at_35 (pc' := 38) rfl (by decide) (by decide) (fun T8 h8 b8 g8 X8 e8 E8 A8 D8 => ?_)
    have ge_b8 : n0 ≤ b8 := by rw [g8]; exact Z0
    have Zn := Nat.le_trans Z0 E8.1
    have f_O_b8 : own_RE Z h8 b8 (0 : Int64) (0 : Int64) .null := ⟨A8, D8 (Or.inr (wd_16 hw)) (ty := .long) (by decide), D8 (Or.inr (wd_18 hw)) (ty := .long) (by decide), D8 (Or.inr (wd_20 hw)) (ty := (.object "java/lang/RuntimeException")) (by decide)⟩
    refine own_dup X8 hx hby at_38 (pc' := 39) rfl rfl ?_
    refine own_lload X8 hx hby at_39 (pc' := 41) rfl rfl ?_
    refine own_lload X8 hx hby at_41 (pc' := 43) rfl rfl ?_
    refine own_aconst_null X8 hx hby at_43 (pc' := 44) rfl ?_
    refine own_lk9 hw X8 hx hZ hby (by rw [hml]; rfl) hown at_44 (pc' := 47) rfl e8 (W := 1) (Nat.le_of_eq rfl) (rm1 l Z a0 hw [] b8 p5 p4 h8 n0 Zn f_O_b8 ge_b8) (by decide) (by decide) (by decide) (by decide) (fun v9 T9 L9 X9 hQ9 => ?_)
    obtain ⟨rfl, Nq9, K9, O9⟩ := hQ9
    have N9 := Fr.app N0 Nq9
    have Zn := Nat.le_trans Zn K9.1
    show own_End p e below _ (T9.setTop (mkF m 47 _ [(.ref b8)]))
    have Zold := Zn
    have lt_b8 := O9.lt
    refine own_lk10 hw X9 hx hZ hby (by rw [hml]; rfl) hown at_47 (pc' := 50) rfl rfl (W := 0) (Nat.le_of_eq rfl) (rm4 l Z a0 hw [] b8 T9.heap n0 Zn ) (by decide) (by decide) (by decide) (by decide) (fun v11 T11 L11 X11 hQ11 => ?_)
    obtain ⟨oa10, rfl, Nq11, K11, ga11, O11⟩ := hQ11
    have N11 := Fr.app N9 Nq11
    have O9 := O9.keep K11 nin0
    have Zn := Nat.le_trans Zn K11.1
    have ne_b8_oa10 : b8 ≠ oa10 := Nat.ne_of_lt (Nat.lt_of_lt_of_le lt_b8 ga11)
    show own_End p e below _ (T11.setTop (mkF m 50 _ [(.ref oa10)]))
    refine own_astore X11 hx hby at_50 (pc' := 52) rfl rfl (l' := #[.val (.int p0), .val (.int p1), .val (.int p2), .val (.int p3), .val (.long p4), .second, .val (.long p5), .second, .val (.int (p1 &&& (2147483647 : Int32))), .val (.int (p2 &&& (2147483647 : Int32))), .val (.int (1 : Int32)), .val (.int (p3 >>> ((1 : Int32) &&& 31))), .val (.ref oa10), .unset, .unset]) rfl ?_
    refine own_goto X11 hx hby at_52 (pc' := 60) (by decide) (by decide) ?_
    refine own_new X11 hx hZ hby hown (wd_38 hw) (wd_39 hw) (wd_40 hw) rfl at_60 (pc' := 63) rfl (by decide) (by decide) (fun T12 h12 b12 g12 X12 e12 E12 A12 D12 => ?_)
    have ne_b8_b12 : b8 ≠ b12 := Nat.ne_of_lt (by rw [g12]; exact O9.lt)
    have ne_oa10_b12 : oa10 ≠ b12 := Nat.ne_of_lt (by rw [g12]; exact O11.lt)
    have ge_b12 : n0 ≤ b12 := by rw [g12]; exact Zn
    have O9 := O9.ext E12
    have O11 := O11.ext E12
    have Zn := Nat.le_trans Zn E12.1
    have f_O_b12 : own_SR Z h12 b12 (0 : Int32) (0 : Int32) (0 : Int32) (0 : Int32) (0 : Int64) (0 : Int64) (0 : Int64) (0 : Int64) .null := ⟨A12, D12 (Or.inr (wd_46 hw)) (ty := .int) (by decide), D12 (Or.inr (wd_48 hw)) (ty := .int) (by decide), D12 (Or.inr (wd_50 hw)) (ty := .int) (by decide), D12 (Or.inr (wd_52 hw)) (ty := .int) (by decide), D12 (Or.inr (wd_54 hw)) (ty := .long) (by decide), D12 (Or.inr (wd_56 hw)) (ty := .long) (by decide), D12 (Or.inr (wd_58 hw)) (ty := .long) (by decide), D12 (Or.inr (wd_60 hw)) (ty := .long) (by decide), D12 (Or.inr (wd_62 hw)) (ty := (.object "java/util/Optional")) (by decide)⟩
    refine own_dup X12 hx hby at_63 (pc' := 64) rfl rfl ?_
    refine own_iload X12 hx hby at_64 (pc' := 66) rfl rfl ?_
    refine own_iload X12 hx hby at_66 (pc' := 68) rfl rfl ?_
    refine own_iloadN X12 hx hby at_68 (pc' := 69) rfl rfl ?_
    refine own_iload X12 hx hby at_69 (pc' := 71) rfl rfl ?_
    refine own_lload X12 hx hby at_71 (pc' := 73) rfl rfl ?_
    refine own_lload X12 hx hby at_73 (pc' := 75) rfl rfl ?_
    refine own_lload X12 hx hby at_75 (pc' := 77) rfl rfl ?_
    refine own_lload X12 hx hby at_77 (pc' := 79) rfl rfl ?_
    refine own_aload X12 hx hby at_79 (pc' := 81) rfl rfl rfl ?_
    refine own_lk7 hw X12 hx hZ hby (by rw [hml]; rfl) hown at_81 (pc' := 84) rfl e12 (W := 1) (Nat.le_of_eq rfl) (rm7 l Z a0 hw [] b12 (p1 &&& (2147483647 : Int32)) (p2 &&& (2147483647 : Int32)) p0 (p3 >>> ((1 : Int32) &&& 31)) p4 p5 p4 p5 oa10 h12 n0 Zn f_O_b12 ge_b12) (by decide) (by decide) (by decide) (by decide) (fun v13 T13 L13 X13 hQ13 => ?_)
    obtain ⟨rfl, Nq13, K13, O13⟩ := hQ13
    have N13 := Fr.app N11 Nq13
    have O9 := O9.keep K13 (ninS ne_b8_b12 nin0)
    have O11 := O11.keep K13 (ninS ne_oa10_b12 nin0)
    have Zn := Nat.le_trans Zn K13.1
    show own_End p e below _ (T13.setTop (mkF m 84 _ [(.ref b12)]))
    refine own_astore X13 hx hby at_84 (pc' := 86) rfl rfl (l' := #[.val (.int p0), .val (.int p1), .val (.int p2), .val (.int p3), .val (.long p4), .second, .val (.long p5), .second, .val (.int (p1 &&& (2147483647 : Int32))), .val (.int (p2 &&& (2147483647 : Int32))), .val (.int (1 : Int32)), .val (.int (p3 >>> ((1 : Int32) &&& 31))), .val (.ref oa10), .val (.ref b12), .unset]) rfl ?_
    refine own_iconst X13 hx hby at_86 (pc' := 87) rfl (n := (0 : Int32)) (by decide) ?_
    refine own_istore X13 hx hby at_87 (pc' := 89) rfl (l' := #[.val (.int p0), .val (.int p1), .val (.int p2), .val (.int p3), .val (.long p4), .second, .val (.long p5), .second, .val (.int (p1 &&& (2147483647 : Int32))), .val (.int (p2 &&& (2147483647 : Int32))), .val (.int (1 : Int32)), .val (.int (p3 >>> ((1 : Int32) &&& 31))), .val (.ref oa10), .val (.ref b12), .val (.int (0 : Int32))]) rfl ?_
    refine own_iloadN X13 hx hby at_89 (pc' := 90) rfl rfl ?_
    refine own_if2 X13 hx hby at_90 (pc1 := 96) (by decide) (by decide) (pc2 := 93) rfl (fun (hc90 : ¬ (0 : Int32) < p0) => ?_) (fun (hc90 : (0 : Int32) < p0) => ?_)
    · refine own_iload X13 hx hby at_96 (pc' := 98) rfl rfl ?_
      refine own_iload X13 hx hby at_98 (pc' := 100) rfl rfl ?_
      refine own_ic2 X13 hx hby at_100 (pc1 := 106) (by decide) (by decide) (pc2 := 103) rfl (fun (hc100 : ¬ (p2 &&& (2147483647 : Int32)) < (p1 &&& (2147483647 : Int32))) => ?_) (fun (hc100 : (p2 &&& (2147483647 : Int32)) < (p1 &&& (2147483647 : Int32))) => ?_)
      · refine own_iload X13 hx hby at_106 (pc' := 108) rfl rfl ?_
        refine own_ifN X13 hx hby at_108 (pc' := 111) rfl (show ¬ (1 : Int32) = (0 : Int32) by decide) ?_
        refine own_iconst X13 hx hby at_111 (pc' := 112) rfl (n := (1 : Int32)) (by decide) ?_
        refine own_istore X13 hx hby at_112 (pc' := 114) rfl (l' := #[.val (.int p0), .val (.int p1), .val (.int p2), .val (.int p3), .val (.long p4), .second, .val (.long p5), .second, .val (.int (p1 &&& (2147483647 : Int32))), .val (.int (p2 &&& (2147483647 : Int32))), .val (.int (1 : Int32)), .val (.int (p3 >>> ((1 : Int32) &&& 31))), .val (.ref oa10), .val (.ref b12), .val (.int (1 : Int32))]) rfl ?_
        refine own_aload X13 hx hby at_114 (pc' := 116) rfl rfl rfl ?_
        refine own_lk8 hw X13 hx hZ hby (by rw [hml]; rfl) hown at_116 (pc' := 119) rfl rfl O13.1 (W := 0) (Nat.le_of_eq rfl) (rm8a l Z a0 hw [] b12 (p1 &&& (2147483647 : Int32)) (p2 &&& (2147483647 : Int32)) p0 (p3 >>> ((1 : Int32) &&& 31)) p4 p5 p4 p5 oa10 b8 (1 : Int32) T13.heap n0 Zn O13 O11 (by simp [own_fv, own_us, hc90, hc100])) (by decide) (by decide) (by decide) (by decide) (fun v14 T14 L14 X14 hQ14 => ?_)
        obtain ⟨rfl, Nq14, e14⟩ := hQ14
        have N14 := Fr.app N13 Nq14
        show own_End p e below _ (T14.setTop (mkF m 119 _ [(.int (1 : Int32))]))
        refine own_iload X14 hx hby at_119 (pc' := 121) rfl rfl ?_
        refine own_icN X14 hx hby at_121 (pc' := 124) rfl (show (1 : Int32) = (1 : Int32) by decide) ?_
        refine own_iconst X14 hx hby at_124 (pc' := 125) rfl (n := (1 : Int32)) (by decide) ?_
        refine own_goto X14 hx hby at_125 (pc' := 129) (by decide) (by decide) ?_
        refine own_zreturn X14 hx hlk hby hret (Or.inr rfl) at_129 (own_lv ?_ (by decide) (by decide))
        show Q0 Z p0 p1 p2 p3 p4 p5 ep  h0 n0 (some (.int (1 : Int32))) T14.heap _
        rw [e14]
        exact ⟨rfl, N14⟩
      · refine own_iconst X13 hx hby at_103 (pc' := 104) rfl (n := (1 : Int32)) (by decide) ?_
        refine own_istore X13 hx hby at_104 (pc' := 106) rfl (l' := #[.val (.int p0), .val (.int p1), .val (.int p2), .val (.int p3), .val (.long p4), .second, .val (.long p5), .second, .val (.int (p1 &&& (2147483647 : Int32))), .val (.int (p2 &&& (2147483647 : Int32))), .val (.int (1 : Int32)), .val (.int (p3 >>> ((1 : Int32) &&& 31))), .val (.ref oa10), .val (.ref b12), .val (.int (1 : Int32))]) rfl ?_
        refine own_iload X13 hx hby at_106 (pc' := 108) rfl rfl ?_
        refine own_ifN X13 hx hby at_108 (pc' := 111) rfl (show ¬ (1 : Int32) = (0 : Int32) by decide) ?_
        refine own_iconst X13 hx hby at_111 (pc' := 112) rfl (n := (1 : Int32)) (by decide) ?_
        refine own_istore X13 hx hby at_112 (pc' := 114) rfl (l' := #[.val (.int p0), .val (.int p1), .val (.int p2), .val (.int p3), .val (.long p4), .second, .val (.long p5), .second, .val (.int (p1 &&& (2147483647 : Int32))), .val (.int (p2 &&& (2147483647 : Int32))), .val (.int (1 : Int32)), .val (.int (p3 >>> ((1 : Int32) &&& 31))), .val (.ref oa10), .val (.ref b12), .val (.int (1 : Int32))]) rfl ?_
        refine own_aload X13 hx hby at_114 (pc' := 116) rfl rfl rfl ?_
        refine own_lk8 hw X13 hx hZ hby (by rw [hml]; rfl) hown at_116 (pc' := 119) rfl rfl O13.1 (W := 0) (Nat.le_of_eq rfl) (rm8a l Z a0 hw [] b12 (p1 &&& (2147483647 : Int32)) (p2 &&& (2147483647 : Int32)) p0 (p3 >>> ((1 : Int32) &&& 31)) p4 p5 p4 p5 oa10 b8 (1 : Int32) T13.heap n0 Zn O13 O11 (by simp [own_fv, own_us, hc90, hc100])) (by decide) (by decide) (by decide) (by decide) (fun v15 T15 L15 X15 hQ15 => ?_)
        obtain ⟨rfl, Nq15, e15⟩ := hQ15
        have N15 := Fr.app N13 Nq15
        show own_End p e below _ (T15.setTop (mkF m 119 _ [(.int (1 : Int32))]))
        refine own_iload X15 hx hby at_119 (pc' := 121) rfl rfl ?_
        refine own_icN X15 hx hby at_121 (pc' := 124) rfl (show (1 : Int32) = (1 : Int32) by decide) ?_
        refine own_iconst X15 hx hby at_124 (pc' := 125) rfl (n := (1 : Int32)) (by decide) ?_
        refine own_goto X15 hx hby at_125 (pc' := 129) (by decide) (by decide) ?_
        refine own_zreturn X15 hx hlk hby hret (Or.inr rfl) at_129 (own_lv ?_ (by decide) (by decide))
        show Q0 Z p0 p1 p2 p3 p4 p5 ep  h0 n0 (some (.int (1 : Int32))) T15.heap _
        rw [e15]
        exact ⟨rfl, N15⟩
    · refine own_iconst X13 hx hby at_93 (pc' := 94) rfl (n := (1 : Int32)) (by decide) ?_
      refine own_istore X13 hx hby at_94 (pc' := 96) rfl (l' := #[.val (.int p0), .val (.int p1), .val (.int p2), .val (.int p3), .val (.long p4), .second, .val (.long p5), .second, .val (.int (p1 &&& (2147483647 : Int32))), .val (.int (p2 &&& (2147483647 : Int32))), .val (.int (1 : Int32)), .val (.int (p3 >>> ((1 : Int32) &&& 31))), .val (.ref oa10), .val (.ref b12), .val (.int (1 : Int32))]) rfl ?_
      refine own_iload X13 hx hby at_96 (pc' := 98) rfl rfl ?_
      refine own_iload X13 hx hby at_98 (pc' := 100) rfl rfl ?_
      refine own_ic2 X13 hx hby at_100 (pc1 := 106) (by decide) (by decide) (pc2 := 103) rfl (fun (hc100 : ¬ (p2 &&& (2147483647 : Int32)) < (p1 &&& (2147483647 : Int32))) => ?_) (fun (hc100 : (p2 &&& (2147483647 : Int32)) < (p1 &&& (2147483647 : Int32))) => ?_)
      · refine own_iload X13 hx hby at_106 (pc' := 108) rfl rfl ?_
        refine own_ifN X13 hx hby at_108 (pc' := 111) rfl (show ¬ (1 : Int32) = (0 : Int32) by decide) ?_
        refine own_iconst X13 hx hby at_111 (pc' := 112) rfl (n := (1 : Int32)) (by decide) ?_
        refine own_istore X13 hx hby at_112 (pc' := 114) rfl (l' := #[.val (.int p0), .val (.int p1), .val (.int p2), .val (.int p3), .val (.long p4), .second, .val (.long p5), .second, .val (.int (p1 &&& (2147483647 : Int32))), .val (.int (p2 &&& (2147483647 : Int32))), .val (.int (1 : Int32)), .val (.int (p3 >>> ((1 : Int32) &&& 31))), .val (.ref oa10), .val (.ref b12), .val (.int (1 : Int32))]) rfl ?_
        refine own_aload X13 hx hby at_114 (pc' := 116) rfl rfl rfl ?_
        refine own_lk8 hw X13 hx hZ hby (by rw [hml]; rfl) hown at_116 (pc' := 119) rfl rfl O13.1 (W := 0) (Nat.le_of_eq rfl) (rm8a l Z a0 hw [] b12 (p1 &&& (2147483647 : Int32)) (p2 &&& (2147483647 : Int32)) p0 (p3 >>> ((1 : Int32) &&& 31)) p4 p5 p4 p5 oa10 b8 (1 : Int32) T13.heap n0 Zn O13 O11 (by simp [own_fv, own_us, hc90, hc100])) (by decide) (by decide) (by decide) (by decide) (fun v16 T16 L16 X16 hQ16 => ?_)
        obtain ⟨rfl, Nq16, e16⟩ := hQ16
        have N16 := Fr.app N13 Nq16
        show own_End p e below _ (T16.setTop (mkF m 119 _ [(.int (1 : Int32))]))
        refine own_iload X16 hx hby at_119 (pc' := 121) rfl rfl ?_
        refine own_icN X16 hx hby at_121 (pc' := 124) rfl (show (1 : Int32) = (1 : Int32) by decide) ?_
        refine own_iconst X16 hx hby at_124 (pc' := 125) rfl (n := (1 : Int32)) (by decide) ?_
        refine own_goto X16 hx hby at_125 (pc' := 129) (by decide) (by decide) ?_
        refine own_zreturn X16 hx hlk hby hret (Or.inr rfl) at_129 (own_lv ?_ (by decide) (by decide))
        show Q0 Z p0 p1 p2 p3 p4 p5 ep  h0 n0 (some (.int (1 : Int32))) T16.heap _
        rw [e16]
        exact ⟨rfl, N16⟩
      · refine own_iconst X13 hx hby at_103 (pc' := 104) rfl (n := (1 : Int32)) (by decide) ?_
        refine own_istore X13 hx hby at_104 (pc' := 106) rfl (l' := #[.val (.int p0), .val (.int p1), .val (.int p2), .val (.int p3), .val (.long p4), .second, .val (.long p5), .second, .val (.int (p1 &&& (2147483647 : Int32))), .val (.int (p2 &&& (2147483647 : Int32))), .val (.int (1 : Int32)), .val (.int (p3 >>> ((1 : Int32) &&& 31))), .val (.ref oa10), .val (.ref b12), .val (.int (1 : Int32))]) rfl ?_
        refine own_iload X13 hx hby at_106 (pc' := 108) rfl rfl ?_
        refine own_ifN X13 hx hby at_108 (pc' := 111) rfl (show ¬ (1 : Int32) = (0 : Int32) by decide) ?_
        refine own_iconst X13 hx hby at_111 (pc' := 112) rfl (n := (1 : Int32)) (by decide) ?_
        refine own_istore X13 hx hby at_112 (pc' := 114) rfl (l' := #[.val (.int p0), .val (.int p1), .val (.int p2), .val (.int p3), .val (.long p4), .second, .val (.long p5), .second, .val (.int (p1 &&& (2147483647 : Int32))), .val (.int (p2 &&& (2147483647 : Int32))), .val (.int (1 : Int32)), .val (.int (p3 >>> ((1 : Int32) &&& 31))), .val (.ref oa10), .val (.ref b12), .val (.int (1 : Int32))]) rfl ?_
        refine own_aload X13 hx hby at_114 (pc' := 116) rfl rfl rfl ?_
        refine own_lk8 hw X13 hx hZ hby (by rw [hml]; rfl) hown at_116 (pc' := 119) rfl rfl O13.1 (W := 0) (Nat.le_of_eq rfl) (rm8a l Z a0 hw [] b12 (p1 &&& (2147483647 : Int32)) (p2 &&& (2147483647 : Int32)) p0 (p3 >>> ((1 : Int32) &&& 31)) p4 p5 p4 p5 oa10 b8 (1 : Int32) T13.heap n0 Zn O13 O11 (by simp [own_fv, own_us, hc90, hc100])) (by decide) (by decide) (by decide) (by decide) (fun v17 T17 L17 X17 hQ17 => ?_)
        obtain ⟨rfl, Nq17, e17⟩ := hQ17
        have N17 := Fr.app N13 Nq17
        show own_End p e below _ (T17.setTop (mkF m 119 _ [(.int (1 : Int32))]))
        refine own_iload X17 hx hby at_119 (pc' := 121) rfl rfl ?_
        refine own_icN X17 hx hby at_121 (pc' := 124) rfl (show (1 : Int32) = (1 : Int32) by decide) ?_
        refine own_iconst X17 hx hby at_124 (pc' := 125) rfl (n := (1 : Int32)) (by decide) ?_
        refine own_goto X17 hx hby at_125 (pc' := 129) (by decide) (by decide) ?_
        refine own_zreturn X17 hx hlk hby hret (Or.inr rfl) at_129 (own_lv ?_ (by decide) (by decide))
        show Q0 Z p0 p1 p2 p3 p4 p5 ep  h0 n0 (some (.int (1 : Int32))) T17.heap _
        rw [e17]
        exact ⟨rfl, N17⟩
set_option maxRecDepth 65536 in
set_option maxHeartbeats 40000000 in
theorem comes_1 {Post : Tables → Env → Array Value → State → Outcome → State → Prop} (hpost : ∀ tb e args s v u, (limb_1_1.after args s (.returned v) u = true ∧ limb_1_2.after args s (.returned v) u = true ∧ True) → FrameEnd s (.returned v) u (Jvm.fieldLocs frame_1_writes args s ++ Jvm.arrayLocs frame_1_arrays args s ++ Jvm.staticLocs frame_1_statics s) 16 128 → Post tb e args s (.returned v) u) :
    ArmFor flags0 classFile x code maxLocals ret World_1 tables_1 room_1 Calls_1 rest_1 Pre_1 Post := by
  intro l hfl _ _ p e ha hc hk s m args below hf hA hF happ hP
  obtain ⟨hcalls, hrest, hpre⟩ := hP
  obtain ⟨-, -, -, hnamed, -, -, -, hat⟩ := (Spec.applies_iff hf).mp happ
  obtain ⟨hg, hn⟩ := and_e (Cond.before_iff.mp (show (Jvm.Cond.and given_1 narrow_1).before args s = true from hpre))
  obtain ⟨g1, g2⟩ := and_e hg
  obtain ⟨g3, g4⟩ := and_e g2
  obtain ⟨g5, g6⟩ := and_e g4
  obtain ⟨g7, g8⟩ := and_e g6
  obtain ⟨g9, g10⟩ := and_e g8
  obtain ⟨g11, g12⟩ := and_e g10
  obtain ⟨w0, w1, w2, w3, w4, w5, rfl⟩ : ∃ w0 w1 w2 w3 w4 w5 : Value, args = #[w0, w1, w2, w3, w4, w5] := by
    have hs : args.size = 6 := by simpa [Cond.value, given_1] using g1
    obtain ⟨L⟩ := args
    match L, hs with
    | [w0, w1, w2, w3, w4, w5], _ => exact ⟨w0, w1, w2, w3, w4, w5, rfl⟩
  have hw := fun d (hd : d ∈ tables_1) => atoms_spec (ws := Jvm.Cond.code x code maxLocals ret :: tables_1) hat d (List.mem_cons_of_mem _ hd)
  have hfit : Fit s := fun {y c} hc i hi => by
    obtain ⟨ha, rfl⟩ := Array.getElem?_eq_some_iff.mp hc
    have q := List.all_eq_true.mp ((Array.all_eq_true_iff_forall_mem.mp hF) _ (Array.getElem_mem ha)) i (List.mem_range.mpr hi)
    simpa [Array.getElem?_eq_getElem hi] using q
  obtain ⟨hsets, hown0⟩ := atoms_of _ (rest_1_c_eq ▸ (show rest_1_c.before _ s = true from hrest))
  have hr0 := Cond.before_iff.mp hown0
  obtain ⟨i0, ei0⟩ := is_v g3
  obtain rfl : w0 = (.int i0) := Option.some.inj ei0
  obtain ⟨i1, ei1⟩ := is_v g5
  obtain rfl : w1 = (.int i1) := Option.some.inj ei1
  obtain ⟨i2, ei2⟩ := is_v g7
  obtain rfl : w2 = (.int i2) := Option.some.inj ei2
  obtain ⟨i3, ei3⟩ := is_v g9
  obtain rfl : w3 = (.int i3) := Option.some.inj ei3
  obtain ⟨i4, ei4⟩ := isL_v g11
  obtain rfl : w4 = (.long i4) := Option.some.inj ei4
  obtain ⟨i5, ei5⟩ := isL_v g12
  obtain rfl : w5 = (.long i5) := Option.some.inj ei5
  have s1 := hsets _ (List.mem_of_getElem? (i := 1) rfl)
  have s2 := hsets _ (List.mem_of_getElem? (i := 2) rfl)
  have s3 := hsets _ (List.mem_of_getElem? (i := 3) rfl)
  obtain ⟨ep, eev⟩ := exa_v (Cond.before_iff.mp s2)
  have hS := Sta.start eev (Or.inl s1)
  have hE := Exa.start eev (Cond.before_iff.mp s2)
  have hN := null_v (Cond.before_iff.mp s3)
  have hF : Fld s s.heap ep "java/util/Optional" "value" "Ljava/lang/Object;" .null := Fld.start ((fld_at eev).symm.trans hN)
  obtain ⟨n, o, h1, h2, h3, _, L, rfl, ⟨rfl, N⟩, hq⟩ := rm0 l s _ hw tables_1 i0 i1 i2 i3 i4 i5 ep s.heap s.heap.size (Nat.le_refl _) hS ⟨hE, hF⟩ p e ha hc hk s m _ below hf ((Spec.applies_iff_loose hf).mp happ).1 ⟨rfl, State.Warmed39.refl s, rfl⟩ trivial
  refine ⟨n, _, h1, h2, h3, hpost _ _ _ _ _ _ ⟨Cond.after_iff.mpr rfl, Cond.after_iff.mpr (eq_i res_at (Term.int_eval (1)) rfl), trivial⟩ ⟨hq.1, hq.2.1, (hq.2.2.sift fun y hy => Or.inr (N y hy)).mono (by decide) (by decide)⟩⟩
theorem main_1_1 : Claimed_1_1 := comes_1 fun _ _ _ _ _ _ h hF => ⟨h.1, hF⟩
theorem main_1_2 : Claimed_1_2 := comes_1 fun _ _ _ _ _ _ h hF => ⟨h.2.1, hF⟩
end Jvm.Pilot.@@N@@
namespace Jvm.Pilot.@@N@@
open Jvm Jvm.ClassFile Sem Op Lib Jvm.Free Jvm.Stand Jvm.Pilot.@@N@@.Jvm.D
/-! MADE BY PROGRAM (witnessworld.py) out of the Statement's table words and the real class files: 13 classes; the members and pool entries that the words name. The judged class is class 1, her method 1. -/
namespace start1
open Jvm.ClassFile
def u (s : String) : CpInfo := .utf8 (stringToUtf16 s)
/-- a pool by its gaps: so many unusable entries, then the entry; so many at the end -/
def gap : Nat → List CpInfo → List CpInfo
  | 0, r => r
  | n + 1, r => .unusable :: gap n r
def poolList (es : List (Nat × CpInfo)) (last : Nat) : List CpInfo := es.foldr (fun e r => gap e.1 (e.2 :: r)) (gap last [])
def pool (es : List (Nat × CpInfo)) (last : Nat) : Array CpInfo := ⟨poolList es last⟩
def fileOf (pool : Array CpInfo) (this : Nat) (attrs : Array Attribute := #[]) (ms : Array MethodInfo := #[]) (fl : Nat := 33) (sup : Nat := 0) (ifs : Array Nat := #[]) (fds : Array FieldInfo := #[]) : ClassFile where
  minorVersion := 0
  majorVersion := 65
  constantPool := pool
  accessFlags := fl
  thisClass := this
  superClass := sup
  interfaces := ifs
  fields := fds
  methods := ms
  attributes := attrs
def plain (name : String) (sup : Option ClassId) : Class where
  name := name
  kind := .ordinary
  loader := none
  accessFlags := 33
  super := sup
  interfaces := #[]
  cf := none
  fields := #[]
  methods := #[]
  instanceTypes := #[]
  staticTypes := #[]
  resolved := #[]
  callSites := []
  init := .initialized
  statics := none
  mirror := none

def pool0 : Array CpInfo := pool [(5, u "<init>"), (0, u "()V"), (1, .class_ 10), (1, u "java/lang/Object")] 113

def k0c0 : Code := { maxStack := 0, maxLocals := 1, code := object_method_1_code, exceptionTable := #[], attributes := #[] }
def k0m0 : Method := { name := "<init>", desc := "()V", sig := { parameters := [], returnType := none }, accessFlags := 1, code := some k0c0 }
/-- java/lang/Object -/
def k0 : Class := { plain "java/lang/Object" none with
  accessFlags := 33
  interfaces := #[]
  cf := some (fileOf pool0 8 #[] #[{ accessFlags := 1, nameIndex := 5, descriptorIndex := 6, attributes := #[] }] 33 0 #[] #[])
  fields := #[]
  methods := #[k0m0]
  instanceTypes := #[]
  staticTypes := #[]
  resolved := Array.replicate 124 none
  statics := none }

def pool1 : Array CpInfo := pool [(2, .class_ 4), (1, u "java/lang/Object"), (0, u "<init>"), (0, u "()V"), (0, .integer 2147483647), (0, .class_ 9), (0, u "com/example/inclusive_lock/inclusivelock/sim/RoleError"), (0, .methodref 8 11), (0, .nameAndType 5 12), (0, u "(JJLjava/lang/RuntimeException;)V"), (0, .methodref 14 15), (0, .class_ 16), (0, .nameAndType 17 18), (0, u "java/util/Optional"), (0, u "of"), (0, u "(Ljava/lang/Object;)Ljava/util/Optional;"), (0, .methodref 14 20), (0, .nameAndType 21 22), (0, u "empty"), (0, u "()Ljava/util/Optional;"), (0, .class_ 24), (0, u "com/example/inclusive_lock/inclusivelock/sim/SimulationReport"), (0, .methodref 23 26), (0, .nameAndType 5 27), (0, u "(IIIIJJJJLjava/util/Optional;)V"), (0, .methodref 23 29), (0, .nameAndType 30 31), (0, u "foundViolation"), (0, u "()Z"), (0, .class_ 33), (0, u "com/example/inclusive_lock/inclusivelock/sim/SimulationReportFoundViolationPinLaw"), (2, u "law"), (0, u "(IIIIJJ)Z")] 3

def k1m0 : Method := { name := "<init>", desc := "()V", sig := { parameters := [], returnType := none }, accessFlags := 1, code := none }
def k1c1 : Code := { maxStack := 15, maxLocals := 15, code := code, exceptionTable := #[], attributes := #[] }
def k1m1 : Method := { name := "law", desc := "(IIIIJJ)Z", sig := { parameters := [.int, .int, .int, .int, .long, .long], returnType := some .boolean }, accessFlags := 9, code := some k1c1 }
/-- com/example/inclusive_lock/inclusivelock/sim/SimulationReportFoundViolationPinLaw -/
def k1 : Class := { plain "com/example/inclusive_lock/inclusivelock/sim/SimulationReportFoundViolationPinLaw" (some 0) with
  accessFlags := 49
  interfaces := #[]
  cf := some (fileOf pool1 32 #[] #[{ accessFlags := 1, nameIndex := 5, descriptorIndex := 6, attributes := #[] }, { accessFlags := 9, nameIndex := 36, descriptorIndex := 37, attributes := #[] }] 49 2 #[] #[])
  fields := #[]
  methods := #[k1m0, k1m1]
  instanceTypes := #[]
  staticTypes := #[]
  resolved := Array.replicate 41 none
  statics := none }

def pool2 : Array CpInfo := pool [(1, .methodref 2 3), (0, .class_ 4), (0, .nameAndType 5 6), (0, u "java/lang/Object"), (0, u "<init>"), (0, u "()V"), (0, .class_ 8), (0, u "java/lang/Record")] 13

def k2c0 : Code := { maxStack := 1, maxLocals := 1, code := jdk_30_method_1_code, exceptionTable := #[], attributes := #[] }
def k2m0 : Method := { name := "<init>", desc := "()V", sig := { parameters := [], returnType := none }, accessFlags := 4, code := some k2c0 }
/-- java/lang/Record -/
def k2 : Class := { plain "java/lang/Record" (some 0) with
  accessFlags := 1057
  interfaces := #[]
  cf := some (fileOf pool2 7 #[] #[{ accessFlags := 4, nameIndex := 5, descriptorIndex := 6, attributes := #[] }] 1057 2 #[] #[])
  fields := #[]
  methods := #[k2m0]
  instanceTypes := #[]
  staticTypes := #[]
  resolved := Array.replicate 22 none
  statics := none }

def pool3 : Array CpInfo := pool [(1, .methodref 2 3), (0, .class_ 4), (0, .nameAndType 5 6), (0, u "java/lang/Record"), (0, u "<init>"), (0, u "()V"), (0, .fieldref 8 9), (0, .class_ 10), (0, .nameAndType 11 12), (0, u "com/example/inclusive_lock/inclusivelock/sim/RoleError"), (0, u "seed"), (0, u "J"), (0, .fieldref 8 14), (0, .nameAndType 15 12), (0, u "time"), (0, .fieldref 8 17), (0, .nameAndType 18 19), (0, u "exception"), (0, u "Ljava/lang/RuntimeException;"), (12, u "(JJLjava/lang/RuntimeException;)V")] 30

def k3c0 : Code := { maxStack := 3, maxLocals := 6, code := prog_75_method_1_code, exceptionTable := #[], attributes := #[] }
def k3m0 : Method := { name := "<init>", desc := "(JJLjava/lang/RuntimeException;)V", sig := { parameters := [.long, .long, (.object "java/lang/RuntimeException")], returnType := none }, accessFlags := 1, code := some k3c0 }
/-- com/example/inclusive_lock/inclusivelock/sim/RoleError -/
def k3 : Class := { plain "com/example/inclusive_lock/inclusivelock/sim/RoleError" (some 2) with
  accessFlags := 49
  interfaces := #[]
  cf := some (fileOf pool3 8 #[] #[{ accessFlags := 1, nameIndex := 5, descriptorIndex := 32, attributes := #[] }] 49 2 #[] #[{ accessFlags := 18, nameIndex := 11, descriptorIndex := 12, attributes := #[] }, { accessFlags := 18, nameIndex := 15, descriptorIndex := 12, attributes := #[] }, { accessFlags := 18, nameIndex := 18, descriptorIndex := 19, attributes := #[] }])
  fields := #[{ name := "seed", type := .long, accessFlags := 18, slot := 0, constantValue := 0 }, { name := "time", type := .long, accessFlags := 18, slot := 1, constantValue := 0 }, { name := "exception", type := (.object "java/lang/RuntimeException"), accessFlags := 18, slot := 2, constantValue := 0 }]
  methods := #[k3m0]
  instanceTypes := #[.long, .long, (.object "java/lang/RuntimeException")]
  staticTypes := #[]
  resolved := Array.replicate 63 none
  statics := none }

def pool4 : Array CpInfo := pool [(1, .fieldref 2 3), (0, .class_ 4), (0, .nameAndType 5 6), (0, u "java/util/Optional"), (0, u "EMPTY"), (0, u "Ljava/util/Optional;"), (0, .methodref 8 9), (0, .class_ 10), (0, .nameAndType 11 12), (0, u "java/lang/Object"), (0, u "<init>"), (0, u "()V"), (0, .fieldref 2 14), (0, .nameAndType 15 16), (0, u "value"), (0, u "Ljava/lang/Object;"), (0, .methodref 18 19), (0, .class_ 20), (0, .nameAndType 21 22), (0, u "java/util/Objects"), (0, u "requireNonNull"), (0, u "(Ljava/lang/Object;)Ljava/lang/Object;"), (0, .methodref 2 24), (0, .nameAndType 11 25), (0, u "(Ljava/lang/Object;)V"), (20, u "()Z"), (8, u "empty"), (0, u "()Ljava/util/Optional;"), (8, u "(Ljava/lang/Object;)Ljava/util/Optional;"), (2, u "isPresent"), (13, u "of")] 104

def k4c0 : Code := { maxStack := 1, maxLocals := 1, code := jdk_32_method_1_code, exceptionTable := #[], attributes := #[] }
def k4m0 : Method := { name := "empty", desc := "()Ljava/util/Optional;", sig := { parameters := [], returnType := some (.object "java/util/Optional") }, accessFlags := 9, code := some k4c0 }
def k4c1 : Code := { maxStack := 2, maxLocals := 2, code := jdk_32_method_2_code, exceptionTable := #[], attributes := #[] }
def k4m1 : Method := { name := "<init>", desc := "(Ljava/lang/Object;)V", sig := { parameters := [(.object "java/lang/Object")], returnType := none }, accessFlags := 2, code := some k4c1 }
def k4c2 : Code := { maxStack := 3, maxLocals := 1, code := jdk_32_method_3_code, exceptionTable := #[], attributes := #[] }
def k4m2 : Method := { name := "of", desc := "(Ljava/lang/Object;)Ljava/util/Optional;", sig := { parameters := [(.object "java/lang/Object")], returnType := some (.object "java/util/Optional") }, accessFlags := 9, code := some k4c2 }
def k4c3 : Code := { maxStack := 1, maxLocals := 1, code := jdk_32_method_6_code, exceptionTable := #[], attributes := #[] }
def k4m3 : Method := { name := "isPresent", desc := "()Z", sig := { parameters := [], returnType := some .boolean }, accessFlags := 1, code := some k4c3 }
/-- java/util/Optional -/
def k4 : Class := { plain "java/util/Optional" (some 0) with
  accessFlags := 49
  interfaces := #[]
  cf := some (fileOf pool4 2 #[] #[{ accessFlags := 9, nameIndex := 55, descriptorIndex := 56, attributes := #[] }, { accessFlags := 2, nameIndex := 11, descriptorIndex := 25, attributes := #[] }, { accessFlags := 9, nameIndex := 82, descriptorIndex := 65, attributes := #[] }, { accessFlags := 1, nameIndex := 68, descriptorIndex := 46, attributes := #[] }] 49 8 #[] #[{ accessFlags := 26, nameIndex := 5, descriptorIndex := 6, attributes := #[] }, { accessFlags := 18, nameIndex := 15, descriptorIndex := 16, attributes := #[] }])
  fields := #[{ name := "EMPTY", type := (.object "java/util/Optional"), accessFlags := 26, slot := 0, constantValue := 0 }, { name := "value", type := (.object "java/lang/Object"), accessFlags := 18, slot := 0, constantValue := 0 }]
  methods := #[k4m0, k4m1, k4m2, k4m3]
  instanceTypes := #[(.object "java/lang/Object")]
  staticTypes := #[(.object "java/util/Optional")]
  resolved := Array.replicate 187 none
  statics := some 0 }

def pool5 : Array CpInfo := pool [(2, .class_ 4), (1, u "java/lang/Object"), (0, u "<init>"), (0, u "()V"), (35, .class_ 44), (1, u "java/util/Objects"), (0, u "requireNonNull"), (0, u "(Ljava/lang/Object;)Ljava/lang/Object;")] 137

def k5m0 : Method := { name := "<init>", desc := "()V", sig := { parameters := [], returnType := none }, accessFlags := 2, code := none }
def k5c1 : Code := { maxStack := 2, maxLocals := 1, code := jdk_31_method_10_code, exceptionTable := #[], attributes := #[] }
def k5m1 : Method := { name := "requireNonNull", desc := "(Ljava/lang/Object;)Ljava/lang/Object;", sig := { parameters := [(.object "java/lang/Object")], returnType := some (.object "java/lang/Object") }, accessFlags := 9, code := some k5c1 }
/-- java/util/Objects -/
def k5 : Class := { plain "java/util/Objects" (some 0) with
  accessFlags := 49
  interfaces := #[]
  cf := some (fileOf pool5 42 #[] #[{ accessFlags := 2, nameIndex := 5, descriptorIndex := 6, attributes := #[] }, { accessFlags := 9, nameIndex := 45, descriptorIndex := 46, attributes := #[] }] 49 2 #[] #[])
  fields := #[]
  methods := #[k5m0, k5m1]
  instanceTypes := #[]
  staticTypes := #[]
  resolved := Array.replicate 184 none
  statics := none }

def pool6 : Array CpInfo := pool [(1, .methodref 2 3), (0, .class_ 4), (0, .nameAndType 5 6), (0, u "java/lang/Record"), (0, u "<init>"), (0, u "()V"), (0, .fieldref 8 9), (0, .class_ 10), (0, .nameAndType 11 12), (0, u "com/example/inclusive_lock/inclusivelock/sim/SimulationReport"), (0, u "requests"), (0, u "I"), (0, .fieldref 8 14), (0, .nameAndType 15 12), (0, u "entries"), (0, .fieldref 8 17), (0, .nameAndType 18 12), (0, u "overlaps"), (0, .fieldref 8 20), (0, .nameAndType 21 12), (0, u "maxConcurrent"), (0, .fieldref 8 23), (0, .nameAndType 24 25), (0, u "messages"), (0, u "J"), (0, .fieldref 8 27), (0, .nameAndType 28 25), (0, u "delayMin"), (0, .fieldref 8 30), (0, .nameAndType 31 25), (0, u "delayMax"), (0, .fieldref 8 33), (0, .nameAndType 34 25), (0, u "endTime"), (0, .fieldref 8 36), (0, .nameAndType 37 38), (0, u "roleError"), (0, u "Ljava/util/Optional;"), (0, .methodref 8 40), (0, .nameAndType 41 42), (0, u "unserved"), (0, u "()I"), (0, .methodref 44 45), (0, .class_ 46), (0, .nameAndType 47 48), (0, u "java/util/Optional"), (0, u "isPresent"), (0, u "()Z"), (38, u "(IIIIJJJJLjava/util/Optional;)V"), (4, u "foundViolation")] 36

def k6c0 : Code := { maxStack := 3, maxLocals := 14, code := prog_82_method_1_code, exceptionTable := #[], attributes := #[] }
def k6m0 : Method := { name := "<init>", desc := "(IIIIJJJJLjava/util/Optional;)V", sig := { parameters := [.int, .int, .int, .int, .long, .long, .long, .long, (.object "java/util/Optional")], returnType := none }, accessFlags := 1, code := some k6c0 }
def k6c1 : Code := { maxStack := 2, maxLocals := 1, code := prog_82_method_2_code, exceptionTable := #[], attributes := #[] }
def k6m1 : Method := { name := "unserved", desc := "()I", sig := { parameters := [], returnType := some .int }, accessFlags := 1, code := some k6c1 }
def k6c2 : Code := { maxStack := 1, maxLocals := 1, code := prog_82_method_3_code, exceptionTable := #[], attributes := #[] }
def k6m2 : Method := { name := "foundViolation", desc := "()Z", sig := { parameters := [], returnType := some .boolean }, accessFlags := 1, code := some k6c2 }
/-- com/example/inclusive_lock/inclusivelock/sim/SimulationReport -/
def k6 : Class := { plain "com/example/inclusive_lock/inclusivelock/sim/SimulationReport" (some 2) with
  accessFlags := 49
  interfaces := #[]
  cf := some (fileOf pool6 8 #[] #[{ accessFlags := 1, nameIndex := 5, descriptorIndex := 87, attributes := #[] }, { accessFlags := 1, nameIndex := 41, descriptorIndex := 42, attributes := #[] }, { accessFlags := 1, nameIndex := 92, descriptorIndex := 48, attributes := #[] }] 49 2 #[] #[{ accessFlags := 18, nameIndex := 11, descriptorIndex := 12, attributes := #[] }, { accessFlags := 18, nameIndex := 15, descriptorIndex := 12, attributes := #[] }, { accessFlags := 18, nameIndex := 18, descriptorIndex := 12, attributes := #[] }, { accessFlags := 18, nameIndex := 21, descriptorIndex := 12, attributes := #[] }, { accessFlags := 18, nameIndex := 24, descriptorIndex := 25, attributes := #[] }, { accessFlags := 18, nameIndex := 28, descriptorIndex := 25, attributes := #[] }, { accessFlags := 18, nameIndex := 31, descriptorIndex := 25, attributes := #[] }, { accessFlags := 18, nameIndex := 34, descriptorIndex := 25, attributes := #[] }, { accessFlags := 18, nameIndex := 37, descriptorIndex := 38, attributes := #[] }])
  fields := #[{ name := "requests", type := .int, accessFlags := 18, slot := 0, constantValue := 0 }, { name := "entries", type := .int, accessFlags := 18, slot := 1, constantValue := 0 }, { name := "overlaps", type := .int, accessFlags := 18, slot := 2, constantValue := 0 }, { name := "maxConcurrent", type := .int, accessFlags := 18, slot := 3, constantValue := 0 }, { name := "messages", type := .long, accessFlags := 18, slot := 4, constantValue := 0 }, { name := "delayMin", type := .long, accessFlags := 18, slot := 5, constantValue := 0 }, { name := "delayMax", type := .long, accessFlags := 18, slot := 6, constantValue := 0 }, { name := "endTime", type := .long, accessFlags := 18, slot := 7, constantValue := 0 }, { name := "roleError", type := (.object "java/util/Optional"), accessFlags := 18, slot := 8, constantValue := 0 }]
  methods := #[k6m0, k6m1, k6m2]
  instanceTypes := #[.int, .int, .int, .int, .long, .long, .long, .long, (.object "java/util/Optional")]
  staticTypes := #[]
  resolved := Array.replicate 129 none
  statics := none }

def pool7 : Array CpInfo := pool [(1, u "java/lang/Cloneable"), (0, .class_ 1), (0, u "java/lang/Object"), (0, .class_ 3)] 3

/-- java/lang/Cloneable -/
def k7 : Class := { plain "java/lang/Cloneable" (some 0) with
  accessFlags := 1537
  interfaces := #[]
  cf := some (fileOf pool7 2 #[] #[] 1537 4 #[] #[])
  fields := #[]
  methods := #[]
  instanceTypes := #[]
  staticTypes := #[]
  resolved := Array.replicate 8 none
  statics := none }

def pool8 : Array CpInfo := pool [(1, u "java/io/Serializable"), (0, .class_ 1), (0, u "java/lang/Object"), (0, .class_ 3)] 3

/-- java/io/Serializable -/
def k8 : Class := { plain "java/io/Serializable" (some 0) with
  accessFlags := 1537
  interfaces := #[]
  cf := some (fileOf pool8 2 #[] #[] 1537 4 #[] #[])
  fields := #[]
  methods := #[]
  instanceTypes := #[]
  staticTypes := #[]
  resolved := Array.replicate 8 none
  statics := none }

/-- the primitive byte -/
def k9 : Class := { plain "byte" none with kind := .primitive 'B', accessFlags := 0x411 }
/-- [B -/
def k10 : Class := { plain "[B" (some 0) with kind := .array 9 .byte, interfaces := #[7, 8], accessFlags := 1041 }

/-- the primitive int -/
def k11 : Class := { plain "int" none with kind := .primitive 'I', accessFlags := 0x411 }
/-- [I -/
def k12 : Class := { plain "[I" (some 0) with kind := .array 11 .int, interfaces := #[7, 8], accessFlags := 1041 }

def heap : Heap := #[{ cls := 4, slots := #[.ref 1], vm := .statics 4 },
  { cls := 4, slots := #[.null], vm := .none }]
def classes : Array Class := #[k0, k1, k2, k3, k4, k5, k6, k7, k8, k9, k10, k11, k12]
def interned : List (Array UInt16 × Addr) := []
def slotsUsed : Nat := 2
def theMethod : MethodId := ⟨1, 1⟩
def args0 : Array Value := #[.int 5, .int 5, .int 5, .int 5, .long 5, .long 5]
def aboutOver (below : List Frame) : State where
  vm := { classes := classes, interned := interned.toArray }
  heap := heap
  slotsUsed := slotsUsed
  threads := #[{ frames := .invoking theMethod args0 :: below }]
def below0 : List Frame := [.native { method := ⟨0, 0⟩, args := #[] }]
def about1 : State := aboutOver below0
def p0 : Program := .bare "" "" ""
def e0 : Env := launch0.env 0 0 0
theorem w_frames : about1.frames = Frame.invoking theMethod args0 :: below0 := rfl
set_option maxRecDepth 65536 in
theorem w_args : argsFit about1.vm theMethod args0 = true := by decide +kernel
set_option maxRecDepth 65536 in
theorem w_heap : heapFits about1 = true := by decide +kernel
set_option maxRecDepth 65536 in
theorem w_runnable : about1.curStatus? = some .runnable := by decide +kernel
set_option maxRecDepth 65536 in
theorem w_alone : about1.alone = true := by decide +kernel
set_option maxRecDepth 65536 in
theorem w_named : about1.methodNamed? x = some theMethod := by decide +kernel
set_option maxRecDepth 65536 in
theorem w_hears : about1.hears theMethod below0 = true := by decide +kernel
set_option maxRecDepth 65536 in
theorem w_ripe : about1.ripe theMethod args0 below0 = true := by decide +kernel
theorem w_running : about1.status = .running := rfl
set_option maxRecDepth 65536 in
theorem w_room : about1.hasRoom e0.platform room_1 = true :=
  launch0.hasRoom_least _ room_1 (by decide +kernel) (by decide +kernel) (by decide +kernel) (by decide +kernel) (by decide +kernel) (by decide +kernel)
theorem allAtoms_all (ts : List Jvm.Cond) (a : Array Jvm.Value) (st : Jvm.State) : (allAtoms ts).before a st = ts.all (fun c => c.before a st) := by
  induction ts with
  | nil => rfl
  | cons c t ih =>
    show (Jvm.Cond.and c (allAtoms t)).before a st = _
    rw [Jvm.Cond.before_and, ih, List.all_cons]
def words1 : List Jvm.Cond := Jvm.Cond.code x code maxLocals ret :: tables_1
/-- a 'code' word, met by the world's own term for the bytes: nothing is compared byte by byte -/
theorem code_word {y : MethodName} {bytes : ByteArray} {mx : Nat} {rt : Option FieldType} {a : Array Value} {s : State} {m : MethodId} {meth : Method} {c : Code} (h1 : s.methodNamed? y = some m) (h2 : s.vm.method? m = some meth) (h3 : meth.code = some c) (h4 : c.code = bytes)
    (h5 : (c.maxLocals == mx && c.exceptionTable.isEmpty && decide (c.maxStack ≤ mostOperands) && decide (meth.sig.returnType = rt) && !meth.locks && decide (parseMethodDescriptor y.desc = some meth.sig)) = true) : (Jvm.Cond.code y bytes mx rt).before a s = true := by
  simp only [Bool.and_eq_true, beq_iff_eq, Bool.not_eq_true', decide_eq_true_eq] at h5
  obtain ⟨⟨⟨⟨⟨g1, g2⟩, g3⟩, g4⟩, g5⟩, g6⟩ := h5
  simp [Cond.before, Cond.holds, Cond.value, h1, h2, h3, h4, g1, g2, g3, g4, g5, g6]
def isCode : Jvm.Cond → Bool
  | .code _ _ _ _ => true
  | _ => false
theorem all_split {L : List Jvm.Cond} {P : Jvm.Cond → Bool} (h1 : L.all (fun c => isCode c || P c) = true) (h2 : ∀ c ∈ L.filter isCode, P c = true) : L.all P = true := by
  refine List.all_eq_true.mpr fun c hc => ?_
  have h := List.all_eq_true.mp h1 c hc
  rcases Bool.eq_false_or_eq_true (isCode c) with hi | hi
  · exact h2 c (List.mem_filter.mpr ⟨hc, hi⟩)
  · simpa [hi] using h
set_option maxRecDepth 65536 in
theorem w_c0 : (Jvm.Cond.code x code maxLocals ret).before args0 about1 = true := code_word (m := ⟨1, 1⟩) (meth := k1m1) (c := k1c1) (by decide +kernel) rfl rfl rfl (by decide +kernel)
set_option maxRecDepth 65536 in
theorem w_c1 : (Jvm.Cond.code ({ cls := "com/example/inclusive_lock/inclusivelock/sim/RoleError", name := "<init>", desc := "(JJLjava/lang/RuntimeException;)V" } : Jvm.MethodName) prog_75_method_1_code (6 : Nat) (Option.none : Option Jvm.ClassFile.FieldType)).before args0 about1 = true := code_word (m := ⟨3, 0⟩) (meth := k3m0) (c := k3c0) (by decide +kernel) rfl rfl rfl (by decide +kernel)
set_option maxRecDepth 65536 in
theorem w_c2 : (Jvm.Cond.code ({ cls := "java/lang/Record", name := "<init>", desc := "()V" } : Jvm.MethodName) jdk_30_method_1_code (1 : Nat) (Option.none : Option Jvm.ClassFile.FieldType)).before args0 about1 = true := code_word (m := ⟨2, 0⟩) (meth := k2m0) (c := k2c0) (by decide +kernel) rfl rfl rfl (by decide +kernel)
set_option maxRecDepth 65536 in
theorem w_c3 : (Jvm.Cond.code ({ cls := "java/lang/Object", name := "<init>", desc := "()V" } : Jvm.MethodName) object_method_1_code (1 : Nat) (Option.none : Option Jvm.ClassFile.FieldType)).before args0 about1 = true := code_word (m := ⟨0, 0⟩) (meth := k0m0) (c := k0c0) (by decide +kernel) rfl rfl rfl (by decide +kernel)
set_option maxRecDepth 65536 in
theorem w_c4 : (Jvm.Cond.code ({ cls := "java/util/Optional", name := "of", desc := "(Ljava/lang/Object;)Ljava/util/Optional;" } : Jvm.MethodName) jdk_32_method_3_code (1 : Nat) (Option.some (Jvm.ClassFile.FieldType.object "java/util/Optional"))).before args0 about1 = true := code_word (m := ⟨4, 2⟩) (meth := k4m2) (c := k4c2) (by decide +kernel) rfl rfl rfl (by decide +kernel)
set_option maxRecDepth 65536 in
theorem w_c5 : (Jvm.Cond.code ({ cls := "java/util/Objects", name := "requireNonNull", desc := "(Ljava/lang/Object;)Ljava/lang/Object;" } : Jvm.MethodName) jdk_31_method_10_code (1 : Nat) (Option.some (Jvm.ClassFile.FieldType.object "java/lang/Object"))).before args0 about1 = true := code_word (m := ⟨5, 1⟩) (meth := k5m1) (c := k5c1) (by decide +kernel) rfl rfl rfl (by decide +kernel)
set_option maxRecDepth 65536 in
theorem w_c6 : (Jvm.Cond.code ({ cls := "java/util/Optional", name := "<init>", desc := "(Ljava/lang/Object;)V" } : Jvm.MethodName) jdk_32_method_2_code (2 : Nat) (Option.none : Option Jvm.ClassFile.FieldType)).before args0 about1 = true := code_word (m := ⟨4, 1⟩) (meth := k4m1) (c := k4c1) (by decide +kernel) rfl rfl rfl (by decide +kernel)
set_option maxRecDepth 65536 in
theorem w_c7 : (Jvm.Cond.code ({ cls := "com/example/inclusive_lock/inclusivelock/sim/SimulationReport", name := "<init>", desc := "(IIIIJJJJLjava/util/Optional;)V" } : Jvm.MethodName) prog_82_method_1_code (14 : Nat) (Option.none : Option Jvm.ClassFile.FieldType)).before args0 about1 = true := code_word (m := ⟨6, 0⟩) (meth := k6m0) (c := k6c0) (by decide +kernel) rfl rfl rfl (by decide +kernel)
set_option maxRecDepth 65536 in
theorem w_c8 : (Jvm.Cond.code ({ cls := "com/example/inclusive_lock/inclusivelock/sim/SimulationReport", name := "foundViolation", desc := "()Z" } : Jvm.MethodName) prog_82_method_3_code (1 : Nat) (Option.some Jvm.ClassFile.FieldType.boolean)).before args0 about1 = true := code_word (m := ⟨6, 2⟩) (meth := k6m2) (c := k6c2) (by decide +kernel) rfl rfl rfl (by decide +kernel)
set_option maxRecDepth 65536 in
theorem w_c9 : (Jvm.Cond.code ({ cls := "com/example/inclusive_lock/inclusivelock/sim/SimulationReport", name := "unserved", desc := "()I" } : Jvm.MethodName) prog_82_method_2_code (1 : Nat) (Option.some Jvm.ClassFile.FieldType.int)).before args0 about1 = true := code_word (m := ⟨6, 1⟩) (meth := k6m1) (c := k6c1) (by decide +kernel) rfl rfl rfl (by decide +kernel)
set_option maxRecDepth 65536 in
theorem w_c10 : (Jvm.Cond.code ({ cls := "java/util/Optional", name := "empty", desc := "()Ljava/util/Optional;" } : Jvm.MethodName) jdk_32_method_1_code (1 : Nat) (Option.some (Jvm.ClassFile.FieldType.object "java/util/Optional"))).before args0 about1 = true := code_word (m := ⟨4, 0⟩) (meth := k4m0) (c := k4c0) (by decide +kernel) rfl rfl rfl (by decide +kernel)
set_option maxRecDepth 65536 in
theorem w_c11 : (Jvm.Cond.code ({ cls := "java/util/Optional", name := "isPresent", desc := "()Z" } : Jvm.MethodName) jdk_32_method_6_code (1 : Nat) (Option.some Jvm.ClassFile.FieldType.boolean)).before args0 about1 = true := code_word (m := ⟨4, 3⟩) (meth := k4m3) (c := k4c3) (by decide +kernel) rfl rfl rfl (by decide +kernel)
def codes1 : List Jvm.Cond := [Jvm.Cond.code x code maxLocals ret, Jvm.Cond.code ({ cls := "com/example/inclusive_lock/inclusivelock/sim/RoleError", name := "<init>", desc := "(JJLjava/lang/RuntimeException;)V" } : Jvm.MethodName) prog_75_method_1_code (6 : Nat) (Option.none : Option Jvm.ClassFile.FieldType), Jvm.Cond.code ({ cls := "java/lang/Record", name := "<init>", desc := "()V" } : Jvm.MethodName) jdk_30_method_1_code (1 : Nat) (Option.none : Option Jvm.ClassFile.FieldType), Jvm.Cond.code ({ cls := "java/lang/Object", name := "<init>", desc := "()V" } : Jvm.MethodName) object_method_1_code (1 : Nat) (Option.none : Option Jvm.ClassFile.FieldType), Jvm.Cond.code ({ cls := "java/util/Optional", name := "of", desc := "(Ljava/lang/Object;)Ljava/util/Optional;" } : Jvm.MethodName) jdk_32_method_3_code (1 : Nat) (Option.some (Jvm.ClassFile.FieldType.object "java/util/Optional")), Jvm.Cond.code ({ cls := "java/util/Objects", name := "requireNonNull", desc := "(Ljava/lang/Object;)Ljava/lang/Object;" } : Jvm.MethodName) jdk_31_method_10_code (1 : Nat) (Option.some (Jvm.ClassFile.FieldType.object "java/lang/Object")), Jvm.Cond.code ({ cls := "java/util/Optional", name := "<init>", desc := "(Ljava/lang/Object;)V" } : Jvm.MethodName) jdk_32_method_2_code (2 : Nat) (Option.none : Option Jvm.ClassFile.FieldType), Jvm.Cond.code ({ cls := "com/example/inclusive_lock/inclusivelock/sim/SimulationReport", name := "<init>", desc := "(IIIIJJJJLjava/util/Optional;)V" } : Jvm.MethodName) prog_82_method_1_code (14 : Nat) (Option.none : Option Jvm.ClassFile.FieldType), Jvm.Cond.code ({ cls := "com/example/inclusive_lock/inclusivelock/sim/SimulationReport", name := "foundViolation", desc := "()Z" } : Jvm.MethodName) prog_82_method_3_code (1 : Nat) (Option.some Jvm.ClassFile.FieldType.boolean), Jvm.Cond.code ({ cls := "com/example/inclusive_lock/inclusivelock/sim/SimulationReport", name := "unserved", desc := "()I" } : Jvm.MethodName) prog_82_method_2_code (1 : Nat) (Option.some Jvm.ClassFile.FieldType.int), Jvm.Cond.code ({ cls := "java/util/Optional", name := "empty", desc := "()Ljava/util/Optional;" } : Jvm.MethodName) jdk_32_method_1_code (1 : Nat) (Option.some (Jvm.ClassFile.FieldType.object "java/util/Optional")), Jvm.Cond.code ({ cls := "java/util/Optional", name := "isPresent", desc := "()Z" } : Jvm.MethodName) jdk_32_method_6_code (1 : Nat) (Option.some Jvm.ClassFile.FieldType.boolean)]
set_option maxRecDepth 65536 in
theorem codes_eq : words1.filter isCode = codes1 := rfl
theorem w_codes : ∀ c ∈ words1.filter isCode, c.before args0 about1 = true := by
  rw [codes_eq]
  intro c hc
  simp only [codes1, List.mem_cons, List.not_mem_nil, or_false] at hc
  rcases hc with rfl | rfl | rfl | rfl | rfl | rfl | rfl | rfl | rfl | rfl | rfl | rfl
  · exact w_c0
  · exact w_c1
  · exact w_c2
  · exact w_c3
  · exact w_c4
  · exact w_c5
  · exact w_c6
  · exact w_c7
  · exact w_c8
  · exact w_c9
  · exact w_c10
  · exact w_c11
set_option maxRecDepth 65536 in
theorem w_t1 : (words1.take 24).all (fun c => isCode c || c.before args0 about1) = true := by decide +kernel
set_option maxRecDepth 65536 in
theorem w_t2 : ((words1.drop 24).take 24).all (fun c => isCode c || c.before args0 about1) = true := by decide +kernel
set_option maxRecDepth 65536 in
theorem w_t3 : (((words1.drop 24).drop 24).take 24).all (fun c => isCode c || c.before args0 about1) = true := by decide +kernel
set_option maxRecDepth 65536 in
theorem w_t4 : (((words1.drop 24).drop 24).drop 24).all (fun c => isCode c || c.before args0 about1) = true := by decide +kernel
theorem w_tables : (allAtoms (Jvm.Cond.code x code maxLocals ret :: tables_1)).before args0 about1 = true := by
  rw [allAtoms_all]
  show words1.all (fun c => c.before args0 about1) = true
  refine all_split ?_ w_codes
  rw [← List.take_append_drop 24 words1, List.all_append, w_t1, ← List.take_append_drop 24 (words1.drop 24), List.all_append, w_t2, ← List.take_append_drop 24 ((words1.drop 24).drop 24), List.all_append, w_t3, w_t4]
  rfl
set_option maxRecDepth 65536 in
theorem w_rest : rest_1_c.before args0 about1 = true := by decide +kernel
set_option maxRecDepth 65536 in
theorem w_case : (Jvm.Cond.and given_1 narrow_1).before args0 about1 = true := by decide +kernel
theorem w_applies : (headSpec (Jvm.Cond.code x code maxLocals ret :: tables_1) room_1).applies x e0.platform about1 = true :=
  (Spec.applies_iff w_frames).mpr ⟨w_running, w_runnable, w_alone, w_named, w_hears, w_ripe, w_room, w_tables⟩
theorem atStart : AtStart classFile x code maxLocals ret World_1 tables_1 room_1 Calls_1 rest_1 Pre_1 launch0 p0 e0 about1 theMethod args0 below0 :=
  ⟨lists_1, trivial, launch0.admits_env _ _ _, launch0.least_env, fairChoices_fair.cas, fairChoices_fair.clock, w_frames, w_args, w_heap, w_applies, trivial, w_rest, w_case⟩
end start1
theorem witness_1 : WitnessClaimed_1 := ⟨start1.p0, start1.e0, start1.about1, start1.theMethod, start1.args0, start1.below0, start1.atStart⟩
end Jvm.Pilot.@@N@@
