import JvmDerived
import JvmDerived.Pilot.@@N@@Statement
import JvmDerived.Pilot.@@N@@Code
set_option linter.unusedVariables false
set_option linter.unusedSimpArgs false
namespace Jvm.Pilot.@@N@@
open Jvm Jvm.ClassFile Sem Op Lib Jvm.Free Jvm.Stand Jvm.LawKit Jvm.RoadKit Bundle Jvm.Pilot.@@N@@.Jvm.D
section OwnKit
variable {p : Program} {l : Launch} {e : Env} {R : Room} {s : State} {m : MethodId} {args : Array Value} {below : List Frame} {meth : Method} {c : Code} {T : State} {locs : List Loc} {cells slots : Nat} {Q : Option Value → Heap → List Loc → Prop} {F : Option Value → State → Prop} {KC KS : Nat} {bs : ByteArray} {pc pc' : Nat} {Ls l' : Array Slot} {st : List Value}
/-- from U the run comes to its end: it returns v, and F says what it leaves -/
def own_End (p : Program) (e : Env) (below : List Frame) (F : Option Value → State → Prop) (U : State) : Prop :=
  ∃ s₂ v, Steps p.tables e below U s₂ ∧ s₂.status = .running ∧ Ended s₂ below (.returned v) ∧ F v s₂
def own_F (s : State) (Q : Option Value → Heap → List Loc → Prop) (KC KS : Nat) : Option Value → State → Prop := fun v s₂ => ∃ L, Q v s₂.heap L ∧ FrameEnd s (.returned v) s₂ L KC KS
def own_FS (s : State) (Q : Option Value → Heap → List Loc → Prop) (KC KS : Nat) : Option Value → State → Prop := fun v s₂ => ∃ L, Q v s₂.heap L ∧ ReturnedEndW s (.returned v) s₂ L KC KS
theorem own_body {U : State} (h : own_End p e below (own_F s Q KC KS) U) : ∃ s₂ o, Steps p.tables e below U s₂ ∧ s₂.status = .running ∧ Ended s₂ below o ∧ ∃ v L, o = .returned v ∧ Q v s₂.heap L ∧ FrameEnd s o s₂ L KC KS := by
  obtain ⟨s2, v, h1, h2, h3, L, h4, h5⟩ := h
  exact ⟨s2, _, h1, h2, h3, v, L, rfl, h4, h5⟩
theorem own_bodyS {U : State} (h : own_End p e below (own_FS s Q KC KS) U) : ∃ s₂ o, Steps p.tables e below U s₂ ∧ s₂.status = .running ∧ Ended s₂ below o ∧ ∃ v L, o = .returned v ∧ Q v s₂.heap L ∧ ReturnedEndW s o s₂ L KC KS := by
  obtain ⟨s2, v, h1, h2, h3, L, h4, h5⟩ := h
  exact ⟨s2, _, h1, h2, h3, v, L, rfl, h4, h5⟩
theorem own_step {U U' : State} (k : ∀ t, Steps p.tables e below U' t → Steps p.tables e below U t) (h : own_End p e below F U') : own_End p e below F U := by
  obtain ⟨s2, v, h1, h2⟩ := h
  exact ⟨s2, v, k _ h1, h2⟩
theorem own_trans {U U' : State} (k : Steps p.tables e below U U') (h : own_End p e below F U') : own_End p e below F U := by
  obtain ⟨s2, v, h1, h2⟩ := h
  exact ⟨s2, v, k.trans h1, h2⟩
theorem own_mono {cells' slots' : Nat} (X : Stand p l e R s m args below meth c T locs cells slots) (hc : cells ≤ cells') (hs : slots ≤ slots') : Stand p l e R s m args below meth c T locs cells' slots' := X.mono hc hs
theorem own_selPriv {y : MethodName} {n : Nat} (wi : (Cond.instantiable y.cls n).before args s = true) (hp : s.PrivateAt y) (hi : (Cond.instanceMethod y).before args s = true) (hy : y.cls ≠ "java/lang/invoke/MethodHandle" ∧ y.cls ≠ "java/lang/invoke/VarHandle") : (Cond.selects y.cls y y).before args s = true := by
  obtain ⟨c, k, h1, h2, -, h4, -⟩ := Cond.instantiable_spec wi
  exact selects_self_of_private h1 h2 (by simp only [Bool.or_eq_false_iff] at h4; exact h4.1) hp hi hy
theorem own_sta0 {Z : State} {h h' : Heap} {C n d : String} {v : Value} (S : Sta Z h C n d v) (K : Keep h h' []) : Sta Z h' C n d v := by
  obtain ⟨cf, i, k, f, st, cell, h1, h2, h3, h4, h5, h6, h7⟩ := S
  exact ⟨cf, i, k, f, st, cell, h1, h2, h3, h4, K.2.1 _ _ h5 nin0, h6, h7⟩
theorem own_sta1 {Z : State} {h h' : Heap} {C n d D : String} {v : Value} {a : Addr} (S : Sta Z h C n d v) (K : Keep h h' [a]) (E : Exa Z h a D) : Sta Z h' C n d v := by
  obtain ⟨cf, i, k, f, st, cell, h1, h2, h3, h4, h5, h6, h7⟩ := S
  obtain ⟨c', k', g1, -, -, g4, -⟩ := E
  have ne : st ≠ a := fun q => by subst q; cases h5.symm.trans g1; rw [g4] at h6; cases h6
  exact ⟨cf, i, k, f, st, cell, h1, h2, h3, h4, K.2.1 _ _ h5 (ninS ne nin0), h6, h7⟩
theorem own_cat1 {w : Value} (h : w.isRef = true) : w.category = 1 := by rcases ref_cases h with rfl | ⟨z, rfl⟩ <;> rfl
theorem own_nar {w : Value} {t : FieldType} (h : w.isRef = true) (ht : t.isReference = true) : narrow t w = w := by rcases ref_cases h with rfl | ⟨z, rfl⟩ <;> cases t <;> first | rfl | cases ht
theorem own_fit {w : Value} {t : FieldType} (h : w.isRef = true) (ht : t.isReference = true) : fits t w = true := by rcases ref_cases h with rfl | ⟨z, rfl⟩ <;> cases t <;> first | rfl | cases ht
/-- what the frame says where the run leaves -/
def own_Lv (F : Option Value → State → Prop) (s T : State) (locs : List Loc) (cells slots : Nat) (v : Option Value) : Prop := ∀ fs, s.WarmedH (T.setFrames fs).vm → s.sameButNew ({ T.setFrames fs with vm := s.vm } : State) locs cells slots → F v (T.setFrames fs)
theorem own_lv {v : Option Value} (hQ : Q v T.heap locs) (hc : cells ≤ KC) (hs : slots ≤ KS) : own_Lv (own_F s Q KC KS) s T locs cells slots v := fun fs hW hsm => ⟨locs, hQ, ⟨_, rfl⟩, hW, hsm.mono hc hs⟩
theorem own_lvS {v : Option Value} {vm₁ : Vm} {n : Nat} (hS : s.Since vm₁ n) (hn : n ≤ T.heap.size) (hQ : Q v T.heap locs) (hc : cells ≤ KC) (hs : slots ≤ KS) : own_Lv (own_FS s Q KC KS) (s.setVm vm₁) T locs cells slots v := fun fs hW hsm => by
  obtain ⟨a, b, c'⟩ := hS.ended (U := T.setFrames fs) hW hn hsm
  exact ⟨locs, hQ, ⟨_, rfl⟩, a, b, c'.mono hc hs⟩
theorem own_retW (X : Stand p l e R s m args below meth c T locs cells slots) (hx : p.tables.exec = Jvm.exec) (hlk : meth.locks = false) (hby : c.code = bs) {w : Value} {t : FieldType} {i : Instr} {rest : List Value} (hret : meth.sig.returnType = some t) (hn : narrow t w = w)
    (hi : (i = .ireturn ∧ (t = .int ∨ t = .boolean ∨ t = .byte ∨ t = .char ∨ t = .short) ∧ ∃ z, w = .int z) ∨ (i = .lreturn ∧ t = .long ∧ ∃ z, w = .long z) ∨ (i = .dreturn ∧ t = .double ∧ ∃ z, w = .double z) ∨ (i = .freturn ∧ t = .float ∧ ∃ z, w = .float z) ∨ (i = .areturn ∧ t.isReference = true ∧ w.isRef = true))
    (hd : decode bs pc = .ok (i, 1)) (hF : own_Lv F s T locs cells slots (some w)) : own_End p e below F (T.setTop (mkF m pc Ls (w :: rest))) := by
  obtain ⟨fs, hr, hrun, hended, hW, hsame⟩ := X.leave (v := some w) (fun h => by rw [hret] at h; cases h) hlk
  exact ⟨_, _, retOut X hx hret hn hi (hb hby hd) hr, hrun, hended, hF fs hW hsame⟩
theorem own_ireturn (X : Stand p l e R s m args below meth c T locs cells slots) (hx : p.tables.exec = Jvm.exec) (hlk : meth.locks = false) (hby : c.code = bs) {z : Int32} {rest : List Value} (hret : meth.sig.returnType = some .int)
    (hd : decode bs pc = .ok (.ireturn, 1)) (hF : own_Lv F s T locs cells slots (some (.int z))) : own_End p e below F (T.setTop (mkF m pc Ls (.int z :: rest))) :=
  own_retW X hx hlk hby hret rfl (Or.inl ⟨rfl, Or.inl rfl, _, rfl⟩) hd hF
theorem own_zreturn (X : Stand p l e R s m args below meth c T locs cells slots) (hx : p.tables.exec = Jvm.exec) (hlk : meth.locks = false) (hby : c.code = bs) {z : Int32} {rest : List Value} (hret : meth.sig.returnType = some .boolean) (hz : z = 0 ∨ z = 1)
    (hd : decode bs pc = .ok (.ireturn, 1)) (hF : own_Lv F s T locs cells slots (some (.int z))) : own_End p e below F (T.setTop (mkF m pc Ls (.int z :: rest))) :=
  own_retW X hx hlk hby hret (by rcases hz with rfl | rfl <;> rfl) (Or.inl ⟨rfl, Or.inr (Or.inl rfl), _, rfl⟩) hd hF
theorem own_breturn (X : Stand p l e R s m args below meth c T locs cells slots) (hx : p.tables.exec = Jvm.exec) (hlk : meth.locks = false) (hby : c.code = bs) {z : Int32} {rest : List Value} (hret : meth.sig.returnType = some .byte) (hz : z.toInt8.toInt32 = z)
    (hd : decode bs pc = .ok (.ireturn, 1)) (hF : own_Lv F s T locs cells slots (some (.int z))) : own_End p e below F (T.setTop (mkF m pc Ls (.int z :: rest))) :=
  own_retW X hx hlk hby hret (show Value.int z.toInt8.toInt32 = .int z by rw [hz]) (Or.inl ⟨rfl, Or.inr (Or.inr (Or.inl rfl)), _, rfl⟩) hd hF
theorem own_lreturn (X : Stand p l e R s m args below meth c T locs cells slots) (hx : p.tables.exec = Jvm.exec) (hlk : meth.locks = false) (hby : c.code = bs) {z : Int64} {rest : List Value} (hret : meth.sig.returnType = some .long)
    (hd : decode bs pc = .ok (.lreturn, 1)) (hF : own_Lv F s T locs cells slots (some (.long z))) : own_End p e below F (T.setTop (mkF m pc Ls (.long z :: rest))) :=
  own_retW X hx hlk hby hret rfl (Or.inr (Or.inl ⟨rfl, rfl, _, rfl⟩)) hd hF
theorem own_areturn (X : Stand p l e R s m args below meth c T locs cells slots) (hx : p.tables.exec = Jvm.exec) (hlk : meth.locks = false) (hby : c.code = bs) {w : Value} {t : FieldType} {rest : List Value} (hret : meth.sig.returnType = some t) (ht : t.isReference = true) (hw : w.isRef = true)
    (hd : decode bs pc = .ok (.areturn, 1)) (hF : own_Lv F s T locs cells slots (some w)) : own_End p e below F (T.setTop (mkF m pc Ls (w :: rest))) :=
  own_retW X hx hlk hby hret (own_nar hw ht) (Or.inr (Or.inr (Or.inr (Or.inr ⟨rfl, ht, hw⟩)))) hd hF
theorem own_return (X : Stand p l e R s m args below meth c T locs cells slots) (hx : p.tables.exec = Jvm.exec) (hlk : meth.locks = false) (hby : c.code = bs) (hret : meth.sig.returnType = none)
    (hd : decode bs pc = .ok (.return_, 1)) (hF : own_Lv F s T locs cells slots none) : own_End p e below F (T.setTop (mkF m pc Ls [])) := by
  obtain ⟨fs, hr, hrun, hended, hW, hsame⟩ := X.leave (v := none) (fun _ => rfl) hlk
  exact ⟨_, _, X.returnOut hx hret (hb hby hd) hr, hrun, hended, hF fs hW hsame⟩
section Plain
theorem own_iload (X : Stand p l e R s m args below meth c T locs cells slots) (hx : p.tables.exec = Jvm.exec) (hby : c.code = bs) {k : Nat} {v : Int32} (hd : decode bs pc = .ok (.iload k, 2)) (hp : pc + 2 = pc') (hl : Ls[k]? = some (.val (.int v))) (h : own_End p e below F (T.setTop (mkF m pc' Ls (.int v :: st)))) : own_End p e below F (T.setTop (mkF m pc Ls st)) := by
  subst hp; exact own_step (fun t k => XS.iload X.here hx rfl (hb hby hd) hl k) h
theorem own_iloadN (X : Stand p l e R s m args below meth c T locs cells slots) (hx : p.tables.exec = Jvm.exec) (hby : c.code = bs) {k : Fin 4} {v : Int32} (hd : decode bs pc = .ok (.iload_n k, 1)) (hp : pc + 1 = pc') (hl : Ls[k.val]? = some (.val (.int v))) (h : own_End p e below F (T.setTop (mkF m pc' Ls (.int v :: st)))) : own_End p e below F (T.setTop (mkF m pc Ls st)) := by
  subst hp; exact own_step (fun t k => XS.iloadN X.here hx rfl (hb hby hd) hl k) h
theorem own_lload (X : Stand p l e R s m args below meth c T locs cells slots) (hx : p.tables.exec = Jvm.exec) (hby : c.code = bs) {k : Nat} {v : Int64} (hd : decode bs pc = .ok (.lload k, 2)) (hp : pc + 2 = pc') (hl : Ls[k]? = some (.val (.long v))) (h : own_End p e below F (T.setTop (mkF m pc' Ls (.long v :: st)))) : own_End p e below F (T.setTop (mkF m pc Ls st)) := by
  subst hp; exact own_step (fun t k => XS.lload X.here hx rfl (hb hby hd) hl k) h
theorem own_lloadN (X : Stand p l e R s m args below meth c T locs cells slots) (hx : p.tables.exec = Jvm.exec) (hby : c.code = bs) {k : Fin 4} {v : Int64} (hd : decode bs pc = .ok (.lload_n k, 1)) (hp : pc + 1 = pc') (hl : Ls[k.val]? = some (.val (.long v))) (h : own_End p e below F (T.setTop (mkF m pc' Ls (.long v :: st)))) : own_End p e below F (T.setTop (mkF m pc Ls st)) := by
  subst hp; exact own_step (fun t k => XS.lloadN X.here hx rfl (hb hby hd) hl k) h
theorem own_aload (X : Stand p l e R s m args below meth c T locs cells slots) (hx : p.tables.exec = Jvm.exec) (hby : c.code = bs) {k : Nat} {v : Value} (hd : decode bs pc = .ok (.aload k, 2)) (hp : pc + 2 = pc') (hl : Ls[k]? = some (.val v)) (hv : v.isRef = true) (h : own_End p e below F (T.setTop (mkF m pc' Ls (v :: st)))) : own_End p e below F (T.setTop (mkF m pc Ls st)) := by
  subst hp; exact own_step (fun t k => XS.aload X.here hx rfl (hb hby hd) hl hv k) h
theorem own_aloadN (X : Stand p l e R s m args below meth c T locs cells slots) (hx : p.tables.exec = Jvm.exec) (hby : c.code = bs) {k : Fin 4} {v : Value} (hd : decode bs pc = .ok (.aload_n k, 1)) (hp : pc + 1 = pc') (hl : Ls[k.val]? = some (.val v)) (hv : v.isRef = true) (h : own_End p e below F (T.setTop (mkF m pc' Ls (v :: st)))) : own_End p e below F (T.setTop (mkF m pc Ls st)) := by
  subst hp; exact own_step (fun t k => XS.aloadN X.here hx rfl (hb hby hd) hl hv k) h
theorem own_istore (X : Stand p l e R s m args below meth c T locs cells slots) (hx : p.tables.exec = Jvm.exec) (hby : c.code = bs) {k : Nat} {x : Int32} (hd : decode bs pc = .ok (.istore k, 2)) (hp : pc + 2 = pc') (hl : storeLocals Ls k (.int x) = some l') (h : own_End p e below F (T.setTop (mkF m pc' l' st))) : own_End p e below F (T.setTop (mkF m pc Ls (.int x :: st))) := by
  subst hp; exact own_step (fun t k => XS.istore X.here hx rfl (hb hby hd) rfl hl k) h
theorem own_istoreN (X : Stand p l e R s m args below meth c T locs cells slots) (hx : p.tables.exec = Jvm.exec) (hby : c.code = bs) {k : Fin 4} {x : Int32} (hd : decode bs pc = .ok (.istore_n k, 1)) (hp : pc + 1 = pc') (hl : storeLocals Ls k.val (.int x) = some l') (h : own_End p e below F (T.setTop (mkF m pc' l' st))) : own_End p e below F (T.setTop (mkF m pc Ls (.int x :: st))) := by
  subst hp; exact own_step (fun t k => XS.istoreN X.here hx rfl (hb hby hd) rfl hl k) h
theorem own_lstore (X : Stand p l e R s m args below meth c T locs cells slots) (hx : p.tables.exec = Jvm.exec) (hby : c.code = bs) {k : Nat} {x : Int64} (hd : decode bs pc = .ok (.lstore k, 2)) (hp : pc + 2 = pc') (hl : storeLocals Ls k (.long x) = some l') (h : own_End p e below F (T.setTop (mkF m pc' l' st))) : own_End p e below F (T.setTop (mkF m pc Ls (.long x :: st))) := by
  subst hp; exact own_step (fun t k => XS.lstore X.here hx rfl (hb hby hd) rfl hl k) h
theorem own_lstoreN (X : Stand p l e R s m args below meth c T locs cells slots) (hx : p.tables.exec = Jvm.exec) (hby : c.code = bs) {k : Fin 4} {x : Int64} (hd : decode bs pc = .ok (.lstore_n k, 1)) (hp : pc + 1 = pc') (hl : storeLocals Ls k.val (.long x) = some l') (h : own_End p e below F (T.setTop (mkF m pc' l' st))) : own_End p e below F (T.setTop (mkF m pc Ls (.long x :: st))) := by
  subst hp; exact own_step (fun t k => XS.lstoreN X.here hx rfl (hb hby hd) rfl hl k) h
theorem own_astore (X : Stand p l e R s m args below meth c T locs cells slots) (hx : p.tables.exec = Jvm.exec) (hby : c.code = bs) {k : Nat} {x : Value} (hd : decode bs pc = .ok (.astore k, 2)) (hp : pc + 2 = pc') (hv : x.isRef = true) (hl : storeLocals Ls k x = some l') (h : own_End p e below F (T.setTop (mkF m pc' l' st))) : own_End p e below F (T.setTop (mkF m pc Ls (x :: st))) := by
  subst hp; exact own_step (fun t k => XS.astore X.here hx rfl (hb hby hd) rfl hv hl k) h
theorem own_astoreN (X : Stand p l e R s m args below meth c T locs cells slots) (hx : p.tables.exec = Jvm.exec) (hby : c.code = bs) {k : Fin 4} {x : Value} (hd : decode bs pc = .ok (.astore_n k, 1)) (hp : pc + 1 = pc') (hv : x.isRef = true) (hl : storeLocals Ls k.val x = some l') (h : own_End p e below F (T.setTop (mkF m pc' l' st))) : own_End p e below F (T.setTop (mkF m pc Ls (x :: st))) := by
  subst hp; exact own_step (fun t k => XS.astoreN X.here hx rfl (hb hby hd) rfl hv hl k) h
theorem own_iinc (X : Stand p l e R s m args below meth c T locs cells slots) (hx : p.tables.exec = Jvm.exec) (hby : c.code = bs) {k : Nat} {cst : Int} {x y : Int32} (hd : decode bs pc = .ok (.iinc k cst, 3)) (hp : pc + 3 = pc') (hl : Ls[k]? = some (.val (.int x))) (hy : x + Int32.ofInt cst = y) (hl' : storeLocals Ls k (.int y) = some l') (h : own_End p e below F (T.setTop (mkF m pc' l' st))) : own_End p e below F (T.setTop (mkF m pc Ls st)) := by
  subst hp hy; exact own_step (fun t k => XS.iinc X.here hx rfl (hb hby hd) hl hl' k) h
theorem own_iconst (X : Stand p l e R s m args below meth c T locs cells slots) (hx : p.tables.exec = Jvm.exec) (hby : c.code = bs) {i : Int} {n : Int32} (hd : decode bs pc = .ok (.iconst i, 1)) (hp : pc + 1 = pc') (hn : Int32.ofInt i = n) (h : own_End p e below F (T.setTop (mkF m pc' Ls (.int n :: st)))) : own_End p e below F (T.setTop (mkF m pc Ls st)) := by
  subst hp hn; exact own_step (fun t k => XS.iconst X.here hx rfl (hb hby hd) k) h
theorem own_bipush (X : Stand p l e R s m args below meth c T locs cells slots) (hx : p.tables.exec = Jvm.exec) (hby : c.code = bs) {i : Int} {n : Int32} (hd : decode bs pc = .ok (.bipush i, 2)) (hp : pc + 2 = pc') (hn : (Int8.ofInt i).toInt32 = n) (h : own_End p e below F (T.setTop (mkF m pc' Ls (.int n :: st)))) : own_End p e below F (T.setTop (mkF m pc Ls st)) := by
  subst hp hn; exact own_step (fun t k => XS.bipush X.here hx rfl (hb hby hd) k) h
theorem own_sipush (X : Stand p l e R s m args below meth c T locs cells slots) (hx : p.tables.exec = Jvm.exec) (hby : c.code = bs) {i : Int} {n : Int32} (hd : decode bs pc = .ok (.sipush i, 3)) (hp : pc + 3 = pc') (hn : (Int16.ofInt i).toInt32 = n) (h : own_End p e below F (T.setTop (mkF m pc' Ls (.int n :: st)))) : own_End p e below F (T.setTop (mkF m pc Ls st)) := by
  subst hp hn; exact own_step (fun t k => XS.sipush X.here hx rfl (hb hby hd) k) h
theorem own_lconst (X : Stand p l e R s m args below meth c T locs cells slots) (hx : p.tables.exec = Jvm.exec) (hby : c.code = bs) {i : Fin 2} {n : Int64} (hd : decode bs pc = .ok (.lconst i, 1)) (hp : pc + 1 = pc') (hn : Int64.ofNat i.val = n) (h : own_End p e below F (T.setTop (mkF m pc' Ls (.long n :: st)))) : own_End p e below F (T.setTop (mkF m pc Ls st)) := by
  subst hp hn; exact own_step (fun t k => XS.lconst X.here hx rfl (hb hby hd) k) h
theorem own_aconst_null (X : Stand p l e R s m args below meth c T locs cells slots) (hx : p.tables.exec = Jvm.exec) (hby : c.code = bs) (hd : decode bs pc = .ok (.aconst_null, 1)) (hp : pc + 1 = pc') (h : own_End p e below F (T.setTop (mkF m pc' Ls (.null :: st)))) : own_End p e below F (T.setTop (mkF m pc Ls st)) := by
  subst hp; exact own_step (fun t k => XS.aconstNull X.here hx rfl (hb hby hd) k) h
theorem own_goto (X : Stand p l e R s m args below meth c T locs cells slots) (hx : p.tables.exec = Jvm.exec) (hby : c.code = bs) {o : Int} (hd : decode bs pc = .ok (.goto o, 3)) (ho : 0 ≤ (pc : Int) + o) (hp : ((pc : Int) + o).toNat = pc') (h : own_End p e below F (T.setTop (mkF m pc' Ls st))) : own_End p e below F (T.setTop (mkF m pc Ls st)) :=
  own_step (fun t k => XS.goto X.here hx rfl (pc0 := pc) (pc' := pc') rfl (hb hby hd) ho hp k) h
theorem own_dup (X : Stand p l e R s m args below meth c T locs cells slots) (hx : p.tables.exec = Jvm.exec) (hby : c.code = bs) {x : Value} (hd : decode bs pc = .ok (.dup, 1)) (hp : pc + 1 = pc') (hc : x.category = 1) (h : own_End p e below F (T.setTop (mkF m pc' Ls (x :: x :: st)))) : own_End p e below F (T.setTop (mkF m pc Ls (x :: st))) := by
  subst hp; exact own_step (fun t k => XS.dup X.here hx rfl (hb hby hd) rfl hc k) h
theorem own_dup_x1 (X : Stand p l e R s m args below meth c T locs cells slots) (hx : p.tables.exec = Jvm.exec) (hby : c.code = bs) {x y : Value} (hd : decode bs pc = .ok (.dup_x1, 1)) (hp : pc + 1 = pc') (hc : x.category = 1) (hc2 : y.category = 1) (h : own_End p e below F (T.setTop (mkF m pc' Ls (x :: y :: x :: st)))) : own_End p e below F (T.setTop (mkF m pc Ls (x :: y :: st))) := by
  subst hp; exact own_step (fun t k => XS.dupX1 X.here hx rfl (hb hby hd) rfl hc hc2 k) h
theorem own_pop (X : Stand p l e R s m args below meth c T locs cells slots) (hx : p.tables.exec = Jvm.exec) (hby : c.code = bs) {x : Value} (hd : decode bs pc = .ok (.pop, 1)) (hp : pc + 1 = pc') (hc : x.category = 1) (h : own_End p e below F (T.setTop (mkF m pc' Ls st))) : own_End p e below F (T.setTop (mkF m pc Ls (x :: st))) := by
  subst hp; exact own_step (fun t k => XS.pop X.here hx rfl (hb hby hd) rfl hc k) h
theorem own_pop2 (X : Stand p l e R s m args below meth c T locs cells slots) (hx : p.tables.exec = Jvm.exec) (hby : c.code = bs) {x : Int64} (hd : decode bs pc = .ok (.pop2, 1)) (hp : pc + 1 = pc') (h : own_End p e below F (T.setTop (mkF m pc' Ls st))) : own_End p e below F (T.setTop (mkF m pc Ls (.long x :: st))) := by
  subst hp
  refine own_step (fun t k => ?_) h
  have hd' := hb hby hd
  have hc : (Value.long x).category = 2 := rfl
  jvm_step X.here [X.here.top, hx, hd', Op.pop2.wp_sem, hc]
  exact k
theorem own_iadd (X : Stand p l e R s m args below meth c T locs cells slots) (hx : p.tables.exec = Jvm.exec) (hby : c.code = bs) {x y : Int32} (hd : decode bs pc = .ok (.iadd, 1)) (hp : pc + 1 = pc') (h : own_End p e below F (T.setTop (mkF m pc' Ls (.int (x + y) :: st)))) : own_End p e below F (T.setTop (mkF m pc Ls (.int y :: .int x :: st))) := by
  subst hp; exact own_step (fun t k => XS.iadd X.here hx rfl (hb hby hd) rfl k) h
theorem own_isub (X : Stand p l e R s m args below meth c T locs cells slots) (hx : p.tables.exec = Jvm.exec) (hby : c.code = bs) {x y : Int32} (hd : decode bs pc = .ok (.isub, 1)) (hp : pc + 1 = pc') (h : own_End p e below F (T.setTop (mkF m pc' Ls (.int (x - y) :: st)))) : own_End p e below F (T.setTop (mkF m pc Ls (.int y :: .int x :: st))) := by
  subst hp; exact own_step (fun t k => XS.isub X.here hx rfl (hb hby hd) rfl k) h
theorem own_imul (X : Stand p l e R s m args below meth c T locs cells slots) (hx : p.tables.exec = Jvm.exec) (hby : c.code = bs) {x y : Int32} (hd : decode bs pc = .ok (.imul, 1)) (hp : pc + 1 = pc') (h : own_End p e below F (T.setTop (mkF m pc' Ls (.int (x * y) :: st)))) : own_End p e below F (T.setTop (mkF m pc Ls (.int y :: .int x :: st))) := by
  subst hp; exact own_step (fun t k => XS.imul X.here hx rfl (hb hby hd) rfl k) h
theorem own_iand (X : Stand p l e R s m args below meth c T locs cells slots) (hx : p.tables.exec = Jvm.exec) (hby : c.code = bs) {x y : Int32} (hd : decode bs pc = .ok (.iand, 1)) (hp : pc + 1 = pc') (h : own_End p e below F (T.setTop (mkF m pc' Ls (.int (x &&& y) :: st)))) : own_End p e below F (T.setTop (mkF m pc Ls (.int y :: .int x :: st))) := by
  subst hp; exact own_step (fun t k => XS.iand X.here hx rfl (hb hby hd) rfl k) h
theorem own_ior (X : Stand p l e R s m args below meth c T locs cells slots) (hx : p.tables.exec = Jvm.exec) (hby : c.code = bs) {x y : Int32} (hd : decode bs pc = .ok (.ior, 1)) (hp : pc + 1 = pc') (h : own_End p e below F (T.setTop (mkF m pc' Ls (.int (x ||| y) :: st)))) : own_End p e below F (T.setTop (mkF m pc Ls (.int y :: .int x :: st))) := by
  subst hp; exact own_step (fun t k => XS.ior X.here hx rfl (hb hby hd) rfl k) h
theorem own_ixor (X : Stand p l e R s m args below meth c T locs cells slots) (hx : p.tables.exec = Jvm.exec) (hby : c.code = bs) {x y : Int32} (hd : decode bs pc = .ok (.ixor, 1)) (hp : pc + 1 = pc') (h : own_End p e below F (T.setTop (mkF m pc' Ls (.int (x ^^^ y) :: st)))) : own_End p e below F (T.setTop (mkF m pc Ls (.int y :: .int x :: st))) := by
  subst hp; exact own_step (fun t k => XS.ixor X.here hx rfl (hb hby hd) rfl k) h
theorem own_ladd (X : Stand p l e R s m args below meth c T locs cells slots) (hx : p.tables.exec = Jvm.exec) (hby : c.code = bs) {x y : Int64} (hd : decode bs pc = .ok (.ladd, 1)) (hp : pc + 1 = pc') (h : own_End p e below F (T.setTop (mkF m pc' Ls (.long (x + y) :: st)))) : own_End p e below F (T.setTop (mkF m pc Ls (.long y :: .long x :: st))) := by
  subst hp; exact own_step (fun t k => XS.ladd X.here hx rfl (hb hby hd) rfl k) h
theorem own_lsub (X : Stand p l e R s m args below meth c T locs cells slots) (hx : p.tables.exec = Jvm.exec) (hby : c.code = bs) {x y : Int64} (hd : decode bs pc = .ok (.lsub, 1)) (hp : pc + 1 = pc') (h : own_End p e below F (T.setTop (mkF m pc' Ls (.long (x - y) :: st)))) : own_End p e below F (T.setTop (mkF m pc Ls (.long y :: .long x :: st))) := by
  subst hp; exact own_step (fun t k => XS.lsub X.here hx rfl (hb hby hd) rfl k) h
theorem own_lmul (X : Stand p l e R s m args below meth c T locs cells slots) (hx : p.tables.exec = Jvm.exec) (hby : c.code = bs) {x y : Int64} (hd : decode bs pc = .ok (.lmul, 1)) (hp : pc + 1 = pc') (h : own_End p e below F (T.setTop (mkF m pc' Ls (.long (x * y) :: st)))) : own_End p e below F (T.setTop (mkF m pc Ls (.long y :: .long x :: st))) := by
  subst hp; exact own_step (fun t k => XS.lmul X.here hx rfl (hb hby hd) rfl k) h
theorem own_land (X : Stand p l e R s m args below meth c T locs cells slots) (hx : p.tables.exec = Jvm.exec) (hby : c.code = bs) {x y : Int64} (hd : decode bs pc = .ok (.land, 1)) (hp : pc + 1 = pc') (h : own_End p e below F (T.setTop (mkF m pc' Ls (.long (x &&& y) :: st)))) : own_End p e below F (T.setTop (mkF m pc Ls (.long y :: .long x :: st))) := by
  subst hp; exact own_step (fun t k => XS.land X.here hx rfl (hb hby hd) rfl k) h
theorem own_lor (X : Stand p l e R s m args below meth c T locs cells slots) (hx : p.tables.exec = Jvm.exec) (hby : c.code = bs) {x y : Int64} (hd : decode bs pc = .ok (.lor, 1)) (hp : pc + 1 = pc') (h : own_End p e below F (T.setTop (mkF m pc' Ls (.long (x ||| y) :: st)))) : own_End p e below F (T.setTop (mkF m pc Ls (.long y :: .long x :: st))) := by
  subst hp; exact own_step (fun t k => XS.lor X.here hx rfl (hb hby hd) rfl k) h
theorem own_lxor (X : Stand p l e R s m args below meth c T locs cells slots) (hx : p.tables.exec = Jvm.exec) (hby : c.code = bs) {x y : Int64} (hd : decode bs pc = .ok (.lxor, 1)) (hp : pc + 1 = pc') (h : own_End p e below F (T.setTop (mkF m pc' Ls (.long (x ^^^ y) :: st)))) : own_End p e below F (T.setTop (mkF m pc Ls (.long y :: .long x :: st))) := by
  subst hp; exact own_step (fun t k => XS.lxor X.here hx rfl (hb hby hd) rfl k) h
theorem own_ishl (X : Stand p l e R s m args below meth c T locs cells slots) (hx : p.tables.exec = Jvm.exec) (hby : c.code = bs) {x y : Int32} (hd : decode bs pc = .ok (.ishl, 1)) (hp : pc + 1 = pc') (h : own_End p e below F (T.setTop (mkF m pc' Ls (.int (x <<< (y &&& 31)) :: st)))) : own_End p e below F (T.setTop (mkF m pc Ls (.int y :: .int x :: st))) := by
  subst hp; exact own_step (fun t k => XS.ishl X.here hx rfl (hb hby hd) rfl k) h
theorem own_ishr (X : Stand p l e R s m args below meth c T locs cells slots) (hx : p.tables.exec = Jvm.exec) (hby : c.code = bs) {x y : Int32} (hd : decode bs pc = .ok (.ishr, 1)) (hp : pc + 1 = pc') (h : own_End p e below F (T.setTop (mkF m pc' Ls (.int (x >>> (y &&& 31)) :: st)))) : own_End p e below F (T.setTop (mkF m pc Ls (.int y :: .int x :: st))) := by
  subst hp; exact own_step (fun t k => XS.ishr X.here hx rfl (hb hby hd) rfl k) h
theorem own_iushr (X : Stand p l e R s m args below meth c T locs cells slots) (hx : p.tables.exec = Jvm.exec) (hby : c.code = bs) {x y : Int32} (hd : decode bs pc = .ok (.iushr, 1)) (hp : pc + 1 = pc') (h : own_End p e below F (T.setTop (mkF m pc' Ls (.int ((x.toUInt32 >>> (y &&& 31).toUInt32).toInt32) :: st)))) : own_End p e below F (T.setTop (mkF m pc Ls (.int y :: .int x :: st))) := by
  subst hp; exact own_step (fun t k => XS.iushr X.here hx rfl (hb hby hd) rfl k) h
theorem own_lshl (X : Stand p l e R s m args below meth c T locs cells slots) (hx : p.tables.exec = Jvm.exec) (hby : c.code = bs) {x : Int64} {y : Int32} (hd : decode bs pc = .ok (.lshl, 1)) (hp : pc + 1 = pc') (h : own_End p e below F (T.setTop (mkF m pc' Ls (.long (x <<< (y &&& 0x3f).toInt64) :: st)))) : own_End p e below F (T.setTop (mkF m pc Ls (.int y :: .long x :: st))) := by
  subst hp; exact own_step (fun t k => XS.lshl X.here hx rfl (hb hby hd) rfl k) h
theorem own_lshr (X : Stand p l e R s m args below meth c T locs cells slots) (hx : p.tables.exec = Jvm.exec) (hby : c.code = bs) {x : Int64} {y : Int32} (hd : decode bs pc = .ok (.lshr, 1)) (hp : pc + 1 = pc') (h : own_End p e below F (T.setTop (mkF m pc' Ls (.long (x >>> (y &&& 0x3f).toInt64) :: st)))) : own_End p e below F (T.setTop (mkF m pc Ls (.int y :: .long x :: st))) := by
  subst hp; exact own_step (fun t k => XS.lshr X.here hx rfl (hb hby hd) rfl k) h
theorem own_lushr (X : Stand p l e R s m args below meth c T locs cells slots) (hx : p.tables.exec = Jvm.exec) (hby : c.code = bs) {x : Int64} {y : Int32} (hd : decode bs pc = .ok (.lushr, 1)) (hp : pc + 1 = pc') (h : own_End p e below F (T.setTop (mkF m pc' Ls (.long ((x.toUInt64 >>> (y &&& 0x3f).toInt64.toUInt64).toInt64) :: st)))) : own_End p e below F (T.setTop (mkF m pc Ls (.int y :: .long x :: st))) := by
  subst hp; exact own_step (fun t k => XS.lushr X.here hx rfl (hb hby hd) rfl k) h
theorem own_lcmp (X : Stand p l e R s m args below meth c T locs cells slots) (hx : p.tables.exec = Jvm.exec) (hby : c.code = bs) {x y : Int64} (hd : decode bs pc = .ok (.lcmp, 1)) (hp : pc + 1 = pc') (h : own_End p e below F (T.setTop (mkF m pc' Ls (.int (lcmpW x y) :: st)))) : own_End p e below F (T.setTop (mkF m pc Ls (.long y :: .long x :: st))) := by
  subst hp; exact own_step (fun t k => XS.lcmp X.here hx rfl (hb hby hd) rfl k) h
theorem own_ineg (X : Stand p l e R s m args below meth c T locs cells slots) (hx : p.tables.exec = Jvm.exec) (hby : c.code = bs) {x : Int32} (hd : decode bs pc = .ok (.ineg, 1)) (hp : pc + 1 = pc') (h : own_End p e below F (T.setTop (mkF m pc' Ls (.int (-x) :: st)))) : own_End p e below F (T.setTop (mkF m pc Ls (.int x :: st))) := by
  subst hp; exact own_step (fun t k => XS.ineg X.here hx rfl (hb hby hd) rfl k) h
theorem own_i2b (X : Stand p l e R s m args below meth c T locs cells slots) (hx : p.tables.exec = Jvm.exec) (hby : c.code = bs) {x : Int32} (hd : decode bs pc = .ok (.i2b, 1)) (hp : pc + 1 = pc') (h : own_End p e below F (T.setTop (mkF m pc' Ls (.int (x.toInt8.toInt32) :: st)))) : own_End p e below F (T.setTop (mkF m pc Ls (.int x :: st))) := by
  subst hp; exact own_step (fun t k => XS.i2b X.here hx rfl (hb hby hd) rfl k) h
theorem own_i2s (X : Stand p l e R s m args below meth c T locs cells slots) (hx : p.tables.exec = Jvm.exec) (hby : c.code = bs) {x : Int32} (hd : decode bs pc = .ok (.i2s, 1)) (hp : pc + 1 = pc') (h : own_End p e below F (T.setTop (mkF m pc' Ls (.int (x.toInt16.toInt32) :: st)))) : own_End p e below F (T.setTop (mkF m pc Ls (.int x :: st))) := by
  subst hp; exact own_step (fun t k => XS.i2s X.here hx rfl (hb hby hd) rfl k) h
theorem own_i2c (X : Stand p l e R s m args below meth c T locs cells slots) (hx : p.tables.exec = Jvm.exec) (hby : c.code = bs) {x : Int32} (hd : decode bs pc = .ok (.i2c, 1)) (hp : pc + 1 = pc') (h : own_End p e below F (T.setTop (mkF m pc' Ls (.int (x.toUInt32.toUInt16.toUInt32.toInt32) :: st)))) : own_End p e below F (T.setTop (mkF m pc Ls (.int x :: st))) := by
  subst hp; exact own_step (fun t k => XS.i2c X.here hx rfl (hb hby hd) rfl k) h
theorem own_i2l (X : Stand p l e R s m args below meth c T locs cells slots) (hx : p.tables.exec = Jvm.exec) (hby : c.code = bs) {x : Int32} (hd : decode bs pc = .ok (.i2l, 1)) (hp : pc + 1 = pc') (h : own_End p e below F (T.setTop (mkF m pc' Ls (.long (x.toInt64) :: st)))) : own_End p e below F (T.setTop (mkF m pc Ls (.int x :: st))) := by
  subst hp; exact own_step (fun t k => XS.i2l X.here hx rfl (hb hby hd) rfl k) h
theorem own_lneg (X : Stand p l e R s m args below meth c T locs cells slots) (hx : p.tables.exec = Jvm.exec) (hby : c.code = bs) {x : Int64} (hd : decode bs pc = .ok (.lneg, 1)) (hp : pc + 1 = pc') (h : own_End p e below F (T.setTop (mkF m pc' Ls (.long (-x) :: st)))) : own_End p e below F (T.setTop (mkF m pc Ls (.long x :: st))) := by
  subst hp; exact own_step (fun t k => XS.lneg X.here hx rfl (hb hby hd) rfl k) h
theorem own_l2i (X : Stand p l e R s m args below meth c T locs cells slots) (hx : p.tables.exec = Jvm.exec) (hby : c.code = bs) {x : Int64} (hd : decode bs pc = .ok (.l2i, 1)) (hp : pc + 1 = pc') (h : own_End p e below F (T.setTop (mkF m pc' Ls (.int (x.toInt32) :: st)))) : own_End p e below F (T.setTop (mkF m pc Ls (.long x :: st))) := by
  subst hp; exact own_step (fun t k => XS.l2i X.here hx rfl (hb hby hd) rfl k) h
theorem own_idiv (X : Stand p l e R s m args below meth c T locs cells slots) (hx : p.tables.exec = Jvm.exec) (hby : c.code = bs) {x y : Int32} (hd : decode bs pc = .ok (.idiv, 1)) (hp : pc + 1 = pc') (hy : ¬ y = 0) (h : own_End p e below F (T.setTop (mkF m pc' Ls (.int (x / y) :: st)))) : own_End p e below F (T.setTop (mkF m pc Ls (.int y :: .int x :: st))) := by
  subst hp; exact own_step (fun t k => XS.idiv X.here hx rfl (hb hby hd) rfl hy k) h
theorem own_irem (X : Stand p l e R s m args below meth c T locs cells slots) (hx : p.tables.exec = Jvm.exec) (hby : c.code = bs) {x y : Int32} (hd : decode bs pc = .ok (.irem, 1)) (hp : pc + 1 = pc') (hy : ¬ y = 0) (h : own_End p e below F (T.setTop (mkF m pc' Ls (.int (x % y) :: st)))) : own_End p e below F (T.setTop (mkF m pc Ls (.int y :: .int x :: st))) := by
  subst hp; exact own_step (fun t k => iremM X hx rfl (hb hby hd) rfl hy k) h
theorem own_ldiv (X : Stand p l e R s m args below meth c T locs cells slots) (hx : p.tables.exec = Jvm.exec) (hby : c.code = bs) {x y : Int64} (hd : decode bs pc = .ok (.ldiv, 1)) (hp : pc + 1 = pc') (hy : ¬ y = 0) (h : own_End p e below F (T.setTop (mkF m pc' Ls (.long (x / y) :: st)))) : own_End p e below F (T.setTop (mkF m pc Ls (.long y :: .long x :: st))) := by
  subst hp; exact own_step (fun t k => XS.ldiv X.here hx rfl (hb hby hd) rfl hy k) h
theorem own_lrem (X : Stand p l e R s m args below meth c T locs cells slots) (hx : p.tables.exec = Jvm.exec) (hby : c.code = bs) {x y : Int64} (hd : decode bs pc = .ok (.lrem, 1)) (hp : pc + 1 = pc') (hy : ¬ y = 0) (h : own_End p e below F (T.setTop (mkF m pc' Ls (.long (x % y) :: st)))) : own_End p e below F (T.setTop (mkF m pc Ls (.long y :: .long x :: st))) := by
  subst hp; exact own_step (fun t k => XS.lrem X.here hx rfl (hb hby hd) rfl hy (by rw [lrem_mod]; exact k)) h
/-- the branch's condition, and its contrary -/
abbrev own_ct (cd : ClassFile.Cond) (x y : Int32) : Prop := match cd with | .eq => x = y | .ne => ¬ x = y | .lt => x < y | .ge => ¬ x < y | .gt => y < x | .le => ¬ y < x
abbrev own_cf (cd : ClassFile.Cond) (x y : Int32) : Prop := match cd with | .eq => ¬ x = y | .ne => x = y | .lt => ¬ x < y | .ge => x < y | .gt => ¬ y < x | .le => y < x
abbrev own_ctL (cd : ClassFile.Cond) (x y : Int64) : Prop := match cd with | .eq => x = y | .ne => ¬ x = y | .lt => x < y | .ge => ¬ x < y | .gt => y < x | .le => ¬ y < x
abbrev own_cfL (cd : ClassFile.Cond) (x y : Int64) : Prop := match cd with | .eq => ¬ x = y | .ne => x = y | .lt => ¬ x < y | .ge => x < y | .gt => ¬ y < x | .le => y < x
theorem own_ct_y {cd : ClassFile.Cond} {x y : Int32} (h : own_ct cd x y) : if_icmp.holds cd x y = true := by
  cases cd
  · exact (teq h).1
  · exact (feq h).2
  · exact (tlt h).1
  · exact (flt h).2.1
  · exact (tlt h).2.2.1
  · exact (flt h).2.2.2
theorem own_ct_n {cd : ClassFile.Cond} {x y : Int32} (h : own_cf cd x y) : if_icmp.holds cd x y = false := by
  cases cd
  · exact (feq h).1
  · exact (teq h).2
  · exact (flt h).1
  · exact (tlt h).2.1
  · exact (flt h).2.2.1
  · exact (tlt h).2.2.2
theorem own_ct_or (cd : ClassFile.Cond) (x y : Int32) : own_ct cd x y ∨ own_cf cd x y := by
  cases cd
  · exact Decidable.em _
  · exact (Decidable.em _).symm
  · exact Decidable.em _
  · exact (Decidable.em _).symm
  · exact Decidable.em _
  · exact (Decidable.em _).symm
theorem own_ctL_or (cd : ClassFile.Cond) (x y : Int64) : own_ctL cd x y ∨ own_cfL cd x y := by
  cases cd
  · exact Decidable.em _
  · exact (Decidable.em _).symm
  · exact Decidable.em _
  · exact (Decidable.em _).symm
  · exact Decidable.em _
  · exact (Decidable.em _).symm
theorem own_ctL_y {cd : ClassFile.Cond} {x y : Int64} (h : own_ctL cd x y) : own_ct cd (lcmpW x y) 0 := by
  cases cd
  · exact (lw_eq x y).mpr h
  · exact fun q => h ((lw_eq x y).mp q)
  · exact (lw_lt x y).mpr h
  · exact fun q => h ((lw_lt x y).mp q)
  · exact (lw_gt x y).mpr h
  · exact fun q => h ((lw_gt x y).mp q)
theorem own_ctL_n {cd : ClassFile.Cond} {x y : Int64} (h : own_cfL cd x y) : own_cf cd (lcmpW x y) 0 := by
  cases cd
  · exact fun q => h ((lw_eq x y).mp q)
  · exact (lw_eq x y).mpr h
  · exact fun q => h ((lw_lt x y).mp q)
  · exact (lw_lt x y).mpr h
  · exact fun q => h ((lw_gt x y).mp q)
  · exact (lw_gt x y).mpr h
theorem own_ifY (X : Stand p l e R s m args below meth c T locs cells slots) (hx : p.tables.exec = Jvm.exec) (hby : c.code = bs) {cd : ClassFile.Cond} {x : Int32} {o : Int} (hd : decode bs pc = .ok (.ifCond cd o, 3)) (ho : 0 ≤ (pc : Int) + o) (hp : ((pc : Int) + o).toNat = pc') (hc : own_ct cd x 0) (h : own_End p e below F (T.setTop (mkF m pc' Ls st))) : own_End p e below F (T.setTop (mkF m pc Ls (.int x :: st))) :=
  own_step (fun t k => XS.ifYes X.here hx rfl (pc0 := pc) (pc' := pc') rfl (hb hby hd) rfl ((if0 _ _).trans (own_ct_y hc)) ho hp k) h
theorem own_ifN (X : Stand p l e R s m args below meth c T locs cells slots) (hx : p.tables.exec = Jvm.exec) (hby : c.code = bs) {cd : ClassFile.Cond} {x : Int32} {o : Int} (hd : decode bs pc = .ok (.ifCond cd o, 3)) (hp : pc + 3 = pc') (hc : own_cf cd x 0) (h : own_End p e below F (T.setTop (mkF m pc' Ls st))) : own_End p e below F (T.setTop (mkF m pc Ls (.int x :: st))) := by
  subst hp; exact own_step (fun t k => XS.ifNo X.here hx rfl (hb hby hd) rfl ((if0 _ _).trans (own_ct_n hc)) k) h
theorem own_icY (X : Stand p l e R s m args below meth c T locs cells slots) (hx : p.tables.exec = Jvm.exec) (hby : c.code = bs) {cd : ClassFile.Cond} {x y : Int32} {o : Int} (hd : decode bs pc = .ok (.if_icmp cd o, 3)) (ho : 0 ≤ (pc : Int) + o) (hp : ((pc : Int) + o).toNat = pc') (hc : own_ct cd x y) (h : own_End p e below F (T.setTop (mkF m pc' Ls st))) : own_End p e below F (T.setTop (mkF m pc Ls (.int y :: .int x :: st))) :=
  own_step (fun t k => XS.icmpYes X.here hx rfl (pc0 := pc) (pc' := pc') rfl (hb hby hd) rfl (own_ct_y hc) ho hp k) h
theorem own_icN (X : Stand p l e R s m args below meth c T locs cells slots) (hx : p.tables.exec = Jvm.exec) (hby : c.code = bs) {cd : ClassFile.Cond} {x y : Int32} {o : Int} (hd : decode bs pc = .ok (.if_icmp cd o, 3)) (hp : pc + 3 = pc') (hc : own_cf cd x y) (h : own_End p e below F (T.setTop (mkF m pc' Ls st))) : own_End p e below F (T.setTop (mkF m pc Ls (.int y :: .int x :: st))) := by
  subst hp; exact own_step (fun t k => XS.icmpNo X.here hx rfl (hb hby hd) rfl (own_ct_n hc) k) h
theorem own_if2 (X : Stand p l e R s m args below meth c T locs cells slots) (hx : p.tables.exec = Jvm.exec) (hby : c.code = bs) {cd : ClassFile.Cond} {x : Int32} {o : Int} {pc1 pc2 : Nat} (hd : decode bs pc = .ok (.ifCond cd o, 3)) (ho : 0 ≤ (pc : Int) + o) (hp : ((pc : Int) + o).toNat = pc1) (hp2 : pc + 3 = pc2) (h1 : own_ct cd x 0 → own_End p e below F (T.setTop (mkF m pc1 Ls st))) (h2 : own_cf cd x 0 → own_End p e below F (T.setTop (mkF m pc2 Ls st))) : own_End p e below F (T.setTop (mkF m pc Ls (.int x :: st))) :=
  (own_ct_or cd x 0).elim (fun q => own_ifY X hx hby hd ho hp q (h1 q)) (fun q => own_ifN X hx hby hd hp2 q (h2 q))
theorem own_ic2 (X : Stand p l e R s m args below meth c T locs cells slots) (hx : p.tables.exec = Jvm.exec) (hby : c.code = bs) {cd : ClassFile.Cond} {x y : Int32} {o : Int} {pc1 pc2 : Nat} (hd : decode bs pc = .ok (.if_icmp cd o, 3)) (ho : 0 ≤ (pc : Int) + o) (hp : ((pc : Int) + o).toNat = pc1) (hp2 : pc + 3 = pc2) (h1 : own_ct cd x y → own_End p e below F (T.setTop (mkF m pc1 Ls st))) (h2 : own_cf cd x y → own_End p e below F (T.setTop (mkF m pc2 Ls st))) : own_End p e below F (T.setTop (mkF m pc Ls (.int y :: .int x :: st))) :=
  (own_ct_or cd x y).elim (fun q => own_icY X hx hby hd ho hp q (h1 q)) (fun q => own_icN X hx hby hd hp2 q (h2 q))
theorem own_ifL2 (X : Stand p l e R s m args below meth c T locs cells slots) (hx : p.tables.exec = Jvm.exec) (hby : c.code = bs) {cd : ClassFile.Cond} {x y : Int64} {o : Int} {pc1 pc2 : Nat} (hd : decode bs pc = .ok (.ifCond cd o, 3)) (ho : 0 ≤ (pc : Int) + o) (hp : ((pc : Int) + o).toNat = pc1) (hp2 : pc + 3 = pc2) (h1 : own_ctL cd x y → own_End p e below F (T.setTop (mkF m pc1 Ls st))) (h2 : own_cfL cd x y → own_End p e below F (T.setTop (mkF m pc2 Ls st))) : own_End p e below F (T.setTop (mkF m pc Ls (.int (lcmpW x y) :: st))) :=
  (own_ctL_or cd x y).elim (fun q => own_ifY X hx hby hd ho hp (own_ctL_y q) (h1 q)) (fun q => own_ifN X hx hby hd hp2 (own_ctL_n q) (h2 q))
theorem own_ifnullY (X : Stand p l e R s m args below meth c T locs cells slots) (hx : p.tables.exec = Jvm.exec) (hby : c.code = bs) {o : Int} (hd : decode bs pc = .ok (.ifnull o, 3)) (ho : 0 ≤ (pc : Int) + o) (hp : ((pc : Int) + o).toNat = pc') (h : own_End p e below F (T.setTop (mkF m pc' Ls st))) : own_End p e below F (T.setTop (mkF m pc Ls (.null :: st))) :=
  own_step (fun t k => XS.ifnullYes X.here hx rfl (pc0 := pc) (pc' := pc') rfl (hb hby hd) rfl ho hp k) h
theorem own_ifnullN (X : Stand p l e R s m args below meth c T locs cells slots) (hx : p.tables.exec = Jvm.exec) (hby : c.code = bs) {o : Int} {b : Addr} (hd : decode bs pc = .ok (.ifnull o, 3)) (hp : pc + 3 = pc') (h : own_End p e below F (T.setTop (mkF m pc' Ls st))) : own_End p e below F (T.setTop (mkF m pc Ls (.ref b :: st))) := by
  subst hp; exact own_step (fun t k => XS.ifnullNo X.here hx rfl (hb hby hd) rfl k) h
theorem own_ifnonnullY (X : Stand p l e R s m args below meth c T locs cells slots) (hx : p.tables.exec = Jvm.exec) (hby : c.code = bs) {o : Int} {b : Addr} (hd : decode bs pc = .ok (.ifnonnull o, 3)) (ho : 0 ≤ (pc : Int) + o) (hp : ((pc : Int) + o).toNat = pc') (h : own_End p e below F (T.setTop (mkF m pc' Ls st))) : own_End p e below F (T.setTop (mkF m pc Ls (.ref b :: st))) :=
  own_step (fun t k => XS.ifnonnullYes X.here hx rfl (pc0 := pc) (pc' := pc') rfl (hb hby hd) rfl ho hp k) h
theorem own_ifnonnullN (X : Stand p l e R s m args below meth c T locs cells slots) (hx : p.tables.exec = Jvm.exec) (hby : c.code = bs) {o : Int} (hd : decode bs pc = .ok (.ifnonnull o, 3)) (hp : pc + 3 = pc') (h : own_End p e below F (T.setTop (mkF m pc' Ls st))) : own_End p e below F (T.setTop (mkF m pc Ls (.null :: st))) := by
  subst hp; exact own_step (fun t k => XS.ifnonnullNo X.here hx rfl (hb hby hd) rfl k) h
theorem own_acmp (X : Stand p l e R s m args below meth c T locs cells slots) (hx : p.tables.exec = Jvm.exec) (hby : c.code = bs) {cd : ACond} {x y : Value} {o : Int} {same : Bool} (hd : decode bs pc = .ok (.if_acmp cd o, 3)) (h1 : x.isRef = true) (h2 : y.isRef = true) (hq : decide (x = y) = same) (ho : 0 ≤ (pc : Int) + o) (hp : pc' = if acV cd same = true then ((pc : Int) + o).toNat else pc + 3) (h : own_End p e below F (T.setTop (mkF m pc' Ls st))) : own_End p e below F (T.setTop (mkF m pc Ls (y :: x :: st))) :=
  own_step (fun t k => Jvm.RoadKit.acmp (g := mkF m pc Ls (y :: x :: st)) X hx rfl h1 h2 (pc0 := pc) (pc' := pc') (same := same) rfl (hb hby hd) rfl hq ho hp k) h
end Plain
section Words
variable {Z : State} {a0 : Array Value}
theorem own_ldcInt (X : Stand p l e R s m args below meth c T locs cells slots) (hx : p.tables.exec = Jvm.exec) (hZ : Z.Warmed39 s.vm) (hby : c.code = bs) {own : String} {index : Nat} {v : Int32} (hown : s.vm.findClass own = some m.cls) (w : (Cond.constant own index v).before a0 Z = true) (hd : decode bs pc = .ok (.ldc index, 2)) (hp : pc + 2 = pc') (h : own_End p e below F (T.setTop (mkF m pc' Ls (.int v :: st)))) : own_End p e below F (T.setTop (mkF m pc Ls st)) := by
  subst hp; exact own_step (X.ldcInt hx hown (mvT hZ w) (g := mkF m pc Ls st) rfl (hb hby hd)) h
theorem own_ldc2Long (X : Stand p l e R s m args below meth c T locs cells slots) (hx : p.tables.exec = Jvm.exec) (hZ : Z.Warmed39 s.vm) (hby : c.code = bs) {own : String} {index : Nat} {v : Int64} (hown : s.vm.findClass own = some m.cls) (w : (Cond.constantLong own index v).before a0 Z = true) (hd : decode bs pc = .ok (.ldc2_w index, 3)) (hp : pc + 3 = pc') (h : own_End p e below F (T.setTop (mkF m pc' Ls (.long v :: st)))) : own_End p e below F (T.setTop (mkF m pc Ls st)) := by
  subst hp; exact own_step (X.ldc2Long hx hown (mvT hZ w) (g := mkF m pc Ls st) rfl (hb hby hd)) h
end Words
section Heap
variable {Z : State} {a0 : Array Value} {h : Heap}
theorem own_getF (X : Stand p l e R s m args below meth c T locs cells slots) (hx : p.tables.exec = Jvm.exec) (hZ : Z.Warmed39 s.vm) (hby : c.code = bs) {own R0 O n d host : String} {index : Nat} {a : Addr} {v : Value} (hown : s.vm.findClass own = some m.cls) (w : (Cond.fieldLink own index R0 n d).before a0 Z = true ∨ (Cond.fieldLinkNest own index R0 n d host).before a0 Z = true) (via : Via Z R0 O n d) (eT : T.heap = h) (Fd : Fld Z h a O n d v) (hd : decode bs pc = .ok (.getfield index, 3)) (hp : pc + 3 = pc')
    (k : ∀ T', Stand p l e R s m args below meth c T' locs cells slots → T'.heap = h → own_End p e below F (T'.setTop (mkF m pc' Ls (v :: st)))) : own_End p e below F (T.setTop (mkF m pc Ls (.ref a :: st))) := by
  subst hp
  obtain ⟨T', X', e', stp⟩ := getF X hx hZ hown w via eT Fd (g := mkF m pc Ls (.ref a :: st)) rfl rfl (hb hby hd)
  exact own_step stp (k T' X' e')
theorem own_getS (X : Stand p l e R s m args below meth c T locs cells slots) (hx : p.tables.exec = Jvm.exec) (hZ : Z.Warmed39 s.vm) (hby : c.code = bs) {own R0 O n d host : String} {index : Nat} {v : Value} (hown : s.vm.findClass own = some m.cls) (w : (Cond.fieldLink own index R0 n d).before a0 Z = true ∨ (Cond.fieldLinkNest own index R0 n d host).before a0 Z = true) (via : Via Z R0 O n d) (eT : T.heap = h) (Fd : Sta Z h O n d v) (hd : decode bs pc = .ok (.getstatic index, 3)) (hp : pc + 3 = pc')
    (k : ∀ T', Stand p l e R s m args below meth c T' locs cells slots → T'.heap = h → own_End p e below F (T'.setTop (mkF m pc' Ls (v :: st)))) : own_End p e below F (T.setTop (mkF m pc Ls st)) := by
  subst hp
  obtain ⟨T', X', e', stp⟩ := getS2 X hx hZ hown w via eT Fd (g := mkF m pc Ls st) rfl (hb hby hd)
  exact own_step stp (k T' X' e')
theorem own_putF (X : Stand p l e R s m args below meth c T locs cells slots) (hx : p.tables.exec = Jvm.exec) (hZ : Z.Warmed39 s.vm) (hby : c.code = bs) {own R0 O n d host C : String} {index kk : Nat} {ty : FieldType} {a : Addr} {v old : Value} (hown : s.vm.findClass own = some m.cls) (w : (Cond.fieldLink own index R0 n d).before a0 Z = true ∨ (Cond.fieldLinkNest own index R0 n d host).before a0 Z = true) (via : Via Z R0 O n d) (eT : T.heap = h) (Fd : Fld Z h a O n d old) (E : Exa Z h a C)
    (La : (Cond.lays C O n d).before a0 Z = true ∨ ((Cond.laysFinal C O n d).before a0 Z = true ∧ own = O ∧ meth.name = "<init>")) (wi : (Cond.instantiable C kk).before a0 Z = true) (hty : parseFieldDescriptor d = some ty) (hn : narrow ty v = v) (hf : fits ty v = true) (hd : decode bs pc = .ok (.putfield index, 3)) (hp : pc + 3 = pc')
    (k : ∀ T' h', Stand p l e R s m args below meth c T' (locs ++ [⟨a, Jvm.RoadKit.slotOf Z O n d⟩]) cells slots → T'.heap = h' → Wr h h' a (Jvm.RoadKit.slotOf Z O n d) v → own_End p e below F (T'.setTop (mkF m pc' Ls st))) : own_End p e below F (T.setTop (mkF m pc Ls (v :: .ref a :: st))) := by
  subst hp
  obtain ⟨T', h', X', e', W', stp⟩ := putF X hx hZ hown w via eT Fd E La wi hty hn hf (g := mkF m pc Ls (v :: .ref a :: st)) rfl rfl (hb hby hd)
  exact own_step stp (k T' h' X' e' W')
theorem own_putN (X : Stand p l e R s m args below meth c T locs cells slots) (hx : p.tables.exec = Jvm.exec) (hZ : Z.Warmed39 s.vm) (hby : c.code = bs) {own R0 O n d C : String} {index kk : Nat} {ty : FieldType} {a : Addr} {v v' old : Value} (hown : s.vm.findClass own = some m.cls) (w : (Cond.fieldLink own index R0 n d).before a0 Z = true) (via : Via Z R0 O n d) (eT : T.heap = h) (Fd : Fld Z h a O n d old) (E : Exa Z h a C)
    (La : (Cond.lays C O n d).before a0 Z = true ∨ ((Cond.laysFinal C O n d).before a0 Z = true ∧ own = O ∧ meth.name = "<init>")) (wi : (Cond.instantiable C kk).before a0 Z = true) (hty : parseFieldDescriptor d = some ty) (hn : narrow ty v = v') (hf : fits ty v' = true) (hd : decode bs pc = .ok (.putfield index, 3)) (hp : pc + 3 = pc')
    (k : ∀ T' h', Stand p l e R s m args below meth c T' (locs ++ [⟨a, Jvm.RoadKit.slotOf Z O n d⟩]) cells slots → T'.heap = h' → Wr h h' a (Jvm.RoadKit.slotOf Z O n d) v' → own_End p e below F (T'.setTop (mkF m pc' Ls st))) : own_End p e below F (T.setTop (mkF m pc Ls (v :: .ref a :: st))) := by
  subst hp
  obtain ⟨T', h', X', e', W', stp⟩ := putFN X hx hZ hown w via eT Fd E La wi hty hn hf (g := mkF m pc Ls (v :: .ref a :: st)) rfl rfl (hb hby hd)
  exact own_step stp (k T' h' X' e' W')
theorem own_new (X : Stand p l e R s m args below meth c T locs cells slots) (hx : p.tables.exec = Jvm.exec) (hZ : Z.Warmed39 s.vm) (hby : c.code = bs) {own C : String} {index n : Nat} (hown : s.vm.findClass own = some m.cls) (w : (Cond.classLink own index C).before a0 Z = true) (wi : (Cond.instantiable C n).before a0 Z = true) (wz : (Cond.initialized C).before a0 Z = true) (eT : T.heap = h) (hd : decode bs pc = .ok (.new index, 3)) (hp : pc + 3 = pc') (hc : cells + 1 ≤ R.cells) (hl : slots + n ≤ R.slots)
    (k : ∀ T' h' (b : Addr), b = h.size → Stand p l e R s m args below meth c T' locs (cells + 1) (slots + n) → T'.heap = h' → Ext h h' → Exa Z h' b C → (∀ {O nm d : String} {ty : FieldType}, Laid Z a0 C O nm d → parseFieldDescriptor d = some ty → Fld Z h' b O nm d (defaultValue ty)) → own_End p e below F (T'.setTop (mkF m pc' Ls (.ref b :: st)))) : own_End p e below F (T.setTop (mkF m pc Ls st)) := by
  subst hp
  obtain ⟨T', h', X', e', E', A', D', -, stp⟩ := newO X hx hZ hown w wi wz eT (g := mkF m pc Ls st) rfl (hb hby hd) hc hl
  exact own_step stp (k T' h' h.size rfl X' e' E' A' D')
theorem own_newP (X : Stand p l e R s m args below meth c T locs cells slots) (hx : p.tables.exec = Jvm.exec) (hZ : Z.Warmed39 s.vm) (hby : c.code = bs) {aty : ArrayType} {n : Int32} {cap : Nat} (w : (Cond.arrayClass (newarray.typeOf aty)).before a0 Z = true) (eT : T.heap = h) (hd : decode bs pc = .ok (.newarray aty, 2)) (hp : pc + 2 = pc') (hn : ¬ n < 0) (hcap : n.toNatClampNeg ≤ cap) (hb' : cap * 8 ≤ 536870912) (hc : cells + 1 ≤ R.cells) (hl : slots + cap ≤ R.slots)
    (k : ∀ T' h' cA (b : Addr), b = h.size → Stand p l e R s m args below meth c T' locs (cells + 1) (slots + cap) → T'.heap = h' → Ext h h' → Arr Z h' b (newA cA (newarray.typeOf aty) n) (newarray.typeOf aty) → own_End p e below F (T'.setTop (mkF m pc' Ls (.ref b :: st)))) : own_End p e below F (T.setTop (mkF m pc Ls (.int n :: st))) := by
  subst hp
  obtain ⟨T', h', cA, X', e', E', A', stp⟩ := newP X hx hZ w eT (g := mkF m pc Ls (.int n :: st)) rfl (hb hby hd) rfl hn hcap hb' hc hl
  exact own_step stp (k T' h' cA h.size rfl X' e' E' A')
theorem own_newPE (X : Stand p l e R s m args below meth c T locs cells slots) (hx : p.tables.exec = Jvm.exec) (hZ : Z.Warmed39 s.vm) (hby : c.code = bs) {aty : ArrayType} {n : Int32} {cap : Nat} {ad : String} (had : "[" ++ (newarray.typeOf aty).toString = ad) (w : (Cond.arrayClass (newarray.typeOf aty)).before a0 Z = true) (eT : T.heap = h) (hd : decode bs pc = .ok (.newarray aty, 2)) (hp : pc + 2 = pc') (hn : ¬ n < 0) (hcap : n.toNatClampNeg ≤ cap) (hb' : cap * 8 ≤ 536870912) (hc : cells + 1 ≤ R.cells) (hl : slots + cap ≤ R.slots)
    (k : ∀ T' h' cA (b : Addr), b = h.size → Stand p l e R s m args below meth c T' locs (cells + 1) (slots + cap) → T'.heap = h' → Ext h h' → Arr Z h' b (newA cA (newarray.typeOf aty) n) (newarray.typeOf aty) → Exa Z h' b ad → own_End p e below F (T'.setTop (mkF m pc' Ls (.ref b :: st)))) : own_End p e below F (T.setTop (mkF m pc Ls (.int n :: st))) := by
  subst hp
  obtain ⟨T', h', cA, X', e', E', A', Ex', stp⟩ := newPE X hx hZ w eT (g := mkF m pc Ls (.int n :: st)) rfl (hb hby hd) rfl hn hcap hb' hc hl had
  exact own_step stp (k T' h' cA h.size rfl X' e' E' A' Ex')
theorem own_newR (X : Stand p l e R s m args below meth c T locs cells slots) (hx : p.tables.exec = Jvm.exec) (hZ : Z.Warmed39 s.vm) (hby : c.code = bs) {own C : String} {index : Nat} {n : Int32} {cap : Nat} (hown : s.vm.findClass own = some m.cls) (w1 : (Cond.classLink own index C).before a0 Z = true) (w2 : (Cond.arrayOver (.object C)).before a0 Z = true) (eT : T.heap = h) (hd : decode bs pc = .ok (.anewarray index, 3)) (hp : pc + 3 = pc') (hn : ¬ n < 0) (hcap : n.toNatClampNeg ≤ cap) (hb' : cap * 8 ≤ 536870912) (hc : cells + 1 ≤ R.cells) (hl : slots + cap ≤ R.slots)
    (k : ∀ T' h' cA (b : Addr), b = h.size → Stand p l e R s m args below meth c T' locs (cells + 1) (slots + cap) → T'.heap = h' → Ext h h' → Arr Z h' b (newA cA (.object C) n) (.object C) → Ovr Z cA C → own_End p e below F (T'.setTop (mkF m pc' Ls (.ref b :: st)))) : own_End p e below F (T.setTop (mkF m pc Ls (.int n :: st))) := by
  subst hp
  obtain ⟨T', h', cA, X', e', E', A', O', stp⟩ := newR X hx hZ hown w1 w2 eT (g := mkF m pc Ls (.int n :: st)) rfl (hb hby hd) rfl hn hcap hb' hc hl
  exact own_step stp (k T' h' cA h.size rfl X' e' E' A' O')
theorem own_iastore (X : Stand p l e R s m args below meth c T locs cells slots) (hx : p.tables.exec = Jvm.exec) (hZ : Z.Warmed39 s.vm) (hby : c.code = bs) {a : Addr} {cl : Cell} (eT : T.heap = h) (A : Arr Z h a cl .int) {j : Int32} {x : Int32} (hj : ¬ (j < 0 ∨ cl.slots.size ≤ j.toNatClampNeg)) (hd : decode bs pc = .ok (.iastore, 1)) (hp : pc + 1 = pc')
    (k : ∀ T' h', Stand p l e R s m args below meth c T' (locs ++ [⟨a, j.toNatClampNeg⟩]) cells slots → T'.heap = h' → Wr h h' a j.toNatClampNeg (.int x) → own_End p e below F (T'.setTop (mkF m pc' Ls st))) : own_End p e below F (T.setTop (mkF m pc Ls (.int x :: .int j :: .ref a :: st))) := by
  subst hp
  obtain ⟨T', h', X', e', W', stp⟩ := stI X hx hZ eT A hj (g := mkF m pc Ls (.int x :: .int j :: .ref a :: st)) rfl rfl (hb hby hd)
  exact own_step stp (k T' h' X' e' W')
theorem own_lastore (X : Stand p l e R s m args below meth c T locs cells slots) (hx : p.tables.exec = Jvm.exec) (hZ : Z.Warmed39 s.vm) (hby : c.code = bs) {a : Addr} {cl : Cell} (eT : T.heap = h) (A : Arr Z h a cl .long) {j : Int32} {x : Int64} (hj : ¬ (j < 0 ∨ cl.slots.size ≤ j.toNatClampNeg)) (hd : decode bs pc = .ok (.lastore, 1)) (hp : pc + 1 = pc')
    (k : ∀ T' h', Stand p l e R s m args below meth c T' (locs ++ [⟨a, j.toNatClampNeg⟩]) cells slots → T'.heap = h' → Wr h h' a j.toNatClampNeg (.long x) → own_End p e below F (T'.setTop (mkF m pc' Ls st))) : own_End p e below F (T.setTop (mkF m pc Ls (.long x :: .int j :: .ref a :: st))) := by
  subst hp
  obtain ⟨T', h', X', e', W', stp⟩ := stJ X hx hZ eT A hj (g := mkF m pc Ls (.long x :: .int j :: .ref a :: st)) rfl rfl (hb hby hd)
  exact own_step stp (k T' h' X' e' W')
theorem own_castore (X : Stand p l e R s m args below meth c T locs cells slots) (hx : p.tables.exec = Jvm.exec) (hZ : Z.Warmed39 s.vm) (hby : c.code = bs) {a : Addr} {cl : Cell} (eT : T.heap = h) (A : Arr Z h a cl .char) {j : Int32} {x : Int32} (hj : ¬ (j < 0 ∨ cl.slots.size ≤ j.toNatClampNeg)) (hd : decode bs pc = .ok (.castore, 1)) (hp : pc + 1 = pc')
    (k : ∀ T' h', Stand p l e R s m args below meth c T' (locs ++ [⟨a, j.toNatClampNeg⟩]) cells slots → T'.heap = h' → Wr h h' a j.toNatClampNeg (.int (nar .char x)) → own_End p e below F (T'.setTop (mkF m pc' Ls st))) : own_End p e below F (T.setTop (mkF m pc Ls (.int x :: .int j :: .ref a :: st))) := by
  subst hp
  obtain ⟨T', h', X', e', W', stp⟩ := stC X hx hZ eT A hj (g := mkF m pc Ls (.int x :: .int j :: .ref a :: st)) rfl rfl (hb hby hd)
  exact own_step stp (k T' h' X' e' W')
theorem own_bastore (X : Stand p l e R s m args below meth c T locs cells slots) (hx : p.tables.exec = Jvm.exec) (hZ : Z.Warmed39 s.vm) (hby : c.code = bs) {a : Addr} {cl : Cell} (eT : T.heap = h) (A : Arr Z h a cl .byte) {j : Int32} {x : Int32} (hj : ¬ (j < 0 ∨ cl.slots.size ≤ j.toNatClampNeg)) (hd : decode bs pc = .ok (.bastore, 1)) (hp : pc + 1 = pc')
    (k : ∀ T' h', Stand p l e R s m args below meth c T' (locs ++ [⟨a, j.toNatClampNeg⟩]) cells slots → T'.heap = h' → Wr h h' a j.toNatClampNeg (.int (nar .byte x)) → own_End p e below F (T'.setTop (mkF m pc' Ls st))) : own_End p e below F (T.setTop (mkF m pc Ls (.int x :: .int j :: .ref a :: st))) := by
  subst hp
  obtain ⟨T', h', X', e', W', stp⟩ := stB X hx hZ eT A hj (g := mkF m pc Ls (.int x :: .int j :: .ref a :: st)) rfl rfl (hb hby hd)
  exact own_step stp (k T' h' X' e' W')
theorem own_stR (X : Stand p l e R s m args below meth c T locs cells slots) (hx : p.tables.exec = Jvm.exec) (hZ : Z.Warmed39 s.vm) (hby : c.code = bs) {a : Addr} {cl : Cell} {ty : FieldType} (eT : T.heap = h) (A : Arr Z h a cl ty) {j : Int32} {v : Value} (hj : ¬ (j < 0 ∨ cl.slots.size ≤ j.toNatClampNeg)) (hty : ty.isReference = true) (S : Sto Z h a v) (hd : decode bs pc = .ok (.aastore, 1)) (hp : pc + 1 = pc')
    (k : ∀ T' h', Stand p l e R s m args below meth c T' (locs ++ [⟨a, j.toNatClampNeg⟩]) cells slots → T'.heap = h' → Wr h h' a j.toNatClampNeg v → own_End p e below F (T'.setTop (mkF m pc' Ls st))) : own_End p e below F (T.setTop (mkF m pc Ls (v :: .int j :: .ref a :: st))) := by
  subst hp
  obtain ⟨T', h', X', e', W', stp⟩ := stR X hx hZ eT A hj hty S (g := mkF m pc Ls (v :: .int j :: .ref a :: st)) rfl rfl (hb hby hd)
  exact own_step stp (k T' h' X' e' W')
theorem own_iaload (X : Stand p l e R s m args below meth c T locs cells slots) (hx : p.tables.exec = Jvm.exec) (hZ : Z.Warmed39 s.vm) (hby : c.code = bs) {a : Addr} {cl : Cell} (eT : T.heap = h) (A : Arr Z h a cl .int) {j : Int32} {v : Value} (hj : ¬ (j < 0 ∨ cl.slots.size ≤ j.toNatClampNeg)) (hv : cl.slots[j.toNatClampNeg]? = some v) (hd : decode bs pc = .ok (.iaload, 1)) (hp : pc + 1 = pc') (k : own_End p e below F (T.setTop (mkF m pc' Ls (v :: st)))) : own_End p e below F (T.setTop (mkF m pc Ls (.int j :: .ref a :: st))) := by
  subst hp
  exact own_step (fun t q => X.iaload hx (j := j) (v := v) (by rw [eT]; exact A.1) (State.isArrayOf_alike hZ.alike A.2.1) A.2.2 hj hv (g := mkF m pc Ls (.int j :: .ref a :: st)) rfl rfl (hb hby hd) _ q) k
theorem own_laload (X : Stand p l e R s m args below meth c T locs cells slots) (hx : p.tables.exec = Jvm.exec) (hZ : Z.Warmed39 s.vm) (hby : c.code = bs) {a : Addr} {cl : Cell} (eT : T.heap = h) (A : Arr Z h a cl .long) {j : Int32} {v : Value} (hj : ¬ (j < 0 ∨ cl.slots.size ≤ j.toNatClampNeg)) (hv : cl.slots[j.toNatClampNeg]? = some v) (hd : decode bs pc = .ok (.laload, 1)) (hp : pc + 1 = pc') (k : own_End p e below F (T.setTop (mkF m pc' Ls (v :: st)))) : own_End p e below F (T.setTop (mkF m pc Ls (.int j :: .ref a :: st))) := by
  subst hp
  exact own_step (fun t q => X.laload hx (j := j) (v := v) (by rw [eT]; exact A.1) (State.isArrayOf_alike hZ.alike A.2.1) A.2.2 hj hv (g := mkF m pc Ls (.int j :: .ref a :: st)) rfl rfl (hb hby hd) _ q) k
theorem own_caload (X : Stand p l e R s m args below meth c T locs cells slots) (hx : p.tables.exec = Jvm.exec) (hZ : Z.Warmed39 s.vm) (hby : c.code = bs) {a : Addr} {cl : Cell} (eT : T.heap = h) (A : Arr Z h a cl .char) {j : Int32} {v : Value} (hj : ¬ (j < 0 ∨ cl.slots.size ≤ j.toNatClampNeg)) (hv : cl.slots[j.toNatClampNeg]? = some v) (hd : decode bs pc = .ok (.caload, 1)) (hp : pc + 1 = pc') (k : own_End p e below F (T.setTop (mkF m pc' Ls (v :: st)))) : own_End p e below F (T.setTop (mkF m pc Ls (.int j :: .ref a :: st))) := by
  subst hp
  exact own_step (fun t q => X.caload hx (j := j) (v := v) (by rw [eT]; exact A.1) (State.isArrayOf_alike hZ.alike A.2.1) A.2.2 hj hv (g := mkF m pc Ls (.int j :: .ref a :: st)) rfl rfl (hb hby hd) _ q) k
theorem own_baload (X : Stand p l e R s m args below meth c T locs cells slots) (hx : p.tables.exec = Jvm.exec) (hZ : Z.Warmed39 s.vm) (hby : c.code = bs) {a : Addr} {cl : Cell} (eT : T.heap = h) (A : Arr Z h a cl .byte) {j : Int32} {v : Value} (hj : ¬ (j < 0 ∨ cl.slots.size ≤ j.toNatClampNeg)) (hv : cl.slots[j.toNatClampNeg]? = some v) (hd : decode bs pc = .ok (.baload, 1)) (hp : pc + 1 = pc') (k : own_End p e below F (T.setTop (mkF m pc' Ls (v :: st)))) : own_End p e below F (T.setTop (mkF m pc Ls (.int j :: .ref a :: st))) := by
  subst hp
  exact own_step (fun t q => X.baloadBytes hx (j := j) (v := v) (by rw [eT]; exact A.1) (State.isArrayOf_alike hZ.alike A.2.1) A.2.2 hj hv (g := mkF m pc Ls (.int j :: .ref a :: st)) rfl rfl (hb hby hd) _ q) k
theorem own_aaload (X : Stand p l e R s m args below meth c T locs cells slots) (hx : p.tables.exec = Jvm.exec) (hZ : Z.Warmed39 s.vm) (hby : c.code = bs) {a : Addr} {cl : Cell} {ty : FieldType} (eT : T.heap = h) (A : Arr Z h a cl ty) (hty : ty.isReference = true) {j : Int32} {v : Value} (hj : ¬ (j < 0 ∨ cl.slots.size ≤ j.toNatClampNeg)) (hv : cl.slots[j.toNatClampNeg]? = some v) (hd : decode bs pc = .ok (.aaload, 1)) (hp : pc + 1 = pc') (k : own_End p e below F (T.setTop (mkF m pc' Ls (v :: st)))) : own_End p e below F (T.setTop (mkF m pc Ls (.int j :: .ref a :: st))) := by
  subst hp
  exact own_step (fun t q => X.aaload hx (j := j) (v := v) (by rw [eT]; exact A.1) (State.isArrayOf_alike hZ.alike A.2.1) hty A.2.2 hj hv (g := mkF m pc Ls (.int j :: .ref a :: st)) rfl rfl (hb hby hd) _ q) k
theorem own_alen (X : Stand p l e R s m args below meth c T locs cells slots) (hx : p.tables.exec = Jvm.exec) (hZ : Z.Warmed39 s.vm) (hby : c.code = bs) {a : Addr} {cl : Cell} {ty : FieldType} {z : Int32} (eT : T.heap = h) (A : Arr Z h a cl ty) (S : cl.slots.size = z.toNatClampNeg) (M : ¬ z < 0) (hd : decode bs pc = .ok (.arraylength, 1)) (hp : pc + 1 = pc') (k : own_End p e below F (T.setTop (mkF m pc' Ls (.int z :: st)))) : own_End p e below F (T.setTop (mkF m pc Ls (.ref a :: st))) := by
  subst hp
  have hl := len_of S M
  exact own_step (fun t q => X.arraylength hx (by rw [eT]; exact A.1) (State.isArrayOf_alike hZ.alike A.2.1) (g := mkF m pc Ls (.ref a :: st)) rfl rfl (hb hby hd) _ (by rw [hl]; exact q)) k
theorem own_init (X : Stand p l e R s m args below meth c T locs cells slots) (hx : p.tables.exec = Jvm.exec) (hZ : Z.Warmed39 s.vm) (hby : c.code = bs) {own : String} {index : Nat} {a : Addr} {W : Nat} (hown : s.vm.findClass own = some m.cls) (w1 : (Cond.methodLink own index Lib.objectInit).before a0 Z = true) (w2 : (Cond.instanceMethod Lib.objectInit).before a0 Z = true) (w3 : (Cond.code Lib.objectInit ⟨#[0xb1]⟩ 1 none).before a0 Z = true) (eT : T.heap = h) (hsz : Ls.size = c.maxLocals) (hd : decode bs pc = .ok (.invokespecial index, 3)) (hp : pc + 3 = pc') (hf : 1 ≤ R.frames) (hW : (st.map fun v => v.category).sum ≤ W) (hl : W + 12 ≤ R.locals)
    (k : ∀ T', Stand p l e R s m args below meth c T' locs cells slots → T'.heap = h → own_End p e below F (T'.setTop (mkF m pc' Ls st))) : own_End p e below F (T.setTop (mkF m pc Ls (.ref a :: st))) := by
  subst hp
  obtain ⟨T', X', e', stp⟩ := initO X hx hZ hown w1 w2 w3 eT (g := mkF m pc Ls (.ref a :: st)) rfl hsz rfl (hb hby hd) hf (W := W) (by show 2 * 0 + _ ≤ _; omega) hl
  exact own_step stp (k T' X' e')
theorem own_cast (X : Stand p l e R s m args below meth c T locs cells slots) (hx : p.tables.exec = Jvm.exec) (hZ : Z.Warmed39 s.vm) (hby : c.code = bs) {own K : String} {index : Nat} {a : Addr} (hown : s.vm.findClass own = some m.cls) (w : (Cond.classLink own index K).before a0 Z = true) (eT : T.heap = h) (I : Ins Z h a K true) (hd : decode bs pc = .ok (.checkcast index, 3)) (hp : pc + 3 = pc')
    (k : ∀ T', Stand p l e R s m args below meth c T' locs cells slots → T'.heap = h → own_End p e below F (T'.setTop (mkF m pc' Ls (.ref a :: st)))) : own_End p e below F (T.setTop (mkF m pc Ls (.ref a :: st))) := by
  subst hp
  obtain ⟨T', X', e', stp⟩ := castY X hx hZ hown w eT I (g := mkF m pc Ls (.ref a :: st)) rfl rfl (hb hby hd)
  exact own_step stp (k T' X' e')
theorem own_inst (X : Stand p l e R s m args below meth c T locs cells slots) (hx : p.tables.exec = Jvm.exec) (hZ : Z.Warmed39 s.vm) (hby : c.code = bs) {own K : String} {index : Nat} {a : Addr} (hown : s.vm.findClass own = some m.cls) (w : (Cond.classLink own index K).before a0 Z = true) (eT : T.heap = h) (I : Ins Z h a K true) (hd : decode bs pc = .ok (.instanceof index, 3)) (hp : pc + 3 = pc')
    (k : ∀ T', Stand p l e R s m args below meth c T' locs cells slots → T'.heap = h → own_End p e below F (T'.setTop (mkF m pc' Ls (.int 1 :: st)))) : own_End p e below F (T.setTop (mkF m pc Ls (.ref a :: st))) := by
  subst hp
  obtain ⟨T', X', e', stp⟩ := instY X hx hZ hown w eT I (g := mkF m pc Ls (.ref a :: st)) rfl rfl (hb hby hd)
  exact own_step stp (k T' X' e')
theorem own_instNull (X : Stand p l e R s m args below meth c T locs cells slots) (hx : p.tables.exec = Jvm.exec) (hby : c.code = bs) {index : Nat} (hd : decode bs pc = .ok (.instanceof index, 3)) (hp : pc + 3 = pc') (k : own_End p e below F (T.setTop (mkF m pc' Ls (.int 0 :: st)))) : own_End p e below F (T.setTop (mkF m pc Ls (.null :: st))) := by
  subst hp
  exact own_step (fun t q => X.instanceofNull hx (g := mkF m pc Ls (.null :: st)) rfl rfl (hb hby hd) _ q) k
end Heap
end OwnKit

theorem wd_0 {a0 : Array Value} {Z : State} (hw : ∀ d ∈ tables_1, d.before a0 Z = true) : (Jvm.Cond.arrayClass Jvm.ClassFile.FieldType.char).before a0 Z = true := hw _ (List.mem_of_getElem? (i := 0) rfl)
theorem wd_1 {a0 : Array Value} {Z : State} (hw : ∀ d ∈ tables_1, d.before a0 Z = true) : (Jvm.Cond.classLink "com/example/hermod/hermod/resource/ConditionIsGivenPinLaw" (7 : Nat) "java/lang/String").before a0 Z = true := hw _ (List.mem_of_getElem? (i := 1) rfl)
theorem wd_2 {a0 : Array Value} {Z : State} (hw : ∀ d ∈ tables_1, d.before a0 Z = true) : (Jvm.Cond.instantiable "java/lang/String" (4 : Nat)).before a0 Z = true := hw _ (List.mem_of_getElem? (i := 2) rfl)
theorem wd_3 {a0 : Array Value} {Z : State} (hw : ∀ d ∈ tables_1, d.before a0 Z = true) : (Jvm.Cond.initialized "java/lang/String").before a0 Z = true := hw _ (List.mem_of_getElem? (i := 3) rfl)
theorem wd_4 {a0 : Array Value} {Z : State} (hw : ∀ d ∈ tables_1, d.before a0 Z = true) : (Jvm.Cond.methodLink "com/example/hermod/hermod/resource/ConditionIsGivenPinLaw" (9 : Nat) ({ cls := "java/lang/String", name := "<init>", desc := "([C)V" } : Jvm.MethodName)).before a0 Z = true := hw _ (List.mem_of_getElem? (i := 4) rfl)
theorem wd_5 {a0 : Array Value} {Z : State} (hw : ∀ d ∈ tables_1, d.before a0 Z = true) : (Jvm.Cond.instanceMethod ({ cls := "java/lang/String", name := "<init>", desc := "([C)V" } : Jvm.MethodName)).before a0 Z = true := hw _ (List.mem_of_getElem? (i := 5) rfl)
theorem wd_6 {a0 : Array Value} {Z : State} (hw : ∀ d ∈ tables_1, d.before a0 Z = true) : (Jvm.Cond.code ({ cls := "java/lang/String", name := "<init>", desc := "([C)V" } : Jvm.MethodName) jdk_42_method_3_code (2 : Nat) (Option.none : Option Jvm.ClassFile.FieldType)).before a0 Z = true := hw _ (List.mem_of_getElem? (i := 6) rfl)
theorem wd_7 {a0 : Array Value} {Z : State} (hw : ∀ d ∈ tables_1, d.before a0 Z = true) : (Jvm.Cond.methodLink "java/lang/String" (27 : Nat) ({ cls := "java/lang/String", name := "<init>", desc := "([CIILjava/lang/Void;)V" } : Jvm.MethodName)).before a0 Z = true := hw _ (List.mem_of_getElem? (i := 7) rfl)
theorem wd_8 {a0 : Array Value} {Z : State} (hw : ∀ d ∈ tables_1, d.before a0 Z = true) : (Jvm.Cond.instanceMethod ({ cls := "java/lang/String", name := "<init>", desc := "([CIILjava/lang/Void;)V" } : Jvm.MethodName)).before a0 Z = true := hw _ (List.mem_of_getElem? (i := 8) rfl)
theorem wd_10 {a0 : Array Value} {Z : State} (hw : ∀ d ∈ tables_1, d.before a0 Z = true) : (Jvm.Cond.code ({ cls := "java/lang/String", name := "<init>", desc := "([CIILjava/lang/Void;)V" } : Jvm.MethodName) jdk_42_method_149_code (6 : Nat) (Option.none : Option Jvm.ClassFile.FieldType)).before a0 Z = true := hw _ (List.mem_of_getElem? (i := 10) rfl)
theorem wd_11 {a0 : Array Value} {Z : State} (hw : ∀ d ∈ tables_1, d.before a0 Z = true) : (Jvm.Cond.methodLink "java/lang/String" (1 : Nat) ({ cls := "java/lang/Object", name := "<init>", desc := "()V" } : Jvm.MethodName)).before a0 Z = true := hw _ (List.mem_of_getElem? (i := 11) rfl)
theorem wd_12 {a0 : Array Value} {Z : State} (hw : ∀ d ∈ tables_1, d.before a0 Z = true) : (Jvm.Cond.instanceMethod ({ cls := "java/lang/Object", name := "<init>", desc := "()V" } : Jvm.MethodName)).before a0 Z = true := hw _ (List.mem_of_getElem? (i := 12) rfl)
theorem wd_13 {a0 : Array Value} {Z : State} (hw : ∀ d ∈ tables_1, d.before a0 Z = true) : (Jvm.Cond.code ({ cls := "java/lang/Object", name := "<init>", desc := "()V" } : Jvm.MethodName) object_method_1_code (1 : Nat) (Option.none : Option Jvm.ClassFile.FieldType)).before a0 Z = true := hw _ (List.mem_of_getElem? (i := 13) rfl)
theorem wd_14 {a0 : Array Value} {Z : State} (hw : ∀ d ∈ tables_1, d.before a0 Z = true) : (Jvm.Cond.stringLink "java/lang/String" (7 : Nat) "").before a0 Z = true := hw _ (List.mem_of_getElem? (i := 14) rfl)
theorem wd_15 {a0 : Array Value} {Z : State} (hw : ∀ d ∈ tables_1, d.before a0 Z = true) : (Jvm.Cond.arrayClass Jvm.ClassFile.FieldType.byte).before a0 Z = true := hw _ (List.mem_of_getElem? (i := 15) rfl)
theorem wd_16 {a0 : Array Value} {Z : State} (hw : ∀ d ∈ tables_1, d.before a0 Z = true) : (Jvm.Cond.laysFinal "java/lang/String" "java/lang/String" "value" "[B").before a0 Z = true := hw _ (List.mem_of_getElem? (i := 16) rfl)
theorem wd_17 {a0 : Array Value} {Z : State} (hw : ∀ d ∈ tables_1, d.before a0 Z = true) : (Jvm.Cond.laysFinal "java/lang/String" "java/lang/String" "coder" "B").before a0 Z = true := hw _ (List.mem_of_getElem? (i := 17) rfl)
theorem wd_18 {a0 : Array Value} {Z : State} (hw : ∀ d ∈ tables_1, d.before a0 Z = true) : (Jvm.Cond.soleField "java/lang/String" "value").before a0 Z = true := hw _ (List.mem_of_getElem? (i := 18) rfl)
theorem wd_19 {a0 : Array Value} {Z : State} (hw : ∀ d ∈ tables_1, d.before a0 Z = true) : (Jvm.Cond.soleField "java/lang/String" "coder").before a0 Z = true := hw _ (List.mem_of_getElem? (i := 19) rfl)
theorem wd_20 {a0 : Array Value} {Z : State} (hw : ∀ d ∈ tables_1, d.before a0 Z = true) : (Jvm.Cond.fieldLink "java/lang/String" (9 : Nat) "java/lang/String" "value" "[B").before a0 Z = true := hw _ (List.mem_of_getElem? (i := 20) rfl)
theorem wd_21 {a0 : Array Value} {Z : State} (hw : ∀ d ∈ tables_1, d.before a0 Z = true) : (Jvm.Cond.fieldLink "java/lang/String" (15 : Nat) "java/lang/String" "coder" "B").before a0 Z = true := hw _ (List.mem_of_getElem? (i := 21) rfl)
theorem wd_22 {a0 : Array Value} {Z : State} (hw : ∀ d ∈ tables_1, d.before a0 Z = true) : (Jvm.Cond.classLink "com/example/hermod/hermod/resource/ConditionIsGivenPinLaw" (12 : Nat) "com/example/hermod/hermod/resource/Condition").before a0 Z = true := hw _ (List.mem_of_getElem? (i := 22) rfl)
theorem wd_23 {a0 : Array Value} {Z : State} (hw : ∀ d ∈ tables_1, d.before a0 Z = true) : (Jvm.Cond.instantiable "com/example/hermod/hermod/resource/Condition" (3 : Nat)).before a0 Z = true := hw _ (List.mem_of_getElem? (i := 23) rfl)
theorem wd_24 {a0 : Array Value} {Z : State} (hw : ∀ d ∈ tables_1, d.before a0 Z = true) : (Jvm.Cond.initialized "com/example/hermod/hermod/resource/Condition").before a0 Z = true := hw _ (List.mem_of_getElem? (i := 24) rfl)
theorem wd_25 {a0 : Array Value} {Z : State} (hw : ∀ d ∈ tables_1, d.before a0 Z = true) : (Jvm.Cond.methodLink "com/example/hermod/hermod/resource/ConditionIsGivenPinLaw" (14 : Nat) ({ cls := "com/example/hermod/hermod/resource/Condition", name := "<init>", desc := "(Ljava/lang/String;JZ)V" } : Jvm.MethodName)).before a0 Z = true := hw _ (List.mem_of_getElem? (i := 25) rfl)
theorem wd_26 {a0 : Array Value} {Z : State} (hw : ∀ d ∈ tables_1, d.before a0 Z = true) : (Jvm.Cond.instanceMethod ({ cls := "com/example/hermod/hermod/resource/Condition", name := "<init>", desc := "(Ljava/lang/String;JZ)V" } : Jvm.MethodName)).before a0 Z = true := hw _ (List.mem_of_getElem? (i := 26) rfl)
theorem wd_27 {a0 : Array Value} {Z : State} (hw : ∀ d ∈ tables_1, d.before a0 Z = true) : (Jvm.Cond.code ({ cls := "com/example/hermod/hermod/resource/Condition", name := "<init>", desc := "(Ljava/lang/String;JZ)V" } : Jvm.MethodName) prog_5_method_1_code (5 : Nat) (Option.none : Option Jvm.ClassFile.FieldType)).before a0 Z = true := hw _ (List.mem_of_getElem? (i := 27) rfl)
theorem wd_28 {a0 : Array Value} {Z : State} (hw : ∀ d ∈ tables_1, d.before a0 Z = true) : (Jvm.Cond.methodLink "com/example/hermod/hermod/resource/Condition" (1 : Nat) ({ cls := "java/lang/Record", name := "<init>", desc := "()V" } : Jvm.MethodName)).before a0 Z = true := hw _ (List.mem_of_getElem? (i := 28) rfl)
theorem wd_29 {a0 : Array Value} {Z : State} (hw : ∀ d ∈ tables_1, d.before a0 Z = true) : (Jvm.Cond.instanceMethod ({ cls := "java/lang/Record", name := "<init>", desc := "()V" } : Jvm.MethodName)).before a0 Z = true := hw _ (List.mem_of_getElem? (i := 29) rfl)
theorem wd_31 {a0 : Array Value} {Z : State} (hw : ∀ d ∈ tables_1, d.before a0 Z = true) : (Jvm.Cond.initialized "java/lang/Record").before a0 Z = true := hw _ (List.mem_of_getElem? (i := 31) rfl)
theorem wd_32 {a0 : Array Value} {Z : State} (hw : ∀ d ∈ tables_1, d.before a0 Z = true) : (Jvm.Cond.code ({ cls := "java/lang/Record", name := "<init>", desc := "()V" } : Jvm.MethodName) jdk_30_method_1_code (1 : Nat) (Option.none : Option Jvm.ClassFile.FieldType)).before a0 Z = true := hw _ (List.mem_of_getElem? (i := 32) rfl)
theorem wd_33 {a0 : Array Value} {Z : State} (hw : ∀ d ∈ tables_1, d.before a0 Z = true) : (Jvm.Cond.methodLink "java/lang/Record" (1 : Nat) ({ cls := "java/lang/Object", name := "<init>", desc := "()V" } : Jvm.MethodName)).before a0 Z = true := hw _ (List.mem_of_getElem? (i := 33) rfl)
theorem wd_34 {a0 : Array Value} {Z : State} (hw : ∀ d ∈ tables_1, d.before a0 Z = true) : (Jvm.Cond.fieldLink "com/example/hermod/hermod/resource/Condition" (7 : Nat) "com/example/hermod/hermod/resource/Condition" "etags" "Ljava/lang/String;").before a0 Z = true := hw _ (List.mem_of_getElem? (i := 34) rfl)
theorem wd_35 {a0 : Array Value} {Z : State} (hw : ∀ d ∈ tables_1, d.before a0 Z = true) : (Jvm.Cond.laysFinal "com/example/hermod/hermod/resource/Condition" "com/example/hermod/hermod/resource/Condition" "etags" "Ljava/lang/String;").before a0 Z = true := hw _ (List.mem_of_getElem? (i := 35) rfl)
theorem wd_36 {a0 : Array Value} {Z : State} (hw : ∀ d ∈ tables_1, d.before a0 Z = true) : (Jvm.Cond.fieldLink "com/example/hermod/hermod/resource/Condition" (13 : Nat) "com/example/hermod/hermod/resource/Condition" "date" "J").before a0 Z = true := hw _ (List.mem_of_getElem? (i := 36) rfl)
theorem wd_37 {a0 : Array Value} {Z : State} (hw : ∀ d ∈ tables_1, d.before a0 Z = true) : (Jvm.Cond.laysFinal "com/example/hermod/hermod/resource/Condition" "com/example/hermod/hermod/resource/Condition" "date" "J").before a0 Z = true := hw _ (List.mem_of_getElem? (i := 37) rfl)
theorem wd_38 {a0 : Array Value} {Z : State} (hw : ∀ d ∈ tables_1, d.before a0 Z = true) : (Jvm.Cond.fieldLink "com/example/hermod/hermod/resource/Condition" (17 : Nat) "com/example/hermod/hermod/resource/Condition" "weak" "Z").before a0 Z = true := hw _ (List.mem_of_getElem? (i := 38) rfl)
theorem wd_39 {a0 : Array Value} {Z : State} (hw : ∀ d ∈ tables_1, d.before a0 Z = true) : (Jvm.Cond.laysFinal "com/example/hermod/hermod/resource/Condition" "com/example/hermod/hermod/resource/Condition" "weak" "Z").before a0 Z = true := hw _ (List.mem_of_getElem? (i := 39) rfl)
theorem wd_40 {a0 : Array Value} {Z : State} (hw : ∀ d ∈ tables_1, d.before a0 Z = true) : (Jvm.Cond.methodLink "com/example/hermod/hermod/resource/ConditionIsGivenPinLaw" (17 : Nat) ({ cls := "com/example/hermod/hermod/resource/Condition", name := "isGiven", desc := "()Z" } : Jvm.MethodName)).before a0 Z = true := hw _ (List.mem_of_getElem? (i := 40) rfl)
theorem wd_41 {a0 : Array Value} {Z : State} (hw : ∀ d ∈ tables_1, d.before a0 Z = true) : (Jvm.Cond.declares ({ cls := "com/example/hermod/hermod/resource/Condition", name := "isGiven", desc := "()Z" } : Jvm.MethodName)).before a0 Z = true := hw _ (List.mem_of_getElem? (i := 41) rfl)
theorem wd_42 {a0 : Array Value} {Z : State} (hw : ∀ d ∈ tables_1, d.before a0 Z = true) : (Jvm.Cond.instanceMethod ({ cls := "com/example/hermod/hermod/resource/Condition", name := "isGiven", desc := "()Z" } : Jvm.MethodName)).before a0 Z = true := hw _ (List.mem_of_getElem? (i := 42) rfl)
theorem wd_43 {a0 : Array Value} {Z : State} (hw : ∀ d ∈ tables_1, d.before a0 Z = true) : (Jvm.Cond.selects "com/example/hermod/hermod/resource/Condition" ({ cls := "com/example/hermod/hermod/resource/Condition", name := "isGiven", desc := "()Z" } : Jvm.MethodName) ({ cls := "com/example/hermod/hermod/resource/Condition", name := "isGiven", desc := "()Z" } : Jvm.MethodName)).before a0 Z = true := hw _ (List.mem_of_getElem? (i := 43) rfl)
theorem wd_44 {a0 : Array Value} {Z : State} (hw : ∀ d ∈ tables_1, d.before a0 Z = true) : (Jvm.Cond.code ({ cls := "com/example/hermod/hermod/resource/Condition", name := "isGiven", desc := "()Z" } : Jvm.MethodName) prog_5_method_4_code (1 : Nat) (Option.some Jvm.ClassFile.FieldType.boolean)).before a0 Z = true := hw _ (List.mem_of_getElem? (i := 44) rfl)
theorem wd_45 {a0 : Array Value} {Z : State} (hw : ∀ d ∈ tables_1, d.before a0 Z = true) : (Jvm.Cond.methodLink "com/example/hermod/hermod/resource/Condition" (24 : Nat) ({ cls := "java/lang/String", name := "isEmpty", desc := "()Z" } : Jvm.MethodName)).before a0 Z = true := hw _ (List.mem_of_getElem? (i := 45) rfl)
theorem wd_46 {a0 : Array Value} {Z : State} (hw : ∀ d ∈ tables_1, d.before a0 Z = true) : (Jvm.Cond.declares ({ cls := "java/lang/String", name := "isEmpty", desc := "()Z" } : Jvm.MethodName)).before a0 Z = true := hw _ (List.mem_of_getElem? (i := 46) rfl)
theorem wd_47 {a0 : Array Value} {Z : State} (hw : ∀ d ∈ tables_1, d.before a0 Z = true) : (Jvm.Cond.instanceMethod ({ cls := "java/lang/String", name := "isEmpty", desc := "()Z" } : Jvm.MethodName)).before a0 Z = true := hw _ (List.mem_of_getElem? (i := 47) rfl)
theorem wd_48 {a0 : Array Value} {Z : State} (hw : ∀ d ∈ tables_1, d.before a0 Z = true) : (Jvm.Cond.selects "java/lang/String" ({ cls := "java/lang/String", name := "isEmpty", desc := "()Z" } : Jvm.MethodName) ({ cls := "java/lang/String", name := "isEmpty", desc := "()Z" } : Jvm.MethodName)).before a0 Z = true := hw _ (List.mem_of_getElem? (i := 48) rfl)
theorem wd_49 {a0 : Array Value} {Z : State} (hw : ∀ d ∈ tables_1, d.before a0 Z = true) : (Jvm.Cond.code ({ cls := "java/lang/String", name := "isEmpty", desc := "()Z" } : Jvm.MethodName) jdk_42_method_55_code (1 : Nat) (Option.some Jvm.ClassFile.FieldType.boolean)).before a0 Z = true := hw _ (List.mem_of_getElem? (i := 49) rfl)
theorem wd_50 {a0 : Array Value} {Z : State} (hw : ∀ d ∈ tables_1, d.before a0 Z = true) : (Jvm.Cond.fieldLink "java/lang/String" (38 : Nat) "java/lang/String" "COMPACT_STRINGS" "Z").before a0 Z = true := hw _ (List.mem_of_getElem? (i := 50) rfl)
theorem wd_51 {a0 : Array Value} {Z : State} (hw : ∀ d ∈ tables_1, d.before a0 Z = true) : (Jvm.Cond.methodLink "java/lang/String" (177 : Nat) ({ cls := "java/lang/StringUTF16", name := "compress", desc := "([CII)[B" } : Jvm.MethodName)).before a0 Z = true := hw _ (List.mem_of_getElem? (i := 51) rfl)
theorem wd_52 {a0 : Array Value} {Z : State} (hw : ∀ d ∈ tables_1, d.before a0 Z = true) : (Jvm.Cond.static ({ cls := "java/lang/StringUTF16", name := "compress", desc := "([CII)[B" } : Jvm.MethodName)).before a0 Z = true := hw _ (List.mem_of_getElem? (i := 52) rfl)
theorem wd_53 {a0 : Array Value} {Z : State} (hw : ∀ d ∈ tables_1, d.before a0 Z = true) : (Jvm.Cond.initialized "java/lang/StringUTF16").before a0 Z = true := hw _ (List.mem_of_getElem? (i := 53) rfl)
theorem wd_54 {a0 : Array Value} {Z : State} (hw : ∀ d ∈ tables_1, d.before a0 Z = true) : (Jvm.Cond.code ({ cls := "java/lang/StringUTF16", name := "compress", desc := "([CII)[B" } : Jvm.MethodName) jdk_52_method_16_code (6 : Nat) (Option.some (Jvm.ClassFile.FieldType.array Jvm.ClassFile.FieldType.byte))).before a0 Z = true := hw _ (List.mem_of_getElem? (i := 54) rfl)
theorem wd_55 {a0 : Array Value} {Z : State} (hw : ∀ d ∈ tables_1, d.before a0 Z = true) : (Jvm.Cond.methodLink "java/lang/StringUTF16" (115 : Nat) ({ cls := "java/lang/StringUTF16", name := "compress", desc := "([CI[BII)I" } : Jvm.MethodName)).before a0 Z = true := hw _ (List.mem_of_getElem? (i := 55) rfl)
theorem wd_56 {a0 : Array Value} {Z : State} (hw : ∀ d ∈ tables_1, d.before a0 Z = true) : (Jvm.Cond.static ({ cls := "java/lang/StringUTF16", name := "compress", desc := "([CI[BII)I" } : Jvm.MethodName)).before a0 Z = true := hw _ (List.mem_of_getElem? (i := 56) rfl)
theorem wd_57 {a0 : Array Value} {Z : State} (hw : ∀ d ∈ tables_1, d.before a0 Z = true) : (Jvm.Cond.code ({ cls := "java/lang/StringUTF16", name := "compress", desc := "([CI[BII)I" } : Jvm.MethodName) jdk_52_method_21_code (7 : Nat) (Option.some Jvm.ClassFile.FieldType.int)).before a0 Z = true := hw _ (List.mem_of_getElem? (i := 57) rfl)
theorem wd_58 {a0 : Array Value} {Z : State} (hw : ∀ d ∈ tables_1, d.before a0 Z = true) : (Jvm.Cond.methodLink "java/lang/String" (47 : Nat) ({ cls := "java/lang/StringUTF16", name := "coderFromArrayLen", desc := "([BI)B" } : Jvm.MethodName)).before a0 Z = true := hw _ (List.mem_of_getElem? (i := 58) rfl)
theorem wd_59 {a0 : Array Value} {Z : State} (hw : ∀ d ∈ tables_1, d.before a0 Z = true) : (Jvm.Cond.static ({ cls := "java/lang/StringUTF16", name := "coderFromArrayLen", desc := "([BI)B" } : Jvm.MethodName)).before a0 Z = true := hw _ (List.mem_of_getElem? (i := 59) rfl)
theorem wd_60 {a0 : Array Value} {Z : State} (hw : ∀ d ∈ tables_1, d.before a0 Z = true) : (Jvm.Cond.code ({ cls := "java/lang/StringUTF16", name := "coderFromArrayLen", desc := "([BI)B" } : Jvm.MethodName) jdk_52_method_15_code (2 : Nat) (Option.some Jvm.ClassFile.FieldType.byte)).before a0 Z = true := hw _ (List.mem_of_getElem? (i := 60) rfl)
theorem d1_0 : decode jdk_42_method_3_code 0 = .ok (.aload_n 0, 1) := by decide +kernel
theorem d1_1 : decode jdk_42_method_3_code 1 = .ok (.aload_n 1, 1) := by decide +kernel
theorem d1_2 : decode jdk_42_method_3_code 2 = .ok (.iconst 0, 1) := by decide +kernel
theorem d1_3 : decode jdk_42_method_3_code 3 = .ok (.aload_n 1, 1) := by decide +kernel
theorem d1_4 : decode jdk_42_method_3_code 4 = .ok (.arraylength, 1) := by decide +kernel
theorem d1_5 : decode jdk_42_method_3_code 5 = .ok (.aconst_null, 1) := by decide +kernel
theorem d1_6 : decode jdk_42_method_3_code 6 = .ok (.invokespecial 27, 3) := by decide +kernel
theorem d1_9 : decode jdk_42_method_3_code 9 = .ok (.return_, 1) := by decide +kernel
theorem d2_0 : decode jdk_42_method_149_code 0 = .ok (.aload_n 0, 1) := by decide +kernel
theorem d2_1 : decode jdk_42_method_149_code 1 = .ok (.invokespecial 1, 3) := by decide +kernel
theorem d2_4 : decode jdk_42_method_149_code 4 = .ok (.iload_n 3, 1) := by decide +kernel
theorem d2_5 : decode jdk_42_method_149_code 5 = .ok (.ifCond .ne 22, 3) := by decide +kernel
theorem d2_8 : decode jdk_42_method_149_code 8 = .ok (.aload_n 0, 1) := by decide +kernel
theorem d2_9 : decode jdk_42_method_149_code 9 = .ok (.ldc 7, 2) := by decide +kernel
theorem d2_11 : decode jdk_42_method_149_code 11 = .ok (.getfield 9, 3) := by decide +kernel
theorem d2_14 : decode jdk_42_method_149_code 14 = .ok (.putfield 9, 3) := by decide +kernel
theorem d2_17 : decode jdk_42_method_149_code 17 = .ok (.aload_n 0, 1) := by decide +kernel
theorem d2_18 : decode jdk_42_method_149_code 18 = .ok (.ldc 7, 2) := by decide +kernel
theorem d2_20 : decode jdk_42_method_149_code 20 = .ok (.getfield 15, 3) := by decide +kernel
theorem d2_23 : decode jdk_42_method_149_code 23 = .ok (.putfield 15, 3) := by decide +kernel
theorem d2_26 : decode jdk_42_method_149_code 26 = .ok (.return_, 1) := by decide +kernel
theorem d2_27 : decode jdk_42_method_149_code 27 = .ok (.getstatic 38, 3) := by decide +kernel
theorem d2_30 : decode jdk_42_method_149_code 30 = .ok (.ifCond .eq 28, 3) := by decide +kernel
theorem d2_33 : decode jdk_42_method_149_code 33 = .ok (.aload_n 1, 1) := by decide +kernel
theorem d2_34 : decode jdk_42_method_149_code 34 = .ok (.iload_n 2, 1) := by decide +kernel
theorem d2_35 : decode jdk_42_method_149_code 35 = .ok (.iload_n 3, 1) := by decide +kernel
theorem d2_36 : decode jdk_42_method_149_code 36 = .ok (.invokestatic 177, 3) := by decide +kernel
theorem d2_39 : decode jdk_42_method_149_code 39 = .ok (.astore 5, 2) := by decide +kernel
theorem d2_41 : decode jdk_42_method_149_code 41 = .ok (.aload_n 0, 1) := by decide +kernel
theorem d2_42 : decode jdk_42_method_149_code 42 = .ok (.aload 5, 2) := by decide +kernel
theorem d2_44 : decode jdk_42_method_149_code 44 = .ok (.iload_n 3, 1) := by decide +kernel
theorem d2_45 : decode jdk_42_method_149_code 45 = .ok (.invokestatic 47, 3) := by decide +kernel
theorem d2_48 : decode jdk_42_method_149_code 48 = .ok (.putfield 15, 3) := by decide +kernel
theorem d2_51 : decode jdk_42_method_149_code 51 = .ok (.aload_n 0, 1) := by decide +kernel
theorem d2_52 : decode jdk_42_method_149_code 52 = .ok (.aload 5, 2) := by decide +kernel
theorem d2_54 : decode jdk_42_method_149_code 54 = .ok (.putfield 9, 3) := by decide +kernel
theorem d2_57 : decode jdk_42_method_149_code 57 = .ok (.return_, 1) := by decide +kernel
theorem d4_0 : decode prog_5_method_1_code 0 = .ok (.aload_n 0, 1) := by decide +kernel
theorem d4_1 : decode prog_5_method_1_code 1 = .ok (.invokespecial 1, 3) := by decide +kernel
theorem d4_4 : decode prog_5_method_1_code 4 = .ok (.aload_n 0, 1) := by decide +kernel
theorem d4_5 : decode prog_5_method_1_code 5 = .ok (.aload_n 1, 1) := by decide +kernel
theorem d4_6 : decode prog_5_method_1_code 6 = .ok (.putfield 7, 3) := by decide +kernel
theorem d4_9 : decode prog_5_method_1_code 9 = .ok (.aload_n 0, 1) := by decide +kernel
theorem d4_10 : decode prog_5_method_1_code 10 = .ok (.lload_n 2, 1) := by decide +kernel
theorem d4_11 : decode prog_5_method_1_code 11 = .ok (.putfield 13, 3) := by decide +kernel
theorem d4_14 : decode prog_5_method_1_code 14 = .ok (.aload_n 0, 1) := by decide +kernel
theorem d4_15 : decode prog_5_method_1_code 15 = .ok (.iload 4, 2) := by decide +kernel
theorem d4_17 : decode prog_5_method_1_code 17 = .ok (.putfield 17, 3) := by decide +kernel
theorem d4_20 : decode prog_5_method_1_code 20 = .ok (.return_, 1) := by decide +kernel
theorem d5_0 : decode jdk_30_method_1_code 0 = .ok (.aload_n 0, 1) := by decide +kernel
theorem d5_1 : decode jdk_30_method_1_code 1 = .ok (.invokespecial 1, 3) := by decide +kernel
theorem d5_4 : decode jdk_30_method_1_code 4 = .ok (.return_, 1) := by decide +kernel
theorem d6_0 : decode prog_5_method_4_code 0 = .ok (.aload_n 0, 1) := by decide +kernel
theorem d6_1 : decode prog_5_method_4_code 1 = .ok (.getfield 7, 3) := by decide +kernel
theorem d6_4 : decode prog_5_method_4_code 4 = .ok (.invokevirtual 24, 3) := by decide +kernel
theorem d6_7 : decode prog_5_method_4_code 7 = .ok (.ifCond .eq 12, 3) := by decide +kernel
theorem d6_10 : decode prog_5_method_4_code 10 = .ok (.aload_n 0, 1) := by decide +kernel
theorem d6_11 : decode prog_5_method_4_code 11 = .ok (.getfield 13, 3) := by decide +kernel
theorem d6_14 : decode prog_5_method_4_code 14 = .ok (.lconst 0, 1) := by decide +kernel
theorem d6_15 : decode prog_5_method_4_code 15 = .ok (.lcmp, 1) := by decide +kernel
theorem d6_16 : decode prog_5_method_4_code 16 = .ok (.ifCond .eq 7, 3) := by decide +kernel
theorem d6_19 : decode prog_5_method_4_code 19 = .ok (.iconst 1, 1) := by decide +kernel
theorem d6_20 : decode prog_5_method_4_code 20 = .ok (.goto 4, 3) := by decide +kernel
theorem d6_23 : decode prog_5_method_4_code 23 = .ok (.iconst 0, 1) := by decide +kernel
theorem d6_24 : decode prog_5_method_4_code 24 = .ok (.ireturn, 1) := by decide +kernel
theorem d7_0 : decode jdk_42_method_55_code 0 = .ok (.aload_n 0, 1) := by decide +kernel
theorem d7_1 : decode jdk_42_method_55_code 1 = .ok (.getfield 9, 3) := by decide +kernel
theorem d7_4 : decode jdk_42_method_55_code 4 = .ok (.arraylength, 1) := by decide +kernel
theorem d7_5 : decode jdk_42_method_55_code 5 = .ok (.ifCond .ne 7, 3) := by decide +kernel
theorem d7_8 : decode jdk_42_method_55_code 8 = .ok (.iconst 1, 1) := by decide +kernel
theorem d7_9 : decode jdk_42_method_55_code 9 = .ok (.goto 4, 3) := by decide +kernel
theorem d7_12 : decode jdk_42_method_55_code 12 = .ok (.iconst 0, 1) := by decide +kernel
theorem d7_13 : decode jdk_42_method_55_code 13 = .ok (.ireturn, 1) := by decide +kernel
theorem d8_0 : decode jdk_52_method_16_code 0 = .ok (.iload_n 2, 1) := by decide +kernel
theorem d8_1 : decode jdk_52_method_16_code 1 = .ok (.newarray .byte, 2) := by decide +kernel
theorem d8_3 : decode jdk_52_method_16_code 3 = .ok (.astore_n 3, 1) := by decide +kernel
theorem d8_4 : decode jdk_52_method_16_code 4 = .ok (.aload_n 0, 1) := by decide +kernel
theorem d8_5 : decode jdk_52_method_16_code 5 = .ok (.iload_n 1, 1) := by decide +kernel
theorem d8_6 : decode jdk_52_method_16_code 6 = .ok (.aload_n 3, 1) := by decide +kernel
theorem d8_7 : decode jdk_52_method_16_code 7 = .ok (.iconst 0, 1) := by decide +kernel
theorem d8_8 : decode jdk_52_method_16_code 8 = .ok (.iload_n 2, 1) := by decide +kernel
theorem d8_9 : decode jdk_52_method_16_code 9 = .ok (.invokestatic 115, 3) := by decide +kernel
theorem d8_12 : decode jdk_52_method_16_code 12 = .ok (.istore 4, 2) := by decide +kernel
theorem d8_14 : decode jdk_52_method_16_code 14 = .ok (.iload 4, 2) := by decide +kernel
theorem d8_16 : decode jdk_52_method_16_code 16 = .ok (.iload_n 2, 1) := by decide +kernel
theorem d8_17 : decode jdk_52_method_16_code 17 = .ok (.if_icmp .eq 40, 3) := by decide +kernel
theorem d8_57 : decode jdk_52_method_16_code 57 = .ok (.aload_n 3, 1) := by decide +kernel
theorem d8_58 : decode jdk_52_method_16_code 58 = .ok (.areturn, 1) := by decide +kernel
theorem d9_0 : decode jdk_52_method_21_code 0 = .ok (.iconst 0, 1) := by decide +kernel
theorem d9_1 : decode jdk_52_method_21_code 1 = .ok (.istore 5, 2) := by decide +kernel
theorem d9_3 : decode jdk_52_method_21_code 3 = .ok (.iload 5, 2) := by decide +kernel
theorem d9_5 : decode jdk_52_method_21_code 5 = .ok (.iload 4, 2) := by decide +kernel
theorem d9_7 : decode jdk_52_method_21_code 7 = .ok (.if_icmp .ge 37, 3) := by decide +kernel
theorem d9_10 : decode jdk_52_method_21_code 10 = .ok (.aload_n 0, 1) := by decide +kernel
theorem d9_11 : decode jdk_52_method_21_code 11 = .ok (.iload_n 1, 1) := by decide +kernel
theorem d9_12 : decode jdk_52_method_21_code 12 = .ok (.caload, 1) := by decide +kernel
theorem d9_13 : decode jdk_52_method_21_code 13 = .ok (.istore 6, 2) := by decide +kernel
theorem d9_15 : decode jdk_52_method_21_code 15 = .ok (.iload 6, 2) := by decide +kernel
theorem d9_17 : decode jdk_52_method_21_code 17 = .ok (.sipush 255, 3) := by decide +kernel
theorem d9_20 : decode jdk_52_method_21_code 20 = .ok (.if_icmp .le 6, 3) := by decide +kernel
theorem d9_26 : decode jdk_52_method_21_code 26 = .ok (.aload_n 2, 1) := by decide +kernel
theorem d9_27 : decode jdk_52_method_21_code 27 = .ok (.iload_n 3, 1) := by decide +kernel
theorem d9_28 : decode jdk_52_method_21_code 28 = .ok (.iload 6, 2) := by decide +kernel
theorem d9_30 : decode jdk_52_method_21_code 30 = .ok (.i2b, 1) := by decide +kernel
theorem d9_31 : decode jdk_52_method_21_code 31 = .ok (.bastore, 1) := by decide +kernel
theorem d9_32 : decode jdk_52_method_21_code 32 = .ok (.iinc 1 1, 3) := by decide +kernel
theorem d9_35 : decode jdk_52_method_21_code 35 = .ok (.iinc 3 1, 3) := by decide +kernel
theorem d9_38 : decode jdk_52_method_21_code 38 = .ok (.iinc 5 1, 3) := by decide +kernel
theorem d9_41 : decode jdk_52_method_21_code 41 = .ok (.goto (-38), 3) := by decide +kernel
theorem d9_44 : decode jdk_52_method_21_code 44 = .ok (.iload 4, 2) := by decide +kernel
theorem d9_46 : decode jdk_52_method_21_code 46 = .ok (.ireturn, 1) := by decide +kernel
theorem d10_0 : decode jdk_52_method_15_code 0 = .ok (.iload_n 1, 1) := by decide +kernel
theorem d10_1 : decode jdk_52_method_15_code 1 = .ok (.aload_n 0, 1) := by decide +kernel
theorem d10_2 : decode jdk_52_method_15_code 2 = .ok (.arraylength, 1) := by decide +kernel
theorem d10_3 : decode jdk_52_method_15_code 3 = .ok (.isub, 1) := by decide +kernel
theorem d10_4 : decode jdk_52_method_15_code 4 = .ok (.bipush 31, 2) := by decide +kernel
theorem d10_6 : decode jdk_52_method_15_code 6 = .ok (.iushr, 1) := by decide +kernel
theorem d10_7 : decode jdk_52_method_15_code 7 = .ok (.i2b, 1) := by decide +kernel
theorem d10_8 : decode jdk_52_method_15_code 8 = .ok (.ireturn, 1) := by decide +kernel
def own_EL : List (String × Nat) := [("java/lang/String", 7)]
theorem own_mem : ("java/lang/String", 7) ∈ own_EL := List.mem_cons_self
theorem own_t0 : (∀ c ∈ "".toList, c.toNat < 256) ∧ "".toList.map (fun c => Value.int (Jvm.Lit.byteI c.toNat.toUInt16)) = [] := ⟨by simp, rfl⟩
/-- a String whose value is null is no booked one -/
theorem own_safe {Z : State} {vm : Vm} {h : Heap} {a : Addr} (hal : Z.vm.Alike vm) (E : Exa Z h a "java/lang/String") (V : Fld Z h a "java/lang/String" "value" "[B" .null) : Safe Z own_EL vm h a := fun B => by
  obtain ⟨p, -, u, a', -, q, -, F, rfl | rfl⟩ := B
  · obtain ⟨cell, cf, k, i, f, v1, v2, v3, v4, v5, v6, v7⟩ := V
    cases (show h[q.sa]? = some q.sC from F.ha).symm.trans v1
    obtain ⟨cS, ⟨⟨-, -, -, ⟨c1, k1, i1, f1, -⟩, -, -, -, s1, -⟩, -⟩, -⟩ := F
    obtain ⟨k3, e3, -⟩ := State.fieldFound?_setVm (s := Z) hal v2
    have e4 := (show (Wst Z vm h).fieldFound? _ _ _ = _ from e3).symm.trans f1
    simp only [Option.some.injEq, Prod.mk.injEq] at e4
    rw [← e4.2.2.2, v7] at s1
    cases s1
  · obtain ⟨cell, k, e1, e2, e3, -, -⟩ := E
    cases (show h[q.sd]? = some q.SA from F.hd).symm.trans e1
    obtain ⟨cS, -, -, f, -⟩ := F
    rw [show (Wst Z vm h).vm.findClass "[B" = Z.vm.findClass "[B" from hal.findClass _ _] at f
    obtain ⟨k1, q1, q2⟩ := Vm.findClass_spec f
    obtain ⟨k2, q3, q4⟩ := Vm.findClass_spec e2
    cases q1.symm.trans q3
    exact absurd (q2.symm.trans q4) (by decide)
def own_FH (Z s : State) (Q : Option Value → Heap → List Loc → Prop) (KC KS : Nat) : Option Value → State → Prop := fun v s₂ => ∃ L, Q v s₂.heap L ∧ CHr Z own_EL s.vm s.heap s₂.vm s₂.heap ∧ ReturnedEndW s (.returned v) s₂ L KC KS
theorem own_bodyH {p : Program} {e : Env} {Z s : State} {below : List Frame} {Q : Option Value → Heap → List Loc → Prop} {KC KS : Nat} {U : State} (h : own_End p e below (own_FH Z s Q KC KS) U) : ∃ s₂ o, Steps p.tables e below U s₂ ∧ s₂.status = .running ∧ Ended s₂ below o ∧ ∃ v L, o = .returned v ∧ Q v s₂.heap L ∧ CHr Z own_EL s.vm s.heap s₂.vm s₂.heap ∧ ReturnedEndW s o s₂ L KC KS := by
  obtain ⟨s2, v, h1, h2, h3, L, h4, h5, h6⟩ := h
  exact ⟨s2, _, h1, h2, h3, v, L, rfl, h4, h5, h6⟩
theorem own_lvH {Z s T : State} {locs : List Loc} {cells slots KC KS : Nat} {Q : Option Value → Heap → List Loc → Prop} {v : Option Value} {vm₁ : Vm} {n : Nat} (H : CHr Z own_EL s.vm s.heap T.vm T.heap) (hS : s.Since vm₁ n) (hn : n ≤ T.heap.size) (hQ : Q v T.heap locs) (hc : cells ≤ KC) (hs : slots ≤ KS) : own_Lv (own_FH Z s Q KC KS) (s.setVm vm₁) T locs cells slots v := fun fs hW hsm => by
  obtain ⟨a, b, c'⟩ := hS.ended (U := T.setFrames fs) hW hn hsm
  exact ⟨locs, hQ, H, ⟨_, rfl⟩, a, b, c'.mono hc hs⟩
theorem own_EW {a0 : Array Value} {Z : State} (hw : ∀ d ∈ tables_1, d.before a0 Z = true) : EW Z a0 own_EL := EW.cons (wd_14 hw) own_t0.1 EW.nil
theorem own_wS {a0 : Array Value} {Z : State} (hw : ∀ d ∈ tables_1, d.before a0 Z = true) : ∀ a ∈ Bundle.stringAtoms, a.before a0 Z = true := by
  intro d hd
  simp only [Bundle.stringAtoms, List.mem_cons, List.not_mem_nil, or_false] at hd
  rcases hd with rfl | rfl | rfl | rfl | rfl | rfl | rfl
  · exact wd_3 hw
  · exact wd_2 hw
  · exact wd_15 hw
  · exact wd_16 hw
  · exact wd_17 hw
  · exact wd_18 hw
  · exact wd_19 hw
theorem own_pn0 : plainName "java/lang/String" = true := by first | (simp [plainName, overriddenIn]; done) | decide +kernel
theorem own_pd1 : parseMethodDescriptor "([CIILjava/lang/Void;)V" = some ⟨[(.array .char), .int, .int, (.object "java/lang/Void")], none⟩ := by decide +kernel
theorem own_pn2 : plainName "java/lang/StringUTF16" = true := by first | (simp [plainName, overriddenIn]; done) | decide +kernel
theorem own_pd3 : parseMethodDescriptor "([CI[BII)I" = some ⟨[(.array .char), .int, (.array .byte), .int, .int], some .int⟩ := by decide +kernel
theorem own_pd4 : parseMethodDescriptor "([CII)[B" = some ⟨[(.array .char), .int, .int], some (.array .byte)⟩ := by decide +kernel
theorem own_pd5 : parseMethodDescriptor "([BI)B" = some ⟨[(.array .byte), .int], some .byte⟩ := by decide +kernel
theorem own_pn6 : plainName "java/lang/Record" = true := by first | (simp [plainName, overriddenIn]; done) | decide +kernel
theorem own_pd7 : parseMethodDescriptor "()V" = some ⟨[], none⟩ := by decide +kernel
theorem own_pn8 : plainName "com/example/hermod/hermod/resource/Condition" = true := by first | (simp [plainName, overriddenIn]; done) | decide +kernel
theorem own_pd9 : parseMethodDescriptor "()Z" = some ⟨[], some .boolean⟩ := by decide +kernel
theorem own_pd10 : parseMethodDescriptor "([C)V" = some ⟨[(.array .char)], none⟩ := by decide +kernel
theorem own_pd11 : parseMethodDescriptor "(Ljava/lang/String;JZ)V" = some ⟨[(.object "java/lang/String"), .long, .boolean], none⟩ := by decide +kernel
theorem own_pn12 : plainName "com/example/hermod/hermod/resource/ConditionIsGivenPinLaw" = true := by first | (simp [plainName, overriddenIn]; done) | decide +kernel
set_option maxRecDepth 65536 in
theorem own_lk0 {p : Program} {l : Launch} {e : Env} {R : Room} {s : State} {vm0 : Vm} {kS : Nat} {m : MethodId} {args : Array Value} {below : List Frame} {meth : Method} {c : Code} {T : State} {locs : List Loc} {cells slots : Nat} {F : Option Value → State → Prop} {bs : ByteArray} {pc pc' : Nat} {Ls : Array Slot} {Z : State} {a0 : Array Value} {h : Heap} {x0 : Value} {x1 : Value} {x2 : Value} {x3 : Value} {b : Addr} {rest : List Value} {W : Nat} {rm : Room} {Q : Option Value → Heap → List Loc → Prop} (hw : ∀ d ∈ tables_1, d.before a0 Z = true) (X : Stand p l e R (s.setVm vm0) m args below meth c T locs cells slots) (hx : p.tables.exec = Jvm.exec) (hZ : Z.Warmed39 (s.setVm vm0).vm) (hby : c.code = bs) (hsz : Ls.size = c.maxLocals) (hown : (s.setVm vm0).vm.findClass "java/lang/String" = some m.cls) (hd : decode bs pc = .ok (.invokespecial 27, 3)) (hp : pc + 3 = pc') (eT : T.heap = h) (hW : (rest.map fun v => v.category).sum ≤ W)
    (hM : MetFree l (⟨"java/lang/String", "<init>", "([CIILjava/lang/Void;)V"⟩ : MethodName) (head1 [(Cond.code (⟨"java/lang/String", "<init>", "([CIILjava/lang/Void;)V"⟩ : MethodName) jdk_42_method_149_code 6 none)] rm) (fun aa U => aa = #[.ref b, x0, x1, x2, x3] ∧ Z.Warmed39 U.vm ∧ U.heap = h ∧ CHv Z own_EL U.vm h) (fun _ _ _ _ _ => True) (fun _ U o U' => ∃ v L, o = .returned v ∧ Q v U'.heap L ∧ CHr Z own_EL U.vm U.heap U'.vm U'.heap ∧ ReturnedEndW U o U' L rm.cells rm.slots)) (hf : rm.frames + 1 ≤ R.frames) (hl : W + (6 + 11) + rm.locals ≤ R.locals) (hc : cells + rm.cells ≤ R.cells) (hs : slots + rm.slots ≤ R.slots)
    (hS : s.Since vm0 kS) (hSn : kS ≤ h.size) (hEL : EW Z a0 own_EL) (HC : CHv Z own_EL vm0 h) (k : ∀ v T' L', Stand p l e R (s.setVm T'.vm) m args below meth c T' (locs ++ L') (cells + rm.cells) (slots + rm.slots) → s.Since T'.vm T'.heap.size → T'.heap.size ≤ T'.heap.size → Z.Warmed39 (s.setVm T'.vm).vm → (s.setVm T'.vm).vm.findClass "java/lang/String" = some m.cls → Q v T'.heap L' → CHr Z own_EL vm0 h T'.vm T'.heap → own_End p e below F (T'.setTop (mkF m pc' Ls (v.toList ++ rest)))) : own_End p e below F (T.setTop (mkF m pc Ls (x3 :: x2 :: x1 :: x0 :: .ref b :: rest))) := by
  subst hp
  obtain ⟨v, _, ⟨T', L0, k0, n0⟩, -, X', hSa, hSb, ⟨L', hQ, e1, e2, e3, hCR⟩, stp⟩ := X.specialBackS hx (y := (⟨"java/lang/String", "<init>", "([CIILjava/lang/Void;)V"⟩ : MethodName)) rfl hown (mvT hZ (wd_7 hw)) (mvT hZ (wd_8 hw)) (mvT hZ (wd_10 hw)) (by decide) (backOfSH (W := W) hM hZ (wd_10 hw) (wd_3 hw) hf hl hEL HC) (g := mkF m pc Ls (x3 :: x2 :: x1 :: x0 :: .ref b :: rest)) rfl hsz (Steps.refl _) (a := b) (argsL := [x0, x1, x2, x3]) (rest := rest) (lenOf own_pd1 rfl) rfl (by show 2 * 0 + _ ≤ _; omega) (hb hby hd) (fun _ _ => ⟨rfl, eT, hc, hs⟩)
  dsimp only [Pt.U, Pt.locs, Pt.cells, Pt.slots] at X' e1 e2 e3 stp hQ hSa hSb hCR
  subst e1 e2 e3
  obtain ⟨X', hS', hZ', hown'⟩ := rebS hS (show kS ≤ T.heap.size by rw [eT]; exact hSn) X' hSa hSb hZ hown
  exact own_trans stp (k v T' L' X' hS' (Nat.le_refl _) hZ' hown' hQ hCR)
set_option maxRecDepth 65536 in
theorem own_lk1 {p : Program} {l : Launch} {e : Env} {R : Room} {s : State} {m : MethodId} {args : Array Value} {below : List Frame} {meth : Method} {c : Code} {T : State} {locs : List Loc} {cells slots : Nat} {F : Option Value → State → Prop} {bs : ByteArray} {pc pc' : Nat} {Ls : Array Slot} {Z : State} {a0 : Array Value} {h : Heap} {x0 : Value} {x1 : Value} {x2 : Value} {x3 : Value} {x4 : Value} {rest : List Value} {W : Nat} {rm : Room} {Q : Option Value → Heap → List Loc → Prop} (hw : ∀ d ∈ tables_1, d.before a0 Z = true) (X : Stand p l e R s m args below meth c T locs cells slots) (hx : p.tables.exec = Jvm.exec) (hZ : Z.Warmed39 s.vm) (hby : c.code = bs) (hsz : Ls.size = c.maxLocals) (hown : s.vm.findClass "java/lang/StringUTF16" = some m.cls) (hd : decode bs pc = .ok (.invokestatic 115, 3)) (hp : pc + 3 = pc') (eT : T.heap = h) (hW : (rest.map fun v => v.category).sum ≤ W)
    (hM : MetFree l (⟨"java/lang/StringUTF16", "compress", "([CI[BII)I"⟩ : MethodName) (head1 [(Cond.code (⟨"java/lang/StringUTF16", "compress", "([CI[BII)I"⟩ : MethodName) jdk_52_method_21_code 7 (some .int))] rm) (fun aa U => aa = #[x0, x1, x2, x3, x4] ∧ Z.Warmed39 U.vm ∧ U.heap = h) (fun _ _ _ _ _ => True) (fun _ U o U' => ∃ v L, o = .returned v ∧ Q v U'.heap L ∧ FrameEnd U o U' L rm.cells rm.slots)) (hf : rm.frames + 1 ≤ R.frames) (hl : W + (7 + 11) + rm.locals ≤ R.locals) (hc : cells + rm.cells ≤ R.cells) (hs : slots + rm.slots ≤ R.slots)
    (k : ∀ v T' L', Stand p l e R s m args below meth c T' (locs ++ L') (cells + rm.cells) (slots + rm.slots) → Q v T'.heap L' → own_End p e below F (T'.setTop (mkF m pc' Ls (v.toList ++ rest)))) : own_End p e below F (T.setTop (mkF m pc Ls (x4 :: x3 :: x2 :: x1 :: x0 :: rest))) := by
  subst hp
  obtain ⟨v, _, ⟨T', L0, k0, n0⟩, -, X', ⟨L', hQ, e1, e2, e3⟩, stp⟩ := Jvm.LawKit.callS X hx (y := (⟨"java/lang/StringUTF16", "compress", "([CI[BII)I"⟩ : MethodName)) hown (mvT hZ (wd_55 hw)) (mvT hZ (wd_56 hw)) (mvT hZ (wd_53 hw)) (mvT hZ (wd_57 hw)) (by decide) (backOf (W := W) hM hZ (wd_57 hw) (wd_53 hw) hf hl) (g := mkF m pc Ls (x4 :: x3 :: x2 :: x1 :: x0 :: rest)) rfl hsz (argsL := [x0, x1, x2, x3, x4]) (rest := rest) (lenOf own_pd3 rfl) rfl (by show 2 * 0 + _ ≤ _; omega) (hb hby hd) (fun _ _ => ⟨rfl, eT, hc, hs⟩)
  dsimp only [Pt.U, Pt.locs, Pt.cells, Pt.slots] at X' e1 e2 e3 stp hQ
  subst e1 e2 e3
  exact own_step stp (k v T' L' X' hQ)
set_option maxRecDepth 65536 in
theorem own_lk2 {p : Program} {l : Launch} {e : Env} {R : Room} {s : State} {m : MethodId} {args : Array Value} {below : List Frame} {meth : Method} {c : Code} {T : State} {locs : List Loc} {cells slots : Nat} {F : Option Value → State → Prop} {bs : ByteArray} {pc pc' : Nat} {Ls : Array Slot} {Z : State} {a0 : Array Value} {h : Heap} {x0 : Value} {x1 : Value} {x2 : Value} {rest : List Value} {W : Nat} {rm : Room} {Q : Option Value → Heap → List Loc → Prop} (hw : ∀ d ∈ tables_1, d.before a0 Z = true) (X : Stand p l e R s m args below meth c T locs cells slots) (hx : p.tables.exec = Jvm.exec) (hZ : Z.Warmed39 s.vm) (hby : c.code = bs) (hsz : Ls.size = c.maxLocals) (hown : s.vm.findClass "java/lang/String" = some m.cls) (hd : decode bs pc = .ok (.invokestatic 177, 3)) (hp : pc + 3 = pc') (eT : T.heap = h) (hW : (rest.map fun v => v.category).sum ≤ W)
    (hM : MetFree l (⟨"java/lang/StringUTF16", "compress", "([CII)[B"⟩ : MethodName) (head1 [(Cond.code (⟨"java/lang/StringUTF16", "compress", "([CII)[B"⟩ : MethodName) jdk_52_method_16_code 6 (some (.array .byte)))] rm) (fun aa U => aa = #[x0, x1, x2] ∧ Z.Warmed39 U.vm ∧ U.heap = h) (fun _ _ _ _ _ => True) (fun _ U o U' => ∃ v L, o = .returned v ∧ Q v U'.heap L ∧ FrameEnd U o U' L rm.cells rm.slots)) (hf : rm.frames + 1 ≤ R.frames) (hl : W + (6 + 11) + rm.locals ≤ R.locals) (hc : cells + rm.cells ≤ R.cells) (hs : slots + rm.slots ≤ R.slots)
    (k : ∀ v T' L', Stand p l e R s m args below meth c T' (locs ++ L') (cells + rm.cells) (slots + rm.slots) → Q v T'.heap L' → own_End p e below F (T'.setTop (mkF m pc' Ls (v.toList ++ rest)))) : own_End p e below F (T.setTop (mkF m pc Ls (x2 :: x1 :: x0 :: rest))) := by
  subst hp
  obtain ⟨v, _, ⟨T', L0, k0, n0⟩, -, X', ⟨L', hQ, e1, e2, e3⟩, stp⟩ := Jvm.LawKit.callS X hx (y := (⟨"java/lang/StringUTF16", "compress", "([CII)[B"⟩ : MethodName)) hown (mvT hZ (wd_51 hw)) (mvT hZ (wd_52 hw)) (mvT hZ (wd_53 hw)) (mvT hZ (wd_54 hw)) (by decide) (backOf (W := W) hM hZ (wd_54 hw) (wd_53 hw) hf hl) (g := mkF m pc Ls (x2 :: x1 :: x0 :: rest)) rfl hsz (argsL := [x0, x1, x2]) (rest := rest) (lenOf own_pd4 rfl) rfl (by show 2 * 0 + _ ≤ _; omega) (hb hby hd) (fun _ _ => ⟨rfl, eT, hc, hs⟩)
  dsimp only [Pt.U, Pt.locs, Pt.cells, Pt.slots] at X' e1 e2 e3 stp hQ
  subst e1 e2 e3
  exact own_step stp (k v T' L' X' hQ)
set_option maxRecDepth 65536 in
theorem own_lk3 {p : Program} {l : Launch} {e : Env} {R : Room} {s : State} {m : MethodId} {args : Array Value} {below : List Frame} {meth : Method} {c : Code} {T : State} {locs : List Loc} {cells slots : Nat} {F : Option Value → State → Prop} {bs : ByteArray} {pc pc' : Nat} {Ls : Array Slot} {Z : State} {a0 : Array Value} {h : Heap} {x0 : Value} {x1 : Value} {rest : List Value} {W : Nat} {rm : Room} {Q : Option Value → Heap → List Loc → Prop} (hw : ∀ d ∈ tables_1, d.before a0 Z = true) (X : Stand p l e R s m args below meth c T locs cells slots) (hx : p.tables.exec = Jvm.exec) (hZ : Z.Warmed39 s.vm) (hby : c.code = bs) (hsz : Ls.size = c.maxLocals) (hown : s.vm.findClass "java/lang/String" = some m.cls) (hd : decode bs pc = .ok (.invokestatic 47, 3)) (hp : pc + 3 = pc') (eT : T.heap = h) (hW : (rest.map fun v => v.category).sum ≤ W)
    (hM : MetFree l (⟨"java/lang/StringUTF16", "coderFromArrayLen", "([BI)B"⟩ : MethodName) (head1 [(Cond.code (⟨"java/lang/StringUTF16", "coderFromArrayLen", "([BI)B"⟩ : MethodName) jdk_52_method_15_code 2 (some .byte))] rm) (fun aa U => aa = #[x0, x1] ∧ Z.Warmed39 U.vm ∧ U.heap = h) (fun _ _ _ _ _ => True) (fun _ U o U' => ∃ v L, o = .returned v ∧ Q v U'.heap L ∧ FrameEnd U o U' L rm.cells rm.slots)) (hf : rm.frames + 1 ≤ R.frames) (hl : W + (2 + 11) + rm.locals ≤ R.locals) (hc : cells + rm.cells ≤ R.cells) (hs : slots + rm.slots ≤ R.slots)
    (k : ∀ v T' L', Stand p l e R s m args below meth c T' (locs ++ L') (cells + rm.cells) (slots + rm.slots) → Q v T'.heap L' → own_End p e below F (T'.setTop (mkF m pc' Ls (v.toList ++ rest)))) : own_End p e below F (T.setTop (mkF m pc Ls (x1 :: x0 :: rest))) := by
  subst hp
  obtain ⟨v, _, ⟨T', L0, k0, n0⟩, -, X', ⟨L', hQ, e1, e2, e3⟩, stp⟩ := Jvm.LawKit.callS X hx (y := (⟨"java/lang/StringUTF16", "coderFromArrayLen", "([BI)B"⟩ : MethodName)) hown (mvT hZ (wd_58 hw)) (mvT hZ (wd_59 hw)) (mvT hZ (wd_53 hw)) (mvT hZ (wd_60 hw)) (by decide) (backOf (W := W) hM hZ (wd_60 hw) (wd_53 hw) hf hl) (g := mkF m pc Ls (x1 :: x0 :: rest)) rfl hsz (argsL := [x0, x1]) (rest := rest) (lenOf own_pd5 rfl) rfl (by show 2 * 0 + _ ≤ _; omega) (hb hby hd) (fun _ _ => ⟨rfl, eT, hc, hs⟩)
  dsimp only [Pt.U, Pt.locs, Pt.cells, Pt.slots] at X' e1 e2 e3 stp hQ
  subst e1 e2 e3
  exact own_step stp (k v T' L' X' hQ)
set_option maxRecDepth 65536 in
theorem own_lk4 {p : Program} {l : Launch} {e : Env} {R : Room} {s : State} {m : MethodId} {args : Array Value} {below : List Frame} {meth : Method} {c : Code} {T : State} {locs : List Loc} {cells slots : Nat} {F : Option Value → State → Prop} {bs : ByteArray} {pc pc' : Nat} {Ls : Array Slot} {Z : State} {a0 : Array Value} {h : Heap} {x0 : Value} {x1 : Value} {x2 : Value} {x3 : Value} {b : Addr} {rest : List Value} {W : Nat} {rm : Room} {Q : Option Value → Heap → List Loc → Prop} (hw : ∀ d ∈ tables_1, d.before a0 Z = true) (X : Stand p l e R s m args below meth c T locs cells slots) (hx : p.tables.exec = Jvm.exec) (hZ : Z.Warmed39 s.vm) (hby : c.code = bs) (hsz : Ls.size = c.maxLocals) (hown : s.vm.findClass "java/lang/String" = some m.cls) (hd : decode bs pc = .ok (.invokespecial 27, 3)) (hp : pc + 3 = pc') (eT : T.heap = h) (hW : (rest.map fun v => v.category).sum ≤ W)
    (hM : MetFree l (⟨"java/lang/String", "<init>", "([CIILjava/lang/Void;)V"⟩ : MethodName) (head1 [(Cond.code (⟨"java/lang/String", "<init>", "([CIILjava/lang/Void;)V"⟩ : MethodName) jdk_42_method_149_code 6 none)] rm) (fun aa U => aa = #[.ref b, x0, x1, x2, x3] ∧ Z.Warmed39 U.vm ∧ U.heap = h) (fun _ _ _ _ _ => True) (fun _ U o U' => ∃ v L, o = .returned v ∧ Q v U'.heap L ∧ FrameEnd U o U' L rm.cells rm.slots)) (hf : rm.frames + 1 ≤ R.frames) (hl : W + (6 + 11) + rm.locals ≤ R.locals) (hc : cells + rm.cells ≤ R.cells) (hs : slots + rm.slots ≤ R.slots)
    (k : ∀ v T' L', Stand p l e R s m args below meth c T' (locs ++ L') (cells + rm.cells) (slots + rm.slots) → Q v T'.heap L' → own_End p e below F (T'.setTop (mkF m pc' Ls (v.toList ++ rest)))) : own_End p e below F (T.setTop (mkF m pc Ls (x3 :: x2 :: x1 :: x0 :: .ref b :: rest))) := by
  subst hp
  obtain ⟨v, _, ⟨T', L0, k0, n0⟩, -, X', ⟨L', hQ, e1, e2, e3⟩, stp⟩ := X.specialBack hx (y := (⟨"java/lang/String", "<init>", "([CIILjava/lang/Void;)V"⟩ : MethodName)) rfl hown (mvT hZ (wd_7 hw)) (mvT hZ (wd_8 hw)) (mvT hZ (wd_10 hw)) (by decide) (backOf (W := W) hM hZ (wd_10 hw) (wd_3 hw) hf hl) (g := mkF m pc Ls (x3 :: x2 :: x1 :: x0 :: .ref b :: rest)) rfl hsz (Steps.refl _) (a := b) (argsL := [x0, x1, x2, x3]) (rest := rest) (lenOf own_pd1 rfl) rfl (by show 2 * 0 + _ ≤ _; omega) (hb hby hd) (fun _ _ => ⟨rfl, eT, hc, hs⟩)
  dsimp only [Pt.U, Pt.locs, Pt.cells, Pt.slots] at X' e1 e2 e3 stp hQ
  subst e1 e2 e3
  exact own_trans stp (k v T' L' X' hQ)
set_option maxRecDepth 65536 in
theorem own_lk5 {p : Program} {l : Launch} {e : Env} {R : Room} {s : State} {m : MethodId} {args : Array Value} {below : List Frame} {meth : Method} {c : Code} {T : State} {locs : List Loc} {cells slots : Nat} {F : Option Value → State → Prop} {bs : ByteArray} {pc pc' : Nat} {Ls : Array Slot} {Z : State} {a0 : Array Value} {h : Heap} {b : Addr} {rest : List Value} {W : Nat} {rm : Room} {Q : Option Value → Heap → List Loc → Prop} (hw : ∀ d ∈ tables_1, d.before a0 Z = true) (X : Stand p l e R s m args below meth c T locs cells slots) (hx : p.tables.exec = Jvm.exec) (hZ : Z.Warmed39 s.vm) (hby : c.code = bs) (hsz : Ls.size = c.maxLocals) (hown : s.vm.findClass "com/example/hermod/hermod/resource/Condition" = some m.cls) (hd : decode bs pc = .ok (.invokespecial 1, 3)) (hp : pc + 3 = pc') (eT : T.heap = h) (hW : (rest.map fun v => v.category).sum ≤ W)
    (hM : MetFree l (⟨"java/lang/Record", "<init>", "()V"⟩ : MethodName) (head1 [(Cond.code (⟨"java/lang/Record", "<init>", "()V"⟩ : MethodName) jdk_30_method_1_code 1 none)] rm) (fun aa U => aa = #[.ref b] ∧ Z.Warmed39 U.vm ∧ U.heap = h) (fun _ _ _ _ _ => True) (fun _ U o U' => ∃ v L, o = .returned v ∧ Q v U'.heap L ∧ FrameEnd U o U' L rm.cells rm.slots)) (hf : rm.frames + 1 ≤ R.frames) (hl : W + (1 + 11) + rm.locals ≤ R.locals) (hc : cells + rm.cells ≤ R.cells) (hs : slots + rm.slots ≤ R.slots)
    (k : ∀ v T' L', Stand p l e R s m args below meth c T' (locs ++ L') (cells + rm.cells) (slots + rm.slots) → Q v T'.heap L' → own_End p e below F (T'.setTop (mkF m pc' Ls (v.toList ++ rest)))) : own_End p e below F (T.setTop (mkF m pc Ls (.ref b :: rest))) := by
  subst hp
  obtain ⟨v, _, ⟨T', L0, k0, n0⟩, -, X', ⟨L', hQ, e1, e2, e3⟩, stp⟩ := X.specialBack hx (y := (⟨"java/lang/Record", "<init>", "()V"⟩ : MethodName)) rfl hown (mvT hZ (wd_28 hw)) (mvT hZ (wd_29 hw)) (mvT hZ (wd_32 hw)) (by decide) (backOf (W := W) hM hZ (wd_32 hw) (wd_31 hw) hf hl) (g := mkF m pc Ls (.ref b :: rest)) rfl hsz (Steps.refl _) (a := b) (argsL := []) (rest := rest) (lenOf own_pd7 rfl) rfl (by show 2 * 0 + _ ≤ _; omega) (hb hby hd) (fun _ _ => ⟨rfl, eT, hc, hs⟩)
  dsimp only [Pt.U, Pt.locs, Pt.cells, Pt.slots] at X' e1 e2 e3 stp hQ
  subst e1 e2 e3
  exact own_trans stp (k v T' L' X' hQ)
set_option maxRecDepth 65536 in
theorem own_lk6 {p : Program} {l : Launch} {e : Env} {R : Room} {s : State} {m : MethodId} {args : Array Value} {below : List Frame} {meth : Method} {c : Code} {T : State} {locs : List Loc} {cells slots : Nat} {F : Option Value → State → Prop} {bs : ByteArray} {pc pc' : Nat} {Ls : Array Slot} {Z : State} {a0 : Array Value} {h : Heap} {b : Addr} {rest : List Value} {W : Nat} {rm : Room} {Q : Option Value → Heap → List Loc → Prop} (hw : ∀ d ∈ tables_1, d.before a0 Z = true) (X : Stand p l e R s m args below meth c T locs cells slots) (hx : p.tables.exec = Jvm.exec) (hZ : Z.Warmed39 s.vm) (hby : c.code = bs) (hsz : Ls.size = c.maxLocals) (hown : s.vm.findClass "com/example/hermod/hermod/resource/Condition" = some m.cls) (hd : decode bs pc = .ok (.invokevirtual 24, 3)) (hp : pc + 3 = pc') (eT : T.heap = h) (E : Exa Z h b "java/lang/String") (hW : (rest.map fun v => v.category).sum ≤ W)
    (hM : MetFree l (⟨"java/lang/String", "isEmpty", "()Z"⟩ : MethodName) (head1 [(Cond.code (⟨"java/lang/String", "isEmpty", "()Z"⟩ : MethodName) jdk_42_method_55_code 1 (some .boolean))] rm) (fun aa U => aa = #[.ref b] ∧ Z.Warmed39 U.vm ∧ U.heap = h) (fun _ _ _ _ _ => True) (fun _ U o U' => ∃ v L, o = .returned v ∧ Q v U'.heap L ∧ FrameEnd U o U' L rm.cells rm.slots)) (hf : rm.frames + 1 ≤ R.frames) (hl : W + (1 + 11) + rm.locals ≤ R.locals) (hc : cells + rm.cells ≤ R.cells) (hs : slots + rm.slots ≤ R.slots)
    (k : ∀ v T' L', Stand p l e R s m args below meth c T' (locs ++ L') (cells + rm.cells) (slots + rm.slots) → Q v T'.heap L' → own_End p e below F (T'.setTop (mkF m pc' Ls (v.toList ++ rest)))) : own_End p e below F (T.setTop (mkF m pc Ls (.ref b :: rest))) := by
  subst hp
  obtain ⟨cq, kq, q1, q2, q3⟩ := isOf hZ eT E
  obtain ⟨v, _, ⟨T', L0, k0, n0⟩, -, X', ⟨L', hQ, e1, e2, e3⟩, stp⟩ := X.virtualBack hx (y := (⟨"java/lang/String", "isEmpty", "()Z"⟩ : MethodName)) (z := (⟨"java/lang/String", "isEmpty", "()Z"⟩ : MethodName)) hown (mvT hZ (wd_45 hw)) (mvT hZ (wd_46 hw)) (notFace_of_selects (args := #[]) (mvT hZ (wd_48 hw))) (mvT hZ (wd_48 hw)) (mvT hZ (wd_47 hw)) (by decide) (backOf (W := W) hM hZ (wd_49 hw) (wd_3 hw) hf hl) q1 q3 (g := mkF m pc Ls (.ref b :: rest)) rfl hsz (Steps.refl _) (argsL := []) (rest := rest) (lenOf own_pd9 rfl) rfl (by show 2 * 0 + _ ≤ _; omega) (hb hby hd) (fun _ _ => ⟨rfl, eT, hc, hs⟩)
  dsimp only [Pt.U, Pt.locs, Pt.cells, Pt.slots] at X' e1 e2 e3 stp hQ
  subst e1 e2 e3
  exact own_trans stp (k v T' L' X' hQ)
set_option maxRecDepth 65536 in
theorem own_lk7 {p : Program} {l : Launch} {e : Env} {R : Room} {s : State} {vm0 : Vm} {kS : Nat} {m : MethodId} {args : Array Value} {below : List Frame} {meth : Method} {c : Code} {T : State} {locs : List Loc} {cells slots : Nat} {F : Option Value → State → Prop} {bs : ByteArray} {pc pc' : Nat} {Ls : Array Slot} {Z : State} {a0 : Array Value} {h : Heap} {x0 : Value} {b : Addr} {rest : List Value} {W : Nat} {rm : Room} {Q : Option Value → Heap → List Loc → Prop} (hw : ∀ d ∈ tables_1, d.before a0 Z = true) (X : Stand p l e R (s.setVm vm0) m args below meth c T locs cells slots) (hx : p.tables.exec = Jvm.exec) (hZ : Z.Warmed39 (s.setVm vm0).vm) (hby : c.code = bs) (hsz : Ls.size = c.maxLocals) (hown : (s.setVm vm0).vm.findClass "com/example/hermod/hermod/resource/ConditionIsGivenPinLaw" = some m.cls) (hd : decode bs pc = .ok (.invokespecial 9, 3)) (hp : pc + 3 = pc') (eT : T.heap = h) (hW : (rest.map fun v => v.category).sum ≤ W)
    (hM : MetFree l (⟨"java/lang/String", "<init>", "([C)V"⟩ : MethodName) (head1 [(Cond.code (⟨"java/lang/String", "<init>", "([C)V"⟩ : MethodName) jdk_42_method_3_code 2 none)] rm) (fun aa U => aa = #[.ref b, x0] ∧ Z.Warmed39 U.vm ∧ U.heap = h ∧ CHv Z own_EL U.vm h) (fun _ _ _ _ _ => True) (fun _ U o U' => ∃ v L, o = .returned v ∧ Q v U'.heap L ∧ CHr Z own_EL U.vm U.heap U'.vm U'.heap ∧ ReturnedEndW U o U' L rm.cells rm.slots)) (hf : rm.frames + 1 ≤ R.frames) (hl : W + (2 + 11) + rm.locals ≤ R.locals) (hc : cells + rm.cells ≤ R.cells) (hs : slots + rm.slots ≤ R.slots)
    (hS : s.Since vm0 kS) (hSn : kS ≤ h.size) (hEL : EW Z a0 own_EL) (HC : CHv Z own_EL vm0 h) (k : ∀ v T' L', Stand p l e R (s.setVm T'.vm) m args below meth c T' (locs ++ L') (cells + rm.cells) (slots + rm.slots) → s.Since T'.vm T'.heap.size → T'.heap.size ≤ T'.heap.size → Z.Warmed39 (s.setVm T'.vm).vm → (s.setVm T'.vm).vm.findClass "com/example/hermod/hermod/resource/ConditionIsGivenPinLaw" = some m.cls → Q v T'.heap L' → CHr Z own_EL vm0 h T'.vm T'.heap → own_End p e below F (T'.setTop (mkF m pc' Ls (v.toList ++ rest)))) : own_End p e below F (T.setTop (mkF m pc Ls (x0 :: .ref b :: rest))) := by
  subst hp
  obtain ⟨v, _, ⟨T', L0, k0, n0⟩, -, X', hSa, hSb, ⟨L', hQ, e1, e2, e3, hCR⟩, stp⟩ := X.specialBackS hx (y := (⟨"java/lang/String", "<init>", "([C)V"⟩ : MethodName)) rfl hown (mvT hZ (wd_4 hw)) (mvT hZ (wd_5 hw)) (mvT hZ (wd_6 hw)) (by decide) (backOfSH (W := W) hM hZ (wd_6 hw) (wd_3 hw) hf hl hEL HC) (g := mkF m pc Ls (x0 :: .ref b :: rest)) rfl hsz (Steps.refl _) (a := b) (argsL := [x0]) (rest := rest) (lenOf own_pd10 rfl) rfl (by show 2 * 0 + _ ≤ _; omega) (hb hby hd) (fun _ _ => ⟨rfl, eT, hc, hs⟩)
  dsimp only [Pt.U, Pt.locs, Pt.cells, Pt.slots] at X' e1 e2 e3 stp hQ hSa hSb hCR
  subst e1 e2 e3
  obtain ⟨X', hS', hZ', hown'⟩ := rebS hS (show kS ≤ T.heap.size by rw [eT]; exact hSn) X' hSa hSb hZ hown
  exact own_trans stp (k v T' L' X' hS' (Nat.le_refl _) hZ' hown' hQ hCR)
set_option maxRecDepth 65536 in
theorem own_lk8 {p : Program} {l : Launch} {e : Env} {R : Room} {s : State} {m : MethodId} {args : Array Value} {below : List Frame} {meth : Method} {c : Code} {T : State} {locs : List Loc} {cells slots : Nat} {F : Option Value → State → Prop} {bs : ByteArray} {pc pc' : Nat} {Ls : Array Slot} {Z : State} {a0 : Array Value} {h : Heap} {x0 : Value} {x1 : Value} {x2 : Value} {b : Addr} {rest : List Value} {W : Nat} {rm : Room} {Q : Option Value → Heap → List Loc → Prop} (hw : ∀ d ∈ tables_1, d.before a0 Z = true) (X : Stand p l e R s m args below meth c T locs cells slots) (hx : p.tables.exec = Jvm.exec) (hZ : Z.Warmed39 s.vm) (hby : c.code = bs) (hsz : Ls.size = c.maxLocals) (hown : s.vm.findClass "com/example/hermod/hermod/resource/ConditionIsGivenPinLaw" = some m.cls) (hd : decode bs pc = .ok (.invokespecial 14, 3)) (hp : pc + 3 = pc') (eT : T.heap = h) (hW : (rest.map fun v => v.category).sum ≤ W)
    (hM : MetFree l (⟨"com/example/hermod/hermod/resource/Condition", "<init>", "(Ljava/lang/String;JZ)V"⟩ : MethodName) (head1 [(Cond.code (⟨"com/example/hermod/hermod/resource/Condition", "<init>", "(Ljava/lang/String;JZ)V"⟩ : MethodName) prog_5_method_1_code 5 none)] rm) (fun aa U => aa = #[.ref b, x0, x1, x2] ∧ Z.Warmed39 U.vm ∧ U.heap = h) (fun _ _ _ _ _ => True) (fun _ U o U' => ∃ v L, o = .returned v ∧ Q v U'.heap L ∧ FrameEnd U o U' L rm.cells rm.slots)) (hf : rm.frames + 1 ≤ R.frames) (hl : W + (5 + 11) + rm.locals ≤ R.locals) (hc : cells + rm.cells ≤ R.cells) (hs : slots + rm.slots ≤ R.slots)
    (k : ∀ v T' L', Stand p l e R s m args below meth c T' (locs ++ L') (cells + rm.cells) (slots + rm.slots) → Q v T'.heap L' → own_End p e below F (T'.setTop (mkF m pc' Ls (v.toList ++ rest)))) : own_End p e below F (T.setTop (mkF m pc Ls (x2 :: x1 :: x0 :: .ref b :: rest))) := by
  subst hp
  obtain ⟨v, _, ⟨T', L0, k0, n0⟩, -, X', ⟨L', hQ, e1, e2, e3⟩, stp⟩ := X.specialBack hx (y := (⟨"com/example/hermod/hermod/resource/Condition", "<init>", "(Ljava/lang/String;JZ)V"⟩ : MethodName)) rfl hown (mvT hZ (wd_25 hw)) (mvT hZ (wd_26 hw)) (mvT hZ (wd_27 hw)) (by decide) (backOf (W := W) hM hZ (wd_27 hw) (wd_24 hw) hf hl) (g := mkF m pc Ls (x2 :: x1 :: x0 :: .ref b :: rest)) rfl hsz (Steps.refl _) (a := b) (argsL := [x0, x1, x2]) (rest := rest) (lenOf own_pd11 rfl) rfl (by show 2 * 0 + _ ≤ _; omega) (hb hby hd) (fun _ _ => ⟨rfl, eT, hc, hs⟩)
  dsimp only [Pt.U, Pt.locs, Pt.cells, Pt.slots] at X' e1 e2 e3 stp hQ
  subst e1 e2 e3
  exact own_trans stp (k v T' L' X' hQ)
set_option maxRecDepth 65536 in
theorem own_lk9 {p : Program} {l : Launch} {e : Env} {R : Room} {s : State} {m : MethodId} {args : Array Value} {below : List Frame} {meth : Method} {c : Code} {T : State} {locs : List Loc} {cells slots : Nat} {F : Option Value → State → Prop} {bs : ByteArray} {pc pc' : Nat} {Ls : Array Slot} {Z : State} {a0 : Array Value} {h : Heap} {b : Addr} {rest : List Value} {W : Nat} {rm : Room} {Q : Option Value → Heap → List Loc → Prop} (hw : ∀ d ∈ tables_1, d.before a0 Z = true) (X : Stand p l e R s m args below meth c T locs cells slots) (hx : p.tables.exec = Jvm.exec) (hZ : Z.Warmed39 s.vm) (hby : c.code = bs) (hsz : Ls.size = c.maxLocals) (hown : s.vm.findClass "com/example/hermod/hermod/resource/ConditionIsGivenPinLaw" = some m.cls) (hd : decode bs pc = .ok (.invokevirtual 17, 3)) (hp : pc + 3 = pc') (eT : T.heap = h) (E : Exa Z h b "com/example/hermod/hermod/resource/Condition") (hW : (rest.map fun v => v.category).sum ≤ W)
    (hM : MetFree l (⟨"com/example/hermod/hermod/resource/Condition", "isGiven", "()Z"⟩ : MethodName) (head1 [(Cond.code (⟨"com/example/hermod/hermod/resource/Condition", "isGiven", "()Z"⟩ : MethodName) prog_5_method_4_code 1 (some .boolean))] rm) (fun aa U => aa = #[.ref b] ∧ Z.Warmed39 U.vm ∧ U.heap = h) (fun _ _ _ _ _ => True) (fun _ U o U' => ∃ v L, o = .returned v ∧ Q v U'.heap L ∧ FrameEnd U o U' L rm.cells rm.slots)) (hf : rm.frames + 1 ≤ R.frames) (hl : W + (1 + 11) + rm.locals ≤ R.locals) (hc : cells + rm.cells ≤ R.cells) (hs : slots + rm.slots ≤ R.slots)
    (k : ∀ v T' L', Stand p l e R s m args below meth c T' (locs ++ L') (cells + rm.cells) (slots + rm.slots) → Q v T'.heap L' → own_End p e below F (T'.setTop (mkF m pc' Ls (v.toList ++ rest)))) : own_End p e below F (T.setTop (mkF m pc Ls (.ref b :: rest))) := by
  subst hp
  obtain ⟨cq, kq, q1, q2, q3⟩ := isOf hZ eT E
  obtain ⟨v, _, ⟨T', L0, k0, n0⟩, -, X', ⟨L', hQ, e1, e2, e3⟩, stp⟩ := X.virtualBack hx (y := (⟨"com/example/hermod/hermod/resource/Condition", "isGiven", "()Z"⟩ : MethodName)) (z := (⟨"com/example/hermod/hermod/resource/Condition", "isGiven", "()Z"⟩ : MethodName)) hown (mvT hZ (wd_40 hw)) (mvT hZ (wd_41 hw)) (notFace_of_selects (args := #[]) (mvT hZ (wd_43 hw))) (mvT hZ (wd_43 hw)) (mvT hZ (wd_42 hw)) (by decide) (backOf (W := W) hM hZ (wd_44 hw) (wd_24 hw) hf hl) q1 q3 (g := mkF m pc Ls (.ref b :: rest)) rfl hsz (Steps.refl _) (argsL := []) (rest := rest) (lenOf own_pd9 rfl) rfl (by show 2 * 0 + _ ≤ _; omega) (hb hby hd) (fun _ _ => ⟨rfl, eT, hc, hs⟩)
  dsimp only [Pt.U, Pt.locs, Pt.cells, Pt.slots] at X' e1 e2 e3 stp hQ
  subst e1 e2 e3
  exact own_trans stp (k v T' L' X' hQ)
set_option maxRecDepth 65536 in
theorem own_lk10 {p : Program} {l : Launch} {e : Env} {R : Room} {s : State} {m : MethodId} {args : Array Value} {below : List Frame} {meth : Method} {c : Code} {T : State} {locs : List Loc} {cells slots : Nat} {F : Option Value → State → Prop} {bs : ByteArray} {pc pc' : Nat} {Ls : Array Slot} {Z : State} {a0 : Array Value} {h : Heap} {x0 : Value} {b : Addr} {rest : List Value} {W : Nat} {rm : Room} {Q : Option Value → Heap → List Loc → Prop} (hw : ∀ d ∈ tables_1, d.before a0 Z = true) (X : Stand p l e R s m args below meth c T locs cells slots) (hx : p.tables.exec = Jvm.exec) (hZ : Z.Warmed39 s.vm) (hby : c.code = bs) (hsz : Ls.size = c.maxLocals) (hown : s.vm.findClass "com/example/hermod/hermod/resource/ConditionIsGivenPinLaw" = some m.cls) (hd : decode bs pc = .ok (.invokespecial 9, 3)) (hp : pc + 3 = pc') (eT : T.heap = h) (hW : (rest.map fun v => v.category).sum ≤ W)
    (hM : MetFree l (⟨"java/lang/String", "<init>", "([C)V"⟩ : MethodName) (head1 [(Cond.code (⟨"java/lang/String", "<init>", "([C)V"⟩ : MethodName) jdk_42_method_3_code 2 none)] rm) (fun aa U => aa = #[.ref b, x0] ∧ Z.Warmed39 U.vm ∧ U.heap = h) (fun _ _ _ _ _ => True) (fun _ U o U' => ∃ v L, o = .returned v ∧ Q v U'.heap L ∧ FrameEnd U o U' L rm.cells rm.slots)) (hf : rm.frames + 1 ≤ R.frames) (hl : W + (2 + 11) + rm.locals ≤ R.locals) (hc : cells + rm.cells ≤ R.cells) (hs : slots + rm.slots ≤ R.slots)
    (k : ∀ v T' L', Stand p l e R s m args below meth c T' (locs ++ L') (cells + rm.cells) (slots + rm.slots) → Q v T'.heap L' → own_End p e below F (T'.setTop (mkF m pc' Ls (v.toList ++ rest)))) : own_End p e below F (T.setTop (mkF m pc Ls (x0 :: .ref b :: rest))) := by
  subst hp
  obtain ⟨v, _, ⟨T', L0, k0, n0⟩, -, X', ⟨L', hQ, e1, e2, e3⟩, stp⟩ := X.specialBack hx (y := (⟨"java/lang/String", "<init>", "([C)V"⟩ : MethodName)) rfl hown (mvT hZ (wd_4 hw)) (mvT hZ (wd_5 hw)) (mvT hZ (wd_6 hw)) (by decide) (backOf (W := W) hM hZ (wd_6 hw) (wd_3 hw) hf hl) (g := mkF m pc Ls (x0 :: .ref b :: rest)) rfl hsz (Steps.refl _) (a := b) (argsL := [x0]) (rest := rest) (lenOf own_pd10 rfl) rfl (by show 2 * 0 + _ ≤ _; omega) (hb hby hd) (fun _ _ => ⟨rfl, eT, hc, hs⟩)
  dsimp only [Pt.U, Pt.locs, Pt.cells, Pt.slots] at X' e1 e2 e3 stp hQ
  subst e1 e2 e3
  exact own_trans stp (k v T' L' X' hQ)

def own_SO (Z : State) (h : Heap) (a : Addr) (v0 : Value) (v1 : Int32) : Prop := Exa Z h a "java/lang/String" ∧ Fld Z h a "java/lang/String" "value" "[B" v0 ∧ Fld Z h a "java/lang/String" "coder" "B" (.int v1)
theorem own_SO.ext {Z : State} {h h' : Heap} {a : Addr} {v0 : Value} {v1 : Int32} (O : own_SO Z h a v0 v1) (X : Ext h h') : own_SO Z h' a v0 v1 := by
  obtain ⟨E, F0, F1⟩ := O
  exact ⟨E.ext X, F0.ext X, F1.ext X⟩
theorem own_SO.keep {Z : State} {h h' : Heap} {a : Addr} {v0 : Value} {v1 : Int32} (O : own_SO Z h a v0 v1) {ws : List Addr} (K : Keep h h' ws) (q : a ∉ ws) : own_SO Z h' a v0 v1 := by
  obtain ⟨E, F0, F1⟩ := O
  exact ⟨E.keep K, F0.keep K q, F1.keep K q⟩
theorem own_SO.other {Z : State} {h h' : Heap} {a : Addr} {v0 : Value} {v1 : Int32} (O : own_SO Z h a v0 v1) {b : Addr} {sl : Nat} {v : Value} (W : Wr h h' b sl v) (q : a ≠ b) : own_SO Z h' a v0 v1 := by
  obtain ⟨E, F0, F1⟩ := O
  exact ⟨E.wr W, F0.other W (Or.inl q), F1.other W (Or.inl q)⟩
theorem own_SO.lt {Z : State} {h : Heap} {a : Addr} {v0 : Value} {v1 : Int32} (O : own_SO Z h a v0 v1) : a < h.size := by
  obtain ⟨E, F0, F1⟩ := O
  exact E.lt
def own_CO (Z : State) (h : Heap) (a : Addr) (v0 : Value) (v1 : Int64) (v2 : Int32) : Prop := Exa Z h a "com/example/hermod/hermod/resource/Condition" ∧ Fld Z h a "com/example/hermod/hermod/resource/Condition" "etags" "Ljava/lang/String;" v0 ∧ Fld Z h a "com/example/hermod/hermod/resource/Condition" "date" "J" (.long v1) ∧ Fld Z h a "com/example/hermod/hermod/resource/Condition" "weak" "Z" (.int v2)
theorem own_CO.ext {Z : State} {h h' : Heap} {a : Addr} {v0 : Value} {v1 : Int64} {v2 : Int32} (O : own_CO Z h a v0 v1 v2) (X : Ext h h') : own_CO Z h' a v0 v1 v2 := by
  obtain ⟨E, F0, F1, F2⟩ := O
  exact ⟨E.ext X, F0.ext X, F1.ext X, F2.ext X⟩
theorem own_CO.keep {Z : State} {h h' : Heap} {a : Addr} {v0 : Value} {v1 : Int64} {v2 : Int32} (O : own_CO Z h a v0 v1 v2) {ws : List Addr} (K : Keep h h' ws) (q : a ∉ ws) : own_CO Z h' a v0 v1 v2 := by
  obtain ⟨E, F0, F1, F2⟩ := O
  exact ⟨E.keep K, F0.keep K q, F1.keep K q, F2.keep K q⟩
theorem own_CO.other {Z : State} {h h' : Heap} {a : Addr} {v0 : Value} {v1 : Int64} {v2 : Int32} (O : own_CO Z h a v0 v1 v2) {b : Addr} {sl : Nat} {v : Value} (W : Wr h h' b sl v) (q : a ≠ b) : own_CO Z h' a v0 v1 v2 := by
  obtain ⟨E, F0, F1, F2⟩ := O
  exact ⟨E.wr W, F0.other W (Or.inl q), F1.other W (Or.inl q), F2.other W (Or.inl q)⟩
theorem own_CO.lt {Z : State} {h : Heap} {a : Addr} {v0 : Value} {v1 : Int64} {v2 : Int32} (O : own_CO Z h a v0 v1 v2) : a < h.size := by
  obtain ⟨E, F0, F1, F2⟩ := O
  exact E.lt
theorem own_b8 (x : Int32) : x.toInt8.toInt32.toInt8.toInt32 = x.toInt8.toInt32 := by simp
theorem own_le255 (x : Int32) : ¬ (255 : Int32) < (x &&& (255 : Int32)) := by
  have h1 := c_mask x 255 8 (by decide) (by decide)
  have e : (255 : Int32).toInt = 255 := rfl
  rw [Int32.lt_iff_toInt_lt]
  omega
theorem own_and3 (x : Int32) : x &&& 3 = 0 ∨ x &&& 3 = 1 ∨ x &&& 3 = 2 ∨ x &&& 3 = 3 := by
  have h := c_mask x 3 2 (by decide) (by decide)
  have e : ∀ k : Int32, (x &&& 3).toInt = k.toInt → x &&& 3 = k := fun k q => Int32.toInt_inj.mp q
  have h0 : (0 : Int32).toInt = 0 := rfl
  have h1 : (1 : Int32).toInt = 1 := rfl
  have h2 : (2 : Int32).toInt = 2 := rfl
  have h3 : (3 : Int32).toInt = 3 := rfl
  have : (x &&& 3).toInt = 0 ∨ (x &&& 3).toInt = 1 ∨ (x &&& 3).toInt = 2 ∨ (x &&& 3).toInt = 3 := by omega
  rcases this with q | q | q | q
  · exact Or.inl (e 0 q)
  · exact Or.inr (Or.inl (e 1 q))
  · exact Or.inr (Or.inr (Or.inl (e 2 q)))
  · exact Or.inr (Or.inr (Or.inr (e 3 q)))
theorem own_ef_rm2_0 (m : MethodId) (a : Addr) (w : Addr)  : entryFrame m #[(.ref a), (.ref w), (.int (0 : Int32)), (.int (0 : Int32)), .null] 6 = mkF m 0 #[.val (.ref a), .val (.ref w), .val (.int (0 : Int32)), .val (.int (0 : Int32)), .val .null, .unset] [] := by first | (simp [entryFrame, mkF, argsToLocals, Value.category]; done) | rfl
def Q2_0 (Z : State) (a : Addr) (w : Addr) (h0 : Heap) (n0 : Nat) (v : Option Value) (h : Heap) (L : List Loc) : Prop := v = none ∧ Fr n0 L ∧ Keep h0 h [a] ∧ ∃ (d : Addr) (kd : ClassId), own_SO Z h a (.ref d) 0 ∧ Arv Z h d kd .byte (0 : Int32) [] (.int (0 : Int32))
set_option maxRecDepth 65536 in
set_option maxHeartbeats 40000000 in
theorem rm2_0 (l : Launch) (Z : State) (a0 : Array Value) (hw : ∀ d ∈ tables_1, d.before a0 Z = true) (ws : List Jvm.Cond) (a : Addr) (w : Addr) (h0 : Heap) (n0 : Nat) (Z0 : n0 ≤ h0.size) (f_O_a : own_SO Z h0 a .null (0 : Int32)) (ge_a : n0 ≤ a) :
    MetFree l (⟨"java/lang/String", "<init>", "([CIILjava/lang/Void;)V"⟩ : MethodName) (head1 (Jvm.Cond.code (⟨"java/lang/String", "<init>", "([CIILjava/lang/Void;)V"⟩ : MethodName) jdk_42_method_149_code 6 none :: ws) ({ frames := 1, cells := 4, slots := 8, locals := 12 } : Room)) (fun aa U => aa = #[(.ref a), (.ref w), (.int (0 : Int32)), (.int (0 : Int32)), .null] ∧ Z.Warmed39 U.vm ∧ U.heap = h0 ∧ CHv Z own_EL U.vm h0) (fun _ _ _ _ _ => True) (fun _ U oc U' => ∃ v L, oc = .returned v ∧ Q2_0 Z a w h0 n0 v U'.heap L ∧ CHr Z own_EL U.vm U.heap U'.vm U'.heap ∧ ReturnedEndW U oc U' L ({ frames := 1, cells := 4, slots := 8, locals := 12 } : Room).cells ({ frames := 1, cells := 4, slots := 8, locals := 12 } : Room).slots) := by
  refine MetFree.of_bodySF (plainFor_of_name own_pn0) hisR ?_
  intro p e s m args below meth c s₁ Bd hml0 hP hK
  obtain ⟨rfl, hZ, hh, hCH⟩ := hP
  have hx := Bd.exec
  have hby := Bd.bytes
  have hlk := Bd.notSynchronized
  have hret := Bd.returns
  have hml : c.maxLocals = 6 := hml0
  have hown : s.vm.findClass "java/lang/String" = some m.cls := findClass_of_methodNamed Bd.named
  have hnm := (name_of_methodNamed Bd.named Bd.method).1
  have X0 : Stand p l e ({ frames := 1, cells := 4, slots := 8, locals := 12 } : Room) s m #[(.ref a), (.ref w), (.int (0 : Int32)), (.int (0 : Int32)), .null] below meth c s₁ [] 0 0 := Stand.of_body Bd
  have e0 : s₁.heap = h0 := by rw [← hh, Bd.state]; rfl
  have N0 := Fr.nil n0
  refine own_bodyH (Z := Z) (Q := Q2_0 Z a w h0 n0) (KC := ({ frames := 1, cells := 4, slots := 8, locals := 12 } : Room).cells) (KS := ({ frames := 1, cells := 4, slots := 8, locals := 12 } : Room).slots) ?_
  rw [own_ef_rm2_0 m a w]
  have X0 : Stand p l e ({ frames := 1, cells := 4, slots := 8, locals := 12 } : Room) (s.setVm s.vm) m #[(.ref a), (.ref w), (.int (0 : Int32)), (.int (0 : Int32)), .null] below meth c s₁ [] 0 0 := X0
  have hS : s.Since s.vm h0.size := (State.WarmedH.refl s).since _
  have hSn : h0.size ≤ h0.size := Nat.le_refl _
  have HC : CHr Z own_EL s.vm h0 s.vm h0 := CHr.refl hCH
  have SA := own_safe (State.Warmed39.alike hZ) f_O_a.1 f_O_a.2.1
  have Kp : Keep h0 h0 [a] := Keep.refl h0 _
  refine own_aloadN X0 hx hby d2_0 (pc' := 1) rfl rfl rfl ?_
  refine own_init X0 hx hZ hby hown (wd_11 hw) (wd_12 hw) (wd_13 hw) e0 (by rw [hml]; rfl) d2_1 (pc' := 4) rfl (by decide) (W := 0) (Nat.le_of_eq rfl) (by decide) (fun T1 X1 e1 => ?_)
  refine own_iloadN X1 hx hby d2_4 (pc' := 5) rfl rfl ?_
  refine own_ifN X1 hx hby d2_5 (pc' := 8) rfl (show (0 : Int32) = (0 : Int32) by decide) ?_
  refine own_aloadN X1 hx hby d2_8 (pc' := 9) rfl rfl rfl ?_
  obtain ⟨a2, T2, h2, k2, b2, kc2, X2, e2, E2, hS, hSn, hZ, hown, LE2, LC2, LV2, LA2, la2, lb2, CR2, Li2, sf2, st2⟩ := ldcCH X1 hx hZ hown (wd_14 hw) (own_wS hw) e1 hS hSn (own_EW hw) own_mem HC.1 (vs := []) (z := 0) own_t0 (by decide) rfl (g := (mkF m 9 #[.val (.ref a), .val (.ref w), .val (.int (0 : Int32)), .val (.int (0 : Int32)), .val .null, .unset] [(.ref a)])) rfl (hb hby d2_9) (n := 0) (by decide) (by decide) (by decide) (by decide)
  have SA := CR2.safe f_O_a.lt SA
  have HC := HC.trans CR2
  refine own_step st2 ?_
  have f_O_a := f_O_a.ext E2
  have Zn := Nat.le_trans Z0 E2.1
  have Kp := Kp.ext E2
  have ne_a_a2 := (sf2 _ SA).1
  have ne_a_b2 := (sf2 _ SA).2
  have f_O_a2 : own_SO Z h2 a2 (.ref b2) (0 : Int32) := ⟨LE2, LV2, LC2⟩
  show own_End p e below _ (T2.setTop (mkF m 11 #[.val (.ref a), .val (.ref w), .val (.int (0 : Int32)), .val (.int (0 : Int32)), .val .null, .unset] [(.ref a2), (.ref a)]))
  obtain ⟨f_E_a2, f_F_a2_value, f_F_a2_coder⟩ := f_O_a2
  refine own_getF X2 hx hZ hby hown (host := "") (Or.inl (wd_20 hw)) Via.refl e2 f_F_a2_value d2_11 (pc' := 14) rfl (fun T3 X3 e3 => ?_)
  obtain ⟨f_E_a, f_F_a_value, f_F_a_coder⟩ := f_O_a
  refine own_putF X3 hx hZ hby hown (host := "") (Or.inl (wd_20 hw)) Via.refl e3 f_F_a_value f_E_a (Or.inr ⟨(wd_16 hw), rfl, hnm⟩) (wd_2 hw) (ty := (.array .byte)) (by decide) rfl rfl d2_14 (pc' := 17) rfl (fun T4 h4 X4 e4 W4 => ?_)
  have f_F_a_value := f_F_a_value.same W4
  have LA2 := LA2.other W4 (Ne.symm ne_a_b2)
  have f_E_a2 := f_E_a2.wr W4
  have f_F_a2_value := f_F_a2_value.other W4 (Or.inl (Ne.symm ne_a_a2))
  have f_F_a2_coder := f_F_a2_coder.other W4 (Or.inl (Ne.symm ne_a_a2))
  have f_E_a := f_E_a.wr W4
  have f_F_a_coder := f_F_a_coder.other W4 (Or.inr (slot_ne (Or.inr (wd_17 hw)) (Or.inr (wd_16 hw)) (by decide) (t := .byte) (t' := (.array .byte)) (by decide) (by decide)))
  have Zn := Nat.le_trans Zn (Keep.of_wr W4).1
  have hSn := Nat.le_trans hSn (Keep.of_wr W4).1
  have SA2 := Safe.wr W4 SA HC.1 SA
  have HC := HC.trans (CHr.wr W4 SA HC.1)
  have SA := SA2
  have Kp := Kp.wr W4 (Or.inl (List.mem_of_getElem? (i := 0) rfl))
  have N4 := Fr.snoc X4 N0 ge_a
  refine own_aloadN X4 hx hby d2_17 (pc' := 18) rfl rfl rfl ?_
  obtain ⟨a5, T5, h5, k5, b5, kc5, X5, e5, E5, hS, hSn, hZ, hown, LE5, LC5, LV5, LA5, la5, lb5, CR5, Li5, sf5, st5⟩ := ldcCH X4 hx hZ hown (wd_14 hw) (own_wS hw) e4 hS hSn (own_EW hw) own_mem HC.1 (vs := []) (z := 0) own_t0 (by decide) rfl (g := (mkF m 18 #[.val (.ref a), .val (.ref w), .val (.int (0 : Int32)), .val (.int (0 : Int32)), .val .null, .unset] [(.ref a)])) rfl (hb hby d2_18) (n := 0) (by decide) (by decide) (by decide) (by decide)
  have SA := CR5.safe f_E_a.lt SA
  have HC := HC.trans CR5
  refine own_step st5 ?_
  have LA2 := LA2.ext E5
  have f_E_a2 := f_E_a2.ext E5
  have f_F_a2_value := f_F_a2_value.ext E5
  have f_F_a2_coder := f_F_a2_coder.ext E5
  have f_E_a := f_E_a.ext E5
  have f_F_a_value := f_F_a_value.ext E5
  have f_F_a_coder := f_F_a_coder.ext E5
  have Zn := Nat.le_trans Zn E5.1
  have Kp := Kp.ext E5
  have ne_a_a5 := (sf5 _ SA).1
  have ne_a_b5 := (sf5 _ SA).2
  have f_O_a5 : own_SO Z h5 a5 (.ref b5) (0 : Int32) := ⟨LE5, LV5, LC5⟩
  show own_End p e below _ (T5.setTop (mkF m 20 #[.val (.ref a), .val (.ref w), .val (.int (0 : Int32)), .val (.int (0 : Int32)), .val .null, .unset] [(.ref a5), (.ref a)]))
  obtain ⟨f_E_a5, f_F_a5_value, f_F_a5_coder⟩ := f_O_a5
  refine own_getF X5 hx hZ hby hown (host := "") (Or.inl (wd_21 hw)) Via.refl e5 f_F_a5_coder d2_20 (pc' := 23) rfl (fun T6 X6 e6 => ?_)
  refine own_putN X6 hx hZ hby hown (wd_21 hw) Via.refl e6 f_F_a_coder f_E_a (Or.inr ⟨(wd_17 hw), rfl, hnm⟩) (wd_2 hw) (ty := .byte) (v' := (.int (0 : Int32))) (by decide) rfl (by decide) d2_23 (pc' := 26) rfl (fun T7 h7 X7 e7 W7 => ?_)
  have f_F_a_coder := f_F_a_coder.same W7
  have LA2 := LA2.other W7 (Ne.symm ne_a_b2)
  have f_E_a2 := f_E_a2.wr W7
  have f_F_a2_value := f_F_a2_value.other W7 (Or.inl (Ne.symm ne_a_a2))
  have f_F_a2_coder := f_F_a2_coder.other W7 (Or.inl (Ne.symm ne_a_a2))
  have f_E_a := f_E_a.wr W7
  have f_F_a_value := f_F_a_value.other W7 (Or.inr (slot_ne (Or.inr (wd_16 hw)) (Or.inr (wd_17 hw)) (by decide) (t := (.array .byte)) (t' := .byte) (by decide) (by decide)))
  have LA5 := LA5.other W7 (Ne.symm ne_a_b5)
  have f_E_a5 := f_E_a5.wr W7
  have f_F_a5_value := f_F_a5_value.other W7 (Or.inl (Ne.symm ne_a_a5))
  have f_F_a5_coder := f_F_a5_coder.other W7 (Or.inl (Ne.symm ne_a_a5))
  have Zn := Nat.le_trans Zn (Keep.of_wr W7).1
  have hSn := Nat.le_trans hSn (Keep.of_wr W7).1
  have SA2 := Safe.wr W7 SA HC.1 SA
  have HC := HC.trans (CHr.wr W7 SA HC.1)
  have SA := SA2
  have Kp := Kp.wr W7 (Or.inl (List.mem_of_getElem? (i := 0) rfl))
  have N7 := Fr.snoc X7 N4 ge_a
  have HF : CHr Z own_EL s.vm s.heap T7.vm T7.heap := by rw [hh, e7]; exact HC.trans (CHv.at X7 hZ (own_EW hw) HC.1)
  refine own_return X7 hx hlk hby hret d2_26 (own_lvH HF hS (by rw [e7]; exact hSn) ?_ (by decide) (by decide))
  show Q2_0 Z a w  h0 n0 none T7.heap _
  rw [e7]
  exact ⟨rfl, N7, Kp, b2, _, ⟨f_E_a, f_F_a_value, f_F_a_coder⟩, LA2⟩
theorem own_ef_rm1_0 (m : MethodId) (a : Addr) (w : Addr)  : entryFrame m #[(.ref a), (.ref w)] 2 = mkF m 0 #[.val (.ref a), .val (.ref w)] [] := by first | (simp [entryFrame, mkF, argsToLocals, Value.category]; done) | rfl
def Q1_0 (Z : State) (a : Addr) (w : Addr) (kw : ClassId) (h0 : Heap) (n0 : Nat) (v : Option Value) (h : Heap) (L : List Loc) : Prop := v = none ∧ Fr n0 L ∧ Keep h0 h [a] ∧ ∃ (d : Addr) (kd : ClassId), own_SO Z h a (.ref d) 0 ∧ Arv Z h d kd .byte (0 : Int32) [] (.int (0 : Int32))
set_option maxRecDepth 65536 in
set_option maxHeartbeats 40000000 in
theorem rm1_0 (l : Launch) (Z : State) (a0 : Array Value) (hw : ∀ d ∈ tables_1, d.before a0 Z = true) (ws : List Jvm.Cond) (a : Addr) (w : Addr) (kw : ClassId) (h0 : Heap) (n0 : Nat) (Z0 : n0 ≤ h0.size) (f_O_a : own_SO Z h0 a .null (0 : Int32)) (ge_a : n0 ≤ a) (f_V_w : Arv Z h0 w kw .char (0 : Int32) [] (.int (0 : Int32))) (ne_a_w : a ≠ w) :
    MetFree l (⟨"java/lang/String", "<init>", "([C)V"⟩ : MethodName) (head1 (Jvm.Cond.code (⟨"java/lang/String", "<init>", "([C)V"⟩ : MethodName) jdk_42_method_3_code 2 none :: ws) ({ frames := 2, cells := 4, slots := 8, locals := 29 } : Room)) (fun aa U => aa = #[(.ref a), (.ref w)] ∧ Z.Warmed39 U.vm ∧ U.heap = h0 ∧ CHv Z own_EL U.vm h0) (fun _ _ _ _ _ => True) (fun _ U oc U' => ∃ v L, oc = .returned v ∧ Q1_0 Z a w kw h0 n0 v U'.heap L ∧ CHr Z own_EL U.vm U.heap U'.vm U'.heap ∧ ReturnedEndW U oc U' L ({ frames := 2, cells := 4, slots := 8, locals := 29 } : Room).cells ({ frames := 2, cells := 4, slots := 8, locals := 29 } : Room).slots) := by
  refine MetFree.of_bodySF (plainFor_of_name own_pn0) hisR ?_
  intro p e s m args below meth c s₁ Bd hml0 hP hK
  obtain ⟨rfl, hZ, hh, hCH⟩ := hP
  have hx := Bd.exec
  have hby := Bd.bytes
  have hlk := Bd.notSynchronized
  have hret := Bd.returns
  have hml : c.maxLocals = 2 := hml0
  have hown : s.vm.findClass "java/lang/String" = some m.cls := findClass_of_methodNamed Bd.named
  have hnm := (name_of_methodNamed Bd.named Bd.method).1
  have X0 : Stand p l e ({ frames := 2, cells := 4, slots := 8, locals := 29 } : Room) s m #[(.ref a), (.ref w)] below meth c s₁ [] 0 0 := Stand.of_body Bd
  have e0 : s₁.heap = h0 := by rw [← hh, Bd.state]; rfl
  have N0 := Fr.nil n0
  refine own_bodyH (Z := Z) (Q := Q1_0 Z a w kw h0 n0) (KC := ({ frames := 2, cells := 4, slots := 8, locals := 29 } : Room).cells) (KS := ({ frames := 2, cells := 4, slots := 8, locals := 29 } : Room).slots) ?_
  rw [own_ef_rm1_0 m a w]
  have X0 : Stand p l e ({ frames := 2, cells := 4, slots := 8, locals := 29 } : Room) (s.setVm s.vm) m #[(.ref a), (.ref w)] below meth c s₁ [] 0 0 := X0
  have hS : s.Since s.vm h0.size := (State.WarmedH.refl s).since _
  have hSn : h0.size ≤ h0.size := Nat.le_refl _
  have HC : CHr Z own_EL s.vm h0 s.vm h0 := CHr.refl hCH
  have Kp : Keep h0 h0 [a] := Keep.refl h0 _
  refine own_aloadN X0 hx hby d1_0 (pc' := 1) rfl rfl rfl ?_
  refine own_aloadN X0 hx hby d1_1 (pc' := 2) rfl rfl rfl ?_
  refine own_iconst X0 hx hby d1_2 (pc' := 3) rfl (n := (0 : Int32)) (by decide) ?_
  refine own_aloadN X0 hx hby d1_3 (pc' := 4) rfl rfl rfl ?_
  obtain ⟨cl1, Ar1, q1, S1, M1, H1, G1⟩ := id f_V_w
  refine own_alen X0 hx hZ hby e0 Ar1 S1 M1 d1_4 (pc' := 5) rfl ?_
  refine own_aconst_null X0 hx hby d1_5 (pc' := 6) rfl ?_
  refine own_lk0 hw X0 hx hZ hby (by rw [hml]; rfl) hown d1_6 (pc' := 9) rfl e0 (W := 0) (Nat.le_of_eq rfl) (rm2_0 l Z a0 hw [] a w h0 n0 Z0 f_O_a ge_a) (by decide) (by decide) (by decide) (by decide) hS hSn (own_EW hw) HC.1 (fun v3 T3 L3 X3 hS hSn hZ hown hQ3 hCR => ?_)
  have HC := HC.trans hCR
  obtain ⟨rfl, Nq3, K3, d2, kd2, O3, V3⟩ := hQ3
  have N3 := Fr.app N0 Nq3
  have f_V_w := f_V_w.keep K3 (ninS (Ne.symm ne_a_w) nin0)
  have Zn := Nat.le_trans Z0 K3.1
  have Kp := Kp.trans K3 (allS (Or.inl (List.mem_of_getElem? (i := 0) rfl)) all0)
  show own_End p e below _ (T3.setTop (mkF m 9 _ []))
  have HF : CHr Z own_EL s.vm s.heap T3.vm T3.heap := by rw [hh]; exact HC.trans (CHv.at X3 hZ (own_EW hw) HC.1)
  refine own_return X3 hx hlk hby hret d1_9 (own_lvH HF hS hSn ?_ (by decide) (by decide))
  show Q1_0 Z a w kw  h0 n0 none T3.heap _
  exact ⟨rfl, N3, Kp, d2, _, O3, V3⟩
theorem own_ef_rm9_1 (m : MethodId) (w : Addr) (d : Addr)  : entryFrame m #[(.ref w), (.int (0 : Int32)), (.ref d), (.int (0 : Int32)), (.int (1 : Int32))] 7 = mkF m 0 #[.val (.ref w), .val (.int (0 : Int32)), .val (.ref d), .val (.int (0 : Int32)), .val (.int (1 : Int32)), .unset, .unset] [] := by first | (simp [entryFrame, mkF, argsToLocals, Value.category]; done) | rfl
def Q9_1 (Z : State) (w : Addr) (d : Addr) (kw : ClassId) (kd : ClassId) (c0 : Int32) (h0 : Heap) (n0 : Nat) (v : Option Value) (h : Heap) (L : List Loc) : Prop := v = some (.int 1) ∧ Fr n0 L ∧ Keep h0 h [d] ∧ Arv Z h d kd .byte (1 : Int32) [(.int (c0.toInt8.toInt32))] (.int (0 : Int32))
set_option maxRecDepth 65536 in
set_option maxHeartbeats 40000000 in
theorem rm9_1 (l : Launch) (Z : State) (a0 : Array Value) (hw : ∀ d ∈ tables_1, d.before a0 Z = true) (ws : List Jvm.Cond) (w : Addr) (d : Addr) (kw : ClassId) (kd : ClassId) (c0 : Int32) (h0 : Heap) (n0 : Nat) (Z0 : n0 ≤ h0.size) (f_V_w : Arv Z h0 w kw .char (1 : Int32) [(.int c0)] (.int (0 : Int32))) (f_V_d : Arv Z h0 d kd .byte (1 : Int32) [(.int (0 : Int32))] (.int (0 : Int32))) (ge_d : n0 ≤ d) (ne_w_d : w ≠ d) (hc0' : ¬ (255 : Int32) < c0) :
    MetFree l (⟨"java/lang/StringUTF16", "compress", "([CI[BII)I"⟩ : MethodName) (head1 (Jvm.Cond.code (⟨"java/lang/StringUTF16", "compress", "([CI[BII)I"⟩ : MethodName) jdk_52_method_21_code 7 (some .int) :: ws) ({ frames := 0, cells := 0, slots := 0, locals := 0 } : Room)) (fun aa U => aa = #[(.ref w), (.int (0 : Int32)), (.ref d), (.int (0 : Int32)), (.int (1 : Int32))] ∧ Z.Warmed39 U.vm ∧ U.heap = h0) (fun _ _ _ _ _ => True) (fun _ U oc U' => ∃ v L, oc = .returned v ∧ Q9_1 Z w d kw kd c0 h0 n0 v U'.heap L ∧ FrameEnd U oc U' L ({ frames := 0, cells := 0, slots := 0, locals := 0 } : Room).cells ({ frames := 0, cells := 0, slots := 0, locals := 0 } : Room).slots) := by
  refine MetFree.of_bodySF (plainFor_of_name own_pn2) hisR ?_
  intro p e s m args below meth c s₁ Bd hml0 hP hK
  obtain ⟨rfl, hZ, hh⟩ := hP
  have hx := Bd.exec
  have hby := Bd.bytes
  have hlk := Bd.notSynchronized
  have hret := Bd.returns
  have hml : c.maxLocals = 7 := hml0
  have hown : s.vm.findClass "java/lang/StringUTF16" = some m.cls := findClass_of_methodNamed Bd.named
  have hnm := (name_of_methodNamed Bd.named Bd.method).1
  have X0 : Stand p l e ({ frames := 0, cells := 0, slots := 0, locals := 0 } : Room) s m #[(.ref w), (.int (0 : Int32)), (.ref d), (.int (0 : Int32)), (.int (1 : Int32))] below meth c s₁ [] 0 0 := Stand.of_body Bd
  have e0 : s₁.heap = h0 := by rw [← hh, Bd.state]; rfl
  have N0 := Fr.nil n0
  refine own_body (Q := Q9_1 Z w d kw kd c0 h0 n0) (KC := ({ frames := 0, cells := 0, slots := 0, locals := 0 } : Room).cells) (KS := ({ frames := 0, cells := 0, slots := 0, locals := 0 } : Room).slots) ?_
  rw [own_ef_rm9_1 m w d]
  have Kp : Keep h0 h0 [d] := Keep.refl h0 _
  refine own_iconst X0 hx hby d9_0 (pc' := 1) rfl (n := (0 : Int32)) (by decide) ?_
  refine own_istore X0 hx hby d9_1 (pc' := 3) rfl (l' := #[.val (.ref w), .val (.int (0 : Int32)), .val (.ref d), .val (.int (0 : Int32)), .val (.int (1 : Int32)), .val (.int (0 : Int32)), .unset]) rfl ?_
  refine own_iload X0 hx hby d9_3 (pc' := 5) rfl rfl ?_
  refine own_iload X0 hx hby d9_5 (pc' := 7) rfl rfl ?_
  refine own_icN X0 hx hby d9_7 (pc' := 10) rfl (show (0 : Int32) < (1 : Int32) by decide) ?_
  refine own_aloadN X0 hx hby d9_10 (pc' := 11) rfl rfl rfl ?_
  refine own_iloadN X0 hx hby d9_11 (pc' := 12) rfl rfl ?_
  obtain ⟨cl1, Ar1, q1, S1, M1, H1, G1⟩ := id f_V_w
  have hin1 : ¬ ((0 : Int32) < 0 ∨ cl1.slots.size ≤ ((0 : Int32)).toNatClampNeg) := inb_of S1 ⟨by decide, by decide⟩
  have hat1 : cl1.slots[((0 : Int32)).toNatClampNeg]? = some (.int c0) := H1.at hin1 rfl
  refine own_caload X0 hx hZ hby e0 Ar1 hin1 hat1 d9_12 (pc' := 13) rfl ?_
  refine own_istore X0 hx hby d9_13 (pc' := 15) rfl (l' := #[.val (.ref w), .val (.int (0 : Int32)), .val (.ref d), .val (.int (0 : Int32)), .val (.int (1 : Int32)), .val (.int (0 : Int32)), .val (.int c0)]) rfl ?_
  refine own_iload X0 hx hby d9_15 (pc' := 17) rfl rfl ?_
  refine own_sipush X0 hx hby d9_17 (pc' := 20) rfl (n := (255 : Int32)) (by decide) ?_
  refine own_icY X0 hx hby d9_20 (pc' := 26) (by decide) (by decide) (show ¬ (255 : Int32) < c0 from hc0') ?_
  refine own_aloadN X0 hx hby d9_26 (pc' := 27) rfl rfl rfl ?_
  refine own_iloadN X0 hx hby d9_27 (pc' := 28) rfl rfl ?_
  refine own_iload X0 hx hby d9_28 (pc' := 30) rfl rfl ?_
  refine own_i2b X0 hx hby d9_30 (pc' := 31) rfl ?_
  obtain ⟨cl2, Ar2, q2, S2, M2, H2, G2⟩ := id f_V_d
  have hin2 : ¬ ((0 : Int32) < 0 ∨ cl2.slots.size ≤ ((0 : Int32)).toNatClampNeg) := inb_of S2 ⟨by decide, by decide⟩
  refine own_bastore X0 hx hZ hby e0 Ar2 hin2 d9_31 (pc' := 32) rfl (fun T3 h3 X3 e3 W3 => ?_)
  have f_V_d := Arv.set Ar2 q2 S2 M2 H2 G2 (fits_nar_byte _) W3 0 rfl (Nat.le_of_ble_eq_true rfl)
  have f_V_d : Arv Z h3 d kd .byte (1 : Int32) [(.int ((c0.toInt8.toInt32).toInt8.toInt32))] (.int (0 : Int32)) := f_V_d
  rw [own_b8 c0] at f_V_d
  have f_V_w := f_V_w.other W3 ne_w_d
  have Zn := Nat.le_trans Z0 (Keep.of_wr W3).1
  have Kp := Kp.wr W3 (Or.inl (List.mem_of_getElem? (i := 0) rfl))
  have N3 := Fr.snoc X3 N0 ge_d
  refine own_iinc X3 hx hby d9_32 (pc' := 35) rfl rfl (y := (1 : Int32)) (by decide) (l' := #[.val (.ref w), .val (.int (1 : Int32)), .val (.ref d), .val (.int (0 : Int32)), .val (.int (1 : Int32)), .val (.int (0 : Int32)), .val (.int c0)]) rfl ?_
  refine own_iinc X3 hx hby d9_35 (pc' := 38) rfl rfl (y := (1 : Int32)) (by decide) (l' := #[.val (.ref w), .val (.int (1 : Int32)), .val (.ref d), .val (.int (1 : Int32)), .val (.int (1 : Int32)), .val (.int (0 : Int32)), .val (.int c0)]) rfl ?_
  refine own_iinc X3 hx hby d9_38 (pc' := 41) rfl rfl (y := (1 : Int32)) (by decide) (l' := #[.val (.ref w), .val (.int (1 : Int32)), .val (.ref d), .val (.int (1 : Int32)), .val (.int (1 : Int32)), .val (.int (1 : Int32)), .val (.int c0)]) rfl ?_
  refine own_goto X3 hx hby d9_41 (pc' := 3) (by decide) (by decide) ?_
  refine own_iload X3 hx hby d9_3 (pc' := 5) rfl rfl ?_
  refine own_iload X3 hx hby d9_5 (pc' := 7) rfl rfl ?_
  refine own_icY X3 hx hby d9_7 (pc' := 44) (by decide) (by decide) (show ¬ (1 : Int32) < (1 : Int32) by decide) ?_
  refine own_iload X3 hx hby d9_44 (pc' := 46) rfl rfl ?_
  refine own_ireturn X3 hx hlk hby hret d9_46 (own_lv ?_ (by decide) (by decide))
  show Q9_1 Z w d kw kd c0  h0 n0 (some (.int (1 : Int32))) T3.heap _
  rw [e3]
  exact ⟨rfl, N3, Kp, f_V_d⟩
theorem own_ef_rm8_1 (m : MethodId) (w : Addr)  : entryFrame m #[(.ref w), (.int (0 : Int32)), (.int (1 : Int32))] 6 = mkF m 0 #[.val (.ref w), .val (.int (0 : Int32)), .val (.int (1 : Int32)), .unset, .unset, .unset] [] := by first | (simp [entryFrame, mkF, argsToLocals, Value.category]; done) | rfl
def Q8_1 (Z : State) (w : Addr) (kw : ClassId) (c0 : Int32) (h0 : Heap) (n0 : Nat) (v : Option Value) (h : Heap) (L : List Loc) : Prop := ∃ (d : Addr) (kd : ClassId), v = some (.ref d) ∧ Fr n0 L ∧ Keep h0 h [] ∧ h0.size ≤ d ∧ Arv Z h d kd .byte (1 : Int32) [(.int (c0.toInt8.toInt32))] (.int (0 : Int32))
set_option maxRecDepth 65536 in
set_option maxHeartbeats 40000000 in
theorem rm8_1 (l : Launch) (Z : State) (a0 : Array Value) (hw : ∀ d ∈ tables_1, d.before a0 Z = true) (ws : List Jvm.Cond) (w : Addr) (kw : ClassId) (c0 : Int32) (h0 : Heap) (n0 : Nat) (Z0 : n0 ≤ h0.size) (f_V_w : Arv Z h0 w kw .char (1 : Int32) [(.int c0)] (.int (0 : Int32))) (hc0' : ¬ (255 : Int32) < c0) :
    MetFree l (⟨"java/lang/StringUTF16", "compress", "([CII)[B"⟩ : MethodName) (head1 (Jvm.Cond.code (⟨"java/lang/StringUTF16", "compress", "([CII)[B"⟩ : MethodName) jdk_52_method_16_code 6 (some (.array .byte)) :: ws) ({ frames := 1, cells := 1, slots := 1, locals := 18 } : Room)) (fun aa U => aa = #[(.ref w), (.int (0 : Int32)), (.int (1 : Int32))] ∧ Z.Warmed39 U.vm ∧ U.heap = h0) (fun _ _ _ _ _ => True) (fun _ U oc U' => ∃ v L, oc = .returned v ∧ Q8_1 Z w kw c0 h0 n0 v U'.heap L ∧ FrameEnd U oc U' L ({ frames := 1, cells := 1, slots := 1, locals := 18 } : Room).cells ({ frames := 1, cells := 1, slots := 1, locals := 18 } : Room).slots) := by
  refine MetFree.of_bodySF (plainFor_of_name own_pn2) hisR ?_
  intro p e s m args below meth c s₁ Bd hml0 hP hK
  obtain ⟨rfl, hZ, hh⟩ := hP
  have hx := Bd.exec
  have hby := Bd.bytes
  have hlk := Bd.notSynchronized
  have hret := Bd.returns
  have hml : c.maxLocals = 6 := hml0
  have hown : s.vm.findClass "java/lang/StringUTF16" = some m.cls := findClass_of_methodNamed Bd.named
  have hnm := (name_of_methodNamed Bd.named Bd.method).1
  have X0 : Stand p l e ({ frames := 1, cells := 1, slots := 1, locals := 18 } : Room) s m #[(.ref w), (.int (0 : Int32)), (.int (1 : Int32))] below meth c s₁ [] 0 0 := Stand.of_body Bd
  have e0 : s₁.heap = h0 := by rw [← hh, Bd.state]; rfl
  have N0 := Fr.nil n0
  refine own_body (Q := Q8_1 Z w kw c0 h0 n0) (KC := ({ frames := 1, cells := 1, slots := 1, locals := 18 } : Room).cells) (KS := ({ frames := 1, cells := 1, slots := 1, locals := 18 } : Room).slots) ?_
  rw [own_ef_rm8_1 m w]
  have Kp : Keep h0 h0 [] := Keep.refl h0 _
  refine own_iloadN X0 hx hby d8_0 (pc' := 1) rfl rfl ?_
  refine own_newP (aty := .byte) X0 hx hZ hby (wd_15 hw) e0 d8_1 (pc' := 3) rfl (by decide) (cap := 1) (by decide) (by decide) (by decide) (by decide) (fun T1 h1 k1 b1 g1 X1 e1 E1 A1 => ?_)
  have ne_w_b1 : w ≠ b1 := Nat.ne_of_lt (by rw [g1]; exact f_V_w.lt)
  have ge_b1 : n0 ≤ b1 := by rw [g1]; exact Z0
  have sz_b1 : h0.size ≤ b1 := by rw [g1]; exact Kp.1
  have f_V_w := f_V_w.ext E1
  have Zn := Nat.le_trans Z0 E1.1
  have Kp := Kp.ext E1
  have f_V_b1 : Arv Z h1 b1 k1 .byte (1 : Int32) [(.int (0 : Int32))] (.int (0 : Int32)) := (Arv.new A1 (by decide)).pad (pad_rep [] (.int (0 : Int32)) 1)
  refine own_astoreN X1 hx hby d8_3 (pc' := 4) rfl rfl (l' := #[.val (.ref w), .val (.int (0 : Int32)), .val (.int (1 : Int32)), .val (.ref b1), .unset, .unset]) rfl ?_
  refine own_aloadN X1 hx hby d8_4 (pc' := 5) rfl rfl rfl ?_
  refine own_iloadN X1 hx hby d8_5 (pc' := 6) rfl rfl ?_
  refine own_aloadN X1 hx hby d8_6 (pc' := 7) rfl rfl rfl ?_
  refine own_iconst X1 hx hby d8_7 (pc' := 8) rfl (n := (0 : Int32)) (by decide) ?_
  refine own_iloadN X1 hx hby d8_8 (pc' := 9) rfl rfl ?_
  refine own_lk1 hw X1 hx hZ hby (by rw [hml]; rfl) hown d8_9 (pc' := 12) rfl e1 (W := 0) (Nat.le_of_eq rfl) (rm9_1 l Z a0 hw [] w b1 kw k1 c0 h1 n0 Zn f_V_w f_V_b1 ge_b1 ne_w_b1 hc0') (by decide) (by decide) (by decide) (by decide) (fun v2 T2 L2 X2 hQ2 => ?_)
  obtain ⟨rfl, Nq2, K2, V2⟩ := hQ2
  have N2 := Fr.app N0 Nq2
  have f_V_w := f_V_w.keep K2 (ninS ne_w_b1 nin0)
  have Zn := Nat.le_trans Zn K2.1
  have Kp := Kp.trans K2 (allS (Or.inr sz_b1) all0)
  show own_End p e below _ (T2.setTop (mkF m 12 _ [(.int (1 : Int32))]))
  refine own_istore X2 hx hby d8_12 (pc' := 14) rfl (l' := #[.val (.ref w), .val (.int (0 : Int32)), .val (.int (1 : Int32)), .val (.ref b1), .val (.int (1 : Int32)), .unset]) rfl ?_
  refine own_iload X2 hx hby d8_14 (pc' := 16) rfl rfl ?_
  refine own_iloadN X2 hx hby d8_16 (pc' := 17) rfl rfl ?_
  refine own_icY X2 hx hby d8_17 (pc' := 57) (by decide) (by decide) (show (1 : Int32) = (1 : Int32) by decide) ?_
  refine own_aloadN X2 hx hby d8_57 (pc' := 58) rfl rfl rfl ?_
  refine own_areturn X2 hx hlk hby hret rfl rfl d8_58 (own_lv ?_ (by decide) (by decide))
  show Q8_1 Z w kw c0  h0 n0 (some (.ref b1)) T2.heap _
  exact ⟨_, _, rfl, N2, Kp, sz_b1, V2⟩
theorem own_ef_rm10_1 (m : MethodId) (d : Addr)  : entryFrame m #[(.ref d), (.int (1 : Int32))] 2 = mkF m 0 #[.val (.ref d), .val (.int (1 : Int32))] [] := by first | (simp [entryFrame, mkF, argsToLocals, Value.category]; done) | rfl
def Q10_1 (Z : State) (d : Addr) (kd : ClassId) (vs : List Value) (h0 : Heap) (n0 : Nat) (v : Option Value) (h : Heap) (L : List Loc) : Prop := v = some (.int 0) ∧ Fr n0 L ∧ h = h0
set_option maxRecDepth 65536 in
set_option maxHeartbeats 40000000 in
theorem rm10_1 (l : Launch) (Z : State) (a0 : Array Value) (hw : ∀ d ∈ tables_1, d.before a0 Z = true) (ws : List Jvm.Cond) (d : Addr) (kd : ClassId) (vs : List Value) (h0 : Heap) (n0 : Nat) (Z0 : n0 ≤ h0.size) (f_V_d : Arv Z h0 d kd .byte (1 : Int32) vs (.int (0 : Int32))) :
    MetFree l (⟨"java/lang/StringUTF16", "coderFromArrayLen", "([BI)B"⟩ : MethodName) (head1 (Jvm.Cond.code (⟨"java/lang/StringUTF16", "coderFromArrayLen", "([BI)B"⟩ : MethodName) jdk_52_method_15_code 2 (some .byte) :: ws) ({ frames := 0, cells := 0, slots := 0, locals := 0 } : Room)) (fun aa U => aa = #[(.ref d), (.int (1 : Int32))] ∧ Z.Warmed39 U.vm ∧ U.heap = h0) (fun _ _ _ _ _ => True) (fun _ U oc U' => ∃ v L, oc = .returned v ∧ Q10_1 Z d kd vs h0 n0 v U'.heap L ∧ FrameEnd U oc U' L ({ frames := 0, cells := 0, slots := 0, locals := 0 } : Room).cells ({ frames := 0, cells := 0, slots := 0, locals := 0 } : Room).slots) := by
  refine MetFree.of_bodySF (plainFor_of_name own_pn2) hisR ?_
  intro p e s m args below meth c s₁ Bd hml0 hP hK
  obtain ⟨rfl, hZ, hh⟩ := hP
  have hx := Bd.exec
  have hby := Bd.bytes
  have hlk := Bd.notSynchronized
  have hret := Bd.returns
  have hml : c.maxLocals = 2 := hml0
  have hown : s.vm.findClass "java/lang/StringUTF16" = some m.cls := findClass_of_methodNamed Bd.named
  have hnm := (name_of_methodNamed Bd.named Bd.method).1
  have X0 : Stand p l e ({ frames := 0, cells := 0, slots := 0, locals := 0 } : Room) s m #[(.ref d), (.int (1 : Int32))] below meth c s₁ [] 0 0 := Stand.of_body Bd
  have e0 : s₁.heap = h0 := by rw [← hh, Bd.state]; rfl
  have N0 := Fr.nil n0
  refine own_body (Q := Q10_1 Z d kd vs h0 n0) (KC := ({ frames := 0, cells := 0, slots := 0, locals := 0 } : Room).cells) (KS := ({ frames := 0, cells := 0, slots := 0, locals := 0 } : Room).slots) ?_
  rw [own_ef_rm10_1 m d]
  refine own_iloadN X0 hx hby d10_0 (pc' := 1) rfl rfl ?_
  refine own_aloadN X0 hx hby d10_1 (pc' := 2) rfl rfl rfl ?_
  obtain ⟨cl1, Ar1, q1, S1, M1, H1, G1⟩ := id f_V_d
  refine own_alen X0 hx hZ hby e0 Ar1 S1 M1 d10_2 (pc' := 3) rfl ?_
  refine own_isub X0 hx hby d10_3 (pc' := 4) rfl ?_
  refine own_bipush X0 hx hby d10_4 (pc' := 6) rfl (n := (31 : Int32)) (by decide) ?_
  refine own_iushr X0 hx hby d10_6 (pc' := 7) rfl ?_
  refine own_i2b X0 hx hby d10_7 (pc' := 8) rfl ?_
  show own_End p e below _ (s₁.setTop (mkF m 8 #[.val (.ref d), .val (.int (1 : Int32))] [(.int (0 : Int32))]))
  refine own_breturn X0 hx hlk hby hret (by decide) d10_8 (own_lv ?_ (by decide) (by decide))
  show Q10_1 Z d kd vs  h0 n0 (some (.int (0 : Int32))) s₁.heap _
  rw [e0]
  exact ⟨rfl, N0, rfl⟩
theorem own_ef_rm2_1 (m : MethodId) (a : Addr) (w : Addr)  : entryFrame m #[(.ref a), (.ref w), (.int (0 : Int32)), (.int (1 : Int32)), .null] 6 = mkF m 0 #[.val (.ref a), .val (.ref w), .val (.int (0 : Int32)), .val (.int (1 : Int32)), .val .null, .unset] [] := by first | (simp [entryFrame, mkF, argsToLocals, Value.category]; done) | rfl
def Q2_1 (Z : State) (a : Addr) (w : Addr) (kw : ClassId) (cs : Int32) (c0 : Int32) (h0 : Heap) (n0 : Nat) (v : Option Value) (h : Heap) (L : List Loc) : Prop := v = none ∧ Fr n0 L ∧ Keep h0 h [a] ∧ ∃ (d : Addr) (kd : ClassId), h0.size ≤ d ∧ own_SO Z h a (.ref d) 0 ∧ Arv Z h d kd .byte (1 : Int32) [(.int (c0.toInt8.toInt32))] (.int (0 : Int32))
set_option maxRecDepth 65536 in
set_option maxHeartbeats 40000000 in
theorem rm2_1 (l : Launch) (Z : State) (a0 : Array Value) (hw : ∀ d ∈ tables_1, d.before a0 Z = true) (ws : List Jvm.Cond) (a : Addr) (w : Addr) (kw : ClassId) (cs : Int32) (c0 : Int32) (h0 : Heap) (n0 : Nat) (Z0 : n0 ≤ h0.size) (f_O_a : own_SO Z h0 a .null (0 : Int32)) (ge_a : n0 ≤ a) (f_V_w : Arv Z h0 w kw .char (1 : Int32) [(.int c0)] (.int (0 : Int32))) (ne_a_w : a ≠ w) (f_S_java_lang_String_COMPACT_STRINGS : Sta Z h0 "java/lang/String" "COMPACT_STRINGS" "Z" (.int cs)) (hcs : ¬ cs = (0 : Int32)) (hc0' : ¬ (255 : Int32) < c0) :
    MetFree l (⟨"java/lang/String", "<init>", "([CIILjava/lang/Void;)V"⟩ : MethodName) (head1 (Jvm.Cond.code (⟨"java/lang/String", "<init>", "([CIILjava/lang/Void;)V"⟩ : MethodName) jdk_42_method_149_code 6 none :: ws) ({ frames := 2, cells := 1, slots := 1, locals := 35 } : Room)) (fun aa U => aa = #[(.ref a), (.ref w), (.int (0 : Int32)), (.int (1 : Int32)), .null] ∧ Z.Warmed39 U.vm ∧ U.heap = h0) (fun _ _ _ _ _ => True) (fun _ U oc U' => ∃ v L, oc = .returned v ∧ Q2_1 Z a w kw cs c0 h0 n0 v U'.heap L ∧ FrameEnd U oc U' L ({ frames := 2, cells := 1, slots := 1, locals := 35 } : Room).cells ({ frames := 2, cells := 1, slots := 1, locals := 35 } : Room).slots) := by
  refine MetFree.of_bodySF (plainFor_of_name own_pn0) hisR ?_
  intro p e s m args below meth c s₁ Bd hml0 hP hK
  obtain ⟨rfl, hZ, hh⟩ := hP
  have hx := Bd.exec
  have hby := Bd.bytes
  have hlk := Bd.notSynchronized
  have hret := Bd.returns
  have hml : c.maxLocals = 6 := hml0
  have hown : s.vm.findClass "java/lang/String" = some m.cls := findClass_of_methodNamed Bd.named
  have hnm := (name_of_methodNamed Bd.named Bd.method).1
  have X0 : Stand p l e ({ frames := 2, cells := 1, slots := 1, locals := 35 } : Room) s m #[(.ref a), (.ref w), (.int (0 : Int32)), (.int (1 : Int32)), .null] below meth c s₁ [] 0 0 := Stand.of_body Bd
  have e0 : s₁.heap = h0 := by rw [← hh, Bd.state]; rfl
  have N0 := Fr.nil n0
  refine own_body (Q := Q2_1 Z a w kw cs c0 h0 n0) (KC := ({ frames := 2, cells := 1, slots := 1, locals := 35 } : Room).cells) (KS := ({ frames := 2, cells := 1, slots := 1, locals := 35 } : Room).slots) ?_
  rw [own_ef_rm2_1 m a w]
  have Kp : Keep h0 h0 [a] := Keep.refl h0 _
  refine own_aloadN X0 hx hby d2_0 (pc' := 1) rfl rfl rfl ?_
  refine own_init X0 hx hZ hby hown (wd_11 hw) (wd_12 hw) (wd_13 hw) e0 (by rw [hml]; rfl) d2_1 (pc' := 4) rfl (by decide) (W := 0) (Nat.le_of_eq rfl) (by decide) (fun T1 X1 e1 => ?_)
  refine own_iloadN X1 hx hby d2_4 (pc' := 5) rfl rfl ?_
  refine own_ifY X1 hx hby d2_5 (pc' := 27) (by decide) (by decide) (show ¬ (1 : Int32) = (0 : Int32) by decide) ?_
  refine own_getS X1 hx hZ hby hown (host := "") (Or.inl (wd_50 hw)) Via.refl e1 f_S_java_lang_String_COMPACT_STRINGS d2_27 (pc' := 30) rfl (fun T2 X2 e2 => ?_)
  refine own_ifN X2 hx hby d2_30 (pc' := 33) rfl (show ¬ cs = (0 : Int32) from hcs) ?_
  refine own_aloadN X2 hx hby d2_33 (pc' := 34) rfl rfl rfl ?_
  refine own_iloadN X2 hx hby d2_34 (pc' := 35) rfl rfl ?_
  refine own_iloadN X2 hx hby d2_35 (pc' := 36) rfl rfl ?_
  have lt_a := f_O_a.lt
  have lt_w := f_V_w.lt
  have Zold := Z0
  have Kold := Kp
  refine own_lk2 hw X2 hx hZ hby (by rw [hml]; rfl) hown d2_36 (pc' := 39) rfl e2 (W := 0) (Nat.le_of_eq rfl) (rm8_1 l Z a0 hw [] w kw c0 h0 n0 Z0 f_V_w hc0') (by decide) (by decide) (by decide) (by decide) (fun v4 T4 L4 X4 hQ4 => ?_)
  obtain ⟨d3, kd3, rfl, Nq4, K4, gd4, V4⟩ := hQ4
  have N4 := Fr.app N0 Nq4
  have f_S_java_lang_String_COMPACT_STRINGS := own_sta0 f_S_java_lang_String_COMPACT_STRINGS K4
  have f_O_a := f_O_a.keep K4 nin0
  have f_V_w := f_V_w.keep K4 nin0
  have Zn := Nat.le_trans Z0 K4.1
  have Kp := Kp.trans K4 all0
  have ne_a_d3 : a ≠ d3 := Nat.ne_of_lt (Nat.lt_of_lt_of_le lt_a gd4)
  have ne_w_d3 : w ≠ d3 := Nat.ne_of_lt (Nat.lt_of_lt_of_le lt_w gd4)
  have ge_d3 : n0 ≤ d3 := Nat.le_trans Zold gd4
  have sz_d3 : h0.size ≤ d3 := Nat.le_trans Kold.1 gd4
  show own_End p e below _ (T4.setTop (mkF m 39 _ [(.ref d3)]))
  refine own_astore X4 hx hby d2_39 (pc' := 41) rfl rfl (l' := #[.val (.ref a), .val (.ref w), .val (.int (0 : Int32)), .val (.int (1 : Int32)), .val .null, .val (.ref d3)]) rfl ?_
  refine own_aloadN X4 hx hby d2_41 (pc' := 42) rfl rfl rfl ?_
  refine own_aload X4 hx hby d2_42 (pc' := 44) rfl rfl rfl ?_
  refine own_iloadN X4 hx hby d2_44 (pc' := 45) rfl rfl ?_
  refine own_lk3 hw X4 hx hZ hby (by rw [hml]; rfl) hown d2_45 (pc' := 48) rfl rfl (W := 1) (Nat.le_of_eq rfl) (rm10_1 l Z a0 hw [] d3 kd3 [(.int (c0.toInt8.toInt32))] T4.heap n0 Zn V4) (by decide) (by decide) (by decide) (by decide) (fun v5 T5 L5 X5 hQ5 => ?_)
  obtain ⟨rfl, Nq5, e5⟩ := hQ5
  have N5 := Fr.app N4 Nq5
  show own_End p e below _ (T5.setTop (mkF m 48 _ [(.int (0 : Int32)), (.ref a)]))
  obtain ⟨f_E_a, f_F_a_value, f_F_a_coder⟩ := f_O_a
  refine own_putN X5 hx hZ hby hown (wd_21 hw) Via.refl e5 f_F_a_coder f_E_a (Or.inr ⟨(wd_17 hw), rfl, hnm⟩) (wd_2 hw) (ty := .byte) (v' := (.int (0 : Int32))) (by decide) rfl (by decide) d2_48 (pc' := 51) rfl (fun T6 h6 X6 e6 W6 => ?_)
  have f_F_a_coder := f_F_a_coder.same W6
  have f_V_w := f_V_w.other W6 (Ne.symm ne_a_w)
  have f_S_java_lang_String_COMPACT_STRINGS := f_S_java_lang_String_COMPACT_STRINGS.wr W6
  have V4 := V4.other W6 (Ne.symm ne_a_d3)
  have f_E_a := f_E_a.wr W6
  have f_F_a_value := f_F_a_value.other W6 (Or.inr (slot_ne (Or.inr (wd_16 hw)) (Or.inr (wd_17 hw)) (by decide) (t := (.array .byte)) (t' := .byte) (by decide) (by decide)))
  have Zn := Nat.le_trans Zn (Keep.of_wr W6).1
  have Kp := Kp.wr W6 (Or.inl (List.mem_of_getElem? (i := 0) rfl))
  have N6 := Fr.snoc X6 N5 ge_a
  refine own_aloadN X6 hx hby d2_51 (pc' := 52) rfl rfl rfl ?_
  refine own_aload X6 hx hby d2_52 (pc' := 54) rfl rfl rfl ?_
  refine own_putF X6 hx hZ hby hown (host := "") (Or.inl (wd_20 hw)) Via.refl e6 f_F_a_value f_E_a (Or.inr ⟨(wd_16 hw), rfl, hnm⟩) (wd_2 hw) (ty := (.array .byte)) (by decide) rfl rfl d2_54 (pc' := 57) rfl (fun T7 h7 X7 e7 W7 => ?_)
  have f_F_a_value := f_F_a_value.same W7
  have f_V_w := f_V_w.other W7 (Ne.symm ne_a_w)
  have f_S_java_lang_String_COMPACT_STRINGS := f_S_java_lang_String_COMPACT_STRINGS.wr W7
  have V4 := V4.other W7 (Ne.symm ne_a_d3)
  have f_E_a := f_E_a.wr W7
  have f_F_a_coder := f_F_a_coder.other W7 (Or.inr (slot_ne (Or.inr (wd_17 hw)) (Or.inr (wd_16 hw)) (by decide) (t := .byte) (t' := (.array .byte)) (by decide) (by decide)))
  have Zn := Nat.le_trans Zn (Keep.of_wr W7).1
  have Kp := Kp.wr W7 (Or.inl (List.mem_of_getElem? (i := 0) rfl))
  have N7 := Fr.snoc X7 N6 ge_a
  refine own_return X7 hx hlk hby hret d2_57 (own_lv ?_ (by decide) (by decide))
  show Q2_1 Z a w kw cs c0  h0 n0 none T7.heap _
  rw [e7]
  exact ⟨rfl, N7, Kp, d3, _, sz_d3, ⟨f_E_a, f_F_a_value, f_F_a_coder⟩, V4⟩
theorem own_ef_rm1_1 (m : MethodId) (a : Addr) (w : Addr)  : entryFrame m #[(.ref a), (.ref w)] 2 = mkF m 0 #[.val (.ref a), .val (.ref w)] [] := by first | (simp [entryFrame, mkF, argsToLocals, Value.category]; done) | rfl
def Q1_1 (Z : State) (a : Addr) (w : Addr) (kw : ClassId) (cs : Int32) (c0 : Int32) (h0 : Heap) (n0 : Nat) (v : Option Value) (h : Heap) (L : List Loc) : Prop := v = none ∧ Fr n0 L ∧ Keep h0 h [a] ∧ ∃ (d : Addr) (kd : ClassId), h0.size ≤ d ∧ own_SO Z h a (.ref d) 0 ∧ Arv Z h d kd .byte (1 : Int32) [(.int (c0.toInt8.toInt32))] (.int (0 : Int32))
set_option maxRecDepth 65536 in
set_option maxHeartbeats 40000000 in
theorem rm1_1 (l : Launch) (Z : State) (a0 : Array Value) (hw : ∀ d ∈ tables_1, d.before a0 Z = true) (ws : List Jvm.Cond) (a : Addr) (w : Addr) (kw : ClassId) (cs : Int32) (c0 : Int32) (h0 : Heap) (n0 : Nat) (Z0 : n0 ≤ h0.size) (f_O_a : own_SO Z h0 a .null (0 : Int32)) (ge_a : n0 ≤ a) (f_V_w : Arv Z h0 w kw .char (1 : Int32) [(.int c0)] (.int (0 : Int32))) (ne_a_w : a ≠ w) (f_S_java_lang_String_COMPACT_STRINGS : Sta Z h0 "java/lang/String" "COMPACT_STRINGS" "Z" (.int cs)) (hcs : ¬ cs = (0 : Int32)) (hc0' : ¬ (255 : Int32) < c0) :
    MetFree l (⟨"java/lang/String", "<init>", "([C)V"⟩ : MethodName) (head1 (Jvm.Cond.code (⟨"java/lang/String", "<init>", "([C)V"⟩ : MethodName) jdk_42_method_3_code 2 none :: ws) ({ frames := 3, cells := 1, slots := 1, locals := 52 } : Room)) (fun aa U => aa = #[(.ref a), (.ref w)] ∧ Z.Warmed39 U.vm ∧ U.heap = h0) (fun _ _ _ _ _ => True) (fun _ U oc U' => ∃ v L, oc = .returned v ∧ Q1_1 Z a w kw cs c0 h0 n0 v U'.heap L ∧ FrameEnd U oc U' L ({ frames := 3, cells := 1, slots := 1, locals := 52 } : Room).cells ({ frames := 3, cells := 1, slots := 1, locals := 52 } : Room).slots) := by
  refine MetFree.of_bodySF (plainFor_of_name own_pn0) hisR ?_
  intro p e s m args below meth c s₁ Bd hml0 hP hK
  obtain ⟨rfl, hZ, hh⟩ := hP
  have hx := Bd.exec
  have hby := Bd.bytes
  have hlk := Bd.notSynchronized
  have hret := Bd.returns
  have hml : c.maxLocals = 2 := hml0
  have hown : s.vm.findClass "java/lang/String" = some m.cls := findClass_of_methodNamed Bd.named
  have hnm := (name_of_methodNamed Bd.named Bd.method).1
  have X0 : Stand p l e ({ frames := 3, cells := 1, slots := 1, locals := 52 } : Room) s m #[(.ref a), (.ref w)] below meth c s₁ [] 0 0 := Stand.of_body Bd
  have e0 : s₁.heap = h0 := by rw [← hh, Bd.state]; rfl
  have N0 := Fr.nil n0
  refine own_body (Q := Q1_1 Z a w kw cs c0 h0 n0) (KC := ({ frames := 3, cells := 1, slots := 1, locals := 52 } : Room).cells) (KS := ({ frames := 3, cells := 1, slots := 1, locals := 52 } : Room).slots) ?_
  rw [own_ef_rm1_1 m a w]
  have Kp : Keep h0 h0 [a] := Keep.refl h0 _
  refine own_aloadN X0 hx hby d1_0 (pc' := 1) rfl rfl rfl ?_
  refine own_aloadN X0 hx hby d1_1 (pc' := 2) rfl rfl rfl ?_
  refine own_iconst X0 hx hby d1_2 (pc' := 3) rfl (n := (0 : Int32)) (by decide) ?_
  refine own_aloadN X0 hx hby d1_3 (pc' := 4) rfl rfl rfl ?_
  obtain ⟨cl1, Ar1, q1, S1, M1, H1, G1⟩ := id f_V_w
  refine own_alen X0 hx hZ hby e0 Ar1 S1 M1 d1_4 (pc' := 5) rfl ?_
  refine own_aconst_null X0 hx hby d1_5 (pc' := 6) rfl ?_
  have lt_a := f_O_a.lt
  have lt_w := f_V_w.lt
  have Zold := Z0
  have Kold := Kp
  refine own_lk4 hw X0 hx hZ hby (by rw [hml]; rfl) hown d1_6 (pc' := 9) rfl e0 (W := 0) (Nat.le_of_eq rfl) (rm2_1 l Z a0 hw [] a w kw cs c0 h0 n0 Z0 f_O_a ge_a f_V_w ne_a_w f_S_java_lang_String_COMPACT_STRINGS hcs hc0') (by decide) (by decide) (by decide) (by decide) (fun v3 T3 L3 X3 hQ3 => ?_)
  obtain ⟨rfl, Nq3, K3, d2, kd2, gd3, O3, V3⟩ := hQ3
  have N3 := Fr.app N0 Nq3
  have f_S_java_lang_String_COMPACT_STRINGS := own_sta1 f_S_java_lang_String_COMPACT_STRINGS K3 f_O_a.1
  have f_V_w := f_V_w.keep K3 (ninS (Ne.symm ne_a_w) nin0)
  have Zn := Nat.le_trans Z0 K3.1
  have Kp := Kp.trans K3 (allS (Or.inl (List.mem_of_getElem? (i := 0) rfl)) all0)
  have ne_a_d2 : a ≠ d2 := Nat.ne_of_lt (Nat.lt_of_lt_of_le lt_a gd3)
  have ne_w_d2 : w ≠ d2 := Nat.ne_of_lt (Nat.lt_of_lt_of_le lt_w gd3)
  have sz_d2 : h0.size ≤ d2 := Nat.le_trans Kold.1 gd3
  show own_End p e below _ (T3.setTop (mkF m 9 _ []))
  refine own_return X3 hx hlk hby hret d1_9 (own_lv ?_ (by decide) (by decide))
  show Q1_1 Z a w kw cs c0  h0 n0 none T3.heap _
  exact ⟨rfl, N3, Kp, d2, _, sz_d2, O3, V3⟩
theorem own_ef_rm9_2 (m : MethodId) (w : Addr) (d : Addr)  : entryFrame m #[(.ref w), (.int (0 : Int32)), (.ref d), (.int (0 : Int32)), (.int (2 : Int32))] 7 = mkF m 0 #[.val (.ref w), .val (.int (0 : Int32)), .val (.ref d), .val (.int (0 : Int32)), .val (.int (2 : Int32)), .unset, .unset] [] := by first | (simp [entryFrame, mkF, argsToLocals, Value.category]; done) | rfl
def Q9_2 (Z : State) (w : Addr) (d : Addr) (kw : ClassId) (kd : ClassId) (c0 : Int32) (c1 : Int32) (h0 : Heap) (n0 : Nat) (v : Option Value) (h : Heap) (L : List Loc) : Prop := v = some (.int 2) ∧ Fr n0 L ∧ Keep h0 h [d] ∧ Arv Z h d kd .byte (2 : Int32) [(.int (c0.toInt8.toInt32)), (.int (c1.toInt8.toInt32))] (.int (0 : Int32))
set_option maxRecDepth 65536 in
set_option maxHeartbeats 40000000 in
theorem rm9_2 (l : Launch) (Z : State) (a0 : Array Value) (hw : ∀ d ∈ tables_1, d.before a0 Z = true) (ws : List Jvm.Cond) (w : Addr) (d : Addr) (kw : ClassId) (kd : ClassId) (c0 : Int32) (c1 : Int32) (h0 : Heap) (n0 : Nat) (Z0 : n0 ≤ h0.size) (f_V_w : Arv Z h0 w kw .char (2 : Int32) [(.int c0), (.int c1)] (.int (0 : Int32))) (f_V_d : Arv Z h0 d kd .byte (2 : Int32) [(.int (0 : Int32)), (.int (0 : Int32))] (.int (0 : Int32))) (ge_d : n0 ≤ d) (ne_w_d : w ≠ d) (hc0' : ¬ (255 : Int32) < c0) (hc1' : ¬ (255 : Int32) < c1) :
    MetFree l (⟨"java/lang/StringUTF16", "compress", "([CI[BII)I"⟩ : MethodName) (head1 (Jvm.Cond.code (⟨"java/lang/StringUTF16", "compress", "([CI[BII)I"⟩ : MethodName) jdk_52_method_21_code 7 (some .int) :: ws) ({ frames := 0, cells := 0, slots := 0, locals := 0 } : Room)) (fun aa U => aa = #[(.ref w), (.int (0 : Int32)), (.ref d), (.int (0 : Int32)), (.int (2 : Int32))] ∧ Z.Warmed39 U.vm ∧ U.heap = h0) (fun _ _ _ _ _ => True) (fun _ U oc U' => ∃ v L, oc = .returned v ∧ Q9_2 Z w d kw kd c0 c1 h0 n0 v U'.heap L ∧ FrameEnd U oc U' L ({ frames := 0, cells := 0, slots := 0, locals := 0 } : Room).cells ({ frames := 0, cells := 0, slots := 0, locals := 0 } : Room).slots) := by
  refine MetFree.of_bodySF (plainFor_of_name own_pn2) hisR ?_
  intro p e s m args below meth c s₁ Bd hml0 hP hK
  obtain ⟨rfl, hZ, hh⟩ := hP
  have hx := Bd.exec
  have hby := Bd.bytes
  have hlk := Bd.notSynchronized
  have hret := Bd.returns
  have hml : c.maxLocals = 7 := hml0
  have hown : s.vm.findClass "java/lang/StringUTF16" = some m.cls := findClass_of_methodNamed Bd.named
  have hnm := (name_of_methodNamed Bd.named Bd.method).1
  have X0 : Stand p l e ({ frames := 0, cells := 0, slots := 0, locals := 0 } : Room) s m #[(.ref w), (.int (0 : Int32)), (.ref d), (.int (0 : Int32)), (.int (2 : Int32))] below meth c s₁ [] 0 0 := Stand.of_body Bd
  have e0 : s₁.heap = h0 := by rw [← hh, Bd.state]; rfl
  have N0 := Fr.nil n0
  refine own_body (Q := Q9_2 Z w d kw kd c0 c1 h0 n0) (KC := ({ frames := 0, cells := 0, slots := 0, locals := 0 } : Room).cells) (KS := ({ frames := 0, cells := 0, slots := 0, locals := 0 } : Room).slots) ?_
  rw [own_ef_rm9_2 m w d]
  have Kp : Keep h0 h0 [d] := Keep.refl h0 _
  refine own_iconst X0 hx hby d9_0 (pc' := 1) rfl (n := (0 : Int32)) (by decide) ?_
  refine own_istore X0 hx hby d9_1 (pc' := 3) rfl (l' := #[.val (.ref w), .val (.int (0 : Int32)), .val (.ref d), .val (.int (0 : Int32)), .val (.int (2 : Int32)), .val (.int (0 : Int32)), .unset]) rfl ?_
  refine own_iload X0 hx hby d9_3 (pc' := 5) rfl rfl ?_
  refine own_iload X0 hx hby d9_5 (pc' := 7) rfl rfl ?_
  refine own_icN X0 hx hby d9_7 (pc' := 10) rfl (show (0 : Int32) < (2 : Int32) by decide) ?_
  refine own_aloadN X0 hx hby d9_10 (pc' := 11) rfl rfl rfl ?_
  refine own_iloadN X0 hx hby d9_11 (pc' := 12) rfl rfl ?_
  obtain ⟨cl1, Ar1, q1, S1, M1, H1, G1⟩ := id f_V_w
  have hin1 : ¬ ((0 : Int32) < 0 ∨ cl1.slots.size ≤ ((0 : Int32)).toNatClampNeg) := inb_of S1 ⟨by decide, by decide⟩
  have hat1 : cl1.slots[((0 : Int32)).toNatClampNeg]? = some (.int c0) := H1.at hin1 rfl
  refine own_caload X0 hx hZ hby e0 Ar1 hin1 hat1 d9_12 (pc' := 13) rfl ?_
  refine own_istore X0 hx hby d9_13 (pc' := 15) rfl (l' := #[.val (.ref w), .val (.int (0 : Int32)), .val (.ref d), .val (.int (0 : Int32)), .val (.int (2 : Int32)), .val (.int (0 : Int32)), .val (.int c0)]) rfl ?_
  refine own_iload X0 hx hby d9_15 (pc' := 17) rfl rfl ?_
  refine own_sipush X0 hx hby d9_17 (pc' := 20) rfl (n := (255 : Int32)) (by decide) ?_
  refine own_icY X0 hx hby d9_20 (pc' := 26) (by decide) (by decide) (show ¬ (255 : Int32) < c0 from hc0') ?_
  refine own_aloadN X0 hx hby d9_26 (pc' := 27) rfl rfl rfl ?_
  refine own_iloadN X0 hx hby d9_27 (pc' := 28) rfl rfl ?_
  refine own_iload X0 hx hby d9_28 (pc' := 30) rfl rfl ?_
  refine own_i2b X0 hx hby d9_30 (pc' := 31) rfl ?_
  obtain ⟨cl2, Ar2, q2, S2, M2, H2, G2⟩ := id f_V_d
  have hin2 : ¬ ((0 : Int32) < 0 ∨ cl2.slots.size ≤ ((0 : Int32)).toNatClampNeg) := inb_of S2 ⟨by decide, by decide⟩
  refine own_bastore X0 hx hZ hby e0 Ar2 hin2 d9_31 (pc' := 32) rfl (fun T3 h3 X3 e3 W3 => ?_)
  have f_V_d := Arv.set Ar2 q2 S2 M2 H2 G2 (fits_nar_byte _) W3 0 rfl (Nat.le_of_ble_eq_true rfl)
  have f_V_d : Arv Z h3 d kd .byte (2 : Int32) [(.int ((c0.toInt8.toInt32).toInt8.toInt32)), (.int (0 : Int32))] (.int (0 : Int32)) := f_V_d
  rw [own_b8 c0] at f_V_d
  have f_V_w := f_V_w.other W3 ne_w_d
  have Zn := Nat.le_trans Z0 (Keep.of_wr W3).1
  have Kp := Kp.wr W3 (Or.inl (List.mem_of_getElem? (i := 0) rfl))
  have N3 := Fr.snoc X3 N0 ge_d
  refine own_iinc X3 hx hby d9_32 (pc' := 35) rfl rfl (y := (1 : Int32)) (by decide) (l' := #[.val (.ref w), .val (.int (1 : Int32)), .val (.ref d), .val (.int (0 : Int32)), .val (.int (2 : Int32)), .val (.int (0 : Int32)), .val (.int c0)]) rfl ?_
  refine own_iinc X3 hx hby d9_35 (pc' := 38) rfl rfl (y := (1 : Int32)) (by decide) (l' := #[.val (.ref w), .val (.int (1 : Int32)), .val (.ref d), .val (.int (1 : Int32)), .val (.int (2 : Int32)), .val (.int (0 : Int32)), .val (.int c0)]) rfl ?_
  refine own_iinc X3 hx hby d9_38 (pc' := 41) rfl rfl (y := (1 : Int32)) (by decide) (l' := #[.val (.ref w), .val (.int (1 : Int32)), .val (.ref d), .val (.int (1 : Int32)), .val (.int (2 : Int32)), .val (.int (1 : Int32)), .val (.int c0)]) rfl ?_
  refine own_goto X3 hx hby d9_41 (pc' := 3) (by decide) (by decide) ?_
  refine own_iload X3 hx hby d9_3 (pc' := 5) rfl rfl ?_
  refine own_iload X3 hx hby d9_5 (pc' := 7) rfl rfl ?_
  refine own_icN X3 hx hby d9_7 (pc' := 10) rfl (show (1 : Int32) < (2 : Int32) by decide) ?_
  refine own_aloadN X3 hx hby d9_10 (pc' := 11) rfl rfl rfl ?_
  refine own_iloadN X3 hx hby d9_11 (pc' := 12) rfl rfl ?_
  obtain ⟨cl4, Ar4, q4, S4, M4, H4, G4⟩ := id f_V_w
  have hin4 : ¬ ((1 : Int32) < 0 ∨ cl4.slots.size ≤ ((1 : Int32)).toNatClampNeg) := inb_of S4 ⟨by decide, by decide⟩
  have hat4 : cl4.slots[((1 : Int32)).toNatClampNeg]? = some (.int c1) := H4.at hin4 rfl
  refine own_caload X3 hx hZ hby e3 Ar4 hin4 hat4 d9_12 (pc' := 13) rfl ?_
  refine own_istore X3 hx hby d9_13 (pc' := 15) rfl (l' := #[.val (.ref w), .val (.int (1 : Int32)), .val (.ref d), .val (.int (1 : Int32)), .val (.int (2 : Int32)), .val (.int (1 : Int32)), .val (.int c1)]) rfl ?_
  refine own_iload X3 hx hby d9_15 (pc' := 17) rfl rfl ?_
  refine own_sipush X3 hx hby d9_17 (pc' := 20) rfl (n := (255 : Int32)) (by decide) ?_
  refine own_icY X3 hx hby d9_20 (pc' := 26) (by decide) (by decide) (show ¬ (255 : Int32) < c1 from hc1') ?_
  refine own_aloadN X3 hx hby d9_26 (pc' := 27) rfl rfl rfl ?_
  refine own_iloadN X3 hx hby d9_27 (pc' := 28) rfl rfl ?_
  refine own_iload X3 hx hby d9_28 (pc' := 30) rfl rfl ?_
  refine own_i2b X3 hx hby d9_30 (pc' := 31) rfl ?_
  obtain ⟨cl5, Ar5, q5, S5, M5, H5, G5⟩ := id f_V_d
  have hin5 : ¬ ((1 : Int32) < 0 ∨ cl5.slots.size ≤ ((1 : Int32)).toNatClampNeg) := inb_of S5 ⟨by decide, by decide⟩
  refine own_bastore X3 hx hZ hby e3 Ar5 hin5 d9_31 (pc' := 32) rfl (fun T6 h6 X6 e6 W6 => ?_)
  have f_V_d := Arv.set Ar5 q5 S5 M5 H5 G5 (fits_nar_byte _) W6 1 rfl (Nat.le_of_ble_eq_true rfl)
  have f_V_d : Arv Z h6 d kd .byte (2 : Int32) [(.int (c0.toInt8.toInt32)), (.int ((c1.toInt8.toInt32).toInt8.toInt32))] (.int (0 : Int32)) := f_V_d
  rw [own_b8 c1] at f_V_d
  have f_V_w := f_V_w.other W6 ne_w_d
  have Zn := Nat.le_trans Zn (Keep.of_wr W6).1
  have Kp := Kp.wr W6 (Or.inl (List.mem_of_getElem? (i := 0) rfl))
  have N6 := Fr.snoc X6 N3 ge_d
  refine own_iinc X6 hx hby d9_32 (pc' := 35) rfl rfl (y := (2 : Int32)) (by decide) (l' := #[.val (.ref w), .val (.int (2 : Int32)), .val (.ref d), .val (.int (1 : Int32)), .val (.int (2 : Int32)), .val (.int (1 : Int32)), .val (.int c1)]) rfl ?_
  refine own_iinc X6 hx hby d9_35 (pc' := 38) rfl rfl (y := (2 : Int32)) (by decide) (l' := #[.val (.ref w), .val (.int (2 : Int32)), .val (.ref d), .val (.int (2 : Int32)), .val (.int (2 : Int32)), .val (.int (1 : Int32)), .val (.int c1)]) rfl ?_
  refine own_iinc X6 hx hby d9_38 (pc' := 41) rfl rfl (y := (2 : Int32)) (by decide) (l' := #[.val (.ref w), .val (.int (2 : Int32)), .val (.ref d), .val (.int (2 : Int32)), .val (.int (2 : Int32)), .val (.int (2 : Int32)), .val (.int c1)]) rfl ?_
  refine own_goto X6 hx hby d9_41 (pc' := 3) (by decide) (by decide) ?_
  refine own_iload X6 hx hby d9_3 (pc' := 5) rfl rfl ?_
  refine own_iload X6 hx hby d9_5 (pc' := 7) rfl rfl ?_
  refine own_icY X6 hx hby d9_7 (pc' := 44) (by decide) (by decide) (show ¬ (2 : Int32) < (2 : Int32) by decide) ?_
  refine own_iload X6 hx hby d9_44 (pc' := 46) rfl rfl ?_
  refine own_ireturn X6 hx hlk hby hret d9_46 (own_lv ?_ (by decide) (by decide))
  show Q9_2 Z w d kw kd c0 c1  h0 n0 (some (.int (2 : Int32))) T6.heap _
  rw [e6]
  exact ⟨rfl, N6, Kp, f_V_d⟩
theorem own_ef_rm8_2 (m : MethodId) (w : Addr)  : entryFrame m #[(.ref w), (.int (0 : Int32)), (.int (2 : Int32))] 6 = mkF m 0 #[.val (.ref w), .val (.int (0 : Int32)), .val (.int (2 : Int32)), .unset, .unset, .unset] [] := by first | (simp [entryFrame, mkF, argsToLocals, Value.category]; done) | rfl
def Q8_2 (Z : State) (w : Addr) (kw : ClassId) (c0 : Int32) (c1 : Int32) (h0 : Heap) (n0 : Nat) (v : Option Value) (h : Heap) (L : List Loc) : Prop := ∃ (d : Addr) (kd : ClassId), v = some (.ref d) ∧ Fr n0 L ∧ Keep h0 h [] ∧ h0.size ≤ d ∧ Arv Z h d kd .byte (2 : Int32) [(.int (c0.toInt8.toInt32)), (.int (c1.toInt8.toInt32))] (.int (0 : Int32))
set_option maxRecDepth 65536 in
set_option maxHeartbeats 40000000 in
theorem rm8_2 (l : Launch) (Z : State) (a0 : Array Value) (hw : ∀ d ∈ tables_1, d.before a0 Z = true) (ws : List Jvm.Cond) (w : Addr) (kw : ClassId) (c0 : Int32) (c1 : Int32) (h0 : Heap) (n0 : Nat) (Z0 : n0 ≤ h0.size) (f_V_w : Arv Z h0 w kw .char (2 : Int32) [(.int c0), (.int c1)] (.int (0 : Int32))) (hc0' : ¬ (255 : Int32) < c0) (hc1' : ¬ (255 : Int32) < c1) :
    MetFree l (⟨"java/lang/StringUTF16", "compress", "([CII)[B"⟩ : MethodName) (head1 (Jvm.Cond.code (⟨"java/lang/StringUTF16", "compress", "([CII)[B"⟩ : MethodName) jdk_52_method_16_code 6 (some (.array .byte)) :: ws) ({ frames := 1, cells := 1, slots := 2, locals := 18 } : Room)) (fun aa U => aa = #[(.ref w), (.int (0 : Int32)), (.int (2 : Int32))] ∧ Z.Warmed39 U.vm ∧ U.heap = h0) (fun _ _ _ _ _ => True) (fun _ U oc U' => ∃ v L, oc = .returned v ∧ Q8_2 Z w kw c0 c1 h0 n0 v U'.heap L ∧ FrameEnd U oc U' L ({ frames := 1, cells := 1, slots := 2, locals := 18 } : Room).cells ({ frames := 1, cells := 1, slots := 2, locals := 18 } : Room).slots) := by
  refine MetFree.of_bodySF (plainFor_of_name own_pn2) hisR ?_
  intro p e s m args below meth c s₁ Bd hml0 hP hK
  obtain ⟨rfl, hZ, hh⟩ := hP
  have hx := Bd.exec
  have hby := Bd.bytes
  have hlk := Bd.notSynchronized
  have hret := Bd.returns
  have hml : c.maxLocals = 6 := hml0
  have hown : s.vm.findClass "java/lang/StringUTF16" = some m.cls := findClass_of_methodNamed Bd.named
  have hnm := (name_of_methodNamed Bd.named Bd.method).1
  have X0 : Stand p l e ({ frames := 1, cells := 1, slots := 2, locals := 18 } : Room) s m #[(.ref w), (.int (0 : Int32)), (.int (2 : Int32))] below meth c s₁ [] 0 0 := Stand.of_body Bd
  have e0 : s₁.heap = h0 := by rw [← hh, Bd.state]; rfl
  have N0 := Fr.nil n0
  refine own_body (Q := Q8_2 Z w kw c0 c1 h0 n0) (KC := ({ frames := 1, cells := 1, slots := 2, locals := 18 } : Room).cells) (KS := ({ frames := 1, cells := 1, slots := 2, locals := 18 } : Room).slots) ?_
  rw [own_ef_rm8_2 m w]
  have Kp : Keep h0 h0 [] := Keep.refl h0 _
  refine own_iloadN X0 hx hby d8_0 (pc' := 1) rfl rfl ?_
  refine own_newP (aty := .byte) X0 hx hZ hby (wd_15 hw) e0 d8_1 (pc' := 3) rfl (by decide) (cap := 2) (by decide) (by decide) (by decide) (by decide) (fun T1 h1 k1 b1 g1 X1 e1 E1 A1 => ?_)
  have ne_w_b1 : w ≠ b1 := Nat.ne_of_lt (by rw [g1]; exact f_V_w.lt)
  have ge_b1 : n0 ≤ b1 := by rw [g1]; exact Z0
  have sz_b1 : h0.size ≤ b1 := by rw [g1]; exact Kp.1
  have f_V_w := f_V_w.ext E1
  have Zn := Nat.le_trans Z0 E1.1
  have Kp := Kp.ext E1
  have f_V_b1 : Arv Z h1 b1 k1 .byte (2 : Int32) [(.int (0 : Int32)), (.int (0 : Int32))] (.int (0 : Int32)) := (Arv.new A1 (by decide)).pad (pad_rep [] (.int (0 : Int32)) 2)
  refine own_astoreN X1 hx hby d8_3 (pc' := 4) rfl rfl (l' := #[.val (.ref w), .val (.int (0 : Int32)), .val (.int (2 : Int32)), .val (.ref b1), .unset, .unset]) rfl ?_
  refine own_aloadN X1 hx hby d8_4 (pc' := 5) rfl rfl rfl ?_
  refine own_iloadN X1 hx hby d8_5 (pc' := 6) rfl rfl ?_
  refine own_aloadN X1 hx hby d8_6 (pc' := 7) rfl rfl rfl ?_
  refine own_iconst X1 hx hby d8_7 (pc' := 8) rfl (n := (0 : Int32)) (by decide) ?_
  refine own_iloadN X1 hx hby d8_8 (pc' := 9) rfl rfl ?_
  refine own_lk1 hw X1 hx hZ hby (by rw [hml]; rfl) hown d8_9 (pc' := 12) rfl e1 (W := 0) (Nat.le_of_eq rfl) (rm9_2 l Z a0 hw [] w b1 kw k1 c0 c1 h1 n0 Zn f_V_w f_V_b1 ge_b1 ne_w_b1 hc0' hc1') (by decide) (by decide) (by decide) (by decide) (fun v2 T2 L2 X2 hQ2 => ?_)
  obtain ⟨rfl, Nq2, K2, V2⟩ := hQ2
  have N2 := Fr.app N0 Nq2
  have f_V_w := f_V_w.keep K2 (ninS ne_w_b1 nin0)
  have Zn := Nat.le_trans Zn K2.1
  have Kp := Kp.trans K2 (allS (Or.inr sz_b1) all0)
  show own_End p e below _ (T2.setTop (mkF m 12 _ [(.int (2 : Int32))]))
  refine own_istore X2 hx hby d8_12 (pc' := 14) rfl (l' := #[.val (.ref w), .val (.int (0 : Int32)), .val (.int (2 : Int32)), .val (.ref b1), .val (.int (2 : Int32)), .unset]) rfl ?_
  refine own_iload X2 hx hby d8_14 (pc' := 16) rfl rfl ?_
  refine own_iloadN X2 hx hby d8_16 (pc' := 17) rfl rfl ?_
  refine own_icY X2 hx hby d8_17 (pc' := 57) (by decide) (by decide) (show (2 : Int32) = (2 : Int32) by decide) ?_
  refine own_aloadN X2 hx hby d8_57 (pc' := 58) rfl rfl rfl ?_
  refine own_areturn X2 hx hlk hby hret rfl rfl d8_58 (own_lv ?_ (by decide) (by decide))
  show Q8_2 Z w kw c0 c1  h0 n0 (some (.ref b1)) T2.heap _
  exact ⟨_, _, rfl, N2, Kp, sz_b1, V2⟩
theorem own_ef_rm10_2 (m : MethodId) (d : Addr)  : entryFrame m #[(.ref d), (.int (2 : Int32))] 2 = mkF m 0 #[.val (.ref d), .val (.int (2 : Int32))] [] := by first | (simp [entryFrame, mkF, argsToLocals, Value.category]; done) | rfl
def Q10_2 (Z : State) (d : Addr) (kd : ClassId) (vs : List Value) (h0 : Heap) (n0 : Nat) (v : Option Value) (h : Heap) (L : List Loc) : Prop := v = some (.int 0) ∧ Fr n0 L ∧ h = h0
set_option maxRecDepth 65536 in
set_option maxHeartbeats 40000000 in
theorem rm10_2 (l : Launch) (Z : State) (a0 : Array Value) (hw : ∀ d ∈ tables_1, d.before a0 Z = true) (ws : List Jvm.Cond) (d : Addr) (kd : ClassId) (vs : List Value) (h0 : Heap) (n0 : Nat) (Z0 : n0 ≤ h0.size) (f_V_d : Arv Z h0 d kd .byte (2 : Int32) vs (.int (0 : Int32))) :
    MetFree l (⟨"java/lang/StringUTF16", "coderFromArrayLen", "([BI)B"⟩ : MethodName) (head1 (Jvm.Cond.code (⟨"java/lang/StringUTF16", "coderFromArrayLen", "([BI)B"⟩ : MethodName) jdk_52_method_15_code 2 (some .byte) :: ws) ({ frames := 0, cells := 0, slots := 0, locals := 0 } : Room)) (fun aa U => aa = #[(.ref d), (.int (2 : Int32))] ∧ Z.Warmed39 U.vm ∧ U.heap = h0) (fun _ _ _ _ _ => True) (fun _ U oc U' => ∃ v L, oc = .returned v ∧ Q10_2 Z d kd vs h0 n0 v U'.heap L ∧ FrameEnd U oc U' L ({ frames := 0, cells := 0, slots := 0, locals := 0 } : Room).cells ({ frames := 0, cells := 0, slots := 0, locals := 0 } : Room).slots) := by
  refine MetFree.of_bodySF (plainFor_of_name own_pn2) hisR ?_
  intro p e s m args below meth c s₁ Bd hml0 hP hK
  obtain ⟨rfl, hZ, hh⟩ := hP
  have hx := Bd.exec
  have hby := Bd.bytes
  have hlk := Bd.notSynchronized
  have hret := Bd.returns
  have hml : c.maxLocals = 2 := hml0
  have hown : s.vm.findClass "java/lang/StringUTF16" = some m.cls := findClass_of_methodNamed Bd.named
  have hnm := (name_of_methodNamed Bd.named Bd.method).1
  have X0 : Stand p l e ({ frames := 0, cells := 0, slots := 0, locals := 0 } : Room) s m #[(.ref d), (.int (2 : Int32))] below meth c s₁ [] 0 0 := Stand.of_body Bd
  have e0 : s₁.heap = h0 := by rw [← hh, Bd.state]; rfl
  have N0 := Fr.nil n0
  refine own_body (Q := Q10_2 Z d kd vs h0 n0) (KC := ({ frames := 0, cells := 0, slots := 0, locals := 0 } : Room).cells) (KS := ({ frames := 0, cells := 0, slots := 0, locals := 0 } : Room).slots) ?_
  rw [own_ef_rm10_2 m d]
  refine own_iloadN X0 hx hby d10_0 (pc' := 1) rfl rfl ?_
  refine own_aloadN X0 hx hby d10_1 (pc' := 2) rfl rfl rfl ?_
  obtain ⟨cl1, Ar1, q1, S1, M1, H1, G1⟩ := id f_V_d
  refine own_alen X0 hx hZ hby e0 Ar1 S1 M1 d10_2 (pc' := 3) rfl ?_
  refine own_isub X0 hx hby d10_3 (pc' := 4) rfl ?_
  refine own_bipush X0 hx hby d10_4 (pc' := 6) rfl (n := (31 : Int32)) (by decide) ?_
  refine own_iushr X0 hx hby d10_6 (pc' := 7) rfl ?_
  refine own_i2b X0 hx hby d10_7 (pc' := 8) rfl ?_
  show own_End p e below _ (s₁.setTop (mkF m 8 #[.val (.ref d), .val (.int (2 : Int32))] [(.int (0 : Int32))]))
  refine own_breturn X0 hx hlk hby hret (by decide) d10_8 (own_lv ?_ (by decide) (by decide))
  show Q10_2 Z d kd vs  h0 n0 (some (.int (0 : Int32))) s₁.heap _
  rw [e0]
  exact ⟨rfl, N0, rfl⟩
theorem own_ef_rm2_2 (m : MethodId) (a : Addr) (w : Addr)  : entryFrame m #[(.ref a), (.ref w), (.int (0 : Int32)), (.int (2 : Int32)), .null] 6 = mkF m 0 #[.val (.ref a), .val (.ref w), .val (.int (0 : Int32)), .val (.int (2 : Int32)), .val .null, .unset] [] := by first | (simp [entryFrame, mkF, argsToLocals, Value.category]; done) | rfl
def Q2_2 (Z : State) (a : Addr) (w : Addr) (kw : ClassId) (cs : Int32) (c0 : Int32) (c1 : Int32) (h0 : Heap) (n0 : Nat) (v : Option Value) (h : Heap) (L : List Loc) : Prop := v = none ∧ Fr n0 L ∧ Keep h0 h [a] ∧ ∃ (d : Addr) (kd : ClassId), h0.size ≤ d ∧ own_SO Z h a (.ref d) 0 ∧ Arv Z h d kd .byte (2 : Int32) [(.int (c0.toInt8.toInt32)), (.int (c1.toInt8.toInt32))] (.int (0 : Int32))
set_option maxRecDepth 65536 in
set_option maxHeartbeats 40000000 in
theorem rm2_2 (l : Launch) (Z : State) (a0 : Array Value) (hw : ∀ d ∈ tables_1, d.before a0 Z = true) (ws : List Jvm.Cond) (a : Addr) (w : Addr) (kw : ClassId) (cs : Int32) (c0 : Int32) (c1 : Int32) (h0 : Heap) (n0 : Nat) (Z0 : n0 ≤ h0.size) (f_O_a : own_SO Z h0 a .null (0 : Int32)) (ge_a : n0 ≤ a) (f_V_w : Arv Z h0 w kw .char (2 : Int32) [(.int c0), (.int c1)] (.int (0 : Int32))) (ne_a_w : a ≠ w) (f_S_java_lang_String_COMPACT_STRINGS : Sta Z h0 "java/lang/String" "COMPACT_STRINGS" "Z" (.int cs)) (hcs : ¬ cs = (0 : Int32)) (hc0' : ¬ (255 : Int32) < c0) (hc1' : ¬ (255 : Int32) < c1) :
    MetFree l (⟨"java/lang/String", "<init>", "([CIILjava/lang/Void;)V"⟩ : MethodName) (head1 (Jvm.Cond.code (⟨"java/lang/String", "<init>", "([CIILjava/lang/Void;)V"⟩ : MethodName) jdk_42_method_149_code 6 none :: ws) ({ frames := 2, cells := 1, slots := 2, locals := 35 } : Room)) (fun aa U => aa = #[(.ref a), (.ref w), (.int (0 : Int32)), (.int (2 : Int32)), .null] ∧ Z.Warmed39 U.vm ∧ U.heap = h0) (fun _ _ _ _ _ => True) (fun _ U oc U' => ∃ v L, oc = .returned v ∧ Q2_2 Z a w kw cs c0 c1 h0 n0 v U'.heap L ∧ FrameEnd U oc U' L ({ frames := 2, cells := 1, slots := 2, locals := 35 } : Room).cells ({ frames := 2, cells := 1, slots := 2, locals := 35 } : Room).slots) := by
  refine MetFree.of_bodySF (plainFor_of_name own_pn0) hisR ?_
  intro p e s m args below meth c s₁ Bd hml0 hP hK
  obtain ⟨rfl, hZ, hh⟩ := hP
  have hx := Bd.exec
  have hby := Bd.bytes
  have hlk := Bd.notSynchronized
  have hret := Bd.returns
  have hml : c.maxLocals = 6 := hml0
  have hown : s.vm.findClass "java/lang/String" = some m.cls := findClass_of_methodNamed Bd.named
  have hnm := (name_of_methodNamed Bd.named Bd.method).1
  have X0 : Stand p l e ({ frames := 2, cells := 1, slots := 2, locals := 35 } : Room) s m #[(.ref a), (.ref w), (.int (0 : Int32)), (.int (2 : Int32)), .null] below meth c s₁ [] 0 0 := Stand.of_body Bd
  have e0 : s₁.heap = h0 := by rw [← hh, Bd.state]; rfl
  have N0 := Fr.nil n0
  refine own_body (Q := Q2_2 Z a w kw cs c0 c1 h0 n0) (KC := ({ frames := 2, cells := 1, slots := 2, locals := 35 } : Room).cells) (KS := ({ frames := 2, cells := 1, slots := 2, locals := 35 } : Room).slots) ?_
  rw [own_ef_rm2_2 m a w]
  have Kp : Keep h0 h0 [a] := Keep.refl h0 _
  refine own_aloadN X0 hx hby d2_0 (pc' := 1) rfl rfl rfl ?_
  refine own_init X0 hx hZ hby hown (wd_11 hw) (wd_12 hw) (wd_13 hw) e0 (by rw [hml]; rfl) d2_1 (pc' := 4) rfl (by decide) (W := 0) (Nat.le_of_eq rfl) (by decide) (fun T1 X1 e1 => ?_)
  refine own_iloadN X1 hx hby d2_4 (pc' := 5) rfl rfl ?_
  refine own_ifY X1 hx hby d2_5 (pc' := 27) (by decide) (by decide) (show ¬ (2 : Int32) = (0 : Int32) by decide) ?_
  refine own_getS X1 hx hZ hby hown (host := "") (Or.inl (wd_50 hw)) Via.refl e1 f_S_java_lang_String_COMPACT_STRINGS d2_27 (pc' := 30) rfl (fun T2 X2 e2 => ?_)
  refine own_ifN X2 hx hby d2_30 (pc' := 33) rfl (show ¬ cs = (0 : Int32) from hcs) ?_
  refine own_aloadN X2 hx hby d2_33 (pc' := 34) rfl rfl rfl ?_
  refine own_iloadN X2 hx hby d2_34 (pc' := 35) rfl rfl ?_
  refine own_iloadN X2 hx hby d2_35 (pc' := 36) rfl rfl ?_
  have lt_a := f_O_a.lt
  have lt_w := f_V_w.lt
  have Zold := Z0
  have Kold := Kp
  refine own_lk2 hw X2 hx hZ hby (by rw [hml]; rfl) hown d2_36 (pc' := 39) rfl e2 (W := 0) (Nat.le_of_eq rfl) (rm8_2 l Z a0 hw [] w kw c0 c1 h0 n0 Z0 f_V_w hc0' hc1') (by decide) (by decide) (by decide) (by decide) (fun v4 T4 L4 X4 hQ4 => ?_)
  obtain ⟨d3, kd3, rfl, Nq4, K4, gd4, V4⟩ := hQ4
  have N4 := Fr.app N0 Nq4
  have f_S_java_lang_String_COMPACT_STRINGS := own_sta0 f_S_java_lang_String_COMPACT_STRINGS K4
  have f_O_a := f_O_a.keep K4 nin0
  have f_V_w := f_V_w.keep K4 nin0
  have Zn := Nat.le_trans Z0 K4.1
  have Kp := Kp.trans K4 all0
  have ne_a_d3 : a ≠ d3 := Nat.ne_of_lt (Nat.lt_of_lt_of_le lt_a gd4)
  have ne_w_d3 : w ≠ d3 := Nat.ne_of_lt (Nat.lt_of_lt_of_le lt_w gd4)
  have ge_d3 : n0 ≤ d3 := Nat.le_trans Zold gd4
  have sz_d3 : h0.size ≤ d3 := Nat.le_trans Kold.1 gd4
  show own_End p e below _ (T4.setTop (mkF m 39 _ [(.ref d3)]))
  refine own_astore X4 hx hby d2_39 (pc' := 41) rfl rfl (l' := #[.val (.ref a), .val (.ref w), .val (.int (0 : Int32)), .val (.int (2 : Int32)), .val .null, .val (.ref d3)]) rfl ?_
  refine own_aloadN X4 hx hby d2_41 (pc' := 42) rfl rfl rfl ?_
  refine own_aload X4 hx hby d2_42 (pc' := 44) rfl rfl rfl ?_
  refine own_iloadN X4 hx hby d2_44 (pc' := 45) rfl rfl ?_
  refine own_lk3 hw X4 hx hZ hby (by rw [hml]; rfl) hown d2_45 (pc' := 48) rfl rfl (W := 1) (Nat.le_of_eq rfl) (rm10_2 l Z a0 hw [] d3 kd3 [(.int (c0.toInt8.toInt32)), (.int (c1.toInt8.toInt32))] T4.heap n0 Zn V4) (by decide) (by decide) (by decide) (by decide) (fun v5 T5 L5 X5 hQ5 => ?_)
  obtain ⟨rfl, Nq5, e5⟩ := hQ5
  have N5 := Fr.app N4 Nq5
  show own_End p e below _ (T5.setTop (mkF m 48 _ [(.int (0 : Int32)), (.ref a)]))
  obtain ⟨f_E_a, f_F_a_value, f_F_a_coder⟩ := f_O_a
  refine own_putN X5 hx hZ hby hown (wd_21 hw) Via.refl e5 f_F_a_coder f_E_a (Or.inr ⟨(wd_17 hw), rfl, hnm⟩) (wd_2 hw) (ty := .byte) (v' := (.int (0 : Int32))) (by decide) rfl (by decide) d2_48 (pc' := 51) rfl (fun T6 h6 X6 e6 W6 => ?_)
  have f_F_a_coder := f_F_a_coder.same W6
  have f_V_w := f_V_w.other W6 (Ne.symm ne_a_w)
  have f_S_java_lang_String_COMPACT_STRINGS := f_S_java_lang_String_COMPACT_STRINGS.wr W6
  have V4 := V4.other W6 (Ne.symm ne_a_d3)
  have f_E_a := f_E_a.wr W6
  have f_F_a_value := f_F_a_value.other W6 (Or.inr (slot_ne (Or.inr (wd_16 hw)) (Or.inr (wd_17 hw)) (by decide) (t := (.array .byte)) (t' := .byte) (by decide) (by decide)))
  have Zn := Nat.le_trans Zn (Keep.of_wr W6).1
  have Kp := Kp.wr W6 (Or.inl (List.mem_of_getElem? (i := 0) rfl))
  have N6 := Fr.snoc X6 N5 ge_a
  refine own_aloadN X6 hx hby d2_51 (pc' := 52) rfl rfl rfl ?_
  refine own_aload X6 hx hby d2_52 (pc' := 54) rfl rfl rfl ?_
  refine own_putF X6 hx hZ hby hown (host := "") (Or.inl (wd_20 hw)) Via.refl e6 f_F_a_value f_E_a (Or.inr ⟨(wd_16 hw), rfl, hnm⟩) (wd_2 hw) (ty := (.array .byte)) (by decide) rfl rfl d2_54 (pc' := 57) rfl (fun T7 h7 X7 e7 W7 => ?_)
  have f_F_a_value := f_F_a_value.same W7
  have f_V_w := f_V_w.other W7 (Ne.symm ne_a_w)
  have f_S_java_lang_String_COMPACT_STRINGS := f_S_java_lang_String_COMPACT_STRINGS.wr W7
  have V4 := V4.other W7 (Ne.symm ne_a_d3)
  have f_E_a := f_E_a.wr W7
  have f_F_a_coder := f_F_a_coder.other W7 (Or.inr (slot_ne (Or.inr (wd_17 hw)) (Or.inr (wd_16 hw)) (by decide) (t := .byte) (t' := (.array .byte)) (by decide) (by decide)))
  have Zn := Nat.le_trans Zn (Keep.of_wr W7).1
  have Kp := Kp.wr W7 (Or.inl (List.mem_of_getElem? (i := 0) rfl))
  have N7 := Fr.snoc X7 N6 ge_a
  refine own_return X7 hx hlk hby hret d2_57 (own_lv ?_ (by decide) (by decide))
  show Q2_2 Z a w kw cs c0 c1  h0 n0 none T7.heap _
  rw [e7]
  exact ⟨rfl, N7, Kp, d3, _, sz_d3, ⟨f_E_a, f_F_a_value, f_F_a_coder⟩, V4⟩
theorem own_ef_rm1_2 (m : MethodId) (a : Addr) (w : Addr)  : entryFrame m #[(.ref a), (.ref w)] 2 = mkF m 0 #[.val (.ref a), .val (.ref w)] [] := by first | (simp [entryFrame, mkF, argsToLocals, Value.category]; done) | rfl
def Q1_2 (Z : State) (a : Addr) (w : Addr) (kw : ClassId) (cs : Int32) (c0 : Int32) (c1 : Int32) (h0 : Heap) (n0 : Nat) (v : Option Value) (h : Heap) (L : List Loc) : Prop := v = none ∧ Fr n0 L ∧ Keep h0 h [a] ∧ ∃ (d : Addr) (kd : ClassId), h0.size ≤ d ∧ own_SO Z h a (.ref d) 0 ∧ Arv Z h d kd .byte (2 : Int32) [(.int (c0.toInt8.toInt32)), (.int (c1.toInt8.toInt32))] (.int (0 : Int32))
set_option maxRecDepth 65536 in
set_option maxHeartbeats 40000000 in
theorem rm1_2 (l : Launch) (Z : State) (a0 : Array Value) (hw : ∀ d ∈ tables_1, d.before a0 Z = true) (ws : List Jvm.Cond) (a : Addr) (w : Addr) (kw : ClassId) (cs : Int32) (c0 : Int32) (c1 : Int32) (h0 : Heap) (n0 : Nat) (Z0 : n0 ≤ h0.size) (f_O_a : own_SO Z h0 a .null (0 : Int32)) (ge_a : n0 ≤ a) (f_V_w : Arv Z h0 w kw .char (2 : Int32) [(.int c0), (.int c1)] (.int (0 : Int32))) (ne_a_w : a ≠ w) (f_S_java_lang_String_COMPACT_STRINGS : Sta Z h0 "java/lang/String" "COMPACT_STRINGS" "Z" (.int cs)) (hcs : ¬ cs = (0 : Int32)) (hc0' : ¬ (255 : Int32) < c0) (hc1' : ¬ (255 : Int32) < c1) :
    MetFree l (⟨"java/lang/String", "<init>", "([C)V"⟩ : MethodName) (head1 (Jvm.Cond.code (⟨"java/lang/String", "<init>", "([C)V"⟩ : MethodName) jdk_42_method_3_code 2 none :: ws) ({ frames := 3, cells := 1, slots := 2, locals := 52 } : Room)) (fun aa U => aa = #[(.ref a), (.ref w)] ∧ Z.Warmed39 U.vm ∧ U.heap = h0) (fun _ _ _ _ _ => True) (fun _ U oc U' => ∃ v L, oc = .returned v ∧ Q1_2 Z a w kw cs c0 c1 h0 n0 v U'.heap L ∧ FrameEnd U oc U' L ({ frames := 3, cells := 1, slots := 2, locals := 52 } : Room).cells ({ frames := 3, cells := 1, slots := 2, locals := 52 } : Room).slots) := by
  refine MetFree.of_bodySF (plainFor_of_name own_pn0) hisR ?_
  intro p e s m args below meth c s₁ Bd hml0 hP hK
  obtain ⟨rfl, hZ, hh⟩ := hP
  have hx := Bd.exec
  have hby := Bd.bytes
  have hlk := Bd.notSynchronized
  have hret := Bd.returns
  have hml : c.maxLocals = 2 := hml0
  have hown : s.vm.findClass "java/lang/String" = some m.cls := findClass_of_methodNamed Bd.named
  have hnm := (name_of_methodNamed Bd.named Bd.method).1
  have X0 : Stand p l e ({ frames := 3, cells := 1, slots := 2, locals := 52 } : Room) s m #[(.ref a), (.ref w)] below meth c s₁ [] 0 0 := Stand.of_body Bd
  have e0 : s₁.heap = h0 := by rw [← hh, Bd.state]; rfl
  have N0 := Fr.nil n0
  refine own_body (Q := Q1_2 Z a w kw cs c0 c1 h0 n0) (KC := ({ frames := 3, cells := 1, slots := 2, locals := 52 } : Room).cells) (KS := ({ frames := 3, cells := 1, slots := 2, locals := 52 } : Room).slots) ?_
  rw [own_ef_rm1_2 m a w]
  have Kp : Keep h0 h0 [a] := Keep.refl h0 _
  refine own_aloadN X0 hx hby d1_0 (pc' := 1) rfl rfl rfl ?_
  refine own_aloadN X0 hx hby d1_1 (pc' := 2) rfl rfl rfl ?_
  refine own_iconst X0 hx hby d1_2 (pc' := 3) rfl (n := (0 : Int32)) (by decide) ?_
  refine own_aloadN X0 hx hby d1_3 (pc' := 4) rfl rfl rfl ?_
  obtain ⟨cl1, Ar1, q1, S1, M1, H1, G1⟩ := id f_V_w
  refine own_alen X0 hx hZ hby e0 Ar1 S1 M1 d1_4 (pc' := 5) rfl ?_
  refine own_aconst_null X0 hx hby d1_5 (pc' := 6) rfl ?_
  have lt_a := f_O_a.lt
  have lt_w := f_V_w.lt
  have Zold := Z0
  have Kold := Kp
  refine own_lk4 hw X0 hx hZ hby (by rw [hml]; rfl) hown d1_6 (pc' := 9) rfl e0 (W := 0) (Nat.le_of_eq rfl) (rm2_2 l Z a0 hw [] a w kw cs c0 c1 h0 n0 Z0 f_O_a ge_a f_V_w ne_a_w f_S_java_lang_String_COMPACT_STRINGS hcs hc0' hc1') (by decide) (by decide) (by decide) (by decide) (fun v3 T3 L3 X3 hQ3 => ?_)
  obtain ⟨rfl, Nq3, K3, d2, kd2, gd3, O3, V3⟩ := hQ3
  have N3 := Fr.app N0 Nq3
  have f_S_java_lang_String_COMPACT_STRINGS := own_sta1 f_S_java_lang_String_COMPACT_STRINGS K3 f_O_a.1
  have f_V_w := f_V_w.keep K3 (ninS (Ne.symm ne_a_w) nin0)
  have Zn := Nat.le_trans Z0 K3.1
  have Kp := Kp.trans K3 (allS (Or.inl (List.mem_of_getElem? (i := 0) rfl)) all0)
  have ne_a_d2 : a ≠ d2 := Nat.ne_of_lt (Nat.lt_of_lt_of_le lt_a gd3)
  have ne_w_d2 : w ≠ d2 := Nat.ne_of_lt (Nat.lt_of_lt_of_le lt_w gd3)
  have sz_d2 : h0.size ≤ d2 := Nat.le_trans Kold.1 gd3
  show own_End p e below _ (T3.setTop (mkF m 9 _ []))
  refine own_return X3 hx hlk hby hret d1_9 (own_lv ?_ (by decide) (by decide))
  show Q1_2 Z a w kw cs c0 c1  h0 n0 none T3.heap _
  exact ⟨rfl, N3, Kp, d2, _, sz_d2, O3, V3⟩
theorem own_ef_rm9_3 (m : MethodId) (w : Addr) (d : Addr)  : entryFrame m #[(.ref w), (.int (0 : Int32)), (.ref d), (.int (0 : Int32)), (.int (3 : Int32))] 7 = mkF m 0 #[.val (.ref w), .val (.int (0 : Int32)), .val (.ref d), .val (.int (0 : Int32)), .val (.int (3 : Int32)), .unset, .unset] [] := by first | (simp [entryFrame, mkF, argsToLocals, Value.category]; done) | rfl
def Q9_3 (Z : State) (w : Addr) (d : Addr) (kw : ClassId) (kd : ClassId) (c0 : Int32) (c1 : Int32) (c2 : Int32) (h0 : Heap) (n0 : Nat) (v : Option Value) (h : Heap) (L : List Loc) : Prop := v = some (.int 3) ∧ Fr n0 L ∧ Keep h0 h [d] ∧ Arv Z h d kd .byte (3 : Int32) [(.int (c0.toInt8.toInt32)), (.int (c1.toInt8.toInt32)), (.int (c2.toInt8.toInt32))] (.int (0 : Int32))
set_option maxRecDepth 65536 in
set_option maxHeartbeats 40000000 in
theorem rm9_3 (l : Launch) (Z : State) (a0 : Array Value) (hw : ∀ d ∈ tables_1, d.before a0 Z = true) (ws : List Jvm.Cond) (w : Addr) (d : Addr) (kw : ClassId) (kd : ClassId) (c0 : Int32) (c1 : Int32) (c2 : Int32) (h0 : Heap) (n0 : Nat) (Z0 : n0 ≤ h0.size) (f_V_w : Arv Z h0 w kw .char (3 : Int32) [(.int c0), (.int c1), (.int c2)] (.int (0 : Int32))) (f_V_d : Arv Z h0 d kd .byte (3 : Int32) [(.int (0 : Int32)), (.int (0 : Int32)), (.int (0 : Int32))] (.int (0 : Int32))) (ge_d : n0 ≤ d) (ne_w_d : w ≠ d) (hc0' : ¬ (255 : Int32) < c0) (hc1' : ¬ (255 : Int32) < c1) (hc2' : ¬ (255 : Int32) < c2) :
    MetFree l (⟨"java/lang/StringUTF16", "compress", "([CI[BII)I"⟩ : MethodName) (head1 (Jvm.Cond.code (⟨"java/lang/StringUTF16", "compress", "([CI[BII)I"⟩ : MethodName) jdk_52_method_21_code 7 (some .int) :: ws) ({ frames := 0, cells := 0, slots := 0, locals := 0 } : Room)) (fun aa U => aa = #[(.ref w), (.int (0 : Int32)), (.ref d), (.int (0 : Int32)), (.int (3 : Int32))] ∧ Z.Warmed39 U.vm ∧ U.heap = h0) (fun _ _ _ _ _ => True) (fun _ U oc U' => ∃ v L, oc = .returned v ∧ Q9_3 Z w d kw kd c0 c1 c2 h0 n0 v U'.heap L ∧ FrameEnd U oc U' L ({ frames := 0, cells := 0, slots := 0, locals := 0 } : Room).cells ({ frames := 0, cells := 0, slots := 0, locals := 0 } : Room).slots) := by
  refine MetFree.of_bodySF (plainFor_of_name own_pn2) hisR ?_
  intro p e s m args below meth c s₁ Bd hml0 hP hK
  obtain ⟨rfl, hZ, hh⟩ := hP
  have hx := Bd.exec
  have hby := Bd.bytes
  have hlk := Bd.notSynchronized
  have hret := Bd.returns
  have hml : c.maxLocals = 7 := hml0
  have hown : s.vm.findClass "java/lang/StringUTF16" = some m.cls := findClass_of_methodNamed Bd.named
  have hnm := (name_of_methodNamed Bd.named Bd.method).1
  have X0 : Stand p l e ({ frames := 0, cells := 0, slots := 0, locals := 0 } : Room) s m #[(.ref w), (.int (0 : Int32)), (.ref d), (.int (0 : Int32)), (.int (3 : Int32))] below meth c s₁ [] 0 0 := Stand.of_body Bd
  have e0 : s₁.heap = h0 := by rw [← hh, Bd.state]; rfl
  have N0 := Fr.nil n0
  refine own_body (Q := Q9_3 Z w d kw kd c0 c1 c2 h0 n0) (KC := ({ frames := 0, cells := 0, slots := 0, locals := 0 } : Room).cells) (KS := ({ frames := 0, cells := 0, slots := 0, locals := 0 } : Room).slots) ?_
  rw [own_ef_rm9_3 m w d]
  have Kp : Keep h0 h0 [d] := Keep.refl h0 _
  refine own_iconst X0 hx hby d9_0 (pc' := 1) rfl (n := (0 : Int32)) (by decide) ?_
  refine own_istore X0 hx hby d9_1 (pc' := 3) rfl (l' := #[.val (.ref w), .val (.int (0 : Int32)), .val (.ref d), .val (.int (0 : Int32)), .val (.int (3 : Int32)), .val (.int (0 : Int32)), .unset]) rfl ?_
  refine own_iload X0 hx hby d9_3 (pc' := 5) rfl rfl ?_
  refine own_iload X0 hx hby d9_5 (pc' := 7) rfl rfl ?_
  refine own_icN X0 hx hby d9_7 (pc' := 10) rfl (show (0 : Int32) < (3 : Int32) by decide) ?_
  refine own_aloadN X0 hx hby d9_10 (pc' := 11) rfl rfl rfl ?_
  refine own_iloadN X0 hx hby d9_11 (pc' := 12) rfl rfl ?_
  obtain ⟨cl1, Ar1, q1, S1, M1, H1, G1⟩ := id f_V_w
  have hin1 : ¬ ((0 : Int32) < 0 ∨ cl1.slots.size ≤ ((0 : Int32)).toNatClampNeg) := inb_of S1 ⟨by decide, by decide⟩
  have hat1 : cl1.slots[((0 : Int32)).toNatClampNeg]? = some (.int c0) := H1.at hin1 rfl
  refine own_caload X0 hx hZ hby e0 Ar1 hin1 hat1 d9_12 (pc' := 13) rfl ?_
  refine own_istore X0 hx hby d9_13 (pc' := 15) rfl (l' := #[.val (.ref w), .val (.int (0 : Int32)), .val (.ref d), .val (.int (0 : Int32)), .val (.int (3 : Int32)), .val (.int (0 : Int32)), .val (.int c0)]) rfl ?_
  refine own_iload X0 hx hby d9_15 (pc' := 17) rfl rfl ?_
  refine own_sipush X0 hx hby d9_17 (pc' := 20) rfl (n := (255 : Int32)) (by decide) ?_
  refine own_icY X0 hx hby d9_20 (pc' := 26) (by decide) (by decide) (show ¬ (255 : Int32) < c0 from hc0') ?_
  refine own_aloadN X0 hx hby d9_26 (pc' := 27) rfl rfl rfl ?_
  refine own_iloadN X0 hx hby d9_27 (pc' := 28) rfl rfl ?_
  refine own_iload X0 hx hby d9_28 (pc' := 30) rfl rfl ?_
  refine own_i2b X0 hx hby d9_30 (pc' := 31) rfl ?_
  obtain ⟨cl2, Ar2, q2, S2, M2, H2, G2⟩ := id f_V_d
  have hin2 : ¬ ((0 : Int32) < 0 ∨ cl2.slots.size ≤ ((0 : Int32)).toNatClampNeg) := inb_of S2 ⟨by decide, by decide⟩
  refine own_bastore X0 hx hZ hby e0 Ar2 hin2 d9_31 (pc' := 32) rfl (fun T3 h3 X3 e3 W3 => ?_)
  have f_V_d := Arv.set Ar2 q2 S2 M2 H2 G2 (fits_nar_byte _) W3 0 rfl (Nat.le_of_ble_eq_true rfl)
  have f_V_d : Arv Z h3 d kd .byte (3 : Int32) [(.int ((c0.toInt8.toInt32).toInt8.toInt32)), (.int (0 : Int32)), (.int (0 : Int32))] (.int (0 : Int32)) := f_V_d
  rw [own_b8 c0] at f_V_d
  have f_V_w := f_V_w.other W3 ne_w_d
  have Zn := Nat.le_trans Z0 (Keep.of_wr W3).1
  have Kp := Kp.wr W3 (Or.inl (List.mem_of_getElem? (i := 0) rfl))
  have N3 := Fr.snoc X3 N0 ge_d
  refine own_iinc X3 hx hby d9_32 (pc' := 35) rfl rfl (y := (1 : Int32)) (by decide) (l' := #[.val (.ref w), .val (.int (1 : Int32)), .val (.ref d), .val (.int (0 : Int32)), .val (.int (3 : Int32)), .val (.int (0 : Int32)), .val (.int c0)]) rfl ?_
  refine own_iinc X3 hx hby d9_35 (pc' := 38) rfl rfl (y := (1 : Int32)) (by decide) (l' := #[.val (.ref w), .val (.int (1 : Int32)), .val (.ref d), .val (.int (1 : Int32)), .val (.int (3 : Int32)), .val (.int (0 : Int32)), .val (.int c0)]) rfl ?_
  refine own_iinc X3 hx hby d9_38 (pc' := 41) rfl rfl (y := (1 : Int32)) (by decide) (l' := #[.val (.ref w), .val (.int (1 : Int32)), .val (.ref d), .val (.int (1 : Int32)), .val (.int (3 : Int32)), .val (.int (1 : Int32)), .val (.int c0)]) rfl ?_
  refine own_goto X3 hx hby d9_41 (pc' := 3) (by decide) (by decide) ?_
  refine own_iload X3 hx hby d9_3 (pc' := 5) rfl rfl ?_
  refine own_iload X3 hx hby d9_5 (pc' := 7) rfl rfl ?_
  refine own_icN X3 hx hby d9_7 (pc' := 10) rfl (show (1 : Int32) < (3 : Int32) by decide) ?_
  refine own_aloadN X3 hx hby d9_10 (pc' := 11) rfl rfl rfl ?_
  refine own_iloadN X3 hx hby d9_11 (pc' := 12) rfl rfl ?_
  obtain ⟨cl4, Ar4, q4, S4, M4, H4, G4⟩ := id f_V_w
  have hin4 : ¬ ((1 : Int32) < 0 ∨ cl4.slots.size ≤ ((1 : Int32)).toNatClampNeg) := inb_of S4 ⟨by decide, by decide⟩
  have hat4 : cl4.slots[((1 : Int32)).toNatClampNeg]? = some (.int c1) := H4.at hin4 rfl
  refine own_caload X3 hx hZ hby e3 Ar4 hin4 hat4 d9_12 (pc' := 13) rfl ?_
  refine own_istore X3 hx hby d9_13 (pc' := 15) rfl (l' := #[.val (.ref w), .val (.int (1 : Int32)), .val (.ref d), .val (.int (1 : Int32)), .val (.int (3 : Int32)), .val (.int (1 : Int32)), .val (.int c1)]) rfl ?_
  refine own_iload X3 hx hby d9_15 (pc' := 17) rfl rfl ?_
  refine own_sipush X3 hx hby d9_17 (pc' := 20) rfl (n := (255 : Int32)) (by decide) ?_
  refine own_icY X3 hx hby d9_20 (pc' := 26) (by decide) (by decide) (show ¬ (255 : Int32) < c1 from hc1') ?_
  refine own_aloadN X3 hx hby d9_26 (pc' := 27) rfl rfl rfl ?_
  refine own_iloadN X3 hx hby d9_27 (pc' := 28) rfl rfl ?_
  refine own_iload X3 hx hby d9_28 (pc' := 30) rfl rfl ?_
  refine own_i2b X3 hx hby d9_30 (pc' := 31) rfl ?_
  obtain ⟨cl5, Ar5, q5, S5, M5, H5, G5⟩ := id f_V_d
  have hin5 : ¬ ((1 : Int32) < 0 ∨ cl5.slots.size ≤ ((1 : Int32)).toNatClampNeg) := inb_of S5 ⟨by decide, by decide⟩
  refine own_bastore X3 hx hZ hby e3 Ar5 hin5 d9_31 (pc' := 32) rfl (fun T6 h6 X6 e6 W6 => ?_)
  have f_V_d := Arv.set Ar5 q5 S5 M5 H5 G5 (fits_nar_byte _) W6 1 rfl (Nat.le_of_ble_eq_true rfl)
  have f_V_d : Arv Z h6 d kd .byte (3 : Int32) [(.int (c0.toInt8.toInt32)), (.int ((c1.toInt8.toInt32).toInt8.toInt32)), (.int (0 : Int32))] (.int (0 : Int32)) := f_V_d
  rw [own_b8 c1] at f_V_d
  have f_V_w := f_V_w.other W6 ne_w_d
  have Zn := Nat.le_trans Zn (Keep.of_wr W6).1
  have Kp := Kp.wr W6 (Or.inl (List.mem_of_getElem? (i := 0) rfl))
  have N6 := Fr.snoc X6 N3 ge_d
  refine own_iinc X6 hx hby d9_32 (pc' := 35) rfl rfl (y := (2 : Int32)) (by decide) (l' := #[.val (.ref w), .val (.int (2 : Int32)), .val (.ref d), .val (.int (1 : Int32)), .val (.int (3 : Int32)), .val (.int (1 : Int32)), .val (.int c1)]) rfl ?_
  refine own_iinc X6 hx hby d9_35 (pc' := 38) rfl rfl (y := (2 : Int32)) (by decide) (l' := #[.val (.ref w), .val (.int (2 : Int32)), .val (.ref d), .val (.int (2 : Int32)), .val (.int (3 : Int32)), .val (.int (1 : Int32)), .val (.int c1)]) rfl ?_
  refine own_iinc X6 hx hby d9_38 (pc' := 41) rfl rfl (y := (2 : Int32)) (by decide) (l' := #[.val (.ref w), .val (.int (2 : Int32)), .val (.ref d), .val (.int (2 : Int32)), .val (.int (3 : Int32)), .val (.int (2 : Int32)), .val (.int c1)]) rfl ?_
  refine own_goto X6 hx hby d9_41 (pc' := 3) (by decide) (by decide) ?_
  refine own_iload X6 hx hby d9_3 (pc' := 5) rfl rfl ?_
  refine own_iload X6 hx hby d9_5 (pc' := 7) rfl rfl ?_
  refine own_icN X6 hx hby d9_7 (pc' := 10) rfl (show (2 : Int32) < (3 : Int32) by decide) ?_
  refine own_aloadN X6 hx hby d9_10 (pc' := 11) rfl rfl rfl ?_
  refine own_iloadN X6 hx hby d9_11 (pc' := 12) rfl rfl ?_
  obtain ⟨cl7, Ar7, q7, S7, M7, H7, G7⟩ := id f_V_w
  have hin7 : ¬ ((2 : Int32) < 0 ∨ cl7.slots.size ≤ ((2 : Int32)).toNatClampNeg) := inb_of S7 ⟨by decide, by decide⟩
  have hat7 : cl7.slots[((2 : Int32)).toNatClampNeg]? = some (.int c2) := H7.at hin7 rfl
  refine own_caload X6 hx hZ hby e6 Ar7 hin7 hat7 d9_12 (pc' := 13) rfl ?_
  refine own_istore X6 hx hby d9_13 (pc' := 15) rfl (l' := #[.val (.ref w), .val (.int (2 : Int32)), .val (.ref d), .val (.int (2 : Int32)), .val (.int (3 : Int32)), .val (.int (2 : Int32)), .val (.int c2)]) rfl ?_
  refine own_iload X6 hx hby d9_15 (pc' := 17) rfl rfl ?_
  refine own_sipush X6 hx hby d9_17 (pc' := 20) rfl (n := (255 : Int32)) (by decide) ?_
  refine own_icY X6 hx hby d9_20 (pc' := 26) (by decide) (by decide) (show ¬ (255 : Int32) < c2 from hc2') ?_
  refine own_aloadN X6 hx hby d9_26 (pc' := 27) rfl rfl rfl ?_
  refine own_iloadN X6 hx hby d9_27 (pc' := 28) rfl rfl ?_
  refine own_iload X6 hx hby d9_28 (pc' := 30) rfl rfl ?_
  refine own_i2b X6 hx hby d9_30 (pc' := 31) rfl ?_
  obtain ⟨cl8, Ar8, q8, S8, M8, H8, G8⟩ := id f_V_d
  have hin8 : ¬ ((2 : Int32) < 0 ∨ cl8.slots.size ≤ ((2 : Int32)).toNatClampNeg) := inb_of S8 ⟨by decide, by decide⟩
  refine own_bastore X6 hx hZ hby e6 Ar8 hin8 d9_31 (pc' := 32) rfl (fun T9 h9 X9 e9 W9 => ?_)
  have f_V_d := Arv.set Ar8 q8 S8 M8 H8 G8 (fits_nar_byte _) W9 2 rfl (Nat.le_of_ble_eq_true rfl)
  have f_V_d : Arv Z h9 d kd .byte (3 : Int32) [(.int (c0.toInt8.toInt32)), (.int (c1.toInt8.toInt32)), (.int ((c2.toInt8.toInt32).toInt8.toInt32))] (.int (0 : Int32)) := f_V_d
  rw [own_b8 c2] at f_V_d
  have f_V_w := f_V_w.other W9 ne_w_d
  have Zn := Nat.le_trans Zn (Keep.of_wr W9).1
  have Kp := Kp.wr W9 (Or.inl (List.mem_of_getElem? (i := 0) rfl))
  have N9 := Fr.snoc X9 N6 ge_d
  refine own_iinc X9 hx hby d9_32 (pc' := 35) rfl rfl (y := (3 : Int32)) (by decide) (l' := #[.val (.ref w), .val (.int (3 : Int32)), .val (.ref d), .val (.int (2 : Int32)), .val (.int (3 : Int32)), .val (.int (2 : Int32)), .val (.int c2)]) rfl ?_
  refine own_iinc X9 hx hby d9_35 (pc' := 38) rfl rfl (y := (3 : Int32)) (by decide) (l' := #[.val (.ref w), .val (.int (3 : Int32)), .val (.ref d), .val (.int (3 : Int32)), .val (.int (3 : Int32)), .val (.int (2 : Int32)), .val (.int c2)]) rfl ?_
  refine own_iinc X9 hx hby d9_38 (pc' := 41) rfl rfl (y := (3 : Int32)) (by decide) (l' := #[.val (.ref w), .val (.int (3 : Int32)), .val (.ref d), .val (.int (3 : Int32)), .val (.int (3 : Int32)), .val (.int (3 : Int32)), .val (.int c2)]) rfl ?_
  refine own_goto X9 hx hby d9_41 (pc' := 3) (by decide) (by decide) ?_
  refine own_iload X9 hx hby d9_3 (pc' := 5) rfl rfl ?_
  refine own_iload X9 hx hby d9_5 (pc' := 7) rfl rfl ?_
  refine own_icY X9 hx hby d9_7 (pc' := 44) (by decide) (by decide) (show ¬ (3 : Int32) < (3 : Int32) by decide) ?_
  refine own_iload X9 hx hby d9_44 (pc' := 46) rfl rfl ?_
  refine own_ireturn X9 hx hlk hby hret d9_46 (own_lv ?_ (by decide) (by decide))
  show Q9_3 Z w d kw kd c0 c1 c2  h0 n0 (some (.int (3 : Int32))) T9.heap _
  rw [e9]
  exact ⟨rfl, N9, Kp, f_V_d⟩
theorem own_ef_rm8_3 (m : MethodId) (w : Addr)  : entryFrame m #[(.ref w), (.int (0 : Int32)), (.int (3 : Int32))] 6 = mkF m 0 #[.val (.ref w), .val (.int (0 : Int32)), .val (.int (3 : Int32)), .unset, .unset, .unset] [] := by first | (simp [entryFrame, mkF, argsToLocals, Value.category]; done) | rfl
def Q8_3 (Z : State) (w : Addr) (kw : ClassId) (c0 : Int32) (c1 : Int32) (c2 : Int32) (h0 : Heap) (n0 : Nat) (v : Option Value) (h : Heap) (L : List Loc) : Prop := ∃ (d : Addr) (kd : ClassId), v = some (.ref d) ∧ Fr n0 L ∧ Keep h0 h [] ∧ h0.size ≤ d ∧ Arv Z h d kd .byte (3 : Int32) [(.int (c0.toInt8.toInt32)), (.int (c1.toInt8.toInt32)), (.int (c2.toInt8.toInt32))] (.int (0 : Int32))
set_option maxRecDepth 65536 in
set_option maxHeartbeats 40000000 in
theorem rm8_3 (l : Launch) (Z : State) (a0 : Array Value) (hw : ∀ d ∈ tables_1, d.before a0 Z = true) (ws : List Jvm.Cond) (w : Addr) (kw : ClassId) (c0 : Int32) (c1 : Int32) (c2 : Int32) (h0 : Heap) (n0 : Nat) (Z0 : n0 ≤ h0.size) (f_V_w : Arv Z h0 w kw .char (3 : Int32) [(.int c0), (.int c1), (.int c2)] (.int (0 : Int32))) (hc0' : ¬ (255 : Int32) < c0) (hc1' : ¬ (255 : Int32) < c1) (hc2' : ¬ (255 : Int32) < c2) :
    MetFree l (⟨"java/lang/StringUTF16", "compress", "([CII)[B"⟩ : MethodName) (head1 (Jvm.Cond.code (⟨"java/lang/StringUTF16", "compress", "([CII)[B"⟩ : MethodName) jdk_52_method_16_code 6 (some (.array .byte)) :: ws) ({ frames := 1, cells := 1, slots := 3, locals := 18 } : Room)) (fun aa U => aa = #[(.ref w), (.int (0 : Int32)), (.int (3 : Int32))] ∧ Z.Warmed39 U.vm ∧ U.heap = h0) (fun _ _ _ _ _ => True) (fun _ U oc U' => ∃ v L, oc = .returned v ∧ Q8_3 Z w kw c0 c1 c2 h0 n0 v U'.heap L ∧ FrameEnd U oc U' L ({ frames := 1, cells := 1, slots := 3, locals := 18 } : Room).cells ({ frames := 1, cells := 1, slots := 3, locals := 18 } : Room).slots) := by
  refine MetFree.of_bodySF (plainFor_of_name own_pn2) hisR ?_
  intro p e s m args below meth c s₁ Bd hml0 hP hK
  obtain ⟨rfl, hZ, hh⟩ := hP
  have hx := Bd.exec
  have hby := Bd.bytes
  have hlk := Bd.notSynchronized
  have hret := Bd.returns
  have hml : c.maxLocals = 6 := hml0
  have hown : s.vm.findClass "java/lang/StringUTF16" = some m.cls := findClass_of_methodNamed Bd.named
  have hnm := (name_of_methodNamed Bd.named Bd.method).1
  have X0 : Stand p l e ({ frames := 1, cells := 1, slots := 3, locals := 18 } : Room) s m #[(.ref w), (.int (0 : Int32)), (.int (3 : Int32))] below meth c s₁ [] 0 0 := Stand.of_body Bd
  have e0 : s₁.heap = h0 := by rw [← hh, Bd.state]; rfl
  have N0 := Fr.nil n0
  refine own_body (Q := Q8_3 Z w kw c0 c1 c2 h0 n0) (KC := ({ frames := 1, cells := 1, slots := 3, locals := 18 } : Room).cells) (KS := ({ frames := 1, cells := 1, slots := 3, locals := 18 } : Room).slots) ?_
  rw [own_ef_rm8_3 m w]
  have Kp : Keep h0 h0 [] := Keep.refl h0 _
  refine own_iloadN X0 hx hby d8_0 (pc' := 1) rfl rfl ?_
  refine own_newP (aty := .byte) X0 hx hZ hby (wd_15 hw) e0 d8_1 (pc' := 3) rfl (by decide) (cap := 3) (by decide) (by decide) (by decide) (by decide) (fun T1 h1 k1 b1 g1 X1 e1 E1 A1 => ?_)
  have ne_w_b1 : w ≠ b1 := Nat.ne_of_lt (by rw [g1]; exact f_V_w.lt)
  have ge_b1 : n0 ≤ b1 := by rw [g1]; exact Z0
  have sz_b1 : h0.size ≤ b1 := by rw [g1]; exact Kp.1
  have f_V_w := f_V_w.ext E1
  have Zn := Nat.le_trans Z0 E1.1
  have Kp := Kp.ext E1
  have f_V_b1 : Arv Z h1 b1 k1 .byte (3 : Int32) [(.int (0 : Int32)), (.int (0 : Int32)), (.int (0 : Int32))] (.int (0 : Int32)) := (Arv.new A1 (by decide)).pad (pad_rep [] (.int (0 : Int32)) 3)
  refine own_astoreN X1 hx hby d8_3 (pc' := 4) rfl rfl (l' := #[.val (.ref w), .val (.int (0 : Int32)), .val (.int (3 : Int32)), .val (.ref b1), .unset, .unset]) rfl ?_
  refine own_aloadN X1 hx hby d8_4 (pc' := 5) rfl rfl rfl ?_
  refine own_iloadN X1 hx hby d8_5 (pc' := 6) rfl rfl ?_
  refine own_aloadN X1 hx hby d8_6 (pc' := 7) rfl rfl rfl ?_
  refine own_iconst X1 hx hby d8_7 (pc' := 8) rfl (n := (0 : Int32)) (by decide) ?_
  refine own_iloadN X1 hx hby d8_8 (pc' := 9) rfl rfl ?_
  refine own_lk1 hw X1 hx hZ hby (by rw [hml]; rfl) hown d8_9 (pc' := 12) rfl e1 (W := 0) (Nat.le_of_eq rfl) (rm9_3 l Z a0 hw [] w b1 kw k1 c0 c1 c2 h1 n0 Zn f_V_w f_V_b1 ge_b1 ne_w_b1 hc0' hc1' hc2') (by decide) (by decide) (by decide) (by decide) (fun v2 T2 L2 X2 hQ2 => ?_)
  obtain ⟨rfl, Nq2, K2, V2⟩ := hQ2
  have N2 := Fr.app N0 Nq2
  have f_V_w := f_V_w.keep K2 (ninS ne_w_b1 nin0)
  have Zn := Nat.le_trans Zn K2.1
  have Kp := Kp.trans K2 (allS (Or.inr sz_b1) all0)
  show own_End p e below _ (T2.setTop (mkF m 12 _ [(.int (3 : Int32))]))
  refine own_istore X2 hx hby d8_12 (pc' := 14) rfl (l' := #[.val (.ref w), .val (.int (0 : Int32)), .val (.int (3 : Int32)), .val (.ref b1), .val (.int (3 : Int32)), .unset]) rfl ?_
  refine own_iload X2 hx hby d8_14 (pc' := 16) rfl rfl ?_
  refine own_iloadN X2 hx hby d8_16 (pc' := 17) rfl rfl ?_
  refine own_icY X2 hx hby d8_17 (pc' := 57) (by decide) (by decide) (show (3 : Int32) = (3 : Int32) by decide) ?_
  refine own_aloadN X2 hx hby d8_57 (pc' := 58) rfl rfl rfl ?_
  refine own_areturn X2 hx hlk hby hret rfl rfl d8_58 (own_lv ?_ (by decide) (by decide))
  show Q8_3 Z w kw c0 c1 c2  h0 n0 (some (.ref b1)) T2.heap _
  exact ⟨_, _, rfl, N2, Kp, sz_b1, V2⟩
theorem own_ef_rm10_3 (m : MethodId) (d : Addr)  : entryFrame m #[(.ref d), (.int (3 : Int32))] 2 = mkF m 0 #[.val (.ref d), .val (.int (3 : Int32))] [] := by first | (simp [entryFrame, mkF, argsToLocals, Value.category]; done) | rfl
def Q10_3 (Z : State) (d : Addr) (kd : ClassId) (vs : List Value) (h0 : Heap) (n0 : Nat) (v : Option Value) (h : Heap) (L : List Loc) : Prop := v = some (.int 0) ∧ Fr n0 L ∧ h = h0
set_option maxRecDepth 65536 in
set_option maxHeartbeats 40000000 in
theorem rm10_3 (l : Launch) (Z : State) (a0 : Array Value) (hw : ∀ d ∈ tables_1, d.before a0 Z = true) (ws : List Jvm.Cond) (d : Addr) (kd : ClassId) (vs : List Value) (h0 : Heap) (n0 : Nat) (Z0 : n0 ≤ h0.size) (f_V_d : Arv Z h0 d kd .byte (3 : Int32) vs (.int (0 : Int32))) :
    MetFree l (⟨"java/lang/StringUTF16", "coderFromArrayLen", "([BI)B"⟩ : MethodName) (head1 (Jvm.Cond.code (⟨"java/lang/StringUTF16", "coderFromArrayLen", "([BI)B"⟩ : MethodName) jdk_52_method_15_code 2 (some .byte) :: ws) ({ frames := 0, cells := 0, slots := 0, locals := 0 } : Room)) (fun aa U => aa = #[(.ref d), (.int (3 : Int32))] ∧ Z.Warmed39 U.vm ∧ U.heap = h0) (fun _ _ _ _ _ => True) (fun _ U oc U' => ∃ v L, oc = .returned v ∧ Q10_3 Z d kd vs h0 n0 v U'.heap L ∧ FrameEnd U oc U' L ({ frames := 0, cells := 0, slots := 0, locals := 0 } : Room).cells ({ frames := 0, cells := 0, slots := 0, locals := 0 } : Room).slots) := by
  refine MetFree.of_bodySF (plainFor_of_name own_pn2) hisR ?_
  intro p e s m args below meth c s₁ Bd hml0 hP hK
  obtain ⟨rfl, hZ, hh⟩ := hP
  have hx := Bd.exec
  have hby := Bd.bytes
  have hlk := Bd.notSynchronized
  have hret := Bd.returns
  have hml : c.maxLocals = 2 := hml0
  have hown : s.vm.findClass "java/lang/StringUTF16" = some m.cls := findClass_of_methodNamed Bd.named
  have hnm := (name_of_methodNamed Bd.named Bd.method).1
  have X0 : Stand p l e ({ frames := 0, cells := 0, slots := 0, locals := 0 } : Room) s m #[(.ref d), (.int (3 : Int32))] below meth c s₁ [] 0 0 := Stand.of_body Bd
  have e0 : s₁.heap = h0 := by rw [← hh, Bd.state]; rfl
  have N0 := Fr.nil n0
  refine own_body (Q := Q10_3 Z d kd vs h0 n0) (KC := ({ frames := 0, cells := 0, slots := 0, locals := 0 } : Room).cells) (KS := ({ frames := 0, cells := 0, slots := 0, locals := 0 } : Room).slots) ?_
  rw [own_ef_rm10_3 m d]
  refine own_iloadN X0 hx hby d10_0 (pc' := 1) rfl rfl ?_
  refine own_aloadN X0 hx hby d10_1 (pc' := 2) rfl rfl rfl ?_
  obtain ⟨cl1, Ar1, q1, S1, M1, H1, G1⟩ := id f_V_d
  refine own_alen X0 hx hZ hby e0 Ar1 S1 M1 d10_2 (pc' := 3) rfl ?_
  refine own_isub X0 hx hby d10_3 (pc' := 4) rfl ?_
  refine own_bipush X0 hx hby d10_4 (pc' := 6) rfl (n := (31 : Int32)) (by decide) ?_
  refine own_iushr X0 hx hby d10_6 (pc' := 7) rfl ?_
  refine own_i2b X0 hx hby d10_7 (pc' := 8) rfl ?_
  show own_End p e below _ (s₁.setTop (mkF m 8 #[.val (.ref d), .val (.int (3 : Int32))] [(.int (0 : Int32))]))
  refine own_breturn X0 hx hlk hby hret (by decide) d10_8 (own_lv ?_ (by decide) (by decide))
  show Q10_3 Z d kd vs  h0 n0 (some (.int (0 : Int32))) s₁.heap _
  rw [e0]
  exact ⟨rfl, N0, rfl⟩
theorem own_ef_rm2_3 (m : MethodId) (a : Addr) (w : Addr)  : entryFrame m #[(.ref a), (.ref w), (.int (0 : Int32)), (.int (3 : Int32)), .null] 6 = mkF m 0 #[.val (.ref a), .val (.ref w), .val (.int (0 : Int32)), .val (.int (3 : Int32)), .val .null, .unset] [] := by first | (simp [entryFrame, mkF, argsToLocals, Value.category]; done) | rfl
def Q2_3 (Z : State) (a : Addr) (w : Addr) (kw : ClassId) (cs : Int32) (c0 : Int32) (c1 : Int32) (c2 : Int32) (h0 : Heap) (n0 : Nat) (v : Option Value) (h : Heap) (L : List Loc) : Prop := v = none ∧ Fr n0 L ∧ Keep h0 h [a] ∧ ∃ (d : Addr) (kd : ClassId), h0.size ≤ d ∧ own_SO Z h a (.ref d) 0 ∧ Arv Z h d kd .byte (3 : Int32) [(.int (c0.toInt8.toInt32)), (.int (c1.toInt8.toInt32)), (.int (c2.toInt8.toInt32))] (.int (0 : Int32))
set_option maxRecDepth 65536 in
set_option maxHeartbeats 40000000 in
theorem rm2_3 (l : Launch) (Z : State) (a0 : Array Value) (hw : ∀ d ∈ tables_1, d.before a0 Z = true) (ws : List Jvm.Cond) (a : Addr) (w : Addr) (kw : ClassId) (cs : Int32) (c0 : Int32) (c1 : Int32) (c2 : Int32) (h0 : Heap) (n0 : Nat) (Z0 : n0 ≤ h0.size) (f_O_a : own_SO Z h0 a .null (0 : Int32)) (ge_a : n0 ≤ a) (f_V_w : Arv Z h0 w kw .char (3 : Int32) [(.int c0), (.int c1), (.int c2)] (.int (0 : Int32))) (ne_a_w : a ≠ w) (f_S_java_lang_String_COMPACT_STRINGS : Sta Z h0 "java/lang/String" "COMPACT_STRINGS" "Z" (.int cs)) (hcs : ¬ cs = (0 : Int32)) (hc0' : ¬ (255 : Int32) < c0) (hc1' : ¬ (255 : Int32) < c1) (hc2' : ¬ (255 : Int32) < c2) :
    MetFree l (⟨"java/lang/String", "<init>", "([CIILjava/lang/Void;)V"⟩ : MethodName) (head1 (Jvm.Cond.code (⟨"java/lang/String", "<init>", "([CIILjava/lang/Void;)V"⟩ : MethodName) jdk_42_method_149_code 6 none :: ws) ({ frames := 2, cells := 1, slots := 3, locals := 35 } : Room)) (fun aa U => aa = #[(.ref a), (.ref w), (.int (0 : Int32)), (.int (3 : Int32)), .null] ∧ Z.Warmed39 U.vm ∧ U.heap = h0) (fun _ _ _ _ _ => True) (fun _ U oc U' => ∃ v L, oc = .returned v ∧ Q2_3 Z a w kw cs c0 c1 c2 h0 n0 v U'.heap L ∧ FrameEnd U oc U' L ({ frames := 2, cells := 1, slots := 3, locals := 35 } : Room).cells ({ frames := 2, cells := 1, slots := 3, locals := 35 } : Room).slots) := by
  refine MetFree.of_bodySF (plainFor_of_name own_pn0) hisR ?_
  intro p e s m args below meth c s₁ Bd hml0 hP hK
  obtain ⟨rfl, hZ, hh⟩ := hP
  have hx := Bd.exec
  have hby := Bd.bytes
  have hlk := Bd.notSynchronized
  have hret := Bd.returns
  have hml : c.maxLocals = 6 := hml0
  have hown : s.vm.findClass "java/lang/String" = some m.cls := findClass_of_methodNamed Bd.named
  have hnm := (name_of_methodNamed Bd.named Bd.method).1
  have X0 : Stand p l e ({ frames := 2, cells := 1, slots := 3, locals := 35 } : Room) s m #[(.ref a), (.ref w), (.int (0 : Int32)), (.int (3 : Int32)), .null] below meth c s₁ [] 0 0 := Stand.of_body Bd
  have e0 : s₁.heap = h0 := by rw [← hh, Bd.state]; rfl
  have N0 := Fr.nil n0
  refine own_body (Q := Q2_3 Z a w kw cs c0 c1 c2 h0 n0) (KC := ({ frames := 2, cells := 1, slots := 3, locals := 35 } : Room).cells) (KS := ({ frames := 2, cells := 1, slots := 3, locals := 35 } : Room).slots) ?_
  rw [own_ef_rm2_3 m a w]
  have Kp : Keep h0 h0 [a] := Keep.refl h0 _
  refine own_aloadN X0 hx hby d2_0 (pc' := 1) rfl rfl rfl ?_
  refine own_init X0 hx hZ hby hown (wd_11 hw) (wd_12 hw) (wd_13 hw) e0 (by rw [hml]; rfl) d2_1 (pc' := 4) rfl (by decide) (W := 0) (Nat.le_of_eq rfl) (by decide) (fun T1 X1 e1 => ?_)
  refine own_iloadN X1 hx hby d2_4 (pc' := 5) rfl rfl ?_
  refine own_ifY X1 hx hby d2_5 (pc' := 27) (by decide) (by decide) (show ¬ (3 : Int32) = (0 : Int32) by decide) ?_
  refine own_getS X1 hx hZ hby hown (host := "") (Or.inl (wd_50 hw)) Via.refl e1 f_S_java_lang_String_COMPACT_STRINGS d2_27 (pc' := 30) rfl (fun T2 X2 e2 => ?_)
  refine own_ifN X2 hx hby d2_30 (pc' := 33) rfl (show ¬ cs = (0 : Int32) from hcs) ?_
  refine own_aloadN X2 hx hby d2_33 (pc' := 34) rfl rfl rfl ?_
  refine own_iloadN X2 hx hby d2_34 (pc' := 35) rfl rfl ?_
  refine own_iloadN X2 hx hby d2_35 (pc' := 36) rfl rfl ?_
  have lt_a := f_O_a.lt
  have lt_w := f_V_w.lt
  have Zold := Z0
  have Kold := Kp
  refine own_lk2 hw X2 hx hZ hby (by rw [hml]; rfl) hown d2_36 (pc' := 39) rfl e2 (W := 0) (Nat.le_of_eq rfl) (rm8_3 l Z a0 hw [] w kw c0 c1 c2 h0 n0 Z0 f_V_w hc0' hc1' hc2') (by decide) (by decide) (by decide) (by decide) (fun v4 T4 L4 X4 hQ4 => ?_)
  obtain ⟨d3, kd3, rfl, Nq4, K4, gd4, V4⟩ := hQ4
  have N4 := Fr.app N0 Nq4
  have f_S_java_lang_String_COMPACT_STRINGS := own_sta0 f_S_java_lang_String_COMPACT_STRINGS K4
  have f_O_a := f_O_a.keep K4 nin0
  have f_V_w := f_V_w.keep K4 nin0
  have Zn := Nat.le_trans Z0 K4.1
  have Kp := Kp.trans K4 all0
  have ne_a_d3 : a ≠ d3 := Nat.ne_of_lt (Nat.lt_of_lt_of_le lt_a gd4)
  have ne_w_d3 : w ≠ d3 := Nat.ne_of_lt (Nat.lt_of_lt_of_le lt_w gd4)
  have ge_d3 : n0 ≤ d3 := Nat.le_trans Zold gd4
  have sz_d3 : h0.size ≤ d3 := Nat.le_trans Kold.1 gd4
  show own_End p e below _ (T4.setTop (mkF m 39 _ [(.ref d3)]))
  refine own_astore X4 hx hby d2_39 (pc' := 41) rfl rfl (l' := #[.val (.ref a), .val (.ref w), .val (.int (0 : Int32)), .val (.int (3 : Int32)), .val .null, .val (.ref d3)]) rfl ?_
  refine own_aloadN X4 hx hby d2_41 (pc' := 42) rfl rfl rfl ?_
  refine own_aload X4 hx hby d2_42 (pc' := 44) rfl rfl rfl ?_
  refine own_iloadN X4 hx hby d2_44 (pc' := 45) rfl rfl ?_
  refine own_lk3 hw X4 hx hZ hby (by rw [hml]; rfl) hown d2_45 (pc' := 48) rfl rfl (W := 1) (Nat.le_of_eq rfl) (rm10_3 l Z a0 hw [] d3 kd3 [(.int (c0.toInt8.toInt32)), (.int (c1.toInt8.toInt32)), (.int (c2.toInt8.toInt32))] T4.heap n0 Zn V4) (by decide) (by decide) (by decide) (by decide) (fun v5 T5 L5 X5 hQ5 => ?_)
  obtain ⟨rfl, Nq5, e5⟩ := hQ5
  have N5 := Fr.app N4 Nq5
  show own_End p e below _ (T5.setTop (mkF m 48 _ [(.int (0 : Int32)), (.ref a)]))
  obtain ⟨f_E_a, f_F_a_value, f_F_a_coder⟩ := f_O_a
  refine own_putN X5 hx hZ hby hown (wd_21 hw) Via.refl e5 f_F_a_coder f_E_a (Or.inr ⟨(wd_17 hw), rfl, hnm⟩) (wd_2 hw) (ty := .byte) (v' := (.int (0 : Int32))) (by decide) rfl (by decide) d2_48 (pc' := 51) rfl (fun T6 h6 X6 e6 W6 => ?_)
  have f_F_a_coder := f_F_a_coder.same W6
  have f_V_w := f_V_w.other W6 (Ne.symm ne_a_w)
  have f_S_java_lang_String_COMPACT_STRINGS := f_S_java_lang_String_COMPACT_STRINGS.wr W6
  have V4 := V4.other W6 (Ne.symm ne_a_d3)
  have f_E_a := f_E_a.wr W6
  have f_F_a_value := f_F_a_value.other W6 (Or.inr (slot_ne (Or.inr (wd_16 hw)) (Or.inr (wd_17 hw)) (by decide) (t := (.array .byte)) (t' := .byte) (by decide) (by decide)))
  have Zn := Nat.le_trans Zn (Keep.of_wr W6).1
  have Kp := Kp.wr W6 (Or.inl (List.mem_of_getElem? (i := 0) rfl))
  have N6 := Fr.snoc X6 N5 ge_a
  refine own_aloadN X6 hx hby d2_51 (pc' := 52) rfl rfl rfl ?_
  refine own_aload X6 hx hby d2_52 (pc' := 54) rfl rfl rfl ?_
  refine own_putF X6 hx hZ hby hown (host := "") (Or.inl (wd_20 hw)) Via.refl e6 f_F_a_value f_E_a (Or.inr ⟨(wd_16 hw), rfl, hnm⟩) (wd_2 hw) (ty := (.array .byte)) (by decide) rfl rfl d2_54 (pc' := 57) rfl (fun T7 h7 X7 e7 W7 => ?_)
  have f_F_a_value := f_F_a_value.same W7
  have f_V_w := f_V_w.other W7 (Ne.symm ne_a_w)
  have f_S_java_lang_String_COMPACT_STRINGS := f_S_java_lang_String_COMPACT_STRINGS.wr W7
  have V4 := V4.other W7 (Ne.symm ne_a_d3)
  have f_E_a := f_E_a.wr W7
  have f_F_a_coder := f_F_a_coder.other W7 (Or.inr (slot_ne (Or.inr (wd_17 hw)) (Or.inr (wd_16 hw)) (by decide) (t := .byte) (t' := (.array .byte)) (by decide) (by decide)))
  have Zn := Nat.le_trans Zn (Keep.of_wr W7).1
  have Kp := Kp.wr W7 (Or.inl (List.mem_of_getElem? (i := 0) rfl))
  have N7 := Fr.snoc X7 N6 ge_a
  refine own_return X7 hx hlk hby hret d2_57 (own_lv ?_ (by decide) (by decide))
  show Q2_3 Z a w kw cs c0 c1 c2  h0 n0 none T7.heap _
  rw [e7]
  exact ⟨rfl, N7, Kp, d3, _, sz_d3, ⟨f_E_a, f_F_a_value, f_F_a_coder⟩, V4⟩
theorem own_ef_rm1_3 (m : MethodId) (a : Addr) (w : Addr)  : entryFrame m #[(.ref a), (.ref w)] 2 = mkF m 0 #[.val (.ref a), .val (.ref w)] [] := by first | (simp [entryFrame, mkF, argsToLocals, Value.category]; done) | rfl
def Q1_3 (Z : State) (a : Addr) (w : Addr) (kw : ClassId) (cs : Int32) (c0 : Int32) (c1 : Int32) (c2 : Int32) (h0 : Heap) (n0 : Nat) (v : Option Value) (h : Heap) (L : List Loc) : Prop := v = none ∧ Fr n0 L ∧ Keep h0 h [a] ∧ ∃ (d : Addr) (kd : ClassId), h0.size ≤ d ∧ own_SO Z h a (.ref d) 0 ∧ Arv Z h d kd .byte (3 : Int32) [(.int (c0.toInt8.toInt32)), (.int (c1.toInt8.toInt32)), (.int (c2.toInt8.toInt32))] (.int (0 : Int32))
set_option maxRecDepth 65536 in
set_option maxHeartbeats 40000000 in
theorem rm1_3 (l : Launch) (Z : State) (a0 : Array Value) (hw : ∀ d ∈ tables_1, d.before a0 Z = true) (ws : List Jvm.Cond) (a : Addr) (w : Addr) (kw : ClassId) (cs : Int32) (c0 : Int32) (c1 : Int32) (c2 : Int32) (h0 : Heap) (n0 : Nat) (Z0 : n0 ≤ h0.size) (f_O_a : own_SO Z h0 a .null (0 : Int32)) (ge_a : n0 ≤ a) (f_V_w : Arv Z h0 w kw .char (3 : Int32) [(.int c0), (.int c1), (.int c2)] (.int (0 : Int32))) (ne_a_w : a ≠ w) (f_S_java_lang_String_COMPACT_STRINGS : Sta Z h0 "java/lang/String" "COMPACT_STRINGS" "Z" (.int cs)) (hcs : ¬ cs = (0 : Int32)) (hc0' : ¬ (255 : Int32) < c0) (hc1' : ¬ (255 : Int32) < c1) (hc2' : ¬ (255 : Int32) < c2) :
    MetFree l (⟨"java/lang/String", "<init>", "([C)V"⟩ : MethodName) (head1 (Jvm.Cond.code (⟨"java/lang/String", "<init>", "([C)V"⟩ : MethodName) jdk_42_method_3_code 2 none :: ws) ({ frames := 3, cells := 1, slots := 3, locals := 52 } : Room)) (fun aa U => aa = #[(.ref a), (.ref w)] ∧ Z.Warmed39 U.vm ∧ U.heap = h0) (fun _ _ _ _ _ => True) (fun _ U oc U' => ∃ v L, oc = .returned v ∧ Q1_3 Z a w kw cs c0 c1 c2 h0 n0 v U'.heap L ∧ FrameEnd U oc U' L ({ frames := 3, cells := 1, slots := 3, locals := 52 } : Room).cells ({ frames := 3, cells := 1, slots := 3, locals := 52 } : Room).slots) := by
  refine MetFree.of_bodySF (plainFor_of_name own_pn0) hisR ?_
  intro p e s m args below meth c s₁ Bd hml0 hP hK
  obtain ⟨rfl, hZ, hh⟩ := hP
  have hx := Bd.exec
  have hby := Bd.bytes
  have hlk := Bd.notSynchronized
  have hret := Bd.returns
  have hml : c.maxLocals = 2 := hml0
  have hown : s.vm.findClass "java/lang/String" = some m.cls := findClass_of_methodNamed Bd.named
  have hnm := (name_of_methodNamed Bd.named Bd.method).1
  have X0 : Stand p l e ({ frames := 3, cells := 1, slots := 3, locals := 52 } : Room) s m #[(.ref a), (.ref w)] below meth c s₁ [] 0 0 := Stand.of_body Bd
  have e0 : s₁.heap = h0 := by rw [← hh, Bd.state]; rfl
  have N0 := Fr.nil n0
  refine own_body (Q := Q1_3 Z a w kw cs c0 c1 c2 h0 n0) (KC := ({ frames := 3, cells := 1, slots := 3, locals := 52 } : Room).cells) (KS := ({ frames := 3, cells := 1, slots := 3, locals := 52 } : Room).slots) ?_
  rw [own_ef_rm1_3 m a w]
  have Kp : Keep h0 h0 [a] := Keep.refl h0 _
  refine own_aloadN X0 hx hby d1_0 (pc' := 1) rfl rfl rfl ?_
  refine own_aloadN X0 hx hby d1_1 (pc' := 2) rfl rfl rfl ?_
  refine own_iconst X0 hx hby d1_2 (pc' := 3) rfl (n := (0 : Int32)) (by decide) ?_
  refine own_aloadN X0 hx hby d1_3 (pc' := 4) rfl rfl rfl ?_
  obtain ⟨cl1, Ar1, q1, S1, M1, H1, G1⟩ := id f_V_w
  refine own_alen X0 hx hZ hby e0 Ar1 S1 M1 d1_4 (pc' := 5) rfl ?_
  refine own_aconst_null X0 hx hby d1_5 (pc' := 6) rfl ?_
  have lt_a := f_O_a.lt
  have lt_w := f_V_w.lt
  have Zold := Z0
  have Kold := Kp
  refine own_lk4 hw X0 hx hZ hby (by rw [hml]; rfl) hown d1_6 (pc' := 9) rfl e0 (W := 0) (Nat.le_of_eq rfl) (rm2_3 l Z a0 hw [] a w kw cs c0 c1 c2 h0 n0 Z0 f_O_a ge_a f_V_w ne_a_w f_S_java_lang_String_COMPACT_STRINGS hcs hc0' hc1' hc2') (by decide) (by decide) (by decide) (by decide) (fun v3 T3 L3 X3 hQ3 => ?_)
  obtain ⟨rfl, Nq3, K3, d2, kd2, gd3, O3, V3⟩ := hQ3
  have N3 := Fr.app N0 Nq3
  have f_S_java_lang_String_COMPACT_STRINGS := own_sta1 f_S_java_lang_String_COMPACT_STRINGS K3 f_O_a.1
  have f_V_w := f_V_w.keep K3 (ninS (Ne.symm ne_a_w) nin0)
  have Zn := Nat.le_trans Z0 K3.1
  have Kp := Kp.trans K3 (allS (Or.inl (List.mem_of_getElem? (i := 0) rfl)) all0)
  have ne_a_d2 : a ≠ d2 := Nat.ne_of_lt (Nat.lt_of_lt_of_le lt_a gd3)
  have ne_w_d2 : w ≠ d2 := Nat.ne_of_lt (Nat.lt_of_lt_of_le lt_w gd3)
  have sz_d2 : h0.size ≤ d2 := Nat.le_trans Kold.1 gd3
  show own_End p e below _ (T3.setTop (mkF m 9 _ []))
  refine own_return X3 hx hlk hby hret d1_9 (own_lv ?_ (by decide) (by decide))
  show Q1_3 Z a w kw cs c0 c1 c2  h0 n0 none T3.heap _
  exact ⟨rfl, N3, Kp, d2, _, sz_d2, O3, V3⟩
theorem own_ef_rm5 (m : MethodId) (a : Addr)  : entryFrame m #[(.ref a)] 1 = mkF m 0 #[.val (.ref a)] [] := by first | (simp [entryFrame, mkF, argsToLocals, Value.category]; done) | rfl
def Q5 (Z : State) (a : Addr) (h0 : Heap) (n0 : Nat) (v : Option Value) (h : Heap) (L : List Loc) : Prop := v = none ∧ Fr n0 L ∧ h = h0
set_option maxRecDepth 65536 in
set_option maxHeartbeats 40000000 in
theorem rm5 (l : Launch) (Z : State) (a0 : Array Value) (hw : ∀ d ∈ tables_1, d.before a0 Z = true) (ws : List Jvm.Cond) (a : Addr) (h0 : Heap) (n0 : Nat) (Z0 : n0 ≤ h0.size)  :
    MetFree l (⟨"java/lang/Record", "<init>", "()V"⟩ : MethodName) (head1 (Jvm.Cond.code (⟨"java/lang/Record", "<init>", "()V"⟩ : MethodName) jdk_30_method_1_code 1 none :: ws) ({ frames := 1, cells := 0, slots := 0, locals := 12 } : Room)) (fun aa U => aa = #[(.ref a)] ∧ Z.Warmed39 U.vm ∧ U.heap = h0) (fun _ _ _ _ _ => True) (fun _ U oc U' => ∃ v L, oc = .returned v ∧ Q5 Z a h0 n0 v U'.heap L ∧ FrameEnd U oc U' L ({ frames := 1, cells := 0, slots := 0, locals := 12 } : Room).cells ({ frames := 1, cells := 0, slots := 0, locals := 12 } : Room).slots) := by
  refine MetFree.of_bodySF (plainFor_of_name own_pn6) hisR ?_
  intro p e s m args below meth c s₁ Bd hml0 hP hK
  obtain ⟨rfl, hZ, hh⟩ := hP
  have hx := Bd.exec
  have hby := Bd.bytes
  have hlk := Bd.notSynchronized
  have hret := Bd.returns
  have hml : c.maxLocals = 1 := hml0
  have hown : s.vm.findClass "java/lang/Record" = some m.cls := findClass_of_methodNamed Bd.named
  have hnm := (name_of_methodNamed Bd.named Bd.method).1
  have X0 : Stand p l e ({ frames := 1, cells := 0, slots := 0, locals := 12 } : Room) s m #[(.ref a)] below meth c s₁ [] 0 0 := Stand.of_body Bd
  have e0 : s₁.heap = h0 := by rw [← hh, Bd.state]; rfl
  have N0 := Fr.nil n0
  refine own_body (Q := Q5 Z a h0 n0) (KC := ({ frames := 1, cells := 0, slots := 0, locals := 12 } : Room).cells) (KS := ({ frames := 1, cells := 0, slots := 0, locals := 12 } : Room).slots) ?_
  rw [own_ef_rm5 m a]
  refine own_aloadN X0 hx hby d5_0 (pc' := 1) rfl rfl rfl ?_
  refine own_init X0 hx hZ hby hown (wd_33 hw) (wd_12 hw) (wd_13 hw) e0 (by rw [hml]; rfl) d5_1 (pc' := 4) rfl (by decide) (W := 0) (Nat.le_of_eq rfl) (by decide) (fun T1 X1 e1 => ?_)
  refine own_return X1 hx hlk hby hret d5_4 (own_lv ?_ (by decide) (by decide))
  show Q5 Z a  h0 n0 none T1.heap _
  rw [e1]
  exact ⟨rfl, N0, rfl⟩
theorem own_ef_rm4_0 (m : MethodId) (a : Addr) (t : Addr) (x : Int64)  : entryFrame m #[(.ref a), (.ref t), (.long x), (.int (0 : Int32))] 5 = mkF m 0 #[.val (.ref a), .val (.ref t), .val (.long x), .second, .val (.int (0 : Int32))] [] := by first | (simp [entryFrame, mkF, argsToLocals, Value.category]; done) | rfl
def Q4_0 (Z : State) (a : Addr) (t : Addr) (x : Int64) (h0 : Heap) (n0 : Nat) (v : Option Value) (h : Heap) (L : List Loc) : Prop := v = none ∧ Fr n0 L ∧ Keep h0 h [a] ∧ own_CO Z h a (.ref t) x (0 : Int32)
set_option maxRecDepth 65536 in
set_option maxHeartbeats 40000000 in
theorem rm4_0 (l : Launch) (Z : State) (a0 : Array Value) (hw : ∀ d ∈ tables_1, d.before a0 Z = true) (ws : List Jvm.Cond) (a : Addr) (t : Addr) (x : Int64) (h0 : Heap) (n0 : Nat) (Z0 : n0 ≤ h0.size) (f_O_a : own_CO Z h0 a .null (0 : Int64) (0 : Int32)) (ge_a : n0 ≤ a) :
    MetFree l (⟨"com/example/hermod/hermod/resource/Condition", "<init>", "(Ljava/lang/String;JZ)V"⟩ : MethodName) (head1 (Jvm.Cond.code (⟨"com/example/hermod/hermod/resource/Condition", "<init>", "(Ljava/lang/String;JZ)V"⟩ : MethodName) prog_5_method_1_code 5 none :: ws) ({ frames := 2, cells := 0, slots := 0, locals := 24 } : Room)) (fun aa U => aa = #[(.ref a), (.ref t), (.long x), (.int (0 : Int32))] ∧ Z.Warmed39 U.vm ∧ U.heap = h0) (fun _ _ _ _ _ => True) (fun _ U oc U' => ∃ v L, oc = .returned v ∧ Q4_0 Z a t x h0 n0 v U'.heap L ∧ FrameEnd U oc U' L ({ frames := 2, cells := 0, slots := 0, locals := 24 } : Room).cells ({ frames := 2, cells := 0, slots := 0, locals := 24 } : Room).slots) := by
  refine MetFree.of_bodySF (plainFor_of_name own_pn8) hisR ?_
  intro p e s m args below meth c s₁ Bd hml0 hP hK
  obtain ⟨rfl, hZ, hh⟩ := hP
  have hx := Bd.exec
  have hby := Bd.bytes
  have hlk := Bd.notSynchronized
  have hret := Bd.returns
  have hml : c.maxLocals = 5 := hml0
  have hown : s.vm.findClass "com/example/hermod/hermod/resource/Condition" = some m.cls := findClass_of_methodNamed Bd.named
  have hnm := (name_of_methodNamed Bd.named Bd.method).1
  have X0 : Stand p l e ({ frames := 2, cells := 0, slots := 0, locals := 24 } : Room) s m #[(.ref a), (.ref t), (.long x), (.int (0 : Int32))] below meth c s₁ [] 0 0 := Stand.of_body Bd
  have e0 : s₁.heap = h0 := by rw [← hh, Bd.state]; rfl
  have N0 := Fr.nil n0
  refine own_body (Q := Q4_0 Z a t x h0 n0) (KC := ({ frames := 2, cells := 0, slots := 0, locals := 24 } : Room).cells) (KS := ({ frames := 2, cells := 0, slots := 0, locals := 24 } : Room).slots) ?_
  rw [own_ef_rm4_0 m a t x]
  have Kp : Keep h0 h0 [a] := Keep.refl h0 _
  refine own_aloadN X0 hx hby d4_0 (pc' := 1) rfl rfl rfl ?_
  refine own_lk5 hw X0 hx hZ hby (by rw [hml]; rfl) hown d4_1 (pc' := 4) rfl e0 (W := 0) (Nat.le_of_eq rfl) (rm5 l Z a0 hw [] a h0 n0 Z0 ) (by decide) (by decide) (by decide) (by decide) (fun v1 T1 L1 X1 hQ1 => ?_)
  obtain ⟨rfl, Nq1, e1⟩ := hQ1
  have N1 := Fr.app N0 Nq1
  show own_End p e below _ (T1.setTop (mkF m 4 _ []))
  refine own_aloadN X1 hx hby d4_4 (pc' := 5) rfl rfl rfl ?_
  refine own_aloadN X1 hx hby d4_5 (pc' := 6) rfl rfl rfl ?_
  obtain ⟨f_E_a, f_F_a_etags, f_F_a_date, f_F_a_weak⟩ := f_O_a
  refine own_putF X1 hx hZ hby hown (host := "") (Or.inl (wd_34 hw)) Via.refl e1 f_F_a_etags f_E_a (Or.inr ⟨(wd_35 hw), rfl, hnm⟩) (wd_23 hw) (ty := (.object "java/lang/String")) (by decide) rfl rfl d4_6 (pc' := 9) rfl (fun T2 h2 X2 e2 W2 => ?_)
  have f_F_a_etags := f_F_a_etags.same W2
  have f_E_a := f_E_a.wr W2
  have f_F_a_date := f_F_a_date.other W2 (Or.inr (slot_ne (Or.inr (wd_37 hw)) (Or.inr (wd_35 hw)) (by decide) (t := .long) (t' := (.object "java/lang/String")) (by decide) (by decide)))
  have f_F_a_weak := f_F_a_weak.other W2 (Or.inr (slot_ne (Or.inr (wd_39 hw)) (Or.inr (wd_35 hw)) (by decide) (t := .boolean) (t' := (.object "java/lang/String")) (by decide) (by decide)))
  have Zn := Nat.le_trans Z0 (Keep.of_wr W2).1
  have Kp := Kp.wr W2 (Or.inl (List.mem_of_getElem? (i := 0) rfl))
  have N2 := Fr.snoc X2 N1 ge_a
  refine own_aloadN X2 hx hby d4_9 (pc' := 10) rfl rfl rfl ?_
  refine own_lloadN X2 hx hby d4_10 (pc' := 11) rfl rfl ?_
  refine own_putF X2 hx hZ hby hown (host := "") (Or.inl (wd_36 hw)) Via.refl e2 f_F_a_date f_E_a (Or.inr ⟨(wd_37 hw), rfl, hnm⟩) (wd_23 hw) (ty := .long) (by decide) rfl rfl d4_11 (pc' := 14) rfl (fun T3 h3 X3 e3 W3 => ?_)
  have f_F_a_date := f_F_a_date.same W3
  have f_E_a := f_E_a.wr W3
  have f_F_a_etags := f_F_a_etags.other W3 (Or.inr (slot_ne (Or.inr (wd_35 hw)) (Or.inr (wd_37 hw)) (by decide) (t := (.object "java/lang/String")) (t' := .long) (by decide) (by decide)))
  have f_F_a_weak := f_F_a_weak.other W3 (Or.inr (slot_ne (Or.inr (wd_39 hw)) (Or.inr (wd_37 hw)) (by decide) (t := .boolean) (t' := .long) (by decide) (by decide)))
  have Zn := Nat.le_trans Zn (Keep.of_wr W3).1
  have Kp := Kp.wr W3 (Or.inl (List.mem_of_getElem? (i := 0) rfl))
  have N3 := Fr.snoc X3 N2 ge_a
  refine own_aloadN X3 hx hby d4_14 (pc' := 15) rfl rfl rfl ?_
  refine own_iload X3 hx hby d4_15 (pc' := 17) rfl rfl ?_
  refine own_putN X3 hx hZ hby hown (wd_38 hw) Via.refl e3 f_F_a_weak f_E_a (Or.inr ⟨(wd_39 hw), rfl, hnm⟩) (wd_23 hw) (ty := .boolean) (v' := (.int (0 : Int32))) (by decide) rfl (by decide) d4_17 (pc' := 20) rfl (fun T4 h4 X4 e4 W4 => ?_)
  have f_F_a_weak := f_F_a_weak.same W4
  have f_E_a := f_E_a.wr W4
  have f_F_a_etags := f_F_a_etags.other W4 (Or.inr (slot_ne (Or.inr (wd_35 hw)) (Or.inr (wd_39 hw)) (by decide) (t := (.object "java/lang/String")) (t' := .boolean) (by decide) (by decide)))
  have f_F_a_date := f_F_a_date.other W4 (Or.inr (slot_ne (Or.inr (wd_37 hw)) (Or.inr (wd_39 hw)) (by decide) (t := .long) (t' := .boolean) (by decide) (by decide)))
  have Zn := Nat.le_trans Zn (Keep.of_wr W4).1
  have Kp := Kp.wr W4 (Or.inl (List.mem_of_getElem? (i := 0) rfl))
  have N4 := Fr.snoc X4 N3 ge_a
  refine own_return X4 hx hlk hby hret d4_20 (own_lv ?_ (by decide) (by decide))
  show Q4_0 Z a t x  h0 n0 none T4.heap _
  rw [e4]
  exact ⟨rfl, N4, Kp, ⟨f_E_a, f_F_a_etags, f_F_a_date, f_F_a_weak⟩⟩
theorem own_ef_rm4_1 (m : MethodId) (a : Addr) (t : Addr) (x : Int64)  : entryFrame m #[(.ref a), (.ref t), (.long x), (.int (1 : Int32))] 5 = mkF m 0 #[.val (.ref a), .val (.ref t), .val (.long x), .second, .val (.int (1 : Int32))] [] := by first | (simp [entryFrame, mkF, argsToLocals, Value.category]; done) | rfl
def Q4_1 (Z : State) (a : Addr) (t : Addr) (x : Int64) (h0 : Heap) (n0 : Nat) (v : Option Value) (h : Heap) (L : List Loc) : Prop := v = none ∧ Fr n0 L ∧ Keep h0 h [a] ∧ own_CO Z h a (.ref t) x (1 : Int32)
set_option maxRecDepth 65536 in
set_option maxHeartbeats 40000000 in
theorem rm4_1 (l : Launch) (Z : State) (a0 : Array Value) (hw : ∀ d ∈ tables_1, d.before a0 Z = true) (ws : List Jvm.Cond) (a : Addr) (t : Addr) (x : Int64) (h0 : Heap) (n0 : Nat) (Z0 : n0 ≤ h0.size) (f_O_a : own_CO Z h0 a .null (0 : Int64) (0 : Int32)) (ge_a : n0 ≤ a) :
    MetFree l (⟨"com/example/hermod/hermod/resource/Condition", "<init>", "(Ljava/lang/String;JZ)V"⟩ : MethodName) (head1 (Jvm.Cond.code (⟨"com/example/hermod/hermod/resource/Condition", "<init>", "(Ljava/lang/String;JZ)V"⟩ : MethodName) prog_5_method_1_code 5 none :: ws) ({ frames := 2, cells := 0, slots := 0, locals := 24 } : Room)) (fun aa U => aa = #[(.ref a), (.ref t), (.long x), (.int (1 : Int32))] ∧ Z.Warmed39 U.vm ∧ U.heap = h0) (fun _ _ _ _ _ => True) (fun _ U oc U' => ∃ v L, oc = .returned v ∧ Q4_1 Z a t x h0 n0 v U'.heap L ∧ FrameEnd U oc U' L ({ frames := 2, cells := 0, slots := 0, locals := 24 } : Room).cells ({ frames := 2, cells := 0, slots := 0, locals := 24 } : Room).slots) := by
  refine MetFree.of_bodySF (plainFor_of_name own_pn8) hisR ?_
  intro p e s m args below meth c s₁ Bd hml0 hP hK
  obtain ⟨rfl, hZ, hh⟩ := hP
  have hx := Bd.exec
  have hby := Bd.bytes
  have hlk := Bd.notSynchronized
  have hret := Bd.returns
  have hml : c.maxLocals = 5 := hml0
  have hown : s.vm.findClass "com/example/hermod/hermod/resource/Condition" = some m.cls := findClass_of_methodNamed Bd.named
  have hnm := (name_of_methodNamed Bd.named Bd.method).1
  have X0 : Stand p l e ({ frames := 2, cells := 0, slots := 0, locals := 24 } : Room) s m #[(.ref a), (.ref t), (.long x), (.int (1 : Int32))] below meth c s₁ [] 0 0 := Stand.of_body Bd
  have e0 : s₁.heap = h0 := by rw [← hh, Bd.state]; rfl
  have N0 := Fr.nil n0
  refine own_body (Q := Q4_1 Z a t x h0 n0) (KC := ({ frames := 2, cells := 0, slots := 0, locals := 24 } : Room).cells) (KS := ({ frames := 2, cells := 0, slots := 0, locals := 24 } : Room).slots) ?_
  rw [own_ef_rm4_1 m a t x]
  have Kp : Keep h0 h0 [a] := Keep.refl h0 _
  refine own_aloadN X0 hx hby d4_0 (pc' := 1) rfl rfl rfl ?_
  refine own_lk5 hw X0 hx hZ hby (by rw [hml]; rfl) hown d4_1 (pc' := 4) rfl e0 (W := 0) (Nat.le_of_eq rfl) (rm5 l Z a0 hw [] a h0 n0 Z0 ) (by decide) (by decide) (by decide) (by decide) (fun v1 T1 L1 X1 hQ1 => ?_)
  obtain ⟨rfl, Nq1, e1⟩ := hQ1
  have N1 := Fr.app N0 Nq1
  show own_End p e below _ (T1.setTop (mkF m 4 _ []))
  refine own_aloadN X1 hx hby d4_4 (pc' := 5) rfl rfl rfl ?_
  refine own_aloadN X1 hx hby d4_5 (pc' := 6) rfl rfl rfl ?_
  obtain ⟨f_E_a, f_F_a_etags, f_F_a_date, f_F_a_weak⟩ := f_O_a
  refine own_putF X1 hx hZ hby hown (host := "") (Or.inl (wd_34 hw)) Via.refl e1 f_F_a_etags f_E_a (Or.inr ⟨(wd_35 hw), rfl, hnm⟩) (wd_23 hw) (ty := (.object "java/lang/String")) (by decide) rfl rfl d4_6 (pc' := 9) rfl (fun T2 h2 X2 e2 W2 => ?_)
  have f_F_a_etags := f_F_a_etags.same W2
  have f_E_a := f_E_a.wr W2
  have f_F_a_date := f_F_a_date.other W2 (Or.inr (slot_ne (Or.inr (wd_37 hw)) (Or.inr (wd_35 hw)) (by decide) (t := .long) (t' := (.object "java/lang/String")) (by decide) (by decide)))
  have f_F_a_weak := f_F_a_weak.other W2 (Or.inr (slot_ne (Or.inr (wd_39 hw)) (Or.inr (wd_35 hw)) (by decide) (t := .boolean) (t' := (.object "java/lang/String")) (by decide) (by decide)))
  have Zn := Nat.le_trans Z0 (Keep.of_wr W2).1
  have Kp := Kp.wr W2 (Or.inl (List.mem_of_getElem? (i := 0) rfl))
  have N2 := Fr.snoc X2 N1 ge_a
  refine own_aloadN X2 hx hby d4_9 (pc' := 10) rfl rfl rfl ?_
  refine own_lloadN X2 hx hby d4_10 (pc' := 11) rfl rfl ?_
  refine own_putF X2 hx hZ hby hown (host := "") (Or.inl (wd_36 hw)) Via.refl e2 f_F_a_date f_E_a (Or.inr ⟨(wd_37 hw), rfl, hnm⟩) (wd_23 hw) (ty := .long) (by decide) rfl rfl d4_11 (pc' := 14) rfl (fun T3 h3 X3 e3 W3 => ?_)
  have f_F_a_date := f_F_a_date.same W3
  have f_E_a := f_E_a.wr W3
  have f_F_a_etags := f_F_a_etags.other W3 (Or.inr (slot_ne (Or.inr (wd_35 hw)) (Or.inr (wd_37 hw)) (by decide) (t := (.object "java/lang/String")) (t' := .long) (by decide) (by decide)))
  have f_F_a_weak := f_F_a_weak.other W3 (Or.inr (slot_ne (Or.inr (wd_39 hw)) (Or.inr (wd_37 hw)) (by decide) (t := .boolean) (t' := .long) (by decide) (by decide)))
  have Zn := Nat.le_trans Zn (Keep.of_wr W3).1
  have Kp := Kp.wr W3 (Or.inl (List.mem_of_getElem? (i := 0) rfl))
  have N3 := Fr.snoc X3 N2 ge_a
  refine own_aloadN X3 hx hby d4_14 (pc' := 15) rfl rfl rfl ?_
  refine own_iload X3 hx hby d4_15 (pc' := 17) rfl rfl ?_
  refine own_putN X3 hx hZ hby hown (wd_38 hw) Via.refl e3 f_F_a_weak f_E_a (Or.inr ⟨(wd_39 hw), rfl, hnm⟩) (wd_23 hw) (ty := .boolean) (v' := (.int (1 : Int32))) (by decide) rfl (by decide) d4_17 (pc' := 20) rfl (fun T4 h4 X4 e4 W4 => ?_)
  have f_F_a_weak := f_F_a_weak.same W4
  have f_E_a := f_E_a.wr W4
  have f_F_a_etags := f_F_a_etags.other W4 (Or.inr (slot_ne (Or.inr (wd_35 hw)) (Or.inr (wd_39 hw)) (by decide) (t := (.object "java/lang/String")) (t' := .boolean) (by decide) (by decide)))
  have f_F_a_date := f_F_a_date.other W4 (Or.inr (slot_ne (Or.inr (wd_37 hw)) (Or.inr (wd_39 hw)) (by decide) (t := .long) (t' := .boolean) (by decide) (by decide)))
  have Zn := Nat.le_trans Zn (Keep.of_wr W4).1
  have Kp := Kp.wr W4 (Or.inl (List.mem_of_getElem? (i := 0) rfl))
  have N4 := Fr.snoc X4 N3 ge_a
  refine own_return X4 hx hlk hby hret d4_20 (own_lv ?_ (by decide) (by decide))
  show Q4_1 Z a t x  h0 n0 none T4.heap _
  rw [e4]
  exact ⟨rfl, N4, Kp, ⟨f_E_a, f_F_a_etags, f_F_a_date, f_F_a_weak⟩⟩
theorem own_ef_rm7_0 (m : MethodId) (t : Addr)  : entryFrame m #[(.ref t)] 1 = mkF m 0 #[.val (.ref t)] [] := by first | (simp [entryFrame, mkF, argsToLocals, Value.category]; done) | rfl
def Q7_0 (Z : State) (t : Addr) (d : Addr) (kd : ClassId) (h0 : Heap) (n0 : Nat) (v : Option Value) (h : Heap) (L : List Loc) : Prop := v = some (.int 1) ∧ Fr n0 L ∧ h = h0
set_option maxRecDepth 65536 in
set_option maxHeartbeats 40000000 in
theorem rm7_0 (l : Launch) (Z : State) (a0 : Array Value) (hw : ∀ d ∈ tables_1, d.before a0 Z = true) (ws : List Jvm.Cond) (t : Addr) (d : Addr) (kd : ClassId) (h0 : Heap) (n0 : Nat) (Z0 : n0 ≤ h0.size) (f_O_t : own_SO Z h0 t (.ref d) (0 : Int32)) (f_V_d : Arv Z h0 d kd .byte (0 : Int32) [] (.int (0 : Int32))) :
    MetFree l (⟨"java/lang/String", "isEmpty", "()Z"⟩ : MethodName) (head1 (Jvm.Cond.code (⟨"java/lang/String", "isEmpty", "()Z"⟩ : MethodName) jdk_42_method_55_code 1 (some .boolean) :: ws) ({ frames := 0, cells := 0, slots := 0, locals := 0 } : Room)) (fun aa U => aa = #[(.ref t)] ∧ Z.Warmed39 U.vm ∧ U.heap = h0) (fun _ _ _ _ _ => True) (fun _ U oc U' => ∃ v L, oc = .returned v ∧ Q7_0 Z t d kd h0 n0 v U'.heap L ∧ FrameEnd U oc U' L ({ frames := 0, cells := 0, slots := 0, locals := 0 } : Room).cells ({ frames := 0, cells := 0, slots := 0, locals := 0 } : Room).slots) := by
  refine MetFree.of_bodySF (plainFor_of_name own_pn0) hisR ?_
  intro p e s m args below meth c s₁ Bd hml0 hP hK
  obtain ⟨rfl, hZ, hh⟩ := hP
  have hx := Bd.exec
  have hby := Bd.bytes
  have hlk := Bd.notSynchronized
  have hret := Bd.returns
  have hml : c.maxLocals = 1 := hml0
  have hown : s.vm.findClass "java/lang/String" = some m.cls := findClass_of_methodNamed Bd.named
  have hnm := (name_of_methodNamed Bd.named Bd.method).1
  have X0 : Stand p l e ({ frames := 0, cells := 0, slots := 0, locals := 0 } : Room) s m #[(.ref t)] below meth c s₁ [] 0 0 := Stand.of_body Bd
  have e0 : s₁.heap = h0 := by rw [← hh, Bd.state]; rfl
  have N0 := Fr.nil n0
  refine own_body (Q := Q7_0 Z t d kd h0 n0) (KC := ({ frames := 0, cells := 0, slots := 0, locals := 0 } : Room).cells) (KS := ({ frames := 0, cells := 0, slots := 0, locals := 0 } : Room).slots) ?_
  rw [own_ef_rm7_0 m t]
  refine own_aloadN X0 hx hby d7_0 (pc' := 1) rfl rfl rfl ?_
  obtain ⟨f_E_t, f_F_t_value, f_F_t_coder⟩ := f_O_t
  refine own_getF X0 hx hZ hby hown (host := "") (Or.inl (wd_20 hw)) Via.refl e0 f_F_t_value d7_1 (pc' := 4) rfl (fun T1 X1 e1 => ?_)
  obtain ⟨cl2, Ar2, q2, S2, M2, H2, G2⟩ := id f_V_d
  refine own_alen X1 hx hZ hby e1 Ar2 S2 M2 d7_4 (pc' := 5) rfl ?_
  refine own_ifN X1 hx hby d7_5 (pc' := 8) rfl (show (0 : Int32) = (0 : Int32) by decide) ?_
  refine own_iconst X1 hx hby d7_8 (pc' := 9) rfl (n := (1 : Int32)) (by decide) ?_
  refine own_goto X1 hx hby d7_9 (pc' := 13) (by decide) (by decide) ?_
  refine own_zreturn X1 hx hlk hby hret (Or.inr rfl) d7_13 (own_lv ?_ (by decide) (by decide))
  show Q7_0 Z t d kd  h0 n0 (some (.int (1 : Int32))) T1.heap _
  rw [e1]
  exact ⟨rfl, N0, rfl⟩
theorem own_ef_rm6_0a (m : MethodId) (a : Addr)  : entryFrame m #[(.ref a)] 1 = mkF m 0 #[.val (.ref a)] [] := by first | (simp [entryFrame, mkF, argsToLocals, Value.category]; done) | rfl
def Q6_0a (Z : State) (a : Addr) (x : Int64) (wk : Int32) (t : Addr) (d : Addr) (kd : ClassId) (h0 : Heap) (n0 : Nat) (v : Option Value) (h : Heap) (L : List Loc) : Prop := v = some (.int 0) ∧ Fr n0 L ∧ h = h0
set_option maxRecDepth 65536 in
set_option maxHeartbeats 40000000 in
theorem rm6_0a (l : Launch) (Z : State) (a0 : Array Value) (hw : ∀ d ∈ tables_1, d.before a0 Z = true) (ws : List Jvm.Cond) (a : Addr) (x : Int64) (wk : Int32) (t : Addr) (d : Addr) (kd : ClassId) (h0 : Heap) (n0 : Nat) (Z0 : n0 ≤ h0.size) (f_O_a : own_CO Z h0 a (.ref t) x wk) (f_O_t : own_SO Z h0 t (.ref d) (0 : Int32)) (f_V_d : Arv Z h0 d kd .byte (0 : Int32) [] (.int (0 : Int32))) (hx' : x = (0 : Int64)) :
    MetFree l (⟨"com/example/hermod/hermod/resource/Condition", "isGiven", "()Z"⟩ : MethodName) (head1 (Jvm.Cond.code (⟨"com/example/hermod/hermod/resource/Condition", "isGiven", "()Z"⟩ : MethodName) prog_5_method_4_code 1 (some .boolean) :: ws) ({ frames := 1, cells := 0, slots := 0, locals := 12 } : Room)) (fun aa U => aa = #[(.ref a)] ∧ Z.Warmed39 U.vm ∧ U.heap = h0) (fun _ _ _ _ _ => True) (fun _ U oc U' => ∃ v L, oc = .returned v ∧ Q6_0a Z a x wk t d kd h0 n0 v U'.heap L ∧ FrameEnd U oc U' L ({ frames := 1, cells := 0, slots := 0, locals := 12 } : Room).cells ({ frames := 1, cells := 0, slots := 0, locals := 12 } : Room).slots) := by
  refine MetFree.of_bodySF (plainFor_of_name own_pn8) hisR ?_
  intro p e s m args below meth c s₁ Bd hml0 hP hK
  obtain ⟨rfl, hZ, hh⟩ := hP
  have hx := Bd.exec
  have hby := Bd.bytes
  have hlk := Bd.notSynchronized
  have hret := Bd.returns
  have hml : c.maxLocals = 1 := hml0
  have hown : s.vm.findClass "com/example/hermod/hermod/resource/Condition" = some m.cls := findClass_of_methodNamed Bd.named
  have hnm := (name_of_methodNamed Bd.named Bd.method).1
  have X0 : Stand p l e ({ frames := 1, cells := 0, slots := 0, locals := 12 } : Room) s m #[(.ref a)] below meth c s₁ [] 0 0 := Stand.of_body Bd
  have e0 : s₁.heap = h0 := by rw [← hh, Bd.state]; rfl
  have N0 := Fr.nil n0
  refine own_body (Q := Q6_0a Z a x wk t d kd h0 n0) (KC := ({ frames := 1, cells := 0, slots := 0, locals := 12 } : Room).cells) (KS := ({ frames := 1, cells := 0, slots := 0, locals := 12 } : Room).slots) ?_
  rw [own_ef_rm6_0a m a]
  refine own_aloadN X0 hx hby d6_0 (pc' := 1) rfl rfl rfl ?_
  obtain ⟨f_E_a, f_F_a_etags, f_F_a_date, f_F_a_weak⟩ := f_O_a
  refine own_getF X0 hx hZ hby hown (host := "") (Or.inl (wd_34 hw)) Via.refl e0 f_F_a_etags d6_1 (pc' := 4) rfl (fun T1 X1 e1 => ?_)
  refine own_lk6 hw X1 hx hZ hby (by rw [hml]; rfl) hown d6_4 (pc' := 7) rfl e1 f_O_t.1 (W := 0) (Nat.le_of_eq rfl) (rm7_0 l Z a0 hw [] t d kd h0 n0 Z0 f_O_t f_V_d) (by decide) (by decide) (by decide) (by decide) (fun v2 T2 L2 X2 hQ2 => ?_)
  obtain ⟨rfl, Nq2, e2⟩ := hQ2
  have N2 := Fr.app N0 Nq2
  show own_End p e below _ (T2.setTop (mkF m 7 _ [(.int (1 : Int32))]))
  refine own_ifN X2 hx hby d6_7 (pc' := 10) rfl (show ¬ (1 : Int32) = (0 : Int32) by decide) ?_
  refine own_aloadN X2 hx hby d6_10 (pc' := 11) rfl rfl rfl ?_
  refine own_getF X2 hx hZ hby hown (host := "") (Or.inl (wd_36 hw)) Via.refl e2 f_F_a_date d6_11 (pc' := 14) rfl (fun T3 X3 e3 => ?_)
  refine own_lconst X3 hx hby d6_14 (pc' := 15) rfl (n := (0 : Int64)) (by decide) ?_
  refine own_lcmp X3 hx hby d6_15 (pc' := 16) rfl ?_
  refine own_ifY X3 hx hby d6_16 (pc' := 23) (by decide) (by decide) (own_ctL_y (show x = (0 : Int64) from hx')) ?_
  refine own_iconst X3 hx hby d6_23 (pc' := 24) rfl (n := (0 : Int32)) (by decide) ?_
  refine own_zreturn X3 hx hlk hby hret (Or.inl rfl) d6_24 (own_lv ?_ (by decide) (by decide))
  show Q6_0a Z a x wk t d kd  h0 n0 (some (.int (0 : Int32))) T3.heap _
  rw [e3]
  exact ⟨rfl, N2, rfl⟩
theorem own_ef_rm6_0b (m : MethodId) (a : Addr)  : entryFrame m #[(.ref a)] 1 = mkF m 0 #[.val (.ref a)] [] := by first | (simp [entryFrame, mkF, argsToLocals, Value.category]; done) | rfl
def Q6_0b (Z : State) (a : Addr) (x : Int64) (wk : Int32) (t : Addr) (d : Addr) (kd : ClassId) (h0 : Heap) (n0 : Nat) (v : Option Value) (h : Heap) (L : List Loc) : Prop := v = some (.int 1) ∧ Fr n0 L ∧ h = h0
set_option maxRecDepth 65536 in
set_option maxHeartbeats 40000000 in
theorem rm6_0b (l : Launch) (Z : State) (a0 : Array Value) (hw : ∀ d ∈ tables_1, d.before a0 Z = true) (ws : List Jvm.Cond) (a : Addr) (x : Int64) (wk : Int32) (t : Addr) (d : Addr) (kd : ClassId) (h0 : Heap) (n0 : Nat) (Z0 : n0 ≤ h0.size) (f_O_a : own_CO Z h0 a (.ref t) x wk) (f_O_t : own_SO Z h0 t (.ref d) (0 : Int32)) (f_V_d : Arv Z h0 d kd .byte (0 : Int32) [] (.int (0 : Int32))) (hx' : ¬ x = (0 : Int64)) :
    MetFree l (⟨"com/example/hermod/hermod/resource/Condition", "isGiven", "()Z"⟩ : MethodName) (head1 (Jvm.Cond.code (⟨"com/example/hermod/hermod/resource/Condition", "isGiven", "()Z"⟩ : MethodName) prog_5_method_4_code 1 (some .boolean) :: ws) ({ frames := 1, cells := 0, slots := 0, locals := 12 } : Room)) (fun aa U => aa = #[(.ref a)] ∧ Z.Warmed39 U.vm ∧ U.heap = h0) (fun _ _ _ _ _ => True) (fun _ U oc U' => ∃ v L, oc = .returned v ∧ Q6_0b Z a x wk t d kd h0 n0 v U'.heap L ∧ FrameEnd U oc U' L ({ frames := 1, cells := 0, slots := 0, locals := 12 } : Room).cells ({ frames := 1, cells := 0, slots := 0, locals := 12 } : Room).slots) := by
  refine MetFree.of_bodySF (plainFor_of_name own_pn8) hisR ?_
  intro p e s m args below meth c s₁ Bd hml0 hP hK
  obtain ⟨rfl, hZ, hh⟩ := hP
  have hx := Bd.exec
  have hby := Bd.bytes
  have hlk := Bd.notSynchronized
  have hret := Bd.returns
  have hml : c.maxLocals = 1 := hml0
  have hown : s.vm.findClass "com/example/hermod/hermod/resource/Condition" = some m.cls := findClass_of_methodNamed Bd.named
  have hnm := (name_of_methodNamed Bd.named Bd.method).1
  have X0 : Stand p l e ({ frames := 1, cells := 0, slots := 0, locals := 12 } : Room) s m #[(.ref a)] below meth c s₁ [] 0 0 := Stand.of_body Bd
  have e0 : s₁.heap = h0 := by rw [← hh, Bd.state]; rfl
  have N0 := Fr.nil n0
  refine own_body (Q := Q6_0b Z a x wk t d kd h0 n0) (KC := ({ frames := 1, cells := 0, slots := 0, locals := 12 } : Room).cells) (KS := ({ frames := 1, cells := 0, slots := 0, locals := 12 } : Room).slots) ?_
  rw [own_ef_rm6_0b m a]
  refine own_aloadN X0 hx hby d6_0 (pc' := 1) rfl rfl rfl ?_
  obtain ⟨f_E_a, f_F_a_etags, f_F_a_date, f_F_a_weak⟩ := f_O_a
  refine own_getF X0 hx hZ hby hown (host := "") (Or.inl (wd_34 hw)) Via.refl e0 f_F_a_etags d6_1 (pc' := 4) rfl (fun T1 X1 e1 => ?_)
  refine own_lk6 hw X1 hx hZ hby (by rw [hml]; rfl) hown d6_4 (pc' := 7) rfl e1 f_O_t.1 (W := 0) (Nat.le_of_eq rfl) (rm7_0 l Z a0 hw [] t d kd h0 n0 Z0 f_O_t f_V_d) (by decide) (by decide) (by decide) (by decide) (fun v2 T2 L2 X2 hQ2 => ?_)
  obtain ⟨rfl, Nq2, e2⟩ := hQ2
  have N2 := Fr.app N0 Nq2
  show own_End p e below _ (T2.setTop (mkF m 7 _ [(.int (1 : Int32))]))
  refine own_ifN X2 hx hby d6_7 (pc' := 10) rfl (show ¬ (1 : Int32) = (0 : Int32) by decide) ?_
  refine own_aloadN X2 hx hby d6_10 (pc' := 11) rfl rfl rfl ?_
  refine own_getF X2 hx hZ hby hown (host := "") (Or.inl (wd_36 hw)) Via.refl e2 f_F_a_date d6_11 (pc' := 14) rfl (fun T3 X3 e3 => ?_)
  refine own_lconst X3 hx hby d6_14 (pc' := 15) rfl (n := (0 : Int64)) (by decide) ?_
  refine own_lcmp X3 hx hby d6_15 (pc' := 16) rfl ?_
  refine own_ifN X3 hx hby d6_16 (pc' := 19) rfl (own_ctL_n (show ¬ x = (0 : Int64) from hx')) ?_
  refine own_iconst X3 hx hby d6_19 (pc' := 20) rfl (n := (1 : Int32)) (by decide) ?_
  refine own_goto X3 hx hby d6_20 (pc' := 24) (by decide) (by decide) ?_
  refine own_zreturn X3 hx hlk hby hret (Or.inr rfl) d6_24 (own_lv ?_ (by decide) (by decide))
  show Q6_0b Z a x wk t d kd  h0 n0 (some (.int (1 : Int32))) T3.heap _
  rw [e3]
  exact ⟨rfl, N2, rfl⟩
theorem own_ef_rm7_1 (m : MethodId) (t : Addr)  : entryFrame m #[(.ref t)] 1 = mkF m 0 #[.val (.ref t)] [] := by first | (simp [entryFrame, mkF, argsToLocals, Value.category]; done) | rfl
def Q7_1 (Z : State) (t : Addr) (d : Addr) (kd : ClassId) (u0 : Int32) (h0 : Heap) (n0 : Nat) (v : Option Value) (h : Heap) (L : List Loc) : Prop := v = some (.int 0) ∧ Fr n0 L ∧ h = h0
set_option maxRecDepth 65536 in
set_option maxHeartbeats 40000000 in
theorem rm7_1 (l : Launch) (Z : State) (a0 : Array Value) (hw : ∀ d ∈ tables_1, d.before a0 Z = true) (ws : List Jvm.Cond) (t : Addr) (d : Addr) (kd : ClassId) (u0 : Int32) (h0 : Heap) (n0 : Nat) (Z0 : n0 ≤ h0.size) (f_O_t : own_SO Z h0 t (.ref d) (0 : Int32)) (f_V_d : Arv Z h0 d kd .byte (1 : Int32) [(.int u0)] (.int (0 : Int32))) :
    MetFree l (⟨"java/lang/String", "isEmpty", "()Z"⟩ : MethodName) (head1 (Jvm.Cond.code (⟨"java/lang/String", "isEmpty", "()Z"⟩ : MethodName) jdk_42_method_55_code 1 (some .boolean) :: ws) ({ frames := 0, cells := 0, slots := 0, locals := 0 } : Room)) (fun aa U => aa = #[(.ref t)] ∧ Z.Warmed39 U.vm ∧ U.heap = h0) (fun _ _ _ _ _ => True) (fun _ U oc U' => ∃ v L, oc = .returned v ∧ Q7_1 Z t d kd u0 h0 n0 v U'.heap L ∧ FrameEnd U oc U' L ({ frames := 0, cells := 0, slots := 0, locals := 0 } : Room).cells ({ frames := 0, cells := 0, slots := 0, locals := 0 } : Room).slots) := by
  refine MetFree.of_bodySF (plainFor_of_name own_pn0) hisR ?_
  intro p e s m args below meth c s₁ Bd hml0 hP hK
  obtain ⟨rfl, hZ, hh⟩ := hP
  have hx := Bd.exec
  have hby := Bd.bytes
  have hlk := Bd.notSynchronized
  have hret := Bd.returns
  have hml : c.maxLocals = 1 := hml0
  have hown : s.vm.findClass "java/lang/String" = some m.cls := findClass_of_methodNamed Bd.named
  have hnm := (name_of_methodNamed Bd.named Bd.method).1
  have X0 : Stand p l e ({ frames := 0, cells := 0, slots := 0, locals := 0 } : Room) s m #[(.ref t)] below meth c s₁ [] 0 0 := Stand.of_body Bd
  have e0 : s₁.heap = h0 := by rw [← hh, Bd.state]; rfl
  have N0 := Fr.nil n0
  refine own_body (Q := Q7_1 Z t d kd u0 h0 n0) (KC := ({ frames := 0, cells := 0, slots := 0, locals := 0 } : Room).cells) (KS := ({ frames := 0, cells := 0, slots := 0, locals := 0 } : Room).slots) ?_
  rw [own_ef_rm7_1 m t]
  refine own_aloadN X0 hx hby d7_0 (pc' := 1) rfl rfl rfl ?_
  obtain ⟨f_E_t, f_F_t_value, f_F_t_coder⟩ := f_O_t
  refine own_getF X0 hx hZ hby hown (host := "") (Or.inl (wd_20 hw)) Via.refl e0 f_F_t_value d7_1 (pc' := 4) rfl (fun T1 X1 e1 => ?_)
  obtain ⟨cl2, Ar2, q2, S2, M2, H2, G2⟩ := id f_V_d
  refine own_alen X1 hx hZ hby e1 Ar2 S2 M2 d7_4 (pc' := 5) rfl ?_
  refine own_ifY X1 hx hby d7_5 (pc' := 12) (by decide) (by decide) (show ¬ (1 : Int32) = (0 : Int32) by decide) ?_
  refine own_iconst X1 hx hby d7_12 (pc' := 13) rfl (n := (0 : Int32)) (by decide) ?_
  refine own_zreturn X1 hx hlk hby hret (Or.inl rfl) d7_13 (own_lv ?_ (by decide) (by decide))
  show Q7_1 Z t d kd u0  h0 n0 (some (.int (0 : Int32))) T1.heap _
  rw [e1]
  exact ⟨rfl, N0, rfl⟩
theorem own_ef_rm6_1 (m : MethodId) (a : Addr)  : entryFrame m #[(.ref a)] 1 = mkF m 0 #[.val (.ref a)] [] := by first | (simp [entryFrame, mkF, argsToLocals, Value.category]; done) | rfl
def Q6_1 (Z : State) (a : Addr) (x : Int64) (wk : Int32) (t : Addr) (d : Addr) (kd : ClassId) (u0 : Int32) (h0 : Heap) (n0 : Nat) (v : Option Value) (h : Heap) (L : List Loc) : Prop := v = some (.int 1) ∧ Fr n0 L ∧ h = h0
set_option maxRecDepth 65536 in
set_option maxHeartbeats 40000000 in
theorem rm6_1 (l : Launch) (Z : State) (a0 : Array Value) (hw : ∀ d ∈ tables_1, d.before a0 Z = true) (ws : List Jvm.Cond) (a : Addr) (x : Int64) (wk : Int32) (t : Addr) (d : Addr) (kd : ClassId) (u0 : Int32) (h0 : Heap) (n0 : Nat) (Z0 : n0 ≤ h0.size) (f_O_a : own_CO Z h0 a (.ref t) x wk) (f_O_t : own_SO Z h0 t (.ref d) (0 : Int32)) (f_V_d : Arv Z h0 d kd .byte (1 : Int32) [(.int u0)] (.int (0 : Int32))) :
    MetFree l (⟨"com/example/hermod/hermod/resource/Condition", "isGiven", "()Z"⟩ : MethodName) (head1 (Jvm.Cond.code (⟨"com/example/hermod/hermod/resource/Condition", "isGiven", "()Z"⟩ : MethodName) prog_5_method_4_code 1 (some .boolean) :: ws) ({ frames := 1, cells := 0, slots := 0, locals := 12 } : Room)) (fun aa U => aa = #[(.ref a)] ∧ Z.Warmed39 U.vm ∧ U.heap = h0) (fun _ _ _ _ _ => True) (fun _ U oc U' => ∃ v L, oc = .returned v ∧ Q6_1 Z a x wk t d kd u0 h0 n0 v U'.heap L ∧ FrameEnd U oc U' L ({ frames := 1, cells := 0, slots := 0, locals := 12 } : Room).cells ({ frames := 1, cells := 0, slots := 0, locals := 12 } : Room).slots) := by
  refine MetFree.of_bodySF (plainFor_of_name own_pn8) hisR ?_
  intro p e s m args below meth c s₁ Bd hml0 hP hK
  obtain ⟨rfl, hZ, hh⟩ := hP
  have hx := Bd.exec
  have hby := Bd.bytes
  have hlk := Bd.notSynchronized
  have hret := Bd.returns
  have hml : c.maxLocals = 1 := hml0
  have hown : s.vm.findClass "com/example/hermod/hermod/resource/Condition" = some m.cls := findClass_of_methodNamed Bd.named
  have hnm := (name_of_methodNamed Bd.named Bd.method).1
  have X0 : Stand p l e ({ frames := 1, cells := 0, slots := 0, locals := 12 } : Room) s m #[(.ref a)] below meth c s₁ [] 0 0 := Stand.of_body Bd
  have e0 : s₁.heap = h0 := by rw [← hh, Bd.state]; rfl
  have N0 := Fr.nil n0
  refine own_body (Q := Q6_1 Z a x wk t d kd u0 h0 n0) (KC := ({ frames := 1, cells := 0, slots := 0, locals := 12 } : Room).cells) (KS := ({ frames := 1, cells := 0, slots := 0, locals := 12 } : Room).slots) ?_
  rw [own_ef_rm6_1 m a]
  refine own_aloadN X0 hx hby d6_0 (pc' := 1) rfl rfl rfl ?_
  obtain ⟨f_E_a, f_F_a_etags, f_F_a_date, f_F_a_weak⟩ := f_O_a
  refine own_getF X0 hx hZ hby hown (host := "") (Or.inl (wd_34 hw)) Via.refl e0 f_F_a_etags d6_1 (pc' := 4) rfl (fun T1 X1 e1 => ?_)
  refine own_lk6 hw X1 hx hZ hby (by rw [hml]; rfl) hown d6_4 (pc' := 7) rfl e1 f_O_t.1 (W := 0) (Nat.le_of_eq rfl) (rm7_1 l Z a0 hw [] t d kd u0 h0 n0 Z0 f_O_t f_V_d) (by decide) (by decide) (by decide) (by decide) (fun v2 T2 L2 X2 hQ2 => ?_)
  obtain ⟨rfl, Nq2, e2⟩ := hQ2
  have N2 := Fr.app N0 Nq2
  show own_End p e below _ (T2.setTop (mkF m 7 _ [(.int (0 : Int32))]))
  refine own_ifY X2 hx hby d6_7 (pc' := 19) (by decide) (by decide) (show (0 : Int32) = (0 : Int32) by decide) ?_
  refine own_iconst X2 hx hby d6_19 (pc' := 20) rfl (n := (1 : Int32)) (by decide) ?_
  refine own_goto X2 hx hby d6_20 (pc' := 24) (by decide) (by decide) ?_
  refine own_zreturn X2 hx hlk hby hret (Or.inr rfl) d6_24 (own_lv ?_ (by decide) (by decide))
  show Q6_1 Z a x wk t d kd u0  h0 n0 (some (.int (1 : Int32))) T2.heap _
  rw [e2]
  exact ⟨rfl, N2, rfl⟩
theorem own_ef_rm7_2 (m : MethodId) (t : Addr)  : entryFrame m #[(.ref t)] 1 = mkF m 0 #[.val (.ref t)] [] := by first | (simp [entryFrame, mkF, argsToLocals, Value.category]; done) | rfl
def Q7_2 (Z : State) (t : Addr) (d : Addr) (kd : ClassId) (u0 : Int32) (u1 : Int32) (h0 : Heap) (n0 : Nat) (v : Option Value) (h : Heap) (L : List Loc) : Prop := v = some (.int 0) ∧ Fr n0 L ∧ h = h0
set_option maxRecDepth 65536 in
set_option maxHeartbeats 40000000 in
theorem rm7_2 (l : Launch) (Z : State) (a0 : Array Value) (hw : ∀ d ∈ tables_1, d.before a0 Z = true) (ws : List Jvm.Cond) (t : Addr) (d : Addr) (kd : ClassId) (u0 : Int32) (u1 : Int32) (h0 : Heap) (n0 : Nat) (Z0 : n0 ≤ h0.size) (f_O_t : own_SO Z h0 t (.ref d) (0 : Int32)) (f_V_d : Arv Z h0 d kd .byte (2 : Int32) [(.int u0), (.int u1)] (.int (0 : Int32))) :
    MetFree l (⟨"java/lang/String", "isEmpty", "()Z"⟩ : MethodName) (head1 (Jvm.Cond.code (⟨"java/lang/String", "isEmpty", "()Z"⟩ : MethodName) jdk_42_method_55_code 1 (some .boolean) :: ws) ({ frames := 0, cells := 0, slots := 0, locals := 0 } : Room)) (fun aa U => aa = #[(.ref t)] ∧ Z.Warmed39 U.vm ∧ U.heap = h0) (fun _ _ _ _ _ => True) (fun _ U oc U' => ∃ v L, oc = .returned v ∧ Q7_2 Z t d kd u0 u1 h0 n0 v U'.heap L ∧ FrameEnd U oc U' L ({ frames := 0, cells := 0, slots := 0, locals := 0 } : Room).cells ({ frames := 0, cells := 0, slots := 0, locals := 0 } : Room).slots) := by
  refine MetFree.of_bodySF (plainFor_of_name own_pn0) hisR ?_
  intro p e s m args below meth c s₁ Bd hml0 hP hK
  obtain ⟨rfl, hZ, hh⟩ := hP
  have hx := Bd.exec
  have hby := Bd.bytes
  have hlk := Bd.notSynchronized
  have hret := Bd.returns
  have hml : c.maxLocals = 1 := hml0
  have hown : s.vm.findClass "java/lang/String" = some m.cls := findClass_of_methodNamed Bd.named
  have hnm := (name_of_methodNamed Bd.named Bd.method).1
  have X0 : Stand p l e ({ frames := 0, cells := 0, slots := 0, locals := 0 } : Room) s m #[(.ref t)] below meth c s₁ [] 0 0 := Stand.of_body Bd
  have e0 : s₁.heap = h0 := by rw [← hh, Bd.state]; rfl
  have N0 := Fr.nil n0
  refine own_body (Q := Q7_2 Z t d kd u0 u1 h0 n0) (KC := ({ frames := 0, cells := 0, slots := 0, locals := 0 } : Room).cells) (KS := ({ frames := 0, cells := 0, slots := 0, locals := 0 } : Room).slots) ?_
  rw [own_ef_rm7_2 m t]
  refine own_aloadN X0 hx hby d7_0 (pc' := 1) rfl rfl rfl ?_
  obtain ⟨f_E_t, f_F_t_value, f_F_t_coder⟩ := f_O_t
  refine own_getF X0 hx hZ hby hown (host := "") (Or.inl (wd_20 hw)) Via.refl e0 f_F_t_value d7_1 (pc' := 4) rfl (fun T1 X1 e1 => ?_)
  obtain ⟨cl2, Ar2, q2, S2, M2, H2, G2⟩ := id f_V_d
  refine own_alen X1 hx hZ hby e1 Ar2 S2 M2 d7_4 (pc' := 5) rfl ?_
  refine own_ifY X1 hx hby d7_5 (pc' := 12) (by decide) (by decide) (show ¬ (2 : Int32) = (0 : Int32) by decide) ?_
  refine own_iconst X1 hx hby d7_12 (pc' := 13) rfl (n := (0 : Int32)) (by decide) ?_
  refine own_zreturn X1 hx hlk hby hret (Or.inl rfl) d7_13 (own_lv ?_ (by decide) (by decide))
  show Q7_2 Z t d kd u0 u1  h0 n0 (some (.int (0 : Int32))) T1.heap _
  rw [e1]
  exact ⟨rfl, N0, rfl⟩
theorem own_ef_rm6_2 (m : MethodId) (a : Addr)  : entryFrame m #[(.ref a)] 1 = mkF m 0 #[.val (.ref a)] [] := by first | (simp [entryFrame, mkF, argsToLocals, Value.category]; done) | rfl
def Q6_2 (Z : State) (a : Addr) (x : Int64) (wk : Int32) (t : Addr) (d : Addr) (kd : ClassId) (u0 : Int32) (u1 : Int32) (h0 : Heap) (n0 : Nat) (v : Option Value) (h : Heap) (L : List Loc) : Prop := v = some (.int 1) ∧ Fr n0 L ∧ h = h0
set_option maxRecDepth 65536 in
set_option maxHeartbeats 40000000 in
theorem rm6_2 (l : Launch) (Z : State) (a0 : Array Value) (hw : ∀ d ∈ tables_1, d.before a0 Z = true) (ws : List Jvm.Cond) (a : Addr) (x : Int64) (wk : Int32) (t : Addr) (d : Addr) (kd : ClassId) (u0 : Int32) (u1 : Int32) (h0 : Heap) (n0 : Nat) (Z0 : n0 ≤ h0.size) (f_O_a : own_CO Z h0 a (.ref t) x wk) (f_O_t : own_SO Z h0 t (.ref d) (0 : Int32)) (f_V_d : Arv Z h0 d kd .byte (2 : Int32) [(.int u0), (.int u1)] (.int (0 : Int32))) :
    MetFree l (⟨"com/example/hermod/hermod/resource/Condition", "isGiven", "()Z"⟩ : MethodName) (head1 (Jvm.Cond.code (⟨"com/example/hermod/hermod/resource/Condition", "isGiven", "()Z"⟩ : MethodName) prog_5_method_4_code 1 (some .boolean) :: ws) ({ frames := 1, cells := 0, slots := 0, locals := 12 } : Room)) (fun aa U => aa = #[(.ref a)] ∧ Z.Warmed39 U.vm ∧ U.heap = h0) (fun _ _ _ _ _ => True) (fun _ U oc U' => ∃ v L, oc = .returned v ∧ Q6_2 Z a x wk t d kd u0 u1 h0 n0 v U'.heap L ∧ FrameEnd U oc U' L ({ frames := 1, cells := 0, slots := 0, locals := 12 } : Room).cells ({ frames := 1, cells := 0, slots := 0, locals := 12 } : Room).slots) := by
  refine MetFree.of_bodySF (plainFor_of_name own_pn8) hisR ?_
  intro p e s m args below meth c s₁ Bd hml0 hP hK
  obtain ⟨rfl, hZ, hh⟩ := hP
  have hx := Bd.exec
  have hby := Bd.bytes
  have hlk := Bd.notSynchronized
  have hret := Bd.returns
  have hml : c.maxLocals = 1 := hml0
  have hown : s.vm.findClass "com/example/hermod/hermod/resource/Condition" = some m.cls := findClass_of_methodNamed Bd.named
  have hnm := (name_of_methodNamed Bd.named Bd.method).1
  have X0 : Stand p l e ({ frames := 1, cells := 0, slots := 0, locals := 12 } : Room) s m #[(.ref a)] below meth c s₁ [] 0 0 := Stand.of_body Bd
  have e0 : s₁.heap = h0 := by rw [← hh, Bd.state]; rfl
  have N0 := Fr.nil n0
  refine own_body (Q := Q6_2 Z a x wk t d kd u0 u1 h0 n0) (KC := ({ frames := 1, cells := 0, slots := 0, locals := 12 } : Room).cells) (KS := ({ frames := 1, cells := 0, slots := 0, locals := 12 } : Room).slots) ?_
  rw [own_ef_rm6_2 m a]
  refine own_aloadN X0 hx hby d6_0 (pc' := 1) rfl rfl rfl ?_
  obtain ⟨f_E_a, f_F_a_etags, f_F_a_date, f_F_a_weak⟩ := f_O_a
  refine own_getF X0 hx hZ hby hown (host := "") (Or.inl (wd_34 hw)) Via.refl e0 f_F_a_etags d6_1 (pc' := 4) rfl (fun T1 X1 e1 => ?_)
  refine own_lk6 hw X1 hx hZ hby (by rw [hml]; rfl) hown d6_4 (pc' := 7) rfl e1 f_O_t.1 (W := 0) (Nat.le_of_eq rfl) (rm7_2 l Z a0 hw [] t d kd u0 u1 h0 n0 Z0 f_O_t f_V_d) (by decide) (by decide) (by decide) (by decide) (fun v2 T2 L2 X2 hQ2 => ?_)
  obtain ⟨rfl, Nq2, e2⟩ := hQ2
  have N2 := Fr.app N0 Nq2
  show own_End p e below _ (T2.setTop (mkF m 7 _ [(.int (0 : Int32))]))
  refine own_ifY X2 hx hby d6_7 (pc' := 19) (by decide) (by decide) (show (0 : Int32) = (0 : Int32) by decide) ?_
  refine own_iconst X2 hx hby d6_19 (pc' := 20) rfl (n := (1 : Int32)) (by decide) ?_
  refine own_goto X2 hx hby d6_20 (pc' := 24) (by decide) (by decide) ?_
  refine own_zreturn X2 hx hlk hby hret (Or.inr rfl) d6_24 (own_lv ?_ (by decide) (by decide))
  show Q6_2 Z a x wk t d kd u0 u1  h0 n0 (some (.int (1 : Int32))) T2.heap _
  rw [e2]
  exact ⟨rfl, N2, rfl⟩
theorem own_ef_rm7_3 (m : MethodId) (t : Addr)  : entryFrame m #[(.ref t)] 1 = mkF m 0 #[.val (.ref t)] [] := by first | (simp [entryFrame, mkF, argsToLocals, Value.category]; done) | rfl
def Q7_3 (Z : State) (t : Addr) (d : Addr) (kd : ClassId) (u0 : Int32) (u1 : Int32) (u2 : Int32) (h0 : Heap) (n0 : Nat) (v : Option Value) (h : Heap) (L : List Loc) : Prop := v = some (.int 0) ∧ Fr n0 L ∧ h = h0
set_option maxRecDepth 65536 in
set_option maxHeartbeats 40000000 in
theorem rm7_3 (l : Launch) (Z : State) (a0 : Array Value) (hw : ∀ d ∈ tables_1, d.before a0 Z = true) (ws : List Jvm.Cond) (t : Addr) (d : Addr) (kd : ClassId) (u0 : Int32) (u1 : Int32) (u2 : Int32) (h0 : Heap) (n0 : Nat) (Z0 : n0 ≤ h0.size) (f_O_t : own_SO Z h0 t (.ref d) (0 : Int32)) (f_V_d : Arv Z h0 d kd .byte (3 : Int32) [(.int u0), (.int u1), (.int u2)] (.int (0 : Int32))) :
    MetFree l (⟨"java/lang/String", "isEmpty", "()Z"⟩ : MethodName) (head1 (Jvm.Cond.code (⟨"java/lang/String", "isEmpty", "()Z"⟩ : MethodName) jdk_42_method_55_code 1 (some .boolean) :: ws) ({ frames := 0, cells := 0, slots := 0, locals := 0 } : Room)) (fun aa U => aa = #[(.ref t)] ∧ Z.Warmed39 U.vm ∧ U.heap = h0) (fun _ _ _ _ _ => True) (fun _ U oc U' => ∃ v L, oc = .returned v ∧ Q7_3 Z t d kd u0 u1 u2 h0 n0 v U'.heap L ∧ FrameEnd U oc U' L ({ frames := 0, cells := 0, slots := 0, locals := 0 } : Room).cells ({ frames := 0, cells := 0, slots := 0, locals := 0 } : Room).slots) := by
  refine MetFree.of_bodySF (plainFor_of_name own_pn0) hisR ?_
  intro p e s m args below meth c s₁ Bd hml0 hP hK
  obtain ⟨rfl, hZ, hh⟩ := hP
  have hx := Bd.exec
  have hby := Bd.bytes
  have hlk := Bd.notSynchronized
  have hret := Bd.returns
  have hml : c.maxLocals = 1 := hml0
  have hown : s.vm.findClass "java/lang/String" = some m.cls := findClass_of_methodNamed Bd.named
  have hnm := (name_of_methodNamed Bd.named Bd.method).1
  have X0 : Stand p l e ({ frames := 0, cells := 0, slots := 0, locals := 0 } : Room) s m #[(.ref t)] below meth c s₁ [] 0 0 := Stand.of_body Bd
  have e0 : s₁.heap = h0 := by rw [← hh, Bd.state]; rfl
  have N0 := Fr.nil n0
  refine own_body (Q := Q7_3 Z t d kd u0 u1 u2 h0 n0) (KC := ({ frames := 0, cells := 0, slots := 0, locals := 0 } : Room).cells) (KS := ({ frames := 0, cells := 0, slots := 0, locals := 0 } : Room).slots) ?_
  rw [own_ef_rm7_3 m t]
  refine own_aloadN X0 hx hby d7_0 (pc' := 1) rfl rfl rfl ?_
  obtain ⟨f_E_t, f_F_t_value, f_F_t_coder⟩ := f_O_t
  refine own_getF X0 hx hZ hby hown (host := "") (Or.inl (wd_20 hw)) Via.refl e0 f_F_t_value d7_1 (pc' := 4) rfl (fun T1 X1 e1 => ?_)
  obtain ⟨cl2, Ar2, q2, S2, M2, H2, G2⟩ := id f_V_d
  refine own_alen X1 hx hZ hby e1 Ar2 S2 M2 d7_4 (pc' := 5) rfl ?_
  refine own_ifY X1 hx hby d7_5 (pc' := 12) (by decide) (by decide) (show ¬ (3 : Int32) = (0 : Int32) by decide) ?_
  refine own_iconst X1 hx hby d7_12 (pc' := 13) rfl (n := (0 : Int32)) (by decide) ?_
  refine own_zreturn X1 hx hlk hby hret (Or.inl rfl) d7_13 (own_lv ?_ (by decide) (by decide))
  show Q7_3 Z t d kd u0 u1 u2  h0 n0 (some (.int (0 : Int32))) T1.heap _
  rw [e1]
  exact ⟨rfl, N0, rfl⟩
theorem own_ef_rm6_3 (m : MethodId) (a : Addr)  : entryFrame m #[(.ref a)] 1 = mkF m 0 #[.val (.ref a)] [] := by first | (simp [entryFrame, mkF, argsToLocals, Value.category]; done) | rfl
def Q6_3 (Z : State) (a : Addr) (x : Int64) (wk : Int32) (t : Addr) (d : Addr) (kd : ClassId) (u0 : Int32) (u1 : Int32) (u2 : Int32) (h0 : Heap) (n0 : Nat) (v : Option Value) (h : Heap) (L : List Loc) : Prop := v = some (.int 1) ∧ Fr n0 L ∧ h = h0
set_option maxRecDepth 65536 in
set_option maxHeartbeats 40000000 in
theorem rm6_3 (l : Launch) (Z : State) (a0 : Array Value) (hw : ∀ d ∈ tables_1, d.before a0 Z = true) (ws : List Jvm.Cond) (a : Addr) (x : Int64) (wk : Int32) (t : Addr) (d : Addr) (kd : ClassId) (u0 : Int32) (u1 : Int32) (u2 : Int32) (h0 : Heap) (n0 : Nat) (Z0 : n0 ≤ h0.size) (f_O_a : own_CO Z h0 a (.ref t) x wk) (f_O_t : own_SO Z h0 t (.ref d) (0 : Int32)) (f_V_d : Arv Z h0 d kd .byte (3 : Int32) [(.int u0), (.int u1), (.int u2)] (.int (0 : Int32))) :
    MetFree l (⟨"com/example/hermod/hermod/resource/Condition", "isGiven", "()Z"⟩ : MethodName) (head1 (Jvm.Cond.code (⟨"com/example/hermod/hermod/resource/Condition", "isGiven", "()Z"⟩ : MethodName) prog_5_method_4_code 1 (some .boolean) :: ws) ({ frames := 1, cells := 0, slots := 0, locals := 12 } : Room)) (fun aa U => aa = #[(.ref a)] ∧ Z.Warmed39 U.vm ∧ U.heap = h0) (fun _ _ _ _ _ => True) (fun _ U oc U' => ∃ v L, oc = .returned v ∧ Q6_3 Z a x wk t d kd u0 u1 u2 h0 n0 v U'.heap L ∧ FrameEnd U oc U' L ({ frames := 1, cells := 0, slots := 0, locals := 12 } : Room).cells ({ frames := 1, cells := 0, slots := 0, locals := 12 } : Room).slots) := by
  refine MetFree.of_bodySF (plainFor_of_name own_pn8) hisR ?_
  intro p e s m args below meth c s₁ Bd hml0 hP hK
  obtain ⟨rfl, hZ, hh⟩ := hP
  have hx := Bd.exec
  have hby := Bd.bytes
  have hlk := Bd.notSynchronized
  have hret := Bd.returns
  have hml : c.maxLocals = 1 := hml0
  have hown : s.vm.findClass "com/example/hermod/hermod/resource/Condition" = some m.cls := findClass_of_methodNamed Bd.named
  have hnm := (name_of_methodNamed Bd.named Bd.method).1
  have X0 : Stand p l e ({ frames := 1, cells := 0, slots := 0, locals := 12 } : Room) s m #[(.ref a)] below meth c s₁ [] 0 0 := Stand.of_body Bd
  have e0 : s₁.heap = h0 := by rw [← hh, Bd.state]; rfl
  have N0 := Fr.nil n0
  refine own_body (Q := Q6_3 Z a x wk t d kd u0 u1 u2 h0 n0) (KC := ({ frames := 1, cells := 0, slots := 0, locals := 12 } : Room).cells) (KS := ({ frames := 1, cells := 0, slots := 0, locals := 12 } : Room).slots) ?_
  rw [own_ef_rm6_3 m a]
  refine own_aloadN X0 hx hby d6_0 (pc' := 1) rfl rfl rfl ?_
  obtain ⟨f_E_a, f_F_a_etags, f_F_a_date, f_F_a_weak⟩ := f_O_a
  refine own_getF X0 hx hZ hby hown (host := "") (Or.inl (wd_34 hw)) Via.refl e0 f_F_a_etags d6_1 (pc' := 4) rfl (fun T1 X1 e1 => ?_)
  refine own_lk6 hw X1 hx hZ hby (by rw [hml]; rfl) hown d6_4 (pc' := 7) rfl e1 f_O_t.1 (W := 0) (Nat.le_of_eq rfl) (rm7_3 l Z a0 hw [] t d kd u0 u1 u2 h0 n0 Z0 f_O_t f_V_d) (by decide) (by decide) (by decide) (by decide) (fun v2 T2 L2 X2 hQ2 => ?_)
  obtain ⟨rfl, Nq2, e2⟩ := hQ2
  have N2 := Fr.app N0 Nq2
  show own_End p e below _ (T2.setTop (mkF m 7 _ [(.int (0 : Int32))]))
  refine own_ifY X2 hx hby d6_7 (pc' := 19) (by decide) (by decide) (show (0 : Int32) = (0 : Int32) by decide) ?_
  refine own_iconst X2 hx hby d6_19 (pc' := 20) rfl (n := (1 : Int32)) (by decide) ?_
  refine own_goto X2 hx hby d6_20 (pc' := 24) (by decide) (by decide) ?_
  refine own_zreturn X2 hx hlk hby hret (Or.inr rfl) d6_24 (own_lv ?_ (by decide) (by decide))
  show Q6_3 Z a x wk t d kd u0 u1 u2  h0 n0 (some (.int (1 : Int32))) T2.heap _
  rw [e2]
  exact ⟨rfl, N2, rfl⟩
theorem own_ef_rm0 (m : MethodId) (p0 : Int32) (p1 : Int32) (p2 : Int32) (p3 : Int64) (p4 : Int32)  : entryFrame m #[(.int p0), (.int p1), (.int p2), (.long p3), (.int p4)] maxLocals = mkF m 0 #[.val (.int p0), .val (.int p1), .val (.int p2), .val (.long p3), .second, .val (.int p4), .unset, .unset, .unset, .unset, .unset, .unset] [] := by first | (simp [entryFrame, mkF, argsToLocals, Value.category, maxLocals]; done) | rfl
def Q0 (Z : State) (p0 : Int32) (p1 : Int32) (p2 : Int32) (p3 : Int64) (p4 : Int32) (cs : Int32) (h0 : Heap) (n0 : Nat) (v : Option Value) (h : Heap) (L : List Loc) : Prop := v = some (.int 1) ∧ Fr n0 L
set_option maxRecDepth 65536 in
set_option maxHeartbeats 40000000 in
theorem rm0 (l : Launch) (Z : State) (a0 : Array Value) (hw : ∀ d ∈ tables_1, d.before a0 Z = true) (ws : List Jvm.Cond) (p0 : Int32) (p1 : Int32) (p2 : Int32) (p3 : Int64) (p4 : Int32) (cs : Int32) (h0 : Heap) (n0 : Nat) (Z0 : n0 ≤ h0.size) (f_S_java_lang_String_COMPACT_STRINGS : Sta Z h0 "java/lang/String" "COMPACT_STRINGS" "Z" (.int cs)) (hcs : ¬ cs = (0 : Int32)) :
    MetFree l x (head1 (Jvm.Cond.code x code maxLocals ret :: ws) room_1) (fun aa U => aa = #[(.int p0), (.int p1), (.int p2), (.long p3), (.int p4)] ∧ Z.Warmed39 U.vm ∧ U.heap = h0 ∧ CHv Z own_EL U.vm h0) (fun _ _ _ _ _ => True) (fun _ U oc U' => ∃ v L, oc = .returned v ∧ Q0 Z p0 p1 p2 p3 p4 cs h0 n0 v U'.heap L ∧ ReturnedEndW U oc U' L room_1.cells room_1.slots) := by
  refine MetFree.of_bodySF (plainFor_of_name own_pn12) hisR ?_
  intro p e s m args below meth c s₁ Bd hml0 hP hK
  obtain ⟨rfl, hZ, hh, hCH⟩ := hP
  have hx := Bd.exec
  have hby := Bd.bytes
  have hlk := Bd.notSynchronized
  have hret := Bd.returns
  have hml : c.maxLocals = 12 := hml0
  have hown : s.vm.findClass "com/example/hermod/hermod/resource/ConditionIsGivenPinLaw" = some m.cls := findClass_of_methodNamed Bd.named
  have hnm := (name_of_methodNamed Bd.named Bd.method).1
  have X0 : Stand p l e room_1 s m #[(.int p0), (.int p1), (.int p2), (.long p3), (.int p4)] below meth c s₁ [] 0 0 := Stand.of_body Bd
  have e0 : s₁.heap = h0 := by rw [← hh, Bd.state]; rfl
  have N0 := Fr.nil n0
  refine own_bodyS (Q := Q0 Z p0 p1 p2 p3 p4 cs h0 n0) (KC := room_1.cells) (KS := room_1.slots) ?_
  rw [own_ef_rm0 m p0 p1 p2 p3 p4]
  have X0 : Stand p l e room_1 (s.setVm s.vm) m #[(.int p0), (.int p1), (.int p2), (.long p3), (.int p4)] below meth c s₁ [] 0 0 := X0
  have hS : s.Since s.vm h0.size := (State.WarmedH.refl s).since _
  have hSn : h0.size ≤ h0.size := Nat.le_refl _
  have HC : CHr Z own_EL s.vm h0 s.vm h0 := CHr.refl hCH
  refine own_iloadN X0 hx hby at_0 (pc' := 1) rfl rfl ?_
  refine own_iconst X0 hx hby at_1 (pc' := 2) rfl (n := (3 : Int32)) (by decide) ?_
  refine own_iand X0 hx hby at_2 (pc' := 3) rfl ?_
  rcases own_and3 p0 with hs1 | hs1 | hs1 | hs1
  · rw [hs1]
    show own_End p e below _ (s₁.setTop (mkF m 3 #[.val (.int p0), .val (.int p1), .val (.int p2), .val (.long p3), .second, .val (.int p4), .unset, .unset, .unset, .unset, .unset, .unset] [(.int (0 : Int32))]))
    refine own_istore X0 hx hby at_3 (pc' := 5) rfl (l' := #[.val (.int p0), .val (.int p1), .val (.int p2), .val (.long p3), .second, .val (.int p4), .val (.int (0 : Int32)), .unset, .unset, .unset, .unset, .unset]) rfl ?_
    refine own_iload X0 hx hby at_5 (pc' := 7) rfl rfl ?_
    refine own_newP (aty := .char) X0 hx hZ hby (wd_0 hw) e0 at_7 (pc' := 9) rfl (by decide) (cap := 0) (by decide) (by decide) (by decide) (by decide) (fun T2 h2 k2 b2 g2 X2 e2 E2 A2 => ?_)
    have ge_b2 : n0 ≤ b2 := by rw [g2]; exact Z0
    have f_S_java_lang_String_COMPACT_STRINGS := f_S_java_lang_String_COMPACT_STRINGS.ext E2
    have Zn := Nat.le_trans Z0 E2.1
    have hSn := Nat.le_trans hSn E2.1
    have HC := HC.trans (CHr.ext E2 HC.1)
    have f_V_b2 : Arv Z h2 b2 k2 .char (0 : Int32) [] (.int (0 : Int32)) := Arv.new A2 (by decide)
    refine own_astore X2 hx hby at_9 (pc' := 11) rfl rfl (l' := #[.val (.int p0), .val (.int p1), .val (.int p2), .val (.long p3), .second, .val (.int p4), .val (.int (0 : Int32)), .val (.ref b2), .unset, .unset, .unset, .unset]) rfl ?_
    refine own_iload X2 hx hby at_11 (pc' := 13) rfl rfl ?_
    refine own_ifY X2 hx hby at_13 (pc' := 26) (by decide) (by decide) (show ¬ (0 : Int32) < (0 : Int32) by decide) ?_
    refine own_iload X2 hx hby at_26 (pc' := 28) rfl rfl ?_
    refine own_iconst X2 hx hby at_28 (pc' := 29) rfl (n := (1 : Int32)) (by decide) ?_
    refine own_icY X2 hx hby at_29 (pc' := 42) (by decide) (by decide) (show ¬ (1 : Int32) < (0 : Int32) by decide) ?_
    refine own_iload X2 hx hby at_42 (pc' := 44) rfl rfl ?_
    refine own_iconst X2 hx hby at_44 (pc' := 45) rfl (n := (2 : Int32)) (by decide) ?_
    refine own_icY X2 hx hby at_45 (pc' := 61) (by decide) (by decide) (show ¬ (2 : Int32) < (0 : Int32) by decide) ?_
    refine own_new X2 hx hZ hby hown (wd_1 hw) (wd_2 hw) (wd_3 hw) e2 at_61 (pc' := 64) rfl (by decide) (by decide) (fun T3 h3 b3 g3 X3 e3 E3 A3 D3 => ?_)
    have ne_b2_b3 : b2 ≠ b3 := Nat.ne_of_lt (by rw [g3]; exact f_V_b2.lt)
    have ge_b3 : n0 ≤ b3 := by rw [g3]; exact Zn
    have f_S_java_lang_String_COMPACT_STRINGS := f_S_java_lang_String_COMPACT_STRINGS.ext E3
    have f_V_b2 := f_V_b2.ext E3
    have Zn := Nat.le_trans Zn E3.1
    have hSn := Nat.le_trans hSn E3.1
    have HC := HC.trans (CHr.ext E3 HC.1)
    have f_O_b3 : own_SO Z h3 b3 .null (0 : Int32) := ⟨A3, D3 (Or.inr (wd_16 hw)) (ty := (.array .byte)) (by decide), D3 (Or.inr (wd_17 hw)) (ty := .byte) (by decide)⟩
    refine own_dup X3 hx hby at_64 (pc' := 65) rfl rfl ?_
    refine own_aload X3 hx hby at_65 (pc' := 67) rfl rfl rfl ?_
    refine own_lk7 hw X3 hx hZ hby (by rw [hml]; rfl) hown at_67 (pc' := 70) rfl e3 (W := 1) (Nat.le_of_eq rfl) (rm1_0 l Z a0 hw [] b3 b2 k2 h3 n0 Zn f_O_b3 ge_b3 f_V_b2 (Ne.symm ne_b2_b3)) (by decide) (by decide) (by decide) (by decide) hS hSn (own_EW hw) HC.1 (fun v5 T5 L5 X5 hS hSn hZ hown hQ5 hCR => ?_)
    have HC := HC.trans hCR
    obtain ⟨rfl, Nq5, K5, d4, kd4, O5, V5⟩ := hQ5
    have N5 := Fr.app N0 Nq5
    have f_S_java_lang_String_COMPACT_STRINGS := own_sta1 f_S_java_lang_String_COMPACT_STRINGS K5 f_O_b3.1
    have f_V_b2 := f_V_b2.keep K5 (ninS ne_b2_b3 nin0)
    have Zn := Nat.le_trans Zn K5.1
    show own_End p e below _ (T5.setTop (mkF m 70 _ [(.ref b3)]))
    refine own_astore X5 hx hby at_70 (pc' := 72) rfl rfl (l' := #[.val (.int p0), .val (.int p1), .val (.int p2), .val (.long p3), .second, .val (.int p4), .val (.int (0 : Int32)), .val (.ref b2), .val (.ref b3), .unset, .unset, .unset]) rfl ?_
    refine own_iload X5 hx hby at_72 (pc' := 74) rfl rfl ?_
    refine own_iconst X5 hx hby at_74 (pc' := 75) rfl (n := (1 : Int32)) (by decide) ?_
    refine own_iand X5 hx hby at_75 (pc' := 76) rfl ?_
    refine own_if2 X5 hx hby at_76 (pc1 := 83) (by decide) (by decide) (pc2 := 79) rfl (fun (hc76 : (p4 &&& (1 : Int32)) = (0 : Int32)) => ?_) (fun (hc76 : ¬ (p4 &&& (1 : Int32)) = (0 : Int32)) => ?_)
    · refine own_iconst X5 hx hby at_83 (pc' := 84) rfl (n := (0 : Int32)) (by decide) ?_
      refine own_istore X5 hx hby at_84 (pc' := 86) rfl (l' := #[.val (.int p0), .val (.int p1), .val (.int p2), .val (.long p3), .second, .val (.int p4), .val (.int (0 : Int32)), .val (.ref b2), .val (.ref b3), .val (.int (0 : Int32)), .unset, .unset]) rfl ?_
      refine own_new X5 hx hZ hby hown (wd_22 hw) (wd_23 hw) (wd_24 hw) rfl at_86 (pc' := 89) rfl (by decide) (by decide) (fun T6 h6 b6 g6 X6 e6 E6 A6 D6 => ?_)
      have ne_b2_b6 : b2 ≠ b6 := Nat.ne_of_lt (by rw [g6]; exact f_V_b2.lt)
      have ne_b3_b6 : b3 ≠ b6 := Nat.ne_of_lt (by rw [g6]; exact O5.lt)
      have ne_d4_b6 : d4 ≠ b6 := Nat.ne_of_lt (by rw [g6]; exact V5.lt)
      have ge_b6 : n0 ≤ b6 := by rw [g6]; exact Zn
      have f_S_java_lang_String_COMPACT_STRINGS := f_S_java_lang_String_COMPACT_STRINGS.ext E6
      have f_V_b2 := f_V_b2.ext E6
      have O5 := O5.ext E6
      have V5 := V5.ext E6
      have Zn := Nat.le_trans Zn E6.1
      have hSn := Nat.le_trans hSn E6.1
      have f_O_b6 : own_CO Z h6 b6 .null (0 : Int64) (0 : Int32) := ⟨A6, D6 (Or.inr (wd_35 hw)) (ty := (.object "java/lang/String")) (by decide), D6 (Or.inr (wd_37 hw)) (ty := .long) (by decide), D6 (Or.inr (wd_39 hw)) (ty := .boolean) (by decide)⟩
      refine own_dup X6 hx hby at_89 (pc' := 90) rfl rfl ?_
      refine own_aload X6 hx hby at_90 (pc' := 92) rfl rfl rfl ?_
      refine own_lloadN X6 hx hby at_92 (pc' := 93) rfl rfl ?_
      refine own_iload X6 hx hby at_93 (pc' := 95) rfl rfl ?_
      refine own_lk8 hw X6 hx hZ hby (by rw [hml]; rfl) hown at_95 (pc' := 98) rfl e6 (W := 1) (Nat.le_of_eq rfl) (rm4_0 l Z a0 hw [] b6 b3 p3 h6 n0 Zn f_O_b6 ge_b6) (by decide) (by decide) (by decide) (by decide) (fun v7 T7 L7 X7 hQ7 => ?_)
      obtain ⟨rfl, Nq7, K7, O7⟩ := hQ7
      have N7 := Fr.app N5 Nq7
      have f_S_java_lang_String_COMPACT_STRINGS := own_sta1 f_S_java_lang_String_COMPACT_STRINGS K7 f_O_b6.1
      have f_V_b2 := f_V_b2.keep K7 (ninS ne_b2_b6 nin0)
      have O5 := O5.keep K7 (ninS ne_b3_b6 nin0)
      have V5 := V5.keep K7 (ninS ne_d4_b6 nin0)
      have Zn := Nat.le_trans Zn K7.1
      have hSn := Nat.le_trans hSn K7.1
      show own_End p e below _ (T7.setTop (mkF m 98 _ [(.ref b6)]))
      refine own_astore X7 hx hby at_98 (pc' := 100) rfl rfl (l' := #[.val (.int p0), .val (.int p1), .val (.int p2), .val (.long p3), .second, .val (.int p4), .val (.int (0 : Int32)), .val (.ref b2), .val (.ref b3), .val (.int (0 : Int32)), .val (.ref b6), .unset]) rfl ?_
      refine own_iload X7 hx hby at_100 (pc' := 102) rfl rfl ?_
      refine own_ifN X7 hx hby at_102 (pc' := 105) rfl (show (0 : Int32) = (0 : Int32) by decide) ?_
      refine own_lloadN X7 hx hby at_105 (pc' := 106) rfl rfl ?_
      refine own_lconst X7 hx hby at_106 (pc' := 107) rfl (n := (0 : Int64)) (by decide) ?_
      refine own_lcmp X7 hx hby at_107 (pc' := 108) rfl ?_
      refine own_ifL2 X7 hx hby at_108 (pc1 := 115) (by decide) (by decide) (pc2 := 111) rfl (fun (hc108 : p3 = (0 : Int64)) => ?_) (fun (hc108 : ¬ p3 = (0 : Int64)) => ?_)
      · refine own_iconst X7 hx hby at_115 (pc' := 116) rfl (n := (0 : Int32)) (by decide) ?_
        refine own_istore X7 hx hby at_116 (pc' := 118) rfl (l' := #[.val (.int p0), .val (.int p1), .val (.int p2), .val (.long p3), .second, .val (.int p4), .val (.int (0 : Int32)), .val (.ref b2), .val (.ref b3), .val (.int (0 : Int32)), .val (.ref b6), .val (.int (0 : Int32))]) rfl ?_
        refine own_goto X7 hx hby at_118 (pc' := 124) (by decide) (by decide) ?_
        refine own_aload X7 hx hby at_124 (pc' := 126) rfl rfl rfl ?_
        refine own_lk9 hw X7 hx hZ hby (by rw [hml]; rfl) hown at_126 (pc' := 129) rfl rfl O7.1 (W := 0) (Nat.le_of_eq rfl) (rm6_0a l Z a0 hw [] b6 p3 (0 : Int32) b3 d4 kd4 T7.heap n0 Zn O7 O5 V5 hc108) (by decide) (by decide) (by decide) (by decide) (fun v8 T8 L8 X8 hQ8 => ?_)
        obtain ⟨rfl, Nq8, e8⟩ := hQ8
        have N8 := Fr.app N7 Nq8
        show own_End p e below _ (T8.setTop (mkF m 129 _ [(.int (0 : Int32))]))
        refine own_iload X8 hx hby at_129 (pc' := 131) rfl rfl ?_
        refine own_icN X8 hx hby at_131 (pc' := 134) rfl (show (0 : Int32) = (0 : Int32) by decide) ?_
        refine own_iconst X8 hx hby at_134 (pc' := 135) rfl (n := (1 : Int32)) (by decide) ?_
        refine own_goto X8 hx hby at_135 (pc' := 139) (by decide) (by decide) ?_
        refine own_zreturn X8 hx hlk hby hret (Or.inr rfl) at_139 (own_lvS hS (by rw [e8]; exact hSn) ?_ (by decide) (by decide))
        show Q0 Z p0 p1 p2 p3 p4 cs  h0 n0 (some (.int (1 : Int32))) T8.heap _
        rw [e8]
        exact ⟨rfl, N8⟩
      · refine own_iconst X7 hx hby at_111 (pc' := 112) rfl (n := (1 : Int32)) (by decide) ?_
        refine own_goto X7 hx hby at_112 (pc' := 116) (by decide) (by decide) ?_
        refine own_istore X7 hx hby at_116 (pc' := 118) rfl (l' := #[.val (.int p0), .val (.int p1), .val (.int p2), .val (.long p3), .second, .val (.int p4), .val (.int (0 : Int32)), .val (.ref b2), .val (.ref b3), .val (.int (0 : Int32)), .val (.ref b6), .val (.int (1 : Int32))]) rfl ?_
        refine own_goto X7 hx hby at_118 (pc' := 124) (by decide) (by decide) ?_
        refine own_aload X7 hx hby at_124 (pc' := 126) rfl rfl rfl ?_
        refine own_lk9 hw X7 hx hZ hby (by rw [hml]; rfl) hown at_126 (pc' := 129) rfl rfl O7.1 (W := 0) (Nat.le_of_eq rfl) (rm6_0b l Z a0 hw [] b6 p3 (0 : Int32) b3 d4 kd4 T7.heap n0 Zn O7 O5 V5 hc108) (by decide) (by decide) (by decide) (by decide) (fun v9 T9 L9 X9 hQ9 => ?_)
        obtain ⟨rfl, Nq9, e9⟩ := hQ9
        have N9 := Fr.app N7 Nq9
        show own_End p e below _ (T9.setTop (mkF m 129 _ [(.int (1 : Int32))]))
        refine own_iload X9 hx hby at_129 (pc' := 131) rfl rfl ?_
        refine own_icN X9 hx hby at_131 (pc' := 134) rfl (show (1 : Int32) = (1 : Int32) by decide) ?_
        refine own_iconst X9 hx hby at_134 (pc' := 135) rfl (n := (1 : Int32)) (by decide) ?_
        refine own_goto X9 hx hby at_135 (pc' := 139) (by decide) (by decide) ?_
        refine own_zreturn X9 hx hlk hby hret (Or.inr rfl) at_139 (own_lvS hS (by rw [e9]; exact hSn) ?_ (by decide) (by decide))
        show Q0 Z p0 p1 p2 p3 p4 cs  h0 n0 (some (.int (1 : Int32))) T9.heap _
        rw [e9]
        exact ⟨rfl, N9⟩
    · refine own_iconst X5 hx hby at_79 (pc' := 80) rfl (n := (1 : Int32)) (by decide) ?_
      refine own_goto X5 hx hby at_80 (pc' := 84) (by decide) (by decide) ?_
      refine own_istore X5 hx hby at_84 (pc' := 86) rfl (l' := #[.val (.int p0), .val (.int p1), .val (.int p2), .val (.long p3), .second, .val (.int p4), .val (.int (0 : Int32)), .val (.ref b2), .val (.ref b3), .val (.int (1 : Int32)), .unset, .unset]) rfl ?_
      refine own_new X5 hx hZ hby hown (wd_22 hw) (wd_23 hw) (wd_24 hw) rfl at_86 (pc' := 89) rfl (by decide) (by decide) (fun T10 h10 b10 g10 X10 e10 E10 A10 D10 => ?_)
      have ne_b2_b10 : b2 ≠ b10 := Nat.ne_of_lt (by rw [g10]; exact f_V_b2.lt)
      have ne_b3_b10 : b3 ≠ b10 := Nat.ne_of_lt (by rw [g10]; exact O5.lt)
      have ne_d4_b10 : d4 ≠ b10 := Nat.ne_of_lt (by rw [g10]; exact V5.lt)
      have ge_b10 : n0 ≤ b10 := by rw [g10]; exact Zn
      have f_S_java_lang_String_COMPACT_STRINGS := f_S_java_lang_String_COMPACT_STRINGS.ext E10
      have f_V_b2 := f_V_b2.ext E10
      have O5 := O5.ext E10
      have V5 := V5.ext E10
      have Zn := Nat.le_trans Zn E10.1
      have hSn := Nat.le_trans hSn E10.1
      have f_O_b10 : own_CO Z h10 b10 .null (0 : Int64) (0 : Int32) := ⟨A10, D10 (Or.inr (wd_35 hw)) (ty := (.object "java/lang/String")) (by decide), D10 (Or.inr (wd_37 hw)) (ty := .long) (by decide), D10 (Or.inr (wd_39 hw)) (ty := .boolean) (by decide)⟩
      refine own_dup X10 hx hby at_89 (pc' := 90) rfl rfl ?_
      refine own_aload X10 hx hby at_90 (pc' := 92) rfl rfl rfl ?_
      refine own_lloadN X10 hx hby at_92 (pc' := 93) rfl rfl ?_
      refine own_iload X10 hx hby at_93 (pc' := 95) rfl rfl ?_
      refine own_lk8 hw X10 hx hZ hby (by rw [hml]; rfl) hown at_95 (pc' := 98) rfl e10 (W := 1) (Nat.le_of_eq rfl) (rm4_1 l Z a0 hw [] b10 b3 p3 h10 n0 Zn f_O_b10 ge_b10) (by decide) (by decide) (by decide) (by decide) (fun v11 T11 L11 X11 hQ11 => ?_)
      obtain ⟨rfl, Nq11, K11, O11⟩ := hQ11
      have N11 := Fr.app N5 Nq11
      have f_S_java_lang_String_COMPACT_STRINGS := own_sta1 f_S_java_lang_String_COMPACT_STRINGS K11 f_O_b10.1
      have f_V_b2 := f_V_b2.keep K11 (ninS ne_b2_b10 nin0)
      have O5 := O5.keep K11 (ninS ne_b3_b10 nin0)
      have V5 := V5.keep K11 (ninS ne_d4_b10 nin0)
      have Zn := Nat.le_trans Zn K11.1
      have hSn := Nat.le_trans hSn K11.1
      show own_End p e below _ (T11.setTop (mkF m 98 _ [(.ref b10)]))
      refine own_astore X11 hx hby at_98 (pc' := 100) rfl rfl (l' := #[.val (.int p0), .val (.int p1), .val (.int p2), .val (.long p3), .second, .val (.int p4), .val (.int (0 : Int32)), .val (.ref b2), .val (.ref b3), .val (.int (1 : Int32)), .val (.ref b10), .unset]) rfl ?_
      refine own_iload X11 hx hby at_100 (pc' := 102) rfl rfl ?_
      refine own_ifN X11 hx hby at_102 (pc' := 105) rfl (show (0 : Int32) = (0 : Int32) by decide) ?_
      refine own_lloadN X11 hx hby at_105 (pc' := 106) rfl rfl ?_
      refine own_lconst X11 hx hby at_106 (pc' := 107) rfl (n := (0 : Int64)) (by decide) ?_
      refine own_lcmp X11 hx hby at_107 (pc' := 108) rfl ?_
      refine own_ifL2 X11 hx hby at_108 (pc1 := 115) (by decide) (by decide) (pc2 := 111) rfl (fun (hc108 : p3 = (0 : Int64)) => ?_) (fun (hc108 : ¬ p3 = (0 : Int64)) => ?_)
      · refine own_iconst X11 hx hby at_115 (pc' := 116) rfl (n := (0 : Int32)) (by decide) ?_
        refine own_istore X11 hx hby at_116 (pc' := 118) rfl (l' := #[.val (.int p0), .val (.int p1), .val (.int p2), .val (.long p3), .second, .val (.int p4), .val (.int (0 : Int32)), .val (.ref b2), .val (.ref b3), .val (.int (1 : Int32)), .val (.ref b10), .val (.int (0 : Int32))]) rfl ?_
        refine own_goto X11 hx hby at_118 (pc' := 124) (by decide) (by decide) ?_
        refine own_aload X11 hx hby at_124 (pc' := 126) rfl rfl rfl ?_
        refine own_lk9 hw X11 hx hZ hby (by rw [hml]; rfl) hown at_126 (pc' := 129) rfl rfl O11.1 (W := 0) (Nat.le_of_eq rfl) (rm6_0a l Z a0 hw [] b10 p3 (1 : Int32) b3 d4 kd4 T11.heap n0 Zn O11 O5 V5 hc108) (by decide) (by decide) (by decide) (by decide) (fun v12 T12 L12 X12 hQ12 => ?_)
        obtain ⟨rfl, Nq12, e12⟩ := hQ12
        have N12 := Fr.app N11 Nq12
        show own_End p e below _ (T12.setTop (mkF m 129 _ [(.int (0 : Int32))]))
        refine own_iload X12 hx hby at_129 (pc' := 131) rfl rfl ?_
        refine own_icN X12 hx hby at_131 (pc' := 134) rfl (show (0 : Int32) = (0 : Int32) by decide) ?_
        refine own_iconst X12 hx hby at_134 (pc' := 135) rfl (n := (1 : Int32)) (by decide) ?_
        refine own_goto X12 hx hby at_135 (pc' := 139) (by decide) (by decide) ?_
        refine own_zreturn X12 hx hlk hby hret (Or.inr rfl) at_139 (own_lvS hS (by rw [e12]; exact hSn) ?_ (by decide) (by decide))
        show Q0 Z p0 p1 p2 p3 p4 cs  h0 n0 (some (.int (1 : Int32))) T12.heap _
        rw [e12]
        exact ⟨rfl, N12⟩
      · refine own_iconst X11 hx hby at_111 (pc' := 112) rfl (n := (1 : Int32)) (by decide) ?_
        refine own_goto X11 hx hby at_112 (pc' := 116) (by decide) (by decide) ?_
        refine own_istore X11 hx hby at_116 (pc' := 118) rfl (l' := #[.val (.int p0), .val (.int p1), .val (.int p2), .val (.long p3), .second, .val (.int p4), .val (.int (0 : Int32)), .val (.ref b2), .val (.ref b3), .val (.int (1 : Int32)), .val (.ref b10), .val (.int (1 : Int32))]) rfl ?_
        refine own_goto X11 hx hby at_118 (pc' := 124) (by decide) (by decide) ?_
        refine own_aload X11 hx hby at_124 (pc' := 126) rfl rfl rfl ?_
        refine own_lk9 hw X11 hx hZ hby (by rw [hml]; rfl) hown at_126 (pc' := 129) rfl rfl O11.1 (W := 0) (Nat.le_of_eq rfl) (rm6_0b l Z a0 hw [] b10 p3 (1 : Int32) b3 d4 kd4 T11.heap n0 Zn O11 O5 V5 hc108) (by decide) (by decide) (by decide) (by decide) (fun v13 T13 L13 X13 hQ13 => ?_)
        obtain ⟨rfl, Nq13, e13⟩ := hQ13
        have N13 := Fr.app N11 Nq13
        show own_End p e below _ (T13.setTop (mkF m 129 _ [(.int (1 : Int32))]))
        refine own_iload X13 hx hby at_129 (pc' := 131) rfl rfl ?_
        refine own_icN X13 hx hby at_131 (pc' := 134) rfl (show (1 : Int32) = (1 : Int32) by decide) ?_
        refine own_iconst X13 hx hby at_134 (pc' := 135) rfl (n := (1 : Int32)) (by decide) ?_
        refine own_goto X13 hx hby at_135 (pc' := 139) (by decide) (by decide) ?_
        refine own_zreturn X13 hx hlk hby hret (Or.inr rfl) at_139 (own_lvS hS (by rw [e13]; exact hSn) ?_ (by decide) (by decide))
        show Q0 Z p0 p1 p2 p3 p4 cs  h0 n0 (some (.int (1 : Int32))) T13.heap _
        rw [e13]
        exact ⟨rfl, N13⟩
  · rw [hs1]
    show own_End p e below _ (s₁.setTop (mkF m 3 #[.val (.int p0), .val (.int p1), .val (.int p2), .val (.long p3), .second, .val (.int p4), .unset, .unset, .unset, .unset, .unset, .unset] [(.int (1 : Int32))]))
    refine own_istore X0 hx hby at_3 (pc' := 5) rfl (l' := #[.val (.int p0), .val (.int p1), .val (.int p2), .val (.long p3), .second, .val (.int p4), .val (.int (1 : Int32)), .unset, .unset, .unset, .unset, .unset]) rfl ?_
    refine own_iload X0 hx hby at_5 (pc' := 7) rfl rfl ?_
    refine own_newP (aty := .char) X0 hx hZ hby (wd_0 hw) e0 at_7 (pc' := 9) rfl (by decide) (cap := 1) (by decide) (by decide) (by decide) (by decide) (fun T14 h14 k14 b14 g14 X14 e14 E14 A14 => ?_)
    have ge_b14 : n0 ≤ b14 := by rw [g14]; exact Z0
    have f_S_java_lang_String_COMPACT_STRINGS := f_S_java_lang_String_COMPACT_STRINGS.ext E14
    have Zn := Nat.le_trans Z0 E14.1
    have hSn := Nat.le_trans hSn E14.1
    have f_V_b14 : Arv Z h14 b14 k14 .char (1 : Int32) [(.int (0 : Int32))] (.int (0 : Int32)) := (Arv.new A14 (by decide)).pad (pad_rep [] (.int (0 : Int32)) 1)
    refine own_astore X14 hx hby at_9 (pc' := 11) rfl rfl (l' := #[.val (.int p0), .val (.int p1), .val (.int p2), .val (.long p3), .second, .val (.int p4), .val (.int (1 : Int32)), .val (.ref b14), .unset, .unset, .unset, .unset]) rfl ?_
    refine own_iload X14 hx hby at_11 (pc' := 13) rfl rfl ?_
    refine own_ifN X14 hx hby at_13 (pc' := 16) rfl (show (0 : Int32) < (1 : Int32) by decide) ?_
    refine own_aload X14 hx hby at_16 (pc' := 18) rfl rfl rfl ?_
    refine own_iconst X14 hx hby at_18 (pc' := 19) rfl (n := (0 : Int32)) (by decide) ?_
    refine own_iloadN X14 hx hby at_19 (pc' := 20) rfl rfl ?_
    refine own_sipush X14 hx hby at_20 (pc' := 23) rfl (n := (255 : Int32)) (by decide) ?_
    refine own_iand X14 hx hby at_23 (pc' := 24) rfl ?_
    refine own_i2c X14 hx hby at_24 (pc' := 25) rfl ?_
    rw [i2c_mask]
    show own_End p e below _ (T14.setTop (mkF m 25 #[.val (.int p0), .val (.int p1), .val (.int p2), .val (.long p3), .second, .val (.int p4), .val (.int (1 : Int32)), .val (.ref b14), .unset, .unset, .unset, .unset] [(.int (p1 &&& (255 : Int32))), (.int (0 : Int32)), (.ref b14)]))
    obtain ⟨cl15, Ar15, q15, S15, M15, H15, G15⟩ := id f_V_b14
    have hin15 : ¬ ((0 : Int32) < 0 ∨ cl15.slots.size ≤ ((0 : Int32)).toNatClampNeg) := inb_of S15 ⟨by decide, by decide⟩
    refine own_castore X14 hx hZ hby e14 Ar15 hin15 at_25 (pc' := 26) rfl (fun T16 h16 X16 e16 W16 => ?_)
    have f_V_b14 := Arv.set Ar15 q15 S15 M15 H15 G15 (fits_nar_char _) W16 0 rfl (Nat.le_of_ble_eq_true rfl)
    have f_V_b14 : Arv Z h16 b14 k14 .char (1 : Int32) [(.int (nar .char (p1 &&& (255 : Int32))))] (.int (0 : Int32)) := f_V_b14
    rw [show nar .char (p1 &&& (255 : Int32)) = (p1 &&& (255 : Int32)) from i2c_mask _] at f_V_b14
    have f_S_java_lang_String_COMPACT_STRINGS := f_S_java_lang_String_COMPACT_STRINGS.wr W16
    have Zn := Nat.le_trans Zn (Keep.of_wr W16).1
    have hSn := Nat.le_trans hSn (Keep.of_wr W16).1
    have N16 := Fr.snoc X16 N0 ge_b14
    refine own_iload X16 hx hby at_26 (pc' := 28) rfl rfl ?_
    refine own_iconst X16 hx hby at_28 (pc' := 29) rfl (n := (1 : Int32)) (by decide) ?_
    refine own_icY X16 hx hby at_29 (pc' := 42) (by decide) (by decide) (show ¬ (1 : Int32) < (1 : Int32) by decide) ?_
    refine own_iload X16 hx hby at_42 (pc' := 44) rfl rfl ?_
    refine own_iconst X16 hx hby at_44 (pc' := 45) rfl (n := (2 : Int32)) (by decide) ?_
    refine own_icY X16 hx hby at_45 (pc' := 61) (by decide) (by decide) (show ¬ (2 : Int32) < (1 : Int32) by decide) ?_
    refine own_new X16 hx hZ hby hown (wd_1 hw) (wd_2 hw) (wd_3 hw) e16 at_61 (pc' := 64) rfl (by decide) (by decide) (fun T17 h17 b17 g17 X17 e17 E17 A17 D17 => ?_)
    have ne_b14_b17 : b14 ≠ b17 := Nat.ne_of_lt (by rw [g17]; exact f_V_b14.lt)
    have ge_b17 : n0 ≤ b17 := by rw [g17]; exact Zn
    have f_S_java_lang_String_COMPACT_STRINGS := f_S_java_lang_String_COMPACT_STRINGS.ext E17
    have f_V_b14 := f_V_b14.ext E17
    have Zn := Nat.le_trans Zn E17.1
    have hSn := Nat.le_trans hSn E17.1
    have f_O_b17 : own_SO Z h17 b17 .null (0 : Int32) := ⟨A17, D17 (Or.inr (wd_16 hw)) (ty := (.array .byte)) (by decide), D17 (Or.inr (wd_17 hw)) (ty := .byte) (by decide)⟩
    refine own_dup X17 hx hby at_64 (pc' := 65) rfl rfl ?_
    refine own_aload X17 hx hby at_65 (pc' := 67) rfl rfl rfl ?_
    have lt_b14 := f_V_b14.lt
    have lt_b17 := f_O_b17.lt
    have Zold := Zn
    have Kold := True.intro
    refine own_lk10 hw X17 hx hZ hby (by rw [hml]; rfl) hown at_67 (pc' := 70) rfl e17 (W := 1) (Nat.le_of_eq rfl) (rm1_1 l Z a0 hw [] b17 b14 k14 cs (p1 &&& (255 : Int32)) h17 n0 Zn f_O_b17 ge_b17 f_V_b14 (Ne.symm ne_b14_b17) f_S_java_lang_String_COMPACT_STRINGS hcs (own_le255 _)) (by decide) (by decide) (by decide) (by decide) (fun v19 T19 L19 X19 hQ19 => ?_)
    obtain ⟨rfl, Nq19, K19, d18, kd18, gd19, O19, V19⟩ := hQ19
    have N19 := Fr.app N16 Nq19
    have f_S_java_lang_String_COMPACT_STRINGS := own_sta1 f_S_java_lang_String_COMPACT_STRINGS K19 f_O_b17.1
    have f_V_b14 := f_V_b14.keep K19 (ninS ne_b14_b17 nin0)
    have Zn := Nat.le_trans Zn K19.1
    have hSn := Nat.le_trans hSn K19.1
    have ne_b14_d18 : b14 ≠ d18 := Nat.ne_of_lt (Nat.lt_of_lt_of_le lt_b14 gd19)
    have ne_b17_d18 : b17 ≠ d18 := Nat.ne_of_lt (Nat.lt_of_lt_of_le lt_b17 gd19)
    show own_End p e below _ (T19.setTop (mkF m 70 _ [(.ref b17)]))
    refine own_astore X19 hx hby at_70 (pc' := 72) rfl rfl (l' := #[.val (.int p0), .val (.int p1), .val (.int p2), .val (.long p3), .second, .val (.int p4), .val (.int (1 : Int32)), .val (.ref b14), .val (.ref b17), .unset, .unset, .unset]) rfl ?_
    refine own_iload X19 hx hby at_72 (pc' := 74) rfl rfl ?_
    refine own_iconst X19 hx hby at_74 (pc' := 75) rfl (n := (1 : Int32)) (by decide) ?_
    refine own_iand X19 hx hby at_75 (pc' := 76) rfl ?_
    refine own_if2 X19 hx hby at_76 (pc1 := 83) (by decide) (by decide) (pc2 := 79) rfl (fun (hc76 : (p4 &&& (1 : Int32)) = (0 : Int32)) => ?_) (fun (hc76 : ¬ (p4 &&& (1 : Int32)) = (0 : Int32)) => ?_)
    · refine own_iconst X19 hx hby at_83 (pc' := 84) rfl (n := (0 : Int32)) (by decide) ?_
      refine own_istore X19 hx hby at_84 (pc' := 86) rfl (l' := #[.val (.int p0), .val (.int p1), .val (.int p2), .val (.long p3), .second, .val (.int p4), .val (.int (1 : Int32)), .val (.ref b14), .val (.ref b17), .val (.int (0 : Int32)), .unset, .unset]) rfl ?_
      refine own_new X19 hx hZ hby hown (wd_22 hw) (wd_23 hw) (wd_24 hw) rfl at_86 (pc' := 89) rfl (by decide) (by decide) (fun T20 h20 b20 g20 X20 e20 E20 A20 D20 => ?_)
      have ne_b14_b20 : b14 ≠ b20 := Nat.ne_of_lt (by rw [g20]; exact f_V_b14.lt)
      have ne_b17_b20 : b17 ≠ b20 := Nat.ne_of_lt (by rw [g20]; exact O19.lt)
      have ne_d18_b20 : d18 ≠ b20 := Nat.ne_of_lt (by rw [g20]; exact V19.lt)
      have ge_b20 : n0 ≤ b20 := by rw [g20]; exact Zn
      have f_S_java_lang_String_COMPACT_STRINGS := f_S_java_lang_String_COMPACT_STRINGS.ext E20
      have f_V_b14 := f_V_b14.ext E20
      have O19 := O19.ext E20
      have V19 := V19.ext E20
      have Zn := Nat.le_trans Zn E20.1
      have hSn := Nat.le_trans hSn E20.1
      have f_O_b20 : own_CO Z h20 b20 .null (0 : Int64) (0 : Int32) := ⟨A20, D20 (Or.inr (wd_35 hw)) (ty := (.object "java/lang/String")) (by decide), D20 (Or.inr (wd_37 hw)) (ty := .long) (by decide), D20 (Or.inr (wd_39 hw)) (ty := .boolean) (by decide)⟩
      refine own_dup X20 hx hby at_89 (pc' := 90) rfl rfl ?_
      refine own_aload X20 hx hby at_90 (pc' := 92) rfl rfl rfl ?_
      refine own_lloadN X20 hx hby at_92 (pc' := 93) rfl rfl ?_
      refine own_iload X20 hx hby at_93 (pc' := 95) rfl rfl ?_
      refine own_lk8 hw X20 hx hZ hby (by rw [hml]; rfl) hown at_95 (pc' := 98) rfl e20 (W := 1) (Nat.le_of_eq rfl) (rm4_0 l Z a0 hw [] b20 b17 p3 h20 n0 Zn f_O_b20 ge_b20) (by decide) (by decide) (by decide) (by decide) (fun v21 T21 L21 X21 hQ21 => ?_)
      obtain ⟨rfl, Nq21, K21, O21⟩ := hQ21
      have N21 := Fr.app N19 Nq21
      have f_S_java_lang_String_COMPACT_STRINGS := own_sta1 f_S_java_lang_String_COMPACT_STRINGS K21 f_O_b20.1
      have f_V_b14 := f_V_b14.keep K21 (ninS ne_b14_b20 nin0)
      have O19 := O19.keep K21 (ninS ne_b17_b20 nin0)
      have V19 := V19.keep K21 (ninS ne_d18_b20 nin0)
      have Zn := Nat.le_trans Zn K21.1
      have hSn := Nat.le_trans hSn K21.1
      show own_End p e below _ (T21.setTop (mkF m 98 _ [(.ref b20)]))
      refine own_astore X21 hx hby at_98 (pc' := 100) rfl rfl (l' := #[.val (.int p0), .val (.int p1), .val (.int p2), .val (.long p3), .second, .val (.int p4), .val (.int (1 : Int32)), .val (.ref b14), .val (.ref b17), .val (.int (0 : Int32)), .val (.ref b20), .unset]) rfl ?_
      refine own_iload X21 hx hby at_100 (pc' := 102) rfl rfl ?_
      refine own_ifY X21 hx hby at_102 (pc' := 121) (by decide) (by decide) (show ¬ (1 : Int32) = (0 : Int32) by decide) ?_
      refine own_iconst X21 hx hby at_121 (pc' := 122) rfl (n := (1 : Int32)) (by decide) ?_
      refine own_istore X21 hx hby at_122 (pc' := 124) rfl (l' := #[.val (.int p0), .val (.int p1), .val (.int p2), .val (.long p3), .second, .val (.int p4), .val (.int (1 : Int32)), .val (.ref b14), .val (.ref b17), .val (.int (0 : Int32)), .val (.ref b20), .val (.int (1 : Int32))]) rfl ?_
      refine own_aload X21 hx hby at_124 (pc' := 126) rfl rfl rfl ?_
      refine own_lk9 hw X21 hx hZ hby (by rw [hml]; rfl) hown at_126 (pc' := 129) rfl rfl O21.1 (W := 0) (Nat.le_of_eq rfl) (rm6_1 l Z a0 hw [] b20 p3 (0 : Int32) b17 d18 kd18 ((p1 &&& (255 : Int32)).toInt8.toInt32) T21.heap n0 Zn O21 O19 V19) (by decide) (by decide) (by decide) (by decide) (fun v22 T22 L22 X22 hQ22 => ?_)
      obtain ⟨rfl, Nq22, e22⟩ := hQ22
      have N22 := Fr.app N21 Nq22
      show own_End p e below _ (T22.setTop (mkF m 129 _ [(.int (1 : Int32))]))
      refine own_iload X22 hx hby at_129 (pc' := 131) rfl rfl ?_
      refine own_icN X22 hx hby at_131 (pc' := 134) rfl (show (1 : Int32) = (1 : Int32) by decide) ?_
      refine own_iconst X22 hx hby at_134 (pc' := 135) rfl (n := (1 : Int32)) (by decide) ?_
      refine own_goto X22 hx hby at_135 (pc' := 139) (by decide) (by decide) ?_
      refine own_zreturn X22 hx hlk hby hret (Or.inr rfl) at_139 (own_lvS hS (by rw [e22]; exact hSn) ?_ (by decide) (by decide))
      show Q0 Z p0 p1 p2 p3 p4 cs  h0 n0 (some (.int (1 : Int32))) T22.heap _
      rw [e22]
      exact ⟨rfl, N22⟩
    · refine own_iconst X19 hx hby at_79 (pc' := 80) rfl (n := (1 : Int32)) (by decide) ?_
      refine own_goto X19 hx hby at_80 (pc' := 84) (by decide) (by decide) ?_
      refine own_istore X19 hx hby at_84 (pc' := 86) rfl (l' := #[.val (.int p0), .val (.int p1), .val (.int p2), .val (.long p3), .second, .val (.int p4), .val (.int (1 : Int32)), .val (.ref b14), .val (.ref b17), .val (.int (1 : Int32)), .unset, .unset]) rfl ?_
      refine own_new X19 hx hZ hby hown (wd_22 hw) (wd_23 hw) (wd_24 hw) rfl at_86 (pc' := 89) rfl (by decide) (by decide) (fun T23 h23 b23 g23 X23 e23 E23 A23 D23 => ?_)
      have ne_b14_b23 : b14 ≠ b23 := Nat.ne_of_lt (by rw [g23]; exact f_V_b14.lt)
      have ne_b17_b23 : b17 ≠ b23 := Nat.ne_of_lt (by rw [g23]; exact O19.lt)
      have ne_d18_b23 : d18 ≠ b23 := Nat.ne_of_lt (by rw [g23]; exact V19.lt)
      have ge_b23 : n0 ≤ b23 := by rw [g23]; exact Zn
      have f_S_java_lang_String_COMPACT_STRINGS := f_S_java_lang_String_COMPACT_STRINGS.ext E23
      have f_V_b14 := f_V_b14.ext E23
      have O19 := O19.ext E23
      have V19 := V19.ext E23
      have Zn := Nat.le_trans Zn E23.1
      have hSn := Nat.le_trans hSn E23.1
      have f_O_b23 : own_CO Z h23 b23 .null (0 : Int64) (0 : Int32) := ⟨A23, D23 (Or.inr (wd_35 hw)) (ty := (.object "java/lang/String")) (by decide), D23 (Or.inr (wd_37 hw)) (ty := .long) (by decide), D23 (Or.inr (wd_39 hw)) (ty := .boolean) (by decide)⟩
      refine own_dup X23 hx hby at_89 (pc' := 90) rfl rfl ?_
      refine own_aload X23 hx hby at_90 (pc' := 92) rfl rfl rfl ?_
      refine own_lloadN X23 hx hby at_92 (pc' := 93) rfl rfl ?_
      refine own_iload X23 hx hby at_93 (pc' := 95) rfl rfl ?_
      refine own_lk8 hw X23 hx hZ hby (by rw [hml]; rfl) hown at_95 (pc' := 98) rfl e23 (W := 1) (Nat.le_of_eq rfl) (rm4_1 l Z a0 hw [] b23 b17 p3 h23 n0 Zn f_O_b23 ge_b23) (by decide) (by decide) (by decide) (by decide) (fun v24 T24 L24 X24 hQ24 => ?_)
      obtain ⟨rfl, Nq24, K24, O24⟩ := hQ24
      have N24 := Fr.app N19 Nq24
      have f_S_java_lang_String_COMPACT_STRINGS := own_sta1 f_S_java_lang_String_COMPACT_STRINGS K24 f_O_b23.1
      have f_V_b14 := f_V_b14.keep K24 (ninS ne_b14_b23 nin0)
      have O19 := O19.keep K24 (ninS ne_b17_b23 nin0)
      have V19 := V19.keep K24 (ninS ne_d18_b23 nin0)
      have Zn := Nat.le_trans Zn K24.1
      have hSn := Nat.le_trans hSn K24.1
      show own_End p e below _ (T24.setTop (mkF m 98 _ [(.ref b23)]))
      refine own_astore X24 hx hby at_98 (pc' := 100) rfl rfl (l' := #[.val (.int p0), .val (.int p1), .val (.int p2), .val (.long p3), .second, .val (.int p4), .val (.int (1 : Int32)), .val (.ref b14), .val (.ref b17), .val (.int (1 : Int32)), .val (.ref b23), .unset]) rfl ?_
      refine own_iload X24 hx hby at_100 (pc' := 102) rfl rfl ?_
      refine own_ifY X24 hx hby at_102 (pc' := 121) (by decide) (by decide) (show ¬ (1 : Int32) = (0 : Int32) by decide) ?_
      refine own_iconst X24 hx hby at_121 (pc' := 122) rfl (n := (1 : Int32)) (by decide) ?_
      refine own_istore X24 hx hby at_122 (pc' := 124) rfl (l' := #[.val (.int p0), .val (.int p1), .val (.int p2), .val (.long p3), .second, .val (.int p4), .val (.int (1 : Int32)), .val (.ref b14), .val (.ref b17), .val (.int (1 : Int32)), .val (.ref b23), .val (.int (1 : Int32))]) rfl ?_
      refine own_aload X24 hx hby at_124 (pc' := 126) rfl rfl rfl ?_
      refine own_lk9 hw X24 hx hZ hby (by rw [hml]; rfl) hown at_126 (pc' := 129) rfl rfl O24.1 (W := 0) (Nat.le_of_eq rfl) (rm6_1 l Z a0 hw [] b23 p3 (1 : Int32) b17 d18 kd18 ((p1 &&& (255 : Int32)).toInt8.toInt32) T24.heap n0 Zn O24 O19 V19) (by decide) (by decide) (by decide) (by decide) (fun v25 T25 L25 X25 hQ25 => ?_)
      obtain ⟨rfl, Nq25, e25⟩ := hQ25
      have N25 := Fr.app N24 Nq25
      show own_End p e below _ (T25.setTop (mkF m 129 _ [(.int (1 : Int32))]))
      refine own_iload X25 hx hby at_129 (pc' := 131) rfl rfl ?_
      refine own_icN X25 hx hby at_131 (pc' := 134) rfl (show (1 : Int32) = (1 : Int32) by decide) ?_
      refine own_iconst X25 hx hby at_134 (pc' := 135) rfl (n := (1 : Int32)) (by decide) ?_
      refine own_goto X25 hx hby at_135 (pc' := 139) (by decide) (by decide) ?_
      refine own_zreturn X25 hx hlk hby hret (Or.inr rfl) at_139 (own_lvS hS (by rw [e25]; exact hSn) ?_ (by decide) (by decide))
      show Q0 Z p0 p1 p2 p3 p4 cs  h0 n0 (some (.int (1 : Int32))) T25.heap _
      rw [e25]
      exact ⟨rfl, N25⟩
  · rw [hs1]
    show own_End p e below _ (s₁.setTop (mkF m 3 #[.val (.int p0), .val (.int p1), .val (.int p2), .val (.long p3), .second, .val (.int p4), .unset, .unset, .unset, .unset, .unset, .unset] [(.int (2 : Int32))]))
    refine own_istore X0 hx hby at_3 (pc' := 5) rfl (l' := #[.val (.int p0), .val (.int p1), .val (.int p2), .val (.long p3), .second, .val (.int p4), .val (.int (2 : Int32)), .unset, .unset, .unset, .unset, .unset]) rfl ?_
    refine own_iload X0 hx hby at_5 (pc' := 7) rfl rfl ?_
    refine own_newP (aty := .char) X0 hx hZ hby (wd_0 hw) e0 at_7 (pc' := 9) rfl (by decide) (cap := 2) (by decide) (by decide) (by decide) (by decide) (fun T26 h26 k26 b26 g26 X26 e26 E26 A26 => ?_)
    have ge_b26 : n0 ≤ b26 := by rw [g26]; exact Z0
    have f_S_java_lang_String_COMPACT_STRINGS := f_S_java_lang_String_COMPACT_STRINGS.ext E26
    have Zn := Nat.le_trans Z0 E26.1
    have hSn := Nat.le_trans hSn E26.1
    have f_V_b26 : Arv Z h26 b26 k26 .char (2 : Int32) [(.int (0 : Int32)), (.int (0 : Int32))] (.int (0 : Int32)) := (Arv.new A26 (by decide)).pad (pad_rep [] (.int (0 : Int32)) 2)
    refine own_astore X26 hx hby at_9 (pc' := 11) rfl rfl (l' := #[.val (.int p0), .val (.int p1), .val (.int p2), .val (.long p3), .second, .val (.int p4), .val (.int (2 : Int32)), .val (.ref b26), .unset, .unset, .unset, .unset]) rfl ?_
    refine own_iload X26 hx hby at_11 (pc' := 13) rfl rfl ?_
    refine own_ifN X26 hx hby at_13 (pc' := 16) rfl (show (0 : Int32) < (2 : Int32) by decide) ?_
    refine own_aload X26 hx hby at_16 (pc' := 18) rfl rfl rfl ?_
    refine own_iconst X26 hx hby at_18 (pc' := 19) rfl (n := (0 : Int32)) (by decide) ?_
    refine own_iloadN X26 hx hby at_19 (pc' := 20) rfl rfl ?_
    refine own_sipush X26 hx hby at_20 (pc' := 23) rfl (n := (255 : Int32)) (by decide) ?_
    refine own_iand X26 hx hby at_23 (pc' := 24) rfl ?_
    refine own_i2c X26 hx hby at_24 (pc' := 25) rfl ?_
    rw [i2c_mask]
    show own_End p e below _ (T26.setTop (mkF m 25 #[.val (.int p0), .val (.int p1), .val (.int p2), .val (.long p3), .second, .val (.int p4), .val (.int (2 : Int32)), .val (.ref b26), .unset, .unset, .unset, .unset] [(.int (p1 &&& (255 : Int32))), (.int (0 : Int32)), (.ref b26)]))
    obtain ⟨cl27, Ar27, q27, S27, M27, H27, G27⟩ := id f_V_b26
    have hin27 : ¬ ((0 : Int32) < 0 ∨ cl27.slots.size ≤ ((0 : Int32)).toNatClampNeg) := inb_of S27 ⟨by decide, by decide⟩
    refine own_castore X26 hx hZ hby e26 Ar27 hin27 at_25 (pc' := 26) rfl (fun T28 h28 X28 e28 W28 => ?_)
    have f_V_b26 := Arv.set Ar27 q27 S27 M27 H27 G27 (fits_nar_char _) W28 0 rfl (Nat.le_of_ble_eq_true rfl)
    have f_V_b26 : Arv Z h28 b26 k26 .char (2 : Int32) [(.int (nar .char (p1 &&& (255 : Int32)))), (.int (0 : Int32))] (.int (0 : Int32)) := f_V_b26
    rw [show nar .char (p1 &&& (255 : Int32)) = (p1 &&& (255 : Int32)) from i2c_mask _] at f_V_b26
    have f_S_java_lang_String_COMPACT_STRINGS := f_S_java_lang_String_COMPACT_STRINGS.wr W28
    have Zn := Nat.le_trans Zn (Keep.of_wr W28).1
    have hSn := Nat.le_trans hSn (Keep.of_wr W28).1
    have N28 := Fr.snoc X28 N0 ge_b26
    refine own_iload X28 hx hby at_26 (pc' := 28) rfl rfl ?_
    refine own_iconst X28 hx hby at_28 (pc' := 29) rfl (n := (1 : Int32)) (by decide) ?_
    refine own_icN X28 hx hby at_29 (pc' := 32) rfl (show (1 : Int32) < (2 : Int32) by decide) ?_
    refine own_aload X28 hx hby at_32 (pc' := 34) rfl rfl rfl ?_
    refine own_iconst X28 hx hby at_34 (pc' := 35) rfl (n := (1 : Int32)) (by decide) ?_
    refine own_iloadN X28 hx hby at_35 (pc' := 36) rfl rfl ?_
    refine own_sipush X28 hx hby at_36 (pc' := 39) rfl (n := (255 : Int32)) (by decide) ?_
    refine own_iand X28 hx hby at_39 (pc' := 40) rfl ?_
    refine own_i2c X28 hx hby at_40 (pc' := 41) rfl ?_
    rw [i2c_mask]
    show own_End p e below _ (T28.setTop (mkF m 41 #[.val (.int p0), .val (.int p1), .val (.int p2), .val (.long p3), .second, .val (.int p4), .val (.int (2 : Int32)), .val (.ref b26), .unset, .unset, .unset, .unset] [(.int (p2 &&& (255 : Int32))), (.int (1 : Int32)), (.ref b26)]))
    obtain ⟨cl29, Ar29, q29, S29, M29, H29, G29⟩ := id f_V_b26
    have hin29 : ¬ ((1 : Int32) < 0 ∨ cl29.slots.size ≤ ((1 : Int32)).toNatClampNeg) := inb_of S29 ⟨by decide, by decide⟩
    refine own_castore X28 hx hZ hby e28 Ar29 hin29 at_41 (pc' := 42) rfl (fun T30 h30 X30 e30 W30 => ?_)
    have f_V_b26 := Arv.set Ar29 q29 S29 M29 H29 G29 (fits_nar_char _) W30 1 rfl (Nat.le_of_ble_eq_true rfl)
    have f_V_b26 : Arv Z h30 b26 k26 .char (2 : Int32) [(.int (p1 &&& (255 : Int32))), (.int (nar .char (p2 &&& (255 : Int32))))] (.int (0 : Int32)) := f_V_b26
    rw [show nar .char (p2 &&& (255 : Int32)) = (p2 &&& (255 : Int32)) from i2c_mask _] at f_V_b26
    have f_S_java_lang_String_COMPACT_STRINGS := f_S_java_lang_String_COMPACT_STRINGS.wr W30
    have Zn := Nat.le_trans Zn (Keep.of_wr W30).1
    have hSn := Nat.le_trans hSn (Keep.of_wr W30).1
    have N30 := Fr.snoc X30 N28 ge_b26
    refine own_iload X30 hx hby at_42 (pc' := 44) rfl rfl ?_
    refine own_iconst X30 hx hby at_44 (pc' := 45) rfl (n := (2 : Int32)) (by decide) ?_
    refine own_icY X30 hx hby at_45 (pc' := 61) (by decide) (by decide) (show ¬ (2 : Int32) < (2 : Int32) by decide) ?_
    refine own_new X30 hx hZ hby hown (wd_1 hw) (wd_2 hw) (wd_3 hw) e30 at_61 (pc' := 64) rfl (by decide) (by decide) (fun T31 h31 b31 g31 X31 e31 E31 A31 D31 => ?_)
    have ne_b26_b31 : b26 ≠ b31 := Nat.ne_of_lt (by rw [g31]; exact f_V_b26.lt)
    have ge_b31 : n0 ≤ b31 := by rw [g31]; exact Zn
    have f_S_java_lang_String_COMPACT_STRINGS := f_S_java_lang_String_COMPACT_STRINGS.ext E31
    have f_V_b26 := f_V_b26.ext E31
    have Zn := Nat.le_trans Zn E31.1
    have hSn := Nat.le_trans hSn E31.1
    have f_O_b31 : own_SO Z h31 b31 .null (0 : Int32) := ⟨A31, D31 (Or.inr (wd_16 hw)) (ty := (.array .byte)) (by decide), D31 (Or.inr (wd_17 hw)) (ty := .byte) (by decide)⟩
    refine own_dup X31 hx hby at_64 (pc' := 65) rfl rfl ?_
    refine own_aload X31 hx hby at_65 (pc' := 67) rfl rfl rfl ?_
    have lt_b26 := f_V_b26.lt
    have lt_b31 := f_O_b31.lt
    have Zold := Zn
    have Kold := True.intro
    refine own_lk10 hw X31 hx hZ hby (by rw [hml]; rfl) hown at_67 (pc' := 70) rfl e31 (W := 1) (Nat.le_of_eq rfl) (rm1_2 l Z a0 hw [] b31 b26 k26 cs (p1 &&& (255 : Int32)) (p2 &&& (255 : Int32)) h31 n0 Zn f_O_b31 ge_b31 f_V_b26 (Ne.symm ne_b26_b31) f_S_java_lang_String_COMPACT_STRINGS hcs (own_le255 _) (own_le255 _)) (by decide) (by decide) (by decide) (by decide) (fun v33 T33 L33 X33 hQ33 => ?_)
    obtain ⟨rfl, Nq33, K33, d32, kd32, gd33, O33, V33⟩ := hQ33
    have N33 := Fr.app N30 Nq33
    have f_S_java_lang_String_COMPACT_STRINGS := own_sta1 f_S_java_lang_String_COMPACT_STRINGS K33 f_O_b31.1
    have f_V_b26 := f_V_b26.keep K33 (ninS ne_b26_b31 nin0)
    have Zn := Nat.le_trans Zn K33.1
    have hSn := Nat.le_trans hSn K33.1
    have ne_b26_d32 : b26 ≠ d32 := Nat.ne_of_lt (Nat.lt_of_lt_of_le lt_b26 gd33)
    have ne_b31_d32 : b31 ≠ d32 := Nat.ne_of_lt (Nat.lt_of_lt_of_le lt_b31 gd33)
    show own_End p e below _ (T33.setTop (mkF m 70 _ [(.ref b31)]))
    refine own_astore X33 hx hby at_70 (pc' := 72) rfl rfl (l' := #[.val (.int p0), .val (.int p1), .val (.int p2), .val (.long p3), .second, .val (.int p4), .val (.int (2 : Int32)), .val (.ref b26), .val (.ref b31), .unset, .unset, .unset]) rfl ?_
    refine own_iload X33 hx hby at_72 (pc' := 74) rfl rfl ?_
    refine own_iconst X33 hx hby at_74 (pc' := 75) rfl (n := (1 : Int32)) (by decide) ?_
    refine own_iand X33 hx hby at_75 (pc' := 76) rfl ?_
    refine own_if2 X33 hx hby at_76 (pc1 := 83) (by decide) (by decide) (pc2 := 79) rfl (fun (hc76 : (p4 &&& (1 : Int32)) = (0 : Int32)) => ?_) (fun (hc76 : ¬ (p4 &&& (1 : Int32)) = (0 : Int32)) => ?_)
    · refine own_iconst X33 hx hby at_83 (pc' := 84) rfl (n := (0 : Int32)) (by decide) ?_
      refine own_istore X33 hx hby at_84 (pc' := 86) rfl (l' := #[.val (.int p0), .val (.int p1), .val (.int p2), .val (.long p3), .second, .val (.int p4), .val (.int (2 : Int32)), .val (.ref b26), .val (.ref b31), .val (.int (0 : Int32)), .unset, .unset]) rfl ?_
      refine own_new X33 hx hZ hby hown (wd_22 hw) (wd_23 hw) (wd_24 hw) rfl at_86 (pc' := 89) rfl (by decide) (by decide) (fun T34 h34 b34 g34 X34 e34 E34 A34 D34 => ?_)
      have ne_b26_b34 : b26 ≠ b34 := Nat.ne_of_lt (by rw [g34]; exact f_V_b26.lt)
      have ne_b31_b34 : b31 ≠ b34 := Nat.ne_of_lt (by rw [g34]; exact O33.lt)
      have ne_d32_b34 : d32 ≠ b34 := Nat.ne_of_lt (by rw [g34]; exact V33.lt)
      have ge_b34 : n0 ≤ b34 := by rw [g34]; exact Zn
      have f_S_java_lang_String_COMPACT_STRINGS := f_S_java_lang_String_COMPACT_STRINGS.ext E34
      have f_V_b26 := f_V_b26.ext E34
      have O33 := O33.ext E34
      have V33 := V33.ext E34
      have Zn := Nat.le_trans Zn E34.1
      have hSn := Nat.le_trans hSn E34.1
      have f_O_b34 : own_CO Z h34 b34 .null (0 : Int64) (0 : Int32) := ⟨A34, D34 (Or.inr (wd_35 hw)) (ty := (.object "java/lang/String")) (by decide), D34 (Or.inr (wd_37 hw)) (ty := .long) (by decide), D34 (Or.inr (wd_39 hw)) (ty := .boolean) (by decide)⟩
      refine own_dup X34 hx hby at_89 (pc' := 90) rfl rfl ?_
      refine own_aload X34 hx hby at_90 (pc' := 92) rfl rfl rfl ?_
      refine own_lloadN X34 hx hby at_92 (pc' := 93) rfl rfl ?_
      refine own_iload X34 hx hby at_93 (pc' := 95) rfl rfl ?_
      refine own_lk8 hw X34 hx hZ hby (by rw [hml]; rfl) hown at_95 (pc' := 98) rfl e34 (W := 1) (Nat.le_of_eq rfl) (rm4_0 l Z a0 hw [] b34 b31 p3 h34 n0 Zn f_O_b34 ge_b34) (by decide) (by decide) (by decide) (by decide) (fun v35 T35 L35 X35 hQ35 => ?_)
      obtain ⟨rfl, Nq35, K35, O35⟩ := hQ35
      have N35 := Fr.app N33 Nq35
      have f_S_java_lang_String_COMPACT_STRINGS := own_sta1 f_S_java_lang_String_COMPACT_STRINGS K35 f_O_b34.1
      have f_V_b26 := f_V_b26.keep K35 (ninS ne_b26_b34 nin0)
      have O33 := O33.keep K35 (ninS ne_b31_b34 nin0)
      have V33 := V33.keep K35 (ninS ne_d32_b34 nin0)
      have Zn := Nat.le_trans Zn K35.1
      have hSn := Nat.le_trans hSn K35.1
      show own_End p e below _ (T35.setTop (mkF m 98 _ [(.ref b34)]))
      refine own_astore X35 hx hby at_98 (pc' := 100) rfl rfl (l' := #[.val (.int p0), .val (.int p1), .val (.int p2), .val (.long p3), .second, .val (.int p4), .val (.int (2 : Int32)), .val (.ref b26), .val (.ref b31), .val (.int (0 : Int32)), .val (.ref b34), .unset]) rfl ?_
      refine own_iload X35 hx hby at_100 (pc' := 102) rfl rfl ?_
      refine own_ifY X35 hx hby at_102 (pc' := 121) (by decide) (by decide) (show ¬ (2 : Int32) = (0 : Int32) by decide) ?_
      refine own_iconst X35 hx hby at_121 (pc' := 122) rfl (n := (1 : Int32)) (by decide) ?_
      refine own_istore X35 hx hby at_122 (pc' := 124) rfl (l' := #[.val (.int p0), .val (.int p1), .val (.int p2), .val (.long p3), .second, .val (.int p4), .val (.int (2 : Int32)), .val (.ref b26), .val (.ref b31), .val (.int (0 : Int32)), .val (.ref b34), .val (.int (1 : Int32))]) rfl ?_
      refine own_aload X35 hx hby at_124 (pc' := 126) rfl rfl rfl ?_
      refine own_lk9 hw X35 hx hZ hby (by rw [hml]; rfl) hown at_126 (pc' := 129) rfl rfl O35.1 (W := 0) (Nat.le_of_eq rfl) (rm6_2 l Z a0 hw [] b34 p3 (0 : Int32) b31 d32 kd32 ((p1 &&& (255 : Int32)).toInt8.toInt32) ((p2 &&& (255 : Int32)).toInt8.toInt32) T35.heap n0 Zn O35 O33 V33) (by decide) (by decide) (by decide) (by decide) (fun v36 T36 L36 X36 hQ36 => ?_)
      obtain ⟨rfl, Nq36, e36⟩ := hQ36
      have N36 := Fr.app N35 Nq36
      show own_End p e below _ (T36.setTop (mkF m 129 _ [(.int (1 : Int32))]))
      refine own_iload X36 hx hby at_129 (pc' := 131) rfl rfl ?_
      refine own_icN X36 hx hby at_131 (pc' := 134) rfl (show (1 : Int32) = (1 : Int32) by decide) ?_
      refine own_iconst X36 hx hby at_134 (pc' := 135) rfl (n := (1 : Int32)) (by decide) ?_
      refine own_goto X36 hx hby at_135 (pc' := 139) (by decide) (by decide) ?_
      refine own_zreturn X36 hx hlk hby hret (Or.inr rfl) at_139 (own_lvS hS (by rw [e36]; exact hSn) ?_ (by decide) (by decide))
      show Q0 Z p0 p1 p2 p3 p4 cs  h0 n0 (some (.int (1 : Int32))) T36.heap _
      rw [e36]
      exact ⟨rfl, N36⟩
    · refine own_iconst X33 hx hby at_79 (pc' := 80) rfl (n := (1 : Int32)) (by decide) ?_
      refine own_goto X33 hx hby at_80 (pc' := 84) (by decide) (by decide) ?_
      refine own_istore X33 hx hby at_84 (pc' := 86) rfl (l' := #[.val (.int p0), .val (.int p1), .val (.int p2), .val (.long p3), .second, .val (.int p4), .val (.int (2 : Int32)), .val (.ref b26), .val (.ref b31), .val (.int (1 : Int32)), .unset, .unset]) rfl ?_
      refine own_new X33 hx hZ hby hown (wd_22 hw) (wd_23 hw) (wd_24 hw) rfl at_86 (pc' := 89) rfl (by decide) (by decide) (fun T37 h37 b37 g37 X37 e37 E37 A37 D37 => ?_)
      have ne_b26_b37 : b26 ≠ b37 := Nat.ne_of_lt (by rw [g37]; exact f_V_b26.lt)
      have ne_b31_b37 : b31 ≠ b37 := Nat.ne_of_lt (by rw [g37]; exact O33.lt)
      have ne_d32_b37 : d32 ≠ b37 := Nat.ne_of_lt (by rw [g37]; exact V33.lt)
      have ge_b37 : n0 ≤ b37 := by rw [g37]; exact Zn
      have f_S_java_lang_String_COMPACT_STRINGS := f_S_java_lang_String_COMPACT_STRINGS.ext E37
      have f_V_b26 := f_V_b26.ext E37
      have O33 := O33.ext E37
      have V33 := V33.ext E37
      have Zn := Nat.le_trans Zn E37.1
      have hSn := Nat.le_trans hSn E37.1
      have f_O_b37 : own_CO Z h37 b37 .null (0 : Int64) (0 : Int32) := ⟨A37, D37 (Or.inr (wd_35 hw)) (ty := (.object "java/lang/String")) (by decide), D37 (Or.inr (wd_37 hw)) (ty := .long) (by decide), D37 (Or.inr (wd_39 hw)) (ty := .boolean) (by decide)⟩
      refine own_dup X37 hx hby at_89 (pc' := 90) rfl rfl ?_
      refine own_aload X37 hx hby at_90 (pc' := 92) rfl rfl rfl ?_
      refine own_lloadN X37 hx hby at_92 (pc' := 93) rfl rfl ?_
      refine own_iload X37 hx hby at_93 (pc' := 95) rfl rfl ?_
      refine own_lk8 hw X37 hx hZ hby (by rw [hml]; rfl) hown at_95 (pc' := 98) rfl e37 (W := 1) (Nat.le_of_eq rfl) (rm4_1 l Z a0 hw [] b37 b31 p3 h37 n0 Zn f_O_b37 ge_b37) (by decide) (by decide) (by decide) (by decide) (fun v38 T38 L38 X38 hQ38 => ?_)
      obtain ⟨rfl, Nq38, K38, O38⟩ := hQ38
      have N38 := Fr.app N33 Nq38
      have f_S_java_lang_String_COMPACT_STRINGS := own_sta1 f_S_java_lang_String_COMPACT_STRINGS K38 f_O_b37.1
      have f_V_b26 := f_V_b26.keep K38 (ninS ne_b26_b37 nin0)
      have O33 := O33.keep K38 (ninS ne_b31_b37 nin0)
      have V33 := V33.keep K38 (ninS ne_d32_b37 nin0)
      have Zn := Nat.le_trans Zn K38.1
      have hSn := Nat.le_trans hSn K38.1
      show own_End p e below _ (T38.setTop (mkF m 98 _ [(.ref b37)]))
      refine own_astore X38 hx hby at_98 (pc' := 100) rfl rfl (l' := #[.val (.int p0), .val (.int p1), .val (.int p2), .val (.long p3), .second, .val (.int p4), .val (.int (2 : Int32)), .val (.ref b26), .val (.ref b31), .val (.int (1 : Int32)), .val (.ref b37), .unset]) rfl ?_
      refine own_iload X38 hx hby at_100 (pc' := 102) rfl rfl ?_
      refine own_ifY X38 hx hby at_102 (pc' := 121) (by decide) (by decide) (show ¬ (2 : Int32) = (0 : Int32) by decide) ?_
      refine own_iconst X38 hx hby at_121 (pc' := 122) rfl (n := (1 : Int32)) (by decide) ?_
      refine own_istore X38 hx hby at_122 (pc' := 124) rfl (l' := #[.val (.int p0), .val (.int p1), .val (.int p2), .val (.long p3), .second, .val (.int p4), .val (.int (2 : Int32)), .val (.ref b26), .val (.ref b31), .val (.int (1 : Int32)), .val (.ref b37), .val (.int (1 : Int32))]) rfl ?_
      refine own_aload X38 hx hby at_124 (pc' := 126) rfl rfl rfl ?_
      refine own_lk9 hw X38 hx hZ hby (by rw [hml]; rfl) hown at_126 (pc' := 129) rfl rfl O38.1 (W := 0) (Nat.le_of_eq rfl) (rm6_2 l Z a0 hw [] b37 p3 (1 : Int32) b31 d32 kd32 ((p1 &&& (255 : Int32)).toInt8.toInt32) ((p2 &&& (255 : Int32)).toInt8.toInt32) T38.heap n0 Zn O38 O33 V33) (by decide) (by decide) (by decide) (by decide) (fun v39 T39 L39 X39 hQ39 => ?_)
      obtain ⟨rfl, Nq39, e39⟩ := hQ39
      have N39 := Fr.app N38 Nq39
      show own_End p e below _ (T39.setTop (mkF m 129 _ [(.int (1 : Int32))]))
      refine own_iload X39 hx hby at_129 (pc' := 131) rfl rfl ?_
      refine own_icN X39 hx hby at_131 (pc' := 134) rfl (show (1 : Int32) = (1 : Int32) by decide) ?_
      refine own_iconst X39 hx hby at_134 (pc' := 135) rfl (n := (1 : Int32)) (by decide) ?_
      refine own_goto X39 hx hby at_135 (pc' := 139) (by decide) (by decide) ?_
      refine own_zreturn X39 hx hlk hby hret (Or.inr rfl) at_139 (own_lvS hS (by rw [e39]; exact hSn) ?_ (by decide) (by decide))
      show Q0 Z p0 p1 p2 p3 p4 cs  h0 n0 (some (.int (1 : Int32))) T39.heap _
      rw [e39]
      exact ⟨rfl, N39⟩
  · rw [hs1]
    show own_End p e below _ (s₁.setTop (mkF m 3 #[.val (.int p0), .val (.int p1), .val (.int p2), .val (.long p3), .second, .val (.int p4), .unset, .unset, .unset, .unset, .unset, .unset] [(.int (3 : Int32))]))
    refine own_istore X0 hx hby at_3 (pc' := 5) rfl (l' := #[.val (.int p0), .val (.int p1), .val (.int p2), .val (.long p3), .second, .val (.int p4), .val (.int (3 : Int32)), .unset, .unset, .unset, .unset, .unset]) rfl ?_
    refine own_iload X0 hx hby at_5 (pc' := 7) rfl rfl ?_
    refine own_newP (aty := .char) X0 hx hZ hby (wd_0 hw) e0 at_7 (pc' := 9) rfl (by decide) (cap := 3) (by decide) (by decide) (by decide) (by decide) (fun T40 h40 k40 b40 g40 X40 e40 E40 A40 => ?_)
    have ge_b40 : n0 ≤ b40 := by rw [g40]; exact Z0
    have f_S_java_lang_String_COMPACT_STRINGS := f_S_java_lang_String_COMPACT_STRINGS.ext E40
    have Zn := Nat.le_trans Z0 E40.1
    have hSn := Nat.le_trans hSn E40.1
    have f_V_b40 : Arv Z h40 b40 k40 .char (3 : Int32) [(.int (0 : Int32)), (.int (0 : Int32)), (.int (0 : Int32))] (.int (0 : Int32)) := (Arv.new A40 (by decide)).pad (pad_rep [] (.int (0 : Int32)) 3)
    refine own_astore X40 hx hby at_9 (pc' := 11) rfl rfl (l' := #[.val (.int p0), .val (.int p1), .val (.int p2), .val (.long p3), .second, .val (.int p4), .val (.int (3 : Int32)), .val (.ref b40), .unset, .unset, .unset, .unset]) rfl ?_
    refine own_iload X40 hx hby at_11 (pc' := 13) rfl rfl ?_
    refine own_ifN X40 hx hby at_13 (pc' := 16) rfl (show (0 : Int32) < (3 : Int32) by decide) ?_
    refine own_aload X40 hx hby at_16 (pc' := 18) rfl rfl rfl ?_
    refine own_iconst X40 hx hby at_18 (pc' := 19) rfl (n := (0 : Int32)) (by decide) ?_
    refine own_iloadN X40 hx hby at_19 (pc' := 20) rfl rfl ?_
    refine own_sipush X40 hx hby at_20 (pc' := 23) rfl (n := (255 : Int32)) (by decide) ?_
    refine own_iand X40 hx hby at_23 (pc' := 24) rfl ?_
    refine own_i2c X40 hx hby at_24 (pc' := 25) rfl ?_
    rw [i2c_mask]
    show own_End p e below _ (T40.setTop (mkF m 25 #[.val (.int p0), .val (.int p1), .val (.int p2), .val (.long p3), .second, .val (.int p4), .val (.int (3 : Int32)), .val (.ref b40), .unset, .unset, .unset, .unset] [(.int (p1 &&& (255 : Int32))), (.int (0 : Int32)), (.ref b40)]))
    obtain ⟨cl41, Ar41, q41, S41, M41, H41, G41⟩ := id f_V_b40
    have hin41 : ¬ ((0 : Int32) < 0 ∨ cl41.slots.size ≤ ((0 : Int32)).toNatClampNeg) := inb_of S41 ⟨by decide, by decide⟩
    refine own_castore X40 hx hZ hby e40 Ar41 hin41 at_25 (pc' := 26) rfl (fun T42 h42 X42 e42 W42 => ?_)
    have f_V_b40 := Arv.set Ar41 q41 S41 M41 H41 G41 (fits_nar_char _) W42 0 rfl (Nat.le_of_ble_eq_true rfl)
    have f_V_b40 : Arv Z h42 b40 k40 .char (3 : Int32) [(.int (nar .char (p1 &&& (255 : Int32)))), (.int (0 : Int32)), (.int (0 : Int32))] (.int (0 : Int32)) := f_V_b40
    rw [show nar .char (p1 &&& (255 : Int32)) = (p1 &&& (255 : Int32)) from i2c_mask _] at f_V_b40
    have f_S_java_lang_String_COMPACT_STRINGS := f_S_java_lang_String_COMPACT_STRINGS.wr W42
    have Zn := Nat.le_trans Zn (Keep.of_wr W42).1
    have hSn := Nat.le_trans hSn (Keep.of_wr W42).1
    have N42 := Fr.snoc X42 N0 ge_b40
    refine own_iload X42 hx hby at_26 (pc' := 28) rfl rfl ?_
    refine own_iconst X42 hx hby at_28 (pc' := 29) rfl (n := (1 : Int32)) (by decide) ?_
    refine own_icN X42 hx hby at_29 (pc' := 32) rfl (show (1 : Int32) < (3 : Int32) by decide) ?_
    refine own_aload X42 hx hby at_32 (pc' := 34) rfl rfl rfl ?_
    refine own_iconst X42 hx hby at_34 (pc' := 35) rfl (n := (1 : Int32)) (by decide) ?_
    refine own_iloadN X42 hx hby at_35 (pc' := 36) rfl rfl ?_
    refine own_sipush X42 hx hby at_36 (pc' := 39) rfl (n := (255 : Int32)) (by decide) ?_
    refine own_iand X42 hx hby at_39 (pc' := 40) rfl ?_
    refine own_i2c X42 hx hby at_40 (pc' := 41) rfl ?_
    rw [i2c_mask]
    show own_End p e below _ (T42.setTop (mkF m 41 #[.val (.int p0), .val (.int p1), .val (.int p2), .val (.long p3), .second, .val (.int p4), .val (.int (3 : Int32)), .val (.ref b40), .unset, .unset, .unset, .unset] [(.int (p2 &&& (255 : Int32))), (.int (1 : Int32)), (.ref b40)]))
    obtain ⟨cl43, Ar43, q43, S43, M43, H43, G43⟩ := id f_V_b40
    have hin43 : ¬ ((1 : Int32) < 0 ∨ cl43.slots.size ≤ ((1 : Int32)).toNatClampNeg) := inb_of S43 ⟨by decide, by decide⟩
    refine own_castore X42 hx hZ hby e42 Ar43 hin43 at_41 (pc' := 42) rfl (fun T44 h44 X44 e44 W44 => ?_)
    have f_V_b40 := Arv.set Ar43 q43 S43 M43 H43 G43 (fits_nar_char _) W44 1 rfl (Nat.le_of_ble_eq_true rfl)
    have f_V_b40 : Arv Z h44 b40 k40 .char (3 : Int32) [(.int (p1 &&& (255 : Int32))), (.int (nar .char (p2 &&& (255 : Int32)))), (.int (0 : Int32))] (.int (0 : Int32)) := f_V_b40
    rw [show nar .char (p2 &&& (255 : Int32)) = (p2 &&& (255 : Int32)) from i2c_mask _] at f_V_b40
    have f_S_java_lang_String_COMPACT_STRINGS := f_S_java_lang_String_COMPACT_STRINGS.wr W44
    have Zn := Nat.le_trans Zn (Keep.of_wr W44).1
    have hSn := Nat.le_trans hSn (Keep.of_wr W44).1
    have N44 := Fr.snoc X44 N42 ge_b40
    refine own_iload X44 hx hby at_42 (pc' := 44) rfl rfl ?_
    refine own_iconst X44 hx hby at_44 (pc' := 45) rfl (n := (2 : Int32)) (by decide) ?_
    refine own_icN X44 hx hby at_45 (pc' := 48) rfl (show (2 : Int32) < (3 : Int32) by decide) ?_
    refine own_aload X44 hx hby at_48 (pc' := 50) rfl rfl rfl ?_
    refine own_iconst X44 hx hby at_50 (pc' := 51) rfl (n := (2 : Int32)) (by decide) ?_
    refine own_iloadN X44 hx hby at_51 (pc' := 52) rfl rfl ?_
    refine own_bipush X44 hx hby at_52 (pc' := 54) rfl (n := (8 : Int32)) (by decide) ?_
    refine own_iushr X44 hx hby at_54 (pc' := 55) rfl ?_
    refine own_sipush X44 hx hby at_55 (pc' := 58) rfl (n := (255 : Int32)) (by decide) ?_
    refine own_iand X44 hx hby at_58 (pc' := 59) rfl ?_
    refine own_i2c X44 hx hby at_59 (pc' := 60) rfl ?_
    rw [i2c_mask]
    show own_End p e below _ (T44.setTop (mkF m 60 #[.val (.int p0), .val (.int p1), .val (.int p2), .val (.long p3), .second, .val (.int p4), .val (.int (3 : Int32)), .val (.ref b40), .unset, .unset, .unset, .unset] [(.int (((p1.toUInt32 >>> ((8 : Int32) &&& 31).toUInt32).toInt32) &&& (255 : Int32))), (.int (2 : Int32)), (.ref b40)]))
    obtain ⟨cl45, Ar45, q45, S45, M45, H45, G45⟩ := id f_V_b40
    have hin45 : ¬ ((2 : Int32) < 0 ∨ cl45.slots.size ≤ ((2 : Int32)).toNatClampNeg) := inb_of S45 ⟨by decide, by decide⟩
    refine own_castore X44 hx hZ hby e44 Ar45 hin45 at_60 (pc' := 61) rfl (fun T46 h46 X46 e46 W46 => ?_)
    have f_V_b40 := Arv.set Ar45 q45 S45 M45 H45 G45 (fits_nar_char _) W46 2 rfl (Nat.le_of_ble_eq_true rfl)
    have f_V_b40 : Arv Z h46 b40 k40 .char (3 : Int32) [(.int (p1 &&& (255 : Int32))), (.int (p2 &&& (255 : Int32))), (.int (nar .char (((p1.toUInt32 >>> ((8 : Int32) &&& 31).toUInt32).toInt32) &&& (255 : Int32))))] (.int (0 : Int32)) := f_V_b40
    rw [show nar .char (((p1.toUInt32 >>> ((8 : Int32) &&& 31).toUInt32).toInt32) &&& (255 : Int32)) = (((p1.toUInt32 >>> ((8 : Int32) &&& 31).toUInt32).toInt32) &&& (255 : Int32)) from i2c_mask _] at f_V_b40
    have f_S_java_lang_String_COMPACT_STRINGS := f_S_java_lang_String_COMPACT_STRINGS.wr W46
    have Zn := Nat.le_trans Zn (Keep.of_wr W46).1
    have hSn := Nat.le_trans hSn (Keep.of_wr W46).1
    have N46 := Fr.snoc X46 N44 ge_b40
    refine own_new X46 hx hZ hby hown (wd_1 hw) (wd_2 hw) (wd_3 hw) e46 at_61 (pc' := 64) rfl (by decide) (by decide) (fun T47 h47 b47 g47 X47 e47 E47 A47 D47 => ?_)
    have ne_b40_b47 : b40 ≠ b47 := Nat.ne_of_lt (by rw [g47]; exact f_V_b40.lt)
    have ge_b47 : n0 ≤ b47 := by rw [g47]; exact Zn
    have f_S_java_lang_String_COMPACT_STRINGS := f_S_java_lang_String_COMPACT_STRINGS.ext E47
    have f_V_b40 := f_V_b40.ext E47
    have Zn := Nat.le_trans Zn E47.1
    have hSn := Nat.le_trans hSn E47.1
    have f_O_b47 : own_SO Z h47 b47 .null (0 : Int32) := ⟨A47, D47 (Or.inr (wd_16 hw)) (ty := (.array .byte)) (by decide), D47 (Or.inr (wd_17 hw)) (ty := .byte) (by decide)⟩
    refine own_dup X47 hx hby at_64 (pc' := 65) rfl rfl ?_
    refine own_aload X47 hx hby at_65 (pc' := 67) rfl rfl rfl ?_
    have lt_b40 := f_V_b40.lt
    have lt_b47 := f_O_b47.lt
    have Zold := Zn
    have Kold := True.intro
    refine own_lk10 hw X47 hx hZ hby (by rw [hml]; rfl) hown at_67 (pc' := 70) rfl e47 (W := 1) (Nat.le_of_eq rfl) (rm1_3 l Z a0 hw [] b47 b40 k40 cs (p1 &&& (255 : Int32)) (p2 &&& (255 : Int32)) (((p1.toUInt32 >>> ((8 : Int32) &&& 31).toUInt32).toInt32) &&& (255 : Int32)) h47 n0 Zn f_O_b47 ge_b47 f_V_b40 (Ne.symm ne_b40_b47) f_S_java_lang_String_COMPACT_STRINGS hcs (own_le255 _) (own_le255 _) (own_le255 _)) (by decide) (by decide) (by decide) (by decide) (fun v49 T49 L49 X49 hQ49 => ?_)
    obtain ⟨rfl, Nq49, K49, d48, kd48, gd49, O49, V49⟩ := hQ49
    have N49 := Fr.app N46 Nq49
    have f_S_java_lang_String_COMPACT_STRINGS := own_sta1 f_S_java_lang_String_COMPACT_STRINGS K49 f_O_b47.1
    have f_V_b40 := f_V_b40.keep K49 (ninS ne_b40_b47 nin0)
    have Zn := Nat.le_trans Zn K49.1
    have hSn := Nat.le_trans hSn K49.1
    have ne_b40_d48 : b40 ≠ d48 := Nat.ne_of_lt (Nat.lt_of_lt_of_le lt_b40 gd49)
    have ne_b47_d48 : b47 ≠ d48 := Nat.ne_of_lt (Nat.lt_of_lt_of_le lt_b47 gd49)
    show own_End p e below _ (T49.setTop (mkF m 70 _ [(.ref b47)]))
    refine own_astore X49 hx hby at_70 (pc' := 72) rfl rfl (l' := #[.val (.int p0), .val (.int p1), .val (.int p2), .val (.long p3), .second, .val (.int p4), .val (.int (3 : Int32)), .val (.ref b40), .val (.ref b47), .unset, .unset, .unset]) rfl ?_
    refine own_iload X49 hx hby at_72 (pc' := 74) rfl rfl ?_
    refine own_iconst X49 hx hby at_74 (pc' := 75) rfl (n := (1 : Int32)) (by decide) ?_
    refine own_iand X49 hx hby at_75 (pc' := 76) rfl ?_
    refine own_if2 X49 hx hby at_76 (pc1 := 83) (by decide) (by decide) (pc2 := 79) rfl (fun (hc76 : (p4 &&& (1 : Int32)) = (0 : Int32)) => ?_) (fun (hc76 : ¬ (p4 &&& (1 : Int32)) = (0 : Int32)) => ?_)
    · refine own_iconst X49 hx hby at_83 (pc' := 84) rfl (n := (0 : Int32)) (by decide) ?_
      refine own_istore X49 hx hby at_84 (pc' := 86) rfl (l' := #[.val (.int p0), .val (.int p1), .val (.int p2), .val (.long p3), .second, .val (.int p4), .val (.int (3 : Int32)), .val (.ref b40), .val (.ref b47), .val (.int (0 : Int32)), .unset, .unset]) rfl ?_
      refine own_new X49 hx hZ hby hown (wd_22 hw) (wd_23 hw) (wd_24 hw) rfl at_86 (pc' := 89) rfl (by decide) (by decide) (fun T50 h50 b50 g50 X50 e50 E50 A50 D50 => ?_)
      have ne_b40_b50 : b40 ≠ b50 := Nat.ne_of_lt (by rw [g50]; exact f_V_b40.lt)
      have ne_b47_b50 : b47 ≠ b50 := Nat.ne_of_lt (by rw [g50]; exact O49.lt)
      have ne_d48_b50 : d48 ≠ b50 := Nat.ne_of_lt (by rw [g50]; exact V49.lt)
      have ge_b50 : n0 ≤ b50 := by rw [g50]; exact Zn
      have f_S_java_lang_String_COMPACT_STRINGS := f_S_java_lang_String_COMPACT_STRINGS.ext E50
      have f_V_b40 := f_V_b40.ext E50
      have O49 := O49.ext E50
      have V49 := V49.ext E50
      have Zn := Nat.le_trans Zn E50.1
      have hSn := Nat.le_trans hSn E50.1
      have f_O_b50 : own_CO Z h50 b50 .null (0 : Int64) (0 : Int32) := ⟨A50, D50 (Or.inr (wd_35 hw)) (ty := (.object "java/lang/String")) (by decide), D50 (Or.inr (wd_37 hw)) (ty := .long) (by decide), D50 (Or.inr (wd_39 hw)) (ty := .boolean) (by decide)⟩
      refine own_dup X50 hx hby at_89 (pc' := 90) rfl rfl ?_
      refine own_aload X50 hx hby at_90 (pc' := 92) rfl rfl rfl ?_
      refine own_lloadN X50 hx hby at_92 (pc' := 93) rfl rfl ?_
      refine own_iload X50 hx hby at_93 (pc' := 95) rfl rfl ?_
      refine own_lk8 hw X50 hx hZ hby (by rw [hml]; rfl) hown at_95 (pc' := 98) rfl e50 (W := 1) (Nat.le_of_eq rfl) (rm4_0 l Z a0 hw [] b50 b47 p3 h50 n0 Zn f_O_b50 ge_b50) (by decide) (by decide) (by decide) (by decide) (fun v51 T51 L51 X51 hQ51 => ?_)
      obtain ⟨rfl, Nq51, K51, O51⟩ := hQ51
      have N51 := Fr.app N49 Nq51
      have f_S_java_lang_String_COMPACT_STRINGS := own_sta1 f_S_java_lang_String_COMPACT_STRINGS K51 f_O_b50.1
      have f_V_b40 := f_V_b40.keep K51 (ninS ne_b40_b50 nin0)
      have O49 := O49.keep K51 (ninS ne_b47_b50 nin0)
      have V49 := V49.keep K51 (ninS ne_d48_b50 nin0)
      have Zn := Nat.le_trans Zn K51.1
      have hSn := Nat.le_trans hSn K51.1
      show own_End p e below _ (T51.setTop (mkF m 98 _ [(.ref b50)]))
      refine own_astore X51 hx hby at_98 (pc' := 100) rfl rfl (l' := #[.val (.int p0), .val (.int p1), .val (.int p2), .val (.long p3), .second, .val (.int p4), .val (.int (3 : Int32)), .val (.ref b40), .val (.ref b47), .val (.int (0 : Int32)), .val (.ref b50), .unset]) rfl ?_
      refine own_iload X51 hx hby at_100 (pc' := 102) rfl rfl ?_
      refine own_ifY X51 hx hby at_102 (pc' := 121) (by decide) (by decide) (show ¬ (3 : Int32) = (0 : Int32) by decide) ?_
      refine own_iconst X51 hx hby at_121 (pc' := 122) rfl (n := (1 : Int32)) (by decide) ?_
      refine own_istore X51 hx hby at_122 (pc' := 124) rfl (l' := #[.val (.int p0), .val (.int p1), .val (.int p2), .val (.long p3), .second, .val (.int p4), .val (.int (3 : Int32)), .val (.ref b40), .val (.ref b47), .val (.int (0 : Int32)), .val (.ref b50), .val (.int (1 : Int32))]) rfl ?_
      refine own_aload X51 hx hby at_124 (pc' := 126) rfl rfl rfl ?_
      refine own_lk9 hw X51 hx hZ hby (by rw [hml]; rfl) hown at_126 (pc' := 129) rfl rfl O51.1 (W := 0) (Nat.le_of_eq rfl) (rm6_3 l Z a0 hw [] b50 p3 (0 : Int32) b47 d48 kd48 ((p1 &&& (255 : Int32)).toInt8.toInt32) ((p2 &&& (255 : Int32)).toInt8.toInt32) ((((p1.toUInt32 >>> ((8 : Int32) &&& 31).toUInt32).toInt32) &&& (255 : Int32)).toInt8.toInt32) T51.heap n0 Zn O51 O49 V49) (by decide) (by decide) (by decide) (by decide) (fun v52 T52 L52 X52 hQ52 => ?_)
      obtain ⟨rfl, Nq52, e52⟩ := hQ52
      have N52 := Fr.app N51 Nq52
      show own_End p e below _ (T52.setTop (mkF m 129 _ [(.int (1 : Int32))]))
      refine own_iload X52 hx hby at_129 (pc' := 131) rfl rfl ?_
      refine own_icN X52 hx hby at_131 (pc' := 134) rfl (show (1 : Int32) = (1 : Int32) by decide) ?_
      refine own_iconst X52 hx hby at_134 (pc' := 135) rfl (n := (1 : Int32)) (by decide) ?_
      refine own_goto X52 hx hby at_135 (pc' := 139) (by decide) (by decide) ?_
      refine own_zreturn X52 hx hlk hby hret (Or.inr rfl) at_139 (own_lvS hS (by rw [e52]; exact hSn) ?_ (by decide) (by decide))
      show Q0 Z p0 p1 p2 p3 p4 cs  h0 n0 (some (.int (1 : Int32))) T52.heap _
      rw [e52]
      exact ⟨rfl, N52⟩
    · refine own_iconst X49 hx hby at_79 (pc' := 80) rfl (n := (1 : Int32)) (by decide) ?_
      refine own_goto X49 hx hby at_80 (pc' := 84) (by decide) (by decide) ?_
      refine own_istore X49 hx hby at_84 (pc' := 86) rfl (l' := #[.val (.int p0), .val (.int p1), .val (.int p2), .val (.long p3), .second, .val (.int p4), .val (.int (3 : Int32)), .val (.ref b40), .val (.ref b47), .val (.int (1 : Int32)), .unset, .unset]) rfl ?_
      refine own_new X49 hx hZ hby hown (wd_22 hw) (wd_23 hw) (wd_24 hw) rfl at_86 (pc' := 89) rfl (by decide) (by decide) (fun T53 h53 b53 g53 X53 e53 E53 A53 D53 => ?_)
      have ne_b40_b53 : b40 ≠ b53 := Nat.ne_of_lt (by rw [g53]; exact f_V_b40.lt)
      have ne_b47_b53 : b47 ≠ b53 := Nat.ne_of_lt (by rw [g53]; exact O49.lt)
      have ne_d48_b53 : d48 ≠ b53 := Nat.ne_of_lt (by rw [g53]; exact V49.lt)
      have ge_b53 : n0 ≤ b53 := by rw [g53]; exact Zn
      have f_S_java_lang_String_COMPACT_STRINGS := f_S_java_lang_String_COMPACT_STRINGS.ext E53
      have f_V_b40 := f_V_b40.ext E53
      have O49 := O49.ext E53
      have V49 := V49.ext E53
      have Zn := Nat.le_trans Zn E53.1
      have hSn := Nat.le_trans hSn E53.1
      have f_O_b53 : own_CO Z h53 b53 .null (0 : Int64) (0 : Int32) := ⟨A53, D53 (Or.inr (wd_35 hw)) (ty := (.object "java/lang/String")) (by decide), D53 (Or.inr (wd_37 hw)) (ty := .long) (by decide), D53 (Or.inr (wd_39 hw)) (ty := .boolean) (by decide)⟩
      refine own_dup X53 hx hby at_89 (pc' := 90) rfl rfl ?_
      refine own_aload X53 hx hby at_90 (pc' := 92) rfl rfl rfl ?_
      refine own_lloadN X53 hx hby at_92 (pc' := 93) rfl rfl ?_
      refine own_iload X53 hx hby at_93 (pc' := 95) rfl rfl ?_
      refine own_lk8 hw X53 hx hZ hby (by rw [hml]; rfl) hown at_95 (pc' := 98) rfl e53 (W := 1) (Nat.le_of_eq rfl) (rm4_1 l Z a0 hw [] b53 b47 p3 h53 n0 Zn f_O_b53 ge_b53) (by decide) (by decide) (by decide) (by decide) (fun v54 T54 L54 X54 hQ54 => ?_)
      obtain ⟨rfl, Nq54, K54, O54⟩ := hQ54
      have N54 := Fr.app N49 Nq54
      have f_S_java_lang_String_COMPACT_STRINGS := own_sta1 f_S_java_lang_String_COMPACT_STRINGS K54 f_O_b53.1
      have f_V_b40 := f_V_b40.keep K54 (ninS ne_b40_b53 nin0)
      have O49 := O49.keep K54 (ninS ne_b47_b53 nin0)
      have V49 := V49.keep K54 (ninS ne_d48_b53 nin0)
      have Zn := Nat.le_trans Zn K54.1
      have hSn := Nat.le_trans hSn K54.1
      show own_End p e below _ (T54.setTop (mkF m 98 _ [(.ref b53)]))
      refine own_astore X54 hx hby at_98 (pc' := 100) rfl rfl (l' := #[.val (.int p0), .val (.int p1), .val (.int p2), .val (.long p3), .second, .val (.int p4), .val (.int (3 : Int32)), .val (.ref b40), .val (.ref b47), .val (.int (1 : Int32)), .val (.ref b53), .unset]) rfl ?_
      refine own_iload X54 hx hby at_100 (pc' := 102) rfl rfl ?_
      refine own_ifY X54 hx hby at_102 (pc' := 121) (by decide) (by decide) (show ¬ (3 : Int32) = (0 : Int32) by decide) ?_
      refine own_iconst X54 hx hby at_121 (pc' := 122) rfl (n := (1 : Int32)) (by decide) ?_
      refine own_istore X54 hx hby at_122 (pc' := 124) rfl (l' := #[.val (.int p0), .val (.int p1), .val (.int p2), .val (.long p3), .second, .val (.int p4), .val (.int (3 : Int32)), .val (.ref b40), .val (.ref b47), .val (.int (1 : Int32)), .val (.ref b53), .val (.int (1 : Int32))]) rfl ?_
      refine own_aload X54 hx hby at_124 (pc' := 126) rfl rfl rfl ?_
      refine own_lk9 hw X54 hx hZ hby (by rw [hml]; rfl) hown at_126 (pc' := 129) rfl rfl O54.1 (W := 0) (Nat.le_of_eq rfl) (rm6_3 l Z a0 hw [] b53 p3 (1 : Int32) b47 d48 kd48 ((p1 &&& (255 : Int32)).toInt8.toInt32) ((p2 &&& (255 : Int32)).toInt8.toInt32) ((((p1.toUInt32 >>> ((8 : Int32) &&& 31).toUInt32).toInt32) &&& (255 : Int32)).toInt8.toInt32) T54.heap n0 Zn O54 O49 V49) (by decide) (by decide) (by decide) (by decide) (fun v55 T55 L55 X55 hQ55 => ?_)
      obtain ⟨rfl, Nq55, e55⟩ := hQ55
      have N55 := Fr.app N54 Nq55
      show own_End p e below _ (T55.setTop (mkF m 129 _ [(.int (1 : Int32))]))
      refine own_iload X55 hx hby at_129 (pc' := 131) rfl rfl ?_
      refine own_icN X55 hx hby at_131 (pc' := 134) rfl (show (1 : Int32) = (1 : Int32) by decide) ?_
      refine own_iconst X55 hx hby at_134 (pc' := 135) rfl (n := (1 : Int32)) (by decide) ?_
      refine own_goto X55 hx hby at_135 (pc' := 139) (by decide) (by decide) ?_
      refine own_zreturn X55 hx hlk hby hret (Or.inr rfl) at_139 (own_lvS hS (by rw [e55]; exact hSn) ?_ (by decide) (by decide))
      show Q0 Z p0 p1 p2 p3 p4 cs  h0 n0 (some (.int (1 : Int32))) T55.heap _
      rw [e55]
      exact ⟨rfl, N55⟩
set_option maxRecDepth 65536 in
set_option maxHeartbeats 40000000 in
theorem comes_1 {Post : Tables → Env → Array Value → State → Outcome → State → Prop} (hpost : ∀ tb e args s v u, (limb_1_1.after args s (.returned v) u = true ∧ limb_1_2.after args s (.returned v) u = true ∧ True) → ReturnedEndW s (.returned v) u (Jvm.fieldLocs frame_1_writes args s ++ Jvm.arrayLocs frame_1_arrays args s ++ Jvm.staticLocs frame_1_statics s) 24 1152 → Post tb e args s (.returned v) u) :
    ArmFor flags0 classFile x code maxLocals ret World_1 tables_1 room_1 Calls_1 rest_1 Pre_1 Post := by
  intro l hfl _ _ p e ha hc hk s m args below hf hA hF happ hP
  obtain ⟨hcalls, hrest, hpre⟩ := hP
  obtain ⟨-, -, -, hnamed, -, -, -, hat⟩ := (Spec.applies_iff hf).mp happ
  obtain ⟨hg, hn⟩ := and_e (Cond.before_iff.mp (show (Jvm.Cond.and given_1 narrow_1).before args s = true from hpre))
  obtain ⟨g1, g2⟩ := and_e hg
  obtain ⟨g3, g4⟩ := and_e g2
  obtain ⟨g5, g6⟩ := and_e g4
  obtain ⟨g7, g8⟩ := and_e g6
  obtain ⟨g9, g10⟩ := and_e g8
  obtain ⟨w0, w1, w2, w3, w4, rfl⟩ : ∃ w0 w1 w2 w3 w4 : Value, args = #[w0, w1, w2, w3, w4] := by
    have hs : args.size = 5 := by simpa [Cond.value, given_1] using g1
    obtain ⟨L⟩ := args
    match L, hs with
    | [w0, w1, w2, w3, w4], _ => exact ⟨w0, w1, w2, w3, w4, rfl⟩
  have hw := fun d (hd : d ∈ tables_1) => atoms_spec (ws := Jvm.Cond.code x code maxLocals ret :: tables_1) hat d (List.mem_cons_of_mem _ hd)
  have hfit : Fit s := fun {y c} hc i hi => by
    obtain ⟨ha, rfl⟩ := Array.getElem?_eq_some_iff.mp hc
    have q := List.all_eq_true.mp ((Array.all_eq_true_iff_forall_mem.mp hF) _ (Array.getElem_mem ha)) i (List.mem_range.mpr hi)
    simpa [Array.getElem?_eq_getElem hi] using q
  obtain ⟨hsets, hown0⟩ := atoms_of _ (rest_1_c_eq ▸ (show rest_1_c.before _ s = true from hrest))
  have hr0 := Cond.before_iff.mp hown0
  obtain ⟨i0, ei0⟩ := is_v g3
  obtain rfl : w0 = (.int i0) := Option.some.inj ei0
  obtain ⟨i1, ei1⟩ := is_v g5
  obtain rfl : w1 = (.int i1) := Option.some.inj ei1
  obtain ⟨i2, ei2⟩ := is_v g7
  obtain rfl : w2 = (.int i2) := Option.some.inj ei2
  obtain ⟨i3, ei3⟩ := isL_v g9
  obtain rfl : w3 = (.long i3) := Option.some.inj ei3
  obtain ⟨i4, ei4⟩ := is_v g10
  obtain rfl : w4 = (.int i4) := Option.some.inj ei4
  have s0 := hsets _ (List.mem_of_getElem? (i := 0) rfl)
  have s1 := hsets _ (List.mem_of_getElem? (i := 1) rfl)
  have s2 := hsets _ (List.mem_of_getElem? (i := 2) rfl)
  obtain ⟨cs, ecs⟩ := is_v (Cond.before_iff.mp s1)
  have hS := Sta.start ecs (Or.inl s0)
  have hcs : ¬ cs = (0 : Int32) := fun q => by
    have q2 := not_v (Cond.before_iff.mp s2)
    subst q
    exact Bool.noConfusion (Option.some.inj ((eq_i ecs (Term.int_eval 0) rfl).symm.trans q2))
  have hCH : CHv s own_EL s.vm s.heap := CHv.start (own_EW hw) (fun p hp => hcalls.1 p hp) s2 (wd_15 hw) (wd_2 hw)
  obtain ⟨n, o, h1, h2, h3, _, L, rfl, ⟨rfl, N⟩, hq⟩ := rm0 l s _ hw tables_1 i0 i1 i2 i3 i4 cs s.heap s.heap.size (Nat.le_refl _) hS hcs p e ha hc hk s m _ below hf ((Spec.applies_iff_loose hf).mp happ).1 ⟨rfl, State.Warmed39.refl s, rfl, hCH⟩ trivial
  refine ⟨n, _, h1, h2, h3, hpost _ _ _ _ _ _ ⟨Cond.after_iff.mpr rfl, Cond.after_iff.mpr (eq_i res_at (Term.int_eval (1)) rfl), trivial⟩ ⟨hq.1, hq.2.1, hq.2.2.1, (hq.2.2.2.sift fun y hy => Or.inr (N y hy)).mono (by decide) (by decide)⟩⟩
theorem main_1_1 : Claimed_1_1 := comes_1 fun _ _ _ _ _ _ h hF => ⟨h.1, hF⟩
theorem main_1_2 : Claimed_1_2 := comes_1 fun _ _ _ _ _ _ h hF => ⟨h.2.1, hF⟩
end Jvm.Pilot.@@N@@
namespace Jvm.Pilot.@@N@@
open Jvm Jvm.ClassFile Sem Op Lib Jvm.Free Jvm.Stand Jvm.Pilot.@@N@@.Jvm.D
/-! MADE BY PROGRAM (witnessworld.py) out of the Statement's table words and the real class files: 21 classes; the members and pool entries that the words name. The judged class is class 1, her method 1. -/
namespace start1
open Jvm.ClassFile
def u (s : String) : CpInfo := .utf8 (stringToUtf16 s)
/-- a pool by its gaps: so many unusable entries, then the entry; so many at the end -/
def gap : Nat → List CpInfo → List CpInfo
  | 0, r => r
  | n + 1, r => .unusable :: gap n r
def poolList (es : List (Nat × CpInfo)) (last : Nat) : List CpInfo := es.foldr (fun e r => gap e.1 (e.2 :: r)) (gap last [])
def pool (es : List (Nat × CpInfo)) (last : Nat) : Array CpInfo := ⟨poolList es last⟩
def fileOf (pool : Array CpInfo) (this : Nat) (attrs : Array Attribute := #[]) (ms : Array MethodInfo := #[]) (fl : Nat := 33) (sup : Nat := 0) (ifs : Array Nat := #[]) (fds : Array FieldInfo := #[]) : ClassFile where
  minorVersion := 0
  majorVersion := 65
  constantPool := pool
  accessFlags := fl
  thisClass := this
  superClass := sup
  interfaces := ifs
  fields := fds
  methods := ms
  attributes := attrs
def plain (name : String) (sup : Option ClassId) : Class where
  name := name
  kind := .ordinary
  loader := none
  accessFlags := 33
  super := sup
  interfaces := #[]
  cf := none
  fields := #[]
  methods := #[]
  instanceTypes := #[]
  staticTypes := #[]
  resolved := #[]
  callSites := []
  init := .initialized
  statics := none
  mirror := none

def pool0 : Array CpInfo := pool [(5, u "<init>"), (0, u "()V"), (1, .class_ 10), (1, u "java/lang/Object")] 113

def k0c0 : Code := { maxStack := 0, maxLocals := 1, code := object_method_1_code, exceptionTable := #[], attributes := #[] }
def k0m0 : Method := { name := "<init>", desc := "()V", sig := { parameters := [], returnType := none }, accessFlags := 1, code := some k0c0 }
/-- java/lang/Object -/
def k0 : Class := { plain "java/lang/Object" none with
  accessFlags := 33
  interfaces := #[]
  cf := some (fileOf pool0 8 #[] #[{ accessFlags := 1, nameIndex := 5, descriptorIndex := 6, attributes := #[] }] 33 0 #[] #[])
  fields := #[]
  methods := #[k0m0]
  instanceTypes := #[]
  staticTypes := #[]
  resolved := Array.replicate 124 none
  statics := none }

def pool1 : Array CpInfo := pool [(2, .class_ 4), (1, u "java/lang/Object"), (0, u "<init>"), (0, u "()V"), (0, .class_ 8), (0, u "java/lang/String"), (0, .methodref 7 10), (0, .nameAndType 5 11), (0, u "([C)V"), (0, .class_ 13), (0, u "com/example/hermod/hermod/resource/Condition"), (0, .methodref 12 15), (0, .nameAndType 5 16), (0, u "(Ljava/lang/String;JZ)V"), (0, .methodref 12 18), (0, .nameAndType 19 20), (0, u "isGiven"), (0, u "()Z"), (0, .class_ 22), (0, u "com/example/hermod/hermod/resource/ConditionIsGivenPinLaw"), (2, u "law"), (0, u "(IIIJI)Z")] 5

def k1m0 : Method := { name := "<init>", desc := "()V", sig := { parameters := [], returnType := none }, accessFlags := 1, code := none }
def k1c1 : Code := { maxStack := 6, maxLocals := 12, code := code, exceptionTable := #[], attributes := #[] }
def k1m1 : Method := { name := "law", desc := "(IIIJI)Z", sig := { parameters := [.int, .int, .int, .long, .int], returnType := some .boolean }, accessFlags := 9, code := some k1c1 }
/-- com/example/hermod/hermod/resource/ConditionIsGivenPinLaw -/
def k1 : Class := { plain "com/example/hermod/hermod/resource/ConditionIsGivenPinLaw" (some 0) with
  accessFlags := 49
  interfaces := #[]
  cf := some (fileOf pool1 21 #[] #[{ accessFlags := 1, nameIndex := 5, descriptorIndex := 6, attributes := #[] }, { accessFlags := 9, nameIndex := 25, descriptorIndex := 26, attributes := #[] }] 49 2 #[] #[])
  fields := #[]
  methods := #[k1m0, k1m1]
  instanceTypes := #[]
  staticTypes := #[]
  resolved := Array.replicate 32 none
  statics := none }

def pool2 : Array CpInfo := pool [(1, .class_ 2), (0, u "java/io/Serializable"), (0, .class_ 4), (0, u "java/lang/Object")] 2

/-- java/io/Serializable -/
def k2 : Class := { plain "java/io/Serializable" (some 0) with
  accessFlags := 1537
  interfaces := #[]
  cf := some (fileOf pool2 1 #[] #[] 1537 3 #[] #[])
  fields := #[]
  methods := #[]
  instanceTypes := #[]
  staticTypes := #[]
  resolved := Array.replicate 7 none
  statics := none }

def pool3 : Array CpInfo := pool [(1, .class_ 2), (0, u "java/lang/Comparable"), (0, .class_ 4), (0, u "java/lang/Object")] 7

/-- java/lang/Comparable -/
def k3 : Class := { plain "java/lang/Comparable" (some 0) with
  accessFlags := 1537
  interfaces := #[]
  cf := some (fileOf pool3 1 #[] #[] 1537 3 #[] #[])
  fields := #[]
  methods := #[]
  instanceTypes := #[]
  staticTypes := #[]
  resolved := Array.replicate 12 none
  statics := none }

def pool4 : Array CpInfo := pool [(2, .class_ 4), (1, u "java/lang/CharSequence"), (42, .class_ 48), (0, u "java/lang/CharSequence$1CodePointIterator"), (10, .class_ 60), (0, u "java/lang/CharSequence$1CharIterator"), (5, .class_ 67), (0, u "java/lang/Object")] 63

/-- java/lang/CharSequence -/
def k4 : Class := { plain "java/lang/CharSequence" (some 0) with
  accessFlags := 1537
  interfaces := #[]
  cf := some (fileOf pool4 2 #[.nestMembers #[47, 59]] #[] 1537 66 #[] #[])
  fields := #[]
  methods := #[]
  instanceTypes := #[]
  staticTypes := #[]
  resolved := Array.replicate 131 none
  statics := none }

def pool5 : Array CpInfo := pool [(1, .class_ 2), (0, u "java/lang/constant/Constable"), (0, .class_ 4), (0, u "java/lang/Object")] 6

/-- java/lang/constant/Constable -/
def k5 : Class := { plain "java/lang/constant/Constable" (some 0) with
  accessFlags := 1537
  interfaces := #[]
  cf := some (fileOf pool5 1 #[] #[] 1537 3 #[] #[])
  fields := #[]
  methods := #[]
  instanceTypes := #[]
  staticTypes := #[]
  resolved := Array.replicate 11 none
  statics := none }

def pool6 : Array CpInfo := pool [(1, .class_ 2), (0, u "java/lang/constant/ConstantDesc"), (0, .class_ 4), (0, u "java/lang/Object")] 32

/-- java/lang/constant/ConstantDesc -/
def k6 : Class := { plain "java/lang/constant/ConstantDesc" (some 0) with
  accessFlags := 1537
  interfaces := #[]
  cf := some (fileOf pool6 1 #[] #[] 1537 3 #[] #[])
  fields := #[]
  methods := #[]
  instanceTypes := #[]
  staticTypes := #[]
  resolved := Array.replicate 37 none
  statics := none }

def pool7 : Array CpInfo := pool [(1, .methodref 2 3), (0, .class_ 4), (0, .nameAndType 5 6), (0, u "java/lang/Object"), (0, u "<init>"), (0, u "()V"), (0, .string 8), (0, u ""), (0, .fieldref 10 11), (0, .class_ 12), (0, .nameAndType 13 14), (0, u "java/lang/String"), (0, u "value"), (0, u "[B"), (0, .fieldref 10 16), (0, .nameAndType 17 18), (0, u "coder"), (0, u "B"), (2, u "hash"), (0, u "I"), (2, u "hashIsZero"), (0, u "Z"), (0, .methodref 10 28), (0, .nameAndType 5 29), (0, u "([CIILjava/lang/Void;)V"), (8, .fieldref 10 39), (0, .nameAndType 40 26), (0, u "COMPACT_STRINGS"), (1, .class_ 44), (1, u "java/lang/StringUTF16"), (0, u "compress"), (1, .methodref 42 48), (0, .nameAndType 49 50), (0, u "coderFromArrayLen"), (0, u "([BI)B"), (91, u "()Z"), (34, .methodref 42 178), (0, .nameAndType 45 179), (0, u "([CII)[B"), (395, .class_ 576), (0, u "java/lang/CharSequence"), (22, u "CASE_INSENSITIVE_ORDER"), (0, u "Ljava/util/Comparator;"), (91, u "isEmpty"), (317, u "([C)V"), (90, u "serialPersistentFields"), (0, u "[Ljava/io/ObjectStreamField;"), (0, .class_ 1104), (0, u "java/lang/String$CaseInsensitiveComparator"), (1, .class_ 1107), (0, u "java/io/Serializable"), (0, .class_ 1109), (0, u "java/lang/Comparable"), (0, .class_ 1111), (0, u "java/lang/constant/Constable"), (0, .class_ 1113), (0, u "java/lang/constant/ConstantDesc"), (2, u "serialVersionUID"), (0, u "J"), (3, u "REPL"), (0, u "C"), (2, u "LATIN1"), (1, u "UTF16")] 323

def k7m0 : Method := { name := "<init>", desc := "()V", sig := { parameters := [], returnType := none }, accessFlags := 1, code := none }
def k7c1 : Code := { maxStack := 5, maxLocals := 2, code := jdk_42_method_3_code, exceptionTable := #[], attributes := #[] }
def k7m1 : Method := { name := "<init>", desc := "([C)V", sig := { parameters := [(.array .char)], returnType := none }, accessFlags := 1, code := some k7c1 }
def k7c2 : Code := { maxStack := 1, maxLocals := 1, code := jdk_42_method_55_code, exceptionTable := #[], attributes := #[] }
def k7m2 : Method := { name := "isEmpty", desc := "()Z", sig := { parameters := [], returnType := some .boolean }, accessFlags := 1, code := some k7c2 }
def k7c3 : Code := { maxStack := 4, maxLocals := 6, code := jdk_42_method_149_code, exceptionTable := #[], attributes := #[] }
def k7m3 : Method := { name := "<init>", desc := "([CIILjava/lang/Void;)V", sig := { parameters := [(.array .char), .int, .int, (.object "java/lang/Void")], returnType := none }, accessFlags := 2, code := some k7c3 }
/-- java/lang/String -/
def k7 : Class := { plain "java/lang/String" (some 0) with
  accessFlags := 49
  interfaces := #[2, 3, 4, 5, 6]
  cf := some (fileOf pool7 10 #[.nestMembers #[1103]] #[{ accessFlags := 1, nameIndex := 5, descriptorIndex := 6, attributes := #[] }, { accessFlags := 1, nameIndex := 5, descriptorIndex := 1010, attributes := #[] }, { accessFlags := 1, nameIndex := 692, descriptorIndex := 142, attributes := #[] }, { accessFlags := 2, nameIndex := 5, descriptorIndex := 29, attributes := #[] }] 49 2 #[1106, 1108, 575, 1110, 1112] #[{ accessFlags := 18, nameIndex := 13, descriptorIndex := 14, attributes := #[] }, { accessFlags := 18, nameIndex := 17, descriptorIndex := 18, attributes := #[] }, { accessFlags := 2, nameIndex := 21, descriptorIndex := 22, attributes := #[] }, { accessFlags := 2, nameIndex := 25, descriptorIndex := 26, attributes := #[] }, { accessFlags := 26, nameIndex := 1116, descriptorIndex := 1117, attributes := #[] }, { accessFlags := 24, nameIndex := 40, descriptorIndex := 26, attributes := #[] }, { accessFlags := 26, nameIndex := 1101, descriptorIndex := 1102, attributes := #[] }, { accessFlags := 26, nameIndex := 1121, descriptorIndex := 1122, attributes := #[] }, { accessFlags := 25, nameIndex := 599, descriptorIndex := 600, attributes := #[] }, { accessFlags := 24, nameIndex := 1125, descriptorIndex := 18, attributes := #[] }, { accessFlags := 24, nameIndex := 1127, descriptorIndex := 18, attributes := #[] }])
  fields := #[{ name := "value", type := (.array .byte), accessFlags := 18, slot := 0, constantValue := 0 }, { name := "coder", type := .byte, accessFlags := 18, slot := 1, constantValue := 0 }, { name := "hash", type := .int, accessFlags := 2, slot := 2, constantValue := 0 }, { name := "hashIsZero", type := .boolean, accessFlags := 2, slot := 3, constantValue := 0 }, { name := "serialVersionUID", type := .long, accessFlags := 26, slot := 0, constantValue := 0 }, { name := "COMPACT_STRINGS", type := .boolean, accessFlags := 24, slot := 1, constantValue := 0 }, { name := "serialPersistentFields", type := (.array (.object "java/io/ObjectStreamField")), accessFlags := 26, slot := 2, constantValue := 0 }, { name := "REPL", type := .char, accessFlags := 26, slot := 3, constantValue := 0 }, { name := "CASE_INSENSITIVE_ORDER", type := (.object "java/util/Comparator"), accessFlags := 25, slot := 4, constantValue := 0 }, { name := "LATIN1", type := .byte, accessFlags := 24, slot := 5, constantValue := 0 }, { name := "UTF16", type := .byte, accessFlags := 24, slot := 6, constantValue := 0 }]
  methods := #[k7m0, k7m1, k7m2, k7m3]
  instanceTypes := #[(.array .byte), .byte, .int, .boolean]
  staticTypes := #[.long, .boolean, (.array (.object "java/io/ObjectStreamField")), .char, (.object "java/util/Comparator"), .byte, .byte]
  resolved := Array.replicate 1451 none
  statics := some 0 }

def pool8 : Array CpInfo := pool [(1, .methodref 2 3), (0, .class_ 4), (0, .nameAndType 5 6), (0, u "java/lang/Object"), (0, u "<init>"), (0, u "()V"), (0, .class_ 8), (0, u "java/lang/Record")] 13

def k8c0 : Code := { maxStack := 1, maxLocals := 1, code := jdk_30_method_1_code, exceptionTable := #[], attributes := #[] }
def k8m0 : Method := { name := "<init>", desc := "()V", sig := { parameters := [], returnType := none }, accessFlags := 4, code := some k8c0 }
/-- java/lang/Record -/
def k8 : Class := { plain "java/lang/Record" (some 0) with
  accessFlags := 1057
  interfaces := #[]
  cf := some (fileOf pool8 7 #[] #[{ accessFlags := 4, nameIndex := 5, descriptorIndex := 6, attributes := #[] }] 1057 2 #[] #[])
  fields := #[]
  methods := #[k8m0]
  instanceTypes := #[]
  staticTypes := #[]
  resolved := Array.replicate 22 none
  statics := none }

def pool9 : Array CpInfo := pool [(1, .methodref 2 3), (0, .class_ 4), (0, .nameAndType 5 6), (0, u "java/lang/Record"), (0, u "<init>"), (0, u "()V"), (0, .fieldref 8 9), (0, .class_ 10), (0, .nameAndType 11 12), (0, u "com/example/hermod/hermod/resource/Condition"), (0, u "etags"), (0, u "Ljava/lang/String;"), (0, .fieldref 8 14), (0, .nameAndType 15 16), (0, u "date"), (0, u "J"), (0, .fieldref 8 18), (0, .nameAndType 19 20), (0, u "weak"), (0, u "Z"), (2, u "(Ljava/lang/String;JZ)V"), (0, .methodref 25 26), (0, .class_ 27), (0, .nameAndType 28 29), (0, u "java/lang/String"), (0, u "isEmpty"), (0, u "()Z"), (12, u "TAG"), (0, u "Ljava/util/regex/Pattern;"), (79, u "ANY"), (7, u "isGiven")] 54

def k9c0 : Code := { maxStack := 3, maxLocals := 5, code := prog_5_method_1_code, exceptionTable := #[], attributes := #[] }
def k9m0 : Method := { name := "<init>", desc := "(Ljava/lang/String;JZ)V", sig := { parameters := [(.object "java/lang/String"), .long, .boolean], returnType := none }, accessFlags := 0, code := some k9c0 }
def k9c1 : Code := { maxStack := 4, maxLocals := 1, code := prog_5_method_4_code, exceptionTable := #[], attributes := #[] }
def k9m1 : Method := { name := "isGiven", desc := "()Z", sig := { parameters := [], returnType := some .boolean }, accessFlags := 0, code := some k9c1 }
/-- com/example/hermod/hermod/resource/Condition -/
def k9 : Class := { plain "com/example/hermod/hermod/resource/Condition" (some 8) with
  accessFlags := 48
  interfaces := #[]
  cf := some (fileOf pool9 8 #[] #[{ accessFlags := 0, nameIndex := 5, descriptorIndex := 23, attributes := #[] }, { accessFlags := 0, nameIndex := 131, descriptorIndex := 29, attributes := #[] }] 48 2 #[] #[{ accessFlags := 18, nameIndex := 11, descriptorIndex := 12, attributes := #[] }, { accessFlags := 18, nameIndex := 15, descriptorIndex := 16, attributes := #[] }, { accessFlags := 18, nameIndex := 19, descriptorIndex := 20, attributes := #[] }, { accessFlags := 26, nameIndex := 123, descriptorIndex := 12, attributes := #[] }, { accessFlags := 26, nameIndex := 42, descriptorIndex := 43, attributes := #[] }])
  fields := #[{ name := "etags", type := (.object "java/lang/String"), accessFlags := 18, slot := 0, constantValue := 0 }, { name := "date", type := .long, accessFlags := 18, slot := 1, constantValue := 0 }, { name := "weak", type := .boolean, accessFlags := 18, slot := 2, constantValue := 0 }, { name := "ANY", type := (.object "java/lang/String"), accessFlags := 26, slot := 0, constantValue := 0 }, { name := "TAG", type := (.object "java/util/regex/Pattern"), accessFlags := 26, slot := 1, constantValue := 0 }]
  methods := #[k9m0, k9m1]
  instanceTypes := #[(.object "java/lang/String"), .long, .boolean]
  staticTypes := #[(.object "java/lang/String"), (.object "java/util/regex/Pattern")]
  resolved := Array.replicate 186 none
  statics := none }

def pool10 : Array CpInfo := pool [(6, .class_ 8), (1, u "java/lang/Object"), (0, u "<init>"), (0, u "()V"), (1, .class_ 14), (1, u "java/lang/StringUTF16"), (31, u "$assertionsDisabled"), (0, u "Z"), (13, u "HI_BYTE_SHIFT"), (0, u "I"), (2, u "LO_BYTE_SHIFT"), (49, .methodref 12 116), (0, .nameAndType 117 118), (0, u "compress"), (0, u "([CI[BII)I"), (3, u "([CII)[B"), (138, u "coderFromArrayLen"), (0, u "([BI)B"), (106, .class_ 371), (1, u "java/lang/StringUTF16$LinesSpliterator"), (58, u "MAX_LENGTH"), (196, .class_ 628), (0, u "java/lang/StringUTF16$CodePointsSpliterator"), (0, .class_ 630), (0, u "java/lang/StringUTF16$CharsSpliterator")] 4

def k10m0 : Method := { name := "<init>", desc := "()V", sig := { parameters := [], returnType := none }, accessFlags := 0, code := none }
def k10c1 : Code := { maxStack := 2, maxLocals := 2, code := jdk_52_method_15_code, exceptionTable := #[], attributes := #[] }
def k10m1 : Method := { name := "coderFromArrayLen", desc := "([BI)B", sig := { parameters := [(.array .byte), .int], returnType := some .byte }, accessFlags := 8, code := some k10c1 }
def k10c2 : Code := { maxStack := 5, maxLocals := 6, code := jdk_52_method_16_code, exceptionTable := #[], attributes := #[] }
def k10m2 : Method := { name := "compress", desc := "([CII)[B", sig := { parameters := [(.array .char), .int, .int], returnType := some (.array .byte) }, accessFlags := 9, code := some k10c2 }
def k10c3 : Code := { maxStack := 3, maxLocals := 7, code := jdk_52_method_21_code, exceptionTable := #[], attributes := #[] }
def k10m3 : Method := { name := "compress", desc := "([CI[BII)I", sig := { parameters := [(.array .char), .int, (.array .byte), .int, .int], returnType := some .int }, accessFlags := 9, code := some k10c3 }
/-- java/lang/StringUTF16 -/
def k10 : Class := { plain "java/lang/StringUTF16" (some 0) with
  accessFlags := 48
  interfaces := #[]
  cf := some (fileOf pool10 12 #[.nestMembers #[627, 629, 369]] #[{ accessFlags := 0, nameIndex := 9, descriptorIndex := 10, attributes := #[] }, { accessFlags := 8, nameIndex := 261, descriptorIndex := 262, attributes := #[] }, { accessFlags := 9, nameIndex := 117, descriptorIndex := 122, attributes := #[] }, { accessFlags := 9, nameIndex := 117, descriptorIndex := 118, attributes := #[] }] 48 6 #[] #[{ accessFlags := 26, nameIndex := 61, descriptorIndex := 62, attributes := #[] }, { accessFlags := 26, nameIndex := 65, descriptorIndex := 62, attributes := #[] }, { accessFlags := 24, nameIndex := 430, descriptorIndex := 62, attributes := #[] }, { accessFlags := 4120, nameIndex := 46, descriptorIndex := 47, attributes := #[] }])
  fields := #[{ name := "HI_BYTE_SHIFT", type := .int, accessFlags := 26, slot := 0, constantValue := 0 }, { name := "LO_BYTE_SHIFT", type := .int, accessFlags := 26, slot := 1, constantValue := 0 }, { name := "MAX_LENGTH", type := .int, accessFlags := 24, slot := 2, constantValue := 0 }, { name := "$assertionsDisabled", type := .boolean, accessFlags := 4120, slot := 3, constantValue := 0 }]
  methods := #[k10m0, k10m1, k10m2, k10m3]
  instanceTypes := #[]
  staticTypes := #[.int, .int, .int, .boolean]
  resolved := Array.replicate 635 none
  statics := none }

def pool11 : Array CpInfo := pool [(4, .class_ 6), (1, u "java/lang/Object"), (0, u "<init>"), (0, u "()V"), (5, .class_ 16), (1, u "java/lang/StringLatin1"), (104, u "$assertionsDisabled"), (0, u "Z"), (98, .class_ 223), (1, u "java/lang/StringLatin1$LinesSpliterator"), (166, .class_ 391), (0, u "java/lang/StringLatin1$CharsSpliterator")] 3

def k11m0 : Method := { name := "<init>", desc := "()V", sig := { parameters := [], returnType := none }, accessFlags := 0, code := none }
/-- java/lang/StringLatin1 -/
def k11 : Class := { plain "java/lang/StringLatin1" (some 0) with
  accessFlags := 48
  interfaces := #[]
  cf := some (fileOf pool11 14 #[.nestMembers #[390, 221]] #[{ accessFlags := 0, nameIndex := 7, descriptorIndex := 8, attributes := #[] }] 48 4 #[] #[{ accessFlags := 4120, nameIndex := 121, descriptorIndex := 122, attributes := #[] }])
  fields := #[{ name := "$assertionsDisabled", type := .boolean, accessFlags := 4120, slot := 0, constantValue := 0 }]
  methods := #[k11m0]
  instanceTypes := #[]
  staticTypes := #[.boolean]
  resolved := Array.replicate 395 none
  statics := none }

def pool12 : Array CpInfo := pool [(2, .class_ 4), (1, u "java/lang/Object"), (0, u "<init>"), (0, u "()V"), (17, .class_ 26), (1, u "jdk/internal/util/Preconditions"), (28, .class_ 56), (0, u "jdk/internal/util/Preconditions$4"), (57, .class_ 115), (0, u "jdk/internal/util/Preconditions$1"), (7, u "SIOOBE_FORMATTER"), (0, u "Ljava/util/function/BiFunction;"), (0, .class_ 126), (0, u "jdk/internal/util/Preconditions$2"), (3, u "AIOOBE_FORMATTER"), (0, .class_ 132), (0, u "jdk/internal/util/Preconditions$3"), (3, u "IOOBE_FORMATTER")] 57

def k12m0 : Method := { name := "<init>", desc := "()V", sig := { parameters := [], returnType := none }, accessFlags := 1, code := none }
/-- jdk/internal/util/Preconditions -/
def k12 : Class := { plain "jdk/internal/util/Preconditions" (some 0) with
  accessFlags := 33
  interfaces := #[]
  cf := some (fileOf pool12 24 #[.nestMembers #[55, 131, 125, 114]] #[{ accessFlags := 1, nameIndex := 5, descriptorIndex := 6, attributes := #[] }] 33 2 #[] #[{ accessFlags := 25, nameIndex := 123, descriptorIndex := 124, attributes := #[] }, { accessFlags := 25, nameIndex := 130, descriptorIndex := 124, attributes := #[] }, { accessFlags := 25, nameIndex := 136, descriptorIndex := 124, attributes := #[] }])
  fields := #[{ name := "SIOOBE_FORMATTER", type := (.object "java/util/function/BiFunction"), accessFlags := 25, slot := 0, constantValue := 0 }, { name := "AIOOBE_FORMATTER", type := (.object "java/util/function/BiFunction"), accessFlags := 25, slot := 1, constantValue := 0 }, { name := "IOOBE_FORMATTER", type := (.object "java/util/function/BiFunction"), accessFlags := 25, slot := 2, constantValue := 0 }]
  methods := #[k12m0]
  instanceTypes := #[]
  staticTypes := #[(.object "java/util/function/BiFunction"), (.object "java/util/function/BiFunction"), (.object "java/util/function/BiFunction")]
  resolved := Array.replicate 194 none
  statics := some 1 }

def pool13 : Array CpInfo := pool [(9, u "<init>"), (6, .class_ 18), (1, u "java/lang/Object"), (0, u "()V"), (1, .class_ 23), (1, u "jdk/internal/util/ArraysSupport"), (0, u "LOG2_ARRAY_LONG_INDEX_SCALE"), (0, u "I"), (2, u "U"), (0, u "Ljdk/internal/misc/Unsafe;"), (8, u "BIG_ENDIAN"), (0, u "Z"), (8, u "LOG2_BYTE_BIT_SIZE"), (4, u "LOG2_ARRAY_INT_INDEX_SCALE"), (54, u "JLA"), (0, u "Ljdk/internal/access/JavaLangAccess;"), (11, u "LOG2_ARRAY_BOOLEAN_INDEX_SCALE"), (9, u "LOG2_ARRAY_BYTE_INDEX_SCALE"), (5, u "LOG2_ARRAY_CHAR_INDEX_SCALE"), (5, u "LOG2_ARRAY_SHORT_INDEX_SCALE"), (18, u "LOG2_ARRAY_FLOAT_INDEX_SCALE"), (24, u "LOG2_ARRAY_DOUBLE_INDEX_SCALE"), (89, u "T_BOOLEAN"), (2, u "T_CHAR"), (1, u "T_FLOAT"), (1, u "T_DOUBLE"), (1, u "T_BYTE"), (1, u "T_SHORT"), (1, u "T_INT"), (1, u "T_LONG"), (1, u "SOFT_MAX_ARRAY_LENGTH")] 83

def k13m0 : Method := { name := "<init>", desc := "()V", sig := { parameters := [], returnType := none }, accessFlags := 2, code := none }
/-- jdk/internal/util/ArraysSupport -/
def k13 : Class := { plain "jdk/internal/util/ArraysSupport" (some 0) with
  accessFlags := 33
  interfaces := #[]
  cf := some (fileOf pool13 21 #[] #[{ accessFlags := 2, nameIndex := 9, descriptorIndex := 19, attributes := #[] }] 33 16 #[] #[{ accessFlags := 24, nameIndex := 28, descriptorIndex := 29, attributes := #[] }, { accessFlags := 26, nameIndex := 38, descriptorIndex := 39, attributes := #[] }, { accessFlags := 25, nameIndex := 121, descriptorIndex := 25, attributes := #[] }, { accessFlags := 25, nameIndex := 131, descriptorIndex := 25, attributes := #[] }, { accessFlags := 25, nameIndex := 137, descriptorIndex := 25, attributes := #[] }, { accessFlags := 25, nameIndex := 143, descriptorIndex := 25, attributes := #[] }, { accessFlags := 25, nameIndex := 53, descriptorIndex := 25, attributes := #[] }, { accessFlags := 25, nameIndex := 24, descriptorIndex := 25, attributes := #[] }, { accessFlags := 25, nameIndex := 162, descriptorIndex := 25, attributes := #[] }, { accessFlags := 25, nameIndex := 187, descriptorIndex := 25, attributes := #[] }, { accessFlags := 26, nameIndex := 48, descriptorIndex := 25, attributes := #[] }, { accessFlags := 25, nameIndex := 277, descriptorIndex := 25, attributes := #[] }, { accessFlags := 25, nameIndex := 280, descriptorIndex := 25, attributes := #[] }, { accessFlags := 25, nameIndex := 282, descriptorIndex := 25, attributes := #[] }, { accessFlags := 25, nameIndex := 284, descriptorIndex := 25, attributes := #[] }, { accessFlags := 25, nameIndex := 286, descriptorIndex := 25, attributes := #[] }, { accessFlags := 25, nameIndex := 288, descriptorIndex := 25, attributes := #[] }, { accessFlags := 25, nameIndex := 290, descriptorIndex := 25, attributes := #[] }, { accessFlags := 25, nameIndex := 292, descriptorIndex := 25, attributes := #[] }, { accessFlags := 26, nameIndex := 108, descriptorIndex := 109, attributes := #[] }, { accessFlags := 25, nameIndex := 294, descriptorIndex := 25, attributes := #[] }])
  fields := #[{ name := "U", type := (.object "jdk/internal/misc/Unsafe"), accessFlags := 24, slot := 0, constantValue := 0 }, { name := "BIG_ENDIAN", type := .boolean, accessFlags := 26, slot := 1, constantValue := 0 }, { name := "LOG2_ARRAY_BOOLEAN_INDEX_SCALE", type := .int, accessFlags := 25, slot := 2, constantValue := 0 }, { name := "LOG2_ARRAY_BYTE_INDEX_SCALE", type := .int, accessFlags := 25, slot := 3, constantValue := 0 }, { name := "LOG2_ARRAY_CHAR_INDEX_SCALE", type := .int, accessFlags := 25, slot := 4, constantValue := 0 }, { name := "LOG2_ARRAY_SHORT_INDEX_SCALE", type := .int, accessFlags := 25, slot := 5, constantValue := 0 }, { name := "LOG2_ARRAY_INT_INDEX_SCALE", type := .int, accessFlags := 25, slot := 6, constantValue := 0 }, { name := "LOG2_ARRAY_LONG_INDEX_SCALE", type := .int, accessFlags := 25, slot := 7, constantValue := 0 }, { name := "LOG2_ARRAY_FLOAT_INDEX_SCALE", type := .int, accessFlags := 25, slot := 8, constantValue := 0 }, { name := "LOG2_ARRAY_DOUBLE_INDEX_SCALE", type := .int, accessFlags := 25, slot := 9, constantValue := 0 }, { name := "LOG2_BYTE_BIT_SIZE", type := .int, accessFlags := 26, slot := 10, constantValue := 0 }, { name := "T_BOOLEAN", type := .int, accessFlags := 25, slot := 11, constantValue := 0 }, { name := "T_CHAR", type := .int, accessFlags := 25, slot := 12, constantValue := 0 }, { name := "T_FLOAT", type := .int, accessFlags := 25, slot := 13, constantValue := 0 }, { name := "T_DOUBLE", type := .int, accessFlags := 25, slot := 14, constantValue := 0 }, { name := "T_BYTE", type := .int, accessFlags := 25, slot := 15, constantValue := 0 }, { name := "T_SHORT", type := .int, accessFlags := 25, slot := 16, constantValue := 0 }, { name := "T_INT", type := .int, accessFlags := 25, slot := 17, constantValue := 0 }, { name := "T_LONG", type := .int, accessFlags := 25, slot := 18, constantValue := 0 }, { name := "JLA", type := (.object "jdk/internal/access/JavaLangAccess"), accessFlags := 26, slot := 19, constantValue := 0 }, { name := "SOFT_MAX_ARRAY_LENGTH", type := .int, accessFlags := 25, slot := 20, constantValue := 0 }]
  methods := #[k13m0]
  instanceTypes := #[]
  staticTypes := #[(.object "jdk/internal/misc/Unsafe"), .boolean, .int, .int, .int, .int, .int, .int, .int, .int, .int, .int, .int, .int, .int, .int, .int, .int, .int, (.object "jdk/internal/access/JavaLangAccess"), .int]
  resolved := Array.replicate 378 none
  statics := none }

def pool14 : Array CpInfo := pool [(1, u "java/lang/Cloneable"), (0, .class_ 1), (0, u "java/lang/Object"), (0, .class_ 3)] 3

/-- java/lang/Cloneable -/
def k14 : Class := { plain "java/lang/Cloneable" (some 0) with
  accessFlags := 1537
  interfaces := #[]
  cf := some (fileOf pool14 2 #[] #[] 1537 4 #[] #[])
  fields := #[]
  methods := #[]
  instanceTypes := #[]
  staticTypes := #[]
  resolved := Array.replicate 8 none
  statics := none }

/-- the primitive byte -/
def k15 : Class := { plain "byte" none with kind := .primitive 'B', accessFlags := 0x411 }
/-- [B -/
def k16 : Class := { plain "[B" (some 0) with kind := .array 15 .byte, interfaces := #[14, 2], accessFlags := 1041 }

/-- the primitive char -/
def k17 : Class := { plain "char" none with kind := .primitive 'C', accessFlags := 0x411 }
/-- [C -/
def k18 : Class := { plain "[C" (some 0) with kind := .array 17 .char, interfaces := #[14, 2], accessFlags := 1041 }

/-- the primitive int -/
def k19 : Class := { plain "int" none with kind := .primitive 'I', accessFlags := 0x411 }
/-- [I -/
def k20 : Class := { plain "[I" (some 0) with kind := .array 19 .int, interfaces := #[14, 2], accessFlags := 1041 }

def heap : Heap := #[{ cls := 7, slots := #[.long 0, .int 1, .null, .int 0, .null, .int 0, .int 0], vm := .statics 7 },
  { cls := 12, slots := #[.null, .null, .null], vm := .statics 12 }]
def classes : Array Class := #[k0, k1, k2, k3, k4, k5, k6, k7, k8, k9, k10, k11, k12, k13, k14, k15, k16, k17, k18, k19, k20]
def interned : List (Array UInt16 × Addr) := []
def slotsUsed : Nat := 10
def theMethod : MethodId := ⟨1, 1⟩
def args0 : Array Value := #[.int 5, .int 5, .int 5, .long 5, .int 5]
def aboutOver (below : List Frame) : State where
  vm := { classes := classes, interned := interned.toArray }
  heap := heap
  slotsUsed := slotsUsed
  threads := #[{ frames := .invoking theMethod args0 :: below }]
def below0 : List Frame := [.native { method := ⟨0, 0⟩, args := #[] }]
def about1 : State := aboutOver below0
def p0 : Program := .bare "" "" ""
def e0 : Env := launch0.env 0 0 0
theorem w_frames : about1.frames = Frame.invoking theMethod args0 :: below0 := rfl
set_option maxRecDepth 65536 in
theorem w_args : argsFit about1.vm theMethod args0 = true := by decide +kernel
set_option maxRecDepth 65536 in
theorem w_heap : heapFits about1 = true := by decide +kernel
set_option maxRecDepth 65536 in
theorem w_runnable : about1.curStatus? = some .runnable := by decide +kernel
set_option maxRecDepth 65536 in
theorem w_alone : about1.alone = true := by decide +kernel
set_option maxRecDepth 65536 in
theorem w_named : about1.methodNamed? x = some theMethod := by decide +kernel
set_option maxRecDepth 65536 in
theorem w_hears : about1.hears theMethod below0 = true := by decide +kernel
set_option maxRecDepth 65536 in
theorem w_ripe : about1.ripe theMethod args0 below0 = true := by decide +kernel
theorem w_running : about1.status = .running := rfl
set_option maxRecDepth 65536 in
theorem w_room : about1.hasRoom e0.platform room_1 = true :=
  launch0.hasRoom_least _ room_1 (by decide +kernel) (by decide +kernel) (by decide +kernel) (by decide +kernel) (by decide +kernel) (by decide +kernel)
theorem allAtoms_all (ts : List Jvm.Cond) (a : Array Jvm.Value) (st : Jvm.State) : (allAtoms ts).before a st = ts.all (fun c => c.before a st) := by
  induction ts with
  | nil => rfl
  | cons c t ih =>
    show (Jvm.Cond.and c (allAtoms t)).before a st = _
    rw [Jvm.Cond.before_and, ih, List.all_cons]
def words1 : List Jvm.Cond := Jvm.Cond.code x code maxLocals ret :: tables_1
/-- a 'code' word, met by the world's own term for the bytes: nothing is compared byte by byte -/
theorem code_word {y : MethodName} {bytes : ByteArray} {mx : Nat} {rt : Option FieldType} {a : Array Value} {s : State} {m : MethodId} {meth : Method} {c : Code} (h1 : s.methodNamed? y = some m) (h2 : s.vm.method? m = some meth) (h3 : meth.code = some c) (h4 : c.code = bytes)
    (h5 : (c.maxLocals == mx && c.exceptionTable.isEmpty && decide (c.maxStack ≤ mostOperands) && decide (meth.sig.returnType = rt) && !meth.locks && decide (parseMethodDescriptor y.desc = some meth.sig)) = true) : (Jvm.Cond.code y bytes mx rt).before a s = true := by
  simp only [Bool.and_eq_true, beq_iff_eq, Bool.not_eq_true', decide_eq_true_eq] at h5
  obtain ⟨⟨⟨⟨⟨g1, g2⟩, g3⟩, g4⟩, g5⟩, g6⟩ := h5
  simp [Cond.before, Cond.holds, Cond.value, h1, h2, h3, h4, g1, g2, g3, g4, g5, g6]
def isCode : Jvm.Cond → Bool
  | .code _ _ _ _ => true
  | _ => false
theorem all_split {L : List Jvm.Cond} {P : Jvm.Cond → Bool} (h1 : L.all (fun c => isCode c || P c) = true) (h2 : ∀ c ∈ L.filter isCode, P c = true) : L.all P = true := by
  refine List.all_eq_true.mpr fun c hc => ?_
  have h := List.all_eq_true.mp h1 c hc
  rcases Bool.eq_false_or_eq_true (isCode c) with hi | hi
  · exact h2 c (List.mem_filter.mpr ⟨hc, hi⟩)
  · simpa [hi] using h
set_option maxRecDepth 65536 in
theorem w_c0 : (Jvm.Cond.code x code maxLocals ret).before args0 about1 = true := code_word (m := ⟨1, 1⟩) (meth := k1m1) (c := k1c1) (by decide +kernel) rfl rfl rfl (by decide +kernel)
set_option maxRecDepth 65536 in
theorem w_c1 : (Jvm.Cond.code ({ cls := "java/lang/String", name := "<init>", desc := "([C)V" } : Jvm.MethodName) jdk_42_method_3_code (2 : Nat) (Option.none : Option Jvm.ClassFile.FieldType)).before args0 about1 = true := code_word (m := ⟨7, 1⟩) (meth := k7m1) (c := k7c1) (by decide +kernel) rfl rfl rfl (by decide +kernel)
set_option maxRecDepth 65536 in
theorem w_c2 : (Jvm.Cond.code ({ cls := "java/lang/String", name := "<init>", desc := "([CIILjava/lang/Void;)V" } : Jvm.MethodName) jdk_42_method_149_code (6 : Nat) (Option.none : Option Jvm.ClassFile.FieldType)).before args0 about1 = true := code_word (m := ⟨7, 3⟩) (meth := k7m3) (c := k7c3) (by decide +kernel) rfl rfl rfl (by decide +kernel)
set_option maxRecDepth 65536 in
theorem w_c3 : (Jvm.Cond.code ({ cls := "java/lang/Object", name := "<init>", desc := "()V" } : Jvm.MethodName) object_method_1_code (1 : Nat) (Option.none : Option Jvm.ClassFile.FieldType)).before args0 about1 = true := code_word (m := ⟨0, 0⟩) (meth := k0m0) (c := k0c0) (by decide +kernel) rfl rfl rfl (by decide +kernel)
set_option maxRecDepth 65536 in
theorem w_c4 : (Jvm.Cond.code ({ cls := "com/example/hermod/hermod/resource/Condition", name := "<init>", desc := "(Ljava/lang/String;JZ)V" } : Jvm.MethodName) prog_5_method_1_code (5 : Nat) (Option.none : Option Jvm.ClassFile.FieldType)).before args0 about1 = true := code_word (m := ⟨9, 0⟩) (meth := k9m0) (c := k9c0) (by decide +kernel) rfl rfl rfl (by decide +kernel)
set_option maxRecDepth 65536 in
theorem w_c5 : (Jvm.Cond.code ({ cls := "java/lang/Record", name := "<init>", desc := "()V" } : Jvm.MethodName) jdk_30_method_1_code (1 : Nat) (Option.none : Option Jvm.ClassFile.FieldType)).before args0 about1 = true := code_word (m := ⟨8, 0⟩) (meth := k8m0) (c := k8c0) (by decide +kernel) rfl rfl rfl (by decide +kernel)
set_option maxRecDepth 65536 in
theorem w_c6 : (Jvm.Cond.code ({ cls := "com/example/hermod/hermod/resource/Condition", name := "isGiven", desc := "()Z" } : Jvm.MethodName) prog_5_method_4_code (1 : Nat) (Option.some Jvm.ClassFile.FieldType.boolean)).before args0 about1 = true := code_word (m := ⟨9, 1⟩) (meth := k9m1) (c := k9c1) (by decide +kernel) rfl rfl rfl (by decide +kernel)
set_option maxRecDepth 65536 in
theorem w_c7 : (Jvm.Cond.code ({ cls := "java/lang/String", name := "isEmpty", desc := "()Z" } : Jvm.MethodName) jdk_42_method_55_code (1 : Nat) (Option.some Jvm.ClassFile.FieldType.boolean)).before args0 about1 = true := code_word (m := ⟨7, 2⟩) (meth := k7m2) (c := k7c2) (by decide +kernel) rfl rfl rfl (by decide +kernel)
set_option maxRecDepth 65536 in
theorem w_c8 : (Jvm.Cond.code ({ cls := "java/lang/StringUTF16", name := "compress", desc := "([CII)[B" } : Jvm.MethodName) jdk_52_method_16_code (6 : Nat) (Option.some (Jvm.ClassFile.FieldType.array Jvm.ClassFile.FieldType.byte))).before args0 about1 = true := code_word (m := ⟨10, 2⟩) (meth := k10m2) (c := k10c2) (by decide +kernel) rfl rfl rfl (by decide +kernel)
set_option maxRecDepth 65536 in
theorem w_c9 : (Jvm.Cond.code ({ cls := "java/lang/StringUTF16", name := "compress", desc := "([CI[BII)I" } : Jvm.MethodName) jdk_52_method_21_code (7 : Nat) (Option.some Jvm.ClassFile.FieldType.int)).before args0 about1 = true := code_word (m := ⟨10, 3⟩) (meth := k10m3) (c := k10c3) (by decide +kernel) rfl rfl rfl (by decide +kernel)
set_option maxRecDepth 65536 in
theorem w_c10 : (Jvm.Cond.code ({ cls := "java/lang/StringUTF16", name := "coderFromArrayLen", desc := "([BI)B" } : Jvm.MethodName) jdk_52_method_15_code (2 : Nat) (Option.some Jvm.ClassFile.FieldType.byte)).before args0 about1 = true := code_word (m := ⟨10, 1⟩) (meth := k10m1) (c := k10c1) (by decide +kernel) rfl rfl rfl (by decide +kernel)
def codes1 : List Jvm.Cond := [Jvm.Cond.code x code maxLocals ret, Jvm.Cond.code ({ cls := "java/lang/String", name := "<init>", desc := "([C)V" } : Jvm.MethodName) jdk_42_method_3_code (2 : Nat) (Option.none : Option Jvm.ClassFile.FieldType), Jvm.Cond.code ({ cls := "java/lang/String", name := "<init>", desc := "([CIILjava/lang/Void;)V" } : Jvm.MethodName) jdk_42_method_149_code (6 : Nat) (Option.none : Option Jvm.ClassFile.FieldType), Jvm.Cond.code ({ cls := "java/lang/Object", name := "<init>", desc := "()V" } : Jvm.MethodName) object_method_1_code (1 : Nat) (Option.none : Option Jvm.ClassFile.FieldType), Jvm.Cond.code ({ cls := "com/example/hermod/hermod/resource/Condition", name := "<init>", desc := "(Ljava/lang/String;JZ)V" } : Jvm.MethodName) prog_5_method_1_code (5 : Nat) (Option.none : Option Jvm.ClassFile.FieldType), Jvm.Cond.code ({ cls := "java/lang/Record", name := "<init>", desc := "()V" } : Jvm.MethodName) jdk_30_method_1_code (1 : Nat) (Option.none : Option Jvm.ClassFile.FieldType), Jvm.Cond.code ({ cls := "com/example/hermod/hermod/resource/Condition", name := "isGiven", desc := "()Z" } : Jvm.MethodName) prog_5_method_4_code (1 : Nat) (Option.some Jvm.ClassFile.FieldType.boolean), Jvm.Cond.code ({ cls := "java/lang/String", name := "isEmpty", desc := "()Z" } : Jvm.MethodName) jdk_42_method_55_code (1 : Nat) (Option.some Jvm.ClassFile.FieldType.boolean), Jvm.Cond.code ({ cls := "java/lang/StringUTF16", name := "compress", desc := "([CII)[B" } : Jvm.MethodName) jdk_52_method_16_code (6 : Nat) (Option.some (Jvm.ClassFile.FieldType.array Jvm.ClassFile.FieldType.byte)), Jvm.Cond.code ({ cls := "java/lang/StringUTF16", name := "compress", desc := "([CI[BII)I" } : Jvm.MethodName) jdk_52_method_21_code (7 : Nat) (Option.some Jvm.ClassFile.FieldType.int), Jvm.Cond.code ({ cls := "java/lang/StringUTF16", name := "coderFromArrayLen", desc := "([BI)B" } : Jvm.MethodName) jdk_52_method_15_code (2 : Nat) (Option.some Jvm.ClassFile.FieldType.byte)]
set_option maxRecDepth 65536 in
theorem codes_eq : words1.filter isCode = codes1 := rfl
theorem w_codes : ∀ c ∈ words1.filter isCode, c.before args0 about1 = true := by
  rw [codes_eq]
  intro c hc
  simp only [codes1, List.mem_cons, List.not_mem_nil, or_false] at hc
  rcases hc with rfl | rfl | rfl | rfl | rfl | rfl | rfl | rfl | rfl | rfl | rfl
  · exact w_c0
  · exact w_c1
  · exact w_c2
  · exact w_c3
  · exact w_c4
  · exact w_c5
  · exact w_c6
  · exact w_c7
  · exact w_c8
  · exact w_c9
  · exact w_c10
set_option maxRecDepth 65536 in
theorem w_t1 : (words1.take 24).all (fun c => isCode c || c.before args0 about1) = true := by decide +kernel
set_option maxRecDepth 65536 in
theorem w_t2 : ((words1.drop 24).take 24).all (fun c => isCode c || c.before args0 about1) = true := by decide +kernel
set_option maxRecDepth 65536 in
theorem w_t3 : ((words1.drop 24).drop 24).all (fun c => isCode c || c.before args0 about1) = true := by decide +kernel
theorem w_tables : (allAtoms (Jvm.Cond.code x code maxLocals ret :: tables_1)).before args0 about1 = true := by
  rw [allAtoms_all]
  show words1.all (fun c => c.before args0 about1) = true
  refine all_split ?_ w_codes
  rw [← List.take_append_drop 24 words1, List.all_append, w_t1, ← List.take_append_drop 24 (words1.drop 24), List.all_append, w_t2, w_t3]
  rfl
set_option maxRecDepth 65536 in
theorem w_rest : rest_1_c.before args0 about1 = true := by decide +kernel
set_option maxRecDepth 65536 in
theorem w_case : (Jvm.Cond.and given_1 narrow_1).before args0 about1 = true := by decide +kernel
set_option maxRecDepth 65536 in
theorem w_consts : constsHeld consts_1 about1 := Jvm.Lit.constsHeldB_iff.mp (by decide +kernel)
theorem w_applies : (headSpec (Jvm.Cond.code x code maxLocals ret :: tables_1) room_1).applies x e0.platform about1 = true :=
  (Spec.applies_iff w_frames).mpr ⟨w_running, w_runnable, w_alone, w_named, w_hears, w_ripe, w_room, w_tables⟩
theorem atStart : AtStart classFile x code maxLocals ret World_1 tables_1 room_1 Calls_1 rest_1 Pre_1 launch0 p0 e0 about1 theMethod args0 below0 :=
  ⟨lists_1, trivial, launch0.admits_env _ _ _, launch0.least_env, fairChoices_fair.cas, fairChoices_fair.clock, w_frames, w_args, w_heap, w_applies, ⟨w_consts, trivial⟩, w_rest, w_case⟩
end start1
theorem witness_1 : WitnessClaimed_1 := ⟨start1.p0, start1.e0, start1.about1, start1.theMethod, start1.args0, start1.below0, start1.atStart⟩
end Jvm.Pilot.@@N@@
