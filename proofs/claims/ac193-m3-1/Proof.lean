import JvmDerived
import JvmDerived.Pilot.@@N@@Statement
import JvmDerived.Pilot.@@N@@Code
set_option linter.unusedVariables false
set_option linter.unusedSimpArgs false
namespace Jvm.Pilot.@@N@@
open Jvm Jvm.ClassFile Sem Op Lib Jvm.Free Jvm.Stand Jvm.LawKit Jvm.RoadKit Bundle Jvm.Pilot.@@N@@.Jvm.D
/-! A. where a walk stands: W; what a body owes: Gl; a body's contract: Ctr -/
abbrev Cx := Program × Env × State × MethodId × Array Value × List Frame × Method × Code × State
def W (l : Launch) (Z : State) (n0 : Nat) (y : MethodName) (bytes : ByteArray) (maxl : Nat) (ret : Option FieldType) (R : Room) (G : Cx) (h : Heap) (pc : Nat) (Ls : Array Slot) (St : List Value) (cells slots : Nat) : Prop :=
  match G with
  | (p, e, s, m, args, below, meth, c, st) =>
    p.tables.exec = Jvm.exec ∧ Z.Warmed39 s.vm ∧ c.code = bytes ∧ c.maxLocals = maxl ∧ s.vm.findClass y.cls = some m.cls ∧ meth.name = y.name ∧ meth.sig.returnType = ret ∧ meth.locks = false ∧ n0 ≤ s.heap.size ∧
    ∃ (T : State) (locs : List Loc), Stand p l e R s m args below meth c T locs cells slots ∧ Fr n0 locs ∧ T.heap = h ∧ ∀ t, Steps p.tables e below (T.setTop (mkF m pc Ls St)) t → Steps p.tables e below st t
def Gl (R : Room) (n0 : Nat) (G : Cx) (Q : Option Value → Heap → Prop) : Prop :=
  match G with
  | (p, e, s, m, args, below, meth, c, st) => ∃ s₂ o, Steps p.tables e below st s₂ ∧ s₂.status = .running ∧ Ended s₂ below o ∧ ∃ v L, o = .returned v ∧ (Fr n0 L ∧ Q v s₂.heap) ∧ FrameEnd s o s₂ L R.cells R.slots
def Ctr (l : Launch) (Z : State) (n0 : Nat) (y : MethodName) (bytes : ByteArray) (maxl : Nat) (ret : Option FieldType) (ws : List Jvm.Cond) (R : Room) (as : Array Value) (h0 : Heap) (Q : Option Value → Heap → Prop) : Prop :=
  MetFree l y (head1 (Jvm.Cond.code y bytes maxl ret :: ws) R) (fun a U => a = as ∧ Z.Warmed39 U.vm ∧ U.heap = h0) (fun _ _ _ _ _ => True) (fun _ U o U' => ∃ v L, o = .returned v ∧ (Fr n0 L ∧ Q v U'.heap) ∧ FrameEnd U o U' L R.cells R.slots)
def QI (P : Int32 → Heap → Prop) (v : Option Value) (h : Heap) : Prop := ∃ r, v = some (.int r) ∧ P r h
def QJ (P : Int64 → Heap → Prop) (v : Option Value) (h : Heap) : Prop := ∃ r, v = some (.long r) ∧ P r h
def QA (P : Addr → Heap → Prop) (v : Option Value) (h : Heap) : Prop := ∃ r, v = some (.ref r) ∧ P r h
def QV (P : Heap → Prop) (v : Option Value) (h : Heap) : Prop := v = none ∧ P h
theorem ilt {x y : Int32} {a b : Int} (ha : x.toInt = a) (hb : y.toInt = b) (h : a < b) : x < y := by subst ha hb; exact Int32.lt_iff_toInt_lt.mpr h
theorem inlt {x y : Int32} {a b : Int} (ha : x.toInt = a) (hb : y.toInt = b) (h : ¬ a < b) : ¬ x < y := by subst ha hb; exact fun q => h (Int32.lt_iff_toInt_lt.mp q)
theorem igt {x y : Int32} {a b : Int} (ha : x.toInt = a) (hb : y.toInt = b) (h : b < a) : y < x := ilt hb ha h
theorem ingt {x y : Int32} {a b : Int} (ha : x.toInt = a) (hb : y.toInt = b) (h : ¬ b < a) : ¬ y < x := inlt hb ha h
theorem ieq {x y : Int32} {a b : Int} (ha : x.toInt = a) (hb : y.toInt = b) (h : a = b) : x = y := by subst ha hb; exact Int32.toInt_inj.mp h
theorem ine {x y : Int32} {a b : Int} (ha : x.toInt = a) (hb : y.toInt = b) (h : ¬ a = b) : ¬ x = y := by subst ha hb; exact fun q => h (Int32.toInt_inj.mpr q)
theorem llt {x y : Int64} {a b : Int} (ha : x.toInt = a) (hb : y.toInt = b) (h : a < b) : lcmpW x y < 0 := by subst ha hb; exact (lw_lt _ _).mpr (Int64.lt_iff_toInt_lt.mpr h)
theorem lnlt {x y : Int64} {a b : Int} (ha : x.toInt = a) (hb : y.toInt = b) (h : ¬ a < b) : ¬ lcmpW x y < 0 := by subst ha hb; exact fun q => h (Int64.lt_iff_toInt_lt.mp ((lw_lt _ _).mp q))
theorem lgt {x y : Int64} {a b : Int} (ha : x.toInt = a) (hb : y.toInt = b) (h : b < a) : 0 < lcmpW x y := by subst ha hb; exact (lw_gt _ _).mpr (Int64.lt_iff_toInt_lt.mpr h)
theorem lngt {x y : Int64} {a b : Int} (ha : x.toInt = a) (hb : y.toInt = b) (h : ¬ b < a) : ¬ 0 < lcmpW x y := by subst ha hb; exact fun q => h (Int64.lt_iff_toInt_lt.mp ((lw_gt _ _).mp q))
theorem leq {x y : Int64} {a b : Int} (ha : x.toInt = a) (hb : y.toInt = b) (h : a = b) : lcmpW x y = 0 := by subst ha hb; exact (lw_eq _ _).mpr (Int64.toInt_inj.mp h)
theorem lne {x y : Int64} {a b : Int} (ha : x.toInt = a) (hb : y.toInt = b) (h : ¬ a = b) : ¬ lcmpW x y = 0 := by subst ha hb; exact fun q => h (Int64.toInt_inj.mpr ((lw_eq _ _).mp q))
def Two (s t : Slot) : Prop := (s = .unset ∧ t = .unset) ∨ ∃ q : Int64, s = .val (.long q) ∧ t = .second
section Walk
variable {l : Launch} {Z : State} {n0 : Nat} {y : MethodName} {bytes : ByteArray} {maxl : Nat} {ret : Option FieldType} {R : Room} {G : Cx} {h : Heap} {pc pc' : Nat} {Ls : Array Slot} {St : List Value} {C S C' S' : Nat} {Q : Option Value → Heap → Prop} {a0 : Array Value}
theorem W.mk {p : Program} {e : Env} {s : State} {m : MethodId} {args : Array Value} {below : List Frame} {meth : Method} {c : Code} {st : State} {T : State} {locs : List Loc} (hx : p.tables.exec = Jvm.exec) (hZ : Z.Warmed39 s.vm) (hby : c.code = bytes) (hml : c.maxLocals = maxl) (hown : s.vm.findClass y.cls = some m.cls) (hnm : meth.name = y.name) (hrt : meth.sig.returnType = ret) (hlk : meth.locks = false) (hn0 : n0 ≤ s.heap.size)
    (X : Stand p l e R s m args below meth c T locs C S) (N : Fr n0 locs) (eT : T.heap = h) (k : ∀ t, Steps p.tables e below (T.setTop (mkF m pc Ls St)) t → Steps p.tables e below st t) : W l Z n0 y bytes maxl ret R (p, e, s, m, args, below, meth, c, st) h pc Ls St C S :=
  show _ ∧ _ from ⟨hx, hZ, hby, hml, hown, hnm, hrt, hlk, hn0, T, locs, X, N, eT, k⟩
theorem ctr_of {ws : List Jvm.Cond} {as : Array Value} (hpn : plainFor y = true) (hn0 : n0 ≤ h.size) (hef : ∀ m, entryFrame m as maxl = mkF m 0 Ls []) (body : ∀ G, W l Z n0 y bytes maxl ret R G h 0 Ls [] 0 0 → Gl R n0 G Q) : Ctr l Z n0 y bytes maxl ret ws R as h Q := by
  refine MetFree.of_bodySF hpn hisR ?_
  intro p e s m args below meth c s₁ Bd hml0 hP hK
  obtain ⟨rfl, hZ, hh⟩ := hP
  have e0 : s₁.heap = h := by rw [← hh, Bd.state]; rfl
  exact body (p, e, s, m, args, below, meth, c, s₁.setTop (entryFrame m args maxl)) (W.mk Bd.exec hZ Bd.bytes hml0 (findClass_of_methodNamed Bd.named) (name_of_methodNamed Bd.named Bd.method).1 Bd.returns (BodyLoose.notSynchronized Bd) (hh ▸ hn0) (Stand.of_body Bd) (Fr.nil n0) e0 (fun t k => castTop (hef m) k))
theorem W.size (A : W l Z n0 y bytes maxl ret R G h pc Ls St C S) : n0 ≤ h.size := by
  obtain ⟨p, e, s, m, args, below, meth, c, st⟩ := G
  obtain ⟨hx, hZ, hby, hml, hown, hnm, hrt, hlk, hn0, T, locs, X, N, eT, k⟩ := A
  exact Nat.le_trans hn0 (by rw [← eT]; exact X.same.2.1)
theorem W.more (A : W l Z n0 y bytes maxl ret R G h pc Ls St C S) (hC : C ≤ C') (hS : S ≤ S') : W l Z n0 y bytes maxl ret R G h pc Ls St C' S' := by
  obtain ⟨p, e, s, m, args, below, meth, c, st⟩ := G
  obtain ⟨hx, hZ, hby, hml, hown, hnm, hrt, hlk, hn0, T, locs, X, N, eT, k⟩ := A
  exact W.mk hx hZ hby hml hown hnm hrt hlk hn0 (X.more hC hS) N eT k
theorem W.cast {Ls' : Array Slot} {St' : List Value} (A : W l Z n0 y bytes maxl ret R G h pc Ls St C S) (hp : pc = pc') (hL : Ls = Ls') (hSt : St = St') : W l Z n0 y bytes maxl ret R G h pc' Ls' St' C S := by subst hp hL hSt; exact A
/-- a plain step -/
theorem W.step (A : W l Z n0 y bytes maxl ret R G h pc Ls St C S) {Ls' : Array Slot} {St' : List Value}
    (f : ∀ {p : Program} {e : Env} {s : State} {m : MethodId} {args : Array Value} {below : List Frame} {meth : Method} {c : Code} {T t : State} {locs : List Loc}, Stand p l e R s m args below meth c T locs C S → p.tables.exec = Jvm.exec → Z.Warmed39 s.vm → s.vm.findClass y.cls = some m.cls → c.code = bytes → T.heap = h → Steps p.tables e below (T.setTop (mkF m pc' Ls' St')) t → Steps p.tables e below (T.setTop (mkF m pc Ls St)) t) : W l Z n0 y bytes maxl ret R G h pc' Ls' St' C S := by
  obtain ⟨p, e, s, m, args, below, meth, c, st⟩ := G
  obtain ⟨hx, hZ, hby, hml, hown, hnm, hrt, hlk, hn0, T, locs, X, N, eT, k⟩ := A
  exact W.mk hx hZ hby hml hown hnm hrt hlk hn0 X N eT (fun t q => k t (f X hx hZ hown hby eT q))
/-! B. plain instructions -/
theorem W.iloadN (A : W l Z n0 y bytes maxl ret R G h pc Ls St C S) {k : Fin 4} {v : Int32} (hd : decode bytes pc = .ok (.iload_n k, 1)) (hl : Ls[k.val]? = some (.val (.int v))) (hp : pc + 1 = pc') : W l Z n0 y bytes maxl ret R G h pc' Ls (.int v :: St) C S := by
  subst hp; exact A.step fun X hx _ _ q _ r => XS.iloadN X.here hx rfl (hb q hd) hl r
theorem W.iload (A : W l Z n0 y bytes maxl ret R G h pc Ls St C S) {k : Nat} {v : Int32} (hd : decode bytes pc = .ok (.iload k, 2)) (hl : Ls[k]? = some (.val (.int v))) (hp : pc + 2 = pc') : W l Z n0 y bytes maxl ret R G h pc' Ls (.int v :: St) C S := by
  subst hp; exact A.step fun X hx _ _ q _ r => XS.iload X.here hx rfl (hb q hd) hl r
theorem W.lloadN (A : W l Z n0 y bytes maxl ret R G h pc Ls St C S) {k : Fin 4} {v : Int64} (hd : decode bytes pc = .ok (.lload_n k, 1)) (hl : Ls[k.val]? = some (.val (.long v))) (hp : pc + 1 = pc') : W l Z n0 y bytes maxl ret R G h pc' Ls (.long v :: St) C S := by
  subst hp; exact A.step fun X hx _ _ q _ r => XS.lloadN X.here hx rfl (hb q hd) hl r
theorem W.lload (A : W l Z n0 y bytes maxl ret R G h pc Ls St C S) {k : Nat} {v : Int64} (hd : decode bytes pc = .ok (.lload k, 2)) (hl : Ls[k]? = some (.val (.long v))) (hp : pc + 2 = pc') : W l Z n0 y bytes maxl ret R G h pc' Ls (.long v :: St) C S := by
  subst hp; exact A.step fun X hx _ _ q _ r => XS.lload X.here hx rfl (hb q hd) hl r
theorem W.aloadN (A : W l Z n0 y bytes maxl ret R G h pc Ls St C S) {k : Fin 4} {v : Value} (hd : decode bytes pc = .ok (.aload_n k, 1)) (hl : Ls[k.val]? = some (.val v)) (hv : v.isRef = true) (hp : pc + 1 = pc') : W l Z n0 y bytes maxl ret R G h pc' Ls (v :: St) C S := by
  subst hp; exact A.step fun X hx _ _ q _ r => XS.aloadN X.here hx rfl (hb q hd) hl hv r
theorem W.aload (A : W l Z n0 y bytes maxl ret R G h pc Ls St C S) {k : Nat} {v : Value} (hd : decode bytes pc = .ok (.aload k, 2)) (hl : Ls[k]? = some (.val v)) (hv : v.isRef = true) (hp : pc + 2 = pc') : W l Z n0 y bytes maxl ret R G h pc' Ls (v :: St) C S := by
  subst hp; exact A.step fun X hx _ _ q _ r => XS.aload X.here hx rfl (hb q hd) hl hv r
theorem W.istoreN {v : Int32} (A : W l Z n0 y bytes maxl ret R G h pc Ls (.int v :: St) C S) {k : Fin 4} {Ls' : Array Slot} (hd : decode bytes pc = .ok (.istore_n k, 1)) (hl : storeLocals Ls k.val (.int v) = some Ls') (hp : pc + 1 = pc') : W l Z n0 y bytes maxl ret R G h pc' Ls' St C S := by
  subst hp; exact A.step fun X hx _ _ q _ r => XS.istoreN X.here hx rfl (hb q hd) rfl hl r
theorem W.istore {v : Int32} (A : W l Z n0 y bytes maxl ret R G h pc Ls (.int v :: St) C S) {k : Nat} {Ls' : Array Slot} (hd : decode bytes pc = .ok (.istore k, 2)) (hl : storeLocals Ls k (.int v) = some Ls') (hp : pc + 2 = pc') : W l Z n0 y bytes maxl ret R G h pc' Ls' St C S := by
  subst hp; exact A.step fun X hx _ _ q _ r => XS.istore X.here hx rfl (hb q hd) rfl hl r
theorem W.lstoreN {v : Int64} (A : W l Z n0 y bytes maxl ret R G h pc Ls (.long v :: St) C S) {k : Fin 4} {Ls' : Array Slot} (hd : decode bytes pc = .ok (.lstore_n k, 1)) (hl : storeLocals Ls k.val (.long v) = some Ls') (hp : pc + 1 = pc') : W l Z n0 y bytes maxl ret R G h pc' Ls' St C S := by
  subst hp; exact A.step fun X hx _ _ q _ r => XS.lstoreN X.here hx rfl (hb q hd) rfl hl r
theorem W.lstore {v : Int64} (A : W l Z n0 y bytes maxl ret R G h pc Ls (.long v :: St) C S) {k : Nat} {Ls' : Array Slot} (hd : decode bytes pc = .ok (.lstore k, 2)) (hl : storeLocals Ls k (.long v) = some Ls') (hp : pc + 2 = pc') : W l Z n0 y bytes maxl ret R G h pc' Ls' St C S := by
  subst hp; exact A.step fun X hx _ _ q _ r => XS.lstore X.here hx rfl (hb q hd) rfl hl r
theorem W.astoreN {v : Value} (A : W l Z n0 y bytes maxl ret R G h pc Ls (v :: St) C S) {k : Fin 4} {Ls' : Array Slot} (hd : decode bytes pc = .ok (.astore_n k, 1)) (hv : v.isRef = true) (hl : storeLocals Ls k.val v = some Ls') (hp : pc + 1 = pc') : W l Z n0 y bytes maxl ret R G h pc' Ls' St C S := by
  subst hp; exact A.step fun X hx _ _ q _ r => XS.astoreN X.here hx rfl (hb q hd) rfl hv hl r
theorem W.astore {v : Value} (A : W l Z n0 y bytes maxl ret R G h pc Ls (v :: St) C S) {k : Nat} {Ls' : Array Slot} (hd : decode bytes pc = .ok (.astore k, 2)) (hv : v.isRef = true) (hl : storeLocals Ls k v = some Ls') (hp : pc + 2 = pc') : W l Z n0 y bytes maxl ret R G h pc' Ls' St C S := by
  subst hp; exact A.step fun X hx _ _ q _ r => XS.astore X.here hx rfl (hb q hd) rfl hv hl r
theorem W.iconst (A : W l Z n0 y bytes maxl ret R G h pc Ls St C S) {i : Int} {z : Int32} (hd : decode bytes pc = .ok (.iconst i, 1)) (hz : Int32.ofInt i = z) (hp : pc + 1 = pc') : W l Z n0 y bytes maxl ret R G h pc' Ls (.int z :: St) C S := by
  subst hp hz; exact A.step fun X hx _ _ q _ r => XS.iconst X.here hx rfl (hb q hd) r
theorem W.bipush (A : W l Z n0 y bytes maxl ret R G h pc Ls St C S) {i : Int} {z : Int32} (hd : decode bytes pc = .ok (.bipush i, 2)) (hz : (Int8.ofInt i).toInt32 = z) (hp : pc + 2 = pc') : W l Z n0 y bytes maxl ret R G h pc' Ls (.int z :: St) C S := by
  subst hp hz; exact A.step fun X hx _ _ q _ r => XS.bipush X.here hx rfl (hb q hd) r
theorem W.sipush (A : W l Z n0 y bytes maxl ret R G h pc Ls St C S) {i : Int} {z : Int32} (hd : decode bytes pc = .ok (.sipush i, 3)) (hz : (Int16.ofInt i).toInt32 = z) (hp : pc + 3 = pc') : W l Z n0 y bytes maxl ret R G h pc' Ls (.int z :: St) C S := by
  subst hp hz; exact A.step fun X hx _ _ q _ r => XS.sipush X.here hx rfl (hb q hd) r
theorem W.lconst (A : W l Z n0 y bytes maxl ret R G h pc Ls St C S) {k : Fin 2} {z : Int64} (hd : decode bytes pc = .ok (.lconst k, 1)) (hz : Int64.ofNat k.val = z) (hp : pc + 1 = pc') : W l Z n0 y bytes maxl ret R G h pc' Ls (.long z :: St) C S := by
  subst hp hz; exact A.step fun X hx _ _ q _ r => XS.lconst X.here hx rfl (hb q hd) r
theorem W.aconstNull (A : W l Z n0 y bytes maxl ret R G h pc Ls St C S) (hd : decode bytes pc = .ok (.aconst_null, 1)) (hp : pc + 1 = pc') : W l Z n0 y bytes maxl ret R G h pc' Ls (.null :: St) C S := by
  subst hp; exact A.step fun X hx _ _ q _ r => XS.aconstNull X.here hx rfl (hb q hd) r
theorem W.ldc (A : W l Z n0 y bytes maxl ret R G h pc Ls St C S) {i : Nat} {z : Int32} (hd : decode bytes pc = .ok (.ldc i, 2)) (w : (Jvm.Cond.constant y.cls i z).before a0 Z = true) (hp : pc + 2 = pc') : W l Z n0 y bytes maxl ret R G h pc' Ls (.int z :: St) C S := by
  subst hp; exact A.step fun X hx hZ hown q _ r => X.ldcInt hx hown (mvT hZ w) (g := mkF _ pc Ls St) rfl (hb q hd) _ r
theorem W.ldcW (A : W l Z n0 y bytes maxl ret R G h pc Ls St C S) {i : Nat} {z : Int32} (hd : decode bytes pc = .ok (.ldc_w i, 3)) (w : (Jvm.Cond.constant y.cls i z).before a0 Z = true) (hp : pc + 3 = pc') : W l Z n0 y bytes maxl ret R G h pc' Ls (.int z :: St) C S := by
  subst hp; exact A.step fun X hx hZ hown q _ r => X.ldcwInt hx hown (mvT hZ w) (g := mkF _ pc Ls St) rfl (hb q hd) _ r
theorem W.ldc2 (A : W l Z n0 y bytes maxl ret R G h pc Ls St C S) {i : Nat} {z : Int64} (hd : decode bytes pc = .ok (.ldc2_w i, 3)) (w : (Jvm.Cond.constantLong y.cls i z).before a0 Z = true) (hp : pc + 3 = pc') : W l Z n0 y bytes maxl ret R G h pc' Ls (.long z :: St) C S := by
  subst hp; exact A.step fun X hx hZ hown q _ r => X.ldc2Long hx hown (mvT hZ w) (g := mkF _ pc Ls St) rfl (hb q hd) _ r
theorem W.iinc (A : W l Z n0 y bytes maxl ret R G h pc Ls St C S) {k : Nat} {i : Int} {v z : Int32} {Ls' : Array Slot} (hd : decode bytes pc = .ok (.iinc k i, 3)) (hl : Ls[k]? = some (.val (.int v))) (hz : v + Int32.ofInt i = z) (hl' : storeLocals Ls k (.int z) = some Ls') (hp : pc + 3 = pc') : W l Z n0 y bytes maxl ret R G h pc' Ls' St C S := by
  subst hp hz; exact A.step fun X hx _ _ q _ r => XS.iinc X.here hx rfl (hb q hd) hl hl' r
theorem W.iadd {x z : Int32} (A : W l Z n0 y bytes maxl ret R G h pc Ls (.int z :: .int x :: St) C S) (hd : decode bytes pc = .ok (.iadd, 1)) (hp : pc + 1 = pc') : W l Z n0 y bytes maxl ret R G h pc' Ls (.int (x + z) :: St) C S := by
  subst hp; exact A.step fun X hx _ _ q _ r => XS.iadd X.here hx rfl (hb q hd) rfl r
theorem W.ladd {x z : Int64} (A : W l Z n0 y bytes maxl ret R G h pc Ls (.long z :: .long x :: St) C S) (hd : decode bytes pc = .ok (.ladd, 1)) (hp : pc + 1 = pc') : W l Z n0 y bytes maxl ret R G h pc' Ls (.long (x + z) :: St) C S := by
  subst hp; exact A.step fun X hx _ _ q _ r => XS.ladd X.here hx rfl (hb q hd) rfl r
theorem W.isub {x z : Int32} (A : W l Z n0 y bytes maxl ret R G h pc Ls (.int z :: .int x :: St) C S) (hd : decode bytes pc = .ok (.isub, 1)) (hp : pc + 1 = pc') : W l Z n0 y bytes maxl ret R G h pc' Ls (.int (x - z) :: St) C S := by
  subst hp; exact A.step fun X hx _ _ q _ r => XS.isub X.here hx rfl (hb q hd) rfl r
theorem W.lsub {x z : Int64} (A : W l Z n0 y bytes maxl ret R G h pc Ls (.long z :: .long x :: St) C S) (hd : decode bytes pc = .ok (.lsub, 1)) (hp : pc + 1 = pc') : W l Z n0 y bytes maxl ret R G h pc' Ls (.long (x - z) :: St) C S := by
  subst hp; exact A.step fun X hx _ _ q _ r => XS.lsub X.here hx rfl (hb q hd) rfl r
theorem W.imul {x z : Int32} (A : W l Z n0 y bytes maxl ret R G h pc Ls (.int z :: .int x :: St) C S) (hd : decode bytes pc = .ok (.imul, 1)) (hp : pc + 1 = pc') : W l Z n0 y bytes maxl ret R G h pc' Ls (.int (x * z) :: St) C S := by
  subst hp; exact A.step fun X hx _ _ q _ r => XS.imul X.here hx rfl (hb q hd) rfl r
theorem W.lmul {x z : Int64} (A : W l Z n0 y bytes maxl ret R G h pc Ls (.long z :: .long x :: St) C S) (hd : decode bytes pc = .ok (.lmul, 1)) (hp : pc + 1 = pc') : W l Z n0 y bytes maxl ret R G h pc' Ls (.long (x * z) :: St) C S := by
  subst hp; exact A.step fun X hx _ _ q _ r => XS.lmul X.here hx rfl (hb q hd) rfl r
theorem W.iand {x z : Int32} (A : W l Z n0 y bytes maxl ret R G h pc Ls (.int z :: .int x :: St) C S) (hd : decode bytes pc = .ok (.iand, 1)) (hp : pc + 1 = pc') : W l Z n0 y bytes maxl ret R G h pc' Ls (.int (x &&& z) :: St) C S := by
  subst hp; exact A.step fun X hx _ _ q _ r => XS.iand X.here hx rfl (hb q hd) rfl r
theorem W.land {x z : Int64} (A : W l Z n0 y bytes maxl ret R G h pc Ls (.long z :: .long x :: St) C S) (hd : decode bytes pc = .ok (.land, 1)) (hp : pc + 1 = pc') : W l Z n0 y bytes maxl ret R G h pc' Ls (.long (x &&& z) :: St) C S := by
  subst hp; exact A.step fun X hx _ _ q _ r => XS.land X.here hx rfl (hb q hd) rfl r
theorem W.ior {x z : Int32} (A : W l Z n0 y bytes maxl ret R G h pc Ls (.int z :: .int x :: St) C S) (hd : decode bytes pc = .ok (.ior, 1)) (hp : pc + 1 = pc') : W l Z n0 y bytes maxl ret R G h pc' Ls (.int (x ||| z) :: St) C S := by
  subst hp; exact A.step fun X hx _ _ q _ r => XS.ior X.here hx rfl (hb q hd) rfl r
theorem W.lor {x z : Int64} (A : W l Z n0 y bytes maxl ret R G h pc Ls (.long z :: .long x :: St) C S) (hd : decode bytes pc = .ok (.lor, 1)) (hp : pc + 1 = pc') : W l Z n0 y bytes maxl ret R G h pc' Ls (.long (x ||| z) :: St) C S := by
  subst hp; exact A.step fun X hx _ _ q _ r => XS.lor X.here hx rfl (hb q hd) rfl r
theorem W.ixor {x z : Int32} (A : W l Z n0 y bytes maxl ret R G h pc Ls (.int z :: .int x :: St) C S) (hd : decode bytes pc = .ok (.ixor, 1)) (hp : pc + 1 = pc') : W l Z n0 y bytes maxl ret R G h pc' Ls (.int (x ^^^ z) :: St) C S := by
  subst hp; exact A.step fun X hx _ _ q _ r => XS.ixor X.here hx rfl (hb q hd) rfl r
theorem W.lxor {x z : Int64} (A : W l Z n0 y bytes maxl ret R G h pc Ls (.long z :: .long x :: St) C S) (hd : decode bytes pc = .ok (.lxor, 1)) (hp : pc + 1 = pc') : W l Z n0 y bytes maxl ret R G h pc' Ls (.long (x ^^^ z) :: St) C S := by
  subst hp; exact A.step fun X hx _ _ q _ r => XS.lxor X.here hx rfl (hb q hd) rfl r
theorem W.ineg {x : Int32} (A : W l Z n0 y bytes maxl ret R G h pc Ls (.int x :: St) C S) (hd : decode bytes pc = .ok (.ineg, 1)) (hp : pc + 1 = pc') : W l Z n0 y bytes maxl ret R G h pc' Ls (.int (-x) :: St) C S := by
  subst hp; exact A.step fun X hx _ _ q _ r => XS.ineg X.here hx rfl (hb q hd) rfl r
theorem W.lneg {x : Int64} (A : W l Z n0 y bytes maxl ret R G h pc Ls (.long x :: St) C S) (hd : decode bytes pc = .ok (.lneg, 1)) (hp : pc + 1 = pc') : W l Z n0 y bytes maxl ret R G h pc' Ls (.long (-x) :: St) C S := by
  subst hp; exact A.step fun X hx _ _ q _ r => XS.lneg X.here hx rfl (hb q hd) rfl r
theorem W.ishl {x z : Int32} (A : W l Z n0 y bytes maxl ret R G h pc Ls (.int z :: .int x :: St) C S) (hd : decode bytes pc = .ok (.ishl, 1)) (hp : pc + 1 = pc') : W l Z n0 y bytes maxl ret R G h pc' Ls (.int (x <<< (z &&& 31)) :: St) C S := by
  subst hp; exact A.step fun X hx _ _ q _ r => XS.ishl X.here hx rfl (hb q hd) rfl r
theorem W.ishr {x z : Int32} (A : W l Z n0 y bytes maxl ret R G h pc Ls (.int z :: .int x :: St) C S) (hd : decode bytes pc = .ok (.ishr, 1)) (hp : pc + 1 = pc') : W l Z n0 y bytes maxl ret R G h pc' Ls (.int (x >>> (z &&& 31)) :: St) C S := by
  subst hp; exact A.step fun X hx _ _ q _ r => XS.ishr X.here hx rfl (hb q hd) rfl r
theorem W.iushr {x z : Int32} (A : W l Z n0 y bytes maxl ret R G h pc Ls (.int z :: .int x :: St) C S) (hd : decode bytes pc = .ok (.iushr, 1)) (hp : pc + 1 = pc') : W l Z n0 y bytes maxl ret R G h pc' Ls (.int ((x.toUInt32 >>> (z &&& 31).toUInt32).toInt32) :: St) C S := by
  subst hp; exact A.step fun X hx _ _ q _ r => XS.iushr X.here hx rfl (hb q hd) rfl r
theorem W.lshl {x : Int64} {z : Int32} (A : W l Z n0 y bytes maxl ret R G h pc Ls (.int z :: .long x :: St) C S) (hd : decode bytes pc = .ok (.lshl, 1)) (hp : pc + 1 = pc') : W l Z n0 y bytes maxl ret R G h pc' Ls (.long (x <<< (z &&& 0x3f).toInt64) :: St) C S := by
  subst hp; exact A.step fun X hx _ _ q _ r => XS.lshl X.here hx rfl (hb q hd) rfl r
theorem W.lshr {x : Int64} {z : Int32} (A : W l Z n0 y bytes maxl ret R G h pc Ls (.int z :: .long x :: St) C S) (hd : decode bytes pc = .ok (.lshr, 1)) (hp : pc + 1 = pc') : W l Z n0 y bytes maxl ret R G h pc' Ls (.long (x >>> (z &&& 0x3f).toInt64) :: St) C S := by
  subst hp; exact A.step fun X hx _ _ q _ r => XS.lshr X.here hx rfl (hb q hd) rfl r
theorem W.lushr {x : Int64} {z : Int32} (A : W l Z n0 y bytes maxl ret R G h pc Ls (.int z :: .long x :: St) C S) (hd : decode bytes pc = .ok (.lushr, 1)) (hp : pc + 1 = pc') : W l Z n0 y bytes maxl ret R G h pc' Ls (.long ((x.toUInt64 >>> (z &&& 0x3f).toInt64.toUInt64).toInt64) :: St) C S := by
  subst hp; exact A.step fun X hx _ _ q _ r => XS.lushr X.here hx rfl (hb q hd) rfl r
theorem W.i2l {x : Int32} (A : W l Z n0 y bytes maxl ret R G h pc Ls (.int x :: St) C S) (hd : decode bytes pc = .ok (.i2l, 1)) (hp : pc + 1 = pc') : W l Z n0 y bytes maxl ret R G h pc' Ls (.long x.toInt64 :: St) C S := by
  subst hp; exact A.step fun X hx _ _ q _ r => XS.i2l X.here hx rfl (hb q hd) rfl r
theorem W.l2i {x : Int64} (A : W l Z n0 y bytes maxl ret R G h pc Ls (.long x :: St) C S) (hd : decode bytes pc = .ok (.l2i, 1)) (hp : pc + 1 = pc') : W l Z n0 y bytes maxl ret R G h pc' Ls (.int x.toInt32 :: St) C S := by
  subst hp; exact A.step fun X hx _ _ q _ r => XS.l2i X.here hx rfl (hb q hd) rfl r
theorem W.i2b {x : Int32} (A : W l Z n0 y bytes maxl ret R G h pc Ls (.int x :: St) C S) (hd : decode bytes pc = .ok (.i2b, 1)) (hp : pc + 1 = pc') : W l Z n0 y bytes maxl ret R G h pc' Ls (.int x.toInt8.toInt32 :: St) C S := by
  subst hp; exact A.step fun X hx _ _ q _ r => XS.i2b X.here hx rfl (hb q hd) rfl r
theorem W.i2s {x : Int32} (A : W l Z n0 y bytes maxl ret R G h pc Ls (.int x :: St) C S) (hd : decode bytes pc = .ok (.i2s, 1)) (hp : pc + 1 = pc') : W l Z n0 y bytes maxl ret R G h pc' Ls (.int x.toInt16.toInt32 :: St) C S := by
  subst hp; exact A.step fun X hx _ _ q _ r => XS.i2s X.here hx rfl (hb q hd) rfl r
theorem W.i2c {x : Int32} (A : W l Z n0 y bytes maxl ret R G h pc Ls (.int x :: St) C S) (hd : decode bytes pc = .ok (.i2c, 1)) (hp : pc + 1 = pc') : W l Z n0 y bytes maxl ret R G h pc' Ls (.int x.toUInt32.toUInt16.toUInt32.toInt32 :: St) C S := by
  subst hp; exact A.step fun X hx _ _ q _ r => XS.i2c X.here hx rfl (hb q hd) rfl r
theorem W.lcmp {x z : Int64} (A : W l Z n0 y bytes maxl ret R G h pc Ls (.long z :: .long x :: St) C S) (hd : decode bytes pc = .ok (.lcmp, 1)) (hp : pc + 1 = pc') : W l Z n0 y bytes maxl ret R G h pc' Ls (.int (lcmpW x z) :: St) C S := by
  subst hp; exact A.step fun X hx _ _ q _ r => XS.lcmp X.here hx rfl (hb q hd) rfl r
theorem W.idiv {x z : Int32} (A : W l Z n0 y bytes maxl ret R G h pc Ls (.int z :: .int x :: St) C S) (hd : decode bytes pc = .ok (.idiv, 1)) (hz : z ≠ 0) (hp : pc + 1 = pc') : W l Z n0 y bytes maxl ret R G h pc' Ls (.int (x / z) :: St) C S := by
  subst hp; exact A.step fun X hx _ _ q _ r => XS.idiv X.here hx rfl (hb q hd) rfl hz r
theorem W.irem {x z : Int32} (A : W l Z n0 y bytes maxl ret R G h pc Ls (.int z :: .int x :: St) C S) (hd : decode bytes pc = .ok (.irem, 1)) (hz : z ≠ 0) (hp : pc + 1 = pc') : W l Z n0 y bytes maxl ret R G h pc' Ls (.int (x % z) :: St) C S := by
  subst hp; exact A.step fun X hx _ _ q _ r => iremM (g := mkF _ _ _ _) X hx rfl (hb q hd) rfl hz r
theorem W.ldiv {x z : Int64} (A : W l Z n0 y bytes maxl ret R G h pc Ls (.long z :: .long x :: St) C S) (hd : decode bytes pc = .ok (.ldiv, 1)) (hz : z ≠ 0) (hp : pc + 1 = pc') : W l Z n0 y bytes maxl ret R G h pc' Ls (.long (x / z) :: St) C S := by
  subst hp; exact A.step fun X hx _ _ q _ r => XS.ldiv X.here hx rfl (hb q hd) rfl hz r
theorem W.lrem {x z : Int64} (A : W l Z n0 y bytes maxl ret R G h pc Ls (.long z :: .long x :: St) C S) (hd : decode bytes pc = .ok (.lrem, 1)) (hz : z ≠ 0) (hp : pc + 1 = pc') : W l Z n0 y bytes maxl ret R G h pc' Ls (.long (x % z) :: St) C S := by
  subst hp; exact A.step fun X hx _ _ q _ r => XS.lrem X.here hx rfl (hb q hd) rfl hz (by rw [lrem_mod]; exact r)
theorem W.dup {v : Value} (A : W l Z n0 y bytes maxl ret R G h pc Ls (v :: St) C S) (hd : decode bytes pc = .ok (.dup, 1)) (hc : v.category = 1) (hp : pc + 1 = pc') : W l Z n0 y bytes maxl ret R G h pc' Ls (v :: v :: St) C S := by
  subst hp; exact A.step fun X hx _ _ q _ r => XS.dup X.here hx rfl (hb q hd) rfl hc r
theorem W.pop {v : Value} (A : W l Z n0 y bytes maxl ret R G h pc Ls (v :: St) C S) (hd : decode bytes pc = .ok (.pop, 1)) (hc : v.category = 1) (hp : pc + 1 = pc') : W l Z n0 y bytes maxl ret R G h pc' Ls St C S := by
  subst hp; exact A.step fun X hx _ _ q _ r => XS.pop X.here hx rfl (hb q hd) rfl hc r
theorem W.dupX1 {v w : Value} (A : W l Z n0 y bytes maxl ret R G h pc Ls (v :: w :: St) C S) (hd : decode bytes pc = .ok (.dup_x1, 1)) (hc : v.category = 1) (hc' : w.category = 1) (hp : pc + 1 = pc') : W l Z n0 y bytes maxl ret R G h pc' Ls (v :: w :: v :: St) C S := by
  subst hp; exact A.step fun X hx _ _ q _ r => XS.dupX1 X.here hx rfl (hb q hd) rfl hc hc' r
theorem W.dup2 {v w : Value} (A : W l Z n0 y bytes maxl ret R G h pc Ls (v :: w :: St) C S) (hd : decode bytes pc = .ok (.dup2, 1)) (hc : v.category = 1) (hc' : w.category = 1) (hp : pc + 1 = pc') : W l Z n0 y bytes maxl ret R G h pc' Ls (v :: w :: v :: w :: St) C S := by
  subst hp; exact A.step fun X hx _ _ q _ r => XT.dup2 X.here hx rfl (hb q hd) rfl hc hc' r
theorem W.dup2L {x : Int64} (A : W l Z n0 y bytes maxl ret R G h pc Ls (.long x :: St) C S) (hd : decode bytes pc = .ok (.dup2, 1)) (hp : pc + 1 = pc') : W l Z n0 y bytes maxl ret R G h pc' Ls (.long x :: .long x :: St) C S := by
  subst hp; exact A.step fun X hx _ _ q _ r => XT.dup2L X.here hx rfl (hb q hd) rfl r
theorem W.goto (A : W l Z n0 y bytes maxl ret R G h pc Ls St C S) {o : Int} (hd : decode bytes pc = .ok (.goto o, 3)) (ho : 0 ≤ (pc : Int) + o) (hp : ((pc : Int) + o).toNat = pc') : W l Z n0 y bytes maxl ret R G h pc' Ls St C S :=
  A.step fun X hx _ _ q _ r => XS.goto X.here hx rfl rfl (hb q hd) ho hp r
theorem W.ifYes {x : Int32} (A : W l Z n0 y bytes maxl ret R G h pc Ls (.int x :: St) C S) {cd : ClassFile.Cond} {o : Int} (hd : decode bytes pc = .ok (.ifCond cd o, 3)) (hc : if_icmp.holds cd x 0 = true) (ho : 0 ≤ (pc : Int) + o) (hp : ((pc : Int) + o).toNat = pc') : W l Z n0 y bytes maxl ret R G h pc' Ls St C S :=
  A.step fun X hx _ _ q _ r => XS.ifYes X.here hx rfl rfl (hb q hd) rfl ((if0 _ _).trans hc) ho hp r
theorem W.ifNo {x : Int32} (A : W l Z n0 y bytes maxl ret R G h pc Ls (.int x :: St) C S) {cd : ClassFile.Cond} {o : Int} (hd : decode bytes pc = .ok (.ifCond cd o, 3)) (hc : if_icmp.holds cd x 0 = false) (hp : pc + 3 = pc') : W l Z n0 y bytes maxl ret R G h pc' Ls St C S := by
  subst hp; exact A.step fun X hx _ _ q _ r => XS.ifNo X.here hx rfl (hb q hd) rfl ((if0 _ _).trans hc) r
theorem W.icmpYes {x z : Int32} (A : W l Z n0 y bytes maxl ret R G h pc Ls (.int z :: .int x :: St) C S) {cd : ClassFile.Cond} {o : Int} (hd : decode bytes pc = .ok (.if_icmp cd o, 3)) (hc : if_icmp.holds cd x z = true) (ho : 0 ≤ (pc : Int) + o) (hp : ((pc : Int) + o).toNat = pc') : W l Z n0 y bytes maxl ret R G h pc' Ls St C S :=
  A.step fun X hx _ _ q _ r => XS.icmpYes X.here hx rfl rfl (hb q hd) rfl hc ho hp r
theorem W.icmpNo {x z : Int32} (A : W l Z n0 y bytes maxl ret R G h pc Ls (.int z :: .int x :: St) C S) {cd : ClassFile.Cond} {o : Int} (hd : decode bytes pc = .ok (.if_icmp cd o, 3)) (hc : if_icmp.holds cd x z = false) (hp : pc + 3 = pc') : W l Z n0 y bytes maxl ret R G h pc' Ls St C S := by
  subst hp; exact A.step fun X hx _ _ q _ r => XS.icmpNo X.here hx rfl (hb q hd) rfl hc r
theorem W.ifnullYes (A : W l Z n0 y bytes maxl ret R G h pc Ls (.null :: St) C S) {o : Int} (hd : decode bytes pc = .ok (.ifnull o, 3)) (ho : 0 ≤ (pc : Int) + o) (hp : ((pc : Int) + o).toNat = pc') : W l Z n0 y bytes maxl ret R G h pc' Ls St C S :=
  A.step fun X hx _ _ q _ r => XS.ifnullYes X.here hx rfl rfl (hb q hd) rfl ho hp r
theorem W.ifnullNo {a : Addr} (A : W l Z n0 y bytes maxl ret R G h pc Ls (.ref a :: St) C S) {o : Int} (hd : decode bytes pc = .ok (.ifnull o, 3)) (hp : pc + 3 = pc') : W l Z n0 y bytes maxl ret R G h pc' Ls St C S := by
  subst hp; exact A.step fun X hx _ _ q _ r => XS.ifnullNo X.here hx rfl (hb q hd) rfl r
theorem W.ifnonnullNo (A : W l Z n0 y bytes maxl ret R G h pc Ls (.null :: St) C S) {o : Int} (hd : decode bytes pc = .ok (.ifnonnull o, 3)) (hp : pc + 3 = pc') : W l Z n0 y bytes maxl ret R G h pc' Ls St C S := by
  subst hp; exact A.step fun X hx _ _ q _ r => XS.ifnonnullNo X.here hx rfl (hb q hd) rfl r
theorem W.ifnonnullYes {a : Addr} (A : W l Z n0 y bytes maxl ret R G h pc Ls (.ref a :: St) C S) {o : Int} (hd : decode bytes pc = .ok (.ifnonnull o, 3)) (ho : 0 ≤ (pc : Int) + o) (hp : ((pc : Int) + o).toNat = pc') : W l Z n0 y bytes maxl ret R G h pc' Ls St C S :=
  A.step fun X hx _ _ q _ r => XS.ifnonnullYes X.here hx rfl rfl (hb q hd) rfl ho hp r
/-! C. the returns -/
theorem W.fin {v : Option Value} (A : W l Z n0 y bytes maxl ret R G h pc Ls St C S) (hC : C ≤ R.cells) (hS : S ≤ R.slots) (hv : ret = none → v = none) (hQ : Q v h)
    (f : ∀ {p : Program} {e : Env} {s : State} {m : MethodId} {args : Array Value} {below : List Frame} {meth : Method} {c : Code} {T : State} {locs : List Loc} {fs : List Frame}, Stand p l e R s m args below meth c T locs C S → p.tables.exec = Jvm.exec → c.code = bytes → meth.sig.returnType = ret → (∀ (f : JFrame) (acts : List Action), f.method = m → f.locked = none → f.entered = [] → (doReturn e (T.setTop f) acts v).1 = T.setFrames fs) → Steps p.tables e below (T.setTop (mkF m pc Ls St)) (T.setFrames fs)) : Gl R n0 G Q := by
  obtain ⟨p, e, s, m, args, below, meth, c, st⟩ := G
  obtain ⟨hx, hZ, hby, hml, hown, hnm, hrt, hlk, hn0, T, locs, X, N, eT, k⟩ := A
  obtain ⟨fs, hr, hrun, hended, hW, hsame⟩ := X.leave (v := v) (fun q => hv (hrt.symm.trans q)) hlk
  show ∃ s₂ o, _
  refine ⟨_, _, k _ (f X hx hby hrt hr), hrun, hended, v, locs, rfl, ⟨N, ?_⟩, ⟨_, rfl⟩, hW, hsame.mono hC hS⟩
  show Q v T.heap
  rw [eT]; exact hQ
theorem W.retI {z : Int32} (A : W l Z n0 y bytes maxl (some .int) R G h pc Ls (.int z :: St) C S) (hd : decode bytes pc = .ok (.ireturn, 1)) (hC : C ≤ R.cells) (hS : S ≤ R.slots) (hQ : Q (some (.int z)) h) : Gl R n0 G Q :=
  A.fin hC hS (fun q => nomatch q) hQ fun X hx q hret hr => retOut X hx hret (t := .int) rfl (Or.inl ⟨rfl, Or.inl rfl, z, rfl⟩) (hb q hd) hr
theorem W.retN {z z' : Int32} {t : FieldType} (A : W l Z n0 y bytes maxl (some t) R G h pc Ls (.int z :: St) C S) (hd : decode bytes pc = .ok (.ireturn, 1)) (hC : C ≤ R.cells) (hS : S ≤ R.slots) (ht : t = .boolean ∨ t = .byte ∨ t = .char ∨ t = .short) (hz : nar t z = z') (hQ : Q (some (.int z')) h) : Gl R n0 G Q := by
  subst hz; exact A.fin hC hS (fun q => nomatch q) hQ fun X hx q hret hr => RoadKit.retN X hx hret ht (hb q hd) hr
theorem W.retJ {z : Int64} (A : W l Z n0 y bytes maxl (some .long) R G h pc Ls (.long z :: St) C S) (hd : decode bytes pc = .ok (.lreturn, 1)) (hC : C ≤ R.cells) (hS : S ≤ R.slots) (hQ : Q (some (.long z)) h) : Gl R n0 G Q :=
  A.fin hC hS (fun q => nomatch q) hQ fun X hx q hret hr => retOut X hx hret (t := .long) rfl (Or.inr (Or.inl ⟨rfl, rfl, z, rfl⟩)) (hb q hd) hr
theorem W.retA {v : Value} {t : FieldType} (A : W l Z n0 y bytes maxl (some t) R G h pc Ls (v :: St) C S) (hd : decode bytes pc = .ok (.areturn, 1)) (hC : C ≤ R.cells) (hS : S ≤ R.slots) (ht : t.isReference = true) (hv : v.isRef = true) (hn : narrow t v = v) (hQ : Q (some v) h) : Gl R n0 G Q :=
  A.fin hC hS (fun q => nomatch q) hQ fun X hx q hret hr => retOut X hx hret (t := t) hn (Or.inr (Or.inr (Or.inr (Or.inr ⟨rfl, ht, hv⟩)))) (hb q hd) hr
theorem W.retV (A : W l Z n0 y bytes maxl none R G h pc Ls [] C S) (hd : decode bytes pc = .ok (.return_, 1)) (hC : C ≤ R.cells) (hS : S ≤ R.slots) (hQ : Q none h) : Gl R n0 G Q :=
  A.fin hC hS (fun _ => rfl) hQ fun X hx q hret hr => X.returnOut hx hret (hb q hd) hr
/-! D. calls -/
theorem W.callS (A : W l Z n0 y bytes maxl ret R G h pc Ls St C S) {y' : MethodName} {bytes' : ByteArray} {maxl' : Nat} {ret' : Option FieldType} {R' : Room} {as : Array Value} {idx : Nat} {argsL rest : List Value} {ps : List FieldType} {rr : Option FieldType} (hd : decode bytes pc = .ok (.invokestatic idx, 3))
    (w1 : (Jvm.Cond.methodLink y.cls idx y').before a0 Z = true) (w2 : (Jvm.Cond.static y').before a0 Z = true) (w3 : (Jvm.Cond.initialized y'.cls).before a0 Z = true) (w4 : (Jvm.Cond.code y' bytes' maxl' ret').before a0 Z = true) (hM : Ctr l Z n0 y' bytes' maxl' ret' [] R' as h Q) (has : argsL.toArray = as) (hs : St = argsL.reverse ++ rest)
    (hpd : parseMethodDescriptor y'.desc = some ⟨ps, rr⟩) (hlen : argsL.length = ps.length) (hsz : Ls.size = maxl) (hy : y'.cls ≠ "java/lang/invoke/MethodHandle" ∧ y'.cls ≠ "java/lang/invoke/VarHandle") (hf : R'.frames + 1 ≤ R.frames) (hlo : (rest.map fun v => v.category).sum + (maxl' + 11) + R'.locals ≤ R.locals) (hC : C + R'.cells ≤ R.cells) (hS : S + R'.slots ≤ R.slots) (hC' : C + R'.cells = C') (hS' : S + R'.slots = S') (hp : pc + 3 = pc') :
    ∃ v h', Q v h' ∧ W l Z n0 y bytes maxl ret R G h' pc' Ls (v.toList ++ rest) C' S' := by
  subst hp hC' hS' has
  obtain ⟨p, e, s, m, args, below, meth, c, st⟩ := G
  obtain ⟨hx, hZ, hby, hml, hown, hnm, hrt, hlk, hn0, T, locs, X, N, eT, k⟩ := A
  obtain ⟨v, _, ⟨T', L', k', n'⟩, -, X', ⟨Lc, hQ, l1, y1, z1⟩, st'⟩ := Jvm.LawKit.callS X hx (y := y') hown (mvT hZ w1) (mvT hZ w2) (mvT hZ w3) (mvT hZ w4) hy (backOf (Q := fun v h L => Fr n0 L ∧ Q v h) (W := (rest.map fun v => v.category).sum) hM hZ w4 w3 hf hlo) (g := mkF m pc Ls St) rfl (by rw [hml]; exact hsz) (argsL := argsL) (rest := rest) (lenOf hpd hlen) hs (by show 2 * 0 + _ ≤ _; omega) (hb hby hd) (fun _ _ => ⟨rfl, eT, hC, hS⟩)
  dsimp only [Pt.U, Pt.locs, Pt.cells, Pt.slots] at X' l1 y1 z1 st' hQ
  subst l1 y1 z1
  exact ⟨v, T'.heap, hQ.2, W.mk hx hZ hby hml hown hnm hrt hlk hn0 X' (N.app hQ.1) rfl (fun t q => k t (st' t q))⟩
theorem W.callI (A : W l Z n0 y bytes maxl ret R G h pc Ls St C S) {a : Addr} {y' : MethodName} {bytes' : ByteArray} {maxl' : Nat} {R' : Room} {as : Array Value} {idx : Nat} {argsL rest : List Value} {ps : List FieldType} {rr : Option FieldType} (hd : decode bytes pc = .ok (.invokespecial idx, 3)) (hy1 : y'.name = "<init>")
    (w1 : (Jvm.Cond.methodLink y.cls idx y').before a0 Z = true) (w2 : (Jvm.Cond.instanceMethod y').before a0 Z = true) (w3 : (Jvm.Cond.initialized y'.cls).before a0 Z = true) (w4 : (Jvm.Cond.code y' bytes' maxl' none).before a0 Z = true) (hM : Ctr l Z n0 y' bytes' maxl' none [] R' as h Q) (has : (.ref a :: argsL).toArray = as) (hs : St = argsL.reverse ++ .ref a :: rest)
    (hpd : parseMethodDescriptor y'.desc = some ⟨ps, rr⟩) (hlen : argsL.length = ps.length) (hsz : Ls.size = maxl) (hy : y'.cls ≠ "java/lang/invoke/MethodHandle" ∧ y'.cls ≠ "java/lang/invoke/VarHandle") (hf : R'.frames + 1 ≤ R.frames) (hlo : (rest.map fun v => v.category).sum + (maxl' + 11) + R'.locals ≤ R.locals) (hC : C + R'.cells ≤ R.cells) (hS : S + R'.slots ≤ R.slots) (hC' : C + R'.cells = C') (hS' : S + R'.slots = S') (hp : pc + 3 = pc') :
    ∃ v h', Q v h' ∧ W l Z n0 y bytes maxl ret R G h' pc' Ls (v.toList ++ rest) C' S' := by
  subst hp hC' hS' has
  obtain ⟨p, e, s, m, args, below, meth, c, st⟩ := G
  obtain ⟨hx, hZ, hby, hml, hown, hnm, hrt, hlk, hn0, T, locs, X, N, eT, k⟩ := A
  obtain ⟨v, _, ⟨T', L', k', n'⟩, -, X', ⟨Lc, hQ, l1, y1, z1⟩, st'⟩ := X.specialBack hx (y := y') hy1 hown (mvT hZ w1) (mvT hZ w2) (mvT hZ w4) hy (backOf (Q := fun v h L => Fr n0 L ∧ Q v h) (W := (rest.map fun v => v.category).sum) hM hZ w4 w3 hf hlo) (g := mkF m pc Ls St) rfl (by rw [hml]; exact hsz) (Steps.refl _) (a := a) (argsL := argsL) (rest := rest) (lenOf hpd hlen) hs (by show 2 * 0 + _ ≤ _; omega) (hb hby hd) (fun _ _ => ⟨rfl, eT, hC, hS⟩)
  dsimp only [Pt.U, Pt.locs, Pt.cells, Pt.slots] at X' l1 y1 z1 st' hQ
  subst l1 y1 z1
  exact ⟨v, T'.heap, hQ.2, W.mk hx hZ hby hml hown hnm hrt hlk hn0 X' (N.app hQ.1) rfl (fun t q => k t (st'.trans q))⟩
theorem W.callV (A : W l Z n0 y bytes maxl ret R G h pc Ls St C S) {a : Addr} {K : String} {y' z' : MethodName} {bytes' : ByteArray} {maxl' : Nat} {ret' : Option FieldType} {R' : Room} {as : Array Value} {idx : Nat} {argsL rest : List Value} {ps : List FieldType} {rr : Option FieldType} (hd : decode bytes pc = .ok (.invokevirtual idx, 3)) (E : Exa Z h a K)
    (w1 : (Jvm.Cond.methodLink y.cls idx y').before a0 Z = true) (wd : (Jvm.Cond.declares y').before a0 Z = true) (hnf : ∀ {s : State}, Z.Warmed39 s.vm → NotFace s y') (ws : (Jvm.Cond.selects K y' z').before a0 Z = true) (w2 : (Jvm.Cond.instanceMethod z').before a0 Z = true) (w3 : (Jvm.Cond.initialized z'.cls).before a0 Z = true) (w4 : (Jvm.Cond.code z' bytes' maxl' ret').before a0 Z = true) (hM : Ctr l Z n0 z' bytes' maxl' ret' [] R' as h Q) (has : (.ref a :: argsL).toArray = as) (hs : St = argsL.reverse ++ .ref a :: rest)
    (hpd : parseMethodDescriptor y'.desc = some ⟨ps, rr⟩) (hlen : argsL.length = ps.length) (hsz : Ls.size = maxl) (hy : y'.cls ≠ "java/lang/invoke/MethodHandle" ∧ y'.cls ≠ "java/lang/invoke/VarHandle") (hf : R'.frames + 1 ≤ R.frames) (hlo : (rest.map fun v => v.category).sum + (maxl' + 11) + R'.locals ≤ R.locals) (hC : C + R'.cells ≤ R.cells) (hS : S + R'.slots ≤ R.slots) (hC' : C + R'.cells = C') (hS' : S + R'.slots = S') (hp : pc + 3 = pc') :
    ∃ v h', Q v h' ∧ W l Z n0 y bytes maxl ret R G h' pc' Ls (v.toList ++ rest) C' S' := by
  subst hp hC' hS' has
  obtain ⟨p, e, s, m, args, below, meth, c, st⟩ := G
  obtain ⟨hx, hZ, hby, hml, hown, hnm, hrt, hlk, hn0, T, locs, X, N, eT, k⟩ := A
  obtain ⟨cq, kq, qa, qb, qc⟩ := isOf hZ eT E
  obtain ⟨v, _, ⟨T', L', k', n'⟩, -, X', ⟨Lc, hQ, l1, y1, z1⟩, st'⟩ := X.virtualBack hx (y := y') (z := z') hown (mvT hZ w1) (mvT hZ wd) (hnf hZ) (mvT hZ ws) (mvT hZ w2) hy (backOf (Q := fun v h L => Fr n0 L ∧ Q v h) (W := (rest.map fun v => v.category).sum) hM hZ w4 w3 hf hlo) qa qc (g := mkF m pc Ls St) rfl (by rw [hml]; exact hsz) (Steps.refl _) (argsL := argsL) (rest := rest) (lenOf hpd hlen) hs (by show 2 * 0 + _ ≤ _; omega) (hb hby hd) (fun _ _ => ⟨rfl, eT, hC, hS⟩)
  dsimp only [Pt.U, Pt.locs, Pt.cells, Pt.slots] at X' l1 y1 z1 st' hQ
  subst l1 y1 z1
  exact ⟨v, T'.heap, hQ.2, W.mk hx hZ hby hml hown hnm hrt hlk hn0 X' (N.app hQ.1) rfl (fun t q => k t (st'.trans q))⟩
theorem W.kI {P : Int32 → Heap → Prop} {rest : List Value} (q : ∃ v h', QI P v h' ∧ W l Z n0 y bytes maxl ret R G h' pc Ls (v.toList ++ rest) C S) : ∃ r h', P r h' ∧ W l Z n0 y bytes maxl ret R G h' pc Ls (.int r :: rest) C S := by
  obtain ⟨v, h', ⟨r, rfl, hP⟩, A⟩ := q; exact ⟨r, h', hP, A⟩
theorem W.kJ {P : Int64 → Heap → Prop} {rest : List Value} (q : ∃ v h', QJ P v h' ∧ W l Z n0 y bytes maxl ret R G h' pc Ls (v.toList ++ rest) C S) : ∃ r h', P r h' ∧ W l Z n0 y bytes maxl ret R G h' pc Ls (.long r :: rest) C S := by
  obtain ⟨v, h', ⟨r, rfl, hP⟩, A⟩ := q; exact ⟨r, h', hP, A⟩
theorem W.kA {P : Addr → Heap → Prop} {rest : List Value} (q : ∃ v h', QA P v h' ∧ W l Z n0 y bytes maxl ret R G h' pc Ls (v.toList ++ rest) C S) : ∃ r h', P r h' ∧ W l Z n0 y bytes maxl ret R G h' pc Ls (.ref r :: rest) C S := by
  obtain ⟨v, h', ⟨r, rfl, hP⟩, A⟩ := q; exact ⟨r, h', hP, A⟩
theorem W.kV {P : Heap → Prop} {rest : List Value} (q : ∃ v h', QV P v h' ∧ W l Z n0 y bytes maxl ret R G h' pc Ls (v.toList ++ rest) C S) : ∃ h', P h' ∧ W l Z n0 y bytes maxl ret R G h' pc Ls rest C S := by
  obtain ⟨v, h', ⟨rfl, hP⟩, A⟩ := q; exact ⟨h', hP, A⟩
end Walk
end Jvm.Pilot.@@N@@
namespace Jvm.Pilot.@@N@@
open Jvm Jvm.ClassFile Sem Op Lib Jvm.Free Jvm.Stand Jvm.LawKit Jvm.RoadKit Bundle
/-! numbers -/
theorem rng32 (x : Int32) : -2147483648 ≤ x.toInt ∧ x.toInt < 2147483648 := ⟨x.le_toInt, x.toInt_lt⟩
theorem rng64 (x : Int64) : -9223372036854775808 ≤ x.toInt ∧ x.toInt < 9223372036854775808 := ⟨x.le_toInt, x.toInt_lt⟩
theorem add32 (x y : Int32) (h1 : -2147483648 ≤ x.toInt + y.toInt) (h2 : x.toInt + y.toInt < 2147483648) : (x + y).toInt = x.toInt + y.toInt := by
  have e := c_iadd x y; have r := rng32 (x + y); omega
theorem sub32 (x y : Int32) (h1 : -2147483648 ≤ x.toInt - y.toInt) (h2 : x.toInt - y.toInt < 2147483648) : (x - y).toInt = x.toInt - y.toInt := by
  have e := c_isub x y; have r := rng32 (x - y); omega
theorem mul32 (x y : Int32) (h1 : -2147483648 ≤ x.toInt * y.toInt) (h2 : x.toInt * y.toInt < 2147483648) : (x * y).toInt = x.toInt * y.toInt := by
  have e := c_imul x y; have r := rng32 (x * y); generalize x.toInt * y.toInt = z at *; omega
theorem add64 (x y : Int64) (h1 : -9223372036854775808 ≤ x.toInt + y.toInt) (h2 : x.toInt + y.toInt < 9223372036854775808) : (x + y).toInt = x.toInt + y.toInt := by
  have e := c_ladd x y; have r := rng64 (x + y); omega
theorem sub64 (x y : Int64) (h1 : -9223372036854775808 ≤ x.toInt - y.toInt) (h2 : x.toInt - y.toInt < 9223372036854775808) : (x - y).toInt = x.toInt - y.toInt := by
  have e := c_lsub x y; have r := rng64 (x - y); omega
theorem mul64 (x y : Int64) (h1 : -9223372036854775808 ≤ x.toInt * y.toInt) (h2 : x.toInt * y.toInt < 9223372036854775808) : (x * y).toInt = x.toInt * y.toInt := by
  have e := c_lmul x y; have r := rng64 (x * y); generalize x.toInt * y.toInt = z at *; omega
theorem mulc32 (x c : Int32) (k : Int) (hc : c.toInt = k) (h1 : -2147483648 ≤ x.toInt * k) (h2 : x.toInt * k < 2147483648) : (x * c).toInt = x.toInt * k := by
  subst hc; exact mul32 x c h1 h2
theorem mulc64 (x c : Int64) (k : Int) (hc : c.toInt = k) (h1 : -9223372036854775808 ≤ x.toInt * k) (h2 : x.toInt * k < 9223372036854775808) : (x * c).toInt = x.toInt * k := by
  subst hc; exact mul64 x c h1 h2
theorem addc32 (x c : Int32) (k : Int) (hc : c.toInt = k) (h1 : -2147483648 ≤ x.toInt + k) (h2 : x.toInt + k < 2147483648) : (x + c).toInt = x.toInt + k := by
  subst hc; exact add32 x c h1 h2
theorem subc32 (x c : Int32) (k : Int) (hc : c.toInt = k) (h1 : -2147483648 ≤ x.toInt - k) (h2 : x.toInt - k < 2147483648) : (x - c).toInt = x.toInt - k := by
  subst hc; exact sub32 x c h1 h2
theorem sta_int {args : Array Value} {s : State} {C n d : String} {v : Int32} (h : (Jvm.Cond.eq (Jvm.Term.static C n d) (Jvm.Term.int v)).value args s none s [] = some true) : (Jvm.Term.static C n d).eval args s none [] s = some (.int v) := by
  obtain ⟨a, b, h1, h2, -, -⟩ := cmp_v (Or.inl h)
  cases Option.some.inj (h2.symm.trans (rfl : (Jvm.Term.int v).eval args s none [] s = some (.int v)))
  rw [h1]; cases a <;> simp [Cond.value, h1, h2] at h ⊢; exact h
theorem sta_long {args : Array Value} {s : State} {C n d : String} {v : Int64} (h : (Jvm.Cond.eq (Jvm.Term.static C n d) (Jvm.Term.long v)).value args s none s [] = some true) : (Jvm.Term.static C n d).eval args s none [] s = some (.long v) := by
  obtain ⟨a, b, h1, h2, -, -⟩ := cmp_v (Or.inl h)
  cases Option.some.inj (h2.symm.trans (rfl : (Jvm.Term.long v).eval args s none [] s = some (.long v)))
  rw [h1]; cases a <;> simp [Cond.value, h1, h2] at h ⊢; exact h
/-- (y & 0x7fffffff) % m -/
theorem pmod32 (x m : Int32) (M : Int) (hm : m.toInt = M) (hM : 0 < M) : ((x &&& (2147483647 : Int32)) % m).toInt = (x.toInt % 2147483648) % M ∧ 0 ≤ ((x &&& (2147483647 : Int32)) % m).toInt ∧ ((x &&& (2147483647 : Int32)) % m).toInt < M := by
  have e : (x &&& (2147483647 : Int32)).toInt = x.toInt % 2147483648 := c_mask x 2147483647 31 (by decide) (by decide)
  have q := (c_irem (x &&& (2147483647 : Int32)) m M hm).1 (by omega)
  have := Int.emod_nonneg (x.toInt % 2147483648) (show M ≠ 0 by omega)
  have := Int.emod_lt_of_pos (x.toInt % 2147483648) hM
  rw [q, e]; omega
/-- (x & Long.MAX_VALUE) % m -/
theorem pmod64 (x m : Int64) (M : Int) (hm : m.toInt = M) (hM : 0 < M) : 0 ≤ ((x &&& (9223372036854775807 : Int64)) % m).toInt ∧ ((x &&& (9223372036854775807 : Int64)) % m).toInt < M := by
  have e : (x &&& (9223372036854775807 : Int64)).toInt = x.toInt % 9223372036854775808 := c_maskL x 9223372036854775807 63 (by decide) (by decide)
  have q := (c_lrem (x &&& (9223372036854775807 : Int64)) m M hm).1 (by omega)
  rw [lrem_mod] at q
  have := Int.emod_nonneg (x.toInt % 9223372036854775808) (show M ≠ 0 by omega)
  have := Int.emod_lt_of_pos (x.toInt % 9223372036854775808) hM
  rw [q, e]; omega
end Jvm.Pilot.@@N@@
namespace Jvm.Pilot.@@N@@
open Jvm Jvm.ClassFile Sem Op Lib Jvm.Free Jvm.Stand Jvm.LawKit Jvm.RoadKit Bundle Jvm.Pilot.@@N@@.Jvm.D
section Heaps
variable {l : Launch} {Z : State} {n0 : Nat} {y : MethodName} {bytes : ByteArray} {maxl : Nat} {ret : Option FieldType} {R : Room} {G : Cx} {h h' : Heap} {pc pc' : Nat} {Ls : Array Slot} {St : List Value} {C S C' S' : Nat} {Q : Option Value → Heap → Prop} {a0 : Array Value} {a b : Addr}
/-- a step that moves the state and keeps the heap -/
theorem W.stepT (A : W l Z n0 y bytes maxl ret R G h pc Ls St C S) {Ls' : Array Slot} {St' : List Value}
    (f : ∀ {p : Program} {e : Env} {s : State} {m : MethodId} {args : Array Value} {below : List Frame} {meth : Method} {c : Code} {T : State} {locs : List Loc}, Stand p l e R s m args below meth c T locs C S → p.tables.exec = Jvm.exec → Z.Warmed39 s.vm → s.vm.findClass y.cls = some m.cls → c.code = bytes → c.maxLocals = maxl → T.heap = h →
      ∃ T', Stand p l e R s m args below meth c T' locs C S ∧ T'.heap = h ∧ ∀ t, Steps p.tables e below (T'.setTop (mkF m pc' Ls' St')) t → Steps p.tables e below (T.setTop (mkF m pc Ls St)) t) : W l Z n0 y bytes maxl ret R G h pc' Ls' St' C S := by
  obtain ⟨p, e, s, m, args, below, meth, c, st⟩ := G
  obtain ⟨hx, hZ, hby, hml, hown, hnm, hrt, hlk, hn0, T, locs, X, N, eT, k⟩ := A
  obtain ⟨T', X', e', st'⟩ := f X hx hZ hown hby hml eT
  exact W.mk hx hZ hby hml hown hnm hrt hlk hn0 X' N e' (fun t q => k t (st' t q))
theorem W.getF (A : W l Z n0 y bytes maxl ret R G h pc Ls (.ref a :: St) C S) {index : Nat} {R0 O n d host : String} {v : Value} (hd : decode bytes pc = .ok (.getfield index, 3)) (w : (Jvm.Cond.fieldLink y.cls index R0 n d).before a0 Z = true ∨ (Jvm.Cond.fieldLinkNest y.cls index R0 n d host).before a0 Z = true) (via : Via Z R0 O n d) (F : Fld Z h a O n d v) (hp : pc + 3 = pc') : W l Z n0 y bytes maxl ret R G h pc' Ls (v :: St) C S := by
  subst hp; exact A.stepT fun X hx hZ hown q _ eT => RoadKit.getF X hx hZ hown w via eT F (g := mkF _ _ _ _) rfl rfl (hb q hd)
theorem W.getS (A : W l Z n0 y bytes maxl ret R G h pc Ls St C S) {index : Nat} {R0 O n d host : String} {v : Value} (hd : decode bytes pc = .ok (.getstatic index, 3)) (w : (Jvm.Cond.fieldLink y.cls index R0 n d).before a0 Z = true ∨ (Jvm.Cond.fieldLinkNest y.cls index R0 n d host).before a0 Z = true) (via : Via Z R0 O n d) (F : Sta Z h O n d v) (hp : pc + 3 = pc') : W l Z n0 y bytes maxl ret R G h pc' Ls (v :: St) C S := by
  subst hp; exact A.stepT fun X hx hZ hown q _ eT => getS2 X hx hZ hown w via eT F (g := mkF _ _ _ _) rfl (hb q hd)
theorem W.initO (A : W l Z n0 y bytes maxl ret R G h pc Ls (.ref a :: St) C S) {idx : Nat} (hd : decode bytes pc = .ok (.invokespecial idx, 3)) (w1 : (Jvm.Cond.methodLink y.cls idx Lib.objectInit).before a0 Z = true) (w2 : (Jvm.Cond.instanceMethod Lib.objectInit).before a0 Z = true) (w3 : (Jvm.Cond.code Lib.objectInit ⟨#[0xb1]⟩ 1 none).before a0 Z = true) (hsz : Ls.size = maxl) (hf : 1 ≤ R.frames) (hlo : (St.map fun v => v.category).sum + 12 ≤ R.locals) (hp : pc + 3 = pc') : W l Z n0 y bytes maxl ret R G h pc' Ls St C S := by
  subst hp; exact A.stepT fun X hx hZ hown q hml eT => RoadKit.initO X hx hZ hown w1 w2 w3 eT (g := mkF _ _ _ _) rfl (by rw [hml]; exact hsz) rfl (hb q hd) hf (W := (St.map fun v => v.category).sum) (by show 2 * 0 + _ ≤ _; omega) hlo
theorem W.cast0 (A : W l Z n0 y bytes maxl ret R G h pc Ls (.ref a :: St) C S) {index : Nat} {K : String} (hd : decode bytes pc = .ok (.checkcast index, 3)) (w : (Jvm.Cond.classLink y.cls index K).before a0 Z = true) (F : Ins Z h a K true) (hp : pc + 3 = pc') : W l Z n0 y bytes maxl ret R G h pc' Ls (.ref a :: St) C S := by
  subst hp; exact A.stepT fun X hx hZ hown q _ eT => castY X hx hZ hown w eT F (g := mkF _ _ _ _) rfl rfl (hb q hd)
theorem W.inst1 (A : W l Z n0 y bytes maxl ret R G h pc Ls (.ref a :: St) C S) {index : Nat} {K : String} (hd : decode bytes pc = .ok (.instanceof index, 3)) (w : (Jvm.Cond.classLink y.cls index K).before a0 Z = true) (F : Ins Z h a K true) (hp : pc + 3 = pc') : W l Z n0 y bytes maxl ret R G h pc' Ls (.int 1 :: St) C S := by
  subst hp; exact A.stepT fun X hx hZ hown q _ eT => instY X hx hZ hown w eT F (g := mkF _ _ _ _) rfl rfl (hb q hd)
theorem W.putF {v : Value} (A : W l Z n0 y bytes maxl ret R G h pc Ls (v :: .ref a :: St) C S) {index kk : Nat} {R0 O n d host K : String} {ty : FieldType} {old : Value} (hd : decode bytes pc = .ok (.putfield index, 3)) (w : (Jvm.Cond.fieldLink y.cls index R0 n d).before a0 Z = true ∨ (Jvm.Cond.fieldLinkNest y.cls index R0 n d host).before a0 Z = true) (via : Via Z R0 O n d)
    (F : Fld Z h a O n d old) (E : Exa Z h a K) (Lw : (Jvm.Cond.lays K O n d).before a0 Z = true ∨ ((Jvm.Cond.laysFinal K O n d).before a0 Z = true ∧ y.cls = O ∧ y.name = "<init>")) (wi : (Jvm.Cond.instantiable K kk).before a0 Z = true) (hty : parseFieldDescriptor d = some ty) (hn : narrow ty v = v) (hf : fits ty v = true) (ga : n0 ≤ a) (hp : pc + 3 = pc') :
    ∃ h', Wr h h' a (Jvm.RoadKit.slotOf Z O n d) v ∧ W l Z n0 y bytes maxl ret R G h' pc' Ls St C S := by
  subst hp
  obtain ⟨p, e, s, m, args, below, meth, c, st⟩ := G
  obtain ⟨hx, hZ, hby, hml, hown, hnm, hrt, hlk, hn0, T, locs, X, N, eT, k⟩ := A
  obtain ⟨T', h', X', e', W', st'⟩ := RoadKit.putF X hx hZ hown w via eT F E (Lw.imp id fun q => ⟨q.1, q.2.1, hnm.trans q.2.2⟩) wi hty hn hf (g := mkF m pc Ls _) rfl rfl (hb hby hd)
  exact ⟨h', W', W.mk hx hZ hby hml hown hnm hrt hlk hn0 X' (Fr.snoc X' N ga) e' (fun t q => k t (st' t q))⟩
theorem W.putFN {v v' : Value} (A : W l Z n0 y bytes maxl ret R G h pc Ls (v :: .ref a :: St) C S) {index kk : Nat} {R0 O n d K : String} {ty : FieldType} {old : Value} (hd : decode bytes pc = .ok (.putfield index, 3)) (w : (Jvm.Cond.fieldLink y.cls index R0 n d).before a0 Z = true) (via : Via Z R0 O n d)
    (F : Fld Z h a O n d old) (E : Exa Z h a K) (Lw : (Jvm.Cond.lays K O n d).before a0 Z = true ∨ ((Jvm.Cond.laysFinal K O n d).before a0 Z = true ∧ y.cls = O ∧ y.name = "<init>")) (wi : (Jvm.Cond.instantiable K kk).before a0 Z = true) (hty : parseFieldDescriptor d = some ty) (hn : narrow ty v = v') (hf : fits ty v' = true) (ga : n0 ≤ a) (hp : pc + 3 = pc') :
    ∃ h', Wr h h' a (Jvm.RoadKit.slotOf Z O n d) v' ∧ W l Z n0 y bytes maxl ret R G h' pc' Ls St C S := by
  subst hp
  obtain ⟨p, e, s, m, args, below, meth, c, st⟩ := G
  obtain ⟨hx, hZ, hby, hml, hown, hnm, hrt, hlk, hn0, T, locs, X, N, eT, k⟩ := A
  obtain ⟨T', h', X', e', W', st'⟩ := RoadKit.putFN X hx hZ hown w via eT F E (Lw.imp id fun q => ⟨q.1, q.2.1, hnm.trans q.2.2⟩) wi hty hn hf (g := mkF m pc Ls _) rfl rfl (hb hby hd)
  exact ⟨h', W', W.mk hx hZ hby hml hown hnm hrt hlk hn0 X' (Fr.snoc X' N ga) e' (fun t q => k t (st' t q))⟩
theorem W.newO (A : W l Z n0 y bytes maxl ret R G h pc Ls St C S) {index n : Nat} {K : String} (hd : decode bytes pc = .ok (.new index, 3)) (w : (Jvm.Cond.classLink y.cls index K).before a0 Z = true) (wi : (Jvm.Cond.instantiable K n).before a0 Z = true) (wz : (Jvm.Cond.initialized K).before a0 Z = true) (hC : C + 1 ≤ R.cells) (hS : S + n ≤ R.slots) (hC' : C + 1 = C') (hS' : S + n = S') (hp : pc + 3 = pc') :
    ∃ h' b, b = h.size ∧ n0 ≤ b ∧ Ext h h' ∧ Exa Z h' b K ∧ (∀ {O nm d : String} {ty : FieldType}, Laid Z a0 K O nm d → parseFieldDescriptor d = some ty → Fld Z h' b O nm d (defaultValue ty)) ∧ W l Z n0 y bytes maxl ret R G h' pc' Ls (.ref b :: St) C' S' := by
  subst hp hC' hS'
  have hsz := A.size
  obtain ⟨p, e, s, m, args, below, meth, c, st⟩ := G
  obtain ⟨hx, hZ, hby, hml, hown, hnm, hrt, hlk, hn0, T, locs, X, N, eT, k⟩ := A
  obtain ⟨T', h', X', e', E', A', D', -, st'⟩ := RoadKit.newO X hx hZ hown w wi wz eT (g := mkF m pc Ls St) rfl (hb hby hd) hC hS
  exact ⟨h', h.size, rfl, hsz, E', A', D', W.mk hx hZ hby hml hown hnm hrt hlk hn0 X' N e' (fun t q => k t (st' t q))⟩
/-! arrays: what each place holds, by a function of the place -/
def Ars (Z : State) (h : Heap) (a : Addr) (ty : FieldType) (N : Nat) (f : Nat → Value) : Prop := ∃ c : Cell, Arr Z h a c ty ∧ c.slots.size = N ∧ N < 2 ^ 31 ∧ ∀ j, j < N → c.slots[j]? = some (f j)
def upd (f : Nat → Value) (i : Nat) (v : Value) : Nat → Value := fun j => if j = i then v else f j
theorem upd_same (f : Nat → Value) (i : Nat) (v : Value) : upd f i v i = v := by simp [upd]
theorem upd_ne (f : Nat → Value) {i j : Nat} (v : Value) (q : j ≠ i) : upd f i v j = f j := by simp [upd, q]
variable {ty : FieldType} {N : Nat} {f : Nat → Value} {ws : List Addr} {sl : Nat} {v : Value}
theorem Ars.lt (F : Ars Z h a ty N f) : a < h.size := by obtain ⟨c, A, -⟩ := F; exact A.lt
theorem Ars.ext (F : Ars Z h a ty N f) (E : Ext h h') : Ars Z h' a ty N f := by obtain ⟨c, A, r⟩ := F; exact ⟨c, A.ext E, r⟩
theorem Ars.other (F : Ars Z h b ty N f) (V : Wr h h' a sl v) (q : b ≠ a) : Ars Z h' b ty N f := by obtain ⟨c, A, r⟩ := F; exact ⟨c, A.other V q, r⟩
theorem Ars.keep (F : Ars Z h a ty N f) (K : Keep h h' ws) (q : a ∉ ws) : Ars Z h' a ty N f := by obtain ⟨c, A, r⟩ := F; exact ⟨c, ⟨K.2.1 a c A.1 q, A.2⟩, r⟩
theorem Ars.same {i : Nat} (F : Ars Z h a ty N f) (V : Wr h h' a i v) (hi : i < N) : Ars Z h' a ty N (upd f i v) := by
  obtain ⟨c, A, hs, hN, hv⟩ := F
  refine ⟨_, A.same V, by rw [sz_set]; exact hs, hN, fun j hj => ?_⟩
  by_cases q : j = i
  · subst q; simp [Cell.setSlot, upd, hs, hj]
  · simp only [Cell.setSlot, upd, if_neg q]; rw [Array.getElem?_setIfInBounds_ne (Ne.symm q)]; exact hv j hj
theorem Ars.fn {g : Nat → Value} (F : Ars Z h a ty N f) (q : ∀ j, j < N → f j = g j) : Ars Z h a ty N g := by
  obtain ⟨c, A, hs, hN, hv⟩ := F; exact ⟨c, A, hs, hN, fun j hj => by rw [← q j hj]; exact hv j hj⟩
theorem Ars.size (F : Ars Z h a ty N f) : N < 2 ^ 31 := by obtain ⟨c, A, hs, hN, hv⟩ := F; exact hN
theorem inb {j : Int32} {i N : Nat} {c : Cell} (hs : c.slots.size = N) (hj : j.toInt = i) (hi : i < N) : ¬ (j < 0 ∨ c.slots.size ≤ j.toNatClampNeg) ∧ j.toNatClampNeg = i := by
  have e0 : (0 : Int32).toInt = 0 := rfl
  rw [hs, Int32.lt_iff_toInt_lt]; simp only [Int32.toNatClampNeg]; omega
theorem W.newP (A : W l Z n0 y bytes maxl ret R G h pc Ls (.int z :: St) C S) {aty : ArrayType} {N cap : Nat} (hd : decode bytes pc = .ok (.newarray aty, 2)) (w : (Jvm.Cond.arrayClass (newarray.typeOf aty)).before a0 Z = true) (hz : z.toInt = N) (hcap : N ≤ cap) (hcb : cap * 8 ≤ 536870912) (hC : C + 1 ≤ R.cells) (hS : S + cap ≤ R.slots) (hC' : C + 1 = C') (hS' : S + cap = S') (hp : pc + 2 = pc') :
    ∃ h' b, b = h.size ∧ n0 ≤ b ∧ Ext h h' ∧ Ars Z h' b (newarray.typeOf aty) N (fun _ => defaultValue (newarray.typeOf aty)) ∧ W l Z n0 y bytes maxl ret R G h' pc' Ls (.ref b :: St) C' S' := by
  subst hp hC' hS'
  have hsz := A.size
  have e0 : (0 : Int32).toInt = 0 := rfl
  have hneg : ¬ z < 0 := by rw [Int32.lt_iff_toInt_lt]; omega
  have hcl : z.toNatClampNeg = N := by simp only [Int32.toNatClampNeg]; omega
  obtain ⟨p, e, s, m, args, below, meth, c, st⟩ := G
  obtain ⟨hx, hZ, hby, hml, hown, hnm, hrt, hlk, hn0, T, locs, X, Nf, eT, k⟩ := A
  obtain ⟨T', h', kA, X', e', E', A', st'⟩ := RoadKit.newP X hx hZ w eT (g := mkF m pc Ls _) rfl (hb hby hd) rfl hneg (cap := cap) (by omega) hcb hC hS
  refine ⟨h', h.size, rfl, hsz, E', ⟨_, A', by rw [sz_new, hcl], by omega, fun j hj => ?_⟩, W.mk hx hZ hby hml hown hnm hrt hlk hn0 X' Nf e' (fun t q => k t (st' t q))⟩
  simp [newA, hcl, hj]
theorem W.alen (A : W l Z n0 y bytes maxl ret R G h pc Ls (.ref a :: St) C S) (hd : decode bytes pc = .ok (.arraylength, 1)) (F : Ars Z h a ty N f) {z : Int32} (hz : z.toInt = N) (hp : pc + 1 = pc') : W l Z n0 y bytes maxl ret R G h pc' Ls (.int z :: St) C S := by
  subst hp
  obtain ⟨cl, Ar, hs, hN, hv⟩ := F
  have e0 : (0 : Int32).toInt = 0 := rfl
  have hneg : ¬ z < 0 := by rw [Int32.lt_iff_toInt_lt]; omega
  have hcl : cl.slots.size = z.toNatClampNeg := by simp only [Int32.toNatClampNeg]; omega
  exact A.step fun X hx hZ hown q eT r => X.arraylength hx (by rw [eT]; exact Ar.1) (State.isArrayOf_alike hZ.alike Ar.2.1) (g := mkF _ _ _ _) rfl rfl (hb q hd) _ (by rw [len_of hcl hneg]; exact r)
theorem W.iaload {j : Int32} (A : W l Z n0 y bytes maxl ret R G h pc Ls (.int j :: .ref a :: St) C S) (hd : decode bytes pc = .ok (.iaload, 1)) (F : Ars Z h a .int N f) {i : Nat} (hj : j.toInt = i) (hi : i < N) {v : Value} (hv : f i = v) (hp : pc + 1 = pc') : W l Z n0 y bytes maxl ret R G h pc' Ls (v :: St) C S := by
  subst hp
  obtain ⟨cl, Ar, hs, hN, hf⟩ := F
  obtain ⟨q1, q2⟩ := inb hs hj hi
  exact A.step fun X hx hZ hown q eT r => X.iaload hx (by rw [eT]; exact Ar.1) (State.isArrayOf_alike hZ.alike Ar.2.1) Ar.2.2 q1 (by rw [q2, hf i hi, hv]) (g := mkF _ _ _ _) rfl rfl (hb q hd) _ r
theorem W.laload {j : Int32} (A : W l Z n0 y bytes maxl ret R G h pc Ls (.int j :: .ref a :: St) C S) (hd : decode bytes pc = .ok (.laload, 1)) (F : Ars Z h a .long N f) {i : Nat} (hj : j.toInt = i) (hi : i < N) {v : Value} (hv : f i = v) (hp : pc + 1 = pc') : W l Z n0 y bytes maxl ret R G h pc' Ls (v :: St) C S := by
  subst hp
  obtain ⟨cl, Ar, hs, hN, hf⟩ := F
  obtain ⟨q1, q2⟩ := inb hs hj hi
  exact A.step fun X hx hZ hown q eT r => X.laload hx (by rw [eT]; exact Ar.1) (State.isArrayOf_alike hZ.alike Ar.2.1) Ar.2.2 q1 (by rw [q2, hf i hi, hv]) (g := mkF _ _ _ _) rfl rfl (hb q hd) _ r
theorem W.baload {j : Int32} (A : W l Z n0 y bytes maxl ret R G h pc Ls (.int j :: .ref a :: St) C S) (hd : decode bytes pc = .ok (.baload, 1)) (F : Ars Z h a .byte N f) {i : Nat} (hj : j.toInt = i) (hi : i < N) {v : Value} (hv : f i = v) (hp : pc + 1 = pc') : W l Z n0 y bytes maxl ret R G h pc' Ls (v :: St) C S := by
  subst hp
  obtain ⟨cl, Ar, hs, hN, hf⟩ := F
  obtain ⟨q1, q2⟩ := inb hs hj hi
  exact A.step fun X hx hZ hown q eT r => X.baloadBytes hx (by rw [eT]; exact Ar.1) (State.isArrayOf_alike hZ.alike Ar.2.1) Ar.2.2 q1 (by rw [q2, hf i hi, hv]) (g := mkF _ _ _ _) rfl rfl (hb q hd) _ r
theorem W.caload {j : Int32} (A : W l Z n0 y bytes maxl ret R G h pc Ls (.int j :: .ref a :: St) C S) (hd : decode bytes pc = .ok (.caload, 1)) (F : Ars Z h a .char N f) {i : Nat} (hj : j.toInt = i) (hi : i < N) {v : Value} (hv : f i = v) (hp : pc + 1 = pc') : W l Z n0 y bytes maxl ret R G h pc' Ls (v :: St) C S := by
  subst hp
  obtain ⟨cl, Ar, hs, hN, hf⟩ := F
  obtain ⟨q1, q2⟩ := inb hs hj hi
  exact A.step fun X hx hZ hown q eT r => X.caload hx (by rw [eT]; exact Ar.1) (State.isArrayOf_alike hZ.alike Ar.2.1) Ar.2.2 q1 (by rw [q2, hf i hi, hv]) (g := mkF _ _ _ _) rfl rfl (hb q hd) _ r
theorem W.iastore {j x : Int32} (A : W l Z n0 y bytes maxl ret R G h pc Ls (.int x :: .int j :: .ref a :: St) C S) (hd : decode bytes pc = .ok (.iastore, 1)) (F : Ars Z h a .int N f) {i : Nat} (hj : j.toInt = i) (hi : i < N) (ga : n0 ≤ a) (hp : pc + 1 = pc') : ∃ h', Wr h h' a i (.int x) ∧ Ars Z h' a .int N (upd f i (.int x)) ∧ W l Z n0 y bytes maxl ret R G h' pc' Ls St C S := by
  subst hp
  have F0 := F
  obtain ⟨cl, Ar, hs, hN, hf⟩ := F
  obtain ⟨q1, q2⟩ := inb hs hj hi
  obtain ⟨p, e, s, m, args, below, meth, c, st⟩ := G
  obtain ⟨hx, hZ, hby, hml, hown, hnm, hrt, hlk, hn0, T, locs, X, Nf, eT, k⟩ := A
  obtain ⟨T', h', X', e', W', st'⟩ := stI X hx hZ eT Ar q1 (g := mkF m pc Ls _) rfl rfl (hb hby hd)
  rw [q2] at W'
  exact ⟨h', W', F0.same W' hi, W.mk hx hZ hby hml hown hnm hrt hlk hn0 X' (Fr.snoc X' Nf ga) e' (fun t q => k t (st' t q))⟩
theorem W.lastore {j : Int32} {x : Int64} (A : W l Z n0 y bytes maxl ret R G h pc Ls (.long x :: .int j :: .ref a :: St) C S) (hd : decode bytes pc = .ok (.lastore, 1)) (F : Ars Z h a .long N f) {i : Nat} (hj : j.toInt = i) (hi : i < N) (ga : n0 ≤ a) (hp : pc + 1 = pc') : ∃ h', Wr h h' a i (.long x) ∧ Ars Z h' a .long N (upd f i (.long x)) ∧ W l Z n0 y bytes maxl ret R G h' pc' Ls St C S := by
  subst hp
  have F0 := F
  obtain ⟨cl, Ar, hs, hN, hf⟩ := F
  obtain ⟨q1, q2⟩ := inb hs hj hi
  obtain ⟨p, e, s, m, args, below, meth, c, st⟩ := G
  obtain ⟨hx, hZ, hby, hml, hown, hnm, hrt, hlk, hn0, T, locs, X, Nf, eT, k⟩ := A
  obtain ⟨T', h', X', e', W', st'⟩ := stJ X hx hZ eT Ar q1 (g := mkF m pc Ls _) rfl rfl (hb hby hd)
  rw [q2] at W'
  exact ⟨h', W', F0.same W' hi, W.mk hx hZ hby hml hown hnm hrt hlk hn0 X' (Fr.snoc X' Nf ga) e' (fun t q => k t (st' t q))⟩
theorem W.bastore {j x : Int32} (A : W l Z n0 y bytes maxl ret R G h pc Ls (.int x :: .int j :: .ref a :: St) C S) (hd : decode bytes pc = .ok (.bastore, 1)) (F : Ars Z h a .byte N f) {i : Nat} (hj : j.toInt = i) (hi : i < N) (ga : n0 ≤ a) (hp : pc + 1 = pc') : ∃ h', Wr h h' a i (.int x.toInt8.toInt32) ∧ Ars Z h' a .byte N (upd f i (.int x.toInt8.toInt32)) ∧ W l Z n0 y bytes maxl ret R G h' pc' Ls St C S := by
  subst hp
  have F0 := F
  obtain ⟨cl, Ar, hs, hN, hf⟩ := F
  obtain ⟨q1, q2⟩ := inb hs hj hi
  obtain ⟨p, e, s, m, args, below, meth, c, st⟩ := G
  obtain ⟨hx, hZ, hby, hml, hown, hnm, hrt, hlk, hn0, T, locs, X, Nf, eT, k⟩ := A
  obtain ⟨T', h', X', e', W', st'⟩ := stB X hx hZ eT Ar q1 (g := mkF m pc Ls _) rfl rfl (hb hby hd)
  rw [q2] at W'
  exact ⟨h', W', F0.same W' hi, W.mk hx hZ hby hml hown hnm hrt hlk hn0 X' (Fr.snoc X' Nf ga) e' (fun t q => k t (st' t q))⟩
theorem W.castore {j x : Int32} (A : W l Z n0 y bytes maxl ret R G h pc Ls (.int x :: .int j :: .ref a :: St) C S) (hd : decode bytes pc = .ok (.castore, 1)) (F : Ars Z h a .char N f) {i : Nat} (hj : j.toInt = i) (hi : i < N) (ga : n0 ≤ a) (hp : pc + 1 = pc') : ∃ h', Wr h h' a i (.int (nar .char x)) ∧ Ars Z h' a .char N (upd f i (.int (nar .char x))) ∧ W l Z n0 y bytes maxl ret R G h' pc' Ls St C S := by
  subst hp
  have F0 := F
  obtain ⟨cl, Ar, hs, hN, hf⟩ := F
  obtain ⟨q1, q2⟩ := inb hs hj hi
  obtain ⟨p, e, s, m, args, below, meth, c, st⟩ := G
  obtain ⟨hx, hZ, hby, hml, hown, hnm, hrt, hlk, hn0, T, locs, X, Nf, eT, k⟩ := A
  obtain ⟨T', h', X', e', W', st'⟩ := stC X hx hZ eT Ar q1 (g := mkF m pc Ls _) rfl rfl (hb hby hd)
  rw [q2] at W'
  exact ⟨h', W', F0.same W' hi, W.mk hx hZ hby hml hown hnm hrt hlk hn0 X' (Fr.snoc X' Nf ga) e' (fun t q => k t (st' t q))⟩
end Heaps
end Jvm.Pilot.@@N@@
namespace Jvm.Pilot.@@N@@
open Jvm Jvm.ClassFile Sem Op Lib Jvm.Free Jvm.Stand Jvm.LawKit Jvm.RoadKit Bundle Jvm.Pilot.@@N@@.Jvm.D
def own_m1 (z : Int64) : Int64 := (z ^^^ ((z.toUInt64 >>> ((30 : Int32) &&& 0x3f).toInt64.toUInt64).toInt64)) * (-4658895280553007687 : Int64)
def own_m2 (z : Int64) : Int64 := (z ^^^ ((z.toUInt64 >>> ((27 : Int32) &&& 0x3f).toInt64.toUInt64).toInt64)) * (-7723592293110705685 : Int64)
def own_s31 (z : Int64) : Int64 := z ^^^ ((z.toUInt64 >>> ((31 : Int32) &&& 0x3f).toInt64.toUInt64).toInt64)
def own_u (z : Int64) : Int64 := ((own_s31 (own_m2 (own_m1 z))).toUInt64 >>> ((1 : Int32) &&& 0x3f).toInt64.toUInt64).toInt64
def own_part (b : Int) : Int := 9223372036854775808 % b
def own_acc (u : Int64) (b : Int) : Prop := u.toInt < 9223372036854775808 - own_part b
def own_rem (u : Int64) (b : Int32) : Int32 := (u % b.toInt64).toInt32
def own_k (s : Int64) : Nat := ((-s) * (-1018231460777725123 : Int64) - 1).toBitVec.toNat
theorem own_u_nn (z : Int64) : 0 ≤ (own_u z).toInt := by
  have e := c_lushr (own_s31 (own_m2 (own_m1 z))) 1 1 (by decide) (by decide)
  have r := rng64 (own_s31 (own_m2 (own_m1 z)))
  show 0 ≤ (((own_s31 (own_m2 (own_m1 z))).toUInt64 >>> ((1 : Int32) &&& 0x3f).toInt64.toUInt64).toInt64).toInt
  omega
theorem own_part_rng (b : Int) (h : 1 ≤ b) : 0 ≤ own_part b ∧ own_part b < b := ⟨Int.emod_nonneg _ (by omega), Int.emod_lt_of_pos _ (by omega)⟩
theorem own_mod (u : Int64) (b : Int32) (h : 1 ≤ b.toInt) (hu : 0 ≤ u.toInt) : (u % b.toInt64).toInt = u.toInt % b.toInt := by
  rw [Int64.toInt_mod, Int32.toInt_toInt64, Int.tmod_eq_emod_of_nonneg hu]
theorem own_rem_rng (u : Int64) (b : Int32) (h : 1 ≤ b.toInt) (hu : 0 ≤ u.toInt) : 0 ≤ (own_rem u b).toInt ∧ (own_rem u b).toInt < b.toInt := by
  have e := own_mod u b h hu
  have q := c_l2i (u % b.toInt64)
  have r := rng32 (own_rem u b)
  have r' := rng32 b
  have m1 := Int.emod_nonneg u.toInt (show b.toInt ≠ 0 by omega)
  have m2 := Int.emod_lt_of_pos u.toInt (show 0 < b.toInt by omega)
  unfold own_rem at *
  omega
theorem own_partial (b : Int32) (h : 1 ≤ b.toInt) : ((((9223372036854775807 : Int64) % b.toInt64) + (1 : Int64)) % b.toInt64).toInt = own_part b.toInt := by
  have r' := rng32 b
  have em : (9223372036854775807 : Int64).toInt = 9223372036854775807 := rfl
  have e1 : (1 : Int64).toInt = 1 := rfl
  have e := own_mod (9223372036854775807 : Int64) b h (by omega)
  have m1 := Int.emod_nonneg (9223372036854775807 : Int64).toInt (show b.toInt ≠ 0 by omega)
  have m2 := Int.emod_lt_of_pos (9223372036854775807 : Int64).toInt (show 0 < b.toInt by omega)
  have a := add64 ((9223372036854775807 : Int64) % b.toInt64) (1 : Int64) (by omega) (by omega)
  rw [own_mod _ b h (by omega), a, e, e1, em]
  show _ = 9223372036854775808 % b.toInt
  rw [Int.emod_add_emod]; rfl
theorem own_rej (p : Int64) (u : Int64) (b : Int) (hb : 1 ≤ b) (hb' : b < 2147483648) (hp : p.toInt = own_part b) : ((9223372036854775807 : Int64) - p).toInt < u.toInt ↔ ¬ own_acc u b := by
  have em : (9223372036854775807 : Int64).toInt = 9223372036854775807 := rfl
  have r := own_part_rng b hb
  have a := sub64 (9223372036854775807 : Int64) p (by omega) (by omega)
  unfold own_acc
  omega
theorem own_accepted (u : Int64) (b : Int32) (hb : 1 ≤ b.toInt) (hu : 0 ≤ u.toInt) : ((9223372036854775807 : Int64) - (b - (1 : Int32)).toInt64).toInt < (u - (u % b.toInt64)).toInt ↔ ¬ own_acc u b.toInt := by
  have em : (9223372036854775807 : Int64).toInt = 9223372036854775807 := rfl
  have r' := rng32 b
  have ru := rng64 u
  have s1 := subc32 b (1 : Int32) 1 rfl (by omega) (by omega)
  have s2 := c_i2l (b - (1 : Int32))
  have s3 := sub64 (9223372036854775807 : Int64) (b - (1 : Int32)).toInt64 (by omega) (by omega)
  have e := own_mod u b hb hu
  have m1 := Int.emod_nonneg u.toInt (show b.toInt ≠ 0 by omega)
  have m2 := Int.emod_lt_of_pos u.toInt (show 0 < b.toInt by omega)
  have s4 := sub64 u (u % b.toInt64) (by omega) (by omega)
  have d1 := Int.emod_add_mul_ediv u.toInt b.toInt
  have d2 := Int.emod_add_mul_ediv 9223372036854775808 b.toInt
  have p := own_part_rng b.toInt hb
  unfold own_acc own_part at *
  rw [s3, s4, e, s2, s1, em]
  generalize u.toInt % b.toInt = ur at *
  generalize (9223372036854775808 : Int) % b.toInt = pr at *
  generalize u.toInt / b.toInt = uq at *
  generalize (9223372036854775808 : Int) / b.toInt = pq at *
  constructor
  · intro h k
    -- b*uq > 2^63 - b, b*uq + ur < b*pq
    have h1 : b.toInt * pq < b.toInt * uq + b.toInt := by omega
    have h2 : b.toInt * uq < b.toInt * pq := by omega
    have h3 : uq < pq := Int.lt_of_mul_lt_mul_left h2 (by omega)
    have h4 : b.toInt * (uq + 1) ≤ b.toInt * pq := Int.mul_le_mul_of_nonneg_left (by omega) (by omega)
    rw [Int.mul_add, Int.mul_one] at h4
    omega
  · intro k
    have h2 : b.toInt * pq ≤ b.toInt * uq + ur := by omega
    have h3 : pq ≤ uq := by
      by_cases q : pq ≤ uq
      · exact q
      · exfalso
        have h4 : b.toInt * (uq + 1) ≤ b.toInt * pq := Int.mul_le_mul_of_nonneg_left (by omega) (by omega)
        rw [Int.mul_add, Int.mul_one] at h4
        omega
    have h4 : b.toInt * pq ≤ b.toInt * uq := Int.mul_le_mul_of_nonneg_left h3 (by omega)
    omega
theorem own_zero (b : Int) (hb : 1 ≤ b) (hb' : b < 2147483648) : own_acc (own_u 0) b := by
  have e : (own_u 0).toInt = 0 := by decide +kernel
  have r := own_part_rng b hb
  unfold own_acc; omega
theorem own_kk (s : Int64) : ((-(s + (-7046029254386353131 : Int64))) * (-1018231460777725123 : Int64) - 1) = ((-s) * (-1018231460777725123 : Int64) - 1) - 1 := by
  rw [Int64.neg_add, show (-s - (-7046029254386353131 : Int64)) = -s + (7046029254386353131 : Int64) from Int64.sub_eq_add_neg _ _, Int64.add_mul, show (7046029254386353131 : Int64) * (-1018231460777725123 : Int64) = -1 from by decide +kernel]
  apply Int64.toBitVec_inj.mp
  simp only [Int64.toBitVec_sub, Int64.toBitVec_add, Int64.toBitVec_mul, Int64.toBitVec_neg]
  generalize (-s.toBitVec * _ : BitVec 64) = t
  show t + (-1#64) - 1#64 = t - 1#64 - 1#64
  rw [BitVec.sub_eq_add_neg t]
theorem own_k_step (s : Int64) (h : s + (-7046029254386353131 : Int64) ≠ 0) : own_k (s + (-7046029254386353131 : Int64)) < own_k s := by
  unfold own_k
  rw [own_kk]
  have hn : (-s) * (-1018231460777725123 : Int64) - 1 ≠ 0 := by
    intro q
    apply h
    have q1 : (-s) * (-1018231460777725123 : Int64) = 1 := by
      have := congrArg (· + 1) q
      simpa using this
    have q2 : (-s) * ((-1018231460777725123 : Int64) * (-7046029254386353131 : Int64)) = (-7046029254386353131 : Int64) := by
      rw [← Int64.mul_assoc, q1, Int64.one_mul]
    rw [show (-1018231460777725123 : Int64) * (-7046029254386353131 : Int64) = 1 from by decide +kernel, Int64.mul_one] at q2
    rw [← q2]; exact Int64.add_right_neg s
  generalize (-s) * (-1018231460777725123 : Int64) - 1 = t at *
  have ht : t.toBitVec ≠ 0 := fun q => hn (Int64.toBitVec_inj.mp q)
  have hz : 0 < t.toBitVec.toNat := Nat.pos_of_ne_zero fun q => ht (BitVec.eq_of_toNat_eq q)
  have hl := t.toBitVec.isLt
  show (t.toBitVec - 1#64).toNat < _
  rw [BitVec.toNat_sub]
  simp only [BitVec.toNat_ofNat]
  omega
theorem own_pair {A1 A2 : Prop} {a e r1 r2 : Int32} {sg sh s1 s2 : Int64} {b : Int} (h1 : 0 ≤ r1.toInt ∧ r1.toInt < b) (h2 : 0 ≤ r2.toInt ∧ r2.toInt < b)
    (g : (A1 ∧ a = r1 ∧ sg = s1) ∨ (¬ A1 ∧ A2 ∧ a = r2 ∧ sg = s2) ∨ (¬ A1 ∧ ¬ A2 ∧ 0 ≤ a.toInt ∧ a.toInt < b))
    (q : (A1 ∧ e = r1 ∧ sh = s1) ∨ (¬ A1 ∧ A2 ∧ e = r2 ∧ sh = s2) ∨ (¬ A1 ∧ ¬ A2 ∧ e.toInt = -1)) :
    (e.toInt < 0 ∧ 0 ≤ a.toInt ∧ a.toInt < b) ∨ (0 ≤ e.toInt ∧ a.toInt = e.toInt ∧ sg = sh) := by
  rcases g with ⟨g1, rfl, rfl⟩ | ⟨g1, g2, rfl, rfl⟩ | ⟨g1, g2, g3, g4⟩ <;> rcases q with ⟨k1, rfl, rfl⟩ | ⟨k1, k2, rfl, rfl⟩ | ⟨k1, k2, k3⟩
  all_goals first
    | contradiction
    | exact Or.inr ⟨by omega, rfl, rfl⟩
    | exact Or.inl ⟨by omega, by omega, by omega⟩
theorem own_nz (b : Int32) (h : 1 ≤ b.toInt) : b.toInt64 ≠ 0 := fun q => by
  have e := Int32.toInt_toInt64 b
  rw [q] at e
  have z : (0 : Int64).toInt = 0 := rfl
  omega
theorem pd_0 : parseMethodDescriptor "()J" = some ⟨[], some .long⟩ := by decide +kernel
theorem pd_1 : parseMethodDescriptor "(JI)Z" = some ⟨[.long, .int], some .boolean⟩ := by decide +kernel
theorem pd_2 : parseMethodDescriptor "(J)V" = some ⟨[.long], none⟩ := by decide +kernel
theorem pd_3 : parseMethodDescriptor "(I)I" = some ⟨[.int], some .int⟩ := by decide +kernel
theorem pd_4 : parseMethodDescriptor "(Lcom/example/marginkeel/marginkeel/core/SplitMix64;I)I" = some ⟨[(.object "com/example/marginkeel/marginkeel/core/SplitMix64"), .int], some .int⟩ := by decide +kernel
theorem pn1 : plainFor (⟨"com/example/marginkeel/marginkeel/core/SplitMix64", "<init>", "(J)V"⟩ : MethodName) = true := by first | exact plainFor_of_name (by first | (simp [plainName, overriddenIn]; done) | decide +kernel) | exact Jvm.Free.JP.mathPlain rfl (by decide +kernel) | decide +kernel
theorem d1_0 : decode prog_72_method_1_code 0 = .ok (.aload_n 0, 1) := by decide +kernel
theorem d1_1 : decode prog_72_method_1_code 1 = .ok (.invokespecial 1, 3) := by decide +kernel
theorem d1_4 : decode prog_72_method_1_code 4 = .ok (.aload_n 0, 1) := by decide +kernel
theorem d1_5 : decode prog_72_method_1_code 5 = .ok (.lload_n 1, 1) := by decide +kernel
theorem d1_6 : decode prog_72_method_1_code 6 = .ok (.putfield 7, 3) := by decide +kernel
theorem d1_9 : decode prog_72_method_1_code 9 = .ok (.return_, 1) := by decide +kernel
abbrev y1 : MethodName := (⟨"com/example/marginkeel/marginkeel/core/SplitMix64", "<init>", "(J)V"⟩ : MethodName)
abbrev R1 : Room := { frames := 1, cells := 0, slots := 0, locals := 12 }
set_option maxRecDepth 65536 in
set_option maxHeartbeats 4000000 in
theorem ef1 (a : Addr) (q : Int64) (mid : MethodId) : entryFrame mid #[(.ref a), (.long q)] 3 = mkF mid 0 #[.val (.ref a), .val (.long q), .second] [] := by first | (simp [entryFrame, mkF, argsToLocals, Value.category]; done) | rfl
set_option maxRecDepth 65536 in
set_option maxHeartbeats 40000000 in
theorem rm1 (l : Launch) (Z : State) (a0 : Array Value) (hw : ∀ d ∈ tables_1, d.before a0 Z = true) (n0 : Nat) (ws : List Jvm.Cond) (a : Addr) (q : Int64)  (h0 : Heap) (hn0 : n0 ≤ h0.size) (e0 : Exa Z h0 a "com/example/marginkeel/marginkeel/core/SplitMix64") (e1 : Fld Z h0 a "com/example/marginkeel/marginkeel/core/SplitMix64" "state" "J" (.long (0 : Int64))) (e2 : Fld Z h0 a "com/example/marginkeel/marginkeel/core/SplitMix64" "bound" "I" (.int (0 : Int32))) (e3 : Fld Z h0 a "com/example/marginkeel/marginkeel/core/SplitMix64" "partial" "J" (.long (0 : Int64))) (e4 : n0 ≤ a) :
    Ctr l Z n0 y1 prog_72_method_1_code 3 (none) ws R1 #[(.ref a), (.long q)] h0 (QV fun h => (Keep h0 h [a]) ∧ (Fld Z h a "com/example/marginkeel/marginkeel/core/SplitMix64" "state" "J" (.long q)) ∧ (Fld Z h a "com/example/marginkeel/marginkeel/core/SplitMix64" "bound" "I" (.int (0 : Int32))) ∧ (Fld Z h a "com/example/marginkeel/marginkeel/core/SplitMix64" "partial" "J" (.long (0 : Int64))) ∧ (True)) := by
  refine ctr_of pn1 hn0 (ef1 a q) fun G A0 => ?_
  have A1 := A0.aloadN (v := (.ref a)) (pc' := 1) d1_0 rfl rfl rfl
  have A2 := A1.initO (pc' := 4) d1_1 (hw _ (List.mem_of_getElem? (i := 7) rfl)) (hw _ (List.mem_of_getElem? (i := 8) rfl)) (hw _ (List.mem_of_getElem? (i := 9) rfl)) rfl (by decide) (Nat.le_of_ble_eq_true rfl) rfl
  have A3 := A2.aloadN (v := (.ref a)) (pc' := 5) d1_4 rfl rfl rfl
  have A4 := A3.lloadN (v := q) (pc' := 6) d1_5 rfl rfl
  obtain ⟨h6, w7, A5⟩ := A4.putF (pc' := 9) (ty := .long) (host := "") d1_6 (Or.inl (hw _ (List.mem_of_getElem? (i := 10) rfl))) Via.refl e1 e0 (Or.inl (hw _ (List.mem_of_getElem? (i := 11) rfl))) (hw _ (List.mem_of_getElem? (i := 2) rfl)) (by decide) rfl rfl e4 rfl
  have f8 := e1.same w7
  have K9 : Keep h0 h6 [a] := ((Keep.refl h0 [a]).wr w7 (Or.inl (List.mem_of_getElem? (i := 0) rfl)))
  have f10 := (e2.other w7 (Or.inr (slot_ne (Or.inl (hw _ (List.mem_of_getElem? (i := 18) rfl))) (Or.inl (hw _ (List.mem_of_getElem? (i := 11) rfl))) (by decide) (t := .int) (t' := .long) (by decide) (by decide))))
  have f11 := (e3.other w7 (Or.inr (slot_ne (Or.inl (hw _ (List.mem_of_getElem? (i := 21) rfl))) (Or.inl (hw _ (List.mem_of_getElem? (i := 11) rfl))) (by decide) (t := .long) (t' := .long) (by decide) (by decide))))
  refine A5.retV d1_9 (by decide) (by decide) ⟨rfl, ⟨K9, f8, f10, f11, ?_⟩⟩
  trivial
theorem pn4 : plainFor (⟨"com/example/marginkeel/marginkeel/core/SplitMix64", "nextLong", "()J"⟩ : MethodName) = true := by first | exact plainFor_of_name (by first | (simp [plainName, overriddenIn]; done) | decide +kernel) | exact Jvm.Free.JP.mathPlain rfl (by decide +kernel) | decide +kernel
theorem d4_0 : decode prog_72_method_2_code 0 = .ok (.aload_n 0, 1) := by decide +kernel
theorem d4_1 : decode prog_72_method_2_code 1 = .ok (.dup, 1) := by decide +kernel
theorem d4_2 : decode prog_72_method_2_code 2 = .ok (.getfield 7, 3) := by decide +kernel
theorem d4_5 : decode prog_72_method_2_code 5 = .ok (.ldc2_w 13, 3) := by decide +kernel
theorem d4_8 : decode prog_72_method_2_code 8 = .ok (.ladd, 1) := by decide +kernel
theorem d4_9 : decode prog_72_method_2_code 9 = .ok (.putfield 7, 3) := by decide +kernel
theorem d4_12 : decode prog_72_method_2_code 12 = .ok (.aload_n 0, 1) := by decide +kernel
theorem d4_13 : decode prog_72_method_2_code 13 = .ok (.getfield 7, 3) := by decide +kernel
theorem d4_16 : decode prog_72_method_2_code 16 = .ok (.lstore_n 1, 1) := by decide +kernel
theorem d4_17 : decode prog_72_method_2_code 17 = .ok (.lload_n 1, 1) := by decide +kernel
theorem d4_18 : decode prog_72_method_2_code 18 = .ok (.lload_n 1, 1) := by decide +kernel
theorem d4_19 : decode prog_72_method_2_code 19 = .ok (.bipush 30, 2) := by decide +kernel
theorem d4_21 : decode prog_72_method_2_code 21 = .ok (.lushr, 1) := by decide +kernel
theorem d4_22 : decode prog_72_method_2_code 22 = .ok (.lxor, 1) := by decide +kernel
theorem d4_23 : decode prog_72_method_2_code 23 = .ok (.ldc2_w 15, 3) := by decide +kernel
theorem d4_26 : decode prog_72_method_2_code 26 = .ok (.lmul, 1) := by decide +kernel
theorem d4_27 : decode prog_72_method_2_code 27 = .ok (.lstore_n 1, 1) := by decide +kernel
theorem d4_28 : decode prog_72_method_2_code 28 = .ok (.lload_n 1, 1) := by decide +kernel
theorem d4_29 : decode prog_72_method_2_code 29 = .ok (.lload_n 1, 1) := by decide +kernel
theorem d4_30 : decode prog_72_method_2_code 30 = .ok (.bipush 27, 2) := by decide +kernel
theorem d4_32 : decode prog_72_method_2_code 32 = .ok (.lushr, 1) := by decide +kernel
theorem d4_33 : decode prog_72_method_2_code 33 = .ok (.lxor, 1) := by decide +kernel
theorem d4_34 : decode prog_72_method_2_code 34 = .ok (.ldc2_w 17, 3) := by decide +kernel
theorem d4_37 : decode prog_72_method_2_code 37 = .ok (.lmul, 1) := by decide +kernel
theorem d4_38 : decode prog_72_method_2_code 38 = .ok (.lstore_n 1, 1) := by decide +kernel
theorem d4_39 : decode prog_72_method_2_code 39 = .ok (.lload_n 1, 1) := by decide +kernel
theorem d4_40 : decode prog_72_method_2_code 40 = .ok (.lload_n 1, 1) := by decide +kernel
theorem d4_41 : decode prog_72_method_2_code 41 = .ok (.bipush 31, 2) := by decide +kernel
theorem d4_43 : decode prog_72_method_2_code 43 = .ok (.lushr, 1) := by decide +kernel
theorem d4_44 : decode prog_72_method_2_code 44 = .ok (.lxor, 1) := by decide +kernel
theorem d4_45 : decode prog_72_method_2_code 45 = .ok (.lreturn, 1) := by decide +kernel
abbrev y4 : MethodName := (⟨"com/example/marginkeel/marginkeel/core/SplitMix64", "nextLong", "()J"⟩ : MethodName)
abbrev R4 : Room := { frames := 0, cells := 0, slots := 0, locals := 0 }
set_option maxRecDepth 65536 in
set_option maxHeartbeats 4000000 in
theorem ef4 (a : Addr) (mid : MethodId) : entryFrame mid #[(.ref a)] 3 = mkF mid 0 #[.val (.ref a), .unset, .unset] [] := by first | (simp [entryFrame, mkF, argsToLocals, Value.category]; done) | rfl
set_option maxRecDepth 65536 in
set_option maxHeartbeats 40000000 in
theorem rm4 (l : Launch) (Z : State) (a0 : Array Value) (hw : ∀ d ∈ tables_1, d.before a0 Z = true) (n0 : Nat) (ws : List Jvm.Cond) (a : Addr) (q : Int64) (bd : Int32) (pt : Int64) (h0 : Heap) (hn0 : n0 ≤ h0.size) (e0 : Exa Z h0 a "com/example/marginkeel/marginkeel/core/SplitMix64") (e1 : Fld Z h0 a "com/example/marginkeel/marginkeel/core/SplitMix64" "state" "J" (.long q)) (e2 : Fld Z h0 a "com/example/marginkeel/marginkeel/core/SplitMix64" "bound" "I" (.int bd)) (e3 : Fld Z h0 a "com/example/marginkeel/marginkeel/core/SplitMix64" "partial" "J" (.long pt)) (e4 : n0 ≤ a) :
    Ctr l Z n0 y4 prog_72_method_2_code 3 (some .long) ws R4 #[(.ref a)] h0 (QJ fun r h => (Keep h0 h [a]) ∧ (Fld Z h a "com/example/marginkeel/marginkeel/core/SplitMix64" "state" "J" (.long (q + (-7046029254386353131 : Int64)))) ∧ (Fld Z h a "com/example/marginkeel/marginkeel/core/SplitMix64" "bound" "I" (.int bd)) ∧ (Fld Z h a "com/example/marginkeel/marginkeel/core/SplitMix64" "partial" "J" (.long pt)) ∧ (r = own_s31 (own_m2 (own_m1 (q + (-7046029254386353131 : Int64)))))) := by
  refine ctr_of pn4 hn0 (ef4 a) fun G A0 => ?_
  have A1 := A0.aloadN (v := (.ref a)) (pc' := 1) d4_0 rfl rfl rfl
  have A2 := A1.dup (pc' := 2) d4_1 rfl rfl
  have A3 := A2.getF (pc' := 5) (host := "") d4_2 (Or.inl (hw _ (List.mem_of_getElem? (i := 10) rfl))) Via.refl e1 rfl
  have A4 := A3.ldc2 (z := (-7046029254386353131 : Int64)) (pc' := 8) d4_5 (hw _ (List.mem_of_getElem? (i := 27) rfl)) rfl
  have A5 := A4.ladd (pc' := 9) d4_8 rfl
  obtain ⟨h7, w8, A6⟩ := A5.putF (pc' := 12) (ty := .long) (host := "") d4_9 (Or.inl (hw _ (List.mem_of_getElem? (i := 10) rfl))) Via.refl e1 e0 (Or.inl (hw _ (List.mem_of_getElem? (i := 11) rfl))) (hw _ (List.mem_of_getElem? (i := 2) rfl)) (by decide) rfl rfl e4 rfl
  have f9 := e1.same w8
  have A10 := A6.aloadN (v := (.ref a)) (pc' := 13) d4_12 rfl rfl rfl
  have A11 := A10.getF (pc' := 16) (host := "") d4_13 (Or.inl (hw _ (List.mem_of_getElem? (i := 10) rfl))) Via.refl f9 rfl
  have A12 := A11.lstoreN (Ls' := #[.val (.ref a), .val (.long (q + (-7046029254386353131 : Int64))), .second]) (pc' := 17) d4_16 rfl rfl
  have A13 := A12.lloadN (v := (q + (-7046029254386353131 : Int64))) (pc' := 18) d4_17 rfl rfl
  have A14 := A13.lloadN (v := (q + (-7046029254386353131 : Int64))) (pc' := 19) d4_18 rfl rfl
  have A15 := A14.bipush (z := (30 : Int32)) (pc' := 21) d4_19 rfl rfl
  have A16 := A15.lushr (pc' := 22) d4_21 rfl
  have A17 := A16.lxor (pc' := 23) d4_22 rfl
  have A18 := A17.ldc2 (z := (-4658895280553007687 : Int64)) (pc' := 26) d4_23 (hw _ (List.mem_of_getElem? (i := 28) rfl)) rfl
  have A19 := A18.lmul (pc' := 27) d4_26 rfl
  have A20 := A19.lstoreN (Ls' := #[.val (.ref a), .val (.long (((q + (-7046029254386353131 : Int64)) ^^^ (((q + (-7046029254386353131 : Int64)).toUInt64 >>> ((30 : Int32) &&& 0x3f).toInt64.toUInt64).toInt64)) * (-4658895280553007687 : Int64))), .second]) (pc' := 28) d4_27 rfl rfl
  have A21 : W l Z n0 y4 prog_72_method_2_code 3 (some .long) R4 G h7 28 #[.val (.ref a), .val (.long (own_m1 (q + (-7046029254386353131 : Int64)))), .second] [] 0 0 := A20
  have A22 := A21.lloadN (v := (own_m1 (q + (-7046029254386353131 : Int64)))) (pc' := 29) d4_28 rfl rfl
  have A23 := A22.lloadN (v := (own_m1 (q + (-7046029254386353131 : Int64)))) (pc' := 30) d4_29 rfl rfl
  have A24 := A23.bipush (z := (27 : Int32)) (pc' := 32) d4_30 rfl rfl
  have A25 := A24.lushr (pc' := 33) d4_32 rfl
  have A26 := A25.lxor (pc' := 34) d4_33 rfl
  have A27 := A26.ldc2 (z := (-7723592293110705685 : Int64)) (pc' := 37) d4_34 (hw _ (List.mem_of_getElem? (i := 29) rfl)) rfl
  have A28 := A27.lmul (pc' := 38) d4_37 rfl
  have A29 := A28.lstoreN (Ls' := #[.val (.ref a), .val (.long (((own_m1 (q + (-7046029254386353131 : Int64))) ^^^ (((own_m1 (q + (-7046029254386353131 : Int64))).toUInt64 >>> ((27 : Int32) &&& 0x3f).toInt64.toUInt64).toInt64)) * (-7723592293110705685 : Int64))), .second]) (pc' := 39) d4_38 rfl rfl
  have A30 : W l Z n0 y4 prog_72_method_2_code 3 (some .long) R4 G h7 39 #[.val (.ref a), .val (.long (own_m2 (own_m1 (q + (-7046029254386353131 : Int64))))), .second] [] 0 0 := A29
  have A31 := A30.lloadN (v := (own_m2 (own_m1 (q + (-7046029254386353131 : Int64))))) (pc' := 40) d4_39 rfl rfl
  have A32 := A31.lloadN (v := (own_m2 (own_m1 (q + (-7046029254386353131 : Int64))))) (pc' := 41) d4_40 rfl rfl
  have A33 := A32.bipush (z := (31 : Int32)) (pc' := 43) d4_41 rfl rfl
  have A34 := A33.lushr (pc' := 44) d4_43 rfl
  have A35 := A34.lxor (pc' := 45) d4_44 rfl
  have K36 : Keep h0 h7 [a] := ((Keep.refl h0 [a]).wr w8 (Or.inl (List.mem_of_getElem? (i := 0) rfl)))
  have f37 := (e2.other w8 (Or.inr (slot_ne (Or.inl (hw _ (List.mem_of_getElem? (i := 18) rfl))) (Or.inl (hw _ (List.mem_of_getElem? (i := 11) rfl))) (by decide) (t := .int) (t' := .long) (by decide) (by decide))))
  have f38 := (e3.other w8 (Or.inr (slot_ne (Or.inl (hw _ (List.mem_of_getElem? (i := 21) rfl))) (Or.inl (hw _ (List.mem_of_getElem? (i := 11) rfl))) (by decide) (t := .long) (t' := .long) (by decide) (by decide))))
  refine A35.retJ d4_45 (by decide) (by decide) ⟨_, rfl, ⟨K36, f9, f37, f38, ?_⟩⟩
  rfl
theorem pn6 : plainFor (⟨"com/example/marginkeel/marginkeel/core/SplitMix64NextIntPinLaw", "accepted", "(JI)Z"⟩ : MethodName) = true := by first | exact plainFor_of_name (by first | (simp [plainName, overriddenIn]; done) | decide +kernel) | exact Jvm.Free.JP.mathPlain rfl (by decide +kernel) | decide +kernel
theorem d6_0 : decode method_2_code 0 = .ok (.lload_n 0, 1) := by decide +kernel
theorem d6_1 : decode method_2_code 1 = .ok (.iload_n 2, 1) := by decide +kernel
theorem d6_2 : decode method_2_code 2 = .ok (.i2l, 1) := by decide +kernel
theorem d6_3 : decode method_2_code 3 = .ok (.lrem, 1) := by decide +kernel
theorem d6_4 : decode method_2_code 4 = .ok (.lstore_n 3, 1) := by decide +kernel
theorem d6_5 : decode method_2_code 5 = .ok (.lload_n 0, 1) := by decide +kernel
theorem d6_6 : decode method_2_code 6 = .ok (.lload_n 3, 1) := by decide +kernel
theorem d6_7 : decode method_2_code 7 = .ok (.lsub, 1) := by decide +kernel
theorem d6_8 : decode method_2_code 8 = .ok (.ldc2_w 9, 3) := by decide +kernel
theorem d6_11 : decode method_2_code 11 = .ok (.iload_n 2, 1) := by decide +kernel
theorem d6_12 : decode method_2_code 12 = .ok (.iconst 1, 1) := by decide +kernel
theorem d6_13 : decode method_2_code 13 = .ok (.isub, 1) := by decide +kernel
theorem d6_14 : decode method_2_code 14 = .ok (.i2l, 1) := by decide +kernel
theorem d6_15 : decode method_2_code 15 = .ok (.lsub, 1) := by decide +kernel
theorem d6_16 : decode method_2_code 16 = .ok (.lcmp, 1) := by decide +kernel
theorem d6_17 : decode method_2_code 17 = .ok (.ifCond .gt 7, 3) := by decide +kernel
theorem d6_20 : decode method_2_code 20 = .ok (.iconst 1, 1) := by decide +kernel
theorem d6_21 : decode method_2_code 21 = .ok (.goto 4, 3) := by decide +kernel
theorem d6_24 : decode method_2_code 24 = .ok (.iconst 0, 1) := by decide +kernel
theorem d6_25 : decode method_2_code 25 = .ok (.ireturn, 1) := by decide +kernel
abbrev y6 : MethodName := (⟨"com/example/marginkeel/marginkeel/core/SplitMix64NextIntPinLaw", "accepted", "(JI)Z"⟩ : MethodName)
abbrev R6 : Room := { frames := 0, cells := 0, slots := 0, locals := 0 }
set_option maxRecDepth 65536 in
set_option maxHeartbeats 4000000 in
theorem ef6 (u : Int64) (b : Int32) (mid : MethodId) : entryFrame mid #[(.long u), (.int b)] 5 = mkF mid 0 #[.val (.long u), .second, .val (.int b), .unset, .unset] [] := by first | (simp [entryFrame, mkF, argsToLocals, Value.category]; done) | rfl
set_option maxRecDepth 65536 in
set_option maxHeartbeats 40000000 in
theorem rm6 (l : Launch) (Z : State) (a0 : Array Value) (hw : ∀ d ∈ tables_1, d.before a0 Z = true) (n0 : Nat) (ws : List Jvm.Cond) (u : Int64) (b : Int32)  (h0 : Heap) (hn0 : n0 ≤ h0.size) (e0 : 0 ≤ u.toInt ∧ 1 ≤ b.toInt) :
    Ctr l Z n0 y6 method_2_code 5 (some .boolean) ws R6 #[(.long u), (.int b)] h0 (QI fun r h => (h0 = h) ∧ ((r.toInt = 1 ∧ own_acc u b.toInt) ∨ (r.toInt = 0 ∧ ¬ own_acc u b.toInt))) := by
  refine ctr_of pn6 hn0 (ef6 u b) fun G A0 => ?_
  have A1 := A0.lloadN (v := u) (pc' := 1) d6_0 rfl rfl
  have A2 := A1.iloadN (v := b) (pc' := 2) d6_1 rfl rfl
  have A3 := A2.i2l (pc' := 3) d6_2 rfl
  have A4 := A3.lrem (pc' := 4) d6_3 (own_nz b e0.2) rfl
  have A5 := A4.lstoreN (Ls' := #[.val (.long u), .second, .val (.int b), .val (.long (u % b.toInt64)), .second]) (pc' := 5) d6_4 rfl rfl
  have A6 := A5.lloadN (v := u) (pc' := 6) d6_5 rfl rfl
  have A7 := A6.lloadN (v := (u % b.toInt64)) (pc' := 7) d6_6 rfl rfl
  have A8 := A7.lsub (pc' := 8) d6_7 rfl
  have A9 := A8.ldc2 (z := (9223372036854775807 : Int64)) (pc' := 11) d6_8 (hw _ (List.mem_of_getElem? (i := 38) rfl)) rfl
  have A10 := A9.iloadN (v := b) (pc' := 12) d6_11 rfl rfl
  have A11 := A10.iconst (z := (1 : Int32)) (pc' := 13) d6_12 rfl rfl
  have A12 := A11.isub (pc' := 14) d6_13 rfl
  have A13 := A12.i2l (pc' := 15) d6_14 rfl
  have A14 := A13.lsub (pc' := 16) d6_15 rfl
  have A15 := A14.lcmp (pc' := 17) d6_16 rfl
  by_cases c16 : ((9223372036854775807 : Int64) - (b - (1 : Int32)).toInt64).toInt < (u - (u % b.toInt64)).toInt
  · have A17 := A15.ifYes (pc' := 24) d6_17 (tlt (lgt (x := (u - (u % b.toInt64))) (y := ((9223372036854775807 : Int64) - (b - (1 : Int32)).toInt64)) rfl rfl c16)).2.2.1 (by decide) (by decide)
    have A18 := A17.iconst (z := (0 : Int32)) (pc' := 25) d6_24 rfl rfl
    refine A18.retN (t := .boolean) (z' := (0 : Int32)) d6_25 (by decide) (by decide) (by simp) rfl ⟨_, rfl, ⟨rfl, ?_⟩⟩
    have e1 : (0 : Int32).toInt = 0 := rfl
    exact Or.inr ⟨rfl, (own_accepted u b e0.2 e0.1).mp c16⟩
  · have A19 := A15.ifNo (pc' := 20) d6_17 (flt (lngt (x := (u - (u % b.toInt64))) (y := ((9223372036854775807 : Int64) - (b - (1 : Int32)).toInt64)) rfl rfl c16)).2.2.1 rfl
    have A20 := A19.iconst (z := (1 : Int32)) (pc' := 21) d6_20 rfl rfl
    have A21 := A20.goto (pc' := 25) d6_21 (by decide) (by decide)
    refine A21.retN (t := .boolean) (z' := (1 : Int32)) d6_25 (by decide) (by decide) (by simp) rfl ⟨_, rfl, ⟨rfl, ?_⟩⟩
    have e1 : (1 : Int32).toInt = 1 := rfl
    exact Or.inl ⟨rfl, Classical.byContradiction fun k => c16 ((own_accepted u b e0.2 e0.1).mpr k)⟩
theorem pn5 : plainFor (⟨"com/example/marginkeel/marginkeel/core/SplitMix64NextIntPinLaw", "ref", "(Lcom/example/marginkeel/marginkeel/core/SplitMix64;I)I"⟩ : MethodName) = true := by first | exact plainFor_of_name (by first | (simp [plainName, overriddenIn]; done) | decide +kernel) | exact Jvm.Free.JP.mathPlain rfl (by decide +kernel) | decide +kernel
theorem d5_0 : decode method_3_code 0 = .ok (.aload_n 0, 1) := by decide +kernel
theorem d5_1 : decode method_3_code 1 = .ok (.invokevirtual 11, 3) := by decide +kernel
theorem d5_4 : decode method_3_code 4 = .ok (.iconst 1, 1) := by decide +kernel
theorem d5_5 : decode method_3_code 5 = .ok (.lushr, 1) := by decide +kernel
theorem d5_6 : decode method_3_code 6 = .ok (.lstore_n 2, 1) := by decide +kernel
theorem d5_7 : decode method_3_code 7 = .ok (.lload_n 2, 1) := by decide +kernel
theorem d5_8 : decode method_3_code 8 = .ok (.iload_n 1, 1) := by decide +kernel
theorem d5_9 : decode method_3_code 9 = .ok (.invokestatic 17, 3) := by decide +kernel
theorem d5_12 : decode method_3_code 12 = .ok (.ifCond .eq 9, 3) := by decide +kernel
theorem d5_15 : decode method_3_code 15 = .ok (.lload_n 2, 1) := by decide +kernel
theorem d5_16 : decode method_3_code 16 = .ok (.iload_n 1, 1) := by decide +kernel
theorem d5_17 : decode method_3_code 17 = .ok (.i2l, 1) := by decide +kernel
theorem d5_18 : decode method_3_code 18 = .ok (.lrem, 1) := by decide +kernel
theorem d5_19 : decode method_3_code 19 = .ok (.l2i, 1) := by decide +kernel
theorem d5_20 : decode method_3_code 20 = .ok (.ireturn, 1) := by decide +kernel
theorem d5_21 : decode method_3_code 21 = .ok (.aload_n 0, 1) := by decide +kernel
theorem d5_22 : decode method_3_code 22 = .ok (.invokevirtual 11, 3) := by decide +kernel
theorem d5_25 : decode method_3_code 25 = .ok (.iconst 1, 1) := by decide +kernel
theorem d5_26 : decode method_3_code 26 = .ok (.lushr, 1) := by decide +kernel
theorem d5_27 : decode method_3_code 27 = .ok (.lstore_n 2, 1) := by decide +kernel
theorem d5_28 : decode method_3_code 28 = .ok (.lload_n 2, 1) := by decide +kernel
theorem d5_29 : decode method_3_code 29 = .ok (.iload_n 1, 1) := by decide +kernel
theorem d5_30 : decode method_3_code 30 = .ok (.invokestatic 17, 3) := by decide +kernel
theorem d5_33 : decode method_3_code 33 = .ok (.ifCond .eq 9, 3) := by decide +kernel
theorem d5_36 : decode method_3_code 36 = .ok (.lload_n 2, 1) := by decide +kernel
theorem d5_37 : decode method_3_code 37 = .ok (.iload_n 1, 1) := by decide +kernel
theorem d5_38 : decode method_3_code 38 = .ok (.i2l, 1) := by decide +kernel
theorem d5_39 : decode method_3_code 39 = .ok (.lrem, 1) := by decide +kernel
theorem d5_40 : decode method_3_code 40 = .ok (.l2i, 1) := by decide +kernel
theorem d5_41 : decode method_3_code 41 = .ok (.ireturn, 1) := by decide +kernel
theorem d5_42 : decode method_3_code 42 = .ok (.iconst (-1), 1) := by decide +kernel
theorem d5_43 : decode method_3_code 43 = .ok (.ireturn, 1) := by decide +kernel
abbrev y5 : MethodName := (⟨"com/example/marginkeel/marginkeel/core/SplitMix64NextIntPinLaw", "ref", "(Lcom/example/marginkeel/marginkeel/core/SplitMix64;I)I"⟩ : MethodName)
abbrev R5 : Room := { frames := 1, cells := 0, slots := 0, locals := 16 }
set_option maxRecDepth 65536 in
set_option maxHeartbeats 4000000 in
theorem ef5 (a : Addr) (b : Int32) (mid : MethodId) : entryFrame mid #[(.ref a), (.int b)] 4 = mkF mid 0 #[.val (.ref a), .val (.int b), .unset, .unset] [] := by first | (simp [entryFrame, mkF, argsToLocals, Value.category]; done) | rfl
set_option maxRecDepth 65536 in
set_option maxHeartbeats 40000000 in
theorem rm5 (l : Launch) (Z : State) (a0 : Array Value) (hw : ∀ d ∈ tables_1, d.before a0 Z = true) (n0 : Nat) (ws : List Jvm.Cond) (a : Addr) (b : Int32) (s : Int64) (bd : Int32) (pt : Int64) (h0 : Heap) (hn0 : n0 ≤ h0.size) (e0 : Exa Z h0 a "com/example/marginkeel/marginkeel/core/SplitMix64") (e1 : Fld Z h0 a "com/example/marginkeel/marginkeel/core/SplitMix64" "state" "J" (.long s)) (e2 : Fld Z h0 a "com/example/marginkeel/marginkeel/core/SplitMix64" "bound" "I" (.int bd)) (e3 : Fld Z h0 a "com/example/marginkeel/marginkeel/core/SplitMix64" "partial" "J" (.long pt)) (e4 : n0 ≤ a) (e5 : 1 ≤ b.toInt) :
    Ctr l Z n0 y5 method_3_code 4 (some .int) ws R5 #[(.ref a), (.int b)] h0 (QI fun r h => ∃ s2 : Int64, (Keep h0 h [a]) ∧ (Fld Z h a "com/example/marginkeel/marginkeel/core/SplitMix64" "state" "J" (.long s2)) ∧ (Fld Z h a "com/example/marginkeel/marginkeel/core/SplitMix64" "bound" "I" (.int bd)) ∧ (Fld Z h a "com/example/marginkeel/marginkeel/core/SplitMix64" "partial" "J" (.long pt)) ∧ ((own_acc (own_u (s + (-7046029254386353131 : Int64))) b.toInt ∧ r = own_rem (own_u (s + (-7046029254386353131 : Int64))) b ∧ s2 = s + (-7046029254386353131 : Int64)) ∨ (¬ own_acc (own_u (s + (-7046029254386353131 : Int64))) b.toInt ∧ own_acc (own_u ((s + (-7046029254386353131 : Int64)) + (-7046029254386353131 : Int64))) b.toInt ∧ r = own_rem (own_u ((s + (-7046029254386353131 : Int64)) + (-7046029254386353131 : Int64))) b ∧ s2 = (s + (-7046029254386353131 : Int64)) + (-7046029254386353131 : Int64)) ∨ (¬ own_acc (own_u (s + (-7046029254386353131 : Int64))) b.toInt ∧ ¬ own_acc (own_u ((s + (-7046029254386353131 : Int64)) + (-7046029254386353131 : Int64))) b.toInt ∧ r.toInt = -1))) := by
  refine ctr_of pn5 hn0 (ef5 a b) fun G A0 => ?_
  have A1 := A0.aloadN (v := (.ref a)) (pc' := 1) d5_0 rfl rfl rfl
  obtain ⟨r3, h5, ⟨K6, f7, f8, f9, q4⟩, A2⟩ := W.kJ (A1.callV (a := a) (argsL := []) (rest := []) (C' := 0) (S' := 0) (pc' := 4) d5_1 e0 (hw _ (List.mem_of_getElem? (i := 34) rfl)) (hw _ (List.mem_of_getElem? (i := 23) rfl)) (fun hZ => notFace_of_selects (args := #[]) (mvT hZ (hw _ (List.mem_of_getElem? (i := 25) rfl)))) (hw _ (List.mem_of_getElem? (i := 25) rfl)) (hw _ (List.mem_of_getElem? (i := 24) rfl)) (hw _ (List.mem_of_getElem? (i := 3) rfl)) (hw _ (List.mem_of_getElem? (i := 26) rfl)) (rm4 l Z a0 hw n0 [] (a) (s) (bd) (pt) h0 A1.size e0 e1 e2 e3 e4) rfl rfl pd_0 rfl rfl (by decide) (by decide) (Nat.le_of_ble_eq_true rfl) (by decide) (by decide) rfl rfl rfl)
  subst q4
  have A10 := A2.iconst (z := (1 : Int32)) (pc' := 5) d5_4 rfl rfl
  have A11 := A10.lushr (pc' := 6) d5_5 rfl
  have A12 := A11.lstoreN (Ls' := #[.val (.ref a), .val (.int b), .val (.long (((own_s31 (own_m2 (own_m1 (s + (-7046029254386353131 : Int64))))).toUInt64 >>> ((1 : Int32) &&& 0x3f).toInt64.toUInt64).toInt64)), .second]) (pc' := 7) d5_6 rfl rfl
  have A13 : W l Z n0 y5 method_3_code 4 (some .int) R5 G h5 7 #[.val (.ref a), .val (.int b), .val (.long (own_u (s + (-7046029254386353131 : Int64)))), .second] [] 0 0 := A12
  have A14 := A13.lloadN (v := (own_u (s + (-7046029254386353131 : Int64)))) (pc' := 8) d5_7 rfl rfl
  have A15 := A14.iloadN (v := b) (pc' := 9) d5_8 rfl rfl
  obtain ⟨r17, _, ⟨rfl, q18⟩, A16⟩ := W.kI (A15.callS (argsL := [(.long (own_u (s + (-7046029254386353131 : Int64)))), (.int b)]) (rest := []) (C' := 0) (S' := 0) (pc' := 12) d5_9 (hw _ (List.mem_of_getElem? (i := 35) rfl)) (hw _ (List.mem_of_getElem? (i := 36) rfl)) (hw _ (List.mem_of_getElem? (i := 32) rfl)) (hw _ (List.mem_of_getElem? (i := 37) rfl)) (rm6 l Z a0 hw n0 [] ((own_u (s + (-7046029254386353131 : Int64)))) (b)  h5 A15.size (by exact ⟨own_u_nn _, e5⟩)) rfl rfl pd_1 rfl rfl (by decide) (by decide) (Nat.le_of_ble_eq_true rfl) (by decide) (by decide) rfl rfl rfl)
  by_cases c20 : r17.toInt = 0
  · have A21 := A16.ifYes (pc' := 21) d5_12 (teq (ieq (x := r17) (y := (0 : Int32)) rfl rfl c20)).1 (by decide) (by decide)
    have A22 := A21.aloadN (v := (.ref a)) (pc' := 22) d5_21 rfl rfl rfl
    have f23 := (e0.keep K6)
    obtain ⟨r25, h27, ⟨K28, f29, f30, f31, q26⟩, A24⟩ := W.kJ (A22.callV (a := a) (argsL := []) (rest := []) (C' := 0) (S' := 0) (pc' := 25) d5_22 f23 (hw _ (List.mem_of_getElem? (i := 34) rfl)) (hw _ (List.mem_of_getElem? (i := 23) rfl)) (fun hZ => notFace_of_selects (args := #[]) (mvT hZ (hw _ (List.mem_of_getElem? (i := 25) rfl)))) (hw _ (List.mem_of_getElem? (i := 25) rfl)) (hw _ (List.mem_of_getElem? (i := 24) rfl)) (hw _ (List.mem_of_getElem? (i := 3) rfl)) (hw _ (List.mem_of_getElem? (i := 26) rfl)) (rm4 l Z a0 hw n0 [] (a) ((s + (-7046029254386353131 : Int64))) (bd) (pt) h5 A22.size f23 f7 f8 f9 e4) rfl rfl pd_0 rfl rfl (by decide) (by decide) (Nat.le_of_ble_eq_true rfl) (by decide) (by decide) rfl rfl rfl)
    subst q26
    have A32 := A24.iconst (z := (1 : Int32)) (pc' := 26) d5_25 rfl rfl
    have A33 := A32.lushr (pc' := 27) d5_26 rfl
    have A34 := A33.lstoreN (Ls' := #[.val (.ref a), .val (.int b), .val (.long (((own_s31 (own_m2 (own_m1 ((s + (-7046029254386353131 : Int64)) + (-7046029254386353131 : Int64))))).toUInt64 >>> ((1 : Int32) &&& 0x3f).toInt64.toUInt64).toInt64)), .second]) (pc' := 28) d5_27 rfl rfl
    have A35 : W l Z n0 y5 method_3_code 4 (some .int) R5 G h27 28 #[.val (.ref a), .val (.int b), .val (.long (own_u ((s + (-7046029254386353131 : Int64)) + (-7046029254386353131 : Int64)))), .second] [] 0 0 := A34
    have A36 := A35.lloadN (v := (own_u ((s + (-7046029254386353131 : Int64)) + (-7046029254386353131 : Int64)))) (pc' := 29) d5_28 rfl rfl
    have A37 := A36.iloadN (v := b) (pc' := 30) d5_29 rfl rfl
    obtain ⟨r39, _, ⟨rfl, q40⟩, A38⟩ := W.kI (A37.callS (argsL := [(.long (own_u ((s + (-7046029254386353131 : Int64)) + (-7046029254386353131 : Int64)))), (.int b)]) (rest := []) (C' := 0) (S' := 0) (pc' := 33) d5_30 (hw _ (List.mem_of_getElem? (i := 35) rfl)) (hw _ (List.mem_of_getElem? (i := 36) rfl)) (hw _ (List.mem_of_getElem? (i := 32) rfl)) (hw _ (List.mem_of_getElem? (i := 37) rfl)) (rm6 l Z a0 hw n0 [] ((own_u ((s + (-7046029254386353131 : Int64)) + (-7046029254386353131 : Int64)))) (b)  h27 A37.size (by exact ⟨own_u_nn _, e5⟩)) rfl rfl pd_1 rfl rfl (by decide) (by decide) (Nat.le_of_ble_eq_true rfl) (by decide) (by decide) rfl rfl rfl)
    by_cases c42 : r39.toInt = 0
    · have A43 := A38.ifYes (pc' := 42) d5_33 (teq (ieq (x := r39) (y := (0 : Int32)) rfl rfl c42)).1 (by decide) (by decide)
      have A44 := A43.iconst (z := (-1 : Int32)) (pc' := 43) d5_42 rfl rfl
      have K45 : Keep h0 h27 [a] := (((Keep.refl h0 [a]).trans K6 (allS (Or.inl (List.mem_of_getElem? (i := 0) rfl)) all0)).trans K28 (allS (Or.inl (List.mem_of_getElem? (i := 0) rfl)) all0))
      refine A44.retI d5_43 (by decide) (by decide) ⟨_, rfl, ⟨((s + (-7046029254386353131 : Int64)) + (-7046029254386353131 : Int64)), K45, f29, f30, f31, ?_⟩⟩
      have e1 : (-1 : Int32).toInt = (-1) := rfl
      exact Or.inr (Or.inr ⟨(q18.resolve_left fun k => absurd (k.1.symm.trans c20) (by decide)).2, (q40.resolve_left fun k => absurd (k.1.symm.trans c42) (by decide)).2, rfl⟩)
    · have A46 := A38.ifNo (pc' := 36) d5_33 (feq (ine (x := r39) (y := (0 : Int32)) rfl rfl c42)).1 rfl
      have A47 := A46.lloadN (v := (own_u ((s + (-7046029254386353131 : Int64)) + (-7046029254386353131 : Int64)))) (pc' := 37) d5_36 rfl rfl
      have A48 := A47.iloadN (v := b) (pc' := 38) d5_37 rfl rfl
      have A49 := A48.i2l (pc' := 39) d5_38 rfl
      have A50 := A49.lrem (pc' := 40) d5_39 (own_nz b e5) rfl
      have A51 := A50.l2i (pc' := 41) d5_40 rfl
      have K52 : Keep h0 h27 [a] := (((Keep.refl h0 [a]).trans K6 (allS (Or.inl (List.mem_of_getElem? (i := 0) rfl)) all0)).trans K28 (allS (Or.inl (List.mem_of_getElem? (i := 0) rfl)) all0))
      refine A51.retI d5_41 (by decide) (by decide) ⟨_, rfl, ⟨((s + (-7046029254386353131 : Int64)) + (-7046029254386353131 : Int64)), K52, f29, f30, f31, ?_⟩⟩
      exact Or.inr (Or.inl ⟨(q18.resolve_left fun k => absurd (k.1.symm.trans c20) (by decide)).2, (q40.resolve_right fun k => c42 k.1).2, rfl, rfl⟩)
  · have A53 := A16.ifNo (pc' := 15) d5_12 (feq (ine (x := r17) (y := (0 : Int32)) rfl rfl c20)).1 rfl
    have A54 := A53.lloadN (v := (own_u (s + (-7046029254386353131 : Int64)))) (pc' := 16) d5_15 rfl rfl
    have A55 := A54.iloadN (v := b) (pc' := 17) d5_16 rfl rfl
    have A56 := A55.i2l (pc' := 18) d5_17 rfl
    have A57 := A56.lrem (pc' := 19) d5_18 (own_nz b e5) rfl
    have A58 := A57.l2i (pc' := 20) d5_19 rfl
    have K59 : Keep h0 h5 [a] := ((Keep.refl h0 [a]).trans K6 (allS (Or.inl (List.mem_of_getElem? (i := 0) rfl)) all0))
    refine A58.retI d5_20 (by decide) (by decide) ⟨_, rfl, ⟨(s + (-7046029254386353131 : Int64)), K59, f7, f8, f9, ?_⟩⟩
    exact Or.inl ⟨(q18.resolve_right fun k => c20 k.1).2, rfl, rfl⟩
theorem pn3 : plainFor (⟨"com/example/marginkeel/marginkeel/core/SplitMix64", "nextInt", "(I)I"⟩ : MethodName) = true := by first | exact plainFor_of_name (by first | (simp [plainName, overriddenIn]; done) | decide +kernel) | exact Jvm.Free.JP.mathPlain rfl (by decide +kernel) | decide +kernel
theorem d3_0 : decode prog_72_method_3_code 0 = .ok (.iload_n 1, 1) := by decide +kernel
theorem d3_1 : decode prog_72_method_3_code 1 = .ok (.aload_n 0, 1) := by decide +kernel
theorem d3_2 : decode prog_72_method_3_code 2 = .ok (.getfield 19, 3) := by decide +kernel
theorem d3_5 : decode prog_72_method_3_code 5 = .ok (.if_icmp .eq 23, 3) := by decide +kernel
theorem d3_8 : decode prog_72_method_3_code 8 = .ok (.aload_n 0, 1) := by decide +kernel
theorem d3_9 : decode prog_72_method_3_code 9 = .ok (.ldc2_w 25, 3) := by decide +kernel
theorem d3_12 : decode prog_72_method_3_code 12 = .ok (.iload_n 1, 1) := by decide +kernel
theorem d3_13 : decode prog_72_method_3_code 13 = .ok (.i2l, 1) := by decide +kernel
theorem d3_14 : decode prog_72_method_3_code 14 = .ok (.lrem, 1) := by decide +kernel
theorem d3_15 : decode prog_72_method_3_code 15 = .ok (.lconst 1, 1) := by decide +kernel
theorem d3_16 : decode prog_72_method_3_code 16 = .ok (.ladd, 1) := by decide +kernel
theorem d3_17 : decode prog_72_method_3_code 17 = .ok (.iload_n 1, 1) := by decide +kernel
theorem d3_18 : decode prog_72_method_3_code 18 = .ok (.i2l, 1) := by decide +kernel
theorem d3_19 : decode prog_72_method_3_code 19 = .ok (.lrem, 1) := by decide +kernel
theorem d3_20 : decode prog_72_method_3_code 20 = .ok (.putfield 27, 3) := by decide +kernel
theorem d3_23 : decode prog_72_method_3_code 23 = .ok (.aload_n 0, 1) := by decide +kernel
theorem d3_24 : decode prog_72_method_3_code 24 = .ok (.iload_n 1, 1) := by decide +kernel
theorem d3_25 : decode prog_72_method_3_code 25 = .ok (.putfield 19, 3) := by decide +kernel
theorem d3_28 : decode prog_72_method_3_code 28 = .ok (.aload_n 0, 1) := by decide +kernel
theorem d3_29 : decode prog_72_method_3_code 29 = .ok (.invokevirtual 30, 3) := by decide +kernel
theorem d3_32 : decode prog_72_method_3_code 32 = .ok (.iconst 1, 1) := by decide +kernel
theorem d3_33 : decode prog_72_method_3_code 33 = .ok (.lushr, 1) := by decide +kernel
theorem d3_34 : decode prog_72_method_3_code 34 = .ok (.lstore_n 2, 1) := by decide +kernel
theorem d3_35 : decode prog_72_method_3_code 35 = .ok (.lload_n 2, 1) := by decide +kernel
theorem d3_36 : decode prog_72_method_3_code 36 = .ok (.ldc2_w 25, 3) := by decide +kernel
theorem d3_39 : decode prog_72_method_3_code 39 = .ok (.aload_n 0, 1) := by decide +kernel
theorem d3_40 : decode prog_72_method_3_code 40 = .ok (.getfield 27, 3) := by decide +kernel
theorem d3_43 : decode prog_72_method_3_code 43 = .ok (.lsub, 1) := by decide +kernel
theorem d3_44 : decode prog_72_method_3_code 44 = .ok (.lcmp, 1) := by decide +kernel
theorem d3_45 : decode prog_72_method_3_code 45 = .ok (.ifCond .gt (-17), 3) := by decide +kernel
theorem d3_48 : decode prog_72_method_3_code 48 = .ok (.lload_n 2, 1) := by decide +kernel
theorem d3_49 : decode prog_72_method_3_code 49 = .ok (.iload_n 1, 1) := by decide +kernel
theorem d3_50 : decode prog_72_method_3_code 50 = .ok (.i2l, 1) := by decide +kernel
theorem d3_51 : decode prog_72_method_3_code 51 = .ok (.lrem, 1) := by decide +kernel
theorem d3_52 : decode prog_72_method_3_code 52 = .ok (.l2i, 1) := by decide +kernel
theorem d3_53 : decode prog_72_method_3_code 53 = .ok (.ireturn, 1) := by decide +kernel
abbrev y3 : MethodName := (⟨"com/example/marginkeel/marginkeel/core/SplitMix64", "nextInt", "(I)I"⟩ : MethodName)
abbrev R3 : Room := { frames := 1, cells := 0, slots := 0, locals := 14 }
set_option maxRecDepth 65536 in
set_option maxHeartbeats 4000000 in
theorem ef3 (a : Addr) (b : Int32) (mid : MethodId) : entryFrame mid #[(.ref a), (.int b)] 4 = mkF mid 0 #[.val (.ref a), .val (.int b), .unset, .unset] [] := by first | (simp [entryFrame, mkF, argsToLocals, Value.category]; done) | rfl
set_option maxRecDepth 65536 in
set_option maxHeartbeats 40000000 in
theorem rm3 (l : Launch) (Z : State) (a0 : Array Value) (hw : ∀ d ∈ tables_1, d.before a0 Z = true) (n0 : Nat) (ws : List Jvm.Cond) (a : Addr) (b : Int32) (s : Int64) (bd : Int32) (pt : Int64) (h0 : Heap) (hn0 : n0 ≤ h0.size) (e0 : Exa Z h0 a "com/example/marginkeel/marginkeel/core/SplitMix64") (e1 : Fld Z h0 a "com/example/marginkeel/marginkeel/core/SplitMix64" "state" "J" (.long s)) (e2 : Fld Z h0 a "com/example/marginkeel/marginkeel/core/SplitMix64" "bound" "I" (.int bd)) (e3 : Fld Z h0 a "com/example/marginkeel/marginkeel/core/SplitMix64" "partial" "J" (.long pt)) (e4 : n0 ≤ a) (e5 : True) (e6 : 1 ≤ b.toInt ∧ (b.toInt = bd.toInt → pt.toInt = own_part b.toInt)) :
    Ctr l Z n0 y3 prog_72_method_3_code 4 (some .int) ws R3 #[(.ref a), (.int b)] h0 (QI fun r h => ∃ s2 : Int64, ∃ b2 : Int32, ∃ p2 : Int64, (Keep h0 h [a]) ∧ (Fld Z h a "com/example/marginkeel/marginkeel/core/SplitMix64" "state" "J" (.long s2)) ∧ (Fld Z h a "com/example/marginkeel/marginkeel/core/SplitMix64" "bound" "I" (.int b2)) ∧ (Fld Z h a "com/example/marginkeel/marginkeel/core/SplitMix64" "partial" "J" (.long p2)) ∧ (b2.toInt = b.toInt ∧ p2.toInt = own_part b.toInt ∧ ((own_acc (own_u (s + (-7046029254386353131 : Int64))) b.toInt ∧ r = own_rem (own_u (s + (-7046029254386353131 : Int64))) b ∧ s2 = s + (-7046029254386353131 : Int64)) ∨ (¬ own_acc (own_u (s + (-7046029254386353131 : Int64))) b.toInt ∧ own_acc (own_u ((s + (-7046029254386353131 : Int64)) + (-7046029254386353131 : Int64))) b.toInt ∧ r = own_rem (own_u ((s + (-7046029254386353131 : Int64)) + (-7046029254386353131 : Int64))) b ∧ s2 = (s + (-7046029254386353131 : Int64)) + (-7046029254386353131 : Int64)) ∨ (¬ own_acc (own_u (s + (-7046029254386353131 : Int64))) b.toInt ∧ ¬ own_acc (own_u ((s + (-7046029254386353131 : Int64)) + (-7046029254386353131 : Int64))) b.toInt ∧ 0 ≤ r.toInt ∧ r.toInt < b.toInt)))) := by
  refine ctr_of pn3 hn0 (ef3 a b) fun G A0 => ?_
  have A1 := A0.iloadN (v := b) (pc' := 1) d3_0 rfl rfl
  have A2 := A1.aloadN (v := (.ref a)) (pc' := 2) d3_1 rfl rfl rfl
  have A3 := A2.getF (pc' := 5) (host := "") d3_2 (Or.inl (hw _ (List.mem_of_getElem? (i := 17) rfl))) Via.refl e2 rfl
  have join5 : ∀ (v35 : Int32) (v37 : Int64) (h31 : Heap) (q39 : v35.toInt = b.toInt ∧ v37.toInt = own_part b.toInt) (K32 : Keep h0 h31 [a]) (f33 : Exa Z h31 a "com/example/marginkeel/marginkeel/core/SplitMix64") (f34 : Fld Z h31 a "com/example/marginkeel/marginkeel/core/SplitMix64" "state" "J" (.long s)) (f36 : Fld Z h31 a "com/example/marginkeel/marginkeel/core/SplitMix64" "bound" "I" (.int v35)) (f38 : Fld Z h31 a "com/example/marginkeel/marginkeel/core/SplitMix64" "partial" "J" (.long v37)), W l Z n0 y3 prog_72_method_3_code 4 (some .int) R3 G h31 28 #[.val (.ref a), .val (.int b), .unset, .unset] [] 0 0 → Gl R3 n0 G (QI fun r h => ∃ s2 : Int64, ∃ b2 : Int32, ∃ p2 : Int64, (Keep h0 h [a]) ∧ (Fld Z h a "com/example/marginkeel/marginkeel/core/SplitMix64" "state" "J" (.long s2)) ∧ (Fld Z h a "com/example/marginkeel/marginkeel/core/SplitMix64" "bound" "I" (.int b2)) ∧ (Fld Z h a "com/example/marginkeel/marginkeel/core/SplitMix64" "partial" "J" (.long p2)) ∧ (b2.toInt = b.toInt ∧ p2.toInt = own_part b.toInt ∧ ((own_acc (own_u (s + (-7046029254386353131 : Int64))) b.toInt ∧ r = own_rem (own_u (s + (-7046029254386353131 : Int64))) b ∧ s2 = s + (-7046029254386353131 : Int64)) ∨ (¬ own_acc (own_u (s + (-7046029254386353131 : Int64))) b.toInt ∧ own_acc (own_u ((s + (-7046029254386353131 : Int64)) + (-7046029254386353131 : Int64))) b.toInt ∧ r = own_rem (own_u ((s + (-7046029254386353131 : Int64)) + (-7046029254386353131 : Int64))) b ∧ s2 = (s + (-7046029254386353131 : Int64)) + (-7046029254386353131 : Int64)) ∨ (¬ own_acc (own_u (s + (-7046029254386353131 : Int64))) b.toInt ∧ ¬ own_acc (own_u ((s + (-7046029254386353131 : Int64)) + (-7046029254386353131 : Int64))) b.toInt ∧ 0 ≤ r.toInt ∧ r.toInt < b.toInt)))) := by
    intro v35 v37 h31  q39 K32 f33 f34 f36 f38 A30
    obtain ⟨vb, pp⟩ := q39
    have loop45 : ∀ (n54 : Nat) (s2a : Slot) (s2a' : Slot) (sv : Int64) (h48 : Heap) (hs2a : Two s2a s2a') (e55 : own_k sv = n54) (q53 : sv = s ∨ (sv = s + (-7046029254386353131 : Int64) ∧ ¬ own_acc (own_u (s + (-7046029254386353131 : Int64))) b.toInt) ∨ (¬ own_acc (own_u (s + (-7046029254386353131 : Int64))) b.toInt ∧ ¬ own_acc (own_u ((s + (-7046029254386353131 : Int64)) + (-7046029254386353131 : Int64))) b.toInt)) (K47 : Keep h0 h48 [a]) (f49 : Exa Z h48 a "com/example/marginkeel/marginkeel/core/SplitMix64") (f50 : Fld Z h48 a "com/example/marginkeel/marginkeel/core/SplitMix64" "state" "J" (.long sv)) (f51 : Fld Z h48 a "com/example/marginkeel/marginkeel/core/SplitMix64" "bound" "I" (.int v35)) (f52 : Fld Z h48 a "com/example/marginkeel/marginkeel/core/SplitMix64" "partial" "J" (.long v37)), W l Z n0 y3 prog_72_method_3_code 4 (some .int) R3 G h48 28 #[.val (.ref a), .val (.int b), s2a, s2a'] [] 0 0 → Gl R3 n0 G (QI fun r h => ∃ s2 : Int64, ∃ b2 : Int32, ∃ p2 : Int64, (Keep h0 h [a]) ∧ (Fld Z h a "com/example/marginkeel/marginkeel/core/SplitMix64" "state" "J" (.long s2)) ∧ (Fld Z h a "com/example/marginkeel/marginkeel/core/SplitMix64" "bound" "I" (.int b2)) ∧ (Fld Z h a "com/example/marginkeel/marginkeel/core/SplitMix64" "partial" "J" (.long p2)) ∧ (b2.toInt = b.toInt ∧ p2.toInt = own_part b.toInt ∧ ((own_acc (own_u (s + (-7046029254386353131 : Int64))) b.toInt ∧ r = own_rem (own_u (s + (-7046029254386353131 : Int64))) b ∧ s2 = s + (-7046029254386353131 : Int64)) ∨ (¬ own_acc (own_u (s + (-7046029254386353131 : Int64))) b.toInt ∧ own_acc (own_u ((s + (-7046029254386353131 : Int64)) + (-7046029254386353131 : Int64))) b.toInt ∧ r = own_rem (own_u ((s + (-7046029254386353131 : Int64)) + (-7046029254386353131 : Int64))) b ∧ s2 = (s + (-7046029254386353131 : Int64)) + (-7046029254386353131 : Int64)) ∨ (¬ own_acc (own_u (s + (-7046029254386353131 : Int64))) b.toInt ∧ ¬ own_acc (own_u ((s + (-7046029254386353131 : Int64)) + (-7046029254386353131 : Int64))) b.toInt ∧ 0 ≤ r.toInt ∧ r.toInt < b.toInt)))) := by
      intro n54
      induction n54 using Nat.strongRecOn with
      | _ n54 ih =>
        intro s2a s2a' sv h48 hs2a e55 q53  K47 f49 f50 f51 f52 A46
        have A56 := A46.aloadN (v := (.ref a)) (pc' := 29) d3_28 rfl rfl rfl
        obtain ⟨r58, h60, ⟨K61, f62, f63, f64, q59⟩, A57⟩ := W.kJ (A56.callV (a := a) (argsL := []) (rest := []) (C' := 0) (S' := 0) (pc' := 32) d3_29 f49 (hw _ (List.mem_of_getElem? (i := 22) rfl)) (hw _ (List.mem_of_getElem? (i := 23) rfl)) (fun hZ => notFace_of_selects (args := #[]) (mvT hZ (hw _ (List.mem_of_getElem? (i := 25) rfl)))) (hw _ (List.mem_of_getElem? (i := 25) rfl)) (hw _ (List.mem_of_getElem? (i := 24) rfl)) (hw _ (List.mem_of_getElem? (i := 3) rfl)) (hw _ (List.mem_of_getElem? (i := 26) rfl)) (rm4 l Z a0 hw n0 [] (a) (sv) (v35) (v37) h48 A56.size f49 f50 f51 f52 e4) rfl rfl pd_0 rfl rfl (by decide) (by decide) (Nat.le_of_ble_eq_true rfl) (by decide) (by decide) rfl rfl rfl)
        subst q59
        have A65 := A57.iconst (z := (1 : Int32)) (pc' := 33) d3_32 rfl rfl
        have A66 := A65.lushr (pc' := 34) d3_33 rfl
        have A67 := A66.lstoreN (Ls' := #[.val (.ref a), .val (.int b), .val (.long (((own_s31 (own_m2 (own_m1 (sv + (-7046029254386353131 : Int64))))).toUInt64 >>> ((1 : Int32) &&& 0x3f).toInt64.toUInt64).toInt64)), .second]) (pc' := 35) d3_34 (by rcases hs2a with ⟨rfl, rfl⟩ | ⟨q, rfl, rfl⟩ <;> rfl) rfl
        have A68 : W l Z n0 y3 prog_72_method_3_code 4 (some .int) R3 G h60 35 #[.val (.ref a), .val (.int b), .val (.long (own_u (sv + (-7046029254386353131 : Int64)))), .second] [] 0 0 := A67
        have A69 := A68.lloadN (v := (own_u (sv + (-7046029254386353131 : Int64)))) (pc' := 36) d3_35 rfl rfl
        have A70 := A69.ldc2 (z := (9223372036854775807 : Int64)) (pc' := 39) d3_36 (hw _ (List.mem_of_getElem? (i := 19) rfl)) rfl
        have A71 := A70.aloadN (v := (.ref a)) (pc' := 40) d3_39 rfl rfl rfl
        have A72 := A71.getF (pc' := 43) (host := "") d3_40 (Or.inl (hw _ (List.mem_of_getElem? (i := 20) rfl))) Via.refl f64 rfl
        have A73 := A72.lsub (pc' := 44) d3_43 rfl
        have A74 := A73.lcmp (pc' := 45) d3_44 rfl
        by_cases c75 : ((9223372036854775807 : Int64) - v37).toInt < (own_u (sv + (-7046029254386353131 : Int64))).toInt
        · have A77 := A74.ifYes (pc' := 28) d3_45 (tlt (lgt (x := (own_u (sv + (-7046029254386353131 : Int64)))) (y := ((9223372036854775807 : Int64) - v37)) rfl rfl c75)).2.2.1 (by decide) (by decide)
          have K78 : Keep h0 h60 [a] := (K47.trans K61 (allS (Or.inl (List.mem_of_getElem? (i := 0) rfl)) all0))
          have f79 := (f49.keep K61)
          exact ih _ (by
              have rj := (own_rej _ _ b.toInt e6.1 (rng32 b).2 pp).mp c75
              rw [← e55]
              exact own_k_step sv fun z => rj (by rw [z]; exact own_zero b.toInt e6.1 (rng32 b).2)) (.val (.long (own_u (sv + (-7046029254386353131 : Int64))))) (.second) ((sv + (-7046029254386353131 : Int64))) h60 (Or.inr ⟨_, rfl, rfl⟩) rfl (by
              have rj := (own_rej _ _ b.toInt e6.1 (rng32 b).2 pp).mp c75
              rcases q53 with k | ⟨k, k'⟩ | k
              · rw [k] at rj ⊢; exact Or.inr (Or.inl ⟨rfl, rj⟩)
              · rw [k] at rj; exact Or.inr (Or.inr ⟨k', rj⟩)
              · exact Or.inr (Or.inr k))  K78 f79 f62 f63 f64 A77
        · have A80 := A74.ifNo (pc' := 48) d3_45 (flt (lngt (x := (own_u (sv + (-7046029254386353131 : Int64)))) (y := ((9223372036854775807 : Int64) - v37)) rfl rfl c75)).2.2.1 rfl
          have A81 := A80.lloadN (v := (own_u (sv + (-7046029254386353131 : Int64)))) (pc' := 49) d3_48 rfl rfl
          have A82 := A81.iloadN (v := b) (pc' := 50) d3_49 rfl rfl
          have A83 := A82.i2l (pc' := 51) d3_50 rfl
          have A84 := A83.lrem (pc' := 52) d3_51 (own_nz b e6.1) rfl
          have A85 := A84.l2i (pc' := 53) d3_52 rfl
          have K86 : Keep h0 h60 [a] := (K47.trans K61 (allS (Or.inl (List.mem_of_getElem? (i := 0) rfl)) all0))
          refine A85.retI d3_53 (by decide) (by decide) ⟨_, rfl, ⟨(sv + (-7046029254386353131 : Int64)), v35, v37, K86, f62, f63, f64, ?_⟩⟩
          have ac : own_acc (own_u (sv + (-7046029254386353131 : Int64))) b.toInt := Classical.byContradiction fun k => c75 ((own_rej _ _ b.toInt e6.1 (rng32 b).2 pp).mpr k)
          refine ⟨vb, pp, ?_⟩
          rcases q53 with k | ⟨k, k'⟩ | ⟨k, k'⟩
          · rw [k] at ac ⊢; exact Or.inl ⟨ac, rfl, rfl⟩
          · rw [k] at ac ⊢; exact Or.inr (Or.inl ⟨k', ac, rfl, rfl⟩)
          · exact Or.inr (Or.inr ⟨k, k', own_rem_rng _ b e6.1 (own_u_nn _)⟩)
    exact loop45 _ (.unset) (.unset) (s) h31 (Or.inl ⟨rfl, rfl⟩) rfl (by
        exact Or.inl rfl)  K32 f33 f34 f36 f38 A30
  by_cases c4 : b.toInt = bd.toInt
  · have A6 := A3.icmpYes (pc' := 28) d3_5 (teq (ieq (x := b) (y := bd) rfl rfl c4)).1 (by decide) (by decide)
    have K40 : Keep h0 h0 [a] := (Keep.refl h0 [a])
    exact join5 (bd) (pt) h0  (by exact ⟨(by omega), e6.2 (by omega)⟩) K40 e0 e1 e2 e3 A6
  · have A7 := A3.icmpNo (pc' := 8) d3_5 (feq (ine (x := b) (y := bd) rfl rfl c4)).1 rfl
    have A8 := A7.aloadN (v := (.ref a)) (pc' := 9) d3_8 rfl rfl rfl
    have A9 := A8.ldc2 (z := (9223372036854775807 : Int64)) (pc' := 12) d3_9 (hw _ (List.mem_of_getElem? (i := 19) rfl)) rfl
    have A10 := A9.iloadN (v := b) (pc' := 13) d3_12 rfl rfl
    have A11 := A10.i2l (pc' := 14) d3_13 rfl
    have A12 := A11.lrem (pc' := 15) d3_14 (own_nz b e6.1) rfl
    have A13 := A12.lconst (z := (1 : Int64)) (pc' := 16) d3_15 rfl rfl
    have A14 := A13.ladd (pc' := 17) d3_16 rfl
    have A15 := A14.iloadN (v := b) (pc' := 18) d3_17 rfl rfl
    have A16 := A15.i2l (pc' := 19) d3_18 rfl
    have A17 := A16.lrem (pc' := 20) d3_19 (own_nz b e6.1) rfl
    obtain ⟨h19, w20, A18⟩ := A17.putF (pc' := 23) (ty := .long) (host := "") d3_20 (Or.inl (hw _ (List.mem_of_getElem? (i := 20) rfl))) Via.refl e3 e0 (Or.inl (hw _ (List.mem_of_getElem? (i := 21) rfl))) (hw _ (List.mem_of_getElem? (i := 2) rfl)) (by decide) rfl rfl e4 rfl
    have f21 := e3.same w20
    have A22 := A18.aloadN (v := (.ref a)) (pc' := 24) d3_23 rfl rfl rfl
    have A23 := A22.iloadN (v := b) (pc' := 25) d3_24 rfl rfl
    have f24 := (e2.other w20 (Or.inr (slot_ne (Or.inl (hw _ (List.mem_of_getElem? (i := 18) rfl))) (Or.inl (hw _ (List.mem_of_getElem? (i := 21) rfl))) (by decide) (t := .int) (t' := .long) (by decide) (by decide))))
    have f25 := (e0.wr w20)
    obtain ⟨h27, w28, A26⟩ := A23.putF (pc' := 28) (ty := .int) (host := "") d3_25 (Or.inl (hw _ (List.mem_of_getElem? (i := 17) rfl))) Via.refl f24 f25 (Or.inl (hw _ (List.mem_of_getElem? (i := 18) rfl))) (hw _ (List.mem_of_getElem? (i := 2) rfl)) (by decide) rfl rfl e4 rfl
    have f29 := f24.same w28
    have K41 : Keep h0 h27 [a] := (((Keep.refl h0 [a]).wr w20 (Or.inl (List.mem_of_getElem? (i := 0) rfl))).wr w28 (Or.inl (List.mem_of_getElem? (i := 0) rfl)))
    have f42 := (f25.wr w28)
    have f43 := ((e1.other w20 (Or.inr (slot_ne (Or.inl (hw _ (List.mem_of_getElem? (i := 11) rfl))) (Or.inl (hw _ (List.mem_of_getElem? (i := 21) rfl))) (by decide) (t := .long) (t' := .long) (by decide) (by decide)))).other w28 (Or.inr (slot_ne (Or.inl (hw _ (List.mem_of_getElem? (i := 11) rfl))) (Or.inl (hw _ (List.mem_of_getElem? (i := 18) rfl))) (by decide) (t := .long) (t' := .int) (by decide) (by decide))))
    have f44 := (f21.other w28 (Or.inr (slot_ne (Or.inl (hw _ (List.mem_of_getElem? (i := 21) rfl))) (Or.inl (hw _ (List.mem_of_getElem? (i := 18) rfl))) (by decide) (t := .long) (t' := .int) (by decide) (by decide))))
    exact join5 (b) (((((9223372036854775807 : Int64) % b.toInt64) + (1 : Int64)) % b.toInt64)) h27  (by exact ⟨rfl, own_partial b e6.1⟩) K41 f42 f43 f29 f44 A26
theorem pn0 : plainFor x = true := plainFor_of_name (by first | (simp [plainName, overriddenIn, x]; done) | decide +kernel)
abbrev y0 : MethodName := x
abbrev R0 : Room := room_1
set_option maxRecDepth 65536 in
set_option maxHeartbeats 4000000 in
theorem ef0 (seed : Int64) (x1 : Int32) (x2 : Int32) (mid : MethodId) : entryFrame mid #[(.long seed), (.int x1), (.int x2)] maxLocals = mkF mid 0 #[.val (.long seed), .second, .val (.int x1), .val (.int x2), .unset, .unset, .unset, .unset, .unset, .unset, .unset, .unset] [] := by first | (simp [entryFrame, mkF, argsToLocals, Value.category, maxLocals]; done) | rfl
set_option maxRecDepth 65536 in
set_option maxHeartbeats 40000000 in
theorem rm0 (l : Launch) (Z : State) (a0 : Array Value) (hw : ∀ d ∈ tables_1, d.before a0 Z = true) (n0 : Nat) (ws : List Jvm.Cond) (seed : Int64) (x1 : Int32) (x2 : Int32)  (h0 : Heap) (hn0 : n0 ≤ h0.size)  :
    Ctr l Z n0 y0 code maxLocals ret ws R0 #[(.long seed), (.int x1), (.int x2)] h0 (QI fun r h => (True) ∧ (r = 1)) := by
  refine ctr_of pn0 hn0 (ef0 seed x1 x2) fun G A0 => ?_
  have kx1 : (x1 &&& (2147483647 : Int32)).toInt = x1.toInt % 2147483648 := c_mask x1 2147483647 31 (by decide) (by decide)
  have kx2 : (x2 &&& (2147483647 : Int32)).toInt = x2.toInt % 2147483648 := c_mask x2 2147483647 31 (by decide) (by decide)
  have k1 : (1 : Int32).toInt = 1 := rfl
  have k0 : (0 : Int32).toInt = 0 := rfl
  have A1 := A0.iloadN (v := x1) (pc' := 1) at_0 rfl rfl
  have A2 := A1.ldc (z := (2147483647 : Int32)) (pc' := 3) at_1 (hw _ (List.mem_of_getElem? (i := 0) rfl)) rfl
  have A3 := A2.iand (pc' := 4) at_3 rfl
  have A4 := A3.istore (Ls' := #[.val (.long seed), .second, .val (.int x1), .val (.int x2), .val (.int (x1 &&& (2147483647 : Int32))), .unset, .unset, .unset, .unset, .unset, .unset, .unset]) (pc' := 6) at_4 rfl rfl
  have A5 := A4.iload (v := (x1 &&& (2147483647 : Int32))) (pc' := 8) at_6 rfl rfl
  have join7 : ∀ (v13 : Int32) (q14 : 1 ≤ v13.toInt), W l Z n0 y0 code maxLocals ret R0 G h0 14 #[.val (.long seed), .second, .val (.int x1), .val (.int x2), .val (.int v13), .unset, .unset, .unset, .unset, .unset, .unset, .unset] [] 0 0 → Gl R0 n0 G (QI fun r h => (True) ∧ (r = 1)) := by
    intro v13   q14  A12
    have A15 := A12.iloadN (v := x2) (pc' := 15) at_14 rfl rfl
    have A16 := A15.ldc (z := (2147483647 : Int32)) (pc' := 17) at_15 (hw _ (List.mem_of_getElem? (i := 0) rfl)) rfl
    have A17 := A16.iand (pc' := 18) at_17 rfl
    have A18 := A17.istore (Ls' := #[.val (.long seed), .second, .val (.int x1), .val (.int x2), .val (.int v13), .val (.int (x2 &&& (2147483647 : Int32))), .unset, .unset, .unset, .unset, .unset, .unset]) (pc' := 20) at_18 rfl rfl
    have A19 := A18.iload (v := (x2 &&& (2147483647 : Int32))) (pc' := 22) at_20 rfl rfl
    have join21 : ∀ (v27 : Int32) (q28 : 1 ≤ v27.toInt), W l Z n0 y0 code maxLocals ret R0 G h0 28 #[.val (.long seed), .second, .val (.int x1), .val (.int x2), .val (.int v13), .val (.int v27), .unset, .unset, .unset, .unset, .unset, .unset] [] 0 0 → Gl R0 n0 G (QI fun r h => (True) ∧ (r = 1)) := by
      intro v27   q28  A26
      obtain ⟨h29, b30, eb31, g32, E33, X34, D35, A36⟩ := A26.newO (C' := 1) (S' := 3) (pc' := 31) at_28 (hw _ (List.mem_of_getElem? (i := 1) rfl)) (hw _ (List.mem_of_getElem? (i := 2) rfl)) (hw _ (List.mem_of_getElem? (i := 3) rfl)) (by decide) (by decide) rfl rfl rfl
      have f37 : Fld Z h29 b30 "com/example/marginkeel/marginkeel/core/SplitMix64" "state" "J" (.long (0 : Int64)) := D35 (Or.inl (hw _ (List.mem_of_getElem? (i := 11) rfl))) (ty := .long) (by decide)
      have f38 : Fld Z h29 b30 "com/example/marginkeel/marginkeel/core/SplitMix64" "bound" "I" (.int (0 : Int32)) := D35 (Or.inl (hw _ (List.mem_of_getElem? (i := 18) rfl))) (ty := .int) (by decide)
      have f39 : Fld Z h29 b30 "com/example/marginkeel/marginkeel/core/SplitMix64" "partial" "J" (.long (0 : Int64)) := D35 (Or.inl (hw _ (List.mem_of_getElem? (i := 21) rfl))) (ty := .long) (by decide)
      have A40 := A36.dup (pc' := 32) at_31 rfl rfl
      have A41 := A40.lloadN (v := seed) (pc' := 33) at_32 rfl rfl
      obtain ⟨h45, ⟨K46, f47, f48, f49, q44⟩, A42⟩ := W.kV (A41.callI (a := b30) (argsL := [(.long seed)]) (rest := [(.ref b30)]) (C' := 1) (S' := 3) (pc' := 36) at_33 rfl (hw _ (List.mem_of_getElem? (i := 4) rfl)) (hw _ (List.mem_of_getElem? (i := 5) rfl)) (hw _ (List.mem_of_getElem? (i := 3) rfl)) (hw _ (List.mem_of_getElem? (i := 6) rfl)) (rm1 l Z a0 hw n0 [] (b30) (seed)  h29 A41.size X34 f37 f38 f39 g32) rfl rfl pd_2 rfl rfl (by decide) (by decide) (Nat.le_of_ble_eq_true rfl) (by decide) (by decide) rfl rfl rfl)
      have A50 := A42.astore (Ls' := #[.val (.long seed), .second, .val (.int x1), .val (.int x2), .val (.int v13), .val (.int v27), .val (.ref b30), .unset, .unset, .unset, .unset, .unset]) (pc' := 38) at_36 rfl rfl rfl
      obtain ⟨h51, b52, eb53, g54, E55, X56, D57, A58⟩ := A50.newO (C' := 2) (S' := 6) (pc' := 41) at_38 (hw _ (List.mem_of_getElem? (i := 1) rfl)) (hw _ (List.mem_of_getElem? (i := 2) rfl)) (hw _ (List.mem_of_getElem? (i := 3) rfl)) (by decide) (by decide) rfl rfl rfl
      have f59 := (X34.keep K46)
      have ne60 : b30 ≠ b52 := Nat.ne_of_lt (Nat.lt_of_lt_of_le f59.lt (Nat.le_of_eq eb53.symm))
      have f61 : Fld Z h51 b52 "com/example/marginkeel/marginkeel/core/SplitMix64" "state" "J" (.long (0 : Int64)) := D57 (Or.inl (hw _ (List.mem_of_getElem? (i := 11) rfl))) (ty := .long) (by decide)
      have f62 : Fld Z h51 b52 "com/example/marginkeel/marginkeel/core/SplitMix64" "bound" "I" (.int (0 : Int32)) := D57 (Or.inl (hw _ (List.mem_of_getElem? (i := 18) rfl))) (ty := .int) (by decide)
      have f63 : Fld Z h51 b52 "com/example/marginkeel/marginkeel/core/SplitMix64" "partial" "J" (.long (0 : Int64)) := D57 (Or.inl (hw _ (List.mem_of_getElem? (i := 21) rfl))) (ty := .long) (by decide)
      have A64 := A58.dup (pc' := 42) at_41 rfl rfl
      have A65 := A64.lloadN (v := seed) (pc' := 43) at_42 rfl rfl
      obtain ⟨h69, ⟨K70, f71, f72, f73, q68⟩, A66⟩ := W.kV (A65.callI (a := b52) (argsL := [(.long seed)]) (rest := [(.ref b52)]) (C' := 2) (S' := 6) (pc' := 46) at_43 rfl (hw _ (List.mem_of_getElem? (i := 4) rfl)) (hw _ (List.mem_of_getElem? (i := 5) rfl)) (hw _ (List.mem_of_getElem? (i := 3) rfl)) (hw _ (List.mem_of_getElem? (i := 6) rfl)) (rm1 l Z a0 hw n0 [] (b52) (seed)  h51 A65.size X56 f61 f62 f63 g54) rfl rfl pd_2 rfl rfl (by decide) (by decide) (Nat.le_of_ble_eq_true rfl) (by decide) (by decide) rfl rfl rfl)
      have A74 := A66.astore (Ls' := #[.val (.long seed), .second, .val (.int x1), .val (.int x2), .val (.int v13), .val (.int v27), .val (.ref b30), .val (.ref b52), .unset, .unset, .unset, .unset]) (pc' := 48) at_46 rfl rfl rfl
      have A75 := A74.aload (v := (.ref b30)) (pc' := 50) at_48 rfl rfl rfl
      have A76 := A75.iload (v := v13) (pc' := 52) at_50 rfl rfl
      have f77 := ((f59.ext E55).keep K70)
      have f78 := ((f47.ext E55).keep K70 (ninS ne60 nin0))
      have f79 := ((f48.ext E55).keep K70 (ninS ne60 nin0))
      have f80 := ((f49.ext E55).keep K70 (ninS ne60 nin0))
      obtain ⟨r82, h84, ⟨u86, u87, u88, K85, f89, f90, f91, q83⟩, A81⟩ := W.kI (A76.callV (a := b30) (argsL := [(.int v13)]) (rest := []) (C' := 2) (S' := 6) (pc' := 55) at_52 f77 (hw _ (List.mem_of_getElem? (i := 12) rfl)) (hw _ (List.mem_of_getElem? (i := 13) rfl)) (fun hZ => notFace_of_selects (args := #[]) (mvT hZ (hw _ (List.mem_of_getElem? (i := 15) rfl)))) (hw _ (List.mem_of_getElem? (i := 15) rfl)) (hw _ (List.mem_of_getElem? (i := 14) rfl)) (hw _ (List.mem_of_getElem? (i := 3) rfl)) (hw _ (List.mem_of_getElem? (i := 16) rfl)) (rm3 l Z a0 hw n0 [] (b30) (v13) (seed) ((0 : Int32)) ((0 : Int64)) h69 A76.size f77 f78 f79 f80 g32 (by first | trivial | omega | (refine ⟨by omega, fun hb => ?_⟩; first | (exfalso; omega) | (rw [show v13.toInt = v13.toInt by omega]; exact hb.2.1))) (by first | trivial | omega | (refine ⟨by omega, fun hb => ?_⟩; first | (exfalso; omega) | (rw [show v13.toInt = v13.toInt by omega]; exact hb.2.1)))) rfl rfl pd_3 rfl rfl (by decide) (by decide) (Nat.le_of_ble_eq_true rfl) (by decide) (by decide) rfl rfl rfl)
      have A92 := A81.istore (Ls' := #[.val (.long seed), .second, .val (.int x1), .val (.int x2), .val (.int v13), .val (.int v27), .val (.ref b30), .val (.ref b52), .val (.int r82), .unset, .unset, .unset]) (pc' := 57) at_55 rfl rfl
      have A93 := A92.aload (v := (.ref b52)) (pc' := 59) at_57 rfl rfl rfl
      have A94 := A93.iload (v := v13) (pc' := 61) at_59 rfl rfl
      have f95 := ((X56.keep K70).keep K85)
      have f96 := (f71.keep K85 (ninS (Ne.symm ne60) nin0))
      have f97 := (f72.keep K85 (ninS (Ne.symm ne60) nin0))
      have f98 := (f73.keep K85 (ninS (Ne.symm ne60) nin0))
      obtain ⟨r100, h102, ⟨u104, K103, f105, f106, f107, q101⟩, A99⟩ := W.kI (A94.callS (argsL := [(.ref b52), (.int v13)]) (rest := []) (C' := 2) (S' := 6) (pc' := 64) at_61 (hw _ (List.mem_of_getElem? (i := 30) rfl)) (hw _ (List.mem_of_getElem? (i := 31) rfl)) (hw _ (List.mem_of_getElem? (i := 32) rfl)) (hw _ (List.mem_of_getElem? (i := 33) rfl)) (rm5 l Z a0 hw n0 [] (b52) (v13) (seed) ((0 : Int32)) ((0 : Int64)) h84 A94.size f95 f96 f97 f98 g54 (by omega)) rfl rfl pd_4 rfl rfl (by decide) (by decide) (Nat.le_of_ble_eq_true rfl) (by decide) (by decide) rfl rfl rfl)
      have p1 := own_pair (own_rem_rng _ _ (by omega) (own_u_nn _)) (own_rem_rng _ _ (by omega) (own_u_nn _)) q83.2.2 q101
      have A108 := A99.istore (Ls' := #[.val (.long seed), .second, .val (.int x1), .val (.int x2), .val (.int v13), .val (.int v27), .val (.ref b30), .val (.ref b52), .val (.int r82), .val (.int r100), .unset, .unset]) (pc' := 66) at_64 rfl rfl
      have A109 := A108.iload (v := r100) (pc' := 68) at_66 rfl rfl
      by_cases c110 : r100.toInt < 0
      · have A111 := A109.ifNo (pc' := 71) at_68 (tlt (ilt (x := r100) (y := (0 : Int32)) rfl rfl c110)).2.1 rfl
        have A112 := A111.iconst (z := (0 : Int32)) (pc' := 72) at_71 rfl rfl
        have A113 := A112.iload (v := r82) (pc' := 74) at_72 rfl rfl
        by_cases c114 : r82.toInt < 0
        · have A115 := A113.icmpYes (pc' := 88) at_74 (tlt (igt (x := (0 : Int32)) (y := r82) rfl rfl c114)).2.2.1 (by decide) (by decide)
          have A116 := A115.iconst (z := (0 : Int32)) (pc' := 89) at_88 rfl rfl
          refine A116.retN (t := .boolean) (z' := (0 : Int32)) at_89 (by decide) (by decide) (by simp) rfl ⟨_, rfl, ⟨trivial, ?_⟩⟩
          have e1 : (0 : Int32).toInt = 0 := rfl
          exfalso
          omega
        · have A117 := A113.icmpNo (pc' := 77) at_74 (flt (ingt (x := (0 : Int32)) (y := r82) rfl rfl c114)).2.2.1 rfl
          have A118 := A117.iload (v := r82) (pc' := 79) at_77 rfl rfl
          have A119 := A118.iload (v := v13) (pc' := 81) at_79 rfl rfl
          by_cases c120 : r82.toInt < v13.toInt
          · have A121 := A119.icmpNo (pc' := 84) at_81 (tlt (ilt (x := r82) (y := v13) rfl rfl c120)).2.1 rfl
            have A122 := A121.iconst (z := (1 : Int32)) (pc' := 85) at_84 rfl rfl
            have A123 := A122.goto (pc' := 89) at_85 (by decide) (by decide)
            refine A123.retN (t := .boolean) (z' := (1 : Int32)) at_89 (by decide) (by decide) (by simp) rfl ⟨_, rfl, ⟨trivial, ?_⟩⟩
            have e1 : (1 : Int32).toInt = 1 := rfl
            rfl
          · have A124 := A119.icmpYes (pc' := 88) at_81 (flt (inlt (x := r82) (y := v13) rfl rfl c120)).2.1 (by decide) (by decide)
            have A125 := A124.iconst (z := (0 : Int32)) (pc' := 89) at_88 rfl rfl
            refine A125.retN (t := .boolean) (z' := (0 : Int32)) at_89 (by decide) (by decide) (by simp) rfl ⟨_, rfl, ⟨trivial, ?_⟩⟩
            have e1 : (0 : Int32).toInt = 0 := rfl
            exfalso
            omega
      · have A126 := A109.ifYes (pc' := 90) at_68 (flt (inlt (x := r100) (y := (0 : Int32)) rfl rfl c110)).2.1 (by decide) (by decide)
        have A127 := A126.iload (v := r82) (pc' := 92) at_90 rfl rfl
        have A128 := A127.iload (v := r100) (pc' := 94) at_92 rfl rfl
        by_cases c129 : r82.toInt = r100.toInt
        · have A130 := A128.icmpYes (pc' := 99) at_94 (teq (ieq (x := r82) (y := r100) rfl rfl c129)).1 (by decide) (by decide)
          have A131 := A130.aload (v := (.ref b30)) (pc' := 101) at_99 rfl rfl rfl
          have A132 := A131.iload (v := v27) (pc' := 103) at_101 rfl rfl
          have f133 := ((f77.keep K85).keep K103)
          have f134 := (f89.keep K103 (ninS ne60 nin0))
          have f135 := (f90.keep K103 (ninS ne60 nin0))
          have f136 := (f91.keep K103 (ninS ne60 nin0))
          obtain ⟨r138, h140, ⟨u142, u143, u144, K141, f145, f146, f147, q139⟩, A137⟩ := W.kI (A132.callV (a := b30) (argsL := [(.int v27)]) (rest := []) (C' := 2) (S' := 6) (pc' := 106) at_103 f133 (hw _ (List.mem_of_getElem? (i := 12) rfl)) (hw _ (List.mem_of_getElem? (i := 13) rfl)) (fun hZ => notFace_of_selects (args := #[]) (mvT hZ (hw _ (List.mem_of_getElem? (i := 15) rfl)))) (hw _ (List.mem_of_getElem? (i := 15) rfl)) (hw _ (List.mem_of_getElem? (i := 14) rfl)) (hw _ (List.mem_of_getElem? (i := 3) rfl)) (hw _ (List.mem_of_getElem? (i := 16) rfl)) (rm3 l Z a0 hw n0 [] (b30) (v27) (u86) (u87) (u88) h102 A132.size f133 f134 f135 f136 g32 (by first | trivial | omega | (refine ⟨by omega, fun hb => ?_⟩; first | (exfalso; omega) | (rw [show v27.toInt = v13.toInt by omega]; exact q83.2.1))) (by first | trivial | omega | (refine ⟨by omega, fun hb => ?_⟩; first | (exfalso; omega) | (rw [show v27.toInt = v13.toInt by omega]; exact q83.2.1)))) rfl rfl pd_3 rfl rfl (by decide) (by decide) (Nat.le_of_ble_eq_true rfl) (by decide) (by decide) rfl rfl rfl)
          have A148 := A137.istore (Ls' := #[.val (.long seed), .second, .val (.int x1), .val (.int x2), .val (.int v13), .val (.int v27), .val (.ref b30), .val (.ref b52), .val (.int r82), .val (.int r100), .val (.int r138), .unset]) (pc' := 108) at_106 rfl rfl
          have A149 := A148.aload (v := (.ref b52)) (pc' := 110) at_108 rfl rfl rfl
          have A150 := A149.iload (v := v27) (pc' := 112) at_110 rfl rfl
          have f151 := ((f95.keep K103).keep K141)
          have f152 := (f105.keep K141 (ninS (Ne.symm ne60) nin0))
          have f153 := (f106.keep K141 (ninS (Ne.symm ne60) nin0))
          have f154 := (f107.keep K141 (ninS (Ne.symm ne60) nin0))
          obtain ⟨r156, h158, ⟨u160, K159, f161, f162, f163, q157⟩, A155⟩ := W.kI (A150.callS (argsL := [(.ref b52), (.int v27)]) (rest := []) (C' := 2) (S' := 6) (pc' := 115) at_112 (hw _ (List.mem_of_getElem? (i := 30) rfl)) (hw _ (List.mem_of_getElem? (i := 31) rfl)) (hw _ (List.mem_of_getElem? (i := 32) rfl)) (hw _ (List.mem_of_getElem? (i := 33) rfl)) (rm5 l Z a0 hw n0 [] (b52) (v27) (u104) ((0 : Int32)) ((0 : Int64)) h140 A150.size f151 f152 f153 f154 g54 (by omega)) rfl rfl pd_4 rfl rfl (by decide) (by decide) (Nat.le_of_ble_eq_true rfl) (by decide) (by decide) rfl rfl rfl)
          have es := (p1.resolve_left (by omega)).2.2
          rw [es] at q139
          have p2 := own_pair (own_rem_rng _ _ (by omega) (own_u_nn _)) (own_rem_rng _ _ (by omega) (own_u_nn _)) q139.2.2 q157
          have A164 := A155.istore (Ls' := #[.val (.long seed), .second, .val (.int x1), .val (.int x2), .val (.int v13), .val (.int v27), .val (.ref b30), .val (.ref b52), .val (.int r82), .val (.int r100), .val (.int r138), .val (.int r156)]) (pc' := 117) at_115 rfl rfl
          have A165 := A164.iload (v := r156) (pc' := 119) at_117 rfl rfl
          by_cases c166 : r156.toInt < 0
          · have A167 := A165.ifNo (pc' := 122) at_119 (tlt (ilt (x := r156) (y := (0 : Int32)) rfl rfl c166)).2.1 rfl
            have A168 := A167.iconst (z := (0 : Int32)) (pc' := 123) at_122 rfl rfl
            have A169 := A168.iload (v := r138) (pc' := 125) at_123 rfl rfl
            by_cases c170 : r138.toInt < 0
            · have A171 := A169.icmpYes (pc' := 139) at_125 (tlt (igt (x := (0 : Int32)) (y := r138) rfl rfl c170)).2.2.1 (by decide) (by decide)
              have A172 := A171.iconst (z := (0 : Int32)) (pc' := 140) at_139 rfl rfl
              refine A172.retN (t := .boolean) (z' := (0 : Int32)) at_140 (by decide) (by decide) (by simp) rfl ⟨_, rfl, ⟨trivial, ?_⟩⟩
              have e1 : (0 : Int32).toInt = 0 := rfl
              exfalso
              omega
            · have A173 := A169.icmpNo (pc' := 128) at_125 (flt (ingt (x := (0 : Int32)) (y := r138) rfl rfl c170)).2.2.1 rfl
              have A174 := A173.iload (v := r138) (pc' := 130) at_128 rfl rfl
              have A175 := A174.iload (v := v27) (pc' := 132) at_130 rfl rfl
              by_cases c176 : r138.toInt < v27.toInt
              · have A177 := A175.icmpNo (pc' := 135) at_132 (tlt (ilt (x := r138) (y := v27) rfl rfl c176)).2.1 rfl
                have A178 := A177.iconst (z := (1 : Int32)) (pc' := 136) at_135 rfl rfl
                have A179 := A178.goto (pc' := 140) at_136 (by decide) (by decide)
                refine A179.retN (t := .boolean) (z' := (1 : Int32)) at_140 (by decide) (by decide) (by simp) rfl ⟨_, rfl, ⟨trivial, ?_⟩⟩
                have e1 : (1 : Int32).toInt = 1 := rfl
                rfl
              · have A180 := A175.icmpYes (pc' := 139) at_132 (flt (inlt (x := r138) (y := v27) rfl rfl c176)).2.1 (by decide) (by decide)
                have A181 := A180.iconst (z := (0 : Int32)) (pc' := 140) at_139 rfl rfl
                refine A181.retN (t := .boolean) (z' := (0 : Int32)) at_140 (by decide) (by decide) (by simp) rfl ⟨_, rfl, ⟨trivial, ?_⟩⟩
                have e1 : (0 : Int32).toInt = 0 := rfl
                exfalso
                omega
          · have A182 := A165.ifYes (pc' := 141) at_119 (flt (inlt (x := r156) (y := (0 : Int32)) rfl rfl c166)).2.1 (by decide) (by decide)
            have A183 := A182.iload (v := r138) (pc' := 143) at_141 rfl rfl
            have A184 := A183.iload (v := r156) (pc' := 145) at_143 rfl rfl
            by_cases c185 : r138.toInt = r156.toInt
            · have A186 := A184.icmpNo (pc' := 148) at_145 (teq (ieq (x := r138) (y := r156) rfl rfl c185)).2 rfl
              have A187 := A186.aload (v := (.ref b30)) (pc' := 150) at_148 rfl rfl rfl
              have f188 := ((f133.keep K141).keep K159)
              have f189 := (f145.keep K159 (ninS ne60 nin0))
              have f190 := (f146.keep K159 (ninS ne60 nin0))
              have f191 := (f147.keep K159 (ninS ne60 nin0))
              obtain ⟨r193, h195, ⟨K196, f197, f198, f199, q194⟩, A192⟩ := W.kJ (A187.callV (a := b30) (argsL := []) (rest := []) (C' := 2) (S' := 6) (pc' := 153) at_150 f188 (hw _ (List.mem_of_getElem? (i := 34) rfl)) (hw _ (List.mem_of_getElem? (i := 23) rfl)) (fun hZ => notFace_of_selects (args := #[]) (mvT hZ (hw _ (List.mem_of_getElem? (i := 25) rfl)))) (hw _ (List.mem_of_getElem? (i := 25) rfl)) (hw _ (List.mem_of_getElem? (i := 24) rfl)) (hw _ (List.mem_of_getElem? (i := 3) rfl)) (hw _ (List.mem_of_getElem? (i := 26) rfl)) (rm4 l Z a0 hw n0 [] (b30) (u142) (u143) (u144) h158 A187.size f188 f189 f190 f191 g32) rfl rfl pd_0 rfl rfl (by decide) (by decide) (Nat.le_of_ble_eq_true rfl) (by decide) (by decide) rfl rfl rfl)
              have A200 := A192.aload (v := (.ref b52)) (pc' := 155) at_153 rfl rfl rfl
              have f201 := ((f151.keep K159).keep K196)
              have f202 := (f161.keep K196 (ninS (Ne.symm ne60) nin0))
              have f203 := (f162.keep K196 (ninS (Ne.symm ne60) nin0))
              have f204 := (f163.keep K196 (ninS (Ne.symm ne60) nin0))
              obtain ⟨r206, h208, ⟨K209, f210, f211, f212, q207⟩, A205⟩ := W.kJ (A200.callV (a := b52) (argsL := []) (rest := [(.long r193)]) (C' := 2) (S' := 6) (pc' := 158) at_155 f201 (hw _ (List.mem_of_getElem? (i := 34) rfl)) (hw _ (List.mem_of_getElem? (i := 23) rfl)) (fun hZ => notFace_of_selects (args := #[]) (mvT hZ (hw _ (List.mem_of_getElem? (i := 25) rfl)))) (hw _ (List.mem_of_getElem? (i := 25) rfl)) (hw _ (List.mem_of_getElem? (i := 24) rfl)) (hw _ (List.mem_of_getElem? (i := 3) rfl)) (hw _ (List.mem_of_getElem? (i := 26) rfl)) (rm4 l Z a0 hw n0 [] (b52) (u160) ((0 : Int32)) ((0 : Int64)) h195 A200.size f201 f202 f203 f204 g54) rfl rfl pd_0 rfl rfl (by decide) (by decide) (Nat.le_of_ble_eq_true rfl) (by decide) (by decide) rfl rfl rfl)
              have A213 := A205.lcmp (pc' := 159) at_158 rfl
              by_cases c214 : r193.toInt = r206.toInt
              · have A215 := A213.ifNo (pc' := 162) at_159 (teq (leq (x := r193) (y := r206) rfl rfl c214)).2 rfl
                have A216 := A215.iconst (z := (1 : Int32)) (pc' := 163) at_162 rfl rfl
                have A217 := A216.goto (pc' := 167) at_163 (by decide) (by decide)
                refine A217.retN (t := .boolean) (z' := (1 : Int32)) at_167 (by decide) (by decide) (by simp) rfl ⟨_, rfl, ⟨trivial, ?_⟩⟩
                have e1 : (1 : Int32).toInt = 1 := rfl
                rfl
              · have A218 := A213.ifYes (pc' := 166) at_159 (feq (lne (x := r193) (y := r206) rfl rfl c214)).2 (by decide) (by decide)
                have A219 := A218.iconst (z := (0 : Int32)) (pc' := 167) at_166 rfl rfl
                refine A219.retN (t := .boolean) (z' := (0 : Int32)) at_167 (by decide) (by decide) (by simp) rfl ⟨_, rfl, ⟨trivial, ?_⟩⟩
                have e1 : (0 : Int32).toInt = 0 := rfl
                exfalso
                refine c214 (congrArg Int64.toInt ?_)
                rw [q194, q207, (p2.resolve_left (by omega)).2.2]
            · have A220 := A184.icmpYes (pc' := 166) at_145 (feq (ine (x := r138) (y := r156) rfl rfl c185)).2 (by decide) (by decide)
              have A221 := A220.iconst (z := (0 : Int32)) (pc' := 167) at_166 rfl rfl
              refine A221.retN (t := .boolean) (z' := (0 : Int32)) at_167 (by decide) (by decide) (by simp) rfl ⟨_, rfl, ⟨trivial, ?_⟩⟩
              have e1 : (0 : Int32).toInt = 0 := rfl
              exfalso
              omega
        · have A222 := A128.icmpNo (pc' := 97) at_94 (feq (ine (x := r82) (y := r100) rfl rfl c129)).1 rfl
          have A223 := A222.iconst (z := (0 : Int32)) (pc' := 98) at_97 rfl rfl
          refine A223.retN (t := .boolean) (z' := (0 : Int32)) at_98 (by decide) (by decide) (by simp) rfl ⟨_, rfl, ⟨trivial, ?_⟩⟩
          have e1 : (0 : Int32).toInt = 0 := rfl
          exfalso
          omega
    by_cases c20 : (x2 &&& (2147483647 : Int32)).toInt = 0
    · have A22 := A19.ifNo (pc' := 25) at_22 (teq (ieq (x := (x2 &&& (2147483647 : Int32))) (y := (0 : Int32)) rfl rfl c20)).2 rfl
      have A23 := A22.iconst (z := (1 : Int32)) (pc' := 26) at_25 rfl rfl
      have A24 := A23.istore (Ls' := #[.val (.long seed), .second, .val (.int x1), .val (.int x2), .val (.int v13), .val (.int (1 : Int32)), .unset, .unset, .unset, .unset, .unset, .unset]) (pc' := 28) at_26 rfl rfl
      exact join21 ((1 : Int32))   (by omega)  A24
    · have A25 := A19.ifYes (pc' := 28) at_22 (feq (ine (x := (x2 &&& (2147483647 : Int32))) (y := (0 : Int32)) rfl rfl c20)).2 (by decide) (by decide)
      exact join21 ((x2 &&& (2147483647 : Int32)))   (by omega)  A25
  by_cases c6 : (x1 &&& (2147483647 : Int32)).toInt = 0
  · have A8 := A5.ifNo (pc' := 11) at_8 (teq (ieq (x := (x1 &&& (2147483647 : Int32))) (y := (0 : Int32)) rfl rfl c6)).2 rfl
    have A9 := A8.iconst (z := (1 : Int32)) (pc' := 12) at_11 rfl rfl
    have A10 := A9.istore (Ls' := #[.val (.long seed), .second, .val (.int x1), .val (.int x2), .val (.int (1 : Int32)), .unset, .unset, .unset, .unset, .unset, .unset, .unset]) (pc' := 14) at_12 rfl rfl
    exact join7 ((1 : Int32))   (by omega)  A10
  · have A11 := A5.ifYes (pc' := 14) at_8 (feq (ine (x := (x1 &&& (2147483647 : Int32))) (y := (0 : Int32)) rfl rfl c6)).2 (by decide) (by decide)
    exact join7 ((x1 &&& (2147483647 : Int32)))   (by omega)  A11
set_option maxRecDepth 65536 in
set_option maxHeartbeats 40000000 in
theorem comes_1 {Post : Tables → Env → Array Value → State → Outcome → State → Prop} (hpost : ∀ tb e args s v u, (limb_1_1.after args s (.returned v) u = true ∧ limb_1_2.after args s (.returned v) u = true ∧ True) → FrameEnd s (.returned v) u (Jvm.fieldLocs frame_1_writes args s ++ Jvm.arrayLocs frame_1_arrays args s ++ Jvm.staticLocs frame_1_statics s) 16 128 → Post tb e args s (.returned v) u) :
    ArmFor flags0 classFile x code maxLocals ret World_1 tables_1 room_1 Calls_1 rest_1 Pre_1 Post := by
  intro l hfl _ _ p e ha hc hk s m args below hf hA hF happ hP
  obtain ⟨hcalls, hrest, hpre⟩ := hP
  obtain ⟨-, -, -, hnamed, -, -, -, hat⟩ := (Spec.applies_iff hf).mp happ
  obtain ⟨hg, hn⟩ := and_e (Cond.before_iff.mp (show (Jvm.Cond.and given_1 narrow_1).before args s = true from hpre))
  obtain ⟨g1a, g1b⟩ := and_e hg
  obtain ⟨g2a, g2b⟩ := and_e g1b
  obtain ⟨g3a, g3b⟩ := and_e g2b
  obtain ⟨w0, w1, w2, rfl⟩ : ∃ w0 w1 w2 : Value, args = #[w0, w1, w2] := by
    have hs : args.size = 3 := by simpa [Cond.value, given_1] using g1a
    obtain ⟨L⟩ := args
    match L, hs with
    | [w0, w1, w2], _ => exact ⟨w0, w1, w2, rfl⟩
  have hw := fun d (hd : d ∈ tables_1) => atoms_spec (ws := Jvm.Cond.code x code maxLocals ret :: tables_1) hat d (List.mem_cons_of_mem _ hd)
  obtain ⟨i0, ei0⟩ := isL_v g2a
  obtain rfl : w0 = (.long i0) := Option.some.inj ei0
  obtain ⟨i1, ei1⟩ := is_v g3a
  obtain rfl : w1 = (.int i1) := Option.some.inj ei1
  obtain ⟨i2, ei2⟩ := is_v g3b
  obtain rfl : w2 = (.int i2) := Option.some.inj ei2
  obtain ⟨n, o, h1, h2, h3, _, L, rfl, ⟨N, ⟨r, rfl, hr⟩⟩, hq⟩ := rm0 l s _ hw s.heap.size tables_1 i0 i1 i2  s.heap (Nat.le_refl _)  p e ha hc hk s m _ below hf ((Spec.applies_iff_loose hf).mp happ).1 ⟨rfl, State.Warmed39.refl s, rfl⟩ trivial
  have hr1 : r = 1 := hr.2
  subst hr1
  refine ⟨n, _, h1, h2, h3, hpost _ _ _ _ _ _ ⟨Cond.after_iff.mpr rfl, Cond.after_iff.mpr (eq_i res_at (Term.int_eval (1)) rfl), trivial⟩ ⟨hq.1, hq.2.1, (hq.2.2.sift fun y hy => Or.inr (N y hy)).mono (by decide) (by decide)⟩⟩
theorem main_1_1 : Claimed_1_1 := comes_1 fun _ _ _ _ _ _ h hF => ⟨h.1, hF⟩
theorem main_1_2 : Claimed_1_2 := comes_1 fun _ _ _ _ _ _ h hF => ⟨h.2.1, hF⟩
end Jvm.Pilot.@@N@@
namespace Jvm.Pilot.@@N@@
open Jvm Jvm.ClassFile Sem Op Lib Jvm.Free Jvm.Stand Jvm.Pilot.@@N@@.Jvm.D
/-! MADE BY PROGRAM (witnessworld.py) out of the Statement's table words and the real class files: 9 classes; the members and pool entries that the words name. The judged class is class 1, her method 3. -/
namespace start1
open Jvm.ClassFile
def u (s : String) : CpInfo := .utf8 (stringToUtf16 s)
/-- a pool by its gaps: so many unusable entries, then the entry; so many at the end -/
def gap : Nat → List CpInfo → List CpInfo
  | 0, r => r
  | n + 1, r => .unusable :: gap n r
def poolList (es : List (Nat × CpInfo)) (last : Nat) : List CpInfo := es.foldr (fun e r => gap e.1 (e.2 :: r)) (gap last [])
def pool (es : List (Nat × CpInfo)) (last : Nat) : Array CpInfo := ⟨poolList es last⟩
def fileOf (pool : Array CpInfo) (this : Nat) (attrs : Array Attribute := #[]) (ms : Array MethodInfo := #[]) (fl : Nat := 33) (sup : Nat := 0) (ifs : Array Nat := #[]) (fds : Array FieldInfo := #[]) : ClassFile where
  minorVersion := 0
  majorVersion := 65
  constantPool := pool
  accessFlags := fl
  thisClass := this
  superClass := sup
  interfaces := ifs
  fields := fds
  methods := ms
  attributes := attrs
def plain (name : String) (sup : Option ClassId) : Class where
  name := name
  kind := .ordinary
  loader := none
  accessFlags := 33
  super := sup
  interfaces := #[]
  cf := none
  fields := #[]
  methods := #[]
  instanceTypes := #[]
  staticTypes := #[]
  resolved := #[]
  callSites := []
  init := .initialized
  statics := none
  mirror := none

def pool0 : Array CpInfo := pool [(5, u "<init>"), (0, u "()V"), (1, .class_ 10), (1, u "java/lang/Object")] 113

def k0c0 : Code := { maxStack := 0, maxLocals := 1, code := object_method_1_code, exceptionTable := #[], attributes := #[] }
def k0m0 : Method := { name := "<init>", desc := "()V", sig := { parameters := [], returnType := none }, accessFlags := 1, code := some k0c0 }
/-- java/lang/Object -/
def k0 : Class := { plain "java/lang/Object" none with
  accessFlags := 33
  interfaces := #[]
  cf := some (fileOf pool0 8 #[] #[{ accessFlags := 1, nameIndex := 5, descriptorIndex := 6, attributes := #[] }] 33 0 #[] #[])
  fields := #[]
  methods := #[k0m0]
  instanceTypes := #[]
  staticTypes := #[]
  resolved := Array.replicate 124 none
  statics := none }

def pool1 : Array CpInfo := pool [(2, .class_ 4), (1, u "java/lang/Object"), (0, u "<init>"), (0, u "()V"), (2, .long 9223372036854775807), (1, .methodref 12 13), (0, .class_ 14), (0, .nameAndType 15 16), (0, u "com/example/marginkeel/marginkeel/core/SplitMix64"), (0, u "nextLong"), (0, u "()J"), (0, .methodref 18 19), (0, .class_ 20), (0, .nameAndType 21 22), (0, u "com/example/marginkeel/marginkeel/core/SplitMix64NextIntPinLaw"), (0, u "accepted"), (0, u "(JI)Z"), (0, .integer 2147483647), (0, .methodref 12 25), (0, .nameAndType 5 26), (0, u "(J)V"), (0, .methodref 12 28), (0, .nameAndType 29 30), (0, u "nextInt"), (0, u "(I)I"), (0, .methodref 18 32), (0, .nameAndType 33 34), (0, u "ref"), (0, u "(Lcom/example/marginkeel/marginkeel/core/SplitMix64;I)I"), (3, u "law"), (0, u "(JII)Z")] 2

def k1m0 : Method := { name := "<init>", desc := "()V", sig := { parameters := [], returnType := none }, accessFlags := 1, code := none }
def k1c1 : Code := { maxStack := 6, maxLocals := 5, code := method_2_code, exceptionTable := #[], attributes := #[] }
def k1m1 : Method := { name := "accepted", desc := "(JI)Z", sig := { parameters := [.long, .int], returnType := some .boolean }, accessFlags := 10, code := some k1c1 }
def k1c2 : Code := { maxStack := 4, maxLocals := 4, code := method_3_code, exceptionTable := #[], attributes := #[] }
def k1m2 : Method := { name := "ref", desc := "(Lcom/example/marginkeel/marginkeel/core/SplitMix64;I)I", sig := { parameters := [(.object "com/example/marginkeel/marginkeel/core/SplitMix64"), .int], returnType := some .int }, accessFlags := 10, code := some k1c2 }
def k1c3 : Code := { maxStack := 4, maxLocals := 12, code := code, exceptionTable := #[], attributes := #[] }
def k1m3 : Method := { name := "law", desc := "(JII)Z", sig := { parameters := [.long, .int, .int], returnType := some .boolean }, accessFlags := 9, code := some k1c3 }
/-- com/example/marginkeel/marginkeel/core/SplitMix64NextIntPinLaw -/
def k1 : Class := { plain "com/example/marginkeel/marginkeel/core/SplitMix64NextIntPinLaw" (some 0) with
  accessFlags := 49
  interfaces := #[]
  cf := some (fileOf pool1 18 #[] #[{ accessFlags := 1, nameIndex := 5, descriptorIndex := 6, attributes := #[] }, { accessFlags := 10, nameIndex := 21, descriptorIndex := 22, attributes := #[] }, { accessFlags := 10, nameIndex := 33, descriptorIndex := 34, attributes := #[] }, { accessFlags := 9, nameIndex := 38, descriptorIndex := 39, attributes := #[] }] 49 2 #[] #[])
  fields := #[]
  methods := #[k1m0, k1m1, k1m2, k1m3]
  instanceTypes := #[]
  staticTypes := #[]
  resolved := Array.replicate 42 none
  statics := none }

def pool2 : Array CpInfo := pool [(1, .methodref 2 3), (0, .class_ 4), (0, .nameAndType 5 6), (0, u "java/lang/Object"), (0, u "<init>"), (0, u "()V"), (0, .fieldref 8 9), (0, .class_ 10), (0, .nameAndType 11 12), (0, u "com/example/marginkeel/marginkeel/core/SplitMix64"), (0, u "state"), (0, u "J"), (0, .long 11400714819323198485), (1, .long 13787848793156543929), (1, .long 10723151780598845931), (1, .fieldref 8 20), (0, .nameAndType 21 22), (0, u "bound"), (0, u "I"), (2, .long 9223372036854775807), (1, .fieldref 8 28), (0, .nameAndType 29 12), (0, u "partial"), (0, .methodref 8 31), (0, .nameAndType 32 33), (0, u "nextLong"), (0, u "()J"), (0, u "GAMMA"), (1, u "(J)V"), (2, u "nextInt"), (0, u "(I)I")] 3

def k2c0 : Code := { maxStack := 3, maxLocals := 3, code := prog_72_method_1_code, exceptionTable := #[], attributes := #[] }
def k2m0 : Method := { name := "<init>", desc := "(J)V", sig := { parameters := [.long], returnType := none }, accessFlags := 0, code := some k2c0 }
def k2c1 : Code := { maxStack := 5, maxLocals := 3, code := prog_72_method_2_code, exceptionTable := #[], attributes := #[] }
def k2m1 : Method := { name := "nextLong", desc := "()J", sig := { parameters := [], returnType := some .long }, accessFlags := 0, code := some k2c1 }
def k2c2 : Code := { maxStack := 6, maxLocals := 4, code := prog_72_method_3_code, exceptionTable := #[], attributes := #[] }
def k2m2 : Method := { name := "nextInt", desc := "(I)I", sig := { parameters := [.int], returnType := some .int }, accessFlags := 0, code := some k2c2 }
/-- com/example/marginkeel/marginkeel/core/SplitMix64 -/
def k2 : Class := { plain "com/example/marginkeel/marginkeel/core/SplitMix64" (some 0) with
  accessFlags := 48
  interfaces := #[]
  cf := some (fileOf pool2 8 #[] #[{ accessFlags := 0, nameIndex := 5, descriptorIndex := 36, attributes := #[] }, { accessFlags := 0, nameIndex := 32, descriptorIndex := 33, attributes := #[] }, { accessFlags := 0, nameIndex := 39, descriptorIndex := 40, attributes := #[] }] 48 2 #[] #[{ accessFlags := 26, nameIndex := 34, descriptorIndex := 12, attributes := #[] }, { accessFlags := 2, nameIndex := 11, descriptorIndex := 12, attributes := #[] }, { accessFlags := 2, nameIndex := 21, descriptorIndex := 22, attributes := #[] }, { accessFlags := 2, nameIndex := 29, descriptorIndex := 12, attributes := #[] }])
  fields := #[{ name := "GAMMA", type := .long, accessFlags := 26, slot := 0, constantValue := 0 }, { name := "state", type := .long, accessFlags := 2, slot := 0, constantValue := 0 }, { name := "bound", type := .int, accessFlags := 2, slot := 1, constantValue := 0 }, { name := "partial", type := .long, accessFlags := 2, slot := 2, constantValue := 0 }]
  methods := #[k2m0, k2m1, k2m2]
  instanceTypes := #[.long, .int, .long]
  staticTypes := #[.long]
  resolved := Array.replicate 44 none
  statics := none }

def pool3 : Array CpInfo := pool [(1, u "java/lang/Cloneable"), (0, .class_ 1), (0, u "java/lang/Object"), (0, .class_ 3)] 3

/-- java/lang/Cloneable -/
def k3 : Class := { plain "java/lang/Cloneable" (some 0) with
  accessFlags := 1537
  interfaces := #[]
  cf := some (fileOf pool3 2 #[] #[] 1537 4 #[] #[])
  fields := #[]
  methods := #[]
  instanceTypes := #[]
  staticTypes := #[]
  resolved := Array.replicate 8 none
  statics := none }

def pool4 : Array CpInfo := pool [(1, u "java/io/Serializable"), (0, .class_ 1), (0, u "java/lang/Object"), (0, .class_ 3)] 3

/-- java/io/Serializable -/
def k4 : Class := { plain "java/io/Serializable" (some 0) with
  accessFlags := 1537
  interfaces := #[]
  cf := some (fileOf pool4 2 #[] #[] 1537 4 #[] #[])
  fields := #[]
  methods := #[]
  instanceTypes := #[]
  staticTypes := #[]
  resolved := Array.replicate 8 none
  statics := none }

/-- the primitive byte -/
def k5 : Class := { plain "byte" none with kind := .primitive 'B', accessFlags := 0x411 }
/-- [B -/
def k6 : Class := { plain "[B" (some 0) with kind := .array 5 .byte, interfaces := #[3, 4], accessFlags := 1041 }

/-- the primitive int -/
def k7 : Class := { plain "int" none with kind := .primitive 'I', accessFlags := 0x411 }
/-- [I -/
def k8 : Class := { plain "[I" (some 0) with kind := .array 7 .int, interfaces := #[3, 4], accessFlags := 1041 }

def heap : Heap := #[]
def classes : Array Class := #[k0, k1, k2, k3, k4, k5, k6, k7, k8]
def interned : List (Array UInt16 × Addr) := []
def slotsUsed : Nat := 0
def theMethod : MethodId := ⟨1, 3⟩
def args0 : Array Value := #[.long 5, .int 5, .int 7]
def aboutOver (below : List Frame) : State where
  vm := { classes := classes, interned := interned.toArray }
  heap := heap
  slotsUsed := slotsUsed
  threads := #[{ frames := .invoking theMethod args0 :: below }]
def below0 : List Frame := [.native { method := ⟨0, 0⟩, args := #[] }]
def about1 : State := aboutOver below0
def p0 : Program := .bare "" "" ""
def e0 : Env := launch0.env 0 0 0
theorem w_frames : about1.frames = Frame.invoking theMethod args0 :: below0 := rfl
set_option maxRecDepth 65536 in
theorem w_args : argsFit about1.vm theMethod args0 = true := by decide +kernel
set_option maxRecDepth 65536 in
theorem w_heap : heapFits about1 = true := by decide +kernel
set_option maxRecDepth 65536 in
theorem w_runnable : about1.curStatus? = some .runnable := by decide +kernel
set_option maxRecDepth 65536 in
theorem w_alone : about1.alone = true := by decide +kernel
set_option maxRecDepth 65536 in
theorem w_named : about1.methodNamed? x = some theMethod := by decide +kernel
set_option maxRecDepth 65536 in
theorem w_hears : about1.hears theMethod below0 = true := by decide +kernel
set_option maxRecDepth 65536 in
theorem w_ripe : about1.ripe theMethod args0 below0 = true := by decide +kernel
theorem w_running : about1.status = .running := rfl
set_option maxRecDepth 65536 in
theorem w_room : about1.hasRoom e0.platform room_1 = true :=
  launch0.hasRoom_least _ room_1 (by decide +kernel) (by decide +kernel) (by decide +kernel) (by decide +kernel) (by decide +kernel) (by decide +kernel)
theorem allAtoms_all (ts : List Jvm.Cond) (a : Array Jvm.Value) (st : Jvm.State) : (allAtoms ts).before a st = ts.all (fun c => c.before a st) := by
  induction ts with
  | nil => rfl
  | cons c t ih =>
    show (Jvm.Cond.and c (allAtoms t)).before a st = _
    rw [Jvm.Cond.before_and, ih, List.all_cons]
def words1 : List Jvm.Cond := Jvm.Cond.code x code maxLocals ret :: tables_1
/-- a 'code' word, met by the world's own term for the bytes: nothing is compared byte by byte -/
theorem code_word {y : MethodName} {bytes : ByteArray} {mx : Nat} {rt : Option FieldType} {a : Array Value} {s : State} {m : MethodId} {meth : Method} {c : Code} (h1 : s.methodNamed? y = some m) (h2 : s.vm.method? m = some meth) (h3 : meth.code = some c) (h4 : c.code = bytes)
    (h5 : (c.maxLocals == mx && c.exceptionTable.isEmpty && decide (c.maxStack ≤ mostOperands) && decide (meth.sig.returnType = rt) && !meth.locks && decide (parseMethodDescriptor y.desc = some meth.sig)) = true) : (Jvm.Cond.code y bytes mx rt).before a s = true := by
  simp only [Bool.and_eq_true, beq_iff_eq, Bool.not_eq_true', decide_eq_true_eq] at h5
  obtain ⟨⟨⟨⟨⟨g1, g2⟩, g3⟩, g4⟩, g5⟩, g6⟩ := h5
  simp [Cond.before, Cond.holds, Cond.value, h1, h2, h3, h4, g1, g2, g3, g4, g5, g6]
def isCode : Jvm.Cond → Bool
  | .code _ _ _ _ => true
  | _ => false
theorem all_split {L : List Jvm.Cond} {P : Jvm.Cond → Bool} (h1 : L.all (fun c => isCode c || P c) = true) (h2 : ∀ c ∈ L.filter isCode, P c = true) : L.all P = true := by
  refine List.all_eq_true.mpr fun c hc => ?_
  have h := List.all_eq_true.mp h1 c hc
  rcases Bool.eq_false_or_eq_true (isCode c) with hi | hi
  · exact h2 c (List.mem_filter.mpr ⟨hc, hi⟩)
  · simpa [hi] using h
set_option maxRecDepth 65536 in
theorem w_c0 : (Jvm.Cond.code x code maxLocals ret).before args0 about1 = true := code_word (m := ⟨1, 3⟩) (meth := k1m3) (c := k1c3) (by decide +kernel) rfl rfl rfl (by decide +kernel)
set_option maxRecDepth 65536 in
theorem w_c1 : (Jvm.Cond.code ({ cls := "com/example/marginkeel/marginkeel/core/SplitMix64", name := "<init>", desc := "(J)V" } : Jvm.MethodName) prog_72_method_1_code (3 : Nat) (Option.none : Option Jvm.ClassFile.FieldType)).before args0 about1 = true := code_word (m := ⟨2, 0⟩) (meth := k2m0) (c := k2c0) (by decide +kernel) rfl rfl rfl (by decide +kernel)
set_option maxRecDepth 65536 in
theorem w_c2 : (Jvm.Cond.code ({ cls := "java/lang/Object", name := "<init>", desc := "()V" } : Jvm.MethodName) object_method_1_code (1 : Nat) (Option.none : Option Jvm.ClassFile.FieldType)).before args0 about1 = true := code_word (m := ⟨0, 0⟩) (meth := k0m0) (c := k0c0) (by decide +kernel) rfl rfl rfl (by decide +kernel)
set_option maxRecDepth 65536 in
theorem w_c3 : (Jvm.Cond.code ({ cls := "com/example/marginkeel/marginkeel/core/SplitMix64", name := "nextInt", desc := "(I)I" } : Jvm.MethodName) prog_72_method_3_code (4 : Nat) (Option.some Jvm.ClassFile.FieldType.int)).before args0 about1 = true := code_word (m := ⟨2, 2⟩) (meth := k2m2) (c := k2c2) (by decide +kernel) rfl rfl rfl (by decide +kernel)
set_option maxRecDepth 65536 in
theorem w_c4 : (Jvm.Cond.code ({ cls := "com/example/marginkeel/marginkeel/core/SplitMix64", name := "nextLong", desc := "()J" } : Jvm.MethodName) prog_72_method_2_code (3 : Nat) (Option.some Jvm.ClassFile.FieldType.long)).before args0 about1 = true := code_word (m := ⟨2, 1⟩) (meth := k2m1) (c := k2c1) (by decide +kernel) rfl rfl rfl (by decide +kernel)
set_option maxRecDepth 65536 in
theorem w_c5 : (Jvm.Cond.code ({ cls := "com/example/marginkeel/marginkeel/core/SplitMix64NextIntPinLaw", name := "ref", desc := "(Lcom/example/marginkeel/marginkeel/core/SplitMix64;I)I" } : Jvm.MethodName) method_3_code (4 : Nat) (Option.some Jvm.ClassFile.FieldType.int)).before args0 about1 = true := code_word (m := ⟨1, 2⟩) (meth := k1m2) (c := k1c2) (by decide +kernel) rfl rfl rfl (by decide +kernel)
set_option maxRecDepth 65536 in
theorem w_c6 : (Jvm.Cond.code ({ cls := "com/example/marginkeel/marginkeel/core/SplitMix64NextIntPinLaw", name := "accepted", desc := "(JI)Z" } : Jvm.MethodName) method_2_code (5 : Nat) (Option.some Jvm.ClassFile.FieldType.boolean)).before args0 about1 = true := code_word (m := ⟨1, 1⟩) (meth := k1m1) (c := k1c1) (by decide +kernel) rfl rfl rfl (by decide +kernel)
def codes1 : List Jvm.Cond := [Jvm.Cond.code x code maxLocals ret, Jvm.Cond.code ({ cls := "com/example/marginkeel/marginkeel/core/SplitMix64", name := "<init>", desc := "(J)V" } : Jvm.MethodName) prog_72_method_1_code (3 : Nat) (Option.none : Option Jvm.ClassFile.FieldType), Jvm.Cond.code ({ cls := "java/lang/Object", name := "<init>", desc := "()V" } : Jvm.MethodName) object_method_1_code (1 : Nat) (Option.none : Option Jvm.ClassFile.FieldType), Jvm.Cond.code ({ cls := "com/example/marginkeel/marginkeel/core/SplitMix64", name := "nextInt", desc := "(I)I" } : Jvm.MethodName) prog_72_method_3_code (4 : Nat) (Option.some Jvm.ClassFile.FieldType.int), Jvm.Cond.code ({ cls := "com/example/marginkeel/marginkeel/core/SplitMix64", name := "nextLong", desc := "()J" } : Jvm.MethodName) prog_72_method_2_code (3 : Nat) (Option.some Jvm.ClassFile.FieldType.long), Jvm.Cond.code ({ cls := "com/example/marginkeel/marginkeel/core/SplitMix64NextIntPinLaw", name := "ref", desc := "(Lcom/example/marginkeel/marginkeel/core/SplitMix64;I)I" } : Jvm.MethodName) method_3_code (4 : Nat) (Option.some Jvm.ClassFile.FieldType.int), Jvm.Cond.code ({ cls := "com/example/marginkeel/marginkeel/core/SplitMix64NextIntPinLaw", name := "accepted", desc := "(JI)Z" } : Jvm.MethodName) method_2_code (5 : Nat) (Option.some Jvm.ClassFile.FieldType.boolean)]
set_option maxRecDepth 65536 in
theorem codes_eq : words1.filter isCode = codes1 := rfl
theorem w_codes : ∀ c ∈ words1.filter isCode, c.before args0 about1 = true := by
  rw [codes_eq]
  intro c hc
  simp only [codes1, List.mem_cons, List.not_mem_nil, or_false] at hc
  rcases hc with rfl | rfl | rfl | rfl | rfl | rfl | rfl
  · exact w_c0
  · exact w_c1
  · exact w_c2
  · exact w_c3
  · exact w_c4
  · exact w_c5
  · exact w_c6
set_option maxRecDepth 65536 in
theorem w_t1 : (words1.take 24).all (fun c => isCode c || c.before args0 about1) = true := by decide +kernel
set_option maxRecDepth 65536 in
theorem w_t2 : (words1.drop 24).all (fun c => isCode c || c.before args0 about1) = true := by decide +kernel
theorem w_tables : (allAtoms (Jvm.Cond.code x code maxLocals ret :: tables_1)).before args0 about1 = true := by
  rw [allAtoms_all]
  show words1.all (fun c => c.before args0 about1) = true
  refine all_split ?_ w_codes
  rw [← List.take_append_drop 24 words1, List.all_append, w_t1, w_t2]
  rfl
set_option maxRecDepth 65536 in
theorem w_case : (Jvm.Cond.and given_1 narrow_1).before args0 about1 = true := by decide +kernel
theorem w_applies : (headSpec (Jvm.Cond.code x code maxLocals ret :: tables_1) room_1).applies x e0.platform about1 = true :=
  (Spec.applies_iff w_frames).mpr ⟨w_running, w_runnable, w_alone, w_named, w_hears, w_ripe, w_room, w_tables⟩
theorem atStart : AtStart classFile x code maxLocals ret World_1 tables_1 room_1 Calls_1 rest_1 Pre_1 launch0 p0 e0 about1 theMethod args0 below0 :=
  ⟨lists_1, trivial, launch0.admits_env _ _ _, launch0.least_env, fairChoices_fair.cas, fairChoices_fair.clock, w_frames, w_args, w_heap, w_applies, trivial, trivial, w_case⟩
end start1
theorem witness_1 : WitnessClaimed_1 := ⟨start1.p0, start1.e0, start1.about1, start1.theMethod, start1.args0, start1.below0, start1.atStart⟩
end Jvm.Pilot.@@N@@
