import JvmDerived
import JvmDerived.Pilot.@@N@@Statement
import JvmDerived.Pilot.@@N@@Code
set_option linter.unusedVariables false
set_option linter.unusedSimpArgs false
namespace Jvm.Pilot.@@N@@
open Jvm Jvm.ClassFile Sem Op Lib Jvm.Free Jvm.Stand Jvm.LawKit Jvm.RoadKit Bundle Jvm.Pilot.@@N@@.Jvm.D
/-! A. where a walk stands: W; what a body owes: Gl; a body's contract: Ctr -/
abbrev Cx := Program × Env × State × MethodId × Array Value × List Frame × Method × Code × State
def W (l : Launch) (Z : State) (n0 : Nat) (y : MethodName) (bytes : ByteArray) (maxl : Nat) (ret : Option FieldType) (R : Room) (G : Cx) (h : Heap) (pc : Nat) (Ls : Array Slot) (St : List Value) (cells slots : Nat) : Prop :=
  match G with
  | (p, e, s, m, args, below, meth, c, st) =>
    p.tables.exec = Jvm.exec ∧ Z.Warmed39 s.vm ∧ c.code = bytes ∧ c.maxLocals = maxl ∧ s.vm.findClass y.cls = some m.cls ∧ meth.name = y.name ∧ meth.sig.returnType = ret ∧ meth.locks = false ∧ n0 ≤ s.heap.size ∧
    ∃ (T : State) (locs : List Loc), Stand p l e R s m args below meth c T locs cells slots ∧ Fr n0 locs ∧ T.heap = h ∧ ∀ t, Steps p.tables e below (T.setTop (mkF m pc Ls St)) t → Steps p.tables e below st t
def Gl (R : Room) (n0 : Nat) (G : Cx) (Q : Option Value → Heap → Prop) : Prop :=
  match G with
  | (p, e, s, m, args, below, meth, c, st) => ∃ s₂ o, Steps p.tables e below st s₂ ∧ s₂.status = .running ∧ Ended s₂ below o ∧ ∃ v L, o = .returned v ∧ (Fr n0 L ∧ Q v s₂.heap) ∧ FrameEnd s o s₂ L R.cells R.slots
def Ctr (l : Launch) (Z : State) (n0 : Nat) (y : MethodName) (bytes : ByteArray) (maxl : Nat) (ret : Option FieldType) (ws : List Jvm.Cond) (R : Room) (as : Array Value) (h0 : Heap) (Q : Option Value → Heap → Prop) : Prop :=
  MetFree l y (head1 (Jvm.Cond.code y bytes maxl ret :: ws) R) (fun a U => a = as ∧ Z.Warmed39 U.vm ∧ U.heap = h0) (fun _ _ _ _ _ => True) (fun _ U o U' => ∃ v L, o = .returned v ∧ (Fr n0 L ∧ Q v U'.heap) ∧ FrameEnd U o U' L R.cells R.slots)
def QI (P : Int32 → Heap → Prop) (v : Option Value) (h : Heap) : Prop := ∃ r, v = some (.int r) ∧ P r h
def QJ (P : Int64 → Heap → Prop) (v : Option Value) (h : Heap) : Prop := ∃ r, v = some (.long r) ∧ P r h
def QA (P : Addr → Heap → Prop) (v : Option Value) (h : Heap) : Prop := ∃ r, v = some (.ref r) ∧ P r h
def QV (P : Heap → Prop) (v : Option Value) (h : Heap) : Prop := v = none ∧ P h
theorem ilt {x y : Int32} {a b : Int} (ha : x.toInt = a) (hb : y.toInt = b) (h : a < b) : x < y := by subst ha hb; exact Int32.lt_iff_toInt_lt.mpr h
theorem inlt {x y : Int32} {a b : Int} (ha : x.toInt = a) (hb : y.toInt = b) (h : ¬ a < b) : ¬ x < y := by subst ha hb; exact fun q => h (Int32.lt_iff_toInt_lt.mp q)
theorem igt {x y : Int32} {a b : Int} (ha : x.toInt = a) (hb : y.toInt = b) (h : b < a) : y < x := ilt hb ha h
theorem ingt {x y : Int32} {a b : Int} (ha : x.toInt = a) (hb : y.toInt = b) (h : ¬ b < a) : ¬ y < x := inlt hb ha h
theorem ieq {x y : Int32} {a b : Int} (ha : x.toInt = a) (hb : y.toInt = b) (h : a = b) : x = y := by subst ha hb; exact Int32.toInt_inj.mp h
theorem ine {x y : Int32} {a b : Int} (ha : x.toInt = a) (hb : y.toInt = b) (h : ¬ a = b) : ¬ x = y := by subst ha hb; exact fun q => h (Int32.toInt_inj.mpr q)
theorem llt {x y : Int64} {a b : Int} (ha : x.toInt = a) (hb : y.toInt = b) (h : a < b) : lcmpW x y < 0 := by subst ha hb; exact (lw_lt _ _).mpr (Int64.lt_iff_toInt_lt.mpr h)
theorem lnlt {x y : Int64} {a b : Int} (ha : x.toInt = a) (hb : y.toInt = b) (h : ¬ a < b) : ¬ lcmpW x y < 0 := by subst ha hb; exact fun q => h (Int64.lt_iff_toInt_lt.mp ((lw_lt _ _).mp q))
theorem lgt {x y : Int64} {a b : Int} (ha : x.toInt = a) (hb : y.toInt = b) (h : b < a) : 0 < lcmpW x y := by subst ha hb; exact (lw_gt _ _).mpr (Int64.lt_iff_toInt_lt.mpr h)
theorem lngt {x y : Int64} {a b : Int} (ha : x.toInt = a) (hb : y.toInt = b) (h : ¬ b < a) : ¬ 0 < lcmpW x y := by subst ha hb; exact fun q => h (Int64.lt_iff_toInt_lt.mp ((lw_gt _ _).mp q))
theorem leq {x y : Int64} {a b : Int} (ha : x.toInt = a) (hb : y.toInt = b) (h : a = b) : lcmpW x y = 0 := by subst ha hb; exact (lw_eq _ _).mpr (Int64.toInt_inj.mp h)
theorem lne {x y : Int64} {a b : Int} (ha : x.toInt = a) (hb : y.toInt = b) (h : ¬ a = b) : ¬ lcmpW x y = 0 := by subst ha hb; exact fun q => h (Int64.toInt_inj.mpr ((lw_eq _ _).mp q))
def Two (s t : Slot) : Prop := (s = .unset ∧ t = .unset) ∨ ∃ q : Int64, s = .val (.long q) ∧ t = .second
section Walk
variable {l : Launch} {Z : State} {n0 : Nat} {y : MethodName} {bytes : ByteArray} {maxl : Nat} {ret : Option FieldType} {R : Room} {G : Cx} {h : Heap} {pc pc' : Nat} {Ls : Array Slot} {St : List Value} {C S C' S' : Nat} {Q : Option Value → Heap → Prop} {a0 : Array Value}
theorem W.mk {p : Program} {e : Env} {s : State} {m : MethodId} {args : Array Value} {below : List Frame} {meth : Method} {c : Code} {st : State} {T : State} {locs : List Loc} (hx : p.tables.exec = Jvm.exec) (hZ : Z.Warmed39 s.vm) (hby : c.code = bytes) (hml : c.maxLocals = maxl) (hown : s.vm.findClass y.cls = some m.cls) (hnm : meth.name = y.name) (hrt : meth.sig.returnType = ret) (hlk : meth.locks = false) (hn0 : n0 ≤ s.heap.size)
    (X : Stand p l e R s m args below meth c T locs C S) (N : Fr n0 locs) (eT : T.heap = h) (k : ∀ t, Steps p.tables e below (T.setTop (mkF m pc Ls St)) t → Steps p.tables e below st t) : W l Z n0 y bytes maxl ret R (p, e, s, m, args, below, meth, c, st) h pc Ls St C S :=
  show _ ∧ _ from ⟨hx, hZ, hby, hml, hown, hnm, hrt, hlk, hn0, T, locs, X, N, eT, k⟩
theorem ctr_of {ws : List Jvm.Cond} {as : Array Value} (hpn : plainFor y = true) (hn0 : n0 ≤ h.size) (hef : ∀ m, entryFrame m as maxl = mkF m 0 Ls []) (body : ∀ G, W l Z n0 y bytes maxl ret R G h 0 Ls [] 0 0 → Gl R n0 G Q) : Ctr l Z n0 y bytes maxl ret ws R as h Q := by
  refine MetFree.of_bodySF hpn hisR ?_
  intro p e s m args below meth c s₁ Bd hml0 hP hK
  obtain ⟨rfl, hZ, hh⟩ := hP
  have e0 : s₁.heap = h := by rw [← hh, Bd.state]; rfl
  exact body (p, e, s, m, args, below, meth, c, s₁.setTop (entryFrame m args maxl)) (W.mk Bd.exec hZ Bd.bytes hml0 (findClass_of_methodNamed Bd.named) (name_of_methodNamed Bd.named Bd.method).1 Bd.returns (BodyLoose.notSynchronized Bd) (hh ▸ hn0) (Stand.of_body Bd) (Fr.nil n0) e0 (fun t k => castTop (hef m) k))
theorem W.size (A : W l Z n0 y bytes maxl ret R G h pc Ls St C S) : n0 ≤ h.size := by
  obtain ⟨p, e, s, m, args, below, meth, c, st⟩ := G
  obtain ⟨hx, hZ, hby, hml, hown, hnm, hrt, hlk, hn0, T, locs, X, N, eT, k⟩ := A
  exact Nat.le_trans hn0 (by rw [← eT]; exact X.same.2.1)
theorem W.more (A : W l Z n0 y bytes maxl ret R G h pc Ls St C S) (hC : C ≤ C') (hS : S ≤ S') : W l Z n0 y bytes maxl ret R G h pc Ls St C' S' := by
  obtain ⟨p, e, s, m, args, below, meth, c, st⟩ := G
  obtain ⟨hx, hZ, hby, hml, hown, hnm, hrt, hlk, hn0, T, locs, X, N, eT, k⟩ := A
  exact W.mk hx hZ hby hml hown hnm hrt hlk hn0 (X.more hC hS) N eT k
theorem W.cast {Ls' : Array Slot} {St' : List Value} (A : W l Z n0 y bytes maxl ret R G h pc Ls St C S) (hp : pc = pc') (hL : Ls = Ls') (hSt : St = St') : W l Z n0 y bytes maxl ret R G h pc' Ls' St' C S := by subst hp hL hSt; exact A
theorem W.topI {x z : Int32} (A : W l Z n0 y bytes maxl ret R G h pc Ls (.int x :: St) C S) (q : x = z) : W l Z n0 y bytes maxl ret R G h pc Ls (.int z :: St) C S := q ▸ A
theorem W.topJ {x z : Int64} (A : W l Z n0 y bytes maxl ret R G h pc Ls (.long x :: St) C S) (q : x = z) : W l Z n0 y bytes maxl ret R G h pc Ls (.long z :: St) C S := q ▸ A
/-- a plain step -/
theorem W.step (A : W l Z n0 y bytes maxl ret R G h pc Ls St C S) {Ls' : Array Slot} {St' : List Value}
    (f : ∀ {p : Program} {e : Env} {s : State} {m : MethodId} {args : Array Value} {below : List Frame} {meth : Method} {c : Code} {T t : State} {locs : List Loc}, Stand p l e R s m args below meth c T locs C S → p.tables.exec = Jvm.exec → Z.Warmed39 s.vm → s.vm.findClass y.cls = some m.cls → c.code = bytes → T.heap = h → Steps p.tables e below (T.setTop (mkF m pc' Ls' St')) t → Steps p.tables e below (T.setTop (mkF m pc Ls St)) t) : W l Z n0 y bytes maxl ret R G h pc' Ls' St' C S := by
  obtain ⟨p, e, s, m, args, below, meth, c, st⟩ := G
  obtain ⟨hx, hZ, hby, hml, hown, hnm, hrt, hlk, hn0, T, locs, X, N, eT, k⟩ := A
  exact W.mk hx hZ hby hml hown hnm hrt hlk hn0 X N eT (fun t q => k t (f X hx hZ hown hby eT q))
/-! B. plain instructions -/
theorem W.iloadN (A : W l Z n0 y bytes maxl ret R G h pc Ls St C S) {k : Fin 4} {v : Int32} (hd : decode bytes pc = .ok (.iload_n k, 1)) (hl : Ls[k.val]? = some (.val (.int v))) (hp : pc + 1 = pc') : W l Z n0 y bytes maxl ret R G h pc' Ls (.int v :: St) C S := by
  subst hp; exact A.step fun X hx _ _ q _ r => XS.iloadN X.here hx rfl (hb q hd) hl r
theorem W.iload (A : W l Z n0 y bytes maxl ret R G h pc Ls St C S) {k : Nat} {v : Int32} (hd : decode bytes pc = .ok (.iload k, 2)) (hl : Ls[k]? = some (.val (.int v))) (hp : pc + 2 = pc') : W l Z n0 y bytes maxl ret R G h pc' Ls (.int v :: St) C S := by
  subst hp; exact A.step fun X hx _ _ q _ r => XS.iload X.here hx rfl (hb q hd) hl r
theorem W.lloadN (A : W l Z n0 y bytes maxl ret R G h pc Ls St C S) {k : Fin 4} {v : Int64} (hd : decode bytes pc = .ok (.lload_n k, 1)) (hl : Ls[k.val]? = some (.val (.long v))) (hp : pc + 1 = pc') : W l Z n0 y bytes maxl ret R G h pc' Ls (.long v :: St) C S := by
  subst hp; exact A.step fun X hx _ _ q _ r => XS.lloadN X.here hx rfl (hb q hd) hl r
theorem W.lload (A : W l Z n0 y bytes maxl ret R G h pc Ls St C S) {k : Nat} {v : Int64} (hd : decode bytes pc = .ok (.lload k, 2)) (hl : Ls[k]? = some (.val (.long v))) (hp : pc + 2 = pc') : W l Z n0 y bytes maxl ret R G h pc' Ls (.long v :: St) C S := by
  subst hp; exact A.step fun X hx _ _ q _ r => XS.lload X.here hx rfl (hb q hd) hl r
theorem W.aloadN (A : W l Z n0 y bytes maxl ret R G h pc Ls St C S) {k : Fin 4} {v : Value} (hd : decode bytes pc = .ok (.aload_n k, 1)) (hl : Ls[k.val]? = some (.val v)) (hv : v.isRef = true) (hp : pc + 1 = pc') : W l Z n0 y bytes maxl ret R G h pc' Ls (v :: St) C S := by
  subst hp; exact A.step fun X hx _ _ q _ r => XS.aloadN X.here hx rfl (hb q hd) hl hv r
theorem W.aload (A : W l Z n0 y bytes maxl ret R G h pc Ls St C S) {k : Nat} {v : Value} (hd : decode bytes pc = .ok (.aload k, 2)) (hl : Ls[k]? = some (.val v)) (hv : v.isRef = true) (hp : pc + 2 = pc') : W l Z n0 y bytes maxl ret R G h pc' Ls (v :: St) C S := by
  subst hp; exact A.step fun X hx _ _ q _ r => XS.aload X.here hx rfl (hb q hd) hl hv r
theorem W.istoreN {v : Int32} (A : W l Z n0 y bytes maxl ret R G h pc Ls (.int v :: St) C S) {k : Fin 4} {Ls' : Array Slot} (hd : decode bytes pc = .ok (.istore_n k, 1)) (hl : storeLocals Ls k.val (.int v) = some Ls') (hp : pc + 1 = pc') : W l Z n0 y bytes maxl ret R G h pc' Ls' St C S := by
  subst hp; exact A.step fun X hx _ _ q _ r => XS.istoreN X.here hx rfl (hb q hd) rfl hl r
theorem W.istore {v : Int32} (A : W l Z n0 y bytes maxl ret R G h pc Ls (.int v :: St) C S) {k : Nat} {Ls' : Array Slot} (hd : decode bytes pc = .ok (.istore k, 2)) (hl : storeLocals Ls k (.int v) = some Ls') (hp : pc + 2 = pc') : W l Z n0 y bytes maxl ret R G h pc' Ls' St C S := by
  subst hp; exact A.step fun X hx _ _ q _ r => XS.istore X.here hx rfl (hb q hd) rfl hl r
theorem W.lstoreN {v : Int64} (A : W l Z n0 y bytes maxl ret R G h pc Ls (.long v :: St) C S) {k : Fin 4} {Ls' : Array Slot} (hd : decode bytes pc = .ok (.lstore_n k, 1)) (hl : storeLocals Ls k.val (.long v) = some Ls') (hp : pc + 1 = pc') : W l Z n0 y bytes maxl ret R G h pc' Ls' St C S := by
  subst hp; exact A.step fun X hx _ _ q _ r => XS.lstoreN X.here hx rfl (hb q hd) rfl hl r
theorem W.lstore {v : Int64} (A : W l Z n0 y bytes maxl ret R G h pc Ls (.long v :: St) C S) {k : Nat} {Ls' : Array Slot} (hd : decode bytes pc = .ok (.lstore k, 2)) (hl : storeLocals Ls k (.long v) = some Ls') (hp : pc + 2 = pc') : W l Z n0 y bytes maxl ret R G h pc' Ls' St C S := by
  subst hp; exact A.step fun X hx _ _ q _ r => XS.lstore X.here hx rfl (hb q hd) rfl hl r
theorem W.astoreN {v : Value} (A : W l Z n0 y bytes maxl ret R G h pc Ls (v :: St) C S) {k : Fin 4} {Ls' : Array Slot} (hd : decode bytes pc = .ok (.astore_n k, 1)) (hv : v.isRef = true) (hl : storeLocals Ls k.val v = some Ls') (hp : pc + 1 = pc') : W l Z n0 y bytes maxl ret R G h pc' Ls' St C S := by
  subst hp; exact A.step fun X hx _ _ q _ r => XS.astoreN X.here hx rfl (hb q hd) rfl hv hl r
theorem W.astore {v : Value} (A : W l Z n0 y bytes maxl ret R G h pc Ls (v :: St) C S) {k : Nat} {Ls' : Array Slot} (hd : decode bytes pc = .ok (.astore k, 2)) (hv : v.isRef = true) (hl : storeLocals Ls k v = some Ls') (hp : pc + 2 = pc') : W l Z n0 y bytes maxl ret R G h pc' Ls' St C S := by
  subst hp; exact A.step fun X hx _ _ q _ r => XS.astore X.here hx rfl (hb q hd) rfl hv hl r
theorem W.iconst (A : W l Z n0 y bytes maxl ret R G h pc Ls St C S) {i : Int} {z : Int32} (hd : decode bytes pc = .ok (.iconst i, 1)) (hz : Int32.ofInt i = z) (hp : pc + 1 = pc') : W l Z n0 y bytes maxl ret R G h pc' Ls (.int z :: St) C S := by
  subst hp hz; exact A.step fun X hx _ _ q _ r => XS.iconst X.here hx rfl (hb q hd) r
theorem W.bipush (A : W l Z n0 y bytes maxl ret R G h pc Ls St C S) {i : Int} {z : Int32} (hd : decode bytes pc = .ok (.bipush i, 2)) (hz : (Int8.ofInt i).toInt32 = z) (hp : pc + 2 = pc') : W l Z n0 y bytes maxl ret R G h pc' Ls (.int z :: St) C S := by
  subst hp hz; exact A.step fun X hx _ _ q _ r => XS.bipush X.here hx rfl (hb q hd) r
theorem W.sipush (A : W l Z n0 y bytes maxl ret R G h pc Ls St C S) {i : Int} {z : Int32} (hd : decode bytes pc = .ok (.sipush i, 3)) (hz : (Int16.ofInt i).toInt32 = z) (hp : pc + 3 = pc') : W l Z n0 y bytes maxl ret R G h pc' Ls (.int z :: St) C S := by
  subst hp hz; exact A.step fun X hx _ _ q _ r => XS.sipush X.here hx rfl (hb q hd) r
theorem W.lconst (A : W l Z n0 y bytes maxl ret R G h pc Ls St C S) {k : Fin 2} {z : Int64} (hd : decode bytes pc = .ok (.lconst k, 1)) (hz : Int64.ofNat k.val = z) (hp : pc + 1 = pc') : W l Z n0 y bytes maxl ret R G h pc' Ls (.long z :: St) C S := by
  subst hp hz; exact A.step fun X hx _ _ q _ r => XS.lconst X.here hx rfl (hb q hd) r
theorem W.aconstNull (A : W l Z n0 y bytes maxl ret R G h pc Ls St C S) (hd : decode bytes pc = .ok (.aconst_null, 1)) (hp : pc + 1 = pc') : W l Z n0 y bytes maxl ret R G h pc' Ls (.null :: St) C S := by
  subst hp; exact A.step fun X hx _ _ q _ r => XS.aconstNull X.here hx rfl (hb q hd) r
theorem W.ldc (A : W l Z n0 y bytes maxl ret R G h pc Ls St C S) {i : Nat} {z : Int32} (hd : decode bytes pc = .ok (.ldc i, 2)) (w : (Jvm.Cond.constant y.cls i z).before a0 Z = true) (hp : pc + 2 = pc') : W l Z n0 y bytes maxl ret R G h pc' Ls (.int z :: St) C S := by
  subst hp; exact A.step fun X hx hZ hown q _ r => X.ldcInt hx hown (mvT hZ w) (g := mkF _ pc Ls St) rfl (hb q hd) _ r
theorem W.ldcW (A : W l Z n0 y bytes maxl ret R G h pc Ls St C S) {i : Nat} {z : Int32} (hd : decode bytes pc = .ok (.ldc_w i, 3)) (w : (Jvm.Cond.constant y.cls i z).before a0 Z = true) (hp : pc + 3 = pc') : W l Z n0 y bytes maxl ret R G h pc' Ls (.int z :: St) C S := by
  subst hp; exact A.step fun X hx hZ hown q _ r => X.ldcwInt hx hown (mvT hZ w) (g := mkF _ pc Ls St) rfl (hb q hd) _ r
theorem W.ldc2 (A : W l Z n0 y bytes maxl ret R G h pc Ls St C S) {i : Nat} {z : Int64} (hd : decode bytes pc = .ok (.ldc2_w i, 3)) (w : (Jvm.Cond.constantLong y.cls i z).before a0 Z = true) (hp : pc + 3 = pc') : W l Z n0 y bytes maxl ret R G h pc' Ls (.long z :: St) C S := by
  subst hp; exact A.step fun X hx hZ hown q _ r => X.ldc2Long hx hown (mvT hZ w) (g := mkF _ pc Ls St) rfl (hb q hd) _ r
theorem W.iinc (A : W l Z n0 y bytes maxl ret R G h pc Ls St C S) {k : Nat} {i : Int} {v z : Int32} {Ls' : Array Slot} (hd : decode bytes pc = .ok (.iinc k i, 3)) (hl : Ls[k]? = some (.val (.int v))) (hz : v + Int32.ofInt i = z) (hl' : storeLocals Ls k (.int z) = some Ls') (hp : pc + 3 = pc') : W l Z n0 y bytes maxl ret R G h pc' Ls' St C S := by
  subst hp hz; exact A.step fun X hx _ _ q _ r => XS.iinc X.here hx rfl (hb q hd) hl hl' r
theorem W.iadd {x z : Int32} (A : W l Z n0 y bytes maxl ret R G h pc Ls (.int z :: .int x :: St) C S) (hd : decode bytes pc = .ok (.iadd, 1)) (hp : pc + 1 = pc') : W l Z n0 y bytes maxl ret R G h pc' Ls (.int (x + z) :: St) C S := by
  subst hp; exact A.step fun X hx _ _ q _ r => XS.iadd X.here hx rfl (hb q hd) rfl r
theorem W.ladd {x z : Int64} (A : W l Z n0 y bytes maxl ret R G h pc Ls (.long z :: .long x :: St) C S) (hd : decode bytes pc = .ok (.ladd, 1)) (hp : pc + 1 = pc') : W l Z n0 y bytes maxl ret R G h pc' Ls (.long (x + z) :: St) C S := by
  subst hp; exact A.step fun X hx _ _ q _ r => XS.ladd X.here hx rfl (hb q hd) rfl r
theorem W.isub {x z : Int32} (A : W l Z n0 y bytes maxl ret R G h pc Ls (.int z :: .int x :: St) C S) (hd : decode bytes pc = .ok (.isub, 1)) (hp : pc + 1 = pc') : W l Z n0 y bytes maxl ret R G h pc' Ls (.int (x - z) :: St) C S := by
  subst hp; exact A.step fun X hx _ _ q _ r => XS.isub X.here hx rfl (hb q hd) rfl r
theorem W.lsub {x z : Int64} (A : W l Z n0 y bytes maxl ret R G h pc Ls (.long z :: .long x :: St) C S) (hd : decode bytes pc = .ok (.lsub, 1)) (hp : pc + 1 = pc') : W l Z n0 y bytes maxl ret R G h pc' Ls (.long (x - z) :: St) C S := by
  subst hp; exact A.step fun X hx _ _ q _ r => XS.lsub X.here hx rfl (hb q hd) rfl r
theorem W.imul {x z : Int32} (A : W l Z n0 y bytes maxl ret R G h pc Ls (.int z :: .int x :: St) C S) (hd : decode bytes pc = .ok (.imul, 1)) (hp : pc + 1 = pc') : W l Z n0 y bytes maxl ret R G h pc' Ls (.int (x * z) :: St) C S := by
  subst hp; exact A.step fun X hx _ _ q _ r => XS.imul X.here hx rfl (hb q hd) rfl r
theorem W.lmul {x z : Int64} (A : W l Z n0 y bytes maxl ret R G h pc Ls (.long z :: .long x :: St) C S) (hd : decode bytes pc = .ok (.lmul, 1)) (hp : pc + 1 = pc') : W l Z n0 y bytes maxl ret R G h pc' Ls (.long (x * z) :: St) C S := by
  subst hp; exact A.step fun X hx _ _ q _ r => XS.lmul X.here hx rfl (hb q hd) rfl r
theorem W.iand {x z : Int32} (A : W l Z n0 y bytes maxl ret R G h pc Ls (.int z :: .int x :: St) C S) (hd : decode bytes pc = .ok (.iand, 1)) (hp : pc + 1 = pc') : W l Z n0 y bytes maxl ret R G h pc' Ls (.int (x &&& z) :: St) C S := by
  subst hp; exact A.step fun X hx _ _ q _ r => XS.iand X.here hx rfl (hb q hd) rfl r
theorem W.land {x z : Int64} (A : W l Z n0 y bytes maxl ret R G h pc Ls (.long z :: .long x :: St) C S) (hd : decode bytes pc = .ok (.land, 1)) (hp : pc + 1 = pc') : W l Z n0 y bytes maxl ret R G h pc' Ls (.long (x &&& z) :: St) C S := by
  subst hp; exact A.step fun X hx _ _ q _ r => XS.land X.here hx rfl (hb q hd) rfl r
theorem W.ior {x z : Int32} (A : W l Z n0 y bytes maxl ret R G h pc Ls (.int z :: .int x :: St) C S) (hd : decode bytes pc = .ok (.ior, 1)) (hp : pc + 1 = pc') : W l Z n0 y bytes maxl ret R G h pc' Ls (.int (x ||| z) :: St) C S := by
  subst hp; exact A.step fun X hx _ _ q _ r => XS.ior X.here hx rfl (hb q hd) rfl r
theorem W.lor {x z : Int64} (A : W l Z n0 y bytes maxl ret R G h pc Ls (.long z :: .long x :: St) C S) (hd : decode bytes pc = .ok (.lor, 1)) (hp : pc + 1 = pc') : W l Z n0 y bytes maxl ret R G h pc' Ls (.long (x ||| z) :: St) C S := by
  subst hp; exact A.step fun X hx _ _ q _ r => XS.lor X.here hx rfl (hb q hd) rfl r
theorem W.ixor {x z : Int32} (A : W l Z n0 y bytes maxl ret R G h pc Ls (.int z :: .int x :: St) C S) (hd : decode bytes pc = .ok (.ixor, 1)) (hp : pc + 1 = pc') : W l Z n0 y bytes maxl ret R G h pc' Ls (.int (x ^^^ z) :: St) C S := by
  subst hp; exact A.step fun X hx _ _ q _ r => XS.ixor X.here hx rfl (hb q hd) rfl r
theorem W.lxor {x z : Int64} (A : W l Z n0 y bytes maxl ret R G h pc Ls (.long z :: .long x :: St) C S) (hd : decode bytes pc = .ok (.lxor, 1)) (hp : pc + 1 = pc') : W l Z n0 y bytes maxl ret R G h pc' Ls (.long (x ^^^ z) :: St) C S := by
  subst hp; exact A.step fun X hx _ _ q _ r => XS.lxor X.here hx rfl (hb q hd) rfl r
theorem W.ineg {x : Int32} (A : W l Z n0 y bytes maxl ret R G h pc Ls (.int x :: St) C S) (hd : decode bytes pc = .ok (.ineg, 1)) (hp : pc + 1 = pc') : W l Z n0 y bytes maxl ret R G h pc' Ls (.int (-x) :: St) C S := by
  subst hp; exact A.step fun X hx _ _ q _ r => XS.ineg X.here hx rfl (hb q hd) rfl r
theorem W.lneg {x : Int64} (A : W l Z n0 y bytes maxl ret R G h pc Ls (.long x :: St) C S) (hd : decode bytes pc = .ok (.lneg, 1)) (hp : pc + 1 = pc') : W l Z n0 y bytes maxl ret R G h pc' Ls (.long (-x) :: St) C S := by
  subst hp; exact A.step fun X hx _ _ q _ r => XS.lneg X.here hx rfl (hb q hd) rfl r
theorem W.ishl {x z : Int32} (A : W l Z n0 y bytes maxl ret R G h pc Ls (.int z :: .int x :: St) C S) (hd : decode bytes pc = .ok (.ishl, 1)) (hp : pc + 1 = pc') : W l Z n0 y bytes maxl ret R G h pc' Ls (.int (x <<< (z &&& 31)) :: St) C S := by
  subst hp; exact A.step fun X hx _ _ q _ r => XS.ishl X.here hx rfl (hb q hd) rfl r
theorem W.ishr {x z : Int32} (A : W l Z n0 y bytes maxl ret R G h pc Ls (.int z :: .int x :: St) C S) (hd : decode bytes pc = .ok (.ishr, 1)) (hp : pc + 1 = pc') : W l Z n0 y bytes maxl ret R G h pc' Ls (.int (x >>> (z &&& 31)) :: St) C S := by
  subst hp; exact A.step fun X hx _ _ q _ r => XS.ishr X.here hx rfl (hb q hd) rfl r
theorem W.iushr {x z : Int32} (A : W l Z n0 y bytes maxl ret R G h pc Ls (.int z :: .int x :: St) C S) (hd : decode bytes pc = .ok (.iushr, 1)) (hp : pc + 1 = pc') : W l Z n0 y bytes maxl ret R G h pc' Ls (.int ((x.toUInt32 >>> (z &&& 31).toUInt32).toInt32) :: St) C S := by
  subst hp; exact A.step fun X hx _ _ q _ r => XS.iushr X.here hx rfl (hb q hd) rfl r
theorem W.lshl {x : Int64} {z : Int32} (A : W l Z n0 y bytes maxl ret R G h pc Ls (.int z :: .long x :: St) C S) (hd : decode bytes pc = .ok (.lshl, 1)) (hp : pc + 1 = pc') : W l Z n0 y bytes maxl ret R G h pc' Ls (.long (x <<< (z &&& 0x3f).toInt64) :: St) C S := by
  subst hp; exact A.step fun X hx _ _ q _ r => XS.lshl X.here hx rfl (hb q hd) rfl r
theorem W.lshr {x : Int64} {z : Int32} (A : W l Z n0 y bytes maxl ret R G h pc Ls (.int z :: .long x :: St) C S) (hd : decode bytes pc = .ok (.lshr, 1)) (hp : pc + 1 = pc') : W l Z n0 y bytes maxl ret R G h pc' Ls (.long (x >>> (z &&& 0x3f).toInt64) :: St) C S := by
  subst hp; exact A.step fun X hx _ _ q _ r => XS.lshr X.here hx rfl (hb q hd) rfl r
theorem W.lushr {x : Int64} {z : Int32} (A : W l Z n0 y bytes maxl ret R G h pc Ls (.int z :: .long x :: St) C S) (hd : decode bytes pc = .ok (.lushr, 1)) (hp : pc + 1 = pc') : W l Z n0 y bytes maxl ret R G h pc' Ls (.long ((x.toUInt64 >>> (z &&& 0x3f).toInt64.toUInt64).toInt64) :: St) C S := by
  subst hp; exact A.step fun X hx _ _ q _ r => XS.lushr X.here hx rfl (hb q hd) rfl r
theorem W.i2l {x : Int32} (A : W l Z n0 y bytes maxl ret R G h pc Ls (.int x :: St) C S) (hd : decode bytes pc = .ok (.i2l, 1)) (hp : pc + 1 = pc') : W l Z n0 y bytes maxl ret R G h pc' Ls (.long x.toInt64 :: St) C S := by
  subst hp; exact A.step fun X hx _ _ q _ r => XS.i2l X.here hx rfl (hb q hd) rfl r
theorem W.l2i {x : Int64} (A : W l Z n0 y bytes maxl ret R G h pc Ls (.long x :: St) C S) (hd : decode bytes pc = .ok (.l2i, 1)) (hp : pc + 1 = pc') : W l Z n0 y bytes maxl ret R G h pc' Ls (.int x.toInt32 :: St) C S := by
  subst hp; exact A.step fun X hx _ _ q _ r => XS.l2i X.here hx rfl (hb q hd) rfl r
theorem W.i2b {x : Int32} (A : W l Z n0 y bytes maxl ret R G h pc Ls (.int x :: St) C S) (hd : decode bytes pc = .ok (.i2b, 1)) (hp : pc + 1 = pc') : W l Z n0 y bytes maxl ret R G h pc' Ls (.int x.toInt8.toInt32 :: St) C S := by
  subst hp; exact A.step fun X hx _ _ q _ r => XS.i2b X.here hx rfl (hb q hd) rfl r
theorem W.i2s {x : Int32} (A : W l Z n0 y bytes maxl ret R G h pc Ls (.int x :: St) C S) (hd : decode bytes pc = .ok (.i2s, 1)) (hp : pc + 1 = pc') : W l Z n0 y bytes maxl ret R G h pc' Ls (.int x.toInt16.toInt32 :: St) C S := by
  subst hp; exact A.step fun X hx _ _ q _ r => XS.i2s X.here hx rfl (hb q hd) rfl r
theorem W.i2c {x : Int32} (A : W l Z n0 y bytes maxl ret R G h pc Ls (.int x :: St) C S) (hd : decode bytes pc = .ok (.i2c, 1)) (hp : pc + 1 = pc') : W l Z n0 y bytes maxl ret R G h pc' Ls (.int x.toUInt32.toUInt16.toUInt32.toInt32 :: St) C S := by
  subst hp; exact A.step fun X hx _ _ q _ r => XS.i2c X.here hx rfl (hb q hd) rfl r
theorem W.lcmp {x z : Int64} (A : W l Z n0 y bytes maxl ret R G h pc Ls (.long z :: .long x :: St) C S) (hd : decode bytes pc = .ok (.lcmp, 1)) (hp : pc + 1 = pc') : W l Z n0 y bytes maxl ret R G h pc' Ls (.int (lcmpW x z) :: St) C S := by
  subst hp; exact A.step fun X hx _ _ q _ r => XS.lcmp X.here hx rfl (hb q hd) rfl r
theorem W.idiv {x z : Int32} (A : W l Z n0 y bytes maxl ret R G h pc Ls (.int z :: .int x :: St) C S) (hd : decode bytes pc = .ok (.idiv, 1)) (hz : z ≠ 0) (hp : pc + 1 = pc') : W l Z n0 y bytes maxl ret R G h pc' Ls (.int (x / z) :: St) C S := by
  subst hp; exact A.step fun X hx _ _ q _ r => XS.idiv X.here hx rfl (hb q hd) rfl hz r
theorem W.irem {x z : Int32} (A : W l Z n0 y bytes maxl ret R G h pc Ls (.int z :: .int x :: St) C S) (hd : decode bytes pc = .ok (.irem, 1)) (hz : z ≠ 0) (hp : pc + 1 = pc') : W l Z n0 y bytes maxl ret R G h pc' Ls (.int (x % z) :: St) C S := by
  subst hp; exact A.step fun X hx _ _ q _ r => iremM (g := mkF _ _ _ _) X hx rfl (hb q hd) rfl hz r
theorem W.ldiv {x z : Int64} (A : W l Z n0 y bytes maxl ret R G h pc Ls (.long z :: .long x :: St) C S) (hd : decode bytes pc = .ok (.ldiv, 1)) (hz : z ≠ 0) (hp : pc + 1 = pc') : W l Z n0 y bytes maxl ret R G h pc' Ls (.long (x / z) :: St) C S := by
  subst hp; exact A.step fun X hx _ _ q _ r => XS.ldiv X.here hx rfl (hb q hd) rfl hz r
theorem W.lrem {x z : Int64} (A : W l Z n0 y bytes maxl ret R G h pc Ls (.long z :: .long x :: St) C S) (hd : decode bytes pc = .ok (.lrem, 1)) (hz : z ≠ 0) (hp : pc + 1 = pc') : W l Z n0 y bytes maxl ret R G h pc' Ls (.long (x % z) :: St) C S := by
  subst hp; exact A.step fun X hx _ _ q _ r => XS.lrem X.here hx rfl (hb q hd) rfl hz (by rw [lrem_mod]; exact r)
theorem W.dup {v : Value} (A : W l Z n0 y bytes maxl ret R G h pc Ls (v :: St) C S) (hd : decode bytes pc = .ok (.dup, 1)) (hc : v.category = 1) (hp : pc + 1 = pc') : W l Z n0 y bytes maxl ret R G h pc' Ls (v :: v :: St) C S := by
  subst hp; exact A.step fun X hx _ _ q _ r => XS.dup X.here hx rfl (hb q hd) rfl hc r
theorem W.pop {v : Value} (A : W l Z n0 y bytes maxl ret R G h pc Ls (v :: St) C S) (hd : decode bytes pc = .ok (.pop, 1)) (hc : v.category = 1) (hp : pc + 1 = pc') : W l Z n0 y bytes maxl ret R G h pc' Ls St C S := by
  subst hp; exact A.step fun X hx _ _ q _ r => XS.pop X.here hx rfl (hb q hd) rfl hc r
theorem W.dupX1 {v w : Value} (A : W l Z n0 y bytes maxl ret R G h pc Ls (v :: w :: St) C S) (hd : decode bytes pc = .ok (.dup_x1, 1)) (hc : v.category = 1) (hc' : w.category = 1) (hp : pc + 1 = pc') : W l Z n0 y bytes maxl ret R G h pc' Ls (v :: w :: v :: St) C S := by
  subst hp; exact A.step fun X hx _ _ q _ r => XS.dupX1 X.here hx rfl (hb q hd) rfl hc hc' r
theorem W.dup2 {v w : Value} (A : W l Z n0 y bytes maxl ret R G h pc Ls (v :: w :: St) C S) (hd : decode bytes pc = .ok (.dup2, 1)) (hc : v.category = 1) (hc' : w.category = 1) (hp : pc + 1 = pc') : W l Z n0 y bytes maxl ret R G h pc' Ls (v :: w :: v :: w :: St) C S := by
  subst hp; exact A.step fun X hx _ _ q _ r => XT.dup2 X.here hx rfl (hb q hd) rfl hc hc' r
theorem W.dup2L {x : Int64} (A : W l Z n0 y bytes maxl ret R G h pc Ls (.long x :: St) C S) (hd : decode bytes pc = .ok (.dup2, 1)) (hp : pc + 1 = pc') : W l Z n0 y bytes maxl ret R G h pc' Ls (.long x :: .long x :: St) C S := by
  subst hp; exact A.step fun X hx _ _ q _ r => XT.dup2L X.here hx rfl (hb q hd) rfl r
theorem W.goto (A : W l Z n0 y bytes maxl ret R G h pc Ls St C S) {o : Int} (hd : decode bytes pc = .ok (.goto o, 3)) (ho : 0 ≤ (pc : Int) + o) (hp : ((pc : Int) + o).toNat = pc') : W l Z n0 y bytes maxl ret R G h pc' Ls St C S :=
  A.step fun X hx _ _ q _ r => XS.goto X.here hx rfl rfl (hb q hd) ho hp r
theorem W.ifYes {x : Int32} (A : W l Z n0 y bytes maxl ret R G h pc Ls (.int x :: St) C S) {cd : ClassFile.Cond} {o : Int} (hd : decode bytes pc = .ok (.ifCond cd o, 3)) (hc : if_icmp.holds cd x 0 = true) (ho : 0 ≤ (pc : Int) + o) (hp : ((pc : Int) + o).toNat = pc') : W l Z n0 y bytes maxl ret R G h pc' Ls St C S :=
  A.step fun X hx _ _ q _ r => XS.ifYes X.here hx rfl rfl (hb q hd) rfl ((if0 _ _).trans hc) ho hp r
theorem W.ifNo {x : Int32} (A : W l Z n0 y bytes maxl ret R G h pc Ls (.int x :: St) C S) {cd : ClassFile.Cond} {o : Int} (hd : decode bytes pc = .ok (.ifCond cd o, 3)) (hc : if_icmp.holds cd x 0 = false) (hp : pc + 3 = pc') : W l Z n0 y bytes maxl ret R G h pc' Ls St C S := by
  subst hp; exact A.step fun X hx _ _ q _ r => XS.ifNo X.here hx rfl (hb q hd) rfl ((if0 _ _).trans hc) r
theorem W.icmpYes {x z : Int32} (A : W l Z n0 y bytes maxl ret R G h pc Ls (.int z :: .int x :: St) C S) {cd : ClassFile.Cond} {o : Int} (hd : decode bytes pc = .ok (.if_icmp cd o, 3)) (hc : if_icmp.holds cd x z = true) (ho : 0 ≤ (pc : Int) + o) (hp : ((pc : Int) + o).toNat = pc') : W l Z n0 y bytes maxl ret R G h pc' Ls St C S :=
  A.step fun X hx _ _ q _ r => XS.icmpYes X.here hx rfl rfl (hb q hd) rfl hc ho hp r
theorem W.icmpNo {x z : Int32} (A : W l Z n0 y bytes maxl ret R G h pc Ls (.int z :: .int x :: St) C S) {cd : ClassFile.Cond} {o : Int} (hd : decode bytes pc = .ok (.if_icmp cd o, 3)) (hc : if_icmp.holds cd x z = false) (hp : pc + 3 = pc') : W l Z n0 y bytes maxl ret R G h pc' Ls St C S := by
  subst hp; exact A.step fun X hx _ _ q _ r => XS.icmpNo X.here hx rfl (hb q hd) rfl hc r
theorem W.ifnullYes (A : W l Z n0 y bytes maxl ret R G h pc Ls (.null :: St) C S) {o : Int} (hd : decode bytes pc = .ok (.ifnull o, 3)) (ho : 0 ≤ (pc : Int) + o) (hp : ((pc : Int) + o).toNat = pc') : W l Z n0 y bytes maxl ret R G h pc' Ls St C S :=
  A.step fun X hx _ _ q _ r => XS.ifnullYes X.here hx rfl rfl (hb q hd) rfl ho hp r
theorem W.ifnullNo {a : Addr} (A : W l Z n0 y bytes maxl ret R G h pc Ls (.ref a :: St) C S) {o : Int} (hd : decode bytes pc = .ok (.ifnull o, 3)) (hp : pc + 3 = pc') : W l Z n0 y bytes maxl ret R G h pc' Ls St C S := by
  subst hp; exact A.step fun X hx _ _ q _ r => XS.ifnullNo X.here hx rfl (hb q hd) rfl r
theorem W.ifnonnullNo (A : W l Z n0 y bytes maxl ret R G h pc Ls (.null :: St) C S) {o : Int} (hd : decode bytes pc = .ok (.ifnonnull o, 3)) (hp : pc + 3 = pc') : W l Z n0 y bytes maxl ret R G h pc' Ls St C S := by
  subst hp; exact A.step fun X hx _ _ q _ r => XS.ifnonnullNo X.here hx rfl (hb q hd) rfl r
theorem W.ifnonnullYes {a : Addr} (A : W l Z n0 y bytes maxl ret R G h pc Ls (.ref a :: St) C S) {o : Int} (hd : decode bytes pc = .ok (.ifnonnull o, 3)) (ho : 0 ≤ (pc : Int) + o) (hp : ((pc : Int) + o).toNat = pc') : W l Z n0 y bytes maxl ret R G h pc' Ls St C S :=
  A.step fun X hx _ _ q _ r => XS.ifnonnullYes X.here hx rfl rfl (hb q hd) rfl ho hp r
/-! C. the returns -/
theorem W.fin {v : Option Value} (A : W l Z n0 y bytes maxl ret R G h pc Ls St C S) (hC : C ≤ R.cells) (hS : S ≤ R.slots) (hv : ret = none → v = none) (hQ : Q v h)
    (f : ∀ {p : Program} {e : Env} {s : State} {m : MethodId} {args : Array Value} {below : List Frame} {meth : Method} {c : Code} {T : State} {locs : List Loc} {fs : List Frame}, Stand p l e R s m args below meth c T locs C S → p.tables.exec = Jvm.exec → c.code = bytes → meth.sig.returnType = ret → (∀ (f : JFrame) (acts : List Action), f.method = m → f.locked = none → f.entered = [] → (doReturn e (T.setTop f) acts v).1 = T.setFrames fs) → Steps p.tables e below (T.setTop (mkF m pc Ls St)) (T.setFrames fs)) : Gl R n0 G Q := by
  obtain ⟨p, e, s, m, args, below, meth, c, st⟩ := G
  obtain ⟨hx, hZ, hby, hml, hown, hnm, hrt, hlk, hn0, T, locs, X, N, eT, k⟩ := A
  obtain ⟨fs, hr, hrun, hended, hW, hsame⟩ := X.leave (v := v) (fun q => hv (hrt.symm.trans q)) hlk
  show ∃ s₂ o, _
  refine ⟨_, _, k _ (f X hx hby hrt hr), hrun, hended, v, locs, rfl, ⟨N, ?_⟩, ⟨_, rfl⟩, hW, hsame.mono hC hS⟩
  show Q v T.heap
  rw [eT]; exact hQ
theorem W.retI {z : Int32} (A : W l Z n0 y bytes maxl (some .int) R G h pc Ls (.int z :: St) C S) (hd : decode bytes pc = .ok (.ireturn, 1)) (hC : C ≤ R.cells) (hS : S ≤ R.slots) (hQ : Q (some (.int z)) h) : Gl R n0 G Q :=
  A.fin hC hS (fun q => nomatch q) hQ fun X hx q hret hr => retOut X hx hret (t := .int) rfl (Or.inl ⟨rfl, Or.inl rfl, z, rfl⟩) (hb q hd) hr
theorem W.retN {z z' : Int32} {t : FieldType} (A : W l Z n0 y bytes maxl (some t) R G h pc Ls (.int z :: St) C S) (hd : decode bytes pc = .ok (.ireturn, 1)) (hC : C ≤ R.cells) (hS : S ≤ R.slots) (ht : t = .boolean ∨ t = .byte ∨ t = .char ∨ t = .short) (hz : nar t z = z') (hQ : Q (some (.int z')) h) : Gl R n0 G Q := by
  subst hz; exact A.fin hC hS (fun q => nomatch q) hQ fun X hx q hret hr => RoadKit.retN X hx hret ht (hb q hd) hr
theorem W.retJ {z : Int64} (A : W l Z n0 y bytes maxl (some .long) R G h pc Ls (.long z :: St) C S) (hd : decode bytes pc = .ok (.lreturn, 1)) (hC : C ≤ R.cells) (hS : S ≤ R.slots) (hQ : Q (some (.long z)) h) : Gl R n0 G Q :=
  A.fin hC hS (fun q => nomatch q) hQ fun X hx q hret hr => retOut X hx hret (t := .long) rfl (Or.inr (Or.inl ⟨rfl, rfl, z, rfl⟩)) (hb q hd) hr
theorem W.retA {v : Value} {t : FieldType} (A : W l Z n0 y bytes maxl (some t) R G h pc Ls (v :: St) C S) (hd : decode bytes pc = .ok (.areturn, 1)) (hC : C ≤ R.cells) (hS : S ≤ R.slots) (ht : t.isReference = true) (hv : v.isRef = true) (hn : narrow t v = v) (hQ : Q (some v) h) : Gl R n0 G Q :=
  A.fin hC hS (fun q => nomatch q) hQ fun X hx q hret hr => retOut X hx hret (t := t) hn (Or.inr (Or.inr (Or.inr (Or.inr ⟨rfl, ht, hv⟩)))) (hb q hd) hr
theorem W.retV (A : W l Z n0 y bytes maxl none R G h pc Ls [] C S) (hd : decode bytes pc = .ok (.return_, 1)) (hC : C ≤ R.cells) (hS : S ≤ R.slots) (hQ : Q none h) : Gl R n0 G Q :=
  A.fin hC hS (fun _ => rfl) hQ fun X hx q hret hr => X.returnOut hx hret (hb q hd) hr
/-! D. calls -/
theorem W.callS (A : W l Z n0 y bytes maxl ret R G h pc Ls St C S) {y' : MethodName} {bytes' : ByteArray} {maxl' : Nat} {ret' : Option FieldType} {R' : Room} {as : Array Value} {idx : Nat} {argsL rest : List Value} {ps : List FieldType} {rr : Option FieldType} (hd : decode bytes pc = .ok (.invokestatic idx, 3))
    (w1 : (Jvm.Cond.methodLink y.cls idx y').before a0 Z = true) (w2 : (Jvm.Cond.static y').before a0 Z = true) (w3 : (Jvm.Cond.initialized y'.cls).before a0 Z = true) (w4 : (Jvm.Cond.code y' bytes' maxl' ret').before a0 Z = true) (hM : Ctr l Z n0 y' bytes' maxl' ret' [] R' as h Q) (has : argsL.toArray = as) (hs : St = argsL.reverse ++ rest)
    (hpd : parseMethodDescriptor y'.desc = some ⟨ps, rr⟩) (hlen : argsL.length = ps.length) (hsz : Ls.size = maxl) (hy : y'.cls ≠ "java/lang/invoke/MethodHandle" ∧ y'.cls ≠ "java/lang/invoke/VarHandle") (hf : R'.frames + 1 ≤ R.frames) (hlo : (rest.map fun v => v.category).sum + (maxl' + 11) + R'.locals ≤ R.locals) (hC : C + R'.cells ≤ R.cells) (hS : S + R'.slots ≤ R.slots) (hC' : C + R'.cells = C') (hS' : S + R'.slots = S') (hp : pc + 3 = pc') :
    ∃ v h', Q v h' ∧ W l Z n0 y bytes maxl ret R G h' pc' Ls (v.toList ++ rest) C' S' := by
  subst hp hC' hS' has
  obtain ⟨p, e, s, m, args, below, meth, c, st⟩ := G
  obtain ⟨hx, hZ, hby, hml, hown, hnm, hrt, hlk, hn0, T, locs, X, N, eT, k⟩ := A
  obtain ⟨v, _, ⟨T', L', k', n'⟩, -, X', ⟨Lc, hQ, l1, y1, z1⟩, st'⟩ := Jvm.LawKit.callS X hx (y := y') hown (mvT hZ w1) (mvT hZ w2) (mvT hZ w3) (mvT hZ w4) hy (backOf (Q := fun v h L => Fr n0 L ∧ Q v h) (W := (rest.map fun v => v.category).sum) hM hZ w4 w3 hf hlo) (g := mkF m pc Ls St) rfl (by rw [hml]; exact hsz) (argsL := argsL) (rest := rest) (lenOf hpd hlen) hs (by show 2 * 0 + _ ≤ _; omega) (hb hby hd) (fun _ _ => ⟨rfl, eT, hC, hS⟩)
  dsimp only [Pt.U, Pt.locs, Pt.cells, Pt.slots] at X' l1 y1 z1 st' hQ
  subst l1 y1 z1
  exact ⟨v, T'.heap, hQ.2, W.mk hx hZ hby hml hown hnm hrt hlk hn0 X' (N.app hQ.1) rfl (fun t q => k t (st' t q))⟩
theorem W.callI (A : W l Z n0 y bytes maxl ret R G h pc Ls St C S) {a : Addr} {y' : MethodName} {bytes' : ByteArray} {maxl' : Nat} {R' : Room} {as : Array Value} {idx : Nat} {argsL rest : List Value} {ps : List FieldType} {rr : Option FieldType} (hd : decode bytes pc = .ok (.invokespecial idx, 3)) (hy1 : y'.name = "<init>")
    (w1 : (Jvm.Cond.methodLink y.cls idx y').before a0 Z = true) (w2 : (Jvm.Cond.instanceMethod y').before a0 Z = true) (w3 : (Jvm.Cond.initialized y'.cls).before a0 Z = true) (w4 : (Jvm.Cond.code y' bytes' maxl' none).before a0 Z = true) (hM : Ctr l Z n0 y' bytes' maxl' none [] R' as h Q) (has : (.ref a :: argsL).toArray = as) (hs : St = argsL.reverse ++ .ref a :: rest)
    (hpd : parseMethodDescriptor y'.desc = some ⟨ps, rr⟩) (hlen : argsL.length = ps.length) (hsz : Ls.size = maxl) (hy : y'.cls ≠ "java/lang/invoke/MethodHandle" ∧ y'.cls ≠ "java/lang/invoke/VarHandle") (hf : R'.frames + 1 ≤ R.frames) (hlo : (rest.map fun v => v.category).sum + (maxl' + 11) + R'.locals ≤ R.locals) (hC : C + R'.cells ≤ R.cells) (hS : S + R'.slots ≤ R.slots) (hC' : C + R'.cells = C') (hS' : S + R'.slots = S') (hp : pc + 3 = pc') :
    ∃ v h', Q v h' ∧ W l Z n0 y bytes maxl ret R G h' pc' Ls (v.toList ++ rest) C' S' := by
  subst hp hC' hS' has
  obtain ⟨p, e, s, m, args, below, meth, c, st⟩ := G
  obtain ⟨hx, hZ, hby, hml, hown, hnm, hrt, hlk, hn0, T, locs, X, N, eT, k⟩ := A
  obtain ⟨v, _, ⟨T', L', k', n'⟩, -, X', ⟨Lc, hQ, l1, y1, z1⟩, st'⟩ := X.specialBack hx (y := y') hy1 hown (mvT hZ w1) (mvT hZ w2) (mvT hZ w4) hy (backOf (Q := fun v h L => Fr n0 L ∧ Q v h) (W := (rest.map fun v => v.category).sum) hM hZ w4 w3 hf hlo) (g := mkF m pc Ls St) rfl (by rw [hml]; exact hsz) (Steps.refl _) (a := a) (argsL := argsL) (rest := rest) (lenOf hpd hlen) hs (by show 2 * 0 + _ ≤ _; omega) (hb hby hd) (fun _ _ => ⟨rfl, eT, hC, hS⟩)
  dsimp only [Pt.U, Pt.locs, Pt.cells, Pt.slots] at X' l1 y1 z1 st' hQ
  subst l1 y1 z1
  exact ⟨v, T'.heap, hQ.2, W.mk hx hZ hby hml hown hnm hrt hlk hn0 X' (N.app hQ.1) rfl (fun t q => k t (st'.trans q))⟩
theorem W.callV (A : W l Z n0 y bytes maxl ret R G h pc Ls St C S) {a : Addr} {K : String} {y' z' : MethodName} {bytes' : ByteArray} {maxl' : Nat} {ret' : Option FieldType} {R' : Room} {as : Array Value} {idx : Nat} {argsL rest : List Value} {ps : List FieldType} {rr : Option FieldType} (hd : decode bytes pc = .ok (.invokevirtual idx, 3)) (E : Exa Z h a K)
    (w1 : (Jvm.Cond.methodLink y.cls idx y').before a0 Z = true) (wd : (Jvm.Cond.declares y').before a0 Z = true) (hnf : ∀ {s : State}, Z.Warmed39 s.vm → NotFace s y') (ws : (Jvm.Cond.selects K y' z').before a0 Z = true) (w2 : (Jvm.Cond.instanceMethod z').before a0 Z = true) (w3 : (Jvm.Cond.initialized z'.cls).before a0 Z = true) (w4 : (Jvm.Cond.code z' bytes' maxl' ret').before a0 Z = true) (hM : Ctr l Z n0 z' bytes' maxl' ret' [] R' as h Q) (has : (.ref a :: argsL).toArray = as) (hs : St = argsL.reverse ++ .ref a :: rest)
    (hpd : parseMethodDescriptor y'.desc = some ⟨ps, rr⟩) (hlen : argsL.length = ps.length) (hsz : Ls.size = maxl) (hy : y'.cls ≠ "java/lang/invoke/MethodHandle" ∧ y'.cls ≠ "java/lang/invoke/VarHandle") (hf : R'.frames + 1 ≤ R.frames) (hlo : (rest.map fun v => v.category).sum + (maxl' + 11) + R'.locals ≤ R.locals) (hC : C + R'.cells ≤ R.cells) (hS : S + R'.slots ≤ R.slots) (hC' : C + R'.cells = C') (hS' : S + R'.slots = S') (hp : pc + 3 = pc') :
    ∃ v h', Q v h' ∧ W l Z n0 y bytes maxl ret R G h' pc' Ls (v.toList ++ rest) C' S' := by
  subst hp hC' hS' has
  obtain ⟨p, e, s, m, args, below, meth, c, st⟩ := G
  obtain ⟨hx, hZ, hby, hml, hown, hnm, hrt, hlk, hn0, T, locs, X, N, eT, k⟩ := A
  obtain ⟨cq, kq, qa, qb, qc⟩ := isOf hZ eT E
  obtain ⟨v, _, ⟨T', L', k', n'⟩, -, X', ⟨Lc, hQ, l1, y1, z1⟩, st'⟩ := X.virtualBack hx (y := y') (z := z') hown (mvT hZ w1) (mvT hZ wd) (hnf hZ) (mvT hZ ws) (mvT hZ w2) hy (backOf (Q := fun v h L => Fr n0 L ∧ Q v h) (W := (rest.map fun v => v.category).sum) hM hZ w4 w3 hf hlo) qa qc (g := mkF m pc Ls St) rfl (by rw [hml]; exact hsz) (Steps.refl _) (argsL := argsL) (rest := rest) (lenOf hpd hlen) hs (by show 2 * 0 + _ ≤ _; omega) (hb hby hd) (fun _ _ => ⟨rfl, eT, hC, hS⟩)
  dsimp only [Pt.U, Pt.locs, Pt.cells, Pt.slots] at X' l1 y1 z1 st' hQ
  subst l1 y1 z1
  exact ⟨v, T'.heap, hQ.2, W.mk hx hZ hby hml hown hnm hrt hlk hn0 X' (N.app hQ.1) rfl (fun t q => k t (st'.trans q))⟩
theorem W.callP (A : W l Z n0 y bytes maxl ret R G h pc Ls St C S) {a : Addr} {K : String} {kk : Nat} {y' : MethodName} {bytes' : ByteArray} {maxl' : Nat} {ret' : Option FieldType} {R' : Room} {as : Array Value} {idx : Nat} {argsL rest : List Value} {ps : List FieldType} {rr : Option FieldType} (hd : decode bytes pc = .ok (.invokevirtual idx, 3)) (E : Exa Z h a K)
    (w1 : (Jvm.Cond.methodLink y.cls idx y').before a0 Z = true) (w2 : (Jvm.Cond.instanceMethod y').before a0 Z = true) (wp : (Jvm.Cond.privateMethod y').before a0 Z = true) (wi : (Jvm.Cond.instantiable y'.cls kk).before a0 Z = true) (w3 : (Jvm.Cond.initialized y'.cls).before a0 Z = true) (w4 : (Jvm.Cond.code y' bytes' maxl' ret').before a0 Z = true) (hM : Ctr l Z n0 y' bytes' maxl' ret' [] R' as h Q) (has : (.ref a :: argsL).toArray = as) (hs : St = argsL.reverse ++ .ref a :: rest)
    (hpd : parseMethodDescriptor y'.desc = some ⟨ps, rr⟩) (hlen : argsL.length = ps.length) (hsz : Ls.size = maxl) (hy : y'.cls ≠ "java/lang/invoke/MethodHandle" ∧ y'.cls ≠ "java/lang/invoke/VarHandle") (hf : R'.frames + 1 ≤ R.frames) (hlo : (rest.map fun v => v.category).sum + (maxl' + 11) + R'.locals ≤ R.locals) (hC : C + R'.cells ≤ R.cells) (hS : S + R'.slots ≤ R.slots) (hC' : C + R'.cells = C') (hS' : S + R'.slots = S') (hp : pc + 3 = pc') :
    ∃ v h', Q v h' ∧ W l Z n0 y bytes maxl ret R G h' pc' Ls (v.toList ++ rest) C' S' := by
  subst hp hC' hS' has
  obtain ⟨p, e, s, m, args, below, meth, c, st⟩ := G
  obtain ⟨hx, hZ, hby, hml, hown, hnm, hrt, hlk, hn0, T, locs, X, N, eT, k⟩ := A
  obtain ⟨cq, q1, q2⟩ := E.cell
  have hpv := Cond.privateMethod_at (mvP (args := args) hZ wp)
  obtain ⟨ci, ki, i1, i2, -, i3, -, -⟩ := Cond.instantiable_spec (mvT (args := args) hZ wi)
  have hsel := selects_self_of_private (args := args) i1 i2 (Bool.or_eq_false_iff.mp i3).1 hpv (mvT hZ w2) hy
  obtain ⟨v, _, ⟨T', L', k', n'⟩, -, X', ⟨Lc, hQ, l1, y1, z1⟩, st'⟩ := X.privateBack hx (y := y') hown (mvT hZ w1) (mvT hZ w2) hsel hpv (mvT hZ w4) hy (backOf (Q := fun v h L => Fr n0 L ∧ Q v h) (W := (rest.map fun v => v.category).sum) hM hZ w4 w3 hf hlo) (g := mkF m pc Ls St) rfl (by rw [hml]; exact hsz) (Steps.refl _) (a := a) (by rw [eT]; exact q1) q2 (argsL := argsL) (rest := rest) (lenOf hpd hlen) hs (by show 2 * 0 + _ ≤ _; omega) (hb hby hd) (fun _ _ => ⟨rfl, eT, hC, hS⟩)
  dsimp only [Pt.U, Pt.locs, Pt.cells, Pt.slots] at X' l1 y1 z1 st' hQ
  subst l1 y1 z1
  exact ⟨v, T'.heap, hQ.2, W.mk hx hZ hby hml hown hnm hrt hlk hn0 X' (N.app hQ.1) rfl (fun t q => k t (st'.trans q))⟩
theorem W.kI {P : Int32 → Heap → Prop} {rest : List Value} (q : ∃ v h', QI P v h' ∧ W l Z n0 y bytes maxl ret R G h' pc Ls (v.toList ++ rest) C S) : ∃ r h', P r h' ∧ W l Z n0 y bytes maxl ret R G h' pc Ls (.int r :: rest) C S := by
  obtain ⟨v, h', ⟨r, rfl, hP⟩, A⟩ := q; exact ⟨r, h', hP, A⟩
theorem W.kJ {P : Int64 → Heap → Prop} {rest : List Value} (q : ∃ v h', QJ P v h' ∧ W l Z n0 y bytes maxl ret R G h' pc Ls (v.toList ++ rest) C S) : ∃ r h', P r h' ∧ W l Z n0 y bytes maxl ret R G h' pc Ls (.long r :: rest) C S := by
  obtain ⟨v, h', ⟨r, rfl, hP⟩, A⟩ := q; exact ⟨r, h', hP, A⟩
theorem W.kA {P : Addr → Heap → Prop} {rest : List Value} (q : ∃ v h', QA P v h' ∧ W l Z n0 y bytes maxl ret R G h' pc Ls (v.toList ++ rest) C S) : ∃ r h', P r h' ∧ W l Z n0 y bytes maxl ret R G h' pc Ls (.ref r :: rest) C S := by
  obtain ⟨v, h', ⟨r, rfl, hP⟩, A⟩ := q; exact ⟨r, h', hP, A⟩
theorem W.kV {P : Heap → Prop} {rest : List Value} (q : ∃ v h', QV P v h' ∧ W l Z n0 y bytes maxl ret R G h' pc Ls (v.toList ++ rest) C S) : ∃ h', P h' ∧ W l Z n0 y bytes maxl ret R G h' pc Ls rest C S := by
  obtain ⟨v, h', ⟨rfl, hP⟩, A⟩ := q; exact ⟨h', hP, A⟩
end Walk
end Jvm.Pilot.@@N@@
namespace Jvm.Pilot.@@N@@
open Jvm Jvm.ClassFile Sem Op Lib Jvm.Free Jvm.Stand Jvm.LawKit Jvm.RoadKit Bundle
/-! numbers -/
theorem rng32 (x : Int32) : -2147483648 ≤ x.toInt ∧ x.toInt < 2147483648 := ⟨x.le_toInt, x.toInt_lt⟩
theorem rng64 (x : Int64) : -9223372036854775808 ≤ x.toInt ∧ x.toInt < 9223372036854775808 := ⟨x.le_toInt, x.toInt_lt⟩
theorem add32 (x y : Int32) (h1 : -2147483648 ≤ x.toInt + y.toInt) (h2 : x.toInt + y.toInt < 2147483648) : (x + y).toInt = x.toInt + y.toInt := by
  have e := c_iadd x y; have r := rng32 (x + y); omega
theorem sub32 (x y : Int32) (h1 : -2147483648 ≤ x.toInt - y.toInt) (h2 : x.toInt - y.toInt < 2147483648) : (x - y).toInt = x.toInt - y.toInt := by
  have e := c_isub x y; have r := rng32 (x - y); omega
theorem mul32 (x y : Int32) (h1 : -2147483648 ≤ x.toInt * y.toInt) (h2 : x.toInt * y.toInt < 2147483648) : (x * y).toInt = x.toInt * y.toInt := by
  have e := c_imul x y; have r := rng32 (x * y); generalize x.toInt * y.toInt = z at *; omega
theorem add64 (x y : Int64) (h1 : -9223372036854775808 ≤ x.toInt + y.toInt) (h2 : x.toInt + y.toInt < 9223372036854775808) : (x + y).toInt = x.toInt + y.toInt := by
  have e := c_ladd x y; have r := rng64 (x + y); omega
theorem sub64 (x y : Int64) (h1 : -9223372036854775808 ≤ x.toInt - y.toInt) (h2 : x.toInt - y.toInt < 9223372036854775808) : (x - y).toInt = x.toInt - y.toInt := by
  have e := c_lsub x y; have r := rng64 (x - y); omega
theorem mul64 (x y : Int64) (h1 : -9223372036854775808 ≤ x.toInt * y.toInt) (h2 : x.toInt * y.toInt < 9223372036854775808) : (x * y).toInt = x.toInt * y.toInt := by
  have e := c_lmul x y; have r := rng64 (x * y); generalize x.toInt * y.toInt = z at *; omega
theorem mulc32 (x c : Int32) (k : Int) (hc : c.toInt = k) (h1 : -2147483648 ≤ x.toInt * k) (h2 : x.toInt * k < 2147483648) : (x * c).toInt = x.toInt * k := by
  subst hc; exact mul32 x c h1 h2
theorem mulc64 (x c : Int64) (k : Int) (hc : c.toInt = k) (h1 : -9223372036854775808 ≤ x.toInt * k) (h2 : x.toInt * k < 9223372036854775808) : (x * c).toInt = x.toInt * k := by
  subst hc; exact mul64 x c h1 h2
theorem addc32 (x c : Int32) (k : Int) (hc : c.toInt = k) (h1 : -2147483648 ≤ x.toInt + k) (h2 : x.toInt + k < 2147483648) : (x + c).toInt = x.toInt + k := by
  subst hc; exact add32 x c h1 h2
theorem subc32 (x c : Int32) (k : Int) (hc : c.toInt = k) (h1 : -2147483648 ≤ x.toInt - k) (h2 : x.toInt - k < 2147483648) : (x - c).toInt = x.toInt - k := by
  subst hc; exact sub32 x c h1 h2
theorem sta_int {args : Array Value} {s : State} {C n d : String} {v : Int32} (h : (Jvm.Cond.eq (Jvm.Term.static C n d) (Jvm.Term.int v)).value args s none s [] = some true) : (Jvm.Term.static C n d).eval args s none [] s = some (.int v) := by
  obtain ⟨a, b, h1, h2, -, -⟩ := cmp_v (Or.inl h)
  cases Option.some.inj (h2.symm.trans (rfl : (Jvm.Term.int v).eval args s none [] s = some (.int v)))
  rw [h1]; cases a <;> simp [Cond.value, h1, h2] at h ⊢; exact h
theorem sta_long {args : Array Value} {s : State} {C n d : String} {v : Int64} (h : (Jvm.Cond.eq (Jvm.Term.static C n d) (Jvm.Term.long v)).value args s none s [] = some true) : (Jvm.Term.static C n d).eval args s none [] s = some (.long v) := by
  obtain ⟨a, b, h1, h2, -, -⟩ := cmp_v (Or.inl h)
  cases Option.some.inj (h2.symm.trans (rfl : (Jvm.Term.long v).eval args s none [] s = some (.long v)))
  rw [h1]; cases a <;> simp [Cond.value, h1, h2] at h ⊢; exact h
/-- (y & 0x7fffffff) % m -/
theorem pmod32 (x m : Int32) (M : Int) (hm : m.toInt = M) (hM : 0 < M) : ((x &&& (2147483647 : Int32)) % m).toInt = (x.toInt % 2147483648) % M ∧ 0 ≤ ((x &&& (2147483647 : Int32)) % m).toInt ∧ ((x &&& (2147483647 : Int32)) % m).toInt < M := by
  have e : (x &&& (2147483647 : Int32)).toInt = x.toInt % 2147483648 := c_mask x 2147483647 31 (by decide) (by decide)
  have q := (c_irem (x &&& (2147483647 : Int32)) m M hm).1 (by omega)
  have := Int.emod_nonneg (x.toInt % 2147483648) (show M ≠ 0 by omega)
  have := Int.emod_lt_of_pos (x.toInt % 2147483648) hM
  rw [q, e]; omega
/-- (x & Long.MAX_VALUE) % m -/
theorem pmod64 (x m : Int64) (M : Int) (hm : m.toInt = M) (hM : 0 < M) : 0 ≤ ((x &&& (9223372036854775807 : Int64)) % m).toInt ∧ ((x &&& (9223372036854775807 : Int64)) % m).toInt < M := by
  have e : (x &&& (9223372036854775807 : Int64)).toInt = x.toInt % 9223372036854775808 := c_maskL x 9223372036854775807 63 (by decide) (by decide)
  have q := (c_lrem (x &&& (9223372036854775807 : Int64)) m M hm).1 (by omega)
  rw [lrem_mod] at q
  have := Int.emod_nonneg (x.toInt % 9223372036854775808) (show M ≠ 0 by omega)
  have := Int.emod_lt_of_pos (x.toInt % 9223372036854775808) hM
  rw [q, e]; omega
end Jvm.Pilot.@@N@@
namespace Jvm.Pilot.@@N@@
open Jvm Jvm.ClassFile Sem Op Lib Jvm.Free Jvm.Stand Jvm.LawKit Jvm.RoadKit Bundle Jvm.Pilot.@@N@@.Jvm.D
section Heaps
variable {l : Launch} {Z : State} {n0 : Nat} {y : MethodName} {bytes : ByteArray} {maxl : Nat} {ret : Option FieldType} {R : Room} {G : Cx} {h h' : Heap} {pc pc' : Nat} {Ls : Array Slot} {St : List Value} {C S C' S' : Nat} {Q : Option Value → Heap → Prop} {a0 : Array Value} {a b : Addr}
/-- a step that moves the state and keeps the heap -/
theorem W.stepT (A : W l Z n0 y bytes maxl ret R G h pc Ls St C S) {Ls' : Array Slot} {St' : List Value}
    (f : ∀ {p : Program} {e : Env} {s : State} {m : MethodId} {args : Array Value} {below : List Frame} {meth : Method} {c : Code} {T : State} {locs : List Loc}, Stand p l e R s m args below meth c T locs C S → p.tables.exec = Jvm.exec → Z.Warmed39 s.vm → s.vm.findClass y.cls = some m.cls → c.code = bytes → c.maxLocals = maxl → T.heap = h →
      ∃ T', Stand p l e R s m args below meth c T' locs C S ∧ T'.heap = h ∧ ∀ t, Steps p.tables e below (T'.setTop (mkF m pc' Ls' St')) t → Steps p.tables e below (T.setTop (mkF m pc Ls St)) t) : W l Z n0 y bytes maxl ret R G h pc' Ls' St' C S := by
  obtain ⟨p, e, s, m, args, below, meth, c, st⟩ := G
  obtain ⟨hx, hZ, hby, hml, hown, hnm, hrt, hlk, hn0, T, locs, X, N, eT, k⟩ := A
  obtain ⟨T', X', e', st'⟩ := f X hx hZ hown hby hml eT
  exact W.mk hx hZ hby hml hown hnm hrt hlk hn0 X' N e' (fun t q => k t (st' t q))
theorem W.getF (A : W l Z n0 y bytes maxl ret R G h pc Ls (.ref a :: St) C S) {index : Nat} {R0 O n d host : String} {v : Value} (hd : decode bytes pc = .ok (.getfield index, 3)) (w : (Jvm.Cond.fieldLink y.cls index R0 n d).before a0 Z = true ∨ (Jvm.Cond.fieldLinkNest y.cls index R0 n d host).before a0 Z = true) (via : Via Z R0 O n d) (F : Fld Z h a O n d v) (hp : pc + 3 = pc') : W l Z n0 y bytes maxl ret R G h pc' Ls (v :: St) C S := by
  subst hp; exact A.stepT fun X hx hZ hown q _ eT => RoadKit.getF X hx hZ hown w via eT F (g := mkF _ _ _ _) rfl rfl (hb q hd)
theorem W.getS (A : W l Z n0 y bytes maxl ret R G h pc Ls St C S) {index : Nat} {R0 O n d host : String} {v : Value} (hd : decode bytes pc = .ok (.getstatic index, 3)) (w : (Jvm.Cond.fieldLink y.cls index R0 n d).before a0 Z = true ∨ (Jvm.Cond.fieldLinkNest y.cls index R0 n d host).before a0 Z = true) (via : Via Z R0 O n d) (F : Sta Z h O n d v) (hp : pc + 3 = pc') : W l Z n0 y bytes maxl ret R G h pc' Ls (v :: St) C S := by
  subst hp; exact A.stepT fun X hx hZ hown q _ eT => getS2 X hx hZ hown w via eT F (g := mkF _ _ _ _) rfl (hb q hd)
theorem W.initO (A : W l Z n0 y bytes maxl ret R G h pc Ls (.ref a :: St) C S) {idx : Nat} (hd : decode bytes pc = .ok (.invokespecial idx, 3)) (w1 : (Jvm.Cond.methodLink y.cls idx Lib.objectInit).before a0 Z = true) (w2 : (Jvm.Cond.instanceMethod Lib.objectInit).before a0 Z = true) (w3 : (Jvm.Cond.code Lib.objectInit ⟨#[0xb1]⟩ 1 none).before a0 Z = true) (hsz : Ls.size = maxl) (hf : 1 ≤ R.frames) (hlo : (St.map fun v => v.category).sum + 12 ≤ R.locals) (hp : pc + 3 = pc') : W l Z n0 y bytes maxl ret R G h pc' Ls St C S := by
  subst hp; exact A.stepT fun X hx hZ hown q hml eT => RoadKit.initO X hx hZ hown w1 w2 w3 eT (g := mkF _ _ _ _) rfl (by rw [hml]; exact hsz) rfl (hb q hd) hf (W := (St.map fun v => v.category).sum) (by show 2 * 0 + _ ≤ _; omega) hlo
theorem W.cast0 (A : W l Z n0 y bytes maxl ret R G h pc Ls (.ref a :: St) C S) {index : Nat} {K : String} (hd : decode bytes pc = .ok (.checkcast index, 3)) (w : (Jvm.Cond.classLink y.cls index K).before a0 Z = true) (F : Ins Z h a K true) (hp : pc + 3 = pc') : W l Z n0 y bytes maxl ret R G h pc' Ls (.ref a :: St) C S := by
  subst hp; exact A.stepT fun X hx hZ hown q _ eT => castY X hx hZ hown w eT F (g := mkF _ _ _ _) rfl rfl (hb q hd)
theorem W.inst1 (A : W l Z n0 y bytes maxl ret R G h pc Ls (.ref a :: St) C S) {index : Nat} {K : String} (hd : decode bytes pc = .ok (.instanceof index, 3)) (w : (Jvm.Cond.classLink y.cls index K).before a0 Z = true) (F : Ins Z h a K true) (hp : pc + 3 = pc') : W l Z n0 y bytes maxl ret R G h pc' Ls (.int 1 :: St) C S := by
  subst hp; exact A.stepT fun X hx hZ hown q _ eT => instY X hx hZ hown w eT F (g := mkF _ _ _ _) rfl rfl (hb q hd)
theorem W.putF {v : Value} (A : W l Z n0 y bytes maxl ret R G h pc Ls (v :: .ref a :: St) C S) {index kk : Nat} {R0 O n d host K : String} {ty : FieldType} {old : Value} (hd : decode bytes pc = .ok (.putfield index, 3)) (w : (Jvm.Cond.fieldLink y.cls index R0 n d).before a0 Z = true ∨ (Jvm.Cond.fieldLinkNest y.cls index R0 n d host).before a0 Z = true) (via : Via Z R0 O n d)
    (F : Fld Z h a O n d old) (E : Exa Z h a K) (Lw : (Jvm.Cond.lays K O n d).before a0 Z = true ∨ ((Jvm.Cond.laysFinal K O n d).before a0 Z = true ∧ y.cls = O ∧ y.name = "<init>")) (wi : (Jvm.Cond.instantiable K kk).before a0 Z = true) (hty : parseFieldDescriptor d = some ty) (hn : narrow ty v = v) (hf : fits ty v = true) (ga : n0 ≤ a) (hp : pc + 3 = pc') :
    ∃ h', Wr h h' a (Jvm.RoadKit.slotOf Z O n d) v ∧ W l Z n0 y bytes maxl ret R G h' pc' Ls St C S := by
  subst hp
  obtain ⟨p, e, s, m, args, below, meth, c, st⟩ := G
  obtain ⟨hx, hZ, hby, hml, hown, hnm, hrt, hlk, hn0, T, locs, X, N, eT, k⟩ := A
  obtain ⟨T', h', X', e', W', st'⟩ := RoadKit.putF X hx hZ hown w via eT F E (Lw.imp id fun q => ⟨q.1, q.2.1, hnm.trans q.2.2⟩) wi hty hn hf (g := mkF m pc Ls _) rfl rfl (hb hby hd)
  exact ⟨h', W', W.mk hx hZ hby hml hown hnm hrt hlk hn0 X' (Fr.snoc X' N ga) e' (fun t q => k t (st' t q))⟩
theorem W.putFN {v v' : Value} (A : W l Z n0 y bytes maxl ret R G h pc Ls (v :: .ref a :: St) C S) {index kk : Nat} {R0 O n d K : String} {ty : FieldType} {old : Value} (hd : decode bytes pc = .ok (.putfield index, 3)) (w : (Jvm.Cond.fieldLink y.cls index R0 n d).before a0 Z = true) (via : Via Z R0 O n d)
    (F : Fld Z h a O n d old) (E : Exa Z h a K) (Lw : (Jvm.Cond.lays K O n d).before a0 Z = true ∨ ((Jvm.Cond.laysFinal K O n d).before a0 Z = true ∧ y.cls = O ∧ y.name = "<init>")) (wi : (Jvm.Cond.instantiable K kk).before a0 Z = true) (hty : parseFieldDescriptor d = some ty) (hn : narrow ty v = v') (hf : fits ty v' = true) (ga : n0 ≤ a) (hp : pc + 3 = pc') :
    ∃ h', Wr h h' a (Jvm.RoadKit.slotOf Z O n d) v' ∧ W l Z n0 y bytes maxl ret R G h' pc' Ls St C S := by
  subst hp
  obtain ⟨p, e, s, m, args, below, meth, c, st⟩ := G
  obtain ⟨hx, hZ, hby, hml, hown, hnm, hrt, hlk, hn0, T, locs, X, N, eT, k⟩ := A
  obtain ⟨T', h', X', e', W', st'⟩ := RoadKit.putFN X hx hZ hown w via eT F E (Lw.imp id fun q => ⟨q.1, q.2.1, hnm.trans q.2.2⟩) wi hty hn hf (g := mkF m pc Ls _) rfl rfl (hb hby hd)
  exact ⟨h', W', W.mk hx hZ hby hml hown hnm hrt hlk hn0 X' (Fr.snoc X' N ga) e' (fun t q => k t (st' t q))⟩
theorem W.newO (A : W l Z n0 y bytes maxl ret R G h pc Ls St C S) {index n : Nat} {K : String} (hd : decode bytes pc = .ok (.new index, 3)) (w : (Jvm.Cond.classLink y.cls index K).before a0 Z = true) (wi : (Jvm.Cond.instantiable K n).before a0 Z = true) (wz : (Jvm.Cond.initialized K).before a0 Z = true) (hC : C + 1 ≤ R.cells) (hS : S + n ≤ R.slots) (hC' : C + 1 = C') (hS' : S + n = S') (hp : pc + 3 = pc') :
    ∃ h' b, b = h.size ∧ n0 ≤ b ∧ Ext h h' ∧ Exa Z h' b K ∧ (∀ {O nm d : String} {ty : FieldType}, Laid Z a0 K O nm d → parseFieldDescriptor d = some ty → Fld Z h' b O nm d (defaultValue ty)) ∧ W l Z n0 y bytes maxl ret R G h' pc' Ls (.ref b :: St) C' S' := by
  subst hp hC' hS'
  have hsz := A.size
  obtain ⟨p, e, s, m, args, below, meth, c, st⟩ := G
  obtain ⟨hx, hZ, hby, hml, hown, hnm, hrt, hlk, hn0, T, locs, X, N, eT, k⟩ := A
  obtain ⟨T', h', X', e', E', A', D', -, st'⟩ := RoadKit.newO X hx hZ hown w wi wz eT (g := mkF m pc Ls St) rfl (hb hby hd) hC hS
  exact ⟨h', h.size, rfl, hsz, E', A', D', W.mk hx hZ hby hml hown hnm hrt hlk hn0 X' N e' (fun t q => k t (st' t q))⟩
/-! arrays: what each place holds, by a function of the place -/
def Ars (Z : State) (h : Heap) (a : Addr) (ty : FieldType) (N : Nat) (f : Nat → Value) : Prop := ∃ c : Cell, Arr Z h a c ty ∧ c.slots.size = N ∧ N < 2 ^ 31 ∧ ∀ j, j < N → c.slots[j]? = some (f j) ∧ fits ty (f j) = true
def upd (f : Nat → Value) (i : Nat) (v : Value) : Nat → Value := fun j => if j = i then v else f j
theorem upd_same (f : Nat → Value) (i : Nat) (v : Value) : upd f i v i = v := by simp [upd]
theorem upd_ne (f : Nat → Value) {i j : Nat} (v : Value) (q : j ≠ i) : upd f i v j = f j := by simp [upd, q]
variable {ty : FieldType} {N : Nat} {f : Nat → Value} {ws : List Addr} {sl : Nat} {v : Value}
theorem Ars.lt (F : Ars Z h a ty N f) : a < h.size := by obtain ⟨c, A, -⟩ := F; exact A.lt
theorem Ars.ext (F : Ars Z h a ty N f) (E : Ext h h') : Ars Z h' a ty N f := by obtain ⟨c, A, r⟩ := F; exact ⟨c, A.ext E, r⟩
theorem Ars.other (F : Ars Z h b ty N f) (V : Wr h h' a sl v) (q : b ≠ a) : Ars Z h' b ty N f := by obtain ⟨c, A, r⟩ := F; exact ⟨c, A.other V q, r⟩
theorem Ars.keep (F : Ars Z h a ty N f) (K : Keep h h' ws) (q : a ∉ ws) : Ars Z h' a ty N f := by obtain ⟨c, A, r⟩ := F; exact ⟨c, ⟨K.2.1 a c A.1 q, A.2⟩, r⟩
theorem Ars.same {i : Nat} (F : Ars Z h a ty N f) (V : Wr h h' a i v) (hi : i < N) (hf : fits ty v = true) : Ars Z h' a ty N (upd f i v) := by
  obtain ⟨c, A, hs, hN, hv⟩ := F
  refine ⟨_, A.same V, by rw [sz_set]; exact hs, hN, fun j hj => ?_⟩
  by_cases q : j = i
  · subst q; exact ⟨by simp [Cell.setSlot, upd, hs, hj], by simp only [upd, if_pos]; exact hf⟩
  · simp only [Cell.setSlot, upd, if_neg q]; rw [Array.getElem?_setIfInBounds_ne (Ne.symm q)]; exact hv j hj
theorem Ars.fn {g : Nat → Value} (F : Ars Z h a ty N f) (q : ∀ j, j < N → f j = g j) : Ars Z h a ty N g := by
  obtain ⟨c, A, hs, hN, hv⟩ := F; exact ⟨c, A, hs, hN, fun j hj => by rw [← q j hj]; exact hv j hj⟩
theorem Ars.size (F : Ars Z h a ty N f) : N < 2 ^ 31 := by obtain ⟨c, A, hs, hN, hv⟩ := F; exact hN
theorem inb {j : Int32} {i N : Nat} {c : Cell} (hs : c.slots.size = N) (hj : j.toInt = i) (hi : i < N) : ¬ (j < 0 ∨ c.slots.size ≤ j.toNatClampNeg) ∧ j.toNatClampNeg = i := by
  have e0 : (0 : Int32).toInt = 0 := rfl
  rw [hs, Int32.lt_iff_toInt_lt]; simp only [Int32.toNatClampNeg]; omega
theorem W.newP (A : W l Z n0 y bytes maxl ret R G h pc Ls (.int z :: St) C S) {aty : ArrayType} {N cap : Nat} (hd : decode bytes pc = .ok (.newarray aty, 2)) (w : (Jvm.Cond.arrayClass (newarray.typeOf aty)).before a0 Z = true) (hz : z.toInt = N) (hcap : N ≤ cap) (hcb : cap * 8 ≤ 536870912) (hC : C + 1 ≤ R.cells) (hS : S + cap ≤ R.slots) (hC' : C + 1 = C') (hS' : S + cap = S') (hp : pc + 2 = pc') {ad : String} (had : "[" ++ (newarray.typeOf aty).toString = ad) :
    ∃ h' b, b = h.size ∧ n0 ≤ b ∧ Ext h h' ∧ Ars Z h' b (newarray.typeOf aty) N (fun _ => defaultValue (newarray.typeOf aty)) ∧ Exa Z h' b ad ∧ W l Z n0 y bytes maxl ret R G h' pc' Ls (.ref b :: St) C' S' := by
  subst hp hC' hS'
  have hsz := A.size
  have e0 : (0 : Int32).toInt = 0 := rfl
  have hneg : ¬ z < 0 := by rw [Int32.lt_iff_toInt_lt]; omega
  have hcl : z.toNatClampNeg = N := by simp only [Int32.toNatClampNeg]; omega
  obtain ⟨p, e, s, m, args, below, meth, c, st⟩ := G
  obtain ⟨hx, hZ, hby, hml, hown, hnm, hrt, hlk, hn0, T, locs, X, Nf, eT, k⟩ := A
  obtain ⟨T', h', kA, X', e', E', A', Ex', st'⟩ := newPE X hx hZ w eT (g := mkF m pc Ls _) rfl (hb hby hd) rfl hneg (cap := cap) (by omega) hcb hC hS had
  refine ⟨h', h.size, rfl, hsz, E', ⟨_, A', by rw [sz_new, hcl], by omega, fun j hj => ?_⟩, Ex', W.mk hx hZ hby hml hown hnm hrt hlk hn0 X' Nf e' (fun t q => k t (st' t q))⟩
  exact ⟨by simp [newA, hcl, hj], by cases aty <;> rfl⟩
theorem W.alen (A : W l Z n0 y bytes maxl ret R G h pc Ls (.ref a :: St) C S) (hd : decode bytes pc = .ok (.arraylength, 1)) (F : Ars Z h a ty N f) {z : Int32} (hz : z.toInt = N) (hp : pc + 1 = pc') : W l Z n0 y bytes maxl ret R G h pc' Ls (.int z :: St) C S := by
  subst hp
  obtain ⟨cl, Ar, hs, hN, hv⟩ := F
  have e0 : (0 : Int32).toInt = 0 := rfl
  have hneg : ¬ z < 0 := by rw [Int32.lt_iff_toInt_lt]; omega
  have hcl : cl.slots.size = z.toNatClampNeg := by simp only [Int32.toNatClampNeg]; omega
  exact A.step fun X hx hZ hown q eT r => X.arraylength hx (by rw [eT]; exact Ar.1) (State.isArrayOf_alike hZ.alike Ar.2.1) (g := mkF _ _ _ _) rfl rfl (hb q hd) _ (by rw [len_of hcl hneg]; exact r)
theorem W.iaload {j : Int32} (A : W l Z n0 y bytes maxl ret R G h pc Ls (.int j :: .ref a :: St) C S) (hd : decode bytes pc = .ok (.iaload, 1)) (F : Ars Z h a .int N f) {i : Nat} (hj : j.toInt = i) (hi : i < N) {v : Value} (hv : f i = v) (hp : pc + 1 = pc') : W l Z n0 y bytes maxl ret R G h pc' Ls (v :: St) C S := by
  subst hp
  obtain ⟨cl, Ar, hs, hN, hf⟩ := F
  obtain ⟨q1, q2⟩ := inb hs hj hi
  exact A.step fun X hx hZ hown q eT r => X.iaload hx (by rw [eT]; exact Ar.1) (State.isArrayOf_alike hZ.alike Ar.2.1) Ar.2.2 q1 (by rw [q2, (hf i hi).1, hv]) (g := mkF _ _ _ _) rfl rfl (hb q hd) _ r
theorem W.laload {j : Int32} (A : W l Z n0 y bytes maxl ret R G h pc Ls (.int j :: .ref a :: St) C S) (hd : decode bytes pc = .ok (.laload, 1)) (F : Ars Z h a .long N f) {i : Nat} (hj : j.toInt = i) (hi : i < N) {v : Value} (hv : f i = v) (hp : pc + 1 = pc') : W l Z n0 y bytes maxl ret R G h pc' Ls (v :: St) C S := by
  subst hp
  obtain ⟨cl, Ar, hs, hN, hf⟩ := F
  obtain ⟨q1, q2⟩ := inb hs hj hi
  exact A.step fun X hx hZ hown q eT r => X.laload hx (by rw [eT]; exact Ar.1) (State.isArrayOf_alike hZ.alike Ar.2.1) Ar.2.2 q1 (by rw [q2, (hf i hi).1, hv]) (g := mkF _ _ _ _) rfl rfl (hb q hd) _ r
theorem W.baload {j : Int32} (A : W l Z n0 y bytes maxl ret R G h pc Ls (.int j :: .ref a :: St) C S) (hd : decode bytes pc = .ok (.baload, 1)) (F : Ars Z h a .byte N f) {i : Nat} (hj : j.toInt = i) (hi : i < N) {v : Value} (hv : f i = v) (hp : pc + 1 = pc') : W l Z n0 y bytes maxl ret R G h pc' Ls (v :: St) C S := by
  subst hp
  obtain ⟨cl, Ar, hs, hN, hf⟩ := F
  obtain ⟨q1, q2⟩ := inb hs hj hi
  exact A.step fun X hx hZ hown q eT r => X.baloadBytes hx (by rw [eT]; exact Ar.1) (State.isArrayOf_alike hZ.alike Ar.2.1) Ar.2.2 q1 (by rw [q2, (hf i hi).1, hv]) (g := mkF _ _ _ _) rfl rfl (hb q hd) _ r
theorem W.caload {j : Int32} (A : W l Z n0 y bytes maxl ret R G h pc Ls (.int j :: .ref a :: St) C S) (hd : decode bytes pc = .ok (.caload, 1)) (F : Ars Z h a .char N f) {i : Nat} (hj : j.toInt = i) (hi : i < N) {v : Value} (hv : f i = v) (hp : pc + 1 = pc') : W l Z n0 y bytes maxl ret R G h pc' Ls (v :: St) C S := by
  subst hp
  obtain ⟨cl, Ar, hs, hN, hf⟩ := F
  obtain ⟨q1, q2⟩ := inb hs hj hi
  exact A.step fun X hx hZ hown q eT r => X.caload hx (by rw [eT]; exact Ar.1) (State.isArrayOf_alike hZ.alike Ar.2.1) Ar.2.2 q1 (by rw [q2, (hf i hi).1, hv]) (g := mkF _ _ _ _) rfl rfl (hb q hd) _ r
theorem W.iastore {j x : Int32} (A : W l Z n0 y bytes maxl ret R G h pc Ls (.int x :: .int j :: .ref a :: St) C S) (hd : decode bytes pc = .ok (.iastore, 1)) (F : Ars Z h a .int N f) {i : Nat} (hj : j.toInt = i) (hi : i < N) (ga : n0 ≤ a) (hp : pc + 1 = pc') : ∃ h', Wr h h' a i (.int x) ∧ Ars Z h' a .int N (upd f i (.int x)) ∧ W l Z n0 y bytes maxl ret R G h' pc' Ls St C S := by
  subst hp
  have F0 := F
  obtain ⟨cl, Ar, hs, hN, hf⟩ := F
  obtain ⟨q1, q2⟩ := inb hs hj hi
  obtain ⟨p, e, s, m, args, below, meth, c, st⟩ := G
  obtain ⟨hx, hZ, hby, hml, hown, hnm, hrt, hlk, hn0, T, locs, X, Nf, eT, k⟩ := A
  have hfit : fits .int (.int x) = true := rfl
  obtain ⟨T', h', X', e', W', st'⟩ := stI X hx hZ eT Ar q1 (g := mkF m pc Ls _) rfl rfl (hb hby hd)
  rw [q2] at W'
  exact ⟨h', W', F0.same W' hi hfit, W.mk hx hZ hby hml hown hnm hrt hlk hn0 X' (Fr.snoc X' Nf ga) e' (fun t q => k t (st' t q))⟩
theorem W.lastore {j : Int32} {x : Int64} (A : W l Z n0 y bytes maxl ret R G h pc Ls (.long x :: .int j :: .ref a :: St) C S) (hd : decode bytes pc = .ok (.lastore, 1)) (F : Ars Z h a .long N f) {i : Nat} (hj : j.toInt = i) (hi : i < N) (ga : n0 ≤ a) (hp : pc + 1 = pc') : ∃ h', Wr h h' a i (.long x) ∧ Ars Z h' a .long N (upd f i (.long x)) ∧ W l Z n0 y bytes maxl ret R G h' pc' Ls St C S := by
  subst hp
  have F0 := F
  obtain ⟨cl, Ar, hs, hN, hf⟩ := F
  obtain ⟨q1, q2⟩ := inb hs hj hi
  obtain ⟨p, e, s, m, args, below, meth, c, st⟩ := G
  obtain ⟨hx, hZ, hby, hml, hown, hnm, hrt, hlk, hn0, T, locs, X, Nf, eT, k⟩ := A
  have hfit : fits .long (.long x) = true := rfl
  obtain ⟨T', h', X', e', W', st'⟩ := stJ X hx hZ eT Ar q1 (g := mkF m pc Ls _) rfl rfl (hb hby hd)
  rw [q2] at W'
  exact ⟨h', W', F0.same W' hi hfit, W.mk hx hZ hby hml hown hnm hrt hlk hn0 X' (Fr.snoc X' Nf ga) e' (fun t q => k t (st' t q))⟩
theorem W.bastore {j x : Int32} (A : W l Z n0 y bytes maxl ret R G h pc Ls (.int x :: .int j :: .ref a :: St) C S) (hd : decode bytes pc = .ok (.bastore, 1)) (F : Ars Z h a .byte N f) {i : Nat} (hj : j.toInt = i) (hi : i < N) (ga : n0 ≤ a) (hp : pc + 1 = pc') : ∃ h', Wr h h' a i (.int x.toInt8.toInt32) ∧ Ars Z h' a .byte N (upd f i (.int x.toInt8.toInt32)) ∧ W l Z n0 y bytes maxl ret R G h' pc' Ls St C S := by
  subst hp
  have F0 := F
  obtain ⟨cl, Ar, hs, hN, hf⟩ := F
  obtain ⟨q1, q2⟩ := inb hs hj hi
  obtain ⟨p, e, s, m, args, below, meth, c, st⟩ := G
  obtain ⟨hx, hZ, hby, hml, hown, hnm, hrt, hlk, hn0, T, locs, X, Nf, eT, k⟩ := A
  have hfit : fits .byte (.int x.toInt8.toInt32) = true := fits_nar_byte x
  obtain ⟨T', h', X', e', W', st'⟩ := stB X hx hZ eT Ar q1 (g := mkF m pc Ls _) rfl rfl (hb hby hd)
  rw [q2] at W'
  exact ⟨h', W', F0.same W' hi hfit, W.mk hx hZ hby hml hown hnm hrt hlk hn0 X' (Fr.snoc X' Nf ga) e' (fun t q => k t (st' t q))⟩
theorem W.castore {j x : Int32} (A : W l Z n0 y bytes maxl ret R G h pc Ls (.int x :: .int j :: .ref a :: St) C S) (hd : decode bytes pc = .ok (.castore, 1)) (F : Ars Z h a .char N f) {i : Nat} (hj : j.toInt = i) (hi : i < N) (ga : n0 ≤ a) (hp : pc + 1 = pc') : ∃ h', Wr h h' a i (.int (nar .char x)) ∧ Ars Z h' a .char N (upd f i (.int (nar .char x))) ∧ W l Z n0 y bytes maxl ret R G h' pc' Ls St C S := by
  subst hp
  have F0 := F
  obtain ⟨cl, Ar, hs, hN, hf⟩ := F
  obtain ⟨q1, q2⟩ := inb hs hj hi
  obtain ⟨p, e, s, m, args, below, meth, c, st⟩ := G
  obtain ⟨hx, hZ, hby, hml, hown, hnm, hrt, hlk, hn0, T, locs, X, Nf, eT, k⟩ := A
  have hfit : fits .char (.int (nar .char x)) = true := fits_nar_char x
  obtain ⟨T', h', X', e', W', st'⟩ := stC X hx hZ eT Ar q1 (g := mkF m pc Ls _) rfl rfl (hb hby hd)
  rw [q2] at W'
  exact ⟨h', W', F0.same W' hi hfit, W.mk hx hZ hby hml hown hnm hrt hlk hn0 X' (Fr.snoc X' Nf ga) e' (fun t q => k t (st' t q))⟩
theorem W.clone (A : W l Z n0 y bytes maxl ret R G h pc Ls (.ref a :: St) C S) {index cap : Nat} {ad : String} (hd : decode bytes pc = .ok (.invokevirtual index, 3)) (w1 : (Jvm.Cond.methodLink y.cls index ⟨ad, "clone", "()Ljava/lang/Object;"⟩).before a0 Z = true) (w2 : (Jvm.Cond.sameMethod ad "java/lang/Object" "clone" "()Ljava/lang/Object;").before a0 Z = true) (w3 : (Jvm.Cond.native ⟨"java/lang/Object", "clone", "()Ljava/lang/Object;"⟩).before a0 Z = true)
    (w4 : (Jvm.Cond.instanceMethod ⟨"java/lang/Object", "clone", "()Ljava/lang/Object;"⟩).before a0 Z = true) (w5 : (Jvm.Cond.selects ad ⟨ad, "clone", "()Ljava/lang/Object;"⟩ ⟨"java/lang/Object", "clone", "()Ljava/lang/Object;"⟩).before a0 Z = true) (w6 : (Jvm.Cond.castable ad "java/lang/Cloneable").before a0 Z = true) (F : Ars Z h a ty N f) (E : Exa Z h a ad) (hcap : N ≤ cap) (hsz : Ls.size = maxl) (hf : 1 ≤ R.frames) (hlo : (St.map fun v => v.category).sum + 14 ≤ R.locals) (hC : C + 1 ≤ R.cells) (hS : S + cap ≤ R.slots) (hC' : C + 1 = C') (hS' : S + cap = S') (hp : pc + 3 = pc') :
    ∃ h' b, b = h.size ∧ n0 ≤ b ∧ Ext h h' ∧ Ars Z h' b ty N f ∧ Exa Z h' b ad ∧ W l Z n0 y bytes maxl ret R G h' pc' Ls (.ref b :: St) C' S' := by
  subst hp hC' hS'
  have hs0 := A.size
  obtain ⟨cl, Ar, hs, hN, hv⟩ := F
  have FC : FitC Z cl := fitC_of Ar fun i hi v q => by rw [hs] at hi; rw [(hv i hi).1] at q; cases q; exact (hv i hi).2
  obtain ⟨p, e, s, m, args, below, meth, c, st⟩ := G
  obtain ⟨hx, hZ, hby, hml, hown, hnm, hrt, hlk, hn0, T, locs, X, Nf, eT, k⟩ := A
  obtain ⟨T', h', X', e', E', A', Ex', st'⟩ := cloneA X hx hZ hown w1 w2 w3 w4 w5 w6 eT Ar E FC (g := mkF m pc Ls (.ref a :: St)) rfl (by rw [hml]; exact hsz) rfl (hb hby hd) hf (W := (St.map fun v => v.category).sum) (by show 2 * 0 + _ ≤ _; omega) hlo (by rw [hs]; exact hcap) hC hS
  exact ⟨h', h.size, rfl, hs0, E', ⟨_, A', hs, hN, hv⟩, Ex', W.mk hx hZ hby hml hown hnm hrt hlk hn0 X' Nf e' (fun t q => k t (st' t q))⟩
/-! System.arraycopy -/
def cpy (f : Nat → Value) (i : Nat) (g : Nat → Value) (j k : Nat) : Nat → Value := fun x => if j ≤ x ∧ x < j + k then f (i + (x - j)) else g x
theorem Ars.toArv (F : Ars Z h a ty N f) : ∃ k, Arv Z h a k ty (Int32.ofNat N) ((List.range N).map f) (.int 0) := by
  obtain ⟨c, A, hs, hN, hv⟩ := F
  have e : (Int32.ofNat N).toInt = N := Int32.toInt_ofNat_of_lt hN
  have e0 : (0 : Int32).toInt = 0 := rfl
  have q : (Int32.ofNat N).toNatClampNeg = N := by simp only [Int32.toNatClampNeg]; omega
  have hd : ∀ i, i < N → ((List.range N).map f).getD i (.int 0) = f i := fun i hi => by simp [List.getD_eq_getElem?_getD, hi]
  refine ⟨c.cls, c, A, rfl, by rw [q]; exact hs, by rw [Int32.lt_iff_toInt_lt]; omega, fun i hi => ?_, fun i hi => ?_⟩
  · rw [hs] at hi; rw [hd i hi]; exact (hv i hi).1
  · rw [hs] at hi; rw [hd i hi]; exact (hv i hi).2
theorem W.acopy {b : Addr} {sp dp nn : Int32} (A : W l Z n0 y bytes maxl ret R G h pc Ls (.int nn :: .int dp :: .ref b :: .int sp :: .ref a :: St) C S) {idx i j k N' : Nat} {g : Nat → Value} (hd : decode bytes pc = .ok (.invokestatic idx, 3)) (w1 : (Jvm.Cond.methodLink y.cls idx Jvm.Stand.acN).before a0 Z = true) (w2 : (Jvm.Cond.native Jvm.Stand.acN).before a0 Z = true) (w3 : (Jvm.Cond.static Jvm.Stand.acN).before a0 Z = true) (w4 : (Jvm.Cond.initialized "java/lang/System").before a0 Z = true)
    (F : Ars Z h a ty N f) (D : Ars Z h b ty N' g) (hty : refKind ty = false) (hsp : sp.toInt = i) (hdp : dp.toInt = j) (hnn : nn.toInt = k) (h4 : i + k ≤ N) (h5 : j + k ≤ N') (gb : n0 ≤ b) (hsz : Ls.size = maxl) (hf : 1 ≤ R.frames) (hlo : (St.map fun v => v.category).sum + (nativeFrameWords "java/lang/System" "arraycopy" 5 + 11) ≤ R.locals) (hp : pc + 3 = pc') :
    ∃ h', Keep h h' [b] ∧ Ars Z h' b ty N' (cpy f i g j k) ∧ W l Z n0 y bytes maxl ret R G h' pc' Ls St C S := by
  subst hp
  have FN := F.size
  have DN := D.size
  obtain ⟨kF, VF⟩ := F.toArv
  obtain ⟨kD, VD⟩ := D.toArv
  have e0 : (0 : Int32).toInt = 0 := rfl
  have c1 : sp.toNatClampNeg = i := by simp only [Int32.toNatClampNeg]; omega
  have c2 : dp.toNatClampNeg = j := by simp only [Int32.toNatClampNeg]; omega
  have c3 : nn.toNatClampNeg = k := by simp only [Int32.toNatClampNeg]; omega
  have eN : (Int32.ofNat N).toNatClampNeg = N := by have := Int32.toInt_ofNat_of_lt FN; simp only [Int32.toNatClampNeg]; omega
  have eN' : (Int32.ofNat N').toNatClampNeg = N' := by have := Int32.toInt_ofNat_of_lt DN; simp only [Int32.toNatClampNeg]; omega
  have p1 : ¬ sp < 0 := by rw [Int32.lt_iff_toInt_lt]; omega
  have p2 : ¬ dp < 0 := by rw [Int32.lt_iff_toInt_lt]; omega
  have p3 : ¬ nn < 0 := by rw [Int32.lt_iff_toInt_lt]; omega
  obtain ⟨p, e, s, m, args, below, meth, c, st⟩ := G
  obtain ⟨hx, hZ, hby, hml, hown, hnm, hrt, hlk, hn0, T, locs, X, Nf, eT, kk⟩ := A
  obtain ⟨T', h', L', X', e', N2, K2, V2, st'⟩ := cpA X hx hZ hown w1 w2 w3 w4 eT VF VD (Or.inl ⟨rfl, hty⟩) (sp := sp) (dp := dp) (nn := nn) p1 p2 p3 (by rw [c1, c3, eN]; exact h4) (by rw [c2, c3, eN']; exact h5) rfl (by rw [c2, c3]; simpa using h5) Nf gb (g := mkF m pc Ls (.int nn :: .int dp :: .ref b :: .int sp :: .ref a :: St)) rfl (by rw [hml]; exact hsz) rfl (hb hby hd) hf (W := (St.map fun v => v.category).sum) (by show 2 * 0 + _ ≤ _; omega) hlo
  refine ⟨h', K2, ?_, W.mk hx hZ hby hml hown hnm hrt hlk hn0 X' N2 e' (fun t q => kk t (st' t q))⟩
  obtain ⟨cd, Ad, -, Sd, -, Hd, Gd⟩ := V2
  rw [eN'] at Sd
  rw [c1, c2, c3] at Hd Gd
  have key : ∀ x, x < N' → (List.take j ((List.range N').map g) ++ (List.map (fun i_1 => ((List.range N).map f).getD (i + i_1) (.int 0)) (List.range k)) ++ List.drop (j + k) ((List.range N').map g)).getD x (.int 0) = cpy f i g j k x := fun x hx' => by
    simp only [List.getD_eq_getElem?_getD, cpy]
    by_cases q1 : x < j
    · rw [List.getElem?_append_left (by simp; omega), List.getElem?_append_left (by simp; omega), if_neg (by omega)]
      simp [List.getElem?_take, q1, hx']
    · by_cases q2 : x < j + k
      · rw [List.getElem?_append_left (by simp; omega), List.getElem?_append_right (by simp; omega), if_pos (by omega)]
        have l1 : (List.take j ((List.range N').map g)).length = j := by simp; omega
        rw [l1]
        have q3 : x - j < k := by omega
        have q4 : i + (x - j) < N := by omega
        simp [List.getElem?_map, List.getElem?_range, q3, q4]
      · rw [List.getElem?_append_right (by simp; omega), if_neg (by omega)]
        have l1 : (List.take j ((List.range N').map g) ++ (List.map (fun i_1 => (((List.range N).map f)[i + i_1]?).getD (.int 0)) (List.range k))).length = j + k := by simp; omega
        rw [l1, List.getElem?_drop]
        have q3 : j + k + (x - (j + k)) = x := by omega
        rw [q3]; simp [hx']
  refine ⟨cd, Ad, Sd, DN, fun x hx' => ?_⟩
  have a1 := Hd x (by omega)
  have a2 := Gd x (by omega)
  rw [key x hx'] at a1 a2
  exact ⟨a1, a2⟩
end Heaps
end Jvm.Pilot.@@N@@
namespace Jvm.Pilot.@@N@@
open Jvm Jvm.ClassFile Sem Op Lib Jvm.Free Jvm.Stand Jvm.LawKit Jvm.RoadKit Bundle Jvm.Pilot.@@N@@.Jvm.D
def own_lb (v : Int64) (k : Int32) : Int32 := ((v.toUInt64 >>> (k &&& 0x3f).toInt64.toUInt64).toInt64).toInt32.toInt8.toInt32
theorem own_bb (x : Int32) : x.toInt8.toInt32.toInt8.toInt32 = x.toInt8.toInt32 := by simp
theorem own_nb (x : Int32) : nar .byte x.toInt8.toInt32 = x.toInt8.toInt32 := own_bb x
theorem own_un {f : Nat → Value} {k i j : Nat} {v : Value} (h : j < k) : upd f (k + i) v j = f j := upd_ne f v (by omega)
theorem own_us (f : Nat → Value) (i : Nat) (v : Value) : upd f i v i = v := upd_same f i v
theorem own_uh (f : Nat → Value) (k i j : Nat) (v : Value) : upd f (k + i) v (k + j) = if j = i then v else f (k + j) := by simp [upd]
theorem own_l2i (x : Int64) (h1 : 0 ≤ x.toInt) (h2 : x.toInt ≤ 1000000) : x.toInt32.toInt = x.toInt := by
  have e := c_l2i x
  have r := rng32 x.toInt32
  omega
theorem own_m2 (x : Int64) (h1 : 0 ≤ x.toInt) (h2 : x.toInt ≤ 1000000) : ((2 : Int64) * x).toInt = 2 * x.toInt := by
  have := mulc64 x (2 : Int64) 2 rfl (by omega) (by omega)
  rw [Int64.mul_comm]; omega
theorem own_m3 (x : Int32) : 0 ≤ (x &&& (7 : Int32)).toInt ∧ (x &&& (7 : Int32)).toInt ≤ 7 := by
  have e : (x &&& (7 : Int32)).toInt = x.toInt % 8 := c_mask x 7 3 (by decide) (by decide)
  omega
theorem own_four (k : Int32) : k &&& (3 : Int32) = 0 ∨ k &&& (3 : Int32) = 1 ∨ k &&& (3 : Int32) = 2 ∨ k &&& (3 : Int32) = 3 := by
  have e : (k &&& (3 : Int32)).toInt = k.toInt % 4 := c_mask k 3 2 (by decide) (by decide)
  have h : (k &&& (3 : Int32)).toInt = 0 ∨ (k &&& (3 : Int32)).toInt = 1 ∨ (k &&& (3 : Int32)).toInt = 2 ∨ (k &&& (3 : Int32)).toInt = 3 := by omega
  rcases h with h | h | h | h
  · exact Or.inl (Int32.toInt_inj.mp h)
  · exact Or.inr (Or.inl (Int32.toInt_inj.mp h))
  · exact Or.inr (Or.inr (Or.inl (Int32.toInt_inj.mp h)))
  · exact Or.inr (Or.inr (Or.inr (Int32.toInt_inj.mp h)))
theorem pd_0 : parseMethodDescriptor "(II)I" = some ⟨[.int, .int], some .int⟩ := by decide +kernel
theorem pd_1 : parseMethodDescriptor "(JJ)J" = some ⟨[.long, .long], some .long⟩ := by decide +kernel
theorem pd_2 : parseMethodDescriptor "([BI)[B" = some ⟨[(.array .byte), .int], some (.array .byte)⟩ := by decide +kernel
theorem pd_3 : parseMethodDescriptor "(I)V" = some ⟨[.int], none⟩ := by decide +kernel
theorem pd_4 : parseMethodDescriptor "(IIIIIJ)B" = some ⟨[.int, .int, .int, .int, .int, .long], some .byte⟩ := by decide +kernel
theorem pd_5 : parseMethodDescriptor "()[B" = some ⟨[], some (.array .byte)⟩ := by decide +kernel
theorem pd_6 : parseMethodDescriptor "([BIIIIIJ)Z" = some ⟨[(.array .byte), .int, .int, .int, .int, .int, .long], some .boolean⟩ := by decide +kernel
theorem pd_7 : parseMethodDescriptor "(I)Lcom/example/riddle0/riddle0/ByteSink;" = some ⟨[.int], some (.object "com/example/riddle0/riddle0/ByteSink")⟩ := by decide +kernel
theorem pd_8 : parseMethodDescriptor "(J)Lcom/example/riddle0/riddle0/ByteSink;" = some ⟨[.long], some (.object "com/example/riddle0/riddle0/ByteSink")⟩ := by decide +kernel
theorem pn1 : plainFor (⟨"com/example/riddle0/riddle0/ByteSink", "<init>", "(I)V"⟩ : MethodName) = true := by first | exact plainFor_of_name (by first | (simp [plainName, overriddenIn]; done) | decide +kernel) | exact Jvm.Free.JP.mathPlain rfl (by decide +kernel) | decide +kernel
theorem d1_0 : decode prog_2_method_1_code 0 = .ok (.aload_n 0, 1) := by decide +kernel
theorem d1_1 : decode prog_2_method_1_code 1 = .ok (.invokespecial 3, 3) := by decide +kernel
theorem d1_4 : decode prog_2_method_1_code 4 = .ok (.aload_n 0, 1) := by decide +kernel
theorem d1_5 : decode prog_2_method_1_code 5 = .ok (.iload_n 1, 1) := by decide +kernel
theorem d1_6 : decode prog_2_method_1_code 6 = .ok (.newarray .byte, 2) := by decide +kernel
theorem d1_8 : decode prog_2_method_1_code 8 = .ok (.putfield 9, 3) := by decide +kernel
theorem d1_11 : decode prog_2_method_1_code 11 = .ok (.return_, 1) := by decide +kernel
abbrev y1 : MethodName := (⟨"com/example/riddle0/riddle0/ByteSink", "<init>", "(I)V"⟩ : MethodName)
abbrev R1 : Room := { frames := 1, cells := 1, slots := 7, locals := 12 }
set_option maxRecDepth 65536 in
set_option maxHeartbeats 4000000 in
theorem ef1 (a : Addr) (cp : Int32) (mid : MethodId) : entryFrame mid #[(.ref a), (.int cp)] 2 = mkF mid 0 #[.val (.ref a), .val (.int cp)] [] := by first | (simp [entryFrame, mkF, argsToLocals, Value.category]; done) | rfl
set_option maxRecDepth 65536 in
set_option maxHeartbeats 40000000 in
theorem rm1 (l : Launch) (Z : State) (a0 : Array Value) (hw : ∀ d ∈ tables_1, d.before a0 Z = true) (n0 : Nat) (ws : List Jvm.Cond) (a : Addr) (cp : Int32)  (h0 : Heap) (hn0 : n0 ≤ h0.size) (e0 : Exa Z h0 a "com/example/riddle0/riddle0/ByteSink") (e1 : Fld Z h0 a "com/example/riddle0/riddle0/ByteSink" "bytes" "[B" .null) (e2 : Fld Z h0 a "com/example/riddle0/riddle0/ByteSink" "size" "I" (.int (0 : Int32))) (e3 : n0 ≤ a) (e4 : 0 ≤ cp.toInt ∧ cp.toInt ≤ 7) :
    Ctr l Z n0 y1 prog_2_method_1_code 2 (none) ws R1 #[(.ref a), (.int cp)] h0 (QV fun h => ∃ b1 : Addr, (Keep h0 h [a]) ∧ (n0 ≤ b1) ∧ (h0.size ≤ b1) ∧ (Fld Z h a "com/example/riddle0/riddle0/ByteSink" "bytes" "[B" (.ref b1)) ∧ (Fld Z h a "com/example/riddle0/riddle0/ByteSink" "size" "I" (.int (0 : Int32))) ∧ (Ars Z h b1 .byte cp.toInt.toNat (fun _ => (.int (0 : Int32)))) ∧ (True)) := by
  refine ctr_of pn1 hn0 (ef1 a cp) fun G A0 => ?_
  have A1 := A0.aloadN (v := (.ref a)) (pc' := 1) d1_0 rfl rfl rfl
  have A2 := A1.initO (pc' := 4) d1_1 (hw _ (List.mem_of_getElem? (i := 6) rfl)) (hw _ (List.mem_of_getElem? (i := 7) rfl)) (hw _ (List.mem_of_getElem? (i := 8) rfl)) rfl (by decide) (Nat.le_of_ble_eq_true rfl) rfl
  have A3 := A2.aloadN (v := (.ref a)) (pc' := 5) d1_4 rfl rfl rfl
  have A4 := A3.iloadN (v := cp) (pc' := 6) d1_5 rfl rfl
  obtain ⟨h5, b6, eb7, g8, E9, X10, XE12, A11⟩ := A4.newP (z := cp) (N := cp.toInt.toNat) (cap := 7) (C' := 1) (S' := 7) (pc' := 8) d1_6 (hw _ (List.mem_of_getElem? (i := 9) rfl)) (by omega) (by omega) (by decide) (by decide) (by decide) rfl rfl rfl rfl
  have ne13 : a ≠ b6 := Nat.ne_of_lt (Nat.lt_of_lt_of_le e0.lt (Nat.le_of_eq eb7.symm))
  change Exa Z h5 b6 "[B" at XE12
  change Ars Z h5 b6 .byte cp.toInt.toNat (fun _ => (.int (0 : Int32))) at X10
  have f14 := (e1.ext E9)
  have f15 := (e0.ext E9)
  obtain ⟨h17, w18, A16⟩ := A11.putF (pc' := 11) (ty := (.array .byte)) (host := "") d1_8 (Or.inl (hw _ (List.mem_of_getElem? (i := 10) rfl))) Via.refl f14 f15 (Or.inl (hw _ (List.mem_of_getElem? (i := 11) rfl))) (hw _ (List.mem_of_getElem? (i := 1) rfl)) (by decide) rfl rfl e3 rfl
  have f19 := f14.same w18
  have K20 : Keep h0 h17 [a] := (((Keep.refl h0 [a]).ext E9).wr w18 (Or.inl (List.mem_of_getElem? (i := 0) rfl)))
  have z21 : h0.size ≤ b6 := Nat.le_trans (Nat.le_refl _) (Nat.le_of_eq eb7.symm)
  have f22 := ((e2.ext E9).other w18 (Or.inr (slot_ne (Or.inl (hw _ (List.mem_of_getElem? (i := 23) rfl))) (Or.inl (hw _ (List.mem_of_getElem? (i := 11) rfl))) (by decide) (t := .int) (t' := (.array .byte)) (by decide) (by decide))))
  have f23 := (X10.other w18 (Ne.symm ne13))
  refine A16.retV d1_11 (by decide) (by decide) ⟨rfl, ⟨b6, K20, g8, z21, f19, f22, f23, ?_⟩⟩
  trivial
theorem pn5 : plainFor (⟨"java/lang/Math", "max", "(JJ)J"⟩ : MethodName) = true := by first | exact plainFor_of_name (by first | (simp [plainName, overriddenIn]; done) | decide +kernel) | exact Jvm.Free.JP.mathPlain rfl (by decide +kernel) | decide +kernel
theorem d5_0 : decode jdk_29_method_66_code 0 = .ok (.lload_n 0, 1) := by decide +kernel
theorem d5_1 : decode jdk_29_method_66_code 1 = .ok (.lload_n 2, 1) := by decide +kernel
theorem d5_2 : decode jdk_29_method_66_code 2 = .ok (.lcmp, 1) := by decide +kernel
theorem d5_3 : decode jdk_29_method_66_code 3 = .ok (.ifCond .lt 7, 3) := by decide +kernel
theorem d5_6 : decode jdk_29_method_66_code 6 = .ok (.lload_n 0, 1) := by decide +kernel
theorem d5_7 : decode jdk_29_method_66_code 7 = .ok (.goto 4, 3) := by decide +kernel
theorem d5_10 : decode jdk_29_method_66_code 10 = .ok (.lload_n 2, 1) := by decide +kernel
theorem d5_11 : decode jdk_29_method_66_code 11 = .ok (.lreturn, 1) := by decide +kernel
abbrev y5 : MethodName := (⟨"java/lang/Math", "max", "(JJ)J"⟩ : MethodName)
abbrev R5 : Room := { frames := 0, cells := 0, slots := 0, locals := 0 }
set_option maxRecDepth 65536 in
set_option maxHeartbeats 4000000 in
theorem ef5 (x : Int64) (z : Int64) (mid : MethodId) : entryFrame mid #[(.long x), (.long z)] 4 = mkF mid 0 #[.val (.long x), .second, .val (.long z), .second] [] := by first | (simp [entryFrame, mkF, argsToLocals, Value.category]; done) | rfl
set_option maxRecDepth 65536 in
set_option maxHeartbeats 40000000 in
theorem rm5 (l : Launch) (Z : State) (a0 : Array Value) (hw : ∀ d ∈ tables_1, d.before a0 Z = true) (n0 : Nat) (ws : List Jvm.Cond) (x : Int64) (z : Int64)  (h0 : Heap) (hn0 : n0 ≤ h0.size)  :
    Ctr l Z n0 y5 jdk_29_method_66_code 4 (some .long) ws R5 #[(.long x), (.long z)] h0 (QJ fun r h => (h0 = h) ∧ ((r.toInt = x.toInt ∧ z.toInt ≤ x.toInt) ∨ (r.toInt = z.toInt ∧ x.toInt < z.toInt))) := by
  refine ctr_of pn5 hn0 (ef5 x z) fun G A0 => ?_
  have A1 := A0.lloadN (v := x) (pc' := 1) d5_0 rfl rfl
  have A2 := A1.lloadN (v := z) (pc' := 2) d5_1 rfl rfl
  have A3 := A2.lcmp (pc' := 3) d5_2 rfl
  by_cases c4 : x.toInt < z.toInt
  · have A5 := A3.ifYes (pc' := 10) d5_3 (tlt (llt (x := x) (y := z) rfl rfl c4)).1 (by decide) (by decide)
    have A6 := A5.lloadN (v := z) (pc' := 11) d5_10 rfl rfl
    refine A6.retJ d5_11 (by decide) (by decide) ⟨_, rfl, ⟨rfl, ?_⟩⟩
    omega
  · have A7 := A3.ifNo (pc' := 6) d5_3 (flt (lnlt (x := x) (y := z) rfl rfl c4)).1 rfl
    have A8 := A7.lloadN (v := x) (pc' := 7) d5_6 rfl rfl
    have A9 := A8.goto (pc' := 11) d5_7 (by decide) (by decide)
    refine A9.retJ d5_11 (by decide) (by decide) ⟨_, rfl, ⟨rfl, ?_⟩⟩
    omega
theorem pn6 : plainFor (⟨"java/lang/Math", "min", "(JJ)J"⟩ : MethodName) = true := by first | exact plainFor_of_name (by first | (simp [plainName, overriddenIn]; done) | decide +kernel) | exact Jvm.Free.JP.mathPlain rfl (by decide +kernel) | decide +kernel
theorem d6_0 : decode jdk_29_method_70_code 0 = .ok (.lload_n 0, 1) := by decide +kernel
theorem d6_1 : decode jdk_29_method_70_code 1 = .ok (.lload_n 2, 1) := by decide +kernel
theorem d6_2 : decode jdk_29_method_70_code 2 = .ok (.lcmp, 1) := by decide +kernel
theorem d6_3 : decode jdk_29_method_70_code 3 = .ok (.ifCond .gt 7, 3) := by decide +kernel
theorem d6_6 : decode jdk_29_method_70_code 6 = .ok (.lload_n 0, 1) := by decide +kernel
theorem d6_7 : decode jdk_29_method_70_code 7 = .ok (.goto 4, 3) := by decide +kernel
theorem d6_10 : decode jdk_29_method_70_code 10 = .ok (.lload_n 2, 1) := by decide +kernel
theorem d6_11 : decode jdk_29_method_70_code 11 = .ok (.lreturn, 1) := by decide +kernel
abbrev y6 : MethodName := (⟨"java/lang/Math", "min", "(JJ)J"⟩ : MethodName)
abbrev R6 : Room := { frames := 0, cells := 0, slots := 0, locals := 0 }
set_option maxRecDepth 65536 in
set_option maxHeartbeats 4000000 in
theorem ef6 (x : Int64) (z : Int64) (mid : MethodId) : entryFrame mid #[(.long x), (.long z)] 4 = mkF mid 0 #[.val (.long x), .second, .val (.long z), .second] [] := by first | (simp [entryFrame, mkF, argsToLocals, Value.category]; done) | rfl
set_option maxRecDepth 65536 in
set_option maxHeartbeats 40000000 in
theorem rm6 (l : Launch) (Z : State) (a0 : Array Value) (hw : ∀ d ∈ tables_1, d.before a0 Z = true) (n0 : Nat) (ws : List Jvm.Cond) (x : Int64) (z : Int64)  (h0 : Heap) (hn0 : n0 ≤ h0.size)  :
    Ctr l Z n0 y6 jdk_29_method_70_code 4 (some .long) ws R6 #[(.long x), (.long z)] h0 (QJ fun r h => (h0 = h) ∧ ((r.toInt = x.toInt ∧ x.toInt ≤ z.toInt) ∨ (r.toInt = z.toInt ∧ z.toInt < x.toInt))) := by
  refine ctr_of pn6 hn0 (ef6 x z) fun G A0 => ?_
  have A1 := A0.lloadN (v := x) (pc' := 1) d6_0 rfl rfl
  have A2 := A1.lloadN (v := z) (pc' := 2) d6_1 rfl rfl
  have A3 := A2.lcmp (pc' := 3) d6_2 rfl
  by_cases c4 : z.toInt < x.toInt
  · have A5 := A3.ifYes (pc' := 10) d6_3 (tlt (lgt (x := x) (y := z) rfl rfl c4)).2.2.1 (by decide) (by decide)
    have A6 := A5.lloadN (v := z) (pc' := 11) d6_10 rfl rfl
    refine A6.retJ d6_11 (by decide) (by decide) ⟨_, rfl, ⟨rfl, ?_⟩⟩
    omega
  · have A7 := A3.ifNo (pc' := 6) d6_3 (flt (lngt (x := x) (y := z) rfl rfl c4)).2.2.1 rfl
    have A8 := A7.lloadN (v := x) (pc' := 7) d6_6 rfl rfl
    have A9 := A8.goto (pc' := 11) d6_7 (by decide) (by decide)
    refine A9.retJ d6_11 (by decide) (by decide) ⟨_, rfl, ⟨rfl, ?_⟩⟩
    omega
theorem pn8 : plainFor (⟨"java/lang/Math", "min", "(II)I"⟩ : MethodName) = true := by first | exact plainFor_of_name (by first | (simp [plainName, overriddenIn]; done) | decide +kernel) | exact Jvm.Free.JP.mathPlain rfl (by decide +kernel) | decide +kernel
theorem d8_0 : decode jdk_29_method_69_code 0 = .ok (.iload_n 0, 1) := by decide +kernel
theorem d8_1 : decode jdk_29_method_69_code 1 = .ok (.iload_n 1, 1) := by decide +kernel
theorem d8_2 : decode jdk_29_method_69_code 2 = .ok (.if_icmp .gt 7, 3) := by decide +kernel
theorem d8_5 : decode jdk_29_method_69_code 5 = .ok (.iload_n 0, 1) := by decide +kernel
theorem d8_6 : decode jdk_29_method_69_code 6 = .ok (.goto 4, 3) := by decide +kernel
theorem d8_9 : decode jdk_29_method_69_code 9 = .ok (.iload_n 1, 1) := by decide +kernel
theorem d8_10 : decode jdk_29_method_69_code 10 = .ok (.ireturn, 1) := by decide +kernel
abbrev y8 : MethodName := (⟨"java/lang/Math", "min", "(II)I"⟩ : MethodName)
abbrev R8 : Room := { frames := 0, cells := 0, slots := 0, locals := 0 }
set_option maxRecDepth 65536 in
set_option maxHeartbeats 4000000 in
theorem ef8 (x : Int32) (z : Int32) (mid : MethodId) : entryFrame mid #[(.int x), (.int z)] 2 = mkF mid 0 #[.val (.int x), .val (.int z)] [] := by first | (simp [entryFrame, mkF, argsToLocals, Value.category]; done) | rfl
set_option maxRecDepth 65536 in
set_option maxHeartbeats 40000000 in
theorem rm8 (l : Launch) (Z : State) (a0 : Array Value) (hw : ∀ d ∈ tables_1, d.before a0 Z = true) (n0 : Nat) (ws : List Jvm.Cond) (x : Int32) (z : Int32)  (h0 : Heap) (hn0 : n0 ≤ h0.size)  :
    Ctr l Z n0 y8 jdk_29_method_69_code 2 (some .int) ws R8 #[(.int x), (.int z)] h0 (QI fun r h => (h0 = h) ∧ ((r.toInt = x.toInt ∧ x.toInt ≤ z.toInt) ∨ (r.toInt = z.toInt ∧ z.toInt < x.toInt))) := by
  refine ctr_of pn8 hn0 (ef8 x z) fun G A0 => ?_
  have A1 := A0.iloadN (v := x) (pc' := 1) d8_0 rfl rfl
  have A2 := A1.iloadN (v := z) (pc' := 2) d8_1 rfl rfl
  by_cases c3 : z.toInt < x.toInt
  · have A4 := A2.icmpYes (pc' := 9) d8_2 (tlt (igt (x := x) (y := z) rfl rfl c3)).2.2.1 (by decide) (by decide)
    have A5 := A4.iloadN (v := z) (pc' := 10) d8_9 rfl rfl
    refine A5.retI d8_10 (by decide) (by decide) ⟨_, rfl, ⟨rfl, ?_⟩⟩
    omega
  · have A6 := A2.icmpNo (pc' := 5) d8_2 (flt (ingt (x := x) (y := z) rfl rfl c3)).2.2.1 rfl
    have A7 := A6.iloadN (v := x) (pc' := 6) d8_5 rfl rfl
    have A8 := A7.goto (pc' := 10) d8_6 (by decide) (by decide)
    refine A8.retI d8_10 (by decide) (by decide) ⟨_, rfl, ⟨rfl, ?_⟩⟩
    omega
theorem pn7 : plainFor (⟨"java/util/Arrays", "copyOf", "([BI)[B"⟩ : MethodName) = true := by first | exact plainFor_of_name (by first | (simp [plainName, overriddenIn]; done) | decide +kernel) | exact Jvm.Free.JP.mathPlain rfl (by decide +kernel) | decide +kernel
theorem d7_0 : decode jdk_65_method_121_code 0 = .ok (.iload_n 1, 1) := by decide +kernel
theorem d7_1 : decode jdk_65_method_121_code 1 = .ok (.aload_n 0, 1) := by decide +kernel
theorem d7_2 : decode jdk_65_method_121_code 2 = .ok (.arraylength, 1) := by decide +kernel
theorem d7_3 : decode jdk_65_method_121_code 3 = .ok (.if_icmp .ne 11, 3) := by decide +kernel
theorem d7_14 : decode jdk_65_method_121_code 14 = .ok (.iload_n 1, 1) := by decide +kernel
theorem d7_15 : decode jdk_65_method_121_code 15 = .ok (.newarray .byte, 2) := by decide +kernel
theorem d7_17 : decode jdk_65_method_121_code 17 = .ok (.astore_n 2, 1) := by decide +kernel
theorem d7_18 : decode jdk_65_method_121_code 18 = .ok (.aload_n 0, 1) := by decide +kernel
theorem d7_19 : decode jdk_65_method_121_code 19 = .ok (.iconst 0, 1) := by decide +kernel
theorem d7_20 : decode jdk_65_method_121_code 20 = .ok (.aload_n 2, 1) := by decide +kernel
theorem d7_21 : decode jdk_65_method_121_code 21 = .ok (.iconst 0, 1) := by decide +kernel
theorem d7_22 : decode jdk_65_method_121_code 22 = .ok (.aload_n 0, 1) := by decide +kernel
theorem d7_23 : decode jdk_65_method_121_code 23 = .ok (.arraylength, 1) := by decide +kernel
theorem d7_24 : decode jdk_65_method_121_code 24 = .ok (.iload_n 1, 1) := by decide +kernel
theorem d7_25 : decode jdk_65_method_121_code 25 = .ok (.invokestatic 304, 3) := by decide +kernel
theorem d7_28 : decode jdk_65_method_121_code 28 = .ok (.invokestatic 150, 3) := by decide +kernel
theorem d7_31 : decode jdk_65_method_121_code 31 = .ok (.aload_n 2, 1) := by decide +kernel
theorem d7_32 : decode jdk_65_method_121_code 32 = .ok (.areturn, 1) := by decide +kernel
abbrev y7 : MethodName := (⟨"java/util/Arrays", "copyOf", "([BI)[B"⟩ : MethodName)
abbrev R7 : Room := { frames := 1, cells := 1, slots := 14, locals := 18 }
set_option maxRecDepth 65536 in
set_option maxHeartbeats 4000000 in
theorem ef7 (a : Addr) (z : Int32) (mid : MethodId) : entryFrame mid #[(.ref a), (.int z)] 3 = mkF mid 0 #[.val (.ref a), .val (.int z), .unset] [] := by first | (simp [entryFrame, mkF, argsToLocals, Value.category]; done) | rfl
set_option maxRecDepth 65536 in
set_option maxHeartbeats 40000000 in
theorem rm7 (l : Launch) (Z : State) (a0 : Array Value) (hw : ∀ d ∈ tables_1, d.before a0 Z = true) (n0 : Nat) (ws : List Jvm.Cond) (a : Addr) (z : Int32) (N : Nat) (f : Nat → Value) (h0 : Heap) (hn0 : n0 ≤ h0.size) (e0 : Ars Z h0 a .byte N f) (e1 : 0 ≤ z.toInt ∧ z.toInt ≤ 14 ∧ N ≤ 14 ∧ z.toInt ≠ N) :
    Ctr l Z n0 y7 jdk_65_method_121_code 3 (some (.array .byte)) ws R7 #[(.ref a), (.int z)] h0 (QA fun r h => (Keep h0 h []) ∧ (n0 ≤ r) ∧ (h0.size ≤ r) ∧ (Ars Z h r .byte z.toInt.toNat (fun j => if j < N then f j else (.int (0 : Int32)))) ∧ (True)) := by
  refine ctr_of pn7 hn0 (ef7 a z) fun G A0 => ?_
  have tN : (Int32.ofNat N).toInt = N := Int32.toInt_ofNat_of_lt (by omega)
  have A1 := A0.iloadN (v := z) (pc' := 1) d7_0 rfl rfl
  have A2 := A1.aloadN (v := (.ref a)) (pc' := 2) d7_1 rfl rfl rfl
  have A3 := A2.alen (z := (Int32.ofNat N)) (pc' := 3) d7_2 e0 (Int32.toInt_ofNat_small e0.size) rfl
  by_cases c4 : z.toInt = (Int32.ofNat N).toInt
  · exfalso
    omega
  · have A6 := A3.icmpYes (pc' := 14) d7_3 (feq (ine (x := z) (y := (Int32.ofNat N)) rfl rfl c4)).2 (by decide) (by decide)
    have A7 := A6.iloadN (v := z) (pc' := 15) d7_14 rfl rfl
    obtain ⟨h8, b9, eb10, g11, E12, X13, XE15, A14⟩ := A7.newP (z := z) (N := z.toInt.toNat) (cap := 14) (C' := 1) (S' := 14) (pc' := 17) d7_15 (hw _ (List.mem_of_getElem? (i := 9) rfl)) (by omega) (by omega) (by decide) (by decide) (by decide) rfl rfl rfl rfl
    have ne16 : a ≠ b9 := Nat.ne_of_lt (Nat.lt_of_lt_of_le e0.lt (Nat.le_of_eq eb10.symm))
    change Exa Z h8 b9 "[B" at XE15
    change Ars Z h8 b9 .byte z.toInt.toNat (fun _ => (.int (0 : Int32))) at X13
    have A17 := A14.astoreN (Ls' := #[.val (.ref a), .val (.int z), .val (.ref b9)]) (pc' := 18) d7_17 rfl rfl rfl
    have A18 := A17.aloadN (v := (.ref a)) (pc' := 19) d7_18 rfl rfl rfl
    have A19 := A18.iconst (z := (0 : Int32)) (pc' := 20) d7_19 rfl rfl
    have A20 := A19.aloadN (v := (.ref b9)) (pc' := 21) d7_20 rfl rfl rfl
    have A21 := A20.iconst (z := (0 : Int32)) (pc' := 22) d7_21 rfl rfl
    have A22 := A21.aloadN (v := (.ref a)) (pc' := 23) d7_22 rfl rfl rfl
    have f23 := (e0.ext E12)
    have A24 := A22.alen (z := (Int32.ofNat N)) (pc' := 24) d7_23 f23 (Int32.toInt_ofNat_small f23.size) rfl
    have A25 := A24.iloadN (v := z) (pc' := 25) d7_24 rfl rfl
    obtain ⟨r27, _, ⟨rfl, q28⟩, A26⟩ := W.kI (A25.callS (argsL := [(.int (Int32.ofNat N)), (.int z)]) (rest := [(.int (0 : Int32)), (.ref b9), (.int (0 : Int32)), (.ref a)]) (C' := 1) (S' := 14) (pc' := 28) d7_25 (hw _ (List.mem_of_getElem? (i := 37) rfl)) (hw _ (List.mem_of_getElem? (i := 38) rfl)) (hw _ (List.mem_of_getElem? (i := 27) rfl)) (hw _ (List.mem_of_getElem? (i := 39) rfl)) (rm8 l Z a0 hw n0 [] ((Int32.ofNat N)) (z)  h8 A25.size ) rfl rfl pd_0 rfl rfl (by decide) (by decide) (Nat.le_of_ble_eq_true rfl) (by decide) (by decide) rfl rfl rfl)
    obtain ⟨h30, K31, X32, A33⟩ := A26.acopy (i := 0) (j := 0) (k := r27.toInt.toNat) (pc' := 31) d7_28 (hw _ (List.mem_of_getElem? (i := 40) rfl)) (hw _ (List.mem_of_getElem? (i := 43) rfl)) (hw _ (List.mem_of_getElem? (i := 41) rfl)) (hw _ (List.mem_of_getElem? (i := 42) rfl)) f23 X13 rfl rfl rfl (by omega) (by omega) (by omega) g11 rfl (by decide) (Nat.le_of_ble_eq_true rfl) rfl
    have f34 := X32.fn (g := (fun j => if j < N then f j else (.int (0 : Int32)))) (by intro j hj; show (if 0 ≤ j ∧ j < 0 + r27.toInt.toNat then f (0 + (j - 0)) else (.int (0 : Int32))) = (if j < N then f j else (.int (0 : Int32))); exact (if q : j < N then (by rw [if_pos (by omega), if_pos q, Nat.zero_add, Nat.sub_zero]) else (by rw [if_neg (by omega), if_neg q])))
    have A35 := A33.aloadN (v := (.ref b9)) (pc' := 32) d7_31 rfl rfl rfl
    have z36 : h0.size ≤ b9 := Nat.le_trans (Nat.le_refl _) (Nat.le_of_eq eb10.symm)
    have K37 : Keep h0 h30 [] := (((Keep.refl h0 []).ext E12).trans K31 (allS (Or.inr z36) all0))
    refine A35.retA d7_32 (by decide) (by decide) rfl rfl rfl ⟨_, rfl, ⟨K37, g11, z36, f34, ?_⟩⟩
    trivial
theorem pn4 : plainFor (⟨"com/example/riddle0/riddle0/ByteSink", "reserve", "(I)V"⟩ : MethodName) = true := by first | exact plainFor_of_name (by first | (simp [plainName, overriddenIn]; done) | decide +kernel) | exact Jvm.Free.JP.mathPlain rfl (by decide +kernel) | decide +kernel
theorem d4_0 : decode prog_2_method_7_code 0 = .ok (.iload_n 1, 1) := by decide +kernel
theorem d4_1 : decode prog_2_method_7_code 1 = .ok (.ldc 53, 2) := by decide +kernel
theorem d4_3 : decode prog_2_method_7_code 3 = .ok (.aload_n 0, 1) := by decide +kernel
theorem d4_4 : decode prog_2_method_7_code 4 = .ok (.getfield 19, 3) := by decide +kernel
theorem d4_7 : decode prog_2_method_7_code 7 = .ok (.isub, 1) := by decide +kernel
theorem d4_8 : decode prog_2_method_7_code 8 = .ok (.if_icmp .le 13, 3) := by decide +kernel
theorem d4_21 : decode prog_2_method_7_code 21 = .ok (.iload_n 1, 1) := by decide +kernel
theorem d4_22 : decode prog_2_method_7_code 22 = .ok (.aload_n 0, 1) := by decide +kernel
theorem d4_23 : decode prog_2_method_7_code 23 = .ok (.getfield 9, 3) := by decide +kernel
theorem d4_26 : decode prog_2_method_7_code 26 = .ok (.arraylength, 1) := by decide +kernel
theorem d4_27 : decode prog_2_method_7_code 27 = .ok (.aload_n 0, 1) := by decide +kernel
theorem d4_28 : decode prog_2_method_7_code 28 = .ok (.getfield 19, 3) := by decide +kernel
theorem d4_31 : decode prog_2_method_7_code 31 = .ok (.isub, 1) := by decide +kernel
theorem d4_32 : decode prog_2_method_7_code 32 = .ok (.if_icmp .le 41, 3) := by decide +kernel
theorem d4_35 : decode prog_2_method_7_code 35 = .ok (.aload_n 0, 1) := by decide +kernel
theorem d4_36 : decode prog_2_method_7_code 36 = .ok (.aload_n 0, 1) := by decide +kernel
theorem d4_37 : decode prog_2_method_7_code 37 = .ok (.getfield 9, 3) := by decide +kernel
theorem d4_40 : decode prog_2_method_7_code 40 = .ok (.ldc2_w 61, 3) := by decide +kernel
theorem d4_43 : decode prog_2_method_7_code 43 = .ok (.aload_n 0, 1) := by decide +kernel
theorem d4_44 : decode prog_2_method_7_code 44 = .ok (.getfield 9, 3) := by decide +kernel
theorem d4_47 : decode prog_2_method_7_code 47 = .ok (.arraylength, 1) := by decide +kernel
theorem d4_48 : decode prog_2_method_7_code 48 = .ok (.i2l, 1) := by decide +kernel
theorem d4_49 : decode prog_2_method_7_code 49 = .ok (.lmul, 1) := by decide +kernel
theorem d4_50 : decode prog_2_method_7_code 50 = .ok (.aload_n 0, 1) := by decide +kernel
theorem d4_51 : decode prog_2_method_7_code 51 = .ok (.getfield 19, 3) := by decide +kernel
theorem d4_54 : decode prog_2_method_7_code 54 = .ok (.iload_n 1, 1) := by decide +kernel
theorem d4_55 : decode prog_2_method_7_code 55 = .ok (.iadd, 1) := by decide +kernel
theorem d4_56 : decode prog_2_method_7_code 56 = .ok (.i2l, 1) := by decide +kernel
theorem d4_57 : decode prog_2_method_7_code 57 = .ok (.invokestatic 63, 3) := by decide +kernel
theorem d4_60 : decode prog_2_method_7_code 60 = .ok (.ldc2_w 69, 3) := by decide +kernel
theorem d4_63 : decode prog_2_method_7_code 63 = .ok (.invokestatic 71, 3) := by decide +kernel
theorem d4_66 : decode prog_2_method_7_code 66 = .ok (.l2i, 1) := by decide +kernel
theorem d4_67 : decode prog_2_method_7_code 67 = .ok (.invokestatic 47, 3) := by decide +kernel
theorem d4_70 : decode prog_2_method_7_code 70 = .ok (.putfield 9, 3) := by decide +kernel
theorem d4_73 : decode prog_2_method_7_code 73 = .ok (.return_, 1) := by decide +kernel
abbrev y4 : MethodName := (⟨"com/example/riddle0/riddle0/ByteSink", "reserve", "(I)V"⟩ : MethodName)
abbrev R4 : Room := { frames := 2, cells := 1, slots := 14, locals := 33 }
set_option maxRecDepth 65536 in
set_option maxHeartbeats 4000000 in
theorem ef4 (a : Addr) (cnt : Int32) (mid : MethodId) : entryFrame mid #[(.ref a), (.int cnt)] 2 = mkF mid 0 #[.val (.ref a), .val (.int cnt)] [] := by first | (simp [entryFrame, mkF, argsToLocals, Value.category]; done) | rfl
set_option maxRecDepth 65536 in
set_option maxHeartbeats 40000000 in
theorem rm4 (l : Launch) (Z : State) (a0 : Array Value) (hw : ∀ d ∈ tables_1, d.before a0 Z = true) (n0 : Nat) (ws : List Jvm.Cond) (a : Addr) (cnt : Int32) (u : Addr) (N : Nat) (f : Nat → Value) (sz : Int32) (h0 : Heap) (hn0 : n0 ≤ h0.size) (e0 : Exa Z h0 a "com/example/riddle0/riddle0/ByteSink") (e1 : n0 ≤ a) (e2 : Fld Z h0 a "com/example/riddle0/riddle0/ByteSink" "bytes" "[B" (.ref u)) (e3 : Fld Z h0 a "com/example/riddle0/riddle0/ByteSink" "size" "I" (.int sz)) (e4 : Ars Z h0 u .byte N f) (e5 : n0 ≤ u) (e6 : a ≠ u) (e7 : 0 ≤ sz.toInt ∧ sz.toInt ≤ N ∧ sz.toInt ≤ 3 ∧ N ≤ 7 ∧ 1 ≤ cnt.toInt ∧ cnt.toInt ≤ 8) :
    Ctr l Z n0 y4 prog_2_method_7_code 2 (none) ws R4 #[(.ref a), (.int cnt)] h0 (QV fun h => ∃ u2 : Addr, ∃ N2 : Nat, ∃ f2 : Nat → Value, (Keep h0 h [a]) ∧ (Fld Z h a "com/example/riddle0/riddle0/ByteSink" "bytes" "[B" (.ref u2)) ∧ (Fld Z h a "com/example/riddle0/riddle0/ByteSink" "size" "I" (.int sz)) ∧ (Ars Z h u2 .byte N2 f2) ∧ (n0 ≤ u2) ∧ (a ≠ u2) ∧ ((u2 = u ∨ h0.size ≤ u2) ∧ ((N2 = N ∧ sz.toInt + cnt.toInt ≤ N) ∨ ((N : Int) < sz.toInt + cnt.toInt ∧ (((N2 : Int) = 2 * N ∧ sz.toInt + cnt.toInt ≤ 2 * N) ∨ ((N2 : Int) = sz.toInt + cnt.toInt ∧ 2 * N < sz.toInt + cnt.toInt)))) ∧ (∀ j : Nat, (j : Int) < sz.toInt → f2 j = f j))) := by
  refine ctr_of pn4 hn0 (ef4 a cnt) fun G A0 => ?_
  have tN : (Int32.ofNat N).toInt = N := Int32.toInt_ofNat_of_lt (by omega)
  have lM : (2147483639 : Int32).toInt = 2147483639 := rfl
  have t1 := sub32 (2147483639 : Int32) sz (by omega) (by omega)
  have t2 := sub32 (Int32.ofNat N) sz (by omega) (by omega)
  have A1 := A0.iloadN (v := cnt) (pc' := 1) d4_0 rfl rfl
  have A2 := A1.ldc (z := (2147483639 : Int32)) (pc' := 3) d4_1 (hw _ (List.mem_of_getElem? (i := 21) rfl)) rfl
  have A3 := A2.aloadN (v := (.ref a)) (pc' := 4) d4_3 rfl rfl rfl
  have A4 := A3.getF (pc' := 7) (host := "") d4_4 (Or.inl (hw _ (List.mem_of_getElem? (i := 22) rfl))) Via.refl e3 rfl
  have A5 := A4.isub (pc' := 8) d4_7 rfl
  by_cases c6 : ((2147483639 : Int32) - sz).toInt < cnt.toInt
  · exfalso
    omega
  · have A8 := A5.icmpYes (pc' := 21) d4_8 (flt (ingt (x := cnt) (y := ((2147483639 : Int32) - sz)) rfl rfl c6)).2.2.2 (by decide) (by decide)
    have A9 := A8.iloadN (v := cnt) (pc' := 22) d4_21 rfl rfl
    have A10 := A9.aloadN (v := (.ref a)) (pc' := 23) d4_22 rfl rfl rfl
    have A11 := A10.getF (pc' := 26) (host := "") d4_23 (Or.inl (hw _ (List.mem_of_getElem? (i := 10) rfl))) Via.refl e2 rfl
    have A12 := A11.alen (z := (Int32.ofNat N)) (pc' := 27) d4_26 e4 (Int32.toInt_ofNat_small e4.size) rfl
    have A13 := A12.aloadN (v := (.ref a)) (pc' := 28) d4_27 rfl rfl rfl
    have A14 := A13.getF (pc' := 31) (host := "") d4_28 (Or.inl (hw _ (List.mem_of_getElem? (i := 22) rfl))) Via.refl e3 rfl
    have A15 := A14.isub (pc' := 32) d4_31 rfl
    by_cases c16 : ((Int32.ofNat N) - sz).toInt < cnt.toInt
    · have A17 := A15.icmpNo (pc' := 35) d4_32 (tlt (igt (x := cnt) (y := ((Int32.ofNat N) - sz)) rfl rfl c16)).2.2.2 rfl
      have A18 := A17.aloadN (v := (.ref a)) (pc' := 36) d4_35 rfl rfl rfl
      have A19 := A18.aloadN (v := (.ref a)) (pc' := 37) d4_36 rfl rfl rfl
      have A20 := A19.getF (pc' := 40) (host := "") d4_37 (Or.inl (hw _ (List.mem_of_getElem? (i := 10) rfl))) Via.refl e2 rfl
      have t3 := c_i2l (Int32.ofNat N)
      have t4 := own_m2 (Int32.ofNat N).toInt64 (by omega) (by omega)
      have t5 := add32 sz cnt (by omega) (by omega)
      have t6 := c_i2l (sz + cnt)
      have l9 : (2147483639 : Int64).toInt = 2147483639 := rfl
      have A21 := A20.ldc2 (z := (2 : Int64)) (pc' := 43) d4_40 (hw _ (List.mem_of_getElem? (i := 24) rfl)) rfl
      have A22 := A21.aloadN (v := (.ref a)) (pc' := 44) d4_43 rfl rfl rfl
      have A23 := A22.getF (pc' := 47) (host := "") d4_44 (Or.inl (hw _ (List.mem_of_getElem? (i := 10) rfl))) Via.refl e2 rfl
      have A24 := A23.alen (z := (Int32.ofNat N)) (pc' := 48) d4_47 e4 (Int32.toInt_ofNat_small e4.size) rfl
      have A25 := A24.i2l (pc' := 49) d4_48 rfl
      have A26 := A25.lmul (pc' := 50) d4_49 rfl
      have A27 := A26.aloadN (v := (.ref a)) (pc' := 51) d4_50 rfl rfl rfl
      have A28 := A27.getF (pc' := 54) (host := "") d4_51 (Or.inl (hw _ (List.mem_of_getElem? (i := 22) rfl))) Via.refl e3 rfl
      have A29 := A28.iloadN (v := cnt) (pc' := 55) d4_54 rfl rfl
      have A30 := A29.iadd (pc' := 56) d4_55 rfl
      have A31 := A30.i2l (pc' := 57) d4_56 rfl
      obtain ⟨r33, _, ⟨rfl, q34⟩, A32⟩ := W.kJ (A31.callS (argsL := [(.long ((2 : Int64) * (Int32.ofNat N).toInt64)), (.long (sz + cnt).toInt64)]) (rest := [(.ref u), (.ref a)]) (C' := 0) (S' := 0) (pc' := 60) d4_57 (hw _ (List.mem_of_getElem? (i := 25) rfl)) (hw _ (List.mem_of_getElem? (i := 26) rfl)) (hw _ (List.mem_of_getElem? (i := 27) rfl)) (hw _ (List.mem_of_getElem? (i := 28) rfl)) (rm5 l Z a0 hw n0 [] (((2 : Int64) * (Int32.ofNat N).toInt64)) ((sz + cnt).toInt64)  h0 A31.size ) rfl rfl pd_1 rfl rfl (by decide) (by decide) (Nat.le_of_ble_eq_true rfl) (by decide) (by decide) rfl rfl rfl)
      have A36 := A32.ldc2 (z := (2147483639 : Int64)) (pc' := 63) d4_60 (hw _ (List.mem_of_getElem? (i := 29) rfl)) rfl
      obtain ⟨r38, _, ⟨rfl, q39⟩, A37⟩ := W.kJ (A36.callS (argsL := [(.long r33), (.long (2147483639 : Int64))]) (rest := [(.ref u), (.ref a)]) (C' := 0) (S' := 0) (pc' := 66) d4_63 (hw _ (List.mem_of_getElem? (i := 30) rfl)) (hw _ (List.mem_of_getElem? (i := 31) rfl)) (hw _ (List.mem_of_getElem? (i := 27) rfl)) (hw _ (List.mem_of_getElem? (i := 32) rfl)) (rm6 l Z a0 hw n0 [] (r33) ((2147483639 : Int64))  h0 A36.size ) rfl rfl pd_1 rfl rfl (by decide) (by decide) (Nat.le_of_ble_eq_true rfl) (by decide) (by decide) rfl rfl rfl)
      have t7 := own_l2i r38 (by omega) (by omega)
      have A41 := A37.l2i (pc' := 67) d4_66 rfl
      obtain ⟨r43, h45, ⟨K46, g47, z48, f49, q44⟩, A42⟩ := W.kA (A41.callS (argsL := [(.ref u), (.int r38.toInt32)]) (rest := [(.ref a)]) (C' := 1) (S' := 14) (pc' := 70) d4_67 (hw _ (List.mem_of_getElem? (i := 33) rfl)) (hw _ (List.mem_of_getElem? (i := 34) rfl)) (hw _ (List.mem_of_getElem? (i := 35) rfl)) (hw _ (List.mem_of_getElem? (i := 36) rfl)) (rm7 l Z a0 hw n0 [] (u) (r38.toInt32) (N) (f) h0 A41.size e4 (by omega)) rfl rfl pd_2 rfl rfl (by decide) (by decide) (Nat.le_of_ble_eq_true rfl) (by decide) (by decide) rfl rfl rfl)
      have ne50 : a ≠ r43 := Nat.ne_of_lt (Nat.lt_of_lt_of_le e0.lt z48)
      have ne51 : u ≠ r43 := Nat.ne_of_lt (Nat.lt_of_lt_of_le e4.lt z48)
      have f52 := (e2.keep K46 nin0)
      have f53 := (e0.keep K46)
      obtain ⟨h55, w56, A54⟩ := A42.putF (pc' := 73) (ty := (.array .byte)) (host := "") d4_70 (Or.inl (hw _ (List.mem_of_getElem? (i := 10) rfl))) Via.refl f52 f53 (Or.inl (hw _ (List.mem_of_getElem? (i := 11) rfl))) (hw _ (List.mem_of_getElem? (i := 1) rfl)) (by decide) rfl rfl e1 rfl
      have f57 := f52.same w56
      have K58 : Keep h0 h55 [a] := (((Keep.refl h0 [a]).trans K46 all0).wr w56 (Or.inl (List.mem_of_getElem? (i := 0) rfl)))
      have f59 := ((e3.keep K46 nin0).other w56 (Or.inr (slot_ne (Or.inl (hw _ (List.mem_of_getElem? (i := 23) rfl))) (Or.inl (hw _ (List.mem_of_getElem? (i := 11) rfl))) (by decide) (t := .int) (t' := (.array .byte)) (by decide) (by decide))))
      have f60 := (f49.other w56 (Ne.symm ne50))
      refine A54.retV d4_73 (by decide) (by decide) ⟨rfl, ⟨r43, r38.toInt32.toInt.toNat, (fun j => if j < N then f j else (.int (0 : Int32))), K58, f57, f59, f60, g47, ne50, ?_⟩⟩
      have z61 : h0.size ≤ r43 := Nat.le_trans (Nat.le_refl _) z48
      refine ⟨Or.inr z61, Or.inr ⟨by omega, ?_⟩, fun j hj => if_pos (by omega)⟩
      omega
    · have A62 := A15.icmpYes (pc' := 73) d4_32 (flt (ingt (x := cnt) (y := ((Int32.ofNat N) - sz)) rfl rfl c16)).2.2.2 (by decide) (by decide)
      have K63 : Keep h0 h0 [a] := (Keep.refl h0 [a])
      refine A62.retV d4_73 (by decide) (by decide) ⟨rfl, ⟨u, N, f, K63, e2, e3, e4, e5, e6, ?_⟩⟩
      exact ⟨Or.inl rfl, Or.inl ⟨rfl, by omega⟩, fun j hj => rfl⟩
theorem pn3 : plainFor (⟨"com/example/riddle0/riddle0/ByteSink", "putByte", "(I)Lcom/example/riddle0/riddle0/ByteSink;"⟩ : MethodName) = true := by first | exact plainFor_of_name (by first | (simp [plainName, overriddenIn]; done) | decide +kernel) | exact Jvm.Free.JP.mathPlain rfl (by decide +kernel) | decide +kernel
theorem d3_0 : decode prog_2_method_2_code 0 = .ok (.aload_n 0, 1) := by decide +kernel
theorem d3_1 : decode prog_2_method_2_code 1 = .ok (.iconst 1, 1) := by decide +kernel
theorem d3_2 : decode prog_2_method_2_code 2 = .ok (.invokevirtual 15, 3) := by decide +kernel
theorem d3_5 : decode prog_2_method_2_code 5 = .ok (.aload_n 0, 1) := by decide +kernel
theorem d3_6 : decode prog_2_method_2_code 6 = .ok (.getfield 9, 3) := by decide +kernel
theorem d3_9 : decode prog_2_method_2_code 9 = .ok (.aload_n 0, 1) := by decide +kernel
theorem d3_10 : decode prog_2_method_2_code 10 = .ok (.dup, 1) := by decide +kernel
theorem d3_11 : decode prog_2_method_2_code 11 = .ok (.getfield 19, 3) := by decide +kernel
theorem d3_14 : decode prog_2_method_2_code 14 = .ok (.dup_x1, 1) := by decide +kernel
theorem d3_15 : decode prog_2_method_2_code 15 = .ok (.iconst 1, 1) := by decide +kernel
theorem d3_16 : decode prog_2_method_2_code 16 = .ok (.iadd, 1) := by decide +kernel
theorem d3_17 : decode prog_2_method_2_code 17 = .ok (.putfield 19, 3) := by decide +kernel
theorem d3_20 : decode prog_2_method_2_code 20 = .ok (.iload_n 1, 1) := by decide +kernel
theorem d3_21 : decode prog_2_method_2_code 21 = .ok (.i2b, 1) := by decide +kernel
theorem d3_22 : decode prog_2_method_2_code 22 = .ok (.bastore, 1) := by decide +kernel
theorem d3_23 : decode prog_2_method_2_code 23 = .ok (.aload_n 0, 1) := by decide +kernel
theorem d3_24 : decode prog_2_method_2_code 24 = .ok (.areturn, 1) := by decide +kernel
abbrev y3 : MethodName := (⟨"com/example/riddle0/riddle0/ByteSink", "putByte", "(I)Lcom/example/riddle0/riddle0/ByteSink;"⟩ : MethodName)
abbrev R3 : Room := { frames := 3, cells := 1, slots := 14, locals := 46 }
set_option maxRecDepth 65536 in
set_option maxHeartbeats 4000000 in
theorem ef3 (a : Addr) (x : Int32) (mid : MethodId) : entryFrame mid #[(.ref a), (.int x)] 2 = mkF mid 0 #[.val (.ref a), .val (.int x)] [] := by first | (simp [entryFrame, mkF, argsToLocals, Value.category]; done) | rfl
set_option maxRecDepth 65536 in
set_option maxHeartbeats 40000000 in
theorem rm3 (l : Launch) (Z : State) (a0 : Array Value) (hw : ∀ d ∈ tables_1, d.before a0 Z = true) (n0 : Nat) (ws : List Jvm.Cond) (a : Addr) (x : Int32) (u : Addr) (N : Nat) (f : Nat → Value) (sz : Int32) (h0 : Heap) (hn0 : n0 ≤ h0.size) (e0 : Exa Z h0 a "com/example/riddle0/riddle0/ByteSink") (e1 : n0 ≤ a) (e2 : Fld Z h0 a "com/example/riddle0/riddle0/ByteSink" "bytes" "[B" (.ref u)) (e3 : Fld Z h0 a "com/example/riddle0/riddle0/ByteSink" "size" "I" (.int sz)) (e4 : Ars Z h0 u .byte N f) (e5 : n0 ≤ u) (e6 : a ≠ u) (e7 : 0 ≤ sz.toInt ∧ sz.toInt ≤ N ∧ sz.toInt ≤ 2 ∧ N ≤ 7) :
    Ctr l Z n0 y3 prog_2_method_2_code 2 (some (.object "com/example/riddle0/riddle0/ByteSink")) ws R3 #[(.ref a), (.int x)] h0 (QA fun r h => ∃ u2 : Addr, ∃ N2 : Nat, ∃ f3 : Nat → Value, ∃ s2 : Int32, (Keep h0 h [a, u]) ∧ (Fld Z h a "com/example/riddle0/riddle0/ByteSink" "bytes" "[B" (.ref u2)) ∧ (Fld Z h a "com/example/riddle0/riddle0/ByteSink" "size" "I" (.int s2)) ∧ (Ars Z h u2 .byte N2 f3) ∧ (n0 ≤ u2) ∧ (a ≠ u2) ∧ (r = a ∧ (u2 = u ∨ h0.size ≤ u2) ∧ s2.toInt = sz.toInt + 1 ∧ s2.toInt ≤ N2 ∧ N2 ≤ 7 ∧ (∀ j : Nat, (j : Int) < sz.toInt → f3 j = f j) ∧ f3 sz.toInt.toNat = .int x.toInt8.toInt32)) := by
  refine ctr_of pn3 hn0 (ef3 a x) fun G A0 => ?_
  have l1 : (1 : Int32).toInt = 1 := rfl
  have t1 := addc32 sz (1 : Int32) 1 rfl (by omega) (by omega)
  have A1 := A0.aloadN (v := (.ref a)) (pc' := 1) d3_0 rfl rfl rfl
  have A2 := A1.iconst (z := (1 : Int32)) (pc' := 2) d3_1 rfl rfl
  obtain ⟨h6, ⟨u8, u9, u10, K7, f11, f12, f13, f14, f15, q5⟩, A3⟩ := W.kV (A2.callP (a := a) (argsL := [(.int (1 : Int32))]) (rest := []) (C' := 1) (S' := 14) (pc' := 5) d3_2 e0 (hw _ (List.mem_of_getElem? (i := 17) rfl)) (hw _ (List.mem_of_getElem? (i := 18) rfl)) (hw _ (List.mem_of_getElem? (i := 19) rfl)) (hw _ (List.mem_of_getElem? (i := 1) rfl)) (hw _ (List.mem_of_getElem? (i := 2) rfl)) (hw _ (List.mem_of_getElem? (i := 20) rfl)) (rm4 l Z a0 hw n0 [] (a) ((1 : Int32)) (u) (N) (f) (sz) h0 A2.size e0 e1 e2 e3 e4 e5 e6 (by omega)) rfl rfl pd_3 rfl rfl (by decide) (by decide) (Nat.le_of_ble_eq_true rfl) (by decide) (by decide) rfl rfl rfl)
  obtain ⟨hor, hN2, hkeep⟩ := q5
  have A16 := A3.aloadN (v := (.ref a)) (pc' := 6) d3_5 rfl rfl rfl
  have A17 := A16.getF (pc' := 9) (host := "") d3_6 (Or.inl (hw _ (List.mem_of_getElem? (i := 10) rfl))) Via.refl f11 rfl
  have A18 := A17.aloadN (v := (.ref a)) (pc' := 10) d3_9 rfl rfl rfl
  have A19 := A18.dup (pc' := 11) d3_10 rfl rfl
  have A20 := A19.getF (pc' := 14) (host := "") d3_11 (Or.inl (hw _ (List.mem_of_getElem? (i := 22) rfl))) Via.refl f12 rfl
  have A21 := A20.dupX1 (pc' := 15) d3_14 rfl rfl rfl
  have A22 := A21.iconst (z := (1 : Int32)) (pc' := 16) d3_15 rfl rfl
  have A23 := A22.iadd (pc' := 17) d3_16 rfl
  have f24 := (e0.keep K7)
  obtain ⟨h26, w27, A25⟩ := A23.putF (pc' := 20) (ty := .int) (host := "") d3_17 (Or.inl (hw _ (List.mem_of_getElem? (i := 22) rfl))) Via.refl f12 f24 (Or.inl (hw _ (List.mem_of_getElem? (i := 23) rfl))) (hw _ (List.mem_of_getElem? (i := 1) rfl)) (by decide) rfl rfl e1 rfl
  have f28 := f12.same w27
  have A29 := A25.iloadN (v := x) (pc' := 21) d3_20 rfl rfl
  have A30 := A29.i2b (pc' := 22) d3_21 rfl
  have f31 := (f13.other w27 (Ne.symm f15))
  obtain ⟨h32, w33, X34, A35⟩ := A30.bastore (i := sz.toInt.toNat) (pc' := 23) d3_22 f31 (by omega) (by omega) f14 rfl
  have A36 := A35.aloadN (v := (.ref a)) (pc' := 24) d3_23 rfl rfl rfl
  have K37 : Keep h0 h32 [a, u] := ((((Keep.refl h0 [a, u]).trans K7 (allS (Or.inl (List.mem_of_getElem? (i := 0) rfl)) all0)).wr w27 (Or.inl (List.mem_of_getElem? (i := 0) rfl))).wr w33 (hor.imp (fun e => by rw [e]; exact List.mem_of_getElem? (i := 1) rfl) id))
  have f38 := ((f11.other w27 (Or.inr (slot_ne (Or.inl (hw _ (List.mem_of_getElem? (i := 11) rfl))) (Or.inl (hw _ (List.mem_of_getElem? (i := 23) rfl))) (by decide) (t := (.array .byte)) (t' := .int) (by decide) (by decide)))).other w33 (Or.inl f15))
  have f39 := (f28.other w33 (Or.inl f15))
  refine A36.retA d3_24 (by decide) (by decide) rfl rfl rfl ⟨_, rfl, ⟨u8, u9, (upd u10 sz.toInt.toNat (.int x.toInt8.toInt32.toInt8.toInt32)), (sz + (1 : Int32)), K37, f38, f39, X34, f14, f15, ?_⟩⟩
  exact ⟨rfl, hor, t1, by omega, by omega, fun j hj => (upd_ne _ _ (by omega)).trans (hkeep j hj), (upd_same _ _ _).trans (congrArg Value.int (own_bb _))⟩
theorem pn12 : plainFor (⟨"com/example/riddle0/riddle0/ByteSink", "putLong", "(J)Lcom/example/riddle0/riddle0/ByteSink;"⟩ : MethodName) = true := by first | exact plainFor_of_name (by first | (simp [plainName, overriddenIn]; done) | decide +kernel) | exact Jvm.Free.JP.mathPlain rfl (by decide +kernel) | decide +kernel
theorem d12_0 : decode prog_2_method_5_code 0 = .ok (.aload_n 0, 1) := by decide +kernel
theorem d12_1 : decode prog_2_method_5_code 1 = .ok (.bipush 8, 2) := by decide +kernel
theorem d12_3 : decode prog_2_method_5_code 3 = .ok (.invokevirtual 15, 3) := by decide +kernel
theorem d12_6 : decode prog_2_method_5_code 6 = .ok (.iconst 0, 1) := by decide +kernel
theorem d12_7 : decode prog_2_method_5_code 7 = .ok (.istore_n 3, 1) := by decide +kernel
theorem d12_8 : decode prog_2_method_5_code 8 = .ok (.iload_n 3, 1) := by decide +kernel
theorem d12_9 : decode prog_2_method_5_code 9 = .ok (.bipush 8, 2) := by decide +kernel
theorem d12_11 : decode prog_2_method_5_code 11 = .ok (.if_icmp .ge 33, 3) := by decide +kernel
theorem d12_14 : decode prog_2_method_5_code 14 = .ok (.aload_n 0, 1) := by decide +kernel
theorem d12_15 : decode prog_2_method_5_code 15 = .ok (.getfield 9, 3) := by decide +kernel
theorem d12_18 : decode prog_2_method_5_code 18 = .ok (.aload_n 0, 1) := by decide +kernel
theorem d12_19 : decode prog_2_method_5_code 19 = .ok (.dup, 1) := by decide +kernel
theorem d12_20 : decode prog_2_method_5_code 20 = .ok (.getfield 19, 3) := by decide +kernel
theorem d12_23 : decode prog_2_method_5_code 23 = .ok (.dup_x1, 1) := by decide +kernel
theorem d12_24 : decode prog_2_method_5_code 24 = .ok (.iconst 1, 1) := by decide +kernel
theorem d12_25 : decode prog_2_method_5_code 25 = .ok (.iadd, 1) := by decide +kernel
theorem d12_26 : decode prog_2_method_5_code 26 = .ok (.putfield 19, 3) := by decide +kernel
theorem d12_29 : decode prog_2_method_5_code 29 = .ok (.lload_n 1, 1) := by decide +kernel
theorem d12_30 : decode prog_2_method_5_code 30 = .ok (.bipush 8, 2) := by decide +kernel
theorem d12_32 : decode prog_2_method_5_code 32 = .ok (.iload_n 3, 1) := by decide +kernel
theorem d12_33 : decode prog_2_method_5_code 33 = .ok (.imul, 1) := by decide +kernel
theorem d12_34 : decode prog_2_method_5_code 34 = .ok (.lushr, 1) := by decide +kernel
theorem d12_35 : decode prog_2_method_5_code 35 = .ok (.l2i, 1) := by decide +kernel
theorem d12_36 : decode prog_2_method_5_code 36 = .ok (.i2b, 1) := by decide +kernel
theorem d12_37 : decode prog_2_method_5_code 37 = .ok (.bastore, 1) := by decide +kernel
theorem d12_38 : decode prog_2_method_5_code 38 = .ok (.iinc 3 1, 3) := by decide +kernel
theorem d12_41 : decode prog_2_method_5_code 41 = .ok (.goto (-33), 3) := by decide +kernel
theorem d12_44 : decode prog_2_method_5_code 44 = .ok (.aload_n 0, 1) := by decide +kernel
theorem d12_45 : decode prog_2_method_5_code 45 = .ok (.areturn, 1) := by decide +kernel
abbrev y12 : MethodName := (⟨"com/example/riddle0/riddle0/ByteSink", "putLong", "(J)Lcom/example/riddle0/riddle0/ByteSink;"⟩ : MethodName)
abbrev R12 : Room := { frames := 3, cells := 1, slots := 14, locals := 46 }
set_option maxRecDepth 65536 in
set_option maxHeartbeats 4000000 in
theorem ef12 (a : Addr) (v : Int64) (mid : MethodId) : entryFrame mid #[(.ref a), (.long v)] 4 = mkF mid 0 #[.val (.ref a), .val (.long v), .second, .unset] [] := by first | (simp [entryFrame, mkF, argsToLocals, Value.category]; done) | rfl
set_option maxRecDepth 65536 in
set_option maxHeartbeats 40000000 in
theorem rm12 (l : Launch) (Z : State) (a0 : Array Value) (hw : ∀ d ∈ tables_1, d.before a0 Z = true) (n0 : Nat) (ws : List Jvm.Cond) (a : Addr) (v : Int64) (u : Addr) (N : Nat) (f : Nat → Value) (sz : Int32) (h0 : Heap) (hn0 : n0 ≤ h0.size) (e0 : Exa Z h0 a "com/example/riddle0/riddle0/ByteSink") (e1 : n0 ≤ a) (e2 : Fld Z h0 a "com/example/riddle0/riddle0/ByteSink" "bytes" "[B" (.ref u)) (e3 : Fld Z h0 a "com/example/riddle0/riddle0/ByteSink" "size" "I" (.int sz)) (e4 : Ars Z h0 u .byte N f) (e5 : n0 ≤ u) (e6 : a ≠ u) (e7 : 0 ≤ sz.toInt ∧ sz.toInt ≤ N ∧ sz.toInt ≤ 3 ∧ N ≤ 7) :
    Ctr l Z n0 y12 prog_2_method_5_code 4 (some (.object "com/example/riddle0/riddle0/ByteSink")) ws R12 #[(.ref a), (.long v)] h0 (QA fun r h => ∃ u2 : Addr, ∃ N2 : Nat, ∃ f3 : Nat → Value, ∃ s2 : Int32, (Keep h0 h [a, u]) ∧ (Fld Z h a "com/example/riddle0/riddle0/ByteSink" "bytes" "[B" (.ref u2)) ∧ (Fld Z h a "com/example/riddle0/riddle0/ByteSink" "size" "I" (.int s2)) ∧ (Ars Z h u2 .byte N2 f3) ∧ (n0 ≤ u2) ∧ (a ≠ u2) ∧ (r = a ∧ (u2 = u ∨ h0.size ≤ u2) ∧ s2.toInt = sz.toInt + 8 ∧ s2.toInt ≤ N2 ∧ N2 ≤ 14 ∧ (∀ j : Nat, (j : Int) < sz.toInt → f3 j = f j) ∧ f3 (sz.toInt.toNat + 0) = .int (own_lb v (0 : Int32)) ∧ f3 (sz.toInt.toNat + 1) = .int (own_lb v (8 : Int32)) ∧ f3 (sz.toInt.toNat + 2) = .int (own_lb v (16 : Int32)) ∧ f3 (sz.toInt.toNat + 3) = .int (own_lb v (24 : Int32)) ∧ f3 (sz.toInt.toNat + 4) = .int (own_lb v (32 : Int32)) ∧ f3 (sz.toInt.toNat + 5) = .int (own_lb v (40 : Int32)) ∧ f3 (sz.toInt.toNat + 6) = .int (own_lb v (48 : Int32)) ∧ f3 (sz.toInt.toNat + 7) = .int (own_lb v (56 : Int32)))) := by
  refine ctr_of pn12 hn0 (ef12 a v) fun G A0 => ?_
  have l8 : (8 : Int32).toInt = 8 := rfl
  have A1 := A0.aloadN (v := (.ref a)) (pc' := 1) d12_0 rfl rfl rfl
  have A2 := A1.bipush (z := (8 : Int32)) (pc' := 3) d12_1 rfl rfl
  obtain ⟨h6, ⟨u8, u9, u10, K7, f11, f12, f13, f14, f15, q5⟩, A3⟩ := W.kV (A2.callP (a := a) (argsL := [(.int (8 : Int32))]) (rest := []) (C' := 1) (S' := 14) (pc' := 6) d12_3 e0 (hw _ (List.mem_of_getElem? (i := 17) rfl)) (hw _ (List.mem_of_getElem? (i := 18) rfl)) (hw _ (List.mem_of_getElem? (i := 19) rfl)) (hw _ (List.mem_of_getElem? (i := 1) rfl)) (hw _ (List.mem_of_getElem? (i := 2) rfl)) (hw _ (List.mem_of_getElem? (i := 20) rfl)) (rm4 l Z a0 hw n0 [] (a) ((8 : Int32)) (u) (N) (f) (sz) h0 A2.size e0 e1 e2 e3 e4 e5 e6 (by omega)) rfl rfl pd_3 rfl rfl (by decide) (by decide) (Nat.le_of_ble_eq_true rfl) (by decide) (by decide) rfl rfl rfl)
  obtain ⟨hor, hN2, hkeep⟩ := q5
  have A16 := A3.iconst (z := (0 : Int32)) (pc' := 7) d12_6 rfl rfl
  have A17 := A16.istoreN (Ls' := #[.val (.ref a), .val (.long v), .second, .val (.int (0 : Int32))]) (pc' := 8) d12_7 rfl rfl
  have A18 := A17.iloadN (v := (0 : Int32)) (pc' := 9) d12_8 rfl rfl
  have A19 := A18.bipush (z := (8 : Int32)) (pc' := 11) d12_9 rfl rfl
  have A21 := A19.icmpNo (pc' := 14) d12_11 (tlt (ilt (x := (0 : Int32)) (y := (8 : Int32)) rfl rfl (by decide : (0 : Int) < 8))).2.1 rfl
  have A22 := A21.aloadN (v := (.ref a)) (pc' := 15) d12_14 rfl rfl rfl
  have A23 := A22.getF (pc' := 18) (host := "") d12_15 (Or.inl (hw _ (List.mem_of_getElem? (i := 10) rfl))) Via.refl f11 rfl
  have A24 := A23.aloadN (v := (.ref a)) (pc' := 19) d12_18 rfl rfl rfl
  have A25 := A24.dup (pc' := 20) d12_19 rfl rfl
  have A26 := A25.getF (pc' := 23) (host := "") d12_20 (Or.inl (hw _ (List.mem_of_getElem? (i := 22) rfl))) Via.refl f12 rfl
  have A27 := A26.dupX1 (pc' := 24) d12_23 rfl rfl rfl
  have A28 := A27.iconst (z := (1 : Int32)) (pc' := 25) d12_24 rfl rfl
  have A29 := A28.iadd (pc' := 26) d12_25 rfl
  obtain ⟨sv1, e_sv1⟩ : ∃ z : Int32, z = (sz + (1 : Int32)) := ⟨_, rfl⟩
  have A30 := A29.topI (z := sv1) e_sv1.symm
  have k_sv1 : sv1.toInt = sz.toInt + 1 := by rw [e_sv1]; have := addc32 sz (1 : Int32) 1 rfl (by omega) (by omega); omega
  have f31 := (e0.keep K7)
  obtain ⟨h33, w34, A32⟩ := A30.putF (pc' := 29) (ty := .int) (host := "") d12_26 (Or.inl (hw _ (List.mem_of_getElem? (i := 22) rfl))) Via.refl f12 f31 (Or.inl (hw _ (List.mem_of_getElem? (i := 23) rfl))) (hw _ (List.mem_of_getElem? (i := 1) rfl)) (by decide) rfl rfl e1 rfl
  have f35 := f12.same w34
  have A36 := A32.lloadN (v := v) (pc' := 30) d12_29 rfl rfl
  have A37 := A36.bipush (z := (8 : Int32)) (pc' := 32) d12_30 rfl rfl
  have A38 := A37.iloadN (v := (0 : Int32)) (pc' := 33) d12_32 rfl rfl
  have A39 := A38.imul (pc' := 34) d12_33 rfl
  have A40 := A39.topI (z := (0 : Int32)) (by decide)
  have A41 := A40.lushr (pc' := 35) d12_34 rfl
  have A42 := A41.l2i (pc' := 36) d12_35 rfl
  have A43 := A42.i2b (pc' := 37) d12_36 rfl
  have f44 := (f13.other w34 (Ne.symm f15))
  obtain ⟨h45, w46, X47, A48⟩ := A43.bastore (i := (sz.toInt.toNat + 0)) (pc' := 38) d12_37 f44 (by omega) (by omega) f14 rfl
  have A49 := A48.iinc (v := (0 : Int32)) (z := (1 : Int32)) (Ls' := #[.val (.ref a), .val (.long v), .second, .val (.int (1 : Int32))]) (pc' := 41) d12_38 rfl (by decide) rfl rfl
  have A50 := A49.goto (pc' := 8) d12_41 (by decide) (by decide)
  have A51 := A50.iloadN (v := (1 : Int32)) (pc' := 9) d12_8 rfl rfl
  have A52 := A51.bipush (z := (8 : Int32)) (pc' := 11) d12_9 rfl rfl
  have A54 := A52.icmpNo (pc' := 14) d12_11 (tlt (ilt (x := (1 : Int32)) (y := (8 : Int32)) rfl rfl (by decide : (1 : Int) < 8))).2.1 rfl
  have A55 := A54.aloadN (v := (.ref a)) (pc' := 15) d12_14 rfl rfl rfl
  have f57 := ((f11.other w34 (Or.inr (slot_ne (Or.inl (hw _ (List.mem_of_getElem? (i := 11) rfl))) (Or.inl (hw _ (List.mem_of_getElem? (i := 23) rfl))) (by decide) (t := (.array .byte)) (t' := .int) (by decide) (by decide)))).other w46 (Or.inl f15))
  have A56 := A55.getF (pc' := 18) (host := "") d12_15 (Or.inl (hw _ (List.mem_of_getElem? (i := 10) rfl))) Via.refl f57 rfl
  have A58 := A56.aloadN (v := (.ref a)) (pc' := 19) d12_18 rfl rfl rfl
  have A59 := A58.dup (pc' := 20) d12_19 rfl rfl
  have f61 := (f35.other w46 (Or.inl f15))
  have A60 := A59.getF (pc' := 23) (host := "") d12_20 (Or.inl (hw _ (List.mem_of_getElem? (i := 22) rfl))) Via.refl f61 rfl
  have A62 := A60.dupX1 (pc' := 24) d12_23 rfl rfl rfl
  have A63 := A62.iconst (z := (1 : Int32)) (pc' := 25) d12_24 rfl rfl
  have A64 := A63.iadd (pc' := 26) d12_25 rfl
  obtain ⟨sv2, e_sv2⟩ : ∃ z : Int32, z = (sv1 + (1 : Int32)) := ⟨_, rfl⟩
  have A65 := A64.topI (z := sv2) e_sv2.symm
  have k_sv2 : sv2.toInt = sz.toInt + 2 := by rw [e_sv2]; have := addc32 sv1 (1 : Int32) 1 rfl (by omega) (by omega); omega
  have f66 := ((f31.wr w34).wr w46)
  obtain ⟨h68, w69, A67⟩ := A65.putF (pc' := 29) (ty := .int) (host := "") d12_26 (Or.inl (hw _ (List.mem_of_getElem? (i := 22) rfl))) Via.refl f61 f66 (Or.inl (hw _ (List.mem_of_getElem? (i := 23) rfl))) (hw _ (List.mem_of_getElem? (i := 1) rfl)) (by decide) rfl rfl e1 rfl
  have f70 := f61.same w69
  have A71 := A67.lloadN (v := v) (pc' := 30) d12_29 rfl rfl
  have A72 := A71.bipush (z := (8 : Int32)) (pc' := 32) d12_30 rfl rfl
  have A73 := A72.iloadN (v := (1 : Int32)) (pc' := 33) d12_32 rfl rfl
  have A74 := A73.imul (pc' := 34) d12_33 rfl
  have A75 := A74.topI (z := (8 : Int32)) (by decide)
  have A76 := A75.lushr (pc' := 35) d12_34 rfl
  have A77 := A76.l2i (pc' := 36) d12_35 rfl
  have A78 := A77.i2b (pc' := 37) d12_36 rfl
  have f79 := (X47.other w69 (Ne.symm f15))
  obtain ⟨h80, w81, X82, A83⟩ := A78.bastore (i := (sz.toInt.toNat + 1)) (pc' := 38) d12_37 f79 (by omega) (by omega) f14 rfl
  have A84 := A83.iinc (v := (1 : Int32)) (z := (2 : Int32)) (Ls' := #[.val (.ref a), .val (.long v), .second, .val (.int (2 : Int32))]) (pc' := 41) d12_38 rfl (by decide) rfl rfl
  have A85 := A84.goto (pc' := 8) d12_41 (by decide) (by decide)
  have A86 := A85.iloadN (v := (2 : Int32)) (pc' := 9) d12_8 rfl rfl
  have A87 := A86.bipush (z := (8 : Int32)) (pc' := 11) d12_9 rfl rfl
  have A89 := A87.icmpNo (pc' := 14) d12_11 (tlt (ilt (x := (2 : Int32)) (y := (8 : Int32)) rfl rfl (by decide : (2 : Int) < 8))).2.1 rfl
  have A90 := A89.aloadN (v := (.ref a)) (pc' := 15) d12_14 rfl rfl rfl
  have f92 := ((f57.other w69 (Or.inr (slot_ne (Or.inl (hw _ (List.mem_of_getElem? (i := 11) rfl))) (Or.inl (hw _ (List.mem_of_getElem? (i := 23) rfl))) (by decide) (t := (.array .byte)) (t' := .int) (by decide) (by decide)))).other w81 (Or.inl f15))
  have A91 := A90.getF (pc' := 18) (host := "") d12_15 (Or.inl (hw _ (List.mem_of_getElem? (i := 10) rfl))) Via.refl f92 rfl
  have A93 := A91.aloadN (v := (.ref a)) (pc' := 19) d12_18 rfl rfl rfl
  have A94 := A93.dup (pc' := 20) d12_19 rfl rfl
  have f96 := (f70.other w81 (Or.inl f15))
  have A95 := A94.getF (pc' := 23) (host := "") d12_20 (Or.inl (hw _ (List.mem_of_getElem? (i := 22) rfl))) Via.refl f96 rfl
  have A97 := A95.dupX1 (pc' := 24) d12_23 rfl rfl rfl
  have A98 := A97.iconst (z := (1 : Int32)) (pc' := 25) d12_24 rfl rfl
  have A99 := A98.iadd (pc' := 26) d12_25 rfl
  obtain ⟨sv3, e_sv3⟩ : ∃ z : Int32, z = (sv2 + (1 : Int32)) := ⟨_, rfl⟩
  have A100 := A99.topI (z := sv3) e_sv3.symm
  have k_sv3 : sv3.toInt = sz.toInt + 3 := by rw [e_sv3]; have := addc32 sv2 (1 : Int32) 1 rfl (by omega) (by omega); omega
  have f101 := ((f66.wr w69).wr w81)
  obtain ⟨h103, w104, A102⟩ := A100.putF (pc' := 29) (ty := .int) (host := "") d12_26 (Or.inl (hw _ (List.mem_of_getElem? (i := 22) rfl))) Via.refl f96 f101 (Or.inl (hw _ (List.mem_of_getElem? (i := 23) rfl))) (hw _ (List.mem_of_getElem? (i := 1) rfl)) (by decide) rfl rfl e1 rfl
  have f105 := f96.same w104
  have A106 := A102.lloadN (v := v) (pc' := 30) d12_29 rfl rfl
  have A107 := A106.bipush (z := (8 : Int32)) (pc' := 32) d12_30 rfl rfl
  have A108 := A107.iloadN (v := (2 : Int32)) (pc' := 33) d12_32 rfl rfl
  have A109 := A108.imul (pc' := 34) d12_33 rfl
  have A110 := A109.topI (z := (16 : Int32)) (by decide)
  have A111 := A110.lushr (pc' := 35) d12_34 rfl
  have A112 := A111.l2i (pc' := 36) d12_35 rfl
  have A113 := A112.i2b (pc' := 37) d12_36 rfl
  have f114 := (X82.other w104 (Ne.symm f15))
  obtain ⟨h115, w116, X117, A118⟩ := A113.bastore (i := (sz.toInt.toNat + 2)) (pc' := 38) d12_37 f114 (by omega) (by omega) f14 rfl
  have A119 := A118.iinc (v := (2 : Int32)) (z := (3 : Int32)) (Ls' := #[.val (.ref a), .val (.long v), .second, .val (.int (3 : Int32))]) (pc' := 41) d12_38 rfl (by decide) rfl rfl
  have A120 := A119.goto (pc' := 8) d12_41 (by decide) (by decide)
  have A121 := A120.iloadN (v := (3 : Int32)) (pc' := 9) d12_8 rfl rfl
  have A122 := A121.bipush (z := (8 : Int32)) (pc' := 11) d12_9 rfl rfl
  have A124 := A122.icmpNo (pc' := 14) d12_11 (tlt (ilt (x := (3 : Int32)) (y := (8 : Int32)) rfl rfl (by decide : (3 : Int) < 8))).2.1 rfl
  have A125 := A124.aloadN (v := (.ref a)) (pc' := 15) d12_14 rfl rfl rfl
  have f127 := ((f92.other w104 (Or.inr (slot_ne (Or.inl (hw _ (List.mem_of_getElem? (i := 11) rfl))) (Or.inl (hw _ (List.mem_of_getElem? (i := 23) rfl))) (by decide) (t := (.array .byte)) (t' := .int) (by decide) (by decide)))).other w116 (Or.inl f15))
  have A126 := A125.getF (pc' := 18) (host := "") d12_15 (Or.inl (hw _ (List.mem_of_getElem? (i := 10) rfl))) Via.refl f127 rfl
  have A128 := A126.aloadN (v := (.ref a)) (pc' := 19) d12_18 rfl rfl rfl
  have A129 := A128.dup (pc' := 20) d12_19 rfl rfl
  have f131 := (f105.other w116 (Or.inl f15))
  have A130 := A129.getF (pc' := 23) (host := "") d12_20 (Or.inl (hw _ (List.mem_of_getElem? (i := 22) rfl))) Via.refl f131 rfl
  have A132 := A130.dupX1 (pc' := 24) d12_23 rfl rfl rfl
  have A133 := A132.iconst (z := (1 : Int32)) (pc' := 25) d12_24 rfl rfl
  have A134 := A133.iadd (pc' := 26) d12_25 rfl
  obtain ⟨sv4, e_sv4⟩ : ∃ z : Int32, z = (sv3 + (1 : Int32)) := ⟨_, rfl⟩
  have A135 := A134.topI (z := sv4) e_sv4.symm
  have k_sv4 : sv4.toInt = sz.toInt + 4 := by rw [e_sv4]; have := addc32 sv3 (1 : Int32) 1 rfl (by omega) (by omega); omega
  have f136 := ((f101.wr w104).wr w116)
  obtain ⟨h138, w139, A137⟩ := A135.putF (pc' := 29) (ty := .int) (host := "") d12_26 (Or.inl (hw _ (List.mem_of_getElem? (i := 22) rfl))) Via.refl f131 f136 (Or.inl (hw _ (List.mem_of_getElem? (i := 23) rfl))) (hw _ (List.mem_of_getElem? (i := 1) rfl)) (by decide) rfl rfl e1 rfl
  have f140 := f131.same w139
  have A141 := A137.lloadN (v := v) (pc' := 30) d12_29 rfl rfl
  have A142 := A141.bipush (z := (8 : Int32)) (pc' := 32) d12_30 rfl rfl
  have A143 := A142.iloadN (v := (3 : Int32)) (pc' := 33) d12_32 rfl rfl
  have A144 := A143.imul (pc' := 34) d12_33 rfl
  have A145 := A144.topI (z := (24 : Int32)) (by decide)
  have A146 := A145.lushr (pc' := 35) d12_34 rfl
  have A147 := A146.l2i (pc' := 36) d12_35 rfl
  have A148 := A147.i2b (pc' := 37) d12_36 rfl
  have f149 := (X117.other w139 (Ne.symm f15))
  obtain ⟨h150, w151, X152, A153⟩ := A148.bastore (i := (sz.toInt.toNat + 3)) (pc' := 38) d12_37 f149 (by omega) (by omega) f14 rfl
  have A154 := A153.iinc (v := (3 : Int32)) (z := (4 : Int32)) (Ls' := #[.val (.ref a), .val (.long v), .second, .val (.int (4 : Int32))]) (pc' := 41) d12_38 rfl (by decide) rfl rfl
  have A155 := A154.goto (pc' := 8) d12_41 (by decide) (by decide)
  have A156 := A155.iloadN (v := (4 : Int32)) (pc' := 9) d12_8 rfl rfl
  have A157 := A156.bipush (z := (8 : Int32)) (pc' := 11) d12_9 rfl rfl
  have A159 := A157.icmpNo (pc' := 14) d12_11 (tlt (ilt (x := (4 : Int32)) (y := (8 : Int32)) rfl rfl (by decide : (4 : Int) < 8))).2.1 rfl
  have A160 := A159.aloadN (v := (.ref a)) (pc' := 15) d12_14 rfl rfl rfl
  have f162 := ((f127.other w139 (Or.inr (slot_ne (Or.inl (hw _ (List.mem_of_getElem? (i := 11) rfl))) (Or.inl (hw _ (List.mem_of_getElem? (i := 23) rfl))) (by decide) (t := (.array .byte)) (t' := .int) (by decide) (by decide)))).other w151 (Or.inl f15))
  have A161 := A160.getF (pc' := 18) (host := "") d12_15 (Or.inl (hw _ (List.mem_of_getElem? (i := 10) rfl))) Via.refl f162 rfl
  have A163 := A161.aloadN (v := (.ref a)) (pc' := 19) d12_18 rfl rfl rfl
  have A164 := A163.dup (pc' := 20) d12_19 rfl rfl
  have f166 := (f140.other w151 (Or.inl f15))
  have A165 := A164.getF (pc' := 23) (host := "") d12_20 (Or.inl (hw _ (List.mem_of_getElem? (i := 22) rfl))) Via.refl f166 rfl
  have A167 := A165.dupX1 (pc' := 24) d12_23 rfl rfl rfl
  have A168 := A167.iconst (z := (1 : Int32)) (pc' := 25) d12_24 rfl rfl
  have A169 := A168.iadd (pc' := 26) d12_25 rfl
  obtain ⟨sv5, e_sv5⟩ : ∃ z : Int32, z = (sv4 + (1 : Int32)) := ⟨_, rfl⟩
  have A170 := A169.topI (z := sv5) e_sv5.symm
  have k_sv5 : sv5.toInt = sz.toInt + 5 := by rw [e_sv5]; have := addc32 sv4 (1 : Int32) 1 rfl (by omega) (by omega); omega
  have f171 := ((f136.wr w139).wr w151)
  obtain ⟨h173, w174, A172⟩ := A170.putF (pc' := 29) (ty := .int) (host := "") d12_26 (Or.inl (hw _ (List.mem_of_getElem? (i := 22) rfl))) Via.refl f166 f171 (Or.inl (hw _ (List.mem_of_getElem? (i := 23) rfl))) (hw _ (List.mem_of_getElem? (i := 1) rfl)) (by decide) rfl rfl e1 rfl
  have f175 := f166.same w174
  have A176 := A172.lloadN (v := v) (pc' := 30) d12_29 rfl rfl
  have A177 := A176.bipush (z := (8 : Int32)) (pc' := 32) d12_30 rfl rfl
  have A178 := A177.iloadN (v := (4 : Int32)) (pc' := 33) d12_32 rfl rfl
  have A179 := A178.imul (pc' := 34) d12_33 rfl
  have A180 := A179.topI (z := (32 : Int32)) (by decide)
  have A181 := A180.lushr (pc' := 35) d12_34 rfl
  have A182 := A181.l2i (pc' := 36) d12_35 rfl
  have A183 := A182.i2b (pc' := 37) d12_36 rfl
  have f184 := (X152.other w174 (Ne.symm f15))
  obtain ⟨h185, w186, X187, A188⟩ := A183.bastore (i := (sz.toInt.toNat + 4)) (pc' := 38) d12_37 f184 (by omega) (by omega) f14 rfl
  have A189 := A188.iinc (v := (4 : Int32)) (z := (5 : Int32)) (Ls' := #[.val (.ref a), .val (.long v), .second, .val (.int (5 : Int32))]) (pc' := 41) d12_38 rfl (by decide) rfl rfl
  have A190 := A189.goto (pc' := 8) d12_41 (by decide) (by decide)
  have A191 := A190.iloadN (v := (5 : Int32)) (pc' := 9) d12_8 rfl rfl
  have A192 := A191.bipush (z := (8 : Int32)) (pc' := 11) d12_9 rfl rfl
  have A194 := A192.icmpNo (pc' := 14) d12_11 (tlt (ilt (x := (5 : Int32)) (y := (8 : Int32)) rfl rfl (by decide : (5 : Int) < 8))).2.1 rfl
  have A195 := A194.aloadN (v := (.ref a)) (pc' := 15) d12_14 rfl rfl rfl
  have f197 := ((f162.other w174 (Or.inr (slot_ne (Or.inl (hw _ (List.mem_of_getElem? (i := 11) rfl))) (Or.inl (hw _ (List.mem_of_getElem? (i := 23) rfl))) (by decide) (t := (.array .byte)) (t' := .int) (by decide) (by decide)))).other w186 (Or.inl f15))
  have A196 := A195.getF (pc' := 18) (host := "") d12_15 (Or.inl (hw _ (List.mem_of_getElem? (i := 10) rfl))) Via.refl f197 rfl
  have A198 := A196.aloadN (v := (.ref a)) (pc' := 19) d12_18 rfl rfl rfl
  have A199 := A198.dup (pc' := 20) d12_19 rfl rfl
  have f201 := (f175.other w186 (Or.inl f15))
  have A200 := A199.getF (pc' := 23) (host := "") d12_20 (Or.inl (hw _ (List.mem_of_getElem? (i := 22) rfl))) Via.refl f201 rfl
  have A202 := A200.dupX1 (pc' := 24) d12_23 rfl rfl rfl
  have A203 := A202.iconst (z := (1 : Int32)) (pc' := 25) d12_24 rfl rfl
  have A204 := A203.iadd (pc' := 26) d12_25 rfl
  obtain ⟨sv6, e_sv6⟩ : ∃ z : Int32, z = (sv5 + (1 : Int32)) := ⟨_, rfl⟩
  have A205 := A204.topI (z := sv6) e_sv6.symm
  have k_sv6 : sv6.toInt = sz.toInt + 6 := by rw [e_sv6]; have := addc32 sv5 (1 : Int32) 1 rfl (by omega) (by omega); omega
  have f206 := ((f171.wr w174).wr w186)
  obtain ⟨h208, w209, A207⟩ := A205.putF (pc' := 29) (ty := .int) (host := "") d12_26 (Or.inl (hw _ (List.mem_of_getElem? (i := 22) rfl))) Via.refl f201 f206 (Or.inl (hw _ (List.mem_of_getElem? (i := 23) rfl))) (hw _ (List.mem_of_getElem? (i := 1) rfl)) (by decide) rfl rfl e1 rfl
  have f210 := f201.same w209
  have A211 := A207.lloadN (v := v) (pc' := 30) d12_29 rfl rfl
  have A212 := A211.bipush (z := (8 : Int32)) (pc' := 32) d12_30 rfl rfl
  have A213 := A212.iloadN (v := (5 : Int32)) (pc' := 33) d12_32 rfl rfl
  have A214 := A213.imul (pc' := 34) d12_33 rfl
  have A215 := A214.topI (z := (40 : Int32)) (by decide)
  have A216 := A215.lushr (pc' := 35) d12_34 rfl
  have A217 := A216.l2i (pc' := 36) d12_35 rfl
  have A218 := A217.i2b (pc' := 37) d12_36 rfl
  have f219 := (X187.other w209 (Ne.symm f15))
  obtain ⟨h220, w221, X222, A223⟩ := A218.bastore (i := (sz.toInt.toNat + 5)) (pc' := 38) d12_37 f219 (by omega) (by omega) f14 rfl
  have A224 := A223.iinc (v := (5 : Int32)) (z := (6 : Int32)) (Ls' := #[.val (.ref a), .val (.long v), .second, .val (.int (6 : Int32))]) (pc' := 41) d12_38 rfl (by decide) rfl rfl
  have A225 := A224.goto (pc' := 8) d12_41 (by decide) (by decide)
  have A226 := A225.iloadN (v := (6 : Int32)) (pc' := 9) d12_8 rfl rfl
  have A227 := A226.bipush (z := (8 : Int32)) (pc' := 11) d12_9 rfl rfl
  have A229 := A227.icmpNo (pc' := 14) d12_11 (tlt (ilt (x := (6 : Int32)) (y := (8 : Int32)) rfl rfl (by decide : (6 : Int) < 8))).2.1 rfl
  have A230 := A229.aloadN (v := (.ref a)) (pc' := 15) d12_14 rfl rfl rfl
  have f232 := ((f197.other w209 (Or.inr (slot_ne (Or.inl (hw _ (List.mem_of_getElem? (i := 11) rfl))) (Or.inl (hw _ (List.mem_of_getElem? (i := 23) rfl))) (by decide) (t := (.array .byte)) (t' := .int) (by decide) (by decide)))).other w221 (Or.inl f15))
  have A231 := A230.getF (pc' := 18) (host := "") d12_15 (Or.inl (hw _ (List.mem_of_getElem? (i := 10) rfl))) Via.refl f232 rfl
  have A233 := A231.aloadN (v := (.ref a)) (pc' := 19) d12_18 rfl rfl rfl
  have A234 := A233.dup (pc' := 20) d12_19 rfl rfl
  have f236 := (f210.other w221 (Or.inl f15))
  have A235 := A234.getF (pc' := 23) (host := "") d12_20 (Or.inl (hw _ (List.mem_of_getElem? (i := 22) rfl))) Via.refl f236 rfl
  have A237 := A235.dupX1 (pc' := 24) d12_23 rfl rfl rfl
  have A238 := A237.iconst (z := (1 : Int32)) (pc' := 25) d12_24 rfl rfl
  have A239 := A238.iadd (pc' := 26) d12_25 rfl
  obtain ⟨sv7, e_sv7⟩ : ∃ z : Int32, z = (sv6 + (1 : Int32)) := ⟨_, rfl⟩
  have A240 := A239.topI (z := sv7) e_sv7.symm
  have k_sv7 : sv7.toInt = sz.toInt + 7 := by rw [e_sv7]; have := addc32 sv6 (1 : Int32) 1 rfl (by omega) (by omega); omega
  have f241 := ((f206.wr w209).wr w221)
  obtain ⟨h243, w244, A242⟩ := A240.putF (pc' := 29) (ty := .int) (host := "") d12_26 (Or.inl (hw _ (List.mem_of_getElem? (i := 22) rfl))) Via.refl f236 f241 (Or.inl (hw _ (List.mem_of_getElem? (i := 23) rfl))) (hw _ (List.mem_of_getElem? (i := 1) rfl)) (by decide) rfl rfl e1 rfl
  have f245 := f236.same w244
  have A246 := A242.lloadN (v := v) (pc' := 30) d12_29 rfl rfl
  have A247 := A246.bipush (z := (8 : Int32)) (pc' := 32) d12_30 rfl rfl
  have A248 := A247.iloadN (v := (6 : Int32)) (pc' := 33) d12_32 rfl rfl
  have A249 := A248.imul (pc' := 34) d12_33 rfl
  have A250 := A249.topI (z := (48 : Int32)) (by decide)
  have A251 := A250.lushr (pc' := 35) d12_34 rfl
  have A252 := A251.l2i (pc' := 36) d12_35 rfl
  have A253 := A252.i2b (pc' := 37) d12_36 rfl
  have f254 := (X222.other w244 (Ne.symm f15))
  obtain ⟨h255, w256, X257, A258⟩ := A253.bastore (i := (sz.toInt.toNat + 6)) (pc' := 38) d12_37 f254 (by omega) (by omega) f14 rfl
  have A259 := A258.iinc (v := (6 : Int32)) (z := (7 : Int32)) (Ls' := #[.val (.ref a), .val (.long v), .second, .val (.int (7 : Int32))]) (pc' := 41) d12_38 rfl (by decide) rfl rfl
  have A260 := A259.goto (pc' := 8) d12_41 (by decide) (by decide)
  have A261 := A260.iloadN (v := (7 : Int32)) (pc' := 9) d12_8 rfl rfl
  have A262 := A261.bipush (z := (8 : Int32)) (pc' := 11) d12_9 rfl rfl
  have A264 := A262.icmpNo (pc' := 14) d12_11 (tlt (ilt (x := (7 : Int32)) (y := (8 : Int32)) rfl rfl (by decide : (7 : Int) < 8))).2.1 rfl
  have A265 := A264.aloadN (v := (.ref a)) (pc' := 15) d12_14 rfl rfl rfl
  have f267 := ((f232.other w244 (Or.inr (slot_ne (Or.inl (hw _ (List.mem_of_getElem? (i := 11) rfl))) (Or.inl (hw _ (List.mem_of_getElem? (i := 23) rfl))) (by decide) (t := (.array .byte)) (t' := .int) (by decide) (by decide)))).other w256 (Or.inl f15))
  have A266 := A265.getF (pc' := 18) (host := "") d12_15 (Or.inl (hw _ (List.mem_of_getElem? (i := 10) rfl))) Via.refl f267 rfl
  have A268 := A266.aloadN (v := (.ref a)) (pc' := 19) d12_18 rfl rfl rfl
  have A269 := A268.dup (pc' := 20) d12_19 rfl rfl
  have f271 := (f245.other w256 (Or.inl f15))
  have A270 := A269.getF (pc' := 23) (host := "") d12_20 (Or.inl (hw _ (List.mem_of_getElem? (i := 22) rfl))) Via.refl f271 rfl
  have A272 := A270.dupX1 (pc' := 24) d12_23 rfl rfl rfl
  have A273 := A272.iconst (z := (1 : Int32)) (pc' := 25) d12_24 rfl rfl
  have A274 := A273.iadd (pc' := 26) d12_25 rfl
  obtain ⟨sv8, e_sv8⟩ : ∃ z : Int32, z = (sv7 + (1 : Int32)) := ⟨_, rfl⟩
  have A275 := A274.topI (z := sv8) e_sv8.symm
  have k_sv8 : sv8.toInt = sz.toInt + 8 := by rw [e_sv8]; have := addc32 sv7 (1 : Int32) 1 rfl (by omega) (by omega); omega
  have f276 := ((f241.wr w244).wr w256)
  obtain ⟨h278, w279, A277⟩ := A275.putF (pc' := 29) (ty := .int) (host := "") d12_26 (Or.inl (hw _ (List.mem_of_getElem? (i := 22) rfl))) Via.refl f271 f276 (Or.inl (hw _ (List.mem_of_getElem? (i := 23) rfl))) (hw _ (List.mem_of_getElem? (i := 1) rfl)) (by decide) rfl rfl e1 rfl
  have f280 := f271.same w279
  have A281 := A277.lloadN (v := v) (pc' := 30) d12_29 rfl rfl
  have A282 := A281.bipush (z := (8 : Int32)) (pc' := 32) d12_30 rfl rfl
  have A283 := A282.iloadN (v := (7 : Int32)) (pc' := 33) d12_32 rfl rfl
  have A284 := A283.imul (pc' := 34) d12_33 rfl
  have A285 := A284.topI (z := (56 : Int32)) (by decide)
  have A286 := A285.lushr (pc' := 35) d12_34 rfl
  have A287 := A286.l2i (pc' := 36) d12_35 rfl
  have A288 := A287.i2b (pc' := 37) d12_36 rfl
  have f289 := (X257.other w279 (Ne.symm f15))
  obtain ⟨h290, w291, X292, A293⟩ := A288.bastore (i := (sz.toInt.toNat + 7)) (pc' := 38) d12_37 f289 (by omega) (by omega) f14 rfl
  have A294 := A293.iinc (v := (7 : Int32)) (z := (8 : Int32)) (Ls' := #[.val (.ref a), .val (.long v), .second, .val (.int (8 : Int32))]) (pc' := 41) d12_38 rfl (by decide) rfl rfl
  have A295 := A294.goto (pc' := 8) d12_41 (by decide) (by decide)
  have A296 := A295.iloadN (v := (8 : Int32)) (pc' := 9) d12_8 rfl rfl
  have A297 := A296.bipush (z := (8 : Int32)) (pc' := 11) d12_9 rfl rfl
  have A299 := A297.icmpYes (pc' := 44) d12_11 (flt (inlt (x := (8 : Int32)) (y := (8 : Int32)) rfl rfl (by decide : ¬ ((8 : Int) < 8)))).2.1 (by decide) (by decide)
  have A300 := A299.aloadN (v := (.ref a)) (pc' := 45) d12_44 rfl rfl rfl
  have K301 : Keep h0 h290 [a, u] := ((((((((((((((((((Keep.refl h0 [a, u]).trans K7 (allS (Or.inl (List.mem_of_getElem? (i := 0) rfl)) all0)).wr w34 (Or.inl (List.mem_of_getElem? (i := 0) rfl))).wr w46 (hor.imp (fun e => by rw [e]; exact List.mem_of_getElem? (i := 1) rfl) id)).wr w69 (Or.inl (List.mem_of_getElem? (i := 0) rfl))).wr w81 (hor.imp (fun e => by rw [e]; exact List.mem_of_getElem? (i := 1) rfl) id)).wr w104 (Or.inl (List.mem_of_getElem? (i := 0) rfl))).wr w116 (hor.imp (fun e => by rw [e]; exact List.mem_of_getElem? (i := 1) rfl) id)).wr w139 (Or.inl (List.mem_of_getElem? (i := 0) rfl))).wr w151 (hor.imp (fun e => by rw [e]; exact List.mem_of_getElem? (i := 1) rfl) id)).wr w174 (Or.inl (List.mem_of_getElem? (i := 0) rfl))).wr w186 (hor.imp (fun e => by rw [e]; exact List.mem_of_getElem? (i := 1) rfl) id)).wr w209 (Or.inl (List.mem_of_getElem? (i := 0) rfl))).wr w221 (hor.imp (fun e => by rw [e]; exact List.mem_of_getElem? (i := 1) rfl) id)).wr w244 (Or.inl (List.mem_of_getElem? (i := 0) rfl))).wr w256 (hor.imp (fun e => by rw [e]; exact List.mem_of_getElem? (i := 1) rfl) id)).wr w279 (Or.inl (List.mem_of_getElem? (i := 0) rfl))).wr w291 (hor.imp (fun e => by rw [e]; exact List.mem_of_getElem? (i := 1) rfl) id))
  have f302 := ((f267.other w279 (Or.inr (slot_ne (Or.inl (hw _ (List.mem_of_getElem? (i := 11) rfl))) (Or.inl (hw _ (List.mem_of_getElem? (i := 23) rfl))) (by decide) (t := (.array .byte)) (t' := .int) (by decide) (by decide)))).other w291 (Or.inl f15))
  have f303 := (f280.other w291 (Or.inl f15))
  refine A300.retA d12_45 (by decide) (by decide) rfl rfl rfl ⟨_, rfl, ⟨u8, u9, (upd (upd (upd (upd (upd (upd (upd (upd u10 (sz.toInt.toNat + 0) (.int (((v.toUInt64 >>> ((0 : Int32) &&& 0x3f).toInt64.toUInt64).toInt64).toInt32.toInt8.toInt32).toInt8.toInt32)) (sz.toInt.toNat + 1) (.int (((v.toUInt64 >>> ((8 : Int32) &&& 0x3f).toInt64.toUInt64).toInt64).toInt32.toInt8.toInt32).toInt8.toInt32)) (sz.toInt.toNat + 2) (.int (((v.toUInt64 >>> ((16 : Int32) &&& 0x3f).toInt64.toUInt64).toInt64).toInt32.toInt8.toInt32).toInt8.toInt32)) (sz.toInt.toNat + 3) (.int (((v.toUInt64 >>> ((24 : Int32) &&& 0x3f).toInt64.toUInt64).toInt64).toInt32.toInt8.toInt32).toInt8.toInt32)) (sz.toInt.toNat + 4) (.int (((v.toUInt64 >>> ((32 : Int32) &&& 0x3f).toInt64.toUInt64).toInt64).toInt32.toInt8.toInt32).toInt8.toInt32)) (sz.toInt.toNat + 5) (.int (((v.toUInt64 >>> ((40 : Int32) &&& 0x3f).toInt64.toUInt64).toInt64).toInt32.toInt8.toInt32).toInt8.toInt32)) (sz.toInt.toNat + 6) (.int (((v.toUInt64 >>> ((48 : Int32) &&& 0x3f).toInt64.toUInt64).toInt64).toInt32.toInt8.toInt32).toInt8.toInt32)) (sz.toInt.toNat + 7) (.int (((v.toUInt64 >>> ((56 : Int32) &&& 0x3f).toInt64.toUInt64).toInt64).toInt32.toInt8.toInt32).toInt8.toInt32)), sv8, K301, f302, f303, X292, f14, f15, ?_⟩⟩
  refine ⟨rfl, hor, k_sv8, by omega, by omega, fun j hj => ?_, ?_, ?_, ?_, ?_, ?_, ?_, ?_, ?_⟩
  · have hj' : j < sz.toInt.toNat := by omega
    simp only [own_un hj']
    exact hkeep j hj
  all_goals (simp only [own_uh, own_us]; exact congrArg Value.int (own_bb _))
theorem pn9 : plainFor (⟨"com/example/riddle0/riddle0/ByteSink", "toByteArray", "()[B"⟩ : MethodName) = true := by first | exact plainFor_of_name (by first | (simp [plainName, overriddenIn]; done) | decide +kernel) | exact Jvm.Free.JP.mathPlain rfl (by decide +kernel) | decide +kernel
theorem d9_0 : decode prog_2_method_6_code 0 = .ok (.aload_n 0, 1) := by decide +kernel
theorem d9_1 : decode prog_2_method_6_code 1 = .ok (.getfield 19, 3) := by decide +kernel
theorem d9_4 : decode prog_2_method_6_code 4 = .ok (.aload_n 0, 1) := by decide +kernel
theorem d9_5 : decode prog_2_method_6_code 5 = .ok (.getfield 9, 3) := by decide +kernel
theorem d9_8 : decode prog_2_method_6_code 8 = .ok (.arraylength, 1) := by decide +kernel
theorem d9_9 : decode prog_2_method_6_code 9 = .ok (.if_icmp .ne 10, 3) := by decide +kernel
theorem d9_12 : decode prog_2_method_6_code 12 = .ok (.aload_n 0, 1) := by decide +kernel
theorem d9_13 : decode prog_2_method_6_code 13 = .ok (.getfield 9, 3) := by decide +kernel
theorem d9_16 : decode prog_2_method_6_code 16 = .ok (.goto 14, 3) := by decide +kernel
theorem d9_19 : decode prog_2_method_6_code 19 = .ok (.aload_n 0, 1) := by decide +kernel
theorem d9_20 : decode prog_2_method_6_code 20 = .ok (.getfield 9, 3) := by decide +kernel
theorem d9_23 : decode prog_2_method_6_code 23 = .ok (.aload_n 0, 1) := by decide +kernel
theorem d9_24 : decode prog_2_method_6_code 24 = .ok (.getfield 19, 3) := by decide +kernel
theorem d9_27 : decode prog_2_method_6_code 27 = .ok (.invokestatic 47, 3) := by decide +kernel
theorem d9_30 : decode prog_2_method_6_code 30 = .ok (.areturn, 1) := by decide +kernel
abbrev y9 : MethodName := (⟨"com/example/riddle0/riddle0/ByteSink", "toByteArray", "()[B"⟩ : MethodName)
abbrev R9 : Room := { frames := 2, cells := 1, slots := 14, locals := 32 }
set_option maxRecDepth 65536 in
set_option maxHeartbeats 4000000 in
theorem ef9 (a : Addr) (mid : MethodId) : entryFrame mid #[(.ref a)] 1 = mkF mid 0 #[.val (.ref a)] [] := by first | (simp [entryFrame, mkF, argsToLocals, Value.category]; done) | rfl
set_option maxRecDepth 65536 in
set_option maxHeartbeats 40000000 in
theorem rm9 (l : Launch) (Z : State) (a0 : Array Value) (hw : ∀ d ∈ tables_1, d.before a0 Z = true) (n0 : Nat) (ws : List Jvm.Cond) (a : Addr) (u : Addr) (N : Nat) (f : Nat → Value) (sz : Int32) (h0 : Heap) (hn0 : n0 ≤ h0.size) (e0 : Fld Z h0 a "com/example/riddle0/riddle0/ByteSink" "bytes" "[B" (.ref u)) (e1 : Fld Z h0 a "com/example/riddle0/riddle0/ByteSink" "size" "I" (.int sz)) (e2 : Ars Z h0 u .byte N f) (e3 : 0 ≤ sz.toInt ∧ sz.toInt ≤ N ∧ N ≤ 14) :
    Ctr l Z n0 y9 prog_2_method_6_code 1 (some (.array .byte)) ws R9 #[(.ref a)] h0 (QA fun r h => ∃ N3 : Nat, ∃ f3 : Nat → Value, (Keep h0 h []) ∧ (Ars Z h r .byte N3 f3) ∧ ((N3 : Int) = sz.toInt ∧ (∀ j : Nat, (j : Int) < sz.toInt → f3 j = f j))) := by
  refine ctr_of pn9 hn0 (ef9 a) fun G A0 => ?_
  have tN : (Int32.ofNat N).toInt = N := Int32.toInt_ofNat_of_lt (by omega)
  have A1 := A0.aloadN (v := (.ref a)) (pc' := 1) d9_0 rfl rfl rfl
  have A2 := A1.getF (pc' := 4) (host := "") d9_1 (Or.inl (hw _ (List.mem_of_getElem? (i := 22) rfl))) Via.refl e1 rfl
  have A3 := A2.aloadN (v := (.ref a)) (pc' := 5) d9_4 rfl rfl rfl
  have A4 := A3.getF (pc' := 8) (host := "") d9_5 (Or.inl (hw _ (List.mem_of_getElem? (i := 10) rfl))) Via.refl e0 rfl
  have A5 := A4.alen (z := (Int32.ofNat N)) (pc' := 9) d9_8 e2 (Int32.toInt_ofNat_small e2.size) rfl
  by_cases c6 : sz.toInt = (Int32.ofNat N).toInt
  · have A7 := A5.icmpNo (pc' := 12) d9_9 (teq (ieq (x := sz) (y := (Int32.ofNat N)) rfl rfl c6)).2 rfl
    have A8 := A7.aloadN (v := (.ref a)) (pc' := 13) d9_12 rfl rfl rfl
    have A9 := A8.getF (pc' := 16) (host := "") d9_13 (Or.inl (hw _ (List.mem_of_getElem? (i := 10) rfl))) Via.refl e0 rfl
    have A10 := A9.goto (pc' := 30) d9_16 (by decide) (by decide)
    have K11 : Keep h0 h0 [] := (Keep.refl h0 [])
    refine A10.retA d9_30 (by decide) (by decide) rfl rfl rfl ⟨_, rfl, ⟨N, f, K11, e2, ?_⟩⟩
    exact ⟨by omega, fun j hj => rfl⟩
  · have A12 := A5.icmpYes (pc' := 19) d9_9 (feq (ine (x := sz) (y := (Int32.ofNat N)) rfl rfl c6)).2 (by decide) (by decide)
    have A13 := A12.aloadN (v := (.ref a)) (pc' := 20) d9_19 rfl rfl rfl
    have A14 := A13.getF (pc' := 23) (host := "") d9_20 (Or.inl (hw _ (List.mem_of_getElem? (i := 10) rfl))) Via.refl e0 rfl
    have A15 := A14.aloadN (v := (.ref a)) (pc' := 24) d9_23 rfl rfl rfl
    have A16 := A15.getF (pc' := 27) (host := "") d9_24 (Or.inl (hw _ (List.mem_of_getElem? (i := 22) rfl))) Via.refl e1 rfl
    obtain ⟨r18, h20, ⟨K21, g22, z23, f24, q19⟩, A17⟩ := W.kA (A16.callS (argsL := [(.ref u), (.int sz)]) (rest := []) (C' := 1) (S' := 14) (pc' := 30) d9_27 (hw _ (List.mem_of_getElem? (i := 33) rfl)) (hw _ (List.mem_of_getElem? (i := 34) rfl)) (hw _ (List.mem_of_getElem? (i := 35) rfl)) (hw _ (List.mem_of_getElem? (i := 36) rfl)) (rm7 l Z a0 hw n0 [] (u) (sz) (N) (f) h0 A16.size e2 (by omega)) rfl rfl pd_2 rfl rfl (by decide) (by decide) (Nat.le_of_ble_eq_true rfl) (by decide) (by decide) rfl rfl rfl)
    have ne25 : a ≠ r18 := Nat.ne_of_lt (Nat.lt_of_lt_of_le e0.lt z23)
    have ne26 : u ≠ r18 := Nat.ne_of_lt (Nat.lt_of_lt_of_le e2.lt z23)
    have K27 : Keep h0 h20 [] := ((Keep.refl h0 []).trans K21 all0)
    refine A17.retA d9_30 (by decide) (by decide) rfl rfl rfl ⟨_, rfl, ⟨sz.toInt.toNat, (fun j => if j < N then f j else (.int (0 : Int32))), K27, f24, ?_⟩⟩
    exact ⟨by omega, fun j hj => if_pos (by omega)⟩
def own_ex (k : Int32) (count : Int32) (b0 : Int32) (b1 : Int32) (b2 : Int32) (v : Int64) : Int32 := if k.toInt < count.toInt then (if k.toInt = 0 then b0.toInt8.toInt32 else (if k.toInt = 1 then b1.toInt8.toInt32 else b2.toInt8.toInt32)) else (((v.toUInt64 >>> (((8 : Int32) * (k - count)) &&& 0x3f).toInt64.toUInt64).toInt64).toInt32.toInt8.toInt32)
theorem pn11 : plainFor (⟨"com/example/riddle0/riddle0/ByteSinkToByteArrayPinLaw", "expected", "(IIIIIJ)B"⟩ : MethodName) = true := by first | exact plainFor_of_name (by first | (simp [plainName, overriddenIn]; done) | decide +kernel) | exact Jvm.Free.JP.mathPlain rfl (by decide +kernel) | decide +kernel
theorem d11_0 : decode method_3_code 0 = .ok (.iload_n 0, 1) := by decide +kernel
theorem d11_1 : decode method_3_code 1 = .ok (.iload_n 1, 1) := by decide +kernel
theorem d11_2 : decode method_3_code 2 = .ok (.if_icmp .ge 22, 3) := by decide +kernel
theorem d11_5 : decode method_3_code 5 = .ok (.iload_n 0, 1) := by decide +kernel
theorem d11_6 : decode method_3_code 6 = .ok (.ifCond .ne 6, 3) := by decide +kernel
theorem d11_9 : decode method_3_code 9 = .ok (.iload_n 2, 1) := by decide +kernel
theorem d11_10 : decode method_3_code 10 = .ok (.i2b, 1) := by decide +kernel
theorem d11_11 : decode method_3_code 11 = .ok (.ireturn, 1) := by decide +kernel
theorem d11_12 : decode method_3_code 12 = .ok (.iload_n 0, 1) := by decide +kernel
theorem d11_13 : decode method_3_code 13 = .ok (.iconst 1, 1) := by decide +kernel
theorem d11_14 : decode method_3_code 14 = .ok (.if_icmp .ne 6, 3) := by decide +kernel
theorem d11_17 : decode method_3_code 17 = .ok (.iload_n 3, 1) := by decide +kernel
theorem d11_18 : decode method_3_code 18 = .ok (.i2b, 1) := by decide +kernel
theorem d11_19 : decode method_3_code 19 = .ok (.ireturn, 1) := by decide +kernel
theorem d11_20 : decode method_3_code 20 = .ok (.iload 4, 2) := by decide +kernel
theorem d11_22 : decode method_3_code 22 = .ok (.i2b, 1) := by decide +kernel
theorem d11_23 : decode method_3_code 23 = .ok (.ireturn, 1) := by decide +kernel
theorem d11_24 : decode method_3_code 24 = .ok (.iload_n 0, 1) := by decide +kernel
theorem d11_25 : decode method_3_code 25 = .ok (.iload_n 1, 1) := by decide +kernel
theorem d11_26 : decode method_3_code 26 = .ok (.isub, 1) := by decide +kernel
theorem d11_27 : decode method_3_code 27 = .ok (.istore 7, 2) := by decide +kernel
theorem d11_29 : decode method_3_code 29 = .ok (.lload 5, 2) := by decide +kernel
theorem d11_31 : decode method_3_code 31 = .ok (.bipush 8, 2) := by decide +kernel
theorem d11_33 : decode method_3_code 33 = .ok (.iload 7, 2) := by decide +kernel
theorem d11_35 : decode method_3_code 35 = .ok (.imul, 1) := by decide +kernel
theorem d11_36 : decode method_3_code 36 = .ok (.lushr, 1) := by decide +kernel
theorem d11_37 : decode method_3_code 37 = .ok (.l2i, 1) := by decide +kernel
theorem d11_38 : decode method_3_code 38 = .ok (.i2b, 1) := by decide +kernel
theorem d11_39 : decode method_3_code 39 = .ok (.ireturn, 1) := by decide +kernel
abbrev y11 : MethodName := (⟨"com/example/riddle0/riddle0/ByteSinkToByteArrayPinLaw", "expected", "(IIIIIJ)B"⟩ : MethodName)
abbrev R11 : Room := { frames := 0, cells := 0, slots := 0, locals := 0 }
set_option maxRecDepth 65536 in
set_option maxHeartbeats 4000000 in
theorem ef11 (k : Int32) (count : Int32) (b0 : Int32) (b1 : Int32) (b2 : Int32) (v : Int64) (mid : MethodId) : entryFrame mid #[(.int k), (.int count), (.int b0), (.int b1), (.int b2), (.long v)] 8 = mkF mid 0 #[.val (.int k), .val (.int count), .val (.int b0), .val (.int b1), .val (.int b2), .val (.long v), .second, .unset] [] := by first | (simp [entryFrame, mkF, argsToLocals, Value.category]; done) | rfl
set_option maxRecDepth 65536 in
set_option maxHeartbeats 40000000 in
theorem rm11 (l : Launch) (Z : State) (a0 : Array Value) (hw : ∀ d ∈ tables_1, d.before a0 Z = true) (n0 : Nat) (ws : List Jvm.Cond) (k : Int32) (count : Int32) (b0 : Int32) (b1 : Int32) (b2 : Int32) (v : Int64)  (h0 : Heap) (hn0 : n0 ≤ h0.size)  :
    Ctr l Z n0 y11 method_3_code 8 (some .byte) ws R11 #[(.int k), (.int count), (.int b0), (.int b1), (.int b2), (.long v)] h0 (QI fun r h => (h0 = h) ∧ (r = (own_ex k count b0 b1 b2 v))) := by
  refine ctr_of pn11 hn0 (ef11 k count b0 b1 b2 v) fun G A0 => ?_
  have A1 := A0.iloadN (v := k) (pc' := 1) d11_0 rfl rfl
  have A2 := A1.iloadN (v := count) (pc' := 2) d11_1 rfl rfl
  by_cases c3 : k.toInt < count.toInt
  · have A4 := A2.icmpNo (pc' := 5) d11_2 (tlt (ilt (x := k) (y := count) rfl rfl c3)).2.1 rfl
    have A5 := A4.iloadN (v := k) (pc' := 6) d11_5 rfl rfl
    by_cases c6 : k.toInt = 0
    · have A7 := A5.ifNo (pc' := 9) d11_6 (teq (ieq (x := k) (y := (0 : Int32)) rfl rfl c6)).2 rfl
      have A8 := A7.iloadN (v := b0) (pc' := 10) d11_9 rfl rfl
      have A9 := A8.i2b (pc' := 11) d11_10 rfl
      refine A9.retN (t := .byte) (z' := b0.toInt8.toInt32) d11_11 (by decide) (by decide) (by simp) (by exact own_nb _) ⟨_, rfl, ⟨rfl, ?_⟩⟩
      rw [own_ex, if_pos c3, if_pos c6]
    · have A10 := A5.ifYes (pc' := 12) d11_6 (feq (ine (x := k) (y := (0 : Int32)) rfl rfl c6)).2 (by decide) (by decide)
      have A11 := A10.iloadN (v := k) (pc' := 13) d11_12 rfl rfl
      have A12 := A11.iconst (z := (1 : Int32)) (pc' := 14) d11_13 rfl rfl
      by_cases c13 : k.toInt = 1
      · have A14 := A12.icmpNo (pc' := 17) d11_14 (teq (ieq (x := k) (y := (1 : Int32)) rfl rfl c13)).2 rfl
        have A15 := A14.iloadN (v := b1) (pc' := 18) d11_17 rfl rfl
        have A16 := A15.i2b (pc' := 19) d11_18 rfl
        refine A16.retN (t := .byte) (z' := b1.toInt8.toInt32) d11_19 (by decide) (by decide) (by simp) (by exact own_nb _) ⟨_, rfl, ⟨rfl, ?_⟩⟩
        rw [own_ex, if_pos c3, if_neg c6, if_pos c13]
      · have A17 := A12.icmpYes (pc' := 20) d11_14 (feq (ine (x := k) (y := (1 : Int32)) rfl rfl c13)).2 (by decide) (by decide)
        have A18 := A17.iload (v := b2) (pc' := 22) d11_20 rfl rfl
        have A19 := A18.i2b (pc' := 23) d11_22 rfl
        refine A19.retN (t := .byte) (z' := b2.toInt8.toInt32) d11_23 (by decide) (by decide) (by simp) (by exact own_nb _) ⟨_, rfl, ⟨rfl, ?_⟩⟩
        rw [own_ex, if_pos c3, if_neg c6, if_neg c13]
  · have A20 := A2.icmpYes (pc' := 24) d11_2 (flt (inlt (x := k) (y := count) rfl rfl c3)).2.1 (by decide) (by decide)
    have A21 := A20.iloadN (v := k) (pc' := 25) d11_24 rfl rfl
    have A22 := A21.iloadN (v := count) (pc' := 26) d11_25 rfl rfl
    have A23 := A22.isub (pc' := 27) d11_26 rfl
    have A24 := A23.istore (Ls' := #[.val (.int k), .val (.int count), .val (.int b0), .val (.int b1), .val (.int b2), .val (.long v), .second, .val (.int (k - count))]) (pc' := 29) d11_27 rfl rfl
    have A25 := A24.lload (v := v) (pc' := 31) d11_29 rfl rfl
    have A26 := A25.bipush (z := (8 : Int32)) (pc' := 33) d11_31 rfl rfl
    have A27 := A26.iload (v := (k - count)) (pc' := 35) d11_33 rfl rfl
    have A28 := A27.imul (pc' := 36) d11_35 rfl
    have A29 := A28.lushr (pc' := 37) d11_36 rfl
    have A30 := A29.l2i (pc' := 38) d11_37 rfl
    have A31 := A30.i2b (pc' := 39) d11_38 rfl
    refine A31.retN (t := .byte) (z' := ((v.toUInt64 >>> (((8 : Int32) * (k - count)) &&& 0x3f).toInt64.toUInt64).toInt64).toInt32.toInt8.toInt32) d11_39 (by decide) (by decide) (by simp) (by exact own_nb _) ⟨_, rfl, ⟨rfl, ?_⟩⟩
    rw [own_ex, if_neg c3]
theorem pn10 : plainFor (⟨"com/example/riddle0/riddle0/ByteSinkToByteArrayPinLaw", "ok", "([BIIIIIJ)Z"⟩ : MethodName) = true := by first | exact plainFor_of_name (by first | (simp [plainName, overriddenIn]; done) | decide +kernel) | exact Jvm.Free.JP.mathPlain rfl (by decide +kernel) | decide +kernel
theorem d10_0 : decode method_4_code 0 = .ok (.iload_n 1, 1) := by decide +kernel
theorem d10_1 : decode method_4_code 1 = .ok (.aload_n 0, 1) := by decide +kernel
theorem d10_2 : decode method_4_code 2 = .ok (.arraylength, 1) := by decide +kernel
theorem d10_3 : decode method_4_code 3 = .ok (.if_icmp .ge 21, 3) := by decide +kernel
theorem d10_6 : decode method_4_code 6 = .ok (.aload_n 0, 1) := by decide +kernel
theorem d10_7 : decode method_4_code 7 = .ok (.iload_n 1, 1) := by decide +kernel
theorem d10_8 : decode method_4_code 8 = .ok (.baload, 1) := by decide +kernel
theorem d10_9 : decode method_4_code 9 = .ok (.iload_n 1, 1) := by decide +kernel
theorem d10_10 : decode method_4_code 10 = .ok (.iload_n 2, 1) := by decide +kernel
theorem d10_11 : decode method_4_code 11 = .ok (.iload_n 3, 1) := by decide +kernel
theorem d10_12 : decode method_4_code 12 = .ok (.iload 4, 2) := by decide +kernel
theorem d10_14 : decode method_4_code 14 = .ok (.iload 5, 2) := by decide +kernel
theorem d10_16 : decode method_4_code 16 = .ok (.lload 6, 2) := by decide +kernel
theorem d10_18 : decode method_4_code 18 = .ok (.invokestatic 30, 3) := by decide +kernel
theorem d10_21 : decode method_4_code 21 = .ok (.if_icmp .ne 7, 3) := by decide +kernel
theorem d10_24 : decode method_4_code 24 = .ok (.iconst 1, 1) := by decide +kernel
theorem d10_25 : decode method_4_code 25 = .ok (.goto 4, 3) := by decide +kernel
theorem d10_28 : decode method_4_code 28 = .ok (.iconst 0, 1) := by decide +kernel
theorem d10_29 : decode method_4_code 29 = .ok (.ireturn, 1) := by decide +kernel
abbrev y10 : MethodName := (⟨"com/example/riddle0/riddle0/ByteSinkToByteArrayPinLaw", "ok", "([BIIIIIJ)Z"⟩ : MethodName)
abbrev R10 : Room := { frames := 1, cells := 0, slots := 0, locals := 20 }
set_option maxRecDepth 65536 in
set_option maxHeartbeats 4000000 in
theorem ef10 (a : Addr) (k : Int32) (count : Int32) (b0 : Int32) (b1 : Int32) (b2 : Int32) (v : Int64) (mid : MethodId) : entryFrame mid #[(.ref a), (.int k), (.int count), (.int b0), (.int b1), (.int b2), (.long v)] 8 = mkF mid 0 #[.val (.ref a), .val (.int k), .val (.int count), .val (.int b0), .val (.int b1), .val (.int b2), .val (.long v), .second] [] := by first | (simp [entryFrame, mkF, argsToLocals, Value.category]; done) | rfl
set_option maxRecDepth 65536 in
set_option maxHeartbeats 40000000 in
theorem rm10 (l : Launch) (Z : State) (a0 : Array Value) (hw : ∀ d ∈ tables_1, d.before a0 Z = true) (n0 : Nat) (ws : List Jvm.Cond) (a : Addr) (k : Int32) (count : Int32) (b0 : Int32) (b1 : Int32) (b2 : Int32) (v : Int64) (N : Nat) (f : Nat → Value) (w : Int32) (h0 : Heap) (hn0 : n0 ≤ h0.size) (e0 : Ars Z h0 a .byte N f) (e1 : 0 ≤ k.toInt ∧ k.toInt ≤ 10 ∧ N ≤ 14) (e2 : k.toInt < N → f k.toInt.toNat = .int w) :
    Ctr l Z n0 y10 method_4_code 8 (some .boolean) ws R10 #[(.ref a), (.int k), (.int count), (.int b0), (.int b1), (.int b2), (.long v)] h0 (QI fun r h => (h0 = h) ∧ ((r.toInt = 1 ∧ ((N : Int) ≤ k.toInt ∨ w.toInt = (own_ex k count b0 b1 b2 v).toInt)) ∨ (r.toInt = 0 ∧ ¬ ((N : Int) ≤ k.toInt ∨ w.toInt = (own_ex k count b0 b1 b2 v).toInt)))) := by
  refine ctr_of pn10 hn0 (ef10 a k count b0 b1 b2 v) fun G A0 => ?_
  have tN : (Int32.ofNat N).toInt = N := Int32.toInt_ofNat_of_lt (by omega)
  have A1 := A0.iloadN (v := k) (pc' := 1) d10_0 rfl rfl
  have A2 := A1.aloadN (v := (.ref a)) (pc' := 2) d10_1 rfl rfl rfl
  have A3 := A2.alen (z := (Int32.ofNat N)) (pc' := 3) d10_2 e0 (Int32.toInt_ofNat_small e0.size) rfl
  by_cases c4 : k.toInt < (Int32.ofNat N).toInt
  · have A5 := A3.icmpNo (pc' := 6) d10_3 (tlt (ilt (x := k) (y := (Int32.ofNat N)) rfl rfl c4)).2.1 rfl
    have A6 := A5.aloadN (v := (.ref a)) (pc' := 7) d10_6 rfl rfl rfl
    have A7 := A6.iloadN (v := k) (pc' := 8) d10_7 rfl rfl
    have A8 := A7.baload (i := k.toInt.toNat) (v := (.int w)) (pc' := 9) d10_8 e0 (by omega) (by omega) (e2 (by omega)) rfl
    have A9 := A8.iloadN (v := k) (pc' := 10) d10_9 rfl rfl
    have A10 := A9.iloadN (v := count) (pc' := 11) d10_10 rfl rfl
    have A11 := A10.iloadN (v := b0) (pc' := 12) d10_11 rfl rfl
    have A12 := A11.iload (v := b1) (pc' := 14) d10_12 rfl rfl
    have A13 := A12.iload (v := b2) (pc' := 16) d10_14 rfl rfl
    have A14 := A13.lload (v := v) (pc' := 18) d10_16 rfl rfl
    obtain ⟨r16, _, ⟨rfl, q17⟩, A15⟩ := W.kI (A14.callS (argsL := [(.int k), (.int count), (.int b0), (.int b1), (.int b2), (.long v)]) (rest := [(.int w)]) (C' := 0) (S' := 0) (pc' := 21) d10_18 (hw _ (List.mem_of_getElem? (i := 53) rfl)) (hw _ (List.mem_of_getElem? (i := 54) rfl)) (hw _ (List.mem_of_getElem? (i := 51) rfl)) (hw _ (List.mem_of_getElem? (i := 55) rfl)) (rm11 l Z a0 hw n0 [] (k) (count) (b0) (b1) (b2) (v)  h0 A14.size ) rfl rfl pd_4 rfl rfl (by decide) (by decide) (Nat.le_of_ble_eq_true rfl) (by decide) (by decide) rfl rfl rfl)
    subst q17
    by_cases c19 : w.toInt = (own_ex k count b0 b1 b2 v).toInt
    · have A20 := A15.icmpNo (pc' := 24) d10_21 (teq (ieq (x := w) (y := (own_ex k count b0 b1 b2 v)) rfl rfl c19)).2 rfl
      have A21 := A20.iconst (z := (1 : Int32)) (pc' := 25) d10_24 rfl rfl
      have A22 := A21.goto (pc' := 29) d10_25 (by decide) (by decide)
      refine A22.retN (t := .boolean) (z' := (1 : Int32)) d10_29 (by decide) (by decide) (by simp) rfl ⟨_, rfl, ⟨rfl, ?_⟩⟩
      have elit : (1 : Int32).toInt = 1 := rfl
      omega
    · have A23 := A15.icmpYes (pc' := 28) d10_21 (feq (ine (x := w) (y := (own_ex k count b0 b1 b2 v)) rfl rfl c19)).2 (by decide) (by decide)
      have A24 := A23.iconst (z := (0 : Int32)) (pc' := 29) d10_28 rfl rfl
      refine A24.retN (t := .boolean) (z' := (0 : Int32)) d10_29 (by decide) (by decide) (by simp) rfl ⟨_, rfl, ⟨rfl, ?_⟩⟩
      have elit : (0 : Int32).toInt = 0 := rfl
      omega
  · have A25 := A3.icmpYes (pc' := 24) d10_3 (flt (inlt (x := k) (y := (Int32.ofNat N)) rfl rfl c4)).2.1 (by decide) (by decide)
    have A26 := A25.iconst (z := (1 : Int32)) (pc' := 25) d10_24 rfl rfl
    have A27 := A26.goto (pc' := 29) d10_25 (by decide) (by decide)
    refine A27.retN (t := .boolean) (z' := (1 : Int32)) d10_29 (by decide) (by decide) (by simp) rfl ⟨_, rfl, ⟨rfl, ?_⟩⟩
    have elit : (1 : Int32).toInt = 1 := rfl
    omega
theorem pn0 : plainFor x = true := plainFor_of_name (by first | (simp [plainName, overriddenIn, x]; done) | decide +kernel)
abbrev y0 : MethodName := x
abbrev R0 : Room := room_1
set_option maxRecDepth 65536 in
set_option maxHeartbeats 4000000 in
theorem ef0 (xc : Int32) (xn : Int32) (b0 : Int32) (b1 : Int32) (b2 : Int32) (v : Int64) (mid : MethodId) : entryFrame mid #[(.int xc), (.int xn), (.int b0), (.int b1), (.int b2), (.long v)] maxLocals = mkF mid 0 #[.val (.int xc), .val (.int xn), .val (.int b0), .val (.int b1), .val (.int b2), .val (.long v), .second, .unset, .unset, .unset, .unset, .unset, .unset] [] := by first | (simp [entryFrame, mkF, argsToLocals, Value.category, maxLocals]; done) | rfl
set_option maxRecDepth 65536 in
set_option maxHeartbeats 40000000 in
theorem rm0 (l : Launch) (Z : State) (a0 : Array Value) (hw : ∀ d ∈ tables_1, d.before a0 Z = true) (n0 : Nat) (ws : List Jvm.Cond) (xc : Int32) (xn : Int32) (b0 : Int32) (b1 : Int32) (b2 : Int32) (v : Int64)  (h0 : Heap) (hn0 : n0 ≤ h0.size)  :
    Ctr l Z n0 y0 code maxLocals ret ws R0 #[(.int xc), (.int xn), (.int b0), (.int b1), (.int b2), (.long v)] h0 (QI fun r h => (True) ∧ (r = 1)) := by
  refine ctr_of pn0 hn0 (ef0 xc xn b0 b1 b2 v) fun G A0 => ?_
  have A1 := A0.iloadN (v := xc) (pc' := 1) at_0 rfl rfl
  have A2 := A1.bipush (z := (7 : Int32)) (pc' := 3) at_1 rfl rfl
  have A3 := A2.iand (pc' := 4) at_3 rfl
  have A4 := A3.istore (Ls' := #[.val (.int xc), .val (.int xn), .val (.int b0), .val (.int b1), .val (.int b2), .val (.long v), .second, .val (.int (xc &&& (7 : Int32))), .unset, .unset, .unset, .unset, .unset]) (pc' := 6) at_4 rfl rfl
  obtain ⟨cp, e_cp⟩ : ∃ z : Int32, z = (xc &&& (7 : Int32)) := ⟨_, rfl⟩
  have A5 := A4.cast (Ls' := #[.val (.int xc), .val (.int xn), .val (.int b0), .val (.int b1), .val (.int b2), .val (.long v), .second, .val (.int cp), .unset, .unset, .unset, .unset, .unset]) rfl (by rw [e_cp]) rfl
  have kc : 0 ≤ cp.toInt ∧ cp.toInt ≤ 7 := by rw [e_cp]; exact own_m3 _
  have l0 : (0 : Int32).toInt = 0 := rfl
  have A6 := A5.iloadN (v := xn) (pc' := 7) at_6 rfl rfl
  have A7 := A6.iconst (z := (3 : Int32)) (pc' := 8) at_7 rfl rfl
  have A8 := A7.iand (pc' := 9) at_8 rfl
  have A9 := A8.istore (Ls' := #[.val (.int xc), .val (.int xn), .val (.int b0), .val (.int b1), .val (.int b2), .val (.long v), .second, .val (.int cp), .val (.int (xn &&& (3 : Int32))), .unset, .unset, .unset, .unset]) (pc' := 11) at_9 rfl rfl
  have A10 := A9.iloadN (v := xn) (pc' := 12) at_11 rfl rfl
  have A11 := A10.iconst (z := (2 : Int32)) (pc' := 13) at_12 rfl rfl
  have A12 := A11.iushr (pc' := 14) at_13 rfl
  have A13 := A12.iconst (z := (1 : Int32)) (pc' := 15) at_14 rfl rfl
  have A14 := A13.iand (pc' := 16) at_15 rfl
  by_cases c15 : (((xn.toUInt32 >>> ((2 : Int32) &&& 31).toUInt32).toInt32) &&& (1 : Int32)).toInt = 0
  · have A16 := A14.ifYes (pc' := 23) at_16 (teq (ieq (x := (((xn.toUInt32 >>> ((2 : Int32) &&& 31).toUInt32).toInt32) &&& (1 : Int32))) (y := (0 : Int32)) rfl rfl c15)).1 (by decide) (by decide)
    have A17 := A16.iconst (z := (0 : Int32)) (pc' := 24) at_23 rfl rfl
    have A18 := A17.istore (Ls' := #[.val (.int xc), .val (.int xn), .val (.int b0), .val (.int b1), .val (.int b2), .val (.long v), .second, .val (.int cp), .val (.int (xn &&& (3 : Int32))), .val (.int (0 : Int32)), .unset, .unset, .unset]) (pc' := 26) at_24 rfl rfl
    obtain ⟨h19, b20, eb21, g22, E23, X24, D25, A26⟩ := A18.newO (C' := 1) (S' := 2) (pc' := 29) at_26 (hw _ (List.mem_of_getElem? (i := 0) rfl)) (hw _ (List.mem_of_getElem? (i := 1) rfl)) (hw _ (List.mem_of_getElem? (i := 2) rfl)) (by decide) (by decide) rfl rfl rfl
    have f27 : Fld Z h19 b20 "com/example/riddle0/riddle0/ByteSink" "bytes" "[B" .null := D25 (Or.inl (hw _ (List.mem_of_getElem? (i := 11) rfl))) (ty := (.array .byte)) (by decide)
    have f28 : Fld Z h19 b20 "com/example/riddle0/riddle0/ByteSink" "size" "I" (.int (0 : Int32)) := D25 (Or.inl (hw _ (List.mem_of_getElem? (i := 23) rfl))) (ty := .int) (by decide)
    have A29 := A26.dup (pc' := 30) at_29 rfl rfl
    have A30 := A29.iload (v := cp) (pc' := 32) at_30 rfl rfl
    obtain ⟨h34, ⟨b36, K35, g37, z38, f39, f40, f41, q33⟩, A31⟩ := W.kV (A30.callI (a := b20) (argsL := [(.int cp)]) (rest := [(.ref b20)]) (C' := 2) (S' := 9) (pc' := 35) at_32 rfl (hw _ (List.mem_of_getElem? (i := 3) rfl)) (hw _ (List.mem_of_getElem? (i := 4) rfl)) (hw _ (List.mem_of_getElem? (i := 2) rfl)) (hw _ (List.mem_of_getElem? (i := 5) rfl)) (rm1 l Z a0 hw n0 [] (b20) (cp)  h19 A30.size X24 f27 f28 g22 (by exact kc)) rfl rfl pd_3 rfl rfl (by decide) (by decide) (Nat.le_of_ble_eq_true rfl) (by decide) (by decide) rfl rfl rfl)
    have ne42 : b20 ≠ b36 := Nat.ne_of_lt (Nat.lt_of_lt_of_le X24.lt z38)
    have A43 := A31.astore (Ls' := #[.val (.int xc), .val (.int xn), .val (.int b0), .val (.int b1), .val (.int b2), .val (.long v), .second, .val (.int cp), .val (.int (xn &&& (3 : Int32))), .val (.int (0 : Int32)), .val (.ref b20), .unset, .unset]) (pc' := 37) at_35 rfl rfl rfl
    obtain hn | hn | hn | hn := own_four xn
    · have A44 := A43.cast (Ls' := #[.val (.int xc), .val (.int xn), .val (.int b0), .val (.int b1), .val (.int b2), .val (.long v), .second, .val (.int cp), .val (.int (0 : Int32)), .val (.int (0 : Int32)), .val (.ref b20), .unset, .unset]) rfl (by rw [hn]) rfl
      have A45 := A44.iload (v := (0 : Int32)) (pc' := 39) at_37 rfl rfl
      have A47 := A45.ifYes (pc' := 49) at_39 (flt (ingt (x := (0 : Int32)) (y := (0 : Int32)) rfl rfl (by decide : ¬ ((0 : Int) < 0)))).2.2.2 (by decide) (by decide)
      have A48 := A47.iload (v := (0 : Int32)) (pc' := 51) at_49 rfl rfl
      have A49 := A48.iconst (z := (1 : Int32)) (pc' := 52) at_51 rfl rfl
      have A51 := A49.icmpYes (pc' := 62) at_52 (flt (ingt (x := (0 : Int32)) (y := (1 : Int32)) rfl rfl (by decide : ¬ ((1 : Int) < 0)))).2.2.2 (by decide) (by decide)
      have A52 := A51.iload (v := (0 : Int32)) (pc' := 64) at_62 rfl rfl
      have A53 := A52.iconst (z := (2 : Int32)) (pc' := 65) at_64 rfl rfl
      have A55 := A53.icmpYes (pc' := 76) at_65 (flt (ingt (x := (0 : Int32)) (y := (2 : Int32)) rfl rfl (by decide : ¬ ((2 : Int) < 0)))).2.2.2 (by decide) (by decide)
      have A56 := A55.iload (v := (0 : Int32)) (pc' := 78) at_76 rfl rfl
      have A58 := A56.ifYes (pc' := 89) at_78 (teq (ieq (x := (0 : Int32)) (y := (0 : Int32)) rfl rfl (by decide : (0 : Int) = 0))).1 (by decide) (by decide)
      have A59 := A58.aload (v := (.ref b20)) (pc' := 91) at_89 rfl rfl rfl
      have f62 := (X24.keep K35)
      obtain ⟨r61, h64, ⟨u66, u67, K65, f68, q63⟩, A60⟩ := W.kA (A59.callV (a := b20) (argsL := []) (rest := []) (C' := 3) (S' := 23) (pc' := 94) at_91 f62 (hw _ (List.mem_of_getElem? (i := 44) rfl)) (hw _ (List.mem_of_getElem? (i := 45) rfl)) (fun hZ => notFace_of_selects (args := #[]) (mvT hZ (hw _ (List.mem_of_getElem? (i := 47) rfl)))) (hw _ (List.mem_of_getElem? (i := 47) rfl)) (hw _ (List.mem_of_getElem? (i := 46) rfl)) (hw _ (List.mem_of_getElem? (i := 2) rfl)) (hw _ (List.mem_of_getElem? (i := 48) rfl)) (rm9 l Z a0 hw n0 [] (b20) (b36) (cp.toInt.toNat) ((fun _ => (.int (0 : Int32)))) ((0 : Int32)) h34 A59.size f39 f40 f41 (by omega)) rfl rfl pd_5 rfl rfl (by decide) (by decide) (Nat.le_of_ble_eq_true rfl) (by decide) (by decide) rfl rfl rfl)
      obtain ⟨hN3, holdA⟩ := q63
      have tN3 : (Int32.ofNat u66).toInt = u66 := Int32.toInt_ofNat_of_lt (by omega)
      have A69 := A60.astore (Ls' := #[.val (.int xc), .val (.int xn), .val (.int b0), .val (.int b1), .val (.int b2), .val (.long v), .second, .val (.int cp), .val (.int (0 : Int32)), .val (.int (0 : Int32)), .val (.ref b20), .val (.ref r61), .unset]) (pc' := 96) at_94 rfl rfl rfl
      have A70 := A69.iload (v := (0 : Int32)) (pc' := 98) at_96 rfl rfl
      have A71 := A70.iload (v := (0 : Int32)) (pc' := 100) at_98 rfl rfl
      have A73 := A71.ifYes (pc' := 108) at_100 (teq (ieq (x := (0 : Int32)) (y := (0 : Int32)) rfl rfl (by decide : (0 : Int) = 0))).1 (by decide) (by decide)
      have A74 := A73.iconst (z := (0 : Int32)) (pc' := 109) at_108 rfl rfl
      have A75 := A74.iadd (pc' := 110) at_109 rfl
      have A76 := A75.topI (z := (0 : Int32)) (by decide)
      have A77 := A76.istore (Ls' := #[.val (.int xc), .val (.int xn), .val (.int b0), .val (.int b1), .val (.int b2), .val (.long v), .second, .val (.int cp), .val (.int (0 : Int32)), .val (.int (0 : Int32)), .val (.ref b20), .val (.ref r61), .val (.int (0 : Int32))]) (pc' := 112) at_110 rfl rfl
      have A78 := A77.aload (v := (.ref r61)) (pc' := 114) at_112 rfl rfl rfl
      have A79 := A78.ifnullNo (pc' := 117) at_114 rfl
      have A80 := A79.aload (v := (.ref r61)) (pc' := 119) at_117 rfl rfl rfl
      have A81 := A80.alen (z := (Int32.ofNat u66)) (pc' := 120) at_119 f68 (Int32.toInt_ofNat_small f68.size) rfl
      have A82 := A81.iload (v := (0 : Int32)) (pc' := 122) at_120 rfl rfl
      by_cases c83 : (Int32.ofNat u66).toInt = 0
      · have A84 := A82.icmpYes (pc' := 127) at_122 (teq (ieq (x := (Int32.ofNat u66)) (y := (0 : Int32)) rfl rfl c83)).1 (by decide) (by decide)
        have A85 := A84.aload (v := (.ref r61)) (pc' := 129) at_127 rfl rfl rfl
        have A86 := A85.iconst (z := (0 : Int32)) (pc' := 130) at_129 rfl rfl
        have A87 := A86.iload (v := (0 : Int32)) (pc' := 132) at_130 rfl rfl
        have A88 := A87.iloadN (v := b0) (pc' := 133) at_132 rfl rfl
        have A89 := A88.iloadN (v := b1) (pc' := 134) at_133 rfl rfl
        have A90 := A89.iload (v := b2) (pc' := 136) at_134 rfl rfl
        have A91 := A90.lload (v := v) (pc' := 138) at_136 rfl rfl
        obtain ⟨r93, _, ⟨rfl, q94⟩, A92⟩ := W.kI (A91.callS (argsL := [(.ref r61), (.int (0 : Int32)), (.int (0 : Int32)), (.int b0), (.int b1), (.int b2), (.long v)]) (rest := []) (C' := 3) (S' := 23) (pc' := 141) at_138 (hw _ (List.mem_of_getElem? (i := 49) rfl)) (hw _ (List.mem_of_getElem? (i := 50) rfl)) (hw _ (List.mem_of_getElem? (i := 51) rfl)) (hw _ (List.mem_of_getElem? (i := 52) rfl)) (rm10 l Z a0 hw n0 [] (r61) ((0 : Int32)) ((0 : Int32)) (b0) (b1) (b2) (v) (u66) (u67) ((0 : Int32)) h64 A91.size f68 (by refine ⟨by decide, by decide, ?_⟩; omega) (by intro hx; exfalso; have lk : (0 : Int32).toInt = 0 := rfl; omega)) rfl rfl pd_6 rfl rfl (by decide) (by decide) (Nat.le_of_ble_eq_true rfl) (by decide) (by decide) rfl rfl rfl)
        have lk0 : (0 : Int32).toInt = 0 := rfl
        by_cases c96 : r93.toInt = 0
        · have A97 := A92.ifYes (pc' := 323) at_141 (teq (ieq (x := r93) (y := (0 : Int32)) rfl rfl c96)).1 (by decide) (by decide)
          have A98 := A97.iconst (z := (0 : Int32)) (pc' := 324) at_323 rfl rfl
          refine A98.retN (t := .boolean) (z' := (0 : Int32)) at_324 (by decide) (by decide) (by simp) rfl ⟨_, rfl, ⟨trivial, ?_⟩⟩
          have elit : (0 : Int32).toInt = 0 := rfl
          exfalso
          omega
        · have A99 := A92.ifNo (pc' := 144) at_141 (feq (ine (x := r93) (y := (0 : Int32)) rfl rfl c96)).1 rfl
          have A100 := A99.aload (v := (.ref r61)) (pc' := 146) at_144 rfl rfl rfl
          have A101 := A100.iconst (z := (1 : Int32)) (pc' := 147) at_146 rfl rfl
          have A102 := A101.iload (v := (0 : Int32)) (pc' := 149) at_147 rfl rfl
          have A103 := A102.iloadN (v := b0) (pc' := 150) at_149 rfl rfl
          have A104 := A103.iloadN (v := b1) (pc' := 151) at_150 rfl rfl
          have A105 := A104.iload (v := b2) (pc' := 153) at_151 rfl rfl
          have A106 := A105.lload (v := v) (pc' := 155) at_153 rfl rfl
          obtain ⟨r108, _, ⟨rfl, q109⟩, A107⟩ := W.kI (A106.callS (argsL := [(.ref r61), (.int (1 : Int32)), (.int (0 : Int32)), (.int b0), (.int b1), (.int b2), (.long v)]) (rest := []) (C' := 3) (S' := 23) (pc' := 158) at_155 (hw _ (List.mem_of_getElem? (i := 49) rfl)) (hw _ (List.mem_of_getElem? (i := 50) rfl)) (hw _ (List.mem_of_getElem? (i := 51) rfl)) (hw _ (List.mem_of_getElem? (i := 52) rfl)) (rm10 l Z a0 hw n0 [] (r61) ((1 : Int32)) ((0 : Int32)) (b0) (b1) (b2) (v) (u66) (u67) ((0 : Int32)) h64 A106.size f68 (by refine ⟨by decide, by decide, ?_⟩; omega) (by intro hx; exfalso; have lk : (1 : Int32).toInt = 1 := rfl; omega)) rfl rfl pd_6 rfl rfl (by decide) (by decide) (Nat.le_of_ble_eq_true rfl) (by decide) (by decide) rfl rfl rfl)
          have lk1 : (1 : Int32).toInt = 1 := rfl
          by_cases c111 : r108.toInt = 0
          · have A112 := A107.ifYes (pc' := 323) at_158 (teq (ieq (x := r108) (y := (0 : Int32)) rfl rfl c111)).1 (by decide) (by decide)
            have A113 := A112.iconst (z := (0 : Int32)) (pc' := 324) at_323 rfl rfl
            refine A113.retN (t := .boolean) (z' := (0 : Int32)) at_324 (by decide) (by decide) (by simp) rfl ⟨_, rfl, ⟨trivial, ?_⟩⟩
            have elit : (0 : Int32).toInt = 0 := rfl
            exfalso
            omega
          · have A114 := A107.ifNo (pc' := 161) at_158 (feq (ine (x := r108) (y := (0 : Int32)) rfl rfl c111)).1 rfl
            have A115 := A114.aload (v := (.ref r61)) (pc' := 163) at_161 rfl rfl rfl
            have A116 := A115.iconst (z := (2 : Int32)) (pc' := 164) at_163 rfl rfl
            have A117 := A116.iload (v := (0 : Int32)) (pc' := 166) at_164 rfl rfl
            have A118 := A117.iloadN (v := b0) (pc' := 167) at_166 rfl rfl
            have A119 := A118.iloadN (v := b1) (pc' := 168) at_167 rfl rfl
            have A120 := A119.iload (v := b2) (pc' := 170) at_168 rfl rfl
            have A121 := A120.lload (v := v) (pc' := 172) at_170 rfl rfl
            obtain ⟨r123, _, ⟨rfl, q124⟩, A122⟩ := W.kI (A121.callS (argsL := [(.ref r61), (.int (2 : Int32)), (.int (0 : Int32)), (.int b0), (.int b1), (.int b2), (.long v)]) (rest := []) (C' := 3) (S' := 23) (pc' := 175) at_172 (hw _ (List.mem_of_getElem? (i := 49) rfl)) (hw _ (List.mem_of_getElem? (i := 50) rfl)) (hw _ (List.mem_of_getElem? (i := 51) rfl)) (hw _ (List.mem_of_getElem? (i := 52) rfl)) (rm10 l Z a0 hw n0 [] (r61) ((2 : Int32)) ((0 : Int32)) (b0) (b1) (b2) (v) (u66) (u67) ((0 : Int32)) h64 A121.size f68 (by refine ⟨by decide, by decide, ?_⟩; omega) (by intro hx; exfalso; have lk : (2 : Int32).toInt = 2 := rfl; omega)) rfl rfl pd_6 rfl rfl (by decide) (by decide) (Nat.le_of_ble_eq_true rfl) (by decide) (by decide) rfl rfl rfl)
            have lk2 : (2 : Int32).toInt = 2 := rfl
            by_cases c126 : r123.toInt = 0
            · have A127 := A122.ifYes (pc' := 323) at_175 (teq (ieq (x := r123) (y := (0 : Int32)) rfl rfl c126)).1 (by decide) (by decide)
              have A128 := A127.iconst (z := (0 : Int32)) (pc' := 324) at_323 rfl rfl
              refine A128.retN (t := .boolean) (z' := (0 : Int32)) at_324 (by decide) (by decide) (by simp) rfl ⟨_, rfl, ⟨trivial, ?_⟩⟩
              have elit : (0 : Int32).toInt = 0 := rfl
              exfalso
              omega
            · have A129 := A122.ifNo (pc' := 178) at_175 (feq (ine (x := r123) (y := (0 : Int32)) rfl rfl c126)).1 rfl
              have A130 := A129.aload (v := (.ref r61)) (pc' := 180) at_178 rfl rfl rfl
              have A131 := A130.iconst (z := (3 : Int32)) (pc' := 181) at_180 rfl rfl
              have A132 := A131.iload (v := (0 : Int32)) (pc' := 183) at_181 rfl rfl
              have A133 := A132.iloadN (v := b0) (pc' := 184) at_183 rfl rfl
              have A134 := A133.iloadN (v := b1) (pc' := 185) at_184 rfl rfl
              have A135 := A134.iload (v := b2) (pc' := 187) at_185 rfl rfl
              have A136 := A135.lload (v := v) (pc' := 189) at_187 rfl rfl
              obtain ⟨r138, _, ⟨rfl, q139⟩, A137⟩ := W.kI (A136.callS (argsL := [(.ref r61), (.int (3 : Int32)), (.int (0 : Int32)), (.int b0), (.int b1), (.int b2), (.long v)]) (rest := []) (C' := 3) (S' := 23) (pc' := 192) at_189 (hw _ (List.mem_of_getElem? (i := 49) rfl)) (hw _ (List.mem_of_getElem? (i := 50) rfl)) (hw _ (List.mem_of_getElem? (i := 51) rfl)) (hw _ (List.mem_of_getElem? (i := 52) rfl)) (rm10 l Z a0 hw n0 [] (r61) ((3 : Int32)) ((0 : Int32)) (b0) (b1) (b2) (v) (u66) (u67) ((0 : Int32)) h64 A136.size f68 (by refine ⟨by decide, by decide, ?_⟩; omega) (by intro hx; exfalso; have lk : (3 : Int32).toInt = 3 := rfl; omega)) rfl rfl pd_6 rfl rfl (by decide) (by decide) (Nat.le_of_ble_eq_true rfl) (by decide) (by decide) rfl rfl rfl)
              have lk3 : (3 : Int32).toInt = 3 := rfl
              by_cases c141 : r138.toInt = 0
              · have A142 := A137.ifYes (pc' := 323) at_192 (teq (ieq (x := r138) (y := (0 : Int32)) rfl rfl c141)).1 (by decide) (by decide)
                have A143 := A142.iconst (z := (0 : Int32)) (pc' := 324) at_323 rfl rfl
                refine A143.retN (t := .boolean) (z' := (0 : Int32)) at_324 (by decide) (by decide) (by simp) rfl ⟨_, rfl, ⟨trivial, ?_⟩⟩
                have elit : (0 : Int32).toInt = 0 := rfl
                exfalso
                omega
              · have A144 := A137.ifNo (pc' := 195) at_192 (feq (ine (x := r138) (y := (0 : Int32)) rfl rfl c141)).1 rfl
                have A145 := A144.aload (v := (.ref r61)) (pc' := 197) at_195 rfl rfl rfl
                have A146 := A145.iconst (z := (4 : Int32)) (pc' := 198) at_197 rfl rfl
                have A147 := A146.iload (v := (0 : Int32)) (pc' := 200) at_198 rfl rfl
                have A148 := A147.iloadN (v := b0) (pc' := 201) at_200 rfl rfl
                have A149 := A148.iloadN (v := b1) (pc' := 202) at_201 rfl rfl
                have A150 := A149.iload (v := b2) (pc' := 204) at_202 rfl rfl
                have A151 := A150.lload (v := v) (pc' := 206) at_204 rfl rfl
                obtain ⟨r153, _, ⟨rfl, q154⟩, A152⟩ := W.kI (A151.callS (argsL := [(.ref r61), (.int (4 : Int32)), (.int (0 : Int32)), (.int b0), (.int b1), (.int b2), (.long v)]) (rest := []) (C' := 3) (S' := 23) (pc' := 209) at_206 (hw _ (List.mem_of_getElem? (i := 49) rfl)) (hw _ (List.mem_of_getElem? (i := 50) rfl)) (hw _ (List.mem_of_getElem? (i := 51) rfl)) (hw _ (List.mem_of_getElem? (i := 52) rfl)) (rm10 l Z a0 hw n0 [] (r61) ((4 : Int32)) ((0 : Int32)) (b0) (b1) (b2) (v) (u66) (u67) ((0 : Int32)) h64 A151.size f68 (by refine ⟨by decide, by decide, ?_⟩; omega) (by intro hx; exfalso; have lk : (4 : Int32).toInt = 4 := rfl; omega)) rfl rfl pd_6 rfl rfl (by decide) (by decide) (Nat.le_of_ble_eq_true rfl) (by decide) (by decide) rfl rfl rfl)
                have lk4 : (4 : Int32).toInt = 4 := rfl
                by_cases c156 : r153.toInt = 0
                · have A157 := A152.ifYes (pc' := 323) at_209 (teq (ieq (x := r153) (y := (0 : Int32)) rfl rfl c156)).1 (by decide) (by decide)
                  have A158 := A157.iconst (z := (0 : Int32)) (pc' := 324) at_323 rfl rfl
                  refine A158.retN (t := .boolean) (z' := (0 : Int32)) at_324 (by decide) (by decide) (by simp) rfl ⟨_, rfl, ⟨trivial, ?_⟩⟩
                  have elit : (0 : Int32).toInt = 0 := rfl
                  exfalso
                  omega
                · have A159 := A152.ifNo (pc' := 212) at_209 (feq (ine (x := r153) (y := (0 : Int32)) rfl rfl c156)).1 rfl
                  have A160 := A159.aload (v := (.ref r61)) (pc' := 214) at_212 rfl rfl rfl
                  have A161 := A160.iconst (z := (5 : Int32)) (pc' := 215) at_214 rfl rfl
                  have A162 := A161.iload (v := (0 : Int32)) (pc' := 217) at_215 rfl rfl
                  have A163 := A162.iloadN (v := b0) (pc' := 218) at_217 rfl rfl
                  have A164 := A163.iloadN (v := b1) (pc' := 219) at_218 rfl rfl
                  have A165 := A164.iload (v := b2) (pc' := 221) at_219 rfl rfl
                  have A166 := A165.lload (v := v) (pc' := 223) at_221 rfl rfl
                  obtain ⟨r168, _, ⟨rfl, q169⟩, A167⟩ := W.kI (A166.callS (argsL := [(.ref r61), (.int (5 : Int32)), (.int (0 : Int32)), (.int b0), (.int b1), (.int b2), (.long v)]) (rest := []) (C' := 3) (S' := 23) (pc' := 226) at_223 (hw _ (List.mem_of_getElem? (i := 49) rfl)) (hw _ (List.mem_of_getElem? (i := 50) rfl)) (hw _ (List.mem_of_getElem? (i := 51) rfl)) (hw _ (List.mem_of_getElem? (i := 52) rfl)) (rm10 l Z a0 hw n0 [] (r61) ((5 : Int32)) ((0 : Int32)) (b0) (b1) (b2) (v) (u66) (u67) ((0 : Int32)) h64 A166.size f68 (by refine ⟨by decide, by decide, ?_⟩; omega) (by intro hx; exfalso; have lk : (5 : Int32).toInt = 5 := rfl; omega)) rfl rfl pd_6 rfl rfl (by decide) (by decide) (Nat.le_of_ble_eq_true rfl) (by decide) (by decide) rfl rfl rfl)
                  have lk5 : (5 : Int32).toInt = 5 := rfl
                  by_cases c171 : r168.toInt = 0
                  · have A172 := A167.ifYes (pc' := 323) at_226 (teq (ieq (x := r168) (y := (0 : Int32)) rfl rfl c171)).1 (by decide) (by decide)
                    have A173 := A172.iconst (z := (0 : Int32)) (pc' := 324) at_323 rfl rfl
                    refine A173.retN (t := .boolean) (z' := (0 : Int32)) at_324 (by decide) (by decide) (by simp) rfl ⟨_, rfl, ⟨trivial, ?_⟩⟩
                    have elit : (0 : Int32).toInt = 0 := rfl
                    exfalso
                    omega
                  · have A174 := A167.ifNo (pc' := 229) at_226 (feq (ine (x := r168) (y := (0 : Int32)) rfl rfl c171)).1 rfl
                    have A175 := A174.aload (v := (.ref r61)) (pc' := 231) at_229 rfl rfl rfl
                    have A176 := A175.bipush (z := (6 : Int32)) (pc' := 233) at_231 rfl rfl
                    have A177 := A176.iload (v := (0 : Int32)) (pc' := 235) at_233 rfl rfl
                    have A178 := A177.iloadN (v := b0) (pc' := 236) at_235 rfl rfl
                    have A179 := A178.iloadN (v := b1) (pc' := 237) at_236 rfl rfl
                    have A180 := A179.iload (v := b2) (pc' := 239) at_237 rfl rfl
                    have A181 := A180.lload (v := v) (pc' := 241) at_239 rfl rfl
                    obtain ⟨r183, _, ⟨rfl, q184⟩, A182⟩ := W.kI (A181.callS (argsL := [(.ref r61), (.int (6 : Int32)), (.int (0 : Int32)), (.int b0), (.int b1), (.int b2), (.long v)]) (rest := []) (C' := 3) (S' := 23) (pc' := 244) at_241 (hw _ (List.mem_of_getElem? (i := 49) rfl)) (hw _ (List.mem_of_getElem? (i := 50) rfl)) (hw _ (List.mem_of_getElem? (i := 51) rfl)) (hw _ (List.mem_of_getElem? (i := 52) rfl)) (rm10 l Z a0 hw n0 [] (r61) ((6 : Int32)) ((0 : Int32)) (b0) (b1) (b2) (v) (u66) (u67) ((0 : Int32)) h64 A181.size f68 (by refine ⟨by decide, by decide, ?_⟩; omega) (by intro hx; exfalso; have lk : (6 : Int32).toInt = 6 := rfl; omega)) rfl rfl pd_6 rfl rfl (by decide) (by decide) (Nat.le_of_ble_eq_true rfl) (by decide) (by decide) rfl rfl rfl)
                    have lk6 : (6 : Int32).toInt = 6 := rfl
                    by_cases c186 : r183.toInt = 0
                    · have A187 := A182.ifYes (pc' := 323) at_244 (teq (ieq (x := r183) (y := (0 : Int32)) rfl rfl c186)).1 (by decide) (by decide)
                      have A188 := A187.iconst (z := (0 : Int32)) (pc' := 324) at_323 rfl rfl
                      refine A188.retN (t := .boolean) (z' := (0 : Int32)) at_324 (by decide) (by decide) (by simp) rfl ⟨_, rfl, ⟨trivial, ?_⟩⟩
                      have elit : (0 : Int32).toInt = 0 := rfl
                      exfalso
                      omega
                    · have A189 := A182.ifNo (pc' := 247) at_244 (feq (ine (x := r183) (y := (0 : Int32)) rfl rfl c186)).1 rfl
                      have A190 := A189.aload (v := (.ref r61)) (pc' := 249) at_247 rfl rfl rfl
                      have A191 := A190.bipush (z := (7 : Int32)) (pc' := 251) at_249 rfl rfl
                      have A192 := A191.iload (v := (0 : Int32)) (pc' := 253) at_251 rfl rfl
                      have A193 := A192.iloadN (v := b0) (pc' := 254) at_253 rfl rfl
                      have A194 := A193.iloadN (v := b1) (pc' := 255) at_254 rfl rfl
                      have A195 := A194.iload (v := b2) (pc' := 257) at_255 rfl rfl
                      have A196 := A195.lload (v := v) (pc' := 259) at_257 rfl rfl
                      obtain ⟨r198, _, ⟨rfl, q199⟩, A197⟩ := W.kI (A196.callS (argsL := [(.ref r61), (.int (7 : Int32)), (.int (0 : Int32)), (.int b0), (.int b1), (.int b2), (.long v)]) (rest := []) (C' := 3) (S' := 23) (pc' := 262) at_259 (hw _ (List.mem_of_getElem? (i := 49) rfl)) (hw _ (List.mem_of_getElem? (i := 50) rfl)) (hw _ (List.mem_of_getElem? (i := 51) rfl)) (hw _ (List.mem_of_getElem? (i := 52) rfl)) (rm10 l Z a0 hw n0 [] (r61) ((7 : Int32)) ((0 : Int32)) (b0) (b1) (b2) (v) (u66) (u67) ((0 : Int32)) h64 A196.size f68 (by refine ⟨by decide, by decide, ?_⟩; omega) (by intro hx; exfalso; have lk : (7 : Int32).toInt = 7 := rfl; omega)) rfl rfl pd_6 rfl rfl (by decide) (by decide) (Nat.le_of_ble_eq_true rfl) (by decide) (by decide) rfl rfl rfl)
                      have lk7 : (7 : Int32).toInt = 7 := rfl
                      by_cases c201 : r198.toInt = 0
                      · have A202 := A197.ifYes (pc' := 323) at_262 (teq (ieq (x := r198) (y := (0 : Int32)) rfl rfl c201)).1 (by decide) (by decide)
                        have A203 := A202.iconst (z := (0 : Int32)) (pc' := 324) at_323 rfl rfl
                        refine A203.retN (t := .boolean) (z' := (0 : Int32)) at_324 (by decide) (by decide) (by simp) rfl ⟨_, rfl, ⟨trivial, ?_⟩⟩
                        have elit : (0 : Int32).toInt = 0 := rfl
                        exfalso
                        omega
                      · have A204 := A197.ifNo (pc' := 265) at_262 (feq (ine (x := r198) (y := (0 : Int32)) rfl rfl c201)).1 rfl
                        have A205 := A204.aload (v := (.ref r61)) (pc' := 267) at_265 rfl rfl rfl
                        have A206 := A205.bipush (z := (8 : Int32)) (pc' := 269) at_267 rfl rfl
                        have A207 := A206.iload (v := (0 : Int32)) (pc' := 271) at_269 rfl rfl
                        have A208 := A207.iloadN (v := b0) (pc' := 272) at_271 rfl rfl
                        have A209 := A208.iloadN (v := b1) (pc' := 273) at_272 rfl rfl
                        have A210 := A209.iload (v := b2) (pc' := 275) at_273 rfl rfl
                        have A211 := A210.lload (v := v) (pc' := 277) at_275 rfl rfl
                        obtain ⟨r213, _, ⟨rfl, q214⟩, A212⟩ := W.kI (A211.callS (argsL := [(.ref r61), (.int (8 : Int32)), (.int (0 : Int32)), (.int b0), (.int b1), (.int b2), (.long v)]) (rest := []) (C' := 3) (S' := 23) (pc' := 280) at_277 (hw _ (List.mem_of_getElem? (i := 49) rfl)) (hw _ (List.mem_of_getElem? (i := 50) rfl)) (hw _ (List.mem_of_getElem? (i := 51) rfl)) (hw _ (List.mem_of_getElem? (i := 52) rfl)) (rm10 l Z a0 hw n0 [] (r61) ((8 : Int32)) ((0 : Int32)) (b0) (b1) (b2) (v) (u66) (u67) ((0 : Int32)) h64 A211.size f68 (by refine ⟨by decide, by decide, ?_⟩; omega) (by intro hx; exfalso; have lk : (8 : Int32).toInt = 8 := rfl; omega)) rfl rfl pd_6 rfl rfl (by decide) (by decide) (Nat.le_of_ble_eq_true rfl) (by decide) (by decide) rfl rfl rfl)
                        have lk8 : (8 : Int32).toInt = 8 := rfl
                        by_cases c216 : r213.toInt = 0
                        · have A217 := A212.ifYes (pc' := 323) at_280 (teq (ieq (x := r213) (y := (0 : Int32)) rfl rfl c216)).1 (by decide) (by decide)
                          have A218 := A217.iconst (z := (0 : Int32)) (pc' := 324) at_323 rfl rfl
                          refine A218.retN (t := .boolean) (z' := (0 : Int32)) at_324 (by decide) (by decide) (by simp) rfl ⟨_, rfl, ⟨trivial, ?_⟩⟩
                          have elit : (0 : Int32).toInt = 0 := rfl
                          exfalso
                          omega
                        · have A219 := A212.ifNo (pc' := 283) at_280 (feq (ine (x := r213) (y := (0 : Int32)) rfl rfl c216)).1 rfl
                          have A220 := A219.aload (v := (.ref r61)) (pc' := 285) at_283 rfl rfl rfl
                          have A221 := A220.bipush (z := (9 : Int32)) (pc' := 287) at_285 rfl rfl
                          have A222 := A221.iload (v := (0 : Int32)) (pc' := 289) at_287 rfl rfl
                          have A223 := A222.iloadN (v := b0) (pc' := 290) at_289 rfl rfl
                          have A224 := A223.iloadN (v := b1) (pc' := 291) at_290 rfl rfl
                          have A225 := A224.iload (v := b2) (pc' := 293) at_291 rfl rfl
                          have A226 := A225.lload (v := v) (pc' := 295) at_293 rfl rfl
                          obtain ⟨r228, _, ⟨rfl, q229⟩, A227⟩ := W.kI (A226.callS (argsL := [(.ref r61), (.int (9 : Int32)), (.int (0 : Int32)), (.int b0), (.int b1), (.int b2), (.long v)]) (rest := []) (C' := 3) (S' := 23) (pc' := 298) at_295 (hw _ (List.mem_of_getElem? (i := 49) rfl)) (hw _ (List.mem_of_getElem? (i := 50) rfl)) (hw _ (List.mem_of_getElem? (i := 51) rfl)) (hw _ (List.mem_of_getElem? (i := 52) rfl)) (rm10 l Z a0 hw n0 [] (r61) ((9 : Int32)) ((0 : Int32)) (b0) (b1) (b2) (v) (u66) (u67) ((0 : Int32)) h64 A226.size f68 (by refine ⟨by decide, by decide, ?_⟩; omega) (by intro hx; exfalso; have lk : (9 : Int32).toInt = 9 := rfl; omega)) rfl rfl pd_6 rfl rfl (by decide) (by decide) (Nat.le_of_ble_eq_true rfl) (by decide) (by decide) rfl rfl rfl)
                          have lk9 : (9 : Int32).toInt = 9 := rfl
                          by_cases c231 : r228.toInt = 0
                          · have A232 := A227.ifYes (pc' := 323) at_298 (teq (ieq (x := r228) (y := (0 : Int32)) rfl rfl c231)).1 (by decide) (by decide)
                            have A233 := A232.iconst (z := (0 : Int32)) (pc' := 324) at_323 rfl rfl
                            refine A233.retN (t := .boolean) (z' := (0 : Int32)) at_324 (by decide) (by decide) (by simp) rfl ⟨_, rfl, ⟨trivial, ?_⟩⟩
                            have elit : (0 : Int32).toInt = 0 := rfl
                            exfalso
                            omega
                          · have A234 := A227.ifNo (pc' := 301) at_298 (feq (ine (x := r228) (y := (0 : Int32)) rfl rfl c231)).1 rfl
                            have A235 := A234.aload (v := (.ref r61)) (pc' := 303) at_301 rfl rfl rfl
                            have A236 := A235.bipush (z := (10 : Int32)) (pc' := 305) at_303 rfl rfl
                            have A237 := A236.iload (v := (0 : Int32)) (pc' := 307) at_305 rfl rfl
                            have A238 := A237.iloadN (v := b0) (pc' := 308) at_307 rfl rfl
                            have A239 := A238.iloadN (v := b1) (pc' := 309) at_308 rfl rfl
                            have A240 := A239.iload (v := b2) (pc' := 311) at_309 rfl rfl
                            have A241 := A240.lload (v := v) (pc' := 313) at_311 rfl rfl
                            obtain ⟨r243, _, ⟨rfl, q244⟩, A242⟩ := W.kI (A241.callS (argsL := [(.ref r61), (.int (10 : Int32)), (.int (0 : Int32)), (.int b0), (.int b1), (.int b2), (.long v)]) (rest := []) (C' := 3) (S' := 23) (pc' := 316) at_313 (hw _ (List.mem_of_getElem? (i := 49) rfl)) (hw _ (List.mem_of_getElem? (i := 50) rfl)) (hw _ (List.mem_of_getElem? (i := 51) rfl)) (hw _ (List.mem_of_getElem? (i := 52) rfl)) (rm10 l Z a0 hw n0 [] (r61) ((10 : Int32)) ((0 : Int32)) (b0) (b1) (b2) (v) (u66) (u67) ((0 : Int32)) h64 A241.size f68 (by refine ⟨by decide, by decide, ?_⟩; omega) (by intro hx; exfalso; have lk : (10 : Int32).toInt = 10 := rfl; omega)) rfl rfl pd_6 rfl rfl (by decide) (by decide) (Nat.le_of_ble_eq_true rfl) (by decide) (by decide) rfl rfl rfl)
                            have lk10 : (10 : Int32).toInt = 10 := rfl
                            by_cases c246 : r243.toInt = 0
                            · have A247 := A242.ifYes (pc' := 323) at_316 (teq (ieq (x := r243) (y := (0 : Int32)) rfl rfl c246)).1 (by decide) (by decide)
                              have A248 := A247.iconst (z := (0 : Int32)) (pc' := 324) at_323 rfl rfl
                              refine A248.retN (t := .boolean) (z' := (0 : Int32)) at_324 (by decide) (by decide) (by simp) rfl ⟨_, rfl, ⟨trivial, ?_⟩⟩
                              have elit : (0 : Int32).toInt = 0 := rfl
                              exfalso
                              omega
                            · have A249 := A242.ifNo (pc' := 319) at_316 (feq (ine (x := r243) (y := (0 : Int32)) rfl rfl c246)).1 rfl
                              have A250 := A249.iconst (z := (1 : Int32)) (pc' := 320) at_319 rfl rfl
                              have A251 := A250.goto (pc' := 324) at_320 (by decide) (by decide)
                              refine A251.retN (t := .boolean) (z' := (1 : Int32)) at_324 (by decide) (by decide) (by simp) rfl ⟨_, rfl, ⟨trivial, ?_⟩⟩
                              have elit : (1 : Int32).toInt = 1 := rfl
                              rfl
      · have A252 := A82.icmpNo (pc' := 125) at_122 (feq (ine (x := (Int32.ofNat u66)) (y := (0 : Int32)) rfl rfl c83)).1 rfl
        have A253 := A252.iconst (z := (0 : Int32)) (pc' := 126) at_125 rfl rfl
        refine A253.retN (t := .boolean) (z' := (0 : Int32)) at_126 (by decide) (by decide) (by simp) rfl ⟨_, rfl, ⟨trivial, ?_⟩⟩
        have elit : (0 : Int32).toInt = 0 := rfl
        exfalso
        omega
    · have A254 := A43.cast (Ls' := #[.val (.int xc), .val (.int xn), .val (.int b0), .val (.int b1), .val (.int b2), .val (.long v), .second, .val (.int cp), .val (.int (1 : Int32)), .val (.int (0 : Int32)), .val (.ref b20), .unset, .unset]) rfl (by rw [hn]) rfl
      have A255 := A254.iload (v := (1 : Int32)) (pc' := 39) at_37 rfl rfl
      have A257 := A255.ifNo (pc' := 42) at_39 (tlt (igt (x := (1 : Int32)) (y := (0 : Int32)) rfl rfl (by decide : (0 : Int) < 1))).2.2.2 rfl
      have A258 := A257.aload (v := (.ref b20)) (pc' := 44) at_42 rfl rfl rfl
      have A259 := A258.iloadN (v := b0) (pc' := 45) at_44 rfl rfl
      have f260 := (X24.keep K35)
      obtain ⟨r262, h264, ⟨u266, u267, u268, u269, K265, f270, f271, f272, f273, f274, q263⟩, A261⟩ := W.kA (A259.callV (a := b20) (argsL := [(.int b0)]) (rest := []) (C' := 3) (S' := 23) (pc' := 48) at_45 f260 (hw _ (List.mem_of_getElem? (i := 12) rfl)) (hw _ (List.mem_of_getElem? (i := 13) rfl)) (fun hZ => notFace_of_selects (args := #[]) (mvT hZ (hw _ (List.mem_of_getElem? (i := 15) rfl)))) (hw _ (List.mem_of_getElem? (i := 15) rfl)) (hw _ (List.mem_of_getElem? (i := 14) rfl)) (hw _ (List.mem_of_getElem? (i := 2) rfl)) (hw _ (List.mem_of_getElem? (i := 16) rfl)) (rm3 l Z a0 hw n0 [] (b20) (b0) (b36) (cp.toInt.toNat) ((fun _ => (.int (0 : Int32)))) ((0 : Int32)) h34 A259.size f260 g22 f39 f40 f41 g37 ne42 (by omega)) rfl rfl pd_7 rfl rfl (by decide) (by decide) (Nat.le_of_ble_eq_true rfl) (by decide) (by decide) rfl rfl rfl)
      obtain ⟨-, -, hs0, hle0, hN0, hold0, hnew0⟩ := q263
      have ct275 : u268 0 = .int b0.toInt8.toInt32 := by have e : (0 : Int32).toInt.toNat = 0 := (by omega); rw [← e]; exact hnew0
      have A276 := A261.pop (pc' := 49) at_48 rfl rfl
      have A277 := A276.iload (v := (1 : Int32)) (pc' := 51) at_49 rfl rfl
      have A278 := A277.iconst (z := (1 : Int32)) (pc' := 52) at_51 rfl rfl
      have A280 := A278.icmpYes (pc' := 62) at_52 (flt (ingt (x := (1 : Int32)) (y := (1 : Int32)) rfl rfl (by decide : ¬ ((1 : Int) < 1)))).2.2.2 (by decide) (by decide)
      have A281 := A280.iload (v := (1 : Int32)) (pc' := 64) at_62 rfl rfl
      have A282 := A281.iconst (z := (2 : Int32)) (pc' := 65) at_64 rfl rfl
      have A284 := A282.icmpYes (pc' := 76) at_65 (flt (ingt (x := (1 : Int32)) (y := (2 : Int32)) rfl rfl (by decide : ¬ ((2 : Int) < 1)))).2.2.2 (by decide) (by decide)
      have A285 := A284.iload (v := (0 : Int32)) (pc' := 78) at_76 rfl rfl
      have A287 := A285.ifYes (pc' := 89) at_78 (teq (ieq (x := (0 : Int32)) (y := (0 : Int32)) rfl rfl (by decide : (0 : Int) = 0))).1 (by decide) (by decide)
      have A288 := A287.aload (v := (.ref b20)) (pc' := 91) at_89 rfl rfl rfl
      have f291 := (f260.keep K265)
      obtain ⟨r290, h293, ⟨u295, u296, K294, f297, q292⟩, A289⟩ := W.kA (A288.callV (a := b20) (argsL := []) (rest := []) (C' := 4) (S' := 37) (pc' := 94) at_91 f291 (hw _ (List.mem_of_getElem? (i := 44) rfl)) (hw _ (List.mem_of_getElem? (i := 45) rfl)) (fun hZ => notFace_of_selects (args := #[]) (mvT hZ (hw _ (List.mem_of_getElem? (i := 47) rfl)))) (hw _ (List.mem_of_getElem? (i := 47) rfl)) (hw _ (List.mem_of_getElem? (i := 46) rfl)) (hw _ (List.mem_of_getElem? (i := 2) rfl)) (hw _ (List.mem_of_getElem? (i := 48) rfl)) (rm9 l Z a0 hw n0 [] (b20) (u266) (u267) (u268) (u269) h264 A288.size f270 f271 f272 (by omega)) rfl rfl pd_5 rfl rfl (by decide) (by decide) (Nat.le_of_ble_eq_true rfl) (by decide) (by decide) rfl rfl rfl)
      obtain ⟨hN3, holdA⟩ := q292
      have tN3 : (Int32.ofNat u295).toInt = u295 := Int32.toInt_ofNat_of_lt (by omega)
      have ct298 : u296 0 = .int b0.toInt8.toInt32 := (holdA 0 (by omega)).trans ct275
      have A299 := A289.astore (Ls' := #[.val (.int xc), .val (.int xn), .val (.int b0), .val (.int b1), .val (.int b2), .val (.long v), .second, .val (.int cp), .val (.int (1 : Int32)), .val (.int (0 : Int32)), .val (.ref b20), .val (.ref r290), .unset]) (pc' := 96) at_94 rfl rfl rfl
      have A300 := A299.iload (v := (1 : Int32)) (pc' := 98) at_96 rfl rfl
      have A301 := A300.iload (v := (0 : Int32)) (pc' := 100) at_98 rfl rfl
      have A303 := A301.ifYes (pc' := 108) at_100 (teq (ieq (x := (0 : Int32)) (y := (0 : Int32)) rfl rfl (by decide : (0 : Int) = 0))).1 (by decide) (by decide)
      have A304 := A303.iconst (z := (0 : Int32)) (pc' := 109) at_108 rfl rfl
      have A305 := A304.iadd (pc' := 110) at_109 rfl
      have A306 := A305.topI (z := (1 : Int32)) (by decide)
      have A307 := A306.istore (Ls' := #[.val (.int xc), .val (.int xn), .val (.int b0), .val (.int b1), .val (.int b2), .val (.long v), .second, .val (.int cp), .val (.int (1 : Int32)), .val (.int (0 : Int32)), .val (.ref b20), .val (.ref r290), .val (.int (1 : Int32))]) (pc' := 112) at_110 rfl rfl
      have A308 := A307.aload (v := (.ref r290)) (pc' := 114) at_112 rfl rfl rfl
      have A309 := A308.ifnullNo (pc' := 117) at_114 rfl
      have A310 := A309.aload (v := (.ref r290)) (pc' := 119) at_117 rfl rfl rfl
      have A311 := A310.alen (z := (Int32.ofNat u295)) (pc' := 120) at_119 f297 (Int32.toInt_ofNat_small f297.size) rfl
      have A312 := A311.iload (v := (1 : Int32)) (pc' := 122) at_120 rfl rfl
      by_cases c313 : (Int32.ofNat u295).toInt = 1
      · have A314 := A312.icmpYes (pc' := 127) at_122 (teq (ieq (x := (Int32.ofNat u295)) (y := (1 : Int32)) rfl rfl c313)).1 (by decide) (by decide)
        have A315 := A314.aload (v := (.ref r290)) (pc' := 129) at_127 rfl rfl rfl
        have A316 := A315.iconst (z := (0 : Int32)) (pc' := 130) at_129 rfl rfl
        have A317 := A316.iload (v := (1 : Int32)) (pc' := 132) at_130 rfl rfl
        have A318 := A317.iloadN (v := b0) (pc' := 133) at_132 rfl rfl
        have A319 := A318.iloadN (v := b1) (pc' := 134) at_133 rfl rfl
        have A320 := A319.iload (v := b2) (pc' := 136) at_134 rfl rfl
        have A321 := A320.lload (v := v) (pc' := 138) at_136 rfl rfl
        obtain ⟨r323, _, ⟨rfl, q324⟩, A322⟩ := W.kI (A321.callS (argsL := [(.ref r290), (.int (0 : Int32)), (.int (1 : Int32)), (.int b0), (.int b1), (.int b2), (.long v)]) (rest := []) (C' := 4) (S' := 37) (pc' := 141) at_138 (hw _ (List.mem_of_getElem? (i := 49) rfl)) (hw _ (List.mem_of_getElem? (i := 50) rfl)) (hw _ (List.mem_of_getElem? (i := 51) rfl)) (hw _ (List.mem_of_getElem? (i := 52) rfl)) (rm10 l Z a0 hw n0 [] (r290) ((0 : Int32)) ((1 : Int32)) (b0) (b1) (b2) (v) (u295) (u296) (b0.toInt8.toInt32) h293 A321.size f297 (by refine ⟨by decide, by decide, ?_⟩; omega) (by intro _; exact ct298)) rfl rfl pd_6 rfl rfl (by decide) (by decide) (Nat.le_of_ble_eq_true rfl) (by decide) (by decide) rfl rfl rfl)
        have lk0 : (0 : Int32).toInt = 0 := rfl
        have x0 : (b0.toInt8.toInt32).toInt = (own_ex (0 : Int32) (1 : Int32) b0 b1 b2 v).toInt := rfl
        by_cases c326 : r323.toInt = 0
        · have A327 := A322.ifYes (pc' := 323) at_141 (teq (ieq (x := r323) (y := (0 : Int32)) rfl rfl c326)).1 (by decide) (by decide)
          have A328 := A327.iconst (z := (0 : Int32)) (pc' := 324) at_323 rfl rfl
          refine A328.retN (t := .boolean) (z' := (0 : Int32)) at_324 (by decide) (by decide) (by simp) rfl ⟨_, rfl, ⟨trivial, ?_⟩⟩
          have elit : (0 : Int32).toInt = 0 := rfl
          exfalso
          omega
        · have A329 := A322.ifNo (pc' := 144) at_141 (feq (ine (x := r323) (y := (0 : Int32)) rfl rfl c326)).1 rfl
          have A330 := A329.aload (v := (.ref r290)) (pc' := 146) at_144 rfl rfl rfl
          have A331 := A330.iconst (z := (1 : Int32)) (pc' := 147) at_146 rfl rfl
          have A332 := A331.iload (v := (1 : Int32)) (pc' := 149) at_147 rfl rfl
          have A333 := A332.iloadN (v := b0) (pc' := 150) at_149 rfl rfl
          have A334 := A333.iloadN (v := b1) (pc' := 151) at_150 rfl rfl
          have A335 := A334.iload (v := b2) (pc' := 153) at_151 rfl rfl
          have A336 := A335.lload (v := v) (pc' := 155) at_153 rfl rfl
          obtain ⟨r338, _, ⟨rfl, q339⟩, A337⟩ := W.kI (A336.callS (argsL := [(.ref r290), (.int (1 : Int32)), (.int (1 : Int32)), (.int b0), (.int b1), (.int b2), (.long v)]) (rest := []) (C' := 4) (S' := 37) (pc' := 158) at_155 (hw _ (List.mem_of_getElem? (i := 49) rfl)) (hw _ (List.mem_of_getElem? (i := 50) rfl)) (hw _ (List.mem_of_getElem? (i := 51) rfl)) (hw _ (List.mem_of_getElem? (i := 52) rfl)) (rm10 l Z a0 hw n0 [] (r290) ((1 : Int32)) ((1 : Int32)) (b0) (b1) (b2) (v) (u295) (u296) ((0 : Int32)) h293 A336.size f297 (by refine ⟨by decide, by decide, ?_⟩; omega) (by intro hx; exfalso; have lk : (1 : Int32).toInt = 1 := rfl; omega)) rfl rfl pd_6 rfl rfl (by decide) (by decide) (Nat.le_of_ble_eq_true rfl) (by decide) (by decide) rfl rfl rfl)
          have lk1 : (1 : Int32).toInt = 1 := rfl
          by_cases c341 : r338.toInt = 0
          · have A342 := A337.ifYes (pc' := 323) at_158 (teq (ieq (x := r338) (y := (0 : Int32)) rfl rfl c341)).1 (by decide) (by decide)
            have A343 := A342.iconst (z := (0 : Int32)) (pc' := 324) at_323 rfl rfl
            refine A343.retN (t := .boolean) (z' := (0 : Int32)) at_324 (by decide) (by decide) (by simp) rfl ⟨_, rfl, ⟨trivial, ?_⟩⟩
            have elit : (0 : Int32).toInt = 0 := rfl
            exfalso
            omega
          · have A344 := A337.ifNo (pc' := 161) at_158 (feq (ine (x := r338) (y := (0 : Int32)) rfl rfl c341)).1 rfl
            have A345 := A344.aload (v := (.ref r290)) (pc' := 163) at_161 rfl rfl rfl
            have A346 := A345.iconst (z := (2 : Int32)) (pc' := 164) at_163 rfl rfl
            have A347 := A346.iload (v := (1 : Int32)) (pc' := 166) at_164 rfl rfl
            have A348 := A347.iloadN (v := b0) (pc' := 167) at_166 rfl rfl
            have A349 := A348.iloadN (v := b1) (pc' := 168) at_167 rfl rfl
            have A350 := A349.iload (v := b2) (pc' := 170) at_168 rfl rfl
            have A351 := A350.lload (v := v) (pc' := 172) at_170 rfl rfl
            obtain ⟨r353, _, ⟨rfl, q354⟩, A352⟩ := W.kI (A351.callS (argsL := [(.ref r290), (.int (2 : Int32)), (.int (1 : Int32)), (.int b0), (.int b1), (.int b2), (.long v)]) (rest := []) (C' := 4) (S' := 37) (pc' := 175) at_172 (hw _ (List.mem_of_getElem? (i := 49) rfl)) (hw _ (List.mem_of_getElem? (i := 50) rfl)) (hw _ (List.mem_of_getElem? (i := 51) rfl)) (hw _ (List.mem_of_getElem? (i := 52) rfl)) (rm10 l Z a0 hw n0 [] (r290) ((2 : Int32)) ((1 : Int32)) (b0) (b1) (b2) (v) (u295) (u296) ((0 : Int32)) h293 A351.size f297 (by refine ⟨by decide, by decide, ?_⟩; omega) (by intro hx; exfalso; have lk : (2 : Int32).toInt = 2 := rfl; omega)) rfl rfl pd_6 rfl rfl (by decide) (by decide) (Nat.le_of_ble_eq_true rfl) (by decide) (by decide) rfl rfl rfl)
            have lk2 : (2 : Int32).toInt = 2 := rfl
            by_cases c356 : r353.toInt = 0
            · have A357 := A352.ifYes (pc' := 323) at_175 (teq (ieq (x := r353) (y := (0 : Int32)) rfl rfl c356)).1 (by decide) (by decide)
              have A358 := A357.iconst (z := (0 : Int32)) (pc' := 324) at_323 rfl rfl
              refine A358.retN (t := .boolean) (z' := (0 : Int32)) at_324 (by decide) (by decide) (by simp) rfl ⟨_, rfl, ⟨trivial, ?_⟩⟩
              have elit : (0 : Int32).toInt = 0 := rfl
              exfalso
              omega
            · have A359 := A352.ifNo (pc' := 178) at_175 (feq (ine (x := r353) (y := (0 : Int32)) rfl rfl c356)).1 rfl
              have A360 := A359.aload (v := (.ref r290)) (pc' := 180) at_178 rfl rfl rfl
              have A361 := A360.iconst (z := (3 : Int32)) (pc' := 181) at_180 rfl rfl
              have A362 := A361.iload (v := (1 : Int32)) (pc' := 183) at_181 rfl rfl
              have A363 := A362.iloadN (v := b0) (pc' := 184) at_183 rfl rfl
              have A364 := A363.iloadN (v := b1) (pc' := 185) at_184 rfl rfl
              have A365 := A364.iload (v := b2) (pc' := 187) at_185 rfl rfl
              have A366 := A365.lload (v := v) (pc' := 189) at_187 rfl rfl
              obtain ⟨r368, _, ⟨rfl, q369⟩, A367⟩ := W.kI (A366.callS (argsL := [(.ref r290), (.int (3 : Int32)), (.int (1 : Int32)), (.int b0), (.int b1), (.int b2), (.long v)]) (rest := []) (C' := 4) (S' := 37) (pc' := 192) at_189 (hw _ (List.mem_of_getElem? (i := 49) rfl)) (hw _ (List.mem_of_getElem? (i := 50) rfl)) (hw _ (List.mem_of_getElem? (i := 51) rfl)) (hw _ (List.mem_of_getElem? (i := 52) rfl)) (rm10 l Z a0 hw n0 [] (r290) ((3 : Int32)) ((1 : Int32)) (b0) (b1) (b2) (v) (u295) (u296) ((0 : Int32)) h293 A366.size f297 (by refine ⟨by decide, by decide, ?_⟩; omega) (by intro hx; exfalso; have lk : (3 : Int32).toInt = 3 := rfl; omega)) rfl rfl pd_6 rfl rfl (by decide) (by decide) (Nat.le_of_ble_eq_true rfl) (by decide) (by decide) rfl rfl rfl)
              have lk3 : (3 : Int32).toInt = 3 := rfl
              by_cases c371 : r368.toInt = 0
              · have A372 := A367.ifYes (pc' := 323) at_192 (teq (ieq (x := r368) (y := (0 : Int32)) rfl rfl c371)).1 (by decide) (by decide)
                have A373 := A372.iconst (z := (0 : Int32)) (pc' := 324) at_323 rfl rfl
                refine A373.retN (t := .boolean) (z' := (0 : Int32)) at_324 (by decide) (by decide) (by simp) rfl ⟨_, rfl, ⟨trivial, ?_⟩⟩
                have elit : (0 : Int32).toInt = 0 := rfl
                exfalso
                omega
              · have A374 := A367.ifNo (pc' := 195) at_192 (feq (ine (x := r368) (y := (0 : Int32)) rfl rfl c371)).1 rfl
                have A375 := A374.aload (v := (.ref r290)) (pc' := 197) at_195 rfl rfl rfl
                have A376 := A375.iconst (z := (4 : Int32)) (pc' := 198) at_197 rfl rfl
                have A377 := A376.iload (v := (1 : Int32)) (pc' := 200) at_198 rfl rfl
                have A378 := A377.iloadN (v := b0) (pc' := 201) at_200 rfl rfl
                have A379 := A378.iloadN (v := b1) (pc' := 202) at_201 rfl rfl
                have A380 := A379.iload (v := b2) (pc' := 204) at_202 rfl rfl
                have A381 := A380.lload (v := v) (pc' := 206) at_204 rfl rfl
                obtain ⟨r383, _, ⟨rfl, q384⟩, A382⟩ := W.kI (A381.callS (argsL := [(.ref r290), (.int (4 : Int32)), (.int (1 : Int32)), (.int b0), (.int b1), (.int b2), (.long v)]) (rest := []) (C' := 4) (S' := 37) (pc' := 209) at_206 (hw _ (List.mem_of_getElem? (i := 49) rfl)) (hw _ (List.mem_of_getElem? (i := 50) rfl)) (hw _ (List.mem_of_getElem? (i := 51) rfl)) (hw _ (List.mem_of_getElem? (i := 52) rfl)) (rm10 l Z a0 hw n0 [] (r290) ((4 : Int32)) ((1 : Int32)) (b0) (b1) (b2) (v) (u295) (u296) ((0 : Int32)) h293 A381.size f297 (by refine ⟨by decide, by decide, ?_⟩; omega) (by intro hx; exfalso; have lk : (4 : Int32).toInt = 4 := rfl; omega)) rfl rfl pd_6 rfl rfl (by decide) (by decide) (Nat.le_of_ble_eq_true rfl) (by decide) (by decide) rfl rfl rfl)
                have lk4 : (4 : Int32).toInt = 4 := rfl
                by_cases c386 : r383.toInt = 0
                · have A387 := A382.ifYes (pc' := 323) at_209 (teq (ieq (x := r383) (y := (0 : Int32)) rfl rfl c386)).1 (by decide) (by decide)
                  have A388 := A387.iconst (z := (0 : Int32)) (pc' := 324) at_323 rfl rfl
                  refine A388.retN (t := .boolean) (z' := (0 : Int32)) at_324 (by decide) (by decide) (by simp) rfl ⟨_, rfl, ⟨trivial, ?_⟩⟩
                  have elit : (0 : Int32).toInt = 0 := rfl
                  exfalso
                  omega
                · have A389 := A382.ifNo (pc' := 212) at_209 (feq (ine (x := r383) (y := (0 : Int32)) rfl rfl c386)).1 rfl
                  have A390 := A389.aload (v := (.ref r290)) (pc' := 214) at_212 rfl rfl rfl
                  have A391 := A390.iconst (z := (5 : Int32)) (pc' := 215) at_214 rfl rfl
                  have A392 := A391.iload (v := (1 : Int32)) (pc' := 217) at_215 rfl rfl
                  have A393 := A392.iloadN (v := b0) (pc' := 218) at_217 rfl rfl
                  have A394 := A393.iloadN (v := b1) (pc' := 219) at_218 rfl rfl
                  have A395 := A394.iload (v := b2) (pc' := 221) at_219 rfl rfl
                  have A396 := A395.lload (v := v) (pc' := 223) at_221 rfl rfl
                  obtain ⟨r398, _, ⟨rfl, q399⟩, A397⟩ := W.kI (A396.callS (argsL := [(.ref r290), (.int (5 : Int32)), (.int (1 : Int32)), (.int b0), (.int b1), (.int b2), (.long v)]) (rest := []) (C' := 4) (S' := 37) (pc' := 226) at_223 (hw _ (List.mem_of_getElem? (i := 49) rfl)) (hw _ (List.mem_of_getElem? (i := 50) rfl)) (hw _ (List.mem_of_getElem? (i := 51) rfl)) (hw _ (List.mem_of_getElem? (i := 52) rfl)) (rm10 l Z a0 hw n0 [] (r290) ((5 : Int32)) ((1 : Int32)) (b0) (b1) (b2) (v) (u295) (u296) ((0 : Int32)) h293 A396.size f297 (by refine ⟨by decide, by decide, ?_⟩; omega) (by intro hx; exfalso; have lk : (5 : Int32).toInt = 5 := rfl; omega)) rfl rfl pd_6 rfl rfl (by decide) (by decide) (Nat.le_of_ble_eq_true rfl) (by decide) (by decide) rfl rfl rfl)
                  have lk5 : (5 : Int32).toInt = 5 := rfl
                  by_cases c401 : r398.toInt = 0
                  · have A402 := A397.ifYes (pc' := 323) at_226 (teq (ieq (x := r398) (y := (0 : Int32)) rfl rfl c401)).1 (by decide) (by decide)
                    have A403 := A402.iconst (z := (0 : Int32)) (pc' := 324) at_323 rfl rfl
                    refine A403.retN (t := .boolean) (z' := (0 : Int32)) at_324 (by decide) (by decide) (by simp) rfl ⟨_, rfl, ⟨trivial, ?_⟩⟩
                    have elit : (0 : Int32).toInt = 0 := rfl
                    exfalso
                    omega
                  · have A404 := A397.ifNo (pc' := 229) at_226 (feq (ine (x := r398) (y := (0 : Int32)) rfl rfl c401)).1 rfl
                    have A405 := A404.aload (v := (.ref r290)) (pc' := 231) at_229 rfl rfl rfl
                    have A406 := A405.bipush (z := (6 : Int32)) (pc' := 233) at_231 rfl rfl
                    have A407 := A406.iload (v := (1 : Int32)) (pc' := 235) at_233 rfl rfl
                    have A408 := A407.iloadN (v := b0) (pc' := 236) at_235 rfl rfl
                    have A409 := A408.iloadN (v := b1) (pc' := 237) at_236 rfl rfl
                    have A410 := A409.iload (v := b2) (pc' := 239) at_237 rfl rfl
                    have A411 := A410.lload (v := v) (pc' := 241) at_239 rfl rfl
                    obtain ⟨r413, _, ⟨rfl, q414⟩, A412⟩ := W.kI (A411.callS (argsL := [(.ref r290), (.int (6 : Int32)), (.int (1 : Int32)), (.int b0), (.int b1), (.int b2), (.long v)]) (rest := []) (C' := 4) (S' := 37) (pc' := 244) at_241 (hw _ (List.mem_of_getElem? (i := 49) rfl)) (hw _ (List.mem_of_getElem? (i := 50) rfl)) (hw _ (List.mem_of_getElem? (i := 51) rfl)) (hw _ (List.mem_of_getElem? (i := 52) rfl)) (rm10 l Z a0 hw n0 [] (r290) ((6 : Int32)) ((1 : Int32)) (b0) (b1) (b2) (v) (u295) (u296) ((0 : Int32)) h293 A411.size f297 (by refine ⟨by decide, by decide, ?_⟩; omega) (by intro hx; exfalso; have lk : (6 : Int32).toInt = 6 := rfl; omega)) rfl rfl pd_6 rfl rfl (by decide) (by decide) (Nat.le_of_ble_eq_true rfl) (by decide) (by decide) rfl rfl rfl)
                    have lk6 : (6 : Int32).toInt = 6 := rfl
                    by_cases c416 : r413.toInt = 0
                    · have A417 := A412.ifYes (pc' := 323) at_244 (teq (ieq (x := r413) (y := (0 : Int32)) rfl rfl c416)).1 (by decide) (by decide)
                      have A418 := A417.iconst (z := (0 : Int32)) (pc' := 324) at_323 rfl rfl
                      refine A418.retN (t := .boolean) (z' := (0 : Int32)) at_324 (by decide) (by decide) (by simp) rfl ⟨_, rfl, ⟨trivial, ?_⟩⟩
                      have elit : (0 : Int32).toInt = 0 := rfl
                      exfalso
                      omega
                    · have A419 := A412.ifNo (pc' := 247) at_244 (feq (ine (x := r413) (y := (0 : Int32)) rfl rfl c416)).1 rfl
                      have A420 := A419.aload (v := (.ref r290)) (pc' := 249) at_247 rfl rfl rfl
                      have A421 := A420.bipush (z := (7 : Int32)) (pc' := 251) at_249 rfl rfl
                      have A422 := A421.iload (v := (1 : Int32)) (pc' := 253) at_251 rfl rfl
                      have A423 := A422.iloadN (v := b0) (pc' := 254) at_253 rfl rfl
                      have A424 := A423.iloadN (v := b1) (pc' := 255) at_254 rfl rfl
                      have A425 := A424.iload (v := b2) (pc' := 257) at_255 rfl rfl
                      have A426 := A425.lload (v := v) (pc' := 259) at_257 rfl rfl
                      obtain ⟨r428, _, ⟨rfl, q429⟩, A427⟩ := W.kI (A426.callS (argsL := [(.ref r290), (.int (7 : Int32)), (.int (1 : Int32)), (.int b0), (.int b1), (.int b2), (.long v)]) (rest := []) (C' := 4) (S' := 37) (pc' := 262) at_259 (hw _ (List.mem_of_getElem? (i := 49) rfl)) (hw _ (List.mem_of_getElem? (i := 50) rfl)) (hw _ (List.mem_of_getElem? (i := 51) rfl)) (hw _ (List.mem_of_getElem? (i := 52) rfl)) (rm10 l Z a0 hw n0 [] (r290) ((7 : Int32)) ((1 : Int32)) (b0) (b1) (b2) (v) (u295) (u296) ((0 : Int32)) h293 A426.size f297 (by refine ⟨by decide, by decide, ?_⟩; omega) (by intro hx; exfalso; have lk : (7 : Int32).toInt = 7 := rfl; omega)) rfl rfl pd_6 rfl rfl (by decide) (by decide) (Nat.le_of_ble_eq_true rfl) (by decide) (by decide) rfl rfl rfl)
                      have lk7 : (7 : Int32).toInt = 7 := rfl
                      by_cases c431 : r428.toInt = 0
                      · have A432 := A427.ifYes (pc' := 323) at_262 (teq (ieq (x := r428) (y := (0 : Int32)) rfl rfl c431)).1 (by decide) (by decide)
                        have A433 := A432.iconst (z := (0 : Int32)) (pc' := 324) at_323 rfl rfl
                        refine A433.retN (t := .boolean) (z' := (0 : Int32)) at_324 (by decide) (by decide) (by simp) rfl ⟨_, rfl, ⟨trivial, ?_⟩⟩
                        have elit : (0 : Int32).toInt = 0 := rfl
                        exfalso
                        omega
                      · have A434 := A427.ifNo (pc' := 265) at_262 (feq (ine (x := r428) (y := (0 : Int32)) rfl rfl c431)).1 rfl
                        have A435 := A434.aload (v := (.ref r290)) (pc' := 267) at_265 rfl rfl rfl
                        have A436 := A435.bipush (z := (8 : Int32)) (pc' := 269) at_267 rfl rfl
                        have A437 := A436.iload (v := (1 : Int32)) (pc' := 271) at_269 rfl rfl
                        have A438 := A437.iloadN (v := b0) (pc' := 272) at_271 rfl rfl
                        have A439 := A438.iloadN (v := b1) (pc' := 273) at_272 rfl rfl
                        have A440 := A439.iload (v := b2) (pc' := 275) at_273 rfl rfl
                        have A441 := A440.lload (v := v) (pc' := 277) at_275 rfl rfl
                        obtain ⟨r443, _, ⟨rfl, q444⟩, A442⟩ := W.kI (A441.callS (argsL := [(.ref r290), (.int (8 : Int32)), (.int (1 : Int32)), (.int b0), (.int b1), (.int b2), (.long v)]) (rest := []) (C' := 4) (S' := 37) (pc' := 280) at_277 (hw _ (List.mem_of_getElem? (i := 49) rfl)) (hw _ (List.mem_of_getElem? (i := 50) rfl)) (hw _ (List.mem_of_getElem? (i := 51) rfl)) (hw _ (List.mem_of_getElem? (i := 52) rfl)) (rm10 l Z a0 hw n0 [] (r290) ((8 : Int32)) ((1 : Int32)) (b0) (b1) (b2) (v) (u295) (u296) ((0 : Int32)) h293 A441.size f297 (by refine ⟨by decide, by decide, ?_⟩; omega) (by intro hx; exfalso; have lk : (8 : Int32).toInt = 8 := rfl; omega)) rfl rfl pd_6 rfl rfl (by decide) (by decide) (Nat.le_of_ble_eq_true rfl) (by decide) (by decide) rfl rfl rfl)
                        have lk8 : (8 : Int32).toInt = 8 := rfl
                        by_cases c446 : r443.toInt = 0
                        · have A447 := A442.ifYes (pc' := 323) at_280 (teq (ieq (x := r443) (y := (0 : Int32)) rfl rfl c446)).1 (by decide) (by decide)
                          have A448 := A447.iconst (z := (0 : Int32)) (pc' := 324) at_323 rfl rfl
                          refine A448.retN (t := .boolean) (z' := (0 : Int32)) at_324 (by decide) (by decide) (by simp) rfl ⟨_, rfl, ⟨trivial, ?_⟩⟩
                          have elit : (0 : Int32).toInt = 0 := rfl
                          exfalso
                          omega
                        · have A449 := A442.ifNo (pc' := 283) at_280 (feq (ine (x := r443) (y := (0 : Int32)) rfl rfl c446)).1 rfl
                          have A450 := A449.aload (v := (.ref r290)) (pc' := 285) at_283 rfl rfl rfl
                          have A451 := A450.bipush (z := (9 : Int32)) (pc' := 287) at_285 rfl rfl
                          have A452 := A451.iload (v := (1 : Int32)) (pc' := 289) at_287 rfl rfl
                          have A453 := A452.iloadN (v := b0) (pc' := 290) at_289 rfl rfl
                          have A454 := A453.iloadN (v := b1) (pc' := 291) at_290 rfl rfl
                          have A455 := A454.iload (v := b2) (pc' := 293) at_291 rfl rfl
                          have A456 := A455.lload (v := v) (pc' := 295) at_293 rfl rfl
                          obtain ⟨r458, _, ⟨rfl, q459⟩, A457⟩ := W.kI (A456.callS (argsL := [(.ref r290), (.int (9 : Int32)), (.int (1 : Int32)), (.int b0), (.int b1), (.int b2), (.long v)]) (rest := []) (C' := 4) (S' := 37) (pc' := 298) at_295 (hw _ (List.mem_of_getElem? (i := 49) rfl)) (hw _ (List.mem_of_getElem? (i := 50) rfl)) (hw _ (List.mem_of_getElem? (i := 51) rfl)) (hw _ (List.mem_of_getElem? (i := 52) rfl)) (rm10 l Z a0 hw n0 [] (r290) ((9 : Int32)) ((1 : Int32)) (b0) (b1) (b2) (v) (u295) (u296) ((0 : Int32)) h293 A456.size f297 (by refine ⟨by decide, by decide, ?_⟩; omega) (by intro hx; exfalso; have lk : (9 : Int32).toInt = 9 := rfl; omega)) rfl rfl pd_6 rfl rfl (by decide) (by decide) (Nat.le_of_ble_eq_true rfl) (by decide) (by decide) rfl rfl rfl)
                          have lk9 : (9 : Int32).toInt = 9 := rfl
                          by_cases c461 : r458.toInt = 0
                          · have A462 := A457.ifYes (pc' := 323) at_298 (teq (ieq (x := r458) (y := (0 : Int32)) rfl rfl c461)).1 (by decide) (by decide)
                            have A463 := A462.iconst (z := (0 : Int32)) (pc' := 324) at_323 rfl rfl
                            refine A463.retN (t := .boolean) (z' := (0 : Int32)) at_324 (by decide) (by decide) (by simp) rfl ⟨_, rfl, ⟨trivial, ?_⟩⟩
                            have elit : (0 : Int32).toInt = 0 := rfl
                            exfalso
                            omega
                          · have A464 := A457.ifNo (pc' := 301) at_298 (feq (ine (x := r458) (y := (0 : Int32)) rfl rfl c461)).1 rfl
                            have A465 := A464.aload (v := (.ref r290)) (pc' := 303) at_301 rfl rfl rfl
                            have A466 := A465.bipush (z := (10 : Int32)) (pc' := 305) at_303 rfl rfl
                            have A467 := A466.iload (v := (1 : Int32)) (pc' := 307) at_305 rfl rfl
                            have A468 := A467.iloadN (v := b0) (pc' := 308) at_307 rfl rfl
                            have A469 := A468.iloadN (v := b1) (pc' := 309) at_308 rfl rfl
                            have A470 := A469.iload (v := b2) (pc' := 311) at_309 rfl rfl
                            have A471 := A470.lload (v := v) (pc' := 313) at_311 rfl rfl
                            obtain ⟨r473, _, ⟨rfl, q474⟩, A472⟩ := W.kI (A471.callS (argsL := [(.ref r290), (.int (10 : Int32)), (.int (1 : Int32)), (.int b0), (.int b1), (.int b2), (.long v)]) (rest := []) (C' := 4) (S' := 37) (pc' := 316) at_313 (hw _ (List.mem_of_getElem? (i := 49) rfl)) (hw _ (List.mem_of_getElem? (i := 50) rfl)) (hw _ (List.mem_of_getElem? (i := 51) rfl)) (hw _ (List.mem_of_getElem? (i := 52) rfl)) (rm10 l Z a0 hw n0 [] (r290) ((10 : Int32)) ((1 : Int32)) (b0) (b1) (b2) (v) (u295) (u296) ((0 : Int32)) h293 A471.size f297 (by refine ⟨by decide, by decide, ?_⟩; omega) (by intro hx; exfalso; have lk : (10 : Int32).toInt = 10 := rfl; omega)) rfl rfl pd_6 rfl rfl (by decide) (by decide) (Nat.le_of_ble_eq_true rfl) (by decide) (by decide) rfl rfl rfl)
                            have lk10 : (10 : Int32).toInt = 10 := rfl
                            by_cases c476 : r473.toInt = 0
                            · have A477 := A472.ifYes (pc' := 323) at_316 (teq (ieq (x := r473) (y := (0 : Int32)) rfl rfl c476)).1 (by decide) (by decide)
                              have A478 := A477.iconst (z := (0 : Int32)) (pc' := 324) at_323 rfl rfl
                              refine A478.retN (t := .boolean) (z' := (0 : Int32)) at_324 (by decide) (by decide) (by simp) rfl ⟨_, rfl, ⟨trivial, ?_⟩⟩
                              have elit : (0 : Int32).toInt = 0 := rfl
                              exfalso
                              omega
                            · have A479 := A472.ifNo (pc' := 319) at_316 (feq (ine (x := r473) (y := (0 : Int32)) rfl rfl c476)).1 rfl
                              have A480 := A479.iconst (z := (1 : Int32)) (pc' := 320) at_319 rfl rfl
                              have A481 := A480.goto (pc' := 324) at_320 (by decide) (by decide)
                              refine A481.retN (t := .boolean) (z' := (1 : Int32)) at_324 (by decide) (by decide) (by simp) rfl ⟨_, rfl, ⟨trivial, ?_⟩⟩
                              have elit : (1 : Int32).toInt = 1 := rfl
                              rfl
      · have A482 := A312.icmpNo (pc' := 125) at_122 (feq (ine (x := (Int32.ofNat u295)) (y := (1 : Int32)) rfl rfl c313)).1 rfl
        have A483 := A482.iconst (z := (0 : Int32)) (pc' := 126) at_125 rfl rfl
        refine A483.retN (t := .boolean) (z' := (0 : Int32)) at_126 (by decide) (by decide) (by simp) rfl ⟨_, rfl, ⟨trivial, ?_⟩⟩
        have elit : (0 : Int32).toInt = 0 := rfl
        exfalso
        omega
    · have A484 := A43.cast (Ls' := #[.val (.int xc), .val (.int xn), .val (.int b0), .val (.int b1), .val (.int b2), .val (.long v), .second, .val (.int cp), .val (.int (2 : Int32)), .val (.int (0 : Int32)), .val (.ref b20), .unset, .unset]) rfl (by rw [hn]) rfl
      have A485 := A484.iload (v := (2 : Int32)) (pc' := 39) at_37 rfl rfl
      have A487 := A485.ifNo (pc' := 42) at_39 (tlt (igt (x := (2 : Int32)) (y := (0 : Int32)) rfl rfl (by decide : (0 : Int) < 2))).2.2.2 rfl
      have A488 := A487.aload (v := (.ref b20)) (pc' := 44) at_42 rfl rfl rfl
      have A489 := A488.iloadN (v := b0) (pc' := 45) at_44 rfl rfl
      have f490 := (X24.keep K35)
      obtain ⟨r492, h494, ⟨u496, u497, u498, u499, K495, f500, f501, f502, f503, f504, q493⟩, A491⟩ := W.kA (A489.callV (a := b20) (argsL := [(.int b0)]) (rest := []) (C' := 3) (S' := 23) (pc' := 48) at_45 f490 (hw _ (List.mem_of_getElem? (i := 12) rfl)) (hw _ (List.mem_of_getElem? (i := 13) rfl)) (fun hZ => notFace_of_selects (args := #[]) (mvT hZ (hw _ (List.mem_of_getElem? (i := 15) rfl)))) (hw _ (List.mem_of_getElem? (i := 15) rfl)) (hw _ (List.mem_of_getElem? (i := 14) rfl)) (hw _ (List.mem_of_getElem? (i := 2) rfl)) (hw _ (List.mem_of_getElem? (i := 16) rfl)) (rm3 l Z a0 hw n0 [] (b20) (b0) (b36) (cp.toInt.toNat) ((fun _ => (.int (0 : Int32)))) ((0 : Int32)) h34 A489.size f490 g22 f39 f40 f41 g37 ne42 (by omega)) rfl rfl pd_7 rfl rfl (by decide) (by decide) (Nat.le_of_ble_eq_true rfl) (by decide) (by decide) rfl rfl rfl)
      obtain ⟨-, -, hs0, hle0, hN0, hold0, hnew0⟩ := q493
      have ct505 : u498 0 = .int b0.toInt8.toInt32 := by have e : (0 : Int32).toInt.toNat = 0 := (by omega); rw [← e]; exact hnew0
      have A506 := A491.pop (pc' := 49) at_48 rfl rfl
      have A507 := A506.iload (v := (2 : Int32)) (pc' := 51) at_49 rfl rfl
      have A508 := A507.iconst (z := (1 : Int32)) (pc' := 52) at_51 rfl rfl
      have A510 := A508.icmpNo (pc' := 55) at_52 (tlt (igt (x := (2 : Int32)) (y := (1 : Int32)) rfl rfl (by decide : (1 : Int) < 2))).2.2.2 rfl
      have A511 := A510.aload (v := (.ref b20)) (pc' := 57) at_55 rfl rfl rfl
      have A512 := A511.iloadN (v := b1) (pc' := 58) at_57 rfl rfl
      have f513 := (f490.keep K495)
      obtain ⟨r515, h517, ⟨u519, u520, u521, u522, K518, f523, f524, f525, f526, f527, q516⟩, A514⟩ := W.kA (A512.callV (a := b20) (argsL := [(.int b1)]) (rest := []) (C' := 4) (S' := 37) (pc' := 61) at_58 f513 (hw _ (List.mem_of_getElem? (i := 12) rfl)) (hw _ (List.mem_of_getElem? (i := 13) rfl)) (fun hZ => notFace_of_selects (args := #[]) (mvT hZ (hw _ (List.mem_of_getElem? (i := 15) rfl)))) (hw _ (List.mem_of_getElem? (i := 15) rfl)) (hw _ (List.mem_of_getElem? (i := 14) rfl)) (hw _ (List.mem_of_getElem? (i := 2) rfl)) (hw _ (List.mem_of_getElem? (i := 16) rfl)) (rm3 l Z a0 hw n0 [] (b20) (b1) (u496) (u497) (u498) (u499) h494 A512.size f513 g22 f500 f501 f502 f503 f504 (by omega)) rfl rfl pd_7 rfl rfl (by decide) (by decide) (Nat.le_of_ble_eq_true rfl) (by decide) (by decide) rfl rfl rfl)
      obtain ⟨-, -, hs1, hle1, hN1, hold1, hnew1⟩ := q516
      have ct528 : u521 0 = .int b0.toInt8.toInt32 := (hold1 0 (by omega)).trans ct505
      have ct529 : u521 1 = .int b1.toInt8.toInt32 := by have e : u499.toInt.toNat = 1 := (by omega); rw [← e]; exact hnew1
      have A530 := A514.pop (pc' := 62) at_61 rfl rfl
      have A531 := A530.iload (v := (2 : Int32)) (pc' := 64) at_62 rfl rfl
      have A532 := A531.iconst (z := (2 : Int32)) (pc' := 65) at_64 rfl rfl
      have A534 := A532.icmpYes (pc' := 76) at_65 (flt (ingt (x := (2 : Int32)) (y := (2 : Int32)) rfl rfl (by decide : ¬ ((2 : Int) < 2)))).2.2.2 (by decide) (by decide)
      have A535 := A534.iload (v := (0 : Int32)) (pc' := 78) at_76 rfl rfl
      have A537 := A535.ifYes (pc' := 89) at_78 (teq (ieq (x := (0 : Int32)) (y := (0 : Int32)) rfl rfl (by decide : (0 : Int) = 0))).1 (by decide) (by decide)
      have A538 := A537.aload (v := (.ref b20)) (pc' := 91) at_89 rfl rfl rfl
      have f541 := (f513.keep K518)
      obtain ⟨r540, h543, ⟨u545, u546, K544, f547, q542⟩, A539⟩ := W.kA (A538.callV (a := b20) (argsL := []) (rest := []) (C' := 5) (S' := 51) (pc' := 94) at_91 f541 (hw _ (List.mem_of_getElem? (i := 44) rfl)) (hw _ (List.mem_of_getElem? (i := 45) rfl)) (fun hZ => notFace_of_selects (args := #[]) (mvT hZ (hw _ (List.mem_of_getElem? (i := 47) rfl)))) (hw _ (List.mem_of_getElem? (i := 47) rfl)) (hw _ (List.mem_of_getElem? (i := 46) rfl)) (hw _ (List.mem_of_getElem? (i := 2) rfl)) (hw _ (List.mem_of_getElem? (i := 48) rfl)) (rm9 l Z a0 hw n0 [] (b20) (u519) (u520) (u521) (u522) h517 A538.size f523 f524 f525 (by omega)) rfl rfl pd_5 rfl rfl (by decide) (by decide) (Nat.le_of_ble_eq_true rfl) (by decide) (by decide) rfl rfl rfl)
      obtain ⟨hN3, holdA⟩ := q542
      have tN3 : (Int32.ofNat u545).toInt = u545 := Int32.toInt_ofNat_of_lt (by omega)
      have ct548 : u546 0 = .int b0.toInt8.toInt32 := (holdA 0 (by omega)).trans ct528
      have ct549 : u546 1 = .int b1.toInt8.toInt32 := (holdA 1 (by omega)).trans ct529
      have A550 := A539.astore (Ls' := #[.val (.int xc), .val (.int xn), .val (.int b0), .val (.int b1), .val (.int b2), .val (.long v), .second, .val (.int cp), .val (.int (2 : Int32)), .val (.int (0 : Int32)), .val (.ref b20), .val (.ref r540), .unset]) (pc' := 96) at_94 rfl rfl rfl
      have A551 := A550.iload (v := (2 : Int32)) (pc' := 98) at_96 rfl rfl
      have A552 := A551.iload (v := (0 : Int32)) (pc' := 100) at_98 rfl rfl
      have A554 := A552.ifYes (pc' := 108) at_100 (teq (ieq (x := (0 : Int32)) (y := (0 : Int32)) rfl rfl (by decide : (0 : Int) = 0))).1 (by decide) (by decide)
      have A555 := A554.iconst (z := (0 : Int32)) (pc' := 109) at_108 rfl rfl
      have A556 := A555.iadd (pc' := 110) at_109 rfl
      have A557 := A556.topI (z := (2 : Int32)) (by decide)
      have A558 := A557.istore (Ls' := #[.val (.int xc), .val (.int xn), .val (.int b0), .val (.int b1), .val (.int b2), .val (.long v), .second, .val (.int cp), .val (.int (2 : Int32)), .val (.int (0 : Int32)), .val (.ref b20), .val (.ref r540), .val (.int (2 : Int32))]) (pc' := 112) at_110 rfl rfl
      have A559 := A558.aload (v := (.ref r540)) (pc' := 114) at_112 rfl rfl rfl
      have A560 := A559.ifnullNo (pc' := 117) at_114 rfl
      have A561 := A560.aload (v := (.ref r540)) (pc' := 119) at_117 rfl rfl rfl
      have A562 := A561.alen (z := (Int32.ofNat u545)) (pc' := 120) at_119 f547 (Int32.toInt_ofNat_small f547.size) rfl
      have A563 := A562.iload (v := (2 : Int32)) (pc' := 122) at_120 rfl rfl
      by_cases c564 : (Int32.ofNat u545).toInt = 2
      · have A565 := A563.icmpYes (pc' := 127) at_122 (teq (ieq (x := (Int32.ofNat u545)) (y := (2 : Int32)) rfl rfl c564)).1 (by decide) (by decide)
        have A566 := A565.aload (v := (.ref r540)) (pc' := 129) at_127 rfl rfl rfl
        have A567 := A566.iconst (z := (0 : Int32)) (pc' := 130) at_129 rfl rfl
        have A568 := A567.iload (v := (2 : Int32)) (pc' := 132) at_130 rfl rfl
        have A569 := A568.iloadN (v := b0) (pc' := 133) at_132 rfl rfl
        have A570 := A569.iloadN (v := b1) (pc' := 134) at_133 rfl rfl
        have A571 := A570.iload (v := b2) (pc' := 136) at_134 rfl rfl
        have A572 := A571.lload (v := v) (pc' := 138) at_136 rfl rfl
        obtain ⟨r574, _, ⟨rfl, q575⟩, A573⟩ := W.kI (A572.callS (argsL := [(.ref r540), (.int (0 : Int32)), (.int (2 : Int32)), (.int b0), (.int b1), (.int b2), (.long v)]) (rest := []) (C' := 5) (S' := 51) (pc' := 141) at_138 (hw _ (List.mem_of_getElem? (i := 49) rfl)) (hw _ (List.mem_of_getElem? (i := 50) rfl)) (hw _ (List.mem_of_getElem? (i := 51) rfl)) (hw _ (List.mem_of_getElem? (i := 52) rfl)) (rm10 l Z a0 hw n0 [] (r540) ((0 : Int32)) ((2 : Int32)) (b0) (b1) (b2) (v) (u545) (u546) (b0.toInt8.toInt32) h543 A572.size f547 (by refine ⟨by decide, by decide, ?_⟩; omega) (by intro _; exact ct548)) rfl rfl pd_6 rfl rfl (by decide) (by decide) (Nat.le_of_ble_eq_true rfl) (by decide) (by decide) rfl rfl rfl)
        have lk0 : (0 : Int32).toInt = 0 := rfl
        have x0 : (b0.toInt8.toInt32).toInt = (own_ex (0 : Int32) (2 : Int32) b0 b1 b2 v).toInt := rfl
        by_cases c577 : r574.toInt = 0
        · have A578 := A573.ifYes (pc' := 323) at_141 (teq (ieq (x := r574) (y := (0 : Int32)) rfl rfl c577)).1 (by decide) (by decide)
          have A579 := A578.iconst (z := (0 : Int32)) (pc' := 324) at_323 rfl rfl
          refine A579.retN (t := .boolean) (z' := (0 : Int32)) at_324 (by decide) (by decide) (by simp) rfl ⟨_, rfl, ⟨trivial, ?_⟩⟩
          have elit : (0 : Int32).toInt = 0 := rfl
          exfalso
          omega
        · have A580 := A573.ifNo (pc' := 144) at_141 (feq (ine (x := r574) (y := (0 : Int32)) rfl rfl c577)).1 rfl
          have A581 := A580.aload (v := (.ref r540)) (pc' := 146) at_144 rfl rfl rfl
          have A582 := A581.iconst (z := (1 : Int32)) (pc' := 147) at_146 rfl rfl
          have A583 := A582.iload (v := (2 : Int32)) (pc' := 149) at_147 rfl rfl
          have A584 := A583.iloadN (v := b0) (pc' := 150) at_149 rfl rfl
          have A585 := A584.iloadN (v := b1) (pc' := 151) at_150 rfl rfl
          have A586 := A585.iload (v := b2) (pc' := 153) at_151 rfl rfl
          have A587 := A586.lload (v := v) (pc' := 155) at_153 rfl rfl
          obtain ⟨r589, _, ⟨rfl, q590⟩, A588⟩ := W.kI (A587.callS (argsL := [(.ref r540), (.int (1 : Int32)), (.int (2 : Int32)), (.int b0), (.int b1), (.int b2), (.long v)]) (rest := []) (C' := 5) (S' := 51) (pc' := 158) at_155 (hw _ (List.mem_of_getElem? (i := 49) rfl)) (hw _ (List.mem_of_getElem? (i := 50) rfl)) (hw _ (List.mem_of_getElem? (i := 51) rfl)) (hw _ (List.mem_of_getElem? (i := 52) rfl)) (rm10 l Z a0 hw n0 [] (r540) ((1 : Int32)) ((2 : Int32)) (b0) (b1) (b2) (v) (u545) (u546) (b1.toInt8.toInt32) h543 A587.size f547 (by refine ⟨by decide, by decide, ?_⟩; omega) (by intro _; exact ct549)) rfl rfl pd_6 rfl rfl (by decide) (by decide) (Nat.le_of_ble_eq_true rfl) (by decide) (by decide) rfl rfl rfl)
          have lk1 : (1 : Int32).toInt = 1 := rfl
          have x1 : (b1.toInt8.toInt32).toInt = (own_ex (1 : Int32) (2 : Int32) b0 b1 b2 v).toInt := rfl
          by_cases c592 : r589.toInt = 0
          · have A593 := A588.ifYes (pc' := 323) at_158 (teq (ieq (x := r589) (y := (0 : Int32)) rfl rfl c592)).1 (by decide) (by decide)
            have A594 := A593.iconst (z := (0 : Int32)) (pc' := 324) at_323 rfl rfl
            refine A594.retN (t := .boolean) (z' := (0 : Int32)) at_324 (by decide) (by decide) (by simp) rfl ⟨_, rfl, ⟨trivial, ?_⟩⟩
            have elit : (0 : Int32).toInt = 0 := rfl
            exfalso
            omega
          · have A595 := A588.ifNo (pc' := 161) at_158 (feq (ine (x := r589) (y := (0 : Int32)) rfl rfl c592)).1 rfl
            have A596 := A595.aload (v := (.ref r540)) (pc' := 163) at_161 rfl rfl rfl
            have A597 := A596.iconst (z := (2 : Int32)) (pc' := 164) at_163 rfl rfl
            have A598 := A597.iload (v := (2 : Int32)) (pc' := 166) at_164 rfl rfl
            have A599 := A598.iloadN (v := b0) (pc' := 167) at_166 rfl rfl
            have A600 := A599.iloadN (v := b1) (pc' := 168) at_167 rfl rfl
            have A601 := A600.iload (v := b2) (pc' := 170) at_168 rfl rfl
            have A602 := A601.lload (v := v) (pc' := 172) at_170 rfl rfl
            obtain ⟨r604, _, ⟨rfl, q605⟩, A603⟩ := W.kI (A602.callS (argsL := [(.ref r540), (.int (2 : Int32)), (.int (2 : Int32)), (.int b0), (.int b1), (.int b2), (.long v)]) (rest := []) (C' := 5) (S' := 51) (pc' := 175) at_172 (hw _ (List.mem_of_getElem? (i := 49) rfl)) (hw _ (List.mem_of_getElem? (i := 50) rfl)) (hw _ (List.mem_of_getElem? (i := 51) rfl)) (hw _ (List.mem_of_getElem? (i := 52) rfl)) (rm10 l Z a0 hw n0 [] (r540) ((2 : Int32)) ((2 : Int32)) (b0) (b1) (b2) (v) (u545) (u546) ((0 : Int32)) h543 A602.size f547 (by refine ⟨by decide, by decide, ?_⟩; omega) (by intro hx; exfalso; have lk : (2 : Int32).toInt = 2 := rfl; omega)) rfl rfl pd_6 rfl rfl (by decide) (by decide) (Nat.le_of_ble_eq_true rfl) (by decide) (by decide) rfl rfl rfl)
            have lk2 : (2 : Int32).toInt = 2 := rfl
            by_cases c607 : r604.toInt = 0
            · have A608 := A603.ifYes (pc' := 323) at_175 (teq (ieq (x := r604) (y := (0 : Int32)) rfl rfl c607)).1 (by decide) (by decide)
              have A609 := A608.iconst (z := (0 : Int32)) (pc' := 324) at_323 rfl rfl
              refine A609.retN (t := .boolean) (z' := (0 : Int32)) at_324 (by decide) (by decide) (by simp) rfl ⟨_, rfl, ⟨trivial, ?_⟩⟩
              have elit : (0 : Int32).toInt = 0 := rfl
              exfalso
              omega
            · have A610 := A603.ifNo (pc' := 178) at_175 (feq (ine (x := r604) (y := (0 : Int32)) rfl rfl c607)).1 rfl
              have A611 := A610.aload (v := (.ref r540)) (pc' := 180) at_178 rfl rfl rfl
              have A612 := A611.iconst (z := (3 : Int32)) (pc' := 181) at_180 rfl rfl
              have A613 := A612.iload (v := (2 : Int32)) (pc' := 183) at_181 rfl rfl
              have A614 := A613.iloadN (v := b0) (pc' := 184) at_183 rfl rfl
              have A615 := A614.iloadN (v := b1) (pc' := 185) at_184 rfl rfl
              have A616 := A615.iload (v := b2) (pc' := 187) at_185 rfl rfl
              have A617 := A616.lload (v := v) (pc' := 189) at_187 rfl rfl
              obtain ⟨r619, _, ⟨rfl, q620⟩, A618⟩ := W.kI (A617.callS (argsL := [(.ref r540), (.int (3 : Int32)), (.int (2 : Int32)), (.int b0), (.int b1), (.int b2), (.long v)]) (rest := []) (C' := 5) (S' := 51) (pc' := 192) at_189 (hw _ (List.mem_of_getElem? (i := 49) rfl)) (hw _ (List.mem_of_getElem? (i := 50) rfl)) (hw _ (List.mem_of_getElem? (i := 51) rfl)) (hw _ (List.mem_of_getElem? (i := 52) rfl)) (rm10 l Z a0 hw n0 [] (r540) ((3 : Int32)) ((2 : Int32)) (b0) (b1) (b2) (v) (u545) (u546) ((0 : Int32)) h543 A617.size f547 (by refine ⟨by decide, by decide, ?_⟩; omega) (by intro hx; exfalso; have lk : (3 : Int32).toInt = 3 := rfl; omega)) rfl rfl pd_6 rfl rfl (by decide) (by decide) (Nat.le_of_ble_eq_true rfl) (by decide) (by decide) rfl rfl rfl)
              have lk3 : (3 : Int32).toInt = 3 := rfl
              by_cases c622 : r619.toInt = 0
              · have A623 := A618.ifYes (pc' := 323) at_192 (teq (ieq (x := r619) (y := (0 : Int32)) rfl rfl c622)).1 (by decide) (by decide)
                have A624 := A623.iconst (z := (0 : Int32)) (pc' := 324) at_323 rfl rfl
                refine A624.retN (t := .boolean) (z' := (0 : Int32)) at_324 (by decide) (by decide) (by simp) rfl ⟨_, rfl, ⟨trivial, ?_⟩⟩
                have elit : (0 : Int32).toInt = 0 := rfl
                exfalso
                omega
              · have A625 := A618.ifNo (pc' := 195) at_192 (feq (ine (x := r619) (y := (0 : Int32)) rfl rfl c622)).1 rfl
                have A626 := A625.aload (v := (.ref r540)) (pc' := 197) at_195 rfl rfl rfl
                have A627 := A626.iconst (z := (4 : Int32)) (pc' := 198) at_197 rfl rfl
                have A628 := A627.iload (v := (2 : Int32)) (pc' := 200) at_198 rfl rfl
                have A629 := A628.iloadN (v := b0) (pc' := 201) at_200 rfl rfl
                have A630 := A629.iloadN (v := b1) (pc' := 202) at_201 rfl rfl
                have A631 := A630.iload (v := b2) (pc' := 204) at_202 rfl rfl
                have A632 := A631.lload (v := v) (pc' := 206) at_204 rfl rfl
                obtain ⟨r634, _, ⟨rfl, q635⟩, A633⟩ := W.kI (A632.callS (argsL := [(.ref r540), (.int (4 : Int32)), (.int (2 : Int32)), (.int b0), (.int b1), (.int b2), (.long v)]) (rest := []) (C' := 5) (S' := 51) (pc' := 209) at_206 (hw _ (List.mem_of_getElem? (i := 49) rfl)) (hw _ (List.mem_of_getElem? (i := 50) rfl)) (hw _ (List.mem_of_getElem? (i := 51) rfl)) (hw _ (List.mem_of_getElem? (i := 52) rfl)) (rm10 l Z a0 hw n0 [] (r540) ((4 : Int32)) ((2 : Int32)) (b0) (b1) (b2) (v) (u545) (u546) ((0 : Int32)) h543 A632.size f547 (by refine ⟨by decide, by decide, ?_⟩; omega) (by intro hx; exfalso; have lk : (4 : Int32).toInt = 4 := rfl; omega)) rfl rfl pd_6 rfl rfl (by decide) (by decide) (Nat.le_of_ble_eq_true rfl) (by decide) (by decide) rfl rfl rfl)
                have lk4 : (4 : Int32).toInt = 4 := rfl
                by_cases c637 : r634.toInt = 0
                · have A638 := A633.ifYes (pc' := 323) at_209 (teq (ieq (x := r634) (y := (0 : Int32)) rfl rfl c637)).1 (by decide) (by decide)
                  have A639 := A638.iconst (z := (0 : Int32)) (pc' := 324) at_323 rfl rfl
                  refine A639.retN (t := .boolean) (z' := (0 : Int32)) at_324 (by decide) (by decide) (by simp) rfl ⟨_, rfl, ⟨trivial, ?_⟩⟩
                  have elit : (0 : Int32).toInt = 0 := rfl
                  exfalso
                  omega
                · have A640 := A633.ifNo (pc' := 212) at_209 (feq (ine (x := r634) (y := (0 : Int32)) rfl rfl c637)).1 rfl
                  have A641 := A640.aload (v := (.ref r540)) (pc' := 214) at_212 rfl rfl rfl
                  have A642 := A641.iconst (z := (5 : Int32)) (pc' := 215) at_214 rfl rfl
                  have A643 := A642.iload (v := (2 : Int32)) (pc' := 217) at_215 rfl rfl
                  have A644 := A643.iloadN (v := b0) (pc' := 218) at_217 rfl rfl
                  have A645 := A644.iloadN (v := b1) (pc' := 219) at_218 rfl rfl
                  have A646 := A645.iload (v := b2) (pc' := 221) at_219 rfl rfl
                  have A647 := A646.lload (v := v) (pc' := 223) at_221 rfl rfl
                  obtain ⟨r649, _, ⟨rfl, q650⟩, A648⟩ := W.kI (A647.callS (argsL := [(.ref r540), (.int (5 : Int32)), (.int (2 : Int32)), (.int b0), (.int b1), (.int b2), (.long v)]) (rest := []) (C' := 5) (S' := 51) (pc' := 226) at_223 (hw _ (List.mem_of_getElem? (i := 49) rfl)) (hw _ (List.mem_of_getElem? (i := 50) rfl)) (hw _ (List.mem_of_getElem? (i := 51) rfl)) (hw _ (List.mem_of_getElem? (i := 52) rfl)) (rm10 l Z a0 hw n0 [] (r540) ((5 : Int32)) ((2 : Int32)) (b0) (b1) (b2) (v) (u545) (u546) ((0 : Int32)) h543 A647.size f547 (by refine ⟨by decide, by decide, ?_⟩; omega) (by intro hx; exfalso; have lk : (5 : Int32).toInt = 5 := rfl; omega)) rfl rfl pd_6 rfl rfl (by decide) (by decide) (Nat.le_of_ble_eq_true rfl) (by decide) (by decide) rfl rfl rfl)
                  have lk5 : (5 : Int32).toInt = 5 := rfl
                  by_cases c652 : r649.toInt = 0
                  · have A653 := A648.ifYes (pc' := 323) at_226 (teq (ieq (x := r649) (y := (0 : Int32)) rfl rfl c652)).1 (by decide) (by decide)
                    have A654 := A653.iconst (z := (0 : Int32)) (pc' := 324) at_323 rfl rfl
                    refine A654.retN (t := .boolean) (z' := (0 : Int32)) at_324 (by decide) (by decide) (by simp) rfl ⟨_, rfl, ⟨trivial, ?_⟩⟩
                    have elit : (0 : Int32).toInt = 0 := rfl
                    exfalso
                    omega
                  · have A655 := A648.ifNo (pc' := 229) at_226 (feq (ine (x := r649) (y := (0 : Int32)) rfl rfl c652)).1 rfl
                    have A656 := A655.aload (v := (.ref r540)) (pc' := 231) at_229 rfl rfl rfl
                    have A657 := A656.bipush (z := (6 : Int32)) (pc' := 233) at_231 rfl rfl
                    have A658 := A657.iload (v := (2 : Int32)) (pc' := 235) at_233 rfl rfl
                    have A659 := A658.iloadN (v := b0) (pc' := 236) at_235 rfl rfl
                    have A660 := A659.iloadN (v := b1) (pc' := 237) at_236 rfl rfl
                    have A661 := A660.iload (v := b2) (pc' := 239) at_237 rfl rfl
                    have A662 := A661.lload (v := v) (pc' := 241) at_239 rfl rfl
                    obtain ⟨r664, _, ⟨rfl, q665⟩, A663⟩ := W.kI (A662.callS (argsL := [(.ref r540), (.int (6 : Int32)), (.int (2 : Int32)), (.int b0), (.int b1), (.int b2), (.long v)]) (rest := []) (C' := 5) (S' := 51) (pc' := 244) at_241 (hw _ (List.mem_of_getElem? (i := 49) rfl)) (hw _ (List.mem_of_getElem? (i := 50) rfl)) (hw _ (List.mem_of_getElem? (i := 51) rfl)) (hw _ (List.mem_of_getElem? (i := 52) rfl)) (rm10 l Z a0 hw n0 [] (r540) ((6 : Int32)) ((2 : Int32)) (b0) (b1) (b2) (v) (u545) (u546) ((0 : Int32)) h543 A662.size f547 (by refine ⟨by decide, by decide, ?_⟩; omega) (by intro hx; exfalso; have lk : (6 : Int32).toInt = 6 := rfl; omega)) rfl rfl pd_6 rfl rfl (by decide) (by decide) (Nat.le_of_ble_eq_true rfl) (by decide) (by decide) rfl rfl rfl)
                    have lk6 : (6 : Int32).toInt = 6 := rfl
                    by_cases c667 : r664.toInt = 0
                    · have A668 := A663.ifYes (pc' := 323) at_244 (teq (ieq (x := r664) (y := (0 : Int32)) rfl rfl c667)).1 (by decide) (by decide)
                      have A669 := A668.iconst (z := (0 : Int32)) (pc' := 324) at_323 rfl rfl
                      refine A669.retN (t := .boolean) (z' := (0 : Int32)) at_324 (by decide) (by decide) (by simp) rfl ⟨_, rfl, ⟨trivial, ?_⟩⟩
                      have elit : (0 : Int32).toInt = 0 := rfl
                      exfalso
                      omega
                    · have A670 := A663.ifNo (pc' := 247) at_244 (feq (ine (x := r664) (y := (0 : Int32)) rfl rfl c667)).1 rfl
                      have A671 := A670.aload (v := (.ref r540)) (pc' := 249) at_247 rfl rfl rfl
                      have A672 := A671.bipush (z := (7 : Int32)) (pc' := 251) at_249 rfl rfl
                      have A673 := A672.iload (v := (2 : Int32)) (pc' := 253) at_251 rfl rfl
                      have A674 := A673.iloadN (v := b0) (pc' := 254) at_253 rfl rfl
                      have A675 := A674.iloadN (v := b1) (pc' := 255) at_254 rfl rfl
                      have A676 := A675.iload (v := b2) (pc' := 257) at_255 rfl rfl
                      have A677 := A676.lload (v := v) (pc' := 259) at_257 rfl rfl
                      obtain ⟨r679, _, ⟨rfl, q680⟩, A678⟩ := W.kI (A677.callS (argsL := [(.ref r540), (.int (7 : Int32)), (.int (2 : Int32)), (.int b0), (.int b1), (.int b2), (.long v)]) (rest := []) (C' := 5) (S' := 51) (pc' := 262) at_259 (hw _ (List.mem_of_getElem? (i := 49) rfl)) (hw _ (List.mem_of_getElem? (i := 50) rfl)) (hw _ (List.mem_of_getElem? (i := 51) rfl)) (hw _ (List.mem_of_getElem? (i := 52) rfl)) (rm10 l Z a0 hw n0 [] (r540) ((7 : Int32)) ((2 : Int32)) (b0) (b1) (b2) (v) (u545) (u546) ((0 : Int32)) h543 A677.size f547 (by refine ⟨by decide, by decide, ?_⟩; omega) (by intro hx; exfalso; have lk : (7 : Int32).toInt = 7 := rfl; omega)) rfl rfl pd_6 rfl rfl (by decide) (by decide) (Nat.le_of_ble_eq_true rfl) (by decide) (by decide) rfl rfl rfl)
                      have lk7 : (7 : Int32).toInt = 7 := rfl
                      by_cases c682 : r679.toInt = 0
                      · have A683 := A678.ifYes (pc' := 323) at_262 (teq (ieq (x := r679) (y := (0 : Int32)) rfl rfl c682)).1 (by decide) (by decide)
                        have A684 := A683.iconst (z := (0 : Int32)) (pc' := 324) at_323 rfl rfl
                        refine A684.retN (t := .boolean) (z' := (0 : Int32)) at_324 (by decide) (by decide) (by simp) rfl ⟨_, rfl, ⟨trivial, ?_⟩⟩
                        have elit : (0 : Int32).toInt = 0 := rfl
                        exfalso
                        omega
                      · have A685 := A678.ifNo (pc' := 265) at_262 (feq (ine (x := r679) (y := (0 : Int32)) rfl rfl c682)).1 rfl
                        have A686 := A685.aload (v := (.ref r540)) (pc' := 267) at_265 rfl rfl rfl
                        have A687 := A686.bipush (z := (8 : Int32)) (pc' := 269) at_267 rfl rfl
                        have A688 := A687.iload (v := (2 : Int32)) (pc' := 271) at_269 rfl rfl
                        have A689 := A688.iloadN (v := b0) (pc' := 272) at_271 rfl rfl
                        have A690 := A689.iloadN (v := b1) (pc' := 273) at_272 rfl rfl
                        have A691 := A690.iload (v := b2) (pc' := 275) at_273 rfl rfl
                        have A692 := A691.lload (v := v) (pc' := 277) at_275 rfl rfl
                        obtain ⟨r694, _, ⟨rfl, q695⟩, A693⟩ := W.kI (A692.callS (argsL := [(.ref r540), (.int (8 : Int32)), (.int (2 : Int32)), (.int b0), (.int b1), (.int b2), (.long v)]) (rest := []) (C' := 5) (S' := 51) (pc' := 280) at_277 (hw _ (List.mem_of_getElem? (i := 49) rfl)) (hw _ (List.mem_of_getElem? (i := 50) rfl)) (hw _ (List.mem_of_getElem? (i := 51) rfl)) (hw _ (List.mem_of_getElem? (i := 52) rfl)) (rm10 l Z a0 hw n0 [] (r540) ((8 : Int32)) ((2 : Int32)) (b0) (b1) (b2) (v) (u545) (u546) ((0 : Int32)) h543 A692.size f547 (by refine ⟨by decide, by decide, ?_⟩; omega) (by intro hx; exfalso; have lk : (8 : Int32).toInt = 8 := rfl; omega)) rfl rfl pd_6 rfl rfl (by decide) (by decide) (Nat.le_of_ble_eq_true rfl) (by decide) (by decide) rfl rfl rfl)
                        have lk8 : (8 : Int32).toInt = 8 := rfl
                        by_cases c697 : r694.toInt = 0
                        · have A698 := A693.ifYes (pc' := 323) at_280 (teq (ieq (x := r694) (y := (0 : Int32)) rfl rfl c697)).1 (by decide) (by decide)
                          have A699 := A698.iconst (z := (0 : Int32)) (pc' := 324) at_323 rfl rfl
                          refine A699.retN (t := .boolean) (z' := (0 : Int32)) at_324 (by decide) (by decide) (by simp) rfl ⟨_, rfl, ⟨trivial, ?_⟩⟩
                          have elit : (0 : Int32).toInt = 0 := rfl
                          exfalso
                          omega
                        · have A700 := A693.ifNo (pc' := 283) at_280 (feq (ine (x := r694) (y := (0 : Int32)) rfl rfl c697)).1 rfl
                          have A701 := A700.aload (v := (.ref r540)) (pc' := 285) at_283 rfl rfl rfl
                          have A702 := A701.bipush (z := (9 : Int32)) (pc' := 287) at_285 rfl rfl
                          have A703 := A702.iload (v := (2 : Int32)) (pc' := 289) at_287 rfl rfl
                          have A704 := A703.iloadN (v := b0) (pc' := 290) at_289 rfl rfl
                          have A705 := A704.iloadN (v := b1) (pc' := 291) at_290 rfl rfl
                          have A706 := A705.iload (v := b2) (pc' := 293) at_291 rfl rfl
                          have A707 := A706.lload (v := v) (pc' := 295) at_293 rfl rfl
                          obtain ⟨r709, _, ⟨rfl, q710⟩, A708⟩ := W.kI (A707.callS (argsL := [(.ref r540), (.int (9 : Int32)), (.int (2 : Int32)), (.int b0), (.int b1), (.int b2), (.long v)]) (rest := []) (C' := 5) (S' := 51) (pc' := 298) at_295 (hw _ (List.mem_of_getElem? (i := 49) rfl)) (hw _ (List.mem_of_getElem? (i := 50) rfl)) (hw _ (List.mem_of_getElem? (i := 51) rfl)) (hw _ (List.mem_of_getElem? (i := 52) rfl)) (rm10 l Z a0 hw n0 [] (r540) ((9 : Int32)) ((2 : Int32)) (b0) (b1) (b2) (v) (u545) (u546) ((0 : Int32)) h543 A707.size f547 (by refine ⟨by decide, by decide, ?_⟩; omega) (by intro hx; exfalso; have lk : (9 : Int32).toInt = 9 := rfl; omega)) rfl rfl pd_6 rfl rfl (by decide) (by decide) (Nat.le_of_ble_eq_true rfl) (by decide) (by decide) rfl rfl rfl)
                          have lk9 : (9 : Int32).toInt = 9 := rfl
                          by_cases c712 : r709.toInt = 0
                          · have A713 := A708.ifYes (pc' := 323) at_298 (teq (ieq (x := r709) (y := (0 : Int32)) rfl rfl c712)).1 (by decide) (by decide)
                            have A714 := A713.iconst (z := (0 : Int32)) (pc' := 324) at_323 rfl rfl
                            refine A714.retN (t := .boolean) (z' := (0 : Int32)) at_324 (by decide) (by decide) (by simp) rfl ⟨_, rfl, ⟨trivial, ?_⟩⟩
                            have elit : (0 : Int32).toInt = 0 := rfl
                            exfalso
                            omega
                          · have A715 := A708.ifNo (pc' := 301) at_298 (feq (ine (x := r709) (y := (0 : Int32)) rfl rfl c712)).1 rfl
                            have A716 := A715.aload (v := (.ref r540)) (pc' := 303) at_301 rfl rfl rfl
                            have A717 := A716.bipush (z := (10 : Int32)) (pc' := 305) at_303 rfl rfl
                            have A718 := A717.iload (v := (2 : Int32)) (pc' := 307) at_305 rfl rfl
                            have A719 := A718.iloadN (v := b0) (pc' := 308) at_307 rfl rfl
                            have A720 := A719.iloadN (v := b1) (pc' := 309) at_308 rfl rfl
                            have A721 := A720.iload (v := b2) (pc' := 311) at_309 rfl rfl
                            have A722 := A721.lload (v := v) (pc' := 313) at_311 rfl rfl
                            obtain ⟨r724, _, ⟨rfl, q725⟩, A723⟩ := W.kI (A722.callS (argsL := [(.ref r540), (.int (10 : Int32)), (.int (2 : Int32)), (.int b0), (.int b1), (.int b2), (.long v)]) (rest := []) (C' := 5) (S' := 51) (pc' := 316) at_313 (hw _ (List.mem_of_getElem? (i := 49) rfl)) (hw _ (List.mem_of_getElem? (i := 50) rfl)) (hw _ (List.mem_of_getElem? (i := 51) rfl)) (hw _ (List.mem_of_getElem? (i := 52) rfl)) (rm10 l Z a0 hw n0 [] (r540) ((10 : Int32)) ((2 : Int32)) (b0) (b1) (b2) (v) (u545) (u546) ((0 : Int32)) h543 A722.size f547 (by refine ⟨by decide, by decide, ?_⟩; omega) (by intro hx; exfalso; have lk : (10 : Int32).toInt = 10 := rfl; omega)) rfl rfl pd_6 rfl rfl (by decide) (by decide) (Nat.le_of_ble_eq_true rfl) (by decide) (by decide) rfl rfl rfl)
                            have lk10 : (10 : Int32).toInt = 10 := rfl
                            by_cases c727 : r724.toInt = 0
                            · have A728 := A723.ifYes (pc' := 323) at_316 (teq (ieq (x := r724) (y := (0 : Int32)) rfl rfl c727)).1 (by decide) (by decide)
                              have A729 := A728.iconst (z := (0 : Int32)) (pc' := 324) at_323 rfl rfl
                              refine A729.retN (t := .boolean) (z' := (0 : Int32)) at_324 (by decide) (by decide) (by simp) rfl ⟨_, rfl, ⟨trivial, ?_⟩⟩
                              have elit : (0 : Int32).toInt = 0 := rfl
                              exfalso
                              omega
                            · have A730 := A723.ifNo (pc' := 319) at_316 (feq (ine (x := r724) (y := (0 : Int32)) rfl rfl c727)).1 rfl
                              have A731 := A730.iconst (z := (1 : Int32)) (pc' := 320) at_319 rfl rfl
                              have A732 := A731.goto (pc' := 324) at_320 (by decide) (by decide)
                              refine A732.retN (t := .boolean) (z' := (1 : Int32)) at_324 (by decide) (by decide) (by simp) rfl ⟨_, rfl, ⟨trivial, ?_⟩⟩
                              have elit : (1 : Int32).toInt = 1 := rfl
                              rfl
      · have A733 := A563.icmpNo (pc' := 125) at_122 (feq (ine (x := (Int32.ofNat u545)) (y := (2 : Int32)) rfl rfl c564)).1 rfl
        have A734 := A733.iconst (z := (0 : Int32)) (pc' := 126) at_125 rfl rfl
        refine A734.retN (t := .boolean) (z' := (0 : Int32)) at_126 (by decide) (by decide) (by simp) rfl ⟨_, rfl, ⟨trivial, ?_⟩⟩
        have elit : (0 : Int32).toInt = 0 := rfl
        exfalso
        omega
    · have A735 := A43.cast (Ls' := #[.val (.int xc), .val (.int xn), .val (.int b0), .val (.int b1), .val (.int b2), .val (.long v), .second, .val (.int cp), .val (.int (3 : Int32)), .val (.int (0 : Int32)), .val (.ref b20), .unset, .unset]) rfl (by rw [hn]) rfl
      have A736 := A735.iload (v := (3 : Int32)) (pc' := 39) at_37 rfl rfl
      have A738 := A736.ifNo (pc' := 42) at_39 (tlt (igt (x := (3 : Int32)) (y := (0 : Int32)) rfl rfl (by decide : (0 : Int) < 3))).2.2.2 rfl
      have A739 := A738.aload (v := (.ref b20)) (pc' := 44) at_42 rfl rfl rfl
      have A740 := A739.iloadN (v := b0) (pc' := 45) at_44 rfl rfl
      have f741 := (X24.keep K35)
      obtain ⟨r743, h745, ⟨u747, u748, u749, u750, K746, f751, f752, f753, f754, f755, q744⟩, A742⟩ := W.kA (A740.callV (a := b20) (argsL := [(.int b0)]) (rest := []) (C' := 3) (S' := 23) (pc' := 48) at_45 f741 (hw _ (List.mem_of_getElem? (i := 12) rfl)) (hw _ (List.mem_of_getElem? (i := 13) rfl)) (fun hZ => notFace_of_selects (args := #[]) (mvT hZ (hw _ (List.mem_of_getElem? (i := 15) rfl)))) (hw _ (List.mem_of_getElem? (i := 15) rfl)) (hw _ (List.mem_of_getElem? (i := 14) rfl)) (hw _ (List.mem_of_getElem? (i := 2) rfl)) (hw _ (List.mem_of_getElem? (i := 16) rfl)) (rm3 l Z a0 hw n0 [] (b20) (b0) (b36) (cp.toInt.toNat) ((fun _ => (.int (0 : Int32)))) ((0 : Int32)) h34 A740.size f741 g22 f39 f40 f41 g37 ne42 (by omega)) rfl rfl pd_7 rfl rfl (by decide) (by decide) (Nat.le_of_ble_eq_true rfl) (by decide) (by decide) rfl rfl rfl)
      obtain ⟨-, -, hs0, hle0, hN0, hold0, hnew0⟩ := q744
      have ct756 : u749 0 = .int b0.toInt8.toInt32 := by have e : (0 : Int32).toInt.toNat = 0 := (by omega); rw [← e]; exact hnew0
      have A757 := A742.pop (pc' := 49) at_48 rfl rfl
      have A758 := A757.iload (v := (3 : Int32)) (pc' := 51) at_49 rfl rfl
      have A759 := A758.iconst (z := (1 : Int32)) (pc' := 52) at_51 rfl rfl
      have A761 := A759.icmpNo (pc' := 55) at_52 (tlt (igt (x := (3 : Int32)) (y := (1 : Int32)) rfl rfl (by decide : (1 : Int) < 3))).2.2.2 rfl
      have A762 := A761.aload (v := (.ref b20)) (pc' := 57) at_55 rfl rfl rfl
      have A763 := A762.iloadN (v := b1) (pc' := 58) at_57 rfl rfl
      have f764 := (f741.keep K746)
      obtain ⟨r766, h768, ⟨u770, u771, u772, u773, K769, f774, f775, f776, f777, f778, q767⟩, A765⟩ := W.kA (A763.callV (a := b20) (argsL := [(.int b1)]) (rest := []) (C' := 4) (S' := 37) (pc' := 61) at_58 f764 (hw _ (List.mem_of_getElem? (i := 12) rfl)) (hw _ (List.mem_of_getElem? (i := 13) rfl)) (fun hZ => notFace_of_selects (args := #[]) (mvT hZ (hw _ (List.mem_of_getElem? (i := 15) rfl)))) (hw _ (List.mem_of_getElem? (i := 15) rfl)) (hw _ (List.mem_of_getElem? (i := 14) rfl)) (hw _ (List.mem_of_getElem? (i := 2) rfl)) (hw _ (List.mem_of_getElem? (i := 16) rfl)) (rm3 l Z a0 hw n0 [] (b20) (b1) (u747) (u748) (u749) (u750) h745 A763.size f764 g22 f751 f752 f753 f754 f755 (by omega)) rfl rfl pd_7 rfl rfl (by decide) (by decide) (Nat.le_of_ble_eq_true rfl) (by decide) (by decide) rfl rfl rfl)
      obtain ⟨-, -, hs1, hle1, hN1, hold1, hnew1⟩ := q767
      have ct779 : u772 0 = .int b0.toInt8.toInt32 := (hold1 0 (by omega)).trans ct756
      have ct780 : u772 1 = .int b1.toInt8.toInt32 := by have e : u750.toInt.toNat = 1 := (by omega); rw [← e]; exact hnew1
      have A781 := A765.pop (pc' := 62) at_61 rfl rfl
      have A782 := A781.iload (v := (3 : Int32)) (pc' := 64) at_62 rfl rfl
      have A783 := A782.iconst (z := (2 : Int32)) (pc' := 65) at_64 rfl rfl
      have A785 := A783.icmpNo (pc' := 68) at_65 (tlt (igt (x := (3 : Int32)) (y := (2 : Int32)) rfl rfl (by decide : (2 : Int) < 3))).2.2.2 rfl
      have A786 := A785.aload (v := (.ref b20)) (pc' := 70) at_68 rfl rfl rfl
      have A787 := A786.iload (v := b2) (pc' := 72) at_70 rfl rfl
      have f788 := (f764.keep K769)
      obtain ⟨r790, h792, ⟨u794, u795, u796, u797, K793, f798, f799, f800, f801, f802, q791⟩, A789⟩ := W.kA (A787.callV (a := b20) (argsL := [(.int b2)]) (rest := []) (C' := 5) (S' := 51) (pc' := 75) at_72 f788 (hw _ (List.mem_of_getElem? (i := 12) rfl)) (hw _ (List.mem_of_getElem? (i := 13) rfl)) (fun hZ => notFace_of_selects (args := #[]) (mvT hZ (hw _ (List.mem_of_getElem? (i := 15) rfl)))) (hw _ (List.mem_of_getElem? (i := 15) rfl)) (hw _ (List.mem_of_getElem? (i := 14) rfl)) (hw _ (List.mem_of_getElem? (i := 2) rfl)) (hw _ (List.mem_of_getElem? (i := 16) rfl)) (rm3 l Z a0 hw n0 [] (b20) (b2) (u770) (u771) (u772) (u773) h768 A787.size f788 g22 f774 f775 f776 f777 f778 (by omega)) rfl rfl pd_7 rfl rfl (by decide) (by decide) (Nat.le_of_ble_eq_true rfl) (by decide) (by decide) rfl rfl rfl)
      obtain ⟨-, -, hs2, hle2, hN2, hold2, hnew2⟩ := q791
      have ct803 : u796 0 = .int b0.toInt8.toInt32 := (hold2 0 (by omega)).trans ct779
      have ct804 : u796 1 = .int b1.toInt8.toInt32 := (hold2 1 (by omega)).trans ct780
      have ct805 : u796 2 = .int b2.toInt8.toInt32 := by have e : u773.toInt.toNat = 2 := (by omega); rw [← e]; exact hnew2
      have A806 := A789.pop (pc' := 76) at_75 rfl rfl
      have A807 := A806.iload (v := (0 : Int32)) (pc' := 78) at_76 rfl rfl
      have A809 := A807.ifYes (pc' := 89) at_78 (teq (ieq (x := (0 : Int32)) (y := (0 : Int32)) rfl rfl (by decide : (0 : Int) = 0))).1 (by decide) (by decide)
      have A810 := A809.aload (v := (.ref b20)) (pc' := 91) at_89 rfl rfl rfl
      have f813 := (f788.keep K793)
      obtain ⟨r812, h815, ⟨u817, u818, K816, f819, q814⟩, A811⟩ := W.kA (A810.callV (a := b20) (argsL := []) (rest := []) (C' := 6) (S' := 65) (pc' := 94) at_91 f813 (hw _ (List.mem_of_getElem? (i := 44) rfl)) (hw _ (List.mem_of_getElem? (i := 45) rfl)) (fun hZ => notFace_of_selects (args := #[]) (mvT hZ (hw _ (List.mem_of_getElem? (i := 47) rfl)))) (hw _ (List.mem_of_getElem? (i := 47) rfl)) (hw _ (List.mem_of_getElem? (i := 46) rfl)) (hw _ (List.mem_of_getElem? (i := 2) rfl)) (hw _ (List.mem_of_getElem? (i := 48) rfl)) (rm9 l Z a0 hw n0 [] (b20) (u794) (u795) (u796) (u797) h792 A810.size f798 f799 f800 (by omega)) rfl rfl pd_5 rfl rfl (by decide) (by decide) (Nat.le_of_ble_eq_true rfl) (by decide) (by decide) rfl rfl rfl)
      obtain ⟨hN3, holdA⟩ := q814
      have tN3 : (Int32.ofNat u817).toInt = u817 := Int32.toInt_ofNat_of_lt (by omega)
      have ct820 : u818 0 = .int b0.toInt8.toInt32 := (holdA 0 (by omega)).trans ct803
      have ct821 : u818 1 = .int b1.toInt8.toInt32 := (holdA 1 (by omega)).trans ct804
      have ct822 : u818 2 = .int b2.toInt8.toInt32 := (holdA 2 (by omega)).trans ct805
      have A823 := A811.astore (Ls' := #[.val (.int xc), .val (.int xn), .val (.int b0), .val (.int b1), .val (.int b2), .val (.long v), .second, .val (.int cp), .val (.int (3 : Int32)), .val (.int (0 : Int32)), .val (.ref b20), .val (.ref r812), .unset]) (pc' := 96) at_94 rfl rfl rfl
      have A824 := A823.iload (v := (3 : Int32)) (pc' := 98) at_96 rfl rfl
      have A825 := A824.iload (v := (0 : Int32)) (pc' := 100) at_98 rfl rfl
      have A827 := A825.ifYes (pc' := 108) at_100 (teq (ieq (x := (0 : Int32)) (y := (0 : Int32)) rfl rfl (by decide : (0 : Int) = 0))).1 (by decide) (by decide)
      have A828 := A827.iconst (z := (0 : Int32)) (pc' := 109) at_108 rfl rfl
      have A829 := A828.iadd (pc' := 110) at_109 rfl
      have A830 := A829.topI (z := (3 : Int32)) (by decide)
      have A831 := A830.istore (Ls' := #[.val (.int xc), .val (.int xn), .val (.int b0), .val (.int b1), .val (.int b2), .val (.long v), .second, .val (.int cp), .val (.int (3 : Int32)), .val (.int (0 : Int32)), .val (.ref b20), .val (.ref r812), .val (.int (3 : Int32))]) (pc' := 112) at_110 rfl rfl
      have A832 := A831.aload (v := (.ref r812)) (pc' := 114) at_112 rfl rfl rfl
      have A833 := A832.ifnullNo (pc' := 117) at_114 rfl
      have A834 := A833.aload (v := (.ref r812)) (pc' := 119) at_117 rfl rfl rfl
      have A835 := A834.alen (z := (Int32.ofNat u817)) (pc' := 120) at_119 f819 (Int32.toInt_ofNat_small f819.size) rfl
      have A836 := A835.iload (v := (3 : Int32)) (pc' := 122) at_120 rfl rfl
      by_cases c837 : (Int32.ofNat u817).toInt = 3
      · have A838 := A836.icmpYes (pc' := 127) at_122 (teq (ieq (x := (Int32.ofNat u817)) (y := (3 : Int32)) rfl rfl c837)).1 (by decide) (by decide)
        have A839 := A838.aload (v := (.ref r812)) (pc' := 129) at_127 rfl rfl rfl
        have A840 := A839.iconst (z := (0 : Int32)) (pc' := 130) at_129 rfl rfl
        have A841 := A840.iload (v := (3 : Int32)) (pc' := 132) at_130 rfl rfl
        have A842 := A841.iloadN (v := b0) (pc' := 133) at_132 rfl rfl
        have A843 := A842.iloadN (v := b1) (pc' := 134) at_133 rfl rfl
        have A844 := A843.iload (v := b2) (pc' := 136) at_134 rfl rfl
        have A845 := A844.lload (v := v) (pc' := 138) at_136 rfl rfl
        obtain ⟨r847, _, ⟨rfl, q848⟩, A846⟩ := W.kI (A845.callS (argsL := [(.ref r812), (.int (0 : Int32)), (.int (3 : Int32)), (.int b0), (.int b1), (.int b2), (.long v)]) (rest := []) (C' := 6) (S' := 65) (pc' := 141) at_138 (hw _ (List.mem_of_getElem? (i := 49) rfl)) (hw _ (List.mem_of_getElem? (i := 50) rfl)) (hw _ (List.mem_of_getElem? (i := 51) rfl)) (hw _ (List.mem_of_getElem? (i := 52) rfl)) (rm10 l Z a0 hw n0 [] (r812) ((0 : Int32)) ((3 : Int32)) (b0) (b1) (b2) (v) (u817) (u818) (b0.toInt8.toInt32) h815 A845.size f819 (by refine ⟨by decide, by decide, ?_⟩; omega) (by intro _; exact ct820)) rfl rfl pd_6 rfl rfl (by decide) (by decide) (Nat.le_of_ble_eq_true rfl) (by decide) (by decide) rfl rfl rfl)
        have lk0 : (0 : Int32).toInt = 0 := rfl
        have x0 : (b0.toInt8.toInt32).toInt = (own_ex (0 : Int32) (3 : Int32) b0 b1 b2 v).toInt := rfl
        by_cases c850 : r847.toInt = 0
        · have A851 := A846.ifYes (pc' := 323) at_141 (teq (ieq (x := r847) (y := (0 : Int32)) rfl rfl c850)).1 (by decide) (by decide)
          have A852 := A851.iconst (z := (0 : Int32)) (pc' := 324) at_323 rfl rfl
          refine A852.retN (t := .boolean) (z' := (0 : Int32)) at_324 (by decide) (by decide) (by simp) rfl ⟨_, rfl, ⟨trivial, ?_⟩⟩
          have elit : (0 : Int32).toInt = 0 := rfl
          exfalso
          omega
        · have A853 := A846.ifNo (pc' := 144) at_141 (feq (ine (x := r847) (y := (0 : Int32)) rfl rfl c850)).1 rfl
          have A854 := A853.aload (v := (.ref r812)) (pc' := 146) at_144 rfl rfl rfl
          have A855 := A854.iconst (z := (1 : Int32)) (pc' := 147) at_146 rfl rfl
          have A856 := A855.iload (v := (3 : Int32)) (pc' := 149) at_147 rfl rfl
          have A857 := A856.iloadN (v := b0) (pc' := 150) at_149 rfl rfl
          have A858 := A857.iloadN (v := b1) (pc' := 151) at_150 rfl rfl
          have A859 := A858.iload (v := b2) (pc' := 153) at_151 rfl rfl
          have A860 := A859.lload (v := v) (pc' := 155) at_153 rfl rfl
          obtain ⟨r862, _, ⟨rfl, q863⟩, A861⟩ := W.kI (A860.callS (argsL := [(.ref r812), (.int (1 : Int32)), (.int (3 : Int32)), (.int b0), (.int b1), (.int b2), (.long v)]) (rest := []) (C' := 6) (S' := 65) (pc' := 158) at_155 (hw _ (List.mem_of_getElem? (i := 49) rfl)) (hw _ (List.mem_of_getElem? (i := 50) rfl)) (hw _ (List.mem_of_getElem? (i := 51) rfl)) (hw _ (List.mem_of_getElem? (i := 52) rfl)) (rm10 l Z a0 hw n0 [] (r812) ((1 : Int32)) ((3 : Int32)) (b0) (b1) (b2) (v) (u817) (u818) (b1.toInt8.toInt32) h815 A860.size f819 (by refine ⟨by decide, by decide, ?_⟩; omega) (by intro _; exact ct821)) rfl rfl pd_6 rfl rfl (by decide) (by decide) (Nat.le_of_ble_eq_true rfl) (by decide) (by decide) rfl rfl rfl)
          have lk1 : (1 : Int32).toInt = 1 := rfl
          have x1 : (b1.toInt8.toInt32).toInt = (own_ex (1 : Int32) (3 : Int32) b0 b1 b2 v).toInt := rfl
          by_cases c865 : r862.toInt = 0
          · have A866 := A861.ifYes (pc' := 323) at_158 (teq (ieq (x := r862) (y := (0 : Int32)) rfl rfl c865)).1 (by decide) (by decide)
            have A867 := A866.iconst (z := (0 : Int32)) (pc' := 324) at_323 rfl rfl
            refine A867.retN (t := .boolean) (z' := (0 : Int32)) at_324 (by decide) (by decide) (by simp) rfl ⟨_, rfl, ⟨trivial, ?_⟩⟩
            have elit : (0 : Int32).toInt = 0 := rfl
            exfalso
            omega
          · have A868 := A861.ifNo (pc' := 161) at_158 (feq (ine (x := r862) (y := (0 : Int32)) rfl rfl c865)).1 rfl
            have A869 := A868.aload (v := (.ref r812)) (pc' := 163) at_161 rfl rfl rfl
            have A870 := A869.iconst (z := (2 : Int32)) (pc' := 164) at_163 rfl rfl
            have A871 := A870.iload (v := (3 : Int32)) (pc' := 166) at_164 rfl rfl
            have A872 := A871.iloadN (v := b0) (pc' := 167) at_166 rfl rfl
            have A873 := A872.iloadN (v := b1) (pc' := 168) at_167 rfl rfl
            have A874 := A873.iload (v := b2) (pc' := 170) at_168 rfl rfl
            have A875 := A874.lload (v := v) (pc' := 172) at_170 rfl rfl
            obtain ⟨r877, _, ⟨rfl, q878⟩, A876⟩ := W.kI (A875.callS (argsL := [(.ref r812), (.int (2 : Int32)), (.int (3 : Int32)), (.int b0), (.int b1), (.int b2), (.long v)]) (rest := []) (C' := 6) (S' := 65) (pc' := 175) at_172 (hw _ (List.mem_of_getElem? (i := 49) rfl)) (hw _ (List.mem_of_getElem? (i := 50) rfl)) (hw _ (List.mem_of_getElem? (i := 51) rfl)) (hw _ (List.mem_of_getElem? (i := 52) rfl)) (rm10 l Z a0 hw n0 [] (r812) ((2 : Int32)) ((3 : Int32)) (b0) (b1) (b2) (v) (u817) (u818) (b2.toInt8.toInt32) h815 A875.size f819 (by refine ⟨by decide, by decide, ?_⟩; omega) (by intro _; exact ct822)) rfl rfl pd_6 rfl rfl (by decide) (by decide) (Nat.le_of_ble_eq_true rfl) (by decide) (by decide) rfl rfl rfl)
            have lk2 : (2 : Int32).toInt = 2 := rfl
            have x2 : (b2.toInt8.toInt32).toInt = (own_ex (2 : Int32) (3 : Int32) b0 b1 b2 v).toInt := rfl
            by_cases c880 : r877.toInt = 0
            · have A881 := A876.ifYes (pc' := 323) at_175 (teq (ieq (x := r877) (y := (0 : Int32)) rfl rfl c880)).1 (by decide) (by decide)
              have A882 := A881.iconst (z := (0 : Int32)) (pc' := 324) at_323 rfl rfl
              refine A882.retN (t := .boolean) (z' := (0 : Int32)) at_324 (by decide) (by decide) (by simp) rfl ⟨_, rfl, ⟨trivial, ?_⟩⟩
              have elit : (0 : Int32).toInt = 0 := rfl
              exfalso
              omega
            · have A883 := A876.ifNo (pc' := 178) at_175 (feq (ine (x := r877) (y := (0 : Int32)) rfl rfl c880)).1 rfl
              have A884 := A883.aload (v := (.ref r812)) (pc' := 180) at_178 rfl rfl rfl
              have A885 := A884.iconst (z := (3 : Int32)) (pc' := 181) at_180 rfl rfl
              have A886 := A885.iload (v := (3 : Int32)) (pc' := 183) at_181 rfl rfl
              have A887 := A886.iloadN (v := b0) (pc' := 184) at_183 rfl rfl
              have A888 := A887.iloadN (v := b1) (pc' := 185) at_184 rfl rfl
              have A889 := A888.iload (v := b2) (pc' := 187) at_185 rfl rfl
              have A890 := A889.lload (v := v) (pc' := 189) at_187 rfl rfl
              obtain ⟨r892, _, ⟨rfl, q893⟩, A891⟩ := W.kI (A890.callS (argsL := [(.ref r812), (.int (3 : Int32)), (.int (3 : Int32)), (.int b0), (.int b1), (.int b2), (.long v)]) (rest := []) (C' := 6) (S' := 65) (pc' := 192) at_189 (hw _ (List.mem_of_getElem? (i := 49) rfl)) (hw _ (List.mem_of_getElem? (i := 50) rfl)) (hw _ (List.mem_of_getElem? (i := 51) rfl)) (hw _ (List.mem_of_getElem? (i := 52) rfl)) (rm10 l Z a0 hw n0 [] (r812) ((3 : Int32)) ((3 : Int32)) (b0) (b1) (b2) (v) (u817) (u818) ((0 : Int32)) h815 A890.size f819 (by refine ⟨by decide, by decide, ?_⟩; omega) (by intro hx; exfalso; have lk : (3 : Int32).toInt = 3 := rfl; omega)) rfl rfl pd_6 rfl rfl (by decide) (by decide) (Nat.le_of_ble_eq_true rfl) (by decide) (by decide) rfl rfl rfl)
              have lk3 : (3 : Int32).toInt = 3 := rfl
              by_cases c895 : r892.toInt = 0
              · have A896 := A891.ifYes (pc' := 323) at_192 (teq (ieq (x := r892) (y := (0 : Int32)) rfl rfl c895)).1 (by decide) (by decide)
                have A897 := A896.iconst (z := (0 : Int32)) (pc' := 324) at_323 rfl rfl
                refine A897.retN (t := .boolean) (z' := (0 : Int32)) at_324 (by decide) (by decide) (by simp) rfl ⟨_, rfl, ⟨trivial, ?_⟩⟩
                have elit : (0 : Int32).toInt = 0 := rfl
                exfalso
                omega
              · have A898 := A891.ifNo (pc' := 195) at_192 (feq (ine (x := r892) (y := (0 : Int32)) rfl rfl c895)).1 rfl
                have A899 := A898.aload (v := (.ref r812)) (pc' := 197) at_195 rfl rfl rfl
                have A900 := A899.iconst (z := (4 : Int32)) (pc' := 198) at_197 rfl rfl
                have A901 := A900.iload (v := (3 : Int32)) (pc' := 200) at_198 rfl rfl
                have A902 := A901.iloadN (v := b0) (pc' := 201) at_200 rfl rfl
                have A903 := A902.iloadN (v := b1) (pc' := 202) at_201 rfl rfl
                have A904 := A903.iload (v := b2) (pc' := 204) at_202 rfl rfl
                have A905 := A904.lload (v := v) (pc' := 206) at_204 rfl rfl
                obtain ⟨r907, _, ⟨rfl, q908⟩, A906⟩ := W.kI (A905.callS (argsL := [(.ref r812), (.int (4 : Int32)), (.int (3 : Int32)), (.int b0), (.int b1), (.int b2), (.long v)]) (rest := []) (C' := 6) (S' := 65) (pc' := 209) at_206 (hw _ (List.mem_of_getElem? (i := 49) rfl)) (hw _ (List.mem_of_getElem? (i := 50) rfl)) (hw _ (List.mem_of_getElem? (i := 51) rfl)) (hw _ (List.mem_of_getElem? (i := 52) rfl)) (rm10 l Z a0 hw n0 [] (r812) ((4 : Int32)) ((3 : Int32)) (b0) (b1) (b2) (v) (u817) (u818) ((0 : Int32)) h815 A905.size f819 (by refine ⟨by decide, by decide, ?_⟩; omega) (by intro hx; exfalso; have lk : (4 : Int32).toInt = 4 := rfl; omega)) rfl rfl pd_6 rfl rfl (by decide) (by decide) (Nat.le_of_ble_eq_true rfl) (by decide) (by decide) rfl rfl rfl)
                have lk4 : (4 : Int32).toInt = 4 := rfl
                by_cases c910 : r907.toInt = 0
                · have A911 := A906.ifYes (pc' := 323) at_209 (teq (ieq (x := r907) (y := (0 : Int32)) rfl rfl c910)).1 (by decide) (by decide)
                  have A912 := A911.iconst (z := (0 : Int32)) (pc' := 324) at_323 rfl rfl
                  refine A912.retN (t := .boolean) (z' := (0 : Int32)) at_324 (by decide) (by decide) (by simp) rfl ⟨_, rfl, ⟨trivial, ?_⟩⟩
                  have elit : (0 : Int32).toInt = 0 := rfl
                  exfalso
                  omega
                · have A913 := A906.ifNo (pc' := 212) at_209 (feq (ine (x := r907) (y := (0 : Int32)) rfl rfl c910)).1 rfl
                  have A914 := A913.aload (v := (.ref r812)) (pc' := 214) at_212 rfl rfl rfl
                  have A915 := A914.iconst (z := (5 : Int32)) (pc' := 215) at_214 rfl rfl
                  have A916 := A915.iload (v := (3 : Int32)) (pc' := 217) at_215 rfl rfl
                  have A917 := A916.iloadN (v := b0) (pc' := 218) at_217 rfl rfl
                  have A918 := A917.iloadN (v := b1) (pc' := 219) at_218 rfl rfl
                  have A919 := A918.iload (v := b2) (pc' := 221) at_219 rfl rfl
                  have A920 := A919.lload (v := v) (pc' := 223) at_221 rfl rfl
                  obtain ⟨r922, _, ⟨rfl, q923⟩, A921⟩ := W.kI (A920.callS (argsL := [(.ref r812), (.int (5 : Int32)), (.int (3 : Int32)), (.int b0), (.int b1), (.int b2), (.long v)]) (rest := []) (C' := 6) (S' := 65) (pc' := 226) at_223 (hw _ (List.mem_of_getElem? (i := 49) rfl)) (hw _ (List.mem_of_getElem? (i := 50) rfl)) (hw _ (List.mem_of_getElem? (i := 51) rfl)) (hw _ (List.mem_of_getElem? (i := 52) rfl)) (rm10 l Z a0 hw n0 [] (r812) ((5 : Int32)) ((3 : Int32)) (b0) (b1) (b2) (v) (u817) (u818) ((0 : Int32)) h815 A920.size f819 (by refine ⟨by decide, by decide, ?_⟩; omega) (by intro hx; exfalso; have lk : (5 : Int32).toInt = 5 := rfl; omega)) rfl rfl pd_6 rfl rfl (by decide) (by decide) (Nat.le_of_ble_eq_true rfl) (by decide) (by decide) rfl rfl rfl)
                  have lk5 : (5 : Int32).toInt = 5 := rfl
                  by_cases c925 : r922.toInt = 0
                  · have A926 := A921.ifYes (pc' := 323) at_226 (teq (ieq (x := r922) (y := (0 : Int32)) rfl rfl c925)).1 (by decide) (by decide)
                    have A927 := A926.iconst (z := (0 : Int32)) (pc' := 324) at_323 rfl rfl
                    refine A927.retN (t := .boolean) (z' := (0 : Int32)) at_324 (by decide) (by decide) (by simp) rfl ⟨_, rfl, ⟨trivial, ?_⟩⟩
                    have elit : (0 : Int32).toInt = 0 := rfl
                    exfalso
                    omega
                  · have A928 := A921.ifNo (pc' := 229) at_226 (feq (ine (x := r922) (y := (0 : Int32)) rfl rfl c925)).1 rfl
                    have A929 := A928.aload (v := (.ref r812)) (pc' := 231) at_229 rfl rfl rfl
                    have A930 := A929.bipush (z := (6 : Int32)) (pc' := 233) at_231 rfl rfl
                    have A931 := A930.iload (v := (3 : Int32)) (pc' := 235) at_233 rfl rfl
                    have A932 := A931.iloadN (v := b0) (pc' := 236) at_235 rfl rfl
                    have A933 := A932.iloadN (v := b1) (pc' := 237) at_236 rfl rfl
                    have A934 := A933.iload (v := b2) (pc' := 239) at_237 rfl rfl
                    have A935 := A934.lload (v := v) (pc' := 241) at_239 rfl rfl
                    obtain ⟨r937, _, ⟨rfl, q938⟩, A936⟩ := W.kI (A935.callS (argsL := [(.ref r812), (.int (6 : Int32)), (.int (3 : Int32)), (.int b0), (.int b1), (.int b2), (.long v)]) (rest := []) (C' := 6) (S' := 65) (pc' := 244) at_241 (hw _ (List.mem_of_getElem? (i := 49) rfl)) (hw _ (List.mem_of_getElem? (i := 50) rfl)) (hw _ (List.mem_of_getElem? (i := 51) rfl)) (hw _ (List.mem_of_getElem? (i := 52) rfl)) (rm10 l Z a0 hw n0 [] (r812) ((6 : Int32)) ((3 : Int32)) (b0) (b1) (b2) (v) (u817) (u818) ((0 : Int32)) h815 A935.size f819 (by refine ⟨by decide, by decide, ?_⟩; omega) (by intro hx; exfalso; have lk : (6 : Int32).toInt = 6 := rfl; omega)) rfl rfl pd_6 rfl rfl (by decide) (by decide) (Nat.le_of_ble_eq_true rfl) (by decide) (by decide) rfl rfl rfl)
                    have lk6 : (6 : Int32).toInt = 6 := rfl
                    by_cases c940 : r937.toInt = 0
                    · have A941 := A936.ifYes (pc' := 323) at_244 (teq (ieq (x := r937) (y := (0 : Int32)) rfl rfl c940)).1 (by decide) (by decide)
                      have A942 := A941.iconst (z := (0 : Int32)) (pc' := 324) at_323 rfl rfl
                      refine A942.retN (t := .boolean) (z' := (0 : Int32)) at_324 (by decide) (by decide) (by simp) rfl ⟨_, rfl, ⟨trivial, ?_⟩⟩
                      have elit : (0 : Int32).toInt = 0 := rfl
                      exfalso
                      omega
                    · have A943 := A936.ifNo (pc' := 247) at_244 (feq (ine (x := r937) (y := (0 : Int32)) rfl rfl c940)).1 rfl
                      have A944 := A943.aload (v := (.ref r812)) (pc' := 249) at_247 rfl rfl rfl
                      have A945 := A944.bipush (z := (7 : Int32)) (pc' := 251) at_249 rfl rfl
                      have A946 := A945.iload (v := (3 : Int32)) (pc' := 253) at_251 rfl rfl
                      have A947 := A946.iloadN (v := b0) (pc' := 254) at_253 rfl rfl
                      have A948 := A947.iloadN (v := b1) (pc' := 255) at_254 rfl rfl
                      have A949 := A948.iload (v := b2) (pc' := 257) at_255 rfl rfl
                      have A950 := A949.lload (v := v) (pc' := 259) at_257 rfl rfl
                      obtain ⟨r952, _, ⟨rfl, q953⟩, A951⟩ := W.kI (A950.callS (argsL := [(.ref r812), (.int (7 : Int32)), (.int (3 : Int32)), (.int b0), (.int b1), (.int b2), (.long v)]) (rest := []) (C' := 6) (S' := 65) (pc' := 262) at_259 (hw _ (List.mem_of_getElem? (i := 49) rfl)) (hw _ (List.mem_of_getElem? (i := 50) rfl)) (hw _ (List.mem_of_getElem? (i := 51) rfl)) (hw _ (List.mem_of_getElem? (i := 52) rfl)) (rm10 l Z a0 hw n0 [] (r812) ((7 : Int32)) ((3 : Int32)) (b0) (b1) (b2) (v) (u817) (u818) ((0 : Int32)) h815 A950.size f819 (by refine ⟨by decide, by decide, ?_⟩; omega) (by intro hx; exfalso; have lk : (7 : Int32).toInt = 7 := rfl; omega)) rfl rfl pd_6 rfl rfl (by decide) (by decide) (Nat.le_of_ble_eq_true rfl) (by decide) (by decide) rfl rfl rfl)
                      have lk7 : (7 : Int32).toInt = 7 := rfl
                      by_cases c955 : r952.toInt = 0
                      · have A956 := A951.ifYes (pc' := 323) at_262 (teq (ieq (x := r952) (y := (0 : Int32)) rfl rfl c955)).1 (by decide) (by decide)
                        have A957 := A956.iconst (z := (0 : Int32)) (pc' := 324) at_323 rfl rfl
                        refine A957.retN (t := .boolean) (z' := (0 : Int32)) at_324 (by decide) (by decide) (by simp) rfl ⟨_, rfl, ⟨trivial, ?_⟩⟩
                        have elit : (0 : Int32).toInt = 0 := rfl
                        exfalso
                        omega
                      · have A958 := A951.ifNo (pc' := 265) at_262 (feq (ine (x := r952) (y := (0 : Int32)) rfl rfl c955)).1 rfl
                        have A959 := A958.aload (v := (.ref r812)) (pc' := 267) at_265 rfl rfl rfl
                        have A960 := A959.bipush (z := (8 : Int32)) (pc' := 269) at_267 rfl rfl
                        have A961 := A960.iload (v := (3 : Int32)) (pc' := 271) at_269 rfl rfl
                        have A962 := A961.iloadN (v := b0) (pc' := 272) at_271 rfl rfl
                        have A963 := A962.iloadN (v := b1) (pc' := 273) at_272 rfl rfl
                        have A964 := A963.iload (v := b2) (pc' := 275) at_273 rfl rfl
                        have A965 := A964.lload (v := v) (pc' := 277) at_275 rfl rfl
                        obtain ⟨r967, _, ⟨rfl, q968⟩, A966⟩ := W.kI (A965.callS (argsL := [(.ref r812), (.int (8 : Int32)), (.int (3 : Int32)), (.int b0), (.int b1), (.int b2), (.long v)]) (rest := []) (C' := 6) (S' := 65) (pc' := 280) at_277 (hw _ (List.mem_of_getElem? (i := 49) rfl)) (hw _ (List.mem_of_getElem? (i := 50) rfl)) (hw _ (List.mem_of_getElem? (i := 51) rfl)) (hw _ (List.mem_of_getElem? (i := 52) rfl)) (rm10 l Z a0 hw n0 [] (r812) ((8 : Int32)) ((3 : Int32)) (b0) (b1) (b2) (v) (u817) (u818) ((0 : Int32)) h815 A965.size f819 (by refine ⟨by decide, by decide, ?_⟩; omega) (by intro hx; exfalso; have lk : (8 : Int32).toInt = 8 := rfl; omega)) rfl rfl pd_6 rfl rfl (by decide) (by decide) (Nat.le_of_ble_eq_true rfl) (by decide) (by decide) rfl rfl rfl)
                        have lk8 : (8 : Int32).toInt = 8 := rfl
                        by_cases c970 : r967.toInt = 0
                        · have A971 := A966.ifYes (pc' := 323) at_280 (teq (ieq (x := r967) (y := (0 : Int32)) rfl rfl c970)).1 (by decide) (by decide)
                          have A972 := A971.iconst (z := (0 : Int32)) (pc' := 324) at_323 rfl rfl
                          refine A972.retN (t := .boolean) (z' := (0 : Int32)) at_324 (by decide) (by decide) (by simp) rfl ⟨_, rfl, ⟨trivial, ?_⟩⟩
                          have elit : (0 : Int32).toInt = 0 := rfl
                          exfalso
                          omega
                        · have A973 := A966.ifNo (pc' := 283) at_280 (feq (ine (x := r967) (y := (0 : Int32)) rfl rfl c970)).1 rfl
                          have A974 := A973.aload (v := (.ref r812)) (pc' := 285) at_283 rfl rfl rfl
                          have A975 := A974.bipush (z := (9 : Int32)) (pc' := 287) at_285 rfl rfl
                          have A976 := A975.iload (v := (3 : Int32)) (pc' := 289) at_287 rfl rfl
                          have A977 := A976.iloadN (v := b0) (pc' := 290) at_289 rfl rfl
                          have A978 := A977.iloadN (v := b1) (pc' := 291) at_290 rfl rfl
                          have A979 := A978.iload (v := b2) (pc' := 293) at_291 rfl rfl
                          have A980 := A979.lload (v := v) (pc' := 295) at_293 rfl rfl
                          obtain ⟨r982, _, ⟨rfl, q983⟩, A981⟩ := W.kI (A980.callS (argsL := [(.ref r812), (.int (9 : Int32)), (.int (3 : Int32)), (.int b0), (.int b1), (.int b2), (.long v)]) (rest := []) (C' := 6) (S' := 65) (pc' := 298) at_295 (hw _ (List.mem_of_getElem? (i := 49) rfl)) (hw _ (List.mem_of_getElem? (i := 50) rfl)) (hw _ (List.mem_of_getElem? (i := 51) rfl)) (hw _ (List.mem_of_getElem? (i := 52) rfl)) (rm10 l Z a0 hw n0 [] (r812) ((9 : Int32)) ((3 : Int32)) (b0) (b1) (b2) (v) (u817) (u818) ((0 : Int32)) h815 A980.size f819 (by refine ⟨by decide, by decide, ?_⟩; omega) (by intro hx; exfalso; have lk : (9 : Int32).toInt = 9 := rfl; omega)) rfl rfl pd_6 rfl rfl (by decide) (by decide) (Nat.le_of_ble_eq_true rfl) (by decide) (by decide) rfl rfl rfl)
                          have lk9 : (9 : Int32).toInt = 9 := rfl
                          by_cases c985 : r982.toInt = 0
                          · have A986 := A981.ifYes (pc' := 323) at_298 (teq (ieq (x := r982) (y := (0 : Int32)) rfl rfl c985)).1 (by decide) (by decide)
                            have A987 := A986.iconst (z := (0 : Int32)) (pc' := 324) at_323 rfl rfl
                            refine A987.retN (t := .boolean) (z' := (0 : Int32)) at_324 (by decide) (by decide) (by simp) rfl ⟨_, rfl, ⟨trivial, ?_⟩⟩
                            have elit : (0 : Int32).toInt = 0 := rfl
                            exfalso
                            omega
                          · have A988 := A981.ifNo (pc' := 301) at_298 (feq (ine (x := r982) (y := (0 : Int32)) rfl rfl c985)).1 rfl
                            have A989 := A988.aload (v := (.ref r812)) (pc' := 303) at_301 rfl rfl rfl
                            have A990 := A989.bipush (z := (10 : Int32)) (pc' := 305) at_303 rfl rfl
                            have A991 := A990.iload (v := (3 : Int32)) (pc' := 307) at_305 rfl rfl
                            have A992 := A991.iloadN (v := b0) (pc' := 308) at_307 rfl rfl
                            have A993 := A992.iloadN (v := b1) (pc' := 309) at_308 rfl rfl
                            have A994 := A993.iload (v := b2) (pc' := 311) at_309 rfl rfl
                            have A995 := A994.lload (v := v) (pc' := 313) at_311 rfl rfl
                            obtain ⟨r997, _, ⟨rfl, q998⟩, A996⟩ := W.kI (A995.callS (argsL := [(.ref r812), (.int (10 : Int32)), (.int (3 : Int32)), (.int b0), (.int b1), (.int b2), (.long v)]) (rest := []) (C' := 6) (S' := 65) (pc' := 316) at_313 (hw _ (List.mem_of_getElem? (i := 49) rfl)) (hw _ (List.mem_of_getElem? (i := 50) rfl)) (hw _ (List.mem_of_getElem? (i := 51) rfl)) (hw _ (List.mem_of_getElem? (i := 52) rfl)) (rm10 l Z a0 hw n0 [] (r812) ((10 : Int32)) ((3 : Int32)) (b0) (b1) (b2) (v) (u817) (u818) ((0 : Int32)) h815 A995.size f819 (by refine ⟨by decide, by decide, ?_⟩; omega) (by intro hx; exfalso; have lk : (10 : Int32).toInt = 10 := rfl; omega)) rfl rfl pd_6 rfl rfl (by decide) (by decide) (Nat.le_of_ble_eq_true rfl) (by decide) (by decide) rfl rfl rfl)
                            have lk10 : (10 : Int32).toInt = 10 := rfl
                            by_cases c1000 : r997.toInt = 0
                            · have A1001 := A996.ifYes (pc' := 323) at_316 (teq (ieq (x := r997) (y := (0 : Int32)) rfl rfl c1000)).1 (by decide) (by decide)
                              have A1002 := A1001.iconst (z := (0 : Int32)) (pc' := 324) at_323 rfl rfl
                              refine A1002.retN (t := .boolean) (z' := (0 : Int32)) at_324 (by decide) (by decide) (by simp) rfl ⟨_, rfl, ⟨trivial, ?_⟩⟩
                              have elit : (0 : Int32).toInt = 0 := rfl
                              exfalso
                              omega
                            · have A1003 := A996.ifNo (pc' := 319) at_316 (feq (ine (x := r997) (y := (0 : Int32)) rfl rfl c1000)).1 rfl
                              have A1004 := A1003.iconst (z := (1 : Int32)) (pc' := 320) at_319 rfl rfl
                              have A1005 := A1004.goto (pc' := 324) at_320 (by decide) (by decide)
                              refine A1005.retN (t := .boolean) (z' := (1 : Int32)) at_324 (by decide) (by decide) (by simp) rfl ⟨_, rfl, ⟨trivial, ?_⟩⟩
                              have elit : (1 : Int32).toInt = 1 := rfl
                              rfl
      · have A1006 := A836.icmpNo (pc' := 125) at_122 (feq (ine (x := (Int32.ofNat u817)) (y := (3 : Int32)) rfl rfl c837)).1 rfl
        have A1007 := A1006.iconst (z := (0 : Int32)) (pc' := 126) at_125 rfl rfl
        refine A1007.retN (t := .boolean) (z' := (0 : Int32)) at_126 (by decide) (by decide) (by simp) rfl ⟨_, rfl, ⟨trivial, ?_⟩⟩
        have elit : (0 : Int32).toInt = 0 := rfl
        exfalso
        omega
  · have A1008 := A14.ifNo (pc' := 19) at_16 (feq (ine (x := (((xn.toUInt32 >>> ((2 : Int32) &&& 31).toUInt32).toInt32) &&& (1 : Int32))) (y := (0 : Int32)) rfl rfl c15)).1 rfl
    have A1009 := A1008.iconst (z := (1 : Int32)) (pc' := 20) at_19 rfl rfl
    have A1010 := A1009.goto (pc' := 24) at_20 (by decide) (by decide)
    have A1011 := A1010.istore (Ls' := #[.val (.int xc), .val (.int xn), .val (.int b0), .val (.int b1), .val (.int b2), .val (.long v), .second, .val (.int cp), .val (.int (xn &&& (3 : Int32))), .val (.int (1 : Int32)), .unset, .unset, .unset]) (pc' := 26) at_24 rfl rfl
    obtain ⟨h1012, b1013, eb1014, g1015, E1016, X1017, D1018, A1019⟩ := A1011.newO (C' := 1) (S' := 2) (pc' := 29) at_26 (hw _ (List.mem_of_getElem? (i := 0) rfl)) (hw _ (List.mem_of_getElem? (i := 1) rfl)) (hw _ (List.mem_of_getElem? (i := 2) rfl)) (by decide) (by decide) rfl rfl rfl
    have f1020 : Fld Z h1012 b1013 "com/example/riddle0/riddle0/ByteSink" "bytes" "[B" .null := D1018 (Or.inl (hw _ (List.mem_of_getElem? (i := 11) rfl))) (ty := (.array .byte)) (by decide)
    have f1021 : Fld Z h1012 b1013 "com/example/riddle0/riddle0/ByteSink" "size" "I" (.int (0 : Int32)) := D1018 (Or.inl (hw _ (List.mem_of_getElem? (i := 23) rfl))) (ty := .int) (by decide)
    have A1022 := A1019.dup (pc' := 30) at_29 rfl rfl
    have A1023 := A1022.iload (v := cp) (pc' := 32) at_30 rfl rfl
    obtain ⟨h1027, ⟨b1029, K1028, g1030, z1031, f1032, f1033, f1034, q1026⟩, A1024⟩ := W.kV (A1023.callI (a := b1013) (argsL := [(.int cp)]) (rest := [(.ref b1013)]) (C' := 2) (S' := 9) (pc' := 35) at_32 rfl (hw _ (List.mem_of_getElem? (i := 3) rfl)) (hw _ (List.mem_of_getElem? (i := 4) rfl)) (hw _ (List.mem_of_getElem? (i := 2) rfl)) (hw _ (List.mem_of_getElem? (i := 5) rfl)) (rm1 l Z a0 hw n0 [] (b1013) (cp)  h1012 A1023.size X1017 f1020 f1021 g1015 (by exact kc)) rfl rfl pd_3 rfl rfl (by decide) (by decide) (Nat.le_of_ble_eq_true rfl) (by decide) (by decide) rfl rfl rfl)
    have ne1035 : b1013 ≠ b1029 := Nat.ne_of_lt (Nat.lt_of_lt_of_le X1017.lt z1031)
    have A1036 := A1024.astore (Ls' := #[.val (.int xc), .val (.int xn), .val (.int b0), .val (.int b1), .val (.int b2), .val (.long v), .second, .val (.int cp), .val (.int (xn &&& (3 : Int32))), .val (.int (1 : Int32)), .val (.ref b1013), .unset, .unset]) (pc' := 37) at_35 rfl rfl rfl
    obtain hn | hn | hn | hn := own_four xn
    · have A1037 := A1036.cast (Ls' := #[.val (.int xc), .val (.int xn), .val (.int b0), .val (.int b1), .val (.int b2), .val (.long v), .second, .val (.int cp), .val (.int (0 : Int32)), .val (.int (1 : Int32)), .val (.ref b1013), .unset, .unset]) rfl (by rw [hn]) rfl
      have A1038 := A1037.iload (v := (0 : Int32)) (pc' := 39) at_37 rfl rfl
      have A1040 := A1038.ifYes (pc' := 49) at_39 (flt (ingt (x := (0 : Int32)) (y := (0 : Int32)) rfl rfl (by decide : ¬ ((0 : Int) < 0)))).2.2.2 (by decide) (by decide)
      have A1041 := A1040.iload (v := (0 : Int32)) (pc' := 51) at_49 rfl rfl
      have A1042 := A1041.iconst (z := (1 : Int32)) (pc' := 52) at_51 rfl rfl
      have A1044 := A1042.icmpYes (pc' := 62) at_52 (flt (ingt (x := (0 : Int32)) (y := (1 : Int32)) rfl rfl (by decide : ¬ ((1 : Int) < 0)))).2.2.2 (by decide) (by decide)
      have A1045 := A1044.iload (v := (0 : Int32)) (pc' := 64) at_62 rfl rfl
      have A1046 := A1045.iconst (z := (2 : Int32)) (pc' := 65) at_64 rfl rfl
      have A1048 := A1046.icmpYes (pc' := 76) at_65 (flt (ingt (x := (0 : Int32)) (y := (2 : Int32)) rfl rfl (by decide : ¬ ((2 : Int) < 0)))).2.2.2 (by decide) (by decide)
      have A1049 := A1048.iload (v := (1 : Int32)) (pc' := 78) at_76 rfl rfl
      have A1051 := A1049.ifNo (pc' := 81) at_78 (feq (ine (x := (1 : Int32)) (y := (0 : Int32)) rfl rfl (by decide : ¬ ((1 : Int) = 0)))).1 rfl
      have A1052 := A1051.aload (v := (.ref b1013)) (pc' := 83) at_81 rfl rfl rfl
      have A1053 := A1052.lload (v := v) (pc' := 85) at_83 rfl rfl
      have f1054 := (X1017.keep K1028)
      obtain ⟨r1056, h1058, ⟨u1060, u1061, u1062, u1063, K1059, f1064, f1065, f1066, f1067, f1068, q1057⟩, A1055⟩ := W.kA (A1053.callV (a := b1013) (argsL := [(.long v)]) (rest := []) (C' := 3) (S' := 23) (pc' := 88) at_85 f1054 (hw _ (List.mem_of_getElem? (i := 56) rfl)) (hw _ (List.mem_of_getElem? (i := 57) rfl)) (fun hZ => notFace_of_selects (args := #[]) (mvT hZ (hw _ (List.mem_of_getElem? (i := 59) rfl)))) (hw _ (List.mem_of_getElem? (i := 59) rfl)) (hw _ (List.mem_of_getElem? (i := 58) rfl)) (hw _ (List.mem_of_getElem? (i := 2) rfl)) (hw _ (List.mem_of_getElem? (i := 60) rfl)) (rm12 l Z a0 hw n0 [] (b1013) (v) (b1029) (cp.toInt.toNat) ((fun _ => (.int (0 : Int32)))) ((0 : Int32)) h1027 A1053.size f1054 g1015 f1032 f1033 f1034 g1030 ne1035 (by omega)) rfl rfl pd_8 rfl rfl (by decide) (by decide) (Nat.le_of_ble_eq_true rfl) (by decide) (by decide) rfl rfl rfl)
      obtain ⟨-, -, hsL, hleL, hNL, holdL, hl0, hl1, hl2, hl3, hl4, hl5, hl6, hl7⟩ := q1057
      have ez : (0 : Int32).toInt.toNat = 0 := by omega
      rw [ez] at hl0 hl1 hl2 hl3 hl4 hl5 hl6 hl7
      have ct1069 : u1062 0 = .int (own_lb v (0 : Int32)) := hl0
      have ct1070 : u1062 1 = .int (own_lb v (8 : Int32)) := hl1
      have ct1071 : u1062 2 = .int (own_lb v (16 : Int32)) := hl2
      have ct1072 : u1062 3 = .int (own_lb v (24 : Int32)) := hl3
      have ct1073 : u1062 4 = .int (own_lb v (32 : Int32)) := hl4
      have ct1074 : u1062 5 = .int (own_lb v (40 : Int32)) := hl5
      have ct1075 : u1062 6 = .int (own_lb v (48 : Int32)) := hl6
      have ct1076 : u1062 7 = .int (own_lb v (56 : Int32)) := hl7
      have A1077 := A1055.pop (pc' := 89) at_88 rfl rfl
      have A1078 := A1077.aload (v := (.ref b1013)) (pc' := 91) at_89 rfl rfl rfl
      have f1081 := (f1054.keep K1059)
      obtain ⟨r1080, h1083, ⟨u1085, u1086, K1084, f1087, q1082⟩, A1079⟩ := W.kA (A1078.callV (a := b1013) (argsL := []) (rest := []) (C' := 4) (S' := 37) (pc' := 94) at_91 f1081 (hw _ (List.mem_of_getElem? (i := 44) rfl)) (hw _ (List.mem_of_getElem? (i := 45) rfl)) (fun hZ => notFace_of_selects (args := #[]) (mvT hZ (hw _ (List.mem_of_getElem? (i := 47) rfl)))) (hw _ (List.mem_of_getElem? (i := 47) rfl)) (hw _ (List.mem_of_getElem? (i := 46) rfl)) (hw _ (List.mem_of_getElem? (i := 2) rfl)) (hw _ (List.mem_of_getElem? (i := 48) rfl)) (rm9 l Z a0 hw n0 [] (b1013) (u1060) (u1061) (u1062) (u1063) h1058 A1078.size f1064 f1065 f1066 (by omega)) rfl rfl pd_5 rfl rfl (by decide) (by decide) (Nat.le_of_ble_eq_true rfl) (by decide) (by decide) rfl rfl rfl)
      obtain ⟨hN3, holdA⟩ := q1082
      have tN3 : (Int32.ofNat u1085).toInt = u1085 := Int32.toInt_ofNat_of_lt (by omega)
      have ct1088 : u1086 0 = .int (own_lb v (0 : Int32)) := (holdA 0 (by omega)).trans ct1069
      have ct1089 : u1086 1 = .int (own_lb v (8 : Int32)) := (holdA 1 (by omega)).trans ct1070
      have ct1090 : u1086 2 = .int (own_lb v (16 : Int32)) := (holdA 2 (by omega)).trans ct1071
      have ct1091 : u1086 3 = .int (own_lb v (24 : Int32)) := (holdA 3 (by omega)).trans ct1072
      have ct1092 : u1086 4 = .int (own_lb v (32 : Int32)) := (holdA 4 (by omega)).trans ct1073
      have ct1093 : u1086 5 = .int (own_lb v (40 : Int32)) := (holdA 5 (by omega)).trans ct1074
      have ct1094 : u1086 6 = .int (own_lb v (48 : Int32)) := (holdA 6 (by omega)).trans ct1075
      have ct1095 : u1086 7 = .int (own_lb v (56 : Int32)) := (holdA 7 (by omega)).trans ct1076
      have A1096 := A1079.astore (Ls' := #[.val (.int xc), .val (.int xn), .val (.int b0), .val (.int b1), .val (.int b2), .val (.long v), .second, .val (.int cp), .val (.int (0 : Int32)), .val (.int (1 : Int32)), .val (.ref b1013), .val (.ref r1080), .unset]) (pc' := 96) at_94 rfl rfl rfl
      have A1097 := A1096.iload (v := (0 : Int32)) (pc' := 98) at_96 rfl rfl
      have A1098 := A1097.iload (v := (1 : Int32)) (pc' := 100) at_98 rfl rfl
      have A1100 := A1098.ifNo (pc' := 103) at_100 (feq (ine (x := (1 : Int32)) (y := (0 : Int32)) rfl rfl (by decide : ¬ ((1 : Int) = 0)))).1 rfl
      have A1101 := A1100.bipush (z := (8 : Int32)) (pc' := 105) at_103 rfl rfl
      have A1102 := A1101.goto (pc' := 109) at_105 (by decide) (by decide)
      have A1103 := A1102.iadd (pc' := 110) at_109 rfl
      have A1104 := A1103.topI (z := (8 : Int32)) (by decide)
      have A1105 := A1104.istore (Ls' := #[.val (.int xc), .val (.int xn), .val (.int b0), .val (.int b1), .val (.int b2), .val (.long v), .second, .val (.int cp), .val (.int (0 : Int32)), .val (.int (1 : Int32)), .val (.ref b1013), .val (.ref r1080), .val (.int (8 : Int32))]) (pc' := 112) at_110 rfl rfl
      have A1106 := A1105.aload (v := (.ref r1080)) (pc' := 114) at_112 rfl rfl rfl
      have A1107 := A1106.ifnullNo (pc' := 117) at_114 rfl
      have A1108 := A1107.aload (v := (.ref r1080)) (pc' := 119) at_117 rfl rfl rfl
      have A1109 := A1108.alen (z := (Int32.ofNat u1085)) (pc' := 120) at_119 f1087 (Int32.toInt_ofNat_small f1087.size) rfl
      have A1110 := A1109.iload (v := (8 : Int32)) (pc' := 122) at_120 rfl rfl
      by_cases c1111 : (Int32.ofNat u1085).toInt = 8
      · have A1112 := A1110.icmpYes (pc' := 127) at_122 (teq (ieq (x := (Int32.ofNat u1085)) (y := (8 : Int32)) rfl rfl c1111)).1 (by decide) (by decide)
        have A1113 := A1112.aload (v := (.ref r1080)) (pc' := 129) at_127 rfl rfl rfl
        have A1114 := A1113.iconst (z := (0 : Int32)) (pc' := 130) at_129 rfl rfl
        have A1115 := A1114.iload (v := (0 : Int32)) (pc' := 132) at_130 rfl rfl
        have A1116 := A1115.iloadN (v := b0) (pc' := 133) at_132 rfl rfl
        have A1117 := A1116.iloadN (v := b1) (pc' := 134) at_133 rfl rfl
        have A1118 := A1117.iload (v := b2) (pc' := 136) at_134 rfl rfl
        have A1119 := A1118.lload (v := v) (pc' := 138) at_136 rfl rfl
        obtain ⟨r1121, _, ⟨rfl, q1122⟩, A1120⟩ := W.kI (A1119.callS (argsL := [(.ref r1080), (.int (0 : Int32)), (.int (0 : Int32)), (.int b0), (.int b1), (.int b2), (.long v)]) (rest := []) (C' := 4) (S' := 37) (pc' := 141) at_138 (hw _ (List.mem_of_getElem? (i := 49) rfl)) (hw _ (List.mem_of_getElem? (i := 50) rfl)) (hw _ (List.mem_of_getElem? (i := 51) rfl)) (hw _ (List.mem_of_getElem? (i := 52) rfl)) (rm10 l Z a0 hw n0 [] (r1080) ((0 : Int32)) ((0 : Int32)) (b0) (b1) (b2) (v) (u1085) (u1086) ((own_lb v (0 : Int32))) h1083 A1119.size f1087 (by refine ⟨by decide, by decide, ?_⟩; omega) (by intro _; exact ct1088)) rfl rfl pd_6 rfl rfl (by decide) (by decide) (Nat.le_of_ble_eq_true rfl) (by decide) (by decide) rfl rfl rfl)
        have lk0 : (0 : Int32).toInt = 0 := rfl
        have x0 : ((own_lb v (0 : Int32))).toInt = (own_ex (0 : Int32) (0 : Int32) b0 b1 b2 v).toInt := rfl
        by_cases c1124 : r1121.toInt = 0
        · have A1125 := A1120.ifYes (pc' := 323) at_141 (teq (ieq (x := r1121) (y := (0 : Int32)) rfl rfl c1124)).1 (by decide) (by decide)
          have A1126 := A1125.iconst (z := (0 : Int32)) (pc' := 324) at_323 rfl rfl
          refine A1126.retN (t := .boolean) (z' := (0 : Int32)) at_324 (by decide) (by decide) (by simp) rfl ⟨_, rfl, ⟨trivial, ?_⟩⟩
          have elit : (0 : Int32).toInt = 0 := rfl
          exfalso
          omega
        · have A1127 := A1120.ifNo (pc' := 144) at_141 (feq (ine (x := r1121) (y := (0 : Int32)) rfl rfl c1124)).1 rfl
          have A1128 := A1127.aload (v := (.ref r1080)) (pc' := 146) at_144 rfl rfl rfl
          have A1129 := A1128.iconst (z := (1 : Int32)) (pc' := 147) at_146 rfl rfl
          have A1130 := A1129.iload (v := (0 : Int32)) (pc' := 149) at_147 rfl rfl
          have A1131 := A1130.iloadN (v := b0) (pc' := 150) at_149 rfl rfl
          have A1132 := A1131.iloadN (v := b1) (pc' := 151) at_150 rfl rfl
          have A1133 := A1132.iload (v := b2) (pc' := 153) at_151 rfl rfl
          have A1134 := A1133.lload (v := v) (pc' := 155) at_153 rfl rfl
          obtain ⟨r1136, _, ⟨rfl, q1137⟩, A1135⟩ := W.kI (A1134.callS (argsL := [(.ref r1080), (.int (1 : Int32)), (.int (0 : Int32)), (.int b0), (.int b1), (.int b2), (.long v)]) (rest := []) (C' := 4) (S' := 37) (pc' := 158) at_155 (hw _ (List.mem_of_getElem? (i := 49) rfl)) (hw _ (List.mem_of_getElem? (i := 50) rfl)) (hw _ (List.mem_of_getElem? (i := 51) rfl)) (hw _ (List.mem_of_getElem? (i := 52) rfl)) (rm10 l Z a0 hw n0 [] (r1080) ((1 : Int32)) ((0 : Int32)) (b0) (b1) (b2) (v) (u1085) (u1086) ((own_lb v (8 : Int32))) h1083 A1134.size f1087 (by refine ⟨by decide, by decide, ?_⟩; omega) (by intro _; exact ct1089)) rfl rfl pd_6 rfl rfl (by decide) (by decide) (Nat.le_of_ble_eq_true rfl) (by decide) (by decide) rfl rfl rfl)
          have lk1 : (1 : Int32).toInt = 1 := rfl
          have x1 : ((own_lb v (8 : Int32))).toInt = (own_ex (1 : Int32) (0 : Int32) b0 b1 b2 v).toInt := rfl
          by_cases c1139 : r1136.toInt = 0
          · have A1140 := A1135.ifYes (pc' := 323) at_158 (teq (ieq (x := r1136) (y := (0 : Int32)) rfl rfl c1139)).1 (by decide) (by decide)
            have A1141 := A1140.iconst (z := (0 : Int32)) (pc' := 324) at_323 rfl rfl
            refine A1141.retN (t := .boolean) (z' := (0 : Int32)) at_324 (by decide) (by decide) (by simp) rfl ⟨_, rfl, ⟨trivial, ?_⟩⟩
            have elit : (0 : Int32).toInt = 0 := rfl
            exfalso
            omega
          · have A1142 := A1135.ifNo (pc' := 161) at_158 (feq (ine (x := r1136) (y := (0 : Int32)) rfl rfl c1139)).1 rfl
            have A1143 := A1142.aload (v := (.ref r1080)) (pc' := 163) at_161 rfl rfl rfl
            have A1144 := A1143.iconst (z := (2 : Int32)) (pc' := 164) at_163 rfl rfl
            have A1145 := A1144.iload (v := (0 : Int32)) (pc' := 166) at_164 rfl rfl
            have A1146 := A1145.iloadN (v := b0) (pc' := 167) at_166 rfl rfl
            have A1147 := A1146.iloadN (v := b1) (pc' := 168) at_167 rfl rfl
            have A1148 := A1147.iload (v := b2) (pc' := 170) at_168 rfl rfl
            have A1149 := A1148.lload (v := v) (pc' := 172) at_170 rfl rfl
            obtain ⟨r1151, _, ⟨rfl, q1152⟩, A1150⟩ := W.kI (A1149.callS (argsL := [(.ref r1080), (.int (2 : Int32)), (.int (0 : Int32)), (.int b0), (.int b1), (.int b2), (.long v)]) (rest := []) (C' := 4) (S' := 37) (pc' := 175) at_172 (hw _ (List.mem_of_getElem? (i := 49) rfl)) (hw _ (List.mem_of_getElem? (i := 50) rfl)) (hw _ (List.mem_of_getElem? (i := 51) rfl)) (hw _ (List.mem_of_getElem? (i := 52) rfl)) (rm10 l Z a0 hw n0 [] (r1080) ((2 : Int32)) ((0 : Int32)) (b0) (b1) (b2) (v) (u1085) (u1086) ((own_lb v (16 : Int32))) h1083 A1149.size f1087 (by refine ⟨by decide, by decide, ?_⟩; omega) (by intro _; exact ct1090)) rfl rfl pd_6 rfl rfl (by decide) (by decide) (Nat.le_of_ble_eq_true rfl) (by decide) (by decide) rfl rfl rfl)
            have lk2 : (2 : Int32).toInt = 2 := rfl
            have x2 : ((own_lb v (16 : Int32))).toInt = (own_ex (2 : Int32) (0 : Int32) b0 b1 b2 v).toInt := rfl
            by_cases c1154 : r1151.toInt = 0
            · have A1155 := A1150.ifYes (pc' := 323) at_175 (teq (ieq (x := r1151) (y := (0 : Int32)) rfl rfl c1154)).1 (by decide) (by decide)
              have A1156 := A1155.iconst (z := (0 : Int32)) (pc' := 324) at_323 rfl rfl
              refine A1156.retN (t := .boolean) (z' := (0 : Int32)) at_324 (by decide) (by decide) (by simp) rfl ⟨_, rfl, ⟨trivial, ?_⟩⟩
              have elit : (0 : Int32).toInt = 0 := rfl
              exfalso
              omega
            · have A1157 := A1150.ifNo (pc' := 178) at_175 (feq (ine (x := r1151) (y := (0 : Int32)) rfl rfl c1154)).1 rfl
              have A1158 := A1157.aload (v := (.ref r1080)) (pc' := 180) at_178 rfl rfl rfl
              have A1159 := A1158.iconst (z := (3 : Int32)) (pc' := 181) at_180 rfl rfl
              have A1160 := A1159.iload (v := (0 : Int32)) (pc' := 183) at_181 rfl rfl
              have A1161 := A1160.iloadN (v := b0) (pc' := 184) at_183 rfl rfl
              have A1162 := A1161.iloadN (v := b1) (pc' := 185) at_184 rfl rfl
              have A1163 := A1162.iload (v := b2) (pc' := 187) at_185 rfl rfl
              have A1164 := A1163.lload (v := v) (pc' := 189) at_187 rfl rfl
              obtain ⟨r1166, _, ⟨rfl, q1167⟩, A1165⟩ := W.kI (A1164.callS (argsL := [(.ref r1080), (.int (3 : Int32)), (.int (0 : Int32)), (.int b0), (.int b1), (.int b2), (.long v)]) (rest := []) (C' := 4) (S' := 37) (pc' := 192) at_189 (hw _ (List.mem_of_getElem? (i := 49) rfl)) (hw _ (List.mem_of_getElem? (i := 50) rfl)) (hw _ (List.mem_of_getElem? (i := 51) rfl)) (hw _ (List.mem_of_getElem? (i := 52) rfl)) (rm10 l Z a0 hw n0 [] (r1080) ((3 : Int32)) ((0 : Int32)) (b0) (b1) (b2) (v) (u1085) (u1086) ((own_lb v (24 : Int32))) h1083 A1164.size f1087 (by refine ⟨by decide, by decide, ?_⟩; omega) (by intro _; exact ct1091)) rfl rfl pd_6 rfl rfl (by decide) (by decide) (Nat.le_of_ble_eq_true rfl) (by decide) (by decide) rfl rfl rfl)
              have lk3 : (3 : Int32).toInt = 3 := rfl
              have x3 : ((own_lb v (24 : Int32))).toInt = (own_ex (3 : Int32) (0 : Int32) b0 b1 b2 v).toInt := rfl
              by_cases c1169 : r1166.toInt = 0
              · have A1170 := A1165.ifYes (pc' := 323) at_192 (teq (ieq (x := r1166) (y := (0 : Int32)) rfl rfl c1169)).1 (by decide) (by decide)
                have A1171 := A1170.iconst (z := (0 : Int32)) (pc' := 324) at_323 rfl rfl
                refine A1171.retN (t := .boolean) (z' := (0 : Int32)) at_324 (by decide) (by decide) (by simp) rfl ⟨_, rfl, ⟨trivial, ?_⟩⟩
                have elit : (0 : Int32).toInt = 0 := rfl
                exfalso
                omega
              · have A1172 := A1165.ifNo (pc' := 195) at_192 (feq (ine (x := r1166) (y := (0 : Int32)) rfl rfl c1169)).1 rfl
                have A1173 := A1172.aload (v := (.ref r1080)) (pc' := 197) at_195 rfl rfl rfl
                have A1174 := A1173.iconst (z := (4 : Int32)) (pc' := 198) at_197 rfl rfl
                have A1175 := A1174.iload (v := (0 : Int32)) (pc' := 200) at_198 rfl rfl
                have A1176 := A1175.iloadN (v := b0) (pc' := 201) at_200 rfl rfl
                have A1177 := A1176.iloadN (v := b1) (pc' := 202) at_201 rfl rfl
                have A1178 := A1177.iload (v := b2) (pc' := 204) at_202 rfl rfl
                have A1179 := A1178.lload (v := v) (pc' := 206) at_204 rfl rfl
                obtain ⟨r1181, _, ⟨rfl, q1182⟩, A1180⟩ := W.kI (A1179.callS (argsL := [(.ref r1080), (.int (4 : Int32)), (.int (0 : Int32)), (.int b0), (.int b1), (.int b2), (.long v)]) (rest := []) (C' := 4) (S' := 37) (pc' := 209) at_206 (hw _ (List.mem_of_getElem? (i := 49) rfl)) (hw _ (List.mem_of_getElem? (i := 50) rfl)) (hw _ (List.mem_of_getElem? (i := 51) rfl)) (hw _ (List.mem_of_getElem? (i := 52) rfl)) (rm10 l Z a0 hw n0 [] (r1080) ((4 : Int32)) ((0 : Int32)) (b0) (b1) (b2) (v) (u1085) (u1086) ((own_lb v (32 : Int32))) h1083 A1179.size f1087 (by refine ⟨by decide, by decide, ?_⟩; omega) (by intro _; exact ct1092)) rfl rfl pd_6 rfl rfl (by decide) (by decide) (Nat.le_of_ble_eq_true rfl) (by decide) (by decide) rfl rfl rfl)
                have lk4 : (4 : Int32).toInt = 4 := rfl
                have x4 : ((own_lb v (32 : Int32))).toInt = (own_ex (4 : Int32) (0 : Int32) b0 b1 b2 v).toInt := rfl
                by_cases c1184 : r1181.toInt = 0
                · have A1185 := A1180.ifYes (pc' := 323) at_209 (teq (ieq (x := r1181) (y := (0 : Int32)) rfl rfl c1184)).1 (by decide) (by decide)
                  have A1186 := A1185.iconst (z := (0 : Int32)) (pc' := 324) at_323 rfl rfl
                  refine A1186.retN (t := .boolean) (z' := (0 : Int32)) at_324 (by decide) (by decide) (by simp) rfl ⟨_, rfl, ⟨trivial, ?_⟩⟩
                  have elit : (0 : Int32).toInt = 0 := rfl
                  exfalso
                  omega
                · have A1187 := A1180.ifNo (pc' := 212) at_209 (feq (ine (x := r1181) (y := (0 : Int32)) rfl rfl c1184)).1 rfl
                  have A1188 := A1187.aload (v := (.ref r1080)) (pc' := 214) at_212 rfl rfl rfl
                  have A1189 := A1188.iconst (z := (5 : Int32)) (pc' := 215) at_214 rfl rfl
                  have A1190 := A1189.iload (v := (0 : Int32)) (pc' := 217) at_215 rfl rfl
                  have A1191 := A1190.iloadN (v := b0) (pc' := 218) at_217 rfl rfl
                  have A1192 := A1191.iloadN (v := b1) (pc' := 219) at_218 rfl rfl
                  have A1193 := A1192.iload (v := b2) (pc' := 221) at_219 rfl rfl
                  have A1194 := A1193.lload (v := v) (pc' := 223) at_221 rfl rfl
                  obtain ⟨r1196, _, ⟨rfl, q1197⟩, A1195⟩ := W.kI (A1194.callS (argsL := [(.ref r1080), (.int (5 : Int32)), (.int (0 : Int32)), (.int b0), (.int b1), (.int b2), (.long v)]) (rest := []) (C' := 4) (S' := 37) (pc' := 226) at_223 (hw _ (List.mem_of_getElem? (i := 49) rfl)) (hw _ (List.mem_of_getElem? (i := 50) rfl)) (hw _ (List.mem_of_getElem? (i := 51) rfl)) (hw _ (List.mem_of_getElem? (i := 52) rfl)) (rm10 l Z a0 hw n0 [] (r1080) ((5 : Int32)) ((0 : Int32)) (b0) (b1) (b2) (v) (u1085) (u1086) ((own_lb v (40 : Int32))) h1083 A1194.size f1087 (by refine ⟨by decide, by decide, ?_⟩; omega) (by intro _; exact ct1093)) rfl rfl pd_6 rfl rfl (by decide) (by decide) (Nat.le_of_ble_eq_true rfl) (by decide) (by decide) rfl rfl rfl)
                  have lk5 : (5 : Int32).toInt = 5 := rfl
                  have x5 : ((own_lb v (40 : Int32))).toInt = (own_ex (5 : Int32) (0 : Int32) b0 b1 b2 v).toInt := rfl
                  by_cases c1199 : r1196.toInt = 0
                  · have A1200 := A1195.ifYes (pc' := 323) at_226 (teq (ieq (x := r1196) (y := (0 : Int32)) rfl rfl c1199)).1 (by decide) (by decide)
                    have A1201 := A1200.iconst (z := (0 : Int32)) (pc' := 324) at_323 rfl rfl
                    refine A1201.retN (t := .boolean) (z' := (0 : Int32)) at_324 (by decide) (by decide) (by simp) rfl ⟨_, rfl, ⟨trivial, ?_⟩⟩
                    have elit : (0 : Int32).toInt = 0 := rfl
                    exfalso
                    omega
                  · have A1202 := A1195.ifNo (pc' := 229) at_226 (feq (ine (x := r1196) (y := (0 : Int32)) rfl rfl c1199)).1 rfl
                    have A1203 := A1202.aload (v := (.ref r1080)) (pc' := 231) at_229 rfl rfl rfl
                    have A1204 := A1203.bipush (z := (6 : Int32)) (pc' := 233) at_231 rfl rfl
                    have A1205 := A1204.iload (v := (0 : Int32)) (pc' := 235) at_233 rfl rfl
                    have A1206 := A1205.iloadN (v := b0) (pc' := 236) at_235 rfl rfl
                    have A1207 := A1206.iloadN (v := b1) (pc' := 237) at_236 rfl rfl
                    have A1208 := A1207.iload (v := b2) (pc' := 239) at_237 rfl rfl
                    have A1209 := A1208.lload (v := v) (pc' := 241) at_239 rfl rfl
                    obtain ⟨r1211, _, ⟨rfl, q1212⟩, A1210⟩ := W.kI (A1209.callS (argsL := [(.ref r1080), (.int (6 : Int32)), (.int (0 : Int32)), (.int b0), (.int b1), (.int b2), (.long v)]) (rest := []) (C' := 4) (S' := 37) (pc' := 244) at_241 (hw _ (List.mem_of_getElem? (i := 49) rfl)) (hw _ (List.mem_of_getElem? (i := 50) rfl)) (hw _ (List.mem_of_getElem? (i := 51) rfl)) (hw _ (List.mem_of_getElem? (i := 52) rfl)) (rm10 l Z a0 hw n0 [] (r1080) ((6 : Int32)) ((0 : Int32)) (b0) (b1) (b2) (v) (u1085) (u1086) ((own_lb v (48 : Int32))) h1083 A1209.size f1087 (by refine ⟨by decide, by decide, ?_⟩; omega) (by intro _; exact ct1094)) rfl rfl pd_6 rfl rfl (by decide) (by decide) (Nat.le_of_ble_eq_true rfl) (by decide) (by decide) rfl rfl rfl)
                    have lk6 : (6 : Int32).toInt = 6 := rfl
                    have x6 : ((own_lb v (48 : Int32))).toInt = (own_ex (6 : Int32) (0 : Int32) b0 b1 b2 v).toInt := rfl
                    by_cases c1214 : r1211.toInt = 0
                    · have A1215 := A1210.ifYes (pc' := 323) at_244 (teq (ieq (x := r1211) (y := (0 : Int32)) rfl rfl c1214)).1 (by decide) (by decide)
                      have A1216 := A1215.iconst (z := (0 : Int32)) (pc' := 324) at_323 rfl rfl
                      refine A1216.retN (t := .boolean) (z' := (0 : Int32)) at_324 (by decide) (by decide) (by simp) rfl ⟨_, rfl, ⟨trivial, ?_⟩⟩
                      have elit : (0 : Int32).toInt = 0 := rfl
                      exfalso
                      omega
                    · have A1217 := A1210.ifNo (pc' := 247) at_244 (feq (ine (x := r1211) (y := (0 : Int32)) rfl rfl c1214)).1 rfl
                      have A1218 := A1217.aload (v := (.ref r1080)) (pc' := 249) at_247 rfl rfl rfl
                      have A1219 := A1218.bipush (z := (7 : Int32)) (pc' := 251) at_249 rfl rfl
                      have A1220 := A1219.iload (v := (0 : Int32)) (pc' := 253) at_251 rfl rfl
                      have A1221 := A1220.iloadN (v := b0) (pc' := 254) at_253 rfl rfl
                      have A1222 := A1221.iloadN (v := b1) (pc' := 255) at_254 rfl rfl
                      have A1223 := A1222.iload (v := b2) (pc' := 257) at_255 rfl rfl
                      have A1224 := A1223.lload (v := v) (pc' := 259) at_257 rfl rfl
                      obtain ⟨r1226, _, ⟨rfl, q1227⟩, A1225⟩ := W.kI (A1224.callS (argsL := [(.ref r1080), (.int (7 : Int32)), (.int (0 : Int32)), (.int b0), (.int b1), (.int b2), (.long v)]) (rest := []) (C' := 4) (S' := 37) (pc' := 262) at_259 (hw _ (List.mem_of_getElem? (i := 49) rfl)) (hw _ (List.mem_of_getElem? (i := 50) rfl)) (hw _ (List.mem_of_getElem? (i := 51) rfl)) (hw _ (List.mem_of_getElem? (i := 52) rfl)) (rm10 l Z a0 hw n0 [] (r1080) ((7 : Int32)) ((0 : Int32)) (b0) (b1) (b2) (v) (u1085) (u1086) ((own_lb v (56 : Int32))) h1083 A1224.size f1087 (by refine ⟨by decide, by decide, ?_⟩; omega) (by intro _; exact ct1095)) rfl rfl pd_6 rfl rfl (by decide) (by decide) (Nat.le_of_ble_eq_true rfl) (by decide) (by decide) rfl rfl rfl)
                      have lk7 : (7 : Int32).toInt = 7 := rfl
                      have x7 : ((own_lb v (56 : Int32))).toInt = (own_ex (7 : Int32) (0 : Int32) b0 b1 b2 v).toInt := rfl
                      by_cases c1229 : r1226.toInt = 0
                      · have A1230 := A1225.ifYes (pc' := 323) at_262 (teq (ieq (x := r1226) (y := (0 : Int32)) rfl rfl c1229)).1 (by decide) (by decide)
                        have A1231 := A1230.iconst (z := (0 : Int32)) (pc' := 324) at_323 rfl rfl
                        refine A1231.retN (t := .boolean) (z' := (0 : Int32)) at_324 (by decide) (by decide) (by simp) rfl ⟨_, rfl, ⟨trivial, ?_⟩⟩
                        have elit : (0 : Int32).toInt = 0 := rfl
                        exfalso
                        omega
                      · have A1232 := A1225.ifNo (pc' := 265) at_262 (feq (ine (x := r1226) (y := (0 : Int32)) rfl rfl c1229)).1 rfl
                        have A1233 := A1232.aload (v := (.ref r1080)) (pc' := 267) at_265 rfl rfl rfl
                        have A1234 := A1233.bipush (z := (8 : Int32)) (pc' := 269) at_267 rfl rfl
                        have A1235 := A1234.iload (v := (0 : Int32)) (pc' := 271) at_269 rfl rfl
                        have A1236 := A1235.iloadN (v := b0) (pc' := 272) at_271 rfl rfl
                        have A1237 := A1236.iloadN (v := b1) (pc' := 273) at_272 rfl rfl
                        have A1238 := A1237.iload (v := b2) (pc' := 275) at_273 rfl rfl
                        have A1239 := A1238.lload (v := v) (pc' := 277) at_275 rfl rfl
                        obtain ⟨r1241, _, ⟨rfl, q1242⟩, A1240⟩ := W.kI (A1239.callS (argsL := [(.ref r1080), (.int (8 : Int32)), (.int (0 : Int32)), (.int b0), (.int b1), (.int b2), (.long v)]) (rest := []) (C' := 4) (S' := 37) (pc' := 280) at_277 (hw _ (List.mem_of_getElem? (i := 49) rfl)) (hw _ (List.mem_of_getElem? (i := 50) rfl)) (hw _ (List.mem_of_getElem? (i := 51) rfl)) (hw _ (List.mem_of_getElem? (i := 52) rfl)) (rm10 l Z a0 hw n0 [] (r1080) ((8 : Int32)) ((0 : Int32)) (b0) (b1) (b2) (v) (u1085) (u1086) ((0 : Int32)) h1083 A1239.size f1087 (by refine ⟨by decide, by decide, ?_⟩; omega) (by intro hx; exfalso; have lk : (8 : Int32).toInt = 8 := rfl; omega)) rfl rfl pd_6 rfl rfl (by decide) (by decide) (Nat.le_of_ble_eq_true rfl) (by decide) (by decide) rfl rfl rfl)
                        have lk8 : (8 : Int32).toInt = 8 := rfl
                        by_cases c1244 : r1241.toInt = 0
                        · have A1245 := A1240.ifYes (pc' := 323) at_280 (teq (ieq (x := r1241) (y := (0 : Int32)) rfl rfl c1244)).1 (by decide) (by decide)
                          have A1246 := A1245.iconst (z := (0 : Int32)) (pc' := 324) at_323 rfl rfl
                          refine A1246.retN (t := .boolean) (z' := (0 : Int32)) at_324 (by decide) (by decide) (by simp) rfl ⟨_, rfl, ⟨trivial, ?_⟩⟩
                          have elit : (0 : Int32).toInt = 0 := rfl
                          exfalso
                          omega
                        · have A1247 := A1240.ifNo (pc' := 283) at_280 (feq (ine (x := r1241) (y := (0 : Int32)) rfl rfl c1244)).1 rfl
                          have A1248 := A1247.aload (v := (.ref r1080)) (pc' := 285) at_283 rfl rfl rfl
                          have A1249 := A1248.bipush (z := (9 : Int32)) (pc' := 287) at_285 rfl rfl
                          have A1250 := A1249.iload (v := (0 : Int32)) (pc' := 289) at_287 rfl rfl
                          have A1251 := A1250.iloadN (v := b0) (pc' := 290) at_289 rfl rfl
                          have A1252 := A1251.iloadN (v := b1) (pc' := 291) at_290 rfl rfl
                          have A1253 := A1252.iload (v := b2) (pc' := 293) at_291 rfl rfl
                          have A1254 := A1253.lload (v := v) (pc' := 295) at_293 rfl rfl
                          obtain ⟨r1256, _, ⟨rfl, q1257⟩, A1255⟩ := W.kI (A1254.callS (argsL := [(.ref r1080), (.int (9 : Int32)), (.int (0 : Int32)), (.int b0), (.int b1), (.int b2), (.long v)]) (rest := []) (C' := 4) (S' := 37) (pc' := 298) at_295 (hw _ (List.mem_of_getElem? (i := 49) rfl)) (hw _ (List.mem_of_getElem? (i := 50) rfl)) (hw _ (List.mem_of_getElem? (i := 51) rfl)) (hw _ (List.mem_of_getElem? (i := 52) rfl)) (rm10 l Z a0 hw n0 [] (r1080) ((9 : Int32)) ((0 : Int32)) (b0) (b1) (b2) (v) (u1085) (u1086) ((0 : Int32)) h1083 A1254.size f1087 (by refine ⟨by decide, by decide, ?_⟩; omega) (by intro hx; exfalso; have lk : (9 : Int32).toInt = 9 := rfl; omega)) rfl rfl pd_6 rfl rfl (by decide) (by decide) (Nat.le_of_ble_eq_true rfl) (by decide) (by decide) rfl rfl rfl)
                          have lk9 : (9 : Int32).toInt = 9 := rfl
                          by_cases c1259 : r1256.toInt = 0
                          · have A1260 := A1255.ifYes (pc' := 323) at_298 (teq (ieq (x := r1256) (y := (0 : Int32)) rfl rfl c1259)).1 (by decide) (by decide)
                            have A1261 := A1260.iconst (z := (0 : Int32)) (pc' := 324) at_323 rfl rfl
                            refine A1261.retN (t := .boolean) (z' := (0 : Int32)) at_324 (by decide) (by decide) (by simp) rfl ⟨_, rfl, ⟨trivial, ?_⟩⟩
                            have elit : (0 : Int32).toInt = 0 := rfl
                            exfalso
                            omega
                          · have A1262 := A1255.ifNo (pc' := 301) at_298 (feq (ine (x := r1256) (y := (0 : Int32)) rfl rfl c1259)).1 rfl
                            have A1263 := A1262.aload (v := (.ref r1080)) (pc' := 303) at_301 rfl rfl rfl
                            have A1264 := A1263.bipush (z := (10 : Int32)) (pc' := 305) at_303 rfl rfl
                            have A1265 := A1264.iload (v := (0 : Int32)) (pc' := 307) at_305 rfl rfl
                            have A1266 := A1265.iloadN (v := b0) (pc' := 308) at_307 rfl rfl
                            have A1267 := A1266.iloadN (v := b1) (pc' := 309) at_308 rfl rfl
                            have A1268 := A1267.iload (v := b2) (pc' := 311) at_309 rfl rfl
                            have A1269 := A1268.lload (v := v) (pc' := 313) at_311 rfl rfl
                            obtain ⟨r1271, _, ⟨rfl, q1272⟩, A1270⟩ := W.kI (A1269.callS (argsL := [(.ref r1080), (.int (10 : Int32)), (.int (0 : Int32)), (.int b0), (.int b1), (.int b2), (.long v)]) (rest := []) (C' := 4) (S' := 37) (pc' := 316) at_313 (hw _ (List.mem_of_getElem? (i := 49) rfl)) (hw _ (List.mem_of_getElem? (i := 50) rfl)) (hw _ (List.mem_of_getElem? (i := 51) rfl)) (hw _ (List.mem_of_getElem? (i := 52) rfl)) (rm10 l Z a0 hw n0 [] (r1080) ((10 : Int32)) ((0 : Int32)) (b0) (b1) (b2) (v) (u1085) (u1086) ((0 : Int32)) h1083 A1269.size f1087 (by refine ⟨by decide, by decide, ?_⟩; omega) (by intro hx; exfalso; have lk : (10 : Int32).toInt = 10 := rfl; omega)) rfl rfl pd_6 rfl rfl (by decide) (by decide) (Nat.le_of_ble_eq_true rfl) (by decide) (by decide) rfl rfl rfl)
                            have lk10 : (10 : Int32).toInt = 10 := rfl
                            by_cases c1274 : r1271.toInt = 0
                            · have A1275 := A1270.ifYes (pc' := 323) at_316 (teq (ieq (x := r1271) (y := (0 : Int32)) rfl rfl c1274)).1 (by decide) (by decide)
                              have A1276 := A1275.iconst (z := (0 : Int32)) (pc' := 324) at_323 rfl rfl
                              refine A1276.retN (t := .boolean) (z' := (0 : Int32)) at_324 (by decide) (by decide) (by simp) rfl ⟨_, rfl, ⟨trivial, ?_⟩⟩
                              have elit : (0 : Int32).toInt = 0 := rfl
                              exfalso
                              omega
                            · have A1277 := A1270.ifNo (pc' := 319) at_316 (feq (ine (x := r1271) (y := (0 : Int32)) rfl rfl c1274)).1 rfl
                              have A1278 := A1277.iconst (z := (1 : Int32)) (pc' := 320) at_319 rfl rfl
                              have A1279 := A1278.goto (pc' := 324) at_320 (by decide) (by decide)
                              refine A1279.retN (t := .boolean) (z' := (1 : Int32)) at_324 (by decide) (by decide) (by simp) rfl ⟨_, rfl, ⟨trivial, ?_⟩⟩
                              have elit : (1 : Int32).toInt = 1 := rfl
                              rfl
      · have A1280 := A1110.icmpNo (pc' := 125) at_122 (feq (ine (x := (Int32.ofNat u1085)) (y := (8 : Int32)) rfl rfl c1111)).1 rfl
        have A1281 := A1280.iconst (z := (0 : Int32)) (pc' := 126) at_125 rfl rfl
        refine A1281.retN (t := .boolean) (z' := (0 : Int32)) at_126 (by decide) (by decide) (by simp) rfl ⟨_, rfl, ⟨trivial, ?_⟩⟩
        have elit : (0 : Int32).toInt = 0 := rfl
        exfalso
        omega
    · have A1282 := A1036.cast (Ls' := #[.val (.int xc), .val (.int xn), .val (.int b0), .val (.int b1), .val (.int b2), .val (.long v), .second, .val (.int cp), .val (.int (1 : Int32)), .val (.int (1 : Int32)), .val (.ref b1013), .unset, .unset]) rfl (by rw [hn]) rfl
      have A1283 := A1282.iload (v := (1 : Int32)) (pc' := 39) at_37 rfl rfl
      have A1285 := A1283.ifNo (pc' := 42) at_39 (tlt (igt (x := (1 : Int32)) (y := (0 : Int32)) rfl rfl (by decide : (0 : Int) < 1))).2.2.2 rfl
      have A1286 := A1285.aload (v := (.ref b1013)) (pc' := 44) at_42 rfl rfl rfl
      have A1287 := A1286.iloadN (v := b0) (pc' := 45) at_44 rfl rfl
      have f1288 := (X1017.keep K1028)
      obtain ⟨r1290, h1292, ⟨u1294, u1295, u1296, u1297, K1293, f1298, f1299, f1300, f1301, f1302, q1291⟩, A1289⟩ := W.kA (A1287.callV (a := b1013) (argsL := [(.int b0)]) (rest := []) (C' := 3) (S' := 23) (pc' := 48) at_45 f1288 (hw _ (List.mem_of_getElem? (i := 12) rfl)) (hw _ (List.mem_of_getElem? (i := 13) rfl)) (fun hZ => notFace_of_selects (args := #[]) (mvT hZ (hw _ (List.mem_of_getElem? (i := 15) rfl)))) (hw _ (List.mem_of_getElem? (i := 15) rfl)) (hw _ (List.mem_of_getElem? (i := 14) rfl)) (hw _ (List.mem_of_getElem? (i := 2) rfl)) (hw _ (List.mem_of_getElem? (i := 16) rfl)) (rm3 l Z a0 hw n0 [] (b1013) (b0) (b1029) (cp.toInt.toNat) ((fun _ => (.int (0 : Int32)))) ((0 : Int32)) h1027 A1287.size f1288 g1015 f1032 f1033 f1034 g1030 ne1035 (by omega)) rfl rfl pd_7 rfl rfl (by decide) (by decide) (Nat.le_of_ble_eq_true rfl) (by decide) (by decide) rfl rfl rfl)
      obtain ⟨-, -, hs0, hle0, hN0, hold0, hnew0⟩ := q1291
      have ct1303 : u1296 0 = .int b0.toInt8.toInt32 := by have e : (0 : Int32).toInt.toNat = 0 := (by omega); rw [← e]; exact hnew0
      have A1304 := A1289.pop (pc' := 49) at_48 rfl rfl
      have A1305 := A1304.iload (v := (1 : Int32)) (pc' := 51) at_49 rfl rfl
      have A1306 := A1305.iconst (z := (1 : Int32)) (pc' := 52) at_51 rfl rfl
      have A1308 := A1306.icmpYes (pc' := 62) at_52 (flt (ingt (x := (1 : Int32)) (y := (1 : Int32)) rfl rfl (by decide : ¬ ((1 : Int) < 1)))).2.2.2 (by decide) (by decide)
      have A1309 := A1308.iload (v := (1 : Int32)) (pc' := 64) at_62 rfl rfl
      have A1310 := A1309.iconst (z := (2 : Int32)) (pc' := 65) at_64 rfl rfl
      have A1312 := A1310.icmpYes (pc' := 76) at_65 (flt (ingt (x := (1 : Int32)) (y := (2 : Int32)) rfl rfl (by decide : ¬ ((2 : Int) < 1)))).2.2.2 (by decide) (by decide)
      have A1313 := A1312.iload (v := (1 : Int32)) (pc' := 78) at_76 rfl rfl
      have A1315 := A1313.ifNo (pc' := 81) at_78 (feq (ine (x := (1 : Int32)) (y := (0 : Int32)) rfl rfl (by decide : ¬ ((1 : Int) = 0)))).1 rfl
      have A1316 := A1315.aload (v := (.ref b1013)) (pc' := 83) at_81 rfl rfl rfl
      have A1317 := A1316.lload (v := v) (pc' := 85) at_83 rfl rfl
      have f1318 := (f1288.keep K1293)
      obtain ⟨r1320, h1322, ⟨u1324, u1325, u1326, u1327, K1323, f1328, f1329, f1330, f1331, f1332, q1321⟩, A1319⟩ := W.kA (A1317.callV (a := b1013) (argsL := [(.long v)]) (rest := []) (C' := 4) (S' := 37) (pc' := 88) at_85 f1318 (hw _ (List.mem_of_getElem? (i := 56) rfl)) (hw _ (List.mem_of_getElem? (i := 57) rfl)) (fun hZ => notFace_of_selects (args := #[]) (mvT hZ (hw _ (List.mem_of_getElem? (i := 59) rfl)))) (hw _ (List.mem_of_getElem? (i := 59) rfl)) (hw _ (List.mem_of_getElem? (i := 58) rfl)) (hw _ (List.mem_of_getElem? (i := 2) rfl)) (hw _ (List.mem_of_getElem? (i := 60) rfl)) (rm12 l Z a0 hw n0 [] (b1013) (v) (u1294) (u1295) (u1296) (u1297) h1292 A1317.size f1318 g1015 f1298 f1299 f1300 f1301 f1302 (by omega)) rfl rfl pd_8 rfl rfl (by decide) (by decide) (Nat.le_of_ble_eq_true rfl) (by decide) (by decide) rfl rfl rfl)
      obtain ⟨-, -, hsL, hleL, hNL, holdL, hl0, hl1, hl2, hl3, hl4, hl5, hl6, hl7⟩ := q1321
      have ez : u1297.toInt.toNat = 1 := by omega
      rw [ez] at hl0 hl1 hl2 hl3 hl4 hl5 hl6 hl7
      have ct1333 : u1326 0 = .int b0.toInt8.toInt32 := (holdL 0 (by omega)).trans ct1303
      have ct1334 : u1326 1 = .int (own_lb v (0 : Int32)) := hl0
      have ct1335 : u1326 2 = .int (own_lb v (8 : Int32)) := hl1
      have ct1336 : u1326 3 = .int (own_lb v (16 : Int32)) := hl2
      have ct1337 : u1326 4 = .int (own_lb v (24 : Int32)) := hl3
      have ct1338 : u1326 5 = .int (own_lb v (32 : Int32)) := hl4
      have ct1339 : u1326 6 = .int (own_lb v (40 : Int32)) := hl5
      have ct1340 : u1326 7 = .int (own_lb v (48 : Int32)) := hl6
      have ct1341 : u1326 8 = .int (own_lb v (56 : Int32)) := hl7
      have A1342 := A1319.pop (pc' := 89) at_88 rfl rfl
      have A1343 := A1342.aload (v := (.ref b1013)) (pc' := 91) at_89 rfl rfl rfl
      have f1346 := (f1318.keep K1323)
      obtain ⟨r1345, h1348, ⟨u1350, u1351, K1349, f1352, q1347⟩, A1344⟩ := W.kA (A1343.callV (a := b1013) (argsL := []) (rest := []) (C' := 5) (S' := 51) (pc' := 94) at_91 f1346 (hw _ (List.mem_of_getElem? (i := 44) rfl)) (hw _ (List.mem_of_getElem? (i := 45) rfl)) (fun hZ => notFace_of_selects (args := #[]) (mvT hZ (hw _ (List.mem_of_getElem? (i := 47) rfl)))) (hw _ (List.mem_of_getElem? (i := 47) rfl)) (hw _ (List.mem_of_getElem? (i := 46) rfl)) (hw _ (List.mem_of_getElem? (i := 2) rfl)) (hw _ (List.mem_of_getElem? (i := 48) rfl)) (rm9 l Z a0 hw n0 [] (b1013) (u1324) (u1325) (u1326) (u1327) h1322 A1343.size f1328 f1329 f1330 (by omega)) rfl rfl pd_5 rfl rfl (by decide) (by decide) (Nat.le_of_ble_eq_true rfl) (by decide) (by decide) rfl rfl rfl)
      obtain ⟨hN3, holdA⟩ := q1347
      have tN3 : (Int32.ofNat u1350).toInt = u1350 := Int32.toInt_ofNat_of_lt (by omega)
      have ct1353 : u1351 0 = .int b0.toInt8.toInt32 := (holdA 0 (by omega)).trans ct1333
      have ct1354 : u1351 1 = .int (own_lb v (0 : Int32)) := (holdA 1 (by omega)).trans ct1334
      have ct1355 : u1351 2 = .int (own_lb v (8 : Int32)) := (holdA 2 (by omega)).trans ct1335
      have ct1356 : u1351 3 = .int (own_lb v (16 : Int32)) := (holdA 3 (by omega)).trans ct1336
      have ct1357 : u1351 4 = .int (own_lb v (24 : Int32)) := (holdA 4 (by omega)).trans ct1337
      have ct1358 : u1351 5 = .int (own_lb v (32 : Int32)) := (holdA 5 (by omega)).trans ct1338
      have ct1359 : u1351 6 = .int (own_lb v (40 : Int32)) := (holdA 6 (by omega)).trans ct1339
      have ct1360 : u1351 7 = .int (own_lb v (48 : Int32)) := (holdA 7 (by omega)).trans ct1340
      have ct1361 : u1351 8 = .int (own_lb v (56 : Int32)) := (holdA 8 (by omega)).trans ct1341
      have A1362 := A1344.astore (Ls' := #[.val (.int xc), .val (.int xn), .val (.int b0), .val (.int b1), .val (.int b2), .val (.long v), .second, .val (.int cp), .val (.int (1 : Int32)), .val (.int (1 : Int32)), .val (.ref b1013), .val (.ref r1345), .unset]) (pc' := 96) at_94 rfl rfl rfl
      have A1363 := A1362.iload (v := (1 : Int32)) (pc' := 98) at_96 rfl rfl
      have A1364 := A1363.iload (v := (1 : Int32)) (pc' := 100) at_98 rfl rfl
      have A1366 := A1364.ifNo (pc' := 103) at_100 (feq (ine (x := (1 : Int32)) (y := (0 : Int32)) rfl rfl (by decide : ¬ ((1 : Int) = 0)))).1 rfl
      have A1367 := A1366.bipush (z := (8 : Int32)) (pc' := 105) at_103 rfl rfl
      have A1368 := A1367.goto (pc' := 109) at_105 (by decide) (by decide)
      have A1369 := A1368.iadd (pc' := 110) at_109 rfl
      have A1370 := A1369.topI (z := (9 : Int32)) (by decide)
      have A1371 := A1370.istore (Ls' := #[.val (.int xc), .val (.int xn), .val (.int b0), .val (.int b1), .val (.int b2), .val (.long v), .second, .val (.int cp), .val (.int (1 : Int32)), .val (.int (1 : Int32)), .val (.ref b1013), .val (.ref r1345), .val (.int (9 : Int32))]) (pc' := 112) at_110 rfl rfl
      have A1372 := A1371.aload (v := (.ref r1345)) (pc' := 114) at_112 rfl rfl rfl
      have A1373 := A1372.ifnullNo (pc' := 117) at_114 rfl
      have A1374 := A1373.aload (v := (.ref r1345)) (pc' := 119) at_117 rfl rfl rfl
      have A1375 := A1374.alen (z := (Int32.ofNat u1350)) (pc' := 120) at_119 f1352 (Int32.toInt_ofNat_small f1352.size) rfl
      have A1376 := A1375.iload (v := (9 : Int32)) (pc' := 122) at_120 rfl rfl
      by_cases c1377 : (Int32.ofNat u1350).toInt = 9
      · have A1378 := A1376.icmpYes (pc' := 127) at_122 (teq (ieq (x := (Int32.ofNat u1350)) (y := (9 : Int32)) rfl rfl c1377)).1 (by decide) (by decide)
        have A1379 := A1378.aload (v := (.ref r1345)) (pc' := 129) at_127 rfl rfl rfl
        have A1380 := A1379.iconst (z := (0 : Int32)) (pc' := 130) at_129 rfl rfl
        have A1381 := A1380.iload (v := (1 : Int32)) (pc' := 132) at_130 rfl rfl
        have A1382 := A1381.iloadN (v := b0) (pc' := 133) at_132 rfl rfl
        have A1383 := A1382.iloadN (v := b1) (pc' := 134) at_133 rfl rfl
        have A1384 := A1383.iload (v := b2) (pc' := 136) at_134 rfl rfl
        have A1385 := A1384.lload (v := v) (pc' := 138) at_136 rfl rfl
        obtain ⟨r1387, _, ⟨rfl, q1388⟩, A1386⟩ := W.kI (A1385.callS (argsL := [(.ref r1345), (.int (0 : Int32)), (.int (1 : Int32)), (.int b0), (.int b1), (.int b2), (.long v)]) (rest := []) (C' := 5) (S' := 51) (pc' := 141) at_138 (hw _ (List.mem_of_getElem? (i := 49) rfl)) (hw _ (List.mem_of_getElem? (i := 50) rfl)) (hw _ (List.mem_of_getElem? (i := 51) rfl)) (hw _ (List.mem_of_getElem? (i := 52) rfl)) (rm10 l Z a0 hw n0 [] (r1345) ((0 : Int32)) ((1 : Int32)) (b0) (b1) (b2) (v) (u1350) (u1351) (b0.toInt8.toInt32) h1348 A1385.size f1352 (by refine ⟨by decide, by decide, ?_⟩; omega) (by intro _; exact ct1353)) rfl rfl pd_6 rfl rfl (by decide) (by decide) (Nat.le_of_ble_eq_true rfl) (by decide) (by decide) rfl rfl rfl)
        have lk0 : (0 : Int32).toInt = 0 := rfl
        have x0 : (b0.toInt8.toInt32).toInt = (own_ex (0 : Int32) (1 : Int32) b0 b1 b2 v).toInt := rfl
        by_cases c1390 : r1387.toInt = 0
        · have A1391 := A1386.ifYes (pc' := 323) at_141 (teq (ieq (x := r1387) (y := (0 : Int32)) rfl rfl c1390)).1 (by decide) (by decide)
          have A1392 := A1391.iconst (z := (0 : Int32)) (pc' := 324) at_323 rfl rfl
          refine A1392.retN (t := .boolean) (z' := (0 : Int32)) at_324 (by decide) (by decide) (by simp) rfl ⟨_, rfl, ⟨trivial, ?_⟩⟩
          have elit : (0 : Int32).toInt = 0 := rfl
          exfalso
          omega
        · have A1393 := A1386.ifNo (pc' := 144) at_141 (feq (ine (x := r1387) (y := (0 : Int32)) rfl rfl c1390)).1 rfl
          have A1394 := A1393.aload (v := (.ref r1345)) (pc' := 146) at_144 rfl rfl rfl
          have A1395 := A1394.iconst (z := (1 : Int32)) (pc' := 147) at_146 rfl rfl
          have A1396 := A1395.iload (v := (1 : Int32)) (pc' := 149) at_147 rfl rfl
          have A1397 := A1396.iloadN (v := b0) (pc' := 150) at_149 rfl rfl
          have A1398 := A1397.iloadN (v := b1) (pc' := 151) at_150 rfl rfl
          have A1399 := A1398.iload (v := b2) (pc' := 153) at_151 rfl rfl
          have A1400 := A1399.lload (v := v) (pc' := 155) at_153 rfl rfl
          obtain ⟨r1402, _, ⟨rfl, q1403⟩, A1401⟩ := W.kI (A1400.callS (argsL := [(.ref r1345), (.int (1 : Int32)), (.int (1 : Int32)), (.int b0), (.int b1), (.int b2), (.long v)]) (rest := []) (C' := 5) (S' := 51) (pc' := 158) at_155 (hw _ (List.mem_of_getElem? (i := 49) rfl)) (hw _ (List.mem_of_getElem? (i := 50) rfl)) (hw _ (List.mem_of_getElem? (i := 51) rfl)) (hw _ (List.mem_of_getElem? (i := 52) rfl)) (rm10 l Z a0 hw n0 [] (r1345) ((1 : Int32)) ((1 : Int32)) (b0) (b1) (b2) (v) (u1350) (u1351) ((own_lb v (0 : Int32))) h1348 A1400.size f1352 (by refine ⟨by decide, by decide, ?_⟩; omega) (by intro _; exact ct1354)) rfl rfl pd_6 rfl rfl (by decide) (by decide) (Nat.le_of_ble_eq_true rfl) (by decide) (by decide) rfl rfl rfl)
          have lk1 : (1 : Int32).toInt = 1 := rfl
          have x1 : ((own_lb v (0 : Int32))).toInt = (own_ex (1 : Int32) (1 : Int32) b0 b1 b2 v).toInt := rfl
          by_cases c1405 : r1402.toInt = 0
          · have A1406 := A1401.ifYes (pc' := 323) at_158 (teq (ieq (x := r1402) (y := (0 : Int32)) rfl rfl c1405)).1 (by decide) (by decide)
            have A1407 := A1406.iconst (z := (0 : Int32)) (pc' := 324) at_323 rfl rfl
            refine A1407.retN (t := .boolean) (z' := (0 : Int32)) at_324 (by decide) (by decide) (by simp) rfl ⟨_, rfl, ⟨trivial, ?_⟩⟩
            have elit : (0 : Int32).toInt = 0 := rfl
            exfalso
            omega
          · have A1408 := A1401.ifNo (pc' := 161) at_158 (feq (ine (x := r1402) (y := (0 : Int32)) rfl rfl c1405)).1 rfl
            have A1409 := A1408.aload (v := (.ref r1345)) (pc' := 163) at_161 rfl rfl rfl
            have A1410 := A1409.iconst (z := (2 : Int32)) (pc' := 164) at_163 rfl rfl
            have A1411 := A1410.iload (v := (1 : Int32)) (pc' := 166) at_164 rfl rfl
            have A1412 := A1411.iloadN (v := b0) (pc' := 167) at_166 rfl rfl
            have A1413 := A1412.iloadN (v := b1) (pc' := 168) at_167 rfl rfl
            have A1414 := A1413.iload (v := b2) (pc' := 170) at_168 rfl rfl
            have A1415 := A1414.lload (v := v) (pc' := 172) at_170 rfl rfl
            obtain ⟨r1417, _, ⟨rfl, q1418⟩, A1416⟩ := W.kI (A1415.callS (argsL := [(.ref r1345), (.int (2 : Int32)), (.int (1 : Int32)), (.int b0), (.int b1), (.int b2), (.long v)]) (rest := []) (C' := 5) (S' := 51) (pc' := 175) at_172 (hw _ (List.mem_of_getElem? (i := 49) rfl)) (hw _ (List.mem_of_getElem? (i := 50) rfl)) (hw _ (List.mem_of_getElem? (i := 51) rfl)) (hw _ (List.mem_of_getElem? (i := 52) rfl)) (rm10 l Z a0 hw n0 [] (r1345) ((2 : Int32)) ((1 : Int32)) (b0) (b1) (b2) (v) (u1350) (u1351) ((own_lb v (8 : Int32))) h1348 A1415.size f1352 (by refine ⟨by decide, by decide, ?_⟩; omega) (by intro _; exact ct1355)) rfl rfl pd_6 rfl rfl (by decide) (by decide) (Nat.le_of_ble_eq_true rfl) (by decide) (by decide) rfl rfl rfl)
            have lk2 : (2 : Int32).toInt = 2 := rfl
            have x2 : ((own_lb v (8 : Int32))).toInt = (own_ex (2 : Int32) (1 : Int32) b0 b1 b2 v).toInt := rfl
            by_cases c1420 : r1417.toInt = 0
            · have A1421 := A1416.ifYes (pc' := 323) at_175 (teq (ieq (x := r1417) (y := (0 : Int32)) rfl rfl c1420)).1 (by decide) (by decide)
              have A1422 := A1421.iconst (z := (0 : Int32)) (pc' := 324) at_323 rfl rfl
              refine A1422.retN (t := .boolean) (z' := (0 : Int32)) at_324 (by decide) (by decide) (by simp) rfl ⟨_, rfl, ⟨trivial, ?_⟩⟩
              have elit : (0 : Int32).toInt = 0 := rfl
              exfalso
              omega
            · have A1423 := A1416.ifNo (pc' := 178) at_175 (feq (ine (x := r1417) (y := (0 : Int32)) rfl rfl c1420)).1 rfl
              have A1424 := A1423.aload (v := (.ref r1345)) (pc' := 180) at_178 rfl rfl rfl
              have A1425 := A1424.iconst (z := (3 : Int32)) (pc' := 181) at_180 rfl rfl
              have A1426 := A1425.iload (v := (1 : Int32)) (pc' := 183) at_181 rfl rfl
              have A1427 := A1426.iloadN (v := b0) (pc' := 184) at_183 rfl rfl
              have A1428 := A1427.iloadN (v := b1) (pc' := 185) at_184 rfl rfl
              have A1429 := A1428.iload (v := b2) (pc' := 187) at_185 rfl rfl
              have A1430 := A1429.lload (v := v) (pc' := 189) at_187 rfl rfl
              obtain ⟨r1432, _, ⟨rfl, q1433⟩, A1431⟩ := W.kI (A1430.callS (argsL := [(.ref r1345), (.int (3 : Int32)), (.int (1 : Int32)), (.int b0), (.int b1), (.int b2), (.long v)]) (rest := []) (C' := 5) (S' := 51) (pc' := 192) at_189 (hw _ (List.mem_of_getElem? (i := 49) rfl)) (hw _ (List.mem_of_getElem? (i := 50) rfl)) (hw _ (List.mem_of_getElem? (i := 51) rfl)) (hw _ (List.mem_of_getElem? (i := 52) rfl)) (rm10 l Z a0 hw n0 [] (r1345) ((3 : Int32)) ((1 : Int32)) (b0) (b1) (b2) (v) (u1350) (u1351) ((own_lb v (16 : Int32))) h1348 A1430.size f1352 (by refine ⟨by decide, by decide, ?_⟩; omega) (by intro _; exact ct1356)) rfl rfl pd_6 rfl rfl (by decide) (by decide) (Nat.le_of_ble_eq_true rfl) (by decide) (by decide) rfl rfl rfl)
              have lk3 : (3 : Int32).toInt = 3 := rfl
              have x3 : ((own_lb v (16 : Int32))).toInt = (own_ex (3 : Int32) (1 : Int32) b0 b1 b2 v).toInt := rfl
              by_cases c1435 : r1432.toInt = 0
              · have A1436 := A1431.ifYes (pc' := 323) at_192 (teq (ieq (x := r1432) (y := (0 : Int32)) rfl rfl c1435)).1 (by decide) (by decide)
                have A1437 := A1436.iconst (z := (0 : Int32)) (pc' := 324) at_323 rfl rfl
                refine A1437.retN (t := .boolean) (z' := (0 : Int32)) at_324 (by decide) (by decide) (by simp) rfl ⟨_, rfl, ⟨trivial, ?_⟩⟩
                have elit : (0 : Int32).toInt = 0 := rfl
                exfalso
                omega
              · have A1438 := A1431.ifNo (pc' := 195) at_192 (feq (ine (x := r1432) (y := (0 : Int32)) rfl rfl c1435)).1 rfl
                have A1439 := A1438.aload (v := (.ref r1345)) (pc' := 197) at_195 rfl rfl rfl
                have A1440 := A1439.iconst (z := (4 : Int32)) (pc' := 198) at_197 rfl rfl
                have A1441 := A1440.iload (v := (1 : Int32)) (pc' := 200) at_198 rfl rfl
                have A1442 := A1441.iloadN (v := b0) (pc' := 201) at_200 rfl rfl
                have A1443 := A1442.iloadN (v := b1) (pc' := 202) at_201 rfl rfl
                have A1444 := A1443.iload (v := b2) (pc' := 204) at_202 rfl rfl
                have A1445 := A1444.lload (v := v) (pc' := 206) at_204 rfl rfl
                obtain ⟨r1447, _, ⟨rfl, q1448⟩, A1446⟩ := W.kI (A1445.callS (argsL := [(.ref r1345), (.int (4 : Int32)), (.int (1 : Int32)), (.int b0), (.int b1), (.int b2), (.long v)]) (rest := []) (C' := 5) (S' := 51) (pc' := 209) at_206 (hw _ (List.mem_of_getElem? (i := 49) rfl)) (hw _ (List.mem_of_getElem? (i := 50) rfl)) (hw _ (List.mem_of_getElem? (i := 51) rfl)) (hw _ (List.mem_of_getElem? (i := 52) rfl)) (rm10 l Z a0 hw n0 [] (r1345) ((4 : Int32)) ((1 : Int32)) (b0) (b1) (b2) (v) (u1350) (u1351) ((own_lb v (24 : Int32))) h1348 A1445.size f1352 (by refine ⟨by decide, by decide, ?_⟩; omega) (by intro _; exact ct1357)) rfl rfl pd_6 rfl rfl (by decide) (by decide) (Nat.le_of_ble_eq_true rfl) (by decide) (by decide) rfl rfl rfl)
                have lk4 : (4 : Int32).toInt = 4 := rfl
                have x4 : ((own_lb v (24 : Int32))).toInt = (own_ex (4 : Int32) (1 : Int32) b0 b1 b2 v).toInt := rfl
                by_cases c1450 : r1447.toInt = 0
                · have A1451 := A1446.ifYes (pc' := 323) at_209 (teq (ieq (x := r1447) (y := (0 : Int32)) rfl rfl c1450)).1 (by decide) (by decide)
                  have A1452 := A1451.iconst (z := (0 : Int32)) (pc' := 324) at_323 rfl rfl
                  refine A1452.retN (t := .boolean) (z' := (0 : Int32)) at_324 (by decide) (by decide) (by simp) rfl ⟨_, rfl, ⟨trivial, ?_⟩⟩
                  have elit : (0 : Int32).toInt = 0 := rfl
                  exfalso
                  omega
                · have A1453 := A1446.ifNo (pc' := 212) at_209 (feq (ine (x := r1447) (y := (0 : Int32)) rfl rfl c1450)).1 rfl
                  have A1454 := A1453.aload (v := (.ref r1345)) (pc' := 214) at_212 rfl rfl rfl
                  have A1455 := A1454.iconst (z := (5 : Int32)) (pc' := 215) at_214 rfl rfl
                  have A1456 := A1455.iload (v := (1 : Int32)) (pc' := 217) at_215 rfl rfl
                  have A1457 := A1456.iloadN (v := b0) (pc' := 218) at_217 rfl rfl
                  have A1458 := A1457.iloadN (v := b1) (pc' := 219) at_218 rfl rfl
                  have A1459 := A1458.iload (v := b2) (pc' := 221) at_219 rfl rfl
                  have A1460 := A1459.lload (v := v) (pc' := 223) at_221 rfl rfl
                  obtain ⟨r1462, _, ⟨rfl, q1463⟩, A1461⟩ := W.kI (A1460.callS (argsL := [(.ref r1345), (.int (5 : Int32)), (.int (1 : Int32)), (.int b0), (.int b1), (.int b2), (.long v)]) (rest := []) (C' := 5) (S' := 51) (pc' := 226) at_223 (hw _ (List.mem_of_getElem? (i := 49) rfl)) (hw _ (List.mem_of_getElem? (i := 50) rfl)) (hw _ (List.mem_of_getElem? (i := 51) rfl)) (hw _ (List.mem_of_getElem? (i := 52) rfl)) (rm10 l Z a0 hw n0 [] (r1345) ((5 : Int32)) ((1 : Int32)) (b0) (b1) (b2) (v) (u1350) (u1351) ((own_lb v (32 : Int32))) h1348 A1460.size f1352 (by refine ⟨by decide, by decide, ?_⟩; omega) (by intro _; exact ct1358)) rfl rfl pd_6 rfl rfl (by decide) (by decide) (Nat.le_of_ble_eq_true rfl) (by decide) (by decide) rfl rfl rfl)
                  have lk5 : (5 : Int32).toInt = 5 := rfl
                  have x5 : ((own_lb v (32 : Int32))).toInt = (own_ex (5 : Int32) (1 : Int32) b0 b1 b2 v).toInt := rfl
                  by_cases c1465 : r1462.toInt = 0
                  · have A1466 := A1461.ifYes (pc' := 323) at_226 (teq (ieq (x := r1462) (y := (0 : Int32)) rfl rfl c1465)).1 (by decide) (by decide)
                    have A1467 := A1466.iconst (z := (0 : Int32)) (pc' := 324) at_323 rfl rfl
                    refine A1467.retN (t := .boolean) (z' := (0 : Int32)) at_324 (by decide) (by decide) (by simp) rfl ⟨_, rfl, ⟨trivial, ?_⟩⟩
                    have elit : (0 : Int32).toInt = 0 := rfl
                    exfalso
                    omega
                  · have A1468 := A1461.ifNo (pc' := 229) at_226 (feq (ine (x := r1462) (y := (0 : Int32)) rfl rfl c1465)).1 rfl
                    have A1469 := A1468.aload (v := (.ref r1345)) (pc' := 231) at_229 rfl rfl rfl
                    have A1470 := A1469.bipush (z := (6 : Int32)) (pc' := 233) at_231 rfl rfl
                    have A1471 := A1470.iload (v := (1 : Int32)) (pc' := 235) at_233 rfl rfl
                    have A1472 := A1471.iloadN (v := b0) (pc' := 236) at_235 rfl rfl
                    have A1473 := A1472.iloadN (v := b1) (pc' := 237) at_236 rfl rfl
                    have A1474 := A1473.iload (v := b2) (pc' := 239) at_237 rfl rfl
                    have A1475 := A1474.lload (v := v) (pc' := 241) at_239 rfl rfl
                    obtain ⟨r1477, _, ⟨rfl, q1478⟩, A1476⟩ := W.kI (A1475.callS (argsL := [(.ref r1345), (.int (6 : Int32)), (.int (1 : Int32)), (.int b0), (.int b1), (.int b2), (.long v)]) (rest := []) (C' := 5) (S' := 51) (pc' := 244) at_241 (hw _ (List.mem_of_getElem? (i := 49) rfl)) (hw _ (List.mem_of_getElem? (i := 50) rfl)) (hw _ (List.mem_of_getElem? (i := 51) rfl)) (hw _ (List.mem_of_getElem? (i := 52) rfl)) (rm10 l Z a0 hw n0 [] (r1345) ((6 : Int32)) ((1 : Int32)) (b0) (b1) (b2) (v) (u1350) (u1351) ((own_lb v (40 : Int32))) h1348 A1475.size f1352 (by refine ⟨by decide, by decide, ?_⟩; omega) (by intro _; exact ct1359)) rfl rfl pd_6 rfl rfl (by decide) (by decide) (Nat.le_of_ble_eq_true rfl) (by decide) (by decide) rfl rfl rfl)
                    have lk6 : (6 : Int32).toInt = 6 := rfl
                    have x6 : ((own_lb v (40 : Int32))).toInt = (own_ex (6 : Int32) (1 : Int32) b0 b1 b2 v).toInt := rfl
                    by_cases c1480 : r1477.toInt = 0
                    · have A1481 := A1476.ifYes (pc' := 323) at_244 (teq (ieq (x := r1477) (y := (0 : Int32)) rfl rfl c1480)).1 (by decide) (by decide)
                      have A1482 := A1481.iconst (z := (0 : Int32)) (pc' := 324) at_323 rfl rfl
                      refine A1482.retN (t := .boolean) (z' := (0 : Int32)) at_324 (by decide) (by decide) (by simp) rfl ⟨_, rfl, ⟨trivial, ?_⟩⟩
                      have elit : (0 : Int32).toInt = 0 := rfl
                      exfalso
                      omega
                    · have A1483 := A1476.ifNo (pc' := 247) at_244 (feq (ine (x := r1477) (y := (0 : Int32)) rfl rfl c1480)).1 rfl
                      have A1484 := A1483.aload (v := (.ref r1345)) (pc' := 249) at_247 rfl rfl rfl
                      have A1485 := A1484.bipush (z := (7 : Int32)) (pc' := 251) at_249 rfl rfl
                      have A1486 := A1485.iload (v := (1 : Int32)) (pc' := 253) at_251 rfl rfl
                      have A1487 := A1486.iloadN (v := b0) (pc' := 254) at_253 rfl rfl
                      have A1488 := A1487.iloadN (v := b1) (pc' := 255) at_254 rfl rfl
                      have A1489 := A1488.iload (v := b2) (pc' := 257) at_255 rfl rfl
                      have A1490 := A1489.lload (v := v) (pc' := 259) at_257 rfl rfl
                      obtain ⟨r1492, _, ⟨rfl, q1493⟩, A1491⟩ := W.kI (A1490.callS (argsL := [(.ref r1345), (.int (7 : Int32)), (.int (1 : Int32)), (.int b0), (.int b1), (.int b2), (.long v)]) (rest := []) (C' := 5) (S' := 51) (pc' := 262) at_259 (hw _ (List.mem_of_getElem? (i := 49) rfl)) (hw _ (List.mem_of_getElem? (i := 50) rfl)) (hw _ (List.mem_of_getElem? (i := 51) rfl)) (hw _ (List.mem_of_getElem? (i := 52) rfl)) (rm10 l Z a0 hw n0 [] (r1345) ((7 : Int32)) ((1 : Int32)) (b0) (b1) (b2) (v) (u1350) (u1351) ((own_lb v (48 : Int32))) h1348 A1490.size f1352 (by refine ⟨by decide, by decide, ?_⟩; omega) (by intro _; exact ct1360)) rfl rfl pd_6 rfl rfl (by decide) (by decide) (Nat.le_of_ble_eq_true rfl) (by decide) (by decide) rfl rfl rfl)
                      have lk7 : (7 : Int32).toInt = 7 := rfl
                      have x7 : ((own_lb v (48 : Int32))).toInt = (own_ex (7 : Int32) (1 : Int32) b0 b1 b2 v).toInt := rfl
                      by_cases c1495 : r1492.toInt = 0
                      · have A1496 := A1491.ifYes (pc' := 323) at_262 (teq (ieq (x := r1492) (y := (0 : Int32)) rfl rfl c1495)).1 (by decide) (by decide)
                        have A1497 := A1496.iconst (z := (0 : Int32)) (pc' := 324) at_323 rfl rfl
                        refine A1497.retN (t := .boolean) (z' := (0 : Int32)) at_324 (by decide) (by decide) (by simp) rfl ⟨_, rfl, ⟨trivial, ?_⟩⟩
                        have elit : (0 : Int32).toInt = 0 := rfl
                        exfalso
                        omega
                      · have A1498 := A1491.ifNo (pc' := 265) at_262 (feq (ine (x := r1492) (y := (0 : Int32)) rfl rfl c1495)).1 rfl
                        have A1499 := A1498.aload (v := (.ref r1345)) (pc' := 267) at_265 rfl rfl rfl
                        have A1500 := A1499.bipush (z := (8 : Int32)) (pc' := 269) at_267 rfl rfl
                        have A1501 := A1500.iload (v := (1 : Int32)) (pc' := 271) at_269 rfl rfl
                        have A1502 := A1501.iloadN (v := b0) (pc' := 272) at_271 rfl rfl
                        have A1503 := A1502.iloadN (v := b1) (pc' := 273) at_272 rfl rfl
                        have A1504 := A1503.iload (v := b2) (pc' := 275) at_273 rfl rfl
                        have A1505 := A1504.lload (v := v) (pc' := 277) at_275 rfl rfl
                        obtain ⟨r1507, _, ⟨rfl, q1508⟩, A1506⟩ := W.kI (A1505.callS (argsL := [(.ref r1345), (.int (8 : Int32)), (.int (1 : Int32)), (.int b0), (.int b1), (.int b2), (.long v)]) (rest := []) (C' := 5) (S' := 51) (pc' := 280) at_277 (hw _ (List.mem_of_getElem? (i := 49) rfl)) (hw _ (List.mem_of_getElem? (i := 50) rfl)) (hw _ (List.mem_of_getElem? (i := 51) rfl)) (hw _ (List.mem_of_getElem? (i := 52) rfl)) (rm10 l Z a0 hw n0 [] (r1345) ((8 : Int32)) ((1 : Int32)) (b0) (b1) (b2) (v) (u1350) (u1351) ((own_lb v (56 : Int32))) h1348 A1505.size f1352 (by refine ⟨by decide, by decide, ?_⟩; omega) (by intro _; exact ct1361)) rfl rfl pd_6 rfl rfl (by decide) (by decide) (Nat.le_of_ble_eq_true rfl) (by decide) (by decide) rfl rfl rfl)
                        have lk8 : (8 : Int32).toInt = 8 := rfl
                        have x8 : ((own_lb v (56 : Int32))).toInt = (own_ex (8 : Int32) (1 : Int32) b0 b1 b2 v).toInt := rfl
                        by_cases c1510 : r1507.toInt = 0
                        · have A1511 := A1506.ifYes (pc' := 323) at_280 (teq (ieq (x := r1507) (y := (0 : Int32)) rfl rfl c1510)).1 (by decide) (by decide)
                          have A1512 := A1511.iconst (z := (0 : Int32)) (pc' := 324) at_323 rfl rfl
                          refine A1512.retN (t := .boolean) (z' := (0 : Int32)) at_324 (by decide) (by decide) (by simp) rfl ⟨_, rfl, ⟨trivial, ?_⟩⟩
                          have elit : (0 : Int32).toInt = 0 := rfl
                          exfalso
                          omega
                        · have A1513 := A1506.ifNo (pc' := 283) at_280 (feq (ine (x := r1507) (y := (0 : Int32)) rfl rfl c1510)).1 rfl
                          have A1514 := A1513.aload (v := (.ref r1345)) (pc' := 285) at_283 rfl rfl rfl
                          have A1515 := A1514.bipush (z := (9 : Int32)) (pc' := 287) at_285 rfl rfl
                          have A1516 := A1515.iload (v := (1 : Int32)) (pc' := 289) at_287 rfl rfl
                          have A1517 := A1516.iloadN (v := b0) (pc' := 290) at_289 rfl rfl
                          have A1518 := A1517.iloadN (v := b1) (pc' := 291) at_290 rfl rfl
                          have A1519 := A1518.iload (v := b2) (pc' := 293) at_291 rfl rfl
                          have A1520 := A1519.lload (v := v) (pc' := 295) at_293 rfl rfl
                          obtain ⟨r1522, _, ⟨rfl, q1523⟩, A1521⟩ := W.kI (A1520.callS (argsL := [(.ref r1345), (.int (9 : Int32)), (.int (1 : Int32)), (.int b0), (.int b1), (.int b2), (.long v)]) (rest := []) (C' := 5) (S' := 51) (pc' := 298) at_295 (hw _ (List.mem_of_getElem? (i := 49) rfl)) (hw _ (List.mem_of_getElem? (i := 50) rfl)) (hw _ (List.mem_of_getElem? (i := 51) rfl)) (hw _ (List.mem_of_getElem? (i := 52) rfl)) (rm10 l Z a0 hw n0 [] (r1345) ((9 : Int32)) ((1 : Int32)) (b0) (b1) (b2) (v) (u1350) (u1351) ((0 : Int32)) h1348 A1520.size f1352 (by refine ⟨by decide, by decide, ?_⟩; omega) (by intro hx; exfalso; have lk : (9 : Int32).toInt = 9 := rfl; omega)) rfl rfl pd_6 rfl rfl (by decide) (by decide) (Nat.le_of_ble_eq_true rfl) (by decide) (by decide) rfl rfl rfl)
                          have lk9 : (9 : Int32).toInt = 9 := rfl
                          by_cases c1525 : r1522.toInt = 0
                          · have A1526 := A1521.ifYes (pc' := 323) at_298 (teq (ieq (x := r1522) (y := (0 : Int32)) rfl rfl c1525)).1 (by decide) (by decide)
                            have A1527 := A1526.iconst (z := (0 : Int32)) (pc' := 324) at_323 rfl rfl
                            refine A1527.retN (t := .boolean) (z' := (0 : Int32)) at_324 (by decide) (by decide) (by simp) rfl ⟨_, rfl, ⟨trivial, ?_⟩⟩
                            have elit : (0 : Int32).toInt = 0 := rfl
                            exfalso
                            omega
                          · have A1528 := A1521.ifNo (pc' := 301) at_298 (feq (ine (x := r1522) (y := (0 : Int32)) rfl rfl c1525)).1 rfl
                            have A1529 := A1528.aload (v := (.ref r1345)) (pc' := 303) at_301 rfl rfl rfl
                            have A1530 := A1529.bipush (z := (10 : Int32)) (pc' := 305) at_303 rfl rfl
                            have A1531 := A1530.iload (v := (1 : Int32)) (pc' := 307) at_305 rfl rfl
                            have A1532 := A1531.iloadN (v := b0) (pc' := 308) at_307 rfl rfl
                            have A1533 := A1532.iloadN (v := b1) (pc' := 309) at_308 rfl rfl
                            have A1534 := A1533.iload (v := b2) (pc' := 311) at_309 rfl rfl
                            have A1535 := A1534.lload (v := v) (pc' := 313) at_311 rfl rfl
                            obtain ⟨r1537, _, ⟨rfl, q1538⟩, A1536⟩ := W.kI (A1535.callS (argsL := [(.ref r1345), (.int (10 : Int32)), (.int (1 : Int32)), (.int b0), (.int b1), (.int b2), (.long v)]) (rest := []) (C' := 5) (S' := 51) (pc' := 316) at_313 (hw _ (List.mem_of_getElem? (i := 49) rfl)) (hw _ (List.mem_of_getElem? (i := 50) rfl)) (hw _ (List.mem_of_getElem? (i := 51) rfl)) (hw _ (List.mem_of_getElem? (i := 52) rfl)) (rm10 l Z a0 hw n0 [] (r1345) ((10 : Int32)) ((1 : Int32)) (b0) (b1) (b2) (v) (u1350) (u1351) ((0 : Int32)) h1348 A1535.size f1352 (by refine ⟨by decide, by decide, ?_⟩; omega) (by intro hx; exfalso; have lk : (10 : Int32).toInt = 10 := rfl; omega)) rfl rfl pd_6 rfl rfl (by decide) (by decide) (Nat.le_of_ble_eq_true rfl) (by decide) (by decide) rfl rfl rfl)
                            have lk10 : (10 : Int32).toInt = 10 := rfl
                            by_cases c1540 : r1537.toInt = 0
                            · have A1541 := A1536.ifYes (pc' := 323) at_316 (teq (ieq (x := r1537) (y := (0 : Int32)) rfl rfl c1540)).1 (by decide) (by decide)
                              have A1542 := A1541.iconst (z := (0 : Int32)) (pc' := 324) at_323 rfl rfl
                              refine A1542.retN (t := .boolean) (z' := (0 : Int32)) at_324 (by decide) (by decide) (by simp) rfl ⟨_, rfl, ⟨trivial, ?_⟩⟩
                              have elit : (0 : Int32).toInt = 0 := rfl
                              exfalso
                              omega
                            · have A1543 := A1536.ifNo (pc' := 319) at_316 (feq (ine (x := r1537) (y := (0 : Int32)) rfl rfl c1540)).1 rfl
                              have A1544 := A1543.iconst (z := (1 : Int32)) (pc' := 320) at_319 rfl rfl
                              have A1545 := A1544.goto (pc' := 324) at_320 (by decide) (by decide)
                              refine A1545.retN (t := .boolean) (z' := (1 : Int32)) at_324 (by decide) (by decide) (by simp) rfl ⟨_, rfl, ⟨trivial, ?_⟩⟩
                              have elit : (1 : Int32).toInt = 1 := rfl
                              rfl
      · have A1546 := A1376.icmpNo (pc' := 125) at_122 (feq (ine (x := (Int32.ofNat u1350)) (y := (9 : Int32)) rfl rfl c1377)).1 rfl
        have A1547 := A1546.iconst (z := (0 : Int32)) (pc' := 126) at_125 rfl rfl
        refine A1547.retN (t := .boolean) (z' := (0 : Int32)) at_126 (by decide) (by decide) (by simp) rfl ⟨_, rfl, ⟨trivial, ?_⟩⟩
        have elit : (0 : Int32).toInt = 0 := rfl
        exfalso
        omega
    · have A1548 := A1036.cast (Ls' := #[.val (.int xc), .val (.int xn), .val (.int b0), .val (.int b1), .val (.int b2), .val (.long v), .second, .val (.int cp), .val (.int (2 : Int32)), .val (.int (1 : Int32)), .val (.ref b1013), .unset, .unset]) rfl (by rw [hn]) rfl
      have A1549 := A1548.iload (v := (2 : Int32)) (pc' := 39) at_37 rfl rfl
      have A1551 := A1549.ifNo (pc' := 42) at_39 (tlt (igt (x := (2 : Int32)) (y := (0 : Int32)) rfl rfl (by decide : (0 : Int) < 2))).2.2.2 rfl
      have A1552 := A1551.aload (v := (.ref b1013)) (pc' := 44) at_42 rfl rfl rfl
      have A1553 := A1552.iloadN (v := b0) (pc' := 45) at_44 rfl rfl
      have f1554 := (X1017.keep K1028)
      obtain ⟨r1556, h1558, ⟨u1560, u1561, u1562, u1563, K1559, f1564, f1565, f1566, f1567, f1568, q1557⟩, A1555⟩ := W.kA (A1553.callV (a := b1013) (argsL := [(.int b0)]) (rest := []) (C' := 3) (S' := 23) (pc' := 48) at_45 f1554 (hw _ (List.mem_of_getElem? (i := 12) rfl)) (hw _ (List.mem_of_getElem? (i := 13) rfl)) (fun hZ => notFace_of_selects (args := #[]) (mvT hZ (hw _ (List.mem_of_getElem? (i := 15) rfl)))) (hw _ (List.mem_of_getElem? (i := 15) rfl)) (hw _ (List.mem_of_getElem? (i := 14) rfl)) (hw _ (List.mem_of_getElem? (i := 2) rfl)) (hw _ (List.mem_of_getElem? (i := 16) rfl)) (rm3 l Z a0 hw n0 [] (b1013) (b0) (b1029) (cp.toInt.toNat) ((fun _ => (.int (0 : Int32)))) ((0 : Int32)) h1027 A1553.size f1554 g1015 f1032 f1033 f1034 g1030 ne1035 (by omega)) rfl rfl pd_7 rfl rfl (by decide) (by decide) (Nat.le_of_ble_eq_true rfl) (by decide) (by decide) rfl rfl rfl)
      obtain ⟨-, -, hs0, hle0, hN0, hold0, hnew0⟩ := q1557
      have ct1569 : u1562 0 = .int b0.toInt8.toInt32 := by have e : (0 : Int32).toInt.toNat = 0 := (by omega); rw [← e]; exact hnew0
      have A1570 := A1555.pop (pc' := 49) at_48 rfl rfl
      have A1571 := A1570.iload (v := (2 : Int32)) (pc' := 51) at_49 rfl rfl
      have A1572 := A1571.iconst (z := (1 : Int32)) (pc' := 52) at_51 rfl rfl
      have A1574 := A1572.icmpNo (pc' := 55) at_52 (tlt (igt (x := (2 : Int32)) (y := (1 : Int32)) rfl rfl (by decide : (1 : Int) < 2))).2.2.2 rfl
      have A1575 := A1574.aload (v := (.ref b1013)) (pc' := 57) at_55 rfl rfl rfl
      have A1576 := A1575.iloadN (v := b1) (pc' := 58) at_57 rfl rfl
      have f1577 := (f1554.keep K1559)
      obtain ⟨r1579, h1581, ⟨u1583, u1584, u1585, u1586, K1582, f1587, f1588, f1589, f1590, f1591, q1580⟩, A1578⟩ := W.kA (A1576.callV (a := b1013) (argsL := [(.int b1)]) (rest := []) (C' := 4) (S' := 37) (pc' := 61) at_58 f1577 (hw _ (List.mem_of_getElem? (i := 12) rfl)) (hw _ (List.mem_of_getElem? (i := 13) rfl)) (fun hZ => notFace_of_selects (args := #[]) (mvT hZ (hw _ (List.mem_of_getElem? (i := 15) rfl)))) (hw _ (List.mem_of_getElem? (i := 15) rfl)) (hw _ (List.mem_of_getElem? (i := 14) rfl)) (hw _ (List.mem_of_getElem? (i := 2) rfl)) (hw _ (List.mem_of_getElem? (i := 16) rfl)) (rm3 l Z a0 hw n0 [] (b1013) (b1) (u1560) (u1561) (u1562) (u1563) h1558 A1576.size f1577 g1015 f1564 f1565 f1566 f1567 f1568 (by omega)) rfl rfl pd_7 rfl rfl (by decide) (by decide) (Nat.le_of_ble_eq_true rfl) (by decide) (by decide) rfl rfl rfl)
      obtain ⟨-, -, hs1, hle1, hN1, hold1, hnew1⟩ := q1580
      have ct1592 : u1585 0 = .int b0.toInt8.toInt32 := (hold1 0 (by omega)).trans ct1569
      have ct1593 : u1585 1 = .int b1.toInt8.toInt32 := by have e : u1563.toInt.toNat = 1 := (by omega); rw [← e]; exact hnew1
      have A1594 := A1578.pop (pc' := 62) at_61 rfl rfl
      have A1595 := A1594.iload (v := (2 : Int32)) (pc' := 64) at_62 rfl rfl
      have A1596 := A1595.iconst (z := (2 : Int32)) (pc' := 65) at_64 rfl rfl
      have A1598 := A1596.icmpYes (pc' := 76) at_65 (flt (ingt (x := (2 : Int32)) (y := (2 : Int32)) rfl rfl (by decide : ¬ ((2 : Int) < 2)))).2.2.2 (by decide) (by decide)
      have A1599 := A1598.iload (v := (1 : Int32)) (pc' := 78) at_76 rfl rfl
      have A1601 := A1599.ifNo (pc' := 81) at_78 (feq (ine (x := (1 : Int32)) (y := (0 : Int32)) rfl rfl (by decide : ¬ ((1 : Int) = 0)))).1 rfl
      have A1602 := A1601.aload (v := (.ref b1013)) (pc' := 83) at_81 rfl rfl rfl
      have A1603 := A1602.lload (v := v) (pc' := 85) at_83 rfl rfl
      have f1604 := (f1577.keep K1582)
      obtain ⟨r1606, h1608, ⟨u1610, u1611, u1612, u1613, K1609, f1614, f1615, f1616, f1617, f1618, q1607⟩, A1605⟩ := W.kA (A1603.callV (a := b1013) (argsL := [(.long v)]) (rest := []) (C' := 5) (S' := 51) (pc' := 88) at_85 f1604 (hw _ (List.mem_of_getElem? (i := 56) rfl)) (hw _ (List.mem_of_getElem? (i := 57) rfl)) (fun hZ => notFace_of_selects (args := #[]) (mvT hZ (hw _ (List.mem_of_getElem? (i := 59) rfl)))) (hw _ (List.mem_of_getElem? (i := 59) rfl)) (hw _ (List.mem_of_getElem? (i := 58) rfl)) (hw _ (List.mem_of_getElem? (i := 2) rfl)) (hw _ (List.mem_of_getElem? (i := 60) rfl)) (rm12 l Z a0 hw n0 [] (b1013) (v) (u1583) (u1584) (u1585) (u1586) h1581 A1603.size f1604 g1015 f1587 f1588 f1589 f1590 f1591 (by omega)) rfl rfl pd_8 rfl rfl (by decide) (by decide) (Nat.le_of_ble_eq_true rfl) (by decide) (by decide) rfl rfl rfl)
      obtain ⟨-, -, hsL, hleL, hNL, holdL, hl0, hl1, hl2, hl3, hl4, hl5, hl6, hl7⟩ := q1607
      have ez : u1586.toInt.toNat = 2 := by omega
      rw [ez] at hl0 hl1 hl2 hl3 hl4 hl5 hl6 hl7
      have ct1619 : u1612 0 = .int b0.toInt8.toInt32 := (holdL 0 (by omega)).trans ct1592
      have ct1620 : u1612 1 = .int b1.toInt8.toInt32 := (holdL 1 (by omega)).trans ct1593
      have ct1621 : u1612 2 = .int (own_lb v (0 : Int32)) := hl0
      have ct1622 : u1612 3 = .int (own_lb v (8 : Int32)) := hl1
      have ct1623 : u1612 4 = .int (own_lb v (16 : Int32)) := hl2
      have ct1624 : u1612 5 = .int (own_lb v (24 : Int32)) := hl3
      have ct1625 : u1612 6 = .int (own_lb v (32 : Int32)) := hl4
      have ct1626 : u1612 7 = .int (own_lb v (40 : Int32)) := hl5
      have ct1627 : u1612 8 = .int (own_lb v (48 : Int32)) := hl6
      have ct1628 : u1612 9 = .int (own_lb v (56 : Int32)) := hl7
      have A1629 := A1605.pop (pc' := 89) at_88 rfl rfl
      have A1630 := A1629.aload (v := (.ref b1013)) (pc' := 91) at_89 rfl rfl rfl
      have f1633 := (f1604.keep K1609)
      obtain ⟨r1632, h1635, ⟨u1637, u1638, K1636, f1639, q1634⟩, A1631⟩ := W.kA (A1630.callV (a := b1013) (argsL := []) (rest := []) (C' := 6) (S' := 65) (pc' := 94) at_91 f1633 (hw _ (List.mem_of_getElem? (i := 44) rfl)) (hw _ (List.mem_of_getElem? (i := 45) rfl)) (fun hZ => notFace_of_selects (args := #[]) (mvT hZ (hw _ (List.mem_of_getElem? (i := 47) rfl)))) (hw _ (List.mem_of_getElem? (i := 47) rfl)) (hw _ (List.mem_of_getElem? (i := 46) rfl)) (hw _ (List.mem_of_getElem? (i := 2) rfl)) (hw _ (List.mem_of_getElem? (i := 48) rfl)) (rm9 l Z a0 hw n0 [] (b1013) (u1610) (u1611) (u1612) (u1613) h1608 A1630.size f1614 f1615 f1616 (by omega)) rfl rfl pd_5 rfl rfl (by decide) (by decide) (Nat.le_of_ble_eq_true rfl) (by decide) (by decide) rfl rfl rfl)
      obtain ⟨hN3, holdA⟩ := q1634
      have tN3 : (Int32.ofNat u1637).toInt = u1637 := Int32.toInt_ofNat_of_lt (by omega)
      have ct1640 : u1638 0 = .int b0.toInt8.toInt32 := (holdA 0 (by omega)).trans ct1619
      have ct1641 : u1638 1 = .int b1.toInt8.toInt32 := (holdA 1 (by omega)).trans ct1620
      have ct1642 : u1638 2 = .int (own_lb v (0 : Int32)) := (holdA 2 (by omega)).trans ct1621
      have ct1643 : u1638 3 = .int (own_lb v (8 : Int32)) := (holdA 3 (by omega)).trans ct1622
      have ct1644 : u1638 4 = .int (own_lb v (16 : Int32)) := (holdA 4 (by omega)).trans ct1623
      have ct1645 : u1638 5 = .int (own_lb v (24 : Int32)) := (holdA 5 (by omega)).trans ct1624
      have ct1646 : u1638 6 = .int (own_lb v (32 : Int32)) := (holdA 6 (by omega)).trans ct1625
      have ct1647 : u1638 7 = .int (own_lb v (40 : Int32)) := (holdA 7 (by omega)).trans ct1626
      have ct1648 : u1638 8 = .int (own_lb v (48 : Int32)) := (holdA 8 (by omega)).trans ct1627
      have ct1649 : u1638 9 = .int (own_lb v (56 : Int32)) := (holdA 9 (by omega)).trans ct1628
      have A1650 := A1631.astore (Ls' := #[.val (.int xc), .val (.int xn), .val (.int b0), .val (.int b1), .val (.int b2), .val (.long v), .second, .val (.int cp), .val (.int (2 : Int32)), .val (.int (1 : Int32)), .val (.ref b1013), .val (.ref r1632), .unset]) (pc' := 96) at_94 rfl rfl rfl
      have A1651 := A1650.iload (v := (2 : Int32)) (pc' := 98) at_96 rfl rfl
      have A1652 := A1651.iload (v := (1 : Int32)) (pc' := 100) at_98 rfl rfl
      have A1654 := A1652.ifNo (pc' := 103) at_100 (feq (ine (x := (1 : Int32)) (y := (0 : Int32)) rfl rfl (by decide : ¬ ((1 : Int) = 0)))).1 rfl
      have A1655 := A1654.bipush (z := (8 : Int32)) (pc' := 105) at_103 rfl rfl
      have A1656 := A1655.goto (pc' := 109) at_105 (by decide) (by decide)
      have A1657 := A1656.iadd (pc' := 110) at_109 rfl
      have A1658 := A1657.topI (z := (10 : Int32)) (by decide)
      have A1659 := A1658.istore (Ls' := #[.val (.int xc), .val (.int xn), .val (.int b0), .val (.int b1), .val (.int b2), .val (.long v), .second, .val (.int cp), .val (.int (2 : Int32)), .val (.int (1 : Int32)), .val (.ref b1013), .val (.ref r1632), .val (.int (10 : Int32))]) (pc' := 112) at_110 rfl rfl
      have A1660 := A1659.aload (v := (.ref r1632)) (pc' := 114) at_112 rfl rfl rfl
      have A1661 := A1660.ifnullNo (pc' := 117) at_114 rfl
      have A1662 := A1661.aload (v := (.ref r1632)) (pc' := 119) at_117 rfl rfl rfl
      have A1663 := A1662.alen (z := (Int32.ofNat u1637)) (pc' := 120) at_119 f1639 (Int32.toInt_ofNat_small f1639.size) rfl
      have A1664 := A1663.iload (v := (10 : Int32)) (pc' := 122) at_120 rfl rfl
      by_cases c1665 : (Int32.ofNat u1637).toInt = 10
      · have A1666 := A1664.icmpYes (pc' := 127) at_122 (teq (ieq (x := (Int32.ofNat u1637)) (y := (10 : Int32)) rfl rfl c1665)).1 (by decide) (by decide)
        have A1667 := A1666.aload (v := (.ref r1632)) (pc' := 129) at_127 rfl rfl rfl
        have A1668 := A1667.iconst (z := (0 : Int32)) (pc' := 130) at_129 rfl rfl
        have A1669 := A1668.iload (v := (2 : Int32)) (pc' := 132) at_130 rfl rfl
        have A1670 := A1669.iloadN (v := b0) (pc' := 133) at_132 rfl rfl
        have A1671 := A1670.iloadN (v := b1) (pc' := 134) at_133 rfl rfl
        have A1672 := A1671.iload (v := b2) (pc' := 136) at_134 rfl rfl
        have A1673 := A1672.lload (v := v) (pc' := 138) at_136 rfl rfl
        obtain ⟨r1675, _, ⟨rfl, q1676⟩, A1674⟩ := W.kI (A1673.callS (argsL := [(.ref r1632), (.int (0 : Int32)), (.int (2 : Int32)), (.int b0), (.int b1), (.int b2), (.long v)]) (rest := []) (C' := 6) (S' := 65) (pc' := 141) at_138 (hw _ (List.mem_of_getElem? (i := 49) rfl)) (hw _ (List.mem_of_getElem? (i := 50) rfl)) (hw _ (List.mem_of_getElem? (i := 51) rfl)) (hw _ (List.mem_of_getElem? (i := 52) rfl)) (rm10 l Z a0 hw n0 [] (r1632) ((0 : Int32)) ((2 : Int32)) (b0) (b1) (b2) (v) (u1637) (u1638) (b0.toInt8.toInt32) h1635 A1673.size f1639 (by refine ⟨by decide, by decide, ?_⟩; omega) (by intro _; exact ct1640)) rfl rfl pd_6 rfl rfl (by decide) (by decide) (Nat.le_of_ble_eq_true rfl) (by decide) (by decide) rfl rfl rfl)
        have lk0 : (0 : Int32).toInt = 0 := rfl
        have x0 : (b0.toInt8.toInt32).toInt = (own_ex (0 : Int32) (2 : Int32) b0 b1 b2 v).toInt := rfl
        by_cases c1678 : r1675.toInt = 0
        · have A1679 := A1674.ifYes (pc' := 323) at_141 (teq (ieq (x := r1675) (y := (0 : Int32)) rfl rfl c1678)).1 (by decide) (by decide)
          have A1680 := A1679.iconst (z := (0 : Int32)) (pc' := 324) at_323 rfl rfl
          refine A1680.retN (t := .boolean) (z' := (0 : Int32)) at_324 (by decide) (by decide) (by simp) rfl ⟨_, rfl, ⟨trivial, ?_⟩⟩
          have elit : (0 : Int32).toInt = 0 := rfl
          exfalso
          omega
        · have A1681 := A1674.ifNo (pc' := 144) at_141 (feq (ine (x := r1675) (y := (0 : Int32)) rfl rfl c1678)).1 rfl
          have A1682 := A1681.aload (v := (.ref r1632)) (pc' := 146) at_144 rfl rfl rfl
          have A1683 := A1682.iconst (z := (1 : Int32)) (pc' := 147) at_146 rfl rfl
          have A1684 := A1683.iload (v := (2 : Int32)) (pc' := 149) at_147 rfl rfl
          have A1685 := A1684.iloadN (v := b0) (pc' := 150) at_149 rfl rfl
          have A1686 := A1685.iloadN (v := b1) (pc' := 151) at_150 rfl rfl
          have A1687 := A1686.iload (v := b2) (pc' := 153) at_151 rfl rfl
          have A1688 := A1687.lload (v := v) (pc' := 155) at_153 rfl rfl
          obtain ⟨r1690, _, ⟨rfl, q1691⟩, A1689⟩ := W.kI (A1688.callS (argsL := [(.ref r1632), (.int (1 : Int32)), (.int (2 : Int32)), (.int b0), (.int b1), (.int b2), (.long v)]) (rest := []) (C' := 6) (S' := 65) (pc' := 158) at_155 (hw _ (List.mem_of_getElem? (i := 49) rfl)) (hw _ (List.mem_of_getElem? (i := 50) rfl)) (hw _ (List.mem_of_getElem? (i := 51) rfl)) (hw _ (List.mem_of_getElem? (i := 52) rfl)) (rm10 l Z a0 hw n0 [] (r1632) ((1 : Int32)) ((2 : Int32)) (b0) (b1) (b2) (v) (u1637) (u1638) (b1.toInt8.toInt32) h1635 A1688.size f1639 (by refine ⟨by decide, by decide, ?_⟩; omega) (by intro _; exact ct1641)) rfl rfl pd_6 rfl rfl (by decide) (by decide) (Nat.le_of_ble_eq_true rfl) (by decide) (by decide) rfl rfl rfl)
          have lk1 : (1 : Int32).toInt = 1 := rfl
          have x1 : (b1.toInt8.toInt32).toInt = (own_ex (1 : Int32) (2 : Int32) b0 b1 b2 v).toInt := rfl
          by_cases c1693 : r1690.toInt = 0
          · have A1694 := A1689.ifYes (pc' := 323) at_158 (teq (ieq (x := r1690) (y := (0 : Int32)) rfl rfl c1693)).1 (by decide) (by decide)
            have A1695 := A1694.iconst (z := (0 : Int32)) (pc' := 324) at_323 rfl rfl
            refine A1695.retN (t := .boolean) (z' := (0 : Int32)) at_324 (by decide) (by decide) (by simp) rfl ⟨_, rfl, ⟨trivial, ?_⟩⟩
            have elit : (0 : Int32).toInt = 0 := rfl
            exfalso
            omega
          · have A1696 := A1689.ifNo (pc' := 161) at_158 (feq (ine (x := r1690) (y := (0 : Int32)) rfl rfl c1693)).1 rfl
            have A1697 := A1696.aload (v := (.ref r1632)) (pc' := 163) at_161 rfl rfl rfl
            have A1698 := A1697.iconst (z := (2 : Int32)) (pc' := 164) at_163 rfl rfl
            have A1699 := A1698.iload (v := (2 : Int32)) (pc' := 166) at_164 rfl rfl
            have A1700 := A1699.iloadN (v := b0) (pc' := 167) at_166 rfl rfl
            have A1701 := A1700.iloadN (v := b1) (pc' := 168) at_167 rfl rfl
            have A1702 := A1701.iload (v := b2) (pc' := 170) at_168 rfl rfl
            have A1703 := A1702.lload (v := v) (pc' := 172) at_170 rfl rfl
            obtain ⟨r1705, _, ⟨rfl, q1706⟩, A1704⟩ := W.kI (A1703.callS (argsL := [(.ref r1632), (.int (2 : Int32)), (.int (2 : Int32)), (.int b0), (.int b1), (.int b2), (.long v)]) (rest := []) (C' := 6) (S' := 65) (pc' := 175) at_172 (hw _ (List.mem_of_getElem? (i := 49) rfl)) (hw _ (List.mem_of_getElem? (i := 50) rfl)) (hw _ (List.mem_of_getElem? (i := 51) rfl)) (hw _ (List.mem_of_getElem? (i := 52) rfl)) (rm10 l Z a0 hw n0 [] (r1632) ((2 : Int32)) ((2 : Int32)) (b0) (b1) (b2) (v) (u1637) (u1638) ((own_lb v (0 : Int32))) h1635 A1703.size f1639 (by refine ⟨by decide, by decide, ?_⟩; omega) (by intro _; exact ct1642)) rfl rfl pd_6 rfl rfl (by decide) (by decide) (Nat.le_of_ble_eq_true rfl) (by decide) (by decide) rfl rfl rfl)
            have lk2 : (2 : Int32).toInt = 2 := rfl
            have x2 : ((own_lb v (0 : Int32))).toInt = (own_ex (2 : Int32) (2 : Int32) b0 b1 b2 v).toInt := rfl
            by_cases c1708 : r1705.toInt = 0
            · have A1709 := A1704.ifYes (pc' := 323) at_175 (teq (ieq (x := r1705) (y := (0 : Int32)) rfl rfl c1708)).1 (by decide) (by decide)
              have A1710 := A1709.iconst (z := (0 : Int32)) (pc' := 324) at_323 rfl rfl
              refine A1710.retN (t := .boolean) (z' := (0 : Int32)) at_324 (by decide) (by decide) (by simp) rfl ⟨_, rfl, ⟨trivial, ?_⟩⟩
              have elit : (0 : Int32).toInt = 0 := rfl
              exfalso
              omega
            · have A1711 := A1704.ifNo (pc' := 178) at_175 (feq (ine (x := r1705) (y := (0 : Int32)) rfl rfl c1708)).1 rfl
              have A1712 := A1711.aload (v := (.ref r1632)) (pc' := 180) at_178 rfl rfl rfl
              have A1713 := A1712.iconst (z := (3 : Int32)) (pc' := 181) at_180 rfl rfl
              have A1714 := A1713.iload (v := (2 : Int32)) (pc' := 183) at_181 rfl rfl
              have A1715 := A1714.iloadN (v := b0) (pc' := 184) at_183 rfl rfl
              have A1716 := A1715.iloadN (v := b1) (pc' := 185) at_184 rfl rfl
              have A1717 := A1716.iload (v := b2) (pc' := 187) at_185 rfl rfl
              have A1718 := A1717.lload (v := v) (pc' := 189) at_187 rfl rfl
              obtain ⟨r1720, _, ⟨rfl, q1721⟩, A1719⟩ := W.kI (A1718.callS (argsL := [(.ref r1632), (.int (3 : Int32)), (.int (2 : Int32)), (.int b0), (.int b1), (.int b2), (.long v)]) (rest := []) (C' := 6) (S' := 65) (pc' := 192) at_189 (hw _ (List.mem_of_getElem? (i := 49) rfl)) (hw _ (List.mem_of_getElem? (i := 50) rfl)) (hw _ (List.mem_of_getElem? (i := 51) rfl)) (hw _ (List.mem_of_getElem? (i := 52) rfl)) (rm10 l Z a0 hw n0 [] (r1632) ((3 : Int32)) ((2 : Int32)) (b0) (b1) (b2) (v) (u1637) (u1638) ((own_lb v (8 : Int32))) h1635 A1718.size f1639 (by refine ⟨by decide, by decide, ?_⟩; omega) (by intro _; exact ct1643)) rfl rfl pd_6 rfl rfl (by decide) (by decide) (Nat.le_of_ble_eq_true rfl) (by decide) (by decide) rfl rfl rfl)
              have lk3 : (3 : Int32).toInt = 3 := rfl
              have x3 : ((own_lb v (8 : Int32))).toInt = (own_ex (3 : Int32) (2 : Int32) b0 b1 b2 v).toInt := rfl
              by_cases c1723 : r1720.toInt = 0
              · have A1724 := A1719.ifYes (pc' := 323) at_192 (teq (ieq (x := r1720) (y := (0 : Int32)) rfl rfl c1723)).1 (by decide) (by decide)
                have A1725 := A1724.iconst (z := (0 : Int32)) (pc' := 324) at_323 rfl rfl
                refine A1725.retN (t := .boolean) (z' := (0 : Int32)) at_324 (by decide) (by decide) (by simp) rfl ⟨_, rfl, ⟨trivial, ?_⟩⟩
                have elit : (0 : Int32).toInt = 0 := rfl
                exfalso
                omega
              · have A1726 := A1719.ifNo (pc' := 195) at_192 (feq (ine (x := r1720) (y := (0 : Int32)) rfl rfl c1723)).1 rfl
                have A1727 := A1726.aload (v := (.ref r1632)) (pc' := 197) at_195 rfl rfl rfl
                have A1728 := A1727.iconst (z := (4 : Int32)) (pc' := 198) at_197 rfl rfl
                have A1729 := A1728.iload (v := (2 : Int32)) (pc' := 200) at_198 rfl rfl
                have A1730 := A1729.iloadN (v := b0) (pc' := 201) at_200 rfl rfl
                have A1731 := A1730.iloadN (v := b1) (pc' := 202) at_201 rfl rfl
                have A1732 := A1731.iload (v := b2) (pc' := 204) at_202 rfl rfl
                have A1733 := A1732.lload (v := v) (pc' := 206) at_204 rfl rfl
                obtain ⟨r1735, _, ⟨rfl, q1736⟩, A1734⟩ := W.kI (A1733.callS (argsL := [(.ref r1632), (.int (4 : Int32)), (.int (2 : Int32)), (.int b0), (.int b1), (.int b2), (.long v)]) (rest := []) (C' := 6) (S' := 65) (pc' := 209) at_206 (hw _ (List.mem_of_getElem? (i := 49) rfl)) (hw _ (List.mem_of_getElem? (i := 50) rfl)) (hw _ (List.mem_of_getElem? (i := 51) rfl)) (hw _ (List.mem_of_getElem? (i := 52) rfl)) (rm10 l Z a0 hw n0 [] (r1632) ((4 : Int32)) ((2 : Int32)) (b0) (b1) (b2) (v) (u1637) (u1638) ((own_lb v (16 : Int32))) h1635 A1733.size f1639 (by refine ⟨by decide, by decide, ?_⟩; omega) (by intro _; exact ct1644)) rfl rfl pd_6 rfl rfl (by decide) (by decide) (Nat.le_of_ble_eq_true rfl) (by decide) (by decide) rfl rfl rfl)
                have lk4 : (4 : Int32).toInt = 4 := rfl
                have x4 : ((own_lb v (16 : Int32))).toInt = (own_ex (4 : Int32) (2 : Int32) b0 b1 b2 v).toInt := rfl
                by_cases c1738 : r1735.toInt = 0
                · have A1739 := A1734.ifYes (pc' := 323) at_209 (teq (ieq (x := r1735) (y := (0 : Int32)) rfl rfl c1738)).1 (by decide) (by decide)
                  have A1740 := A1739.iconst (z := (0 : Int32)) (pc' := 324) at_323 rfl rfl
                  refine A1740.retN (t := .boolean) (z' := (0 : Int32)) at_324 (by decide) (by decide) (by simp) rfl ⟨_, rfl, ⟨trivial, ?_⟩⟩
                  have elit : (0 : Int32).toInt = 0 := rfl
                  exfalso
                  omega
                · have A1741 := A1734.ifNo (pc' := 212) at_209 (feq (ine (x := r1735) (y := (0 : Int32)) rfl rfl c1738)).1 rfl
                  have A1742 := A1741.aload (v := (.ref r1632)) (pc' := 214) at_212 rfl rfl rfl
                  have A1743 := A1742.iconst (z := (5 : Int32)) (pc' := 215) at_214 rfl rfl
                  have A1744 := A1743.iload (v := (2 : Int32)) (pc' := 217) at_215 rfl rfl
                  have A1745 := A1744.iloadN (v := b0) (pc' := 218) at_217 rfl rfl
                  have A1746 := A1745.iloadN (v := b1) (pc' := 219) at_218 rfl rfl
                  have A1747 := A1746.iload (v := b2) (pc' := 221) at_219 rfl rfl
                  have A1748 := A1747.lload (v := v) (pc' := 223) at_221 rfl rfl
                  obtain ⟨r1750, _, ⟨rfl, q1751⟩, A1749⟩ := W.kI (A1748.callS (argsL := [(.ref r1632), (.int (5 : Int32)), (.int (2 : Int32)), (.int b0), (.int b1), (.int b2), (.long v)]) (rest := []) (C' := 6) (S' := 65) (pc' := 226) at_223 (hw _ (List.mem_of_getElem? (i := 49) rfl)) (hw _ (List.mem_of_getElem? (i := 50) rfl)) (hw _ (List.mem_of_getElem? (i := 51) rfl)) (hw _ (List.mem_of_getElem? (i := 52) rfl)) (rm10 l Z a0 hw n0 [] (r1632) ((5 : Int32)) ((2 : Int32)) (b0) (b1) (b2) (v) (u1637) (u1638) ((own_lb v (24 : Int32))) h1635 A1748.size f1639 (by refine ⟨by decide, by decide, ?_⟩; omega) (by intro _; exact ct1645)) rfl rfl pd_6 rfl rfl (by decide) (by decide) (Nat.le_of_ble_eq_true rfl) (by decide) (by decide) rfl rfl rfl)
                  have lk5 : (5 : Int32).toInt = 5 := rfl
                  have x5 : ((own_lb v (24 : Int32))).toInt = (own_ex (5 : Int32) (2 : Int32) b0 b1 b2 v).toInt := rfl
                  by_cases c1753 : r1750.toInt = 0
                  · have A1754 := A1749.ifYes (pc' := 323) at_226 (teq (ieq (x := r1750) (y := (0 : Int32)) rfl rfl c1753)).1 (by decide) (by decide)
                    have A1755 := A1754.iconst (z := (0 : Int32)) (pc' := 324) at_323 rfl rfl
                    refine A1755.retN (t := .boolean) (z' := (0 : Int32)) at_324 (by decide) (by decide) (by simp) rfl ⟨_, rfl, ⟨trivial, ?_⟩⟩
                    have elit : (0 : Int32).toInt = 0 := rfl
                    exfalso
                    omega
                  · have A1756 := A1749.ifNo (pc' := 229) at_226 (feq (ine (x := r1750) (y := (0 : Int32)) rfl rfl c1753)).1 rfl
                    have A1757 := A1756.aload (v := (.ref r1632)) (pc' := 231) at_229 rfl rfl rfl
                    have A1758 := A1757.bipush (z := (6 : Int32)) (pc' := 233) at_231 rfl rfl
                    have A1759 := A1758.iload (v := (2 : Int32)) (pc' := 235) at_233 rfl rfl
                    have A1760 := A1759.iloadN (v := b0) (pc' := 236) at_235 rfl rfl
                    have A1761 := A1760.iloadN (v := b1) (pc' := 237) at_236 rfl rfl
                    have A1762 := A1761.iload (v := b2) (pc' := 239) at_237 rfl rfl
                    have A1763 := A1762.lload (v := v) (pc' := 241) at_239 rfl rfl
                    obtain ⟨r1765, _, ⟨rfl, q1766⟩, A1764⟩ := W.kI (A1763.callS (argsL := [(.ref r1632), (.int (6 : Int32)), (.int (2 : Int32)), (.int b0), (.int b1), (.int b2), (.long v)]) (rest := []) (C' := 6) (S' := 65) (pc' := 244) at_241 (hw _ (List.mem_of_getElem? (i := 49) rfl)) (hw _ (List.mem_of_getElem? (i := 50) rfl)) (hw _ (List.mem_of_getElem? (i := 51) rfl)) (hw _ (List.mem_of_getElem? (i := 52) rfl)) (rm10 l Z a0 hw n0 [] (r1632) ((6 : Int32)) ((2 : Int32)) (b0) (b1) (b2) (v) (u1637) (u1638) ((own_lb v (32 : Int32))) h1635 A1763.size f1639 (by refine ⟨by decide, by decide, ?_⟩; omega) (by intro _; exact ct1646)) rfl rfl pd_6 rfl rfl (by decide) (by decide) (Nat.le_of_ble_eq_true rfl) (by decide) (by decide) rfl rfl rfl)
                    have lk6 : (6 : Int32).toInt = 6 := rfl
                    have x6 : ((own_lb v (32 : Int32))).toInt = (own_ex (6 : Int32) (2 : Int32) b0 b1 b2 v).toInt := rfl
                    by_cases c1768 : r1765.toInt = 0
                    · have A1769 := A1764.ifYes (pc' := 323) at_244 (teq (ieq (x := r1765) (y := (0 : Int32)) rfl rfl c1768)).1 (by decide) (by decide)
                      have A1770 := A1769.iconst (z := (0 : Int32)) (pc' := 324) at_323 rfl rfl
                      refine A1770.retN (t := .boolean) (z' := (0 : Int32)) at_324 (by decide) (by decide) (by simp) rfl ⟨_, rfl, ⟨trivial, ?_⟩⟩
                      have elit : (0 : Int32).toInt = 0 := rfl
                      exfalso
                      omega
                    · have A1771 := A1764.ifNo (pc' := 247) at_244 (feq (ine (x := r1765) (y := (0 : Int32)) rfl rfl c1768)).1 rfl
                      have A1772 := A1771.aload (v := (.ref r1632)) (pc' := 249) at_247 rfl rfl rfl
                      have A1773 := A1772.bipush (z := (7 : Int32)) (pc' := 251) at_249 rfl rfl
                      have A1774 := A1773.iload (v := (2 : Int32)) (pc' := 253) at_251 rfl rfl
                      have A1775 := A1774.iloadN (v := b0) (pc' := 254) at_253 rfl rfl
                      have A1776 := A1775.iloadN (v := b1) (pc' := 255) at_254 rfl rfl
                      have A1777 := A1776.iload (v := b2) (pc' := 257) at_255 rfl rfl
                      have A1778 := A1777.lload (v := v) (pc' := 259) at_257 rfl rfl
                      obtain ⟨r1780, _, ⟨rfl, q1781⟩, A1779⟩ := W.kI (A1778.callS (argsL := [(.ref r1632), (.int (7 : Int32)), (.int (2 : Int32)), (.int b0), (.int b1), (.int b2), (.long v)]) (rest := []) (C' := 6) (S' := 65) (pc' := 262) at_259 (hw _ (List.mem_of_getElem? (i := 49) rfl)) (hw _ (List.mem_of_getElem? (i := 50) rfl)) (hw _ (List.mem_of_getElem? (i := 51) rfl)) (hw _ (List.mem_of_getElem? (i := 52) rfl)) (rm10 l Z a0 hw n0 [] (r1632) ((7 : Int32)) ((2 : Int32)) (b0) (b1) (b2) (v) (u1637) (u1638) ((own_lb v (40 : Int32))) h1635 A1778.size f1639 (by refine ⟨by decide, by decide, ?_⟩; omega) (by intro _; exact ct1647)) rfl rfl pd_6 rfl rfl (by decide) (by decide) (Nat.le_of_ble_eq_true rfl) (by decide) (by decide) rfl rfl rfl)
                      have lk7 : (7 : Int32).toInt = 7 := rfl
                      have x7 : ((own_lb v (40 : Int32))).toInt = (own_ex (7 : Int32) (2 : Int32) b0 b1 b2 v).toInt := rfl
                      by_cases c1783 : r1780.toInt = 0
                      · have A1784 := A1779.ifYes (pc' := 323) at_262 (teq (ieq (x := r1780) (y := (0 : Int32)) rfl rfl c1783)).1 (by decide) (by decide)
                        have A1785 := A1784.iconst (z := (0 : Int32)) (pc' := 324) at_323 rfl rfl
                        refine A1785.retN (t := .boolean) (z' := (0 : Int32)) at_324 (by decide) (by decide) (by simp) rfl ⟨_, rfl, ⟨trivial, ?_⟩⟩
                        have elit : (0 : Int32).toInt = 0 := rfl
                        exfalso
                        omega
                      · have A1786 := A1779.ifNo (pc' := 265) at_262 (feq (ine (x := r1780) (y := (0 : Int32)) rfl rfl c1783)).1 rfl
                        have A1787 := A1786.aload (v := (.ref r1632)) (pc' := 267) at_265 rfl rfl rfl
                        have A1788 := A1787.bipush (z := (8 : Int32)) (pc' := 269) at_267 rfl rfl
                        have A1789 := A1788.iload (v := (2 : Int32)) (pc' := 271) at_269 rfl rfl
                        have A1790 := A1789.iloadN (v := b0) (pc' := 272) at_271 rfl rfl
                        have A1791 := A1790.iloadN (v := b1) (pc' := 273) at_272 rfl rfl
                        have A1792 := A1791.iload (v := b2) (pc' := 275) at_273 rfl rfl
                        have A1793 := A1792.lload (v := v) (pc' := 277) at_275 rfl rfl
                        obtain ⟨r1795, _, ⟨rfl, q1796⟩, A1794⟩ := W.kI (A1793.callS (argsL := [(.ref r1632), (.int (8 : Int32)), (.int (2 : Int32)), (.int b0), (.int b1), (.int b2), (.long v)]) (rest := []) (C' := 6) (S' := 65) (pc' := 280) at_277 (hw _ (List.mem_of_getElem? (i := 49) rfl)) (hw _ (List.mem_of_getElem? (i := 50) rfl)) (hw _ (List.mem_of_getElem? (i := 51) rfl)) (hw _ (List.mem_of_getElem? (i := 52) rfl)) (rm10 l Z a0 hw n0 [] (r1632) ((8 : Int32)) ((2 : Int32)) (b0) (b1) (b2) (v) (u1637) (u1638) ((own_lb v (48 : Int32))) h1635 A1793.size f1639 (by refine ⟨by decide, by decide, ?_⟩; omega) (by intro _; exact ct1648)) rfl rfl pd_6 rfl rfl (by decide) (by decide) (Nat.le_of_ble_eq_true rfl) (by decide) (by decide) rfl rfl rfl)
                        have lk8 : (8 : Int32).toInt = 8 := rfl
                        have x8 : ((own_lb v (48 : Int32))).toInt = (own_ex (8 : Int32) (2 : Int32) b0 b1 b2 v).toInt := rfl
                        by_cases c1798 : r1795.toInt = 0
                        · have A1799 := A1794.ifYes (pc' := 323) at_280 (teq (ieq (x := r1795) (y := (0 : Int32)) rfl rfl c1798)).1 (by decide) (by decide)
                          have A1800 := A1799.iconst (z := (0 : Int32)) (pc' := 324) at_323 rfl rfl
                          refine A1800.retN (t := .boolean) (z' := (0 : Int32)) at_324 (by decide) (by decide) (by simp) rfl ⟨_, rfl, ⟨trivial, ?_⟩⟩
                          have elit : (0 : Int32).toInt = 0 := rfl
                          exfalso
                          omega
                        · have A1801 := A1794.ifNo (pc' := 283) at_280 (feq (ine (x := r1795) (y := (0 : Int32)) rfl rfl c1798)).1 rfl
                          have A1802 := A1801.aload (v := (.ref r1632)) (pc' := 285) at_283 rfl rfl rfl
                          have A1803 := A1802.bipush (z := (9 : Int32)) (pc' := 287) at_285 rfl rfl
                          have A1804 := A1803.iload (v := (2 : Int32)) (pc' := 289) at_287 rfl rfl
                          have A1805 := A1804.iloadN (v := b0) (pc' := 290) at_289 rfl rfl
                          have A1806 := A1805.iloadN (v := b1) (pc' := 291) at_290 rfl rfl
                          have A1807 := A1806.iload (v := b2) (pc' := 293) at_291 rfl rfl
                          have A1808 := A1807.lload (v := v) (pc' := 295) at_293 rfl rfl
                          obtain ⟨r1810, _, ⟨rfl, q1811⟩, A1809⟩ := W.kI (A1808.callS (argsL := [(.ref r1632), (.int (9 : Int32)), (.int (2 : Int32)), (.int b0), (.int b1), (.int b2), (.long v)]) (rest := []) (C' := 6) (S' := 65) (pc' := 298) at_295 (hw _ (List.mem_of_getElem? (i := 49) rfl)) (hw _ (List.mem_of_getElem? (i := 50) rfl)) (hw _ (List.mem_of_getElem? (i := 51) rfl)) (hw _ (List.mem_of_getElem? (i := 52) rfl)) (rm10 l Z a0 hw n0 [] (r1632) ((9 : Int32)) ((2 : Int32)) (b0) (b1) (b2) (v) (u1637) (u1638) ((own_lb v (56 : Int32))) h1635 A1808.size f1639 (by refine ⟨by decide, by decide, ?_⟩; omega) (by intro _; exact ct1649)) rfl rfl pd_6 rfl rfl (by decide) (by decide) (Nat.le_of_ble_eq_true rfl) (by decide) (by decide) rfl rfl rfl)
                          have lk9 : (9 : Int32).toInt = 9 := rfl
                          have x9 : ((own_lb v (56 : Int32))).toInt = (own_ex (9 : Int32) (2 : Int32) b0 b1 b2 v).toInt := rfl
                          by_cases c1813 : r1810.toInt = 0
                          · have A1814 := A1809.ifYes (pc' := 323) at_298 (teq (ieq (x := r1810) (y := (0 : Int32)) rfl rfl c1813)).1 (by decide) (by decide)
                            have A1815 := A1814.iconst (z := (0 : Int32)) (pc' := 324) at_323 rfl rfl
                            refine A1815.retN (t := .boolean) (z' := (0 : Int32)) at_324 (by decide) (by decide) (by simp) rfl ⟨_, rfl, ⟨trivial, ?_⟩⟩
                            have elit : (0 : Int32).toInt = 0 := rfl
                            exfalso
                            omega
                          · have A1816 := A1809.ifNo (pc' := 301) at_298 (feq (ine (x := r1810) (y := (0 : Int32)) rfl rfl c1813)).1 rfl
                            have A1817 := A1816.aload (v := (.ref r1632)) (pc' := 303) at_301 rfl rfl rfl
                            have A1818 := A1817.bipush (z := (10 : Int32)) (pc' := 305) at_303 rfl rfl
                            have A1819 := A1818.iload (v := (2 : Int32)) (pc' := 307) at_305 rfl rfl
                            have A1820 := A1819.iloadN (v := b0) (pc' := 308) at_307 rfl rfl
                            have A1821 := A1820.iloadN (v := b1) (pc' := 309) at_308 rfl rfl
                            have A1822 := A1821.iload (v := b2) (pc' := 311) at_309 rfl rfl
                            have A1823 := A1822.lload (v := v) (pc' := 313) at_311 rfl rfl
                            obtain ⟨r1825, _, ⟨rfl, q1826⟩, A1824⟩ := W.kI (A1823.callS (argsL := [(.ref r1632), (.int (10 : Int32)), (.int (2 : Int32)), (.int b0), (.int b1), (.int b2), (.long v)]) (rest := []) (C' := 6) (S' := 65) (pc' := 316) at_313 (hw _ (List.mem_of_getElem? (i := 49) rfl)) (hw _ (List.mem_of_getElem? (i := 50) rfl)) (hw _ (List.mem_of_getElem? (i := 51) rfl)) (hw _ (List.mem_of_getElem? (i := 52) rfl)) (rm10 l Z a0 hw n0 [] (r1632) ((10 : Int32)) ((2 : Int32)) (b0) (b1) (b2) (v) (u1637) (u1638) ((0 : Int32)) h1635 A1823.size f1639 (by refine ⟨by decide, by decide, ?_⟩; omega) (by intro hx; exfalso; have lk : (10 : Int32).toInt = 10 := rfl; omega)) rfl rfl pd_6 rfl rfl (by decide) (by decide) (Nat.le_of_ble_eq_true rfl) (by decide) (by decide) rfl rfl rfl)
                            have lk10 : (10 : Int32).toInt = 10 := rfl
                            by_cases c1828 : r1825.toInt = 0
                            · have A1829 := A1824.ifYes (pc' := 323) at_316 (teq (ieq (x := r1825) (y := (0 : Int32)) rfl rfl c1828)).1 (by decide) (by decide)
                              have A1830 := A1829.iconst (z := (0 : Int32)) (pc' := 324) at_323 rfl rfl
                              refine A1830.retN (t := .boolean) (z' := (0 : Int32)) at_324 (by decide) (by decide) (by simp) rfl ⟨_, rfl, ⟨trivial, ?_⟩⟩
                              have elit : (0 : Int32).toInt = 0 := rfl
                              exfalso
                              omega
                            · have A1831 := A1824.ifNo (pc' := 319) at_316 (feq (ine (x := r1825) (y := (0 : Int32)) rfl rfl c1828)).1 rfl
                              have A1832 := A1831.iconst (z := (1 : Int32)) (pc' := 320) at_319 rfl rfl
                              have A1833 := A1832.goto (pc' := 324) at_320 (by decide) (by decide)
                              refine A1833.retN (t := .boolean) (z' := (1 : Int32)) at_324 (by decide) (by decide) (by simp) rfl ⟨_, rfl, ⟨trivial, ?_⟩⟩
                              have elit : (1 : Int32).toInt = 1 := rfl
                              rfl
      · have A1834 := A1664.icmpNo (pc' := 125) at_122 (feq (ine (x := (Int32.ofNat u1637)) (y := (10 : Int32)) rfl rfl c1665)).1 rfl
        have A1835 := A1834.iconst (z := (0 : Int32)) (pc' := 126) at_125 rfl rfl
        refine A1835.retN (t := .boolean) (z' := (0 : Int32)) at_126 (by decide) (by decide) (by simp) rfl ⟨_, rfl, ⟨trivial, ?_⟩⟩
        have elit : (0 : Int32).toInt = 0 := rfl
        exfalso
        omega
    · have A1836 := A1036.cast (Ls' := #[.val (.int xc), .val (.int xn), .val (.int b0), .val (.int b1), .val (.int b2), .val (.long v), .second, .val (.int cp), .val (.int (3 : Int32)), .val (.int (1 : Int32)), .val (.ref b1013), .unset, .unset]) rfl (by rw [hn]) rfl
      have A1837 := A1836.iload (v := (3 : Int32)) (pc' := 39) at_37 rfl rfl
      have A1839 := A1837.ifNo (pc' := 42) at_39 (tlt (igt (x := (3 : Int32)) (y := (0 : Int32)) rfl rfl (by decide : (0 : Int) < 3))).2.2.2 rfl
      have A1840 := A1839.aload (v := (.ref b1013)) (pc' := 44) at_42 rfl rfl rfl
      have A1841 := A1840.iloadN (v := b0) (pc' := 45) at_44 rfl rfl
      have f1842 := (X1017.keep K1028)
      obtain ⟨r1844, h1846, ⟨u1848, u1849, u1850, u1851, K1847, f1852, f1853, f1854, f1855, f1856, q1845⟩, A1843⟩ := W.kA (A1841.callV (a := b1013) (argsL := [(.int b0)]) (rest := []) (C' := 3) (S' := 23) (pc' := 48) at_45 f1842 (hw _ (List.mem_of_getElem? (i := 12) rfl)) (hw _ (List.mem_of_getElem? (i := 13) rfl)) (fun hZ => notFace_of_selects (args := #[]) (mvT hZ (hw _ (List.mem_of_getElem? (i := 15) rfl)))) (hw _ (List.mem_of_getElem? (i := 15) rfl)) (hw _ (List.mem_of_getElem? (i := 14) rfl)) (hw _ (List.mem_of_getElem? (i := 2) rfl)) (hw _ (List.mem_of_getElem? (i := 16) rfl)) (rm3 l Z a0 hw n0 [] (b1013) (b0) (b1029) (cp.toInt.toNat) ((fun _ => (.int (0 : Int32)))) ((0 : Int32)) h1027 A1841.size f1842 g1015 f1032 f1033 f1034 g1030 ne1035 (by omega)) rfl rfl pd_7 rfl rfl (by decide) (by decide) (Nat.le_of_ble_eq_true rfl) (by decide) (by decide) rfl rfl rfl)
      obtain ⟨-, -, hs0, hle0, hN0, hold0, hnew0⟩ := q1845
      have ct1857 : u1850 0 = .int b0.toInt8.toInt32 := by have e : (0 : Int32).toInt.toNat = 0 := (by omega); rw [← e]; exact hnew0
      have A1858 := A1843.pop (pc' := 49) at_48 rfl rfl
      have A1859 := A1858.iload (v := (3 : Int32)) (pc' := 51) at_49 rfl rfl
      have A1860 := A1859.iconst (z := (1 : Int32)) (pc' := 52) at_51 rfl rfl
      have A1862 := A1860.icmpNo (pc' := 55) at_52 (tlt (igt (x := (3 : Int32)) (y := (1 : Int32)) rfl rfl (by decide : (1 : Int) < 3))).2.2.2 rfl
      have A1863 := A1862.aload (v := (.ref b1013)) (pc' := 57) at_55 rfl rfl rfl
      have A1864 := A1863.iloadN (v := b1) (pc' := 58) at_57 rfl rfl
      have f1865 := (f1842.keep K1847)
      obtain ⟨r1867, h1869, ⟨u1871, u1872, u1873, u1874, K1870, f1875, f1876, f1877, f1878, f1879, q1868⟩, A1866⟩ := W.kA (A1864.callV (a := b1013) (argsL := [(.int b1)]) (rest := []) (C' := 4) (S' := 37) (pc' := 61) at_58 f1865 (hw _ (List.mem_of_getElem? (i := 12) rfl)) (hw _ (List.mem_of_getElem? (i := 13) rfl)) (fun hZ => notFace_of_selects (args := #[]) (mvT hZ (hw _ (List.mem_of_getElem? (i := 15) rfl)))) (hw _ (List.mem_of_getElem? (i := 15) rfl)) (hw _ (List.mem_of_getElem? (i := 14) rfl)) (hw _ (List.mem_of_getElem? (i := 2) rfl)) (hw _ (List.mem_of_getElem? (i := 16) rfl)) (rm3 l Z a0 hw n0 [] (b1013) (b1) (u1848) (u1849) (u1850) (u1851) h1846 A1864.size f1865 g1015 f1852 f1853 f1854 f1855 f1856 (by omega)) rfl rfl pd_7 rfl rfl (by decide) (by decide) (Nat.le_of_ble_eq_true rfl) (by decide) (by decide) rfl rfl rfl)
      obtain ⟨-, -, hs1, hle1, hN1, hold1, hnew1⟩ := q1868
      have ct1880 : u1873 0 = .int b0.toInt8.toInt32 := (hold1 0 (by omega)).trans ct1857
      have ct1881 : u1873 1 = .int b1.toInt8.toInt32 := by have e : u1851.toInt.toNat = 1 := (by omega); rw [← e]; exact hnew1
      have A1882 := A1866.pop (pc' := 62) at_61 rfl rfl
      have A1883 := A1882.iload (v := (3 : Int32)) (pc' := 64) at_62 rfl rfl
      have A1884 := A1883.iconst (z := (2 : Int32)) (pc' := 65) at_64 rfl rfl
      have A1886 := A1884.icmpNo (pc' := 68) at_65 (tlt (igt (x := (3 : Int32)) (y := (2 : Int32)) rfl rfl (by decide : (2 : Int) < 3))).2.2.2 rfl
      have A1887 := A1886.aload (v := (.ref b1013)) (pc' := 70) at_68 rfl rfl rfl
      have A1888 := A1887.iload (v := b2) (pc' := 72) at_70 rfl rfl
      have f1889 := (f1865.keep K1870)
      obtain ⟨r1891, h1893, ⟨u1895, u1896, u1897, u1898, K1894, f1899, f1900, f1901, f1902, f1903, q1892⟩, A1890⟩ := W.kA (A1888.callV (a := b1013) (argsL := [(.int b2)]) (rest := []) (C' := 5) (S' := 51) (pc' := 75) at_72 f1889 (hw _ (List.mem_of_getElem? (i := 12) rfl)) (hw _ (List.mem_of_getElem? (i := 13) rfl)) (fun hZ => notFace_of_selects (args := #[]) (mvT hZ (hw _ (List.mem_of_getElem? (i := 15) rfl)))) (hw _ (List.mem_of_getElem? (i := 15) rfl)) (hw _ (List.mem_of_getElem? (i := 14) rfl)) (hw _ (List.mem_of_getElem? (i := 2) rfl)) (hw _ (List.mem_of_getElem? (i := 16) rfl)) (rm3 l Z a0 hw n0 [] (b1013) (b2) (u1871) (u1872) (u1873) (u1874) h1869 A1888.size f1889 g1015 f1875 f1876 f1877 f1878 f1879 (by omega)) rfl rfl pd_7 rfl rfl (by decide) (by decide) (Nat.le_of_ble_eq_true rfl) (by decide) (by decide) rfl rfl rfl)
      obtain ⟨-, -, hs2, hle2, hN2, hold2, hnew2⟩ := q1892
      have ct1904 : u1897 0 = .int b0.toInt8.toInt32 := (hold2 0 (by omega)).trans ct1880
      have ct1905 : u1897 1 = .int b1.toInt8.toInt32 := (hold2 1 (by omega)).trans ct1881
      have ct1906 : u1897 2 = .int b2.toInt8.toInt32 := by have e : u1874.toInt.toNat = 2 := (by omega); rw [← e]; exact hnew2
      have A1907 := A1890.pop (pc' := 76) at_75 rfl rfl
      have A1908 := A1907.iload (v := (1 : Int32)) (pc' := 78) at_76 rfl rfl
      have A1910 := A1908.ifNo (pc' := 81) at_78 (feq (ine (x := (1 : Int32)) (y := (0 : Int32)) rfl rfl (by decide : ¬ ((1 : Int) = 0)))).1 rfl
      have A1911 := A1910.aload (v := (.ref b1013)) (pc' := 83) at_81 rfl rfl rfl
      have A1912 := A1911.lload (v := v) (pc' := 85) at_83 rfl rfl
      have f1913 := (f1889.keep K1894)
      obtain ⟨r1915, h1917, ⟨u1919, u1920, u1921, u1922, K1918, f1923, f1924, f1925, f1926, f1927, q1916⟩, A1914⟩ := W.kA (A1912.callV (a := b1013) (argsL := [(.long v)]) (rest := []) (C' := 6) (S' := 65) (pc' := 88) at_85 f1913 (hw _ (List.mem_of_getElem? (i := 56) rfl)) (hw _ (List.mem_of_getElem? (i := 57) rfl)) (fun hZ => notFace_of_selects (args := #[]) (mvT hZ (hw _ (List.mem_of_getElem? (i := 59) rfl)))) (hw _ (List.mem_of_getElem? (i := 59) rfl)) (hw _ (List.mem_of_getElem? (i := 58) rfl)) (hw _ (List.mem_of_getElem? (i := 2) rfl)) (hw _ (List.mem_of_getElem? (i := 60) rfl)) (rm12 l Z a0 hw n0 [] (b1013) (v) (u1895) (u1896) (u1897) (u1898) h1893 A1912.size f1913 g1015 f1899 f1900 f1901 f1902 f1903 (by omega)) rfl rfl pd_8 rfl rfl (by decide) (by decide) (Nat.le_of_ble_eq_true rfl) (by decide) (by decide) rfl rfl rfl)
      obtain ⟨-, -, hsL, hleL, hNL, holdL, hl0, hl1, hl2, hl3, hl4, hl5, hl6, hl7⟩ := q1916
      have ez : u1898.toInt.toNat = 3 := by omega
      rw [ez] at hl0 hl1 hl2 hl3 hl4 hl5 hl6 hl7
      have ct1928 : u1921 0 = .int b0.toInt8.toInt32 := (holdL 0 (by omega)).trans ct1904
      have ct1929 : u1921 1 = .int b1.toInt8.toInt32 := (holdL 1 (by omega)).trans ct1905
      have ct1930 : u1921 2 = .int b2.toInt8.toInt32 := (holdL 2 (by omega)).trans ct1906
      have ct1931 : u1921 3 = .int (own_lb v (0 : Int32)) := hl0
      have ct1932 : u1921 4 = .int (own_lb v (8 : Int32)) := hl1
      have ct1933 : u1921 5 = .int (own_lb v (16 : Int32)) := hl2
      have ct1934 : u1921 6 = .int (own_lb v (24 : Int32)) := hl3
      have ct1935 : u1921 7 = .int (own_lb v (32 : Int32)) := hl4
      have ct1936 : u1921 8 = .int (own_lb v (40 : Int32)) := hl5
      have ct1937 : u1921 9 = .int (own_lb v (48 : Int32)) := hl6
      have ct1938 : u1921 10 = .int (own_lb v (56 : Int32)) := hl7
      have A1939 := A1914.pop (pc' := 89) at_88 rfl rfl
      have A1940 := A1939.aload (v := (.ref b1013)) (pc' := 91) at_89 rfl rfl rfl
      have f1943 := (f1913.keep K1918)
      obtain ⟨r1942, h1945, ⟨u1947, u1948, K1946, f1949, q1944⟩, A1941⟩ := W.kA (A1940.callV (a := b1013) (argsL := []) (rest := []) (C' := 7) (S' := 79) (pc' := 94) at_91 f1943 (hw _ (List.mem_of_getElem? (i := 44) rfl)) (hw _ (List.mem_of_getElem? (i := 45) rfl)) (fun hZ => notFace_of_selects (args := #[]) (mvT hZ (hw _ (List.mem_of_getElem? (i := 47) rfl)))) (hw _ (List.mem_of_getElem? (i := 47) rfl)) (hw _ (List.mem_of_getElem? (i := 46) rfl)) (hw _ (List.mem_of_getElem? (i := 2) rfl)) (hw _ (List.mem_of_getElem? (i := 48) rfl)) (rm9 l Z a0 hw n0 [] (b1013) (u1919) (u1920) (u1921) (u1922) h1917 A1940.size f1923 f1924 f1925 (by omega)) rfl rfl pd_5 rfl rfl (by decide) (by decide) (Nat.le_of_ble_eq_true rfl) (by decide) (by decide) rfl rfl rfl)
      obtain ⟨hN3, holdA⟩ := q1944
      have tN3 : (Int32.ofNat u1947).toInt = u1947 := Int32.toInt_ofNat_of_lt (by omega)
      have ct1950 : u1948 0 = .int b0.toInt8.toInt32 := (holdA 0 (by omega)).trans ct1928
      have ct1951 : u1948 1 = .int b1.toInt8.toInt32 := (holdA 1 (by omega)).trans ct1929
      have ct1952 : u1948 2 = .int b2.toInt8.toInt32 := (holdA 2 (by omega)).trans ct1930
      have ct1953 : u1948 3 = .int (own_lb v (0 : Int32)) := (holdA 3 (by omega)).trans ct1931
      have ct1954 : u1948 4 = .int (own_lb v (8 : Int32)) := (holdA 4 (by omega)).trans ct1932
      have ct1955 : u1948 5 = .int (own_lb v (16 : Int32)) := (holdA 5 (by omega)).trans ct1933
      have ct1956 : u1948 6 = .int (own_lb v (24 : Int32)) := (holdA 6 (by omega)).trans ct1934
      have ct1957 : u1948 7 = .int (own_lb v (32 : Int32)) := (holdA 7 (by omega)).trans ct1935
      have ct1958 : u1948 8 = .int (own_lb v (40 : Int32)) := (holdA 8 (by omega)).trans ct1936
      have ct1959 : u1948 9 = .int (own_lb v (48 : Int32)) := (holdA 9 (by omega)).trans ct1937
      have ct1960 : u1948 10 = .int (own_lb v (56 : Int32)) := (holdA 10 (by omega)).trans ct1938
      have A1961 := A1941.astore (Ls' := #[.val (.int xc), .val (.int xn), .val (.int b0), .val (.int b1), .val (.int b2), .val (.long v), .second, .val (.int cp), .val (.int (3 : Int32)), .val (.int (1 : Int32)), .val (.ref b1013), .val (.ref r1942), .unset]) (pc' := 96) at_94 rfl rfl rfl
      have A1962 := A1961.iload (v := (3 : Int32)) (pc' := 98) at_96 rfl rfl
      have A1963 := A1962.iload (v := (1 : Int32)) (pc' := 100) at_98 rfl rfl
      have A1965 := A1963.ifNo (pc' := 103) at_100 (feq (ine (x := (1 : Int32)) (y := (0 : Int32)) rfl rfl (by decide : ¬ ((1 : Int) = 0)))).1 rfl
      have A1966 := A1965.bipush (z := (8 : Int32)) (pc' := 105) at_103 rfl rfl
      have A1967 := A1966.goto (pc' := 109) at_105 (by decide) (by decide)
      have A1968 := A1967.iadd (pc' := 110) at_109 rfl
      have A1969 := A1968.topI (z := (11 : Int32)) (by decide)
      have A1970 := A1969.istore (Ls' := #[.val (.int xc), .val (.int xn), .val (.int b0), .val (.int b1), .val (.int b2), .val (.long v), .second, .val (.int cp), .val (.int (3 : Int32)), .val (.int (1 : Int32)), .val (.ref b1013), .val (.ref r1942), .val (.int (11 : Int32))]) (pc' := 112) at_110 rfl rfl
      have A1971 := A1970.aload (v := (.ref r1942)) (pc' := 114) at_112 rfl rfl rfl
      have A1972 := A1971.ifnullNo (pc' := 117) at_114 rfl
      have A1973 := A1972.aload (v := (.ref r1942)) (pc' := 119) at_117 rfl rfl rfl
      have A1974 := A1973.alen (z := (Int32.ofNat u1947)) (pc' := 120) at_119 f1949 (Int32.toInt_ofNat_small f1949.size) rfl
      have A1975 := A1974.iload (v := (11 : Int32)) (pc' := 122) at_120 rfl rfl
      by_cases c1976 : (Int32.ofNat u1947).toInt = 11
      · have A1977 := A1975.icmpYes (pc' := 127) at_122 (teq (ieq (x := (Int32.ofNat u1947)) (y := (11 : Int32)) rfl rfl c1976)).1 (by decide) (by decide)
        have A1978 := A1977.aload (v := (.ref r1942)) (pc' := 129) at_127 rfl rfl rfl
        have A1979 := A1978.iconst (z := (0 : Int32)) (pc' := 130) at_129 rfl rfl
        have A1980 := A1979.iload (v := (3 : Int32)) (pc' := 132) at_130 rfl rfl
        have A1981 := A1980.iloadN (v := b0) (pc' := 133) at_132 rfl rfl
        have A1982 := A1981.iloadN (v := b1) (pc' := 134) at_133 rfl rfl
        have A1983 := A1982.iload (v := b2) (pc' := 136) at_134 rfl rfl
        have A1984 := A1983.lload (v := v) (pc' := 138) at_136 rfl rfl
        obtain ⟨r1986, _, ⟨rfl, q1987⟩, A1985⟩ := W.kI (A1984.callS (argsL := [(.ref r1942), (.int (0 : Int32)), (.int (3 : Int32)), (.int b0), (.int b1), (.int b2), (.long v)]) (rest := []) (C' := 7) (S' := 79) (pc' := 141) at_138 (hw _ (List.mem_of_getElem? (i := 49) rfl)) (hw _ (List.mem_of_getElem? (i := 50) rfl)) (hw _ (List.mem_of_getElem? (i := 51) rfl)) (hw _ (List.mem_of_getElem? (i := 52) rfl)) (rm10 l Z a0 hw n0 [] (r1942) ((0 : Int32)) ((3 : Int32)) (b0) (b1) (b2) (v) (u1947) (u1948) (b0.toInt8.toInt32) h1945 A1984.size f1949 (by refine ⟨by decide, by decide, ?_⟩; omega) (by intro _; exact ct1950)) rfl rfl pd_6 rfl rfl (by decide) (by decide) (Nat.le_of_ble_eq_true rfl) (by decide) (by decide) rfl rfl rfl)
        have lk0 : (0 : Int32).toInt = 0 := rfl
        have x0 : (b0.toInt8.toInt32).toInt = (own_ex (0 : Int32) (3 : Int32) b0 b1 b2 v).toInt := rfl
        by_cases c1989 : r1986.toInt = 0
        · have A1990 := A1985.ifYes (pc' := 323) at_141 (teq (ieq (x := r1986) (y := (0 : Int32)) rfl rfl c1989)).1 (by decide) (by decide)
          have A1991 := A1990.iconst (z := (0 : Int32)) (pc' := 324) at_323 rfl rfl
          refine A1991.retN (t := .boolean) (z' := (0 : Int32)) at_324 (by decide) (by decide) (by simp) rfl ⟨_, rfl, ⟨trivial, ?_⟩⟩
          have elit : (0 : Int32).toInt = 0 := rfl
          exfalso
          omega
        · have A1992 := A1985.ifNo (pc' := 144) at_141 (feq (ine (x := r1986) (y := (0 : Int32)) rfl rfl c1989)).1 rfl
          have A1993 := A1992.aload (v := (.ref r1942)) (pc' := 146) at_144 rfl rfl rfl
          have A1994 := A1993.iconst (z := (1 : Int32)) (pc' := 147) at_146 rfl rfl
          have A1995 := A1994.iload (v := (3 : Int32)) (pc' := 149) at_147 rfl rfl
          have A1996 := A1995.iloadN (v := b0) (pc' := 150) at_149 rfl rfl
          have A1997 := A1996.iloadN (v := b1) (pc' := 151) at_150 rfl rfl
          have A1998 := A1997.iload (v := b2) (pc' := 153) at_151 rfl rfl
          have A1999 := A1998.lload (v := v) (pc' := 155) at_153 rfl rfl
          obtain ⟨r2001, _, ⟨rfl, q2002⟩, A2000⟩ := W.kI (A1999.callS (argsL := [(.ref r1942), (.int (1 : Int32)), (.int (3 : Int32)), (.int b0), (.int b1), (.int b2), (.long v)]) (rest := []) (C' := 7) (S' := 79) (pc' := 158) at_155 (hw _ (List.mem_of_getElem? (i := 49) rfl)) (hw _ (List.mem_of_getElem? (i := 50) rfl)) (hw _ (List.mem_of_getElem? (i := 51) rfl)) (hw _ (List.mem_of_getElem? (i := 52) rfl)) (rm10 l Z a0 hw n0 [] (r1942) ((1 : Int32)) ((3 : Int32)) (b0) (b1) (b2) (v) (u1947) (u1948) (b1.toInt8.toInt32) h1945 A1999.size f1949 (by refine ⟨by decide, by decide, ?_⟩; omega) (by intro _; exact ct1951)) rfl rfl pd_6 rfl rfl (by decide) (by decide) (Nat.le_of_ble_eq_true rfl) (by decide) (by decide) rfl rfl rfl)
          have lk1 : (1 : Int32).toInt = 1 := rfl
          have x1 : (b1.toInt8.toInt32).toInt = (own_ex (1 : Int32) (3 : Int32) b0 b1 b2 v).toInt := rfl
          by_cases c2004 : r2001.toInt = 0
          · have A2005 := A2000.ifYes (pc' := 323) at_158 (teq (ieq (x := r2001) (y := (0 : Int32)) rfl rfl c2004)).1 (by decide) (by decide)
            have A2006 := A2005.iconst (z := (0 : Int32)) (pc' := 324) at_323 rfl rfl
            refine A2006.retN (t := .boolean) (z' := (0 : Int32)) at_324 (by decide) (by decide) (by simp) rfl ⟨_, rfl, ⟨trivial, ?_⟩⟩
            have elit : (0 : Int32).toInt = 0 := rfl
            exfalso
            omega
          · have A2007 := A2000.ifNo (pc' := 161) at_158 (feq (ine (x := r2001) (y := (0 : Int32)) rfl rfl c2004)).1 rfl
            have A2008 := A2007.aload (v := (.ref r1942)) (pc' := 163) at_161 rfl rfl rfl
            have A2009 := A2008.iconst (z := (2 : Int32)) (pc' := 164) at_163 rfl rfl
            have A2010 := A2009.iload (v := (3 : Int32)) (pc' := 166) at_164 rfl rfl
            have A2011 := A2010.iloadN (v := b0) (pc' := 167) at_166 rfl rfl
            have A2012 := A2011.iloadN (v := b1) (pc' := 168) at_167 rfl rfl
            have A2013 := A2012.iload (v := b2) (pc' := 170) at_168 rfl rfl
            have A2014 := A2013.lload (v := v) (pc' := 172) at_170 rfl rfl
            obtain ⟨r2016, _, ⟨rfl, q2017⟩, A2015⟩ := W.kI (A2014.callS (argsL := [(.ref r1942), (.int (2 : Int32)), (.int (3 : Int32)), (.int b0), (.int b1), (.int b2), (.long v)]) (rest := []) (C' := 7) (S' := 79) (pc' := 175) at_172 (hw _ (List.mem_of_getElem? (i := 49) rfl)) (hw _ (List.mem_of_getElem? (i := 50) rfl)) (hw _ (List.mem_of_getElem? (i := 51) rfl)) (hw _ (List.mem_of_getElem? (i := 52) rfl)) (rm10 l Z a0 hw n0 [] (r1942) ((2 : Int32)) ((3 : Int32)) (b0) (b1) (b2) (v) (u1947) (u1948) (b2.toInt8.toInt32) h1945 A2014.size f1949 (by refine ⟨by decide, by decide, ?_⟩; omega) (by intro _; exact ct1952)) rfl rfl pd_6 rfl rfl (by decide) (by decide) (Nat.le_of_ble_eq_true rfl) (by decide) (by decide) rfl rfl rfl)
            have lk2 : (2 : Int32).toInt = 2 := rfl
            have x2 : (b2.toInt8.toInt32).toInt = (own_ex (2 : Int32) (3 : Int32) b0 b1 b2 v).toInt := rfl
            by_cases c2019 : r2016.toInt = 0
            · have A2020 := A2015.ifYes (pc' := 323) at_175 (teq (ieq (x := r2016) (y := (0 : Int32)) rfl rfl c2019)).1 (by decide) (by decide)
              have A2021 := A2020.iconst (z := (0 : Int32)) (pc' := 324) at_323 rfl rfl
              refine A2021.retN (t := .boolean) (z' := (0 : Int32)) at_324 (by decide) (by decide) (by simp) rfl ⟨_, rfl, ⟨trivial, ?_⟩⟩
              have elit : (0 : Int32).toInt = 0 := rfl
              exfalso
              omega
            · have A2022 := A2015.ifNo (pc' := 178) at_175 (feq (ine (x := r2016) (y := (0 : Int32)) rfl rfl c2019)).1 rfl
              have A2023 := A2022.aload (v := (.ref r1942)) (pc' := 180) at_178 rfl rfl rfl
              have A2024 := A2023.iconst (z := (3 : Int32)) (pc' := 181) at_180 rfl rfl
              have A2025 := A2024.iload (v := (3 : Int32)) (pc' := 183) at_181 rfl rfl
              have A2026 := A2025.iloadN (v := b0) (pc' := 184) at_183 rfl rfl
              have A2027 := A2026.iloadN (v := b1) (pc' := 185) at_184 rfl rfl
              have A2028 := A2027.iload (v := b2) (pc' := 187) at_185 rfl rfl
              have A2029 := A2028.lload (v := v) (pc' := 189) at_187 rfl rfl
              obtain ⟨r2031, _, ⟨rfl, q2032⟩, A2030⟩ := W.kI (A2029.callS (argsL := [(.ref r1942), (.int (3 : Int32)), (.int (3 : Int32)), (.int b0), (.int b1), (.int b2), (.long v)]) (rest := []) (C' := 7) (S' := 79) (pc' := 192) at_189 (hw _ (List.mem_of_getElem? (i := 49) rfl)) (hw _ (List.mem_of_getElem? (i := 50) rfl)) (hw _ (List.mem_of_getElem? (i := 51) rfl)) (hw _ (List.mem_of_getElem? (i := 52) rfl)) (rm10 l Z a0 hw n0 [] (r1942) ((3 : Int32)) ((3 : Int32)) (b0) (b1) (b2) (v) (u1947) (u1948) ((own_lb v (0 : Int32))) h1945 A2029.size f1949 (by refine ⟨by decide, by decide, ?_⟩; omega) (by intro _; exact ct1953)) rfl rfl pd_6 rfl rfl (by decide) (by decide) (Nat.le_of_ble_eq_true rfl) (by decide) (by decide) rfl rfl rfl)
              have lk3 : (3 : Int32).toInt = 3 := rfl
              have x3 : ((own_lb v (0 : Int32))).toInt = (own_ex (3 : Int32) (3 : Int32) b0 b1 b2 v).toInt := rfl
              by_cases c2034 : r2031.toInt = 0
              · have A2035 := A2030.ifYes (pc' := 323) at_192 (teq (ieq (x := r2031) (y := (0 : Int32)) rfl rfl c2034)).1 (by decide) (by decide)
                have A2036 := A2035.iconst (z := (0 : Int32)) (pc' := 324) at_323 rfl rfl
                refine A2036.retN (t := .boolean) (z' := (0 : Int32)) at_324 (by decide) (by decide) (by simp) rfl ⟨_, rfl, ⟨trivial, ?_⟩⟩
                have elit : (0 : Int32).toInt = 0 := rfl
                exfalso
                omega
              · have A2037 := A2030.ifNo (pc' := 195) at_192 (feq (ine (x := r2031) (y := (0 : Int32)) rfl rfl c2034)).1 rfl
                have A2038 := A2037.aload (v := (.ref r1942)) (pc' := 197) at_195 rfl rfl rfl
                have A2039 := A2038.iconst (z := (4 : Int32)) (pc' := 198) at_197 rfl rfl
                have A2040 := A2039.iload (v := (3 : Int32)) (pc' := 200) at_198 rfl rfl
                have A2041 := A2040.iloadN (v := b0) (pc' := 201) at_200 rfl rfl
                have A2042 := A2041.iloadN (v := b1) (pc' := 202) at_201 rfl rfl
                have A2043 := A2042.iload (v := b2) (pc' := 204) at_202 rfl rfl
                have A2044 := A2043.lload (v := v) (pc' := 206) at_204 rfl rfl
                obtain ⟨r2046, _, ⟨rfl, q2047⟩, A2045⟩ := W.kI (A2044.callS (argsL := [(.ref r1942), (.int (4 : Int32)), (.int (3 : Int32)), (.int b0), (.int b1), (.int b2), (.long v)]) (rest := []) (C' := 7) (S' := 79) (pc' := 209) at_206 (hw _ (List.mem_of_getElem? (i := 49) rfl)) (hw _ (List.mem_of_getElem? (i := 50) rfl)) (hw _ (List.mem_of_getElem? (i := 51) rfl)) (hw _ (List.mem_of_getElem? (i := 52) rfl)) (rm10 l Z a0 hw n0 [] (r1942) ((4 : Int32)) ((3 : Int32)) (b0) (b1) (b2) (v) (u1947) (u1948) ((own_lb v (8 : Int32))) h1945 A2044.size f1949 (by refine ⟨by decide, by decide, ?_⟩; omega) (by intro _; exact ct1954)) rfl rfl pd_6 rfl rfl (by decide) (by decide) (Nat.le_of_ble_eq_true rfl) (by decide) (by decide) rfl rfl rfl)
                have lk4 : (4 : Int32).toInt = 4 := rfl
                have x4 : ((own_lb v (8 : Int32))).toInt = (own_ex (4 : Int32) (3 : Int32) b0 b1 b2 v).toInt := rfl
                by_cases c2049 : r2046.toInt = 0
                · have A2050 := A2045.ifYes (pc' := 323) at_209 (teq (ieq (x := r2046) (y := (0 : Int32)) rfl rfl c2049)).1 (by decide) (by decide)
                  have A2051 := A2050.iconst (z := (0 : Int32)) (pc' := 324) at_323 rfl rfl
                  refine A2051.retN (t := .boolean) (z' := (0 : Int32)) at_324 (by decide) (by decide) (by simp) rfl ⟨_, rfl, ⟨trivial, ?_⟩⟩
                  have elit : (0 : Int32).toInt = 0 := rfl
                  exfalso
                  omega
                · have A2052 := A2045.ifNo (pc' := 212) at_209 (feq (ine (x := r2046) (y := (0 : Int32)) rfl rfl c2049)).1 rfl
                  have A2053 := A2052.aload (v := (.ref r1942)) (pc' := 214) at_212 rfl rfl rfl
                  have A2054 := A2053.iconst (z := (5 : Int32)) (pc' := 215) at_214 rfl rfl
                  have A2055 := A2054.iload (v := (3 : Int32)) (pc' := 217) at_215 rfl rfl
                  have A2056 := A2055.iloadN (v := b0) (pc' := 218) at_217 rfl rfl
                  have A2057 := A2056.iloadN (v := b1) (pc' := 219) at_218 rfl rfl
                  have A2058 := A2057.iload (v := b2) (pc' := 221) at_219 rfl rfl
                  have A2059 := A2058.lload (v := v) (pc' := 223) at_221 rfl rfl
                  obtain ⟨r2061, _, ⟨rfl, q2062⟩, A2060⟩ := W.kI (A2059.callS (argsL := [(.ref r1942), (.int (5 : Int32)), (.int (3 : Int32)), (.int b0), (.int b1), (.int b2), (.long v)]) (rest := []) (C' := 7) (S' := 79) (pc' := 226) at_223 (hw _ (List.mem_of_getElem? (i := 49) rfl)) (hw _ (List.mem_of_getElem? (i := 50) rfl)) (hw _ (List.mem_of_getElem? (i := 51) rfl)) (hw _ (List.mem_of_getElem? (i := 52) rfl)) (rm10 l Z a0 hw n0 [] (r1942) ((5 : Int32)) ((3 : Int32)) (b0) (b1) (b2) (v) (u1947) (u1948) ((own_lb v (16 : Int32))) h1945 A2059.size f1949 (by refine ⟨by decide, by decide, ?_⟩; omega) (by intro _; exact ct1955)) rfl rfl pd_6 rfl rfl (by decide) (by decide) (Nat.le_of_ble_eq_true rfl) (by decide) (by decide) rfl rfl rfl)
                  have lk5 : (5 : Int32).toInt = 5 := rfl
                  have x5 : ((own_lb v (16 : Int32))).toInt = (own_ex (5 : Int32) (3 : Int32) b0 b1 b2 v).toInt := rfl
                  by_cases c2064 : r2061.toInt = 0
                  · have A2065 := A2060.ifYes (pc' := 323) at_226 (teq (ieq (x := r2061) (y := (0 : Int32)) rfl rfl c2064)).1 (by decide) (by decide)
                    have A2066 := A2065.iconst (z := (0 : Int32)) (pc' := 324) at_323 rfl rfl
                    refine A2066.retN (t := .boolean) (z' := (0 : Int32)) at_324 (by decide) (by decide) (by simp) rfl ⟨_, rfl, ⟨trivial, ?_⟩⟩
                    have elit : (0 : Int32).toInt = 0 := rfl
                    exfalso
                    omega
                  · have A2067 := A2060.ifNo (pc' := 229) at_226 (feq (ine (x := r2061) (y := (0 : Int32)) rfl rfl c2064)).1 rfl
                    have A2068 := A2067.aload (v := (.ref r1942)) (pc' := 231) at_229 rfl rfl rfl
                    have A2069 := A2068.bipush (z := (6 : Int32)) (pc' := 233) at_231 rfl rfl
                    have A2070 := A2069.iload (v := (3 : Int32)) (pc' := 235) at_233 rfl rfl
                    have A2071 := A2070.iloadN (v := b0) (pc' := 236) at_235 rfl rfl
                    have A2072 := A2071.iloadN (v := b1) (pc' := 237) at_236 rfl rfl
                    have A2073 := A2072.iload (v := b2) (pc' := 239) at_237 rfl rfl
                    have A2074 := A2073.lload (v := v) (pc' := 241) at_239 rfl rfl
                    obtain ⟨r2076, _, ⟨rfl, q2077⟩, A2075⟩ := W.kI (A2074.callS (argsL := [(.ref r1942), (.int (6 : Int32)), (.int (3 : Int32)), (.int b0), (.int b1), (.int b2), (.long v)]) (rest := []) (C' := 7) (S' := 79) (pc' := 244) at_241 (hw _ (List.mem_of_getElem? (i := 49) rfl)) (hw _ (List.mem_of_getElem? (i := 50) rfl)) (hw _ (List.mem_of_getElem? (i := 51) rfl)) (hw _ (List.mem_of_getElem? (i := 52) rfl)) (rm10 l Z a0 hw n0 [] (r1942) ((6 : Int32)) ((3 : Int32)) (b0) (b1) (b2) (v) (u1947) (u1948) ((own_lb v (24 : Int32))) h1945 A2074.size f1949 (by refine ⟨by decide, by decide, ?_⟩; omega) (by intro _; exact ct1956)) rfl rfl pd_6 rfl rfl (by decide) (by decide) (Nat.le_of_ble_eq_true rfl) (by decide) (by decide) rfl rfl rfl)
                    have lk6 : (6 : Int32).toInt = 6 := rfl
                    have x6 : ((own_lb v (24 : Int32))).toInt = (own_ex (6 : Int32) (3 : Int32) b0 b1 b2 v).toInt := rfl
                    by_cases c2079 : r2076.toInt = 0
                    · have A2080 := A2075.ifYes (pc' := 323) at_244 (teq (ieq (x := r2076) (y := (0 : Int32)) rfl rfl c2079)).1 (by decide) (by decide)
                      have A2081 := A2080.iconst (z := (0 : Int32)) (pc' := 324) at_323 rfl rfl
                      refine A2081.retN (t := .boolean) (z' := (0 : Int32)) at_324 (by decide) (by decide) (by simp) rfl ⟨_, rfl, ⟨trivial, ?_⟩⟩
                      have elit : (0 : Int32).toInt = 0 := rfl
                      exfalso
                      omega
                    · have A2082 := A2075.ifNo (pc' := 247) at_244 (feq (ine (x := r2076) (y := (0 : Int32)) rfl rfl c2079)).1 rfl
                      have A2083 := A2082.aload (v := (.ref r1942)) (pc' := 249) at_247 rfl rfl rfl
                      have A2084 := A2083.bipush (z := (7 : Int32)) (pc' := 251) at_249 rfl rfl
                      have A2085 := A2084.iload (v := (3 : Int32)) (pc' := 253) at_251 rfl rfl
                      have A2086 := A2085.iloadN (v := b0) (pc' := 254) at_253 rfl rfl
                      have A2087 := A2086.iloadN (v := b1) (pc' := 255) at_254 rfl rfl
                      have A2088 := A2087.iload (v := b2) (pc' := 257) at_255 rfl rfl
                      have A2089 := A2088.lload (v := v) (pc' := 259) at_257 rfl rfl
                      obtain ⟨r2091, _, ⟨rfl, q2092⟩, A2090⟩ := W.kI (A2089.callS (argsL := [(.ref r1942), (.int (7 : Int32)), (.int (3 : Int32)), (.int b0), (.int b1), (.int b2), (.long v)]) (rest := []) (C' := 7) (S' := 79) (pc' := 262) at_259 (hw _ (List.mem_of_getElem? (i := 49) rfl)) (hw _ (List.mem_of_getElem? (i := 50) rfl)) (hw _ (List.mem_of_getElem? (i := 51) rfl)) (hw _ (List.mem_of_getElem? (i := 52) rfl)) (rm10 l Z a0 hw n0 [] (r1942) ((7 : Int32)) ((3 : Int32)) (b0) (b1) (b2) (v) (u1947) (u1948) ((own_lb v (32 : Int32))) h1945 A2089.size f1949 (by refine ⟨by decide, by decide, ?_⟩; omega) (by intro _; exact ct1957)) rfl rfl pd_6 rfl rfl (by decide) (by decide) (Nat.le_of_ble_eq_true rfl) (by decide) (by decide) rfl rfl rfl)
                      have lk7 : (7 : Int32).toInt = 7 := rfl
                      have x7 : ((own_lb v (32 : Int32))).toInt = (own_ex (7 : Int32) (3 : Int32) b0 b1 b2 v).toInt := rfl
                      by_cases c2094 : r2091.toInt = 0
                      · have A2095 := A2090.ifYes (pc' := 323) at_262 (teq (ieq (x := r2091) (y := (0 : Int32)) rfl rfl c2094)).1 (by decide) (by decide)
                        have A2096 := A2095.iconst (z := (0 : Int32)) (pc' := 324) at_323 rfl rfl
                        refine A2096.retN (t := .boolean) (z' := (0 : Int32)) at_324 (by decide) (by decide) (by simp) rfl ⟨_, rfl, ⟨trivial, ?_⟩⟩
                        have elit : (0 : Int32).toInt = 0 := rfl
                        exfalso
                        omega
                      · have A2097 := A2090.ifNo (pc' := 265) at_262 (feq (ine (x := r2091) (y := (0 : Int32)) rfl rfl c2094)).1 rfl
                        have A2098 := A2097.aload (v := (.ref r1942)) (pc' := 267) at_265 rfl rfl rfl
                        have A2099 := A2098.bipush (z := (8 : Int32)) (pc' := 269) at_267 rfl rfl
                        have A2100 := A2099.iload (v := (3 : Int32)) (pc' := 271) at_269 rfl rfl
                        have A2101 := A2100.iloadN (v := b0) (pc' := 272) at_271 rfl rfl
                        have A2102 := A2101.iloadN (v := b1) (pc' := 273) at_272 rfl rfl
                        have A2103 := A2102.iload (v := b2) (pc' := 275) at_273 rfl rfl
                        have A2104 := A2103.lload (v := v) (pc' := 277) at_275 rfl rfl
                        obtain ⟨r2106, _, ⟨rfl, q2107⟩, A2105⟩ := W.kI (A2104.callS (argsL := [(.ref r1942), (.int (8 : Int32)), (.int (3 : Int32)), (.int b0), (.int b1), (.int b2), (.long v)]) (rest := []) (C' := 7) (S' := 79) (pc' := 280) at_277 (hw _ (List.mem_of_getElem? (i := 49) rfl)) (hw _ (List.mem_of_getElem? (i := 50) rfl)) (hw _ (List.mem_of_getElem? (i := 51) rfl)) (hw _ (List.mem_of_getElem? (i := 52) rfl)) (rm10 l Z a0 hw n0 [] (r1942) ((8 : Int32)) ((3 : Int32)) (b0) (b1) (b2) (v) (u1947) (u1948) ((own_lb v (40 : Int32))) h1945 A2104.size f1949 (by refine ⟨by decide, by decide, ?_⟩; omega) (by intro _; exact ct1958)) rfl rfl pd_6 rfl rfl (by decide) (by decide) (Nat.le_of_ble_eq_true rfl) (by decide) (by decide) rfl rfl rfl)
                        have lk8 : (8 : Int32).toInt = 8 := rfl
                        have x8 : ((own_lb v (40 : Int32))).toInt = (own_ex (8 : Int32) (3 : Int32) b0 b1 b2 v).toInt := rfl
                        by_cases c2109 : r2106.toInt = 0
                        · have A2110 := A2105.ifYes (pc' := 323) at_280 (teq (ieq (x := r2106) (y := (0 : Int32)) rfl rfl c2109)).1 (by decide) (by decide)
                          have A2111 := A2110.iconst (z := (0 : Int32)) (pc' := 324) at_323 rfl rfl
                          refine A2111.retN (t := .boolean) (z' := (0 : Int32)) at_324 (by decide) (by decide) (by simp) rfl ⟨_, rfl, ⟨trivial, ?_⟩⟩
                          have elit : (0 : Int32).toInt = 0 := rfl
                          exfalso
                          omega
                        · have A2112 := A2105.ifNo (pc' := 283) at_280 (feq (ine (x := r2106) (y := (0 : Int32)) rfl rfl c2109)).1 rfl
                          have A2113 := A2112.aload (v := (.ref r1942)) (pc' := 285) at_283 rfl rfl rfl
                          have A2114 := A2113.bipush (z := (9 : Int32)) (pc' := 287) at_285 rfl rfl
                          have A2115 := A2114.iload (v := (3 : Int32)) (pc' := 289) at_287 rfl rfl
                          have A2116 := A2115.iloadN (v := b0) (pc' := 290) at_289 rfl rfl
                          have A2117 := A2116.iloadN (v := b1) (pc' := 291) at_290 rfl rfl
                          have A2118 := A2117.iload (v := b2) (pc' := 293) at_291 rfl rfl
                          have A2119 := A2118.lload (v := v) (pc' := 295) at_293 rfl rfl
                          obtain ⟨r2121, _, ⟨rfl, q2122⟩, A2120⟩ := W.kI (A2119.callS (argsL := [(.ref r1942), (.int (9 : Int32)), (.int (3 : Int32)), (.int b0), (.int b1), (.int b2), (.long v)]) (rest := []) (C' := 7) (S' := 79) (pc' := 298) at_295 (hw _ (List.mem_of_getElem? (i := 49) rfl)) (hw _ (List.mem_of_getElem? (i := 50) rfl)) (hw _ (List.mem_of_getElem? (i := 51) rfl)) (hw _ (List.mem_of_getElem? (i := 52) rfl)) (rm10 l Z a0 hw n0 [] (r1942) ((9 : Int32)) ((3 : Int32)) (b0) (b1) (b2) (v) (u1947) (u1948) ((own_lb v (48 : Int32))) h1945 A2119.size f1949 (by refine ⟨by decide, by decide, ?_⟩; omega) (by intro _; exact ct1959)) rfl rfl pd_6 rfl rfl (by decide) (by decide) (Nat.le_of_ble_eq_true rfl) (by decide) (by decide) rfl rfl rfl)
                          have lk9 : (9 : Int32).toInt = 9 := rfl
                          have x9 : ((own_lb v (48 : Int32))).toInt = (own_ex (9 : Int32) (3 : Int32) b0 b1 b2 v).toInt := rfl
                          by_cases c2124 : r2121.toInt = 0
                          · have A2125 := A2120.ifYes (pc' := 323) at_298 (teq (ieq (x := r2121) (y := (0 : Int32)) rfl rfl c2124)).1 (by decide) (by decide)
                            have A2126 := A2125.iconst (z := (0 : Int32)) (pc' := 324) at_323 rfl rfl
                            refine A2126.retN (t := .boolean) (z' := (0 : Int32)) at_324 (by decide) (by decide) (by simp) rfl ⟨_, rfl, ⟨trivial, ?_⟩⟩
                            have elit : (0 : Int32).toInt = 0 := rfl
                            exfalso
                            omega
                          · have A2127 := A2120.ifNo (pc' := 301) at_298 (feq (ine (x := r2121) (y := (0 : Int32)) rfl rfl c2124)).1 rfl
                            have A2128 := A2127.aload (v := (.ref r1942)) (pc' := 303) at_301 rfl rfl rfl
                            have A2129 := A2128.bipush (z := (10 : Int32)) (pc' := 305) at_303 rfl rfl
                            have A2130 := A2129.iload (v := (3 : Int32)) (pc' := 307) at_305 rfl rfl
                            have A2131 := A2130.iloadN (v := b0) (pc' := 308) at_307 rfl rfl
                            have A2132 := A2131.iloadN (v := b1) (pc' := 309) at_308 rfl rfl
                            have A2133 := A2132.iload (v := b2) (pc' := 311) at_309 rfl rfl
                            have A2134 := A2133.lload (v := v) (pc' := 313) at_311 rfl rfl
                            obtain ⟨r2136, _, ⟨rfl, q2137⟩, A2135⟩ := W.kI (A2134.callS (argsL := [(.ref r1942), (.int (10 : Int32)), (.int (3 : Int32)), (.int b0), (.int b1), (.int b2), (.long v)]) (rest := []) (C' := 7) (S' := 79) (pc' := 316) at_313 (hw _ (List.mem_of_getElem? (i := 49) rfl)) (hw _ (List.mem_of_getElem? (i := 50) rfl)) (hw _ (List.mem_of_getElem? (i := 51) rfl)) (hw _ (List.mem_of_getElem? (i := 52) rfl)) (rm10 l Z a0 hw n0 [] (r1942) ((10 : Int32)) ((3 : Int32)) (b0) (b1) (b2) (v) (u1947) (u1948) ((own_lb v (56 : Int32))) h1945 A2134.size f1949 (by refine ⟨by decide, by decide, ?_⟩; omega) (by intro _; exact ct1960)) rfl rfl pd_6 rfl rfl (by decide) (by decide) (Nat.le_of_ble_eq_true rfl) (by decide) (by decide) rfl rfl rfl)
                            have lk10 : (10 : Int32).toInt = 10 := rfl
                            have x10 : ((own_lb v (56 : Int32))).toInt = (own_ex (10 : Int32) (3 : Int32) b0 b1 b2 v).toInt := rfl
                            by_cases c2139 : r2136.toInt = 0
                            · have A2140 := A2135.ifYes (pc' := 323) at_316 (teq (ieq (x := r2136) (y := (0 : Int32)) rfl rfl c2139)).1 (by decide) (by decide)
                              have A2141 := A2140.iconst (z := (0 : Int32)) (pc' := 324) at_323 rfl rfl
                              refine A2141.retN (t := .boolean) (z' := (0 : Int32)) at_324 (by decide) (by decide) (by simp) rfl ⟨_, rfl, ⟨trivial, ?_⟩⟩
                              have elit : (0 : Int32).toInt = 0 := rfl
                              exfalso
                              omega
                            · have A2142 := A2135.ifNo (pc' := 319) at_316 (feq (ine (x := r2136) (y := (0 : Int32)) rfl rfl c2139)).1 rfl
                              have A2143 := A2142.iconst (z := (1 : Int32)) (pc' := 320) at_319 rfl rfl
                              have A2144 := A2143.goto (pc' := 324) at_320 (by decide) (by decide)
                              refine A2144.retN (t := .boolean) (z' := (1 : Int32)) at_324 (by decide) (by decide) (by simp) rfl ⟨_, rfl, ⟨trivial, ?_⟩⟩
                              have elit : (1 : Int32).toInt = 1 := rfl
                              rfl
      · have A2145 := A1975.icmpNo (pc' := 125) at_122 (feq (ine (x := (Int32.ofNat u1947)) (y := (11 : Int32)) rfl rfl c1976)).1 rfl
        have A2146 := A2145.iconst (z := (0 : Int32)) (pc' := 126) at_125 rfl rfl
        refine A2146.retN (t := .boolean) (z' := (0 : Int32)) at_126 (by decide) (by decide) (by simp) rfl ⟨_, rfl, ⟨trivial, ?_⟩⟩
        have elit : (0 : Int32).toInt = 0 := rfl
        exfalso
        omega
set_option maxRecDepth 65536 in
set_option maxHeartbeats 40000000 in
theorem comes_1 {Post : Tables → Env → Array Value → State → Outcome → State → Prop} (hpost : ∀ tb e args s v u, (limb_1_1.after args s (.returned v) u = true ∧ limb_1_2.after args s (.returned v) u = true ∧ True) → FrameEnd s (.returned v) u (Jvm.fieldLocs frame_1_writes args s ++ Jvm.arrayLocs frame_1_arrays args s ++ Jvm.staticLocs frame_1_statics s) 24 192 → Post tb e args s (.returned v) u) :
    ArmFor flags0 classFile x code maxLocals ret World_1 tables_1 room_1 Calls_1 rest_1 Pre_1 Post := by
  intro l hfl _ _ p e ha hc hk s m args below hf hA hF happ hP
  obtain ⟨hcalls, hrest, hpre⟩ := hP
  obtain ⟨-, -, -, hnamed, -, -, -, hat⟩ := (Spec.applies_iff hf).mp happ
  obtain ⟨hg, hn⟩ := and_e (Cond.before_iff.mp (show (Jvm.Cond.and given_1 narrow_1).before args s = true from hpre))
  obtain ⟨g1a, g1b⟩ := and_e hg
  obtain ⟨g2a, g2b⟩ := and_e g1b
  obtain ⟨g3a, g3b⟩ := and_e g2b
  obtain ⟨g4a, g4b⟩ := and_e g3b
  obtain ⟨g5a, g5b⟩ := and_e g4b
  obtain ⟨g6a, g6b⟩ := and_e g5b
  obtain ⟨w0, w1, w2, w3, w4, w5, rfl⟩ : ∃ w0 w1 w2 w3 w4 w5 : Value, args = #[w0, w1, w2, w3, w4, w5] := by
    have hs : args.size = 6 := by simpa [Cond.value, given_1] using g1a
    obtain ⟨L⟩ := args
    match L, hs with
    | [w0, w1, w2, w3, w4, w5], _ => exact ⟨w0, w1, w2, w3, w4, w5, rfl⟩
  have hw := fun d (hd : d ∈ tables_1) => atoms_spec (ws := Jvm.Cond.code x code maxLocals ret :: tables_1) hat d (List.mem_cons_of_mem _ hd)
  obtain ⟨i0, ei0⟩ := is_v g2a
  obtain rfl : w0 = (.int i0) := Option.some.inj ei0
  obtain ⟨i1, ei1⟩ := is_v g3a
  obtain rfl : w1 = (.int i1) := Option.some.inj ei1
  obtain ⟨i2, ei2⟩ := is_v g4a
  obtain rfl : w2 = (.int i2) := Option.some.inj ei2
  obtain ⟨i3, ei3⟩ := is_v g5a
  obtain rfl : w3 = (.int i3) := Option.some.inj ei3
  obtain ⟨i4, ei4⟩ := is_v g6a
  obtain rfl : w4 = (.int i4) := Option.some.inj ei4
  obtain ⟨i5, ei5⟩ := isL_v g6b
  obtain rfl : w5 = (.long i5) := Option.some.inj ei5
  obtain ⟨n, o, h1, h2, h3, _, L, rfl, ⟨N, ⟨r, rfl, hr⟩⟩, hq⟩ := rm0 l s _ hw s.heap.size tables_1 i0 i1 i2 i3 i4 i5  s.heap (Nat.le_refl _)  p e ha hc hk s m _ below hf ((Spec.applies_iff_loose hf).mp happ).1 ⟨rfl, State.Warmed39.refl s, rfl⟩ trivial
  have hr1 : r = 1 := hr.2
  subst hr1
  refine ⟨n, _, h1, h2, h3, hpost _ _ _ _ _ _ ⟨Cond.after_iff.mpr rfl, Cond.after_iff.mpr (eq_i res_at (Term.int_eval (1)) rfl), trivial⟩ ⟨hq.1, hq.2.1, (hq.2.2.sift fun y hy => Or.inr (N y hy)).mono (by decide) (by decide)⟩⟩
theorem main_1_1 : Claimed_1_1 := comes_1 fun _ _ _ _ _ _ h hF => ⟨h.1, hF⟩
theorem main_1_2 : Claimed_1_2 := comes_1 fun _ _ _ _ _ _ h hF => ⟨h.2.1, hF⟩
end Jvm.Pilot.@@N@@
namespace Jvm.Pilot.@@N@@
open Jvm Jvm.ClassFile Sem Op Lib Jvm.Free Jvm.Stand Jvm.Pilot.@@N@@.Jvm.D
/-! MADE BY PROGRAM (witnessworld.py) out of the Statement's table words and the real class files: 12 classes; the members and pool entries that the words name. The judged class is class 1, her method 1. -/
namespace start1
open Jvm.ClassFile
def u (s : String) : CpInfo := .utf8 (stringToUtf16 s)
/-- a pool by its gaps: so many unusable entries, then the entry; so many at the end -/
def gap : Nat → List CpInfo → List CpInfo
  | 0, r => r
  | n + 1, r => .unusable :: gap n r
def poolList (es : List (Nat × CpInfo)) (last : Nat) : List CpInfo := es.foldr (fun e r => gap e.1 (e.2 :: r)) (gap last [])
def pool (es : List (Nat × CpInfo)) (last : Nat) : Array CpInfo := ⟨poolList es last⟩
def fileOf (pool : Array CpInfo) (this : Nat) (attrs : Array Attribute := #[]) (ms : Array MethodInfo := #[]) (fl : Nat := 33) (sup : Nat := 0) (ifs : Array Nat := #[]) (fds : Array FieldInfo := #[]) : ClassFile where
  minorVersion := 0
  majorVersion := 65
  constantPool := pool
  accessFlags := fl
  thisClass := this
  superClass := sup
  interfaces := ifs
  fields := fds
  methods := ms
  attributes := attrs
def plain (name : String) (sup : Option ClassId) : Class where
  name := name
  kind := .ordinary
  loader := none
  accessFlags := 33
  super := sup
  interfaces := #[]
  cf := none
  fields := #[]
  methods := #[]
  instanceTypes := #[]
  staticTypes := #[]
  resolved := #[]
  callSites := []
  init := .initialized
  statics := none
  mirror := none

def pool0 : Array CpInfo := pool [(5, u "<init>"), (0, u "()V"), (1, .class_ 10), (1, u "java/lang/Object")] 113

def k0c0 : Code := { maxStack := 0, maxLocals := 1, code := object_method_1_code, exceptionTable := #[], attributes := #[] }
def k0m0 : Method := { name := "<init>", desc := "()V", sig := { parameters := [], returnType := none }, accessFlags := 1, code := some k0c0 }
/-- java/lang/Object -/
def k0 : Class := { plain "java/lang/Object" none with
  accessFlags := 33
  interfaces := #[]
  cf := some (fileOf pool0 8 #[] #[{ accessFlags := 1, nameIndex := 5, descriptorIndex := 6, attributes := #[] }] 33 0 #[] #[])
  fields := #[]
  methods := #[k0m0]
  instanceTypes := #[]
  staticTypes := #[]
  resolved := Array.replicate 124 none
  statics := none }

def pool1 : Array CpInfo := pool [(2, .class_ 4), (1, u "java/lang/Object"), (0, u "<init>"), (0, u "()V"), (0, .class_ 8), (0, u "com/example/riddle0/riddle0/ByteSink"), (0, .methodref 7 10), (0, .nameAndType 5 11), (0, u "(I)V"), (0, .methodref 7 13), (0, .nameAndType 14 15), (0, u "putByte"), (0, u "(I)Lcom/example/riddle0/riddle0/ByteSink;"), (0, .methodref 7 17), (0, .nameAndType 18 19), (0, u "putLong"), (0, u "(J)Lcom/example/riddle0/riddle0/ByteSink;"), (0, .methodref 7 21), (0, .nameAndType 22 23), (0, u "toByteArray"), (0, u "()[B"), (0, .methodref 25 26), (0, .class_ 27), (0, .nameAndType 28 29), (0, u "com/example/riddle0/riddle0/ByteSinkToByteArrayPinLaw"), (0, u "ok"), (0, u "([BIIIIIJ)Z"), (0, .methodref 25 31), (0, .nameAndType 32 33), (0, u "expected"), (0, u "(IIIIIJ)B"), (2, u "law"), (0, u "(IIIIIJ)Z")] 5

def k1m0 : Method := { name := "<init>", desc := "()V", sig := { parameters := [], returnType := none }, accessFlags := 1, code := none }
def k1c1 : Code := { maxStack := 8, maxLocals := 13, code := code, exceptionTable := #[], attributes := #[] }
def k1m1 : Method := { name := "law", desc := "(IIIIIJ)Z", sig := { parameters := [.int, .int, .int, .int, .int, .long], returnType := some .boolean }, accessFlags := 9, code := some k1c1 }
def k1c2 : Code := { maxStack := 4, maxLocals := 8, code := method_3_code, exceptionTable := #[], attributes := #[] }
def k1m2 : Method := { name := "expected", desc := "(IIIIIJ)B", sig := { parameters := [.int, .int, .int, .int, .int, .long], returnType := some .byte }, accessFlags := 10, code := some k1c2 }
def k1c3 : Code := { maxStack := 8, maxLocals := 8, code := method_4_code, exceptionTable := #[], attributes := #[] }
def k1m3 : Method := { name := "ok", desc := "([BIIIIIJ)Z", sig := { parameters := [(.array .byte), .int, .int, .int, .int, .int, .long], returnType := some .boolean }, accessFlags := 10, code := some k1c3 }
/-- com/example/riddle0/riddle0/ByteSinkToByteArrayPinLaw -/
def k1 : Class := { plain "com/example/riddle0/riddle0/ByteSinkToByteArrayPinLaw" (some 0) with
  accessFlags := 49
  interfaces := #[]
  cf := some (fileOf pool1 25 #[] #[{ accessFlags := 1, nameIndex := 5, descriptorIndex := 6, attributes := #[] }, { accessFlags := 9, nameIndex := 36, descriptorIndex := 37, attributes := #[] }, { accessFlags := 10, nameIndex := 32, descriptorIndex := 33, attributes := #[] }, { accessFlags := 10, nameIndex := 28, descriptorIndex := 29, attributes := #[] }] 49 2 #[] #[])
  fields := #[]
  methods := #[k1m0, k1m1, k1m2, k1m3]
  instanceTypes := #[]
  staticTypes := #[]
  resolved := Array.replicate 43 none
  statics := none }

def pool2 : Array CpInfo := pool [(3, .methodref 4 5), (0, .class_ 6), (0, .nameAndType 7 8), (0, u "java/lang/Object"), (0, u "<init>"), (0, u "()V"), (0, .fieldref 10 11), (0, .class_ 12), (0, .nameAndType 13 14), (0, u "com/example/riddle0/riddle0/ByteSink"), (0, u "bytes"), (0, u "[B"), (0, .methodref 10 16), (0, .nameAndType 17 18), (0, u "reserve"), (0, u "(I)V"), (0, .fieldref 10 20), (0, .nameAndType 21 22), (0, u "size"), (0, u "I"), (24, .methodref 48 49), (0, .class_ 50), (0, .nameAndType 51 52), (0, u "java/util/Arrays"), (0, u "copyOf"), (0, u "([BI)[B"), (0, .integer 2147483639), (7, .long 2), (1, .methodref 64 65), (0, .class_ 66), (0, .nameAndType 67 68), (0, u "java/lang/Math"), (0, u "max"), (0, u "(JJ)J"), (0, .long 2147483639), (1, .methodref 64 72), (0, .nameAndType 73 68), (0, u "min"), (0, u "MAX_SIZE"), (3, u "putByte"), (0, u "(I)Lcom/example/riddle0/riddle0/ByteSink;"), (2, u "putLong"), (0, u "(J)Lcom/example/riddle0/riddle0/ByteSink;"), (1, u "toByteArray"), (0, u "()[B")] 3

def k2c0 : Code := { maxStack := 2, maxLocals := 2, code := prog_2_method_1_code, exceptionTable := #[], attributes := #[] }
def k2m0 : Method := { name := "<init>", desc := "(I)V", sig := { parameters := [.int], returnType := none }, accessFlags := 0, code := some k2c0 }
def k2c1 : Code := { maxStack := 5, maxLocals := 2, code := prog_2_method_2_code, exceptionTable := #[], attributes := #[] }
def k2m1 : Method := { name := "putByte", desc := "(I)Lcom/example/riddle0/riddle0/ByteSink;", sig := { parameters := [.int], returnType := some (.object "com/example/riddle0/riddle0/ByteSink") }, accessFlags := 1, code := some k2c1 }
def k2c2 : Code := { maxStack := 6, maxLocals := 4, code := prog_2_method_5_code, exceptionTable := #[], attributes := #[] }
def k2m2 : Method := { name := "putLong", desc := "(J)Lcom/example/riddle0/riddle0/ByteSink;", sig := { parameters := [.long], returnType := some (.object "com/example/riddle0/riddle0/ByteSink") }, accessFlags := 1, code := some k2c2 }
def k2c3 : Code := { maxStack := 2, maxLocals := 1, code := prog_2_method_6_code, exceptionTable := #[], attributes := #[] }
def k2m3 : Method := { name := "toByteArray", desc := "()[B", sig := { parameters := [], returnType := some (.array .byte) }, accessFlags := 0, code := some k2c3 }
def k2c4 : Code := { maxStack := 6, maxLocals := 2, code := prog_2_method_7_code, exceptionTable := #[], attributes := #[] }
def k2m4 : Method := { name := "reserve", desc := "(I)V", sig := { parameters := [.int], returnType := none }, accessFlags := 2, code := some k2c4 }
/-- com/example/riddle0/riddle0/ByteSink -/
def k2 : Class := { plain "com/example/riddle0/riddle0/ByteSink" (some 0) with
  accessFlags := 49
  interfaces := #[]
  cf := some (fileOf pool2 10 #[] #[{ accessFlags := 0, nameIndex := 7, descriptorIndex := 18, attributes := #[] }, { accessFlags := 1, nameIndex := 78, descriptorIndex := 79, attributes := #[] }, { accessFlags := 1, nameIndex := 82, descriptorIndex := 83, attributes := #[] }, { accessFlags := 0, nameIndex := 85, descriptorIndex := 86, attributes := #[] }, { accessFlags := 2, nameIndex := 17, descriptorIndex := 18, attributes := #[] }] 49 4 #[] #[{ accessFlags := 26, nameIndex := 74, descriptorIndex := 22, attributes := #[] }, { accessFlags := 2, nameIndex := 13, descriptorIndex := 14, attributes := #[] }, { accessFlags := 2, nameIndex := 21, descriptorIndex := 22, attributes := #[] }])
  fields := #[{ name := "MAX_SIZE", type := .int, accessFlags := 26, slot := 0, constantValue := 0 }, { name := "bytes", type := (.array .byte), accessFlags := 2, slot := 0, constantValue := 0 }, { name := "size", type := .int, accessFlags := 2, slot := 1, constantValue := 0 }]
  methods := #[k2m0, k2m1, k2m2, k2m3, k2m4]
  instanceTypes := #[(.array .byte), .int]
  staticTypes := #[.int]
  resolved := Array.replicate 90 none
  statics := none }

def pool3 : Array CpInfo := pool [(1, .class_ 2), (0, u "java/lang/Math"), (1, .class_ 6), (1, u "java/lang/Object"), (0, u "<init>"), (0, u "()V"), (89, .class_ 100), (1, u "java/lang/Math$RandomNumberGeneratorHolder"), (20, u "(JJ)J"), (50, u "negativeZeroFloatBits"), (0, u "J"), (2, u "negativeZeroDoubleBits"), (21, u "max"), (2, u "min"), (43, u "$assertionsDisabled"), (0, u "Z"), (88, u "(II)I"), (2, u "twoToTheDoubleScaleDown"), (0, u "D"), (4, u "twoToTheDoubleScaleUp"), (9, u "E"), (3, u "PI"), (2, u "TAU"), (2, u "DEGREES_TO_RADIANS"), (0, u "RADIANS_TO_DEGREES")] 94

def k3m0 : Method := { name := "<init>", desc := "()V", sig := { parameters := [], returnType := none }, accessFlags := 2, code := none }
def k3c1 : Code := { maxStack := 4, maxLocals := 4, code := jdk_29_method_66_code, exceptionTable := #[], attributes := #[] }
def k3m1 : Method := { name := "max", desc := "(JJ)J", sig := { parameters := [.long, .long], returnType := some .long }, accessFlags := 9, code := some k3c1 }
def k3c2 : Code := { maxStack := 2, maxLocals := 2, code := jdk_29_method_69_code, exceptionTable := #[], attributes := #[] }
def k3m2 : Method := { name := "min", desc := "(II)I", sig := { parameters := [.int, .int], returnType := some .int }, accessFlags := 9, code := some k3c2 }
def k3c3 : Code := { maxStack := 4, maxLocals := 4, code := jdk_29_method_70_code, exceptionTable := #[], attributes := #[] }
def k3m3 : Method := { name := "min", desc := "(JJ)J", sig := { parameters := [.long, .long], returnType := some .long }, accessFlags := 9, code := some k3c3 }
/-- java/lang/Math -/
def k3 : Class := { plain "java/lang/Math" (some 0) with
  accessFlags := 49
  interfaces := #[]
  cf := some (fileOf pool3 1 #[.nestMembers #[98]] #[{ accessFlags := 2, nameIndex := 7, descriptorIndex := 8, attributes := #[] }, { accessFlags := 9, nameIndex := 198, descriptorIndex := 121, attributes := #[] }, { accessFlags := 9, nameIndex := 201, descriptorIndex := 335, attributes := #[] }, { accessFlags := 9, nameIndex := 201, descriptorIndex := 121, attributes := #[] }] 49 4 #[] #[{ accessFlags := 25, nameIndex := 354, descriptorIndex := 339, attributes := #[] }, { accessFlags := 25, nameIndex := 358, descriptorIndex := 339, attributes := #[] }, { accessFlags := 25, nameIndex := 361, descriptorIndex := 339, attributes := #[] }, { accessFlags := 26, nameIndex := 364, descriptorIndex := 339, attributes := #[] }, { accessFlags := 26, nameIndex := 365, descriptorIndex := 339, attributes := #[] }, { accessFlags := 26, nameIndex := 172, descriptorIndex := 173, attributes := #[] }, { accessFlags := 26, nameIndex := 176, descriptorIndex := 173, attributes := #[] }, { accessFlags := 8, nameIndex := 344, descriptorIndex := 339, attributes := #[] }, { accessFlags := 8, nameIndex := 338, descriptorIndex := 339, attributes := #[] }, { accessFlags := 4120, nameIndex := 245, descriptorIndex := 246, attributes := #[] }])
  fields := #[{ name := "E", type := .double, accessFlags := 25, slot := 0, constantValue := 0 }, { name := "PI", type := .double, accessFlags := 25, slot := 1, constantValue := 0 }, { name := "TAU", type := .double, accessFlags := 25, slot := 2, constantValue := 0 }, { name := "DEGREES_TO_RADIANS", type := .double, accessFlags := 26, slot := 3, constantValue := 0 }, { name := "RADIANS_TO_DEGREES", type := .double, accessFlags := 26, slot := 4, constantValue := 0 }, { name := "negativeZeroFloatBits", type := .long, accessFlags := 26, slot := 5, constantValue := 0 }, { name := "negativeZeroDoubleBits", type := .long, accessFlags := 26, slot := 6, constantValue := 0 }, { name := "twoToTheDoubleScaleUp", type := .double, accessFlags := 8, slot := 7, constantValue := 0 }, { name := "twoToTheDoubleScaleDown", type := .double, accessFlags := 8, slot := 8, constantValue := 0 }, { name := "$assertionsDisabled", type := .boolean, accessFlags := 4120, slot := 9, constantValue := 0 }]
  methods := #[k3m0, k3m1, k3m2, k3m3]
  instanceTypes := #[]
  staticTypes := #[.double, .double, .double, .double, .double, .long, .long, .double, .double, .boolean]
  resolved := Array.replicate 460 none
  statics := none }

def pool4 : Array CpInfo := pool [(2, .class_ 4), (1, u "java/lang/Object"), (0, u "<init>"), (0, u "()V"), (7, .class_ 16), (1, u "java/util/Arrays"), (57, .class_ 76), (1, u "java/util/Arrays$NaturalOrder"), (36, .class_ 115), (1, u "java/util/Arrays$LegacyMergeSort"), (1, u "Z"), (32, .methodref 151 152), (0, .class_ 153), (0, .nameAndType 154 155), (0, u "java/lang/System"), (0, u "arraycopy"), (0, u "(Ljava/lang/Object;ILjava/lang/Object;II)V"), (146, u "copyOf"), (1, .methodref 305 306), (0, .class_ 307), (0, .nameAndType 308 309), (0, u "java/lang/Math"), (0, u "min"), (0, u "(II)I"), (65, .class_ 376), (0, u "java/util/Arrays$ArrayList"), (68, u "$assertionsDisabled"), (269, u "MIN_ARRAY_SORT_GRAN"), (0, u "I"), (2, u "INSERTIONSORT_THRESHOLD"), (149, u "([BI)[B"), (105, .class_ 976), (0, u "java/util/Arrays$ArrayItr")] 52

def k4m0 : Method := { name := "<init>", desc := "()V", sig := { parameters := [], returnType := none }, accessFlags := 2, code := none }
def k4c1 : Code := { maxStack := 6, maxLocals := 3, code := jdk_65_method_121_code, exceptionTable := #[], attributes := #[] }
def k4m1 : Method := { name := "copyOf", desc := "([BI)[B", sig := { parameters := [(.array .byte), .int], returnType := some (.array .byte) }, accessFlags := 9, code := some k4c1 }
/-- java/util/Arrays -/
def k4 : Class := { plain "java/util/Arrays" (some 0) with
  accessFlags := 49
  interfaces := #[]
  cf := some (fileOf pool4 14 #[.nestMembers #[975, 375, 113, 74]] #[{ accessFlags := 2, nameIndex := 5, descriptorIndex := 6, attributes := #[] }, { accessFlags := 9, nameIndex := 302, descriptorIndex := 869, attributes := #[] }] 49 2 #[] #[{ accessFlags := 26, nameIndex := 715, descriptorIndex := 716, attributes := #[] }, { accessFlags := 26, nameIndex := 719, descriptorIndex := 716, attributes := #[] }, { accessFlags := 4120, nameIndex := 445, descriptorIndex := 117, attributes := #[] }])
  fields := #[{ name := "MIN_ARRAY_SORT_GRAN", type := .int, accessFlags := 26, slot := 0, constantValue := 0 }, { name := "INSERTIONSORT_THRESHOLD", type := .int, accessFlags := 26, slot := 1, constantValue := 0 }, { name := "$assertionsDisabled", type := .boolean, accessFlags := 4120, slot := 2, constantValue := 0 }]
  methods := #[k4m0, k4m1]
  instanceTypes := #[]
  staticTypes := #[.int, .int, .boolean]
  resolved := Array.replicate 1029 none
  statics := none }

def pool5 : Array CpInfo := pool [(2, .class_ 4), (1, u "java/lang/Object"), (0, u "<init>"), (0, u "()V"), (1, .class_ 10), (1, u "java/lang/System"), (0, u "allowSecurityManager"), (0, u "I"), (16, u "cons"), (0, u "Ljava/io/Console;"), (77, .class_ 110), (1, u "java/lang/System$CallersHolder"), (43, u "initialErrStream"), (0, u "Ljava/io/PrintStream;"), (19, u "security"), (0, u "Ljava/lang/SecurityManager;"), (31, .class_ 209), (0, u "java/lang/System$1"), (7, u "props"), (0, u "Ljava/util/Properties;"), (2, u "lineSeparator"), (0, u "Ljava/lang/String;"), (96, .class_ 321), (1, u "java/lang/System$LoggerFinder"), (5, .class_ 328), (0, u "java/lang/System$Logger"), (67, u "err"), (2, u "out"), (91, u "notSupportedJnuEncoding"), (15, u "in"), (17, u "initialIn"), (0, u "Ljava/io/InputStream;"), (35, u "bootLayer"), (0, u "Ljava/lang/ModuleLayer;"), (99, .class_ 664), (0, u "java/lang/System$2"), (9, u "NEVER"), (2, u "MAYBE"), (49, u "arraycopy"), (0, u "(Ljava/lang/Object;ILjava/lang/Object;II)V"), (72, .class_ 802), (0, u "java/lang/System$Logger$Level")] 31

def k5m0 : Method := { name := "<init>", desc := "()V", sig := { parameters := [], returnType := none }, accessFlags := 2, code := none }
def k5m1 : Method := { name := "arraycopy", desc := "(Ljava/lang/Object;ILjava/lang/Object;II)V", sig := { parameters := [(.object "java/lang/Object"), .int, (.object "java/lang/Object"), .int, .int], returnType := none }, accessFlags := 265, code := none }
/-- java/lang/System -/
def k5 : Class := { plain "java/lang/System" (some 0) with
  accessFlags := 49
  interfaces := #[]
  cf := some (fileOf pool5 8 #[.nestMembers #[319, 327, 801, 108, 663, 208]] #[{ accessFlags := 2, nameIndex := 5, descriptorIndex := 6, attributes := #[] }, { accessFlags := 265, nameIndex := 727, descriptorIndex := 728, attributes := #[] }] 49 2 #[] #[{ accessFlags := 25, nameIndex := 507, descriptorIndex := 526, attributes := #[] }, { accessFlags := 25, nameIndex := 399, descriptorIndex := 155, attributes := #[] }, { accessFlags := 25, nameIndex := 396, descriptorIndex := 155, attributes := #[] }, { accessFlags := 10, nameIndex := 525, descriptorIndex := 526, attributes := #[] }, { accessFlags := 26, nameIndex := 674, descriptorIndex := 12, attributes := #[] }, { accessFlags := 26, nameIndex := 677, descriptorIndex := 12, attributes := #[] }, { accessFlags := 10, nameIndex := 11, descriptorIndex := 12, attributes := #[] }, { accessFlags := 74, nameIndex := 175, descriptorIndex := 176, attributes := #[] }, { accessFlags := 10, nameIndex := 491, descriptorIndex := 222, attributes := #[] }, { accessFlags := 74, nameIndex := 29, descriptorIndex := 30, attributes := #[] }, { accessFlags := 74, nameIndex := 154, descriptorIndex := 155, attributes := #[] }, { accessFlags := 10, nameIndex := 217, descriptorIndex := 218, attributes := #[] }, { accessFlags := 10, nameIndex := 221, descriptorIndex := 222, attributes := #[] }, { accessFlags := 8, nameIndex := 562, descriptorIndex := 563, attributes := #[] }])
  fields := #[{ name := "in", type := (.object "java/io/InputStream"), accessFlags := 25, slot := 0, constantValue := 0 }, { name := "out", type := (.object "java/io/PrintStream"), accessFlags := 25, slot := 1, constantValue := 0 }, { name := "err", type := (.object "java/io/PrintStream"), accessFlags := 25, slot := 2, constantValue := 0 }, { name := "initialIn", type := (.object "java/io/InputStream"), accessFlags := 10, slot := 3, constantValue := 0 }, { name := "NEVER", type := .int, accessFlags := 26, slot := 4, constantValue := 0 }, { name := "MAYBE", type := .int, accessFlags := 26, slot := 5, constantValue := 0 }, { name := "allowSecurityManager", type := .int, accessFlags := 10, slot := 6, constantValue := 0 }, { name := "security", type := (.object "java/lang/SecurityManager"), accessFlags := 74, slot := 7, constantValue := 0 }, { name := "notSupportedJnuEncoding", type := (.object "java/lang/String"), accessFlags := 10, slot := 8, constantValue := 0 }, { name := "cons", type := (.object "java/io/Console"), accessFlags := 74, slot := 9, constantValue := 0 }, { name := "initialErrStream", type := (.object "java/io/PrintStream"), accessFlags := 74, slot := 10, constantValue := 0 }, { name := "props", type := (.object "java/util/Properties"), accessFlags := 10, slot := 11, constantValue := 0 }, { name := "lineSeparator", type := (.object "java/lang/String"), accessFlags := 10, slot := 12, constantValue := 0 }, { name := "bootLayer", type := (.object "java/lang/ModuleLayer"), accessFlags := 8, slot := 13, constantValue := 0 }]
  methods := #[k5m0, k5m1]
  instanceTypes := #[]
  staticTypes := #[(.object "java/io/InputStream"), (.object "java/io/PrintStream"), (.object "java/io/PrintStream"), (.object "java/io/InputStream"), .int, .int, .int, (.object "java/lang/SecurityManager"), (.object "java/lang/String"), (.object "java/io/Console"), (.object "java/io/PrintStream"), (.object "java/util/Properties"), (.object "java/lang/String"), (.object "java/lang/ModuleLayer")]
  resolved := Array.replicate 834 none
  statics := none }

def pool6 : Array CpInfo := pool [(1, u "java/lang/Cloneable"), (0, .class_ 1), (0, u "java/lang/Object"), (0, .class_ 3)] 3

/-- java/lang/Cloneable -/
def k6 : Class := { plain "java/lang/Cloneable" (some 0) with
  accessFlags := 1537
  interfaces := #[]
  cf := some (fileOf pool6 2 #[] #[] 1537 4 #[] #[])
  fields := #[]
  methods := #[]
  instanceTypes := #[]
  staticTypes := #[]
  resolved := Array.replicate 8 none
  statics := none }

def pool7 : Array CpInfo := pool [(1, u "java/io/Serializable"), (0, .class_ 1), (0, u "java/lang/Object"), (0, .class_ 3)] 3

/-- java/io/Serializable -/
def k7 : Class := { plain "java/io/Serializable" (some 0) with
  accessFlags := 1537
  interfaces := #[]
  cf := some (fileOf pool7 2 #[] #[] 1537 4 #[] #[])
  fields := #[]
  methods := #[]
  instanceTypes := #[]
  staticTypes := #[]
  resolved := Array.replicate 8 none
  statics := none }

/-- the primitive byte -/
def k8 : Class := { plain "byte" none with kind := .primitive 'B', accessFlags := 0x411 }
/-- [B -/
def k9 : Class := { plain "[B" (some 0) with kind := .array 8 .byte, interfaces := #[6, 7], accessFlags := 1041 }

/-- the primitive int -/
def k10 : Class := { plain "int" none with kind := .primitive 'I', accessFlags := 0x411 }
/-- [I -/
def k11 : Class := { plain "[I" (some 0) with kind := .array 10 .int, interfaces := #[6, 7], accessFlags := 1041 }

def heap : Heap := #[]
def classes : Array Class := #[k0, k1, k2, k3, k4, k5, k6, k7, k8, k9, k10, k11]
def interned : List (Array UInt16 × Addr) := []
def slotsUsed : Nat := 0
def theMethod : MethodId := ⟨1, 1⟩
def args0 : Array Value := #[.int 5, .int 5, .int 5, .int 5, .int 5, .long 5]
def aboutOver (below : List Frame) : State where
  vm := { classes := classes, interned := interned.toArray }
  heap := heap
  slotsUsed := slotsUsed
  threads := #[{ frames := .invoking theMethod args0 :: below }]
def below0 : List Frame := [.native { method := ⟨0, 0⟩, args := #[] }]
def about1 : State := aboutOver below0
def p0 : Program := .bare "" "" ""
def e0 : Env := launch0.env 0 0 0
theorem w_frames : about1.frames = Frame.invoking theMethod args0 :: below0 := rfl
set_option maxRecDepth 65536 in
theorem w_args : argsFit about1.vm theMethod args0 = true := by decide +kernel
set_option maxRecDepth 65536 in
theorem w_heap : heapFits about1 = true := by decide +kernel
set_option maxRecDepth 65536 in
theorem w_runnable : about1.curStatus? = some .runnable := by decide +kernel
set_option maxRecDepth 65536 in
theorem w_alone : about1.alone = true := by decide +kernel
set_option maxRecDepth 65536 in
theorem w_named : about1.methodNamed? x = some theMethod := by decide +kernel
set_option maxRecDepth 65536 in
theorem w_hears : about1.hears theMethod below0 = true := by decide +kernel
set_option maxRecDepth 65536 in
theorem w_ripe : about1.ripe theMethod args0 below0 = true := by decide +kernel
theorem w_running : about1.status = .running := rfl
set_option maxRecDepth 65536 in
theorem w_room : about1.hasRoom e0.platform room_1 = true :=
  launch0.hasRoom_least _ room_1 (by decide +kernel) (by decide +kernel) (by decide +kernel) (by decide +kernel) (by decide +kernel) (by decide +kernel)
theorem allAtoms_all (ts : List Jvm.Cond) (a : Array Jvm.Value) (st : Jvm.State) : (allAtoms ts).before a st = ts.all (fun c => c.before a st) := by
  induction ts with
  | nil => rfl
  | cons c t ih =>
    show (Jvm.Cond.and c (allAtoms t)).before a st = _
    rw [Jvm.Cond.before_and, ih, List.all_cons]
def words1 : List Jvm.Cond := Jvm.Cond.code x code maxLocals ret :: tables_1
/-- a 'code' word, met by the world's own term for the bytes: nothing is compared byte by byte -/
theorem code_word {y : MethodName} {bytes : ByteArray} {mx : Nat} {rt : Option FieldType} {a : Array Value} {s : State} {m : MethodId} {meth : Method} {c : Code} (h1 : s.methodNamed? y = some m) (h2 : s.vm.method? m = some meth) (h3 : meth.code = some c) (h4 : c.code = bytes)
    (h5 : (c.maxLocals == mx && c.exceptionTable.isEmpty && decide (c.maxStack ≤ mostOperands) && decide (meth.sig.returnType = rt) && !meth.locks && decide (parseMethodDescriptor y.desc = some meth.sig)) = true) : (Jvm.Cond.code y bytes mx rt).before a s = true := by
  simp only [Bool.and_eq_true, beq_iff_eq, Bool.not_eq_true', decide_eq_true_eq] at h5
  obtain ⟨⟨⟨⟨⟨g1, g2⟩, g3⟩, g4⟩, g5⟩, g6⟩ := h5
  simp [Cond.before, Cond.holds, Cond.value, h1, h2, h3, h4, g1, g2, g3, g4, g5, g6]
def isCode : Jvm.Cond → Bool
  | .code _ _ _ _ => true
  | _ => false
theorem all_split {L : List Jvm.Cond} {P : Jvm.Cond → Bool} (h1 : L.all (fun c => isCode c || P c) = true) (h2 : ∀ c ∈ L.filter isCode, P c = true) : L.all P = true := by
  refine List.all_eq_true.mpr fun c hc => ?_
  have h := List.all_eq_true.mp h1 c hc
  rcases Bool.eq_false_or_eq_true (isCode c) with hi | hi
  · exact h2 c (List.mem_filter.mpr ⟨hc, hi⟩)
  · simpa [hi] using h
set_option maxRecDepth 65536 in
theorem w_c0 : (Jvm.Cond.code x code maxLocals ret).before args0 about1 = true := code_word (m := ⟨1, 1⟩) (meth := k1m1) (c := k1c1) (by decide +kernel) rfl rfl rfl (by decide +kernel)
set_option maxRecDepth 65536 in
theorem w_c1 : (Jvm.Cond.code ({ cls := "com/example/riddle0/riddle0/ByteSink", name := "<init>", desc := "(I)V" } : Jvm.MethodName) prog_2_method_1_code (2 : Nat) (Option.none : Option Jvm.ClassFile.FieldType)).before args0 about1 = true := code_word (m := ⟨2, 0⟩) (meth := k2m0) (c := k2c0) (by decide +kernel) rfl rfl rfl (by decide +kernel)
set_option maxRecDepth 65536 in
theorem w_c2 : (Jvm.Cond.code ({ cls := "java/lang/Object", name := "<init>", desc := "()V" } : Jvm.MethodName) object_method_1_code (1 : Nat) (Option.none : Option Jvm.ClassFile.FieldType)).before args0 about1 = true := code_word (m := ⟨0, 0⟩) (meth := k0m0) (c := k0c0) (by decide +kernel) rfl rfl rfl (by decide +kernel)
set_option maxRecDepth 65536 in
theorem w_c3 : (Jvm.Cond.code ({ cls := "com/example/riddle0/riddle0/ByteSink", name := "putByte", desc := "(I)Lcom/example/riddle0/riddle0/ByteSink;" } : Jvm.MethodName) prog_2_method_2_code (2 : Nat) (Option.some (Jvm.ClassFile.FieldType.object "com/example/riddle0/riddle0/ByteSink"))).before args0 about1 = true := code_word (m := ⟨2, 1⟩) (meth := k2m1) (c := k2c1) (by decide +kernel) rfl rfl rfl (by decide +kernel)
set_option maxRecDepth 65536 in
theorem w_c4 : (Jvm.Cond.code ({ cls := "com/example/riddle0/riddle0/ByteSink", name := "reserve", desc := "(I)V" } : Jvm.MethodName) prog_2_method_7_code (2 : Nat) (Option.none : Option Jvm.ClassFile.FieldType)).before args0 about1 = true := code_word (m := ⟨2, 4⟩) (meth := k2m4) (c := k2c4) (by decide +kernel) rfl rfl rfl (by decide +kernel)
set_option maxRecDepth 65536 in
theorem w_c5 : (Jvm.Cond.code ({ cls := "java/lang/Math", name := "max", desc := "(JJ)J" } : Jvm.MethodName) jdk_29_method_66_code (4 : Nat) (Option.some Jvm.ClassFile.FieldType.long)).before args0 about1 = true := code_word (m := ⟨3, 1⟩) (meth := k3m1) (c := k3c1) (by decide +kernel) rfl rfl rfl (by decide +kernel)
set_option maxRecDepth 65536 in
theorem w_c6 : (Jvm.Cond.code ({ cls := "java/lang/Math", name := "min", desc := "(JJ)J" } : Jvm.MethodName) jdk_29_method_70_code (4 : Nat) (Option.some Jvm.ClassFile.FieldType.long)).before args0 about1 = true := code_word (m := ⟨3, 3⟩) (meth := k3m3) (c := k3c3) (by decide +kernel) rfl rfl rfl (by decide +kernel)
set_option maxRecDepth 65536 in
theorem w_c7 : (Jvm.Cond.code ({ cls := "java/util/Arrays", name := "copyOf", desc := "([BI)[B" } : Jvm.MethodName) jdk_65_method_121_code (3 : Nat) (Option.some (Jvm.ClassFile.FieldType.array Jvm.ClassFile.FieldType.byte))).before args0 about1 = true := code_word (m := ⟨4, 1⟩) (meth := k4m1) (c := k4c1) (by decide +kernel) rfl rfl rfl (by decide +kernel)
set_option maxRecDepth 65536 in
theorem w_c8 : (Jvm.Cond.code ({ cls := "java/lang/Math", name := "min", desc := "(II)I" } : Jvm.MethodName) jdk_29_method_69_code (2 : Nat) (Option.some Jvm.ClassFile.FieldType.int)).before args0 about1 = true := code_word (m := ⟨3, 2⟩) (meth := k3m2) (c := k3c2) (by decide +kernel) rfl rfl rfl (by decide +kernel)
set_option maxRecDepth 65536 in
theorem w_c9 : (Jvm.Cond.code ({ cls := "com/example/riddle0/riddle0/ByteSink", name := "toByteArray", desc := "()[B" } : Jvm.MethodName) prog_2_method_6_code (1 : Nat) (Option.some (Jvm.ClassFile.FieldType.array Jvm.ClassFile.FieldType.byte))).before args0 about1 = true := code_word (m := ⟨2, 3⟩) (meth := k2m3) (c := k2c3) (by decide +kernel) rfl rfl rfl (by decide +kernel)
set_option maxRecDepth 65536 in
theorem w_c10 : (Jvm.Cond.code ({ cls := "com/example/riddle0/riddle0/ByteSinkToByteArrayPinLaw", name := "ok", desc := "([BIIIIIJ)Z" } : Jvm.MethodName) method_4_code (8 : Nat) (Option.some Jvm.ClassFile.FieldType.boolean)).before args0 about1 = true := code_word (m := ⟨1, 3⟩) (meth := k1m3) (c := k1c3) (by decide +kernel) rfl rfl rfl (by decide +kernel)
set_option maxRecDepth 65536 in
theorem w_c11 : (Jvm.Cond.code ({ cls := "com/example/riddle0/riddle0/ByteSinkToByteArrayPinLaw", name := "expected", desc := "(IIIIIJ)B" } : Jvm.MethodName) method_3_code (8 : Nat) (Option.some Jvm.ClassFile.FieldType.byte)).before args0 about1 = true := code_word (m := ⟨1, 2⟩) (meth := k1m2) (c := k1c2) (by decide +kernel) rfl rfl rfl (by decide +kernel)
set_option maxRecDepth 65536 in
theorem w_c12 : (Jvm.Cond.code ({ cls := "com/example/riddle0/riddle0/ByteSink", name := "putLong", desc := "(J)Lcom/example/riddle0/riddle0/ByteSink;" } : Jvm.MethodName) prog_2_method_5_code (4 : Nat) (Option.some (Jvm.ClassFile.FieldType.object "com/example/riddle0/riddle0/ByteSink"))).before args0 about1 = true := code_word (m := ⟨2, 2⟩) (meth := k2m2) (c := k2c2) (by decide +kernel) rfl rfl rfl (by decide +kernel)
def codes1 : List Jvm.Cond := [Jvm.Cond.code x code maxLocals ret, Jvm.Cond.code ({ cls := "com/example/riddle0/riddle0/ByteSink", name := "<init>", desc := "(I)V" } : Jvm.MethodName) prog_2_method_1_code (2 : Nat) (Option.none : Option Jvm.ClassFile.FieldType), Jvm.Cond.code ({ cls := "java/lang/Object", name := "<init>", desc := "()V" } : Jvm.MethodName) object_method_1_code (1 : Nat) (Option.none : Option Jvm.ClassFile.FieldType), Jvm.Cond.code ({ cls := "com/example/riddle0/riddle0/ByteSink", name := "putByte", desc := "(I)Lcom/example/riddle0/riddle0/ByteSink;" } : Jvm.MethodName) prog_2_method_2_code (2 : Nat) (Option.some (Jvm.ClassFile.FieldType.object "com/example/riddle0/riddle0/ByteSink")), Jvm.Cond.code ({ cls := "com/example/riddle0/riddle0/ByteSink", name := "reserve", desc := "(I)V" } : Jvm.MethodName) prog_2_method_7_code (2 : Nat) (Option.none : Option Jvm.ClassFile.FieldType), Jvm.Cond.code ({ cls := "java/lang/Math", name := "max", desc := "(JJ)J" } : Jvm.MethodName) jdk_29_method_66_code (4 : Nat) (Option.some Jvm.ClassFile.FieldType.long), Jvm.Cond.code ({ cls := "java/lang/Math", name := "min", desc := "(JJ)J" } : Jvm.MethodName) jdk_29_method_70_code (4 : Nat) (Option.some Jvm.ClassFile.FieldType.long), Jvm.Cond.code ({ cls := "java/util/Arrays", name := "copyOf", desc := "([BI)[B" } : Jvm.MethodName) jdk_65_method_121_code (3 : Nat) (Option.some (Jvm.ClassFile.FieldType.array Jvm.ClassFile.FieldType.byte)), Jvm.Cond.code ({ cls := "java/lang/Math", name := "min", desc := "(II)I" } : Jvm.MethodName) jdk_29_method_69_code (2 : Nat) (Option.some Jvm.ClassFile.FieldType.int), Jvm.Cond.code ({ cls := "com/example/riddle0/riddle0/ByteSink", name := "toByteArray", desc := "()[B" } : Jvm.MethodName) prog_2_method_6_code (1 : Nat) (Option.some (Jvm.ClassFile.FieldType.array Jvm.ClassFile.FieldType.byte)), Jvm.Cond.code ({ cls := "com/example/riddle0/riddle0/ByteSinkToByteArrayPinLaw", name := "ok", desc := "([BIIIIIJ)Z" } : Jvm.MethodName) method_4_code (8 : Nat) (Option.some Jvm.ClassFile.FieldType.boolean), Jvm.Cond.code ({ cls := "com/example/riddle0/riddle0/ByteSinkToByteArrayPinLaw", name := "expected", desc := "(IIIIIJ)B" } : Jvm.MethodName) method_3_code (8 : Nat) (Option.some Jvm.ClassFile.FieldType.byte), Jvm.Cond.code ({ cls := "com/example/riddle0/riddle0/ByteSink", name := "putLong", desc := "(J)Lcom/example/riddle0/riddle0/ByteSink;" } : Jvm.MethodName) prog_2_method_5_code (4 : Nat) (Option.some (Jvm.ClassFile.FieldType.object "com/example/riddle0/riddle0/ByteSink"))]
set_option maxRecDepth 65536 in
theorem codes_eq : words1.filter isCode = codes1 := rfl
theorem w_codes : ∀ c ∈ words1.filter isCode, c.before args0 about1 = true := by
  rw [codes_eq]
  intro c hc
  simp only [codes1, List.mem_cons, List.not_mem_nil, or_false] at hc
  rcases hc with rfl | rfl | rfl | rfl | rfl | rfl | rfl | rfl | rfl | rfl | rfl | rfl | rfl
  · exact w_c0
  · exact w_c1
  · exact w_c2
  · exact w_c3
  · exact w_c4
  · exact w_c5
  · exact w_c6
  · exact w_c7
  · exact w_c8
  · exact w_c9
  · exact w_c10
  · exact w_c11
  · exact w_c12
set_option maxRecDepth 65536 in
theorem w_t1 : (words1.take 24).all (fun c => isCode c || c.before args0 about1) = true := by decide +kernel
set_option maxRecDepth 65536 in
theorem w_t2 : ((words1.drop 24).take 24).all (fun c => isCode c || c.before args0 about1) = true := by decide +kernel
set_option maxRecDepth 65536 in
theorem w_t3 : ((words1.drop 24).drop 24).all (fun c => isCode c || c.before args0 about1) = true := by decide +kernel
theorem w_tables : (allAtoms (Jvm.Cond.code x code maxLocals ret :: tables_1)).before args0 about1 = true := by
  rw [allAtoms_all]
  show words1.all (fun c => c.before args0 about1) = true
  refine all_split ?_ w_codes
  rw [← List.take_append_drop 24 words1, List.all_append, w_t1, ← List.take_append_drop 24 (words1.drop 24), List.all_append, w_t2, w_t3]
  rfl
set_option maxRecDepth 65536 in
theorem w_case : (Jvm.Cond.and given_1 narrow_1).before args0 about1 = true := by decide +kernel
theorem w_applies : (headSpec (Jvm.Cond.code x code maxLocals ret :: tables_1) room_1).applies x e0.platform about1 = true :=
  (Spec.applies_iff w_frames).mpr ⟨w_running, w_runnable, w_alone, w_named, w_hears, w_ripe, w_room, w_tables⟩
theorem atStart : AtStart classFile x code maxLocals ret World_1 tables_1 room_1 Calls_1 rest_1 Pre_1 launch0 p0 e0 about1 theMethod args0 below0 :=
  ⟨lists_1, trivial, launch0.admits_env _ _ _, launch0.least_env, fairChoices_fair.cas, fairChoices_fair.clock, w_frames, w_args, w_heap, w_applies, trivial, trivial, w_case⟩
end start1
theorem witness_1 : WitnessClaimed_1 := ⟨start1.p0, start1.e0, start1.about1, start1.theMethod, start1.args0, start1.below0, start1.atStart⟩
end Jvm.Pilot.@@N@@
